import JvmDerived
import JvmDerived.Pilot.@@N@@Statement
import JvmDerived.Pilot.@@N@@Code
set_option linter.unusedVariables false
set_option linter.unusedSimpArgs false

namespace Jvm.Pilot.@@N@@
open Jvm Jvm.ClassFile Sem Op Lib Jvm.Free Jvm.Stand Jvm.LawKit Jvm.RoadKit Bundle Jvm.Pilot.@@N@@.Jvm.D
/-! own layer: 'from here the run ends, and Q holds of what it leaves' (own_Dn), stepped backwards -/
def own_Dn (p : Program) (e : Env) (below : List Frame) (s : State) (Q : Option Value → Heap → List Loc → Prop) (K N : Nat) (A : State) : Prop :=
  ∃ s₂ o, Steps p.tables e below A s₂ ∧ s₂.status = .running ∧ Ended s₂ below o ∧ ∃ v L, o = .returned v ∧ Q v s₂.heap L ∧ FrameEnd s o s₂ L K N
def own_Q (r : Option Value) (n0 : Nat) (h0 : Heap) (v : Option Value) (h : Heap) (L : List Loc) : Prop := v = r ∧ Fr n0 L ∧ h = h0
def own_QL (r : Option Value) (n0 : Nat) (v : Option Value) (h : Heap) (L : List Loc) : Prop := v = r ∧ Fr n0 L
def own_Cx (p : Program) (s : State) (m : MethodId) (meth : Method) (c : Code) (Z : State) (a0 : Array Value) (bytes : ByteArray) (ml : Nat) (own nm : String) (ret : Option FieldType) : Prop :=
  p.tables.exec = Jvm.exec ∧ Z.Warmed39 s.vm ∧ (∀ d ∈ tables_1, d.before a0 Z = true) ∧ c.code = bytes ∧ c.maxLocals = ml ∧ s.vm.findClass own = some m.cls ∧ meth.sig.returnType = ret ∧ meth.locks = false ∧ meth.name = nm
theorem own_st {p : Program} {e : Env} {below : List Frame} {s : State} {Q : Option Value → Heap → List Loc → Prop} {K N : Nat} {A B : State} (k : ∀ t, Steps p.tables e below B t → Steps p.tables e below A t) (d : own_Dn p e below s Q K N B) : own_Dn p e below s Q K N A := by
  obtain ⟨s₂, o, h, r⟩ := d
  exact ⟨s₂, o, k _ h, r⟩
theorem own_tr {p : Program} {e : Env} {below : List Frame} {s : State} {Q : Option Value → Heap → List Loc → Prop} {K N : Nat} {A B : State} (k : Steps p.tables e below A B) (d : own_Dn p e below s Q K N B) : own_Dn p e below s Q K N A :=
  own_st (fun _ h => k.trans h) d
section own
variable {p : Program} {l : Launch} {e : Env} {R : Room} {s : State} {m : MethodId} {args : Array Value} {below : List Frame} {meth : Method} {c : Code} {T : State} {locs : List Loc} {cells slots : Nat} {Q : Option Value → Heap → List Loc → Prop} {K N : Nat}
theorem own_ret (X : Stand p l e R s m args below meth c T locs cells slots) (hlk : meth.locks = false) {v : Option Value} (hv : meth.sig.returnType = none → v = none) {A : State} (hK : cells ≤ K) (hN : slots ≤ N) (hq : Q v T.heap locs)
    (hst : ∀ fs, (∀ (f : JFrame) (acts : List Action), f.method = m → f.locked = none → f.entered = [] → (doReturn e (T.setTop f) acts v).1 = T.setFrames fs) → Steps p.tables e below A (T.setFrames fs)) : own_Dn p e below s Q K N A := by
  obtain ⟨fs, hr, hrun, hended, hW, hsame⟩ := X.leave (v := v) hv hlk
  exact ⟨_, _, hst fs hr, hrun, hended, _, _, rfl, hq, ⟨_, rfl⟩, hW, hsame.mono hK hN⟩
theorem own_retI (X : Stand p l e R s m args below meth c T locs cells slots) (hx : p.tables.exec = Jvm.exec) (hret : meth.sig.returnType = some .int) (hlk : meth.locks = false) {pc : Nat} {Ls : Array Slot} {z : Int32} {rest : List Value} (hd : decode c.code pc = .ok (.ireturn, 1)) (hK : cells ≤ K) (hN : slots ≤ N)
    (hq : Q (some (.int z)) T.heap locs) : own_Dn p e below s Q K N (T.setTop (mkF m pc Ls (.int z :: rest))) :=
  own_ret X hlk (fun h => by rw [hret] at h; cases h) hK hN hq (fun fs hr => retOut X hx hret rfl (Or.inl ⟨rfl, Or.inl rfl, _, rfl⟩) hd hr)
theorem own_retJ (X : Stand p l e R s m args below meth c T locs cells slots) (hx : p.tables.exec = Jvm.exec) (hret : meth.sig.returnType = some .long) (hlk : meth.locks = false) {pc : Nat} {Ls : Array Slot} {z : Int64} {rest : List Value} (hd : decode c.code pc = .ok (.lreturn, 1)) (hK : cells ≤ K) (hN : slots ≤ N)
    (hq : Q (some (.long z)) T.heap locs) : own_Dn p e below s Q K N (T.setTop (mkF m pc Ls (.long z :: rest))) :=
  own_ret X hlk (fun h => by rw [hret] at h; cases h) hK hN hq (fun fs hr => retOut X hx hret rfl (Or.inr (Or.inl ⟨rfl, rfl, _, rfl⟩)) hd hr)
theorem own_retZ (X : Stand p l e R s m args below meth c T locs cells slots) (hx : p.tables.exec = Jvm.exec) (hret : meth.sig.returnType = some .boolean) (hlk : meth.locks = false) {pc : Nat} {Ls : Array Slot} {z : Int32} {rest : List Value} (hz : z &&& 1 = z) (hd : decode c.code pc = .ok (.ireturn, 1)) (hK : cells ≤ K) (hN : slots ≤ N)
    (hq : Q (some (.int z)) T.heap locs) : own_Dn p e below s Q K N (T.setTop (mkF m pc Ls (.int z :: rest))) :=
  own_ret X hlk (fun h => by rw [hret] at h; cases h) hK hN hq (fun fs hr => retOut X hx (w := .int z) hret (show Value.int (z &&& 1) = .int z from congrArg Value.int hz) (Or.inl ⟨rfl, Or.inr (Or.inl rfl), _, rfl⟩) hd hr)
theorem own_retV (X : Stand p l e R s m args below meth c T locs cells slots) (hx : p.tables.exec = Jvm.exec) (hret : meth.sig.returnType = none) (hlk : meth.locks = false) {pc : Nat} {Ls : Array Slot} (hd : decode c.code pc = .ok (.return_, 1)) (hK : cells ≤ K) (hN : slots ≤ N)
    (hq : Q none T.heap locs) : own_Dn p e below s Q K N (T.setTop (mkF m pc Ls [])) :=
  own_ret X hlk (fun _ => rfl) hK hN hq (fun fs hr => X.returnOut hx hret hd hr)
theorem own_retA (X : Stand p l e R s m args below meth c T locs cells slots) (hx : p.tables.exec = Jvm.exec) {t : FieldType} (ht : t.isReference = true) (hret : meth.sig.returnType = some t) (hlk : meth.locks = false) {pc : Nat} {Ls : Array Slot} {w : Value} {rest : List Value} (hw : w.isRef = true) (hn : narrow t w = w) (hd : decode c.code pc = .ok (.areturn, 1)) (hK : cells ≤ K) (hN : slots ≤ N)
    (hq : Q (some w) T.heap locs) : own_Dn p e below s Q K N (T.setTop (mkF m pc Ls (w :: rest))) :=
  own_ret X hlk (fun h => by rw [hret] at h; cases h) hK hN hq (fun fs hr => retOut X hx hret hn (Or.inr (Or.inr (Or.inr (Or.inr ⟨rfl, ht, hw⟩)))) hd hr)
end own
theorem own_met {l : Launch} {Z : State} {a0 : Array Value} (hw : ∀ d ∈ tables_1, d.before a0 Z = true) {y : MethodName} {bytes : ByteArray} {ml : Nat} {ret : Option FieldType} {ws : List Jvm.Cond} {rm : Room} {as' : Array Value} {h0 : Heap} {Q : Option Value → Heap → List Loc → Prop} (hpl : plainFor y = true)
    (body : ∀ p e s m below meth c s₁, own_Cx p s m meth c Z a0 bytes ml y.cls y.name ret → Stand p l e rm s m as' below meth c s₁ [] 0 0 → s₁.heap = h0 → own_Dn p e below s Q rm.cells rm.slots (s₁.setTop (entryFrame m as' ml))) :
    MetFree l y (head1 (Jvm.Cond.code y bytes ml ret :: ws) rm) (fun a U => a = as' ∧ Z.Warmed39 U.vm ∧ U.heap = h0) (fun _ _ _ _ _ => True) (fun _ U o U' => ∃ v L, o = .returned v ∧ Q v U'.heap L ∧ FrameEnd U o U' L rm.cells rm.slots) := by
  refine MetFree.of_bodySF hpl hisR ?_
  intro p e s m args below meth c s₁ Bd hml0 hP hK
  obtain ⟨rfl, hZ, hh⟩ := hP
  exact body p e s m below meth c s₁ ⟨Bd.exec, hZ, hw, Bd.bytes, hml0, findClass_of_methodNamed Bd.named, Bd.returns, BodyLoose.notSynchronized Bd, (name_of_methodNamed Bd.named Bd.method).1⟩ (Stand.of_body Bd) (by rw [← hh, Bd.state]; rfl)
theorem own_jtlt {x y : Int64} (h : x < y) : ifCond.holds .lt (lcmpW x y) = true ∧ ifCond.holds .ge (lcmpW x y) = false ∧ ifCond.holds .gt (lcmpW y x) = true ∧ ifCond.holds .le (lcmpW y x) = false := by
  have h1 : lcmpW x y < 0 := by rw [lcW]; exact (lc_lt x y).mpr h
  have h2 : 0 < lcmpW y x := by rw [lcW]; exact (lc_gt y x).mpr h
  exact ⟨(if0 _ _).trans (tlt h1).1, (if0 _ _).trans (tlt h1).2.1, (if0 _ _).trans (tlt h2).2.2.1, (if0 _ _).trans (tlt h2).2.2.2⟩
theorem own_jflt {x y : Int64} (h : ¬ x < y) : ifCond.holds .lt (lcmpW x y) = false ∧ ifCond.holds .ge (lcmpW x y) = true ∧ ifCond.holds .gt (lcmpW y x) = false ∧ ifCond.holds .le (lcmpW y x) = true := by
  have h1 : ¬ lcmpW x y < 0 := by rw [lcW]; exact fun q => h ((lc_lt x y).mp q)
  have h2 : ¬ 0 < lcmpW y x := by rw [lcW]; exact fun q => h ((lc_gt y x).mp q)
  exact ⟨(if0 _ _).trans (flt h1).1, (if0 _ _).trans (flt h1).2.1, (if0 _ _).trans (flt h2).2.2.1, (if0 _ _).trans (flt h2).2.2.2⟩
theorem own_jteq {x y : Int64} (h : x = y) : ifCond.holds .eq (lcmpW x y) = true ∧ ifCond.holds .ne (lcmpW x y) = false := by
  have h1 : lcmpW x y = 0 := by rw [lcW]; exact (lc_eq x y).mpr h
  exact ⟨(if0 _ _).trans (teq h1).1, (if0 _ _).trans (teq h1).2⟩
theorem own_jfeq {x y : Int64} (h : ¬ x = y) : ifCond.holds .eq (lcmpW x y) = false ∧ ifCond.holds .ne (lcmpW x y) = true := by
  have h1 : ¬ lcmpW x y = 0 := by rw [lcW]; exact fun q => h ((lc_eq x y).mp q)
  exact ⟨(if0 _ _).trans (feq h1).1, (if0 _ _).trans (feq h1).2⟩
theorem own_miss (a : Int32) (ks : List Int32) (h : ∀ k ∈ ks, ¬ a = k) {ps : List (Int × Int)} (e : ps.map (·.1) = ks.map Int32.toInt) : ∀ p ∈ ps, p.1 ≠ a.toInt := by
  intro p hp q
  have h1 : p.1 ∈ ps.map (·.1) := List.mem_map.mpr ⟨p, hp, rfl⟩
  rw [e] at h1
  obtain ⟨k, hk, r⟩ := List.mem_map.mp h1
  exact h k hk (Int32.toInt_inj.mp (q.symm.trans r.symm))
theorem own_Sta_keep {Z : State} {h h' : Heap} {C n d : String} {v : Value} {a : Addr} {C' : String} (F : Sta Z h C n d v) (K : Keep h h' [a]) (E : Exa Z h a C') : Sta Z h' C n d v := by
  obtain ⟨cf, i, k, f, st, cell, h1, h2, h3, h4, h5, h6, h7⟩ := F
  obtain ⟨cl, k', e1, -, -, e4, -⟩ := E
  refine ⟨cf, i, k, f, st, cell, h1, h2, h3, h4, K.2.1 _ _ h5 (ninS (fun q => ?_) nin0), h6, h7⟩
  subst q
  cases h5.symm.trans e1
  rw [h6] at e4; cases e4
theorem own_Sta_keep0 {Z : State} {h h' : Heap} {C n d : String} {v : Value} (F : Sta Z h C n d v) (K : Keep h h' []) : Sta Z h' C n d v := by
  obtain ⟨cf, i, k, f, st, cell, h1, h2, h3, h4, h5, h6, h7⟩ := F
  exact ⟨cf, i, k, f, st, cell, h1, h2, h3, h4, K.2.1 _ _ h5 nin0, h6, h7⟩
theorem own_ne_or {r x : Addr} {ws : List Addr} {H : Heap} (h : r ∈ ws ∨ H.size ≤ r) (hl : x < H.size) (hn : x ∉ ws) : x ≠ r := fun e => h.elim (fun q => hn (e ▸ q)) (fun q => Nat.lt_irrefl _ (Nat.lt_of_lt_of_le (e ▸ hl) q))
theorem own_or_up {r : Addr} {ws ws' : List Addr} {h0 H : Heap} (h : r ∈ ws ∨ H.size ≤ r) (hk : h0.size ≤ H.size) (all : ∀ x ∈ ws, x ∈ ws' ∨ h0.size ≤ x) : r ∈ ws' ∨ h0.size ≤ r := h.elim (all r) (fun q => Or.inr (Nat.le_trans hk q))
theorem own_selp {Z s : State} {a0 args : Array Value} {y : MethodName} {n : Nat} (hZ : Z.Warmed39 s.vm) (w1 : (Cond.instantiable y.cls n).before a0 Z = true) (w2 : (Cond.instanceMethod y).before a0 Z = true) (w3 : (Cond.privateMethod y).before a0 Z = true) (hy : y.cls ≠ "java/lang/invoke/MethodHandle" ∧ y.cls ≠ "java/lang/invoke/VarHandle") : (Cond.selects y.cls y y).before args s = true := by
  have i1 : (Cond.instantiable y.cls n).before args s = true := mvT hZ w1
  obtain ⟨c, k, h1, h2, -, h4, -, -⟩ := Cond.instantiable_spec i1
  have h5 : k.isInterface = false := by
    cases hk : k.isInterface
    · rfl
    · rw [hk] at h4; simp at h4
  exact selects_self_of_private h1 h2 h5 (Cond.privateMethod_at (mvP hZ w3 (args := args))) (mvT hZ w2) hy

theorem own_pd0 : parseMethodDescriptor "(I)Z" = some ⟨[.int], some .boolean⟩ := by decide +kernel
theorem tm_d0 : decode prog_63_method_2_code 0 = .ok (.iload_n 0, 1) := by decide +kernel
theorem tm_d1 : decode prog_63_method_2_code 1 = .ok (.sipush 240, 3) := by decide +kernel
theorem tm_d4 : decode prog_63_method_2_code 4 = .ok (.if_icmp .eq 24, 3) := by decide +kernel
theorem tm_d7 : decode prog_63_method_2_code 7 = .ok (.iload_n 0, 1) := by decide +kernel
theorem tm_d8 : decode prog_63_method_2_code 8 = .ok (.sipush 239, 3) := by decide +kernel
theorem tm_d11 : decode prog_63_method_2_code 11 = .ok (.if_icmp .eq 17, 3) := by decide +kernel
theorem tm_d14 : decode prog_63_method_2_code 14 = .ok (.iload_n 0, 1) := by decide +kernel
theorem tm_d15 : decode prog_63_method_2_code 15 = .ok (.sipush 233, 3) := by decide +kernel
theorem tm_d18 : decode prog_63_method_2_code 18 = .ok (.if_icmp .eq 10, 3) := by decide +kernel
theorem tm_d21 : decode prog_63_method_2_code 21 = .ok (.iload_n 0, 1) := by decide +kernel
theorem tm_d22 : decode prog_63_method_2_code 22 = .ok (.sipush 234, 3) := by decide +kernel
theorem tm_d25 : decode prog_63_method_2_code 25 = .ok (.if_icmp .ne 7, 3) := by decide +kernel
theorem tm_d28 : decode prog_63_method_2_code 28 = .ok (.iconst 1, 1) := by decide +kernel
theorem tm_d29 : decode prog_63_method_2_code 29 = .ok (.goto 4, 3) := by decide +kernel
theorem tm_d32 : decode prog_63_method_2_code 32 = .ok (.iconst 0, 1) := by decide +kernel
theorem tm_d33 : decode prog_63_method_2_code 33 = .ok (.ireturn, 1) := by decide +kernel
def tm_f28 (p0 : Int32)  : Int32 :=
  (1 : Int32)
set_option maxRecDepth 65536 in
set_option maxHeartbeats 40000000 in
theorem tm_c28 {l : Launch} {Z : State} {a0 : Array Value} {p0 : Int32} {h0 : Heap} {n0 : Nat} {p : Program} {e : Env} {s : State} {m : MethodId} {args : Array Value} {below : List Frame} {meth : Method} {c : Code} {T0 : State} {locs : List Loc} {r0 : Int32} (C0 : own_Cx p s m meth c Z a0 prog_63_method_2_code 1 "com/example/xylograph/xylograph/sqlbinxml/Token" "isMetadata" (some .boolean)) (X0 : Stand p l e ({ frames := 0, cells := 0, slots := 0, locals := 0 } : Room) s m args below meth c T0 locs 0 0) (e0 : T0.heap = h0) (N0 : Fr n0 locs)  (hr0 : r0 = tm_f28 p0 ) :
    own_Dn p e below s (own_Q (some (.int r0)) n0 h0) ({ frames := 0, cells := 0, slots := 0, locals := 0 } : Room).cells ({ frames := 0, cells := 0, slots := 0, locals := 0 } : Room).slots (T0.setTop (mkF m 28 #[.val (.int p0)] [])) := by
  obtain ⟨hx, hZ, hw, hby, hml, hown, hret, hlk, hnm⟩ := id C0
  refine own_st (fun _ k => XS.iconst X0.here hx rfl (hb hby tm_d28) (XS.goto X0.here hx rfl (pc0 := 29) (pc' := 33) rfl (hb hby tm_d29) (by decide) (by decide) k)) ?_
  show own_Dn p e below s _ _ _ (T0.setTop (mkF m 33 #[.val (.int p0)] [(.int (1 : Int32))]))
  exact own_retZ X0 hx hret hlk (by decide) (hb hby tm_d33) (by decide) (by decide) ⟨(by rw [hr0, tm_f28]), N0, e0⟩
def tm_f (p0 : Int32)  : Int32 :=
  if p0 = (240 : Int32) then
    tm_f28 p0
  else
    if p0 = (239 : Int32) then
      tm_f28 p0
    else
      if p0 = (233 : Int32) then
        tm_f28 p0
      else
        if p0 = (234 : Int32) then
          tm_f28 p0
        else
          (0 : Int32)
set_option maxRecDepth 65536 in
set_option maxHeartbeats 40000000 in
theorem tm_c0 {l : Launch} {Z : State} {a0 : Array Value} {p0 : Int32} {h0 : Heap} {n0 : Nat} {p : Program} {e : Env} {s : State} {m : MethodId} {args : Array Value} {below : List Frame} {meth : Method} {c : Code} {T0 : State} {locs : List Loc} {r0 : Int32} (C0 : own_Cx p s m meth c Z a0 prog_63_method_2_code 1 "com/example/xylograph/xylograph/sqlbinxml/Token" "isMetadata" (some .boolean)) (X0 : Stand p l e ({ frames := 0, cells := 0, slots := 0, locals := 0 } : Room) s m args below meth c T0 locs 0 0) (e0 : T0.heap = h0) (N0 : Fr n0 locs)  (hr0 : r0 = tm_f p0 ) :
    own_Dn p e below s (own_Q (some (.int r0)) n0 h0) ({ frames := 0, cells := 0, slots := 0, locals := 0 } : Room).cells ({ frames := 0, cells := 0, slots := 0, locals := 0 } : Room).slots (T0.setTop (mkF m 0 #[.val (.int p0)] [])) := by
  obtain ⟨hx, hZ, hw, hby, hml, hown, hret, hlk, hnm⟩ := id C0
  refine own_st (fun _ k => XS.iloadN X0.here hx rfl (hb hby tm_d0) rfl (XS.sipush X0.here hx rfl (hb hby tm_d1) k)) ?_
  show own_Dn p e below s _ _ _ (T0.setTop (mkF m 4 #[.val (.int p0)] [(.int (240 : Int32)), (.int p0)]))
  by_cases hc5 : p0 = (240 : Int32)
  · refine own_st (fun _ k => XS.icmpYes X0.here hx rfl (pc0 := 4) (pc' := 28) rfl (hb hby tm_d4) rfl (teq hc5).1 (by decide) (by decide) k) ?_
    show own_Dn p e below s _ _ _ (T0.setTop (mkF m 28 #[.val (.int p0)] []))
    exact tm_c28 C0 X0 e0 N0 (by rw [hr0, tm_f, if_pos hc5])
  · refine own_st (fun _ k => XS.icmpNo X0.here hx rfl (hb hby tm_d4) rfl (feq hc5).1 k) ?_
    show own_Dn p e below s _ _ _ (T0.setTop (mkF m 7 #[.val (.int p0)] []))
    refine own_st (fun _ k => XS.iloadN X0.here hx rfl (hb hby tm_d7) rfl (XS.sipush X0.here hx rfl (hb hby tm_d8) k)) ?_
    show own_Dn p e below s _ _ _ (T0.setTop (mkF m 11 #[.val (.int p0)] [(.int (239 : Int32)), (.int p0)]))
    by_cases hc6 : p0 = (239 : Int32)
    · refine own_st (fun _ k => XS.icmpYes X0.here hx rfl (pc0 := 11) (pc' := 28) rfl (hb hby tm_d11) rfl (teq hc6).1 (by decide) (by decide) k) ?_
      show own_Dn p e below s _ _ _ (T0.setTop (mkF m 28 #[.val (.int p0)] []))
      exact tm_c28 C0 X0 e0 N0 (by rw [hr0, tm_f, if_neg hc5, if_pos hc6])
    · refine own_st (fun _ k => XS.icmpNo X0.here hx rfl (hb hby tm_d11) rfl (feq hc6).1 k) ?_
      show own_Dn p e below s _ _ _ (T0.setTop (mkF m 14 #[.val (.int p0)] []))
      refine own_st (fun _ k => XS.iloadN X0.here hx rfl (hb hby tm_d14) rfl (XS.sipush X0.here hx rfl (hb hby tm_d15) k)) ?_
      show own_Dn p e below s _ _ _ (T0.setTop (mkF m 18 #[.val (.int p0)] [(.int (233 : Int32)), (.int p0)]))
      by_cases hc7 : p0 = (233 : Int32)
      · refine own_st (fun _ k => XS.icmpYes X0.here hx rfl (pc0 := 18) (pc' := 28) rfl (hb hby tm_d18) rfl (teq hc7).1 (by decide) (by decide) k) ?_
        show own_Dn p e below s _ _ _ (T0.setTop (mkF m 28 #[.val (.int p0)] []))
        exact tm_c28 C0 X0 e0 N0 (by rw [hr0, tm_f, if_neg hc5, if_neg hc6, if_pos hc7])
      · refine own_st (fun _ k => XS.icmpNo X0.here hx rfl (hb hby tm_d18) rfl (feq hc7).1 k) ?_
        show own_Dn p e below s _ _ _ (T0.setTop (mkF m 21 #[.val (.int p0)] []))
        refine own_st (fun _ k => XS.iloadN X0.here hx rfl (hb hby tm_d21) rfl (XS.sipush X0.here hx rfl (hb hby tm_d22) k)) ?_
        show own_Dn p e below s _ _ _ (T0.setTop (mkF m 25 #[.val (.int p0)] [(.int (234 : Int32)), (.int p0)]))
        by_cases hc8 : p0 = (234 : Int32)
        · refine own_st (fun _ k => XS.icmpNo X0.here hx rfl (hb hby tm_d25) rfl (teq hc8).2 k) ?_
          show own_Dn p e below s _ _ _ (T0.setTop (mkF m 28 #[.val (.int p0)] []))
          exact tm_c28 C0 X0 e0 N0 (by rw [hr0, tm_f, if_neg hc5, if_neg hc6, if_neg hc7, if_pos hc8])
        · refine own_st (fun _ k => XS.icmpYes X0.here hx rfl (pc0 := 25) (pc' := 32) rfl (hb hby tm_d25) rfl (feq hc8).2 (by decide) (by decide) k) ?_
          show own_Dn p e below s _ _ _ (T0.setTop (mkF m 32 #[.val (.int p0)] []))
          refine own_st (fun _ k => XS.iconst X0.here hx rfl (hb hby tm_d32) k) ?_
          show own_Dn p e below s _ _ _ (T0.setTop (mkF m 33 #[.val (.int p0)] [(.int (0 : Int32))]))
          exact own_retZ X0 hx hret hlk (by decide) (hb hby tm_d33) (by decide) (by decide) ⟨(by rw [hr0, tm_f, if_neg hc5, if_neg hc6, if_neg hc7, if_neg hc8]), N0, e0⟩
theorem tm_ef (m : MethodId) (p0 : Int32) : entryFrame m #[(.int p0)] 1 = mkF m 0 #[.val (.int p0)] [] := by first | (simp [entryFrame, mkF, argsToLocals, Value.category]; done) | rfl
theorem tm_rm (l : Launch) (Z : State) (a0 : Array Value) (hw : ∀ d ∈ tables_1, d.before a0 Z = true) (ws : List Jvm.Cond) (p0 : Int32) (h0 : Heap) (n0 : Nat) :
    MetFree l (⟨"com/example/xylograph/xylograph/sqlbinxml/Token", "isMetadata", "(I)Z"⟩ : MethodName) (head1 (Jvm.Cond.code (⟨"com/example/xylograph/xylograph/sqlbinxml/Token", "isMetadata", "(I)Z"⟩ : MethodName) prog_63_method_2_code 1 (some .boolean) :: ws) ({ frames := 0, cells := 0, slots := 0, locals := 0 } : Room)) (fun a U => a = #[(.int p0)] ∧ Z.Warmed39 U.vm ∧ U.heap = h0) (fun _ _ _ _ _ => True) (fun _ U o U' => ∃ v L, o = .returned v ∧ (own_Q (some (.int (tm_f p0))) n0 h0) v U'.heap L ∧ FrameEnd U o U' L ({ frames := 0, cells := 0, slots := 0, locals := 0 } : Room).cells ({ frames := 0, cells := 0, slots := 0, locals := 0 } : Room).slots) :=
  own_met hw (plainFor_of_name (by first | (simp [plainName, overriddenIn]; done) | decide +kernel)) (fun p e s m below meth c T0 C0 X0 e0 => own_st (fun _ k => castTop (tm_ef m p0) k) (tm_c0 C0 X0 e0 (Fr.nil n0) rfl))
theorem rf_d0 : decode method_2_code 0 = .ok (.iload_n 0, 1) := by decide +kernel
theorem rf_d1 : decode method_2_code 1 = .ok (.i2l, 1) := by decide +kernel
theorem rf_d2 : decode method_2_code 2 = .ok (.ldc2_w 7, 3) := by decide +kernel
theorem rf_d5 : decode method_2_code 5 = .ok (.lsub, 1) := by decide +kernel
theorem rf_d6 : decode method_2_code 6 = .ok (.lstore_n 1, 1) := by decide +kernel
theorem rf_d7 : decode method_2_code 7 = .ok (.lload_n 1, 1) := by decide +kernel
theorem rf_d8 : decode method_2_code 8 = .ok (.lconst 0, 1) := by decide +kernel
theorem rf_d9 : decode method_2_code 9 = .ok (.lcmp, 1) := by decide +kernel
theorem rf_d10 : decode method_2_code 10 = .ok (.ifCond .lt 11, 3) := by decide +kernel
theorem rf_d13 : decode method_2_code 13 = .ok (.lload_n 1, 1) := by decide +kernel
theorem rf_d14 : decode method_2_code 14 = .ok (.ldc2_w 9, 3) := by decide +kernel
theorem rf_d17 : decode method_2_code 17 = .ok (.lcmp, 1) := by decide +kernel
theorem rf_d18 : decode method_2_code 18 = .ok (.ifCond .le 5, 3) := by decide +kernel
theorem rf_d21 : decode method_2_code 21 = .ok (.iconst 0, 1) := by decide +kernel
theorem rf_d22 : decode method_2_code 22 = .ok (.ireturn, 1) := by decide +kernel
theorem rf_d23 : decode method_2_code 23 = .ok (.lload_n 1, 1) := by decide +kernel
theorem rf_d24 : decode method_2_code 24 = .ok (.iconst 1, 1) := by decide +kernel
theorem rf_d25 : decode method_2_code 25 = .ok (.lshr, 1) := by decide +kernel
theorem rf_d26 : decode method_2_code 26 = .ok (.lstore_n 3, 1) := by decide +kernel
theorem rf_d27 : decode method_2_code 27 = .ok (.lload_n 3, 1) := by decide +kernel
theorem rf_d28 : decode method_2_code 28 = .ok (.lconst 0, 1) := by decide +kernel
theorem rf_d29 : decode method_2_code 29 = .ok (.lcmp, 1) := by decide +kernel
theorem rf_d30 : decode method_2_code 30 = .ok (.ifCond .eq 11, 3) := by decide +kernel
theorem rf_d33 : decode method_2_code 33 = .ok (.lload_n 3, 1) := by decide +kernel
theorem rf_d34 : decode method_2_code 34 = .ok (.ldc2_w 11, 3) := by decide +kernel
theorem rf_d37 : decode method_2_code 37 = .ok (.lcmp, 1) := by decide +kernel
theorem rf_d38 : decode method_2_code 38 = .ok (.ifCond .ne 7, 3) := by decide +kernel
theorem rf_d41 : decode method_2_code 41 = .ok (.iconst 1, 1) := by decide +kernel
theorem rf_d42 : decode method_2_code 42 = .ok (.goto 4, 3) := by decide +kernel
theorem rf_d45 : decode method_2_code 45 = .ok (.iconst 0, 1) := by decide +kernel
theorem rf_d46 : decode method_2_code 46 = .ok (.ireturn, 1) := by decide +kernel
def rf_f (p0 : Int32)  : Int32 :=
  if ((p0.toInt64) - (233 : Int64)) < (0 : Int64) then
    (0 : Int32)
  else
    if (7 : Int64) < ((p0.toInt64) - (233 : Int64)) then
      (0 : Int32)
    else
      if (((p0.toInt64) - (233 : Int64)) >>> ((1 : Int32) &&& 0x3f).toInt64) = (0 : Int64) then
        (1 : Int32)
      else
        if (((p0.toInt64) - (233 : Int64)) >>> ((1 : Int32) &&& 0x3f).toInt64) = (3 : Int64) then
          (1 : Int32)
        else
          (0 : Int32)
set_option maxRecDepth 65536 in
set_option maxHeartbeats 40000000 in
theorem rf_c0 {l : Launch} {Z : State} {a0 : Array Value} {p0 : Int32} {h0 : Heap} {n0 : Nat} {p : Program} {e : Env} {s : State} {m : MethodId} {args : Array Value} {below : List Frame} {meth : Method} {c : Code} {T0 : State} {locs : List Loc} {r0 : Int32} (C0 : own_Cx p s m meth c Z a0 method_2_code 5 "com/example/xylograph/xylograph/sqlbinxml/TokenIsMetadataPinLaw" "reference" (some .boolean)) (X0 : Stand p l e ({ frames := 0, cells := 0, slots := 0, locals := 0 } : Room) s m args below meth c T0 locs 0 0) (e0 : T0.heap = h0) (N0 : Fr n0 locs)  (hr0 : r0 = rf_f p0 ) :
    own_Dn p e below s (own_Q (some (.int r0)) n0 h0) ({ frames := 0, cells := 0, slots := 0, locals := 0 } : Room).cells ({ frames := 0, cells := 0, slots := 0, locals := 0 } : Room).slots (T0.setTop (mkF m 0 #[.val (.int p0), .unset, .unset, .unset, .unset] [])) := by
  obtain ⟨hx, hZ, hw, hby, hml, hown, hret, hlk, hnm⟩ := id C0
  refine own_st (fun _ k => XS.iloadN X0.here hx rfl (hb hby rf_d0) rfl (XS.i2l X0.here hx rfl (hb hby rf_d1) rfl (X0.ldc2Long hx (index := 7) (v := (233 : Int64)) hown (mvT hZ (hw _ (List.mem_of_getElem? (i := 8) rfl))) (g := (mkF m 2 #[.val (.int p0), .unset, .unset, .unset, .unset] [(.long (p0.toInt64))])) rfl (hb hby rf_d2) _ (XS.lsub X0.here hx rfl (hb hby rf_d5) rfl (XS.lstoreN X0.here hx rfl (hb hby rf_d6) rfl (l' := #[.val (.int p0), .val (.long ((p0.toInt64) - (233 : Int64))), .second, .unset, .unset]) rfl (XS.lloadN X0.here hx rfl (hb hby rf_d7) rfl (XS.lconst X0.here hx rfl (hb hby rf_d8) (XS.lcmp X0.here hx rfl (hb hby rf_d9) rfl k)))))))) ?_
  show own_Dn p e below s _ _ _ (T0.setTop (mkF m 10 #[.val (.int p0), .val (.long ((p0.toInt64) - (233 : Int64))), .second, .unset, .unset] [(.int (lcmpW ((p0.toInt64) - (233 : Int64)) (0 : Int64)))]))
  by_cases hc5 : ((p0.toInt64) - (233 : Int64)) < (0 : Int64)
  · refine own_st (fun _ k => XS.ifYes X0.here hx rfl (pc0 := 10) (pc' := 21) rfl (hb hby rf_d10) rfl (own_jtlt hc5).1 (by decide) (by decide) k) ?_
    show own_Dn p e below s _ _ _ (T0.setTop (mkF m 21 #[.val (.int p0), .val (.long ((p0.toInt64) - (233 : Int64))), .second, .unset, .unset] []))
    refine own_st (fun _ k => XS.iconst X0.here hx rfl (hb hby rf_d21) k) ?_
    show own_Dn p e below s _ _ _ (T0.setTop (mkF m 22 #[.val (.int p0), .val (.long ((p0.toInt64) - (233 : Int64))), .second, .unset, .unset] [(.int (0 : Int32))]))
    exact own_retZ X0 hx hret hlk (by decide) (hb hby rf_d22) (by decide) (by decide) ⟨(by rw [hr0, rf_f, if_pos hc5]), N0, e0⟩
  · refine own_st (fun _ k => XS.ifNo X0.here hx rfl (hb hby rf_d10) rfl (own_jflt hc5).1 k) ?_
    show own_Dn p e below s _ _ _ (T0.setTop (mkF m 13 #[.val (.int p0), .val (.long ((p0.toInt64) - (233 : Int64))), .second, .unset, .unset] []))
    refine own_st (fun _ k => XS.lloadN X0.here hx rfl (hb hby rf_d13) rfl (X0.ldc2Long hx (index := 9) (v := (7 : Int64)) hown (mvT hZ (hw _ (List.mem_of_getElem? (i := 9) rfl))) (g := (mkF m 14 #[.val (.int p0), .val (.long ((p0.toInt64) - (233 : Int64))), .second, .unset, .unset] [(.long ((p0.toInt64) - (233 : Int64)))])) rfl (hb hby rf_d14) _ (XS.lcmp X0.here hx rfl (hb hby rf_d17) rfl k))) ?_
    show own_Dn p e below s _ _ _ (T0.setTop (mkF m 18 #[.val (.int p0), .val (.long ((p0.toInt64) - (233 : Int64))), .second, .unset, .unset] [(.int (lcmpW ((p0.toInt64) - (233 : Int64)) (7 : Int64)))]))
    by_cases hc6 : (7 : Int64) < ((p0.toInt64) - (233 : Int64))
    · refine own_st (fun _ k => XS.ifNo X0.here hx rfl (hb hby rf_d18) rfl (own_jtlt hc6).2.2.2 k) ?_
      show own_Dn p e below s _ _ _ (T0.setTop (mkF m 21 #[.val (.int p0), .val (.long ((p0.toInt64) - (233 : Int64))), .second, .unset, .unset] []))
      refine own_st (fun _ k => XS.iconst X0.here hx rfl (hb hby rf_d21) k) ?_
      show own_Dn p e below s _ _ _ (T0.setTop (mkF m 22 #[.val (.int p0), .val (.long ((p0.toInt64) - (233 : Int64))), .second, .unset, .unset] [(.int (0 : Int32))]))
      exact own_retZ X0 hx hret hlk (by decide) (hb hby rf_d22) (by decide) (by decide) ⟨(by rw [hr0, rf_f, if_neg hc5, if_pos hc6]), N0, e0⟩
    · refine own_st (fun _ k => XS.ifYes X0.here hx rfl (pc0 := 18) (pc' := 23) rfl (hb hby rf_d18) rfl (own_jflt hc6).2.2.2 (by decide) (by decide) k) ?_
      show own_Dn p e below s _ _ _ (T0.setTop (mkF m 23 #[.val (.int p0), .val (.long ((p0.toInt64) - (233 : Int64))), .second, .unset, .unset] []))
      refine own_st (fun _ k => XS.lloadN X0.here hx rfl (hb hby rf_d23) rfl (XS.iconst X0.here hx rfl (hb hby rf_d24) (XS.lshr X0.here hx rfl (hb hby rf_d25) rfl (XS.lstoreN X0.here hx rfl (hb hby rf_d26) rfl (l' := #[.val (.int p0), .val (.long ((p0.toInt64) - (233 : Int64))), .second, .val (.long (((p0.toInt64) - (233 : Int64)) >>> ((1 : Int32) &&& 0x3f).toInt64)), .second]) rfl (XS.lloadN X0.here hx rfl (hb hby rf_d27) rfl (XS.lconst X0.here hx rfl (hb hby rf_d28) (XS.lcmp X0.here hx rfl (hb hby rf_d29) rfl k))))))) ?_
      show own_Dn p e below s _ _ _ (T0.setTop (mkF m 30 #[.val (.int p0), .val (.long ((p0.toInt64) - (233 : Int64))), .second, .val (.long (((p0.toInt64) - (233 : Int64)) >>> ((1 : Int32) &&& 0x3f).toInt64)), .second] [(.int (lcmpW (((p0.toInt64) - (233 : Int64)) >>> ((1 : Int32) &&& 0x3f).toInt64) (0 : Int64)))]))
      by_cases hc7 : (((p0.toInt64) - (233 : Int64)) >>> ((1 : Int32) &&& 0x3f).toInt64) = (0 : Int64)
      · refine own_st (fun _ k => XS.ifYes X0.here hx rfl (pc0 := 30) (pc' := 41) rfl (hb hby rf_d30) rfl (own_jteq hc7).1 (by decide) (by decide) k) ?_
        show own_Dn p e below s _ _ _ (T0.setTop (mkF m 41 #[.val (.int p0), .val (.long ((p0.toInt64) - (233 : Int64))), .second, .val (.long (((p0.toInt64) - (233 : Int64)) >>> ((1 : Int32) &&& 0x3f).toInt64)), .second] []))
        refine own_st (fun _ k => XS.iconst X0.here hx rfl (hb hby rf_d41) (XS.goto X0.here hx rfl (pc0 := 42) (pc' := 46) rfl (hb hby rf_d42) (by decide) (by decide) k)) ?_
        show own_Dn p e below s _ _ _ (T0.setTop (mkF m 46 #[.val (.int p0), .val (.long ((p0.toInt64) - (233 : Int64))), .second, .val (.long (((p0.toInt64) - (233 : Int64)) >>> ((1 : Int32) &&& 0x3f).toInt64)), .second] [(.int (1 : Int32))]))
        exact own_retZ X0 hx hret hlk (by decide) (hb hby rf_d46) (by decide) (by decide) ⟨(by rw [hr0, rf_f, if_neg hc5, if_neg hc6, if_pos hc7]), N0, e0⟩
      · refine own_st (fun _ k => XS.ifNo X0.here hx rfl (hb hby rf_d30) rfl (own_jfeq hc7).1 k) ?_
        show own_Dn p e below s _ _ _ (T0.setTop (mkF m 33 #[.val (.int p0), .val (.long ((p0.toInt64) - (233 : Int64))), .second, .val (.long (((p0.toInt64) - (233 : Int64)) >>> ((1 : Int32) &&& 0x3f).toInt64)), .second] []))
        refine own_st (fun _ k => XS.lloadN X0.here hx rfl (hb hby rf_d33) rfl (X0.ldc2Long hx (index := 11) (v := (3 : Int64)) hown (mvT hZ (hw _ (List.mem_of_getElem? (i := 10) rfl))) (g := (mkF m 34 #[.val (.int p0), .val (.long ((p0.toInt64) - (233 : Int64))), .second, .val (.long (((p0.toInt64) - (233 : Int64)) >>> ((1 : Int32) &&& 0x3f).toInt64)), .second] [(.long (((p0.toInt64) - (233 : Int64)) >>> ((1 : Int32) &&& 0x3f).toInt64))])) rfl (hb hby rf_d34) _ (XS.lcmp X0.here hx rfl (hb hby rf_d37) rfl k))) ?_
        show own_Dn p e below s _ _ _ (T0.setTop (mkF m 38 #[.val (.int p0), .val (.long ((p0.toInt64) - (233 : Int64))), .second, .val (.long (((p0.toInt64) - (233 : Int64)) >>> ((1 : Int32) &&& 0x3f).toInt64)), .second] [(.int (lcmpW (((p0.toInt64) - (233 : Int64)) >>> ((1 : Int32) &&& 0x3f).toInt64) (3 : Int64)))]))
        by_cases hc8 : (((p0.toInt64) - (233 : Int64)) >>> ((1 : Int32) &&& 0x3f).toInt64) = (3 : Int64)
        · refine own_st (fun _ k => XS.ifNo X0.here hx rfl (hb hby rf_d38) rfl (own_jteq hc8).2 k) ?_
          show own_Dn p e below s _ _ _ (T0.setTop (mkF m 41 #[.val (.int p0), .val (.long ((p0.toInt64) - (233 : Int64))), .second, .val (.long (((p0.toInt64) - (233 : Int64)) >>> ((1 : Int32) &&& 0x3f).toInt64)), .second] []))
          refine own_st (fun _ k => XS.iconst X0.here hx rfl (hb hby rf_d41) (XS.goto X0.here hx rfl (pc0 := 42) (pc' := 46) rfl (hb hby rf_d42) (by decide) (by decide) k)) ?_
          show own_Dn p e below s _ _ _ (T0.setTop (mkF m 46 #[.val (.int p0), .val (.long ((p0.toInt64) - (233 : Int64))), .second, .val (.long (((p0.toInt64) - (233 : Int64)) >>> ((1 : Int32) &&& 0x3f).toInt64)), .second] [(.int (1 : Int32))]))
          exact own_retZ X0 hx hret hlk (by decide) (hb hby rf_d46) (by decide) (by decide) ⟨(by rw [hr0, rf_f, if_neg hc5, if_neg hc6, if_neg hc7, if_pos hc8]), N0, e0⟩
        · refine own_st (fun _ k => XS.ifYes X0.here hx rfl (pc0 := 38) (pc' := 45) rfl (hb hby rf_d38) rfl (own_jfeq hc8).2 (by decide) (by decide) k) ?_
          show own_Dn p e below s _ _ _ (T0.setTop (mkF m 45 #[.val (.int p0), .val (.long ((p0.toInt64) - (233 : Int64))), .second, .val (.long (((p0.toInt64) - (233 : Int64)) >>> ((1 : Int32) &&& 0x3f).toInt64)), .second] []))
          refine own_st (fun _ k => XS.iconst X0.here hx rfl (hb hby rf_d45) k) ?_
          show own_Dn p e below s _ _ _ (T0.setTop (mkF m 46 #[.val (.int p0), .val (.long ((p0.toInt64) - (233 : Int64))), .second, .val (.long (((p0.toInt64) - (233 : Int64)) >>> ((1 : Int32) &&& 0x3f).toInt64)), .second] [(.int (0 : Int32))]))
          exact own_retZ X0 hx hret hlk (by decide) (hb hby rf_d46) (by decide) (by decide) ⟨(by rw [hr0, rf_f, if_neg hc5, if_neg hc6, if_neg hc7, if_neg hc8]), N0, e0⟩
theorem rf_ef (m : MethodId) (p0 : Int32) : entryFrame m #[(.int p0)] 5 = mkF m 0 #[.val (.int p0), .unset, .unset, .unset, .unset] [] := by first | (simp [entryFrame, mkF, argsToLocals, Value.category]; done) | rfl
theorem rf_rm (l : Launch) (Z : State) (a0 : Array Value) (hw : ∀ d ∈ tables_1, d.before a0 Z = true) (ws : List Jvm.Cond) (p0 : Int32) (h0 : Heap) (n0 : Nat) :
    MetFree l (⟨"com/example/xylograph/xylograph/sqlbinxml/TokenIsMetadataPinLaw", "reference", "(I)Z"⟩ : MethodName) (head1 (Jvm.Cond.code (⟨"com/example/xylograph/xylograph/sqlbinxml/TokenIsMetadataPinLaw", "reference", "(I)Z"⟩ : MethodName) method_2_code 5 (some .boolean) :: ws) ({ frames := 0, cells := 0, slots := 0, locals := 0 } : Room)) (fun a U => a = #[(.int p0)] ∧ Z.Warmed39 U.vm ∧ U.heap = h0) (fun _ _ _ _ _ => True) (fun _ U o U' => ∃ v L, o = .returned v ∧ (own_Q (some (.int (rf_f p0))) n0 h0) v U'.heap L ∧ FrameEnd U o U' L ({ frames := 0, cells := 0, slots := 0, locals := 0 } : Room).cells ({ frames := 0, cells := 0, slots := 0, locals := 0 } : Room).slots) :=
  own_met hw (plainFor_of_name (by first | (simp [plainName, overriddenIn]; done) | decide +kernel)) (fun p e s m below meth c T0 C0 X0 e0 => own_st (fun _ k => castTop (rf_ef m p0) k) (rf_c0 C0 X0 e0 (Fr.nil n0) rfl))
theorem lw_d0 : decode code 0 = .ok (.iload_n 1, 1) := by decide +kernel
theorem lw_d1 : decode code 1 = .ok (.iconst 1, 1) := by decide +kernel
theorem lw_d2 : decode code 2 = .ok (.iand, 1) := by decide +kernel
theorem lw_d3 : decode code 3 = .ok (.ifCond .eq 7, 3) := by decide +kernel
theorem lw_d6 : decode code 6 = .ok (.iconst 1, 1) := by decide +kernel
theorem lw_d7 : decode code 7 = .ok (.goto 4, 3) := by decide +kernel
theorem lw_d10 : decode code 10 = .ok (.iconst 0, 1) := by decide +kernel
theorem lw_d11 : decode code 11 = .ok (.istore_n 2, 1) := by decide +kernel
theorem lw_d12 : decode code 12 = .ok (.iload_n 2, 1) := by decide +kernel
theorem lw_d13 : decode code 13 = .ok (.ifCond .eq 7, 3) := by decide +kernel
theorem lw_d16 : decode code 16 = .ok (.iload_n 0, 1) := by decide +kernel
theorem lw_d17 : decode code 17 = .ok (.goto 11, 3) := by decide +kernel
theorem lw_d20 : decode code 20 = .ok (.sipush 224, 3) := by decide +kernel
theorem lw_d23 : decode code 23 = .ok (.iload_n 0, 1) := by decide +kernel
theorem lw_d24 : decode code 24 = .ok (.bipush 31, 2) := by decide +kernel
theorem lw_d26 : decode code 26 = .ok (.iand, 1) := by decide +kernel
theorem lw_d27 : decode code 27 = .ok (.iadd, 1) := by decide +kernel
theorem lw_d28 : decode code 28 = .ok (.istore_n 3, 1) := by decide +kernel
theorem lw_d29 : decode code 29 = .ok (.iload_n 3, 1) := by decide +kernel
theorem lw_d30 : decode code 30 = .ok (.invokestatic 13, 3) := by decide +kernel
theorem lw_d33 : decode code 33 = .ok (.iload_n 3, 1) := by decide +kernel
theorem lw_d34 : decode code 34 = .ok (.invokestatic 19, 3) := by decide +kernel
theorem lw_d37 : decode code 37 = .ok (.if_icmp .ne 7, 3) := by decide +kernel
theorem lw_d40 : decode code 40 = .ok (.iconst 1, 1) := by decide +kernel
theorem lw_d41 : decode code 41 = .ok (.goto 4, 3) := by decide +kernel
theorem lw_d44 : decode code 44 = .ok (.iconst 0, 1) := by decide +kernel
theorem lw_d45 : decode code 45 = .ok (.ireturn, 1) := by decide +kernel
def lw_f28 (p0 : Int32) (p1 : Int32) (v2 : Int32) (u0 : Int32) : Int32 :=
  if (tm_f u0) = (rf_f u0) then
    (1 : Int32)
  else
    (0 : Int32)
set_option maxRecDepth 65536 in
set_option maxHeartbeats 40000000 in
theorem lw_c28 {l : Launch} {Z : State} {a0 : Array Value} {p0 : Int32} {p1 : Int32} {h0 : Heap} {n0 : Nat} {p : Program} {e : Env} {s : State} {m : MethodId} {args : Array Value} {below : List Frame} {meth : Method} {c : Code} {T0 : State} {locs : List Loc} {r0 : Int32} (C0 : own_Cx p s m meth c Z a0 code 4 "com/example/xylograph/xylograph/sqlbinxml/TokenIsMetadataPinLaw" "law" (some .boolean)) (X0 : Stand p l e room_1 s m args below meth c T0 locs 0 0) (e0 : T0.heap = h0) (N0 : Fr n0 locs) (v2 : Int32) (u0 : Int32) (hr0 : r0 = lw_f28 p0 p1 v2 u0) :
    own_Dn p e below s (own_QL (some (.int r0)) n0) room_1.cells room_1.slots (T0.setTop (mkF m 28 #[.val (.int p0), .val (.int p1), .val (.int v2), .unset] [(.int u0)])) := by
  obtain ⟨hx, hZ, hw, hby, hml, hown, hret, hlk, hnm⟩ := id C0
  refine own_st (fun _ k => XS.istoreN X0.here hx rfl (hb hby lw_d28) rfl (l' := #[.val (.int p0), .val (.int p1), .val (.int v2), .val (.int u0)]) rfl (XS.iloadN X0.here hx rfl (hb hby lw_d29) rfl k)) ?_
  show own_Dn p e below s _ _ _ (T0.setTop (mkF m 30 #[.val (.int p0), .val (.int p1), .val (.int v2), .val (.int u0)] [(.int u0)]))
  obtain ⟨_, _, ⟨T8, L8, k8, n8⟩, -, X8, ⟨Lc8, hQ8, l8, y8, z8⟩, st8⟩ := Jvm.LawKit.callS X0 hx (y := (⟨"com/example/xylograph/xylograph/sqlbinxml/Token", "isMetadata", "(I)Z"⟩ : MethodName)) hown (mvT hZ (hw _ (List.mem_of_getElem? (i := 0) rfl))) (mvT hZ (hw _ (List.mem_of_getElem? (i := 1) rfl))) (mvT hZ (hw _ (List.mem_of_getElem? (i := 2) rfl))) (mvT hZ (hw _ (List.mem_of_getElem? (i := 3) rfl))) (by decide) (backOf (W := 0) (tm_rm l Z a0 hw [] (u0) h0 n0) hZ (hw _ (List.mem_of_getElem? (i := 3) rfl)) (hw _ (List.mem_of_getElem? (i := 2) rfl)) (by decide) (by decide)) (g := (mkF m 30 #[.val (.int p0), .val (.int p1), .val (.int v2), .val (.int u0)] [(.int u0)])) rfl (by rw [hml]; rfl) (argsL := [(.int u0)]) (rest := []) (lenOf own_pd0 rfl) rfl (by show 2 * 0 + _ ≤ _; exact Nat.le_of_eq rfl) (hb hby lw_d30) (fun _ _ => ⟨rfl, e0, (by decide : 0 + 0 ≤ _), (by decide : 0 + 0 ≤ _)⟩)
  dsimp only [Pt.U, Pt.locs, Pt.cells, Pt.slots] at X8 l8 y8 z8 st8 hQ8
  subst l8 y8 z8
  obtain ⟨rfl, N8q, e8⟩ := hQ8
  have N8 := Fr.app N0 N8q
  refine own_st st8 ?_
  show own_Dn p e below s _ _ _ (T8.setTop (mkF m 33 #[.val (.int p0), .val (.int p1), .val (.int v2), .val (.int u0)] [(.int (tm_f u0))]))
  refine own_st (fun _ k => XS.iloadN X8.here hx rfl (hb hby lw_d33) rfl k) ?_
  show own_Dn p e below s _ _ _ (T8.setTop (mkF m 34 #[.val (.int p0), .val (.int p1), .val (.int v2), .val (.int u0)] [(.int u0), (.int (tm_f u0))]))
  obtain ⟨_, _, ⟨T9, L9, k9, n9⟩, -, X9, ⟨Lc9, hQ9, l9, y9, z9⟩, st9⟩ := Jvm.LawKit.callS X8 hx (y := (⟨"com/example/xylograph/xylograph/sqlbinxml/TokenIsMetadataPinLaw", "reference", "(I)Z"⟩ : MethodName)) hown (mvT hZ (hw _ (List.mem_of_getElem? (i := 4) rfl))) (mvT hZ (hw _ (List.mem_of_getElem? (i := 5) rfl))) (mvT hZ (hw _ (List.mem_of_getElem? (i := 6) rfl))) (mvT hZ (hw _ (List.mem_of_getElem? (i := 7) rfl))) (by decide) (backOf (W := 1) (rf_rm l Z a0 hw [] (u0) h0 n0) hZ (hw _ (List.mem_of_getElem? (i := 7) rfl)) (hw _ (List.mem_of_getElem? (i := 6) rfl)) (by decide) (by decide)) (g := (mkF m 34 #[.val (.int p0), .val (.int p1), .val (.int v2), .val (.int u0)] [(.int u0), (.int (tm_f u0))])) rfl (by rw [hml]; rfl) (argsL := [(.int u0)]) (rest := [(.int (tm_f u0))]) (lenOf own_pd0 rfl) rfl (by show 2 * 0 + _ ≤ _; exact Nat.le_of_eq rfl) (hb hby lw_d34) (fun _ _ => ⟨rfl, e8, (by decide : 0 + 0 ≤ _), (by decide : 0 + 0 ≤ _)⟩)
  dsimp only [Pt.U, Pt.locs, Pt.cells, Pt.slots] at X9 l9 y9 z9 st9 hQ9
  subst l9 y9 z9
  obtain ⟨rfl, N9q, e9⟩ := hQ9
  have N9 := Fr.app N8 N9q
  refine own_st st9 ?_
  show own_Dn p e below s _ _ _ (T9.setTop (mkF m 37 #[.val (.int p0), .val (.int p1), .val (.int v2), .val (.int u0)] [(.int (rf_f u0)), (.int (tm_f u0))]))
  by_cases hc10 : (tm_f u0) = (rf_f u0)
  · refine own_st (fun _ k => XS.icmpNo X9.here hx rfl (hb hby lw_d37) rfl (teq hc10).2 k) ?_
    show own_Dn p e below s _ _ _ (T9.setTop (mkF m 40 #[.val (.int p0), .val (.int p1), .val (.int v2), .val (.int u0)] []))
    refine own_st (fun _ k => XS.iconst X9.here hx rfl (hb hby lw_d40) (XS.goto X9.here hx rfl (pc0 := 41) (pc' := 45) rfl (hb hby lw_d41) (by decide) (by decide) k)) ?_
    show own_Dn p e below s _ _ _ (T9.setTop (mkF m 45 #[.val (.int p0), .val (.int p1), .val (.int v2), .val (.int u0)] [(.int (1 : Int32))]))
    exact own_retZ X9 hx hret hlk (by decide) (hb hby lw_d45) (by decide) (by decide) ⟨(by rw [hr0, lw_f28, if_pos hc10]), N9⟩
  · refine own_st (fun _ k => XS.icmpYes X9.here hx rfl (pc0 := 37) (pc' := 44) rfl (hb hby lw_d37) rfl (feq hc10).2 (by decide) (by decide) k) ?_
    show own_Dn p e below s _ _ _ (T9.setTop (mkF m 44 #[.val (.int p0), .val (.int p1), .val (.int v2), .val (.int u0)] []))
    refine own_st (fun _ k => XS.iconst X9.here hx rfl (hb hby lw_d44) k) ?_
    show own_Dn p e below s _ _ _ (T9.setTop (mkF m 45 #[.val (.int p0), .val (.int p1), .val (.int v2), .val (.int u0)] [(.int (0 : Int32))]))
    exact own_retZ X9 hx hret hlk (by decide) (hb hby lw_d45) (by decide) (by decide) ⟨(by rw [hr0, lw_f28, if_neg hc10]), N9⟩
def lw_f11 (p0 : Int32) (p1 : Int32) (u0 : Int32) : Int32 :=
  if u0 = (0 : Int32) then
    lw_f28 p0 p1 (u0) (((224 : Int32) + (p0 &&& (31 : Int32))))
  else
    lw_f28 p0 p1 (u0) (p0)
set_option maxRecDepth 65536 in
set_option maxHeartbeats 40000000 in
theorem lw_c11 {l : Launch} {Z : State} {a0 : Array Value} {p0 : Int32} {p1 : Int32} {h0 : Heap} {n0 : Nat} {p : Program} {e : Env} {s : State} {m : MethodId} {args : Array Value} {below : List Frame} {meth : Method} {c : Code} {T0 : State} {locs : List Loc} {r0 : Int32} (C0 : own_Cx p s m meth c Z a0 code 4 "com/example/xylograph/xylograph/sqlbinxml/TokenIsMetadataPinLaw" "law" (some .boolean)) (X0 : Stand p l e room_1 s m args below meth c T0 locs 0 0) (e0 : T0.heap = h0) (N0 : Fr n0 locs) (u0 : Int32) (hr0 : r0 = lw_f11 p0 p1 u0) :
    own_Dn p e below s (own_QL (some (.int r0)) n0) room_1.cells room_1.slots (T0.setTop (mkF m 11 #[.val (.int p0), .val (.int p1), .unset, .unset] [(.int u0)])) := by
  obtain ⟨hx, hZ, hw, hby, hml, hown, hret, hlk, hnm⟩ := id C0
  refine own_st (fun _ k => XS.istoreN X0.here hx rfl (hb hby lw_d11) rfl (l' := #[.val (.int p0), .val (.int p1), .val (.int u0), .unset]) rfl (XS.iloadN X0.here hx rfl (hb hby lw_d12) rfl k)) ?_
  show own_Dn p e below s _ _ _ (T0.setTop (mkF m 13 #[.val (.int p0), .val (.int p1), .val (.int u0), .unset] [(.int u0)]))
  by_cases hc7 : u0 = (0 : Int32)
  · refine own_st (fun _ k => XS.ifYes X0.here hx rfl (pc0 := 13) (pc' := 20) rfl (hb hby lw_d13) rfl ((if0 _ _).trans (teq hc7).1) (by decide) (by decide) k) ?_
    show own_Dn p e below s _ _ _ (T0.setTop (mkF m 20 #[.val (.int p0), .val (.int p1), .val (.int u0), .unset] []))
    refine own_st (fun _ k => XS.sipush X0.here hx rfl (hb hby lw_d20) (XS.iloadN X0.here hx rfl (hb hby lw_d23) rfl (XS.bipush X0.here hx rfl (hb hby lw_d24) (XS.iand X0.here hx rfl (hb hby lw_d26) rfl (XS.iadd X0.here hx rfl (hb hby lw_d27) rfl k))))) ?_
    show own_Dn p e below s _ _ _ (T0.setTop (mkF m 28 #[.val (.int p0), .val (.int p1), .val (.int u0), .unset] [(.int ((224 : Int32) + (p0 &&& (31 : Int32))))]))
    exact lw_c28 C0 X0 e0 N0 (u0) (((224 : Int32) + (p0 &&& (31 : Int32)))) (by rw [hr0, lw_f11, if_pos hc7])
  · refine own_st (fun _ k => XS.ifNo X0.here hx rfl (hb hby lw_d13) rfl ((if0 _ _).trans (feq hc7).1) k) ?_
    show own_Dn p e below s _ _ _ (T0.setTop (mkF m 16 #[.val (.int p0), .val (.int p1), .val (.int u0), .unset] []))
    refine own_st (fun _ k => XS.iloadN X0.here hx rfl (hb hby lw_d16) rfl (XS.goto X0.here hx rfl (pc0 := 17) (pc' := 28) rfl (hb hby lw_d17) (by decide) (by decide) k)) ?_
    show own_Dn p e below s _ _ _ (T0.setTop (mkF m 28 #[.val (.int p0), .val (.int p1), .val (.int u0), .unset] [(.int p0)]))
    exact lw_c28 C0 X0 e0 N0 (u0) (p0) (by rw [hr0, lw_f11, if_neg hc7])
def lw_f (p0 : Int32) (p1 : Int32)  : Int32 :=
  if (p1 &&& (1 : Int32)) = (0 : Int32) then
    lw_f11 p0 p1 ((0 : Int32))
  else
    lw_f11 p0 p1 ((1 : Int32))
set_option maxRecDepth 65536 in
set_option maxHeartbeats 40000000 in
theorem lw_c0 {l : Launch} {Z : State} {a0 : Array Value} {p0 : Int32} {p1 : Int32} {h0 : Heap} {n0 : Nat} {p : Program} {e : Env} {s : State} {m : MethodId} {args : Array Value} {below : List Frame} {meth : Method} {c : Code} {T0 : State} {locs : List Loc} {r0 : Int32} (C0 : own_Cx p s m meth c Z a0 code 4 "com/example/xylograph/xylograph/sqlbinxml/TokenIsMetadataPinLaw" "law" (some .boolean)) (X0 : Stand p l e room_1 s m args below meth c T0 locs 0 0) (e0 : T0.heap = h0) (N0 : Fr n0 locs)  (hr0 : r0 = lw_f p0 p1 ) :
    own_Dn p e below s (own_QL (some (.int r0)) n0) room_1.cells room_1.slots (T0.setTop (mkF m 0 #[.val (.int p0), .val (.int p1), .unset, .unset] [])) := by
  obtain ⟨hx, hZ, hw, hby, hml, hown, hret, hlk, hnm⟩ := id C0
  refine own_st (fun _ k => XS.iloadN X0.here hx rfl (hb hby lw_d0) rfl (XS.iconst X0.here hx rfl (hb hby lw_d1) (XS.iand X0.here hx rfl (hb hby lw_d2) rfl k))) ?_
  show own_Dn p e below s _ _ _ (T0.setTop (mkF m 3 #[.val (.int p0), .val (.int p1), .unset, .unset] [(.int (p1 &&& (1 : Int32)))]))
  by_cases hc6 : (p1 &&& (1 : Int32)) = (0 : Int32)
  · refine own_st (fun _ k => XS.ifYes X0.here hx rfl (pc0 := 3) (pc' := 10) rfl (hb hby lw_d3) rfl ((if0 _ _).trans (teq hc6).1) (by decide) (by decide) k) ?_
    show own_Dn p e below s _ _ _ (T0.setTop (mkF m 10 #[.val (.int p0), .val (.int p1), .unset, .unset] []))
    refine own_st (fun _ k => XS.iconst X0.here hx rfl (hb hby lw_d10) k) ?_
    show own_Dn p e below s _ _ _ (T0.setTop (mkF m 11 #[.val (.int p0), .val (.int p1), .unset, .unset] [(.int (0 : Int32))]))
    exact lw_c11 C0 X0 e0 N0 ((0 : Int32)) (by rw [hr0, lw_f, if_pos hc6])
  · refine own_st (fun _ k => XS.ifNo X0.here hx rfl (hb hby lw_d3) rfl ((if0 _ _).trans (feq hc6).1) k) ?_
    show own_Dn p e below s _ _ _ (T0.setTop (mkF m 6 #[.val (.int p0), .val (.int p1), .unset, .unset] []))
    refine own_st (fun _ k => XS.iconst X0.here hx rfl (hb hby lw_d6) (XS.goto X0.here hx rfl (pc0 := 7) (pc' := 11) rfl (hb hby lw_d7) (by decide) (by decide) k)) ?_
    show own_Dn p e below s _ _ _ (T0.setTop (mkF m 11 #[.val (.int p0), .val (.int p1), .unset, .unset] [(.int (1 : Int32))]))
    exact lw_c11 C0 X0 e0 N0 ((1 : Int32)) (by rw [hr0, lw_f, if_neg hc6])
theorem lw_ef (m : MethodId) (p0 : Int32) (p1 : Int32) : entryFrame m #[(.int p0), (.int p1)] maxLocals = mkF m 0 #[.val (.int p0), .val (.int p1), .unset, .unset] [] := by first | (simp [entryFrame, mkF, argsToLocals, Value.category, maxLocals]; done) | rfl
theorem lw_rm (l : Launch) (Z : State) (a0 : Array Value) (hw : ∀ d ∈ tables_1, d.before a0 Z = true) (ws : List Jvm.Cond) (p0 : Int32) (p1 : Int32) (h0 : Heap) (n0 : Nat) :
    MetFree l x (head1 (Jvm.Cond.code x code maxLocals ret :: ws) room_1) (fun a U => a = #[(.int p0), (.int p1)] ∧ Z.Warmed39 U.vm ∧ U.heap = h0) (fun _ _ _ _ _ => True) (fun _ U o U' => ∃ v L, o = .returned v ∧ (own_QL (some (.int (lw_f p0 p1))) n0) v U'.heap L ∧ FrameEnd U o U' L room_1.cells room_1.slots) :=
  own_met hw (plainFor_of_name (by first | (simp [plainName, overriddenIn]; done) | decide +kernel)) (fun p e s m below meth c T0 C0 X0 e0 => own_st (fun _ k => castTop (lw_ef m p0 p1) k) (lw_c0 C0 X0 e0 (Fr.nil n0) rfl))
theorem own_eq (u : Int32) : tm_f u = rf_f u := by
  have h1 := c_i2l u
  have h2 := c_lsub u.toInt64 233
  have h3 := rng32 u
  have h4 := rng64 (u.toInt64 - 233)
  have h5 := c_lshr (u.toInt64 - 233) 1 1 (by decide)
  simp only [Int64.reduceToInt] at h2
  simp only [tm_f, tm_f28, rf_f, Int64.lt_iff_toInt_lt, ← Int64.toInt_inj, ← Int32.toInt_inj, Int32.reduceToInt, Int64.reduceToInt]
  repeat' split
  all_goals first | rfl | omega
theorem own_l28 (p0 p1 v2 u0 : Int32) : lw_f28 p0 p1 v2 u0 = 1 := by
  simp only [lw_f28, own_eq, if_true]
theorem own_law (p0 p1 : Int32) : lw_f p0 p1 = 1 := by
  simp only [lw_f, lw_f11, own_l28, ite_self]

set_option maxRecDepth 65536 in
set_option maxHeartbeats 40000000 in
theorem comes_1 {Post : Tables → Env → Array Value → State → Outcome → State → Prop} (hpost : ∀ tb e args s v u, (limb_1_1.after args s (.returned v) u = true ∧ limb_1_2.after args s (.returned v) u = true ∧ True) → FrameEnd s (.returned v) u (Jvm.fieldLocs frame_1_writes args s ++ Jvm.arrayLocs frame_1_arrays args s ++ Jvm.staticLocs frame_1_statics s) 0 0 → Post tb e args s (.returned v) u) :
    ArmFor flags0 classFile x code maxLocals ret World_1 tables_1 room_1 Calls_1 rest_1 Pre_1 Post := by
  intro l hfl _ _ p e ha hc hk s m args below hf hA hF happ hP
  obtain ⟨hcalls, hrest, hpre⟩ := hP
  obtain ⟨-, -, -, hnamed, -, -, -, hat⟩ := (Spec.applies_iff hf).mp happ
  obtain ⟨hg, hn⟩ := and_e (Cond.before_iff.mp (show (Jvm.Cond.and given_1 narrow_1).before args s = true from hpre))
  obtain ⟨gc, hg0⟩ := and_e hg
  obtain ⟨g0, g1⟩ := and_e hg0
  obtain ⟨w0, w1, rfl⟩ : ∃ w0 w1 : Value, args = #[w0, w1] := by
    have hs : args.size = 2 := by simpa [Cond.value, given_1] using gc
    obtain ⟨L⟩ := args
    match L, hs with
    | [w0, w1], _ => exact ⟨w0, w1, rfl⟩
  have hw := fun d (hd : d ∈ tables_1) => atoms_spec (ws := Jvm.Cond.code x code maxLocals ret :: tables_1) hat d (List.mem_cons_of_mem _ hd)
  have hfit : Fit s := fun {y c} hc i hi => by
    obtain ⟨ha, rfl⟩ := Array.getElem?_eq_some_iff.mp hc
    have q := List.all_eq_true.mp ((Array.all_eq_true_iff_forall_mem.mp hF) _ (Array.getElem_mem ha)) i (List.mem_range.mpr hi)
    simpa [Array.getElem?_eq_getElem hi] using q
  obtain ⟨i0, ei0⟩ := is_v g0
  obtain rfl : w0 = (.int i0) := Option.some.inj ei0
  obtain ⟨i1, ei1⟩ := is_v g1
  obtain rfl : w1 = (.int i1) := Option.some.inj ei1
  obtain ⟨n, o, h1, h2, h3, _, L, rfl, ⟨rfl, N⟩, hq⟩ := lw_rm l s _ hw tables_1 i0 i1  s.heap s.heap.size  p e ha hc hk s m _ below hf ((Spec.applies_iff_loose hf).mp happ).1 ⟨rfl, State.Warmed39.refl s, rfl⟩ trivial
  refine ⟨n, _, h1, h2, h3, hpost _ _ _ _ _ _ ⟨Cond.after_iff.mpr rfl, Cond.after_iff.mpr (eq_i res_at (Term.int_eval (1)) (by rw [own_law])), trivial⟩ ⟨hq.1, hq.2.1, (hq.2.2.sift fun y hy => Or.inr (N y hy)).mono (by decide) (by decide)⟩⟩
theorem main_1_1 : Claimed_1_1 := comes_1 fun _ _ _ _ _ _ h hF => ⟨h.1, hF⟩
theorem main_1_2 : Claimed_1_2 := comes_1 fun _ _ _ _ _ _ h hF => ⟨h.2.1, hF⟩
end Jvm.Pilot.@@N@@
namespace Jvm.Pilot.@@N@@
open Jvm Jvm.ClassFile Sem Op Lib Jvm.Free Jvm.Stand Jvm.Pilot.@@N@@.Jvm.D
/-! MADE BY PROGRAM (witnessworld.py) out of the Statement's table words and the real class files: 9 classes; the members and pool entries that the words name. The judged class is class 1, her method 2. -/
namespace start1
open Jvm.ClassFile
def u (s : String) : CpInfo := .utf8 (stringToUtf16 s)
/-- a pool by its gaps: so many unusable entries, then the entry; so many at the end -/
def gap : Nat → List CpInfo → List CpInfo
  | 0, r => r
  | n + 1, r => .unusable :: gap n r
def poolList (es : List (Nat × CpInfo)) (last : Nat) : List CpInfo := es.foldr (fun e r => gap e.1 (e.2 :: r)) (gap last [])
def pool (es : List (Nat × CpInfo)) (last : Nat) : Array CpInfo := ⟨poolList es last⟩
def fileOf (pool : Array CpInfo) (this : Nat) (attrs : Array Attribute := #[]) (ms : Array MethodInfo := #[]) (fl : Nat := 33) (sup : Nat := 0) (ifs : Array Nat := #[]) (fds : Array FieldInfo := #[]) : ClassFile where
  minorVersion := 0
  majorVersion := 65
  constantPool := pool
  accessFlags := fl
  thisClass := this
  superClass := sup
  interfaces := ifs
  fields := fds
  methods := ms
  attributes := attrs
def plain (name : String) (sup : Option ClassId) : Class where
  name := name
  kind := .ordinary
  loader := none
  accessFlags := 33
  super := sup
  interfaces := #[]
  cf := none
  fields := #[]
  methods := #[]
  instanceTypes := #[]
  staticTypes := #[]
  resolved := #[]
  callSites := []
  init := .initialized
  statics := none
  mirror := none

def pool0 : Array CpInfo := pool [(5, u "<init>"), (0, u "()V"), (1, .class_ 10), (1, u "java/lang/Object")] 113

def k0m0 : Method := { name := "<init>", desc := "()V", sig := { parameters := [], returnType := none }, accessFlags := 1, code := none }
/-- java/lang/Object -/
def k0 : Class := { plain "java/lang/Object" none with
  accessFlags := 33
  interfaces := #[]
  cf := some (fileOf pool0 8 #[] #[{ accessFlags := 1, nameIndex := 5, descriptorIndex := 6, attributes := #[] }] 33 0 #[] #[])
  fields := #[]
  methods := #[k0m0]
  instanceTypes := #[]
  staticTypes := #[]
  resolved := Array.replicate 124 none
  statics := none }

def pool1 : Array CpInfo := pool [(2, .class_ 4), (1, u "java/lang/Object"), (0, u "<init>"), (0, u "()V"), (0, .long 233), (1, .long 7), (1, .long 3), (1, .methodref 14 15), (0, .class_ 16), (0, .nameAndType 17 18), (0, u "com/example/xylograph/xylograph/sqlbinxml/Token"), (0, u "isMetadata"), (0, u "(I)Z"), (0, .methodref 20 21), (0, .class_ 22), (0, .nameAndType 23 18), (0, u "com/example/xylograph/xylograph/sqlbinxml/TokenIsMetadataPinLaw"), (0, u "reference"), (3, u "law"), (0, u "(II)Z")] 2

def k1m0 : Method := { name := "<init>", desc := "()V", sig := { parameters := [], returnType := none }, accessFlags := 2, code := none }
def k1c1 : Code := { maxStack := 4, maxLocals := 5, code := method_2_code, exceptionTable := #[], attributes := #[] }
def k1m1 : Method := { name := "reference", desc := "(I)Z", sig := { parameters := [.int], returnType := some .boolean }, accessFlags := 10, code := some k1c1 }
def k1c2 : Code := { maxStack := 3, maxLocals := 4, code := code, exceptionTable := #[], attributes := #[] }
def k1m2 : Method := { name := "law", desc := "(II)Z", sig := { parameters := [.int, .int], returnType := some .boolean }, accessFlags := 9, code := some k1c2 }
/-- com/example/xylograph/xylograph/sqlbinxml/TokenIsMetadataPinLaw -/
def k1 : Class := { plain "com/example/xylograph/xylograph/sqlbinxml/TokenIsMetadataPinLaw" (some 0) with
  accessFlags := 49
  interfaces := #[]
  cf := some (fileOf pool1 20 #[] #[{ accessFlags := 2, nameIndex := 5, descriptorIndex := 6, attributes := #[] }, { accessFlags := 10, nameIndex := 23, descriptorIndex := 18, attributes := #[] }, { accessFlags := 9, nameIndex := 27, descriptorIndex := 28, attributes := #[] }] 49 2 #[] #[])
  fields := #[]
  methods := #[k1m0, k1m1, k1m2]
  instanceTypes := #[]
  staticTypes := #[]
  resolved := Array.replicate 31 none
  statics := none }

def pool2 : Array CpInfo := pool [(2, .class_ 4), (1, u "java/lang/Object"), (0, u "<init>"), (0, u "()V"), (0, .class_ 8), (0, u "com/example/xylograph/xylograph/sqlbinxml/Token"), (2, u "NAMES"), (0, u "[Ljava/lang/String;"), (33, u "FLUSH"), (1, u "EXTENSION"), (3, u "NEST"), (7, u "CDATA"), (1, u "COMMENT"), (1, u "PI"), (3, u "ATTRIBUTE"), (3, u "ELEMENT"), (1, u "SUBSET"), (1, u "PUBLIC"), (1, u "SYSTEM"), (1, u "DOCTYPE"), (1, u "ENCODING"), (2, u "I"), (3, u "END_NEST"), (2, u "QNAME_DEFINITION"), (1, u "NAME_DEFINITION"), (1, u "CDATA_END"), (4, u "END_ATTRIBUTES"), (2, u "END_ELEMENT"), (7, u "XML_DECLARATION"), (3, u "isMetadata"), (0, u "(I)Z")] 20

def k2m0 : Method := { name := "<init>", desc := "()V", sig := { parameters := [], returnType := none }, accessFlags := 2, code := none }
def k2c1 : Code := { maxStack := 2, maxLocals := 1, code := prog_63_method_2_code, exceptionTable := #[], attributes := #[] }
def k2m1 : Method := { name := "isMetadata", desc := "(I)Z", sig := { parameters := [.int], returnType := some .boolean }, accessFlags := 8, code := some k2c1 }
/-- com/example/xylograph/xylograph/sqlbinxml/Token -/
def k2 : Class := { plain "com/example/xylograph/xylograph/sqlbinxml/Token" (some 0) with
  accessFlags := 48
  interfaces := #[]
  cf := some (fileOf pool2 7 #[] #[{ accessFlags := 2, nameIndex := 5, descriptorIndex := 6, attributes := #[] }, { accessFlags := 8, nameIndex := 116, descriptorIndex := 117, attributes := #[] }] 48 2 #[] #[{ accessFlags := 24, nameIndex := 46, descriptorIndex := 85, attributes := #[] }, { accessFlags := 24, nameIndex := 48, descriptorIndex := 85, attributes := #[] }, { accessFlags := 24, nameIndex := 89, descriptorIndex := 85, attributes := #[] }, { accessFlags := 24, nameIndex := 52, descriptorIndex := 85, attributes := #[] }, { accessFlags := 24, nameIndex := 92, descriptorIndex := 85, attributes := #[] }, { accessFlags := 24, nameIndex := 94, descriptorIndex := 85, attributes := #[] }, { accessFlags := 24, nameIndex := 96, descriptorIndex := 85, attributes := #[] }, { accessFlags := 24, nameIndex := 60, descriptorIndex := 85, attributes := #[] }, { accessFlags := 24, nameIndex := 62, descriptorIndex := 85, attributes := #[] }, { accessFlags := 24, nameIndex := 64, descriptorIndex := 85, attributes := #[] }, { accessFlags := 24, nameIndex := 101, descriptorIndex := 85, attributes := #[] }, { accessFlags := 24, nameIndex := 68, descriptorIndex := 85, attributes := #[] }, { accessFlags := 24, nameIndex := 104, descriptorIndex := 85, attributes := #[] }, { accessFlags := 24, nameIndex := 72, descriptorIndex := 85, attributes := #[] }, { accessFlags := 24, nameIndex := 74, descriptorIndex := 85, attributes := #[] }, { accessFlags := 24, nameIndex := 76, descriptorIndex := 85, attributes := #[] }, { accessFlags := 24, nameIndex := 78, descriptorIndex := 85, attributes := #[] }, { accessFlags := 24, nameIndex := 80, descriptorIndex := 85, attributes := #[] }, { accessFlags := 24, nameIndex := 82, descriptorIndex := 85, attributes := #[] }, { accessFlags := 24, nameIndex := 112, descriptorIndex := 85, attributes := #[] }, { accessFlags := 26, nameIndex := 11, descriptorIndex := 12, attributes := #[] }])
  fields := #[{ name := "FLUSH", type := .int, accessFlags := 24, slot := 0, constantValue := 0 }, { name := "EXTENSION", type := .int, accessFlags := 24, slot := 1, constantValue := 0 }, { name := "END_NEST", type := .int, accessFlags := 24, slot := 2, constantValue := 0 }, { name := "NEST", type := .int, accessFlags := 24, slot := 3, constantValue := 0 }, { name := "QNAME_DEFINITION", type := .int, accessFlags := 24, slot := 4, constantValue := 0 }, { name := "NAME_DEFINITION", type := .int, accessFlags := 24, slot := 5, constantValue := 0 }, { name := "CDATA_END", type := .int, accessFlags := 24, slot := 6, constantValue := 0 }, { name := "CDATA", type := .int, accessFlags := 24, slot := 7, constantValue := 0 }, { name := "COMMENT", type := .int, accessFlags := 24, slot := 8, constantValue := 0 }, { name := "PI", type := .int, accessFlags := 24, slot := 9, constantValue := 0 }, { name := "END_ATTRIBUTES", type := .int, accessFlags := 24, slot := 10, constantValue := 0 }, { name := "ATTRIBUTE", type := .int, accessFlags := 24, slot := 11, constantValue := 0 }, { name := "END_ELEMENT", type := .int, accessFlags := 24, slot := 12, constantValue := 0 }, { name := "ELEMENT", type := .int, accessFlags := 24, slot := 13, constantValue := 0 }, { name := "SUBSET", type := .int, accessFlags := 24, slot := 14, constantValue := 0 }, { name := "PUBLIC", type := .int, accessFlags := 24, slot := 15, constantValue := 0 }, { name := "SYSTEM", type := .int, accessFlags := 24, slot := 16, constantValue := 0 }, { name := "DOCTYPE", type := .int, accessFlags := 24, slot := 17, constantValue := 0 }, { name := "ENCODING", type := .int, accessFlags := 24, slot := 18, constantValue := 0 }, { name := "XML_DECLARATION", type := .int, accessFlags := 24, slot := 19, constantValue := 0 }, { name := "NAMES", type := (.array (.object "java/lang/String")), accessFlags := 26, slot := 20, constantValue := 0 }]
  methods := #[k2m0, k2m1]
  instanceTypes := #[]
  staticTypes := #[.int, .int, .int, .int, .int, .int, .int, .int, .int, .int, .int, .int, .int, .int, .int, .int, .int, .int, .int, .int, (.array (.object "java/lang/String"))]
  resolved := Array.replicate 138 none
  statics := none }

def pool3 : Array CpInfo := pool [(1, u "java/lang/Cloneable"), (0, .class_ 1), (0, u "java/lang/Object"), (0, .class_ 3)] 3

/-- java/lang/Cloneable -/
def k3 : Class := { plain "java/lang/Cloneable" (some 0) with
  accessFlags := 1537
  interfaces := #[]
  cf := some (fileOf pool3 2 #[] #[] 1537 4 #[] #[])
  fields := #[]
  methods := #[]
  instanceTypes := #[]
  staticTypes := #[]
  resolved := Array.replicate 8 none
  statics := none }

def pool4 : Array CpInfo := pool [(1, u "java/io/Serializable"), (0, .class_ 1), (0, u "java/lang/Object"), (0, .class_ 3)] 3

/-- java/io/Serializable -/
def k4 : Class := { plain "java/io/Serializable" (some 0) with
  accessFlags := 1537
  interfaces := #[]
  cf := some (fileOf pool4 2 #[] #[] 1537 4 #[] #[])
  fields := #[]
  methods := #[]
  instanceTypes := #[]
  staticTypes := #[]
  resolved := Array.replicate 8 none
  statics := none }

/-- the primitive byte -/
def k5 : Class := { plain "byte" none with kind := .primitive 'B', accessFlags := 0x411 }
/-- [B -/
def k6 : Class := { plain "[B" (some 0) with kind := .array 5 .byte, interfaces := #[3, 4], accessFlags := 1041 }

/-- the primitive int -/
def k7 : Class := { plain "int" none with kind := .primitive 'I', accessFlags := 0x411 }
/-- [I -/
def k8 : Class := { plain "[I" (some 0) with kind := .array 7 .int, interfaces := #[3, 4], accessFlags := 1041 }

def heap : Heap := #[]
def classes : Array Class := #[k0, k1, k2, k3, k4, k5, k6, k7, k8]
def interned : List (Array UInt16 × Addr) := []
def slotsUsed : Nat := 0
def theMethod : MethodId := ⟨1, 2⟩
def args0 : Array Value := #[.int 5, .int 1]
def aboutOver (below : List Frame) : State where
  vm := { classes := classes, interned := interned.toArray }
  heap := heap
  slotsUsed := slotsUsed
  threads := #[{ frames := .invoking theMethod args0 :: below }]
def below0 : List Frame := [.native { method := ⟨0, 0⟩, args := #[] }]
def about1 : State := aboutOver below0
def p0 : Program := .bare "" "" ""
def e0 : Env := launch0.env 0 0 0
theorem w_frames : about1.frames = Frame.invoking theMethod args0 :: below0 := rfl
set_option maxRecDepth 65536 in
theorem w_args : argsFit about1.vm theMethod args0 = true := by decide +kernel
set_option maxRecDepth 65536 in
theorem w_heap : heapFits about1 = true := by decide +kernel
set_option maxRecDepth 65536 in
theorem w_runnable : about1.curStatus? = some .runnable := by decide +kernel
set_option maxRecDepth 65536 in
theorem w_alone : about1.alone = true := by decide +kernel
set_option maxRecDepth 65536 in
theorem w_named : about1.methodNamed? x = some theMethod := by decide +kernel
set_option maxRecDepth 65536 in
theorem w_hears : about1.hears theMethod below0 = true := by decide +kernel
set_option maxRecDepth 65536 in
theorem w_ripe : about1.ripe theMethod args0 below0 = true := by decide +kernel
theorem w_running : about1.status = .running := rfl
set_option maxRecDepth 65536 in
theorem w_room : about1.hasRoom e0.platform room_1 = true :=
  launch0.hasRoom_least _ room_1 (by decide +kernel) (by decide +kernel) (by decide +kernel) (by decide +kernel) (by decide +kernel) (by decide +kernel)
theorem allAtoms_all (ts : List Jvm.Cond) (a : Array Jvm.Value) (st : Jvm.State) : (allAtoms ts).before a st = ts.all (fun c => c.before a st) := by
  induction ts with
  | nil => rfl
  | cons c t ih =>
    show (Jvm.Cond.and c (allAtoms t)).before a st = _
    rw [Jvm.Cond.before_and, ih, List.all_cons]
def words1 : List Jvm.Cond := Jvm.Cond.code x code maxLocals ret :: tables_1
/-- a 'code' word, met by the world's own term for the bytes: nothing is compared byte by byte -/
theorem code_word {y : MethodName} {bytes : ByteArray} {mx : Nat} {rt : Option FieldType} {a : Array Value} {s : State} {m : MethodId} {meth : Method} {c : Code} (h1 : s.methodNamed? y = some m) (h2 : s.vm.method? m = some meth) (h3 : meth.code = some c) (h4 : c.code = bytes)
    (h5 : (c.maxLocals == mx && c.exceptionTable.isEmpty && decide (c.maxStack ≤ mostOperands) && decide (meth.sig.returnType = rt) && !meth.locks && decide (parseMethodDescriptor y.desc = some meth.sig)) = true) : (Jvm.Cond.code y bytes mx rt).before a s = true := by
  simp only [Bool.and_eq_true, beq_iff_eq, Bool.not_eq_true', decide_eq_true_eq] at h5
  obtain ⟨⟨⟨⟨⟨g1, g2⟩, g3⟩, g4⟩, g5⟩, g6⟩ := h5
  simp [Cond.before, Cond.holds, Cond.value, h1, h2, h3, h4, g1, g2, g3, g4, g5, g6]
def isCode : Jvm.Cond → Bool
  | .code _ _ _ _ => true
  | _ => false
theorem all_split {L : List Jvm.Cond} {P : Jvm.Cond → Bool} (h1 : L.all (fun c => isCode c || P c) = true) (h2 : ∀ c ∈ L.filter isCode, P c = true) : L.all P = true := by
  refine List.all_eq_true.mpr fun c hc => ?_
  have h := List.all_eq_true.mp h1 c hc
  rcases Bool.eq_false_or_eq_true (isCode c) with hi | hi
  · exact h2 c (List.mem_filter.mpr ⟨hc, hi⟩)
  · simpa [hi] using h
set_option maxRecDepth 65536 in
theorem w_c0 : (Jvm.Cond.code x code maxLocals ret).before args0 about1 = true := code_word (m := ⟨1, 2⟩) (meth := k1m2) (c := k1c2) (by decide +kernel) rfl rfl rfl (by decide +kernel)
set_option maxRecDepth 65536 in
theorem w_c1 : (Jvm.Cond.code ({ cls := "com/example/xylograph/xylograph/sqlbinxml/Token", name := "isMetadata", desc := "(I)Z" } : Jvm.MethodName) prog_63_method_2_code (1 : Nat) (Option.some Jvm.ClassFile.FieldType.boolean)).before args0 about1 = true := code_word (m := ⟨2, 1⟩) (meth := k2m1) (c := k2c1) (by decide +kernel) rfl rfl rfl (by decide +kernel)
set_option maxRecDepth 65536 in
theorem w_c2 : (Jvm.Cond.code ({ cls := "com/example/xylograph/xylograph/sqlbinxml/TokenIsMetadataPinLaw", name := "reference", desc := "(I)Z" } : Jvm.MethodName) method_2_code (5 : Nat) (Option.some Jvm.ClassFile.FieldType.boolean)).before args0 about1 = true := code_word (m := ⟨1, 1⟩) (meth := k1m1) (c := k1c1) (by decide +kernel) rfl rfl rfl (by decide +kernel)
def codes1 : List Jvm.Cond := [Jvm.Cond.code x code maxLocals ret, Jvm.Cond.code ({ cls := "com/example/xylograph/xylograph/sqlbinxml/Token", name := "isMetadata", desc := "(I)Z" } : Jvm.MethodName) prog_63_method_2_code (1 : Nat) (Option.some Jvm.ClassFile.FieldType.boolean), Jvm.Cond.code ({ cls := "com/example/xylograph/xylograph/sqlbinxml/TokenIsMetadataPinLaw", name := "reference", desc := "(I)Z" } : Jvm.MethodName) method_2_code (5 : Nat) (Option.some Jvm.ClassFile.FieldType.boolean)]
set_option maxRecDepth 65536 in
theorem codes_eq : words1.filter isCode = codes1 := rfl
theorem w_codes : ∀ c ∈ words1.filter isCode, c.before args0 about1 = true := by
  rw [codes_eq]
  intro c hc
  simp only [codes1, List.mem_cons, List.not_mem_nil, or_false] at hc
  rcases hc with rfl | rfl | rfl
  · exact w_c0
  · exact w_c1
  · exact w_c2
set_option maxRecDepth 65536 in
theorem w_t1 : words1.all (fun c => isCode c || c.before args0 about1) = true := by decide +kernel
theorem w_tables : (allAtoms (Jvm.Cond.code x code maxLocals ret :: tables_1)).before args0 about1 = true := by
  rw [allAtoms_all]
  show words1.all (fun c => c.before args0 about1) = true
  refine all_split ?_ w_codes
  rw [w_t1]
set_option maxRecDepth 65536 in
theorem w_case : (Jvm.Cond.and given_1 narrow_1).before args0 about1 = true := by decide +kernel
theorem w_applies : (headSpec (Jvm.Cond.code x code maxLocals ret :: tables_1) room_1).applies x e0.platform about1 = true :=
  (Spec.applies_iff w_frames).mpr ⟨w_running, w_runnable, w_alone, w_named, w_hears, w_ripe, w_room, w_tables⟩
theorem atStart : AtStart classFile x code maxLocals ret World_1 tables_1 room_1 Calls_1 rest_1 Pre_1 launch0 p0 e0 about1 theMethod args0 below0 :=
  ⟨lists_1, trivial, launch0.admits_env _ _ _, launch0.least_env, fairChoices_fair.cas, fairChoices_fair.clock, w_frames, w_args, w_heap, w_applies, trivial, trivial, w_case⟩
end start1
theorem witness_1 : WitnessClaimed_1 := ⟨start1.p0, start1.e0, start1.about1, start1.theMethod, start1.args0, start1.below0, start1.atStart⟩
end Jvm.Pilot.@@N@@
