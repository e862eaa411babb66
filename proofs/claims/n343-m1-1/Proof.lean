import JvmDerived
import JvmDerived.Pilot.@@N@@Statement
import JvmDerived.Pilot.@@N@@Code
set_option linter.unusedVariables false
set_option linter.unusedSimpArgs false

namespace Jvm.Pilot.@@N@@
open Jvm Jvm.ClassFile Sem Op Lib Jvm.Free Jvm.Stand Jvm.LawKit Jvm.RoadKit Bundle Jvm.Pilot.@@N@@.Jvm.D
/-! own layer: 'from here the run ends, and Q holds of what it leaves' (own_Dn), stepped backwards -/
def own_Dn (p : Program) (e : Env) (below : List Frame) (s : State) (Q : Option Value → Heap → List Loc → Prop) (K N : Nat) (A : State) : Prop :=
  ∃ s₂ o, Steps p.tables e below A s₂ ∧ s₂.status = .running ∧ Ended s₂ below o ∧ ∃ v L, o = .returned v ∧ Q v s₂.heap L ∧ FrameEnd s o s₂ L K N
def own_Q (r : Option Value) (n0 : Nat) (h0 : Heap) (v : Option Value) (h : Heap) (L : List Loc) : Prop := v = r ∧ Fr n0 L ∧ h = h0
def own_QL (r : Option Value) (n0 : Nat) (v : Option Value) (h : Heap) (L : List Loc) : Prop := v = r ∧ Fr n0 L
def own_Cx (p : Program) (s : State) (m : MethodId) (meth : Method) (c : Code) (Z : State) (a0 : Array Value) (bytes : ByteArray) (ml : Nat) (own nm : String) (ret : Option FieldType) : Prop :=
  p.tables.exec = Jvm.exec ∧ Z.Warmed39 s.vm ∧ (∀ d ∈ tables_1, d.before a0 Z = true) ∧ c.code = bytes ∧ c.maxLocals = ml ∧ s.vm.findClass own = some m.cls ∧ meth.sig.returnType = ret ∧ meth.locks = false ∧ meth.name = nm
theorem own_st {p : Program} {e : Env} {below : List Frame} {s : State} {Q : Option Value → Heap → List Loc → Prop} {K N : Nat} {A B : State} (k : ∀ t, Steps p.tables e below B t → Steps p.tables e below A t) (d : own_Dn p e below s Q K N B) : own_Dn p e below s Q K N A := by
  obtain ⟨s₂, o, h, r⟩ := d
  exact ⟨s₂, o, k _ h, r⟩
theorem own_tr {p : Program} {e : Env} {below : List Frame} {s : State} {Q : Option Value → Heap → List Loc → Prop} {K N : Nat} {A B : State} (k : Steps p.tables e below A B) (d : own_Dn p e below s Q K N B) : own_Dn p e below s Q K N A :=
  own_st (fun _ h => k.trans h) d
theorem own_cat {v : Value} (h : v.isRef = true) : v.category = 1 := by
  cases v <;> first | rfl | (simp [Value.isRef] at h)
section own
variable {p : Program} {l : Launch} {e : Env} {R : Room} {s : State} {m : MethodId} {args : Array Value} {below : List Frame} {meth : Method} {c : Code} {T : State} {locs : List Loc} {cells slots : Nat} {Q : Option Value → Heap → List Loc → Prop} {K N : Nat}
theorem own_ret (X : Stand p l e R s m args below meth c T locs cells slots) (hlk : meth.locks = false) {v : Option Value} (hv : meth.sig.returnType = none → v = none) {A : State} (hK : cells ≤ K) (hN : slots ≤ N) (hq : Q v T.heap locs)
    (hst : ∀ fs, (∀ (f : JFrame) (acts : List Action), f.method = m → f.locked = none → f.entered = [] → (doReturn e (T.setTop f) acts v).1 = T.setFrames fs) → Steps p.tables e below A (T.setFrames fs)) : own_Dn p e below s Q K N A := by
  obtain ⟨fs, hr, hrun, hended, hW, hsame⟩ := X.leave (v := v) hv hlk
  exact ⟨_, _, hst fs hr, hrun, hended, _, _, rfl, hq, ⟨_, rfl⟩, hW, hsame.mono hK hN⟩
theorem own_retI (X : Stand p l e R s m args below meth c T locs cells slots) (hx : p.tables.exec = Jvm.exec) (hret : meth.sig.returnType = some .int) (hlk : meth.locks = false) {pc : Nat} {Ls : Array Slot} {z : Int32} {rest : List Value} (hd : decode c.code pc = .ok (.ireturn, 1)) (hK : cells ≤ K) (hN : slots ≤ N)
    (hq : Q (some (.int z)) T.heap locs) : own_Dn p e below s Q K N (T.setTop (mkF m pc Ls (.int z :: rest))) :=
  own_ret X hlk (fun h => by rw [hret] at h; cases h) hK hN hq (fun fs hr => retOut X hx hret rfl (Or.inl ⟨rfl, Or.inl rfl, _, rfl⟩) hd hr)
theorem own_retJ (X : Stand p l e R s m args below meth c T locs cells slots) (hx : p.tables.exec = Jvm.exec) (hret : meth.sig.returnType = some .long) (hlk : meth.locks = false) {pc : Nat} {Ls : Array Slot} {z : Int64} {rest : List Value} (hd : decode c.code pc = .ok (.lreturn, 1)) (hK : cells ≤ K) (hN : slots ≤ N)
    (hq : Q (some (.long z)) T.heap locs) : own_Dn p e below s Q K N (T.setTop (mkF m pc Ls (.long z :: rest))) :=
  own_ret X hlk (fun h => by rw [hret] at h; cases h) hK hN hq (fun fs hr => retOut X hx hret rfl (Or.inr (Or.inl ⟨rfl, rfl, _, rfl⟩)) hd hr)
theorem own_retZ (X : Stand p l e R s m args below meth c T locs cells slots) (hx : p.tables.exec = Jvm.exec) (hret : meth.sig.returnType = some .boolean) (hlk : meth.locks = false) {pc : Nat} {Ls : Array Slot} {z : Int32} {rest : List Value} (hz : z &&& 1 = z) (hd : decode c.code pc = .ok (.ireturn, 1)) (hK : cells ≤ K) (hN : slots ≤ N)
    (hq : Q (some (.int z)) T.heap locs) : own_Dn p e below s Q K N (T.setTop (mkF m pc Ls (.int z :: rest))) :=
  own_ret X hlk (fun h => by rw [hret] at h; cases h) hK hN hq (fun fs hr => retOut X hx (w := .int z) hret (show Value.int (z &&& 1) = .int z from congrArg Value.int hz) (Or.inl ⟨rfl, Or.inr (Or.inl rfl), _, rfl⟩) hd hr)
theorem own_retV (X : Stand p l e R s m args below meth c T locs cells slots) (hx : p.tables.exec = Jvm.exec) (hret : meth.sig.returnType = none) (hlk : meth.locks = false) {pc : Nat} {Ls : Array Slot} (hd : decode c.code pc = .ok (.return_, 1)) (hK : cells ≤ K) (hN : slots ≤ N)
    (hq : Q none T.heap locs) : own_Dn p e below s Q K N (T.setTop (mkF m pc Ls [])) :=
  own_ret X hlk (fun _ => rfl) hK hN hq (fun fs hr => X.returnOut hx hret hd hr)
theorem own_retA (X : Stand p l e R s m args below meth c T locs cells slots) (hx : p.tables.exec = Jvm.exec) {t : FieldType} (ht : t.isReference = true) (hret : meth.sig.returnType = some t) (hlk : meth.locks = false) {pc : Nat} {Ls : Array Slot} {w : Value} {rest : List Value} (hw : w.isRef = true) (hn : narrow t w = w) (hd : decode c.code pc = .ok (.areturn, 1)) (hK : cells ≤ K) (hN : slots ≤ N)
    (hq : Q (some w) T.heap locs) : own_Dn p e below s Q K N (T.setTop (mkF m pc Ls (w :: rest))) :=
  own_ret X hlk (fun h => by rw [hret] at h; cases h) hK hN hq (fun fs hr => retOut X hx hret hn (Or.inr (Or.inr (Or.inr (Or.inr ⟨rfl, ht, hw⟩)))) hd hr)
end own
theorem own_met {l : Launch} {Z : State} {a0 : Array Value} (hw : ∀ d ∈ tables_1, d.before a0 Z = true) {y : MethodName} {bytes : ByteArray} {ml : Nat} {ret : Option FieldType} {ws : List Jvm.Cond} {rm : Room} {as' : Array Value} {h0 : Heap} {Q : Option Value → Heap → List Loc → Prop} (hpl : plainFor y = true)
    (body : ∀ p e s m below meth c s₁, own_Cx p s m meth c Z a0 bytes ml y.cls y.name ret → Stand p l e rm s m as' below meth c s₁ [] 0 0 → s₁.heap = h0 → own_Dn p e below s Q rm.cells rm.slots (s₁.setTop (entryFrame m as' ml))) :
    MetFree l y (head1 (Jvm.Cond.code y bytes ml ret :: ws) rm) (fun a U => a = as' ∧ Z.Warmed39 U.vm ∧ U.heap = h0) (fun _ _ _ _ _ => True) (fun _ U o U' => ∃ v L, o = .returned v ∧ Q v U'.heap L ∧ FrameEnd U o U' L rm.cells rm.slots) := by
  refine MetFree.of_bodySF hpl hisR ?_
  intro p e s m args below meth c s₁ Bd hml0 hP hK
  obtain ⟨rfl, hZ, hh⟩ := hP
  exact body p e s m below meth c s₁ ⟨Bd.exec, hZ, hw, Bd.bytes, hml0, findClass_of_methodNamed Bd.named, Bd.returns, BodyLoose.notSynchronized Bd, (name_of_methodNamed Bd.named Bd.method).1⟩ (Stand.of_body Bd) (by rw [← hh, Bd.state]; rfl)
theorem own_jtlt {x y : Int64} (h : x < y) : ifCond.holds .lt (lcmpW x y) = true ∧ ifCond.holds .ge (lcmpW x y) = false ∧ ifCond.holds .gt (lcmpW y x) = true ∧ ifCond.holds .le (lcmpW y x) = false := by
  have h1 : lcmpW x y < 0 := by rw [lcW]; exact (lc_lt x y).mpr h
  have h2 : 0 < lcmpW y x := by rw [lcW]; exact (lc_gt y x).mpr h
  exact ⟨(if0 _ _).trans (tlt h1).1, (if0 _ _).trans (tlt h1).2.1, (if0 _ _).trans (tlt h2).2.2.1, (if0 _ _).trans (tlt h2).2.2.2⟩
theorem own_jflt {x y : Int64} (h : ¬ x < y) : ifCond.holds .lt (lcmpW x y) = false ∧ ifCond.holds .ge (lcmpW x y) = true ∧ ifCond.holds .gt (lcmpW y x) = false ∧ ifCond.holds .le (lcmpW y x) = true := by
  have h1 : ¬ lcmpW x y < 0 := by rw [lcW]; exact fun q => h ((lc_lt x y).mp q)
  have h2 : ¬ 0 < lcmpW y x := by rw [lcW]; exact fun q => h ((lc_gt y x).mp q)
  exact ⟨(if0 _ _).trans (flt h1).1, (if0 _ _).trans (flt h1).2.1, (if0 _ _).trans (flt h2).2.2.1, (if0 _ _).trans (flt h2).2.2.2⟩
theorem own_jteq {x y : Int64} (h : x = y) : ifCond.holds .eq (lcmpW x y) = true ∧ ifCond.holds .ne (lcmpW x y) = false := by
  have h1 : lcmpW x y = 0 := by rw [lcW]; exact (lc_eq x y).mpr h
  exact ⟨(if0 _ _).trans (teq h1).1, (if0 _ _).trans (teq h1).2⟩
theorem own_jfeq {x y : Int64} (h : ¬ x = y) : ifCond.holds .eq (lcmpW x y) = false ∧ ifCond.holds .ne (lcmpW x y) = true := by
  have h1 : ¬ lcmpW x y = 0 := by rw [lcW]; exact fun q => h ((lc_eq x y).mp q)
  exact ⟨(if0 _ _).trans (feq h1).1, (if0 _ _).trans (feq h1).2⟩
theorem own_miss (a : Int32) (ks : List Int32) (h : ∀ k ∈ ks, ¬ a = k) {ps : List (Int × Int)} (e : ps.map (·.1) = ks.map Int32.toInt) : ∀ p ∈ ps, p.1 ≠ a.toInt := by
  intro p hp q
  have h1 : p.1 ∈ ps.map (·.1) := List.mem_map.mpr ⟨p, hp, rfl⟩
  rw [e] at h1
  obtain ⟨k, hk, r⟩ := List.mem_map.mp h1
  exact h k hk (Int32.toInt_inj.mp (q.symm.trans r.symm))
theorem own_Sta_keep {Z : State} {h h' : Heap} {C n d : String} {v : Value} {a : Addr} {C' : String} (F : Sta Z h C n d v) (K : Keep h h' [a]) (E : Exa Z h a C') : Sta Z h' C n d v := by
  obtain ⟨cf, i, k, f, st, cell, h1, h2, h3, h4, h5, h6, h7⟩ := F
  obtain ⟨cl, k', e1, -, -, e4, -⟩ := E
  refine ⟨cf, i, k, f, st, cell, h1, h2, h3, h4, K.2.1 _ _ h5 (ninS (fun q => ?_) nin0), h6, h7⟩
  subst q
  cases h5.symm.trans e1
  rw [h6] at e4; cases e4
theorem own_Sta_keep0 {Z : State} {h h' : Heap} {C n d : String} {v : Value} (F : Sta Z h C n d v) (K : Keep h h' []) : Sta Z h' C n d v := by
  obtain ⟨cf, i, k, f, st, cell, h1, h2, h3, h4, h5, h6, h7⟩ := F
  exact ⟨cf, i, k, f, st, cell, h1, h2, h3, h4, K.2.1 _ _ h5 nin0, h6, h7⟩
theorem own_ne_or {r x : Addr} {ws : List Addr} {H : Heap} (h : r ∈ ws ∨ H.size ≤ r) (hl : x < H.size) (hn : x ∉ ws) : x ≠ r := fun e => h.elim (fun q => hn (e ▸ q)) (fun q => Nat.lt_irrefl _ (Nat.lt_of_lt_of_le (e ▸ hl) q))
theorem own_or_up {r : Addr} {ws ws' : List Addr} {h0 H : Heap} (h : r ∈ ws ∨ H.size ≤ r) (hk : h0.size ≤ H.size) (all : ∀ x ∈ ws, x ∈ ws' ∨ h0.size ≤ x) : r ∈ ws' ∨ h0.size ≤ r := h.elim (all r) (fun q => Or.inr (Nat.le_trans hk q))
theorem own_selp {Z s : State} {a0 args : Array Value} {y : MethodName} {n : Nat} (hZ : Z.Warmed39 s.vm) (w1 : (Cond.instantiable y.cls n).before a0 Z = true) (w2 : (Cond.instanceMethod y).before a0 Z = true) (w3 : (Cond.privateMethod y).before a0 Z = true) (hy : y.cls ≠ "java/lang/invoke/MethodHandle" ∧ y.cls ≠ "java/lang/invoke/VarHandle") : (Cond.selects y.cls y y).before args s = true := by
  have i1 : (Cond.instantiable y.cls n).before args s = true := mvT hZ w1
  obtain ⟨c, k, h1, h2, -, h4, -, -⟩ := Cond.instantiable_spec i1
  have h5 : k.isInterface = false := by
    cases hk : k.isInterface
    · rfl
    · rw [hk] at h4; simp at h4
  exact selects_self_of_private h1 h2 h5 (Cond.privateMethod_at (mvP hZ w3 (args := args))) (mvT hZ w2) hy

theorem own_pd0 : parseMethodDescriptor "(I)I" = some ⟨[.int], some .int⟩ := by decide +kernel
theorem own_pd1 : parseMethodDescriptor "(I)Lcom/example/tally_flows/tallyflows/packet/LinkHeader;" = some ⟨[.int], some (.object "com/example/tally_flows/tallyflows/packet/LinkHeader")⟩ := by decide +kernel
theorem kn_d0 : decode method_3_code 0 = .ok (.iload_n 0, 1) := by decide +kernel
theorem kn_d1 : decode method_3_code 1 = .ok (.ifCond .ne 5, 3) := by decide +kernel
theorem kn_d4 : decode method_3_code 4 = .ok (.iconst 1, 1) := by decide +kernel
theorem kn_d5 : decode method_3_code 5 = .ok (.ireturn, 1) := by decide +kernel
theorem kn_d6 : decode method_3_code 6 = .ok (.iload_n 0, 1) := by decide +kernel
theorem kn_d7 : decode method_3_code 7 = .ok (.iconst 1, 1) := by decide +kernel
theorem kn_d8 : decode method_3_code 8 = .ok (.if_icmp .ne 6, 3) := by decide +kernel
theorem kn_d11 : decode method_3_code 11 = .ok (.bipush 113, 2) := by decide +kernel
theorem kn_d13 : decode method_3_code 13 = .ok (.ireturn, 1) := by decide +kernel
theorem kn_d14 : decode method_3_code 14 = .ok (.iload_n 0, 1) := by decide +kernel
theorem kn_d15 : decode method_3_code 15 = .ok (.iconst 2, 1) := by decide +kernel
theorem kn_d16 : decode method_3_code 16 = .ok (.if_icmp .ne 7, 3) := by decide +kernel
theorem kn_d19 : decode method_3_code 19 = .ok (.sipush 276, 3) := by decide +kernel
theorem kn_d22 : decode method_3_code 22 = .ok (.ireturn, 1) := by decide +kernel
theorem kn_d23 : decode method_3_code 23 = .ok (.iload_n 0, 1) := by decide +kernel
theorem kn_d24 : decode method_3_code 24 = .ok (.iconst 3, 1) := by decide +kernel
theorem kn_d25 : decode method_3_code 25 = .ok (.if_icmp .ne 6, 3) := by decide +kernel
theorem kn_d28 : decode method_3_code 28 = .ok (.bipush 101, 2) := by decide +kernel
theorem kn_d30 : decode method_3_code 30 = .ok (.ireturn, 1) := by decide +kernel
theorem kn_d31 : decode method_3_code 31 = .ok (.iload_n 0, 1) := by decide +kernel
theorem kn_d32 : decode method_3_code 32 = .ok (.iconst 4, 1) := by decide +kernel
theorem kn_d33 : decode method_3_code 33 = .ok (.if_icmp .ne 7, 3) := by decide +kernel
theorem kn_d36 : decode method_3_code 36 = .ok (.sipush 228, 3) := by decide +kernel
theorem kn_d39 : decode method_3_code 39 = .ok (.ireturn, 1) := by decide +kernel
theorem kn_d40 : decode method_3_code 40 = .ok (.sipush 229, 3) := by decide +kernel
theorem kn_d43 : decode method_3_code 43 = .ok (.ireturn, 1) := by decide +kernel
def kn_f (p0 : Int32)  : Int32 :=
  if p0 = (0 : Int32) then
    (1 : Int32)
  else
    if p0 = (1 : Int32) then
      (113 : Int32)
    else
      if p0 = (2 : Int32) then
        (276 : Int32)
      else
        if p0 = (3 : Int32) then
          (101 : Int32)
        else
          if p0 = (4 : Int32) then
            (228 : Int32)
          else
            (229 : Int32)
set_option maxRecDepth 65536 in
set_option maxHeartbeats 40000000 in
theorem kn_c0 {l : Launch} {Z : State} {a0 : Array Value} {p0 : Int32} {h0 : Heap} {n0 : Nat} {p : Program} {e : Env} {s : State} {m : MethodId} {args : Array Value} {below : List Frame} {meth : Method} {c : Code} {T0 : State} {locs : List Loc} {r0 : Int32} (C0 : own_Cx p s m meth c Z a0 method_3_code 1 "com/example/tally_flows/tallyflows/packet/LinkHeaderOfPinLaw" "known" (some .int)) (X0 : Stand p l e ({ frames := 0, cells := 0, slots := 0, locals := 0 } : Room) s m args below meth c T0 locs 0 0) (e0 : T0.heap = h0) (N0 : Fr n0 locs)  (hr0 : r0 = kn_f p0 ) :
    own_Dn p e below s (own_Q (some (.int r0)) n0 h0) ({ frames := 0, cells := 0, slots := 0, locals := 0 } : Room).cells ({ frames := 0, cells := 0, slots := 0, locals := 0 } : Room).slots (T0.setTop (mkF m 0 #[.val (.int p0)] [])) := by
  obtain ⟨hx, hZ, hw, hby, hml, hown, hret, hlk, hnm⟩ := id C0
  refine own_st (fun _ k => XS.iloadN X0.here hx rfl (hb hby kn_d0) rfl k) ?_
  show own_Dn p e below s _ _ _ (T0.setTop (mkF m 1 #[.val (.int p0)] [(.int p0)]))
  by_cases hc6 : p0 = (0 : Int32)
  · refine own_st (fun _ k => XS.ifNo X0.here hx rfl (hb hby kn_d1) rfl ((if0 _ _).trans (teq hc6).2) k) ?_
    show own_Dn p e below s _ _ _ (T0.setTop (mkF m 4 #[.val (.int p0)] []))
    refine own_st (fun _ k => XS.iconst X0.here hx rfl (hb hby kn_d4) k) ?_
    show own_Dn p e below s _ _ _ (T0.setTop (mkF m 5 #[.val (.int p0)] [(.int (1 : Int32))]))
    exact own_retI X0 hx hret hlk (hb hby kn_d5) (by decide) (by decide) ⟨(by rw [hr0, kn_f, if_pos hc6]), N0, e0⟩
  · refine own_st (fun _ k => XS.ifYes X0.here hx rfl (pc0 := 1) (pc' := 6) rfl (hb hby kn_d1) rfl ((if0 _ _).trans (feq hc6).2) (by decide) (by decide) k) ?_
    show own_Dn p e below s _ _ _ (T0.setTop (mkF m 6 #[.val (.int p0)] []))
    refine own_st (fun _ k => XS.iloadN X0.here hx rfl (hb hby kn_d6) rfl (XS.iconst X0.here hx rfl (hb hby kn_d7) k)) ?_
    show own_Dn p e below s _ _ _ (T0.setTop (mkF m 8 #[.val (.int p0)] [(.int (1 : Int32)), (.int p0)]))
    by_cases hc7 : p0 = (1 : Int32)
    · refine own_st (fun _ k => XS.icmpNo X0.here hx rfl (hb hby kn_d8) rfl (teq hc7).2 k) ?_
      show own_Dn p e below s _ _ _ (T0.setTop (mkF m 11 #[.val (.int p0)] []))
      refine own_st (fun _ k => XS.bipush X0.here hx rfl (hb hby kn_d11) k) ?_
      show own_Dn p e below s _ _ _ (T0.setTop (mkF m 13 #[.val (.int p0)] [(.int (113 : Int32))]))
      exact own_retI X0 hx hret hlk (hb hby kn_d13) (by decide) (by decide) ⟨(by rw [hr0, kn_f, if_neg hc6, if_pos hc7]), N0, e0⟩
    · refine own_st (fun _ k => XS.icmpYes X0.here hx rfl (pc0 := 8) (pc' := 14) rfl (hb hby kn_d8) rfl (feq hc7).2 (by decide) (by decide) k) ?_
      show own_Dn p e below s _ _ _ (T0.setTop (mkF m 14 #[.val (.int p0)] []))
      refine own_st (fun _ k => XS.iloadN X0.here hx rfl (hb hby kn_d14) rfl (XS.iconst X0.here hx rfl (hb hby kn_d15) k)) ?_
      show own_Dn p e below s _ _ _ (T0.setTop (mkF m 16 #[.val (.int p0)] [(.int (2 : Int32)), (.int p0)]))
      by_cases hc8 : p0 = (2 : Int32)
      · refine own_st (fun _ k => XS.icmpNo X0.here hx rfl (hb hby kn_d16) rfl (teq hc8).2 k) ?_
        show own_Dn p e below s _ _ _ (T0.setTop (mkF m 19 #[.val (.int p0)] []))
        refine own_st (fun _ k => XS.sipush X0.here hx rfl (hb hby kn_d19) k) ?_
        show own_Dn p e below s _ _ _ (T0.setTop (mkF m 22 #[.val (.int p0)] [(.int (276 : Int32))]))
        exact own_retI X0 hx hret hlk (hb hby kn_d22) (by decide) (by decide) ⟨(by rw [hr0, kn_f, if_neg hc6, if_neg hc7, if_pos hc8]), N0, e0⟩
      · refine own_st (fun _ k => XS.icmpYes X0.here hx rfl (pc0 := 16) (pc' := 23) rfl (hb hby kn_d16) rfl (feq hc8).2 (by decide) (by decide) k) ?_
        show own_Dn p e below s _ _ _ (T0.setTop (mkF m 23 #[.val (.int p0)] []))
        refine own_st (fun _ k => XS.iloadN X0.here hx rfl (hb hby kn_d23) rfl (XS.iconst X0.here hx rfl (hb hby kn_d24) k)) ?_
        show own_Dn p e below s _ _ _ (T0.setTop (mkF m 25 #[.val (.int p0)] [(.int (3 : Int32)), (.int p0)]))
        by_cases hc9 : p0 = (3 : Int32)
        · refine own_st (fun _ k => XS.icmpNo X0.here hx rfl (hb hby kn_d25) rfl (teq hc9).2 k) ?_
          show own_Dn p e below s _ _ _ (T0.setTop (mkF m 28 #[.val (.int p0)] []))
          refine own_st (fun _ k => XS.bipush X0.here hx rfl (hb hby kn_d28) k) ?_
          show own_Dn p e below s _ _ _ (T0.setTop (mkF m 30 #[.val (.int p0)] [(.int (101 : Int32))]))
          exact own_retI X0 hx hret hlk (hb hby kn_d30) (by decide) (by decide) ⟨(by rw [hr0, kn_f, if_neg hc6, if_neg hc7, if_neg hc8, if_pos hc9]), N0, e0⟩
        · refine own_st (fun _ k => XS.icmpYes X0.here hx rfl (pc0 := 25) (pc' := 31) rfl (hb hby kn_d25) rfl (feq hc9).2 (by decide) (by decide) k) ?_
          show own_Dn p e below s _ _ _ (T0.setTop (mkF m 31 #[.val (.int p0)] []))
          refine own_st (fun _ k => XS.iloadN X0.here hx rfl (hb hby kn_d31) rfl (XS.iconst X0.here hx rfl (hb hby kn_d32) k)) ?_
          show own_Dn p e below s _ _ _ (T0.setTop (mkF m 33 #[.val (.int p0)] [(.int (4 : Int32)), (.int p0)]))
          by_cases hc10 : p0 = (4 : Int32)
          · refine own_st (fun _ k => XS.icmpNo X0.here hx rfl (hb hby kn_d33) rfl (teq hc10).2 k) ?_
            show own_Dn p e below s _ _ _ (T0.setTop (mkF m 36 #[.val (.int p0)] []))
            refine own_st (fun _ k => XS.sipush X0.here hx rfl (hb hby kn_d36) k) ?_
            show own_Dn p e below s _ _ _ (T0.setTop (mkF m 39 #[.val (.int p0)] [(.int (228 : Int32))]))
            exact own_retI X0 hx hret hlk (hb hby kn_d39) (by decide) (by decide) ⟨(by rw [hr0, kn_f, if_neg hc6, if_neg hc7, if_neg hc8, if_neg hc9, if_pos hc10]), N0, e0⟩
          · refine own_st (fun _ k => XS.icmpYes X0.here hx rfl (pc0 := 33) (pc' := 40) rfl (hb hby kn_d33) rfl (feq hc10).2 (by decide) (by decide) k) ?_
            show own_Dn p e below s _ _ _ (T0.setTop (mkF m 40 #[.val (.int p0)] []))
            refine own_st (fun _ k => XS.sipush X0.here hx rfl (hb hby kn_d40) k) ?_
            show own_Dn p e below s _ _ _ (T0.setTop (mkF m 43 #[.val (.int p0)] [(.int (229 : Int32))]))
            exact own_retI X0 hx hret hlk (hb hby kn_d43) (by decide) (by decide) ⟨(by rw [hr0, kn_f, if_neg hc6, if_neg hc7, if_neg hc8, if_neg hc9, if_neg hc10]), N0, e0⟩
theorem kn_ef (m : MethodId) (p0 : Int32) : entryFrame m #[(.int p0)] 1 = mkF m 0 #[.val (.int p0)] [] := by first | (simp [entryFrame, mkF, argsToLocals, Value.category]; done) | rfl
theorem kn_rm (l : Launch) (Z : State) (a0 : Array Value) (hw : ∀ d ∈ tables_1, d.before a0 Z = true) (ws : List Jvm.Cond) (p0 : Int32) (h0 : Heap) (n0 : Nat) :
    MetFree l (⟨"com/example/tally_flows/tallyflows/packet/LinkHeaderOfPinLaw", "known", "(I)I"⟩ : MethodName) (head1 (Jvm.Cond.code (⟨"com/example/tally_flows/tallyflows/packet/LinkHeaderOfPinLaw", "known", "(I)I"⟩ : MethodName) method_3_code 1 (some .int) :: ws) ({ frames := 0, cells := 0, slots := 0, locals := 0 } : Room)) (fun a U => a = #[(.int p0)] ∧ Z.Warmed39 U.vm ∧ U.heap = h0) (fun _ _ _ _ _ => True) (fun _ U o U' => ∃ v L, o = .returned v ∧ (own_Q (some (.int (kn_f p0))) n0 h0) v U'.heap L ∧ FrameEnd U o U' L ({ frames := 0, cells := 0, slots := 0, locals := 0 } : Room).cells ({ frames := 0, cells := 0, slots := 0, locals := 0 } : Room).slots) :=
  own_met hw (plainFor_of_name (by first | (simp [plainName, overriddenIn]; done) | decide +kernel)) (fun p e s m below meth c T0 C0 X0 e0 => own_st (fun _ k => castTop (kn_ef m p0) k) (kn_c0 C0 X0 e0 (Fr.nil n0) rfl))
theorem of_d0 : decode prog_97_method_4_code 0 = .ok (.iload_n 0, 1) := by decide +kernel
theorem of_d1 : decode prog_97_method_4_code 1 = .ok (.lookupswitch 95 #[(1, 59), (101, 77), (113, 65), (228, 83), (229, 89), (276, 71)], 59) := by decide +kernel
theorem of_d60 : decode prog_97_method_4_code 60 = .ok (.getstatic 3, 3) := by decide +kernel
theorem of_d63 : decode prog_97_method_4_code 63 = .ok (.goto 34, 3) := by decide +kernel
theorem of_d66 : decode prog_97_method_4_code 66 = .ok (.getstatic 7, 3) := by decide +kernel
theorem of_d69 : decode prog_97_method_4_code 69 = .ok (.goto 28, 3) := by decide +kernel
theorem of_d72 : decode prog_97_method_4_code 72 = .ok (.getstatic 10, 3) := by decide +kernel
theorem of_d75 : decode prog_97_method_4_code 75 = .ok (.goto 22, 3) := by decide +kernel
theorem of_d78 : decode prog_97_method_4_code 78 = .ok (.getstatic 13, 3) := by decide +kernel
theorem of_d81 : decode prog_97_method_4_code 81 = .ok (.goto 16, 3) := by decide +kernel
theorem of_d84 : decode prog_97_method_4_code 84 = .ok (.getstatic 16, 3) := by decide +kernel
theorem of_d87 : decode prog_97_method_4_code 87 = .ok (.goto 10, 3) := by decide +kernel
theorem of_d90 : decode prog_97_method_4_code 90 = .ok (.getstatic 19, 3) := by decide +kernel
theorem of_d93 : decode prog_97_method_4_code 93 = .ok (.goto 4, 3) := by decide +kernel
theorem of_d96 : decode prog_97_method_4_code 96 = .ok (.aconst_null, 1) := by decide +kernel
theorem of_d97 : decode prog_97_method_4_code 97 = .ok (.areturn, 1) := by decide +kernel
def of_f (p0 : Int32) (w0 : Addr) (w1 : Addr) (w2 : Addr) (w3 : Addr) (w4 : Addr) (w5 : Addr)  : Value :=
  if p0 = (1 : Int32) then
    (.ref w0)
  else
    if p0 = (101 : Int32) then
      (.ref w1)
    else
      if p0 = (113 : Int32) then
        (.ref w2)
      else
        if p0 = (228 : Int32) then
          (.ref w5)
        else
          if p0 = (229 : Int32) then
            (.ref w3)
          else
            if p0 = (276 : Int32) then
              (.ref w4)
            else
              .null
set_option maxRecDepth 65536 in
set_option maxHeartbeats 40000000 in
theorem of_c0 {l : Launch} {Z : State} {a0 : Array Value} {p0 : Int32} {w0 : Addr} {w1 : Addr} {w2 : Addr} {w3 : Addr} {w4 : Addr} {w5 : Addr} {h0 : Heap} {n0 : Nat} {p : Program} {e : Env} {s : State} {m : MethodId} {args : Array Value} {below : List Frame} {meth : Method} {c : Code} {T0 : State} {locs : List Loc} {r0 : Value} (C0 : own_Cx p s m meth c Z a0 prog_97_method_4_code 1 "com/example/tally_flows/tallyflows/packet/LinkHeader" "of" (some (.object "com/example/tally_flows/tallyflows/packet/LinkHeader"))) (X0 : Stand p l e ({ frames := 0, cells := 0, slots := 0, locals := 0 } : Room) s m args below meth c T0 locs 0 0) (e0 : T0.heap = h0) (N0 : Fr n0 locs)  (Z0 : n0 ≤ h0.size) (P0 : Sta Z h0 "com/example/tally_flows/tallyflows/packet/LinkHeader" "ETHERNET" "Lcom/example/tally_flows/tallyflows/packet/LinkHeader;" (.ref w0)) (P1 : Sta Z h0 "com/example/tally_flows/tallyflows/packet/LinkHeader" "RAW" "Lcom/example/tally_flows/tallyflows/packet/LinkHeader;" (.ref w1)) (P2 : Sta Z h0 "com/example/tally_flows/tallyflows/packet/LinkHeader" "LINUX_SLL" "Lcom/example/tally_flows/tallyflows/packet/LinkHeader;" (.ref w2)) (P3 : Sta Z h0 "com/example/tally_flows/tallyflows/packet/LinkHeader" "IPV6" "Lcom/example/tally_flows/tallyflows/packet/LinkHeader;" (.ref w3)) (P4 : Sta Z h0 "com/example/tally_flows/tallyflows/packet/LinkHeader" "LINUX_SLL2" "Lcom/example/tally_flows/tallyflows/packet/LinkHeader;" (.ref w4)) (P5 : Sta Z h0 "com/example/tally_flows/tallyflows/packet/LinkHeader" "IPV4" "Lcom/example/tally_flows/tallyflows/packet/LinkHeader;" (.ref w5)) (hr0 : r0 = of_f p0 w0 w1 w2 w3 w4 w5 ) :
    own_Dn p e below s (own_Q (some r0) n0 h0) ({ frames := 0, cells := 0, slots := 0, locals := 0 } : Room).cells ({ frames := 0, cells := 0, slots := 0, locals := 0 } : Room).slots (T0.setTop (mkF m 0 #[.val (.int p0)] [])) := by
  obtain ⟨hx, hZ, hw, hby, hml, hown, hret, hlk, hnm⟩ := id C0
  refine own_st (fun _ k => XS.iloadN X0.here hx rfl (hb hby of_d0) rfl k) ?_
  show own_Dn p e below s _ _ _ (T0.setTop (mkF m 1 #[.val (.int p0)] [(.int p0)]))
  by_cases hc13 : p0 = (1 : Int32)
  · refine own_st (X0.lookupswitchHit hx (g := (mkF m 1 #[.val (.int p0)] [(.int p0)])) rfl rfl (hb hby of_d1) (by decide) (a := 1) (off := 59) (by rw [hc13]; decide) (by show (0 : Int) ≤ ((1 : Nat) : Int) + 59; decide)) ?_
    show own_Dn p e below s _ _ _ (T0.setTop (mkF m 60 #[.val (.int p0)] []))
    obtain ⟨T14, X14, e14, st14⟩ := getS2 X0 hx hZ hown (host := "") (Or.inl (hw _ (List.mem_of_getElem? (i := 8) rfl))) Via.refl e0 P0 (g := (mkF m 60 #[.val (.int p0)] [])) rfl (hb hby of_d60)
    refine own_st st14 ?_
    show own_Dn p e below s _ _ _ (T14.setTop (mkF m 63 #[.val (.int p0)] [(.ref w0)]))
    refine own_st (fun _ k => XS.goto X14.here hx rfl (pc0 := 63) (pc' := 97) rfl (hb hby of_d63) (by decide) (by decide) k) ?_
    show own_Dn p e below s _ _ _ (T14.setTop (mkF m 97 #[.val (.int p0)] [(.ref w0)]))
    exact own_retA X14 hx rfl hret hlk rfl rfl (hb hby of_d97) (by decide) (by decide) ⟨(by rw [hr0, of_f, if_pos hc13]), N0, e14⟩
  · by_cases hc15 : p0 = (101 : Int32)
    · refine own_st (X0.lookupswitchHit hx (g := (mkF m 1 #[.val (.int p0)] [(.int p0)])) rfl rfl (hb hby of_d1) (by decide) (a := 101) (off := 77) (by rw [hc15]; decide) (by show (0 : Int) ≤ ((1 : Nat) : Int) + 77; decide)) ?_
      show own_Dn p e below s _ _ _ (T0.setTop (mkF m 78 #[.val (.int p0)] []))
      obtain ⟨T16, X16, e16, st16⟩ := getS2 X0 hx hZ hown (host := "") (Or.inl (hw _ (List.mem_of_getElem? (i := 14) rfl))) Via.refl e0 P1 (g := (mkF m 78 #[.val (.int p0)] [])) rfl (hb hby of_d78)
      refine own_st st16 ?_
      show own_Dn p e below s _ _ _ (T16.setTop (mkF m 81 #[.val (.int p0)] [(.ref w1)]))
      refine own_st (fun _ k => XS.goto X16.here hx rfl (pc0 := 81) (pc' := 97) rfl (hb hby of_d81) (by decide) (by decide) k) ?_
      show own_Dn p e below s _ _ _ (T16.setTop (mkF m 97 #[.val (.int p0)] [(.ref w1)]))
      exact own_retA X16 hx rfl hret hlk rfl rfl (hb hby of_d97) (by decide) (by decide) ⟨(by rw [hr0, of_f, if_neg hc13, if_pos hc15]), N0, e16⟩
    · by_cases hc17 : p0 = (113 : Int32)
      · refine own_st (X0.lookupswitchHit hx (g := (mkF m 1 #[.val (.int p0)] [(.int p0)])) rfl rfl (hb hby of_d1) (by decide) (a := 113) (off := 65) (by rw [hc17]; decide) (by show (0 : Int) ≤ ((1 : Nat) : Int) + 65; decide)) ?_
        show own_Dn p e below s _ _ _ (T0.setTop (mkF m 66 #[.val (.int p0)] []))
        obtain ⟨T18, X18, e18, st18⟩ := getS2 X0 hx hZ hown (host := "") (Or.inl (hw _ (List.mem_of_getElem? (i := 17) rfl))) Via.refl e0 P2 (g := (mkF m 66 #[.val (.int p0)] [])) rfl (hb hby of_d66)
        refine own_st st18 ?_
        show own_Dn p e below s _ _ _ (T18.setTop (mkF m 69 #[.val (.int p0)] [(.ref w2)]))
        refine own_st (fun _ k => XS.goto X18.here hx rfl (pc0 := 69) (pc' := 97) rfl (hb hby of_d69) (by decide) (by decide) k) ?_
        show own_Dn p e below s _ _ _ (T18.setTop (mkF m 97 #[.val (.int p0)] [(.ref w2)]))
        exact own_retA X18 hx rfl hret hlk rfl rfl (hb hby of_d97) (by decide) (by decide) ⟨(by rw [hr0, of_f, if_neg hc13, if_neg hc15, if_pos hc17]), N0, e18⟩
      · by_cases hc19 : p0 = (228 : Int32)
        · refine own_st (X0.lookupswitchHit hx (g := (mkF m 1 #[.val (.int p0)] [(.int p0)])) rfl rfl (hb hby of_d1) (by decide) (a := 228) (off := 83) (by rw [hc19]; decide) (by show (0 : Int) ≤ ((1 : Nat) : Int) + 83; decide)) ?_
          show own_Dn p e below s _ _ _ (T0.setTop (mkF m 84 #[.val (.int p0)] []))
          obtain ⟨T20, X20, e20, st20⟩ := getS2 X0 hx hZ hown (host := "") (Or.inl (hw _ (List.mem_of_getElem? (i := 26) rfl))) Via.refl e0 P5 (g := (mkF m 84 #[.val (.int p0)] [])) rfl (hb hby of_d84)
          refine own_st st20 ?_
          show own_Dn p e below s _ _ _ (T20.setTop (mkF m 87 #[.val (.int p0)] [(.ref w5)]))
          refine own_st (fun _ k => XS.goto X20.here hx rfl (pc0 := 87) (pc' := 97) rfl (hb hby of_d87) (by decide) (by decide) k) ?_
          show own_Dn p e below s _ _ _ (T20.setTop (mkF m 97 #[.val (.int p0)] [(.ref w5)]))
          exact own_retA X20 hx rfl hret hlk rfl rfl (hb hby of_d97) (by decide) (by decide) ⟨(by rw [hr0, of_f, if_neg hc13, if_neg hc15, if_neg hc17, if_pos hc19]), N0, e20⟩
        · by_cases hc21 : p0 = (229 : Int32)
          · refine own_st (X0.lookupswitchHit hx (g := (mkF m 1 #[.val (.int p0)] [(.int p0)])) rfl rfl (hb hby of_d1) (by decide) (a := 229) (off := 89) (by rw [hc21]; decide) (by show (0 : Int) ≤ ((1 : Nat) : Int) + 89; decide)) ?_
            show own_Dn p e below s _ _ _ (T0.setTop (mkF m 90 #[.val (.int p0)] []))
            obtain ⟨T22, X22, e22, st22⟩ := getS2 X0 hx hZ hown (host := "") (Or.inl (hw _ (List.mem_of_getElem? (i := 20) rfl))) Via.refl e0 P3 (g := (mkF m 90 #[.val (.int p0)] [])) rfl (hb hby of_d90)
            refine own_st st22 ?_
            show own_Dn p e below s _ _ _ (T22.setTop (mkF m 93 #[.val (.int p0)] [(.ref w3)]))
            refine own_st (fun _ k => XS.goto X22.here hx rfl (pc0 := 93) (pc' := 97) rfl (hb hby of_d93) (by decide) (by decide) k) ?_
            show own_Dn p e below s _ _ _ (T22.setTop (mkF m 97 #[.val (.int p0)] [(.ref w3)]))
            exact own_retA X22 hx rfl hret hlk rfl rfl (hb hby of_d97) (by decide) (by decide) ⟨(by rw [hr0, of_f, if_neg hc13, if_neg hc15, if_neg hc17, if_neg hc19, if_pos hc21]), N0, e22⟩
          · by_cases hc23 : p0 = (276 : Int32)
            · refine own_st (X0.lookupswitchHit hx (g := (mkF m 1 #[.val (.int p0)] [(.int p0)])) rfl rfl (hb hby of_d1) (by decide) (a := 276) (off := 71) (by rw [hc23]; decide) (by show (0 : Int) ≤ ((1 : Nat) : Int) + 71; decide)) ?_
              show own_Dn p e below s _ _ _ (T0.setTop (mkF m 72 #[.val (.int p0)] []))
              obtain ⟨T24, X24, e24, st24⟩ := getS2 X0 hx hZ hown (host := "") (Or.inl (hw _ (List.mem_of_getElem? (i := 23) rfl))) Via.refl e0 P4 (g := (mkF m 72 #[.val (.int p0)] [])) rfl (hb hby of_d72)
              refine own_st st24 ?_
              show own_Dn p e below s _ _ _ (T24.setTop (mkF m 75 #[.val (.int p0)] [(.ref w4)]))
              refine own_st (fun _ k => XS.goto X24.here hx rfl (pc0 := 75) (pc' := 97) rfl (hb hby of_d75) (by decide) (by decide) k) ?_
              show own_Dn p e below s _ _ _ (T24.setTop (mkF m 97 #[.val (.int p0)] [(.ref w4)]))
              exact own_retA X24 hx rfl hret hlk rfl rfl (hb hby of_d97) (by decide) (by decide) ⟨(by rw [hr0, of_f, if_neg hc13, if_neg hc15, if_neg hc17, if_neg hc19, if_neg hc21, if_pos hc23]), N0, e24⟩
            · refine own_st (X0.lookupswitchMiss hx (g := (mkF m 1 #[.val (.int p0)] [(.int p0)])) rfl rfl (hb hby of_d1) (by decide) (find_miss (own_miss p0 [1, 101, 113, 228, 229, 276] (by intro q hq; simp only [List.mem_cons, List.not_mem_nil, or_false] at hq; rcases hq with rfl | rfl | rfl | rfl | rfl | rfl <;> assumption) (by decide))) (by show (0 : Int) ≤ ((1 : Nat) : Int) + 95; decide)) ?_
              show own_Dn p e below s _ _ _ (T0.setTop (mkF m 96 #[.val (.int p0)] []))
              refine own_st (fun _ k => XS.aconstNull X0.here hx rfl (hb hby of_d96) k) ?_
              show own_Dn p e below s _ _ _ (T0.setTop (mkF m 97 #[.val (.int p0)] [.null]))
              exact own_retA X0 hx rfl hret hlk rfl rfl (hb hby of_d97) (by decide) (by decide) ⟨(by rw [hr0, of_f, if_neg hc13, if_neg hc15, if_neg hc17, if_neg hc19, if_neg hc21, if_neg hc23]), N0, e0⟩
theorem of_ir (p0 : Int32) (w0 : Addr) (w1 : Addr) (w2 : Addr) (w3 : Addr) (w4 : Addr) (w5 : Addr) : Value.isRef (of_f p0 w0 w1 w2 w3 w4 w5) = true := by
  simp only [of_f]
  repeat' split
  all_goals rfl
theorem of_ef (m : MethodId) (p0 : Int32) : entryFrame m #[(.int p0)] 1 = mkF m 0 #[.val (.int p0)] [] := by first | (simp [entryFrame, mkF, argsToLocals, Value.category]; done) | rfl
theorem of_rm (l : Launch) (Z : State) (a0 : Array Value) (hw : ∀ d ∈ tables_1, d.before a0 Z = true) (ws : List Jvm.Cond) (p0 : Int32) (w0 : Addr) (w1 : Addr) (w2 : Addr) (w3 : Addr) (w4 : Addr) (w5 : Addr) (h0 : Heap) (n0 : Nat) (Z0 : n0 ≤ h0.size) (P0 : Sta Z h0 "com/example/tally_flows/tallyflows/packet/LinkHeader" "ETHERNET" "Lcom/example/tally_flows/tallyflows/packet/LinkHeader;" (.ref w0)) (P1 : Sta Z h0 "com/example/tally_flows/tallyflows/packet/LinkHeader" "RAW" "Lcom/example/tally_flows/tallyflows/packet/LinkHeader;" (.ref w1)) (P2 : Sta Z h0 "com/example/tally_flows/tallyflows/packet/LinkHeader" "LINUX_SLL" "Lcom/example/tally_flows/tallyflows/packet/LinkHeader;" (.ref w2)) (P3 : Sta Z h0 "com/example/tally_flows/tallyflows/packet/LinkHeader" "IPV6" "Lcom/example/tally_flows/tallyflows/packet/LinkHeader;" (.ref w3)) (P4 : Sta Z h0 "com/example/tally_flows/tallyflows/packet/LinkHeader" "LINUX_SLL2" "Lcom/example/tally_flows/tallyflows/packet/LinkHeader;" (.ref w4)) (P5 : Sta Z h0 "com/example/tally_flows/tallyflows/packet/LinkHeader" "IPV4" "Lcom/example/tally_flows/tallyflows/packet/LinkHeader;" (.ref w5)) :
    MetFree l (⟨"com/example/tally_flows/tallyflows/packet/LinkHeader", "of", "(I)Lcom/example/tally_flows/tallyflows/packet/LinkHeader;"⟩ : MethodName) (head1 (Jvm.Cond.code (⟨"com/example/tally_flows/tallyflows/packet/LinkHeader", "of", "(I)Lcom/example/tally_flows/tallyflows/packet/LinkHeader;"⟩ : MethodName) prog_97_method_4_code 1 (some (.object "com/example/tally_flows/tallyflows/packet/LinkHeader")) :: ws) ({ frames := 0, cells := 0, slots := 0, locals := 0 } : Room)) (fun a U => a = #[(.int p0)] ∧ Z.Warmed39 U.vm ∧ U.heap = h0) (fun _ _ _ _ _ => True) (fun _ U o U' => ∃ v L, o = .returned v ∧ (own_Q (some (of_f p0 w0 w1 w2 w3 w4 w5)) n0 h0) v U'.heap L ∧ FrameEnd U o U' L ({ frames := 0, cells := 0, slots := 0, locals := 0 } : Room).cells ({ frames := 0, cells := 0, slots := 0, locals := 0 } : Room).slots) :=
  own_met hw (plainFor_of_name (by first | (simp [plainName, overriddenIn]; done) | decide +kernel)) (fun p e s m below meth c T0 C0 X0 e0 => own_st (fun _ k => castTop (of_ef m p0) k) (of_c0 C0 X0 e0 (Fr.nil n0) Z0 P0 P1 P2 P3 P4 P5 rfl))
theorem ex_d0 : decode method_4_code 0 = .ok (.iload_n 0, 1) := by decide +kernel
theorem ex_d1 : decode method_4_code 1 = .ok (.iconst 1, 1) := by decide +kernel
theorem ex_d2 : decode method_4_code 2 = .ok (.if_icmp .ne 7, 3) := by decide +kernel
theorem ex_d5 : decode method_4_code 5 = .ok (.getstatic 22, 3) := by decide +kernel
theorem ex_d8 : decode method_4_code 8 = .ok (.areturn, 1) := by decide +kernel
theorem ex_d9 : decode method_4_code 9 = .ok (.iload_n 0, 1) := by decide +kernel
theorem ex_d10 : decode method_4_code 10 = .ok (.bipush 113, 2) := by decide +kernel
theorem ex_d12 : decode method_4_code 12 = .ok (.if_icmp .ne 7, 3) := by decide +kernel
theorem ex_d15 : decode method_4_code 15 = .ok (.getstatic 26, 3) := by decide +kernel
theorem ex_d18 : decode method_4_code 18 = .ok (.areturn, 1) := by decide +kernel
theorem ex_d19 : decode method_4_code 19 = .ok (.iload_n 0, 1) := by decide +kernel
theorem ex_d20 : decode method_4_code 20 = .ok (.sipush 276, 3) := by decide +kernel
theorem ex_d23 : decode method_4_code 23 = .ok (.if_icmp .ne 7, 3) := by decide +kernel
theorem ex_d26 : decode method_4_code 26 = .ok (.getstatic 29, 3) := by decide +kernel
theorem ex_d29 : decode method_4_code 29 = .ok (.areturn, 1) := by decide +kernel
theorem ex_d30 : decode method_4_code 30 = .ok (.iload_n 0, 1) := by decide +kernel
theorem ex_d31 : decode method_4_code 31 = .ok (.bipush 101, 2) := by decide +kernel
theorem ex_d33 : decode method_4_code 33 = .ok (.if_icmp .ne 7, 3) := by decide +kernel
theorem ex_d36 : decode method_4_code 36 = .ok (.getstatic 32, 3) := by decide +kernel
theorem ex_d39 : decode method_4_code 39 = .ok (.areturn, 1) := by decide +kernel
theorem ex_d40 : decode method_4_code 40 = .ok (.iload_n 0, 1) := by decide +kernel
theorem ex_d41 : decode method_4_code 41 = .ok (.sipush 228, 3) := by decide +kernel
theorem ex_d44 : decode method_4_code 44 = .ok (.if_icmp .ne 7, 3) := by decide +kernel
theorem ex_d47 : decode method_4_code 47 = .ok (.getstatic 35, 3) := by decide +kernel
theorem ex_d50 : decode method_4_code 50 = .ok (.areturn, 1) := by decide +kernel
theorem ex_d51 : decode method_4_code 51 = .ok (.iload_n 0, 1) := by decide +kernel
theorem ex_d52 : decode method_4_code 52 = .ok (.sipush 229, 3) := by decide +kernel
theorem ex_d55 : decode method_4_code 55 = .ok (.if_icmp .ne 7, 3) := by decide +kernel
theorem ex_d58 : decode method_4_code 58 = .ok (.getstatic 38, 3) := by decide +kernel
theorem ex_d61 : decode method_4_code 61 = .ok (.areturn, 1) := by decide +kernel
theorem ex_d62 : decode method_4_code 62 = .ok (.aconst_null, 1) := by decide +kernel
theorem ex_d63 : decode method_4_code 63 = .ok (.areturn, 1) := by decide +kernel
def ex_f (p0 : Int32) (w0 : Addr) (w1 : Addr) (w2 : Addr) (w3 : Addr) (w4 : Addr) (w5 : Addr)  : Value :=
  if p0 = (1 : Int32) then
    (.ref w0)
  else
    if p0 = (113 : Int32) then
      (.ref w2)
    else
      if p0 = (276 : Int32) then
        (.ref w4)
      else
        if p0 = (101 : Int32) then
          (.ref w1)
        else
          if p0 = (228 : Int32) then
            (.ref w5)
          else
            if p0 = (229 : Int32) then
              (.ref w3)
            else
              .null
set_option maxRecDepth 65536 in
set_option maxHeartbeats 40000000 in
theorem ex_c0 {l : Launch} {Z : State} {a0 : Array Value} {p0 : Int32} {w0 : Addr} {w1 : Addr} {w2 : Addr} {w3 : Addr} {w4 : Addr} {w5 : Addr} {h0 : Heap} {n0 : Nat} {p : Program} {e : Env} {s : State} {m : MethodId} {args : Array Value} {below : List Frame} {meth : Method} {c : Code} {T0 : State} {locs : List Loc} {r0 : Value} (C0 : own_Cx p s m meth c Z a0 method_4_code 1 "com/example/tally_flows/tallyflows/packet/LinkHeaderOfPinLaw" "expected" (some (.object "com/example/tally_flows/tallyflows/packet/LinkHeader"))) (X0 : Stand p l e ({ frames := 0, cells := 0, slots := 0, locals := 0 } : Room) s m args below meth c T0 locs 0 0) (e0 : T0.heap = h0) (N0 : Fr n0 locs)  (Z0 : n0 ≤ h0.size) (P0 : Sta Z h0 "com/example/tally_flows/tallyflows/packet/LinkHeader" "ETHERNET" "Lcom/example/tally_flows/tallyflows/packet/LinkHeader;" (.ref w0)) (P1 : Sta Z h0 "com/example/tally_flows/tallyflows/packet/LinkHeader" "RAW" "Lcom/example/tally_flows/tallyflows/packet/LinkHeader;" (.ref w1)) (P2 : Sta Z h0 "com/example/tally_flows/tallyflows/packet/LinkHeader" "LINUX_SLL" "Lcom/example/tally_flows/tallyflows/packet/LinkHeader;" (.ref w2)) (P3 : Sta Z h0 "com/example/tally_flows/tallyflows/packet/LinkHeader" "IPV6" "Lcom/example/tally_flows/tallyflows/packet/LinkHeader;" (.ref w3)) (P4 : Sta Z h0 "com/example/tally_flows/tallyflows/packet/LinkHeader" "LINUX_SLL2" "Lcom/example/tally_flows/tallyflows/packet/LinkHeader;" (.ref w4)) (P5 : Sta Z h0 "com/example/tally_flows/tallyflows/packet/LinkHeader" "IPV4" "Lcom/example/tally_flows/tallyflows/packet/LinkHeader;" (.ref w5)) (hr0 : r0 = ex_f p0 w0 w1 w2 w3 w4 w5 ) :
    own_Dn p e below s (own_Q (some r0) n0 h0) ({ frames := 0, cells := 0, slots := 0, locals := 0 } : Room).cells ({ frames := 0, cells := 0, slots := 0, locals := 0 } : Room).slots (T0.setTop (mkF m 0 #[.val (.int p0)] [])) := by
  obtain ⟨hx, hZ, hw, hby, hml, hown, hret, hlk, hnm⟩ := id C0
  refine own_st (fun _ k => XS.iloadN X0.here hx rfl (hb hby ex_d0) rfl (XS.iconst X0.here hx rfl (hb hby ex_d1) k)) ?_
  show own_Dn p e below s _ _ _ (T0.setTop (mkF m 2 #[.val (.int p0)] [(.int (1 : Int32)), (.int p0)]))
  by_cases hc13 : p0 = (1 : Int32)
  · refine own_st (fun _ k => XS.icmpNo X0.here hx rfl (hb hby ex_d2) rfl (teq hc13).2 k) ?_
    show own_Dn p e below s _ _ _ (T0.setTop (mkF m 5 #[.val (.int p0)] []))
    obtain ⟨T14, X14, e14, st14⟩ := getS2 X0 hx hZ hown (host := "") (Or.inl (hw _ (List.mem_of_getElem? (i := 13) rfl))) Via.refl e0 P0 (g := (mkF m 5 #[.val (.int p0)] [])) rfl (hb hby ex_d5)
    refine own_st st14 ?_
    show own_Dn p e below s _ _ _ (T14.setTop (mkF m 8 #[.val (.int p0)] [(.ref w0)]))
    exact own_retA X14 hx rfl hret hlk rfl rfl (hb hby ex_d8) (by decide) (by decide) ⟨(by rw [hr0, ex_f, if_pos hc13]), N0, e14⟩
  · refine own_st (fun _ k => XS.icmpYes X0.here hx rfl (pc0 := 2) (pc' := 9) rfl (hb hby ex_d2) rfl (feq hc13).2 (by decide) (by decide) k) ?_
    show own_Dn p e below s _ _ _ (T0.setTop (mkF m 9 #[.val (.int p0)] []))
    refine own_st (fun _ k => XS.iloadN X0.here hx rfl (hb hby ex_d9) rfl (XS.bipush X0.here hx rfl (hb hby ex_d10) k)) ?_
    show own_Dn p e below s _ _ _ (T0.setTop (mkF m 12 #[.val (.int p0)] [(.int (113 : Int32)), (.int p0)]))
    by_cases hc15 : p0 = (113 : Int32)
    · refine own_st (fun _ k => XS.icmpNo X0.here hx rfl (hb hby ex_d12) rfl (teq hc15).2 k) ?_
      show own_Dn p e below s _ _ _ (T0.setTop (mkF m 15 #[.val (.int p0)] []))
      obtain ⟨T16, X16, e16, st16⟩ := getS2 X0 hx hZ hown (host := "") (Or.inl (hw _ (List.mem_of_getElem? (i := 19) rfl))) Via.refl e0 P2 (g := (mkF m 15 #[.val (.int p0)] [])) rfl (hb hby ex_d15)
      refine own_st st16 ?_
      show own_Dn p e below s _ _ _ (T16.setTop (mkF m 18 #[.val (.int p0)] [(.ref w2)]))
      exact own_retA X16 hx rfl hret hlk rfl rfl (hb hby ex_d18) (by decide) (by decide) ⟨(by rw [hr0, ex_f, if_neg hc13, if_pos hc15]), N0, e16⟩
    · refine own_st (fun _ k => XS.icmpYes X0.here hx rfl (pc0 := 12) (pc' := 19) rfl (hb hby ex_d12) rfl (feq hc15).2 (by decide) (by decide) k) ?_
      show own_Dn p e below s _ _ _ (T0.setTop (mkF m 19 #[.val (.int p0)] []))
      refine own_st (fun _ k => XS.iloadN X0.here hx rfl (hb hby ex_d19) rfl (XS.sipush X0.here hx rfl (hb hby ex_d20) k)) ?_
      show own_Dn p e below s _ _ _ (T0.setTop (mkF m 23 #[.val (.int p0)] [(.int (276 : Int32)), (.int p0)]))
      by_cases hc17 : p0 = (276 : Int32)
      · refine own_st (fun _ k => XS.icmpNo X0.here hx rfl (hb hby ex_d23) rfl (teq hc17).2 k) ?_
        show own_Dn p e below s _ _ _ (T0.setTop (mkF m 26 #[.val (.int p0)] []))
        obtain ⟨T18, X18, e18, st18⟩ := getS2 X0 hx hZ hown (host := "") (Or.inl (hw _ (List.mem_of_getElem? (i := 25) rfl))) Via.refl e0 P4 (g := (mkF m 26 #[.val (.int p0)] [])) rfl (hb hby ex_d26)
        refine own_st st18 ?_
        show own_Dn p e below s _ _ _ (T18.setTop (mkF m 29 #[.val (.int p0)] [(.ref w4)]))
        exact own_retA X18 hx rfl hret hlk rfl rfl (hb hby ex_d29) (by decide) (by decide) ⟨(by rw [hr0, ex_f, if_neg hc13, if_neg hc15, if_pos hc17]), N0, e18⟩
      · refine own_st (fun _ k => XS.icmpYes X0.here hx rfl (pc0 := 23) (pc' := 30) rfl (hb hby ex_d23) rfl (feq hc17).2 (by decide) (by decide) k) ?_
        show own_Dn p e below s _ _ _ (T0.setTop (mkF m 30 #[.val (.int p0)] []))
        refine own_st (fun _ k => XS.iloadN X0.here hx rfl (hb hby ex_d30) rfl (XS.bipush X0.here hx rfl (hb hby ex_d31) k)) ?_
        show own_Dn p e below s _ _ _ (T0.setTop (mkF m 33 #[.val (.int p0)] [(.int (101 : Int32)), (.int p0)]))
        by_cases hc19 : p0 = (101 : Int32)
        · refine own_st (fun _ k => XS.icmpNo X0.here hx rfl (hb hby ex_d33) rfl (teq hc19).2 k) ?_
          show own_Dn p e below s _ _ _ (T0.setTop (mkF m 36 #[.val (.int p0)] []))
          obtain ⟨T20, X20, e20, st20⟩ := getS2 X0 hx hZ hown (host := "") (Or.inl (hw _ (List.mem_of_getElem? (i := 16) rfl))) Via.refl e0 P1 (g := (mkF m 36 #[.val (.int p0)] [])) rfl (hb hby ex_d36)
          refine own_st st20 ?_
          show own_Dn p e below s _ _ _ (T20.setTop (mkF m 39 #[.val (.int p0)] [(.ref w1)]))
          exact own_retA X20 hx rfl hret hlk rfl rfl (hb hby ex_d39) (by decide) (by decide) ⟨(by rw [hr0, ex_f, if_neg hc13, if_neg hc15, if_neg hc17, if_pos hc19]), N0, e20⟩
        · refine own_st (fun _ k => XS.icmpYes X0.here hx rfl (pc0 := 33) (pc' := 40) rfl (hb hby ex_d33) rfl (feq hc19).2 (by decide) (by decide) k) ?_
          show own_Dn p e below s _ _ _ (T0.setTop (mkF m 40 #[.val (.int p0)] []))
          refine own_st (fun _ k => XS.iloadN X0.here hx rfl (hb hby ex_d40) rfl (XS.sipush X0.here hx rfl (hb hby ex_d41) k)) ?_
          show own_Dn p e below s _ _ _ (T0.setTop (mkF m 44 #[.val (.int p0)] [(.int (228 : Int32)), (.int p0)]))
          by_cases hc21 : p0 = (228 : Int32)
          · refine own_st (fun _ k => XS.icmpNo X0.here hx rfl (hb hby ex_d44) rfl (teq hc21).2 k) ?_
            show own_Dn p e below s _ _ _ (T0.setTop (mkF m 47 #[.val (.int p0)] []))
            obtain ⟨T22, X22, e22, st22⟩ := getS2 X0 hx hZ hown (host := "") (Or.inl (hw _ (List.mem_of_getElem? (i := 28) rfl))) Via.refl e0 P5 (g := (mkF m 47 #[.val (.int p0)] [])) rfl (hb hby ex_d47)
            refine own_st st22 ?_
            show own_Dn p e below s _ _ _ (T22.setTop (mkF m 50 #[.val (.int p0)] [(.ref w5)]))
            exact own_retA X22 hx rfl hret hlk rfl rfl (hb hby ex_d50) (by decide) (by decide) ⟨(by rw [hr0, ex_f, if_neg hc13, if_neg hc15, if_neg hc17, if_neg hc19, if_pos hc21]), N0, e22⟩
          · refine own_st (fun _ k => XS.icmpYes X0.here hx rfl (pc0 := 44) (pc' := 51) rfl (hb hby ex_d44) rfl (feq hc21).2 (by decide) (by decide) k) ?_
            show own_Dn p e below s _ _ _ (T0.setTop (mkF m 51 #[.val (.int p0)] []))
            refine own_st (fun _ k => XS.iloadN X0.here hx rfl (hb hby ex_d51) rfl (XS.sipush X0.here hx rfl (hb hby ex_d52) k)) ?_
            show own_Dn p e below s _ _ _ (T0.setTop (mkF m 55 #[.val (.int p0)] [(.int (229 : Int32)), (.int p0)]))
            by_cases hc23 : p0 = (229 : Int32)
            · refine own_st (fun _ k => XS.icmpNo X0.here hx rfl (hb hby ex_d55) rfl (teq hc23).2 k) ?_
              show own_Dn p e below s _ _ _ (T0.setTop (mkF m 58 #[.val (.int p0)] []))
              obtain ⟨T24, X24, e24, st24⟩ := getS2 X0 hx hZ hown (host := "") (Or.inl (hw _ (List.mem_of_getElem? (i := 22) rfl))) Via.refl e0 P3 (g := (mkF m 58 #[.val (.int p0)] [])) rfl (hb hby ex_d58)
              refine own_st st24 ?_
              show own_Dn p e below s _ _ _ (T24.setTop (mkF m 61 #[.val (.int p0)] [(.ref w3)]))
              exact own_retA X24 hx rfl hret hlk rfl rfl (hb hby ex_d61) (by decide) (by decide) ⟨(by rw [hr0, ex_f, if_neg hc13, if_neg hc15, if_neg hc17, if_neg hc19, if_neg hc21, if_pos hc23]), N0, e24⟩
            · refine own_st (fun _ k => XS.icmpYes X0.here hx rfl (pc0 := 55) (pc' := 62) rfl (hb hby ex_d55) rfl (feq hc23).2 (by decide) (by decide) k) ?_
              show own_Dn p e below s _ _ _ (T0.setTop (mkF m 62 #[.val (.int p0)] []))
              refine own_st (fun _ k => XS.aconstNull X0.here hx rfl (hb hby ex_d62) k) ?_
              show own_Dn p e below s _ _ _ (T0.setTop (mkF m 63 #[.val (.int p0)] [.null]))
              exact own_retA X0 hx rfl hret hlk rfl rfl (hb hby ex_d63) (by decide) (by decide) ⟨(by rw [hr0, ex_f, if_neg hc13, if_neg hc15, if_neg hc17, if_neg hc19, if_neg hc21, if_neg hc23]), N0, e0⟩
theorem ex_ir (p0 : Int32) (w0 : Addr) (w1 : Addr) (w2 : Addr) (w3 : Addr) (w4 : Addr) (w5 : Addr) : Value.isRef (ex_f p0 w0 w1 w2 w3 w4 w5) = true := by
  simp only [ex_f]
  repeat' split
  all_goals rfl
theorem ex_ef (m : MethodId) (p0 : Int32) : entryFrame m #[(.int p0)] 1 = mkF m 0 #[.val (.int p0)] [] := by first | (simp [entryFrame, mkF, argsToLocals, Value.category]; done) | rfl
theorem ex_rm (l : Launch) (Z : State) (a0 : Array Value) (hw : ∀ d ∈ tables_1, d.before a0 Z = true) (ws : List Jvm.Cond) (p0 : Int32) (w0 : Addr) (w1 : Addr) (w2 : Addr) (w3 : Addr) (w4 : Addr) (w5 : Addr) (h0 : Heap) (n0 : Nat) (Z0 : n0 ≤ h0.size) (P0 : Sta Z h0 "com/example/tally_flows/tallyflows/packet/LinkHeader" "ETHERNET" "Lcom/example/tally_flows/tallyflows/packet/LinkHeader;" (.ref w0)) (P1 : Sta Z h0 "com/example/tally_flows/tallyflows/packet/LinkHeader" "RAW" "Lcom/example/tally_flows/tallyflows/packet/LinkHeader;" (.ref w1)) (P2 : Sta Z h0 "com/example/tally_flows/tallyflows/packet/LinkHeader" "LINUX_SLL" "Lcom/example/tally_flows/tallyflows/packet/LinkHeader;" (.ref w2)) (P3 : Sta Z h0 "com/example/tally_flows/tallyflows/packet/LinkHeader" "IPV6" "Lcom/example/tally_flows/tallyflows/packet/LinkHeader;" (.ref w3)) (P4 : Sta Z h0 "com/example/tally_flows/tallyflows/packet/LinkHeader" "LINUX_SLL2" "Lcom/example/tally_flows/tallyflows/packet/LinkHeader;" (.ref w4)) (P5 : Sta Z h0 "com/example/tally_flows/tallyflows/packet/LinkHeader" "IPV4" "Lcom/example/tally_flows/tallyflows/packet/LinkHeader;" (.ref w5)) :
    MetFree l (⟨"com/example/tally_flows/tallyflows/packet/LinkHeaderOfPinLaw", "expected", "(I)Lcom/example/tally_flows/tallyflows/packet/LinkHeader;"⟩ : MethodName) (head1 (Jvm.Cond.code (⟨"com/example/tally_flows/tallyflows/packet/LinkHeaderOfPinLaw", "expected", "(I)Lcom/example/tally_flows/tallyflows/packet/LinkHeader;"⟩ : MethodName) method_4_code 1 (some (.object "com/example/tally_flows/tallyflows/packet/LinkHeader")) :: ws) ({ frames := 0, cells := 0, slots := 0, locals := 0 } : Room)) (fun a U => a = #[(.int p0)] ∧ Z.Warmed39 U.vm ∧ U.heap = h0) (fun _ _ _ _ _ => True) (fun _ U o U' => ∃ v L, o = .returned v ∧ (own_Q (some (ex_f p0 w0 w1 w2 w3 w4 w5)) n0 h0) v U'.heap L ∧ FrameEnd U o U' L ({ frames := 0, cells := 0, slots := 0, locals := 0 } : Room).cells ({ frames := 0, cells := 0, slots := 0, locals := 0 } : Room).slots) :=
  own_met hw (plainFor_of_name (by first | (simp [plainName, overriddenIn]; done) | decide +kernel)) (fun p e s m below meth c T0 C0 X0 e0 => own_st (fun _ k => castTop (ex_ef m p0) k) (ex_c0 C0 X0 e0 (Fr.nil n0) Z0 P0 P1 P2 P3 P4 P5 rfl))
theorem lw_d0 : decode code 0 = .ok (.iload_n 0, 1) := by decide +kernel
theorem lw_d1 : decode code 1 = .ok (.bipush 15, 2) := by decide +kernel
theorem lw_d3 : decode code 3 = .ok (.iand, 1) := by decide +kernel
theorem lw_d4 : decode code 4 = .ok (.istore_n 2, 1) := by decide +kernel
theorem lw_d5 : decode code 5 = .ok (.iload_n 2, 1) := by decide +kernel
theorem lw_d6 : decode code 6 = .ok (.bipush 6, 2) := by decide +kernel
theorem lw_d8 : decode code 8 = .ok (.if_icmp .ge 11, 3) := by decide +kernel
theorem lw_d11 : decode code 11 = .ok (.iload_n 2, 1) := by decide +kernel
theorem lw_d12 : decode code 12 = .ok (.invokestatic 7, 3) := by decide +kernel
theorem lw_d15 : decode code 15 = .ok (.istore_n 3, 1) := by decide +kernel
theorem lw_d16 : decode code 16 = .ok (.goto 36, 3) := by decide +kernel
theorem lw_d19 : decode code 19 = .ok (.iload_n 2, 1) := by decide +kernel
theorem lw_d20 : decode code 20 = .ok (.bipush 12, 2) := by decide +kernel
theorem lw_d22 : decode code 22 = .ok (.if_icmp .ge 28, 3) := by decide +kernel
theorem lw_d25 : decode code 25 = .ok (.iload_n 2, 1) := by decide +kernel
theorem lw_d26 : decode code 26 = .ok (.bipush 6, 2) := by decide +kernel
theorem lw_d28 : decode code 28 = .ok (.isub, 1) := by decide +kernel
theorem lw_d29 : decode code 29 = .ok (.invokestatic 7, 3) := by decide +kernel
theorem lw_d32 : decode code 32 = .ok (.iload_n 0, 1) := by decide +kernel
theorem lw_d33 : decode code 33 = .ok (.iconst 4, 1) := by decide +kernel
theorem lw_d34 : decode code 34 = .ok (.iushr, 1) := by decide +kernel
theorem lw_d35 : decode code 35 = .ok (.iconst 1, 1) := by decide +kernel
theorem lw_d36 : decode code 36 = .ok (.iand, 1) := by decide +kernel
theorem lw_d37 : decode code 37 = .ok (.ifCond .ne 7, 3) := by decide +kernel
theorem lw_d40 : decode code 40 = .ok (.iconst (-1), 1) := by decide +kernel
theorem lw_d41 : decode code 41 = .ok (.goto 4, 3) := by decide +kernel
theorem lw_d44 : decode code 44 = .ok (.iconst 1, 1) := by decide +kernel
theorem lw_d45 : decode code 45 = .ok (.iadd, 1) := by decide +kernel
theorem lw_d46 : decode code 46 = .ok (.istore_n 3, 1) := by decide +kernel
theorem lw_d47 : decode code 47 = .ok (.goto 5, 3) := by decide +kernel
theorem lw_d50 : decode code 50 = .ok (.iload_n 1, 1) := by decide +kernel
theorem lw_d51 : decode code 51 = .ok (.istore_n 3, 1) := by decide +kernel
theorem lw_d52 : decode code 52 = .ok (.iload_n 3, 1) := by decide +kernel
theorem lw_d53 : decode code 53 = .ok (.invokestatic 13, 3) := by decide +kernel
theorem lw_d56 : decode code 56 = .ok (.astore 4, 2) := by decide +kernel
theorem lw_d58 : decode code 58 = .ok (.aload 4, 2) := by decide +kernel
theorem lw_d60 : decode code 60 = .ok (.iload_n 3, 1) := by decide +kernel
theorem lw_d61 : decode code 61 = .ok (.invokestatic 19, 3) := by decide +kernel
theorem lw_d64 : decode code 64 = .ok (.if_acmp .ne 7, 3) := by decide +kernel
theorem lw_d67 : decode code 67 = .ok (.iconst 1, 1) := by decide +kernel
theorem lw_d68 : decode code 68 = .ok (.goto 4, 3) := by decide +kernel
theorem lw_d71 : decode code 71 = .ok (.iconst 0, 1) := by decide +kernel
theorem lw_d72 : decode code 72 = .ok (.ireturn, 1) := by decide +kernel
def lw_f52 (p0 : Int32) (p1 : Int32) (w0 : Addr) (w1 : Addr) (w2 : Addr) (w3 : Addr) (w4 : Addr) (w5 : Addr) (v2 : Int32) (v3 : Int32) : Int32 :=
  if (of_f v3 w0 w1 w2 w3 w4 w5) = (ex_f v3 w0 w1 w2 w3 w4 w5) then
    (1 : Int32)
  else
    (0 : Int32)
set_option maxRecDepth 65536 in
set_option maxHeartbeats 40000000 in
theorem lw_c52 {l : Launch} {Z : State} {a0 : Array Value} {p0 : Int32} {p1 : Int32} {w0 : Addr} {w1 : Addr} {w2 : Addr} {w3 : Addr} {w4 : Addr} {w5 : Addr} {h0 : Heap} {n0 : Nat} {p : Program} {e : Env} {s : State} {m : MethodId} {args : Array Value} {below : List Frame} {meth : Method} {c : Code} {T0 : State} {locs : List Loc} {r0 : Int32} (C0 : own_Cx p s m meth c Z a0 code 5 "com/example/tally_flows/tallyflows/packet/LinkHeaderOfPinLaw" "law" (some .boolean)) (X0 : Stand p l e room_1 s m args below meth c T0 locs 0 0) (e0 : T0.heap = h0) (N0 : Fr n0 locs) (v2 : Int32) (v3 : Int32) (Z0 : n0 ≤ h0.size) (P1 : Sta Z h0 "com/example/tally_flows/tallyflows/packet/LinkHeader" "ETHERNET" "Lcom/example/tally_flows/tallyflows/packet/LinkHeader;" (.ref w0)) (P2 : Sta Z h0 "com/example/tally_flows/tallyflows/packet/LinkHeader" "RAW" "Lcom/example/tally_flows/tallyflows/packet/LinkHeader;" (.ref w1)) (P3 : Sta Z h0 "com/example/tally_flows/tallyflows/packet/LinkHeader" "LINUX_SLL" "Lcom/example/tally_flows/tallyflows/packet/LinkHeader;" (.ref w2)) (P4 : Sta Z h0 "com/example/tally_flows/tallyflows/packet/LinkHeader" "IPV6" "Lcom/example/tally_flows/tallyflows/packet/LinkHeader;" (.ref w3)) (P5 : Sta Z h0 "com/example/tally_flows/tallyflows/packet/LinkHeader" "LINUX_SLL2" "Lcom/example/tally_flows/tallyflows/packet/LinkHeader;" (.ref w4)) (P6 : Sta Z h0 "com/example/tally_flows/tallyflows/packet/LinkHeader" "IPV4" "Lcom/example/tally_flows/tallyflows/packet/LinkHeader;" (.ref w5)) (hr0 : r0 = lw_f52 p0 p1 w0 w1 w2 w3 w4 w5 v2 v3) :
    own_Dn p e below s (own_QL (some (.int r0)) n0) room_1.cells room_1.slots (T0.setTop (mkF m 52 #[.val (.int p0), .val (.int p1), .val (.int v2), .val (.int v3), .unset] [])) := by
  obtain ⟨hx, hZ, hw, hby, hml, hown, hret, hlk, hnm⟩ := id C0
  refine own_st (fun _ k => XS.iloadN X0.here hx rfl (hb hby lw_d52) rfl k) ?_
  show own_Dn p e below s _ _ _ (T0.setTop (mkF m 53 #[.val (.int p0), .val (.int p1), .val (.int v2), .val (.int v3), .unset] [(.int v3)]))
  obtain ⟨_, _, ⟨T14, L14, k14, n14⟩, -, X14, ⟨Lc14, hQ14, l14, y14, z14⟩, st14⟩ := Jvm.LawKit.callS X0 hx (y := (⟨"com/example/tally_flows/tallyflows/packet/LinkHeader", "of", "(I)Lcom/example/tally_flows/tallyflows/packet/LinkHeader;"⟩ : MethodName)) hown (mvT hZ (hw _ (List.mem_of_getElem? (i := 4) rfl))) (mvT hZ (hw _ (List.mem_of_getElem? (i := 5) rfl))) (mvT hZ (hw _ (List.mem_of_getElem? (i := 6) rfl))) (mvT hZ (hw _ (List.mem_of_getElem? (i := 7) rfl))) (by decide) (backOf (W := 0) (of_rm l Z a0 hw [] (v3) (w0) (w1) (w2) (w3) (w4) (w5) h0 n0 Z0 P1 P2 P3 P4 P5 P6) hZ (hw _ (List.mem_of_getElem? (i := 7) rfl)) (hw _ (List.mem_of_getElem? (i := 6) rfl)) (by decide) (by decide)) (g := (mkF m 53 #[.val (.int p0), .val (.int p1), .val (.int v2), .val (.int v3), .unset] [(.int v3)])) rfl (by rw [hml]; rfl) (argsL := [(.int v3)]) (rest := []) (lenOf own_pd1 rfl) rfl (by show 2 * 0 + _ ≤ _; exact Nat.le_of_eq rfl) (hb hby lw_d53) (fun _ _ => ⟨rfl, e0, (by decide : 0 + 0 ≤ _), (by decide : 0 + 0 ≤ _)⟩)
  dsimp only [Pt.U, Pt.locs, Pt.cells, Pt.slots] at X14 l14 y14 z14 st14 hQ14
  subst l14 y14 z14
  obtain ⟨rfl, N14q, e14⟩ := hQ14
  have N14 := Fr.app N0 N14q
  refine own_st st14 ?_
  have ir14 : Value.isRef (of_f v3 w0 w1 w2 w3 w4 w5) = true := of_ir v3 w0 w1 w2 w3 w4 w5
  show own_Dn p e below s _ _ _ (T14.setTop (mkF m 56 #[.val (.int p0), .val (.int p1), .val (.int v2), .val (.int v3), .unset] [(of_f v3 w0 w1 w2 w3 w4 w5)]))
  refine own_st (fun _ k => XS.astore X14.here hx rfl (hb hby lw_d56) rfl ir14 (l' := #[.val (.int p0), .val (.int p1), .val (.int v2), .val (.int v3), .val (of_f v3 w0 w1 w2 w3 w4 w5)]) (XS.store1 rfl One.u (own_cat ir14)) (XS.aload X14.here hx rfl (hb hby lw_d58) rfl ir14 (XS.iloadN X14.here hx rfl (hb hby lw_d60) rfl k))) ?_
  show own_Dn p e below s _ _ _ (T14.setTop (mkF m 61 #[.val (.int p0), .val (.int p1), .val (.int v2), .val (.int v3), .val (of_f v3 w0 w1 w2 w3 w4 w5)] [(.int v3), (of_f v3 w0 w1 w2 w3 w4 w5)]))
  obtain ⟨_, _, ⟨T15, L15, k15, n15⟩, -, X15, ⟨Lc15, hQ15, l15, y15, z15⟩, st15⟩ := Jvm.LawKit.callS X14 hx (y := (⟨"com/example/tally_flows/tallyflows/packet/LinkHeaderOfPinLaw", "expected", "(I)Lcom/example/tally_flows/tallyflows/packet/LinkHeader;"⟩ : MethodName)) hown (mvT hZ (hw _ (List.mem_of_getElem? (i := 10) rfl))) (mvT hZ (hw _ (List.mem_of_getElem? (i := 11) rfl))) (mvT hZ (hw _ (List.mem_of_getElem? (i := 2) rfl))) (mvT hZ (hw _ (List.mem_of_getElem? (i := 12) rfl))) (by decide) (backOf (W := 1) (ex_rm l Z a0 hw [] (v3) (w0) (w1) (w2) (w3) (w4) (w5) h0 n0 Z0 P1 P2 P3 P4 P5 P6) hZ (hw _ (List.mem_of_getElem? (i := 12) rfl)) (hw _ (List.mem_of_getElem? (i := 2) rfl)) (by decide) (by decide)) (g := (mkF m 61 #[.val (.int p0), .val (.int p1), .val (.int v2), .val (.int v3), .val (of_f v3 w0 w1 w2 w3 w4 w5)] [(.int v3), (of_f v3 w0 w1 w2 w3 w4 w5)])) rfl (by rw [hml]; rfl) (argsL := [(.int v3)]) (rest := [(of_f v3 w0 w1 w2 w3 w4 w5)]) (lenOf own_pd1 rfl) rfl (by show 2 * 0 + (List.map (fun v => Value.category v) [(of_f v3 w0 w1 w2 w3 w4 w5)]).sum ≤ 1; simp only [List.map_cons, List.map_nil, List.sum_cons, List.sum_nil, own_cat ir14]; all_goals exact Nat.le_of_eq rfl) (hb hby lw_d61) (fun _ _ => ⟨rfl, e14, (by decide : 0 + 0 ≤ _), (by decide : 0 + 0 ≤ _)⟩)
  dsimp only [Pt.U, Pt.locs, Pt.cells, Pt.slots] at X15 l15 y15 z15 st15 hQ15
  subst l15 y15 z15
  obtain ⟨rfl, N15q, e15⟩ := hQ15
  have N15 := Fr.app N14 N15q
  refine own_st st15 ?_
  have ir15 : Value.isRef (ex_f v3 w0 w1 w2 w3 w4 w5) = true := ex_ir v3 w0 w1 w2 w3 w4 w5
  show own_Dn p e below s _ _ _ (T15.setTop (mkF m 64 #[.val (.int p0), .val (.int p1), .val (.int v2), .val (.int v3), .val (of_f v3 w0 w1 w2 w3 w4 w5)] [(ex_f v3 w0 w1 w2 w3 w4 w5), (of_f v3 w0 w1 w2 w3 w4 w5)]))
  by_cases hc16 : (of_f v3 w0 w1 w2 w3 w4 w5) = (ex_f v3 w0 w1 w2 w3 w4 w5)
  · refine own_st (fun _ k => Jvm.RoadKit.acmp (g := (mkF m 64 #[.val (.int p0), .val (.int p1), .val (.int v2), .val (.int v3), .val (of_f v3 w0 w1 w2 w3 w4 w5)] [(ex_f v3 w0 w1 w2 w3 w4 w5), (of_f v3 w0 w1 w2 w3 w4 w5)])) X15 hx rfl ir14 ir15 (pc0 := 64) (pc' := 67) (same := true) rfl (hb hby lw_d64) rfl (decide_eq_true hc16) (by decide) (by decide) k) ?_
    show own_Dn p e below s _ _ _ (T15.setTop (mkF m 67 #[.val (.int p0), .val (.int p1), .val (.int v2), .val (.int v3), .val (of_f v3 w0 w1 w2 w3 w4 w5)] []))
    refine own_st (fun _ k => XS.iconst X15.here hx rfl (hb hby lw_d67) (XS.goto X15.here hx rfl (pc0 := 68) (pc' := 72) rfl (hb hby lw_d68) (by decide) (by decide) k)) ?_
    show own_Dn p e below s _ _ _ (T15.setTop (mkF m 72 #[.val (.int p0), .val (.int p1), .val (.int v2), .val (.int v3), .val (of_f v3 w0 w1 w2 w3 w4 w5)] [(.int (1 : Int32))]))
    exact own_retZ X15 hx hret hlk (by decide) (hb hby lw_d72) (by decide) (by decide) ⟨(by rw [hr0, lw_f52, if_pos hc16]), N15⟩
  · refine own_st (fun _ k => Jvm.RoadKit.acmp (g := (mkF m 64 #[.val (.int p0), .val (.int p1), .val (.int v2), .val (.int v3), .val (of_f v3 w0 w1 w2 w3 w4 w5)] [(ex_f v3 w0 w1 w2 w3 w4 w5), (of_f v3 w0 w1 w2 w3 w4 w5)])) X15 hx rfl ir14 ir15 (pc0 := 64) (pc' := 71) (same := false) rfl (hb hby lw_d64) rfl (decide_eq_false hc16) (by decide) (by decide) k) ?_
    show own_Dn p e below s _ _ _ (T15.setTop (mkF m 71 #[.val (.int p0), .val (.int p1), .val (.int v2), .val (.int v3), .val (of_f v3 w0 w1 w2 w3 w4 w5)] []))
    refine own_st (fun _ k => XS.iconst X15.here hx rfl (hb hby lw_d71) k) ?_
    show own_Dn p e below s _ _ _ (T15.setTop (mkF m 72 #[.val (.int p0), .val (.int p1), .val (.int v2), .val (.int v3), .val (of_f v3 w0 w1 w2 w3 w4 w5)] [(.int (0 : Int32))]))
    exact own_retZ X15 hx hret hlk (by decide) (hb hby lw_d72) (by decide) (by decide) ⟨(by rw [hr0, lw_f52, if_neg hc16]), N15⟩
def lw_f (p0 : Int32) (p1 : Int32) (w0 : Addr) (w1 : Addr) (w2 : Addr) (w3 : Addr) (w4 : Addr) (w5 : Addr)  : Int32 :=
  if (p0 &&& (15 : Int32)) < (6 : Int32) then
    lw_f52 p0 p1 w0 w1 w2 w3 w4 w5 ((p0 &&& (15 : Int32))) ((kn_f (p0 &&& (15 : Int32))))
  else
    if (p0 &&& (15 : Int32)) < (12 : Int32) then
      if (((p0.toUInt32 >>> ((4 : Int32) &&& 31).toUInt32).toInt32) &&& (1 : Int32)) = (0 : Int32) then
        lw_f52 p0 p1 w0 w1 w2 w3 w4 w5 ((p0 &&& (15 : Int32))) (((kn_f ((p0 &&& (15 : Int32)) - (6 : Int32))) + (-1 : Int32)))
      else
        lw_f52 p0 p1 w0 w1 w2 w3 w4 w5 ((p0 &&& (15 : Int32))) (((kn_f ((p0 &&& (15 : Int32)) - (6 : Int32))) + (1 : Int32)))
    else
      lw_f52 p0 p1 w0 w1 w2 w3 w4 w5 ((p0 &&& (15 : Int32))) (p1)
set_option maxRecDepth 65536 in
set_option maxHeartbeats 40000000 in
theorem lw_c0 {l : Launch} {Z : State} {a0 : Array Value} {p0 : Int32} {p1 : Int32} {w0 : Addr} {w1 : Addr} {w2 : Addr} {w3 : Addr} {w4 : Addr} {w5 : Addr} {h0 : Heap} {n0 : Nat} {p : Program} {e : Env} {s : State} {m : MethodId} {args : Array Value} {below : List Frame} {meth : Method} {c : Code} {T0 : State} {locs : List Loc} {r0 : Int32} (C0 : own_Cx p s m meth c Z a0 code 5 "com/example/tally_flows/tallyflows/packet/LinkHeaderOfPinLaw" "law" (some .boolean)) (X0 : Stand p l e room_1 s m args below meth c T0 locs 0 0) (e0 : T0.heap = h0) (N0 : Fr n0 locs)  (Z0 : n0 ≤ h0.size) (P0 : Sta Z h0 "com/example/tally_flows/tallyflows/packet/LinkHeader" "ETHERNET" "Lcom/example/tally_flows/tallyflows/packet/LinkHeader;" (.ref w0)) (P1 : Sta Z h0 "com/example/tally_flows/tallyflows/packet/LinkHeader" "RAW" "Lcom/example/tally_flows/tallyflows/packet/LinkHeader;" (.ref w1)) (P2 : Sta Z h0 "com/example/tally_flows/tallyflows/packet/LinkHeader" "LINUX_SLL" "Lcom/example/tally_flows/tallyflows/packet/LinkHeader;" (.ref w2)) (P3 : Sta Z h0 "com/example/tally_flows/tallyflows/packet/LinkHeader" "IPV6" "Lcom/example/tally_flows/tallyflows/packet/LinkHeader;" (.ref w3)) (P4 : Sta Z h0 "com/example/tally_flows/tallyflows/packet/LinkHeader" "LINUX_SLL2" "Lcom/example/tally_flows/tallyflows/packet/LinkHeader;" (.ref w4)) (P5 : Sta Z h0 "com/example/tally_flows/tallyflows/packet/LinkHeader" "IPV4" "Lcom/example/tally_flows/tallyflows/packet/LinkHeader;" (.ref w5)) (hr0 : r0 = lw_f p0 p1 w0 w1 w2 w3 w4 w5 ) :
    own_Dn p e below s (own_QL (some (.int r0)) n0) room_1.cells room_1.slots (T0.setTop (mkF m 0 #[.val (.int p0), .val (.int p1), .unset, .unset, .unset] [])) := by
  obtain ⟨hx, hZ, hw, hby, hml, hown, hret, hlk, hnm⟩ := id C0
  refine own_st (fun _ k => XS.iloadN X0.here hx rfl (hb hby lw_d0) rfl (XS.bipush X0.here hx rfl (hb hby lw_d1) (XS.iand X0.here hx rfl (hb hby lw_d3) rfl (XS.istoreN X0.here hx rfl (hb hby lw_d4) rfl (l' := #[.val (.int p0), .val (.int p1), .val (.int (p0 &&& (15 : Int32))), .unset, .unset]) rfl (XS.iloadN X0.here hx rfl (hb hby lw_d5) rfl (XS.bipush X0.here hx rfl (hb hby lw_d6) k)))))) ?_
  show own_Dn p e below s _ _ _ (T0.setTop (mkF m 8 #[.val (.int p0), .val (.int p1), .val (.int (p0 &&& (15 : Int32))), .unset, .unset] [(.int (6 : Int32)), (.int (p0 &&& (15 : Int32)))]))
  by_cases hc9 : (p0 &&& (15 : Int32)) < (6 : Int32)
  · refine own_st (fun _ k => XS.icmpNo X0.here hx rfl (hb hby lw_d8) rfl (tlt hc9).2.1 k) ?_
    show own_Dn p e below s _ _ _ (T0.setTop (mkF m 11 #[.val (.int p0), .val (.int p1), .val (.int (p0 &&& (15 : Int32))), .unset, .unset] []))
    refine own_st (fun _ k => XS.iloadN X0.here hx rfl (hb hby lw_d11) rfl k) ?_
    show own_Dn p e below s _ _ _ (T0.setTop (mkF m 12 #[.val (.int p0), .val (.int p1), .val (.int (p0 &&& (15 : Int32))), .unset, .unset] [(.int (p0 &&& (15 : Int32)))]))
    obtain ⟨_, _, ⟨T10, L10, k10, n10⟩, -, X10, ⟨Lc10, hQ10, l10, y10, z10⟩, st10⟩ := Jvm.LawKit.callS X0 hx (y := (⟨"com/example/tally_flows/tallyflows/packet/LinkHeaderOfPinLaw", "known", "(I)I"⟩ : MethodName)) hown (mvT hZ (hw _ (List.mem_of_getElem? (i := 0) rfl))) (mvT hZ (hw _ (List.mem_of_getElem? (i := 1) rfl))) (mvT hZ (hw _ (List.mem_of_getElem? (i := 2) rfl))) (mvT hZ (hw _ (List.mem_of_getElem? (i := 3) rfl))) (by decide) (backOf (W := 0) (kn_rm l Z a0 hw [] ((p0 &&& (15 : Int32))) h0 n0) hZ (hw _ (List.mem_of_getElem? (i := 3) rfl)) (hw _ (List.mem_of_getElem? (i := 2) rfl)) (by decide) (by decide)) (g := (mkF m 12 #[.val (.int p0), .val (.int p1), .val (.int (p0 &&& (15 : Int32))), .unset, .unset] [(.int (p0 &&& (15 : Int32)))])) rfl (by rw [hml]; rfl) (argsL := [(.int (p0 &&& (15 : Int32)))]) (rest := []) (lenOf own_pd0 rfl) rfl (by show 2 * 0 + _ ≤ _; exact Nat.le_of_eq rfl) (hb hby lw_d12) (fun _ _ => ⟨rfl, e0, (by decide : 0 + 0 ≤ _), (by decide : 0 + 0 ≤ _)⟩)
    dsimp only [Pt.U, Pt.locs, Pt.cells, Pt.slots] at X10 l10 y10 z10 st10 hQ10
    subst l10 y10 z10
    obtain ⟨rfl, N10q, e10⟩ := hQ10
    have N10 := Fr.app N0 N10q
    refine own_st st10 ?_
    show own_Dn p e below s _ _ _ (T10.setTop (mkF m 15 #[.val (.int p0), .val (.int p1), .val (.int (p0 &&& (15 : Int32))), .unset, .unset] [(.int (kn_f (p0 &&& (15 : Int32))))]))
    refine own_st (fun _ k => XS.istoreN X10.here hx rfl (hb hby lw_d15) rfl (l' := #[.val (.int p0), .val (.int p1), .val (.int (p0 &&& (15 : Int32))), .val (.int (kn_f (p0 &&& (15 : Int32)))), .unset]) rfl (XS.goto X10.here hx rfl (pc0 := 16) (pc' := 52) rfl (hb hby lw_d16) (by decide) (by decide) k)) ?_
    show own_Dn p e below s _ _ _ (T10.setTop (mkF m 52 #[.val (.int p0), .val (.int p1), .val (.int (p0 &&& (15 : Int32))), .val (.int (kn_f (p0 &&& (15 : Int32)))), .unset] []))
    exact lw_c52 C0 X10 e10 N10 ((p0 &&& (15 : Int32))) ((kn_f (p0 &&& (15 : Int32)))) Z0 P0 P1 P2 P3 P4 P5 (by rw [hr0, lw_f, if_pos hc9])
  · refine own_st (fun _ k => XS.icmpYes X0.here hx rfl (pc0 := 8) (pc' := 19) rfl (hb hby lw_d8) rfl (flt hc9).2.1 (by decide) (by decide) k) ?_
    show own_Dn p e below s _ _ _ (T0.setTop (mkF m 19 #[.val (.int p0), .val (.int p1), .val (.int (p0 &&& (15 : Int32))), .unset, .unset] []))
    refine own_st (fun _ k => XS.iloadN X0.here hx rfl (hb hby lw_d19) rfl (XS.bipush X0.here hx rfl (hb hby lw_d20) k)) ?_
    show own_Dn p e below s _ _ _ (T0.setTop (mkF m 22 #[.val (.int p0), .val (.int p1), .val (.int (p0 &&& (15 : Int32))), .unset, .unset] [(.int (12 : Int32)), (.int (p0 &&& (15 : Int32)))]))
    by_cases hc11 : (p0 &&& (15 : Int32)) < (12 : Int32)
    · refine own_st (fun _ k => XS.icmpNo X0.here hx rfl (hb hby lw_d22) rfl (tlt hc11).2.1 k) ?_
      show own_Dn p e below s _ _ _ (T0.setTop (mkF m 25 #[.val (.int p0), .val (.int p1), .val (.int (p0 &&& (15 : Int32))), .unset, .unset] []))
      refine own_st (fun _ k => XS.iloadN X0.here hx rfl (hb hby lw_d25) rfl (XS.bipush X0.here hx rfl (hb hby lw_d26) (XS.isub X0.here hx rfl (hb hby lw_d28) rfl k))) ?_
      show own_Dn p e below s _ _ _ (T0.setTop (mkF m 29 #[.val (.int p0), .val (.int p1), .val (.int (p0 &&& (15 : Int32))), .unset, .unset] [(.int ((p0 &&& (15 : Int32)) - (6 : Int32)))]))
      obtain ⟨_, _, ⟨T12, L12, k12, n12⟩, -, X12, ⟨Lc12, hQ12, l12, y12, z12⟩, st12⟩ := Jvm.LawKit.callS X0 hx (y := (⟨"com/example/tally_flows/tallyflows/packet/LinkHeaderOfPinLaw", "known", "(I)I"⟩ : MethodName)) hown (mvT hZ (hw _ (List.mem_of_getElem? (i := 0) rfl))) (mvT hZ (hw _ (List.mem_of_getElem? (i := 1) rfl))) (mvT hZ (hw _ (List.mem_of_getElem? (i := 2) rfl))) (mvT hZ (hw _ (List.mem_of_getElem? (i := 3) rfl))) (by decide) (backOf (W := 0) (kn_rm l Z a0 hw [] (((p0 &&& (15 : Int32)) - (6 : Int32))) h0 n0) hZ (hw _ (List.mem_of_getElem? (i := 3) rfl)) (hw _ (List.mem_of_getElem? (i := 2) rfl)) (by decide) (by decide)) (g := (mkF m 29 #[.val (.int p0), .val (.int p1), .val (.int (p0 &&& (15 : Int32))), .unset, .unset] [(.int ((p0 &&& (15 : Int32)) - (6 : Int32)))])) rfl (by rw [hml]; rfl) (argsL := [(.int ((p0 &&& (15 : Int32)) - (6 : Int32)))]) (rest := []) (lenOf own_pd0 rfl) rfl (by show 2 * 0 + _ ≤ _; exact Nat.le_of_eq rfl) (hb hby lw_d29) (fun _ _ => ⟨rfl, e0, (by decide : 0 + 0 ≤ _), (by decide : 0 + 0 ≤ _)⟩)
      dsimp only [Pt.U, Pt.locs, Pt.cells, Pt.slots] at X12 l12 y12 z12 st12 hQ12
      subst l12 y12 z12
      obtain ⟨rfl, N12q, e12⟩ := hQ12
      have N12 := Fr.app N0 N12q
      refine own_st st12 ?_
      show own_Dn p e below s _ _ _ (T12.setTop (mkF m 32 #[.val (.int p0), .val (.int p1), .val (.int (p0 &&& (15 : Int32))), .unset, .unset] [(.int (kn_f ((p0 &&& (15 : Int32)) - (6 : Int32))))]))
      refine own_st (fun _ k => XS.iloadN X12.here hx rfl (hb hby lw_d32) rfl (XS.iconst X12.here hx rfl (hb hby lw_d33) (XS.iushr X12.here hx rfl (hb hby lw_d34) rfl (XS.iconst X12.here hx rfl (hb hby lw_d35) (XS.iand X12.here hx rfl (hb hby lw_d36) rfl k))))) ?_
      show own_Dn p e below s _ _ _ (T12.setTop (mkF m 37 #[.val (.int p0), .val (.int p1), .val (.int (p0 &&& (15 : Int32))), .unset, .unset] [(.int (((p0.toUInt32 >>> ((4 : Int32) &&& 31).toUInt32).toInt32) &&& (1 : Int32))), (.int (kn_f ((p0 &&& (15 : Int32)) - (6 : Int32))))]))
      by_cases hc13 : (((p0.toUInt32 >>> ((4 : Int32) &&& 31).toUInt32).toInt32) &&& (1 : Int32)) = (0 : Int32)
      · refine own_st (fun _ k => XS.ifNo X12.here hx rfl (hb hby lw_d37) rfl ((if0 _ _).trans (teq hc13).2) k) ?_
        show own_Dn p e below s _ _ _ (T12.setTop (mkF m 40 #[.val (.int p0), .val (.int p1), .val (.int (p0 &&& (15 : Int32))), .unset, .unset] [(.int (kn_f ((p0 &&& (15 : Int32)) - (6 : Int32))))]))
        refine own_st (fun _ k => XS.iconst X12.here hx rfl (hb hby lw_d40) (XS.goto X12.here hx rfl (pc0 := 41) (pc' := 45) rfl (hb hby lw_d41) (by decide) (by decide) (XS.iadd X12.here hx rfl (hb hby lw_d45) rfl (XS.istoreN X12.here hx rfl (hb hby lw_d46) rfl (l' := #[.val (.int p0), .val (.int p1), .val (.int (p0 &&& (15 : Int32))), .val (.int ((kn_f ((p0 &&& (15 : Int32)) - (6 : Int32))) + (-1 : Int32))), .unset]) rfl (XS.goto X12.here hx rfl (pc0 := 47) (pc' := 52) rfl (hb hby lw_d47) (by decide) (by decide) k))))) ?_
        show own_Dn p e below s _ _ _ (T12.setTop (mkF m 52 #[.val (.int p0), .val (.int p1), .val (.int (p0 &&& (15 : Int32))), .val (.int ((kn_f ((p0 &&& (15 : Int32)) - (6 : Int32))) + (-1 : Int32))), .unset] []))
        exact lw_c52 C0 X12 e12 N12 ((p0 &&& (15 : Int32))) (((kn_f ((p0 &&& (15 : Int32)) - (6 : Int32))) + (-1 : Int32))) Z0 P0 P1 P2 P3 P4 P5 (by rw [hr0, lw_f, if_neg hc9, if_pos hc11, if_pos hc13])
      · refine own_st (fun _ k => XS.ifYes X12.here hx rfl (pc0 := 37) (pc' := 44) rfl (hb hby lw_d37) rfl ((if0 _ _).trans (feq hc13).2) (by decide) (by decide) k) ?_
        show own_Dn p e below s _ _ _ (T12.setTop (mkF m 44 #[.val (.int p0), .val (.int p1), .val (.int (p0 &&& (15 : Int32))), .unset, .unset] [(.int (kn_f ((p0 &&& (15 : Int32)) - (6 : Int32))))]))
        refine own_st (fun _ k => XS.iconst X12.here hx rfl (hb hby lw_d44) (XS.iadd X12.here hx rfl (hb hby lw_d45) rfl (XS.istoreN X12.here hx rfl (hb hby lw_d46) rfl (l' := #[.val (.int p0), .val (.int p1), .val (.int (p0 &&& (15 : Int32))), .val (.int ((kn_f ((p0 &&& (15 : Int32)) - (6 : Int32))) + (1 : Int32))), .unset]) rfl (XS.goto X12.here hx rfl (pc0 := 47) (pc' := 52) rfl (hb hby lw_d47) (by decide) (by decide) k)))) ?_
        show own_Dn p e below s _ _ _ (T12.setTop (mkF m 52 #[.val (.int p0), .val (.int p1), .val (.int (p0 &&& (15 : Int32))), .val (.int ((kn_f ((p0 &&& (15 : Int32)) - (6 : Int32))) + (1 : Int32))), .unset] []))
        exact lw_c52 C0 X12 e12 N12 ((p0 &&& (15 : Int32))) (((kn_f ((p0 &&& (15 : Int32)) - (6 : Int32))) + (1 : Int32))) Z0 P0 P1 P2 P3 P4 P5 (by rw [hr0, lw_f, if_neg hc9, if_pos hc11, if_neg hc13])
    · refine own_st (fun _ k => XS.icmpYes X0.here hx rfl (pc0 := 22) (pc' := 50) rfl (hb hby lw_d22) rfl (flt hc11).2.1 (by decide) (by decide) k) ?_
      show own_Dn p e below s _ _ _ (T0.setTop (mkF m 50 #[.val (.int p0), .val (.int p1), .val (.int (p0 &&& (15 : Int32))), .unset, .unset] []))
      refine own_st (fun _ k => XS.iloadN X0.here hx rfl (hb hby lw_d50) rfl (XS.istoreN X0.here hx rfl (hb hby lw_d51) rfl (l' := #[.val (.int p0), .val (.int p1), .val (.int (p0 &&& (15 : Int32))), .val (.int p1), .unset]) rfl k)) ?_
      show own_Dn p e below s _ _ _ (T0.setTop (mkF m 52 #[.val (.int p0), .val (.int p1), .val (.int (p0 &&& (15 : Int32))), .val (.int p1), .unset] []))
      exact lw_c52 C0 X0 e0 N0 ((p0 &&& (15 : Int32))) (p1) Z0 P0 P1 P2 P3 P4 P5 (by rw [hr0, lw_f, if_neg hc9, if_neg hc11])
theorem lw_ef (m : MethodId) (p0 : Int32) (p1 : Int32) : entryFrame m #[(.int p0), (.int p1)] maxLocals = mkF m 0 #[.val (.int p0), .val (.int p1), .unset, .unset, .unset] [] := by first | (simp [entryFrame, mkF, argsToLocals, Value.category, maxLocals]; done) | rfl
theorem lw_rm (l : Launch) (Z : State) (a0 : Array Value) (hw : ∀ d ∈ tables_1, d.before a0 Z = true) (ws : List Jvm.Cond) (p0 : Int32) (p1 : Int32) (w0 : Addr) (w1 : Addr) (w2 : Addr) (w3 : Addr) (w4 : Addr) (w5 : Addr) (h0 : Heap) (n0 : Nat) (Z0 : n0 ≤ h0.size) (P0 : Sta Z h0 "com/example/tally_flows/tallyflows/packet/LinkHeader" "ETHERNET" "Lcom/example/tally_flows/tallyflows/packet/LinkHeader;" (.ref w0)) (P1 : Sta Z h0 "com/example/tally_flows/tallyflows/packet/LinkHeader" "RAW" "Lcom/example/tally_flows/tallyflows/packet/LinkHeader;" (.ref w1)) (P2 : Sta Z h0 "com/example/tally_flows/tallyflows/packet/LinkHeader" "LINUX_SLL" "Lcom/example/tally_flows/tallyflows/packet/LinkHeader;" (.ref w2)) (P3 : Sta Z h0 "com/example/tally_flows/tallyflows/packet/LinkHeader" "IPV6" "Lcom/example/tally_flows/tallyflows/packet/LinkHeader;" (.ref w3)) (P4 : Sta Z h0 "com/example/tally_flows/tallyflows/packet/LinkHeader" "LINUX_SLL2" "Lcom/example/tally_flows/tallyflows/packet/LinkHeader;" (.ref w4)) (P5 : Sta Z h0 "com/example/tally_flows/tallyflows/packet/LinkHeader" "IPV4" "Lcom/example/tally_flows/tallyflows/packet/LinkHeader;" (.ref w5)) :
    MetFree l x (head1 (Jvm.Cond.code x code maxLocals ret :: ws) room_1) (fun a U => a = #[(.int p0), (.int p1)] ∧ Z.Warmed39 U.vm ∧ U.heap = h0) (fun _ _ _ _ _ => True) (fun _ U o U' => ∃ v L, o = .returned v ∧ (own_QL (some (.int (lw_f p0 p1 w0 w1 w2 w3 w4 w5))) n0) v U'.heap L ∧ FrameEnd U o U' L room_1.cells room_1.slots) :=
  own_met hw (plainFor_of_name (by first | (simp [plainName, overriddenIn]; done) | decide +kernel)) (fun p e s m below meth c T0 C0 X0 e0 => own_st (fun _ k => castTop (lw_ef m p0 p1) k) (lw_c0 C0 X0 e0 (Fr.nil n0) Z0 P0 P1 P2 P3 P4 P5 rfl))
theorem own_eq (t : Int32) (w0 w1 w2 w3 w4 w5 : Addr) : of_f t w0 w1 w2 w3 w4 w5 = ex_f t w0 w1 w2 w3 w4 w5 := by
  simp only [of_f, ex_f]
  by_cases h1 : t = 1
  · subst h1; rfl
  by_cases h2 : t = 101
  · subst h2; rfl
  by_cases h3 : t = 113
  · subst h3; rfl
  by_cases h4 : t = 228
  · subst h4; rfl
  by_cases h5 : t = 229
  · subst h5; rfl
  by_cases h6 : t = 276
  · subst h6; rfl
  simp only [h1, h2, h3, h4, h5, h6, if_false]
theorem own_l52 (p0 p1 : Int32) (w0 w1 w2 w3 w4 w5 : Addr) (v2 v3 : Int32) : lw_f52 p0 p1 w0 w1 w2 w3 w4 w5 v2 v3 = 1 := by
  simp only [lw_f52, own_eq, if_true]
theorem own_law (p0 p1 : Int32) (w0 w1 w2 w3 w4 w5 : Addr) : lw_f p0 p1 w0 w1 w2 w3 w4 w5 = 1 := by
  simp only [lw_f, own_l52, ite_self]

set_option maxRecDepth 65536 in
set_option maxHeartbeats 40000000 in
theorem comes_1 {Post : Tables → Env → Array Value → State → Outcome → State → Prop} (hpost : ∀ tb e args s v u, (limb_1_1.after args s (.returned v) u = true ∧ limb_1_2.after args s (.returned v) u = true ∧ True) → FrameEnd s (.returned v) u (Jvm.fieldLocs frame_1_writes args s ++ Jvm.arrayLocs frame_1_arrays args s ++ Jvm.staticLocs frame_1_statics s) 0 0 → Post tb e args s (.returned v) u) :
    ArmFor flags0 classFile x code maxLocals ret World_1 tables_1 room_1 Calls_1 rest_1 Pre_1 Post := by
  intro l hfl _ _ p e ha hc hk s m args below hf hA hF happ hP
  obtain ⟨hcalls, hrest, hpre⟩ := hP
  obtain ⟨-, -, -, hnamed, -, -, -, hat⟩ := (Spec.applies_iff hf).mp happ
  obtain ⟨hg, hn⟩ := and_e (Cond.before_iff.mp (show (Jvm.Cond.and given_1 narrow_1).before args s = true from hpre))
  obtain ⟨gc, hg0⟩ := and_e hg
  obtain ⟨g0, g1⟩ := and_e hg0
  obtain ⟨w0, w1, rfl⟩ : ∃ w0 w1 : Value, args = #[w0, w1] := by
    have hs : args.size = 2 := by simpa [Cond.value, given_1] using gc
    obtain ⟨L⟩ := args
    match L, hs with
    | [w0, w1], _ => exact ⟨w0, w1, rfl⟩
  have hw := fun d (hd : d ∈ tables_1) => atoms_spec (ws := Jvm.Cond.code x code maxLocals ret :: tables_1) hat d (List.mem_cons_of_mem _ hd)
  have hfit : Fit s := fun {y c} hc i hi => by
    obtain ⟨ha, rfl⟩ := Array.getElem?_eq_some_iff.mp hc
    have q := List.all_eq_true.mp ((Array.all_eq_true_iff_forall_mem.mp hF) _ (Array.getElem_mem ha)) i (List.mem_range.mpr hi)
    simpa [Array.getElem?_eq_getElem hi] using q
  obtain ⟨i0, ei0⟩ := is_v g0
  obtain rfl : w0 = (.int i0) := Option.some.inj ei0
  obtain ⟨i1, ei1⟩ := is_v g1
  obtain rfl : w1 = (.int i1) := Option.some.inj ei1
  obtain ⟨x0, hn0⟩ := and_e hn
  obtain ⟨w0, ev0⟩ := exa_v x0
  have P0 : Sta s s.heap "com/example/tally_flows/tallyflows/packet/LinkHeader" "ETHERNET" "Lcom/example/tally_flows/tallyflows/packet/LinkHeader;" (.ref w0) := Sta.start ev0 (Or.inr ⟨(hw _ (List.mem_of_getElem? (i := 6) rfl)), (hw _ (List.mem_of_getElem? (i := 9) rfl))⟩)
  obtain ⟨x1, hn1⟩ := and_e hn0
  obtain ⟨w1, ev1⟩ := exa_v x1
  have P1 : Sta s s.heap "com/example/tally_flows/tallyflows/packet/LinkHeader" "RAW" "Lcom/example/tally_flows/tallyflows/packet/LinkHeader;" (.ref w1) := Sta.start ev1 (Or.inr ⟨(hw _ (List.mem_of_getElem? (i := 6) rfl)), (hw _ (List.mem_of_getElem? (i := 15) rfl))⟩)
  obtain ⟨x2, hn2⟩ := and_e hn1
  obtain ⟨w2, ev2⟩ := exa_v x2
  have P2 : Sta s s.heap "com/example/tally_flows/tallyflows/packet/LinkHeader" "LINUX_SLL" "Lcom/example/tally_flows/tallyflows/packet/LinkHeader;" (.ref w2) := Sta.start ev2 (Or.inr ⟨(hw _ (List.mem_of_getElem? (i := 6) rfl)), (hw _ (List.mem_of_getElem? (i := 18) rfl))⟩)
  obtain ⟨x3, hn3⟩ := and_e hn2
  obtain ⟨w3, ev3⟩ := exa_v x3
  have P3 : Sta s s.heap "com/example/tally_flows/tallyflows/packet/LinkHeader" "IPV6" "Lcom/example/tally_flows/tallyflows/packet/LinkHeader;" (.ref w3) := Sta.start ev3 (Or.inr ⟨(hw _ (List.mem_of_getElem? (i := 6) rfl)), (hw _ (List.mem_of_getElem? (i := 21) rfl))⟩)
  obtain ⟨x4, hn4⟩ := and_e hn3
  obtain ⟨w4, ev4⟩ := exa_v x4
  have P4 : Sta s s.heap "com/example/tally_flows/tallyflows/packet/LinkHeader" "LINUX_SLL2" "Lcom/example/tally_flows/tallyflows/packet/LinkHeader;" (.ref w4) := Sta.start ev4 (Or.inr ⟨(hw _ (List.mem_of_getElem? (i := 6) rfl)), (hw _ (List.mem_of_getElem? (i := 24) rfl))⟩)
  obtain ⟨w5, ev5⟩ := exa_v hn4
  have P5 : Sta s s.heap "com/example/tally_flows/tallyflows/packet/LinkHeader" "IPV4" "Lcom/example/tally_flows/tallyflows/packet/LinkHeader;" (.ref w5) := Sta.start ev5 (Or.inr ⟨(hw _ (List.mem_of_getElem? (i := 6) rfl)), (hw _ (List.mem_of_getElem? (i := 27) rfl))⟩)
  obtain ⟨n, o, h1, h2, h3, _, L, rfl, ⟨rfl, N⟩, hq⟩ := lw_rm l s _ hw tables_1 i0 i1 w0 w1 w2 w3 w4 w5 s.heap s.heap.size (Nat.le_refl _) P0 P1 P2 P3 P4 P5 p e ha hc hk s m _ below hf ((Spec.applies_iff_loose hf).mp happ).1 ⟨rfl, State.Warmed39.refl s, rfl⟩ trivial
  refine ⟨n, _, h1, h2, h3, hpost _ _ _ _ _ _ ⟨Cond.after_iff.mpr rfl, Cond.after_iff.mpr (eq_i res_at (Term.int_eval (1)) (by rw [own_law])), trivial⟩ ⟨hq.1, hq.2.1, (hq.2.2.sift fun y hy => Or.inr (N y hy)).mono (by decide) (by decide)⟩⟩
theorem main_1_1 : Claimed_1_1 := comes_1 fun _ _ _ _ _ _ h hF => ⟨h.1, hF⟩
theorem main_1_2 : Claimed_1_2 := comes_1 fun _ _ _ _ _ _ h hF => ⟨h.2.1, hF⟩
end Jvm.Pilot.@@N@@
namespace Jvm.Pilot.@@N@@
open Jvm Jvm.ClassFile Sem Op Lib Jvm.Free Jvm.Stand Jvm.Pilot.@@N@@.Jvm.D
/-! MADE BY PROGRAM (witnessworld.py) out of the Statement's table words and the real class files: 12 classes; the members and pool entries that the words name. The judged class is class 1, her method 1. -/
namespace start1
open Jvm.ClassFile
def u (s : String) : CpInfo := .utf8 (stringToUtf16 s)
/-- a pool by its gaps: so many unusable entries, then the entry; so many at the end -/
def gap : Nat → List CpInfo → List CpInfo
  | 0, r => r
  | n + 1, r => .unusable :: gap n r
def poolList (es : List (Nat × CpInfo)) (last : Nat) : List CpInfo := es.foldr (fun e r => gap e.1 (e.2 :: r)) (gap last [])
def pool (es : List (Nat × CpInfo)) (last : Nat) : Array CpInfo := ⟨poolList es last⟩
def fileOf (pool : Array CpInfo) (this : Nat) (attrs : Array Attribute := #[]) (ms : Array MethodInfo := #[]) (fl : Nat := 33) (sup : Nat := 0) (ifs : Array Nat := #[]) (fds : Array FieldInfo := #[]) : ClassFile where
  minorVersion := 0
  majorVersion := 65
  constantPool := pool
  accessFlags := fl
  thisClass := this
  superClass := sup
  interfaces := ifs
  fields := fds
  methods := ms
  attributes := attrs
def plain (name : String) (sup : Option ClassId) : Class where
  name := name
  kind := .ordinary
  loader := none
  accessFlags := 33
  super := sup
  interfaces := #[]
  cf := none
  fields := #[]
  methods := #[]
  instanceTypes := #[]
  staticTypes := #[]
  resolved := #[]
  callSites := []
  init := .initialized
  statics := none
  mirror := none

def pool0 : Array CpInfo := pool [(5, u "<init>"), (0, u "()V"), (1, .class_ 10), (1, u "java/lang/Object")] 113

def k0m0 : Method := { name := "<init>", desc := "()V", sig := { parameters := [], returnType := none }, accessFlags := 1, code := none }
/-- java/lang/Object -/
def k0 : Class := { plain "java/lang/Object" none with
  accessFlags := 33
  interfaces := #[]
  cf := some (fileOf pool0 8 #[] #[{ accessFlags := 1, nameIndex := 5, descriptorIndex := 6, attributes := #[] }] 33 0 #[] #[])
  fields := #[]
  methods := #[k0m0]
  instanceTypes := #[]
  staticTypes := #[]
  resolved := Array.replicate 124 none
  statics := none }

def pool1 : Array CpInfo := pool [(2, .class_ 4), (1, u "java/lang/Object"), (0, u "<init>"), (0, u "()V"), (0, .methodref 8 9), (0, .class_ 10), (0, .nameAndType 11 12), (0, u "com/example/tally_flows/tallyflows/packet/LinkHeaderOfPinLaw"), (0, u "known"), (0, u "(I)I"), (0, .methodref 14 15), (0, .class_ 16), (0, .nameAndType 17 18), (0, u "com/example/tally_flows/tallyflows/packet/LinkHeader"), (0, u "of"), (0, u "(I)Lcom/example/tally_flows/tallyflows/packet/LinkHeader;"), (0, .methodref 8 20), (0, .nameAndType 21 18), (0, u "expected"), (0, .fieldref 14 23), (0, .nameAndType 24 25), (0, u "ETHERNET"), (0, u "Lcom/example/tally_flows/tallyflows/packet/LinkHeader;"), (0, .fieldref 14 27), (0, .nameAndType 28 25), (0, u "LINUX_SLL"), (0, .fieldref 14 30), (0, .nameAndType 31 25), (0, u "LINUX_SLL2"), (0, .fieldref 14 33), (0, .nameAndType 34 25), (0, u "RAW"), (0, .fieldref 14 36), (0, .nameAndType 37 25), (0, u "IPV4"), (0, .fieldref 14 39), (0, .nameAndType 40 25), (0, u "IPV6"), (2, u "law"), (0, u "(II)Z")] 3

def k1m0 : Method := { name := "<init>", desc := "()V", sig := { parameters := [], returnType := none }, accessFlags := 1, code := none }
def k1c1 : Code := { maxStack := 3, maxLocals := 5, code := code, exceptionTable := #[], attributes := #[] }
def k1m1 : Method := { name := "law", desc := "(II)Z", sig := { parameters := [.int, .int], returnType := some .boolean }, accessFlags := 9, code := some k1c1 }
def k1c2 : Code := { maxStack := 2, maxLocals := 1, code := method_3_code, exceptionTable := #[], attributes := #[] }
def k1m2 : Method := { name := "known", desc := "(I)I", sig := { parameters := [.int], returnType := some .int }, accessFlags := 10, code := some k1c2 }
def k1c3 : Code := { maxStack := 2, maxLocals := 1, code := method_4_code, exceptionTable := #[], attributes := #[] }
def k1m3 : Method := { name := "expected", desc := "(I)Lcom/example/tally_flows/tallyflows/packet/LinkHeader;", sig := { parameters := [.int], returnType := some (.object "com/example/tally_flows/tallyflows/packet/LinkHeader") }, accessFlags := 10, code := some k1c3 }
/-- com/example/tally_flows/tallyflows/packet/LinkHeaderOfPinLaw -/
def k1 : Class := { plain "com/example/tally_flows/tallyflows/packet/LinkHeaderOfPinLaw" (some 0) with
  accessFlags := 49
  interfaces := #[]
  cf := some (fileOf pool1 8 #[] #[{ accessFlags := 1, nameIndex := 5, descriptorIndex := 6, attributes := #[] }, { accessFlags := 9, nameIndex := 43, descriptorIndex := 44, attributes := #[] }, { accessFlags := 10, nameIndex := 11, descriptorIndex := 12, attributes := #[] }, { accessFlags := 10, nameIndex := 21, descriptorIndex := 18, attributes := #[] }] 49 2 #[] #[])
  fields := #[]
  methods := #[k1m0, k1m1, k1m2, k1m3]
  instanceTypes := #[]
  staticTypes := #[]
  resolved := Array.replicate 48 none
  statics := none }

def pool2 : Array CpInfo := pool [(1, .class_ 2), (0, u "java/lang/constant/Constable"), (0, .class_ 4), (0, u "java/lang/Object")] 6

/-- java/lang/constant/Constable -/
def k2 : Class := { plain "java/lang/constant/Constable" (some 0) with
  accessFlags := 1537
  interfaces := #[]
  cf := some (fileOf pool2 1 #[] #[] 1537 3 #[] #[])
  fields := #[]
  methods := #[]
  instanceTypes := #[]
  staticTypes := #[]
  resolved := Array.replicate 11 none
  statics := none }

def pool3 : Array CpInfo := pool [(1, .class_ 2), (0, u "java/lang/Comparable"), (0, .class_ 4), (0, u "java/lang/Object")] 7

/-- java/lang/Comparable -/
def k3 : Class := { plain "java/lang/Comparable" (some 0) with
  accessFlags := 1537
  interfaces := #[]
  cf := some (fileOf pool3 1 #[] #[] 1537 3 #[] #[])
  fields := #[]
  methods := #[]
  instanceTypes := #[]
  staticTypes := #[]
  resolved := Array.replicate 12 none
  statics := none }

def pool4 : Array CpInfo := pool [(1, .class_ 2), (0, u "java/io/Serializable"), (0, .class_ 4), (0, u "java/lang/Object")] 2

/-- java/io/Serializable -/
def k4 : Class := { plain "java/io/Serializable" (some 0) with
  accessFlags := 1537
  interfaces := #[]
  cf := some (fileOf pool4 1 #[] #[] 1537 3 #[] #[])
  fields := #[]
  methods := #[]
  instanceTypes := #[]
  staticTypes := #[]
  resolved := Array.replicate 7 none
  statics := none }

def pool5 : Array CpInfo := pool [(2, .class_ 4), (1, u "java/lang/Enum"), (0, u "name"), (0, u "Ljava/lang/String;"), (2, u "ordinal"), (0, u "I"), (1, .class_ 14), (1, u "java/lang/Object"), (4, u "hash"), (86, .class_ 108), (1, u "java/lang/Enum$EnumDesc"), (2, .class_ 112), (0, u "java/lang/constant/Constable"), (0, .class_ 114), (0, u "java/lang/Comparable"), (0, .class_ 116), (0, u "java/io/Serializable")] 87

/-- java/lang/Enum -/
def k5 : Class := { plain "java/lang/Enum" (some 0) with
  accessFlags := 1057
  interfaces := #[2, 3, 4]
  cf := some (fileOf pool5 2 #[.nestMembers #[106]] #[] 1057 12 #[111, 113, 115] #[{ accessFlags := 18, nameIndex := 5, descriptorIndex := 6, attributes := #[] }, { accessFlags := 18, nameIndex := 9, descriptorIndex := 10, attributes := #[] }, { accessFlags := 2, nameIndex := 19, descriptorIndex := 10, attributes := #[] }])
  fields := #[{ name := "name", type := (.object "java/lang/String"), accessFlags := 18, slot := 0, constantValue := 0 }, { name := "ordinal", type := .int, accessFlags := 18, slot := 1, constantValue := 0 }, { name := "hash", type := .int, accessFlags := 2, slot := 2, constantValue := 0 }]
  methods := #[]
  instanceTypes := #[(.object "java/lang/String"), .int, .int]
  staticTypes := #[]
  resolved := Array.replicate 204 none
  statics := none }

def pool6 : Array CpInfo := pool [(1, .class_ 2), (0, u "com/example/tally_flows/tallyflows/packet/LinkHeader"), (0, .fieldref 1 4), (0, .nameAndType 5 6), (0, u "ETHERNET"), (0, u "Lcom/example/tally_flows/tallyflows/packet/LinkHeader;"), (0, .fieldref 1 8), (0, .nameAndType 9 6), (0, u "LINUX_SLL"), (0, .fieldref 1 11), (0, .nameAndType 12 6), (0, u "LINUX_SLL2"), (0, .fieldref 1 14), (0, .nameAndType 15 6), (0, u "RAW"), (0, .fieldref 1 17), (0, .nameAndType 18 6), (0, u "IPV4"), (0, .fieldref 1 20), (0, .nameAndType 21 6), (0, u "IPV6"), (2, u "$VALUES"), (0, u "[Lcom/example/tally_flows/tallyflows/packet/LinkHeader;"), (6, .class_ 34), (1, u "java/lang/Enum"), (8, u "etherTypeOffset"), (0, u "I"), (2, u "bytes"), (38, u "LINUX_PROTOCOL_802_2"), (9, u "of"), (0, u "(I)Lcom/example/tally_flows/tallyflows/packet/LinkHeader;")] 7

def k6c0 : Code := { maxStack := 1, maxLocals := 1, code := prog_97_method_4_code, exceptionTable := #[], attributes := #[] }
def k6m0 : Method := { name := "of", desc := "(I)Lcom/example/tally_flows/tallyflows/packet/LinkHeader;", sig := { parameters := [.int], returnType := some (.object "com/example/tally_flows/tallyflows/packet/LinkHeader") }, accessFlags := 8, code := some k6c0 }
/-- com/example/tally_flows/tallyflows/packet/LinkHeader -/
def k6 : Class := { plain "com/example/tally_flows/tallyflows/packet/LinkHeader" (some 5) with
  accessFlags := 16432
  interfaces := #[]
  cf := some (fileOf pool6 1 #[] #[{ accessFlags := 8, nameIndex := 96, descriptorIndex := 97, attributes := #[] }] 16432 32 #[] #[{ accessFlags := 16409, nameIndex := 5, descriptorIndex := 6, attributes := #[] }, { accessFlags := 16409, nameIndex := 9, descriptorIndex := 6, attributes := #[] }, { accessFlags := 16409, nameIndex := 12, descriptorIndex := 6, attributes := #[] }, { accessFlags := 16409, nameIndex := 15, descriptorIndex := 6, attributes := #[] }, { accessFlags := 16409, nameIndex := 18, descriptorIndex := 6, attributes := #[] }, { accessFlags := 16409, nameIndex := 21, descriptorIndex := 6, attributes := #[] }, { accessFlags := 26, nameIndex := 86, descriptorIndex := 44, attributes := #[] }, { accessFlags := 18, nameIndex := 43, descriptorIndex := 44, attributes := #[] }, { accessFlags := 18, nameIndex := 47, descriptorIndex := 44, attributes := #[] }, { accessFlags := 4122, nameIndex := 24, descriptorIndex := 25, attributes := #[] }])
  fields := #[{ name := "ETHERNET", type := (.object "com/example/tally_flows/tallyflows/packet/LinkHeader"), accessFlags := 16409, slot := 0, constantValue := 0 }, { name := "LINUX_SLL", type := (.object "com/example/tally_flows/tallyflows/packet/LinkHeader"), accessFlags := 16409, slot := 1, constantValue := 0 }, { name := "LINUX_SLL2", type := (.object "com/example/tally_flows/tallyflows/packet/LinkHeader"), accessFlags := 16409, slot := 2, constantValue := 0 }, { name := "RAW", type := (.object "com/example/tally_flows/tallyflows/packet/LinkHeader"), accessFlags := 16409, slot := 3, constantValue := 0 }, { name := "IPV4", type := (.object "com/example/tally_flows/tallyflows/packet/LinkHeader"), accessFlags := 16409, slot := 4, constantValue := 0 }, { name := "IPV6", type := (.object "com/example/tally_flows/tallyflows/packet/LinkHeader"), accessFlags := 16409, slot := 5, constantValue := 0 }, { name := "LINUX_PROTOCOL_802_2", type := .int, accessFlags := 26, slot := 6, constantValue := 0 }, { name := "etherTypeOffset", type := .int, accessFlags := 18, slot := 3, constantValue := 0 }, { name := "bytes", type := .int, accessFlags := 18, slot := 4, constantValue := 0 }, { name := "$VALUES", type := (.array (.object "com/example/tally_flows/tallyflows/packet/LinkHeader")), accessFlags := 4122, slot := 7, constantValue := 0 }]
  methods := #[k6m0]
  instanceTypes := #[(.object "java/lang/String"), .int, .int, .int, .int]
  staticTypes := #[(.object "com/example/tally_flows/tallyflows/packet/LinkHeader"), (.object "com/example/tally_flows/tallyflows/packet/LinkHeader"), (.object "com/example/tally_flows/tallyflows/packet/LinkHeader"), (.object "com/example/tally_flows/tallyflows/packet/LinkHeader"), (.object "com/example/tally_flows/tallyflows/packet/LinkHeader"), (.object "com/example/tally_flows/tallyflows/packet/LinkHeader"), .int, (.array (.object "com/example/tally_flows/tallyflows/packet/LinkHeader"))]
  resolved := Array.replicate 105 none
  statics := some 0 }

def pool7 : Array CpInfo := pool [(1, u "java/lang/Cloneable"), (0, .class_ 1), (0, u "java/lang/Object"), (0, .class_ 3)] 3

/-- java/lang/Cloneable -/
def k7 : Class := { plain "java/lang/Cloneable" (some 0) with
  accessFlags := 1537
  interfaces := #[]
  cf := some (fileOf pool7 2 #[] #[] 1537 4 #[] #[])
  fields := #[]
  methods := #[]
  instanceTypes := #[]
  staticTypes := #[]
  resolved := Array.replicate 8 none
  statics := none }

/-- the primitive byte -/
def k8 : Class := { plain "byte" none with kind := .primitive 'B', accessFlags := 0x411 }
/-- [B -/
def k9 : Class := { plain "[B" (some 0) with kind := .array 8 .byte, interfaces := #[7, 4], accessFlags := 1041 }

/-- the primitive int -/
def k10 : Class := { plain "int" none with kind := .primitive 'I', accessFlags := 0x411 }
/-- [I -/
def k11 : Class := { plain "[I" (some 0) with kind := .array 10 .int, interfaces := #[7, 4], accessFlags := 1041 }

def heap : Heap := #[{ cls := 6, slots := #[.ref 1, .ref 2, .ref 3, .ref 4, .ref 5, .ref 6, .int 0, .null], vm := .statics 6 },
  { cls := 6, slots := #[.null, .int 0, .int 0, .int 0, .int 0], vm := .none },
  { cls := 6, slots := #[.null, .int 0, .int 0, .int 0, .int 0], vm := .none },
  { cls := 6, slots := #[.null, .int 0, .int 0, .int 0, .int 0], vm := .none },
  { cls := 6, slots := #[.null, .int 0, .int 0, .int 0, .int 0], vm := .none },
  { cls := 6, slots := #[.null, .int 0, .int 0, .int 0, .int 0], vm := .none },
  { cls := 6, slots := #[.null, .int 0, .int 0, .int 0, .int 0], vm := .none }]
def classes : Array Class := #[k0, k1, k2, k3, k4, k5, k6, k7, k8, k9, k10, k11]
def interned : List (Array UInt16 × Addr) := []
def slotsUsed : Nat := 38
def theMethod : MethodId := ⟨1, 1⟩
def args0 : Array Value := #[.int 5, .int 3]
def aboutOver (below : List Frame) : State where
  vm := { classes := classes, interned := interned.toArray }
  heap := heap
  slotsUsed := slotsUsed
  threads := #[{ frames := .invoking theMethod args0 :: below }]
def below0 : List Frame := [.native { method := ⟨0, 0⟩, args := #[] }]
def about1 : State := aboutOver below0
def p0 : Program := .bare "" "" ""
def e0 : Env := launch0.env 0 0 0
theorem w_frames : about1.frames = Frame.invoking theMethod args0 :: below0 := rfl
set_option maxRecDepth 65536 in
theorem w_args : argsFit about1.vm theMethod args0 = true := by decide +kernel
set_option maxRecDepth 65536 in
theorem w_heap : heapFits about1 = true := by decide +kernel
set_option maxRecDepth 65536 in
theorem w_runnable : about1.curStatus? = some .runnable := by decide +kernel
set_option maxRecDepth 65536 in
theorem w_alone : about1.alone = true := by decide +kernel
set_option maxRecDepth 65536 in
theorem w_named : about1.methodNamed? x = some theMethod := by decide +kernel
set_option maxRecDepth 65536 in
theorem w_hears : about1.hears theMethod below0 = true := by decide +kernel
set_option maxRecDepth 65536 in
theorem w_ripe : about1.ripe theMethod args0 below0 = true := by decide +kernel
theorem w_running : about1.status = .running := rfl
set_option maxRecDepth 65536 in
theorem w_room : about1.hasRoom e0.platform room_1 = true :=
  launch0.hasRoom_least _ room_1 (by decide +kernel) (by decide +kernel) (by decide +kernel) (by decide +kernel) (by decide +kernel) (by decide +kernel)
theorem allAtoms_all (ts : List Jvm.Cond) (a : Array Jvm.Value) (st : Jvm.State) : (allAtoms ts).before a st = ts.all (fun c => c.before a st) := by
  induction ts with
  | nil => rfl
  | cons c t ih =>
    show (Jvm.Cond.and c (allAtoms t)).before a st = _
    rw [Jvm.Cond.before_and, ih, List.all_cons]
def words1 : List Jvm.Cond := Jvm.Cond.code x code maxLocals ret :: tables_1
/-- a 'code' word, met by the world's own term for the bytes: nothing is compared byte by byte -/
theorem code_word {y : MethodName} {bytes : ByteArray} {mx : Nat} {rt : Option FieldType} {a : Array Value} {s : State} {m : MethodId} {meth : Method} {c : Code} (h1 : s.methodNamed? y = some m) (h2 : s.vm.method? m = some meth) (h3 : meth.code = some c) (h4 : c.code = bytes)
    (h5 : (c.maxLocals == mx && c.exceptionTable.isEmpty && decide (c.maxStack ≤ mostOperands) && decide (meth.sig.returnType = rt) && !meth.locks && decide (parseMethodDescriptor y.desc = some meth.sig)) = true) : (Jvm.Cond.code y bytes mx rt).before a s = true := by
  simp only [Bool.and_eq_true, beq_iff_eq, Bool.not_eq_true', decide_eq_true_eq] at h5
  obtain ⟨⟨⟨⟨⟨g1, g2⟩, g3⟩, g4⟩, g5⟩, g6⟩ := h5
  simp [Cond.before, Cond.holds, Cond.value, h1, h2, h3, h4, g1, g2, g3, g4, g5, g6]
def isCode : Jvm.Cond → Bool
  | .code _ _ _ _ => true
  | _ => false
theorem all_split {L : List Jvm.Cond} {P : Jvm.Cond → Bool} (h1 : L.all (fun c => isCode c || P c) = true) (h2 : ∀ c ∈ L.filter isCode, P c = true) : L.all P = true := by
  refine List.all_eq_true.mpr fun c hc => ?_
  have h := List.all_eq_true.mp h1 c hc
  rcases Bool.eq_false_or_eq_true (isCode c) with hi | hi
  · exact h2 c (List.mem_filter.mpr ⟨hc, hi⟩)
  · simpa [hi] using h
set_option maxRecDepth 65536 in
theorem w_c0 : (Jvm.Cond.code x code maxLocals ret).before args0 about1 = true := code_word (m := ⟨1, 1⟩) (meth := k1m1) (c := k1c1) (by decide +kernel) rfl rfl rfl (by decide +kernel)
set_option maxRecDepth 65536 in
theorem w_c1 : (Jvm.Cond.code ({ cls := "com/example/tally_flows/tallyflows/packet/LinkHeaderOfPinLaw", name := "known", desc := "(I)I" } : Jvm.MethodName) method_3_code (1 : Nat) (Option.some Jvm.ClassFile.FieldType.int)).before args0 about1 = true := code_word (m := ⟨1, 2⟩) (meth := k1m2) (c := k1c2) (by decide +kernel) rfl rfl rfl (by decide +kernel)
set_option maxRecDepth 65536 in
theorem w_c2 : (Jvm.Cond.code ({ cls := "com/example/tally_flows/tallyflows/packet/LinkHeader", name := "of", desc := "(I)Lcom/example/tally_flows/tallyflows/packet/LinkHeader;" } : Jvm.MethodName) prog_97_method_4_code (1 : Nat) (Option.some (Jvm.ClassFile.FieldType.object "com/example/tally_flows/tallyflows/packet/LinkHeader"))).before args0 about1 = true := code_word (m := ⟨6, 0⟩) (meth := k6m0) (c := k6c0) (by decide +kernel) rfl rfl rfl (by decide +kernel)
set_option maxRecDepth 65536 in
theorem w_c3 : (Jvm.Cond.code ({ cls := "com/example/tally_flows/tallyflows/packet/LinkHeaderOfPinLaw", name := "expected", desc := "(I)Lcom/example/tally_flows/tallyflows/packet/LinkHeader;" } : Jvm.MethodName) method_4_code (1 : Nat) (Option.some (Jvm.ClassFile.FieldType.object "com/example/tally_flows/tallyflows/packet/LinkHeader"))).before args0 about1 = true := code_word (m := ⟨1, 3⟩) (meth := k1m3) (c := k1c3) (by decide +kernel) rfl rfl rfl (by decide +kernel)
def codes1 : List Jvm.Cond := [Jvm.Cond.code x code maxLocals ret, Jvm.Cond.code ({ cls := "com/example/tally_flows/tallyflows/packet/LinkHeaderOfPinLaw", name := "known", desc := "(I)I" } : Jvm.MethodName) method_3_code (1 : Nat) (Option.some Jvm.ClassFile.FieldType.int), Jvm.Cond.code ({ cls := "com/example/tally_flows/tallyflows/packet/LinkHeader", name := "of", desc := "(I)Lcom/example/tally_flows/tallyflows/packet/LinkHeader;" } : Jvm.MethodName) prog_97_method_4_code (1 : Nat) (Option.some (Jvm.ClassFile.FieldType.object "com/example/tally_flows/tallyflows/packet/LinkHeader")), Jvm.Cond.code ({ cls := "com/example/tally_flows/tallyflows/packet/LinkHeaderOfPinLaw", name := "expected", desc := "(I)Lcom/example/tally_flows/tallyflows/packet/LinkHeader;" } : Jvm.MethodName) method_4_code (1 : Nat) (Option.some (Jvm.ClassFile.FieldType.object "com/example/tally_flows/tallyflows/packet/LinkHeader"))]
set_option maxRecDepth 65536 in
theorem codes_eq : words1.filter isCode = codes1 := rfl
theorem w_codes : ∀ c ∈ words1.filter isCode, c.before args0 about1 = true := by
  rw [codes_eq]
  intro c hc
  simp only [codes1, List.mem_cons, List.not_mem_nil, or_false] at hc
  rcases hc with rfl | rfl | rfl | rfl
  · exact w_c0
  · exact w_c1
  · exact w_c2
  · exact w_c3
set_option maxRecDepth 65536 in
theorem w_t1 : (words1.take 24).all (fun c => isCode c || c.before args0 about1) = true := by decide +kernel
set_option maxRecDepth 65536 in
theorem w_t2 : (words1.drop 24).all (fun c => isCode c || c.before args0 about1) = true := by decide +kernel
theorem w_tables : (allAtoms (Jvm.Cond.code x code maxLocals ret :: tables_1)).before args0 about1 = true := by
  rw [allAtoms_all]
  show words1.all (fun c => c.before args0 about1) = true
  refine all_split ?_ w_codes
  rw [← List.take_append_drop 24 words1, List.all_append, w_t1, w_t2]
  rfl
set_option maxRecDepth 65536 in
theorem w_case : (Jvm.Cond.and given_1 narrow_1).before args0 about1 = true := by decide +kernel
theorem w_applies : (headSpec (Jvm.Cond.code x code maxLocals ret :: tables_1) room_1).applies x e0.platform about1 = true :=
  (Spec.applies_iff w_frames).mpr ⟨w_running, w_runnable, w_alone, w_named, w_hears, w_ripe, w_room, w_tables⟩
theorem atStart : AtStart classFile x code maxLocals ret World_1 tables_1 room_1 Calls_1 rest_1 Pre_1 launch0 p0 e0 about1 theMethod args0 below0 :=
  ⟨lists_1, trivial, launch0.admits_env _ _ _, launch0.least_env, fairChoices_fair.cas, fairChoices_fair.clock, w_frames, w_args, w_heap, w_applies, trivial, trivial, w_case⟩
end start1
theorem witness_1 : WitnessClaimed_1 := ⟨start1.p0, start1.e0, start1.about1, start1.theMethod, start1.args0, start1.below0, start1.atStart⟩
end Jvm.Pilot.@@N@@
