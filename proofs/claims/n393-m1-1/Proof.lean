import JvmDerived
import JvmDerived.Pilot.@@N@@Statement
import JvmDerived.Pilot.@@N@@Code
set_option linter.unusedVariables false
set_option linter.unusedSimpArgs false

namespace Jvm.Pilot.@@N@@
open Jvm Jvm.ClassFile Sem Op Lib Jvm.Free Jvm.Stand Jvm.LawKit Jvm.RoadKit Bundle Jvm.Pilot.@@N@@.Jvm.D
/-! own layer: 'from here the run ends, and Q holds of what it leaves' (own_Dn), stepped backwards -/
def own_Dn (p : Program) (e : Env) (below : List Frame) (s : State) (Q : Option Value → Heap → List Loc → Prop) (K N : Nat) (A : State) : Prop :=
  ∃ s₂ o, Steps p.tables e below A s₂ ∧ s₂.status = .running ∧ Ended s₂ below o ∧ ∃ v L, o = .returned v ∧ Q v s₂.heap L ∧ FrameEnd s o s₂ L K N
def own_Q (r : Option Value) (n0 : Nat) (h0 : Heap) (v : Option Value) (h : Heap) (L : List Loc) : Prop := v = r ∧ Fr n0 L ∧ h = h0
def own_QL (r : Option Value) (n0 : Nat) (v : Option Value) (h : Heap) (L : List Loc) : Prop := v = r ∧ Fr n0 L
def own_Cx (p : Program) (s : State) (m : MethodId) (meth : Method) (c : Code) (Z : State) (a0 : Array Value) (bytes : ByteArray) (ml : Nat) (own nm : String) (ret : Option FieldType) : Prop :=
  p.tables.exec = Jvm.exec ∧ Z.Warmed39 s.vm ∧ (∀ d ∈ tables_1, d.before a0 Z = true) ∧ c.code = bytes ∧ c.maxLocals = ml ∧ s.vm.findClass own = some m.cls ∧ meth.sig.returnType = ret ∧ meth.locks = false ∧ meth.name = nm
theorem own_st {p : Program} {e : Env} {below : List Frame} {s : State} {Q : Option Value → Heap → List Loc → Prop} {K N : Nat} {A B : State} (k : ∀ t, Steps p.tables e below B t → Steps p.tables e below A t) (d : own_Dn p e below s Q K N B) : own_Dn p e below s Q K N A := by
  obtain ⟨s₂, o, h, r⟩ := d
  exact ⟨s₂, o, k _ h, r⟩
theorem own_tr {p : Program} {e : Env} {below : List Frame} {s : State} {Q : Option Value → Heap → List Loc → Prop} {K N : Nat} {A B : State} (k : Steps p.tables e below A B) (d : own_Dn p e below s Q K N B) : own_Dn p e below s Q K N A :=
  own_st (fun _ h => k.trans h) d
section own
variable {p : Program} {l : Launch} {e : Env} {R : Room} {s : State} {m : MethodId} {args : Array Value} {below : List Frame} {meth : Method} {c : Code} {T : State} {locs : List Loc} {cells slots : Nat} {Q : Option Value → Heap → List Loc → Prop} {K N : Nat}
theorem own_ret (X : Stand p l e R s m args below meth c T locs cells slots) (hlk : meth.locks = false) {v : Option Value} (hv : meth.sig.returnType = none → v = none) {A : State} (hK : cells ≤ K) (hN : slots ≤ N) (hq : Q v T.heap locs)
    (hst : ∀ fs, (∀ (f : JFrame) (acts : List Action), f.method = m → f.locked = none → f.entered = [] → (doReturn e (T.setTop f) acts v).1 = T.setFrames fs) → Steps p.tables e below A (T.setFrames fs)) : own_Dn p e below s Q K N A := by
  obtain ⟨fs, hr, hrun, hended, hW, hsame⟩ := X.leave (v := v) hv hlk
  exact ⟨_, _, hst fs hr, hrun, hended, _, _, rfl, hq, ⟨_, rfl⟩, hW, hsame.mono hK hN⟩
theorem own_retI (X : Stand p l e R s m args below meth c T locs cells slots) (hx : p.tables.exec = Jvm.exec) (hret : meth.sig.returnType = some .int) (hlk : meth.locks = false) {pc : Nat} {Ls : Array Slot} {z : Int32} {rest : List Value} (hd : decode c.code pc = .ok (.ireturn, 1)) (hK : cells ≤ K) (hN : slots ≤ N)
    (hq : Q (some (.int z)) T.heap locs) : own_Dn p e below s Q K N (T.setTop (mkF m pc Ls (.int z :: rest))) :=
  own_ret X hlk (fun h => by rw [hret] at h; cases h) hK hN hq (fun fs hr => retOut X hx hret rfl (Or.inl ⟨rfl, Or.inl rfl, _, rfl⟩) hd hr)
theorem own_retJ (X : Stand p l e R s m args below meth c T locs cells slots) (hx : p.tables.exec = Jvm.exec) (hret : meth.sig.returnType = some .long) (hlk : meth.locks = false) {pc : Nat} {Ls : Array Slot} {z : Int64} {rest : List Value} (hd : decode c.code pc = .ok (.lreturn, 1)) (hK : cells ≤ K) (hN : slots ≤ N)
    (hq : Q (some (.long z)) T.heap locs) : own_Dn p e below s Q K N (T.setTop (mkF m pc Ls (.long z :: rest))) :=
  own_ret X hlk (fun h => by rw [hret] at h; cases h) hK hN hq (fun fs hr => retOut X hx hret rfl (Or.inr (Or.inl ⟨rfl, rfl, _, rfl⟩)) hd hr)
theorem own_retZ (X : Stand p l e R s m args below meth c T locs cells slots) (hx : p.tables.exec = Jvm.exec) (hret : meth.sig.returnType = some .boolean) (hlk : meth.locks = false) {pc : Nat} {Ls : Array Slot} {z : Int32} {rest : List Value} (hz : z &&& 1 = z) (hd : decode c.code pc = .ok (.ireturn, 1)) (hK : cells ≤ K) (hN : slots ≤ N)
    (hq : Q (some (.int z)) T.heap locs) : own_Dn p e below s Q K N (T.setTop (mkF m pc Ls (.int z :: rest))) :=
  own_ret X hlk (fun h => by rw [hret] at h; cases h) hK hN hq (fun fs hr => retOut X hx (w := .int z) hret (show Value.int (z &&& 1) = .int z from congrArg Value.int hz) (Or.inl ⟨rfl, Or.inr (Or.inl rfl), _, rfl⟩) hd hr)
theorem own_retV (X : Stand p l e R s m args below meth c T locs cells slots) (hx : p.tables.exec = Jvm.exec) (hret : meth.sig.returnType = none) (hlk : meth.locks = false) {pc : Nat} {Ls : Array Slot} (hd : decode c.code pc = .ok (.return_, 1)) (hK : cells ≤ K) (hN : slots ≤ N)
    (hq : Q none T.heap locs) : own_Dn p e below s Q K N (T.setTop (mkF m pc Ls [])) :=
  own_ret X hlk (fun _ => rfl) hK hN hq (fun fs hr => X.returnOut hx hret hd hr)
theorem own_retA (X : Stand p l e R s m args below meth c T locs cells slots) (hx : p.tables.exec = Jvm.exec) {t : FieldType} (ht : t.isReference = true) (hret : meth.sig.returnType = some t) (hlk : meth.locks = false) {pc : Nat} {Ls : Array Slot} {w : Value} {rest : List Value} (hw : w.isRef = true) (hn : narrow t w = w) (hd : decode c.code pc = .ok (.areturn, 1)) (hK : cells ≤ K) (hN : slots ≤ N)
    (hq : Q (some w) T.heap locs) : own_Dn p e below s Q K N (T.setTop (mkF m pc Ls (w :: rest))) :=
  own_ret X hlk (fun h => by rw [hret] at h; cases h) hK hN hq (fun fs hr => retOut X hx hret hn (Or.inr (Or.inr (Or.inr (Or.inr ⟨rfl, ht, hw⟩)))) hd hr)
end own
theorem own_met {l : Launch} {Z : State} {a0 : Array Value} (hw : ∀ d ∈ tables_1, d.before a0 Z = true) {y : MethodName} {bytes : ByteArray} {ml : Nat} {ret : Option FieldType} {ws : List Jvm.Cond} {rm : Room} {as' : Array Value} {h0 : Heap} {Q : Option Value → Heap → List Loc → Prop} (hpl : plainFor y = true)
    (body : ∀ p e s m below meth c s₁, own_Cx p s m meth c Z a0 bytes ml y.cls y.name ret → Stand p l e rm s m as' below meth c s₁ [] 0 0 → s₁.heap = h0 → own_Dn p e below s Q rm.cells rm.slots (s₁.setTop (entryFrame m as' ml))) :
    MetFree l y (head1 (Jvm.Cond.code y bytes ml ret :: ws) rm) (fun a U => a = as' ∧ Z.Warmed39 U.vm ∧ U.heap = h0) (fun _ _ _ _ _ => True) (fun _ U o U' => ∃ v L, o = .returned v ∧ Q v U'.heap L ∧ FrameEnd U o U' L rm.cells rm.slots) := by
  refine MetFree.of_bodySF hpl hisR ?_
  intro p e s m args below meth c s₁ Bd hml0 hP hK
  obtain ⟨rfl, hZ, hh⟩ := hP
  exact body p e s m below meth c s₁ ⟨Bd.exec, hZ, hw, Bd.bytes, hml0, findClass_of_methodNamed Bd.named, Bd.returns, BodyLoose.notSynchronized Bd, (name_of_methodNamed Bd.named Bd.method).1⟩ (Stand.of_body Bd) (by rw [← hh, Bd.state]; rfl)
theorem own_jtlt {x y : Int64} (h : x < y) : ifCond.holds .lt (lcmpW x y) = true ∧ ifCond.holds .ge (lcmpW x y) = false ∧ ifCond.holds .gt (lcmpW y x) = true ∧ ifCond.holds .le (lcmpW y x) = false := by
  have h1 : lcmpW x y < 0 := by rw [lcW]; exact (lc_lt x y).mpr h
  have h2 : 0 < lcmpW y x := by rw [lcW]; exact (lc_gt y x).mpr h
  exact ⟨(if0 _ _).trans (tlt h1).1, (if0 _ _).trans (tlt h1).2.1, (if0 _ _).trans (tlt h2).2.2.1, (if0 _ _).trans (tlt h2).2.2.2⟩
theorem own_jflt {x y : Int64} (h : ¬ x < y) : ifCond.holds .lt (lcmpW x y) = false ∧ ifCond.holds .ge (lcmpW x y) = true ∧ ifCond.holds .gt (lcmpW y x) = false ∧ ifCond.holds .le (lcmpW y x) = true := by
  have h1 : ¬ lcmpW x y < 0 := by rw [lcW]; exact fun q => h ((lc_lt x y).mp q)
  have h2 : ¬ 0 < lcmpW y x := by rw [lcW]; exact fun q => h ((lc_gt y x).mp q)
  exact ⟨(if0 _ _).trans (flt h1).1, (if0 _ _).trans (flt h1).2.1, (if0 _ _).trans (flt h2).2.2.1, (if0 _ _).trans (flt h2).2.2.2⟩
theorem own_jteq {x y : Int64} (h : x = y) : ifCond.holds .eq (lcmpW x y) = true ∧ ifCond.holds .ne (lcmpW x y) = false := by
  have h1 : lcmpW x y = 0 := by rw [lcW]; exact (lc_eq x y).mpr h
  exact ⟨(if0 _ _).trans (teq h1).1, (if0 _ _).trans (teq h1).2⟩
theorem own_jfeq {x y : Int64} (h : ¬ x = y) : ifCond.holds .eq (lcmpW x y) = false ∧ ifCond.holds .ne (lcmpW x y) = true := by
  have h1 : ¬ lcmpW x y = 0 := by rw [lcW]; exact fun q => h ((lc_eq x y).mp q)
  exact ⟨(if0 _ _).trans (feq h1).1, (if0 _ _).trans (feq h1).2⟩
theorem own_miss (a : Int32) (ks : List Int32) (h : ∀ k ∈ ks, ¬ a = k) {ps : List (Int × Int)} (e : ps.map (·.1) = ks.map Int32.toInt) : ∀ p ∈ ps, p.1 ≠ a.toInt := by
  intro p hp q
  have h1 : p.1 ∈ ps.map (·.1) := List.mem_map.mpr ⟨p, hp, rfl⟩
  rw [e] at h1
  obtain ⟨k, hk, r⟩ := List.mem_map.mp h1
  exact h k hk (Int32.toInt_inj.mp (q.symm.trans r.symm))
theorem own_Sta_keep {Z : State} {h h' : Heap} {C n d : String} {v : Value} {a : Addr} {C' : String} (F : Sta Z h C n d v) (K : Keep h h' [a]) (E : Exa Z h a C') : Sta Z h' C n d v := by
  obtain ⟨cf, i, k, f, st, cell, h1, h2, h3, h4, h5, h6, h7⟩ := F
  obtain ⟨cl, k', e1, -, -, e4, -⟩ := E
  refine ⟨cf, i, k, f, st, cell, h1, h2, h3, h4, K.2.1 _ _ h5 (ninS (fun q => ?_) nin0), h6, h7⟩
  subst q
  cases h5.symm.trans e1
  rw [h6] at e4; cases e4
theorem own_Sta_keep0 {Z : State} {h h' : Heap} {C n d : String} {v : Value} (F : Sta Z h C n d v) (K : Keep h h' []) : Sta Z h' C n d v := by
  obtain ⟨cf, i, k, f, st, cell, h1, h2, h3, h4, h5, h6, h7⟩ := F
  exact ⟨cf, i, k, f, st, cell, h1, h2, h3, h4, K.2.1 _ _ h5 nin0, h6, h7⟩
theorem own_ne_or {r x : Addr} {ws : List Addr} {H : Heap} (h : r ∈ ws ∨ H.size ≤ r) (hl : x < H.size) (hn : x ∉ ws) : x ≠ r := fun e => h.elim (fun q => hn (e ▸ q)) (fun q => Nat.lt_irrefl _ (Nat.lt_of_lt_of_le (e ▸ hl) q))
theorem own_or_up {r : Addr} {ws ws' : List Addr} {h0 H : Heap} (h : r ∈ ws ∨ H.size ≤ r) (hk : h0.size ≤ H.size) (all : ∀ x ∈ ws, x ∈ ws' ∨ h0.size ≤ x) : r ∈ ws' ∨ h0.size ≤ r := h.elim (all r) (fun q => Or.inr (Nat.le_trans hk q))
theorem own_selp {Z s : State} {a0 args : Array Value} {y : MethodName} {n : Nat} (hZ : Z.Warmed39 s.vm) (w1 : (Cond.instantiable y.cls n).before a0 Z = true) (w2 : (Cond.instanceMethod y).before a0 Z = true) (w3 : (Cond.privateMethod y).before a0 Z = true) (hy : y.cls ≠ "java/lang/invoke/MethodHandle" ∧ y.cls ≠ "java/lang/invoke/VarHandle") : (Cond.selects y.cls y y).before args s = true := by
  have i1 : (Cond.instantiable y.cls n).before args s = true := mvT hZ w1
  obtain ⟨c, k, h1, h2, -, h4, -, -⟩ := Cond.instantiable_spec i1
  have h5 : k.isInterface = false := by
    cases hk : k.isInterface
    · rfl
    · rw [hk] at h4; simp at h4
  exact selects_self_of_private h1 h2 h5 (Cond.privateMethod_at (mvP hZ w3 (args := args))) (mvT hZ w2) hy

theorem own_pd0 : parseMethodDescriptor "(J)Z" = some ⟨[.long], some .boolean⟩ := by decide +kernel
theorem own_pd1 : parseMethodDescriptor "(J)J" = some ⟨[.long], some .long⟩ := by decide +kernel
theorem rc_d0 : decode prog_35_method_2_code 0 = .ok (.lload_n 0, 1) := by decide +kernel
theorem rc_d1 : decode prog_35_method_2_code 1 = .ok (.ldc2_w 21, 3) := by decide +kernel
theorem rc_d4 : decode prog_35_method_2_code 4 = .ok (.lcmp, 1) := by decide +kernel
theorem rc_d5 : decode prog_35_method_2_code 5 = .ok (.ifCond .le 7, 3) := by decide +kernel
theorem rc_d8 : decode prog_35_method_2_code 8 = .ok (.iconst 1, 1) := by decide +kernel
theorem rc_d9 : decode prog_35_method_2_code 9 = .ok (.goto 4, 3) := by decide +kernel
theorem rc_d12 : decode prog_35_method_2_code 12 = .ok (.iconst 0, 1) := by decide +kernel
theorem rc_d13 : decode prog_35_method_2_code 13 = .ok (.ireturn, 1) := by decide +kernel
def rc_f (q0 : Int64)  : Int32 :=
  if (1048576 : Int64) < q0 then
    (1 : Int32)
  else
    (0 : Int32)
set_option maxRecDepth 65536 in
set_option maxHeartbeats 40000000 in
theorem rc_c0 {l : Launch} {Z : State} {a0 : Array Value} {q0 : Int64} {h0 : Heap} {n0 : Nat} {p : Program} {e : Env} {s : State} {m : MethodId} {args : Array Value} {below : List Frame} {meth : Method} {c : Code} {T0 : State} {locs : List Loc} {r0 : Int32} (C0 : own_Cx p s m meth c Z a0 prog_35_method_2_code 2 "com/example/cairnstore/cairnstore/store/BlockDigests" "recorded" (some .boolean)) (X0 : Stand p l e ({ frames := 0, cells := 0, slots := 0, locals := 0 } : Room) s m args below meth c T0 locs 0 0) (e0 : T0.heap = h0) (N0 : Fr n0 locs)  (hr0 : r0 = rc_f q0 ) :
    own_Dn p e below s (own_Q (some (.int r0)) n0 h0) ({ frames := 0, cells := 0, slots := 0, locals := 0 } : Room).cells ({ frames := 0, cells := 0, slots := 0, locals := 0 } : Room).slots (T0.setTop (mkF m 0 #[.val (.long q0), .second] [])) := by
  obtain ⟨hx, hZ, hw, hby, hml, hown, hret, hlk, hnm⟩ := id C0
  refine own_st (fun _ k => XS.lloadN X0.here hx rfl (hb hby rc_d0) rfl (X0.ldc2Long hx (index := 21) (v := (1048576 : Int64)) hown (mvT hZ (hw _ (List.mem_of_getElem? (i := 11) rfl))) (g := (mkF m 1 #[.val (.long q0), .second] [(.long q0)])) rfl (hb hby rc_d1) _ (XS.lcmp X0.here hx rfl (hb hby rc_d4) rfl k))) ?_
  show own_Dn p e below s _ _ _ (T0.setTop (mkF m 5 #[.val (.long q0), .second] [(.int (lcmpW q0 (1048576 : Int64)))]))
  by_cases hc2 : (1048576 : Int64) < q0
  · refine own_st (fun _ k => XS.ifNo X0.here hx rfl (hb hby rc_d5) rfl (own_jtlt hc2).2.2.2 k) ?_
    show own_Dn p e below s _ _ _ (T0.setTop (mkF m 8 #[.val (.long q0), .second] []))
    refine own_st (fun _ k => XS.iconst X0.here hx rfl (hb hby rc_d8) (XS.goto X0.here hx rfl (pc0 := 9) (pc' := 13) rfl (hb hby rc_d9) (by decide) (by decide) k)) ?_
    show own_Dn p e below s _ _ _ (T0.setTop (mkF m 13 #[.val (.long q0), .second] [(.int (1 : Int32))]))
    exact own_retZ X0 hx hret hlk (by decide) (hb hby rc_d13) (by decide) (by decide) ⟨(by rw [hr0, rc_f, if_pos hc2]), N0, e0⟩
  · refine own_st (fun _ k => XS.ifYes X0.here hx rfl (pc0 := 5) (pc' := 12) rfl (hb hby rc_d5) rfl (own_jflt hc2).2.2.2 (by decide) (by decide) k) ?_
    show own_Dn p e below s _ _ _ (T0.setTop (mkF m 12 #[.val (.long q0), .second] []))
    refine own_st (fun _ k => XS.iconst X0.here hx rfl (hb hby rc_d12) k) ?_
    show own_Dn p e below s _ _ _ (T0.setTop (mkF m 13 #[.val (.long q0), .second] [(.int (0 : Int32))]))
    exact own_retZ X0 hx hret hlk (by decide) (hb hby rc_d13) (by decide) (by decide) ⟨(by rw [hr0, rc_f, if_neg hc2]), N0, e0⟩
theorem rc_ef (m : MethodId) (q0 : Int64) : entryFrame m #[(.long q0)] 2 = mkF m 0 #[.val (.long q0), .second] [] := by first | (simp [entryFrame, mkF, argsToLocals, Value.category]; done) | rfl
theorem rc_rm (l : Launch) (Z : State) (a0 : Array Value) (hw : ∀ d ∈ tables_1, d.before a0 Z = true) (ws : List Jvm.Cond) (q0 : Int64) (h0 : Heap) (n0 : Nat) :
    MetFree l (⟨"com/example/cairnstore/cairnstore/store/BlockDigests", "recorded", "(J)Z"⟩ : MethodName) (head1 (Jvm.Cond.code (⟨"com/example/cairnstore/cairnstore/store/BlockDigests", "recorded", "(J)Z"⟩ : MethodName) prog_35_method_2_code 2 (some .boolean) :: ws) ({ frames := 0, cells := 0, slots := 0, locals := 0 } : Room)) (fun a U => a = #[(.long q0)] ∧ Z.Warmed39 U.vm ∧ U.heap = h0) (fun _ _ _ _ _ => True) (fun _ U o U' => ∃ v L, o = .returned v ∧ (own_Q (some (.int (rc_f q0))) n0 h0) v U'.heap L ∧ FrameEnd U o U' L ({ frames := 0, cells := 0, slots := 0, locals := 0 } : Room).cells ({ frames := 0, cells := 0, slots := 0, locals := 0 } : Room).slots) :=
  own_met hw (plainFor_of_name (by first | (simp [plainName, overriddenIn]; done) | decide +kernel)) (fun p e s m below meth c T0 C0 X0 e0 => own_st (fun _ k => castTop (rc_ef m q0) k) (rc_c0 C0 X0 e0 (Fr.nil n0) rfl))
theorem bk_d0 : decode method_2_code 0 = .ok (.lload_n 0, 1) := by decide +kernel
theorem bk_d1 : decode method_2_code 1 = .ok (.lconst 0, 1) := by decide +kernel
theorem bk_d2 : decode method_2_code 2 = .ok (.lcmp, 1) := by decide +kernel
theorem bk_d3 : decode method_2_code 3 = .ok (.ifCond .ne 5, 3) := by decide +kernel
theorem bk_d6 : decode method_2_code 6 = .ok (.lconst 0, 1) := by decide +kernel
theorem bk_d7 : decode method_2_code 7 = .ok (.lreturn, 1) := by decide +kernel
theorem bk_d8 : decode method_2_code 8 = .ok (.lload_n 0, 1) := by decide +kernel
theorem bk_d9 : decode method_2_code 9 = .ok (.lconst 1, 1) := by decide +kernel
theorem bk_d10 : decode method_2_code 10 = .ok (.lsub, 1) := by decide +kernel
theorem bk_d11 : decode method_2_code 11 = .ok (.ldc2_w 9, 3) := by decide +kernel
theorem bk_d14 : decode method_2_code 14 = .ok (.ldiv, 1) := by decide +kernel
theorem bk_d15 : decode method_2_code 15 = .ok (.lconst 1, 1) := by decide +kernel
theorem bk_d16 : decode method_2_code 16 = .ok (.ladd, 1) := by decide +kernel
theorem bk_d17 : decode method_2_code 17 = .ok (.lreturn, 1) := by decide +kernel
def bk_f (q0 : Int64)  : Int64 :=
  if q0 = (0 : Int64) then
    (0 : Int64)
  else
    (((q0 - (1 : Int64)) / (1048576 : Int64)) + (1 : Int64))
set_option maxRecDepth 65536 in
set_option maxHeartbeats 40000000 in
theorem bk_c0 {l : Launch} {Z : State} {a0 : Array Value} {q0 : Int64} {h0 : Heap} {n0 : Nat} {p : Program} {e : Env} {s : State} {m : MethodId} {args : Array Value} {below : List Frame} {meth : Method} {c : Code} {T0 : State} {locs : List Loc} {r0 : Int64} (C0 : own_Cx p s m meth c Z a0 method_2_code 2 "com/example/cairnstore/cairnstore/store/BlockDigestsRecordedPinLaw" "blocks" (some .long)) (X0 : Stand p l e ({ frames := 0, cells := 0, slots := 0, locals := 0 } : Room) s m args below meth c T0 locs 0 0) (e0 : T0.heap = h0) (N0 : Fr n0 locs)  (hr0 : r0 = bk_f q0 ) :
    own_Dn p e below s (own_Q (some (.long r0)) n0 h0) ({ frames := 0, cells := 0, slots := 0, locals := 0 } : Room).cells ({ frames := 0, cells := 0, slots := 0, locals := 0 } : Room).slots (T0.setTop (mkF m 0 #[.val (.long q0), .second] [])) := by
  obtain ⟨hx, hZ, hw, hby, hml, hown, hret, hlk, hnm⟩ := id C0
  refine own_st (fun _ k => XS.lloadN X0.here hx rfl (hb hby bk_d0) rfl (XS.lconst X0.here hx rfl (hb hby bk_d1) (XS.lcmp X0.here hx rfl (hb hby bk_d2) rfl k))) ?_
  show own_Dn p e below s _ _ _ (T0.setTop (mkF m 3 #[.val (.long q0), .second] [(.int (lcmpW q0 (0 : Int64)))]))
  by_cases hc2 : q0 = (0 : Int64)
  · refine own_st (fun _ k => XS.ifNo X0.here hx rfl (hb hby bk_d3) rfl (own_jteq hc2).2 k) ?_
    show own_Dn p e below s _ _ _ (T0.setTop (mkF m 6 #[.val (.long q0), .second] []))
    refine own_st (fun _ k => XS.lconst X0.here hx rfl (hb hby bk_d6) k) ?_
    show own_Dn p e below s _ _ _ (T0.setTop (mkF m 7 #[.val (.long q0), .second] [(.long (0 : Int64))]))
    exact own_retJ X0 hx hret hlk (hb hby bk_d7) (by decide) (by decide) ⟨(by rw [hr0, bk_f, if_pos hc2]), N0, e0⟩
  · refine own_st (fun _ k => XS.ifYes X0.here hx rfl (pc0 := 3) (pc' := 8) rfl (hb hby bk_d3) rfl (own_jfeq hc2).2 (by decide) (by decide) k) ?_
    show own_Dn p e below s _ _ _ (T0.setTop (mkF m 8 #[.val (.long q0), .second] []))
    refine own_st (fun _ k => XS.lloadN X0.here hx rfl (hb hby bk_d8) rfl (XS.lconst X0.here hx rfl (hb hby bk_d9) (XS.lsub X0.here hx rfl (hb hby bk_d10) rfl (X0.ldc2Long hx (index := 9) (v := (1048576 : Int64)) hown (mvT hZ (hw _ (List.mem_of_getElem? (i := 0) rfl))) (g := (mkF m 11 #[.val (.long q0), .second] [(.long (q0 - (1 : Int64)))])) rfl (hb hby bk_d11) _ (XS.ldiv X0.here hx rfl (hb hby bk_d14) rfl (by decide) (XS.lconst X0.here hx rfl (hb hby bk_d15) (XS.ladd X0.here hx rfl (hb hby bk_d16) rfl k))))))) ?_
    show own_Dn p e below s _ _ _ (T0.setTop (mkF m 17 #[.val (.long q0), .second] [(.long (((q0 - (1 : Int64)) / (1048576 : Int64)) + (1 : Int64)))]))
    exact own_retJ X0 hx hret hlk (hb hby bk_d17) (by decide) (by decide) ⟨(by rw [hr0, bk_f, if_neg hc2]), N0, e0⟩
theorem bk_ef (m : MethodId) (q0 : Int64) : entryFrame m #[(.long q0)] 2 = mkF m 0 #[.val (.long q0), .second] [] := by first | (simp [entryFrame, mkF, argsToLocals, Value.category]; done) | rfl
theorem bk_rm (l : Launch) (Z : State) (a0 : Array Value) (hw : ∀ d ∈ tables_1, d.before a0 Z = true) (ws : List Jvm.Cond) (q0 : Int64) (h0 : Heap) (n0 : Nat) :
    MetFree l (⟨"com/example/cairnstore/cairnstore/store/BlockDigestsRecordedPinLaw", "blocks", "(J)J"⟩ : MethodName) (head1 (Jvm.Cond.code (⟨"com/example/cairnstore/cairnstore/store/BlockDigestsRecordedPinLaw", "blocks", "(J)J"⟩ : MethodName) method_2_code 2 (some .long) :: ws) ({ frames := 0, cells := 0, slots := 0, locals := 0 } : Room)) (fun a U => a = #[(.long q0)] ∧ Z.Warmed39 U.vm ∧ U.heap = h0) (fun _ _ _ _ _ => True) (fun _ U o U' => ∃ v L, o = .returned v ∧ (own_Q (some (.long (bk_f q0))) n0 h0) v U'.heap L ∧ FrameEnd U o U' L ({ frames := 0, cells := 0, slots := 0, locals := 0 } : Room).cells ({ frames := 0, cells := 0, slots := 0, locals := 0 } : Room).slots) :=
  own_met hw (plainFor_of_name (by first | (simp [plainName, overriddenIn]; done) | decide +kernel)) (fun p e s m below meth c T0 C0 X0 e0 => own_st (fun _ k => castTop (bk_ef m q0) k) (bk_c0 C0 X0 e0 (Fr.nil n0) rfl))
theorem ag_d0 : decode method_3_code 0 = .ok (.lload_n 0, 1) := by decide +kernel
theorem ag_d1 : decode method_3_code 1 = .ok (.invokestatic 11, 3) := by decide +kernel
theorem ag_d4 : decode method_3_code 4 = .ok (.lload_n 0, 1) := by decide +kernel
theorem ag_d5 : decode method_3_code 5 = .ok (.invokestatic 15, 3) := by decide +kernel
theorem ag_d8 : decode method_3_code 8 = .ok (.lconst 1, 1) := by decide +kernel
theorem ag_d9 : decode method_3_code 9 = .ok (.lcmp, 1) := by decide +kernel
theorem ag_d10 : decode method_3_code 10 = .ok (.ifCond .le 7, 3) := by decide +kernel
theorem ag_d13 : decode method_3_code 13 = .ok (.iconst 1, 1) := by decide +kernel
theorem ag_d14 : decode method_3_code 14 = .ok (.goto 4, 3) := by decide +kernel
theorem ag_d17 : decode method_3_code 17 = .ok (.iconst 0, 1) := by decide +kernel
theorem ag_d18 : decode method_3_code 18 = .ok (.if_icmp .ne 7, 3) := by decide +kernel
theorem ag_d21 : decode method_3_code 21 = .ok (.iconst 1, 1) := by decide +kernel
theorem ag_d22 : decode method_3_code 22 = .ok (.goto 4, 3) := by decide +kernel
theorem ag_d25 : decode method_3_code 25 = .ok (.iconst 0, 1) := by decide +kernel
theorem ag_d26 : decode method_3_code 26 = .ok (.ireturn, 1) := by decide +kernel
def ag_f18 (q0 : Int64) (u0 : Int32) (u1 : Int32) : Int32 :=
  if u1 = u0 then
    (1 : Int32)
  else
    (0 : Int32)
set_option maxRecDepth 65536 in
set_option maxHeartbeats 40000000 in
theorem ag_c18 {l : Launch} {Z : State} {a0 : Array Value} {q0 : Int64} {h0 : Heap} {n0 : Nat} {p : Program} {e : Env} {s : State} {m : MethodId} {args : Array Value} {below : List Frame} {meth : Method} {c : Code} {T0 : State} {locs : List Loc} {r0 : Int32} (C0 : own_Cx p s m meth c Z a0 method_3_code 2 "com/example/cairnstore/cairnstore/store/BlockDigestsRecordedPinLaw" "agrees" (some .boolean)) (X0 : Stand p l e ({ frames := 1, cells := 0, slots := 0, locals := 14 } : Room) s m args below meth c T0 locs 0 0) (e0 : T0.heap = h0) (N0 : Fr n0 locs) (u0 : Int32) (u1 : Int32) (hr0 : r0 = ag_f18 q0 u0 u1) :
    own_Dn p e below s (own_Q (some (.int r0)) n0 h0) ({ frames := 1, cells := 0, slots := 0, locals := 14 } : Room).cells ({ frames := 1, cells := 0, slots := 0, locals := 14 } : Room).slots (T0.setTop (mkF m 18 #[.val (.long q0), .second] [(.int u0), (.int u1)])) := by
  obtain ⟨hx, hZ, hw, hby, hml, hown, hret, hlk, hnm⟩ := id C0
  by_cases hc8 : u1 = u0
  · refine own_st (fun _ k => XS.icmpNo X0.here hx rfl (hb hby ag_d18) rfl (teq hc8).2 k) ?_
    show own_Dn p e below s _ _ _ (T0.setTop (mkF m 21 #[.val (.long q0), .second] []))
    refine own_st (fun _ k => XS.iconst X0.here hx rfl (hb hby ag_d21) (XS.goto X0.here hx rfl (pc0 := 22) (pc' := 26) rfl (hb hby ag_d22) (by decide) (by decide) k)) ?_
    show own_Dn p e below s _ _ _ (T0.setTop (mkF m 26 #[.val (.long q0), .second] [(.int (1 : Int32))]))
    exact own_retZ X0 hx hret hlk (by decide) (hb hby ag_d26) (by decide) (by decide) ⟨(by rw [hr0, ag_f18, if_pos hc8]), N0, e0⟩
  · refine own_st (fun _ k => XS.icmpYes X0.here hx rfl (pc0 := 18) (pc' := 25) rfl (hb hby ag_d18) rfl (feq hc8).2 (by decide) (by decide) k) ?_
    show own_Dn p e below s _ _ _ (T0.setTop (mkF m 25 #[.val (.long q0), .second] []))
    refine own_st (fun _ k => XS.iconst X0.here hx rfl (hb hby ag_d25) k) ?_
    show own_Dn p e below s _ _ _ (T0.setTop (mkF m 26 #[.val (.long q0), .second] [(.int (0 : Int32))]))
    exact own_retZ X0 hx hret hlk (by decide) (hb hby ag_d26) (by decide) (by decide) ⟨(by rw [hr0, ag_f18, if_neg hc8]), N0, e0⟩
def ag_f (q0 : Int64)  : Int32 :=
  if (1 : Int64) < (bk_f q0) then
    ag_f18 q0 ((1 : Int32)) ((rc_f q0))
  else
    ag_f18 q0 ((0 : Int32)) ((rc_f q0))
set_option maxRecDepth 65536 in
set_option maxHeartbeats 40000000 in
theorem ag_c0 {l : Launch} {Z : State} {a0 : Array Value} {q0 : Int64} {h0 : Heap} {n0 : Nat} {p : Program} {e : Env} {s : State} {m : MethodId} {args : Array Value} {below : List Frame} {meth : Method} {c : Code} {T0 : State} {locs : List Loc} {r0 : Int32} (C0 : own_Cx p s m meth c Z a0 method_3_code 2 "com/example/cairnstore/cairnstore/store/BlockDigestsRecordedPinLaw" "agrees" (some .boolean)) (X0 : Stand p l e ({ frames := 1, cells := 0, slots := 0, locals := 14 } : Room) s m args below meth c T0 locs 0 0) (e0 : T0.heap = h0) (N0 : Fr n0 locs)  (hr0 : r0 = ag_f q0 ) :
    own_Dn p e below s (own_Q (some (.int r0)) n0 h0) ({ frames := 1, cells := 0, slots := 0, locals := 14 } : Room).cells ({ frames := 1, cells := 0, slots := 0, locals := 14 } : Room).slots (T0.setTop (mkF m 0 #[.val (.long q0), .second] [])) := by
  obtain ⟨hx, hZ, hw, hby, hml, hown, hret, hlk, hnm⟩ := id C0
  refine own_st (fun _ k => XS.lloadN X0.here hx rfl (hb hby ag_d0) rfl k) ?_
  show own_Dn p e below s _ _ _ (T0.setTop (mkF m 1 #[.val (.long q0), .second] [(.long q0)]))
  obtain ⟨_, _, ⟨T5, L5, k5, n5⟩, -, X5, ⟨Lc5, hQ5, l5, y5, z5⟩, st5⟩ := Jvm.LawKit.callS X0 hx (y := (⟨"com/example/cairnstore/cairnstore/store/BlockDigests", "recorded", "(J)Z"⟩ : MethodName)) hown (mvT hZ (hw _ (List.mem_of_getElem? (i := 7) rfl))) (mvT hZ (hw _ (List.mem_of_getElem? (i := 8) rfl))) (mvT hZ (hw _ (List.mem_of_getElem? (i := 9) rfl))) (mvT hZ (hw _ (List.mem_of_getElem? (i := 10) rfl))) (by decide) (backOf (W := 0) (rc_rm l Z a0 hw [] (q0) h0 n0) hZ (hw _ (List.mem_of_getElem? (i := 10) rfl)) (hw _ (List.mem_of_getElem? (i := 9) rfl)) (by decide) (by decide)) (g := (mkF m 1 #[.val (.long q0), .second] [(.long q0)])) rfl (by rw [hml]; rfl) (argsL := [(.long q0)]) (rest := []) (lenOf own_pd0 rfl) rfl (by show 2 * 0 + _ ≤ _; exact Nat.le_of_eq rfl) (hb hby ag_d1) (fun _ _ => ⟨rfl, e0, (by decide : 0 + 0 ≤ _), (by decide : 0 + 0 ≤ _)⟩)
  dsimp only [Pt.U, Pt.locs, Pt.cells, Pt.slots] at X5 l5 y5 z5 st5 hQ5
  subst l5 y5 z5
  obtain ⟨rfl, N5q, e5⟩ := hQ5
  have N5 := Fr.app N0 N5q
  refine own_st st5 ?_
  show own_Dn p e below s _ _ _ (T5.setTop (mkF m 4 #[.val (.long q0), .second] [(.int (rc_f q0))]))
  refine own_st (fun _ k => XS.lloadN X5.here hx rfl (hb hby ag_d4) rfl k) ?_
  show own_Dn p e below s _ _ _ (T5.setTop (mkF m 5 #[.val (.long q0), .second] [(.long q0), (.int (rc_f q0))]))
  obtain ⟨_, _, ⟨T6, L6, k6, n6⟩, -, X6, ⟨Lc6, hQ6, l6, y6, z6⟩, st6⟩ := Jvm.LawKit.callS X5 hx (y := (⟨"com/example/cairnstore/cairnstore/store/BlockDigestsRecordedPinLaw", "blocks", "(J)J"⟩ : MethodName)) hown (mvT hZ (hw _ (List.mem_of_getElem? (i := 12) rfl))) (mvT hZ (hw _ (List.mem_of_getElem? (i := 13) rfl))) (mvT hZ (hw _ (List.mem_of_getElem? (i := 5) rfl))) (mvT hZ (hw _ (List.mem_of_getElem? (i := 14) rfl))) (by decide) (backOf (W := 1) (bk_rm l Z a0 hw [] (q0) h0 n0) hZ (hw _ (List.mem_of_getElem? (i := 14) rfl)) (hw _ (List.mem_of_getElem? (i := 5) rfl)) (by decide) (by decide)) (g := (mkF m 5 #[.val (.long q0), .second] [(.long q0), (.int (rc_f q0))])) rfl (by rw [hml]; rfl) (argsL := [(.long q0)]) (rest := [(.int (rc_f q0))]) (lenOf own_pd1 rfl) rfl (by show 2 * 0 + _ ≤ _; exact Nat.le_of_eq rfl) (hb hby ag_d5) (fun _ _ => ⟨rfl, e5, (by decide : 0 + 0 ≤ _), (by decide : 0 + 0 ≤ _)⟩)
  dsimp only [Pt.U, Pt.locs, Pt.cells, Pt.slots] at X6 l6 y6 z6 st6 hQ6
  subst l6 y6 z6
  obtain ⟨rfl, N6q, e6⟩ := hQ6
  have N6 := Fr.app N5 N6q
  refine own_st st6 ?_
  show own_Dn p e below s _ _ _ (T6.setTop (mkF m 8 #[.val (.long q0), .second] [(.long (bk_f q0)), (.int (rc_f q0))]))
  refine own_st (fun _ k => XS.lconst X6.here hx rfl (hb hby ag_d8) (XS.lcmp X6.here hx rfl (hb hby ag_d9) rfl k)) ?_
  show own_Dn p e below s _ _ _ (T6.setTop (mkF m 10 #[.val (.long q0), .second] [(.int (lcmpW (bk_f q0) (1 : Int64))), (.int (rc_f q0))]))
  by_cases hc7 : (1 : Int64) < (bk_f q0)
  · refine own_st (fun _ k => XS.ifNo X6.here hx rfl (hb hby ag_d10) rfl (own_jtlt hc7).2.2.2 k) ?_
    show own_Dn p e below s _ _ _ (T6.setTop (mkF m 13 #[.val (.long q0), .second] [(.int (rc_f q0))]))
    refine own_st (fun _ k => XS.iconst X6.here hx rfl (hb hby ag_d13) (XS.goto X6.here hx rfl (pc0 := 14) (pc' := 18) rfl (hb hby ag_d14) (by decide) (by decide) k)) ?_
    show own_Dn p e below s _ _ _ (T6.setTop (mkF m 18 #[.val (.long q0), .second] [(.int (1 : Int32)), (.int (rc_f q0))]))
    exact ag_c18 C0 X6 e6 N6 ((1 : Int32)) ((rc_f q0)) (by rw [hr0, ag_f, if_pos hc7])
  · refine own_st (fun _ k => XS.ifYes X6.here hx rfl (pc0 := 10) (pc' := 17) rfl (hb hby ag_d10) rfl (own_jflt hc7).2.2.2 (by decide) (by decide) k) ?_
    show own_Dn p e below s _ _ _ (T6.setTop (mkF m 17 #[.val (.long q0), .second] [(.int (rc_f q0))]))
    refine own_st (fun _ k => XS.iconst X6.here hx rfl (hb hby ag_d17) k) ?_
    show own_Dn p e below s _ _ _ (T6.setTop (mkF m 18 #[.val (.long q0), .second] [(.int (0 : Int32)), (.int (rc_f q0))]))
    exact ag_c18 C0 X6 e6 N6 ((0 : Int32)) ((rc_f q0)) (by rw [hr0, ag_f, if_neg hc7])
theorem ag_ef (m : MethodId) (q0 : Int64) : entryFrame m #[(.long q0)] 2 = mkF m 0 #[.val (.long q0), .second] [] := by first | (simp [entryFrame, mkF, argsToLocals, Value.category]; done) | rfl
theorem ag_rm (l : Launch) (Z : State) (a0 : Array Value) (hw : ∀ d ∈ tables_1, d.before a0 Z = true) (ws : List Jvm.Cond) (q0 : Int64) (h0 : Heap) (n0 : Nat) :
    MetFree l (⟨"com/example/cairnstore/cairnstore/store/BlockDigestsRecordedPinLaw", "agrees", "(J)Z"⟩ : MethodName) (head1 (Jvm.Cond.code (⟨"com/example/cairnstore/cairnstore/store/BlockDigestsRecordedPinLaw", "agrees", "(J)Z"⟩ : MethodName) method_3_code 2 (some .boolean) :: ws) ({ frames := 1, cells := 0, slots := 0, locals := 14 } : Room)) (fun a U => a = #[(.long q0)] ∧ Z.Warmed39 U.vm ∧ U.heap = h0) (fun _ _ _ _ _ => True) (fun _ U o U' => ∃ v L, o = .returned v ∧ (own_Q (some (.int (ag_f q0))) n0 h0) v U'.heap L ∧ FrameEnd U o U' L ({ frames := 1, cells := 0, slots := 0, locals := 14 } : Room).cells ({ frames := 1, cells := 0, slots := 0, locals := 14 } : Room).slots) :=
  own_met hw (plainFor_of_name (by first | (simp [plainName, overriddenIn]; done) | decide +kernel)) (fun p e s m below meth c T0 C0 X0 e0 => own_st (fun _ k => castTop (ag_ef m q0) k) (ag_c0 C0 X0 e0 (Fr.nil n0) rfl))
theorem lw_d0 : decode code 0 = .ok (.ldc2_w 9, 3) := by decide +kernel
theorem lw_d3 : decode code 3 = .ok (.lstore_n 3, 1) := by decide +kernel
theorem lw_d4 : decode code 4 = .ok (.lload_n 0, 1) := by decide +kernel
theorem lw_d5 : decode code 5 = .ok (.ldc2_w 23, 3) := by decide +kernel
theorem lw_d8 : decode code 8 = .ok (.land, 1) := by decide +kernel
theorem lw_d9 : decode code 9 = .ok (.lstore 5, 2) := by decide +kernel
theorem lw_d11 : decode code 11 = .ok (.lload_n 3, 1) := by decide +kernel
theorem lw_d12 : decode code 12 = .ok (.iload_n 2, 1) := by decide +kernel
theorem lw_d13 : decode code 13 = .ok (.bipush 7, 2) := by decide +kernel
theorem lw_d15 : decode code 15 = .ok (.iand, 1) := by decide +kernel
theorem lw_d16 : decode code 16 = .ok (.iconst 4, 1) := by decide +kernel
theorem lw_d17 : decode code 17 = .ok (.isub, 1) := by decide +kernel
theorem lw_d18 : decode code 18 = .ok (.i2l, 1) := by decide +kernel
theorem lw_d19 : decode code 19 = .ok (.ladd, 1) := by decide +kernel
theorem lw_d20 : decode code 20 = .ok (.lstore 7, 2) := by decide +kernel
theorem lw_d22 : decode code 22 = .ok (.ldc2_w 25, 3) := by decide +kernel
theorem lw_d25 : decode code 25 = .ok (.lload_n 3, 1) := by decide +kernel
theorem lw_d26 : decode code 26 = .ok (.lmul, 1) := by decide +kernel
theorem lw_d27 : decode code 27 = .ok (.iload_n 2, 1) := by decide +kernel
theorem lw_d28 : decode code 28 = .ok (.iconst 3, 1) := by decide +kernel
theorem lw_d29 : decode code 29 = .ok (.ishr, 1) := by decide +kernel
theorem lw_d30 : decode code 30 = .ok (.bipush 7, 2) := by decide +kernel
theorem lw_d32 : decode code 32 = .ok (.iand, 1) := by decide +kernel
theorem lw_d33 : decode code 33 = .ok (.iconst 4, 1) := by decide +kernel
theorem lw_d34 : decode code 34 = .ok (.isub, 1) := by decide +kernel
theorem lw_d35 : decode code 35 = .ok (.i2l, 1) := by decide +kernel
theorem lw_d36 : decode code 36 = .ok (.ladd, 1) := by decide +kernel
theorem lw_d37 : decode code 37 = .ok (.lstore 9, 2) := by decide +kernel
theorem lw_d39 : decode code 39 = .ok (.iload_n 2, 1) := by decide +kernel
theorem lw_d40 : decode code 40 = .ok (.bipush 6, 2) := by decide +kernel
theorem lw_d42 : decode code 42 = .ok (.ishr, 1) := by decide +kernel
theorem lw_d43 : decode code 43 = .ok (.bipush 7, 2) := by decide +kernel
theorem lw_d45 : decode code 45 = .ok (.iand, 1) := by decide +kernel
theorem lw_d46 : decode code 46 = .ok (.i2l, 1) := by decide +kernel
theorem lw_d47 : decode code 47 = .ok (.lstore 11, 2) := by decide +kernel
theorem lw_d49 : decode code 49 = .ok (.lload 5, 2) := by decide +kernel
theorem lw_d51 : decode code 51 = .ok (.invokestatic 27, 3) := by decide +kernel
theorem lw_d54 : decode code 54 = .ok (.ifCond .eq 31, 3) := by decide +kernel
theorem lw_d57 : decode code 57 = .ok (.lload 7, 2) := by decide +kernel
theorem lw_d59 : decode code 59 = .ok (.invokestatic 27, 3) := by decide +kernel
theorem lw_d62 : decode code 62 = .ok (.ifCond .eq 23, 3) := by decide +kernel
theorem lw_d65 : decode code 65 = .ok (.lload 9, 2) := by decide +kernel
theorem lw_d67 : decode code 67 = .ok (.invokestatic 27, 3) := by decide +kernel
theorem lw_d70 : decode code 70 = .ok (.ifCond .eq 15, 3) := by decide +kernel
theorem lw_d73 : decode code 73 = .ok (.lload 11, 2) := by decide +kernel
theorem lw_d75 : decode code 75 = .ok (.invokestatic 27, 3) := by decide +kernel
theorem lw_d78 : decode code 78 = .ok (.ifCond .eq 7, 3) := by decide +kernel
theorem lw_d81 : decode code 81 = .ok (.iconst 1, 1) := by decide +kernel
theorem lw_d82 : decode code 82 = .ok (.goto 4, 3) := by decide +kernel
theorem lw_d85 : decode code 85 = .ok (.iconst 0, 1) := by decide +kernel
theorem lw_d86 : decode code 86 = .ok (.ireturn, 1) := by decide +kernel
def lw_f (q0 : Int64) (p1 : Int32)  : Int32 :=
  if (ag_f (q0 &&& (9223372036854775807 : Int64))) = (0 : Int32) then
    (0 : Int32)
  else
    if (ag_f ((1048576 : Int64) + (((p1 &&& (7 : Int32)) - (4 : Int32)).toInt64))) = (0 : Int32) then
      (0 : Int32)
    else
      if (ag_f (((2 : Int64) * (1048576 : Int64)) + ((((p1 >>> ((3 : Int32) &&& 31)) &&& (7 : Int32)) - (4 : Int32)).toInt64))) = (0 : Int32) then
        (0 : Int32)
      else
        if (ag_f (((p1 >>> ((6 : Int32) &&& 31)) &&& (7 : Int32)).toInt64)) = (0 : Int32) then
          (0 : Int32)
        else
          (1 : Int32)
set_option maxRecDepth 65536 in
set_option maxHeartbeats 40000000 in
theorem lw_c0 {l : Launch} {Z : State} {a0 : Array Value} {q0 : Int64} {p1 : Int32} {h0 : Heap} {n0 : Nat} {p : Program} {e : Env} {s : State} {m : MethodId} {args : Array Value} {below : List Frame} {meth : Method} {c : Code} {T0 : State} {locs : List Loc} {r0 : Int32} (C0 : own_Cx p s m meth c Z a0 code 13 "com/example/cairnstore/cairnstore/store/BlockDigestsRecordedPinLaw" "law" (some .boolean)) (X0 : Stand p l e room_1 s m args below meth c T0 locs 0 0) (e0 : T0.heap = h0) (N0 : Fr n0 locs)  (hr0 : r0 = lw_f q0 p1 ) :
    own_Dn p e below s (own_QL (some (.int r0)) n0) room_1.cells room_1.slots (T0.setTop (mkF m 0 #[.val (.long q0), .second, .val (.int p1), .unset, .unset, .unset, .unset, .unset, .unset, .unset, .unset, .unset, .unset] [])) := by
  obtain ⟨hx, hZ, hw, hby, hml, hown, hret, hlk, hnm⟩ := id C0
  refine own_st (fun _ k => X0.ldc2Long hx (index := 9) (v := (1048576 : Int64)) hown (mvT hZ (hw _ (List.mem_of_getElem? (i := 0) rfl))) (g := (mkF m 0 #[.val (.long q0), .second, .val (.int p1), .unset, .unset, .unset, .unset, .unset, .unset, .unset, .unset, .unset, .unset] [])) rfl (hb hby lw_d0) _ (XS.lstoreN X0.here hx rfl (hb hby lw_d3) rfl (l' := #[.val (.long q0), .second, .val (.int p1), .val (.long (1048576 : Int64)), .second, .unset, .unset, .unset, .unset, .unset, .unset, .unset, .unset]) rfl (XS.lloadN X0.here hx rfl (hb hby lw_d4) rfl (X0.ldc2Long hx (index := 23) (v := (9223372036854775807 : Int64)) hown (mvT hZ (hw _ (List.mem_of_getElem? (i := 1) rfl))) (g := (mkF m 5 #[.val (.long q0), .second, .val (.int p1), .val (.long (1048576 : Int64)), .second, .unset, .unset, .unset, .unset, .unset, .unset, .unset, .unset] [(.long q0)])) rfl (hb hby lw_d5) _ (XS.land X0.here hx rfl (hb hby lw_d8) rfl (XS.lstore X0.here hx rfl (hb hby lw_d9) rfl (l' := #[.val (.long q0), .second, .val (.int p1), .val (.long (1048576 : Int64)), .second, .val (.long (q0 &&& (9223372036854775807 : Int64))), .second, .unset, .unset, .unset, .unset, .unset, .unset]) rfl (XS.lloadN X0.here hx rfl (hb hby lw_d11) rfl (XS.iloadN X0.here hx rfl (hb hby lw_d12) rfl (XS.bipush X0.here hx rfl (hb hby lw_d13) (XS.iand X0.here hx rfl (hb hby lw_d15) rfl (XS.iconst X0.here hx rfl (hb hby lw_d16) (XS.isub X0.here hx rfl (hb hby lw_d17) rfl (XS.i2l X0.here hx rfl (hb hby lw_d18) rfl (XS.ladd X0.here hx rfl (hb hby lw_d19) rfl (XS.lstore X0.here hx rfl (hb hby lw_d20) rfl (l' := #[.val (.long q0), .second, .val (.int p1), .val (.long (1048576 : Int64)), .second, .val (.long (q0 &&& (9223372036854775807 : Int64))), .second, .val (.long ((1048576 : Int64) + (((p1 &&& (7 : Int32)) - (4 : Int32)).toInt64))), .second, .unset, .unset, .unset, .unset]) rfl (X0.ldc2Long hx (index := 25) (v := (2 : Int64)) hown (mvT hZ (hw _ (List.mem_of_getElem? (i := 2) rfl))) (g := (mkF m 22 #[.val (.long q0), .second, .val (.int p1), .val (.long (1048576 : Int64)), .second, .val (.long (q0 &&& (9223372036854775807 : Int64))), .second, .val (.long ((1048576 : Int64) + (((p1 &&& (7 : Int32)) - (4 : Int32)).toInt64))), .second, .unset, .unset, .unset, .unset] [])) rfl (hb hby lw_d22) _ (XS.lloadN X0.here hx rfl (hb hby lw_d25) rfl (XS.lmul X0.here hx rfl (hb hby lw_d26) rfl (XS.iloadN X0.here hx rfl (hb hby lw_d27) rfl (XS.iconst X0.here hx rfl (hb hby lw_d28) (XS.ishr X0.here hx rfl (hb hby lw_d29) rfl (XS.bipush X0.here hx rfl (hb hby lw_d30) (XS.iand X0.here hx rfl (hb hby lw_d32) rfl (XS.iconst X0.here hx rfl (hb hby lw_d33) k)))))))))))))))))))))))) ?_
  show own_Dn p e below s _ _ _ (T0.setTop (mkF m 34 #[.val (.long q0), .second, .val (.int p1), .val (.long (1048576 : Int64)), .second, .val (.long (q0 &&& (9223372036854775807 : Int64))), .second, .val (.long ((1048576 : Int64) + (((p1 &&& (7 : Int32)) - (4 : Int32)).toInt64))), .second, .unset, .unset, .unset, .unset] [(.int (4 : Int32)), (.int ((p1 >>> ((3 : Int32) &&& 31)) &&& (7 : Int32))), (.long ((2 : Int64) * (1048576 : Int64)))]))
  refine own_st (fun _ k => XS.isub X0.here hx rfl (hb hby lw_d34) rfl (XS.i2l X0.here hx rfl (hb hby lw_d35) rfl (XS.ladd X0.here hx rfl (hb hby lw_d36) rfl (XS.lstore X0.here hx rfl (hb hby lw_d37) rfl (l' := #[.val (.long q0), .second, .val (.int p1), .val (.long (1048576 : Int64)), .second, .val (.long (q0 &&& (9223372036854775807 : Int64))), .second, .val (.long ((1048576 : Int64) + (((p1 &&& (7 : Int32)) - (4 : Int32)).toInt64))), .second, .val (.long (((2 : Int64) * (1048576 : Int64)) + ((((p1 >>> ((3 : Int32) &&& 31)) &&& (7 : Int32)) - (4 : Int32)).toInt64))), .second, .unset, .unset]) rfl (XS.iloadN X0.here hx rfl (hb hby lw_d39) rfl (XS.bipush X0.here hx rfl (hb hby lw_d40) (XS.ishr X0.here hx rfl (hb hby lw_d42) rfl (XS.bipush X0.here hx rfl (hb hby lw_d43) (XS.iand X0.here hx rfl (hb hby lw_d45) rfl (XS.i2l X0.here hx rfl (hb hby lw_d46) rfl (XS.lstore X0.here hx rfl (hb hby lw_d47) rfl (l' := #[.val (.long q0), .second, .val (.int p1), .val (.long (1048576 : Int64)), .second, .val (.long (q0 &&& (9223372036854775807 : Int64))), .second, .val (.long ((1048576 : Int64) + (((p1 &&& (7 : Int32)) - (4 : Int32)).toInt64))), .second, .val (.long (((2 : Int64) * (1048576 : Int64)) + ((((p1 >>> ((3 : Int32) &&& 31)) &&& (7 : Int32)) - (4 : Int32)).toInt64))), .second, .val (.long (((p1 >>> ((6 : Int32) &&& 31)) &&& (7 : Int32)).toInt64)), .second]) rfl (XS.lload X0.here hx rfl (hb hby lw_d49) rfl k)))))))))))) ?_
  show own_Dn p e below s _ _ _ (T0.setTop (mkF m 51 #[.val (.long q0), .second, .val (.int p1), .val (.long (1048576 : Int64)), .second, .val (.long (q0 &&& (9223372036854775807 : Int64))), .second, .val (.long ((1048576 : Int64) + (((p1 &&& (7 : Int32)) - (4 : Int32)).toInt64))), .second, .val (.long (((2 : Int64) * (1048576 : Int64)) + ((((p1 >>> ((3 : Int32) &&& 31)) &&& (7 : Int32)) - (4 : Int32)).toInt64))), .second, .val (.long (((p1 >>> ((6 : Int32) &&& 31)) &&& (7 : Int32)).toInt64)), .second] [(.long (q0 &&& (9223372036854775807 : Int64)))]))
  obtain ⟨_, _, ⟨T9, L9, k9, n9⟩, -, X9, ⟨Lc9, hQ9, l9, y9, z9⟩, st9⟩ := Jvm.LawKit.callS X0 hx (y := (⟨"com/example/cairnstore/cairnstore/store/BlockDigestsRecordedPinLaw", "agrees", "(J)Z"⟩ : MethodName)) hown (mvT hZ (hw _ (List.mem_of_getElem? (i := 3) rfl))) (mvT hZ (hw _ (List.mem_of_getElem? (i := 4) rfl))) (mvT hZ (hw _ (List.mem_of_getElem? (i := 5) rfl))) (mvT hZ (hw _ (List.mem_of_getElem? (i := 6) rfl))) (by decide) (backOf (W := 0) (ag_rm l Z a0 hw [] ((q0 &&& (9223372036854775807 : Int64))) h0 n0) hZ (hw _ (List.mem_of_getElem? (i := 6) rfl)) (hw _ (List.mem_of_getElem? (i := 5) rfl)) (by decide) (by decide)) (g := (mkF m 51 #[.val (.long q0), .second, .val (.int p1), .val (.long (1048576 : Int64)), .second, .val (.long (q0 &&& (9223372036854775807 : Int64))), .second, .val (.long ((1048576 : Int64) + (((p1 &&& (7 : Int32)) - (4 : Int32)).toInt64))), .second, .val (.long (((2 : Int64) * (1048576 : Int64)) + ((((p1 >>> ((3 : Int32) &&& 31)) &&& (7 : Int32)) - (4 : Int32)).toInt64))), .second, .val (.long (((p1 >>> ((6 : Int32) &&& 31)) &&& (7 : Int32)).toInt64)), .second] [(.long (q0 &&& (9223372036854775807 : Int64)))])) rfl (by rw [hml]; rfl) (argsL := [(.long (q0 &&& (9223372036854775807 : Int64)))]) (rest := []) (lenOf own_pd0 rfl) rfl (by show 2 * 0 + _ ≤ _; exact Nat.le_of_eq rfl) (hb hby lw_d51) (fun _ _ => ⟨rfl, e0, (by decide : 0 + 0 ≤ _), (by decide : 0 + 0 ≤ _)⟩)
  dsimp only [Pt.U, Pt.locs, Pt.cells, Pt.slots] at X9 l9 y9 z9 st9 hQ9
  subst l9 y9 z9
  obtain ⟨rfl, N9q, e9⟩ := hQ9
  have N9 := Fr.app N0 N9q
  refine own_st st9 ?_
  show own_Dn p e below s _ _ _ (T9.setTop (mkF m 54 #[.val (.long q0), .second, .val (.int p1), .val (.long (1048576 : Int64)), .second, .val (.long (q0 &&& (9223372036854775807 : Int64))), .second, .val (.long ((1048576 : Int64) + (((p1 &&& (7 : Int32)) - (4 : Int32)).toInt64))), .second, .val (.long (((2 : Int64) * (1048576 : Int64)) + ((((p1 >>> ((3 : Int32) &&& 31)) &&& (7 : Int32)) - (4 : Int32)).toInt64))), .second, .val (.long (((p1 >>> ((6 : Int32) &&& 31)) &&& (7 : Int32)).toInt64)), .second] [(.int (ag_f (q0 &&& (9223372036854775807 : Int64))))]))
  by_cases hc10 : (ag_f (q0 &&& (9223372036854775807 : Int64))) = (0 : Int32)
  · refine own_st (fun _ k => XS.ifYes X9.here hx rfl (pc0 := 54) (pc' := 85) rfl (hb hby lw_d54) rfl ((if0 _ _).trans (teq hc10).1) (by decide) (by decide) k) ?_
    show own_Dn p e below s _ _ _ (T9.setTop (mkF m 85 #[.val (.long q0), .second, .val (.int p1), .val (.long (1048576 : Int64)), .second, .val (.long (q0 &&& (9223372036854775807 : Int64))), .second, .val (.long ((1048576 : Int64) + (((p1 &&& (7 : Int32)) - (4 : Int32)).toInt64))), .second, .val (.long (((2 : Int64) * (1048576 : Int64)) + ((((p1 >>> ((3 : Int32) &&& 31)) &&& (7 : Int32)) - (4 : Int32)).toInt64))), .second, .val (.long (((p1 >>> ((6 : Int32) &&& 31)) &&& (7 : Int32)).toInt64)), .second] []))
    refine own_st (fun _ k => XS.iconst X9.here hx rfl (hb hby lw_d85) k) ?_
    show own_Dn p e below s _ _ _ (T9.setTop (mkF m 86 #[.val (.long q0), .second, .val (.int p1), .val (.long (1048576 : Int64)), .second, .val (.long (q0 &&& (9223372036854775807 : Int64))), .second, .val (.long ((1048576 : Int64) + (((p1 &&& (7 : Int32)) - (4 : Int32)).toInt64))), .second, .val (.long (((2 : Int64) * (1048576 : Int64)) + ((((p1 >>> ((3 : Int32) &&& 31)) &&& (7 : Int32)) - (4 : Int32)).toInt64))), .second, .val (.long (((p1 >>> ((6 : Int32) &&& 31)) &&& (7 : Int32)).toInt64)), .second] [(.int (0 : Int32))]))
    exact own_retZ X9 hx hret hlk (by decide) (hb hby lw_d86) (by decide) (by decide) ⟨(by rw [hr0, lw_f, if_pos hc10]), N9⟩
  · refine own_st (fun _ k => XS.ifNo X9.here hx rfl (hb hby lw_d54) rfl ((if0 _ _).trans (feq hc10).1) k) ?_
    show own_Dn p e below s _ _ _ (T9.setTop (mkF m 57 #[.val (.long q0), .second, .val (.int p1), .val (.long (1048576 : Int64)), .second, .val (.long (q0 &&& (9223372036854775807 : Int64))), .second, .val (.long ((1048576 : Int64) + (((p1 &&& (7 : Int32)) - (4 : Int32)).toInt64))), .second, .val (.long (((2 : Int64) * (1048576 : Int64)) + ((((p1 >>> ((3 : Int32) &&& 31)) &&& (7 : Int32)) - (4 : Int32)).toInt64))), .second, .val (.long (((p1 >>> ((6 : Int32) &&& 31)) &&& (7 : Int32)).toInt64)), .second] []))
    refine own_st (fun _ k => XS.lload X9.here hx rfl (hb hby lw_d57) rfl k) ?_
    show own_Dn p e below s _ _ _ (T9.setTop (mkF m 59 #[.val (.long q0), .second, .val (.int p1), .val (.long (1048576 : Int64)), .second, .val (.long (q0 &&& (9223372036854775807 : Int64))), .second, .val (.long ((1048576 : Int64) + (((p1 &&& (7 : Int32)) - (4 : Int32)).toInt64))), .second, .val (.long (((2 : Int64) * (1048576 : Int64)) + ((((p1 >>> ((3 : Int32) &&& 31)) &&& (7 : Int32)) - (4 : Int32)).toInt64))), .second, .val (.long (((p1 >>> ((6 : Int32) &&& 31)) &&& (7 : Int32)).toInt64)), .second] [(.long ((1048576 : Int64) + (((p1 &&& (7 : Int32)) - (4 : Int32)).toInt64)))]))
    obtain ⟨_, _, ⟨T11, L11, k11, n11⟩, -, X11, ⟨Lc11, hQ11, l11, y11, z11⟩, st11⟩ := Jvm.LawKit.callS X9 hx (y := (⟨"com/example/cairnstore/cairnstore/store/BlockDigestsRecordedPinLaw", "agrees", "(J)Z"⟩ : MethodName)) hown (mvT hZ (hw _ (List.mem_of_getElem? (i := 3) rfl))) (mvT hZ (hw _ (List.mem_of_getElem? (i := 4) rfl))) (mvT hZ (hw _ (List.mem_of_getElem? (i := 5) rfl))) (mvT hZ (hw _ (List.mem_of_getElem? (i := 6) rfl))) (by decide) (backOf (W := 0) (ag_rm l Z a0 hw [] (((1048576 : Int64) + (((p1 &&& (7 : Int32)) - (4 : Int32)).toInt64))) h0 n0) hZ (hw _ (List.mem_of_getElem? (i := 6) rfl)) (hw _ (List.mem_of_getElem? (i := 5) rfl)) (by decide) (by decide)) (g := (mkF m 59 #[.val (.long q0), .second, .val (.int p1), .val (.long (1048576 : Int64)), .second, .val (.long (q0 &&& (9223372036854775807 : Int64))), .second, .val (.long ((1048576 : Int64) + (((p1 &&& (7 : Int32)) - (4 : Int32)).toInt64))), .second, .val (.long (((2 : Int64) * (1048576 : Int64)) + ((((p1 >>> ((3 : Int32) &&& 31)) &&& (7 : Int32)) - (4 : Int32)).toInt64))), .second, .val (.long (((p1 >>> ((6 : Int32) &&& 31)) &&& (7 : Int32)).toInt64)), .second] [(.long ((1048576 : Int64) + (((p1 &&& (7 : Int32)) - (4 : Int32)).toInt64)))])) rfl (by rw [hml]; rfl) (argsL := [(.long ((1048576 : Int64) + (((p1 &&& (7 : Int32)) - (4 : Int32)).toInt64)))]) (rest := []) (lenOf own_pd0 rfl) rfl (by show 2 * 0 + _ ≤ _; exact Nat.le_of_eq rfl) (hb hby lw_d59) (fun _ _ => ⟨rfl, e9, (by decide : 0 + 0 ≤ _), (by decide : 0 + 0 ≤ _)⟩)
    dsimp only [Pt.U, Pt.locs, Pt.cells, Pt.slots] at X11 l11 y11 z11 st11 hQ11
    subst l11 y11 z11
    obtain ⟨rfl, N11q, e11⟩ := hQ11
    have N11 := Fr.app N9 N11q
    refine own_st st11 ?_
    show own_Dn p e below s _ _ _ (T11.setTop (mkF m 62 #[.val (.long q0), .second, .val (.int p1), .val (.long (1048576 : Int64)), .second, .val (.long (q0 &&& (9223372036854775807 : Int64))), .second, .val (.long ((1048576 : Int64) + (((p1 &&& (7 : Int32)) - (4 : Int32)).toInt64))), .second, .val (.long (((2 : Int64) * (1048576 : Int64)) + ((((p1 >>> ((3 : Int32) &&& 31)) &&& (7 : Int32)) - (4 : Int32)).toInt64))), .second, .val (.long (((p1 >>> ((6 : Int32) &&& 31)) &&& (7 : Int32)).toInt64)), .second] [(.int (ag_f ((1048576 : Int64) + (((p1 &&& (7 : Int32)) - (4 : Int32)).toInt64))))]))
    by_cases hc12 : (ag_f ((1048576 : Int64) + (((p1 &&& (7 : Int32)) - (4 : Int32)).toInt64))) = (0 : Int32)
    · refine own_st (fun _ k => XS.ifYes X11.here hx rfl (pc0 := 62) (pc' := 85) rfl (hb hby lw_d62) rfl ((if0 _ _).trans (teq hc12).1) (by decide) (by decide) k) ?_
      show own_Dn p e below s _ _ _ (T11.setTop (mkF m 85 #[.val (.long q0), .second, .val (.int p1), .val (.long (1048576 : Int64)), .second, .val (.long (q0 &&& (9223372036854775807 : Int64))), .second, .val (.long ((1048576 : Int64) + (((p1 &&& (7 : Int32)) - (4 : Int32)).toInt64))), .second, .val (.long (((2 : Int64) * (1048576 : Int64)) + ((((p1 >>> ((3 : Int32) &&& 31)) &&& (7 : Int32)) - (4 : Int32)).toInt64))), .second, .val (.long (((p1 >>> ((6 : Int32) &&& 31)) &&& (7 : Int32)).toInt64)), .second] []))
      refine own_st (fun _ k => XS.iconst X11.here hx rfl (hb hby lw_d85) k) ?_
      show own_Dn p e below s _ _ _ (T11.setTop (mkF m 86 #[.val (.long q0), .second, .val (.int p1), .val (.long (1048576 : Int64)), .second, .val (.long (q0 &&& (9223372036854775807 : Int64))), .second, .val (.long ((1048576 : Int64) + (((p1 &&& (7 : Int32)) - (4 : Int32)).toInt64))), .second, .val (.long (((2 : Int64) * (1048576 : Int64)) + ((((p1 >>> ((3 : Int32) &&& 31)) &&& (7 : Int32)) - (4 : Int32)).toInt64))), .second, .val (.long (((p1 >>> ((6 : Int32) &&& 31)) &&& (7 : Int32)).toInt64)), .second] [(.int (0 : Int32))]))
      exact own_retZ X11 hx hret hlk (by decide) (hb hby lw_d86) (by decide) (by decide) ⟨(by rw [hr0, lw_f, if_neg hc10, if_pos hc12]), N11⟩
    · refine own_st (fun _ k => XS.ifNo X11.here hx rfl (hb hby lw_d62) rfl ((if0 _ _).trans (feq hc12).1) k) ?_
      show own_Dn p e below s _ _ _ (T11.setTop (mkF m 65 #[.val (.long q0), .second, .val (.int p1), .val (.long (1048576 : Int64)), .second, .val (.long (q0 &&& (9223372036854775807 : Int64))), .second, .val (.long ((1048576 : Int64) + (((p1 &&& (7 : Int32)) - (4 : Int32)).toInt64))), .second, .val (.long (((2 : Int64) * (1048576 : Int64)) + ((((p1 >>> ((3 : Int32) &&& 31)) &&& (7 : Int32)) - (4 : Int32)).toInt64))), .second, .val (.long (((p1 >>> ((6 : Int32) &&& 31)) &&& (7 : Int32)).toInt64)), .second] []))
      refine own_st (fun _ k => XS.lload X11.here hx rfl (hb hby lw_d65) rfl k) ?_
      show own_Dn p e below s _ _ _ (T11.setTop (mkF m 67 #[.val (.long q0), .second, .val (.int p1), .val (.long (1048576 : Int64)), .second, .val (.long (q0 &&& (9223372036854775807 : Int64))), .second, .val (.long ((1048576 : Int64) + (((p1 &&& (7 : Int32)) - (4 : Int32)).toInt64))), .second, .val (.long (((2 : Int64) * (1048576 : Int64)) + ((((p1 >>> ((3 : Int32) &&& 31)) &&& (7 : Int32)) - (4 : Int32)).toInt64))), .second, .val (.long (((p1 >>> ((6 : Int32) &&& 31)) &&& (7 : Int32)).toInt64)), .second] [(.long (((2 : Int64) * (1048576 : Int64)) + ((((p1 >>> ((3 : Int32) &&& 31)) &&& (7 : Int32)) - (4 : Int32)).toInt64)))]))
      obtain ⟨_, _, ⟨T13, L13, k13, n13⟩, -, X13, ⟨Lc13, hQ13, l13, y13, z13⟩, st13⟩ := Jvm.LawKit.callS X11 hx (y := (⟨"com/example/cairnstore/cairnstore/store/BlockDigestsRecordedPinLaw", "agrees", "(J)Z"⟩ : MethodName)) hown (mvT hZ (hw _ (List.mem_of_getElem? (i := 3) rfl))) (mvT hZ (hw _ (List.mem_of_getElem? (i := 4) rfl))) (mvT hZ (hw _ (List.mem_of_getElem? (i := 5) rfl))) (mvT hZ (hw _ (List.mem_of_getElem? (i := 6) rfl))) (by decide) (backOf (W := 0) (ag_rm l Z a0 hw [] ((((2 : Int64) * (1048576 : Int64)) + ((((p1 >>> ((3 : Int32) &&& 31)) &&& (7 : Int32)) - (4 : Int32)).toInt64))) h0 n0) hZ (hw _ (List.mem_of_getElem? (i := 6) rfl)) (hw _ (List.mem_of_getElem? (i := 5) rfl)) (by decide) (by decide)) (g := (mkF m 67 #[.val (.long q0), .second, .val (.int p1), .val (.long (1048576 : Int64)), .second, .val (.long (q0 &&& (9223372036854775807 : Int64))), .second, .val (.long ((1048576 : Int64) + (((p1 &&& (7 : Int32)) - (4 : Int32)).toInt64))), .second, .val (.long (((2 : Int64) * (1048576 : Int64)) + ((((p1 >>> ((3 : Int32) &&& 31)) &&& (7 : Int32)) - (4 : Int32)).toInt64))), .second, .val (.long (((p1 >>> ((6 : Int32) &&& 31)) &&& (7 : Int32)).toInt64)), .second] [(.long (((2 : Int64) * (1048576 : Int64)) + ((((p1 >>> ((3 : Int32) &&& 31)) &&& (7 : Int32)) - (4 : Int32)).toInt64)))])) rfl (by rw [hml]; rfl) (argsL := [(.long (((2 : Int64) * (1048576 : Int64)) + ((((p1 >>> ((3 : Int32) &&& 31)) &&& (7 : Int32)) - (4 : Int32)).toInt64)))]) (rest := []) (lenOf own_pd0 rfl) rfl (by show 2 * 0 + _ ≤ _; exact Nat.le_of_eq rfl) (hb hby lw_d67) (fun _ _ => ⟨rfl, e11, (by decide : 0 + 0 ≤ _), (by decide : 0 + 0 ≤ _)⟩)
      dsimp only [Pt.U, Pt.locs, Pt.cells, Pt.slots] at X13 l13 y13 z13 st13 hQ13
      subst l13 y13 z13
      obtain ⟨rfl, N13q, e13⟩ := hQ13
      have N13 := Fr.app N11 N13q
      refine own_st st13 ?_
      show own_Dn p e below s _ _ _ (T13.setTop (mkF m 70 #[.val (.long q0), .second, .val (.int p1), .val (.long (1048576 : Int64)), .second, .val (.long (q0 &&& (9223372036854775807 : Int64))), .second, .val (.long ((1048576 : Int64) + (((p1 &&& (7 : Int32)) - (4 : Int32)).toInt64))), .second, .val (.long (((2 : Int64) * (1048576 : Int64)) + ((((p1 >>> ((3 : Int32) &&& 31)) &&& (7 : Int32)) - (4 : Int32)).toInt64))), .second, .val (.long (((p1 >>> ((6 : Int32) &&& 31)) &&& (7 : Int32)).toInt64)), .second] [(.int (ag_f (((2 : Int64) * (1048576 : Int64)) + ((((p1 >>> ((3 : Int32) &&& 31)) &&& (7 : Int32)) - (4 : Int32)).toInt64))))]))
      by_cases hc14 : (ag_f (((2 : Int64) * (1048576 : Int64)) + ((((p1 >>> ((3 : Int32) &&& 31)) &&& (7 : Int32)) - (4 : Int32)).toInt64))) = (0 : Int32)
      · refine own_st (fun _ k => XS.ifYes X13.here hx rfl (pc0 := 70) (pc' := 85) rfl (hb hby lw_d70) rfl ((if0 _ _).trans (teq hc14).1) (by decide) (by decide) k) ?_
        show own_Dn p e below s _ _ _ (T13.setTop (mkF m 85 #[.val (.long q0), .second, .val (.int p1), .val (.long (1048576 : Int64)), .second, .val (.long (q0 &&& (9223372036854775807 : Int64))), .second, .val (.long ((1048576 : Int64) + (((p1 &&& (7 : Int32)) - (4 : Int32)).toInt64))), .second, .val (.long (((2 : Int64) * (1048576 : Int64)) + ((((p1 >>> ((3 : Int32) &&& 31)) &&& (7 : Int32)) - (4 : Int32)).toInt64))), .second, .val (.long (((p1 >>> ((6 : Int32) &&& 31)) &&& (7 : Int32)).toInt64)), .second] []))
        refine own_st (fun _ k => XS.iconst X13.here hx rfl (hb hby lw_d85) k) ?_
        show own_Dn p e below s _ _ _ (T13.setTop (mkF m 86 #[.val (.long q0), .second, .val (.int p1), .val (.long (1048576 : Int64)), .second, .val (.long (q0 &&& (9223372036854775807 : Int64))), .second, .val (.long ((1048576 : Int64) + (((p1 &&& (7 : Int32)) - (4 : Int32)).toInt64))), .second, .val (.long (((2 : Int64) * (1048576 : Int64)) + ((((p1 >>> ((3 : Int32) &&& 31)) &&& (7 : Int32)) - (4 : Int32)).toInt64))), .second, .val (.long (((p1 >>> ((6 : Int32) &&& 31)) &&& (7 : Int32)).toInt64)), .second] [(.int (0 : Int32))]))
        exact own_retZ X13 hx hret hlk (by decide) (hb hby lw_d86) (by decide) (by decide) ⟨(by rw [hr0, lw_f, if_neg hc10, if_neg hc12, if_pos hc14]), N13⟩
      · refine own_st (fun _ k => XS.ifNo X13.here hx rfl (hb hby lw_d70) rfl ((if0 _ _).trans (feq hc14).1) k) ?_
        show own_Dn p e below s _ _ _ (T13.setTop (mkF m 73 #[.val (.long q0), .second, .val (.int p1), .val (.long (1048576 : Int64)), .second, .val (.long (q0 &&& (9223372036854775807 : Int64))), .second, .val (.long ((1048576 : Int64) + (((p1 &&& (7 : Int32)) - (4 : Int32)).toInt64))), .second, .val (.long (((2 : Int64) * (1048576 : Int64)) + ((((p1 >>> ((3 : Int32) &&& 31)) &&& (7 : Int32)) - (4 : Int32)).toInt64))), .second, .val (.long (((p1 >>> ((6 : Int32) &&& 31)) &&& (7 : Int32)).toInt64)), .second] []))
        refine own_st (fun _ k => XS.lload X13.here hx rfl (hb hby lw_d73) rfl k) ?_
        show own_Dn p e below s _ _ _ (T13.setTop (mkF m 75 #[.val (.long q0), .second, .val (.int p1), .val (.long (1048576 : Int64)), .second, .val (.long (q0 &&& (9223372036854775807 : Int64))), .second, .val (.long ((1048576 : Int64) + (((p1 &&& (7 : Int32)) - (4 : Int32)).toInt64))), .second, .val (.long (((2 : Int64) * (1048576 : Int64)) + ((((p1 >>> ((3 : Int32) &&& 31)) &&& (7 : Int32)) - (4 : Int32)).toInt64))), .second, .val (.long (((p1 >>> ((6 : Int32) &&& 31)) &&& (7 : Int32)).toInt64)), .second] [(.long (((p1 >>> ((6 : Int32) &&& 31)) &&& (7 : Int32)).toInt64))]))
        obtain ⟨_, _, ⟨T15, L15, k15, n15⟩, -, X15, ⟨Lc15, hQ15, l15, y15, z15⟩, st15⟩ := Jvm.LawKit.callS X13 hx (y := (⟨"com/example/cairnstore/cairnstore/store/BlockDigestsRecordedPinLaw", "agrees", "(J)Z"⟩ : MethodName)) hown (mvT hZ (hw _ (List.mem_of_getElem? (i := 3) rfl))) (mvT hZ (hw _ (List.mem_of_getElem? (i := 4) rfl))) (mvT hZ (hw _ (List.mem_of_getElem? (i := 5) rfl))) (mvT hZ (hw _ (List.mem_of_getElem? (i := 6) rfl))) (by decide) (backOf (W := 0) (ag_rm l Z a0 hw [] ((((p1 >>> ((6 : Int32) &&& 31)) &&& (7 : Int32)).toInt64)) h0 n0) hZ (hw _ (List.mem_of_getElem? (i := 6) rfl)) (hw _ (List.mem_of_getElem? (i := 5) rfl)) (by decide) (by decide)) (g := (mkF m 75 #[.val (.long q0), .second, .val (.int p1), .val (.long (1048576 : Int64)), .second, .val (.long (q0 &&& (9223372036854775807 : Int64))), .second, .val (.long ((1048576 : Int64) + (((p1 &&& (7 : Int32)) - (4 : Int32)).toInt64))), .second, .val (.long (((2 : Int64) * (1048576 : Int64)) + ((((p1 >>> ((3 : Int32) &&& 31)) &&& (7 : Int32)) - (4 : Int32)).toInt64))), .second, .val (.long (((p1 >>> ((6 : Int32) &&& 31)) &&& (7 : Int32)).toInt64)), .second] [(.long (((p1 >>> ((6 : Int32) &&& 31)) &&& (7 : Int32)).toInt64))])) rfl (by rw [hml]; rfl) (argsL := [(.long (((p1 >>> ((6 : Int32) &&& 31)) &&& (7 : Int32)).toInt64))]) (rest := []) (lenOf own_pd0 rfl) rfl (by show 2 * 0 + _ ≤ _; exact Nat.le_of_eq rfl) (hb hby lw_d75) (fun _ _ => ⟨rfl, e13, (by decide : 0 + 0 ≤ _), (by decide : 0 + 0 ≤ _)⟩)
        dsimp only [Pt.U, Pt.locs, Pt.cells, Pt.slots] at X15 l15 y15 z15 st15 hQ15
        subst l15 y15 z15
        obtain ⟨rfl, N15q, e15⟩ := hQ15
        have N15 := Fr.app N13 N15q
        refine own_st st15 ?_
        show own_Dn p e below s _ _ _ (T15.setTop (mkF m 78 #[.val (.long q0), .second, .val (.int p1), .val (.long (1048576 : Int64)), .second, .val (.long (q0 &&& (9223372036854775807 : Int64))), .second, .val (.long ((1048576 : Int64) + (((p1 &&& (7 : Int32)) - (4 : Int32)).toInt64))), .second, .val (.long (((2 : Int64) * (1048576 : Int64)) + ((((p1 >>> ((3 : Int32) &&& 31)) &&& (7 : Int32)) - (4 : Int32)).toInt64))), .second, .val (.long (((p1 >>> ((6 : Int32) &&& 31)) &&& (7 : Int32)).toInt64)), .second] [(.int (ag_f (((p1 >>> ((6 : Int32) &&& 31)) &&& (7 : Int32)).toInt64)))]))
        by_cases hc16 : (ag_f (((p1 >>> ((6 : Int32) &&& 31)) &&& (7 : Int32)).toInt64)) = (0 : Int32)
        · refine own_st (fun _ k => XS.ifYes X15.here hx rfl (pc0 := 78) (pc' := 85) rfl (hb hby lw_d78) rfl ((if0 _ _).trans (teq hc16).1) (by decide) (by decide) k) ?_
          show own_Dn p e below s _ _ _ (T15.setTop (mkF m 85 #[.val (.long q0), .second, .val (.int p1), .val (.long (1048576 : Int64)), .second, .val (.long (q0 &&& (9223372036854775807 : Int64))), .second, .val (.long ((1048576 : Int64) + (((p1 &&& (7 : Int32)) - (4 : Int32)).toInt64))), .second, .val (.long (((2 : Int64) * (1048576 : Int64)) + ((((p1 >>> ((3 : Int32) &&& 31)) &&& (7 : Int32)) - (4 : Int32)).toInt64))), .second, .val (.long (((p1 >>> ((6 : Int32) &&& 31)) &&& (7 : Int32)).toInt64)), .second] []))
          refine own_st (fun _ k => XS.iconst X15.here hx rfl (hb hby lw_d85) k) ?_
          show own_Dn p e below s _ _ _ (T15.setTop (mkF m 86 #[.val (.long q0), .second, .val (.int p1), .val (.long (1048576 : Int64)), .second, .val (.long (q0 &&& (9223372036854775807 : Int64))), .second, .val (.long ((1048576 : Int64) + (((p1 &&& (7 : Int32)) - (4 : Int32)).toInt64))), .second, .val (.long (((2 : Int64) * (1048576 : Int64)) + ((((p1 >>> ((3 : Int32) &&& 31)) &&& (7 : Int32)) - (4 : Int32)).toInt64))), .second, .val (.long (((p1 >>> ((6 : Int32) &&& 31)) &&& (7 : Int32)).toInt64)), .second] [(.int (0 : Int32))]))
          exact own_retZ X15 hx hret hlk (by decide) (hb hby lw_d86) (by decide) (by decide) ⟨(by rw [hr0, lw_f, if_neg hc10, if_neg hc12, if_neg hc14, if_pos hc16]), N15⟩
        · refine own_st (fun _ k => XS.ifNo X15.here hx rfl (hb hby lw_d78) rfl ((if0 _ _).trans (feq hc16).1) k) ?_
          show own_Dn p e below s _ _ _ (T15.setTop (mkF m 81 #[.val (.long q0), .second, .val (.int p1), .val (.long (1048576 : Int64)), .second, .val (.long (q0 &&& (9223372036854775807 : Int64))), .second, .val (.long ((1048576 : Int64) + (((p1 &&& (7 : Int32)) - (4 : Int32)).toInt64))), .second, .val (.long (((2 : Int64) * (1048576 : Int64)) + ((((p1 >>> ((3 : Int32) &&& 31)) &&& (7 : Int32)) - (4 : Int32)).toInt64))), .second, .val (.long (((p1 >>> ((6 : Int32) &&& 31)) &&& (7 : Int32)).toInt64)), .second] []))
          refine own_st (fun _ k => XS.iconst X15.here hx rfl (hb hby lw_d81) (XS.goto X15.here hx rfl (pc0 := 82) (pc' := 86) rfl (hb hby lw_d82) (by decide) (by decide) k)) ?_
          show own_Dn p e below s _ _ _ (T15.setTop (mkF m 86 #[.val (.long q0), .second, .val (.int p1), .val (.long (1048576 : Int64)), .second, .val (.long (q0 &&& (9223372036854775807 : Int64))), .second, .val (.long ((1048576 : Int64) + (((p1 &&& (7 : Int32)) - (4 : Int32)).toInt64))), .second, .val (.long (((2 : Int64) * (1048576 : Int64)) + ((((p1 >>> ((3 : Int32) &&& 31)) &&& (7 : Int32)) - (4 : Int32)).toInt64))), .second, .val (.long (((p1 >>> ((6 : Int32) &&& 31)) &&& (7 : Int32)).toInt64)), .second] [(.int (1 : Int32))]))
          exact own_retZ X15 hx hret hlk (by decide) (hb hby lw_d86) (by decide) (by decide) ⟨(by rw [hr0, lw_f, if_neg hc10, if_neg hc12, if_neg hc14, if_neg hc16]), N15⟩
theorem lw_ef (m : MethodId) (q0 : Int64) (p1 : Int32) : entryFrame m #[(.long q0), (.int p1)] maxLocals = mkF m 0 #[.val (.long q0), .second, .val (.int p1), .unset, .unset, .unset, .unset, .unset, .unset, .unset, .unset, .unset, .unset] [] := by first | (simp [entryFrame, mkF, argsToLocals, Value.category, maxLocals]; done) | rfl
theorem lw_rm (l : Launch) (Z : State) (a0 : Array Value) (hw : ∀ d ∈ tables_1, d.before a0 Z = true) (ws : List Jvm.Cond) (q0 : Int64) (p1 : Int32) (h0 : Heap) (n0 : Nat) :
    MetFree l x (head1 (Jvm.Cond.code x code maxLocals ret :: ws) room_1) (fun a U => a = #[(.long q0), (.int p1)] ∧ Z.Warmed39 U.vm ∧ U.heap = h0) (fun _ _ _ _ _ => True) (fun _ U o U' => ∃ v L, o = .returned v ∧ (own_QL (some (.int (lw_f q0 p1))) n0) v U'.heap L ∧ FrameEnd U o U' L room_1.cells room_1.slots) :=
  own_met hw (plainFor_of_name (by first | (simp [plainName, overriddenIn]; done) | decide +kernel)) (fun p e s m below meth c T0 C0 X0 e0 => own_st (fun _ k => castTop (lw_ef m q0 p1) k) (lw_c0 C0 X0 e0 (Fr.nil n0) rfl))
theorem own_ag (q : Int64) (h : 0 ≤ q.toInt) : ag_f q = 1 := by
  have r := rng64 q
  have e1 := c_lsub q 1
  have e2 := c_ldiv (q - 1) 1048576 1048576 (by decide) (by decide)
  have e3 := c_ladd ((q - 1) / 1048576) 1
  have r1 := rng64 (q - 1)
  have r2 := rng64 ((q - 1) / 1048576)
  have r3 := rng64 ((q - 1) / 1048576 + 1)
  simp only [Int64.reduceToInt] at e1 e3
  have hb : (1 < bk_f q) ↔ 1048576 < q := by
    simp only [bk_f, Int64.lt_iff_toInt_lt, ← Int64.toInt_inj, Int64.reduceToInt]
    split
    · simp only [Int64.reduceToInt]; omega
    · omega
  simp only [ag_f, ag_f18, rc_f, hb]
  by_cases a : (1048576 : Int64) < q
  · simp [a]
  · simp [a]
theorem own_law (q0 : Int64) (p1 : Int32) : lw_f q0 p1 = 1 := by
  have h1 : 0 ≤ (q0 &&& (9223372036854775807 : Int64)).toInt := by
    rw [c_maskL q0 9223372036854775807 63 (by decide) (by decide)]; omega
  have h2 : 0 ≤ ((1048576 : Int64) + (((p1 &&& (7 : Int32)) - (4 : Int32)).toInt64)).toInt := by
    have e1 := c_mask p1 7 3 (by decide) (by decide)
    have e2 := c_isub (p1 &&& 7) 4
    have e3 := c_i2l ((p1 &&& 7) - 4)
    have e4 := c_ladd 1048576 ((p1 &&& 7) - 4).toInt64
    have r1 := rng32 ((p1 &&& 7) - 4)
    have r2 := rng64 ((1048576 : Int64) + (((p1 &&& (7 : Int32)) - (4 : Int32)).toInt64))
    simp only [Int32.reduceToInt, Int64.reduceToInt] at e1 e2 e3 e4
    omega
  have h3 : 0 ≤ (((2 : Int64) * (1048576 : Int64)) + ((((p1 >>> ((3 : Int32) &&& 31)) &&& (7 : Int32)) - (4 : Int32)).toInt64)).toInt := by
    generalize (p1 >>> ((3 : Int32) &&& 31)) = x
    have e1 := c_mask x 7 3 (by decide) (by decide)
    have e2 := c_isub (x &&& 7) 4
    have e3 := c_i2l ((x &&& 7) - 4)
    have e0 : ((2 : Int64) * (1048576 : Int64)).toInt = 2097152 := by decide
    have e4 := c_ladd (2 * 1048576) ((x &&& 7) - 4).toInt64
    have r1 := rng32 ((x &&& 7) - 4)
    have r2 := rng64 (((2 : Int64) * (1048576 : Int64)) + (((x &&& (7 : Int32)) - (4 : Int32)).toInt64))
    simp only [Int32.reduceToInt] at e1 e2 e3
    omega
  have h4 : 0 ≤ (((p1 >>> ((6 : Int32) &&& 31)) &&& (7 : Int32)).toInt64).toInt := by
    generalize (p1 >>> ((6 : Int32) &&& 31)) = x
    have e1 := c_mask x 7 3 (by decide) (by decide)
    have e3 := c_i2l (x &&& 7)
    omega
  simp only [lw_f, own_ag _ h1, own_ag _ h2, own_ag _ h3, own_ag _ h4]
  decide

set_option maxRecDepth 65536 in
set_option maxHeartbeats 40000000 in
theorem comes_1 {Post : Tables → Env → Array Value → State → Outcome → State → Prop} (hpost : ∀ tb e args s v u, (limb_1_1.after args s (.returned v) u = true ∧ limb_1_2.after args s (.returned v) u = true ∧ True) → FrameEnd s (.returned v) u (Jvm.fieldLocs frame_1_writes args s ++ Jvm.arrayLocs frame_1_arrays args s ++ Jvm.staticLocs frame_1_statics s) 0 0 → Post tb e args s (.returned v) u) :
    ArmFor flags0 classFile x code maxLocals ret World_1 tables_1 room_1 Calls_1 rest_1 Pre_1 Post := by
  intro l hfl _ _ p e ha hc hk s m args below hf hA hF happ hP
  obtain ⟨hcalls, hrest, hpre⟩ := hP
  obtain ⟨-, -, -, hnamed, -, -, -, hat⟩ := (Spec.applies_iff hf).mp happ
  obtain ⟨hg, hn⟩ := and_e (Cond.before_iff.mp (show (Jvm.Cond.and given_1 narrow_1).before args s = true from hpre))
  obtain ⟨gc, hg0⟩ := and_e hg
  obtain ⟨g0, g1⟩ := and_e hg0
  obtain ⟨w0, w1, rfl⟩ : ∃ w0 w1 : Value, args = #[w0, w1] := by
    have hs : args.size = 2 := by simpa [Cond.value, given_1] using gc
    obtain ⟨L⟩ := args
    match L, hs with
    | [w0, w1], _ => exact ⟨w0, w1, rfl⟩
  have hw := fun d (hd : d ∈ tables_1) => atoms_spec (ws := Jvm.Cond.code x code maxLocals ret :: tables_1) hat d (List.mem_cons_of_mem _ hd)
  have hfit : Fit s := fun {y c} hc i hi => by
    obtain ⟨ha, rfl⟩ := Array.getElem?_eq_some_iff.mp hc
    have q := List.all_eq_true.mp ((Array.all_eq_true_iff_forall_mem.mp hF) _ (Array.getElem_mem ha)) i (List.mem_range.mpr hi)
    simpa [Array.getElem?_eq_getElem hi] using q
  obtain ⟨i0, ei0⟩ := isL_v g0
  obtain rfl : w0 = (.long i0) := Option.some.inj ei0
  obtain ⟨i1, ei1⟩ := is_v g1
  obtain rfl : w1 = (.int i1) := Option.some.inj ei1
  obtain ⟨n, o, h1, h2, h3, _, L, rfl, ⟨rfl, N⟩, hq⟩ := lw_rm l s _ hw tables_1 i0 i1  s.heap s.heap.size  p e ha hc hk s m _ below hf ((Spec.applies_iff_loose hf).mp happ).1 ⟨rfl, State.Warmed39.refl s, rfl⟩ trivial
  refine ⟨n, _, h1, h2, h3, hpost _ _ _ _ _ _ ⟨Cond.after_iff.mpr rfl, Cond.after_iff.mpr (eq_i res_at (Term.int_eval (1)) (by rw [own_law])), trivial⟩ ⟨hq.1, hq.2.1, (hq.2.2.sift fun y hy => Or.inr (N y hy)).mono (by decide) (by decide)⟩⟩
theorem main_1_1 : Claimed_1_1 := comes_1 fun _ _ _ _ _ _ h hF => ⟨h.1, hF⟩
theorem main_1_2 : Claimed_1_2 := comes_1 fun _ _ _ _ _ _ h hF => ⟨h.2.1, hF⟩
end Jvm.Pilot.@@N@@
namespace Jvm.Pilot.@@N@@
open Jvm Jvm.ClassFile Sem Op Lib Jvm.Free Jvm.Stand Jvm.Pilot.@@N@@.Jvm.D
/-! MADE BY PROGRAM (witnessworld.py) out of the Statement's table words and the real class files: 9 classes; the members and pool entries that the words name. The judged class is class 1, her method 3. -/
namespace start1
open Jvm.ClassFile
def u (s : String) : CpInfo := .utf8 (stringToUtf16 s)
/-- a pool by its gaps: so many unusable entries, then the entry; so many at the end -/
def gap : Nat → List CpInfo → List CpInfo
  | 0, r => r
  | n + 1, r => .unusable :: gap n r
def poolList (es : List (Nat × CpInfo)) (last : Nat) : List CpInfo := es.foldr (fun e r => gap e.1 (e.2 :: r)) (gap last [])
def pool (es : List (Nat × CpInfo)) (last : Nat) : Array CpInfo := ⟨poolList es last⟩
def fileOf (pool : Array CpInfo) (this : Nat) (attrs : Array Attribute := #[]) (ms : Array MethodInfo := #[]) (fl : Nat := 33) (sup : Nat := 0) (ifs : Array Nat := #[]) (fds : Array FieldInfo := #[]) : ClassFile where
  minorVersion := 0
  majorVersion := 65
  constantPool := pool
  accessFlags := fl
  thisClass := this
  superClass := sup
  interfaces := ifs
  fields := fds
  methods := ms
  attributes := attrs
def plain (name : String) (sup : Option ClassId) : Class where
  name := name
  kind := .ordinary
  loader := none
  accessFlags := 33
  super := sup
  interfaces := #[]
  cf := none
  fields := #[]
  methods := #[]
  instanceTypes := #[]
  staticTypes := #[]
  resolved := #[]
  callSites := []
  init := .initialized
  statics := none
  mirror := none

def pool0 : Array CpInfo := pool [(5, u "<init>"), (0, u "()V"), (1, .class_ 10), (1, u "java/lang/Object")] 113

def k0m0 : Method := { name := "<init>", desc := "()V", sig := { parameters := [], returnType := none }, accessFlags := 1, code := none }
/-- java/lang/Object -/
def k0 : Class := { plain "java/lang/Object" none with
  accessFlags := 33
  interfaces := #[]
  cf := some (fileOf pool0 8 #[] #[{ accessFlags := 1, nameIndex := 5, descriptorIndex := 6, attributes := #[] }] 33 0 #[] #[])
  fields := #[]
  methods := #[k0m0]
  instanceTypes := #[]
  staticTypes := #[]
  resolved := Array.replicate 124 none
  statics := none }

def pool1 : Array CpInfo := pool [(2, .class_ 4), (1, u "java/lang/Object"), (0, u "<init>"), (0, u "()V"), (0, .class_ 8), (0, u "com/example/cairnstore/cairnstore/store/BlockDigests"), (0, .long 1048576), (1, .methodref 7 12), (0, .nameAndType 13 14), (0, u "recorded"), (0, u "(J)Z"), (0, .methodref 16 17), (0, .class_ 18), (0, .nameAndType 19 20), (0, u "com/example/cairnstore/cairnstore/store/BlockDigestsRecordedPinLaw"), (0, u "blocks"), (0, u "(J)J"), (2, .long 9223372036854775807), (1, .long 2), (1, .methodref 16 28), (0, .nameAndType 29 14), (0, u "agrees"), (3, u "law"), (0, u "(JI)Z")] 2

def k1m0 : Method := { name := "<init>", desc := "()V", sig := { parameters := [], returnType := none }, accessFlags := 1, code := none }
def k1c1 : Code := { maxStack := 4, maxLocals := 2, code := method_2_code, exceptionTable := #[], attributes := #[] }
def k1m1 : Method := { name := "blocks", desc := "(J)J", sig := { parameters := [.long], returnType := some .long }, accessFlags := 10, code := some k1c1 }
def k1c2 : Code := { maxStack := 5, maxLocals := 2, code := method_3_code, exceptionTable := #[], attributes := #[] }
def k1m2 : Method := { name := "agrees", desc := "(J)Z", sig := { parameters := [.long], returnType := some .boolean }, accessFlags := 10, code := some k1c2 }
def k1c3 : Code := { maxStack := 4, maxLocals := 13, code := code, exceptionTable := #[], attributes := #[] }
def k1m3 : Method := { name := "law", desc := "(JI)Z", sig := { parameters := [.long, .int], returnType := some .boolean }, accessFlags := 9, code := some k1c3 }
/-- com/example/cairnstore/cairnstore/store/BlockDigestsRecordedPinLaw -/
def k1 : Class := { plain "com/example/cairnstore/cairnstore/store/BlockDigestsRecordedPinLaw" (some 0) with
  accessFlags := 49
  interfaces := #[]
  cf := some (fileOf pool1 16 #[] #[{ accessFlags := 1, nameIndex := 5, descriptorIndex := 6, attributes := #[] }, { accessFlags := 10, nameIndex := 19, descriptorIndex := 20, attributes := #[] }, { accessFlags := 10, nameIndex := 29, descriptorIndex := 14, attributes := #[] }, { accessFlags := 9, nameIndex := 33, descriptorIndex := 34, attributes := #[] }] 49 2 #[] #[])
  fields := #[]
  methods := #[k1m0, k1m1, k1m2, k1m3]
  instanceTypes := #[]
  staticTypes := #[]
  resolved := Array.replicate 37 none
  statics := none }

def pool2 : Array CpInfo := pool [(2, .class_ 4), (1, u "java/lang/Object"), (3, .class_ 10), (1, u "com/example/cairnstore/cairnstore/store/BlockDigests"), (0, u "_info"), (0, u "Lcom/example/cairnstore/cairnstore/blob/BlobInfo;"), (2, u "_record"), (0, u "[B"), (2, u "_firstDigest"), (0, u "I"), (0, .long 1048576), (9, u "recorded"), (0, u "(J)Z"), (187, u "BLOCK_SIZE"), (2, u "HEADER"), (0, u "Ljava/lang/String;"), (2, u "DIGEST_LINE"), (17, .class_ 246), (0, u "com/example/cairnstore/cairnstore/store/BlockDigests$Hashing"), (0, .class_ 248), (0, u "com/example/cairnstore/cairnstore/store/BlockDigests$Hashing$Handed")] 25

def k2c0 : Code := { maxStack := 4, maxLocals := 2, code := prog_35_method_2_code, exceptionTable := #[], attributes := #[] }
def k2m0 : Method := { name := "recorded", desc := "(J)Z", sig := { parameters := [.long], returnType := some .boolean }, accessFlags := 8, code := some k2c0 }
/-- com/example/cairnstore/cairnstore/store/BlockDigests -/
def k2 : Class := { plain "com/example/cairnstore/cairnstore/store/BlockDigests" (some 0) with
  accessFlags := 48
  interfaces := #[]
  cf := some (fileOf pool2 8 #[.nestMembers #[245, 247]] #[{ accessFlags := 8, nameIndex := 31, descriptorIndex := 32, attributes := #[] }] 48 2 #[] #[{ accessFlags := 24, nameIndex := 220, descriptorIndex := 20, attributes := #[] }, { accessFlags := 24, nameIndex := 223, descriptorIndex := 224, attributes := #[] }, { accessFlags := 26, nameIndex := 227, descriptorIndex := 20, attributes := #[] }, { accessFlags := 18, nameIndex := 11, descriptorIndex := 12, attributes := #[] }, { accessFlags := 18, nameIndex := 15, descriptorIndex := 16, attributes := #[] }, { accessFlags := 18, nameIndex := 19, descriptorIndex := 20, attributes := #[] }])
  fields := #[{ name := "BLOCK_SIZE", type := .int, accessFlags := 24, slot := 0, constantValue := 0 }, { name := "HEADER", type := (.object "java/lang/String"), accessFlags := 24, slot := 1, constantValue := 0 }, { name := "DIGEST_LINE", type := .int, accessFlags := 26, slot := 2, constantValue := 0 }, { name := "_info", type := (.object "com/example/cairnstore/cairnstore/blob/BlobInfo"), accessFlags := 18, slot := 0, constantValue := 0 }, { name := "_record", type := (.array .byte), accessFlags := 18, slot := 1, constantValue := 0 }, { name := "_firstDigest", type := .int, accessFlags := 18, slot := 2, constantValue := 0 }]
  methods := #[k2m0]
  instanceTypes := #[(.object "com/example/cairnstore/cairnstore/blob/BlobInfo"), (.array .byte), .int]
  staticTypes := #[.int, (.object "java/lang/String"), .int]
  resolved := Array.replicate 274 none
  statics := none }

def pool3 : Array CpInfo := pool [(1, u "java/lang/Cloneable"), (0, .class_ 1), (0, u "java/lang/Object"), (0, .class_ 3)] 3

/-- java/lang/Cloneable -/
def k3 : Class := { plain "java/lang/Cloneable" (some 0) with
  accessFlags := 1537
  interfaces := #[]
  cf := some (fileOf pool3 2 #[] #[] 1537 4 #[] #[])
  fields := #[]
  methods := #[]
  instanceTypes := #[]
  staticTypes := #[]
  resolved := Array.replicate 8 none
  statics := none }

def pool4 : Array CpInfo := pool [(1, u "java/io/Serializable"), (0, .class_ 1), (0, u "java/lang/Object"), (0, .class_ 3)] 3

/-- java/io/Serializable -/
def k4 : Class := { plain "java/io/Serializable" (some 0) with
  accessFlags := 1537
  interfaces := #[]
  cf := some (fileOf pool4 2 #[] #[] 1537 4 #[] #[])
  fields := #[]
  methods := #[]
  instanceTypes := #[]
  staticTypes := #[]
  resolved := Array.replicate 8 none
  statics := none }

/-- the primitive byte -/
def k5 : Class := { plain "byte" none with kind := .primitive 'B', accessFlags := 0x411 }
/-- [B -/
def k6 : Class := { plain "[B" (some 0) with kind := .array 5 .byte, interfaces := #[3, 4], accessFlags := 1041 }

/-- the primitive int -/
def k7 : Class := { plain "int" none with kind := .primitive 'I', accessFlags := 0x411 }
/-- [I -/
def k8 : Class := { plain "[I" (some 0) with kind := .array 7 .int, interfaces := #[3, 4], accessFlags := 1041 }

def heap : Heap := #[]
def classes : Array Class := #[k0, k1, k2, k3, k4, k5, k6, k7, k8]
def interned : List (Array UInt16 × Addr) := []
def slotsUsed : Nat := 0
def theMethod : MethodId := ⟨1, 3⟩
def args0 : Array Value := #[.long 5, .int 3]
def aboutOver (below : List Frame) : State where
  vm := { classes := classes, interned := interned.toArray }
  heap := heap
  slotsUsed := slotsUsed
  threads := #[{ frames := .invoking theMethod args0 :: below }]
def below0 : List Frame := [.native { method := ⟨0, 0⟩, args := #[] }]
def about1 : State := aboutOver below0
def p0 : Program := .bare "" "" ""
def e0 : Env := launch0.env 0 0 0
theorem w_frames : about1.frames = Frame.invoking theMethod args0 :: below0 := rfl
set_option maxRecDepth 65536 in
theorem w_args : argsFit about1.vm theMethod args0 = true := by decide +kernel
set_option maxRecDepth 65536 in
theorem w_heap : heapFits about1 = true := by decide +kernel
set_option maxRecDepth 65536 in
theorem w_runnable : about1.curStatus? = some .runnable := by decide +kernel
set_option maxRecDepth 65536 in
theorem w_alone : about1.alone = true := by decide +kernel
set_option maxRecDepth 65536 in
theorem w_named : about1.methodNamed? x = some theMethod := by decide +kernel
set_option maxRecDepth 65536 in
theorem w_hears : about1.hears theMethod below0 = true := by decide +kernel
set_option maxRecDepth 65536 in
theorem w_ripe : about1.ripe theMethod args0 below0 = true := by decide +kernel
theorem w_running : about1.status = .running := rfl
set_option maxRecDepth 65536 in
theorem w_room : about1.hasRoom e0.platform room_1 = true :=
  launch0.hasRoom_least _ room_1 (by decide +kernel) (by decide +kernel) (by decide +kernel) (by decide +kernel) (by decide +kernel) (by decide +kernel)
theorem allAtoms_all (ts : List Jvm.Cond) (a : Array Jvm.Value) (st : Jvm.State) : (allAtoms ts).before a st = ts.all (fun c => c.before a st) := by
  induction ts with
  | nil => rfl
  | cons c t ih =>
    show (Jvm.Cond.and c (allAtoms t)).before a st = _
    rw [Jvm.Cond.before_and, ih, List.all_cons]
def words1 : List Jvm.Cond := Jvm.Cond.code x code maxLocals ret :: tables_1
/-- a 'code' word, met by the world's own term for the bytes: nothing is compared byte by byte -/
theorem code_word {y : MethodName} {bytes : ByteArray} {mx : Nat} {rt : Option FieldType} {a : Array Value} {s : State} {m : MethodId} {meth : Method} {c : Code} (h1 : s.methodNamed? y = some m) (h2 : s.vm.method? m = some meth) (h3 : meth.code = some c) (h4 : c.code = bytes)
    (h5 : (c.maxLocals == mx && c.exceptionTable.isEmpty && decide (c.maxStack ≤ mostOperands) && decide (meth.sig.returnType = rt) && !meth.locks && decide (parseMethodDescriptor y.desc = some meth.sig)) = true) : (Jvm.Cond.code y bytes mx rt).before a s = true := by
  simp only [Bool.and_eq_true, beq_iff_eq, Bool.not_eq_true', decide_eq_true_eq] at h5
  obtain ⟨⟨⟨⟨⟨g1, g2⟩, g3⟩, g4⟩, g5⟩, g6⟩ := h5
  simp [Cond.before, Cond.holds, Cond.value, h1, h2, h3, h4, g1, g2, g3, g4, g5, g6]
def isCode : Jvm.Cond → Bool
  | .code _ _ _ _ => true
  | _ => false
theorem all_split {L : List Jvm.Cond} {P : Jvm.Cond → Bool} (h1 : L.all (fun c => isCode c || P c) = true) (h2 : ∀ c ∈ L.filter isCode, P c = true) : L.all P = true := by
  refine List.all_eq_true.mpr fun c hc => ?_
  have h := List.all_eq_true.mp h1 c hc
  rcases Bool.eq_false_or_eq_true (isCode c) with hi | hi
  · exact h2 c (List.mem_filter.mpr ⟨hc, hi⟩)
  · simpa [hi] using h
set_option maxRecDepth 65536 in
theorem w_c0 : (Jvm.Cond.code x code maxLocals ret).before args0 about1 = true := code_word (m := ⟨1, 3⟩) (meth := k1m3) (c := k1c3) (by decide +kernel) rfl rfl rfl (by decide +kernel)
set_option maxRecDepth 65536 in
theorem w_c1 : (Jvm.Cond.code ({ cls := "com/example/cairnstore/cairnstore/store/BlockDigestsRecordedPinLaw", name := "agrees", desc := "(J)Z" } : Jvm.MethodName) method_3_code (2 : Nat) (Option.some Jvm.ClassFile.FieldType.boolean)).before args0 about1 = true := code_word (m := ⟨1, 2⟩) (meth := k1m2) (c := k1c2) (by decide +kernel) rfl rfl rfl (by decide +kernel)
set_option maxRecDepth 65536 in
theorem w_c2 : (Jvm.Cond.code ({ cls := "com/example/cairnstore/cairnstore/store/BlockDigests", name := "recorded", desc := "(J)Z" } : Jvm.MethodName) prog_35_method_2_code (2 : Nat) (Option.some Jvm.ClassFile.FieldType.boolean)).before args0 about1 = true := code_word (m := ⟨2, 0⟩) (meth := k2m0) (c := k2c0) (by decide +kernel) rfl rfl rfl (by decide +kernel)
set_option maxRecDepth 65536 in
theorem w_c3 : (Jvm.Cond.code ({ cls := "com/example/cairnstore/cairnstore/store/BlockDigestsRecordedPinLaw", name := "blocks", desc := "(J)J" } : Jvm.MethodName) method_2_code (2 : Nat) (Option.some Jvm.ClassFile.FieldType.long)).before args0 about1 = true := code_word (m := ⟨1, 1⟩) (meth := k1m1) (c := k1c1) (by decide +kernel) rfl rfl rfl (by decide +kernel)
def codes1 : List Jvm.Cond := [Jvm.Cond.code x code maxLocals ret, Jvm.Cond.code ({ cls := "com/example/cairnstore/cairnstore/store/BlockDigestsRecordedPinLaw", name := "agrees", desc := "(J)Z" } : Jvm.MethodName) method_3_code (2 : Nat) (Option.some Jvm.ClassFile.FieldType.boolean), Jvm.Cond.code ({ cls := "com/example/cairnstore/cairnstore/store/BlockDigests", name := "recorded", desc := "(J)Z" } : Jvm.MethodName) prog_35_method_2_code (2 : Nat) (Option.some Jvm.ClassFile.FieldType.boolean), Jvm.Cond.code ({ cls := "com/example/cairnstore/cairnstore/store/BlockDigestsRecordedPinLaw", name := "blocks", desc := "(J)J" } : Jvm.MethodName) method_2_code (2 : Nat) (Option.some Jvm.ClassFile.FieldType.long)]
set_option maxRecDepth 65536 in
theorem codes_eq : words1.filter isCode = codes1 := rfl
theorem w_codes : ∀ c ∈ words1.filter isCode, c.before args0 about1 = true := by
  rw [codes_eq]
  intro c hc
  simp only [codes1, List.mem_cons, List.not_mem_nil, or_false] at hc
  rcases hc with rfl | rfl | rfl | rfl
  · exact w_c0
  · exact w_c1
  · exact w_c2
  · exact w_c3
set_option maxRecDepth 65536 in
theorem w_t1 : words1.all (fun c => isCode c || c.before args0 about1) = true := by decide +kernel
theorem w_tables : (allAtoms (Jvm.Cond.code x code maxLocals ret :: tables_1)).before args0 about1 = true := by
  rw [allAtoms_all]
  show words1.all (fun c => c.before args0 about1) = true
  refine all_split ?_ w_codes
  rw [w_t1]
set_option maxRecDepth 65536 in
theorem w_case : (Jvm.Cond.and given_1 narrow_1).before args0 about1 = true := by decide +kernel
theorem w_applies : (headSpec (Jvm.Cond.code x code maxLocals ret :: tables_1) room_1).applies x e0.platform about1 = true :=
  (Spec.applies_iff w_frames).mpr ⟨w_running, w_runnable, w_alone, w_named, w_hears, w_ripe, w_room, w_tables⟩
theorem atStart : AtStart classFile x code maxLocals ret World_1 tables_1 room_1 Calls_1 rest_1 Pre_1 launch0 p0 e0 about1 theMethod args0 below0 :=
  ⟨lists_1, trivial, launch0.admits_env _ _ _, launch0.least_env, fairChoices_fair.cas, fairChoices_fair.clock, w_frames, w_args, w_heap, w_applies, trivial, trivial, w_case⟩
end start1
theorem witness_1 : WitnessClaimed_1 := ⟨start1.p0, start1.e0, start1.about1, start1.theMethod, start1.args0, start1.below0, start1.atStart⟩
end Jvm.Pilot.@@N@@
