import JvmDerived
import JvmDerived.Pilot.@@N@@Statement
import JvmDerived.Pilot.@@N@@Code
set_option linter.unusedVariables false
set_option linter.unusedSimpArgs false

namespace Jvm.Pilot.@@N@@
open Jvm Jvm.ClassFile Sem Op Lib Jvm.Free Jvm.Stand Jvm.LawKit Jvm.RoadKit Bundle Jvm.Pilot.@@N@@.Jvm.D
/-! own layer: 'from here the run ends, and Q holds of what it leaves' (own_Dn), stepped backwards -/
def own_Dn (p : Program) (e : Env) (below : List Frame) (s : State) (Q : Option Value → Heap → List Loc → Prop) (K N : Nat) (A : State) : Prop :=
  ∃ s₂ o, Steps p.tables e below A s₂ ∧ s₂.status = .running ∧ Ended s₂ below o ∧ ∃ v L, o = .returned v ∧ Q v s₂.heap L ∧ FrameEnd s o s₂ L K N
def own_Q (r : Option Value) (n0 : Nat) (h0 : Heap) (v : Option Value) (h : Heap) (L : List Loc) : Prop := v = r ∧ Fr n0 L ∧ h = h0
def own_QL (r : Option Value) (n0 : Nat) (v : Option Value) (h : Heap) (L : List Loc) : Prop := v = r ∧ Fr n0 L
def own_Cx (p : Program) (s : State) (m : MethodId) (meth : Method) (c : Code) (Z : State) (a0 : Array Value) (bytes : ByteArray) (ml : Nat) (own nm : String) (ret : Option FieldType) : Prop :=
  p.tables.exec = Jvm.exec ∧ Z.Warmed39 s.vm ∧ (∀ d ∈ tables_1, d.before a0 Z = true) ∧ c.code = bytes ∧ c.maxLocals = ml ∧ s.vm.findClass own = some m.cls ∧ meth.sig.returnType = ret ∧ meth.locks = false ∧ meth.name = nm
theorem own_st {p : Program} {e : Env} {below : List Frame} {s : State} {Q : Option Value → Heap → List Loc → Prop} {K N : Nat} {A B : State} (k : ∀ t, Steps p.tables e below B t → Steps p.tables e below A t) (d : own_Dn p e below s Q K N B) : own_Dn p e below s Q K N A := by
  obtain ⟨s₂, o, h, r⟩ := d
  exact ⟨s₂, o, k _ h, r⟩
theorem own_tr {p : Program} {e : Env} {below : List Frame} {s : State} {Q : Option Value → Heap → List Loc → Prop} {K N : Nat} {A B : State} (k : Steps p.tables e below A B) (d : own_Dn p e below s Q K N B) : own_Dn p e below s Q K N A :=
  own_st (fun _ h => k.trans h) d
theorem own_cat {v : Value} (h : v.isRef = true) : v.category = 1 := by
  cases v <;> first | rfl | (simp [Value.isRef] at h)
section own
variable {p : Program} {l : Launch} {e : Env} {R : Room} {s : State} {m : MethodId} {args : Array Value} {below : List Frame} {meth : Method} {c : Code} {T : State} {locs : List Loc} {cells slots : Nat} {Q : Option Value → Heap → List Loc → Prop} {K N : Nat}
theorem own_ret (X : Stand p l e R s m args below meth c T locs cells slots) (hlk : meth.locks = false) {v : Option Value} (hv : meth.sig.returnType = none → v = none) {A : State} (hK : cells ≤ K) (hN : slots ≤ N) (hq : Q v T.heap locs)
    (hst : ∀ fs, (∀ (f : JFrame) (acts : List Action), f.method = m → f.locked = none → f.entered = [] → (doReturn e (T.setTop f) acts v).1 = T.setFrames fs) → Steps p.tables e below A (T.setFrames fs)) : own_Dn p e below s Q K N A := by
  obtain ⟨fs, hr, hrun, hended, hW, hsame⟩ := X.leave (v := v) hv hlk
  exact ⟨_, _, hst fs hr, hrun, hended, _, _, rfl, hq, ⟨_, rfl⟩, hW, hsame.mono hK hN⟩
theorem own_retI (X : Stand p l e R s m args below meth c T locs cells slots) (hx : p.tables.exec = Jvm.exec) (hret : meth.sig.returnType = some .int) (hlk : meth.locks = false) {pc : Nat} {Ls : Array Slot} {z : Int32} {rest : List Value} (hd : decode c.code pc = .ok (.ireturn, 1)) (hK : cells ≤ K) (hN : slots ≤ N)
    (hq : Q (some (.int z)) T.heap locs) : own_Dn p e below s Q K N (T.setTop (mkF m pc Ls (.int z :: rest))) :=
  own_ret X hlk (fun h => by rw [hret] at h; cases h) hK hN hq (fun fs hr => retOut X hx hret rfl (Or.inl ⟨rfl, Or.inl rfl, _, rfl⟩) hd hr)
theorem own_retJ (X : Stand p l e R s m args below meth c T locs cells slots) (hx : p.tables.exec = Jvm.exec) (hret : meth.sig.returnType = some .long) (hlk : meth.locks = false) {pc : Nat} {Ls : Array Slot} {z : Int64} {rest : List Value} (hd : decode c.code pc = .ok (.lreturn, 1)) (hK : cells ≤ K) (hN : slots ≤ N)
    (hq : Q (some (.long z)) T.heap locs) : own_Dn p e below s Q K N (T.setTop (mkF m pc Ls (.long z :: rest))) :=
  own_ret X hlk (fun h => by rw [hret] at h; cases h) hK hN hq (fun fs hr => retOut X hx hret rfl (Or.inr (Or.inl ⟨rfl, rfl, _, rfl⟩)) hd hr)
theorem own_retZ (X : Stand p l e R s m args below meth c T locs cells slots) (hx : p.tables.exec = Jvm.exec) (hret : meth.sig.returnType = some .boolean) (hlk : meth.locks = false) {pc : Nat} {Ls : Array Slot} {z : Int32} {rest : List Value} (hz : z &&& 1 = z) (hd : decode c.code pc = .ok (.ireturn, 1)) (hK : cells ≤ K) (hN : slots ≤ N)
    (hq : Q (some (.int z)) T.heap locs) : own_Dn p e below s Q K N (T.setTop (mkF m pc Ls (.int z :: rest))) :=
  own_ret X hlk (fun h => by rw [hret] at h; cases h) hK hN hq (fun fs hr => retOut X hx (w := .int z) hret (show Value.int (z &&& 1) = .int z from congrArg Value.int hz) (Or.inl ⟨rfl, Or.inr (Or.inl rfl), _, rfl⟩) hd hr)
theorem own_retV (X : Stand p l e R s m args below meth c T locs cells slots) (hx : p.tables.exec = Jvm.exec) (hret : meth.sig.returnType = none) (hlk : meth.locks = false) {pc : Nat} {Ls : Array Slot} (hd : decode c.code pc = .ok (.return_, 1)) (hK : cells ≤ K) (hN : slots ≤ N)
    (hq : Q none T.heap locs) : own_Dn p e below s Q K N (T.setTop (mkF m pc Ls [])) :=
  own_ret X hlk (fun _ => rfl) hK hN hq (fun fs hr => X.returnOut hx hret hd hr)
theorem own_retA (X : Stand p l e R s m args below meth c T locs cells slots) (hx : p.tables.exec = Jvm.exec) {t : FieldType} (ht : t.isReference = true) (hret : meth.sig.returnType = some t) (hlk : meth.locks = false) {pc : Nat} {Ls : Array Slot} {w : Value} {rest : List Value} (hw : w.isRef = true) (hn : narrow t w = w) (hd : decode c.code pc = .ok (.areturn, 1)) (hK : cells ≤ K) (hN : slots ≤ N)
    (hq : Q (some w) T.heap locs) : own_Dn p e below s Q K N (T.setTop (mkF m pc Ls (w :: rest))) :=
  own_ret X hlk (fun h => by rw [hret] at h; cases h) hK hN hq (fun fs hr => retOut X hx hret hn (Or.inr (Or.inr (Or.inr (Or.inr ⟨rfl, ht, hw⟩)))) hd hr)
end own
theorem own_met {l : Launch} {Z : State} {a0 : Array Value} (hw : ∀ d ∈ tables_1, d.before a0 Z = true) {y : MethodName} {bytes : ByteArray} {ml : Nat} {ret : Option FieldType} {ws : List Jvm.Cond} {rm : Room} {as' : Array Value} {h0 : Heap} {Q : Option Value → Heap → List Loc → Prop} (hpl : plainFor y = true)
    (body : ∀ p e s m below meth c s₁, own_Cx p s m meth c Z a0 bytes ml y.cls y.name ret → Stand p l e rm s m as' below meth c s₁ [] 0 0 → s₁.heap = h0 → own_Dn p e below s Q rm.cells rm.slots (s₁.setTop (entryFrame m as' ml))) :
    MetFree l y (head1 (Jvm.Cond.code y bytes ml ret :: ws) rm) (fun a U => a = as' ∧ Z.Warmed39 U.vm ∧ U.heap = h0) (fun _ _ _ _ _ => True) (fun _ U o U' => ∃ v L, o = .returned v ∧ Q v U'.heap L ∧ FrameEnd U o U' L rm.cells rm.slots) := by
  refine MetFree.of_bodySF hpl hisR ?_
  intro p e s m args below meth c s₁ Bd hml0 hP hK
  obtain ⟨rfl, hZ, hh⟩ := hP
  exact body p e s m below meth c s₁ ⟨Bd.exec, hZ, hw, Bd.bytes, hml0, findClass_of_methodNamed Bd.named, Bd.returns, BodyLoose.notSynchronized Bd, (name_of_methodNamed Bd.named Bd.method).1⟩ (Stand.of_body Bd) (by rw [← hh, Bd.state]; rfl)
theorem own_jtlt {x y : Int64} (h : x < y) : ifCond.holds .lt (lcmpW x y) = true ∧ ifCond.holds .ge (lcmpW x y) = false ∧ ifCond.holds .gt (lcmpW y x) = true ∧ ifCond.holds .le (lcmpW y x) = false := by
  have h1 : lcmpW x y < 0 := by rw [lcW]; exact (lc_lt x y).mpr h
  have h2 : 0 < lcmpW y x := by rw [lcW]; exact (lc_gt y x).mpr h
  exact ⟨(if0 _ _).trans (tlt h1).1, (if0 _ _).trans (tlt h1).2.1, (if0 _ _).trans (tlt h2).2.2.1, (if0 _ _).trans (tlt h2).2.2.2⟩
theorem own_jflt {x y : Int64} (h : ¬ x < y) : ifCond.holds .lt (lcmpW x y) = false ∧ ifCond.holds .ge (lcmpW x y) = true ∧ ifCond.holds .gt (lcmpW y x) = false ∧ ifCond.holds .le (lcmpW y x) = true := by
  have h1 : ¬ lcmpW x y < 0 := by rw [lcW]; exact fun q => h ((lc_lt x y).mp q)
  have h2 : ¬ 0 < lcmpW y x := by rw [lcW]; exact fun q => h ((lc_gt y x).mp q)
  exact ⟨(if0 _ _).trans (flt h1).1, (if0 _ _).trans (flt h1).2.1, (if0 _ _).trans (flt h2).2.2.1, (if0 _ _).trans (flt h2).2.2.2⟩
theorem own_jteq {x y : Int64} (h : x = y) : ifCond.holds .eq (lcmpW x y) = true ∧ ifCond.holds .ne (lcmpW x y) = false := by
  have h1 : lcmpW x y = 0 := by rw [lcW]; exact (lc_eq x y).mpr h
  exact ⟨(if0 _ _).trans (teq h1).1, (if0 _ _).trans (teq h1).2⟩
theorem own_jfeq {x y : Int64} (h : ¬ x = y) : ifCond.holds .eq (lcmpW x y) = false ∧ ifCond.holds .ne (lcmpW x y) = true := by
  have h1 : ¬ lcmpW x y = 0 := by rw [lcW]; exact fun q => h ((lc_eq x y).mp q)
  exact ⟨(if0 _ _).trans (feq h1).1, (if0 _ _).trans (feq h1).2⟩
theorem own_miss (a : Int32) (ks : List Int32) (h : ∀ k ∈ ks, ¬ a = k) {ps : List (Int × Int)} (e : ps.map (·.1) = ks.map Int32.toInt) : ∀ p ∈ ps, p.1 ≠ a.toInt := by
  intro p hp q
  have h1 : p.1 ∈ ps.map (·.1) := List.mem_map.mpr ⟨p, hp, rfl⟩
  rw [e] at h1
  obtain ⟨k, hk, r⟩ := List.mem_map.mp h1
  exact h k hk (Int32.toInt_inj.mp (q.symm.trans r.symm))
theorem own_Sta_keep {Z : State} {h h' : Heap} {C n d : String} {v : Value} {a : Addr} {C' : String} (F : Sta Z h C n d v) (K : Keep h h' [a]) (E : Exa Z h a C') : Sta Z h' C n d v := by
  obtain ⟨cf, i, k, f, st, cell, h1, h2, h3, h4, h5, h6, h7⟩ := F
  obtain ⟨cl, k', e1, -, -, e4, -⟩ := E
  refine ⟨cf, i, k, f, st, cell, h1, h2, h3, h4, K.2.1 _ _ h5 (ninS (fun q => ?_) nin0), h6, h7⟩
  subst q
  cases h5.symm.trans e1
  rw [h6] at e4; cases e4
theorem own_Sta_keep0 {Z : State} {h h' : Heap} {C n d : String} {v : Value} (F : Sta Z h C n d v) (K : Keep h h' []) : Sta Z h' C n d v := by
  obtain ⟨cf, i, k, f, st, cell, h1, h2, h3, h4, h5, h6, h7⟩ := F
  exact ⟨cf, i, k, f, st, cell, h1, h2, h3, h4, K.2.1 _ _ h5 nin0, h6, h7⟩
theorem own_ne_or {r x : Addr} {ws : List Addr} {H : Heap} (h : r ∈ ws ∨ H.size ≤ r) (hl : x < H.size) (hn : x ∉ ws) : x ≠ r := fun e => h.elim (fun q => hn (e ▸ q)) (fun q => Nat.lt_irrefl _ (Nat.lt_of_lt_of_le (e ▸ hl) q))
theorem own_or_up {r : Addr} {ws ws' : List Addr} {h0 H : Heap} (h : r ∈ ws ∨ H.size ≤ r) (hk : h0.size ≤ H.size) (all : ∀ x ∈ ws, x ∈ ws' ∨ h0.size ≤ x) : r ∈ ws' ∨ h0.size ≤ r := h.elim (all r) (fun q => Or.inr (Nat.le_trans hk q))
theorem own_selp {Z s : State} {a0 args : Array Value} {y : MethodName} {n : Nat} (hZ : Z.Warmed39 s.vm) (w1 : (Cond.instantiable y.cls n).before a0 Z = true) (w2 : (Cond.instanceMethod y).before a0 Z = true) (w3 : (Cond.privateMethod y).before a0 Z = true) (hy : y.cls ≠ "java/lang/invoke/MethodHandle" ∧ y.cls ≠ "java/lang/invoke/VarHandle") : (Cond.selects y.cls y y).before args s = true := by
  have i1 : (Cond.instantiable y.cls n).before args s = true := mvT hZ w1
  obtain ⟨c, k, h1, h2, -, h4, -, -⟩ := Cond.instantiable_spec i1
  have h5 : k.isInterface = false := by
    cases hk : k.isInterface
    · rfl
    · rw [hk] at h4; simp at h4
  exact selects_self_of_private h1 h2 h5 (Cond.privateMethod_at (mvP hZ w3 (args := args))) (mvT hZ w2) hy

theorem own_pd0 : parseMethodDescriptor "()V" = some ⟨[], none⟩ := by decide +kernel
theorem own_pd1 : parseMethodDescriptor "(JJ)J" = some ⟨[.long, .long], some .long⟩ := by decide +kernel
theorem own_pd2 : parseMethodDescriptor "(J)V" = some ⟨[.long], none⟩ := by decide +kernel
theorem own_pd3 : parseMethodDescriptor "()J" = some ⟨[], some .long⟩ := by decide +kernel
theorem own_pd4 : parseMethodDescriptor "(I)Z" = some ⟨[.int], some .boolean⟩ := by decide +kernel
theorem mx_d0 : decode jdk_29_method_66_code 0 = .ok (.lload_n 0, 1) := by decide +kernel
theorem mx_d1 : decode jdk_29_method_66_code 1 = .ok (.lload_n 2, 1) := by decide +kernel
theorem mx_d2 : decode jdk_29_method_66_code 2 = .ok (.lcmp, 1) := by decide +kernel
theorem mx_d3 : decode jdk_29_method_66_code 3 = .ok (.ifCond .lt 7, 3) := by decide +kernel
theorem mx_d6 : decode jdk_29_method_66_code 6 = .ok (.lload_n 0, 1) := by decide +kernel
theorem mx_d7 : decode jdk_29_method_66_code 7 = .ok (.goto 4, 3) := by decide +kernel
theorem mx_d10 : decode jdk_29_method_66_code 10 = .ok (.lload_n 2, 1) := by decide +kernel
theorem mx_d11 : decode jdk_29_method_66_code 11 = .ok (.lreturn, 1) := by decide +kernel
def mx_f (q0 : Int64) (q1 : Int64)  : Int64 :=
  if q0 < q1 then
    q1
  else
    q0
set_option maxRecDepth 65536 in
set_option maxHeartbeats 40000000 in
theorem mx_c0 {l : Launch} {Z : State} {a0 : Array Value} {q0 : Int64} {q1 : Int64} {h0 : Heap} {n0 : Nat} {p : Program} {e : Env} {s : State} {m : MethodId} {args : Array Value} {below : List Frame} {meth : Method} {c : Code} {T0 : State} {locs : List Loc} {r0 : Int64} (C0 : own_Cx p s m meth c Z a0 jdk_29_method_66_code 4 "java/lang/Math" "max" (some .long)) (X0 : Stand p l e ({ frames := 0, cells := 0, slots := 0, locals := 0 } : Room) s m args below meth c T0 locs 0 0) (e0 : T0.heap = h0) (N0 : Fr n0 locs)  (hr0 : r0 = mx_f q0 q1 ) :
    own_Dn p e below s (own_Q (some (.long r0)) n0 h0) ({ frames := 0, cells := 0, slots := 0, locals := 0 } : Room).cells ({ frames := 0, cells := 0, slots := 0, locals := 0 } : Room).slots (T0.setTop (mkF m 0 #[.val (.long q0), .second, .val (.long q1), .second] [])) := by
  obtain ⟨hx, hZ, hw, hby, hml, hown, hret, hlk, hnm⟩ := id C0
  refine own_st (fun _ k => XS.lloadN X0.here hx rfl (hb hby mx_d0) rfl (XS.lloadN X0.here hx rfl (hb hby mx_d1) rfl (XS.lcmp X0.here hx rfl (hb hby mx_d2) rfl k))) ?_
  show own_Dn p e below s _ _ _ (T0.setTop (mkF m 3 #[.val (.long q0), .second, .val (.long q1), .second] [(.int (lcmpW q0 q1))]))
  by_cases hc2 : q0 < q1
  · refine own_st (fun _ k => XS.ifYes X0.here hx rfl (pc0 := 3) (pc' := 10) rfl (hb hby mx_d3) rfl (own_jtlt hc2).1 (by decide) (by decide) k) ?_
    show own_Dn p e below s _ _ _ (T0.setTop (mkF m 10 #[.val (.long q0), .second, .val (.long q1), .second] []))
    refine own_st (fun _ k => XS.lloadN X0.here hx rfl (hb hby mx_d10) rfl k) ?_
    show own_Dn p e below s _ _ _ (T0.setTop (mkF m 11 #[.val (.long q0), .second, .val (.long q1), .second] [(.long q1)]))
    exact own_retJ X0 hx hret hlk (hb hby mx_d11) (by decide) (by decide) ⟨(by rw [hr0, mx_f, if_pos hc2]), N0, e0⟩
  · refine own_st (fun _ k => XS.ifNo X0.here hx rfl (hb hby mx_d3) rfl (own_jflt hc2).1 k) ?_
    show own_Dn p e below s _ _ _ (T0.setTop (mkF m 6 #[.val (.long q0), .second, .val (.long q1), .second] []))
    refine own_st (fun _ k => XS.lloadN X0.here hx rfl (hb hby mx_d6) rfl (XS.goto X0.here hx rfl (pc0 := 7) (pc' := 11) rfl (hb hby mx_d7) (by decide) (by decide) k)) ?_
    show own_Dn p e below s _ _ _ (T0.setTop (mkF m 11 #[.val (.long q0), .second, .val (.long q1), .second] [(.long q0)]))
    exact own_retJ X0 hx hret hlk (hb hby mx_d11) (by decide) (by decide) ⟨(by rw [hr0, mx_f, if_neg hc2]), N0, e0⟩
theorem mx_ef (m : MethodId) (q0 : Int64) (q1 : Int64) : entryFrame m #[(.long q0), (.long q1)] 4 = mkF m 0 #[.val (.long q0), .second, .val (.long q1), .second] [] := by first | (simp [entryFrame, mkF, argsToLocals, Value.category]; done) | rfl
theorem mx_rm (l : Launch) (Z : State) (a0 : Array Value) (hw : ∀ d ∈ tables_1, d.before a0 Z = true) (ws : List Jvm.Cond) (q0 : Int64) (q1 : Int64) (h0 : Heap) (n0 : Nat) :
    MetFree l (⟨"java/lang/Math", "max", "(JJ)J"⟩ : MethodName) (head1 (Jvm.Cond.code (⟨"java/lang/Math", "max", "(JJ)J"⟩ : MethodName) jdk_29_method_66_code 4 (some .long) :: ws) ({ frames := 0, cells := 0, slots := 0, locals := 0 } : Room)) (fun a U => a = #[(.long q0), (.long q1)] ∧ Z.Warmed39 U.vm ∧ U.heap = h0) (fun _ _ _ _ _ => True) (fun _ U o U' => ∃ v L, o = .returned v ∧ (own_Q (some (.long (mx_f q0 q1))) n0 h0) v U'.heap L ∧ FrameEnd U o U' L ({ frames := 0, cells := 0, slots := 0, locals := 0 } : Room).cells ({ frames := 0, cells := 0, slots := 0, locals := 0 } : Room).slots) :=
  own_met hw (Jvm.Free.JP.mathPlain rfl (by decide +kernel)) (fun p e s m below meth c T0 C0 X0 e0 => own_st (fun _ k => castTop (mx_ef m q0 q1) k) (mx_c0 C0 X0 e0 (Fr.nil n0) rfl))
theorem own_mx1 (q : Int64) : ¬ (mx_f (1 : Int64) q < (1 : Int64)) := by
  simp only [mx_f]
  split
  · rename_i h
    rw [Int64.lt_iff_toInt_lt] at h ⊢
    omega
  · decide
theorem ac_d0 : decode jdk_22_method_1_code 0 = .ok (.aload_n 0, 1) := by decide +kernel
theorem ac_d1 : decode jdk_22_method_1_code 1 = .ok (.invokespecial 1, 3) := by decide +kernel
theorem ac_d4 : decode jdk_22_method_1_code 4 = .ok (.return_, 1) := by decide +kernel
set_option maxRecDepth 65536 in
set_option maxHeartbeats 40000000 in
theorem ac_c0 {l : Launch} {Z : State} {a0 : Array Value} {b0 : Addr} {h0 : Heap} {n0 : Nat} {p : Program} {e : Env} {s : State} {m : MethodId} {args : Array Value} {below : List Frame} {meth : Method} {c : Code} {T0 : State} {locs : List Loc} (C0 : own_Cx p s m meth c Z a0 jdk_22_method_1_code 1 "java/util/AbstractCollection" "<init>" none) (X0 : Stand p l e ({ frames := 1, cells := 0, slots := 0, locals := 12 } : Room) s m args below meth c T0 locs 0 0) (e0 : T0.heap = h0) (N0 : Fr n0 locs)  (Z0 : n0 ≤ h0.size) :
    own_Dn p e below s (own_Q none n0 h0) ({ frames := 1, cells := 0, slots := 0, locals := 12 } : Room).cells ({ frames := 1, cells := 0, slots := 0, locals := 12 } : Room).slots (T0.setTop (mkF m 0 #[.val (.ref b0)] [])) := by
  obtain ⟨hx, hZ, hw, hby, hml, hown, hret, hlk, hnm⟩ := id C0
  refine own_st (fun _ k => XS.aloadN X0.here hx rfl (hb hby ac_d0) rfl rfl k) ?_
  show own_Dn p e below s _ _ _ (T0.setTop (mkF m 1 #[.val (.ref b0)] [(.ref b0)]))
  obtain ⟨T2, X2, e2, st2⟩ := initO X0 hx hZ hown (hw _ (List.mem_of_getElem? (i := 27) rfl)) (hw _ (List.mem_of_getElem? (i := 13) rfl)) (hw _ (List.mem_of_getElem? (i := 14) rfl)) e0 (g := (mkF m 1 #[.val (.ref b0)] [(.ref b0)])) rfl (by rw [hml]; rfl) rfl (hb hby ac_d1) (by decide) (W := 0) (by show 2 * 0 + _ ≤ _; exact Nat.le_of_eq rfl) (by decide)
  refine own_st st2 ?_
  show own_Dn p e below s _ _ _ (T2.setTop (mkF m 4 #[.val (.ref b0)] []))
  exact own_retV X2 hx hret hlk (hb hby ac_d4) (by decide) (by decide) ⟨rfl, N0, e2⟩
theorem ac_ef (m : MethodId) (b0 : Addr) : entryFrame m #[(.ref b0)] 1 = mkF m 0 #[.val (.ref b0)] [] := by first | (simp [entryFrame, mkF, argsToLocals, Value.category]; done) | rfl
theorem ac_rm (l : Launch) (Z : State) (a0 : Array Value) (hw : ∀ d ∈ tables_1, d.before a0 Z = true) (ws : List Jvm.Cond) (b0 : Addr) (h0 : Heap) (n0 : Nat) (Z0 : n0 ≤ h0.size) :
    MetFree l (⟨"java/util/AbstractCollection", "<init>", "()V"⟩ : MethodName) (head1 (Jvm.Cond.code (⟨"java/util/AbstractCollection", "<init>", "()V"⟩ : MethodName) jdk_22_method_1_code 1 none :: ws) ({ frames := 1, cells := 0, slots := 0, locals := 12 } : Room)) (fun a U => a = #[(.ref b0)] ∧ Z.Warmed39 U.vm ∧ U.heap = h0) (fun _ _ _ _ _ => True) (fun _ U o U' => ∃ v L, o = .returned v ∧ (own_Q none n0 h0) v U'.heap L ∧ FrameEnd U o U' L ({ frames := 1, cells := 0, slots := 0, locals := 12 } : Room).cells ({ frames := 1, cells := 0, slots := 0, locals := 12 } : Room).slots) :=
  own_met hw (plainFor_of_name (by first | (simp [plainName, overriddenIn]; done) | decide +kernel)) (fun p e s m below meth c T0 C0 X0 e0 => own_st (fun _ k => castTop (ac_ef m b0) k) (ac_c0 C0 X0 e0 (Fr.nil n0) Z0 ))
theorem ad_d0 : decode jdk_21_method_3_code 0 = .ok (.aload_n 0, 1) := by decide +kernel
theorem ad_d1 : decode jdk_21_method_3_code 1 = .ok (.invokespecial 42, 3) := by decide +kernel
theorem ad_d4 : decode jdk_21_method_3_code 4 = .ok (.aload_n 0, 1) := by decide +kernel
theorem ad_d5 : decode jdk_21_method_3_code 5 = .ok (.bipush 17, 2) := by decide +kernel
theorem ad_d7 : decode jdk_21_method_3_code 7 = .ok (.anewarray 47, 3) := by decide +kernel
theorem ad_d10 : decode jdk_21_method_3_code 10 = .ok (.putfield 3, 3) := by decide +kernel
theorem ad_d13 : decode jdk_21_method_3_code 13 = .ok (.return_, 1) := by decide +kernel
def ad_Q (Z : State) (b0 : Addr) (h0 : Heap) (n0 : Nat) (v : Option Value) (h : Heap) (L : List Loc) : Prop := v = none ∧ Fr n0 L ∧ Keep h0 h [b0] ∧ Exa Z h b0 "java/util/ArrayDeque"
set_option maxRecDepth 65536 in
set_option maxHeartbeats 40000000 in
theorem ad_c0 {l : Launch} {Z : State} {a0 : Array Value} {b0 : Addr} {h0 : Heap} {n0 : Nat} {p : Program} {e : Env} {s : State} {m : MethodId} {args : Array Value} {below : List Frame} {meth : Method} {c : Code} {T0 : State} {locs : List Loc} (C0 : own_Cx p s m meth c Z a0 jdk_21_method_3_code 1 "java/util/ArrayDeque" "<init>" none) (X0 : Stand p l e ({ frames := 2, cells := 1, slots := 17, locals := 24 } : Room) s m args below meth c T0 locs 0 0) (e0 : T0.heap = h0) (N0 : Fr n0 locs)  (Z0 : n0 ≤ h0.size) (P0 : Exa Z h0 b0 "java/util/ArrayDeque") (P1 : Fld Z h0 b0 "java/util/ArrayDeque" "elements" "[Ljava/lang/Object;" .null) (ge_b0 : n0 ≤ b0) :
    own_Dn p e below s (ad_Q Z b0 h0 n0) ({ frames := 2, cells := 1, slots := 17, locals := 24 } : Room).cells ({ frames := 2, cells := 1, slots := 17, locals := 24 } : Room).slots (T0.setTop (mkF m 0 #[.val (.ref b0)] [])) := by
  obtain ⟨hx, hZ, hw, hby, hml, hown, hret, hlk, hnm⟩ := id C0
  refine own_st (fun _ k => XS.aloadN X0.here hx rfl (hb hby ad_d0) rfl rfl k) ?_
  show own_Dn p e below s _ _ _ (T0.setTop (mkF m 1 #[.val (.ref b0)] [(.ref b0)]))
  obtain ⟨_, _, ⟨T16, L16, k16, n16⟩, -, X16, ⟨Lc16, hQ16, l16, y16, z16⟩, st16⟩ := X0.specialBack hx (y := (⟨"java/util/AbstractCollection", "<init>", "()V"⟩ : MethodName)) rfl hown (mvT hZ (hw _ (List.mem_of_getElem? (i := 21) rfl))) (mvT hZ (hw _ (List.mem_of_getElem? (i := 22) rfl))) (mvT hZ (hw _ (List.mem_of_getElem? (i := 26) rfl))) (by decide) (backOf (W := 0) (ac_rm l Z a0 hw [] (b0) h0 n0 Z0 ) hZ (hw _ (List.mem_of_getElem? (i := 26) rfl)) (hw _ (List.mem_of_getElem? (i := 25) rfl)) (by decide) (by decide)) (g := (mkF m 1 #[.val (.ref b0)] [(.ref b0)])) rfl (by rw [hml]; rfl) (Steps.refl _) (a := b0) (argsL := []) (rest := []) (lenOf own_pd0 rfl) rfl (by show 2 * 0 + _ ≤ _; exact Nat.le_of_eq rfl) (hb hby ad_d1) (fun _ _ => ⟨rfl, e0, (by decide : 0 + 0 ≤ _), (by decide : 0 + 0 ≤ _)⟩)
  dsimp only [Pt.U, Pt.locs, Pt.cells, Pt.slots] at X16 l16 y16 z16 st16 hQ16
  subst l16 y16 z16
  obtain ⟨rfl, N16q, e16⟩ := hQ16
  have N16 := Fr.app N0 N16q
  refine own_tr st16 ?_
  show own_Dn p e below s _ _ _ (T16.setTop (mkF m 4 #[.val (.ref b0)] []))
  refine own_st (fun _ k => XS.aloadN X16.here hx rfl (hb hby ad_d4) rfl rfl (XS.bipush X16.here hx rfl (hb hby ad_d5) k)) ?_
  show own_Dn p e below s _ _ _ (T16.setTop (mkF m 7 #[.val (.ref b0)] [(.int (17 : Int32)), (.ref b0)]))
  obtain ⟨T17, h17, cA17, X17, e17, E17, A17, EA17, O17, st17⟩ := newRE X16 hx hZ hown (hw _ (List.mem_of_getElem? (i := 28) rfl)) (hw _ (List.mem_of_getElem? (i := 29) rfl)) e16 (g := (mkF m 7 #[.val (.ref b0)] [(.int (17 : Int32)), (.ref b0)])) rfl (hb hby ad_d7) (n := (17 : Int32)) rfl (by decide) (cap := 17) (by decide) (by decide) (by decide) (by decide) (ad := "[Ljava/lang/Object;") rfl
  obtain ⟨o7, g17⟩ : ∃ z, z = h0.size := ⟨_, rfl⟩
  rw [← g17] at A17 EA17 st17
  have ne18 : b0 ≠ o7 := Nat.ne_of_lt (Nat.lt_of_lt_of_le P0.lt (Nat.le_of_eq g17.symm))
  have ge19 : n0 ≤ o7 := Nat.le_trans Z0 (Nat.le_of_eq g17.symm)
  have gh20 : h0.size ≤ o7 := Nat.le_trans (Keep.refl h0 [b0]).1 (Nat.le_of_eq g17.symm)
  have F21 : n0 ≤ h17.size := Nat.le_trans Z0 E17.1
  have F22 : Exa Z h17 b0 "java/util/ArrayDeque" := P0.ext E17
  have F23 : Fld Z h17 b0 "java/util/ArrayDeque" "elements" "[Ljava/lang/Object;" .null := P1.ext E17
  have F24 : Keep h0 h17 [b0] := (Keep.refl h0 [b0]).ext E17
  refine own_st st17 ?_
  show own_Dn p e below s _ _ _ (T17.setTop (mkF m 10 #[.val (.ref b0)] [(.ref o7), (.ref b0)]))
  obtain ⟨T25, h25, X25, e25, W25, st25⟩ := putF X17 hx hZ hown (host := "") (Or.inl (hw _ (List.mem_of_getElem? (i := 30) rfl))) Via.refl e17 F23 F22 (Or.inl (hw _ (List.mem_of_getElem? (i := 31) rfl))) (hw _ (List.mem_of_getElem? (i := 16) rfl)) (ty := (.array (.object "java/lang/Object"))) (v := (.ref o7)) (by decide) rfl rfl (g := (mkF m 10 #[.val (.ref b0)] [(.ref o7), (.ref b0)])) rfl rfl (hb hby ad_d10)
  have N25 := Fr.snoc X25 N16 ge_b0
  have F26 : n0 ≤ h25.size := Nat.le_trans F21 (Keep.of_wr W25).1
  have F27 : Exa Z h25 b0 "java/util/ArrayDeque" := F22.wr W25
  have F28 : Fld Z h25 b0 "java/util/ArrayDeque" "elements" "[Ljava/lang/Object;" (.ref o7) := F23.same W25
  have F29 : Keep h0 h25 [b0] := F24.wr W25 (Or.inl (List.mem_of_getElem? (i := 0) rfl))
  have F30 : Exa Z h25 o7 "[Ljava/lang/Object;" := EA17.wr W25
  refine own_st st25 ?_
  show own_Dn p e below s _ _ _ (T25.setTop (mkF m 13 #[.val (.ref b0)] []))
  have eqH : T25.heap = h25 := e25
  exact own_retV X25 hx hret hlk (hb hby ad_d13) (by decide) (by decide) (by rw [eqH]; exact ⟨rfl, N25, F29, F27⟩)
theorem ad_ef (m : MethodId) (b0 : Addr) : entryFrame m #[(.ref b0)] 1 = mkF m 0 #[.val (.ref b0)] [] := by first | (simp [entryFrame, mkF, argsToLocals, Value.category]; done) | rfl
theorem ad_rm (l : Launch) (Z : State) (a0 : Array Value) (hw : ∀ d ∈ tables_1, d.before a0 Z = true) (ws : List Jvm.Cond) (b0 : Addr) (h0 : Heap) (n0 : Nat) (Z0 : n0 ≤ h0.size) (P0 : Exa Z h0 b0 "java/util/ArrayDeque") (P1 : Fld Z h0 b0 "java/util/ArrayDeque" "elements" "[Ljava/lang/Object;" .null) (ge_b0 : n0 ≤ b0) :
    MetFree l (⟨"java/util/ArrayDeque", "<init>", "()V"⟩ : MethodName) (head1 (Jvm.Cond.code (⟨"java/util/ArrayDeque", "<init>", "()V"⟩ : MethodName) jdk_21_method_3_code 1 none :: ws) ({ frames := 2, cells := 1, slots := 17, locals := 24 } : Room)) (fun a U => a = #[(.ref b0)] ∧ Z.Warmed39 U.vm ∧ U.heap = h0) (fun _ _ _ _ _ => True) (fun _ U o U' => ∃ v L, o = .returned v ∧ (ad_Q Z b0 h0 n0) v U'.heap L ∧ FrameEnd U o U' L ({ frames := 2, cells := 1, slots := 17, locals := 24 } : Room).cells ({ frames := 2, cells := 1, slots := 17, locals := 24 } : Room).slots) :=
  own_met hw (plainFor_of_name (by first | (simp [plainName, overriddenIn]; done) | decide +kernel)) (fun p e s m below meth c T0 C0 X0 e0 => own_st (fun _ k => castTop (ad_ef m b0) k) (ad_c0 C0 X0 e0 (Fr.nil n0) Z0 P0 P1 ge_b0))
theorem ri_d0 : decode prog_7_method_1_code 0 = .ok (.aload_n 0, 1) := by decide +kernel
theorem ri_d1 : decode prog_7_method_1_code 1 = .ok (.invokespecial 1, 3) := by decide +kernel
theorem ri_d4 : decode prog_7_method_1_code 4 = .ok (.aload_n 0, 1) := by decide +kernel
theorem ri_d5 : decode prog_7_method_1_code 5 = .ok (.new 7, 3) := by decide +kernel
theorem ri_d8 : decode prog_7_method_1_code 8 = .ok (.dup, 1) := by decide +kernel
theorem ri_d9 : decode prog_7_method_1_code 9 = .ok (.invokespecial 9, 3) := by decide +kernel
theorem ri_d12 : decode prog_7_method_1_code 12 = .ok (.putfield 10, 3) := by decide +kernel
theorem ri_d15 : decode prog_7_method_1_code 15 = .ok (.lload_n 1, 1) := by decide +kernel
theorem ri_d16 : decode prog_7_method_1_code 16 = .ok (.lconst 1, 1) := by decide +kernel
theorem ri_d17 : decode prog_7_method_1_code 17 = .ok (.lcmp, 1) := by decide +kernel
theorem ri_d18 : decode prog_7_method_1_code 18 = .ok (.ifCond .ge 17, 3) := by decide +kernel
theorem ri_d35 : decode prog_7_method_1_code 35 = .ok (.aload_n 0, 1) := by decide +kernel
theorem ri_d36 : decode prog_7_method_1_code 36 = .ok (.lload_n 1, 1) := by decide +kernel
theorem ri_d37 : decode prog_7_method_1_code 37 = .ok (.putfield 25, 3) := by decide +kernel
theorem ri_d40 : decode prog_7_method_1_code 40 = .ok (.return_, 1) := by decide +kernel
def ri_Q (Z : State) (b0 : Addr) (q1 : Int64) (h0 : Heap) (n0 : Nat) (v : Option Value) (h : Heap) (L : List Loc) : Prop := v = none ∧ Fr n0 L ∧ Keep h0 h [b0] ∧ Exa Z h b0 "com/example/stierlin/stierlin/broker/RequestMemory" ∧ Fld Z h b0 "com/example/stierlin/stierlin/broker/RequestMemory" "limit" "J" (.long q1) ∧ Fld Z h b0 "com/example/stierlin/stierlin/broker/RequestMemory" "taken" "J" (.long (0 : Int64))
set_option maxRecDepth 65536 in
set_option maxHeartbeats 40000000 in
theorem ri_c0 {l : Launch} {Z : State} {a0 : Array Value} {b0 : Addr} {q1 : Int64} {h0 : Heap} {n0 : Nat} {p : Program} {e : Env} {s : State} {m : MethodId} {args : Array Value} {below : List Frame} {meth : Method} {c : Code} {T0 : State} {locs : List Loc} (C0 : own_Cx p s m meth c Z a0 prog_7_method_1_code 3 "com/example/stierlin/stierlin/broker/RequestMemory" "<init>" none) (X0 : Stand p l e ({ frames := 3, cells := 2, slots := 20, locals := 38 } : Room) s m args below meth c T0 locs 0 0) (e0 : T0.heap = h0) (N0 : Fr n0 locs)  (Z0 : n0 ≤ h0.size) (P0 : Exa Z h0 b0 "com/example/stierlin/stierlin/broker/RequestMemory") (P1 : Fld Z h0 b0 "com/example/stierlin/stierlin/broker/RequestMemory" "waiting" "Ljava/util/Deque;" .null) (P2 : Fld Z h0 b0 "com/example/stierlin/stierlin/broker/RequestMemory" "limit" "J" (.long (0 : Int64))) (P3 : Fld Z h0 b0 "com/example/stierlin/stierlin/broker/RequestMemory" "taken" "J" (.long (0 : Int64))) (ge_b0 : n0 ≤ b0) (hl1 : ¬ (q1 < (1 : Int64))) :
    own_Dn p e below s (ri_Q Z b0 q1 h0 n0) ({ frames := 3, cells := 2, slots := 20, locals := 38 } : Room).cells ({ frames := 3, cells := 2, slots := 20, locals := 38 } : Room).slots (T0.setTop (mkF m 0 #[.val (.ref b0), .val (.long q1), .second] [])) := by
  obtain ⟨hx, hZ, hw, hby, hml, hown, hret, hlk, hnm⟩ := id C0
  refine own_st (fun _ k => XS.aloadN X0.here hx rfl (hb hby ri_d0) rfl rfl k) ?_
  show own_Dn p e below s _ _ _ (T0.setTop (mkF m 1 #[.val (.ref b0), .val (.long q1), .second] [(.ref b0)]))
  obtain ⟨T38, X38, e38, st38⟩ := initO X0 hx hZ hown (hw _ (List.mem_of_getElem? (i := 12) rfl)) (hw _ (List.mem_of_getElem? (i := 13) rfl)) (hw _ (List.mem_of_getElem? (i := 14) rfl)) e0 (g := (mkF m 1 #[.val (.ref b0), .val (.long q1), .second] [(.ref b0)])) rfl (by rw [hml]; rfl) rfl (hb hby ri_d1) (by decide) (W := 0) (by show 2 * 0 + _ ≤ _; exact Nat.le_of_eq rfl) (by decide)
  refine own_st st38 ?_
  show own_Dn p e below s _ _ _ (T38.setTop (mkF m 4 #[.val (.ref b0), .val (.long q1), .second] []))
  refine own_st (fun _ k => XS.aloadN X38.here hx rfl (hb hby ri_d4) rfl rfl k) ?_
  show own_Dn p e below s _ _ _ (T38.setTop (mkF m 5 #[.val (.ref b0), .val (.long q1), .second] [(.ref b0)]))
  obtain ⟨T39, h39, X39, e39, E39, A39, D39, -, st39⟩ := newO X38 hx hZ hown (hw _ (List.mem_of_getElem? (i := 15) rfl)) (hw _ (List.mem_of_getElem? (i := 16) rfl)) (hw _ (List.mem_of_getElem? (i := 17) rfl)) e38 (g := (mkF m 5 #[.val (.ref b0), .val (.long q1), .second] [(.ref b0)])) rfl (hb hby ri_d5) (by decide) (by decide)
  obtain ⟨o5, g39⟩ : ∃ z, z = h0.size := ⟨_, rfl⟩
  rw [← g39] at A39 D39 st39
  have ne40 : b0 ≠ o5 := Nat.ne_of_lt (Nat.lt_of_lt_of_le P0.lt (Nat.le_of_eq g39.symm))
  have ge41 : n0 ≤ o5 := Nat.le_trans Z0 (Nat.le_of_eq g39.symm)
  have gh42 : h0.size ≤ o5 := Nat.le_trans (Keep.refl h0 [b0]).1 (Nat.le_of_eq g39.symm)
  have F43 : n0 ≤ h39.size := Nat.le_trans Z0 E39.1
  have F44 : Exa Z h39 b0 "com/example/stierlin/stierlin/broker/RequestMemory" := P0.ext E39
  have F45 : Fld Z h39 b0 "com/example/stierlin/stierlin/broker/RequestMemory" "waiting" "Ljava/util/Deque;" .null := P1.ext E39
  have F46 : Fld Z h39 b0 "com/example/stierlin/stierlin/broker/RequestMemory" "limit" "J" (.long (0 : Int64)) := P2.ext E39
  have F47 : Fld Z h39 b0 "com/example/stierlin/stierlin/broker/RequestMemory" "taken" "J" (.long (0 : Int64)) := P3.ext E39
  have F48 : Keep h0 h39 [b0] := (Keep.refl h0 [b0]).ext E39
  have F49 : Fld Z h39 o5 "java/util/ArrayDeque" "elements" "[Ljava/lang/Object;" .null := D39 (Or.inl (hw _ (List.mem_of_getElem? (i := 31) rfl))) (ty := (.array (.object "java/lang/Object"))) (by decide)
  refine own_st st39 ?_
  show own_Dn p e below s _ _ _ (T39.setTop (mkF m 8 #[.val (.ref b0), .val (.long q1), .second] [(.ref o5), (.ref b0)]))
  refine own_st (fun _ k => XS.dup X39.here hx rfl (hb hby ri_d8) rfl rfl k) ?_
  show own_Dn p e below s _ _ _ (T39.setTop (mkF m 9 #[.val (.ref b0), .val (.long q1), .second] [(.ref o5), (.ref o5), (.ref b0)]))
  obtain ⟨_, _, ⟨T50, L50, k50, n50⟩, -, X50, ⟨Lc50, hQ50, l50, y50, z50⟩, st50⟩ := X39.specialBack hx (y := (⟨"java/util/ArrayDeque", "<init>", "()V"⟩ : MethodName)) rfl hown (mvT hZ (hw _ (List.mem_of_getElem? (i := 18) rfl))) (mvT hZ (hw _ (List.mem_of_getElem? (i := 19) rfl))) (mvT hZ (hw _ (List.mem_of_getElem? (i := 20) rfl))) (by decide) (backOf (W := 2) (ad_rm l Z a0 hw [] (o5) h39 n0 F43 A39 F49 ge41) hZ (hw _ (List.mem_of_getElem? (i := 20) rfl)) (hw _ (List.mem_of_getElem? (i := 17) rfl)) (by decide) (by decide)) (g := (mkF m 9 #[.val (.ref b0), .val (.long q1), .second] [(.ref o5), (.ref o5), (.ref b0)])) rfl (by rw [hml]; rfl) (Steps.refl _) (a := o5) (argsL := []) (rest := [(.ref o5), (.ref b0)]) (lenOf own_pd0 rfl) rfl (by show 2 * 0 + _ ≤ _; exact Nat.le_of_eq rfl) (hb hby ri_d9) (fun _ _ => ⟨rfl, e39, (by decide : 1 + 1 ≤ _), (by decide : 3 + 17 ≤ _)⟩)
  dsimp only [Pt.U, Pt.locs, Pt.cells, Pt.slots] at X50 l50 y50 z50 st50 hQ50
  subst l50 y50 z50
  obtain ⟨rfl, N50q, K50, G51⟩ := hQ50
  have F52 : n0 ≤ T50.heap.size := Nat.le_trans F43 K50.1
  have F53 : Exa Z T50.heap b0 "com/example/stierlin/stierlin/broker/RequestMemory" := F44.keep K50
  have F54 : Fld Z T50.heap b0 "com/example/stierlin/stierlin/broker/RequestMemory" "waiting" "Ljava/util/Deque;" .null := F45.keep K50 (ninS ne40 nin0)
  have F55 : Fld Z T50.heap b0 "com/example/stierlin/stierlin/broker/RequestMemory" "limit" "J" (.long (0 : Int64)) := F46.keep K50 (ninS ne40 nin0)
  have F56 : Fld Z T50.heap b0 "com/example/stierlin/stierlin/broker/RequestMemory" "taken" "J" (.long (0 : Int64)) := F47.keep K50 (ninS ne40 nin0)
  have F57 : Keep h0 T50.heap [b0] := F48.trans K50 (allS (Or.inr gh42) all0)
  have F58 : Exa Z T50.heap o5 "java/util/ArrayDeque" := A39.keep K50
  have N50 := Fr.app N0 N50q
  refine own_tr st50 ?_
  show own_Dn p e below s _ _ _ (T50.setTop (mkF m 12 #[.val (.ref b0), .val (.long q1), .second] [(.ref o5), (.ref b0)]))
  obtain ⟨T59, h59, X59, e59, W59, st59⟩ := putF X50 hx hZ hown (host := "") (Or.inl (hw _ (List.mem_of_getElem? (i := 32) rfl))) Via.refl rfl F54 F53 (Or.inr ⟨(hw _ (List.mem_of_getElem? (i := 33) rfl)), rfl, hnm⟩) (hw _ (List.mem_of_getElem? (i := 7) rfl)) (ty := (.object "java/util/Deque")) (v := (.ref o5)) (by decide) rfl rfl (g := (mkF m 12 #[.val (.ref b0), .val (.long q1), .second] [(.ref o5), (.ref b0)])) rfl rfl (hb hby ri_d12)
  have N59 := Fr.snoc X59 N50 ge_b0
  have F60 : n0 ≤ h59.size := Nat.le_trans F52 (Keep.of_wr W59).1
  have F61 : Exa Z h59 b0 "com/example/stierlin/stierlin/broker/RequestMemory" := F53.wr W59
  have F62 : Fld Z h59 b0 "com/example/stierlin/stierlin/broker/RequestMemory" "waiting" "Ljava/util/Deque;" (.ref o5) := F54.same W59
  have F63 : Fld Z h59 b0 "com/example/stierlin/stierlin/broker/RequestMemory" "limit" "J" (.long (0 : Int64)) := F55.other W59 (Or.inr (slot_ne (Or.inr (hw _ (List.mem_of_getElem? (i := 35) rfl))) (Or.inr (hw _ (List.mem_of_getElem? (i := 33) rfl))) (by decide) (t := .long) (t' := (.object "java/util/Deque")) (by decide) (by decide)))
  have F64 : Fld Z h59 b0 "com/example/stierlin/stierlin/broker/RequestMemory" "taken" "J" (.long (0 : Int64)) := F56.other W59 (Or.inr (slot_ne (Or.inl (hw _ (List.mem_of_getElem? (i := 47) rfl))) (Or.inr (hw _ (List.mem_of_getElem? (i := 33) rfl))) (by decide) (t := .long) (t' := (.object "java/util/Deque")) (by decide) (by decide)))
  have F65 : Keep h0 h59 [b0] := F57.wr W59 (Or.inl (List.mem_of_getElem? (i := 0) rfl))
  have F66 : Exa Z h59 o5 "java/util/ArrayDeque" := G51.wr W59
  refine own_st st59 ?_
  show own_Dn p e below s _ _ _ (T59.setTop (mkF m 15 #[.val (.ref b0), .val (.long q1), .second] []))
  refine own_st (fun _ k => XS.lloadN X59.here hx rfl (hb hby ri_d15) rfl (XS.lconst X59.here hx rfl (hb hby ri_d16) (XS.lcmp X59.here hx rfl (hb hby ri_d17) rfl k))) ?_
  show own_Dn p e below s _ _ _ (T59.setTop (mkF m 18 #[.val (.ref b0), .val (.long q1), .second] [(.int (lcmpW q1 (1 : Int64)))]))
  refine own_st (fun _ k => XS.ifYes X59.here hx rfl (pc0 := 18) (pc' := 35) rfl (hb hby ri_d18) rfl (own_jflt hl1).2.1 (by decide) (by decide) k) ?_
  show own_Dn p e below s _ _ _ (T59.setTop (mkF m 35 #[.val (.ref b0), .val (.long q1), .second] []))
  refine own_st (fun _ k => XS.aloadN X59.here hx rfl (hb hby ri_d35) rfl rfl (XS.lloadN X59.here hx rfl (hb hby ri_d36) rfl k)) ?_
  show own_Dn p e below s _ _ _ (T59.setTop (mkF m 37 #[.val (.ref b0), .val (.long q1), .second] [(.long q1), (.ref b0)]))
  obtain ⟨T67, h67, X67, e67, W67, st67⟩ := putF X59 hx hZ hown (host := "") (Or.inl (hw _ (List.mem_of_getElem? (i := 34) rfl))) Via.refl e59 F63 F61 (Or.inr ⟨(hw _ (List.mem_of_getElem? (i := 35) rfl)), rfl, hnm⟩) (hw _ (List.mem_of_getElem? (i := 7) rfl)) (ty := .long) (v := (.long q1)) (by decide) rfl rfl (g := (mkF m 37 #[.val (.ref b0), .val (.long q1), .second] [(.long q1), (.ref b0)])) rfl rfl (hb hby ri_d37)
  have N67 := Fr.snoc X67 N59 ge_b0
  have F68 : n0 ≤ h67.size := Nat.le_trans F60 (Keep.of_wr W67).1
  have F69 : Exa Z h67 b0 "com/example/stierlin/stierlin/broker/RequestMemory" := F61.wr W67
  have F70 : Fld Z h67 b0 "com/example/stierlin/stierlin/broker/RequestMemory" "waiting" "Ljava/util/Deque;" (.ref o5) := F62.other W67 (Or.inr (slot_ne (Or.inr (hw _ (List.mem_of_getElem? (i := 33) rfl))) (Or.inr (hw _ (List.mem_of_getElem? (i := 35) rfl))) (by decide) (t := (.object "java/util/Deque")) (t' := .long) (by decide) (by decide)))
  have F71 : Fld Z h67 b0 "com/example/stierlin/stierlin/broker/RequestMemory" "limit" "J" (.long q1) := F63.same W67
  have F72 : Fld Z h67 b0 "com/example/stierlin/stierlin/broker/RequestMemory" "taken" "J" (.long (0 : Int64)) := F64.other W67 (Or.inr (slot_ne (Or.inl (hw _ (List.mem_of_getElem? (i := 47) rfl))) (Or.inr (hw _ (List.mem_of_getElem? (i := 35) rfl))) (by decide) (t := .long) (t' := .long) (by decide) (by decide)))
  have F73 : Keep h0 h67 [b0] := F65.wr W67 (Or.inl (List.mem_of_getElem? (i := 0) rfl))
  have F74 : Exa Z h67 o5 "java/util/ArrayDeque" := F66.wr W67
  refine own_st st67 ?_
  show own_Dn p e below s _ _ _ (T67.setTop (mkF m 40 #[.val (.ref b0), .val (.long q1), .second] []))
  have eqH : T67.heap = h67 := e67
  exact own_retV X67 hx hret hlk (hb hby ri_d40) (by decide) (by decide) (by rw [eqH]; exact ⟨rfl, N67, F73, F69, F71, F72⟩)
theorem ri_ef (m : MethodId) (b0 : Addr) (q1 : Int64) : entryFrame m #[(.ref b0), (.long q1)] 3 = mkF m 0 #[.val (.ref b0), .val (.long q1), .second] [] := by first | (simp [entryFrame, mkF, argsToLocals, Value.category]; done) | rfl
theorem ri_rm (l : Launch) (Z : State) (a0 : Array Value) (hw : ∀ d ∈ tables_1, d.before a0 Z = true) (ws : List Jvm.Cond) (b0 : Addr) (q1 : Int64) (h0 : Heap) (n0 : Nat) (Z0 : n0 ≤ h0.size) (P0 : Exa Z h0 b0 "com/example/stierlin/stierlin/broker/RequestMemory") (P1 : Fld Z h0 b0 "com/example/stierlin/stierlin/broker/RequestMemory" "waiting" "Ljava/util/Deque;" .null) (P2 : Fld Z h0 b0 "com/example/stierlin/stierlin/broker/RequestMemory" "limit" "J" (.long (0 : Int64))) (P3 : Fld Z h0 b0 "com/example/stierlin/stierlin/broker/RequestMemory" "taken" "J" (.long (0 : Int64))) (ge_b0 : n0 ≤ b0) (hl1 : ¬ (q1 < (1 : Int64))) :
    MetFree l (⟨"com/example/stierlin/stierlin/broker/RequestMemory", "<init>", "(J)V"⟩ : MethodName) (head1 (Jvm.Cond.code (⟨"com/example/stierlin/stierlin/broker/RequestMemory", "<init>", "(J)V"⟩ : MethodName) prog_7_method_1_code 3 none :: ws) ({ frames := 3, cells := 2, slots := 20, locals := 38 } : Room)) (fun a U => a = #[(.ref b0), (.long q1)] ∧ Z.Warmed39 U.vm ∧ U.heap = h0) (fun _ _ _ _ _ => True) (fun _ U o U' => ∃ v L, o = .returned v ∧ (ri_Q Z b0 q1 h0 n0) v U'.heap L ∧ FrameEnd U o U' L ({ frames := 3, cells := 2, slots := 20, locals := 38 } : Room).cells ({ frames := 3, cells := 2, slots := 20, locals := 38 } : Room).slots) :=
  own_met hw (plainFor_of_name (by first | (simp [plainName, overriddenIn]; done) | decide +kernel)) (fun p e s m below meth c T0 C0 X0 e0 => own_st (fun _ k => castTop (ri_ef m b0 q1) k) (ri_c0 C0 X0 e0 (Fr.nil n0) Z0 P0 P1 P2 P3 ge_b0 hl1))
theorem li_d0 : decode prog_7_method_2_code 0 = .ok (.aload_n 0, 1) := by decide +kernel
theorem li_d1 : decode prog_7_method_2_code 1 = .ok (.getfield 25, 3) := by decide +kernel
theorem li_d4 : decode prog_7_method_2_code 4 = .ok (.lreturn, 1) := by decide +kernel
def li_f (w_l : Int64)  : Int64 :=
  w_l
set_option maxRecDepth 65536 in
set_option maxHeartbeats 40000000 in
theorem li_c0 {l : Launch} {Z : State} {a0 : Array Value} {b0 : Addr} {w_l : Int64} {h0 : Heap} {n0 : Nat} {p : Program} {e : Env} {s : State} {m : MethodId} {args : Array Value} {below : List Frame} {meth : Method} {c : Code} {T0 : State} {locs : List Loc} {r0 : Int64} (C0 : own_Cx p s m meth c Z a0 prog_7_method_2_code 1 "com/example/stierlin/stierlin/broker/RequestMemory" "limit" (some .long)) (X0 : Stand p l e ({ frames := 0, cells := 0, slots := 0, locals := 0 } : Room) s m args below meth c T0 locs 0 0) (e0 : T0.heap = h0) (N0 : Fr n0 locs)  (Z0 : n0 ≤ h0.size) (P0 : Fld Z h0 b0 "com/example/stierlin/stierlin/broker/RequestMemory" "limit" "J" (.long w_l)) (hr0 : r0 = li_f w_l ) :
    own_Dn p e below s (own_Q (some (.long r0)) n0 h0) ({ frames := 0, cells := 0, slots := 0, locals := 0 } : Room).cells ({ frames := 0, cells := 0, slots := 0, locals := 0 } : Room).slots (T0.setTop (mkF m 0 #[.val (.ref b0)] [])) := by
  obtain ⟨hx, hZ, hw, hby, hml, hown, hret, hlk, hnm⟩ := id C0
  refine own_st (fun _ k => XS.aloadN X0.here hx rfl (hb hby li_d0) rfl rfl k) ?_
  show own_Dn p e below s _ _ _ (T0.setTop (mkF m 1 #[.val (.ref b0)] [(.ref b0)]))
  obtain ⟨T2, X2, e2, st2⟩ := getF X0 hx hZ hown (host := "") (Or.inl (hw _ (List.mem_of_getElem? (i := 34) rfl))) Via.refl e0 P0 (g := (mkF m 1 #[.val (.ref b0)] [(.ref b0)])) rfl rfl (hb hby li_d1)
  refine own_st st2 ?_
  show own_Dn p e below s _ _ _ (T2.setTop (mkF m 4 #[.val (.ref b0)] [(.long w_l)]))
  exact own_retJ X2 hx hret hlk (hb hby li_d4) (by decide) (by decide) ⟨(by rw [hr0, li_f]), N0, e2⟩
theorem li_ef (m : MethodId) (b0 : Addr) : entryFrame m #[(.ref b0)] 1 = mkF m 0 #[.val (.ref b0)] [] := by first | (simp [entryFrame, mkF, argsToLocals, Value.category]; done) | rfl
theorem li_rm (l : Launch) (Z : State) (a0 : Array Value) (hw : ∀ d ∈ tables_1, d.before a0 Z = true) (ws : List Jvm.Cond) (b0 : Addr) (w_l : Int64) (h0 : Heap) (n0 : Nat) (Z0 : n0 ≤ h0.size) (P0 : Fld Z h0 b0 "com/example/stierlin/stierlin/broker/RequestMemory" "limit" "J" (.long w_l)) :
    MetFree l (⟨"com/example/stierlin/stierlin/broker/RequestMemory", "limit", "()J"⟩ : MethodName) (head1 (Jvm.Cond.code (⟨"com/example/stierlin/stierlin/broker/RequestMemory", "limit", "()J"⟩ : MethodName) prog_7_method_2_code 1 (some .long) :: ws) ({ frames := 0, cells := 0, slots := 0, locals := 0 } : Room)) (fun a U => a = #[(.ref b0)] ∧ Z.Warmed39 U.vm ∧ U.heap = h0) (fun _ _ _ _ _ => True) (fun _ U o U' => ∃ v L, o = .returned v ∧ (own_Q (some (.long (li_f w_l))) n0 h0) v U'.heap L ∧ FrameEnd U o U' L ({ frames := 0, cells := 0, slots := 0, locals := 0 } : Room).cells ({ frames := 0, cells := 0, slots := 0, locals := 0 } : Room).slots) :=
  own_met hw (plainFor_of_name (by first | (simp [plainName, overriddenIn]; done) | decide +kernel)) (fun p e s m below meth c T0 C0 X0 e0 => own_st (fun _ k => castTop (li_ef m b0) k) (li_c0 C0 X0 e0 (Fr.nil n0) Z0 P0 rfl))
theorem tk_d0 : decode prog_7_method_3_code 0 = .ok (.iload_n 1, 1) := by decide +kernel
theorem tk_d1 : decode prog_7_method_3_code 1 = .ok (.i2l, 1) := by decide +kernel
theorem tk_d2 : decode prog_7_method_3_code 2 = .ok (.aload_n 0, 1) := by decide +kernel
theorem tk_d3 : decode prog_7_method_3_code 3 = .ok (.getfield 25, 3) := by decide +kernel
theorem tk_d6 : decode prog_7_method_3_code 6 = .ok (.aload_n 0, 1) := by decide +kernel
theorem tk_d7 : decode prog_7_method_3_code 7 = .ok (.getfield 29, 3) := by decide +kernel
theorem tk_d10 : decode prog_7_method_3_code 10 = .ok (.lsub, 1) := by decide +kernel
theorem tk_d11 : decode prog_7_method_3_code 11 = .ok (.lcmp, 1) := by decide +kernel
theorem tk_d12 : decode prog_7_method_3_code 12 = .ok (.ifCond .gt 7, 3) := by decide +kernel
theorem tk_d15 : decode prog_7_method_3_code 15 = .ok (.iconst 1, 1) := by decide +kernel
theorem tk_d16 : decode prog_7_method_3_code 16 = .ok (.goto 4, 3) := by decide +kernel
theorem tk_d19 : decode prog_7_method_3_code 19 = .ok (.iconst 0, 1) := by decide +kernel
theorem tk_d20 : decode prog_7_method_3_code 20 = .ok (.istore_n 2, 1) := by decide +kernel
theorem tk_d21 : decode prog_7_method_3_code 21 = .ok (.iload_n 2, 1) := by decide +kernel
theorem tk_d22 : decode prog_7_method_3_code 22 = .ok (.ifCond .eq 14, 3) := by decide +kernel
theorem tk_d25 : decode prog_7_method_3_code 25 = .ok (.aload_n 0, 1) := by decide +kernel
theorem tk_d26 : decode prog_7_method_3_code 26 = .ok (.dup, 1) := by decide +kernel
theorem tk_d27 : decode prog_7_method_3_code 27 = .ok (.getfield 29, 3) := by decide +kernel
theorem tk_d30 : decode prog_7_method_3_code 30 = .ok (.iload_n 1, 1) := by decide +kernel
theorem tk_d31 : decode prog_7_method_3_code 31 = .ok (.i2l, 1) := by decide +kernel
theorem tk_d32 : decode prog_7_method_3_code 32 = .ok (.ladd, 1) := by decide +kernel
theorem tk_d33 : decode prog_7_method_3_code 33 = .ok (.putfield 29, 3) := by decide +kernel
theorem tk_d36 : decode prog_7_method_3_code 36 = .ok (.iload_n 2, 1) := by decide +kernel
theorem tk_d37 : decode prog_7_method_3_code 37 = .ok (.ireturn, 1) := by decide +kernel
def tk_f (p1 : Int32) (w_l : Int64) (w_t : Int64)  : Int32 :=
  if (w_l - w_t) < (p1.toInt64) then
    (0 : Int32)
  else
    (1 : Int32)
def tk_g2 (p1 : Int32) (w_l : Int64) (w_t : Int64) : Int64 :=
  if (w_l - w_t) < (p1.toInt64) then
    w_t
  else
    (w_t + (p1.toInt64))
def tk_Q (Z : State) (b0 : Addr) (p1 : Int32) (w_l : Int64) (w_t : Int64) (h0 : Heap) (n0 : Nat) (v : Option Value) (h : Heap) (L : List Loc) : Prop := v = some (.int (tk_f p1 w_l w_t)) ∧ Fr n0 L ∧ Keep h0 h [b0] ∧ Exa Z h b0 "com/example/stierlin/stierlin/broker/RequestMemory" ∧ Fld Z h b0 "com/example/stierlin/stierlin/broker/RequestMemory" "limit" "J" (.long w_l) ∧ Fld Z h b0 "com/example/stierlin/stierlin/broker/RequestMemory" "taken" "J" (.long (tk_g2 p1 w_l w_t))
set_option maxRecDepth 65536 in
set_option maxHeartbeats 40000000 in
theorem tk_c0 {l : Launch} {Z : State} {a0 : Array Value} {b0 : Addr} {p1 : Int32} {w_l : Int64} {w_t : Int64} {h0 : Heap} {n0 : Nat} {p : Program} {e : Env} {s : State} {m : MethodId} {args : Array Value} {below : List Frame} {meth : Method} {c : Code} {T0 : State} {locs : List Loc} (C0 : own_Cx p s m meth c Z a0 prog_7_method_3_code 3 "com/example/stierlin/stierlin/broker/RequestMemory" "take" (some .boolean)) (X0 : Stand p l e ({ frames := 0, cells := 0, slots := 0, locals := 0 } : Room) s m args below meth c T0 locs 0 0) (e0 : T0.heap = h0) (N0 : Fr n0 locs)  (Z0 : n0 ≤ h0.size) (P0 : Exa Z h0 b0 "com/example/stierlin/stierlin/broker/RequestMemory") (P1 : Fld Z h0 b0 "com/example/stierlin/stierlin/broker/RequestMemory" "limit" "J" (.long w_l)) (P2 : Fld Z h0 b0 "com/example/stierlin/stierlin/broker/RequestMemory" "taken" "J" (.long w_t)) (ge_b0 : n0 ≤ b0) :
    own_Dn p e below s (tk_Q Z b0 p1 w_l w_t h0 n0) ({ frames := 0, cells := 0, slots := 0, locals := 0 } : Room).cells ({ frames := 0, cells := 0, slots := 0, locals := 0 } : Room).slots (T0.setTop (mkF m 0 #[.val (.ref b0), .val (.int p1), .unset] [])) := by
  obtain ⟨hx, hZ, hw, hby, hml, hown, hret, hlk, hnm⟩ := id C0
  refine own_st (fun _ k => XS.iloadN X0.here hx rfl (hb hby tk_d0) rfl (XS.i2l X0.here hx rfl (hb hby tk_d1) rfl (XS.aloadN X0.here hx rfl (hb hby tk_d2) rfl rfl k))) ?_
  show own_Dn p e below s _ _ _ (T0.setTop (mkF m 3 #[.val (.ref b0), .val (.int p1), .unset] [(.ref b0), (.long (p1.toInt64))]))
  obtain ⟨T11, X11, e11, st11⟩ := getF X0 hx hZ hown (host := "") (Or.inl (hw _ (List.mem_of_getElem? (i := 34) rfl))) Via.refl e0 P1 (g := (mkF m 3 #[.val (.ref b0), .val (.int p1), .unset] [(.ref b0), (.long (p1.toInt64))])) rfl rfl (hb hby tk_d3)
  refine own_st st11 ?_
  show own_Dn p e below s _ _ _ (T11.setTop (mkF m 6 #[.val (.ref b0), .val (.int p1), .unset] [(.long w_l), (.long (p1.toInt64))]))
  refine own_st (fun _ k => XS.aloadN X11.here hx rfl (hb hby tk_d6) rfl rfl k) ?_
  show own_Dn p e below s _ _ _ (T11.setTop (mkF m 7 #[.val (.ref b0), .val (.int p1), .unset] [(.ref b0), (.long w_l), (.long (p1.toInt64))]))
  obtain ⟨T12, X12, e12, st12⟩ := getF X11 hx hZ hown (host := "") (Or.inl (hw _ (List.mem_of_getElem? (i := 46) rfl))) Via.refl e11 P2 (g := (mkF m 7 #[.val (.ref b0), .val (.int p1), .unset] [(.ref b0), (.long w_l), (.long (p1.toInt64))])) rfl rfl (hb hby tk_d7)
  refine own_st st12 ?_
  show own_Dn p e below s _ _ _ (T12.setTop (mkF m 10 #[.val (.ref b0), .val (.int p1), .unset] [(.long w_t), (.long w_l), (.long (p1.toInt64))]))
  refine own_st (fun _ k => XS.lsub X12.here hx rfl (hb hby tk_d10) rfl (XS.lcmp X12.here hx rfl (hb hby tk_d11) rfl k)) ?_
  show own_Dn p e below s _ _ _ (T12.setTop (mkF m 12 #[.val (.ref b0), .val (.int p1), .unset] [(.int (lcmpW (p1.toInt64) (w_l - w_t)))]))
  by_cases hc13 : (w_l - w_t) < (p1.toInt64)
  · refine own_st (fun _ k => XS.ifYes X12.here hx rfl (pc0 := 12) (pc' := 19) rfl (hb hby tk_d12) rfl (own_jtlt hc13).2.2.1 (by decide) (by decide) k) ?_
    show own_Dn p e below s _ _ _ (T12.setTop (mkF m 19 #[.val (.ref b0), .val (.int p1), .unset] []))
    refine own_st (fun _ k => XS.iconst X12.here hx rfl (hb hby tk_d19) (XS.istoreN X12.here hx rfl (hb hby tk_d20) rfl (l' := #[.val (.ref b0), .val (.int p1), .val (.int (0 : Int32))]) rfl (XS.iloadN X12.here hx rfl (hb hby tk_d21) rfl k))) ?_
    show own_Dn p e below s _ _ _ (T12.setTop (mkF m 22 #[.val (.ref b0), .val (.int p1), .val (.int (0 : Int32))] [(.int (0 : Int32))]))
    refine own_st (fun _ k => XS.ifYes X12.here hx rfl (pc0 := 22) (pc' := 36) rfl (hb hby tk_d22) rfl ((if0 _ _).trans (teq (by decide : (0 : Int32) = (0 : Int32))).1) (by decide) (by decide) k) ?_
    show own_Dn p e below s _ _ _ (T12.setTop (mkF m 36 #[.val (.ref b0), .val (.int p1), .val (.int (0 : Int32))] []))
    refine own_st (fun _ k => XS.iloadN X12.here hx rfl (hb hby tk_d36) rfl k) ?_
    show own_Dn p e below s _ _ _ (T12.setTop (mkF m 37 #[.val (.ref b0), .val (.int p1), .val (.int (0 : Int32))] [(.int (0 : Int32))]))
    have eqH : T12.heap = h0 := e12
    exact own_retZ X12 hx hret hlk (by decide) (hb hby tk_d37) (by decide) (by decide) (by rw [eqH]; exact ⟨(by rw [tk_f, if_pos hc13]), N0, (Keep.refl h0 [b0]), P0, P1, (by rw [tk_g2, if_pos hc13]; exact P2)⟩)
  · refine own_st (fun _ k => XS.ifNo X12.here hx rfl (hb hby tk_d12) rfl (own_jflt hc13).2.2.1 k) ?_
    show own_Dn p e below s _ _ _ (T12.setTop (mkF m 15 #[.val (.ref b0), .val (.int p1), .unset] []))
    refine own_st (fun _ k => XS.iconst X12.here hx rfl (hb hby tk_d15) (XS.goto X12.here hx rfl (pc0 := 16) (pc' := 20) rfl (hb hby tk_d16) (by decide) (by decide) (XS.istoreN X12.here hx rfl (hb hby tk_d20) rfl (l' := #[.val (.ref b0), .val (.int p1), .val (.int (1 : Int32))]) rfl (XS.iloadN X12.here hx rfl (hb hby tk_d21) rfl k)))) ?_
    show own_Dn p e below s _ _ _ (T12.setTop (mkF m 22 #[.val (.ref b0), .val (.int p1), .val (.int (1 : Int32))] [(.int (1 : Int32))]))
    refine own_st (fun _ k => XS.ifNo X12.here hx rfl (hb hby tk_d22) rfl ((if0 _ _).trans (feq (by decide : ¬ ((1 : Int32) = (0 : Int32)))).1) k) ?_
    show own_Dn p e below s _ _ _ (T12.setTop (mkF m 25 #[.val (.ref b0), .val (.int p1), .val (.int (1 : Int32))] []))
    refine own_st (fun _ k => XS.aloadN X12.here hx rfl (hb hby tk_d25) rfl rfl (XS.dup X12.here hx rfl (hb hby tk_d26) rfl rfl k)) ?_
    show own_Dn p e below s _ _ _ (T12.setTop (mkF m 27 #[.val (.ref b0), .val (.int p1), .val (.int (1 : Int32))] [(.ref b0), (.ref b0)]))
    obtain ⟨T14, X14, e14, st14⟩ := getF X12 hx hZ hown (host := "") (Or.inl (hw _ (List.mem_of_getElem? (i := 46) rfl))) Via.refl e12 P2 (g := (mkF m 27 #[.val (.ref b0), .val (.int p1), .val (.int (1 : Int32))] [(.ref b0), (.ref b0)])) rfl rfl (hb hby tk_d27)
    refine own_st st14 ?_
    show own_Dn p e below s _ _ _ (T14.setTop (mkF m 30 #[.val (.ref b0), .val (.int p1), .val (.int (1 : Int32))] [(.long w_t), (.ref b0)]))
    refine own_st (fun _ k => XS.iloadN X14.here hx rfl (hb hby tk_d30) rfl (XS.i2l X14.here hx rfl (hb hby tk_d31) rfl (XS.ladd X14.here hx rfl (hb hby tk_d32) rfl k))) ?_
    show own_Dn p e below s _ _ _ (T14.setTop (mkF m 33 #[.val (.ref b0), .val (.int p1), .val (.int (1 : Int32))] [(.long (w_t + (p1.toInt64))), (.ref b0)]))
    obtain ⟨T15, h15, X15, e15, W15, st15⟩ := putF X14 hx hZ hown (host := "") (Or.inl (hw _ (List.mem_of_getElem? (i := 46) rfl))) Via.refl e14 P2 P0 (Or.inl (hw _ (List.mem_of_getElem? (i := 47) rfl))) (hw _ (List.mem_of_getElem? (i := 7) rfl)) (ty := .long) (v := (.long (w_t + (p1.toInt64)))) (by decide) rfl rfl (g := (mkF m 33 #[.val (.ref b0), .val (.int p1), .val (.int (1 : Int32))] [(.long (w_t + (p1.toInt64))), (.ref b0)])) rfl rfl (hb hby tk_d33)
    have N15 := Fr.snoc X15 N0 ge_b0
    have F16 : n0 ≤ h15.size := Nat.le_trans Z0 (Keep.of_wr W15).1
    have F17 : Exa Z h15 b0 "com/example/stierlin/stierlin/broker/RequestMemory" := P0.wr W15
    have F18 : Fld Z h15 b0 "com/example/stierlin/stierlin/broker/RequestMemory" "limit" "J" (.long w_l) := P1.other W15 (Or.inr (slot_ne (Or.inr (hw _ (List.mem_of_getElem? (i := 35) rfl))) (Or.inl (hw _ (List.mem_of_getElem? (i := 47) rfl))) (by decide) (t := .long) (t' := .long) (by decide) (by decide)))
    have F19 : Fld Z h15 b0 "com/example/stierlin/stierlin/broker/RequestMemory" "taken" "J" (.long (w_t + (p1.toInt64))) := P2.same W15
    have F20 : Keep h0 h15 [b0] := (Keep.refl h0 [b0]).wr W15 (Or.inl (List.mem_of_getElem? (i := 0) rfl))
    refine own_st st15 ?_
    show own_Dn p e below s _ _ _ (T15.setTop (mkF m 36 #[.val (.ref b0), .val (.int p1), .val (.int (1 : Int32))] []))
    refine own_st (fun _ k => XS.iloadN X15.here hx rfl (hb hby tk_d36) rfl k) ?_
    show own_Dn p e below s _ _ _ (T15.setTop (mkF m 37 #[.val (.ref b0), .val (.int p1), .val (.int (1 : Int32))] [(.int (1 : Int32))]))
    have eqH : T15.heap = h15 := e15
    exact own_retZ X15 hx hret hlk (by decide) (hb hby tk_d37) (by decide) (by decide) (by rw [eqH]; exact ⟨(by rw [tk_f, if_neg hc13]), N15, F20, F17, F18, (by rw [tk_g2, if_neg hc13]; exact F19)⟩)
theorem tk_ef (m : MethodId) (b0 : Addr) (p1 : Int32) : entryFrame m #[(.ref b0), (.int p1)] 3 = mkF m 0 #[.val (.ref b0), .val (.int p1), .unset] [] := by first | (simp [entryFrame, mkF, argsToLocals, Value.category]; done) | rfl
theorem tk_rm (l : Launch) (Z : State) (a0 : Array Value) (hw : ∀ d ∈ tables_1, d.before a0 Z = true) (ws : List Jvm.Cond) (b0 : Addr) (p1 : Int32) (w_l : Int64) (w_t : Int64) (h0 : Heap) (n0 : Nat) (Z0 : n0 ≤ h0.size) (P0 : Exa Z h0 b0 "com/example/stierlin/stierlin/broker/RequestMemory") (P1 : Fld Z h0 b0 "com/example/stierlin/stierlin/broker/RequestMemory" "limit" "J" (.long w_l)) (P2 : Fld Z h0 b0 "com/example/stierlin/stierlin/broker/RequestMemory" "taken" "J" (.long w_t)) (ge_b0 : n0 ≤ b0) :
    MetFree l (⟨"com/example/stierlin/stierlin/broker/RequestMemory", "take", "(I)Z"⟩ : MethodName) (head1 (Jvm.Cond.code (⟨"com/example/stierlin/stierlin/broker/RequestMemory", "take", "(I)Z"⟩ : MethodName) prog_7_method_3_code 3 (some .boolean) :: ws) ({ frames := 0, cells := 0, slots := 0, locals := 0 } : Room)) (fun a U => a = #[(.ref b0), (.int p1)] ∧ Z.Warmed39 U.vm ∧ U.heap = h0) (fun _ _ _ _ _ => True) (fun _ U o U' => ∃ v L, o = .returned v ∧ (tk_Q Z b0 p1 w_l w_t h0 n0) v U'.heap L ∧ FrameEnd U o U' L ({ frames := 0, cells := 0, slots := 0, locals := 0 } : Room).cells ({ frames := 0, cells := 0, slots := 0, locals := 0 } : Room).slots) :=
  own_met hw (plainFor_of_name (by first | (simp [plainName, overriddenIn]; done) | decide +kernel)) (fun p e s m below meth c T0 C0 X0 e0 => own_st (fun _ k => castTop (tk_ef m b0 p1) k) (tk_c0 C0 X0 e0 (Fr.nil n0) Z0 P0 P1 P2 ge_b0))
theorem lw_d0 : decode code 0 = .ok (.lconst 1, 1) := by decide +kernel
theorem lw_d1 : decode code 1 = .ok (.iload_n 2, 1) := by decide +kernel
theorem lw_d2 : decode code 2 = .ok (.iconst 1, 1) := by decide +kernel
theorem lw_d3 : decode code 3 = .ok (.iand, 1) := by decide +kernel
theorem lw_d4 : decode code 4 = .ok (.ifCond .eq 11, 3) := by decide +kernel
theorem lw_d7 : decode code 7 = .ok (.lload_n 0, 1) := by decide +kernel
theorem lw_d8 : decode code 8 = .ok (.ldc2_w 9, 3) := by decide +kernel
theorem lw_d11 : decode code 11 = .ok (.land, 1) := by decide +kernel
theorem lw_d12 : decode code 12 = .ok (.goto 8, 3) := by decide +kernel
theorem lw_d15 : decode code 15 = .ok (.lload_n 0, 1) := by decide +kernel
theorem lw_d16 : decode code 16 = .ok (.ldc2_w 11, 3) := by decide +kernel
theorem lw_d19 : decode code 19 = .ok (.land, 1) := by decide +kernel
theorem lw_d20 : decode code 20 = .ok (.invokestatic 13, 3) := by decide +kernel
theorem lw_d23 : decode code 23 = .ok (.lstore 6, 2) := by decide +kernel
theorem lw_d25 : decode code 25 = .ok (.iload_n 3, 1) := by decide +kernel
theorem lw_d26 : decode code 26 = .ok (.ldc 19, 2) := by decide +kernel
theorem lw_d28 : decode code 28 = .ok (.iand, 1) := by decide +kernel
theorem lw_d29 : decode code 29 = .ok (.istore 8, 2) := by decide +kernel
theorem lw_d31 : decode code 31 = .ok (.iload 4, 2) := by decide +kernel
theorem lw_d33 : decode code 33 = .ok (.ldc 19, 2) := by decide +kernel
theorem lw_d35 : decode code 35 = .ok (.iand, 1) := by decide +kernel
theorem lw_d36 : decode code 36 = .ok (.istore 9, 2) := by decide +kernel
theorem lw_d38 : decode code 38 = .ok (.new 20, 3) := by decide +kernel
theorem lw_d41 : decode code 41 = .ok (.dup, 1) := by decide +kernel
theorem lw_d42 : decode code 42 = .ok (.lload 6, 2) := by decide +kernel
theorem lw_d44 : decode code 44 = .ok (.invokespecial 22, 3) := by decide +kernel
theorem lw_d47 : decode code 47 = .ok (.astore 10, 2) := by decide +kernel
theorem lw_d49 : decode code 49 = .ok (.aload 10, 2) := by decide +kernel
theorem lw_d51 : decode code 51 = .ok (.invokevirtual 25, 3) := by decide +kernel
theorem lw_d54 : decode code 54 = .ok (.lload 6, 2) := by decide +kernel
theorem lw_d56 : decode code 56 = .ok (.lcmp, 1) := by decide +kernel
theorem lw_d57 : decode code 57 = .ok (.ifCond .eq 5, 3) := by decide +kernel
theorem lw_d60 : decode code 60 = .ok (.iconst 0, 1) := by decide +kernel
theorem lw_d61 : decode code 61 = .ok (.ireturn, 1) := by decide +kernel
theorem lw_d62 : decode code 62 = .ok (.iload 8, 2) := by decide +kernel
theorem lw_d64 : decode code 64 = .ok (.i2l, 1) := by decide +kernel
theorem lw_d65 : decode code 65 = .ok (.lload 6, 2) := by decide +kernel
theorem lw_d67 : decode code 67 = .ok (.lcmp, 1) := by decide +kernel
theorem lw_d68 : decode code 68 = .ok (.ifCond .gt 7, 3) := by decide +kernel
theorem lw_d71 : decode code 71 = .ok (.iconst 1, 1) := by decide +kernel
theorem lw_d72 : decode code 72 = .ok (.goto 4, 3) := by decide +kernel
theorem lw_d75 : decode code 75 = .ok (.iconst 0, 1) := by decide +kernel
theorem lw_d76 : decode code 76 = .ok (.istore 11, 2) := by decide +kernel
theorem lw_d78 : decode code 78 = .ok (.iload 11, 2) := by decide +kernel
theorem lw_d80 : decode code 80 = .ok (.ifCond .eq 9, 3) := by decide +kernel
theorem lw_d83 : decode code 83 = .ok (.iload 8, 2) := by decide +kernel
theorem lw_d85 : decode code 85 = .ok (.i2l, 1) := by decide +kernel
theorem lw_d86 : decode code 86 = .ok (.goto 4, 3) := by decide +kernel
theorem lw_d89 : decode code 89 = .ok (.lconst 0, 1) := by decide +kernel
theorem lw_d90 : decode code 90 = .ok (.lstore 12, 2) := by decide +kernel
theorem lw_d92 : decode code 92 = .ok (.aload 10, 2) := by decide +kernel
theorem lw_d94 : decode code 94 = .ok (.iload 8, 2) := by decide +kernel
theorem lw_d96 : decode code 96 = .ok (.invokevirtual 29, 3) := by decide +kernel
theorem lw_d99 : decode code 99 = .ok (.istore 14, 2) := by decide +kernel
theorem lw_d101 : decode code 101 = .ok (.iload 14, 2) := by decide +kernel
theorem lw_d103 : decode code 103 = .ok (.iload 11, 2) := by decide +kernel
theorem lw_d105 : decode code 105 = .ok (.if_icmp .eq 5, 3) := by decide +kernel
theorem lw_d108 : decode code 108 = .ok (.iconst 0, 1) := by decide +kernel
theorem lw_d109 : decode code 109 = .ok (.ireturn, 1) := by decide +kernel
theorem lw_d110 : decode code 110 = .ok (.lload 12, 2) := by decide +kernel
theorem lw_d112 : decode code 112 = .ok (.iload 9, 2) := by decide +kernel
theorem lw_d114 : decode code 114 = .ok (.i2l, 1) := by decide +kernel
theorem lw_d115 : decode code 115 = .ok (.ladd, 1) := by decide +kernel
theorem lw_d116 : decode code 116 = .ok (.lload 6, 2) := by decide +kernel
theorem lw_d118 : decode code 118 = .ok (.lcmp, 1) := by decide +kernel
theorem lw_d119 : decode code 119 = .ok (.ifCond .gt 7, 3) := by decide +kernel
theorem lw_d122 : decode code 122 = .ok (.iconst 1, 1) := by decide +kernel
theorem lw_d123 : decode code 123 = .ok (.goto 4, 3) := by decide +kernel
theorem lw_d126 : decode code 126 = .ok (.iconst 0, 1) := by decide +kernel
theorem lw_d127 : decode code 127 = .ok (.istore 15, 2) := by decide +kernel
theorem lw_d129 : decode code 129 = .ok (.lload 12, 2) := by decide +kernel
theorem lw_d131 : decode code 131 = .ok (.iload 15, 2) := by decide +kernel
theorem lw_d133 : decode code 133 = .ok (.ifCond .eq 9, 3) := by decide +kernel
theorem lw_d136 : decode code 136 = .ok (.iload 9, 2) := by decide +kernel
theorem lw_d138 : decode code 138 = .ok (.i2l, 1) := by decide +kernel
theorem lw_d139 : decode code 139 = .ok (.goto 4, 3) := by decide +kernel
theorem lw_d142 : decode code 142 = .ok (.lconst 0, 1) := by decide +kernel
theorem lw_d143 : decode code 143 = .ok (.ladd, 1) := by decide +kernel
theorem lw_d144 : decode code 144 = .ok (.lstore 16, 2) := by decide +kernel
theorem lw_d146 : decode code 146 = .ok (.aload 10, 2) := by decide +kernel
theorem lw_d148 : decode code 148 = .ok (.iload 9, 2) := by decide +kernel
theorem lw_d150 : decode code 150 = .ok (.invokevirtual 29, 3) := by decide +kernel
theorem lw_d153 : decode code 153 = .ok (.istore 18, 2) := by decide +kernel
theorem lw_d155 : decode code 155 = .ok (.iload 18, 2) := by decide +kernel
theorem lw_d157 : decode code 157 = .ok (.iload 15, 2) := by decide +kernel
theorem lw_d159 : decode code 159 = .ok (.if_icmp .eq 5, 3) := by decide +kernel
theorem lw_d162 : decode code 162 = .ok (.iconst 0, 1) := by decide +kernel
theorem lw_d163 : decode code 163 = .ok (.ireturn, 1) := by decide +kernel
theorem lw_d164 : decode code 164 = .ok (.lload 6, 2) := by decide +kernel
theorem lw_d166 : decode code 166 = .ok (.lload 16, 2) := by decide +kernel
theorem lw_d168 : decode code 168 = .ok (.lsub, 1) := by decide +kernel
theorem lw_d169 : decode code 169 = .ok (.lstore 19, 2) := by decide +kernel
theorem lw_d171 : decode code 171 = .ok (.iload 5, 2) := by decide +kernel
theorem lw_d173 : decode code 173 = .ok (.ldc 19, 2) := by decide +kernel
theorem lw_d175 : decode code 175 = .ok (.iand, 1) := by decide +kernel
theorem lw_d176 : decode code 176 = .ok (.istore 21, 2) := by decide +kernel
theorem lw_d178 : decode code 178 = .ok (.iload_n 2, 1) := by decide +kernel
theorem lw_d179 : decode code 179 = .ok (.iconst 2, 1) := by decide +kernel
theorem lw_d180 : decode code 180 = .ok (.iand, 1) := by decide +kernel
theorem lw_d181 : decode code 181 = .ok (.ifCond .eq 23, 3) := by decide +kernel
theorem lw_d184 : decode code 184 = .ok (.lload 19, 2) := by decide +kernel
theorem lw_d186 : decode code 186 = .ok (.ldc2_w 35, 3) := by decide +kernel
theorem lw_d189 : decode code 189 = .ok (.lcmp, 1) := by decide +kernel
theorem lw_d190 : decode code 190 = .ok (.ifCond .gt 14, 3) := by decide +kernel
theorem lw_d193 : decode code 193 = .ok (.lload 19, 2) := by decide +kernel
theorem lw_d195 : decode code 195 = .ok (.l2i, 1) := by decide +kernel
theorem lw_d196 : decode code 196 = .ok (.iload_n 2, 1) := by decide +kernel
theorem lw_d197 : decode code 197 = .ok (.iconst 2, 1) := by decide +kernel
theorem lw_d198 : decode code 198 = .ok (.ishr, 1) := by decide +kernel
theorem lw_d199 : decode code 199 = .ok (.iconst 1, 1) := by decide +kernel
theorem lw_d200 : decode code 200 = .ok (.iand, 1) := by decide +kernel
theorem lw_d201 : decode code 201 = .ok (.iadd, 1) := by decide +kernel
theorem lw_d202 : decode code 202 = .ok (.istore 21, 2) := by decide +kernel
theorem lw_d204 : decode code 204 = .ok (.lload 16, 2) := by decide +kernel
theorem lw_d206 : decode code 206 = .ok (.iload 21, 2) := by decide +kernel
theorem lw_d208 : decode code 208 = .ok (.i2l, 1) := by decide +kernel
theorem lw_d209 : decode code 209 = .ok (.ladd, 1) := by decide +kernel
theorem lw_d210 : decode code 210 = .ok (.lload 6, 2) := by decide +kernel
theorem lw_d212 : decode code 212 = .ok (.lcmp, 1) := by decide +kernel
theorem lw_d213 : decode code 213 = .ok (.ifCond .gt 7, 3) := by decide +kernel
theorem lw_d216 : decode code 216 = .ok (.iconst 1, 1) := by decide +kernel
theorem lw_d217 : decode code 217 = .ok (.goto 4, 3) := by decide +kernel
theorem lw_d220 : decode code 220 = .ok (.iconst 0, 1) := by decide +kernel
theorem lw_d221 : decode code 221 = .ok (.istore 22, 2) := by decide +kernel
theorem lw_d223 : decode code 223 = .ok (.aload 10, 2) := by decide +kernel
theorem lw_d225 : decode code 225 = .ok (.iload 21, 2) := by decide +kernel
theorem lw_d227 : decode code 227 = .ok (.invokevirtual 29, 3) := by decide +kernel
theorem lw_d230 : decode code 230 = .ok (.istore 23, 2) := by decide +kernel
theorem lw_d232 : decode code 232 = .ok (.iload 23, 2) := by decide +kernel
theorem lw_d234 : decode code 234 = .ok (.iload 22, 2) := by decide +kernel
theorem lw_d236 : decode code 236 = .ok (.if_icmp .ne 18, 3) := by decide +kernel
theorem lw_d239 : decode code 239 = .ok (.aload 10, 2) := by decide +kernel
theorem lw_d241 : decode code 241 = .ok (.invokevirtual 25, 3) := by decide +kernel
theorem lw_d244 : decode code 244 = .ok (.lload 6, 2) := by decide +kernel
theorem lw_d246 : decode code 246 = .ok (.lcmp, 1) := by decide +kernel
theorem lw_d247 : decode code 247 = .ok (.ifCond .ne 7, 3) := by decide +kernel
theorem lw_d250 : decode code 250 = .ok (.iconst 1, 1) := by decide +kernel
theorem lw_d251 : decode code 251 = .ok (.goto 4, 3) := by decide +kernel
theorem lw_d254 : decode code 254 = .ok (.iconst 0, 1) := by decide +kernel
theorem lw_d255 : decode code 255 = .ok (.ireturn, 1) := by decide +kernel
def lw_f204 (q0 : Int64) (p1 : Int32) (p2 : Int32) (p3 : Int32) (p4 : Int32) (v6 : Int64) (v8 : Int32) (v9 : Int32) (v11 : Int32) (v12 : Int64) (v14 : Int32) (v15 : Int32) (v16 : Int64) (v18 : Int32) (v19 : Int64) (v21 : Int32) (w2 : Int64) (w3 : Int64) : Int32 :=
  if v6 < (v16 + (v21.toInt64)) then
    if (tk_f v21 w2 w3) = (0 : Int32) then
      if (li_f w2) = v6 then
        (1 : Int32)
      else
        (0 : Int32)
    else
      (0 : Int32)
  else
    if (tk_f v21 w2 w3) = (1 : Int32) then
      if (li_f w2) = v6 then
        (1 : Int32)
      else
        (0 : Int32)
    else
      (0 : Int32)
set_option maxRecDepth 65536 in
set_option maxHeartbeats 40000000 in
theorem lw_c204 {l : Launch} {Z : State} {a0 : Array Value} {q0 : Int64} {p1 : Int32} {p2 : Int32} {p3 : Int32} {p4 : Int32} {h0 : Heap} {n0 : Nat} {p : Program} {e : Env} {s : State} {m : MethodId} {args : Array Value} {below : List Frame} {meth : Method} {c : Code} {T0 : State} {locs : List Loc} {o38 : Addr} {r0 : Int32} (C0 : own_Cx p s m meth c Z a0 code 24 "com/example/stierlin/stierlin/broker/RequestMemoryTakePinLaw" "law" (some .boolean)) (X0 : Stand p l e room_1 s m args below meth c T0 locs 3 23) (e0 : T0.heap = h0) (N0 : Fr n0 locs) (v6 : Int64) (v8 : Int32) (v9 : Int32) (v11 : Int32) (v12 : Int64) (v14 : Int32) (v15 : Int32) (v16 : Int64) (v18 : Int32) (v19 : Int64) (v21 : Int32) (w2 : Int64) (w3 : Int64) (Z0 : n0 ≤ h0.size) (P1 : Exa Z h0 o38 "com/example/stierlin/stierlin/broker/RequestMemory") (P2 : Fld Z h0 o38 "com/example/stierlin/stierlin/broker/RequestMemory" "limit" "J" (.long w2)) (P3 : Fld Z h0 o38 "com/example/stierlin/stierlin/broker/RequestMemory" "taken" "J" (.long w3)) (kn0 : n0 ≤ o38) (hr0 : r0 = lw_f204 q0 p1 p2 p3 p4 v6 v8 v9 v11 v12 v14 v15 v16 v18 v19 v21 w2 w3) :
    own_Dn p e below s (own_QL (some (.int r0)) n0) room_1.cells room_1.slots (T0.setTop (mkF m 204 #[.val (.long q0), .second, .val (.int p1), .val (.int p2), .val (.int p3), .val (.int p4), .val (.long v6), .second, .val (.int v8), .val (.int v9), .val (.ref o38), .val (.int v11), .val (.long v12), .second, .val (.int v14), .val (.int v15), .val (.long v16), .second, .val (.int v18), .val (.long v19), .second, .val (.int v21), .unset, .unset] [])) := by
  obtain ⟨hx, hZ, hw, hby, hml, hown, hret, hlk, hnm⟩ := id C0
  refine own_st (fun _ k => XS.lload X0.here hx rfl (hb hby lw_d204) rfl (XS.iload X0.here hx rfl (hb hby lw_d206) rfl (XS.i2l X0.here hx rfl (hb hby lw_d208) rfl (XS.ladd X0.here hx rfl (hb hby lw_d209) rfl (XS.lload X0.here hx rfl (hb hby lw_d210) rfl (XS.lcmp X0.here hx rfl (hb hby lw_d212) rfl k)))))) ?_
  show own_Dn p e below s _ _ _ (T0.setTop (mkF m 213 #[.val (.long q0), .second, .val (.int p1), .val (.int p2), .val (.int p3), .val (.int p4), .val (.long v6), .second, .val (.int v8), .val (.int v9), .val (.ref o38), .val (.int v11), .val (.long v12), .second, .val (.int v14), .val (.int v15), .val (.long v16), .second, .val (.int v18), .val (.long v19), .second, .val (.int v21), .unset, .unset] [(.int (lcmpW (v16 + (v21.toInt64)) v6))]))
  by_cases hc118 : v6 < (v16 + (v21.toInt64))
  · refine own_st (fun _ k => XS.ifYes X0.here hx rfl (pc0 := 213) (pc' := 220) rfl (hb hby lw_d213) rfl (own_jtlt hc118).2.2.1 (by decide) (by decide) k) ?_
    show own_Dn p e below s _ _ _ (T0.setTop (mkF m 220 #[.val (.long q0), .second, .val (.int p1), .val (.int p2), .val (.int p3), .val (.int p4), .val (.long v6), .second, .val (.int v8), .val (.int v9), .val (.ref o38), .val (.int v11), .val (.long v12), .second, .val (.int v14), .val (.int v15), .val (.long v16), .second, .val (.int v18), .val (.long v19), .second, .val (.int v21), .unset, .unset] []))
    refine own_st (fun _ k => XS.iconst X0.here hx rfl (hb hby lw_d220) (XS.istore X0.here hx rfl (hb hby lw_d221) rfl (l' := #[.val (.long q0), .second, .val (.int p1), .val (.int p2), .val (.int p3), .val (.int p4), .val (.long v6), .second, .val (.int v8), .val (.int v9), .val (.ref o38), .val (.int v11), .val (.long v12), .second, .val (.int v14), .val (.int v15), .val (.long v16), .second, .val (.int v18), .val (.long v19), .second, .val (.int v21), .val (.int (0 : Int32)), .unset]) rfl (XS.aload X0.here hx rfl (hb hby lw_d223) rfl rfl (XS.iload X0.here hx rfl (hb hby lw_d225) rfl k)))) ?_
    show own_Dn p e below s _ _ _ (T0.setTop (mkF m 227 #[.val (.long q0), .second, .val (.int p1), .val (.int p2), .val (.int p3), .val (.int p4), .val (.long v6), .second, .val (.int v8), .val (.int v9), .val (.ref o38), .val (.int v11), .val (.long v12), .second, .val (.int v14), .val (.int v15), .val (.long v16), .second, .val (.int v18), .val (.long v19), .second, .val (.int v21), .val (.int (0 : Int32)), .unset] [(.int v21), (.ref o38)]))
    obtain ⟨cq119, kq119, q119a, q119b, q119c⟩ := isOf hZ e0 P1
    obtain ⟨_, _, ⟨T119, L119, k119, n119⟩, -, X119, ⟨Lc119, hQ119, l119, y119, z119⟩, st119⟩ := X0.virtualBack hx (y := (⟨"com/example/stierlin/stierlin/broker/RequestMemory", "take", "(I)Z"⟩ : MethodName)) (z := (⟨"com/example/stierlin/stierlin/broker/RequestMemory", "take", "(I)Z"⟩ : MethodName)) hown (mvT hZ (hw _ (List.mem_of_getElem? (i := 41) rfl))) (mvT hZ (hw _ (List.mem_of_getElem? (i := 42) rfl))) (notFace_of_selects (args := #[]) (mvT hZ (hw _ (List.mem_of_getElem? (i := 44) rfl)))) (mvT hZ (hw _ (List.mem_of_getElem? (i := 44) rfl))) (mvT hZ (hw _ (List.mem_of_getElem? (i := 43) rfl))) (by decide) (backOf (W := 0) (tk_rm l Z a0 hw [] (o38) (v21) (w2) (w3) h0 n0 Z0 P1 P2 P3 kn0) hZ (hw _ (List.mem_of_getElem? (i := 45) rfl)) (hw _ (List.mem_of_getElem? (i := 8) rfl)) (by decide) (by decide)) q119a q119c (g := (mkF m 227 #[.val (.long q0), .second, .val (.int p1), .val (.int p2), .val (.int p3), .val (.int p4), .val (.long v6), .second, .val (.int v8), .val (.int v9), .val (.ref o38), .val (.int v11), .val (.long v12), .second, .val (.int v14), .val (.int v15), .val (.long v16), .second, .val (.int v18), .val (.long v19), .second, .val (.int v21), .val (.int (0 : Int32)), .unset] [(.int v21), (.ref o38)])) rfl (by rw [hml]; rfl) (Steps.refl _) (argsL := [(.int v21)]) (rest := []) (lenOf own_pd4 rfl) rfl (by show 2 * 0 + _ ≤ _; exact Nat.le_of_eq rfl) (hb hby lw_d227) (fun _ _ => ⟨rfl, e0, (by decide : 3 + 0 ≤ _), (by decide : 23 + 0 ≤ _)⟩)
    dsimp only [Pt.U, Pt.locs, Pt.cells, Pt.slots] at X119 l119 y119 z119 st119 hQ119
    subst l119 y119 z119
    obtain ⟨rfl, N119q, K119, G120, G121, G122⟩ := hQ119
    have F123 : n0 ≤ T119.heap.size := Nat.le_trans Z0 K119.1
    have F124 : Exa Z T119.heap o38 "com/example/stierlin/stierlin/broker/RequestMemory" := P1.keep K119
    have N119 := Fr.app N0 N119q
    refine own_tr st119 ?_
    show own_Dn p e below s _ _ _ (T119.setTop (mkF m 230 #[.val (.long q0), .second, .val (.int p1), .val (.int p2), .val (.int p3), .val (.int p4), .val (.long v6), .second, .val (.int v8), .val (.int v9), .val (.ref o38), .val (.int v11), .val (.long v12), .second, .val (.int v14), .val (.int v15), .val (.long v16), .second, .val (.int v18), .val (.long v19), .second, .val (.int v21), .val (.int (0 : Int32)), .unset] [(.int (tk_f v21 w2 w3))]))
    refine own_st (fun _ k => XS.istore X119.here hx rfl (hb hby lw_d230) rfl (l' := #[.val (.long q0), .second, .val (.int p1), .val (.int p2), .val (.int p3), .val (.int p4), .val (.long v6), .second, .val (.int v8), .val (.int v9), .val (.ref o38), .val (.int v11), .val (.long v12), .second, .val (.int v14), .val (.int v15), .val (.long v16), .second, .val (.int v18), .val (.long v19), .second, .val (.int v21), .val (.int (0 : Int32)), .val (.int (tk_f v21 w2 w3))]) rfl (XS.iload X119.here hx rfl (hb hby lw_d232) rfl (XS.iload X119.here hx rfl (hb hby lw_d234) rfl k))) ?_
    show own_Dn p e below s _ _ _ (T119.setTop (mkF m 236 #[.val (.long q0), .second, .val (.int p1), .val (.int p2), .val (.int p3), .val (.int p4), .val (.long v6), .second, .val (.int v8), .val (.int v9), .val (.ref o38), .val (.int v11), .val (.long v12), .second, .val (.int v14), .val (.int v15), .val (.long v16), .second, .val (.int v18), .val (.long v19), .second, .val (.int v21), .val (.int (0 : Int32)), .val (.int (tk_f v21 w2 w3))] [(.int (0 : Int32)), (.int (tk_f v21 w2 w3))]))
    by_cases hc125 : (tk_f v21 w2 w3) = (0 : Int32)
    · refine own_st (fun _ k => XS.icmpNo X119.here hx rfl (hb hby lw_d236) rfl (teq hc125).2 k) ?_
      show own_Dn p e below s _ _ _ (T119.setTop (mkF m 239 #[.val (.long q0), .second, .val (.int p1), .val (.int p2), .val (.int p3), .val (.int p4), .val (.long v6), .second, .val (.int v8), .val (.int v9), .val (.ref o38), .val (.int v11), .val (.long v12), .second, .val (.int v14), .val (.int v15), .val (.long v16), .second, .val (.int v18), .val (.long v19), .second, .val (.int v21), .val (.int (0 : Int32)), .val (.int (tk_f v21 w2 w3))] []))
      refine own_st (fun _ k => XS.aload X119.here hx rfl (hb hby lw_d239) rfl rfl k) ?_
      show own_Dn p e below s _ _ _ (T119.setTop (mkF m 241 #[.val (.long q0), .second, .val (.int p1), .val (.int p2), .val (.int p3), .val (.int p4), .val (.long v6), .second, .val (.int v8), .val (.int v9), .val (.ref o38), .val (.int v11), .val (.long v12), .second, .val (.int v14), .val (.int v15), .val (.long v16), .second, .val (.int v18), .val (.long v19), .second, .val (.int v21), .val (.int (0 : Int32)), .val (.int (tk_f v21 w2 w3))] [(.ref o38)]))
      obtain ⟨cq126, kq126, q126a, q126b, q126c⟩ := isOf hZ rfl G120
      obtain ⟨_, _, ⟨T126, L126, k126, n126⟩, -, X126, ⟨Lc126, hQ126, l126, y126, z126⟩, st126⟩ := X119.virtualBack hx (y := (⟨"com/example/stierlin/stierlin/broker/RequestMemory", "limit", "()J"⟩ : MethodName)) (z := (⟨"com/example/stierlin/stierlin/broker/RequestMemory", "limit", "()J"⟩ : MethodName)) hown (mvT hZ (hw _ (List.mem_of_getElem? (i := 36) rfl))) (mvT hZ (hw _ (List.mem_of_getElem? (i := 37) rfl))) (notFace_of_selects (args := #[]) (mvT hZ (hw _ (List.mem_of_getElem? (i := 39) rfl)))) (mvT hZ (hw _ (List.mem_of_getElem? (i := 39) rfl))) (mvT hZ (hw _ (List.mem_of_getElem? (i := 38) rfl))) (by decide) (backOf (W := 0) (li_rm l Z a0 hw [] (o38) (w2) T119.heap n0 F123 G121) hZ (hw _ (List.mem_of_getElem? (i := 40) rfl)) (hw _ (List.mem_of_getElem? (i := 8) rfl)) (by decide) (by decide)) q126a q126c (g := (mkF m 241 #[.val (.long q0), .second, .val (.int p1), .val (.int p2), .val (.int p3), .val (.int p4), .val (.long v6), .second, .val (.int v8), .val (.int v9), .val (.ref o38), .val (.int v11), .val (.long v12), .second, .val (.int v14), .val (.int v15), .val (.long v16), .second, .val (.int v18), .val (.long v19), .second, .val (.int v21), .val (.int (0 : Int32)), .val (.int (tk_f v21 w2 w3))] [(.ref o38)])) rfl (by rw [hml]; rfl) (Steps.refl _) (argsL := []) (rest := []) (lenOf own_pd3 rfl) rfl (by show 2 * 0 + _ ≤ _; exact Nat.le_of_eq rfl) (hb hby lw_d241) (fun _ _ => ⟨rfl, rfl, (by decide : 3 + 0 ≤ _), (by decide : 23 + 0 ≤ _)⟩)
      dsimp only [Pt.U, Pt.locs, Pt.cells, Pt.slots] at X126 l126 y126 z126 st126 hQ126
      subst l126 y126 z126
      obtain ⟨rfl, N126q, e126⟩ := hQ126
      have N126 := Fr.app N119 N126q
      refine own_tr st126 ?_
      show own_Dn p e below s _ _ _ (T126.setTop (mkF m 244 #[.val (.long q0), .second, .val (.int p1), .val (.int p2), .val (.int p3), .val (.int p4), .val (.long v6), .second, .val (.int v8), .val (.int v9), .val (.ref o38), .val (.int v11), .val (.long v12), .second, .val (.int v14), .val (.int v15), .val (.long v16), .second, .val (.int v18), .val (.long v19), .second, .val (.int v21), .val (.int (0 : Int32)), .val (.int (tk_f v21 w2 w3))] [(.long (li_f w2))]))
      refine own_st (fun _ k => XS.lload X126.here hx rfl (hb hby lw_d244) rfl (XS.lcmp X126.here hx rfl (hb hby lw_d246) rfl k)) ?_
      show own_Dn p e below s _ _ _ (T126.setTop (mkF m 247 #[.val (.long q0), .second, .val (.int p1), .val (.int p2), .val (.int p3), .val (.int p4), .val (.long v6), .second, .val (.int v8), .val (.int v9), .val (.ref o38), .val (.int v11), .val (.long v12), .second, .val (.int v14), .val (.int v15), .val (.long v16), .second, .val (.int v18), .val (.long v19), .second, .val (.int v21), .val (.int (0 : Int32)), .val (.int (tk_f v21 w2 w3))] [(.int (lcmpW (li_f w2) v6))]))
      by_cases hc127 : (li_f w2) = v6
      · refine own_st (fun _ k => XS.ifNo X126.here hx rfl (hb hby lw_d247) rfl (own_jteq hc127).2 k) ?_
        show own_Dn p e below s _ _ _ (T126.setTop (mkF m 250 #[.val (.long q0), .second, .val (.int p1), .val (.int p2), .val (.int p3), .val (.int p4), .val (.long v6), .second, .val (.int v8), .val (.int v9), .val (.ref o38), .val (.int v11), .val (.long v12), .second, .val (.int v14), .val (.int v15), .val (.long v16), .second, .val (.int v18), .val (.long v19), .second, .val (.int v21), .val (.int (0 : Int32)), .val (.int (tk_f v21 w2 w3))] []))
        refine own_st (fun _ k => XS.iconst X126.here hx rfl (hb hby lw_d250) (XS.goto X126.here hx rfl (pc0 := 251) (pc' := 255) rfl (hb hby lw_d251) (by decide) (by decide) k)) ?_
        show own_Dn p e below s _ _ _ (T126.setTop (mkF m 255 #[.val (.long q0), .second, .val (.int p1), .val (.int p2), .val (.int p3), .val (.int p4), .val (.long v6), .second, .val (.int v8), .val (.int v9), .val (.ref o38), .val (.int v11), .val (.long v12), .second, .val (.int v14), .val (.int v15), .val (.long v16), .second, .val (.int v18), .val (.long v19), .second, .val (.int v21), .val (.int (0 : Int32)), .val (.int (tk_f v21 w2 w3))] [(.int (1 : Int32))]))
        exact own_retZ X126 hx hret hlk (by decide) (hb hby lw_d255) (by decide) (by decide) ⟨(by rw [hr0, lw_f204, if_pos hc118, if_pos hc125, if_pos hc127]), N126⟩
      · refine own_st (fun _ k => XS.ifYes X126.here hx rfl (pc0 := 247) (pc' := 254) rfl (hb hby lw_d247) rfl (own_jfeq hc127).2 (by decide) (by decide) k) ?_
        show own_Dn p e below s _ _ _ (T126.setTop (mkF m 254 #[.val (.long q0), .second, .val (.int p1), .val (.int p2), .val (.int p3), .val (.int p4), .val (.long v6), .second, .val (.int v8), .val (.int v9), .val (.ref o38), .val (.int v11), .val (.long v12), .second, .val (.int v14), .val (.int v15), .val (.long v16), .second, .val (.int v18), .val (.long v19), .second, .val (.int v21), .val (.int (0 : Int32)), .val (.int (tk_f v21 w2 w3))] []))
        refine own_st (fun _ k => XS.iconst X126.here hx rfl (hb hby lw_d254) k) ?_
        show own_Dn p e below s _ _ _ (T126.setTop (mkF m 255 #[.val (.long q0), .second, .val (.int p1), .val (.int p2), .val (.int p3), .val (.int p4), .val (.long v6), .second, .val (.int v8), .val (.int v9), .val (.ref o38), .val (.int v11), .val (.long v12), .second, .val (.int v14), .val (.int v15), .val (.long v16), .second, .val (.int v18), .val (.long v19), .second, .val (.int v21), .val (.int (0 : Int32)), .val (.int (tk_f v21 w2 w3))] [(.int (0 : Int32))]))
        exact own_retZ X126 hx hret hlk (by decide) (hb hby lw_d255) (by decide) (by decide) ⟨(by rw [hr0, lw_f204, if_pos hc118, if_pos hc125, if_neg hc127]), N126⟩
    · refine own_st (fun _ k => XS.icmpYes X119.here hx rfl (pc0 := 236) (pc' := 254) rfl (hb hby lw_d236) rfl (feq hc125).2 (by decide) (by decide) k) ?_
      show own_Dn p e below s _ _ _ (T119.setTop (mkF m 254 #[.val (.long q0), .second, .val (.int p1), .val (.int p2), .val (.int p3), .val (.int p4), .val (.long v6), .second, .val (.int v8), .val (.int v9), .val (.ref o38), .val (.int v11), .val (.long v12), .second, .val (.int v14), .val (.int v15), .val (.long v16), .second, .val (.int v18), .val (.long v19), .second, .val (.int v21), .val (.int (0 : Int32)), .val (.int (tk_f v21 w2 w3))] []))
      refine own_st (fun _ k => XS.iconst X119.here hx rfl (hb hby lw_d254) k) ?_
      show own_Dn p e below s _ _ _ (T119.setTop (mkF m 255 #[.val (.long q0), .second, .val (.int p1), .val (.int p2), .val (.int p3), .val (.int p4), .val (.long v6), .second, .val (.int v8), .val (.int v9), .val (.ref o38), .val (.int v11), .val (.long v12), .second, .val (.int v14), .val (.int v15), .val (.long v16), .second, .val (.int v18), .val (.long v19), .second, .val (.int v21), .val (.int (0 : Int32)), .val (.int (tk_f v21 w2 w3))] [(.int (0 : Int32))]))
      exact own_retZ X119 hx hret hlk (by decide) (hb hby lw_d255) (by decide) (by decide) ⟨(by rw [hr0, lw_f204, if_pos hc118, if_neg hc125]), N119⟩
  · refine own_st (fun _ k => XS.ifNo X0.here hx rfl (hb hby lw_d213) rfl (own_jflt hc118).2.2.1 k) ?_
    show own_Dn p e below s _ _ _ (T0.setTop (mkF m 216 #[.val (.long q0), .second, .val (.int p1), .val (.int p2), .val (.int p3), .val (.int p4), .val (.long v6), .second, .val (.int v8), .val (.int v9), .val (.ref o38), .val (.int v11), .val (.long v12), .second, .val (.int v14), .val (.int v15), .val (.long v16), .second, .val (.int v18), .val (.long v19), .second, .val (.int v21), .unset, .unset] []))
    refine own_st (fun _ k => XS.iconst X0.here hx rfl (hb hby lw_d216) (XS.goto X0.here hx rfl (pc0 := 217) (pc' := 221) rfl (hb hby lw_d217) (by decide) (by decide) (XS.istore X0.here hx rfl (hb hby lw_d221) rfl (l' := #[.val (.long q0), .second, .val (.int p1), .val (.int p2), .val (.int p3), .val (.int p4), .val (.long v6), .second, .val (.int v8), .val (.int v9), .val (.ref o38), .val (.int v11), .val (.long v12), .second, .val (.int v14), .val (.int v15), .val (.long v16), .second, .val (.int v18), .val (.long v19), .second, .val (.int v21), .val (.int (1 : Int32)), .unset]) rfl (XS.aload X0.here hx rfl (hb hby lw_d223) rfl rfl (XS.iload X0.here hx rfl (hb hby lw_d225) rfl k))))) ?_
    show own_Dn p e below s _ _ _ (T0.setTop (mkF m 227 #[.val (.long q0), .second, .val (.int p1), .val (.int p2), .val (.int p3), .val (.int p4), .val (.long v6), .second, .val (.int v8), .val (.int v9), .val (.ref o38), .val (.int v11), .val (.long v12), .second, .val (.int v14), .val (.int v15), .val (.long v16), .second, .val (.int v18), .val (.long v19), .second, .val (.int v21), .val (.int (1 : Int32)), .unset] [(.int v21), (.ref o38)]))
    obtain ⟨cq128, kq128, q128a, q128b, q128c⟩ := isOf hZ e0 P1
    obtain ⟨_, _, ⟨T128, L128, k128, n128⟩, -, X128, ⟨Lc128, hQ128, l128, y128, z128⟩, st128⟩ := X0.virtualBack hx (y := (⟨"com/example/stierlin/stierlin/broker/RequestMemory", "take", "(I)Z"⟩ : MethodName)) (z := (⟨"com/example/stierlin/stierlin/broker/RequestMemory", "take", "(I)Z"⟩ : MethodName)) hown (mvT hZ (hw _ (List.mem_of_getElem? (i := 41) rfl))) (mvT hZ (hw _ (List.mem_of_getElem? (i := 42) rfl))) (notFace_of_selects (args := #[]) (mvT hZ (hw _ (List.mem_of_getElem? (i := 44) rfl)))) (mvT hZ (hw _ (List.mem_of_getElem? (i := 44) rfl))) (mvT hZ (hw _ (List.mem_of_getElem? (i := 43) rfl))) (by decide) (backOf (W := 0) (tk_rm l Z a0 hw [] (o38) (v21) (w2) (w3) h0 n0 Z0 P1 P2 P3 kn0) hZ (hw _ (List.mem_of_getElem? (i := 45) rfl)) (hw _ (List.mem_of_getElem? (i := 8) rfl)) (by decide) (by decide)) q128a q128c (g := (mkF m 227 #[.val (.long q0), .second, .val (.int p1), .val (.int p2), .val (.int p3), .val (.int p4), .val (.long v6), .second, .val (.int v8), .val (.int v9), .val (.ref o38), .val (.int v11), .val (.long v12), .second, .val (.int v14), .val (.int v15), .val (.long v16), .second, .val (.int v18), .val (.long v19), .second, .val (.int v21), .val (.int (1 : Int32)), .unset] [(.int v21), (.ref o38)])) rfl (by rw [hml]; rfl) (Steps.refl _) (argsL := [(.int v21)]) (rest := []) (lenOf own_pd4 rfl) rfl (by show 2 * 0 + _ ≤ _; exact Nat.le_of_eq rfl) (hb hby lw_d227) (fun _ _ => ⟨rfl, e0, (by decide : 3 + 0 ≤ _), (by decide : 23 + 0 ≤ _)⟩)
    dsimp only [Pt.U, Pt.locs, Pt.cells, Pt.slots] at X128 l128 y128 z128 st128 hQ128
    subst l128 y128 z128
    obtain ⟨rfl, N128q, K128, G129, G130, G131⟩ := hQ128
    have F132 : n0 ≤ T128.heap.size := Nat.le_trans Z0 K128.1
    have F133 : Exa Z T128.heap o38 "com/example/stierlin/stierlin/broker/RequestMemory" := P1.keep K128
    have N128 := Fr.app N0 N128q
    refine own_tr st128 ?_
    show own_Dn p e below s _ _ _ (T128.setTop (mkF m 230 #[.val (.long q0), .second, .val (.int p1), .val (.int p2), .val (.int p3), .val (.int p4), .val (.long v6), .second, .val (.int v8), .val (.int v9), .val (.ref o38), .val (.int v11), .val (.long v12), .second, .val (.int v14), .val (.int v15), .val (.long v16), .second, .val (.int v18), .val (.long v19), .second, .val (.int v21), .val (.int (1 : Int32)), .unset] [(.int (tk_f v21 w2 w3))]))
    refine own_st (fun _ k => XS.istore X128.here hx rfl (hb hby lw_d230) rfl (l' := #[.val (.long q0), .second, .val (.int p1), .val (.int p2), .val (.int p3), .val (.int p4), .val (.long v6), .second, .val (.int v8), .val (.int v9), .val (.ref o38), .val (.int v11), .val (.long v12), .second, .val (.int v14), .val (.int v15), .val (.long v16), .second, .val (.int v18), .val (.long v19), .second, .val (.int v21), .val (.int (1 : Int32)), .val (.int (tk_f v21 w2 w3))]) rfl (XS.iload X128.here hx rfl (hb hby lw_d232) rfl (XS.iload X128.here hx rfl (hb hby lw_d234) rfl k))) ?_
    show own_Dn p e below s _ _ _ (T128.setTop (mkF m 236 #[.val (.long q0), .second, .val (.int p1), .val (.int p2), .val (.int p3), .val (.int p4), .val (.long v6), .second, .val (.int v8), .val (.int v9), .val (.ref o38), .val (.int v11), .val (.long v12), .second, .val (.int v14), .val (.int v15), .val (.long v16), .second, .val (.int v18), .val (.long v19), .second, .val (.int v21), .val (.int (1 : Int32)), .val (.int (tk_f v21 w2 w3))] [(.int (1 : Int32)), (.int (tk_f v21 w2 w3))]))
    by_cases hc134 : (tk_f v21 w2 w3) = (1 : Int32)
    · refine own_st (fun _ k => XS.icmpNo X128.here hx rfl (hb hby lw_d236) rfl (teq hc134).2 k) ?_
      show own_Dn p e below s _ _ _ (T128.setTop (mkF m 239 #[.val (.long q0), .second, .val (.int p1), .val (.int p2), .val (.int p3), .val (.int p4), .val (.long v6), .second, .val (.int v8), .val (.int v9), .val (.ref o38), .val (.int v11), .val (.long v12), .second, .val (.int v14), .val (.int v15), .val (.long v16), .second, .val (.int v18), .val (.long v19), .second, .val (.int v21), .val (.int (1 : Int32)), .val (.int (tk_f v21 w2 w3))] []))
      refine own_st (fun _ k => XS.aload X128.here hx rfl (hb hby lw_d239) rfl rfl k) ?_
      show own_Dn p e below s _ _ _ (T128.setTop (mkF m 241 #[.val (.long q0), .second, .val (.int p1), .val (.int p2), .val (.int p3), .val (.int p4), .val (.long v6), .second, .val (.int v8), .val (.int v9), .val (.ref o38), .val (.int v11), .val (.long v12), .second, .val (.int v14), .val (.int v15), .val (.long v16), .second, .val (.int v18), .val (.long v19), .second, .val (.int v21), .val (.int (1 : Int32)), .val (.int (tk_f v21 w2 w3))] [(.ref o38)]))
      obtain ⟨cq135, kq135, q135a, q135b, q135c⟩ := isOf hZ rfl G129
      obtain ⟨_, _, ⟨T135, L135, k135, n135⟩, -, X135, ⟨Lc135, hQ135, l135, y135, z135⟩, st135⟩ := X128.virtualBack hx (y := (⟨"com/example/stierlin/stierlin/broker/RequestMemory", "limit", "()J"⟩ : MethodName)) (z := (⟨"com/example/stierlin/stierlin/broker/RequestMemory", "limit", "()J"⟩ : MethodName)) hown (mvT hZ (hw _ (List.mem_of_getElem? (i := 36) rfl))) (mvT hZ (hw _ (List.mem_of_getElem? (i := 37) rfl))) (notFace_of_selects (args := #[]) (mvT hZ (hw _ (List.mem_of_getElem? (i := 39) rfl)))) (mvT hZ (hw _ (List.mem_of_getElem? (i := 39) rfl))) (mvT hZ (hw _ (List.mem_of_getElem? (i := 38) rfl))) (by decide) (backOf (W := 0) (li_rm l Z a0 hw [] (o38) (w2) T128.heap n0 F132 G130) hZ (hw _ (List.mem_of_getElem? (i := 40) rfl)) (hw _ (List.mem_of_getElem? (i := 8) rfl)) (by decide) (by decide)) q135a q135c (g := (mkF m 241 #[.val (.long q0), .second, .val (.int p1), .val (.int p2), .val (.int p3), .val (.int p4), .val (.long v6), .second, .val (.int v8), .val (.int v9), .val (.ref o38), .val (.int v11), .val (.long v12), .second, .val (.int v14), .val (.int v15), .val (.long v16), .second, .val (.int v18), .val (.long v19), .second, .val (.int v21), .val (.int (1 : Int32)), .val (.int (tk_f v21 w2 w3))] [(.ref o38)])) rfl (by rw [hml]; rfl) (Steps.refl _) (argsL := []) (rest := []) (lenOf own_pd3 rfl) rfl (by show 2 * 0 + _ ≤ _; exact Nat.le_of_eq rfl) (hb hby lw_d241) (fun _ _ => ⟨rfl, rfl, (by decide : 3 + 0 ≤ _), (by decide : 23 + 0 ≤ _)⟩)
      dsimp only [Pt.U, Pt.locs, Pt.cells, Pt.slots] at X135 l135 y135 z135 st135 hQ135
      subst l135 y135 z135
      obtain ⟨rfl, N135q, e135⟩ := hQ135
      have N135 := Fr.app N128 N135q
      refine own_tr st135 ?_
      show own_Dn p e below s _ _ _ (T135.setTop (mkF m 244 #[.val (.long q0), .second, .val (.int p1), .val (.int p2), .val (.int p3), .val (.int p4), .val (.long v6), .second, .val (.int v8), .val (.int v9), .val (.ref o38), .val (.int v11), .val (.long v12), .second, .val (.int v14), .val (.int v15), .val (.long v16), .second, .val (.int v18), .val (.long v19), .second, .val (.int v21), .val (.int (1 : Int32)), .val (.int (tk_f v21 w2 w3))] [(.long (li_f w2))]))
      refine own_st (fun _ k => XS.lload X135.here hx rfl (hb hby lw_d244) rfl (XS.lcmp X135.here hx rfl (hb hby lw_d246) rfl k)) ?_
      show own_Dn p e below s _ _ _ (T135.setTop (mkF m 247 #[.val (.long q0), .second, .val (.int p1), .val (.int p2), .val (.int p3), .val (.int p4), .val (.long v6), .second, .val (.int v8), .val (.int v9), .val (.ref o38), .val (.int v11), .val (.long v12), .second, .val (.int v14), .val (.int v15), .val (.long v16), .second, .val (.int v18), .val (.long v19), .second, .val (.int v21), .val (.int (1 : Int32)), .val (.int (tk_f v21 w2 w3))] [(.int (lcmpW (li_f w2) v6))]))
      by_cases hc136 : (li_f w2) = v6
      · refine own_st (fun _ k => XS.ifNo X135.here hx rfl (hb hby lw_d247) rfl (own_jteq hc136).2 k) ?_
        show own_Dn p e below s _ _ _ (T135.setTop (mkF m 250 #[.val (.long q0), .second, .val (.int p1), .val (.int p2), .val (.int p3), .val (.int p4), .val (.long v6), .second, .val (.int v8), .val (.int v9), .val (.ref o38), .val (.int v11), .val (.long v12), .second, .val (.int v14), .val (.int v15), .val (.long v16), .second, .val (.int v18), .val (.long v19), .second, .val (.int v21), .val (.int (1 : Int32)), .val (.int (tk_f v21 w2 w3))] []))
        refine own_st (fun _ k => XS.iconst X135.here hx rfl (hb hby lw_d250) (XS.goto X135.here hx rfl (pc0 := 251) (pc' := 255) rfl (hb hby lw_d251) (by decide) (by decide) k)) ?_
        show own_Dn p e below s _ _ _ (T135.setTop (mkF m 255 #[.val (.long q0), .second, .val (.int p1), .val (.int p2), .val (.int p3), .val (.int p4), .val (.long v6), .second, .val (.int v8), .val (.int v9), .val (.ref o38), .val (.int v11), .val (.long v12), .second, .val (.int v14), .val (.int v15), .val (.long v16), .second, .val (.int v18), .val (.long v19), .second, .val (.int v21), .val (.int (1 : Int32)), .val (.int (tk_f v21 w2 w3))] [(.int (1 : Int32))]))
        exact own_retZ X135 hx hret hlk (by decide) (hb hby lw_d255) (by decide) (by decide) ⟨(by rw [hr0, lw_f204, if_neg hc118, if_pos hc134, if_pos hc136]), N135⟩
      · refine own_st (fun _ k => XS.ifYes X135.here hx rfl (pc0 := 247) (pc' := 254) rfl (hb hby lw_d247) rfl (own_jfeq hc136).2 (by decide) (by decide) k) ?_
        show own_Dn p e below s _ _ _ (T135.setTop (mkF m 254 #[.val (.long q0), .second, .val (.int p1), .val (.int p2), .val (.int p3), .val (.int p4), .val (.long v6), .second, .val (.int v8), .val (.int v9), .val (.ref o38), .val (.int v11), .val (.long v12), .second, .val (.int v14), .val (.int v15), .val (.long v16), .second, .val (.int v18), .val (.long v19), .second, .val (.int v21), .val (.int (1 : Int32)), .val (.int (tk_f v21 w2 w3))] []))
        refine own_st (fun _ k => XS.iconst X135.here hx rfl (hb hby lw_d254) k) ?_
        show own_Dn p e below s _ _ _ (T135.setTop (mkF m 255 #[.val (.long q0), .second, .val (.int p1), .val (.int p2), .val (.int p3), .val (.int p4), .val (.long v6), .second, .val (.int v8), .val (.int v9), .val (.ref o38), .val (.int v11), .val (.long v12), .second, .val (.int v14), .val (.int v15), .val (.long v16), .second, .val (.int v18), .val (.long v19), .second, .val (.int v21), .val (.int (1 : Int32)), .val (.int (tk_f v21 w2 w3))] [(.int (0 : Int32))]))
        exact own_retZ X135 hx hret hlk (by decide) (hb hby lw_d255) (by decide) (by decide) ⟨(by rw [hr0, lw_f204, if_neg hc118, if_pos hc134, if_neg hc136]), N135⟩
    · refine own_st (fun _ k => XS.icmpYes X128.here hx rfl (pc0 := 236) (pc' := 254) rfl (hb hby lw_d236) rfl (feq hc134).2 (by decide) (by decide) k) ?_
      show own_Dn p e below s _ _ _ (T128.setTop (mkF m 254 #[.val (.long q0), .second, .val (.int p1), .val (.int p2), .val (.int p3), .val (.int p4), .val (.long v6), .second, .val (.int v8), .val (.int v9), .val (.ref o38), .val (.int v11), .val (.long v12), .second, .val (.int v14), .val (.int v15), .val (.long v16), .second, .val (.int v18), .val (.long v19), .second, .val (.int v21), .val (.int (1 : Int32)), .val (.int (tk_f v21 w2 w3))] []))
      refine own_st (fun _ k => XS.iconst X128.here hx rfl (hb hby lw_d254) k) ?_
      show own_Dn p e below s _ _ _ (T128.setTop (mkF m 255 #[.val (.long q0), .second, .val (.int p1), .val (.int p2), .val (.int p3), .val (.int p4), .val (.long v6), .second, .val (.int v8), .val (.int v9), .val (.ref o38), .val (.int v11), .val (.long v12), .second, .val (.int v14), .val (.int v15), .val (.long v16), .second, .val (.int v18), .val (.long v19), .second, .val (.int v21), .val (.int (1 : Int32)), .val (.int (tk_f v21 w2 w3))] [(.int (0 : Int32))]))
      exact own_retZ X128 hx hret hlk (by decide) (hb hby lw_d255) (by decide) (by decide) ⟨(by rw [hr0, lw_f204, if_neg hc118, if_neg hc134]), N128⟩
def lw_f144 (q0 : Int64) (p1 : Int32) (p2 : Int32) (p3 : Int32) (p4 : Int32) (v6 : Int64) (v8 : Int32) (v9 : Int32) (v11 : Int32) (v12 : Int64) (v14 : Int32) (v15 : Int32) (u0 : Int64) (w2 : Int64) (w3 : Int64) : Int32 :=
  if (tk_f v9 w2 w3) = v15 then
    if (p1 &&& (2 : Int32)) = (0 : Int32) then
      lw_f204 q0 p1 p2 p3 p4 (v6) (v8) (v9) (v11) (v12) (v14) (v15) (u0) ((tk_f v9 w2 w3)) ((v6 - u0)) ((p4 &&& (2147483647 : Int32))) (w2) ((tk_g2 v9 w2 w3))
    else
      if (2147483646 : Int64) < (v6 - u0) then
        lw_f204 q0 p1 p2 p3 p4 (v6) (v8) (v9) (v11) (v12) (v14) (v15) (u0) ((tk_f v9 w2 w3)) ((v6 - u0)) ((p4 &&& (2147483647 : Int32))) (w2) ((tk_g2 v9 w2 w3))
      else
        lw_f204 q0 p1 p2 p3 p4 (v6) (v8) (v9) (v11) (v12) (v14) (v15) (u0) ((tk_f v9 w2 w3)) ((v6 - u0)) ((((v6 - u0).toInt32) + ((p1 >>> ((2 : Int32) &&& 31)) &&& (1 : Int32)))) (w2) ((tk_g2 v9 w2 w3))
  else
    (0 : Int32)
set_option maxRecDepth 65536 in
set_option maxHeartbeats 40000000 in
theorem lw_c144 {l : Launch} {Z : State} {a0 : Array Value} {q0 : Int64} {p1 : Int32} {p2 : Int32} {p3 : Int32} {p4 : Int32} {h0 : Heap} {n0 : Nat} {p : Program} {e : Env} {s : State} {m : MethodId} {args : Array Value} {below : List Frame} {meth : Method} {c : Code} {T0 : State} {locs : List Loc} {o38 : Addr} {r0 : Int32} (C0 : own_Cx p s m meth c Z a0 code 24 "com/example/stierlin/stierlin/broker/RequestMemoryTakePinLaw" "law" (some .boolean)) (X0 : Stand p l e room_1 s m args below meth c T0 locs 3 23) (e0 : T0.heap = h0) (N0 : Fr n0 locs) (v6 : Int64) (v8 : Int32) (v9 : Int32) (v11 : Int32) (v12 : Int64) (v14 : Int32) (v15 : Int32) (u0 : Int64) (w2 : Int64) (w3 : Int64) (Z0 : n0 ≤ h0.size) (P1 : Exa Z h0 o38 "com/example/stierlin/stierlin/broker/RequestMemory") (P2 : Fld Z h0 o38 "com/example/stierlin/stierlin/broker/RequestMemory" "limit" "J" (.long w2)) (P3 : Fld Z h0 o38 "com/example/stierlin/stierlin/broker/RequestMemory" "taken" "J" (.long w3)) (kn0 : n0 ≤ o38) (hr0 : r0 = lw_f144 q0 p1 p2 p3 p4 v6 v8 v9 v11 v12 v14 v15 u0 w2 w3) :
    own_Dn p e below s (own_QL (some (.int r0)) n0) room_1.cells room_1.slots (T0.setTop (mkF m 144 #[.val (.long q0), .second, .val (.int p1), .val (.int p2), .val (.int p3), .val (.int p4), .val (.long v6), .second, .val (.int v8), .val (.int v9), .val (.ref o38), .val (.int v11), .val (.long v12), .second, .val (.int v14), .val (.int v15), .unset, .unset, .unset, .unset, .unset, .unset, .unset, .unset] [(.long u0)])) := by
  obtain ⟨hx, hZ, hw, hby, hml, hown, hret, hlk, hnm⟩ := id C0
  refine own_st (fun _ k => XS.lstore X0.here hx rfl (hb hby lw_d144) rfl (l' := #[.val (.long q0), .second, .val (.int p1), .val (.int p2), .val (.int p3), .val (.int p4), .val (.long v6), .second, .val (.int v8), .val (.int v9), .val (.ref o38), .val (.int v11), .val (.long v12), .second, .val (.int v14), .val (.int v15), .val (.long u0), .second, .unset, .unset, .unset, .unset, .unset, .unset]) rfl (XS.aload X0.here hx rfl (hb hby lw_d146) rfl rfl (XS.iload X0.here hx rfl (hb hby lw_d148) rfl k))) ?_
  show own_Dn p e below s _ _ _ (T0.setTop (mkF m 150 #[.val (.long q0), .second, .val (.int p1), .val (.int p2), .val (.int p3), .val (.int p4), .val (.long v6), .second, .val (.int v8), .val (.int v9), .val (.ref o38), .val (.int v11), .val (.long v12), .second, .val (.int v14), .val (.int v15), .val (.long u0), .second, .unset, .unset, .unset, .unset, .unset, .unset] [(.int v9), (.ref o38)]))
  obtain ⟨cq109, kq109, q109a, q109b, q109c⟩ := isOf hZ e0 P1
  obtain ⟨_, _, ⟨T109, L109, k109, n109⟩, -, X109, ⟨Lc109, hQ109, l109, y109, z109⟩, st109⟩ := X0.virtualBack hx (y := (⟨"com/example/stierlin/stierlin/broker/RequestMemory", "take", "(I)Z"⟩ : MethodName)) (z := (⟨"com/example/stierlin/stierlin/broker/RequestMemory", "take", "(I)Z"⟩ : MethodName)) hown (mvT hZ (hw _ (List.mem_of_getElem? (i := 41) rfl))) (mvT hZ (hw _ (List.mem_of_getElem? (i := 42) rfl))) (notFace_of_selects (args := #[]) (mvT hZ (hw _ (List.mem_of_getElem? (i := 44) rfl)))) (mvT hZ (hw _ (List.mem_of_getElem? (i := 44) rfl))) (mvT hZ (hw _ (List.mem_of_getElem? (i := 43) rfl))) (by decide) (backOf (W := 0) (tk_rm l Z a0 hw [] (o38) (v9) (w2) (w3) h0 n0 Z0 P1 P2 P3 kn0) hZ (hw _ (List.mem_of_getElem? (i := 45) rfl)) (hw _ (List.mem_of_getElem? (i := 8) rfl)) (by decide) (by decide)) q109a q109c (g := (mkF m 150 #[.val (.long q0), .second, .val (.int p1), .val (.int p2), .val (.int p3), .val (.int p4), .val (.long v6), .second, .val (.int v8), .val (.int v9), .val (.ref o38), .val (.int v11), .val (.long v12), .second, .val (.int v14), .val (.int v15), .val (.long u0), .second, .unset, .unset, .unset, .unset, .unset, .unset] [(.int v9), (.ref o38)])) rfl (by rw [hml]; rfl) (Steps.refl _) (argsL := [(.int v9)]) (rest := []) (lenOf own_pd4 rfl) rfl (by show 2 * 0 + _ ≤ _; exact Nat.le_of_eq rfl) (hb hby lw_d150) (fun _ _ => ⟨rfl, e0, (by decide : 3 + 0 ≤ _), (by decide : 23 + 0 ≤ _)⟩)
  dsimp only [Pt.U, Pt.locs, Pt.cells, Pt.slots] at X109 l109 y109 z109 st109 hQ109
  subst l109 y109 z109
  obtain ⟨rfl, N109q, K109, G110, G111, G112⟩ := hQ109
  have F113 : n0 ≤ T109.heap.size := Nat.le_trans Z0 K109.1
  have F114 : Exa Z T109.heap o38 "com/example/stierlin/stierlin/broker/RequestMemory" := P1.keep K109
  have N109 := Fr.app N0 N109q
  refine own_tr st109 ?_
  show own_Dn p e below s _ _ _ (T109.setTop (mkF m 153 #[.val (.long q0), .second, .val (.int p1), .val (.int p2), .val (.int p3), .val (.int p4), .val (.long v6), .second, .val (.int v8), .val (.int v9), .val (.ref o38), .val (.int v11), .val (.long v12), .second, .val (.int v14), .val (.int v15), .val (.long u0), .second, .unset, .unset, .unset, .unset, .unset, .unset] [(.int (tk_f v9 w2 w3))]))
  refine own_st (fun _ k => XS.istore X109.here hx rfl (hb hby lw_d153) rfl (l' := #[.val (.long q0), .second, .val (.int p1), .val (.int p2), .val (.int p3), .val (.int p4), .val (.long v6), .second, .val (.int v8), .val (.int v9), .val (.ref o38), .val (.int v11), .val (.long v12), .second, .val (.int v14), .val (.int v15), .val (.long u0), .second, .val (.int (tk_f v9 w2 w3)), .unset, .unset, .unset, .unset, .unset]) rfl (XS.iload X109.here hx rfl (hb hby lw_d155) rfl (XS.iload X109.here hx rfl (hb hby lw_d157) rfl k))) ?_
  show own_Dn p e below s _ _ _ (T109.setTop (mkF m 159 #[.val (.long q0), .second, .val (.int p1), .val (.int p2), .val (.int p3), .val (.int p4), .val (.long v6), .second, .val (.int v8), .val (.int v9), .val (.ref o38), .val (.int v11), .val (.long v12), .second, .val (.int v14), .val (.int v15), .val (.long u0), .second, .val (.int (tk_f v9 w2 w3)), .unset, .unset, .unset, .unset, .unset] [(.int v15), (.int (tk_f v9 w2 w3))]))
  by_cases hc115 : (tk_f v9 w2 w3) = v15
  · refine own_st (fun _ k => XS.icmpYes X109.here hx rfl (pc0 := 159) (pc' := 164) rfl (hb hby lw_d159) rfl (teq hc115).1 (by decide) (by decide) k) ?_
    show own_Dn p e below s _ _ _ (T109.setTop (mkF m 164 #[.val (.long q0), .second, .val (.int p1), .val (.int p2), .val (.int p3), .val (.int p4), .val (.long v6), .second, .val (.int v8), .val (.int v9), .val (.ref o38), .val (.int v11), .val (.long v12), .second, .val (.int v14), .val (.int v15), .val (.long u0), .second, .val (.int (tk_f v9 w2 w3)), .unset, .unset, .unset, .unset, .unset] []))
    refine own_st (fun _ k => XS.lload X109.here hx rfl (hb hby lw_d164) rfl (XS.lload X109.here hx rfl (hb hby lw_d166) rfl (XS.lsub X109.here hx rfl (hb hby lw_d168) rfl (XS.lstore X109.here hx rfl (hb hby lw_d169) rfl (l' := #[.val (.long q0), .second, .val (.int p1), .val (.int p2), .val (.int p3), .val (.int p4), .val (.long v6), .second, .val (.int v8), .val (.int v9), .val (.ref o38), .val (.int v11), .val (.long v12), .second, .val (.int v14), .val (.int v15), .val (.long u0), .second, .val (.int (tk_f v9 w2 w3)), .val (.long (v6 - u0)), .second, .unset, .unset, .unset]) rfl (XS.iload X109.here hx rfl (hb hby lw_d171) rfl (X109.ldcInt hx (index := 19) (v := (2147483647 : Int32)) hown (mvT hZ (hw _ (List.mem_of_getElem? (i := 5) rfl))) (g := (mkF m 173 #[.val (.long q0), .second, .val (.int p1), .val (.int p2), .val (.int p3), .val (.int p4), .val (.long v6), .second, .val (.int v8), .val (.int v9), .val (.ref o38), .val (.int v11), .val (.long v12), .second, .val (.int v14), .val (.int v15), .val (.long u0), .second, .val (.int (tk_f v9 w2 w3)), .val (.long (v6 - u0)), .second, .unset, .unset, .unset] [(.int p4)])) rfl (hb hby lw_d173) _ (XS.iand X109.here hx rfl (hb hby lw_d175) rfl (XS.istore X109.here hx rfl (hb hby lw_d176) rfl (l' := #[.val (.long q0), .second, .val (.int p1), .val (.int p2), .val (.int p3), .val (.int p4), .val (.long v6), .second, .val (.int v8), .val (.int v9), .val (.ref o38), .val (.int v11), .val (.long v12), .second, .val (.int v14), .val (.int v15), .val (.long u0), .second, .val (.int (tk_f v9 w2 w3)), .val (.long (v6 - u0)), .second, .val (.int (p4 &&& (2147483647 : Int32))), .unset, .unset]) rfl (XS.iloadN X109.here hx rfl (hb hby lw_d178) rfl (XS.iconst X109.here hx rfl (hb hby lw_d179) (XS.iand X109.here hx rfl (hb hby lw_d180) rfl k))))))))))) ?_
    show own_Dn p e below s _ _ _ (T109.setTop (mkF m 181 #[.val (.long q0), .second, .val (.int p1), .val (.int p2), .val (.int p3), .val (.int p4), .val (.long v6), .second, .val (.int v8), .val (.int v9), .val (.ref o38), .val (.int v11), .val (.long v12), .second, .val (.int v14), .val (.int v15), .val (.long u0), .second, .val (.int (tk_f v9 w2 w3)), .val (.long (v6 - u0)), .second, .val (.int (p4 &&& (2147483647 : Int32))), .unset, .unset] [(.int (p1 &&& (2 : Int32)))]))
    by_cases hc116 : (p1 &&& (2 : Int32)) = (0 : Int32)
    · refine own_st (fun _ k => XS.ifYes X109.here hx rfl (pc0 := 181) (pc' := 204) rfl (hb hby lw_d181) rfl ((if0 _ _).trans (teq hc116).1) (by decide) (by decide) k) ?_
      show own_Dn p e below s _ _ _ (T109.setTop (mkF m 204 #[.val (.long q0), .second, .val (.int p1), .val (.int p2), .val (.int p3), .val (.int p4), .val (.long v6), .second, .val (.int v8), .val (.int v9), .val (.ref o38), .val (.int v11), .val (.long v12), .second, .val (.int v14), .val (.int v15), .val (.long u0), .second, .val (.int (tk_f v9 w2 w3)), .val (.long (v6 - u0)), .second, .val (.int (p4 &&& (2147483647 : Int32))), .unset, .unset] []))
      exact lw_c204 C0 X109 rfl N109 (v6) (v8) (v9) (v11) (v12) (v14) (v15) (u0) ((tk_f v9 w2 w3)) ((v6 - u0)) ((p4 &&& (2147483647 : Int32))) (w2) ((tk_g2 v9 w2 w3)) F113 G110 G111 G112 kn0 (by rw [hr0, lw_f144, if_pos hc115, if_pos hc116])
    · refine own_st (fun _ k => XS.ifNo X109.here hx rfl (hb hby lw_d181) rfl ((if0 _ _).trans (feq hc116).1) k) ?_
      show own_Dn p e below s _ _ _ (T109.setTop (mkF m 184 #[.val (.long q0), .second, .val (.int p1), .val (.int p2), .val (.int p3), .val (.int p4), .val (.long v6), .second, .val (.int v8), .val (.int v9), .val (.ref o38), .val (.int v11), .val (.long v12), .second, .val (.int v14), .val (.int v15), .val (.long u0), .second, .val (.int (tk_f v9 w2 w3)), .val (.long (v6 - u0)), .second, .val (.int (p4 &&& (2147483647 : Int32))), .unset, .unset] []))
      refine own_st (fun _ k => XS.lload X109.here hx rfl (hb hby lw_d184) rfl (X109.ldc2Long hx (index := 35) (v := (2147483646 : Int64)) hown (mvT hZ (hw _ (List.mem_of_getElem? (i := 48) rfl))) (g := (mkF m 186 #[.val (.long q0), .second, .val (.int p1), .val (.int p2), .val (.int p3), .val (.int p4), .val (.long v6), .second, .val (.int v8), .val (.int v9), .val (.ref o38), .val (.int v11), .val (.long v12), .second, .val (.int v14), .val (.int v15), .val (.long u0), .second, .val (.int (tk_f v9 w2 w3)), .val (.long (v6 - u0)), .second, .val (.int (p4 &&& (2147483647 : Int32))), .unset, .unset] [(.long (v6 - u0))])) rfl (hb hby lw_d186) _ (XS.lcmp X109.here hx rfl (hb hby lw_d189) rfl k))) ?_
      show own_Dn p e below s _ _ _ (T109.setTop (mkF m 190 #[.val (.long q0), .second, .val (.int p1), .val (.int p2), .val (.int p3), .val (.int p4), .val (.long v6), .second, .val (.int v8), .val (.int v9), .val (.ref o38), .val (.int v11), .val (.long v12), .second, .val (.int v14), .val (.int v15), .val (.long u0), .second, .val (.int (tk_f v9 w2 w3)), .val (.long (v6 - u0)), .second, .val (.int (p4 &&& (2147483647 : Int32))), .unset, .unset] [(.int (lcmpW (v6 - u0) (2147483646 : Int64)))]))
      by_cases hc117 : (2147483646 : Int64) < (v6 - u0)
      · refine own_st (fun _ k => XS.ifYes X109.here hx rfl (pc0 := 190) (pc' := 204) rfl (hb hby lw_d190) rfl (own_jtlt hc117).2.2.1 (by decide) (by decide) k) ?_
        show own_Dn p e below s _ _ _ (T109.setTop (mkF m 204 #[.val (.long q0), .second, .val (.int p1), .val (.int p2), .val (.int p3), .val (.int p4), .val (.long v6), .second, .val (.int v8), .val (.int v9), .val (.ref o38), .val (.int v11), .val (.long v12), .second, .val (.int v14), .val (.int v15), .val (.long u0), .second, .val (.int (tk_f v9 w2 w3)), .val (.long (v6 - u0)), .second, .val (.int (p4 &&& (2147483647 : Int32))), .unset, .unset] []))
        exact lw_c204 C0 X109 rfl N109 (v6) (v8) (v9) (v11) (v12) (v14) (v15) (u0) ((tk_f v9 w2 w3)) ((v6 - u0)) ((p4 &&& (2147483647 : Int32))) (w2) ((tk_g2 v9 w2 w3)) F113 G110 G111 G112 kn0 (by rw [hr0, lw_f144, if_pos hc115, if_neg hc116, if_pos hc117])
      · refine own_st (fun _ k => XS.ifNo X109.here hx rfl (hb hby lw_d190) rfl (own_jflt hc117).2.2.1 k) ?_
        show own_Dn p e below s _ _ _ (T109.setTop (mkF m 193 #[.val (.long q0), .second, .val (.int p1), .val (.int p2), .val (.int p3), .val (.int p4), .val (.long v6), .second, .val (.int v8), .val (.int v9), .val (.ref o38), .val (.int v11), .val (.long v12), .second, .val (.int v14), .val (.int v15), .val (.long u0), .second, .val (.int (tk_f v9 w2 w3)), .val (.long (v6 - u0)), .second, .val (.int (p4 &&& (2147483647 : Int32))), .unset, .unset] []))
        refine own_st (fun _ k => XS.lload X109.here hx rfl (hb hby lw_d193) rfl (XS.l2i X109.here hx rfl (hb hby lw_d195) rfl (XS.iloadN X109.here hx rfl (hb hby lw_d196) rfl (XS.iconst X109.here hx rfl (hb hby lw_d197) (XS.ishr X109.here hx rfl (hb hby lw_d198) rfl (XS.iconst X109.here hx rfl (hb hby lw_d199) (XS.iand X109.here hx rfl (hb hby lw_d200) rfl (XS.iadd X109.here hx rfl (hb hby lw_d201) rfl (XS.istore X109.here hx rfl (hb hby lw_d202) rfl (l' := #[.val (.long q0), .second, .val (.int p1), .val (.int p2), .val (.int p3), .val (.int p4), .val (.long v6), .second, .val (.int v8), .val (.int v9), .val (.ref o38), .val (.int v11), .val (.long v12), .second, .val (.int v14), .val (.int v15), .val (.long u0), .second, .val (.int (tk_f v9 w2 w3)), .val (.long (v6 - u0)), .second, .val (.int (((v6 - u0).toInt32) + ((p1 >>> ((2 : Int32) &&& 31)) &&& (1 : Int32)))), .unset, .unset]) rfl k))))))))) ?_
        show own_Dn p e below s _ _ _ (T109.setTop (mkF m 204 #[.val (.long q0), .second, .val (.int p1), .val (.int p2), .val (.int p3), .val (.int p4), .val (.long v6), .second, .val (.int v8), .val (.int v9), .val (.ref o38), .val (.int v11), .val (.long v12), .second, .val (.int v14), .val (.int v15), .val (.long u0), .second, .val (.int (tk_f v9 w2 w3)), .val (.long (v6 - u0)), .second, .val (.int (((v6 - u0).toInt32) + ((p1 >>> ((2 : Int32) &&& 31)) &&& (1 : Int32)))), .unset, .unset] []))
        exact lw_c204 C0 X109 rfl N109 (v6) (v8) (v9) (v11) (v12) (v14) (v15) (u0) ((tk_f v9 w2 w3)) ((v6 - u0)) ((((v6 - u0).toInt32) + ((p1 >>> ((2 : Int32) &&& 31)) &&& (1 : Int32)))) (w2) ((tk_g2 v9 w2 w3)) F113 G110 G111 G112 kn0 (by rw [hr0, lw_f144, if_pos hc115, if_neg hc116, if_neg hc117])
  · refine own_st (fun _ k => XS.icmpNo X109.here hx rfl (hb hby lw_d159) rfl (feq hc115).1 k) ?_
    show own_Dn p e below s _ _ _ (T109.setTop (mkF m 162 #[.val (.long q0), .second, .val (.int p1), .val (.int p2), .val (.int p3), .val (.int p4), .val (.long v6), .second, .val (.int v8), .val (.int v9), .val (.ref o38), .val (.int v11), .val (.long v12), .second, .val (.int v14), .val (.int v15), .val (.long u0), .second, .val (.int (tk_f v9 w2 w3)), .unset, .unset, .unset, .unset, .unset] []))
    refine own_st (fun _ k => XS.iconst X109.here hx rfl (hb hby lw_d162) k) ?_
    show own_Dn p e below s _ _ _ (T109.setTop (mkF m 163 #[.val (.long q0), .second, .val (.int p1), .val (.int p2), .val (.int p3), .val (.int p4), .val (.long v6), .second, .val (.int v8), .val (.int v9), .val (.ref o38), .val (.int v11), .val (.long v12), .second, .val (.int v14), .val (.int v15), .val (.long u0), .second, .val (.int (tk_f v9 w2 w3)), .unset, .unset, .unset, .unset, .unset] [(.int (0 : Int32))]))
    exact own_retZ X109 hx hret hlk (by decide) (hb hby lw_d163) (by decide) (by decide) ⟨(by rw [hr0, lw_f144, if_neg hc115]), N109⟩
def lw_f90 (q0 : Int64) (p1 : Int32) (p2 : Int32) (p3 : Int32) (p4 : Int32) (v6 : Int64) (v8 : Int32) (v9 : Int32) (v11 : Int32) (u0 : Int64) (w2 : Int64) : Int32 :=
  if (tk_f v8 w2 (0 : Int64)) = v11 then
    if v6 < (u0 + (v9.toInt64)) then
      lw_f144 q0 p1 p2 p3 p4 (v6) (v8) (v9) (v11) (u0) ((tk_f v8 w2 (0 : Int64))) ((0 : Int32)) ((u0 + (0 : Int64))) (w2) ((tk_g2 v8 w2 (0 : Int64)))
    else
      lw_f144 q0 p1 p2 p3 p4 (v6) (v8) (v9) (v11) (u0) ((tk_f v8 w2 (0 : Int64))) ((1 : Int32)) ((u0 + (v9.toInt64))) (w2) ((tk_g2 v8 w2 (0 : Int64)))
  else
    (0 : Int32)
set_option maxRecDepth 65536 in
set_option maxHeartbeats 40000000 in
theorem lw_c90 {l : Launch} {Z : State} {a0 : Array Value} {q0 : Int64} {p1 : Int32} {p2 : Int32} {p3 : Int32} {p4 : Int32} {h0 : Heap} {n0 : Nat} {p : Program} {e : Env} {s : State} {m : MethodId} {args : Array Value} {below : List Frame} {meth : Method} {c : Code} {T0 : State} {locs : List Loc} {o38 : Addr} {r0 : Int32} (C0 : own_Cx p s m meth c Z a0 code 24 "com/example/stierlin/stierlin/broker/RequestMemoryTakePinLaw" "law" (some .boolean)) (X0 : Stand p l e room_1 s m args below meth c T0 locs 3 23) (e0 : T0.heap = h0) (N0 : Fr n0 locs) (v6 : Int64) (v8 : Int32) (v9 : Int32) (v11 : Int32) (u0 : Int64) (w2 : Int64) (Z0 : n0 ≤ h0.size) (P1 : Exa Z h0 o38 "com/example/stierlin/stierlin/broker/RequestMemory") (P2 : Fld Z h0 o38 "com/example/stierlin/stierlin/broker/RequestMemory" "limit" "J" (.long w2)) (P3 : Fld Z h0 o38 "com/example/stierlin/stierlin/broker/RequestMemory" "taken" "J" (.long (0 : Int64))) (kn0 : n0 ≤ o38) (hr0 : r0 = lw_f90 q0 p1 p2 p3 p4 v6 v8 v9 v11 u0 w2) :
    own_Dn p e below s (own_QL (some (.int r0)) n0) room_1.cells room_1.slots (T0.setTop (mkF m 90 #[.val (.long q0), .second, .val (.int p1), .val (.int p2), .val (.int p3), .val (.int p4), .val (.long v6), .second, .val (.int v8), .val (.int v9), .val (.ref o38), .val (.int v11), .unset, .unset, .unset, .unset, .unset, .unset, .unset, .unset, .unset, .unset, .unset, .unset] [(.long u0)])) := by
  obtain ⟨hx, hZ, hw, hby, hml, hown, hret, hlk, hnm⟩ := id C0
  refine own_st (fun _ k => XS.lstore X0.here hx rfl (hb hby lw_d90) rfl (l' := #[.val (.long q0), .second, .val (.int p1), .val (.int p2), .val (.int p3), .val (.int p4), .val (.long v6), .second, .val (.int v8), .val (.int v9), .val (.ref o38), .val (.int v11), .val (.long u0), .second, .unset, .unset, .unset, .unset, .unset, .unset, .unset, .unset, .unset, .unset]) rfl (XS.aload X0.here hx rfl (hb hby lw_d92) rfl rfl (XS.iload X0.here hx rfl (hb hby lw_d94) rfl k))) ?_
  show own_Dn p e below s _ _ _ (T0.setTop (mkF m 96 #[.val (.long q0), .second, .val (.int p1), .val (.int p2), .val (.int p3), .val (.int p4), .val (.long v6), .second, .val (.int v8), .val (.int v9), .val (.ref o38), .val (.int v11), .val (.long u0), .second, .unset, .unset, .unset, .unset, .unset, .unset, .unset, .unset, .unset, .unset] [(.int v8), (.ref o38)]))
  obtain ⟨cq101, kq101, q101a, q101b, q101c⟩ := isOf hZ e0 P1
  obtain ⟨_, _, ⟨T101, L101, k101, n101⟩, -, X101, ⟨Lc101, hQ101, l101, y101, z101⟩, st101⟩ := X0.virtualBack hx (y := (⟨"com/example/stierlin/stierlin/broker/RequestMemory", "take", "(I)Z"⟩ : MethodName)) (z := (⟨"com/example/stierlin/stierlin/broker/RequestMemory", "take", "(I)Z"⟩ : MethodName)) hown (mvT hZ (hw _ (List.mem_of_getElem? (i := 41) rfl))) (mvT hZ (hw _ (List.mem_of_getElem? (i := 42) rfl))) (notFace_of_selects (args := #[]) (mvT hZ (hw _ (List.mem_of_getElem? (i := 44) rfl)))) (mvT hZ (hw _ (List.mem_of_getElem? (i := 44) rfl))) (mvT hZ (hw _ (List.mem_of_getElem? (i := 43) rfl))) (by decide) (backOf (W := 0) (tk_rm l Z a0 hw [] (o38) (v8) (w2) ((0 : Int64)) h0 n0 Z0 P1 P2 P3 kn0) hZ (hw _ (List.mem_of_getElem? (i := 45) rfl)) (hw _ (List.mem_of_getElem? (i := 8) rfl)) (by decide) (by decide)) q101a q101c (g := (mkF m 96 #[.val (.long q0), .second, .val (.int p1), .val (.int p2), .val (.int p3), .val (.int p4), .val (.long v6), .second, .val (.int v8), .val (.int v9), .val (.ref o38), .val (.int v11), .val (.long u0), .second, .unset, .unset, .unset, .unset, .unset, .unset, .unset, .unset, .unset, .unset] [(.int v8), (.ref o38)])) rfl (by rw [hml]; rfl) (Steps.refl _) (argsL := [(.int v8)]) (rest := []) (lenOf own_pd4 rfl) rfl (by show 2 * 0 + _ ≤ _; exact Nat.le_of_eq rfl) (hb hby lw_d96) (fun _ _ => ⟨rfl, e0, (by decide : 3 + 0 ≤ _), (by decide : 23 + 0 ≤ _)⟩)
  dsimp only [Pt.U, Pt.locs, Pt.cells, Pt.slots] at X101 l101 y101 z101 st101 hQ101
  subst l101 y101 z101
  obtain ⟨rfl, N101q, K101, G102, G103, G104⟩ := hQ101
  have F105 : n0 ≤ T101.heap.size := Nat.le_trans Z0 K101.1
  have F106 : Exa Z T101.heap o38 "com/example/stierlin/stierlin/broker/RequestMemory" := P1.keep K101
  have N101 := Fr.app N0 N101q
  refine own_tr st101 ?_
  show own_Dn p e below s _ _ _ (T101.setTop (mkF m 99 #[.val (.long q0), .second, .val (.int p1), .val (.int p2), .val (.int p3), .val (.int p4), .val (.long v6), .second, .val (.int v8), .val (.int v9), .val (.ref o38), .val (.int v11), .val (.long u0), .second, .unset, .unset, .unset, .unset, .unset, .unset, .unset, .unset, .unset, .unset] [(.int (tk_f v8 w2 (0 : Int64)))]))
  refine own_st (fun _ k => XS.istore X101.here hx rfl (hb hby lw_d99) rfl (l' := #[.val (.long q0), .second, .val (.int p1), .val (.int p2), .val (.int p3), .val (.int p4), .val (.long v6), .second, .val (.int v8), .val (.int v9), .val (.ref o38), .val (.int v11), .val (.long u0), .second, .val (.int (tk_f v8 w2 (0 : Int64))), .unset, .unset, .unset, .unset, .unset, .unset, .unset, .unset, .unset]) rfl (XS.iload X101.here hx rfl (hb hby lw_d101) rfl (XS.iload X101.here hx rfl (hb hby lw_d103) rfl k))) ?_
  show own_Dn p e below s _ _ _ (T101.setTop (mkF m 105 #[.val (.long q0), .second, .val (.int p1), .val (.int p2), .val (.int p3), .val (.int p4), .val (.long v6), .second, .val (.int v8), .val (.int v9), .val (.ref o38), .val (.int v11), .val (.long u0), .second, .val (.int (tk_f v8 w2 (0 : Int64))), .unset, .unset, .unset, .unset, .unset, .unset, .unset, .unset, .unset] [(.int v11), (.int (tk_f v8 w2 (0 : Int64)))]))
  by_cases hc107 : (tk_f v8 w2 (0 : Int64)) = v11
  · refine own_st (fun _ k => XS.icmpYes X101.here hx rfl (pc0 := 105) (pc' := 110) rfl (hb hby lw_d105) rfl (teq hc107).1 (by decide) (by decide) k) ?_
    show own_Dn p e below s _ _ _ (T101.setTop (mkF m 110 #[.val (.long q0), .second, .val (.int p1), .val (.int p2), .val (.int p3), .val (.int p4), .val (.long v6), .second, .val (.int v8), .val (.int v9), .val (.ref o38), .val (.int v11), .val (.long u0), .second, .val (.int (tk_f v8 w2 (0 : Int64))), .unset, .unset, .unset, .unset, .unset, .unset, .unset, .unset, .unset] []))
    refine own_st (fun _ k => XS.lload X101.here hx rfl (hb hby lw_d110) rfl (XS.iload X101.here hx rfl (hb hby lw_d112) rfl (XS.i2l X101.here hx rfl (hb hby lw_d114) rfl (XS.ladd X101.here hx rfl (hb hby lw_d115) rfl (XS.lload X101.here hx rfl (hb hby lw_d116) rfl (XS.lcmp X101.here hx rfl (hb hby lw_d118) rfl k)))))) ?_
    show own_Dn p e below s _ _ _ (T101.setTop (mkF m 119 #[.val (.long q0), .second, .val (.int p1), .val (.int p2), .val (.int p3), .val (.int p4), .val (.long v6), .second, .val (.int v8), .val (.int v9), .val (.ref o38), .val (.int v11), .val (.long u0), .second, .val (.int (tk_f v8 w2 (0 : Int64))), .unset, .unset, .unset, .unset, .unset, .unset, .unset, .unset, .unset] [(.int (lcmpW (u0 + (v9.toInt64)) v6))]))
    by_cases hc108 : v6 < (u0 + (v9.toInt64))
    · refine own_st (fun _ k => XS.ifYes X101.here hx rfl (pc0 := 119) (pc' := 126) rfl (hb hby lw_d119) rfl (own_jtlt hc108).2.2.1 (by decide) (by decide) k) ?_
      show own_Dn p e below s _ _ _ (T101.setTop (mkF m 126 #[.val (.long q0), .second, .val (.int p1), .val (.int p2), .val (.int p3), .val (.int p4), .val (.long v6), .second, .val (.int v8), .val (.int v9), .val (.ref o38), .val (.int v11), .val (.long u0), .second, .val (.int (tk_f v8 w2 (0 : Int64))), .unset, .unset, .unset, .unset, .unset, .unset, .unset, .unset, .unset] []))
      refine own_st (fun _ k => XS.iconst X101.here hx rfl (hb hby lw_d126) (XS.istore X101.here hx rfl (hb hby lw_d127) rfl (l' := #[.val (.long q0), .second, .val (.int p1), .val (.int p2), .val (.int p3), .val (.int p4), .val (.long v6), .second, .val (.int v8), .val (.int v9), .val (.ref o38), .val (.int v11), .val (.long u0), .second, .val (.int (tk_f v8 w2 (0 : Int64))), .val (.int (0 : Int32)), .unset, .unset, .unset, .unset, .unset, .unset, .unset, .unset]) rfl (XS.lload X101.here hx rfl (hb hby lw_d129) rfl (XS.iload X101.here hx rfl (hb hby lw_d131) rfl k)))) ?_
      show own_Dn p e below s _ _ _ (T101.setTop (mkF m 133 #[.val (.long q0), .second, .val (.int p1), .val (.int p2), .val (.int p3), .val (.int p4), .val (.long v6), .second, .val (.int v8), .val (.int v9), .val (.ref o38), .val (.int v11), .val (.long u0), .second, .val (.int (tk_f v8 w2 (0 : Int64))), .val (.int (0 : Int32)), .unset, .unset, .unset, .unset, .unset, .unset, .unset, .unset] [(.int (0 : Int32)), (.long u0)]))
      refine own_st (fun _ k => XS.ifYes X101.here hx rfl (pc0 := 133) (pc' := 142) rfl (hb hby lw_d133) rfl ((if0 _ _).trans (teq (by decide : (0 : Int32) = (0 : Int32))).1) (by decide) (by decide) k) ?_
      show own_Dn p e below s _ _ _ (T101.setTop (mkF m 142 #[.val (.long q0), .second, .val (.int p1), .val (.int p2), .val (.int p3), .val (.int p4), .val (.long v6), .second, .val (.int v8), .val (.int v9), .val (.ref o38), .val (.int v11), .val (.long u0), .second, .val (.int (tk_f v8 w2 (0 : Int64))), .val (.int (0 : Int32)), .unset, .unset, .unset, .unset, .unset, .unset, .unset, .unset] [(.long u0)]))
      refine own_st (fun _ k => XS.lconst X101.here hx rfl (hb hby lw_d142) (XS.ladd X101.here hx rfl (hb hby lw_d143) rfl k)) ?_
      show own_Dn p e below s _ _ _ (T101.setTop (mkF m 144 #[.val (.long q0), .second, .val (.int p1), .val (.int p2), .val (.int p3), .val (.int p4), .val (.long v6), .second, .val (.int v8), .val (.int v9), .val (.ref o38), .val (.int v11), .val (.long u0), .second, .val (.int (tk_f v8 w2 (0 : Int64))), .val (.int (0 : Int32)), .unset, .unset, .unset, .unset, .unset, .unset, .unset, .unset] [(.long (u0 + (0 : Int64)))]))
      exact lw_c144 C0 X101 rfl N101 (v6) (v8) (v9) (v11) (u0) ((tk_f v8 w2 (0 : Int64))) ((0 : Int32)) ((u0 + (0 : Int64))) (w2) ((tk_g2 v8 w2 (0 : Int64))) F105 G102 G103 G104 kn0 (by rw [hr0, lw_f90, if_pos hc107, if_pos hc108])
    · refine own_st (fun _ k => XS.ifNo X101.here hx rfl (hb hby lw_d119) rfl (own_jflt hc108).2.2.1 k) ?_
      show own_Dn p e below s _ _ _ (T101.setTop (mkF m 122 #[.val (.long q0), .second, .val (.int p1), .val (.int p2), .val (.int p3), .val (.int p4), .val (.long v6), .second, .val (.int v8), .val (.int v9), .val (.ref o38), .val (.int v11), .val (.long u0), .second, .val (.int (tk_f v8 w2 (0 : Int64))), .unset, .unset, .unset, .unset, .unset, .unset, .unset, .unset, .unset] []))
      refine own_st (fun _ k => XS.iconst X101.here hx rfl (hb hby lw_d122) (XS.goto X101.here hx rfl (pc0 := 123) (pc' := 127) rfl (hb hby lw_d123) (by decide) (by decide) (XS.istore X101.here hx rfl (hb hby lw_d127) rfl (l' := #[.val (.long q0), .second, .val (.int p1), .val (.int p2), .val (.int p3), .val (.int p4), .val (.long v6), .second, .val (.int v8), .val (.int v9), .val (.ref o38), .val (.int v11), .val (.long u0), .second, .val (.int (tk_f v8 w2 (0 : Int64))), .val (.int (1 : Int32)), .unset, .unset, .unset, .unset, .unset, .unset, .unset, .unset]) rfl (XS.lload X101.here hx rfl (hb hby lw_d129) rfl (XS.iload X101.here hx rfl (hb hby lw_d131) rfl k))))) ?_
      show own_Dn p e below s _ _ _ (T101.setTop (mkF m 133 #[.val (.long q0), .second, .val (.int p1), .val (.int p2), .val (.int p3), .val (.int p4), .val (.long v6), .second, .val (.int v8), .val (.int v9), .val (.ref o38), .val (.int v11), .val (.long u0), .second, .val (.int (tk_f v8 w2 (0 : Int64))), .val (.int (1 : Int32)), .unset, .unset, .unset, .unset, .unset, .unset, .unset, .unset] [(.int (1 : Int32)), (.long u0)]))
      refine own_st (fun _ k => XS.ifNo X101.here hx rfl (hb hby lw_d133) rfl ((if0 _ _).trans (feq (by decide : ¬ ((1 : Int32) = (0 : Int32)))).1) k) ?_
      show own_Dn p e below s _ _ _ (T101.setTop (mkF m 136 #[.val (.long q0), .second, .val (.int p1), .val (.int p2), .val (.int p3), .val (.int p4), .val (.long v6), .second, .val (.int v8), .val (.int v9), .val (.ref o38), .val (.int v11), .val (.long u0), .second, .val (.int (tk_f v8 w2 (0 : Int64))), .val (.int (1 : Int32)), .unset, .unset, .unset, .unset, .unset, .unset, .unset, .unset] [(.long u0)]))
      refine own_st (fun _ k => XS.iload X101.here hx rfl (hb hby lw_d136) rfl (XS.i2l X101.here hx rfl (hb hby lw_d138) rfl (XS.goto X101.here hx rfl (pc0 := 139) (pc' := 143) rfl (hb hby lw_d139) (by decide) (by decide) (XS.ladd X101.here hx rfl (hb hby lw_d143) rfl k)))) ?_
      show own_Dn p e below s _ _ _ (T101.setTop (mkF m 144 #[.val (.long q0), .second, .val (.int p1), .val (.int p2), .val (.int p3), .val (.int p4), .val (.long v6), .second, .val (.int v8), .val (.int v9), .val (.ref o38), .val (.int v11), .val (.long u0), .second, .val (.int (tk_f v8 w2 (0 : Int64))), .val (.int (1 : Int32)), .unset, .unset, .unset, .unset, .unset, .unset, .unset, .unset] [(.long (u0 + (v9.toInt64)))]))
      exact lw_c144 C0 X101 rfl N101 (v6) (v8) (v9) (v11) (u0) ((tk_f v8 w2 (0 : Int64))) ((1 : Int32)) ((u0 + (v9.toInt64))) (w2) ((tk_g2 v8 w2 (0 : Int64))) F105 G102 G103 G104 kn0 (by rw [hr0, lw_f90, if_pos hc107, if_neg hc108])
  · refine own_st (fun _ k => XS.icmpNo X101.here hx rfl (hb hby lw_d105) rfl (feq hc107).1 k) ?_
    show own_Dn p e below s _ _ _ (T101.setTop (mkF m 108 #[.val (.long q0), .second, .val (.int p1), .val (.int p2), .val (.int p3), .val (.int p4), .val (.long v6), .second, .val (.int v8), .val (.int v9), .val (.ref o38), .val (.int v11), .val (.long u0), .second, .val (.int (tk_f v8 w2 (0 : Int64))), .unset, .unset, .unset, .unset, .unset, .unset, .unset, .unset, .unset] []))
    refine own_st (fun _ k => XS.iconst X101.here hx rfl (hb hby lw_d108) k) ?_
    show own_Dn p e below s _ _ _ (T101.setTop (mkF m 109 #[.val (.long q0), .second, .val (.int p1), .val (.int p2), .val (.int p3), .val (.int p4), .val (.long v6), .second, .val (.int v8), .val (.int v9), .val (.ref o38), .val (.int v11), .val (.long u0), .second, .val (.int (tk_f v8 w2 (0 : Int64))), .unset, .unset, .unset, .unset, .unset, .unset, .unset, .unset, .unset] [(.int (0 : Int32))]))
    exact own_retZ X101 hx hret hlk (by decide) (hb hby lw_d109) (by decide) (by decide) ⟨(by rw [hr0, lw_f90, if_neg hc107]), N101⟩
def lw_f62 (q0 : Int64) (p1 : Int32) (p2 : Int32) (p3 : Int32) (p4 : Int32) (v6 : Int64) (v8 : Int32) (v9 : Int32) (w2 : Int64) : Int32 :=
  if v6 < (v8.toInt64) then
    lw_f90 q0 p1 p2 p3 p4 (v6) (v8) (v9) ((0 : Int32)) ((0 : Int64)) (w2)
  else
    lw_f90 q0 p1 p2 p3 p4 (v6) (v8) (v9) ((1 : Int32)) ((v8.toInt64)) (w2)
set_option maxRecDepth 65536 in
set_option maxHeartbeats 40000000 in
theorem lw_c62 {l : Launch} {Z : State} {a0 : Array Value} {q0 : Int64} {p1 : Int32} {p2 : Int32} {p3 : Int32} {p4 : Int32} {h0 : Heap} {n0 : Nat} {p : Program} {e : Env} {s : State} {m : MethodId} {args : Array Value} {below : List Frame} {meth : Method} {c : Code} {T0 : State} {locs : List Loc} {o38 : Addr} {r0 : Int32} (C0 : own_Cx p s m meth c Z a0 code 24 "com/example/stierlin/stierlin/broker/RequestMemoryTakePinLaw" "law" (some .boolean)) (X0 : Stand p l e room_1 s m args below meth c T0 locs 3 23) (e0 : T0.heap = h0) (N0 : Fr n0 locs) (v6 : Int64) (v8 : Int32) (v9 : Int32) (w2 : Int64) (Z0 : n0 ≤ h0.size) (P1 : Exa Z h0 o38 "com/example/stierlin/stierlin/broker/RequestMemory") (P2 : Fld Z h0 o38 "com/example/stierlin/stierlin/broker/RequestMemory" "limit" "J" (.long w2)) (P3 : Fld Z h0 o38 "com/example/stierlin/stierlin/broker/RequestMemory" "taken" "J" (.long (0 : Int64))) (kn0 : n0 ≤ o38) (hr0 : r0 = lw_f62 q0 p1 p2 p3 p4 v6 v8 v9 w2) :
    own_Dn p e below s (own_QL (some (.int r0)) n0) room_1.cells room_1.slots (T0.setTop (mkF m 62 #[.val (.long q0), .second, .val (.int p1), .val (.int p2), .val (.int p3), .val (.int p4), .val (.long v6), .second, .val (.int v8), .val (.int v9), .val (.ref o38), .unset, .unset, .unset, .unset, .unset, .unset, .unset, .unset, .unset, .unset, .unset, .unset, .unset] [])) := by
  obtain ⟨hx, hZ, hw, hby, hml, hown, hret, hlk, hnm⟩ := id C0
  refine own_st (fun _ k => XS.iload X0.here hx rfl (hb hby lw_d62) rfl (XS.i2l X0.here hx rfl (hb hby lw_d64) rfl (XS.lload X0.here hx rfl (hb hby lw_d65) rfl (XS.lcmp X0.here hx rfl (hb hby lw_d67) rfl k)))) ?_
  show own_Dn p e below s _ _ _ (T0.setTop (mkF m 68 #[.val (.long q0), .second, .val (.int p1), .val (.int p2), .val (.int p3), .val (.int p4), .val (.long v6), .second, .val (.int v8), .val (.int v9), .val (.ref o38), .unset, .unset, .unset, .unset, .unset, .unset, .unset, .unset, .unset, .unset, .unset, .unset, .unset] [(.int (lcmpW (v8.toInt64) v6))]))
  by_cases hc100 : v6 < (v8.toInt64)
  · refine own_st (fun _ k => XS.ifYes X0.here hx rfl (pc0 := 68) (pc' := 75) rfl (hb hby lw_d68) rfl (own_jtlt hc100).2.2.1 (by decide) (by decide) k) ?_
    show own_Dn p e below s _ _ _ (T0.setTop (mkF m 75 #[.val (.long q0), .second, .val (.int p1), .val (.int p2), .val (.int p3), .val (.int p4), .val (.long v6), .second, .val (.int v8), .val (.int v9), .val (.ref o38), .unset, .unset, .unset, .unset, .unset, .unset, .unset, .unset, .unset, .unset, .unset, .unset, .unset] []))
    refine own_st (fun _ k => XS.iconst X0.here hx rfl (hb hby lw_d75) (XS.istore X0.here hx rfl (hb hby lw_d76) rfl (l' := #[.val (.long q0), .second, .val (.int p1), .val (.int p2), .val (.int p3), .val (.int p4), .val (.long v6), .second, .val (.int v8), .val (.int v9), .val (.ref o38), .val (.int (0 : Int32)), .unset, .unset, .unset, .unset, .unset, .unset, .unset, .unset, .unset, .unset, .unset, .unset]) rfl (XS.iload X0.here hx rfl (hb hby lw_d78) rfl k))) ?_
    show own_Dn p e below s _ _ _ (T0.setTop (mkF m 80 #[.val (.long q0), .second, .val (.int p1), .val (.int p2), .val (.int p3), .val (.int p4), .val (.long v6), .second, .val (.int v8), .val (.int v9), .val (.ref o38), .val (.int (0 : Int32)), .unset, .unset, .unset, .unset, .unset, .unset, .unset, .unset, .unset, .unset, .unset, .unset] [(.int (0 : Int32))]))
    refine own_st (fun _ k => XS.ifYes X0.here hx rfl (pc0 := 80) (pc' := 89) rfl (hb hby lw_d80) rfl ((if0 _ _).trans (teq (by decide : (0 : Int32) = (0 : Int32))).1) (by decide) (by decide) k) ?_
    show own_Dn p e below s _ _ _ (T0.setTop (mkF m 89 #[.val (.long q0), .second, .val (.int p1), .val (.int p2), .val (.int p3), .val (.int p4), .val (.long v6), .second, .val (.int v8), .val (.int v9), .val (.ref o38), .val (.int (0 : Int32)), .unset, .unset, .unset, .unset, .unset, .unset, .unset, .unset, .unset, .unset, .unset, .unset] []))
    refine own_st (fun _ k => XS.lconst X0.here hx rfl (hb hby lw_d89) k) ?_
    show own_Dn p e below s _ _ _ (T0.setTop (mkF m 90 #[.val (.long q0), .second, .val (.int p1), .val (.int p2), .val (.int p3), .val (.int p4), .val (.long v6), .second, .val (.int v8), .val (.int v9), .val (.ref o38), .val (.int (0 : Int32)), .unset, .unset, .unset, .unset, .unset, .unset, .unset, .unset, .unset, .unset, .unset, .unset] [(.long (0 : Int64))]))
    exact lw_c90 C0 X0 e0 N0 (v6) (v8) (v9) ((0 : Int32)) ((0 : Int64)) (w2) Z0 P1 P2 P3 kn0 (by rw [hr0, lw_f62, if_pos hc100])
  · refine own_st (fun _ k => XS.ifNo X0.here hx rfl (hb hby lw_d68) rfl (own_jflt hc100).2.2.1 k) ?_
    show own_Dn p e below s _ _ _ (T0.setTop (mkF m 71 #[.val (.long q0), .second, .val (.int p1), .val (.int p2), .val (.int p3), .val (.int p4), .val (.long v6), .second, .val (.int v8), .val (.int v9), .val (.ref o38), .unset, .unset, .unset, .unset, .unset, .unset, .unset, .unset, .unset, .unset, .unset, .unset, .unset] []))
    refine own_st (fun _ k => XS.iconst X0.here hx rfl (hb hby lw_d71) (XS.goto X0.here hx rfl (pc0 := 72) (pc' := 76) rfl (hb hby lw_d72) (by decide) (by decide) (XS.istore X0.here hx rfl (hb hby lw_d76) rfl (l' := #[.val (.long q0), .second, .val (.int p1), .val (.int p2), .val (.int p3), .val (.int p4), .val (.long v6), .second, .val (.int v8), .val (.int v9), .val (.ref o38), .val (.int (1 : Int32)), .unset, .unset, .unset, .unset, .unset, .unset, .unset, .unset, .unset, .unset, .unset, .unset]) rfl (XS.iload X0.here hx rfl (hb hby lw_d78) rfl k)))) ?_
    show own_Dn p e below s _ _ _ (T0.setTop (mkF m 80 #[.val (.long q0), .second, .val (.int p1), .val (.int p2), .val (.int p3), .val (.int p4), .val (.long v6), .second, .val (.int v8), .val (.int v9), .val (.ref o38), .val (.int (1 : Int32)), .unset, .unset, .unset, .unset, .unset, .unset, .unset, .unset, .unset, .unset, .unset, .unset] [(.int (1 : Int32))]))
    refine own_st (fun _ k => XS.ifNo X0.here hx rfl (hb hby lw_d80) rfl ((if0 _ _).trans (feq (by decide : ¬ ((1 : Int32) = (0 : Int32)))).1) k) ?_
    show own_Dn p e below s _ _ _ (T0.setTop (mkF m 83 #[.val (.long q0), .second, .val (.int p1), .val (.int p2), .val (.int p3), .val (.int p4), .val (.long v6), .second, .val (.int v8), .val (.int v9), .val (.ref o38), .val (.int (1 : Int32)), .unset, .unset, .unset, .unset, .unset, .unset, .unset, .unset, .unset, .unset, .unset, .unset] []))
    refine own_st (fun _ k => XS.iload X0.here hx rfl (hb hby lw_d83) rfl (XS.i2l X0.here hx rfl (hb hby lw_d85) rfl (XS.goto X0.here hx rfl (pc0 := 86) (pc' := 90) rfl (hb hby lw_d86) (by decide) (by decide) k))) ?_
    show own_Dn p e below s _ _ _ (T0.setTop (mkF m 90 #[.val (.long q0), .second, .val (.int p1), .val (.int p2), .val (.int p3), .val (.int p4), .val (.long v6), .second, .val (.int v8), .val (.int v9), .val (.ref o38), .val (.int (1 : Int32)), .unset, .unset, .unset, .unset, .unset, .unset, .unset, .unset, .unset, .unset, .unset, .unset] [(.long (v8.toInt64))]))
    exact lw_c90 C0 X0 e0 N0 (v6) (v8) (v9) ((1 : Int32)) ((v8.toInt64)) (w2) Z0 P1 P2 P3 kn0 (by rw [hr0, lw_f62, if_neg hc100])
def lw_f (q0 : Int64) (p1 : Int32) (p2 : Int32) (p3 : Int32) (p4 : Int32)  : Int32 :=
  if (p1 &&& (1 : Int32)) = (0 : Int32) then
    if (li_f (mx_f (1 : Int64) (q0 &&& (4294967295 : Int64)))) = (mx_f (1 : Int64) (q0 &&& (4294967295 : Int64))) then
      lw_f62 q0 p1 p2 p3 p4 ((mx_f (1 : Int64) (q0 &&& (4294967295 : Int64)))) ((p2 &&& (2147483647 : Int32))) ((p3 &&& (2147483647 : Int32))) ((mx_f (1 : Int64) (q0 &&& (4294967295 : Int64))))
    else
      (0 : Int32)
  else
    if (li_f (mx_f (1 : Int64) (q0 &&& (9223372036854775807 : Int64)))) = (mx_f (1 : Int64) (q0 &&& (9223372036854775807 : Int64))) then
      lw_f62 q0 p1 p2 p3 p4 ((mx_f (1 : Int64) (q0 &&& (9223372036854775807 : Int64)))) ((p2 &&& (2147483647 : Int32))) ((p3 &&& (2147483647 : Int32))) ((mx_f (1 : Int64) (q0 &&& (9223372036854775807 : Int64))))
    else
      (0 : Int32)
set_option maxRecDepth 65536 in
set_option maxHeartbeats 40000000 in
theorem lw_c0 {l : Launch} {Z : State} {a0 : Array Value} {q0 : Int64} {p1 : Int32} {p2 : Int32} {p3 : Int32} {p4 : Int32} {h0 : Heap} {n0 : Nat} {p : Program} {e : Env} {s : State} {m : MethodId} {args : Array Value} {below : List Frame} {meth : Method} {c : Code} {T0 : State} {locs : List Loc} {r0 : Int32} (C0 : own_Cx p s m meth c Z a0 code 24 "com/example/stierlin/stierlin/broker/RequestMemoryTakePinLaw" "law" (some .boolean)) (X0 : Stand p l e room_1 s m args below meth c T0 locs 0 0) (e0 : T0.heap = h0) (N0 : Fr n0 locs)  (Z0 : n0 ≤ h0.size) (hr0 : r0 = lw_f q0 p1 p2 p3 p4 ) :
    own_Dn p e below s (own_QL (some (.int r0)) n0) room_1.cells room_1.slots (T0.setTop (mkF m 0 #[.val (.long q0), .second, .val (.int p1), .val (.int p2), .val (.int p3), .val (.int p4), .unset, .unset, .unset, .unset, .unset, .unset, .unset, .unset, .unset, .unset, .unset, .unset, .unset, .unset, .unset, .unset, .unset, .unset] [])) := by
  obtain ⟨hx, hZ, hw, hby, hml, hown, hret, hlk, hnm⟩ := id C0
  refine own_st (fun _ k => XS.lconst X0.here hx rfl (hb hby lw_d0) (XS.iloadN X0.here hx rfl (hb hby lw_d1) rfl (XS.iconst X0.here hx rfl (hb hby lw_d2) (XS.iand X0.here hx rfl (hb hby lw_d3) rfl k)))) ?_
  show own_Dn p e below s _ _ _ (T0.setTop (mkF m 4 #[.val (.long q0), .second, .val (.int p1), .val (.int p2), .val (.int p3), .val (.int p4), .unset, .unset, .unset, .unset, .unset, .unset, .unset, .unset, .unset, .unset, .unset, .unset, .unset, .unset, .unset, .unset, .unset, .unset] [(.int (p1 &&& (1 : Int32))), (.long (1 : Int64))]))
  by_cases hc69 : (p1 &&& (1 : Int32)) = (0 : Int32)
  · refine own_st (fun _ k => XS.ifYes X0.here hx rfl (pc0 := 4) (pc' := 15) rfl (hb hby lw_d4) rfl ((if0 _ _).trans (teq hc69).1) (by decide) (by decide) k) ?_
    show own_Dn p e below s _ _ _ (T0.setTop (mkF m 15 #[.val (.long q0), .second, .val (.int p1), .val (.int p2), .val (.int p3), .val (.int p4), .unset, .unset, .unset, .unset, .unset, .unset, .unset, .unset, .unset, .unset, .unset, .unset, .unset, .unset, .unset, .unset, .unset, .unset] [(.long (1 : Int64))]))
    refine own_st (fun _ k => XS.lloadN X0.here hx rfl (hb hby lw_d15) rfl (X0.ldc2Long hx (index := 11) (v := (4294967295 : Int64)) hown (mvT hZ (hw _ (List.mem_of_getElem? (i := 0) rfl))) (g := (mkF m 16 #[.val (.long q0), .second, .val (.int p1), .val (.int p2), .val (.int p3), .val (.int p4), .unset, .unset, .unset, .unset, .unset, .unset, .unset, .unset, .unset, .unset, .unset, .unset, .unset, .unset, .unset, .unset, .unset, .unset] [(.long q0), (.long (1 : Int64))])) rfl (hb hby lw_d16) _ (XS.land X0.here hx rfl (hb hby lw_d19) rfl k))) ?_
    show own_Dn p e below s _ _ _ (T0.setTop (mkF m 20 #[.val (.long q0), .second, .val (.int p1), .val (.int p2), .val (.int p3), .val (.int p4), .unset, .unset, .unset, .unset, .unset, .unset, .unset, .unset, .unset, .unset, .unset, .unset, .unset, .unset, .unset, .unset, .unset, .unset] [(.long (q0 &&& (4294967295 : Int64))), (.long (1 : Int64))]))
    obtain ⟨_, _, ⟨T70, L70, k70, n70⟩, -, X70, ⟨Lc70, hQ70, l70, y70, z70⟩, st70⟩ := Jvm.LawKit.callS X0 hx (y := (⟨"java/lang/Math", "max", "(JJ)J"⟩ : MethodName)) hown (mvT hZ (hw _ (List.mem_of_getElem? (i := 1) rfl))) (mvT hZ (hw _ (List.mem_of_getElem? (i := 2) rfl))) (mvT hZ (hw _ (List.mem_of_getElem? (i := 3) rfl))) (mvT hZ (hw _ (List.mem_of_getElem? (i := 4) rfl))) (by decide) (backOf (W := 0) (mx_rm l Z a0 hw [] ((1 : Int64)) ((q0 &&& (4294967295 : Int64))) h0 n0) hZ (hw _ (List.mem_of_getElem? (i := 4) rfl)) (hw _ (List.mem_of_getElem? (i := 3) rfl)) (by decide) (by decide)) (g := (mkF m 20 #[.val (.long q0), .second, .val (.int p1), .val (.int p2), .val (.int p3), .val (.int p4), .unset, .unset, .unset, .unset, .unset, .unset, .unset, .unset, .unset, .unset, .unset, .unset, .unset, .unset, .unset, .unset, .unset, .unset] [(.long (q0 &&& (4294967295 : Int64))), (.long (1 : Int64))])) rfl (by rw [hml]; rfl) (argsL := [(.long (1 : Int64)), (.long (q0 &&& (4294967295 : Int64)))]) (rest := []) (lenOf own_pd1 rfl) rfl (by show 2 * 0 + _ ≤ _; exact Nat.le_of_eq rfl) (hb hby lw_d20) (fun _ _ => ⟨rfl, e0, (by decide : 0 + 0 ≤ _), (by decide : 0 + 0 ≤ _)⟩)
    dsimp only [Pt.U, Pt.locs, Pt.cells, Pt.slots] at X70 l70 y70 z70 st70 hQ70
    subst l70 y70 z70
    obtain ⟨rfl, N70q, e70⟩ := hQ70
    have N70 := Fr.app N0 N70q
    refine own_st st70 ?_
    show own_Dn p e below s _ _ _ (T70.setTop (mkF m 23 #[.val (.long q0), .second, .val (.int p1), .val (.int p2), .val (.int p3), .val (.int p4), .unset, .unset, .unset, .unset, .unset, .unset, .unset, .unset, .unset, .unset, .unset, .unset, .unset, .unset, .unset, .unset, .unset, .unset] [(.long (mx_f (1 : Int64) (q0 &&& (4294967295 : Int64))))]))
    refine own_st (fun _ k => XS.lstore X70.here hx rfl (hb hby lw_d23) rfl (l' := #[.val (.long q0), .second, .val (.int p1), .val (.int p2), .val (.int p3), .val (.int p4), .val (.long (mx_f (1 : Int64) (q0 &&& (4294967295 : Int64)))), .second, .unset, .unset, .unset, .unset, .unset, .unset, .unset, .unset, .unset, .unset, .unset, .unset, .unset, .unset, .unset, .unset]) rfl (XS.iloadN X70.here hx rfl (hb hby lw_d25) rfl (X70.ldcInt hx (index := 19) (v := (2147483647 : Int32)) hown (mvT hZ (hw _ (List.mem_of_getElem? (i := 5) rfl))) (g := (mkF m 26 #[.val (.long q0), .second, .val (.int p1), .val (.int p2), .val (.int p3), .val (.int p4), .val (.long (mx_f (1 : Int64) (q0 &&& (4294967295 : Int64)))), .second, .unset, .unset, .unset, .unset, .unset, .unset, .unset, .unset, .unset, .unset, .unset, .unset, .unset, .unset, .unset, .unset] [(.int p2)])) rfl (hb hby lw_d26) _ (XS.iand X70.here hx rfl (hb hby lw_d28) rfl (XS.istore X70.here hx rfl (hb hby lw_d29) rfl (l' := #[.val (.long q0), .second, .val (.int p1), .val (.int p2), .val (.int p3), .val (.int p4), .val (.long (mx_f (1 : Int64) (q0 &&& (4294967295 : Int64)))), .second, .val (.int (p2 &&& (2147483647 : Int32))), .unset, .unset, .unset, .unset, .unset, .unset, .unset, .unset, .unset, .unset, .unset, .unset, .unset, .unset, .unset]) rfl (XS.iload X70.here hx rfl (hb hby lw_d31) rfl (X70.ldcInt hx (index := 19) (v := (2147483647 : Int32)) hown (mvT hZ (hw _ (List.mem_of_getElem? (i := 5) rfl))) (g := (mkF m 33 #[.val (.long q0), .second, .val (.int p1), .val (.int p2), .val (.int p3), .val (.int p4), .val (.long (mx_f (1 : Int64) (q0 &&& (4294967295 : Int64)))), .second, .val (.int (p2 &&& (2147483647 : Int32))), .unset, .unset, .unset, .unset, .unset, .unset, .unset, .unset, .unset, .unset, .unset, .unset, .unset, .unset, .unset] [(.int p3)])) rfl (hb hby lw_d33) _ (XS.iand X70.here hx rfl (hb hby lw_d35) rfl (XS.istore X70.here hx rfl (hb hby lw_d36) rfl (l' := #[.val (.long q0), .second, .val (.int p1), .val (.int p2), .val (.int p3), .val (.int p4), .val (.long (mx_f (1 : Int64) (q0 &&& (4294967295 : Int64)))), .second, .val (.int (p2 &&& (2147483647 : Int32))), .val (.int (p3 &&& (2147483647 : Int32))), .unset, .unset, .unset, .unset, .unset, .unset, .unset, .unset, .unset, .unset, .unset, .unset, .unset, .unset]) rfl k))))))))) ?_
    show own_Dn p e below s _ _ _ (T70.setTop (mkF m 38 #[.val (.long q0), .second, .val (.int p1), .val (.int p2), .val (.int p3), .val (.int p4), .val (.long (mx_f (1 : Int64) (q0 &&& (4294967295 : Int64)))), .second, .val (.int (p2 &&& (2147483647 : Int32))), .val (.int (p3 &&& (2147483647 : Int32))), .unset, .unset, .unset, .unset, .unset, .unset, .unset, .unset, .unset, .unset, .unset, .unset, .unset, .unset] []))
    obtain ⟨T71, h71, X71, e71, E71, A71, D71, -, st71⟩ := newO X70 hx hZ hown (hw _ (List.mem_of_getElem? (i := 6) rfl)) (hw _ (List.mem_of_getElem? (i := 7) rfl)) (hw _ (List.mem_of_getElem? (i := 8) rfl)) e70 (g := (mkF m 38 #[.val (.long q0), .second, .val (.int p1), .val (.int p2), .val (.int p3), .val (.int p4), .val (.long (mx_f (1 : Int64) (q0 &&& (4294967295 : Int64)))), .second, .val (.int (p2 &&& (2147483647 : Int32))), .val (.int (p3 &&& (2147483647 : Int32))), .unset, .unset, .unset, .unset, .unset, .unset, .unset, .unset, .unset, .unset, .unset, .unset, .unset, .unset] [])) rfl (hb hby lw_d38) (by decide) (by decide)
    obtain ⟨o38, g71⟩ : ∃ z, z = h0.size := ⟨_, rfl⟩
    rw [← g71] at A71 D71 st71
    have ge72 : n0 ≤ o38 := Nat.le_trans Z0 (Nat.le_of_eq g71.symm)
    have F73 : n0 ≤ h71.size := Nat.le_trans Z0 E71.1
    have F74 : Fld Z h71 o38 "com/example/stierlin/stierlin/broker/RequestMemory" "waiting" "Ljava/util/Deque;" .null := D71 (Or.inr (hw _ (List.mem_of_getElem? (i := 33) rfl))) (ty := (.object "java/util/Deque")) (by decide)
    have F75 : Fld Z h71 o38 "com/example/stierlin/stierlin/broker/RequestMemory" "limit" "J" (.long (0 : Int64)) := D71 (Or.inr (hw _ (List.mem_of_getElem? (i := 35) rfl))) (ty := .long) (by decide)
    have F76 : Fld Z h71 o38 "com/example/stierlin/stierlin/broker/RequestMemory" "taken" "J" (.long (0 : Int64)) := D71 (Or.inl (hw _ (List.mem_of_getElem? (i := 47) rfl))) (ty := .long) (by decide)
    refine own_st st71 ?_
    show own_Dn p e below s _ _ _ (T71.setTop (mkF m 41 #[.val (.long q0), .second, .val (.int p1), .val (.int p2), .val (.int p3), .val (.int p4), .val (.long (mx_f (1 : Int64) (q0 &&& (4294967295 : Int64)))), .second, .val (.int (p2 &&& (2147483647 : Int32))), .val (.int (p3 &&& (2147483647 : Int32))), .unset, .unset, .unset, .unset, .unset, .unset, .unset, .unset, .unset, .unset, .unset, .unset, .unset, .unset] [(.ref o38)]))
    refine own_st (fun _ k => XS.dup X71.here hx rfl (hb hby lw_d41) rfl rfl (XS.lload X71.here hx rfl (hb hby lw_d42) rfl k)) ?_
    show own_Dn p e below s _ _ _ (T71.setTop (mkF m 44 #[.val (.long q0), .second, .val (.int p1), .val (.int p2), .val (.int p3), .val (.int p4), .val (.long (mx_f (1 : Int64) (q0 &&& (4294967295 : Int64)))), .second, .val (.int (p2 &&& (2147483647 : Int32))), .val (.int (p3 &&& (2147483647 : Int32))), .unset, .unset, .unset, .unset, .unset, .unset, .unset, .unset, .unset, .unset, .unset, .unset, .unset, .unset] [(.long (mx_f (1 : Int64) (q0 &&& (4294967295 : Int64)))), (.ref o38), (.ref o38)]))
    obtain ⟨_, _, ⟨T77, L77, k77, n77⟩, -, X77, ⟨Lc77, hQ77, l77, y77, z77⟩, st77⟩ := X71.specialBack hx (y := (⟨"com/example/stierlin/stierlin/broker/RequestMemory", "<init>", "(J)V"⟩ : MethodName)) rfl hown (mvT hZ (hw _ (List.mem_of_getElem? (i := 9) rfl))) (mvT hZ (hw _ (List.mem_of_getElem? (i := 10) rfl))) (mvT hZ (hw _ (List.mem_of_getElem? (i := 11) rfl))) (by decide) (backOf (W := 1) (ri_rm l Z a0 hw [] (o38) ((mx_f (1 : Int64) (q0 &&& (4294967295 : Int64)))) h71 n0 F73 A71 F74 F75 F76 ge72 (own_mx1 _)) hZ (hw _ (List.mem_of_getElem? (i := 11) rfl)) (hw _ (List.mem_of_getElem? (i := 8) rfl)) (by decide) (by decide)) (g := (mkF m 44 #[.val (.long q0), .second, .val (.int p1), .val (.int p2), .val (.int p3), .val (.int p4), .val (.long (mx_f (1 : Int64) (q0 &&& (4294967295 : Int64)))), .second, .val (.int (p2 &&& (2147483647 : Int32))), .val (.int (p3 &&& (2147483647 : Int32))), .unset, .unset, .unset, .unset, .unset, .unset, .unset, .unset, .unset, .unset, .unset, .unset, .unset, .unset] [(.long (mx_f (1 : Int64) (q0 &&& (4294967295 : Int64)))), (.ref o38), (.ref o38)])) rfl (by rw [hml]; rfl) (Steps.refl _) (a := o38) (argsL := [(.long (mx_f (1 : Int64) (q0 &&& (4294967295 : Int64))))]) (rest := [(.ref o38)]) (lenOf own_pd2 rfl) rfl (by show 2 * 0 + _ ≤ _; exact Nat.le_of_eq rfl) (hb hby lw_d44) (fun _ _ => ⟨rfl, e71, (by decide : 1 + 2 ≤ _), (by decide : 3 + 20 ≤ _)⟩)
    dsimp only [Pt.U, Pt.locs, Pt.cells, Pt.slots] at X77 l77 y77 z77 st77 hQ77
    subst l77 y77 z77
    obtain ⟨rfl, N77q, K77, G78, G79, G80⟩ := hQ77
    have F81 : n0 ≤ T77.heap.size := Nat.le_trans F73 K77.1
    have F82 : Exa Z T77.heap o38 "com/example/stierlin/stierlin/broker/RequestMemory" := A71.keep K77
    have N77 := Fr.app N70 N77q
    refine own_tr st77 ?_
    show own_Dn p e below s _ _ _ (T77.setTop (mkF m 47 #[.val (.long q0), .second, .val (.int p1), .val (.int p2), .val (.int p3), .val (.int p4), .val (.long (mx_f (1 : Int64) (q0 &&& (4294967295 : Int64)))), .second, .val (.int (p2 &&& (2147483647 : Int32))), .val (.int (p3 &&& (2147483647 : Int32))), .unset, .unset, .unset, .unset, .unset, .unset, .unset, .unset, .unset, .unset, .unset, .unset, .unset, .unset] [(.ref o38)]))
    refine own_st (fun _ k => XS.astore X77.here hx rfl (hb hby lw_d47) rfl rfl (l' := #[.val (.long q0), .second, .val (.int p1), .val (.int p2), .val (.int p3), .val (.int p4), .val (.long (mx_f (1 : Int64) (q0 &&& (4294967295 : Int64)))), .second, .val (.int (p2 &&& (2147483647 : Int32))), .val (.int (p3 &&& (2147483647 : Int32))), .val (.ref o38), .unset, .unset, .unset, .unset, .unset, .unset, .unset, .unset, .unset, .unset, .unset, .unset, .unset]) rfl (XS.aload X77.here hx rfl (hb hby lw_d49) rfl rfl k)) ?_
    show own_Dn p e below s _ _ _ (T77.setTop (mkF m 51 #[.val (.long q0), .second, .val (.int p1), .val (.int p2), .val (.int p3), .val (.int p4), .val (.long (mx_f (1 : Int64) (q0 &&& (4294967295 : Int64)))), .second, .val (.int (p2 &&& (2147483647 : Int32))), .val (.int (p3 &&& (2147483647 : Int32))), .val (.ref o38), .unset, .unset, .unset, .unset, .unset, .unset, .unset, .unset, .unset, .unset, .unset, .unset, .unset] [(.ref o38)]))
    obtain ⟨cq83, kq83, q83a, q83b, q83c⟩ := isOf hZ rfl G78
    obtain ⟨_, _, ⟨T83, L83, k83, n83⟩, -, X83, ⟨Lc83, hQ83, l83, y83, z83⟩, st83⟩ := X77.virtualBack hx (y := (⟨"com/example/stierlin/stierlin/broker/RequestMemory", "limit", "()J"⟩ : MethodName)) (z := (⟨"com/example/stierlin/stierlin/broker/RequestMemory", "limit", "()J"⟩ : MethodName)) hown (mvT hZ (hw _ (List.mem_of_getElem? (i := 36) rfl))) (mvT hZ (hw _ (List.mem_of_getElem? (i := 37) rfl))) (notFace_of_selects (args := #[]) (mvT hZ (hw _ (List.mem_of_getElem? (i := 39) rfl)))) (mvT hZ (hw _ (List.mem_of_getElem? (i := 39) rfl))) (mvT hZ (hw _ (List.mem_of_getElem? (i := 38) rfl))) (by decide) (backOf (W := 0) (li_rm l Z a0 hw [] (o38) ((mx_f (1 : Int64) (q0 &&& (4294967295 : Int64)))) T77.heap n0 F81 G79) hZ (hw _ (List.mem_of_getElem? (i := 40) rfl)) (hw _ (List.mem_of_getElem? (i := 8) rfl)) (by decide) (by decide)) q83a q83c (g := (mkF m 51 #[.val (.long q0), .second, .val (.int p1), .val (.int p2), .val (.int p3), .val (.int p4), .val (.long (mx_f (1 : Int64) (q0 &&& (4294967295 : Int64)))), .second, .val (.int (p2 &&& (2147483647 : Int32))), .val (.int (p3 &&& (2147483647 : Int32))), .val (.ref o38), .unset, .unset, .unset, .unset, .unset, .unset, .unset, .unset, .unset, .unset, .unset, .unset, .unset] [(.ref o38)])) rfl (by rw [hml]; rfl) (Steps.refl _) (argsL := []) (rest := []) (lenOf own_pd3 rfl) rfl (by show 2 * 0 + _ ≤ _; exact Nat.le_of_eq rfl) (hb hby lw_d51) (fun _ _ => ⟨rfl, rfl, (by decide : 3 + 0 ≤ _), (by decide : 23 + 0 ≤ _)⟩)
    dsimp only [Pt.U, Pt.locs, Pt.cells, Pt.slots] at X83 l83 y83 z83 st83 hQ83
    subst l83 y83 z83
    obtain ⟨rfl, N83q, e83⟩ := hQ83
    have N83 := Fr.app N77 N83q
    refine own_tr st83 ?_
    show own_Dn p e below s _ _ _ (T83.setTop (mkF m 54 #[.val (.long q0), .second, .val (.int p1), .val (.int p2), .val (.int p3), .val (.int p4), .val (.long (mx_f (1 : Int64) (q0 &&& (4294967295 : Int64)))), .second, .val (.int (p2 &&& (2147483647 : Int32))), .val (.int (p3 &&& (2147483647 : Int32))), .val (.ref o38), .unset, .unset, .unset, .unset, .unset, .unset, .unset, .unset, .unset, .unset, .unset, .unset, .unset] [(.long (li_f (mx_f (1 : Int64) (q0 &&& (4294967295 : Int64)))))]))
    refine own_st (fun _ k => XS.lload X83.here hx rfl (hb hby lw_d54) rfl (XS.lcmp X83.here hx rfl (hb hby lw_d56) rfl k)) ?_
    show own_Dn p e below s _ _ _ (T83.setTop (mkF m 57 #[.val (.long q0), .second, .val (.int p1), .val (.int p2), .val (.int p3), .val (.int p4), .val (.long (mx_f (1 : Int64) (q0 &&& (4294967295 : Int64)))), .second, .val (.int (p2 &&& (2147483647 : Int32))), .val (.int (p3 &&& (2147483647 : Int32))), .val (.ref o38), .unset, .unset, .unset, .unset, .unset, .unset, .unset, .unset, .unset, .unset, .unset, .unset, .unset] [(.int (lcmpW (li_f (mx_f (1 : Int64) (q0 &&& (4294967295 : Int64)))) (mx_f (1 : Int64) (q0 &&& (4294967295 : Int64)))))]))
    by_cases hc84 : (li_f (mx_f (1 : Int64) (q0 &&& (4294967295 : Int64)))) = (mx_f (1 : Int64) (q0 &&& (4294967295 : Int64)))
    · refine own_st (fun _ k => XS.ifYes X83.here hx rfl (pc0 := 57) (pc' := 62) rfl (hb hby lw_d57) rfl (own_jteq hc84).1 (by decide) (by decide) k) ?_
      show own_Dn p e below s _ _ _ (T83.setTop (mkF m 62 #[.val (.long q0), .second, .val (.int p1), .val (.int p2), .val (.int p3), .val (.int p4), .val (.long (mx_f (1 : Int64) (q0 &&& (4294967295 : Int64)))), .second, .val (.int (p2 &&& (2147483647 : Int32))), .val (.int (p3 &&& (2147483647 : Int32))), .val (.ref o38), .unset, .unset, .unset, .unset, .unset, .unset, .unset, .unset, .unset, .unset, .unset, .unset, .unset] []))
      exact lw_c62 C0 X83 e83 N83 ((mx_f (1 : Int64) (q0 &&& (4294967295 : Int64)))) ((p2 &&& (2147483647 : Int32))) ((p3 &&& (2147483647 : Int32))) ((mx_f (1 : Int64) (q0 &&& (4294967295 : Int64)))) F81 G78 G79 G80 ge72 (by rw [hr0, lw_f, if_pos hc69, if_pos hc84])
    · refine own_st (fun _ k => XS.ifNo X83.here hx rfl (hb hby lw_d57) rfl (own_jfeq hc84).1 k) ?_
      show own_Dn p e below s _ _ _ (T83.setTop (mkF m 60 #[.val (.long q0), .second, .val (.int p1), .val (.int p2), .val (.int p3), .val (.int p4), .val (.long (mx_f (1 : Int64) (q0 &&& (4294967295 : Int64)))), .second, .val (.int (p2 &&& (2147483647 : Int32))), .val (.int (p3 &&& (2147483647 : Int32))), .val (.ref o38), .unset, .unset, .unset, .unset, .unset, .unset, .unset, .unset, .unset, .unset, .unset, .unset, .unset] []))
      refine own_st (fun _ k => XS.iconst X83.here hx rfl (hb hby lw_d60) k) ?_
      show own_Dn p e below s _ _ _ (T83.setTop (mkF m 61 #[.val (.long q0), .second, .val (.int p1), .val (.int p2), .val (.int p3), .val (.int p4), .val (.long (mx_f (1 : Int64) (q0 &&& (4294967295 : Int64)))), .second, .val (.int (p2 &&& (2147483647 : Int32))), .val (.int (p3 &&& (2147483647 : Int32))), .val (.ref o38), .unset, .unset, .unset, .unset, .unset, .unset, .unset, .unset, .unset, .unset, .unset, .unset, .unset] [(.int (0 : Int32))]))
      exact own_retZ X83 hx hret hlk (by decide) (hb hby lw_d61) (by decide) (by decide) ⟨(by rw [hr0, lw_f, if_pos hc69, if_neg hc84]), N83⟩
  · refine own_st (fun _ k => XS.ifNo X0.here hx rfl (hb hby lw_d4) rfl ((if0 _ _).trans (feq hc69).1) k) ?_
    show own_Dn p e below s _ _ _ (T0.setTop (mkF m 7 #[.val (.long q0), .second, .val (.int p1), .val (.int p2), .val (.int p3), .val (.int p4), .unset, .unset, .unset, .unset, .unset, .unset, .unset, .unset, .unset, .unset, .unset, .unset, .unset, .unset, .unset, .unset, .unset, .unset] [(.long (1 : Int64))]))
    refine own_st (fun _ k => XS.lloadN X0.here hx rfl (hb hby lw_d7) rfl (X0.ldc2Long hx (index := 9) (v := (9223372036854775807 : Int64)) hown (mvT hZ (hw _ (List.mem_of_getElem? (i := 49) rfl))) (g := (mkF m 8 #[.val (.long q0), .second, .val (.int p1), .val (.int p2), .val (.int p3), .val (.int p4), .unset, .unset, .unset, .unset, .unset, .unset, .unset, .unset, .unset, .unset, .unset, .unset, .unset, .unset, .unset, .unset, .unset, .unset] [(.long q0), (.long (1 : Int64))])) rfl (hb hby lw_d8) _ (XS.land X0.here hx rfl (hb hby lw_d11) rfl (XS.goto X0.here hx rfl (pc0 := 12) (pc' := 20) rfl (hb hby lw_d12) (by decide) (by decide) k)))) ?_
    show own_Dn p e below s _ _ _ (T0.setTop (mkF m 20 #[.val (.long q0), .second, .val (.int p1), .val (.int p2), .val (.int p3), .val (.int p4), .unset, .unset, .unset, .unset, .unset, .unset, .unset, .unset, .unset, .unset, .unset, .unset, .unset, .unset, .unset, .unset, .unset, .unset] [(.long (q0 &&& (9223372036854775807 : Int64))), (.long (1 : Int64))]))
    obtain ⟨_, _, ⟨T85, L85, k85, n85⟩, -, X85, ⟨Lc85, hQ85, l85, y85, z85⟩, st85⟩ := Jvm.LawKit.callS X0 hx (y := (⟨"java/lang/Math", "max", "(JJ)J"⟩ : MethodName)) hown (mvT hZ (hw _ (List.mem_of_getElem? (i := 1) rfl))) (mvT hZ (hw _ (List.mem_of_getElem? (i := 2) rfl))) (mvT hZ (hw _ (List.mem_of_getElem? (i := 3) rfl))) (mvT hZ (hw _ (List.mem_of_getElem? (i := 4) rfl))) (by decide) (backOf (W := 0) (mx_rm l Z a0 hw [] ((1 : Int64)) ((q0 &&& (9223372036854775807 : Int64))) h0 n0) hZ (hw _ (List.mem_of_getElem? (i := 4) rfl)) (hw _ (List.mem_of_getElem? (i := 3) rfl)) (by decide) (by decide)) (g := (mkF m 20 #[.val (.long q0), .second, .val (.int p1), .val (.int p2), .val (.int p3), .val (.int p4), .unset, .unset, .unset, .unset, .unset, .unset, .unset, .unset, .unset, .unset, .unset, .unset, .unset, .unset, .unset, .unset, .unset, .unset] [(.long (q0 &&& (9223372036854775807 : Int64))), (.long (1 : Int64))])) rfl (by rw [hml]; rfl) (argsL := [(.long (1 : Int64)), (.long (q0 &&& (9223372036854775807 : Int64)))]) (rest := []) (lenOf own_pd1 rfl) rfl (by show 2 * 0 + _ ≤ _; exact Nat.le_of_eq rfl) (hb hby lw_d20) (fun _ _ => ⟨rfl, e0, (by decide : 0 + 0 ≤ _), (by decide : 0 + 0 ≤ _)⟩)
    dsimp only [Pt.U, Pt.locs, Pt.cells, Pt.slots] at X85 l85 y85 z85 st85 hQ85
    subst l85 y85 z85
    obtain ⟨rfl, N85q, e85⟩ := hQ85
    have N85 := Fr.app N0 N85q
    refine own_st st85 ?_
    show own_Dn p e below s _ _ _ (T85.setTop (mkF m 23 #[.val (.long q0), .second, .val (.int p1), .val (.int p2), .val (.int p3), .val (.int p4), .unset, .unset, .unset, .unset, .unset, .unset, .unset, .unset, .unset, .unset, .unset, .unset, .unset, .unset, .unset, .unset, .unset, .unset] [(.long (mx_f (1 : Int64) (q0 &&& (9223372036854775807 : Int64))))]))
    refine own_st (fun _ k => XS.lstore X85.here hx rfl (hb hby lw_d23) rfl (l' := #[.val (.long q0), .second, .val (.int p1), .val (.int p2), .val (.int p3), .val (.int p4), .val (.long (mx_f (1 : Int64) (q0 &&& (9223372036854775807 : Int64)))), .second, .unset, .unset, .unset, .unset, .unset, .unset, .unset, .unset, .unset, .unset, .unset, .unset, .unset, .unset, .unset, .unset]) rfl (XS.iloadN X85.here hx rfl (hb hby lw_d25) rfl (X85.ldcInt hx (index := 19) (v := (2147483647 : Int32)) hown (mvT hZ (hw _ (List.mem_of_getElem? (i := 5) rfl))) (g := (mkF m 26 #[.val (.long q0), .second, .val (.int p1), .val (.int p2), .val (.int p3), .val (.int p4), .val (.long (mx_f (1 : Int64) (q0 &&& (9223372036854775807 : Int64)))), .second, .unset, .unset, .unset, .unset, .unset, .unset, .unset, .unset, .unset, .unset, .unset, .unset, .unset, .unset, .unset, .unset] [(.int p2)])) rfl (hb hby lw_d26) _ (XS.iand X85.here hx rfl (hb hby lw_d28) rfl (XS.istore X85.here hx rfl (hb hby lw_d29) rfl (l' := #[.val (.long q0), .second, .val (.int p1), .val (.int p2), .val (.int p3), .val (.int p4), .val (.long (mx_f (1 : Int64) (q0 &&& (9223372036854775807 : Int64)))), .second, .val (.int (p2 &&& (2147483647 : Int32))), .unset, .unset, .unset, .unset, .unset, .unset, .unset, .unset, .unset, .unset, .unset, .unset, .unset, .unset, .unset]) rfl (XS.iload X85.here hx rfl (hb hby lw_d31) rfl (X85.ldcInt hx (index := 19) (v := (2147483647 : Int32)) hown (mvT hZ (hw _ (List.mem_of_getElem? (i := 5) rfl))) (g := (mkF m 33 #[.val (.long q0), .second, .val (.int p1), .val (.int p2), .val (.int p3), .val (.int p4), .val (.long (mx_f (1 : Int64) (q0 &&& (9223372036854775807 : Int64)))), .second, .val (.int (p2 &&& (2147483647 : Int32))), .unset, .unset, .unset, .unset, .unset, .unset, .unset, .unset, .unset, .unset, .unset, .unset, .unset, .unset, .unset] [(.int p3)])) rfl (hb hby lw_d33) _ (XS.iand X85.here hx rfl (hb hby lw_d35) rfl (XS.istore X85.here hx rfl (hb hby lw_d36) rfl (l' := #[.val (.long q0), .second, .val (.int p1), .val (.int p2), .val (.int p3), .val (.int p4), .val (.long (mx_f (1 : Int64) (q0 &&& (9223372036854775807 : Int64)))), .second, .val (.int (p2 &&& (2147483647 : Int32))), .val (.int (p3 &&& (2147483647 : Int32))), .unset, .unset, .unset, .unset, .unset, .unset, .unset, .unset, .unset, .unset, .unset, .unset, .unset, .unset]) rfl k))))))))) ?_
    show own_Dn p e below s _ _ _ (T85.setTop (mkF m 38 #[.val (.long q0), .second, .val (.int p1), .val (.int p2), .val (.int p3), .val (.int p4), .val (.long (mx_f (1 : Int64) (q0 &&& (9223372036854775807 : Int64)))), .second, .val (.int (p2 &&& (2147483647 : Int32))), .val (.int (p3 &&& (2147483647 : Int32))), .unset, .unset, .unset, .unset, .unset, .unset, .unset, .unset, .unset, .unset, .unset, .unset, .unset, .unset] []))
    obtain ⟨T86, h86, X86, e86, E86, A86, D86, -, st86⟩ := newO X85 hx hZ hown (hw _ (List.mem_of_getElem? (i := 6) rfl)) (hw _ (List.mem_of_getElem? (i := 7) rfl)) (hw _ (List.mem_of_getElem? (i := 8) rfl)) e85 (g := (mkF m 38 #[.val (.long q0), .second, .val (.int p1), .val (.int p2), .val (.int p3), .val (.int p4), .val (.long (mx_f (1 : Int64) (q0 &&& (9223372036854775807 : Int64)))), .second, .val (.int (p2 &&& (2147483647 : Int32))), .val (.int (p3 &&& (2147483647 : Int32))), .unset, .unset, .unset, .unset, .unset, .unset, .unset, .unset, .unset, .unset, .unset, .unset, .unset, .unset] [])) rfl (hb hby lw_d38) (by decide) (by decide)
    obtain ⟨o38, g86⟩ : ∃ z, z = h0.size := ⟨_, rfl⟩
    rw [← g86] at A86 D86 st86
    have ge87 : n0 ≤ o38 := Nat.le_trans Z0 (Nat.le_of_eq g86.symm)
    have F88 : n0 ≤ h86.size := Nat.le_trans Z0 E86.1
    have F89 : Fld Z h86 o38 "com/example/stierlin/stierlin/broker/RequestMemory" "waiting" "Ljava/util/Deque;" .null := D86 (Or.inr (hw _ (List.mem_of_getElem? (i := 33) rfl))) (ty := (.object "java/util/Deque")) (by decide)
    have F90 : Fld Z h86 o38 "com/example/stierlin/stierlin/broker/RequestMemory" "limit" "J" (.long (0 : Int64)) := D86 (Or.inr (hw _ (List.mem_of_getElem? (i := 35) rfl))) (ty := .long) (by decide)
    have F91 : Fld Z h86 o38 "com/example/stierlin/stierlin/broker/RequestMemory" "taken" "J" (.long (0 : Int64)) := D86 (Or.inl (hw _ (List.mem_of_getElem? (i := 47) rfl))) (ty := .long) (by decide)
    refine own_st st86 ?_
    show own_Dn p e below s _ _ _ (T86.setTop (mkF m 41 #[.val (.long q0), .second, .val (.int p1), .val (.int p2), .val (.int p3), .val (.int p4), .val (.long (mx_f (1 : Int64) (q0 &&& (9223372036854775807 : Int64)))), .second, .val (.int (p2 &&& (2147483647 : Int32))), .val (.int (p3 &&& (2147483647 : Int32))), .unset, .unset, .unset, .unset, .unset, .unset, .unset, .unset, .unset, .unset, .unset, .unset, .unset, .unset] [(.ref o38)]))
    refine own_st (fun _ k => XS.dup X86.here hx rfl (hb hby lw_d41) rfl rfl (XS.lload X86.here hx rfl (hb hby lw_d42) rfl k)) ?_
    show own_Dn p e below s _ _ _ (T86.setTop (mkF m 44 #[.val (.long q0), .second, .val (.int p1), .val (.int p2), .val (.int p3), .val (.int p4), .val (.long (mx_f (1 : Int64) (q0 &&& (9223372036854775807 : Int64)))), .second, .val (.int (p2 &&& (2147483647 : Int32))), .val (.int (p3 &&& (2147483647 : Int32))), .unset, .unset, .unset, .unset, .unset, .unset, .unset, .unset, .unset, .unset, .unset, .unset, .unset, .unset] [(.long (mx_f (1 : Int64) (q0 &&& (9223372036854775807 : Int64)))), (.ref o38), (.ref o38)]))
    obtain ⟨_, _, ⟨T92, L92, k92, n92⟩, -, X92, ⟨Lc92, hQ92, l92, y92, z92⟩, st92⟩ := X86.specialBack hx (y := (⟨"com/example/stierlin/stierlin/broker/RequestMemory", "<init>", "(J)V"⟩ : MethodName)) rfl hown (mvT hZ (hw _ (List.mem_of_getElem? (i := 9) rfl))) (mvT hZ (hw _ (List.mem_of_getElem? (i := 10) rfl))) (mvT hZ (hw _ (List.mem_of_getElem? (i := 11) rfl))) (by decide) (backOf (W := 1) (ri_rm l Z a0 hw [] (o38) ((mx_f (1 : Int64) (q0 &&& (9223372036854775807 : Int64)))) h86 n0 F88 A86 F89 F90 F91 ge87 (own_mx1 _)) hZ (hw _ (List.mem_of_getElem? (i := 11) rfl)) (hw _ (List.mem_of_getElem? (i := 8) rfl)) (by decide) (by decide)) (g := (mkF m 44 #[.val (.long q0), .second, .val (.int p1), .val (.int p2), .val (.int p3), .val (.int p4), .val (.long (mx_f (1 : Int64) (q0 &&& (9223372036854775807 : Int64)))), .second, .val (.int (p2 &&& (2147483647 : Int32))), .val (.int (p3 &&& (2147483647 : Int32))), .unset, .unset, .unset, .unset, .unset, .unset, .unset, .unset, .unset, .unset, .unset, .unset, .unset, .unset] [(.long (mx_f (1 : Int64) (q0 &&& (9223372036854775807 : Int64)))), (.ref o38), (.ref o38)])) rfl (by rw [hml]; rfl) (Steps.refl _) (a := o38) (argsL := [(.long (mx_f (1 : Int64) (q0 &&& (9223372036854775807 : Int64))))]) (rest := [(.ref o38)]) (lenOf own_pd2 rfl) rfl (by show 2 * 0 + _ ≤ _; exact Nat.le_of_eq rfl) (hb hby lw_d44) (fun _ _ => ⟨rfl, e86, (by decide : 1 + 2 ≤ _), (by decide : 3 + 20 ≤ _)⟩)
    dsimp only [Pt.U, Pt.locs, Pt.cells, Pt.slots] at X92 l92 y92 z92 st92 hQ92
    subst l92 y92 z92
    obtain ⟨rfl, N92q, K92, G93, G94, G95⟩ := hQ92
    have F96 : n0 ≤ T92.heap.size := Nat.le_trans F88 K92.1
    have F97 : Exa Z T92.heap o38 "com/example/stierlin/stierlin/broker/RequestMemory" := A86.keep K92
    have N92 := Fr.app N85 N92q
    refine own_tr st92 ?_
    show own_Dn p e below s _ _ _ (T92.setTop (mkF m 47 #[.val (.long q0), .second, .val (.int p1), .val (.int p2), .val (.int p3), .val (.int p4), .val (.long (mx_f (1 : Int64) (q0 &&& (9223372036854775807 : Int64)))), .second, .val (.int (p2 &&& (2147483647 : Int32))), .val (.int (p3 &&& (2147483647 : Int32))), .unset, .unset, .unset, .unset, .unset, .unset, .unset, .unset, .unset, .unset, .unset, .unset, .unset, .unset] [(.ref o38)]))
    refine own_st (fun _ k => XS.astore X92.here hx rfl (hb hby lw_d47) rfl rfl (l' := #[.val (.long q0), .second, .val (.int p1), .val (.int p2), .val (.int p3), .val (.int p4), .val (.long (mx_f (1 : Int64) (q0 &&& (9223372036854775807 : Int64)))), .second, .val (.int (p2 &&& (2147483647 : Int32))), .val (.int (p3 &&& (2147483647 : Int32))), .val (.ref o38), .unset, .unset, .unset, .unset, .unset, .unset, .unset, .unset, .unset, .unset, .unset, .unset, .unset]) rfl (XS.aload X92.here hx rfl (hb hby lw_d49) rfl rfl k)) ?_
    show own_Dn p e below s _ _ _ (T92.setTop (mkF m 51 #[.val (.long q0), .second, .val (.int p1), .val (.int p2), .val (.int p3), .val (.int p4), .val (.long (mx_f (1 : Int64) (q0 &&& (9223372036854775807 : Int64)))), .second, .val (.int (p2 &&& (2147483647 : Int32))), .val (.int (p3 &&& (2147483647 : Int32))), .val (.ref o38), .unset, .unset, .unset, .unset, .unset, .unset, .unset, .unset, .unset, .unset, .unset, .unset, .unset] [(.ref o38)]))
    obtain ⟨cq98, kq98, q98a, q98b, q98c⟩ := isOf hZ rfl G93
    obtain ⟨_, _, ⟨T98, L98, k98, n98⟩, -, X98, ⟨Lc98, hQ98, l98, y98, z98⟩, st98⟩ := X92.virtualBack hx (y := (⟨"com/example/stierlin/stierlin/broker/RequestMemory", "limit", "()J"⟩ : MethodName)) (z := (⟨"com/example/stierlin/stierlin/broker/RequestMemory", "limit", "()J"⟩ : MethodName)) hown (mvT hZ (hw _ (List.mem_of_getElem? (i := 36) rfl))) (mvT hZ (hw _ (List.mem_of_getElem? (i := 37) rfl))) (notFace_of_selects (args := #[]) (mvT hZ (hw _ (List.mem_of_getElem? (i := 39) rfl)))) (mvT hZ (hw _ (List.mem_of_getElem? (i := 39) rfl))) (mvT hZ (hw _ (List.mem_of_getElem? (i := 38) rfl))) (by decide) (backOf (W := 0) (li_rm l Z a0 hw [] (o38) ((mx_f (1 : Int64) (q0 &&& (9223372036854775807 : Int64)))) T92.heap n0 F96 G94) hZ (hw _ (List.mem_of_getElem? (i := 40) rfl)) (hw _ (List.mem_of_getElem? (i := 8) rfl)) (by decide) (by decide)) q98a q98c (g := (mkF m 51 #[.val (.long q0), .second, .val (.int p1), .val (.int p2), .val (.int p3), .val (.int p4), .val (.long (mx_f (1 : Int64) (q0 &&& (9223372036854775807 : Int64)))), .second, .val (.int (p2 &&& (2147483647 : Int32))), .val (.int (p3 &&& (2147483647 : Int32))), .val (.ref o38), .unset, .unset, .unset, .unset, .unset, .unset, .unset, .unset, .unset, .unset, .unset, .unset, .unset] [(.ref o38)])) rfl (by rw [hml]; rfl) (Steps.refl _) (argsL := []) (rest := []) (lenOf own_pd3 rfl) rfl (by show 2 * 0 + _ ≤ _; exact Nat.le_of_eq rfl) (hb hby lw_d51) (fun _ _ => ⟨rfl, rfl, (by decide : 3 + 0 ≤ _), (by decide : 23 + 0 ≤ _)⟩)
    dsimp only [Pt.U, Pt.locs, Pt.cells, Pt.slots] at X98 l98 y98 z98 st98 hQ98
    subst l98 y98 z98
    obtain ⟨rfl, N98q, e98⟩ := hQ98
    have N98 := Fr.app N92 N98q
    refine own_tr st98 ?_
    show own_Dn p e below s _ _ _ (T98.setTop (mkF m 54 #[.val (.long q0), .second, .val (.int p1), .val (.int p2), .val (.int p3), .val (.int p4), .val (.long (mx_f (1 : Int64) (q0 &&& (9223372036854775807 : Int64)))), .second, .val (.int (p2 &&& (2147483647 : Int32))), .val (.int (p3 &&& (2147483647 : Int32))), .val (.ref o38), .unset, .unset, .unset, .unset, .unset, .unset, .unset, .unset, .unset, .unset, .unset, .unset, .unset] [(.long (li_f (mx_f (1 : Int64) (q0 &&& (9223372036854775807 : Int64)))))]))
    refine own_st (fun _ k => XS.lload X98.here hx rfl (hb hby lw_d54) rfl (XS.lcmp X98.here hx rfl (hb hby lw_d56) rfl k)) ?_
    show own_Dn p e below s _ _ _ (T98.setTop (mkF m 57 #[.val (.long q0), .second, .val (.int p1), .val (.int p2), .val (.int p3), .val (.int p4), .val (.long (mx_f (1 : Int64) (q0 &&& (9223372036854775807 : Int64)))), .second, .val (.int (p2 &&& (2147483647 : Int32))), .val (.int (p3 &&& (2147483647 : Int32))), .val (.ref o38), .unset, .unset, .unset, .unset, .unset, .unset, .unset, .unset, .unset, .unset, .unset, .unset, .unset] [(.int (lcmpW (li_f (mx_f (1 : Int64) (q0 &&& (9223372036854775807 : Int64)))) (mx_f (1 : Int64) (q0 &&& (9223372036854775807 : Int64)))))]))
    by_cases hc99 : (li_f (mx_f (1 : Int64) (q0 &&& (9223372036854775807 : Int64)))) = (mx_f (1 : Int64) (q0 &&& (9223372036854775807 : Int64)))
    · refine own_st (fun _ k => XS.ifYes X98.here hx rfl (pc0 := 57) (pc' := 62) rfl (hb hby lw_d57) rfl (own_jteq hc99).1 (by decide) (by decide) k) ?_
      show own_Dn p e below s _ _ _ (T98.setTop (mkF m 62 #[.val (.long q0), .second, .val (.int p1), .val (.int p2), .val (.int p3), .val (.int p4), .val (.long (mx_f (1 : Int64) (q0 &&& (9223372036854775807 : Int64)))), .second, .val (.int (p2 &&& (2147483647 : Int32))), .val (.int (p3 &&& (2147483647 : Int32))), .val (.ref o38), .unset, .unset, .unset, .unset, .unset, .unset, .unset, .unset, .unset, .unset, .unset, .unset, .unset] []))
      exact lw_c62 C0 X98 e98 N98 ((mx_f (1 : Int64) (q0 &&& (9223372036854775807 : Int64)))) ((p2 &&& (2147483647 : Int32))) ((p3 &&& (2147483647 : Int32))) ((mx_f (1 : Int64) (q0 &&& (9223372036854775807 : Int64)))) F96 G93 G94 G95 ge87 (by rw [hr0, lw_f, if_neg hc69, if_pos hc99])
    · refine own_st (fun _ k => XS.ifNo X98.here hx rfl (hb hby lw_d57) rfl (own_jfeq hc99).1 k) ?_
      show own_Dn p e below s _ _ _ (T98.setTop (mkF m 60 #[.val (.long q0), .second, .val (.int p1), .val (.int p2), .val (.int p3), .val (.int p4), .val (.long (mx_f (1 : Int64) (q0 &&& (9223372036854775807 : Int64)))), .second, .val (.int (p2 &&& (2147483647 : Int32))), .val (.int (p3 &&& (2147483647 : Int32))), .val (.ref o38), .unset, .unset, .unset, .unset, .unset, .unset, .unset, .unset, .unset, .unset, .unset, .unset, .unset] []))
      refine own_st (fun _ k => XS.iconst X98.here hx rfl (hb hby lw_d60) k) ?_
      show own_Dn p e below s _ _ _ (T98.setTop (mkF m 61 #[.val (.long q0), .second, .val (.int p1), .val (.int p2), .val (.int p3), .val (.int p4), .val (.long (mx_f (1 : Int64) (q0 &&& (9223372036854775807 : Int64)))), .second, .val (.int (p2 &&& (2147483647 : Int32))), .val (.int (p3 &&& (2147483647 : Int32))), .val (.ref o38), .unset, .unset, .unset, .unset, .unset, .unset, .unset, .unset, .unset, .unset, .unset, .unset, .unset] [(.int (0 : Int32))]))
      exact own_retZ X98 hx hret hlk (by decide) (hb hby lw_d61) (by decide) (by decide) ⟨(by rw [hr0, lw_f, if_neg hc69, if_neg hc99]), N98⟩
theorem lw_ef (m : MethodId) (q0 : Int64) (p1 : Int32) (p2 : Int32) (p3 : Int32) (p4 : Int32) : entryFrame m #[(.long q0), (.int p1), (.int p2), (.int p3), (.int p4)] maxLocals = mkF m 0 #[.val (.long q0), .second, .val (.int p1), .val (.int p2), .val (.int p3), .val (.int p4), .unset, .unset, .unset, .unset, .unset, .unset, .unset, .unset, .unset, .unset, .unset, .unset, .unset, .unset, .unset, .unset, .unset, .unset] [] := by first | (simp [entryFrame, mkF, argsToLocals, Value.category, maxLocals]; done) | rfl
theorem lw_rm (l : Launch) (Z : State) (a0 : Array Value) (hw : ∀ d ∈ tables_1, d.before a0 Z = true) (ws : List Jvm.Cond) (q0 : Int64) (p1 : Int32) (p2 : Int32) (p3 : Int32) (p4 : Int32) (h0 : Heap) (n0 : Nat) (Z0 : n0 ≤ h0.size) :
    MetFree l x (head1 (Jvm.Cond.code x code maxLocals ret :: ws) room_1) (fun a U => a = #[(.long q0), (.int p1), (.int p2), (.int p3), (.int p4)] ∧ Z.Warmed39 U.vm ∧ U.heap = h0) (fun _ _ _ _ _ => True) (fun _ U o U' => ∃ v L, o = .returned v ∧ (own_QL (some (.int (lw_f q0 p1 p2 p3 p4))) n0) v U'.heap L ∧ FrameEnd U o U' L room_1.cells room_1.slots) :=
  own_met hw (plainFor_of_name (by first | (simp [plainName, overriddenIn]; done) | decide +kernel)) (fun p e s m below meth c T0 C0 X0 e0 => own_st (fun _ k => castTop (lw_ef m q0 p1 p2 p3 p4) k) (lw_c0 C0 X0 e0 (Fr.nil n0) Z0  rfl))
theorem own_tk (p : Int32) (l t : Int64) : (tk_f p l t = 0 ∧ tk_g2 p l t = t ∧ (l - t).toInt < p.toInt) ∨ (tk_f p l t = 1 ∧ tk_g2 p l t = t + p.toInt64 ∧ ¬ (l - t).toInt < p.toInt) := by
  have e := c_i2l p
  simp only [tk_f, tk_g2, Int64.lt_iff_toInt_lt, e]
  by_cases h : (l - t).toInt < p.toInt
  · exact Or.inl ⟨if_pos h, if_pos h, h⟩
  · exact Or.inr ⟨if_neg h, if_neg h, h⟩
theorem own_l204 (q0 : Int64) (p1 p2 p3 p4 : Int32) (v6 : Int64) (v8 v9 v11 : Int32) (v12 : Int64) (v14 v15 : Int32) (v16 : Int64) (v18 : Int32) (v19 : Int64) (v21 : Int32) (h1 : 0 ≤ v16.toInt ∧ v16.toInt ≤ v6.toInt) (h2 : v16.toInt < 17179869184) (h3 : 0 ≤ v21.toInt) :
    lw_f204 q0 p1 p2 p3 p4 v6 v8 v9 v11 v12 v14 v15 v16 v18 v19 v21 v6 v16 = 1 := by
  have e1 := c_i2l v21
  have e2 := c_ladd v16 v21.toInt64
  have e3 := c_lsub v6 v16
  have r1 := rng64 (v16 + v21.toInt64)
  have r2 := rng64 (v6 - v16)
  have r3 := rng64 v6
  have r4 := rng32 v21
  simp only [lw_f204, li_f, Int64.lt_iff_toInt_lt]
  rcases own_tk v21 v6 v16 with ⟨a, b, c⟩ | ⟨a, b, c⟩
  · rw [if_pos (by omega), if_pos a]; simp
  · rw [if_neg (by omega), if_pos a]; simp
theorem own_l144 (q0 : Int64) (p1 p2 p3 p4 : Int32) (v6 : Int64) (v8 v9 v11 : Int32) (v12 : Int64) (v14 v15 : Int32) (u0 w3 : Int64) (h1 : 0 ≤ w3.toInt ∧ w3.toInt ≤ v6.toInt) (h2 : w3.toInt < 4294967296) (h3 : 0 ≤ v9.toInt)
    (h : (v15 = 0 ∧ u0 = w3 ∧ (v6 - w3).toInt < v9.toInt) ∨ (v15 = 1 ∧ u0 = w3 + v9.toInt64 ∧ ¬ (v6 - w3).toInt < v9.toInt)) :
    lw_f144 q0 p1 p2 p3 p4 v6 v8 v9 v11 v12 v14 v15 u0 v6 w3 = 1 := by
  have e1 := c_i2l v9
  have e2 := c_ladd w3 v9.toInt64
  have e3 := c_lsub v6 w3
  have r1 := rng64 (w3 + v9.toInt64)
  have r2 := rng64 (v6 - w3)
  have r3 := rng64 v6
  have r4 := rng32 v9
  have m1 := c_mask p4 2147483647 31 (by decide) (by decide)
  have key : tk_f v9 v6 w3 = v15 ∧ tk_g2 v9 v6 w3 = u0 := by
    rcases own_tk v9 v6 w3 with ⟨a, b, c⟩ | ⟨a, b, c⟩ <;> rcases h with ⟨x, y, z⟩ | ⟨x, y, z⟩
    · rw [a, b, x, y]; exact ⟨rfl, rfl⟩
    · exact absurd c z
    · exact absurd z c
    · rw [a, b, x, y]; exact ⟨rfl, rfl⟩
  have hu : 0 ≤ u0.toInt ∧ u0.toInt ≤ v6.toInt ∧ u0.toInt < 17179869184 := by
    rcases h with ⟨x, y, z⟩ | ⟨x, y, z⟩ <;> subst y <;> omega
  simp only [lw_f144, key.1, key.2, if_true]
  have f1 := c_lsub v6 u0
  have s1 := rng64 (v6 - u0)
  have m2 : 0 ≤ (p4 &&& (2147483647 : Int32)).toInt := by omega
  split
  · exact own_l204 _ _ _ _ _ _ _ _ _ _ _ _ _ _ _ _ ⟨hu.1, hu.2.1⟩ hu.2.2 m2
  · split
    · exact own_l204 _ _ _ _ _ _ _ _ _ _ _ _ _ _ _ _ ⟨hu.1, hu.2.1⟩ hu.2.2 m2
    · rename_i k
      have k' : ¬ 2147483646 < (v6 - u0).toInt := by
        intro q; apply k; rw [Int64.lt_iff_toInt_lt]; exact q
      refine own_l204 _ _ _ _ _ _ _ _ _ _ _ _ _ _ _ _ ⟨hu.1, hu.2.1⟩ hu.2.2 ?_
      have g1 := c_l2i (v6 - u0)
      have g2 := rng32 (v6 - u0).toInt32
      generalize (p1 >>> ((2 : Int32) &&& 31)) = x
      have g3 := c_mask x 1 1 (by decide) (by decide)
      have g4 := c_iadd (v6 - u0).toInt32 (x &&& 1)
      have g5 := rng32 ((v6 - u0).toInt32 + (x &&& 1))
      omega
theorem own_l90 (q0 : Int64) (p1 p2 p3 p4 : Int32) (v6 : Int64) (v8 v9 v11 : Int32) (u0 : Int64) (h0 : 0 ≤ v6.toInt) (h2 : 0 ≤ v8.toInt) (h3 : 0 ≤ v9.toInt)
    (h : (v11 = 0 ∧ u0 = 0 ∧ v6.toInt < v8.toInt) ∨ (v11 = 1 ∧ u0 = v8.toInt64 ∧ ¬ v6.toInt < v8.toInt)) :
    lw_f90 q0 p1 p2 p3 p4 v6 v8 v9 v11 u0 v6 = 1 := by
  have z0 : (0 : Int64).toInt = 0 := by decide
  have e1 := c_i2l v8
  have e2 := c_ladd 0 v8.toInt64
  have e3 := c_lsub v6 0
  have r1 := rng64 ((0 : Int64) + v8.toInt64)
  have r2 := rng64 (v6 - 0)
  have r3 := rng64 v6
  have r4 := rng32 v8
  have r5 := rng32 v9
  have y0 : (0 : Int64) + v8.toInt64 = v8.toInt64 := Int64.toInt_inj.mp (by omega)
  have key : tk_f v8 v6 0 = v11 ∧ tk_g2 v8 v6 0 = u0 := by
    rcases own_tk v8 v6 0 with ⟨a, b, c⟩ | ⟨a, b, c⟩ <;> rcases h with ⟨x, y, z⟩ | ⟨x, y, z⟩
    · rw [a, b, x, y]; exact ⟨rfl, rfl⟩
    · omega
    · omega
    · rw [a, b, x, y, y0]; exact ⟨rfl, rfl⟩
  have hu : 0 ≤ u0.toInt ∧ u0.toInt ≤ v6.toInt ∧ u0.toInt < 4294967296 := by
    rcases h with ⟨x, y, z⟩ | ⟨x, y, z⟩ <;> subst y <;> omega
  have f0 : u0 + 0 = u0 := by simp
  have f1 := c_ladd u0 v9.toInt64
  have f2 := c_i2l v9
  have f3 := rng64 (u0 + v9.toInt64)
  have f4 := c_lsub v6 u0
  have f5 := rng64 (v6 - u0)
  simp only [lw_f90, key.1, key.2, if_true, Int64.lt_iff_toInt_lt, f0]
  split
  · exact own_l144 _ _ _ _ _ _ _ _ _ _ _ _ _ _ ⟨hu.1, hu.2.1⟩ hu.2.2 h3 (Or.inl ⟨rfl, rfl, by omega⟩)
  · exact own_l144 _ _ _ _ _ _ _ _ _ _ _ _ _ _ ⟨hu.1, hu.2.1⟩ hu.2.2 h3 (Or.inr ⟨rfl, rfl, by omega⟩)
theorem own_l62 (q0 : Int64) (p1 p2 p3 p4 : Int32) (v6 : Int64) (v8 v9 : Int32) (h0 : 0 ≤ v6.toInt) (h2 : 0 ≤ v8.toInt) (h3 : 0 ≤ v9.toInt) : lw_f62 q0 p1 p2 p3 p4 v6 v8 v9 v6 = 1 := by
  have e1 := c_i2l v8
  simp only [lw_f62, Int64.lt_iff_toInt_lt, e1]
  split
  · exact own_l90 _ _ _ _ _ _ _ _ _ _ h0 h2 h3 (Or.inl ⟨rfl, rfl, by assumption⟩)
  · exact own_l90 _ _ _ _ _ _ _ _ _ _ h0 h2 h3 (Or.inr ⟨rfl, rfl, by assumption⟩)
theorem own_law (q0 : Int64) (p1 p2 p3 p4 : Int32) : lw_f q0 p1 p2 p3 p4 = 1 := by
  have m1 : 0 ≤ (p2 &&& (2147483647 : Int32)).toInt := by have := c_mask p2 2147483647 31 (by decide) (by decide); omega
  have m2 : 0 ≤ (p3 &&& (2147483647 : Int32)).toInt := by have := c_mask p3 2147483647 31 (by decide) (by decide); omega
  have mx : ∀ z : Int64, 0 ≤ (mx_f (1 : Int64) z).toInt := fun z => by
    have h := own_mx1 z
    rw [Int64.lt_iff_toInt_lt] at h
    have e : (1 : Int64).toInt = 1 := by decide
    omega
  simp only [lw_f, li_f, if_true, own_l62 _ _ _ _ _ _ _ _ (mx _) m1 m2, ite_self]

set_option maxRecDepth 65536 in
set_option maxHeartbeats 40000000 in
theorem comes_1 {Post : Tables → Env → Array Value → State → Outcome → State → Prop} (hpost : ∀ tb e args s v u, (limb_1_1.after args s (.returned v) u = true ∧ limb_1_2.after args s (.returned v) u = true ∧ True) → FrameEnd s (.returned v) u (Jvm.fieldLocs frame_1_writes args s ++ Jvm.arrayLocs frame_1_arrays args s ++ Jvm.staticLocs frame_1_statics s) 16 128 → Post tb e args s (.returned v) u) :
    ArmFor flags0 classFile x code maxLocals ret World_1 tables_1 room_1 Calls_1 rest_1 Pre_1 Post := by
  intro l hfl _ _ p e ha hc hk s m args below hf hA hF happ hP
  obtain ⟨hcalls, hrest, hpre⟩ := hP
  obtain ⟨-, -, -, hnamed, -, -, -, hat⟩ := (Spec.applies_iff hf).mp happ
  obtain ⟨hg, hn⟩ := and_e (Cond.before_iff.mp (show (Jvm.Cond.and given_1 narrow_1).before args s = true from hpre))
  obtain ⟨gc, hg0⟩ := and_e hg
  obtain ⟨g0, hg1⟩ := and_e hg0
  obtain ⟨g1, hg2⟩ := and_e hg1
  obtain ⟨g2, hg3⟩ := and_e hg2
  obtain ⟨g3, g4⟩ := and_e hg3
  obtain ⟨w0, w1, w2, w3, w4, rfl⟩ : ∃ w0 w1 w2 w3 w4 : Value, args = #[w0, w1, w2, w3, w4] := by
    have hs : args.size = 5 := by simpa [Cond.value, given_1] using gc
    obtain ⟨L⟩ := args
    match L, hs with
    | [w0, w1, w2, w3, w4], _ => exact ⟨w0, w1, w2, w3, w4, rfl⟩
  have hw := fun d (hd : d ∈ tables_1) => atoms_spec (ws := Jvm.Cond.code x code maxLocals ret :: tables_1) hat d (List.mem_cons_of_mem _ hd)
  have hfit : Fit s := fun {y c} hc i hi => by
    obtain ⟨ha, rfl⟩ := Array.getElem?_eq_some_iff.mp hc
    have q := List.all_eq_true.mp ((Array.all_eq_true_iff_forall_mem.mp hF) _ (Array.getElem_mem ha)) i (List.mem_range.mpr hi)
    simpa [Array.getElem?_eq_getElem hi] using q
  obtain ⟨i0, ei0⟩ := isL_v g0
  obtain rfl : w0 = (.long i0) := Option.some.inj ei0
  obtain ⟨i1, ei1⟩ := is_v g1
  obtain rfl : w1 = (.int i1) := Option.some.inj ei1
  obtain ⟨i2, ei2⟩ := is_v g2
  obtain rfl : w2 = (.int i2) := Option.some.inj ei2
  obtain ⟨i3, ei3⟩ := is_v g3
  obtain rfl : w3 = (.int i3) := Option.some.inj ei3
  obtain ⟨i4, ei4⟩ := is_v g4
  obtain rfl : w4 = (.int i4) := Option.some.inj ei4
  obtain ⟨n, o, h1, h2, h3, _, L, rfl, ⟨rfl, N⟩, hq⟩ := lw_rm l s _ hw tables_1 i0 i1 i2 i3 i4  s.heap s.heap.size (Nat.le_refl _) p e ha hc hk s m _ below hf ((Spec.applies_iff_loose hf).mp happ).1 ⟨rfl, State.Warmed39.refl s, rfl⟩ trivial
  refine ⟨n, _, h1, h2, h3, hpost _ _ _ _ _ _ ⟨Cond.after_iff.mpr rfl, Cond.after_iff.mpr (eq_i res_at (Term.int_eval (1)) (by rw [own_law])), trivial⟩ ⟨hq.1, hq.2.1, (hq.2.2.sift fun y hy => Or.inr (N y hy)).mono (by decide) (by decide)⟩⟩
theorem main_1_1 : Claimed_1_1 := comes_1 fun _ _ _ _ _ _ h hF => ⟨h.1, hF⟩
theorem main_1_2 : Claimed_1_2 := comes_1 fun _ _ _ _ _ _ h hF => ⟨h.2.1, hF⟩
end Jvm.Pilot.@@N@@
namespace Jvm.Pilot.@@N@@
open Jvm Jvm.ClassFile Sem Op Lib Jvm.Free Jvm.Stand Jvm.Pilot.@@N@@.Jvm.D
/-! MADE BY PROGRAM (witnessworld.py) out of the Statement's table words and the real class files: 18 classes; the members and pool entries that the words name. The judged class is class 1, her method 1. -/
namespace start1
open Jvm.ClassFile
def u (s : String) : CpInfo := .utf8 (stringToUtf16 s)
/-- a pool by its gaps: so many unusable entries, then the entry; so many at the end -/
def gap : Nat → List CpInfo → List CpInfo
  | 0, r => r
  | n + 1, r => .unusable :: gap n r
def poolList (es : List (Nat × CpInfo)) (last : Nat) : List CpInfo := es.foldr (fun e r => gap e.1 (e.2 :: r)) (gap last [])
def pool (es : List (Nat × CpInfo)) (last : Nat) : Array CpInfo := ⟨poolList es last⟩
def fileOf (pool : Array CpInfo) (this : Nat) (attrs : Array Attribute := #[]) (ms : Array MethodInfo := #[]) (fl : Nat := 33) (sup : Nat := 0) (ifs : Array Nat := #[]) (fds : Array FieldInfo := #[]) : ClassFile where
  minorVersion := 0
  majorVersion := 65
  constantPool := pool
  accessFlags := fl
  thisClass := this
  superClass := sup
  interfaces := ifs
  fields := fds
  methods := ms
  attributes := attrs
def plain (name : String) (sup : Option ClassId) : Class where
  name := name
  kind := .ordinary
  loader := none
  accessFlags := 33
  super := sup
  interfaces := #[]
  cf := none
  fields := #[]
  methods := #[]
  instanceTypes := #[]
  staticTypes := #[]
  resolved := #[]
  callSites := []
  init := .initialized
  statics := none
  mirror := none

def pool0 : Array CpInfo := pool [(5, u "<init>"), (0, u "()V"), (1, .class_ 10), (1, u "java/lang/Object")] 113

def k0c0 : Code := { maxStack := 0, maxLocals := 1, code := object_method_1_code, exceptionTable := #[], attributes := #[] }
def k0m0 : Method := { name := "<init>", desc := "()V", sig := { parameters := [], returnType := none }, accessFlags := 1, code := some k0c0 }
/-- java/lang/Object -/
def k0 : Class := { plain "java/lang/Object" none with
  accessFlags := 33
  interfaces := #[]
  cf := some (fileOf pool0 8 #[] #[{ accessFlags := 1, nameIndex := 5, descriptorIndex := 6, attributes := #[] }] 33 0 #[] #[])
  fields := #[]
  methods := #[k0m0]
  instanceTypes := #[]
  staticTypes := #[]
  resolved := Array.replicate 124 none
  statics := none }

def pool1 : Array CpInfo := pool [(2, .class_ 4), (1, u "java/lang/Object"), (0, u "<init>"), (0, u "()V"), (2, .long 9223372036854775807), (1, .long 4294967295), (1, .methodref 14 15), (0, .class_ 16), (0, .nameAndType 17 18), (0, u "java/lang/Math"), (0, u "max"), (0, u "(JJ)J"), (0, .integer 2147483647), (0, .class_ 21), (0, u "com/example/stierlin/stierlin/broker/RequestMemory"), (0, .methodref 20 23), (0, .nameAndType 5 24), (0, u "(J)V"), (0, .methodref 20 26), (0, .nameAndType 27 28), (0, u "limit"), (0, u "()J"), (0, .methodref 20 30), (0, .nameAndType 31 32), (0, u "take"), (0, u "(I)Z"), (2, .long 2147483646), (1, .class_ 38), (0, u "com/example/stierlin/stierlin/broker/RequestMemoryTakePinLaw"), (2, u "law"), (0, u "(JIIII)Z")] 3

def k1m0 : Method := { name := "<init>", desc := "()V", sig := { parameters := [], returnType := none }, accessFlags := 1, code := none }
def k1c1 : Code := { maxStack := 6, maxLocals := 24, code := code, exceptionTable := #[], attributes := #[] }
def k1m1 : Method := { name := "law", desc := "(JIIII)Z", sig := { parameters := [.long, .int, .int, .int, .int], returnType := some .boolean }, accessFlags := 9, code := some k1c1 }
/-- com/example/stierlin/stierlin/broker/RequestMemoryTakePinLaw -/
def k1 : Class := { plain "com/example/stierlin/stierlin/broker/RequestMemoryTakePinLaw" (some 0) with
  accessFlags := 49
  interfaces := #[]
  cf := some (fileOf pool1 37 #[] #[{ accessFlags := 1, nameIndex := 5, descriptorIndex := 6, attributes := #[] }, { accessFlags := 9, nameIndex := 41, descriptorIndex := 42, attributes := #[] }] 49 2 #[] #[])
  fields := #[]
  methods := #[k1m0, k1m1]
  instanceTypes := #[]
  staticTypes := #[]
  resolved := Array.replicate 46 none
  statics := none }

def pool2 : Array CpInfo := pool [(1, .class_ 2), (0, u "java/lang/Math"), (1, .class_ 6), (1, u "java/lang/Object"), (0, u "<init>"), (0, u "()V"), (89, .class_ 100), (1, u "java/lang/Math$RandomNumberGeneratorHolder"), (20, u "(JJ)J"), (50, u "negativeZeroFloatBits"), (0, u "J"), (2, u "negativeZeroDoubleBits"), (21, u "max"), (46, u "$assertionsDisabled"), (0, u "Z"), (91, u "twoToTheDoubleScaleDown"), (0, u "D"), (4, u "twoToTheDoubleScaleUp"), (9, u "E"), (3, u "PI"), (2, u "TAU"), (2, u "DEGREES_TO_RADIANS"), (0, u "RADIANS_TO_DEGREES")] 94

def k2m0 : Method := { name := "<init>", desc := "()V", sig := { parameters := [], returnType := none }, accessFlags := 2, code := none }
def k2c1 : Code := { maxStack := 4, maxLocals := 4, code := jdk_29_method_66_code, exceptionTable := #[], attributes := #[] }
def k2m1 : Method := { name := "max", desc := "(JJ)J", sig := { parameters := [.long, .long], returnType := some .long }, accessFlags := 9, code := some k2c1 }
/-- java/lang/Math -/
def k2 : Class := { plain "java/lang/Math" (some 0) with
  accessFlags := 49
  interfaces := #[]
  cf := some (fileOf pool2 1 #[.nestMembers #[98]] #[{ accessFlags := 2, nameIndex := 7, descriptorIndex := 8, attributes := #[] }, { accessFlags := 9, nameIndex := 198, descriptorIndex := 121, attributes := #[] }] 49 4 #[] #[{ accessFlags := 25, nameIndex := 354, descriptorIndex := 339, attributes := #[] }, { accessFlags := 25, nameIndex := 358, descriptorIndex := 339, attributes := #[] }, { accessFlags := 25, nameIndex := 361, descriptorIndex := 339, attributes := #[] }, { accessFlags := 26, nameIndex := 364, descriptorIndex := 339, attributes := #[] }, { accessFlags := 26, nameIndex := 365, descriptorIndex := 339, attributes := #[] }, { accessFlags := 26, nameIndex := 172, descriptorIndex := 173, attributes := #[] }, { accessFlags := 26, nameIndex := 176, descriptorIndex := 173, attributes := #[] }, { accessFlags := 8, nameIndex := 344, descriptorIndex := 339, attributes := #[] }, { accessFlags := 8, nameIndex := 338, descriptorIndex := 339, attributes := #[] }, { accessFlags := 4120, nameIndex := 245, descriptorIndex := 246, attributes := #[] }])
  fields := #[{ name := "E", type := .double, accessFlags := 25, slot := 0, constantValue := 0 }, { name := "PI", type := .double, accessFlags := 25, slot := 1, constantValue := 0 }, { name := "TAU", type := .double, accessFlags := 25, slot := 2, constantValue := 0 }, { name := "DEGREES_TO_RADIANS", type := .double, accessFlags := 26, slot := 3, constantValue := 0 }, { name := "RADIANS_TO_DEGREES", type := .double, accessFlags := 26, slot := 4, constantValue := 0 }, { name := "negativeZeroFloatBits", type := .long, accessFlags := 26, slot := 5, constantValue := 0 }, { name := "negativeZeroDoubleBits", type := .long, accessFlags := 26, slot := 6, constantValue := 0 }, { name := "twoToTheDoubleScaleUp", type := .double, accessFlags := 8, slot := 7, constantValue := 0 }, { name := "twoToTheDoubleScaleDown", type := .double, accessFlags := 8, slot := 8, constantValue := 0 }, { name := "$assertionsDisabled", type := .boolean, accessFlags := 4120, slot := 9, constantValue := 0 }]
  methods := #[k2m0, k2m1]
  instanceTypes := #[]
  staticTypes := #[.double, .double, .double, .double, .double, .long, .long, .double, .double, .boolean]
  resolved := Array.replicate 460 none
  statics := none }

def pool3 : Array CpInfo := pool [(1, .methodref 2 3), (0, .class_ 4), (0, .nameAndType 5 6), (0, u "java/lang/Object"), (0, u "<init>"), (0, u "()V"), (0, .class_ 8), (0, u "java/util/ArrayDeque"), (0, .methodref 7 3), (0, .fieldref 11 12), (0, .class_ 13), (0, .nameAndType 14 15), (0, u "com/example/stierlin/stierlin/broker/RequestMemory"), (0, u "waiting"), (0, u "Ljava/util/Deque;"), (9, .fieldref 11 26), (0, .nameAndType 27 28), (0, u "limit"), (0, u "J"), (0, .fieldref 11 30), (0, .nameAndType 31 28), (0, u "taken"), (0, .class_ 33), (0, u "com/example/stierlin/stierlin/broker/RequestMemory$Waiting"), (32, u "take"), (0, u "(I)Z"), (13, u "(J)V"), (3, u "()J")] 25

def k3c0 : Code := { maxStack := 4, maxLocals := 3, code := prog_7_method_1_code, exceptionTable := #[], attributes := #[] }
def k3m0 : Method := { name := "<init>", desc := "(J)V", sig := { parameters := [.long], returnType := none }, accessFlags := 0, code := some k3c0 }
def k3c1 : Code := { maxStack := 2, maxLocals := 1, code := prog_7_method_2_code, exceptionTable := #[], attributes := #[] }
def k3m1 : Method := { name := "limit", desc := "()J", sig := { parameters := [], returnType := some .long }, accessFlags := 0, code := some k3c1 }
def k3c2 : Code := { maxStack := 6, maxLocals := 3, code := prog_7_method_3_code, exceptionTable := #[], attributes := #[] }
def k3m2 : Method := { name := "take", desc := "(I)Z", sig := { parameters := [.int], returnType := some .boolean }, accessFlags := 0, code := some k3c2 }
/-- com/example/stierlin/stierlin/broker/RequestMemory -/
def k3 : Class := { plain "com/example/stierlin/stierlin/broker/RequestMemory" (some 0) with
  accessFlags := 48
  interfaces := #[]
  cf := some (fileOf pool3 11 #[.nestMembers #[32]] #[{ accessFlags := 0, nameIndex := 5, descriptorIndex := 81, attributes := #[] }, { accessFlags := 0, nameIndex := 27, descriptorIndex := 85, attributes := #[] }, { accessFlags := 0, nameIndex := 66, descriptorIndex := 67, attributes := #[] }] 48 2 #[] #[{ accessFlags := 18, nameIndex := 27, descriptorIndex := 28, attributes := #[] }, { accessFlags := 18, nameIndex := 14, descriptorIndex := 15, attributes := #[] }, { accessFlags := 2, nameIndex := 31, descriptorIndex := 28, attributes := #[] }])
  fields := #[{ name := "limit", type := .long, accessFlags := 18, slot := 0, constantValue := 0 }, { name := "waiting", type := (.object "java/util/Deque"), accessFlags := 18, slot := 1, constantValue := 0 }, { name := "taken", type := .long, accessFlags := 2, slot := 2, constantValue := 0 }]
  methods := #[k3m0, k3m1, k3m2]
  instanceTypes := #[.long, (.object "java/util/Deque"), .long]
  staticTypes := #[]
  resolved := Array.replicate 111 none
  statics := none }

def pool4 : Array CpInfo := pool [(8, .class_ 10), (1, u "java/lang/Iterable"), (24, .class_ 36), (0, u "java/lang/Object")] 25

/-- java/lang/Iterable -/
def k4 : Class := { plain "java/lang/Iterable" (some 0) with
  accessFlags := 1537
  interfaces := #[]
  cf := some (fileOf pool4 8 #[] #[] 1537 35 #[] #[])
  fields := #[]
  methods := #[]
  instanceTypes := #[]
  staticTypes := #[]
  resolved := Array.replicate 62 none
  statics := none }

def pool5 : Array CpInfo := pool [(10, .class_ 12), (1, u "java/util/Collection"), (47, .class_ 61), (0, u "java/lang/Object"), (0, .class_ 63), (0, u "java/lang/Iterable")] 51

/-- java/util/Collection -/
def k5 : Class := { plain "java/util/Collection" (some 0) with
  accessFlags := 1537
  interfaces := #[4]
  cf := some (fileOf pool5 10 #[] #[] 1537 60 #[62] #[])
  fields := #[]
  methods := #[]
  instanceTypes := #[]
  staticTypes := #[]
  resolved := Array.replicate 115 none
  statics := none }

def pool6 : Array CpInfo := pool [(1, .methodref 2 3), (0, .class_ 4), (0, .nameAndType 5 6), (0, u "java/lang/Object"), (0, u "<init>"), (0, u "()V"), (1, .class_ 10), (1, u "java/util/AbstractCollection"), (66, .class_ 78), (0, u "java/util/Collection")] 81

def k6c0 : Code := { maxStack := 1, maxLocals := 1, code := jdk_22_method_1_code, exceptionTable := #[], attributes := #[] }
def k6m0 : Method := { name := "<init>", desc := "()V", sig := { parameters := [], returnType := none }, accessFlags := 4, code := some k6c0 }
/-- java/util/AbstractCollection -/
def k6 : Class := { plain "java/util/AbstractCollection" (some 0) with
  accessFlags := 1057
  interfaces := #[5]
  cf := some (fileOf pool6 8 #[] #[{ accessFlags := 4, nameIndex := 5, descriptorIndex := 6, attributes := #[] }] 1057 2 #[77] #[])
  fields := #[]
  methods := #[k6m0]
  instanceTypes := #[]
  staticTypes := #[]
  resolved := Array.replicate 160 none
  statics := none }

def pool7 : Array CpInfo := pool [(1, .class_ 2), (0, u "java/util/Queue"), (0, .class_ 4), (0, u "java/lang/Object"), (0, .class_ 6), (0, u "java/util/Collection")] 14

/-- java/util/Queue -/
def k7 : Class := { plain "java/util/Queue" (some 0) with
  accessFlags := 1537
  interfaces := #[5]
  cf := some (fileOf pool7 1 #[] #[] 1537 3 #[5] #[])
  fields := #[]
  methods := #[]
  instanceTypes := #[]
  staticTypes := #[]
  resolved := Array.replicate 21 none
  statics := none }

def pool8 : Array CpInfo := pool [(8, .class_ 10), (1, u "java/util/SequencedCollection"), (15, .class_ 27), (0, u "java/lang/Object"), (0, .class_ 29), (0, u "java/util/Collection")] 27

/-- java/util/SequencedCollection -/
def k8 : Class := { plain "java/util/SequencedCollection" (some 0) with
  accessFlags := 1537
  interfaces := #[5]
  cf := some (fileOf pool8 8 #[] #[] 1537 26 #[28] #[])
  fields := #[]
  methods := #[]
  instanceTypes := #[]
  staticTypes := #[]
  resolved := Array.replicate 57 none
  statics := none }

def pool9 : Array CpInfo := pool [(8, .class_ 10), (1, u "java/util/Deque"), (2, .class_ 14), (0, u "java/lang/Object"), (0, .class_ 16), (0, u "java/util/Queue"), (0, .class_ 18), (0, u "java/util/SequencedCollection")] 51

/-- java/util/Deque -/
def k9 : Class := { plain "java/util/Deque" (some 0) with
  accessFlags := 1537
  interfaces := #[7, 8]
  cf := some (fileOf pool9 8 #[] #[] 1537 13 #[15, 17] #[])
  fields := #[]
  methods := #[]
  instanceTypes := #[]
  staticTypes := #[]
  resolved := Array.replicate 70 none
  statics := none }

def pool10 : Array CpInfo := pool [(1, .class_ 2), (0, u "java/lang/Cloneable"), (0, .class_ 4), (0, u "java/lang/Object")] 2

/-- java/lang/Cloneable -/
def k10 : Class := { plain "java/lang/Cloneable" (some 0) with
  accessFlags := 1537
  interfaces := #[]
  cf := some (fileOf pool10 1 #[] #[] 1537 3 #[] #[])
  fields := #[]
  methods := #[]
  instanceTypes := #[]
  staticTypes := #[]
  resolved := Array.replicate 7 none
  statics := none }

def pool11 : Array CpInfo := pool [(1, .class_ 2), (0, u "java/io/Serializable"), (0, .class_ 4), (0, u "java/lang/Object")] 2

/-- java/io/Serializable -/
def k11 : Class := { plain "java/io/Serializable" (some 0) with
  accessFlags := 1537
  interfaces := #[]
  cf := some (fileOf pool11 1 #[] #[] 1537 3 #[] #[])
  fields := #[]
  methods := #[]
  instanceTypes := #[]
  staticTypes := #[]
  resolved := Array.replicate 7 none
  statics := none }

def pool12 : Array CpInfo := pool [(3, .fieldref 4 5), (0, .class_ 6), (0, .nameAndType 7 8), (0, u "java/util/ArrayDeque"), (0, u "elements"), (0, u "[Ljava/lang/Object;"), (13, u "tail"), (0, u "I"), (2, u "head"), (12, u "<init>"), (2, .methodref 43 44), (0, .class_ 45), (0, .nameAndType 39 46), (0, u "java/util/AbstractCollection"), (0, u "()V"), (0, .class_ 48), (0, u "java/lang/Object"), (82, .class_ 132), (0, u "java/util/ArrayDeque$DeqIterator"), (3, .class_ 137), (0, u "java/util/ArrayDeque$DescendingIterator"), (1, .class_ 140), (0, u "java/util/ArrayDeque$DeqSpliterator"), (137, .class_ 279), (0, u "java/util/Deque"), (0, .class_ 281), (0, u "java/lang/Cloneable"), (0, .class_ 283), (0, u "java/io/Serializable"), (0, u "MAX_ARRAY_SIZE"), (1, u "serialVersionUID"), (0, u "J")] 150

def k12c0 : Code := { maxStack := 2, maxLocals := 1, code := jdk_21_method_3_code, exceptionTable := #[], attributes := #[] }
def k12m0 : Method := { name := "<init>", desc := "()V", sig := { parameters := [], returnType := none }, accessFlags := 1, code := some k12c0 }
/-- java/util/ArrayDeque -/
def k12 : Class := { plain "java/util/ArrayDeque" (some 6) with
  accessFlags := 33
  interfaces := #[9, 10, 11]
  cf := some (fileOf pool12 4 #[.nestMembers #[139, 136, 131]] #[{ accessFlags := 1, nameIndex := 39, descriptorIndex := 46, attributes := #[] }] 33 43 #[278, 280, 282] #[{ accessFlags := 128, nameIndex := 7, descriptorIndex := 8, attributes := #[] }, { accessFlags := 128, nameIndex := 26, descriptorIndex := 23, attributes := #[] }, { accessFlags := 128, nameIndex := 22, descriptorIndex := 23, attributes := #[] }, { accessFlags := 26, nameIndex := 284, descriptorIndex := 23, attributes := #[] }, { accessFlags := 26, nameIndex := 286, descriptorIndex := 287, attributes := #[] }])
  fields := #[{ name := "elements", type := (.array (.object "java/lang/Object")), accessFlags := 128, slot := 0, constantValue := 0 }, { name := "head", type := .int, accessFlags := 128, slot := 1, constantValue := 0 }, { name := "tail", type := .int, accessFlags := 128, slot := 2, constantValue := 0 }, { name := "MAX_ARRAY_SIZE", type := .int, accessFlags := 26, slot := 0, constantValue := 0 }, { name := "serialVersionUID", type := .long, accessFlags := 26, slot := 1, constantValue := 0 }]
  methods := #[k12m0]
  instanceTypes := #[(.array (.object "java/lang/Object")), .int, .int]
  staticTypes := #[.int, .long]
  resolved := Array.replicate 438 none
  statics := none }

/-- the primitive byte -/
def k13 : Class := { plain "byte" none with kind := .primitive 'B', accessFlags := 0x411 }
/-- [B -/
def k14 : Class := { plain "[B" (some 0) with kind := .array 13 .byte, interfaces := #[10, 11], accessFlags := 1041 }

/-- the primitive int -/
def k15 : Class := { plain "int" none with kind := .primitive 'I', accessFlags := 0x411 }
/-- [I -/
def k16 : Class := { plain "[I" (some 0) with kind := .array 15 .int, interfaces := #[10, 11], accessFlags := 1041 }

/-- [Ljava/lang/Object; -/
def k17 : Class := { plain "[Ljava/lang/Object;" (some 0) with kind := .array 0 (.object "java/lang/Object"), interfaces := #[10, 11], accessFlags := 1041 }

def heap : Heap := #[]
def classes : Array Class := #[k0, k1, k2, k3, k4, k5, k6, k7, k8, k9, k10, k11, k12, k13, k14, k15, k16, k17]
def interned : List (Array UInt16 × Addr) := []
def slotsUsed : Nat := 0
def theMethod : MethodId := ⟨1, 1⟩
def args0 : Array Value := #[.long 5, .int 9, .int 7, .int 3, .int 2]
def aboutOver (below : List Frame) : State where
  vm := { classes := classes, interned := interned.toArray }
  heap := heap
  slotsUsed := slotsUsed
  threads := #[{ frames := .invoking theMethod args0 :: below }]
def below0 : List Frame := [.native { method := ⟨0, 0⟩, args := #[] }]
def about1 : State := aboutOver below0
def p0 : Program := .bare "" "" ""
def e0 : Env := launch0.env 0 0 0
theorem w_frames : about1.frames = Frame.invoking theMethod args0 :: below0 := rfl
set_option maxRecDepth 65536 in
theorem w_args : argsFit about1.vm theMethod args0 = true := by decide +kernel
set_option maxRecDepth 65536 in
theorem w_heap : heapFits about1 = true := by decide +kernel
set_option maxRecDepth 65536 in
theorem w_runnable : about1.curStatus? = some .runnable := by decide +kernel
set_option maxRecDepth 65536 in
theorem w_alone : about1.alone = true := by decide +kernel
set_option maxRecDepth 65536 in
theorem w_named : about1.methodNamed? x = some theMethod := by decide +kernel
set_option maxRecDepth 65536 in
theorem w_hears : about1.hears theMethod below0 = true := by decide +kernel
set_option maxRecDepth 65536 in
theorem w_ripe : about1.ripe theMethod args0 below0 = true := by decide +kernel
theorem w_running : about1.status = .running := rfl
set_option maxRecDepth 65536 in
theorem w_room : about1.hasRoom e0.platform room_1 = true :=
  launch0.hasRoom_least _ room_1 (by decide +kernel) (by decide +kernel) (by decide +kernel) (by decide +kernel) (by decide +kernel) (by decide +kernel)
theorem allAtoms_all (ts : List Jvm.Cond) (a : Array Jvm.Value) (st : Jvm.State) : (allAtoms ts).before a st = ts.all (fun c => c.before a st) := by
  induction ts with
  | nil => rfl
  | cons c t ih =>
    show (Jvm.Cond.and c (allAtoms t)).before a st = _
    rw [Jvm.Cond.before_and, ih, List.all_cons]
def words1 : List Jvm.Cond := Jvm.Cond.code x code maxLocals ret :: tables_1
/-- a 'code' word, met by the world's own term for the bytes: nothing is compared byte by byte -/
theorem code_word {y : MethodName} {bytes : ByteArray} {mx : Nat} {rt : Option FieldType} {a : Array Value} {s : State} {m : MethodId} {meth : Method} {c : Code} (h1 : s.methodNamed? y = some m) (h2 : s.vm.method? m = some meth) (h3 : meth.code = some c) (h4 : c.code = bytes)
    (h5 : (c.maxLocals == mx && c.exceptionTable.isEmpty && decide (c.maxStack ≤ mostOperands) && decide (meth.sig.returnType = rt) && !meth.locks && decide (parseMethodDescriptor y.desc = some meth.sig)) = true) : (Jvm.Cond.code y bytes mx rt).before a s = true := by
  simp only [Bool.and_eq_true, beq_iff_eq, Bool.not_eq_true', decide_eq_true_eq] at h5
  obtain ⟨⟨⟨⟨⟨g1, g2⟩, g3⟩, g4⟩, g5⟩, g6⟩ := h5
  simp [Cond.before, Cond.holds, Cond.value, h1, h2, h3, h4, g1, g2, g3, g4, g5, g6]
def isCode : Jvm.Cond → Bool
  | .code _ _ _ _ => true
  | _ => false
theorem all_split {L : List Jvm.Cond} {P : Jvm.Cond → Bool} (h1 : L.all (fun c => isCode c || P c) = true) (h2 : ∀ c ∈ L.filter isCode, P c = true) : L.all P = true := by
  refine List.all_eq_true.mpr fun c hc => ?_
  have h := List.all_eq_true.mp h1 c hc
  rcases Bool.eq_false_or_eq_true (isCode c) with hi | hi
  · exact h2 c (List.mem_filter.mpr ⟨hc, hi⟩)
  · simpa [hi] using h
set_option maxRecDepth 65536 in
theorem w_c0 : (Jvm.Cond.code x code maxLocals ret).before args0 about1 = true := code_word (m := ⟨1, 1⟩) (meth := k1m1) (c := k1c1) (by decide +kernel) rfl rfl rfl (by decide +kernel)
set_option maxRecDepth 65536 in
theorem w_c1 : (Jvm.Cond.code ({ cls := "java/lang/Math", name := "max", desc := "(JJ)J" } : Jvm.MethodName) jdk_29_method_66_code (4 : Nat) (Option.some Jvm.ClassFile.FieldType.long)).before args0 about1 = true := code_word (m := ⟨2, 1⟩) (meth := k2m1) (c := k2c1) (by decide +kernel) rfl rfl rfl (by decide +kernel)
set_option maxRecDepth 65536 in
theorem w_c2 : (Jvm.Cond.code ({ cls := "com/example/stierlin/stierlin/broker/RequestMemory", name := "<init>", desc := "(J)V" } : Jvm.MethodName) prog_7_method_1_code (3 : Nat) (Option.none : Option Jvm.ClassFile.FieldType)).before args0 about1 = true := code_word (m := ⟨3, 0⟩) (meth := k3m0) (c := k3c0) (by decide +kernel) rfl rfl rfl (by decide +kernel)
set_option maxRecDepth 65536 in
theorem w_c3 : (Jvm.Cond.code ({ cls := "java/lang/Object", name := "<init>", desc := "()V" } : Jvm.MethodName) object_method_1_code (1 : Nat) (Option.none : Option Jvm.ClassFile.FieldType)).before args0 about1 = true := code_word (m := ⟨0, 0⟩) (meth := k0m0) (c := k0c0) (by decide +kernel) rfl rfl rfl (by decide +kernel)
set_option maxRecDepth 65536 in
theorem w_c4 : (Jvm.Cond.code ({ cls := "java/util/ArrayDeque", name := "<init>", desc := "()V" } : Jvm.MethodName) jdk_21_method_3_code (1 : Nat) (Option.none : Option Jvm.ClassFile.FieldType)).before args0 about1 = true := code_word (m := ⟨12, 0⟩) (meth := k12m0) (c := k12c0) (by decide +kernel) rfl rfl rfl (by decide +kernel)
set_option maxRecDepth 65536 in
theorem w_c5 : (Jvm.Cond.code ({ cls := "java/util/AbstractCollection", name := "<init>", desc := "()V" } : Jvm.MethodName) jdk_22_method_1_code (1 : Nat) (Option.none : Option Jvm.ClassFile.FieldType)).before args0 about1 = true := code_word (m := ⟨6, 0⟩) (meth := k6m0) (c := k6c0) (by decide +kernel) rfl rfl rfl (by decide +kernel)
set_option maxRecDepth 65536 in
theorem w_c6 : (Jvm.Cond.code ({ cls := "com/example/stierlin/stierlin/broker/RequestMemory", name := "limit", desc := "()J" } : Jvm.MethodName) prog_7_method_2_code (1 : Nat) (Option.some Jvm.ClassFile.FieldType.long)).before args0 about1 = true := code_word (m := ⟨3, 1⟩) (meth := k3m1) (c := k3c1) (by decide +kernel) rfl rfl rfl (by decide +kernel)
set_option maxRecDepth 65536 in
theorem w_c7 : (Jvm.Cond.code ({ cls := "com/example/stierlin/stierlin/broker/RequestMemory", name := "take", desc := "(I)Z" } : Jvm.MethodName) prog_7_method_3_code (3 : Nat) (Option.some Jvm.ClassFile.FieldType.boolean)).before args0 about1 = true := code_word (m := ⟨3, 2⟩) (meth := k3m2) (c := k3c2) (by decide +kernel) rfl rfl rfl (by decide +kernel)
def codes1 : List Jvm.Cond := [Jvm.Cond.code x code maxLocals ret, Jvm.Cond.code ({ cls := "java/lang/Math", name := "max", desc := "(JJ)J" } : Jvm.MethodName) jdk_29_method_66_code (4 : Nat) (Option.some Jvm.ClassFile.FieldType.long), Jvm.Cond.code ({ cls := "com/example/stierlin/stierlin/broker/RequestMemory", name := "<init>", desc := "(J)V" } : Jvm.MethodName) prog_7_method_1_code (3 : Nat) (Option.none : Option Jvm.ClassFile.FieldType), Jvm.Cond.code ({ cls := "java/lang/Object", name := "<init>", desc := "()V" } : Jvm.MethodName) object_method_1_code (1 : Nat) (Option.none : Option Jvm.ClassFile.FieldType), Jvm.Cond.code ({ cls := "java/util/ArrayDeque", name := "<init>", desc := "()V" } : Jvm.MethodName) jdk_21_method_3_code (1 : Nat) (Option.none : Option Jvm.ClassFile.FieldType), Jvm.Cond.code ({ cls := "java/util/AbstractCollection", name := "<init>", desc := "()V" } : Jvm.MethodName) jdk_22_method_1_code (1 : Nat) (Option.none : Option Jvm.ClassFile.FieldType), Jvm.Cond.code ({ cls := "com/example/stierlin/stierlin/broker/RequestMemory", name := "limit", desc := "()J" } : Jvm.MethodName) prog_7_method_2_code (1 : Nat) (Option.some Jvm.ClassFile.FieldType.long), Jvm.Cond.code ({ cls := "com/example/stierlin/stierlin/broker/RequestMemory", name := "take", desc := "(I)Z" } : Jvm.MethodName) prog_7_method_3_code (3 : Nat) (Option.some Jvm.ClassFile.FieldType.boolean)]
set_option maxRecDepth 65536 in
theorem codes_eq : words1.filter isCode = codes1 := rfl
theorem w_codes : ∀ c ∈ words1.filter isCode, c.before args0 about1 = true := by
  rw [codes_eq]
  intro c hc
  simp only [codes1, List.mem_cons, List.not_mem_nil, or_false] at hc
  rcases hc with rfl | rfl | rfl | rfl | rfl | rfl | rfl | rfl
  · exact w_c0
  · exact w_c1
  · exact w_c2
  · exact w_c3
  · exact w_c4
  · exact w_c5
  · exact w_c6
  · exact w_c7
set_option maxRecDepth 65536 in
theorem w_t1 : (words1.take 24).all (fun c => isCode c || c.before args0 about1) = true := by decide +kernel
set_option maxRecDepth 65536 in
theorem w_t2 : ((words1.drop 24).take 24).all (fun c => isCode c || c.before args0 about1) = true := by decide +kernel
set_option maxRecDepth 65536 in
theorem w_t3 : ((words1.drop 24).drop 24).all (fun c => isCode c || c.before args0 about1) = true := by decide +kernel
theorem w_tables : (allAtoms (Jvm.Cond.code x code maxLocals ret :: tables_1)).before args0 about1 = true := by
  rw [allAtoms_all]
  show words1.all (fun c => c.before args0 about1) = true
  refine all_split ?_ w_codes
  rw [← List.take_append_drop 24 words1, List.all_append, w_t1, ← List.take_append_drop 24 (words1.drop 24), List.all_append, w_t2, w_t3]
  rfl
set_option maxRecDepth 65536 in
theorem w_case : (Jvm.Cond.and given_1 narrow_1).before args0 about1 = true := by decide +kernel
theorem w_applies : (headSpec (Jvm.Cond.code x code maxLocals ret :: tables_1) room_1).applies x e0.platform about1 = true :=
  (Spec.applies_iff w_frames).mpr ⟨w_running, w_runnable, w_alone, w_named, w_hears, w_ripe, w_room, w_tables⟩
theorem atStart : AtStart classFile x code maxLocals ret World_1 tables_1 room_1 Calls_1 rest_1 Pre_1 launch0 p0 e0 about1 theMethod args0 below0 :=
  ⟨lists_1, trivial, launch0.admits_env _ _ _, launch0.least_env, fairChoices_fair.cas, fairChoices_fair.clock, w_frames, w_args, w_heap, w_applies, trivial, trivial, w_case⟩
end start1
theorem witness_1 : WitnessClaimed_1 := ⟨start1.p0, start1.e0, start1.about1, start1.theMethod, start1.args0, start1.below0, start1.atStart⟩
end Jvm.Pilot.@@N@@
