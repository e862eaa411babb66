import JvmDerived
import JvmDerived.Pilot.@@N@@Statement
import JvmDerived.Pilot.@@N@@Code
set_option linter.unusedVariables false
set_option linter.unusedSimpArgs false

namespace Jvm.Pilot.@@N@@
open Jvm Jvm.ClassFile Sem Op Lib Jvm.Free Jvm.Stand Jvm.LawKit Jvm.RoadKit Bundle Jvm.Pilot.@@N@@.Jvm.D
/-! own layer: 'from here the run ends, and Q holds of what it leaves' (own_Dn), stepped backwards -/
def own_Dn (p : Program) (e : Env) (below : List Frame) (s : State) (Q : Option Value → Heap → List Loc → Prop) (K N : Nat) (A : State) : Prop :=
  ∃ s₂ o, Steps p.tables e below A s₂ ∧ s₂.status = .running ∧ Ended s₂ below o ∧ ∃ v L, o = .returned v ∧ Q v s₂.heap L ∧ FrameEnd s o s₂ L K N
def own_Q (r : Option Value) (n0 : Nat) (h0 : Heap) (v : Option Value) (h : Heap) (L : List Loc) : Prop := v = r ∧ Fr n0 L ∧ h = h0
def own_QL (r : Option Value) (n0 : Nat) (v : Option Value) (h : Heap) (L : List Loc) : Prop := v = r ∧ Fr n0 L
def own_Cx (p : Program) (s : State) (m : MethodId) (meth : Method) (c : Code) (Z : State) (a0 : Array Value) (bytes : ByteArray) (ml : Nat) (own nm : String) (ret : Option FieldType) : Prop :=
  p.tables.exec = Jvm.exec ∧ Z.Warmed39 s.vm ∧ (∀ d ∈ tables_1, d.before a0 Z = true) ∧ c.code = bytes ∧ c.maxLocals = ml ∧ s.vm.findClass own = some m.cls ∧ meth.sig.returnType = ret ∧ meth.locks = false ∧ meth.name = nm
theorem own_st {p : Program} {e : Env} {below : List Frame} {s : State} {Q : Option Value → Heap → List Loc → Prop} {K N : Nat} {A B : State} (k : ∀ t, Steps p.tables e below B t → Steps p.tables e below A t) (d : own_Dn p e below s Q K N B) : own_Dn p e below s Q K N A := by
  obtain ⟨s₂, o, h, r⟩ := d
  exact ⟨s₂, o, k _ h, r⟩
theorem own_tr {p : Program} {e : Env} {below : List Frame} {s : State} {Q : Option Value → Heap → List Loc → Prop} {K N : Nat} {A B : State} (k : Steps p.tables e below A B) (d : own_Dn p e below s Q K N B) : own_Dn p e below s Q K N A :=
  own_st (fun _ h => k.trans h) d
section own
variable {p : Program} {l : Launch} {e : Env} {R : Room} {s : State} {m : MethodId} {args : Array Value} {below : List Frame} {meth : Method} {c : Code} {T : State} {locs : List Loc} {cells slots : Nat} {Q : Option Value → Heap → List Loc → Prop} {K N : Nat}
theorem own_ret (X : Stand p l e R s m args below meth c T locs cells slots) (hlk : meth.locks = false) {v : Option Value} (hv : meth.sig.returnType = none → v = none) {A : State} (hK : cells ≤ K) (hN : slots ≤ N) (hq : Q v T.heap locs)
    (hst : ∀ fs, (∀ (f : JFrame) (acts : List Action), f.method = m → f.locked = none → f.entered = [] → (doReturn e (T.setTop f) acts v).1 = T.setFrames fs) → Steps p.tables e below A (T.setFrames fs)) : own_Dn p e below s Q K N A := by
  obtain ⟨fs, hr, hrun, hended, hW, hsame⟩ := X.leave (v := v) hv hlk
  exact ⟨_, _, hst fs hr, hrun, hended, _, _, rfl, hq, ⟨_, rfl⟩, hW, hsame.mono hK hN⟩
theorem own_retI (X : Stand p l e R s m args below meth c T locs cells slots) (hx : p.tables.exec = Jvm.exec) (hret : meth.sig.returnType = some .int) (hlk : meth.locks = false) {pc : Nat} {Ls : Array Slot} {z : Int32} {rest : List Value} (hd : decode c.code pc = .ok (.ireturn, 1)) (hK : cells ≤ K) (hN : slots ≤ N)
    (hq : Q (some (.int z)) T.heap locs) : own_Dn p e below s Q K N (T.setTop (mkF m pc Ls (.int z :: rest))) :=
  own_ret X hlk (fun h => by rw [hret] at h; cases h) hK hN hq (fun fs hr => retOut X hx hret rfl (Or.inl ⟨rfl, Or.inl rfl, _, rfl⟩) hd hr)
theorem own_retJ (X : Stand p l e R s m args below meth c T locs cells slots) (hx : p.tables.exec = Jvm.exec) (hret : meth.sig.returnType = some .long) (hlk : meth.locks = false) {pc : Nat} {Ls : Array Slot} {z : Int64} {rest : List Value} (hd : decode c.code pc = .ok (.lreturn, 1)) (hK : cells ≤ K) (hN : slots ≤ N)
    (hq : Q (some (.long z)) T.heap locs) : own_Dn p e below s Q K N (T.setTop (mkF m pc Ls (.long z :: rest))) :=
  own_ret X hlk (fun h => by rw [hret] at h; cases h) hK hN hq (fun fs hr => retOut X hx hret rfl (Or.inr (Or.inl ⟨rfl, rfl, _, rfl⟩)) hd hr)
theorem own_retZ (X : Stand p l e R s m args below meth c T locs cells slots) (hx : p.tables.exec = Jvm.exec) (hret : meth.sig.returnType = some .boolean) (hlk : meth.locks = false) {pc : Nat} {Ls : Array Slot} {z : Int32} {rest : List Value} (hz : z &&& 1 = z) (hd : decode c.code pc = .ok (.ireturn, 1)) (hK : cells ≤ K) (hN : slots ≤ N)
    (hq : Q (some (.int z)) T.heap locs) : own_Dn p e below s Q K N (T.setTop (mkF m pc Ls (.int z :: rest))) :=
  own_ret X hlk (fun h => by rw [hret] at h; cases h) hK hN hq (fun fs hr => retOut X hx (w := .int z) hret (show Value.int (z &&& 1) = .int z from congrArg Value.int hz) (Or.inl ⟨rfl, Or.inr (Or.inl rfl), _, rfl⟩) hd hr)
theorem own_retV (X : Stand p l e R s m args below meth c T locs cells slots) (hx : p.tables.exec = Jvm.exec) (hret : meth.sig.returnType = none) (hlk : meth.locks = false) {pc : Nat} {Ls : Array Slot} (hd : decode c.code pc = .ok (.return_, 1)) (hK : cells ≤ K) (hN : slots ≤ N)
    (hq : Q none T.heap locs) : own_Dn p e below s Q K N (T.setTop (mkF m pc Ls [])) :=
  own_ret X hlk (fun _ => rfl) hK hN hq (fun fs hr => X.returnOut hx hret hd hr)
theorem own_retA (X : Stand p l e R s m args below meth c T locs cells slots) (hx : p.tables.exec = Jvm.exec) {t : FieldType} (ht : t.isReference = true) (hret : meth.sig.returnType = some t) (hlk : meth.locks = false) {pc : Nat} {Ls : Array Slot} {w : Value} {rest : List Value} (hw : w.isRef = true) (hn : narrow t w = w) (hd : decode c.code pc = .ok (.areturn, 1)) (hK : cells ≤ K) (hN : slots ≤ N)
    (hq : Q (some w) T.heap locs) : own_Dn p e below s Q K N (T.setTop (mkF m pc Ls (w :: rest))) :=
  own_ret X hlk (fun h => by rw [hret] at h; cases h) hK hN hq (fun fs hr => retOut X hx hret hn (Or.inr (Or.inr (Or.inr (Or.inr ⟨rfl, ht, hw⟩)))) hd hr)
end own
theorem own_met {l : Launch} {Z : State} {a0 : Array Value} (hw : ∀ d ∈ tables_1, d.before a0 Z = true) {y : MethodName} {bytes : ByteArray} {ml : Nat} {ret : Option FieldType} {ws : List Jvm.Cond} {rm : Room} {as' : Array Value} {h0 : Heap} {Q : Option Value → Heap → List Loc → Prop} (hpl : plainFor y = true)
    (body : ∀ p e s m below meth c s₁, own_Cx p s m meth c Z a0 bytes ml y.cls y.name ret → Stand p l e rm s m as' below meth c s₁ [] 0 0 → s₁.heap = h0 → own_Dn p e below s Q rm.cells rm.slots (s₁.setTop (entryFrame m as' ml))) :
    MetFree l y (head1 (Jvm.Cond.code y bytes ml ret :: ws) rm) (fun a U => a = as' ∧ Z.Warmed39 U.vm ∧ U.heap = h0) (fun _ _ _ _ _ => True) (fun _ U o U' => ∃ v L, o = .returned v ∧ Q v U'.heap L ∧ FrameEnd U o U' L rm.cells rm.slots) := by
  refine MetFree.of_bodySF hpl hisR ?_
  intro p e s m args below meth c s₁ Bd hml0 hP hK
  obtain ⟨rfl, hZ, hh⟩ := hP
  exact body p e s m below meth c s₁ ⟨Bd.exec, hZ, hw, Bd.bytes, hml0, findClass_of_methodNamed Bd.named, Bd.returns, BodyLoose.notSynchronized Bd, (name_of_methodNamed Bd.named Bd.method).1⟩ (Stand.of_body Bd) (by rw [← hh, Bd.state]; rfl)
theorem own_jtlt {x y : Int64} (h : x < y) : ifCond.holds .lt (lcmpW x y) = true ∧ ifCond.holds .ge (lcmpW x y) = false ∧ ifCond.holds .gt (lcmpW y x) = true ∧ ifCond.holds .le (lcmpW y x) = false := by
  have h1 : lcmpW x y < 0 := by rw [lcW]; exact (lc_lt x y).mpr h
  have h2 : 0 < lcmpW y x := by rw [lcW]; exact (lc_gt y x).mpr h
  exact ⟨(if0 _ _).trans (tlt h1).1, (if0 _ _).trans (tlt h1).2.1, (if0 _ _).trans (tlt h2).2.2.1, (if0 _ _).trans (tlt h2).2.2.2⟩
theorem own_jflt {x y : Int64} (h : ¬ x < y) : ifCond.holds .lt (lcmpW x y) = false ∧ ifCond.holds .ge (lcmpW x y) = true ∧ ifCond.holds .gt (lcmpW y x) = false ∧ ifCond.holds .le (lcmpW y x) = true := by
  have h1 : ¬ lcmpW x y < 0 := by rw [lcW]; exact fun q => h ((lc_lt x y).mp q)
  have h2 : ¬ 0 < lcmpW y x := by rw [lcW]; exact fun q => h ((lc_gt y x).mp q)
  exact ⟨(if0 _ _).trans (flt h1).1, (if0 _ _).trans (flt h1).2.1, (if0 _ _).trans (flt h2).2.2.1, (if0 _ _).trans (flt h2).2.2.2⟩
theorem own_jteq {x y : Int64} (h : x = y) : ifCond.holds .eq (lcmpW x y) = true ∧ ifCond.holds .ne (lcmpW x y) = false := by
  have h1 : lcmpW x y = 0 := by rw [lcW]; exact (lc_eq x y).mpr h
  exact ⟨(if0 _ _).trans (teq h1).1, (if0 _ _).trans (teq h1).2⟩
theorem own_jfeq {x y : Int64} (h : ¬ x = y) : ifCond.holds .eq (lcmpW x y) = false ∧ ifCond.holds .ne (lcmpW x y) = true := by
  have h1 : ¬ lcmpW x y = 0 := by rw [lcW]; exact fun q => h ((lc_eq x y).mp q)
  exact ⟨(if0 _ _).trans (feq h1).1, (if0 _ _).trans (feq h1).2⟩
theorem own_miss (a : Int32) (ks : List Int32) (h : ∀ k ∈ ks, ¬ a = k) {ps : List (Int × Int)} (e : ps.map (·.1) = ks.map Int32.toInt) : ∀ p ∈ ps, p.1 ≠ a.toInt := by
  intro p hp q
  have h1 : p.1 ∈ ps.map (·.1) := List.mem_map.mpr ⟨p, hp, rfl⟩
  rw [e] at h1
  obtain ⟨k, hk, r⟩ := List.mem_map.mp h1
  exact h k hk (Int32.toInt_inj.mp (q.symm.trans r.symm))
theorem own_Sta_keep {Z : State} {h h' : Heap} {C n d : String} {v : Value} {a : Addr} {C' : String} (F : Sta Z h C n d v) (K : Keep h h' [a]) (E : Exa Z h a C') : Sta Z h' C n d v := by
  obtain ⟨cf, i, k, f, st, cell, h1, h2, h3, h4, h5, h6, h7⟩ := F
  obtain ⟨cl, k', e1, -, -, e4, -⟩ := E
  refine ⟨cf, i, k, f, st, cell, h1, h2, h3, h4, K.2.1 _ _ h5 (ninS (fun q => ?_) nin0), h6, h7⟩
  subst q
  cases h5.symm.trans e1
  rw [h6] at e4; cases e4
theorem own_Sta_keep0 {Z : State} {h h' : Heap} {C n d : String} {v : Value} (F : Sta Z h C n d v) (K : Keep h h' []) : Sta Z h' C n d v := by
  obtain ⟨cf, i, k, f, st, cell, h1, h2, h3, h4, h5, h6, h7⟩ := F
  exact ⟨cf, i, k, f, st, cell, h1, h2, h3, h4, K.2.1 _ _ h5 nin0, h6, h7⟩
theorem own_ne_or {r x : Addr} {ws : List Addr} {H : Heap} (h : r ∈ ws ∨ H.size ≤ r) (hl : x < H.size) (hn : x ∉ ws) : x ≠ r := fun e => h.elim (fun q => hn (e ▸ q)) (fun q => Nat.lt_irrefl _ (Nat.lt_of_lt_of_le (e ▸ hl) q))
theorem own_or_up {r : Addr} {ws ws' : List Addr} {h0 H : Heap} (h : r ∈ ws ∨ H.size ≤ r) (hk : h0.size ≤ H.size) (all : ∀ x ∈ ws, x ∈ ws' ∨ h0.size ≤ x) : r ∈ ws' ∨ h0.size ≤ r := h.elim (all r) (fun q => Or.inr (Nat.le_trans hk q))
theorem own_selp {Z s : State} {a0 args : Array Value} {y : MethodName} {n : Nat} (hZ : Z.Warmed39 s.vm) (w1 : (Cond.instantiable y.cls n).before a0 Z = true) (w2 : (Cond.instanceMethod y).before a0 Z = true) (w3 : (Cond.privateMethod y).before a0 Z = true) (hy : y.cls ≠ "java/lang/invoke/MethodHandle" ∧ y.cls ≠ "java/lang/invoke/VarHandle") : (Cond.selects y.cls y y).before args s = true := by
  have i1 : (Cond.instantiable y.cls n).before args s = true := mvT hZ w1
  obtain ⟨c, k, h1, h2, -, h4, -, -⟩ := Cond.instantiable_spec i1
  have h5 : k.isInterface = false := by
    cases hk : k.isInterface
    · rfl
    · rw [hk] at h4; simp at h4
  exact selects_self_of_private h1 h2 h5 (Cond.privateMethod_at (mvP hZ w3 (args := args))) (mvT hZ w2) hy

theorem own_pd0 : parseMethodDescriptor "(JJ)J" = some ⟨[.long, .long], some .long⟩ := by decide +kernel
theorem own_pd1 : parseMethodDescriptor "(JJ)V" = some ⟨[.long, .long], none⟩ := by decide +kernel
theorem own_pd2 : parseMethodDescriptor "(J)Z" = some ⟨[.long], some .boolean⟩ := by decide +kernel
theorem mn_d0 : decode jdk_29_method_70_code 0 = .ok (.lload_n 0, 1) := by decide +kernel
theorem mn_d1 : decode jdk_29_method_70_code 1 = .ok (.lload_n 2, 1) := by decide +kernel
theorem mn_d2 : decode jdk_29_method_70_code 2 = .ok (.lcmp, 1) := by decide +kernel
theorem mn_d3 : decode jdk_29_method_70_code 3 = .ok (.ifCond .gt 7, 3) := by decide +kernel
theorem mn_d6 : decode jdk_29_method_70_code 6 = .ok (.lload_n 0, 1) := by decide +kernel
theorem mn_d7 : decode jdk_29_method_70_code 7 = .ok (.goto 4, 3) := by decide +kernel
theorem mn_d10 : decode jdk_29_method_70_code 10 = .ok (.lload_n 2, 1) := by decide +kernel
theorem mn_d11 : decode jdk_29_method_70_code 11 = .ok (.lreturn, 1) := by decide +kernel
def mn_f (q0 : Int64) (q1 : Int64)  : Int64 :=
  if q1 < q0 then
    q1
  else
    q0
set_option maxRecDepth 65536 in
set_option maxHeartbeats 40000000 in
theorem mn_c0 {l : Launch} {Z : State} {a0 : Array Value} {q0 : Int64} {q1 : Int64} {h0 : Heap} {n0 : Nat} {p : Program} {e : Env} {s : State} {m : MethodId} {args : Array Value} {below : List Frame} {meth : Method} {c : Code} {T0 : State} {locs : List Loc} {r0 : Int64} (C0 : own_Cx p s m meth c Z a0 jdk_29_method_70_code 4 "java/lang/Math" "min" (some .long)) (X0 : Stand p l e ({ frames := 0, cells := 0, slots := 0, locals := 0 } : Room) s m args below meth c T0 locs 0 0) (e0 : T0.heap = h0) (N0 : Fr n0 locs)  (hr0 : r0 = mn_f q0 q1 ) :
    own_Dn p e below s (own_Q (some (.long r0)) n0 h0) ({ frames := 0, cells := 0, slots := 0, locals := 0 } : Room).cells ({ frames := 0, cells := 0, slots := 0, locals := 0 } : Room).slots (T0.setTop (mkF m 0 #[.val (.long q0), .second, .val (.long q1), .second] [])) := by
  obtain ⟨hx, hZ, hw, hby, hml, hown, hret, hlk, hnm⟩ := id C0
  refine own_st (fun _ k => XS.lloadN X0.here hx rfl (hb hby mn_d0) rfl (XS.lloadN X0.here hx rfl (hb hby mn_d1) rfl (XS.lcmp X0.here hx rfl (hb hby mn_d2) rfl k))) ?_
  show own_Dn p e below s _ _ _ (T0.setTop (mkF m 3 #[.val (.long q0), .second, .val (.long q1), .second] [(.int (lcmpW q0 q1))]))
  by_cases hc2 : q1 < q0
  · refine own_st (fun _ k => XS.ifYes X0.here hx rfl (pc0 := 3) (pc' := 10) rfl (hb hby mn_d3) rfl (own_jtlt hc2).2.2.1 (by decide) (by decide) k) ?_
    show own_Dn p e below s _ _ _ (T0.setTop (mkF m 10 #[.val (.long q0), .second, .val (.long q1), .second] []))
    refine own_st (fun _ k => XS.lloadN X0.here hx rfl (hb hby mn_d10) rfl k) ?_
    show own_Dn p e below s _ _ _ (T0.setTop (mkF m 11 #[.val (.long q0), .second, .val (.long q1), .second] [(.long q1)]))
    exact own_retJ X0 hx hret hlk (hb hby mn_d11) (by decide) (by decide) ⟨(by rw [hr0, mn_f, if_pos hc2]), N0, e0⟩
  · refine own_st (fun _ k => XS.ifNo X0.here hx rfl (hb hby mn_d3) rfl (own_jflt hc2).2.2.1 k) ?_
    show own_Dn p e below s _ _ _ (T0.setTop (mkF m 6 #[.val (.long q0), .second, .val (.long q1), .second] []))
    refine own_st (fun _ k => XS.lloadN X0.here hx rfl (hb hby mn_d6) rfl (XS.goto X0.here hx rfl (pc0 := 7) (pc' := 11) rfl (hb hby mn_d7) (by decide) (by decide) k)) ?_
    show own_Dn p e below s _ _ _ (T0.setTop (mkF m 11 #[.val (.long q0), .second, .val (.long q1), .second] [(.long q0)]))
    exact own_retJ X0 hx hret hlk (hb hby mn_d11) (by decide) (by decide) ⟨(by rw [hr0, mn_f, if_neg hc2]), N0, e0⟩
theorem mn_ef (m : MethodId) (q0 : Int64) (q1 : Int64) : entryFrame m #[(.long q0), (.long q1)] 4 = mkF m 0 #[.val (.long q0), .second, .val (.long q1), .second] [] := by first | (simp [entryFrame, mkF, argsToLocals, Value.category]; done) | rfl
theorem mn_rm (l : Launch) (Z : State) (a0 : Array Value) (hw : ∀ d ∈ tables_1, d.before a0 Z = true) (ws : List Jvm.Cond) (q0 : Int64) (q1 : Int64) (h0 : Heap) (n0 : Nat) :
    MetFree l (⟨"java/lang/Math", "min", "(JJ)J"⟩ : MethodName) (head1 (Jvm.Cond.code (⟨"java/lang/Math", "min", "(JJ)J"⟩ : MethodName) jdk_29_method_70_code 4 (some .long) :: ws) ({ frames := 0, cells := 0, slots := 0, locals := 0 } : Room)) (fun a U => a = #[(.long q0), (.long q1)] ∧ Z.Warmed39 U.vm ∧ U.heap = h0) (fun _ _ _ _ _ => True) (fun _ U o U' => ∃ v L, o = .returned v ∧ (own_Q (some (.long (mn_f q0 q1))) n0 h0) v U'.heap L ∧ FrameEnd U o U' L ({ frames := 0, cells := 0, slots := 0, locals := 0 } : Room).cells ({ frames := 0, cells := 0, slots := 0, locals := 0 } : Room).slots) :=
  own_met hw (Jvm.Free.JP.mathPlain rfl (by decide +kernel)) (fun p e s m below meth c T0 C0 X0 e0 => own_st (fun _ k => castTop (mn_ef m q0 q1) k) (mn_c0 C0 X0 e0 (Fr.nil n0) rfl))
theorem mx_d0 : decode jdk_29_method_66_code 0 = .ok (.lload_n 0, 1) := by decide +kernel
theorem mx_d1 : decode jdk_29_method_66_code 1 = .ok (.lload_n 2, 1) := by decide +kernel
theorem mx_d2 : decode jdk_29_method_66_code 2 = .ok (.lcmp, 1) := by decide +kernel
theorem mx_d3 : decode jdk_29_method_66_code 3 = .ok (.ifCond .lt 7, 3) := by decide +kernel
theorem mx_d6 : decode jdk_29_method_66_code 6 = .ok (.lload_n 0, 1) := by decide +kernel
theorem mx_d7 : decode jdk_29_method_66_code 7 = .ok (.goto 4, 3) := by decide +kernel
theorem mx_d10 : decode jdk_29_method_66_code 10 = .ok (.lload_n 2, 1) := by decide +kernel
theorem mx_d11 : decode jdk_29_method_66_code 11 = .ok (.lreturn, 1) := by decide +kernel
def mx_f (q0 : Int64) (q1 : Int64)  : Int64 :=
  if q0 < q1 then
    q1
  else
    q0
set_option maxRecDepth 65536 in
set_option maxHeartbeats 40000000 in
theorem mx_c0 {l : Launch} {Z : State} {a0 : Array Value} {q0 : Int64} {q1 : Int64} {h0 : Heap} {n0 : Nat} {p : Program} {e : Env} {s : State} {m : MethodId} {args : Array Value} {below : List Frame} {meth : Method} {c : Code} {T0 : State} {locs : List Loc} {r0 : Int64} (C0 : own_Cx p s m meth c Z a0 jdk_29_method_66_code 4 "java/lang/Math" "max" (some .long)) (X0 : Stand p l e ({ frames := 0, cells := 0, slots := 0, locals := 0 } : Room) s m args below meth c T0 locs 0 0) (e0 : T0.heap = h0) (N0 : Fr n0 locs)  (hr0 : r0 = mx_f q0 q1 ) :
    own_Dn p e below s (own_Q (some (.long r0)) n0 h0) ({ frames := 0, cells := 0, slots := 0, locals := 0 } : Room).cells ({ frames := 0, cells := 0, slots := 0, locals := 0 } : Room).slots (T0.setTop (mkF m 0 #[.val (.long q0), .second, .val (.long q1), .second] [])) := by
  obtain ⟨hx, hZ, hw, hby, hml, hown, hret, hlk, hnm⟩ := id C0
  refine own_st (fun _ k => XS.lloadN X0.here hx rfl (hb hby mx_d0) rfl (XS.lloadN X0.here hx rfl (hb hby mx_d1) rfl (XS.lcmp X0.here hx rfl (hb hby mx_d2) rfl k))) ?_
  show own_Dn p e below s _ _ _ (T0.setTop (mkF m 3 #[.val (.long q0), .second, .val (.long q1), .second] [(.int (lcmpW q0 q1))]))
  by_cases hc2 : q0 < q1
  · refine own_st (fun _ k => XS.ifYes X0.here hx rfl (pc0 := 3) (pc' := 10) rfl (hb hby mx_d3) rfl (own_jtlt hc2).1 (by decide) (by decide) k) ?_
    show own_Dn p e below s _ _ _ (T0.setTop (mkF m 10 #[.val (.long q0), .second, .val (.long q1), .second] []))
    refine own_st (fun _ k => XS.lloadN X0.here hx rfl (hb hby mx_d10) rfl k) ?_
    show own_Dn p e below s _ _ _ (T0.setTop (mkF m 11 #[.val (.long q0), .second, .val (.long q1), .second] [(.long q1)]))
    exact own_retJ X0 hx hret hlk (hb hby mx_d11) (by decide) (by decide) ⟨(by rw [hr0, mx_f, if_pos hc2]), N0, e0⟩
  · refine own_st (fun _ k => XS.ifNo X0.here hx rfl (hb hby mx_d3) rfl (own_jflt hc2).1 k) ?_
    show own_Dn p e below s _ _ _ (T0.setTop (mkF m 6 #[.val (.long q0), .second, .val (.long q1), .second] []))
    refine own_st (fun _ k => XS.lloadN X0.here hx rfl (hb hby mx_d6) rfl (XS.goto X0.here hx rfl (pc0 := 7) (pc' := 11) rfl (hb hby mx_d7) (by decide) (by decide) k)) ?_
    show own_Dn p e below s _ _ _ (T0.setTop (mkF m 11 #[.val (.long q0), .second, .val (.long q1), .second] [(.long q0)]))
    exact own_retJ X0 hx hret hlk (hb hby mx_d11) (by decide) (by decide) ⟨(by rw [hr0, mx_f, if_neg hc2]), N0, e0⟩
theorem mx_ef (m : MethodId) (q0 : Int64) (q1 : Int64) : entryFrame m #[(.long q0), (.long q1)] 4 = mkF m 0 #[.val (.long q0), .second, .val (.long q1), .second] [] := by first | (simp [entryFrame, mkF, argsToLocals, Value.category]; done) | rfl
theorem mx_rm (l : Launch) (Z : State) (a0 : Array Value) (hw : ∀ d ∈ tables_1, d.before a0 Z = true) (ws : List Jvm.Cond) (q0 : Int64) (q1 : Int64) (h0 : Heap) (n0 : Nat) :
    MetFree l (⟨"java/lang/Math", "max", "(JJ)J"⟩ : MethodName) (head1 (Jvm.Cond.code (⟨"java/lang/Math", "max", "(JJ)J"⟩ : MethodName) jdk_29_method_66_code 4 (some .long) :: ws) ({ frames := 0, cells := 0, slots := 0, locals := 0 } : Room)) (fun a U => a = #[(.long q0), (.long q1)] ∧ Z.Warmed39 U.vm ∧ U.heap = h0) (fun _ _ _ _ _ => True) (fun _ U o U' => ∃ v L, o = .returned v ∧ (own_Q (some (.long (mx_f q0 q1))) n0 h0) v U'.heap L ∧ FrameEnd U o U' L ({ frames := 0, cells := 0, slots := 0, locals := 0 } : Room).cells ({ frames := 0, cells := 0, slots := 0, locals := 0 } : Room).slots) :=
  own_met hw (Jvm.Free.JP.mathPlain rfl (by decide +kernel)) (fun p e s m below meth c T0 C0 X0 e0 => own_st (fun _ k => castTop (mx_ef m q0 q1) k) (mx_c0 C0 X0 e0 (Fr.nil n0) rfl))
theorem ti_d0 : decode prog_48_method_1_code 0 = .ok (.aload_n 0, 1) := by decide +kernel
theorem ti_d1 : decode prog_48_method_1_code 1 = .ok (.invokespecial 3, 3) := by decide +kernel
theorem ti_d4 : decode prog_48_method_1_code 4 = .ok (.aload_n 0, 1) := by decide +kernel
theorem ti_d5 : decode prog_48_method_1_code 5 = .ok (.lload_n 1, 1) := by decide +kernel
theorem ti_d6 : decode prog_48_method_1_code 6 = .ok (.putfield 9, 3) := by decide +kernel
theorem ti_d9 : decode prog_48_method_1_code 9 = .ok (.aload_n 0, 1) := by decide +kernel
theorem ti_d10 : decode prog_48_method_1_code 10 = .ok (.lload_n 3, 1) := by decide +kernel
theorem ti_d11 : decode prog_48_method_1_code 11 = .ok (.putfield 15, 3) := by decide +kernel
theorem ti_d14 : decode prog_48_method_1_code 14 = .ok (.return_, 1) := by decide +kernel
def ti_Q (Z : State) (b0 : Addr) (q1 : Int64) (q2 : Int64) (h0 : Heap) (n0 : Nat) (v : Option Value) (h : Heap) (L : List Loc) : Prop := v = none ∧ Fr n0 L ∧ Keep h0 h [b0] ∧ Exa Z h b0 "com/example/tally_flows/tallyflows/charging/TimeWindow" ∧ Fld Z h b0 "com/example/tally_flows/tallyflows/charging/TimeWindow" "start" "J" (.long q1) ∧ Fld Z h b0 "com/example/tally_flows/tallyflows/charging/TimeWindow" "end" "J" (.long q2)
set_option maxRecDepth 65536 in
set_option maxHeartbeats 40000000 in
theorem ti_c0 {l : Launch} {Z : State} {a0 : Array Value} {b0 : Addr} {q1 : Int64} {q2 : Int64} {h0 : Heap} {n0 : Nat} {p : Program} {e : Env} {s : State} {m : MethodId} {args : Array Value} {below : List Frame} {meth : Method} {c : Code} {T0 : State} {locs : List Loc} (C0 : own_Cx p s m meth c Z a0 prog_48_method_1_code 5 "com/example/tally_flows/tallyflows/charging/TimeWindow" "<init>" none) (X0 : Stand p l e ({ frames := 1, cells := 0, slots := 0, locals := 12 } : Room) s m args below meth c T0 locs 0 0) (e0 : T0.heap = h0) (N0 : Fr n0 locs)  (Z0 : n0 ≤ h0.size) (P0 : Exa Z h0 b0 "com/example/tally_flows/tallyflows/charging/TimeWindow") (P1 : Fld Z h0 b0 "com/example/tally_flows/tallyflows/charging/TimeWindow" "start" "J" (.long (0 : Int64))) (P2 : Fld Z h0 b0 "com/example/tally_flows/tallyflows/charging/TimeWindow" "end" "J" (.long (0 : Int64))) (ge_b0 : n0 ≤ b0) :
    own_Dn p e below s (ti_Q Z b0 q1 q2 h0 n0) ({ frames := 1, cells := 0, slots := 0, locals := 12 } : Room).cells ({ frames := 1, cells := 0, slots := 0, locals := 12 } : Room).slots (T0.setTop (mkF m 0 #[.val (.ref b0), .val (.long q1), .second, .val (.long q2), .second] [])) := by
  obtain ⟨hx, hZ, hw, hby, hml, hown, hret, hlk, hnm⟩ := id C0
  refine own_st (fun _ k => XS.aloadN X0.here hx rfl (hb hby ti_d0) rfl rfl k) ?_
  show own_Dn p e below s _ _ _ (T0.setTop (mkF m 1 #[.val (.ref b0), .val (.long q1), .second, .val (.long q2), .second] [(.ref b0)]))
  obtain ⟨T14, X14, e14, st14⟩ := initO X0 hx hZ hown (hw _ (List.mem_of_getElem? (i := 15) rfl)) (hw _ (List.mem_of_getElem? (i := 16) rfl)) (hw _ (List.mem_of_getElem? (i := 17) rfl)) e0 (g := (mkF m 1 #[.val (.ref b0), .val (.long q1), .second, .val (.long q2), .second] [(.ref b0)])) rfl (by rw [hml]; rfl) rfl (hb hby ti_d1) (by decide) (W := 0) (by show 2 * 0 + _ ≤ _; exact Nat.le_of_eq rfl) (by decide)
  refine own_st st14 ?_
  show own_Dn p e below s _ _ _ (T14.setTop (mkF m 4 #[.val (.ref b0), .val (.long q1), .second, .val (.long q2), .second] []))
  refine own_st (fun _ k => XS.aloadN X14.here hx rfl (hb hby ti_d4) rfl rfl (XS.lloadN X14.here hx rfl (hb hby ti_d5) rfl k)) ?_
  show own_Dn p e below s _ _ _ (T14.setTop (mkF m 6 #[.val (.ref b0), .val (.long q1), .second, .val (.long q2), .second] [(.long q1), (.ref b0)]))
  obtain ⟨T15, h15, X15, e15, W15, st15⟩ := putF X14 hx hZ hown (host := "") (Or.inl (hw _ (List.mem_of_getElem? (i := 18) rfl))) Via.refl e14 P1 P0 (Or.inr ⟨(hw _ (List.mem_of_getElem? (i := 19) rfl)), rfl, hnm⟩) (hw _ (List.mem_of_getElem? (i := 10) rfl)) (ty := .long) (by decide) rfl rfl (g := (mkF m 6 #[.val (.ref b0), .val (.long q1), .second, .val (.long q2), .second] [(.long q1), (.ref b0)])) rfl rfl (hb hby ti_d6)
  have N15 := Fr.snoc X15 N0 ge_b0
  have F16 : n0 ≤ h15.size := Nat.le_trans Z0 (Keep.of_wr W15).1
  have F17 : Exa Z h15 b0 "com/example/tally_flows/tallyflows/charging/TimeWindow" := P0.wr W15
  have F18 : Fld Z h15 b0 "com/example/tally_flows/tallyflows/charging/TimeWindow" "start" "J" (.long q1) := P1.same W15
  have F19 : Fld Z h15 b0 "com/example/tally_flows/tallyflows/charging/TimeWindow" "end" "J" (.long (0 : Int64)) := P2.other W15 (Or.inr (slot_ne (Or.inr (hw _ (List.mem_of_getElem? (i := 21) rfl))) (Or.inr (hw _ (List.mem_of_getElem? (i := 19) rfl))) (by decide) (t := .long) (t' := .long) (by decide) (by decide)))
  have F20 : Keep h0 h15 [b0] := (Keep.refl h0 [b0]).wr W15 (Or.inl (List.mem_of_getElem? (i := 0) rfl))
  refine own_st st15 ?_
  show own_Dn p e below s _ _ _ (T15.setTop (mkF m 9 #[.val (.ref b0), .val (.long q1), .second, .val (.long q2), .second] []))
  refine own_st (fun _ k => XS.aloadN X15.here hx rfl (hb hby ti_d9) rfl rfl (XS.lloadN X15.here hx rfl (hb hby ti_d10) rfl k)) ?_
  show own_Dn p e below s _ _ _ (T15.setTop (mkF m 11 #[.val (.ref b0), .val (.long q1), .second, .val (.long q2), .second] [(.long q2), (.ref b0)]))
  obtain ⟨T21, h21, X21, e21, W21, st21⟩ := putF X15 hx hZ hown (host := "") (Or.inl (hw _ (List.mem_of_getElem? (i := 20) rfl))) Via.refl e15 F19 F17 (Or.inr ⟨(hw _ (List.mem_of_getElem? (i := 21) rfl)), rfl, hnm⟩) (hw _ (List.mem_of_getElem? (i := 10) rfl)) (ty := .long) (by decide) rfl rfl (g := (mkF m 11 #[.val (.ref b0), .val (.long q1), .second, .val (.long q2), .second] [(.long q2), (.ref b0)])) rfl rfl (hb hby ti_d11)
  have N21 := Fr.snoc X21 N15 ge_b0
  have F22 : n0 ≤ h21.size := Nat.le_trans F16 (Keep.of_wr W21).1
  have F23 : Exa Z h21 b0 "com/example/tally_flows/tallyflows/charging/TimeWindow" := F17.wr W21
  have F24 : Fld Z h21 b0 "com/example/tally_flows/tallyflows/charging/TimeWindow" "start" "J" (.long q1) := F18.other W21 (Or.inr (slot_ne (Or.inr (hw _ (List.mem_of_getElem? (i := 19) rfl))) (Or.inr (hw _ (List.mem_of_getElem? (i := 21) rfl))) (by decide) (t := .long) (t' := .long) (by decide) (by decide)))
  have F25 : Fld Z h21 b0 "com/example/tally_flows/tallyflows/charging/TimeWindow" "end" "J" (.long q2) := F19.same W21
  have F26 : Keep h0 h21 [b0] := F20.wr W21 (Or.inl (List.mem_of_getElem? (i := 0) rfl))
  refine own_st st21 ?_
  show own_Dn p e below s _ _ _ (T21.setTop (mkF m 14 #[.val (.ref b0), .val (.long q1), .second, .val (.long q2), .second] []))
  have eqH : T21.heap = h21 := e21
  exact own_retV X21 hx hret hlk (hb hby ti_d14) (by decide) (by decide) (by rw [eqH]; exact ⟨rfl, N21, F26, F23, F24, F25⟩)
theorem ti_ef (m : MethodId) (b0 : Addr) (q1 : Int64) (q2 : Int64) : entryFrame m #[(.ref b0), (.long q1), (.long q2)] 5 = mkF m 0 #[.val (.ref b0), .val (.long q1), .second, .val (.long q2), .second] [] := by first | (simp [entryFrame, mkF, argsToLocals, Value.category]; done) | rfl
theorem ti_rm (l : Launch) (Z : State) (a0 : Array Value) (hw : ∀ d ∈ tables_1, d.before a0 Z = true) (ws : List Jvm.Cond) (b0 : Addr) (q1 : Int64) (q2 : Int64) (h0 : Heap) (n0 : Nat) (Z0 : n0 ≤ h0.size) (P0 : Exa Z h0 b0 "com/example/tally_flows/tallyflows/charging/TimeWindow") (P1 : Fld Z h0 b0 "com/example/tally_flows/tallyflows/charging/TimeWindow" "start" "J" (.long (0 : Int64))) (P2 : Fld Z h0 b0 "com/example/tally_flows/tallyflows/charging/TimeWindow" "end" "J" (.long (0 : Int64))) (ge_b0 : n0 ≤ b0) :
    MetFree l (⟨"com/example/tally_flows/tallyflows/charging/TimeWindow", "<init>", "(JJ)V"⟩ : MethodName) (head1 (Jvm.Cond.code (⟨"com/example/tally_flows/tallyflows/charging/TimeWindow", "<init>", "(JJ)V"⟩ : MethodName) prog_48_method_1_code 5 none :: ws) ({ frames := 1, cells := 0, slots := 0, locals := 12 } : Room)) (fun a U => a = #[(.ref b0), (.long q1), (.long q2)] ∧ Z.Warmed39 U.vm ∧ U.heap = h0) (fun _ _ _ _ _ => True) (fun _ U o U' => ∃ v L, o = .returned v ∧ (ti_Q Z b0 q1 q2 h0 n0) v U'.heap L ∧ FrameEnd U o U' L ({ frames := 1, cells := 0, slots := 0, locals := 12 } : Room).cells ({ frames := 1, cells := 0, slots := 0, locals := 12 } : Room).slots) :=
  own_met hw (plainFor_of_name (by first | (simp [plainName, overriddenIn]; done) | decide +kernel)) (fun p e s m below meth c T0 C0 X0 e0 => own_st (fun _ k => castTop (ti_ef m b0 q1 q2) k) (ti_c0 C0 X0 e0 (Fr.nil n0) Z0 P0 P1 P2 ge_b0))
theorem cn_d0 : decode prog_48_method_3_code 0 = .ok (.aload_n 0, 1) := by decide +kernel
theorem cn_d1 : decode prog_48_method_3_code 1 = .ok (.getfield 9, 3) := by decide +kernel
theorem cn_d4 : decode prog_48_method_3_code 4 = .ok (.lload_n 1, 1) := by decide +kernel
theorem cn_d5 : decode prog_48_method_3_code 5 = .ok (.lcmp, 1) := by decide +kernel
theorem cn_d6 : decode prog_48_method_3_code 6 = .ok (.ifCond .gt 27, 3) := by decide +kernel
theorem cn_d9 : decode prog_48_method_3_code 9 = .ok (.lload_n 1, 1) := by decide +kernel
theorem cn_d10 : decode prog_48_method_3_code 10 = .ok (.aload_n 0, 1) := by decide +kernel
theorem cn_d11 : decode prog_48_method_3_code 11 = .ok (.getfield 15, 3) := by decide +kernel
theorem cn_d14 : decode prog_48_method_3_code 14 = .ok (.lcmp, 1) := by decide +kernel
theorem cn_d15 : decode prog_48_method_3_code 15 = .ok (.ifCond .lt 14, 3) := by decide +kernel
theorem cn_d18 : decode prog_48_method_3_code 18 = .ok (.aload_n 0, 1) := by decide +kernel
theorem cn_d19 : decode prog_48_method_3_code 19 = .ok (.getfield 15, 3) := by decide +kernel
theorem cn_d22 : decode prog_48_method_3_code 22 = .ok (.ldc2_w 30, 3) := by decide +kernel
theorem cn_d25 : decode prog_48_method_3_code 25 = .ok (.lcmp, 1) := by decide +kernel
theorem cn_d26 : decode prog_48_method_3_code 26 = .ok (.ifCond .ne 7, 3) := by decide +kernel
theorem cn_d29 : decode prog_48_method_3_code 29 = .ok (.iconst 1, 1) := by decide +kernel
theorem cn_d30 : decode prog_48_method_3_code 30 = .ok (.goto 4, 3) := by decide +kernel
theorem cn_d33 : decode prog_48_method_3_code 33 = .ok (.iconst 0, 1) := by decide +kernel
theorem cn_d34 : decode prog_48_method_3_code 34 = .ok (.ireturn, 1) := by decide +kernel
def cn_f (q1 : Int64) (w_s : Int64) (w_e : Int64)  : Int32 :=
  if q1 < w_s then
    (0 : Int32)
  else
    if q1 < w_e then
      (1 : Int32)
    else
      if w_e = (9223372036854775807 : Int64) then
        (1 : Int32)
      else
        (0 : Int32)
set_option maxRecDepth 65536 in
set_option maxHeartbeats 40000000 in
theorem cn_c0 {l : Launch} {Z : State} {a0 : Array Value} {b0 : Addr} {q1 : Int64} {w_s : Int64} {w_e : Int64} {h0 : Heap} {n0 : Nat} {p : Program} {e : Env} {s : State} {m : MethodId} {args : Array Value} {below : List Frame} {meth : Method} {c : Code} {T0 : State} {locs : List Loc} {r0 : Int32} (C0 : own_Cx p s m meth c Z a0 prog_48_method_3_code 3 "com/example/tally_flows/tallyflows/charging/TimeWindow" "contains" (some .boolean)) (X0 : Stand p l e ({ frames := 0, cells := 0, slots := 0, locals := 0 } : Room) s m args below meth c T0 locs 0 0) (e0 : T0.heap = h0) (N0 : Fr n0 locs)  (Z0 : n0 ≤ h0.size) (P0 : Fld Z h0 b0 "com/example/tally_flows/tallyflows/charging/TimeWindow" "start" "J" (.long w_s)) (P1 : Fld Z h0 b0 "com/example/tally_flows/tallyflows/charging/TimeWindow" "end" "J" (.long w_e)) (hr0 : r0 = cn_f q1 w_s w_e ) :
    own_Dn p e below s (own_Q (some (.int r0)) n0 h0) ({ frames := 0, cells := 0, slots := 0, locals := 0 } : Room).cells ({ frames := 0, cells := 0, slots := 0, locals := 0 } : Room).slots (T0.setTop (mkF m 0 #[.val (.ref b0), .val (.long q1), .second] [])) := by
  obtain ⟨hx, hZ, hw, hby, hml, hown, hret, hlk, hnm⟩ := id C0
  refine own_st (fun _ k => XS.aloadN X0.here hx rfl (hb hby cn_d0) rfl rfl k) ?_
  show own_Dn p e below s _ _ _ (T0.setTop (mkF m 1 #[.val (.ref b0), .val (.long q1), .second] [(.ref b0)]))
  obtain ⟨T7, X7, e7, st7⟩ := getF X0 hx hZ hown (host := "") (Or.inl (hw _ (List.mem_of_getElem? (i := 18) rfl))) Via.refl e0 P0 (g := (mkF m 1 #[.val (.ref b0), .val (.long q1), .second] [(.ref b0)])) rfl rfl (hb hby cn_d1)
  refine own_st st7 ?_
  show own_Dn p e below s _ _ _ (T7.setTop (mkF m 4 #[.val (.ref b0), .val (.long q1), .second] [(.long w_s)]))
  refine own_st (fun _ k => XS.lloadN X7.here hx rfl (hb hby cn_d4) rfl (XS.lcmp X7.here hx rfl (hb hby cn_d5) rfl k)) ?_
  show own_Dn p e below s _ _ _ (T7.setTop (mkF m 6 #[.val (.ref b0), .val (.long q1), .second] [(.int (lcmpW w_s q1))]))
  by_cases hc8 : q1 < w_s
  · refine own_st (fun _ k => XS.ifYes X7.here hx rfl (pc0 := 6) (pc' := 33) rfl (hb hby cn_d6) rfl (own_jtlt hc8).2.2.1 (by decide) (by decide) k) ?_
    show own_Dn p e below s _ _ _ (T7.setTop (mkF m 33 #[.val (.ref b0), .val (.long q1), .second] []))
    refine own_st (fun _ k => XS.iconst X7.here hx rfl (hb hby cn_d33) k) ?_
    show own_Dn p e below s _ _ _ (T7.setTop (mkF m 34 #[.val (.ref b0), .val (.long q1), .second] [(.int (0 : Int32))]))
    exact own_retZ X7 hx hret hlk (by decide) (hb hby cn_d34) (by decide) (by decide) ⟨(by rw [hr0, cn_f, if_pos hc8]), N0, e7⟩
  · refine own_st (fun _ k => XS.ifNo X7.here hx rfl (hb hby cn_d6) rfl (own_jflt hc8).2.2.1 k) ?_
    show own_Dn p e below s _ _ _ (T7.setTop (mkF m 9 #[.val (.ref b0), .val (.long q1), .second] []))
    refine own_st (fun _ k => XS.lloadN X7.here hx rfl (hb hby cn_d9) rfl (XS.aloadN X7.here hx rfl (hb hby cn_d10) rfl rfl k)) ?_
    show own_Dn p e below s _ _ _ (T7.setTop (mkF m 11 #[.val (.ref b0), .val (.long q1), .second] [(.ref b0), (.long q1)]))
    obtain ⟨T9, X9, e9, st9⟩ := getF X7 hx hZ hown (host := "") (Or.inl (hw _ (List.mem_of_getElem? (i := 20) rfl))) Via.refl e7 P1 (g := (mkF m 11 #[.val (.ref b0), .val (.long q1), .second] [(.ref b0), (.long q1)])) rfl rfl (hb hby cn_d11)
    refine own_st st9 ?_
    show own_Dn p e below s _ _ _ (T9.setTop (mkF m 14 #[.val (.ref b0), .val (.long q1), .second] [(.long w_e), (.long q1)]))
    refine own_st (fun _ k => XS.lcmp X9.here hx rfl (hb hby cn_d14) rfl k) ?_
    show own_Dn p e below s _ _ _ (T9.setTop (mkF m 15 #[.val (.ref b0), .val (.long q1), .second] [(.int (lcmpW q1 w_e))]))
    by_cases hc10 : q1 < w_e
    · refine own_st (fun _ k => XS.ifYes X9.here hx rfl (pc0 := 15) (pc' := 29) rfl (hb hby cn_d15) rfl (own_jtlt hc10).1 (by decide) (by decide) k) ?_
      show own_Dn p e below s _ _ _ (T9.setTop (mkF m 29 #[.val (.ref b0), .val (.long q1), .second] []))
      refine own_st (fun _ k => XS.iconst X9.here hx rfl (hb hby cn_d29) (XS.goto X9.here hx rfl (pc0 := 30) (pc' := 34) rfl (hb hby cn_d30) (by decide) (by decide) k)) ?_
      show own_Dn p e below s _ _ _ (T9.setTop (mkF m 34 #[.val (.ref b0), .val (.long q1), .second] [(.int (1 : Int32))]))
      exact own_retZ X9 hx hret hlk (by decide) (hb hby cn_d34) (by decide) (by decide) ⟨(by rw [hr0, cn_f, if_neg hc8, if_pos hc10]), N0, e9⟩
    · refine own_st (fun _ k => XS.ifNo X9.here hx rfl (hb hby cn_d15) rfl (own_jflt hc10).1 k) ?_
      show own_Dn p e below s _ _ _ (T9.setTop (mkF m 18 #[.val (.ref b0), .val (.long q1), .second] []))
      refine own_st (fun _ k => XS.aloadN X9.here hx rfl (hb hby cn_d18) rfl rfl k) ?_
      show own_Dn p e below s _ _ _ (T9.setTop (mkF m 19 #[.val (.ref b0), .val (.long q1), .second] [(.ref b0)]))
      obtain ⟨T11, X11, e11, st11⟩ := getF X9 hx hZ hown (host := "") (Or.inl (hw _ (List.mem_of_getElem? (i := 20) rfl))) Via.refl e9 P1 (g := (mkF m 19 #[.val (.ref b0), .val (.long q1), .second] [(.ref b0)])) rfl rfl (hb hby cn_d19)
      refine own_st st11 ?_
      show own_Dn p e below s _ _ _ (T11.setTop (mkF m 22 #[.val (.ref b0), .val (.long q1), .second] [(.long w_e)]))
      refine own_st (fun _ k => X11.ldc2Long hx (index := 30) (v := (9223372036854775807 : Int64)) hown (mvT hZ (hw _ (List.mem_of_getElem? (i := 27) rfl))) (g := (mkF m 22 #[.val (.ref b0), .val (.long q1), .second] [(.long w_e)])) rfl (hb hby cn_d22) _ (XS.lcmp X11.here hx rfl (hb hby cn_d25) rfl k)) ?_
      show own_Dn p e below s _ _ _ (T11.setTop (mkF m 26 #[.val (.ref b0), .val (.long q1), .second] [(.int (lcmpW w_e (9223372036854775807 : Int64)))]))
      by_cases hc12 : w_e = (9223372036854775807 : Int64)
      · refine own_st (fun _ k => XS.ifNo X11.here hx rfl (hb hby cn_d26) rfl (own_jteq hc12).2 k) ?_
        show own_Dn p e below s _ _ _ (T11.setTop (mkF m 29 #[.val (.ref b0), .val (.long q1), .second] []))
        refine own_st (fun _ k => XS.iconst X11.here hx rfl (hb hby cn_d29) (XS.goto X11.here hx rfl (pc0 := 30) (pc' := 34) rfl (hb hby cn_d30) (by decide) (by decide) k)) ?_
        show own_Dn p e below s _ _ _ (T11.setTop (mkF m 34 #[.val (.ref b0), .val (.long q1), .second] [(.int (1 : Int32))]))
        exact own_retZ X11 hx hret hlk (by decide) (hb hby cn_d34) (by decide) (by decide) ⟨(by rw [hr0, cn_f, if_neg hc8, if_neg hc10, if_pos hc12]), N0, e11⟩
      · refine own_st (fun _ k => XS.ifYes X11.here hx rfl (pc0 := 26) (pc' := 33) rfl (hb hby cn_d26) rfl (own_jfeq hc12).2 (by decide) (by decide) k) ?_
        show own_Dn p e below s _ _ _ (T11.setTop (mkF m 33 #[.val (.ref b0), .val (.long q1), .second] []))
        refine own_st (fun _ k => XS.iconst X11.here hx rfl (hb hby cn_d33) k) ?_
        show own_Dn p e below s _ _ _ (T11.setTop (mkF m 34 #[.val (.ref b0), .val (.long q1), .second] [(.int (0 : Int32))]))
        exact own_retZ X11 hx hret hlk (by decide) (hb hby cn_d34) (by decide) (by decide) ⟨(by rw [hr0, cn_f, if_neg hc8, if_neg hc10, if_neg hc12]), N0, e11⟩
theorem cn_ef (m : MethodId) (b0 : Addr) (q1 : Int64) : entryFrame m #[(.ref b0), (.long q1)] 3 = mkF m 0 #[.val (.ref b0), .val (.long q1), .second] [] := by first | (simp [entryFrame, mkF, argsToLocals, Value.category]; done) | rfl
theorem cn_rm (l : Launch) (Z : State) (a0 : Array Value) (hw : ∀ d ∈ tables_1, d.before a0 Z = true) (ws : List Jvm.Cond) (b0 : Addr) (q1 : Int64) (w_s : Int64) (w_e : Int64) (h0 : Heap) (n0 : Nat) (Z0 : n0 ≤ h0.size) (P0 : Fld Z h0 b0 "com/example/tally_flows/tallyflows/charging/TimeWindow" "start" "J" (.long w_s)) (P1 : Fld Z h0 b0 "com/example/tally_flows/tallyflows/charging/TimeWindow" "end" "J" (.long w_e)) :
    MetFree l (⟨"com/example/tally_flows/tallyflows/charging/TimeWindow", "contains", "(J)Z"⟩ : MethodName) (head1 (Jvm.Cond.code (⟨"com/example/tally_flows/tallyflows/charging/TimeWindow", "contains", "(J)Z"⟩ : MethodName) prog_48_method_3_code 3 (some .boolean) :: ws) ({ frames := 0, cells := 0, slots := 0, locals := 0 } : Room)) (fun a U => a = #[(.ref b0), (.long q1)] ∧ Z.Warmed39 U.vm ∧ U.heap = h0) (fun _ _ _ _ _ => True) (fun _ U o U' => ∃ v L, o = .returned v ∧ (own_Q (some (.int (cn_f q1 w_s w_e))) n0 h0) v U'.heap L ∧ FrameEnd U o U' L ({ frames := 0, cells := 0, slots := 0, locals := 0 } : Room).cells ({ frames := 0, cells := 0, slots := 0, locals := 0 } : Room).slots) :=
  own_met hw (plainFor_of_name (by first | (simp [plainName, overriddenIn]; done) | decide +kernel)) (fun p e s m below meth c T0 C0 X0 e0 => own_st (fun _ k => castTop (cn_ef m b0 q1) k) (cn_c0 C0 X0 e0 (Fr.nil n0) Z0 P0 P1 rfl))
theorem ov_d0 : decode prog_48_method_5_code 0 = .ok (.aload_n 0, 1) := by decide +kernel
theorem ov_d1 : decode prog_48_method_5_code 1 = .ok (.getfield 15, 3) := by decide +kernel
theorem ov_d4 : decode prog_48_method_5_code 4 = .ok (.ldc2_w 30, 3) := by decide +kernel
theorem ov_d7 : decode prog_48_method_5_code 7 = .ok (.lcmp, 1) := by decide +kernel
theorem ov_d8 : decode prog_48_method_5_code 8 = .ok (.ifCond .eq 16, 3) := by decide +kernel
theorem ov_d11 : decode prog_48_method_5_code 11 = .ok (.aload_n 0, 1) := by decide +kernel
theorem ov_d12 : decode prog_48_method_5_code 12 = .ok (.getfield 15, 3) := by decide +kernel
theorem ov_d15 : decode prog_48_method_5_code 15 = .ok (.lload_n 1, 1) := by decide +kernel
theorem ov_d16 : decode prog_48_method_5_code 16 = .ok (.lcmp, 1) := by decide +kernel
theorem ov_d17 : decode prog_48_method_5_code 17 = .ok (.ifCond .gt 7, 3) := by decide +kernel
theorem ov_d20 : decode prog_48_method_5_code 20 = .ok (.iconst 1, 1) := by decide +kernel
theorem ov_d21 : decode prog_48_method_5_code 21 = .ok (.goto 4, 3) := by decide +kernel
theorem ov_d24 : decode prog_48_method_5_code 24 = .ok (.iconst 0, 1) := by decide +kernel
theorem ov_d25 : decode prog_48_method_5_code 25 = .ok (.ireturn, 1) := by decide +kernel
def ov_f (q1 : Int64) (w_e : Int64)  : Int32 :=
  if w_e = (9223372036854775807 : Int64) then
    (0 : Int32)
  else
    if q1 < w_e then
      (0 : Int32)
    else
      (1 : Int32)
set_option maxRecDepth 65536 in
set_option maxHeartbeats 40000000 in
theorem ov_c0 {l : Launch} {Z : State} {a0 : Array Value} {b0 : Addr} {q1 : Int64} {w_e : Int64} {h0 : Heap} {n0 : Nat} {p : Program} {e : Env} {s : State} {m : MethodId} {args : Array Value} {below : List Frame} {meth : Method} {c : Code} {T0 : State} {locs : List Loc} {r0 : Int32} (C0 : own_Cx p s m meth c Z a0 prog_48_method_5_code 3 "com/example/tally_flows/tallyflows/charging/TimeWindow" "isOverAt" (some .boolean)) (X0 : Stand p l e ({ frames := 0, cells := 0, slots := 0, locals := 0 } : Room) s m args below meth c T0 locs 0 0) (e0 : T0.heap = h0) (N0 : Fr n0 locs)  (Z0 : n0 ≤ h0.size) (P0 : Fld Z h0 b0 "com/example/tally_flows/tallyflows/charging/TimeWindow" "end" "J" (.long w_e)) (hr0 : r0 = ov_f q1 w_e ) :
    own_Dn p e below s (own_Q (some (.int r0)) n0 h0) ({ frames := 0, cells := 0, slots := 0, locals := 0 } : Room).cells ({ frames := 0, cells := 0, slots := 0, locals := 0 } : Room).slots (T0.setTop (mkF m 0 #[.val (.ref b0), .val (.long q1), .second] [])) := by
  obtain ⟨hx, hZ, hw, hby, hml, hown, hret, hlk, hnm⟩ := id C0
  refine own_st (fun _ k => XS.aloadN X0.here hx rfl (hb hby ov_d0) rfl rfl k) ?_
  show own_Dn p e below s _ _ _ (T0.setTop (mkF m 1 #[.val (.ref b0), .val (.long q1), .second] [(.ref b0)]))
  obtain ⟨T5, X5, e5, st5⟩ := getF X0 hx hZ hown (host := "") (Or.inl (hw _ (List.mem_of_getElem? (i := 20) rfl))) Via.refl e0 P0 (g := (mkF m 1 #[.val (.ref b0), .val (.long q1), .second] [(.ref b0)])) rfl rfl (hb hby ov_d1)
  refine own_st st5 ?_
  show own_Dn p e below s _ _ _ (T5.setTop (mkF m 4 #[.val (.ref b0), .val (.long q1), .second] [(.long w_e)]))
  refine own_st (fun _ k => X5.ldc2Long hx (index := 30) (v := (9223372036854775807 : Int64)) hown (mvT hZ (hw _ (List.mem_of_getElem? (i := 27) rfl))) (g := (mkF m 4 #[.val (.ref b0), .val (.long q1), .second] [(.long w_e)])) rfl (hb hby ov_d4) _ (XS.lcmp X5.here hx rfl (hb hby ov_d7) rfl k)) ?_
  show own_Dn p e below s _ _ _ (T5.setTop (mkF m 8 #[.val (.ref b0), .val (.long q1), .second] [(.int (lcmpW w_e (9223372036854775807 : Int64)))]))
  by_cases hc6 : w_e = (9223372036854775807 : Int64)
  · refine own_st (fun _ k => XS.ifYes X5.here hx rfl (pc0 := 8) (pc' := 24) rfl (hb hby ov_d8) rfl (own_jteq hc6).1 (by decide) (by decide) k) ?_
    show own_Dn p e below s _ _ _ (T5.setTop (mkF m 24 #[.val (.ref b0), .val (.long q1), .second] []))
    refine own_st (fun _ k => XS.iconst X5.here hx rfl (hb hby ov_d24) k) ?_
    show own_Dn p e below s _ _ _ (T5.setTop (mkF m 25 #[.val (.ref b0), .val (.long q1), .second] [(.int (0 : Int32))]))
    exact own_retZ X5 hx hret hlk (by decide) (hb hby ov_d25) (by decide) (by decide) ⟨(by rw [hr0, ov_f, if_pos hc6]), N0, e5⟩
  · refine own_st (fun _ k => XS.ifNo X5.here hx rfl (hb hby ov_d8) rfl (own_jfeq hc6).1 k) ?_
    show own_Dn p e below s _ _ _ (T5.setTop (mkF m 11 #[.val (.ref b0), .val (.long q1), .second] []))
    refine own_st (fun _ k => XS.aloadN X5.here hx rfl (hb hby ov_d11) rfl rfl k) ?_
    show own_Dn p e below s _ _ _ (T5.setTop (mkF m 12 #[.val (.ref b0), .val (.long q1), .second] [(.ref b0)]))
    obtain ⟨T7, X7, e7, st7⟩ := getF X5 hx hZ hown (host := "") (Or.inl (hw _ (List.mem_of_getElem? (i := 20) rfl))) Via.refl e5 P0 (g := (mkF m 12 #[.val (.ref b0), .val (.long q1), .second] [(.ref b0)])) rfl rfl (hb hby ov_d12)
    refine own_st st7 ?_
    show own_Dn p e below s _ _ _ (T7.setTop (mkF m 15 #[.val (.ref b0), .val (.long q1), .second] [(.long w_e)]))
    refine own_st (fun _ k => XS.lloadN X7.here hx rfl (hb hby ov_d15) rfl (XS.lcmp X7.here hx rfl (hb hby ov_d16) rfl k)) ?_
    show own_Dn p e below s _ _ _ (T7.setTop (mkF m 17 #[.val (.ref b0), .val (.long q1), .second] [(.int (lcmpW w_e q1))]))
    by_cases hc8 : q1 < w_e
    · refine own_st (fun _ k => XS.ifYes X7.here hx rfl (pc0 := 17) (pc' := 24) rfl (hb hby ov_d17) rfl (own_jtlt hc8).2.2.1 (by decide) (by decide) k) ?_
      show own_Dn p e below s _ _ _ (T7.setTop (mkF m 24 #[.val (.ref b0), .val (.long q1), .second] []))
      refine own_st (fun _ k => XS.iconst X7.here hx rfl (hb hby ov_d24) k) ?_
      show own_Dn p e below s _ _ _ (T7.setTop (mkF m 25 #[.val (.ref b0), .val (.long q1), .second] [(.int (0 : Int32))]))
      exact own_retZ X7 hx hret hlk (by decide) (hb hby ov_d25) (by decide) (by decide) ⟨(by rw [hr0, ov_f, if_neg hc6, if_pos hc8]), N0, e7⟩
    · refine own_st (fun _ k => XS.ifNo X7.here hx rfl (hb hby ov_d17) rfl (own_jflt hc8).2.2.1 k) ?_
      show own_Dn p e below s _ _ _ (T7.setTop (mkF m 20 #[.val (.ref b0), .val (.long q1), .second] []))
      refine own_st (fun _ k => XS.iconst X7.here hx rfl (hb hby ov_d20) (XS.goto X7.here hx rfl (pc0 := 21) (pc' := 25) rfl (hb hby ov_d21) (by decide) (by decide) k)) ?_
      show own_Dn p e below s _ _ _ (T7.setTop (mkF m 25 #[.val (.ref b0), .val (.long q1), .second] [(.int (1 : Int32))]))
      exact own_retZ X7 hx hret hlk (by decide) (hb hby ov_d25) (by decide) (by decide) ⟨(by rw [hr0, ov_f, if_neg hc6, if_neg hc8]), N0, e7⟩
theorem ov_ef (m : MethodId) (b0 : Addr) (q1 : Int64) : entryFrame m #[(.ref b0), (.long q1)] 3 = mkF m 0 #[.val (.ref b0), .val (.long q1), .second] [] := by first | (simp [entryFrame, mkF, argsToLocals, Value.category]; done) | rfl
theorem ov_rm (l : Launch) (Z : State) (a0 : Array Value) (hw : ∀ d ∈ tables_1, d.before a0 Z = true) (ws : List Jvm.Cond) (b0 : Addr) (q1 : Int64) (w_e : Int64) (h0 : Heap) (n0 : Nat) (Z0 : n0 ≤ h0.size) (P0 : Fld Z h0 b0 "com/example/tally_flows/tallyflows/charging/TimeWindow" "end" "J" (.long w_e)) :
    MetFree l (⟨"com/example/tally_flows/tallyflows/charging/TimeWindow", "isOverAt", "(J)Z"⟩ : MethodName) (head1 (Jvm.Cond.code (⟨"com/example/tally_flows/tallyflows/charging/TimeWindow", "isOverAt", "(J)Z"⟩ : MethodName) prog_48_method_5_code 3 (some .boolean) :: ws) ({ frames := 0, cells := 0, slots := 0, locals := 0 } : Room)) (fun a U => a = #[(.ref b0), (.long q1)] ∧ Z.Warmed39 U.vm ∧ U.heap = h0) (fun _ _ _ _ _ => True) (fun _ U o U' => ∃ v L, o = .returned v ∧ (own_Q (some (.int (ov_f q1 w_e))) n0 h0) v U'.heap L ∧ FrameEnd U o U' L ({ frames := 0, cells := 0, slots := 0, locals := 0 } : Room).cells ({ frames := 0, cells := 0, slots := 0, locals := 0 } : Room).slots) :=
  own_met hw (plainFor_of_name (by first | (simp [plainName, overriddenIn]; done) | decide +kernel)) (fun p e s m below meth c T0 C0 X0 e0 => own_st (fun _ k => castTop (ov_ef m b0 q1) k) (ov_c0 C0 X0 e0 (Fr.nil n0) Z0 P0 rfl))
theorem lw_d0 : decode code 0 = .ok (.lload_n 0, 1) := by decide +kernel
theorem lw_d1 : decode code 1 = .ok (.lload_n 2, 1) := by decide +kernel
theorem lw_d2 : decode code 2 = .ok (.invokestatic 7, 3) := by decide +kernel
theorem lw_d5 : decode code 5 = .ok (.lstore 9, 2) := by decide +kernel
theorem lw_d7 : decode code 7 = .ok (.lload_n 0, 1) := by decide +kernel
theorem lw_d8 : decode code 8 = .ok (.lload_n 2, 1) := by decide +kernel
theorem lw_d9 : decode code 9 = .ok (.invokestatic 13, 3) := by decide +kernel
theorem lw_d12 : decode code 12 = .ok (.lstore 11, 2) := by decide +kernel
theorem lw_d14 : decode code 14 = .ok (.iload 8, 2) := by decide +kernel
theorem lw_d16 : decode code 16 = .ok (.iconst 1, 1) := by decide +kernel
theorem lw_d17 : decode code 17 = .ok (.iand, 1) := by decide +kernel
theorem lw_d18 : decode code 18 = .ok (.ifCond .eq 8, 3) := by decide +kernel
theorem lw_d21 : decode code 21 = .ok (.ldc2_w 18, 3) := by decide +kernel
theorem lw_d24 : decode code 24 = .ok (.lstore 9, 2) := by decide +kernel
theorem lw_d26 : decode code 26 = .ok (.iload 8, 2) := by decide +kernel
theorem lw_d28 : decode code 28 = .ok (.iconst 2, 1) := by decide +kernel
theorem lw_d29 : decode code 29 = .ok (.iand, 1) := by decide +kernel
theorem lw_d30 : decode code 30 = .ok (.ifCond .eq 8, 3) := by decide +kernel
theorem lw_d33 : decode code 33 = .ok (.ldc2_w 20, 3) := by decide +kernel
theorem lw_d36 : decode code 36 = .ok (.lstore 11, 2) := by decide +kernel
theorem lw_d38 : decode code 38 = .ok (.new 16, 3) := by decide +kernel
theorem lw_d41 : decode code 41 = .ok (.dup, 1) := by decide +kernel
theorem lw_d42 : decode code 42 = .ok (.lload 9, 2) := by decide +kernel
theorem lw_d44 : decode code 44 = .ok (.lload 11, 2) := by decide +kernel
theorem lw_d46 : decode code 46 = .ok (.invokespecial 22, 3) := by decide +kernel
theorem lw_d49 : decode code 49 = .ok (.astore 13, 2) := by decide +kernel
theorem lw_d51 : decode code 51 = .ok (.aload 13, 2) := by decide +kernel
theorem lw_d53 : decode code 53 = .ok (.lload 4, 2) := by decide +kernel
theorem lw_d55 : decode code 55 = .ok (.invokevirtual 25, 3) := by decide +kernel
theorem lw_d58 : decode code 58 = .ok (.istore 14, 2) := by decide +kernel
theorem lw_d60 : decode code 60 = .ok (.iload 14, 2) := by decide +kernel
theorem lw_d62 : decode code 62 = .ok (.lload 9, 2) := by decide +kernel
theorem lw_d64 : decode code 64 = .ok (.lload 4, 2) := by decide +kernel
theorem lw_d66 : decode code 66 = .ok (.lcmp, 1) := by decide +kernel
theorem lw_d67 : decode code 67 = .ok (.ifCond .gt 17, 3) := by decide +kernel
theorem lw_d70 : decode code 70 = .ok (.aload 13, 2) := by decide +kernel
theorem lw_d72 : decode code 72 = .ok (.lload 4, 2) := by decide +kernel
theorem lw_d74 : decode code 74 = .ok (.invokevirtual 29, 3) := by decide +kernel
theorem lw_d77 : decode code 77 = .ok (.ifCond .ne 7, 3) := by decide +kernel
theorem lw_d80 : decode code 80 = .ok (.iconst 1, 1) := by decide +kernel
theorem lw_d81 : decode code 81 = .ok (.goto 4, 3) := by decide +kernel
theorem lw_d84 : decode code 84 = .ok (.iconst 0, 1) := by decide +kernel
theorem lw_d85 : decode code 85 = .ok (.if_icmp .ne 7, 3) := by decide +kernel
theorem lw_d88 : decode code 88 = .ok (.iconst 1, 1) := by decide +kernel
theorem lw_d89 : decode code 89 = .ok (.goto 4, 3) := by decide +kernel
theorem lw_d92 : decode code 92 = .ok (.iconst 0, 1) := by decide +kernel
theorem lw_d93 : decode code 93 = .ok (.istore 15, 2) := by decide +kernel
theorem lw_d95 : decode code 95 = .ok (.lload 4, 2) := by decide +kernel
theorem lw_d97 : decode code 97 = .ok (.lload 6, 2) := by decide +kernel
theorem lw_d99 : decode code 99 = .ok (.invokestatic 7, 3) := by decide +kernel
theorem lw_d102 : decode code 102 = .ok (.lstore 16, 2) := by decide +kernel
theorem lw_d104 : decode code 104 = .ok (.lload 4, 2) := by decide +kernel
theorem lw_d106 : decode code 106 = .ok (.lload 6, 2) := by decide +kernel
theorem lw_d108 : decode code 108 = .ok (.invokestatic 13, 3) := by decide +kernel
theorem lw_d111 : decode code 111 = .ok (.lstore 18, 2) := by decide +kernel
theorem lw_d113 : decode code 113 = .ok (.aload 13, 2) := by decide +kernel
theorem lw_d115 : decode code 115 = .ok (.lload 16, 2) := by decide +kernel
theorem lw_d117 : decode code 117 = .ok (.invokevirtual 25, 3) := by decide +kernel
theorem lw_d120 : decode code 120 = .ok (.ifCond .eq 13, 3) := by decide +kernel
theorem lw_d123 : decode code 123 = .ok (.aload 13, 2) := by decide +kernel
theorem lw_d125 : decode code 125 = .ok (.lload 18, 2) := by decide +kernel
theorem lw_d127 : decode code 127 = .ok (.invokevirtual 25, 3) := by decide +kernel
theorem lw_d130 : decode code 130 = .ok (.ifCond .eq 7, 3) := by decide +kernel
theorem lw_d133 : decode code 133 = .ok (.iconst 1, 1) := by decide +kernel
theorem lw_d134 : decode code 134 = .ok (.goto 4, 3) := by decide +kernel
theorem lw_d137 : decode code 137 = .ok (.iconst 0, 1) := by decide +kernel
theorem lw_d138 : decode code 138 = .ok (.istore 20, 2) := by decide +kernel
theorem lw_d140 : decode code 140 = .ok (.aload 13, 2) := by decide +kernel
theorem lw_d142 : decode code 142 = .ok (.lload 11, 2) := by decide +kernel
theorem lw_d144 : decode code 144 = .ok (.invokevirtual 25, 3) := by decide +kernel
theorem lw_d147 : decode code 147 = .ok (.lload 11, 2) := by decide +kernel
theorem lw_d149 : decode code 149 = .ok (.ldc2_w 20, 3) := by decide +kernel
theorem lw_d152 : decode code 152 = .ok (.lcmp, 1) := by decide +kernel
theorem lw_d153 : decode code 153 = .ok (.ifCond .eq 7, 3) := by decide +kernel
theorem lw_d156 : decode code 156 = .ok (.iconst 1, 1) := by decide +kernel
theorem lw_d157 : decode code 157 = .ok (.goto 4, 3) := by decide +kernel
theorem lw_d160 : decode code 160 = .ok (.iconst 0, 1) := by decide +kernel
theorem lw_d161 : decode code 161 = .ok (.if_icmp .ne 7, 3) := by decide +kernel
theorem lw_d164 : decode code 164 = .ok (.iconst 1, 1) := by decide +kernel
theorem lw_d165 : decode code 165 = .ok (.goto 4, 3) := by decide +kernel
theorem lw_d168 : decode code 168 = .ok (.iconst 0, 1) := by decide +kernel
theorem lw_d169 : decode code 169 = .ok (.istore 21, 2) := by decide +kernel
theorem lw_d171 : decode code 171 = .ok (.lload 11, 2) := by decide +kernel
theorem lw_d173 : decode code 173 = .ok (.ldc2_w 18, 3) := by decide +kernel
theorem lw_d176 : decode code 176 = .ok (.lcmp, 1) := by decide +kernel
theorem lw_d177 : decode code 177 = .ok (.ifCond .eq 15, 3) := by decide +kernel
theorem lw_d180 : decode code 180 = .ok (.aload 13, 2) := by decide +kernel
theorem lw_d182 : decode code 182 = .ok (.lload 11, 2) := by decide +kernel
theorem lw_d184 : decode code 184 = .ok (.lconst 1, 1) := by decide +kernel
theorem lw_d185 : decode code 185 = .ok (.lsub, 1) := by decide +kernel
theorem lw_d186 : decode code 186 = .ok (.invokevirtual 25, 3) := by decide +kernel
theorem lw_d189 : decode code 189 = .ok (.ifCond .ne 7, 3) := by decide +kernel
theorem lw_d192 : decode code 192 = .ok (.iconst 1, 1) := by decide +kernel
theorem lw_d193 : decode code 193 = .ok (.goto 4, 3) := by decide +kernel
theorem lw_d196 : decode code 196 = .ok (.iconst 0, 1) := by decide +kernel
theorem lw_d197 : decode code 197 = .ok (.istore 22, 2) := by decide +kernel
theorem lw_d199 : decode code 199 = .ok (.aload 13, 2) := by decide +kernel
theorem lw_d201 : decode code 201 = .ok (.ldc2_w 20, 3) := by decide +kernel
theorem lw_d204 : decode code 204 = .ok (.invokevirtual 25, 3) := by decide +kernel
theorem lw_d207 : decode code 207 = .ok (.lload 11, 2) := by decide +kernel
theorem lw_d209 : decode code 209 = .ok (.ldc2_w 20, 3) := by decide +kernel
theorem lw_d212 : decode code 212 = .ok (.lcmp, 1) := by decide +kernel
theorem lw_d213 : decode code 213 = .ok (.ifCond .eq 7, 3) := by decide +kernel
theorem lw_d216 : decode code 216 = .ok (.iconst 1, 1) := by decide +kernel
theorem lw_d217 : decode code 217 = .ok (.goto 4, 3) := by decide +kernel
theorem lw_d220 : decode code 220 = .ok (.iconst 0, 1) := by decide +kernel
theorem lw_d221 : decode code 221 = .ok (.if_icmp .ne 7, 3) := by decide +kernel
theorem lw_d224 : decode code 224 = .ok (.iconst 1, 1) := by decide +kernel
theorem lw_d225 : decode code 225 = .ok (.goto 4, 3) := by decide +kernel
theorem lw_d228 : decode code 228 = .ok (.iconst 0, 1) := by decide +kernel
theorem lw_d229 : decode code 229 = .ok (.istore 23, 2) := by decide +kernel
theorem lw_d231 : decode code 231 = .ok (.iload 15, 2) := by decide +kernel
theorem lw_d233 : decode code 233 = .ok (.ifCond .eq 27, 3) := by decide +kernel
theorem lw_d236 : decode code 236 = .ok (.iload 20, 2) := by decide +kernel
theorem lw_d238 : decode code 238 = .ok (.ifCond .eq 22, 3) := by decide +kernel
theorem lw_d241 : decode code 241 = .ok (.iload 21, 2) := by decide +kernel
theorem lw_d243 : decode code 243 = .ok (.ifCond .eq 17, 3) := by decide +kernel
theorem lw_d246 : decode code 246 = .ok (.iload 22, 2) := by decide +kernel
theorem lw_d248 : decode code 248 = .ok (.ifCond .eq 12, 3) := by decide +kernel
theorem lw_d251 : decode code 251 = .ok (.iload 23, 2) := by decide +kernel
theorem lw_d253 : decode code 253 = .ok (.ifCond .eq 7, 3) := by decide +kernel
theorem lw_d256 : decode code 256 = .ok (.iconst 1, 1) := by decide +kernel
theorem lw_d257 : decode code 257 = .ok (.goto 4, 3) := by decide +kernel
theorem lw_d260 : decode code 260 = .ok (.iconst 0, 1) := by decide +kernel
theorem lw_d261 : decode code 261 = .ok (.ireturn, 1) := by decide +kernel
def lw_f229 (q0 : Int64) (q1 : Int64) (q2 : Int64) (q3 : Int64) (p4 : Int32) (v9 : Int64) (v11 : Int64) (v14 : Int32) (v15 : Int32) (v16 : Int64) (v18 : Int64) (v20 : Int32) (v21 : Int32) (v22 : Int32) (u0 : Int32) (w2 : Int64) (w3 : Int64) : Int32 :=
  if v15 = (0 : Int32) then
    (0 : Int32)
  else
    if v20 = (0 : Int32) then
      (0 : Int32)
    else
      if v21 = (0 : Int32) then
        (0 : Int32)
      else
        if v22 = (0 : Int32) then
          (0 : Int32)
        else
          if u0 = (0 : Int32) then
            (0 : Int32)
          else
            (1 : Int32)
set_option maxRecDepth 65536 in
set_option maxHeartbeats 40000000 in
theorem lw_c229 {l : Launch} {Z : State} {a0 : Array Value} {q0 : Int64} {q1 : Int64} {q2 : Int64} {q3 : Int64} {p4 : Int32} {h0 : Heap} {n0 : Nat} {p : Program} {e : Env} {s : State} {m : MethodId} {args : Array Value} {below : List Frame} {meth : Method} {c : Code} {T0 : State} {locs : List Loc} {o38 : Addr} {r0 : Int32} (C0 : own_Cx p s m meth c Z a0 code 24 "com/example/tally_flows/tallyflows/charging/TimeWindowIsOverAtPinLaw" "law" (some .boolean)) (X0 : Stand p l e room_1 s m args below meth c T0 locs 1 2) (e0 : T0.heap = h0) (N0 : Fr n0 locs) (v9 : Int64) (v11 : Int64) (v14 : Int32) (v15 : Int32) (v16 : Int64) (v18 : Int64) (v20 : Int32) (v21 : Int32) (v22 : Int32) (u0 : Int32) (w2 : Int64) (w3 : Int64) (Z0 : n0 ≤ h0.size) (P1 : Exa Z h0 o38 "com/example/tally_flows/tallyflows/charging/TimeWindow") (P2 : Fld Z h0 o38 "com/example/tally_flows/tallyflows/charging/TimeWindow" "start" "J" (.long w2)) (P3 : Fld Z h0 o38 "com/example/tally_flows/tallyflows/charging/TimeWindow" "end" "J" (.long w3)) (kn0 : n0 ≤ o38) (hr0 : r0 = lw_f229 q0 q1 q2 q3 p4 v9 v11 v14 v15 v16 v18 v20 v21 v22 u0 w2 w3) :
    own_Dn p e below s (own_QL (some (.int r0)) n0) room_1.cells room_1.slots (T0.setTop (mkF m 229 #[.val (.long q0), .second, .val (.long q1), .second, .val (.long q2), .second, .val (.long q3), .second, .val (.int p4), .val (.long v9), .second, .val (.long v11), .second, .val (.ref o38), .val (.int v14), .val (.int v15), .val (.long v16), .second, .val (.long v18), .second, .val (.int v20), .val (.int v21), .val (.int v22), .unset] [(.int u0)])) := by
  obtain ⟨hx, hZ, hw, hby, hml, hown, hret, hlk, hnm⟩ := id C0
  refine own_st (fun _ k => XS.istore X0.here hx rfl (hb hby lw_d229) rfl (l' := #[.val (.long q0), .second, .val (.long q1), .second, .val (.long q2), .second, .val (.long q3), .second, .val (.int p4), .val (.long v9), .second, .val (.long v11), .second, .val (.ref o38), .val (.int v14), .val (.int v15), .val (.long v16), .second, .val (.long v18), .second, .val (.int v20), .val (.int v21), .val (.int v22), .val (.int u0)]) rfl (XS.iload X0.here hx rfl (hb hby lw_d231) rfl k)) ?_
  show own_Dn p e below s _ _ _ (T0.setTop (mkF m 233 #[.val (.long q0), .second, .val (.long q1), .second, .val (.long q2), .second, .val (.long q3), .second, .val (.int p4), .val (.long v9), .second, .val (.long v11), .second, .val (.ref o38), .val (.int v14), .val (.int v15), .val (.long v16), .second, .val (.long v18), .second, .val (.int v20), .val (.int v21), .val (.int v22), .val (.int u0)] [(.int v15)]))
  by_cases hc84 : v15 = (0 : Int32)
  · refine own_st (fun _ k => XS.ifYes X0.here hx rfl (pc0 := 233) (pc' := 260) rfl (hb hby lw_d233) rfl ((if0 _ _).trans (teq hc84).1) (by decide) (by decide) k) ?_
    show own_Dn p e below s _ _ _ (T0.setTop (mkF m 260 #[.val (.long q0), .second, .val (.long q1), .second, .val (.long q2), .second, .val (.long q3), .second, .val (.int p4), .val (.long v9), .second, .val (.long v11), .second, .val (.ref o38), .val (.int v14), .val (.int v15), .val (.long v16), .second, .val (.long v18), .second, .val (.int v20), .val (.int v21), .val (.int v22), .val (.int u0)] []))
    refine own_st (fun _ k => XS.iconst X0.here hx rfl (hb hby lw_d260) k) ?_
    show own_Dn p e below s _ _ _ (T0.setTop (mkF m 261 #[.val (.long q0), .second, .val (.long q1), .second, .val (.long q2), .second, .val (.long q3), .second, .val (.int p4), .val (.long v9), .second, .val (.long v11), .second, .val (.ref o38), .val (.int v14), .val (.int v15), .val (.long v16), .second, .val (.long v18), .second, .val (.int v20), .val (.int v21), .val (.int v22), .val (.int u0)] [(.int (0 : Int32))]))
    exact own_retZ X0 hx hret hlk (by decide) (hb hby lw_d261) (by decide) (by decide) ⟨(by rw [hr0, lw_f229, if_pos hc84]), N0⟩
  · refine own_st (fun _ k => XS.ifNo X0.here hx rfl (hb hby lw_d233) rfl ((if0 _ _).trans (feq hc84).1) k) ?_
    show own_Dn p e below s _ _ _ (T0.setTop (mkF m 236 #[.val (.long q0), .second, .val (.long q1), .second, .val (.long q2), .second, .val (.long q3), .second, .val (.int p4), .val (.long v9), .second, .val (.long v11), .second, .val (.ref o38), .val (.int v14), .val (.int v15), .val (.long v16), .second, .val (.long v18), .second, .val (.int v20), .val (.int v21), .val (.int v22), .val (.int u0)] []))
    refine own_st (fun _ k => XS.iload X0.here hx rfl (hb hby lw_d236) rfl k) ?_
    show own_Dn p e below s _ _ _ (T0.setTop (mkF m 238 #[.val (.long q0), .second, .val (.long q1), .second, .val (.long q2), .second, .val (.long q3), .second, .val (.int p4), .val (.long v9), .second, .val (.long v11), .second, .val (.ref o38), .val (.int v14), .val (.int v15), .val (.long v16), .second, .val (.long v18), .second, .val (.int v20), .val (.int v21), .val (.int v22), .val (.int u0)] [(.int v20)]))
    by_cases hc85 : v20 = (0 : Int32)
    · refine own_st (fun _ k => XS.ifYes X0.here hx rfl (pc0 := 238) (pc' := 260) rfl (hb hby lw_d238) rfl ((if0 _ _).trans (teq hc85).1) (by decide) (by decide) k) ?_
      show own_Dn p e below s _ _ _ (T0.setTop (mkF m 260 #[.val (.long q0), .second, .val (.long q1), .second, .val (.long q2), .second, .val (.long q3), .second, .val (.int p4), .val (.long v9), .second, .val (.long v11), .second, .val (.ref o38), .val (.int v14), .val (.int v15), .val (.long v16), .second, .val (.long v18), .second, .val (.int v20), .val (.int v21), .val (.int v22), .val (.int u0)] []))
      refine own_st (fun _ k => XS.iconst X0.here hx rfl (hb hby lw_d260) k) ?_
      show own_Dn p e below s _ _ _ (T0.setTop (mkF m 261 #[.val (.long q0), .second, .val (.long q1), .second, .val (.long q2), .second, .val (.long q3), .second, .val (.int p4), .val (.long v9), .second, .val (.long v11), .second, .val (.ref o38), .val (.int v14), .val (.int v15), .val (.long v16), .second, .val (.long v18), .second, .val (.int v20), .val (.int v21), .val (.int v22), .val (.int u0)] [(.int (0 : Int32))]))
      exact own_retZ X0 hx hret hlk (by decide) (hb hby lw_d261) (by decide) (by decide) ⟨(by rw [hr0, lw_f229, if_neg hc84, if_pos hc85]), N0⟩
    · refine own_st (fun _ k => XS.ifNo X0.here hx rfl (hb hby lw_d238) rfl ((if0 _ _).trans (feq hc85).1) k) ?_
      show own_Dn p e below s _ _ _ (T0.setTop (mkF m 241 #[.val (.long q0), .second, .val (.long q1), .second, .val (.long q2), .second, .val (.long q3), .second, .val (.int p4), .val (.long v9), .second, .val (.long v11), .second, .val (.ref o38), .val (.int v14), .val (.int v15), .val (.long v16), .second, .val (.long v18), .second, .val (.int v20), .val (.int v21), .val (.int v22), .val (.int u0)] []))
      refine own_st (fun _ k => XS.iload X0.here hx rfl (hb hby lw_d241) rfl k) ?_
      show own_Dn p e below s _ _ _ (T0.setTop (mkF m 243 #[.val (.long q0), .second, .val (.long q1), .second, .val (.long q2), .second, .val (.long q3), .second, .val (.int p4), .val (.long v9), .second, .val (.long v11), .second, .val (.ref o38), .val (.int v14), .val (.int v15), .val (.long v16), .second, .val (.long v18), .second, .val (.int v20), .val (.int v21), .val (.int v22), .val (.int u0)] [(.int v21)]))
      by_cases hc86 : v21 = (0 : Int32)
      · refine own_st (fun _ k => XS.ifYes X0.here hx rfl (pc0 := 243) (pc' := 260) rfl (hb hby lw_d243) rfl ((if0 _ _).trans (teq hc86).1) (by decide) (by decide) k) ?_
        show own_Dn p e below s _ _ _ (T0.setTop (mkF m 260 #[.val (.long q0), .second, .val (.long q1), .second, .val (.long q2), .second, .val (.long q3), .second, .val (.int p4), .val (.long v9), .second, .val (.long v11), .second, .val (.ref o38), .val (.int v14), .val (.int v15), .val (.long v16), .second, .val (.long v18), .second, .val (.int v20), .val (.int v21), .val (.int v22), .val (.int u0)] []))
        refine own_st (fun _ k => XS.iconst X0.here hx rfl (hb hby lw_d260) k) ?_
        show own_Dn p e below s _ _ _ (T0.setTop (mkF m 261 #[.val (.long q0), .second, .val (.long q1), .second, .val (.long q2), .second, .val (.long q3), .second, .val (.int p4), .val (.long v9), .second, .val (.long v11), .second, .val (.ref o38), .val (.int v14), .val (.int v15), .val (.long v16), .second, .val (.long v18), .second, .val (.int v20), .val (.int v21), .val (.int v22), .val (.int u0)] [(.int (0 : Int32))]))
        exact own_retZ X0 hx hret hlk (by decide) (hb hby lw_d261) (by decide) (by decide) ⟨(by rw [hr0, lw_f229, if_neg hc84, if_neg hc85, if_pos hc86]), N0⟩
      · refine own_st (fun _ k => XS.ifNo X0.here hx rfl (hb hby lw_d243) rfl ((if0 _ _).trans (feq hc86).1) k) ?_
        show own_Dn p e below s _ _ _ (T0.setTop (mkF m 246 #[.val (.long q0), .second, .val (.long q1), .second, .val (.long q2), .second, .val (.long q3), .second, .val (.int p4), .val (.long v9), .second, .val (.long v11), .second, .val (.ref o38), .val (.int v14), .val (.int v15), .val (.long v16), .second, .val (.long v18), .second, .val (.int v20), .val (.int v21), .val (.int v22), .val (.int u0)] []))
        refine own_st (fun _ k => XS.iload X0.here hx rfl (hb hby lw_d246) rfl k) ?_
        show own_Dn p e below s _ _ _ (T0.setTop (mkF m 248 #[.val (.long q0), .second, .val (.long q1), .second, .val (.long q2), .second, .val (.long q3), .second, .val (.int p4), .val (.long v9), .second, .val (.long v11), .second, .val (.ref o38), .val (.int v14), .val (.int v15), .val (.long v16), .second, .val (.long v18), .second, .val (.int v20), .val (.int v21), .val (.int v22), .val (.int u0)] [(.int v22)]))
        by_cases hc87 : v22 = (0 : Int32)
        · refine own_st (fun _ k => XS.ifYes X0.here hx rfl (pc0 := 248) (pc' := 260) rfl (hb hby lw_d248) rfl ((if0 _ _).trans (teq hc87).1) (by decide) (by decide) k) ?_
          show own_Dn p e below s _ _ _ (T0.setTop (mkF m 260 #[.val (.long q0), .second, .val (.long q1), .second, .val (.long q2), .second, .val (.long q3), .second, .val (.int p4), .val (.long v9), .second, .val (.long v11), .second, .val (.ref o38), .val (.int v14), .val (.int v15), .val (.long v16), .second, .val (.long v18), .second, .val (.int v20), .val (.int v21), .val (.int v22), .val (.int u0)] []))
          refine own_st (fun _ k => XS.iconst X0.here hx rfl (hb hby lw_d260) k) ?_
          show own_Dn p e below s _ _ _ (T0.setTop (mkF m 261 #[.val (.long q0), .second, .val (.long q1), .second, .val (.long q2), .second, .val (.long q3), .second, .val (.int p4), .val (.long v9), .second, .val (.long v11), .second, .val (.ref o38), .val (.int v14), .val (.int v15), .val (.long v16), .second, .val (.long v18), .second, .val (.int v20), .val (.int v21), .val (.int v22), .val (.int u0)] [(.int (0 : Int32))]))
          exact own_retZ X0 hx hret hlk (by decide) (hb hby lw_d261) (by decide) (by decide) ⟨(by rw [hr0, lw_f229, if_neg hc84, if_neg hc85, if_neg hc86, if_pos hc87]), N0⟩
        · refine own_st (fun _ k => XS.ifNo X0.here hx rfl (hb hby lw_d248) rfl ((if0 _ _).trans (feq hc87).1) k) ?_
          show own_Dn p e below s _ _ _ (T0.setTop (mkF m 251 #[.val (.long q0), .second, .val (.long q1), .second, .val (.long q2), .second, .val (.long q3), .second, .val (.int p4), .val (.long v9), .second, .val (.long v11), .second, .val (.ref o38), .val (.int v14), .val (.int v15), .val (.long v16), .second, .val (.long v18), .second, .val (.int v20), .val (.int v21), .val (.int v22), .val (.int u0)] []))
          refine own_st (fun _ k => XS.iload X0.here hx rfl (hb hby lw_d251) rfl k) ?_
          show own_Dn p e below s _ _ _ (T0.setTop (mkF m 253 #[.val (.long q0), .second, .val (.long q1), .second, .val (.long q2), .second, .val (.long q3), .second, .val (.int p4), .val (.long v9), .second, .val (.long v11), .second, .val (.ref o38), .val (.int v14), .val (.int v15), .val (.long v16), .second, .val (.long v18), .second, .val (.int v20), .val (.int v21), .val (.int v22), .val (.int u0)] [(.int u0)]))
          by_cases hc88 : u0 = (0 : Int32)
          · refine own_st (fun _ k => XS.ifYes X0.here hx rfl (pc0 := 253) (pc' := 260) rfl (hb hby lw_d253) rfl ((if0 _ _).trans (teq hc88).1) (by decide) (by decide) k) ?_
            show own_Dn p e below s _ _ _ (T0.setTop (mkF m 260 #[.val (.long q0), .second, .val (.long q1), .second, .val (.long q2), .second, .val (.long q3), .second, .val (.int p4), .val (.long v9), .second, .val (.long v11), .second, .val (.ref o38), .val (.int v14), .val (.int v15), .val (.long v16), .second, .val (.long v18), .second, .val (.int v20), .val (.int v21), .val (.int v22), .val (.int u0)] []))
            refine own_st (fun _ k => XS.iconst X0.here hx rfl (hb hby lw_d260) k) ?_
            show own_Dn p e below s _ _ _ (T0.setTop (mkF m 261 #[.val (.long q0), .second, .val (.long q1), .second, .val (.long q2), .second, .val (.long q3), .second, .val (.int p4), .val (.long v9), .second, .val (.long v11), .second, .val (.ref o38), .val (.int v14), .val (.int v15), .val (.long v16), .second, .val (.long v18), .second, .val (.int v20), .val (.int v21), .val (.int v22), .val (.int u0)] [(.int (0 : Int32))]))
            exact own_retZ X0 hx hret hlk (by decide) (hb hby lw_d261) (by decide) (by decide) ⟨(by rw [hr0, lw_f229, if_neg hc84, if_neg hc85, if_neg hc86, if_neg hc87, if_pos hc88]), N0⟩
          · refine own_st (fun _ k => XS.ifNo X0.here hx rfl (hb hby lw_d253) rfl ((if0 _ _).trans (feq hc88).1) k) ?_
            show own_Dn p e below s _ _ _ (T0.setTop (mkF m 256 #[.val (.long q0), .second, .val (.long q1), .second, .val (.long q2), .second, .val (.long q3), .second, .val (.int p4), .val (.long v9), .second, .val (.long v11), .second, .val (.ref o38), .val (.int v14), .val (.int v15), .val (.long v16), .second, .val (.long v18), .second, .val (.int v20), .val (.int v21), .val (.int v22), .val (.int u0)] []))
            refine own_st (fun _ k => XS.iconst X0.here hx rfl (hb hby lw_d256) (XS.goto X0.here hx rfl (pc0 := 257) (pc' := 261) rfl (hb hby lw_d257) (by decide) (by decide) k)) ?_
            show own_Dn p e below s _ _ _ (T0.setTop (mkF m 261 #[.val (.long q0), .second, .val (.long q1), .second, .val (.long q2), .second, .val (.long q3), .second, .val (.int p4), .val (.long v9), .second, .val (.long v11), .second, .val (.ref o38), .val (.int v14), .val (.int v15), .val (.long v16), .second, .val (.long v18), .second, .val (.int v20), .val (.int v21), .val (.int v22), .val (.int u0)] [(.int (1 : Int32))]))
            exact own_retZ X0 hx hret hlk (by decide) (hb hby lw_d261) (by decide) (by decide) ⟨(by rw [hr0, lw_f229, if_neg hc84, if_neg hc85, if_neg hc86, if_neg hc87, if_neg hc88]), N0⟩
def lw_f197 (q0 : Int64) (q1 : Int64) (q2 : Int64) (q3 : Int64) (p4 : Int32) (v9 : Int64) (v11 : Int64) (v14 : Int32) (v15 : Int32) (v16 : Int64) (v18 : Int64) (v20 : Int32) (v21 : Int32) (u0 : Int32) (w2 : Int64) (w3 : Int64) : Int32 :=
  if v11 = (9223372036854775807 : Int64) then
    if (ov_f (9223372036854775807 : Int64) w3) = (0 : Int32) then
      lw_f229 q0 q1 q2 q3 p4 (v9) (v11) (v14) (v15) (v16) (v18) (v20) (v21) (u0) ((1 : Int32)) (w2) (w3)
    else
      lw_f229 q0 q1 q2 q3 p4 (v9) (v11) (v14) (v15) (v16) (v18) (v20) (v21) (u0) ((0 : Int32)) (w2) (w3)
  else
    if (ov_f (9223372036854775807 : Int64) w3) = (1 : Int32) then
      lw_f229 q0 q1 q2 q3 p4 (v9) (v11) (v14) (v15) (v16) (v18) (v20) (v21) (u0) ((1 : Int32)) (w2) (w3)
    else
      lw_f229 q0 q1 q2 q3 p4 (v9) (v11) (v14) (v15) (v16) (v18) (v20) (v21) (u0) ((0 : Int32)) (w2) (w3)
set_option maxRecDepth 65536 in
set_option maxHeartbeats 40000000 in
theorem lw_c197 {l : Launch} {Z : State} {a0 : Array Value} {q0 : Int64} {q1 : Int64} {q2 : Int64} {q3 : Int64} {p4 : Int32} {h0 : Heap} {n0 : Nat} {p : Program} {e : Env} {s : State} {m : MethodId} {args : Array Value} {below : List Frame} {meth : Method} {c : Code} {T0 : State} {locs : List Loc} {o38 : Addr} {r0 : Int32} (C0 : own_Cx p s m meth c Z a0 code 24 "com/example/tally_flows/tallyflows/charging/TimeWindowIsOverAtPinLaw" "law" (some .boolean)) (X0 : Stand p l e room_1 s m args below meth c T0 locs 1 2) (e0 : T0.heap = h0) (N0 : Fr n0 locs) (v9 : Int64) (v11 : Int64) (v14 : Int32) (v15 : Int32) (v16 : Int64) (v18 : Int64) (v20 : Int32) (v21 : Int32) (u0 : Int32) (w2 : Int64) (w3 : Int64) (Z0 : n0 ≤ h0.size) (P1 : Exa Z h0 o38 "com/example/tally_flows/tallyflows/charging/TimeWindow") (P2 : Fld Z h0 o38 "com/example/tally_flows/tallyflows/charging/TimeWindow" "start" "J" (.long w2)) (P3 : Fld Z h0 o38 "com/example/tally_flows/tallyflows/charging/TimeWindow" "end" "J" (.long w3)) (kn0 : n0 ≤ o38) (hr0 : r0 = lw_f197 q0 q1 q2 q3 p4 v9 v11 v14 v15 v16 v18 v20 v21 u0 w2 w3) :
    own_Dn p e below s (own_QL (some (.int r0)) n0) room_1.cells room_1.slots (T0.setTop (mkF m 197 #[.val (.long q0), .second, .val (.long q1), .second, .val (.long q2), .second, .val (.long q3), .second, .val (.int p4), .val (.long v9), .second, .val (.long v11), .second, .val (.ref o38), .val (.int v14), .val (.int v15), .val (.long v16), .second, .val (.long v18), .second, .val (.int v20), .val (.int v21), .unset, .unset] [(.int u0)])) := by
  obtain ⟨hx, hZ, hw, hby, hml, hown, hret, hlk, hnm⟩ := id C0
  refine own_st (fun _ k => XS.istore X0.here hx rfl (hb hby lw_d197) rfl (l' := #[.val (.long q0), .second, .val (.long q1), .second, .val (.long q2), .second, .val (.long q3), .second, .val (.int p4), .val (.long v9), .second, .val (.long v11), .second, .val (.ref o38), .val (.int v14), .val (.int v15), .val (.long v16), .second, .val (.long v18), .second, .val (.int v20), .val (.int v21), .val (.int u0), .unset]) rfl (XS.aload X0.here hx rfl (hb hby lw_d199) rfl rfl (X0.ldc2Long hx (index := 20) (v := (9223372036854775807 : Int64)) hown (mvT hZ (hw _ (List.mem_of_getElem? (i := 8) rfl))) (g := (mkF m 201 #[.val (.long q0), .second, .val (.long q1), .second, .val (.long q2), .second, .val (.long q3), .second, .val (.int p4), .val (.long v9), .second, .val (.long v11), .second, .val (.ref o38), .val (.int v14), .val (.int v15), .val (.long v16), .second, .val (.long v18), .second, .val (.int v20), .val (.int v21), .val (.int u0), .unset] [(.ref o38)])) rfl (hb hby lw_d201) _ k))) ?_
  show own_Dn p e below s _ _ _ (T0.setTop (mkF m 204 #[.val (.long q0), .second, .val (.long q1), .second, .val (.long q2), .second, .val (.long q3), .second, .val (.int p4), .val (.long v9), .second, .val (.long v11), .second, .val (.ref o38), .val (.int v14), .val (.int v15), .val (.long v16), .second, .val (.long v18), .second, .val (.int v20), .val (.int v21), .val (.int u0), .unset] [(.long (9223372036854775807 : Int64)), (.ref o38)]))
  obtain ⟨cq80, kq80, q80a, q80b, q80c⟩ := isOf hZ e0 P1
  obtain ⟨_, _, ⟨T80, L80, k80, n80⟩, -, X80, ⟨Lc80, hQ80, l80, y80, z80⟩, st80⟩ := X0.virtualBack hx (y := (⟨"com/example/tally_flows/tallyflows/charging/TimeWindow", "isOverAt", "(J)Z"⟩ : MethodName)) (z := (⟨"com/example/tally_flows/tallyflows/charging/TimeWindow", "isOverAt", "(J)Z"⟩ : MethodName)) hown (mvT hZ (hw _ (List.mem_of_getElem? (i := 22) rfl))) (mvT hZ (hw _ (List.mem_of_getElem? (i := 23) rfl))) (notFace_of_selects (args := #[]) (mvT hZ (hw _ (List.mem_of_getElem? (i := 25) rfl)))) (mvT hZ (hw _ (List.mem_of_getElem? (i := 25) rfl))) (mvT hZ (hw _ (List.mem_of_getElem? (i := 24) rfl))) (by decide) (backOf (W := 0) (ov_rm l Z a0 hw [] (o38) ((9223372036854775807 : Int64)) (w3) h0 n0 Z0 P3) hZ (hw _ (List.mem_of_getElem? (i := 26) rfl)) (hw _ (List.mem_of_getElem? (i := 11) rfl)) (by decide) (by decide)) q80a q80c (g := (mkF m 204 #[.val (.long q0), .second, .val (.long q1), .second, .val (.long q2), .second, .val (.long q3), .second, .val (.int p4), .val (.long v9), .second, .val (.long v11), .second, .val (.ref o38), .val (.int v14), .val (.int v15), .val (.long v16), .second, .val (.long v18), .second, .val (.int v20), .val (.int v21), .val (.int u0), .unset] [(.long (9223372036854775807 : Int64)), (.ref o38)])) rfl (by rw [hml]; rfl) (Steps.refl _) (argsL := [(.long (9223372036854775807 : Int64))]) (rest := []) (lenOf own_pd2 rfl) rfl (by show 2 * 0 + _ ≤ _; exact Nat.le_of_eq rfl) (hb hby lw_d204) (fun _ _ => ⟨rfl, e0, (by decide : 1 + 0 ≤ _), (by decide : 2 + 0 ≤ _)⟩)
  dsimp only [Pt.U, Pt.locs, Pt.cells, Pt.slots] at X80 l80 y80 z80 st80 hQ80
  subst l80 y80 z80
  obtain ⟨rfl, N80q, e80⟩ := hQ80
  have N80 := Fr.app N0 N80q
  refine own_tr st80 ?_
  show own_Dn p e below s _ _ _ (T80.setTop (mkF m 207 #[.val (.long q0), .second, .val (.long q1), .second, .val (.long q2), .second, .val (.long q3), .second, .val (.int p4), .val (.long v9), .second, .val (.long v11), .second, .val (.ref o38), .val (.int v14), .val (.int v15), .val (.long v16), .second, .val (.long v18), .second, .val (.int v20), .val (.int v21), .val (.int u0), .unset] [(.int (ov_f (9223372036854775807 : Int64) w3))]))
  refine own_st (fun _ k => XS.lload X80.here hx rfl (hb hby lw_d207) rfl (X80.ldc2Long hx (index := 20) (v := (9223372036854775807 : Int64)) hown (mvT hZ (hw _ (List.mem_of_getElem? (i := 8) rfl))) (g := (mkF m 209 #[.val (.long q0), .second, .val (.long q1), .second, .val (.long q2), .second, .val (.long q3), .second, .val (.int p4), .val (.long v9), .second, .val (.long v11), .second, .val (.ref o38), .val (.int v14), .val (.int v15), .val (.long v16), .second, .val (.long v18), .second, .val (.int v20), .val (.int v21), .val (.int u0), .unset] [(.long v11), (.int (ov_f (9223372036854775807 : Int64) w3))])) rfl (hb hby lw_d209) _ (XS.lcmp X80.here hx rfl (hb hby lw_d212) rfl k))) ?_
  show own_Dn p e below s _ _ _ (T80.setTop (mkF m 213 #[.val (.long q0), .second, .val (.long q1), .second, .val (.long q2), .second, .val (.long q3), .second, .val (.int p4), .val (.long v9), .second, .val (.long v11), .second, .val (.ref o38), .val (.int v14), .val (.int v15), .val (.long v16), .second, .val (.long v18), .second, .val (.int v20), .val (.int v21), .val (.int u0), .unset] [(.int (lcmpW v11 (9223372036854775807 : Int64))), (.int (ov_f (9223372036854775807 : Int64) w3))]))
  by_cases hc81 : v11 = (9223372036854775807 : Int64)
  · refine own_st (fun _ k => XS.ifYes X80.here hx rfl (pc0 := 213) (pc' := 220) rfl (hb hby lw_d213) rfl (own_jteq hc81).1 (by decide) (by decide) k) ?_
    show own_Dn p e below s _ _ _ (T80.setTop (mkF m 220 #[.val (.long q0), .second, .val (.long q1), .second, .val (.long q2), .second, .val (.long q3), .second, .val (.int p4), .val (.long v9), .second, .val (.long v11), .second, .val (.ref o38), .val (.int v14), .val (.int v15), .val (.long v16), .second, .val (.long v18), .second, .val (.int v20), .val (.int v21), .val (.int u0), .unset] [(.int (ov_f (9223372036854775807 : Int64) w3))]))
    refine own_st (fun _ k => XS.iconst X80.here hx rfl (hb hby lw_d220) k) ?_
    show own_Dn p e below s _ _ _ (T80.setTop (mkF m 221 #[.val (.long q0), .second, .val (.long q1), .second, .val (.long q2), .second, .val (.long q3), .second, .val (.int p4), .val (.long v9), .second, .val (.long v11), .second, .val (.ref o38), .val (.int v14), .val (.int v15), .val (.long v16), .second, .val (.long v18), .second, .val (.int v20), .val (.int v21), .val (.int u0), .unset] [(.int (0 : Int32)), (.int (ov_f (9223372036854775807 : Int64) w3))]))
    by_cases hc82 : (ov_f (9223372036854775807 : Int64) w3) = (0 : Int32)
    · refine own_st (fun _ k => XS.icmpNo X80.here hx rfl (hb hby lw_d221) rfl (teq hc82).2 k) ?_
      show own_Dn p e below s _ _ _ (T80.setTop (mkF m 224 #[.val (.long q0), .second, .val (.long q1), .second, .val (.long q2), .second, .val (.long q3), .second, .val (.int p4), .val (.long v9), .second, .val (.long v11), .second, .val (.ref o38), .val (.int v14), .val (.int v15), .val (.long v16), .second, .val (.long v18), .second, .val (.int v20), .val (.int v21), .val (.int u0), .unset] []))
      refine own_st (fun _ k => XS.iconst X80.here hx rfl (hb hby lw_d224) (XS.goto X80.here hx rfl (pc0 := 225) (pc' := 229) rfl (hb hby lw_d225) (by decide) (by decide) k)) ?_
      show own_Dn p e below s _ _ _ (T80.setTop (mkF m 229 #[.val (.long q0), .second, .val (.long q1), .second, .val (.long q2), .second, .val (.long q3), .second, .val (.int p4), .val (.long v9), .second, .val (.long v11), .second, .val (.ref o38), .val (.int v14), .val (.int v15), .val (.long v16), .second, .val (.long v18), .second, .val (.int v20), .val (.int v21), .val (.int u0), .unset] [(.int (1 : Int32))]))
      exact lw_c229 C0 X80 e80 N80 (v9) (v11) (v14) (v15) (v16) (v18) (v20) (v21) (u0) ((1 : Int32)) (w2) (w3) Z0 P1 P2 P3 kn0 (by rw [hr0, lw_f197, if_pos hc81, if_pos hc82])
    · refine own_st (fun _ k => XS.icmpYes X80.here hx rfl (pc0 := 221) (pc' := 228) rfl (hb hby lw_d221) rfl (feq hc82).2 (by decide) (by decide) k) ?_
      show own_Dn p e below s _ _ _ (T80.setTop (mkF m 228 #[.val (.long q0), .second, .val (.long q1), .second, .val (.long q2), .second, .val (.long q3), .second, .val (.int p4), .val (.long v9), .second, .val (.long v11), .second, .val (.ref o38), .val (.int v14), .val (.int v15), .val (.long v16), .second, .val (.long v18), .second, .val (.int v20), .val (.int v21), .val (.int u0), .unset] []))
      refine own_st (fun _ k => XS.iconst X80.here hx rfl (hb hby lw_d228) k) ?_
      show own_Dn p e below s _ _ _ (T80.setTop (mkF m 229 #[.val (.long q0), .second, .val (.long q1), .second, .val (.long q2), .second, .val (.long q3), .second, .val (.int p4), .val (.long v9), .second, .val (.long v11), .second, .val (.ref o38), .val (.int v14), .val (.int v15), .val (.long v16), .second, .val (.long v18), .second, .val (.int v20), .val (.int v21), .val (.int u0), .unset] [(.int (0 : Int32))]))
      exact lw_c229 C0 X80 e80 N80 (v9) (v11) (v14) (v15) (v16) (v18) (v20) (v21) (u0) ((0 : Int32)) (w2) (w3) Z0 P1 P2 P3 kn0 (by rw [hr0, lw_f197, if_pos hc81, if_neg hc82])
  · refine own_st (fun _ k => XS.ifNo X80.here hx rfl (hb hby lw_d213) rfl (own_jfeq hc81).1 k) ?_
    show own_Dn p e below s _ _ _ (T80.setTop (mkF m 216 #[.val (.long q0), .second, .val (.long q1), .second, .val (.long q2), .second, .val (.long q3), .second, .val (.int p4), .val (.long v9), .second, .val (.long v11), .second, .val (.ref o38), .val (.int v14), .val (.int v15), .val (.long v16), .second, .val (.long v18), .second, .val (.int v20), .val (.int v21), .val (.int u0), .unset] [(.int (ov_f (9223372036854775807 : Int64) w3))]))
    refine own_st (fun _ k => XS.iconst X80.here hx rfl (hb hby lw_d216) (XS.goto X80.here hx rfl (pc0 := 217) (pc' := 221) rfl (hb hby lw_d217) (by decide) (by decide) k)) ?_
    show own_Dn p e below s _ _ _ (T80.setTop (mkF m 221 #[.val (.long q0), .second, .val (.long q1), .second, .val (.long q2), .second, .val (.long q3), .second, .val (.int p4), .val (.long v9), .second, .val (.long v11), .second, .val (.ref o38), .val (.int v14), .val (.int v15), .val (.long v16), .second, .val (.long v18), .second, .val (.int v20), .val (.int v21), .val (.int u0), .unset] [(.int (1 : Int32)), (.int (ov_f (9223372036854775807 : Int64) w3))]))
    by_cases hc83 : (ov_f (9223372036854775807 : Int64) w3) = (1 : Int32)
    · refine own_st (fun _ k => XS.icmpNo X80.here hx rfl (hb hby lw_d221) rfl (teq hc83).2 k) ?_
      show own_Dn p e below s _ _ _ (T80.setTop (mkF m 224 #[.val (.long q0), .second, .val (.long q1), .second, .val (.long q2), .second, .val (.long q3), .second, .val (.int p4), .val (.long v9), .second, .val (.long v11), .second, .val (.ref o38), .val (.int v14), .val (.int v15), .val (.long v16), .second, .val (.long v18), .second, .val (.int v20), .val (.int v21), .val (.int u0), .unset] []))
      refine own_st (fun _ k => XS.iconst X80.here hx rfl (hb hby lw_d224) (XS.goto X80.here hx rfl (pc0 := 225) (pc' := 229) rfl (hb hby lw_d225) (by decide) (by decide) k)) ?_
      show own_Dn p e below s _ _ _ (T80.setTop (mkF m 229 #[.val (.long q0), .second, .val (.long q1), .second, .val (.long q2), .second, .val (.long q3), .second, .val (.int p4), .val (.long v9), .second, .val (.long v11), .second, .val (.ref o38), .val (.int v14), .val (.int v15), .val (.long v16), .second, .val (.long v18), .second, .val (.int v20), .val (.int v21), .val (.int u0), .unset] [(.int (1 : Int32))]))
      exact lw_c229 C0 X80 e80 N80 (v9) (v11) (v14) (v15) (v16) (v18) (v20) (v21) (u0) ((1 : Int32)) (w2) (w3) Z0 P1 P2 P3 kn0 (by rw [hr0, lw_f197, if_neg hc81, if_pos hc83])
    · refine own_st (fun _ k => XS.icmpYes X80.here hx rfl (pc0 := 221) (pc' := 228) rfl (hb hby lw_d221) rfl (feq hc83).2 (by decide) (by decide) k) ?_
      show own_Dn p e below s _ _ _ (T80.setTop (mkF m 228 #[.val (.long q0), .second, .val (.long q1), .second, .val (.long q2), .second, .val (.long q3), .second, .val (.int p4), .val (.long v9), .second, .val (.long v11), .second, .val (.ref o38), .val (.int v14), .val (.int v15), .val (.long v16), .second, .val (.long v18), .second, .val (.int v20), .val (.int v21), .val (.int u0), .unset] []))
      refine own_st (fun _ k => XS.iconst X80.here hx rfl (hb hby lw_d228) k) ?_
      show own_Dn p e below s _ _ _ (T80.setTop (mkF m 229 #[.val (.long q0), .second, .val (.long q1), .second, .val (.long q2), .second, .val (.long q3), .second, .val (.int p4), .val (.long v9), .second, .val (.long v11), .second, .val (.ref o38), .val (.int v14), .val (.int v15), .val (.long v16), .second, .val (.long v18), .second, .val (.int v20), .val (.int v21), .val (.int u0), .unset] [(.int (0 : Int32))]))
      exact lw_c229 C0 X80 e80 N80 (v9) (v11) (v14) (v15) (v16) (v18) (v20) (v21) (u0) ((0 : Int32)) (w2) (w3) Z0 P1 P2 P3 kn0 (by rw [hr0, lw_f197, if_neg hc81, if_neg hc83])
def lw_f169 (q0 : Int64) (q1 : Int64) (q2 : Int64) (q3 : Int64) (p4 : Int32) (v9 : Int64) (v11 : Int64) (v14 : Int32) (v15 : Int32) (v16 : Int64) (v18 : Int64) (v20 : Int32) (u0 : Int32) (w2 : Int64) (w3 : Int64) : Int32 :=
  if v11 = (-9223372036854775808 : Int64) then
    lw_f197 q0 q1 q2 q3 p4 (v9) (v11) (v14) (v15) (v16) (v18) (v20) (u0) ((1 : Int32)) (w2) (w3)
  else
    if (ov_f (v11 - (1 : Int64)) w3) = (0 : Int32) then
      lw_f197 q0 q1 q2 q3 p4 (v9) (v11) (v14) (v15) (v16) (v18) (v20) (u0) ((1 : Int32)) (w2) (w3)
    else
      lw_f197 q0 q1 q2 q3 p4 (v9) (v11) (v14) (v15) (v16) (v18) (v20) (u0) ((0 : Int32)) (w2) (w3)
set_option maxRecDepth 65536 in
set_option maxHeartbeats 40000000 in
theorem lw_c169 {l : Launch} {Z : State} {a0 : Array Value} {q0 : Int64} {q1 : Int64} {q2 : Int64} {q3 : Int64} {p4 : Int32} {h0 : Heap} {n0 : Nat} {p : Program} {e : Env} {s : State} {m : MethodId} {args : Array Value} {below : List Frame} {meth : Method} {c : Code} {T0 : State} {locs : List Loc} {o38 : Addr} {r0 : Int32} (C0 : own_Cx p s m meth c Z a0 code 24 "com/example/tally_flows/tallyflows/charging/TimeWindowIsOverAtPinLaw" "law" (some .boolean)) (X0 : Stand p l e room_1 s m args below meth c T0 locs 1 2) (e0 : T0.heap = h0) (N0 : Fr n0 locs) (v9 : Int64) (v11 : Int64) (v14 : Int32) (v15 : Int32) (v16 : Int64) (v18 : Int64) (v20 : Int32) (u0 : Int32) (w2 : Int64) (w3 : Int64) (Z0 : n0 ≤ h0.size) (P1 : Exa Z h0 o38 "com/example/tally_flows/tallyflows/charging/TimeWindow") (P2 : Fld Z h0 o38 "com/example/tally_flows/tallyflows/charging/TimeWindow" "start" "J" (.long w2)) (P3 : Fld Z h0 o38 "com/example/tally_flows/tallyflows/charging/TimeWindow" "end" "J" (.long w3)) (kn0 : n0 ≤ o38) (hr0 : r0 = lw_f169 q0 q1 q2 q3 p4 v9 v11 v14 v15 v16 v18 v20 u0 w2 w3) :
    own_Dn p e below s (own_QL (some (.int r0)) n0) room_1.cells room_1.slots (T0.setTop (mkF m 169 #[.val (.long q0), .second, .val (.long q1), .second, .val (.long q2), .second, .val (.long q3), .second, .val (.int p4), .val (.long v9), .second, .val (.long v11), .second, .val (.ref o38), .val (.int v14), .val (.int v15), .val (.long v16), .second, .val (.long v18), .second, .val (.int v20), .unset, .unset, .unset] [(.int u0)])) := by
  obtain ⟨hx, hZ, hw, hby, hml, hown, hret, hlk, hnm⟩ := id C0
  refine own_st (fun _ k => XS.istore X0.here hx rfl (hb hby lw_d169) rfl (l' := #[.val (.long q0), .second, .val (.long q1), .second, .val (.long q2), .second, .val (.long q3), .second, .val (.int p4), .val (.long v9), .second, .val (.long v11), .second, .val (.ref o38), .val (.int v14), .val (.int v15), .val (.long v16), .second, .val (.long v18), .second, .val (.int v20), .val (.int u0), .unset, .unset]) rfl (XS.lload X0.here hx rfl (hb hby lw_d171) rfl (X0.ldc2Long hx (index := 18) (v := (-9223372036854775808 : Int64)) hown (mvT hZ (hw _ (List.mem_of_getElem? (i := 7) rfl))) (g := (mkF m 173 #[.val (.long q0), .second, .val (.long q1), .second, .val (.long q2), .second, .val (.long q3), .second, .val (.int p4), .val (.long v9), .second, .val (.long v11), .second, .val (.ref o38), .val (.int v14), .val (.int v15), .val (.long v16), .second, .val (.long v18), .second, .val (.int v20), .val (.int u0), .unset, .unset] [(.long v11)])) rfl (hb hby lw_d173) _ (XS.lcmp X0.here hx rfl (hb hby lw_d176) rfl k)))) ?_
  show own_Dn p e below s _ _ _ (T0.setTop (mkF m 177 #[.val (.long q0), .second, .val (.long q1), .second, .val (.long q2), .second, .val (.long q3), .second, .val (.int p4), .val (.long v9), .second, .val (.long v11), .second, .val (.ref o38), .val (.int v14), .val (.int v15), .val (.long v16), .second, .val (.long v18), .second, .val (.int v20), .val (.int u0), .unset, .unset] [(.int (lcmpW v11 (-9223372036854775808 : Int64)))]))
  by_cases hc77 : v11 = (-9223372036854775808 : Int64)
  · refine own_st (fun _ k => XS.ifYes X0.here hx rfl (pc0 := 177) (pc' := 192) rfl (hb hby lw_d177) rfl (own_jteq hc77).1 (by decide) (by decide) k) ?_
    show own_Dn p e below s _ _ _ (T0.setTop (mkF m 192 #[.val (.long q0), .second, .val (.long q1), .second, .val (.long q2), .second, .val (.long q3), .second, .val (.int p4), .val (.long v9), .second, .val (.long v11), .second, .val (.ref o38), .val (.int v14), .val (.int v15), .val (.long v16), .second, .val (.long v18), .second, .val (.int v20), .val (.int u0), .unset, .unset] []))
    refine own_st (fun _ k => XS.iconst X0.here hx rfl (hb hby lw_d192) (XS.goto X0.here hx rfl (pc0 := 193) (pc' := 197) rfl (hb hby lw_d193) (by decide) (by decide) k)) ?_
    show own_Dn p e below s _ _ _ (T0.setTop (mkF m 197 #[.val (.long q0), .second, .val (.long q1), .second, .val (.long q2), .second, .val (.long q3), .second, .val (.int p4), .val (.long v9), .second, .val (.long v11), .second, .val (.ref o38), .val (.int v14), .val (.int v15), .val (.long v16), .second, .val (.long v18), .second, .val (.int v20), .val (.int u0), .unset, .unset] [(.int (1 : Int32))]))
    exact lw_c197 C0 X0 e0 N0 (v9) (v11) (v14) (v15) (v16) (v18) (v20) (u0) ((1 : Int32)) (w2) (w3) Z0 P1 P2 P3 kn0 (by rw [hr0, lw_f169, if_pos hc77])
  · refine own_st (fun _ k => XS.ifNo X0.here hx rfl (hb hby lw_d177) rfl (own_jfeq hc77).1 k) ?_
    show own_Dn p e below s _ _ _ (T0.setTop (mkF m 180 #[.val (.long q0), .second, .val (.long q1), .second, .val (.long q2), .second, .val (.long q3), .second, .val (.int p4), .val (.long v9), .second, .val (.long v11), .second, .val (.ref o38), .val (.int v14), .val (.int v15), .val (.long v16), .second, .val (.long v18), .second, .val (.int v20), .val (.int u0), .unset, .unset] []))
    refine own_st (fun _ k => XS.aload X0.here hx rfl (hb hby lw_d180) rfl rfl (XS.lload X0.here hx rfl (hb hby lw_d182) rfl (XS.lconst X0.here hx rfl (hb hby lw_d184) (XS.lsub X0.here hx rfl (hb hby lw_d185) rfl k)))) ?_
    show own_Dn p e below s _ _ _ (T0.setTop (mkF m 186 #[.val (.long q0), .second, .val (.long q1), .second, .val (.long q2), .second, .val (.long q3), .second, .val (.int p4), .val (.long v9), .second, .val (.long v11), .second, .val (.ref o38), .val (.int v14), .val (.int v15), .val (.long v16), .second, .val (.long v18), .second, .val (.int v20), .val (.int u0), .unset, .unset] [(.long (v11 - (1 : Int64))), (.ref o38)]))
    obtain ⟨cq78, kq78, q78a, q78b, q78c⟩ := isOf hZ e0 P1
    obtain ⟨_, _, ⟨T78, L78, k78, n78⟩, -, X78, ⟨Lc78, hQ78, l78, y78, z78⟩, st78⟩ := X0.virtualBack hx (y := (⟨"com/example/tally_flows/tallyflows/charging/TimeWindow", "isOverAt", "(J)Z"⟩ : MethodName)) (z := (⟨"com/example/tally_flows/tallyflows/charging/TimeWindow", "isOverAt", "(J)Z"⟩ : MethodName)) hown (mvT hZ (hw _ (List.mem_of_getElem? (i := 22) rfl))) (mvT hZ (hw _ (List.mem_of_getElem? (i := 23) rfl))) (notFace_of_selects (args := #[]) (mvT hZ (hw _ (List.mem_of_getElem? (i := 25) rfl)))) (mvT hZ (hw _ (List.mem_of_getElem? (i := 25) rfl))) (mvT hZ (hw _ (List.mem_of_getElem? (i := 24) rfl))) (by decide) (backOf (W := 0) (ov_rm l Z a0 hw [] (o38) ((v11 - (1 : Int64))) (w3) h0 n0 Z0 P3) hZ (hw _ (List.mem_of_getElem? (i := 26) rfl)) (hw _ (List.mem_of_getElem? (i := 11) rfl)) (by decide) (by decide)) q78a q78c (g := (mkF m 186 #[.val (.long q0), .second, .val (.long q1), .second, .val (.long q2), .second, .val (.long q3), .second, .val (.int p4), .val (.long v9), .second, .val (.long v11), .second, .val (.ref o38), .val (.int v14), .val (.int v15), .val (.long v16), .second, .val (.long v18), .second, .val (.int v20), .val (.int u0), .unset, .unset] [(.long (v11 - (1 : Int64))), (.ref o38)])) rfl (by rw [hml]; rfl) (Steps.refl _) (argsL := [(.long (v11 - (1 : Int64)))]) (rest := []) (lenOf own_pd2 rfl) rfl (by show 2 * 0 + _ ≤ _; exact Nat.le_of_eq rfl) (hb hby lw_d186) (fun _ _ => ⟨rfl, e0, (by decide : 1 + 0 ≤ _), (by decide : 2 + 0 ≤ _)⟩)
    dsimp only [Pt.U, Pt.locs, Pt.cells, Pt.slots] at X78 l78 y78 z78 st78 hQ78
    subst l78 y78 z78
    obtain ⟨rfl, N78q, e78⟩ := hQ78
    have N78 := Fr.app N0 N78q
    refine own_tr st78 ?_
    show own_Dn p e below s _ _ _ (T78.setTop (mkF m 189 #[.val (.long q0), .second, .val (.long q1), .second, .val (.long q2), .second, .val (.long q3), .second, .val (.int p4), .val (.long v9), .second, .val (.long v11), .second, .val (.ref o38), .val (.int v14), .val (.int v15), .val (.long v16), .second, .val (.long v18), .second, .val (.int v20), .val (.int u0), .unset, .unset] [(.int (ov_f (v11 - (1 : Int64)) w3))]))
    by_cases hc79 : (ov_f (v11 - (1 : Int64)) w3) = (0 : Int32)
    · refine own_st (fun _ k => XS.ifNo X78.here hx rfl (hb hby lw_d189) rfl ((if0 _ _).trans (teq hc79).2) k) ?_
      show own_Dn p e below s _ _ _ (T78.setTop (mkF m 192 #[.val (.long q0), .second, .val (.long q1), .second, .val (.long q2), .second, .val (.long q3), .second, .val (.int p4), .val (.long v9), .second, .val (.long v11), .second, .val (.ref o38), .val (.int v14), .val (.int v15), .val (.long v16), .second, .val (.long v18), .second, .val (.int v20), .val (.int u0), .unset, .unset] []))
      refine own_st (fun _ k => XS.iconst X78.here hx rfl (hb hby lw_d192) (XS.goto X78.here hx rfl (pc0 := 193) (pc' := 197) rfl (hb hby lw_d193) (by decide) (by decide) k)) ?_
      show own_Dn p e below s _ _ _ (T78.setTop (mkF m 197 #[.val (.long q0), .second, .val (.long q1), .second, .val (.long q2), .second, .val (.long q3), .second, .val (.int p4), .val (.long v9), .second, .val (.long v11), .second, .val (.ref o38), .val (.int v14), .val (.int v15), .val (.long v16), .second, .val (.long v18), .second, .val (.int v20), .val (.int u0), .unset, .unset] [(.int (1 : Int32))]))
      exact lw_c197 C0 X78 e78 N78 (v9) (v11) (v14) (v15) (v16) (v18) (v20) (u0) ((1 : Int32)) (w2) (w3) Z0 P1 P2 P3 kn0 (by rw [hr0, lw_f169, if_neg hc77, if_pos hc79])
    · refine own_st (fun _ k => XS.ifYes X78.here hx rfl (pc0 := 189) (pc' := 196) rfl (hb hby lw_d189) rfl ((if0 _ _).trans (feq hc79).2) (by decide) (by decide) k) ?_
      show own_Dn p e below s _ _ _ (T78.setTop (mkF m 196 #[.val (.long q0), .second, .val (.long q1), .second, .val (.long q2), .second, .val (.long q3), .second, .val (.int p4), .val (.long v9), .second, .val (.long v11), .second, .val (.ref o38), .val (.int v14), .val (.int v15), .val (.long v16), .second, .val (.long v18), .second, .val (.int v20), .val (.int u0), .unset, .unset] []))
      refine own_st (fun _ k => XS.iconst X78.here hx rfl (hb hby lw_d196) k) ?_
      show own_Dn p e below s _ _ _ (T78.setTop (mkF m 197 #[.val (.long q0), .second, .val (.long q1), .second, .val (.long q2), .second, .val (.long q3), .second, .val (.int p4), .val (.long v9), .second, .val (.long v11), .second, .val (.ref o38), .val (.int v14), .val (.int v15), .val (.long v16), .second, .val (.long v18), .second, .val (.int v20), .val (.int u0), .unset, .unset] [(.int (0 : Int32))]))
      exact lw_c197 C0 X78 e78 N78 (v9) (v11) (v14) (v15) (v16) (v18) (v20) (u0) ((0 : Int32)) (w2) (w3) Z0 P1 P2 P3 kn0 (by rw [hr0, lw_f169, if_neg hc77, if_neg hc79])
def lw_f138 (q0 : Int64) (q1 : Int64) (q2 : Int64) (q3 : Int64) (p4 : Int32) (v9 : Int64) (v11 : Int64) (v14 : Int32) (v15 : Int32) (v16 : Int64) (v18 : Int64) (u0 : Int32) (w2 : Int64) (w3 : Int64) : Int32 :=
  if v11 = (9223372036854775807 : Int64) then
    if (ov_f v11 w3) = (0 : Int32) then
      lw_f169 q0 q1 q2 q3 p4 (v9) (v11) (v14) (v15) (v16) (v18) (u0) ((1 : Int32)) (w2) (w3)
    else
      lw_f169 q0 q1 q2 q3 p4 (v9) (v11) (v14) (v15) (v16) (v18) (u0) ((0 : Int32)) (w2) (w3)
  else
    if (ov_f v11 w3) = (1 : Int32) then
      lw_f169 q0 q1 q2 q3 p4 (v9) (v11) (v14) (v15) (v16) (v18) (u0) ((1 : Int32)) (w2) (w3)
    else
      lw_f169 q0 q1 q2 q3 p4 (v9) (v11) (v14) (v15) (v16) (v18) (u0) ((0 : Int32)) (w2) (w3)
set_option maxRecDepth 65536 in
set_option maxHeartbeats 40000000 in
theorem lw_c138 {l : Launch} {Z : State} {a0 : Array Value} {q0 : Int64} {q1 : Int64} {q2 : Int64} {q3 : Int64} {p4 : Int32} {h0 : Heap} {n0 : Nat} {p : Program} {e : Env} {s : State} {m : MethodId} {args : Array Value} {below : List Frame} {meth : Method} {c : Code} {T0 : State} {locs : List Loc} {o38 : Addr} {r0 : Int32} (C0 : own_Cx p s m meth c Z a0 code 24 "com/example/tally_flows/tallyflows/charging/TimeWindowIsOverAtPinLaw" "law" (some .boolean)) (X0 : Stand p l e room_1 s m args below meth c T0 locs 1 2) (e0 : T0.heap = h0) (N0 : Fr n0 locs) (v9 : Int64) (v11 : Int64) (v14 : Int32) (v15 : Int32) (v16 : Int64) (v18 : Int64) (u0 : Int32) (w2 : Int64) (w3 : Int64) (Z0 : n0 ≤ h0.size) (P1 : Exa Z h0 o38 "com/example/tally_flows/tallyflows/charging/TimeWindow") (P2 : Fld Z h0 o38 "com/example/tally_flows/tallyflows/charging/TimeWindow" "start" "J" (.long w2)) (P3 : Fld Z h0 o38 "com/example/tally_flows/tallyflows/charging/TimeWindow" "end" "J" (.long w3)) (kn0 : n0 ≤ o38) (hr0 : r0 = lw_f138 q0 q1 q2 q3 p4 v9 v11 v14 v15 v16 v18 u0 w2 w3) :
    own_Dn p e below s (own_QL (some (.int r0)) n0) room_1.cells room_1.slots (T0.setTop (mkF m 138 #[.val (.long q0), .second, .val (.long q1), .second, .val (.long q2), .second, .val (.long q3), .second, .val (.int p4), .val (.long v9), .second, .val (.long v11), .second, .val (.ref o38), .val (.int v14), .val (.int v15), .val (.long v16), .second, .val (.long v18), .second, .unset, .unset, .unset, .unset] [(.int u0)])) := by
  obtain ⟨hx, hZ, hw, hby, hml, hown, hret, hlk, hnm⟩ := id C0
  refine own_st (fun _ k => XS.istore X0.here hx rfl (hb hby lw_d138) rfl (l' := #[.val (.long q0), .second, .val (.long q1), .second, .val (.long q2), .second, .val (.long q3), .second, .val (.int p4), .val (.long v9), .second, .val (.long v11), .second, .val (.ref o38), .val (.int v14), .val (.int v15), .val (.long v16), .second, .val (.long v18), .second, .val (.int u0), .unset, .unset, .unset]) rfl (XS.aload X0.here hx rfl (hb hby lw_d140) rfl rfl (XS.lload X0.here hx rfl (hb hby lw_d142) rfl k))) ?_
  show own_Dn p e below s _ _ _ (T0.setTop (mkF m 144 #[.val (.long q0), .second, .val (.long q1), .second, .val (.long q2), .second, .val (.long q3), .second, .val (.int p4), .val (.long v9), .second, .val (.long v11), .second, .val (.ref o38), .val (.int v14), .val (.int v15), .val (.long v16), .second, .val (.long v18), .second, .val (.int u0), .unset, .unset, .unset] [(.long v11), (.ref o38)]))
  obtain ⟨cq73, kq73, q73a, q73b, q73c⟩ := isOf hZ e0 P1
  obtain ⟨_, _, ⟨T73, L73, k73, n73⟩, -, X73, ⟨Lc73, hQ73, l73, y73, z73⟩, st73⟩ := X0.virtualBack hx (y := (⟨"com/example/tally_flows/tallyflows/charging/TimeWindow", "isOverAt", "(J)Z"⟩ : MethodName)) (z := (⟨"com/example/tally_flows/tallyflows/charging/TimeWindow", "isOverAt", "(J)Z"⟩ : MethodName)) hown (mvT hZ (hw _ (List.mem_of_getElem? (i := 22) rfl))) (mvT hZ (hw _ (List.mem_of_getElem? (i := 23) rfl))) (notFace_of_selects (args := #[]) (mvT hZ (hw _ (List.mem_of_getElem? (i := 25) rfl)))) (mvT hZ (hw _ (List.mem_of_getElem? (i := 25) rfl))) (mvT hZ (hw _ (List.mem_of_getElem? (i := 24) rfl))) (by decide) (backOf (W := 0) (ov_rm l Z a0 hw [] (o38) (v11) (w3) h0 n0 Z0 P3) hZ (hw _ (List.mem_of_getElem? (i := 26) rfl)) (hw _ (List.mem_of_getElem? (i := 11) rfl)) (by decide) (by decide)) q73a q73c (g := (mkF m 144 #[.val (.long q0), .second, .val (.long q1), .second, .val (.long q2), .second, .val (.long q3), .second, .val (.int p4), .val (.long v9), .second, .val (.long v11), .second, .val (.ref o38), .val (.int v14), .val (.int v15), .val (.long v16), .second, .val (.long v18), .second, .val (.int u0), .unset, .unset, .unset] [(.long v11), (.ref o38)])) rfl (by rw [hml]; rfl) (Steps.refl _) (argsL := [(.long v11)]) (rest := []) (lenOf own_pd2 rfl) rfl (by show 2 * 0 + _ ≤ _; exact Nat.le_of_eq rfl) (hb hby lw_d144) (fun _ _ => ⟨rfl, e0, (by decide : 1 + 0 ≤ _), (by decide : 2 + 0 ≤ _)⟩)
  dsimp only [Pt.U, Pt.locs, Pt.cells, Pt.slots] at X73 l73 y73 z73 st73 hQ73
  subst l73 y73 z73
  obtain ⟨rfl, N73q, e73⟩ := hQ73
  have N73 := Fr.app N0 N73q
  refine own_tr st73 ?_
  show own_Dn p e below s _ _ _ (T73.setTop (mkF m 147 #[.val (.long q0), .second, .val (.long q1), .second, .val (.long q2), .second, .val (.long q3), .second, .val (.int p4), .val (.long v9), .second, .val (.long v11), .second, .val (.ref o38), .val (.int v14), .val (.int v15), .val (.long v16), .second, .val (.long v18), .second, .val (.int u0), .unset, .unset, .unset] [(.int (ov_f v11 w3))]))
  refine own_st (fun _ k => XS.lload X73.here hx rfl (hb hby lw_d147) rfl (X73.ldc2Long hx (index := 20) (v := (9223372036854775807 : Int64)) hown (mvT hZ (hw _ (List.mem_of_getElem? (i := 8) rfl))) (g := (mkF m 149 #[.val (.long q0), .second, .val (.long q1), .second, .val (.long q2), .second, .val (.long q3), .second, .val (.int p4), .val (.long v9), .second, .val (.long v11), .second, .val (.ref o38), .val (.int v14), .val (.int v15), .val (.long v16), .second, .val (.long v18), .second, .val (.int u0), .unset, .unset, .unset] [(.long v11), (.int (ov_f v11 w3))])) rfl (hb hby lw_d149) _ (XS.lcmp X73.here hx rfl (hb hby lw_d152) rfl k))) ?_
  show own_Dn p e below s _ _ _ (T73.setTop (mkF m 153 #[.val (.long q0), .second, .val (.long q1), .second, .val (.long q2), .second, .val (.long q3), .second, .val (.int p4), .val (.long v9), .second, .val (.long v11), .second, .val (.ref o38), .val (.int v14), .val (.int v15), .val (.long v16), .second, .val (.long v18), .second, .val (.int u0), .unset, .unset, .unset] [(.int (lcmpW v11 (9223372036854775807 : Int64))), (.int (ov_f v11 w3))]))
  by_cases hc74 : v11 = (9223372036854775807 : Int64)
  · refine own_st (fun _ k => XS.ifYes X73.here hx rfl (pc0 := 153) (pc' := 160) rfl (hb hby lw_d153) rfl (own_jteq hc74).1 (by decide) (by decide) k) ?_
    show own_Dn p e below s _ _ _ (T73.setTop (mkF m 160 #[.val (.long q0), .second, .val (.long q1), .second, .val (.long q2), .second, .val (.long q3), .second, .val (.int p4), .val (.long v9), .second, .val (.long v11), .second, .val (.ref o38), .val (.int v14), .val (.int v15), .val (.long v16), .second, .val (.long v18), .second, .val (.int u0), .unset, .unset, .unset] [(.int (ov_f v11 w3))]))
    refine own_st (fun _ k => XS.iconst X73.here hx rfl (hb hby lw_d160) k) ?_
    show own_Dn p e below s _ _ _ (T73.setTop (mkF m 161 #[.val (.long q0), .second, .val (.long q1), .second, .val (.long q2), .second, .val (.long q3), .second, .val (.int p4), .val (.long v9), .second, .val (.long v11), .second, .val (.ref o38), .val (.int v14), .val (.int v15), .val (.long v16), .second, .val (.long v18), .second, .val (.int u0), .unset, .unset, .unset] [(.int (0 : Int32)), (.int (ov_f v11 w3))]))
    by_cases hc75 : (ov_f v11 w3) = (0 : Int32)
    · refine own_st (fun _ k => XS.icmpNo X73.here hx rfl (hb hby lw_d161) rfl (teq hc75).2 k) ?_
      show own_Dn p e below s _ _ _ (T73.setTop (mkF m 164 #[.val (.long q0), .second, .val (.long q1), .second, .val (.long q2), .second, .val (.long q3), .second, .val (.int p4), .val (.long v9), .second, .val (.long v11), .second, .val (.ref o38), .val (.int v14), .val (.int v15), .val (.long v16), .second, .val (.long v18), .second, .val (.int u0), .unset, .unset, .unset] []))
      refine own_st (fun _ k => XS.iconst X73.here hx rfl (hb hby lw_d164) (XS.goto X73.here hx rfl (pc0 := 165) (pc' := 169) rfl (hb hby lw_d165) (by decide) (by decide) k)) ?_
      show own_Dn p e below s _ _ _ (T73.setTop (mkF m 169 #[.val (.long q0), .second, .val (.long q1), .second, .val (.long q2), .second, .val (.long q3), .second, .val (.int p4), .val (.long v9), .second, .val (.long v11), .second, .val (.ref o38), .val (.int v14), .val (.int v15), .val (.long v16), .second, .val (.long v18), .second, .val (.int u0), .unset, .unset, .unset] [(.int (1 : Int32))]))
      exact lw_c169 C0 X73 e73 N73 (v9) (v11) (v14) (v15) (v16) (v18) (u0) ((1 : Int32)) (w2) (w3) Z0 P1 P2 P3 kn0 (by rw [hr0, lw_f138, if_pos hc74, if_pos hc75])
    · refine own_st (fun _ k => XS.icmpYes X73.here hx rfl (pc0 := 161) (pc' := 168) rfl (hb hby lw_d161) rfl (feq hc75).2 (by decide) (by decide) k) ?_
      show own_Dn p e below s _ _ _ (T73.setTop (mkF m 168 #[.val (.long q0), .second, .val (.long q1), .second, .val (.long q2), .second, .val (.long q3), .second, .val (.int p4), .val (.long v9), .second, .val (.long v11), .second, .val (.ref o38), .val (.int v14), .val (.int v15), .val (.long v16), .second, .val (.long v18), .second, .val (.int u0), .unset, .unset, .unset] []))
      refine own_st (fun _ k => XS.iconst X73.here hx rfl (hb hby lw_d168) k) ?_
      show own_Dn p e below s _ _ _ (T73.setTop (mkF m 169 #[.val (.long q0), .second, .val (.long q1), .second, .val (.long q2), .second, .val (.long q3), .second, .val (.int p4), .val (.long v9), .second, .val (.long v11), .second, .val (.ref o38), .val (.int v14), .val (.int v15), .val (.long v16), .second, .val (.long v18), .second, .val (.int u0), .unset, .unset, .unset] [(.int (0 : Int32))]))
      exact lw_c169 C0 X73 e73 N73 (v9) (v11) (v14) (v15) (v16) (v18) (u0) ((0 : Int32)) (w2) (w3) Z0 P1 P2 P3 kn0 (by rw [hr0, lw_f138, if_pos hc74, if_neg hc75])
  · refine own_st (fun _ k => XS.ifNo X73.here hx rfl (hb hby lw_d153) rfl (own_jfeq hc74).1 k) ?_
    show own_Dn p e below s _ _ _ (T73.setTop (mkF m 156 #[.val (.long q0), .second, .val (.long q1), .second, .val (.long q2), .second, .val (.long q3), .second, .val (.int p4), .val (.long v9), .second, .val (.long v11), .second, .val (.ref o38), .val (.int v14), .val (.int v15), .val (.long v16), .second, .val (.long v18), .second, .val (.int u0), .unset, .unset, .unset] [(.int (ov_f v11 w3))]))
    refine own_st (fun _ k => XS.iconst X73.here hx rfl (hb hby lw_d156) (XS.goto X73.here hx rfl (pc0 := 157) (pc' := 161) rfl (hb hby lw_d157) (by decide) (by decide) k)) ?_
    show own_Dn p e below s _ _ _ (T73.setTop (mkF m 161 #[.val (.long q0), .second, .val (.long q1), .second, .val (.long q2), .second, .val (.long q3), .second, .val (.int p4), .val (.long v9), .second, .val (.long v11), .second, .val (.ref o38), .val (.int v14), .val (.int v15), .val (.long v16), .second, .val (.long v18), .second, .val (.int u0), .unset, .unset, .unset] [(.int (1 : Int32)), (.int (ov_f v11 w3))]))
    by_cases hc76 : (ov_f v11 w3) = (1 : Int32)
    · refine own_st (fun _ k => XS.icmpNo X73.here hx rfl (hb hby lw_d161) rfl (teq hc76).2 k) ?_
      show own_Dn p e below s _ _ _ (T73.setTop (mkF m 164 #[.val (.long q0), .second, .val (.long q1), .second, .val (.long q2), .second, .val (.long q3), .second, .val (.int p4), .val (.long v9), .second, .val (.long v11), .second, .val (.ref o38), .val (.int v14), .val (.int v15), .val (.long v16), .second, .val (.long v18), .second, .val (.int u0), .unset, .unset, .unset] []))
      refine own_st (fun _ k => XS.iconst X73.here hx rfl (hb hby lw_d164) (XS.goto X73.here hx rfl (pc0 := 165) (pc' := 169) rfl (hb hby lw_d165) (by decide) (by decide) k)) ?_
      show own_Dn p e below s _ _ _ (T73.setTop (mkF m 169 #[.val (.long q0), .second, .val (.long q1), .second, .val (.long q2), .second, .val (.long q3), .second, .val (.int p4), .val (.long v9), .second, .val (.long v11), .second, .val (.ref o38), .val (.int v14), .val (.int v15), .val (.long v16), .second, .val (.long v18), .second, .val (.int u0), .unset, .unset, .unset] [(.int (1 : Int32))]))
      exact lw_c169 C0 X73 e73 N73 (v9) (v11) (v14) (v15) (v16) (v18) (u0) ((1 : Int32)) (w2) (w3) Z0 P1 P2 P3 kn0 (by rw [hr0, lw_f138, if_neg hc74, if_pos hc76])
    · refine own_st (fun _ k => XS.icmpYes X73.here hx rfl (pc0 := 161) (pc' := 168) rfl (hb hby lw_d161) rfl (feq hc76).2 (by decide) (by decide) k) ?_
      show own_Dn p e below s _ _ _ (T73.setTop (mkF m 168 #[.val (.long q0), .second, .val (.long q1), .second, .val (.long q2), .second, .val (.long q3), .second, .val (.int p4), .val (.long v9), .second, .val (.long v11), .second, .val (.ref o38), .val (.int v14), .val (.int v15), .val (.long v16), .second, .val (.long v18), .second, .val (.int u0), .unset, .unset, .unset] []))
      refine own_st (fun _ k => XS.iconst X73.here hx rfl (hb hby lw_d168) k) ?_
      show own_Dn p e below s _ _ _ (T73.setTop (mkF m 169 #[.val (.long q0), .second, .val (.long q1), .second, .val (.long q2), .second, .val (.long q3), .second, .val (.int p4), .val (.long v9), .second, .val (.long v11), .second, .val (.ref o38), .val (.int v14), .val (.int v15), .val (.long v16), .second, .val (.long v18), .second, .val (.int u0), .unset, .unset, .unset] [(.int (0 : Int32))]))
      exact lw_c169 C0 X73 e73 N73 (v9) (v11) (v14) (v15) (v16) (v18) (u0) ((0 : Int32)) (w2) (w3) Z0 P1 P2 P3 kn0 (by rw [hr0, lw_f138, if_neg hc74, if_neg hc76])
def lw_f93 (q0 : Int64) (q1 : Int64) (q2 : Int64) (q3 : Int64) (p4 : Int32) (v9 : Int64) (v11 : Int64) (v14 : Int32) (u0 : Int32) (w2 : Int64) (w3 : Int64) : Int32 :=
  if (ov_f (mn_f q2 q3) w3) = (0 : Int32) then
    lw_f138 q0 q1 q2 q3 p4 (v9) (v11) (v14) (u0) ((mn_f q2 q3)) ((mx_f q2 q3)) ((1 : Int32)) (w2) (w3)
  else
    if (ov_f (mx_f q2 q3) w3) = (0 : Int32) then
      lw_f138 q0 q1 q2 q3 p4 (v9) (v11) (v14) (u0) ((mn_f q2 q3)) ((mx_f q2 q3)) ((0 : Int32)) (w2) (w3)
    else
      lw_f138 q0 q1 q2 q3 p4 (v9) (v11) (v14) (u0) ((mn_f q2 q3)) ((mx_f q2 q3)) ((1 : Int32)) (w2) (w3)
set_option maxRecDepth 65536 in
set_option maxHeartbeats 40000000 in
theorem lw_c93 {l : Launch} {Z : State} {a0 : Array Value} {q0 : Int64} {q1 : Int64} {q2 : Int64} {q3 : Int64} {p4 : Int32} {h0 : Heap} {n0 : Nat} {p : Program} {e : Env} {s : State} {m : MethodId} {args : Array Value} {below : List Frame} {meth : Method} {c : Code} {T0 : State} {locs : List Loc} {o38 : Addr} {r0 : Int32} (C0 : own_Cx p s m meth c Z a0 code 24 "com/example/tally_flows/tallyflows/charging/TimeWindowIsOverAtPinLaw" "law" (some .boolean)) (X0 : Stand p l e room_1 s m args below meth c T0 locs 1 2) (e0 : T0.heap = h0) (N0 : Fr n0 locs) (v9 : Int64) (v11 : Int64) (v14 : Int32) (u0 : Int32) (w2 : Int64) (w3 : Int64) (Z0 : n0 ≤ h0.size) (P1 : Exa Z h0 o38 "com/example/tally_flows/tallyflows/charging/TimeWindow") (P2 : Fld Z h0 o38 "com/example/tally_flows/tallyflows/charging/TimeWindow" "start" "J" (.long w2)) (P3 : Fld Z h0 o38 "com/example/tally_flows/tallyflows/charging/TimeWindow" "end" "J" (.long w3)) (kn0 : n0 ≤ o38) (hr0 : r0 = lw_f93 q0 q1 q2 q3 p4 v9 v11 v14 u0 w2 w3) :
    own_Dn p e below s (own_QL (some (.int r0)) n0) room_1.cells room_1.slots (T0.setTop (mkF m 93 #[.val (.long q0), .second, .val (.long q1), .second, .val (.long q2), .second, .val (.long q3), .second, .val (.int p4), .val (.long v9), .second, .val (.long v11), .second, .val (.ref o38), .val (.int v14), .unset, .unset, .unset, .unset, .unset, .unset, .unset, .unset, .unset] [(.int u0)])) := by
  obtain ⟨hx, hZ, hw, hby, hml, hown, hret, hlk, hnm⟩ := id C0
  refine own_st (fun _ k => XS.istore X0.here hx rfl (hb hby lw_d93) rfl (l' := #[.val (.long q0), .second, .val (.long q1), .second, .val (.long q2), .second, .val (.long q3), .second, .val (.int p4), .val (.long v9), .second, .val (.long v11), .second, .val (.ref o38), .val (.int v14), .val (.int u0), .unset, .unset, .unset, .unset, .unset, .unset, .unset, .unset]) rfl (XS.lload X0.here hx rfl (hb hby lw_d95) rfl (XS.lload X0.here hx rfl (hb hby lw_d97) rfl k))) ?_
  show own_Dn p e below s _ _ _ (T0.setTop (mkF m 99 #[.val (.long q0), .second, .val (.long q1), .second, .val (.long q2), .second, .val (.long q3), .second, .val (.int p4), .val (.long v9), .second, .val (.long v11), .second, .val (.ref o38), .val (.int v14), .val (.int u0), .unset, .unset, .unset, .unset, .unset, .unset, .unset, .unset] [(.long q3), (.long q2)]))
  obtain ⟨_, _, ⟨T67, L67, k67, n67⟩, -, X67, ⟨Lc67, hQ67, l67, y67, z67⟩, st67⟩ := Jvm.LawKit.callS X0 hx (y := (⟨"java/lang/Math", "min", "(JJ)J"⟩ : MethodName)) hown (mvT hZ (hw _ (List.mem_of_getElem? (i := 0) rfl))) (mvT hZ (hw _ (List.mem_of_getElem? (i := 1) rfl))) (mvT hZ (hw _ (List.mem_of_getElem? (i := 2) rfl))) (mvT hZ (hw _ (List.mem_of_getElem? (i := 3) rfl))) (by decide) (backOf (W := 0) (mn_rm l Z a0 hw [] (q2) (q3) h0 n0) hZ (hw _ (List.mem_of_getElem? (i := 3) rfl)) (hw _ (List.mem_of_getElem? (i := 2) rfl)) (by decide) (by decide)) (g := (mkF m 99 #[.val (.long q0), .second, .val (.long q1), .second, .val (.long q2), .second, .val (.long q3), .second, .val (.int p4), .val (.long v9), .second, .val (.long v11), .second, .val (.ref o38), .val (.int v14), .val (.int u0), .unset, .unset, .unset, .unset, .unset, .unset, .unset, .unset] [(.long q3), (.long q2)])) rfl (by rw [hml]; rfl) (argsL := [(.long q2), (.long q3)]) (rest := []) (lenOf own_pd0 rfl) rfl (by show 2 * 0 + _ ≤ _; exact Nat.le_of_eq rfl) (hb hby lw_d99) (fun _ _ => ⟨rfl, e0, (by decide : 1 + 0 ≤ _), (by decide : 2 + 0 ≤ _)⟩)
  dsimp only [Pt.U, Pt.locs, Pt.cells, Pt.slots] at X67 l67 y67 z67 st67 hQ67
  subst l67 y67 z67
  obtain ⟨rfl, N67q, e67⟩ := hQ67
  have N67 := Fr.app N0 N67q
  refine own_st st67 ?_
  show own_Dn p e below s _ _ _ (T67.setTop (mkF m 102 #[.val (.long q0), .second, .val (.long q1), .second, .val (.long q2), .second, .val (.long q3), .second, .val (.int p4), .val (.long v9), .second, .val (.long v11), .second, .val (.ref o38), .val (.int v14), .val (.int u0), .unset, .unset, .unset, .unset, .unset, .unset, .unset, .unset] [(.long (mn_f q2 q3))]))
  refine own_st (fun _ k => XS.lstore X67.here hx rfl (hb hby lw_d102) rfl (l' := #[.val (.long q0), .second, .val (.long q1), .second, .val (.long q2), .second, .val (.long q3), .second, .val (.int p4), .val (.long v9), .second, .val (.long v11), .second, .val (.ref o38), .val (.int v14), .val (.int u0), .val (.long (mn_f q2 q3)), .second, .unset, .unset, .unset, .unset, .unset, .unset]) rfl (XS.lload X67.here hx rfl (hb hby lw_d104) rfl (XS.lload X67.here hx rfl (hb hby lw_d106) rfl k))) ?_
  show own_Dn p e below s _ _ _ (T67.setTop (mkF m 108 #[.val (.long q0), .second, .val (.long q1), .second, .val (.long q2), .second, .val (.long q3), .second, .val (.int p4), .val (.long v9), .second, .val (.long v11), .second, .val (.ref o38), .val (.int v14), .val (.int u0), .val (.long (mn_f q2 q3)), .second, .unset, .unset, .unset, .unset, .unset, .unset] [(.long q3), (.long q2)]))
  obtain ⟨_, _, ⟨T68, L68, k68, n68⟩, -, X68, ⟨Lc68, hQ68, l68, y68, z68⟩, st68⟩ := Jvm.LawKit.callS X67 hx (y := (⟨"java/lang/Math", "max", "(JJ)J"⟩ : MethodName)) hown (mvT hZ (hw _ (List.mem_of_getElem? (i := 4) rfl))) (mvT hZ (hw _ (List.mem_of_getElem? (i := 5) rfl))) (mvT hZ (hw _ (List.mem_of_getElem? (i := 2) rfl))) (mvT hZ (hw _ (List.mem_of_getElem? (i := 6) rfl))) (by decide) (backOf (W := 0) (mx_rm l Z a0 hw [] (q2) (q3) h0 n0) hZ (hw _ (List.mem_of_getElem? (i := 6) rfl)) (hw _ (List.mem_of_getElem? (i := 2) rfl)) (by decide) (by decide)) (g := (mkF m 108 #[.val (.long q0), .second, .val (.long q1), .second, .val (.long q2), .second, .val (.long q3), .second, .val (.int p4), .val (.long v9), .second, .val (.long v11), .second, .val (.ref o38), .val (.int v14), .val (.int u0), .val (.long (mn_f q2 q3)), .second, .unset, .unset, .unset, .unset, .unset, .unset] [(.long q3), (.long q2)])) rfl (by rw [hml]; rfl) (argsL := [(.long q2), (.long q3)]) (rest := []) (lenOf own_pd0 rfl) rfl (by show 2 * 0 + _ ≤ _; exact Nat.le_of_eq rfl) (hb hby lw_d108) (fun _ _ => ⟨rfl, e67, (by decide : 1 + 0 ≤ _), (by decide : 2 + 0 ≤ _)⟩)
  dsimp only [Pt.U, Pt.locs, Pt.cells, Pt.slots] at X68 l68 y68 z68 st68 hQ68
  subst l68 y68 z68
  obtain ⟨rfl, N68q, e68⟩ := hQ68
  have N68 := Fr.app N67 N68q
  refine own_st st68 ?_
  show own_Dn p e below s _ _ _ (T68.setTop (mkF m 111 #[.val (.long q0), .second, .val (.long q1), .second, .val (.long q2), .second, .val (.long q3), .second, .val (.int p4), .val (.long v9), .second, .val (.long v11), .second, .val (.ref o38), .val (.int v14), .val (.int u0), .val (.long (mn_f q2 q3)), .second, .unset, .unset, .unset, .unset, .unset, .unset] [(.long (mx_f q2 q3))]))
  refine own_st (fun _ k => XS.lstore X68.here hx rfl (hb hby lw_d111) rfl (l' := #[.val (.long q0), .second, .val (.long q1), .second, .val (.long q2), .second, .val (.long q3), .second, .val (.int p4), .val (.long v9), .second, .val (.long v11), .second, .val (.ref o38), .val (.int v14), .val (.int u0), .val (.long (mn_f q2 q3)), .second, .val (.long (mx_f q2 q3)), .second, .unset, .unset, .unset, .unset]) rfl (XS.aload X68.here hx rfl (hb hby lw_d113) rfl rfl (XS.lload X68.here hx rfl (hb hby lw_d115) rfl k))) ?_
  show own_Dn p e below s _ _ _ (T68.setTop (mkF m 117 #[.val (.long q0), .second, .val (.long q1), .second, .val (.long q2), .second, .val (.long q3), .second, .val (.int p4), .val (.long v9), .second, .val (.long v11), .second, .val (.ref o38), .val (.int v14), .val (.int u0), .val (.long (mn_f q2 q3)), .second, .val (.long (mx_f q2 q3)), .second, .unset, .unset, .unset, .unset] [(.long (mn_f q2 q3)), (.ref o38)]))
  obtain ⟨cq69, kq69, q69a, q69b, q69c⟩ := isOf hZ e68 P1
  obtain ⟨_, _, ⟨T69, L69, k69, n69⟩, -, X69, ⟨Lc69, hQ69, l69, y69, z69⟩, st69⟩ := X68.virtualBack hx (y := (⟨"com/example/tally_flows/tallyflows/charging/TimeWindow", "isOverAt", "(J)Z"⟩ : MethodName)) (z := (⟨"com/example/tally_flows/tallyflows/charging/TimeWindow", "isOverAt", "(J)Z"⟩ : MethodName)) hown (mvT hZ (hw _ (List.mem_of_getElem? (i := 22) rfl))) (mvT hZ (hw _ (List.mem_of_getElem? (i := 23) rfl))) (notFace_of_selects (args := #[]) (mvT hZ (hw _ (List.mem_of_getElem? (i := 25) rfl)))) (mvT hZ (hw _ (List.mem_of_getElem? (i := 25) rfl))) (mvT hZ (hw _ (List.mem_of_getElem? (i := 24) rfl))) (by decide) (backOf (W := 0) (ov_rm l Z a0 hw [] (o38) ((mn_f q2 q3)) (w3) h0 n0 Z0 P3) hZ (hw _ (List.mem_of_getElem? (i := 26) rfl)) (hw _ (List.mem_of_getElem? (i := 11) rfl)) (by decide) (by decide)) q69a q69c (g := (mkF m 117 #[.val (.long q0), .second, .val (.long q1), .second, .val (.long q2), .second, .val (.long q3), .second, .val (.int p4), .val (.long v9), .second, .val (.long v11), .second, .val (.ref o38), .val (.int v14), .val (.int u0), .val (.long (mn_f q2 q3)), .second, .val (.long (mx_f q2 q3)), .second, .unset, .unset, .unset, .unset] [(.long (mn_f q2 q3)), (.ref o38)])) rfl (by rw [hml]; rfl) (Steps.refl _) (argsL := [(.long (mn_f q2 q3))]) (rest := []) (lenOf own_pd2 rfl) rfl (by show 2 * 0 + _ ≤ _; exact Nat.le_of_eq rfl) (hb hby lw_d117) (fun _ _ => ⟨rfl, e68, (by decide : 1 + 0 ≤ _), (by decide : 2 + 0 ≤ _)⟩)
  dsimp only [Pt.U, Pt.locs, Pt.cells, Pt.slots] at X69 l69 y69 z69 st69 hQ69
  subst l69 y69 z69
  obtain ⟨rfl, N69q, e69⟩ := hQ69
  have N69 := Fr.app N68 N69q
  refine own_tr st69 ?_
  show own_Dn p e below s _ _ _ (T69.setTop (mkF m 120 #[.val (.long q0), .second, .val (.long q1), .second, .val (.long q2), .second, .val (.long q3), .second, .val (.int p4), .val (.long v9), .second, .val (.long v11), .second, .val (.ref o38), .val (.int v14), .val (.int u0), .val (.long (mn_f q2 q3)), .second, .val (.long (mx_f q2 q3)), .second, .unset, .unset, .unset, .unset] [(.int (ov_f (mn_f q2 q3) w3))]))
  by_cases hc70 : (ov_f (mn_f q2 q3) w3) = (0 : Int32)
  · refine own_st (fun _ k => XS.ifYes X69.here hx rfl (pc0 := 120) (pc' := 133) rfl (hb hby lw_d120) rfl ((if0 _ _).trans (teq hc70).1) (by decide) (by decide) k) ?_
    show own_Dn p e below s _ _ _ (T69.setTop (mkF m 133 #[.val (.long q0), .second, .val (.long q1), .second, .val (.long q2), .second, .val (.long q3), .second, .val (.int p4), .val (.long v9), .second, .val (.long v11), .second, .val (.ref o38), .val (.int v14), .val (.int u0), .val (.long (mn_f q2 q3)), .second, .val (.long (mx_f q2 q3)), .second, .unset, .unset, .unset, .unset] []))
    refine own_st (fun _ k => XS.iconst X69.here hx rfl (hb hby lw_d133) (XS.goto X69.here hx rfl (pc0 := 134) (pc' := 138) rfl (hb hby lw_d134) (by decide) (by decide) k)) ?_
    show own_Dn p e below s _ _ _ (T69.setTop (mkF m 138 #[.val (.long q0), .second, .val (.long q1), .second, .val (.long q2), .second, .val (.long q3), .second, .val (.int p4), .val (.long v9), .second, .val (.long v11), .second, .val (.ref o38), .val (.int v14), .val (.int u0), .val (.long (mn_f q2 q3)), .second, .val (.long (mx_f q2 q3)), .second, .unset, .unset, .unset, .unset] [(.int (1 : Int32))]))
    exact lw_c138 C0 X69 e69 N69 (v9) (v11) (v14) (u0) ((mn_f q2 q3)) ((mx_f q2 q3)) ((1 : Int32)) (w2) (w3) Z0 P1 P2 P3 kn0 (by rw [hr0, lw_f93, if_pos hc70])
  · refine own_st (fun _ k => XS.ifNo X69.here hx rfl (hb hby lw_d120) rfl ((if0 _ _).trans (feq hc70).1) k) ?_
    show own_Dn p e below s _ _ _ (T69.setTop (mkF m 123 #[.val (.long q0), .second, .val (.long q1), .second, .val (.long q2), .second, .val (.long q3), .second, .val (.int p4), .val (.long v9), .second, .val (.long v11), .second, .val (.ref o38), .val (.int v14), .val (.int u0), .val (.long (mn_f q2 q3)), .second, .val (.long (mx_f q2 q3)), .second, .unset, .unset, .unset, .unset] []))
    refine own_st (fun _ k => XS.aload X69.here hx rfl (hb hby lw_d123) rfl rfl (XS.lload X69.here hx rfl (hb hby lw_d125) rfl k)) ?_
    show own_Dn p e below s _ _ _ (T69.setTop (mkF m 127 #[.val (.long q0), .second, .val (.long q1), .second, .val (.long q2), .second, .val (.long q3), .second, .val (.int p4), .val (.long v9), .second, .val (.long v11), .second, .val (.ref o38), .val (.int v14), .val (.int u0), .val (.long (mn_f q2 q3)), .second, .val (.long (mx_f q2 q3)), .second, .unset, .unset, .unset, .unset] [(.long (mx_f q2 q3)), (.ref o38)]))
    obtain ⟨cq71, kq71, q71a, q71b, q71c⟩ := isOf hZ e69 P1
    obtain ⟨_, _, ⟨T71, L71, k71, n71⟩, -, X71, ⟨Lc71, hQ71, l71, y71, z71⟩, st71⟩ := X69.virtualBack hx (y := (⟨"com/example/tally_flows/tallyflows/charging/TimeWindow", "isOverAt", "(J)Z"⟩ : MethodName)) (z := (⟨"com/example/tally_flows/tallyflows/charging/TimeWindow", "isOverAt", "(J)Z"⟩ : MethodName)) hown (mvT hZ (hw _ (List.mem_of_getElem? (i := 22) rfl))) (mvT hZ (hw _ (List.mem_of_getElem? (i := 23) rfl))) (notFace_of_selects (args := #[]) (mvT hZ (hw _ (List.mem_of_getElem? (i := 25) rfl)))) (mvT hZ (hw _ (List.mem_of_getElem? (i := 25) rfl))) (mvT hZ (hw _ (List.mem_of_getElem? (i := 24) rfl))) (by decide) (backOf (W := 0) (ov_rm l Z a0 hw [] (o38) ((mx_f q2 q3)) (w3) h0 n0 Z0 P3) hZ (hw _ (List.mem_of_getElem? (i := 26) rfl)) (hw _ (List.mem_of_getElem? (i := 11) rfl)) (by decide) (by decide)) q71a q71c (g := (mkF m 127 #[.val (.long q0), .second, .val (.long q1), .second, .val (.long q2), .second, .val (.long q3), .second, .val (.int p4), .val (.long v9), .second, .val (.long v11), .second, .val (.ref o38), .val (.int v14), .val (.int u0), .val (.long (mn_f q2 q3)), .second, .val (.long (mx_f q2 q3)), .second, .unset, .unset, .unset, .unset] [(.long (mx_f q2 q3)), (.ref o38)])) rfl (by rw [hml]; rfl) (Steps.refl _) (argsL := [(.long (mx_f q2 q3))]) (rest := []) (lenOf own_pd2 rfl) rfl (by show 2 * 0 + _ ≤ _; exact Nat.le_of_eq rfl) (hb hby lw_d127) (fun _ _ => ⟨rfl, e69, (by decide : 1 + 0 ≤ _), (by decide : 2 + 0 ≤ _)⟩)
    dsimp only [Pt.U, Pt.locs, Pt.cells, Pt.slots] at X71 l71 y71 z71 st71 hQ71
    subst l71 y71 z71
    obtain ⟨rfl, N71q, e71⟩ := hQ71
    have N71 := Fr.app N69 N71q
    refine own_tr st71 ?_
    show own_Dn p e below s _ _ _ (T71.setTop (mkF m 130 #[.val (.long q0), .second, .val (.long q1), .second, .val (.long q2), .second, .val (.long q3), .second, .val (.int p4), .val (.long v9), .second, .val (.long v11), .second, .val (.ref o38), .val (.int v14), .val (.int u0), .val (.long (mn_f q2 q3)), .second, .val (.long (mx_f q2 q3)), .second, .unset, .unset, .unset, .unset] [(.int (ov_f (mx_f q2 q3) w3))]))
    by_cases hc72 : (ov_f (mx_f q2 q3) w3) = (0 : Int32)
    · refine own_st (fun _ k => XS.ifYes X71.here hx rfl (pc0 := 130) (pc' := 137) rfl (hb hby lw_d130) rfl ((if0 _ _).trans (teq hc72).1) (by decide) (by decide) k) ?_
      show own_Dn p e below s _ _ _ (T71.setTop (mkF m 137 #[.val (.long q0), .second, .val (.long q1), .second, .val (.long q2), .second, .val (.long q3), .second, .val (.int p4), .val (.long v9), .second, .val (.long v11), .second, .val (.ref o38), .val (.int v14), .val (.int u0), .val (.long (mn_f q2 q3)), .second, .val (.long (mx_f q2 q3)), .second, .unset, .unset, .unset, .unset] []))
      refine own_st (fun _ k => XS.iconst X71.here hx rfl (hb hby lw_d137) k) ?_
      show own_Dn p e below s _ _ _ (T71.setTop (mkF m 138 #[.val (.long q0), .second, .val (.long q1), .second, .val (.long q2), .second, .val (.long q3), .second, .val (.int p4), .val (.long v9), .second, .val (.long v11), .second, .val (.ref o38), .val (.int v14), .val (.int u0), .val (.long (mn_f q2 q3)), .second, .val (.long (mx_f q2 q3)), .second, .unset, .unset, .unset, .unset] [(.int (0 : Int32))]))
      exact lw_c138 C0 X71 e71 N71 (v9) (v11) (v14) (u0) ((mn_f q2 q3)) ((mx_f q2 q3)) ((0 : Int32)) (w2) (w3) Z0 P1 P2 P3 kn0 (by rw [hr0, lw_f93, if_neg hc70, if_pos hc72])
    · refine own_st (fun _ k => XS.ifNo X71.here hx rfl (hb hby lw_d130) rfl ((if0 _ _).trans (feq hc72).1) k) ?_
      show own_Dn p e below s _ _ _ (T71.setTop (mkF m 133 #[.val (.long q0), .second, .val (.long q1), .second, .val (.long q2), .second, .val (.long q3), .second, .val (.int p4), .val (.long v9), .second, .val (.long v11), .second, .val (.ref o38), .val (.int v14), .val (.int u0), .val (.long (mn_f q2 q3)), .second, .val (.long (mx_f q2 q3)), .second, .unset, .unset, .unset, .unset] []))
      refine own_st (fun _ k => XS.iconst X71.here hx rfl (hb hby lw_d133) (XS.goto X71.here hx rfl (pc0 := 134) (pc' := 138) rfl (hb hby lw_d134) (by decide) (by decide) k)) ?_
      show own_Dn p e below s _ _ _ (T71.setTop (mkF m 138 #[.val (.long q0), .second, .val (.long q1), .second, .val (.long q2), .second, .val (.long q3), .second, .val (.int p4), .val (.long v9), .second, .val (.long v11), .second, .val (.ref o38), .val (.int v14), .val (.int u0), .val (.long (mn_f q2 q3)), .second, .val (.long (mx_f q2 q3)), .second, .unset, .unset, .unset, .unset] [(.int (1 : Int32))]))
      exact lw_c138 C0 X71 e71 N71 (v9) (v11) (v14) (u0) ((mn_f q2 q3)) ((mx_f q2 q3)) ((1 : Int32)) (w2) (w3) Z0 P1 P2 P3 kn0 (by rw [hr0, lw_f93, if_neg hc70, if_neg hc72])
def lw_f38 (q0 : Int64) (q1 : Int64) (q2 : Int64) (q3 : Int64) (p4 : Int32) (v9 : Int64) (v11 : Int64) : Int32 :=
  if q2 < v9 then
    if (ov_f q2 v11) = (0 : Int32) then
      lw_f93 q0 q1 q2 q3 p4 (v9) (v11) ((ov_f q2 v11)) ((1 : Int32)) (v9) (v11)
    else
      lw_f93 q0 q1 q2 q3 p4 (v9) (v11) ((ov_f q2 v11)) ((0 : Int32)) (v9) (v11)
  else
    if (cn_f q2 v9 v11) = (0 : Int32) then
      if (ov_f q2 v11) = (1 : Int32) then
        lw_f93 q0 q1 q2 q3 p4 (v9) (v11) ((ov_f q2 v11)) ((1 : Int32)) (v9) (v11)
      else
        lw_f93 q0 q1 q2 q3 p4 (v9) (v11) ((ov_f q2 v11)) ((0 : Int32)) (v9) (v11)
    else
      if (ov_f q2 v11) = (0 : Int32) then
        lw_f93 q0 q1 q2 q3 p4 (v9) (v11) ((ov_f q2 v11)) ((1 : Int32)) (v9) (v11)
      else
        lw_f93 q0 q1 q2 q3 p4 (v9) (v11) ((ov_f q2 v11)) ((0 : Int32)) (v9) (v11)
set_option maxRecDepth 65536 in
set_option maxHeartbeats 40000000 in
theorem lw_c38 {l : Launch} {Z : State} {a0 : Array Value} {q0 : Int64} {q1 : Int64} {q2 : Int64} {q3 : Int64} {p4 : Int32} {h0 : Heap} {n0 : Nat} {p : Program} {e : Env} {s : State} {m : MethodId} {args : Array Value} {below : List Frame} {meth : Method} {c : Code} {T0 : State} {locs : List Loc} {r0 : Int32} (C0 : own_Cx p s m meth c Z a0 code 24 "com/example/tally_flows/tallyflows/charging/TimeWindowIsOverAtPinLaw" "law" (some .boolean)) (X0 : Stand p l e room_1 s m args below meth c T0 locs 0 0) (e0 : T0.heap = h0) (N0 : Fr n0 locs) (v9 : Int64) (v11 : Int64) (Z0 : n0 ≤ h0.size) (hr0 : r0 = lw_f38 q0 q1 q2 q3 p4 v9 v11) :
    own_Dn p e below s (own_QL (some (.int r0)) n0) room_1.cells room_1.slots (T0.setTop (mkF m 38 #[.val (.long q0), .second, .val (.long q1), .second, .val (.long q2), .second, .val (.long q3), .second, .val (.int p4), .val (.long v9), .second, .val (.long v11), .second, .unset, .unset, .unset, .unset, .unset, .unset, .unset, .unset, .unset, .unset, .unset] [])) := by
  obtain ⟨hx, hZ, hw, hby, hml, hown, hret, hlk, hnm⟩ := id C0
  obtain ⟨T49, h49, X49, e49, E49, A49, D49, -, st49⟩ := newO X0 hx hZ hown (hw _ (List.mem_of_getElem? (i := 9) rfl)) (hw _ (List.mem_of_getElem? (i := 10) rfl)) (hw _ (List.mem_of_getElem? (i := 11) rfl)) e0 (g := (mkF m 38 #[.val (.long q0), .second, .val (.long q1), .second, .val (.long q2), .second, .val (.long q3), .second, .val (.int p4), .val (.long v9), .second, .val (.long v11), .second, .unset, .unset, .unset, .unset, .unset, .unset, .unset, .unset, .unset, .unset, .unset] [])) rfl (hb hby lw_d38) (by decide) (by decide)
  obtain ⟨o38, g49⟩ : ∃ z, z = h0.size := ⟨_, rfl⟩
  rw [← g49] at A49 D49 st49
  have ge50 : n0 ≤ o38 := Nat.le_trans Z0 (Nat.le_of_eq g49.symm)
  have F51 : n0 ≤ h49.size := Nat.le_trans Z0 E49.1
  have F52 : Fld Z h49 o38 "com/example/tally_flows/tallyflows/charging/TimeWindow" "start" "J" (.long (0 : Int64)) := D49 (Or.inr (hw _ (List.mem_of_getElem? (i := 19) rfl))) (ty := .long) (by decide)
  have F53 : Fld Z h49 o38 "com/example/tally_flows/tallyflows/charging/TimeWindow" "end" "J" (.long (0 : Int64)) := D49 (Or.inr (hw _ (List.mem_of_getElem? (i := 21) rfl))) (ty := .long) (by decide)
  refine own_st st49 ?_
  show own_Dn p e below s _ _ _ (T49.setTop (mkF m 41 #[.val (.long q0), .second, .val (.long q1), .second, .val (.long q2), .second, .val (.long q3), .second, .val (.int p4), .val (.long v9), .second, .val (.long v11), .second, .unset, .unset, .unset, .unset, .unset, .unset, .unset, .unset, .unset, .unset, .unset] [(.ref o38)]))
  refine own_st (fun _ k => XS.dup X49.here hx rfl (hb hby lw_d41) rfl rfl (XS.lload X49.here hx rfl (hb hby lw_d42) rfl (XS.lload X49.here hx rfl (hb hby lw_d44) rfl k))) ?_
  show own_Dn p e below s _ _ _ (T49.setTop (mkF m 46 #[.val (.long q0), .second, .val (.long q1), .second, .val (.long q2), .second, .val (.long q3), .second, .val (.int p4), .val (.long v9), .second, .val (.long v11), .second, .unset, .unset, .unset, .unset, .unset, .unset, .unset, .unset, .unset, .unset, .unset] [(.long v11), (.long v9), (.ref o38), (.ref o38)]))
  obtain ⟨_, _, ⟨T54, L54, k54, n54⟩, -, X54, ⟨Lc54, hQ54, l54, y54, z54⟩, st54⟩ := X49.specialBack hx (y := (⟨"com/example/tally_flows/tallyflows/charging/TimeWindow", "<init>", "(JJ)V"⟩ : MethodName)) rfl hown (mvT hZ (hw _ (List.mem_of_getElem? (i := 12) rfl))) (mvT hZ (hw _ (List.mem_of_getElem? (i := 13) rfl))) (mvT hZ (hw _ (List.mem_of_getElem? (i := 14) rfl))) (by decide) (backOf (W := 1) (ti_rm l Z a0 hw [] (o38) (v9) (v11) h49 n0 F51 A49 F52 F53 ge50) hZ (hw _ (List.mem_of_getElem? (i := 14) rfl)) (hw _ (List.mem_of_getElem? (i := 11) rfl)) (by decide) (by decide)) (g := (mkF m 46 #[.val (.long q0), .second, .val (.long q1), .second, .val (.long q2), .second, .val (.long q3), .second, .val (.int p4), .val (.long v9), .second, .val (.long v11), .second, .unset, .unset, .unset, .unset, .unset, .unset, .unset, .unset, .unset, .unset, .unset] [(.long v11), (.long v9), (.ref o38), (.ref o38)])) rfl (by rw [hml]; rfl) (Steps.refl _) (a := o38) (argsL := [(.long v9), (.long v11)]) (rest := [(.ref o38)]) (lenOf own_pd1 rfl) rfl (by show 2 * 0 + _ ≤ _; exact Nat.le_of_eq rfl) (hb hby lw_d46) (fun _ _ => ⟨rfl, e49, (by decide : 1 + 0 ≤ _), (by decide : 2 + 0 ≤ _)⟩)
  dsimp only [Pt.U, Pt.locs, Pt.cells, Pt.slots] at X54 l54 y54 z54 st54 hQ54
  subst l54 y54 z54
  obtain ⟨rfl, N54q, K54, G55, G56, G57⟩ := hQ54
  have F58 : n0 ≤ T54.heap.size := Nat.le_trans F51 K54.1
  have F59 : Exa Z T54.heap o38 "com/example/tally_flows/tallyflows/charging/TimeWindow" := A49.keep K54
  have N54 := Fr.app N0 N54q
  refine own_tr st54 ?_
  show own_Dn p e below s _ _ _ (T54.setTop (mkF m 49 #[.val (.long q0), .second, .val (.long q1), .second, .val (.long q2), .second, .val (.long q3), .second, .val (.int p4), .val (.long v9), .second, .val (.long v11), .second, .unset, .unset, .unset, .unset, .unset, .unset, .unset, .unset, .unset, .unset, .unset] [(.ref o38)]))
  refine own_st (fun _ k => XS.astore X54.here hx rfl (hb hby lw_d49) rfl rfl (l' := #[.val (.long q0), .second, .val (.long q1), .second, .val (.long q2), .second, .val (.long q3), .second, .val (.int p4), .val (.long v9), .second, .val (.long v11), .second, .val (.ref o38), .unset, .unset, .unset, .unset, .unset, .unset, .unset, .unset, .unset, .unset]) rfl (XS.aload X54.here hx rfl (hb hby lw_d51) rfl rfl (XS.lload X54.here hx rfl (hb hby lw_d53) rfl k))) ?_
  show own_Dn p e below s _ _ _ (T54.setTop (mkF m 55 #[.val (.long q0), .second, .val (.long q1), .second, .val (.long q2), .second, .val (.long q3), .second, .val (.int p4), .val (.long v9), .second, .val (.long v11), .second, .val (.ref o38), .unset, .unset, .unset, .unset, .unset, .unset, .unset, .unset, .unset, .unset] [(.long q2), (.ref o38)]))
  obtain ⟨cq60, kq60, q60a, q60b, q60c⟩ := isOf hZ rfl G55
  obtain ⟨_, _, ⟨T60, L60, k60, n60⟩, -, X60, ⟨Lc60, hQ60, l60, y60, z60⟩, st60⟩ := X54.virtualBack hx (y := (⟨"com/example/tally_flows/tallyflows/charging/TimeWindow", "isOverAt", "(J)Z"⟩ : MethodName)) (z := (⟨"com/example/tally_flows/tallyflows/charging/TimeWindow", "isOverAt", "(J)Z"⟩ : MethodName)) hown (mvT hZ (hw _ (List.mem_of_getElem? (i := 22) rfl))) (mvT hZ (hw _ (List.mem_of_getElem? (i := 23) rfl))) (notFace_of_selects (args := #[]) (mvT hZ (hw _ (List.mem_of_getElem? (i := 25) rfl)))) (mvT hZ (hw _ (List.mem_of_getElem? (i := 25) rfl))) (mvT hZ (hw _ (List.mem_of_getElem? (i := 24) rfl))) (by decide) (backOf (W := 0) (ov_rm l Z a0 hw [] (o38) (q2) (v11) T54.heap n0 F58 G57) hZ (hw _ (List.mem_of_getElem? (i := 26) rfl)) (hw _ (List.mem_of_getElem? (i := 11) rfl)) (by decide) (by decide)) q60a q60c (g := (mkF m 55 #[.val (.long q0), .second, .val (.long q1), .second, .val (.long q2), .second, .val (.long q3), .second, .val (.int p4), .val (.long v9), .second, .val (.long v11), .second, .val (.ref o38), .unset, .unset, .unset, .unset, .unset, .unset, .unset, .unset, .unset, .unset] [(.long q2), (.ref o38)])) rfl (by rw [hml]; rfl) (Steps.refl _) (argsL := [(.long q2)]) (rest := []) (lenOf own_pd2 rfl) rfl (by show 2 * 0 + _ ≤ _; exact Nat.le_of_eq rfl) (hb hby lw_d55) (fun _ _ => ⟨rfl, rfl, (by decide : 1 + 0 ≤ _), (by decide : 2 + 0 ≤ _)⟩)
  dsimp only [Pt.U, Pt.locs, Pt.cells, Pt.slots] at X60 l60 y60 z60 st60 hQ60
  subst l60 y60 z60
  obtain ⟨rfl, N60q, e60⟩ := hQ60
  have N60 := Fr.app N54 N60q
  refine own_tr st60 ?_
  show own_Dn p e below s _ _ _ (T60.setTop (mkF m 58 #[.val (.long q0), .second, .val (.long q1), .second, .val (.long q2), .second, .val (.long q3), .second, .val (.int p4), .val (.long v9), .second, .val (.long v11), .second, .val (.ref o38), .unset, .unset, .unset, .unset, .unset, .unset, .unset, .unset, .unset, .unset] [(.int (ov_f q2 v11))]))
  refine own_st (fun _ k => XS.istore X60.here hx rfl (hb hby lw_d58) rfl (l' := #[.val (.long q0), .second, .val (.long q1), .second, .val (.long q2), .second, .val (.long q3), .second, .val (.int p4), .val (.long v9), .second, .val (.long v11), .second, .val (.ref o38), .val (.int (ov_f q2 v11)), .unset, .unset, .unset, .unset, .unset, .unset, .unset, .unset, .unset]) rfl (XS.iload X60.here hx rfl (hb hby lw_d60) rfl (XS.lload X60.here hx rfl (hb hby lw_d62) rfl (XS.lload X60.here hx rfl (hb hby lw_d64) rfl (XS.lcmp X60.here hx rfl (hb hby lw_d66) rfl k))))) ?_
  show own_Dn p e below s _ _ _ (T60.setTop (mkF m 67 #[.val (.long q0), .second, .val (.long q1), .second, .val (.long q2), .second, .val (.long q3), .second, .val (.int p4), .val (.long v9), .second, .val (.long v11), .second, .val (.ref o38), .val (.int (ov_f q2 v11)), .unset, .unset, .unset, .unset, .unset, .unset, .unset, .unset, .unset] [(.int (lcmpW v9 q2)), (.int (ov_f q2 v11))]))
  by_cases hc61 : q2 < v9
  · refine own_st (fun _ k => XS.ifYes X60.here hx rfl (pc0 := 67) (pc' := 84) rfl (hb hby lw_d67) rfl (own_jtlt hc61).2.2.1 (by decide) (by decide) k) ?_
    show own_Dn p e below s _ _ _ (T60.setTop (mkF m 84 #[.val (.long q0), .second, .val (.long q1), .second, .val (.long q2), .second, .val (.long q3), .second, .val (.int p4), .val (.long v9), .second, .val (.long v11), .second, .val (.ref o38), .val (.int (ov_f q2 v11)), .unset, .unset, .unset, .unset, .unset, .unset, .unset, .unset, .unset] [(.int (ov_f q2 v11))]))
    refine own_st (fun _ k => XS.iconst X60.here hx rfl (hb hby lw_d84) k) ?_
    show own_Dn p e below s _ _ _ (T60.setTop (mkF m 85 #[.val (.long q0), .second, .val (.long q1), .second, .val (.long q2), .second, .val (.long q3), .second, .val (.int p4), .val (.long v9), .second, .val (.long v11), .second, .val (.ref o38), .val (.int (ov_f q2 v11)), .unset, .unset, .unset, .unset, .unset, .unset, .unset, .unset, .unset] [(.int (0 : Int32)), (.int (ov_f q2 v11))]))
    by_cases hc62 : (ov_f q2 v11) = (0 : Int32)
    · refine own_st (fun _ k => XS.icmpNo X60.here hx rfl (hb hby lw_d85) rfl (teq hc62).2 k) ?_
      show own_Dn p e below s _ _ _ (T60.setTop (mkF m 88 #[.val (.long q0), .second, .val (.long q1), .second, .val (.long q2), .second, .val (.long q3), .second, .val (.int p4), .val (.long v9), .second, .val (.long v11), .second, .val (.ref o38), .val (.int (ov_f q2 v11)), .unset, .unset, .unset, .unset, .unset, .unset, .unset, .unset, .unset] []))
      refine own_st (fun _ k => XS.iconst X60.here hx rfl (hb hby lw_d88) (XS.goto X60.here hx rfl (pc0 := 89) (pc' := 93) rfl (hb hby lw_d89) (by decide) (by decide) k)) ?_
      show own_Dn p e below s _ _ _ (T60.setTop (mkF m 93 #[.val (.long q0), .second, .val (.long q1), .second, .val (.long q2), .second, .val (.long q3), .second, .val (.int p4), .val (.long v9), .second, .val (.long v11), .second, .val (.ref o38), .val (.int (ov_f q2 v11)), .unset, .unset, .unset, .unset, .unset, .unset, .unset, .unset, .unset] [(.int (1 : Int32))]))
      exact lw_c93 C0 X60 e60 N60 (v9) (v11) ((ov_f q2 v11)) ((1 : Int32)) (v9) (v11) F58 G55 G56 G57 ge50 (by rw [hr0, lw_f38, if_pos hc61, if_pos hc62])
    · refine own_st (fun _ k => XS.icmpYes X60.here hx rfl (pc0 := 85) (pc' := 92) rfl (hb hby lw_d85) rfl (feq hc62).2 (by decide) (by decide) k) ?_
      show own_Dn p e below s _ _ _ (T60.setTop (mkF m 92 #[.val (.long q0), .second, .val (.long q1), .second, .val (.long q2), .second, .val (.long q3), .second, .val (.int p4), .val (.long v9), .second, .val (.long v11), .second, .val (.ref o38), .val (.int (ov_f q2 v11)), .unset, .unset, .unset, .unset, .unset, .unset, .unset, .unset, .unset] []))
      refine own_st (fun _ k => XS.iconst X60.here hx rfl (hb hby lw_d92) k) ?_
      show own_Dn p e below s _ _ _ (T60.setTop (mkF m 93 #[.val (.long q0), .second, .val (.long q1), .second, .val (.long q2), .second, .val (.long q3), .second, .val (.int p4), .val (.long v9), .second, .val (.long v11), .second, .val (.ref o38), .val (.int (ov_f q2 v11)), .unset, .unset, .unset, .unset, .unset, .unset, .unset, .unset, .unset] [(.int (0 : Int32))]))
      exact lw_c93 C0 X60 e60 N60 (v9) (v11) ((ov_f q2 v11)) ((0 : Int32)) (v9) (v11) F58 G55 G56 G57 ge50 (by rw [hr0, lw_f38, if_pos hc61, if_neg hc62])
  · refine own_st (fun _ k => XS.ifNo X60.here hx rfl (hb hby lw_d67) rfl (own_jflt hc61).2.2.1 k) ?_
    show own_Dn p e below s _ _ _ (T60.setTop (mkF m 70 #[.val (.long q0), .second, .val (.long q1), .second, .val (.long q2), .second, .val (.long q3), .second, .val (.int p4), .val (.long v9), .second, .val (.long v11), .second, .val (.ref o38), .val (.int (ov_f q2 v11)), .unset, .unset, .unset, .unset, .unset, .unset, .unset, .unset, .unset] [(.int (ov_f q2 v11))]))
    refine own_st (fun _ k => XS.aload X60.here hx rfl (hb hby lw_d70) rfl rfl (XS.lload X60.here hx rfl (hb hby lw_d72) rfl k)) ?_
    show own_Dn p e below s _ _ _ (T60.setTop (mkF m 74 #[.val (.long q0), .second, .val (.long q1), .second, .val (.long q2), .second, .val (.long q3), .second, .val (.int p4), .val (.long v9), .second, .val (.long v11), .second, .val (.ref o38), .val (.int (ov_f q2 v11)), .unset, .unset, .unset, .unset, .unset, .unset, .unset, .unset, .unset] [(.long q2), (.ref o38), (.int (ov_f q2 v11))]))
    obtain ⟨cq63, kq63, q63a, q63b, q63c⟩ := isOf hZ e60 G55
    obtain ⟨_, _, ⟨T63, L63, k63, n63⟩, -, X63, ⟨Lc63, hQ63, l63, y63, z63⟩, st63⟩ := X60.virtualBack hx (y := (⟨"com/example/tally_flows/tallyflows/charging/TimeWindow", "contains", "(J)Z"⟩ : MethodName)) (z := (⟨"com/example/tally_flows/tallyflows/charging/TimeWindow", "contains", "(J)Z"⟩ : MethodName)) hown (mvT hZ (hw _ (List.mem_of_getElem? (i := 28) rfl))) (mvT hZ (hw _ (List.mem_of_getElem? (i := 29) rfl))) (notFace_of_selects (args := #[]) (mvT hZ (hw _ (List.mem_of_getElem? (i := 31) rfl)))) (mvT hZ (hw _ (List.mem_of_getElem? (i := 31) rfl))) (mvT hZ (hw _ (List.mem_of_getElem? (i := 30) rfl))) (by decide) (backOf (W := 1) (cn_rm l Z a0 hw [] (o38) (q2) (v9) (v11) T54.heap n0 F58 G56 G57) hZ (hw _ (List.mem_of_getElem? (i := 32) rfl)) (hw _ (List.mem_of_getElem? (i := 11) rfl)) (by decide) (by decide)) q63a q63c (g := (mkF m 74 #[.val (.long q0), .second, .val (.long q1), .second, .val (.long q2), .second, .val (.long q3), .second, .val (.int p4), .val (.long v9), .second, .val (.long v11), .second, .val (.ref o38), .val (.int (ov_f q2 v11)), .unset, .unset, .unset, .unset, .unset, .unset, .unset, .unset, .unset] [(.long q2), (.ref o38), (.int (ov_f q2 v11))])) rfl (by rw [hml]; rfl) (Steps.refl _) (argsL := [(.long q2)]) (rest := [(.int (ov_f q2 v11))]) (lenOf own_pd2 rfl) rfl (by show 2 * 0 + _ ≤ _; exact Nat.le_of_eq rfl) (hb hby lw_d74) (fun _ _ => ⟨rfl, e60, (by decide : 1 + 0 ≤ _), (by decide : 2 + 0 ≤ _)⟩)
    dsimp only [Pt.U, Pt.locs, Pt.cells, Pt.slots] at X63 l63 y63 z63 st63 hQ63
    subst l63 y63 z63
    obtain ⟨rfl, N63q, e63⟩ := hQ63
    have N63 := Fr.app N60 N63q
    refine own_tr st63 ?_
    show own_Dn p e below s _ _ _ (T63.setTop (mkF m 77 #[.val (.long q0), .second, .val (.long q1), .second, .val (.long q2), .second, .val (.long q3), .second, .val (.int p4), .val (.long v9), .second, .val (.long v11), .second, .val (.ref o38), .val (.int (ov_f q2 v11)), .unset, .unset, .unset, .unset, .unset, .unset, .unset, .unset, .unset] [(.int (cn_f q2 v9 v11)), (.int (ov_f q2 v11))]))
    by_cases hc64 : (cn_f q2 v9 v11) = (0 : Int32)
    · refine own_st (fun _ k => XS.ifNo X63.here hx rfl (hb hby lw_d77) rfl ((if0 _ _).trans (teq hc64).2) k) ?_
      show own_Dn p e below s _ _ _ (T63.setTop (mkF m 80 #[.val (.long q0), .second, .val (.long q1), .second, .val (.long q2), .second, .val (.long q3), .second, .val (.int p4), .val (.long v9), .second, .val (.long v11), .second, .val (.ref o38), .val (.int (ov_f q2 v11)), .unset, .unset, .unset, .unset, .unset, .unset, .unset, .unset, .unset] [(.int (ov_f q2 v11))]))
      refine own_st (fun _ k => XS.iconst X63.here hx rfl (hb hby lw_d80) (XS.goto X63.here hx rfl (pc0 := 81) (pc' := 85) rfl (hb hby lw_d81) (by decide) (by decide) k)) ?_
      show own_Dn p e below s _ _ _ (T63.setTop (mkF m 85 #[.val (.long q0), .second, .val (.long q1), .second, .val (.long q2), .second, .val (.long q3), .second, .val (.int p4), .val (.long v9), .second, .val (.long v11), .second, .val (.ref o38), .val (.int (ov_f q2 v11)), .unset, .unset, .unset, .unset, .unset, .unset, .unset, .unset, .unset] [(.int (1 : Int32)), (.int (ov_f q2 v11))]))
      by_cases hc65 : (ov_f q2 v11) = (1 : Int32)
      · refine own_st (fun _ k => XS.icmpNo X63.here hx rfl (hb hby lw_d85) rfl (teq hc65).2 k) ?_
        show own_Dn p e below s _ _ _ (T63.setTop (mkF m 88 #[.val (.long q0), .second, .val (.long q1), .second, .val (.long q2), .second, .val (.long q3), .second, .val (.int p4), .val (.long v9), .second, .val (.long v11), .second, .val (.ref o38), .val (.int (ov_f q2 v11)), .unset, .unset, .unset, .unset, .unset, .unset, .unset, .unset, .unset] []))
        refine own_st (fun _ k => XS.iconst X63.here hx rfl (hb hby lw_d88) (XS.goto X63.here hx rfl (pc0 := 89) (pc' := 93) rfl (hb hby lw_d89) (by decide) (by decide) k)) ?_
        show own_Dn p e below s _ _ _ (T63.setTop (mkF m 93 #[.val (.long q0), .second, .val (.long q1), .second, .val (.long q2), .second, .val (.long q3), .second, .val (.int p4), .val (.long v9), .second, .val (.long v11), .second, .val (.ref o38), .val (.int (ov_f q2 v11)), .unset, .unset, .unset, .unset, .unset, .unset, .unset, .unset, .unset] [(.int (1 : Int32))]))
        exact lw_c93 C0 X63 e63 N63 (v9) (v11) ((ov_f q2 v11)) ((1 : Int32)) (v9) (v11) F58 G55 G56 G57 ge50 (by rw [hr0, lw_f38, if_neg hc61, if_pos hc64, if_pos hc65])
      · refine own_st (fun _ k => XS.icmpYes X63.here hx rfl (pc0 := 85) (pc' := 92) rfl (hb hby lw_d85) rfl (feq hc65).2 (by decide) (by decide) k) ?_
        show own_Dn p e below s _ _ _ (T63.setTop (mkF m 92 #[.val (.long q0), .second, .val (.long q1), .second, .val (.long q2), .second, .val (.long q3), .second, .val (.int p4), .val (.long v9), .second, .val (.long v11), .second, .val (.ref o38), .val (.int (ov_f q2 v11)), .unset, .unset, .unset, .unset, .unset, .unset, .unset, .unset, .unset] []))
        refine own_st (fun _ k => XS.iconst X63.here hx rfl (hb hby lw_d92) k) ?_
        show own_Dn p e below s _ _ _ (T63.setTop (mkF m 93 #[.val (.long q0), .second, .val (.long q1), .second, .val (.long q2), .second, .val (.long q3), .second, .val (.int p4), .val (.long v9), .second, .val (.long v11), .second, .val (.ref o38), .val (.int (ov_f q2 v11)), .unset, .unset, .unset, .unset, .unset, .unset, .unset, .unset, .unset] [(.int (0 : Int32))]))
        exact lw_c93 C0 X63 e63 N63 (v9) (v11) ((ov_f q2 v11)) ((0 : Int32)) (v9) (v11) F58 G55 G56 G57 ge50 (by rw [hr0, lw_f38, if_neg hc61, if_pos hc64, if_neg hc65])
    · refine own_st (fun _ k => XS.ifYes X63.here hx rfl (pc0 := 77) (pc' := 84) rfl (hb hby lw_d77) rfl ((if0 _ _).trans (feq hc64).2) (by decide) (by decide) k) ?_
      show own_Dn p e below s _ _ _ (T63.setTop (mkF m 84 #[.val (.long q0), .second, .val (.long q1), .second, .val (.long q2), .second, .val (.long q3), .second, .val (.int p4), .val (.long v9), .second, .val (.long v11), .second, .val (.ref o38), .val (.int (ov_f q2 v11)), .unset, .unset, .unset, .unset, .unset, .unset, .unset, .unset, .unset] [(.int (ov_f q2 v11))]))
      refine own_st (fun _ k => XS.iconst X63.here hx rfl (hb hby lw_d84) k) ?_
      show own_Dn p e below s _ _ _ (T63.setTop (mkF m 85 #[.val (.long q0), .second, .val (.long q1), .second, .val (.long q2), .second, .val (.long q3), .second, .val (.int p4), .val (.long v9), .second, .val (.long v11), .second, .val (.ref o38), .val (.int (ov_f q2 v11)), .unset, .unset, .unset, .unset, .unset, .unset, .unset, .unset, .unset] [(.int (0 : Int32)), (.int (ov_f q2 v11))]))
      by_cases hc66 : (ov_f q2 v11) = (0 : Int32)
      · refine own_st (fun _ k => XS.icmpNo X63.here hx rfl (hb hby lw_d85) rfl (teq hc66).2 k) ?_
        show own_Dn p e below s _ _ _ (T63.setTop (mkF m 88 #[.val (.long q0), .second, .val (.long q1), .second, .val (.long q2), .second, .val (.long q3), .second, .val (.int p4), .val (.long v9), .second, .val (.long v11), .second, .val (.ref o38), .val (.int (ov_f q2 v11)), .unset, .unset, .unset, .unset, .unset, .unset, .unset, .unset, .unset] []))
        refine own_st (fun _ k => XS.iconst X63.here hx rfl (hb hby lw_d88) (XS.goto X63.here hx rfl (pc0 := 89) (pc' := 93) rfl (hb hby lw_d89) (by decide) (by decide) k)) ?_
        show own_Dn p e below s _ _ _ (T63.setTop (mkF m 93 #[.val (.long q0), .second, .val (.long q1), .second, .val (.long q2), .second, .val (.long q3), .second, .val (.int p4), .val (.long v9), .second, .val (.long v11), .second, .val (.ref o38), .val (.int (ov_f q2 v11)), .unset, .unset, .unset, .unset, .unset, .unset, .unset, .unset, .unset] [(.int (1 : Int32))]))
        exact lw_c93 C0 X63 e63 N63 (v9) (v11) ((ov_f q2 v11)) ((1 : Int32)) (v9) (v11) F58 G55 G56 G57 ge50 (by rw [hr0, lw_f38, if_neg hc61, if_neg hc64, if_pos hc66])
      · refine own_st (fun _ k => XS.icmpYes X63.here hx rfl (pc0 := 85) (pc' := 92) rfl (hb hby lw_d85) rfl (feq hc66).2 (by decide) (by decide) k) ?_
        show own_Dn p e below s _ _ _ (T63.setTop (mkF m 92 #[.val (.long q0), .second, .val (.long q1), .second, .val (.long q2), .second, .val (.long q3), .second, .val (.int p4), .val (.long v9), .second, .val (.long v11), .second, .val (.ref o38), .val (.int (ov_f q2 v11)), .unset, .unset, .unset, .unset, .unset, .unset, .unset, .unset, .unset] []))
        refine own_st (fun _ k => XS.iconst X63.here hx rfl (hb hby lw_d92) k) ?_
        show own_Dn p e below s _ _ _ (T63.setTop (mkF m 93 #[.val (.long q0), .second, .val (.long q1), .second, .val (.long q2), .second, .val (.long q3), .second, .val (.int p4), .val (.long v9), .second, .val (.long v11), .second, .val (.ref o38), .val (.int (ov_f q2 v11)), .unset, .unset, .unset, .unset, .unset, .unset, .unset, .unset, .unset] [(.int (0 : Int32))]))
        exact lw_c93 C0 X63 e63 N63 (v9) (v11) ((ov_f q2 v11)) ((0 : Int32)) (v9) (v11) F58 G55 G56 G57 ge50 (by rw [hr0, lw_f38, if_neg hc61, if_neg hc64, if_neg hc66])
def lw_f26 (q0 : Int64) (q1 : Int64) (q2 : Int64) (q3 : Int64) (p4 : Int32) (v9 : Int64) (v11 : Int64) : Int32 :=
  if (p4 &&& (2 : Int32)) = (0 : Int32) then
    lw_f38 q0 q1 q2 q3 p4 (v9) (v11)
  else
    lw_f38 q0 q1 q2 q3 p4 (v9) ((9223372036854775807 : Int64))
set_option maxRecDepth 65536 in
set_option maxHeartbeats 40000000 in
theorem lw_c26 {l : Launch} {Z : State} {a0 : Array Value} {q0 : Int64} {q1 : Int64} {q2 : Int64} {q3 : Int64} {p4 : Int32} {h0 : Heap} {n0 : Nat} {p : Program} {e : Env} {s : State} {m : MethodId} {args : Array Value} {below : List Frame} {meth : Method} {c : Code} {T0 : State} {locs : List Loc} {r0 : Int32} (C0 : own_Cx p s m meth c Z a0 code 24 "com/example/tally_flows/tallyflows/charging/TimeWindowIsOverAtPinLaw" "law" (some .boolean)) (X0 : Stand p l e room_1 s m args below meth c T0 locs 0 0) (e0 : T0.heap = h0) (N0 : Fr n0 locs) (v9 : Int64) (v11 : Int64) (Z0 : n0 ≤ h0.size) (hr0 : r0 = lw_f26 q0 q1 q2 q3 p4 v9 v11) :
    own_Dn p e below s (own_QL (some (.int r0)) n0) room_1.cells room_1.slots (T0.setTop (mkF m 26 #[.val (.long q0), .second, .val (.long q1), .second, .val (.long q2), .second, .val (.long q3), .second, .val (.int p4), .val (.long v9), .second, .val (.long v11), .second, .unset, .unset, .unset, .unset, .unset, .unset, .unset, .unset, .unset, .unset, .unset] [])) := by
  obtain ⟨hx, hZ, hw, hby, hml, hown, hret, hlk, hnm⟩ := id C0
  refine own_st (fun _ k => XS.iload X0.here hx rfl (hb hby lw_d26) rfl (XS.iconst X0.here hx rfl (hb hby lw_d28) (XS.iand X0.here hx rfl (hb hby lw_d29) rfl k))) ?_
  show own_Dn p e below s _ _ _ (T0.setTop (mkF m 30 #[.val (.long q0), .second, .val (.long q1), .second, .val (.long q2), .second, .val (.long q3), .second, .val (.int p4), .val (.long v9), .second, .val (.long v11), .second, .unset, .unset, .unset, .unset, .unset, .unset, .unset, .unset, .unset, .unset, .unset] [(.int (p4 &&& (2 : Int32)))]))
  by_cases hc48 : (p4 &&& (2 : Int32)) = (0 : Int32)
  · refine own_st (fun _ k => XS.ifYes X0.here hx rfl (pc0 := 30) (pc' := 38) rfl (hb hby lw_d30) rfl ((if0 _ _).trans (teq hc48).1) (by decide) (by decide) k) ?_
    show own_Dn p e below s _ _ _ (T0.setTop (mkF m 38 #[.val (.long q0), .second, .val (.long q1), .second, .val (.long q2), .second, .val (.long q3), .second, .val (.int p4), .val (.long v9), .second, .val (.long v11), .second, .unset, .unset, .unset, .unset, .unset, .unset, .unset, .unset, .unset, .unset, .unset] []))
    exact lw_c38 C0 X0 e0 N0 (v9) (v11) Z0 (by rw [hr0, lw_f26, if_pos hc48])
  · refine own_st (fun _ k => XS.ifNo X0.here hx rfl (hb hby lw_d30) rfl ((if0 _ _).trans (feq hc48).1) k) ?_
    show own_Dn p e below s _ _ _ (T0.setTop (mkF m 33 #[.val (.long q0), .second, .val (.long q1), .second, .val (.long q2), .second, .val (.long q3), .second, .val (.int p4), .val (.long v9), .second, .val (.long v11), .second, .unset, .unset, .unset, .unset, .unset, .unset, .unset, .unset, .unset, .unset, .unset] []))
    refine own_st (fun _ k => X0.ldc2Long hx (index := 20) (v := (9223372036854775807 : Int64)) hown (mvT hZ (hw _ (List.mem_of_getElem? (i := 8) rfl))) (g := (mkF m 33 #[.val (.long q0), .second, .val (.long q1), .second, .val (.long q2), .second, .val (.long q3), .second, .val (.int p4), .val (.long v9), .second, .val (.long v11), .second, .unset, .unset, .unset, .unset, .unset, .unset, .unset, .unset, .unset, .unset, .unset] [])) rfl (hb hby lw_d33) _ (XS.lstore X0.here hx rfl (hb hby lw_d36) rfl (l' := #[.val (.long q0), .second, .val (.long q1), .second, .val (.long q2), .second, .val (.long q3), .second, .val (.int p4), .val (.long v9), .second, .val (.long (9223372036854775807 : Int64)), .second, .unset, .unset, .unset, .unset, .unset, .unset, .unset, .unset, .unset, .unset, .unset]) rfl k)) ?_
    show own_Dn p e below s _ _ _ (T0.setTop (mkF m 38 #[.val (.long q0), .second, .val (.long q1), .second, .val (.long q2), .second, .val (.long q3), .second, .val (.int p4), .val (.long v9), .second, .val (.long (9223372036854775807 : Int64)), .second, .unset, .unset, .unset, .unset, .unset, .unset, .unset, .unset, .unset, .unset, .unset] []))
    exact lw_c38 C0 X0 e0 N0 (v9) ((9223372036854775807 : Int64)) Z0 (by rw [hr0, lw_f26, if_neg hc48])
def lw_f (q0 : Int64) (q1 : Int64) (q2 : Int64) (q3 : Int64) (p4 : Int32)  : Int32 :=
  if (p4 &&& (1 : Int32)) = (0 : Int32) then
    lw_f26 q0 q1 q2 q3 p4 ((mn_f q0 q1)) ((mx_f q0 q1))
  else
    lw_f26 q0 q1 q2 q3 p4 ((-9223372036854775808 : Int64)) ((mx_f q0 q1))
set_option maxRecDepth 65536 in
set_option maxHeartbeats 40000000 in
theorem lw_c0 {l : Launch} {Z : State} {a0 : Array Value} {q0 : Int64} {q1 : Int64} {q2 : Int64} {q3 : Int64} {p4 : Int32} {h0 : Heap} {n0 : Nat} {p : Program} {e : Env} {s : State} {m : MethodId} {args : Array Value} {below : List Frame} {meth : Method} {c : Code} {T0 : State} {locs : List Loc} {r0 : Int32} (C0 : own_Cx p s m meth c Z a0 code 24 "com/example/tally_flows/tallyflows/charging/TimeWindowIsOverAtPinLaw" "law" (some .boolean)) (X0 : Stand p l e room_1 s m args below meth c T0 locs 0 0) (e0 : T0.heap = h0) (N0 : Fr n0 locs)  (Z0 : n0 ≤ h0.size) (hr0 : r0 = lw_f q0 q1 q2 q3 p4 ) :
    own_Dn p e below s (own_QL (some (.int r0)) n0) room_1.cells room_1.slots (T0.setTop (mkF m 0 #[.val (.long q0), .second, .val (.long q1), .second, .val (.long q2), .second, .val (.long q3), .second, .val (.int p4), .unset, .unset, .unset, .unset, .unset, .unset, .unset, .unset, .unset, .unset, .unset, .unset, .unset, .unset, .unset] [])) := by
  obtain ⟨hx, hZ, hw, hby, hml, hown, hret, hlk, hnm⟩ := id C0
  refine own_st (fun _ k => XS.lloadN X0.here hx rfl (hb hby lw_d0) rfl (XS.lloadN X0.here hx rfl (hb hby lw_d1) rfl k)) ?_
  show own_Dn p e below s _ _ _ (T0.setTop (mkF m 2 #[.val (.long q0), .second, .val (.long q1), .second, .val (.long q2), .second, .val (.long q3), .second, .val (.int p4), .unset, .unset, .unset, .unset, .unset, .unset, .unset, .unset, .unset, .unset, .unset, .unset, .unset, .unset, .unset] [(.long q1), (.long q0)]))
  obtain ⟨_, _, ⟨T45, L45, k45, n45⟩, -, X45, ⟨Lc45, hQ45, l45, y45, z45⟩, st45⟩ := Jvm.LawKit.callS X0 hx (y := (⟨"java/lang/Math", "min", "(JJ)J"⟩ : MethodName)) hown (mvT hZ (hw _ (List.mem_of_getElem? (i := 0) rfl))) (mvT hZ (hw _ (List.mem_of_getElem? (i := 1) rfl))) (mvT hZ (hw _ (List.mem_of_getElem? (i := 2) rfl))) (mvT hZ (hw _ (List.mem_of_getElem? (i := 3) rfl))) (by decide) (backOf (W := 0) (mn_rm l Z a0 hw [] (q0) (q1) h0 n0) hZ (hw _ (List.mem_of_getElem? (i := 3) rfl)) (hw _ (List.mem_of_getElem? (i := 2) rfl)) (by decide) (by decide)) (g := (mkF m 2 #[.val (.long q0), .second, .val (.long q1), .second, .val (.long q2), .second, .val (.long q3), .second, .val (.int p4), .unset, .unset, .unset, .unset, .unset, .unset, .unset, .unset, .unset, .unset, .unset, .unset, .unset, .unset, .unset] [(.long q1), (.long q0)])) rfl (by rw [hml]; rfl) (argsL := [(.long q0), (.long q1)]) (rest := []) (lenOf own_pd0 rfl) rfl (by show 2 * 0 + _ ≤ _; exact Nat.le_of_eq rfl) (hb hby lw_d2) (fun _ _ => ⟨rfl, e0, (by decide : 0 + 0 ≤ _), (by decide : 0 + 0 ≤ _)⟩)
  dsimp only [Pt.U, Pt.locs, Pt.cells, Pt.slots] at X45 l45 y45 z45 st45 hQ45
  subst l45 y45 z45
  obtain ⟨rfl, N45q, e45⟩ := hQ45
  have N45 := Fr.app N0 N45q
  refine own_st st45 ?_
  show own_Dn p e below s _ _ _ (T45.setTop (mkF m 5 #[.val (.long q0), .second, .val (.long q1), .second, .val (.long q2), .second, .val (.long q3), .second, .val (.int p4), .unset, .unset, .unset, .unset, .unset, .unset, .unset, .unset, .unset, .unset, .unset, .unset, .unset, .unset, .unset] [(.long (mn_f q0 q1))]))
  refine own_st (fun _ k => XS.lstore X45.here hx rfl (hb hby lw_d5) rfl (l' := #[.val (.long q0), .second, .val (.long q1), .second, .val (.long q2), .second, .val (.long q3), .second, .val (.int p4), .val (.long (mn_f q0 q1)), .second, .unset, .unset, .unset, .unset, .unset, .unset, .unset, .unset, .unset, .unset, .unset, .unset, .unset]) rfl (XS.lloadN X45.here hx rfl (hb hby lw_d7) rfl (XS.lloadN X45.here hx rfl (hb hby lw_d8) rfl k))) ?_
  show own_Dn p e below s _ _ _ (T45.setTop (mkF m 9 #[.val (.long q0), .second, .val (.long q1), .second, .val (.long q2), .second, .val (.long q3), .second, .val (.int p4), .val (.long (mn_f q0 q1)), .second, .unset, .unset, .unset, .unset, .unset, .unset, .unset, .unset, .unset, .unset, .unset, .unset, .unset] [(.long q1), (.long q0)]))
  obtain ⟨_, _, ⟨T46, L46, k46, n46⟩, -, X46, ⟨Lc46, hQ46, l46, y46, z46⟩, st46⟩ := Jvm.LawKit.callS X45 hx (y := (⟨"java/lang/Math", "max", "(JJ)J"⟩ : MethodName)) hown (mvT hZ (hw _ (List.mem_of_getElem? (i := 4) rfl))) (mvT hZ (hw _ (List.mem_of_getElem? (i := 5) rfl))) (mvT hZ (hw _ (List.mem_of_getElem? (i := 2) rfl))) (mvT hZ (hw _ (List.mem_of_getElem? (i := 6) rfl))) (by decide) (backOf (W := 0) (mx_rm l Z a0 hw [] (q0) (q1) h0 n0) hZ (hw _ (List.mem_of_getElem? (i := 6) rfl)) (hw _ (List.mem_of_getElem? (i := 2) rfl)) (by decide) (by decide)) (g := (mkF m 9 #[.val (.long q0), .second, .val (.long q1), .second, .val (.long q2), .second, .val (.long q3), .second, .val (.int p4), .val (.long (mn_f q0 q1)), .second, .unset, .unset, .unset, .unset, .unset, .unset, .unset, .unset, .unset, .unset, .unset, .unset, .unset] [(.long q1), (.long q0)])) rfl (by rw [hml]; rfl) (argsL := [(.long q0), (.long q1)]) (rest := []) (lenOf own_pd0 rfl) rfl (by show 2 * 0 + _ ≤ _; exact Nat.le_of_eq rfl) (hb hby lw_d9) (fun _ _ => ⟨rfl, e45, (by decide : 0 + 0 ≤ _), (by decide : 0 + 0 ≤ _)⟩)
  dsimp only [Pt.U, Pt.locs, Pt.cells, Pt.slots] at X46 l46 y46 z46 st46 hQ46
  subst l46 y46 z46
  obtain ⟨rfl, N46q, e46⟩ := hQ46
  have N46 := Fr.app N45 N46q
  refine own_st st46 ?_
  show own_Dn p e below s _ _ _ (T46.setTop (mkF m 12 #[.val (.long q0), .second, .val (.long q1), .second, .val (.long q2), .second, .val (.long q3), .second, .val (.int p4), .val (.long (mn_f q0 q1)), .second, .unset, .unset, .unset, .unset, .unset, .unset, .unset, .unset, .unset, .unset, .unset, .unset, .unset] [(.long (mx_f q0 q1))]))
  refine own_st (fun _ k => XS.lstore X46.here hx rfl (hb hby lw_d12) rfl (l' := #[.val (.long q0), .second, .val (.long q1), .second, .val (.long q2), .second, .val (.long q3), .second, .val (.int p4), .val (.long (mn_f q0 q1)), .second, .val (.long (mx_f q0 q1)), .second, .unset, .unset, .unset, .unset, .unset, .unset, .unset, .unset, .unset, .unset, .unset]) rfl (XS.iload X46.here hx rfl (hb hby lw_d14) rfl (XS.iconst X46.here hx rfl (hb hby lw_d16) (XS.iand X46.here hx rfl (hb hby lw_d17) rfl k)))) ?_
  show own_Dn p e below s _ _ _ (T46.setTop (mkF m 18 #[.val (.long q0), .second, .val (.long q1), .second, .val (.long q2), .second, .val (.long q3), .second, .val (.int p4), .val (.long (mn_f q0 q1)), .second, .val (.long (mx_f q0 q1)), .second, .unset, .unset, .unset, .unset, .unset, .unset, .unset, .unset, .unset, .unset, .unset] [(.int (p4 &&& (1 : Int32)))]))
  by_cases hc47 : (p4 &&& (1 : Int32)) = (0 : Int32)
  · refine own_st (fun _ k => XS.ifYes X46.here hx rfl (pc0 := 18) (pc' := 26) rfl (hb hby lw_d18) rfl ((if0 _ _).trans (teq hc47).1) (by decide) (by decide) k) ?_
    show own_Dn p e below s _ _ _ (T46.setTop (mkF m 26 #[.val (.long q0), .second, .val (.long q1), .second, .val (.long q2), .second, .val (.long q3), .second, .val (.int p4), .val (.long (mn_f q0 q1)), .second, .val (.long (mx_f q0 q1)), .second, .unset, .unset, .unset, .unset, .unset, .unset, .unset, .unset, .unset, .unset, .unset] []))
    exact lw_c26 C0 X46 e46 N46 ((mn_f q0 q1)) ((mx_f q0 q1)) Z0 (by rw [hr0, lw_f, if_pos hc47])
  · refine own_st (fun _ k => XS.ifNo X46.here hx rfl (hb hby lw_d18) rfl ((if0 _ _).trans (feq hc47).1) k) ?_
    show own_Dn p e below s _ _ _ (T46.setTop (mkF m 21 #[.val (.long q0), .second, .val (.long q1), .second, .val (.long q2), .second, .val (.long q3), .second, .val (.int p4), .val (.long (mn_f q0 q1)), .second, .val (.long (mx_f q0 q1)), .second, .unset, .unset, .unset, .unset, .unset, .unset, .unset, .unset, .unset, .unset, .unset] []))
    refine own_st (fun _ k => X46.ldc2Long hx (index := 18) (v := (-9223372036854775808 : Int64)) hown (mvT hZ (hw _ (List.mem_of_getElem? (i := 7) rfl))) (g := (mkF m 21 #[.val (.long q0), .second, .val (.long q1), .second, .val (.long q2), .second, .val (.long q3), .second, .val (.int p4), .val (.long (mn_f q0 q1)), .second, .val (.long (mx_f q0 q1)), .second, .unset, .unset, .unset, .unset, .unset, .unset, .unset, .unset, .unset, .unset, .unset] [])) rfl (hb hby lw_d21) _ (XS.lstore X46.here hx rfl (hb hby lw_d24) rfl (l' := #[.val (.long q0), .second, .val (.long q1), .second, .val (.long q2), .second, .val (.long q3), .second, .val (.int p4), .val (.long (-9223372036854775808 : Int64)), .second, .val (.long (mx_f q0 q1)), .second, .unset, .unset, .unset, .unset, .unset, .unset, .unset, .unset, .unset, .unset, .unset]) rfl k)) ?_
    show own_Dn p e below s _ _ _ (T46.setTop (mkF m 26 #[.val (.long q0), .second, .val (.long q1), .second, .val (.long q2), .second, .val (.long q3), .second, .val (.int p4), .val (.long (-9223372036854775808 : Int64)), .second, .val (.long (mx_f q0 q1)), .second, .unset, .unset, .unset, .unset, .unset, .unset, .unset, .unset, .unset, .unset, .unset] []))
    exact lw_c26 C0 X46 e46 N46 ((-9223372036854775808 : Int64)) ((mx_f q0 q1)) Z0 (by rw [hr0, lw_f, if_neg hc47])
theorem lw_ef (m : MethodId) (q0 : Int64) (q1 : Int64) (q2 : Int64) (q3 : Int64) (p4 : Int32) : entryFrame m #[(.long q0), (.long q1), (.long q2), (.long q3), (.int p4)] maxLocals = mkF m 0 #[.val (.long q0), .second, .val (.long q1), .second, .val (.long q2), .second, .val (.long q3), .second, .val (.int p4), .unset, .unset, .unset, .unset, .unset, .unset, .unset, .unset, .unset, .unset, .unset, .unset, .unset, .unset, .unset] [] := by first | (simp [entryFrame, mkF, argsToLocals, Value.category, maxLocals]; done) | rfl
theorem lw_rm (l : Launch) (Z : State) (a0 : Array Value) (hw : ∀ d ∈ tables_1, d.before a0 Z = true) (ws : List Jvm.Cond) (q0 : Int64) (q1 : Int64) (q2 : Int64) (q3 : Int64) (p4 : Int32) (h0 : Heap) (n0 : Nat) (Z0 : n0 ≤ h0.size) :
    MetFree l x (head1 (Jvm.Cond.code x code maxLocals ret :: ws) room_1) (fun a U => a = #[(.long q0), (.long q1), (.long q2), (.long q3), (.int p4)] ∧ Z.Warmed39 U.vm ∧ U.heap = h0) (fun _ _ _ _ _ => True) (fun _ U o U' => ∃ v L, o = .returned v ∧ (own_QL (some (.int (lw_f q0 q1 q2 q3 p4))) n0) v U'.heap L ∧ FrameEnd U o U' L room_1.cells room_1.slots) :=
  own_met hw (plainFor_of_name (by first | (simp [plainName, overriddenIn]; done) | decide +kernel)) (fun p e s m below meth c T0 C0 X0 e0 => own_st (fun _ k => castTop (lw_ef m q0 q1 q2 q3 p4) k) (lw_c0 C0 X0 e0 (Fr.nil n0) Z0  rfl))
theorem own_ov (t w : Int64) : (ov_f t w = 0 ∧ (w.toInt = 9223372036854775807 ∨ t.toInt < w.toInt)) ∨ (ov_f t w = 1 ∧ ¬ (w.toInt = 9223372036854775807 ∨ t.toInt < w.toInt)) := by
  simp only [ov_f, Int64.lt_iff_toInt_lt, ← Int64.toInt_inj, Int64.reduceToInt]
  repeat' split
  all_goals first | (left; refine ⟨rfl, ?_⟩; omega) | (right; refine ⟨rfl, ?_⟩; omega)
theorem own_cn (t s w : Int64) : (cn_f t s w = 1 ∧ (s.toInt ≤ t.toInt ∧ (t.toInt < w.toInt ∨ w.toInt = 9223372036854775807))) ∨ (cn_f t s w = 0 ∧ ¬ (s.toInt ≤ t.toInt ∧ (t.toInt < w.toInt ∨ w.toInt = 9223372036854775807))) := by
  simp only [cn_f, Int64.lt_iff_toInt_lt, ← Int64.toInt_inj, Int64.reduceToInt]
  repeat' split
  all_goals first | (left; refine ⟨rfl, ?_⟩; omega) | (right; refine ⟨rfl, ?_⟩; omega)
theorem own_l229 (q0 q1 q2 q3 : Int64) (p4 : Int32) (v9 v11 : Int64) (v14 v15 : Int32) (v16 v18 : Int64) (v20 v21 v22 u0 : Int32) (w2 w3 : Int64) (h1 : v15 ≠ 0) (h2 : v20 ≠ 0) (h3 : v21 ≠ 0) (h4 : v22 ≠ 0) (h5 : u0 ≠ 0) :
    lw_f229 q0 q1 q2 q3 p4 v9 v11 v14 v15 v16 v18 v20 v21 v22 u0 w2 w3 = 1 := by
  simp only [lw_f229, h1, h2, h3, h4, h5, if_false]
theorem own_l197 (q0 q1 q2 q3 : Int64) (p4 : Int32) (v9 v11 : Int64) (v14 v15 : Int32) (v16 v18 : Int64) (v20 v21 u0 : Int32) (w2 : Int64) (h1 : v15 ≠ 0) (h2 : v20 ≠ 0) (h3 : v21 ≠ 0) (h4 : u0 ≠ 0) :
    lw_f197 q0 q1 q2 q3 p4 v9 v11 v14 v15 v16 v18 v20 v21 u0 w2 v11 = 1 := by
  have r := rng64 v11
  have e : (9223372036854775807 : Int64).toInt = 9223372036854775807 := by decide
  simp only [lw_f197]
  rcases own_ov 9223372036854775807 v11 with ⟨a, b⟩ | ⟨a, b⟩
  · have c : v11 = 9223372036854775807 := Int64.toInt_inj.mp (by rw [e]; omega)
    rw [if_pos c, if_pos a, own_l229 _ _ _ _ _ _ _ _ _ _ _ _ _ _ _ _ _ h1 h2 h3 h4 (by decide)]
  · have c : ¬ v11 = 9223372036854775807 := fun q => b (Or.inl (by rw [q]; decide))
    rw [if_neg c, if_pos a, own_l229 _ _ _ _ _ _ _ _ _ _ _ _ _ _ _ _ _ h1 h2 h3 h4 (by decide)]
theorem own_l169 (q0 q1 q2 q3 : Int64) (p4 : Int32) (v9 v11 : Int64) (v14 v15 : Int32) (v16 v18 : Int64) (v20 u0 : Int32) (w2 : Int64) (h1 : v15 ≠ 0) (h2 : v20 ≠ 0) (h3 : u0 ≠ 0) :
    lw_f169 q0 q1 q2 q3 p4 v9 v11 v14 v15 v16 v18 v20 u0 w2 v11 = 1 := by
  have r := rng64 v11
  have r' := rng64 (v11 - 1)
  have e := c_lsub v11 1
  simp only [Int64.reduceToInt] at e
  simp only [lw_f169]
  by_cases c : v11 = -9223372036854775808
  · rw [if_pos c, own_l197 _ _ _ _ _ _ _ _ _ _ _ _ _ _ _ h1 h2 h3 (by decide)]
  · have c' : v11.toInt ≠ -9223372036854775808 := fun q => c (Int64.toInt_inj.mp (by rw [q]; decide))
    rcases own_ov (v11 - 1) v11 with ⟨a, b⟩ | ⟨a, b⟩
    · rw [if_neg c, if_pos a, own_l197 _ _ _ _ _ _ _ _ _ _ _ _ _ _ _ h1 h2 h3 (by decide)]
    · omega
theorem own_l138 (q0 q1 q2 q3 : Int64) (p4 : Int32) (v9 v11 : Int64) (v14 v15 : Int32) (v16 v18 : Int64) (u0 : Int32) (w2 : Int64) (h1 : v15 ≠ 0) (h2 : u0 ≠ 0) :
    lw_f138 q0 q1 q2 q3 p4 v9 v11 v14 v15 v16 v18 u0 w2 v11 = 1 := by
  have e : (9223372036854775807 : Int64).toInt = 9223372036854775807 := by decide
  simp only [lw_f138]
  rcases own_ov v11 v11 with ⟨a, b⟩ | ⟨a, b⟩
  · have c : v11 = 9223372036854775807 := Int64.toInt_inj.mp (by rw [e]; omega)
    rw [if_pos c, if_pos a, own_l169 _ _ _ _ _ _ _ _ _ _ _ _ _ _ h1 h2 (by decide)]
  · have c : ¬ v11 = 9223372036854775807 := fun q => b (Or.inl (by rw [q]; decide))
    rw [if_neg c, if_pos a, own_l169 _ _ _ _ _ _ _ _ _ _ _ _ _ _ h1 h2 (by decide)]
theorem own_mnmx (a b : Int64) : (mn_f a b).toInt ≤ (mx_f a b).toInt := by
  simp only [mn_f, mx_f, Int64.lt_iff_toInt_lt]
  repeat' split
  all_goals omega
theorem own_l93 (q0 q1 q2 q3 : Int64) (p4 : Int32) (v9 v11 : Int64) (v14 u0 : Int32) (w2 : Int64) (h1 : u0 ≠ 0) : lw_f93 q0 q1 q2 q3 p4 v9 v11 v14 u0 w2 v11 = 1 := by
  have hm := own_mnmx q2 q3
  simp only [lw_f93]
  rcases own_ov (mn_f q2 q3) v11 with ⟨a, b⟩ | ⟨a, b⟩
  · rw [if_pos a, own_l138 _ _ _ _ _ _ _ _ _ _ _ _ _ h1 (by decide)]
  · rcases own_ov (mx_f q2 q3) v11 with ⟨c, d⟩ | ⟨c, d⟩
    · omega
    · rw [if_neg (by rw [a]; decide), if_neg (by rw [c]; decide), own_l138 _ _ _ _ _ _ _ _ _ _ _ _ _ h1 (by decide)]
theorem own_l38 (q0 q1 q2 q3 : Int64) (p4 : Int32) (v9 v11 : Int64) (h : v9.toInt ≤ v11.toInt) : lw_f38 q0 q1 q2 q3 p4 v9 v11 = 1 := by
  simp only [lw_f38, Int64.lt_iff_toInt_lt]
  rcases own_ov q2 v11 with ⟨a, b⟩ | ⟨a, b⟩ <;> rcases own_cn q2 v9 v11 with ⟨c, d⟩ | ⟨c, d⟩ <;> simp only [a, c] <;> by_cases k : q2.toInt < v9.toInt <;> simp only [k, if_true, if_false, own_l93 _ _ _ _ _ _ _ _ _ _ (show (1 : Int32) ≠ 0 by decide)] <;> first | rfl | (exfalso; omega)
theorem own_law (q0 q1 q2 q3 : Int64) (p4 : Int32) : lw_f q0 q1 q2 q3 p4 = 1 := by
  have hm := own_mnmx q0 q1
  have r1 := rng64 (mn_f q0 q1)
  have r2 := rng64 (mx_f q0 q1)
  have e1 : (9223372036854775807 : Int64).toInt = 9223372036854775807 := by decide
  have e2 : (-9223372036854775808 : Int64).toInt = -9223372036854775808 := by decide
  simp only [lw_f, lw_f26]
  rw [own_l38 _ _ _ _ _ _ _ hm, own_l38 _ _ _ _ _ _ _ (by omega), own_l38 _ _ _ _ _ _ _ (by omega), own_l38 _ _ _ _ _ _ _ (by omega)]
  simp only [ite_self]

set_option maxRecDepth 65536 in
set_option maxHeartbeats 40000000 in
theorem comes_1 {Post : Tables → Env → Array Value → State → Outcome → State → Prop} (hpost : ∀ tb e args s v u, (limb_1_1.after args s (.returned v) u = true ∧ limb_1_2.after args s (.returned v) u = true ∧ True) → FrameEnd s (.returned v) u (Jvm.fieldLocs frame_1_writes args s ++ Jvm.arrayLocs frame_1_arrays args s ++ Jvm.staticLocs frame_1_statics s) 16 128 → Post tb e args s (.returned v) u) :
    ArmFor flags0 classFile x code maxLocals ret World_1 tables_1 room_1 Calls_1 rest_1 Pre_1 Post := by
  intro l hfl _ _ p e ha hc hk s m args below hf hA hF happ hP
  obtain ⟨hcalls, hrest, hpre⟩ := hP
  obtain ⟨-, -, -, hnamed, -, -, -, hat⟩ := (Spec.applies_iff hf).mp happ
  obtain ⟨hg, hn⟩ := and_e (Cond.before_iff.mp (show (Jvm.Cond.and given_1 narrow_1).before args s = true from hpre))
  obtain ⟨gc, hg0⟩ := and_e hg
  obtain ⟨g0, hg1⟩ := and_e hg0
  obtain ⟨g1, hg2⟩ := and_e hg1
  obtain ⟨g2, hg3⟩ := and_e hg2
  obtain ⟨g3, g4⟩ := and_e hg3
  obtain ⟨w0, w1, w2, w3, w4, rfl⟩ : ∃ w0 w1 w2 w3 w4 : Value, args = #[w0, w1, w2, w3, w4] := by
    have hs : args.size = 5 := by simpa [Cond.value, given_1] using gc
    obtain ⟨L⟩ := args
    match L, hs with
    | [w0, w1, w2, w3, w4], _ => exact ⟨w0, w1, w2, w3, w4, rfl⟩
  have hw := fun d (hd : d ∈ tables_1) => atoms_spec (ws := Jvm.Cond.code x code maxLocals ret :: tables_1) hat d (List.mem_cons_of_mem _ hd)
  have hfit : Fit s := fun {y c} hc i hi => by
    obtain ⟨ha, rfl⟩ := Array.getElem?_eq_some_iff.mp hc
    have q := List.all_eq_true.mp ((Array.all_eq_true_iff_forall_mem.mp hF) _ (Array.getElem_mem ha)) i (List.mem_range.mpr hi)
    simpa [Array.getElem?_eq_getElem hi] using q
  obtain ⟨i0, ei0⟩ := isL_v g0
  obtain rfl : w0 = (.long i0) := Option.some.inj ei0
  obtain ⟨i1, ei1⟩ := isL_v g1
  obtain rfl : w1 = (.long i1) := Option.some.inj ei1
  obtain ⟨i2, ei2⟩ := isL_v g2
  obtain rfl : w2 = (.long i2) := Option.some.inj ei2
  obtain ⟨i3, ei3⟩ := isL_v g3
  obtain rfl : w3 = (.long i3) := Option.some.inj ei3
  obtain ⟨i4, ei4⟩ := is_v g4
  obtain rfl : w4 = (.int i4) := Option.some.inj ei4
  obtain ⟨n, o, h1, h2, h3, _, L, rfl, ⟨rfl, N⟩, hq⟩ := lw_rm l s _ hw tables_1 i0 i1 i2 i3 i4  s.heap s.heap.size (Nat.le_refl _) p e ha hc hk s m _ below hf ((Spec.applies_iff_loose hf).mp happ).1 ⟨rfl, State.Warmed39.refl s, rfl⟩ trivial
  refine ⟨n, _, h1, h2, h3, hpost _ _ _ _ _ _ ⟨Cond.after_iff.mpr rfl, Cond.after_iff.mpr (eq_i res_at (Term.int_eval (1)) (by rw [own_law])), trivial⟩ ⟨hq.1, hq.2.1, (hq.2.2.sift fun y hy => Or.inr (N y hy)).mono (by decide) (by decide)⟩⟩
theorem main_1_1 : Claimed_1_1 := comes_1 fun _ _ _ _ _ _ h hF => ⟨h.1, hF⟩
theorem main_1_2 : Claimed_1_2 := comes_1 fun _ _ _ _ _ _ h hF => ⟨h.2.1, hF⟩
end Jvm.Pilot.@@N@@
namespace Jvm.Pilot.@@N@@
open Jvm Jvm.ClassFile Sem Op Lib Jvm.Free Jvm.Stand Jvm.Pilot.@@N@@.Jvm.D
/-! MADE BY PROGRAM (witnessworld.py) out of the Statement's table words and the real class files: 10 classes; the members and pool entries that the words name. The judged class is class 1, her method 1. -/
namespace start1
open Jvm.ClassFile
def u (s : String) : CpInfo := .utf8 (stringToUtf16 s)
/-- a pool by its gaps: so many unusable entries, then the entry; so many at the end -/
def gap : Nat → List CpInfo → List CpInfo
  | 0, r => r
  | n + 1, r => .unusable :: gap n r
def poolList (es : List (Nat × CpInfo)) (last : Nat) : List CpInfo := es.foldr (fun e r => gap e.1 (e.2 :: r)) (gap last [])
def pool (es : List (Nat × CpInfo)) (last : Nat) : Array CpInfo := ⟨poolList es last⟩
def fileOf (pool : Array CpInfo) (this : Nat) (attrs : Array Attribute := #[]) (ms : Array MethodInfo := #[]) (fl : Nat := 33) (sup : Nat := 0) (ifs : Array Nat := #[]) (fds : Array FieldInfo := #[]) : ClassFile where
  minorVersion := 0
  majorVersion := 65
  constantPool := pool
  accessFlags := fl
  thisClass := this
  superClass := sup
  interfaces := ifs
  fields := fds
  methods := ms
  attributes := attrs
def plain (name : String) (sup : Option ClassId) : Class where
  name := name
  kind := .ordinary
  loader := none
  accessFlags := 33
  super := sup
  interfaces := #[]
  cf := none
  fields := #[]
  methods := #[]
  instanceTypes := #[]
  staticTypes := #[]
  resolved := #[]
  callSites := []
  init := .initialized
  statics := none
  mirror := none

def pool0 : Array CpInfo := pool [(5, u "<init>"), (0, u "()V"), (1, .class_ 10), (1, u "java/lang/Object")] 113

def k0c0 : Code := { maxStack := 0, maxLocals := 1, code := object_method_1_code, exceptionTable := #[], attributes := #[] }
def k0m0 : Method := { name := "<init>", desc := "()V", sig := { parameters := [], returnType := none }, accessFlags := 1, code := some k0c0 }
/-- java/lang/Object -/
def k0 : Class := { plain "java/lang/Object" none with
  accessFlags := 33
  interfaces := #[]
  cf := some (fileOf pool0 8 #[] #[{ accessFlags := 1, nameIndex := 5, descriptorIndex := 6, attributes := #[] }] 33 0 #[] #[])
  fields := #[]
  methods := #[k0m0]
  instanceTypes := #[]
  staticTypes := #[]
  resolved := Array.replicate 124 none
  statics := none }

def pool1 : Array CpInfo := pool [(2, .class_ 4), (1, u "java/lang/Object"), (0, u "<init>"), (0, u "()V"), (0, .methodref 8 9), (0, .class_ 10), (0, .nameAndType 11 12), (0, u "java/lang/Math"), (0, u "min"), (0, u "(JJ)J"), (0, .methodref 8 14), (0, .nameAndType 15 12), (0, u "max"), (0, .class_ 17), (0, u "com/example/tally_flows/tallyflows/charging/TimeWindow"), (0, .long 9223372036854775808), (1, .long 9223372036854775807), (1, .methodref 16 23), (0, .nameAndType 5 24), (0, u "(JJ)V"), (0, .methodref 16 26), (0, .nameAndType 27 28), (0, u "isOverAt"), (0, u "(J)Z"), (0, .methodref 16 30), (0, .nameAndType 31 28), (0, u "contains"), (2, .class_ 35), (0, u "com/example/tally_flows/tallyflows/charging/TimeWindowIsOverAtPinLaw"), (2, u "law"), (0, u "(JJJJI)Z")] 3

def k1m0 : Method := { name := "<init>", desc := "()V", sig := { parameters := [], returnType := none }, accessFlags := 1, code := none }
def k1c1 : Code := { maxStack := 6, maxLocals := 24, code := code, exceptionTable := #[], attributes := #[] }
def k1m1 : Method := { name := "law", desc := "(JJJJI)Z", sig := { parameters := [.long, .long, .long, .long, .int], returnType := some .boolean }, accessFlags := 9, code := some k1c1 }
/-- com/example/tally_flows/tallyflows/charging/TimeWindowIsOverAtPinLaw -/
def k1 : Class := { plain "com/example/tally_flows/tallyflows/charging/TimeWindowIsOverAtPinLaw" (some 0) with
  accessFlags := 49
  interfaces := #[]
  cf := some (fileOf pool1 34 #[] #[{ accessFlags := 1, nameIndex := 5, descriptorIndex := 6, attributes := #[] }, { accessFlags := 9, nameIndex := 38, descriptorIndex := 39, attributes := #[] }] 49 2 #[] #[])
  fields := #[]
  methods := #[k1m0, k1m1]
  instanceTypes := #[]
  staticTypes := #[]
  resolved := Array.replicate 43 none
  statics := none }

def pool2 : Array CpInfo := pool [(1, .class_ 2), (0, u "java/lang/Math"), (1, .class_ 6), (1, u "java/lang/Object"), (0, u "<init>"), (0, u "()V"), (89, .class_ 100), (1, u "java/lang/Math$RandomNumberGeneratorHolder"), (20, u "(JJ)J"), (50, u "negativeZeroFloatBits"), (0, u "J"), (2, u "negativeZeroDoubleBits"), (21, u "max"), (2, u "min"), (43, u "$assertionsDisabled"), (0, u "Z"), (91, u "twoToTheDoubleScaleDown"), (0, u "D"), (4, u "twoToTheDoubleScaleUp"), (9, u "E"), (3, u "PI"), (2, u "TAU"), (2, u "DEGREES_TO_RADIANS"), (0, u "RADIANS_TO_DEGREES")] 94

def k2m0 : Method := { name := "<init>", desc := "()V", sig := { parameters := [], returnType := none }, accessFlags := 2, code := none }
def k2c1 : Code := { maxStack := 4, maxLocals := 4, code := jdk_29_method_66_code, exceptionTable := #[], attributes := #[] }
def k2m1 : Method := { name := "max", desc := "(JJ)J", sig := { parameters := [.long, .long], returnType := some .long }, accessFlags := 9, code := some k2c1 }
def k2c2 : Code := { maxStack := 4, maxLocals := 4, code := jdk_29_method_70_code, exceptionTable := #[], attributes := #[] }
def k2m2 : Method := { name := "min", desc := "(JJ)J", sig := { parameters := [.long, .long], returnType := some .long }, accessFlags := 9, code := some k2c2 }
/-- java/lang/Math -/
def k2 : Class := { plain "java/lang/Math" (some 0) with
  accessFlags := 49
  interfaces := #[]
  cf := some (fileOf pool2 1 #[.nestMembers #[98]] #[{ accessFlags := 2, nameIndex := 7, descriptorIndex := 8, attributes := #[] }, { accessFlags := 9, nameIndex := 198, descriptorIndex := 121, attributes := #[] }, { accessFlags := 9, nameIndex := 201, descriptorIndex := 121, attributes := #[] }] 49 4 #[] #[{ accessFlags := 25, nameIndex := 354, descriptorIndex := 339, attributes := #[] }, { accessFlags := 25, nameIndex := 358, descriptorIndex := 339, attributes := #[] }, { accessFlags := 25, nameIndex := 361, descriptorIndex := 339, attributes := #[] }, { accessFlags := 26, nameIndex := 364, descriptorIndex := 339, attributes := #[] }, { accessFlags := 26, nameIndex := 365, descriptorIndex := 339, attributes := #[] }, { accessFlags := 26, nameIndex := 172, descriptorIndex := 173, attributes := #[] }, { accessFlags := 26, nameIndex := 176, descriptorIndex := 173, attributes := #[] }, { accessFlags := 8, nameIndex := 344, descriptorIndex := 339, attributes := #[] }, { accessFlags := 8, nameIndex := 338, descriptorIndex := 339, attributes := #[] }, { accessFlags := 4120, nameIndex := 245, descriptorIndex := 246, attributes := #[] }])
  fields := #[{ name := "E", type := .double, accessFlags := 25, slot := 0, constantValue := 0 }, { name := "PI", type := .double, accessFlags := 25, slot := 1, constantValue := 0 }, { name := "TAU", type := .double, accessFlags := 25, slot := 2, constantValue := 0 }, { name := "DEGREES_TO_RADIANS", type := .double, accessFlags := 26, slot := 3, constantValue := 0 }, { name := "RADIANS_TO_DEGREES", type := .double, accessFlags := 26, slot := 4, constantValue := 0 }, { name := "negativeZeroFloatBits", type := .long, accessFlags := 26, slot := 5, constantValue := 0 }, { name := "negativeZeroDoubleBits", type := .long, accessFlags := 26, slot := 6, constantValue := 0 }, { name := "twoToTheDoubleScaleUp", type := .double, accessFlags := 8, slot := 7, constantValue := 0 }, { name := "twoToTheDoubleScaleDown", type := .double, accessFlags := 8, slot := 8, constantValue := 0 }, { name := "$assertionsDisabled", type := .boolean, accessFlags := 4120, slot := 9, constantValue := 0 }]
  methods := #[k2m0, k2m1, k2m2]
  instanceTypes := #[]
  staticTypes := #[.double, .double, .double, .double, .double, .long, .long, .double, .double, .boolean]
  resolved := Array.replicate 460 none
  statics := none }

def pool3 : Array CpInfo := pool [(3, .methodref 4 5), (0, .class_ 6), (0, .nameAndType 7 8), (0, u "java/lang/Object"), (0, u "<init>"), (0, u "()V"), (0, .fieldref 10 11), (0, .class_ 12), (0, .nameAndType 13 14), (0, u "com/example/tally_flows/tallyflows/charging/TimeWindow"), (0, u "start"), (0, u "J"), (0, .fieldref 10 16), (0, .nameAndType 17 14), (0, u "end"), (12, .long 9223372036854775807), (15, u "(JJ)V"), (15, u "ALWAYS"), (0, u "Lcom/example/tally_flows/tallyflows/charging/TimeWindow;"), (0, u "OPEN_START"), (1, u "OPEN_END"), (8, u "contains"), (0, u "(J)Z"), (2, u "isOverAt")] 21

def k3c0 : Code := { maxStack := 3, maxLocals := 5, code := prog_48_method_1_code, exceptionTable := #[], attributes := #[] }
def k3m0 : Method := { name := "<init>", desc := "(JJ)V", sig := { parameters := [.long, .long], returnType := none }, accessFlags := 0, code := some k3c0 }
def k3c1 : Code := { maxStack := 4, maxLocals := 3, code := prog_48_method_3_code, exceptionTable := #[], attributes := #[] }
def k3m1 : Method := { name := "contains", desc := "(J)Z", sig := { parameters := [.long], returnType := some .boolean }, accessFlags := 0, code := some k3c1 }
def k3c2 : Code := { maxStack := 4, maxLocals := 3, code := prog_48_method_5_code, exceptionTable := #[], attributes := #[] }
def k3m2 : Method := { name := "isOverAt", desc := "(J)Z", sig := { parameters := [.long], returnType := some .boolean }, accessFlags := 0, code := some k3c2 }
/-- com/example/tally_flows/tallyflows/charging/TimeWindow -/
def k3 : Class := { plain "com/example/tally_flows/tallyflows/charging/TimeWindow" (some 0) with
  accessFlags := 48
  interfaces := #[]
  cf := some (fileOf pool3 10 #[] #[{ accessFlags := 0, nameIndex := 7, descriptorIndex := 46, attributes := #[] }, { accessFlags := 0, nameIndex := 75, descriptorIndex := 76, attributes := #[] }, { accessFlags := 0, nameIndex := 79, descriptorIndex := 76, attributes := #[] }] 48 4 #[] #[{ accessFlags := 24, nameIndex := 64, descriptorIndex := 14, attributes := #[] }, { accessFlags := 24, nameIndex := 66, descriptorIndex := 14, attributes := #[] }, { accessFlags := 24, nameIndex := 62, descriptorIndex := 63, attributes := #[] }, { accessFlags := 18, nameIndex := 13, descriptorIndex := 14, attributes := #[] }, { accessFlags := 18, nameIndex := 17, descriptorIndex := 14, attributes := #[] }])
  fields := #[{ name := "OPEN_START", type := .long, accessFlags := 24, slot := 0, constantValue := 0 }, { name := "OPEN_END", type := .long, accessFlags := 24, slot := 1, constantValue := 0 }, { name := "ALWAYS", type := (.object "com/example/tally_flows/tallyflows/charging/TimeWindow"), accessFlags := 24, slot := 2, constantValue := 0 }, { name := "start", type := .long, accessFlags := 18, slot := 0, constantValue := 0 }, { name := "end", type := .long, accessFlags := 18, slot := 1, constantValue := 0 }]
  methods := #[k3m0, k3m1, k3m2]
  instanceTypes := #[.long, .long]
  staticTypes := #[.long, .long, (.object "com/example/tally_flows/tallyflows/charging/TimeWindow")]
  resolved := Array.replicate 101 none
  statics := none }

def pool4 : Array CpInfo := pool [(1, u "java/lang/Cloneable"), (0, .class_ 1), (0, u "java/lang/Object"), (0, .class_ 3)] 3

/-- java/lang/Cloneable -/
def k4 : Class := { plain "java/lang/Cloneable" (some 0) with
  accessFlags := 1537
  interfaces := #[]
  cf := some (fileOf pool4 2 #[] #[] 1537 4 #[] #[])
  fields := #[]
  methods := #[]
  instanceTypes := #[]
  staticTypes := #[]
  resolved := Array.replicate 8 none
  statics := none }

def pool5 : Array CpInfo := pool [(1, u "java/io/Serializable"), (0, .class_ 1), (0, u "java/lang/Object"), (0, .class_ 3)] 3

/-- java/io/Serializable -/
def k5 : Class := { plain "java/io/Serializable" (some 0) with
  accessFlags := 1537
  interfaces := #[]
  cf := some (fileOf pool5 2 #[] #[] 1537 4 #[] #[])
  fields := #[]
  methods := #[]
  instanceTypes := #[]
  staticTypes := #[]
  resolved := Array.replicate 8 none
  statics := none }

/-- the primitive byte -/
def k6 : Class := { plain "byte" none with kind := .primitive 'B', accessFlags := 0x411 }
/-- [B -/
def k7 : Class := { plain "[B" (some 0) with kind := .array 6 .byte, interfaces := #[4, 5], accessFlags := 1041 }

/-- the primitive int -/
def k8 : Class := { plain "int" none with kind := .primitive 'I', accessFlags := 0x411 }
/-- [I -/
def k9 : Class := { plain "[I" (some 0) with kind := .array 8 .int, interfaces := #[4, 5], accessFlags := 1041 }

def heap : Heap := #[]
def classes : Array Class := #[k0, k1, k2, k3, k4, k5, k6, k7, k8, k9]
def interned : List (Array UInt16 × Addr) := []
def slotsUsed : Nat := 0
def theMethod : MethodId := ⟨1, 1⟩
def args0 : Array Value := #[.long 5, .long 9, .long 7, .long 3, .int 0]
def aboutOver (below : List Frame) : State where
  vm := { classes := classes, interned := interned.toArray }
  heap := heap
  slotsUsed := slotsUsed
  threads := #[{ frames := .invoking theMethod args0 :: below }]
def below0 : List Frame := [.native { method := ⟨0, 0⟩, args := #[] }]
def about1 : State := aboutOver below0
def p0 : Program := .bare "" "" ""
def e0 : Env := launch0.env 0 0 0
theorem w_frames : about1.frames = Frame.invoking theMethod args0 :: below0 := rfl
set_option maxRecDepth 65536 in
theorem w_args : argsFit about1.vm theMethod args0 = true := by decide +kernel
set_option maxRecDepth 65536 in
theorem w_heap : heapFits about1 = true := by decide +kernel
set_option maxRecDepth 65536 in
theorem w_runnable : about1.curStatus? = some .runnable := by decide +kernel
set_option maxRecDepth 65536 in
theorem w_alone : about1.alone = true := by decide +kernel
set_option maxRecDepth 65536 in
theorem w_named : about1.methodNamed? x = some theMethod := by decide +kernel
set_option maxRecDepth 65536 in
theorem w_hears : about1.hears theMethod below0 = true := by decide +kernel
set_option maxRecDepth 65536 in
theorem w_ripe : about1.ripe theMethod args0 below0 = true := by decide +kernel
theorem w_running : about1.status = .running := rfl
set_option maxRecDepth 65536 in
theorem w_room : about1.hasRoom e0.platform room_1 = true :=
  launch0.hasRoom_least _ room_1 (by decide +kernel) (by decide +kernel) (by decide +kernel) (by decide +kernel) (by decide +kernel) (by decide +kernel)
theorem allAtoms_all (ts : List Jvm.Cond) (a : Array Jvm.Value) (st : Jvm.State) : (allAtoms ts).before a st = ts.all (fun c => c.before a st) := by
  induction ts with
  | nil => rfl
  | cons c t ih =>
    show (Jvm.Cond.and c (allAtoms t)).before a st = _
    rw [Jvm.Cond.before_and, ih, List.all_cons]
def words1 : List Jvm.Cond := Jvm.Cond.code x code maxLocals ret :: tables_1
/-- a 'code' word, met by the world's own term for the bytes: nothing is compared byte by byte -/
theorem code_word {y : MethodName} {bytes : ByteArray} {mx : Nat} {rt : Option FieldType} {a : Array Value} {s : State} {m : MethodId} {meth : Method} {c : Code} (h1 : s.methodNamed? y = some m) (h2 : s.vm.method? m = some meth) (h3 : meth.code = some c) (h4 : c.code = bytes)
    (h5 : (c.maxLocals == mx && c.exceptionTable.isEmpty && decide (c.maxStack ≤ mostOperands) && decide (meth.sig.returnType = rt) && !meth.locks && decide (parseMethodDescriptor y.desc = some meth.sig)) = true) : (Jvm.Cond.code y bytes mx rt).before a s = true := by
  simp only [Bool.and_eq_true, beq_iff_eq, Bool.not_eq_true', decide_eq_true_eq] at h5
  obtain ⟨⟨⟨⟨⟨g1, g2⟩, g3⟩, g4⟩, g5⟩, g6⟩ := h5
  simp [Cond.before, Cond.holds, Cond.value, h1, h2, h3, h4, g1, g2, g3, g4, g5, g6]
def isCode : Jvm.Cond → Bool
  | .code _ _ _ _ => true
  | _ => false
theorem all_split {L : List Jvm.Cond} {P : Jvm.Cond → Bool} (h1 : L.all (fun c => isCode c || P c) = true) (h2 : ∀ c ∈ L.filter isCode, P c = true) : L.all P = true := by
  refine List.all_eq_true.mpr fun c hc => ?_
  have h := List.all_eq_true.mp h1 c hc
  rcases Bool.eq_false_or_eq_true (isCode c) with hi | hi
  · exact h2 c (List.mem_filter.mpr ⟨hc, hi⟩)
  · simpa [hi] using h
set_option maxRecDepth 65536 in
theorem w_c0 : (Jvm.Cond.code x code maxLocals ret).before args0 about1 = true := code_word (m := ⟨1, 1⟩) (meth := k1m1) (c := k1c1) (by decide +kernel) rfl rfl rfl (by decide +kernel)
set_option maxRecDepth 65536 in
theorem w_c1 : (Jvm.Cond.code ({ cls := "java/lang/Math", name := "min", desc := "(JJ)J" } : Jvm.MethodName) jdk_29_method_70_code (4 : Nat) (Option.some Jvm.ClassFile.FieldType.long)).before args0 about1 = true := code_word (m := ⟨2, 2⟩) (meth := k2m2) (c := k2c2) (by decide +kernel) rfl rfl rfl (by decide +kernel)
set_option maxRecDepth 65536 in
theorem w_c2 : (Jvm.Cond.code ({ cls := "java/lang/Math", name := "max", desc := "(JJ)J" } : Jvm.MethodName) jdk_29_method_66_code (4 : Nat) (Option.some Jvm.ClassFile.FieldType.long)).before args0 about1 = true := code_word (m := ⟨2, 1⟩) (meth := k2m1) (c := k2c1) (by decide +kernel) rfl rfl rfl (by decide +kernel)
set_option maxRecDepth 65536 in
theorem w_c3 : (Jvm.Cond.code ({ cls := "com/example/tally_flows/tallyflows/charging/TimeWindow", name := "<init>", desc := "(JJ)V" } : Jvm.MethodName) prog_48_method_1_code (5 : Nat) (Option.none : Option Jvm.ClassFile.FieldType)).before args0 about1 = true := code_word (m := ⟨3, 0⟩) (meth := k3m0) (c := k3c0) (by decide +kernel) rfl rfl rfl (by decide +kernel)
set_option maxRecDepth 65536 in
theorem w_c4 : (Jvm.Cond.code ({ cls := "java/lang/Object", name := "<init>", desc := "()V" } : Jvm.MethodName) object_method_1_code (1 : Nat) (Option.none : Option Jvm.ClassFile.FieldType)).before args0 about1 = true := code_word (m := ⟨0, 0⟩) (meth := k0m0) (c := k0c0) (by decide +kernel) rfl rfl rfl (by decide +kernel)
set_option maxRecDepth 65536 in
theorem w_c5 : (Jvm.Cond.code ({ cls := "com/example/tally_flows/tallyflows/charging/TimeWindow", name := "isOverAt", desc := "(J)Z" } : Jvm.MethodName) prog_48_method_5_code (3 : Nat) (Option.some Jvm.ClassFile.FieldType.boolean)).before args0 about1 = true := code_word (m := ⟨3, 2⟩) (meth := k3m2) (c := k3c2) (by decide +kernel) rfl rfl rfl (by decide +kernel)
set_option maxRecDepth 65536 in
theorem w_c6 : (Jvm.Cond.code ({ cls := "com/example/tally_flows/tallyflows/charging/TimeWindow", name := "contains", desc := "(J)Z" } : Jvm.MethodName) prog_48_method_3_code (3 : Nat) (Option.some Jvm.ClassFile.FieldType.boolean)).before args0 about1 = true := code_word (m := ⟨3, 1⟩) (meth := k3m1) (c := k3c1) (by decide +kernel) rfl rfl rfl (by decide +kernel)
def codes1 : List Jvm.Cond := [Jvm.Cond.code x code maxLocals ret, Jvm.Cond.code ({ cls := "java/lang/Math", name := "min", desc := "(JJ)J" } : Jvm.MethodName) jdk_29_method_70_code (4 : Nat) (Option.some Jvm.ClassFile.FieldType.long), Jvm.Cond.code ({ cls := "java/lang/Math", name := "max", desc := "(JJ)J" } : Jvm.MethodName) jdk_29_method_66_code (4 : Nat) (Option.some Jvm.ClassFile.FieldType.long), Jvm.Cond.code ({ cls := "com/example/tally_flows/tallyflows/charging/TimeWindow", name := "<init>", desc := "(JJ)V" } : Jvm.MethodName) prog_48_method_1_code (5 : Nat) (Option.none : Option Jvm.ClassFile.FieldType), Jvm.Cond.code ({ cls := "java/lang/Object", name := "<init>", desc := "()V" } : Jvm.MethodName) object_method_1_code (1 : Nat) (Option.none : Option Jvm.ClassFile.FieldType), Jvm.Cond.code ({ cls := "com/example/tally_flows/tallyflows/charging/TimeWindow", name := "isOverAt", desc := "(J)Z" } : Jvm.MethodName) prog_48_method_5_code (3 : Nat) (Option.some Jvm.ClassFile.FieldType.boolean), Jvm.Cond.code ({ cls := "com/example/tally_flows/tallyflows/charging/TimeWindow", name := "contains", desc := "(J)Z" } : Jvm.MethodName) prog_48_method_3_code (3 : Nat) (Option.some Jvm.ClassFile.FieldType.boolean)]
set_option maxRecDepth 65536 in
theorem codes_eq : words1.filter isCode = codes1 := rfl
theorem w_codes : ∀ c ∈ words1.filter isCode, c.before args0 about1 = true := by
  rw [codes_eq]
  intro c hc
  simp only [codes1, List.mem_cons, List.not_mem_nil, or_false] at hc
  rcases hc with rfl | rfl | rfl | rfl | rfl | rfl | rfl
  · exact w_c0
  · exact w_c1
  · exact w_c2
  · exact w_c3
  · exact w_c4
  · exact w_c5
  · exact w_c6
set_option maxRecDepth 65536 in
theorem w_t1 : (words1.take 24).all (fun c => isCode c || c.before args0 about1) = true := by decide +kernel
set_option maxRecDepth 65536 in
theorem w_t2 : (words1.drop 24).all (fun c => isCode c || c.before args0 about1) = true := by decide +kernel
theorem w_tables : (allAtoms (Jvm.Cond.code x code maxLocals ret :: tables_1)).before args0 about1 = true := by
  rw [allAtoms_all]
  show words1.all (fun c => c.before args0 about1) = true
  refine all_split ?_ w_codes
  rw [← List.take_append_drop 24 words1, List.all_append, w_t1, w_t2]
  rfl
set_option maxRecDepth 65536 in
theorem w_case : (Jvm.Cond.and given_1 narrow_1).before args0 about1 = true := by decide +kernel
theorem w_applies : (headSpec (Jvm.Cond.code x code maxLocals ret :: tables_1) room_1).applies x e0.platform about1 = true :=
  (Spec.applies_iff w_frames).mpr ⟨w_running, w_runnable, w_alone, w_named, w_hears, w_ripe, w_room, w_tables⟩
theorem atStart : AtStart classFile x code maxLocals ret World_1 tables_1 room_1 Calls_1 rest_1 Pre_1 launch0 p0 e0 about1 theMethod args0 below0 :=
  ⟨lists_1, trivial, launch0.admits_env _ _ _, launch0.least_env, fairChoices_fair.cas, fairChoices_fair.clock, w_frames, w_args, w_heap, w_applies, trivial, trivial, w_case⟩
end start1
theorem witness_1 : WitnessClaimed_1 := ⟨start1.p0, start1.e0, start1.about1, start1.theMethod, start1.args0, start1.below0, start1.atStart⟩
end Jvm.Pilot.@@N@@
