import JvmDerived
import JvmDerived.Pilot.@@N@@Statement
import JvmDerived.Pilot.@@N@@Code
set_option linter.unusedVariables false
set_option linter.unusedSimpArgs false

namespace Jvm.Pilot.@@N@@
open Jvm Jvm.ClassFile Sem Op Lib Jvm.Free Jvm.Stand Jvm.LawKit Jvm.RoadKit Bundle Jvm.Pilot.@@N@@.Jvm.D
/-! own layer: 'from here the run ends, and Q holds of what it leaves' (own_Dn), stepped backwards -/
def own_Dn (p : Program) (e : Env) (below : List Frame) (s : State) (Q : Option Value → Heap → List Loc → Prop) (K N : Nat) (A : State) : Prop :=
  ∃ s₂ o, Steps p.tables e below A s₂ ∧ s₂.status = .running ∧ Ended s₂ below o ∧ ∃ v L, o = .returned v ∧ Q v s₂.heap L ∧ FrameEnd s o s₂ L K N
def own_Q (r : Option Value) (n0 : Nat) (h0 : Heap) (v : Option Value) (h : Heap) (L : List Loc) : Prop := v = r ∧ Fr n0 L ∧ h = h0
def own_QL (r : Option Value) (n0 : Nat) (v : Option Value) (h : Heap) (L : List Loc) : Prop := v = r ∧ Fr n0 L
def own_Cx (p : Program) (s : State) (m : MethodId) (meth : Method) (c : Code) (Z : State) (a0 : Array Value) (bytes : ByteArray) (ml : Nat) (own nm : String) (ret : Option FieldType) : Prop :=
  p.tables.exec = Jvm.exec ∧ Z.Warmed39 s.vm ∧ (∀ d ∈ tables_1, d.before a0 Z = true) ∧ c.code = bytes ∧ c.maxLocals = ml ∧ s.vm.findClass own = some m.cls ∧ meth.sig.returnType = ret ∧ meth.locks = false ∧ meth.name = nm
theorem own_st {p : Program} {e : Env} {below : List Frame} {s : State} {Q : Option Value → Heap → List Loc → Prop} {K N : Nat} {A B : State} (k : ∀ t, Steps p.tables e below B t → Steps p.tables e below A t) (d : own_Dn p e below s Q K N B) : own_Dn p e below s Q K N A := by
  obtain ⟨s₂, o, h, r⟩ := d
  exact ⟨s₂, o, k _ h, r⟩
theorem own_tr {p : Program} {e : Env} {below : List Frame} {s : State} {Q : Option Value → Heap → List Loc → Prop} {K N : Nat} {A B : State} (k : Steps p.tables e below A B) (d : own_Dn p e below s Q K N B) : own_Dn p e below s Q K N A :=
  own_st (fun _ h => k.trans h) d
theorem own_cat {v : Value} (h : v.isRef = true) : v.category = 1 := by
  cases v <;> first | rfl | (simp [Value.isRef] at h)
section own
variable {p : Program} {l : Launch} {e : Env} {R : Room} {s : State} {m : MethodId} {args : Array Value} {below : List Frame} {meth : Method} {c : Code} {T : State} {locs : List Loc} {cells slots : Nat} {Q : Option Value → Heap → List Loc → Prop} {K N : Nat}
theorem own_ret (X : Stand p l e R s m args below meth c T locs cells slots) (hlk : meth.locks = false) {v : Option Value} (hv : meth.sig.returnType = none → v = none) {A : State} (hK : cells ≤ K) (hN : slots ≤ N) (hq : Q v T.heap locs)
    (hst : ∀ fs, (∀ (f : JFrame) (acts : List Action), f.method = m → f.locked = none → f.entered = [] → (doReturn e (T.setTop f) acts v).1 = T.setFrames fs) → Steps p.tables e below A (T.setFrames fs)) : own_Dn p e below s Q K N A := by
  obtain ⟨fs, hr, hrun, hended, hW, hsame⟩ := X.leave (v := v) hv hlk
  exact ⟨_, _, hst fs hr, hrun, hended, _, _, rfl, hq, ⟨_, rfl⟩, hW, hsame.mono hK hN⟩
theorem own_retI (X : Stand p l e R s m args below meth c T locs cells slots) (hx : p.tables.exec = Jvm.exec) (hret : meth.sig.returnType = some .int) (hlk : meth.locks = false) {pc : Nat} {Ls : Array Slot} {z : Int32} {rest : List Value} (hd : decode c.code pc = .ok (.ireturn, 1)) (hK : cells ≤ K) (hN : slots ≤ N)
    (hq : Q (some (.int z)) T.heap locs) : own_Dn p e below s Q K N (T.setTop (mkF m pc Ls (.int z :: rest))) :=
  own_ret X hlk (fun h => by rw [hret] at h; cases h) hK hN hq (fun fs hr => retOut X hx hret rfl (Or.inl ⟨rfl, Or.inl rfl, _, rfl⟩) hd hr)
theorem own_retJ (X : Stand p l e R s m args below meth c T locs cells slots) (hx : p.tables.exec = Jvm.exec) (hret : meth.sig.returnType = some .long) (hlk : meth.locks = false) {pc : Nat} {Ls : Array Slot} {z : Int64} {rest : List Value} (hd : decode c.code pc = .ok (.lreturn, 1)) (hK : cells ≤ K) (hN : slots ≤ N)
    (hq : Q (some (.long z)) T.heap locs) : own_Dn p e below s Q K N (T.setTop (mkF m pc Ls (.long z :: rest))) :=
  own_ret X hlk (fun h => by rw [hret] at h; cases h) hK hN hq (fun fs hr => retOut X hx hret rfl (Or.inr (Or.inl ⟨rfl, rfl, _, rfl⟩)) hd hr)
theorem own_retZ (X : Stand p l e R s m args below meth c T locs cells slots) (hx : p.tables.exec = Jvm.exec) (hret : meth.sig.returnType = some .boolean) (hlk : meth.locks = false) {pc : Nat} {Ls : Array Slot} {z : Int32} {rest : List Value} (hz : z &&& 1 = z) (hd : decode c.code pc = .ok (.ireturn, 1)) (hK : cells ≤ K) (hN : slots ≤ N)
    (hq : Q (some (.int z)) T.heap locs) : own_Dn p e below s Q K N (T.setTop (mkF m pc Ls (.int z :: rest))) :=
  own_ret X hlk (fun h => by rw [hret] at h; cases h) hK hN hq (fun fs hr => retOut X hx (w := .int z) hret (show Value.int (z &&& 1) = .int z from congrArg Value.int hz) (Or.inl ⟨rfl, Or.inr (Or.inl rfl), _, rfl⟩) hd hr)
theorem own_retV (X : Stand p l e R s m args below meth c T locs cells slots) (hx : p.tables.exec = Jvm.exec) (hret : meth.sig.returnType = none) (hlk : meth.locks = false) {pc : Nat} {Ls : Array Slot} (hd : decode c.code pc = .ok (.return_, 1)) (hK : cells ≤ K) (hN : slots ≤ N)
    (hq : Q none T.heap locs) : own_Dn p e below s Q K N (T.setTop (mkF m pc Ls [])) :=
  own_ret X hlk (fun _ => rfl) hK hN hq (fun fs hr => X.returnOut hx hret hd hr)
theorem own_retA (X : Stand p l e R s m args below meth c T locs cells slots) (hx : p.tables.exec = Jvm.exec) {t : FieldType} (ht : t.isReference = true) (hret : meth.sig.returnType = some t) (hlk : meth.locks = false) {pc : Nat} {Ls : Array Slot} {w : Value} {rest : List Value} (hw : w.isRef = true) (hn : narrow t w = w) (hd : decode c.code pc = .ok (.areturn, 1)) (hK : cells ≤ K) (hN : slots ≤ N)
    (hq : Q (some w) T.heap locs) : own_Dn p e below s Q K N (T.setTop (mkF m pc Ls (w :: rest))) :=
  own_ret X hlk (fun h => by rw [hret] at h; cases h) hK hN hq (fun fs hr => retOut X hx hret hn (Or.inr (Or.inr (Or.inr (Or.inr ⟨rfl, ht, hw⟩)))) hd hr)
end own
theorem own_met {l : Launch} {Z : State} {a0 : Array Value} (hw : ∀ d ∈ tables_1, d.before a0 Z = true) {y : MethodName} {bytes : ByteArray} {ml : Nat} {ret : Option FieldType} {ws : List Jvm.Cond} {rm : Room} {as' : Array Value} {h0 : Heap} {Q : Option Value → Heap → List Loc → Prop} (hpl : plainFor y = true)
    (body : ∀ p e s m below meth c s₁, own_Cx p s m meth c Z a0 bytes ml y.cls y.name ret → Stand p l e rm s m as' below meth c s₁ [] 0 0 → s₁.heap = h0 → own_Dn p e below s Q rm.cells rm.slots (s₁.setTop (entryFrame m as' ml))) :
    MetFree l y (head1 (Jvm.Cond.code y bytes ml ret :: ws) rm) (fun a U => a = as' ∧ Z.Warmed39 U.vm ∧ U.heap = h0) (fun _ _ _ _ _ => True) (fun _ U o U' => ∃ v L, o = .returned v ∧ Q v U'.heap L ∧ FrameEnd U o U' L rm.cells rm.slots) := by
  refine MetFree.of_bodySF hpl hisR ?_
  intro p e s m args below meth c s₁ Bd hml0 hP hK
  obtain ⟨rfl, hZ, hh⟩ := hP
  exact body p e s m below meth c s₁ ⟨Bd.exec, hZ, hw, Bd.bytes, hml0, findClass_of_methodNamed Bd.named, Bd.returns, BodyLoose.notSynchronized Bd, (name_of_methodNamed Bd.named Bd.method).1⟩ (Stand.of_body Bd) (by rw [← hh, Bd.state]; rfl)
theorem own_jtlt {x y : Int64} (h : x < y) : ifCond.holds .lt (lcmpW x y) = true ∧ ifCond.holds .ge (lcmpW x y) = false ∧ ifCond.holds .gt (lcmpW y x) = true ∧ ifCond.holds .le (lcmpW y x) = false := by
  have h1 : lcmpW x y < 0 := by rw [lcW]; exact (lc_lt x y).mpr h
  have h2 : 0 < lcmpW y x := by rw [lcW]; exact (lc_gt y x).mpr h
  exact ⟨(if0 _ _).trans (tlt h1).1, (if0 _ _).trans (tlt h1).2.1, (if0 _ _).trans (tlt h2).2.2.1, (if0 _ _).trans (tlt h2).2.2.2⟩
theorem own_jflt {x y : Int64} (h : ¬ x < y) : ifCond.holds .lt (lcmpW x y) = false ∧ ifCond.holds .ge (lcmpW x y) = true ∧ ifCond.holds .gt (lcmpW y x) = false ∧ ifCond.holds .le (lcmpW y x) = true := by
  have h1 : ¬ lcmpW x y < 0 := by rw [lcW]; exact fun q => h ((lc_lt x y).mp q)
  have h2 : ¬ 0 < lcmpW y x := by rw [lcW]; exact fun q => h ((lc_gt y x).mp q)
  exact ⟨(if0 _ _).trans (flt h1).1, (if0 _ _).trans (flt h1).2.1, (if0 _ _).trans (flt h2).2.2.1, (if0 _ _).trans (flt h2).2.2.2⟩
theorem own_jteq {x y : Int64} (h : x = y) : ifCond.holds .eq (lcmpW x y) = true ∧ ifCond.holds .ne (lcmpW x y) = false := by
  have h1 : lcmpW x y = 0 := by rw [lcW]; exact (lc_eq x y).mpr h
  exact ⟨(if0 _ _).trans (teq h1).1, (if0 _ _).trans (teq h1).2⟩
theorem own_jfeq {x y : Int64} (h : ¬ x = y) : ifCond.holds .eq (lcmpW x y) = false ∧ ifCond.holds .ne (lcmpW x y) = true := by
  have h1 : ¬ lcmpW x y = 0 := by rw [lcW]; exact fun q => h ((lc_eq x y).mp q)
  exact ⟨(if0 _ _).trans (feq h1).1, (if0 _ _).trans (feq h1).2⟩
theorem own_miss (a : Int32) (ks : List Int32) (h : ∀ k ∈ ks, ¬ a = k) {ps : List (Int × Int)} (e : ps.map (·.1) = ks.map Int32.toInt) : ∀ p ∈ ps, p.1 ≠ a.toInt := by
  intro p hp q
  have h1 : p.1 ∈ ps.map (·.1) := List.mem_map.mpr ⟨p, hp, rfl⟩
  rw [e] at h1
  obtain ⟨k, hk, r⟩ := List.mem_map.mp h1
  exact h k hk (Int32.toInt_inj.mp (q.symm.trans r.symm))
theorem own_Sta_keep {Z : State} {h h' : Heap} {C n d : String} {v : Value} {a : Addr} {C' : String} (F : Sta Z h C n d v) (K : Keep h h' [a]) (E : Exa Z h a C') : Sta Z h' C n d v := by
  obtain ⟨cf, i, k, f, st, cell, h1, h2, h3, h4, h5, h6, h7⟩ := F
  obtain ⟨cl, k', e1, -, -, e4, -⟩ := E
  refine ⟨cf, i, k, f, st, cell, h1, h2, h3, h4, K.2.1 _ _ h5 (ninS (fun q => ?_) nin0), h6, h7⟩
  subst q
  cases h5.symm.trans e1
  rw [h6] at e4; cases e4
theorem own_Sta_keep0 {Z : State} {h h' : Heap} {C n d : String} {v : Value} (F : Sta Z h C n d v) (K : Keep h h' []) : Sta Z h' C n d v := by
  obtain ⟨cf, i, k, f, st, cell, h1, h2, h3, h4, h5, h6, h7⟩ := F
  exact ⟨cf, i, k, f, st, cell, h1, h2, h3, h4, K.2.1 _ _ h5 nin0, h6, h7⟩
theorem own_ne_or {r x : Addr} {ws : List Addr} {H : Heap} (h : r ∈ ws ∨ H.size ≤ r) (hl : x < H.size) (hn : x ∉ ws) : x ≠ r := fun e => h.elim (fun q => hn (e ▸ q)) (fun q => Nat.lt_irrefl _ (Nat.lt_of_lt_of_le (e ▸ hl) q))
theorem own_or_up {r : Addr} {ws ws' : List Addr} {h0 H : Heap} (h : r ∈ ws ∨ H.size ≤ r) (hk : h0.size ≤ H.size) (all : ∀ x ∈ ws, x ∈ ws' ∨ h0.size ≤ x) : r ∈ ws' ∨ h0.size ≤ r := h.elim (all r) (fun q => Or.inr (Nat.le_trans hk q))
theorem own_selp {Z s : State} {a0 args : Array Value} {y : MethodName} {n : Nat} (hZ : Z.Warmed39 s.vm) (w1 : (Cond.instantiable y.cls n).before a0 Z = true) (w2 : (Cond.instanceMethod y).before a0 Z = true) (w3 : (Cond.privateMethod y).before a0 Z = true) (hy : y.cls ≠ "java/lang/invoke/MethodHandle" ∧ y.cls ≠ "java/lang/invoke/VarHandle") : (Cond.selects y.cls y y).before args s = true := by
  have i1 : (Cond.instantiable y.cls n).before args s = true := mvT hZ w1
  obtain ⟨c, k, h1, h2, -, h4, -, -⟩ := Cond.instantiable_spec i1
  have h5 : k.isInterface = false := by
    cases hk : k.isInterface
    · rfl
    · rw [hk] at h4; simp at h4
  exact selects_self_of_private h1 h2 h5 (Cond.privateMethod_at (mvP hZ w3 (args := args))) (mvT hZ w2) hy

theorem own_pd0 : parseMethodDescriptor "(I)I" = some ⟨[.int], some .int⟩ := by decide +kernel
theorem mx_d0 : decode prog_17_method_2_code 0 = .ok (.iload_n 0, 1) := by decide +kernel
theorem mx_d1 : decode prog_17_method_2_code 1 = .ok (.istore_n 1, 1) := by decide +kernel
theorem mx_d2 : decode prog_17_method_2_code 2 = .ok (.iload_n 1, 1) := by decide +kernel
theorem mx_d3 : decode prog_17_method_2_code 3 = .ok (.iload_n 1, 1) := by decide +kernel
theorem mx_d4 : decode prog_17_method_2_code 4 = .ok (.bipush 16, 2) := by decide +kernel
theorem mx_d6 : decode prog_17_method_2_code 6 = .ok (.iushr, 1) := by decide +kernel
theorem mx_d7 : decode prog_17_method_2_code 7 = .ok (.ixor, 1) := by decide +kernel
theorem mx_d8 : decode prog_17_method_2_code 8 = .ok (.istore_n 1, 1) := by decide +kernel
theorem mx_d9 : decode prog_17_method_2_code 9 = .ok (.iload_n 1, 1) := by decide +kernel
theorem mx_d10 : decode prog_17_method_2_code 10 = .ok (.ldc 7, 2) := by decide +kernel
theorem mx_d12 : decode prog_17_method_2_code 12 = .ok (.imul, 1) := by decide +kernel
theorem mx_d13 : decode prog_17_method_2_code 13 = .ok (.istore_n 1, 1) := by decide +kernel
theorem mx_d14 : decode prog_17_method_2_code 14 = .ok (.iload_n 1, 1) := by decide +kernel
theorem mx_d15 : decode prog_17_method_2_code 15 = .ok (.iload_n 1, 1) := by decide +kernel
theorem mx_d16 : decode prog_17_method_2_code 16 = .ok (.bipush 13, 2) := by decide +kernel
theorem mx_d18 : decode prog_17_method_2_code 18 = .ok (.iushr, 1) := by decide +kernel
theorem mx_d19 : decode prog_17_method_2_code 19 = .ok (.ixor, 1) := by decide +kernel
theorem mx_d20 : decode prog_17_method_2_code 20 = .ok (.istore_n 1, 1) := by decide +kernel
theorem mx_d21 : decode prog_17_method_2_code 21 = .ok (.iload_n 1, 1) := by decide +kernel
theorem mx_d22 : decode prog_17_method_2_code 22 = .ok (.ldc 8, 2) := by decide +kernel
theorem mx_d24 : decode prog_17_method_2_code 24 = .ok (.imul, 1) := by decide +kernel
theorem mx_d25 : decode prog_17_method_2_code 25 = .ok (.istore_n 1, 1) := by decide +kernel
theorem mx_d26 : decode prog_17_method_2_code 26 = .ok (.iload_n 1, 1) := by decide +kernel
theorem mx_d27 : decode prog_17_method_2_code 27 = .ok (.iload_n 1, 1) := by decide +kernel
theorem mx_d28 : decode prog_17_method_2_code 28 = .ok (.bipush 16, 2) := by decide +kernel
theorem mx_d30 : decode prog_17_method_2_code 30 = .ok (.iushr, 1) := by decide +kernel
theorem mx_d31 : decode prog_17_method_2_code 31 = .ok (.ixor, 1) := by decide +kernel
theorem mx_d32 : decode prog_17_method_2_code 32 = .ok (.istore_n 1, 1) := by decide +kernel
theorem mx_d33 : decode prog_17_method_2_code 33 = .ok (.iload_n 1, 1) := by decide +kernel
theorem mx_d34 : decode prog_17_method_2_code 34 = .ok (.ireturn, 1) := by decide +kernel
def mx_f26 (p0 : Int32) (v1 : Int32) : Int32 :=
  (v1 ^^^ ((v1.toUInt32 >>> ((16 : Int32) &&& 31).toUInt32).toInt32))
set_option maxRecDepth 65536 in
set_option maxHeartbeats 40000000 in
theorem mx_c26 {l : Launch} {Z : State} {a0 : Array Value} {p0 : Int32} {h0 : Heap} {n0 : Nat} {p : Program} {e : Env} {s : State} {m : MethodId} {args : Array Value} {below : List Frame} {meth : Method} {c : Code} {T0 : State} {locs : List Loc} {r0 : Int32} (C0 : own_Cx p s m meth c Z a0 prog_17_method_2_code 2 "com/example/chasebound/chasebound/chase/Hashing" "mix" (some .int)) (X0 : Stand p l e ({ frames := 0, cells := 0, slots := 0, locals := 0 } : Room) s m args below meth c T0 locs 0 0) (e0 : T0.heap = h0) (N0 : Fr n0 locs) (v1 : Int32) (hr0 : r0 = mx_f26 p0 v1) :
    own_Dn p e below s (own_Q (some (.int r0)) n0 h0) ({ frames := 0, cells := 0, slots := 0, locals := 0 } : Room).cells ({ frames := 0, cells := 0, slots := 0, locals := 0 } : Room).slots (T0.setTop (mkF m 26 #[.val (.int p0), .val (.int v1)] [])) := by
  obtain ⟨hx, hZ, hw, hby, hml, hown, hret, hlk, hnm⟩ := id C0
  refine own_st (fun _ k => XS.iloadN X0.here hx rfl (hb hby mx_d26) rfl (XS.iloadN X0.here hx rfl (hb hby mx_d27) rfl (XS.bipush X0.here hx rfl (hb hby mx_d28) (XS.iushr X0.here hx rfl (hb hby mx_d30) rfl (XS.ixor X0.here hx rfl (hb hby mx_d31) rfl (XS.istoreN X0.here hx rfl (hb hby mx_d32) rfl (l' := #[.val (.int p0), .val (.int (v1 ^^^ ((v1.toUInt32 >>> ((16 : Int32) &&& 31).toUInt32).toInt32)))]) rfl (XS.iloadN X0.here hx rfl (hb hby mx_d33) rfl k))))))) ?_
  show own_Dn p e below s _ _ _ (T0.setTop (mkF m 34 #[.val (.int p0), .val (.int (v1 ^^^ ((v1.toUInt32 >>> ((16 : Int32) &&& 31).toUInt32).toInt32)))] [(.int (v1 ^^^ ((v1.toUInt32 >>> ((16 : Int32) &&& 31).toUInt32).toInt32)))]))
  exact own_retI X0 hx hret hlk (hb hby mx_d34) (by decide) (by decide) ⟨(by rw [hr0, mx_f26]), N0, e0⟩
def mx_f21 (p0 : Int32) (v1 : Int32) : Int32 :=
  mx_f26 p0 ((v1 * (-1028477387 : Int32)))
set_option maxRecDepth 65536 in
set_option maxHeartbeats 40000000 in
theorem mx_c21 {l : Launch} {Z : State} {a0 : Array Value} {p0 : Int32} {h0 : Heap} {n0 : Nat} {p : Program} {e : Env} {s : State} {m : MethodId} {args : Array Value} {below : List Frame} {meth : Method} {c : Code} {T0 : State} {locs : List Loc} {r0 : Int32} (C0 : own_Cx p s m meth c Z a0 prog_17_method_2_code 2 "com/example/chasebound/chasebound/chase/Hashing" "mix" (some .int)) (X0 : Stand p l e ({ frames := 0, cells := 0, slots := 0, locals := 0 } : Room) s m args below meth c T0 locs 0 0) (e0 : T0.heap = h0) (N0 : Fr n0 locs) (v1 : Int32) (hr0 : r0 = mx_f21 p0 v1) :
    own_Dn p e below s (own_Q (some (.int r0)) n0 h0) ({ frames := 0, cells := 0, slots := 0, locals := 0 } : Room).cells ({ frames := 0, cells := 0, slots := 0, locals := 0 } : Room).slots (T0.setTop (mkF m 21 #[.val (.int p0), .val (.int v1)] [])) := by
  obtain ⟨hx, hZ, hw, hby, hml, hown, hret, hlk, hnm⟩ := id C0
  refine own_st (fun _ k => XS.iloadN X0.here hx rfl (hb hby mx_d21) rfl (X0.ldcInt hx (index := 8) (v := (-1028477387 : Int32)) hown (mvT hZ (hw _ (List.mem_of_getElem? (i := 5) rfl))) (g := (mkF m 22 #[.val (.int p0), .val (.int v1)] [(.int v1)])) rfl (hb hby mx_d22) _ (XS.imul X0.here hx rfl (hb hby mx_d24) rfl (XS.istoreN X0.here hx rfl (hb hby mx_d25) rfl (l' := #[.val (.int p0), .val (.int (v1 * (-1028477387 : Int32)))]) rfl k)))) ?_
  show own_Dn p e below s _ _ _ (T0.setTop (mkF m 26 #[.val (.int p0), .val (.int (v1 * (-1028477387 : Int32)))] []))
  exact mx_c26 C0 X0 e0 N0 ((v1 * (-1028477387 : Int32))) (by rw [hr0, mx_f21])
def mx_f14 (p0 : Int32) (v1 : Int32) : Int32 :=
  mx_f21 p0 ((v1 ^^^ ((v1.toUInt32 >>> ((13 : Int32) &&& 31).toUInt32).toInt32)))
set_option maxRecDepth 65536 in
set_option maxHeartbeats 40000000 in
theorem mx_c14 {l : Launch} {Z : State} {a0 : Array Value} {p0 : Int32} {h0 : Heap} {n0 : Nat} {p : Program} {e : Env} {s : State} {m : MethodId} {args : Array Value} {below : List Frame} {meth : Method} {c : Code} {T0 : State} {locs : List Loc} {r0 : Int32} (C0 : own_Cx p s m meth c Z a0 prog_17_method_2_code 2 "com/example/chasebound/chasebound/chase/Hashing" "mix" (some .int)) (X0 : Stand p l e ({ frames := 0, cells := 0, slots := 0, locals := 0 } : Room) s m args below meth c T0 locs 0 0) (e0 : T0.heap = h0) (N0 : Fr n0 locs) (v1 : Int32) (hr0 : r0 = mx_f14 p0 v1) :
    own_Dn p e below s (own_Q (some (.int r0)) n0 h0) ({ frames := 0, cells := 0, slots := 0, locals := 0 } : Room).cells ({ frames := 0, cells := 0, slots := 0, locals := 0 } : Room).slots (T0.setTop (mkF m 14 #[.val (.int p0), .val (.int v1)] [])) := by
  obtain ⟨hx, hZ, hw, hby, hml, hown, hret, hlk, hnm⟩ := id C0
  refine own_st (fun _ k => XS.iloadN X0.here hx rfl (hb hby mx_d14) rfl (XS.iloadN X0.here hx rfl (hb hby mx_d15) rfl (XS.bipush X0.here hx rfl (hb hby mx_d16) (XS.iushr X0.here hx rfl (hb hby mx_d18) rfl (XS.ixor X0.here hx rfl (hb hby mx_d19) rfl (XS.istoreN X0.here hx rfl (hb hby mx_d20) rfl (l' := #[.val (.int p0), .val (.int (v1 ^^^ ((v1.toUInt32 >>> ((13 : Int32) &&& 31).toUInt32).toInt32)))]) rfl k)))))) ?_
  show own_Dn p e below s _ _ _ (T0.setTop (mkF m 21 #[.val (.int p0), .val (.int (v1 ^^^ ((v1.toUInt32 >>> ((13 : Int32) &&& 31).toUInt32).toInt32)))] []))
  exact mx_c21 C0 X0 e0 N0 ((v1 ^^^ ((v1.toUInt32 >>> ((13 : Int32) &&& 31).toUInt32).toInt32))) (by rw [hr0, mx_f14])
def mx_f9 (p0 : Int32) (v1 : Int32) : Int32 :=
  mx_f14 p0 ((v1 * (-2048144789 : Int32)))
set_option maxRecDepth 65536 in
set_option maxHeartbeats 40000000 in
theorem mx_c9 {l : Launch} {Z : State} {a0 : Array Value} {p0 : Int32} {h0 : Heap} {n0 : Nat} {p : Program} {e : Env} {s : State} {m : MethodId} {args : Array Value} {below : List Frame} {meth : Method} {c : Code} {T0 : State} {locs : List Loc} {r0 : Int32} (C0 : own_Cx p s m meth c Z a0 prog_17_method_2_code 2 "com/example/chasebound/chasebound/chase/Hashing" "mix" (some .int)) (X0 : Stand p l e ({ frames := 0, cells := 0, slots := 0, locals := 0 } : Room) s m args below meth c T0 locs 0 0) (e0 : T0.heap = h0) (N0 : Fr n0 locs) (v1 : Int32) (hr0 : r0 = mx_f9 p0 v1) :
    own_Dn p e below s (own_Q (some (.int r0)) n0 h0) ({ frames := 0, cells := 0, slots := 0, locals := 0 } : Room).cells ({ frames := 0, cells := 0, slots := 0, locals := 0 } : Room).slots (T0.setTop (mkF m 9 #[.val (.int p0), .val (.int v1)] [])) := by
  obtain ⟨hx, hZ, hw, hby, hml, hown, hret, hlk, hnm⟩ := id C0
  refine own_st (fun _ k => XS.iloadN X0.here hx rfl (hb hby mx_d9) rfl (X0.ldcInt hx (index := 7) (v := (-2048144789 : Int32)) hown (mvT hZ (hw _ (List.mem_of_getElem? (i := 4) rfl))) (g := (mkF m 10 #[.val (.int p0), .val (.int v1)] [(.int v1)])) rfl (hb hby mx_d10) _ (XS.imul X0.here hx rfl (hb hby mx_d12) rfl (XS.istoreN X0.here hx rfl (hb hby mx_d13) rfl (l' := #[.val (.int p0), .val (.int (v1 * (-2048144789 : Int32)))]) rfl k)))) ?_
  show own_Dn p e below s _ _ _ (T0.setTop (mkF m 14 #[.val (.int p0), .val (.int (v1 * (-2048144789 : Int32)))] []))
  exact mx_c14 C0 X0 e0 N0 ((v1 * (-2048144789 : Int32))) (by rw [hr0, mx_f9])
def mx_f (p0 : Int32)  : Int32 :=
  mx_f9 p0 ((p0 ^^^ ((p0.toUInt32 >>> ((16 : Int32) &&& 31).toUInt32).toInt32)))
set_option maxRecDepth 65536 in
set_option maxHeartbeats 40000000 in
theorem mx_c0 {l : Launch} {Z : State} {a0 : Array Value} {p0 : Int32} {h0 : Heap} {n0 : Nat} {p : Program} {e : Env} {s : State} {m : MethodId} {args : Array Value} {below : List Frame} {meth : Method} {c : Code} {T0 : State} {locs : List Loc} {r0 : Int32} (C0 : own_Cx p s m meth c Z a0 prog_17_method_2_code 2 "com/example/chasebound/chasebound/chase/Hashing" "mix" (some .int)) (X0 : Stand p l e ({ frames := 0, cells := 0, slots := 0, locals := 0 } : Room) s m args below meth c T0 locs 0 0) (e0 : T0.heap = h0) (N0 : Fr n0 locs)  (hr0 : r0 = mx_f p0 ) :
    own_Dn p e below s (own_Q (some (.int r0)) n0 h0) ({ frames := 0, cells := 0, slots := 0, locals := 0 } : Room).cells ({ frames := 0, cells := 0, slots := 0, locals := 0 } : Room).slots (T0.setTop (mkF m 0 #[.val (.int p0), .unset] [])) := by
  obtain ⟨hx, hZ, hw, hby, hml, hown, hret, hlk, hnm⟩ := id C0
  refine own_st (fun _ k => XS.iloadN X0.here hx rfl (hb hby mx_d0) rfl (XS.istoreN X0.here hx rfl (hb hby mx_d1) rfl (l' := #[.val (.int p0), .val (.int p0)]) rfl (XS.iloadN X0.here hx rfl (hb hby mx_d2) rfl (XS.iloadN X0.here hx rfl (hb hby mx_d3) rfl (XS.bipush X0.here hx rfl (hb hby mx_d4) (XS.iushr X0.here hx rfl (hb hby mx_d6) rfl (XS.ixor X0.here hx rfl (hb hby mx_d7) rfl (XS.istoreN X0.here hx rfl (hb hby mx_d8) rfl (l' := #[.val (.int p0), .val (.int (p0 ^^^ ((p0.toUInt32 >>> ((16 : Int32) &&& 31).toUInt32).toInt32)))]) rfl k)))))))) ?_
  show own_Dn p e below s _ _ _ (T0.setTop (mkF m 9 #[.val (.int p0), .val (.int (p0 ^^^ ((p0.toUInt32 >>> ((16 : Int32) &&& 31).toUInt32).toInt32)))] []))
  exact mx_c9 C0 X0 e0 N0 ((p0 ^^^ ((p0.toUInt32 >>> ((16 : Int32) &&& 31).toUInt32).toInt32))) (by rw [hr0, mx_f])
theorem mx_ef (m : MethodId) (p0 : Int32) : entryFrame m #[(.int p0)] 2 = mkF m 0 #[.val (.int p0), .unset] [] := by first | (simp [entryFrame, mkF, argsToLocals, Value.category]; done) | rfl
theorem mx_rm (l : Launch) (Z : State) (a0 : Array Value) (hw : ∀ d ∈ tables_1, d.before a0 Z = true) (ws : List Jvm.Cond) (p0 : Int32) (h0 : Heap) (n0 : Nat) :
    MetFree l (⟨"com/example/chasebound/chasebound/chase/Hashing", "mix", "(I)I"⟩ : MethodName) (head1 (Jvm.Cond.code (⟨"com/example/chasebound/chasebound/chase/Hashing", "mix", "(I)I"⟩ : MethodName) prog_17_method_2_code 2 (some .int) :: ws) ({ frames := 0, cells := 0, slots := 0, locals := 0 } : Room)) (fun a U => a = #[(.int p0)] ∧ Z.Warmed39 U.vm ∧ U.heap = h0) (fun _ _ _ _ _ => True) (fun _ U o U' => ∃ v L, o = .returned v ∧ (own_Q (some (.int (mx_f p0))) n0 h0) v U'.heap L ∧ FrameEnd U o U' L ({ frames := 0, cells := 0, slots := 0, locals := 0 } : Room).cells ({ frames := 0, cells := 0, slots := 0, locals := 0 } : Room).slots) :=
  own_met hw (plainFor_of_name (by first | (simp [plainName, overriddenIn]; done) | decide +kernel)) (fun p e s m below meth c T0 C0 X0 e0 => own_st (fun _ k => castTop (mx_ef m p0) k) (mx_c0 C0 X0 e0 (Fr.nil n0) rfl))
theorem io_d0 : decode method_2_code 0 = .ok (.iload_n 0, 1) := by decide +kernel
theorem io_d1 : decode method_2_code 1 = .ok (.istore_n 1, 1) := by decide +kernel
theorem io_d2 : decode method_2_code 2 = .ok (.iload_n 1, 1) := by decide +kernel
theorem io_d3 : decode method_2_code 3 = .ok (.iconst 2, 1) := by decide +kernel
theorem io_d4 : decode method_2_code 4 = .ok (.iload_n 0, 1) := by decide +kernel
theorem io_d5 : decode method_2_code 5 = .ok (.iload_n 1, 1) := by decide +kernel
theorem io_d6 : decode method_2_code 6 = .ok (.imul, 1) := by decide +kernel
theorem io_d7 : decode method_2_code 7 = .ok (.isub, 1) := by decide +kernel
theorem io_d8 : decode method_2_code 8 = .ok (.imul, 1) := by decide +kernel
theorem io_d9 : decode method_2_code 9 = .ok (.istore_n 1, 1) := by decide +kernel
theorem io_d10 : decode method_2_code 10 = .ok (.iload_n 1, 1) := by decide +kernel
theorem io_d11 : decode method_2_code 11 = .ok (.iconst 2, 1) := by decide +kernel
theorem io_d12 : decode method_2_code 12 = .ok (.iload_n 0, 1) := by decide +kernel
theorem io_d13 : decode method_2_code 13 = .ok (.iload_n 1, 1) := by decide +kernel
theorem io_d14 : decode method_2_code 14 = .ok (.imul, 1) := by decide +kernel
theorem io_d15 : decode method_2_code 15 = .ok (.isub, 1) := by decide +kernel
theorem io_d16 : decode method_2_code 16 = .ok (.imul, 1) := by decide +kernel
theorem io_d17 : decode method_2_code 17 = .ok (.istore_n 1, 1) := by decide +kernel
theorem io_d18 : decode method_2_code 18 = .ok (.iload_n 1, 1) := by decide +kernel
theorem io_d19 : decode method_2_code 19 = .ok (.iconst 2, 1) := by decide +kernel
theorem io_d20 : decode method_2_code 20 = .ok (.iload_n 0, 1) := by decide +kernel
theorem io_d21 : decode method_2_code 21 = .ok (.iload_n 1, 1) := by decide +kernel
theorem io_d22 : decode method_2_code 22 = .ok (.imul, 1) := by decide +kernel
theorem io_d23 : decode method_2_code 23 = .ok (.isub, 1) := by decide +kernel
theorem io_d24 : decode method_2_code 24 = .ok (.imul, 1) := by decide +kernel
theorem io_d25 : decode method_2_code 25 = .ok (.istore_n 1, 1) := by decide +kernel
theorem io_d26 : decode method_2_code 26 = .ok (.iload_n 1, 1) := by decide +kernel
theorem io_d27 : decode method_2_code 27 = .ok (.iconst 2, 1) := by decide +kernel
theorem io_d28 : decode method_2_code 28 = .ok (.iload_n 0, 1) := by decide +kernel
theorem io_d29 : decode method_2_code 29 = .ok (.iload_n 1, 1) := by decide +kernel
theorem io_d30 : decode method_2_code 30 = .ok (.imul, 1) := by decide +kernel
theorem io_d31 : decode method_2_code 31 = .ok (.isub, 1) := by decide +kernel
theorem io_d32 : decode method_2_code 32 = .ok (.imul, 1) := by decide +kernel
theorem io_d33 : decode method_2_code 33 = .ok (.istore_n 1, 1) := by decide +kernel
theorem io_d34 : decode method_2_code 34 = .ok (.iload_n 1, 1) := by decide +kernel
theorem io_d35 : decode method_2_code 35 = .ok (.iconst 2, 1) := by decide +kernel
theorem io_d36 : decode method_2_code 36 = .ok (.iload_n 0, 1) := by decide +kernel
theorem io_d37 : decode method_2_code 37 = .ok (.iload_n 1, 1) := by decide +kernel
theorem io_d38 : decode method_2_code 38 = .ok (.imul, 1) := by decide +kernel
theorem io_d39 : decode method_2_code 39 = .ok (.isub, 1) := by decide +kernel
theorem io_d40 : decode method_2_code 40 = .ok (.imul, 1) := by decide +kernel
theorem io_d41 : decode method_2_code 41 = .ok (.istore_n 1, 1) := by decide +kernel
theorem io_d42 : decode method_2_code 42 = .ok (.iload_n 1, 1) := by decide +kernel
theorem io_d43 : decode method_2_code 43 = .ok (.ireturn, 1) := by decide +kernel
def io_f34 (p0 : Int32) (v1 : Int32) : Int32 :=
  (v1 * ((2 : Int32) - (p0 * v1)))
set_option maxRecDepth 65536 in
set_option maxHeartbeats 40000000 in
theorem io_c34 {l : Launch} {Z : State} {a0 : Array Value} {p0 : Int32} {h0 : Heap} {n0 : Nat} {p : Program} {e : Env} {s : State} {m : MethodId} {args : Array Value} {below : List Frame} {meth : Method} {c : Code} {T0 : State} {locs : List Loc} {r0 : Int32} (C0 : own_Cx p s m meth c Z a0 method_2_code 2 "com/example/chasebound/chasebound/chase/HashingMixPinLaw" "inverseOdd" (some .int)) (X0 : Stand p l e ({ frames := 0, cells := 0, slots := 0, locals := 0 } : Room) s m args below meth c T0 locs 0 0) (e0 : T0.heap = h0) (N0 : Fr n0 locs) (v1 : Int32) (hr0 : r0 = io_f34 p0 v1) :
    own_Dn p e below s (own_Q (some (.int r0)) n0 h0) ({ frames := 0, cells := 0, slots := 0, locals := 0 } : Room).cells ({ frames := 0, cells := 0, slots := 0, locals := 0 } : Room).slots (T0.setTop (mkF m 34 #[.val (.int p0), .val (.int v1)] [])) := by
  obtain ⟨hx, hZ, hw, hby, hml, hown, hret, hlk, hnm⟩ := id C0
  refine own_st (fun _ k => XS.iloadN X0.here hx rfl (hb hby io_d34) rfl (XS.iconst X0.here hx rfl (hb hby io_d35) (XS.iloadN X0.here hx rfl (hb hby io_d36) rfl (XS.iloadN X0.here hx rfl (hb hby io_d37) rfl (XS.imul X0.here hx rfl (hb hby io_d38) rfl (XS.isub X0.here hx rfl (hb hby io_d39) rfl (XS.imul X0.here hx rfl (hb hby io_d40) rfl (XS.istoreN X0.here hx rfl (hb hby io_d41) rfl (l' := #[.val (.int p0), .val (.int (v1 * ((2 : Int32) - (p0 * v1))))]) rfl (XS.iloadN X0.here hx rfl (hb hby io_d42) rfl k))))))))) ?_
  show own_Dn p e below s _ _ _ (T0.setTop (mkF m 43 #[.val (.int p0), .val (.int (v1 * ((2 : Int32) - (p0 * v1))))] [(.int (v1 * ((2 : Int32) - (p0 * v1))))]))
  exact own_retI X0 hx hret hlk (hb hby io_d43) (by decide) (by decide) ⟨(by rw [hr0, io_f34]), N0, e0⟩
def io_f26 (p0 : Int32) (v1 : Int32) : Int32 :=
  io_f34 p0 ((v1 * ((2 : Int32) - (p0 * v1))))
set_option maxRecDepth 65536 in
set_option maxHeartbeats 40000000 in
theorem io_c26 {l : Launch} {Z : State} {a0 : Array Value} {p0 : Int32} {h0 : Heap} {n0 : Nat} {p : Program} {e : Env} {s : State} {m : MethodId} {args : Array Value} {below : List Frame} {meth : Method} {c : Code} {T0 : State} {locs : List Loc} {r0 : Int32} (C0 : own_Cx p s m meth c Z a0 method_2_code 2 "com/example/chasebound/chasebound/chase/HashingMixPinLaw" "inverseOdd" (some .int)) (X0 : Stand p l e ({ frames := 0, cells := 0, slots := 0, locals := 0 } : Room) s m args below meth c T0 locs 0 0) (e0 : T0.heap = h0) (N0 : Fr n0 locs) (v1 : Int32) (hr0 : r0 = io_f26 p0 v1) :
    own_Dn p e below s (own_Q (some (.int r0)) n0 h0) ({ frames := 0, cells := 0, slots := 0, locals := 0 } : Room).cells ({ frames := 0, cells := 0, slots := 0, locals := 0 } : Room).slots (T0.setTop (mkF m 26 #[.val (.int p0), .val (.int v1)] [])) := by
  obtain ⟨hx, hZ, hw, hby, hml, hown, hret, hlk, hnm⟩ := id C0
  refine own_st (fun _ k => XS.iloadN X0.here hx rfl (hb hby io_d26) rfl (XS.iconst X0.here hx rfl (hb hby io_d27) (XS.iloadN X0.here hx rfl (hb hby io_d28) rfl (XS.iloadN X0.here hx rfl (hb hby io_d29) rfl (XS.imul X0.here hx rfl (hb hby io_d30) rfl (XS.isub X0.here hx rfl (hb hby io_d31) rfl (XS.imul X0.here hx rfl (hb hby io_d32) rfl (XS.istoreN X0.here hx rfl (hb hby io_d33) rfl (l' := #[.val (.int p0), .val (.int (v1 * ((2 : Int32) - (p0 * v1))))]) rfl k)))))))) ?_
  show own_Dn p e below s _ _ _ (T0.setTop (mkF m 34 #[.val (.int p0), .val (.int (v1 * ((2 : Int32) - (p0 * v1))))] []))
  exact io_c34 C0 X0 e0 N0 ((v1 * ((2 : Int32) - (p0 * v1)))) (by rw [hr0, io_f26])
def io_f18 (p0 : Int32) (v1 : Int32) : Int32 :=
  io_f26 p0 ((v1 * ((2 : Int32) - (p0 * v1))))
set_option maxRecDepth 65536 in
set_option maxHeartbeats 40000000 in
theorem io_c18 {l : Launch} {Z : State} {a0 : Array Value} {p0 : Int32} {h0 : Heap} {n0 : Nat} {p : Program} {e : Env} {s : State} {m : MethodId} {args : Array Value} {below : List Frame} {meth : Method} {c : Code} {T0 : State} {locs : List Loc} {r0 : Int32} (C0 : own_Cx p s m meth c Z a0 method_2_code 2 "com/example/chasebound/chasebound/chase/HashingMixPinLaw" "inverseOdd" (some .int)) (X0 : Stand p l e ({ frames := 0, cells := 0, slots := 0, locals := 0 } : Room) s m args below meth c T0 locs 0 0) (e0 : T0.heap = h0) (N0 : Fr n0 locs) (v1 : Int32) (hr0 : r0 = io_f18 p0 v1) :
    own_Dn p e below s (own_Q (some (.int r0)) n0 h0) ({ frames := 0, cells := 0, slots := 0, locals := 0 } : Room).cells ({ frames := 0, cells := 0, slots := 0, locals := 0 } : Room).slots (T0.setTop (mkF m 18 #[.val (.int p0), .val (.int v1)] [])) := by
  obtain ⟨hx, hZ, hw, hby, hml, hown, hret, hlk, hnm⟩ := id C0
  refine own_st (fun _ k => XS.iloadN X0.here hx rfl (hb hby io_d18) rfl (XS.iconst X0.here hx rfl (hb hby io_d19) (XS.iloadN X0.here hx rfl (hb hby io_d20) rfl (XS.iloadN X0.here hx rfl (hb hby io_d21) rfl (XS.imul X0.here hx rfl (hb hby io_d22) rfl (XS.isub X0.here hx rfl (hb hby io_d23) rfl (XS.imul X0.here hx rfl (hb hby io_d24) rfl (XS.istoreN X0.here hx rfl (hb hby io_d25) rfl (l' := #[.val (.int p0), .val (.int (v1 * ((2 : Int32) - (p0 * v1))))]) rfl k)))))))) ?_
  show own_Dn p e below s _ _ _ (T0.setTop (mkF m 26 #[.val (.int p0), .val (.int (v1 * ((2 : Int32) - (p0 * v1))))] []))
  exact io_c26 C0 X0 e0 N0 ((v1 * ((2 : Int32) - (p0 * v1)))) (by rw [hr0, io_f18])
def io_f10 (p0 : Int32) (v1 : Int32) : Int32 :=
  io_f18 p0 ((v1 * ((2 : Int32) - (p0 * v1))))
set_option maxRecDepth 65536 in
set_option maxHeartbeats 40000000 in
theorem io_c10 {l : Launch} {Z : State} {a0 : Array Value} {p0 : Int32} {h0 : Heap} {n0 : Nat} {p : Program} {e : Env} {s : State} {m : MethodId} {args : Array Value} {below : List Frame} {meth : Method} {c : Code} {T0 : State} {locs : List Loc} {r0 : Int32} (C0 : own_Cx p s m meth c Z a0 method_2_code 2 "com/example/chasebound/chasebound/chase/HashingMixPinLaw" "inverseOdd" (some .int)) (X0 : Stand p l e ({ frames := 0, cells := 0, slots := 0, locals := 0 } : Room) s m args below meth c T0 locs 0 0) (e0 : T0.heap = h0) (N0 : Fr n0 locs) (v1 : Int32) (hr0 : r0 = io_f10 p0 v1) :
    own_Dn p e below s (own_Q (some (.int r0)) n0 h0) ({ frames := 0, cells := 0, slots := 0, locals := 0 } : Room).cells ({ frames := 0, cells := 0, slots := 0, locals := 0 } : Room).slots (T0.setTop (mkF m 10 #[.val (.int p0), .val (.int v1)] [])) := by
  obtain ⟨hx, hZ, hw, hby, hml, hown, hret, hlk, hnm⟩ := id C0
  refine own_st (fun _ k => XS.iloadN X0.here hx rfl (hb hby io_d10) rfl (XS.iconst X0.here hx rfl (hb hby io_d11) (XS.iloadN X0.here hx rfl (hb hby io_d12) rfl (XS.iloadN X0.here hx rfl (hb hby io_d13) rfl (XS.imul X0.here hx rfl (hb hby io_d14) rfl (XS.isub X0.here hx rfl (hb hby io_d15) rfl (XS.imul X0.here hx rfl (hb hby io_d16) rfl (XS.istoreN X0.here hx rfl (hb hby io_d17) rfl (l' := #[.val (.int p0), .val (.int (v1 * ((2 : Int32) - (p0 * v1))))]) rfl k)))))))) ?_
  show own_Dn p e below s _ _ _ (T0.setTop (mkF m 18 #[.val (.int p0), .val (.int (v1 * ((2 : Int32) - (p0 * v1))))] []))
  exact io_c18 C0 X0 e0 N0 ((v1 * ((2 : Int32) - (p0 * v1)))) (by rw [hr0, io_f10])
def io_f (p0 : Int32)  : Int32 :=
  io_f10 p0 ((p0 * ((2 : Int32) - (p0 * p0))))
set_option maxRecDepth 65536 in
set_option maxHeartbeats 40000000 in
theorem io_c0 {l : Launch} {Z : State} {a0 : Array Value} {p0 : Int32} {h0 : Heap} {n0 : Nat} {p : Program} {e : Env} {s : State} {m : MethodId} {args : Array Value} {below : List Frame} {meth : Method} {c : Code} {T0 : State} {locs : List Loc} {r0 : Int32} (C0 : own_Cx p s m meth c Z a0 method_2_code 2 "com/example/chasebound/chasebound/chase/HashingMixPinLaw" "inverseOdd" (some .int)) (X0 : Stand p l e ({ frames := 0, cells := 0, slots := 0, locals := 0 } : Room) s m args below meth c T0 locs 0 0) (e0 : T0.heap = h0) (N0 : Fr n0 locs)  (hr0 : r0 = io_f p0 ) :
    own_Dn p e below s (own_Q (some (.int r0)) n0 h0) ({ frames := 0, cells := 0, slots := 0, locals := 0 } : Room).cells ({ frames := 0, cells := 0, slots := 0, locals := 0 } : Room).slots (T0.setTop (mkF m 0 #[.val (.int p0), .unset] [])) := by
  obtain ⟨hx, hZ, hw, hby, hml, hown, hret, hlk, hnm⟩ := id C0
  refine own_st (fun _ k => XS.iloadN X0.here hx rfl (hb hby io_d0) rfl (XS.istoreN X0.here hx rfl (hb hby io_d1) rfl (l' := #[.val (.int p0), .val (.int p0)]) rfl (XS.iloadN X0.here hx rfl (hb hby io_d2) rfl (XS.iconst X0.here hx rfl (hb hby io_d3) (XS.iloadN X0.here hx rfl (hb hby io_d4) rfl (XS.iloadN X0.here hx rfl (hb hby io_d5) rfl (XS.imul X0.here hx rfl (hb hby io_d6) rfl (XS.isub X0.here hx rfl (hb hby io_d7) rfl (XS.imul X0.here hx rfl (hb hby io_d8) rfl (XS.istoreN X0.here hx rfl (hb hby io_d9) rfl (l' := #[.val (.int p0), .val (.int (p0 * ((2 : Int32) - (p0 * p0))))]) rfl k)))))))))) ?_
  show own_Dn p e below s _ _ _ (T0.setTop (mkF m 10 #[.val (.int p0), .val (.int (p0 * ((2 : Int32) - (p0 * p0))))] []))
  exact io_c10 C0 X0 e0 N0 ((p0 * ((2 : Int32) - (p0 * p0)))) (by rw [hr0, io_f])
theorem io_ef (m : MethodId) (p0 : Int32) : entryFrame m #[(.int p0)] 2 = mkF m 0 #[.val (.int p0), .unset] [] := by first | (simp [entryFrame, mkF, argsToLocals, Value.category]; done) | rfl
theorem io_rm (l : Launch) (Z : State) (a0 : Array Value) (hw : ∀ d ∈ tables_1, d.before a0 Z = true) (ws : List Jvm.Cond) (p0 : Int32) (h0 : Heap) (n0 : Nat) :
    MetFree l (⟨"com/example/chasebound/chasebound/chase/HashingMixPinLaw", "inverseOdd", "(I)I"⟩ : MethodName) (head1 (Jvm.Cond.code (⟨"com/example/chasebound/chasebound/chase/HashingMixPinLaw", "inverseOdd", "(I)I"⟩ : MethodName) method_2_code 2 (some .int) :: ws) ({ frames := 0, cells := 0, slots := 0, locals := 0 } : Room)) (fun a U => a = #[(.int p0)] ∧ Z.Warmed39 U.vm ∧ U.heap = h0) (fun _ _ _ _ _ => True) (fun _ U o U' => ∃ v L, o = .returned v ∧ (own_Q (some (.int (io_f p0))) n0 h0) v U'.heap L ∧ FrameEnd U o U' L ({ frames := 0, cells := 0, slots := 0, locals := 0 } : Room).cells ({ frames := 0, cells := 0, slots := 0, locals := 0 } : Room).slots) :=
  own_met hw (plainFor_of_name (by first | (simp [plainName, overriddenIn]; done) | decide +kernel)) (fun p e s m below meth c T0 C0 X0 e0 => own_st (fun _ k => castTop (io_ef m p0) k) (io_c0 C0 X0 e0 (Fr.nil n0) rfl))
theorem um_d0 : decode method_3_code 0 = .ok (.iload_n 0, 1) := by decide +kernel
theorem um_d1 : decode method_3_code 1 = .ok (.istore_n 1, 1) := by decide +kernel
theorem um_d2 : decode method_3_code 2 = .ok (.iload_n 1, 1) := by decide +kernel
theorem um_d3 : decode method_3_code 3 = .ok (.iload_n 1, 1) := by decide +kernel
theorem um_d4 : decode method_3_code 4 = .ok (.bipush 16, 2) := by decide +kernel
theorem um_d6 : decode method_3_code 6 = .ok (.iushr, 1) := by decide +kernel
theorem um_d7 : decode method_3_code 7 = .ok (.ixor, 1) := by decide +kernel
theorem um_d8 : decode method_3_code 8 = .ok (.istore_n 1, 1) := by decide +kernel
theorem um_d9 : decode method_3_code 9 = .ok (.iload_n 1, 1) := by decide +kernel
theorem um_d10 : decode method_3_code 10 = .ok (.ldc 7, 2) := by decide +kernel
theorem um_d12 : decode method_3_code 12 = .ok (.invokestatic 8, 3) := by decide +kernel
theorem um_d15 : decode method_3_code 15 = .ok (.imul, 1) := by decide +kernel
theorem um_d16 : decode method_3_code 16 = .ok (.istore_n 1, 1) := by decide +kernel
theorem um_d17 : decode method_3_code 17 = .ok (.iload_n 1, 1) := by decide +kernel
theorem um_d18 : decode method_3_code 18 = .ok (.iload_n 1, 1) := by decide +kernel
theorem um_d19 : decode method_3_code 19 = .ok (.bipush 13, 2) := by decide +kernel
theorem um_d21 : decode method_3_code 21 = .ok (.iushr, 1) := by decide +kernel
theorem um_d22 : decode method_3_code 22 = .ok (.ixor, 1) := by decide +kernel
theorem um_d23 : decode method_3_code 23 = .ok (.iload_n 1, 1) := by decide +kernel
theorem um_d24 : decode method_3_code 24 = .ok (.bipush 26, 2) := by decide +kernel
theorem um_d26 : decode method_3_code 26 = .ok (.iushr, 1) := by decide +kernel
theorem um_d27 : decode method_3_code 27 = .ok (.ixor, 1) := by decide +kernel
theorem um_d28 : decode method_3_code 28 = .ok (.istore_n 1, 1) := by decide +kernel
theorem um_d29 : decode method_3_code 29 = .ok (.iload_n 1, 1) := by decide +kernel
theorem um_d30 : decode method_3_code 30 = .ok (.ldc 14, 2) := by decide +kernel
theorem um_d32 : decode method_3_code 32 = .ok (.invokestatic 8, 3) := by decide +kernel
theorem um_d35 : decode method_3_code 35 = .ok (.imul, 1) := by decide +kernel
theorem um_d36 : decode method_3_code 36 = .ok (.istore_n 1, 1) := by decide +kernel
theorem um_d37 : decode method_3_code 37 = .ok (.iload_n 1, 1) := by decide +kernel
theorem um_d38 : decode method_3_code 38 = .ok (.iload_n 1, 1) := by decide +kernel
theorem um_d39 : decode method_3_code 39 = .ok (.bipush 16, 2) := by decide +kernel
theorem um_d41 : decode method_3_code 41 = .ok (.iushr, 1) := by decide +kernel
theorem um_d42 : decode method_3_code 42 = .ok (.ixor, 1) := by decide +kernel
theorem um_d43 : decode method_3_code 43 = .ok (.istore_n 1, 1) := by decide +kernel
theorem um_d44 : decode method_3_code 44 = .ok (.iload_n 1, 1) := by decide +kernel
theorem um_d45 : decode method_3_code 45 = .ok (.ireturn, 1) := by decide +kernel
def um_f37 (p0 : Int32) (v1 : Int32) : Int32 :=
  (v1 ^^^ ((v1.toUInt32 >>> ((16 : Int32) &&& 31).toUInt32).toInt32))
set_option maxRecDepth 65536 in
set_option maxHeartbeats 40000000 in
theorem um_c37 {l : Launch} {Z : State} {a0 : Array Value} {p0 : Int32} {h0 : Heap} {n0 : Nat} {p : Program} {e : Env} {s : State} {m : MethodId} {args : Array Value} {below : List Frame} {meth : Method} {c : Code} {T0 : State} {locs : List Loc} {r0 : Int32} (C0 : own_Cx p s m meth c Z a0 method_3_code 2 "com/example/chasebound/chasebound/chase/HashingMixPinLaw" "unmix" (some .int)) (X0 : Stand p l e ({ frames := 1, cells := 0, slots := 0, locals := 14 } : Room) s m args below meth c T0 locs 0 0) (e0 : T0.heap = h0) (N0 : Fr n0 locs) (v1 : Int32) (hr0 : r0 = um_f37 p0 v1) :
    own_Dn p e below s (own_Q (some (.int r0)) n0 h0) ({ frames := 1, cells := 0, slots := 0, locals := 14 } : Room).cells ({ frames := 1, cells := 0, slots := 0, locals := 14 } : Room).slots (T0.setTop (mkF m 37 #[.val (.int p0), .val (.int v1)] [])) := by
  obtain ⟨hx, hZ, hw, hby, hml, hown, hret, hlk, hnm⟩ := id C0
  refine own_st (fun _ k => XS.iloadN X0.here hx rfl (hb hby um_d37) rfl (XS.iloadN X0.here hx rfl (hb hby um_d38) rfl (XS.bipush X0.here hx rfl (hb hby um_d39) (XS.iushr X0.here hx rfl (hb hby um_d41) rfl (XS.ixor X0.here hx rfl (hb hby um_d42) rfl (XS.istoreN X0.here hx rfl (hb hby um_d43) rfl (l' := #[.val (.int p0), .val (.int (v1 ^^^ ((v1.toUInt32 >>> ((16 : Int32) &&& 31).toUInt32).toInt32)))]) rfl (XS.iloadN X0.here hx rfl (hb hby um_d44) rfl k))))))) ?_
  show own_Dn p e below s _ _ _ (T0.setTop (mkF m 45 #[.val (.int p0), .val (.int (v1 ^^^ ((v1.toUInt32 >>> ((16 : Int32) &&& 31).toUInt32).toInt32)))] [(.int (v1 ^^^ ((v1.toUInt32 >>> ((16 : Int32) &&& 31).toUInt32).toInt32)))]))
  exact own_retI X0 hx hret hlk (hb hby um_d45) (by decide) (by decide) ⟨(by rw [hr0, um_f37]), N0, e0⟩
def um_f29 (p0 : Int32) (v1 : Int32) : Int32 :=
  um_f37 p0 ((v1 * (io_f (-2048144789 : Int32))))
set_option maxRecDepth 65536 in
set_option maxHeartbeats 40000000 in
theorem um_c29 {l : Launch} {Z : State} {a0 : Array Value} {p0 : Int32} {h0 : Heap} {n0 : Nat} {p : Program} {e : Env} {s : State} {m : MethodId} {args : Array Value} {below : List Frame} {meth : Method} {c : Code} {T0 : State} {locs : List Loc} {r0 : Int32} (C0 : own_Cx p s m meth c Z a0 method_3_code 2 "com/example/chasebound/chasebound/chase/HashingMixPinLaw" "unmix" (some .int)) (X0 : Stand p l e ({ frames := 1, cells := 0, slots := 0, locals := 14 } : Room) s m args below meth c T0 locs 0 0) (e0 : T0.heap = h0) (N0 : Fr n0 locs) (v1 : Int32) (hr0 : r0 = um_f29 p0 v1) :
    own_Dn p e below s (own_Q (some (.int r0)) n0 h0) ({ frames := 1, cells := 0, slots := 0, locals := 14 } : Room).cells ({ frames := 1, cells := 0, slots := 0, locals := 14 } : Room).slots (T0.setTop (mkF m 29 #[.val (.int p0), .val (.int v1)] [])) := by
  obtain ⟨hx, hZ, hw, hby, hml, hown, hret, hlk, hnm⟩ := id C0
  refine own_st (fun _ k => XS.iloadN X0.here hx rfl (hb hby um_d29) rfl (X0.ldcInt hx (index := 14) (v := (-2048144789 : Int32)) hown (mvT hZ (hw _ (List.mem_of_getElem? (i := 14) rfl))) (g := (mkF m 30 #[.val (.int p0), .val (.int v1)] [(.int v1)])) rfl (hb hby um_d30) _ k)) ?_
  show own_Dn p e below s _ _ _ (T0.setTop (mkF m 32 #[.val (.int p0), .val (.int v1)] [(.int (-2048144789 : Int32)), (.int v1)]))
  obtain ⟨_, _, ⟨T4, L4, k4, n4⟩, -, X4, ⟨Lc4, hQ4, l4, y4, z4⟩, st4⟩ := Jvm.LawKit.callS X0 hx (y := (⟨"com/example/chasebound/chasebound/chase/HashingMixPinLaw", "inverseOdd", "(I)I"⟩ : MethodName)) hown (mvT hZ (hw _ (List.mem_of_getElem? (i := 11) rfl))) (mvT hZ (hw _ (List.mem_of_getElem? (i := 12) rfl))) (mvT hZ (hw _ (List.mem_of_getElem? (i := 8) rfl))) (mvT hZ (hw _ (List.mem_of_getElem? (i := 13) rfl))) (by decide) (backOf (W := 1) (io_rm l Z a0 hw [] ((-2048144789 : Int32)) h0 n0) hZ (hw _ (List.mem_of_getElem? (i := 13) rfl)) (hw _ (List.mem_of_getElem? (i := 8) rfl)) (by decide) (by decide)) (g := (mkF m 32 #[.val (.int p0), .val (.int v1)] [(.int (-2048144789 : Int32)), (.int v1)])) rfl (by rw [hml]; rfl) (argsL := [(.int (-2048144789 : Int32))]) (rest := [(.int v1)]) (lenOf own_pd0 rfl) rfl (by show 2 * 0 + _ ≤ _; exact Nat.le_of_eq rfl) (hb hby um_d32) (fun _ _ => ⟨rfl, e0, (by decide : 0 + 0 ≤ _), (by decide : 0 + 0 ≤ _)⟩)
  dsimp only [Pt.U, Pt.locs, Pt.cells, Pt.slots] at X4 l4 y4 z4 st4 hQ4
  subst l4 y4 z4
  obtain ⟨rfl, N4q, e4⟩ := hQ4
  have N4 := Fr.app N0 N4q
  refine own_st st4 ?_
  show own_Dn p e below s _ _ _ (T4.setTop (mkF m 35 #[.val (.int p0), .val (.int v1)] [(.int (io_f (-2048144789 : Int32))), (.int v1)]))
  refine own_st (fun _ k => XS.imul X4.here hx rfl (hb hby um_d35) rfl (XS.istoreN X4.here hx rfl (hb hby um_d36) rfl (l' := #[.val (.int p0), .val (.int (v1 * (io_f (-2048144789 : Int32))))]) rfl k)) ?_
  show own_Dn p e below s _ _ _ (T4.setTop (mkF m 37 #[.val (.int p0), .val (.int (v1 * (io_f (-2048144789 : Int32))))] []))
  exact um_c37 C0 X4 e4 N4 ((v1 * (io_f (-2048144789 : Int32)))) (by rw [hr0, um_f29])
def um_f17 (p0 : Int32) (v1 : Int32) : Int32 :=
  um_f29 p0 (((v1 ^^^ ((v1.toUInt32 >>> ((13 : Int32) &&& 31).toUInt32).toInt32)) ^^^ ((v1.toUInt32 >>> ((26 : Int32) &&& 31).toUInt32).toInt32)))
set_option maxRecDepth 65536 in
set_option maxHeartbeats 40000000 in
theorem um_c17 {l : Launch} {Z : State} {a0 : Array Value} {p0 : Int32} {h0 : Heap} {n0 : Nat} {p : Program} {e : Env} {s : State} {m : MethodId} {args : Array Value} {below : List Frame} {meth : Method} {c : Code} {T0 : State} {locs : List Loc} {r0 : Int32} (C0 : own_Cx p s m meth c Z a0 method_3_code 2 "com/example/chasebound/chasebound/chase/HashingMixPinLaw" "unmix" (some .int)) (X0 : Stand p l e ({ frames := 1, cells := 0, slots := 0, locals := 14 } : Room) s m args below meth c T0 locs 0 0) (e0 : T0.heap = h0) (N0 : Fr n0 locs) (v1 : Int32) (hr0 : r0 = um_f17 p0 v1) :
    own_Dn p e below s (own_Q (some (.int r0)) n0 h0) ({ frames := 1, cells := 0, slots := 0, locals := 14 } : Room).cells ({ frames := 1, cells := 0, slots := 0, locals := 14 } : Room).slots (T0.setTop (mkF m 17 #[.val (.int p0), .val (.int v1)] [])) := by
  obtain ⟨hx, hZ, hw, hby, hml, hown, hret, hlk, hnm⟩ := id C0
  refine own_st (fun _ k => XS.iloadN X0.here hx rfl (hb hby um_d17) rfl (XS.iloadN X0.here hx rfl (hb hby um_d18) rfl (XS.bipush X0.here hx rfl (hb hby um_d19) (XS.iushr X0.here hx rfl (hb hby um_d21) rfl (XS.ixor X0.here hx rfl (hb hby um_d22) rfl (XS.iloadN X0.here hx rfl (hb hby um_d23) rfl (XS.bipush X0.here hx rfl (hb hby um_d24) (XS.iushr X0.here hx rfl (hb hby um_d26) rfl (XS.ixor X0.here hx rfl (hb hby um_d27) rfl (XS.istoreN X0.here hx rfl (hb hby um_d28) rfl (l' := #[.val (.int p0), .val (.int ((v1 ^^^ ((v1.toUInt32 >>> ((13 : Int32) &&& 31).toUInt32).toInt32)) ^^^ ((v1.toUInt32 >>> ((26 : Int32) &&& 31).toUInt32).toInt32)))]) rfl k)))))))))) ?_
  show own_Dn p e below s _ _ _ (T0.setTop (mkF m 29 #[.val (.int p0), .val (.int ((v1 ^^^ ((v1.toUInt32 >>> ((13 : Int32) &&& 31).toUInt32).toInt32)) ^^^ ((v1.toUInt32 >>> ((26 : Int32) &&& 31).toUInt32).toInt32)))] []))
  exact um_c29 C0 X0 e0 N0 (((v1 ^^^ ((v1.toUInt32 >>> ((13 : Int32) &&& 31).toUInt32).toInt32)) ^^^ ((v1.toUInt32 >>> ((26 : Int32) &&& 31).toUInt32).toInt32))) (by rw [hr0, um_f17])
def um_f9 (p0 : Int32) (v1 : Int32) : Int32 :=
  um_f17 p0 ((v1 * (io_f (-1028477387 : Int32))))
set_option maxRecDepth 65536 in
set_option maxHeartbeats 40000000 in
theorem um_c9 {l : Launch} {Z : State} {a0 : Array Value} {p0 : Int32} {h0 : Heap} {n0 : Nat} {p : Program} {e : Env} {s : State} {m : MethodId} {args : Array Value} {below : List Frame} {meth : Method} {c : Code} {T0 : State} {locs : List Loc} {r0 : Int32} (C0 : own_Cx p s m meth c Z a0 method_3_code 2 "com/example/chasebound/chasebound/chase/HashingMixPinLaw" "unmix" (some .int)) (X0 : Stand p l e ({ frames := 1, cells := 0, slots := 0, locals := 14 } : Room) s m args below meth c T0 locs 0 0) (e0 : T0.heap = h0) (N0 : Fr n0 locs) (v1 : Int32) (hr0 : r0 = um_f9 p0 v1) :
    own_Dn p e below s (own_Q (some (.int r0)) n0 h0) ({ frames := 1, cells := 0, slots := 0, locals := 14 } : Room).cells ({ frames := 1, cells := 0, slots := 0, locals := 14 } : Room).slots (T0.setTop (mkF m 9 #[.val (.int p0), .val (.int v1)] [])) := by
  obtain ⟨hx, hZ, hw, hby, hml, hown, hret, hlk, hnm⟩ := id C0
  refine own_st (fun _ k => XS.iloadN X0.here hx rfl (hb hby um_d9) rfl (X0.ldcInt hx (index := 7) (v := (-1028477387 : Int32)) hown (mvT hZ (hw _ (List.mem_of_getElem? (i := 10) rfl))) (g := (mkF m 10 #[.val (.int p0), .val (.int v1)] [(.int v1)])) rfl (hb hby um_d10) _ k)) ?_
  show own_Dn p e below s _ _ _ (T0.setTop (mkF m 12 #[.val (.int p0), .val (.int v1)] [(.int (-1028477387 : Int32)), (.int v1)]))
  obtain ⟨_, _, ⟨T3, L3, k3, n3⟩, -, X3, ⟨Lc3, hQ3, l3, y3, z3⟩, st3⟩ := Jvm.LawKit.callS X0 hx (y := (⟨"com/example/chasebound/chasebound/chase/HashingMixPinLaw", "inverseOdd", "(I)I"⟩ : MethodName)) hown (mvT hZ (hw _ (List.mem_of_getElem? (i := 11) rfl))) (mvT hZ (hw _ (List.mem_of_getElem? (i := 12) rfl))) (mvT hZ (hw _ (List.mem_of_getElem? (i := 8) rfl))) (mvT hZ (hw _ (List.mem_of_getElem? (i := 13) rfl))) (by decide) (backOf (W := 1) (io_rm l Z a0 hw [] ((-1028477387 : Int32)) h0 n0) hZ (hw _ (List.mem_of_getElem? (i := 13) rfl)) (hw _ (List.mem_of_getElem? (i := 8) rfl)) (by decide) (by decide)) (g := (mkF m 12 #[.val (.int p0), .val (.int v1)] [(.int (-1028477387 : Int32)), (.int v1)])) rfl (by rw [hml]; rfl) (argsL := [(.int (-1028477387 : Int32))]) (rest := [(.int v1)]) (lenOf own_pd0 rfl) rfl (by show 2 * 0 + _ ≤ _; exact Nat.le_of_eq rfl) (hb hby um_d12) (fun _ _ => ⟨rfl, e0, (by decide : 0 + 0 ≤ _), (by decide : 0 + 0 ≤ _)⟩)
  dsimp only [Pt.U, Pt.locs, Pt.cells, Pt.slots] at X3 l3 y3 z3 st3 hQ3
  subst l3 y3 z3
  obtain ⟨rfl, N3q, e3⟩ := hQ3
  have N3 := Fr.app N0 N3q
  refine own_st st3 ?_
  show own_Dn p e below s _ _ _ (T3.setTop (mkF m 15 #[.val (.int p0), .val (.int v1)] [(.int (io_f (-1028477387 : Int32))), (.int v1)]))
  refine own_st (fun _ k => XS.imul X3.here hx rfl (hb hby um_d15) rfl (XS.istoreN X3.here hx rfl (hb hby um_d16) rfl (l' := #[.val (.int p0), .val (.int (v1 * (io_f (-1028477387 : Int32))))]) rfl k)) ?_
  show own_Dn p e below s _ _ _ (T3.setTop (mkF m 17 #[.val (.int p0), .val (.int (v1 * (io_f (-1028477387 : Int32))))] []))
  exact um_c17 C0 X3 e3 N3 ((v1 * (io_f (-1028477387 : Int32)))) (by rw [hr0, um_f9])
def um_f (p0 : Int32)  : Int32 :=
  um_f9 p0 ((p0 ^^^ ((p0.toUInt32 >>> ((16 : Int32) &&& 31).toUInt32).toInt32)))
set_option maxRecDepth 65536 in
set_option maxHeartbeats 40000000 in
theorem um_c0 {l : Launch} {Z : State} {a0 : Array Value} {p0 : Int32} {h0 : Heap} {n0 : Nat} {p : Program} {e : Env} {s : State} {m : MethodId} {args : Array Value} {below : List Frame} {meth : Method} {c : Code} {T0 : State} {locs : List Loc} {r0 : Int32} (C0 : own_Cx p s m meth c Z a0 method_3_code 2 "com/example/chasebound/chasebound/chase/HashingMixPinLaw" "unmix" (some .int)) (X0 : Stand p l e ({ frames := 1, cells := 0, slots := 0, locals := 14 } : Room) s m args below meth c T0 locs 0 0) (e0 : T0.heap = h0) (N0 : Fr n0 locs)  (hr0 : r0 = um_f p0 ) :
    own_Dn p e below s (own_Q (some (.int r0)) n0 h0) ({ frames := 1, cells := 0, slots := 0, locals := 14 } : Room).cells ({ frames := 1, cells := 0, slots := 0, locals := 14 } : Room).slots (T0.setTop (mkF m 0 #[.val (.int p0), .unset] [])) := by
  obtain ⟨hx, hZ, hw, hby, hml, hown, hret, hlk, hnm⟩ := id C0
  refine own_st (fun _ k => XS.iloadN X0.here hx rfl (hb hby um_d0) rfl (XS.istoreN X0.here hx rfl (hb hby um_d1) rfl (l' := #[.val (.int p0), .val (.int p0)]) rfl (XS.iloadN X0.here hx rfl (hb hby um_d2) rfl (XS.iloadN X0.here hx rfl (hb hby um_d3) rfl (XS.bipush X0.here hx rfl (hb hby um_d4) (XS.iushr X0.here hx rfl (hb hby um_d6) rfl (XS.ixor X0.here hx rfl (hb hby um_d7) rfl (XS.istoreN X0.here hx rfl (hb hby um_d8) rfl (l' := #[.val (.int p0), .val (.int (p0 ^^^ ((p0.toUInt32 >>> ((16 : Int32) &&& 31).toUInt32).toInt32)))]) rfl k)))))))) ?_
  show own_Dn p e below s _ _ _ (T0.setTop (mkF m 9 #[.val (.int p0), .val (.int (p0 ^^^ ((p0.toUInt32 >>> ((16 : Int32) &&& 31).toUInt32).toInt32)))] []))
  exact um_c9 C0 X0 e0 N0 ((p0 ^^^ ((p0.toUInt32 >>> ((16 : Int32) &&& 31).toUInt32).toInt32))) (by rw [hr0, um_f])
theorem um_ef (m : MethodId) (p0 : Int32) : entryFrame m #[(.int p0)] 2 = mkF m 0 #[.val (.int p0), .unset] [] := by first | (simp [entryFrame, mkF, argsToLocals, Value.category]; done) | rfl
theorem um_rm (l : Launch) (Z : State) (a0 : Array Value) (hw : ∀ d ∈ tables_1, d.before a0 Z = true) (ws : List Jvm.Cond) (p0 : Int32) (h0 : Heap) (n0 : Nat) :
    MetFree l (⟨"com/example/chasebound/chasebound/chase/HashingMixPinLaw", "unmix", "(I)I"⟩ : MethodName) (head1 (Jvm.Cond.code (⟨"com/example/chasebound/chasebound/chase/HashingMixPinLaw", "unmix", "(I)I"⟩ : MethodName) method_3_code 2 (some .int) :: ws) ({ frames := 1, cells := 0, slots := 0, locals := 14 } : Room)) (fun a U => a = #[(.int p0)] ∧ Z.Warmed39 U.vm ∧ U.heap = h0) (fun _ _ _ _ _ => True) (fun _ U o U' => ∃ v L, o = .returned v ∧ (own_Q (some (.int (um_f p0))) n0 h0) v U'.heap L ∧ FrameEnd U o U' L ({ frames := 1, cells := 0, slots := 0, locals := 14 } : Room).cells ({ frames := 1, cells := 0, slots := 0, locals := 14 } : Room).slots) :=
  own_met hw (plainFor_of_name (by first | (simp [plainName, overriddenIn]; done) | decide +kernel)) (fun p e s m below meth c T0 C0 X0 e0 => own_st (fun _ k => castTop (um_ef m p0) k) (um_c0 C0 X0 e0 (Fr.nil n0) rfl))
theorem lw_d0 : decode code 0 = .ok (.iload_n 0, 1) := by decide +kernel
theorem lw_d1 : decode code 1 = .ok (.invokestatic 15, 3) := by decide +kernel
theorem lw_d4 : decode code 4 = .ok (.istore_n 1, 1) := by decide +kernel
theorem lw_d5 : decode code 5 = .ok (.iload_n 1, 1) := by decide +kernel
theorem lw_d6 : decode code 6 = .ok (.invokestatic 20, 3) := by decide +kernel
theorem lw_d9 : decode code 9 = .ok (.iload_n 0, 1) := by decide +kernel
theorem lw_d10 : decode code 10 = .ok (.if_icmp .ne 7, 3) := by decide +kernel
theorem lw_d13 : decode code 13 = .ok (.iconst 1, 1) := by decide +kernel
theorem lw_d14 : decode code 14 = .ok (.goto 4, 3) := by decide +kernel
theorem lw_d17 : decode code 17 = .ok (.iconst 0, 1) := by decide +kernel
theorem lw_d18 : decode code 18 = .ok (.ireturn, 1) := by decide +kernel
def lw_f (p0 : Int32)  : Int32 :=
  if (um_f (mx_f p0)) = p0 then
    (1 : Int32)
  else
    (0 : Int32)
set_option maxRecDepth 65536 in
set_option maxHeartbeats 40000000 in
theorem lw_c0 {l : Launch} {Z : State} {a0 : Array Value} {p0 : Int32} {h0 : Heap} {n0 : Nat} {p : Program} {e : Env} {s : State} {m : MethodId} {args : Array Value} {below : List Frame} {meth : Method} {c : Code} {T0 : State} {locs : List Loc} {r0 : Int32} (C0 : own_Cx p s m meth c Z a0 code 2 "com/example/chasebound/chasebound/chase/HashingMixPinLaw" "law" (some .boolean)) (X0 : Stand p l e room_1 s m args below meth c T0 locs 0 0) (e0 : T0.heap = h0) (N0 : Fr n0 locs)  (hr0 : r0 = lw_f p0 ) :
    own_Dn p e below s (own_QL (some (.int r0)) n0) room_1.cells room_1.slots (T0.setTop (mkF m 0 #[.val (.int p0), .unset] [])) := by
  obtain ⟨hx, hZ, hw, hby, hml, hown, hret, hlk, hnm⟩ := id C0
  refine own_st (fun _ k => XS.iloadN X0.here hx rfl (hb hby lw_d0) rfl k) ?_
  show own_Dn p e below s _ _ _ (T0.setTop (mkF m 1 #[.val (.int p0), .unset] [(.int p0)]))
  obtain ⟨_, _, ⟨T4, L4, k4, n4⟩, -, X4, ⟨Lc4, hQ4, l4, y4, z4⟩, st4⟩ := Jvm.LawKit.callS X0 hx (y := (⟨"com/example/chasebound/chasebound/chase/Hashing", "mix", "(I)I"⟩ : MethodName)) hown (mvT hZ (hw _ (List.mem_of_getElem? (i := 0) rfl))) (mvT hZ (hw _ (List.mem_of_getElem? (i := 1) rfl))) (mvT hZ (hw _ (List.mem_of_getElem? (i := 2) rfl))) (mvT hZ (hw _ (List.mem_of_getElem? (i := 3) rfl))) (by decide) (backOf (W := 0) (mx_rm l Z a0 hw [] (p0) h0 n0) hZ (hw _ (List.mem_of_getElem? (i := 3) rfl)) (hw _ (List.mem_of_getElem? (i := 2) rfl)) (by decide) (by decide)) (g := (mkF m 1 #[.val (.int p0), .unset] [(.int p0)])) rfl (by rw [hml]; rfl) (argsL := [(.int p0)]) (rest := []) (lenOf own_pd0 rfl) rfl (by show 2 * 0 + _ ≤ _; exact Nat.le_of_eq rfl) (hb hby lw_d1) (fun _ _ => ⟨rfl, e0, (by decide : 0 + 0 ≤ _), (by decide : 0 + 0 ≤ _)⟩)
  dsimp only [Pt.U, Pt.locs, Pt.cells, Pt.slots] at X4 l4 y4 z4 st4 hQ4
  subst l4 y4 z4
  obtain ⟨rfl, N4q, e4⟩ := hQ4
  have N4 := Fr.app N0 N4q
  refine own_st st4 ?_
  show own_Dn p e below s _ _ _ (T4.setTop (mkF m 4 #[.val (.int p0), .unset] [(.int (mx_f p0))]))
  refine own_st (fun _ k => XS.istoreN X4.here hx rfl (hb hby lw_d4) rfl (l' := #[.val (.int p0), .val (.int (mx_f p0))]) rfl (XS.iloadN X4.here hx rfl (hb hby lw_d5) rfl k)) ?_
  show own_Dn p e below s _ _ _ (T4.setTop (mkF m 6 #[.val (.int p0), .val (.int (mx_f p0))] [(.int (mx_f p0))]))
  obtain ⟨_, _, ⟨T5, L5, k5, n5⟩, -, X5, ⟨Lc5, hQ5, l5, y5, z5⟩, st5⟩ := Jvm.LawKit.callS X4 hx (y := (⟨"com/example/chasebound/chasebound/chase/HashingMixPinLaw", "unmix", "(I)I"⟩ : MethodName)) hown (mvT hZ (hw _ (List.mem_of_getElem? (i := 6) rfl))) (mvT hZ (hw _ (List.mem_of_getElem? (i := 7) rfl))) (mvT hZ (hw _ (List.mem_of_getElem? (i := 8) rfl))) (mvT hZ (hw _ (List.mem_of_getElem? (i := 9) rfl))) (by decide) (backOf (W := 0) (um_rm l Z a0 hw [] ((mx_f p0)) h0 n0) hZ (hw _ (List.mem_of_getElem? (i := 9) rfl)) (hw _ (List.mem_of_getElem? (i := 8) rfl)) (by decide) (by decide)) (g := (mkF m 6 #[.val (.int p0), .val (.int (mx_f p0))] [(.int (mx_f p0))])) rfl (by rw [hml]; rfl) (argsL := [(.int (mx_f p0))]) (rest := []) (lenOf own_pd0 rfl) rfl (by show 2 * 0 + _ ≤ _; exact Nat.le_of_eq rfl) (hb hby lw_d6) (fun _ _ => ⟨rfl, e4, (by decide : 0 + 0 ≤ _), (by decide : 0 + 0 ≤ _)⟩)
  dsimp only [Pt.U, Pt.locs, Pt.cells, Pt.slots] at X5 l5 y5 z5 st5 hQ5
  subst l5 y5 z5
  obtain ⟨rfl, N5q, e5⟩ := hQ5
  have N5 := Fr.app N4 N5q
  refine own_st st5 ?_
  show own_Dn p e below s _ _ _ (T5.setTop (mkF m 9 #[.val (.int p0), .val (.int (mx_f p0))] [(.int (um_f (mx_f p0)))]))
  refine own_st (fun _ k => XS.iloadN X5.here hx rfl (hb hby lw_d9) rfl k) ?_
  show own_Dn p e below s _ _ _ (T5.setTop (mkF m 10 #[.val (.int p0), .val (.int (mx_f p0))] [(.int p0), (.int (um_f (mx_f p0)))]))
  by_cases hc6 : (um_f (mx_f p0)) = p0
  · refine own_st (fun _ k => XS.icmpNo X5.here hx rfl (hb hby lw_d10) rfl (teq hc6).2 k) ?_
    show own_Dn p e below s _ _ _ (T5.setTop (mkF m 13 #[.val (.int p0), .val (.int (mx_f p0))] []))
    refine own_st (fun _ k => XS.iconst X5.here hx rfl (hb hby lw_d13) (XS.goto X5.here hx rfl (pc0 := 14) (pc' := 18) rfl (hb hby lw_d14) (by decide) (by decide) k)) ?_
    show own_Dn p e below s _ _ _ (T5.setTop (mkF m 18 #[.val (.int p0), .val (.int (mx_f p0))] [(.int (1 : Int32))]))
    exact own_retZ X5 hx hret hlk (by decide) (hb hby lw_d18) (by decide) (by decide) ⟨(by rw [hr0, lw_f, if_pos hc6]), N5⟩
  · refine own_st (fun _ k => XS.icmpYes X5.here hx rfl (pc0 := 10) (pc' := 17) rfl (hb hby lw_d10) rfl (feq hc6).2 (by decide) (by decide) k) ?_
    show own_Dn p e below s _ _ _ (T5.setTop (mkF m 17 #[.val (.int p0), .val (.int (mx_f p0))] []))
    refine own_st (fun _ k => XS.iconst X5.here hx rfl (hb hby lw_d17) k) ?_
    show own_Dn p e below s _ _ _ (T5.setTop (mkF m 18 #[.val (.int p0), .val (.int (mx_f p0))] [(.int (0 : Int32))]))
    exact own_retZ X5 hx hret hlk (by decide) (hb hby lw_d18) (by decide) (by decide) ⟨(by rw [hr0, lw_f, if_neg hc6]), N5⟩
theorem lw_ef (m : MethodId) (p0 : Int32) : entryFrame m #[(.int p0)] maxLocals = mkF m 0 #[.val (.int p0), .unset] [] := by first | (simp [entryFrame, mkF, argsToLocals, Value.category, maxLocals]; done) | rfl
theorem lw_rm (l : Launch) (Z : State) (a0 : Array Value) (hw : ∀ d ∈ tables_1, d.before a0 Z = true) (ws : List Jvm.Cond) (p0 : Int32) (h0 : Heap) (n0 : Nat) :
    MetFree l x (head1 (Jvm.Cond.code x code maxLocals ret :: ws) room_1) (fun a U => a = #[(.int p0)] ∧ Z.Warmed39 U.vm ∧ U.heap = h0) (fun _ _ _ _ _ => True) (fun _ U o U' => ∃ v L, o = .returned v ∧ (own_QL (some (.int (lw_f p0))) n0) v U'.heap L ∧ FrameEnd U o U' L room_1.cells room_1.slots) :=
  own_met hw (plainFor_of_name (by first | (simp [plainName, overriddenIn]; done) | decide +kernel)) (fun p e s m below meth c T0 C0 X0 e0 => own_st (fun _ k => castTop (lw_ef m p0) k) (lw_c0 C0 X0 e0 (Fr.nil n0) rfl))
theorem own_sh (x : Int32) (k : Int32) (n : Nat) (hk : (k &&& 31).toUInt32.toNat = n) (hn : n < 32) : ((x.toUInt32 >>> (k &&& 31).toUInt32).toInt32).toBitVec = x.toBitVec >>> n := by
  have h : ((x.toUInt32 >>> (k &&& 31).toUInt32).toInt32).toBitVec = x.toBitVec >>> (BitVec.umod (k &&& 31).toUInt32.toBitVec 32#32) := rfl
  rw [h]
  have e : (BitVec.umod (k &&& 31).toUInt32.toBitVec 32#32).toNat = n := by
    have : (BitVec.umod (k &&& 31).toUInt32.toBitVec 32#32).toNat = (k &&& 31).toUInt32.toNat % 32 := by
      show ((k &&& 31).toUInt32.toBitVec % 32#32).toNat = _
      rw [BitVec.toNat_umod]; rfl
    rw [this, hk, Nat.mod_eq_of_lt hn]
  rw [BitVec.ushiftRight_eq', e]
theorem own_x16 (x : BitVec 32) : (x ^^^ (x >>> 16)) ^^^ ((x ^^^ (x >>> 16)) >>> 16) = x := by
  ext i hi
  simp
  rw [BitVec.getLsbD_of_ge _ _ (by omega)]
  simp
theorem own_x13 (x : BitVec 32) : (x ^^^ (x >>> 13)) ^^^ ((x ^^^ (x >>> 13)) >>> 13) ^^^ ((x ^^^ (x >>> 13)) >>> 26) = x := by
  ext i hi
  simp
  rw [show 13 + (13 + i) = 26 + i by omega, BitVec.getLsbD_of_ge x (13 + (26 + i)) (by omega)]
  cases x.getLsbD (26 + i) <;> simp
theorem own_s16 (x : Int32) : ((x ^^^ ((x.toUInt32 >>> ((16 : Int32) &&& 31).toUInt32).toInt32)) ^^^ (((x ^^^ ((x.toUInt32 >>> ((16 : Int32) &&& 31).toUInt32).toInt32)).toUInt32 >>> ((16 : Int32) &&& 31).toUInt32).toInt32)) = x := by
  apply Int32.toBitVec_inj.mp
  rw [Int32.toBitVec_xor, own_sh _ 16 16 (by decide) (by decide), Int32.toBitVec_xor, own_sh _ 16 16 (by decide) (by decide)]
  exact own_x16 _
theorem own_s13 (x : Int32) : (((x ^^^ ((x.toUInt32 >>> ((13 : Int32) &&& 31).toUInt32).toInt32)) ^^^ (((x ^^^ ((x.toUInt32 >>> ((13 : Int32) &&& 31).toUInt32).toInt32)).toUInt32 >>> ((13 : Int32) &&& 31).toUInt32).toInt32)) ^^^ (((x ^^^ ((x.toUInt32 >>> ((13 : Int32) &&& 31).toUInt32).toInt32)).toUInt32 >>> ((26 : Int32) &&& 31).toUInt32).toInt32)) = x := by
  apply Int32.toBitVec_inj.mp
  rw [Int32.toBitVec_xor, Int32.toBitVec_xor, own_sh _ 13 13 (by decide) (by decide), own_sh _ 26 26 (by decide) (by decide), Int32.toBitVec_xor, own_sh _ 13 13 (by decide) (by decide)]
  exact own_x13 _
theorem own_m1 (x : Int32) : x * (-1028477387 : Int32) * (io_f (-1028477387 : Int32)) = x := by
  rw [Int32.mul_assoc, show (-1028477387 : Int32) * io_f (-1028477387 : Int32) = 1 by decide +kernel, Int32.mul_one]
theorem own_m2 (x : Int32) : x * (-2048144789 : Int32) * (io_f (-2048144789 : Int32)) = x := by
  rw [Int32.mul_assoc, show (-2048144789 : Int32) * io_f (-2048144789 : Int32) = 1 by decide +kernel, Int32.mul_one]
theorem own_law (p0 : Int32) : lw_f p0 = 1 := by
  have h : um_f (mx_f p0) = p0 := by
    simp only [mx_f, mx_f9, mx_f14, mx_f21, mx_f26, um_f, um_f9, um_f17, um_f29, um_f37, own_s16, own_s13, own_m1, own_m2]
  rw [lw_f, if_pos h]

set_option maxRecDepth 65536 in
set_option maxHeartbeats 40000000 in
theorem comes_1 {Post : Tables → Env → Array Value → State → Outcome → State → Prop} (hpost : ∀ tb e args s v u, (limb_1_1.after args s (.returned v) u = true ∧ limb_1_2.after args s (.returned v) u = true ∧ True) → FrameEnd s (.returned v) u (Jvm.fieldLocs frame_1_writes args s ++ Jvm.arrayLocs frame_1_arrays args s ++ Jvm.staticLocs frame_1_statics s) 0 0 → Post tb e args s (.returned v) u) :
    ArmFor flags0 classFile x code maxLocals ret World_1 tables_1 room_1 Calls_1 rest_1 Pre_1 Post := by
  intro l hfl _ _ p e ha hc hk s m args below hf hA hF happ hP
  obtain ⟨hcalls, hrest, hpre⟩ := hP
  obtain ⟨-, -, -, hnamed, -, -, -, hat⟩ := (Spec.applies_iff hf).mp happ
  obtain ⟨hg, hn⟩ := and_e (Cond.before_iff.mp (show (Jvm.Cond.and given_1 narrow_1).before args s = true from hpre))
  obtain ⟨gc, g0⟩ := and_e hg
  obtain ⟨w0, rfl⟩ : ∃ w0 : Value, args = #[w0] := by
    have hs : args.size = 1 := by simpa [Cond.value, given_1] using gc
    obtain ⟨L⟩ := args
    match L, hs with
    | [w0], _ => exact ⟨w0, rfl⟩
  have hw := fun d (hd : d ∈ tables_1) => atoms_spec (ws := Jvm.Cond.code x code maxLocals ret :: tables_1) hat d (List.mem_cons_of_mem _ hd)
  have hfit : Fit s := fun {y c} hc i hi => by
    obtain ⟨ha, rfl⟩ := Array.getElem?_eq_some_iff.mp hc
    have q := List.all_eq_true.mp ((Array.all_eq_true_iff_forall_mem.mp hF) _ (Array.getElem_mem ha)) i (List.mem_range.mpr hi)
    simpa [Array.getElem?_eq_getElem hi] using q
  obtain ⟨i0, ei0⟩ := is_v g0
  obtain rfl : w0 = (.int i0) := Option.some.inj ei0
  obtain ⟨n, o, h1, h2, h3, _, L, rfl, ⟨rfl, N⟩, hq⟩ := lw_rm l s _ hw tables_1 i0  s.heap s.heap.size  p e ha hc hk s m _ below hf ((Spec.applies_iff_loose hf).mp happ).1 ⟨rfl, State.Warmed39.refl s, rfl⟩ trivial
  refine ⟨n, _, h1, h2, h3, hpost _ _ _ _ _ _ ⟨Cond.after_iff.mpr rfl, Cond.after_iff.mpr (eq_i res_at (Term.int_eval (1)) (by rw [own_law])), trivial⟩ ⟨hq.1, hq.2.1, (hq.2.2.sift fun y hy => Or.inr (N y hy)).mono (by decide) (by decide)⟩⟩
theorem main_1_1 : Claimed_1_1 := comes_1 fun _ _ _ _ _ _ h hF => ⟨h.1, hF⟩
theorem main_1_2 : Claimed_1_2 := comes_1 fun _ _ _ _ _ _ h hF => ⟨h.2.1, hF⟩
end Jvm.Pilot.@@N@@
namespace Jvm.Pilot.@@N@@
open Jvm Jvm.ClassFile Sem Op Lib Jvm.Free Jvm.Stand Jvm.Pilot.@@N@@.Jvm.D
/-! MADE BY PROGRAM (witnessworld.py) out of the Statement's table words and the real class files: 9 classes; the members and pool entries that the words name. The judged class is class 1, her method 3. -/
namespace start1
open Jvm.ClassFile
def u (s : String) : CpInfo := .utf8 (stringToUtf16 s)
/-- a pool by its gaps: so many unusable entries, then the entry; so many at the end -/
def gap : Nat → List CpInfo → List CpInfo
  | 0, r => r
  | n + 1, r => .unusable :: gap n r
def poolList (es : List (Nat × CpInfo)) (last : Nat) : List CpInfo := es.foldr (fun e r => gap e.1 (e.2 :: r)) (gap last [])
def pool (es : List (Nat × CpInfo)) (last : Nat) : Array CpInfo := ⟨poolList es last⟩
def fileOf (pool : Array CpInfo) (this : Nat) (attrs : Array Attribute := #[]) (ms : Array MethodInfo := #[]) (fl : Nat := 33) (sup : Nat := 0) (ifs : Array Nat := #[]) (fds : Array FieldInfo := #[]) : ClassFile where
  minorVersion := 0
  majorVersion := 65
  constantPool := pool
  accessFlags := fl
  thisClass := this
  superClass := sup
  interfaces := ifs
  fields := fds
  methods := ms
  attributes := attrs
def plain (name : String) (sup : Option ClassId) : Class where
  name := name
  kind := .ordinary
  loader := none
  accessFlags := 33
  super := sup
  interfaces := #[]
  cf := none
  fields := #[]
  methods := #[]
  instanceTypes := #[]
  staticTypes := #[]
  resolved := #[]
  callSites := []
  init := .initialized
  statics := none
  mirror := none

def pool0 : Array CpInfo := pool [(5, u "<init>"), (0, u "()V"), (1, .class_ 10), (1, u "java/lang/Object")] 113

def k0m0 : Method := { name := "<init>", desc := "()V", sig := { parameters := [], returnType := none }, accessFlags := 1, code := none }
/-- java/lang/Object -/
def k0 : Class := { plain "java/lang/Object" none with
  accessFlags := 33
  interfaces := #[]
  cf := some (fileOf pool0 8 #[] #[{ accessFlags := 1, nameIndex := 5, descriptorIndex := 6, attributes := #[] }] 33 0 #[] #[])
  fields := #[]
  methods := #[k0m0]
  instanceTypes := #[]
  staticTypes := #[]
  resolved := Array.replicate 124 none
  statics := none }

def pool1 : Array CpInfo := pool [(2, .class_ 4), (1, u "java/lang/Object"), (0, u "<init>"), (0, u "()V"), (0, .integer 3266489909), (0, .methodref 9 10), (0, .class_ 11), (0, .nameAndType 12 13), (0, u "com/example/chasebound/chasebound/chase/HashingMixPinLaw"), (0, u "inverseOdd"), (0, u "(I)I"), (0, .integer 2246822507), (0, .methodref 16 17), (0, .class_ 18), (0, .nameAndType 19 13), (0, u "com/example/chasebound/chasebound/chase/Hashing"), (0, u "mix"), (0, .methodref 9 21), (0, .nameAndType 22 13), (0, u "unmix"), (2, u "law"), (0, u "(I)Z")] 3

def k1m0 : Method := { name := "<init>", desc := "()V", sig := { parameters := [], returnType := none }, accessFlags := 2, code := none }
def k1c1 : Code := { maxStack := 4, maxLocals := 2, code := method_2_code, exceptionTable := #[], attributes := #[] }
def k1m1 : Method := { name := "inverseOdd", desc := "(I)I", sig := { parameters := [.int], returnType := some .int }, accessFlags := 10, code := some k1c1 }
def k1c2 : Code := { maxStack := 3, maxLocals := 2, code := method_3_code, exceptionTable := #[], attributes := #[] }
def k1m2 : Method := { name := "unmix", desc := "(I)I", sig := { parameters := [.int], returnType := some .int }, accessFlags := 10, code := some k1c2 }
def k1c3 : Code := { maxStack := 2, maxLocals := 2, code := code, exceptionTable := #[], attributes := #[] }
def k1m3 : Method := { name := "law", desc := "(I)Z", sig := { parameters := [.int], returnType := some .boolean }, accessFlags := 9, code := some k1c3 }
/-- com/example/chasebound/chasebound/chase/HashingMixPinLaw -/
def k1 : Class := { plain "com/example/chasebound/chasebound/chase/HashingMixPinLaw" (some 0) with
  accessFlags := 49
  interfaces := #[]
  cf := some (fileOf pool1 9 #[] #[{ accessFlags := 2, nameIndex := 5, descriptorIndex := 6, attributes := #[] }, { accessFlags := 10, nameIndex := 12, descriptorIndex := 13, attributes := #[] }, { accessFlags := 10, nameIndex := 22, descriptorIndex := 13, attributes := #[] }, { accessFlags := 9, nameIndex := 25, descriptorIndex := 26, attributes := #[] }] 49 2 #[] #[])
  fields := #[]
  methods := #[k1m0, k1m1, k1m2, k1m3]
  instanceTypes := #[]
  staticTypes := #[]
  resolved := Array.replicate 30 none
  statics := none }

def pool2 : Array CpInfo := pool [(2, .class_ 4), (1, u "java/lang/Object"), (0, u "<init>"), (0, u "()V"), (0, .integer 2246822507), (0, .integer 3266489909), (0, .class_ 10), (0, u "com/example/chasebound/chasebound/chase/Hashing"), (2, u "mix"), (0, u "(I)I")] 2

def k2m0 : Method := { name := "<init>", desc := "()V", sig := { parameters := [], returnType := none }, accessFlags := 2, code := none }
def k2c1 : Code := { maxStack := 3, maxLocals := 2, code := prog_17_method_2_code, exceptionTable := #[], attributes := #[] }
def k2m1 : Method := { name := "mix", desc := "(I)I", sig := { parameters := [.int], returnType := some .int }, accessFlags := 8, code := some k2c1 }
/-- com/example/chasebound/chasebound/chase/Hashing -/
def k2 : Class := { plain "com/example/chasebound/chasebound/chase/Hashing" (some 0) with
  accessFlags := 48
  interfaces := #[]
  cf := some (fileOf pool2 9 #[] #[{ accessFlags := 2, nameIndex := 5, descriptorIndex := 6, attributes := #[] }, { accessFlags := 8, nameIndex := 13, descriptorIndex := 14, attributes := #[] }] 48 2 #[] #[])
  fields := #[]
  methods := #[k2m0, k2m1]
  instanceTypes := #[]
  staticTypes := #[]
  resolved := Array.replicate 17 none
  statics := none }

def pool3 : Array CpInfo := pool [(1, u "java/lang/Cloneable"), (0, .class_ 1), (0, u "java/lang/Object"), (0, .class_ 3)] 3

/-- java/lang/Cloneable -/
def k3 : Class := { plain "java/lang/Cloneable" (some 0) with
  accessFlags := 1537
  interfaces := #[]
  cf := some (fileOf pool3 2 #[] #[] 1537 4 #[] #[])
  fields := #[]
  methods := #[]
  instanceTypes := #[]
  staticTypes := #[]
  resolved := Array.replicate 8 none
  statics := none }

def pool4 : Array CpInfo := pool [(1, u "java/io/Serializable"), (0, .class_ 1), (0, u "java/lang/Object"), (0, .class_ 3)] 3

/-- java/io/Serializable -/
def k4 : Class := { plain "java/io/Serializable" (some 0) with
  accessFlags := 1537
  interfaces := #[]
  cf := some (fileOf pool4 2 #[] #[] 1537 4 #[] #[])
  fields := #[]
  methods := #[]
  instanceTypes := #[]
  staticTypes := #[]
  resolved := Array.replicate 8 none
  statics := none }

/-- the primitive byte -/
def k5 : Class := { plain "byte" none with kind := .primitive 'B', accessFlags := 0x411 }
/-- [B -/
def k6 : Class := { plain "[B" (some 0) with kind := .array 5 .byte, interfaces := #[3, 4], accessFlags := 1041 }

/-- the primitive int -/
def k7 : Class := { plain "int" none with kind := .primitive 'I', accessFlags := 0x411 }
/-- [I -/
def k8 : Class := { plain "[I" (some 0) with kind := .array 7 .int, interfaces := #[3, 4], accessFlags := 1041 }

def heap : Heap := #[]
def classes : Array Class := #[k0, k1, k2, k3, k4, k5, k6, k7, k8]
def interned : List (Array UInt16 × Addr) := []
def slotsUsed : Nat := 0
def theMethod : MethodId := ⟨1, 3⟩
def args0 : Array Value := #[.int 5]
def aboutOver (below : List Frame) : State where
  vm := { classes := classes, interned := interned.toArray }
  heap := heap
  slotsUsed := slotsUsed
  threads := #[{ frames := .invoking theMethod args0 :: below }]
def below0 : List Frame := [.native { method := ⟨0, 0⟩, args := #[] }]
def about1 : State := aboutOver below0
def p0 : Program := .bare "" "" ""
def e0 : Env := launch0.env 0 0 0
theorem w_frames : about1.frames = Frame.invoking theMethod args0 :: below0 := rfl
set_option maxRecDepth 65536 in
theorem w_args : argsFit about1.vm theMethod args0 = true := by decide +kernel
set_option maxRecDepth 65536 in
theorem w_heap : heapFits about1 = true := by decide +kernel
set_option maxRecDepth 65536 in
theorem w_runnable : about1.curStatus? = some .runnable := by decide +kernel
set_option maxRecDepth 65536 in
theorem w_alone : about1.alone = true := by decide +kernel
set_option maxRecDepth 65536 in
theorem w_named : about1.methodNamed? x = some theMethod := by decide +kernel
set_option maxRecDepth 65536 in
theorem w_hears : about1.hears theMethod below0 = true := by decide +kernel
set_option maxRecDepth 65536 in
theorem w_ripe : about1.ripe theMethod args0 below0 = true := by decide +kernel
theorem w_running : about1.status = .running := rfl
set_option maxRecDepth 65536 in
theorem w_room : about1.hasRoom e0.platform room_1 = true :=
  launch0.hasRoom_least _ room_1 (by decide +kernel) (by decide +kernel) (by decide +kernel) (by decide +kernel) (by decide +kernel) (by decide +kernel)
theorem allAtoms_all (ts : List Jvm.Cond) (a : Array Jvm.Value) (st : Jvm.State) : (allAtoms ts).before a st = ts.all (fun c => c.before a st) := by
  induction ts with
  | nil => rfl
  | cons c t ih =>
    show (Jvm.Cond.and c (allAtoms t)).before a st = _
    rw [Jvm.Cond.before_and, ih, List.all_cons]
def words1 : List Jvm.Cond := Jvm.Cond.code x code maxLocals ret :: tables_1
/-- a 'code' word, met by the world's own term for the bytes: nothing is compared byte by byte -/
theorem code_word {y : MethodName} {bytes : ByteArray} {mx : Nat} {rt : Option FieldType} {a : Array Value} {s : State} {m : MethodId} {meth : Method} {c : Code} (h1 : s.methodNamed? y = some m) (h2 : s.vm.method? m = some meth) (h3 : meth.code = some c) (h4 : c.code = bytes)
    (h5 : (c.maxLocals == mx && c.exceptionTable.isEmpty && decide (c.maxStack ≤ mostOperands) && decide (meth.sig.returnType = rt) && !meth.locks && decide (parseMethodDescriptor y.desc = some meth.sig)) = true) : (Jvm.Cond.code y bytes mx rt).before a s = true := by
  simp only [Bool.and_eq_true, beq_iff_eq, Bool.not_eq_true', decide_eq_true_eq] at h5
  obtain ⟨⟨⟨⟨⟨g1, g2⟩, g3⟩, g4⟩, g5⟩, g6⟩ := h5
  simp [Cond.before, Cond.holds, Cond.value, h1, h2, h3, h4, g1, g2, g3, g4, g5, g6]
def isCode : Jvm.Cond → Bool
  | .code _ _ _ _ => true
  | _ => false
theorem all_split {L : List Jvm.Cond} {P : Jvm.Cond → Bool} (h1 : L.all (fun c => isCode c || P c) = true) (h2 : ∀ c ∈ L.filter isCode, P c = true) : L.all P = true := by
  refine List.all_eq_true.mpr fun c hc => ?_
  have h := List.all_eq_true.mp h1 c hc
  rcases Bool.eq_false_or_eq_true (isCode c) with hi | hi
  · exact h2 c (List.mem_filter.mpr ⟨hc, hi⟩)
  · simpa [hi] using h
set_option maxRecDepth 65536 in
theorem w_c0 : (Jvm.Cond.code x code maxLocals ret).before args0 about1 = true := code_word (m := ⟨1, 3⟩) (meth := k1m3) (c := k1c3) (by decide +kernel) rfl rfl rfl (by decide +kernel)
set_option maxRecDepth 65536 in
theorem w_c1 : (Jvm.Cond.code ({ cls := "com/example/chasebound/chasebound/chase/Hashing", name := "mix", desc := "(I)I" } : Jvm.MethodName) prog_17_method_2_code (2 : Nat) (Option.some Jvm.ClassFile.FieldType.int)).before args0 about1 = true := code_word (m := ⟨2, 1⟩) (meth := k2m1) (c := k2c1) (by decide +kernel) rfl rfl rfl (by decide +kernel)
set_option maxRecDepth 65536 in
theorem w_c2 : (Jvm.Cond.code ({ cls := "com/example/chasebound/chasebound/chase/HashingMixPinLaw", name := "unmix", desc := "(I)I" } : Jvm.MethodName) method_3_code (2 : Nat) (Option.some Jvm.ClassFile.FieldType.int)).before args0 about1 = true := code_word (m := ⟨1, 2⟩) (meth := k1m2) (c := k1c2) (by decide +kernel) rfl rfl rfl (by decide +kernel)
set_option maxRecDepth 65536 in
theorem w_c3 : (Jvm.Cond.code ({ cls := "com/example/chasebound/chasebound/chase/HashingMixPinLaw", name := "inverseOdd", desc := "(I)I" } : Jvm.MethodName) method_2_code (2 : Nat) (Option.some Jvm.ClassFile.FieldType.int)).before args0 about1 = true := code_word (m := ⟨1, 1⟩) (meth := k1m1) (c := k1c1) (by decide +kernel) rfl rfl rfl (by decide +kernel)
def codes1 : List Jvm.Cond := [Jvm.Cond.code x code maxLocals ret, Jvm.Cond.code ({ cls := "com/example/chasebound/chasebound/chase/Hashing", name := "mix", desc := "(I)I" } : Jvm.MethodName) prog_17_method_2_code (2 : Nat) (Option.some Jvm.ClassFile.FieldType.int), Jvm.Cond.code ({ cls := "com/example/chasebound/chasebound/chase/HashingMixPinLaw", name := "unmix", desc := "(I)I" } : Jvm.MethodName) method_3_code (2 : Nat) (Option.some Jvm.ClassFile.FieldType.int), Jvm.Cond.code ({ cls := "com/example/chasebound/chasebound/chase/HashingMixPinLaw", name := "inverseOdd", desc := "(I)I" } : Jvm.MethodName) method_2_code (2 : Nat) (Option.some Jvm.ClassFile.FieldType.int)]
set_option maxRecDepth 65536 in
theorem codes_eq : words1.filter isCode = codes1 := rfl
theorem w_codes : ∀ c ∈ words1.filter isCode, c.before args0 about1 = true := by
  rw [codes_eq]
  intro c hc
  simp only [codes1, List.mem_cons, List.not_mem_nil, or_false] at hc
  rcases hc with rfl | rfl | rfl | rfl
  · exact w_c0
  · exact w_c1
  · exact w_c2
  · exact w_c3
set_option maxRecDepth 65536 in
theorem w_t1 : words1.all (fun c => isCode c || c.before args0 about1) = true := by decide +kernel
theorem w_tables : (allAtoms (Jvm.Cond.code x code maxLocals ret :: tables_1)).before args0 about1 = true := by
  rw [allAtoms_all]
  show words1.all (fun c => c.before args0 about1) = true
  refine all_split ?_ w_codes
  rw [w_t1]
set_option maxRecDepth 65536 in
theorem w_case : (Jvm.Cond.and given_1 narrow_1).before args0 about1 = true := by decide +kernel
theorem w_applies : (headSpec (Jvm.Cond.code x code maxLocals ret :: tables_1) room_1).applies x e0.platform about1 = true :=
  (Spec.applies_iff w_frames).mpr ⟨w_running, w_runnable, w_alone, w_named, w_hears, w_ripe, w_room, w_tables⟩
theorem atStart : AtStart classFile x code maxLocals ret World_1 tables_1 room_1 Calls_1 rest_1 Pre_1 launch0 p0 e0 about1 theMethod args0 below0 :=
  ⟨lists_1, trivial, launch0.admits_env _ _ _, launch0.least_env, fairChoices_fair.cas, fairChoices_fair.clock, w_frames, w_args, w_heap, w_applies, trivial, trivial, w_case⟩
end start1
theorem witness_1 : WitnessClaimed_1 := ⟨start1.p0, start1.e0, start1.about1, start1.theMethod, start1.args0, start1.below0, start1.atStart⟩
end Jvm.Pilot.@@N@@
