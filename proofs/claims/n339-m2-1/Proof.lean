import JvmDerived
import JvmDerived.Pilot.@@N@@Statement
import JvmDerived.Pilot.@@N@@Code
set_option linter.unusedVariables false
set_option linter.unusedSimpArgs false

namespace Jvm.Pilot.@@N@@
open Jvm Jvm.ClassFile Sem Op Lib Jvm.Free Jvm.Stand Jvm.LawKit Jvm.RoadKit Bundle Jvm.Pilot.@@N@@.Jvm.D
/-! own layer: 'from here the run ends, and Q holds of what it leaves' (own_Dn), stepped backwards -/
def own_Dn (p : Program) (e : Env) (below : List Frame) (s : State) (Q : Option Value → Heap → List Loc → Prop) (K N : Nat) (A : State) : Prop :=
  ∃ s₂ o, Steps p.tables e below A s₂ ∧ s₂.status = .running ∧ Ended s₂ below o ∧ ∃ v L, o = .returned v ∧ Q v s₂.heap L ∧ FrameEnd s o s₂ L K N
def own_Q (r : Option Value) (n0 : Nat) (h0 : Heap) (v : Option Value) (h : Heap) (L : List Loc) : Prop := v = r ∧ Fr n0 L ∧ h = h0
def own_QL (r : Option Value) (n0 : Nat) (v : Option Value) (h : Heap) (L : List Loc) : Prop := v = r ∧ Fr n0 L
def own_Cx (p : Program) (s : State) (m : MethodId) (meth : Method) (c : Code) (Z : State) (a0 : Array Value) (bytes : ByteArray) (ml : Nat) (own nm : String) (ret : Option FieldType) : Prop :=
  p.tables.exec = Jvm.exec ∧ Z.Warmed39 s.vm ∧ (∀ d ∈ tables_1, d.before a0 Z = true) ∧ c.code = bytes ∧ c.maxLocals = ml ∧ s.vm.findClass own = some m.cls ∧ meth.sig.returnType = ret ∧ meth.locks = false ∧ meth.name = nm
theorem own_st {p : Program} {e : Env} {below : List Frame} {s : State} {Q : Option Value → Heap → List Loc → Prop} {K N : Nat} {A B : State} (k : ∀ t, Steps p.tables e below B t → Steps p.tables e below A t) (d : own_Dn p e below s Q K N B) : own_Dn p e below s Q K N A := by
  obtain ⟨s₂, o, h, r⟩ := d
  exact ⟨s₂, o, k _ h, r⟩
theorem own_tr {p : Program} {e : Env} {below : List Frame} {s : State} {Q : Option Value → Heap → List Loc → Prop} {K N : Nat} {A B : State} (k : Steps p.tables e below A B) (d : own_Dn p e below s Q K N B) : own_Dn p e below s Q K N A :=
  own_st (fun _ h => k.trans h) d
theorem own_cat {v : Value} (h : v.isRef = true) : v.category = 1 := by
  cases v <;> first | rfl | (simp [Value.isRef] at h)
section own
variable {p : Program} {l : Launch} {e : Env} {R : Room} {s : State} {m : MethodId} {args : Array Value} {below : List Frame} {meth : Method} {c : Code} {T : State} {locs : List Loc} {cells slots : Nat} {Q : Option Value → Heap → List Loc → Prop} {K N : Nat}
theorem own_ret (X : Stand p l e R s m args below meth c T locs cells slots) (hlk : meth.locks = false) {v : Option Value} (hv : meth.sig.returnType = none → v = none) {A : State} (hK : cells ≤ K) (hN : slots ≤ N) (hq : Q v T.heap locs)
    (hst : ∀ fs, (∀ (f : JFrame) (acts : List Action), f.method = m → f.locked = none → f.entered = [] → (doReturn e (T.setTop f) acts v).1 = T.setFrames fs) → Steps p.tables e below A (T.setFrames fs)) : own_Dn p e below s Q K N A := by
  obtain ⟨fs, hr, hrun, hended, hW, hsame⟩ := X.leave (v := v) hv hlk
  exact ⟨_, _, hst fs hr, hrun, hended, _, _, rfl, hq, ⟨_, rfl⟩, hW, hsame.mono hK hN⟩
theorem own_retI (X : Stand p l e R s m args below meth c T locs cells slots) (hx : p.tables.exec = Jvm.exec) (hret : meth.sig.returnType = some .int) (hlk : meth.locks = false) {pc : Nat} {Ls : Array Slot} {z : Int32} {rest : List Value} (hd : decode c.code pc = .ok (.ireturn, 1)) (hK : cells ≤ K) (hN : slots ≤ N)
    (hq : Q (some (.int z)) T.heap locs) : own_Dn p e below s Q K N (T.setTop (mkF m pc Ls (.int z :: rest))) :=
  own_ret X hlk (fun h => by rw [hret] at h; cases h) hK hN hq (fun fs hr => retOut X hx hret rfl (Or.inl ⟨rfl, Or.inl rfl, _, rfl⟩) hd hr)
theorem own_retJ (X : Stand p l e R s m args below meth c T locs cells slots) (hx : p.tables.exec = Jvm.exec) (hret : meth.sig.returnType = some .long) (hlk : meth.locks = false) {pc : Nat} {Ls : Array Slot} {z : Int64} {rest : List Value} (hd : decode c.code pc = .ok (.lreturn, 1)) (hK : cells ≤ K) (hN : slots ≤ N)
    (hq : Q (some (.long z)) T.heap locs) : own_Dn p e below s Q K N (T.setTop (mkF m pc Ls (.long z :: rest))) :=
  own_ret X hlk (fun h => by rw [hret] at h; cases h) hK hN hq (fun fs hr => retOut X hx hret rfl (Or.inr (Or.inl ⟨rfl, rfl, _, rfl⟩)) hd hr)
theorem own_retZ (X : Stand p l e R s m args below meth c T locs cells slots) (hx : p.tables.exec = Jvm.exec) (hret : meth.sig.returnType = some .boolean) (hlk : meth.locks = false) {pc : Nat} {Ls : Array Slot} {z : Int32} {rest : List Value} (hz : z &&& 1 = z) (hd : decode c.code pc = .ok (.ireturn, 1)) (hK : cells ≤ K) (hN : slots ≤ N)
    (hq : Q (some (.int z)) T.heap locs) : own_Dn p e below s Q K N (T.setTop (mkF m pc Ls (.int z :: rest))) :=
  own_ret X hlk (fun h => by rw [hret] at h; cases h) hK hN hq (fun fs hr => retOut X hx (w := .int z) hret (show Value.int (z &&& 1) = .int z from congrArg Value.int hz) (Or.inl ⟨rfl, Or.inr (Or.inl rfl), _, rfl⟩) hd hr)
theorem own_retV (X : Stand p l e R s m args below meth c T locs cells slots) (hx : p.tables.exec = Jvm.exec) (hret : meth.sig.returnType = none) (hlk : meth.locks = false) {pc : Nat} {Ls : Array Slot} (hd : decode c.code pc = .ok (.return_, 1)) (hK : cells ≤ K) (hN : slots ≤ N)
    (hq : Q none T.heap locs) : own_Dn p e below s Q K N (T.setTop (mkF m pc Ls [])) :=
  own_ret X hlk (fun _ => rfl) hK hN hq (fun fs hr => X.returnOut hx hret hd hr)
theorem own_retA (X : Stand p l e R s m args below meth c T locs cells slots) (hx : p.tables.exec = Jvm.exec) {t : FieldType} (ht : t.isReference = true) (hret : meth.sig.returnType = some t) (hlk : meth.locks = false) {pc : Nat} {Ls : Array Slot} {w : Value} {rest : List Value} (hw : w.isRef = true) (hn : narrow t w = w) (hd : decode c.code pc = .ok (.areturn, 1)) (hK : cells ≤ K) (hN : slots ≤ N)
    (hq : Q (some w) T.heap locs) : own_Dn p e below s Q K N (T.setTop (mkF m pc Ls (w :: rest))) :=
  own_ret X hlk (fun h => by rw [hret] at h; cases h) hK hN hq (fun fs hr => retOut X hx hret hn (Or.inr (Or.inr (Or.inr (Or.inr ⟨rfl, ht, hw⟩)))) hd hr)
end own
theorem own_met {l : Launch} {Z : State} {a0 : Array Value} (hw : ∀ d ∈ tables_1, d.before a0 Z = true) {y : MethodName} {bytes : ByteArray} {ml : Nat} {ret : Option FieldType} {ws : List Jvm.Cond} {rm : Room} {as' : Array Value} {h0 : Heap} {Q : Option Value → Heap → List Loc → Prop} (hpl : plainFor y = true)
    (body : ∀ p e s m below meth c s₁, own_Cx p s m meth c Z a0 bytes ml y.cls y.name ret → Stand p l e rm s m as' below meth c s₁ [] 0 0 → s₁.heap = h0 → own_Dn p e below s Q rm.cells rm.slots (s₁.setTop (entryFrame m as' ml))) :
    MetFree l y (head1 (Jvm.Cond.code y bytes ml ret :: ws) rm) (fun a U => a = as' ∧ Z.Warmed39 U.vm ∧ U.heap = h0) (fun _ _ _ _ _ => True) (fun _ U o U' => ∃ v L, o = .returned v ∧ Q v U'.heap L ∧ FrameEnd U o U' L rm.cells rm.slots) := by
  refine MetFree.of_bodySF hpl hisR ?_
  intro p e s m args below meth c s₁ Bd hml0 hP hK
  obtain ⟨rfl, hZ, hh⟩ := hP
  exact body p e s m below meth c s₁ ⟨Bd.exec, hZ, hw, Bd.bytes, hml0, findClass_of_methodNamed Bd.named, Bd.returns, BodyLoose.notSynchronized Bd, (name_of_methodNamed Bd.named Bd.method).1⟩ (Stand.of_body Bd) (by rw [← hh, Bd.state]; rfl)
theorem own_jtlt {x y : Int64} (h : x < y) : ifCond.holds .lt (lcmpW x y) = true ∧ ifCond.holds .ge (lcmpW x y) = false ∧ ifCond.holds .gt (lcmpW y x) = true ∧ ifCond.holds .le (lcmpW y x) = false := by
  have h1 : lcmpW x y < 0 := by rw [lcW]; exact (lc_lt x y).mpr h
  have h2 : 0 < lcmpW y x := by rw [lcW]; exact (lc_gt y x).mpr h
  exact ⟨(if0 _ _).trans (tlt h1).1, (if0 _ _).trans (tlt h1).2.1, (if0 _ _).trans (tlt h2).2.2.1, (if0 _ _).trans (tlt h2).2.2.2⟩
theorem own_jflt {x y : Int64} (h : ¬ x < y) : ifCond.holds .lt (lcmpW x y) = false ∧ ifCond.holds .ge (lcmpW x y) = true ∧ ifCond.holds .gt (lcmpW y x) = false ∧ ifCond.holds .le (lcmpW y x) = true := by
  have h1 : ¬ lcmpW x y < 0 := by rw [lcW]; exact fun q => h ((lc_lt x y).mp q)
  have h2 : ¬ 0 < lcmpW y x := by rw [lcW]; exact fun q => h ((lc_gt y x).mp q)
  exact ⟨(if0 _ _).trans (flt h1).1, (if0 _ _).trans (flt h1).2.1, (if0 _ _).trans (flt h2).2.2.1, (if0 _ _).trans (flt h2).2.2.2⟩
theorem own_jteq {x y : Int64} (h : x = y) : ifCond.holds .eq (lcmpW x y) = true ∧ ifCond.holds .ne (lcmpW x y) = false := by
  have h1 : lcmpW x y = 0 := by rw [lcW]; exact (lc_eq x y).mpr h
  exact ⟨(if0 _ _).trans (teq h1).1, (if0 _ _).trans (teq h1).2⟩
theorem own_jfeq {x y : Int64} (h : ¬ x = y) : ifCond.holds .eq (lcmpW x y) = false ∧ ifCond.holds .ne (lcmpW x y) = true := by
  have h1 : ¬ lcmpW x y = 0 := by rw [lcW]; exact fun q => h ((lc_eq x y).mp q)
  exact ⟨(if0 _ _).trans (feq h1).1, (if0 _ _).trans (feq h1).2⟩
theorem own_miss (a : Int32) (ks : List Int32) (h : ∀ k ∈ ks, ¬ a = k) {ps : List (Int × Int)} (e : ps.map (·.1) = ks.map Int32.toInt) : ∀ p ∈ ps, p.1 ≠ a.toInt := by
  intro p hp q
  have h1 : p.1 ∈ ps.map (·.1) := List.mem_map.mpr ⟨p, hp, rfl⟩
  rw [e] at h1
  obtain ⟨k, hk, r⟩ := List.mem_map.mp h1
  exact h k hk (Int32.toInt_inj.mp (q.symm.trans r.symm))
theorem own_Sta_keep {Z : State} {h h' : Heap} {C n d : String} {v : Value} {a : Addr} {C' : String} (F : Sta Z h C n d v) (K : Keep h h' [a]) (E : Exa Z h a C') : Sta Z h' C n d v := by
  obtain ⟨cf, i, k, f, st, cell, h1, h2, h3, h4, h5, h6, h7⟩ := F
  obtain ⟨cl, k', e1, -, -, e4, -⟩ := E
  refine ⟨cf, i, k, f, st, cell, h1, h2, h3, h4, K.2.1 _ _ h5 (ninS (fun q => ?_) nin0), h6, h7⟩
  subst q
  cases h5.symm.trans e1
  rw [h6] at e4; cases e4
theorem own_Sta_keep0 {Z : State} {h h' : Heap} {C n d : String} {v : Value} (F : Sta Z h C n d v) (K : Keep h h' []) : Sta Z h' C n d v := by
  obtain ⟨cf, i, k, f, st, cell, h1, h2, h3, h4, h5, h6, h7⟩ := F
  exact ⟨cf, i, k, f, st, cell, h1, h2, h3, h4, K.2.1 _ _ h5 nin0, h6, h7⟩
theorem own_ne_or {r x : Addr} {ws : List Addr} {H : Heap} (h : r ∈ ws ∨ H.size ≤ r) (hl : x < H.size) (hn : x ∉ ws) : x ≠ r := fun e => h.elim (fun q => hn (e ▸ q)) (fun q => Nat.lt_irrefl _ (Nat.lt_of_lt_of_le (e ▸ hl) q))
theorem own_or_up {r : Addr} {ws ws' : List Addr} {h0 H : Heap} (h : r ∈ ws ∨ H.size ≤ r) (hk : h0.size ≤ H.size) (all : ∀ x ∈ ws, x ∈ ws' ∨ h0.size ≤ x) : r ∈ ws' ∨ h0.size ≤ r := h.elim (all r) (fun q => Or.inr (Nat.le_trans hk q))
theorem own_selp {Z s : State} {a0 args : Array Value} {y : MethodName} {n : Nat} (hZ : Z.Warmed39 s.vm) (w1 : (Cond.instantiable y.cls n).before a0 Z = true) (w2 : (Cond.instanceMethod y).before a0 Z = true) (w3 : (Cond.privateMethod y).before a0 Z = true) (hy : y.cls ≠ "java/lang/invoke/MethodHandle" ∧ y.cls ≠ "java/lang/invoke/VarHandle") : (Cond.selects y.cls y y).before args s = true := by
  have i1 : (Cond.instantiable y.cls n).before args s = true := mvT hZ w1
  obtain ⟨c, k, h1, h2, -, h4, -, -⟩ := Cond.instantiable_spec i1
  have h5 : k.isInterface = false := by
    cases hk : k.isInterface
    · rfl
    · rw [hk] at h4; simp at h4
  exact selects_self_of_private h1 h2 h5 (Cond.privateMethod_at (mvP hZ w3 (args := args))) (mvT hZ w2) hy

/-! own layer, arrays: an array's places as a function -/
def own_Arf (Z : State) (h : Heap) (a : Addr) (ty : FieldType) (n : Nat) (f : Nat → Value) : Prop := ∃ c : Cell, Arr Z h a c ty ∧ c.slots.size = n ∧ n < 2 ^ 31 ∧ ∀ i, i < n → c.slots[i]? = some (f i)
def own_upd {α : Type} (g : Nat → α) (j : Nat) (v : α) (i : Nat) : α := if i = j then v else g i
section ownA
variable {Z : State} {h h' : Heap} {a b : Addr} {ty : FieldType} {n sl : Nat} {f : Nat → Value} {v : Value} {ws : List Addr}
theorem own_Arf.lt (F : own_Arf Z h a ty n f) : a < h.size := by obtain ⟨c, A, -⟩ := F; exact A.lt
theorem own_Arf.ext (F : own_Arf Z h a ty n f) (E : Ext h h') : own_Arf Z h' a ty n f := by obtain ⟨c, A, q⟩ := F; exact ⟨c, A.ext E, q⟩
theorem own_Arf.other (F : own_Arf Z h b ty n f) (W : Wr h h' a sl v) (q : b ≠ a) : own_Arf Z h' b ty n f := by obtain ⟨c, A, r⟩ := F; exact ⟨c, A.other W q, r⟩
theorem own_Arf.keep (F : own_Arf Z h a ty n f) (K : Keep h h' ws) (q : a ∉ ws) : own_Arf Z h' a ty n f := by obtain ⟨c, A, r⟩ := F; exact ⟨c, ⟨K.2.1 _ _ A.1 q, A.2⟩, r⟩
theorem own_Arf.congr {f' : Nat → Value} (F : own_Arf Z h a ty n f) (q : ∀ i, i < n → f i = f' i) : own_Arf Z h a ty n f' := by
  obtain ⟨c, A, hs, hn, hf⟩ := F
  exact ⟨c, A, hs, hn, fun i hi => by rw [hf i hi, q i hi]⟩
theorem own_Arf.new {k : ClassId} {z : Int32} (A : Arr Z h a (newA k ty z) ty) (q : z.toNatClampNeg = n) (hn : n < 2 ^ 31) : own_Arf Z h a ty n (fun _ => defaultValue ty) := by
  refine ⟨_, A, by rw [sz_new]; exact q, hn, fun i hi => ?_⟩
  simp [newA, q, hi]
theorem own_Arf.set (F : own_Arf Z h a ty n f) (W : Wr h h' a sl v) (hj : sl < n) : own_Arf Z h' a ty n (own_upd f sl v) := by
  obtain ⟨c, A, hs, hn, hf⟩ := F
  refine ⟨c.setSlot sl v, A.same W, by rw [sz_set]; exact hs, hn, fun i hi => ?_⟩
  simp only [own_upd]
  split
  · rename_i q; subst q; simp [Cell.setSlot, hs, hi]
  · rename_i q; simp [Cell.setSlot, Array.getElem?_setIfInBounds, Ne.symm q, hf i hi]
theorem own_Arf.setI {g : Nat → Int32} {x : Int32} (F : own_Arf Z h a ty n (fun i => .int (g i))) (W : Wr h h' a sl (.int x)) (hj : sl < n) : own_Arf Z h' a ty n (fun i => .int (own_upd g sl x i)) :=
  (F.set W hj).congr fun i _ => by simp only [own_upd]; split <;> rfl
theorem own_Arf.setJ {g : Nat → Int64} {x : Int64} (F : own_Arf Z h a ty n (fun i => .long (g i))) (W : Wr h h' a sl (.long x)) (hj : sl < n) : own_Arf Z h' a ty n (fun i => .long (own_upd g sl x i)) :=
  (F.set W hj).congr fun i _ => by simp only [own_upd]; split <;> rfl
variable {p : Program} {l : Launch} {e : Env} {R : Room} {s : State} {m : MethodId} {args : Array Value} {below : List Frame} {meth : Method} {c : Code} {T : State} {locs : List Loc} {cells slots : Nat}
theorem own_ldI (X : Stand p l e R s m args below meth c T locs cells slots) (hx : p.tables.exec = Jvm.exec) (hZ : Z.Warmed39 s.vm) (eT : T.heap = h) (F : own_Arf Z h a .int n f) {j : Int32} (h0 : ¬ j < 0) (hj : j.toNatClampNeg < n) {pc : Nat} {L : Array Slot} {rest : List Value} (hd : decode c.code pc = .ok (.iaload, 1)) :
    ∀ target, Steps p.tables e below (T.setTop (mkF m (pc + 1) L (f j.toNatClampNeg :: rest))) target → Steps p.tables e below (T.setTop (mkF m pc L (.int j :: .ref a :: rest))) target := by
  obtain ⟨cl, A, hs, hn, hf⟩ := F
  intro target k
  exact X.iaload hx (j := j) (v := f j.toNatClampNeg) (by rw [eT]; exact A.1) (State.isArrayOf_alike hZ.alike A.2.1) A.2.2 (fun q => q.elim h0 (fun r => by omega)) (hf _ hj) (g := mkF m pc L (.int j :: .ref a :: rest)) rfl rfl hd _ k
theorem own_ldJ (X : Stand p l e R s m args below meth c T locs cells slots) (hx : p.tables.exec = Jvm.exec) (hZ : Z.Warmed39 s.vm) (eT : T.heap = h) (F : own_Arf Z h a .long n f) {j : Int32} (h0 : ¬ j < 0) (hj : j.toNatClampNeg < n) {pc : Nat} {L : Array Slot} {rest : List Value} (hd : decode c.code pc = .ok (.laload, 1)) :
    ∀ target, Steps p.tables e below (T.setTop (mkF m (pc + 1) L (f j.toNatClampNeg :: rest))) target → Steps p.tables e below (T.setTop (mkF m pc L (.int j :: .ref a :: rest))) target := by
  obtain ⟨cl, A, hs, hn, hf⟩ := F
  intro target k
  exact X.laload hx (j := j) (v := f j.toNatClampNeg) (by rw [eT]; exact A.1) (State.isArrayOf_alike hZ.alike A.2.1) A.2.2 (fun q => q.elim h0 (fun r => by omega)) (hf _ hj) (g := mkF m pc L (.int j :: .ref a :: rest)) rfl rfl hd _ k
theorem own_ldB (X : Stand p l e R s m args below meth c T locs cells slots) (hx : p.tables.exec = Jvm.exec) (hZ : Z.Warmed39 s.vm) (eT : T.heap = h) (F : own_Arf Z h a .byte n f) {j : Int32} (h0 : ¬ j < 0) (hj : j.toNatClampNeg < n) {pc : Nat} {L : Array Slot} {rest : List Value} (hd : decode c.code pc = .ok (.baload, 1)) :
    ∀ target, Steps p.tables e below (T.setTop (mkF m (pc + 1) L (f j.toNatClampNeg :: rest))) target → Steps p.tables e below (T.setTop (mkF m pc L (.int j :: .ref a :: rest))) target := by
  obtain ⟨cl, A, hs, hn, hf⟩ := F
  intro target k
  exact X.baloadBytes hx (j := j) (v := f j.toNatClampNeg) (by rw [eT]; exact A.1) (State.isArrayOf_alike hZ.alike A.2.1) A.2.2 (fun q => q.elim h0 (fun r => by omega)) (hf _ hj) (g := mkF m pc L (.int j :: .ref a :: rest)) rfl rfl hd _ k
theorem own_len (X : Stand p l e R s m args below meth c T locs cells slots) (hx : p.tables.exec = Jvm.exec) (hZ : Z.Warmed39 s.vm) (eT : T.heap = h) (F : own_Arf Z h a ty n f) {z : Int32} (hz : n.toInt32 = z) {pc : Nat} {L : Array Slot} {rest : List Value} (hd : decode c.code pc = .ok (.arraylength, 1)) :
    ∀ target, Steps p.tables e below (T.setTop (mkF m (pc + 1) L (.int z :: rest))) target → Steps p.tables e below (T.setTop (mkF m pc L (.ref a :: rest))) target := by
  obtain ⟨cl, A, hs, hn, hf⟩ := F
  intro target k
  refine X.arraylength hx (cell := cl) (by rw [eT]; exact A.1) (State.isArrayOf_alike hZ.alike A.2.1) (g := mkF m pc L (.ref a :: rest)) rfl (rest := rest) rfl hd _ ?_
  rw [hs, hz]; exact k
theorem own_stI (X : Stand p l e R s m args below meth c T locs cells slots) (hx : p.tables.exec = Jvm.exec) (hZ : Z.Warmed39 s.vm) (eT : T.heap = h) {g : Nat → Int32} (F : own_Arf Z h a .int n (fun i => .int (g i))) {j x : Int32} (h0 : ¬ j < 0) (hj : j.toNatClampNeg < n) {pc : Nat} {L : Array Slot} {rest : List Value} (hd : decode c.code pc = .ok (.iastore, 1)) :
    ∃ T' h', Stand p l e R s m args below meth c T' (locs ++ [⟨a, j.toNatClampNeg⟩]) cells slots ∧ T'.heap = h' ∧ Wr h h' a j.toNatClampNeg (.int x) ∧ own_Arf Z h' a .int n (fun i => .int (own_upd g j.toNatClampNeg x i)) ∧
      ∀ target, Steps p.tables e below (T'.setTop (mkF m (pc + 1) L rest)) target → Steps p.tables e below (T.setTop (mkF m pc L (.int x :: .int j :: .ref a :: rest))) target := by
  have F' := F
  obtain ⟨cl, A, hs, hn, hf⟩ := F
  obtain ⟨T', h', X', e', W, st⟩ := stI X hx hZ eT A (j := j) (x := x) (fun q => q.elim h0 (fun r => by omega)) (g := mkF m pc L (.int x :: .int j :: .ref a :: rest)) rfl rfl hd
  exact ⟨T', h', X', e', W, F'.setI W hj, st⟩
theorem own_stJ (X : Stand p l e R s m args below meth c T locs cells slots) (hx : p.tables.exec = Jvm.exec) (hZ : Z.Warmed39 s.vm) (eT : T.heap = h) {g : Nat → Int64} (F : own_Arf Z h a .long n (fun i => .long (g i))) {j : Int32} {x : Int64} (h0 : ¬ j < 0) (hj : j.toNatClampNeg < n) {pc : Nat} {L : Array Slot} {rest : List Value} (hd : decode c.code pc = .ok (.lastore, 1)) :
    ∃ T' h', Stand p l e R s m args below meth c T' (locs ++ [⟨a, j.toNatClampNeg⟩]) cells slots ∧ T'.heap = h' ∧ Wr h h' a j.toNatClampNeg (.long x) ∧ own_Arf Z h' a .long n (fun i => .long (own_upd g j.toNatClampNeg x i)) ∧
      ∀ target, Steps p.tables e below (T'.setTop (mkF m (pc + 1) L rest)) target → Steps p.tables e below (T.setTop (mkF m pc L (.long x :: .int j :: .ref a :: rest))) target := by
  have F' := F
  obtain ⟨cl, A, hs, hn, hf⟩ := F
  obtain ⟨T', h', X', e', W, st⟩ := stJ X hx hZ eT A (j := j) (x := x) (fun q => q.elim h0 (fun r => by omega)) (g := mkF m pc L (.long x :: .int j :: .ref a :: rest)) rfl rfl hd
  exact ⟨T', h', X', e', W, F'.setJ W hj, st⟩
theorem own_stB (X : Stand p l e R s m args below meth c T locs cells slots) (hx : p.tables.exec = Jvm.exec) (hZ : Z.Warmed39 s.vm) (eT : T.heap = h) {g : Nat → Int32} (F : own_Arf Z h a .byte n (fun i => .int (g i))) {j x : Int32} (h0 : ¬ j < 0) (hj : j.toNatClampNeg < n) {pc : Nat} {L : Array Slot} {rest : List Value} (hd : decode c.code pc = .ok (.bastore, 1)) :
    ∃ T' h', Stand p l e R s m args below meth c T' (locs ++ [⟨a, j.toNatClampNeg⟩]) cells slots ∧ T'.heap = h' ∧ Wr h h' a j.toNatClampNeg (.int x.toInt8.toInt32) ∧ own_Arf Z h' a .byte n (fun i => .int (own_upd g j.toNatClampNeg x.toInt8.toInt32 i)) ∧
      ∀ target, Steps p.tables e below (T'.setTop (mkF m (pc + 1) L rest)) target → Steps p.tables e below (T.setTop (mkF m pc L (.int x :: .int j :: .ref a :: rest))) target := by
  have F' := F
  obtain ⟨cl, A, hs, hn, hf⟩ := F
  obtain ⟨T', h', X', e', W, st⟩ := stB X hx hZ eT A (j := j) (x := x) (fun q => q.elim h0 (fun r => by omega)) (g := mkF m pc L (.int x :: .int j :: .ref a :: rest)) rfl rfl hd
  exact ⟨T', h', X', e', W, F'.setI W hj, st⟩
end ownA
section ownB
variable {args : Array Value} {s : State} {t u : Term} {w : Addr} {ty : FieldType} {z : Int32} {n : Nat}
theorem own_Arf.start (ev : t.eval args s none [] s = some (.ref w)) (h1 : (Jvm.Cond.arrayOf t ty).value args s none s [] = some true) (h2 : (Jvm.Cond.eq (.length t) (.int z)).value args s none s [] = some true) (hn : z.toInt = n) :
    ∃ f, own_Arf s s.heap w ty n f ∧ ∀ j : Int32, ¬ j < 0 → j.toNatClampNeg < n → (Term.elem t (.int j)).eval args s none [] s = some (f j.toNatClampNeg) := by
  obtain ⟨c, A⟩ := Arr.start ev h1
  have hat : s.arrayAt? w = some c := Arr.fin (State.Warmed39.refl s).alike A
  have hlen := Cond.eq_int (Cond.before_iff.mpr h2) rfl
  have h31 := SBG.length_lt ev hat hlen
  have hsz : c.slots.size = n := by
    have e1 := len_f ev hat h31
    have e2 : c.slots.size.toInt32 = z := by simpa using Option.some.inj (e1.symm.trans hlen)
    have e3 := len_toInt h31
    rw [e2] at e3; omega
  refine ⟨fun i => (c.slots[i]?).getD .null, ⟨c, A, hsz, by omega, fun i hi => ?_⟩, fun j h0 hj => ?_⟩
  · have : i < c.slots.size := by omega
    simp [this]
  · rw [elem_f ev (Term.int_eval j) hat h0]
    have : j.toNatClampNeg < c.slots.size := by omega
    simp [this]
theorem own_eqref {a b : Term} {x : Value} (ha : a.eval args s none [] s = some x) (hb : b.eval args s none [] s = some (.ref w)) (h : (Jvm.Cond.eq a b).value args s none s [] = some true) : x = .ref w := by
  obtain ⟨x', y', e1, e2, k1, k2⟩ := cmp_v (Or.inl h)
  cases ha.symm.trans e1; cases hb.symm.trans e2
  exact gotT (eq_R ha hb k2.2 rfl) h
theorem own_fldstart {C f d : String} {k : Int32} (ev : t.eval args s none [] s = some (.ref w)) (h : (Jvm.Cond.eq (.field t C f d) (.int k)).value args s none s [] = some true) : Fld s s.heap w C f d (.int k) := by
  have e := Cond.eq_int (Cond.before_iff.mpr h) rfl
  rw [fld_at ev] at e
  exact Fld.start e
end ownB
section ownC
variable {Z : State} {h h' : Heap} {a b : Addr} {ty : FieldType} {n sl : Nat} {f : Nat → Value} {v : Value} {ws : List Addr}
variable {p : Program} {l : Launch} {e : Env} {R : Room} {s : State} {m : MethodId} {args : Array Value} {below : List Frame} {meth : Method} {c : Code} {T : State} {locs : List Loc} {cells slots : Nat}
theorem own_ldA (X : Stand p l e R s m args below meth c T locs cells slots) (hx : p.tables.exec = Jvm.exec) (hZ : Z.Warmed39 s.vm) (eT : T.heap = h) (F : own_Arf Z h a ty n f) (hty : ty.isReference = true) {j : Int32} (h0 : ¬ j < 0) (hj : j.toNatClampNeg < n) {pc : Nat} {L : Array Slot} {rest : List Value} (hd : decode c.code pc = .ok (.aaload, 1)) :
    ∀ target, Steps p.tables e below (T.setTop (mkF m (pc + 1) L (f j.toNatClampNeg :: rest))) target → Steps p.tables e below (T.setTop (mkF m pc L (.int j :: .ref a :: rest))) target := by
  obtain ⟨cl, A, hs, hn, hf⟩ := F
  intro target k
  exact X.aaload hx (j := j) (v := f j.toNatClampNeg) (by rw [eT]; exact A.1) (State.isArrayOf_alike hZ.alike A.2.1) hty A.2.2 (fun q => q.elim h0 (fun r => by omega)) (hf _ hj) (g := mkF m pc L (.int j :: .ref a :: rest)) rfl rfl hd _ k
theorem own_clone (X : Stand p l e R s m args below meth c T locs cells slots) (hx : p.tables.exec = Jvm.exec) (hZ : Z.Warmed39 s.vm) {a0 : Array Value} {own ad : String} {index : Nat} (hown : s.vm.findClass own = some m.cls)
    (w1 : (Cond.methodLink own index ⟨ad, "clone", "()Ljava/lang/Object;"⟩).before a0 Z = true) (w2 : (Cond.sameMethod ad "java/lang/Object" "clone" "()Ljava/lang/Object;").before a0 Z = true) (w3 : (Cond.native ⟨"java/lang/Object", "clone", "()Ljava/lang/Object;"⟩).before a0 Z = true)
    (w4 : (Cond.instanceMethod ⟨"java/lang/Object", "clone", "()Ljava/lang/Object;"⟩).before a0 Z = true) (w5 : (Cond.selects ad ⟨ad, "clone", "()Ljava/lang/Object;"⟩ ⟨"java/lang/Object", "clone", "()Ljava/lang/Object;"⟩).before a0 Z = true) (w6 : (Cond.castable ad "java/lang/Cloneable").before a0 Z = true)
    (eT : T.heap = h) (F : own_Arf Z h a ty n f) (E : Exa Z h a ad) (hfit : ∀ i, i < n → fits ty (f i) = true) {g : JFrame} (hg : g.method = m) (hsize : g.locals.size = c.maxLocals) {rest : List Value} (hs : g.stack = .ref a :: rest) (hd : decode c.code g.pc = .ok (.invokevirtual index, 3))
    (hf : 1 ≤ R.frames) {W : Nat} (hW : 2 * g.monitorRoom + (rest.map fun v => v.category).sum ≤ W) (hl : W + 14 ≤ R.locals) (hc : cells + 1 ≤ R.cells) (hsl : slots + n ≤ R.slots) :
    ∃ T' h', Stand p l e R s m args below meth c T' locs (cells + 1) (slots + n) ∧ T'.heap = h' ∧ Ext h h' ∧ own_Arf Z h' h.size ty n f ∧ Exa Z h' h.size ad ∧
      ∀ target, Steps p.tables e below (T'.setTop { g with pc := g.pc + 3, stack := .ref h.size :: rest }) target → Steps p.tables e below (T.setTop g) target := by
  obtain ⟨cl, A, q1, q2, q3⟩ := F
  have FC : FitC Z cl := fitC_of A (fun i hi v hv => by
    have r := q3 i (by omega)
    rw [r] at hv; cases hv; exact hfit i (by omega))
  obtain ⟨T', h', X', e', E', A', EA, st⟩ := cloneA X hx hZ hown w1 w2 w3 w4 w5 w6 eT A E FC hg hsize hs hd hf hW hl (cap := n) (by omega) hc hsl
  exact ⟨T', h', X', e', E', ⟨_, A', q1, q2, q3⟩, EA, st⟩
end ownC

theorem own_pd0 : parseMethodDescriptor "(I)Z" = some ⟨[.int], some .boolean⟩ := by decide +kernel
def own_inv (k : Nat) (p0 v1 : Int32) : Prop := 4 ≤ p0.toInt ∧ 3 ≤ v1.toInt ∧ v1.toInt ≤ 46342 ∧ 46342 < v1.toInt + 2 * (k : Int)
theorem own_nz {k : Nat} {p0 v1 : Int32} (h : own_inv k p0 v1) : v1 ≠ 0 := by
  rintro rfl
  exact absurd h.2.1 (by decide)
theorem own_enter {p0 : Int32} (h : ¬ p0 < (4 : Int32)) : own_inv 23170 p0 (3 : Int32) := by
  rw [Int32.lt_iff_toInt_lt] at h
  simp only [own_inv, Int32.reduceToInt] at h ⊢
  omega
theorem own_div {p0 v1 : Int32} (h : 3 ≤ v1.toInt) (h2 : 0 ≤ p0.toInt) : (p0 / v1).toInt = p0.toInt / v1.toInt ∧ (p0 % v1).toInt = p0.toInt % v1.toInt := by
  have e := c_idiv p0 v1 v1.toInt rfl (by rintro rfl; exact absurd h (by decide))
  have e2 := c_irem p0 v1 v1.toInt rfl
  exact ⟨e.1 h2, e2.1 h2⟩
theorem own_sq {n i : Int} (hi : 3 ≤ i) (h : ¬ n / i < i) : i * i ≤ n := by
  have h1 : i ≤ n / i := by omega
  have h2 := Int.mul_le_mul_of_nonneg_right h1 (show (0 : Int) ≤ i by omega)
  have h3 : n / i * i ≤ n := Int.ediv_mul_le n (by omega)
  omega
theorem own_small {i : Int} (h0 : 3 ≤ i) (h : i * i < 2147483648) : i ≤ 46340 := by
  rcases Int.lt_or_le 46340 i with h1 | h1
  · have h2 : 46341 * i ≤ i * i := Int.mul_le_mul_of_nonneg_right (by omega) (by omega)
    omega
  · exact h1
theorem own_step {k : Nat} {p0 v1 : Int32} (h : own_inv (k + 1) p0 v1) (h2 : ¬ (p0 / v1) < v1) : own_inv k p0 (v1 + (2 : Int32)) := by
  obtain ⟨a, b, c, d⟩ := h
  rw [Int32.lt_iff_toInt_lt, (own_div b (by omega)).1] at h2
  have s := own_sq b h2
  have r := rng32 p0
  have t := own_small b (by omega)
  have e := c_iadd v1 2
  have r2 := rng32 (v1 + 2)
  simp only [Int32.reduceToInt] at e
  simp only [own_inv]
  push_cast at d
  omega
theorem own_b27 (p3 : Int32) : ¬ ((p3 &&& (2147483647 : Int32)) % (27 : Int32)) < 0 ∧ ((p3 &&& (2147483647 : Int32)) % (27 : Int32)).toNatClampNeg < 27 := by
  have e := c_mask p3 2147483647 31 (by decide) (by decide)
  have f := (c_irem (p3 &&& 2147483647) 27 27 (by decide)).1 (by omega)
  simp only [Int32.lt_iff_toInt_lt, Int32.toNatClampNeg, Int32.reduceToInt]
  omega
theorem own_x (p1 : Int32) : ((2 : Int32) + ((p1 &&& (2147483647 : Int32)) % (46339 : Int32))).toInt = 2 + (p1.toInt % 2147483648) % 46339 := by
  have e := c_mask p1 2147483647 31 (by decide) (by decide)
  have f := (c_irem (p1 &&& 2147483647) 46339 46339 (by decide)).1 (by omega)
  have g := c_iadd 2 ((p1 &&& (2147483647 : Int32)) % (46339 : Int32))
  have r := rng32 ((2 : Int32) + ((p1 &&& (2147483647 : Int32)) % (46339 : Int32)))
  simp only [Int32.reduceToInt] at g
  omega
theorem own_xnz (p1 : Int32) : ((2 : Int32) + ((p1 &&& (2147483647 : Int32)) % (46339 : Int32))) ≠ 0 := by
  have e := own_x p1
  intro q
  rw [q] at e
  simp only [Int32.reduceToInt] at e
  omega
theorem own_m (x : Int32) (h : 2 ≤ x.toInt ∧ x.toInt ≤ 46340) : (((2147483647 : Int32) / x) - (1 : Int32)).toInt = 2147483647 / x.toInt - 1 ∧ 46341 ≤ 2147483647 / x.toInt ∧ 2147483647 / x.toInt ≤ 2147483647 := by
  have e := (c_idiv 2147483647 x x.toInt rfl (by rintro rfl; exact absurd h.1 (by decide))).1 (by decide)
  have g := c_isub (2147483647 / x) 1
  have r := rng32 (((2147483647 : Int32) / x) - (1 : Int32))
  simp only [Int32.reduceToInt] at e g
  have k1 : 46341 ≤ 2147483647 / x.toInt := by
    rw [Int.le_ediv_iff_mul_le (by omega)]
    omega
  have k2 : 2147483647 / x.toInt ≤ 2147483647 := Int.ediv_le_self _ (by decide)
  omega
theorem own_mnz (p1 : Int32) : (((2147483647 : Int32) / ((2 : Int32) + ((p1 &&& (2147483647 : Int32)) % (46339 : Int32)))) - (1 : Int32)) ≠ 0 := by
  have e := own_x p1
  have m := own_m ((2 : Int32) + ((p1 &&& (2147483647 : Int32)) % (46339 : Int32))) (by omega)
  intro q
  rw [q] at m
  simp only [Int32.reduceToInt] at m
  omega
theorem ip_d0 : decode prog_106_method_2_code 0 = .ok (.iload_n 0, 1) := by decide +kernel
theorem ip_d1 : decode prog_106_method_2_code 1 = .ok (.iconst 4, 1) := by decide +kernel
theorem ip_d2 : decode prog_106_method_2_code 2 = .ok (.if_icmp .ge 14, 3) := by decide +kernel
theorem ip_d5 : decode prog_106_method_2_code 5 = .ok (.iload_n 0, 1) := by decide +kernel
theorem ip_d6 : decode prog_106_method_2_code 6 = .ok (.iconst 2, 1) := by decide +kernel
theorem ip_d7 : decode prog_106_method_2_code 7 = .ok (.if_icmp .lt 7, 3) := by decide +kernel
theorem ip_d10 : decode prog_106_method_2_code 10 = .ok (.iconst 1, 1) := by decide +kernel
theorem ip_d11 : decode prog_106_method_2_code 11 = .ok (.goto 4, 3) := by decide +kernel
theorem ip_d14 : decode prog_106_method_2_code 14 = .ok (.iconst 0, 1) := by decide +kernel
theorem ip_d15 : decode prog_106_method_2_code 15 = .ok (.ireturn, 1) := by decide +kernel
theorem ip_d16 : decode prog_106_method_2_code 16 = .ok (.iload_n 0, 1) := by decide +kernel
theorem ip_d17 : decode prog_106_method_2_code 17 = .ok (.iconst 2, 1) := by decide +kernel
theorem ip_d18 : decode prog_106_method_2_code 18 = .ok (.irem, 1) := by decide +kernel
theorem ip_d19 : decode prog_106_method_2_code 19 = .ok (.ifCond .ne 5, 3) := by decide +kernel
theorem ip_d22 : decode prog_106_method_2_code 22 = .ok (.iconst 0, 1) := by decide +kernel
theorem ip_d23 : decode prog_106_method_2_code 23 = .ok (.ireturn, 1) := by decide +kernel
theorem ip_d24 : decode prog_106_method_2_code 24 = .ok (.iconst 3, 1) := by decide +kernel
theorem ip_d25 : decode prog_106_method_2_code 25 = .ok (.istore_n 1, 1) := by decide +kernel
theorem ip_d26 : decode prog_106_method_2_code 26 = .ok (.iload_n 1, 1) := by decide +kernel
theorem ip_d27 : decode prog_106_method_2_code 27 = .ok (.iload_n 0, 1) := by decide +kernel
theorem ip_d28 : decode prog_106_method_2_code 28 = .ok (.iload_n 1, 1) := by decide +kernel
theorem ip_d29 : decode prog_106_method_2_code 29 = .ok (.idiv, 1) := by decide +kernel
theorem ip_d30 : decode prog_106_method_2_code 30 = .ok (.if_icmp .gt 17, 3) := by decide +kernel
theorem ip_d33 : decode prog_106_method_2_code 33 = .ok (.iload_n 0, 1) := by decide +kernel
theorem ip_d34 : decode prog_106_method_2_code 34 = .ok (.iload_n 1, 1) := by decide +kernel
theorem ip_d35 : decode prog_106_method_2_code 35 = .ok (.irem, 1) := by decide +kernel
theorem ip_d36 : decode prog_106_method_2_code 36 = .ok (.ifCond .ne 5, 3) := by decide +kernel
theorem ip_d39 : decode prog_106_method_2_code 39 = .ok (.iconst 0, 1) := by decide +kernel
theorem ip_d40 : decode prog_106_method_2_code 40 = .ok (.ireturn, 1) := by decide +kernel
theorem ip_d41 : decode prog_106_method_2_code 41 = .ok (.iinc 1 2, 3) := by decide +kernel
theorem ip_d44 : decode prog_106_method_2_code 44 = .ok (.goto (-18), 3) := by decide +kernel
theorem ip_d47 : decode prog_106_method_2_code 47 = .ok (.iconst 1, 1) := by decide +kernel
theorem ip_d48 : decode prog_106_method_2_code 48 = .ok (.ireturn, 1) := by decide +kernel
def ip_f26 : Nat → Int32 → Int32 → Int32
  | 0, _, _ => 0
  | k + 1, p0, v1 =>
    if (p0 / v1) < v1 then
      (1 : Int32)
    else
      if (p0 % v1) = (0 : Int32) then
        (0 : Int32)
      else
        ip_f26 k p0 ((v1 + (2 : Int32)))
set_option maxRecDepth 65536 in
set_option maxHeartbeats 40000000 in
theorem ip_c26 {l : Launch} {Z : State} {a0 : Array Value} {p0 : Int32} {h0 : Heap} {n0 : Nat} {p : Program} {e : Env} {s : State} {m : MethodId} {args : Array Value} {below : List Frame} {meth : Method} {c : Code} {T0 : State} {locs : List Loc} {r0 : Int32} (C0 : own_Cx p s m meth c Z a0 prog_106_method_2_code 2 "com/example/hashloom/hashloom/Primes" "isPrime" (some .boolean)) (k : Nat) (X0 : Stand p l e ({ frames := 0, cells := 0, slots := 0, locals := 0 } : Room) s m args below meth c T0 locs 0 0) (e0 : T0.heap = h0) (N0 : Fr n0 locs) (v1 : Int32) (hi0 : own_inv k p0 v1) (hr0 : r0 = ip_f26 k p0 v1) :
    own_Dn p e below s (own_Q (some (.int r0)) n0 h0) ({ frames := 0, cells := 0, slots := 0, locals := 0 } : Room).cells ({ frames := 0, cells := 0, slots := 0, locals := 0 } : Room).slots (T0.setTop (mkF m 26 #[.val (.int p0), .val (.int v1)] [])) := by
  induction k generalizing T0 locs r0 v1 with
  | zero => exact absurd hi0 (by intro q; simp only [own_inv] at q; omega)
  | succ k ih =>
    obtain ⟨hx, hZ, hw, hby, hml, hown, hret, hlk, hnm⟩ := id C0
    refine own_st (fun _ k => XS.iloadN X0.here hx rfl (hb hby ip_d26) rfl (XS.iloadN X0.here hx rfl (hb hby ip_d27) rfl (XS.iloadN X0.here hx rfl (hb hby ip_d28) rfl (XS.idiv X0.here hx rfl (hb hby ip_d29) rfl (own_nz hi0) k)))) ?_
    show own_Dn p e below s _ _ _ (T0.setTop (mkF m 30 #[.val (.int p0), .val (.int v1)] [(.int (p0 / v1)), (.int v1)]))
    by_cases hc9 : (p0 / v1) < v1
    · refine own_st (fun _ k => XS.icmpYes X0.here hx rfl (pc0 := 30) (pc' := 47) rfl (hb hby ip_d30) rfl (tlt hc9).2.2.1 (by decide) (by decide) k) ?_
      show own_Dn p e below s _ _ _ (T0.setTop (mkF m 47 #[.val (.int p0), .val (.int v1)] []))
      refine own_st (fun _ k => XS.iconst X0.here hx rfl (hb hby ip_d47) k) ?_
      show own_Dn p e below s _ _ _ (T0.setTop (mkF m 48 #[.val (.int p0), .val (.int v1)] [(.int (1 : Int32))]))
      exact own_retZ X0 hx hret hlk (by decide) (hb hby ip_d48) (by decide) (by decide) ⟨(by rw [hr0, ip_f26, if_pos hc9]), N0, e0⟩
    · refine own_st (fun _ k => XS.icmpNo X0.here hx rfl (hb hby ip_d30) rfl (flt hc9).2.2.1 k) ?_
      show own_Dn p e below s _ _ _ (T0.setTop (mkF m 33 #[.val (.int p0), .val (.int v1)] []))
      refine own_st (fun _ k => XS.iloadN X0.here hx rfl (hb hby ip_d33) rfl (XS.iloadN X0.here hx rfl (hb hby ip_d34) rfl (iremM X0 hx rfl (hb hby ip_d35) rfl (own_nz hi0) k))) ?_
      show own_Dn p e below s _ _ _ (T0.setTop (mkF m 36 #[.val (.int p0), .val (.int v1)] [(.int (p0 % v1))]))
      by_cases hc10 : (p0 % v1) = (0 : Int32)
      · refine own_st (fun _ k => XS.ifNo X0.here hx rfl (hb hby ip_d36) rfl ((if0 _ _).trans (teq hc10).2) k) ?_
        show own_Dn p e below s _ _ _ (T0.setTop (mkF m 39 #[.val (.int p0), .val (.int v1)] []))
        refine own_st (fun _ k => XS.iconst X0.here hx rfl (hb hby ip_d39) k) ?_
        show own_Dn p e below s _ _ _ (T0.setTop (mkF m 40 #[.val (.int p0), .val (.int v1)] [(.int (0 : Int32))]))
        exact own_retZ X0 hx hret hlk (by decide) (hb hby ip_d40) (by decide) (by decide) ⟨(by rw [hr0, ip_f26, if_neg hc9, if_pos hc10]), N0, e0⟩
      · refine own_st (fun _ k => XS.ifYes X0.here hx rfl (pc0 := 36) (pc' := 41) rfl (hb hby ip_d36) rfl ((if0 _ _).trans (feq hc10).2) (by decide) (by decide) k) ?_
        show own_Dn p e below s _ _ _ (T0.setTop (mkF m 41 #[.val (.int p0), .val (.int v1)] []))
        refine own_st (fun _ k => XS.iinc X0.here hx rfl (hb hby ip_d41) rfl (l' := #[.val (.int p0), .val (.int (v1 + (2 : Int32)))]) rfl (XS.goto X0.here hx rfl (pc0 := 44) (pc' := 26) rfl (hb hby ip_d44) (by decide) (by decide) k)) ?_
        show own_Dn p e below s _ _ _ (T0.setTop (mkF m 26 #[.val (.int p0), .val (.int (v1 + (2 : Int32)))] []))
        exact ih X0 e0 N0 ((v1 + (2 : Int32))) (own_step hi0 hc9) (by rw [hr0, ip_f26, if_neg hc9, if_neg hc10])
def ip_f (p0 : Int32)  : Int32 :=
  if p0 < (4 : Int32) then
    if p0 < (2 : Int32) then
      (0 : Int32)
    else
      (1 : Int32)
  else
    if (p0 % (2 : Int32)) = (0 : Int32) then
      (0 : Int32)
    else
      ip_f26 23170 p0 ((3 : Int32))
set_option maxRecDepth 65536 in
set_option maxHeartbeats 40000000 in
theorem ip_c0 {l : Launch} {Z : State} {a0 : Array Value} {p0 : Int32} {h0 : Heap} {n0 : Nat} {p : Program} {e : Env} {s : State} {m : MethodId} {args : Array Value} {below : List Frame} {meth : Method} {c : Code} {T0 : State} {locs : List Loc} {r0 : Int32} (C0 : own_Cx p s m meth c Z a0 prog_106_method_2_code 2 "com/example/hashloom/hashloom/Primes" "isPrime" (some .boolean)) (X0 : Stand p l e ({ frames := 0, cells := 0, slots := 0, locals := 0 } : Room) s m args below meth c T0 locs 0 0) (e0 : T0.heap = h0) (N0 : Fr n0 locs)  (hr0 : r0 = ip_f p0 ) :
    own_Dn p e below s (own_Q (some (.int r0)) n0 h0) ({ frames := 0, cells := 0, slots := 0, locals := 0 } : Room).cells ({ frames := 0, cells := 0, slots := 0, locals := 0 } : Room).slots (T0.setTop (mkF m 0 #[.val (.int p0), .unset] [])) := by
  obtain ⟨hx, hZ, hw, hby, hml, hown, hret, hlk, hnm⟩ := id C0
  refine own_st (fun _ k => XS.iloadN X0.here hx rfl (hb hby ip_d0) rfl (XS.iconst X0.here hx rfl (hb hby ip_d1) k)) ?_
  show own_Dn p e below s _ _ _ (T0.setTop (mkF m 2 #[.val (.int p0), .unset] [(.int (4 : Int32)), (.int p0)]))
  by_cases hc6 : p0 < (4 : Int32)
  · refine own_st (fun _ k => XS.icmpNo X0.here hx rfl (hb hby ip_d2) rfl (tlt hc6).2.1 k) ?_
    show own_Dn p e below s _ _ _ (T0.setTop (mkF m 5 #[.val (.int p0), .unset] []))
    refine own_st (fun _ k => XS.iloadN X0.here hx rfl (hb hby ip_d5) rfl (XS.iconst X0.here hx rfl (hb hby ip_d6) k)) ?_
    show own_Dn p e below s _ _ _ (T0.setTop (mkF m 7 #[.val (.int p0), .unset] [(.int (2 : Int32)), (.int p0)]))
    by_cases hc7 : p0 < (2 : Int32)
    · refine own_st (fun _ k => XS.icmpYes X0.here hx rfl (pc0 := 7) (pc' := 14) rfl (hb hby ip_d7) rfl (tlt hc7).1 (by decide) (by decide) k) ?_
      show own_Dn p e below s _ _ _ (T0.setTop (mkF m 14 #[.val (.int p0), .unset] []))
      refine own_st (fun _ k => XS.iconst X0.here hx rfl (hb hby ip_d14) k) ?_
      show own_Dn p e below s _ _ _ (T0.setTop (mkF m 15 #[.val (.int p0), .unset] [(.int (0 : Int32))]))
      exact own_retZ X0 hx hret hlk (by decide) (hb hby ip_d15) (by decide) (by decide) ⟨(by rw [hr0, ip_f, if_pos hc6, if_pos hc7]), N0, e0⟩
    · refine own_st (fun _ k => XS.icmpNo X0.here hx rfl (hb hby ip_d7) rfl (flt hc7).1 k) ?_
      show own_Dn p e below s _ _ _ (T0.setTop (mkF m 10 #[.val (.int p0), .unset] []))
      refine own_st (fun _ k => XS.iconst X0.here hx rfl (hb hby ip_d10) (XS.goto X0.here hx rfl (pc0 := 11) (pc' := 15) rfl (hb hby ip_d11) (by decide) (by decide) k)) ?_
      show own_Dn p e below s _ _ _ (T0.setTop (mkF m 15 #[.val (.int p0), .unset] [(.int (1 : Int32))]))
      exact own_retZ X0 hx hret hlk (by decide) (hb hby ip_d15) (by decide) (by decide) ⟨(by rw [hr0, ip_f, if_pos hc6, if_neg hc7]), N0, e0⟩
  · refine own_st (fun _ k => XS.icmpYes X0.here hx rfl (pc0 := 2) (pc' := 16) rfl (hb hby ip_d2) rfl (flt hc6).2.1 (by decide) (by decide) k) ?_
    show own_Dn p e below s _ _ _ (T0.setTop (mkF m 16 #[.val (.int p0), .unset] []))
    refine own_st (fun _ k => XS.iloadN X0.here hx rfl (hb hby ip_d16) rfl (XS.iconst X0.here hx rfl (hb hby ip_d17) (iremM X0 hx rfl (hb hby ip_d18) rfl (by decide) k))) ?_
    show own_Dn p e below s _ _ _ (T0.setTop (mkF m 19 #[.val (.int p0), .unset] [(.int (p0 % (2 : Int32)))]))
    by_cases hc8 : (p0 % (2 : Int32)) = (0 : Int32)
    · refine own_st (fun _ k => XS.ifNo X0.here hx rfl (hb hby ip_d19) rfl ((if0 _ _).trans (teq hc8).2) k) ?_
      show own_Dn p e below s _ _ _ (T0.setTop (mkF m 22 #[.val (.int p0), .unset] []))
      refine own_st (fun _ k => XS.iconst X0.here hx rfl (hb hby ip_d22) k) ?_
      show own_Dn p e below s _ _ _ (T0.setTop (mkF m 23 #[.val (.int p0), .unset] [(.int (0 : Int32))]))
      exact own_retZ X0 hx hret hlk (by decide) (hb hby ip_d23) (by decide) (by decide) ⟨(by rw [hr0, ip_f, if_neg hc6, if_pos hc8]), N0, e0⟩
    · refine own_st (fun _ k => XS.ifYes X0.here hx rfl (pc0 := 19) (pc' := 24) rfl (hb hby ip_d19) rfl ((if0 _ _).trans (feq hc8).2) (by decide) (by decide) k) ?_
      show own_Dn p e below s _ _ _ (T0.setTop (mkF m 24 #[.val (.int p0), .unset] []))
      refine own_st (fun _ k => XS.iconst X0.here hx rfl (hb hby ip_d24) (XS.istoreN X0.here hx rfl (hb hby ip_d25) rfl (l' := #[.val (.int p0), .val (.int (3 : Int32))]) rfl k)) ?_
      show own_Dn p e below s _ _ _ (T0.setTop (mkF m 26 #[.val (.int p0), .val (.int (3 : Int32))] []))
      exact ip_c26 C0 23170 X0 e0 N0 ((3 : Int32)) (own_enter hc6) (by rw [hr0, ip_f, if_neg hc6, if_neg hc8])
theorem ip_ef (m : MethodId) (p0 : Int32) : entryFrame m #[(.int p0)] 2 = mkF m 0 #[.val (.int p0), .unset] [] := by first | (simp [entryFrame, mkF, argsToLocals, Value.category]; done) | rfl
theorem ip_rm (l : Launch) (Z : State) (a0 : Array Value) (hw : ∀ d ∈ tables_1, d.before a0 Z = true) (ws : List Jvm.Cond) (p0 : Int32) (h0 : Heap) (n0 : Nat) :
    MetFree l (⟨"com/example/hashloom/hashloom/Primes", "isPrime", "(I)Z"⟩ : MethodName) (head1 (Jvm.Cond.code (⟨"com/example/hashloom/hashloom/Primes", "isPrime", "(I)Z"⟩ : MethodName) prog_106_method_2_code 2 (some .boolean) :: ws) ({ frames := 0, cells := 0, slots := 0, locals := 0 } : Room)) (fun a U => a = #[(.int p0)] ∧ Z.Warmed39 U.vm ∧ U.heap = h0) (fun _ _ _ _ _ => True) (fun _ U o U' => ∃ v L, o = .returned v ∧ (own_Q (some (.int (ip_f p0))) n0 h0) v U'.heap L ∧ FrameEnd U o U' L ({ frames := 0, cells := 0, slots := 0, locals := 0 } : Room).cells ({ frames := 0, cells := 0, slots := 0, locals := 0 } : Room).slots) :=
  own_met hw (plainFor_of_name (by first | (simp [plainName, overriddenIn]; done) | decide +kernel)) (fun p e s m below meth c T0 C0 X0 e0 => own_st (fun _ k => castTop (ip_ef m p0) k) (ip_c0 C0 X0 e0 (Fr.nil n0) rfl))
theorem lw_d0 : decode code 0 = .ok (.bipush 27, 2) := by decide +kernel
theorem lw_d2 : decode code 2 = .ok (.newarray .int, 2) := by decide +kernel
theorem lw_d4 : decode code 4 = .ok (.dup, 1) := by decide +kernel
theorem lw_d5 : decode code 5 = .ok (.iconst 0, 1) := by decide +kernel
theorem lw_d6 : decode code 6 = .ok (.iconst 2, 1) := by decide +kernel
theorem lw_d7 : decode code 7 = .ok (.iastore, 1) := by decide +kernel
theorem lw_d8 : decode code 8 = .ok (.dup, 1) := by decide +kernel
theorem lw_d9 : decode code 9 = .ok (.iconst 1, 1) := by decide +kernel
theorem lw_d10 : decode code 10 = .ok (.iconst 3, 1) := by decide +kernel
theorem lw_d11 : decode code 11 = .ok (.iastore, 1) := by decide +kernel
theorem lw_d12 : decode code 12 = .ok (.dup, 1) := by decide +kernel
theorem lw_d13 : decode code 13 = .ok (.iconst 2, 1) := by decide +kernel
theorem lw_d14 : decode code 14 = .ok (.iconst 5, 1) := by decide +kernel
theorem lw_d15 : decode code 15 = .ok (.iastore, 1) := by decide +kernel
theorem lw_d16 : decode code 16 = .ok (.dup, 1) := by decide +kernel
theorem lw_d17 : decode code 17 = .ok (.iconst 3, 1) := by decide +kernel
theorem lw_d18 : decode code 18 = .ok (.bipush 7, 2) := by decide +kernel
theorem lw_d20 : decode code 20 = .ok (.iastore, 1) := by decide +kernel
theorem lw_d21 : decode code 21 = .ok (.dup, 1) := by decide +kernel
theorem lw_d22 : decode code 22 = .ok (.iconst 4, 1) := by decide +kernel
theorem lw_d23 : decode code 23 = .ok (.bipush 11, 2) := by decide +kernel
theorem lw_d25 : decode code 25 = .ok (.iastore, 1) := by decide +kernel
theorem lw_d26 : decode code 26 = .ok (.dup, 1) := by decide +kernel
theorem lw_d27 : decode code 27 = .ok (.iconst 5, 1) := by decide +kernel
theorem lw_d28 : decode code 28 = .ok (.bipush 13, 2) := by decide +kernel
theorem lw_d30 : decode code 30 = .ok (.iastore, 1) := by decide +kernel
theorem lw_d31 : decode code 31 = .ok (.dup, 1) := by decide +kernel
theorem lw_d32 : decode code 32 = .ok (.bipush 6, 2) := by decide +kernel
theorem lw_d34 : decode code 34 = .ok (.bipush 17, 2) := by decide +kernel
theorem lw_d36 : decode code 36 = .ok (.iastore, 1) := by decide +kernel
theorem lw_d37 : decode code 37 = .ok (.dup, 1) := by decide +kernel
theorem lw_d38 : decode code 38 = .ok (.bipush 7, 2) := by decide +kernel
theorem lw_d40 : decode code 40 = .ok (.bipush 19, 2) := by decide +kernel
theorem lw_d42 : decode code 42 = .ok (.iastore, 1) := by decide +kernel
theorem lw_d43 : decode code 43 = .ok (.dup, 1) := by decide +kernel
theorem lw_d44 : decode code 44 = .ok (.bipush 8, 2) := by decide +kernel
theorem lw_d46 : decode code 46 = .ok (.bipush 23, 2) := by decide +kernel
theorem lw_d48 : decode code 48 = .ok (.iastore, 1) := by decide +kernel
theorem lw_d49 : decode code 49 = .ok (.dup, 1) := by decide +kernel
theorem lw_d50 : decode code 50 = .ok (.bipush 9, 2) := by decide +kernel
theorem lw_d52 : decode code 52 = .ok (.bipush 29, 2) := by decide +kernel
theorem lw_d54 : decode code 54 = .ok (.iastore, 1) := by decide +kernel
theorem lw_d55 : decode code 55 = .ok (.dup, 1) := by decide +kernel
theorem lw_d56 : decode code 56 = .ok (.bipush 10, 2) := by decide +kernel
theorem lw_d58 : decode code 58 = .ok (.bipush 31, 2) := by decide +kernel
theorem lw_d60 : decode code 60 = .ok (.iastore, 1) := by decide +kernel
theorem lw_d61 : decode code 61 = .ok (.dup, 1) := by decide +kernel
theorem lw_d62 : decode code 62 = .ok (.bipush 11, 2) := by decide +kernel
theorem lw_d64 : decode code 64 = .ok (.bipush 37, 2) := by decide +kernel
theorem lw_d66 : decode code 66 = .ok (.iastore, 1) := by decide +kernel
theorem lw_d67 : decode code 67 = .ok (.dup, 1) := by decide +kernel
theorem lw_d68 : decode code 68 = .ok (.bipush 12, 2) := by decide +kernel
theorem lw_d70 : decode code 70 = .ok (.bipush 41, 2) := by decide +kernel
theorem lw_d72 : decode code 72 = .ok (.iastore, 1) := by decide +kernel
theorem lw_d73 : decode code 73 = .ok (.dup, 1) := by decide +kernel
theorem lw_d74 : decode code 74 = .ok (.bipush 13, 2) := by decide +kernel
theorem lw_d76 : decode code 76 = .ok (.bipush 43, 2) := by decide +kernel
theorem lw_d78 : decode code 78 = .ok (.iastore, 1) := by decide +kernel
theorem lw_d79 : decode code 79 = .ok (.dup, 1) := by decide +kernel
theorem lw_d80 : decode code 80 = .ok (.bipush 14, 2) := by decide +kernel
theorem lw_d82 : decode code 82 = .ok (.bipush 47, 2) := by decide +kernel
theorem lw_d84 : decode code 84 = .ok (.iastore, 1) := by decide +kernel
theorem lw_d85 : decode code 85 = .ok (.dup, 1) := by decide +kernel
theorem lw_d86 : decode code 86 = .ok (.bipush 15, 2) := by decide +kernel
theorem lw_d88 : decode code 88 = .ok (.bipush 97, 2) := by decide +kernel
theorem lw_d90 : decode code 90 = .ok (.iastore, 1) := by decide +kernel
theorem lw_d91 : decode code 91 = .ok (.dup, 1) := by decide +kernel
theorem lw_d92 : decode code 92 = .ok (.bipush 16, 2) := by decide +kernel
theorem lw_d94 : decode code 94 = .ok (.bipush 101, 2) := by decide +kernel
theorem lw_d96 : decode code 96 = .ok (.iastore, 1) := by decide +kernel
theorem lw_d97 : decode code 97 = .ok (.dup, 1) := by decide +kernel
theorem lw_d98 : decode code 98 = .ok (.bipush 17, 2) := by decide +kernel
theorem lw_d100 : decode code 100 = .ok (.sipush 7919, 3) := by decide +kernel
theorem lw_d103 : decode code 103 = .ok (.iastore, 1) := by decide +kernel
theorem lw_d104 : decode code 104 = .ok (.dup, 1) := by decide +kernel
theorem lw_d105 : decode code 105 = .ok (.bipush 18, 2) := by decide +kernel
theorem lw_d107 : decode code 107 = .ok (.sipush 9973, 3) := by decide +kernel
theorem lw_d110 : decode code 110 = .ok (.iastore, 1) := by decide +kernel
theorem lw_d111 : decode code 111 = .ok (.dup, 1) := by decide +kernel
theorem lw_d112 : decode code 112 = .ok (.bipush 19, 2) := by decide +kernel
theorem lw_d114 : decode code 114 = .ok (.ldc 7, 2) := by decide +kernel
theorem lw_d116 : decode code 116 = .ok (.iastore, 1) := by decide +kernel
theorem lw_d117 : decode code 117 = .ok (.dup, 1) := by decide +kernel
theorem lw_d118 : decode code 118 = .ok (.bipush 20, 2) := by decide +kernel
theorem lw_d120 : decode code 120 = .ok (.ldc 8, 2) := by decide +kernel
theorem lw_d122 : decode code 122 = .ok (.iastore, 1) := by decide +kernel
theorem lw_d123 : decode code 123 = .ok (.dup, 1) := by decide +kernel
theorem lw_d124 : decode code 124 = .ok (.bipush 21, 2) := by decide +kernel
theorem lw_d126 : decode code 126 = .ok (.ldc 9, 2) := by decide +kernel
theorem lw_d128 : decode code 128 = .ok (.iastore, 1) := by decide +kernel
theorem lw_d129 : decode code 129 = .ok (.dup, 1) := by decide +kernel
theorem lw_d130 : decode code 130 = .ok (.bipush 22, 2) := by decide +kernel
theorem lw_d132 : decode code 132 = .ok (.ldc 10, 2) := by decide +kernel
theorem lw_d134 : decode code 134 = .ok (.iastore, 1) := by decide +kernel
theorem lw_d135 : decode code 135 = .ok (.dup, 1) := by decide +kernel
theorem lw_d136 : decode code 136 = .ok (.bipush 23, 2) := by decide +kernel
theorem lw_d138 : decode code 138 = .ok (.ldc 11, 2) := by decide +kernel
theorem lw_d140 : decode code 140 = .ok (.iastore, 1) := by decide +kernel
theorem lw_d141 : decode code 141 = .ok (.dup, 1) := by decide +kernel
theorem lw_d142 : decode code 142 = .ok (.bipush 24, 2) := by decide +kernel
theorem lw_d144 : decode code 144 = .ok (.ldc 12, 2) := by decide +kernel
theorem lw_d146 : decode code 146 = .ok (.iastore, 1) := by decide +kernel
theorem lw_d147 : decode code 147 = .ok (.dup, 1) := by decide +kernel
theorem lw_d148 : decode code 148 = .ok (.bipush 25, 2) := by decide +kernel
theorem lw_d150 : decode code 150 = .ok (.ldc 13, 2) := by decide +kernel
theorem lw_d152 : decode code 152 = .ok (.iastore, 1) := by decide +kernel
theorem lw_d153 : decode code 153 = .ok (.dup, 1) := by decide +kernel
theorem lw_d154 : decode code 154 = .ok (.bipush 26, 2) := by decide +kernel
theorem lw_d156 : decode code 156 = .ok (.ldc 14, 2) := by decide +kernel
theorem lw_d158 : decode code 158 = .ok (.iastore, 1) := by decide +kernel
theorem lw_d159 : decode code 159 = .ok (.astore 4, 2) := by decide +kernel
theorem lw_d161 : decode code 161 = .ok (.aload 4, 2) := by decide +kernel
theorem lw_d163 : decode code 163 = .ok (.iload_n 3, 1) := by decide +kernel
theorem lw_d164 : decode code 164 = .ok (.ldc 14, 2) := by decide +kernel
theorem lw_d166 : decode code 166 = .ok (.iand, 1) := by decide +kernel
theorem lw_d167 : decode code 167 = .ok (.aload 4, 2) := by decide +kernel
theorem lw_d169 : decode code 169 = .ok (.arraylength, 1) := by decide +kernel
theorem lw_d170 : decode code 170 = .ok (.irem, 1) := by decide +kernel
theorem lw_d171 : decode code 171 = .ok (.iaload, 1) := by decide +kernel
theorem lw_d172 : decode code 172 = .ok (.istore 5, 2) := by decide +kernel
theorem lw_d174 : decode code 174 = .ok (.iconst 2, 1) := by decide +kernel
theorem lw_d175 : decode code 175 = .ok (.iload_n 1, 1) := by decide +kernel
theorem lw_d176 : decode code 176 = .ok (.ldc 14, 2) := by decide +kernel
theorem lw_d178 : decode code 178 = .ok (.iand, 1) := by decide +kernel
theorem lw_d179 : decode code 179 = .ok (.ldc 15, 2) := by decide +kernel
theorem lw_d181 : decode code 181 = .ok (.irem, 1) := by decide +kernel
theorem lw_d182 : decode code 182 = .ok (.iadd, 1) := by decide +kernel
theorem lw_d183 : decode code 183 = .ok (.istore 6, 2) := by decide +kernel
theorem lw_d185 : decode code 185 = .ok (.ldc 14, 2) := by decide +kernel
theorem lw_d187 : decode code 187 = .ok (.iload 6, 2) := by decide +kernel
theorem lw_d189 : decode code 189 = .ok (.idiv, 1) := by decide +kernel
theorem lw_d190 : decode code 190 = .ok (.iconst 1, 1) := by decide +kernel
theorem lw_d191 : decode code 191 = .ok (.isub, 1) := by decide +kernel
theorem lw_d192 : decode code 192 = .ok (.istore 7, 2) := by decide +kernel
theorem lw_d194 : decode code 194 = .ok (.iconst 2, 1) := by decide +kernel
theorem lw_d195 : decode code 195 = .ok (.iload_n 2, 1) := by decide +kernel
theorem lw_d196 : decode code 196 = .ok (.ldc 14, 2) := by decide +kernel
theorem lw_d198 : decode code 198 = .ok (.iand, 1) := by decide +kernel
theorem lw_d199 : decode code 199 = .ok (.iload 7, 2) := by decide +kernel
theorem lw_d201 : decode code 201 = .ok (.irem, 1) := by decide +kernel
theorem lw_d202 : decode code 202 = .ok (.iadd, 1) := by decide +kernel
theorem lw_d203 : decode code 203 = .ok (.istore 8, 2) := by decide +kernel
theorem lw_d205 : decode code 205 = .ok (.iload_n 0, 1) := by decide +kernel
theorem lw_d206 : decode code 206 = .ok (.iconst 2, 1) := by decide +kernel
theorem lw_d207 : decode code 207 = .ok (.if_icmp .ge 20, 3) := by decide +kernel
theorem lw_d210 : decode code 210 = .ok (.iload_n 0, 1) := by decide +kernel
theorem lw_d211 : decode code 211 = .ok (.invokestatic 18, 3) := by decide +kernel
theorem lw_d214 : decode code 214 = .ok (.ifCond .ne 7, 3) := by decide +kernel
theorem lw_d217 : decode code 217 = .ok (.iconst 1, 1) := by decide +kernel
theorem lw_d218 : decode code 218 = .ok (.goto 4, 3) := by decide +kernel
theorem lw_d221 : decode code 221 = .ok (.iconst 0, 1) := by decide +kernel
theorem lw_d222 : decode code 222 = .ok (.istore 9, 2) := by decide +kernel
theorem lw_d224 : decode code 224 = .ok (.goto 48, 3) := by decide +kernel
theorem lw_d227 : decode code 227 = .ok (.iload_n 0, 1) := by decide +kernel
theorem lw_d228 : decode code 228 = .ok (.iconst 2, 1) := by decide +kernel
theorem lw_d229 : decode code 229 = .ok (.if_icmp .eq 8, 3) := by decide +kernel
theorem lw_d232 : decode code 232 = .ok (.iload_n 0, 1) := by decide +kernel
theorem lw_d233 : decode code 233 = .ok (.iconst 3, 1) := by decide +kernel
theorem lw_d234 : decode code 234 = .ok (.if_icmp .ne 12, 3) := by decide +kernel
theorem lw_d237 : decode code 237 = .ok (.iload_n 0, 1) := by decide +kernel
theorem lw_d238 : decode code 238 = .ok (.invokestatic 18, 3) := by decide +kernel
theorem lw_d241 : decode code 241 = .ok (.istore 9, 2) := by decide +kernel
theorem lw_d243 : decode code 243 = .ok (.goto 29, 3) := by decide +kernel
theorem lw_d246 : decode code 246 = .ok (.iload_n 0, 1) := by decide +kernel
theorem lw_d247 : decode code 247 = .ok (.iconst 2, 1) := by decide +kernel
theorem lw_d248 : decode code 248 = .ok (.irem, 1) := by decide +kernel
theorem lw_d249 : decode code 249 = .ok (.ifCond .ne 20, 3) := by decide +kernel
theorem lw_d252 : decode code 252 = .ok (.iload_n 0, 1) := by decide +kernel
theorem lw_d253 : decode code 253 = .ok (.invokestatic 18, 3) := by decide +kernel
theorem lw_d256 : decode code 256 = .ok (.ifCond .ne 7, 3) := by decide +kernel
theorem lw_d259 : decode code 259 = .ok (.iconst 1, 1) := by decide +kernel
theorem lw_d260 : decode code 260 = .ok (.goto 4, 3) := by decide +kernel
theorem lw_d263 : decode code 263 = .ok (.iconst 0, 1) := by decide +kernel
theorem lw_d264 : decode code 264 = .ok (.istore 9, 2) := by decide +kernel
theorem lw_d266 : decode code 266 = .ok (.goto 6, 3) := by decide +kernel
theorem lw_d269 : decode code 269 = .ok (.iconst 1, 1) := by decide +kernel
theorem lw_d270 : decode code 270 = .ok (.istore 9, 2) := by decide +kernel
theorem lw_d272 : decode code 272 = .ok (.iload 5, 2) := by decide +kernel
theorem lw_d274 : decode code 274 = .ok (.invokestatic 18, 3) := by decide +kernel
theorem lw_d277 : decode code 277 = .ok (.istore 10, 2) := by decide +kernel
theorem lw_d279 : decode code 279 = .ok (.iload 6, 2) := by decide +kernel
theorem lw_d281 : decode code 281 = .ok (.iload 8, 2) := by decide +kernel
theorem lw_d283 : decode code 283 = .ok (.imul, 1) := by decide +kernel
theorem lw_d284 : decode code 284 = .ok (.invokestatic 18, 3) := by decide +kernel
theorem lw_d287 : decode code 287 = .ok (.ifCond .ne 7, 3) := by decide +kernel
theorem lw_d290 : decode code 290 = .ok (.iconst 1, 1) := by decide +kernel
theorem lw_d291 : decode code 291 = .ok (.goto 4, 3) := by decide +kernel
theorem lw_d294 : decode code 294 = .ok (.iconst 0, 1) := by decide +kernel
theorem lw_d295 : decode code 295 = .ok (.istore 11, 2) := by decide +kernel
theorem lw_d297 : decode code 297 = .ok (.iload 9, 2) := by decide +kernel
theorem lw_d299 : decode code 299 = .ok (.ifCond .eq 17, 3) := by decide +kernel
theorem lw_d302 : decode code 302 = .ok (.iload 10, 2) := by decide +kernel
theorem lw_d304 : decode code 304 = .ok (.ifCond .eq 12, 3) := by decide +kernel
theorem lw_d307 : decode code 307 = .ok (.iload 11, 2) := by decide +kernel
theorem lw_d309 : decode code 309 = .ok (.ifCond .eq 7, 3) := by decide +kernel
theorem lw_d312 : decode code 312 = .ok (.iconst 1, 1) := by decide +kernel
theorem lw_d313 : decode code 313 = .ok (.goto 4, 3) := by decide +kernel
theorem lw_d316 : decode code 316 = .ok (.iconst 0, 1) := by decide +kernel
theorem lw_d317 : decode code 317 = .ok (.ireturn, 1) := by decide +kernel
def lw_f272 (p0 : Int32) (p1 : Int32) (p2 : Int32) (p3 : Int32) (v5 : Int32) (v6 : Int32) (v7 : Int32) (v8 : Int32) (v9 : Int32) : Int32 :=
  if (ip_f (v6 * v8)) = (0 : Int32) then
    if v9 = (0 : Int32) then
      (0 : Int32)
    else
      if (ip_f v5) = (0 : Int32) then
        (0 : Int32)
      else
        (1 : Int32)
  else
    if v9 = (0 : Int32) then
      (0 : Int32)
    else
      if (ip_f v5) = (0 : Int32) then
        (0 : Int32)
      else
        (0 : Int32)
set_option maxRecDepth 65536 in
set_option maxHeartbeats 40000000 in
theorem lw_c272 {l : Launch} {Z : State} {a0 : Array Value} {p0 : Int32} {p1 : Int32} {p2 : Int32} {p3 : Int32} {h0 : Heap} {n0 : Nat} {p : Program} {e : Env} {s : State} {m : MethodId} {args : Array Value} {below : List Frame} {meth : Method} {c : Code} {T0 : State} {locs : List Loc} {o2 : Addr} {r0 : Int32} (C0 : own_Cx p s m meth c Z a0 code 12 "com/example/hashloom/hashloom/PrimesIsPrimePinLaw" "law" (some .boolean)) (X0 : Stand p l e room_1 s m args below meth c T0 locs 1 27) (e0 : T0.heap = h0) (N0 : Fr n0 locs) (v5 : Int32) (v6 : Int32) (v7 : Int32) (v8 : Int32) (v9 : Int32) (Z0 : n0 ≤ h0.size) (kn0 : n0 ≤ o2) (hr0 : r0 = lw_f272 p0 p1 p2 p3 v5 v6 v7 v8 v9) :
    own_Dn p e below s (own_QL (some (.int r0)) n0) room_1.cells room_1.slots (T0.setTop (mkF m 272 #[.val (.int p0), .val (.int p1), .val (.int p2), .val (.int p3), .val (.ref o2), .val (.int v5), .val (.int v6), .val (.int v7), .val (.int v8), .val (.int v9), .unset, .unset] [])) := by
  obtain ⟨hx, hZ, hw, hby, hml, hown, hret, hlk, hnm⟩ := id C0
  refine own_st (fun _ k => XS.iload X0.here hx rfl (hb hby lw_d272) rfl k) ?_
  show own_Dn p e below s _ _ _ (T0.setTop (mkF m 274 #[.val (.int p0), .val (.int p1), .val (.int p2), .val (.int p3), .val (.ref o2), .val (.int v5), .val (.int v6), .val (.int v7), .val (.int v8), .val (.int v9), .unset, .unset] [(.int v5)]))
  obtain ⟨_, _, ⟨T144, L144, k144, n144⟩, -, X144, ⟨Lc144, hQ144, l144, y144, z144⟩, st144⟩ := Jvm.LawKit.callS X0 hx (y := (⟨"com/example/hashloom/hashloom/Primes", "isPrime", "(I)Z"⟩ : MethodName)) hown (mvT hZ (hw _ (List.mem_of_getElem? (i := 10) rfl))) (mvT hZ (hw _ (List.mem_of_getElem? (i := 11) rfl))) (mvT hZ (hw _ (List.mem_of_getElem? (i := 12) rfl))) (mvT hZ (hw _ (List.mem_of_getElem? (i := 13) rfl))) (by decide) (backOf (W := 0) (ip_rm l Z a0 hw [] (v5) h0 n0) hZ (hw _ (List.mem_of_getElem? (i := 13) rfl)) (hw _ (List.mem_of_getElem? (i := 12) rfl)) (by decide) (by decide)) (g := (mkF m 274 #[.val (.int p0), .val (.int p1), .val (.int p2), .val (.int p3), .val (.ref o2), .val (.int v5), .val (.int v6), .val (.int v7), .val (.int v8), .val (.int v9), .unset, .unset] [(.int v5)])) rfl (by rw [hml]; rfl) (argsL := [(.int v5)]) (rest := []) (lenOf own_pd0 rfl) rfl (by show 2 * 0 + _ ≤ _; exact Nat.le_of_eq rfl) (hb hby lw_d274) (fun _ _ => ⟨rfl, e0, (by decide : 1 + 0 ≤ _), (by decide : 27 + 0 ≤ _)⟩)
  dsimp only [Pt.U, Pt.locs, Pt.cells, Pt.slots] at X144 l144 y144 z144 st144 hQ144
  subst l144 y144 z144
  obtain ⟨rfl, N144q, e144⟩ := hQ144
  have N144 := Fr.app N0 N144q
  refine own_st st144 ?_
  show own_Dn p e below s _ _ _ (T144.setTop (mkF m 277 #[.val (.int p0), .val (.int p1), .val (.int p2), .val (.int p3), .val (.ref o2), .val (.int v5), .val (.int v6), .val (.int v7), .val (.int v8), .val (.int v9), .unset, .unset] [(.int (ip_f v5))]))
  refine own_st (fun _ k => XS.istore X144.here hx rfl (hb hby lw_d277) rfl (l' := #[.val (.int p0), .val (.int p1), .val (.int p2), .val (.int p3), .val (.ref o2), .val (.int v5), .val (.int v6), .val (.int v7), .val (.int v8), .val (.int v9), .val (.int (ip_f v5)), .unset]) rfl (XS.iload X144.here hx rfl (hb hby lw_d279) rfl (XS.iload X144.here hx rfl (hb hby lw_d281) rfl (XS.imul X144.here hx rfl (hb hby lw_d283) rfl k)))) ?_
  show own_Dn p e below s _ _ _ (T144.setTop (mkF m 284 #[.val (.int p0), .val (.int p1), .val (.int p2), .val (.int p3), .val (.ref o2), .val (.int v5), .val (.int v6), .val (.int v7), .val (.int v8), .val (.int v9), .val (.int (ip_f v5)), .unset] [(.int (v6 * v8))]))
  obtain ⟨_, _, ⟨T145, L145, k145, n145⟩, -, X145, ⟨Lc145, hQ145, l145, y145, z145⟩, st145⟩ := Jvm.LawKit.callS X144 hx (y := (⟨"com/example/hashloom/hashloom/Primes", "isPrime", "(I)Z"⟩ : MethodName)) hown (mvT hZ (hw _ (List.mem_of_getElem? (i := 10) rfl))) (mvT hZ (hw _ (List.mem_of_getElem? (i := 11) rfl))) (mvT hZ (hw _ (List.mem_of_getElem? (i := 12) rfl))) (mvT hZ (hw _ (List.mem_of_getElem? (i := 13) rfl))) (by decide) (backOf (W := 0) (ip_rm l Z a0 hw [] ((v6 * v8)) h0 n0) hZ (hw _ (List.mem_of_getElem? (i := 13) rfl)) (hw _ (List.mem_of_getElem? (i := 12) rfl)) (by decide) (by decide)) (g := (mkF m 284 #[.val (.int p0), .val (.int p1), .val (.int p2), .val (.int p3), .val (.ref o2), .val (.int v5), .val (.int v6), .val (.int v7), .val (.int v8), .val (.int v9), .val (.int (ip_f v5)), .unset] [(.int (v6 * v8))])) rfl (by rw [hml]; rfl) (argsL := [(.int (v6 * v8))]) (rest := []) (lenOf own_pd0 rfl) rfl (by show 2 * 0 + _ ≤ _; exact Nat.le_of_eq rfl) (hb hby lw_d284) (fun _ _ => ⟨rfl, e144, (by decide : 1 + 0 ≤ _), (by decide : 27 + 0 ≤ _)⟩)
  dsimp only [Pt.U, Pt.locs, Pt.cells, Pt.slots] at X145 l145 y145 z145 st145 hQ145
  subst l145 y145 z145
  obtain ⟨rfl, N145q, e145⟩ := hQ145
  have N145 := Fr.app N144 N145q
  refine own_st st145 ?_
  show own_Dn p e below s _ _ _ (T145.setTop (mkF m 287 #[.val (.int p0), .val (.int p1), .val (.int p2), .val (.int p3), .val (.ref o2), .val (.int v5), .val (.int v6), .val (.int v7), .val (.int v8), .val (.int v9), .val (.int (ip_f v5)), .unset] [(.int (ip_f (v6 * v8)))]))
  by_cases hc146 : (ip_f (v6 * v8)) = (0 : Int32)
  · refine own_st (fun _ k => XS.ifNo X145.here hx rfl (hb hby lw_d287) rfl ((if0 _ _).trans (teq hc146).2) k) ?_
    show own_Dn p e below s _ _ _ (T145.setTop (mkF m 290 #[.val (.int p0), .val (.int p1), .val (.int p2), .val (.int p3), .val (.ref o2), .val (.int v5), .val (.int v6), .val (.int v7), .val (.int v8), .val (.int v9), .val (.int (ip_f v5)), .unset] []))
    refine own_st (fun _ k => XS.iconst X145.here hx rfl (hb hby lw_d290) (XS.goto X145.here hx rfl (pc0 := 291) (pc' := 295) rfl (hb hby lw_d291) (by decide) (by decide) (XS.istore X145.here hx rfl (hb hby lw_d295) rfl (l' := #[.val (.int p0), .val (.int p1), .val (.int p2), .val (.int p3), .val (.ref o2), .val (.int v5), .val (.int v6), .val (.int v7), .val (.int v8), .val (.int v9), .val (.int (ip_f v5)), .val (.int (1 : Int32))]) rfl (XS.iload X145.here hx rfl (hb hby lw_d297) rfl k)))) ?_
    show own_Dn p e below s _ _ _ (T145.setTop (mkF m 299 #[.val (.int p0), .val (.int p1), .val (.int p2), .val (.int p3), .val (.ref o2), .val (.int v5), .val (.int v6), .val (.int v7), .val (.int v8), .val (.int v9), .val (.int (ip_f v5)), .val (.int (1 : Int32))] [(.int v9)]))
    by_cases hc147 : v9 = (0 : Int32)
    · refine own_st (fun _ k => XS.ifYes X145.here hx rfl (pc0 := 299) (pc' := 316) rfl (hb hby lw_d299) rfl ((if0 _ _).trans (teq hc147).1) (by decide) (by decide) k) ?_
      show own_Dn p e below s _ _ _ (T145.setTop (mkF m 316 #[.val (.int p0), .val (.int p1), .val (.int p2), .val (.int p3), .val (.ref o2), .val (.int v5), .val (.int v6), .val (.int v7), .val (.int v8), .val (.int v9), .val (.int (ip_f v5)), .val (.int (1 : Int32))] []))
      refine own_st (fun _ k => XS.iconst X145.here hx rfl (hb hby lw_d316) k) ?_
      show own_Dn p e below s _ _ _ (T145.setTop (mkF m 317 #[.val (.int p0), .val (.int p1), .val (.int p2), .val (.int p3), .val (.ref o2), .val (.int v5), .val (.int v6), .val (.int v7), .val (.int v8), .val (.int v9), .val (.int (ip_f v5)), .val (.int (1 : Int32))] [(.int (0 : Int32))]))
      exact own_retZ X145 hx hret hlk (by decide) (hb hby lw_d317) (by decide) (by decide) ⟨(by rw [hr0, lw_f272, if_pos hc146, if_pos hc147]), N145⟩
    · refine own_st (fun _ k => XS.ifNo X145.here hx rfl (hb hby lw_d299) rfl ((if0 _ _).trans (feq hc147).1) k) ?_
      show own_Dn p e below s _ _ _ (T145.setTop (mkF m 302 #[.val (.int p0), .val (.int p1), .val (.int p2), .val (.int p3), .val (.ref o2), .val (.int v5), .val (.int v6), .val (.int v7), .val (.int v8), .val (.int v9), .val (.int (ip_f v5)), .val (.int (1 : Int32))] []))
      refine own_st (fun _ k => XS.iload X145.here hx rfl (hb hby lw_d302) rfl k) ?_
      show own_Dn p e below s _ _ _ (T145.setTop (mkF m 304 #[.val (.int p0), .val (.int p1), .val (.int p2), .val (.int p3), .val (.ref o2), .val (.int v5), .val (.int v6), .val (.int v7), .val (.int v8), .val (.int v9), .val (.int (ip_f v5)), .val (.int (1 : Int32))] [(.int (ip_f v5))]))
      by_cases hc148 : (ip_f v5) = (0 : Int32)
      · refine own_st (fun _ k => XS.ifYes X145.here hx rfl (pc0 := 304) (pc' := 316) rfl (hb hby lw_d304) rfl ((if0 _ _).trans (teq hc148).1) (by decide) (by decide) k) ?_
        show own_Dn p e below s _ _ _ (T145.setTop (mkF m 316 #[.val (.int p0), .val (.int p1), .val (.int p2), .val (.int p3), .val (.ref o2), .val (.int v5), .val (.int v6), .val (.int v7), .val (.int v8), .val (.int v9), .val (.int (ip_f v5)), .val (.int (1 : Int32))] []))
        refine own_st (fun _ k => XS.iconst X145.here hx rfl (hb hby lw_d316) k) ?_
        show own_Dn p e below s _ _ _ (T145.setTop (mkF m 317 #[.val (.int p0), .val (.int p1), .val (.int p2), .val (.int p3), .val (.ref o2), .val (.int v5), .val (.int v6), .val (.int v7), .val (.int v8), .val (.int v9), .val (.int (ip_f v5)), .val (.int (1 : Int32))] [(.int (0 : Int32))]))
        exact own_retZ X145 hx hret hlk (by decide) (hb hby lw_d317) (by decide) (by decide) ⟨(by rw [hr0, lw_f272, if_pos hc146, if_neg hc147, if_pos hc148]), N145⟩
      · refine own_st (fun _ k => XS.ifNo X145.here hx rfl (hb hby lw_d304) rfl ((if0 _ _).trans (feq hc148).1) k) ?_
        show own_Dn p e below s _ _ _ (T145.setTop (mkF m 307 #[.val (.int p0), .val (.int p1), .val (.int p2), .val (.int p3), .val (.ref o2), .val (.int v5), .val (.int v6), .val (.int v7), .val (.int v8), .val (.int v9), .val (.int (ip_f v5)), .val (.int (1 : Int32))] []))
        refine own_st (fun _ k => XS.iload X145.here hx rfl (hb hby lw_d307) rfl k) ?_
        show own_Dn p e below s _ _ _ (T145.setTop (mkF m 309 #[.val (.int p0), .val (.int p1), .val (.int p2), .val (.int p3), .val (.ref o2), .val (.int v5), .val (.int v6), .val (.int v7), .val (.int v8), .val (.int v9), .val (.int (ip_f v5)), .val (.int (1 : Int32))] [(.int (1 : Int32))]))
        refine own_st (fun _ k => XS.ifNo X145.here hx rfl (hb hby lw_d309) rfl ((if0 _ _).trans (feq (by decide : ¬ ((1 : Int32) = (0 : Int32)))).1) k) ?_
        show own_Dn p e below s _ _ _ (T145.setTop (mkF m 312 #[.val (.int p0), .val (.int p1), .val (.int p2), .val (.int p3), .val (.ref o2), .val (.int v5), .val (.int v6), .val (.int v7), .val (.int v8), .val (.int v9), .val (.int (ip_f v5)), .val (.int (1 : Int32))] []))
        refine own_st (fun _ k => XS.iconst X145.here hx rfl (hb hby lw_d312) (XS.goto X145.here hx rfl (pc0 := 313) (pc' := 317) rfl (hb hby lw_d313) (by decide) (by decide) k)) ?_
        show own_Dn p e below s _ _ _ (T145.setTop (mkF m 317 #[.val (.int p0), .val (.int p1), .val (.int p2), .val (.int p3), .val (.ref o2), .val (.int v5), .val (.int v6), .val (.int v7), .val (.int v8), .val (.int v9), .val (.int (ip_f v5)), .val (.int (1 : Int32))] [(.int (1 : Int32))]))
        exact own_retZ X145 hx hret hlk (by decide) (hb hby lw_d317) (by decide) (by decide) ⟨(by rw [hr0, lw_f272, if_pos hc146, if_neg hc147, if_neg hc148]), N145⟩
  · refine own_st (fun _ k => XS.ifYes X145.here hx rfl (pc0 := 287) (pc' := 294) rfl (hb hby lw_d287) rfl ((if0 _ _).trans (feq hc146).2) (by decide) (by decide) k) ?_
    show own_Dn p e below s _ _ _ (T145.setTop (mkF m 294 #[.val (.int p0), .val (.int p1), .val (.int p2), .val (.int p3), .val (.ref o2), .val (.int v5), .val (.int v6), .val (.int v7), .val (.int v8), .val (.int v9), .val (.int (ip_f v5)), .unset] []))
    refine own_st (fun _ k => XS.iconst X145.here hx rfl (hb hby lw_d294) (XS.istore X145.here hx rfl (hb hby lw_d295) rfl (l' := #[.val (.int p0), .val (.int p1), .val (.int p2), .val (.int p3), .val (.ref o2), .val (.int v5), .val (.int v6), .val (.int v7), .val (.int v8), .val (.int v9), .val (.int (ip_f v5)), .val (.int (0 : Int32))]) rfl (XS.iload X145.here hx rfl (hb hby lw_d297) rfl k))) ?_
    show own_Dn p e below s _ _ _ (T145.setTop (mkF m 299 #[.val (.int p0), .val (.int p1), .val (.int p2), .val (.int p3), .val (.ref o2), .val (.int v5), .val (.int v6), .val (.int v7), .val (.int v8), .val (.int v9), .val (.int (ip_f v5)), .val (.int (0 : Int32))] [(.int v9)]))
    by_cases hc149 : v9 = (0 : Int32)
    · refine own_st (fun _ k => XS.ifYes X145.here hx rfl (pc0 := 299) (pc' := 316) rfl (hb hby lw_d299) rfl ((if0 _ _).trans (teq hc149).1) (by decide) (by decide) k) ?_
      show own_Dn p e below s _ _ _ (T145.setTop (mkF m 316 #[.val (.int p0), .val (.int p1), .val (.int p2), .val (.int p3), .val (.ref o2), .val (.int v5), .val (.int v6), .val (.int v7), .val (.int v8), .val (.int v9), .val (.int (ip_f v5)), .val (.int (0 : Int32))] []))
      refine own_st (fun _ k => XS.iconst X145.here hx rfl (hb hby lw_d316) k) ?_
      show own_Dn p e below s _ _ _ (T145.setTop (mkF m 317 #[.val (.int p0), .val (.int p1), .val (.int p2), .val (.int p3), .val (.ref o2), .val (.int v5), .val (.int v6), .val (.int v7), .val (.int v8), .val (.int v9), .val (.int (ip_f v5)), .val (.int (0 : Int32))] [(.int (0 : Int32))]))
      exact own_retZ X145 hx hret hlk (by decide) (hb hby lw_d317) (by decide) (by decide) ⟨(by rw [hr0, lw_f272, if_neg hc146, if_pos hc149]), N145⟩
    · refine own_st (fun _ k => XS.ifNo X145.here hx rfl (hb hby lw_d299) rfl ((if0 _ _).trans (feq hc149).1) k) ?_
      show own_Dn p e below s _ _ _ (T145.setTop (mkF m 302 #[.val (.int p0), .val (.int p1), .val (.int p2), .val (.int p3), .val (.ref o2), .val (.int v5), .val (.int v6), .val (.int v7), .val (.int v8), .val (.int v9), .val (.int (ip_f v5)), .val (.int (0 : Int32))] []))
      refine own_st (fun _ k => XS.iload X145.here hx rfl (hb hby lw_d302) rfl k) ?_
      show own_Dn p e below s _ _ _ (T145.setTop (mkF m 304 #[.val (.int p0), .val (.int p1), .val (.int p2), .val (.int p3), .val (.ref o2), .val (.int v5), .val (.int v6), .val (.int v7), .val (.int v8), .val (.int v9), .val (.int (ip_f v5)), .val (.int (0 : Int32))] [(.int (ip_f v5))]))
      by_cases hc150 : (ip_f v5) = (0 : Int32)
      · refine own_st (fun _ k => XS.ifYes X145.here hx rfl (pc0 := 304) (pc' := 316) rfl (hb hby lw_d304) rfl ((if0 _ _).trans (teq hc150).1) (by decide) (by decide) k) ?_
        show own_Dn p e below s _ _ _ (T145.setTop (mkF m 316 #[.val (.int p0), .val (.int p1), .val (.int p2), .val (.int p3), .val (.ref o2), .val (.int v5), .val (.int v6), .val (.int v7), .val (.int v8), .val (.int v9), .val (.int (ip_f v5)), .val (.int (0 : Int32))] []))
        refine own_st (fun _ k => XS.iconst X145.here hx rfl (hb hby lw_d316) k) ?_
        show own_Dn p e below s _ _ _ (T145.setTop (mkF m 317 #[.val (.int p0), .val (.int p1), .val (.int p2), .val (.int p3), .val (.ref o2), .val (.int v5), .val (.int v6), .val (.int v7), .val (.int v8), .val (.int v9), .val (.int (ip_f v5)), .val (.int (0 : Int32))] [(.int (0 : Int32))]))
        exact own_retZ X145 hx hret hlk (by decide) (hb hby lw_d317) (by decide) (by decide) ⟨(by rw [hr0, lw_f272, if_neg hc146, if_neg hc149, if_pos hc150]), N145⟩
      · refine own_st (fun _ k => XS.ifNo X145.here hx rfl (hb hby lw_d304) rfl ((if0 _ _).trans (feq hc150).1) k) ?_
        show own_Dn p e below s _ _ _ (T145.setTop (mkF m 307 #[.val (.int p0), .val (.int p1), .val (.int p2), .val (.int p3), .val (.ref o2), .val (.int v5), .val (.int v6), .val (.int v7), .val (.int v8), .val (.int v9), .val (.int (ip_f v5)), .val (.int (0 : Int32))] []))
        refine own_st (fun _ k => XS.iload X145.here hx rfl (hb hby lw_d307) rfl k) ?_
        show own_Dn p e below s _ _ _ (T145.setTop (mkF m 309 #[.val (.int p0), .val (.int p1), .val (.int p2), .val (.int p3), .val (.ref o2), .val (.int v5), .val (.int v6), .val (.int v7), .val (.int v8), .val (.int v9), .val (.int (ip_f v5)), .val (.int (0 : Int32))] [(.int (0 : Int32))]))
        refine own_st (fun _ k => XS.ifYes X145.here hx rfl (pc0 := 309) (pc' := 316) rfl (hb hby lw_d309) rfl ((if0 _ _).trans (teq (by decide : (0 : Int32) = (0 : Int32))).1) (by decide) (by decide) k) ?_
        show own_Dn p e below s _ _ _ (T145.setTop (mkF m 316 #[.val (.int p0), .val (.int p1), .val (.int p2), .val (.int p3), .val (.ref o2), .val (.int v5), .val (.int v6), .val (.int v7), .val (.int v8), .val (.int v9), .val (.int (ip_f v5)), .val (.int (0 : Int32))] []))
        refine own_st (fun _ k => XS.iconst X145.here hx rfl (hb hby lw_d316) k) ?_
        show own_Dn p e below s _ _ _ (T145.setTop (mkF m 317 #[.val (.int p0), .val (.int p1), .val (.int p2), .val (.int p3), .val (.ref o2), .val (.int v5), .val (.int v6), .val (.int v7), .val (.int v8), .val (.int v9), .val (.int (ip_f v5)), .val (.int (0 : Int32))] [(.int (0 : Int32))]))
        exact own_retZ X145 hx hret hlk (by decide) (hb hby lw_d317) (by decide) (by decide) ⟨(by rw [hr0, lw_f272, if_neg hc146, if_neg hc149, if_neg hc150]), N145⟩
def lw_f205 (p0 : Int32) (p1 : Int32) (p2 : Int32) (p3 : Int32) (v5 : Int32) (v6 : Int32) (v7 : Int32) (v8 : Int32) : Int32 :=
  if p0 < (2 : Int32) then
    if (ip_f p0) = (0 : Int32) then
      lw_f272 p0 p1 p2 p3 (v5) (v6) (v7) (v8) ((1 : Int32))
    else
      lw_f272 p0 p1 p2 p3 (v5) (v6) (v7) (v8) ((0 : Int32))
  else
    if p0 = (2 : Int32) then
      lw_f272 p0 p1 p2 p3 (v5) (v6) (v7) (v8) ((ip_f p0))
    else
      if p0 = (3 : Int32) then
        lw_f272 p0 p1 p2 p3 (v5) (v6) (v7) (v8) ((ip_f p0))
      else
        if (p0 % (2 : Int32)) = (0 : Int32) then
          if (ip_f p0) = (0 : Int32) then
            lw_f272 p0 p1 p2 p3 (v5) (v6) (v7) (v8) ((1 : Int32))
          else
            lw_f272 p0 p1 p2 p3 (v5) (v6) (v7) (v8) ((0 : Int32))
        else
          lw_f272 p0 p1 p2 p3 (v5) (v6) (v7) (v8) ((1 : Int32))
set_option maxRecDepth 65536 in
set_option maxHeartbeats 40000000 in
theorem lw_c205 {l : Launch} {Z : State} {a0 : Array Value} {p0 : Int32} {p1 : Int32} {p2 : Int32} {p3 : Int32} {h0 : Heap} {n0 : Nat} {p : Program} {e : Env} {s : State} {m : MethodId} {args : Array Value} {below : List Frame} {meth : Method} {c : Code} {T0 : State} {locs : List Loc} {o2 : Addr} {r0 : Int32} (C0 : own_Cx p s m meth c Z a0 code 12 "com/example/hashloom/hashloom/PrimesIsPrimePinLaw" "law" (some .boolean)) (X0 : Stand p l e room_1 s m args below meth c T0 locs 1 27) (e0 : T0.heap = h0) (N0 : Fr n0 locs) (v5 : Int32) (v6 : Int32) (v7 : Int32) (v8 : Int32) (Z0 : n0 ≤ h0.size) (kn0 : n0 ≤ o2) (hr0 : r0 = lw_f205 p0 p1 p2 p3 v5 v6 v7 v8) :
    own_Dn p e below s (own_QL (some (.int r0)) n0) room_1.cells room_1.slots (T0.setTop (mkF m 205 #[.val (.int p0), .val (.int p1), .val (.int p2), .val (.int p3), .val (.ref o2), .val (.int v5), .val (.int v6), .val (.int v7), .val (.int v8), .unset, .unset, .unset] [])) := by
  obtain ⟨hx, hZ, hw, hby, hml, hown, hret, hlk, hnm⟩ := id C0
  refine own_st (fun _ k => XS.iloadN X0.here hx rfl (hb hby lw_d205) rfl (XS.iconst X0.here hx rfl (hb hby lw_d206) k)) ?_
  show own_Dn p e below s _ _ _ (T0.setTop (mkF m 207 #[.val (.int p0), .val (.int p1), .val (.int p2), .val (.int p3), .val (.ref o2), .val (.int v5), .val (.int v6), .val (.int v7), .val (.int v8), .unset, .unset, .unset] [(.int (2 : Int32)), (.int p0)]))
  by_cases hc134 : p0 < (2 : Int32)
  · refine own_st (fun _ k => XS.icmpNo X0.here hx rfl (hb hby lw_d207) rfl (tlt hc134).2.1 k) ?_
    show own_Dn p e below s _ _ _ (T0.setTop (mkF m 210 #[.val (.int p0), .val (.int p1), .val (.int p2), .val (.int p3), .val (.ref o2), .val (.int v5), .val (.int v6), .val (.int v7), .val (.int v8), .unset, .unset, .unset] []))
    refine own_st (fun _ k => XS.iloadN X0.here hx rfl (hb hby lw_d210) rfl k) ?_
    show own_Dn p e below s _ _ _ (T0.setTop (mkF m 211 #[.val (.int p0), .val (.int p1), .val (.int p2), .val (.int p3), .val (.ref o2), .val (.int v5), .val (.int v6), .val (.int v7), .val (.int v8), .unset, .unset, .unset] [(.int p0)]))
    obtain ⟨_, _, ⟨T135, L135, k135, n135⟩, -, X135, ⟨Lc135, hQ135, l135, y135, z135⟩, st135⟩ := Jvm.LawKit.callS X0 hx (y := (⟨"com/example/hashloom/hashloom/Primes", "isPrime", "(I)Z"⟩ : MethodName)) hown (mvT hZ (hw _ (List.mem_of_getElem? (i := 10) rfl))) (mvT hZ (hw _ (List.mem_of_getElem? (i := 11) rfl))) (mvT hZ (hw _ (List.mem_of_getElem? (i := 12) rfl))) (mvT hZ (hw _ (List.mem_of_getElem? (i := 13) rfl))) (by decide) (backOf (W := 0) (ip_rm l Z a0 hw [] (p0) h0 n0) hZ (hw _ (List.mem_of_getElem? (i := 13) rfl)) (hw _ (List.mem_of_getElem? (i := 12) rfl)) (by decide) (by decide)) (g := (mkF m 211 #[.val (.int p0), .val (.int p1), .val (.int p2), .val (.int p3), .val (.ref o2), .val (.int v5), .val (.int v6), .val (.int v7), .val (.int v8), .unset, .unset, .unset] [(.int p0)])) rfl (by rw [hml]; rfl) (argsL := [(.int p0)]) (rest := []) (lenOf own_pd0 rfl) rfl (by show 2 * 0 + _ ≤ _; exact Nat.le_of_eq rfl) (hb hby lw_d211) (fun _ _ => ⟨rfl, e0, (by decide : 1 + 0 ≤ _), (by decide : 27 + 0 ≤ _)⟩)
    dsimp only [Pt.U, Pt.locs, Pt.cells, Pt.slots] at X135 l135 y135 z135 st135 hQ135
    subst l135 y135 z135
    obtain ⟨rfl, N135q, e135⟩ := hQ135
    have N135 := Fr.app N0 N135q
    refine own_st st135 ?_
    show own_Dn p e below s _ _ _ (T135.setTop (mkF m 214 #[.val (.int p0), .val (.int p1), .val (.int p2), .val (.int p3), .val (.ref o2), .val (.int v5), .val (.int v6), .val (.int v7), .val (.int v8), .unset, .unset, .unset] [(.int (ip_f p0))]))
    by_cases hc136 : (ip_f p0) = (0 : Int32)
    · refine own_st (fun _ k => XS.ifNo X135.here hx rfl (hb hby lw_d214) rfl ((if0 _ _).trans (teq hc136).2) k) ?_
      show own_Dn p e below s _ _ _ (T135.setTop (mkF m 217 #[.val (.int p0), .val (.int p1), .val (.int p2), .val (.int p3), .val (.ref o2), .val (.int v5), .val (.int v6), .val (.int v7), .val (.int v8), .unset, .unset, .unset] []))
      refine own_st (fun _ k => XS.iconst X135.here hx rfl (hb hby lw_d217) (XS.goto X135.here hx rfl (pc0 := 218) (pc' := 222) rfl (hb hby lw_d218) (by decide) (by decide) (XS.istore X135.here hx rfl (hb hby lw_d222) rfl (l' := #[.val (.int p0), .val (.int p1), .val (.int p2), .val (.int p3), .val (.ref o2), .val (.int v5), .val (.int v6), .val (.int v7), .val (.int v8), .val (.int (1 : Int32)), .unset, .unset]) rfl (XS.goto X135.here hx rfl (pc0 := 224) (pc' := 272) rfl (hb hby lw_d224) (by decide) (by decide) k)))) ?_
      show own_Dn p e below s _ _ _ (T135.setTop (mkF m 272 #[.val (.int p0), .val (.int p1), .val (.int p2), .val (.int p3), .val (.ref o2), .val (.int v5), .val (.int v6), .val (.int v7), .val (.int v8), .val (.int (1 : Int32)), .unset, .unset] []))
      exact lw_c272 C0 X135 e135 N135 (v5) (v6) (v7) (v8) ((1 : Int32)) Z0 kn0 (by rw [hr0, lw_f205, if_pos hc134, if_pos hc136])
    · refine own_st (fun _ k => XS.ifYes X135.here hx rfl (pc0 := 214) (pc' := 221) rfl (hb hby lw_d214) rfl ((if0 _ _).trans (feq hc136).2) (by decide) (by decide) k) ?_
      show own_Dn p e below s _ _ _ (T135.setTop (mkF m 221 #[.val (.int p0), .val (.int p1), .val (.int p2), .val (.int p3), .val (.ref o2), .val (.int v5), .val (.int v6), .val (.int v7), .val (.int v8), .unset, .unset, .unset] []))
      refine own_st (fun _ k => XS.iconst X135.here hx rfl (hb hby lw_d221) (XS.istore X135.here hx rfl (hb hby lw_d222) rfl (l' := #[.val (.int p0), .val (.int p1), .val (.int p2), .val (.int p3), .val (.ref o2), .val (.int v5), .val (.int v6), .val (.int v7), .val (.int v8), .val (.int (0 : Int32)), .unset, .unset]) rfl (XS.goto X135.here hx rfl (pc0 := 224) (pc' := 272) rfl (hb hby lw_d224) (by decide) (by decide) k))) ?_
      show own_Dn p e below s _ _ _ (T135.setTop (mkF m 272 #[.val (.int p0), .val (.int p1), .val (.int p2), .val (.int p3), .val (.ref o2), .val (.int v5), .val (.int v6), .val (.int v7), .val (.int v8), .val (.int (0 : Int32)), .unset, .unset] []))
      exact lw_c272 C0 X135 e135 N135 (v5) (v6) (v7) (v8) ((0 : Int32)) Z0 kn0 (by rw [hr0, lw_f205, if_pos hc134, if_neg hc136])
  · refine own_st (fun _ k => XS.icmpYes X0.here hx rfl (pc0 := 207) (pc' := 227) rfl (hb hby lw_d207) rfl (flt hc134).2.1 (by decide) (by decide) k) ?_
    show own_Dn p e below s _ _ _ (T0.setTop (mkF m 227 #[.val (.int p0), .val (.int p1), .val (.int p2), .val (.int p3), .val (.ref o2), .val (.int v5), .val (.int v6), .val (.int v7), .val (.int v8), .unset, .unset, .unset] []))
    refine own_st (fun _ k => XS.iloadN X0.here hx rfl (hb hby lw_d227) rfl (XS.iconst X0.here hx rfl (hb hby lw_d228) k)) ?_
    show own_Dn p e below s _ _ _ (T0.setTop (mkF m 229 #[.val (.int p0), .val (.int p1), .val (.int p2), .val (.int p3), .val (.ref o2), .val (.int v5), .val (.int v6), .val (.int v7), .val (.int v8), .unset, .unset, .unset] [(.int (2 : Int32)), (.int p0)]))
    by_cases hc137 : p0 = (2 : Int32)
    · refine own_st (fun _ k => XS.icmpYes X0.here hx rfl (pc0 := 229) (pc' := 237) rfl (hb hby lw_d229) rfl (teq hc137).1 (by decide) (by decide) k) ?_
      show own_Dn p e below s _ _ _ (T0.setTop (mkF m 237 #[.val (.int p0), .val (.int p1), .val (.int p2), .val (.int p3), .val (.ref o2), .val (.int v5), .val (.int v6), .val (.int v7), .val (.int v8), .unset, .unset, .unset] []))
      refine own_st (fun _ k => XS.iloadN X0.here hx rfl (hb hby lw_d237) rfl k) ?_
      show own_Dn p e below s _ _ _ (T0.setTop (mkF m 238 #[.val (.int p0), .val (.int p1), .val (.int p2), .val (.int p3), .val (.ref o2), .val (.int v5), .val (.int v6), .val (.int v7), .val (.int v8), .unset, .unset, .unset] [(.int p0)]))
      obtain ⟨_, _, ⟨T138, L138, k138, n138⟩, -, X138, ⟨Lc138, hQ138, l138, y138, z138⟩, st138⟩ := Jvm.LawKit.callS X0 hx (y := (⟨"com/example/hashloom/hashloom/Primes", "isPrime", "(I)Z"⟩ : MethodName)) hown (mvT hZ (hw _ (List.mem_of_getElem? (i := 10) rfl))) (mvT hZ (hw _ (List.mem_of_getElem? (i := 11) rfl))) (mvT hZ (hw _ (List.mem_of_getElem? (i := 12) rfl))) (mvT hZ (hw _ (List.mem_of_getElem? (i := 13) rfl))) (by decide) (backOf (W := 0) (ip_rm l Z a0 hw [] (p0) h0 n0) hZ (hw _ (List.mem_of_getElem? (i := 13) rfl)) (hw _ (List.mem_of_getElem? (i := 12) rfl)) (by decide) (by decide)) (g := (mkF m 238 #[.val (.int p0), .val (.int p1), .val (.int p2), .val (.int p3), .val (.ref o2), .val (.int v5), .val (.int v6), .val (.int v7), .val (.int v8), .unset, .unset, .unset] [(.int p0)])) rfl (by rw [hml]; rfl) (argsL := [(.int p0)]) (rest := []) (lenOf own_pd0 rfl) rfl (by show 2 * 0 + _ ≤ _; exact Nat.le_of_eq rfl) (hb hby lw_d238) (fun _ _ => ⟨rfl, e0, (by decide : 1 + 0 ≤ _), (by decide : 27 + 0 ≤ _)⟩)
      dsimp only [Pt.U, Pt.locs, Pt.cells, Pt.slots] at X138 l138 y138 z138 st138 hQ138
      subst l138 y138 z138
      obtain ⟨rfl, N138q, e138⟩ := hQ138
      have N138 := Fr.app N0 N138q
      refine own_st st138 ?_
      show own_Dn p e below s _ _ _ (T138.setTop (mkF m 241 #[.val (.int p0), .val (.int p1), .val (.int p2), .val (.int p3), .val (.ref o2), .val (.int v5), .val (.int v6), .val (.int v7), .val (.int v8), .unset, .unset, .unset] [(.int (ip_f p0))]))
      refine own_st (fun _ k => XS.istore X138.here hx rfl (hb hby lw_d241) rfl (l' := #[.val (.int p0), .val (.int p1), .val (.int p2), .val (.int p3), .val (.ref o2), .val (.int v5), .val (.int v6), .val (.int v7), .val (.int v8), .val (.int (ip_f p0)), .unset, .unset]) rfl (XS.goto X138.here hx rfl (pc0 := 243) (pc' := 272) rfl (hb hby lw_d243) (by decide) (by decide) k)) ?_
      show own_Dn p e below s _ _ _ (T138.setTop (mkF m 272 #[.val (.int p0), .val (.int p1), .val (.int p2), .val (.int p3), .val (.ref o2), .val (.int v5), .val (.int v6), .val (.int v7), .val (.int v8), .val (.int (ip_f p0)), .unset, .unset] []))
      exact lw_c272 C0 X138 e138 N138 (v5) (v6) (v7) (v8) ((ip_f p0)) Z0 kn0 (by rw [hr0, lw_f205, if_neg hc134, if_pos hc137])
    · refine own_st (fun _ k => XS.icmpNo X0.here hx rfl (hb hby lw_d229) rfl (feq hc137).1 k) ?_
      show own_Dn p e below s _ _ _ (T0.setTop (mkF m 232 #[.val (.int p0), .val (.int p1), .val (.int p2), .val (.int p3), .val (.ref o2), .val (.int v5), .val (.int v6), .val (.int v7), .val (.int v8), .unset, .unset, .unset] []))
      refine own_st (fun _ k => XS.iloadN X0.here hx rfl (hb hby lw_d232) rfl (XS.iconst X0.here hx rfl (hb hby lw_d233) k)) ?_
      show own_Dn p e below s _ _ _ (T0.setTop (mkF m 234 #[.val (.int p0), .val (.int p1), .val (.int p2), .val (.int p3), .val (.ref o2), .val (.int v5), .val (.int v6), .val (.int v7), .val (.int v8), .unset, .unset, .unset] [(.int (3 : Int32)), (.int p0)]))
      by_cases hc139 : p0 = (3 : Int32)
      · refine own_st (fun _ k => XS.icmpNo X0.here hx rfl (hb hby lw_d234) rfl (teq hc139).2 k) ?_
        show own_Dn p e below s _ _ _ (T0.setTop (mkF m 237 #[.val (.int p0), .val (.int p1), .val (.int p2), .val (.int p3), .val (.ref o2), .val (.int v5), .val (.int v6), .val (.int v7), .val (.int v8), .unset, .unset, .unset] []))
        refine own_st (fun _ k => XS.iloadN X0.here hx rfl (hb hby lw_d237) rfl k) ?_
        show own_Dn p e below s _ _ _ (T0.setTop (mkF m 238 #[.val (.int p0), .val (.int p1), .val (.int p2), .val (.int p3), .val (.ref o2), .val (.int v5), .val (.int v6), .val (.int v7), .val (.int v8), .unset, .unset, .unset] [(.int p0)]))
        obtain ⟨_, _, ⟨T140, L140, k140, n140⟩, -, X140, ⟨Lc140, hQ140, l140, y140, z140⟩, st140⟩ := Jvm.LawKit.callS X0 hx (y := (⟨"com/example/hashloom/hashloom/Primes", "isPrime", "(I)Z"⟩ : MethodName)) hown (mvT hZ (hw _ (List.mem_of_getElem? (i := 10) rfl))) (mvT hZ (hw _ (List.mem_of_getElem? (i := 11) rfl))) (mvT hZ (hw _ (List.mem_of_getElem? (i := 12) rfl))) (mvT hZ (hw _ (List.mem_of_getElem? (i := 13) rfl))) (by decide) (backOf (W := 0) (ip_rm l Z a0 hw [] (p0) h0 n0) hZ (hw _ (List.mem_of_getElem? (i := 13) rfl)) (hw _ (List.mem_of_getElem? (i := 12) rfl)) (by decide) (by decide)) (g := (mkF m 238 #[.val (.int p0), .val (.int p1), .val (.int p2), .val (.int p3), .val (.ref o2), .val (.int v5), .val (.int v6), .val (.int v7), .val (.int v8), .unset, .unset, .unset] [(.int p0)])) rfl (by rw [hml]; rfl) (argsL := [(.int p0)]) (rest := []) (lenOf own_pd0 rfl) rfl (by show 2 * 0 + _ ≤ _; exact Nat.le_of_eq rfl) (hb hby lw_d238) (fun _ _ => ⟨rfl, e0, (by decide : 1 + 0 ≤ _), (by decide : 27 + 0 ≤ _)⟩)
        dsimp only [Pt.U, Pt.locs, Pt.cells, Pt.slots] at X140 l140 y140 z140 st140 hQ140
        subst l140 y140 z140
        obtain ⟨rfl, N140q, e140⟩ := hQ140
        have N140 := Fr.app N0 N140q
        refine own_st st140 ?_
        show own_Dn p e below s _ _ _ (T140.setTop (mkF m 241 #[.val (.int p0), .val (.int p1), .val (.int p2), .val (.int p3), .val (.ref o2), .val (.int v5), .val (.int v6), .val (.int v7), .val (.int v8), .unset, .unset, .unset] [(.int (ip_f p0))]))
        refine own_st (fun _ k => XS.istore X140.here hx rfl (hb hby lw_d241) rfl (l' := #[.val (.int p0), .val (.int p1), .val (.int p2), .val (.int p3), .val (.ref o2), .val (.int v5), .val (.int v6), .val (.int v7), .val (.int v8), .val (.int (ip_f p0)), .unset, .unset]) rfl (XS.goto X140.here hx rfl (pc0 := 243) (pc' := 272) rfl (hb hby lw_d243) (by decide) (by decide) k)) ?_
        show own_Dn p e below s _ _ _ (T140.setTop (mkF m 272 #[.val (.int p0), .val (.int p1), .val (.int p2), .val (.int p3), .val (.ref o2), .val (.int v5), .val (.int v6), .val (.int v7), .val (.int v8), .val (.int (ip_f p0)), .unset, .unset] []))
        exact lw_c272 C0 X140 e140 N140 (v5) (v6) (v7) (v8) ((ip_f p0)) Z0 kn0 (by rw [hr0, lw_f205, if_neg hc134, if_neg hc137, if_pos hc139])
      · refine own_st (fun _ k => XS.icmpYes X0.here hx rfl (pc0 := 234) (pc' := 246) rfl (hb hby lw_d234) rfl (feq hc139).2 (by decide) (by decide) k) ?_
        show own_Dn p e below s _ _ _ (T0.setTop (mkF m 246 #[.val (.int p0), .val (.int p1), .val (.int p2), .val (.int p3), .val (.ref o2), .val (.int v5), .val (.int v6), .val (.int v7), .val (.int v8), .unset, .unset, .unset] []))
        refine own_st (fun _ k => XS.iloadN X0.here hx rfl (hb hby lw_d246) rfl (XS.iconst X0.here hx rfl (hb hby lw_d247) (iremM X0 hx rfl (hb hby lw_d248) rfl (by decide) k))) ?_
        show own_Dn p e below s _ _ _ (T0.setTop (mkF m 249 #[.val (.int p0), .val (.int p1), .val (.int p2), .val (.int p3), .val (.ref o2), .val (.int v5), .val (.int v6), .val (.int v7), .val (.int v8), .unset, .unset, .unset] [(.int (p0 % (2 : Int32)))]))
        by_cases hc141 : (p0 % (2 : Int32)) = (0 : Int32)
        · refine own_st (fun _ k => XS.ifNo X0.here hx rfl (hb hby lw_d249) rfl ((if0 _ _).trans (teq hc141).2) k) ?_
          show own_Dn p e below s _ _ _ (T0.setTop (mkF m 252 #[.val (.int p0), .val (.int p1), .val (.int p2), .val (.int p3), .val (.ref o2), .val (.int v5), .val (.int v6), .val (.int v7), .val (.int v8), .unset, .unset, .unset] []))
          refine own_st (fun _ k => XS.iloadN X0.here hx rfl (hb hby lw_d252) rfl k) ?_
          show own_Dn p e below s _ _ _ (T0.setTop (mkF m 253 #[.val (.int p0), .val (.int p1), .val (.int p2), .val (.int p3), .val (.ref o2), .val (.int v5), .val (.int v6), .val (.int v7), .val (.int v8), .unset, .unset, .unset] [(.int p0)]))
          obtain ⟨_, _, ⟨T142, L142, k142, n142⟩, -, X142, ⟨Lc142, hQ142, l142, y142, z142⟩, st142⟩ := Jvm.LawKit.callS X0 hx (y := (⟨"com/example/hashloom/hashloom/Primes", "isPrime", "(I)Z"⟩ : MethodName)) hown (mvT hZ (hw _ (List.mem_of_getElem? (i := 10) rfl))) (mvT hZ (hw _ (List.mem_of_getElem? (i := 11) rfl))) (mvT hZ (hw _ (List.mem_of_getElem? (i := 12) rfl))) (mvT hZ (hw _ (List.mem_of_getElem? (i := 13) rfl))) (by decide) (backOf (W := 0) (ip_rm l Z a0 hw [] (p0) h0 n0) hZ (hw _ (List.mem_of_getElem? (i := 13) rfl)) (hw _ (List.mem_of_getElem? (i := 12) rfl)) (by decide) (by decide)) (g := (mkF m 253 #[.val (.int p0), .val (.int p1), .val (.int p2), .val (.int p3), .val (.ref o2), .val (.int v5), .val (.int v6), .val (.int v7), .val (.int v8), .unset, .unset, .unset] [(.int p0)])) rfl (by rw [hml]; rfl) (argsL := [(.int p0)]) (rest := []) (lenOf own_pd0 rfl) rfl (by show 2 * 0 + _ ≤ _; exact Nat.le_of_eq rfl) (hb hby lw_d253) (fun _ _ => ⟨rfl, e0, (by decide : 1 + 0 ≤ _), (by decide : 27 + 0 ≤ _)⟩)
          dsimp only [Pt.U, Pt.locs, Pt.cells, Pt.slots] at X142 l142 y142 z142 st142 hQ142
          subst l142 y142 z142
          obtain ⟨rfl, N142q, e142⟩ := hQ142
          have N142 := Fr.app N0 N142q
          refine own_st st142 ?_
          show own_Dn p e below s _ _ _ (T142.setTop (mkF m 256 #[.val (.int p0), .val (.int p1), .val (.int p2), .val (.int p3), .val (.ref o2), .val (.int v5), .val (.int v6), .val (.int v7), .val (.int v8), .unset, .unset, .unset] [(.int (ip_f p0))]))
          by_cases hc143 : (ip_f p0) = (0 : Int32)
          · refine own_st (fun _ k => XS.ifNo X142.here hx rfl (hb hby lw_d256) rfl ((if0 _ _).trans (teq hc143).2) k) ?_
            show own_Dn p e below s _ _ _ (T142.setTop (mkF m 259 #[.val (.int p0), .val (.int p1), .val (.int p2), .val (.int p3), .val (.ref o2), .val (.int v5), .val (.int v6), .val (.int v7), .val (.int v8), .unset, .unset, .unset] []))
            refine own_st (fun _ k => XS.iconst X142.here hx rfl (hb hby lw_d259) (XS.goto X142.here hx rfl (pc0 := 260) (pc' := 264) rfl (hb hby lw_d260) (by decide) (by decide) (XS.istore X142.here hx rfl (hb hby lw_d264) rfl (l' := #[.val (.int p0), .val (.int p1), .val (.int p2), .val (.int p3), .val (.ref o2), .val (.int v5), .val (.int v6), .val (.int v7), .val (.int v8), .val (.int (1 : Int32)), .unset, .unset]) rfl (XS.goto X142.here hx rfl (pc0 := 266) (pc' := 272) rfl (hb hby lw_d266) (by decide) (by decide) k)))) ?_
            show own_Dn p e below s _ _ _ (T142.setTop (mkF m 272 #[.val (.int p0), .val (.int p1), .val (.int p2), .val (.int p3), .val (.ref o2), .val (.int v5), .val (.int v6), .val (.int v7), .val (.int v8), .val (.int (1 : Int32)), .unset, .unset] []))
            exact lw_c272 C0 X142 e142 N142 (v5) (v6) (v7) (v8) ((1 : Int32)) Z0 kn0 (by rw [hr0, lw_f205, if_neg hc134, if_neg hc137, if_neg hc139, if_pos hc141, if_pos hc143])
          · refine own_st (fun _ k => XS.ifYes X142.here hx rfl (pc0 := 256) (pc' := 263) rfl (hb hby lw_d256) rfl ((if0 _ _).trans (feq hc143).2) (by decide) (by decide) k) ?_
            show own_Dn p e below s _ _ _ (T142.setTop (mkF m 263 #[.val (.int p0), .val (.int p1), .val (.int p2), .val (.int p3), .val (.ref o2), .val (.int v5), .val (.int v6), .val (.int v7), .val (.int v8), .unset, .unset, .unset] []))
            refine own_st (fun _ k => XS.iconst X142.here hx rfl (hb hby lw_d263) (XS.istore X142.here hx rfl (hb hby lw_d264) rfl (l' := #[.val (.int p0), .val (.int p1), .val (.int p2), .val (.int p3), .val (.ref o2), .val (.int v5), .val (.int v6), .val (.int v7), .val (.int v8), .val (.int (0 : Int32)), .unset, .unset]) rfl (XS.goto X142.here hx rfl (pc0 := 266) (pc' := 272) rfl (hb hby lw_d266) (by decide) (by decide) k))) ?_
            show own_Dn p e below s _ _ _ (T142.setTop (mkF m 272 #[.val (.int p0), .val (.int p1), .val (.int p2), .val (.int p3), .val (.ref o2), .val (.int v5), .val (.int v6), .val (.int v7), .val (.int v8), .val (.int (0 : Int32)), .unset, .unset] []))
            exact lw_c272 C0 X142 e142 N142 (v5) (v6) (v7) (v8) ((0 : Int32)) Z0 kn0 (by rw [hr0, lw_f205, if_neg hc134, if_neg hc137, if_neg hc139, if_pos hc141, if_neg hc143])
        · refine own_st (fun _ k => XS.ifYes X0.here hx rfl (pc0 := 249) (pc' := 269) rfl (hb hby lw_d249) rfl ((if0 _ _).trans (feq hc141).2) (by decide) (by decide) k) ?_
          show own_Dn p e below s _ _ _ (T0.setTop (mkF m 269 #[.val (.int p0), .val (.int p1), .val (.int p2), .val (.int p3), .val (.ref o2), .val (.int v5), .val (.int v6), .val (.int v7), .val (.int v8), .unset, .unset, .unset] []))
          refine own_st (fun _ k => XS.iconst X0.here hx rfl (hb hby lw_d269) (XS.istore X0.here hx rfl (hb hby lw_d270) rfl (l' := #[.val (.int p0), .val (.int p1), .val (.int p2), .val (.int p3), .val (.ref o2), .val (.int v5), .val (.int v6), .val (.int v7), .val (.int v8), .val (.int (1 : Int32)), .unset, .unset]) rfl k)) ?_
          show own_Dn p e below s _ _ _ (T0.setTop (mkF m 272 #[.val (.int p0), .val (.int p1), .val (.int p2), .val (.int p3), .val (.ref o2), .val (.int v5), .val (.int v6), .val (.int v7), .val (.int v8), .val (.int (1 : Int32)), .unset, .unset] []))
          exact lw_c272 C0 X0 e0 N0 (v5) (v6) (v7) (v8) ((1 : Int32)) Z0 kn0 (by rw [hr0, lw_f205, if_neg hc134, if_neg hc137, if_neg hc139, if_neg hc141])
def lw_f174 (p0 : Int32) (p1 : Int32) (p2 : Int32) (p3 : Int32) (v5 : Int32) : Int32 :=
  lw_f205 p0 p1 p2 p3 (v5) (((2 : Int32) + ((p1 &&& (2147483647 : Int32)) % (46339 : Int32)))) ((((2147483647 : Int32) / ((2 : Int32) + ((p1 &&& (2147483647 : Int32)) % (46339 : Int32)))) - (1 : Int32))) (((2 : Int32) + ((p2 &&& (2147483647 : Int32)) % (((2147483647 : Int32) / ((2 : Int32) + ((p1 &&& (2147483647 : Int32)) % (46339 : Int32)))) - (1 : Int32)))))
set_option maxRecDepth 65536 in
set_option maxHeartbeats 40000000 in
theorem lw_c174 {l : Launch} {Z : State} {a0 : Array Value} {p0 : Int32} {p1 : Int32} {p2 : Int32} {p3 : Int32} {h0 : Heap} {n0 : Nat} {p : Program} {e : Env} {s : State} {m : MethodId} {args : Array Value} {below : List Frame} {meth : Method} {c : Code} {T0 : State} {locs : List Loc} {o2 : Addr} {r0 : Int32} (C0 : own_Cx p s m meth c Z a0 code 12 "com/example/hashloom/hashloom/PrimesIsPrimePinLaw" "law" (some .boolean)) (X0 : Stand p l e room_1 s m args below meth c T0 locs 1 27) (e0 : T0.heap = h0) (N0 : Fr n0 locs) (v5 : Int32) (Z0 : n0 ≤ h0.size) (kn0 : n0 ≤ o2) (hr0 : r0 = lw_f174 p0 p1 p2 p3 v5) :
    own_Dn p e below s (own_QL (some (.int r0)) n0) room_1.cells room_1.slots (T0.setTop (mkF m 174 #[.val (.int p0), .val (.int p1), .val (.int p2), .val (.int p3), .val (.ref o2), .val (.int v5), .unset, .unset, .unset, .unset, .unset, .unset] [])) := by
  obtain ⟨hx, hZ, hw, hby, hml, hown, hret, hlk, hnm⟩ := id C0
  refine own_st (fun _ k => XS.iconst X0.here hx rfl (hb hby lw_d174) (XS.iloadN X0.here hx rfl (hb hby lw_d175) rfl (X0.ldcInt hx (index := 14) (v := (2147483647 : Int32)) hown (mvT hZ (hw _ (List.mem_of_getElem? (i := 8) rfl))) (g := (mkF m 176 #[.val (.int p0), .val (.int p1), .val (.int p2), .val (.int p3), .val (.ref o2), .val (.int v5), .unset, .unset, .unset, .unset, .unset, .unset] [(.int p1), (.int (2 : Int32))])) rfl (hb hby lw_d176) _ (XS.iand X0.here hx rfl (hb hby lw_d178) rfl (X0.ldcInt hx (index := 15) (v := (46339 : Int32)) hown (mvT hZ (hw _ (List.mem_of_getElem? (i := 9) rfl))) (g := (mkF m 179 #[.val (.int p0), .val (.int p1), .val (.int p2), .val (.int p3), .val (.ref o2), .val (.int v5), .unset, .unset, .unset, .unset, .unset, .unset] [(.int (p1 &&& (2147483647 : Int32))), (.int (2 : Int32))])) rfl (hb hby lw_d179) _ (iremM X0 hx rfl (hb hby lw_d181) rfl (by decide) (XS.iadd X0.here hx rfl (hb hby lw_d182) rfl (XS.istore X0.here hx rfl (hb hby lw_d183) rfl (l' := #[.val (.int p0), .val (.int p1), .val (.int p2), .val (.int p3), .val (.ref o2), .val (.int v5), .val (.int ((2 : Int32) + ((p1 &&& (2147483647 : Int32)) % (46339 : Int32)))), .unset, .unset, .unset, .unset, .unset]) rfl (X0.ldcInt hx (index := 14) (v := (2147483647 : Int32)) hown (mvT hZ (hw _ (List.mem_of_getElem? (i := 8) rfl))) (g := (mkF m 185 #[.val (.int p0), .val (.int p1), .val (.int p2), .val (.int p3), .val (.ref o2), .val (.int v5), .val (.int ((2 : Int32) + ((p1 &&& (2147483647 : Int32)) % (46339 : Int32)))), .unset, .unset, .unset, .unset, .unset] [])) rfl (hb hby lw_d185) _ (XS.iload X0.here hx rfl (hb hby lw_d187) rfl (XS.idiv X0.here hx rfl (hb hby lw_d189) rfl (own_xnz p1) (XS.iconst X0.here hx rfl (hb hby lw_d190) (XS.isub X0.here hx rfl (hb hby lw_d191) rfl (XS.istore X0.here hx rfl (hb hby lw_d192) rfl (l' := #[.val (.int p0), .val (.int p1), .val (.int p2), .val (.int p3), .val (.ref o2), .val (.int v5), .val (.int ((2 : Int32) + ((p1 &&& (2147483647 : Int32)) % (46339 : Int32)))), .val (.int (((2147483647 : Int32) / ((2 : Int32) + ((p1 &&& (2147483647 : Int32)) % (46339 : Int32)))) - (1 : Int32))), .unset, .unset, .unset, .unset]) rfl (XS.iconst X0.here hx rfl (hb hby lw_d194) (XS.iloadN X0.here hx rfl (hb hby lw_d195) rfl (X0.ldcInt hx (index := 14) (v := (2147483647 : Int32)) hown (mvT hZ (hw _ (List.mem_of_getElem? (i := 8) rfl))) (g := (mkF m 196 #[.val (.int p0), .val (.int p1), .val (.int p2), .val (.int p3), .val (.ref o2), .val (.int v5), .val (.int ((2 : Int32) + ((p1 &&& (2147483647 : Int32)) % (46339 : Int32)))), .val (.int (((2147483647 : Int32) / ((2 : Int32) + ((p1 &&& (2147483647 : Int32)) % (46339 : Int32)))) - (1 : Int32))), .unset, .unset, .unset, .unset] [(.int p2), (.int (2 : Int32))])) rfl (hb hby lw_d196) _ (XS.iand X0.here hx rfl (hb hby lw_d198) rfl (XS.iload X0.here hx rfl (hb hby lw_d199) rfl (iremM X0 hx rfl (hb hby lw_d201) rfl (own_mnz p1) (XS.iadd X0.here hx rfl (hb hby lw_d202) rfl (XS.istore X0.here hx rfl (hb hby lw_d203) rfl (l' := #[.val (.int p0), .val (.int p1), .val (.int p2), .val (.int p3), .val (.ref o2), .val (.int v5), .val (.int ((2 : Int32) + ((p1 &&& (2147483647 : Int32)) % (46339 : Int32)))), .val (.int (((2147483647 : Int32) / ((2 : Int32) + ((p1 &&& (2147483647 : Int32)) % (46339 : Int32)))) - (1 : Int32))), .val (.int ((2 : Int32) + ((p2 &&& (2147483647 : Int32)) % (((2147483647 : Int32) / ((2 : Int32) + ((p1 &&& (2147483647 : Int32)) % (46339 : Int32)))) - (1 : Int32))))), .unset, .unset, .unset]) rfl k)))))))))))))))))))))) ?_
  show own_Dn p e below s _ _ _ (T0.setTop (mkF m 205 #[.val (.int p0), .val (.int p1), .val (.int p2), .val (.int p3), .val (.ref o2), .val (.int v5), .val (.int ((2 : Int32) + ((p1 &&& (2147483647 : Int32)) % (46339 : Int32)))), .val (.int (((2147483647 : Int32) / ((2 : Int32) + ((p1 &&& (2147483647 : Int32)) % (46339 : Int32)))) - (1 : Int32))), .val (.int ((2 : Int32) + ((p2 &&& (2147483647 : Int32)) % (((2147483647 : Int32) / ((2 : Int32) + ((p1 &&& (2147483647 : Int32)) % (46339 : Int32)))) - (1 : Int32))))), .unset, .unset, .unset] []))
  exact lw_c205 C0 X0 e0 N0 (v5) (((2 : Int32) + ((p1 &&& (2147483647 : Int32)) % (46339 : Int32)))) ((((2147483647 : Int32) / ((2 : Int32) + ((p1 &&& (2147483647 : Int32)) % (46339 : Int32)))) - (1 : Int32))) (((2 : Int32) + ((p2 &&& (2147483647 : Int32)) % (((2147483647 : Int32) / ((2 : Int32) + ((p1 &&& (2147483647 : Int32)) % (46339 : Int32)))) - (1 : Int32))))) Z0 kn0 (by rw [hr0, lw_f174])
def lw_f (p0 : Int32) (p1 : Int32) (p2 : Int32) (p3 : Int32)  : Int32 :=
  lw_f174 p0 p1 p2 p3 (((own_upd (own_upd (own_upd (own_upd (own_upd (own_upd (own_upd (own_upd (own_upd (own_upd (own_upd (own_upd (own_upd (own_upd (own_upd (own_upd (own_upd (own_upd (own_upd (own_upd (own_upd (own_upd (own_upd (own_upd (own_upd (own_upd (own_upd (fun _ => (0 : Int32)) ((0 : Int32)).toNatClampNeg (2 : Int32)) ((1 : Int32)).toNatClampNeg (3 : Int32)) ((2 : Int32)).toNatClampNeg (5 : Int32)) ((3 : Int32)).toNatClampNeg (7 : Int32)) ((4 : Int32)).toNatClampNeg (11 : Int32)) ((5 : Int32)).toNatClampNeg (13 : Int32)) ((6 : Int32)).toNatClampNeg (17 : Int32)) ((7 : Int32)).toNatClampNeg (19 : Int32)) ((8 : Int32)).toNatClampNeg (23 : Int32)) ((9 : Int32)).toNatClampNeg (29 : Int32)) ((10 : Int32)).toNatClampNeg (31 : Int32)) ((11 : Int32)).toNatClampNeg (37 : Int32)) ((12 : Int32)).toNatClampNeg (41 : Int32)) ((13 : Int32)).toNatClampNeg (43 : Int32)) ((14 : Int32)).toNatClampNeg (47 : Int32)) ((15 : Int32)).toNatClampNeg (97 : Int32)) ((16 : Int32)).toNatClampNeg (101 : Int32)) ((17 : Int32)).toNatClampNeg (7919 : Int32)) ((18 : Int32)).toNatClampNeg (9973 : Int32)) ((19 : Int32)).toNatClampNeg (46337 : Int32)) ((20 : Int32)).toNatClampNeg (65537 : Int32)) ((21 : Int32)).toNatClampNeg (104729 : Int32)) ((22 : Int32)).toNatClampNeg (998244353 : Int32)) ((23 : Int32)).toNatClampNeg (1000000007 : Int32)) ((24 : Int32)).toNatClampNeg (2147483399 : Int32)) ((25 : Int32)).toNatClampNeg (2147483563 : Int32)) ((26 : Int32)).toNatClampNeg (2147483647 : Int32)) (((p3 &&& (2147483647 : Int32)) % (27 : Int32))).toNatClampNeg))
set_option maxRecDepth 65536 in
set_option maxHeartbeats 40000000 in
theorem lw_c0 {l : Launch} {Z : State} {a0 : Array Value} {p0 : Int32} {p1 : Int32} {p2 : Int32} {p3 : Int32} {h0 : Heap} {n0 : Nat} {p : Program} {e : Env} {s : State} {m : MethodId} {args : Array Value} {below : List Frame} {meth : Method} {c : Code} {T0 : State} {locs : List Loc} {r0 : Int32} (C0 : own_Cx p s m meth c Z a0 code 12 "com/example/hashloom/hashloom/PrimesIsPrimePinLaw" "law" (some .boolean)) (X0 : Stand p l e room_1 s m args below meth c T0 locs 0 0) (e0 : T0.heap = h0) (N0 : Fr n0 locs)  (Z0 : n0 ≤ h0.size) (hr0 : r0 = lw_f p0 p1 p2 p3 ) :
    own_Dn p e below s (own_QL (some (.int r0)) n0) room_1.cells room_1.slots (T0.setTop (mkF m 0 #[.val (.int p0), .val (.int p1), .val (.int p2), .val (.int p3), .unset, .unset, .unset, .unset, .unset, .unset, .unset, .unset] [])) := by
  obtain ⟨hx, hZ, hw, hby, hml, hown, hret, hlk, hnm⟩ := id C0
  refine own_st (fun _ k => XS.bipush X0.here hx rfl (hb hby lw_d0) k) ?_
  show own_Dn p e below s _ _ _ (T0.setTop (mkF m 2 #[.val (.int p0), .val (.int p1), .val (.int p2), .val (.int p3), .unset, .unset, .unset, .unset, .unset, .unset, .unset, .unset] [(.int (27 : Int32))]))
  obtain ⟨T76, h76, cA76, X76, e76, E76, A76, st76⟩ := newP X0 hx hZ (aty := .int) (hw _ (List.mem_of_getElem? (i := 0) rfl)) e0 (g := (mkF m 2 #[.val (.int p0), .val (.int p1), .val (.int p2), .val (.int p3), .unset, .unset, .unset, .unset, .unset, .unset, .unset, .unset] [(.int (27 : Int32))])) rfl (hb hby lw_d2) (n := (27 : Int32)) rfl (by decide) (cap := 27) (by decide) (by decide) (by decide) (by decide)
  obtain ⟨o2, g76⟩ : ∃ z, z = h0.size := ⟨_, rfl⟩
  rw [← g76] at A76 st76
  have ge77 : n0 ≤ o2 := Nat.le_trans Z0 (Nat.le_of_eq g76.symm)
  have F78 : n0 ≤ h76.size := Nat.le_trans Z0 E76.1
  have F79 : own_Arf Z h76 o2 .int 27 (fun i => (.int ((fun _ => (0 : Int32)) i))) := own_Arf.new A76 (by decide) (by decide)
  refine own_st st76 ?_
  show own_Dn p e below s _ _ _ (T76.setTop (mkF m 4 #[.val (.int p0), .val (.int p1), .val (.int p2), .val (.int p3), .unset, .unset, .unset, .unset, .unset, .unset, .unset, .unset] [(.ref o2)]))
  refine own_st (fun _ k => XS.dup X76.here hx rfl (hb hby lw_d4) rfl rfl (XS.iconst X76.here hx rfl (hb hby lw_d5) (XS.iconst X76.here hx rfl (hb hby lw_d6) k))) ?_
  show own_Dn p e below s _ _ _ (T76.setTop (mkF m 7 #[.val (.int p0), .val (.int p1), .val (.int p2), .val (.int p3), .unset, .unset, .unset, .unset, .unset, .unset, .unset, .unset] [(.int (2 : Int32)), (.int (0 : Int32)), (.ref o2), (.ref o2)]))
  obtain ⟨T80, h80, X80, e80, W80, F80a, st80⟩ := own_stI (pc := 7) (L := #[.val (.int p0), .val (.int p1), .val (.int p2), .val (.int p3), .unset, .unset, .unset, .unset, .unset, .unset, .unset, .unset]) (rest := [(.ref o2)]) X76 hx hZ e76 F79 (j := (0 : Int32)) (x := (2 : Int32)) (by decide) (by decide) (hb hby lw_d7)
  have N80 := Fr.snoc X80 N0 ge77
  have F81 : n0 ≤ h80.size := Nat.le_trans F78 (Keep.of_wr W80).1
  refine own_st st80 ?_
  show own_Dn p e below s _ _ _ (T80.setTop (mkF m 8 #[.val (.int p0), .val (.int p1), .val (.int p2), .val (.int p3), .unset, .unset, .unset, .unset, .unset, .unset, .unset, .unset] [(.ref o2)]))
  refine own_st (fun _ k => XS.dup X80.here hx rfl (hb hby lw_d8) rfl rfl (XS.iconst X80.here hx rfl (hb hby lw_d9) (XS.iconst X80.here hx rfl (hb hby lw_d10) k))) ?_
  show own_Dn p e below s _ _ _ (T80.setTop (mkF m 11 #[.val (.int p0), .val (.int p1), .val (.int p2), .val (.int p3), .unset, .unset, .unset, .unset, .unset, .unset, .unset, .unset] [(.int (3 : Int32)), (.int (1 : Int32)), (.ref o2), (.ref o2)]))
  obtain ⟨T82, h82, X82, e82, W82, F82a, st82⟩ := own_stI (pc := 11) (L := #[.val (.int p0), .val (.int p1), .val (.int p2), .val (.int p3), .unset, .unset, .unset, .unset, .unset, .unset, .unset, .unset]) (rest := [(.ref o2)]) X80 hx hZ e80 F80a (j := (1 : Int32)) (x := (3 : Int32)) (by decide) (by decide) (hb hby lw_d11)
  have N82 := Fr.snoc X82 N80 ge77
  have F83 : n0 ≤ h82.size := Nat.le_trans F81 (Keep.of_wr W82).1
  refine own_st st82 ?_
  show own_Dn p e below s _ _ _ (T82.setTop (mkF m 12 #[.val (.int p0), .val (.int p1), .val (.int p2), .val (.int p3), .unset, .unset, .unset, .unset, .unset, .unset, .unset, .unset] [(.ref o2)]))
  refine own_st (fun _ k => XS.dup X82.here hx rfl (hb hby lw_d12) rfl rfl (XS.iconst X82.here hx rfl (hb hby lw_d13) (XS.iconst X82.here hx rfl (hb hby lw_d14) k))) ?_
  show own_Dn p e below s _ _ _ (T82.setTop (mkF m 15 #[.val (.int p0), .val (.int p1), .val (.int p2), .val (.int p3), .unset, .unset, .unset, .unset, .unset, .unset, .unset, .unset] [(.int (5 : Int32)), (.int (2 : Int32)), (.ref o2), (.ref o2)]))
  obtain ⟨T84, h84, X84, e84, W84, F84a, st84⟩ := own_stI (pc := 15) (L := #[.val (.int p0), .val (.int p1), .val (.int p2), .val (.int p3), .unset, .unset, .unset, .unset, .unset, .unset, .unset, .unset]) (rest := [(.ref o2)]) X82 hx hZ e82 F82a (j := (2 : Int32)) (x := (5 : Int32)) (by decide) (by decide) (hb hby lw_d15)
  have N84 := Fr.snoc X84 N82 ge77
  have F85 : n0 ≤ h84.size := Nat.le_trans F83 (Keep.of_wr W84).1
  refine own_st st84 ?_
  show own_Dn p e below s _ _ _ (T84.setTop (mkF m 16 #[.val (.int p0), .val (.int p1), .val (.int p2), .val (.int p3), .unset, .unset, .unset, .unset, .unset, .unset, .unset, .unset] [(.ref o2)]))
  refine own_st (fun _ k => XS.dup X84.here hx rfl (hb hby lw_d16) rfl rfl (XS.iconst X84.here hx rfl (hb hby lw_d17) (XS.bipush X84.here hx rfl (hb hby lw_d18) k))) ?_
  show own_Dn p e below s _ _ _ (T84.setTop (mkF m 20 #[.val (.int p0), .val (.int p1), .val (.int p2), .val (.int p3), .unset, .unset, .unset, .unset, .unset, .unset, .unset, .unset] [(.int (7 : Int32)), (.int (3 : Int32)), (.ref o2), (.ref o2)]))
  obtain ⟨T86, h86, X86, e86, W86, F86a, st86⟩ := own_stI (pc := 20) (L := #[.val (.int p0), .val (.int p1), .val (.int p2), .val (.int p3), .unset, .unset, .unset, .unset, .unset, .unset, .unset, .unset]) (rest := [(.ref o2)]) X84 hx hZ e84 F84a (j := (3 : Int32)) (x := (7 : Int32)) (by decide) (by decide) (hb hby lw_d20)
  have N86 := Fr.snoc X86 N84 ge77
  have F87 : n0 ≤ h86.size := Nat.le_trans F85 (Keep.of_wr W86).1
  refine own_st st86 ?_
  show own_Dn p e below s _ _ _ (T86.setTop (mkF m 21 #[.val (.int p0), .val (.int p1), .val (.int p2), .val (.int p3), .unset, .unset, .unset, .unset, .unset, .unset, .unset, .unset] [(.ref o2)]))
  refine own_st (fun _ k => XS.dup X86.here hx rfl (hb hby lw_d21) rfl rfl (XS.iconst X86.here hx rfl (hb hby lw_d22) (XS.bipush X86.here hx rfl (hb hby lw_d23) k))) ?_
  show own_Dn p e below s _ _ _ (T86.setTop (mkF m 25 #[.val (.int p0), .val (.int p1), .val (.int p2), .val (.int p3), .unset, .unset, .unset, .unset, .unset, .unset, .unset, .unset] [(.int (11 : Int32)), (.int (4 : Int32)), (.ref o2), (.ref o2)]))
  obtain ⟨T88, h88, X88, e88, W88, F88a, st88⟩ := own_stI (pc := 25) (L := #[.val (.int p0), .val (.int p1), .val (.int p2), .val (.int p3), .unset, .unset, .unset, .unset, .unset, .unset, .unset, .unset]) (rest := [(.ref o2)]) X86 hx hZ e86 F86a (j := (4 : Int32)) (x := (11 : Int32)) (by decide) (by decide) (hb hby lw_d25)
  have N88 := Fr.snoc X88 N86 ge77
  have F89 : n0 ≤ h88.size := Nat.le_trans F87 (Keep.of_wr W88).1
  refine own_st st88 ?_
  show own_Dn p e below s _ _ _ (T88.setTop (mkF m 26 #[.val (.int p0), .val (.int p1), .val (.int p2), .val (.int p3), .unset, .unset, .unset, .unset, .unset, .unset, .unset, .unset] [(.ref o2)]))
  refine own_st (fun _ k => XS.dup X88.here hx rfl (hb hby lw_d26) rfl rfl (XS.iconst X88.here hx rfl (hb hby lw_d27) (XS.bipush X88.here hx rfl (hb hby lw_d28) k))) ?_
  show own_Dn p e below s _ _ _ (T88.setTop (mkF m 30 #[.val (.int p0), .val (.int p1), .val (.int p2), .val (.int p3), .unset, .unset, .unset, .unset, .unset, .unset, .unset, .unset] [(.int (13 : Int32)), (.int (5 : Int32)), (.ref o2), (.ref o2)]))
  obtain ⟨T90, h90, X90, e90, W90, F90a, st90⟩ := own_stI (pc := 30) (L := #[.val (.int p0), .val (.int p1), .val (.int p2), .val (.int p3), .unset, .unset, .unset, .unset, .unset, .unset, .unset, .unset]) (rest := [(.ref o2)]) X88 hx hZ e88 F88a (j := (5 : Int32)) (x := (13 : Int32)) (by decide) (by decide) (hb hby lw_d30)
  have N90 := Fr.snoc X90 N88 ge77
  have F91 : n0 ≤ h90.size := Nat.le_trans F89 (Keep.of_wr W90).1
  refine own_st st90 ?_
  show own_Dn p e below s _ _ _ (T90.setTop (mkF m 31 #[.val (.int p0), .val (.int p1), .val (.int p2), .val (.int p3), .unset, .unset, .unset, .unset, .unset, .unset, .unset, .unset] [(.ref o2)]))
  refine own_st (fun _ k => XS.dup X90.here hx rfl (hb hby lw_d31) rfl rfl (XS.bipush X90.here hx rfl (hb hby lw_d32) (XS.bipush X90.here hx rfl (hb hby lw_d34) k))) ?_
  show own_Dn p e below s _ _ _ (T90.setTop (mkF m 36 #[.val (.int p0), .val (.int p1), .val (.int p2), .val (.int p3), .unset, .unset, .unset, .unset, .unset, .unset, .unset, .unset] [(.int (17 : Int32)), (.int (6 : Int32)), (.ref o2), (.ref o2)]))
  obtain ⟨T92, h92, X92, e92, W92, F92a, st92⟩ := own_stI (pc := 36) (L := #[.val (.int p0), .val (.int p1), .val (.int p2), .val (.int p3), .unset, .unset, .unset, .unset, .unset, .unset, .unset, .unset]) (rest := [(.ref o2)]) X90 hx hZ e90 F90a (j := (6 : Int32)) (x := (17 : Int32)) (by decide) (by decide) (hb hby lw_d36)
  have N92 := Fr.snoc X92 N90 ge77
  have F93 : n0 ≤ h92.size := Nat.le_trans F91 (Keep.of_wr W92).1
  refine own_st st92 ?_
  show own_Dn p e below s _ _ _ (T92.setTop (mkF m 37 #[.val (.int p0), .val (.int p1), .val (.int p2), .val (.int p3), .unset, .unset, .unset, .unset, .unset, .unset, .unset, .unset] [(.ref o2)]))
  refine own_st (fun _ k => XS.dup X92.here hx rfl (hb hby lw_d37) rfl rfl (XS.bipush X92.here hx rfl (hb hby lw_d38) (XS.bipush X92.here hx rfl (hb hby lw_d40) k))) ?_
  show own_Dn p e below s _ _ _ (T92.setTop (mkF m 42 #[.val (.int p0), .val (.int p1), .val (.int p2), .val (.int p3), .unset, .unset, .unset, .unset, .unset, .unset, .unset, .unset] [(.int (19 : Int32)), (.int (7 : Int32)), (.ref o2), (.ref o2)]))
  obtain ⟨T94, h94, X94, e94, W94, F94a, st94⟩ := own_stI (pc := 42) (L := #[.val (.int p0), .val (.int p1), .val (.int p2), .val (.int p3), .unset, .unset, .unset, .unset, .unset, .unset, .unset, .unset]) (rest := [(.ref o2)]) X92 hx hZ e92 F92a (j := (7 : Int32)) (x := (19 : Int32)) (by decide) (by decide) (hb hby lw_d42)
  have N94 := Fr.snoc X94 N92 ge77
  have F95 : n0 ≤ h94.size := Nat.le_trans F93 (Keep.of_wr W94).1
  refine own_st st94 ?_
  show own_Dn p e below s _ _ _ (T94.setTop (mkF m 43 #[.val (.int p0), .val (.int p1), .val (.int p2), .val (.int p3), .unset, .unset, .unset, .unset, .unset, .unset, .unset, .unset] [(.ref o2)]))
  refine own_st (fun _ k => XS.dup X94.here hx rfl (hb hby lw_d43) rfl rfl (XS.bipush X94.here hx rfl (hb hby lw_d44) (XS.bipush X94.here hx rfl (hb hby lw_d46) k))) ?_
  show own_Dn p e below s _ _ _ (T94.setTop (mkF m 48 #[.val (.int p0), .val (.int p1), .val (.int p2), .val (.int p3), .unset, .unset, .unset, .unset, .unset, .unset, .unset, .unset] [(.int (23 : Int32)), (.int (8 : Int32)), (.ref o2), (.ref o2)]))
  obtain ⟨T96, h96, X96, e96, W96, F96a, st96⟩ := own_stI (pc := 48) (L := #[.val (.int p0), .val (.int p1), .val (.int p2), .val (.int p3), .unset, .unset, .unset, .unset, .unset, .unset, .unset, .unset]) (rest := [(.ref o2)]) X94 hx hZ e94 F94a (j := (8 : Int32)) (x := (23 : Int32)) (by decide) (by decide) (hb hby lw_d48)
  have N96 := Fr.snoc X96 N94 ge77
  have F97 : n0 ≤ h96.size := Nat.le_trans F95 (Keep.of_wr W96).1
  refine own_st st96 ?_
  show own_Dn p e below s _ _ _ (T96.setTop (mkF m 49 #[.val (.int p0), .val (.int p1), .val (.int p2), .val (.int p3), .unset, .unset, .unset, .unset, .unset, .unset, .unset, .unset] [(.ref o2)]))
  refine own_st (fun _ k => XS.dup X96.here hx rfl (hb hby lw_d49) rfl rfl (XS.bipush X96.here hx rfl (hb hby lw_d50) (XS.bipush X96.here hx rfl (hb hby lw_d52) k))) ?_
  show own_Dn p e below s _ _ _ (T96.setTop (mkF m 54 #[.val (.int p0), .val (.int p1), .val (.int p2), .val (.int p3), .unset, .unset, .unset, .unset, .unset, .unset, .unset, .unset] [(.int (29 : Int32)), (.int (9 : Int32)), (.ref o2), (.ref o2)]))
  obtain ⟨T98, h98, X98, e98, W98, F98a, st98⟩ := own_stI (pc := 54) (L := #[.val (.int p0), .val (.int p1), .val (.int p2), .val (.int p3), .unset, .unset, .unset, .unset, .unset, .unset, .unset, .unset]) (rest := [(.ref o2)]) X96 hx hZ e96 F96a (j := (9 : Int32)) (x := (29 : Int32)) (by decide) (by decide) (hb hby lw_d54)
  have N98 := Fr.snoc X98 N96 ge77
  have F99 : n0 ≤ h98.size := Nat.le_trans F97 (Keep.of_wr W98).1
  refine own_st st98 ?_
  show own_Dn p e below s _ _ _ (T98.setTop (mkF m 55 #[.val (.int p0), .val (.int p1), .val (.int p2), .val (.int p3), .unset, .unset, .unset, .unset, .unset, .unset, .unset, .unset] [(.ref o2)]))
  refine own_st (fun _ k => XS.dup X98.here hx rfl (hb hby lw_d55) rfl rfl (XS.bipush X98.here hx rfl (hb hby lw_d56) (XS.bipush X98.here hx rfl (hb hby lw_d58) k))) ?_
  show own_Dn p e below s _ _ _ (T98.setTop (mkF m 60 #[.val (.int p0), .val (.int p1), .val (.int p2), .val (.int p3), .unset, .unset, .unset, .unset, .unset, .unset, .unset, .unset] [(.int (31 : Int32)), (.int (10 : Int32)), (.ref o2), (.ref o2)]))
  obtain ⟨T100, h100, X100, e100, W100, F100a, st100⟩ := own_stI (pc := 60) (L := #[.val (.int p0), .val (.int p1), .val (.int p2), .val (.int p3), .unset, .unset, .unset, .unset, .unset, .unset, .unset, .unset]) (rest := [(.ref o2)]) X98 hx hZ e98 F98a (j := (10 : Int32)) (x := (31 : Int32)) (by decide) (by decide) (hb hby lw_d60)
  have N100 := Fr.snoc X100 N98 ge77
  have F101 : n0 ≤ h100.size := Nat.le_trans F99 (Keep.of_wr W100).1
  refine own_st st100 ?_
  show own_Dn p e below s _ _ _ (T100.setTop (mkF m 61 #[.val (.int p0), .val (.int p1), .val (.int p2), .val (.int p3), .unset, .unset, .unset, .unset, .unset, .unset, .unset, .unset] [(.ref o2)]))
  refine own_st (fun _ k => XS.dup X100.here hx rfl (hb hby lw_d61) rfl rfl (XS.bipush X100.here hx rfl (hb hby lw_d62) (XS.bipush X100.here hx rfl (hb hby lw_d64) k))) ?_
  show own_Dn p e below s _ _ _ (T100.setTop (mkF m 66 #[.val (.int p0), .val (.int p1), .val (.int p2), .val (.int p3), .unset, .unset, .unset, .unset, .unset, .unset, .unset, .unset] [(.int (37 : Int32)), (.int (11 : Int32)), (.ref o2), (.ref o2)]))
  obtain ⟨T102, h102, X102, e102, W102, F102a, st102⟩ := own_stI (pc := 66) (L := #[.val (.int p0), .val (.int p1), .val (.int p2), .val (.int p3), .unset, .unset, .unset, .unset, .unset, .unset, .unset, .unset]) (rest := [(.ref o2)]) X100 hx hZ e100 F100a (j := (11 : Int32)) (x := (37 : Int32)) (by decide) (by decide) (hb hby lw_d66)
  have N102 := Fr.snoc X102 N100 ge77
  have F103 : n0 ≤ h102.size := Nat.le_trans F101 (Keep.of_wr W102).1
  refine own_st st102 ?_
  show own_Dn p e below s _ _ _ (T102.setTop (mkF m 67 #[.val (.int p0), .val (.int p1), .val (.int p2), .val (.int p3), .unset, .unset, .unset, .unset, .unset, .unset, .unset, .unset] [(.ref o2)]))
  refine own_st (fun _ k => XS.dup X102.here hx rfl (hb hby lw_d67) rfl rfl (XS.bipush X102.here hx rfl (hb hby lw_d68) (XS.bipush X102.here hx rfl (hb hby lw_d70) k))) ?_
  show own_Dn p e below s _ _ _ (T102.setTop (mkF m 72 #[.val (.int p0), .val (.int p1), .val (.int p2), .val (.int p3), .unset, .unset, .unset, .unset, .unset, .unset, .unset, .unset] [(.int (41 : Int32)), (.int (12 : Int32)), (.ref o2), (.ref o2)]))
  obtain ⟨T104, h104, X104, e104, W104, F104a, st104⟩ := own_stI (pc := 72) (L := #[.val (.int p0), .val (.int p1), .val (.int p2), .val (.int p3), .unset, .unset, .unset, .unset, .unset, .unset, .unset, .unset]) (rest := [(.ref o2)]) X102 hx hZ e102 F102a (j := (12 : Int32)) (x := (41 : Int32)) (by decide) (by decide) (hb hby lw_d72)
  have N104 := Fr.snoc X104 N102 ge77
  have F105 : n0 ≤ h104.size := Nat.le_trans F103 (Keep.of_wr W104).1
  refine own_st st104 ?_
  show own_Dn p e below s _ _ _ (T104.setTop (mkF m 73 #[.val (.int p0), .val (.int p1), .val (.int p2), .val (.int p3), .unset, .unset, .unset, .unset, .unset, .unset, .unset, .unset] [(.ref o2)]))
  refine own_st (fun _ k => XS.dup X104.here hx rfl (hb hby lw_d73) rfl rfl (XS.bipush X104.here hx rfl (hb hby lw_d74) (XS.bipush X104.here hx rfl (hb hby lw_d76) k))) ?_
  show own_Dn p e below s _ _ _ (T104.setTop (mkF m 78 #[.val (.int p0), .val (.int p1), .val (.int p2), .val (.int p3), .unset, .unset, .unset, .unset, .unset, .unset, .unset, .unset] [(.int (43 : Int32)), (.int (13 : Int32)), (.ref o2), (.ref o2)]))
  obtain ⟨T106, h106, X106, e106, W106, F106a, st106⟩ := own_stI (pc := 78) (L := #[.val (.int p0), .val (.int p1), .val (.int p2), .val (.int p3), .unset, .unset, .unset, .unset, .unset, .unset, .unset, .unset]) (rest := [(.ref o2)]) X104 hx hZ e104 F104a (j := (13 : Int32)) (x := (43 : Int32)) (by decide) (by decide) (hb hby lw_d78)
  have N106 := Fr.snoc X106 N104 ge77
  have F107 : n0 ≤ h106.size := Nat.le_trans F105 (Keep.of_wr W106).1
  refine own_st st106 ?_
  show own_Dn p e below s _ _ _ (T106.setTop (mkF m 79 #[.val (.int p0), .val (.int p1), .val (.int p2), .val (.int p3), .unset, .unset, .unset, .unset, .unset, .unset, .unset, .unset] [(.ref o2)]))
  refine own_st (fun _ k => XS.dup X106.here hx rfl (hb hby lw_d79) rfl rfl (XS.bipush X106.here hx rfl (hb hby lw_d80) (XS.bipush X106.here hx rfl (hb hby lw_d82) k))) ?_
  show own_Dn p e below s _ _ _ (T106.setTop (mkF m 84 #[.val (.int p0), .val (.int p1), .val (.int p2), .val (.int p3), .unset, .unset, .unset, .unset, .unset, .unset, .unset, .unset] [(.int (47 : Int32)), (.int (14 : Int32)), (.ref o2), (.ref o2)]))
  obtain ⟨T108, h108, X108, e108, W108, F108a, st108⟩ := own_stI (pc := 84) (L := #[.val (.int p0), .val (.int p1), .val (.int p2), .val (.int p3), .unset, .unset, .unset, .unset, .unset, .unset, .unset, .unset]) (rest := [(.ref o2)]) X106 hx hZ e106 F106a (j := (14 : Int32)) (x := (47 : Int32)) (by decide) (by decide) (hb hby lw_d84)
  have N108 := Fr.snoc X108 N106 ge77
  have F109 : n0 ≤ h108.size := Nat.le_trans F107 (Keep.of_wr W108).1
  refine own_st st108 ?_
  show own_Dn p e below s _ _ _ (T108.setTop (mkF m 85 #[.val (.int p0), .val (.int p1), .val (.int p2), .val (.int p3), .unset, .unset, .unset, .unset, .unset, .unset, .unset, .unset] [(.ref o2)]))
  refine own_st (fun _ k => XS.dup X108.here hx rfl (hb hby lw_d85) rfl rfl (XS.bipush X108.here hx rfl (hb hby lw_d86) (XS.bipush X108.here hx rfl (hb hby lw_d88) k))) ?_
  show own_Dn p e below s _ _ _ (T108.setTop (mkF m 90 #[.val (.int p0), .val (.int p1), .val (.int p2), .val (.int p3), .unset, .unset, .unset, .unset, .unset, .unset, .unset, .unset] [(.int (97 : Int32)), (.int (15 : Int32)), (.ref o2), (.ref o2)]))
  obtain ⟨T110, h110, X110, e110, W110, F110a, st110⟩ := own_stI (pc := 90) (L := #[.val (.int p0), .val (.int p1), .val (.int p2), .val (.int p3), .unset, .unset, .unset, .unset, .unset, .unset, .unset, .unset]) (rest := [(.ref o2)]) X108 hx hZ e108 F108a (j := (15 : Int32)) (x := (97 : Int32)) (by decide) (by decide) (hb hby lw_d90)
  have N110 := Fr.snoc X110 N108 ge77
  have F111 : n0 ≤ h110.size := Nat.le_trans F109 (Keep.of_wr W110).1
  refine own_st st110 ?_
  show own_Dn p e below s _ _ _ (T110.setTop (mkF m 91 #[.val (.int p0), .val (.int p1), .val (.int p2), .val (.int p3), .unset, .unset, .unset, .unset, .unset, .unset, .unset, .unset] [(.ref o2)]))
  refine own_st (fun _ k => XS.dup X110.here hx rfl (hb hby lw_d91) rfl rfl (XS.bipush X110.here hx rfl (hb hby lw_d92) (XS.bipush X110.here hx rfl (hb hby lw_d94) k))) ?_
  show own_Dn p e below s _ _ _ (T110.setTop (mkF m 96 #[.val (.int p0), .val (.int p1), .val (.int p2), .val (.int p3), .unset, .unset, .unset, .unset, .unset, .unset, .unset, .unset] [(.int (101 : Int32)), (.int (16 : Int32)), (.ref o2), (.ref o2)]))
  obtain ⟨T112, h112, X112, e112, W112, F112a, st112⟩ := own_stI (pc := 96) (L := #[.val (.int p0), .val (.int p1), .val (.int p2), .val (.int p3), .unset, .unset, .unset, .unset, .unset, .unset, .unset, .unset]) (rest := [(.ref o2)]) X110 hx hZ e110 F110a (j := (16 : Int32)) (x := (101 : Int32)) (by decide) (by decide) (hb hby lw_d96)
  have N112 := Fr.snoc X112 N110 ge77
  have F113 : n0 ≤ h112.size := Nat.le_trans F111 (Keep.of_wr W112).1
  refine own_st st112 ?_
  show own_Dn p e below s _ _ _ (T112.setTop (mkF m 97 #[.val (.int p0), .val (.int p1), .val (.int p2), .val (.int p3), .unset, .unset, .unset, .unset, .unset, .unset, .unset, .unset] [(.ref o2)]))
  refine own_st (fun _ k => XS.dup X112.here hx rfl (hb hby lw_d97) rfl rfl (XS.bipush X112.here hx rfl (hb hby lw_d98) (XS.sipush X112.here hx rfl (hb hby lw_d100) k))) ?_
  show own_Dn p e below s _ _ _ (T112.setTop (mkF m 103 #[.val (.int p0), .val (.int p1), .val (.int p2), .val (.int p3), .unset, .unset, .unset, .unset, .unset, .unset, .unset, .unset] [(.int (7919 : Int32)), (.int (17 : Int32)), (.ref o2), (.ref o2)]))
  obtain ⟨T114, h114, X114, e114, W114, F114a, st114⟩ := own_stI (pc := 103) (L := #[.val (.int p0), .val (.int p1), .val (.int p2), .val (.int p3), .unset, .unset, .unset, .unset, .unset, .unset, .unset, .unset]) (rest := [(.ref o2)]) X112 hx hZ e112 F112a (j := (17 : Int32)) (x := (7919 : Int32)) (by decide) (by decide) (hb hby lw_d103)
  have N114 := Fr.snoc X114 N112 ge77
  have F115 : n0 ≤ h114.size := Nat.le_trans F113 (Keep.of_wr W114).1
  refine own_st st114 ?_
  show own_Dn p e below s _ _ _ (T114.setTop (mkF m 104 #[.val (.int p0), .val (.int p1), .val (.int p2), .val (.int p3), .unset, .unset, .unset, .unset, .unset, .unset, .unset, .unset] [(.ref o2)]))
  refine own_st (fun _ k => XS.dup X114.here hx rfl (hb hby lw_d104) rfl rfl (XS.bipush X114.here hx rfl (hb hby lw_d105) (XS.sipush X114.here hx rfl (hb hby lw_d107) k))) ?_
  show own_Dn p e below s _ _ _ (T114.setTop (mkF m 110 #[.val (.int p0), .val (.int p1), .val (.int p2), .val (.int p3), .unset, .unset, .unset, .unset, .unset, .unset, .unset, .unset] [(.int (9973 : Int32)), (.int (18 : Int32)), (.ref o2), (.ref o2)]))
  obtain ⟨T116, h116, X116, e116, W116, F116a, st116⟩ := own_stI (pc := 110) (L := #[.val (.int p0), .val (.int p1), .val (.int p2), .val (.int p3), .unset, .unset, .unset, .unset, .unset, .unset, .unset, .unset]) (rest := [(.ref o2)]) X114 hx hZ e114 F114a (j := (18 : Int32)) (x := (9973 : Int32)) (by decide) (by decide) (hb hby lw_d110)
  have N116 := Fr.snoc X116 N114 ge77
  have F117 : n0 ≤ h116.size := Nat.le_trans F115 (Keep.of_wr W116).1
  refine own_st st116 ?_
  show own_Dn p e below s _ _ _ (T116.setTop (mkF m 111 #[.val (.int p0), .val (.int p1), .val (.int p2), .val (.int p3), .unset, .unset, .unset, .unset, .unset, .unset, .unset, .unset] [(.ref o2)]))
  refine own_st (fun _ k => XS.dup X116.here hx rfl (hb hby lw_d111) rfl rfl (XS.bipush X116.here hx rfl (hb hby lw_d112) (X116.ldcInt hx (index := 7) (v := (46337 : Int32)) hown (mvT hZ (hw _ (List.mem_of_getElem? (i := 1) rfl))) (g := (mkF m 114 #[.val (.int p0), .val (.int p1), .val (.int p2), .val (.int p3), .unset, .unset, .unset, .unset, .unset, .unset, .unset, .unset] [(.int (19 : Int32)), (.ref o2), (.ref o2)])) rfl (hb hby lw_d114) _ k))) ?_
  show own_Dn p e below s _ _ _ (T116.setTop (mkF m 116 #[.val (.int p0), .val (.int p1), .val (.int p2), .val (.int p3), .unset, .unset, .unset, .unset, .unset, .unset, .unset, .unset] [(.int (46337 : Int32)), (.int (19 : Int32)), (.ref o2), (.ref o2)]))
  obtain ⟨T118, h118, X118, e118, W118, F118a, st118⟩ := own_stI (pc := 116) (L := #[.val (.int p0), .val (.int p1), .val (.int p2), .val (.int p3), .unset, .unset, .unset, .unset, .unset, .unset, .unset, .unset]) (rest := [(.ref o2)]) X116 hx hZ e116 F116a (j := (19 : Int32)) (x := (46337 : Int32)) (by decide) (by decide) (hb hby lw_d116)
  have N118 := Fr.snoc X118 N116 ge77
  have F119 : n0 ≤ h118.size := Nat.le_trans F117 (Keep.of_wr W118).1
  refine own_st st118 ?_
  show own_Dn p e below s _ _ _ (T118.setTop (mkF m 117 #[.val (.int p0), .val (.int p1), .val (.int p2), .val (.int p3), .unset, .unset, .unset, .unset, .unset, .unset, .unset, .unset] [(.ref o2)]))
  refine own_st (fun _ k => XS.dup X118.here hx rfl (hb hby lw_d117) rfl rfl (XS.bipush X118.here hx rfl (hb hby lw_d118) (X118.ldcInt hx (index := 8) (v := (65537 : Int32)) hown (mvT hZ (hw _ (List.mem_of_getElem? (i := 2) rfl))) (g := (mkF m 120 #[.val (.int p0), .val (.int p1), .val (.int p2), .val (.int p3), .unset, .unset, .unset, .unset, .unset, .unset, .unset, .unset] [(.int (20 : Int32)), (.ref o2), (.ref o2)])) rfl (hb hby lw_d120) _ k))) ?_
  show own_Dn p e below s _ _ _ (T118.setTop (mkF m 122 #[.val (.int p0), .val (.int p1), .val (.int p2), .val (.int p3), .unset, .unset, .unset, .unset, .unset, .unset, .unset, .unset] [(.int (65537 : Int32)), (.int (20 : Int32)), (.ref o2), (.ref o2)]))
  obtain ⟨T120, h120, X120, e120, W120, F120a, st120⟩ := own_stI (pc := 122) (L := #[.val (.int p0), .val (.int p1), .val (.int p2), .val (.int p3), .unset, .unset, .unset, .unset, .unset, .unset, .unset, .unset]) (rest := [(.ref o2)]) X118 hx hZ e118 F118a (j := (20 : Int32)) (x := (65537 : Int32)) (by decide) (by decide) (hb hby lw_d122)
  have N120 := Fr.snoc X120 N118 ge77
  have F121 : n0 ≤ h120.size := Nat.le_trans F119 (Keep.of_wr W120).1
  refine own_st st120 ?_
  show own_Dn p e below s _ _ _ (T120.setTop (mkF m 123 #[.val (.int p0), .val (.int p1), .val (.int p2), .val (.int p3), .unset, .unset, .unset, .unset, .unset, .unset, .unset, .unset] [(.ref o2)]))
  refine own_st (fun _ k => XS.dup X120.here hx rfl (hb hby lw_d123) rfl rfl (XS.bipush X120.here hx rfl (hb hby lw_d124) (X120.ldcInt hx (index := 9) (v := (104729 : Int32)) hown (mvT hZ (hw _ (List.mem_of_getElem? (i := 3) rfl))) (g := (mkF m 126 #[.val (.int p0), .val (.int p1), .val (.int p2), .val (.int p3), .unset, .unset, .unset, .unset, .unset, .unset, .unset, .unset] [(.int (21 : Int32)), (.ref o2), (.ref o2)])) rfl (hb hby lw_d126) _ k))) ?_
  show own_Dn p e below s _ _ _ (T120.setTop (mkF m 128 #[.val (.int p0), .val (.int p1), .val (.int p2), .val (.int p3), .unset, .unset, .unset, .unset, .unset, .unset, .unset, .unset] [(.int (104729 : Int32)), (.int (21 : Int32)), (.ref o2), (.ref o2)]))
  obtain ⟨T122, h122, X122, e122, W122, F122a, st122⟩ := own_stI (pc := 128) (L := #[.val (.int p0), .val (.int p1), .val (.int p2), .val (.int p3), .unset, .unset, .unset, .unset, .unset, .unset, .unset, .unset]) (rest := [(.ref o2)]) X120 hx hZ e120 F120a (j := (21 : Int32)) (x := (104729 : Int32)) (by decide) (by decide) (hb hby lw_d128)
  have N122 := Fr.snoc X122 N120 ge77
  have F123 : n0 ≤ h122.size := Nat.le_trans F121 (Keep.of_wr W122).1
  refine own_st st122 ?_
  show own_Dn p e below s _ _ _ (T122.setTop (mkF m 129 #[.val (.int p0), .val (.int p1), .val (.int p2), .val (.int p3), .unset, .unset, .unset, .unset, .unset, .unset, .unset, .unset] [(.ref o2)]))
  refine own_st (fun _ k => XS.dup X122.here hx rfl (hb hby lw_d129) rfl rfl (XS.bipush X122.here hx rfl (hb hby lw_d130) (X122.ldcInt hx (index := 10) (v := (998244353 : Int32)) hown (mvT hZ (hw _ (List.mem_of_getElem? (i := 4) rfl))) (g := (mkF m 132 #[.val (.int p0), .val (.int p1), .val (.int p2), .val (.int p3), .unset, .unset, .unset, .unset, .unset, .unset, .unset, .unset] [(.int (22 : Int32)), (.ref o2), (.ref o2)])) rfl (hb hby lw_d132) _ k))) ?_
  show own_Dn p e below s _ _ _ (T122.setTop (mkF m 134 #[.val (.int p0), .val (.int p1), .val (.int p2), .val (.int p3), .unset, .unset, .unset, .unset, .unset, .unset, .unset, .unset] [(.int (998244353 : Int32)), (.int (22 : Int32)), (.ref o2), (.ref o2)]))
  obtain ⟨T124, h124, X124, e124, W124, F124a, st124⟩ := own_stI (pc := 134) (L := #[.val (.int p0), .val (.int p1), .val (.int p2), .val (.int p3), .unset, .unset, .unset, .unset, .unset, .unset, .unset, .unset]) (rest := [(.ref o2)]) X122 hx hZ e122 F122a (j := (22 : Int32)) (x := (998244353 : Int32)) (by decide) (by decide) (hb hby lw_d134)
  have N124 := Fr.snoc X124 N122 ge77
  have F125 : n0 ≤ h124.size := Nat.le_trans F123 (Keep.of_wr W124).1
  refine own_st st124 ?_
  show own_Dn p e below s _ _ _ (T124.setTop (mkF m 135 #[.val (.int p0), .val (.int p1), .val (.int p2), .val (.int p3), .unset, .unset, .unset, .unset, .unset, .unset, .unset, .unset] [(.ref o2)]))
  refine own_st (fun _ k => XS.dup X124.here hx rfl (hb hby lw_d135) rfl rfl (XS.bipush X124.here hx rfl (hb hby lw_d136) (X124.ldcInt hx (index := 11) (v := (1000000007 : Int32)) hown (mvT hZ (hw _ (List.mem_of_getElem? (i := 5) rfl))) (g := (mkF m 138 #[.val (.int p0), .val (.int p1), .val (.int p2), .val (.int p3), .unset, .unset, .unset, .unset, .unset, .unset, .unset, .unset] [(.int (23 : Int32)), (.ref o2), (.ref o2)])) rfl (hb hby lw_d138) _ k))) ?_
  show own_Dn p e below s _ _ _ (T124.setTop (mkF m 140 #[.val (.int p0), .val (.int p1), .val (.int p2), .val (.int p3), .unset, .unset, .unset, .unset, .unset, .unset, .unset, .unset] [(.int (1000000007 : Int32)), (.int (23 : Int32)), (.ref o2), (.ref o2)]))
  obtain ⟨T126, h126, X126, e126, W126, F126a, st126⟩ := own_stI (pc := 140) (L := #[.val (.int p0), .val (.int p1), .val (.int p2), .val (.int p3), .unset, .unset, .unset, .unset, .unset, .unset, .unset, .unset]) (rest := [(.ref o2)]) X124 hx hZ e124 F124a (j := (23 : Int32)) (x := (1000000007 : Int32)) (by decide) (by decide) (hb hby lw_d140)
  have N126 := Fr.snoc X126 N124 ge77
  have F127 : n0 ≤ h126.size := Nat.le_trans F125 (Keep.of_wr W126).1
  refine own_st st126 ?_
  show own_Dn p e below s _ _ _ (T126.setTop (mkF m 141 #[.val (.int p0), .val (.int p1), .val (.int p2), .val (.int p3), .unset, .unset, .unset, .unset, .unset, .unset, .unset, .unset] [(.ref o2)]))
  refine own_st (fun _ k => XS.dup X126.here hx rfl (hb hby lw_d141) rfl rfl (XS.bipush X126.here hx rfl (hb hby lw_d142) (X126.ldcInt hx (index := 12) (v := (2147483399 : Int32)) hown (mvT hZ (hw _ (List.mem_of_getElem? (i := 6) rfl))) (g := (mkF m 144 #[.val (.int p0), .val (.int p1), .val (.int p2), .val (.int p3), .unset, .unset, .unset, .unset, .unset, .unset, .unset, .unset] [(.int (24 : Int32)), (.ref o2), (.ref o2)])) rfl (hb hby lw_d144) _ k))) ?_
  show own_Dn p e below s _ _ _ (T126.setTop (mkF m 146 #[.val (.int p0), .val (.int p1), .val (.int p2), .val (.int p3), .unset, .unset, .unset, .unset, .unset, .unset, .unset, .unset] [(.int (2147483399 : Int32)), (.int (24 : Int32)), (.ref o2), (.ref o2)]))
  obtain ⟨T128, h128, X128, e128, W128, F128a, st128⟩ := own_stI (pc := 146) (L := #[.val (.int p0), .val (.int p1), .val (.int p2), .val (.int p3), .unset, .unset, .unset, .unset, .unset, .unset, .unset, .unset]) (rest := [(.ref o2)]) X126 hx hZ e126 F126a (j := (24 : Int32)) (x := (2147483399 : Int32)) (by decide) (by decide) (hb hby lw_d146)
  have N128 := Fr.snoc X128 N126 ge77
  have F129 : n0 ≤ h128.size := Nat.le_trans F127 (Keep.of_wr W128).1
  refine own_st st128 ?_
  show own_Dn p e below s _ _ _ (T128.setTop (mkF m 147 #[.val (.int p0), .val (.int p1), .val (.int p2), .val (.int p3), .unset, .unset, .unset, .unset, .unset, .unset, .unset, .unset] [(.ref o2)]))
  refine own_st (fun _ k => XS.dup X128.here hx rfl (hb hby lw_d147) rfl rfl (XS.bipush X128.here hx rfl (hb hby lw_d148) (X128.ldcInt hx (index := 13) (v := (2147483563 : Int32)) hown (mvT hZ (hw _ (List.mem_of_getElem? (i := 7) rfl))) (g := (mkF m 150 #[.val (.int p0), .val (.int p1), .val (.int p2), .val (.int p3), .unset, .unset, .unset, .unset, .unset, .unset, .unset, .unset] [(.int (25 : Int32)), (.ref o2), (.ref o2)])) rfl (hb hby lw_d150) _ k))) ?_
  show own_Dn p e below s _ _ _ (T128.setTop (mkF m 152 #[.val (.int p0), .val (.int p1), .val (.int p2), .val (.int p3), .unset, .unset, .unset, .unset, .unset, .unset, .unset, .unset] [(.int (2147483563 : Int32)), (.int (25 : Int32)), (.ref o2), (.ref o2)]))
  obtain ⟨T130, h130, X130, e130, W130, F130a, st130⟩ := own_stI (pc := 152) (L := #[.val (.int p0), .val (.int p1), .val (.int p2), .val (.int p3), .unset, .unset, .unset, .unset, .unset, .unset, .unset, .unset]) (rest := [(.ref o2)]) X128 hx hZ e128 F128a (j := (25 : Int32)) (x := (2147483563 : Int32)) (by decide) (by decide) (hb hby lw_d152)
  have N130 := Fr.snoc X130 N128 ge77
  have F131 : n0 ≤ h130.size := Nat.le_trans F129 (Keep.of_wr W130).1
  refine own_st st130 ?_
  show own_Dn p e below s _ _ _ (T130.setTop (mkF m 153 #[.val (.int p0), .val (.int p1), .val (.int p2), .val (.int p3), .unset, .unset, .unset, .unset, .unset, .unset, .unset, .unset] [(.ref o2)]))
  refine own_st (fun _ k => XS.dup X130.here hx rfl (hb hby lw_d153) rfl rfl (XS.bipush X130.here hx rfl (hb hby lw_d154) (X130.ldcInt hx (index := 14) (v := (2147483647 : Int32)) hown (mvT hZ (hw _ (List.mem_of_getElem? (i := 8) rfl))) (g := (mkF m 156 #[.val (.int p0), .val (.int p1), .val (.int p2), .val (.int p3), .unset, .unset, .unset, .unset, .unset, .unset, .unset, .unset] [(.int (26 : Int32)), (.ref o2), (.ref o2)])) rfl (hb hby lw_d156) _ k))) ?_
  show own_Dn p e below s _ _ _ (T130.setTop (mkF m 158 #[.val (.int p0), .val (.int p1), .val (.int p2), .val (.int p3), .unset, .unset, .unset, .unset, .unset, .unset, .unset, .unset] [(.int (2147483647 : Int32)), (.int (26 : Int32)), (.ref o2), (.ref o2)]))
  obtain ⟨T132, h132, X132, e132, W132, F132a, st132⟩ := own_stI (pc := 158) (L := #[.val (.int p0), .val (.int p1), .val (.int p2), .val (.int p3), .unset, .unset, .unset, .unset, .unset, .unset, .unset, .unset]) (rest := [(.ref o2)]) X130 hx hZ e130 F130a (j := (26 : Int32)) (x := (2147483647 : Int32)) (by decide) (by decide) (hb hby lw_d158)
  have N132 := Fr.snoc X132 N130 ge77
  have F133 : n0 ≤ h132.size := Nat.le_trans F131 (Keep.of_wr W132).1
  refine own_st st132 ?_
  show own_Dn p e below s _ _ _ (T132.setTop (mkF m 159 #[.val (.int p0), .val (.int p1), .val (.int p2), .val (.int p3), .unset, .unset, .unset, .unset, .unset, .unset, .unset, .unset] [(.ref o2)]))
  refine own_st (fun _ k => XS.astore X132.here hx rfl (hb hby lw_d159) rfl rfl (l' := #[.val (.int p0), .val (.int p1), .val (.int p2), .val (.int p3), .val (.ref o2), .unset, .unset, .unset, .unset, .unset, .unset, .unset]) rfl (XS.aload X132.here hx rfl (hb hby lw_d161) rfl rfl (XS.iloadN X132.here hx rfl (hb hby lw_d163) rfl (X132.ldcInt hx (index := 14) (v := (2147483647 : Int32)) hown (mvT hZ (hw _ (List.mem_of_getElem? (i := 8) rfl))) (g := (mkF m 164 #[.val (.int p0), .val (.int p1), .val (.int p2), .val (.int p3), .val (.ref o2), .unset, .unset, .unset, .unset, .unset, .unset, .unset] [(.int p3), (.ref o2)])) rfl (hb hby lw_d164) _ (XS.iand X132.here hx rfl (hb hby lw_d166) rfl (XS.aload X132.here hx rfl (hb hby lw_d167) rfl rfl k)))))) ?_
  show own_Dn p e below s _ _ _ (T132.setTop (mkF m 169 #[.val (.int p0), .val (.int p1), .val (.int p2), .val (.int p3), .val (.ref o2), .unset, .unset, .unset, .unset, .unset, .unset, .unset] [(.ref o2), (.int (p3 &&& (2147483647 : Int32))), (.ref o2)]))
  refine own_st (own_len (pc := 169) (L := #[.val (.int p0), .val (.int p1), .val (.int p2), .val (.int p3), .val (.ref o2), .unset, .unset, .unset, .unset, .unset, .unset, .unset]) (rest := [(.int (p3 &&& (2147483647 : Int32))), (.ref o2)]) X132 hx hZ e132 F132a (z := (27 : Int32)) rfl (hb hby lw_d169)) ?_
  show own_Dn p e below s _ _ _ (T132.setTop (mkF m 170 #[.val (.int p0), .val (.int p1), .val (.int p2), .val (.int p3), .val (.ref o2), .unset, .unset, .unset, .unset, .unset, .unset, .unset] [(.int (27 : Int32)), (.int (p3 &&& (2147483647 : Int32))), (.ref o2)]))
  refine own_st (fun _ k => iremM X132 hx rfl (hb hby lw_d170) rfl (by decide) k) ?_
  show own_Dn p e below s _ _ _ (T132.setTop (mkF m 171 #[.val (.int p0), .val (.int p1), .val (.int p2), .val (.int p3), .val (.ref o2), .unset, .unset, .unset, .unset, .unset, .unset, .unset] [(.int ((p3 &&& (2147483647 : Int32)) % (27 : Int32))), (.ref o2)]))
  refine own_st (own_ldI (pc := 171) (L := #[.val (.int p0), .val (.int p1), .val (.int p2), .val (.int p3), .val (.ref o2), .unset, .unset, .unset, .unset, .unset, .unset, .unset]) (rest := []) X132 hx hZ e132 F132a (j := ((p3 &&& (2147483647 : Int32)) % (27 : Int32))) (own_b27 p3).1 (own_b27 p3).2 (hb hby lw_d171)) ?_
  show own_Dn p e below s _ _ _ (T132.setTop (mkF m 172 #[.val (.int p0), .val (.int p1), .val (.int p2), .val (.int p3), .val (.ref o2), .unset, .unset, .unset, .unset, .unset, .unset, .unset] [(.int ((own_upd (own_upd (own_upd (own_upd (own_upd (own_upd (own_upd (own_upd (own_upd (own_upd (own_upd (own_upd (own_upd (own_upd (own_upd (own_upd (own_upd (own_upd (own_upd (own_upd (own_upd (own_upd (own_upd (own_upd (own_upd (own_upd (own_upd (fun _ => (0 : Int32)) ((0 : Int32)).toNatClampNeg (2 : Int32)) ((1 : Int32)).toNatClampNeg (3 : Int32)) ((2 : Int32)).toNatClampNeg (5 : Int32)) ((3 : Int32)).toNatClampNeg (7 : Int32)) ((4 : Int32)).toNatClampNeg (11 : Int32)) ((5 : Int32)).toNatClampNeg (13 : Int32)) ((6 : Int32)).toNatClampNeg (17 : Int32)) ((7 : Int32)).toNatClampNeg (19 : Int32)) ((8 : Int32)).toNatClampNeg (23 : Int32)) ((9 : Int32)).toNatClampNeg (29 : Int32)) ((10 : Int32)).toNatClampNeg (31 : Int32)) ((11 : Int32)).toNatClampNeg (37 : Int32)) ((12 : Int32)).toNatClampNeg (41 : Int32)) ((13 : Int32)).toNatClampNeg (43 : Int32)) ((14 : Int32)).toNatClampNeg (47 : Int32)) ((15 : Int32)).toNatClampNeg (97 : Int32)) ((16 : Int32)).toNatClampNeg (101 : Int32)) ((17 : Int32)).toNatClampNeg (7919 : Int32)) ((18 : Int32)).toNatClampNeg (9973 : Int32)) ((19 : Int32)).toNatClampNeg (46337 : Int32)) ((20 : Int32)).toNatClampNeg (65537 : Int32)) ((21 : Int32)).toNatClampNeg (104729 : Int32)) ((22 : Int32)).toNatClampNeg (998244353 : Int32)) ((23 : Int32)).toNatClampNeg (1000000007 : Int32)) ((24 : Int32)).toNatClampNeg (2147483399 : Int32)) ((25 : Int32)).toNatClampNeg (2147483563 : Int32)) ((26 : Int32)).toNatClampNeg (2147483647 : Int32)) (((p3 &&& (2147483647 : Int32)) % (27 : Int32))).toNatClampNeg))]))
  refine own_st (fun _ k => XS.istore X132.here hx rfl (hb hby lw_d172) rfl (l' := #[.val (.int p0), .val (.int p1), .val (.int p2), .val (.int p3), .val (.ref o2), .val (.int ((own_upd (own_upd (own_upd (own_upd (own_upd (own_upd (own_upd (own_upd (own_upd (own_upd (own_upd (own_upd (own_upd (own_upd (own_upd (own_upd (own_upd (own_upd (own_upd (own_upd (own_upd (own_upd (own_upd (own_upd (own_upd (own_upd (own_upd (fun _ => (0 : Int32)) ((0 : Int32)).toNatClampNeg (2 : Int32)) ((1 : Int32)).toNatClampNeg (3 : Int32)) ((2 : Int32)).toNatClampNeg (5 : Int32)) ((3 : Int32)).toNatClampNeg (7 : Int32)) ((4 : Int32)).toNatClampNeg (11 : Int32)) ((5 : Int32)).toNatClampNeg (13 : Int32)) ((6 : Int32)).toNatClampNeg (17 : Int32)) ((7 : Int32)).toNatClampNeg (19 : Int32)) ((8 : Int32)).toNatClampNeg (23 : Int32)) ((9 : Int32)).toNatClampNeg (29 : Int32)) ((10 : Int32)).toNatClampNeg (31 : Int32)) ((11 : Int32)).toNatClampNeg (37 : Int32)) ((12 : Int32)).toNatClampNeg (41 : Int32)) ((13 : Int32)).toNatClampNeg (43 : Int32)) ((14 : Int32)).toNatClampNeg (47 : Int32)) ((15 : Int32)).toNatClampNeg (97 : Int32)) ((16 : Int32)).toNatClampNeg (101 : Int32)) ((17 : Int32)).toNatClampNeg (7919 : Int32)) ((18 : Int32)).toNatClampNeg (9973 : Int32)) ((19 : Int32)).toNatClampNeg (46337 : Int32)) ((20 : Int32)).toNatClampNeg (65537 : Int32)) ((21 : Int32)).toNatClampNeg (104729 : Int32)) ((22 : Int32)).toNatClampNeg (998244353 : Int32)) ((23 : Int32)).toNatClampNeg (1000000007 : Int32)) ((24 : Int32)).toNatClampNeg (2147483399 : Int32)) ((25 : Int32)).toNatClampNeg (2147483563 : Int32)) ((26 : Int32)).toNatClampNeg (2147483647 : Int32)) (((p3 &&& (2147483647 : Int32)) % (27 : Int32))).toNatClampNeg)), .unset, .unset, .unset, .unset, .unset, .unset]) rfl k) ?_
  show own_Dn p e below s _ _ _ (T132.setTop (mkF m 174 #[.val (.int p0), .val (.int p1), .val (.int p2), .val (.int p3), .val (.ref o2), .val (.int ((own_upd (own_upd (own_upd (own_upd (own_upd (own_upd (own_upd (own_upd (own_upd (own_upd (own_upd (own_upd (own_upd (own_upd (own_upd (own_upd (own_upd (own_upd (own_upd (own_upd (own_upd (own_upd (own_upd (own_upd (own_upd (own_upd (own_upd (fun _ => (0 : Int32)) ((0 : Int32)).toNatClampNeg (2 : Int32)) ((1 : Int32)).toNatClampNeg (3 : Int32)) ((2 : Int32)).toNatClampNeg (5 : Int32)) ((3 : Int32)).toNatClampNeg (7 : Int32)) ((4 : Int32)).toNatClampNeg (11 : Int32)) ((5 : Int32)).toNatClampNeg (13 : Int32)) ((6 : Int32)).toNatClampNeg (17 : Int32)) ((7 : Int32)).toNatClampNeg (19 : Int32)) ((8 : Int32)).toNatClampNeg (23 : Int32)) ((9 : Int32)).toNatClampNeg (29 : Int32)) ((10 : Int32)).toNatClampNeg (31 : Int32)) ((11 : Int32)).toNatClampNeg (37 : Int32)) ((12 : Int32)).toNatClampNeg (41 : Int32)) ((13 : Int32)).toNatClampNeg (43 : Int32)) ((14 : Int32)).toNatClampNeg (47 : Int32)) ((15 : Int32)).toNatClampNeg (97 : Int32)) ((16 : Int32)).toNatClampNeg (101 : Int32)) ((17 : Int32)).toNatClampNeg (7919 : Int32)) ((18 : Int32)).toNatClampNeg (9973 : Int32)) ((19 : Int32)).toNatClampNeg (46337 : Int32)) ((20 : Int32)).toNatClampNeg (65537 : Int32)) ((21 : Int32)).toNatClampNeg (104729 : Int32)) ((22 : Int32)).toNatClampNeg (998244353 : Int32)) ((23 : Int32)).toNatClampNeg (1000000007 : Int32)) ((24 : Int32)).toNatClampNeg (2147483399 : Int32)) ((25 : Int32)).toNatClampNeg (2147483563 : Int32)) ((26 : Int32)).toNatClampNeg (2147483647 : Int32)) (((p3 &&& (2147483647 : Int32)) % (27 : Int32))).toNatClampNeg)), .unset, .unset, .unset, .unset, .unset, .unset] []))
  exact lw_c174 C0 X132 e132 N132 (((own_upd (own_upd (own_upd (own_upd (own_upd (own_upd (own_upd (own_upd (own_upd (own_upd (own_upd (own_upd (own_upd (own_upd (own_upd (own_upd (own_upd (own_upd (own_upd (own_upd (own_upd (own_upd (own_upd (own_upd (own_upd (own_upd (own_upd (fun _ => (0 : Int32)) ((0 : Int32)).toNatClampNeg (2 : Int32)) ((1 : Int32)).toNatClampNeg (3 : Int32)) ((2 : Int32)).toNatClampNeg (5 : Int32)) ((3 : Int32)).toNatClampNeg (7 : Int32)) ((4 : Int32)).toNatClampNeg (11 : Int32)) ((5 : Int32)).toNatClampNeg (13 : Int32)) ((6 : Int32)).toNatClampNeg (17 : Int32)) ((7 : Int32)).toNatClampNeg (19 : Int32)) ((8 : Int32)).toNatClampNeg (23 : Int32)) ((9 : Int32)).toNatClampNeg (29 : Int32)) ((10 : Int32)).toNatClampNeg (31 : Int32)) ((11 : Int32)).toNatClampNeg (37 : Int32)) ((12 : Int32)).toNatClampNeg (41 : Int32)) ((13 : Int32)).toNatClampNeg (43 : Int32)) ((14 : Int32)).toNatClampNeg (47 : Int32)) ((15 : Int32)).toNatClampNeg (97 : Int32)) ((16 : Int32)).toNatClampNeg (101 : Int32)) ((17 : Int32)).toNatClampNeg (7919 : Int32)) ((18 : Int32)).toNatClampNeg (9973 : Int32)) ((19 : Int32)).toNatClampNeg (46337 : Int32)) ((20 : Int32)).toNatClampNeg (65537 : Int32)) ((21 : Int32)).toNatClampNeg (104729 : Int32)) ((22 : Int32)).toNatClampNeg (998244353 : Int32)) ((23 : Int32)).toNatClampNeg (1000000007 : Int32)) ((24 : Int32)).toNatClampNeg (2147483399 : Int32)) ((25 : Int32)).toNatClampNeg (2147483563 : Int32)) ((26 : Int32)).toNatClampNeg (2147483647 : Int32)) (((p3 &&& (2147483647 : Int32)) % (27 : Int32))).toNatClampNeg)) F133 ge77 (by rw [hr0, lw_f])
theorem lw_ef (m : MethodId) (p0 : Int32) (p1 : Int32) (p2 : Int32) (p3 : Int32) : entryFrame m #[(.int p0), (.int p1), (.int p2), (.int p3)] maxLocals = mkF m 0 #[.val (.int p0), .val (.int p1), .val (.int p2), .val (.int p3), .unset, .unset, .unset, .unset, .unset, .unset, .unset, .unset] [] := by first | (simp [entryFrame, mkF, argsToLocals, Value.category, maxLocals]; done) | rfl
theorem lw_rm (l : Launch) (Z : State) (a0 : Array Value) (hw : ∀ d ∈ tables_1, d.before a0 Z = true) (ws : List Jvm.Cond) (p0 : Int32) (p1 : Int32) (p2 : Int32) (p3 : Int32) (h0 : Heap) (n0 : Nat) (Z0 : n0 ≤ h0.size) :
    MetFree l x (head1 (Jvm.Cond.code x code maxLocals ret :: ws) room_1) (fun a U => a = #[(.int p0), (.int p1), (.int p2), (.int p3)] ∧ Z.Warmed39 U.vm ∧ U.heap = h0) (fun _ _ _ _ _ => True) (fun _ U o U' => ∃ v L, o = .returned v ∧ (own_QL (some (.int (lw_f p0 p1 p2 p3))) n0) v U'.heap L ∧ FrameEnd U o U' L room_1.cells room_1.slots) :=
  own_met hw (plainFor_of_name (by first | (simp [plainName, overriddenIn]; done) | decide +kernel)) (fun p e s m below meth c T0 C0 X0 e0 => own_st (fun _ k => castTop (lw_ef m p0 p1 p2 p3) k) (lw_c0 C0 X0 e0 (Fr.nil n0) Z0  rfl))
theorem own_comp26 (d : Int) : ∀ (k : Nat) (p0 v1 : Int32), own_inv k p0 v1 → d * d ≤ p0.toInt → p0.toInt % d = 0 → v1.toInt ≤ d → (d - v1.toInt) % 2 = 0 → ip_f26 k p0 v1 = 0 := by
  intro k
  induction k with
  | zero => intro p0 v1 h; exact absurd h (by intro q; simp only [own_inv] at q; omega)
  | succ k ih =>
    intro p0 v1 h h1 h2 h3 h4
    have h' := h
    obtain ⟨a, b, c, e⟩ := h
    obtain ⟨f1, f2⟩ := own_div (p0 := p0) b (by omega)
    have g : v1.toInt * v1.toInt ≤ p0.toInt := Int.le_trans (Int.mul_le_mul h3 h3 (by omega) (by omega)) h1
    have n1 : ¬ (p0 / v1) < v1 := by
      rw [Int32.lt_iff_toInt_lt, f1]
      have : v1.toInt ≤ p0.toInt / v1.toInt := by rw [Int.le_ediv_iff_mul_le (by omega)]; exact g
      omega
    rw [ip_f26, if_neg n1]
    split
    · rfl
    · rename_i n2
      have s := own_step h' n1
      have ne : v1.toInt ≠ d := by
        intro q
        apply n2
        rw [← Int32.toInt_inj, f2, q, h2]; rfl
      have e2 := c_iadd v1 2
      have r2 := rng32 (v1 + 2)
      have r1 := rng32 p0
      have t := own_small b (by omega)
      simp only [Int32.reduceToInt] at e2
      exact ih p0 (v1 + 2) s h1 h2 (by omega) (by omega)
theorem own_prime26 : ∀ (k : Nat) (p0 v1 : Int32), own_inv k p0 v1 → (∀ i : Int, v1.toInt ≤ i → (i - v1.toInt) % 2 = 0 → i * i ≤ p0.toInt → p0.toInt % i ≠ 0) → ip_f26 k p0 v1 = 1 := by
  intro k
  induction k with
  | zero => intro p0 v1 h; exact absurd h (by intro q; simp only [own_inv] at q; omega)
  | succ k ih =>
    intro p0 v1 h h1
    have h' := h
    obtain ⟨a, b, c, e⟩ := h
    obtain ⟨f1, f2⟩ := own_div (p0 := p0) b (by omega)
    rw [ip_f26]
    split
    · rfl
    · rename_i n1
      have s := own_step h' n1
      rw [Int32.lt_iff_toInt_lt, f1] at n1
      have g := own_sq b n1
      have n2 : ¬ (p0 % v1) = 0 := by
        rw [← Int32.toInt_inj, f2]
        exact h1 v1.toInt (by omega) (by omega) g
      rw [if_neg n2]
      have e2 := c_iadd v1 2
      have r2 := rng32 (v1 + 2)
      have r1 := rng32 p0
      have t := own_small b (by omega)
      simp only [Int32.reduceToInt] at e2
      exact ih p0 (v1 + 2) s (fun i x1 x2 x3 => h1 i (by omega) (by omega) x3)
def own_chk (N : Nat) : Nat → Nat → Bool
  | 0, i => N % i != 0
  | d + 1, i => own_chk N d i && own_chk N d (i + 2 ^ (d + 1))
theorem own_chk_spec (N : Nat) : ∀ (d i : Nat), own_chk N d i = true → ∀ j, j < 2 ^ d → N % (i + 2 * j) ≠ 0 := by
  intro d
  induction d with
  | zero =>
    intro i h j hj
    have : j = 0 := by omega
    subst this
    simpa [own_chk] using h
  | succ d ih =>
    intro i h j hj
    simp only [own_chk, Bool.and_eq_true] at h
    by_cases q : j < 2 ^ d
    · exact ih i h.1 j q
    · have h2 := ih _ h.2 (j - 2 ^ d) (by have := Nat.pow_succ 2 d; omega)
      have : i + 2 ^ (d + 1) + 2 * (j - 2 ^ d) = i + 2 * j := by have := Nat.pow_succ 2 d; omega
      rwa [this] at h2
theorem own_p (N : Nat) (d : Nat) (p0 : Int32) (hp : p0.toInt = N) (h5 : 5 ≤ N) (hodd : N % 2 = 1) (hs : N < (3 + 2 * 2 ^ d) * (3 + 2 * 2 ^ d)) (hc : own_chk N d 3 = true) : ip_f p0 = 1 := by
  have r := rng32 p0
  have c4 : ¬ p0 < (4 : Int32) := by rw [Int32.lt_iff_toInt_lt]; simp only [Int32.reduceToInt]; omega
  have e := (c_irem p0 2 2 (by decide)).1 (by omega)
  have c2 : ¬ (p0 % (2 : Int32)) = 0 := by rw [← Int32.toInt_inj]; simp only [Int32.reduceToInt]; omega
  rw [ip_f, if_neg c4, if_neg c2]
  refine own_prime26 _ _ _ (own_enter c4) (fun i h1 h2 h3 => ?_)
  simp only [Int32.reduceToInt] at h1 h2
  have ij : ∃ j : Nat, i = 3 + 2 * (j : Int) := ⟨((i - 3) / 2).toNat, by omega⟩
  obtain ⟨j, rfl⟩ := ij
  have hj : j < 2 ^ d := by
    rcases Nat.lt_or_ge j (2 ^ d) with q | q
    · exact q
    · exfalso
      have m1 : (3 + 2 * 2 ^ d) * (3 + 2 * 2 ^ d) ≤ (3 + 2 * j) * (3 + 2 * j) := Nat.mul_le_mul (by omega) (by omega)
      have m2 : ((3 + 2 * j) * (3 + 2 * j) : Int) ≤ (N : Int) := by rw [← hp]; exact h3
      have m3 : (3 + 2 * j) * (3 + 2 * j) ≤ N := by exact_mod_cast m2
      omega
  have := own_chk_spec N d 3 hc j hj
  rw [hp]
  intro q
  apply this
  exact_mod_cast q
theorem own_comp (p0 : Int32) (x y : Int) (hx : 2 ≤ x) (hy : 2 ≤ y) (hp : p0.toInt = x * y) : ip_f p0 = 0 := by
  have r := rng32 p0
  have h4 : 4 ≤ p0.toInt := by
    rw [hp]
    have : 2 * 2 ≤ x * y := Int.mul_le_mul hx hy (by omega) (by omega)
    omega
  have c4 : ¬ p0 < (4 : Int32) := by rw [Int32.lt_iff_toInt_lt]; simp only [Int32.reduceToInt]; omega
  have e := (c_irem p0 2 2 (by decide)).1 (by omega)
  rw [ip_f, if_neg c4]
  split
  · rfl
  · rename_i c2
    have odd : (x * y) % 2 = 1 := by
      have : ¬ (p0 % (2 : Int32)).toInt = 0 := fun q => c2 (Int32.toInt_inj.mp (by rw [q]; rfl))
      rw [e, hp] at this
      omega
    have ox : x % 2 = 1 := by
      rcases Int.emod_two_eq x with q | q
      · rw [Int.mul_emod, q] at odd; simp at odd
      · exact q
    have oy : y % 2 = 1 := by
      rcases Int.emod_two_eq y with q | q
      · rw [Int.mul_emod, q] at odd; simp at odd
      · exact q
    have k3 : (3 : Int32).toInt = 3 := by decide
    rcases Int.le_total x y with q | q
    · refine own_comp26 x _ _ _ (own_enter c4) ?_ ?_ (by omega) (by omega)
      · rw [hp]; exact Int.mul_le_mul_of_nonneg_left q (by omega)
      · rw [hp]; exact Int.mul_emod_right x y
    · refine own_comp26 y _ _ _ (own_enter c4) ?_ ?_ (by omega) (by omega)
      · rw [hp]; exact Int.mul_le_mul_of_nonneg_right q (by omega)
      · rw [hp]; exact Int.mul_emod_left x y
theorem own_l174 (p0 p1 p2 p3 v5 : Int32) (h : ip_f v5 = 1) : lw_f174 p0 p1 p2 p3 v5 = 1 := by
  have ex := own_x p1
  simp only [lw_f174]
  generalize hX : ((2 : Int32) + ((p1 &&& (2147483647 : Int32)) % (46339 : Int32))) = X at ex ⊢
  have em := own_m X (by omega)
  generalize hM : (((2147483647 : Int32) / X) - (1 : Int32)) = M at em ⊢
  have e1 := c_mask p2 2147483647 31 (by decide) (by decide)
  have e2 := (c_irem (p2 &&& 2147483647) M M.toInt rfl).1 (by omega)
  have e3 := c_iadd 2 ((p2 &&& (2147483647 : Int32)) % M)
  have r3 := rng32 ((2 : Int32) + ((p2 &&& (2147483647 : Int32)) % M))
  have rM := rng32 M
  simp only [Int32.reduceToInt] at e3
  have b1 := Int.emod_nonneg (p2 &&& (2147483647 : Int32)).toInt (show M.toInt ≠ 0 by omega)
  have b2 := Int.emod_lt_of_pos (p2 &&& (2147483647 : Int32)).toInt (show 0 < M.toInt by omega)
  generalize hY : ((2 : Int32) + ((p2 &&& (2147483647 : Int32)) % M)) = Y at e3 r3 ⊢
  have yb : 2 ≤ Y.toInt ∧ Y.toInt ≤ 2147483647 / X.toInt := by omega
  have xy : X.toInt * Y.toInt ≤ 2147483647 := by
    have h1 : X.toInt * Y.toInt ≤ X.toInt * (2147483647 / X.toInt) := Int.mul_le_mul_of_nonneg_left yb.2 (by omega)
    have h2 : X.toInt * (2147483647 / X.toInt) ≤ 2147483647 := Int.mul_ediv_self_le (by omega)
    omega
  have xy0 : 4 ≤ X.toInt * Y.toInt := by
    have : 2 * 2 ≤ X.toInt * Y.toInt := Int.mul_le_mul (by omega) yb.1 (by omega) (by omega)
    omega
  have em2 := c_imul X Y
  have rm2 := rng32 (X * Y)
  have hxy : (X * Y).toInt = X.toInt * Y.toInt := by
    generalize X.toInt * Y.toInt = z at *
    omega
  have c0 := own_comp (X * Y) X.toInt Y.toInt (by omega) yb.1 hxy
  have ipl : p0 < (2 : Int32) → ip_f p0 = 0 := fun q => by
    rw [ip_f, if_pos (by rw [Int32.lt_iff_toInt_lt] at q ⊢; simp only [Int32.reduceToInt] at q ⊢; omega), if_pos q]
  have ip2 : p0 = 2 → ip_f p0 = 1 := by rintro rfl; decide
  have ip3 : p0 = 3 → ip_f p0 = 1 := by rintro rfl; decide
  have ipe : ¬ p0 < (2 : Int32) → ¬ p0 = 2 → (p0 % (2 : Int32)) = 0 → ip_f p0 = 0 := fun q1 q2 q3 => by
    have n3 : ¬ p0 = 3 := by rintro rfl; exact absurd q3 (by decide)
    have c4 : ¬ p0 < (4 : Int32) := by
      rw [Int32.lt_iff_toInt_lt] at q1 ⊢
      have a2 : p0.toInt ≠ 2 := fun z => q2 (Int32.toInt_inj.mp (by rw [z]; decide))
      have a3 : p0.toInt ≠ 3 := fun z => n3 (Int32.toInt_inj.mp (by rw [z]; decide))
      simp only [Int32.reduceToInt] at q1 ⊢
      omega
    rw [ip_f, if_neg c4, if_pos q3]
  have one : ¬ (1 : Int32) = 0 := by decide
  simp only [lw_f205, lw_f272, c0, h, if_true, one, if_false]
  by_cases a : p0 < (2 : Int32)
  · simp only [a, ipl a, if_true, one, if_false]
  · by_cases b : p0 = 2
    · simp only [a, b, ip2 b, if_true, one, if_false]
      subst b; decide
    · by_cases c : p0 = 3
      · subst c; decide
      · by_cases d : (p0 % (2 : Int32)) = 0
        · simp only [a, b, c, d, ipe a b d, if_true, one, if_false]
        · simp only [a, b, c, d, if_true, one, if_false]
theorem own_p0 : ip_f (2 : Int32) = 1 := by decide
theorem own_p1 : ip_f (3 : Int32) = 1 := by decide
theorem own_p2 : ip_f (5 : Int32) = 1 := own_p 5 0 _ (by decide) (by decide) (by decide) (by decide) (by decide +kernel)
theorem own_p3 : ip_f (7 : Int32) = 1 := own_p 7 0 _ (by decide) (by decide) (by decide) (by decide) (by decide +kernel)
theorem own_p4 : ip_f (11 : Int32) = 1 := own_p 11 0 _ (by decide) (by decide) (by decide) (by decide) (by decide +kernel)
theorem own_p5 : ip_f (13 : Int32) = 1 := own_p 13 0 _ (by decide) (by decide) (by decide) (by decide) (by decide +kernel)
theorem own_p6 : ip_f (17 : Int32) = 1 := own_p 17 0 _ (by decide) (by decide) (by decide) (by decide) (by decide +kernel)
theorem own_p7 : ip_f (19 : Int32) = 1 := own_p 19 0 _ (by decide) (by decide) (by decide) (by decide) (by decide +kernel)
theorem own_p8 : ip_f (23 : Int32) = 1 := own_p 23 0 _ (by decide) (by decide) (by decide) (by decide) (by decide +kernel)
theorem own_p9 : ip_f (29 : Int32) = 1 := own_p 29 1 _ (by decide) (by decide) (by decide) (by decide) (by decide +kernel)
theorem own_p10 : ip_f (31 : Int32) = 1 := own_p 31 1 _ (by decide) (by decide) (by decide) (by decide) (by decide +kernel)
theorem own_p11 : ip_f (37 : Int32) = 1 := own_p 37 1 _ (by decide) (by decide) (by decide) (by decide) (by decide +kernel)
theorem own_p12 : ip_f (41 : Int32) = 1 := own_p 41 1 _ (by decide) (by decide) (by decide) (by decide) (by decide +kernel)
theorem own_p13 : ip_f (43 : Int32) = 1 := own_p 43 1 _ (by decide) (by decide) (by decide) (by decide) (by decide +kernel)
theorem own_p14 : ip_f (47 : Int32) = 1 := own_p 47 1 _ (by decide) (by decide) (by decide) (by decide) (by decide +kernel)
theorem own_p15 : ip_f (97 : Int32) = 1 := own_p 97 2 _ (by decide) (by decide) (by decide) (by decide) (by decide +kernel)
theorem own_p16 : ip_f (101 : Int32) = 1 := own_p 101 2 _ (by decide) (by decide) (by decide) (by decide) (by decide +kernel)
theorem own_p17 : ip_f (7919 : Int32) = 1 := own_p 7919 6 _ (by decide) (by decide) (by decide) (by decide) (by decide +kernel)
theorem own_p18 : ip_f (9973 : Int32) = 1 := own_p 9973 6 _ (by decide) (by decide) (by decide) (by decide) (by decide +kernel)
theorem own_p19 : ip_f (46337 : Int32) = 1 := own_p 46337 7 _ (by decide) (by decide) (by decide) (by decide) (by decide +kernel)
theorem own_p20 : ip_f (65537 : Int32) = 1 := own_p 65537 7 _ (by decide) (by decide) (by decide) (by decide) (by decide +kernel)
theorem own_p21 : ip_f (104729 : Int32) = 1 := own_p 104729 8 _ (by decide) (by decide) (by decide) (by decide) (by decide +kernel)
theorem own_p22 : ip_f (998244353 : Int32) = 1 := own_p 998244353 14 _ (by decide) (by decide) (by decide) (by decide) (by decide +kernel)
theorem own_p23 : ip_f (1000000007 : Int32) = 1 := own_p 1000000007 14 _ (by decide) (by decide) (by decide) (by decide) (by decide +kernel)
theorem own_p24 : ip_f (2147483399 : Int32) = 1 := own_p 2147483399 15 _ (by decide) (by decide) (by decide) (by decide) (by decide +kernel)
theorem own_p25 : ip_f (2147483563 : Int32) = 1 := own_p 2147483563 15 _ (by decide) (by decide) (by decide) (by decide) (by decide +kernel)
theorem own_p26 : ip_f (2147483647 : Int32) = 1 := own_p 2147483647 15 _ (by decide) (by decide) (by decide) (by decide) (by decide +kernel)
theorem own_law (p0 p1 p2 p3 : Int32) : lw_f p0 p1 p2 p3 = 1 := by
  have hi := (own_b27 p3).2
  simp only [lw_f]
  generalize ((p3 &&& (2147483647 : Int32)) % (27 : Int32)).toNatClampNeg = i at hi ⊢
  apply own_l174
  match i, hi with
  | 0, _ => exact own_p0
  | 1, _ => exact own_p1
  | 2, _ => exact own_p2
  | 3, _ => exact own_p3
  | 4, _ => exact own_p4
  | 5, _ => exact own_p5
  | 6, _ => exact own_p6
  | 7, _ => exact own_p7
  | 8, _ => exact own_p8
  | 9, _ => exact own_p9
  | 10, _ => exact own_p10
  | 11, _ => exact own_p11
  | 12, _ => exact own_p12
  | 13, _ => exact own_p13
  | 14, _ => exact own_p14
  | 15, _ => exact own_p15
  | 16, _ => exact own_p16
  | 17, _ => exact own_p17
  | 18, _ => exact own_p18
  | 19, _ => exact own_p19
  | 20, _ => exact own_p20
  | 21, _ => exact own_p21
  | 22, _ => exact own_p22
  | 23, _ => exact own_p23
  | 24, _ => exact own_p24
  | 25, _ => exact own_p25
  | 26, _ => exact own_p26
  | n + 27, h => exact absurd h (by omega)

set_option maxRecDepth 65536 in
set_option maxHeartbeats 40000000 in
theorem comes_1 {Post : Tables → Env → Array Value → State → Outcome → State → Prop} (hpost : ∀ tb e args s v u, (limb_1_1.after args s (.returned v) u = true ∧ limb_1_2.after args s (.returned v) u = true ∧ True) → FrameEnd s (.returned v) u (Jvm.fieldLocs frame_1_writes args s ++ Jvm.arrayLocs frame_1_arrays args s ++ Jvm.staticLocs frame_1_statics s) 16 128 → Post tb e args s (.returned v) u) :
    ArmFor flags0 classFile x code maxLocals ret World_1 tables_1 room_1 Calls_1 rest_1 Pre_1 Post := by
  intro l hfl _ _ p e ha hc hk s m args below hf hA hF happ hP
  obtain ⟨hcalls, hrest, hpre⟩ := hP
  obtain ⟨-, -, -, hnamed, -, -, -, hat⟩ := (Spec.applies_iff hf).mp happ
  obtain ⟨hg, hn⟩ := and_e (Cond.before_iff.mp (show (Jvm.Cond.and given_1 narrow_1).before args s = true from hpre))
  obtain ⟨gc, hg0⟩ := and_e hg
  obtain ⟨g0, hg1⟩ := and_e hg0
  obtain ⟨g1, hg2⟩ := and_e hg1
  obtain ⟨g2, g3⟩ := and_e hg2
  obtain ⟨w0, w1, w2, w3, rfl⟩ : ∃ w0 w1 w2 w3 : Value, args = #[w0, w1, w2, w3] := by
    have hs : args.size = 4 := by simpa [Cond.value, given_1] using gc
    obtain ⟨L⟩ := args
    match L, hs with
    | [w0, w1, w2, w3], _ => exact ⟨w0, w1, w2, w3, rfl⟩
  have hw := fun d (hd : d ∈ tables_1) => atoms_spec (ws := Jvm.Cond.code x code maxLocals ret :: tables_1) hat d (List.mem_cons_of_mem _ hd)
  have hfit : Fit s := fun {y c} hc i hi => by
    obtain ⟨ha, rfl⟩ := Array.getElem?_eq_some_iff.mp hc
    have q := List.all_eq_true.mp ((Array.all_eq_true_iff_forall_mem.mp hF) _ (Array.getElem_mem ha)) i (List.mem_range.mpr hi)
    simpa [Array.getElem?_eq_getElem hi] using q
  obtain ⟨i0, ei0⟩ := is_v g0
  obtain rfl : w0 = (.int i0) := Option.some.inj ei0
  obtain ⟨i1, ei1⟩ := is_v g1
  obtain rfl : w1 = (.int i1) := Option.some.inj ei1
  obtain ⟨i2, ei2⟩ := is_v g2
  obtain rfl : w2 = (.int i2) := Option.some.inj ei2
  obtain ⟨i3, ei3⟩ := is_v g3
  obtain rfl : w3 = (.int i3) := Option.some.inj ei3
  obtain ⟨n, o, h1, h2, h3, _, L, rfl, ⟨rfl, N⟩, hq⟩ := lw_rm l s _ hw tables_1 i0 i1 i2 i3  s.heap s.heap.size (Nat.le_refl _) p e ha hc hk s m _ below hf ((Spec.applies_iff_loose hf).mp happ).1 ⟨rfl, State.Warmed39.refl s, rfl⟩ trivial
  refine ⟨n, _, h1, h2, h3, hpost _ _ _ _ _ _ ⟨Cond.after_iff.mpr rfl, Cond.after_iff.mpr (eq_i res_at (Term.int_eval (1)) (by rw [own_law])), trivial⟩ ⟨hq.1, hq.2.1, (hq.2.2.sift fun y hy => Or.inr (N y hy)).mono (by decide) (by decide)⟩⟩
theorem main_1_1 : Claimed_1_1 := comes_1 fun _ _ _ _ _ _ h hF => ⟨h.1, hF⟩
theorem main_1_2 : Claimed_1_2 := comes_1 fun _ _ _ _ _ _ h hF => ⟨h.2.1, hF⟩
end Jvm.Pilot.@@N@@
namespace Jvm.Pilot.@@N@@
open Jvm Jvm.ClassFile Sem Op Lib Jvm.Free Jvm.Stand Jvm.Pilot.@@N@@.Jvm.D
/-! MADE BY PROGRAM (witnessworld.py) out of the Statement's table words and the real class files: 9 classes; the members and pool entries that the words name. The judged class is class 1, her method 1. -/
namespace start1
open Jvm.ClassFile
def u (s : String) : CpInfo := .utf8 (stringToUtf16 s)
/-- a pool by its gaps: so many unusable entries, then the entry; so many at the end -/
def gap : Nat → List CpInfo → List CpInfo
  | 0, r => r
  | n + 1, r => .unusable :: gap n r
def poolList (es : List (Nat × CpInfo)) (last : Nat) : List CpInfo := es.foldr (fun e r => gap e.1 (e.2 :: r)) (gap last [])
def pool (es : List (Nat × CpInfo)) (last : Nat) : Array CpInfo := ⟨poolList es last⟩
def fileOf (pool : Array CpInfo) (this : Nat) (attrs : Array Attribute := #[]) (ms : Array MethodInfo := #[]) (fl : Nat := 33) (sup : Nat := 0) (ifs : Array Nat := #[]) (fds : Array FieldInfo := #[]) : ClassFile where
  minorVersion := 0
  majorVersion := 65
  constantPool := pool
  accessFlags := fl
  thisClass := this
  superClass := sup
  interfaces := ifs
  fields := fds
  methods := ms
  attributes := attrs
def plain (name : String) (sup : Option ClassId) : Class where
  name := name
  kind := .ordinary
  loader := none
  accessFlags := 33
  super := sup
  interfaces := #[]
  cf := none
  fields := #[]
  methods := #[]
  instanceTypes := #[]
  staticTypes := #[]
  resolved := #[]
  callSites := []
  init := .initialized
  statics := none
  mirror := none

def pool0 : Array CpInfo := pool [(5, u "<init>"), (0, u "()V"), (1, .class_ 10), (1, u "java/lang/Object")] 113

def k0m0 : Method := { name := "<init>", desc := "()V", sig := { parameters := [], returnType := none }, accessFlags := 1, code := none }
/-- java/lang/Object -/
def k0 : Class := { plain "java/lang/Object" none with
  accessFlags := 33
  interfaces := #[]
  cf := some (fileOf pool0 8 #[] #[{ accessFlags := 1, nameIndex := 5, descriptorIndex := 6, attributes := #[] }] 33 0 #[] #[])
  fields := #[]
  methods := #[k0m0]
  instanceTypes := #[]
  staticTypes := #[]
  resolved := Array.replicate 124 none
  statics := none }

def pool1 : Array CpInfo := pool [(2, .class_ 4), (1, u "java/lang/Object"), (0, u "<init>"), (0, u "()V"), (0, .integer 46337), (0, .integer 65537), (0, .integer 104729), (0, .integer 998244353), (0, .integer 1000000007), (0, .integer 2147483399), (0, .integer 2147483563), (0, .integer 2147483647), (0, .integer 46339), (2, .methodref 19 20), (0, .class_ 21), (0, .nameAndType 22 23), (0, u "com/example/hashloom/hashloom/Primes"), (0, u "isPrime"), (0, u "(I)Z"), (0, .class_ 25), (0, u "com/example/hashloom/hashloom/PrimesIsPrimePinLaw"), (2, u "law"), (0, u "(IIII)Z")] 5

def k1m0 : Method := { name := "<init>", desc := "()V", sig := { parameters := [], returnType := none }, accessFlags := 1, code := none }
def k1c1 : Code := { maxStack := 4, maxLocals := 12, code := code, exceptionTable := #[], attributes := #[] }
def k1m1 : Method := { name := "law", desc := "(IIII)Z", sig := { parameters := [.int, .int, .int, .int], returnType := some .boolean }, accessFlags := 9, code := some k1c1 }
/-- com/example/hashloom/hashloom/PrimesIsPrimePinLaw -/
def k1 : Class := { plain "com/example/hashloom/hashloom/PrimesIsPrimePinLaw" (some 0) with
  accessFlags := 49
  interfaces := #[]
  cf := some (fileOf pool1 24 #[] #[{ accessFlags := 1, nameIndex := 5, descriptorIndex := 6, attributes := #[] }, { accessFlags := 9, nameIndex := 28, descriptorIndex := 29, attributes := #[] }] 49 2 #[] #[])
  fields := #[]
  methods := #[k1m0, k1m1]
  instanceTypes := #[]
  staticTypes := #[]
  resolved := Array.replicate 35 none
  statics := none }

def pool2 : Array CpInfo := pool [(2, .class_ 4), (1, u "java/lang/Object"), (0, u "<init>"), (0, u "()V"), (0, .class_ 8), (0, u "com/example/hashloom/hashloom/Primes"), (2, u "isPrime"), (0, u "(I)Z")] 3

def k2m0 : Method := { name := "<init>", desc := "()V", sig := { parameters := [], returnType := none }, accessFlags := 2, code := none }
def k2c1 : Code := { maxStack := 3, maxLocals := 2, code := prog_106_method_2_code, exceptionTable := #[], attributes := #[] }
def k2m1 : Method := { name := "isPrime", desc := "(I)Z", sig := { parameters := [.int], returnType := some .boolean }, accessFlags := 8, code := some k2c1 }
/-- com/example/hashloom/hashloom/Primes -/
def k2 : Class := { plain "com/example/hashloom/hashloom/Primes" (some 0) with
  accessFlags := 48
  interfaces := #[]
  cf := some (fileOf pool2 7 #[] #[{ accessFlags := 2, nameIndex := 5, descriptorIndex := 6, attributes := #[] }, { accessFlags := 8, nameIndex := 11, descriptorIndex := 12, attributes := #[] }] 48 2 #[] #[])
  fields := #[]
  methods := #[k2m0, k2m1]
  instanceTypes := #[]
  staticTypes := #[]
  resolved := Array.replicate 16 none
  statics := none }

def pool3 : Array CpInfo := pool [(1, u "java/lang/Cloneable"), (0, .class_ 1), (0, u "java/lang/Object"), (0, .class_ 3)] 3

/-- java/lang/Cloneable -/
def k3 : Class := { plain "java/lang/Cloneable" (some 0) with
  accessFlags := 1537
  interfaces := #[]
  cf := some (fileOf pool3 2 #[] #[] 1537 4 #[] #[])
  fields := #[]
  methods := #[]
  instanceTypes := #[]
  staticTypes := #[]
  resolved := Array.replicate 8 none
  statics := none }

def pool4 : Array CpInfo := pool [(1, u "java/io/Serializable"), (0, .class_ 1), (0, u "java/lang/Object"), (0, .class_ 3)] 3

/-- java/io/Serializable -/
def k4 : Class := { plain "java/io/Serializable" (some 0) with
  accessFlags := 1537
  interfaces := #[]
  cf := some (fileOf pool4 2 #[] #[] 1537 4 #[] #[])
  fields := #[]
  methods := #[]
  instanceTypes := #[]
  staticTypes := #[]
  resolved := Array.replicate 8 none
  statics := none }

/-- the primitive byte -/
def k5 : Class := { plain "byte" none with kind := .primitive 'B', accessFlags := 0x411 }
/-- [B -/
def k6 : Class := { plain "[B" (some 0) with kind := .array 5 .byte, interfaces := #[3, 4], accessFlags := 1041 }

/-- the primitive int -/
def k7 : Class := { plain "int" none with kind := .primitive 'I', accessFlags := 0x411 }
/-- [I -/
def k8 : Class := { plain "[I" (some 0) with kind := .array 7 .int, interfaces := #[3, 4], accessFlags := 1041 }

def heap : Heap := #[]
def classes : Array Class := #[k0, k1, k2, k3, k4, k5, k6, k7, k8]
def interned : List (Array UInt16 × Addr) := []
def slotsUsed : Nat := 0
def theMethod : MethodId := ⟨1, 1⟩
def args0 : Array Value := #[.int 5, .int 9, .int 7, .int 3]
def aboutOver (below : List Frame) : State where
  vm := { classes := classes, interned := interned.toArray }
  heap := heap
  slotsUsed := slotsUsed
  threads := #[{ frames := .invoking theMethod args0 :: below }]
def below0 : List Frame := [.native { method := ⟨0, 0⟩, args := #[] }]
def about1 : State := aboutOver below0
def p0 : Program := .bare "" "" ""
def e0 : Env := launch0.env 0 0 0
theorem w_frames : about1.frames = Frame.invoking theMethod args0 :: below0 := rfl
set_option maxRecDepth 65536 in
theorem w_args : argsFit about1.vm theMethod args0 = true := by decide +kernel
set_option maxRecDepth 65536 in
theorem w_heap : heapFits about1 = true := by decide +kernel
set_option maxRecDepth 65536 in
theorem w_runnable : about1.curStatus? = some .runnable := by decide +kernel
set_option maxRecDepth 65536 in
theorem w_alone : about1.alone = true := by decide +kernel
set_option maxRecDepth 65536 in
theorem w_named : about1.methodNamed? x = some theMethod := by decide +kernel
set_option maxRecDepth 65536 in
theorem w_hears : about1.hears theMethod below0 = true := by decide +kernel
set_option maxRecDepth 65536 in
theorem w_ripe : about1.ripe theMethod args0 below0 = true := by decide +kernel
theorem w_running : about1.status = .running := rfl
set_option maxRecDepth 65536 in
theorem w_room : about1.hasRoom e0.platform room_1 = true :=
  launch0.hasRoom_least _ room_1 (by decide +kernel) (by decide +kernel) (by decide +kernel) (by decide +kernel) (by decide +kernel) (by decide +kernel)
theorem allAtoms_all (ts : List Jvm.Cond) (a : Array Jvm.Value) (st : Jvm.State) : (allAtoms ts).before a st = ts.all (fun c => c.before a st) := by
  induction ts with
  | nil => rfl
  | cons c t ih =>
    show (Jvm.Cond.and c (allAtoms t)).before a st = _
    rw [Jvm.Cond.before_and, ih, List.all_cons]
def words1 : List Jvm.Cond := Jvm.Cond.code x code maxLocals ret :: tables_1
/-- a 'code' word, met by the world's own term for the bytes: nothing is compared byte by byte -/
theorem code_word {y : MethodName} {bytes : ByteArray} {mx : Nat} {rt : Option FieldType} {a : Array Value} {s : State} {m : MethodId} {meth : Method} {c : Code} (h1 : s.methodNamed? y = some m) (h2 : s.vm.method? m = some meth) (h3 : meth.code = some c) (h4 : c.code = bytes)
    (h5 : (c.maxLocals == mx && c.exceptionTable.isEmpty && decide (c.maxStack ≤ mostOperands) && decide (meth.sig.returnType = rt) && !meth.locks && decide (parseMethodDescriptor y.desc = some meth.sig)) = true) : (Jvm.Cond.code y bytes mx rt).before a s = true := by
  simp only [Bool.and_eq_true, beq_iff_eq, Bool.not_eq_true', decide_eq_true_eq] at h5
  obtain ⟨⟨⟨⟨⟨g1, g2⟩, g3⟩, g4⟩, g5⟩, g6⟩ := h5
  simp [Cond.before, Cond.holds, Cond.value, h1, h2, h3, h4, g1, g2, g3, g4, g5, g6]
def isCode : Jvm.Cond → Bool
  | .code _ _ _ _ => true
  | _ => false
theorem all_split {L : List Jvm.Cond} {P : Jvm.Cond → Bool} (h1 : L.all (fun c => isCode c || P c) = true) (h2 : ∀ c ∈ L.filter isCode, P c = true) : L.all P = true := by
  refine List.all_eq_true.mpr fun c hc => ?_
  have h := List.all_eq_true.mp h1 c hc
  rcases Bool.eq_false_or_eq_true (isCode c) with hi | hi
  · exact h2 c (List.mem_filter.mpr ⟨hc, hi⟩)
  · simpa [hi] using h
set_option maxRecDepth 65536 in
theorem w_c0 : (Jvm.Cond.code x code maxLocals ret).before args0 about1 = true := code_word (m := ⟨1, 1⟩) (meth := k1m1) (c := k1c1) (by decide +kernel) rfl rfl rfl (by decide +kernel)
set_option maxRecDepth 65536 in
theorem w_c1 : (Jvm.Cond.code ({ cls := "com/example/hashloom/hashloom/Primes", name := "isPrime", desc := "(I)Z" } : Jvm.MethodName) prog_106_method_2_code (2 : Nat) (Option.some Jvm.ClassFile.FieldType.boolean)).before args0 about1 = true := code_word (m := ⟨2, 1⟩) (meth := k2m1) (c := k2c1) (by decide +kernel) rfl rfl rfl (by decide +kernel)
def codes1 : List Jvm.Cond := [Jvm.Cond.code x code maxLocals ret, Jvm.Cond.code ({ cls := "com/example/hashloom/hashloom/Primes", name := "isPrime", desc := "(I)Z" } : Jvm.MethodName) prog_106_method_2_code (2 : Nat) (Option.some Jvm.ClassFile.FieldType.boolean)]
set_option maxRecDepth 65536 in
theorem codes_eq : words1.filter isCode = codes1 := rfl
theorem w_codes : ∀ c ∈ words1.filter isCode, c.before args0 about1 = true := by
  rw [codes_eq]
  intro c hc
  simp only [codes1, List.mem_cons, List.not_mem_nil, or_false] at hc
  rcases hc with rfl | rfl
  · exact w_c0
  · exact w_c1
set_option maxRecDepth 65536 in
theorem w_t1 : words1.all (fun c => isCode c || c.before args0 about1) = true := by decide +kernel
theorem w_tables : (allAtoms (Jvm.Cond.code x code maxLocals ret :: tables_1)).before args0 about1 = true := by
  rw [allAtoms_all]
  show words1.all (fun c => c.before args0 about1) = true
  refine all_split ?_ w_codes
  rw [w_t1]
set_option maxRecDepth 65536 in
theorem w_case : (Jvm.Cond.and given_1 narrow_1).before args0 about1 = true := by decide +kernel
theorem w_applies : (headSpec (Jvm.Cond.code x code maxLocals ret :: tables_1) room_1).applies x e0.platform about1 = true :=
  (Spec.applies_iff w_frames).mpr ⟨w_running, w_runnable, w_alone, w_named, w_hears, w_ripe, w_room, w_tables⟩
theorem atStart : AtStart classFile x code maxLocals ret World_1 tables_1 room_1 Calls_1 rest_1 Pre_1 launch0 p0 e0 about1 theMethod args0 below0 :=
  ⟨lists_1, trivial, launch0.admits_env _ _ _, launch0.least_env, fairChoices_fair.cas, fairChoices_fair.clock, w_frames, w_args, w_heap, w_applies, trivial, trivial, w_case⟩
end start1
theorem witness_1 : WitnessClaimed_1 := ⟨start1.p0, start1.e0, start1.about1, start1.theMethod, start1.args0, start1.below0, start1.atStart⟩
end Jvm.Pilot.@@N@@
