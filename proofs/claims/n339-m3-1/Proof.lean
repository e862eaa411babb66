import JvmDerived
import JvmDerived.Pilot.@@N@@Statement
import JvmDerived.Pilot.@@N@@Code
set_option linter.unusedVariables false
set_option linter.unusedSimpArgs false

namespace Jvm.Pilot.@@N@@
open Jvm Jvm.ClassFile Sem Op Lib Jvm.Free Jvm.Stand Jvm.LawKit Jvm.RoadKit Bundle Jvm.Pilot.@@N@@.Jvm.D
/-! own layer: 'from here the run ends, and Q holds of what it leaves' (own_Dn), stepped backwards -/
def own_Dn (p : Program) (e : Env) (below : List Frame) (s : State) (Q : Option Value → Heap → List Loc → Prop) (K N : Nat) (A : State) : Prop :=
  ∃ s₂ o, Steps p.tables e below A s₂ ∧ s₂.status = .running ∧ Ended s₂ below o ∧ ∃ v L, o = .returned v ∧ Q v s₂.heap L ∧ FrameEnd s o s₂ L K N
def own_Q (r : Option Value) (n0 : Nat) (h0 : Heap) (v : Option Value) (h : Heap) (L : List Loc) : Prop := v = r ∧ Fr n0 L ∧ h = h0
def own_QL (r : Option Value) (n0 : Nat) (v : Option Value) (h : Heap) (L : List Loc) : Prop := v = r ∧ Fr n0 L
def own_Cx (p : Program) (s : State) (m : MethodId) (meth : Method) (c : Code) (Z : State) (a0 : Array Value) (bytes : ByteArray) (ml : Nat) (own nm : String) (ret : Option FieldType) : Prop :=
  p.tables.exec = Jvm.exec ∧ Z.Warmed39 s.vm ∧ (∀ d ∈ tables_1, d.before a0 Z = true) ∧ c.code = bytes ∧ c.maxLocals = ml ∧ s.vm.findClass own = some m.cls ∧ meth.sig.returnType = ret ∧ meth.locks = false ∧ meth.name = nm
theorem own_st {p : Program} {e : Env} {below : List Frame} {s : State} {Q : Option Value → Heap → List Loc → Prop} {K N : Nat} {A B : State} (k : ∀ t, Steps p.tables e below B t → Steps p.tables e below A t) (d : own_Dn p e below s Q K N B) : own_Dn p e below s Q K N A := by
  obtain ⟨s₂, o, h, r⟩ := d
  exact ⟨s₂, o, k _ h, r⟩
theorem own_tr {p : Program} {e : Env} {below : List Frame} {s : State} {Q : Option Value → Heap → List Loc → Prop} {K N : Nat} {A B : State} (k : Steps p.tables e below A B) (d : own_Dn p e below s Q K N B) : own_Dn p e below s Q K N A :=
  own_st (fun _ h => k.trans h) d
theorem own_cat {v : Value} (h : v.isRef = true) : v.category = 1 := by
  cases v <;> first | rfl | (simp [Value.isRef] at h)
section own
variable {p : Program} {l : Launch} {e : Env} {R : Room} {s : State} {m : MethodId} {args : Array Value} {below : List Frame} {meth : Method} {c : Code} {T : State} {locs : List Loc} {cells slots : Nat} {Q : Option Value → Heap → List Loc → Prop} {K N : Nat}
theorem own_ret (X : Stand p l e R s m args below meth c T locs cells slots) (hlk : meth.locks = false) {v : Option Value} (hv : meth.sig.returnType = none → v = none) {A : State} (hK : cells ≤ K) (hN : slots ≤ N) (hq : Q v T.heap locs)
    (hst : ∀ fs, (∀ (f : JFrame) (acts : List Action), f.method = m → f.locked = none → f.entered = [] → (doReturn e (T.setTop f) acts v).1 = T.setFrames fs) → Steps p.tables e below A (T.setFrames fs)) : own_Dn p e below s Q K N A := by
  obtain ⟨fs, hr, hrun, hended, hW, hsame⟩ := X.leave (v := v) hv hlk
  exact ⟨_, _, hst fs hr, hrun, hended, _, _, rfl, hq, ⟨_, rfl⟩, hW, hsame.mono hK hN⟩
theorem own_retI (X : Stand p l e R s m args below meth c T locs cells slots) (hx : p.tables.exec = Jvm.exec) (hret : meth.sig.returnType = some .int) (hlk : meth.locks = false) {pc : Nat} {Ls : Array Slot} {z : Int32} {rest : List Value} (hd : decode c.code pc = .ok (.ireturn, 1)) (hK : cells ≤ K) (hN : slots ≤ N)
    (hq : Q (some (.int z)) T.heap locs) : own_Dn p e below s Q K N (T.setTop (mkF m pc Ls (.int z :: rest))) :=
  own_ret X hlk (fun h => by rw [hret] at h; cases h) hK hN hq (fun fs hr => retOut X hx hret rfl (Or.inl ⟨rfl, Or.inl rfl, _, rfl⟩) hd hr)
theorem own_retJ (X : Stand p l e R s m args below meth c T locs cells slots) (hx : p.tables.exec = Jvm.exec) (hret : meth.sig.returnType = some .long) (hlk : meth.locks = false) {pc : Nat} {Ls : Array Slot} {z : Int64} {rest : List Value} (hd : decode c.code pc = .ok (.lreturn, 1)) (hK : cells ≤ K) (hN : slots ≤ N)
    (hq : Q (some (.long z)) T.heap locs) : own_Dn p e below s Q K N (T.setTop (mkF m pc Ls (.long z :: rest))) :=
  own_ret X hlk (fun h => by rw [hret] at h; cases h) hK hN hq (fun fs hr => retOut X hx hret rfl (Or.inr (Or.inl ⟨rfl, rfl, _, rfl⟩)) hd hr)
theorem own_retZ (X : Stand p l e R s m args below meth c T locs cells slots) (hx : p.tables.exec = Jvm.exec) (hret : meth.sig.returnType = some .boolean) (hlk : meth.locks = false) {pc : Nat} {Ls : Array Slot} {z : Int32} {rest : List Value} (hz : z &&& 1 = z) (hd : decode c.code pc = .ok (.ireturn, 1)) (hK : cells ≤ K) (hN : slots ≤ N)
    (hq : Q (some (.int z)) T.heap locs) : own_Dn p e below s Q K N (T.setTop (mkF m pc Ls (.int z :: rest))) :=
  own_ret X hlk (fun h => by rw [hret] at h; cases h) hK hN hq (fun fs hr => retOut X hx (w := .int z) hret (show Value.int (z &&& 1) = .int z from congrArg Value.int hz) (Or.inl ⟨rfl, Or.inr (Or.inl rfl), _, rfl⟩) hd hr)
theorem own_retV (X : Stand p l e R s m args below meth c T locs cells slots) (hx : p.tables.exec = Jvm.exec) (hret : meth.sig.returnType = none) (hlk : meth.locks = false) {pc : Nat} {Ls : Array Slot} (hd : decode c.code pc = .ok (.return_, 1)) (hK : cells ≤ K) (hN : slots ≤ N)
    (hq : Q none T.heap locs) : own_Dn p e below s Q K N (T.setTop (mkF m pc Ls [])) :=
  own_ret X hlk (fun _ => rfl) hK hN hq (fun fs hr => X.returnOut hx hret hd hr)
theorem own_retA (X : Stand p l e R s m args below meth c T locs cells slots) (hx : p.tables.exec = Jvm.exec) {t : FieldType} (ht : t.isReference = true) (hret : meth.sig.returnType = some t) (hlk : meth.locks = false) {pc : Nat} {Ls : Array Slot} {w : Value} {rest : List Value} (hw : w.isRef = true) (hn : narrow t w = w) (hd : decode c.code pc = .ok (.areturn, 1)) (hK : cells ≤ K) (hN : slots ≤ N)
    (hq : Q (some w) T.heap locs) : own_Dn p e below s Q K N (T.setTop (mkF m pc Ls (w :: rest))) :=
  own_ret X hlk (fun h => by rw [hret] at h; cases h) hK hN hq (fun fs hr => retOut X hx hret hn (Or.inr (Or.inr (Or.inr (Or.inr ⟨rfl, ht, hw⟩)))) hd hr)
end own
theorem own_met {l : Launch} {Z : State} {a0 : Array Value} (hw : ∀ d ∈ tables_1, d.before a0 Z = true) {y : MethodName} {bytes : ByteArray} {ml : Nat} {ret : Option FieldType} {ws : List Jvm.Cond} {rm : Room} {as' : Array Value} {h0 : Heap} {Q : Option Value → Heap → List Loc → Prop} (hpl : plainFor y = true)
    (body : ∀ p e s m below meth c s₁, own_Cx p s m meth c Z a0 bytes ml y.cls y.name ret → Stand p l e rm s m as' below meth c s₁ [] 0 0 → s₁.heap = h0 → own_Dn p e below s Q rm.cells rm.slots (s₁.setTop (entryFrame m as' ml))) :
    MetFree l y (head1 (Jvm.Cond.code y bytes ml ret :: ws) rm) (fun a U => a = as' ∧ Z.Warmed39 U.vm ∧ U.heap = h0) (fun _ _ _ _ _ => True) (fun _ U o U' => ∃ v L, o = .returned v ∧ Q v U'.heap L ∧ FrameEnd U o U' L rm.cells rm.slots) := by
  refine MetFree.of_bodySF hpl hisR ?_
  intro p e s m args below meth c s₁ Bd hml0 hP hK
  obtain ⟨rfl, hZ, hh⟩ := hP
  exact body p e s m below meth c s₁ ⟨Bd.exec, hZ, hw, Bd.bytes, hml0, findClass_of_methodNamed Bd.named, Bd.returns, BodyLoose.notSynchronized Bd, (name_of_methodNamed Bd.named Bd.method).1⟩ (Stand.of_body Bd) (by rw [← hh, Bd.state]; rfl)
theorem own_jtlt {x y : Int64} (h : x < y) : ifCond.holds .lt (lcmpW x y) = true ∧ ifCond.holds .ge (lcmpW x y) = false ∧ ifCond.holds .gt (lcmpW y x) = true ∧ ifCond.holds .le (lcmpW y x) = false := by
  have h1 : lcmpW x y < 0 := by rw [lcW]; exact (lc_lt x y).mpr h
  have h2 : 0 < lcmpW y x := by rw [lcW]; exact (lc_gt y x).mpr h
  exact ⟨(if0 _ _).trans (tlt h1).1, (if0 _ _).trans (tlt h1).2.1, (if0 _ _).trans (tlt h2).2.2.1, (if0 _ _).trans (tlt h2).2.2.2⟩
theorem own_jflt {x y : Int64} (h : ¬ x < y) : ifCond.holds .lt (lcmpW x y) = false ∧ ifCond.holds .ge (lcmpW x y) = true ∧ ifCond.holds .gt (lcmpW y x) = false ∧ ifCond.holds .le (lcmpW y x) = true := by
  have h1 : ¬ lcmpW x y < 0 := by rw [lcW]; exact fun q => h ((lc_lt x y).mp q)
  have h2 : ¬ 0 < lcmpW y x := by rw [lcW]; exact fun q => h ((lc_gt y x).mp q)
  exact ⟨(if0 _ _).trans (flt h1).1, (if0 _ _).trans (flt h1).2.1, (if0 _ _).trans (flt h2).2.2.1, (if0 _ _).trans (flt h2).2.2.2⟩
theorem own_jteq {x y : Int64} (h : x = y) : ifCond.holds .eq (lcmpW x y) = true ∧ ifCond.holds .ne (lcmpW x y) = false := by
  have h1 : lcmpW x y = 0 := by rw [lcW]; exact (lc_eq x y).mpr h
  exact ⟨(if0 _ _).trans (teq h1).1, (if0 _ _).trans (teq h1).2⟩
theorem own_jfeq {x y : Int64} (h : ¬ x = y) : ifCond.holds .eq (lcmpW x y) = false ∧ ifCond.holds .ne (lcmpW x y) = true := by
  have h1 : ¬ lcmpW x y = 0 := by rw [lcW]; exact fun q => h ((lc_eq x y).mp q)
  exact ⟨(if0 _ _).trans (feq h1).1, (if0 _ _).trans (feq h1).2⟩
theorem own_miss (a : Int32) (ks : List Int32) (h : ∀ k ∈ ks, ¬ a = k) {ps : List (Int × Int)} (e : ps.map (·.1) = ks.map Int32.toInt) : ∀ p ∈ ps, p.1 ≠ a.toInt := by
  intro p hp q
  have h1 : p.1 ∈ ps.map (·.1) := List.mem_map.mpr ⟨p, hp, rfl⟩
  rw [e] at h1
  obtain ⟨k, hk, r⟩ := List.mem_map.mp h1
  exact h k hk (Int32.toInt_inj.mp (q.symm.trans r.symm))
theorem own_Sta_keep {Z : State} {h h' : Heap} {C n d : String} {v : Value} {a : Addr} {C' : String} (F : Sta Z h C n d v) (K : Keep h h' [a]) (E : Exa Z h a C') : Sta Z h' C n d v := by
  obtain ⟨cf, i, k, f, st, cell, h1, h2, h3, h4, h5, h6, h7⟩ := F
  obtain ⟨cl, k', e1, -, -, e4, -⟩ := E
  refine ⟨cf, i, k, f, st, cell, h1, h2, h3, h4, K.2.1 _ _ h5 (ninS (fun q => ?_) nin0), h6, h7⟩
  subst q
  cases h5.symm.trans e1
  rw [h6] at e4; cases e4
theorem own_Sta_keep0 {Z : State} {h h' : Heap} {C n d : String} {v : Value} (F : Sta Z h C n d v) (K : Keep h h' []) : Sta Z h' C n d v := by
  obtain ⟨cf, i, k, f, st, cell, h1, h2, h3, h4, h5, h6, h7⟩ := F
  exact ⟨cf, i, k, f, st, cell, h1, h2, h3, h4, K.2.1 _ _ h5 nin0, h6, h7⟩
theorem own_ne_or {r x : Addr} {ws : List Addr} {H : Heap} (h : r ∈ ws ∨ H.size ≤ r) (hl : x < H.size) (hn : x ∉ ws) : x ≠ r := fun e => h.elim (fun q => hn (e ▸ q)) (fun q => Nat.lt_irrefl _ (Nat.lt_of_lt_of_le (e ▸ hl) q))
theorem own_or_up {r : Addr} {ws ws' : List Addr} {h0 H : Heap} (h : r ∈ ws ∨ H.size ≤ r) (hk : h0.size ≤ H.size) (all : ∀ x ∈ ws, x ∈ ws' ∨ h0.size ≤ x) : r ∈ ws' ∨ h0.size ≤ r := h.elim (all r) (fun q => Or.inr (Nat.le_trans hk q))
theorem own_selp {Z s : State} {a0 args : Array Value} {y : MethodName} {n : Nat} (hZ : Z.Warmed39 s.vm) (w1 : (Cond.instantiable y.cls n).before a0 Z = true) (w2 : (Cond.instanceMethod y).before a0 Z = true) (w3 : (Cond.privateMethod y).before a0 Z = true) (hy : y.cls ≠ "java/lang/invoke/MethodHandle" ∧ y.cls ≠ "java/lang/invoke/VarHandle") : (Cond.selects y.cls y y).before args s = true := by
  have i1 : (Cond.instantiable y.cls n).before args s = true := mvT hZ w1
  obtain ⟨c, k, h1, h2, -, h4, -, -⟩ := Cond.instantiable_spec i1
  have h5 : k.isInterface = false := by
    cases hk : k.isInterface
    · rfl
    · rw [hk] at h4; simp at h4
  exact selects_self_of_private h1 h2 h5 (Cond.privateMethod_at (mvP hZ w3 (args := args))) (mvT hZ w2) hy

/-! own layer, arrays: an array's places as a function -/
def own_Arf (Z : State) (h : Heap) (a : Addr) (ty : FieldType) (n : Nat) (f : Nat → Value) : Prop := ∃ c : Cell, Arr Z h a c ty ∧ c.slots.size = n ∧ n < 2 ^ 31 ∧ ∀ i, i < n → c.slots[i]? = some (f i)
def own_upd {α : Type} (g : Nat → α) (j : Nat) (v : α) (i : Nat) : α := if i = j then v else g i
section ownA
variable {Z : State} {h h' : Heap} {a b : Addr} {ty : FieldType} {n sl : Nat} {f : Nat → Value} {v : Value} {ws : List Addr}
theorem own_Arf.lt (F : own_Arf Z h a ty n f) : a < h.size := by obtain ⟨c, A, -⟩ := F; exact A.lt
theorem own_Arf.ext (F : own_Arf Z h a ty n f) (E : Ext h h') : own_Arf Z h' a ty n f := by obtain ⟨c, A, q⟩ := F; exact ⟨c, A.ext E, q⟩
theorem own_Arf.other (F : own_Arf Z h b ty n f) (W : Wr h h' a sl v) (q : b ≠ a) : own_Arf Z h' b ty n f := by obtain ⟨c, A, r⟩ := F; exact ⟨c, A.other W q, r⟩
theorem own_Arf.keep (F : own_Arf Z h a ty n f) (K : Keep h h' ws) (q : a ∉ ws) : own_Arf Z h' a ty n f := by obtain ⟨c, A, r⟩ := F; exact ⟨c, ⟨K.2.1 _ _ A.1 q, A.2⟩, r⟩
theorem own_Arf.congr {f' : Nat → Value} (F : own_Arf Z h a ty n f) (q : ∀ i, i < n → f i = f' i) : own_Arf Z h a ty n f' := by
  obtain ⟨c, A, hs, hn, hf⟩ := F
  exact ⟨c, A, hs, hn, fun i hi => by rw [hf i hi, q i hi]⟩
theorem own_Arf.new {k : ClassId} {z : Int32} (A : Arr Z h a (newA k ty z) ty) (q : z.toNatClampNeg = n) (hn : n < 2 ^ 31) : own_Arf Z h a ty n (fun _ => defaultValue ty) := by
  refine ⟨_, A, by rw [sz_new]; exact q, hn, fun i hi => ?_⟩
  simp [newA, q, hi]
theorem own_Arf.set (F : own_Arf Z h a ty n f) (W : Wr h h' a sl v) (hj : sl < n) : own_Arf Z h' a ty n (own_upd f sl v) := by
  obtain ⟨c, A, hs, hn, hf⟩ := F
  refine ⟨c.setSlot sl v, A.same W, by rw [sz_set]; exact hs, hn, fun i hi => ?_⟩
  simp only [own_upd]
  split
  · rename_i q; subst q; simp [Cell.setSlot, hs, hi]
  · rename_i q; simp [Cell.setSlot, Array.getElem?_setIfInBounds, Ne.symm q, hf i hi]
theorem own_Arf.setI {g : Nat → Int32} {x : Int32} (F : own_Arf Z h a ty n (fun i => .int (g i))) (W : Wr h h' a sl (.int x)) (hj : sl < n) : own_Arf Z h' a ty n (fun i => .int (own_upd g sl x i)) :=
  (F.set W hj).congr fun i _ => by simp only [own_upd]; split <;> rfl
theorem own_Arf.setJ {g : Nat → Int64} {x : Int64} (F : own_Arf Z h a ty n (fun i => .long (g i))) (W : Wr h h' a sl (.long x)) (hj : sl < n) : own_Arf Z h' a ty n (fun i => .long (own_upd g sl x i)) :=
  (F.set W hj).congr fun i _ => by simp only [own_upd]; split <;> rfl
variable {p : Program} {l : Launch} {e : Env} {R : Room} {s : State} {m : MethodId} {args : Array Value} {below : List Frame} {meth : Method} {c : Code} {T : State} {locs : List Loc} {cells slots : Nat}
theorem own_ldI (X : Stand p l e R s m args below meth c T locs cells slots) (hx : p.tables.exec = Jvm.exec) (hZ : Z.Warmed39 s.vm) (eT : T.heap = h) (F : own_Arf Z h a .int n f) {j : Int32} (h0 : ¬ j < 0) (hj : j.toNatClampNeg < n) {pc : Nat} {L : Array Slot} {rest : List Value} (hd : decode c.code pc = .ok (.iaload, 1)) :
    ∀ target, Steps p.tables e below (T.setTop (mkF m (pc + 1) L (f j.toNatClampNeg :: rest))) target → Steps p.tables e below (T.setTop (mkF m pc L (.int j :: .ref a :: rest))) target := by
  obtain ⟨cl, A, hs, hn, hf⟩ := F
  intro target k
  exact X.iaload hx (j := j) (v := f j.toNatClampNeg) (by rw [eT]; exact A.1) (State.isArrayOf_alike hZ.alike A.2.1) A.2.2 (fun q => q.elim h0 (fun r => by omega)) (hf _ hj) (g := mkF m pc L (.int j :: .ref a :: rest)) rfl rfl hd _ k
theorem own_ldJ (X : Stand p l e R s m args below meth c T locs cells slots) (hx : p.tables.exec = Jvm.exec) (hZ : Z.Warmed39 s.vm) (eT : T.heap = h) (F : own_Arf Z h a .long n f) {j : Int32} (h0 : ¬ j < 0) (hj : j.toNatClampNeg < n) {pc : Nat} {L : Array Slot} {rest : List Value} (hd : decode c.code pc = .ok (.laload, 1)) :
    ∀ target, Steps p.tables e below (T.setTop (mkF m (pc + 1) L (f j.toNatClampNeg :: rest))) target → Steps p.tables e below (T.setTop (mkF m pc L (.int j :: .ref a :: rest))) target := by
  obtain ⟨cl, A, hs, hn, hf⟩ := F
  intro target k
  exact X.laload hx (j := j) (v := f j.toNatClampNeg) (by rw [eT]; exact A.1) (State.isArrayOf_alike hZ.alike A.2.1) A.2.2 (fun q => q.elim h0 (fun r => by omega)) (hf _ hj) (g := mkF m pc L (.int j :: .ref a :: rest)) rfl rfl hd _ k
theorem own_ldB (X : Stand p l e R s m args below meth c T locs cells slots) (hx : p.tables.exec = Jvm.exec) (hZ : Z.Warmed39 s.vm) (eT : T.heap = h) (F : own_Arf Z h a .byte n f) {j : Int32} (h0 : ¬ j < 0) (hj : j.toNatClampNeg < n) {pc : Nat} {L : Array Slot} {rest : List Value} (hd : decode c.code pc = .ok (.baload, 1)) :
    ∀ target, Steps p.tables e below (T.setTop (mkF m (pc + 1) L (f j.toNatClampNeg :: rest))) target → Steps p.tables e below (T.setTop (mkF m pc L (.int j :: .ref a :: rest))) target := by
  obtain ⟨cl, A, hs, hn, hf⟩ := F
  intro target k
  exact X.baloadBytes hx (j := j) (v := f j.toNatClampNeg) (by rw [eT]; exact A.1) (State.isArrayOf_alike hZ.alike A.2.1) A.2.2 (fun q => q.elim h0 (fun r => by omega)) (hf _ hj) (g := mkF m pc L (.int j :: .ref a :: rest)) rfl rfl hd _ k
theorem own_len (X : Stand p l e R s m args below meth c T locs cells slots) (hx : p.tables.exec = Jvm.exec) (hZ : Z.Warmed39 s.vm) (eT : T.heap = h) (F : own_Arf Z h a ty n f) {z : Int32} (hz : n.toInt32 = z) {pc : Nat} {L : Array Slot} {rest : List Value} (hd : decode c.code pc = .ok (.arraylength, 1)) :
    ∀ target, Steps p.tables e below (T.setTop (mkF m (pc + 1) L (.int z :: rest))) target → Steps p.tables e below (T.setTop (mkF m pc L (.ref a :: rest))) target := by
  obtain ⟨cl, A, hs, hn, hf⟩ := F
  intro target k
  refine X.arraylength hx (cell := cl) (by rw [eT]; exact A.1) (State.isArrayOf_alike hZ.alike A.2.1) (g := mkF m pc L (.ref a :: rest)) rfl (rest := rest) rfl hd _ ?_
  rw [hs, hz]; exact k
theorem own_stI (X : Stand p l e R s m args below meth c T locs cells slots) (hx : p.tables.exec = Jvm.exec) (hZ : Z.Warmed39 s.vm) (eT : T.heap = h) {g : Nat → Int32} (F : own_Arf Z h a .int n (fun i => .int (g i))) {j x : Int32} (h0 : ¬ j < 0) (hj : j.toNatClampNeg < n) {pc : Nat} {L : Array Slot} {rest : List Value} (hd : decode c.code pc = .ok (.iastore, 1)) :
    ∃ T' h', Stand p l e R s m args below meth c T' (locs ++ [⟨a, j.toNatClampNeg⟩]) cells slots ∧ T'.heap = h' ∧ Wr h h' a j.toNatClampNeg (.int x) ∧ own_Arf Z h' a .int n (fun i => .int (own_upd g j.toNatClampNeg x i)) ∧
      ∀ target, Steps p.tables e below (T'.setTop (mkF m (pc + 1) L rest)) target → Steps p.tables e below (T.setTop (mkF m pc L (.int x :: .int j :: .ref a :: rest))) target := by
  have F' := F
  obtain ⟨cl, A, hs, hn, hf⟩ := F
  obtain ⟨T', h', X', e', W, st⟩ := stI X hx hZ eT A (j := j) (x := x) (fun q => q.elim h0 (fun r => by omega)) (g := mkF m pc L (.int x :: .int j :: .ref a :: rest)) rfl rfl hd
  exact ⟨T', h', X', e', W, F'.setI W hj, st⟩
theorem own_stJ (X : Stand p l e R s m args below meth c T locs cells slots) (hx : p.tables.exec = Jvm.exec) (hZ : Z.Warmed39 s.vm) (eT : T.heap = h) {g : Nat → Int64} (F : own_Arf Z h a .long n (fun i => .long (g i))) {j : Int32} {x : Int64} (h0 : ¬ j < 0) (hj : j.toNatClampNeg < n) {pc : Nat} {L : Array Slot} {rest : List Value} (hd : decode c.code pc = .ok (.lastore, 1)) :
    ∃ T' h', Stand p l e R s m args below meth c T' (locs ++ [⟨a, j.toNatClampNeg⟩]) cells slots ∧ T'.heap = h' ∧ Wr h h' a j.toNatClampNeg (.long x) ∧ own_Arf Z h' a .long n (fun i => .long (own_upd g j.toNatClampNeg x i)) ∧
      ∀ target, Steps p.tables e below (T'.setTop (mkF m (pc + 1) L rest)) target → Steps p.tables e below (T.setTop (mkF m pc L (.long x :: .int j :: .ref a :: rest))) target := by
  have F' := F
  obtain ⟨cl, A, hs, hn, hf⟩ := F
  obtain ⟨T', h', X', e', W, st⟩ := stJ X hx hZ eT A (j := j) (x := x) (fun q => q.elim h0 (fun r => by omega)) (g := mkF m pc L (.long x :: .int j :: .ref a :: rest)) rfl rfl hd
  exact ⟨T', h', X', e', W, F'.setJ W hj, st⟩
theorem own_stB (X : Stand p l e R s m args below meth c T locs cells slots) (hx : p.tables.exec = Jvm.exec) (hZ : Z.Warmed39 s.vm) (eT : T.heap = h) {g : Nat → Int32} (F : own_Arf Z h a .byte n (fun i => .int (g i))) {j x : Int32} (h0 : ¬ j < 0) (hj : j.toNatClampNeg < n) {pc : Nat} {L : Array Slot} {rest : List Value} (hd : decode c.code pc = .ok (.bastore, 1)) :
    ∃ T' h', Stand p l e R s m args below meth c T' (locs ++ [⟨a, j.toNatClampNeg⟩]) cells slots ∧ T'.heap = h' ∧ Wr h h' a j.toNatClampNeg (.int x.toInt8.toInt32) ∧ own_Arf Z h' a .byte n (fun i => .int (own_upd g j.toNatClampNeg x.toInt8.toInt32 i)) ∧
      ∀ target, Steps p.tables e below (T'.setTop (mkF m (pc + 1) L rest)) target → Steps p.tables e below (T.setTop (mkF m pc L (.int x :: .int j :: .ref a :: rest))) target := by
  have F' := F
  obtain ⟨cl, A, hs, hn, hf⟩ := F
  obtain ⟨T', h', X', e', W, st⟩ := stB X hx hZ eT A (j := j) (x := x) (fun q => q.elim h0 (fun r => by omega)) (g := mkF m pc L (.int x :: .int j :: .ref a :: rest)) rfl rfl hd
  exact ⟨T', h', X', e', W, F'.setI W hj, st⟩
end ownA
section ownB
variable {args : Array Value} {s : State} {t u : Term} {w : Addr} {ty : FieldType} {z : Int32} {n : Nat}
theorem own_Arf.start (ev : t.eval args s none [] s = some (.ref w)) (h1 : (Jvm.Cond.arrayOf t ty).value args s none s [] = some true) (h2 : (Jvm.Cond.eq (.length t) (.int z)).value args s none s [] = some true) (hn : z.toInt = n) :
    ∃ f, own_Arf s s.heap w ty n f ∧ ∀ j : Int32, ¬ j < 0 → j.toNatClampNeg < n → (Term.elem t (.int j)).eval args s none [] s = some (f j.toNatClampNeg) := by
  obtain ⟨c, A⟩ := Arr.start ev h1
  have hat : s.arrayAt? w = some c := Arr.fin (State.Warmed39.refl s).alike A
  have hlen := Cond.eq_int (Cond.before_iff.mpr h2) rfl
  have h31 := SBG.length_lt ev hat hlen
  have hsz : c.slots.size = n := by
    have e1 := len_f ev hat h31
    have e2 : c.slots.size.toInt32 = z := by simpa using Option.some.inj (e1.symm.trans hlen)
    have e3 := len_toInt h31
    rw [e2] at e3; omega
  refine ⟨fun i => (c.slots[i]?).getD .null, ⟨c, A, hsz, by omega, fun i hi => ?_⟩, fun j h0 hj => ?_⟩
  · have : i < c.slots.size := by omega
    simp [this]
  · rw [elem_f ev (Term.int_eval j) hat h0]
    have : j.toNatClampNeg < c.slots.size := by omega
    simp [this]
theorem own_eqref {a b : Term} {x : Value} (ha : a.eval args s none [] s = some x) (hb : b.eval args s none [] s = some (.ref w)) (h : (Jvm.Cond.eq a b).value args s none s [] = some true) : x = .ref w := by
  obtain ⟨x', y', e1, e2, k1, k2⟩ := cmp_v (Or.inl h)
  cases ha.symm.trans e1; cases hb.symm.trans e2
  exact gotT (eq_R ha hb k2.2 rfl) h
theorem own_fldstart {C f d : String} {k : Int32} (ev : t.eval args s none [] s = some (.ref w)) (h : (Jvm.Cond.eq (.field t C f d) (.int k)).value args s none s [] = some true) : Fld s s.heap w C f d (.int k) := by
  have e := Cond.eq_int (Cond.before_iff.mpr h) rfl
  rw [fld_at ev] at e
  exact Fld.start e
end ownB
section ownC
variable {Z : State} {h h' : Heap} {a b : Addr} {ty : FieldType} {n sl : Nat} {f : Nat → Value} {v : Value} {ws : List Addr}
variable {p : Program} {l : Launch} {e : Env} {R : Room} {s : State} {m : MethodId} {args : Array Value} {below : List Frame} {meth : Method} {c : Code} {T : State} {locs : List Loc} {cells slots : Nat}
theorem own_ldA (X : Stand p l e R s m args below meth c T locs cells slots) (hx : p.tables.exec = Jvm.exec) (hZ : Z.Warmed39 s.vm) (eT : T.heap = h) (F : own_Arf Z h a ty n f) (hty : ty.isReference = true) {j : Int32} (h0 : ¬ j < 0) (hj : j.toNatClampNeg < n) {pc : Nat} {L : Array Slot} {rest : List Value} (hd : decode c.code pc = .ok (.aaload, 1)) :
    ∀ target, Steps p.tables e below (T.setTop (mkF m (pc + 1) L (f j.toNatClampNeg :: rest))) target → Steps p.tables e below (T.setTop (mkF m pc L (.int j :: .ref a :: rest))) target := by
  obtain ⟨cl, A, hs, hn, hf⟩ := F
  intro target k
  exact X.aaload hx (j := j) (v := f j.toNatClampNeg) (by rw [eT]; exact A.1) (State.isArrayOf_alike hZ.alike A.2.1) hty A.2.2 (fun q => q.elim h0 (fun r => by omega)) (hf _ hj) (g := mkF m pc L (.int j :: .ref a :: rest)) rfl rfl hd _ k
theorem own_clone (X : Stand p l e R s m args below meth c T locs cells slots) (hx : p.tables.exec = Jvm.exec) (hZ : Z.Warmed39 s.vm) {a0 : Array Value} {own ad : String} {index : Nat} (hown : s.vm.findClass own = some m.cls)
    (w1 : (Cond.methodLink own index ⟨ad, "clone", "()Ljava/lang/Object;"⟩).before a0 Z = true) (w2 : (Cond.sameMethod ad "java/lang/Object" "clone" "()Ljava/lang/Object;").before a0 Z = true) (w3 : (Cond.native ⟨"java/lang/Object", "clone", "()Ljava/lang/Object;"⟩).before a0 Z = true)
    (w4 : (Cond.instanceMethod ⟨"java/lang/Object", "clone", "()Ljava/lang/Object;"⟩).before a0 Z = true) (w5 : (Cond.selects ad ⟨ad, "clone", "()Ljava/lang/Object;"⟩ ⟨"java/lang/Object", "clone", "()Ljava/lang/Object;"⟩).before a0 Z = true) (w6 : (Cond.castable ad "java/lang/Cloneable").before a0 Z = true)
    (eT : T.heap = h) (F : own_Arf Z h a ty n f) (E : Exa Z h a ad) (hfit : ∀ i, i < n → fits ty (f i) = true) {g : JFrame} (hg : g.method = m) (hsize : g.locals.size = c.maxLocals) {rest : List Value} (hs : g.stack = .ref a :: rest) (hd : decode c.code g.pc = .ok (.invokevirtual index, 3))
    (hf : 1 ≤ R.frames) {W : Nat} (hW : 2 * g.monitorRoom + (rest.map fun v => v.category).sum ≤ W) (hl : W + 14 ≤ R.locals) (hc : cells + 1 ≤ R.cells) (hsl : slots + n ≤ R.slots) :
    ∃ T' h', Stand p l e R s m args below meth c T' locs (cells + 1) (slots + n) ∧ T'.heap = h' ∧ Ext h h' ∧ own_Arf Z h' h.size ty n f ∧ Exa Z h' h.size ad ∧
      ∀ target, Steps p.tables e below (T'.setTop { g with pc := g.pc + 3, stack := .ref h.size :: rest }) target → Steps p.tables e below (T.setTop g) target := by
  obtain ⟨cl, A, q1, q2, q3⟩ := F
  have FC : FitC Z cl := fitC_of A (fun i hi v hv => by
    have r := q3 i (by omega)
    rw [r] at hv; cases hv; exact hfit i (by omega))
  obtain ⟨T', h', X', e', E', A', EA, st⟩ := cloneA X hx hZ hown w1 w2 w3 w4 w5 w6 eT A E FC hg hsize hs hd hf hW hl (cap := n) (by omega) hc hsl
  exact ⟨T', h', X', e', E', ⟨_, A', q1, q2, q3⟩, EA, st⟩
end ownC

theorem own_pd0 : parseMethodDescriptor "()V" = some ⟨[], none⟩ := by decide +kernel
theorem own_pd1 : parseMethodDescriptor "(I)V" = some ⟨[.int], none⟩ := by decide +kernel
theorem own_pd2 : parseMethodDescriptor "(II)V" = some ⟨[.int, .int], none⟩ := by decide +kernel
theorem own_pd3 : parseMethodDescriptor "(Ljava/lang/Object;)Z" = some ⟨[(.object "java/lang/Object")], some .boolean⟩ := by decide +kernel
theorem own_pd4 : parseMethodDescriptor "(I)Ljava/lang/Integer;" = some ⟨[.int], some (.object "java/lang/Integer")⟩ := by decide +kernel
theorem pi_d0 : decode prog_27_method_1_code 0 = .ok (.aload_n 0, 1) := by decide +kernel
theorem pi_d1 : decode prog_27_method_1_code 1 = .ok (.invokespecial 1, 3) := by decide +kernel
theorem pi_d4 : decode prog_27_method_1_code 4 = .ok (.aload_n 0, 1) := by decide +kernel
theorem pi_d5 : decode prog_27_method_1_code 5 = .ok (.iload_n 1, 1) := by decide +kernel
theorem pi_d6 : decode prog_27_method_1_code 6 = .ok (.putfield 7, 3) := by decide +kernel
theorem pi_d9 : decode prog_27_method_1_code 9 = .ok (.aload_n 0, 1) := by decide +kernel
theorem pi_d10 : decode prog_27_method_1_code 10 = .ok (.iload_n 2, 1) := by decide +kernel
theorem pi_d11 : decode prog_27_method_1_code 11 = .ok (.putfield 13, 3) := by decide +kernel
theorem pi_d14 : decode prog_27_method_1_code 14 = .ok (.return_, 1) := by decide +kernel
def pi_Q (Z : State) (b0 : Addr) (p1 : Int32) (p2 : Int32) (h0 : Heap) (n0 : Nat) (v : Option Value) (h : Heap) (L : List Loc) : Prop := v = none ∧ Fr n0 L ∧ Keep h0 h [b0] ∧ Exa Z h b0 "com/example/hashloom/cli/Point" ∧ Fld Z h b0 "com/example/hashloom/cli/Point" "x" "I" (.int p1) ∧ Fld Z h b0 "com/example/hashloom/cli/Point" "y" "I" (.int p2)
set_option maxRecDepth 65536 in
set_option maxHeartbeats 40000000 in
theorem pi_c0 {l : Launch} {Z : State} {a0 : Array Value} {b0 : Addr} {p1 : Int32} {p2 : Int32} {h0 : Heap} {n0 : Nat} {p : Program} {e : Env} {s : State} {m : MethodId} {args : Array Value} {below : List Frame} {meth : Method} {c : Code} {T0 : State} {locs : List Loc} (C0 : own_Cx p s m meth c Z a0 prog_27_method_1_code 3 "com/example/hashloom/cli/Point" "<init>" none) (X0 : Stand p l e ({ frames := 1, cells := 0, slots := 0, locals := 12 } : Room) s m args below meth c T0 locs 0 0) (e0 : T0.heap = h0) (N0 : Fr n0 locs)  (Z0 : n0 ≤ h0.size) (P0 : Exa Z h0 b0 "com/example/hashloom/cli/Point") (P1 : Fld Z h0 b0 "com/example/hashloom/cli/Point" "x" "I" (.int (0 : Int32))) (P2 : Fld Z h0 b0 "com/example/hashloom/cli/Point" "y" "I" (.int (0 : Int32))) (ge_b0 : n0 ≤ b0) :
    own_Dn p e below s (pi_Q Z b0 p1 p2 h0 n0) ({ frames := 1, cells := 0, slots := 0, locals := 12 } : Room).cells ({ frames := 1, cells := 0, slots := 0, locals := 12 } : Room).slots (T0.setTop (mkF m 0 #[.val (.ref b0), .val (.int p1), .val (.int p2)] [])) := by
  obtain ⟨hx, hZ, hw, hby, hml, hown, hret, hlk, hnm⟩ := id C0
  refine own_st (fun _ k => XS.aloadN X0.here hx rfl (hb hby pi_d0) rfl rfl k) ?_
  show own_Dn p e below s _ _ _ (T0.setTop (mkF m 1 #[.val (.ref b0), .val (.int p1), .val (.int p2)] [(.ref b0)]))
  obtain ⟨T14, X14, e14, st14⟩ := initO X0 hx hZ hown (hw _ (List.mem_of_getElem? (i := 6) rfl)) (hw _ (List.mem_of_getElem? (i := 7) rfl)) (hw _ (List.mem_of_getElem? (i := 8) rfl)) e0 (g := (mkF m 1 #[.val (.ref b0), .val (.int p1), .val (.int p2)] [(.ref b0)])) rfl (by rw [hml]; rfl) rfl (hb hby pi_d1) (by decide) (W := 0) (by show 2 * 0 + _ ≤ _; exact Nat.le_of_eq rfl) (by decide)
  refine own_st st14 ?_
  show own_Dn p e below s _ _ _ (T14.setTop (mkF m 4 #[.val (.ref b0), .val (.int p1), .val (.int p2)] []))
  refine own_st (fun _ k => XS.aloadN X14.here hx rfl (hb hby pi_d4) rfl rfl (XS.iloadN X14.here hx rfl (hb hby pi_d5) rfl k)) ?_
  show own_Dn p e below s _ _ _ (T14.setTop (mkF m 6 #[.val (.ref b0), .val (.int p1), .val (.int p2)] [(.int p1), (.ref b0)]))
  obtain ⟨T15, h15, X15, e15, W15, st15⟩ := putF X14 hx hZ hown (host := "") (Or.inl (hw _ (List.mem_of_getElem? (i := 9) rfl))) Via.refl e14 P1 P0 (Or.inr ⟨(hw _ (List.mem_of_getElem? (i := 10) rfl)), rfl, hnm⟩) (hw _ (List.mem_of_getElem? (i := 1) rfl)) (ty := .int) (v := (.int p1)) (by decide) rfl rfl (g := (mkF m 6 #[.val (.ref b0), .val (.int p1), .val (.int p2)] [(.int p1), (.ref b0)])) rfl rfl (hb hby pi_d6)
  have N15 := Fr.snoc X15 N0 ge_b0
  have F16 : n0 ≤ h15.size := Nat.le_trans Z0 (Keep.of_wr W15).1
  have F17 : Exa Z h15 b0 "com/example/hashloom/cli/Point" := P0.wr W15
  have F18 : Fld Z h15 b0 "com/example/hashloom/cli/Point" "x" "I" (.int p1) := P1.same W15
  have F19 : Fld Z h15 b0 "com/example/hashloom/cli/Point" "y" "I" (.int (0 : Int32)) := P2.other W15 (Or.inr (slot_ne (Or.inr (hw _ (List.mem_of_getElem? (i := 12) rfl))) (Or.inr (hw _ (List.mem_of_getElem? (i := 10) rfl))) (by decide) (t := .int) (t' := .int) (by decide) (by decide)))
  have F20 : Keep h0 h15 [b0] := (Keep.refl h0 [b0]).wr W15 (Or.inl (List.mem_of_getElem? (i := 0) rfl))
  refine own_st st15 ?_
  show own_Dn p e below s _ _ _ (T15.setTop (mkF m 9 #[.val (.ref b0), .val (.int p1), .val (.int p2)] []))
  refine own_st (fun _ k => XS.aloadN X15.here hx rfl (hb hby pi_d9) rfl rfl (XS.iloadN X15.here hx rfl (hb hby pi_d10) rfl k)) ?_
  show own_Dn p e below s _ _ _ (T15.setTop (mkF m 11 #[.val (.ref b0), .val (.int p1), .val (.int p2)] [(.int p2), (.ref b0)]))
  obtain ⟨T21, h21, X21, e21, W21, st21⟩ := putF X15 hx hZ hown (host := "") (Or.inl (hw _ (List.mem_of_getElem? (i := 11) rfl))) Via.refl e15 F19 F17 (Or.inr ⟨(hw _ (List.mem_of_getElem? (i := 12) rfl)), rfl, hnm⟩) (hw _ (List.mem_of_getElem? (i := 1) rfl)) (ty := .int) (v := (.int p2)) (by decide) rfl rfl (g := (mkF m 11 #[.val (.ref b0), .val (.int p1), .val (.int p2)] [(.int p2), (.ref b0)])) rfl rfl (hb hby pi_d11)
  have N21 := Fr.snoc X21 N15 ge_b0
  have F22 : n0 ≤ h21.size := Nat.le_trans F16 (Keep.of_wr W21).1
  have F23 : Exa Z h21 b0 "com/example/hashloom/cli/Point" := F17.wr W21
  have F24 : Fld Z h21 b0 "com/example/hashloom/cli/Point" "x" "I" (.int p1) := F18.other W21 (Or.inr (slot_ne (Or.inr (hw _ (List.mem_of_getElem? (i := 10) rfl))) (Or.inr (hw _ (List.mem_of_getElem? (i := 12) rfl))) (by decide) (t := .int) (t' := .int) (by decide) (by decide)))
  have F25 : Fld Z h21 b0 "com/example/hashloom/cli/Point" "y" "I" (.int p2) := F19.same W21
  have F26 : Keep h0 h21 [b0] := F20.wr W21 (Or.inl (List.mem_of_getElem? (i := 0) rfl))
  refine own_st st21 ?_
  show own_Dn p e below s _ _ _ (T21.setTop (mkF m 14 #[.val (.ref b0), .val (.int p1), .val (.int p2)] []))
  have eqH : T21.heap = h21 := e21
  exact own_retV X21 hx hret hlk (hb hby pi_d14) (by decide) (by decide) (by rw [eqH]; exact ⟨rfl, N21, F26, F23, F24, F25⟩)
theorem pi_ef (m : MethodId) (b0 : Addr) (p1 : Int32) (p2 : Int32) : entryFrame m #[(.ref b0), (.int p1), (.int p2)] 3 = mkF m 0 #[.val (.ref b0), .val (.int p1), .val (.int p2)] [] := by first | (simp [entryFrame, mkF, argsToLocals, Value.category]; done) | rfl
theorem pi_rm (l : Launch) (Z : State) (a0 : Array Value) (hw : ∀ d ∈ tables_1, d.before a0 Z = true) (ws : List Jvm.Cond) (b0 : Addr) (p1 : Int32) (p2 : Int32) (h0 : Heap) (n0 : Nat) (Z0 : n0 ≤ h0.size) (P0 : Exa Z h0 b0 "com/example/hashloom/cli/Point") (P1 : Fld Z h0 b0 "com/example/hashloom/cli/Point" "x" "I" (.int (0 : Int32))) (P2 : Fld Z h0 b0 "com/example/hashloom/cli/Point" "y" "I" (.int (0 : Int32))) (ge_b0 : n0 ≤ b0) :
    MetFree l (⟨"com/example/hashloom/cli/Point", "<init>", "(II)V"⟩ : MethodName) (head1 (Jvm.Cond.code (⟨"com/example/hashloom/cli/Point", "<init>", "(II)V"⟩ : MethodName) prog_27_method_1_code 3 none :: ws) ({ frames := 1, cells := 0, slots := 0, locals := 12 } : Room)) (fun a U => a = #[(.ref b0), (.int p1), (.int p2)] ∧ Z.Warmed39 U.vm ∧ U.heap = h0) (fun _ _ _ _ _ => True) (fun _ U o U' => ∃ v L, o = .returned v ∧ (pi_Q Z b0 p1 p2 h0 n0) v U'.heap L ∧ FrameEnd U o U' L ({ frames := 1, cells := 0, slots := 0, locals := 12 } : Room).cells ({ frames := 1, cells := 0, slots := 0, locals := 12 } : Room).slots) :=
  own_met hw (plainFor_of_name (by first | (simp [plainName, overriddenIn]; done) | decide +kernel)) (fun p e s m below meth c T0 C0 X0 e0 => own_st (fun _ k => castTop (pi_ef m b0 p1 p2) k) (pi_c0 C0 X0 e0 (Fr.nil n0) Z0 P0 P1 P2 ge_b0))
theorem ep_d0 : decode prog_27_method_2_code 0 = .ok (.aload_n 1, 1) := by decide +kernel
theorem ep_d1 : decode prog_27_method_2_code 1 = .ok (.instanceof 8, 3) := by decide +kernel
theorem ep_d4 : decode prog_27_method_2_code 4 = .ok (.ifCond .eq 34, 3) := by decide +kernel
theorem ep_d7 : decode prog_27_method_2_code 7 = .ok (.aload_n 1, 1) := by decide +kernel
theorem ep_d8 : decode prog_27_method_2_code 8 = .ok (.checkcast 8, 3) := by decide +kernel
theorem ep_d11 : decode prog_27_method_2_code 11 = .ok (.astore_n 2, 1) := by decide +kernel
theorem ep_d12 : decode prog_27_method_2_code 12 = .ok (.aload_n 2, 1) := by decide +kernel
theorem ep_d13 : decode prog_27_method_2_code 13 = .ok (.getfield 7, 3) := by decide +kernel
theorem ep_d16 : decode prog_27_method_2_code 16 = .ok (.aload_n 0, 1) := by decide +kernel
theorem ep_d17 : decode prog_27_method_2_code 17 = .ok (.getfield 7, 3) := by decide +kernel
theorem ep_d20 : decode prog_27_method_2_code 20 = .ok (.if_icmp .ne 18, 3) := by decide +kernel
theorem ep_d23 : decode prog_27_method_2_code 23 = .ok (.aload_n 2, 1) := by decide +kernel
theorem ep_d24 : decode prog_27_method_2_code 24 = .ok (.getfield 13, 3) := by decide +kernel
theorem ep_d27 : decode prog_27_method_2_code 27 = .ok (.aload_n 0, 1) := by decide +kernel
theorem ep_d28 : decode prog_27_method_2_code 28 = .ok (.getfield 13, 3) := by decide +kernel
theorem ep_d31 : decode prog_27_method_2_code 31 = .ok (.if_icmp .ne 7, 3) := by decide +kernel
theorem ep_d34 : decode prog_27_method_2_code 34 = .ok (.iconst 1, 1) := by decide +kernel
theorem ep_d35 : decode prog_27_method_2_code 35 = .ok (.goto 4, 3) := by decide +kernel
theorem ep_d38 : decode prog_27_method_2_code 38 = .ok (.iconst 0, 1) := by decide +kernel
theorem ep_d39 : decode prog_27_method_2_code 39 = .ok (.ireturn, 1) := by decide +kernel
def ep_f (w_x : Int32) (w_y : Int32) (v_x : Int32) (v_y : Int32)  : Int32 :=
  if v_x = w_x then
    if v_y = w_y then
      (1 : Int32)
    else
      (0 : Int32)
  else
    (0 : Int32)
set_option maxRecDepth 65536 in
set_option maxHeartbeats 40000000 in
theorem ep_c0 {l : Launch} {Z : State} {a0 : Array Value} {b0 : Addr} {b1 : Addr} {w_x : Int32} {w_y : Int32} {v_x : Int32} {v_y : Int32} {h0 : Heap} {n0 : Nat} {p : Program} {e : Env} {s : State} {m : MethodId} {args : Array Value} {below : List Frame} {meth : Method} {c : Code} {T0 : State} {locs : List Loc} {r0 : Int32} (C0 : own_Cx p s m meth c Z a0 prog_27_method_2_code 3 "com/example/hashloom/cli/Point" "equals" (some .boolean)) (X0 : Stand p l e ({ frames := 0, cells := 0, slots := 0, locals := 0 } : Room) s m args below meth c T0 locs 0 0) (e0 : T0.heap = h0) (N0 : Fr n0 locs)  (Z0 : n0 ≤ h0.size) (P0 : Fld Z h0 b0 "com/example/hashloom/cli/Point" "x" "I" (.int w_x)) (P1 : Fld Z h0 b0 "com/example/hashloom/cli/Point" "y" "I" (.int w_y)) (P2 : Exa Z h0 b1 "com/example/hashloom/cli/Point") (P3 : Fld Z h0 b1 "com/example/hashloom/cli/Point" "x" "I" (.int v_x)) (P4 : Fld Z h0 b1 "com/example/hashloom/cli/Point" "y" "I" (.int v_y)) (hr0 : r0 = ep_f w_x w_y v_x v_y ) :
    own_Dn p e below s (own_Q (some (.int r0)) n0 h0) ({ frames := 0, cells := 0, slots := 0, locals := 0 } : Room).cells ({ frames := 0, cells := 0, slots := 0, locals := 0 } : Room).slots (T0.setTop (mkF m 0 #[.val (.ref b0), .val (.ref b1), .unset] [])) := by
  obtain ⟨hx, hZ, hw, hby, hml, hown, hret, hlk, hnm⟩ := id C0
  refine own_st (fun _ k => XS.aloadN X0.here hx rfl (hb hby ep_d0) rfl rfl k) ?_
  show own_Dn p e below s _ _ _ (T0.setTop (mkF m 1 #[.val (.ref b0), .val (.ref b1), .unset] [(.ref b1)]))
  obtain ⟨T9, X9, e9, st9⟩ := instY X0 hx hZ hown (hw _ (List.mem_of_getElem? (i := 18) rfl)) e0 (Ins.self P2) (g := (mkF m 1 #[.val (.ref b0), .val (.ref b1), .unset] [(.ref b1)])) rfl rfl (hb hby ep_d1)
  refine own_st st9 ?_
  show own_Dn p e below s _ _ _ (T9.setTop (mkF m 4 #[.val (.ref b0), .val (.ref b1), .unset] [(.int (1 : Int32))]))
  refine own_st (fun _ k => XS.ifNo X9.here hx rfl (hb hby ep_d4) rfl ((if0 _ _).trans (feq (by decide : ¬ ((1 : Int32) = (0 : Int32)))).1) k) ?_
  show own_Dn p e below s _ _ _ (T9.setTop (mkF m 7 #[.val (.ref b0), .val (.ref b1), .unset] []))
  refine own_st (fun _ k => XS.aloadN X9.here hx rfl (hb hby ep_d7) rfl rfl k) ?_
  show own_Dn p e below s _ _ _ (T9.setTop (mkF m 8 #[.val (.ref b0), .val (.ref b1), .unset] [(.ref b1)]))
  obtain ⟨T10, X10, e10, st10⟩ := castY X9 hx hZ hown (hw _ (List.mem_of_getElem? (i := 18) rfl)) e9 (Ins.self P2) (g := (mkF m 8 #[.val (.ref b0), .val (.ref b1), .unset] [(.ref b1)])) rfl rfl (hb hby ep_d8)
  refine own_st st10 ?_
  show own_Dn p e below s _ _ _ (T10.setTop (mkF m 11 #[.val (.ref b0), .val (.ref b1), .unset] [(.ref b1)]))
  refine own_st (fun _ k => XS.astoreN X10.here hx rfl (hb hby ep_d11) rfl rfl (l' := #[.val (.ref b0), .val (.ref b1), .val (.ref b1)]) rfl (XS.aloadN X10.here hx rfl (hb hby ep_d12) rfl rfl k)) ?_
  show own_Dn p e below s _ _ _ (T10.setTop (mkF m 13 #[.val (.ref b0), .val (.ref b1), .val (.ref b1)] [(.ref b1)]))
  obtain ⟨T11, X11, e11, st11⟩ := getF X10 hx hZ hown (host := "") (Or.inl (hw _ (List.mem_of_getElem? (i := 9) rfl))) Via.refl e10 P3 (g := (mkF m 13 #[.val (.ref b0), .val (.ref b1), .val (.ref b1)] [(.ref b1)])) rfl rfl (hb hby ep_d13)
  refine own_st st11 ?_
  show own_Dn p e below s _ _ _ (T11.setTop (mkF m 16 #[.val (.ref b0), .val (.ref b1), .val (.ref b1)] [(.int v_x)]))
  refine own_st (fun _ k => XS.aloadN X11.here hx rfl (hb hby ep_d16) rfl rfl k) ?_
  show own_Dn p e below s _ _ _ (T11.setTop (mkF m 17 #[.val (.ref b0), .val (.ref b1), .val (.ref b1)] [(.ref b0), (.int v_x)]))
  obtain ⟨T12, X12, e12, st12⟩ := getF X11 hx hZ hown (host := "") (Or.inl (hw _ (List.mem_of_getElem? (i := 9) rfl))) Via.refl e11 P0 (g := (mkF m 17 #[.val (.ref b0), .val (.ref b1), .val (.ref b1)] [(.ref b0), (.int v_x)])) rfl rfl (hb hby ep_d17)
  refine own_st st12 ?_
  show own_Dn p e below s _ _ _ (T12.setTop (mkF m 20 #[.val (.ref b0), .val (.ref b1), .val (.ref b1)] [(.int w_x), (.int v_x)]))
  by_cases hc13 : v_x = w_x
  · refine own_st (fun _ k => XS.icmpNo X12.here hx rfl (hb hby ep_d20) rfl (teq hc13).2 k) ?_
    show own_Dn p e below s _ _ _ (T12.setTop (mkF m 23 #[.val (.ref b0), .val (.ref b1), .val (.ref b1)] []))
    refine own_st (fun _ k => XS.aloadN X12.here hx rfl (hb hby ep_d23) rfl rfl k) ?_
    show own_Dn p e below s _ _ _ (T12.setTop (mkF m 24 #[.val (.ref b0), .val (.ref b1), .val (.ref b1)] [(.ref b1)]))
    obtain ⟨T14, X14, e14, st14⟩ := getF X12 hx hZ hown (host := "") (Or.inl (hw _ (List.mem_of_getElem? (i := 11) rfl))) Via.refl e12 P4 (g := (mkF m 24 #[.val (.ref b0), .val (.ref b1), .val (.ref b1)] [(.ref b1)])) rfl rfl (hb hby ep_d24)
    refine own_st st14 ?_
    show own_Dn p e below s _ _ _ (T14.setTop (mkF m 27 #[.val (.ref b0), .val (.ref b1), .val (.ref b1)] [(.int v_y)]))
    refine own_st (fun _ k => XS.aloadN X14.here hx rfl (hb hby ep_d27) rfl rfl k) ?_
    show own_Dn p e below s _ _ _ (T14.setTop (mkF m 28 #[.val (.ref b0), .val (.ref b1), .val (.ref b1)] [(.ref b0), (.int v_y)]))
    obtain ⟨T15, X15, e15, st15⟩ := getF X14 hx hZ hown (host := "") (Or.inl (hw _ (List.mem_of_getElem? (i := 11) rfl))) Via.refl e14 P1 (g := (mkF m 28 #[.val (.ref b0), .val (.ref b1), .val (.ref b1)] [(.ref b0), (.int v_y)])) rfl rfl (hb hby ep_d28)
    refine own_st st15 ?_
    show own_Dn p e below s _ _ _ (T15.setTop (mkF m 31 #[.val (.ref b0), .val (.ref b1), .val (.ref b1)] [(.int w_y), (.int v_y)]))
    by_cases hc16 : v_y = w_y
    · refine own_st (fun _ k => XS.icmpNo X15.here hx rfl (hb hby ep_d31) rfl (teq hc16).2 k) ?_
      show own_Dn p e below s _ _ _ (T15.setTop (mkF m 34 #[.val (.ref b0), .val (.ref b1), .val (.ref b1)] []))
      refine own_st (fun _ k => XS.iconst X15.here hx rfl (hb hby ep_d34) (XS.goto X15.here hx rfl (pc0 := 35) (pc' := 39) rfl (hb hby ep_d35) (by decide) (by decide) k)) ?_
      show own_Dn p e below s _ _ _ (T15.setTop (mkF m 39 #[.val (.ref b0), .val (.ref b1), .val (.ref b1)] [(.int (1 : Int32))]))
      exact own_retZ X15 hx hret hlk (by decide) (hb hby ep_d39) (by decide) (by decide) ⟨(by rw [hr0, ep_f, if_pos hc13, if_pos hc16]), N0, e15⟩
    · refine own_st (fun _ k => XS.icmpYes X15.here hx rfl (pc0 := 31) (pc' := 38) rfl (hb hby ep_d31) rfl (feq hc16).2 (by decide) (by decide) k) ?_
      show own_Dn p e below s _ _ _ (T15.setTop (mkF m 38 #[.val (.ref b0), .val (.ref b1), .val (.ref b1)] []))
      refine own_st (fun _ k => XS.iconst X15.here hx rfl (hb hby ep_d38) k) ?_
      show own_Dn p e below s _ _ _ (T15.setTop (mkF m 39 #[.val (.ref b0), .val (.ref b1), .val (.ref b1)] [(.int (0 : Int32))]))
      exact own_retZ X15 hx hret hlk (by decide) (hb hby ep_d39) (by decide) (by decide) ⟨(by rw [hr0, ep_f, if_pos hc13, if_neg hc16]), N0, e15⟩
  · refine own_st (fun _ k => XS.icmpYes X12.here hx rfl (pc0 := 20) (pc' := 38) rfl (hb hby ep_d20) rfl (feq hc13).2 (by decide) (by decide) k) ?_
    show own_Dn p e below s _ _ _ (T12.setTop (mkF m 38 #[.val (.ref b0), .val (.ref b1), .val (.ref b1)] []))
    refine own_st (fun _ k => XS.iconst X12.here hx rfl (hb hby ep_d38) k) ?_
    show own_Dn p e below s _ _ _ (T12.setTop (mkF m 39 #[.val (.ref b0), .val (.ref b1), .val (.ref b1)] [(.int (0 : Int32))]))
    exact own_retZ X12 hx hret hlk (by decide) (hb hby ep_d39) (by decide) (by decide) ⟨(by rw [hr0, ep_f, if_neg hc13]), N0, e12⟩
theorem ep_ef (m : MethodId) (b0 : Addr) (b1 : Addr) : entryFrame m #[(.ref b0), (.ref b1)] 3 = mkF m 0 #[.val (.ref b0), .val (.ref b1), .unset] [] := by first | (simp [entryFrame, mkF, argsToLocals, Value.category]; done) | rfl
theorem ep_rm (l : Launch) (Z : State) (a0 : Array Value) (hw : ∀ d ∈ tables_1, d.before a0 Z = true) (ws : List Jvm.Cond) (b0 : Addr) (b1 : Addr) (w_x : Int32) (w_y : Int32) (v_x : Int32) (v_y : Int32) (h0 : Heap) (n0 : Nat) (Z0 : n0 ≤ h0.size) (P0 : Fld Z h0 b0 "com/example/hashloom/cli/Point" "x" "I" (.int w_x)) (P1 : Fld Z h0 b0 "com/example/hashloom/cli/Point" "y" "I" (.int w_y)) (P2 : Exa Z h0 b1 "com/example/hashloom/cli/Point") (P3 : Fld Z h0 b1 "com/example/hashloom/cli/Point" "x" "I" (.int v_x)) (P4 : Fld Z h0 b1 "com/example/hashloom/cli/Point" "y" "I" (.int v_y)) :
    MetFree l (⟨"com/example/hashloom/cli/Point", "equals", "(Ljava/lang/Object;)Z"⟩ : MethodName) (head1 (Jvm.Cond.code (⟨"com/example/hashloom/cli/Point", "equals", "(Ljava/lang/Object;)Z"⟩ : MethodName) prog_27_method_2_code 3 (some .boolean) :: ws) ({ frames := 0, cells := 0, slots := 0, locals := 0 } : Room)) (fun a U => a = #[(.ref b0), (.ref b1)] ∧ Z.Warmed39 U.vm ∧ U.heap = h0) (fun _ _ _ _ _ => True) (fun _ U o U' => ∃ v L, o = .returned v ∧ (own_Q (some (.int (ep_f w_x w_y v_x v_y))) n0 h0) v U'.heap L ∧ FrameEnd U o U' L ({ frames := 0, cells := 0, slots := 0, locals := 0 } : Room).cells ({ frames := 0, cells := 0, slots := 0, locals := 0 } : Room).slots) :=
  own_met hw (plainFor_of_name (by first | (simp [plainName, overriddenIn]; done) | decide +kernel)) (fun p e s m below meth c T0 C0 X0 e0 => own_st (fun _ k => castTop (ep_ef m b0 b1) k) (ep_c0 C0 X0 e0 (Fr.nil n0) Z0 P0 P1 P2 P3 P4 rfl))
theorem en_d0 : decode prog_27_method_2_code 0 = .ok (.aload_n 1, 1) := by decide +kernel
theorem en_d1 : decode prog_27_method_2_code 1 = .ok (.instanceof 8, 3) := by decide +kernel
theorem en_d4 : decode prog_27_method_2_code 4 = .ok (.ifCond .eq 34, 3) := by decide +kernel
theorem en_d38 : decode prog_27_method_2_code 38 = .ok (.iconst 0, 1) := by decide +kernel
theorem en_d39 : decode prog_27_method_2_code 39 = .ok (.ireturn, 1) := by decide +kernel
def en_f   : Int32 :=
  (0 : Int32)
set_option maxRecDepth 65536 in
set_option maxHeartbeats 40000000 in
theorem en_c0 {l : Launch} {Z : State} {a0 : Array Value} {b0 : Addr} {h0 : Heap} {n0 : Nat} {p : Program} {e : Env} {s : State} {m : MethodId} {args : Array Value} {below : List Frame} {meth : Method} {c : Code} {T0 : State} {locs : List Loc} {r0 : Int32} (C0 : own_Cx p s m meth c Z a0 prog_27_method_2_code 3 "com/example/hashloom/cli/Point" "equals" (some .boolean)) (X0 : Stand p l e ({ frames := 0, cells := 0, slots := 0, locals := 0 } : Room) s m args below meth c T0 locs 0 0) (e0 : T0.heap = h0) (N0 : Fr n0 locs)  (Z0 : n0 ≤ h0.size) (hr0 : r0 = en_f  ) :
    own_Dn p e below s (own_Q (some (.int r0)) n0 h0) ({ frames := 0, cells := 0, slots := 0, locals := 0 } : Room).cells ({ frames := 0, cells := 0, slots := 0, locals := 0 } : Room).slots (T0.setTop (mkF m 0 #[.val (.ref b0), .val .null, .unset] [])) := by
  obtain ⟨hx, hZ, hw, hby, hml, hown, hret, hlk, hnm⟩ := id C0
  refine own_st (fun _ k => XS.aloadN X0.here hx rfl (hb hby en_d0) rfl rfl k) ?_
  show own_Dn p e below s _ _ _ (T0.setTop (mkF m 1 #[.val (.ref b0), .val .null, .unset] [.null]))
  refine own_st (X0.instanceofNull hx (g := (mkF m 1 #[.val (.ref b0), .val .null, .unset] [.null])) rfl rfl (hb hby en_d1)) ?_
  show own_Dn p e below s _ _ _ (T0.setTop (mkF m 4 #[.val (.ref b0), .val .null, .unset] [(.int (0 : Int32))]))
  refine own_st (fun _ k => XS.ifYes X0.here hx rfl (pc0 := 4) (pc' := 38) rfl (hb hby en_d4) rfl ((if0 _ _).trans (teq (by decide : (0 : Int32) = (0 : Int32))).1) (by decide) (by decide) k) ?_
  show own_Dn p e below s _ _ _ (T0.setTop (mkF m 38 #[.val (.ref b0), .val .null, .unset] []))
  refine own_st (fun _ k => XS.iconst X0.here hx rfl (hb hby en_d38) k) ?_
  show own_Dn p e below s _ _ _ (T0.setTop (mkF m 39 #[.val (.ref b0), .val .null, .unset] [(.int (0 : Int32))]))
  exact own_retZ X0 hx hret hlk (by decide) (hb hby en_d39) (by decide) (by decide) ⟨(by rw [hr0, en_f]), N0, e0⟩
theorem en_ef (m : MethodId) (b0 : Addr) : entryFrame m #[(.ref b0), .null] 3 = mkF m 0 #[.val (.ref b0), .val .null, .unset] [] := by first | (simp [entryFrame, mkF, argsToLocals, Value.category]; done) | rfl
theorem en_rm (l : Launch) (Z : State) (a0 : Array Value) (hw : ∀ d ∈ tables_1, d.before a0 Z = true) (ws : List Jvm.Cond) (b0 : Addr) (h0 : Heap) (n0 : Nat) (Z0 : n0 ≤ h0.size) :
    MetFree l (⟨"com/example/hashloom/cli/Point", "equals", "(Ljava/lang/Object;)Z"⟩ : MethodName) (head1 (Jvm.Cond.code (⟨"com/example/hashloom/cli/Point", "equals", "(Ljava/lang/Object;)Z"⟩ : MethodName) prog_27_method_2_code 3 (some .boolean) :: ws) ({ frames := 0, cells := 0, slots := 0, locals := 0 } : Room)) (fun a U => a = #[(.ref b0), .null] ∧ Z.Warmed39 U.vm ∧ U.heap = h0) (fun _ _ _ _ _ => True) (fun _ U o U' => ∃ v L, o = .returned v ∧ (own_Q (some (.int (en_f ))) n0 h0) v U'.heap L ∧ FrameEnd U o U' L ({ frames := 0, cells := 0, slots := 0, locals := 0 } : Room).cells ({ frames := 0, cells := 0, slots := 0, locals := 0 } : Room).slots) :=
  own_met hw (plainFor_of_name (by first | (simp [plainName, overriddenIn]; done) | decide +kernel)) (fun p e s m below meth c T0 C0 X0 e0 => own_st (fun _ k => castTop (en_ef m b0) k) (en_c0 C0 X0 e0 (Fr.nil n0) Z0  rfl))
def own_IE (f : Nat → Value) (Z : State) (h : Heap) : Prop := ∀ i, i < 256 → ∃ r, f i = .ref r ∧ Exa Z h r "java/lang/Integer"
theorem own_IE.ext {f : Nat → Value} {Z : State} {h h' : Heap} (F : own_IE f Z h) (E : Ext h h') : own_IE f Z h' := fun i hi => by
  obtain ⟨r, e, x⟩ := F i hi
  exact ⟨r, e, x.ext E⟩
theorem own_IE.keep1 {f : Nat → Value} {Z : State} {h h' : Heap} {a : Addr} {C : String} (F : own_IE f Z h) (K : Keep h h' [a]) (_ : Exa Z h a C) : own_IE f Z h' := fun i hi => by
  obtain ⟨r, e, x⟩ := F i hi
  exact ⟨r, e, x.keep K⟩
theorem own_IE.keep0 {f : Nat → Value} {Z : State} {h h' : Heap} (F : own_IE f Z h) (K : Keep h h' []) : own_IE f Z h' := fun i hi => by
  obtain ⟨r, e, x⟩ := F i hi
  exact ⟨r, e, x.keep K⟩
theorem own_IE.wr {f : Nat → Value} {Z : State} {h h' : Heap} {a : Addr} {C : String} {sl : Nat} {v : Value} (F : own_IE f Z h) (W : Wr h h' a sl v) (_ : Exa Z h a C) : own_IE f Z h' := fun i hi => by
  obtain ⟨r, e, x⟩ := F i hi
  exact ⟨r, e, x.wr W⟩
theorem own_bc {p0 : Int32} (h1 : ¬ p0 < (-128 : Int32)) (h2 : ¬ (127 : Int32) < p0) : ¬ (p0 + (128 : Int32)) < 0 ∧ (p0 + (128 : Int32)).toNatClampNeg < 256 := by
  have e := c_iadd p0 128
  have r := rng32 (p0 + 128)
  simp only [Int32.lt_iff_toInt_lt, Int32.toNatClampNeg, Int32.reduceToInt] at h1 h2 e ⊢
  omega
theorem own_IE.start {args : Array Value} {s : State} {t : Term} {w : Addr} {f : Nat → Value} (ev : ∀ idx, t.eval args s none idx s = some (.ref w))
    (A : own_Arf s s.heap w (.object "java/lang/Integer") 256 f) {c2 : Jvm.Cond} (hall : (Jvm.Cond.all t (Jvm.Cond.and (Jvm.Cond.exactly (Term.elem t (Term.index 0)) "java/lang/Integer") c2)).value args s none s [] = some true) : own_IE f s s.heap := by
  obtain ⟨c, A, hsz, h31, hfi⟩ := A
  have hat : s.arrayAt? w = some c := Arr.fin (State.Warmed39.refl s).alike A
  intro i hi
  have v := (and_e (Cond.all_elim (ev []) hat hall i (by omega))).1
  have e3 := len_toInt (n := i) (by omega)
  have hn : ¬ i.toInt32 < 0 := by rw [Int32.lt_iff_toInt_lt, e3]; simp
  have hk : i.toInt32.toNatClampNeg = i := by simp only [Int32.toNatClampNeg, e3]; rfl
  have ee : (Term.elem t (Term.index 0)).eval args s none [i] s = some (f i) := by
    rw [elem_f (ev [i]) (Term.index_eval i) hat hn, hk]; exact hfi i hi
  cases hq : f i with
  | ref r => exact ⟨r, rfl, exa_at (by rw [ee, hq]) v⟩
  | null => rw [hq] at ee; simp only [Cond.value, ee] at v; split at v <;> simp_all
  | _ => rw [hq] at ee; simp [Cond.value, ee] at v
theorem own_notins {Z : State} {a0 : Array Value} (hw : ∀ d ∈ tables_1, d.before a0 Z = true) : ∃ c t, Z.vm.findClass "java/lang/Integer" = some c ∧ Z.vm.findClass "com/example/hashloom/cli/Point" = some t ∧ Z.vm.assignable c t = false := by
  obtain ⟨t, kt, t1, t2, t3, t4, -, -⟩ := Cond.instantiable_spec (hw _ (List.mem_of_getElem? (i := 1) rfl))
  obtain ⟨c, k, c1, c2, c3, c4, -, -⟩ := Cond.instantiable_spec (hw _ (List.mem_of_getElem? (i := 27) rfl))
  obtain ⟨n, k', kn, n1, n2, n3, n4, -⟩ := Cond.superclass_spec c1 (hw _ (List.mem_of_getElem? (i := 41) rfl))
  obtain ⟨o, k'', ko, o1, o2, o3, o4, -⟩ := Cond.superclass_spec n1 (hw _ (List.mem_of_getElem? (i := 42) rfl))
  obtain ⟨o', ko', q1, q2, q3, -, -⟩ := Cond.noSuperclass_spec (hw _ (List.mem_of_getElem? (i := 43) rfl))
  cases o1.symm.trans q1
  have ne1 : c ≠ t := ids_ne c1 t1 (by decide)
  have ne2 : n ≠ t := ids_ne n1 t1 (by decide)
  have ne3 : o ≠ t := ids_ne o1 t1 (by decide)
  have s3 : ∀ fuel, Z.vm.isSubclassAux fuel o t = false := fun fuel => by
    cases fuel with
    | zero => rfl
    | succ f => simp [Vm.isSubclassAux, ne3, q2, q3]
  have s2 : ∀ fuel, Z.vm.isSubclassAux fuel n t = false := fun fuel => by
    cases fuel with
    | zero => rfl
    | succ f => simp [Vm.isSubclassAux, ne2, o2, o4, s3]
  have s1 : ∀ fuel, Z.vm.isSubclassAux fuel c t = false := fun fuel => by
    cases fuel with
    | zero => rfl
    | succ f => simp [Vm.isSubclassAux, ne1, n2, n4, s2]
  have t5 : kt.isInterface = false := by
    cases hk : kt.isInterface
    · rfl
    · rw [hk] at t4; simp at t4
  refine ⟨c, t, c1, t1, ?_⟩
  show Z.vm.assignableAux (255 + 1) c t = false
  simp [Vm.assignableAux, ne1, c2, t2, c3, t3, t5, Vm.isSubclass, s1]
theorem ei_d0 : decode prog_27_method_2_code 0 = .ok (.aload_n 1, 1) := by decide +kernel
theorem ei_d1 : decode prog_27_method_2_code 1 = .ok (.instanceof 8, 3) := by decide +kernel
theorem ei_d4 : decode prog_27_method_2_code 4 = .ok (.ifCond .eq 34, 3) := by decide +kernel
theorem ei_d38 : decode prog_27_method_2_code 38 = .ok (.iconst 0, 1) := by decide +kernel
theorem ei_d39 : decode prog_27_method_2_code 39 = .ok (.ireturn, 1) := by decide +kernel
def ei_f   : Int32 :=
  (0 : Int32)
set_option maxRecDepth 65536 in
set_option maxHeartbeats 40000000 in
theorem ei_c0 {l : Launch} {Z : State} {a0 : Array Value} {b0 : Addr} {b1 : Addr} {h0 : Heap} {n0 : Nat} {p : Program} {e : Env} {s : State} {m : MethodId} {args : Array Value} {below : List Frame} {meth : Method} {c : Code} {T0 : State} {locs : List Loc} {r0 : Int32} (C0 : own_Cx p s m meth c Z a0 prog_27_method_2_code 3 "com/example/hashloom/cli/Point" "equals" (some .boolean)) (X0 : Stand p l e ({ frames := 0, cells := 0, slots := 0, locals := 0 } : Room) s m args below meth c T0 locs 0 0) (e0 : T0.heap = h0) (N0 : Fr n0 locs)  (Z0 : n0 ≤ h0.size) (P0 : Exa Z h0 b1 "java/lang/Integer") (hr0 : r0 = ei_f  ) :
    own_Dn p e below s (own_Q (some (.int r0)) n0 h0) ({ frames := 0, cells := 0, slots := 0, locals := 0 } : Room).cells ({ frames := 0, cells := 0, slots := 0, locals := 0 } : Room).slots (T0.setTop (mkF m 0 #[.val (.ref b0), .val (.ref b1), .unset] [])) := by
  obtain ⟨hx, hZ, hw, hby, hml, hown, hret, hlk, hnm⟩ := id C0
  refine own_st (fun _ k => XS.aloadN X0.here hx rfl (hb hby ei_d0) rfl rfl k) ?_
  show own_Dn p e below s _ _ _ (T0.setTop (mkF m 1 #[.val (.ref b0), .val (.ref b1), .unset] [(.ref b1)]))
  obtain ⟨T2, X2, e2, st2⟩ := instNo X0 hx hZ hown (hw _ (List.mem_of_getElem? (i := 18) rfl)) e0 P0 (own_notins hw) (g := (mkF m 1 #[.val (.ref b0), .val (.ref b1), .unset] [(.ref b1)])) rfl rfl (hb hby ei_d1)
  refine own_st st2 ?_
  show own_Dn p e below s _ _ _ (T2.setTop (mkF m 4 #[.val (.ref b0), .val (.ref b1), .unset] [(.int (0 : Int32))]))
  refine own_st (fun _ k => XS.ifYes X2.here hx rfl (pc0 := 4) (pc' := 38) rfl (hb hby ei_d4) rfl ((if0 _ _).trans (teq (by decide : (0 : Int32) = (0 : Int32))).1) (by decide) (by decide) k) ?_
  show own_Dn p e below s _ _ _ (T2.setTop (mkF m 38 #[.val (.ref b0), .val (.ref b1), .unset] []))
  refine own_st (fun _ k => XS.iconst X2.here hx rfl (hb hby ei_d38) k) ?_
  show own_Dn p e below s _ _ _ (T2.setTop (mkF m 39 #[.val (.ref b0), .val (.ref b1), .unset] [(.int (0 : Int32))]))
  exact own_retZ X2 hx hret hlk (by decide) (hb hby ei_d39) (by decide) (by decide) ⟨(by rw [hr0, ei_f]), N0, e2⟩
theorem ei_ef (m : MethodId) (b0 : Addr) (b1 : Addr) : entryFrame m #[(.ref b0), (.ref b1)] 3 = mkF m 0 #[.val (.ref b0), .val (.ref b1), .unset] [] := by first | (simp [entryFrame, mkF, argsToLocals, Value.category]; done) | rfl
theorem ei_rm (l : Launch) (Z : State) (a0 : Array Value) (hw : ∀ d ∈ tables_1, d.before a0 Z = true) (ws : List Jvm.Cond) (b0 : Addr) (b1 : Addr) (h0 : Heap) (n0 : Nat) (Z0 : n0 ≤ h0.size) (P0 : Exa Z h0 b1 "java/lang/Integer") :
    MetFree l (⟨"com/example/hashloom/cli/Point", "equals", "(Ljava/lang/Object;)Z"⟩ : MethodName) (head1 (Jvm.Cond.code (⟨"com/example/hashloom/cli/Point", "equals", "(Ljava/lang/Object;)Z"⟩ : MethodName) prog_27_method_2_code 3 (some .boolean) :: ws) ({ frames := 0, cells := 0, slots := 0, locals := 0 } : Room)) (fun a U => a = #[(.ref b0), (.ref b1)] ∧ Z.Warmed39 U.vm ∧ U.heap = h0) (fun _ _ _ _ _ => True) (fun _ U o U' => ∃ v L, o = .returned v ∧ (own_Q (some (.int (ei_f ))) n0 h0) v U'.heap L ∧ FrameEnd U o U' L ({ frames := 0, cells := 0, slots := 0, locals := 0 } : Room).cells ({ frames := 0, cells := 0, slots := 0, locals := 0 } : Room).slots) :=
  own_met hw (plainFor_of_name (by first | (simp [plainName, overriddenIn]; done) | decide +kernel)) (fun p e s m below meth c T0 C0 X0 e0 => own_st (fun _ k => castTop (ei_ef m b0 b1) k) (ei_c0 C0 X0 e0 (Fr.nil n0) Z0 P0 rfl))
theorem ni_d0 : decode jdk_18_method_1_code 0 = .ok (.aload_n 0, 1) := by decide +kernel
theorem ni_d1 : decode jdk_18_method_1_code 1 = .ok (.invokespecial 1, 3) := by decide +kernel
theorem ni_d4 : decode jdk_18_method_1_code 4 = .ok (.return_, 1) := by decide +kernel
set_option maxRecDepth 65536 in
set_option maxHeartbeats 40000000 in
theorem ni_c0 {l : Launch} {Z : State} {a0 : Array Value} {b0 : Addr} {h0 : Heap} {n0 : Nat} {p : Program} {e : Env} {s : State} {m : MethodId} {args : Array Value} {below : List Frame} {meth : Method} {c : Code} {T0 : State} {locs : List Loc} (C0 : own_Cx p s m meth c Z a0 jdk_18_method_1_code 1 "java/lang/Number" "<init>" none) (X0 : Stand p l e ({ frames := 1, cells := 0, slots := 0, locals := 12 } : Room) s m args below meth c T0 locs 0 0) (e0 : T0.heap = h0) (N0 : Fr n0 locs)  (Z0 : n0 ≤ h0.size) :
    own_Dn p e below s (own_Q none n0 h0) ({ frames := 1, cells := 0, slots := 0, locals := 12 } : Room).cells ({ frames := 1, cells := 0, slots := 0, locals := 12 } : Room).slots (T0.setTop (mkF m 0 #[.val (.ref b0)] [])) := by
  obtain ⟨hx, hZ, hw, hby, hml, hown, hret, hlk, hnm⟩ := id C0
  refine own_st (fun _ k => XS.aloadN X0.here hx rfl (hb hby ni_d0) rfl rfl k) ?_
  show own_Dn p e below s _ _ _ (T0.setTop (mkF m 1 #[.val (.ref b0)] [(.ref b0)]))
  obtain ⟨T2, X2, e2, st2⟩ := initO X0 hx hZ hown (hw _ (List.mem_of_getElem? (i := 38) rfl)) (hw _ (List.mem_of_getElem? (i := 7) rfl)) (hw _ (List.mem_of_getElem? (i := 8) rfl)) e0 (g := (mkF m 1 #[.val (.ref b0)] [(.ref b0)])) rfl (by rw [hml]; rfl) rfl (hb hby ni_d1) (by decide) (W := 0) (by show 2 * 0 + _ ≤ _; exact Nat.le_of_eq rfl) (by decide)
  refine own_st st2 ?_
  show own_Dn p e below s _ _ _ (T2.setTop (mkF m 4 #[.val (.ref b0)] []))
  exact own_retV X2 hx hret hlk (hb hby ni_d4) (by decide) (by decide) ⟨rfl, N0, e2⟩
theorem ni_ef (m : MethodId) (b0 : Addr) : entryFrame m #[(.ref b0)] 1 = mkF m 0 #[.val (.ref b0)] [] := by first | (simp [entryFrame, mkF, argsToLocals, Value.category]; done) | rfl
theorem ni_rm (l : Launch) (Z : State) (a0 : Array Value) (hw : ∀ d ∈ tables_1, d.before a0 Z = true) (ws : List Jvm.Cond) (b0 : Addr) (h0 : Heap) (n0 : Nat) (Z0 : n0 ≤ h0.size) :
    MetFree l (⟨"java/lang/Number", "<init>", "()V"⟩ : MethodName) (head1 (Jvm.Cond.code (⟨"java/lang/Number", "<init>", "()V"⟩ : MethodName) jdk_18_method_1_code 1 none :: ws) ({ frames := 1, cells := 0, slots := 0, locals := 12 } : Room)) (fun a U => a = #[(.ref b0)] ∧ Z.Warmed39 U.vm ∧ U.heap = h0) (fun _ _ _ _ _ => True) (fun _ U o U' => ∃ v L, o = .returned v ∧ (own_Q none n0 h0) v U'.heap L ∧ FrameEnd U o U' L ({ frames := 1, cells := 0, slots := 0, locals := 12 } : Room).cells ({ frames := 1, cells := 0, slots := 0, locals := 12 } : Room).slots) :=
  own_met hw (plainFor_of_name (by first | (simp [plainName, overriddenIn]; done) | decide +kernel)) (fun p e s m below meth c T0 C0 X0 e0 => own_st (fun _ k => castTop (ni_ef m b0) k) (ni_c0 C0 X0 e0 (Fr.nil n0) Z0 ))
theorem ii_d0 : decode jdk_33_method_23_code 0 = .ok (.aload_n 0, 1) := by decide +kernel
theorem ii_d1 : decode jdk_33_method_23_code 1 = .ok (.invokespecial 202, 3) := by decide +kernel
theorem ii_d4 : decode jdk_33_method_23_code 4 = .ok (.aload_n 0, 1) := by decide +kernel
theorem ii_d5 : decode jdk_33_method_23_code 5 = .ok (.iload_n 1, 1) := by decide +kernel
theorem ii_d6 : decode jdk_33_method_23_code 6 = .ok (.putfield 205, 3) := by decide +kernel
theorem ii_d9 : decode jdk_33_method_23_code 9 = .ok (.return_, 1) := by decide +kernel
def ii_Q (Z : State) (b0 : Addr) (p1 : Int32) (h0 : Heap) (n0 : Nat) (v : Option Value) (h : Heap) (L : List Loc) : Prop := v = none ∧ Fr n0 L ∧ Keep h0 h [b0] ∧ Exa Z h b0 "java/lang/Integer"
set_option maxRecDepth 65536 in
set_option maxHeartbeats 40000000 in
theorem ii_c0 {l : Launch} {Z : State} {a0 : Array Value} {b0 : Addr} {p1 : Int32} {h0 : Heap} {n0 : Nat} {p : Program} {e : Env} {s : State} {m : MethodId} {args : Array Value} {below : List Frame} {meth : Method} {c : Code} {T0 : State} {locs : List Loc} (C0 : own_Cx p s m meth c Z a0 jdk_33_method_23_code 2 "java/lang/Integer" "<init>" none) (X0 : Stand p l e ({ frames := 2, cells := 0, slots := 0, locals := 24 } : Room) s m args below meth c T0 locs 0 0) (e0 : T0.heap = h0) (N0 : Fr n0 locs)  (Z0 : n0 ≤ h0.size) (P0 : Exa Z h0 b0 "java/lang/Integer") (P1 : Fld Z h0 b0 "java/lang/Integer" "value" "I" (.int (0 : Int32))) (ge_b0 : n0 ≤ b0) :
    own_Dn p e below s (ii_Q Z b0 p1 h0 n0) ({ frames := 2, cells := 0, slots := 0, locals := 24 } : Room).cells ({ frames := 2, cells := 0, slots := 0, locals := 24 } : Room).slots (T0.setTop (mkF m 0 #[.val (.ref b0), .val (.int p1)] [])) := by
  obtain ⟨hx, hZ, hw, hby, hml, hown, hret, hlk, hnm⟩ := id C0
  refine own_st (fun _ k => XS.aloadN X0.here hx rfl (hb hby ii_d0) rfl rfl k) ?_
  show own_Dn p e below s _ _ _ (T0.setTop (mkF m 1 #[.val (.ref b0), .val (.int p1)] [(.ref b0)]))
  obtain ⟨_, _, ⟨T7, L7, k7, n7⟩, -, X7, ⟨Lc7, hQ7, l7, y7, z7⟩, st7⟩ := X0.specialBack hx (y := (⟨"java/lang/Number", "<init>", "()V"⟩ : MethodName)) rfl hown (mvT hZ (hw _ (List.mem_of_getElem? (i := 32) rfl))) (mvT hZ (hw _ (List.mem_of_getElem? (i := 33) rfl))) (mvT hZ (hw _ (List.mem_of_getElem? (i := 37) rfl))) (by decide) (backOf (W := 0) (ni_rm l Z a0 hw [] (b0) h0 n0 Z0 ) hZ (hw _ (List.mem_of_getElem? (i := 37) rfl)) (hw _ (List.mem_of_getElem? (i := 36) rfl)) (by decide) (by decide)) (g := (mkF m 1 #[.val (.ref b0), .val (.int p1)] [(.ref b0)])) rfl (by rw [hml]; rfl) (Steps.refl _) (a := b0) (argsL := []) (rest := []) (lenOf own_pd0 rfl) rfl (by show 2 * 0 + _ ≤ _; exact Nat.le_of_eq rfl) (hb hby ii_d1) (fun _ _ => ⟨rfl, e0, (by decide : 0 + 0 ≤ _), (by decide : 0 + 0 ≤ _)⟩)
  dsimp only [Pt.U, Pt.locs, Pt.cells, Pt.slots] at X7 l7 y7 z7 st7 hQ7
  subst l7 y7 z7
  obtain ⟨rfl, N7q, e7⟩ := hQ7
  have N7 := Fr.app N0 N7q
  refine own_tr st7 ?_
  show own_Dn p e below s _ _ _ (T7.setTop (mkF m 4 #[.val (.ref b0), .val (.int p1)] []))
  refine own_st (fun _ k => XS.aloadN X7.here hx rfl (hb hby ii_d4) rfl rfl (XS.iloadN X7.here hx rfl (hb hby ii_d5) rfl k)) ?_
  show own_Dn p e below s _ _ _ (T7.setTop (mkF m 6 #[.val (.ref b0), .val (.int p1)] [(.int p1), (.ref b0)]))
  obtain ⟨T8, h8, X8, e8, W8, st8⟩ := putF X7 hx hZ hown (host := "") (Or.inl (hw _ (List.mem_of_getElem? (i := 39) rfl))) Via.refl e7 P1 P0 (Or.inr ⟨(hw _ (List.mem_of_getElem? (i := 40) rfl)), rfl, hnm⟩) (hw _ (List.mem_of_getElem? (i := 27) rfl)) (ty := .int) (v := (.int p1)) (by decide) rfl rfl (g := (mkF m 6 #[.val (.ref b0), .val (.int p1)] [(.int p1), (.ref b0)])) rfl rfl (hb hby ii_d6)
  have N8 := Fr.snoc X8 N7 ge_b0
  have F9 : n0 ≤ h8.size := Nat.le_trans Z0 (Keep.of_wr W8).1
  have F10 : Exa Z h8 b0 "java/lang/Integer" := P0.wr W8
  have F11 : Fld Z h8 b0 "java/lang/Integer" "value" "I" (.int p1) := P1.same W8
  have F12 : Keep h0 h8 [b0] := (Keep.refl h0 [b0]).wr W8 (Or.inl (List.mem_of_getElem? (i := 0) rfl))
  refine own_st st8 ?_
  show own_Dn p e below s _ _ _ (T8.setTop (mkF m 9 #[.val (.ref b0), .val (.int p1)] []))
  have eqH : T8.heap = h8 := e8
  exact own_retV X8 hx hret hlk (hb hby ii_d9) (by decide) (by decide) (by rw [eqH]; exact ⟨rfl, N8, F12, F10⟩)
theorem ii_ef (m : MethodId) (b0 : Addr) (p1 : Int32) : entryFrame m #[(.ref b0), (.int p1)] 2 = mkF m 0 #[.val (.ref b0), .val (.int p1)] [] := by first | (simp [entryFrame, mkF, argsToLocals, Value.category]; done) | rfl
theorem ii_rm (l : Launch) (Z : State) (a0 : Array Value) (hw : ∀ d ∈ tables_1, d.before a0 Z = true) (ws : List Jvm.Cond) (b0 : Addr) (p1 : Int32) (h0 : Heap) (n0 : Nat) (Z0 : n0 ≤ h0.size) (P0 : Exa Z h0 b0 "java/lang/Integer") (P1 : Fld Z h0 b0 "java/lang/Integer" "value" "I" (.int (0 : Int32))) (ge_b0 : n0 ≤ b0) :
    MetFree l (⟨"java/lang/Integer", "<init>", "(I)V"⟩ : MethodName) (head1 (Jvm.Cond.code (⟨"java/lang/Integer", "<init>", "(I)V"⟩ : MethodName) jdk_33_method_23_code 2 none :: ws) ({ frames := 2, cells := 0, slots := 0, locals := 24 } : Room)) (fun a U => a = #[(.ref b0), (.int p1)] ∧ Z.Warmed39 U.vm ∧ U.heap = h0) (fun _ _ _ _ _ => True) (fun _ U o U' => ∃ v L, o = .returned v ∧ (ii_Q Z b0 p1 h0 n0) v U'.heap L ∧ FrameEnd U o U' L ({ frames := 2, cells := 0, slots := 0, locals := 24 } : Room).cells ({ frames := 2, cells := 0, slots := 0, locals := 24 } : Room).slots) :=
  own_met hw (plainFor_of_name (by first | (simp [plainName, overriddenIn]; done) | decide +kernel)) (fun p e s m below meth c T0 C0 X0 e0 => own_st (fun _ k => castTop (ii_ef m b0 p1) k) (ii_c0 C0 X0 e0 (Fr.nil n0) Z0 P0 P1 ge_b0))
theorem vo_d0 : decode jdk_33_method_22_code 0 = .ok (.iload_n 0, 1) := by decide +kernel
theorem vo_d1 : decode jdk_33_method_22_code 1 = .ok (.bipush (-128), 2) := by decide +kernel
theorem vo_d3 : decode jdk_33_method_22_code 3 = .ok (.if_icmp .lt 20, 3) := by decide +kernel
theorem vo_d6 : decode jdk_33_method_22_code 6 = .ok (.iload_n 0, 1) := by decide +kernel
theorem vo_d7 : decode jdk_33_method_22_code 7 = .ok (.getstatic 191, 3) := by decide +kernel
theorem vo_d10 : decode jdk_33_method_22_code 10 = .ok (.if_icmp .gt 13, 3) := by decide +kernel
theorem vo_d13 : decode jdk_33_method_22_code 13 = .ok (.getstatic 195, 3) := by decide +kernel
theorem vo_d16 : decode jdk_33_method_22_code 16 = .ok (.iload_n 0, 1) := by decide +kernel
theorem vo_d17 : decode jdk_33_method_22_code 17 = .ok (.sipush 128, 3) := by decide +kernel
theorem vo_d20 : decode jdk_33_method_22_code 20 = .ok (.iadd, 1) := by decide +kernel
theorem vo_d21 : decode jdk_33_method_22_code 21 = .ok (.aaload, 1) := by decide +kernel
theorem vo_d22 : decode jdk_33_method_22_code 22 = .ok (.areturn, 1) := by decide +kernel
theorem vo_d23 : decode jdk_33_method_22_code 23 = .ok (.new 1, 3) := by decide +kernel
theorem vo_d26 : decode jdk_33_method_22_code 26 = .ok (.dup, 1) := by decide +kernel
theorem vo_d27 : decode jdk_33_method_22_code 27 = .ok (.iload_n 0, 1) := by decide +kernel
theorem vo_d28 : decode jdk_33_method_22_code 28 = .ok (.invokespecial 199, 3) := by decide +kernel
theorem vo_d31 : decode jdk_33_method_22_code 31 = .ok (.areturn, 1) := by decide +kernel
def vo_Q (Z : State) (p0 : Int32) (w_c : Addr) (w_f : Nat → Value) (h0 : Heap) (n0 : Nat) (v : Option Value) (h : Heap) (L : List Loc) : Prop := ∃ r : Addr, v = some (.ref r) ∧ Fr n0 L ∧ Keep h0 h [] ∧ Exa Z h r "java/lang/Integer"
set_option maxRecDepth 65536 in
set_option maxHeartbeats 40000000 in
theorem vo_c0 {l : Launch} {Z : State} {a0 : Array Value} {p0 : Int32} {w_c : Addr} {w_f : Nat → Value} {h0 : Heap} {n0 : Nat} {p : Program} {e : Env} {s : State} {m : MethodId} {args : Array Value} {below : List Frame} {meth : Method} {c : Code} {T0 : State} {locs : List Loc} (C0 : own_Cx p s m meth c Z a0 jdk_33_method_22_code 1 "java/lang/Integer" "valueOf" (some (.object "java/lang/Integer"))) (X0 : Stand p l e ({ frames := 3, cells := 1, slots := 1, locals := 38 } : Room) s m args below meth c T0 locs 0 0) (e0 : T0.heap = h0) (N0 : Fr n0 locs)  (Z0 : n0 ≤ h0.size) (P0 : Sta Z h0 "java/lang/Integer$IntegerCache" "high" "I" (.int (127 : Int32))) (P1 : Sta Z h0 "java/lang/Integer$IntegerCache" "cache" "[Ljava/lang/Integer;" (.ref w_c)) (P2 : own_Arf Z h0 w_c (.object "java/lang/Integer") 256 (fun i => (w_f i))) (P3 : own_IE w_f Z h0) :
    own_Dn p e below s (vo_Q Z p0 w_c w_f h0 n0) ({ frames := 3, cells := 1, slots := 1, locals := 38 } : Room).cells ({ frames := 3, cells := 1, slots := 1, locals := 38 } : Room).slots (T0.setTop (mkF m 0 #[.val (.int p0)] [])) := by
  obtain ⟨hx, hZ, hw, hby, hml, hown, hret, hlk, hnm⟩ := id C0
  refine own_st (fun _ k => XS.iloadN X0.here hx rfl (hb hby vo_d0) rfl (XS.bipush X0.here hx rfl (hb hby vo_d1) k)) ?_
  show own_Dn p e below s _ _ _ (T0.setTop (mkF m 3 #[.val (.int p0)] [(.int (-128 : Int32)), (.int p0)]))
  by_cases hc45 : p0 < (-128 : Int32)
  · refine own_st (fun _ k => XS.icmpYes X0.here hx rfl (pc0 := 3) (pc' := 23) rfl (hb hby vo_d3) rfl (tlt hc45).1 (by decide) (by decide) k) ?_
    show own_Dn p e below s _ _ _ (T0.setTop (mkF m 23 #[.val (.int p0)] []))
    obtain ⟨T46, h46, X46, e46, E46, A46, D46, -, st46⟩ := newO X0 hx hZ hown (hw _ (List.mem_of_getElem? (i := 26) rfl)) (hw _ (List.mem_of_getElem? (i := 27) rfl)) (hw _ (List.mem_of_getElem? (i := 22) rfl)) e0 (g := (mkF m 23 #[.val (.int p0)] [])) rfl (hb hby vo_d23) (by decide) (by decide)
    obtain ⟨o23, g46⟩ : ∃ z, z = h0.size := ⟨_, rfl⟩
    rw [← g46] at A46 D46 st46
    have ne47 : w_c ≠ o23 := Nat.ne_of_lt (Nat.lt_of_lt_of_le P2.lt (Nat.le_of_eq g46.symm))
    have ge48 : n0 ≤ o23 := Nat.le_trans Z0 (Nat.le_of_eq g46.symm)
    have gh49 : h0.size ≤ o23 := Nat.le_trans (Keep.refl h0 []).1 (Nat.le_of_eq g46.symm)
    have F50 : n0 ≤ h46.size := Nat.le_trans Z0 E46.1
    have F51 : Sta Z h46 "java/lang/Integer$IntegerCache" "high" "I" (.int (127 : Int32)) := P0.ext E46
    have F52 : Sta Z h46 "java/lang/Integer$IntegerCache" "cache" "[Ljava/lang/Integer;" (.ref w_c) := P1.ext E46
    have F53 : own_Arf Z h46 w_c (.object "java/lang/Integer") 256 (fun i => (w_f i)) := P2.ext E46
    have F54 : own_IE w_f Z h46 := P3.ext E46
    have F55 : Keep h0 h46 [] := (Keep.refl h0 []).ext E46
    have F56 : Fld Z h46 o23 "java/lang/Integer" "value" "I" (.int (0 : Int32)) := D46 (Or.inr (hw _ (List.mem_of_getElem? (i := 40) rfl))) (ty := .int) (by decide)
    refine own_st st46 ?_
    show own_Dn p e below s _ _ _ (T46.setTop (mkF m 26 #[.val (.int p0)] [(.ref o23)]))
    refine own_st (fun _ k => XS.dup X46.here hx rfl (hb hby vo_d26) rfl rfl (XS.iloadN X46.here hx rfl (hb hby vo_d27) rfl k)) ?_
    show own_Dn p e below s _ _ _ (T46.setTop (mkF m 28 #[.val (.int p0)] [(.int p0), (.ref o23), (.ref o23)]))
    obtain ⟨_, _, ⟨T57, L57, k57, n57⟩, -, X57, ⟨Lc57, hQ57, l57, y57, z57⟩, st57⟩ := X46.specialBack hx (y := (⟨"java/lang/Integer", "<init>", "(I)V"⟩ : MethodName)) rfl hown (mvT hZ (hw _ (List.mem_of_getElem? (i := 28) rfl))) (mvT hZ (hw _ (List.mem_of_getElem? (i := 29) rfl))) (mvT hZ (hw _ (List.mem_of_getElem? (i := 31) rfl))) (by decide) (backOf (W := 1) (ii_rm l Z a0 hw [] (o23) (p0) h46 n0 F50 A46 F56 ge48) hZ (hw _ (List.mem_of_getElem? (i := 31) rfl)) (hw _ (List.mem_of_getElem? (i := 22) rfl)) (by decide) (by decide)) (g := (mkF m 28 #[.val (.int p0)] [(.int p0), (.ref o23), (.ref o23)])) rfl (by rw [hml]; rfl) (Steps.refl _) (a := o23) (argsL := [(.int p0)]) (rest := [(.ref o23)]) (lenOf own_pd1 rfl) rfl (by show 2 * 0 + _ ≤ _; exact Nat.le_of_eq rfl) (hb hby vo_d28) (fun _ _ => ⟨rfl, e46, (by decide : 1 + 0 ≤ _), (by decide : 1 + 0 ≤ _)⟩)
    dsimp only [Pt.U, Pt.locs, Pt.cells, Pt.slots] at X57 l57 y57 z57 st57 hQ57
    subst l57 y57 z57
    obtain ⟨rfl, N57q, K57, G58⟩ := hQ57
    have F59 : n0 ≤ T57.heap.size := Nat.le_trans F50 K57.1
    have F60 : Sta Z T57.heap "java/lang/Integer$IntegerCache" "high" "I" (.int (127 : Int32)) := own_Sta_keep F51 K57 A46
    have F61 : Sta Z T57.heap "java/lang/Integer$IntegerCache" "cache" "[Ljava/lang/Integer;" (.ref w_c) := own_Sta_keep F52 K57 A46
    have F62 : own_Arf Z T57.heap w_c (.object "java/lang/Integer") 256 (fun i => (w_f i)) := F53.keep K57 (ninS ne47 nin0)
    have F63 : own_IE w_f Z T57.heap := F54.keep1 K57 A46
    have F64 : Keep h0 T57.heap [] := F55.trans K57 (allS (Or.inr gh49) all0)
    have F65 : Exa Z T57.heap o23 "java/lang/Integer" := A46.keep K57
    have N57 := Fr.app N0 N57q
    refine own_tr st57 ?_
    show own_Dn p e below s _ _ _ (T57.setTop (mkF m 31 #[.val (.int p0)] [(.ref o23)]))
    have eqH : T57.heap = T57.heap := rfl
    exact own_retA X57 hx rfl hret hlk rfl rfl (hb hby vo_d31) (by decide) (by decide) (by rw [eqH]; exact ⟨o23, rfl, N57, F64, G58⟩)
  · refine own_st (fun _ k => XS.icmpNo X0.here hx rfl (hb hby vo_d3) rfl (flt hc45).1 k) ?_
    show own_Dn p e below s _ _ _ (T0.setTop (mkF m 6 #[.val (.int p0)] []))
    refine own_st (fun _ k => XS.iloadN X0.here hx rfl (hb hby vo_d6) rfl k) ?_
    show own_Dn p e below s _ _ _ (T0.setTop (mkF m 7 #[.val (.int p0)] [(.int p0)]))
    obtain ⟨T66, X66, e66, st66⟩ := getS2 X0 hx hZ hown (host := "") (Or.inl (hw _ (List.mem_of_getElem? (i := 24) rfl))) Via.refl e0 P0 (g := (mkF m 7 #[.val (.int p0)] [(.int p0)])) rfl (hb hby vo_d7)
    refine own_st st66 ?_
    show own_Dn p e below s _ _ _ (T66.setTop (mkF m 10 #[.val (.int p0)] [(.int (127 : Int32)), (.int p0)]))
    by_cases hc67 : (127 : Int32) < p0
    · refine own_st (fun _ k => XS.icmpYes X66.here hx rfl (pc0 := 10) (pc' := 23) rfl (hb hby vo_d10) rfl (tlt hc67).2.2.1 (by decide) (by decide) k) ?_
      show own_Dn p e below s _ _ _ (T66.setTop (mkF m 23 #[.val (.int p0)] []))
      obtain ⟨T68, h68, X68, e68, E68, A68, D68, -, st68⟩ := newO X66 hx hZ hown (hw _ (List.mem_of_getElem? (i := 26) rfl)) (hw _ (List.mem_of_getElem? (i := 27) rfl)) (hw _ (List.mem_of_getElem? (i := 22) rfl)) e66 (g := (mkF m 23 #[.val (.int p0)] [])) rfl (hb hby vo_d23) (by decide) (by decide)
      obtain ⟨o23, g68⟩ : ∃ z, z = h0.size := ⟨_, rfl⟩
      rw [← g68] at A68 D68 st68
      have ne69 : w_c ≠ o23 := Nat.ne_of_lt (Nat.lt_of_lt_of_le P2.lt (Nat.le_of_eq g68.symm))
      have ge70 : n0 ≤ o23 := Nat.le_trans Z0 (Nat.le_of_eq g68.symm)
      have gh71 : h0.size ≤ o23 := Nat.le_trans (Keep.refl h0 []).1 (Nat.le_of_eq g68.symm)
      have F72 : n0 ≤ h68.size := Nat.le_trans Z0 E68.1
      have F73 : Sta Z h68 "java/lang/Integer$IntegerCache" "high" "I" (.int (127 : Int32)) := P0.ext E68
      have F74 : Sta Z h68 "java/lang/Integer$IntegerCache" "cache" "[Ljava/lang/Integer;" (.ref w_c) := P1.ext E68
      have F75 : own_Arf Z h68 w_c (.object "java/lang/Integer") 256 (fun i => (w_f i)) := P2.ext E68
      have F76 : own_IE w_f Z h68 := P3.ext E68
      have F77 : Keep h0 h68 [] := (Keep.refl h0 []).ext E68
      have F78 : Fld Z h68 o23 "java/lang/Integer" "value" "I" (.int (0 : Int32)) := D68 (Or.inr (hw _ (List.mem_of_getElem? (i := 40) rfl))) (ty := .int) (by decide)
      refine own_st st68 ?_
      show own_Dn p e below s _ _ _ (T68.setTop (mkF m 26 #[.val (.int p0)] [(.ref o23)]))
      refine own_st (fun _ k => XS.dup X68.here hx rfl (hb hby vo_d26) rfl rfl (XS.iloadN X68.here hx rfl (hb hby vo_d27) rfl k)) ?_
      show own_Dn p e below s _ _ _ (T68.setTop (mkF m 28 #[.val (.int p0)] [(.int p0), (.ref o23), (.ref o23)]))
      obtain ⟨_, _, ⟨T79, L79, k79, n79⟩, -, X79, ⟨Lc79, hQ79, l79, y79, z79⟩, st79⟩ := X68.specialBack hx (y := (⟨"java/lang/Integer", "<init>", "(I)V"⟩ : MethodName)) rfl hown (mvT hZ (hw _ (List.mem_of_getElem? (i := 28) rfl))) (mvT hZ (hw _ (List.mem_of_getElem? (i := 29) rfl))) (mvT hZ (hw _ (List.mem_of_getElem? (i := 31) rfl))) (by decide) (backOf (W := 1) (ii_rm l Z a0 hw [] (o23) (p0) h68 n0 F72 A68 F78 ge70) hZ (hw _ (List.mem_of_getElem? (i := 31) rfl)) (hw _ (List.mem_of_getElem? (i := 22) rfl)) (by decide) (by decide)) (g := (mkF m 28 #[.val (.int p0)] [(.int p0), (.ref o23), (.ref o23)])) rfl (by rw [hml]; rfl) (Steps.refl _) (a := o23) (argsL := [(.int p0)]) (rest := [(.ref o23)]) (lenOf own_pd1 rfl) rfl (by show 2 * 0 + _ ≤ _; exact Nat.le_of_eq rfl) (hb hby vo_d28) (fun _ _ => ⟨rfl, e68, (by decide : 1 + 0 ≤ _), (by decide : 1 + 0 ≤ _)⟩)
      dsimp only [Pt.U, Pt.locs, Pt.cells, Pt.slots] at X79 l79 y79 z79 st79 hQ79
      subst l79 y79 z79
      obtain ⟨rfl, N79q, K79, G80⟩ := hQ79
      have F81 : n0 ≤ T79.heap.size := Nat.le_trans F72 K79.1
      have F82 : Sta Z T79.heap "java/lang/Integer$IntegerCache" "high" "I" (.int (127 : Int32)) := own_Sta_keep F73 K79 A68
      have F83 : Sta Z T79.heap "java/lang/Integer$IntegerCache" "cache" "[Ljava/lang/Integer;" (.ref w_c) := own_Sta_keep F74 K79 A68
      have F84 : own_Arf Z T79.heap w_c (.object "java/lang/Integer") 256 (fun i => (w_f i)) := F75.keep K79 (ninS ne69 nin0)
      have F85 : own_IE w_f Z T79.heap := F76.keep1 K79 A68
      have F86 : Keep h0 T79.heap [] := F77.trans K79 (allS (Or.inr gh71) all0)
      have F87 : Exa Z T79.heap o23 "java/lang/Integer" := A68.keep K79
      have N79 := Fr.app N0 N79q
      refine own_tr st79 ?_
      show own_Dn p e below s _ _ _ (T79.setTop (mkF m 31 #[.val (.int p0)] [(.ref o23)]))
      have eqH : T79.heap = T79.heap := rfl
      exact own_retA X79 hx rfl hret hlk rfl rfl (hb hby vo_d31) (by decide) (by decide) (by rw [eqH]; exact ⟨o23, rfl, N79, F86, G80⟩)
    · refine own_st (fun _ k => XS.icmpNo X66.here hx rfl (hb hby vo_d10) rfl (flt hc67).2.2.1 k) ?_
      show own_Dn p e below s _ _ _ (T66.setTop (mkF m 13 #[.val (.int p0)] []))
      obtain ⟨T88, X88, e88, st88⟩ := getS2 X66 hx hZ hown (host := "") (Or.inl (hw _ (List.mem_of_getElem? (i := 44) rfl))) Via.refl e66 P1 (g := (mkF m 13 #[.val (.int p0)] [])) rfl (hb hby vo_d13)
      refine own_st st88 ?_
      show own_Dn p e below s _ _ _ (T88.setTop (mkF m 16 #[.val (.int p0)] [(.ref w_c)]))
      refine own_st (fun _ k => XS.iloadN X88.here hx rfl (hb hby vo_d16) rfl (XS.sipush X88.here hx rfl (hb hby vo_d17) (XS.iadd X88.here hx rfl (hb hby vo_d20) rfl k))) ?_
      show own_Dn p e below s _ _ _ (T88.setTop (mkF m 21 #[.val (.int p0)] [(.int (p0 + (128 : Int32))), (.ref w_c)]))
      obtain ⟨rc, hrc, Erc⟩ := P3 ((p0 + (128 : Int32))).toNatClampNeg (own_bc hc45 hc67).2
      refine own_st (own_ldA (pc := 21) (L := #[.val (.int p0)]) (rest := []) X88 hx hZ e88 P2 rfl (j := (p0 + (128 : Int32))) (own_bc hc45 hc67).1 (own_bc hc45 hc67).2 (hb hby vo_d21)) ?_
      show own_Dn p e below s _ _ _ (T88.setTop (mkF m 22 #[.val (.int p0)] [(w_f ((p0 + (128 : Int32))).toNatClampNeg)]))
      rw [hrc]
      show own_Dn p e below s _ _ _ (T88.setTop (mkF m 22 #[.val (.int p0)] [(.ref rc)]))
      have eqH : T88.heap = h0 := e88
      exact own_retA X88 hx rfl hret hlk rfl rfl (hb hby vo_d22) (by decide) (by decide) (by rw [eqH]; exact ⟨rc, rfl, N0, (Keep.refl h0 []), Erc⟩)
theorem vo_ef (m : MethodId) (p0 : Int32) : entryFrame m #[(.int p0)] 1 = mkF m 0 #[.val (.int p0)] [] := by first | (simp [entryFrame, mkF, argsToLocals, Value.category]; done) | rfl
theorem vo_rm (l : Launch) (Z : State) (a0 : Array Value) (hw : ∀ d ∈ tables_1, d.before a0 Z = true) (ws : List Jvm.Cond) (p0 : Int32) (w_c : Addr) (w_f : Nat → Value) (h0 : Heap) (n0 : Nat) (Z0 : n0 ≤ h0.size) (P0 : Sta Z h0 "java/lang/Integer$IntegerCache" "high" "I" (.int (127 : Int32))) (P1 : Sta Z h0 "java/lang/Integer$IntegerCache" "cache" "[Ljava/lang/Integer;" (.ref w_c)) (P2 : own_Arf Z h0 w_c (.object "java/lang/Integer") 256 (fun i => (w_f i))) (P3 : own_IE w_f Z h0) :
    MetFree l (⟨"java/lang/Integer", "valueOf", "(I)Ljava/lang/Integer;"⟩ : MethodName) (head1 (Jvm.Cond.code (⟨"java/lang/Integer", "valueOf", "(I)Ljava/lang/Integer;"⟩ : MethodName) jdk_33_method_22_code 1 (some (.object "java/lang/Integer")) :: ws) ({ frames := 3, cells := 1, slots := 1, locals := 38 } : Room)) (fun a U => a = #[(.int p0)] ∧ Z.Warmed39 U.vm ∧ U.heap = h0) (fun _ _ _ _ _ => True) (fun _ U o U' => ∃ v L, o = .returned v ∧ (vo_Q Z p0 w_c w_f h0 n0) v U'.heap L ∧ FrameEnd U o U' L ({ frames := 3, cells := 1, slots := 1, locals := 38 } : Room).cells ({ frames := 3, cells := 1, slots := 1, locals := 38 } : Room).slots) :=
  own_met hw (plainFor_of_name (by first | (simp [plainName, overriddenIn]; done) | decide +kernel)) (fun p e s m below meth c T0 C0 X0 e0 => own_st (fun _ k => castTop (vo_ef m p0) k) (vo_c0 C0 X0 e0 (Fr.nil n0) Z0 P0 P1 P2 P3))
theorem lw_d0 : decode code 0 = .ok (.iload 4, 2) := by decide +kernel
theorem lw_d2 : decode code 2 = .ok (.iconst 1, 1) := by decide +kernel
theorem lw_d3 : decode code 3 = .ok (.iand, 1) := by decide +kernel
theorem lw_d4 : decode code 4 = .ok (.ifCond .eq 7, 3) := by decide +kernel
theorem lw_d7 : decode code 7 = .ok (.iconst 1, 1) := by decide +kernel
theorem lw_d8 : decode code 8 = .ok (.goto 4, 3) := by decide +kernel
theorem lw_d11 : decode code 11 = .ok (.iconst 0, 1) := by decide +kernel
theorem lw_d12 : decode code 12 = .ok (.istore 5, 2) := by decide +kernel
theorem lw_d14 : decode code 14 = .ok (.iload 4, 2) := by decide +kernel
theorem lw_d16 : decode code 16 = .ok (.iconst 2, 1) := by decide +kernel
theorem lw_d17 : decode code 17 = .ok (.iand, 1) := by decide +kernel
theorem lw_d18 : decode code 18 = .ok (.ifCond .eq 7, 3) := by decide +kernel
theorem lw_d21 : decode code 21 = .ok (.iconst 1, 1) := by decide +kernel
theorem lw_d22 : decode code 22 = .ok (.goto 4, 3) := by decide +kernel
theorem lw_d25 : decode code 25 = .ok (.iconst 0, 1) := by decide +kernel
theorem lw_d26 : decode code 26 = .ok (.istore 6, 2) := by decide +kernel
theorem lw_d28 : decode code 28 = .ok (.iload 4, 2) := by decide +kernel
theorem lw_d30 : decode code 30 = .ok (.iconst 2, 1) := by decide +kernel
theorem lw_d31 : decode code 31 = .ok (.iushr, 1) := by decide +kernel
theorem lw_d32 : decode code 32 = .ok (.iconst 3, 1) := by decide +kernel
theorem lw_d33 : decode code 33 = .ok (.iand, 1) := by decide +kernel
theorem lw_d34 : decode code 34 = .ok (.istore 7, 2) := by decide +kernel
theorem lw_d36 : decode code 36 = .ok (.iload 5, 2) := by decide +kernel
theorem lw_d38 : decode code 38 = .ok (.ifCond .eq 7, 3) := by decide +kernel
theorem lw_d41 : decode code 41 = .ok (.iload_n 0, 1) := by decide +kernel
theorem lw_d42 : decode code 42 = .ok (.goto 4, 3) := by decide +kernel
theorem lw_d45 : decode code 45 = .ok (.iload_n 2, 1) := by decide +kernel
theorem lw_d46 : decode code 46 = .ok (.istore 8, 2) := by decide +kernel
theorem lw_d48 : decode code 48 = .ok (.iload 6, 2) := by decide +kernel
theorem lw_d50 : decode code 50 = .ok (.ifCond .eq 7, 3) := by decide +kernel
theorem lw_d53 : decode code 53 = .ok (.iload_n 1, 1) := by decide +kernel
theorem lw_d54 : decode code 54 = .ok (.goto 4, 3) := by decide +kernel
theorem lw_d57 : decode code 57 = .ok (.iload_n 3, 1) := by decide +kernel
theorem lw_d58 : decode code 58 = .ok (.istore 9, 2) := by decide +kernel
theorem lw_d60 : decode code 60 = .ok (.new 7, 3) := by decide +kernel
theorem lw_d63 : decode code 63 = .ok (.dup, 1) := by decide +kernel
theorem lw_d64 : decode code 64 = .ok (.iload_n 0, 1) := by decide +kernel
theorem lw_d65 : decode code 65 = .ok (.iload_n 1, 1) := by decide +kernel
theorem lw_d66 : decode code 66 = .ok (.invokespecial 9, 3) := by decide +kernel
theorem lw_d69 : decode code 69 = .ok (.astore 10, 2) := by decide +kernel
theorem lw_d71 : decode code 71 = .ok (.new 7, 3) := by decide +kernel
theorem lw_d74 : decode code 74 = .ok (.dup, 1) := by decide +kernel
theorem lw_d75 : decode code 75 = .ok (.iload 8, 2) := by decide +kernel
theorem lw_d77 : decode code 77 = .ok (.iload 9, 2) := by decide +kernel
theorem lw_d79 : decode code 79 = .ok (.invokespecial 9, 3) := by decide +kernel
theorem lw_d82 : decode code 82 = .ok (.astore 11, 2) := by decide +kernel
theorem lw_d84 : decode code 84 = .ok (.iload 7, 2) := by decide +kernel
theorem lw_d86 : decode code 86 = .ok (.ifCond .ne 29, 3) := by decide +kernel
theorem lw_d89 : decode code 89 = .ok (.aload 11, 2) := by decide +kernel
theorem lw_d91 : decode code 91 = .ok (.astore 12, 2) := by decide +kernel
theorem lw_d93 : decode code 93 = .ok (.iload_n 0, 1) := by decide +kernel
theorem lw_d94 : decode code 94 = .ok (.iload 8, 2) := by decide +kernel
theorem lw_d96 : decode code 96 = .ok (.if_icmp .ne 13, 3) := by decide +kernel
theorem lw_d99 : decode code 99 = .ok (.iload_n 1, 1) := by decide +kernel
theorem lw_d100 : decode code 100 = .ok (.iload 9, 2) := by decide +kernel
theorem lw_d102 : decode code 102 = .ok (.if_icmp .ne 7, 3) := by decide +kernel
theorem lw_d105 : decode code 105 = .ok (.iconst 1, 1) := by decide +kernel
theorem lw_d106 : decode code 106 = .ok (.goto 4, 3) := by decide +kernel
theorem lw_d109 : decode code 109 = .ok (.iconst 0, 1) := by decide +kernel
theorem lw_d110 : decode code 110 = .ok (.istore 13, 2) := by decide +kernel
theorem lw_d112 : decode code 112 = .ok (.goto 43, 3) := by decide +kernel
theorem lw_d115 : decode code 115 = .ok (.iload 7, 2) := by decide +kernel
theorem lw_d117 : decode code 117 = .ok (.iconst 1, 1) := by decide +kernel
theorem lw_d118 : decode code 118 = .ok (.if_icmp .ne 12, 3) := by decide +kernel
theorem lw_d121 : decode code 121 = .ok (.aconst_null, 1) := by decide +kernel
theorem lw_d122 : decode code 122 = .ok (.astore 12, 2) := by decide +kernel
theorem lw_d124 : decode code 124 = .ok (.iconst 0, 1) := by decide +kernel
theorem lw_d125 : decode code 125 = .ok (.istore 13, 2) := by decide +kernel
theorem lw_d127 : decode code 127 = .ok (.goto 28, 3) := by decide +kernel
theorem lw_d130 : decode code 130 = .ok (.iload 7, 2) := by decide +kernel
theorem lw_d132 : decode code 132 = .ok (.iconst 2, 1) := by decide +kernel
theorem lw_d133 : decode code 133 = .ok (.if_icmp .ne 15, 3) := by decide +kernel
theorem lw_d136 : decode code 136 = .ok (.iload_n 0, 1) := by decide +kernel
theorem lw_d137 : decode code 137 = .ok (.invokestatic 12, 3) := by decide +kernel
theorem lw_d140 : decode code 140 = .ok (.astore 12, 2) := by decide +kernel
theorem lw_d142 : decode code 142 = .ok (.iconst 0, 1) := by decide +kernel
theorem lw_d143 : decode code 143 = .ok (.istore 13, 2) := by decide +kernel
theorem lw_d145 : decode code 145 = .ok (.goto 10, 3) := by decide +kernel
theorem lw_d148 : decode code 148 = .ok (.aload 10, 2) := by decide +kernel
theorem lw_d150 : decode code 150 = .ok (.astore 12, 2) := by decide +kernel
theorem lw_d152 : decode code 152 = .ok (.iconst 1, 1) := by decide +kernel
theorem lw_d153 : decode code 153 = .ok (.istore 13, 2) := by decide +kernel
theorem lw_d155 : decode code 155 = .ok (.aload 10, 2) := by decide +kernel
theorem lw_d157 : decode code 157 = .ok (.aload 12, 2) := by decide +kernel
theorem lw_d159 : decode code 159 = .ok (.invokevirtual 18, 3) := by decide +kernel
theorem lw_d162 : decode code 162 = .ok (.iload 13, 2) := by decide +kernel
theorem lw_d164 : decode code 164 = .ok (.if_icmp .ne 7, 3) := by decide +kernel
theorem lw_d167 : decode code 167 = .ok (.iconst 1, 1) := by decide +kernel
theorem lw_d168 : decode code 168 = .ok (.goto 4, 3) := by decide +kernel
theorem lw_d171 : decode code 171 = .ok (.iconst 0, 1) := by decide +kernel
theorem lw_d172 : decode code 172 = .ok (.ireturn, 1) := by decide +kernel
def lw_f58 (p0 : Int32) (p1 : Int32) (p2 : Int32) (p3 : Int32) (p4 : Int32) (w_f : Nat → Value) (v5 : Int32) (v6 : Int32) (v7 : Int32) (v8 : Int32) (u0 : Int32) : Int32 :=
  if v7 = (0 : Int32) then
    if p0 = v8 then
      if p1 = u0 then
        if (ep_f p0 p1 v8 u0) = (1 : Int32) then
          (1 : Int32)
        else
          (0 : Int32)
      else
        if (ep_f p0 p1 v8 u0) = (0 : Int32) then
          (1 : Int32)
        else
          (0 : Int32)
    else
      if (ep_f p0 p1 v8 u0) = (0 : Int32) then
        (1 : Int32)
      else
        (0 : Int32)
  else
    if v7 = (1 : Int32) then
      if (en_f ) = (0 : Int32) then
        (1 : Int32)
      else
        (0 : Int32)
    else
      if v7 = (2 : Int32) then
        if (ei_f ) = (0 : Int32) then
          (1 : Int32)
        else
          (0 : Int32)
      else
        if (ep_f p0 p1 p0 p1) = (1 : Int32) then
          (1 : Int32)
        else
          (0 : Int32)
set_option maxRecDepth 65536 in
set_option maxHeartbeats 40000000 in
theorem lw_c58 {l : Launch} {Z : State} {a0 : Array Value} {p0 : Int32} {p1 : Int32} {p2 : Int32} {p3 : Int32} {p4 : Int32} {w_c : Addr} {w_f : Nat → Value} {h0 : Heap} {n0 : Nat} {p : Program} {e : Env} {s : State} {m : MethodId} {args : Array Value} {below : List Frame} {meth : Method} {c : Code} {T0 : State} {locs : List Loc} {r0 : Int32} (C0 : own_Cx p s m meth c Z a0 code 14 "com/example/hashloom/cli/PointEqualsPinLaw" "law" (some .boolean)) (X0 : Stand p l e room_1 s m args below meth c T0 locs 0 0) (e0 : T0.heap = h0) (N0 : Fr n0 locs) (v5 : Int32) (v6 : Int32) (v7 : Int32) (v8 : Int32) (u0 : Int32) (Z0 : n0 ≤ h0.size) (P1 : Sta Z h0 "java/lang/Integer$IntegerCache" "high" "I" (.int (127 : Int32))) (P2 : Sta Z h0 "java/lang/Integer$IntegerCache" "cache" "[Ljava/lang/Integer;" (.ref w_c)) (P3 : own_Arf Z h0 w_c (.object "java/lang/Integer") 256 (fun i => (w_f i))) (P4 : own_IE w_f Z h0) (hr0 : r0 = lw_f58 p0 p1 p2 p3 p4 w_f v5 v6 v7 v8 u0) :
    own_Dn p e below s (own_QL (some (.int r0)) n0) room_1.cells room_1.slots (T0.setTop (mkF m 58 #[.val (.int p0), .val (.int p1), .val (.int p2), .val (.int p3), .val (.int p4), .val (.int v5), .val (.int v6), .val (.int v7), .val (.int v8), .unset, .unset, .unset, .unset, .unset] [(.int u0)])) := by
  obtain ⟨hx, hZ, hw, hby, hml, hown, hret, hlk, hnm⟩ := id C0
  refine own_st (fun _ k => XS.istore X0.here hx rfl (hb hby lw_d58) rfl (l' := #[.val (.int p0), .val (.int p1), .val (.int p2), .val (.int p3), .val (.int p4), .val (.int v5), .val (.int v6), .val (.int v7), .val (.int v8), .val (.int u0), .unset, .unset, .unset, .unset]) rfl k) ?_
  show own_Dn p e below s _ _ _ (T0.setTop (mkF m 60 #[.val (.int p0), .val (.int p1), .val (.int p2), .val (.int p3), .val (.int p4), .val (.int v5), .val (.int v6), .val (.int v7), .val (.int v8), .val (.int u0), .unset, .unset, .unset, .unset] []))
  obtain ⟨T86, h86, X86, e86, E86, A86, D86, -, st86⟩ := newO X0 hx hZ hown (hw _ (List.mem_of_getElem? (i := 0) rfl)) (hw _ (List.mem_of_getElem? (i := 1) rfl)) (hw _ (List.mem_of_getElem? (i := 2) rfl)) e0 (g := (mkF m 60 #[.val (.int p0), .val (.int p1), .val (.int p2), .val (.int p3), .val (.int p4), .val (.int v5), .val (.int v6), .val (.int v7), .val (.int v8), .val (.int u0), .unset, .unset, .unset, .unset] [])) rfl (hb hby lw_d60) (by decide) (by decide)
  obtain ⟨o60, g86⟩ : ∃ z, z = h0.size := ⟨_, rfl⟩
  rw [← g86] at A86 D86 st86
  have ne87 : w_c ≠ o60 := Nat.ne_of_lt (Nat.lt_of_lt_of_le P3.lt (Nat.le_of_eq g86.symm))
  have ge88 : n0 ≤ o60 := Nat.le_trans Z0 (Nat.le_of_eq g86.symm)
  have F89 : n0 ≤ h86.size := Nat.le_trans Z0 E86.1
  have F90 : Sta Z h86 "java/lang/Integer$IntegerCache" "high" "I" (.int (127 : Int32)) := P1.ext E86
  have F91 : Sta Z h86 "java/lang/Integer$IntegerCache" "cache" "[Ljava/lang/Integer;" (.ref w_c) := P2.ext E86
  have F92 : own_Arf Z h86 w_c (.object "java/lang/Integer") 256 (fun i => (w_f i)) := P3.ext E86
  have F93 : own_IE w_f Z h86 := P4.ext E86
  have F94 : Fld Z h86 o60 "com/example/hashloom/cli/Point" "x" "I" (.int (0 : Int32)) := D86 (Or.inr (hw _ (List.mem_of_getElem? (i := 10) rfl))) (ty := .int) (by decide)
  have F95 : Fld Z h86 o60 "com/example/hashloom/cli/Point" "y" "I" (.int (0 : Int32)) := D86 (Or.inr (hw _ (List.mem_of_getElem? (i := 12) rfl))) (ty := .int) (by decide)
  refine own_st st86 ?_
  show own_Dn p e below s _ _ _ (T86.setTop (mkF m 63 #[.val (.int p0), .val (.int p1), .val (.int p2), .val (.int p3), .val (.int p4), .val (.int v5), .val (.int v6), .val (.int v7), .val (.int v8), .val (.int u0), .unset, .unset, .unset, .unset] [(.ref o60)]))
  refine own_st (fun _ k => XS.dup X86.here hx rfl (hb hby lw_d63) rfl rfl (XS.iloadN X86.here hx rfl (hb hby lw_d64) rfl (XS.iloadN X86.here hx rfl (hb hby lw_d65) rfl k))) ?_
  show own_Dn p e below s _ _ _ (T86.setTop (mkF m 66 #[.val (.int p0), .val (.int p1), .val (.int p2), .val (.int p3), .val (.int p4), .val (.int v5), .val (.int v6), .val (.int v7), .val (.int v8), .val (.int u0), .unset, .unset, .unset, .unset] [(.int p1), (.int p0), (.ref o60), (.ref o60)]))
  obtain ⟨_, _, ⟨T96, L96, k96, n96⟩, -, X96, ⟨Lc96, hQ96, l96, y96, z96⟩, st96⟩ := X86.specialBack hx (y := (⟨"com/example/hashloom/cli/Point", "<init>", "(II)V"⟩ : MethodName)) rfl hown (mvT hZ (hw _ (List.mem_of_getElem? (i := 3) rfl))) (mvT hZ (hw _ (List.mem_of_getElem? (i := 4) rfl))) (mvT hZ (hw _ (List.mem_of_getElem? (i := 5) rfl))) (by decide) (backOf (W := 1) (pi_rm l Z a0 hw [] (o60) (p0) (p1) h86 n0 F89 A86 F94 F95 ge88) hZ (hw _ (List.mem_of_getElem? (i := 5) rfl)) (hw _ (List.mem_of_getElem? (i := 2) rfl)) (by decide) (by decide)) (g := (mkF m 66 #[.val (.int p0), .val (.int p1), .val (.int p2), .val (.int p3), .val (.int p4), .val (.int v5), .val (.int v6), .val (.int v7), .val (.int v8), .val (.int u0), .unset, .unset, .unset, .unset] [(.int p1), (.int p0), (.ref o60), (.ref o60)])) rfl (by rw [hml]; rfl) (Steps.refl _) (a := o60) (argsL := [(.int p0), (.int p1)]) (rest := [(.ref o60)]) (lenOf own_pd2 rfl) rfl (by show 2 * 0 + _ ≤ _; exact Nat.le_of_eq rfl) (hb hby lw_d66) (fun _ _ => ⟨rfl, e86, (by decide : 1 + 0 ≤ _), (by decide : 2 + 0 ≤ _)⟩)
  dsimp only [Pt.U, Pt.locs, Pt.cells, Pt.slots] at X96 l96 y96 z96 st96 hQ96
  subst l96 y96 z96
  obtain ⟨rfl, N96q, K96, G97, G98, G99⟩ := hQ96
  have F100 : n0 ≤ T96.heap.size := Nat.le_trans F89 K96.1
  have F101 : Sta Z T96.heap "java/lang/Integer$IntegerCache" "high" "I" (.int (127 : Int32)) := own_Sta_keep F90 K96 A86
  have F102 : Sta Z T96.heap "java/lang/Integer$IntegerCache" "cache" "[Ljava/lang/Integer;" (.ref w_c) := own_Sta_keep F91 K96 A86
  have F103 : own_Arf Z T96.heap w_c (.object "java/lang/Integer") 256 (fun i => (w_f i)) := F92.keep K96 (ninS ne87 nin0)
  have F104 : own_IE w_f Z T96.heap := F93.keep1 K96 A86
  have F105 : Exa Z T96.heap o60 "com/example/hashloom/cli/Point" := A86.keep K96
  have N96 := Fr.app N0 N96q
  refine own_tr st96 ?_
  show own_Dn p e below s _ _ _ (T96.setTop (mkF m 69 #[.val (.int p0), .val (.int p1), .val (.int p2), .val (.int p3), .val (.int p4), .val (.int v5), .val (.int v6), .val (.int v7), .val (.int v8), .val (.int u0), .unset, .unset, .unset, .unset] [(.ref o60)]))
  refine own_st (fun _ k => XS.astore X96.here hx rfl (hb hby lw_d69) rfl rfl (l' := #[.val (.int p0), .val (.int p1), .val (.int p2), .val (.int p3), .val (.int p4), .val (.int v5), .val (.int v6), .val (.int v7), .val (.int v8), .val (.int u0), .val (.ref o60), .unset, .unset, .unset]) rfl k) ?_
  show own_Dn p e below s _ _ _ (T96.setTop (mkF m 71 #[.val (.int p0), .val (.int p1), .val (.int p2), .val (.int p3), .val (.int p4), .val (.int v5), .val (.int v6), .val (.int v7), .val (.int v8), .val (.int u0), .val (.ref o60), .unset, .unset, .unset] []))
  obtain ⟨T106, h106, X106, e106, E106, A106, D106, -, st106⟩ := newO X96 hx hZ hown (hw _ (List.mem_of_getElem? (i := 0) rfl)) (hw _ (List.mem_of_getElem? (i := 1) rfl)) (hw _ (List.mem_of_getElem? (i := 2) rfl)) rfl (g := (mkF m 71 #[.val (.int p0), .val (.int p1), .val (.int p2), .val (.int p3), .val (.int p4), .val (.int v5), .val (.int v6), .val (.int v7), .val (.int v8), .val (.int u0), .val (.ref o60), .unset, .unset, .unset] [])) rfl (hb hby lw_d71) (by decide) (by decide)
  obtain ⟨o71, g106⟩ : ∃ z, z = T96.heap.size := ⟨_, rfl⟩
  rw [← g106] at A106 D106 st106
  have ne107 : w_c ≠ o71 := Nat.ne_of_lt (Nat.lt_of_lt_of_le F103.lt (Nat.le_of_eq g106.symm))
  have ne108 : o60 ≠ o71 := Nat.ne_of_lt (Nat.lt_of_lt_of_le G97.lt (Nat.le_of_eq g106.symm))
  have ge109 : n0 ≤ o71 := Nat.le_trans F100 (Nat.le_of_eq g106.symm)
  have F110 : n0 ≤ h106.size := Nat.le_trans F100 E106.1
  have F111 : Sta Z h106 "java/lang/Integer$IntegerCache" "high" "I" (.int (127 : Int32)) := F101.ext E106
  have F112 : Sta Z h106 "java/lang/Integer$IntegerCache" "cache" "[Ljava/lang/Integer;" (.ref w_c) := F102.ext E106
  have F113 : own_Arf Z h106 w_c (.object "java/lang/Integer") 256 (fun i => (w_f i)) := F103.ext E106
  have F114 : own_IE w_f Z h106 := F104.ext E106
  have F115 : Exa Z h106 o60 "com/example/hashloom/cli/Point" := G97.ext E106
  have F116 : Fld Z h106 o60 "com/example/hashloom/cli/Point" "x" "I" (.int p0) := G98.ext E106
  have F117 : Fld Z h106 o60 "com/example/hashloom/cli/Point" "y" "I" (.int p1) := G99.ext E106
  have F118 : Fld Z h106 o71 "com/example/hashloom/cli/Point" "x" "I" (.int (0 : Int32)) := D106 (Or.inr (hw _ (List.mem_of_getElem? (i := 10) rfl))) (ty := .int) (by decide)
  have F119 : Fld Z h106 o71 "com/example/hashloom/cli/Point" "y" "I" (.int (0 : Int32)) := D106 (Or.inr (hw _ (List.mem_of_getElem? (i := 12) rfl))) (ty := .int) (by decide)
  refine own_st st106 ?_
  show own_Dn p e below s _ _ _ (T106.setTop (mkF m 74 #[.val (.int p0), .val (.int p1), .val (.int p2), .val (.int p3), .val (.int p4), .val (.int v5), .val (.int v6), .val (.int v7), .val (.int v8), .val (.int u0), .val (.ref o60), .unset, .unset, .unset] [(.ref o71)]))
  refine own_st (fun _ k => XS.dup X106.here hx rfl (hb hby lw_d74) rfl rfl (XS.iload X106.here hx rfl (hb hby lw_d75) rfl (XS.iload X106.here hx rfl (hb hby lw_d77) rfl k))) ?_
  show own_Dn p e below s _ _ _ (T106.setTop (mkF m 79 #[.val (.int p0), .val (.int p1), .val (.int p2), .val (.int p3), .val (.int p4), .val (.int v5), .val (.int v6), .val (.int v7), .val (.int v8), .val (.int u0), .val (.ref o60), .unset, .unset, .unset] [(.int u0), (.int v8), (.ref o71), (.ref o71)]))
  obtain ⟨_, _, ⟨T120, L120, k120, n120⟩, -, X120, ⟨Lc120, hQ120, l120, y120, z120⟩, st120⟩ := X106.specialBack hx (y := (⟨"com/example/hashloom/cli/Point", "<init>", "(II)V"⟩ : MethodName)) rfl hown (mvT hZ (hw _ (List.mem_of_getElem? (i := 3) rfl))) (mvT hZ (hw _ (List.mem_of_getElem? (i := 4) rfl))) (mvT hZ (hw _ (List.mem_of_getElem? (i := 5) rfl))) (by decide) (backOf (W := 1) (pi_rm l Z a0 hw [] (o71) (v8) (u0) h106 n0 F110 A106 F118 F119 ge109) hZ (hw _ (List.mem_of_getElem? (i := 5) rfl)) (hw _ (List.mem_of_getElem? (i := 2) rfl)) (by decide) (by decide)) (g := (mkF m 79 #[.val (.int p0), .val (.int p1), .val (.int p2), .val (.int p3), .val (.int p4), .val (.int v5), .val (.int v6), .val (.int v7), .val (.int v8), .val (.int u0), .val (.ref o60), .unset, .unset, .unset] [(.int u0), (.int v8), (.ref o71), (.ref o71)])) rfl (by rw [hml]; rfl) (Steps.refl _) (a := o71) (argsL := [(.int v8), (.int u0)]) (rest := [(.ref o71)]) (lenOf own_pd2 rfl) rfl (by show 2 * 0 + _ ≤ _; exact Nat.le_of_eq rfl) (hb hby lw_d79) (fun _ _ => ⟨rfl, e106, (by decide : 2 + 0 ≤ _), (by decide : 4 + 0 ≤ _)⟩)
  dsimp only [Pt.U, Pt.locs, Pt.cells, Pt.slots] at X120 l120 y120 z120 st120 hQ120
  subst l120 y120 z120
  obtain ⟨rfl, N120q, K120, G121, G122, G123⟩ := hQ120
  have F124 : n0 ≤ T120.heap.size := Nat.le_trans F110 K120.1
  have F125 : Sta Z T120.heap "java/lang/Integer$IntegerCache" "high" "I" (.int (127 : Int32)) := own_Sta_keep F111 K120 A106
  have F126 : Sta Z T120.heap "java/lang/Integer$IntegerCache" "cache" "[Ljava/lang/Integer;" (.ref w_c) := own_Sta_keep F112 K120 A106
  have F127 : own_Arf Z T120.heap w_c (.object "java/lang/Integer") 256 (fun i => (w_f i)) := F113.keep K120 (ninS ne107 nin0)
  have F128 : own_IE w_f Z T120.heap := F114.keep1 K120 A106
  have F129 : Exa Z T120.heap o60 "com/example/hashloom/cli/Point" := F115.keep K120
  have F130 : Fld Z T120.heap o60 "com/example/hashloom/cli/Point" "x" "I" (.int p0) := F116.keep K120 (ninS ne108 nin0)
  have F131 : Fld Z T120.heap o60 "com/example/hashloom/cli/Point" "y" "I" (.int p1) := F117.keep K120 (ninS ne108 nin0)
  have F132 : Exa Z T120.heap o71 "com/example/hashloom/cli/Point" := A106.keep K120
  have N120 := Fr.app N96 N120q
  refine own_tr st120 ?_
  show own_Dn p e below s _ _ _ (T120.setTop (mkF m 82 #[.val (.int p0), .val (.int p1), .val (.int p2), .val (.int p3), .val (.int p4), .val (.int v5), .val (.int v6), .val (.int v7), .val (.int v8), .val (.int u0), .val (.ref o60), .unset, .unset, .unset] [(.ref o71)]))
  refine own_st (fun _ k => XS.astore X120.here hx rfl (hb hby lw_d82) rfl rfl (l' := #[.val (.int p0), .val (.int p1), .val (.int p2), .val (.int p3), .val (.int p4), .val (.int v5), .val (.int v6), .val (.int v7), .val (.int v8), .val (.int u0), .val (.ref o60), .val (.ref o71), .unset, .unset]) rfl (XS.iload X120.here hx rfl (hb hby lw_d84) rfl k)) ?_
  show own_Dn p e below s _ _ _ (T120.setTop (mkF m 86 #[.val (.int p0), .val (.int p1), .val (.int p2), .val (.int p3), .val (.int p4), .val (.int v5), .val (.int v6), .val (.int v7), .val (.int v8), .val (.int u0), .val (.ref o60), .val (.ref o71), .unset, .unset] [(.int v7)]))
  by_cases hc133 : v7 = (0 : Int32)
  · refine own_st (fun _ k => XS.ifNo X120.here hx rfl (hb hby lw_d86) rfl ((if0 _ _).trans (teq hc133).2) k) ?_
    show own_Dn p e below s _ _ _ (T120.setTop (mkF m 89 #[.val (.int p0), .val (.int p1), .val (.int p2), .val (.int p3), .val (.int p4), .val (.int v5), .val (.int v6), .val (.int v7), .val (.int v8), .val (.int u0), .val (.ref o60), .val (.ref o71), .unset, .unset] []))
    refine own_st (fun _ k => XS.aload X120.here hx rfl (hb hby lw_d89) rfl rfl (XS.astore X120.here hx rfl (hb hby lw_d91) rfl rfl (l' := #[.val (.int p0), .val (.int p1), .val (.int p2), .val (.int p3), .val (.int p4), .val (.int v5), .val (.int v6), .val (.int v7), .val (.int v8), .val (.int u0), .val (.ref o60), .val (.ref o71), .val (.ref o71), .unset]) rfl (XS.iloadN X120.here hx rfl (hb hby lw_d93) rfl (XS.iload X120.here hx rfl (hb hby lw_d94) rfl k)))) ?_
    show own_Dn p e below s _ _ _ (T120.setTop (mkF m 96 #[.val (.int p0), .val (.int p1), .val (.int p2), .val (.int p3), .val (.int p4), .val (.int v5), .val (.int v6), .val (.int v7), .val (.int v8), .val (.int u0), .val (.ref o60), .val (.ref o71), .val (.ref o71), .unset] [(.int v8), (.int p0)]))
    by_cases hc134 : p0 = v8
    · refine own_st (fun _ k => XS.icmpNo X120.here hx rfl (hb hby lw_d96) rfl (teq hc134).2 k) ?_
      show own_Dn p e below s _ _ _ (T120.setTop (mkF m 99 #[.val (.int p0), .val (.int p1), .val (.int p2), .val (.int p3), .val (.int p4), .val (.int v5), .val (.int v6), .val (.int v7), .val (.int v8), .val (.int u0), .val (.ref o60), .val (.ref o71), .val (.ref o71), .unset] []))
      refine own_st (fun _ k => XS.iloadN X120.here hx rfl (hb hby lw_d99) rfl (XS.iload X120.here hx rfl (hb hby lw_d100) rfl k)) ?_
      show own_Dn p e below s _ _ _ (T120.setTop (mkF m 102 #[.val (.int p0), .val (.int p1), .val (.int p2), .val (.int p3), .val (.int p4), .val (.int v5), .val (.int v6), .val (.int v7), .val (.int v8), .val (.int u0), .val (.ref o60), .val (.ref o71), .val (.ref o71), .unset] [(.int u0), (.int p1)]))
      by_cases hc135 : p1 = u0
      · refine own_st (fun _ k => XS.icmpNo X120.here hx rfl (hb hby lw_d102) rfl (teq hc135).2 k) ?_
        show own_Dn p e below s _ _ _ (T120.setTop (mkF m 105 #[.val (.int p0), .val (.int p1), .val (.int p2), .val (.int p3), .val (.int p4), .val (.int v5), .val (.int v6), .val (.int v7), .val (.int v8), .val (.int u0), .val (.ref o60), .val (.ref o71), .val (.ref o71), .unset] []))
        refine own_st (fun _ k => XS.iconst X120.here hx rfl (hb hby lw_d105) (XS.goto X120.here hx rfl (pc0 := 106) (pc' := 110) rfl (hb hby lw_d106) (by decide) (by decide) (XS.istore X120.here hx rfl (hb hby lw_d110) rfl (l' := #[.val (.int p0), .val (.int p1), .val (.int p2), .val (.int p3), .val (.int p4), .val (.int v5), .val (.int v6), .val (.int v7), .val (.int v8), .val (.int u0), .val (.ref o60), .val (.ref o71), .val (.ref o71), .val (.int (1 : Int32))]) rfl (XS.goto X120.here hx rfl (pc0 := 112) (pc' := 155) rfl (hb hby lw_d112) (by decide) (by decide) (XS.aload X120.here hx rfl (hb hby lw_d155) rfl rfl (XS.aload X120.here hx rfl (hb hby lw_d157) rfl rfl k)))))) ?_
        show own_Dn p e below s _ _ _ (T120.setTop (mkF m 159 #[.val (.int p0), .val (.int p1), .val (.int p2), .val (.int p3), .val (.int p4), .val (.int v5), .val (.int v6), .val (.int v7), .val (.int v8), .val (.int u0), .val (.ref o60), .val (.ref o71), .val (.ref o71), .val (.int (1 : Int32))] [(.ref o71), (.ref o60)]))
        obtain ⟨cq136, kq136, q136a, q136b, q136c⟩ := isOf hZ rfl F129
        obtain ⟨_, _, ⟨T136, L136, k136, n136⟩, -, X136, ⟨Lc136, hQ136, l136, y136, z136⟩, st136⟩ := X120.virtualBack hx (y := (⟨"com/example/hashloom/cli/Point", "equals", "(Ljava/lang/Object;)Z"⟩ : MethodName)) (z := (⟨"com/example/hashloom/cli/Point", "equals", "(Ljava/lang/Object;)Z"⟩ : MethodName)) hown (mvT hZ (hw _ (List.mem_of_getElem? (i := 13) rfl))) (mvT hZ (hw _ (List.mem_of_getElem? (i := 14) rfl))) (notFace_of_selects (args := #[]) (mvT hZ (hw _ (List.mem_of_getElem? (i := 16) rfl)))) (mvT hZ (hw _ (List.mem_of_getElem? (i := 16) rfl))) (mvT hZ (hw _ (List.mem_of_getElem? (i := 15) rfl))) (by decide) (backOf (W := 0) (ep_rm l Z a0 hw [] (o60) (o71) (p0) (p1) (v8) (u0) T120.heap n0 F124 F130 F131 G121 G122 G123) hZ (hw _ (List.mem_of_getElem? (i := 17) rfl)) (hw _ (List.mem_of_getElem? (i := 2) rfl)) (by decide) (by decide)) q136a q136c (g := (mkF m 159 #[.val (.int p0), .val (.int p1), .val (.int p2), .val (.int p3), .val (.int p4), .val (.int v5), .val (.int v6), .val (.int v7), .val (.int v8), .val (.int u0), .val (.ref o60), .val (.ref o71), .val (.ref o71), .val (.int (1 : Int32))] [(.ref o71), (.ref o60)])) rfl (by rw [hml]; rfl) (Steps.refl _) (argsL := [(.ref o71)]) (rest := []) (lenOf own_pd3 rfl) rfl (by show 2 * 0 + _ ≤ _; exact Nat.le_of_eq rfl) (hb hby lw_d159) (fun _ _ => ⟨rfl, rfl, (by decide : 2 + 0 ≤ _), (by decide : 4 + 0 ≤ _)⟩)
        dsimp only [Pt.U, Pt.locs, Pt.cells, Pt.slots] at X136 l136 y136 z136 st136 hQ136
        subst l136 y136 z136
        obtain ⟨rfl, N136q, e136⟩ := hQ136
        have N136 := Fr.app N120 N136q
        refine own_tr st136 ?_
        show own_Dn p e below s _ _ _ (T136.setTop (mkF m 162 #[.val (.int p0), .val (.int p1), .val (.int p2), .val (.int p3), .val (.int p4), .val (.int v5), .val (.int v6), .val (.int v7), .val (.int v8), .val (.int u0), .val (.ref o60), .val (.ref o71), .val (.ref o71), .val (.int (1 : Int32))] [(.int (ep_f p0 p1 v8 u0))]))
        refine own_st (fun _ k => XS.iload X136.here hx rfl (hb hby lw_d162) rfl k) ?_
        show own_Dn p e below s _ _ _ (T136.setTop (mkF m 164 #[.val (.int p0), .val (.int p1), .val (.int p2), .val (.int p3), .val (.int p4), .val (.int v5), .val (.int v6), .val (.int v7), .val (.int v8), .val (.int u0), .val (.ref o60), .val (.ref o71), .val (.ref o71), .val (.int (1 : Int32))] [(.int (1 : Int32)), (.int (ep_f p0 p1 v8 u0))]))
        by_cases hc137 : (ep_f p0 p1 v8 u0) = (1 : Int32)
        · refine own_st (fun _ k => XS.icmpNo X136.here hx rfl (hb hby lw_d164) rfl (teq hc137).2 k) ?_
          show own_Dn p e below s _ _ _ (T136.setTop (mkF m 167 #[.val (.int p0), .val (.int p1), .val (.int p2), .val (.int p3), .val (.int p4), .val (.int v5), .val (.int v6), .val (.int v7), .val (.int v8), .val (.int u0), .val (.ref o60), .val (.ref o71), .val (.ref o71), .val (.int (1 : Int32))] []))
          refine own_st (fun _ k => XS.iconst X136.here hx rfl (hb hby lw_d167) (XS.goto X136.here hx rfl (pc0 := 168) (pc' := 172) rfl (hb hby lw_d168) (by decide) (by decide) k)) ?_
          show own_Dn p e below s _ _ _ (T136.setTop (mkF m 172 #[.val (.int p0), .val (.int p1), .val (.int p2), .val (.int p3), .val (.int p4), .val (.int v5), .val (.int v6), .val (.int v7), .val (.int v8), .val (.int u0), .val (.ref o60), .val (.ref o71), .val (.ref o71), .val (.int (1 : Int32))] [(.int (1 : Int32))]))
          exact own_retZ X136 hx hret hlk (by decide) (hb hby lw_d172) (by decide) (by decide) ⟨(by rw [hr0, lw_f58, if_pos hc133, if_pos hc134, if_pos hc135, if_pos hc137]), N136⟩
        · refine own_st (fun _ k => XS.icmpYes X136.here hx rfl (pc0 := 164) (pc' := 171) rfl (hb hby lw_d164) rfl (feq hc137).2 (by decide) (by decide) k) ?_
          show own_Dn p e below s _ _ _ (T136.setTop (mkF m 171 #[.val (.int p0), .val (.int p1), .val (.int p2), .val (.int p3), .val (.int p4), .val (.int v5), .val (.int v6), .val (.int v7), .val (.int v8), .val (.int u0), .val (.ref o60), .val (.ref o71), .val (.ref o71), .val (.int (1 : Int32))] []))
          refine own_st (fun _ k => XS.iconst X136.here hx rfl (hb hby lw_d171) k) ?_
          show own_Dn p e below s _ _ _ (T136.setTop (mkF m 172 #[.val (.int p0), .val (.int p1), .val (.int p2), .val (.int p3), .val (.int p4), .val (.int v5), .val (.int v6), .val (.int v7), .val (.int v8), .val (.int u0), .val (.ref o60), .val (.ref o71), .val (.ref o71), .val (.int (1 : Int32))] [(.int (0 : Int32))]))
          exact own_retZ X136 hx hret hlk (by decide) (hb hby lw_d172) (by decide) (by decide) ⟨(by rw [hr0, lw_f58, if_pos hc133, if_pos hc134, if_pos hc135, if_neg hc137]), N136⟩
      · refine own_st (fun _ k => XS.icmpYes X120.here hx rfl (pc0 := 102) (pc' := 109) rfl (hb hby lw_d102) rfl (feq hc135).2 (by decide) (by decide) k) ?_
        show own_Dn p e below s _ _ _ (T120.setTop (mkF m 109 #[.val (.int p0), .val (.int p1), .val (.int p2), .val (.int p3), .val (.int p4), .val (.int v5), .val (.int v6), .val (.int v7), .val (.int v8), .val (.int u0), .val (.ref o60), .val (.ref o71), .val (.ref o71), .unset] []))
        refine own_st (fun _ k => XS.iconst X120.here hx rfl (hb hby lw_d109) (XS.istore X120.here hx rfl (hb hby lw_d110) rfl (l' := #[.val (.int p0), .val (.int p1), .val (.int p2), .val (.int p3), .val (.int p4), .val (.int v5), .val (.int v6), .val (.int v7), .val (.int v8), .val (.int u0), .val (.ref o60), .val (.ref o71), .val (.ref o71), .val (.int (0 : Int32))]) rfl (XS.goto X120.here hx rfl (pc0 := 112) (pc' := 155) rfl (hb hby lw_d112) (by decide) (by decide) (XS.aload X120.here hx rfl (hb hby lw_d155) rfl rfl (XS.aload X120.here hx rfl (hb hby lw_d157) rfl rfl k))))) ?_
        show own_Dn p e below s _ _ _ (T120.setTop (mkF m 159 #[.val (.int p0), .val (.int p1), .val (.int p2), .val (.int p3), .val (.int p4), .val (.int v5), .val (.int v6), .val (.int v7), .val (.int v8), .val (.int u0), .val (.ref o60), .val (.ref o71), .val (.ref o71), .val (.int (0 : Int32))] [(.ref o71), (.ref o60)]))
        obtain ⟨cq138, kq138, q138a, q138b, q138c⟩ := isOf hZ rfl F129
        obtain ⟨_, _, ⟨T138, L138, k138, n138⟩, -, X138, ⟨Lc138, hQ138, l138, y138, z138⟩, st138⟩ := X120.virtualBack hx (y := (⟨"com/example/hashloom/cli/Point", "equals", "(Ljava/lang/Object;)Z"⟩ : MethodName)) (z := (⟨"com/example/hashloom/cli/Point", "equals", "(Ljava/lang/Object;)Z"⟩ : MethodName)) hown (mvT hZ (hw _ (List.mem_of_getElem? (i := 13) rfl))) (mvT hZ (hw _ (List.mem_of_getElem? (i := 14) rfl))) (notFace_of_selects (args := #[]) (mvT hZ (hw _ (List.mem_of_getElem? (i := 16) rfl)))) (mvT hZ (hw _ (List.mem_of_getElem? (i := 16) rfl))) (mvT hZ (hw _ (List.mem_of_getElem? (i := 15) rfl))) (by decide) (backOf (W := 0) (ep_rm l Z a0 hw [] (o60) (o71) (p0) (p1) (v8) (u0) T120.heap n0 F124 F130 F131 G121 G122 G123) hZ (hw _ (List.mem_of_getElem? (i := 17) rfl)) (hw _ (List.mem_of_getElem? (i := 2) rfl)) (by decide) (by decide)) q138a q138c (g := (mkF m 159 #[.val (.int p0), .val (.int p1), .val (.int p2), .val (.int p3), .val (.int p4), .val (.int v5), .val (.int v6), .val (.int v7), .val (.int v8), .val (.int u0), .val (.ref o60), .val (.ref o71), .val (.ref o71), .val (.int (0 : Int32))] [(.ref o71), (.ref o60)])) rfl (by rw [hml]; rfl) (Steps.refl _) (argsL := [(.ref o71)]) (rest := []) (lenOf own_pd3 rfl) rfl (by show 2 * 0 + _ ≤ _; exact Nat.le_of_eq rfl) (hb hby lw_d159) (fun _ _ => ⟨rfl, rfl, (by decide : 2 + 0 ≤ _), (by decide : 4 + 0 ≤ _)⟩)
        dsimp only [Pt.U, Pt.locs, Pt.cells, Pt.slots] at X138 l138 y138 z138 st138 hQ138
        subst l138 y138 z138
        obtain ⟨rfl, N138q, e138⟩ := hQ138
        have N138 := Fr.app N120 N138q
        refine own_tr st138 ?_
        show own_Dn p e below s _ _ _ (T138.setTop (mkF m 162 #[.val (.int p0), .val (.int p1), .val (.int p2), .val (.int p3), .val (.int p4), .val (.int v5), .val (.int v6), .val (.int v7), .val (.int v8), .val (.int u0), .val (.ref o60), .val (.ref o71), .val (.ref o71), .val (.int (0 : Int32))] [(.int (ep_f p0 p1 v8 u0))]))
        refine own_st (fun _ k => XS.iload X138.here hx rfl (hb hby lw_d162) rfl k) ?_
        show own_Dn p e below s _ _ _ (T138.setTop (mkF m 164 #[.val (.int p0), .val (.int p1), .val (.int p2), .val (.int p3), .val (.int p4), .val (.int v5), .val (.int v6), .val (.int v7), .val (.int v8), .val (.int u0), .val (.ref o60), .val (.ref o71), .val (.ref o71), .val (.int (0 : Int32))] [(.int (0 : Int32)), (.int (ep_f p0 p1 v8 u0))]))
        by_cases hc139 : (ep_f p0 p1 v8 u0) = (0 : Int32)
        · refine own_st (fun _ k => XS.icmpNo X138.here hx rfl (hb hby lw_d164) rfl (teq hc139).2 k) ?_
          show own_Dn p e below s _ _ _ (T138.setTop (mkF m 167 #[.val (.int p0), .val (.int p1), .val (.int p2), .val (.int p3), .val (.int p4), .val (.int v5), .val (.int v6), .val (.int v7), .val (.int v8), .val (.int u0), .val (.ref o60), .val (.ref o71), .val (.ref o71), .val (.int (0 : Int32))] []))
          refine own_st (fun _ k => XS.iconst X138.here hx rfl (hb hby lw_d167) (XS.goto X138.here hx rfl (pc0 := 168) (pc' := 172) rfl (hb hby lw_d168) (by decide) (by decide) k)) ?_
          show own_Dn p e below s _ _ _ (T138.setTop (mkF m 172 #[.val (.int p0), .val (.int p1), .val (.int p2), .val (.int p3), .val (.int p4), .val (.int v5), .val (.int v6), .val (.int v7), .val (.int v8), .val (.int u0), .val (.ref o60), .val (.ref o71), .val (.ref o71), .val (.int (0 : Int32))] [(.int (1 : Int32))]))
          exact own_retZ X138 hx hret hlk (by decide) (hb hby lw_d172) (by decide) (by decide) ⟨(by rw [hr0, lw_f58, if_pos hc133, if_pos hc134, if_neg hc135, if_pos hc139]), N138⟩
        · refine own_st (fun _ k => XS.icmpYes X138.here hx rfl (pc0 := 164) (pc' := 171) rfl (hb hby lw_d164) rfl (feq hc139).2 (by decide) (by decide) k) ?_
          show own_Dn p e below s _ _ _ (T138.setTop (mkF m 171 #[.val (.int p0), .val (.int p1), .val (.int p2), .val (.int p3), .val (.int p4), .val (.int v5), .val (.int v6), .val (.int v7), .val (.int v8), .val (.int u0), .val (.ref o60), .val (.ref o71), .val (.ref o71), .val (.int (0 : Int32))] []))
          refine own_st (fun _ k => XS.iconst X138.here hx rfl (hb hby lw_d171) k) ?_
          show own_Dn p e below s _ _ _ (T138.setTop (mkF m 172 #[.val (.int p0), .val (.int p1), .val (.int p2), .val (.int p3), .val (.int p4), .val (.int v5), .val (.int v6), .val (.int v7), .val (.int v8), .val (.int u0), .val (.ref o60), .val (.ref o71), .val (.ref o71), .val (.int (0 : Int32))] [(.int (0 : Int32))]))
          exact own_retZ X138 hx hret hlk (by decide) (hb hby lw_d172) (by decide) (by decide) ⟨(by rw [hr0, lw_f58, if_pos hc133, if_pos hc134, if_neg hc135, if_neg hc139]), N138⟩
    · refine own_st (fun _ k => XS.icmpYes X120.here hx rfl (pc0 := 96) (pc' := 109) rfl (hb hby lw_d96) rfl (feq hc134).2 (by decide) (by decide) k) ?_
      show own_Dn p e below s _ _ _ (T120.setTop (mkF m 109 #[.val (.int p0), .val (.int p1), .val (.int p2), .val (.int p3), .val (.int p4), .val (.int v5), .val (.int v6), .val (.int v7), .val (.int v8), .val (.int u0), .val (.ref o60), .val (.ref o71), .val (.ref o71), .unset] []))
      refine own_st (fun _ k => XS.iconst X120.here hx rfl (hb hby lw_d109) (XS.istore X120.here hx rfl (hb hby lw_d110) rfl (l' := #[.val (.int p0), .val (.int p1), .val (.int p2), .val (.int p3), .val (.int p4), .val (.int v5), .val (.int v6), .val (.int v7), .val (.int v8), .val (.int u0), .val (.ref o60), .val (.ref o71), .val (.ref o71), .val (.int (0 : Int32))]) rfl (XS.goto X120.here hx rfl (pc0 := 112) (pc' := 155) rfl (hb hby lw_d112) (by decide) (by decide) (XS.aload X120.here hx rfl (hb hby lw_d155) rfl rfl (XS.aload X120.here hx rfl (hb hby lw_d157) rfl rfl k))))) ?_
      show own_Dn p e below s _ _ _ (T120.setTop (mkF m 159 #[.val (.int p0), .val (.int p1), .val (.int p2), .val (.int p3), .val (.int p4), .val (.int v5), .val (.int v6), .val (.int v7), .val (.int v8), .val (.int u0), .val (.ref o60), .val (.ref o71), .val (.ref o71), .val (.int (0 : Int32))] [(.ref o71), (.ref o60)]))
      obtain ⟨cq140, kq140, q140a, q140b, q140c⟩ := isOf hZ rfl F129
      obtain ⟨_, _, ⟨T140, L140, k140, n140⟩, -, X140, ⟨Lc140, hQ140, l140, y140, z140⟩, st140⟩ := X120.virtualBack hx (y := (⟨"com/example/hashloom/cli/Point", "equals", "(Ljava/lang/Object;)Z"⟩ : MethodName)) (z := (⟨"com/example/hashloom/cli/Point", "equals", "(Ljava/lang/Object;)Z"⟩ : MethodName)) hown (mvT hZ (hw _ (List.mem_of_getElem? (i := 13) rfl))) (mvT hZ (hw _ (List.mem_of_getElem? (i := 14) rfl))) (notFace_of_selects (args := #[]) (mvT hZ (hw _ (List.mem_of_getElem? (i := 16) rfl)))) (mvT hZ (hw _ (List.mem_of_getElem? (i := 16) rfl))) (mvT hZ (hw _ (List.mem_of_getElem? (i := 15) rfl))) (by decide) (backOf (W := 0) (ep_rm l Z a0 hw [] (o60) (o71) (p0) (p1) (v8) (u0) T120.heap n0 F124 F130 F131 G121 G122 G123) hZ (hw _ (List.mem_of_getElem? (i := 17) rfl)) (hw _ (List.mem_of_getElem? (i := 2) rfl)) (by decide) (by decide)) q140a q140c (g := (mkF m 159 #[.val (.int p0), .val (.int p1), .val (.int p2), .val (.int p3), .val (.int p4), .val (.int v5), .val (.int v6), .val (.int v7), .val (.int v8), .val (.int u0), .val (.ref o60), .val (.ref o71), .val (.ref o71), .val (.int (0 : Int32))] [(.ref o71), (.ref o60)])) rfl (by rw [hml]; rfl) (Steps.refl _) (argsL := [(.ref o71)]) (rest := []) (lenOf own_pd3 rfl) rfl (by show 2 * 0 + _ ≤ _; exact Nat.le_of_eq rfl) (hb hby lw_d159) (fun _ _ => ⟨rfl, rfl, (by decide : 2 + 0 ≤ _), (by decide : 4 + 0 ≤ _)⟩)
      dsimp only [Pt.U, Pt.locs, Pt.cells, Pt.slots] at X140 l140 y140 z140 st140 hQ140
      subst l140 y140 z140
      obtain ⟨rfl, N140q, e140⟩ := hQ140
      have N140 := Fr.app N120 N140q
      refine own_tr st140 ?_
      show own_Dn p e below s _ _ _ (T140.setTop (mkF m 162 #[.val (.int p0), .val (.int p1), .val (.int p2), .val (.int p3), .val (.int p4), .val (.int v5), .val (.int v6), .val (.int v7), .val (.int v8), .val (.int u0), .val (.ref o60), .val (.ref o71), .val (.ref o71), .val (.int (0 : Int32))] [(.int (ep_f p0 p1 v8 u0))]))
      refine own_st (fun _ k => XS.iload X140.here hx rfl (hb hby lw_d162) rfl k) ?_
      show own_Dn p e below s _ _ _ (T140.setTop (mkF m 164 #[.val (.int p0), .val (.int p1), .val (.int p2), .val (.int p3), .val (.int p4), .val (.int v5), .val (.int v6), .val (.int v7), .val (.int v8), .val (.int u0), .val (.ref o60), .val (.ref o71), .val (.ref o71), .val (.int (0 : Int32))] [(.int (0 : Int32)), (.int (ep_f p0 p1 v8 u0))]))
      by_cases hc141 : (ep_f p0 p1 v8 u0) = (0 : Int32)
      · refine own_st (fun _ k => XS.icmpNo X140.here hx rfl (hb hby lw_d164) rfl (teq hc141).2 k) ?_
        show own_Dn p e below s _ _ _ (T140.setTop (mkF m 167 #[.val (.int p0), .val (.int p1), .val (.int p2), .val (.int p3), .val (.int p4), .val (.int v5), .val (.int v6), .val (.int v7), .val (.int v8), .val (.int u0), .val (.ref o60), .val (.ref o71), .val (.ref o71), .val (.int (0 : Int32))] []))
        refine own_st (fun _ k => XS.iconst X140.here hx rfl (hb hby lw_d167) (XS.goto X140.here hx rfl (pc0 := 168) (pc' := 172) rfl (hb hby lw_d168) (by decide) (by decide) k)) ?_
        show own_Dn p e below s _ _ _ (T140.setTop (mkF m 172 #[.val (.int p0), .val (.int p1), .val (.int p2), .val (.int p3), .val (.int p4), .val (.int v5), .val (.int v6), .val (.int v7), .val (.int v8), .val (.int u0), .val (.ref o60), .val (.ref o71), .val (.ref o71), .val (.int (0 : Int32))] [(.int (1 : Int32))]))
        exact own_retZ X140 hx hret hlk (by decide) (hb hby lw_d172) (by decide) (by decide) ⟨(by rw [hr0, lw_f58, if_pos hc133, if_neg hc134, if_pos hc141]), N140⟩
      · refine own_st (fun _ k => XS.icmpYes X140.here hx rfl (pc0 := 164) (pc' := 171) rfl (hb hby lw_d164) rfl (feq hc141).2 (by decide) (by decide) k) ?_
        show own_Dn p e below s _ _ _ (T140.setTop (mkF m 171 #[.val (.int p0), .val (.int p1), .val (.int p2), .val (.int p3), .val (.int p4), .val (.int v5), .val (.int v6), .val (.int v7), .val (.int v8), .val (.int u0), .val (.ref o60), .val (.ref o71), .val (.ref o71), .val (.int (0 : Int32))] []))
        refine own_st (fun _ k => XS.iconst X140.here hx rfl (hb hby lw_d171) k) ?_
        show own_Dn p e below s _ _ _ (T140.setTop (mkF m 172 #[.val (.int p0), .val (.int p1), .val (.int p2), .val (.int p3), .val (.int p4), .val (.int v5), .val (.int v6), .val (.int v7), .val (.int v8), .val (.int u0), .val (.ref o60), .val (.ref o71), .val (.ref o71), .val (.int (0 : Int32))] [(.int (0 : Int32))]))
        exact own_retZ X140 hx hret hlk (by decide) (hb hby lw_d172) (by decide) (by decide) ⟨(by rw [hr0, lw_f58, if_pos hc133, if_neg hc134, if_neg hc141]), N140⟩
  · refine own_st (fun _ k => XS.ifYes X120.here hx rfl (pc0 := 86) (pc' := 115) rfl (hb hby lw_d86) rfl ((if0 _ _).trans (feq hc133).2) (by decide) (by decide) k) ?_
    show own_Dn p e below s _ _ _ (T120.setTop (mkF m 115 #[.val (.int p0), .val (.int p1), .val (.int p2), .val (.int p3), .val (.int p4), .val (.int v5), .val (.int v6), .val (.int v7), .val (.int v8), .val (.int u0), .val (.ref o60), .val (.ref o71), .unset, .unset] []))
    refine own_st (fun _ k => XS.iload X120.here hx rfl (hb hby lw_d115) rfl (XS.iconst X120.here hx rfl (hb hby lw_d117) k)) ?_
    show own_Dn p e below s _ _ _ (T120.setTop (mkF m 118 #[.val (.int p0), .val (.int p1), .val (.int p2), .val (.int p3), .val (.int p4), .val (.int v5), .val (.int v6), .val (.int v7), .val (.int v8), .val (.int u0), .val (.ref o60), .val (.ref o71), .unset, .unset] [(.int (1 : Int32)), (.int v7)]))
    by_cases hc142 : v7 = (1 : Int32)
    · refine own_st (fun _ k => XS.icmpNo X120.here hx rfl (hb hby lw_d118) rfl (teq hc142).2 k) ?_
      show own_Dn p e below s _ _ _ (T120.setTop (mkF m 121 #[.val (.int p0), .val (.int p1), .val (.int p2), .val (.int p3), .val (.int p4), .val (.int v5), .val (.int v6), .val (.int v7), .val (.int v8), .val (.int u0), .val (.ref o60), .val (.ref o71), .unset, .unset] []))
      refine own_st (fun _ k => XS.aconstNull X120.here hx rfl (hb hby lw_d121) (XS.astore X120.here hx rfl (hb hby lw_d122) rfl rfl (l' := #[.val (.int p0), .val (.int p1), .val (.int p2), .val (.int p3), .val (.int p4), .val (.int v5), .val (.int v6), .val (.int v7), .val (.int v8), .val (.int u0), .val (.ref o60), .val (.ref o71), .val .null, .unset]) rfl (XS.iconst X120.here hx rfl (hb hby lw_d124) (XS.istore X120.here hx rfl (hb hby lw_d125) rfl (l' := #[.val (.int p0), .val (.int p1), .val (.int p2), .val (.int p3), .val (.int p4), .val (.int v5), .val (.int v6), .val (.int v7), .val (.int v8), .val (.int u0), .val (.ref o60), .val (.ref o71), .val .null, .val (.int (0 : Int32))]) rfl (XS.goto X120.here hx rfl (pc0 := 127) (pc' := 155) rfl (hb hby lw_d127) (by decide) (by decide) (XS.aload X120.here hx rfl (hb hby lw_d155) rfl rfl (XS.aload X120.here hx rfl (hb hby lw_d157) rfl rfl k))))))) ?_
      show own_Dn p e below s _ _ _ (T120.setTop (mkF m 159 #[.val (.int p0), .val (.int p1), .val (.int p2), .val (.int p3), .val (.int p4), .val (.int v5), .val (.int v6), .val (.int v7), .val (.int v8), .val (.int u0), .val (.ref o60), .val (.ref o71), .val .null, .val (.int (0 : Int32))] [.null, (.ref o60)]))
      obtain ⟨cq143, kq143, q143a, q143b, q143c⟩ := isOf hZ rfl F129
      obtain ⟨_, _, ⟨T143, L143, k143, n143⟩, -, X143, ⟨Lc143, hQ143, l143, y143, z143⟩, st143⟩ := X120.virtualBack hx (y := (⟨"com/example/hashloom/cli/Point", "equals", "(Ljava/lang/Object;)Z"⟩ : MethodName)) (z := (⟨"com/example/hashloom/cli/Point", "equals", "(Ljava/lang/Object;)Z"⟩ : MethodName)) hown (mvT hZ (hw _ (List.mem_of_getElem? (i := 13) rfl))) (mvT hZ (hw _ (List.mem_of_getElem? (i := 14) rfl))) (notFace_of_selects (args := #[]) (mvT hZ (hw _ (List.mem_of_getElem? (i := 16) rfl)))) (mvT hZ (hw _ (List.mem_of_getElem? (i := 16) rfl))) (mvT hZ (hw _ (List.mem_of_getElem? (i := 15) rfl))) (by decide) (backOf (W := 0) (en_rm l Z a0 hw [] (o60) T120.heap n0 F124 ) hZ (hw _ (List.mem_of_getElem? (i := 17) rfl)) (hw _ (List.mem_of_getElem? (i := 2) rfl)) (by decide) (by decide)) q143a q143c (g := (mkF m 159 #[.val (.int p0), .val (.int p1), .val (.int p2), .val (.int p3), .val (.int p4), .val (.int v5), .val (.int v6), .val (.int v7), .val (.int v8), .val (.int u0), .val (.ref o60), .val (.ref o71), .val .null, .val (.int (0 : Int32))] [.null, (.ref o60)])) rfl (by rw [hml]; rfl) (Steps.refl _) (argsL := [.null]) (rest := []) (lenOf own_pd3 rfl) rfl (by show 2 * 0 + _ ≤ _; exact Nat.le_of_eq rfl) (hb hby lw_d159) (fun _ _ => ⟨rfl, rfl, (by decide : 2 + 0 ≤ _), (by decide : 4 + 0 ≤ _)⟩)
      dsimp only [Pt.U, Pt.locs, Pt.cells, Pt.slots] at X143 l143 y143 z143 st143 hQ143
      subst l143 y143 z143
      obtain ⟨rfl, N143q, e143⟩ := hQ143
      have N143 := Fr.app N120 N143q
      refine own_tr st143 ?_
      show own_Dn p e below s _ _ _ (T143.setTop (mkF m 162 #[.val (.int p0), .val (.int p1), .val (.int p2), .val (.int p3), .val (.int p4), .val (.int v5), .val (.int v6), .val (.int v7), .val (.int v8), .val (.int u0), .val (.ref o60), .val (.ref o71), .val .null, .val (.int (0 : Int32))] [(.int (en_f ))]))
      refine own_st (fun _ k => XS.iload X143.here hx rfl (hb hby lw_d162) rfl k) ?_
      show own_Dn p e below s _ _ _ (T143.setTop (mkF m 164 #[.val (.int p0), .val (.int p1), .val (.int p2), .val (.int p3), .val (.int p4), .val (.int v5), .val (.int v6), .val (.int v7), .val (.int v8), .val (.int u0), .val (.ref o60), .val (.ref o71), .val .null, .val (.int (0 : Int32))] [(.int (0 : Int32)), (.int (en_f ))]))
      by_cases hc144 : (en_f ) = (0 : Int32)
      · refine own_st (fun _ k => XS.icmpNo X143.here hx rfl (hb hby lw_d164) rfl (teq hc144).2 k) ?_
        show own_Dn p e below s _ _ _ (T143.setTop (mkF m 167 #[.val (.int p0), .val (.int p1), .val (.int p2), .val (.int p3), .val (.int p4), .val (.int v5), .val (.int v6), .val (.int v7), .val (.int v8), .val (.int u0), .val (.ref o60), .val (.ref o71), .val .null, .val (.int (0 : Int32))] []))
        refine own_st (fun _ k => XS.iconst X143.here hx rfl (hb hby lw_d167) (XS.goto X143.here hx rfl (pc0 := 168) (pc' := 172) rfl (hb hby lw_d168) (by decide) (by decide) k)) ?_
        show own_Dn p e below s _ _ _ (T143.setTop (mkF m 172 #[.val (.int p0), .val (.int p1), .val (.int p2), .val (.int p3), .val (.int p4), .val (.int v5), .val (.int v6), .val (.int v7), .val (.int v8), .val (.int u0), .val (.ref o60), .val (.ref o71), .val .null, .val (.int (0 : Int32))] [(.int (1 : Int32))]))
        exact own_retZ X143 hx hret hlk (by decide) (hb hby lw_d172) (by decide) (by decide) ⟨(by rw [hr0, lw_f58, if_neg hc133, if_pos hc142, if_pos hc144]), N143⟩
      · refine own_st (fun _ k => XS.icmpYes X143.here hx rfl (pc0 := 164) (pc' := 171) rfl (hb hby lw_d164) rfl (feq hc144).2 (by decide) (by decide) k) ?_
        show own_Dn p e below s _ _ _ (T143.setTop (mkF m 171 #[.val (.int p0), .val (.int p1), .val (.int p2), .val (.int p3), .val (.int p4), .val (.int v5), .val (.int v6), .val (.int v7), .val (.int v8), .val (.int u0), .val (.ref o60), .val (.ref o71), .val .null, .val (.int (0 : Int32))] []))
        refine own_st (fun _ k => XS.iconst X143.here hx rfl (hb hby lw_d171) k) ?_
        show own_Dn p e below s _ _ _ (T143.setTop (mkF m 172 #[.val (.int p0), .val (.int p1), .val (.int p2), .val (.int p3), .val (.int p4), .val (.int v5), .val (.int v6), .val (.int v7), .val (.int v8), .val (.int u0), .val (.ref o60), .val (.ref o71), .val .null, .val (.int (0 : Int32))] [(.int (0 : Int32))]))
        exact own_retZ X143 hx hret hlk (by decide) (hb hby lw_d172) (by decide) (by decide) ⟨(by rw [hr0, lw_f58, if_neg hc133, if_pos hc142, if_neg hc144]), N143⟩
    · refine own_st (fun _ k => XS.icmpYes X120.here hx rfl (pc0 := 118) (pc' := 130) rfl (hb hby lw_d118) rfl (feq hc142).2 (by decide) (by decide) k) ?_
      show own_Dn p e below s _ _ _ (T120.setTop (mkF m 130 #[.val (.int p0), .val (.int p1), .val (.int p2), .val (.int p3), .val (.int p4), .val (.int v5), .val (.int v6), .val (.int v7), .val (.int v8), .val (.int u0), .val (.ref o60), .val (.ref o71), .unset, .unset] []))
      refine own_st (fun _ k => XS.iload X120.here hx rfl (hb hby lw_d130) rfl (XS.iconst X120.here hx rfl (hb hby lw_d132) k)) ?_
      show own_Dn p e below s _ _ _ (T120.setTop (mkF m 133 #[.val (.int p0), .val (.int p1), .val (.int p2), .val (.int p3), .val (.int p4), .val (.int v5), .val (.int v6), .val (.int v7), .val (.int v8), .val (.int u0), .val (.ref o60), .val (.ref o71), .unset, .unset] [(.int (2 : Int32)), (.int v7)]))
      by_cases hc145 : v7 = (2 : Int32)
      · refine own_st (fun _ k => XS.icmpNo X120.here hx rfl (hb hby lw_d133) rfl (teq hc145).2 k) ?_
        show own_Dn p e below s _ _ _ (T120.setTop (mkF m 136 #[.val (.int p0), .val (.int p1), .val (.int p2), .val (.int p3), .val (.int p4), .val (.int v5), .val (.int v6), .val (.int v7), .val (.int v8), .val (.int u0), .val (.ref o60), .val (.ref o71), .unset, .unset] []))
        refine own_st (fun _ k => XS.iloadN X120.here hx rfl (hb hby lw_d136) rfl k) ?_
        show own_Dn p e below s _ _ _ (T120.setTop (mkF m 137 #[.val (.int p0), .val (.int p1), .val (.int p2), .val (.int p3), .val (.int p4), .val (.int v5), .val (.int v6), .val (.int v7), .val (.int v8), .val (.int u0), .val (.ref o60), .val (.ref o71), .unset, .unset] [(.int p0)]))
        obtain ⟨_, _, ⟨T146, L146, k146, n146⟩, -, X146, ⟨Lc146, hQ146, l146, y146, z146⟩, st146⟩ := Jvm.LawKit.callS X120 hx (y := (⟨"java/lang/Integer", "valueOf", "(I)Ljava/lang/Integer;"⟩ : MethodName)) hown (mvT hZ (hw _ (List.mem_of_getElem? (i := 20) rfl))) (mvT hZ (hw _ (List.mem_of_getElem? (i := 21) rfl))) (mvT hZ (hw _ (List.mem_of_getElem? (i := 22) rfl))) (mvT hZ (hw _ (List.mem_of_getElem? (i := 23) rfl))) (by decide) (backOf (W := 0) (vo_rm l Z a0 hw [] (p0) (w_c) (w_f) T120.heap n0 F124 F125 F126 F127 F128) hZ (hw _ (List.mem_of_getElem? (i := 23) rfl)) (hw _ (List.mem_of_getElem? (i := 22) rfl)) (by decide) (by decide)) (g := (mkF m 137 #[.val (.int p0), .val (.int p1), .val (.int p2), .val (.int p3), .val (.int p4), .val (.int v5), .val (.int v6), .val (.int v7), .val (.int v8), .val (.int u0), .val (.ref o60), .val (.ref o71), .unset, .unset] [(.int p0)])) rfl (by rw [hml]; rfl) (argsL := [(.int p0)]) (rest := []) (lenOf own_pd4 rfl) rfl (by show 2 * 0 + _ ≤ _; exact Nat.le_of_eq rfl) (hb hby lw_d137) (fun _ _ => ⟨rfl, rfl, (by decide : 2 + 1 ≤ _), (by decide : 4 + 1 ≤ _)⟩)
        dsimp only [Pt.U, Pt.locs, Pt.cells, Pt.slots] at X146 l146 y146 z146 st146 hQ146
        subst l146 y146 z146
        obtain ⟨r137, rfl, N146q, K146, G147⟩ := hQ146
        have F148 : n0 ≤ T146.heap.size := Nat.le_trans F124 K146.1
        have F149 : Sta Z T146.heap "java/lang/Integer$IntegerCache" "high" "I" (.int (127 : Int32)) := own_Sta_keep0 F125 K146
        have F150 : Sta Z T146.heap "java/lang/Integer$IntegerCache" "cache" "[Ljava/lang/Integer;" (.ref w_c) := own_Sta_keep0 F126 K146
        have F151 : own_Arf Z T146.heap w_c (.object "java/lang/Integer") 256 (fun i => (w_f i)) := F127.keep K146 nin0
        have F152 : own_IE w_f Z T146.heap := F128.keep0 K146
        have F153 : Exa Z T146.heap o60 "com/example/hashloom/cli/Point" := F129.keep K146
        have F154 : Fld Z T146.heap o60 "com/example/hashloom/cli/Point" "x" "I" (.int p0) := F130.keep K146 nin0
        have F155 : Fld Z T146.heap o60 "com/example/hashloom/cli/Point" "y" "I" (.int p1) := F131.keep K146 nin0
        have F156 : Exa Z T146.heap o71 "com/example/hashloom/cli/Point" := G121.keep K146
        have F157 : Fld Z T146.heap o71 "com/example/hashloom/cli/Point" "x" "I" (.int v8) := G122.keep K146 nin0
        have F158 : Fld Z T146.heap o71 "com/example/hashloom/cli/Point" "y" "I" (.int u0) := G123.keep K146 nin0
        have N146 := Fr.app N120 N146q
        refine own_st st146 ?_
        show own_Dn p e below s _ _ _ (T146.setTop (mkF m 140 #[.val (.int p0), .val (.int p1), .val (.int p2), .val (.int p3), .val (.int p4), .val (.int v5), .val (.int v6), .val (.int v7), .val (.int v8), .val (.int u0), .val (.ref o60), .val (.ref o71), .unset, .unset] [(.ref r137)]))
        refine own_st (fun _ k => XS.astore X146.here hx rfl (hb hby lw_d140) rfl rfl (l' := #[.val (.int p0), .val (.int p1), .val (.int p2), .val (.int p3), .val (.int p4), .val (.int v5), .val (.int v6), .val (.int v7), .val (.int v8), .val (.int u0), .val (.ref o60), .val (.ref o71), .val (.ref r137), .unset]) rfl (XS.iconst X146.here hx rfl (hb hby lw_d142) (XS.istore X146.here hx rfl (hb hby lw_d143) rfl (l' := #[.val (.int p0), .val (.int p1), .val (.int p2), .val (.int p3), .val (.int p4), .val (.int v5), .val (.int v6), .val (.int v7), .val (.int v8), .val (.int u0), .val (.ref o60), .val (.ref o71), .val (.ref r137), .val (.int (0 : Int32))]) rfl (XS.goto X146.here hx rfl (pc0 := 145) (pc' := 155) rfl (hb hby lw_d145) (by decide) (by decide) (XS.aload X146.here hx rfl (hb hby lw_d155) rfl rfl (XS.aload X146.here hx rfl (hb hby lw_d157) rfl rfl k)))))) ?_
        show own_Dn p e below s _ _ _ (T146.setTop (mkF m 159 #[.val (.int p0), .val (.int p1), .val (.int p2), .val (.int p3), .val (.int p4), .val (.int v5), .val (.int v6), .val (.int v7), .val (.int v8), .val (.int u0), .val (.ref o60), .val (.ref o71), .val (.ref r137), .val (.int (0 : Int32))] [(.ref r137), (.ref o60)]))
        obtain ⟨cq159, kq159, q159a, q159b, q159c⟩ := isOf hZ rfl F153
        obtain ⟨_, _, ⟨T159, L159, k159, n159⟩, -, X159, ⟨Lc159, hQ159, l159, y159, z159⟩, st159⟩ := X146.virtualBack hx (y := (⟨"com/example/hashloom/cli/Point", "equals", "(Ljava/lang/Object;)Z"⟩ : MethodName)) (z := (⟨"com/example/hashloom/cli/Point", "equals", "(Ljava/lang/Object;)Z"⟩ : MethodName)) hown (mvT hZ (hw _ (List.mem_of_getElem? (i := 13) rfl))) (mvT hZ (hw _ (List.mem_of_getElem? (i := 14) rfl))) (notFace_of_selects (args := #[]) (mvT hZ (hw _ (List.mem_of_getElem? (i := 16) rfl)))) (mvT hZ (hw _ (List.mem_of_getElem? (i := 16) rfl))) (mvT hZ (hw _ (List.mem_of_getElem? (i := 15) rfl))) (by decide) (backOf (W := 0) (ei_rm l Z a0 hw [] (o60) (r137) T146.heap n0 F148 G147) hZ (hw _ (List.mem_of_getElem? (i := 17) rfl)) (hw _ (List.mem_of_getElem? (i := 2) rfl)) (by decide) (by decide)) q159a q159c (g := (mkF m 159 #[.val (.int p0), .val (.int p1), .val (.int p2), .val (.int p3), .val (.int p4), .val (.int v5), .val (.int v6), .val (.int v7), .val (.int v8), .val (.int u0), .val (.ref o60), .val (.ref o71), .val (.ref r137), .val (.int (0 : Int32))] [(.ref r137), (.ref o60)])) rfl (by rw [hml]; rfl) (Steps.refl _) (argsL := [(.ref r137)]) (rest := []) (lenOf own_pd3 rfl) rfl (by show 2 * 0 + _ ≤ _; exact Nat.le_of_eq rfl) (hb hby lw_d159) (fun _ _ => ⟨rfl, rfl, (by decide : 3 + 0 ≤ _), (by decide : 5 + 0 ≤ _)⟩)
        dsimp only [Pt.U, Pt.locs, Pt.cells, Pt.slots] at X159 l159 y159 z159 st159 hQ159
        subst l159 y159 z159
        obtain ⟨rfl, N159q, e159⟩ := hQ159
        have N159 := Fr.app N146 N159q
        refine own_tr st159 ?_
        show own_Dn p e below s _ _ _ (T159.setTop (mkF m 162 #[.val (.int p0), .val (.int p1), .val (.int p2), .val (.int p3), .val (.int p4), .val (.int v5), .val (.int v6), .val (.int v7), .val (.int v8), .val (.int u0), .val (.ref o60), .val (.ref o71), .val (.ref r137), .val (.int (0 : Int32))] [(.int (ei_f ))]))
        refine own_st (fun _ k => XS.iload X159.here hx rfl (hb hby lw_d162) rfl k) ?_
        show own_Dn p e below s _ _ _ (T159.setTop (mkF m 164 #[.val (.int p0), .val (.int p1), .val (.int p2), .val (.int p3), .val (.int p4), .val (.int v5), .val (.int v6), .val (.int v7), .val (.int v8), .val (.int u0), .val (.ref o60), .val (.ref o71), .val (.ref r137), .val (.int (0 : Int32))] [(.int (0 : Int32)), (.int (ei_f ))]))
        by_cases hc160 : (ei_f ) = (0 : Int32)
        · refine own_st (fun _ k => XS.icmpNo X159.here hx rfl (hb hby lw_d164) rfl (teq hc160).2 k) ?_
          show own_Dn p e below s _ _ _ (T159.setTop (mkF m 167 #[.val (.int p0), .val (.int p1), .val (.int p2), .val (.int p3), .val (.int p4), .val (.int v5), .val (.int v6), .val (.int v7), .val (.int v8), .val (.int u0), .val (.ref o60), .val (.ref o71), .val (.ref r137), .val (.int (0 : Int32))] []))
          refine own_st (fun _ k => XS.iconst X159.here hx rfl (hb hby lw_d167) (XS.goto X159.here hx rfl (pc0 := 168) (pc' := 172) rfl (hb hby lw_d168) (by decide) (by decide) k)) ?_
          show own_Dn p e below s _ _ _ (T159.setTop (mkF m 172 #[.val (.int p0), .val (.int p1), .val (.int p2), .val (.int p3), .val (.int p4), .val (.int v5), .val (.int v6), .val (.int v7), .val (.int v8), .val (.int u0), .val (.ref o60), .val (.ref o71), .val (.ref r137), .val (.int (0 : Int32))] [(.int (1 : Int32))]))
          exact own_retZ X159 hx hret hlk (by decide) (hb hby lw_d172) (by decide) (by decide) ⟨(by rw [hr0, lw_f58, if_neg hc133, if_neg hc142, if_pos hc145, if_pos hc160]), N159⟩
        · refine own_st (fun _ k => XS.icmpYes X159.here hx rfl (pc0 := 164) (pc' := 171) rfl (hb hby lw_d164) rfl (feq hc160).2 (by decide) (by decide) k) ?_
          show own_Dn p e below s _ _ _ (T159.setTop (mkF m 171 #[.val (.int p0), .val (.int p1), .val (.int p2), .val (.int p3), .val (.int p4), .val (.int v5), .val (.int v6), .val (.int v7), .val (.int v8), .val (.int u0), .val (.ref o60), .val (.ref o71), .val (.ref r137), .val (.int (0 : Int32))] []))
          refine own_st (fun _ k => XS.iconst X159.here hx rfl (hb hby lw_d171) k) ?_
          show own_Dn p e below s _ _ _ (T159.setTop (mkF m 172 #[.val (.int p0), .val (.int p1), .val (.int p2), .val (.int p3), .val (.int p4), .val (.int v5), .val (.int v6), .val (.int v7), .val (.int v8), .val (.int u0), .val (.ref o60), .val (.ref o71), .val (.ref r137), .val (.int (0 : Int32))] [(.int (0 : Int32))]))
          exact own_retZ X159 hx hret hlk (by decide) (hb hby lw_d172) (by decide) (by decide) ⟨(by rw [hr0, lw_f58, if_neg hc133, if_neg hc142, if_pos hc145, if_neg hc160]), N159⟩
      · refine own_st (fun _ k => XS.icmpYes X120.here hx rfl (pc0 := 133) (pc' := 148) rfl (hb hby lw_d133) rfl (feq hc145).2 (by decide) (by decide) k) ?_
        show own_Dn p e below s _ _ _ (T120.setTop (mkF m 148 #[.val (.int p0), .val (.int p1), .val (.int p2), .val (.int p3), .val (.int p4), .val (.int v5), .val (.int v6), .val (.int v7), .val (.int v8), .val (.int u0), .val (.ref o60), .val (.ref o71), .unset, .unset] []))
        refine own_st (fun _ k => XS.aload X120.here hx rfl (hb hby lw_d148) rfl rfl (XS.astore X120.here hx rfl (hb hby lw_d150) rfl rfl (l' := #[.val (.int p0), .val (.int p1), .val (.int p2), .val (.int p3), .val (.int p4), .val (.int v5), .val (.int v6), .val (.int v7), .val (.int v8), .val (.int u0), .val (.ref o60), .val (.ref o71), .val (.ref o60), .unset]) rfl (XS.iconst X120.here hx rfl (hb hby lw_d152) (XS.istore X120.here hx rfl (hb hby lw_d153) rfl (l' := #[.val (.int p0), .val (.int p1), .val (.int p2), .val (.int p3), .val (.int p4), .val (.int v5), .val (.int v6), .val (.int v7), .val (.int v8), .val (.int u0), .val (.ref o60), .val (.ref o71), .val (.ref o60), .val (.int (1 : Int32))]) rfl (XS.aload X120.here hx rfl (hb hby lw_d155) rfl rfl (XS.aload X120.here hx rfl (hb hby lw_d157) rfl rfl k)))))) ?_
        show own_Dn p e below s _ _ _ (T120.setTop (mkF m 159 #[.val (.int p0), .val (.int p1), .val (.int p2), .val (.int p3), .val (.int p4), .val (.int v5), .val (.int v6), .val (.int v7), .val (.int v8), .val (.int u0), .val (.ref o60), .val (.ref o71), .val (.ref o60), .val (.int (1 : Int32))] [(.ref o60), (.ref o60)]))
        obtain ⟨cq161, kq161, q161a, q161b, q161c⟩ := isOf hZ rfl F129
        obtain ⟨_, _, ⟨T161, L161, k161, n161⟩, -, X161, ⟨Lc161, hQ161, l161, y161, z161⟩, st161⟩ := X120.virtualBack hx (y := (⟨"com/example/hashloom/cli/Point", "equals", "(Ljava/lang/Object;)Z"⟩ : MethodName)) (z := (⟨"com/example/hashloom/cli/Point", "equals", "(Ljava/lang/Object;)Z"⟩ : MethodName)) hown (mvT hZ (hw _ (List.mem_of_getElem? (i := 13) rfl))) (mvT hZ (hw _ (List.mem_of_getElem? (i := 14) rfl))) (notFace_of_selects (args := #[]) (mvT hZ (hw _ (List.mem_of_getElem? (i := 16) rfl)))) (mvT hZ (hw _ (List.mem_of_getElem? (i := 16) rfl))) (mvT hZ (hw _ (List.mem_of_getElem? (i := 15) rfl))) (by decide) (backOf (W := 0) (ep_rm l Z a0 hw [] (o60) (o60) (p0) (p1) (p0) (p1) T120.heap n0 F124 F130 F131 F129 F130 F131) hZ (hw _ (List.mem_of_getElem? (i := 17) rfl)) (hw _ (List.mem_of_getElem? (i := 2) rfl)) (by decide) (by decide)) q161a q161c (g := (mkF m 159 #[.val (.int p0), .val (.int p1), .val (.int p2), .val (.int p3), .val (.int p4), .val (.int v5), .val (.int v6), .val (.int v7), .val (.int v8), .val (.int u0), .val (.ref o60), .val (.ref o71), .val (.ref o60), .val (.int (1 : Int32))] [(.ref o60), (.ref o60)])) rfl (by rw [hml]; rfl) (Steps.refl _) (argsL := [(.ref o60)]) (rest := []) (lenOf own_pd3 rfl) rfl (by show 2 * 0 + _ ≤ _; exact Nat.le_of_eq rfl) (hb hby lw_d159) (fun _ _ => ⟨rfl, rfl, (by decide : 2 + 0 ≤ _), (by decide : 4 + 0 ≤ _)⟩)
        dsimp only [Pt.U, Pt.locs, Pt.cells, Pt.slots] at X161 l161 y161 z161 st161 hQ161
        subst l161 y161 z161
        obtain ⟨rfl, N161q, e161⟩ := hQ161
        have N161 := Fr.app N120 N161q
        refine own_tr st161 ?_
        show own_Dn p e below s _ _ _ (T161.setTop (mkF m 162 #[.val (.int p0), .val (.int p1), .val (.int p2), .val (.int p3), .val (.int p4), .val (.int v5), .val (.int v6), .val (.int v7), .val (.int v8), .val (.int u0), .val (.ref o60), .val (.ref o71), .val (.ref o60), .val (.int (1 : Int32))] [(.int (ep_f p0 p1 p0 p1))]))
        refine own_st (fun _ k => XS.iload X161.here hx rfl (hb hby lw_d162) rfl k) ?_
        show own_Dn p e below s _ _ _ (T161.setTop (mkF m 164 #[.val (.int p0), .val (.int p1), .val (.int p2), .val (.int p3), .val (.int p4), .val (.int v5), .val (.int v6), .val (.int v7), .val (.int v8), .val (.int u0), .val (.ref o60), .val (.ref o71), .val (.ref o60), .val (.int (1 : Int32))] [(.int (1 : Int32)), (.int (ep_f p0 p1 p0 p1))]))
        by_cases hc162 : (ep_f p0 p1 p0 p1) = (1 : Int32)
        · refine own_st (fun _ k => XS.icmpNo X161.here hx rfl (hb hby lw_d164) rfl (teq hc162).2 k) ?_
          show own_Dn p e below s _ _ _ (T161.setTop (mkF m 167 #[.val (.int p0), .val (.int p1), .val (.int p2), .val (.int p3), .val (.int p4), .val (.int v5), .val (.int v6), .val (.int v7), .val (.int v8), .val (.int u0), .val (.ref o60), .val (.ref o71), .val (.ref o60), .val (.int (1 : Int32))] []))
          refine own_st (fun _ k => XS.iconst X161.here hx rfl (hb hby lw_d167) (XS.goto X161.here hx rfl (pc0 := 168) (pc' := 172) rfl (hb hby lw_d168) (by decide) (by decide) k)) ?_
          show own_Dn p e below s _ _ _ (T161.setTop (mkF m 172 #[.val (.int p0), .val (.int p1), .val (.int p2), .val (.int p3), .val (.int p4), .val (.int v5), .val (.int v6), .val (.int v7), .val (.int v8), .val (.int u0), .val (.ref o60), .val (.ref o71), .val (.ref o60), .val (.int (1 : Int32))] [(.int (1 : Int32))]))
          exact own_retZ X161 hx hret hlk (by decide) (hb hby lw_d172) (by decide) (by decide) ⟨(by rw [hr0, lw_f58, if_neg hc133, if_neg hc142, if_neg hc145, if_pos hc162]), N161⟩
        · refine own_st (fun _ k => XS.icmpYes X161.here hx rfl (pc0 := 164) (pc' := 171) rfl (hb hby lw_d164) rfl (feq hc162).2 (by decide) (by decide) k) ?_
          show own_Dn p e below s _ _ _ (T161.setTop (mkF m 171 #[.val (.int p0), .val (.int p1), .val (.int p2), .val (.int p3), .val (.int p4), .val (.int v5), .val (.int v6), .val (.int v7), .val (.int v8), .val (.int u0), .val (.ref o60), .val (.ref o71), .val (.ref o60), .val (.int (1 : Int32))] []))
          refine own_st (fun _ k => XS.iconst X161.here hx rfl (hb hby lw_d171) k) ?_
          show own_Dn p e below s _ _ _ (T161.setTop (mkF m 172 #[.val (.int p0), .val (.int p1), .val (.int p2), .val (.int p3), .val (.int p4), .val (.int v5), .val (.int v6), .val (.int v7), .val (.int v8), .val (.int u0), .val (.ref o60), .val (.ref o71), .val (.ref o60), .val (.int (1 : Int32))] [(.int (0 : Int32))]))
          exact own_retZ X161 hx hret hlk (by decide) (hb hby lw_d172) (by decide) (by decide) ⟨(by rw [hr0, lw_f58, if_neg hc133, if_neg hc142, if_neg hc145, if_neg hc162]), N161⟩
def lw_f46 (p0 : Int32) (p1 : Int32) (p2 : Int32) (p3 : Int32) (p4 : Int32) (w_f : Nat → Value) (v5 : Int32) (v6 : Int32) (v7 : Int32) (u0 : Int32) : Int32 :=
  if v6 = (0 : Int32) then
    lw_f58 p0 p1 p2 p3 p4 w_f (v5) (v6) (v7) (u0) (p3)
  else
    lw_f58 p0 p1 p2 p3 p4 w_f (v5) (v6) (v7) (u0) (p1)
set_option maxRecDepth 65536 in
set_option maxHeartbeats 40000000 in
theorem lw_c46 {l : Launch} {Z : State} {a0 : Array Value} {p0 : Int32} {p1 : Int32} {p2 : Int32} {p3 : Int32} {p4 : Int32} {w_c : Addr} {w_f : Nat → Value} {h0 : Heap} {n0 : Nat} {p : Program} {e : Env} {s : State} {m : MethodId} {args : Array Value} {below : List Frame} {meth : Method} {c : Code} {T0 : State} {locs : List Loc} {r0 : Int32} (C0 : own_Cx p s m meth c Z a0 code 14 "com/example/hashloom/cli/PointEqualsPinLaw" "law" (some .boolean)) (X0 : Stand p l e room_1 s m args below meth c T0 locs 0 0) (e0 : T0.heap = h0) (N0 : Fr n0 locs) (v5 : Int32) (v6 : Int32) (v7 : Int32) (u0 : Int32) (Z0 : n0 ≤ h0.size) (P1 : Sta Z h0 "java/lang/Integer$IntegerCache" "high" "I" (.int (127 : Int32))) (P2 : Sta Z h0 "java/lang/Integer$IntegerCache" "cache" "[Ljava/lang/Integer;" (.ref w_c)) (P3 : own_Arf Z h0 w_c (.object "java/lang/Integer") 256 (fun i => (w_f i))) (P4 : own_IE w_f Z h0) (hr0 : r0 = lw_f46 p0 p1 p2 p3 p4 w_f v5 v6 v7 u0) :
    own_Dn p e below s (own_QL (some (.int r0)) n0) room_1.cells room_1.slots (T0.setTop (mkF m 46 #[.val (.int p0), .val (.int p1), .val (.int p2), .val (.int p3), .val (.int p4), .val (.int v5), .val (.int v6), .val (.int v7), .unset, .unset, .unset, .unset, .unset, .unset] [(.int u0)])) := by
  obtain ⟨hx, hZ, hw, hby, hml, hown, hret, hlk, hnm⟩ := id C0
  refine own_st (fun _ k => XS.istore X0.here hx rfl (hb hby lw_d46) rfl (l' := #[.val (.int p0), .val (.int p1), .val (.int p2), .val (.int p3), .val (.int p4), .val (.int v5), .val (.int v6), .val (.int v7), .val (.int u0), .unset, .unset, .unset, .unset, .unset]) rfl (XS.iload X0.here hx rfl (hb hby lw_d48) rfl k)) ?_
  show own_Dn p e below s _ _ _ (T0.setTop (mkF m 50 #[.val (.int p0), .val (.int p1), .val (.int p2), .val (.int p3), .val (.int p4), .val (.int v5), .val (.int v6), .val (.int v7), .val (.int u0), .unset, .unset, .unset, .unset, .unset] [(.int v6)]))
  by_cases hc85 : v6 = (0 : Int32)
  · refine own_st (fun _ k => XS.ifYes X0.here hx rfl (pc0 := 50) (pc' := 57) rfl (hb hby lw_d50) rfl ((if0 _ _).trans (teq hc85).1) (by decide) (by decide) k) ?_
    show own_Dn p e below s _ _ _ (T0.setTop (mkF m 57 #[.val (.int p0), .val (.int p1), .val (.int p2), .val (.int p3), .val (.int p4), .val (.int v5), .val (.int v6), .val (.int v7), .val (.int u0), .unset, .unset, .unset, .unset, .unset] []))
    refine own_st (fun _ k => XS.iloadN X0.here hx rfl (hb hby lw_d57) rfl k) ?_
    show own_Dn p e below s _ _ _ (T0.setTop (mkF m 58 #[.val (.int p0), .val (.int p1), .val (.int p2), .val (.int p3), .val (.int p4), .val (.int v5), .val (.int v6), .val (.int v7), .val (.int u0), .unset, .unset, .unset, .unset, .unset] [(.int p3)]))
    exact lw_c58 C0 X0 e0 N0 (v5) (v6) (v7) (u0) (p3) Z0 P1 P2 P3 P4 (by rw [hr0, lw_f46, if_pos hc85])
  · refine own_st (fun _ k => XS.ifNo X0.here hx rfl (hb hby lw_d50) rfl ((if0 _ _).trans (feq hc85).1) k) ?_
    show own_Dn p e below s _ _ _ (T0.setTop (mkF m 53 #[.val (.int p0), .val (.int p1), .val (.int p2), .val (.int p3), .val (.int p4), .val (.int v5), .val (.int v6), .val (.int v7), .val (.int u0), .unset, .unset, .unset, .unset, .unset] []))
    refine own_st (fun _ k => XS.iloadN X0.here hx rfl (hb hby lw_d53) rfl (XS.goto X0.here hx rfl (pc0 := 54) (pc' := 58) rfl (hb hby lw_d54) (by decide) (by decide) k)) ?_
    show own_Dn p e below s _ _ _ (T0.setTop (mkF m 58 #[.val (.int p0), .val (.int p1), .val (.int p2), .val (.int p3), .val (.int p4), .val (.int v5), .val (.int v6), .val (.int v7), .val (.int u0), .unset, .unset, .unset, .unset, .unset] [(.int p1)]))
    exact lw_c58 C0 X0 e0 N0 (v5) (v6) (v7) (u0) (p1) Z0 P1 P2 P3 P4 (by rw [hr0, lw_f46, if_neg hc85])
def lw_f26 (p0 : Int32) (p1 : Int32) (p2 : Int32) (p3 : Int32) (p4 : Int32) (w_f : Nat → Value) (v5 : Int32) (u0 : Int32) : Int32 :=
  if v5 = (0 : Int32) then
    lw_f46 p0 p1 p2 p3 p4 w_f (v5) (u0) ((((p4.toUInt32 >>> ((2 : Int32) &&& 31).toUInt32).toInt32) &&& (3 : Int32))) (p2)
  else
    lw_f46 p0 p1 p2 p3 p4 w_f (v5) (u0) ((((p4.toUInt32 >>> ((2 : Int32) &&& 31).toUInt32).toInt32) &&& (3 : Int32))) (p0)
set_option maxRecDepth 65536 in
set_option maxHeartbeats 40000000 in
theorem lw_c26 {l : Launch} {Z : State} {a0 : Array Value} {p0 : Int32} {p1 : Int32} {p2 : Int32} {p3 : Int32} {p4 : Int32} {w_c : Addr} {w_f : Nat → Value} {h0 : Heap} {n0 : Nat} {p : Program} {e : Env} {s : State} {m : MethodId} {args : Array Value} {below : List Frame} {meth : Method} {c : Code} {T0 : State} {locs : List Loc} {r0 : Int32} (C0 : own_Cx p s m meth c Z a0 code 14 "com/example/hashloom/cli/PointEqualsPinLaw" "law" (some .boolean)) (X0 : Stand p l e room_1 s m args below meth c T0 locs 0 0) (e0 : T0.heap = h0) (N0 : Fr n0 locs) (v5 : Int32) (u0 : Int32) (Z0 : n0 ≤ h0.size) (P1 : Sta Z h0 "java/lang/Integer$IntegerCache" "high" "I" (.int (127 : Int32))) (P2 : Sta Z h0 "java/lang/Integer$IntegerCache" "cache" "[Ljava/lang/Integer;" (.ref w_c)) (P3 : own_Arf Z h0 w_c (.object "java/lang/Integer") 256 (fun i => (w_f i))) (P4 : own_IE w_f Z h0) (hr0 : r0 = lw_f26 p0 p1 p2 p3 p4 w_f v5 u0) :
    own_Dn p e below s (own_QL (some (.int r0)) n0) room_1.cells room_1.slots (T0.setTop (mkF m 26 #[.val (.int p0), .val (.int p1), .val (.int p2), .val (.int p3), .val (.int p4), .val (.int v5), .unset, .unset, .unset, .unset, .unset, .unset, .unset, .unset] [(.int u0)])) := by
  obtain ⟨hx, hZ, hw, hby, hml, hown, hret, hlk, hnm⟩ := id C0
  refine own_st (fun _ k => XS.istore X0.here hx rfl (hb hby lw_d26) rfl (l' := #[.val (.int p0), .val (.int p1), .val (.int p2), .val (.int p3), .val (.int p4), .val (.int v5), .val (.int u0), .unset, .unset, .unset, .unset, .unset, .unset, .unset]) rfl (XS.iload X0.here hx rfl (hb hby lw_d28) rfl (XS.iconst X0.here hx rfl (hb hby lw_d30) (XS.iushr X0.here hx rfl (hb hby lw_d31) rfl (XS.iconst X0.here hx rfl (hb hby lw_d32) (XS.iand X0.here hx rfl (hb hby lw_d33) rfl (XS.istore X0.here hx rfl (hb hby lw_d34) rfl (l' := #[.val (.int p0), .val (.int p1), .val (.int p2), .val (.int p3), .val (.int p4), .val (.int v5), .val (.int u0), .val (.int (((p4.toUInt32 >>> ((2 : Int32) &&& 31).toUInt32).toInt32) &&& (3 : Int32))), .unset, .unset, .unset, .unset, .unset, .unset]) rfl (XS.iload X0.here hx rfl (hb hby lw_d36) rfl k)))))))) ?_
  show own_Dn p e below s _ _ _ (T0.setTop (mkF m 38 #[.val (.int p0), .val (.int p1), .val (.int p2), .val (.int p3), .val (.int p4), .val (.int v5), .val (.int u0), .val (.int (((p4.toUInt32 >>> ((2 : Int32) &&& 31).toUInt32).toInt32) &&& (3 : Int32))), .unset, .unset, .unset, .unset, .unset, .unset] [(.int v5)]))
  by_cases hc84 : v5 = (0 : Int32)
  · refine own_st (fun _ k => XS.ifYes X0.here hx rfl (pc0 := 38) (pc' := 45) rfl (hb hby lw_d38) rfl ((if0 _ _).trans (teq hc84).1) (by decide) (by decide) k) ?_
    show own_Dn p e below s _ _ _ (T0.setTop (mkF m 45 #[.val (.int p0), .val (.int p1), .val (.int p2), .val (.int p3), .val (.int p4), .val (.int v5), .val (.int u0), .val (.int (((p4.toUInt32 >>> ((2 : Int32) &&& 31).toUInt32).toInt32) &&& (3 : Int32))), .unset, .unset, .unset, .unset, .unset, .unset] []))
    refine own_st (fun _ k => XS.iloadN X0.here hx rfl (hb hby lw_d45) rfl k) ?_
    show own_Dn p e below s _ _ _ (T0.setTop (mkF m 46 #[.val (.int p0), .val (.int p1), .val (.int p2), .val (.int p3), .val (.int p4), .val (.int v5), .val (.int u0), .val (.int (((p4.toUInt32 >>> ((2 : Int32) &&& 31).toUInt32).toInt32) &&& (3 : Int32))), .unset, .unset, .unset, .unset, .unset, .unset] [(.int p2)]))
    exact lw_c46 C0 X0 e0 N0 (v5) (u0) ((((p4.toUInt32 >>> ((2 : Int32) &&& 31).toUInt32).toInt32) &&& (3 : Int32))) (p2) Z0 P1 P2 P3 P4 (by rw [hr0, lw_f26, if_pos hc84])
  · refine own_st (fun _ k => XS.ifNo X0.here hx rfl (hb hby lw_d38) rfl ((if0 _ _).trans (feq hc84).1) k) ?_
    show own_Dn p e below s _ _ _ (T0.setTop (mkF m 41 #[.val (.int p0), .val (.int p1), .val (.int p2), .val (.int p3), .val (.int p4), .val (.int v5), .val (.int u0), .val (.int (((p4.toUInt32 >>> ((2 : Int32) &&& 31).toUInt32).toInt32) &&& (3 : Int32))), .unset, .unset, .unset, .unset, .unset, .unset] []))
    refine own_st (fun _ k => XS.iloadN X0.here hx rfl (hb hby lw_d41) rfl (XS.goto X0.here hx rfl (pc0 := 42) (pc' := 46) rfl (hb hby lw_d42) (by decide) (by decide) k)) ?_
    show own_Dn p e below s _ _ _ (T0.setTop (mkF m 46 #[.val (.int p0), .val (.int p1), .val (.int p2), .val (.int p3), .val (.int p4), .val (.int v5), .val (.int u0), .val (.int (((p4.toUInt32 >>> ((2 : Int32) &&& 31).toUInt32).toInt32) &&& (3 : Int32))), .unset, .unset, .unset, .unset, .unset, .unset] [(.int p0)]))
    exact lw_c46 C0 X0 e0 N0 (v5) (u0) ((((p4.toUInt32 >>> ((2 : Int32) &&& 31).toUInt32).toInt32) &&& (3 : Int32))) (p0) Z0 P1 P2 P3 P4 (by rw [hr0, lw_f26, if_neg hc84])
def lw_f12 (p0 : Int32) (p1 : Int32) (p2 : Int32) (p3 : Int32) (p4 : Int32) (w_f : Nat → Value) (u0 : Int32) : Int32 :=
  if (p4 &&& (2 : Int32)) = (0 : Int32) then
    lw_f26 p0 p1 p2 p3 p4 w_f (u0) ((0 : Int32))
  else
    lw_f26 p0 p1 p2 p3 p4 w_f (u0) ((1 : Int32))
set_option maxRecDepth 65536 in
set_option maxHeartbeats 40000000 in
theorem lw_c12 {l : Launch} {Z : State} {a0 : Array Value} {p0 : Int32} {p1 : Int32} {p2 : Int32} {p3 : Int32} {p4 : Int32} {w_c : Addr} {w_f : Nat → Value} {h0 : Heap} {n0 : Nat} {p : Program} {e : Env} {s : State} {m : MethodId} {args : Array Value} {below : List Frame} {meth : Method} {c : Code} {T0 : State} {locs : List Loc} {r0 : Int32} (C0 : own_Cx p s m meth c Z a0 code 14 "com/example/hashloom/cli/PointEqualsPinLaw" "law" (some .boolean)) (X0 : Stand p l e room_1 s m args below meth c T0 locs 0 0) (e0 : T0.heap = h0) (N0 : Fr n0 locs) (u0 : Int32) (Z0 : n0 ≤ h0.size) (P1 : Sta Z h0 "java/lang/Integer$IntegerCache" "high" "I" (.int (127 : Int32))) (P2 : Sta Z h0 "java/lang/Integer$IntegerCache" "cache" "[Ljava/lang/Integer;" (.ref w_c)) (P3 : own_Arf Z h0 w_c (.object "java/lang/Integer") 256 (fun i => (w_f i))) (P4 : own_IE w_f Z h0) (hr0 : r0 = lw_f12 p0 p1 p2 p3 p4 w_f u0) :
    own_Dn p e below s (own_QL (some (.int r0)) n0) room_1.cells room_1.slots (T0.setTop (mkF m 12 #[.val (.int p0), .val (.int p1), .val (.int p2), .val (.int p3), .val (.int p4), .unset, .unset, .unset, .unset, .unset, .unset, .unset, .unset, .unset] [(.int u0)])) := by
  obtain ⟨hx, hZ, hw, hby, hml, hown, hret, hlk, hnm⟩ := id C0
  refine own_st (fun _ k => XS.istore X0.here hx rfl (hb hby lw_d12) rfl (l' := #[.val (.int p0), .val (.int p1), .val (.int p2), .val (.int p3), .val (.int p4), .val (.int u0), .unset, .unset, .unset, .unset, .unset, .unset, .unset, .unset]) rfl (XS.iload X0.here hx rfl (hb hby lw_d14) rfl (XS.iconst X0.here hx rfl (hb hby lw_d16) (XS.iand X0.here hx rfl (hb hby lw_d17) rfl k)))) ?_
  show own_Dn p e below s _ _ _ (T0.setTop (mkF m 18 #[.val (.int p0), .val (.int p1), .val (.int p2), .val (.int p3), .val (.int p4), .val (.int u0), .unset, .unset, .unset, .unset, .unset, .unset, .unset, .unset] [(.int (p4 &&& (2 : Int32)))]))
  by_cases hc83 : (p4 &&& (2 : Int32)) = (0 : Int32)
  · refine own_st (fun _ k => XS.ifYes X0.here hx rfl (pc0 := 18) (pc' := 25) rfl (hb hby lw_d18) rfl ((if0 _ _).trans (teq hc83).1) (by decide) (by decide) k) ?_
    show own_Dn p e below s _ _ _ (T0.setTop (mkF m 25 #[.val (.int p0), .val (.int p1), .val (.int p2), .val (.int p3), .val (.int p4), .val (.int u0), .unset, .unset, .unset, .unset, .unset, .unset, .unset, .unset] []))
    refine own_st (fun _ k => XS.iconst X0.here hx rfl (hb hby lw_d25) k) ?_
    show own_Dn p e below s _ _ _ (T0.setTop (mkF m 26 #[.val (.int p0), .val (.int p1), .val (.int p2), .val (.int p3), .val (.int p4), .val (.int u0), .unset, .unset, .unset, .unset, .unset, .unset, .unset, .unset] [(.int (0 : Int32))]))
    exact lw_c26 C0 X0 e0 N0 (u0) ((0 : Int32)) Z0 P1 P2 P3 P4 (by rw [hr0, lw_f12, if_pos hc83])
  · refine own_st (fun _ k => XS.ifNo X0.here hx rfl (hb hby lw_d18) rfl ((if0 _ _).trans (feq hc83).1) k) ?_
    show own_Dn p e below s _ _ _ (T0.setTop (mkF m 21 #[.val (.int p0), .val (.int p1), .val (.int p2), .val (.int p3), .val (.int p4), .val (.int u0), .unset, .unset, .unset, .unset, .unset, .unset, .unset, .unset] []))
    refine own_st (fun _ k => XS.iconst X0.here hx rfl (hb hby lw_d21) (XS.goto X0.here hx rfl (pc0 := 22) (pc' := 26) rfl (hb hby lw_d22) (by decide) (by decide) k)) ?_
    show own_Dn p e below s _ _ _ (T0.setTop (mkF m 26 #[.val (.int p0), .val (.int p1), .val (.int p2), .val (.int p3), .val (.int p4), .val (.int u0), .unset, .unset, .unset, .unset, .unset, .unset, .unset, .unset] [(.int (1 : Int32))]))
    exact lw_c26 C0 X0 e0 N0 (u0) ((1 : Int32)) Z0 P1 P2 P3 P4 (by rw [hr0, lw_f12, if_neg hc83])
def lw_f (p0 : Int32) (p1 : Int32) (p2 : Int32) (p3 : Int32) (p4 : Int32) (w_f : Nat → Value)  : Int32 :=
  if (p4 &&& (1 : Int32)) = (0 : Int32) then
    lw_f12 p0 p1 p2 p3 p4 w_f ((0 : Int32))
  else
    lw_f12 p0 p1 p2 p3 p4 w_f ((1 : Int32))
set_option maxRecDepth 65536 in
set_option maxHeartbeats 40000000 in
theorem lw_c0 {l : Launch} {Z : State} {a0 : Array Value} {p0 : Int32} {p1 : Int32} {p2 : Int32} {p3 : Int32} {p4 : Int32} {w_c : Addr} {w_f : Nat → Value} {h0 : Heap} {n0 : Nat} {p : Program} {e : Env} {s : State} {m : MethodId} {args : Array Value} {below : List Frame} {meth : Method} {c : Code} {T0 : State} {locs : List Loc} {r0 : Int32} (C0 : own_Cx p s m meth c Z a0 code 14 "com/example/hashloom/cli/PointEqualsPinLaw" "law" (some .boolean)) (X0 : Stand p l e room_1 s m args below meth c T0 locs 0 0) (e0 : T0.heap = h0) (N0 : Fr n0 locs)  (Z0 : n0 ≤ h0.size) (P0 : Sta Z h0 "java/lang/Integer$IntegerCache" "high" "I" (.int (127 : Int32))) (P1 : Sta Z h0 "java/lang/Integer$IntegerCache" "cache" "[Ljava/lang/Integer;" (.ref w_c)) (P2 : own_Arf Z h0 w_c (.object "java/lang/Integer") 256 (fun i => (w_f i))) (P3 : own_IE w_f Z h0) (hr0 : r0 = lw_f p0 p1 p2 p3 p4 w_f ) :
    own_Dn p e below s (own_QL (some (.int r0)) n0) room_1.cells room_1.slots (T0.setTop (mkF m 0 #[.val (.int p0), .val (.int p1), .val (.int p2), .val (.int p3), .val (.int p4), .unset, .unset, .unset, .unset, .unset, .unset, .unset, .unset, .unset] [])) := by
  obtain ⟨hx, hZ, hw, hby, hml, hown, hret, hlk, hnm⟩ := id C0
  refine own_st (fun _ k => XS.iload X0.here hx rfl (hb hby lw_d0) rfl (XS.iconst X0.here hx rfl (hb hby lw_d2) (XS.iand X0.here hx rfl (hb hby lw_d3) rfl k))) ?_
  show own_Dn p e below s _ _ _ (T0.setTop (mkF m 4 #[.val (.int p0), .val (.int p1), .val (.int p2), .val (.int p3), .val (.int p4), .unset, .unset, .unset, .unset, .unset, .unset, .unset, .unset, .unset] [(.int (p4 &&& (1 : Int32)))]))
  by_cases hc82 : (p4 &&& (1 : Int32)) = (0 : Int32)
  · refine own_st (fun _ k => XS.ifYes X0.here hx rfl (pc0 := 4) (pc' := 11) rfl (hb hby lw_d4) rfl ((if0 _ _).trans (teq hc82).1) (by decide) (by decide) k) ?_
    show own_Dn p e below s _ _ _ (T0.setTop (mkF m 11 #[.val (.int p0), .val (.int p1), .val (.int p2), .val (.int p3), .val (.int p4), .unset, .unset, .unset, .unset, .unset, .unset, .unset, .unset, .unset] []))
    refine own_st (fun _ k => XS.iconst X0.here hx rfl (hb hby lw_d11) k) ?_
    show own_Dn p e below s _ _ _ (T0.setTop (mkF m 12 #[.val (.int p0), .val (.int p1), .val (.int p2), .val (.int p3), .val (.int p4), .unset, .unset, .unset, .unset, .unset, .unset, .unset, .unset, .unset] [(.int (0 : Int32))]))
    exact lw_c12 C0 X0 e0 N0 ((0 : Int32)) Z0 P0 P1 P2 P3 (by rw [hr0, lw_f, if_pos hc82])
  · refine own_st (fun _ k => XS.ifNo X0.here hx rfl (hb hby lw_d4) rfl ((if0 _ _).trans (feq hc82).1) k) ?_
    show own_Dn p e below s _ _ _ (T0.setTop (mkF m 7 #[.val (.int p0), .val (.int p1), .val (.int p2), .val (.int p3), .val (.int p4), .unset, .unset, .unset, .unset, .unset, .unset, .unset, .unset, .unset] []))
    refine own_st (fun _ k => XS.iconst X0.here hx rfl (hb hby lw_d7) (XS.goto X0.here hx rfl (pc0 := 8) (pc' := 12) rfl (hb hby lw_d8) (by decide) (by decide) k)) ?_
    show own_Dn p e below s _ _ _ (T0.setTop (mkF m 12 #[.val (.int p0), .val (.int p1), .val (.int p2), .val (.int p3), .val (.int p4), .unset, .unset, .unset, .unset, .unset, .unset, .unset, .unset, .unset] [(.int (1 : Int32))]))
    exact lw_c12 C0 X0 e0 N0 ((1 : Int32)) Z0 P0 P1 P2 P3 (by rw [hr0, lw_f, if_neg hc82])
theorem lw_ef (m : MethodId) (p0 : Int32) (p1 : Int32) (p2 : Int32) (p3 : Int32) (p4 : Int32) : entryFrame m #[(.int p0), (.int p1), (.int p2), (.int p3), (.int p4)] maxLocals = mkF m 0 #[.val (.int p0), .val (.int p1), .val (.int p2), .val (.int p3), .val (.int p4), .unset, .unset, .unset, .unset, .unset, .unset, .unset, .unset, .unset] [] := by first | (simp [entryFrame, mkF, argsToLocals, Value.category, maxLocals]; done) | rfl
theorem lw_rm (l : Launch) (Z : State) (a0 : Array Value) (hw : ∀ d ∈ tables_1, d.before a0 Z = true) (ws : List Jvm.Cond) (p0 : Int32) (p1 : Int32) (p2 : Int32) (p3 : Int32) (p4 : Int32) (w_c : Addr) (w_f : Nat → Value) (h0 : Heap) (n0 : Nat) (Z0 : n0 ≤ h0.size) (P0 : Sta Z h0 "java/lang/Integer$IntegerCache" "high" "I" (.int (127 : Int32))) (P1 : Sta Z h0 "java/lang/Integer$IntegerCache" "cache" "[Ljava/lang/Integer;" (.ref w_c)) (P2 : own_Arf Z h0 w_c (.object "java/lang/Integer") 256 (fun i => (w_f i))) (P3 : own_IE w_f Z h0) :
    MetFree l x (head1 (Jvm.Cond.code x code maxLocals ret :: ws) room_1) (fun a U => a = #[(.int p0), (.int p1), (.int p2), (.int p3), (.int p4)] ∧ Z.Warmed39 U.vm ∧ U.heap = h0) (fun _ _ _ _ _ => True) (fun _ U o U' => ∃ v L, o = .returned v ∧ (own_QL (some (.int (lw_f p0 p1 p2 p3 p4 w_f))) n0) v U'.heap L ∧ FrameEnd U o U' L room_1.cells room_1.slots) :=
  own_met hw (plainFor_of_name (by first | (simp [plainName, overriddenIn]; done) | decide +kernel)) (fun p e s m below meth c T0 C0 X0 e0 => own_st (fun _ k => castTop (lw_ef m p0 p1 p2 p3 p4) k) (lw_c0 C0 X0 e0 (Fr.nil n0) Z0 P0 P1 P2 P3 rfl))
theorem own_l58 (p0 p1 p2 p3 p4 : Int32) (w_f : Nat → Value) (v5 v6 v7 v8 u0 : Int32) : lw_f58 p0 p1 p2 p3 p4 w_f v5 v6 v7 v8 u0 = 1 := by
  simp only [lw_f58, ep_f, en_f, ei_f]
  by_cases h1 : p0 = v8
  · subst h1
    by_cases h2 : p1 = u0
    · subst h2; simp
    · simp [h2, Ne.symm h2]
  · simp [h1, Ne.symm h1]
theorem own_law (p0 p1 p2 p3 p4 : Int32) (w_f : Nat → Value) : lw_f p0 p1 p2 p3 p4 w_f = 1 := by
  simp only [lw_f, lw_f12, lw_f26, lw_f46, own_l58, ite_self]

set_option maxRecDepth 65536 in
set_option maxHeartbeats 40000000 in
theorem comes_1 {Post : Tables → Env → Array Value → State → Outcome → State → Prop} (hpost : ∀ tb e args s v u, (limb_1_1.after args s (.returned v) u = true ∧ limb_1_2.after args s (.returned v) u = true ∧ True) → FrameEnd s (.returned v) u (Jvm.fieldLocs frame_1_writes args s ++ Jvm.arrayLocs frame_1_arrays args s ++ Jvm.staticLocs frame_1_statics s) 16 128 → Post tb e args s (.returned v) u) :
    ArmFor flags0 classFile x code maxLocals ret World_1 tables_1 room_1 Calls_1 rest_1 Pre_1 Post := by
  intro l hfl _ _ p e ha hc hk s m args below hf hA hF happ hP
  obtain ⟨hcalls, hrest, hpre⟩ := hP
  obtain ⟨-, -, -, hnamed, -, -, -, hat⟩ := (Spec.applies_iff hf).mp happ
  obtain ⟨hg, hn⟩ := and_e (Cond.before_iff.mp (show (Jvm.Cond.and given_1 narrow_1).before args s = true from hpre))
  obtain ⟨gc, hg0⟩ := and_e hg
  obtain ⟨g0, hg1⟩ := and_e hg0
  obtain ⟨g1, hg2⟩ := and_e hg1
  obtain ⟨g2, hg3⟩ := and_e hg2
  obtain ⟨g3, g4⟩ := and_e hg3
  obtain ⟨w0, w1, w2, w3, w4, rfl⟩ : ∃ w0 w1 w2 w3 w4 : Value, args = #[w0, w1, w2, w3, w4] := by
    have hs : args.size = 5 := by simpa [Cond.value, given_1] using gc
    obtain ⟨L⟩ := args
    match L, hs with
    | [w0, w1, w2, w3, w4], _ => exact ⟨w0, w1, w2, w3, w4, rfl⟩
  have hw := fun d (hd : d ∈ tables_1) => atoms_spec (ws := Jvm.Cond.code x code maxLocals ret :: tables_1) hat d (List.mem_cons_of_mem _ hd)
  have hfit : Fit s := fun {y c} hc i hi => by
    obtain ⟨ha, rfl⟩ := Array.getElem?_eq_some_iff.mp hc
    have q := List.all_eq_true.mp ((Array.all_eq_true_iff_forall_mem.mp hF) _ (Array.getElem_mem ha)) i (List.mem_range.mpr hi)
    simpa [Array.getElem?_eq_getElem hi] using q
  obtain ⟨i0, ei0⟩ := is_v g0
  obtain rfl : w0 = (.int i0) := Option.some.inj ei0
  obtain ⟨i1, ei1⟩ := is_v g1
  obtain rfl : w1 = (.int i1) := Option.some.inj ei1
  obtain ⟨i2, ei2⟩ := is_v g2
  obtain rfl : w2 = (.int i2) := Option.some.inj ei2
  obtain ⟨i3, ei3⟩ := is_v g3
  obtain rfl : w3 = (.int i3) := Option.some.inj ei3
  obtain ⟨i4, ei4⟩ := is_v g4
  obtain rfl : w4 = (.int i4) := Option.some.inj ei4
  obtain ⟨hsets, hown0⟩ := atoms_of _ (rest_1_c_eq ▸ (show rest_1_c.before _ s = true from hrest))
  have v3 := Cond.before_iff.mp (hsets _ (List.mem_of_getElem? (i := 3) rfl))
  have v4 := Cond.before_iff.mp (hsets _ (List.mem_of_getElem? (i := 4) rfl))
  have v6 := Cond.before_iff.mp (hsets _ (List.mem_of_getElem? (i := 6) rfl))
  have P0 : Sta s s.heap "java/lang/Integer$IntegerCache" "high" "I" (.int 127) := Sta.start (Cond.eq_int (hsets _ (List.mem_of_getElem? (i := 3) rfl)) rfl) (Or.inl (hsets _ (List.mem_of_getElem? (i := 1) rfl)))
  obtain ⟨w_c, ec⟩ := arr_v v4
  have P1 : Sta s s.heap "java/lang/Integer$IntegerCache" "cache" "[Ljava/lang/Integer;" (.ref w_c) := Sta.start ec (Or.inr ⟨(hw _ (List.mem_of_getElem? (i := 25) rfl)), (hsets _ (List.mem_of_getElem? (i := 2) rfl))⟩)
  obtain ⟨w_f, P2, -⟩ := own_Arf.start (n := 256) ec v4 v6 (by decide)
  have P3 : own_IE w_f s s.heap := own_IE.start (fun _ => ec) P2 (Cond.before_iff.mp (hsets _ (List.mem_of_getElem? (i := 7) rfl)))
  obtain ⟨n, o, h1, h2, h3, _, L, rfl, ⟨rfl, N⟩, hq⟩ := lw_rm l s _ hw tables_1 i0 i1 i2 i3 i4 w_c w_f s.heap s.heap.size (Nat.le_refl _) P0 P1 P2 P3 p e ha hc hk s m _ below hf ((Spec.applies_iff_loose hf).mp happ).1 ⟨rfl, State.Warmed39.refl s, rfl⟩ trivial
  refine ⟨n, _, h1, h2, h3, hpost _ _ _ _ _ _ ⟨Cond.after_iff.mpr rfl, Cond.after_iff.mpr (eq_i res_at (Term.int_eval (1)) (by rw [own_law])), trivial⟩ ⟨hq.1, hq.2.1, (hq.2.2.sift fun y hy => Or.inr (N y hy)).mono (by decide) (by decide)⟩⟩
theorem main_1_1 : Claimed_1_1 := comes_1 fun _ _ _ _ _ _ h hF => ⟨h.1, hF⟩
theorem main_1_2 : Claimed_1_2 := comes_1 fun _ _ _ _ _ _ h hF => ⟨h.2.1, hF⟩
end Jvm.Pilot.@@N@@
namespace Jvm.Pilot.@@N@@
open Jvm Jvm.ClassFile Sem Op Lib Jvm.Free Jvm.Stand Jvm.Pilot.@@N@@.Jvm.D
/-! MADE BY PROGRAM (witnessworld.py) out of the Statement's table words and the real class files: 17 classes; the members and pool entries that the words name. The judged class is class 1, her method 1. -/
namespace start1
open Jvm.ClassFile
def u (s : String) : CpInfo := .utf8 (stringToUtf16 s)
/-- a pool by its gaps: so many unusable entries, then the entry; so many at the end -/
def gap : Nat → List CpInfo → List CpInfo
  | 0, r => r
  | n + 1, r => .unusable :: gap n r
def poolList (es : List (Nat × CpInfo)) (last : Nat) : List CpInfo := es.foldr (fun e r => gap e.1 (e.2 :: r)) (gap last [])
def pool (es : List (Nat × CpInfo)) (last : Nat) : Array CpInfo := ⟨poolList es last⟩
def fileOf (pool : Array CpInfo) (this : Nat) (attrs : Array Attribute := #[]) (ms : Array MethodInfo := #[]) (fl : Nat := 33) (sup : Nat := 0) (ifs : Array Nat := #[]) (fds : Array FieldInfo := #[]) : ClassFile where
  minorVersion := 0
  majorVersion := 65
  constantPool := pool
  accessFlags := fl
  thisClass := this
  superClass := sup
  interfaces := ifs
  fields := fds
  methods := ms
  attributes := attrs
def plain (name : String) (sup : Option ClassId) : Class where
  name := name
  kind := .ordinary
  loader := none
  accessFlags := 33
  super := sup
  interfaces := #[]
  cf := none
  fields := #[]
  methods := #[]
  instanceTypes := #[]
  staticTypes := #[]
  resolved := #[]
  callSites := []
  init := .initialized
  statics := none
  mirror := none

def pool0 : Array CpInfo := pool [(5, u "<init>"), (0, u "()V"), (1, .class_ 10), (1, u "java/lang/Object")] 113

def k0c0 : Code := { maxStack := 0, maxLocals := 1, code := object_method_1_code, exceptionTable := #[], attributes := #[] }
def k0m0 : Method := { name := "<init>", desc := "()V", sig := { parameters := [], returnType := none }, accessFlags := 1, code := some k0c0 }
/-- java/lang/Object -/
def k0 : Class := { plain "java/lang/Object" none with
  accessFlags := 33
  interfaces := #[]
  cf := some (fileOf pool0 8 #[] #[{ accessFlags := 1, nameIndex := 5, descriptorIndex := 6, attributes := #[] }] 33 0 #[] #[])
  fields := #[]
  methods := #[k0m0]
  instanceTypes := #[]
  staticTypes := #[]
  resolved := Array.replicate 124 none
  statics := none }

def pool1 : Array CpInfo := pool [(2, .class_ 4), (1, u "java/lang/Object"), (0, u "<init>"), (0, u "()V"), (0, .class_ 8), (0, u "com/example/hashloom/cli/Point"), (0, .methodref 7 10), (0, .nameAndType 5 11), (0, u "(II)V"), (0, .methodref 13 14), (0, .class_ 15), (0, .nameAndType 16 17), (0, u "java/lang/Integer"), (0, u "valueOf"), (0, u "(I)Ljava/lang/Integer;"), (0, .methodref 7 19), (0, .nameAndType 20 21), (0, u "equals"), (0, u "(Ljava/lang/Object;)Z"), (0, .class_ 23), (0, u "com/example/hashloom/cli/PointEqualsPinLaw"), (2, u "law"), (0, u "(IIIII)Z")] 3

def k1m0 : Method := { name := "<init>", desc := "()V", sig := { parameters := [], returnType := none }, accessFlags := 1, code := none }
def k1c1 : Code := { maxStack := 4, maxLocals := 14, code := code, exceptionTable := #[], attributes := #[] }
def k1m1 : Method := { name := "law", desc := "(IIIII)Z", sig := { parameters := [.int, .int, .int, .int, .int], returnType := some .boolean }, accessFlags := 9, code := some k1c1 }
/-- com/example/hashloom/cli/PointEqualsPinLaw -/
def k1 : Class := { plain "com/example/hashloom/cli/PointEqualsPinLaw" (some 0) with
  accessFlags := 49
  interfaces := #[]
  cf := some (fileOf pool1 22 #[] #[{ accessFlags := 1, nameIndex := 5, descriptorIndex := 6, attributes := #[] }, { accessFlags := 9, nameIndex := 26, descriptorIndex := 27, attributes := #[] }] 49 2 #[] #[])
  fields := #[]
  methods := #[k1m0, k1m1]
  instanceTypes := #[]
  staticTypes := #[]
  resolved := Array.replicate 31 none
  statics := none }

def pool2 : Array CpInfo := pool [(1, .class_ 2), (0, u "com/example/hashloom/hashloom/PartedKey"), (0, .class_ 4), (0, u "java/lang/Object")] 6

/-- com/example/hashloom/hashloom/PartedKey -/
def k2 : Class := { plain "com/example/hashloom/hashloom/PartedKey" (some 0) with
  accessFlags := 1537
  interfaces := #[]
  cf := some (fileOf pool2 1 #[] #[] 1537 3 #[] #[])
  fields := #[]
  methods := #[]
  instanceTypes := #[]
  staticTypes := #[]
  resolved := Array.replicate 11 none
  statics := none }

def pool3 : Array CpInfo := pool [(1, .methodref 2 3), (0, .class_ 4), (0, .nameAndType 5 6), (0, u "java/lang/Object"), (0, u "<init>"), (0, u "()V"), (0, .fieldref 8 9), (0, .class_ 10), (0, .nameAndType 11 12), (0, u "com/example/hashloom/cli/Point"), (0, u "x"), (0, u "I"), (0, .fieldref 8 14), (0, .nameAndType 15 12), (0, u "y"), (5, .class_ 22), (0, u "com/example/hashloom/hashloom/PartedKey"), (0, u "(II)V"), (2, u "equals"), (0, u "(Ljava/lang/Object;)Z")] 8

def k3c0 : Code := { maxStack := 2, maxLocals := 3, code := prog_27_method_1_code, exceptionTable := #[], attributes := #[] }
def k3m0 : Method := { name := "<init>", desc := "(II)V", sig := { parameters := [.int, .int], returnType := none }, accessFlags := 0, code := some k3c0 }
def k3c1 : Code := { maxStack := 2, maxLocals := 3, code := prog_27_method_2_code, exceptionTable := #[], attributes := #[] }
def k3m1 : Method := { name := "equals", desc := "(Ljava/lang/Object;)Z", sig := { parameters := [(.object "java/lang/Object")], returnType := some .boolean }, accessFlags := 1, code := some k3c1 }
/-- com/example/hashloom/cli/Point -/
def k3 : Class := { plain "com/example/hashloom/cli/Point" (some 0) with
  accessFlags := 48
  interfaces := #[2]
  cf := some (fileOf pool3 8 #[] #[{ accessFlags := 0, nameIndex := 5, descriptorIndex := 23, attributes := #[] }, { accessFlags := 1, nameIndex := 26, descriptorIndex := 27, attributes := #[] }] 48 2 #[21] #[{ accessFlags := 18, nameIndex := 11, descriptorIndex := 12, attributes := #[] }, { accessFlags := 18, nameIndex := 15, descriptorIndex := 12, attributes := #[] }])
  fields := #[{ name := "x", type := .int, accessFlags := 18, slot := 0, constantValue := 0 }, { name := "y", type := .int, accessFlags := 18, slot := 1, constantValue := 0 }]
  methods := #[k3m0, k3m1]
  instanceTypes := #[.int, .int]
  staticTypes := #[]
  resolved := Array.replicate 36 none
  statics := none }

def pool4 : Array CpInfo := pool [(1, .class_ 2), (0, u "java/io/Serializable"), (0, .class_ 4), (0, u "java/lang/Object")] 2

/-- java/io/Serializable -/
def k4 : Class := { plain "java/io/Serializable" (some 0) with
  accessFlags := 1537
  interfaces := #[]
  cf := some (fileOf pool4 1 #[] #[] 1537 3 #[] #[])
  fields := #[]
  methods := #[]
  instanceTypes := #[]
  staticTypes := #[]
  resolved := Array.replicate 7 none
  statics := none }

def pool5 : Array CpInfo := pool [(1, .methodref 2 3), (0, .class_ 4), (0, .nameAndType 5 6), (0, u "java/lang/Object"), (0, u "<init>"), (0, u "()V"), (1, .class_ 10), (1, u "java/lang/Number"), (2, .class_ 14), (0, u "java/io/Serializable"), (0, u "serialVersionUID"), (0, u "J")] 20

def k5c0 : Code := { maxStack := 1, maxLocals := 1, code := jdk_18_method_1_code, exceptionTable := #[], attributes := #[] }
def k5m0 : Method := { name := "<init>", desc := "()V", sig := { parameters := [], returnType := none }, accessFlags := 1, code := some k5c0 }
/-- java/lang/Number -/
def k5 : Class := { plain "java/lang/Number" (some 0) with
  accessFlags := 1057
  interfaces := #[4]
  cf := some (fileOf pool5 8 #[] #[{ accessFlags := 1, nameIndex := 5, descriptorIndex := 6, attributes := #[] }] 1057 2 #[13] #[{ accessFlags := 26, nameIndex := 15, descriptorIndex := 16, attributes := #[] }])
  fields := #[{ name := "serialVersionUID", type := .long, accessFlags := 26, slot := 0, constantValue := 0 }]
  methods := #[k5m0]
  instanceTypes := #[]
  staticTypes := #[.long]
  resolved := Array.replicate 37 none
  statics := none }

def pool6 : Array CpInfo := pool [(1, .class_ 2), (0, u "java/lang/Comparable"), (0, .class_ 4), (0, u "java/lang/Object")] 7

/-- java/lang/Comparable -/
def k6 : Class := { plain "java/lang/Comparable" (some 0) with
  accessFlags := 1537
  interfaces := #[]
  cf := some (fileOf pool6 1 #[] #[] 1537 3 #[] #[])
  fields := #[]
  methods := #[]
  instanceTypes := #[]
  staticTypes := #[]
  resolved := Array.replicate 12 none
  statics := none }

def pool7 : Array CpInfo := pool [(1, .class_ 2), (0, u "java/lang/constant/Constable"), (0, .class_ 4), (0, u "java/lang/Object")] 6

/-- java/lang/constant/Constable -/
def k7 : Class := { plain "java/lang/constant/Constable" (some 0) with
  accessFlags := 1537
  interfaces := #[]
  cf := some (fileOf pool7 1 #[] #[] 1537 3 #[] #[])
  fields := #[]
  methods := #[]
  instanceTypes := #[]
  staticTypes := #[]
  resolved := Array.replicate 11 none
  statics := none }

def pool8 : Array CpInfo := pool [(1, .class_ 2), (0, u "java/lang/constant/ConstantDesc"), (0, .class_ 4), (0, u "java/lang/Object")] 32

/-- java/lang/constant/ConstantDesc -/
def k8 : Class := { plain "java/lang/constant/ConstantDesc" (some 0) with
  accessFlags := 1537
  interfaces := #[]
  cf := some (fileOf pool8 1 #[] #[] 1537 3 #[] #[])
  fields := #[]
  methods := #[]
  instanceTypes := #[]
  staticTypes := #[]
  resolved := Array.replicate 37 none
  statics := none }

def pool9 : Array CpInfo := pool [(1, .class_ 2), (0, u "java/lang/Integer"), (16, u "digits"), (0, u "[C"), (46, u "<init>"), (17, u "DigitOnes"), (0, u "[B"), (2, u "DigitTens"), (10, .nameAndType 67 101), (0, u "()V"), (85, u "valueOf"), (0, u "(I)Ljava/lang/Integer;"), (0, .class_ 190), (0, u "java/lang/Integer$IntegerCache"), (0, .fieldref 189 192), (0, .nameAndType 193 194), (0, u "high"), (0, u "I"), (0, .fieldref 189 196), (0, .nameAndType 197 198), (0, u "cache"), (0, u "[Ljava/lang/Integer;"), (0, .methodref 1 200), (0, .nameAndType 67 201), (0, u "(I)V"), (0, .methodref 203 100), (0, .class_ 204), (0, u "java/lang/Number"), (0, .fieldref 1 206), (0, .nameAndType 207 194), (0, u "value"), (94, u "TYPE"), (0, u "Ljava/lang/Class;"), (0, .class_ 305), (0, u "java/lang/Comparable"), (0, .class_ 307), (0, u "java/lang/constant/Constable"), (0, .class_ 309), (0, u "java/lang/constant/ConstantDesc"), (0, u "MIN_VALUE"), (1, u "MAX_VALUE"), (3, u "SIZE"), (1, u "BYTES"), (1, u "serialVersionUID"), (0, u "J")] 131

def k9c0 : Code := { maxStack := 3, maxLocals := 1, code := jdk_33_method_22_code, exceptionTable := #[], attributes := #[] }
def k9m0 : Method := { name := "valueOf", desc := "(I)Ljava/lang/Integer;", sig := { parameters := [.int], returnType := some (.object "java/lang/Integer") }, accessFlags := 9, code := some k9c0 }
def k9c1 : Code := { maxStack := 2, maxLocals := 2, code := jdk_33_method_23_code, exceptionTable := #[], attributes := #[] }
def k9m1 : Method := { name := "<init>", desc := "(I)V", sig := { parameters := [.int], returnType := none }, accessFlags := 1, code := some k9c1 }
/-- java/lang/Integer -/
def k9 : Class := { plain "java/lang/Integer" (some 5) with
  accessFlags := 49
  interfaces := #[6, 7, 8]
  cf := some (fileOf pool9 1 #[.nestMembers #[189]] #[{ accessFlags := 9, nameIndex := 187, descriptorIndex := 188, attributes := #[] }, { accessFlags := 1, nameIndex := 67, descriptorIndex := 201, attributes := #[] }] 49 203 #[304, 306, 308] #[{ accessFlags := 25, nameIndex := 310, descriptorIndex := 194, attributes := #[] }, { accessFlags := 25, nameIndex := 312, descriptorIndex := 194, attributes := #[] }, { accessFlags := 25, nameIndex := 302, descriptorIndex := 303, attributes := #[] }, { accessFlags := 24, nameIndex := 19, descriptorIndex := 20, attributes := #[] }, { accessFlags := 24, nameIndex := 89, descriptorIndex := 86, attributes := #[] }, { accessFlags := 24, nameIndex := 85, descriptorIndex := 86, attributes := #[] }, { accessFlags := 18, nameIndex := 207, descriptorIndex := 194, attributes := #[] }, { accessFlags := 25, nameIndex := 316, descriptorIndex := 194, attributes := #[] }, { accessFlags := 25, nameIndex := 318, descriptorIndex := 194, attributes := #[] }, { accessFlags := 26, nameIndex := 320, descriptorIndex := 321, attributes := #[] }])
  fields := #[{ name := "MIN_VALUE", type := .int, accessFlags := 25, slot := 0, constantValue := 0 }, { name := "MAX_VALUE", type := .int, accessFlags := 25, slot := 1, constantValue := 0 }, { name := "TYPE", type := (.object "java/lang/Class"), accessFlags := 25, slot := 2, constantValue := 0 }, { name := "digits", type := (.array .char), accessFlags := 24, slot := 3, constantValue := 0 }, { name := "DigitTens", type := (.array .byte), accessFlags := 24, slot := 4, constantValue := 0 }, { name := "DigitOnes", type := (.array .byte), accessFlags := 24, slot := 5, constantValue := 0 }, { name := "value", type := .int, accessFlags := 18, slot := 0, constantValue := 0 }, { name := "SIZE", type := .int, accessFlags := 25, slot := 6, constantValue := 0 }, { name := "BYTES", type := .int, accessFlags := 25, slot := 7, constantValue := 0 }, { name := "serialVersionUID", type := .long, accessFlags := 26, slot := 8, constantValue := 0 }]
  methods := #[k9m0, k9m1]
  instanceTypes := #[.int]
  staticTypes := #[.int, .int, (.object "java/lang/Class"), (.array .char), (.array .byte), (.array .byte), .int, .int, .long]
  resolved := Array.replicate 453 none
  statics := none }

def pool10 : Array CpInfo := pool [(2, .class_ 4), (1, u "java/lang/Object"), (0, u "<init>"), (0, u "()V"), (0, .class_ 8), (0, u "java/lang/Integer"), (7, .class_ 18), (1, u "java/lang/Integer$IntegerCache"), (0, u "$assertionsDisabled"), (0, u "Z"), (26, u "high"), (0, u "I"), (8, u "archivedCache"), (0, u "[Ljava/lang/Integer;"), (12, u "cache"), (0, u "low")] 27

def k10m0 : Method := { name := "<init>", desc := "()V", sig := { parameters := [], returnType := none }, accessFlags := 2, code := none }
/-- java/lang/Integer$IntegerCache -/
def k10 : Class := { plain "java/lang/Integer$IntegerCache" (some 0) with
  accessFlags := 48
  interfaces := #[]
  cf := some (fileOf pool10 16 #[.nestHost 7] #[{ accessFlags := 2, nameIndex := 5, descriptorIndex := 6, attributes := #[] }] 48 2 #[] #[{ accessFlags := 24, nameIndex := 72, descriptorIndex := 48, attributes := #[] }, { accessFlags := 24, nameIndex := 47, descriptorIndex := 48, attributes := #[] }, { accessFlags := 24, nameIndex := 71, descriptorIndex := 58, attributes := #[] }, { accessFlags := 8, nameIndex := 57, descriptorIndex := 58, attributes := #[] }, { accessFlags := 4120, nameIndex := 19, descriptorIndex := 20, attributes := #[] }])
  fields := #[{ name := "low", type := .int, accessFlags := 24, slot := 0, constantValue := 0 }, { name := "high", type := .int, accessFlags := 24, slot := 1, constantValue := 0 }, { name := "cache", type := (.array (.object "java/lang/Integer")), accessFlags := 24, slot := 2, constantValue := 0 }, { name := "archivedCache", type := (.array (.object "java/lang/Integer")), accessFlags := 8, slot := 3, constantValue := 0 }, { name := "$assertionsDisabled", type := .boolean, accessFlags := 4120, slot := 4, constantValue := 0 }]
  methods := #[k10m0]
  instanceTypes := #[]
  staticTypes := #[.int, .int, (.array (.object "java/lang/Integer")), (.array (.object "java/lang/Integer")), .boolean]
  resolved := Array.replicate 100 none
  statics := some 0 }

def pool11 : Array CpInfo := pool [(1, u "java/lang/Cloneable"), (0, .class_ 1), (0, u "java/lang/Object"), (0, .class_ 3)] 3

/-- java/lang/Cloneable -/
def k11 : Class := { plain "java/lang/Cloneable" (some 0) with
  accessFlags := 1537
  interfaces := #[]
  cf := some (fileOf pool11 2 #[] #[] 1537 4 #[] #[])
  fields := #[]
  methods := #[]
  instanceTypes := #[]
  staticTypes := #[]
  resolved := Array.replicate 8 none
  statics := none }

/-- the primitive byte -/
def k12 : Class := { plain "byte" none with kind := .primitive 'B', accessFlags := 0x411 }
/-- [B -/
def k13 : Class := { plain "[B" (some 0) with kind := .array 12 .byte, interfaces := #[11, 4], accessFlags := 1041 }

/-- the primitive int -/
def k14 : Class := { plain "int" none with kind := .primitive 'I', accessFlags := 0x411 }
/-- [I -/
def k15 : Class := { plain "[I" (some 0) with kind := .array 14 .int, interfaces := #[11, 4], accessFlags := 1041 }

/-- [Ljava/lang/Integer; -/
def k16 : Class := { plain "[Ljava/lang/Integer;" (some 0) with kind := .array 9 (.object "java/lang/Integer"), interfaces := #[11, 4], accessFlags := 1041 }

def heap : Heap := #[{ cls := 10, slots := #[.int 0, .int 127, .ref 1, .null, .int 0], vm := .statics 10 },
  { cls := 16, slots := #[.ref 2, .ref 3, .ref 4, .ref 5, .ref 6, .ref 7, .ref 8, .ref 9, .ref 10, .ref 11, .ref 12, .ref 13, .ref 14, .ref 15, .ref 16, .ref 17, .ref 18, .ref 19, .ref 20, .ref 21, .ref 22, .ref 23, .ref 24, .ref 25, .ref 26, .ref 27, .ref 28, .ref 29, .ref 30, .ref 31, .ref 32, .ref 33, .ref 34, .ref 35, .ref 36, .ref 37, .ref 38, .ref 39, .ref 40, .ref 41, .ref 42, .ref 43, .ref 44, .ref 45, .ref 46, .ref 47, .ref 48, .ref 49, .ref 50, .ref 51, .ref 52, .ref 53, .ref 54, .ref 55, .ref 56, .ref 57, .ref 58, .ref 59, .ref 60, .ref 61, .ref 62, .ref 63, .ref 64, .ref 65, .ref 66, .ref 67, .ref 68, .ref 69, .ref 70, .ref 71, .ref 72, .ref 73, .ref 74, .ref 75, .ref 76, .ref 77, .ref 78, .ref 79, .ref 80, .ref 81, .ref 82, .ref 83, .ref 84, .ref 85, .ref 86, .ref 87, .ref 88, .ref 89, .ref 90, .ref 91, .ref 92, .ref 93, .ref 94, .ref 95, .ref 96, .ref 97, .ref 98, .ref 99, .ref 100, .ref 101, .ref 102, .ref 103, .ref 104, .ref 105, .ref 106, .ref 107, .ref 108, .ref 109, .ref 110, .ref 111, .ref 112, .ref 113, .ref 114, .ref 115, .ref 116, .ref 117, .ref 118, .ref 119, .ref 120, .ref 121, .ref 122, .ref 123, .ref 124, .ref 125, .ref 126, .ref 127, .ref 128, .ref 129, .ref 130, .ref 131, .ref 132, .ref 133, .ref 134, .ref 135, .ref 136, .ref 137, .ref 138, .ref 139, .ref 140, .ref 141, .ref 142, .ref 143, .ref 144, .ref 145, .ref 146, .ref 147, .ref 148, .ref 149, .ref 150, .ref 151, .ref 152, .ref 153, .ref 154, .ref 155, .ref 156, .ref 157, .ref 158, .ref 159, .ref 160, .ref 161, .ref 162, .ref 163, .ref 164, .ref 165, .ref 166, .ref 167, .ref 168, .ref 169, .ref 170, .ref 171, .ref 172, .ref 173, .ref 174, .ref 175, .ref 176, .ref 177, .ref 178, .ref 179, .ref 180, .ref 181, .ref 182, .ref 183, .ref 184, .ref 185, .ref 186, .ref 187, .ref 188, .ref 189, .ref 190, .ref 191, .ref 192, .ref 193, .ref 194, .ref 195, .ref 196, .ref 197, .ref 198, .ref 199, .ref 200, .ref 201, .ref 202, .ref 203, .ref 204, .ref 205, .ref 206, .ref 207, .ref 208, .ref 209, .ref 210, .ref 211, .ref 212, .ref 213, .ref 214, .ref 215, .ref 216, .ref 217, .ref 218, .ref 219, .ref 220, .ref 221, .ref 222, .ref 223, .ref 224, .ref 225, .ref 226, .ref 227, .ref 228, .ref 229, .ref 230, .ref 231, .ref 232, .ref 233, .ref 234, .ref 235, .ref 236, .ref 237, .ref 238, .ref 239, .ref 240, .ref 241, .ref 242, .ref 243, .ref 244, .ref 245, .ref 246, .ref 247, .ref 248, .ref 249, .ref 250, .ref 251, .ref 252, .ref 253, .ref 254, .ref 255, .ref 256, .ref 257], vm := .none },
  { cls := 9, slots := #[.int (-128)], vm := .none },
  { cls := 9, slots := #[.int (-127)], vm := .none },
  { cls := 9, slots := #[.int (-126)], vm := .none },
  { cls := 9, slots := #[.int (-125)], vm := .none },
  { cls := 9, slots := #[.int (-124)], vm := .none },
  { cls := 9, slots := #[.int (-123)], vm := .none },
  { cls := 9, slots := #[.int (-122)], vm := .none },
  { cls := 9, slots := #[.int (-121)], vm := .none },
  { cls := 9, slots := #[.int (-120)], vm := .none },
  { cls := 9, slots := #[.int (-119)], vm := .none },
  { cls := 9, slots := #[.int (-118)], vm := .none },
  { cls := 9, slots := #[.int (-117)], vm := .none },
  { cls := 9, slots := #[.int (-116)], vm := .none },
  { cls := 9, slots := #[.int (-115)], vm := .none },
  { cls := 9, slots := #[.int (-114)], vm := .none },
  { cls := 9, slots := #[.int (-113)], vm := .none },
  { cls := 9, slots := #[.int (-112)], vm := .none },
  { cls := 9, slots := #[.int (-111)], vm := .none },
  { cls := 9, slots := #[.int (-110)], vm := .none },
  { cls := 9, slots := #[.int (-109)], vm := .none },
  { cls := 9, slots := #[.int (-108)], vm := .none },
  { cls := 9, slots := #[.int (-107)], vm := .none },
  { cls := 9, slots := #[.int (-106)], vm := .none },
  { cls := 9, slots := #[.int (-105)], vm := .none },
  { cls := 9, slots := #[.int (-104)], vm := .none },
  { cls := 9, slots := #[.int (-103)], vm := .none },
  { cls := 9, slots := #[.int (-102)], vm := .none },
  { cls := 9, slots := #[.int (-101)], vm := .none },
  { cls := 9, slots := #[.int (-100)], vm := .none },
  { cls := 9, slots := #[.int (-99)], vm := .none },
  { cls := 9, slots := #[.int (-98)], vm := .none },
  { cls := 9, slots := #[.int (-97)], vm := .none },
  { cls := 9, slots := #[.int (-96)], vm := .none },
  { cls := 9, slots := #[.int (-95)], vm := .none },
  { cls := 9, slots := #[.int (-94)], vm := .none },
  { cls := 9, slots := #[.int (-93)], vm := .none },
  { cls := 9, slots := #[.int (-92)], vm := .none },
  { cls := 9, slots := #[.int (-91)], vm := .none },
  { cls := 9, slots := #[.int (-90)], vm := .none },
  { cls := 9, slots := #[.int (-89)], vm := .none },
  { cls := 9, slots := #[.int (-88)], vm := .none },
  { cls := 9, slots := #[.int (-87)], vm := .none },
  { cls := 9, slots := #[.int (-86)], vm := .none },
  { cls := 9, slots := #[.int (-85)], vm := .none },
  { cls := 9, slots := #[.int (-84)], vm := .none },
  { cls := 9, slots := #[.int (-83)], vm := .none },
  { cls := 9, slots := #[.int (-82)], vm := .none },
  { cls := 9, slots := #[.int (-81)], vm := .none },
  { cls := 9, slots := #[.int (-80)], vm := .none },
  { cls := 9, slots := #[.int (-79)], vm := .none },
  { cls := 9, slots := #[.int (-78)], vm := .none },
  { cls := 9, slots := #[.int (-77)], vm := .none },
  { cls := 9, slots := #[.int (-76)], vm := .none },
  { cls := 9, slots := #[.int (-75)], vm := .none },
  { cls := 9, slots := #[.int (-74)], vm := .none },
  { cls := 9, slots := #[.int (-73)], vm := .none },
  { cls := 9, slots := #[.int (-72)], vm := .none },
  { cls := 9, slots := #[.int (-71)], vm := .none },
  { cls := 9, slots := #[.int (-70)], vm := .none },
  { cls := 9, slots := #[.int (-69)], vm := .none },
  { cls := 9, slots := #[.int (-68)], vm := .none },
  { cls := 9, slots := #[.int (-67)], vm := .none },
  { cls := 9, slots := #[.int (-66)], vm := .none },
  { cls := 9, slots := #[.int (-65)], vm := .none },
  { cls := 9, slots := #[.int (-64)], vm := .none },
  { cls := 9, slots := #[.int (-63)], vm := .none },
  { cls := 9, slots := #[.int (-62)], vm := .none },
  { cls := 9, slots := #[.int (-61)], vm := .none },
  { cls := 9, slots := #[.int (-60)], vm := .none },
  { cls := 9, slots := #[.int (-59)], vm := .none },
  { cls := 9, slots := #[.int (-58)], vm := .none },
  { cls := 9, slots := #[.int (-57)], vm := .none },
  { cls := 9, slots := #[.int (-56)], vm := .none },
  { cls := 9, slots := #[.int (-55)], vm := .none },
  { cls := 9, slots := #[.int (-54)], vm := .none },
  { cls := 9, slots := #[.int (-53)], vm := .none },
  { cls := 9, slots := #[.int (-52)], vm := .none },
  { cls := 9, slots := #[.int (-51)], vm := .none },
  { cls := 9, slots := #[.int (-50)], vm := .none },
  { cls := 9, slots := #[.int (-49)], vm := .none },
  { cls := 9, slots := #[.int (-48)], vm := .none },
  { cls := 9, slots := #[.int (-47)], vm := .none },
  { cls := 9, slots := #[.int (-46)], vm := .none },
  { cls := 9, slots := #[.int (-45)], vm := .none },
  { cls := 9, slots := #[.int (-44)], vm := .none },
  { cls := 9, slots := #[.int (-43)], vm := .none },
  { cls := 9, slots := #[.int (-42)], vm := .none },
  { cls := 9, slots := #[.int (-41)], vm := .none },
  { cls := 9, slots := #[.int (-40)], vm := .none },
  { cls := 9, slots := #[.int (-39)], vm := .none },
  { cls := 9, slots := #[.int (-38)], vm := .none },
  { cls := 9, slots := #[.int (-37)], vm := .none },
  { cls := 9, slots := #[.int (-36)], vm := .none },
  { cls := 9, slots := #[.int (-35)], vm := .none },
  { cls := 9, slots := #[.int (-34)], vm := .none },
  { cls := 9, slots := #[.int (-33)], vm := .none },
  { cls := 9, slots := #[.int (-32)], vm := .none },
  { cls := 9, slots := #[.int (-31)], vm := .none },
  { cls := 9, slots := #[.int (-30)], vm := .none },
  { cls := 9, slots := #[.int (-29)], vm := .none },
  { cls := 9, slots := #[.int (-28)], vm := .none },
  { cls := 9, slots := #[.int (-27)], vm := .none },
  { cls := 9, slots := #[.int (-26)], vm := .none },
  { cls := 9, slots := #[.int (-25)], vm := .none },
  { cls := 9, slots := #[.int (-24)], vm := .none },
  { cls := 9, slots := #[.int (-23)], vm := .none },
  { cls := 9, slots := #[.int (-22)], vm := .none },
  { cls := 9, slots := #[.int (-21)], vm := .none },
  { cls := 9, slots := #[.int (-20)], vm := .none },
  { cls := 9, slots := #[.int (-19)], vm := .none },
  { cls := 9, slots := #[.int (-18)], vm := .none },
  { cls := 9, slots := #[.int (-17)], vm := .none },
  { cls := 9, slots := #[.int (-16)], vm := .none },
  { cls := 9, slots := #[.int (-15)], vm := .none },
  { cls := 9, slots := #[.int (-14)], vm := .none },
  { cls := 9, slots := #[.int (-13)], vm := .none },
  { cls := 9, slots := #[.int (-12)], vm := .none },
  { cls := 9, slots := #[.int (-11)], vm := .none },
  { cls := 9, slots := #[.int (-10)], vm := .none },
  { cls := 9, slots := #[.int (-9)], vm := .none },
  { cls := 9, slots := #[.int (-8)], vm := .none },
  { cls := 9, slots := #[.int (-7)], vm := .none },
  { cls := 9, slots := #[.int (-6)], vm := .none },
  { cls := 9, slots := #[.int (-5)], vm := .none },
  { cls := 9, slots := #[.int (-4)], vm := .none },
  { cls := 9, slots := #[.int (-3)], vm := .none },
  { cls := 9, slots := #[.int (-2)], vm := .none },
  { cls := 9, slots := #[.int (-1)], vm := .none },
  { cls := 9, slots := #[.int 0], vm := .none },
  { cls := 9, slots := #[.int 1], vm := .none },
  { cls := 9, slots := #[.int 2], vm := .none },
  { cls := 9, slots := #[.int 3], vm := .none },
  { cls := 9, slots := #[.int 4], vm := .none },
  { cls := 9, slots := #[.int 5], vm := .none },
  { cls := 9, slots := #[.int 6], vm := .none },
  { cls := 9, slots := #[.int 7], vm := .none },
  { cls := 9, slots := #[.int 8], vm := .none },
  { cls := 9, slots := #[.int 9], vm := .none },
  { cls := 9, slots := #[.int 10], vm := .none },
  { cls := 9, slots := #[.int 11], vm := .none },
  { cls := 9, slots := #[.int 12], vm := .none },
  { cls := 9, slots := #[.int 13], vm := .none },
  { cls := 9, slots := #[.int 14], vm := .none },
  { cls := 9, slots := #[.int 15], vm := .none },
  { cls := 9, slots := #[.int 16], vm := .none },
  { cls := 9, slots := #[.int 17], vm := .none },
  { cls := 9, slots := #[.int 18], vm := .none },
  { cls := 9, slots := #[.int 19], vm := .none },
  { cls := 9, slots := #[.int 20], vm := .none },
  { cls := 9, slots := #[.int 21], vm := .none },
  { cls := 9, slots := #[.int 22], vm := .none },
  { cls := 9, slots := #[.int 23], vm := .none },
  { cls := 9, slots := #[.int 24], vm := .none },
  { cls := 9, slots := #[.int 25], vm := .none },
  { cls := 9, slots := #[.int 26], vm := .none },
  { cls := 9, slots := #[.int 27], vm := .none },
  { cls := 9, slots := #[.int 28], vm := .none },
  { cls := 9, slots := #[.int 29], vm := .none },
  { cls := 9, slots := #[.int 30], vm := .none },
  { cls := 9, slots := #[.int 31], vm := .none },
  { cls := 9, slots := #[.int 32], vm := .none },
  { cls := 9, slots := #[.int 33], vm := .none },
  { cls := 9, slots := #[.int 34], vm := .none },
  { cls := 9, slots := #[.int 35], vm := .none },
  { cls := 9, slots := #[.int 36], vm := .none },
  { cls := 9, slots := #[.int 37], vm := .none },
  { cls := 9, slots := #[.int 38], vm := .none },
  { cls := 9, slots := #[.int 39], vm := .none },
  { cls := 9, slots := #[.int 40], vm := .none },
  { cls := 9, slots := #[.int 41], vm := .none },
  { cls := 9, slots := #[.int 42], vm := .none },
  { cls := 9, slots := #[.int 43], vm := .none },
  { cls := 9, slots := #[.int 44], vm := .none },
  { cls := 9, slots := #[.int 45], vm := .none },
  { cls := 9, slots := #[.int 46], vm := .none },
  { cls := 9, slots := #[.int 47], vm := .none },
  { cls := 9, slots := #[.int 48], vm := .none },
  { cls := 9, slots := #[.int 49], vm := .none },
  { cls := 9, slots := #[.int 50], vm := .none },
  { cls := 9, slots := #[.int 51], vm := .none },
  { cls := 9, slots := #[.int 52], vm := .none },
  { cls := 9, slots := #[.int 53], vm := .none },
  { cls := 9, slots := #[.int 54], vm := .none },
  { cls := 9, slots := #[.int 55], vm := .none },
  { cls := 9, slots := #[.int 56], vm := .none },
  { cls := 9, slots := #[.int 57], vm := .none },
  { cls := 9, slots := #[.int 58], vm := .none },
  { cls := 9, slots := #[.int 59], vm := .none },
  { cls := 9, slots := #[.int 60], vm := .none },
  { cls := 9, slots := #[.int 61], vm := .none },
  { cls := 9, slots := #[.int 62], vm := .none },
  { cls := 9, slots := #[.int 63], vm := .none },
  { cls := 9, slots := #[.int 64], vm := .none },
  { cls := 9, slots := #[.int 65], vm := .none },
  { cls := 9, slots := #[.int 66], vm := .none },
  { cls := 9, slots := #[.int 67], vm := .none },
  { cls := 9, slots := #[.int 68], vm := .none },
  { cls := 9, slots := #[.int 69], vm := .none },
  { cls := 9, slots := #[.int 70], vm := .none },
  { cls := 9, slots := #[.int 71], vm := .none },
  { cls := 9, slots := #[.int 72], vm := .none },
  { cls := 9, slots := #[.int 73], vm := .none },
  { cls := 9, slots := #[.int 74], vm := .none },
  { cls := 9, slots := #[.int 75], vm := .none },
  { cls := 9, slots := #[.int 76], vm := .none },
  { cls := 9, slots := #[.int 77], vm := .none },
  { cls := 9, slots := #[.int 78], vm := .none },
  { cls := 9, slots := #[.int 79], vm := .none },
  { cls := 9, slots := #[.int 80], vm := .none },
  { cls := 9, slots := #[.int 81], vm := .none },
  { cls := 9, slots := #[.int 82], vm := .none },
  { cls := 9, slots := #[.int 83], vm := .none },
  { cls := 9, slots := #[.int 84], vm := .none },
  { cls := 9, slots := #[.int 85], vm := .none },
  { cls := 9, slots := #[.int 86], vm := .none },
  { cls := 9, slots := #[.int 87], vm := .none },
  { cls := 9, slots := #[.int 88], vm := .none },
  { cls := 9, slots := #[.int 89], vm := .none },
  { cls := 9, slots := #[.int 90], vm := .none },
  { cls := 9, slots := #[.int 91], vm := .none },
  { cls := 9, slots := #[.int 92], vm := .none },
  { cls := 9, slots := #[.int 93], vm := .none },
  { cls := 9, slots := #[.int 94], vm := .none },
  { cls := 9, slots := #[.int 95], vm := .none },
  { cls := 9, slots := #[.int 96], vm := .none },
  { cls := 9, slots := #[.int 97], vm := .none },
  { cls := 9, slots := #[.int 98], vm := .none },
  { cls := 9, slots := #[.int 99], vm := .none },
  { cls := 9, slots := #[.int 100], vm := .none },
  { cls := 9, slots := #[.int 101], vm := .none },
  { cls := 9, slots := #[.int 102], vm := .none },
  { cls := 9, slots := #[.int 103], vm := .none },
  { cls := 9, slots := #[.int 104], vm := .none },
  { cls := 9, slots := #[.int 105], vm := .none },
  { cls := 9, slots := #[.int 106], vm := .none },
  { cls := 9, slots := #[.int 107], vm := .none },
  { cls := 9, slots := #[.int 108], vm := .none },
  { cls := 9, slots := #[.int 109], vm := .none },
  { cls := 9, slots := #[.int 110], vm := .none },
  { cls := 9, slots := #[.int 111], vm := .none },
  { cls := 9, slots := #[.int 112], vm := .none },
  { cls := 9, slots := #[.int 113], vm := .none },
  { cls := 9, slots := #[.int 114], vm := .none },
  { cls := 9, slots := #[.int 115], vm := .none },
  { cls := 9, slots := #[.int 116], vm := .none },
  { cls := 9, slots := #[.int 117], vm := .none },
  { cls := 9, slots := #[.int 118], vm := .none },
  { cls := 9, slots := #[.int 119], vm := .none },
  { cls := 9, slots := #[.int 120], vm := .none },
  { cls := 9, slots := #[.int 121], vm := .none },
  { cls := 9, slots := #[.int 122], vm := .none },
  { cls := 9, slots := #[.int 123], vm := .none },
  { cls := 9, slots := #[.int 124], vm := .none },
  { cls := 9, slots := #[.int 125], vm := .none },
  { cls := 9, slots := #[.int 126], vm := .none },
  { cls := 9, slots := #[.int 127], vm := .none }]
def classes : Array Class := #[k0, k1, k2, k3, k4, k5, k6, k7, k8, k9, k10, k11, k12, k13, k14, k15, k16]
def interned : List (Array UInt16 × Addr) := []
def slotsUsed : Nat := 517
def theMethod : MethodId := ⟨1, 1⟩
def args0 : Array Value := #[.int 5, .int 9, .int 7, .int 3, .int 2]
def aboutOver (below : List Frame) : State where
  vm := { classes := classes, interned := interned.toArray }
  heap := heap
  slotsUsed := slotsUsed
  threads := #[{ frames := .invoking theMethod args0 :: below }]
def below0 : List Frame := [.native { method := ⟨0, 0⟩, args := #[] }]
def about1 : State := aboutOver below0
def p0 : Program := .bare "" "" ""
def e0 : Env := launch0.env 0 0 0
theorem w_frames : about1.frames = Frame.invoking theMethod args0 :: below0 := rfl
set_option maxRecDepth 65536 in
theorem w_args : argsFit about1.vm theMethod args0 = true := by decide +kernel
set_option maxRecDepth 65536 in
theorem w_heap : heapFits about1 = true := by decide +kernel
set_option maxRecDepth 65536 in
theorem w_runnable : about1.curStatus? = some .runnable := by decide +kernel
set_option maxRecDepth 65536 in
theorem w_alone : about1.alone = true := by decide +kernel
set_option maxRecDepth 65536 in
theorem w_named : about1.methodNamed? x = some theMethod := by decide +kernel
set_option maxRecDepth 65536 in
theorem w_hears : about1.hears theMethod below0 = true := by decide +kernel
set_option maxRecDepth 65536 in
theorem w_ripe : about1.ripe theMethod args0 below0 = true := by decide +kernel
theorem w_running : about1.status = .running := rfl
set_option maxRecDepth 65536 in
theorem w_room : about1.hasRoom e0.platform room_1 = true :=
  launch0.hasRoom_least _ room_1 (by decide +kernel) (by decide +kernel) (by decide +kernel) (by decide +kernel) (by decide +kernel) (by decide +kernel)
theorem allAtoms_all (ts : List Jvm.Cond) (a : Array Jvm.Value) (st : Jvm.State) : (allAtoms ts).before a st = ts.all (fun c => c.before a st) := by
  induction ts with
  | nil => rfl
  | cons c t ih =>
    show (Jvm.Cond.and c (allAtoms t)).before a st = _
    rw [Jvm.Cond.before_and, ih, List.all_cons]
def words1 : List Jvm.Cond := Jvm.Cond.code x code maxLocals ret :: tables_1
/-- a 'code' word, met by the world's own term for the bytes: nothing is compared byte by byte -/
theorem code_word {y : MethodName} {bytes : ByteArray} {mx : Nat} {rt : Option FieldType} {a : Array Value} {s : State} {m : MethodId} {meth : Method} {c : Code} (h1 : s.methodNamed? y = some m) (h2 : s.vm.method? m = some meth) (h3 : meth.code = some c) (h4 : c.code = bytes)
    (h5 : (c.maxLocals == mx && c.exceptionTable.isEmpty && decide (c.maxStack ≤ mostOperands) && decide (meth.sig.returnType = rt) && !meth.locks && decide (parseMethodDescriptor y.desc = some meth.sig)) = true) : (Jvm.Cond.code y bytes mx rt).before a s = true := by
  simp only [Bool.and_eq_true, beq_iff_eq, Bool.not_eq_true', decide_eq_true_eq] at h5
  obtain ⟨⟨⟨⟨⟨g1, g2⟩, g3⟩, g4⟩, g5⟩, g6⟩ := h5
  simp [Cond.before, Cond.holds, Cond.value, h1, h2, h3, h4, g1, g2, g3, g4, g5, g6]
def isCode : Jvm.Cond → Bool
  | .code _ _ _ _ => true
  | _ => false
theorem all_split {L : List Jvm.Cond} {P : Jvm.Cond → Bool} (h1 : L.all (fun c => isCode c || P c) = true) (h2 : ∀ c ∈ L.filter isCode, P c = true) : L.all P = true := by
  refine List.all_eq_true.mpr fun c hc => ?_
  have h := List.all_eq_true.mp h1 c hc
  rcases Bool.eq_false_or_eq_true (isCode c) with hi | hi
  · exact h2 c (List.mem_filter.mpr ⟨hc, hi⟩)
  · simpa [hi] using h
set_option maxRecDepth 65536 in
theorem w_c0 : (Jvm.Cond.code x code maxLocals ret).before args0 about1 = true := code_word (m := ⟨1, 1⟩) (meth := k1m1) (c := k1c1) (by decide +kernel) rfl rfl rfl (by decide +kernel)
set_option maxRecDepth 65536 in
theorem w_c1 : (Jvm.Cond.code ({ cls := "com/example/hashloom/cli/Point", name := "<init>", desc := "(II)V" } : Jvm.MethodName) prog_27_method_1_code (3 : Nat) (Option.none : Option Jvm.ClassFile.FieldType)).before args0 about1 = true := code_word (m := ⟨3, 0⟩) (meth := k3m0) (c := k3c0) (by decide +kernel) rfl rfl rfl (by decide +kernel)
set_option maxRecDepth 65536 in
theorem w_c2 : (Jvm.Cond.code ({ cls := "java/lang/Object", name := "<init>", desc := "()V" } : Jvm.MethodName) object_method_1_code (1 : Nat) (Option.none : Option Jvm.ClassFile.FieldType)).before args0 about1 = true := code_word (m := ⟨0, 0⟩) (meth := k0m0) (c := k0c0) (by decide +kernel) rfl rfl rfl (by decide +kernel)
set_option maxRecDepth 65536 in
theorem w_c3 : (Jvm.Cond.code ({ cls := "com/example/hashloom/cli/Point", name := "equals", desc := "(Ljava/lang/Object;)Z" } : Jvm.MethodName) prog_27_method_2_code (3 : Nat) (Option.some Jvm.ClassFile.FieldType.boolean)).before args0 about1 = true := code_word (m := ⟨3, 1⟩) (meth := k3m1) (c := k3c1) (by decide +kernel) rfl rfl rfl (by decide +kernel)
set_option maxRecDepth 65536 in
theorem w_c4 : (Jvm.Cond.code ({ cls := "java/lang/Integer", name := "valueOf", desc := "(I)Ljava/lang/Integer;" } : Jvm.MethodName) jdk_33_method_22_code (1 : Nat) (Option.some (Jvm.ClassFile.FieldType.object "java/lang/Integer"))).before args0 about1 = true := code_word (m := ⟨9, 0⟩) (meth := k9m0) (c := k9c0) (by decide +kernel) rfl rfl rfl (by decide +kernel)
set_option maxRecDepth 65536 in
theorem w_c5 : (Jvm.Cond.code ({ cls := "java/lang/Integer", name := "<init>", desc := "(I)V" } : Jvm.MethodName) jdk_33_method_23_code (2 : Nat) (Option.none : Option Jvm.ClassFile.FieldType)).before args0 about1 = true := code_word (m := ⟨9, 1⟩) (meth := k9m1) (c := k9c1) (by decide +kernel) rfl rfl rfl (by decide +kernel)
set_option maxRecDepth 65536 in
theorem w_c6 : (Jvm.Cond.code ({ cls := "java/lang/Number", name := "<init>", desc := "()V" } : Jvm.MethodName) jdk_18_method_1_code (1 : Nat) (Option.none : Option Jvm.ClassFile.FieldType)).before args0 about1 = true := code_word (m := ⟨5, 0⟩) (meth := k5m0) (c := k5c0) (by decide +kernel) rfl rfl rfl (by decide +kernel)
def codes1 : List Jvm.Cond := [Jvm.Cond.code x code maxLocals ret, Jvm.Cond.code ({ cls := "com/example/hashloom/cli/Point", name := "<init>", desc := "(II)V" } : Jvm.MethodName) prog_27_method_1_code (3 : Nat) (Option.none : Option Jvm.ClassFile.FieldType), Jvm.Cond.code ({ cls := "java/lang/Object", name := "<init>", desc := "()V" } : Jvm.MethodName) object_method_1_code (1 : Nat) (Option.none : Option Jvm.ClassFile.FieldType), Jvm.Cond.code ({ cls := "com/example/hashloom/cli/Point", name := "equals", desc := "(Ljava/lang/Object;)Z" } : Jvm.MethodName) prog_27_method_2_code (3 : Nat) (Option.some Jvm.ClassFile.FieldType.boolean), Jvm.Cond.code ({ cls := "java/lang/Integer", name := "valueOf", desc := "(I)Ljava/lang/Integer;" } : Jvm.MethodName) jdk_33_method_22_code (1 : Nat) (Option.some (Jvm.ClassFile.FieldType.object "java/lang/Integer")), Jvm.Cond.code ({ cls := "java/lang/Integer", name := "<init>", desc := "(I)V" } : Jvm.MethodName) jdk_33_method_23_code (2 : Nat) (Option.none : Option Jvm.ClassFile.FieldType), Jvm.Cond.code ({ cls := "java/lang/Number", name := "<init>", desc := "()V" } : Jvm.MethodName) jdk_18_method_1_code (1 : Nat) (Option.none : Option Jvm.ClassFile.FieldType)]
set_option maxRecDepth 65536 in
theorem codes_eq : words1.filter isCode = codes1 := rfl
theorem w_codes : ∀ c ∈ words1.filter isCode, c.before args0 about1 = true := by
  rw [codes_eq]
  intro c hc
  simp only [codes1, List.mem_cons, List.not_mem_nil, or_false] at hc
  rcases hc with rfl | rfl | rfl | rfl | rfl | rfl | rfl
  · exact w_c0
  · exact w_c1
  · exact w_c2
  · exact w_c3
  · exact w_c4
  · exact w_c5
  · exact w_c6
set_option maxRecDepth 65536 in
theorem w_t1 : (words1.take 24).all (fun c => isCode c || c.before args0 about1) = true := by decide +kernel
set_option maxRecDepth 65536 in
theorem w_t2 : (words1.drop 24).all (fun c => isCode c || c.before args0 about1) = true := by decide +kernel
theorem w_tables : (allAtoms (Jvm.Cond.code x code maxLocals ret :: tables_1)).before args0 about1 = true := by
  rw [allAtoms_all]
  show words1.all (fun c => c.before args0 about1) = true
  refine all_split ?_ w_codes
  rw [← List.take_append_drop 24 words1, List.all_append, w_t1, w_t2]
  rfl
set_option maxRecDepth 65536 in
theorem w_rest : rest_1_c.before args0 about1 = true := by decide +kernel
set_option maxRecDepth 65536 in
theorem w_case : (Jvm.Cond.and given_1 narrow_1).before args0 about1 = true := by decide +kernel
theorem w_applies : (headSpec (Jvm.Cond.code x code maxLocals ret :: tables_1) room_1).applies x e0.platform about1 = true :=
  (Spec.applies_iff w_frames).mpr ⟨w_running, w_runnable, w_alone, w_named, w_hears, w_ripe, w_room, w_tables⟩
theorem atStart : AtStart classFile x code maxLocals ret World_1 tables_1 room_1 Calls_1 rest_1 Pre_1 launch0 p0 e0 about1 theMethod args0 below0 :=
  ⟨lists_1, trivial, launch0.admits_env _ _ _, launch0.least_env, fairChoices_fair.cas, fairChoices_fair.clock, w_frames, w_args, w_heap, w_applies, trivial, w_rest, w_case⟩
end start1
theorem witness_1 : WitnessClaimed_1 := ⟨start1.p0, start1.e0, start1.about1, start1.theMethod, start1.args0, start1.below0, start1.atStart⟩
end Jvm.Pilot.@@N@@
