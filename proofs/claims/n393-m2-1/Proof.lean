import JvmDerived
import JvmDerived.Pilot.@@N@@Statement
import JvmDerived.Pilot.@@N@@Code
set_option linter.unusedVariables false
set_option linter.unusedSimpArgs false

namespace Jvm.Pilot.@@N@@
open Jvm Jvm.ClassFile Sem Op Lib Jvm.Free Jvm.Stand Jvm.LawKit Jvm.RoadKit Bundle Jvm.Pilot.@@N@@.Jvm.D
/-! own layer: 'from here the run ends, and Q holds of what it leaves' (own_Dn), stepped backwards -/
def own_Dn (p : Program) (e : Env) (below : List Frame) (s : State) (Q : Option Value → Heap → List Loc → Prop) (K N : Nat) (A : State) : Prop :=
  ∃ s₂ o, Steps p.tables e below A s₂ ∧ s₂.status = .running ∧ Ended s₂ below o ∧ ∃ v L, o = .returned v ∧ Q v s₂.heap L ∧ FrameEnd s o s₂ L K N
def own_Q (r : Option Value) (n0 : Nat) (h0 : Heap) (v : Option Value) (h : Heap) (L : List Loc) : Prop := v = r ∧ Fr n0 L ∧ h = h0
def own_QL (r : Option Value) (n0 : Nat) (v : Option Value) (h : Heap) (L : List Loc) : Prop := v = r ∧ Fr n0 L
def own_Cx (p : Program) (s : State) (m : MethodId) (meth : Method) (c : Code) (Z : State) (a0 : Array Value) (bytes : ByteArray) (ml : Nat) (own nm : String) (ret : Option FieldType) : Prop :=
  p.tables.exec = Jvm.exec ∧ Z.Warmed39 s.vm ∧ (∀ d ∈ tables_1, d.before a0 Z = true) ∧ c.code = bytes ∧ c.maxLocals = ml ∧ s.vm.findClass own = some m.cls ∧ meth.sig.returnType = ret ∧ meth.locks = false ∧ meth.name = nm
theorem own_st {p : Program} {e : Env} {below : List Frame} {s : State} {Q : Option Value → Heap → List Loc → Prop} {K N : Nat} {A B : State} (k : ∀ t, Steps p.tables e below B t → Steps p.tables e below A t) (d : own_Dn p e below s Q K N B) : own_Dn p e below s Q K N A := by
  obtain ⟨s₂, o, h, r⟩ := d
  exact ⟨s₂, o, k _ h, r⟩
theorem own_tr {p : Program} {e : Env} {below : List Frame} {s : State} {Q : Option Value → Heap → List Loc → Prop} {K N : Nat} {A B : State} (k : Steps p.tables e below A B) (d : own_Dn p e below s Q K N B) : own_Dn p e below s Q K N A :=
  own_st (fun _ h => k.trans h) d
theorem own_cat {v : Value} (h : v.isRef = true) : v.category = 1 := by
  cases v <;> first | rfl | (simp [Value.isRef] at h)
section own
variable {p : Program} {l : Launch} {e : Env} {R : Room} {s : State} {m : MethodId} {args : Array Value} {below : List Frame} {meth : Method} {c : Code} {T : State} {locs : List Loc} {cells slots : Nat} {Q : Option Value → Heap → List Loc → Prop} {K N : Nat}
theorem own_ret (X : Stand p l e R s m args below meth c T locs cells slots) (hlk : meth.locks = false) {v : Option Value} (hv : meth.sig.returnType = none → v = none) {A : State} (hK : cells ≤ K) (hN : slots ≤ N) (hq : Q v T.heap locs)
    (hst : ∀ fs, (∀ (f : JFrame) (acts : List Action), f.method = m → f.locked = none → f.entered = [] → (doReturn e (T.setTop f) acts v).1 = T.setFrames fs) → Steps p.tables e below A (T.setFrames fs)) : own_Dn p e below s Q K N A := by
  obtain ⟨fs, hr, hrun, hended, hW, hsame⟩ := X.leave (v := v) hv hlk
  exact ⟨_, _, hst fs hr, hrun, hended, _, _, rfl, hq, ⟨_, rfl⟩, hW, hsame.mono hK hN⟩
theorem own_retI (X : Stand p l e R s m args below meth c T locs cells slots) (hx : p.tables.exec = Jvm.exec) (hret : meth.sig.returnType = some .int) (hlk : meth.locks = false) {pc : Nat} {Ls : Array Slot} {z : Int32} {rest : List Value} (hd : decode c.code pc = .ok (.ireturn, 1)) (hK : cells ≤ K) (hN : slots ≤ N)
    (hq : Q (some (.int z)) T.heap locs) : own_Dn p e below s Q K N (T.setTop (mkF m pc Ls (.int z :: rest))) :=
  own_ret X hlk (fun h => by rw [hret] at h; cases h) hK hN hq (fun fs hr => retOut X hx hret rfl (Or.inl ⟨rfl, Or.inl rfl, _, rfl⟩) hd hr)
theorem own_retJ (X : Stand p l e R s m args below meth c T locs cells slots) (hx : p.tables.exec = Jvm.exec) (hret : meth.sig.returnType = some .long) (hlk : meth.locks = false) {pc : Nat} {Ls : Array Slot} {z : Int64} {rest : List Value} (hd : decode c.code pc = .ok (.lreturn, 1)) (hK : cells ≤ K) (hN : slots ≤ N)
    (hq : Q (some (.long z)) T.heap locs) : own_Dn p e below s Q K N (T.setTop (mkF m pc Ls (.long z :: rest))) :=
  own_ret X hlk (fun h => by rw [hret] at h; cases h) hK hN hq (fun fs hr => retOut X hx hret rfl (Or.inr (Or.inl ⟨rfl, rfl, _, rfl⟩)) hd hr)
theorem own_retZ (X : Stand p l e R s m args below meth c T locs cells slots) (hx : p.tables.exec = Jvm.exec) (hret : meth.sig.returnType = some .boolean) (hlk : meth.locks = false) {pc : Nat} {Ls : Array Slot} {z : Int32} {rest : List Value} (hz : z &&& 1 = z) (hd : decode c.code pc = .ok (.ireturn, 1)) (hK : cells ≤ K) (hN : slots ≤ N)
    (hq : Q (some (.int z)) T.heap locs) : own_Dn p e below s Q K N (T.setTop (mkF m pc Ls (.int z :: rest))) :=
  own_ret X hlk (fun h => by rw [hret] at h; cases h) hK hN hq (fun fs hr => retOut X hx (w := .int z) hret (show Value.int (z &&& 1) = .int z from congrArg Value.int hz) (Or.inl ⟨rfl, Or.inr (Or.inl rfl), _, rfl⟩) hd hr)
theorem own_retV (X : Stand p l e R s m args below meth c T locs cells slots) (hx : p.tables.exec = Jvm.exec) (hret : meth.sig.returnType = none) (hlk : meth.locks = false) {pc : Nat} {Ls : Array Slot} (hd : decode c.code pc = .ok (.return_, 1)) (hK : cells ≤ K) (hN : slots ≤ N)
    (hq : Q none T.heap locs) : own_Dn p e below s Q K N (T.setTop (mkF m pc Ls [])) :=
  own_ret X hlk (fun _ => rfl) hK hN hq (fun fs hr => X.returnOut hx hret hd hr)
theorem own_retA (X : Stand p l e R s m args below meth c T locs cells slots) (hx : p.tables.exec = Jvm.exec) {t : FieldType} (ht : t.isReference = true) (hret : meth.sig.returnType = some t) (hlk : meth.locks = false) {pc : Nat} {Ls : Array Slot} {w : Value} {rest : List Value} (hw : w.isRef = true) (hn : narrow t w = w) (hd : decode c.code pc = .ok (.areturn, 1)) (hK : cells ≤ K) (hN : slots ≤ N)
    (hq : Q (some w) T.heap locs) : own_Dn p e below s Q K N (T.setTop (mkF m pc Ls (w :: rest))) :=
  own_ret X hlk (fun h => by rw [hret] at h; cases h) hK hN hq (fun fs hr => retOut X hx hret hn (Or.inr (Or.inr (Or.inr (Or.inr ⟨rfl, ht, hw⟩)))) hd hr)
end own
theorem own_met {l : Launch} {Z : State} {a0 : Array Value} (hw : ∀ d ∈ tables_1, d.before a0 Z = true) {y : MethodName} {bytes : ByteArray} {ml : Nat} {ret : Option FieldType} {ws : List Jvm.Cond} {rm : Room} {as' : Array Value} {h0 : Heap} {Q : Option Value → Heap → List Loc → Prop} (hpl : plainFor y = true)
    (body : ∀ p e s m below meth c s₁, own_Cx p s m meth c Z a0 bytes ml y.cls y.name ret → Stand p l e rm s m as' below meth c s₁ [] 0 0 → s₁.heap = h0 → own_Dn p e below s Q rm.cells rm.slots (s₁.setTop (entryFrame m as' ml))) :
    MetFree l y (head1 (Jvm.Cond.code y bytes ml ret :: ws) rm) (fun a U => a = as' ∧ Z.Warmed39 U.vm ∧ U.heap = h0) (fun _ _ _ _ _ => True) (fun _ U o U' => ∃ v L, o = .returned v ∧ Q v U'.heap L ∧ FrameEnd U o U' L rm.cells rm.slots) := by
  refine MetFree.of_bodySF hpl hisR ?_
  intro p e s m args below meth c s₁ Bd hml0 hP hK
  obtain ⟨rfl, hZ, hh⟩ := hP
  exact body p e s m below meth c s₁ ⟨Bd.exec, hZ, hw, Bd.bytes, hml0, findClass_of_methodNamed Bd.named, Bd.returns, BodyLoose.notSynchronized Bd, (name_of_methodNamed Bd.named Bd.method).1⟩ (Stand.of_body Bd) (by rw [← hh, Bd.state]; rfl)
theorem own_jtlt {x y : Int64} (h : x < y) : ifCond.holds .lt (lcmpW x y) = true ∧ ifCond.holds .ge (lcmpW x y) = false ∧ ifCond.holds .gt (lcmpW y x) = true ∧ ifCond.holds .le (lcmpW y x) = false := by
  have h1 : lcmpW x y < 0 := by rw [lcW]; exact (lc_lt x y).mpr h
  have h2 : 0 < lcmpW y x := by rw [lcW]; exact (lc_gt y x).mpr h
  exact ⟨(if0 _ _).trans (tlt h1).1, (if0 _ _).trans (tlt h1).2.1, (if0 _ _).trans (tlt h2).2.2.1, (if0 _ _).trans (tlt h2).2.2.2⟩
theorem own_jflt {x y : Int64} (h : ¬ x < y) : ifCond.holds .lt (lcmpW x y) = false ∧ ifCond.holds .ge (lcmpW x y) = true ∧ ifCond.holds .gt (lcmpW y x) = false ∧ ifCond.holds .le (lcmpW y x) = true := by
  have h1 : ¬ lcmpW x y < 0 := by rw [lcW]; exact fun q => h ((lc_lt x y).mp q)
  have h2 : ¬ 0 < lcmpW y x := by rw [lcW]; exact fun q => h ((lc_gt y x).mp q)
  exact ⟨(if0 _ _).trans (flt h1).1, (if0 _ _).trans (flt h1).2.1, (if0 _ _).trans (flt h2).2.2.1, (if0 _ _).trans (flt h2).2.2.2⟩
theorem own_jteq {x y : Int64} (h : x = y) : ifCond.holds .eq (lcmpW x y) = true ∧ ifCond.holds .ne (lcmpW x y) = false := by
  have h1 : lcmpW x y = 0 := by rw [lcW]; exact (lc_eq x y).mpr h
  exact ⟨(if0 _ _).trans (teq h1).1, (if0 _ _).trans (teq h1).2⟩
theorem own_jfeq {x y : Int64} (h : ¬ x = y) : ifCond.holds .eq (lcmpW x y) = false ∧ ifCond.holds .ne (lcmpW x y) = true := by
  have h1 : ¬ lcmpW x y = 0 := by rw [lcW]; exact fun q => h ((lc_eq x y).mp q)
  exact ⟨(if0 _ _).trans (feq h1).1, (if0 _ _).trans (feq h1).2⟩
theorem own_miss (a : Int32) (ks : List Int32) (h : ∀ k ∈ ks, ¬ a = k) {ps : List (Int × Int)} (e : ps.map (·.1) = ks.map Int32.toInt) : ∀ p ∈ ps, p.1 ≠ a.toInt := by
  intro p hp q
  have h1 : p.1 ∈ ps.map (·.1) := List.mem_map.mpr ⟨p, hp, rfl⟩
  rw [e] at h1
  obtain ⟨k, hk, r⟩ := List.mem_map.mp h1
  exact h k hk (Int32.toInt_inj.mp (q.symm.trans r.symm))
theorem own_Sta_keep {Z : State} {h h' : Heap} {C n d : String} {v : Value} {a : Addr} {C' : String} (F : Sta Z h C n d v) (K : Keep h h' [a]) (E : Exa Z h a C') : Sta Z h' C n d v := by
  obtain ⟨cf, i, k, f, st, cell, h1, h2, h3, h4, h5, h6, h7⟩ := F
  obtain ⟨cl, k', e1, -, -, e4, -⟩ := E
  refine ⟨cf, i, k, f, st, cell, h1, h2, h3, h4, K.2.1 _ _ h5 (ninS (fun q => ?_) nin0), h6, h7⟩
  subst q
  cases h5.symm.trans e1
  rw [h6] at e4; cases e4
theorem own_Sta_keep0 {Z : State} {h h' : Heap} {C n d : String} {v : Value} (F : Sta Z h C n d v) (K : Keep h h' []) : Sta Z h' C n d v := by
  obtain ⟨cf, i, k, f, st, cell, h1, h2, h3, h4, h5, h6, h7⟩ := F
  exact ⟨cf, i, k, f, st, cell, h1, h2, h3, h4, K.2.1 _ _ h5 nin0, h6, h7⟩
theorem own_ne_or {r x : Addr} {ws : List Addr} {H : Heap} (h : r ∈ ws ∨ H.size ≤ r) (hl : x < H.size) (hn : x ∉ ws) : x ≠ r := fun e => h.elim (fun q => hn (e ▸ q)) (fun q => Nat.lt_irrefl _ (Nat.lt_of_lt_of_le (e ▸ hl) q))
theorem own_or_up {r : Addr} {ws ws' : List Addr} {h0 H : Heap} (h : r ∈ ws ∨ H.size ≤ r) (hk : h0.size ≤ H.size) (all : ∀ x ∈ ws, x ∈ ws' ∨ h0.size ≤ x) : r ∈ ws' ∨ h0.size ≤ r := h.elim (all r) (fun q => Or.inr (Nat.le_trans hk q))
theorem own_selp {Z s : State} {a0 args : Array Value} {y : MethodName} {n : Nat} (hZ : Z.Warmed39 s.vm) (w1 : (Cond.instantiable y.cls n).before a0 Z = true) (w2 : (Cond.instanceMethod y).before a0 Z = true) (w3 : (Cond.privateMethod y).before a0 Z = true) (hy : y.cls ≠ "java/lang/invoke/MethodHandle" ∧ y.cls ≠ "java/lang/invoke/VarHandle") : (Cond.selects y.cls y y).before args s = true := by
  have i1 : (Cond.instantiable y.cls n).before args s = true := mvT hZ w1
  obtain ⟨c, k, h1, h2, -, h4, -, -⟩ := Cond.instantiable_spec i1
  have h5 : k.isInterface = false := by
    cases hk : k.isInterface
    · rfl
    · rw [hk] at h4; simp at h4
  exact selects_self_of_private h1 h2 h5 (Cond.privateMethod_at (mvP hZ w3 (args := args))) (mvT hZ w2) hy

/-! own layer, arrays: an array's places as a function -/
def own_Arf (Z : State) (h : Heap) (a : Addr) (ty : FieldType) (n : Nat) (f : Nat → Value) : Prop := ∃ c : Cell, Arr Z h a c ty ∧ c.slots.size = n ∧ n < 2 ^ 31 ∧ ∀ i, i < n → c.slots[i]? = some (f i)
def own_upd {α : Type} (g : Nat → α) (j : Nat) (v : α) (i : Nat) : α := if i = j then v else g i
section ownA
variable {Z : State} {h h' : Heap} {a b : Addr} {ty : FieldType} {n sl : Nat} {f : Nat → Value} {v : Value} {ws : List Addr}
theorem own_Arf.lt (F : own_Arf Z h a ty n f) : a < h.size := by obtain ⟨c, A, -⟩ := F; exact A.lt
theorem own_Arf.ext (F : own_Arf Z h a ty n f) (E : Ext h h') : own_Arf Z h' a ty n f := by obtain ⟨c, A, q⟩ := F; exact ⟨c, A.ext E, q⟩
theorem own_Arf.other (F : own_Arf Z h b ty n f) (W : Wr h h' a sl v) (q : b ≠ a) : own_Arf Z h' b ty n f := by obtain ⟨c, A, r⟩ := F; exact ⟨c, A.other W q, r⟩
theorem own_Arf.keep (F : own_Arf Z h a ty n f) (K : Keep h h' ws) (q : a ∉ ws) : own_Arf Z h' a ty n f := by obtain ⟨c, A, r⟩ := F; exact ⟨c, ⟨K.2.1 _ _ A.1 q, A.2⟩, r⟩
theorem own_Arf.congr {f' : Nat → Value} (F : own_Arf Z h a ty n f) (q : ∀ i, i < n → f i = f' i) : own_Arf Z h a ty n f' := by
  obtain ⟨c, A, hs, hn, hf⟩ := F
  exact ⟨c, A, hs, hn, fun i hi => by rw [hf i hi, q i hi]⟩
theorem own_Arf.new {k : ClassId} {z : Int32} (A : Arr Z h a (newA k ty z) ty) (q : z.toNatClampNeg = n) (hn : n < 2 ^ 31) : own_Arf Z h a ty n (fun _ => defaultValue ty) := by
  refine ⟨_, A, by rw [sz_new]; exact q, hn, fun i hi => ?_⟩
  simp [newA, q, hi]
theorem own_Arf.set (F : own_Arf Z h a ty n f) (W : Wr h h' a sl v) (hj : sl < n) : own_Arf Z h' a ty n (own_upd f sl v) := by
  obtain ⟨c, A, hs, hn, hf⟩ := F
  refine ⟨c.setSlot sl v, A.same W, by rw [sz_set]; exact hs, hn, fun i hi => ?_⟩
  simp only [own_upd]
  split
  · rename_i q; subst q; simp [Cell.setSlot, hs, hi]
  · rename_i q; simp [Cell.setSlot, Array.getElem?_setIfInBounds, Ne.symm q, hf i hi]
theorem own_Arf.setI {g : Nat → Int32} {x : Int32} (F : own_Arf Z h a ty n (fun i => .int (g i))) (W : Wr h h' a sl (.int x)) (hj : sl < n) : own_Arf Z h' a ty n (fun i => .int (own_upd g sl x i)) :=
  (F.set W hj).congr fun i _ => by simp only [own_upd]; split <;> rfl
theorem own_Arf.setJ {g : Nat → Int64} {x : Int64} (F : own_Arf Z h a ty n (fun i => .long (g i))) (W : Wr h h' a sl (.long x)) (hj : sl < n) : own_Arf Z h' a ty n (fun i => .long (own_upd g sl x i)) :=
  (F.set W hj).congr fun i _ => by simp only [own_upd]; split <;> rfl
variable {p : Program} {l : Launch} {e : Env} {R : Room} {s : State} {m : MethodId} {args : Array Value} {below : List Frame} {meth : Method} {c : Code} {T : State} {locs : List Loc} {cells slots : Nat}
theorem own_ldI (X : Stand p l e R s m args below meth c T locs cells slots) (hx : p.tables.exec = Jvm.exec) (hZ : Z.Warmed39 s.vm) (eT : T.heap = h) (F : own_Arf Z h a .int n f) {j : Int32} (h0 : ¬ j < 0) (hj : j.toNatClampNeg < n) {pc : Nat} {L : Array Slot} {rest : List Value} (hd : decode c.code pc = .ok (.iaload, 1)) :
    ∀ target, Steps p.tables e below (T.setTop (mkF m (pc + 1) L (f j.toNatClampNeg :: rest))) target → Steps p.tables e below (T.setTop (mkF m pc L (.int j :: .ref a :: rest))) target := by
  obtain ⟨cl, A, hs, hn, hf⟩ := F
  intro target k
  exact X.iaload hx (j := j) (v := f j.toNatClampNeg) (by rw [eT]; exact A.1) (State.isArrayOf_alike hZ.alike A.2.1) A.2.2 (fun q => q.elim h0 (fun r => by omega)) (hf _ hj) (g := mkF m pc L (.int j :: .ref a :: rest)) rfl rfl hd _ k
theorem own_ldJ (X : Stand p l e R s m args below meth c T locs cells slots) (hx : p.tables.exec = Jvm.exec) (hZ : Z.Warmed39 s.vm) (eT : T.heap = h) (F : own_Arf Z h a .long n f) {j : Int32} (h0 : ¬ j < 0) (hj : j.toNatClampNeg < n) {pc : Nat} {L : Array Slot} {rest : List Value} (hd : decode c.code pc = .ok (.laload, 1)) :
    ∀ target, Steps p.tables e below (T.setTop (mkF m (pc + 1) L (f j.toNatClampNeg :: rest))) target → Steps p.tables e below (T.setTop (mkF m pc L (.int j :: .ref a :: rest))) target := by
  obtain ⟨cl, A, hs, hn, hf⟩ := F
  intro target k
  exact X.laload hx (j := j) (v := f j.toNatClampNeg) (by rw [eT]; exact A.1) (State.isArrayOf_alike hZ.alike A.2.1) A.2.2 (fun q => q.elim h0 (fun r => by omega)) (hf _ hj) (g := mkF m pc L (.int j :: .ref a :: rest)) rfl rfl hd _ k
theorem own_ldB (X : Stand p l e R s m args below meth c T locs cells slots) (hx : p.tables.exec = Jvm.exec) (hZ : Z.Warmed39 s.vm) (eT : T.heap = h) (F : own_Arf Z h a .byte n f) {j : Int32} (h0 : ¬ j < 0) (hj : j.toNatClampNeg < n) {pc : Nat} {L : Array Slot} {rest : List Value} (hd : decode c.code pc = .ok (.baload, 1)) :
    ∀ target, Steps p.tables e below (T.setTop (mkF m (pc + 1) L (f j.toNatClampNeg :: rest))) target → Steps p.tables e below (T.setTop (mkF m pc L (.int j :: .ref a :: rest))) target := by
  obtain ⟨cl, A, hs, hn, hf⟩ := F
  intro target k
  exact X.baloadBytes hx (j := j) (v := f j.toNatClampNeg) (by rw [eT]; exact A.1) (State.isArrayOf_alike hZ.alike A.2.1) A.2.2 (fun q => q.elim h0 (fun r => by omega)) (hf _ hj) (g := mkF m pc L (.int j :: .ref a :: rest)) rfl rfl hd _ k
theorem own_len (X : Stand p l e R s m args below meth c T locs cells slots) (hx : p.tables.exec = Jvm.exec) (hZ : Z.Warmed39 s.vm) (eT : T.heap = h) (F : own_Arf Z h a ty n f) {z : Int32} (hz : n.toInt32 = z) {pc : Nat} {L : Array Slot} {rest : List Value} (hd : decode c.code pc = .ok (.arraylength, 1)) :
    ∀ target, Steps p.tables e below (T.setTop (mkF m (pc + 1) L (.int z :: rest))) target → Steps p.tables e below (T.setTop (mkF m pc L (.ref a :: rest))) target := by
  obtain ⟨cl, A, hs, hn, hf⟩ := F
  intro target k
  refine X.arraylength hx (cell := cl) (by rw [eT]; exact A.1) (State.isArrayOf_alike hZ.alike A.2.1) (g := mkF m pc L (.ref a :: rest)) rfl (rest := rest) rfl hd _ ?_
  rw [hs, hz]; exact k
theorem own_stI (X : Stand p l e R s m args below meth c T locs cells slots) (hx : p.tables.exec = Jvm.exec) (hZ : Z.Warmed39 s.vm) (eT : T.heap = h) {g : Nat → Int32} (F : own_Arf Z h a .int n (fun i => .int (g i))) {j x : Int32} (h0 : ¬ j < 0) (hj : j.toNatClampNeg < n) {pc : Nat} {L : Array Slot} {rest : List Value} (hd : decode c.code pc = .ok (.iastore, 1)) :
    ∃ T' h', Stand p l e R s m args below meth c T' (locs ++ [⟨a, j.toNatClampNeg⟩]) cells slots ∧ T'.heap = h' ∧ Wr h h' a j.toNatClampNeg (.int x) ∧ own_Arf Z h' a .int n (fun i => .int (own_upd g j.toNatClampNeg x i)) ∧
      ∀ target, Steps p.tables e below (T'.setTop (mkF m (pc + 1) L rest)) target → Steps p.tables e below (T.setTop (mkF m pc L (.int x :: .int j :: .ref a :: rest))) target := by
  have F' := F
  obtain ⟨cl, A, hs, hn, hf⟩ := F
  obtain ⟨T', h', X', e', W, st⟩ := stI X hx hZ eT A (j := j) (x := x) (fun q => q.elim h0 (fun r => by omega)) (g := mkF m pc L (.int x :: .int j :: .ref a :: rest)) rfl rfl hd
  exact ⟨T', h', X', e', W, F'.setI W hj, st⟩
theorem own_stJ (X : Stand p l e R s m args below meth c T locs cells slots) (hx : p.tables.exec = Jvm.exec) (hZ : Z.Warmed39 s.vm) (eT : T.heap = h) {g : Nat → Int64} (F : own_Arf Z h a .long n (fun i => .long (g i))) {j : Int32} {x : Int64} (h0 : ¬ j < 0) (hj : j.toNatClampNeg < n) {pc : Nat} {L : Array Slot} {rest : List Value} (hd : decode c.code pc = .ok (.lastore, 1)) :
    ∃ T' h', Stand p l e R s m args below meth c T' (locs ++ [⟨a, j.toNatClampNeg⟩]) cells slots ∧ T'.heap = h' ∧ Wr h h' a j.toNatClampNeg (.long x) ∧ own_Arf Z h' a .long n (fun i => .long (own_upd g j.toNatClampNeg x i)) ∧
      ∀ target, Steps p.tables e below (T'.setTop (mkF m (pc + 1) L rest)) target → Steps p.tables e below (T.setTop (mkF m pc L (.long x :: .int j :: .ref a :: rest))) target := by
  have F' := F
  obtain ⟨cl, A, hs, hn, hf⟩ := F
  obtain ⟨T', h', X', e', W, st⟩ := stJ X hx hZ eT A (j := j) (x := x) (fun q => q.elim h0 (fun r => by omega)) (g := mkF m pc L (.long x :: .int j :: .ref a :: rest)) rfl rfl hd
  exact ⟨T', h', X', e', W, F'.setJ W hj, st⟩
theorem own_stB (X : Stand p l e R s m args below meth c T locs cells slots) (hx : p.tables.exec = Jvm.exec) (hZ : Z.Warmed39 s.vm) (eT : T.heap = h) {g : Nat → Int32} (F : own_Arf Z h a .byte n (fun i => .int (g i))) {j x : Int32} (h0 : ¬ j < 0) (hj : j.toNatClampNeg < n) {pc : Nat} {L : Array Slot} {rest : List Value} (hd : decode c.code pc = .ok (.bastore, 1)) :
    ∃ T' h', Stand p l e R s m args below meth c T' (locs ++ [⟨a, j.toNatClampNeg⟩]) cells slots ∧ T'.heap = h' ∧ Wr h h' a j.toNatClampNeg (.int x.toInt8.toInt32) ∧ own_Arf Z h' a .byte n (fun i => .int (own_upd g j.toNatClampNeg x.toInt8.toInt32 i)) ∧
      ∀ target, Steps p.tables e below (T'.setTop (mkF m (pc + 1) L rest)) target → Steps p.tables e below (T.setTop (mkF m pc L (.int x :: .int j :: .ref a :: rest))) target := by
  have F' := F
  obtain ⟨cl, A, hs, hn, hf⟩ := F
  obtain ⟨T', h', X', e', W, st⟩ := stB X hx hZ eT A (j := j) (x := x) (fun q => q.elim h0 (fun r => by omega)) (g := mkF m pc L (.int x :: .int j :: .ref a :: rest)) rfl rfl hd
  exact ⟨T', h', X', e', W, F'.setI W hj, st⟩
end ownA
section ownB
variable {args : Array Value} {s : State} {t u : Term} {w : Addr} {ty : FieldType} {z : Int32} {n : Nat}
theorem own_Arf.start (ev : t.eval args s none [] s = some (.ref w)) (h1 : (Jvm.Cond.arrayOf t ty).value args s none s [] = some true) (h2 : (Jvm.Cond.eq (.length t) (.int z)).value args s none s [] = some true) (hn : z.toInt = n) :
    ∃ f, own_Arf s s.heap w ty n f ∧ ∀ j : Int32, ¬ j < 0 → j.toNatClampNeg < n → (Term.elem t (.int j)).eval args s none [] s = some (f j.toNatClampNeg) := by
  obtain ⟨c, A⟩ := Arr.start ev h1
  have hat : s.arrayAt? w = some c := Arr.fin (State.Warmed39.refl s).alike A
  have hlen := Cond.eq_int (Cond.before_iff.mpr h2) rfl
  have h31 := SBG.length_lt ev hat hlen
  have hsz : c.slots.size = n := by
    have e1 := len_f ev hat h31
    have e2 : c.slots.size.toInt32 = z := by simpa using Option.some.inj (e1.symm.trans hlen)
    have e3 := len_toInt h31
    rw [e2] at e3; omega
  refine ⟨fun i => (c.slots[i]?).getD .null, ⟨c, A, hsz, by omega, fun i hi => ?_⟩, fun j h0 hj => ?_⟩
  · have : i < c.slots.size := by omega
    simp [this]
  · rw [elem_f ev (Term.int_eval j) hat h0]
    have : j.toNatClampNeg < c.slots.size := by omega
    simp [this]
theorem own_eqref {a b : Term} {x : Value} (ha : a.eval args s none [] s = some x) (hb : b.eval args s none [] s = some (.ref w)) (h : (Jvm.Cond.eq a b).value args s none s [] = some true) : x = .ref w := by
  obtain ⟨x', y', e1, e2, k1, k2⟩ := cmp_v (Or.inl h)
  cases ha.symm.trans e1; cases hb.symm.trans e2
  exact gotT (eq_R ha hb k2.2 rfl) h
theorem own_fldstart {C f d : String} {k : Int32} (ev : t.eval args s none [] s = some (.ref w)) (h : (Jvm.Cond.eq (.field t C f d) (.int k)).value args s none s [] = some true) : Fld s s.heap w C f d (.int k) := by
  have e := Cond.eq_int (Cond.before_iff.mpr h) rfl
  rw [fld_at ev] at e
  exact Fld.start e
end ownB
section ownC
variable {Z : State} {h h' : Heap} {a b : Addr} {ty : FieldType} {n sl : Nat} {f : Nat → Value} {v : Value} {ws : List Addr}
variable {p : Program} {l : Launch} {e : Env} {R : Room} {s : State} {m : MethodId} {args : Array Value} {below : List Frame} {meth : Method} {c : Code} {T : State} {locs : List Loc} {cells slots : Nat}
theorem own_ldA (X : Stand p l e R s m args below meth c T locs cells slots) (hx : p.tables.exec = Jvm.exec) (hZ : Z.Warmed39 s.vm) (eT : T.heap = h) (F : own_Arf Z h a ty n f) (hty : ty.isReference = true) {j : Int32} (h0 : ¬ j < 0) (hj : j.toNatClampNeg < n) {pc : Nat} {L : Array Slot} {rest : List Value} (hd : decode c.code pc = .ok (.aaload, 1)) :
    ∀ target, Steps p.tables e below (T.setTop (mkF m (pc + 1) L (f j.toNatClampNeg :: rest))) target → Steps p.tables e below (T.setTop (mkF m pc L (.int j :: .ref a :: rest))) target := by
  obtain ⟨cl, A, hs, hn, hf⟩ := F
  intro target k
  exact X.aaload hx (j := j) (v := f j.toNatClampNeg) (by rw [eT]; exact A.1) (State.isArrayOf_alike hZ.alike A.2.1) hty A.2.2 (fun q => q.elim h0 (fun r => by omega)) (hf _ hj) (g := mkF m pc L (.int j :: .ref a :: rest)) rfl rfl hd _ k
theorem own_clone (X : Stand p l e R s m args below meth c T locs cells slots) (hx : p.tables.exec = Jvm.exec) (hZ : Z.Warmed39 s.vm) {a0 : Array Value} {own ad : String} {index : Nat} (hown : s.vm.findClass own = some m.cls)
    (w1 : (Cond.methodLink own index ⟨ad, "clone", "()Ljava/lang/Object;"⟩).before a0 Z = true) (w2 : (Cond.sameMethod ad "java/lang/Object" "clone" "()Ljava/lang/Object;").before a0 Z = true) (w3 : (Cond.native ⟨"java/lang/Object", "clone", "()Ljava/lang/Object;"⟩).before a0 Z = true)
    (w4 : (Cond.instanceMethod ⟨"java/lang/Object", "clone", "()Ljava/lang/Object;"⟩).before a0 Z = true) (w5 : (Cond.selects ad ⟨ad, "clone", "()Ljava/lang/Object;"⟩ ⟨"java/lang/Object", "clone", "()Ljava/lang/Object;"⟩).before a0 Z = true) (w6 : (Cond.castable ad "java/lang/Cloneable").before a0 Z = true)
    (eT : T.heap = h) (F : own_Arf Z h a ty n f) (E : Exa Z h a ad) (hfit : ∀ i, i < n → fits ty (f i) = true) {g : JFrame} (hg : g.method = m) (hsize : g.locals.size = c.maxLocals) {rest : List Value} (hs : g.stack = .ref a :: rest) (hd : decode c.code g.pc = .ok (.invokevirtual index, 3))
    (hf : 1 ≤ R.frames) {W : Nat} (hW : 2 * g.monitorRoom + (rest.map fun v => v.category).sum ≤ W) (hl : W + 14 ≤ R.locals) (hc : cells + 1 ≤ R.cells) (hsl : slots + n ≤ R.slots) :
    ∃ T' h', Stand p l e R s m args below meth c T' locs (cells + 1) (slots + n) ∧ T'.heap = h' ∧ Ext h h' ∧ own_Arf Z h' h.size ty n f ∧ Exa Z h' h.size ad ∧
      ∀ target, Steps p.tables e below (T'.setTop { g with pc := g.pc + 3, stack := .ref h.size :: rest }) target → Steps p.tables e below (T.setTop g) target := by
  obtain ⟨cl, A, q1, q2, q3⟩ := F
  have FC : FitC Z cl := fitC_of A (fun i hi v hv => by
    have r := q3 i (by omega)
    rw [r] at hv; cases hv; exact hfit i (by omega))
  obtain ⟨T', h', X', e', E', A', EA, st⟩ := cloneA X hx hZ hown w1 w2 w3 w4 w5 w6 eT A E FC hg hsize hs hd hf hW hl (cap := n) (by omega) hc hsl
  exact ⟨T', h', X', e', E', ⟨_, A', q1, q2, q3⟩, EA, st⟩
end ownC

theorem own_pd0 : parseMethodDescriptor "()[Lcom/example/cairnstore/cairnstore/access/Right;" = some ⟨[], some (.array (.object "com/example/cairnstore/cairnstore/access/Right"))⟩ := by decide +kernel
theorem own_pd1 : parseMethodDescriptor "(C)Lcom/example/cairnstore/cairnstore/access/Right;" = some ⟨[.char], some (.object "com/example/cairnstore/cairnstore/access/Right")⟩ := by decide +kernel
theorem va_d0 : decode prog_6_method_1_code 0 = .ok (.getstatic 13, 3) := by decide +kernel
theorem va_d3 : decode prog_6_method_1_code 3 = .ok (.invokevirtual 17, 3) := by decide +kernel
theorem va_d6 : decode prog_6_method_1_code 6 = .ok (.checkcast 18, 3) := by decide +kernel
theorem va_d9 : decode prog_6_method_1_code 9 = .ok (.areturn, 1) := by decide +kernel
def va_Q (Z : State) (w_v : Addr) (w_r : Addr) (w_w : Addr) (w_a : Addr) (h0 : Heap) (n0 : Nat) (v : Option Value) (h : Heap) (L : List Loc) : Prop := ∃ r : Addr, v = some (.ref r) ∧ n0 ≤ r ∧ h0.size ≤ r ∧ Fr n0 L ∧ Keep h0 h [] ∧ own_Arf Z h r (.object "com/example/cairnstore/cairnstore/access/Right") 3 (fun i => ([(.ref w_r), (.ref w_w), (.ref w_a)] : List Value).getD i .null)
set_option maxRecDepth 65536 in
set_option maxHeartbeats 40000000 in
theorem va_c0 {l : Launch} {Z : State} {a0 : Array Value} {w_v : Addr} {w_r : Addr} {w_w : Addr} {w_a : Addr} {h0 : Heap} {n0 : Nat} {p : Program} {e : Env} {s : State} {m : MethodId} {args : Array Value} {below : List Frame} {meth : Method} {c : Code} {T0 : State} {locs : List Loc} (C0 : own_Cx p s m meth c Z a0 prog_6_method_1_code 0 "com/example/cairnstore/cairnstore/access/Right" "values" (some (.array (.object "com/example/cairnstore/cairnstore/access/Right")))) (X0 : Stand p l e ({ frames := 1, cells := 1, slots := 3, locals := 14 } : Room) s m args below meth c T0 locs 0 0) (e0 : T0.heap = h0) (N0 : Fr n0 locs)  (Z0 : n0 ≤ h0.size) (P0 : Sta Z h0 "com/example/cairnstore/cairnstore/access/Right" "$VALUES" "[Lcom/example/cairnstore/cairnstore/access/Right;" (.ref w_v)) (P1 : own_Arf Z h0 w_v (.object "com/example/cairnstore/cairnstore/access/Right") 3 (fun i => ([(.ref w_r), (.ref w_w), (.ref w_a)] : List Value).getD i .null)) (P2 : Exa Z h0 w_v "[Lcom/example/cairnstore/cairnstore/access/Right;") :
    own_Dn p e below s (va_Q Z w_v w_r w_w w_a h0 n0) ({ frames := 1, cells := 1, slots := 3, locals := 14 } : Room).cells ({ frames := 1, cells := 1, slots := 3, locals := 14 } : Room).slots (T0.setTop (mkF m 0 #[] [])) := by
  obtain ⟨hx, hZ, hw, hby, hml, hown, hret, hlk, hnm⟩ := id C0
  obtain ⟨T12, X12, e12, st12⟩ := getS2 X0 hx hZ hown (host := "") (Or.inl (hw _ (List.mem_of_getElem? (i := 9) rfl))) Via.refl e0 P0 (g := (mkF m 0 #[] [])) rfl (hb hby va_d0)
  refine own_st st12 ?_
  show own_Dn p e below s _ _ _ (T12.setTop (mkF m 3 #[] [(.ref w_v)]))
  obtain ⟨T13, h13, X13, e13, E13, A13, EA13, st13⟩ := own_clone X12 hx hZ hown (hw _ (List.mem_of_getElem? (i := 11) rfl)) (hw _ (List.mem_of_getElem? (i := 12) rfl)) (hw _ (List.mem_of_getElem? (i := 16) rfl)) (hw _ (List.mem_of_getElem? (i := 14) rfl)) (hw _ (List.mem_of_getElem? (i := 15) rfl)) (hw _ (List.mem_of_getElem? (i := 17) rfl)) e12 P1 P2 (by intro i hi; match i, hi with | 0, _ => rfl | 1, _ => rfl | 2, _ => rfl) (g := (mkF m 3 #[] [(.ref w_v)])) rfl (by rw [hml]; rfl) rfl (hb hby va_d3) (by decide) (W := 0) (by show 2 * 0 + _ ≤ _; exact Nat.le_of_eq rfl) (by decide) (by decide) (by decide)
  obtain ⟨o3, g13⟩ : ∃ z, z = h0.size := ⟨_, rfl⟩
  rw [← g13] at A13 EA13 st13
  have ne14 : w_v ≠ o3 := Nat.ne_of_lt (Nat.lt_of_lt_of_le P1.lt (Nat.le_of_eq g13.symm))
  have ge15 : n0 ≤ o3 := Nat.le_trans Z0 (Nat.le_of_eq g13.symm)
  have gh16 : h0.size ≤ o3 := Nat.le_trans (Keep.refl h0 []).1 (Nat.le_of_eq g13.symm)
  have F17 : n0 ≤ h13.size := Nat.le_trans Z0 E13.1
  have F18 : Sta Z h13 "com/example/cairnstore/cairnstore/access/Right" "$VALUES" "[Lcom/example/cairnstore/cairnstore/access/Right;" (.ref w_v) := P0.ext E13
  have F19 : own_Arf Z h13 w_v (.object "com/example/cairnstore/cairnstore/access/Right") 3 (fun i => ([(.ref w_r), (.ref w_w), (.ref w_a)] : List Value).getD i .null) := P1.ext E13
  have F20 : Exa Z h13 w_v "[Lcom/example/cairnstore/cairnstore/access/Right;" := P2.ext E13
  have F21 : Keep h0 h13 [] := (Keep.refl h0 []).ext E13
  refine own_st st13 ?_
  show own_Dn p e below s _ _ _ (T13.setTop (mkF m 6 #[] [(.ref o3)]))
  obtain ⟨T22, X22, e22, st22⟩ := castY X13 hx hZ hown (hw _ (List.mem_of_getElem? (i := 21) rfl)) e13 (Ins.self EA13) (g := (mkF m 6 #[] [(.ref o3)])) rfl rfl (hb hby va_d6)
  refine own_st st22 ?_
  show own_Dn p e below s _ _ _ (T22.setTop (mkF m 9 #[] [(.ref o3)]))
  have eqH : T22.heap = h13 := e22
  exact own_retA X22 hx rfl hret hlk rfl rfl (hb hby va_d9) (by decide) (by decide) (by rw [eqH]; exact ⟨o3, rfl, ge15, gh16, N0, F21, A13⟩)
theorem va_ef (m : MethodId)  : entryFrame m #[] 0 = mkF m 0 #[] [] := by first | (simp [entryFrame, mkF, argsToLocals, Value.category]; done) | rfl
theorem va_rm (l : Launch) (Z : State) (a0 : Array Value) (hw : ∀ d ∈ tables_1, d.before a0 Z = true) (ws : List Jvm.Cond) (w_v : Addr) (w_r : Addr) (w_w : Addr) (w_a : Addr) (h0 : Heap) (n0 : Nat) (Z0 : n0 ≤ h0.size) (P0 : Sta Z h0 "com/example/cairnstore/cairnstore/access/Right" "$VALUES" "[Lcom/example/cairnstore/cairnstore/access/Right;" (.ref w_v)) (P1 : own_Arf Z h0 w_v (.object "com/example/cairnstore/cairnstore/access/Right") 3 (fun i => ([(.ref w_r), (.ref w_w), (.ref w_a)] : List Value).getD i .null)) (P2 : Exa Z h0 w_v "[Lcom/example/cairnstore/cairnstore/access/Right;") :
    MetFree l (⟨"com/example/cairnstore/cairnstore/access/Right", "values", "()[Lcom/example/cairnstore/cairnstore/access/Right;"⟩ : MethodName) (head1 (Jvm.Cond.code (⟨"com/example/cairnstore/cairnstore/access/Right", "values", "()[Lcom/example/cairnstore/cairnstore/access/Right;"⟩ : MethodName) prog_6_method_1_code 0 (some (.array (.object "com/example/cairnstore/cairnstore/access/Right"))) :: ws) ({ frames := 1, cells := 1, slots := 3, locals := 14 } : Room)) (fun a U => a = #[] ∧ Z.Warmed39 U.vm ∧ U.heap = h0) (fun _ _ _ _ _ => True) (fun _ U o U' => ∃ v L, o = .returned v ∧ (va_Q Z w_v w_r w_w w_a h0 n0) v U'.heap L ∧ FrameEnd U o U' L ({ frames := 1, cells := 1, slots := 3, locals := 14 } : Room).cells ({ frames := 1, cells := 1, slots := 3, locals := 14 } : Room).slots) :=
  own_met hw (plainFor_of_name (by first | (simp [plainName, overriddenIn]; done) | decide +kernel)) (fun p e s m below meth c T0 C0 X0 e0 => own_st (fun _ k => castTop (va_ef m ) k) (va_c0 C0 X0 e0 (Fr.nil n0) Z0 P0 P1 P2))
theorem of_d0 : decode prog_6_method_6_code 0 = .ok (.invokestatic 40, 3) := by decide +kernel
theorem of_d3 : decode prog_6_method_6_code 3 = .ok (.astore_n 1, 1) := by decide +kernel
theorem of_d4 : decode prog_6_method_6_code 4 = .ok (.aload_n 1, 1) := by decide +kernel
theorem of_d5 : decode prog_6_method_6_code 5 = .ok (.arraylength, 1) := by decide +kernel
theorem of_d6 : decode prog_6_method_6_code 6 = .ok (.istore_n 2, 1) := by decide +kernel
theorem of_d7 : decode prog_6_method_6_code 7 = .ok (.iconst 0, 1) := by decide +kernel
theorem of_d8 : decode prog_6_method_6_code 8 = .ok (.istore_n 3, 1) := by decide +kernel
theorem of_d9 : decode prog_6_method_6_code 9 = .ok (.iload_n 3, 1) := by decide +kernel
theorem of_d10 : decode prog_6_method_6_code 10 = .ok (.iload_n 2, 1) := by decide +kernel
theorem of_d11 : decode prog_6_method_6_code 11 = .ok (.if_icmp .ge 26, 3) := by decide +kernel
theorem of_d14 : decode prog_6_method_6_code 14 = .ok (.aload_n 1, 1) := by decide +kernel
theorem of_d15 : decode prog_6_method_6_code 15 = .ok (.iload_n 3, 1) := by decide +kernel
theorem of_d16 : decode prog_6_method_6_code 16 = .ok (.aaload, 1) := by decide +kernel
theorem of_d17 : decode prog_6_method_6_code 17 = .ok (.astore 4, 2) := by decide +kernel
theorem of_d19 : decode prog_6_method_6_code 19 = .ok (.aload 4, 2) := by decide +kernel
theorem of_d21 : decode prog_6_method_6_code 21 = .ok (.getfield 32, 3) := by decide +kernel
theorem of_d24 : decode prog_6_method_6_code 24 = .ok (.iload_n 0, 1) := by decide +kernel
theorem of_d25 : decode prog_6_method_6_code 25 = .ok (.if_icmp .ne 6, 3) := by decide +kernel
theorem of_d28 : decode prog_6_method_6_code 28 = .ok (.aload 4, 2) := by decide +kernel
theorem of_d30 : decode prog_6_method_6_code 30 = .ok (.areturn, 1) := by decide +kernel
theorem of_d31 : decode prog_6_method_6_code 31 = .ok (.iinc 3 1, 3) := by decide +kernel
theorem of_d34 : decode prog_6_method_6_code 34 = .ok (.goto (-25), 3) := by decide +kernel
theorem of_d37 : decode prog_6_method_6_code 37 = .ok (.aconst_null, 1) := by decide +kernel
theorem of_d38 : decode prog_6_method_6_code 38 = .ok (.areturn, 1) := by decide +kernel
def of_f (p0 : Int32) (w_v : Addr) (w_r : Addr) (w_w : Addr) (w_a : Addr)  : Value :=
  if (114 : Int32) = p0 then
    (.ref w_r)
  else
    if (119 : Int32) = p0 then
      (.ref w_w)
    else
      if (97 : Int32) = p0 then
        (.ref w_a)
      else
        .null
def of_Q (Z : State) (p0 : Int32) (w_v : Addr) (w_r : Addr) (w_w : Addr) (w_a : Addr) (h0 : Heap) (n0 : Nat) (v : Option Value) (h : Heap) (L : List Loc) : Prop := v = some (of_f p0 w_v w_r w_w w_a) ∧ Fr n0 L ∧ Keep h0 h []
set_option maxRecDepth 65536 in
set_option maxHeartbeats 40000000 in
theorem of_c0 {l : Launch} {Z : State} {a0 : Array Value} {p0 : Int32} {w_v : Addr} {w_r : Addr} {w_w : Addr} {w_a : Addr} {h0 : Heap} {n0 : Nat} {p : Program} {e : Env} {s : State} {m : MethodId} {args : Array Value} {below : List Frame} {meth : Method} {c : Code} {T0 : State} {locs : List Loc} (C0 : own_Cx p s m meth c Z a0 prog_6_method_6_code 5 "com/example/cairnstore/cairnstore/access/Right" "of" (some (.object "com/example/cairnstore/cairnstore/access/Right"))) (X0 : Stand p l e ({ frames := 2, cells := 1, slots := 3, locals := 25 } : Room) s m args below meth c T0 locs 0 0) (e0 : T0.heap = h0) (N0 : Fr n0 locs)  (Z0 : n0 ≤ h0.size) (P0 : Sta Z h0 "com/example/cairnstore/cairnstore/access/Right" "$VALUES" "[Lcom/example/cairnstore/cairnstore/access/Right;" (.ref w_v)) (P1 : own_Arf Z h0 w_v (.object "com/example/cairnstore/cairnstore/access/Right") 3 (fun i => ([(.ref w_r), (.ref w_w), (.ref w_a)] : List Value).getD i .null)) (P2 : Exa Z h0 w_v "[Lcom/example/cairnstore/cairnstore/access/Right;") (P3 : Fld Z h0 w_r "com/example/cairnstore/cairnstore/access/Right" "_letter" "C" (.int (114 : Int32))) (P4 : Fld Z h0 w_w "com/example/cairnstore/cairnstore/access/Right" "_letter" "C" (.int (119 : Int32))) (P5 : Fld Z h0 w_a "com/example/cairnstore/cairnstore/access/Right" "_letter" "C" (.int (97 : Int32))) :
    own_Dn p e below s (of_Q Z p0 w_v w_r w_w w_a h0 n0) ({ frames := 2, cells := 1, slots := 3, locals := 25 } : Room).cells ({ frames := 2, cells := 1, slots := 3, locals := 25 } : Room).slots (T0.setTop (mkF m 0 #[.val (.int p0), .unset, .unset, .unset, .unset] [])) := by
  obtain ⟨hx, hZ, hw, hby, hml, hown, hret, hlk, hnm⟩ := id C0
  obtain ⟨_, _, ⟨T22, L22, k22, n22⟩, -, X22, ⟨Lc22, hQ22, l22, y22, z22⟩, st22⟩ := Jvm.LawKit.callS X0 hx (y := (⟨"com/example/cairnstore/cairnstore/access/Right", "values", "()[Lcom/example/cairnstore/cairnstore/access/Right;"⟩ : MethodName)) hown (mvT hZ (hw _ (List.mem_of_getElem? (i := 6) rfl))) (mvT hZ (hw _ (List.mem_of_getElem? (i := 7) rfl))) (mvT hZ (hw _ (List.mem_of_getElem? (i := 1) rfl))) (mvT hZ (hw _ (List.mem_of_getElem? (i := 8) rfl))) (by decide) (backOf (W := 0) (va_rm l Z a0 hw [] (w_v) (w_r) (w_w) (w_a) h0 n0 Z0 P0 P1 P2) hZ (hw _ (List.mem_of_getElem? (i := 8) rfl)) (hw _ (List.mem_of_getElem? (i := 1) rfl)) (by decide) (by decide)) (g := (mkF m 0 #[.val (.int p0), .unset, .unset, .unset, .unset] [])) rfl (by rw [hml]; rfl) (argsL := []) (rest := []) (lenOf own_pd0 rfl) rfl (by show 2 * 0 + _ ≤ _; exact Nat.le_of_eq rfl) (hb hby of_d0) (fun _ _ => ⟨rfl, e0, (by decide : 0 + 1 ≤ _), (by decide : 0 + 3 ≤ _)⟩)
  dsimp only [Pt.U, Pt.locs, Pt.cells, Pt.slots] at X22 l22 y22 z22 st22 hQ22
  subst l22 y22 z22
  obtain ⟨r0, rfl, ge22, gh22, N22q, K22, G23⟩ := hQ22
  have ne24 : w_v ≠ r0 := Nat.ne_of_lt (Nat.lt_of_lt_of_le P1.lt gh22)
  have ne25 : w_r ≠ r0 := Nat.ne_of_lt (Nat.lt_of_lt_of_le P3.lt gh22)
  have ne26 : w_w ≠ r0 := Nat.ne_of_lt (Nat.lt_of_lt_of_le P4.lt gh22)
  have ne27 : w_a ≠ r0 := Nat.ne_of_lt (Nat.lt_of_lt_of_le P5.lt gh22)
  have gh28 : h0.size ≤ r0 := Nat.le_trans (Keep.refl h0 []).1 gh22
  have F29 : n0 ≤ T22.heap.size := Nat.le_trans Z0 K22.1
  have F30 : Sta Z T22.heap "com/example/cairnstore/cairnstore/access/Right" "$VALUES" "[Lcom/example/cairnstore/cairnstore/access/Right;" (.ref w_v) := own_Sta_keep0 P0 K22
  have F31 : own_Arf Z T22.heap w_v (.object "com/example/cairnstore/cairnstore/access/Right") 3 (fun i => ([(.ref w_r), (.ref w_w), (.ref w_a)] : List Value).getD i .null) := P1.keep K22 nin0
  have F32 : Exa Z T22.heap w_v "[Lcom/example/cairnstore/cairnstore/access/Right;" := P2.keep K22
  have F33 : Fld Z T22.heap w_r "com/example/cairnstore/cairnstore/access/Right" "_letter" "C" (.int (114 : Int32)) := P3.keep K22 nin0
  have F34 : Fld Z T22.heap w_w "com/example/cairnstore/cairnstore/access/Right" "_letter" "C" (.int (119 : Int32)) := P4.keep K22 nin0
  have F35 : Fld Z T22.heap w_a "com/example/cairnstore/cairnstore/access/Right" "_letter" "C" (.int (97 : Int32)) := P5.keep K22 nin0
  have F36 : Keep h0 T22.heap [] := (Keep.refl h0 []).trans K22 all0
  have N22 := Fr.app N0 N22q
  refine own_st st22 ?_
  show own_Dn p e below s _ _ _ (T22.setTop (mkF m 3 #[.val (.int p0), .unset, .unset, .unset, .unset] [(.ref r0)]))
  refine own_st (fun _ k => XS.astoreN X22.here hx rfl (hb hby of_d3) rfl rfl (l' := #[.val (.int p0), .val (.ref r0), .unset, .unset, .unset]) rfl (XS.aloadN X22.here hx rfl (hb hby of_d4) rfl rfl k)) ?_
  show own_Dn p e below s _ _ _ (T22.setTop (mkF m 5 #[.val (.int p0), .val (.ref r0), .unset, .unset, .unset] [(.ref r0)]))
  refine own_st (own_len (pc := 5) (L := #[.val (.int p0), .val (.ref r0), .unset, .unset, .unset]) (rest := []) X22 hx hZ rfl G23 (z := (3 : Int32)) rfl (hb hby of_d5)) ?_
  show own_Dn p e below s _ _ _ (T22.setTop (mkF m 6 #[.val (.int p0), .val (.ref r0), .unset, .unset, .unset] [(.int (3 : Int32))]))
  refine own_st (fun _ k => XS.istoreN X22.here hx rfl (hb hby of_d6) rfl (l' := #[.val (.int p0), .val (.ref r0), .val (.int (3 : Int32)), .unset, .unset]) rfl (XS.iconst X22.here hx rfl (hb hby of_d7) (XS.istoreN X22.here hx rfl (hb hby of_d8) rfl (l' := #[.val (.int p0), .val (.ref r0), .val (.int (3 : Int32)), .val (.int (0 : Int32)), .unset]) rfl (XS.iloadN X22.here hx rfl (hb hby of_d9) rfl (XS.iloadN X22.here hx rfl (hb hby of_d10) rfl k))))) ?_
  show own_Dn p e below s _ _ _ (T22.setTop (mkF m 11 #[.val (.int p0), .val (.ref r0), .val (.int (3 : Int32)), .val (.int (0 : Int32)), .unset] [(.int (3 : Int32)), (.int (0 : Int32))]))
  refine own_st (fun _ k => XS.icmpNo X22.here hx rfl (hb hby of_d11) rfl (tlt (by decide : (0 : Int32) < (3 : Int32))).2.1 k) ?_
  show own_Dn p e below s _ _ _ (T22.setTop (mkF m 14 #[.val (.int p0), .val (.ref r0), .val (.int (3 : Int32)), .val (.int (0 : Int32)), .unset] []))
  refine own_st (fun _ k => XS.aloadN X22.here hx rfl (hb hby of_d14) rfl rfl (XS.iloadN X22.here hx rfl (hb hby of_d15) rfl k)) ?_
  show own_Dn p e below s _ _ _ (T22.setTop (mkF m 16 #[.val (.int p0), .val (.ref r0), .val (.int (3 : Int32)), .val (.int (0 : Int32)), .unset] [(.int (0 : Int32)), (.ref r0)]))
  refine own_st (own_ldA (pc := 16) (L := #[.val (.int p0), .val (.ref r0), .val (.int (3 : Int32)), .val (.int (0 : Int32)), .unset]) (rest := []) X22 hx hZ rfl G23 rfl (j := (0 : Int32)) (by decide) (by decide) (hb hby of_d16)) ?_
  show own_Dn p e below s _ _ _ (T22.setTop (mkF m 17 #[.val (.int p0), .val (.ref r0), .val (.int (3 : Int32)), .val (.int (0 : Int32)), .unset] [(.ref w_r)]))
  refine own_st (fun _ k => XS.astore X22.here hx rfl (hb hby of_d17) rfl rfl (l' := #[.val (.int p0), .val (.ref r0), .val (.int (3 : Int32)), .val (.int (0 : Int32)), .val (.ref w_r)]) rfl (XS.aload X22.here hx rfl (hb hby of_d19) rfl rfl k)) ?_
  show own_Dn p e below s _ _ _ (T22.setTop (mkF m 21 #[.val (.int p0), .val (.ref r0), .val (.int (3 : Int32)), .val (.int (0 : Int32)), .val (.ref w_r)] [(.ref w_r)]))
  obtain ⟨T37, X37, e37, st37⟩ := getF X22 hx hZ hown (host := "") (Or.inl (hw _ (List.mem_of_getElem? (i := 23) rfl))) Via.refl rfl F33 (g := (mkF m 21 #[.val (.int p0), .val (.ref r0), .val (.int (3 : Int32)), .val (.int (0 : Int32)), .val (.ref w_r)] [(.ref w_r)])) rfl rfl (hb hby of_d21)
  refine own_st st37 ?_
  show own_Dn p e below s _ _ _ (T37.setTop (mkF m 24 #[.val (.int p0), .val (.ref r0), .val (.int (3 : Int32)), .val (.int (0 : Int32)), .val (.ref w_r)] [(.int (114 : Int32))]))
  refine own_st (fun _ k => XS.iloadN X37.here hx rfl (hb hby of_d24) rfl k) ?_
  show own_Dn p e below s _ _ _ (T37.setTop (mkF m 25 #[.val (.int p0), .val (.ref r0), .val (.int (3 : Int32)), .val (.int (0 : Int32)), .val (.ref w_r)] [(.int p0), (.int (114 : Int32))]))
  by_cases hc38 : (114 : Int32) = p0
  · refine own_st (fun _ k => XS.icmpNo X37.here hx rfl (hb hby of_d25) rfl (teq hc38).2 k) ?_
    show own_Dn p e below s _ _ _ (T37.setTop (mkF m 28 #[.val (.int p0), .val (.ref r0), .val (.int (3 : Int32)), .val (.int (0 : Int32)), .val (.ref w_r)] []))
    refine own_st (fun _ k => XS.aload X37.here hx rfl (hb hby of_d28) rfl rfl k) ?_
    show own_Dn p e below s _ _ _ (T37.setTop (mkF m 30 #[.val (.int p0), .val (.ref r0), .val (.int (3 : Int32)), .val (.int (0 : Int32)), .val (.ref w_r)] [(.ref w_r)]))
    have eqH : T37.heap = T22.heap := e37
    exact own_retA X37 hx rfl hret hlk rfl rfl (hb hby of_d30) (by decide) (by decide) (by rw [eqH]; exact ⟨(by rw [of_f, if_pos hc38]), N22, F36⟩)
  · refine own_st (fun _ k => XS.icmpYes X37.here hx rfl (pc0 := 25) (pc' := 31) rfl (hb hby of_d25) rfl (feq hc38).2 (by decide) (by decide) k) ?_
    show own_Dn p e below s _ _ _ (T37.setTop (mkF m 31 #[.val (.int p0), .val (.ref r0), .val (.int (3 : Int32)), .val (.int (0 : Int32)), .val (.ref w_r)] []))
    refine own_st (fun _ k => XS.iinc X37.here hx rfl (hb hby of_d31) rfl (l' := #[.val (.int p0), .val (.ref r0), .val (.int (3 : Int32)), .val (.int (1 : Int32)), .val (.ref w_r)]) rfl (XS.goto X37.here hx rfl (pc0 := 34) (pc' := 9) rfl (hb hby of_d34) (by decide) (by decide) (XS.iloadN X37.here hx rfl (hb hby of_d9) rfl (XS.iloadN X37.here hx rfl (hb hby of_d10) rfl k)))) ?_
    show own_Dn p e below s _ _ _ (T37.setTop (mkF m 11 #[.val (.int p0), .val (.ref r0), .val (.int (3 : Int32)), .val (.int (1 : Int32)), .val (.ref w_r)] [(.int (3 : Int32)), (.int (1 : Int32))]))
    refine own_st (fun _ k => XS.icmpNo X37.here hx rfl (hb hby of_d11) rfl (tlt (by decide : (1 : Int32) < (3 : Int32))).2.1 k) ?_
    show own_Dn p e below s _ _ _ (T37.setTop (mkF m 14 #[.val (.int p0), .val (.ref r0), .val (.int (3 : Int32)), .val (.int (1 : Int32)), .val (.ref w_r)] []))
    refine own_st (fun _ k => XS.aloadN X37.here hx rfl (hb hby of_d14) rfl rfl (XS.iloadN X37.here hx rfl (hb hby of_d15) rfl k)) ?_
    show own_Dn p e below s _ _ _ (T37.setTop (mkF m 16 #[.val (.int p0), .val (.ref r0), .val (.int (3 : Int32)), .val (.int (1 : Int32)), .val (.ref w_r)] [(.int (1 : Int32)), (.ref r0)]))
    refine own_st (own_ldA (pc := 16) (L := #[.val (.int p0), .val (.ref r0), .val (.int (3 : Int32)), .val (.int (1 : Int32)), .val (.ref w_r)]) (rest := []) X37 hx hZ e37 G23 rfl (j := (1 : Int32)) (by decide) (by decide) (hb hby of_d16)) ?_
    show own_Dn p e below s _ _ _ (T37.setTop (mkF m 17 #[.val (.int p0), .val (.ref r0), .val (.int (3 : Int32)), .val (.int (1 : Int32)), .val (.ref w_r)] [(.ref w_w)]))
    refine own_st (fun _ k => XS.astore X37.here hx rfl (hb hby of_d17) rfl rfl (l' := #[.val (.int p0), .val (.ref r0), .val (.int (3 : Int32)), .val (.int (1 : Int32)), .val (.ref w_w)]) rfl (XS.aload X37.here hx rfl (hb hby of_d19) rfl rfl k)) ?_
    show own_Dn p e below s _ _ _ (T37.setTop (mkF m 21 #[.val (.int p0), .val (.ref r0), .val (.int (3 : Int32)), .val (.int (1 : Int32)), .val (.ref w_w)] [(.ref w_w)]))
    obtain ⟨T39, X39, e39, st39⟩ := getF X37 hx hZ hown (host := "") (Or.inl (hw _ (List.mem_of_getElem? (i := 23) rfl))) Via.refl e37 F34 (g := (mkF m 21 #[.val (.int p0), .val (.ref r0), .val (.int (3 : Int32)), .val (.int (1 : Int32)), .val (.ref w_w)] [(.ref w_w)])) rfl rfl (hb hby of_d21)
    refine own_st st39 ?_
    show own_Dn p e below s _ _ _ (T39.setTop (mkF m 24 #[.val (.int p0), .val (.ref r0), .val (.int (3 : Int32)), .val (.int (1 : Int32)), .val (.ref w_w)] [(.int (119 : Int32))]))
    refine own_st (fun _ k => XS.iloadN X39.here hx rfl (hb hby of_d24) rfl k) ?_
    show own_Dn p e below s _ _ _ (T39.setTop (mkF m 25 #[.val (.int p0), .val (.ref r0), .val (.int (3 : Int32)), .val (.int (1 : Int32)), .val (.ref w_w)] [(.int p0), (.int (119 : Int32))]))
    by_cases hc40 : (119 : Int32) = p0
    · refine own_st (fun _ k => XS.icmpNo X39.here hx rfl (hb hby of_d25) rfl (teq hc40).2 k) ?_
      show own_Dn p e below s _ _ _ (T39.setTop (mkF m 28 #[.val (.int p0), .val (.ref r0), .val (.int (3 : Int32)), .val (.int (1 : Int32)), .val (.ref w_w)] []))
      refine own_st (fun _ k => XS.aload X39.here hx rfl (hb hby of_d28) rfl rfl k) ?_
      show own_Dn p e below s _ _ _ (T39.setTop (mkF m 30 #[.val (.int p0), .val (.ref r0), .val (.int (3 : Int32)), .val (.int (1 : Int32)), .val (.ref w_w)] [(.ref w_w)]))
      have eqH : T39.heap = T22.heap := e39
      exact own_retA X39 hx rfl hret hlk rfl rfl (hb hby of_d30) (by decide) (by decide) (by rw [eqH]; exact ⟨(by rw [of_f, if_neg hc38, if_pos hc40]), N22, F36⟩)
    · refine own_st (fun _ k => XS.icmpYes X39.here hx rfl (pc0 := 25) (pc' := 31) rfl (hb hby of_d25) rfl (feq hc40).2 (by decide) (by decide) k) ?_
      show own_Dn p e below s _ _ _ (T39.setTop (mkF m 31 #[.val (.int p0), .val (.ref r0), .val (.int (3 : Int32)), .val (.int (1 : Int32)), .val (.ref w_w)] []))
      refine own_st (fun _ k => XS.iinc X39.here hx rfl (hb hby of_d31) rfl (l' := #[.val (.int p0), .val (.ref r0), .val (.int (3 : Int32)), .val (.int (2 : Int32)), .val (.ref w_w)]) rfl (XS.goto X39.here hx rfl (pc0 := 34) (pc' := 9) rfl (hb hby of_d34) (by decide) (by decide) (XS.iloadN X39.here hx rfl (hb hby of_d9) rfl (XS.iloadN X39.here hx rfl (hb hby of_d10) rfl k)))) ?_
      show own_Dn p e below s _ _ _ (T39.setTop (mkF m 11 #[.val (.int p0), .val (.ref r0), .val (.int (3 : Int32)), .val (.int (2 : Int32)), .val (.ref w_w)] [(.int (3 : Int32)), (.int (2 : Int32))]))
      refine own_st (fun _ k => XS.icmpNo X39.here hx rfl (hb hby of_d11) rfl (tlt (by decide : (2 : Int32) < (3 : Int32))).2.1 k) ?_
      show own_Dn p e below s _ _ _ (T39.setTop (mkF m 14 #[.val (.int p0), .val (.ref r0), .val (.int (3 : Int32)), .val (.int (2 : Int32)), .val (.ref w_w)] []))
      refine own_st (fun _ k => XS.aloadN X39.here hx rfl (hb hby of_d14) rfl rfl (XS.iloadN X39.here hx rfl (hb hby of_d15) rfl k)) ?_
      show own_Dn p e below s _ _ _ (T39.setTop (mkF m 16 #[.val (.int p0), .val (.ref r0), .val (.int (3 : Int32)), .val (.int (2 : Int32)), .val (.ref w_w)] [(.int (2 : Int32)), (.ref r0)]))
      refine own_st (own_ldA (pc := 16) (L := #[.val (.int p0), .val (.ref r0), .val (.int (3 : Int32)), .val (.int (2 : Int32)), .val (.ref w_w)]) (rest := []) X39 hx hZ e39 G23 rfl (j := (2 : Int32)) (by decide) (by decide) (hb hby of_d16)) ?_
      show own_Dn p e below s _ _ _ (T39.setTop (mkF m 17 #[.val (.int p0), .val (.ref r0), .val (.int (3 : Int32)), .val (.int (2 : Int32)), .val (.ref w_w)] [(.ref w_a)]))
      refine own_st (fun _ k => XS.astore X39.here hx rfl (hb hby of_d17) rfl rfl (l' := #[.val (.int p0), .val (.ref r0), .val (.int (3 : Int32)), .val (.int (2 : Int32)), .val (.ref w_a)]) rfl (XS.aload X39.here hx rfl (hb hby of_d19) rfl rfl k)) ?_
      show own_Dn p e below s _ _ _ (T39.setTop (mkF m 21 #[.val (.int p0), .val (.ref r0), .val (.int (3 : Int32)), .val (.int (2 : Int32)), .val (.ref w_a)] [(.ref w_a)]))
      obtain ⟨T41, X41, e41, st41⟩ := getF X39 hx hZ hown (host := "") (Or.inl (hw _ (List.mem_of_getElem? (i := 23) rfl))) Via.refl e39 F35 (g := (mkF m 21 #[.val (.int p0), .val (.ref r0), .val (.int (3 : Int32)), .val (.int (2 : Int32)), .val (.ref w_a)] [(.ref w_a)])) rfl rfl (hb hby of_d21)
      refine own_st st41 ?_
      show own_Dn p e below s _ _ _ (T41.setTop (mkF m 24 #[.val (.int p0), .val (.ref r0), .val (.int (3 : Int32)), .val (.int (2 : Int32)), .val (.ref w_a)] [(.int (97 : Int32))]))
      refine own_st (fun _ k => XS.iloadN X41.here hx rfl (hb hby of_d24) rfl k) ?_
      show own_Dn p e below s _ _ _ (T41.setTop (mkF m 25 #[.val (.int p0), .val (.ref r0), .val (.int (3 : Int32)), .val (.int (2 : Int32)), .val (.ref w_a)] [(.int p0), (.int (97 : Int32))]))
      by_cases hc42 : (97 : Int32) = p0
      · refine own_st (fun _ k => XS.icmpNo X41.here hx rfl (hb hby of_d25) rfl (teq hc42).2 k) ?_
        show own_Dn p e below s _ _ _ (T41.setTop (mkF m 28 #[.val (.int p0), .val (.ref r0), .val (.int (3 : Int32)), .val (.int (2 : Int32)), .val (.ref w_a)] []))
        refine own_st (fun _ k => XS.aload X41.here hx rfl (hb hby of_d28) rfl rfl k) ?_
        show own_Dn p e below s _ _ _ (T41.setTop (mkF m 30 #[.val (.int p0), .val (.ref r0), .val (.int (3 : Int32)), .val (.int (2 : Int32)), .val (.ref w_a)] [(.ref w_a)]))
        have eqH : T41.heap = T22.heap := e41
        exact own_retA X41 hx rfl hret hlk rfl rfl (hb hby of_d30) (by decide) (by decide) (by rw [eqH]; exact ⟨(by rw [of_f, if_neg hc38, if_neg hc40, if_pos hc42]), N22, F36⟩)
      · refine own_st (fun _ k => XS.icmpYes X41.here hx rfl (pc0 := 25) (pc' := 31) rfl (hb hby of_d25) rfl (feq hc42).2 (by decide) (by decide) k) ?_
        show own_Dn p e below s _ _ _ (T41.setTop (mkF m 31 #[.val (.int p0), .val (.ref r0), .val (.int (3 : Int32)), .val (.int (2 : Int32)), .val (.ref w_a)] []))
        refine own_st (fun _ k => XS.iinc X41.here hx rfl (hb hby of_d31) rfl (l' := #[.val (.int p0), .val (.ref r0), .val (.int (3 : Int32)), .val (.int (3 : Int32)), .val (.ref w_a)]) rfl (XS.goto X41.here hx rfl (pc0 := 34) (pc' := 9) rfl (hb hby of_d34) (by decide) (by decide) (XS.iloadN X41.here hx rfl (hb hby of_d9) rfl (XS.iloadN X41.here hx rfl (hb hby of_d10) rfl k)))) ?_
        show own_Dn p e below s _ _ _ (T41.setTop (mkF m 11 #[.val (.int p0), .val (.ref r0), .val (.int (3 : Int32)), .val (.int (3 : Int32)), .val (.ref w_a)] [(.int (3 : Int32)), (.int (3 : Int32))]))
        refine own_st (fun _ k => XS.icmpYes X41.here hx rfl (pc0 := 11) (pc' := 37) rfl (hb hby of_d11) rfl (flt (by decide : ¬ ((3 : Int32) < (3 : Int32)))).2.1 (by decide) (by decide) k) ?_
        show own_Dn p e below s _ _ _ (T41.setTop (mkF m 37 #[.val (.int p0), .val (.ref r0), .val (.int (3 : Int32)), .val (.int (3 : Int32)), .val (.ref w_a)] []))
        refine own_st (fun _ k => XS.aconstNull X41.here hx rfl (hb hby of_d37) k) ?_
        show own_Dn p e below s _ _ _ (T41.setTop (mkF m 38 #[.val (.int p0), .val (.ref r0), .val (.int (3 : Int32)), .val (.int (3 : Int32)), .val (.ref w_a)] [.null]))
        have eqH : T41.heap = T22.heap := e41
        exact own_retA X41 hx rfl hret hlk rfl rfl (hb hby of_d38) (by decide) (by decide) (by rw [eqH]; exact ⟨(by rw [of_f, if_neg hc38, if_neg hc40, if_neg hc42]), N22, F36⟩)
theorem of_ir (p0 : Int32) (w_v : Addr) (w_r : Addr) (w_w : Addr) (w_a : Addr) : Value.isRef (of_f p0 w_v w_r w_w w_a) = true := by
  simp only [of_f]
  repeat' split
  all_goals rfl
theorem of_ef (m : MethodId) (p0 : Int32) : entryFrame m #[(.int p0)] 5 = mkF m 0 #[.val (.int p0), .unset, .unset, .unset, .unset] [] := by first | (simp [entryFrame, mkF, argsToLocals, Value.category]; done) | rfl
theorem of_rm (l : Launch) (Z : State) (a0 : Array Value) (hw : ∀ d ∈ tables_1, d.before a0 Z = true) (ws : List Jvm.Cond) (p0 : Int32) (w_v : Addr) (w_r : Addr) (w_w : Addr) (w_a : Addr) (h0 : Heap) (n0 : Nat) (Z0 : n0 ≤ h0.size) (P0 : Sta Z h0 "com/example/cairnstore/cairnstore/access/Right" "$VALUES" "[Lcom/example/cairnstore/cairnstore/access/Right;" (.ref w_v)) (P1 : own_Arf Z h0 w_v (.object "com/example/cairnstore/cairnstore/access/Right") 3 (fun i => ([(.ref w_r), (.ref w_w), (.ref w_a)] : List Value).getD i .null)) (P2 : Exa Z h0 w_v "[Lcom/example/cairnstore/cairnstore/access/Right;") (P3 : Fld Z h0 w_r "com/example/cairnstore/cairnstore/access/Right" "_letter" "C" (.int (114 : Int32))) (P4 : Fld Z h0 w_w "com/example/cairnstore/cairnstore/access/Right" "_letter" "C" (.int (119 : Int32))) (P5 : Fld Z h0 w_a "com/example/cairnstore/cairnstore/access/Right" "_letter" "C" (.int (97 : Int32))) :
    MetFree l (⟨"com/example/cairnstore/cairnstore/access/Right", "of", "(C)Lcom/example/cairnstore/cairnstore/access/Right;"⟩ : MethodName) (head1 (Jvm.Cond.code (⟨"com/example/cairnstore/cairnstore/access/Right", "of", "(C)Lcom/example/cairnstore/cairnstore/access/Right;"⟩ : MethodName) prog_6_method_6_code 5 (some (.object "com/example/cairnstore/cairnstore/access/Right")) :: ws) ({ frames := 2, cells := 1, slots := 3, locals := 25 } : Room)) (fun a U => a = #[(.int p0)] ∧ Z.Warmed39 U.vm ∧ U.heap = h0) (fun _ _ _ _ _ => True) (fun _ U o U' => ∃ v L, o = .returned v ∧ (of_Q Z p0 w_v w_r w_w w_a h0 n0) v U'.heap L ∧ FrameEnd U o U' L ({ frames := 2, cells := 1, slots := 3, locals := 25 } : Room).cells ({ frames := 2, cells := 1, slots := 3, locals := 25 } : Room).slots) :=
  own_met hw (plainFor_of_name (by first | (simp [plainName, overriddenIn]; done) | decide +kernel)) (fun p e s m below meth c T0 C0 X0 e0 => own_st (fun _ k => castTop (of_ef m p0) k) (of_c0 C0 X0 e0 (Fr.nil n0) Z0 P0 P1 P2 P3 P4 P5))
theorem lw_d0 : decode code 0 = .ok (.iload_n 0, 1) := by decide +kernel
theorem lw_d1 : decode code 1 = .ok (.iconst 3, 1) := by decide +kernel
theorem lw_d2 : decode code 2 = .ok (.iand, 1) := by decide +kernel
theorem lw_d3 : decode code 3 = .ok (.istore_n 2, 1) := by decide +kernel
theorem lw_d4 : decode code 4 = .ok (.iload_n 2, 1) := by decide +kernel
theorem lw_d5 : decode code 5 = .ok (.ifCond .ne 9, 3) := by decide +kernel
theorem lw_d8 : decode code 8 = .ok (.bipush 114, 2) := by decide +kernel
theorem lw_d10 : decode code 10 = .ok (.istore_n 3, 1) := by decide +kernel
theorem lw_d11 : decode code 11 = .ok (.goto 31, 3) := by decide +kernel
theorem lw_d14 : decode code 14 = .ok (.iload_n 2, 1) := by decide +kernel
theorem lw_d15 : decode code 15 = .ok (.iconst 1, 1) := by decide +kernel
theorem lw_d16 : decode code 16 = .ok (.if_icmp .ne 9, 3) := by decide +kernel
theorem lw_d19 : decode code 19 = .ok (.bipush 119, 2) := by decide +kernel
theorem lw_d21 : decode code 21 = .ok (.istore_n 3, 1) := by decide +kernel
theorem lw_d22 : decode code 22 = .ok (.goto 20, 3) := by decide +kernel
theorem lw_d25 : decode code 25 = .ok (.iload_n 2, 1) := by decide +kernel
theorem lw_d26 : decode code 26 = .ok (.iconst 2, 1) := by decide +kernel
theorem lw_d27 : decode code 27 = .ok (.if_icmp .ne 9, 3) := by decide +kernel
theorem lw_d30 : decode code 30 = .ok (.bipush 97, 2) := by decide +kernel
theorem lw_d32 : decode code 32 = .ok (.istore_n 3, 1) := by decide +kernel
theorem lw_d33 : decode code 33 = .ok (.goto 9, 3) := by decide +kernel
theorem lw_d36 : decode code 36 = .ok (.iload_n 1, 1) := by decide +kernel
theorem lw_d37 : decode code 37 = .ok (.ldc 7, 2) := by decide +kernel
theorem lw_d39 : decode code 39 = .ok (.iand, 1) := by decide +kernel
theorem lw_d40 : decode code 40 = .ok (.i2c, 1) := by decide +kernel
theorem lw_d41 : decode code 41 = .ok (.istore_n 3, 1) := by decide +kernel
theorem lw_d42 : decode code 42 = .ok (.iload_n 3, 1) := by decide +kernel
theorem lw_d43 : decode code 43 = .ok (.bipush 114, 2) := by decide +kernel
theorem lw_d45 : decode code 45 = .ok (.if_icmp .ne 11, 3) := by decide +kernel
theorem lw_d48 : decode code 48 = .ok (.getstatic 8, 3) := by decide +kernel
theorem lw_d51 : decode code 51 = .ok (.astore 4, 2) := by decide +kernel
theorem lw_d53 : decode code 53 = .ok (.goto 34, 3) := by decide +kernel
theorem lw_d56 : decode code 56 = .ok (.iload_n 3, 1) := by decide +kernel
theorem lw_d57 : decode code 57 = .ok (.bipush 119, 2) := by decide +kernel
theorem lw_d59 : decode code 59 = .ok (.if_icmp .ne 11, 3) := by decide +kernel
theorem lw_d62 : decode code 62 = .ok (.getstatic 14, 3) := by decide +kernel
theorem lw_d65 : decode code 65 = .ok (.astore 4, 2) := by decide +kernel
theorem lw_d67 : decode code 67 = .ok (.goto 20, 3) := by decide +kernel
theorem lw_d70 : decode code 70 = .ok (.iload_n 3, 1) := by decide +kernel
theorem lw_d71 : decode code 71 = .ok (.bipush 97, 2) := by decide +kernel
theorem lw_d73 : decode code 73 = .ok (.if_icmp .ne 11, 3) := by decide +kernel
theorem lw_d76 : decode code 76 = .ok (.getstatic 17, 3) := by decide +kernel
theorem lw_d79 : decode code 79 = .ok (.astore 4, 2) := by decide +kernel
theorem lw_d81 : decode code 81 = .ok (.goto 6, 3) := by decide +kernel
theorem lw_d84 : decode code 84 = .ok (.aconst_null, 1) := by decide +kernel
theorem lw_d85 : decode code 85 = .ok (.astore 4, 2) := by decide +kernel
theorem lw_d87 : decode code 87 = .ok (.iload_n 3, 1) := by decide +kernel
theorem lw_d88 : decode code 88 = .ok (.invokestatic 20, 3) := by decide +kernel
theorem lw_d91 : decode code 91 = .ok (.astore 5, 2) := by decide +kernel
theorem lw_d93 : decode code 93 = .ok (.aload 5, 2) := by decide +kernel
theorem lw_d95 : decode code 95 = .ok (.aload 4, 2) := by decide +kernel
theorem lw_d97 : decode code 97 = .ok (.if_acmp .ne 7, 3) := by decide +kernel
theorem lw_d100 : decode code 100 = .ok (.iconst 1, 1) := by decide +kernel
theorem lw_d101 : decode code 101 = .ok (.goto 4, 3) := by decide +kernel
theorem lw_d104 : decode code 104 = .ok (.iconst 0, 1) := by decide +kernel
theorem lw_d105 : decode code 105 = .ok (.ireturn, 1) := by decide +kernel
def lw_f42 (p0 : Int32) (p1 : Int32) (w_v : Addr) (w_r : Addr) (w_w : Addr) (w_a : Addr) (v2 : Int32) (v3 : Int32) : Int32 :=
  if v3 = (114 : Int32) then
    if (of_f v3 w_v w_r w_w w_a) = (.ref w_r) then
      (1 : Int32)
    else
      (0 : Int32)
  else
    if v3 = (119 : Int32) then
      if (of_f v3 w_v w_r w_w w_a) = (.ref w_w) then
        (1 : Int32)
      else
        (0 : Int32)
    else
      if v3 = (97 : Int32) then
        if (of_f v3 w_v w_r w_w w_a) = (.ref w_a) then
          (1 : Int32)
        else
          (0 : Int32)
      else
        if (of_f v3 w_v w_r w_w w_a) = .null then
          (1 : Int32)
        else
          (0 : Int32)
set_option maxRecDepth 65536 in
set_option maxHeartbeats 40000000 in
theorem lw_c42 {l : Launch} {Z : State} {a0 : Array Value} {p0 : Int32} {p1 : Int32} {w_v : Addr} {w_r : Addr} {w_w : Addr} {w_a : Addr} {h0 : Heap} {n0 : Nat} {p : Program} {e : Env} {s : State} {m : MethodId} {args : Array Value} {below : List Frame} {meth : Method} {c : Code} {T0 : State} {locs : List Loc} {r0 : Int32} (C0 : own_Cx p s m meth c Z a0 code 6 "com/example/cairnstore/cairnstore/access/RightOfPinLaw" "law" (some .boolean)) (X0 : Stand p l e room_1 s m args below meth c T0 locs 0 0) (e0 : T0.heap = h0) (N0 : Fr n0 locs) (v2 : Int32) (v3 : Int32) (Z0 : n0 ≤ h0.size) (P1 : Sta Z h0 "com/example/cairnstore/cairnstore/access/Right" "$VALUES" "[Lcom/example/cairnstore/cairnstore/access/Right;" (.ref w_v)) (P2 : own_Arf Z h0 w_v (.object "com/example/cairnstore/cairnstore/access/Right") 3 (fun i => ([(.ref w_r), (.ref w_w), (.ref w_a)] : List Value).getD i .null)) (P3 : Exa Z h0 w_v "[Lcom/example/cairnstore/cairnstore/access/Right;") (P4 : Fld Z h0 w_r "com/example/cairnstore/cairnstore/access/Right" "_letter" "C" (.int (114 : Int32))) (P5 : Fld Z h0 w_w "com/example/cairnstore/cairnstore/access/Right" "_letter" "C" (.int (119 : Int32))) (P6 : Fld Z h0 w_a "com/example/cairnstore/cairnstore/access/Right" "_letter" "C" (.int (97 : Int32))) (P7 : Sta Z h0 "com/example/cairnstore/cairnstore/access/Right" "READ" "Lcom/example/cairnstore/cairnstore/access/Right;" (.ref w_r)) (P8 : Sta Z h0 "com/example/cairnstore/cairnstore/access/Right" "WRITE" "Lcom/example/cairnstore/cairnstore/access/Right;" (.ref w_w)) (P9 : Sta Z h0 "com/example/cairnstore/cairnstore/access/Right" "ADMIN" "Lcom/example/cairnstore/cairnstore/access/Right;" (.ref w_a)) (hr0 : r0 = lw_f42 p0 p1 w_v w_r w_w w_a v2 v3) :
    own_Dn p e below s (own_QL (some (.int r0)) n0) room_1.cells room_1.slots (T0.setTop (mkF m 42 #[.val (.int p0), .val (.int p1), .val (.int v2), .val (.int v3), .unset, .unset] [])) := by
  obtain ⟨hx, hZ, hw, hby, hml, hown, hret, hlk, hnm⟩ := id C0
  refine own_st (fun _ k => XS.iloadN X0.here hx rfl (hb hby lw_d42) rfl (XS.bipush X0.here hx rfl (hb hby lw_d43) k)) ?_
  show own_Dn p e below s _ _ _ (T0.setTop (mkF m 45 #[.val (.int p0), .val (.int p1), .val (.int v2), .val (.int v3), .unset, .unset] [(.int (114 : Int32)), (.int v3)]))
  by_cases hc61 : v3 = (114 : Int32)
  · refine own_st (fun _ k => XS.icmpNo X0.here hx rfl (hb hby lw_d45) rfl (teq hc61).2 k) ?_
    show own_Dn p e below s _ _ _ (T0.setTop (mkF m 48 #[.val (.int p0), .val (.int p1), .val (.int v2), .val (.int v3), .unset, .unset] []))
    obtain ⟨T62, X62, e62, st62⟩ := getS2 X0 hx hZ hown (host := "") (Or.inl (hw _ (List.mem_of_getElem? (i := 0) rfl))) Via.refl e0 P7 (g := (mkF m 48 #[.val (.int p0), .val (.int p1), .val (.int v2), .val (.int v3), .unset, .unset] [])) rfl (hb hby lw_d48)
    refine own_st st62 ?_
    show own_Dn p e below s _ _ _ (T62.setTop (mkF m 51 #[.val (.int p0), .val (.int p1), .val (.int v2), .val (.int v3), .unset, .unset] [(.ref w_r)]))
    refine own_st (fun _ k => XS.astore X62.here hx rfl (hb hby lw_d51) rfl rfl (l' := #[.val (.int p0), .val (.int p1), .val (.int v2), .val (.int v3), .val (.ref w_r), .unset]) rfl (XS.goto X62.here hx rfl (pc0 := 53) (pc' := 87) rfl (hb hby lw_d53) (by decide) (by decide) (XS.iloadN X62.here hx rfl (hb hby lw_d87) rfl k))) ?_
    show own_Dn p e below s _ _ _ (T62.setTop (mkF m 88 #[.val (.int p0), .val (.int p1), .val (.int v2), .val (.int v3), .val (.ref w_r), .unset] [(.int v3)]))
    obtain ⟨_, _, ⟨T63, L63, k63, n63⟩, -, X63, ⟨Lc63, hQ63, l63, y63, z63⟩, st63⟩ := Jvm.LawKit.callS X62 hx (y := (⟨"com/example/cairnstore/cairnstore/access/Right", "of", "(C)Lcom/example/cairnstore/cairnstore/access/Right;"⟩ : MethodName)) hown (mvT hZ (hw _ (List.mem_of_getElem? (i := 3) rfl))) (mvT hZ (hw _ (List.mem_of_getElem? (i := 4) rfl))) (mvT hZ (hw _ (List.mem_of_getElem? (i := 1) rfl))) (mvT hZ (hw _ (List.mem_of_getElem? (i := 5) rfl))) (by decide) (backOf (W := 0) (of_rm l Z a0 hw [] (v3) (w_v) (w_r) (w_w) (w_a) h0 n0 Z0 P1 P2 P3 P4 P5 P6) hZ (hw _ (List.mem_of_getElem? (i := 5) rfl)) (hw _ (List.mem_of_getElem? (i := 1) rfl)) (by decide) (by decide)) (g := (mkF m 88 #[.val (.int p0), .val (.int p1), .val (.int v2), .val (.int v3), .val (.ref w_r), .unset] [(.int v3)])) rfl (by rw [hml]; rfl) (argsL := [(.int v3)]) (rest := []) (lenOf own_pd1 rfl) rfl (by show 2 * 0 + _ ≤ _; exact Nat.le_of_eq rfl) (hb hby lw_d88) (fun _ _ => ⟨rfl, e62, (by decide : 0 + 1 ≤ _), (by decide : 0 + 3 ≤ _)⟩)
    dsimp only [Pt.U, Pt.locs, Pt.cells, Pt.slots] at X63 l63 y63 z63 st63 hQ63
    subst l63 y63 z63
    obtain ⟨rfl, N63q, K63⟩ := hQ63
    have F64 : n0 ≤ T63.heap.size := Nat.le_trans Z0 K63.1
    have F65 : Sta Z T63.heap "com/example/cairnstore/cairnstore/access/Right" "$VALUES" "[Lcom/example/cairnstore/cairnstore/access/Right;" (.ref w_v) := own_Sta_keep0 P1 K63
    have F66 : own_Arf Z T63.heap w_v (.object "com/example/cairnstore/cairnstore/access/Right") 3 (fun i => ([(.ref w_r), (.ref w_w), (.ref w_a)] : List Value).getD i .null) := P2.keep K63 nin0
    have F67 : Exa Z T63.heap w_v "[Lcom/example/cairnstore/cairnstore/access/Right;" := P3.keep K63
    have F68 : Fld Z T63.heap w_r "com/example/cairnstore/cairnstore/access/Right" "_letter" "C" (.int (114 : Int32)) := P4.keep K63 nin0
    have F69 : Fld Z T63.heap w_w "com/example/cairnstore/cairnstore/access/Right" "_letter" "C" (.int (119 : Int32)) := P5.keep K63 nin0
    have F70 : Fld Z T63.heap w_a "com/example/cairnstore/cairnstore/access/Right" "_letter" "C" (.int (97 : Int32)) := P6.keep K63 nin0
    have F71 : Sta Z T63.heap "com/example/cairnstore/cairnstore/access/Right" "READ" "Lcom/example/cairnstore/cairnstore/access/Right;" (.ref w_r) := own_Sta_keep0 P7 K63
    have F72 : Sta Z T63.heap "com/example/cairnstore/cairnstore/access/Right" "WRITE" "Lcom/example/cairnstore/cairnstore/access/Right;" (.ref w_w) := own_Sta_keep0 P8 K63
    have F73 : Sta Z T63.heap "com/example/cairnstore/cairnstore/access/Right" "ADMIN" "Lcom/example/cairnstore/cairnstore/access/Right;" (.ref w_a) := own_Sta_keep0 P9 K63
    have N63 := Fr.app N0 N63q
    refine own_st st63 ?_
    have ir63 : Value.isRef (of_f v3 w_v w_r w_w w_a) = true := of_ir v3 w_v w_r w_w w_a
    show own_Dn p e below s _ _ _ (T63.setTop (mkF m 91 #[.val (.int p0), .val (.int p1), .val (.int v2), .val (.int v3), .val (.ref w_r), .unset] [(of_f v3 w_v w_r w_w w_a)]))
    refine own_st (fun _ k => XS.astore X63.here hx rfl (hb hby lw_d91) rfl ir63 (l' := #[.val (.int p0), .val (.int p1), .val (.int v2), .val (.int v3), .val (.ref w_r), .val (of_f v3 w_v w_r w_w w_a)]) (XS.store1 rfl One.u (own_cat ir63)) (XS.aload X63.here hx rfl (hb hby lw_d93) rfl ir63 (XS.aload X63.here hx rfl (hb hby lw_d95) rfl rfl k))) ?_
    show own_Dn p e below s _ _ _ (T63.setTop (mkF m 97 #[.val (.int p0), .val (.int p1), .val (.int v2), .val (.int v3), .val (.ref w_r), .val (of_f v3 w_v w_r w_w w_a)] [(.ref w_r), (of_f v3 w_v w_r w_w w_a)]))
    by_cases hc74 : (of_f v3 w_v w_r w_w w_a) = (.ref w_r)
    · refine own_st (fun _ k => Jvm.RoadKit.acmp (g := (mkF m 97 #[.val (.int p0), .val (.int p1), .val (.int v2), .val (.int v3), .val (.ref w_r), .val (of_f v3 w_v w_r w_w w_a)] [(.ref w_r), (of_f v3 w_v w_r w_w w_a)])) X63 hx rfl ir63 rfl (pc0 := 97) (pc' := 100) (same := true) rfl (hb hby lw_d97) rfl (decide_eq_true hc74) (by decide) (by decide) k) ?_
      show own_Dn p e below s _ _ _ (T63.setTop (mkF m 100 #[.val (.int p0), .val (.int p1), .val (.int v2), .val (.int v3), .val (.ref w_r), .val (of_f v3 w_v w_r w_w w_a)] []))
      refine own_st (fun _ k => XS.iconst X63.here hx rfl (hb hby lw_d100) (XS.goto X63.here hx rfl (pc0 := 101) (pc' := 105) rfl (hb hby lw_d101) (by decide) (by decide) k)) ?_
      show own_Dn p e below s _ _ _ (T63.setTop (mkF m 105 #[.val (.int p0), .val (.int p1), .val (.int v2), .val (.int v3), .val (.ref w_r), .val (of_f v3 w_v w_r w_w w_a)] [(.int (1 : Int32))]))
      exact own_retZ X63 hx hret hlk (by decide) (hb hby lw_d105) (by decide) (by decide) ⟨(by rw [hr0, lw_f42, if_pos hc61, if_pos hc74]), N63⟩
    · refine own_st (fun _ k => Jvm.RoadKit.acmp (g := (mkF m 97 #[.val (.int p0), .val (.int p1), .val (.int v2), .val (.int v3), .val (.ref w_r), .val (of_f v3 w_v w_r w_w w_a)] [(.ref w_r), (of_f v3 w_v w_r w_w w_a)])) X63 hx rfl ir63 rfl (pc0 := 97) (pc' := 104) (same := false) rfl (hb hby lw_d97) rfl (decide_eq_false hc74) (by decide) (by decide) k) ?_
      show own_Dn p e below s _ _ _ (T63.setTop (mkF m 104 #[.val (.int p0), .val (.int p1), .val (.int v2), .val (.int v3), .val (.ref w_r), .val (of_f v3 w_v w_r w_w w_a)] []))
      refine own_st (fun _ k => XS.iconst X63.here hx rfl (hb hby lw_d104) k) ?_
      show own_Dn p e below s _ _ _ (T63.setTop (mkF m 105 #[.val (.int p0), .val (.int p1), .val (.int v2), .val (.int v3), .val (.ref w_r), .val (of_f v3 w_v w_r w_w w_a)] [(.int (0 : Int32))]))
      exact own_retZ X63 hx hret hlk (by decide) (hb hby lw_d105) (by decide) (by decide) ⟨(by rw [hr0, lw_f42, if_pos hc61, if_neg hc74]), N63⟩
  · refine own_st (fun _ k => XS.icmpYes X0.here hx rfl (pc0 := 45) (pc' := 56) rfl (hb hby lw_d45) rfl (feq hc61).2 (by decide) (by decide) k) ?_
    show own_Dn p e below s _ _ _ (T0.setTop (mkF m 56 #[.val (.int p0), .val (.int p1), .val (.int v2), .val (.int v3), .unset, .unset] []))
    refine own_st (fun _ k => XS.iloadN X0.here hx rfl (hb hby lw_d56) rfl (XS.bipush X0.here hx rfl (hb hby lw_d57) k)) ?_
    show own_Dn p e below s _ _ _ (T0.setTop (mkF m 59 #[.val (.int p0), .val (.int p1), .val (.int v2), .val (.int v3), .unset, .unset] [(.int (119 : Int32)), (.int v3)]))
    by_cases hc75 : v3 = (119 : Int32)
    · refine own_st (fun _ k => XS.icmpNo X0.here hx rfl (hb hby lw_d59) rfl (teq hc75).2 k) ?_
      show own_Dn p e below s _ _ _ (T0.setTop (mkF m 62 #[.val (.int p0), .val (.int p1), .val (.int v2), .val (.int v3), .unset, .unset] []))
      obtain ⟨T76, X76, e76, st76⟩ := getS2 X0 hx hZ hown (host := "") (Or.inl (hw _ (List.mem_of_getElem? (i := 26) rfl))) Via.refl e0 P8 (g := (mkF m 62 #[.val (.int p0), .val (.int p1), .val (.int v2), .val (.int v3), .unset, .unset] [])) rfl (hb hby lw_d62)
      refine own_st st76 ?_
      show own_Dn p e below s _ _ _ (T76.setTop (mkF m 65 #[.val (.int p0), .val (.int p1), .val (.int v2), .val (.int v3), .unset, .unset] [(.ref w_w)]))
      refine own_st (fun _ k => XS.astore X76.here hx rfl (hb hby lw_d65) rfl rfl (l' := #[.val (.int p0), .val (.int p1), .val (.int v2), .val (.int v3), .val (.ref w_w), .unset]) rfl (XS.goto X76.here hx rfl (pc0 := 67) (pc' := 87) rfl (hb hby lw_d67) (by decide) (by decide) (XS.iloadN X76.here hx rfl (hb hby lw_d87) rfl k))) ?_
      show own_Dn p e below s _ _ _ (T76.setTop (mkF m 88 #[.val (.int p0), .val (.int p1), .val (.int v2), .val (.int v3), .val (.ref w_w), .unset] [(.int v3)]))
      obtain ⟨_, _, ⟨T77, L77, k77, n77⟩, -, X77, ⟨Lc77, hQ77, l77, y77, z77⟩, st77⟩ := Jvm.LawKit.callS X76 hx (y := (⟨"com/example/cairnstore/cairnstore/access/Right", "of", "(C)Lcom/example/cairnstore/cairnstore/access/Right;"⟩ : MethodName)) hown (mvT hZ (hw _ (List.mem_of_getElem? (i := 3) rfl))) (mvT hZ (hw _ (List.mem_of_getElem? (i := 4) rfl))) (mvT hZ (hw _ (List.mem_of_getElem? (i := 1) rfl))) (mvT hZ (hw _ (List.mem_of_getElem? (i := 5) rfl))) (by decide) (backOf (W := 0) (of_rm l Z a0 hw [] (v3) (w_v) (w_r) (w_w) (w_a) h0 n0 Z0 P1 P2 P3 P4 P5 P6) hZ (hw _ (List.mem_of_getElem? (i := 5) rfl)) (hw _ (List.mem_of_getElem? (i := 1) rfl)) (by decide) (by decide)) (g := (mkF m 88 #[.val (.int p0), .val (.int p1), .val (.int v2), .val (.int v3), .val (.ref w_w), .unset] [(.int v3)])) rfl (by rw [hml]; rfl) (argsL := [(.int v3)]) (rest := []) (lenOf own_pd1 rfl) rfl (by show 2 * 0 + _ ≤ _; exact Nat.le_of_eq rfl) (hb hby lw_d88) (fun _ _ => ⟨rfl, e76, (by decide : 0 + 1 ≤ _), (by decide : 0 + 3 ≤ _)⟩)
      dsimp only [Pt.U, Pt.locs, Pt.cells, Pt.slots] at X77 l77 y77 z77 st77 hQ77
      subst l77 y77 z77
      obtain ⟨rfl, N77q, K77⟩ := hQ77
      have F78 : n0 ≤ T77.heap.size := Nat.le_trans Z0 K77.1
      have F79 : Sta Z T77.heap "com/example/cairnstore/cairnstore/access/Right" "$VALUES" "[Lcom/example/cairnstore/cairnstore/access/Right;" (.ref w_v) := own_Sta_keep0 P1 K77
      have F80 : own_Arf Z T77.heap w_v (.object "com/example/cairnstore/cairnstore/access/Right") 3 (fun i => ([(.ref w_r), (.ref w_w), (.ref w_a)] : List Value).getD i .null) := P2.keep K77 nin0
      have F81 : Exa Z T77.heap w_v "[Lcom/example/cairnstore/cairnstore/access/Right;" := P3.keep K77
      have F82 : Fld Z T77.heap w_r "com/example/cairnstore/cairnstore/access/Right" "_letter" "C" (.int (114 : Int32)) := P4.keep K77 nin0
      have F83 : Fld Z T77.heap w_w "com/example/cairnstore/cairnstore/access/Right" "_letter" "C" (.int (119 : Int32)) := P5.keep K77 nin0
      have F84 : Fld Z T77.heap w_a "com/example/cairnstore/cairnstore/access/Right" "_letter" "C" (.int (97 : Int32)) := P6.keep K77 nin0
      have F85 : Sta Z T77.heap "com/example/cairnstore/cairnstore/access/Right" "READ" "Lcom/example/cairnstore/cairnstore/access/Right;" (.ref w_r) := own_Sta_keep0 P7 K77
      have F86 : Sta Z T77.heap "com/example/cairnstore/cairnstore/access/Right" "WRITE" "Lcom/example/cairnstore/cairnstore/access/Right;" (.ref w_w) := own_Sta_keep0 P8 K77
      have F87 : Sta Z T77.heap "com/example/cairnstore/cairnstore/access/Right" "ADMIN" "Lcom/example/cairnstore/cairnstore/access/Right;" (.ref w_a) := own_Sta_keep0 P9 K77
      have N77 := Fr.app N0 N77q
      refine own_st st77 ?_
      have ir77 : Value.isRef (of_f v3 w_v w_r w_w w_a) = true := of_ir v3 w_v w_r w_w w_a
      show own_Dn p e below s _ _ _ (T77.setTop (mkF m 91 #[.val (.int p0), .val (.int p1), .val (.int v2), .val (.int v3), .val (.ref w_w), .unset] [(of_f v3 w_v w_r w_w w_a)]))
      refine own_st (fun _ k => XS.astore X77.here hx rfl (hb hby lw_d91) rfl ir77 (l' := #[.val (.int p0), .val (.int p1), .val (.int v2), .val (.int v3), .val (.ref w_w), .val (of_f v3 w_v w_r w_w w_a)]) (XS.store1 rfl One.u (own_cat ir77)) (XS.aload X77.here hx rfl (hb hby lw_d93) rfl ir77 (XS.aload X77.here hx rfl (hb hby lw_d95) rfl rfl k))) ?_
      show own_Dn p e below s _ _ _ (T77.setTop (mkF m 97 #[.val (.int p0), .val (.int p1), .val (.int v2), .val (.int v3), .val (.ref w_w), .val (of_f v3 w_v w_r w_w w_a)] [(.ref w_w), (of_f v3 w_v w_r w_w w_a)]))
      by_cases hc88 : (of_f v3 w_v w_r w_w w_a) = (.ref w_w)
      · refine own_st (fun _ k => Jvm.RoadKit.acmp (g := (mkF m 97 #[.val (.int p0), .val (.int p1), .val (.int v2), .val (.int v3), .val (.ref w_w), .val (of_f v3 w_v w_r w_w w_a)] [(.ref w_w), (of_f v3 w_v w_r w_w w_a)])) X77 hx rfl ir77 rfl (pc0 := 97) (pc' := 100) (same := true) rfl (hb hby lw_d97) rfl (decide_eq_true hc88) (by decide) (by decide) k) ?_
        show own_Dn p e below s _ _ _ (T77.setTop (mkF m 100 #[.val (.int p0), .val (.int p1), .val (.int v2), .val (.int v3), .val (.ref w_w), .val (of_f v3 w_v w_r w_w w_a)] []))
        refine own_st (fun _ k => XS.iconst X77.here hx rfl (hb hby lw_d100) (XS.goto X77.here hx rfl (pc0 := 101) (pc' := 105) rfl (hb hby lw_d101) (by decide) (by decide) k)) ?_
        show own_Dn p e below s _ _ _ (T77.setTop (mkF m 105 #[.val (.int p0), .val (.int p1), .val (.int v2), .val (.int v3), .val (.ref w_w), .val (of_f v3 w_v w_r w_w w_a)] [(.int (1 : Int32))]))
        exact own_retZ X77 hx hret hlk (by decide) (hb hby lw_d105) (by decide) (by decide) ⟨(by rw [hr0, lw_f42, if_neg hc61, if_pos hc75, if_pos hc88]), N77⟩
      · refine own_st (fun _ k => Jvm.RoadKit.acmp (g := (mkF m 97 #[.val (.int p0), .val (.int p1), .val (.int v2), .val (.int v3), .val (.ref w_w), .val (of_f v3 w_v w_r w_w w_a)] [(.ref w_w), (of_f v3 w_v w_r w_w w_a)])) X77 hx rfl ir77 rfl (pc0 := 97) (pc' := 104) (same := false) rfl (hb hby lw_d97) rfl (decide_eq_false hc88) (by decide) (by decide) k) ?_
        show own_Dn p e below s _ _ _ (T77.setTop (mkF m 104 #[.val (.int p0), .val (.int p1), .val (.int v2), .val (.int v3), .val (.ref w_w), .val (of_f v3 w_v w_r w_w w_a)] []))
        refine own_st (fun _ k => XS.iconst X77.here hx rfl (hb hby lw_d104) k) ?_
        show own_Dn p e below s _ _ _ (T77.setTop (mkF m 105 #[.val (.int p0), .val (.int p1), .val (.int v2), .val (.int v3), .val (.ref w_w), .val (of_f v3 w_v w_r w_w w_a)] [(.int (0 : Int32))]))
        exact own_retZ X77 hx hret hlk (by decide) (hb hby lw_d105) (by decide) (by decide) ⟨(by rw [hr0, lw_f42, if_neg hc61, if_pos hc75, if_neg hc88]), N77⟩
    · refine own_st (fun _ k => XS.icmpYes X0.here hx rfl (pc0 := 59) (pc' := 70) rfl (hb hby lw_d59) rfl (feq hc75).2 (by decide) (by decide) k) ?_
      show own_Dn p e below s _ _ _ (T0.setTop (mkF m 70 #[.val (.int p0), .val (.int p1), .val (.int v2), .val (.int v3), .unset, .unset] []))
      refine own_st (fun _ k => XS.iloadN X0.here hx rfl (hb hby lw_d70) rfl (XS.bipush X0.here hx rfl (hb hby lw_d71) k)) ?_
      show own_Dn p e below s _ _ _ (T0.setTop (mkF m 73 #[.val (.int p0), .val (.int p1), .val (.int v2), .val (.int v3), .unset, .unset] [(.int (97 : Int32)), (.int v3)]))
      by_cases hc89 : v3 = (97 : Int32)
      · refine own_st (fun _ k => XS.icmpNo X0.here hx rfl (hb hby lw_d73) rfl (teq hc89).2 k) ?_
        show own_Dn p e below s _ _ _ (T0.setTop (mkF m 76 #[.val (.int p0), .val (.int p1), .val (.int v2), .val (.int v3), .unset, .unset] []))
        obtain ⟨T90, X90, e90, st90⟩ := getS2 X0 hx hZ hown (host := "") (Or.inl (hw _ (List.mem_of_getElem? (i := 25) rfl))) Via.refl e0 P9 (g := (mkF m 76 #[.val (.int p0), .val (.int p1), .val (.int v2), .val (.int v3), .unset, .unset] [])) rfl (hb hby lw_d76)
        refine own_st st90 ?_
        show own_Dn p e below s _ _ _ (T90.setTop (mkF m 79 #[.val (.int p0), .val (.int p1), .val (.int v2), .val (.int v3), .unset, .unset] [(.ref w_a)]))
        refine own_st (fun _ k => XS.astore X90.here hx rfl (hb hby lw_d79) rfl rfl (l' := #[.val (.int p0), .val (.int p1), .val (.int v2), .val (.int v3), .val (.ref w_a), .unset]) rfl (XS.goto X90.here hx rfl (pc0 := 81) (pc' := 87) rfl (hb hby lw_d81) (by decide) (by decide) (XS.iloadN X90.here hx rfl (hb hby lw_d87) rfl k))) ?_
        show own_Dn p e below s _ _ _ (T90.setTop (mkF m 88 #[.val (.int p0), .val (.int p1), .val (.int v2), .val (.int v3), .val (.ref w_a), .unset] [(.int v3)]))
        obtain ⟨_, _, ⟨T91, L91, k91, n91⟩, -, X91, ⟨Lc91, hQ91, l91, y91, z91⟩, st91⟩ := Jvm.LawKit.callS X90 hx (y := (⟨"com/example/cairnstore/cairnstore/access/Right", "of", "(C)Lcom/example/cairnstore/cairnstore/access/Right;"⟩ : MethodName)) hown (mvT hZ (hw _ (List.mem_of_getElem? (i := 3) rfl))) (mvT hZ (hw _ (List.mem_of_getElem? (i := 4) rfl))) (mvT hZ (hw _ (List.mem_of_getElem? (i := 1) rfl))) (mvT hZ (hw _ (List.mem_of_getElem? (i := 5) rfl))) (by decide) (backOf (W := 0) (of_rm l Z a0 hw [] (v3) (w_v) (w_r) (w_w) (w_a) h0 n0 Z0 P1 P2 P3 P4 P5 P6) hZ (hw _ (List.mem_of_getElem? (i := 5) rfl)) (hw _ (List.mem_of_getElem? (i := 1) rfl)) (by decide) (by decide)) (g := (mkF m 88 #[.val (.int p0), .val (.int p1), .val (.int v2), .val (.int v3), .val (.ref w_a), .unset] [(.int v3)])) rfl (by rw [hml]; rfl) (argsL := [(.int v3)]) (rest := []) (lenOf own_pd1 rfl) rfl (by show 2 * 0 + _ ≤ _; exact Nat.le_of_eq rfl) (hb hby lw_d88) (fun _ _ => ⟨rfl, e90, (by decide : 0 + 1 ≤ _), (by decide : 0 + 3 ≤ _)⟩)
        dsimp only [Pt.U, Pt.locs, Pt.cells, Pt.slots] at X91 l91 y91 z91 st91 hQ91
        subst l91 y91 z91
        obtain ⟨rfl, N91q, K91⟩ := hQ91
        have F92 : n0 ≤ T91.heap.size := Nat.le_trans Z0 K91.1
        have F93 : Sta Z T91.heap "com/example/cairnstore/cairnstore/access/Right" "$VALUES" "[Lcom/example/cairnstore/cairnstore/access/Right;" (.ref w_v) := own_Sta_keep0 P1 K91
        have F94 : own_Arf Z T91.heap w_v (.object "com/example/cairnstore/cairnstore/access/Right") 3 (fun i => ([(.ref w_r), (.ref w_w), (.ref w_a)] : List Value).getD i .null) := P2.keep K91 nin0
        have F95 : Exa Z T91.heap w_v "[Lcom/example/cairnstore/cairnstore/access/Right;" := P3.keep K91
        have F96 : Fld Z T91.heap w_r "com/example/cairnstore/cairnstore/access/Right" "_letter" "C" (.int (114 : Int32)) := P4.keep K91 nin0
        have F97 : Fld Z T91.heap w_w "com/example/cairnstore/cairnstore/access/Right" "_letter" "C" (.int (119 : Int32)) := P5.keep K91 nin0
        have F98 : Fld Z T91.heap w_a "com/example/cairnstore/cairnstore/access/Right" "_letter" "C" (.int (97 : Int32)) := P6.keep K91 nin0
        have F99 : Sta Z T91.heap "com/example/cairnstore/cairnstore/access/Right" "READ" "Lcom/example/cairnstore/cairnstore/access/Right;" (.ref w_r) := own_Sta_keep0 P7 K91
        have F100 : Sta Z T91.heap "com/example/cairnstore/cairnstore/access/Right" "WRITE" "Lcom/example/cairnstore/cairnstore/access/Right;" (.ref w_w) := own_Sta_keep0 P8 K91
        have F101 : Sta Z T91.heap "com/example/cairnstore/cairnstore/access/Right" "ADMIN" "Lcom/example/cairnstore/cairnstore/access/Right;" (.ref w_a) := own_Sta_keep0 P9 K91
        have N91 := Fr.app N0 N91q
        refine own_st st91 ?_
        have ir91 : Value.isRef (of_f v3 w_v w_r w_w w_a) = true := of_ir v3 w_v w_r w_w w_a
        show own_Dn p e below s _ _ _ (T91.setTop (mkF m 91 #[.val (.int p0), .val (.int p1), .val (.int v2), .val (.int v3), .val (.ref w_a), .unset] [(of_f v3 w_v w_r w_w w_a)]))
        refine own_st (fun _ k => XS.astore X91.here hx rfl (hb hby lw_d91) rfl ir91 (l' := #[.val (.int p0), .val (.int p1), .val (.int v2), .val (.int v3), .val (.ref w_a), .val (of_f v3 w_v w_r w_w w_a)]) (XS.store1 rfl One.u (own_cat ir91)) (XS.aload X91.here hx rfl (hb hby lw_d93) rfl ir91 (XS.aload X91.here hx rfl (hb hby lw_d95) rfl rfl k))) ?_
        show own_Dn p e below s _ _ _ (T91.setTop (mkF m 97 #[.val (.int p0), .val (.int p1), .val (.int v2), .val (.int v3), .val (.ref w_a), .val (of_f v3 w_v w_r w_w w_a)] [(.ref w_a), (of_f v3 w_v w_r w_w w_a)]))
        by_cases hc102 : (of_f v3 w_v w_r w_w w_a) = (.ref w_a)
        · refine own_st (fun _ k => Jvm.RoadKit.acmp (g := (mkF m 97 #[.val (.int p0), .val (.int p1), .val (.int v2), .val (.int v3), .val (.ref w_a), .val (of_f v3 w_v w_r w_w w_a)] [(.ref w_a), (of_f v3 w_v w_r w_w w_a)])) X91 hx rfl ir91 rfl (pc0 := 97) (pc' := 100) (same := true) rfl (hb hby lw_d97) rfl (decide_eq_true hc102) (by decide) (by decide) k) ?_
          show own_Dn p e below s _ _ _ (T91.setTop (mkF m 100 #[.val (.int p0), .val (.int p1), .val (.int v2), .val (.int v3), .val (.ref w_a), .val (of_f v3 w_v w_r w_w w_a)] []))
          refine own_st (fun _ k => XS.iconst X91.here hx rfl (hb hby lw_d100) (XS.goto X91.here hx rfl (pc0 := 101) (pc' := 105) rfl (hb hby lw_d101) (by decide) (by decide) k)) ?_
          show own_Dn p e below s _ _ _ (T91.setTop (mkF m 105 #[.val (.int p0), .val (.int p1), .val (.int v2), .val (.int v3), .val (.ref w_a), .val (of_f v3 w_v w_r w_w w_a)] [(.int (1 : Int32))]))
          exact own_retZ X91 hx hret hlk (by decide) (hb hby lw_d105) (by decide) (by decide) ⟨(by rw [hr0, lw_f42, if_neg hc61, if_neg hc75, if_pos hc89, if_pos hc102]), N91⟩
        · refine own_st (fun _ k => Jvm.RoadKit.acmp (g := (mkF m 97 #[.val (.int p0), .val (.int p1), .val (.int v2), .val (.int v3), .val (.ref w_a), .val (of_f v3 w_v w_r w_w w_a)] [(.ref w_a), (of_f v3 w_v w_r w_w w_a)])) X91 hx rfl ir91 rfl (pc0 := 97) (pc' := 104) (same := false) rfl (hb hby lw_d97) rfl (decide_eq_false hc102) (by decide) (by decide) k) ?_
          show own_Dn p e below s _ _ _ (T91.setTop (mkF m 104 #[.val (.int p0), .val (.int p1), .val (.int v2), .val (.int v3), .val (.ref w_a), .val (of_f v3 w_v w_r w_w w_a)] []))
          refine own_st (fun _ k => XS.iconst X91.here hx rfl (hb hby lw_d104) k) ?_
          show own_Dn p e below s _ _ _ (T91.setTop (mkF m 105 #[.val (.int p0), .val (.int p1), .val (.int v2), .val (.int v3), .val (.ref w_a), .val (of_f v3 w_v w_r w_w w_a)] [(.int (0 : Int32))]))
          exact own_retZ X91 hx hret hlk (by decide) (hb hby lw_d105) (by decide) (by decide) ⟨(by rw [hr0, lw_f42, if_neg hc61, if_neg hc75, if_pos hc89, if_neg hc102]), N91⟩
      · refine own_st (fun _ k => XS.icmpYes X0.here hx rfl (pc0 := 73) (pc' := 84) rfl (hb hby lw_d73) rfl (feq hc89).2 (by decide) (by decide) k) ?_
        show own_Dn p e below s _ _ _ (T0.setTop (mkF m 84 #[.val (.int p0), .val (.int p1), .val (.int v2), .val (.int v3), .unset, .unset] []))
        refine own_st (fun _ k => XS.aconstNull X0.here hx rfl (hb hby lw_d84) (XS.astore X0.here hx rfl (hb hby lw_d85) rfl rfl (l' := #[.val (.int p0), .val (.int p1), .val (.int v2), .val (.int v3), .val .null, .unset]) rfl (XS.iloadN X0.here hx rfl (hb hby lw_d87) rfl k))) ?_
        show own_Dn p e below s _ _ _ (T0.setTop (mkF m 88 #[.val (.int p0), .val (.int p1), .val (.int v2), .val (.int v3), .val .null, .unset] [(.int v3)]))
        obtain ⟨_, _, ⟨T103, L103, k103, n103⟩, -, X103, ⟨Lc103, hQ103, l103, y103, z103⟩, st103⟩ := Jvm.LawKit.callS X0 hx (y := (⟨"com/example/cairnstore/cairnstore/access/Right", "of", "(C)Lcom/example/cairnstore/cairnstore/access/Right;"⟩ : MethodName)) hown (mvT hZ (hw _ (List.mem_of_getElem? (i := 3) rfl))) (mvT hZ (hw _ (List.mem_of_getElem? (i := 4) rfl))) (mvT hZ (hw _ (List.mem_of_getElem? (i := 1) rfl))) (mvT hZ (hw _ (List.mem_of_getElem? (i := 5) rfl))) (by decide) (backOf (W := 0) (of_rm l Z a0 hw [] (v3) (w_v) (w_r) (w_w) (w_a) h0 n0 Z0 P1 P2 P3 P4 P5 P6) hZ (hw _ (List.mem_of_getElem? (i := 5) rfl)) (hw _ (List.mem_of_getElem? (i := 1) rfl)) (by decide) (by decide)) (g := (mkF m 88 #[.val (.int p0), .val (.int p1), .val (.int v2), .val (.int v3), .val .null, .unset] [(.int v3)])) rfl (by rw [hml]; rfl) (argsL := [(.int v3)]) (rest := []) (lenOf own_pd1 rfl) rfl (by show 2 * 0 + _ ≤ _; exact Nat.le_of_eq rfl) (hb hby lw_d88) (fun _ _ => ⟨rfl, e0, (by decide : 0 + 1 ≤ _), (by decide : 0 + 3 ≤ _)⟩)
        dsimp only [Pt.U, Pt.locs, Pt.cells, Pt.slots] at X103 l103 y103 z103 st103 hQ103
        subst l103 y103 z103
        obtain ⟨rfl, N103q, K103⟩ := hQ103
        have F104 : n0 ≤ T103.heap.size := Nat.le_trans Z0 K103.1
        have F105 : Sta Z T103.heap "com/example/cairnstore/cairnstore/access/Right" "$VALUES" "[Lcom/example/cairnstore/cairnstore/access/Right;" (.ref w_v) := own_Sta_keep0 P1 K103
        have F106 : own_Arf Z T103.heap w_v (.object "com/example/cairnstore/cairnstore/access/Right") 3 (fun i => ([(.ref w_r), (.ref w_w), (.ref w_a)] : List Value).getD i .null) := P2.keep K103 nin0
        have F107 : Exa Z T103.heap w_v "[Lcom/example/cairnstore/cairnstore/access/Right;" := P3.keep K103
        have F108 : Fld Z T103.heap w_r "com/example/cairnstore/cairnstore/access/Right" "_letter" "C" (.int (114 : Int32)) := P4.keep K103 nin0
        have F109 : Fld Z T103.heap w_w "com/example/cairnstore/cairnstore/access/Right" "_letter" "C" (.int (119 : Int32)) := P5.keep K103 nin0
        have F110 : Fld Z T103.heap w_a "com/example/cairnstore/cairnstore/access/Right" "_letter" "C" (.int (97 : Int32)) := P6.keep K103 nin0
        have F111 : Sta Z T103.heap "com/example/cairnstore/cairnstore/access/Right" "READ" "Lcom/example/cairnstore/cairnstore/access/Right;" (.ref w_r) := own_Sta_keep0 P7 K103
        have F112 : Sta Z T103.heap "com/example/cairnstore/cairnstore/access/Right" "WRITE" "Lcom/example/cairnstore/cairnstore/access/Right;" (.ref w_w) := own_Sta_keep0 P8 K103
        have F113 : Sta Z T103.heap "com/example/cairnstore/cairnstore/access/Right" "ADMIN" "Lcom/example/cairnstore/cairnstore/access/Right;" (.ref w_a) := own_Sta_keep0 P9 K103
        have N103 := Fr.app N0 N103q
        refine own_st st103 ?_
        have ir103 : Value.isRef (of_f v3 w_v w_r w_w w_a) = true := of_ir v3 w_v w_r w_w w_a
        show own_Dn p e below s _ _ _ (T103.setTop (mkF m 91 #[.val (.int p0), .val (.int p1), .val (.int v2), .val (.int v3), .val .null, .unset] [(of_f v3 w_v w_r w_w w_a)]))
        refine own_st (fun _ k => XS.astore X103.here hx rfl (hb hby lw_d91) rfl ir103 (l' := #[.val (.int p0), .val (.int p1), .val (.int v2), .val (.int v3), .val .null, .val (of_f v3 w_v w_r w_w w_a)]) (XS.store1 rfl One.u (own_cat ir103)) (XS.aload X103.here hx rfl (hb hby lw_d93) rfl ir103 (XS.aload X103.here hx rfl (hb hby lw_d95) rfl rfl k))) ?_
        show own_Dn p e below s _ _ _ (T103.setTop (mkF m 97 #[.val (.int p0), .val (.int p1), .val (.int v2), .val (.int v3), .val .null, .val (of_f v3 w_v w_r w_w w_a)] [.null, (of_f v3 w_v w_r w_w w_a)]))
        by_cases hc114 : (of_f v3 w_v w_r w_w w_a) = .null
        · refine own_st (fun _ k => Jvm.RoadKit.acmp (g := (mkF m 97 #[.val (.int p0), .val (.int p1), .val (.int v2), .val (.int v3), .val .null, .val (of_f v3 w_v w_r w_w w_a)] [.null, (of_f v3 w_v w_r w_w w_a)])) X103 hx rfl ir103 rfl (pc0 := 97) (pc' := 100) (same := true) rfl (hb hby lw_d97) rfl (decide_eq_true hc114) (by decide) (by decide) k) ?_
          show own_Dn p e below s _ _ _ (T103.setTop (mkF m 100 #[.val (.int p0), .val (.int p1), .val (.int v2), .val (.int v3), .val .null, .val (of_f v3 w_v w_r w_w w_a)] []))
          refine own_st (fun _ k => XS.iconst X103.here hx rfl (hb hby lw_d100) (XS.goto X103.here hx rfl (pc0 := 101) (pc' := 105) rfl (hb hby lw_d101) (by decide) (by decide) k)) ?_
          show own_Dn p e below s _ _ _ (T103.setTop (mkF m 105 #[.val (.int p0), .val (.int p1), .val (.int v2), .val (.int v3), .val .null, .val (of_f v3 w_v w_r w_w w_a)] [(.int (1 : Int32))]))
          exact own_retZ X103 hx hret hlk (by decide) (hb hby lw_d105) (by decide) (by decide) ⟨(by rw [hr0, lw_f42, if_neg hc61, if_neg hc75, if_neg hc89, if_pos hc114]), N103⟩
        · refine own_st (fun _ k => Jvm.RoadKit.acmp (g := (mkF m 97 #[.val (.int p0), .val (.int p1), .val (.int v2), .val (.int v3), .val .null, .val (of_f v3 w_v w_r w_w w_a)] [.null, (of_f v3 w_v w_r w_w w_a)])) X103 hx rfl ir103 rfl (pc0 := 97) (pc' := 104) (same := false) rfl (hb hby lw_d97) rfl (decide_eq_false hc114) (by decide) (by decide) k) ?_
          show own_Dn p e below s _ _ _ (T103.setTop (mkF m 104 #[.val (.int p0), .val (.int p1), .val (.int v2), .val (.int v3), .val .null, .val (of_f v3 w_v w_r w_w w_a)] []))
          refine own_st (fun _ k => XS.iconst X103.here hx rfl (hb hby lw_d104) k) ?_
          show own_Dn p e below s _ _ _ (T103.setTop (mkF m 105 #[.val (.int p0), .val (.int p1), .val (.int v2), .val (.int v3), .val .null, .val (of_f v3 w_v w_r w_w w_a)] [(.int (0 : Int32))]))
          exact own_retZ X103 hx hret hlk (by decide) (hb hby lw_d105) (by decide) (by decide) ⟨(by rw [hr0, lw_f42, if_neg hc61, if_neg hc75, if_neg hc89, if_neg hc114]), N103⟩
def lw_f (p0 : Int32) (p1 : Int32) (w_v : Addr) (w_r : Addr) (w_w : Addr) (w_a : Addr)  : Int32 :=
  if (p0 &&& (3 : Int32)) = (0 : Int32) then
    lw_f42 p0 p1 w_v w_r w_w w_a ((p0 &&& (3 : Int32))) ((114 : Int32))
  else
    if (p0 &&& (3 : Int32)) = (1 : Int32) then
      lw_f42 p0 p1 w_v w_r w_w w_a ((p0 &&& (3 : Int32))) ((119 : Int32))
    else
      if (p0 &&& (3 : Int32)) = (2 : Int32) then
        lw_f42 p0 p1 w_v w_r w_w w_a ((p0 &&& (3 : Int32))) ((97 : Int32))
      else
        lw_f42 p0 p1 w_v w_r w_w w_a ((p0 &&& (3 : Int32))) (((p1 &&& (65535 : Int32)).toUInt32.toUInt16.toUInt32.toInt32))
set_option maxRecDepth 65536 in
set_option maxHeartbeats 40000000 in
theorem lw_c0 {l : Launch} {Z : State} {a0 : Array Value} {p0 : Int32} {p1 : Int32} {w_v : Addr} {w_r : Addr} {w_w : Addr} {w_a : Addr} {h0 : Heap} {n0 : Nat} {p : Program} {e : Env} {s : State} {m : MethodId} {args : Array Value} {below : List Frame} {meth : Method} {c : Code} {T0 : State} {locs : List Loc} {r0 : Int32} (C0 : own_Cx p s m meth c Z a0 code 6 "com/example/cairnstore/cairnstore/access/RightOfPinLaw" "law" (some .boolean)) (X0 : Stand p l e room_1 s m args below meth c T0 locs 0 0) (e0 : T0.heap = h0) (N0 : Fr n0 locs)  (Z0 : n0 ≤ h0.size) (P0 : Sta Z h0 "com/example/cairnstore/cairnstore/access/Right" "$VALUES" "[Lcom/example/cairnstore/cairnstore/access/Right;" (.ref w_v)) (P1 : own_Arf Z h0 w_v (.object "com/example/cairnstore/cairnstore/access/Right") 3 (fun i => ([(.ref w_r), (.ref w_w), (.ref w_a)] : List Value).getD i .null)) (P2 : Exa Z h0 w_v "[Lcom/example/cairnstore/cairnstore/access/Right;") (P3 : Fld Z h0 w_r "com/example/cairnstore/cairnstore/access/Right" "_letter" "C" (.int (114 : Int32))) (P4 : Fld Z h0 w_w "com/example/cairnstore/cairnstore/access/Right" "_letter" "C" (.int (119 : Int32))) (P5 : Fld Z h0 w_a "com/example/cairnstore/cairnstore/access/Right" "_letter" "C" (.int (97 : Int32))) (P6 : Sta Z h0 "com/example/cairnstore/cairnstore/access/Right" "READ" "Lcom/example/cairnstore/cairnstore/access/Right;" (.ref w_r)) (P7 : Sta Z h0 "com/example/cairnstore/cairnstore/access/Right" "WRITE" "Lcom/example/cairnstore/cairnstore/access/Right;" (.ref w_w)) (P8 : Sta Z h0 "com/example/cairnstore/cairnstore/access/Right" "ADMIN" "Lcom/example/cairnstore/cairnstore/access/Right;" (.ref w_a)) (hr0 : r0 = lw_f p0 p1 w_v w_r w_w w_a ) :
    own_Dn p e below s (own_QL (some (.int r0)) n0) room_1.cells room_1.slots (T0.setTop (mkF m 0 #[.val (.int p0), .val (.int p1), .unset, .unset, .unset, .unset] [])) := by
  obtain ⟨hx, hZ, hw, hby, hml, hown, hret, hlk, hnm⟩ := id C0
  refine own_st (fun _ k => XS.iloadN X0.here hx rfl (hb hby lw_d0) rfl (XS.iconst X0.here hx rfl (hb hby lw_d1) (XS.iand X0.here hx rfl (hb hby lw_d2) rfl (XS.istoreN X0.here hx rfl (hb hby lw_d3) rfl (l' := #[.val (.int p0), .val (.int p1), .val (.int (p0 &&& (3 : Int32))), .unset, .unset, .unset]) rfl (XS.iloadN X0.here hx rfl (hb hby lw_d4) rfl k))))) ?_
  show own_Dn p e below s _ _ _ (T0.setTop (mkF m 5 #[.val (.int p0), .val (.int p1), .val (.int (p0 &&& (3 : Int32))), .unset, .unset, .unset] [(.int (p0 &&& (3 : Int32)))]))
  by_cases hc58 : (p0 &&& (3 : Int32)) = (0 : Int32)
  · refine own_st (fun _ k => XS.ifNo X0.here hx rfl (hb hby lw_d5) rfl ((if0 _ _).trans (teq hc58).2) k) ?_
    show own_Dn p e below s _ _ _ (T0.setTop (mkF m 8 #[.val (.int p0), .val (.int p1), .val (.int (p0 &&& (3 : Int32))), .unset, .unset, .unset] []))
    refine own_st (fun _ k => XS.bipush X0.here hx rfl (hb hby lw_d8) (XS.istoreN X0.here hx rfl (hb hby lw_d10) rfl (l' := #[.val (.int p0), .val (.int p1), .val (.int (p0 &&& (3 : Int32))), .val (.int (114 : Int32)), .unset, .unset]) rfl (XS.goto X0.here hx rfl (pc0 := 11) (pc' := 42) rfl (hb hby lw_d11) (by decide) (by decide) k))) ?_
    show own_Dn p e below s _ _ _ (T0.setTop (mkF m 42 #[.val (.int p0), .val (.int p1), .val (.int (p0 &&& (3 : Int32))), .val (.int (114 : Int32)), .unset, .unset] []))
    exact lw_c42 C0 X0 e0 N0 ((p0 &&& (3 : Int32))) ((114 : Int32)) Z0 P0 P1 P2 P3 P4 P5 P6 P7 P8 (by rw [hr0, lw_f, if_pos hc58])
  · refine own_st (fun _ k => XS.ifYes X0.here hx rfl (pc0 := 5) (pc' := 14) rfl (hb hby lw_d5) rfl ((if0 _ _).trans (feq hc58).2) (by decide) (by decide) k) ?_
    show own_Dn p e below s _ _ _ (T0.setTop (mkF m 14 #[.val (.int p0), .val (.int p1), .val (.int (p0 &&& (3 : Int32))), .unset, .unset, .unset] []))
    refine own_st (fun _ k => XS.iloadN X0.here hx rfl (hb hby lw_d14) rfl (XS.iconst X0.here hx rfl (hb hby lw_d15) k)) ?_
    show own_Dn p e below s _ _ _ (T0.setTop (mkF m 16 #[.val (.int p0), .val (.int p1), .val (.int (p0 &&& (3 : Int32))), .unset, .unset, .unset] [(.int (1 : Int32)), (.int (p0 &&& (3 : Int32)))]))
    by_cases hc59 : (p0 &&& (3 : Int32)) = (1 : Int32)
    · refine own_st (fun _ k => XS.icmpNo X0.here hx rfl (hb hby lw_d16) rfl (teq hc59).2 k) ?_
      show own_Dn p e below s _ _ _ (T0.setTop (mkF m 19 #[.val (.int p0), .val (.int p1), .val (.int (p0 &&& (3 : Int32))), .unset, .unset, .unset] []))
      refine own_st (fun _ k => XS.bipush X0.here hx rfl (hb hby lw_d19) (XS.istoreN X0.here hx rfl (hb hby lw_d21) rfl (l' := #[.val (.int p0), .val (.int p1), .val (.int (p0 &&& (3 : Int32))), .val (.int (119 : Int32)), .unset, .unset]) rfl (XS.goto X0.here hx rfl (pc0 := 22) (pc' := 42) rfl (hb hby lw_d22) (by decide) (by decide) k))) ?_
      show own_Dn p e below s _ _ _ (T0.setTop (mkF m 42 #[.val (.int p0), .val (.int p1), .val (.int (p0 &&& (3 : Int32))), .val (.int (119 : Int32)), .unset, .unset] []))
      exact lw_c42 C0 X0 e0 N0 ((p0 &&& (3 : Int32))) ((119 : Int32)) Z0 P0 P1 P2 P3 P4 P5 P6 P7 P8 (by rw [hr0, lw_f, if_neg hc58, if_pos hc59])
    · refine own_st (fun _ k => XS.icmpYes X0.here hx rfl (pc0 := 16) (pc' := 25) rfl (hb hby lw_d16) rfl (feq hc59).2 (by decide) (by decide) k) ?_
      show own_Dn p e below s _ _ _ (T0.setTop (mkF m 25 #[.val (.int p0), .val (.int p1), .val (.int (p0 &&& (3 : Int32))), .unset, .unset, .unset] []))
      refine own_st (fun _ k => XS.iloadN X0.here hx rfl (hb hby lw_d25) rfl (XS.iconst X0.here hx rfl (hb hby lw_d26) k)) ?_
      show own_Dn p e below s _ _ _ (T0.setTop (mkF m 27 #[.val (.int p0), .val (.int p1), .val (.int (p0 &&& (3 : Int32))), .unset, .unset, .unset] [(.int (2 : Int32)), (.int (p0 &&& (3 : Int32)))]))
      by_cases hc60 : (p0 &&& (3 : Int32)) = (2 : Int32)
      · refine own_st (fun _ k => XS.icmpNo X0.here hx rfl (hb hby lw_d27) rfl (teq hc60).2 k) ?_
        show own_Dn p e below s _ _ _ (T0.setTop (mkF m 30 #[.val (.int p0), .val (.int p1), .val (.int (p0 &&& (3 : Int32))), .unset, .unset, .unset] []))
        refine own_st (fun _ k => XS.bipush X0.here hx rfl (hb hby lw_d30) (XS.istoreN X0.here hx rfl (hb hby lw_d32) rfl (l' := #[.val (.int p0), .val (.int p1), .val (.int (p0 &&& (3 : Int32))), .val (.int (97 : Int32)), .unset, .unset]) rfl (XS.goto X0.here hx rfl (pc0 := 33) (pc' := 42) rfl (hb hby lw_d33) (by decide) (by decide) k))) ?_
        show own_Dn p e below s _ _ _ (T0.setTop (mkF m 42 #[.val (.int p0), .val (.int p1), .val (.int (p0 &&& (3 : Int32))), .val (.int (97 : Int32)), .unset, .unset] []))
        exact lw_c42 C0 X0 e0 N0 ((p0 &&& (3 : Int32))) ((97 : Int32)) Z0 P0 P1 P2 P3 P4 P5 P6 P7 P8 (by rw [hr0, lw_f, if_neg hc58, if_neg hc59, if_pos hc60])
      · refine own_st (fun _ k => XS.icmpYes X0.here hx rfl (pc0 := 27) (pc' := 36) rfl (hb hby lw_d27) rfl (feq hc60).2 (by decide) (by decide) k) ?_
        show own_Dn p e below s _ _ _ (T0.setTop (mkF m 36 #[.val (.int p0), .val (.int p1), .val (.int (p0 &&& (3 : Int32))), .unset, .unset, .unset] []))
        refine own_st (fun _ k => XS.iloadN X0.here hx rfl (hb hby lw_d36) rfl (X0.ldcInt hx (index := 7) (v := (65535 : Int32)) hown (mvT hZ (hw _ (List.mem_of_getElem? (i := 27) rfl))) (g := (mkF m 37 #[.val (.int p0), .val (.int p1), .val (.int (p0 &&& (3 : Int32))), .unset, .unset, .unset] [(.int p1)])) rfl (hb hby lw_d37) _ (XS.iand X0.here hx rfl (hb hby lw_d39) rfl (XS.i2c X0.here hx rfl (hb hby lw_d40) rfl (XS.istoreN X0.here hx rfl (hb hby lw_d41) rfl (l' := #[.val (.int p0), .val (.int p1), .val (.int (p0 &&& (3 : Int32))), .val (.int ((p1 &&& (65535 : Int32)).toUInt32.toUInt16.toUInt32.toInt32)), .unset, .unset]) rfl k))))) ?_
        show own_Dn p e below s _ _ _ (T0.setTop (mkF m 42 #[.val (.int p0), .val (.int p1), .val (.int (p0 &&& (3 : Int32))), .val (.int ((p1 &&& (65535 : Int32)).toUInt32.toUInt16.toUInt32.toInt32)), .unset, .unset] []))
        exact lw_c42 C0 X0 e0 N0 ((p0 &&& (3 : Int32))) (((p1 &&& (65535 : Int32)).toUInt32.toUInt16.toUInt32.toInt32)) Z0 P0 P1 P2 P3 P4 P5 P6 P7 P8 (by rw [hr0, lw_f, if_neg hc58, if_neg hc59, if_neg hc60])
theorem lw_ef (m : MethodId) (p0 : Int32) (p1 : Int32) : entryFrame m #[(.int p0), (.int p1)] maxLocals = mkF m 0 #[.val (.int p0), .val (.int p1), .unset, .unset, .unset, .unset] [] := by first | (simp [entryFrame, mkF, argsToLocals, Value.category, maxLocals]; done) | rfl
theorem lw_rm (l : Launch) (Z : State) (a0 : Array Value) (hw : ∀ d ∈ tables_1, d.before a0 Z = true) (ws : List Jvm.Cond) (p0 : Int32) (p1 : Int32) (w_v : Addr) (w_r : Addr) (w_w : Addr) (w_a : Addr) (h0 : Heap) (n0 : Nat) (Z0 : n0 ≤ h0.size) (P0 : Sta Z h0 "com/example/cairnstore/cairnstore/access/Right" "$VALUES" "[Lcom/example/cairnstore/cairnstore/access/Right;" (.ref w_v)) (P1 : own_Arf Z h0 w_v (.object "com/example/cairnstore/cairnstore/access/Right") 3 (fun i => ([(.ref w_r), (.ref w_w), (.ref w_a)] : List Value).getD i .null)) (P2 : Exa Z h0 w_v "[Lcom/example/cairnstore/cairnstore/access/Right;") (P3 : Fld Z h0 w_r "com/example/cairnstore/cairnstore/access/Right" "_letter" "C" (.int (114 : Int32))) (P4 : Fld Z h0 w_w "com/example/cairnstore/cairnstore/access/Right" "_letter" "C" (.int (119 : Int32))) (P5 : Fld Z h0 w_a "com/example/cairnstore/cairnstore/access/Right" "_letter" "C" (.int (97 : Int32))) (P6 : Sta Z h0 "com/example/cairnstore/cairnstore/access/Right" "READ" "Lcom/example/cairnstore/cairnstore/access/Right;" (.ref w_r)) (P7 : Sta Z h0 "com/example/cairnstore/cairnstore/access/Right" "WRITE" "Lcom/example/cairnstore/cairnstore/access/Right;" (.ref w_w)) (P8 : Sta Z h0 "com/example/cairnstore/cairnstore/access/Right" "ADMIN" "Lcom/example/cairnstore/cairnstore/access/Right;" (.ref w_a)) :
    MetFree l x (head1 (Jvm.Cond.code x code maxLocals ret :: ws) room_1) (fun a U => a = #[(.int p0), (.int p1)] ∧ Z.Warmed39 U.vm ∧ U.heap = h0) (fun _ _ _ _ _ => True) (fun _ U o U' => ∃ v L, o = .returned v ∧ (own_QL (some (.int (lw_f p0 p1 w_v w_r w_w w_a))) n0) v U'.heap L ∧ FrameEnd U o U' L room_1.cells room_1.slots) :=
  own_met hw (plainFor_of_name (by first | (simp [plainName, overriddenIn]; done) | decide +kernel)) (fun p e s m below meth c T0 C0 X0 e0 => own_st (fun _ k => castTop (lw_ef m p0 p1) k) (lw_c0 C0 X0 e0 (Fr.nil n0) Z0 P0 P1 P2 P3 P4 P5 P6 P7 P8 rfl))
theorem own_l42 (p0 p1 : Int32) (w_v w_r w_w w_a : Addr) (v2 v3 : Int32) : lw_f42 p0 p1 w_v w_r w_w w_a v2 v3 = 1 := by
  simp only [lw_f42, of_f]
  by_cases h1 : v3 = 114
  · subst h1; simp
  by_cases h2 : v3 = 119
  · subst h2; simp
  by_cases h3 : v3 = 97
  · subst h3; simp
  simp only [h1, h2, h3, Ne.symm h1, Ne.symm h2, Ne.symm h3, if_false, if_true]
theorem own_law (p0 p1 : Int32) (w_v w_r w_w w_a : Addr) : lw_f p0 p1 w_v w_r w_w w_a = 1 := by
  simp only [lw_f, own_l42, ite_self]

set_option maxRecDepth 65536 in
set_option maxHeartbeats 40000000 in
theorem comes_1 {Post : Tables → Env → Array Value → State → Outcome → State → Prop} (hpost : ∀ tb e args s v u, (limb_1_1.after args s (.returned v) u = true ∧ limb_1_2.after args s (.returned v) u = true ∧ True) → FrameEnd s (.returned v) u (Jvm.fieldLocs frame_1_writes args s ++ Jvm.arrayLocs frame_1_arrays args s ++ Jvm.staticLocs frame_1_statics s) 16 128 → Post tb e args s (.returned v) u) :
    ArmFor flags0 classFile x code maxLocals ret World_1 tables_1 room_1 Calls_1 rest_1 Pre_1 Post := by
  intro l hfl _ _ p e ha hc hk s m args below hf hA hF happ hP
  obtain ⟨hcalls, hrest, hpre⟩ := hP
  obtain ⟨-, -, -, hnamed, -, -, -, hat⟩ := (Spec.applies_iff hf).mp happ
  obtain ⟨hg, hn⟩ := and_e (Cond.before_iff.mp (show (Jvm.Cond.and given_1 narrow_1).before args s = true from hpre))
  obtain ⟨gc, hg0⟩ := and_e hg
  obtain ⟨g0, g1⟩ := and_e hg0
  obtain ⟨w0, w1, rfl⟩ : ∃ w0 w1 : Value, args = #[w0, w1] := by
    have hs : args.size = 2 := by simpa [Cond.value, given_1] using gc
    obtain ⟨L⟩ := args
    match L, hs with
    | [w0, w1], _ => exact ⟨w0, w1, rfl⟩
  have hw := fun d (hd : d ∈ tables_1) => atoms_spec (ws := Jvm.Cond.code x code maxLocals ret :: tables_1) hat d (List.mem_cons_of_mem _ hd)
  have hfit : Fit s := fun {y c} hc i hi => by
    obtain ⟨ha, rfl⟩ := Array.getElem?_eq_some_iff.mp hc
    have q := List.all_eq_true.mp ((Array.all_eq_true_iff_forall_mem.mp hF) _ (Array.getElem_mem ha)) i (List.mem_range.mpr hi)
    simpa [Array.getElem?_eq_getElem hi] using q
  obtain ⟨i0, ei0⟩ := is_v g0
  obtain rfl : w0 = (.int i0) := Option.some.inj ei0
  obtain ⟨i1, ei1⟩ := is_v g1
  obtain rfl : w1 = (.int i1) := Option.some.inj ei1
  obtain ⟨x0, y0⟩ := and_e hn
  obtain ⟨x1, y1⟩ := and_e y0
  obtain ⟨x2, y2⟩ := and_e y1
  obtain ⟨x3, y3⟩ := and_e y2
  obtain ⟨x4, y4⟩ := and_e y3
  obtain ⟨x5, y5⟩ := and_e y4
  obtain ⟨x6, y6⟩ := and_e y5
  obtain ⟨x7, y7⟩ := and_e y6
  obtain ⟨x8, y8⟩ := and_e y7
  obtain ⟨x9, y9⟩ := and_e y8
  obtain ⟨x10, y10⟩ := and_e y9
  obtain ⟨w_r, er⟩ := exa_v x0
  obtain ⟨w_v, ev⟩ := arr_v x1
  obtain ⟨w_w, ew⟩ := exa_v x5
  obtain ⟨w_a, ea⟩ := exa_v x7
  obtain ⟨ff, A, hff⟩ := own_Arf.start (n := 3) ev x1 x3 (by decide)
  have P0 : Sta s s.heap "com/example/cairnstore/cairnstore/access/Right" "$VALUES" "[Lcom/example/cairnstore/cairnstore/access/Right;" (.ref w_v) := Sta.start ev (Or.inr ⟨(hw _ (List.mem_of_getElem? (i := 1) rfl)), (hw _ (List.mem_of_getElem? (i := 10) rfl))⟩)
  have P6 : Sta s s.heap "com/example/cairnstore/cairnstore/access/Right" "READ" "Lcom/example/cairnstore/cairnstore/access/Right;" (.ref w_r) := Sta.start er (Or.inr ⟨(hw _ (List.mem_of_getElem? (i := 1) rfl)), (hw _ (List.mem_of_getElem? (i := 2) rfl))⟩)
  have P7 : Sta s s.heap "com/example/cairnstore/cairnstore/access/Right" "WRITE" "Lcom/example/cairnstore/cairnstore/access/Right;" (.ref w_w) := Sta.start ew (Or.inr ⟨(hw _ (List.mem_of_getElem? (i := 1) rfl)), (hw _ (List.mem_of_getElem? (i := 18) rfl))⟩)
  have P8 : Sta s s.heap "com/example/cairnstore/cairnstore/access/Right" "ADMIN" "Lcom/example/cairnstore/cairnstore/access/Right;" (.ref w_a) := Sta.start ea (Or.inr ⟨(hw _ (List.mem_of_getElem? (i := 1) rfl)), (hw _ (List.mem_of_getElem? (i := 19) rfl))⟩)
  have q0 := own_eqref (hff 0 (by decide) (by decide)) er x4
  have q1 := own_eqref (hff 1 (by decide) (by decide)) ew x6
  have q2 := own_eqref (hff 2 (by decide) (by decide)) ea x8
  have P1 : own_Arf s s.heap w_v (.object "com/example/cairnstore/cairnstore/access/Right") 3 (fun i => ([(.ref w_r), (.ref w_w), (.ref w_a)] : List Value).getD i .null) := A.congr (by intro i hi; match i, hi with | 0, _ => exact q0 | 1, _ => exact q1 | 2, _ => exact q2)
  have P2 : Exa s s.heap w_v "[Lcom/example/cairnstore/cairnstore/access/Right;" := Exa.start ev x2
  have P3 : Fld s s.heap w_r "com/example/cairnstore/cairnstore/access/Right" "_letter" "C" (.int 114) := own_fldstart er x9
  have P4 : Fld s s.heap w_w "com/example/cairnstore/cairnstore/access/Right" "_letter" "C" (.int 119) := own_fldstart ew x10
  have P5 : Fld s s.heap w_a "com/example/cairnstore/cairnstore/access/Right" "_letter" "C" (.int 97) := own_fldstart ea y10
  obtain ⟨n, o, h1, h2, h3, _, L, rfl, ⟨rfl, N⟩, hq⟩ := lw_rm l s _ hw tables_1 i0 i1 w_v w_r w_w w_a s.heap s.heap.size (Nat.le_refl _) P0 P1 P2 P3 P4 P5 P6 P7 P8 p e ha hc hk s m _ below hf ((Spec.applies_iff_loose hf).mp happ).1 ⟨rfl, State.Warmed39.refl s, rfl⟩ trivial
  refine ⟨n, _, h1, h2, h3, hpost _ _ _ _ _ _ ⟨Cond.after_iff.mpr rfl, Cond.after_iff.mpr (eq_i res_at (Term.int_eval (1)) (by rw [own_law])), trivial⟩ ⟨hq.1, hq.2.1, (hq.2.2.sift fun y hy => Or.inr (N y hy)).mono (by decide) (by decide)⟩⟩
theorem main_1_1 : Claimed_1_1 := comes_1 fun _ _ _ _ _ _ h hF => ⟨h.1, hF⟩
theorem main_1_2 : Claimed_1_2 := comes_1 fun _ _ _ _ _ _ h hF => ⟨h.2.1, hF⟩
end Jvm.Pilot.@@N@@
namespace Jvm.Pilot.@@N@@
open Jvm Jvm.ClassFile Sem Op Lib Jvm.Free Jvm.Stand Jvm.Pilot.@@N@@.Jvm.D
/-! MADE BY PROGRAM (witnessworld.py) out of the Statement's table words and the real class files: 13 classes; the members and pool entries that the words name. The judged class is class 1, her method 1. -/
namespace start1
open Jvm.ClassFile
def u (s : String) : CpInfo := .utf8 (stringToUtf16 s)
/-- a pool by its gaps: so many unusable entries, then the entry; so many at the end -/
def gap : Nat → List CpInfo → List CpInfo
  | 0, r => r
  | n + 1, r => .unusable :: gap n r
def poolList (es : List (Nat × CpInfo)) (last : Nat) : List CpInfo := es.foldr (fun e r => gap e.1 (e.2 :: r)) (gap last [])
def pool (es : List (Nat × CpInfo)) (last : Nat) : Array CpInfo := ⟨poolList es last⟩
def fileOf (pool : Array CpInfo) (this : Nat) (attrs : Array Attribute := #[]) (ms : Array MethodInfo := #[]) (fl : Nat := 33) (sup : Nat := 0) (ifs : Array Nat := #[]) (fds : Array FieldInfo := #[]) : ClassFile where
  minorVersion := 0
  majorVersion := 65
  constantPool := pool
  accessFlags := fl
  thisClass := this
  superClass := sup
  interfaces := ifs
  fields := fds
  methods := ms
  attributes := attrs
def plain (name : String) (sup : Option ClassId) : Class where
  name := name
  kind := .ordinary
  loader := none
  accessFlags := 33
  super := sup
  interfaces := #[]
  cf := none
  fields := #[]
  methods := #[]
  instanceTypes := #[]
  staticTypes := #[]
  resolved := #[]
  callSites := []
  init := .initialized
  statics := none
  mirror := none

def pool0 : Array CpInfo := pool [(5, u "<init>"), (0, u "()V"), (1, .class_ 10), (1, u "java/lang/Object"), (85, u "clone"), (0, u "()Ljava/lang/Object;")] 26

def k0m0 : Method := { name := "<init>", desc := "()V", sig := { parameters := [], returnType := none }, accessFlags := 1, code := none }
def k0m1 : Method := { name := "clone", desc := "()Ljava/lang/Object;", sig := { parameters := [], returnType := some (.object "java/lang/Object") }, accessFlags := 260, code := none }
/-- java/lang/Object -/
def k0 : Class := { plain "java/lang/Object" none with
  accessFlags := 33
  interfaces := #[]
  cf := some (fileOf pool0 8 #[] #[{ accessFlags := 1, nameIndex := 5, descriptorIndex := 6, attributes := #[] }, { accessFlags := 260, nameIndex := 96, descriptorIndex := 97, attributes := #[] }] 33 0 #[] #[])
  fields := #[]
  methods := #[k0m0, k0m1]
  instanceTypes := #[]
  staticTypes := #[]
  resolved := Array.replicate 124 none
  statics := none }

def pool1 : Array CpInfo := pool [(2, .class_ 4), (1, u "java/lang/Object"), (0, u "<init>"), (0, u "()V"), (0, .integer 65535), (0, .fieldref 9 10), (0, .class_ 11), (0, .nameAndType 12 13), (0, u "com/example/cairnstore/cairnstore/access/Right"), (0, u "READ"), (0, u "Lcom/example/cairnstore/cairnstore/access/Right;"), (0, .fieldref 9 15), (0, .nameAndType 16 13), (0, u "WRITE"), (0, .fieldref 9 18), (0, .nameAndType 19 13), (0, u "ADMIN"), (0, .methodref 9 21), (0, .nameAndType 22 23), (0, u "of"), (0, u "(C)Lcom/example/cairnstore/cairnstore/access/Right;"), (0, .class_ 25), (0, u "com/example/cairnstore/cairnstore/access/RightOfPinLaw"), (2, u "law"), (0, u "(II)Z")] 3

def k1m0 : Method := { name := "<init>", desc := "()V", sig := { parameters := [], returnType := none }, accessFlags := 1, code := none }
def k1c1 : Code := { maxStack := 2, maxLocals := 6, code := code, exceptionTable := #[], attributes := #[] }
def k1m1 : Method := { name := "law", desc := "(II)Z", sig := { parameters := [.int, .int], returnType := some .boolean }, accessFlags := 9, code := some k1c1 }
/-- com/example/cairnstore/cairnstore/access/RightOfPinLaw -/
def k1 : Class := { plain "com/example/cairnstore/cairnstore/access/RightOfPinLaw" (some 0) with
  accessFlags := 49
  interfaces := #[]
  cf := some (fileOf pool1 24 #[] #[{ accessFlags := 1, nameIndex := 5, descriptorIndex := 6, attributes := #[] }, { accessFlags := 9, nameIndex := 28, descriptorIndex := 29, attributes := #[] }] 49 2 #[] #[])
  fields := #[]
  methods := #[k1m0, k1m1]
  instanceTypes := #[]
  staticTypes := #[]
  resolved := Array.replicate 33 none
  statics := none }

def pool2 : Array CpInfo := pool [(1, .class_ 2), (0, u "java/lang/constant/Constable"), (0, .class_ 4), (0, u "java/lang/Object")] 6

/-- java/lang/constant/Constable -/
def k2 : Class := { plain "java/lang/constant/Constable" (some 0) with
  accessFlags := 1537
  interfaces := #[]
  cf := some (fileOf pool2 1 #[] #[] 1537 3 #[] #[])
  fields := #[]
  methods := #[]
  instanceTypes := #[]
  staticTypes := #[]
  resolved := Array.replicate 11 none
  statics := none }

def pool3 : Array CpInfo := pool [(1, .class_ 2), (0, u "java/lang/Comparable"), (0, .class_ 4), (0, u "java/lang/Object")] 7

/-- java/lang/Comparable -/
def k3 : Class := { plain "java/lang/Comparable" (some 0) with
  accessFlags := 1537
  interfaces := #[]
  cf := some (fileOf pool3 1 #[] #[] 1537 3 #[] #[])
  fields := #[]
  methods := #[]
  instanceTypes := #[]
  staticTypes := #[]
  resolved := Array.replicate 12 none
  statics := none }

def pool4 : Array CpInfo := pool [(1, .class_ 2), (0, u "java/io/Serializable"), (0, .class_ 4), (0, u "java/lang/Object")] 2

/-- java/io/Serializable -/
def k4 : Class := { plain "java/io/Serializable" (some 0) with
  accessFlags := 1537
  interfaces := #[]
  cf := some (fileOf pool4 1 #[] #[] 1537 3 #[] #[])
  fields := #[]
  methods := #[]
  instanceTypes := #[]
  staticTypes := #[]
  resolved := Array.replicate 7 none
  statics := none }

def pool5 : Array CpInfo := pool [(2, .class_ 4), (1, u "java/lang/Enum"), (0, u "name"), (0, u "Ljava/lang/String;"), (2, u "ordinal"), (0, u "I"), (1, .class_ 14), (1, u "java/lang/Object"), (4, u "hash"), (86, .class_ 108), (1, u "java/lang/Enum$EnumDesc"), (2, .class_ 112), (0, u "java/lang/constant/Constable"), (0, .class_ 114), (0, u "java/lang/Comparable"), (0, .class_ 116), (0, u "java/io/Serializable")] 87

/-- java/lang/Enum -/
def k5 : Class := { plain "java/lang/Enum" (some 0) with
  accessFlags := 1057
  interfaces := #[2, 3, 4]
  cf := some (fileOf pool5 2 #[.nestMembers #[106]] #[] 1057 12 #[111, 113, 115] #[{ accessFlags := 18, nameIndex := 5, descriptorIndex := 6, attributes := #[] }, { accessFlags := 18, nameIndex := 9, descriptorIndex := 10, attributes := #[] }, { accessFlags := 2, nameIndex := 19, descriptorIndex := 10, attributes := #[] }])
  fields := #[{ name := "name", type := (.object "java/lang/String"), accessFlags := 18, slot := 0, constantValue := 0 }, { name := "ordinal", type := .int, accessFlags := 18, slot := 1, constantValue := 0 }, { name := "hash", type := .int, accessFlags := 2, slot := 2, constantValue := 0 }]
  methods := #[]
  instanceTypes := #[(.object "java/lang/String"), .int, .int]
  staticTypes := #[]
  resolved := Array.replicate 204 none
  statics := none }

def pool6 : Array CpInfo := pool [(1, .class_ 2), (0, u "com/example/cairnstore/cairnstore/access/Right"), (2, u "READ"), (0, u "Lcom/example/cairnstore/cairnstore/access/Right;"), (2, u "WRITE"), (2, u "ADMIN"), (0, .fieldref 1 14), (0, .nameAndType 15 16), (0, u "$VALUES"), (0, u "[Lcom/example/cairnstore/cairnstore/access/Right;"), (0, .methodref 18 19), (0, .class_ 16), (0, .nameAndType 20 21), (0, u "clone"), (0, u "()Ljava/lang/Object;"), (1, .class_ 25), (1, u "java/lang/Enum"), (6, .fieldref 1 33), (0, .nameAndType 34 35), (0, u "_letter"), (0, u "C"), (2, u "_doing"), (0, u "Ljava/lang/String;"), (0, .methodref 1 41), (0, .nameAndType 42 43), (0, u "values"), (0, u "()[Lcom/example/cairnstore/cairnstore/access/Right;"), (25, u "of"), (0, u "(C)Lcom/example/cairnstore/cairnstore/access/Right;")] 6

def k6c0 : Code := { maxStack := 1, maxLocals := 0, code := prog_6_method_1_code, exceptionTable := #[], attributes := #[] }
def k6m0 : Method := { name := "values", desc := "()[Lcom/example/cairnstore/cairnstore/access/Right;", sig := { parameters := [], returnType := some (.array (.object "com/example/cairnstore/cairnstore/access/Right")) }, accessFlags := 9, code := some k6c0 }
def k6c1 : Code := { maxStack := 2, maxLocals := 5, code := prog_6_method_6_code, exceptionTable := #[], attributes := #[] }
def k6m1 : Method := { name := "of", desc := "(C)Lcom/example/cairnstore/cairnstore/access/Right;", sig := { parameters := [.char], returnType := some (.object "com/example/cairnstore/cairnstore/access/Right") }, accessFlags := 8, code := some k6c1 }
/-- com/example/cairnstore/cairnstore/access/Right -/
def k6 : Class := { plain "com/example/cairnstore/cairnstore/access/Right" (some 5) with
  accessFlags := 16433
  interfaces := #[]
  cf := some (fileOf pool6 1 #[] #[{ accessFlags := 9, nameIndex := 42, descriptorIndex := 43, attributes := #[] }, { accessFlags := 8, nameIndex := 69, descriptorIndex := 70, attributes := #[] }] 16433 23 #[] #[{ accessFlags := 16409, nameIndex := 5, descriptorIndex := 6, attributes := #[] }, { accessFlags := 16409, nameIndex := 9, descriptorIndex := 6, attributes := #[] }, { accessFlags := 16409, nameIndex := 12, descriptorIndex := 6, attributes := #[] }, { accessFlags := 18, nameIndex := 34, descriptorIndex := 35, attributes := #[] }, { accessFlags := 18, nameIndex := 38, descriptorIndex := 39, attributes := #[] }, { accessFlags := 4122, nameIndex := 15, descriptorIndex := 16, attributes := #[] }])
  fields := #[{ name := "READ", type := (.object "com/example/cairnstore/cairnstore/access/Right"), accessFlags := 16409, slot := 0, constantValue := 0 }, { name := "WRITE", type := (.object "com/example/cairnstore/cairnstore/access/Right"), accessFlags := 16409, slot := 1, constantValue := 0 }, { name := "ADMIN", type := (.object "com/example/cairnstore/cairnstore/access/Right"), accessFlags := 16409, slot := 2, constantValue := 0 }, { name := "_letter", type := .char, accessFlags := 18, slot := 3, constantValue := 0 }, { name := "_doing", type := (.object "java/lang/String"), accessFlags := 18, slot := 4, constantValue := 0 }, { name := "$VALUES", type := (.array (.object "com/example/cairnstore/cairnstore/access/Right")), accessFlags := 4122, slot := 3, constantValue := 0 }]
  methods := #[k6m0, k6m1]
  instanceTypes := #[(.object "java/lang/String"), .int, .int, .char, (.object "java/lang/String")]
  staticTypes := #[(.object "com/example/cairnstore/cairnstore/access/Right"), (.object "com/example/cairnstore/cairnstore/access/Right"), (.object "com/example/cairnstore/cairnstore/access/Right"), (.array (.object "com/example/cairnstore/cairnstore/access/Right"))]
  resolved := Array.replicate 77 none
  statics := some 0 }

def pool7 : Array CpInfo := pool [(1, .class_ 2), (0, u "java/lang/Cloneable"), (0, .class_ 4), (0, u "java/lang/Object")] 2

/-- java/lang/Cloneable -/
def k7 : Class := { plain "java/lang/Cloneable" (some 0) with
  accessFlags := 1537
  interfaces := #[]
  cf := some (fileOf pool7 1 #[] #[] 1537 3 #[] #[])
  fields := #[]
  methods := #[]
  instanceTypes := #[]
  staticTypes := #[]
  resolved := Array.replicate 7 none
  statics := none }

/-- the primitive byte -/
def k8 : Class := { plain "byte" none with kind := .primitive 'B', accessFlags := 0x411 }
/-- [B -/
def k9 : Class := { plain "[B" (some 0) with kind := .array 8 .byte, interfaces := #[7, 4], accessFlags := 1041 }

/-- the primitive int -/
def k10 : Class := { plain "int" none with kind := .primitive 'I', accessFlags := 0x411 }
/-- [I -/
def k11 : Class := { plain "[I" (some 0) with kind := .array 10 .int, interfaces := #[7, 4], accessFlags := 1041 }

/-- [Lcom/example/cairnstore/cairnstore/access/Right; -/
def k12 : Class := { plain "[Lcom/example/cairnstore/cairnstore/access/Right;" (some 0) with kind := .array 6 (.object "com/example/cairnstore/cairnstore/access/Right"), interfaces := #[7, 4], accessFlags := 1041 }

def heap : Heap := #[{ cls := 6, slots := #[.ref 2, .ref 3, .ref 4, .ref 1], vm := .statics 6 },
  { cls := 12, slots := #[.ref 2, .ref 3, .ref 4], vm := .none },
  { cls := 6, slots := #[.null, .int 0, .int 0, .int 114, .null], vm := .none },
  { cls := 6, slots := #[.null, .int 0, .int 0, .int 119, .null], vm := .none },
  { cls := 6, slots := #[.null, .int 0, .int 0, .int 97, .null], vm := .none }]
def classes : Array Class := #[k0, k1, k2, k3, k4, k5, k6, k7, k8, k9, k10, k11, k12]
def interned : List (Array UInt16 × Addr) := []
def slotsUsed : Nat := 22
def theMethod : MethodId := ⟨1, 1⟩
def args0 : Array Value := #[.int 5, .int 3]
def aboutOver (below : List Frame) : State where
  vm := { classes := classes, interned := interned.toArray }
  heap := heap
  slotsUsed := slotsUsed
  threads := #[{ frames := .invoking theMethod args0 :: below }]
def below0 : List Frame := [.native { method := ⟨0, 0⟩, args := #[] }]
def about1 : State := aboutOver below0
def p0 : Program := .bare "" "" ""
def e0 : Env := launch0.env 0 0 0
theorem w_frames : about1.frames = Frame.invoking theMethod args0 :: below0 := rfl
set_option maxRecDepth 65536 in
theorem w_args : argsFit about1.vm theMethod args0 = true := by decide +kernel
set_option maxRecDepth 65536 in
theorem w_heap : heapFits about1 = true := by decide +kernel
set_option maxRecDepth 65536 in
theorem w_runnable : about1.curStatus? = some .runnable := by decide +kernel
set_option maxRecDepth 65536 in
theorem w_alone : about1.alone = true := by decide +kernel
set_option maxRecDepth 65536 in
theorem w_named : about1.methodNamed? x = some theMethod := by decide +kernel
set_option maxRecDepth 65536 in
theorem w_hears : about1.hears theMethod below0 = true := by decide +kernel
set_option maxRecDepth 65536 in
theorem w_ripe : about1.ripe theMethod args0 below0 = true := by decide +kernel
theorem w_running : about1.status = .running := rfl
set_option maxRecDepth 65536 in
theorem w_room : about1.hasRoom e0.platform room_1 = true :=
  launch0.hasRoom_least _ room_1 (by decide +kernel) (by decide +kernel) (by decide +kernel) (by decide +kernel) (by decide +kernel) (by decide +kernel)
theorem allAtoms_all (ts : List Jvm.Cond) (a : Array Jvm.Value) (st : Jvm.State) : (allAtoms ts).before a st = ts.all (fun c => c.before a st) := by
  induction ts with
  | nil => rfl
  | cons c t ih =>
    show (Jvm.Cond.and c (allAtoms t)).before a st = _
    rw [Jvm.Cond.before_and, ih, List.all_cons]
def words1 : List Jvm.Cond := Jvm.Cond.code x code maxLocals ret :: tables_1
/-- a 'code' word, met by the world's own term for the bytes: nothing is compared byte by byte -/
theorem code_word {y : MethodName} {bytes : ByteArray} {mx : Nat} {rt : Option FieldType} {a : Array Value} {s : State} {m : MethodId} {meth : Method} {c : Code} (h1 : s.methodNamed? y = some m) (h2 : s.vm.method? m = some meth) (h3 : meth.code = some c) (h4 : c.code = bytes)
    (h5 : (c.maxLocals == mx && c.exceptionTable.isEmpty && decide (c.maxStack ≤ mostOperands) && decide (meth.sig.returnType = rt) && !meth.locks && decide (parseMethodDescriptor y.desc = some meth.sig)) = true) : (Jvm.Cond.code y bytes mx rt).before a s = true := by
  simp only [Bool.and_eq_true, beq_iff_eq, Bool.not_eq_true', decide_eq_true_eq] at h5
  obtain ⟨⟨⟨⟨⟨g1, g2⟩, g3⟩, g4⟩, g5⟩, g6⟩ := h5
  simp [Cond.before, Cond.holds, Cond.value, h1, h2, h3, h4, g1, g2, g3, g4, g5, g6]
def isCode : Jvm.Cond → Bool
  | .code _ _ _ _ => true
  | _ => false
theorem all_split {L : List Jvm.Cond} {P : Jvm.Cond → Bool} (h1 : L.all (fun c => isCode c || P c) = true) (h2 : ∀ c ∈ L.filter isCode, P c = true) : L.all P = true := by
  refine List.all_eq_true.mpr fun c hc => ?_
  have h := List.all_eq_true.mp h1 c hc
  rcases Bool.eq_false_or_eq_true (isCode c) with hi | hi
  · exact h2 c (List.mem_filter.mpr ⟨hc, hi⟩)
  · simpa [hi] using h
set_option maxRecDepth 65536 in
theorem w_c0 : (Jvm.Cond.code x code maxLocals ret).before args0 about1 = true := code_word (m := ⟨1, 1⟩) (meth := k1m1) (c := k1c1) (by decide +kernel) rfl rfl rfl (by decide +kernel)
set_option maxRecDepth 65536 in
theorem w_c1 : (Jvm.Cond.code ({ cls := "com/example/cairnstore/cairnstore/access/Right", name := "of", desc := "(C)Lcom/example/cairnstore/cairnstore/access/Right;" } : Jvm.MethodName) prog_6_method_6_code (5 : Nat) (Option.some (Jvm.ClassFile.FieldType.object "com/example/cairnstore/cairnstore/access/Right"))).before args0 about1 = true := code_word (m := ⟨6, 1⟩) (meth := k6m1) (c := k6c1) (by decide +kernel) rfl rfl rfl (by decide +kernel)
set_option maxRecDepth 65536 in
theorem w_c2 : (Jvm.Cond.code ({ cls := "com/example/cairnstore/cairnstore/access/Right", name := "values", desc := "()[Lcom/example/cairnstore/cairnstore/access/Right;" } : Jvm.MethodName) prog_6_method_1_code (0 : Nat) (Option.some (Jvm.ClassFile.FieldType.array (Jvm.ClassFile.FieldType.object "com/example/cairnstore/cairnstore/access/Right")))).before args0 about1 = true := code_word (m := ⟨6, 0⟩) (meth := k6m0) (c := k6c0) (by decide +kernel) rfl rfl rfl (by decide +kernel)
def codes1 : List Jvm.Cond := [Jvm.Cond.code x code maxLocals ret, Jvm.Cond.code ({ cls := "com/example/cairnstore/cairnstore/access/Right", name := "of", desc := "(C)Lcom/example/cairnstore/cairnstore/access/Right;" } : Jvm.MethodName) prog_6_method_6_code (5 : Nat) (Option.some (Jvm.ClassFile.FieldType.object "com/example/cairnstore/cairnstore/access/Right")), Jvm.Cond.code ({ cls := "com/example/cairnstore/cairnstore/access/Right", name := "values", desc := "()[Lcom/example/cairnstore/cairnstore/access/Right;" } : Jvm.MethodName) prog_6_method_1_code (0 : Nat) (Option.some (Jvm.ClassFile.FieldType.array (Jvm.ClassFile.FieldType.object "com/example/cairnstore/cairnstore/access/Right")))]
set_option maxRecDepth 65536 in
theorem codes_eq : words1.filter isCode = codes1 := rfl
theorem w_codes : ∀ c ∈ words1.filter isCode, c.before args0 about1 = true := by
  rw [codes_eq]
  intro c hc
  simp only [codes1, List.mem_cons, List.not_mem_nil, or_false] at hc
  rcases hc with rfl | rfl | rfl
  · exact w_c0
  · exact w_c1
  · exact w_c2
set_option maxRecDepth 65536 in
theorem w_t1 : (words1.take 24).all (fun c => isCode c || c.before args0 about1) = true := by decide +kernel
set_option maxRecDepth 65536 in
theorem w_t2 : (words1.drop 24).all (fun c => isCode c || c.before args0 about1) = true := by decide +kernel
theorem w_tables : (allAtoms (Jvm.Cond.code x code maxLocals ret :: tables_1)).before args0 about1 = true := by
  rw [allAtoms_all]
  show words1.all (fun c => c.before args0 about1) = true
  refine all_split ?_ w_codes
  rw [← List.take_append_drop 24 words1, List.all_append, w_t1, w_t2]
  rfl
set_option maxRecDepth 65536 in
theorem w_case : (Jvm.Cond.and given_1 narrow_1).before args0 about1 = true := by decide +kernel
theorem w_applies : (headSpec (Jvm.Cond.code x code maxLocals ret :: tables_1) room_1).applies x e0.platform about1 = true :=
  (Spec.applies_iff w_frames).mpr ⟨w_running, w_runnable, w_alone, w_named, w_hears, w_ripe, w_room, w_tables⟩
theorem atStart : AtStart classFile x code maxLocals ret World_1 tables_1 room_1 Calls_1 rest_1 Pre_1 launch0 p0 e0 about1 theMethod args0 below0 :=
  ⟨lists_1, trivial, launch0.admits_env _ _ _, launch0.least_env, fairChoices_fair.cas, fairChoices_fair.clock, w_frames, w_args, w_heap, w_applies, trivial, trivial, w_case⟩
end start1
theorem witness_1 : WitnessClaimed_1 := ⟨start1.p0, start1.e0, start1.about1, start1.theMethod, start1.args0, start1.below0, start1.atStart⟩
end Jvm.Pilot.@@N@@
