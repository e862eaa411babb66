import JvmDerived
import JvmDerived.Pilot.@@N@@Statement
import JvmDerived.Pilot.@@N@@Code
set_option linter.unusedVariables false
set_option linter.unusedSimpArgs false

namespace Jvm.Pilot.@@N@@
open Jvm Jvm.ClassFile Sem Op Lib Jvm.Free Jvm.Stand Jvm.LawKit Jvm.RoadKit Bundle Jvm.Pilot.@@N@@.Jvm.D
/-! own layer: 'from here the run ends, and Q holds of what it leaves' (own_Dn), stepped backwards -/
def own_Dn (p : Program) (e : Env) (below : List Frame) (s : State) (Q : Option Value → Heap → List Loc → Prop) (K N : Nat) (A : State) : Prop :=
  ∃ s₂ o, Steps p.tables e below A s₂ ∧ s₂.status = .running ∧ Ended s₂ below o ∧ ∃ v L, o = .returned v ∧ Q v s₂.heap L ∧ FrameEnd s o s₂ L K N
def own_Q (r : Option Value) (n0 : Nat) (h0 : Heap) (v : Option Value) (h : Heap) (L : List Loc) : Prop := v = r ∧ Fr n0 L ∧ h = h0
def own_QL (r : Option Value) (n0 : Nat) (v : Option Value) (h : Heap) (L : List Loc) : Prop := v = r ∧ Fr n0 L
def own_Cx (p : Program) (s : State) (m : MethodId) (meth : Method) (c : Code) (Z : State) (a0 : Array Value) (bytes : ByteArray) (ml : Nat) (own nm : String) (ret : Option FieldType) : Prop :=
  p.tables.exec = Jvm.exec ∧ Z.Warmed39 s.vm ∧ (∀ d ∈ tables_1, d.before a0 Z = true) ∧ c.code = bytes ∧ c.maxLocals = ml ∧ s.vm.findClass own = some m.cls ∧ meth.sig.returnType = ret ∧ meth.locks = false ∧ meth.name = nm
theorem own_st {p : Program} {e : Env} {below : List Frame} {s : State} {Q : Option Value → Heap → List Loc → Prop} {K N : Nat} {A B : State} (k : ∀ t, Steps p.tables e below B t → Steps p.tables e below A t) (d : own_Dn p e below s Q K N B) : own_Dn p e below s Q K N A := by
  obtain ⟨s₂, o, h, r⟩ := d
  exact ⟨s₂, o, k _ h, r⟩
theorem own_tr {p : Program} {e : Env} {below : List Frame} {s : State} {Q : Option Value → Heap → List Loc → Prop} {K N : Nat} {A B : State} (k : Steps p.tables e below A B) (d : own_Dn p e below s Q K N B) : own_Dn p e below s Q K N A :=
  own_st (fun _ h => k.trans h) d
theorem own_cat {v : Value} (h : v.isRef = true) : v.category = 1 := by
  cases v <;> first | rfl | (simp [Value.isRef] at h)
section own
variable {p : Program} {l : Launch} {e : Env} {R : Room} {s : State} {m : MethodId} {args : Array Value} {below : List Frame} {meth : Method} {c : Code} {T : State} {locs : List Loc} {cells slots : Nat} {Q : Option Value → Heap → List Loc → Prop} {K N : Nat}
theorem own_ret (X : Stand p l e R s m args below meth c T locs cells slots) (hlk : meth.locks = false) {v : Option Value} (hv : meth.sig.returnType = none → v = none) {A : State} (hK : cells ≤ K) (hN : slots ≤ N) (hq : Q v T.heap locs)
    (hst : ∀ fs, (∀ (f : JFrame) (acts : List Action), f.method = m → f.locked = none → f.entered = [] → (doReturn e (T.setTop f) acts v).1 = T.setFrames fs) → Steps p.tables e below A (T.setFrames fs)) : own_Dn p e below s Q K N A := by
  obtain ⟨fs, hr, hrun, hended, hW, hsame⟩ := X.leave (v := v) hv hlk
  exact ⟨_, _, hst fs hr, hrun, hended, _, _, rfl, hq, ⟨_, rfl⟩, hW, hsame.mono hK hN⟩
theorem own_retI (X : Stand p l e R s m args below meth c T locs cells slots) (hx : p.tables.exec = Jvm.exec) (hret : meth.sig.returnType = some .int) (hlk : meth.locks = false) {pc : Nat} {Ls : Array Slot} {z : Int32} {rest : List Value} (hd : decode c.code pc = .ok (.ireturn, 1)) (hK : cells ≤ K) (hN : slots ≤ N)
    (hq : Q (some (.int z)) T.heap locs) : own_Dn p e below s Q K N (T.setTop (mkF m pc Ls (.int z :: rest))) :=
  own_ret X hlk (fun h => by rw [hret] at h; cases h) hK hN hq (fun fs hr => retOut X hx hret rfl (Or.inl ⟨rfl, Or.inl rfl, _, rfl⟩) hd hr)
theorem own_retJ (X : Stand p l e R s m args below meth c T locs cells slots) (hx : p.tables.exec = Jvm.exec) (hret : meth.sig.returnType = some .long) (hlk : meth.locks = false) {pc : Nat} {Ls : Array Slot} {z : Int64} {rest : List Value} (hd : decode c.code pc = .ok (.lreturn, 1)) (hK : cells ≤ K) (hN : slots ≤ N)
    (hq : Q (some (.long z)) T.heap locs) : own_Dn p e below s Q K N (T.setTop (mkF m pc Ls (.long z :: rest))) :=
  own_ret X hlk (fun h => by rw [hret] at h; cases h) hK hN hq (fun fs hr => retOut X hx hret rfl (Or.inr (Or.inl ⟨rfl, rfl, _, rfl⟩)) hd hr)
theorem own_retZ (X : Stand p l e R s m args below meth c T locs cells slots) (hx : p.tables.exec = Jvm.exec) (hret : meth.sig.returnType = some .boolean) (hlk : meth.locks = false) {pc : Nat} {Ls : Array Slot} {z : Int32} {rest : List Value} (hz : z &&& 1 = z) (hd : decode c.code pc = .ok (.ireturn, 1)) (hK : cells ≤ K) (hN : slots ≤ N)
    (hq : Q (some (.int z)) T.heap locs) : own_Dn p e below s Q K N (T.setTop (mkF m pc Ls (.int z :: rest))) :=
  own_ret X hlk (fun h => by rw [hret] at h; cases h) hK hN hq (fun fs hr => retOut X hx (w := .int z) hret (show Value.int (z &&& 1) = .int z from congrArg Value.int hz) (Or.inl ⟨rfl, Or.inr (Or.inl rfl), _, rfl⟩) hd hr)
theorem own_retV (X : Stand p l e R s m args below meth c T locs cells slots) (hx : p.tables.exec = Jvm.exec) (hret : meth.sig.returnType = none) (hlk : meth.locks = false) {pc : Nat} {Ls : Array Slot} (hd : decode c.code pc = .ok (.return_, 1)) (hK : cells ≤ K) (hN : slots ≤ N)
    (hq : Q none T.heap locs) : own_Dn p e below s Q K N (T.setTop (mkF m pc Ls [])) :=
  own_ret X hlk (fun _ => rfl) hK hN hq (fun fs hr => X.returnOut hx hret hd hr)
theorem own_retA (X : Stand p l e R s m args below meth c T locs cells slots) (hx : p.tables.exec = Jvm.exec) {t : FieldType} (ht : t.isReference = true) (hret : meth.sig.returnType = some t) (hlk : meth.locks = false) {pc : Nat} {Ls : Array Slot} {w : Value} {rest : List Value} (hw : w.isRef = true) (hn : narrow t w = w) (hd : decode c.code pc = .ok (.areturn, 1)) (hK : cells ≤ K) (hN : slots ≤ N)
    (hq : Q (some w) T.heap locs) : own_Dn p e below s Q K N (T.setTop (mkF m pc Ls (w :: rest))) :=
  own_ret X hlk (fun h => by rw [hret] at h; cases h) hK hN hq (fun fs hr => retOut X hx hret hn (Or.inr (Or.inr (Or.inr (Or.inr ⟨rfl, ht, hw⟩)))) hd hr)
end own
theorem own_met {l : Launch} {Z : State} {a0 : Array Value} (hw : ∀ d ∈ tables_1, d.before a0 Z = true) {y : MethodName} {bytes : ByteArray} {ml : Nat} {ret : Option FieldType} {ws : List Jvm.Cond} {rm : Room} {as' : Array Value} {h0 : Heap} {Q : Option Value → Heap → List Loc → Prop} (hpl : plainFor y = true)
    (body : ∀ p e s m below meth c s₁, own_Cx p s m meth c Z a0 bytes ml y.cls y.name ret → Stand p l e rm s m as' below meth c s₁ [] 0 0 → s₁.heap = h0 → own_Dn p e below s Q rm.cells rm.slots (s₁.setTop (entryFrame m as' ml))) :
    MetFree l y (head1 (Jvm.Cond.code y bytes ml ret :: ws) rm) (fun a U => a = as' ∧ Z.Warmed39 U.vm ∧ U.heap = h0) (fun _ _ _ _ _ => True) (fun _ U o U' => ∃ v L, o = .returned v ∧ Q v U'.heap L ∧ FrameEnd U o U' L rm.cells rm.slots) := by
  refine MetFree.of_bodySF hpl hisR ?_
  intro p e s m args below meth c s₁ Bd hml0 hP hK
  obtain ⟨rfl, hZ, hh⟩ := hP
  exact body p e s m below meth c s₁ ⟨Bd.exec, hZ, hw, Bd.bytes, hml0, findClass_of_methodNamed Bd.named, Bd.returns, BodyLoose.notSynchronized Bd, (name_of_methodNamed Bd.named Bd.method).1⟩ (Stand.of_body Bd) (by rw [← hh, Bd.state]; rfl)
theorem own_jtlt {x y : Int64} (h : x < y) : ifCond.holds .lt (lcmpW x y) = true ∧ ifCond.holds .ge (lcmpW x y) = false ∧ ifCond.holds .gt (lcmpW y x) = true ∧ ifCond.holds .le (lcmpW y x) = false := by
  have h1 : lcmpW x y < 0 := by rw [lcW]; exact (lc_lt x y).mpr h
  have h2 : 0 < lcmpW y x := by rw [lcW]; exact (lc_gt y x).mpr h
  exact ⟨(if0 _ _).trans (tlt h1).1, (if0 _ _).trans (tlt h1).2.1, (if0 _ _).trans (tlt h2).2.2.1, (if0 _ _).trans (tlt h2).2.2.2⟩
theorem own_jflt {x y : Int64} (h : ¬ x < y) : ifCond.holds .lt (lcmpW x y) = false ∧ ifCond.holds .ge (lcmpW x y) = true ∧ ifCond.holds .gt (lcmpW y x) = false ∧ ifCond.holds .le (lcmpW y x) = true := by
  have h1 : ¬ lcmpW x y < 0 := by rw [lcW]; exact fun q => h ((lc_lt x y).mp q)
  have h2 : ¬ 0 < lcmpW y x := by rw [lcW]; exact fun q => h ((lc_gt y x).mp q)
  exact ⟨(if0 _ _).trans (flt h1).1, (if0 _ _).trans (flt h1).2.1, (if0 _ _).trans (flt h2).2.2.1, (if0 _ _).trans (flt h2).2.2.2⟩
theorem own_jteq {x y : Int64} (h : x = y) : ifCond.holds .eq (lcmpW x y) = true ∧ ifCond.holds .ne (lcmpW x y) = false := by
  have h1 : lcmpW x y = 0 := by rw [lcW]; exact (lc_eq x y).mpr h
  exact ⟨(if0 _ _).trans (teq h1).1, (if0 _ _).trans (teq h1).2⟩
theorem own_jfeq {x y : Int64} (h : ¬ x = y) : ifCond.holds .eq (lcmpW x y) = false ∧ ifCond.holds .ne (lcmpW x y) = true := by
  have h1 : ¬ lcmpW x y = 0 := by rw [lcW]; exact fun q => h ((lc_eq x y).mp q)
  exact ⟨(if0 _ _).trans (feq h1).1, (if0 _ _).trans (feq h1).2⟩
theorem own_miss (a : Int32) (ks : List Int32) (h : ∀ k ∈ ks, ¬ a = k) {ps : List (Int × Int)} (e : ps.map (·.1) = ks.map Int32.toInt) : ∀ p ∈ ps, p.1 ≠ a.toInt := by
  intro p hp q
  have h1 : p.1 ∈ ps.map (·.1) := List.mem_map.mpr ⟨p, hp, rfl⟩
  rw [e] at h1
  obtain ⟨k, hk, r⟩ := List.mem_map.mp h1
  exact h k hk (Int32.toInt_inj.mp (q.symm.trans r.symm))
theorem own_Sta_keep {Z : State} {h h' : Heap} {C n d : String} {v : Value} {a : Addr} {C' : String} (F : Sta Z h C n d v) (K : Keep h h' [a]) (E : Exa Z h a C') : Sta Z h' C n d v := by
  obtain ⟨cf, i, k, f, st, cell, h1, h2, h3, h4, h5, h6, h7⟩ := F
  obtain ⟨cl, k', e1, -, -, e4, -⟩ := E
  refine ⟨cf, i, k, f, st, cell, h1, h2, h3, h4, K.2.1 _ _ h5 (ninS (fun q => ?_) nin0), h6, h7⟩
  subst q
  cases h5.symm.trans e1
  rw [h6] at e4; cases e4
theorem own_Sta_keep0 {Z : State} {h h' : Heap} {C n d : String} {v : Value} (F : Sta Z h C n d v) (K : Keep h h' []) : Sta Z h' C n d v := by
  obtain ⟨cf, i, k, f, st, cell, h1, h2, h3, h4, h5, h6, h7⟩ := F
  exact ⟨cf, i, k, f, st, cell, h1, h2, h3, h4, K.2.1 _ _ h5 nin0, h6, h7⟩
theorem own_ne_or {r x : Addr} {ws : List Addr} {H : Heap} (h : r ∈ ws ∨ H.size ≤ r) (hl : x < H.size) (hn : x ∉ ws) : x ≠ r := fun e => h.elim (fun q => hn (e ▸ q)) (fun q => Nat.lt_irrefl _ (Nat.lt_of_lt_of_le (e ▸ hl) q))
theorem own_or_up {r : Addr} {ws ws' : List Addr} {h0 H : Heap} (h : r ∈ ws ∨ H.size ≤ r) (hk : h0.size ≤ H.size) (all : ∀ x ∈ ws, x ∈ ws' ∨ h0.size ≤ x) : r ∈ ws' ∨ h0.size ≤ r := h.elim (all r) (fun q => Or.inr (Nat.le_trans hk q))
theorem own_selp {Z s : State} {a0 args : Array Value} {y : MethodName} {n : Nat} (hZ : Z.Warmed39 s.vm) (w1 : (Cond.instantiable y.cls n).before a0 Z = true) (w2 : (Cond.instanceMethod y).before a0 Z = true) (w3 : (Cond.privateMethod y).before a0 Z = true) (hy : y.cls ≠ "java/lang/invoke/MethodHandle" ∧ y.cls ≠ "java/lang/invoke/VarHandle") : (Cond.selects y.cls y y).before args s = true := by
  have i1 : (Cond.instantiable y.cls n).before args s = true := mvT hZ w1
  obtain ⟨c, k, h1, h2, -, h4, -, -⟩ := Cond.instantiable_spec i1
  have h5 : k.isInterface = false := by
    cases hk : k.isInterface
    · rfl
    · rw [hk] at h4; simp at h4
  exact selects_self_of_private h1 h2 h5 (Cond.privateMethod_at (mvP hZ w3 (args := args))) (mvT hZ w2) hy

/-! own layer, arrays: an array's places as a function -/
def own_Arf (Z : State) (h : Heap) (a : Addr) (ty : FieldType) (n : Nat) (f : Nat → Value) : Prop := ∃ c : Cell, Arr Z h a c ty ∧ c.slots.size = n ∧ n < 2 ^ 31 ∧ ∀ i, i < n → c.slots[i]? = some (f i)
def own_upd {α : Type} (g : Nat → α) (j : Nat) (v : α) (i : Nat) : α := if i = j then v else g i
section ownA
variable {Z : State} {h h' : Heap} {a b : Addr} {ty : FieldType} {n sl : Nat} {f : Nat → Value} {v : Value} {ws : List Addr}
theorem own_Arf.lt (F : own_Arf Z h a ty n f) : a < h.size := by obtain ⟨c, A, -⟩ := F; exact A.lt
theorem own_Arf.ext (F : own_Arf Z h a ty n f) (E : Ext h h') : own_Arf Z h' a ty n f := by obtain ⟨c, A, q⟩ := F; exact ⟨c, A.ext E, q⟩
theorem own_Arf.other (F : own_Arf Z h b ty n f) (W : Wr h h' a sl v) (q : b ≠ a) : own_Arf Z h' b ty n f := by obtain ⟨c, A, r⟩ := F; exact ⟨c, A.other W q, r⟩
theorem own_Arf.keep (F : own_Arf Z h a ty n f) (K : Keep h h' ws) (q : a ∉ ws) : own_Arf Z h' a ty n f := by obtain ⟨c, A, r⟩ := F; exact ⟨c, ⟨K.2.1 _ _ A.1 q, A.2⟩, r⟩
theorem own_Arf.congr {f' : Nat → Value} (F : own_Arf Z h a ty n f) (q : ∀ i, i < n → f i = f' i) : own_Arf Z h a ty n f' := by
  obtain ⟨c, A, hs, hn, hf⟩ := F
  exact ⟨c, A, hs, hn, fun i hi => by rw [hf i hi, q i hi]⟩
theorem own_Arf.new {k : ClassId} {z : Int32} (A : Arr Z h a (newA k ty z) ty) (q : z.toNatClampNeg = n) (hn : n < 2 ^ 31) : own_Arf Z h a ty n (fun _ => defaultValue ty) := by
  refine ⟨_, A, by rw [sz_new]; exact q, hn, fun i hi => ?_⟩
  simp [newA, q, hi]
theorem own_Arf.set (F : own_Arf Z h a ty n f) (W : Wr h h' a sl v) (hj : sl < n) : own_Arf Z h' a ty n (own_upd f sl v) := by
  obtain ⟨c, A, hs, hn, hf⟩ := F
  refine ⟨c.setSlot sl v, A.same W, by rw [sz_set]; exact hs, hn, fun i hi => ?_⟩
  simp only [own_upd]
  split
  · rename_i q; subst q; simp [Cell.setSlot, hs, hi]
  · rename_i q; simp [Cell.setSlot, Array.getElem?_setIfInBounds, Ne.symm q, hf i hi]
theorem own_Arf.setI {g : Nat → Int32} {x : Int32} (F : own_Arf Z h a ty n (fun i => .int (g i))) (W : Wr h h' a sl (.int x)) (hj : sl < n) : own_Arf Z h' a ty n (fun i => .int (own_upd g sl x i)) :=
  (F.set W hj).congr fun i _ => by simp only [own_upd]; split <;> rfl
theorem own_Arf.setJ {g : Nat → Int64} {x : Int64} (F : own_Arf Z h a ty n (fun i => .long (g i))) (W : Wr h h' a sl (.long x)) (hj : sl < n) : own_Arf Z h' a ty n (fun i => .long (own_upd g sl x i)) :=
  (F.set W hj).congr fun i _ => by simp only [own_upd]; split <;> rfl
variable {p : Program} {l : Launch} {e : Env} {R : Room} {s : State} {m : MethodId} {args : Array Value} {below : List Frame} {meth : Method} {c : Code} {T : State} {locs : List Loc} {cells slots : Nat}
theorem own_ldI (X : Stand p l e R s m args below meth c T locs cells slots) (hx : p.tables.exec = Jvm.exec) (hZ : Z.Warmed39 s.vm) (eT : T.heap = h) (F : own_Arf Z h a .int n f) {j : Int32} (h0 : ¬ j < 0) (hj : j.toNatClampNeg < n) {pc : Nat} {L : Array Slot} {rest : List Value} (hd : decode c.code pc = .ok (.iaload, 1)) :
    ∀ target, Steps p.tables e below (T.setTop (mkF m (pc + 1) L (f j.toNatClampNeg :: rest))) target → Steps p.tables e below (T.setTop (mkF m pc L (.int j :: .ref a :: rest))) target := by
  obtain ⟨cl, A, hs, hn, hf⟩ := F
  intro target k
  exact X.iaload hx (j := j) (v := f j.toNatClampNeg) (by rw [eT]; exact A.1) (State.isArrayOf_alike hZ.alike A.2.1) A.2.2 (fun q => q.elim h0 (fun r => by omega)) (hf _ hj) (g := mkF m pc L (.int j :: .ref a :: rest)) rfl rfl hd _ k
theorem own_ldJ (X : Stand p l e R s m args below meth c T locs cells slots) (hx : p.tables.exec = Jvm.exec) (hZ : Z.Warmed39 s.vm) (eT : T.heap = h) (F : own_Arf Z h a .long n f) {j : Int32} (h0 : ¬ j < 0) (hj : j.toNatClampNeg < n) {pc : Nat} {L : Array Slot} {rest : List Value} (hd : decode c.code pc = .ok (.laload, 1)) :
    ∀ target, Steps p.tables e below (T.setTop (mkF m (pc + 1) L (f j.toNatClampNeg :: rest))) target → Steps p.tables e below (T.setTop (mkF m pc L (.int j :: .ref a :: rest))) target := by
  obtain ⟨cl, A, hs, hn, hf⟩ := F
  intro target k
  exact X.laload hx (j := j) (v := f j.toNatClampNeg) (by rw [eT]; exact A.1) (State.isArrayOf_alike hZ.alike A.2.1) A.2.2 (fun q => q.elim h0 (fun r => by omega)) (hf _ hj) (g := mkF m pc L (.int j :: .ref a :: rest)) rfl rfl hd _ k
theorem own_ldB (X : Stand p l e R s m args below meth c T locs cells slots) (hx : p.tables.exec = Jvm.exec) (hZ : Z.Warmed39 s.vm) (eT : T.heap = h) (F : own_Arf Z h a .byte n f) {j : Int32} (h0 : ¬ j < 0) (hj : j.toNatClampNeg < n) {pc : Nat} {L : Array Slot} {rest : List Value} (hd : decode c.code pc = .ok (.baload, 1)) :
    ∀ target, Steps p.tables e below (T.setTop (mkF m (pc + 1) L (f j.toNatClampNeg :: rest))) target → Steps p.tables e below (T.setTop (mkF m pc L (.int j :: .ref a :: rest))) target := by
  obtain ⟨cl, A, hs, hn, hf⟩ := F
  intro target k
  exact X.baloadBytes hx (j := j) (v := f j.toNatClampNeg) (by rw [eT]; exact A.1) (State.isArrayOf_alike hZ.alike A.2.1) A.2.2 (fun q => q.elim h0 (fun r => by omega)) (hf _ hj) (g := mkF m pc L (.int j :: .ref a :: rest)) rfl rfl hd _ k
theorem own_len (X : Stand p l e R s m args below meth c T locs cells slots) (hx : p.tables.exec = Jvm.exec) (hZ : Z.Warmed39 s.vm) (eT : T.heap = h) (F : own_Arf Z h a ty n f) {z : Int32} (hz : n.toInt32 = z) {pc : Nat} {L : Array Slot} {rest : List Value} (hd : decode c.code pc = .ok (.arraylength, 1)) :
    ∀ target, Steps p.tables e below (T.setTop (mkF m (pc + 1) L (.int z :: rest))) target → Steps p.tables e below (T.setTop (mkF m pc L (.ref a :: rest))) target := by
  obtain ⟨cl, A, hs, hn, hf⟩ := F
  intro target k
  refine X.arraylength hx (cell := cl) (by rw [eT]; exact A.1) (State.isArrayOf_alike hZ.alike A.2.1) (g := mkF m pc L (.ref a :: rest)) rfl (rest := rest) rfl hd _ ?_
  rw [hs, hz]; exact k
theorem own_stI (X : Stand p l e R s m args below meth c T locs cells slots) (hx : p.tables.exec = Jvm.exec) (hZ : Z.Warmed39 s.vm) (eT : T.heap = h) {g : Nat → Int32} (F : own_Arf Z h a .int n (fun i => .int (g i))) {j x : Int32} (h0 : ¬ j < 0) (hj : j.toNatClampNeg < n) {pc : Nat} {L : Array Slot} {rest : List Value} (hd : decode c.code pc = .ok (.iastore, 1)) :
    ∃ T' h', Stand p l e R s m args below meth c T' (locs ++ [⟨a, j.toNatClampNeg⟩]) cells slots ∧ T'.heap = h' ∧ Wr h h' a j.toNatClampNeg (.int x) ∧ own_Arf Z h' a .int n (fun i => .int (own_upd g j.toNatClampNeg x i)) ∧
      ∀ target, Steps p.tables e below (T'.setTop (mkF m (pc + 1) L rest)) target → Steps p.tables e below (T.setTop (mkF m pc L (.int x :: .int j :: .ref a :: rest))) target := by
  have F' := F
  obtain ⟨cl, A, hs, hn, hf⟩ := F
  obtain ⟨T', h', X', e', W, st⟩ := stI X hx hZ eT A (j := j) (x := x) (fun q => q.elim h0 (fun r => by omega)) (g := mkF m pc L (.int x :: .int j :: .ref a :: rest)) rfl rfl hd
  exact ⟨T', h', X', e', W, F'.setI W hj, st⟩
theorem own_stJ (X : Stand p l e R s m args below meth c T locs cells slots) (hx : p.tables.exec = Jvm.exec) (hZ : Z.Warmed39 s.vm) (eT : T.heap = h) {g : Nat → Int64} (F : own_Arf Z h a .long n (fun i => .long (g i))) {j : Int32} {x : Int64} (h0 : ¬ j < 0) (hj : j.toNatClampNeg < n) {pc : Nat} {L : Array Slot} {rest : List Value} (hd : decode c.code pc = .ok (.lastore, 1)) :
    ∃ T' h', Stand p l e R s m args below meth c T' (locs ++ [⟨a, j.toNatClampNeg⟩]) cells slots ∧ T'.heap = h' ∧ Wr h h' a j.toNatClampNeg (.long x) ∧ own_Arf Z h' a .long n (fun i => .long (own_upd g j.toNatClampNeg x i)) ∧
      ∀ target, Steps p.tables e below (T'.setTop (mkF m (pc + 1) L rest)) target → Steps p.tables e below (T.setTop (mkF m pc L (.long x :: .int j :: .ref a :: rest))) target := by
  have F' := F
  obtain ⟨cl, A, hs, hn, hf⟩ := F
  obtain ⟨T', h', X', e', W, st⟩ := stJ X hx hZ eT A (j := j) (x := x) (fun q => q.elim h0 (fun r => by omega)) (g := mkF m pc L (.long x :: .int j :: .ref a :: rest)) rfl rfl hd
  exact ⟨T', h', X', e', W, F'.setJ W hj, st⟩
theorem own_stB (X : Stand p l e R s m args below meth c T locs cells slots) (hx : p.tables.exec = Jvm.exec) (hZ : Z.Warmed39 s.vm) (eT : T.heap = h) {g : Nat → Int32} (F : own_Arf Z h a .byte n (fun i => .int (g i))) {j x : Int32} (h0 : ¬ j < 0) (hj : j.toNatClampNeg < n) {pc : Nat} {L : Array Slot} {rest : List Value} (hd : decode c.code pc = .ok (.bastore, 1)) :
    ∃ T' h', Stand p l e R s m args below meth c T' (locs ++ [⟨a, j.toNatClampNeg⟩]) cells slots ∧ T'.heap = h' ∧ Wr h h' a j.toNatClampNeg (.int x.toInt8.toInt32) ∧ own_Arf Z h' a .byte n (fun i => .int (own_upd g j.toNatClampNeg x.toInt8.toInt32 i)) ∧
      ∀ target, Steps p.tables e below (T'.setTop (mkF m (pc + 1) L rest)) target → Steps p.tables e below (T.setTop (mkF m pc L (.int x :: .int j :: .ref a :: rest))) target := by
  have F' := F
  obtain ⟨cl, A, hs, hn, hf⟩ := F
  obtain ⟨T', h', X', e', W, st⟩ := stB X hx hZ eT A (j := j) (x := x) (fun q => q.elim h0 (fun r => by omega)) (g := mkF m pc L (.int x :: .int j :: .ref a :: rest)) rfl rfl hd
  exact ⟨T', h', X', e', W, F'.setI W hj, st⟩
end ownA
section ownB
variable {args : Array Value} {s : State} {t u : Term} {w : Addr} {ty : FieldType} {z : Int32} {n : Nat}
theorem own_Arf.start (ev : t.eval args s none [] s = some (.ref w)) (h1 : (Jvm.Cond.arrayOf t ty).value args s none s [] = some true) (h2 : (Jvm.Cond.eq (.length t) (.int z)).value args s none s [] = some true) (hn : z.toInt = n) :
    ∃ f, own_Arf s s.heap w ty n f ∧ ∀ j : Int32, ¬ j < 0 → j.toNatClampNeg < n → (Term.elem t (.int j)).eval args s none [] s = some (f j.toNatClampNeg) := by
  obtain ⟨c, A⟩ := Arr.start ev h1
  have hat : s.arrayAt? w = some c := Arr.fin (State.Warmed39.refl s).alike A
  have hlen := Cond.eq_int (Cond.before_iff.mpr h2) rfl
  have h31 := SBG.length_lt ev hat hlen
  have hsz : c.slots.size = n := by
    have e1 := len_f ev hat h31
    have e2 : c.slots.size.toInt32 = z := by simpa using Option.some.inj (e1.symm.trans hlen)
    have e3 := len_toInt h31
    rw [e2] at e3; omega
  refine ⟨fun i => (c.slots[i]?).getD .null, ⟨c, A, hsz, by omega, fun i hi => ?_⟩, fun j h0 hj => ?_⟩
  · have : i < c.slots.size := by omega
    simp [this]
  · rw [elem_f ev (Term.int_eval j) hat h0]
    have : j.toNatClampNeg < c.slots.size := by omega
    simp [this]
theorem own_eqref {a b : Term} {x : Value} (ha : a.eval args s none [] s = some x) (hb : b.eval args s none [] s = some (.ref w)) (h : (Jvm.Cond.eq a b).value args s none s [] = some true) : x = .ref w := by
  obtain ⟨x', y', e1, e2, k1, k2⟩ := cmp_v (Or.inl h)
  cases ha.symm.trans e1; cases hb.symm.trans e2
  exact gotT (eq_R ha hb k2.2 rfl) h
theorem own_fldstart {C f d : String} {k : Int32} (ev : t.eval args s none [] s = some (.ref w)) (h : (Jvm.Cond.eq (.field t C f d) (.int k)).value args s none s [] = some true) : Fld s s.heap w C f d (.int k) := by
  have e := Cond.eq_int (Cond.before_iff.mpr h) rfl
  rw [fld_at ev] at e
  exact Fld.start e
end ownB
section ownC
variable {Z : State} {h h' : Heap} {a b : Addr} {ty : FieldType} {n sl : Nat} {f : Nat → Value} {v : Value} {ws : List Addr}
variable {p : Program} {l : Launch} {e : Env} {R : Room} {s : State} {m : MethodId} {args : Array Value} {below : List Frame} {meth : Method} {c : Code} {T : State} {locs : List Loc} {cells slots : Nat}
theorem own_ldA (X : Stand p l e R s m args below meth c T locs cells slots) (hx : p.tables.exec = Jvm.exec) (hZ : Z.Warmed39 s.vm) (eT : T.heap = h) (F : own_Arf Z h a ty n f) (hty : ty.isReference = true) {j : Int32} (h0 : ¬ j < 0) (hj : j.toNatClampNeg < n) {pc : Nat} {L : Array Slot} {rest : List Value} (hd : decode c.code pc = .ok (.aaload, 1)) :
    ∀ target, Steps p.tables e below (T.setTop (mkF m (pc + 1) L (f j.toNatClampNeg :: rest))) target → Steps p.tables e below (T.setTop (mkF m pc L (.int j :: .ref a :: rest))) target := by
  obtain ⟨cl, A, hs, hn, hf⟩ := F
  intro target k
  exact X.aaload hx (j := j) (v := f j.toNatClampNeg) (by rw [eT]; exact A.1) (State.isArrayOf_alike hZ.alike A.2.1) hty A.2.2 (fun q => q.elim h0 (fun r => by omega)) (hf _ hj) (g := mkF m pc L (.int j :: .ref a :: rest)) rfl rfl hd _ k
theorem own_clone (X : Stand p l e R s m args below meth c T locs cells slots) (hx : p.tables.exec = Jvm.exec) (hZ : Z.Warmed39 s.vm) {a0 : Array Value} {own ad : String} {index : Nat} (hown : s.vm.findClass own = some m.cls)
    (w1 : (Cond.methodLink own index ⟨ad, "clone", "()Ljava/lang/Object;"⟩).before a0 Z = true) (w2 : (Cond.sameMethod ad "java/lang/Object" "clone" "()Ljava/lang/Object;").before a0 Z = true) (w3 : (Cond.native ⟨"java/lang/Object", "clone", "()Ljava/lang/Object;"⟩).before a0 Z = true)
    (w4 : (Cond.instanceMethod ⟨"java/lang/Object", "clone", "()Ljava/lang/Object;"⟩).before a0 Z = true) (w5 : (Cond.selects ad ⟨ad, "clone", "()Ljava/lang/Object;"⟩ ⟨"java/lang/Object", "clone", "()Ljava/lang/Object;"⟩).before a0 Z = true) (w6 : (Cond.castable ad "java/lang/Cloneable").before a0 Z = true)
    (eT : T.heap = h) (F : own_Arf Z h a ty n f) (E : Exa Z h a ad) (hfit : ∀ i, i < n → fits ty (f i) = true) {g : JFrame} (hg : g.method = m) (hsize : g.locals.size = c.maxLocals) {rest : List Value} (hs : g.stack = .ref a :: rest) (hd : decode c.code g.pc = .ok (.invokevirtual index, 3))
    (hf : 1 ≤ R.frames) {W : Nat} (hW : 2 * g.monitorRoom + (rest.map fun v => v.category).sum ≤ W) (hl : W + 14 ≤ R.locals) (hc : cells + 1 ≤ R.cells) (hsl : slots + n ≤ R.slots) :
    ∃ T' h', Stand p l e R s m args below meth c T' locs (cells + 1) (slots + n) ∧ T'.heap = h' ∧ Ext h h' ∧ own_Arf Z h' h.size ty n f ∧ Exa Z h' h.size ad ∧
      ∀ target, Steps p.tables e below (T'.setTop { g with pc := g.pc + 3, stack := .ref h.size :: rest }) target → Steps p.tables e below (T.setTop g) target := by
  obtain ⟨cl, A, q1, q2, q3⟩ := F
  have FC : FitC Z cl := fitC_of A (fun i hi v hv => by
    have r := q3 i (by omega)
    rw [r] at hv; cases hv; exact hfit i (by omega))
  obtain ⟨T', h', X', e', E', A', EA, st⟩ := cloneA X hx hZ hown w1 w2 w3 w4 w5 w6 eT A E FC hg hsize hs hd hf hW hl (cap := n) (by omega) hc hsl
  exact ⟨T', h', X', e', E', ⟨_, A', q1, q2, q3⟩, EA, st⟩
end ownC

theorem own_pd0 : parseMethodDescriptor "(II)I" = some ⟨[.int, .int], some .int⟩ := by decide +kernel
theorem own_pd1 : parseMethodDescriptor "(I)Z" = some ⟨[.int], some .boolean⟩ := by decide +kernel
theorem own_pd2 : parseMethodDescriptor "(IIIZ)I" = some ⟨[.int, .int, .int, .boolean], some .int⟩ := by decide +kernel
theorem own_pd3 : parseMethodDescriptor "(IIIII)I" = some ⟨[.int, .int, .int, .int, .int], some .int⟩ := by decide +kernel
theorem own_pd4 : parseMethodDescriptor "([BII)I" = some ⟨[(.array .byte), .int, .int], some .int⟩ := by decide +kernel
theorem mn_d0 : decode jdk_29_method_69_code 0 = .ok (.iload_n 0, 1) := by decide +kernel
theorem mn_d1 : decode jdk_29_method_69_code 1 = .ok (.iload_n 1, 1) := by decide +kernel
theorem mn_d2 : decode jdk_29_method_69_code 2 = .ok (.if_icmp .gt 7, 3) := by decide +kernel
theorem mn_d5 : decode jdk_29_method_69_code 5 = .ok (.iload_n 0, 1) := by decide +kernel
theorem mn_d6 : decode jdk_29_method_69_code 6 = .ok (.goto 4, 3) := by decide +kernel
theorem mn_d9 : decode jdk_29_method_69_code 9 = .ok (.iload_n 1, 1) := by decide +kernel
theorem mn_d10 : decode jdk_29_method_69_code 10 = .ok (.ireturn, 1) := by decide +kernel
def mn_f (p0 : Int32) (p1 : Int32)  : Int32 :=
  if p1 < p0 then
    p1
  else
    p0
set_option maxRecDepth 65536 in
set_option maxHeartbeats 40000000 in
theorem mn_c0 {l : Launch} {Z : State} {a0 : Array Value} {p0 : Int32} {p1 : Int32} {h0 : Heap} {n0 : Nat} {p : Program} {e : Env} {s : State} {m : MethodId} {args : Array Value} {below : List Frame} {meth : Method} {c : Code} {T0 : State} {locs : List Loc} {r0 : Int32} (C0 : own_Cx p s m meth c Z a0 jdk_29_method_69_code 2 "java/lang/Math" "min" (some .int)) (X0 : Stand p l e ({ frames := 0, cells := 0, slots := 0, locals := 0 } : Room) s m args below meth c T0 locs 0 0) (e0 : T0.heap = h0) (N0 : Fr n0 locs)  (hr0 : r0 = mn_f p0 p1 ) :
    own_Dn p e below s (own_Q (some (.int r0)) n0 h0) ({ frames := 0, cells := 0, slots := 0, locals := 0 } : Room).cells ({ frames := 0, cells := 0, slots := 0, locals := 0 } : Room).slots (T0.setTop (mkF m 0 #[.val (.int p0), .val (.int p1)] [])) := by
  obtain ⟨hx, hZ, hw, hby, hml, hown, hret, hlk, hnm⟩ := id C0
  refine own_st (fun _ k => XS.iloadN X0.here hx rfl (hb hby mn_d0) rfl (XS.iloadN X0.here hx rfl (hb hby mn_d1) rfl k)) ?_
  show own_Dn p e below s _ _ _ (T0.setTop (mkF m 2 #[.val (.int p0), .val (.int p1)] [(.int p1), (.int p0)]))
  by_cases hc2 : p1 < p0
  · refine own_st (fun _ k => XS.icmpYes X0.here hx rfl (pc0 := 2) (pc' := 9) rfl (hb hby mn_d2) rfl (tlt hc2).2.2.1 (by decide) (by decide) k) ?_
    show own_Dn p e below s _ _ _ (T0.setTop (mkF m 9 #[.val (.int p0), .val (.int p1)] []))
    refine own_st (fun _ k => XS.iloadN X0.here hx rfl (hb hby mn_d9) rfl k) ?_
    show own_Dn p e below s _ _ _ (T0.setTop (mkF m 10 #[.val (.int p0), .val (.int p1)] [(.int p1)]))
    exact own_retI X0 hx hret hlk (hb hby mn_d10) (by decide) (by decide) ⟨(by rw [hr0, mn_f, if_pos hc2]), N0, e0⟩
  · refine own_st (fun _ k => XS.icmpNo X0.here hx rfl (hb hby mn_d2) rfl (flt hc2).2.2.1 k) ?_
    show own_Dn p e below s _ _ _ (T0.setTop (mkF m 5 #[.val (.int p0), .val (.int p1)] []))
    refine own_st (fun _ k => XS.iloadN X0.here hx rfl (hb hby mn_d5) rfl (XS.goto X0.here hx rfl (pc0 := 6) (pc' := 10) rfl (hb hby mn_d6) (by decide) (by decide) k)) ?_
    show own_Dn p e below s _ _ _ (T0.setTop (mkF m 10 #[.val (.int p0), .val (.int p1)] [(.int p0)]))
    exact own_retI X0 hx hret hlk (hb hby mn_d10) (by decide) (by decide) ⟨(by rw [hr0, mn_f, if_neg hc2]), N0, e0⟩
theorem mn_ef (m : MethodId) (p0 : Int32) (p1 : Int32) : entryFrame m #[(.int p0), (.int p1)] 2 = mkF m 0 #[.val (.int p0), .val (.int p1)] [] := by first | (simp [entryFrame, mkF, argsToLocals, Value.category]; done) | rfl
theorem mn_rm (l : Launch) (Z : State) (a0 : Array Value) (hw : ∀ d ∈ tables_1, d.before a0 Z = true) (ws : List Jvm.Cond) (p0 : Int32) (p1 : Int32) (h0 : Heap) (n0 : Nat) :
    MetFree l (⟨"java/lang/Math", "min", "(II)I"⟩ : MethodName) (head1 (Jvm.Cond.code (⟨"java/lang/Math", "min", "(II)I"⟩ : MethodName) jdk_29_method_69_code 2 (some .int) :: ws) ({ frames := 0, cells := 0, slots := 0, locals := 0 } : Room)) (fun a U => a = #[(.int p0), (.int p1)] ∧ Z.Warmed39 U.vm ∧ U.heap = h0) (fun _ _ _ _ _ => True) (fun _ U o U' => ∃ v L, o = .returned v ∧ (own_Q (some (.int (mn_f p0 p1))) n0 h0) v U'.heap L ∧ FrameEnd U o U' L ({ frames := 0, cells := 0, slots := 0, locals := 0 } : Room).cells ({ frames := 0, cells := 0, slots := 0, locals := 0 } : Room).slots) :=
  own_met hw (Jvm.Free.JP.mathPlain rfl (by decide +kernel)) (fun p e s m below meth c T0 C0 X0 e0 => own_st (fun _ k => castTop (mn_ef m p0 p1) k) (mn_c0 C0 X0 e0 (Fr.nil n0) rfl))
theorem mx_d0 : decode jdk_29_method_65_code 0 = .ok (.iload_n 0, 1) := by decide +kernel
theorem mx_d1 : decode jdk_29_method_65_code 1 = .ok (.iload_n 1, 1) := by decide +kernel
theorem mx_d2 : decode jdk_29_method_65_code 2 = .ok (.if_icmp .lt 7, 3) := by decide +kernel
theorem mx_d5 : decode jdk_29_method_65_code 5 = .ok (.iload_n 0, 1) := by decide +kernel
theorem mx_d6 : decode jdk_29_method_65_code 6 = .ok (.goto 4, 3) := by decide +kernel
theorem mx_d9 : decode jdk_29_method_65_code 9 = .ok (.iload_n 1, 1) := by decide +kernel
theorem mx_d10 : decode jdk_29_method_65_code 10 = .ok (.ireturn, 1) := by decide +kernel
def mx_f (p0 : Int32) (p1 : Int32)  : Int32 :=
  if p0 < p1 then
    p1
  else
    p0
set_option maxRecDepth 65536 in
set_option maxHeartbeats 40000000 in
theorem mx_c0 {l : Launch} {Z : State} {a0 : Array Value} {p0 : Int32} {p1 : Int32} {h0 : Heap} {n0 : Nat} {p : Program} {e : Env} {s : State} {m : MethodId} {args : Array Value} {below : List Frame} {meth : Method} {c : Code} {T0 : State} {locs : List Loc} {r0 : Int32} (C0 : own_Cx p s m meth c Z a0 jdk_29_method_65_code 2 "java/lang/Math" "max" (some .int)) (X0 : Stand p l e ({ frames := 0, cells := 0, slots := 0, locals := 0 } : Room) s m args below meth c T0 locs 0 0) (e0 : T0.heap = h0) (N0 : Fr n0 locs)  (hr0 : r0 = mx_f p0 p1 ) :
    own_Dn p e below s (own_Q (some (.int r0)) n0 h0) ({ frames := 0, cells := 0, slots := 0, locals := 0 } : Room).cells ({ frames := 0, cells := 0, slots := 0, locals := 0 } : Room).slots (T0.setTop (mkF m 0 #[.val (.int p0), .val (.int p1)] [])) := by
  obtain ⟨hx, hZ, hw, hby, hml, hown, hret, hlk, hnm⟩ := id C0
  refine own_st (fun _ k => XS.iloadN X0.here hx rfl (hb hby mx_d0) rfl (XS.iloadN X0.here hx rfl (hb hby mx_d1) rfl k)) ?_
  show own_Dn p e below s _ _ _ (T0.setTop (mkF m 2 #[.val (.int p0), .val (.int p1)] [(.int p1), (.int p0)]))
  by_cases hc2 : p0 < p1
  · refine own_st (fun _ k => XS.icmpYes X0.here hx rfl (pc0 := 2) (pc' := 9) rfl (hb hby mx_d2) rfl (tlt hc2).1 (by decide) (by decide) k) ?_
    show own_Dn p e below s _ _ _ (T0.setTop (mkF m 9 #[.val (.int p0), .val (.int p1)] []))
    refine own_st (fun _ k => XS.iloadN X0.here hx rfl (hb hby mx_d9) rfl k) ?_
    show own_Dn p e below s _ _ _ (T0.setTop (mkF m 10 #[.val (.int p0), .val (.int p1)] [(.int p1)]))
    exact own_retI X0 hx hret hlk (hb hby mx_d10) (by decide) (by decide) ⟨(by rw [hr0, mx_f, if_pos hc2]), N0, e0⟩
  · refine own_st (fun _ k => XS.icmpNo X0.here hx rfl (hb hby mx_d2) rfl (flt hc2).1 k) ?_
    show own_Dn p e below s _ _ _ (T0.setTop (mkF m 5 #[.val (.int p0), .val (.int p1)] []))
    refine own_st (fun _ k => XS.iloadN X0.here hx rfl (hb hby mx_d5) rfl (XS.goto X0.here hx rfl (pc0 := 6) (pc' := 10) rfl (hb hby mx_d6) (by decide) (by decide) k)) ?_
    show own_Dn p e below s _ _ _ (T0.setTop (mkF m 10 #[.val (.int p0), .val (.int p1)] [(.int p0)]))
    exact own_retI X0 hx hret hlk (hb hby mx_d10) (by decide) (by decide) ⟨(by rw [hr0, mx_f, if_neg hc2]), N0, e0⟩
theorem mx_ef (m : MethodId) (p0 : Int32) (p1 : Int32) : entryFrame m #[(.int p0), (.int p1)] 2 = mkF m 0 #[.val (.int p0), .val (.int p1)] [] := by first | (simp [entryFrame, mkF, argsToLocals, Value.category]; done) | rfl
theorem mx_rm (l : Launch) (Z : State) (a0 : Array Value) (hw : ∀ d ∈ tables_1, d.before a0 Z = true) (ws : List Jvm.Cond) (p0 : Int32) (p1 : Int32) (h0 : Heap) (n0 : Nat) :
    MetFree l (⟨"java/lang/Math", "max", "(II)I"⟩ : MethodName) (head1 (Jvm.Cond.code (⟨"java/lang/Math", "max", "(II)I"⟩ : MethodName) jdk_29_method_65_code 2 (some .int) :: ws) ({ frames := 0, cells := 0, slots := 0, locals := 0 } : Room)) (fun a U => a = #[(.int p0), (.int p1)] ∧ Z.Warmed39 U.vm ∧ U.heap = h0) (fun _ _ _ _ _ => True) (fun _ U o U' => ∃ v L, o = .returned v ∧ (own_Q (some (.int (mx_f p0 p1))) n0 h0) v U'.heap L ∧ FrameEnd U o U' L ({ frames := 0, cells := 0, slots := 0, locals := 0 } : Room).cells ({ frames := 0, cells := 0, slots := 0, locals := 0 } : Room).slots) :=
  own_met hw (Jvm.Free.JP.mathPlain rfl (by decide +kernel)) (fun p e s m below meth c T0 C0 X0 e0 => own_st (fun _ k => castTop (mx_ef m p0 p1) k) (mx_c0 C0 X0 e0 (Fr.nil n0) rfl))
theorem ic_d0 : decode method_3_code 0 = .ok (.iload_n 0, 1) := by decide +kernel
theorem ic_d1 : decode method_3_code 1 = .ok (.sipush 128, 3) := by decide +kernel
theorem ic_d4 : decode method_3_code 4 = .ok (.if_icmp .lt 14, 3) := by decide +kernel
theorem ic_d7 : decode method_3_code 7 = .ok (.iload_n 0, 1) := by decide +kernel
theorem ic_d8 : decode method_3_code 8 = .ok (.sipush 191, 3) := by decide +kernel
theorem ic_d11 : decode method_3_code 11 = .ok (.if_icmp .gt 7, 3) := by decide +kernel
theorem ic_d14 : decode method_3_code 14 = .ok (.iconst 1, 1) := by decide +kernel
theorem ic_d15 : decode method_3_code 15 = .ok (.goto 4, 3) := by decide +kernel
theorem ic_d18 : decode method_3_code 18 = .ok (.iconst 0, 1) := by decide +kernel
theorem ic_d19 : decode method_3_code 19 = .ok (.ireturn, 1) := by decide +kernel
def ic_f (p0 : Int32)  : Int32 :=
  if p0 < (128 : Int32) then
    (0 : Int32)
  else
    if (191 : Int32) < p0 then
      (0 : Int32)
    else
      (1 : Int32)
set_option maxRecDepth 65536 in
set_option maxHeartbeats 40000000 in
theorem ic_c0 {l : Launch} {Z : State} {a0 : Array Value} {p0 : Int32} {h0 : Heap} {n0 : Nat} {p : Program} {e : Env} {s : State} {m : MethodId} {args : Array Value} {below : List Frame} {meth : Method} {c : Code} {T0 : State} {locs : List Loc} {r0 : Int32} (C0 : own_Cx p s m meth c Z a0 method_3_code 1 "com/example/xylograph/xylograph/io/Utf8SequenceLengthPinLaw" "isCont" (some .boolean)) (X0 : Stand p l e ({ frames := 0, cells := 0, slots := 0, locals := 0 } : Room) s m args below meth c T0 locs 0 0) (e0 : T0.heap = h0) (N0 : Fr n0 locs)  (hr0 : r0 = ic_f p0 ) :
    own_Dn p e below s (own_Q (some (.int r0)) n0 h0) ({ frames := 0, cells := 0, slots := 0, locals := 0 } : Room).cells ({ frames := 0, cells := 0, slots := 0, locals := 0 } : Room).slots (T0.setTop (mkF m 0 #[.val (.int p0)] [])) := by
  obtain ⟨hx, hZ, hw, hby, hml, hown, hret, hlk, hnm⟩ := id C0
  refine own_st (fun _ k => XS.iloadN X0.here hx rfl (hb hby ic_d0) rfl (XS.sipush X0.here hx rfl (hb hby ic_d1) k)) ?_
  show own_Dn p e below s _ _ _ (T0.setTop (mkF m 4 #[.val (.int p0)] [(.int (128 : Int32)), (.int p0)]))
  by_cases hc3 : p0 < (128 : Int32)
  · refine own_st (fun _ k => XS.icmpYes X0.here hx rfl (pc0 := 4) (pc' := 18) rfl (hb hby ic_d4) rfl (tlt hc3).1 (by decide) (by decide) k) ?_
    show own_Dn p e below s _ _ _ (T0.setTop (mkF m 18 #[.val (.int p0)] []))
    refine own_st (fun _ k => XS.iconst X0.here hx rfl (hb hby ic_d18) k) ?_
    show own_Dn p e below s _ _ _ (T0.setTop (mkF m 19 #[.val (.int p0)] [(.int (0 : Int32))]))
    exact own_retZ X0 hx hret hlk (by decide) (hb hby ic_d19) (by decide) (by decide) ⟨(by rw [hr0, ic_f, if_pos hc3]), N0, e0⟩
  · refine own_st (fun _ k => XS.icmpNo X0.here hx rfl (hb hby ic_d4) rfl (flt hc3).1 k) ?_
    show own_Dn p e below s _ _ _ (T0.setTop (mkF m 7 #[.val (.int p0)] []))
    refine own_st (fun _ k => XS.iloadN X0.here hx rfl (hb hby ic_d7) rfl (XS.sipush X0.here hx rfl (hb hby ic_d8) k)) ?_
    show own_Dn p e below s _ _ _ (T0.setTop (mkF m 11 #[.val (.int p0)] [(.int (191 : Int32)), (.int p0)]))
    by_cases hc4 : (191 : Int32) < p0
    · refine own_st (fun _ k => XS.icmpYes X0.here hx rfl (pc0 := 11) (pc' := 18) rfl (hb hby ic_d11) rfl (tlt hc4).2.2.1 (by decide) (by decide) k) ?_
      show own_Dn p e below s _ _ _ (T0.setTop (mkF m 18 #[.val (.int p0)] []))
      refine own_st (fun _ k => XS.iconst X0.here hx rfl (hb hby ic_d18) k) ?_
      show own_Dn p e below s _ _ _ (T0.setTop (mkF m 19 #[.val (.int p0)] [(.int (0 : Int32))]))
      exact own_retZ X0 hx hret hlk (by decide) (hb hby ic_d19) (by decide) (by decide) ⟨(by rw [hr0, ic_f, if_neg hc3, if_pos hc4]), N0, e0⟩
    · refine own_st (fun _ k => XS.icmpNo X0.here hx rfl (hb hby ic_d11) rfl (flt hc4).2.2.1 k) ?_
      show own_Dn p e below s _ _ _ (T0.setTop (mkF m 14 #[.val (.int p0)] []))
      refine own_st (fun _ k => XS.iconst X0.here hx rfl (hb hby ic_d14) (XS.goto X0.here hx rfl (pc0 := 15) (pc' := 19) rfl (hb hby ic_d15) (by decide) (by decide) k)) ?_
      show own_Dn p e below s _ _ _ (T0.setTop (mkF m 19 #[.val (.int p0)] [(.int (1 : Int32))]))
      exact own_retZ X0 hx hret hlk (by decide) (hb hby ic_d19) (by decide) (by decide) ⟨(by rw [hr0, ic_f, if_neg hc3, if_neg hc4]), N0, e0⟩
theorem ic_ef (m : MethodId) (p0 : Int32) : entryFrame m #[(.int p0)] 1 = mkF m 0 #[.val (.int p0)] [] := by first | (simp [entryFrame, mkF, argsToLocals, Value.category]; done) | rfl
theorem ic_rm (l : Launch) (Z : State) (a0 : Array Value) (hw : ∀ d ∈ tables_1, d.before a0 Z = true) (ws : List Jvm.Cond) (p0 : Int32) (h0 : Heap) (n0 : Nat) :
    MetFree l (⟨"com/example/xylograph/xylograph/io/Utf8SequenceLengthPinLaw", "isCont", "(I)Z"⟩ : MethodName) (head1 (Jvm.Cond.code (⟨"com/example/xylograph/xylograph/io/Utf8SequenceLengthPinLaw", "isCont", "(I)Z"⟩ : MethodName) method_3_code 1 (some .boolean) :: ws) ({ frames := 0, cells := 0, slots := 0, locals := 0 } : Room)) (fun a U => a = #[(.int p0)] ∧ Z.Warmed39 U.vm ∧ U.heap = h0) (fun _ _ _ _ _ => True) (fun _ U o U' => ∃ v L, o = .returned v ∧ (own_Q (some (.int (ic_f p0))) n0 h0) v U'.heap L ∧ FrameEnd U o U' L ({ frames := 0, cells := 0, slots := 0, locals := 0 } : Room).cells ({ frames := 0, cells := 0, slots := 0, locals := 0 } : Room).slots) :=
  own_met hw (plainFor_of_name (by first | (simp [plainName, overriddenIn]; done) | decide +kernel)) (fun p e s m below meth c T0 C0 X0 e0 => own_st (fun _ k => castTop (ic_ef m p0) k) (ic_c0 C0 X0 e0 (Fr.nil n0) rfl))
theorem py_d0 : decode method_4_code 0 = .ok (.iload_n 1, 1) := by decide +kernel
theorem py_d1 : decode method_4_code 1 = .ok (.iload_n 2, 1) := by decide +kernel
theorem py_d2 : decode method_4_code 2 = .ok (.if_icmp .ge 8, 3) := by decide +kernel
theorem py_d5 : decode method_4_code 5 = .ok (.iload_n 0, 1) := by decide +kernel
theorem py_d6 : decode method_4_code 6 = .ok (.bipush 63, 2) := by decide +kernel
theorem py_d8 : decode method_4_code 8 = .ok (.iand, 1) := by decide +kernel
theorem py_d9 : decode method_4_code 9 = .ok (.ireturn, 1) := by decide +kernel
theorem py_d10 : decode method_4_code 10 = .ok (.iload_n 3, 1) := by decide +kernel
theorem py_d11 : decode method_4_code 11 = .ok (.ifCond .eq 8, 3) := by decide +kernel
theorem py_d14 : decode method_4_code 14 = .ok (.bipush 63, 2) := by decide +kernel
theorem py_d16 : decode method_4_code 16 = .ok (.goto 4, 3) := by decide +kernel
theorem py_d19 : decode method_4_code 19 = .ok (.iconst 0, 1) := by decide +kernel
theorem py_d20 : decode method_4_code 20 = .ok (.ireturn, 1) := by decide +kernel
def py_f (p0 : Int32) (p1 : Int32) (p2 : Int32) (p3 : Int32)  : Int32 :=
  if p1 < p2 then
    (p0 &&& (63 : Int32))
  else
    if p3 = (0 : Int32) then
      (0 : Int32)
    else
      (63 : Int32)
set_option maxRecDepth 65536 in
set_option maxHeartbeats 40000000 in
theorem py_c0 {l : Launch} {Z : State} {a0 : Array Value} {p0 : Int32} {p1 : Int32} {p2 : Int32} {p3 : Int32} {h0 : Heap} {n0 : Nat} {p : Program} {e : Env} {s : State} {m : MethodId} {args : Array Value} {below : List Frame} {meth : Method} {c : Code} {T0 : State} {locs : List Loc} {r0 : Int32} (C0 : own_Cx p s m meth c Z a0 method_4_code 4 "com/example/xylograph/xylograph/io/Utf8SequenceLengthPinLaw" "pay" (some .int)) (X0 : Stand p l e ({ frames := 0, cells := 0, slots := 0, locals := 0 } : Room) s m args below meth c T0 locs 0 0) (e0 : T0.heap = h0) (N0 : Fr n0 locs)  (hr0 : r0 = py_f p0 p1 p2 p3 ) :
    own_Dn p e below s (own_Q (some (.int r0)) n0 h0) ({ frames := 0, cells := 0, slots := 0, locals := 0 } : Room).cells ({ frames := 0, cells := 0, slots := 0, locals := 0 } : Room).slots (T0.setTop (mkF m 0 #[.val (.int p0), .val (.int p1), .val (.int p2), .val (.int p3)] [])) := by
  obtain ⟨hx, hZ, hw, hby, hml, hown, hret, hlk, hnm⟩ := id C0
  refine own_st (fun _ k => XS.iloadN X0.here hx rfl (hb hby py_d0) rfl (XS.iloadN X0.here hx rfl (hb hby py_d1) rfl k)) ?_
  show own_Dn p e below s _ _ _ (T0.setTop (mkF m 2 #[.val (.int p0), .val (.int p1), .val (.int p2), .val (.int p3)] [(.int p2), (.int p1)]))
  by_cases hc3 : p1 < p2
  · refine own_st (fun _ k => XS.icmpNo X0.here hx rfl (hb hby py_d2) rfl (tlt hc3).2.1 k) ?_
    show own_Dn p e below s _ _ _ (T0.setTop (mkF m 5 #[.val (.int p0), .val (.int p1), .val (.int p2), .val (.int p3)] []))
    refine own_st (fun _ k => XS.iloadN X0.here hx rfl (hb hby py_d5) rfl (XS.bipush X0.here hx rfl (hb hby py_d6) (XS.iand X0.here hx rfl (hb hby py_d8) rfl k))) ?_
    show own_Dn p e below s _ _ _ (T0.setTop (mkF m 9 #[.val (.int p0), .val (.int p1), .val (.int p2), .val (.int p3)] [(.int (p0 &&& (63 : Int32)))]))
    exact own_retI X0 hx hret hlk (hb hby py_d9) (by decide) (by decide) ⟨(by rw [hr0, py_f, if_pos hc3]), N0, e0⟩
  · refine own_st (fun _ k => XS.icmpYes X0.here hx rfl (pc0 := 2) (pc' := 10) rfl (hb hby py_d2) rfl (flt hc3).2.1 (by decide) (by decide) k) ?_
    show own_Dn p e below s _ _ _ (T0.setTop (mkF m 10 #[.val (.int p0), .val (.int p1), .val (.int p2), .val (.int p3)] []))
    refine own_st (fun _ k => XS.iloadN X0.here hx rfl (hb hby py_d10) rfl k) ?_
    show own_Dn p e below s _ _ _ (T0.setTop (mkF m 11 #[.val (.int p0), .val (.int p1), .val (.int p2), .val (.int p3)] [(.int p3)]))
    by_cases hc4 : p3 = (0 : Int32)
    · refine own_st (fun _ k => XS.ifYes X0.here hx rfl (pc0 := 11) (pc' := 19) rfl (hb hby py_d11) rfl ((if0 _ _).trans (teq hc4).1) (by decide) (by decide) k) ?_
      show own_Dn p e below s _ _ _ (T0.setTop (mkF m 19 #[.val (.int p0), .val (.int p1), .val (.int p2), .val (.int p3)] []))
      refine own_st (fun _ k => XS.iconst X0.here hx rfl (hb hby py_d19) k) ?_
      show own_Dn p e below s _ _ _ (T0.setTop (mkF m 20 #[.val (.int p0), .val (.int p1), .val (.int p2), .val (.int p3)] [(.int (0 : Int32))]))
      exact own_retI X0 hx hret hlk (hb hby py_d20) (by decide) (by decide) ⟨(by rw [hr0, py_f, if_neg hc3, if_pos hc4]), N0, e0⟩
    · refine own_st (fun _ k => XS.ifNo X0.here hx rfl (hb hby py_d11) rfl ((if0 _ _).trans (feq hc4).1) k) ?_
      show own_Dn p e below s _ _ _ (T0.setTop (mkF m 14 #[.val (.int p0), .val (.int p1), .val (.int p2), .val (.int p3)] []))
      refine own_st (fun _ k => XS.bipush X0.here hx rfl (hb hby py_d14) (XS.goto X0.here hx rfl (pc0 := 16) (pc' := 20) rfl (hb hby py_d16) (by decide) (by decide) k)) ?_
      show own_Dn p e below s _ _ _ (T0.setTop (mkF m 20 #[.val (.int p0), .val (.int p1), .val (.int p2), .val (.int p3)] [(.int (63 : Int32))]))
      exact own_retI X0 hx hret hlk (hb hby py_d20) (by decide) (by decide) ⟨(by rw [hr0, py_f, if_neg hc3, if_neg hc4]), N0, e0⟩
theorem py_ef (m : MethodId) (p0 : Int32) (p1 : Int32) (p2 : Int32) (p3 : Int32) : entryFrame m #[(.int p0), (.int p1), (.int p2), (.int p3)] 4 = mkF m 0 #[.val (.int p0), .val (.int p1), .val (.int p2), .val (.int p3)] [] := by first | (simp [entryFrame, mkF, argsToLocals, Value.category]; done) | rfl
theorem py_rm (l : Launch) (Z : State) (a0 : Array Value) (hw : ∀ d ∈ tables_1, d.before a0 Z = true) (ws : List Jvm.Cond) (p0 : Int32) (p1 : Int32) (p2 : Int32) (p3 : Int32) (h0 : Heap) (n0 : Nat) :
    MetFree l (⟨"com/example/xylograph/xylograph/io/Utf8SequenceLengthPinLaw", "pay", "(IIIZ)I"⟩ : MethodName) (head1 (Jvm.Cond.code (⟨"com/example/xylograph/xylograph/io/Utf8SequenceLengthPinLaw", "pay", "(IIIZ)I"⟩ : MethodName) method_4_code 4 (some .int) :: ws) ({ frames := 0, cells := 0, slots := 0, locals := 0 } : Room)) (fun a U => a = #[(.int p0), (.int p1), (.int p2), (.int p3)] ∧ Z.Warmed39 U.vm ∧ U.heap = h0) (fun _ _ _ _ _ => True) (fun _ U o U' => ∃ v L, o = .returned v ∧ (own_Q (some (.int (py_f p0 p1 p2 p3))) n0 h0) v U'.heap L ∧ FrameEnd U o U' L ({ frames := 0, cells := 0, slots := 0, locals := 0 } : Room).cells ({ frames := 0, cells := 0, slots := 0, locals := 0 } : Room).slots) :=
  own_met hw (plainFor_of_name (by first | (simp [plainName, overriddenIn]; done) | decide +kernel)) (fun p e s m below meth c T0 C0 X0 e0 => own_st (fun _ k => castTop (py_ef m p0 p1 p2 p3) k) (py_c0 C0 X0 e0 (Fr.nil n0) rfl))
theorem dc_d0 : decode method_5_code 0 = .ok (.iload 4, 2) := by decide +kernel
theorem dc_d2 : decode method_5_code 2 = .ok (.iconst 2, 1) := by decide +kernel
theorem dc_d3 : decode method_5_code 3 = .ok (.if_icmp .ne 13, 3) := by decide +kernel
theorem dc_d6 : decode method_5_code 6 = .ok (.iload_n 0, 1) := by decide +kernel
theorem dc_d7 : decode method_5_code 7 = .ok (.bipush 31, 2) := by decide +kernel
theorem dc_d9 : decode method_5_code 9 = .ok (.iand, 1) := by decide +kernel
theorem dc_d10 : decode method_5_code 10 = .ok (.bipush 6, 2) := by decide +kernel
theorem dc_d12 : decode method_5_code 12 = .ok (.ishl, 1) := by decide +kernel
theorem dc_d13 : decode method_5_code 13 = .ok (.iload_n 1, 1) := by decide +kernel
theorem dc_d14 : decode method_5_code 14 = .ok (.ior, 1) := by decide +kernel
theorem dc_d15 : decode method_5_code 15 = .ok (.ireturn, 1) := by decide +kernel
theorem dc_d16 : decode method_5_code 16 = .ok (.iload 4, 2) := by decide +kernel
theorem dc_d18 : decode method_5_code 18 = .ok (.iconst 3, 1) := by decide +kernel
theorem dc_d19 : decode method_5_code 19 = .ok (.if_icmp .ne 18, 3) := by decide +kernel
theorem dc_d22 : decode method_5_code 22 = .ok (.iload_n 0, 1) := by decide +kernel
theorem dc_d23 : decode method_5_code 23 = .ok (.bipush 15, 2) := by decide +kernel
theorem dc_d25 : decode method_5_code 25 = .ok (.iand, 1) := by decide +kernel
theorem dc_d26 : decode method_5_code 26 = .ok (.bipush 12, 2) := by decide +kernel
theorem dc_d28 : decode method_5_code 28 = .ok (.ishl, 1) := by decide +kernel
theorem dc_d29 : decode method_5_code 29 = .ok (.iload_n 1, 1) := by decide +kernel
theorem dc_d30 : decode method_5_code 30 = .ok (.bipush 6, 2) := by decide +kernel
theorem dc_d32 : decode method_5_code 32 = .ok (.ishl, 1) := by decide +kernel
theorem dc_d33 : decode method_5_code 33 = .ok (.ior, 1) := by decide +kernel
theorem dc_d34 : decode method_5_code 34 = .ok (.iload_n 2, 1) := by decide +kernel
theorem dc_d35 : decode method_5_code 35 = .ok (.ior, 1) := by decide +kernel
theorem dc_d36 : decode method_5_code 36 = .ok (.ireturn, 1) := by decide +kernel
theorem dc_d37 : decode method_5_code 37 = .ok (.iload_n 0, 1) := by decide +kernel
theorem dc_d38 : decode method_5_code 38 = .ok (.bipush 7, 2) := by decide +kernel
theorem dc_d40 : decode method_5_code 40 = .ok (.iand, 1) := by decide +kernel
theorem dc_d41 : decode method_5_code 41 = .ok (.bipush 18, 2) := by decide +kernel
theorem dc_d43 : decode method_5_code 43 = .ok (.ishl, 1) := by decide +kernel
theorem dc_d44 : decode method_5_code 44 = .ok (.iload_n 1, 1) := by decide +kernel
theorem dc_d45 : decode method_5_code 45 = .ok (.bipush 12, 2) := by decide +kernel
theorem dc_d47 : decode method_5_code 47 = .ok (.ishl, 1) := by decide +kernel
theorem dc_d48 : decode method_5_code 48 = .ok (.ior, 1) := by decide +kernel
theorem dc_d49 : decode method_5_code 49 = .ok (.iload_n 2, 1) := by decide +kernel
theorem dc_d50 : decode method_5_code 50 = .ok (.bipush 6, 2) := by decide +kernel
theorem dc_d52 : decode method_5_code 52 = .ok (.ishl, 1) := by decide +kernel
theorem dc_d53 : decode method_5_code 53 = .ok (.ior, 1) := by decide +kernel
theorem dc_d54 : decode method_5_code 54 = .ok (.iload_n 3, 1) := by decide +kernel
theorem dc_d55 : decode method_5_code 55 = .ok (.ior, 1) := by decide +kernel
theorem dc_d56 : decode method_5_code 56 = .ok (.ireturn, 1) := by decide +kernel
def dc_f (p0 : Int32) (p1 : Int32) (p2 : Int32) (p3 : Int32) (p4 : Int32)  : Int32 :=
  if p4 = (2 : Int32) then
    (((p0 &&& (31 : Int32)) <<< ((6 : Int32) &&& 31)) ||| p1)
  else
    if p4 = (3 : Int32) then
      ((((p0 &&& (15 : Int32)) <<< ((12 : Int32) &&& 31)) ||| (p1 <<< ((6 : Int32) &&& 31))) ||| p2)
    else
      (((((p0 &&& (7 : Int32)) <<< ((18 : Int32) &&& 31)) ||| (p1 <<< ((12 : Int32) &&& 31))) ||| (p2 <<< ((6 : Int32) &&& 31))) ||| p3)
set_option maxRecDepth 65536 in
set_option maxHeartbeats 40000000 in
theorem dc_c0 {l : Launch} {Z : State} {a0 : Array Value} {p0 : Int32} {p1 : Int32} {p2 : Int32} {p3 : Int32} {p4 : Int32} {h0 : Heap} {n0 : Nat} {p : Program} {e : Env} {s : State} {m : MethodId} {args : Array Value} {below : List Frame} {meth : Method} {c : Code} {T0 : State} {locs : List Loc} {r0 : Int32} (C0 : own_Cx p s m meth c Z a0 method_5_code 5 "com/example/xylograph/xylograph/io/Utf8SequenceLengthPinLaw" "decode" (some .int)) (X0 : Stand p l e ({ frames := 0, cells := 0, slots := 0, locals := 0 } : Room) s m args below meth c T0 locs 0 0) (e0 : T0.heap = h0) (N0 : Fr n0 locs)  (hr0 : r0 = dc_f p0 p1 p2 p3 p4 ) :
    own_Dn p e below s (own_Q (some (.int r0)) n0 h0) ({ frames := 0, cells := 0, slots := 0, locals := 0 } : Room).cells ({ frames := 0, cells := 0, slots := 0, locals := 0 } : Room).slots (T0.setTop (mkF m 0 #[.val (.int p0), .val (.int p1), .val (.int p2), .val (.int p3), .val (.int p4)] [])) := by
  obtain ⟨hx, hZ, hw, hby, hml, hown, hret, hlk, hnm⟩ := id C0
  refine own_st (fun _ k => XS.iload X0.here hx rfl (hb hby dc_d0) rfl (XS.iconst X0.here hx rfl (hb hby dc_d2) k)) ?_
  show own_Dn p e below s _ _ _ (T0.setTop (mkF m 3 #[.val (.int p0), .val (.int p1), .val (.int p2), .val (.int p3), .val (.int p4)] [(.int (2 : Int32)), (.int p4)]))
  by_cases hc3 : p4 = (2 : Int32)
  · refine own_st (fun _ k => XS.icmpNo X0.here hx rfl (hb hby dc_d3) rfl (teq hc3).2 k) ?_
    show own_Dn p e below s _ _ _ (T0.setTop (mkF m 6 #[.val (.int p0), .val (.int p1), .val (.int p2), .val (.int p3), .val (.int p4)] []))
    refine own_st (fun _ k => XS.iloadN X0.here hx rfl (hb hby dc_d6) rfl (XS.bipush X0.here hx rfl (hb hby dc_d7) (XS.iand X0.here hx rfl (hb hby dc_d9) rfl (XS.bipush X0.here hx rfl (hb hby dc_d10) (XS.ishl X0.here hx rfl (hb hby dc_d12) rfl (XS.iloadN X0.here hx rfl (hb hby dc_d13) rfl (XS.ior X0.here hx rfl (hb hby dc_d14) rfl k))))))) ?_
    show own_Dn p e below s _ _ _ (T0.setTop (mkF m 15 #[.val (.int p0), .val (.int p1), .val (.int p2), .val (.int p3), .val (.int p4)] [(.int (((p0 &&& (31 : Int32)) <<< ((6 : Int32) &&& 31)) ||| p1))]))
    exact own_retI X0 hx hret hlk (hb hby dc_d15) (by decide) (by decide) ⟨(by rw [hr0, dc_f, if_pos hc3]), N0, e0⟩
  · refine own_st (fun _ k => XS.icmpYes X0.here hx rfl (pc0 := 3) (pc' := 16) rfl (hb hby dc_d3) rfl (feq hc3).2 (by decide) (by decide) k) ?_
    show own_Dn p e below s _ _ _ (T0.setTop (mkF m 16 #[.val (.int p0), .val (.int p1), .val (.int p2), .val (.int p3), .val (.int p4)] []))
    refine own_st (fun _ k => XS.iload X0.here hx rfl (hb hby dc_d16) rfl (XS.iconst X0.here hx rfl (hb hby dc_d18) k)) ?_
    show own_Dn p e below s _ _ _ (T0.setTop (mkF m 19 #[.val (.int p0), .val (.int p1), .val (.int p2), .val (.int p3), .val (.int p4)] [(.int (3 : Int32)), (.int p4)]))
    by_cases hc4 : p4 = (3 : Int32)
    · refine own_st (fun _ k => XS.icmpNo X0.here hx rfl (hb hby dc_d19) rfl (teq hc4).2 k) ?_
      show own_Dn p e below s _ _ _ (T0.setTop (mkF m 22 #[.val (.int p0), .val (.int p1), .val (.int p2), .val (.int p3), .val (.int p4)] []))
      refine own_st (fun _ k => XS.iloadN X0.here hx rfl (hb hby dc_d22) rfl (XS.bipush X0.here hx rfl (hb hby dc_d23) (XS.iand X0.here hx rfl (hb hby dc_d25) rfl (XS.bipush X0.here hx rfl (hb hby dc_d26) (XS.ishl X0.here hx rfl (hb hby dc_d28) rfl (XS.iloadN X0.here hx rfl (hb hby dc_d29) rfl (XS.bipush X0.here hx rfl (hb hby dc_d30) (XS.ishl X0.here hx rfl (hb hby dc_d32) rfl (XS.ior X0.here hx rfl (hb hby dc_d33) rfl (XS.iloadN X0.here hx rfl (hb hby dc_d34) rfl (XS.ior X0.here hx rfl (hb hby dc_d35) rfl k))))))))))) ?_
      show own_Dn p e below s _ _ _ (T0.setTop (mkF m 36 #[.val (.int p0), .val (.int p1), .val (.int p2), .val (.int p3), .val (.int p4)] [(.int ((((p0 &&& (15 : Int32)) <<< ((12 : Int32) &&& 31)) ||| (p1 <<< ((6 : Int32) &&& 31))) ||| p2))]))
      exact own_retI X0 hx hret hlk (hb hby dc_d36) (by decide) (by decide) ⟨(by rw [hr0, dc_f, if_neg hc3, if_pos hc4]), N0, e0⟩
    · refine own_st (fun _ k => XS.icmpYes X0.here hx rfl (pc0 := 19) (pc' := 37) rfl (hb hby dc_d19) rfl (feq hc4).2 (by decide) (by decide) k) ?_
      show own_Dn p e below s _ _ _ (T0.setTop (mkF m 37 #[.val (.int p0), .val (.int p1), .val (.int p2), .val (.int p3), .val (.int p4)] []))
      refine own_st (fun _ k => XS.iloadN X0.here hx rfl (hb hby dc_d37) rfl (XS.bipush X0.here hx rfl (hb hby dc_d38) (XS.iand X0.here hx rfl (hb hby dc_d40) rfl (XS.bipush X0.here hx rfl (hb hby dc_d41) (XS.ishl X0.here hx rfl (hb hby dc_d43) rfl (XS.iloadN X0.here hx rfl (hb hby dc_d44) rfl (XS.bipush X0.here hx rfl (hb hby dc_d45) (XS.ishl X0.here hx rfl (hb hby dc_d47) rfl (XS.ior X0.here hx rfl (hb hby dc_d48) rfl (XS.iloadN X0.here hx rfl (hb hby dc_d49) rfl (XS.bipush X0.here hx rfl (hb hby dc_d50) (XS.ishl X0.here hx rfl (hb hby dc_d52) rfl (XS.ior X0.here hx rfl (hb hby dc_d53) rfl (XS.iloadN X0.here hx rfl (hb hby dc_d54) rfl (XS.ior X0.here hx rfl (hb hby dc_d55) rfl k))))))))))))))) ?_
      show own_Dn p e below s _ _ _ (T0.setTop (mkF m 56 #[.val (.int p0), .val (.int p1), .val (.int p2), .val (.int p3), .val (.int p4)] [(.int (((((p0 &&& (7 : Int32)) <<< ((18 : Int32) &&& 31)) ||| (p1 <<< ((12 : Int32) &&& 31))) ||| (p2 <<< ((6 : Int32) &&& 31))) ||| p3))]))
      exact own_retI X0 hx hret hlk (hb hby dc_d56) (by decide) (by decide) ⟨(by rw [hr0, dc_f, if_neg hc3, if_neg hc4]), N0, e0⟩
theorem dc_ef (m : MethodId) (p0 : Int32) (p1 : Int32) (p2 : Int32) (p3 : Int32) (p4 : Int32) : entryFrame m #[(.int p0), (.int p1), (.int p2), (.int p3), (.int p4)] 5 = mkF m 0 #[.val (.int p0), .val (.int p1), .val (.int p2), .val (.int p3), .val (.int p4)] [] := by first | (simp [entryFrame, mkF, argsToLocals, Value.category]; done) | rfl
theorem dc_rm (l : Launch) (Z : State) (a0 : Array Value) (hw : ∀ d ∈ tables_1, d.before a0 Z = true) (ws : List Jvm.Cond) (p0 : Int32) (p1 : Int32) (p2 : Int32) (p3 : Int32) (p4 : Int32) (h0 : Heap) (n0 : Nat) :
    MetFree l (⟨"com/example/xylograph/xylograph/io/Utf8SequenceLengthPinLaw", "decode", "(IIIII)I"⟩ : MethodName) (head1 (Jvm.Cond.code (⟨"com/example/xylograph/xylograph/io/Utf8SequenceLengthPinLaw", "decode", "(IIIII)I"⟩ : MethodName) method_5_code 5 (some .int) :: ws) ({ frames := 0, cells := 0, slots := 0, locals := 0 } : Room)) (fun a U => a = #[(.int p0), (.int p1), (.int p2), (.int p3), (.int p4)] ∧ Z.Warmed39 U.vm ∧ U.heap = h0) (fun _ _ _ _ _ => True) (fun _ U o U' => ∃ v L, o = .returned v ∧ (own_Q (some (.int (dc_f p0 p1 p2 p3 p4))) n0 h0) v U'.heap L ∧ FrameEnd U o U' L ({ frames := 0, cells := 0, slots := 0, locals := 0 } : Room).cells ({ frames := 0, cells := 0, slots := 0, locals := 0 } : Room).slots) :=
  own_met hw (plainFor_of_name (by first | (simp [plainName, overriddenIn]; done) | decide +kernel)) (fun p e s m below meth c T0 C0 X0 e0 => own_st (fun _ k => castTop (dc_ef m p0 p1 p2 p3 p4) k) (dc_c0 C0 X0 e0 (Fr.nil n0) rfl))
theorem ex_d0 : decode method_6_code 0 = .ok (.iload_n 0, 1) := by decide +kernel
theorem ex_d1 : decode method_6_code 1 = .ok (.sipush 128, 3) := by decide +kernel
theorem ex_d4 : decode method_6_code 4 = .ok (.if_icmp .ge 5, 3) := by decide +kernel
theorem ex_d7 : decode method_6_code 7 = .ok (.iconst 1, 1) := by decide +kernel
theorem ex_d8 : decode method_6_code 8 = .ok (.ireturn, 1) := by decide +kernel
theorem ex_d9 : decode method_6_code 9 = .ok (.iload_n 0, 1) := by decide +kernel
theorem ex_d10 : decode method_6_code 10 = .ok (.sipush 224, 3) := by decide +kernel
theorem ex_d13 : decode method_6_code 13 = .ok (.iand, 1) := by decide +kernel
theorem ex_d14 : decode method_6_code 14 = .ok (.sipush 192, 3) := by decide +kernel
theorem ex_d17 : decode method_6_code 17 = .ok (.if_icmp .ne 19, 3) := by decide +kernel
theorem ex_d20 : decode method_6_code 20 = .ok (.iconst 2, 1) := by decide +kernel
theorem ex_d21 : decode method_6_code 21 = .ok (.istore 5, 2) := by decide +kernel
theorem ex_d23 : decode method_6_code 23 = .ok (.sipush 128, 3) := by decide +kernel
theorem ex_d26 : decode method_6_code 26 = .ok (.istore 6, 2) := by decide +kernel
theorem ex_d28 : decode method_6_code 28 = .ok (.sipush 2047, 3) := by decide +kernel
theorem ex_d31 : decode method_6_code 31 = .ok (.istore 7, 2) := by decide +kernel
theorem ex_d33 : decode method_6_code 33 = .ok (.goto 56, 3) := by decide +kernel
theorem ex_d36 : decode method_6_code 36 = .ok (.iload_n 0, 1) := by decide +kernel
theorem ex_d37 : decode method_6_code 37 = .ok (.sipush 240, 3) := by decide +kernel
theorem ex_d40 : decode method_6_code 40 = .ok (.iand, 1) := by decide +kernel
theorem ex_d41 : decode method_6_code 41 = .ok (.sipush 224, 3) := by decide +kernel
theorem ex_d44 : decode method_6_code 44 = .ok (.if_icmp .ne 18, 3) := by decide +kernel
theorem ex_d47 : decode method_6_code 47 = .ok (.iconst 3, 1) := by decide +kernel
theorem ex_d48 : decode method_6_code 48 = .ok (.istore 5, 2) := by decide +kernel
theorem ex_d50 : decode method_6_code 50 = .ok (.sipush 2048, 3) := by decide +kernel
theorem ex_d53 : decode method_6_code 53 = .ok (.istore 6, 2) := by decide +kernel
theorem ex_d55 : decode method_6_code 55 = .ok (.ldc 20, 2) := by decide +kernel
theorem ex_d57 : decode method_6_code 57 = .ok (.istore 7, 2) := by decide +kernel
theorem ex_d59 : decode method_6_code 59 = .ok (.goto 30, 3) := by decide +kernel
theorem ex_d62 : decode method_6_code 62 = .ok (.iload_n 0, 1) := by decide +kernel
theorem ex_d63 : decode method_6_code 63 = .ok (.sipush 248, 3) := by decide +kernel
theorem ex_d66 : decode method_6_code 66 = .ok (.iand, 1) := by decide +kernel
theorem ex_d67 : decode method_6_code 67 = .ok (.sipush 240, 3) := by decide +kernel
theorem ex_d70 : decode method_6_code 70 = .ok (.if_icmp .ne 17, 3) := by decide +kernel
theorem ex_d73 : decode method_6_code 73 = .ok (.iconst 4, 1) := by decide +kernel
theorem ex_d74 : decode method_6_code 74 = .ok (.istore 5, 2) := by decide +kernel
theorem ex_d76 : decode method_6_code 76 = .ok (.ldc 21, 2) := by decide +kernel
theorem ex_d78 : decode method_6_code 78 = .ok (.istore 6, 2) := by decide +kernel
theorem ex_d80 : decode method_6_code 80 = .ok (.ldc 22, 2) := by decide +kernel
theorem ex_d82 : decode method_6_code 82 = .ok (.istore 7, 2) := by decide +kernel
theorem ex_d84 : decode method_6_code 84 = .ok (.goto 5, 3) := by decide +kernel
theorem ex_d87 : decode method_6_code 87 = .ok (.iconst (-1), 1) := by decide +kernel
theorem ex_d88 : decode method_6_code 88 = .ok (.ireturn, 1) := by decide +kernel
theorem ex_d89 : decode method_6_code 89 = .ok (.iload 4, 2) := by decide +kernel
theorem ex_d91 : decode method_6_code 91 = .ok (.iload 5, 2) := by decide +kernel
theorem ex_d93 : decode method_6_code 93 = .ok (.invokestatic 23, 3) := by decide +kernel
theorem ex_d96 : decode method_6_code 96 = .ok (.istore 8, 2) := by decide +kernel
theorem ex_d98 : decode method_6_code 98 = .ok (.iload 8, 2) := by decide +kernel
theorem ex_d100 : decode method_6_code 100 = .ok (.iconst 1, 1) := by decide +kernel
theorem ex_d101 : decode method_6_code 101 = .ok (.if_icmp .le 12, 3) := by decide +kernel
theorem ex_d104 : decode method_6_code 104 = .ok (.iload_n 1, 1) := by decide +kernel
theorem ex_d105 : decode method_6_code 105 = .ok (.invokestatic 29, 3) := by decide +kernel
theorem ex_d108 : decode method_6_code 108 = .ok (.ifCond .ne 5, 3) := by decide +kernel
theorem ex_d111 : decode method_6_code 111 = .ok (.iconst (-1), 1) := by decide +kernel
theorem ex_d112 : decode method_6_code 112 = .ok (.ireturn, 1) := by decide +kernel
theorem ex_d113 : decode method_6_code 113 = .ok (.iload 8, 2) := by decide +kernel
theorem ex_d115 : decode method_6_code 115 = .ok (.iconst 2, 1) := by decide +kernel
theorem ex_d116 : decode method_6_code 116 = .ok (.if_icmp .le 12, 3) := by decide +kernel
theorem ex_d119 : decode method_6_code 119 = .ok (.iload_n 2, 1) := by decide +kernel
theorem ex_d120 : decode method_6_code 120 = .ok (.invokestatic 29, 3) := by decide +kernel
theorem ex_d123 : decode method_6_code 123 = .ok (.ifCond .ne 5, 3) := by decide +kernel
theorem ex_d126 : decode method_6_code 126 = .ok (.iconst (-1), 1) := by decide +kernel
theorem ex_d127 : decode method_6_code 127 = .ok (.ireturn, 1) := by decide +kernel
theorem ex_d128 : decode method_6_code 128 = .ok (.iload 8, 2) := by decide +kernel
theorem ex_d130 : decode method_6_code 130 = .ok (.iconst 3, 1) := by decide +kernel
theorem ex_d131 : decode method_6_code 131 = .ok (.if_icmp .le 12, 3) := by decide +kernel
theorem ex_d134 : decode method_6_code 134 = .ok (.iload_n 3, 1) := by decide +kernel
theorem ex_d135 : decode method_6_code 135 = .ok (.invokestatic 29, 3) := by decide +kernel
theorem ex_d138 : decode method_6_code 138 = .ok (.ifCond .ne 5, 3) := by decide +kernel
theorem ex_d141 : decode method_6_code 141 = .ok (.iconst (-1), 1) := by decide +kernel
theorem ex_d142 : decode method_6_code 142 = .ok (.ireturn, 1) := by decide +kernel
theorem ex_d143 : decode method_6_code 143 = .ok (.iload_n 0, 1) := by decide +kernel
theorem ex_d144 : decode method_6_code 144 = .ok (.iload_n 1, 1) := by decide +kernel
theorem ex_d145 : decode method_6_code 145 = .ok (.iconst 1, 1) := by decide +kernel
theorem ex_d146 : decode method_6_code 146 = .ok (.iload 8, 2) := by decide +kernel
theorem ex_d148 : decode method_6_code 148 = .ok (.iconst 0, 1) := by decide +kernel
theorem ex_d149 : decode method_6_code 149 = .ok (.invokestatic 33, 3) := by decide +kernel
theorem ex_d152 : decode method_6_code 152 = .ok (.iload_n 2, 1) := by decide +kernel
theorem ex_d153 : decode method_6_code 153 = .ok (.iconst 2, 1) := by decide +kernel
theorem ex_d154 : decode method_6_code 154 = .ok (.iload 8, 2) := by decide +kernel
theorem ex_d156 : decode method_6_code 156 = .ok (.iconst 0, 1) := by decide +kernel
theorem ex_d157 : decode method_6_code 157 = .ok (.invokestatic 33, 3) := by decide +kernel
theorem ex_d160 : decode method_6_code 160 = .ok (.iload_n 3, 1) := by decide +kernel
theorem ex_d161 : decode method_6_code 161 = .ok (.iconst 3, 1) := by decide +kernel
theorem ex_d162 : decode method_6_code 162 = .ok (.iload 8, 2) := by decide +kernel
theorem ex_d164 : decode method_6_code 164 = .ok (.iconst 0, 1) := by decide +kernel
theorem ex_d165 : decode method_6_code 165 = .ok (.invokestatic 33, 3) := by decide +kernel
theorem ex_d168 : decode method_6_code 168 = .ok (.iload 5, 2) := by decide +kernel
theorem ex_d170 : decode method_6_code 170 = .ok (.invokestatic 37, 3) := by decide +kernel
theorem ex_d173 : decode method_6_code 173 = .ok (.istore 9, 2) := by decide +kernel
theorem ex_d175 : decode method_6_code 175 = .ok (.iload_n 0, 1) := by decide +kernel
theorem ex_d176 : decode method_6_code 176 = .ok (.iload_n 1, 1) := by decide +kernel
theorem ex_d177 : decode method_6_code 177 = .ok (.iconst 1, 1) := by decide +kernel
theorem ex_d178 : decode method_6_code 178 = .ok (.iload 8, 2) := by decide +kernel
theorem ex_d180 : decode method_6_code 180 = .ok (.iconst 1, 1) := by decide +kernel
theorem ex_d181 : decode method_6_code 181 = .ok (.invokestatic 33, 3) := by decide +kernel
theorem ex_d184 : decode method_6_code 184 = .ok (.iload_n 2, 1) := by decide +kernel
theorem ex_d185 : decode method_6_code 185 = .ok (.iconst 2, 1) := by decide +kernel
theorem ex_d186 : decode method_6_code 186 = .ok (.iload 8, 2) := by decide +kernel
theorem ex_d188 : decode method_6_code 188 = .ok (.iconst 1, 1) := by decide +kernel
theorem ex_d189 : decode method_6_code 189 = .ok (.invokestatic 33, 3) := by decide +kernel
theorem ex_d192 : decode method_6_code 192 = .ok (.iload_n 3, 1) := by decide +kernel
theorem ex_d193 : decode method_6_code 193 = .ok (.iconst 3, 1) := by decide +kernel
theorem ex_d194 : decode method_6_code 194 = .ok (.iload 8, 2) := by decide +kernel
theorem ex_d196 : decode method_6_code 196 = .ok (.iconst 1, 1) := by decide +kernel
theorem ex_d197 : decode method_6_code 197 = .ok (.invokestatic 33, 3) := by decide +kernel
theorem ex_d200 : decode method_6_code 200 = .ok (.iload 5, 2) := by decide +kernel
theorem ex_d202 : decode method_6_code 202 = .ok (.invokestatic 37, 3) := by decide +kernel
theorem ex_d205 : decode method_6_code 205 = .ok (.istore 10, 2) := by decide +kernel
theorem ex_d207 : decode method_6_code 207 = .ok (.iload 9, 2) := by decide +kernel
theorem ex_d209 : decode method_6_code 209 = .ok (.iload 6, 2) := by decide +kernel
theorem ex_d211 : decode method_6_code 211 = .ok (.invokestatic 40, 3) := by decide +kernel
theorem ex_d214 : decode method_6_code 214 = .ok (.istore 11, 2) := by decide +kernel
theorem ex_d216 : decode method_6_code 216 = .ok (.iload 10, 2) := by decide +kernel
theorem ex_d218 : decode method_6_code 218 = .ok (.iload 7, 2) := by decide +kernel
theorem ex_d220 : decode method_6_code 220 = .ok (.invokestatic 23, 3) := by decide +kernel
theorem ex_d223 : decode method_6_code 223 = .ok (.istore 12, 2) := by decide +kernel
theorem ex_d225 : decode method_6_code 225 = .ok (.iload 11, 2) := by decide +kernel
theorem ex_d227 : decode method_6_code 227 = .ok (.iload 12, 2) := by decide +kernel
theorem ex_d229 : decode method_6_code 229 = .ok (.if_icmp .le 5, 3) := by decide +kernel
theorem ex_d232 : decode method_6_code 232 = .ok (.iconst (-1), 1) := by decide +kernel
theorem ex_d233 : decode method_6_code 233 = .ok (.ireturn, 1) := by decide +kernel
theorem ex_d234 : decode method_6_code 234 = .ok (.iload 11, 2) := by decide +kernel
theorem ex_d236 : decode method_6_code 236 = .ok (.ldc 43, 2) := by decide +kernel
theorem ex_d238 : decode method_6_code 238 = .ok (.if_icmp .lt 12, 3) := by decide +kernel
theorem ex_d241 : decode method_6_code 241 = .ok (.iload 12, 2) := by decide +kernel
theorem ex_d243 : decode method_6_code 243 = .ok (.ldc 44, 2) := by decide +kernel
theorem ex_d245 : decode method_6_code 245 = .ok (.if_icmp .gt 5, 3) := by decide +kernel
theorem ex_d248 : decode method_6_code 248 = .ok (.iconst (-1), 1) := by decide +kernel
theorem ex_d249 : decode method_6_code 249 = .ok (.ireturn, 1) := by decide +kernel
theorem ex_d250 : decode method_6_code 250 = .ok (.iload 8, 2) := by decide +kernel
theorem ex_d252 : decode method_6_code 252 = .ok (.iload 5, 2) := by decide +kernel
theorem ex_d254 : decode method_6_code 254 = .ok (.if_icmp .ge 7, 3) := by decide +kernel
theorem ex_d257 : decode method_6_code 257 = .ok (.iconst 0, 1) := by decide +kernel
theorem ex_d258 : decode method_6_code 258 = .ok (.goto 5, 3) := by decide +kernel
theorem ex_d261 : decode method_6_code 261 = .ok (.iload 5, 2) := by decide +kernel
theorem ex_d263 : decode method_6_code 263 = .ok (.ireturn, 1) := by decide +kernel
def ex_f250 (p0 : Int32) (p1 : Int32) (p2 : Int32) (p3 : Int32) (p4 : Int32) (v5 : Int32) (v6 : Int32) (v7 : Int32) (v8 : Int32) (v9 : Int32) (v10 : Int32) (v11 : Int32) (v12 : Int32) : Int32 :=
  if v8 < v5 then
    (0 : Int32)
  else
    v5
set_option maxRecDepth 65536 in
set_option maxHeartbeats 40000000 in
theorem ex_c250 {l : Launch} {Z : State} {a0 : Array Value} {p0 : Int32} {p1 : Int32} {p2 : Int32} {p3 : Int32} {p4 : Int32} {h0 : Heap} {n0 : Nat} {p : Program} {e : Env} {s : State} {m : MethodId} {args : Array Value} {below : List Frame} {meth : Method} {c : Code} {T0 : State} {locs : List Loc} {r0 : Int32} (C0 : own_Cx p s m meth c Z a0 method_6_code 13 "com/example/xylograph/xylograph/io/Utf8SequenceLengthPinLaw" "expected" (some .int)) (X0 : Stand p l e ({ frames := 1, cells := 0, slots := 0, locals := 18 } : Room) s m args below meth c T0 locs 0 0) (e0 : T0.heap = h0) (N0 : Fr n0 locs) (v5 : Int32) (v6 : Int32) (v7 : Int32) (v8 : Int32) (v9 : Int32) (v10 : Int32) (v11 : Int32) (v12 : Int32) (hr0 : r0 = ex_f250 p0 p1 p2 p3 p4 v5 v6 v7 v8 v9 v10 v11 v12) :
    own_Dn p e below s (own_Q (some (.int r0)) n0 h0) ({ frames := 1, cells := 0, slots := 0, locals := 18 } : Room).cells ({ frames := 1, cells := 0, slots := 0, locals := 18 } : Room).slots (T0.setTop (mkF m 250 #[.val (.int p0), .val (.int p1), .val (.int p2), .val (.int p3), .val (.int p4), .val (.int v5), .val (.int v6), .val (.int v7), .val (.int v8), .val (.int v9), .val (.int v10), .val (.int v11), .val (.int v12)] [])) := by
  obtain ⟨hx, hZ, hw, hby, hml, hown, hret, hlk, hnm⟩ := id C0
  refine own_st (fun _ k => XS.iload X0.here hx rfl (hb hby ex_d250) rfl (XS.iload X0.here hx rfl (hb hby ex_d252) rfl k)) ?_
  show own_Dn p e below s _ _ _ (T0.setTop (mkF m 254 #[.val (.int p0), .val (.int p1), .val (.int p2), .val (.int p3), .val (.int p4), .val (.int v5), .val (.int v6), .val (.int v7), .val (.int v8), .val (.int v9), .val (.int v10), .val (.int v11), .val (.int v12)] [(.int v5), (.int v8)]))
  by_cases hc56 : v8 < v5
  · refine own_st (fun _ k => XS.icmpNo X0.here hx rfl (hb hby ex_d254) rfl (tlt hc56).2.1 k) ?_
    show own_Dn p e below s _ _ _ (T0.setTop (mkF m 257 #[.val (.int p0), .val (.int p1), .val (.int p2), .val (.int p3), .val (.int p4), .val (.int v5), .val (.int v6), .val (.int v7), .val (.int v8), .val (.int v9), .val (.int v10), .val (.int v11), .val (.int v12)] []))
    refine own_st (fun _ k => XS.iconst X0.here hx rfl (hb hby ex_d257) (XS.goto X0.here hx rfl (pc0 := 258) (pc' := 263) rfl (hb hby ex_d258) (by decide) (by decide) k)) ?_
    show own_Dn p e below s _ _ _ (T0.setTop (mkF m 263 #[.val (.int p0), .val (.int p1), .val (.int p2), .val (.int p3), .val (.int p4), .val (.int v5), .val (.int v6), .val (.int v7), .val (.int v8), .val (.int v9), .val (.int v10), .val (.int v11), .val (.int v12)] [(.int (0 : Int32))]))
    exact own_retI X0 hx hret hlk (hb hby ex_d263) (by decide) (by decide) ⟨(by rw [hr0, ex_f250, if_pos hc56]), N0, e0⟩
  · refine own_st (fun _ k => XS.icmpYes X0.here hx rfl (pc0 := 254) (pc' := 261) rfl (hb hby ex_d254) rfl (flt hc56).2.1 (by decide) (by decide) k) ?_
    show own_Dn p e below s _ _ _ (T0.setTop (mkF m 261 #[.val (.int p0), .val (.int p1), .val (.int p2), .val (.int p3), .val (.int p4), .val (.int v5), .val (.int v6), .val (.int v7), .val (.int v8), .val (.int v9), .val (.int v10), .val (.int v11), .val (.int v12)] []))
    refine own_st (fun _ k => XS.iload X0.here hx rfl (hb hby ex_d261) rfl k) ?_
    show own_Dn p e below s _ _ _ (T0.setTop (mkF m 263 #[.val (.int p0), .val (.int p1), .val (.int p2), .val (.int p3), .val (.int p4), .val (.int v5), .val (.int v6), .val (.int v7), .val (.int v8), .val (.int v9), .val (.int v10), .val (.int v11), .val (.int v12)] [(.int v5)]))
    exact own_retI X0 hx hret hlk (hb hby ex_d263) (by decide) (by decide) ⟨(by rw [hr0, ex_f250, if_neg hc56]), N0, e0⟩
def ex_f207 (p0 : Int32) (p1 : Int32) (p2 : Int32) (p3 : Int32) (p4 : Int32) (v5 : Int32) (v6 : Int32) (v7 : Int32) (v8 : Int32) (v9 : Int32) (v10 : Int32) : Int32 :=
  if (mn_f v10 v7) < (mx_f v9 v6) then
    (-1 : Int32)
  else
    if (mx_f v9 v6) < (55296 : Int32) then
      ex_f250 p0 p1 p2 p3 p4 (v5) (v6) (v7) (v8) (v9) (v10) ((mx_f v9 v6)) ((mn_f v10 v7))
    else
      if (57343 : Int32) < (mn_f v10 v7) then
        ex_f250 p0 p1 p2 p3 p4 (v5) (v6) (v7) (v8) (v9) (v10) ((mx_f v9 v6)) ((mn_f v10 v7))
      else
        (-1 : Int32)
set_option maxRecDepth 65536 in
set_option maxHeartbeats 40000000 in
theorem ex_c207 {l : Launch} {Z : State} {a0 : Array Value} {p0 : Int32} {p1 : Int32} {p2 : Int32} {p3 : Int32} {p4 : Int32} {h0 : Heap} {n0 : Nat} {p : Program} {e : Env} {s : State} {m : MethodId} {args : Array Value} {below : List Frame} {meth : Method} {c : Code} {T0 : State} {locs : List Loc} {r0 : Int32} (C0 : own_Cx p s m meth c Z a0 method_6_code 13 "com/example/xylograph/xylograph/io/Utf8SequenceLengthPinLaw" "expected" (some .int)) (X0 : Stand p l e ({ frames := 1, cells := 0, slots := 0, locals := 18 } : Room) s m args below meth c T0 locs 0 0) (e0 : T0.heap = h0) (N0 : Fr n0 locs) (v5 : Int32) (v6 : Int32) (v7 : Int32) (v8 : Int32) (v9 : Int32) (v10 : Int32) (hr0 : r0 = ex_f207 p0 p1 p2 p3 p4 v5 v6 v7 v8 v9 v10) :
    own_Dn p e below s (own_Q (some (.int r0)) n0 h0) ({ frames := 1, cells := 0, slots := 0, locals := 18 } : Room).cells ({ frames := 1, cells := 0, slots := 0, locals := 18 } : Room).slots (T0.setTop (mkF m 207 #[.val (.int p0), .val (.int p1), .val (.int p2), .val (.int p3), .val (.int p4), .val (.int v5), .val (.int v6), .val (.int v7), .val (.int v8), .val (.int v9), .val (.int v10), .unset, .unset] [])) := by
  obtain ⟨hx, hZ, hw, hby, hml, hown, hret, hlk, hnm⟩ := id C0
  refine own_st (fun _ k => XS.iload X0.here hx rfl (hb hby ex_d207) rfl (XS.iload X0.here hx rfl (hb hby ex_d209) rfl k)) ?_
  show own_Dn p e below s _ _ _ (T0.setTop (mkF m 211 #[.val (.int p0), .val (.int p1), .val (.int p2), .val (.int p3), .val (.int p4), .val (.int v5), .val (.int v6), .val (.int v7), .val (.int v8), .val (.int v9), .val (.int v10), .unset, .unset] [(.int v6), (.int v9)]))
  obtain ⟨_, _, ⟨T51, L51, k51, n51⟩, -, X51, ⟨Lc51, hQ51, l51, y51, z51⟩, st51⟩ := Jvm.LawKit.callS X0 hx (y := (⟨"java/lang/Math", "max", "(II)I"⟩ : MethodName)) hown (mvT hZ (hw _ (List.mem_of_getElem? (i := 25) rfl))) (mvT hZ (hw _ (List.mem_of_getElem? (i := 26) rfl))) (mvT hZ (hw _ (List.mem_of_getElem? (i := 12) rfl))) (mvT hZ (hw _ (List.mem_of_getElem? (i := 27) rfl))) (by decide) (backOf (W := 0) (mx_rm l Z a0 hw [] (v9) (v6) h0 n0) hZ (hw _ (List.mem_of_getElem? (i := 27) rfl)) (hw _ (List.mem_of_getElem? (i := 12) rfl)) (by decide) (by decide)) (g := (mkF m 211 #[.val (.int p0), .val (.int p1), .val (.int p2), .val (.int p3), .val (.int p4), .val (.int v5), .val (.int v6), .val (.int v7), .val (.int v8), .val (.int v9), .val (.int v10), .unset, .unset] [(.int v6), (.int v9)])) rfl (by rw [hml]; rfl) (argsL := [(.int v9), (.int v6)]) (rest := []) (lenOf own_pd0 rfl) rfl (by show 2 * 0 + _ ≤ _; exact Nat.le_of_eq rfl) (hb hby ex_d211) (fun _ _ => ⟨rfl, e0, (by decide : 0 + 0 ≤ _), (by decide : 0 + 0 ≤ _)⟩)
  dsimp only [Pt.U, Pt.locs, Pt.cells, Pt.slots] at X51 l51 y51 z51 st51 hQ51
  subst l51 y51 z51
  obtain ⟨rfl, N51q, e51⟩ := hQ51
  have N51 := Fr.app N0 N51q
  refine own_st st51 ?_
  show own_Dn p e below s _ _ _ (T51.setTop (mkF m 214 #[.val (.int p0), .val (.int p1), .val (.int p2), .val (.int p3), .val (.int p4), .val (.int v5), .val (.int v6), .val (.int v7), .val (.int v8), .val (.int v9), .val (.int v10), .unset, .unset] [(.int (mx_f v9 v6))]))
  refine own_st (fun _ k => XS.istore X51.here hx rfl (hb hby ex_d214) rfl (l' := #[.val (.int p0), .val (.int p1), .val (.int p2), .val (.int p3), .val (.int p4), .val (.int v5), .val (.int v6), .val (.int v7), .val (.int v8), .val (.int v9), .val (.int v10), .val (.int (mx_f v9 v6)), .unset]) rfl (XS.iload X51.here hx rfl (hb hby ex_d216) rfl (XS.iload X51.here hx rfl (hb hby ex_d218) rfl k))) ?_
  show own_Dn p e below s _ _ _ (T51.setTop (mkF m 220 #[.val (.int p0), .val (.int p1), .val (.int p2), .val (.int p3), .val (.int p4), .val (.int v5), .val (.int v6), .val (.int v7), .val (.int v8), .val (.int v9), .val (.int v10), .val (.int (mx_f v9 v6)), .unset] [(.int v7), (.int v10)]))
  obtain ⟨_, _, ⟨T52, L52, k52, n52⟩, -, X52, ⟨Lc52, hQ52, l52, y52, z52⟩, st52⟩ := Jvm.LawKit.callS X51 hx (y := (⟨"java/lang/Math", "min", "(II)I"⟩ : MethodName)) hown (mvT hZ (hw _ (List.mem_of_getElem? (i := 10) rfl))) (mvT hZ (hw _ (List.mem_of_getElem? (i := 11) rfl))) (mvT hZ (hw _ (List.mem_of_getElem? (i := 12) rfl))) (mvT hZ (hw _ (List.mem_of_getElem? (i := 13) rfl))) (by decide) (backOf (W := 0) (mn_rm l Z a0 hw [] (v10) (v7) h0 n0) hZ (hw _ (List.mem_of_getElem? (i := 13) rfl)) (hw _ (List.mem_of_getElem? (i := 12) rfl)) (by decide) (by decide)) (g := (mkF m 220 #[.val (.int p0), .val (.int p1), .val (.int p2), .val (.int p3), .val (.int p4), .val (.int v5), .val (.int v6), .val (.int v7), .val (.int v8), .val (.int v9), .val (.int v10), .val (.int (mx_f v9 v6)), .unset] [(.int v7), (.int v10)])) rfl (by rw [hml]; rfl) (argsL := [(.int v10), (.int v7)]) (rest := []) (lenOf own_pd0 rfl) rfl (by show 2 * 0 + _ ≤ _; exact Nat.le_of_eq rfl) (hb hby ex_d220) (fun _ _ => ⟨rfl, e51, (by decide : 0 + 0 ≤ _), (by decide : 0 + 0 ≤ _)⟩)
  dsimp only [Pt.U, Pt.locs, Pt.cells, Pt.slots] at X52 l52 y52 z52 st52 hQ52
  subst l52 y52 z52
  obtain ⟨rfl, N52q, e52⟩ := hQ52
  have N52 := Fr.app N51 N52q
  refine own_st st52 ?_
  show own_Dn p e below s _ _ _ (T52.setTop (mkF m 223 #[.val (.int p0), .val (.int p1), .val (.int p2), .val (.int p3), .val (.int p4), .val (.int v5), .val (.int v6), .val (.int v7), .val (.int v8), .val (.int v9), .val (.int v10), .val (.int (mx_f v9 v6)), .unset] [(.int (mn_f v10 v7))]))
  refine own_st (fun _ k => XS.istore X52.here hx rfl (hb hby ex_d223) rfl (l' := #[.val (.int p0), .val (.int p1), .val (.int p2), .val (.int p3), .val (.int p4), .val (.int v5), .val (.int v6), .val (.int v7), .val (.int v8), .val (.int v9), .val (.int v10), .val (.int (mx_f v9 v6)), .val (.int (mn_f v10 v7))]) rfl (XS.iload X52.here hx rfl (hb hby ex_d225) rfl (XS.iload X52.here hx rfl (hb hby ex_d227) rfl k))) ?_
  show own_Dn p e below s _ _ _ (T52.setTop (mkF m 229 #[.val (.int p0), .val (.int p1), .val (.int p2), .val (.int p3), .val (.int p4), .val (.int v5), .val (.int v6), .val (.int v7), .val (.int v8), .val (.int v9), .val (.int v10), .val (.int (mx_f v9 v6)), .val (.int (mn_f v10 v7))] [(.int (mn_f v10 v7)), (.int (mx_f v9 v6))]))
  by_cases hc53 : (mn_f v10 v7) < (mx_f v9 v6)
  · refine own_st (fun _ k => XS.icmpNo X52.here hx rfl (hb hby ex_d229) rfl (tlt hc53).2.2.2 k) ?_
    show own_Dn p e below s _ _ _ (T52.setTop (mkF m 232 #[.val (.int p0), .val (.int p1), .val (.int p2), .val (.int p3), .val (.int p4), .val (.int v5), .val (.int v6), .val (.int v7), .val (.int v8), .val (.int v9), .val (.int v10), .val (.int (mx_f v9 v6)), .val (.int (mn_f v10 v7))] []))
    refine own_st (fun _ k => XS.iconst X52.here hx rfl (hb hby ex_d232) k) ?_
    show own_Dn p e below s _ _ _ (T52.setTop (mkF m 233 #[.val (.int p0), .val (.int p1), .val (.int p2), .val (.int p3), .val (.int p4), .val (.int v5), .val (.int v6), .val (.int v7), .val (.int v8), .val (.int v9), .val (.int v10), .val (.int (mx_f v9 v6)), .val (.int (mn_f v10 v7))] [(.int (-1 : Int32))]))
    exact own_retI X52 hx hret hlk (hb hby ex_d233) (by decide) (by decide) ⟨(by rw [hr0, ex_f207, if_pos hc53]), N52, e52⟩
  · refine own_st (fun _ k => XS.icmpYes X52.here hx rfl (pc0 := 229) (pc' := 234) rfl (hb hby ex_d229) rfl (flt hc53).2.2.2 (by decide) (by decide) k) ?_
    show own_Dn p e below s _ _ _ (T52.setTop (mkF m 234 #[.val (.int p0), .val (.int p1), .val (.int p2), .val (.int p3), .val (.int p4), .val (.int v5), .val (.int v6), .val (.int v7), .val (.int v8), .val (.int v9), .val (.int v10), .val (.int (mx_f v9 v6)), .val (.int (mn_f v10 v7))] []))
    refine own_st (fun _ k => XS.iload X52.here hx rfl (hb hby ex_d234) rfl (X52.ldcInt hx (index := 43) (v := (55296 : Int32)) hown (mvT hZ (hw _ (List.mem_of_getElem? (i := 28) rfl))) (g := (mkF m 236 #[.val (.int p0), .val (.int p1), .val (.int p2), .val (.int p3), .val (.int p4), .val (.int v5), .val (.int v6), .val (.int v7), .val (.int v8), .val (.int v9), .val (.int v10), .val (.int (mx_f v9 v6)), .val (.int (mn_f v10 v7))] [(.int (mx_f v9 v6))])) rfl (hb hby ex_d236) _ k)) ?_
    show own_Dn p e below s _ _ _ (T52.setTop (mkF m 238 #[.val (.int p0), .val (.int p1), .val (.int p2), .val (.int p3), .val (.int p4), .val (.int v5), .val (.int v6), .val (.int v7), .val (.int v8), .val (.int v9), .val (.int v10), .val (.int (mx_f v9 v6)), .val (.int (mn_f v10 v7))] [(.int (55296 : Int32)), (.int (mx_f v9 v6))]))
    by_cases hc54 : (mx_f v9 v6) < (55296 : Int32)
    · refine own_st (fun _ k => XS.icmpYes X52.here hx rfl (pc0 := 238) (pc' := 250) rfl (hb hby ex_d238) rfl (tlt hc54).1 (by decide) (by decide) k) ?_
      show own_Dn p e below s _ _ _ (T52.setTop (mkF m 250 #[.val (.int p0), .val (.int p1), .val (.int p2), .val (.int p3), .val (.int p4), .val (.int v5), .val (.int v6), .val (.int v7), .val (.int v8), .val (.int v9), .val (.int v10), .val (.int (mx_f v9 v6)), .val (.int (mn_f v10 v7))] []))
      exact ex_c250 C0 X52 e52 N52 (v5) (v6) (v7) (v8) (v9) (v10) ((mx_f v9 v6)) ((mn_f v10 v7)) (by rw [hr0, ex_f207, if_neg hc53, if_pos hc54])
    · refine own_st (fun _ k => XS.icmpNo X52.here hx rfl (hb hby ex_d238) rfl (flt hc54).1 k) ?_
      show own_Dn p e below s _ _ _ (T52.setTop (mkF m 241 #[.val (.int p0), .val (.int p1), .val (.int p2), .val (.int p3), .val (.int p4), .val (.int v5), .val (.int v6), .val (.int v7), .val (.int v8), .val (.int v9), .val (.int v10), .val (.int (mx_f v9 v6)), .val (.int (mn_f v10 v7))] []))
      refine own_st (fun _ k => XS.iload X52.here hx rfl (hb hby ex_d241) rfl (X52.ldcInt hx (index := 44) (v := (57343 : Int32)) hown (mvT hZ (hw _ (List.mem_of_getElem? (i := 30) rfl))) (g := (mkF m 243 #[.val (.int p0), .val (.int p1), .val (.int p2), .val (.int p3), .val (.int p4), .val (.int v5), .val (.int v6), .val (.int v7), .val (.int v8), .val (.int v9), .val (.int v10), .val (.int (mx_f v9 v6)), .val (.int (mn_f v10 v7))] [(.int (mn_f v10 v7))])) rfl (hb hby ex_d243) _ k)) ?_
      show own_Dn p e below s _ _ _ (T52.setTop (mkF m 245 #[.val (.int p0), .val (.int p1), .val (.int p2), .val (.int p3), .val (.int p4), .val (.int v5), .val (.int v6), .val (.int v7), .val (.int v8), .val (.int v9), .val (.int v10), .val (.int (mx_f v9 v6)), .val (.int (mn_f v10 v7))] [(.int (57343 : Int32)), (.int (mn_f v10 v7))]))
      by_cases hc55 : (57343 : Int32) < (mn_f v10 v7)
      · refine own_st (fun _ k => XS.icmpYes X52.here hx rfl (pc0 := 245) (pc' := 250) rfl (hb hby ex_d245) rfl (tlt hc55).2.2.1 (by decide) (by decide) k) ?_
        show own_Dn p e below s _ _ _ (T52.setTop (mkF m 250 #[.val (.int p0), .val (.int p1), .val (.int p2), .val (.int p3), .val (.int p4), .val (.int v5), .val (.int v6), .val (.int v7), .val (.int v8), .val (.int v9), .val (.int v10), .val (.int (mx_f v9 v6)), .val (.int (mn_f v10 v7))] []))
        exact ex_c250 C0 X52 e52 N52 (v5) (v6) (v7) (v8) (v9) (v10) ((mx_f v9 v6)) ((mn_f v10 v7)) (by rw [hr0, ex_f207, if_neg hc53, if_neg hc54, if_pos hc55])
      · refine own_st (fun _ k => XS.icmpNo X52.here hx rfl (hb hby ex_d245) rfl (flt hc55).2.2.1 k) ?_
        show own_Dn p e below s _ _ _ (T52.setTop (mkF m 248 #[.val (.int p0), .val (.int p1), .val (.int p2), .val (.int p3), .val (.int p4), .val (.int v5), .val (.int v6), .val (.int v7), .val (.int v8), .val (.int v9), .val (.int v10), .val (.int (mx_f v9 v6)), .val (.int (mn_f v10 v7))] []))
        refine own_st (fun _ k => XS.iconst X52.here hx rfl (hb hby ex_d248) k) ?_
        show own_Dn p e below s _ _ _ (T52.setTop (mkF m 249 #[.val (.int p0), .val (.int p1), .val (.int p2), .val (.int p3), .val (.int p4), .val (.int v5), .val (.int v6), .val (.int v7), .val (.int v8), .val (.int v9), .val (.int v10), .val (.int (mx_f v9 v6)), .val (.int (mn_f v10 v7))] [(.int (-1 : Int32))]))
        exact own_retI X52 hx hret hlk (hb hby ex_d249) (by decide) (by decide) ⟨(by rw [hr0, ex_f207, if_neg hc53, if_neg hc54, if_neg hc55]), N52, e52⟩
def ex_f143 (p0 : Int32) (p1 : Int32) (p2 : Int32) (p3 : Int32) (p4 : Int32) (v5 : Int32) (v6 : Int32) (v7 : Int32) (v8 : Int32) : Int32 :=
  ex_f207 p0 p1 p2 p3 p4 (v5) (v6) (v7) (v8) ((dc_f p0 (py_f p1 (1 : Int32) v8 (0 : Int32)) (py_f p2 (2 : Int32) v8 (0 : Int32)) (py_f p3 (3 : Int32) v8 (0 : Int32)) v5)) ((dc_f p0 (py_f p1 (1 : Int32) v8 (1 : Int32)) (py_f p2 (2 : Int32) v8 (1 : Int32)) (py_f p3 (3 : Int32) v8 (1 : Int32)) v5))
set_option maxRecDepth 65536 in
set_option maxHeartbeats 40000000 in
theorem ex_c143 {l : Launch} {Z : State} {a0 : Array Value} {p0 : Int32} {p1 : Int32} {p2 : Int32} {p3 : Int32} {p4 : Int32} {h0 : Heap} {n0 : Nat} {p : Program} {e : Env} {s : State} {m : MethodId} {args : Array Value} {below : List Frame} {meth : Method} {c : Code} {T0 : State} {locs : List Loc} {r0 : Int32} (C0 : own_Cx p s m meth c Z a0 method_6_code 13 "com/example/xylograph/xylograph/io/Utf8SequenceLengthPinLaw" "expected" (some .int)) (X0 : Stand p l e ({ frames := 1, cells := 0, slots := 0, locals := 18 } : Room) s m args below meth c T0 locs 0 0) (e0 : T0.heap = h0) (N0 : Fr n0 locs) (v5 : Int32) (v6 : Int32) (v7 : Int32) (v8 : Int32) (hr0 : r0 = ex_f143 p0 p1 p2 p3 p4 v5 v6 v7 v8) :
    own_Dn p e below s (own_Q (some (.int r0)) n0 h0) ({ frames := 1, cells := 0, slots := 0, locals := 18 } : Room).cells ({ frames := 1, cells := 0, slots := 0, locals := 18 } : Room).slots (T0.setTop (mkF m 143 #[.val (.int p0), .val (.int p1), .val (.int p2), .val (.int p3), .val (.int p4), .val (.int v5), .val (.int v6), .val (.int v7), .val (.int v8), .unset, .unset, .unset, .unset] [])) := by
  obtain ⟨hx, hZ, hw, hby, hml, hown, hret, hlk, hnm⟩ := id C0
  refine own_st (fun _ k => XS.iloadN X0.here hx rfl (hb hby ex_d143) rfl (XS.iloadN X0.here hx rfl (hb hby ex_d144) rfl (XS.iconst X0.here hx rfl (hb hby ex_d145) (XS.iload X0.here hx rfl (hb hby ex_d146) rfl (XS.iconst X0.here hx rfl (hb hby ex_d148) k))))) ?_
  show own_Dn p e below s _ _ _ (T0.setTop (mkF m 149 #[.val (.int p0), .val (.int p1), .val (.int p2), .val (.int p3), .val (.int p4), .val (.int v5), .val (.int v6), .val (.int v7), .val (.int v8), .unset, .unset, .unset, .unset] [(.int (0 : Int32)), (.int v8), (.int (1 : Int32)), (.int p1), (.int p0)]))
  obtain ⟨_, _, ⟨T43, L43, k43, n43⟩, -, X43, ⟨Lc43, hQ43, l43, y43, z43⟩, st43⟩ := Jvm.LawKit.callS X0 hx (y := (⟨"com/example/xylograph/xylograph/io/Utf8SequenceLengthPinLaw", "pay", "(IIIZ)I"⟩ : MethodName)) hown (mvT hZ (hw _ (List.mem_of_getElem? (i := 19) rfl))) (mvT hZ (hw _ (List.mem_of_getElem? (i := 20) rfl))) (mvT hZ (hw _ (List.mem_of_getElem? (i := 8) rfl))) (mvT hZ (hw _ (List.mem_of_getElem? (i := 21) rfl))) (by decide) (backOf (W := 1) (py_rm l Z a0 hw [] (p1) ((1 : Int32)) (v8) ((0 : Int32)) h0 n0) hZ (hw _ (List.mem_of_getElem? (i := 21) rfl)) (hw _ (List.mem_of_getElem? (i := 8) rfl)) (by decide) (by decide)) (g := (mkF m 149 #[.val (.int p0), .val (.int p1), .val (.int p2), .val (.int p3), .val (.int p4), .val (.int v5), .val (.int v6), .val (.int v7), .val (.int v8), .unset, .unset, .unset, .unset] [(.int (0 : Int32)), (.int v8), (.int (1 : Int32)), (.int p1), (.int p0)])) rfl (by rw [hml]; rfl) (argsL := [(.int p1), (.int (1 : Int32)), (.int v8), (.int (0 : Int32))]) (rest := [(.int p0)]) (lenOf own_pd2 rfl) rfl (by show 2 * 0 + _ ≤ _; exact Nat.le_of_eq rfl) (hb hby ex_d149) (fun _ _ => ⟨rfl, e0, (by decide : 0 + 0 ≤ _), (by decide : 0 + 0 ≤ _)⟩)
  dsimp only [Pt.U, Pt.locs, Pt.cells, Pt.slots] at X43 l43 y43 z43 st43 hQ43
  subst l43 y43 z43
  obtain ⟨rfl, N43q, e43⟩ := hQ43
  have N43 := Fr.app N0 N43q
  refine own_st st43 ?_
  show own_Dn p e below s _ _ _ (T43.setTop (mkF m 152 #[.val (.int p0), .val (.int p1), .val (.int p2), .val (.int p3), .val (.int p4), .val (.int v5), .val (.int v6), .val (.int v7), .val (.int v8), .unset, .unset, .unset, .unset] [(.int (py_f p1 (1 : Int32) v8 (0 : Int32))), (.int p0)]))
  refine own_st (fun _ k => XS.iloadN X43.here hx rfl (hb hby ex_d152) rfl (XS.iconst X43.here hx rfl (hb hby ex_d153) (XS.iload X43.here hx rfl (hb hby ex_d154) rfl (XS.iconst X43.here hx rfl (hb hby ex_d156) k)))) ?_
  show own_Dn p e below s _ _ _ (T43.setTop (mkF m 157 #[.val (.int p0), .val (.int p1), .val (.int p2), .val (.int p3), .val (.int p4), .val (.int v5), .val (.int v6), .val (.int v7), .val (.int v8), .unset, .unset, .unset, .unset] [(.int (0 : Int32)), (.int v8), (.int (2 : Int32)), (.int p2), (.int (py_f p1 (1 : Int32) v8 (0 : Int32))), (.int p0)]))
  obtain ⟨_, _, ⟨T44, L44, k44, n44⟩, -, X44, ⟨Lc44, hQ44, l44, y44, z44⟩, st44⟩ := Jvm.LawKit.callS X43 hx (y := (⟨"com/example/xylograph/xylograph/io/Utf8SequenceLengthPinLaw", "pay", "(IIIZ)I"⟩ : MethodName)) hown (mvT hZ (hw _ (List.mem_of_getElem? (i := 19) rfl))) (mvT hZ (hw _ (List.mem_of_getElem? (i := 20) rfl))) (mvT hZ (hw _ (List.mem_of_getElem? (i := 8) rfl))) (mvT hZ (hw _ (List.mem_of_getElem? (i := 21) rfl))) (by decide) (backOf (W := 2) (py_rm l Z a0 hw [] (p2) ((2 : Int32)) (v8) ((0 : Int32)) h0 n0) hZ (hw _ (List.mem_of_getElem? (i := 21) rfl)) (hw _ (List.mem_of_getElem? (i := 8) rfl)) (by decide) (by decide)) (g := (mkF m 157 #[.val (.int p0), .val (.int p1), .val (.int p2), .val (.int p3), .val (.int p4), .val (.int v5), .val (.int v6), .val (.int v7), .val (.int v8), .unset, .unset, .unset, .unset] [(.int (0 : Int32)), (.int v8), (.int (2 : Int32)), (.int p2), (.int (py_f p1 (1 : Int32) v8 (0 : Int32))), (.int p0)])) rfl (by rw [hml]; rfl) (argsL := [(.int p2), (.int (2 : Int32)), (.int v8), (.int (0 : Int32))]) (rest := [(.int (py_f p1 (1 : Int32) v8 (0 : Int32))), (.int p0)]) (lenOf own_pd2 rfl) rfl (by show 2 * 0 + _ ≤ _; exact Nat.le_of_eq rfl) (hb hby ex_d157) (fun _ _ => ⟨rfl, e43, (by decide : 0 + 0 ≤ _), (by decide : 0 + 0 ≤ _)⟩)
  dsimp only [Pt.U, Pt.locs, Pt.cells, Pt.slots] at X44 l44 y44 z44 st44 hQ44
  subst l44 y44 z44
  obtain ⟨rfl, N44q, e44⟩ := hQ44
  have N44 := Fr.app N43 N44q
  refine own_st st44 ?_
  show own_Dn p e below s _ _ _ (T44.setTop (mkF m 160 #[.val (.int p0), .val (.int p1), .val (.int p2), .val (.int p3), .val (.int p4), .val (.int v5), .val (.int v6), .val (.int v7), .val (.int v8), .unset, .unset, .unset, .unset] [(.int (py_f p2 (2 : Int32) v8 (0 : Int32))), (.int (py_f p1 (1 : Int32) v8 (0 : Int32))), (.int p0)]))
  refine own_st (fun _ k => XS.iloadN X44.here hx rfl (hb hby ex_d160) rfl (XS.iconst X44.here hx rfl (hb hby ex_d161) (XS.iload X44.here hx rfl (hb hby ex_d162) rfl (XS.iconst X44.here hx rfl (hb hby ex_d164) k)))) ?_
  show own_Dn p e below s _ _ _ (T44.setTop (mkF m 165 #[.val (.int p0), .val (.int p1), .val (.int p2), .val (.int p3), .val (.int p4), .val (.int v5), .val (.int v6), .val (.int v7), .val (.int v8), .unset, .unset, .unset, .unset] [(.int (0 : Int32)), (.int v8), (.int (3 : Int32)), (.int p3), (.int (py_f p2 (2 : Int32) v8 (0 : Int32))), (.int (py_f p1 (1 : Int32) v8 (0 : Int32))), (.int p0)]))
  obtain ⟨_, _, ⟨T45, L45, k45, n45⟩, -, X45, ⟨Lc45, hQ45, l45, y45, z45⟩, st45⟩ := Jvm.LawKit.callS X44 hx (y := (⟨"com/example/xylograph/xylograph/io/Utf8SequenceLengthPinLaw", "pay", "(IIIZ)I"⟩ : MethodName)) hown (mvT hZ (hw _ (List.mem_of_getElem? (i := 19) rfl))) (mvT hZ (hw _ (List.mem_of_getElem? (i := 20) rfl))) (mvT hZ (hw _ (List.mem_of_getElem? (i := 8) rfl))) (mvT hZ (hw _ (List.mem_of_getElem? (i := 21) rfl))) (by decide) (backOf (W := 3) (py_rm l Z a0 hw [] (p3) ((3 : Int32)) (v8) ((0 : Int32)) h0 n0) hZ (hw _ (List.mem_of_getElem? (i := 21) rfl)) (hw _ (List.mem_of_getElem? (i := 8) rfl)) (by decide) (by decide)) (g := (mkF m 165 #[.val (.int p0), .val (.int p1), .val (.int p2), .val (.int p3), .val (.int p4), .val (.int v5), .val (.int v6), .val (.int v7), .val (.int v8), .unset, .unset, .unset, .unset] [(.int (0 : Int32)), (.int v8), (.int (3 : Int32)), (.int p3), (.int (py_f p2 (2 : Int32) v8 (0 : Int32))), (.int (py_f p1 (1 : Int32) v8 (0 : Int32))), (.int p0)])) rfl (by rw [hml]; rfl) (argsL := [(.int p3), (.int (3 : Int32)), (.int v8), (.int (0 : Int32))]) (rest := [(.int (py_f p2 (2 : Int32) v8 (0 : Int32))), (.int (py_f p1 (1 : Int32) v8 (0 : Int32))), (.int p0)]) (lenOf own_pd2 rfl) rfl (by show 2 * 0 + _ ≤ _; exact Nat.le_of_eq rfl) (hb hby ex_d165) (fun _ _ => ⟨rfl, e44, (by decide : 0 + 0 ≤ _), (by decide : 0 + 0 ≤ _)⟩)
  dsimp only [Pt.U, Pt.locs, Pt.cells, Pt.slots] at X45 l45 y45 z45 st45 hQ45
  subst l45 y45 z45
  obtain ⟨rfl, N45q, e45⟩ := hQ45
  have N45 := Fr.app N44 N45q
  refine own_st st45 ?_
  show own_Dn p e below s _ _ _ (T45.setTop (mkF m 168 #[.val (.int p0), .val (.int p1), .val (.int p2), .val (.int p3), .val (.int p4), .val (.int v5), .val (.int v6), .val (.int v7), .val (.int v8), .unset, .unset, .unset, .unset] [(.int (py_f p3 (3 : Int32) v8 (0 : Int32))), (.int (py_f p2 (2 : Int32) v8 (0 : Int32))), (.int (py_f p1 (1 : Int32) v8 (0 : Int32))), (.int p0)]))
  refine own_st (fun _ k => XS.iload X45.here hx rfl (hb hby ex_d168) rfl k) ?_
  show own_Dn p e below s _ _ _ (T45.setTop (mkF m 170 #[.val (.int p0), .val (.int p1), .val (.int p2), .val (.int p3), .val (.int p4), .val (.int v5), .val (.int v6), .val (.int v7), .val (.int v8), .unset, .unset, .unset, .unset] [(.int v5), (.int (py_f p3 (3 : Int32) v8 (0 : Int32))), (.int (py_f p2 (2 : Int32) v8 (0 : Int32))), (.int (py_f p1 (1 : Int32) v8 (0 : Int32))), (.int p0)]))
  obtain ⟨_, _, ⟨T46, L46, k46, n46⟩, -, X46, ⟨Lc46, hQ46, l46, y46, z46⟩, st46⟩ := Jvm.LawKit.callS X45 hx (y := (⟨"com/example/xylograph/xylograph/io/Utf8SequenceLengthPinLaw", "decode", "(IIIII)I"⟩ : MethodName)) hown (mvT hZ (hw _ (List.mem_of_getElem? (i := 22) rfl))) (mvT hZ (hw _ (List.mem_of_getElem? (i := 23) rfl))) (mvT hZ (hw _ (List.mem_of_getElem? (i := 8) rfl))) (mvT hZ (hw _ (List.mem_of_getElem? (i := 24) rfl))) (by decide) (backOf (W := 0) (dc_rm l Z a0 hw [] (p0) ((py_f p1 (1 : Int32) v8 (0 : Int32))) ((py_f p2 (2 : Int32) v8 (0 : Int32))) ((py_f p3 (3 : Int32) v8 (0 : Int32))) (v5) h0 n0) hZ (hw _ (List.mem_of_getElem? (i := 24) rfl)) (hw _ (List.mem_of_getElem? (i := 8) rfl)) (by decide) (by decide)) (g := (mkF m 170 #[.val (.int p0), .val (.int p1), .val (.int p2), .val (.int p3), .val (.int p4), .val (.int v5), .val (.int v6), .val (.int v7), .val (.int v8), .unset, .unset, .unset, .unset] [(.int v5), (.int (py_f p3 (3 : Int32) v8 (0 : Int32))), (.int (py_f p2 (2 : Int32) v8 (0 : Int32))), (.int (py_f p1 (1 : Int32) v8 (0 : Int32))), (.int p0)])) rfl (by rw [hml]; rfl) (argsL := [(.int p0), (.int (py_f p1 (1 : Int32) v8 (0 : Int32))), (.int (py_f p2 (2 : Int32) v8 (0 : Int32))), (.int (py_f p3 (3 : Int32) v8 (0 : Int32))), (.int v5)]) (rest := []) (lenOf own_pd3 rfl) rfl (by show 2 * 0 + _ ≤ _; exact Nat.le_of_eq rfl) (hb hby ex_d170) (fun _ _ => ⟨rfl, e45, (by decide : 0 + 0 ≤ _), (by decide : 0 + 0 ≤ _)⟩)
  dsimp only [Pt.U, Pt.locs, Pt.cells, Pt.slots] at X46 l46 y46 z46 st46 hQ46
  subst l46 y46 z46
  obtain ⟨rfl, N46q, e46⟩ := hQ46
  have N46 := Fr.app N45 N46q
  refine own_st st46 ?_
  show own_Dn p e below s _ _ _ (T46.setTop (mkF m 173 #[.val (.int p0), .val (.int p1), .val (.int p2), .val (.int p3), .val (.int p4), .val (.int v5), .val (.int v6), .val (.int v7), .val (.int v8), .unset, .unset, .unset, .unset] [(.int (dc_f p0 (py_f p1 (1 : Int32) v8 (0 : Int32)) (py_f p2 (2 : Int32) v8 (0 : Int32)) (py_f p3 (3 : Int32) v8 (0 : Int32)) v5))]))
  refine own_st (fun _ k => XS.istore X46.here hx rfl (hb hby ex_d173) rfl (l' := #[.val (.int p0), .val (.int p1), .val (.int p2), .val (.int p3), .val (.int p4), .val (.int v5), .val (.int v6), .val (.int v7), .val (.int v8), .val (.int (dc_f p0 (py_f p1 (1 : Int32) v8 (0 : Int32)) (py_f p2 (2 : Int32) v8 (0 : Int32)) (py_f p3 (3 : Int32) v8 (0 : Int32)) v5)), .unset, .unset, .unset]) rfl (XS.iloadN X46.here hx rfl (hb hby ex_d175) rfl (XS.iloadN X46.here hx rfl (hb hby ex_d176) rfl (XS.iconst X46.here hx rfl (hb hby ex_d177) (XS.iload X46.here hx rfl (hb hby ex_d178) rfl (XS.iconst X46.here hx rfl (hb hby ex_d180) k)))))) ?_
  show own_Dn p e below s _ _ _ (T46.setTop (mkF m 181 #[.val (.int p0), .val (.int p1), .val (.int p2), .val (.int p3), .val (.int p4), .val (.int v5), .val (.int v6), .val (.int v7), .val (.int v8), .val (.int (dc_f p0 (py_f p1 (1 : Int32) v8 (0 : Int32)) (py_f p2 (2 : Int32) v8 (0 : Int32)) (py_f p3 (3 : Int32) v8 (0 : Int32)) v5)), .unset, .unset, .unset] [(.int (1 : Int32)), (.int v8), (.int (1 : Int32)), (.int p1), (.int p0)]))
  obtain ⟨_, _, ⟨T47, L47, k47, n47⟩, -, X47, ⟨Lc47, hQ47, l47, y47, z47⟩, st47⟩ := Jvm.LawKit.callS X46 hx (y := (⟨"com/example/xylograph/xylograph/io/Utf8SequenceLengthPinLaw", "pay", "(IIIZ)I"⟩ : MethodName)) hown (mvT hZ (hw _ (List.mem_of_getElem? (i := 19) rfl))) (mvT hZ (hw _ (List.mem_of_getElem? (i := 20) rfl))) (mvT hZ (hw _ (List.mem_of_getElem? (i := 8) rfl))) (mvT hZ (hw _ (List.mem_of_getElem? (i := 21) rfl))) (by decide) (backOf (W := 1) (py_rm l Z a0 hw [] (p1) ((1 : Int32)) (v8) ((1 : Int32)) h0 n0) hZ (hw _ (List.mem_of_getElem? (i := 21) rfl)) (hw _ (List.mem_of_getElem? (i := 8) rfl)) (by decide) (by decide)) (g := (mkF m 181 #[.val (.int p0), .val (.int p1), .val (.int p2), .val (.int p3), .val (.int p4), .val (.int v5), .val (.int v6), .val (.int v7), .val (.int v8), .val (.int (dc_f p0 (py_f p1 (1 : Int32) v8 (0 : Int32)) (py_f p2 (2 : Int32) v8 (0 : Int32)) (py_f p3 (3 : Int32) v8 (0 : Int32)) v5)), .unset, .unset, .unset] [(.int (1 : Int32)), (.int v8), (.int (1 : Int32)), (.int p1), (.int p0)])) rfl (by rw [hml]; rfl) (argsL := [(.int p1), (.int (1 : Int32)), (.int v8), (.int (1 : Int32))]) (rest := [(.int p0)]) (lenOf own_pd2 rfl) rfl (by show 2 * 0 + _ ≤ _; exact Nat.le_of_eq rfl) (hb hby ex_d181) (fun _ _ => ⟨rfl, e46, (by decide : 0 + 0 ≤ _), (by decide : 0 + 0 ≤ _)⟩)
  dsimp only [Pt.U, Pt.locs, Pt.cells, Pt.slots] at X47 l47 y47 z47 st47 hQ47
  subst l47 y47 z47
  obtain ⟨rfl, N47q, e47⟩ := hQ47
  have N47 := Fr.app N46 N47q
  refine own_st st47 ?_
  show own_Dn p e below s _ _ _ (T47.setTop (mkF m 184 #[.val (.int p0), .val (.int p1), .val (.int p2), .val (.int p3), .val (.int p4), .val (.int v5), .val (.int v6), .val (.int v7), .val (.int v8), .val (.int (dc_f p0 (py_f p1 (1 : Int32) v8 (0 : Int32)) (py_f p2 (2 : Int32) v8 (0 : Int32)) (py_f p3 (3 : Int32) v8 (0 : Int32)) v5)), .unset, .unset, .unset] [(.int (py_f p1 (1 : Int32) v8 (1 : Int32))), (.int p0)]))
  refine own_st (fun _ k => XS.iloadN X47.here hx rfl (hb hby ex_d184) rfl (XS.iconst X47.here hx rfl (hb hby ex_d185) (XS.iload X47.here hx rfl (hb hby ex_d186) rfl (XS.iconst X47.here hx rfl (hb hby ex_d188) k)))) ?_
  show own_Dn p e below s _ _ _ (T47.setTop (mkF m 189 #[.val (.int p0), .val (.int p1), .val (.int p2), .val (.int p3), .val (.int p4), .val (.int v5), .val (.int v6), .val (.int v7), .val (.int v8), .val (.int (dc_f p0 (py_f p1 (1 : Int32) v8 (0 : Int32)) (py_f p2 (2 : Int32) v8 (0 : Int32)) (py_f p3 (3 : Int32) v8 (0 : Int32)) v5)), .unset, .unset, .unset] [(.int (1 : Int32)), (.int v8), (.int (2 : Int32)), (.int p2), (.int (py_f p1 (1 : Int32) v8 (1 : Int32))), (.int p0)]))
  obtain ⟨_, _, ⟨T48, L48, k48, n48⟩, -, X48, ⟨Lc48, hQ48, l48, y48, z48⟩, st48⟩ := Jvm.LawKit.callS X47 hx (y := (⟨"com/example/xylograph/xylograph/io/Utf8SequenceLengthPinLaw", "pay", "(IIIZ)I"⟩ : MethodName)) hown (mvT hZ (hw _ (List.mem_of_getElem? (i := 19) rfl))) (mvT hZ (hw _ (List.mem_of_getElem? (i := 20) rfl))) (mvT hZ (hw _ (List.mem_of_getElem? (i := 8) rfl))) (mvT hZ (hw _ (List.mem_of_getElem? (i := 21) rfl))) (by decide) (backOf (W := 2) (py_rm l Z a0 hw [] (p2) ((2 : Int32)) (v8) ((1 : Int32)) h0 n0) hZ (hw _ (List.mem_of_getElem? (i := 21) rfl)) (hw _ (List.mem_of_getElem? (i := 8) rfl)) (by decide) (by decide)) (g := (mkF m 189 #[.val (.int p0), .val (.int p1), .val (.int p2), .val (.int p3), .val (.int p4), .val (.int v5), .val (.int v6), .val (.int v7), .val (.int v8), .val (.int (dc_f p0 (py_f p1 (1 : Int32) v8 (0 : Int32)) (py_f p2 (2 : Int32) v8 (0 : Int32)) (py_f p3 (3 : Int32) v8 (0 : Int32)) v5)), .unset, .unset, .unset] [(.int (1 : Int32)), (.int v8), (.int (2 : Int32)), (.int p2), (.int (py_f p1 (1 : Int32) v8 (1 : Int32))), (.int p0)])) rfl (by rw [hml]; rfl) (argsL := [(.int p2), (.int (2 : Int32)), (.int v8), (.int (1 : Int32))]) (rest := [(.int (py_f p1 (1 : Int32) v8 (1 : Int32))), (.int p0)]) (lenOf own_pd2 rfl) rfl (by show 2 * 0 + _ ≤ _; exact Nat.le_of_eq rfl) (hb hby ex_d189) (fun _ _ => ⟨rfl, e47, (by decide : 0 + 0 ≤ _), (by decide : 0 + 0 ≤ _)⟩)
  dsimp only [Pt.U, Pt.locs, Pt.cells, Pt.slots] at X48 l48 y48 z48 st48 hQ48
  subst l48 y48 z48
  obtain ⟨rfl, N48q, e48⟩ := hQ48
  have N48 := Fr.app N47 N48q
  refine own_st st48 ?_
  show own_Dn p e below s _ _ _ (T48.setTop (mkF m 192 #[.val (.int p0), .val (.int p1), .val (.int p2), .val (.int p3), .val (.int p4), .val (.int v5), .val (.int v6), .val (.int v7), .val (.int v8), .val (.int (dc_f p0 (py_f p1 (1 : Int32) v8 (0 : Int32)) (py_f p2 (2 : Int32) v8 (0 : Int32)) (py_f p3 (3 : Int32) v8 (0 : Int32)) v5)), .unset, .unset, .unset] [(.int (py_f p2 (2 : Int32) v8 (1 : Int32))), (.int (py_f p1 (1 : Int32) v8 (1 : Int32))), (.int p0)]))
  refine own_st (fun _ k => XS.iloadN X48.here hx rfl (hb hby ex_d192) rfl (XS.iconst X48.here hx rfl (hb hby ex_d193) (XS.iload X48.here hx rfl (hb hby ex_d194) rfl (XS.iconst X48.here hx rfl (hb hby ex_d196) k)))) ?_
  show own_Dn p e below s _ _ _ (T48.setTop (mkF m 197 #[.val (.int p0), .val (.int p1), .val (.int p2), .val (.int p3), .val (.int p4), .val (.int v5), .val (.int v6), .val (.int v7), .val (.int v8), .val (.int (dc_f p0 (py_f p1 (1 : Int32) v8 (0 : Int32)) (py_f p2 (2 : Int32) v8 (0 : Int32)) (py_f p3 (3 : Int32) v8 (0 : Int32)) v5)), .unset, .unset, .unset] [(.int (1 : Int32)), (.int v8), (.int (3 : Int32)), (.int p3), (.int (py_f p2 (2 : Int32) v8 (1 : Int32))), (.int (py_f p1 (1 : Int32) v8 (1 : Int32))), (.int p0)]))
  obtain ⟨_, _, ⟨T49, L49, k49, n49⟩, -, X49, ⟨Lc49, hQ49, l49, y49, z49⟩, st49⟩ := Jvm.LawKit.callS X48 hx (y := (⟨"com/example/xylograph/xylograph/io/Utf8SequenceLengthPinLaw", "pay", "(IIIZ)I"⟩ : MethodName)) hown (mvT hZ (hw _ (List.mem_of_getElem? (i := 19) rfl))) (mvT hZ (hw _ (List.mem_of_getElem? (i := 20) rfl))) (mvT hZ (hw _ (List.mem_of_getElem? (i := 8) rfl))) (mvT hZ (hw _ (List.mem_of_getElem? (i := 21) rfl))) (by decide) (backOf (W := 3) (py_rm l Z a0 hw [] (p3) ((3 : Int32)) (v8) ((1 : Int32)) h0 n0) hZ (hw _ (List.mem_of_getElem? (i := 21) rfl)) (hw _ (List.mem_of_getElem? (i := 8) rfl)) (by decide) (by decide)) (g := (mkF m 197 #[.val (.int p0), .val (.int p1), .val (.int p2), .val (.int p3), .val (.int p4), .val (.int v5), .val (.int v6), .val (.int v7), .val (.int v8), .val (.int (dc_f p0 (py_f p1 (1 : Int32) v8 (0 : Int32)) (py_f p2 (2 : Int32) v8 (0 : Int32)) (py_f p3 (3 : Int32) v8 (0 : Int32)) v5)), .unset, .unset, .unset] [(.int (1 : Int32)), (.int v8), (.int (3 : Int32)), (.int p3), (.int (py_f p2 (2 : Int32) v8 (1 : Int32))), (.int (py_f p1 (1 : Int32) v8 (1 : Int32))), (.int p0)])) rfl (by rw [hml]; rfl) (argsL := [(.int p3), (.int (3 : Int32)), (.int v8), (.int (1 : Int32))]) (rest := [(.int (py_f p2 (2 : Int32) v8 (1 : Int32))), (.int (py_f p1 (1 : Int32) v8 (1 : Int32))), (.int p0)]) (lenOf own_pd2 rfl) rfl (by show 2 * 0 + _ ≤ _; exact Nat.le_of_eq rfl) (hb hby ex_d197) (fun _ _ => ⟨rfl, e48, (by decide : 0 + 0 ≤ _), (by decide : 0 + 0 ≤ _)⟩)
  dsimp only [Pt.U, Pt.locs, Pt.cells, Pt.slots] at X49 l49 y49 z49 st49 hQ49
  subst l49 y49 z49
  obtain ⟨rfl, N49q, e49⟩ := hQ49
  have N49 := Fr.app N48 N49q
  refine own_st st49 ?_
  show own_Dn p e below s _ _ _ (T49.setTop (mkF m 200 #[.val (.int p0), .val (.int p1), .val (.int p2), .val (.int p3), .val (.int p4), .val (.int v5), .val (.int v6), .val (.int v7), .val (.int v8), .val (.int (dc_f p0 (py_f p1 (1 : Int32) v8 (0 : Int32)) (py_f p2 (2 : Int32) v8 (0 : Int32)) (py_f p3 (3 : Int32) v8 (0 : Int32)) v5)), .unset, .unset, .unset] [(.int (py_f p3 (3 : Int32) v8 (1 : Int32))), (.int (py_f p2 (2 : Int32) v8 (1 : Int32))), (.int (py_f p1 (1 : Int32) v8 (1 : Int32))), (.int p0)]))
  refine own_st (fun _ k => XS.iload X49.here hx rfl (hb hby ex_d200) rfl k) ?_
  show own_Dn p e below s _ _ _ (T49.setTop (mkF m 202 #[.val (.int p0), .val (.int p1), .val (.int p2), .val (.int p3), .val (.int p4), .val (.int v5), .val (.int v6), .val (.int v7), .val (.int v8), .val (.int (dc_f p0 (py_f p1 (1 : Int32) v8 (0 : Int32)) (py_f p2 (2 : Int32) v8 (0 : Int32)) (py_f p3 (3 : Int32) v8 (0 : Int32)) v5)), .unset, .unset, .unset] [(.int v5), (.int (py_f p3 (3 : Int32) v8 (1 : Int32))), (.int (py_f p2 (2 : Int32) v8 (1 : Int32))), (.int (py_f p1 (1 : Int32) v8 (1 : Int32))), (.int p0)]))
  obtain ⟨_, _, ⟨T50, L50, k50, n50⟩, -, X50, ⟨Lc50, hQ50, l50, y50, z50⟩, st50⟩ := Jvm.LawKit.callS X49 hx (y := (⟨"com/example/xylograph/xylograph/io/Utf8SequenceLengthPinLaw", "decode", "(IIIII)I"⟩ : MethodName)) hown (mvT hZ (hw _ (List.mem_of_getElem? (i := 22) rfl))) (mvT hZ (hw _ (List.mem_of_getElem? (i := 23) rfl))) (mvT hZ (hw _ (List.mem_of_getElem? (i := 8) rfl))) (mvT hZ (hw _ (List.mem_of_getElem? (i := 24) rfl))) (by decide) (backOf (W := 0) (dc_rm l Z a0 hw [] (p0) ((py_f p1 (1 : Int32) v8 (1 : Int32))) ((py_f p2 (2 : Int32) v8 (1 : Int32))) ((py_f p3 (3 : Int32) v8 (1 : Int32))) (v5) h0 n0) hZ (hw _ (List.mem_of_getElem? (i := 24) rfl)) (hw _ (List.mem_of_getElem? (i := 8) rfl)) (by decide) (by decide)) (g := (mkF m 202 #[.val (.int p0), .val (.int p1), .val (.int p2), .val (.int p3), .val (.int p4), .val (.int v5), .val (.int v6), .val (.int v7), .val (.int v8), .val (.int (dc_f p0 (py_f p1 (1 : Int32) v8 (0 : Int32)) (py_f p2 (2 : Int32) v8 (0 : Int32)) (py_f p3 (3 : Int32) v8 (0 : Int32)) v5)), .unset, .unset, .unset] [(.int v5), (.int (py_f p3 (3 : Int32) v8 (1 : Int32))), (.int (py_f p2 (2 : Int32) v8 (1 : Int32))), (.int (py_f p1 (1 : Int32) v8 (1 : Int32))), (.int p0)])) rfl (by rw [hml]; rfl) (argsL := [(.int p0), (.int (py_f p1 (1 : Int32) v8 (1 : Int32))), (.int (py_f p2 (2 : Int32) v8 (1 : Int32))), (.int (py_f p3 (3 : Int32) v8 (1 : Int32))), (.int v5)]) (rest := []) (lenOf own_pd3 rfl) rfl (by show 2 * 0 + _ ≤ _; exact Nat.le_of_eq rfl) (hb hby ex_d202) (fun _ _ => ⟨rfl, e49, (by decide : 0 + 0 ≤ _), (by decide : 0 + 0 ≤ _)⟩)
  dsimp only [Pt.U, Pt.locs, Pt.cells, Pt.slots] at X50 l50 y50 z50 st50 hQ50
  subst l50 y50 z50
  obtain ⟨rfl, N50q, e50⟩ := hQ50
  have N50 := Fr.app N49 N50q
  refine own_st st50 ?_
  show own_Dn p e below s _ _ _ (T50.setTop (mkF m 205 #[.val (.int p0), .val (.int p1), .val (.int p2), .val (.int p3), .val (.int p4), .val (.int v5), .val (.int v6), .val (.int v7), .val (.int v8), .val (.int (dc_f p0 (py_f p1 (1 : Int32) v8 (0 : Int32)) (py_f p2 (2 : Int32) v8 (0 : Int32)) (py_f p3 (3 : Int32) v8 (0 : Int32)) v5)), .unset, .unset, .unset] [(.int (dc_f p0 (py_f p1 (1 : Int32) v8 (1 : Int32)) (py_f p2 (2 : Int32) v8 (1 : Int32)) (py_f p3 (3 : Int32) v8 (1 : Int32)) v5))]))
  refine own_st (fun _ k => XS.istore X50.here hx rfl (hb hby ex_d205) rfl (l' := #[.val (.int p0), .val (.int p1), .val (.int p2), .val (.int p3), .val (.int p4), .val (.int v5), .val (.int v6), .val (.int v7), .val (.int v8), .val (.int (dc_f p0 (py_f p1 (1 : Int32) v8 (0 : Int32)) (py_f p2 (2 : Int32) v8 (0 : Int32)) (py_f p3 (3 : Int32) v8 (0 : Int32)) v5)), .val (.int (dc_f p0 (py_f p1 (1 : Int32) v8 (1 : Int32)) (py_f p2 (2 : Int32) v8 (1 : Int32)) (py_f p3 (3 : Int32) v8 (1 : Int32)) v5)), .unset, .unset]) rfl k) ?_
  show own_Dn p e below s _ _ _ (T50.setTop (mkF m 207 #[.val (.int p0), .val (.int p1), .val (.int p2), .val (.int p3), .val (.int p4), .val (.int v5), .val (.int v6), .val (.int v7), .val (.int v8), .val (.int (dc_f p0 (py_f p1 (1 : Int32) v8 (0 : Int32)) (py_f p2 (2 : Int32) v8 (0 : Int32)) (py_f p3 (3 : Int32) v8 (0 : Int32)) v5)), .val (.int (dc_f p0 (py_f p1 (1 : Int32) v8 (1 : Int32)) (py_f p2 (2 : Int32) v8 (1 : Int32)) (py_f p3 (3 : Int32) v8 (1 : Int32)) v5)), .unset, .unset] []))
  exact ex_c207 C0 X50 e50 N50 (v5) (v6) (v7) (v8) ((dc_f p0 (py_f p1 (1 : Int32) v8 (0 : Int32)) (py_f p2 (2 : Int32) v8 (0 : Int32)) (py_f p3 (3 : Int32) v8 (0 : Int32)) v5)) ((dc_f p0 (py_f p1 (1 : Int32) v8 (1 : Int32)) (py_f p2 (2 : Int32) v8 (1 : Int32)) (py_f p3 (3 : Int32) v8 (1 : Int32)) v5)) (by rw [hr0, ex_f143])
def ex_f128 (p0 : Int32) (p1 : Int32) (p2 : Int32) (p3 : Int32) (p4 : Int32) (v5 : Int32) (v6 : Int32) (v7 : Int32) (v8 : Int32) : Int32 :=
  if (3 : Int32) < v8 then
    if (ic_f p3) = (0 : Int32) then
      (-1 : Int32)
    else
      ex_f143 p0 p1 p2 p3 p4 (v5) (v6) (v7) (v8)
  else
    ex_f143 p0 p1 p2 p3 p4 (v5) (v6) (v7) (v8)
set_option maxRecDepth 65536 in
set_option maxHeartbeats 40000000 in
theorem ex_c128 {l : Launch} {Z : State} {a0 : Array Value} {p0 : Int32} {p1 : Int32} {p2 : Int32} {p3 : Int32} {p4 : Int32} {h0 : Heap} {n0 : Nat} {p : Program} {e : Env} {s : State} {m : MethodId} {args : Array Value} {below : List Frame} {meth : Method} {c : Code} {T0 : State} {locs : List Loc} {r0 : Int32} (C0 : own_Cx p s m meth c Z a0 method_6_code 13 "com/example/xylograph/xylograph/io/Utf8SequenceLengthPinLaw" "expected" (some .int)) (X0 : Stand p l e ({ frames := 1, cells := 0, slots := 0, locals := 18 } : Room) s m args below meth c T0 locs 0 0) (e0 : T0.heap = h0) (N0 : Fr n0 locs) (v5 : Int32) (v6 : Int32) (v7 : Int32) (v8 : Int32) (hr0 : r0 = ex_f128 p0 p1 p2 p3 p4 v5 v6 v7 v8) :
    own_Dn p e below s (own_Q (some (.int r0)) n0 h0) ({ frames := 1, cells := 0, slots := 0, locals := 18 } : Room).cells ({ frames := 1, cells := 0, slots := 0, locals := 18 } : Room).slots (T0.setTop (mkF m 128 #[.val (.int p0), .val (.int p1), .val (.int p2), .val (.int p3), .val (.int p4), .val (.int v5), .val (.int v6), .val (.int v7), .val (.int v8), .unset, .unset, .unset, .unset] [])) := by
  obtain ⟨hx, hZ, hw, hby, hml, hown, hret, hlk, hnm⟩ := id C0
  refine own_st (fun _ k => XS.iload X0.here hx rfl (hb hby ex_d128) rfl (XS.iconst X0.here hx rfl (hb hby ex_d130) k)) ?_
  show own_Dn p e below s _ _ _ (T0.setTop (mkF m 131 #[.val (.int p0), .val (.int p1), .val (.int p2), .val (.int p3), .val (.int p4), .val (.int v5), .val (.int v6), .val (.int v7), .val (.int v8), .unset, .unset, .unset, .unset] [(.int (3 : Int32)), (.int v8)]))
  by_cases hc40 : (3 : Int32) < v8
  · refine own_st (fun _ k => XS.icmpNo X0.here hx rfl (hb hby ex_d131) rfl (tlt hc40).2.2.2 k) ?_
    show own_Dn p e below s _ _ _ (T0.setTop (mkF m 134 #[.val (.int p0), .val (.int p1), .val (.int p2), .val (.int p3), .val (.int p4), .val (.int v5), .val (.int v6), .val (.int v7), .val (.int v8), .unset, .unset, .unset, .unset] []))
    refine own_st (fun _ k => XS.iloadN X0.here hx rfl (hb hby ex_d134) rfl k) ?_
    show own_Dn p e below s _ _ _ (T0.setTop (mkF m 135 #[.val (.int p0), .val (.int p1), .val (.int p2), .val (.int p3), .val (.int p4), .val (.int v5), .val (.int v6), .val (.int v7), .val (.int v8), .unset, .unset, .unset, .unset] [(.int p3)]))
    obtain ⟨_, _, ⟨T41, L41, k41, n41⟩, -, X41, ⟨Lc41, hQ41, l41, y41, z41⟩, st41⟩ := Jvm.LawKit.callS X0 hx (y := (⟨"com/example/xylograph/xylograph/io/Utf8SequenceLengthPinLaw", "isCont", "(I)Z"⟩ : MethodName)) hown (mvT hZ (hw _ (List.mem_of_getElem? (i := 14) rfl))) (mvT hZ (hw _ (List.mem_of_getElem? (i := 15) rfl))) (mvT hZ (hw _ (List.mem_of_getElem? (i := 8) rfl))) (mvT hZ (hw _ (List.mem_of_getElem? (i := 16) rfl))) (by decide) (backOf (W := 0) (ic_rm l Z a0 hw [] (p3) h0 n0) hZ (hw _ (List.mem_of_getElem? (i := 16) rfl)) (hw _ (List.mem_of_getElem? (i := 8) rfl)) (by decide) (by decide)) (g := (mkF m 135 #[.val (.int p0), .val (.int p1), .val (.int p2), .val (.int p3), .val (.int p4), .val (.int v5), .val (.int v6), .val (.int v7), .val (.int v8), .unset, .unset, .unset, .unset] [(.int p3)])) rfl (by rw [hml]; rfl) (argsL := [(.int p3)]) (rest := []) (lenOf own_pd1 rfl) rfl (by show 2 * 0 + _ ≤ _; exact Nat.le_of_eq rfl) (hb hby ex_d135) (fun _ _ => ⟨rfl, e0, (by decide : 0 + 0 ≤ _), (by decide : 0 + 0 ≤ _)⟩)
    dsimp only [Pt.U, Pt.locs, Pt.cells, Pt.slots] at X41 l41 y41 z41 st41 hQ41
    subst l41 y41 z41
    obtain ⟨rfl, N41q, e41⟩ := hQ41
    have N41 := Fr.app N0 N41q
    refine own_st st41 ?_
    show own_Dn p e below s _ _ _ (T41.setTop (mkF m 138 #[.val (.int p0), .val (.int p1), .val (.int p2), .val (.int p3), .val (.int p4), .val (.int v5), .val (.int v6), .val (.int v7), .val (.int v8), .unset, .unset, .unset, .unset] [(.int (ic_f p3))]))
    by_cases hc42 : (ic_f p3) = (0 : Int32)
    · refine own_st (fun _ k => XS.ifNo X41.here hx rfl (hb hby ex_d138) rfl ((if0 _ _).trans (teq hc42).2) k) ?_
      show own_Dn p e below s _ _ _ (T41.setTop (mkF m 141 #[.val (.int p0), .val (.int p1), .val (.int p2), .val (.int p3), .val (.int p4), .val (.int v5), .val (.int v6), .val (.int v7), .val (.int v8), .unset, .unset, .unset, .unset] []))
      refine own_st (fun _ k => XS.iconst X41.here hx rfl (hb hby ex_d141) k) ?_
      show own_Dn p e below s _ _ _ (T41.setTop (mkF m 142 #[.val (.int p0), .val (.int p1), .val (.int p2), .val (.int p3), .val (.int p4), .val (.int v5), .val (.int v6), .val (.int v7), .val (.int v8), .unset, .unset, .unset, .unset] [(.int (-1 : Int32))]))
      exact own_retI X41 hx hret hlk (hb hby ex_d142) (by decide) (by decide) ⟨(by rw [hr0, ex_f128, if_pos hc40, if_pos hc42]), N41, e41⟩
    · refine own_st (fun _ k => XS.ifYes X41.here hx rfl (pc0 := 138) (pc' := 143) rfl (hb hby ex_d138) rfl ((if0 _ _).trans (feq hc42).2) (by decide) (by decide) k) ?_
      show own_Dn p e below s _ _ _ (T41.setTop (mkF m 143 #[.val (.int p0), .val (.int p1), .val (.int p2), .val (.int p3), .val (.int p4), .val (.int v5), .val (.int v6), .val (.int v7), .val (.int v8), .unset, .unset, .unset, .unset] []))
      exact ex_c143 C0 X41 e41 N41 (v5) (v6) (v7) (v8) (by rw [hr0, ex_f128, if_pos hc40, if_neg hc42])
  · refine own_st (fun _ k => XS.icmpYes X0.here hx rfl (pc0 := 131) (pc' := 143) rfl (hb hby ex_d131) rfl (flt hc40).2.2.2 (by decide) (by decide) k) ?_
    show own_Dn p e below s _ _ _ (T0.setTop (mkF m 143 #[.val (.int p0), .val (.int p1), .val (.int p2), .val (.int p3), .val (.int p4), .val (.int v5), .val (.int v6), .val (.int v7), .val (.int v8), .unset, .unset, .unset, .unset] []))
    exact ex_c143 C0 X0 e0 N0 (v5) (v6) (v7) (v8) (by rw [hr0, ex_f128, if_neg hc40])
def ex_f113 (p0 : Int32) (p1 : Int32) (p2 : Int32) (p3 : Int32) (p4 : Int32) (v5 : Int32) (v6 : Int32) (v7 : Int32) (v8 : Int32) : Int32 :=
  if (2 : Int32) < v8 then
    if (ic_f p2) = (0 : Int32) then
      (-1 : Int32)
    else
      ex_f128 p0 p1 p2 p3 p4 (v5) (v6) (v7) (v8)
  else
    ex_f128 p0 p1 p2 p3 p4 (v5) (v6) (v7) (v8)
set_option maxRecDepth 65536 in
set_option maxHeartbeats 40000000 in
theorem ex_c113 {l : Launch} {Z : State} {a0 : Array Value} {p0 : Int32} {p1 : Int32} {p2 : Int32} {p3 : Int32} {p4 : Int32} {h0 : Heap} {n0 : Nat} {p : Program} {e : Env} {s : State} {m : MethodId} {args : Array Value} {below : List Frame} {meth : Method} {c : Code} {T0 : State} {locs : List Loc} {r0 : Int32} (C0 : own_Cx p s m meth c Z a0 method_6_code 13 "com/example/xylograph/xylograph/io/Utf8SequenceLengthPinLaw" "expected" (some .int)) (X0 : Stand p l e ({ frames := 1, cells := 0, slots := 0, locals := 18 } : Room) s m args below meth c T0 locs 0 0) (e0 : T0.heap = h0) (N0 : Fr n0 locs) (v5 : Int32) (v6 : Int32) (v7 : Int32) (v8 : Int32) (hr0 : r0 = ex_f113 p0 p1 p2 p3 p4 v5 v6 v7 v8) :
    own_Dn p e below s (own_Q (some (.int r0)) n0 h0) ({ frames := 1, cells := 0, slots := 0, locals := 18 } : Room).cells ({ frames := 1, cells := 0, slots := 0, locals := 18 } : Room).slots (T0.setTop (mkF m 113 #[.val (.int p0), .val (.int p1), .val (.int p2), .val (.int p3), .val (.int p4), .val (.int v5), .val (.int v6), .val (.int v7), .val (.int v8), .unset, .unset, .unset, .unset] [])) := by
  obtain ⟨hx, hZ, hw, hby, hml, hown, hret, hlk, hnm⟩ := id C0
  refine own_st (fun _ k => XS.iload X0.here hx rfl (hb hby ex_d113) rfl (XS.iconst X0.here hx rfl (hb hby ex_d115) k)) ?_
  show own_Dn p e below s _ _ _ (T0.setTop (mkF m 116 #[.val (.int p0), .val (.int p1), .val (.int p2), .val (.int p3), .val (.int p4), .val (.int v5), .val (.int v6), .val (.int v7), .val (.int v8), .unset, .unset, .unset, .unset] [(.int (2 : Int32)), (.int v8)]))
  by_cases hc37 : (2 : Int32) < v8
  · refine own_st (fun _ k => XS.icmpNo X0.here hx rfl (hb hby ex_d116) rfl (tlt hc37).2.2.2 k) ?_
    show own_Dn p e below s _ _ _ (T0.setTop (mkF m 119 #[.val (.int p0), .val (.int p1), .val (.int p2), .val (.int p3), .val (.int p4), .val (.int v5), .val (.int v6), .val (.int v7), .val (.int v8), .unset, .unset, .unset, .unset] []))
    refine own_st (fun _ k => XS.iloadN X0.here hx rfl (hb hby ex_d119) rfl k) ?_
    show own_Dn p e below s _ _ _ (T0.setTop (mkF m 120 #[.val (.int p0), .val (.int p1), .val (.int p2), .val (.int p3), .val (.int p4), .val (.int v5), .val (.int v6), .val (.int v7), .val (.int v8), .unset, .unset, .unset, .unset] [(.int p2)]))
    obtain ⟨_, _, ⟨T38, L38, k38, n38⟩, -, X38, ⟨Lc38, hQ38, l38, y38, z38⟩, st38⟩ := Jvm.LawKit.callS X0 hx (y := (⟨"com/example/xylograph/xylograph/io/Utf8SequenceLengthPinLaw", "isCont", "(I)Z"⟩ : MethodName)) hown (mvT hZ (hw _ (List.mem_of_getElem? (i := 14) rfl))) (mvT hZ (hw _ (List.mem_of_getElem? (i := 15) rfl))) (mvT hZ (hw _ (List.mem_of_getElem? (i := 8) rfl))) (mvT hZ (hw _ (List.mem_of_getElem? (i := 16) rfl))) (by decide) (backOf (W := 0) (ic_rm l Z a0 hw [] (p2) h0 n0) hZ (hw _ (List.mem_of_getElem? (i := 16) rfl)) (hw _ (List.mem_of_getElem? (i := 8) rfl)) (by decide) (by decide)) (g := (mkF m 120 #[.val (.int p0), .val (.int p1), .val (.int p2), .val (.int p3), .val (.int p4), .val (.int v5), .val (.int v6), .val (.int v7), .val (.int v8), .unset, .unset, .unset, .unset] [(.int p2)])) rfl (by rw [hml]; rfl) (argsL := [(.int p2)]) (rest := []) (lenOf own_pd1 rfl) rfl (by show 2 * 0 + _ ≤ _; exact Nat.le_of_eq rfl) (hb hby ex_d120) (fun _ _ => ⟨rfl, e0, (by decide : 0 + 0 ≤ _), (by decide : 0 + 0 ≤ _)⟩)
    dsimp only [Pt.U, Pt.locs, Pt.cells, Pt.slots] at X38 l38 y38 z38 st38 hQ38
    subst l38 y38 z38
    obtain ⟨rfl, N38q, e38⟩ := hQ38
    have N38 := Fr.app N0 N38q
    refine own_st st38 ?_
    show own_Dn p e below s _ _ _ (T38.setTop (mkF m 123 #[.val (.int p0), .val (.int p1), .val (.int p2), .val (.int p3), .val (.int p4), .val (.int v5), .val (.int v6), .val (.int v7), .val (.int v8), .unset, .unset, .unset, .unset] [(.int (ic_f p2))]))
    by_cases hc39 : (ic_f p2) = (0 : Int32)
    · refine own_st (fun _ k => XS.ifNo X38.here hx rfl (hb hby ex_d123) rfl ((if0 _ _).trans (teq hc39).2) k) ?_
      show own_Dn p e below s _ _ _ (T38.setTop (mkF m 126 #[.val (.int p0), .val (.int p1), .val (.int p2), .val (.int p3), .val (.int p4), .val (.int v5), .val (.int v6), .val (.int v7), .val (.int v8), .unset, .unset, .unset, .unset] []))
      refine own_st (fun _ k => XS.iconst X38.here hx rfl (hb hby ex_d126) k) ?_
      show own_Dn p e below s _ _ _ (T38.setTop (mkF m 127 #[.val (.int p0), .val (.int p1), .val (.int p2), .val (.int p3), .val (.int p4), .val (.int v5), .val (.int v6), .val (.int v7), .val (.int v8), .unset, .unset, .unset, .unset] [(.int (-1 : Int32))]))
      exact own_retI X38 hx hret hlk (hb hby ex_d127) (by decide) (by decide) ⟨(by rw [hr0, ex_f113, if_pos hc37, if_pos hc39]), N38, e38⟩
    · refine own_st (fun _ k => XS.ifYes X38.here hx rfl (pc0 := 123) (pc' := 128) rfl (hb hby ex_d123) rfl ((if0 _ _).trans (feq hc39).2) (by decide) (by decide) k) ?_
      show own_Dn p e below s _ _ _ (T38.setTop (mkF m 128 #[.val (.int p0), .val (.int p1), .val (.int p2), .val (.int p3), .val (.int p4), .val (.int v5), .val (.int v6), .val (.int v7), .val (.int v8), .unset, .unset, .unset, .unset] []))
      exact ex_c128 C0 X38 e38 N38 (v5) (v6) (v7) (v8) (by rw [hr0, ex_f113, if_pos hc37, if_neg hc39])
  · refine own_st (fun _ k => XS.icmpYes X0.here hx rfl (pc0 := 116) (pc' := 128) rfl (hb hby ex_d116) rfl (flt hc37).2.2.2 (by decide) (by decide) k) ?_
    show own_Dn p e below s _ _ _ (T0.setTop (mkF m 128 #[.val (.int p0), .val (.int p1), .val (.int p2), .val (.int p3), .val (.int p4), .val (.int v5), .val (.int v6), .val (.int v7), .val (.int v8), .unset, .unset, .unset, .unset] []))
    exact ex_c128 C0 X0 e0 N0 (v5) (v6) (v7) (v8) (by rw [hr0, ex_f113, if_neg hc37])
def ex_f89 (p0 : Int32) (p1 : Int32) (p2 : Int32) (p3 : Int32) (p4 : Int32) (v5 : Int32) (v6 : Int32) (v7 : Int32) : Int32 :=
  if (1 : Int32) < (mn_f p4 v5) then
    if (ic_f p1) = (0 : Int32) then
      (-1 : Int32)
    else
      ex_f113 p0 p1 p2 p3 p4 (v5) (v6) (v7) ((mn_f p4 v5))
  else
    ex_f113 p0 p1 p2 p3 p4 (v5) (v6) (v7) ((mn_f p4 v5))
set_option maxRecDepth 65536 in
set_option maxHeartbeats 40000000 in
theorem ex_c89 {l : Launch} {Z : State} {a0 : Array Value} {p0 : Int32} {p1 : Int32} {p2 : Int32} {p3 : Int32} {p4 : Int32} {h0 : Heap} {n0 : Nat} {p : Program} {e : Env} {s : State} {m : MethodId} {args : Array Value} {below : List Frame} {meth : Method} {c : Code} {T0 : State} {locs : List Loc} {r0 : Int32} (C0 : own_Cx p s m meth c Z a0 method_6_code 13 "com/example/xylograph/xylograph/io/Utf8SequenceLengthPinLaw" "expected" (some .int)) (X0 : Stand p l e ({ frames := 1, cells := 0, slots := 0, locals := 18 } : Room) s m args below meth c T0 locs 0 0) (e0 : T0.heap = h0) (N0 : Fr n0 locs) (v5 : Int32) (v6 : Int32) (v7 : Int32) (hr0 : r0 = ex_f89 p0 p1 p2 p3 p4 v5 v6 v7) :
    own_Dn p e below s (own_Q (some (.int r0)) n0 h0) ({ frames := 1, cells := 0, slots := 0, locals := 18 } : Room).cells ({ frames := 1, cells := 0, slots := 0, locals := 18 } : Room).slots (T0.setTop (mkF m 89 #[.val (.int p0), .val (.int p1), .val (.int p2), .val (.int p3), .val (.int p4), .val (.int v5), .val (.int v6), .val (.int v7), .unset, .unset, .unset, .unset, .unset] [])) := by
  obtain ⟨hx, hZ, hw, hby, hml, hown, hret, hlk, hnm⟩ := id C0
  refine own_st (fun _ k => XS.iload X0.here hx rfl (hb hby ex_d89) rfl (XS.iload X0.here hx rfl (hb hby ex_d91) rfl k)) ?_
  show own_Dn p e below s _ _ _ (T0.setTop (mkF m 93 #[.val (.int p0), .val (.int p1), .val (.int p2), .val (.int p3), .val (.int p4), .val (.int v5), .val (.int v6), .val (.int v7), .unset, .unset, .unset, .unset, .unset] [(.int v5), (.int p4)]))
  obtain ⟨_, _, ⟨T33, L33, k33, n33⟩, -, X33, ⟨Lc33, hQ33, l33, y33, z33⟩, st33⟩ := Jvm.LawKit.callS X0 hx (y := (⟨"java/lang/Math", "min", "(II)I"⟩ : MethodName)) hown (mvT hZ (hw _ (List.mem_of_getElem? (i := 10) rfl))) (mvT hZ (hw _ (List.mem_of_getElem? (i := 11) rfl))) (mvT hZ (hw _ (List.mem_of_getElem? (i := 12) rfl))) (mvT hZ (hw _ (List.mem_of_getElem? (i := 13) rfl))) (by decide) (backOf (W := 0) (mn_rm l Z a0 hw [] (p4) (v5) h0 n0) hZ (hw _ (List.mem_of_getElem? (i := 13) rfl)) (hw _ (List.mem_of_getElem? (i := 12) rfl)) (by decide) (by decide)) (g := (mkF m 93 #[.val (.int p0), .val (.int p1), .val (.int p2), .val (.int p3), .val (.int p4), .val (.int v5), .val (.int v6), .val (.int v7), .unset, .unset, .unset, .unset, .unset] [(.int v5), (.int p4)])) rfl (by rw [hml]; rfl) (argsL := [(.int p4), (.int v5)]) (rest := []) (lenOf own_pd0 rfl) rfl (by show 2 * 0 + _ ≤ _; exact Nat.le_of_eq rfl) (hb hby ex_d93) (fun _ _ => ⟨rfl, e0, (by decide : 0 + 0 ≤ _), (by decide : 0 + 0 ≤ _)⟩)
  dsimp only [Pt.U, Pt.locs, Pt.cells, Pt.slots] at X33 l33 y33 z33 st33 hQ33
  subst l33 y33 z33
  obtain ⟨rfl, N33q, e33⟩ := hQ33
  have N33 := Fr.app N0 N33q
  refine own_st st33 ?_
  show own_Dn p e below s _ _ _ (T33.setTop (mkF m 96 #[.val (.int p0), .val (.int p1), .val (.int p2), .val (.int p3), .val (.int p4), .val (.int v5), .val (.int v6), .val (.int v7), .unset, .unset, .unset, .unset, .unset] [(.int (mn_f p4 v5))]))
  refine own_st (fun _ k => XS.istore X33.here hx rfl (hb hby ex_d96) rfl (l' := #[.val (.int p0), .val (.int p1), .val (.int p2), .val (.int p3), .val (.int p4), .val (.int v5), .val (.int v6), .val (.int v7), .val (.int (mn_f p4 v5)), .unset, .unset, .unset, .unset]) rfl (XS.iload X33.here hx rfl (hb hby ex_d98) rfl (XS.iconst X33.here hx rfl (hb hby ex_d100) k))) ?_
  show own_Dn p e below s _ _ _ (T33.setTop (mkF m 101 #[.val (.int p0), .val (.int p1), .val (.int p2), .val (.int p3), .val (.int p4), .val (.int v5), .val (.int v6), .val (.int v7), .val (.int (mn_f p4 v5)), .unset, .unset, .unset, .unset] [(.int (1 : Int32)), (.int (mn_f p4 v5))]))
  by_cases hc34 : (1 : Int32) < (mn_f p4 v5)
  · refine own_st (fun _ k => XS.icmpNo X33.here hx rfl (hb hby ex_d101) rfl (tlt hc34).2.2.2 k) ?_
    show own_Dn p e below s _ _ _ (T33.setTop (mkF m 104 #[.val (.int p0), .val (.int p1), .val (.int p2), .val (.int p3), .val (.int p4), .val (.int v5), .val (.int v6), .val (.int v7), .val (.int (mn_f p4 v5)), .unset, .unset, .unset, .unset] []))
    refine own_st (fun _ k => XS.iloadN X33.here hx rfl (hb hby ex_d104) rfl k) ?_
    show own_Dn p e below s _ _ _ (T33.setTop (mkF m 105 #[.val (.int p0), .val (.int p1), .val (.int p2), .val (.int p3), .val (.int p4), .val (.int v5), .val (.int v6), .val (.int v7), .val (.int (mn_f p4 v5)), .unset, .unset, .unset, .unset] [(.int p1)]))
    obtain ⟨_, _, ⟨T35, L35, k35, n35⟩, -, X35, ⟨Lc35, hQ35, l35, y35, z35⟩, st35⟩ := Jvm.LawKit.callS X33 hx (y := (⟨"com/example/xylograph/xylograph/io/Utf8SequenceLengthPinLaw", "isCont", "(I)Z"⟩ : MethodName)) hown (mvT hZ (hw _ (List.mem_of_getElem? (i := 14) rfl))) (mvT hZ (hw _ (List.mem_of_getElem? (i := 15) rfl))) (mvT hZ (hw _ (List.mem_of_getElem? (i := 8) rfl))) (mvT hZ (hw _ (List.mem_of_getElem? (i := 16) rfl))) (by decide) (backOf (W := 0) (ic_rm l Z a0 hw [] (p1) h0 n0) hZ (hw _ (List.mem_of_getElem? (i := 16) rfl)) (hw _ (List.mem_of_getElem? (i := 8) rfl)) (by decide) (by decide)) (g := (mkF m 105 #[.val (.int p0), .val (.int p1), .val (.int p2), .val (.int p3), .val (.int p4), .val (.int v5), .val (.int v6), .val (.int v7), .val (.int (mn_f p4 v5)), .unset, .unset, .unset, .unset] [(.int p1)])) rfl (by rw [hml]; rfl) (argsL := [(.int p1)]) (rest := []) (lenOf own_pd1 rfl) rfl (by show 2 * 0 + _ ≤ _; exact Nat.le_of_eq rfl) (hb hby ex_d105) (fun _ _ => ⟨rfl, e33, (by decide : 0 + 0 ≤ _), (by decide : 0 + 0 ≤ _)⟩)
    dsimp only [Pt.U, Pt.locs, Pt.cells, Pt.slots] at X35 l35 y35 z35 st35 hQ35
    subst l35 y35 z35
    obtain ⟨rfl, N35q, e35⟩ := hQ35
    have N35 := Fr.app N33 N35q
    refine own_st st35 ?_
    show own_Dn p e below s _ _ _ (T35.setTop (mkF m 108 #[.val (.int p0), .val (.int p1), .val (.int p2), .val (.int p3), .val (.int p4), .val (.int v5), .val (.int v6), .val (.int v7), .val (.int (mn_f p4 v5)), .unset, .unset, .unset, .unset] [(.int (ic_f p1))]))
    by_cases hc36 : (ic_f p1) = (0 : Int32)
    · refine own_st (fun _ k => XS.ifNo X35.here hx rfl (hb hby ex_d108) rfl ((if0 _ _).trans (teq hc36).2) k) ?_
      show own_Dn p e below s _ _ _ (T35.setTop (mkF m 111 #[.val (.int p0), .val (.int p1), .val (.int p2), .val (.int p3), .val (.int p4), .val (.int v5), .val (.int v6), .val (.int v7), .val (.int (mn_f p4 v5)), .unset, .unset, .unset, .unset] []))
      refine own_st (fun _ k => XS.iconst X35.here hx rfl (hb hby ex_d111) k) ?_
      show own_Dn p e below s _ _ _ (T35.setTop (mkF m 112 #[.val (.int p0), .val (.int p1), .val (.int p2), .val (.int p3), .val (.int p4), .val (.int v5), .val (.int v6), .val (.int v7), .val (.int (mn_f p4 v5)), .unset, .unset, .unset, .unset] [(.int (-1 : Int32))]))
      exact own_retI X35 hx hret hlk (hb hby ex_d112) (by decide) (by decide) ⟨(by rw [hr0, ex_f89, if_pos hc34, if_pos hc36]), N35, e35⟩
    · refine own_st (fun _ k => XS.ifYes X35.here hx rfl (pc0 := 108) (pc' := 113) rfl (hb hby ex_d108) rfl ((if0 _ _).trans (feq hc36).2) (by decide) (by decide) k) ?_
      show own_Dn p e below s _ _ _ (T35.setTop (mkF m 113 #[.val (.int p0), .val (.int p1), .val (.int p2), .val (.int p3), .val (.int p4), .val (.int v5), .val (.int v6), .val (.int v7), .val (.int (mn_f p4 v5)), .unset, .unset, .unset, .unset] []))
      exact ex_c113 C0 X35 e35 N35 (v5) (v6) (v7) ((mn_f p4 v5)) (by rw [hr0, ex_f89, if_pos hc34, if_neg hc36])
  · refine own_st (fun _ k => XS.icmpYes X33.here hx rfl (pc0 := 101) (pc' := 113) rfl (hb hby ex_d101) rfl (flt hc34).2.2.2 (by decide) (by decide) k) ?_
    show own_Dn p e below s _ _ _ (T33.setTop (mkF m 113 #[.val (.int p0), .val (.int p1), .val (.int p2), .val (.int p3), .val (.int p4), .val (.int v5), .val (.int v6), .val (.int v7), .val (.int (mn_f p4 v5)), .unset, .unset, .unset, .unset] []))
    exact ex_c113 C0 X33 e33 N33 (v5) (v6) (v7) ((mn_f p4 v5)) (by rw [hr0, ex_f89, if_neg hc34])
def ex_f (p0 : Int32) (p1 : Int32) (p2 : Int32) (p3 : Int32) (p4 : Int32)  : Int32 :=
  if p0 < (128 : Int32) then
    (1 : Int32)
  else
    if (p0 &&& (224 : Int32)) = (192 : Int32) then
      ex_f89 p0 p1 p2 p3 p4 ((2 : Int32)) ((128 : Int32)) ((2047 : Int32))
    else
      if (p0 &&& (240 : Int32)) = (224 : Int32) then
        ex_f89 p0 p1 p2 p3 p4 ((3 : Int32)) ((2048 : Int32)) ((65535 : Int32))
      else
        if (p0 &&& (248 : Int32)) = (240 : Int32) then
          ex_f89 p0 p1 p2 p3 p4 ((4 : Int32)) ((65536 : Int32)) ((1114111 : Int32))
        else
          (-1 : Int32)
set_option maxRecDepth 65536 in
set_option maxHeartbeats 40000000 in
theorem ex_c0 {l : Launch} {Z : State} {a0 : Array Value} {p0 : Int32} {p1 : Int32} {p2 : Int32} {p3 : Int32} {p4 : Int32} {h0 : Heap} {n0 : Nat} {p : Program} {e : Env} {s : State} {m : MethodId} {args : Array Value} {below : List Frame} {meth : Method} {c : Code} {T0 : State} {locs : List Loc} {r0 : Int32} (C0 : own_Cx p s m meth c Z a0 method_6_code 13 "com/example/xylograph/xylograph/io/Utf8SequenceLengthPinLaw" "expected" (some .int)) (X0 : Stand p l e ({ frames := 1, cells := 0, slots := 0, locals := 18 } : Room) s m args below meth c T0 locs 0 0) (e0 : T0.heap = h0) (N0 : Fr n0 locs)  (hr0 : r0 = ex_f p0 p1 p2 p3 p4 ) :
    own_Dn p e below s (own_Q (some (.int r0)) n0 h0) ({ frames := 1, cells := 0, slots := 0, locals := 18 } : Room).cells ({ frames := 1, cells := 0, slots := 0, locals := 18 } : Room).slots (T0.setTop (mkF m 0 #[.val (.int p0), .val (.int p1), .val (.int p2), .val (.int p3), .val (.int p4), .unset, .unset, .unset, .unset, .unset, .unset, .unset, .unset] [])) := by
  obtain ⟨hx, hZ, hw, hby, hml, hown, hret, hlk, hnm⟩ := id C0
  refine own_st (fun _ k => XS.iloadN X0.here hx rfl (hb hby ex_d0) rfl (XS.sipush X0.here hx rfl (hb hby ex_d1) k)) ?_
  show own_Dn p e below s _ _ _ (T0.setTop (mkF m 4 #[.val (.int p0), .val (.int p1), .val (.int p2), .val (.int p3), .val (.int p4), .unset, .unset, .unset, .unset, .unset, .unset, .unset, .unset] [(.int (128 : Int32)), (.int p0)]))
  by_cases hc29 : p0 < (128 : Int32)
  · refine own_st (fun _ k => XS.icmpNo X0.here hx rfl (hb hby ex_d4) rfl (tlt hc29).2.1 k) ?_
    show own_Dn p e below s _ _ _ (T0.setTop (mkF m 7 #[.val (.int p0), .val (.int p1), .val (.int p2), .val (.int p3), .val (.int p4), .unset, .unset, .unset, .unset, .unset, .unset, .unset, .unset] []))
    refine own_st (fun _ k => XS.iconst X0.here hx rfl (hb hby ex_d7) k) ?_
    show own_Dn p e below s _ _ _ (T0.setTop (mkF m 8 #[.val (.int p0), .val (.int p1), .val (.int p2), .val (.int p3), .val (.int p4), .unset, .unset, .unset, .unset, .unset, .unset, .unset, .unset] [(.int (1 : Int32))]))
    exact own_retI X0 hx hret hlk (hb hby ex_d8) (by decide) (by decide) ⟨(by rw [hr0, ex_f, if_pos hc29]), N0, e0⟩
  · refine own_st (fun _ k => XS.icmpYes X0.here hx rfl (pc0 := 4) (pc' := 9) rfl (hb hby ex_d4) rfl (flt hc29).2.1 (by decide) (by decide) k) ?_
    show own_Dn p e below s _ _ _ (T0.setTop (mkF m 9 #[.val (.int p0), .val (.int p1), .val (.int p2), .val (.int p3), .val (.int p4), .unset, .unset, .unset, .unset, .unset, .unset, .unset, .unset] []))
    refine own_st (fun _ k => XS.iloadN X0.here hx rfl (hb hby ex_d9) rfl (XS.sipush X0.here hx rfl (hb hby ex_d10) (XS.iand X0.here hx rfl (hb hby ex_d13) rfl (XS.sipush X0.here hx rfl (hb hby ex_d14) k)))) ?_
    show own_Dn p e below s _ _ _ (T0.setTop (mkF m 17 #[.val (.int p0), .val (.int p1), .val (.int p2), .val (.int p3), .val (.int p4), .unset, .unset, .unset, .unset, .unset, .unset, .unset, .unset] [(.int (192 : Int32)), (.int (p0 &&& (224 : Int32)))]))
    by_cases hc30 : (p0 &&& (224 : Int32)) = (192 : Int32)
    · refine own_st (fun _ k => XS.icmpNo X0.here hx rfl (hb hby ex_d17) rfl (teq hc30).2 k) ?_
      show own_Dn p e below s _ _ _ (T0.setTop (mkF m 20 #[.val (.int p0), .val (.int p1), .val (.int p2), .val (.int p3), .val (.int p4), .unset, .unset, .unset, .unset, .unset, .unset, .unset, .unset] []))
      refine own_st (fun _ k => XS.iconst X0.here hx rfl (hb hby ex_d20) (XS.istore X0.here hx rfl (hb hby ex_d21) rfl (l' := #[.val (.int p0), .val (.int p1), .val (.int p2), .val (.int p3), .val (.int p4), .val (.int (2 : Int32)), .unset, .unset, .unset, .unset, .unset, .unset, .unset]) rfl (XS.sipush X0.here hx rfl (hb hby ex_d23) (XS.istore X0.here hx rfl (hb hby ex_d26) rfl (l' := #[.val (.int p0), .val (.int p1), .val (.int p2), .val (.int p3), .val (.int p4), .val (.int (2 : Int32)), .val (.int (128 : Int32)), .unset, .unset, .unset, .unset, .unset, .unset]) rfl (XS.sipush X0.here hx rfl (hb hby ex_d28) (XS.istore X0.here hx rfl (hb hby ex_d31) rfl (l' := #[.val (.int p0), .val (.int p1), .val (.int p2), .val (.int p3), .val (.int p4), .val (.int (2 : Int32)), .val (.int (128 : Int32)), .val (.int (2047 : Int32)), .unset, .unset, .unset, .unset, .unset]) rfl (XS.goto X0.here hx rfl (pc0 := 33) (pc' := 89) rfl (hb hby ex_d33) (by decide) (by decide) k))))))) ?_
      show own_Dn p e below s _ _ _ (T0.setTop (mkF m 89 #[.val (.int p0), .val (.int p1), .val (.int p2), .val (.int p3), .val (.int p4), .val (.int (2 : Int32)), .val (.int (128 : Int32)), .val (.int (2047 : Int32)), .unset, .unset, .unset, .unset, .unset] []))
      exact ex_c89 C0 X0 e0 N0 ((2 : Int32)) ((128 : Int32)) ((2047 : Int32)) (by rw [hr0, ex_f, if_neg hc29, if_pos hc30])
    · refine own_st (fun _ k => XS.icmpYes X0.here hx rfl (pc0 := 17) (pc' := 36) rfl (hb hby ex_d17) rfl (feq hc30).2 (by decide) (by decide) k) ?_
      show own_Dn p e below s _ _ _ (T0.setTop (mkF m 36 #[.val (.int p0), .val (.int p1), .val (.int p2), .val (.int p3), .val (.int p4), .unset, .unset, .unset, .unset, .unset, .unset, .unset, .unset] []))
      refine own_st (fun _ k => XS.iloadN X0.here hx rfl (hb hby ex_d36) rfl (XS.sipush X0.here hx rfl (hb hby ex_d37) (XS.iand X0.here hx rfl (hb hby ex_d40) rfl (XS.sipush X0.here hx rfl (hb hby ex_d41) k)))) ?_
      show own_Dn p e below s _ _ _ (T0.setTop (mkF m 44 #[.val (.int p0), .val (.int p1), .val (.int p2), .val (.int p3), .val (.int p4), .unset, .unset, .unset, .unset, .unset, .unset, .unset, .unset] [(.int (224 : Int32)), (.int (p0 &&& (240 : Int32)))]))
      by_cases hc31 : (p0 &&& (240 : Int32)) = (224 : Int32)
      · refine own_st (fun _ k => XS.icmpNo X0.here hx rfl (hb hby ex_d44) rfl (teq hc31).2 k) ?_
        show own_Dn p e below s _ _ _ (T0.setTop (mkF m 47 #[.val (.int p0), .val (.int p1), .val (.int p2), .val (.int p3), .val (.int p4), .unset, .unset, .unset, .unset, .unset, .unset, .unset, .unset] []))
        refine own_st (fun _ k => XS.iconst X0.here hx rfl (hb hby ex_d47) (XS.istore X0.here hx rfl (hb hby ex_d48) rfl (l' := #[.val (.int p0), .val (.int p1), .val (.int p2), .val (.int p3), .val (.int p4), .val (.int (3 : Int32)), .unset, .unset, .unset, .unset, .unset, .unset, .unset]) rfl (XS.sipush X0.here hx rfl (hb hby ex_d50) (XS.istore X0.here hx rfl (hb hby ex_d53) rfl (l' := #[.val (.int p0), .val (.int p1), .val (.int p2), .val (.int p3), .val (.int p4), .val (.int (3 : Int32)), .val (.int (2048 : Int32)), .unset, .unset, .unset, .unset, .unset, .unset]) rfl (X0.ldcInt hx (index := 20) (v := (65535 : Int32)) hown (mvT hZ (hw _ (List.mem_of_getElem? (i := 29) rfl))) (g := (mkF m 55 #[.val (.int p0), .val (.int p1), .val (.int p2), .val (.int p3), .val (.int p4), .val (.int (3 : Int32)), .val (.int (2048 : Int32)), .unset, .unset, .unset, .unset, .unset, .unset] [])) rfl (hb hby ex_d55) _ (XS.istore X0.here hx rfl (hb hby ex_d57) rfl (l' := #[.val (.int p0), .val (.int p1), .val (.int p2), .val (.int p3), .val (.int p4), .val (.int (3 : Int32)), .val (.int (2048 : Int32)), .val (.int (65535 : Int32)), .unset, .unset, .unset, .unset, .unset]) rfl (XS.goto X0.here hx rfl (pc0 := 59) (pc' := 89) rfl (hb hby ex_d59) (by decide) (by decide) k))))))) ?_
        show own_Dn p e below s _ _ _ (T0.setTop (mkF m 89 #[.val (.int p0), .val (.int p1), .val (.int p2), .val (.int p3), .val (.int p4), .val (.int (3 : Int32)), .val (.int (2048 : Int32)), .val (.int (65535 : Int32)), .unset, .unset, .unset, .unset, .unset] []))
        exact ex_c89 C0 X0 e0 N0 ((3 : Int32)) ((2048 : Int32)) ((65535 : Int32)) (by rw [hr0, ex_f, if_neg hc29, if_neg hc30, if_pos hc31])
      · refine own_st (fun _ k => XS.icmpYes X0.here hx rfl (pc0 := 44) (pc' := 62) rfl (hb hby ex_d44) rfl (feq hc31).2 (by decide) (by decide) k) ?_
        show own_Dn p e below s _ _ _ (T0.setTop (mkF m 62 #[.val (.int p0), .val (.int p1), .val (.int p2), .val (.int p3), .val (.int p4), .unset, .unset, .unset, .unset, .unset, .unset, .unset, .unset] []))
        refine own_st (fun _ k => XS.iloadN X0.here hx rfl (hb hby ex_d62) rfl (XS.sipush X0.here hx rfl (hb hby ex_d63) (XS.iand X0.here hx rfl (hb hby ex_d66) rfl (XS.sipush X0.here hx rfl (hb hby ex_d67) k)))) ?_
        show own_Dn p e below s _ _ _ (T0.setTop (mkF m 70 #[.val (.int p0), .val (.int p1), .val (.int p2), .val (.int p3), .val (.int p4), .unset, .unset, .unset, .unset, .unset, .unset, .unset, .unset] [(.int (240 : Int32)), (.int (p0 &&& (248 : Int32)))]))
        by_cases hc32 : (p0 &&& (248 : Int32)) = (240 : Int32)
        · refine own_st (fun _ k => XS.icmpNo X0.here hx rfl (hb hby ex_d70) rfl (teq hc32).2 k) ?_
          show own_Dn p e below s _ _ _ (T0.setTop (mkF m 73 #[.val (.int p0), .val (.int p1), .val (.int p2), .val (.int p3), .val (.int p4), .unset, .unset, .unset, .unset, .unset, .unset, .unset, .unset] []))
          refine own_st (fun _ k => XS.iconst X0.here hx rfl (hb hby ex_d73) (XS.istore X0.here hx rfl (hb hby ex_d74) rfl (l' := #[.val (.int p0), .val (.int p1), .val (.int p2), .val (.int p3), .val (.int p4), .val (.int (4 : Int32)), .unset, .unset, .unset, .unset, .unset, .unset, .unset]) rfl (X0.ldcInt hx (index := 21) (v := (65536 : Int32)) hown (mvT hZ (hw _ (List.mem_of_getElem? (i := 17) rfl))) (g := (mkF m 76 #[.val (.int p0), .val (.int p1), .val (.int p2), .val (.int p3), .val (.int p4), .val (.int (4 : Int32)), .unset, .unset, .unset, .unset, .unset, .unset, .unset] [])) rfl (hb hby ex_d76) _ (XS.istore X0.here hx rfl (hb hby ex_d78) rfl (l' := #[.val (.int p0), .val (.int p1), .val (.int p2), .val (.int p3), .val (.int p4), .val (.int (4 : Int32)), .val (.int (65536 : Int32)), .unset, .unset, .unset, .unset, .unset, .unset]) rfl (X0.ldcInt hx (index := 22) (v := (1114111 : Int32)) hown (mvT hZ (hw _ (List.mem_of_getElem? (i := 18) rfl))) (g := (mkF m 80 #[.val (.int p0), .val (.int p1), .val (.int p2), .val (.int p3), .val (.int p4), .val (.int (4 : Int32)), .val (.int (65536 : Int32)), .unset, .unset, .unset, .unset, .unset, .unset] [])) rfl (hb hby ex_d80) _ (XS.istore X0.here hx rfl (hb hby ex_d82) rfl (l' := #[.val (.int p0), .val (.int p1), .val (.int p2), .val (.int p3), .val (.int p4), .val (.int (4 : Int32)), .val (.int (65536 : Int32)), .val (.int (1114111 : Int32)), .unset, .unset, .unset, .unset, .unset]) rfl (XS.goto X0.here hx rfl (pc0 := 84) (pc' := 89) rfl (hb hby ex_d84) (by decide) (by decide) k))))))) ?_
          show own_Dn p e below s _ _ _ (T0.setTop (mkF m 89 #[.val (.int p0), .val (.int p1), .val (.int p2), .val (.int p3), .val (.int p4), .val (.int (4 : Int32)), .val (.int (65536 : Int32)), .val (.int (1114111 : Int32)), .unset, .unset, .unset, .unset, .unset] []))
          exact ex_c89 C0 X0 e0 N0 ((4 : Int32)) ((65536 : Int32)) ((1114111 : Int32)) (by rw [hr0, ex_f, if_neg hc29, if_neg hc30, if_neg hc31, if_pos hc32])
        · refine own_st (fun _ k => XS.icmpYes X0.here hx rfl (pc0 := 70) (pc' := 87) rfl (hb hby ex_d70) rfl (feq hc32).2 (by decide) (by decide) k) ?_
          show own_Dn p e below s _ _ _ (T0.setTop (mkF m 87 #[.val (.int p0), .val (.int p1), .val (.int p2), .val (.int p3), .val (.int p4), .unset, .unset, .unset, .unset, .unset, .unset, .unset, .unset] []))
          refine own_st (fun _ k => XS.iconst X0.here hx rfl (hb hby ex_d87) k) ?_
          show own_Dn p e below s _ _ _ (T0.setTop (mkF m 88 #[.val (.int p0), .val (.int p1), .val (.int p2), .val (.int p3), .val (.int p4), .unset, .unset, .unset, .unset, .unset, .unset, .unset, .unset] [(.int (-1 : Int32))]))
          exact own_retI X0 hx hret hlk (hb hby ex_d88) (by decide) (by decide) ⟨(by rw [hr0, ex_f, if_neg hc29, if_neg hc30, if_neg hc31, if_neg hc32]), N0, e0⟩
theorem ex_ef (m : MethodId) (p0 : Int32) (p1 : Int32) (p2 : Int32) (p3 : Int32) (p4 : Int32) : entryFrame m #[(.int p0), (.int p1), (.int p2), (.int p3), (.int p4)] 13 = mkF m 0 #[.val (.int p0), .val (.int p1), .val (.int p2), .val (.int p3), .val (.int p4), .unset, .unset, .unset, .unset, .unset, .unset, .unset, .unset] [] := by first | (simp [entryFrame, mkF, argsToLocals, Value.category]; done) | rfl
theorem ex_rm (l : Launch) (Z : State) (a0 : Array Value) (hw : ∀ d ∈ tables_1, d.before a0 Z = true) (ws : List Jvm.Cond) (p0 : Int32) (p1 : Int32) (p2 : Int32) (p3 : Int32) (p4 : Int32) (h0 : Heap) (n0 : Nat) :
    MetFree l (⟨"com/example/xylograph/xylograph/io/Utf8SequenceLengthPinLaw", "expected", "(IIIII)I"⟩ : MethodName) (head1 (Jvm.Cond.code (⟨"com/example/xylograph/xylograph/io/Utf8SequenceLengthPinLaw", "expected", "(IIIII)I"⟩ : MethodName) method_6_code 13 (some .int) :: ws) ({ frames := 1, cells := 0, slots := 0, locals := 18 } : Room)) (fun a U => a = #[(.int p0), (.int p1), (.int p2), (.int p3), (.int p4)] ∧ Z.Warmed39 U.vm ∧ U.heap = h0) (fun _ _ _ _ _ => True) (fun _ U o U' => ∃ v L, o = .returned v ∧ (own_Q (some (.int (ex_f p0 p1 p2 p3 p4))) n0 h0) v U'.heap L ∧ FrameEnd U o U' L ({ frames := 1, cells := 0, slots := 0, locals := 18 } : Room).cells ({ frames := 1, cells := 0, slots := 0, locals := 18 } : Room).slots) :=
  own_met hw (plainFor_of_name (by first | (simp [plainName, overriddenIn]; done) | decide +kernel)) (fun p e s m below meth c T0 C0 X0 e0 => own_st (fun _ k => castTop (ex_ef m p0 p1 p2 p3 p4) k) (ex_c0 C0 X0 e0 (Fr.nil n0) rfl))
theorem sa_d0 : decode prog_31_method_2_code 0 = .ok (.aload_n 0, 1) := by decide +kernel
theorem sa_d1 : decode prog_31_method_2_code 1 = .ok (.iload_n 1, 1) := by decide +kernel
theorem sa_d2 : decode prog_31_method_2_code 2 = .ok (.baload, 1) := by decide +kernel
theorem sa_d3 : decode prog_31_method_2_code 3 = .ok (.sipush 255, 3) := by decide +kernel
theorem sa_d6 : decode prog_31_method_2_code 6 = .ok (.iand, 1) := by decide +kernel
theorem sa_d7 : decode prog_31_method_2_code 7 = .ok (.istore_n 3, 1) := by decide +kernel
theorem sa_d8 : decode prog_31_method_2_code 8 = .ok (.iload_n 3, 1) := by decide +kernel
theorem sa_d9 : decode prog_31_method_2_code 9 = .ok (.sipush 128, 3) := by decide +kernel
theorem sa_d12 : decode prog_31_method_2_code 12 = .ok (.if_icmp .ge 5, 3) := by decide +kernel
theorem sa_d15 : decode prog_31_method_2_code 15 = .ok (.iconst 1, 1) := by decide +kernel
theorem sa_d16 : decode prog_31_method_2_code 16 = .ok (.ireturn, 1) := by decide +kernel
theorem sa_d17 : decode prog_31_method_2_code 17 = .ok (.sipush 128, 3) := by decide +kernel
theorem sa_d20 : decode prog_31_method_2_code 20 = .ok (.istore 5, 2) := by decide +kernel
theorem sa_d22 : decode prog_31_method_2_code 22 = .ok (.sipush 191, 3) := by decide +kernel
theorem sa_d25 : decode prog_31_method_2_code 25 = .ok (.istore 6, 2) := by decide +kernel
theorem sa_d27 : decode prog_31_method_2_code 27 = .ok (.iload_n 3, 1) := by decide +kernel
theorem sa_d28 : decode prog_31_method_2_code 28 = .ok (.sipush 194, 3) := by decide +kernel
theorem sa_d31 : decode prog_31_method_2_code 31 = .ok (.if_icmp .ge 5, 3) := by decide +kernel
theorem sa_d34 : decode prog_31_method_2_code 34 = .ok (.iconst (-1), 1) := by decide +kernel
theorem sa_d35 : decode prog_31_method_2_code 35 = .ok (.ireturn, 1) := by decide +kernel
theorem sa_d36 : decode prog_31_method_2_code 36 = .ok (.iload_n 3, 1) := by decide +kernel
theorem sa_d37 : decode prog_31_method_2_code 37 = .ok (.sipush 224, 3) := by decide +kernel
theorem sa_d40 : decode prog_31_method_2_code 40 = .ok (.if_icmp .ge 9, 3) := by decide +kernel
theorem sa_d43 : decode prog_31_method_2_code 43 = .ok (.iconst 2, 1) := by decide +kernel
theorem sa_d44 : decode prog_31_method_2_code 44 = .ok (.istore 4, 2) := by decide +kernel
theorem sa_d46 : decode prog_31_method_2_code 46 = .ok (.goto 99, 3) := by decide +kernel
theorem sa_d49 : decode prog_31_method_2_code 49 = .ok (.iload_n 3, 1) := by decide +kernel
theorem sa_d50 : decode prog_31_method_2_code 50 = .ok (.sipush 240, 3) := by decide +kernel
theorem sa_d53 : decode prog_31_method_2_code 53 = .ok (.if_icmp .ge 43, 3) := by decide +kernel
theorem sa_d56 : decode prog_31_method_2_code 56 = .ok (.iconst 3, 1) := by decide +kernel
theorem sa_d57 : decode prog_31_method_2_code 57 = .ok (.istore 4, 2) := by decide +kernel
theorem sa_d59 : decode prog_31_method_2_code 59 = .ok (.iload_n 3, 1) := by decide +kernel
theorem sa_d60 : decode prog_31_method_2_code 60 = .ok (.sipush 224, 3) := by decide +kernel
theorem sa_d63 : decode prog_31_method_2_code 63 = .ok (.if_icmp .ne 9, 3) := by decide +kernel
theorem sa_d66 : decode prog_31_method_2_code 66 = .ok (.sipush 160, 3) := by decide +kernel
theorem sa_d69 : decode prog_31_method_2_code 69 = .ok (.goto 5, 3) := by decide +kernel
theorem sa_d72 : decode prog_31_method_2_code 72 = .ok (.iload 5, 2) := by decide +kernel
theorem sa_d74 : decode prog_31_method_2_code 74 = .ok (.istore 5, 2) := by decide +kernel
theorem sa_d76 : decode prog_31_method_2_code 76 = .ok (.iload_n 3, 1) := by decide +kernel
theorem sa_d77 : decode prog_31_method_2_code 77 = .ok (.sipush 237, 3) := by decide +kernel
theorem sa_d80 : decode prog_31_method_2_code 80 = .ok (.if_icmp .ne 9, 3) := by decide +kernel
theorem sa_d83 : decode prog_31_method_2_code 83 = .ok (.sipush 159, 3) := by decide +kernel
theorem sa_d86 : decode prog_31_method_2_code 86 = .ok (.goto 5, 3) := by decide +kernel
theorem sa_d89 : decode prog_31_method_2_code 89 = .ok (.iload 6, 2) := by decide +kernel
theorem sa_d91 : decode prog_31_method_2_code 91 = .ok (.istore 6, 2) := by decide +kernel
theorem sa_d93 : decode prog_31_method_2_code 93 = .ok (.goto 52, 3) := by decide +kernel
theorem sa_d96 : decode prog_31_method_2_code 96 = .ok (.iload_n 3, 1) := by decide +kernel
theorem sa_d97 : decode prog_31_method_2_code 97 = .ok (.sipush 245, 3) := by decide +kernel
theorem sa_d100 : decode prog_31_method_2_code 100 = .ok (.if_icmp .ge 43, 3) := by decide +kernel
theorem sa_d103 : decode prog_31_method_2_code 103 = .ok (.iconst 4, 1) := by decide +kernel
theorem sa_d104 : decode prog_31_method_2_code 104 = .ok (.istore 4, 2) := by decide +kernel
theorem sa_d106 : decode prog_31_method_2_code 106 = .ok (.iload_n 3, 1) := by decide +kernel
theorem sa_d107 : decode prog_31_method_2_code 107 = .ok (.sipush 240, 3) := by decide +kernel
theorem sa_d110 : decode prog_31_method_2_code 110 = .ok (.if_icmp .ne 9, 3) := by decide +kernel
theorem sa_d113 : decode prog_31_method_2_code 113 = .ok (.sipush 144, 3) := by decide +kernel
theorem sa_d116 : decode prog_31_method_2_code 116 = .ok (.goto 5, 3) := by decide +kernel
theorem sa_d119 : decode prog_31_method_2_code 119 = .ok (.iload 5, 2) := by decide +kernel
theorem sa_d121 : decode prog_31_method_2_code 121 = .ok (.istore 5, 2) := by decide +kernel
theorem sa_d123 : decode prog_31_method_2_code 123 = .ok (.iload_n 3, 1) := by decide +kernel
theorem sa_d124 : decode prog_31_method_2_code 124 = .ok (.sipush 244, 3) := by decide +kernel
theorem sa_d127 : decode prog_31_method_2_code 127 = .ok (.if_icmp .ne 9, 3) := by decide +kernel
theorem sa_d130 : decode prog_31_method_2_code 130 = .ok (.sipush 143, 3) := by decide +kernel
theorem sa_d133 : decode prog_31_method_2_code 133 = .ok (.goto 5, 3) := by decide +kernel
theorem sa_d136 : decode prog_31_method_2_code 136 = .ok (.iload 6, 2) := by decide +kernel
theorem sa_d138 : decode prog_31_method_2_code 138 = .ok (.istore 6, 2) := by decide +kernel
theorem sa_d140 : decode prog_31_method_2_code 140 = .ok (.goto 5, 3) := by decide +kernel
theorem sa_d143 : decode prog_31_method_2_code 143 = .ok (.iconst (-1), 1) := by decide +kernel
theorem sa_d144 : decode prog_31_method_2_code 144 = .ok (.ireturn, 1) := by decide +kernel
theorem sa_d145 : decode prog_31_method_2_code 145 = .ok (.iload_n 1, 1) := by decide +kernel
theorem sa_d146 : decode prog_31_method_2_code 146 = .ok (.iconst 1, 1) := by decide +kernel
theorem sa_d147 : decode prog_31_method_2_code 147 = .ok (.iadd, 1) := by decide +kernel
theorem sa_d148 : decode prog_31_method_2_code 148 = .ok (.iload_n 2, 1) := by decide +kernel
theorem sa_d149 : decode prog_31_method_2_code 149 = .ok (.if_icmp .lt 5, 3) := by decide +kernel
theorem sa_d152 : decode prog_31_method_2_code 152 = .ok (.iconst 0, 1) := by decide +kernel
theorem sa_d153 : decode prog_31_method_2_code 153 = .ok (.ireturn, 1) := by decide +kernel
theorem sa_d154 : decode prog_31_method_2_code 154 = .ok (.aload_n 0, 1) := by decide +kernel
theorem sa_d155 : decode prog_31_method_2_code 155 = .ok (.iload_n 1, 1) := by decide +kernel
theorem sa_d156 : decode prog_31_method_2_code 156 = .ok (.iconst 1, 1) := by decide +kernel
theorem sa_d157 : decode prog_31_method_2_code 157 = .ok (.iadd, 1) := by decide +kernel
theorem sa_d158 : decode prog_31_method_2_code 158 = .ok (.baload, 1) := by decide +kernel
theorem sa_d159 : decode prog_31_method_2_code 159 = .ok (.sipush 255, 3) := by decide +kernel
theorem sa_d162 : decode prog_31_method_2_code 162 = .ok (.iand, 1) := by decide +kernel
theorem sa_d163 : decode prog_31_method_2_code 163 = .ok (.istore 7, 2) := by decide +kernel
theorem sa_d165 : decode prog_31_method_2_code 165 = .ok (.iload 7, 2) := by decide +kernel
theorem sa_d167 : decode prog_31_method_2_code 167 = .ok (.iload 5, 2) := by decide +kernel
theorem sa_d169 : decode prog_31_method_2_code 169 = .ok (.if_icmp .lt 10, 3) := by decide +kernel
theorem sa_d172 : decode prog_31_method_2_code 172 = .ok (.iload 7, 2) := by decide +kernel
theorem sa_d174 : decode prog_31_method_2_code 174 = .ok (.iload 6, 2) := by decide +kernel
theorem sa_d176 : decode prog_31_method_2_code 176 = .ok (.if_icmp .le 5, 3) := by decide +kernel
theorem sa_d179 : decode prog_31_method_2_code 179 = .ok (.iconst (-1), 1) := by decide +kernel
theorem sa_d180 : decode prog_31_method_2_code 180 = .ok (.ireturn, 1) := by decide +kernel
theorem sa_d181 : decode prog_31_method_2_code 181 = .ok (.iload_n 1, 1) := by decide +kernel
theorem sa_d182 : decode prog_31_method_2_code 182 = .ok (.iconst 2, 1) := by decide +kernel
theorem sa_d183 : decode prog_31_method_2_code 183 = .ok (.iadd, 1) := by decide +kernel
theorem sa_d184 : decode prog_31_method_2_code 184 = .ok (.istore 8, 2) := by decide +kernel
theorem sa_d186 : decode prog_31_method_2_code 186 = .ok (.iload 8, 2) := by decide +kernel
theorem sa_d188 : decode prog_31_method_2_code 188 = .ok (.iload_n 1, 1) := by decide +kernel
theorem sa_d189 : decode prog_31_method_2_code 189 = .ok (.iload 4, 2) := by decide +kernel
theorem sa_d191 : decode prog_31_method_2_code 191 = .ok (.iadd, 1) := by decide +kernel
theorem sa_d192 : decode prog_31_method_2_code 192 = .ok (.if_icmp .ge 33, 3) := by decide +kernel
theorem sa_d195 : decode prog_31_method_2_code 195 = .ok (.iload 8, 2) := by decide +kernel
theorem sa_d197 : decode prog_31_method_2_code 197 = .ok (.iload_n 2, 1) := by decide +kernel
theorem sa_d198 : decode prog_31_method_2_code 198 = .ok (.if_icmp .lt 5, 3) := by decide +kernel
theorem sa_d201 : decode prog_31_method_2_code 201 = .ok (.iconst 0, 1) := by decide +kernel
theorem sa_d202 : decode prog_31_method_2_code 202 = .ok (.ireturn, 1) := by decide +kernel
theorem sa_d203 : decode prog_31_method_2_code 203 = .ok (.aload_n 0, 1) := by decide +kernel
theorem sa_d204 : decode prog_31_method_2_code 204 = .ok (.iload 8, 2) := by decide +kernel
theorem sa_d206 : decode prog_31_method_2_code 206 = .ok (.baload, 1) := by decide +kernel
theorem sa_d207 : decode prog_31_method_2_code 207 = .ok (.sipush 192, 3) := by decide +kernel
theorem sa_d210 : decode prog_31_method_2_code 210 = .ok (.iand, 1) := by decide +kernel
theorem sa_d211 : decode prog_31_method_2_code 211 = .ok (.sipush 128, 3) := by decide +kernel
theorem sa_d214 : decode prog_31_method_2_code 214 = .ok (.if_icmp .eq 5, 3) := by decide +kernel
theorem sa_d217 : decode prog_31_method_2_code 217 = .ok (.iconst (-1), 1) := by decide +kernel
theorem sa_d218 : decode prog_31_method_2_code 218 = .ok (.ireturn, 1) := by decide +kernel
theorem sa_d219 : decode prog_31_method_2_code 219 = .ok (.iinc 8 1, 3) := by decide +kernel
theorem sa_d222 : decode prog_31_method_2_code 222 = .ok (.goto (-36), 3) := by decide +kernel
theorem sa_d225 : decode prog_31_method_2_code 225 = .ok (.iload 4, 2) := by decide +kernel
theorem sa_d227 : decode prog_31_method_2_code 227 = .ok (.ireturn, 1) := by decide +kernel
def sa_f145k4 (p2 : Int32) (w_g : Nat → Int32) (v3 : Int32) (v5 : Int32) (v6 : Int32) : Int32 :=
  if (1 : Int32) < p2 then
    if ((w_g ((1 : Int32)).toNatClampNeg) &&& (255 : Int32)) < v5 then
      (-1 : Int32)
    else
      if v6 < ((w_g ((1 : Int32)).toNatClampNeg) &&& (255 : Int32)) then
        (-1 : Int32)
      else
        if (2 : Int32) < p2 then
          if ((w_g ((2 : Int32)).toNatClampNeg) &&& (192 : Int32)) = (128 : Int32) then
            if (3 : Int32) < p2 then
              if ((w_g ((3 : Int32)).toNatClampNeg) &&& (192 : Int32)) = (128 : Int32) then
                (4 : Int32)
              else
                (-1 : Int32)
            else
              (0 : Int32)
          else
            (-1 : Int32)
        else
          (0 : Int32)
  else
    (0 : Int32)
set_option maxRecDepth 65536 in
set_option maxHeartbeats 40000000 in
theorem sa_c145k4 {l : Launch} {Z : State} {a0 : Array Value} {b0 : Addr} {p2 : Int32} {w_g : Nat → Int32} {h0 : Heap} {n0 : Nat} {p : Program} {e : Env} {s : State} {m : MethodId} {args : Array Value} {below : List Frame} {meth : Method} {c : Code} {T0 : State} {locs : List Loc} {r0 : Int32} (C0 : own_Cx p s m meth c Z a0 prog_31_method_2_code 9 "com/example/xylograph/xylograph/io/Utf8" "sequenceLength" (some .int)) (X0 : Stand p l e ({ frames := 0, cells := 0, slots := 0, locals := 0 } : Room) s m args below meth c T0 locs 0 0) (e0 : T0.heap = h0) (N0 : Fr n0 locs) (v3 : Int32) (v5 : Int32) (v6 : Int32) (Z0 : n0 ≤ h0.size) (P1 : own_Arf Z h0 b0 .byte 6 (fun i => (.int (w_g i)))) (hr0 : r0 = sa_f145k4 p2 w_g v3 v5 v6) :
    own_Dn p e below s (own_Q (some (.int r0)) n0 h0) ({ frames := 0, cells := 0, slots := 0, locals := 0 } : Room).cells ({ frames := 0, cells := 0, slots := 0, locals := 0 } : Room).slots (T0.setTop (mkF m 145 #[.val (.ref b0), .val (.int (0 : Int32)), .val (.int p2), .val (.int v3), .val (.int (4 : Int32)), .val (.int v5), .val (.int v6), .unset, .unset] [])) := by
  obtain ⟨hx, hZ, hw, hby, hml, hown, hret, hlk, hnm⟩ := id C0
  refine own_st (fun _ k => XS.iloadN X0.here hx rfl (hb hby sa_d145) rfl (XS.iconst X0.here hx rfl (hb hby sa_d146) (XS.iadd X0.here hx rfl (hb hby sa_d147) rfl (XS.iloadN X0.here hx rfl (hb hby sa_d148) rfl k)))) ?_
  show own_Dn p e below s _ _ _ (T0.setTop (mkF m 149 #[.val (.ref b0), .val (.int (0 : Int32)), .val (.int p2), .val (.int v3), .val (.int (4 : Int32)), .val (.int v5), .val (.int v6), .unset, .unset] [(.int p2), (.int (1 : Int32))]))
  by_cases hc46 : (1 : Int32) < p2
  · refine own_st (fun _ k => XS.icmpYes X0.here hx rfl (pc0 := 149) (pc' := 154) rfl (hb hby sa_d149) rfl (tlt hc46).1 (by decide) (by decide) k) ?_
    show own_Dn p e below s _ _ _ (T0.setTop (mkF m 154 #[.val (.ref b0), .val (.int (0 : Int32)), .val (.int p2), .val (.int v3), .val (.int (4 : Int32)), .val (.int v5), .val (.int v6), .unset, .unset] []))
    refine own_st (fun _ k => XS.aloadN X0.here hx rfl (hb hby sa_d154) rfl rfl (XS.iloadN X0.here hx rfl (hb hby sa_d155) rfl (XS.iconst X0.here hx rfl (hb hby sa_d156) (XS.iadd X0.here hx rfl (hb hby sa_d157) rfl k)))) ?_
    show own_Dn p e below s _ _ _ (T0.setTop (mkF m 158 #[.val (.ref b0), .val (.int (0 : Int32)), .val (.int p2), .val (.int v3), .val (.int (4 : Int32)), .val (.int v5), .val (.int v6), .unset, .unset] [(.int (1 : Int32)), (.ref b0)]))
    refine own_st (own_ldB (pc := 158) (L := #[.val (.ref b0), .val (.int (0 : Int32)), .val (.int p2), .val (.int v3), .val (.int (4 : Int32)), .val (.int v5), .val (.int v6), .unset, .unset]) (rest := []) X0 hx hZ e0 P1 (j := (1 : Int32)) (by decide) (by decide) (hb hby sa_d158)) ?_
    show own_Dn p e below s _ _ _ (T0.setTop (mkF m 159 #[.val (.ref b0), .val (.int (0 : Int32)), .val (.int p2), .val (.int v3), .val (.int (4 : Int32)), .val (.int v5), .val (.int v6), .unset, .unset] [(.int (w_g ((1 : Int32)).toNatClampNeg))]))
    refine own_st (fun _ k => XS.sipush X0.here hx rfl (hb hby sa_d159) (XS.iand X0.here hx rfl (hb hby sa_d162) rfl (XS.istore X0.here hx rfl (hb hby sa_d163) rfl (l' := #[.val (.ref b0), .val (.int (0 : Int32)), .val (.int p2), .val (.int v3), .val (.int (4 : Int32)), .val (.int v5), .val (.int v6), .val (.int ((w_g ((1 : Int32)).toNatClampNeg) &&& (255 : Int32))), .unset]) rfl (XS.iload X0.here hx rfl (hb hby sa_d165) rfl (XS.iload X0.here hx rfl (hb hby sa_d167) rfl k))))) ?_
    show own_Dn p e below s _ _ _ (T0.setTop (mkF m 169 #[.val (.ref b0), .val (.int (0 : Int32)), .val (.int p2), .val (.int v3), .val (.int (4 : Int32)), .val (.int v5), .val (.int v6), .val (.int ((w_g ((1 : Int32)).toNatClampNeg) &&& (255 : Int32))), .unset] [(.int v5), (.int ((w_g ((1 : Int32)).toNatClampNeg) &&& (255 : Int32)))]))
    by_cases hc47 : ((w_g ((1 : Int32)).toNatClampNeg) &&& (255 : Int32)) < v5
    · refine own_st (fun _ k => XS.icmpYes X0.here hx rfl (pc0 := 169) (pc' := 179) rfl (hb hby sa_d169) rfl (tlt hc47).1 (by decide) (by decide) k) ?_
      show own_Dn p e below s _ _ _ (T0.setTop (mkF m 179 #[.val (.ref b0), .val (.int (0 : Int32)), .val (.int p2), .val (.int v3), .val (.int (4 : Int32)), .val (.int v5), .val (.int v6), .val (.int ((w_g ((1 : Int32)).toNatClampNeg) &&& (255 : Int32))), .unset] []))
      refine own_st (fun _ k => XS.iconst X0.here hx rfl (hb hby sa_d179) k) ?_
      show own_Dn p e below s _ _ _ (T0.setTop (mkF m 180 #[.val (.ref b0), .val (.int (0 : Int32)), .val (.int p2), .val (.int v3), .val (.int (4 : Int32)), .val (.int v5), .val (.int v6), .val (.int ((w_g ((1 : Int32)).toNatClampNeg) &&& (255 : Int32))), .unset] [(.int (-1 : Int32))]))
      exact own_retI X0 hx hret hlk (hb hby sa_d180) (by decide) (by decide) ⟨(by rw [hr0, sa_f145k4, if_pos hc46, if_pos hc47]), N0, e0⟩
    · refine own_st (fun _ k => XS.icmpNo X0.here hx rfl (hb hby sa_d169) rfl (flt hc47).1 k) ?_
      show own_Dn p e below s _ _ _ (T0.setTop (mkF m 172 #[.val (.ref b0), .val (.int (0 : Int32)), .val (.int p2), .val (.int v3), .val (.int (4 : Int32)), .val (.int v5), .val (.int v6), .val (.int ((w_g ((1 : Int32)).toNatClampNeg) &&& (255 : Int32))), .unset] []))
      refine own_st (fun _ k => XS.iload X0.here hx rfl (hb hby sa_d172) rfl (XS.iload X0.here hx rfl (hb hby sa_d174) rfl k)) ?_
      show own_Dn p e below s _ _ _ (T0.setTop (mkF m 176 #[.val (.ref b0), .val (.int (0 : Int32)), .val (.int p2), .val (.int v3), .val (.int (4 : Int32)), .val (.int v5), .val (.int v6), .val (.int ((w_g ((1 : Int32)).toNatClampNeg) &&& (255 : Int32))), .unset] [(.int v6), (.int ((w_g ((1 : Int32)).toNatClampNeg) &&& (255 : Int32)))]))
      by_cases hc48 : v6 < ((w_g ((1 : Int32)).toNatClampNeg) &&& (255 : Int32))
      · refine own_st (fun _ k => XS.icmpNo X0.here hx rfl (hb hby sa_d176) rfl (tlt hc48).2.2.2 k) ?_
        show own_Dn p e below s _ _ _ (T0.setTop (mkF m 179 #[.val (.ref b0), .val (.int (0 : Int32)), .val (.int p2), .val (.int v3), .val (.int (4 : Int32)), .val (.int v5), .val (.int v6), .val (.int ((w_g ((1 : Int32)).toNatClampNeg) &&& (255 : Int32))), .unset] []))
        refine own_st (fun _ k => XS.iconst X0.here hx rfl (hb hby sa_d179) k) ?_
        show own_Dn p e below s _ _ _ (T0.setTop (mkF m 180 #[.val (.ref b0), .val (.int (0 : Int32)), .val (.int p2), .val (.int v3), .val (.int (4 : Int32)), .val (.int v5), .val (.int v6), .val (.int ((w_g ((1 : Int32)).toNatClampNeg) &&& (255 : Int32))), .unset] [(.int (-1 : Int32))]))
        exact own_retI X0 hx hret hlk (hb hby sa_d180) (by decide) (by decide) ⟨(by rw [hr0, sa_f145k4, if_pos hc46, if_neg hc47, if_pos hc48]), N0, e0⟩
      · refine own_st (fun _ k => XS.icmpYes X0.here hx rfl (pc0 := 176) (pc' := 181) rfl (hb hby sa_d176) rfl (flt hc48).2.2.2 (by decide) (by decide) k) ?_
        show own_Dn p e below s _ _ _ (T0.setTop (mkF m 181 #[.val (.ref b0), .val (.int (0 : Int32)), .val (.int p2), .val (.int v3), .val (.int (4 : Int32)), .val (.int v5), .val (.int v6), .val (.int ((w_g ((1 : Int32)).toNatClampNeg) &&& (255 : Int32))), .unset] []))
        refine own_st (fun _ k => XS.iloadN X0.here hx rfl (hb hby sa_d181) rfl (XS.iconst X0.here hx rfl (hb hby sa_d182) (XS.iadd X0.here hx rfl (hb hby sa_d183) rfl (XS.istore X0.here hx rfl (hb hby sa_d184) rfl (l' := #[.val (.ref b0), .val (.int (0 : Int32)), .val (.int p2), .val (.int v3), .val (.int (4 : Int32)), .val (.int v5), .val (.int v6), .val (.int ((w_g ((1 : Int32)).toNatClampNeg) &&& (255 : Int32))), .val (.int (2 : Int32))]) rfl (XS.iload X0.here hx rfl (hb hby sa_d186) rfl (XS.iloadN X0.here hx rfl (hb hby sa_d188) rfl (XS.iload X0.here hx rfl (hb hby sa_d189) rfl (XS.iadd X0.here hx rfl (hb hby sa_d191) rfl k)))))))) ?_
        show own_Dn p e below s _ _ _ (T0.setTop (mkF m 192 #[.val (.ref b0), .val (.int (0 : Int32)), .val (.int p2), .val (.int v3), .val (.int (4 : Int32)), .val (.int v5), .val (.int v6), .val (.int ((w_g ((1 : Int32)).toNatClampNeg) &&& (255 : Int32))), .val (.int (2 : Int32))] [(.int (4 : Int32)), (.int (2 : Int32))]))
        refine own_st (fun _ k => XS.icmpNo X0.here hx rfl (hb hby sa_d192) rfl (tlt (by decide : (2 : Int32) < (4 : Int32))).2.1 k) ?_
        show own_Dn p e below s _ _ _ (T0.setTop (mkF m 195 #[.val (.ref b0), .val (.int (0 : Int32)), .val (.int p2), .val (.int v3), .val (.int (4 : Int32)), .val (.int v5), .val (.int v6), .val (.int ((w_g ((1 : Int32)).toNatClampNeg) &&& (255 : Int32))), .val (.int (2 : Int32))] []))
        refine own_st (fun _ k => XS.iload X0.here hx rfl (hb hby sa_d195) rfl (XS.iloadN X0.here hx rfl (hb hby sa_d197) rfl k)) ?_
        show own_Dn p e below s _ _ _ (T0.setTop (mkF m 198 #[.val (.ref b0), .val (.int (0 : Int32)), .val (.int p2), .val (.int v3), .val (.int (4 : Int32)), .val (.int v5), .val (.int v6), .val (.int ((w_g ((1 : Int32)).toNatClampNeg) &&& (255 : Int32))), .val (.int (2 : Int32))] [(.int p2), (.int (2 : Int32))]))
        by_cases hc49 : (2 : Int32) < p2
        · refine own_st (fun _ k => XS.icmpYes X0.here hx rfl (pc0 := 198) (pc' := 203) rfl (hb hby sa_d198) rfl (tlt hc49).1 (by decide) (by decide) k) ?_
          show own_Dn p e below s _ _ _ (T0.setTop (mkF m 203 #[.val (.ref b0), .val (.int (0 : Int32)), .val (.int p2), .val (.int v3), .val (.int (4 : Int32)), .val (.int v5), .val (.int v6), .val (.int ((w_g ((1 : Int32)).toNatClampNeg) &&& (255 : Int32))), .val (.int (2 : Int32))] []))
          refine own_st (fun _ k => XS.aloadN X0.here hx rfl (hb hby sa_d203) rfl rfl (XS.iload X0.here hx rfl (hb hby sa_d204) rfl k)) ?_
          show own_Dn p e below s _ _ _ (T0.setTop (mkF m 206 #[.val (.ref b0), .val (.int (0 : Int32)), .val (.int p2), .val (.int v3), .val (.int (4 : Int32)), .val (.int v5), .val (.int v6), .val (.int ((w_g ((1 : Int32)).toNatClampNeg) &&& (255 : Int32))), .val (.int (2 : Int32))] [(.int (2 : Int32)), (.ref b0)]))
          refine own_st (own_ldB (pc := 206) (L := #[.val (.ref b0), .val (.int (0 : Int32)), .val (.int p2), .val (.int v3), .val (.int (4 : Int32)), .val (.int v5), .val (.int v6), .val (.int ((w_g ((1 : Int32)).toNatClampNeg) &&& (255 : Int32))), .val (.int (2 : Int32))]) (rest := []) X0 hx hZ e0 P1 (j := (2 : Int32)) (by decide) (by decide) (hb hby sa_d206)) ?_
          show own_Dn p e below s _ _ _ (T0.setTop (mkF m 207 #[.val (.ref b0), .val (.int (0 : Int32)), .val (.int p2), .val (.int v3), .val (.int (4 : Int32)), .val (.int v5), .val (.int v6), .val (.int ((w_g ((1 : Int32)).toNatClampNeg) &&& (255 : Int32))), .val (.int (2 : Int32))] [(.int (w_g ((2 : Int32)).toNatClampNeg))]))
          refine own_st (fun _ k => XS.sipush X0.here hx rfl (hb hby sa_d207) (XS.iand X0.here hx rfl (hb hby sa_d210) rfl (XS.sipush X0.here hx rfl (hb hby sa_d211) k))) ?_
          show own_Dn p e below s _ _ _ (T0.setTop (mkF m 214 #[.val (.ref b0), .val (.int (0 : Int32)), .val (.int p2), .val (.int v3), .val (.int (4 : Int32)), .val (.int v5), .val (.int v6), .val (.int ((w_g ((1 : Int32)).toNatClampNeg) &&& (255 : Int32))), .val (.int (2 : Int32))] [(.int (128 : Int32)), (.int ((w_g ((2 : Int32)).toNatClampNeg) &&& (192 : Int32)))]))
          by_cases hc50 : ((w_g ((2 : Int32)).toNatClampNeg) &&& (192 : Int32)) = (128 : Int32)
          · refine own_st (fun _ k => XS.icmpYes X0.here hx rfl (pc0 := 214) (pc' := 219) rfl (hb hby sa_d214) rfl (teq hc50).1 (by decide) (by decide) k) ?_
            show own_Dn p e below s _ _ _ (T0.setTop (mkF m 219 #[.val (.ref b0), .val (.int (0 : Int32)), .val (.int p2), .val (.int v3), .val (.int (4 : Int32)), .val (.int v5), .val (.int v6), .val (.int ((w_g ((1 : Int32)).toNatClampNeg) &&& (255 : Int32))), .val (.int (2 : Int32))] []))
            refine own_st (fun _ k => XS.iinc X0.here hx rfl (hb hby sa_d219) rfl (l' := #[.val (.ref b0), .val (.int (0 : Int32)), .val (.int p2), .val (.int v3), .val (.int (4 : Int32)), .val (.int v5), .val (.int v6), .val (.int ((w_g ((1 : Int32)).toNatClampNeg) &&& (255 : Int32))), .val (.int (3 : Int32))]) rfl (XS.goto X0.here hx rfl (pc0 := 222) (pc' := 186) rfl (hb hby sa_d222) (by decide) (by decide) (XS.iload X0.here hx rfl (hb hby sa_d186) rfl (XS.iloadN X0.here hx rfl (hb hby sa_d188) rfl (XS.iload X0.here hx rfl (hb hby sa_d189) rfl (XS.iadd X0.here hx rfl (hb hby sa_d191) rfl k)))))) ?_
            show own_Dn p e below s _ _ _ (T0.setTop (mkF m 192 #[.val (.ref b0), .val (.int (0 : Int32)), .val (.int p2), .val (.int v3), .val (.int (4 : Int32)), .val (.int v5), .val (.int v6), .val (.int ((w_g ((1 : Int32)).toNatClampNeg) &&& (255 : Int32))), .val (.int (3 : Int32))] [(.int (4 : Int32)), (.int (3 : Int32))]))
            refine own_st (fun _ k => XS.icmpNo X0.here hx rfl (hb hby sa_d192) rfl (tlt (by decide : (3 : Int32) < (4 : Int32))).2.1 k) ?_
            show own_Dn p e below s _ _ _ (T0.setTop (mkF m 195 #[.val (.ref b0), .val (.int (0 : Int32)), .val (.int p2), .val (.int v3), .val (.int (4 : Int32)), .val (.int v5), .val (.int v6), .val (.int ((w_g ((1 : Int32)).toNatClampNeg) &&& (255 : Int32))), .val (.int (3 : Int32))] []))
            refine own_st (fun _ k => XS.iload X0.here hx rfl (hb hby sa_d195) rfl (XS.iloadN X0.here hx rfl (hb hby sa_d197) rfl k)) ?_
            show own_Dn p e below s _ _ _ (T0.setTop (mkF m 198 #[.val (.ref b0), .val (.int (0 : Int32)), .val (.int p2), .val (.int v3), .val (.int (4 : Int32)), .val (.int v5), .val (.int v6), .val (.int ((w_g ((1 : Int32)).toNatClampNeg) &&& (255 : Int32))), .val (.int (3 : Int32))] [(.int p2), (.int (3 : Int32))]))
            by_cases hc51 : (3 : Int32) < p2
            · refine own_st (fun _ k => XS.icmpYes X0.here hx rfl (pc0 := 198) (pc' := 203) rfl (hb hby sa_d198) rfl (tlt hc51).1 (by decide) (by decide) k) ?_
              show own_Dn p e below s _ _ _ (T0.setTop (mkF m 203 #[.val (.ref b0), .val (.int (0 : Int32)), .val (.int p2), .val (.int v3), .val (.int (4 : Int32)), .val (.int v5), .val (.int v6), .val (.int ((w_g ((1 : Int32)).toNatClampNeg) &&& (255 : Int32))), .val (.int (3 : Int32))] []))
              refine own_st (fun _ k => XS.aloadN X0.here hx rfl (hb hby sa_d203) rfl rfl (XS.iload X0.here hx rfl (hb hby sa_d204) rfl k)) ?_
              show own_Dn p e below s _ _ _ (T0.setTop (mkF m 206 #[.val (.ref b0), .val (.int (0 : Int32)), .val (.int p2), .val (.int v3), .val (.int (4 : Int32)), .val (.int v5), .val (.int v6), .val (.int ((w_g ((1 : Int32)).toNatClampNeg) &&& (255 : Int32))), .val (.int (3 : Int32))] [(.int (3 : Int32)), (.ref b0)]))
              refine own_st (own_ldB (pc := 206) (L := #[.val (.ref b0), .val (.int (0 : Int32)), .val (.int p2), .val (.int v3), .val (.int (4 : Int32)), .val (.int v5), .val (.int v6), .val (.int ((w_g ((1 : Int32)).toNatClampNeg) &&& (255 : Int32))), .val (.int (3 : Int32))]) (rest := []) X0 hx hZ e0 P1 (j := (3 : Int32)) (by decide) (by decide) (hb hby sa_d206)) ?_
              show own_Dn p e below s _ _ _ (T0.setTop (mkF m 207 #[.val (.ref b0), .val (.int (0 : Int32)), .val (.int p2), .val (.int v3), .val (.int (4 : Int32)), .val (.int v5), .val (.int v6), .val (.int ((w_g ((1 : Int32)).toNatClampNeg) &&& (255 : Int32))), .val (.int (3 : Int32))] [(.int (w_g ((3 : Int32)).toNatClampNeg))]))
              refine own_st (fun _ k => XS.sipush X0.here hx rfl (hb hby sa_d207) (XS.iand X0.here hx rfl (hb hby sa_d210) rfl (XS.sipush X0.here hx rfl (hb hby sa_d211) k))) ?_
              show own_Dn p e below s _ _ _ (T0.setTop (mkF m 214 #[.val (.ref b0), .val (.int (0 : Int32)), .val (.int p2), .val (.int v3), .val (.int (4 : Int32)), .val (.int v5), .val (.int v6), .val (.int ((w_g ((1 : Int32)).toNatClampNeg) &&& (255 : Int32))), .val (.int (3 : Int32))] [(.int (128 : Int32)), (.int ((w_g ((3 : Int32)).toNatClampNeg) &&& (192 : Int32)))]))
              by_cases hc52 : ((w_g ((3 : Int32)).toNatClampNeg) &&& (192 : Int32)) = (128 : Int32)
              · refine own_st (fun _ k => XS.icmpYes X0.here hx rfl (pc0 := 214) (pc' := 219) rfl (hb hby sa_d214) rfl (teq hc52).1 (by decide) (by decide) k) ?_
                show own_Dn p e below s _ _ _ (T0.setTop (mkF m 219 #[.val (.ref b0), .val (.int (0 : Int32)), .val (.int p2), .val (.int v3), .val (.int (4 : Int32)), .val (.int v5), .val (.int v6), .val (.int ((w_g ((1 : Int32)).toNatClampNeg) &&& (255 : Int32))), .val (.int (3 : Int32))] []))
                refine own_st (fun _ k => XS.iinc X0.here hx rfl (hb hby sa_d219) rfl (l' := #[.val (.ref b0), .val (.int (0 : Int32)), .val (.int p2), .val (.int v3), .val (.int (4 : Int32)), .val (.int v5), .val (.int v6), .val (.int ((w_g ((1 : Int32)).toNatClampNeg) &&& (255 : Int32))), .val (.int (4 : Int32))]) rfl (XS.goto X0.here hx rfl (pc0 := 222) (pc' := 186) rfl (hb hby sa_d222) (by decide) (by decide) (XS.iload X0.here hx rfl (hb hby sa_d186) rfl (XS.iloadN X0.here hx rfl (hb hby sa_d188) rfl (XS.iload X0.here hx rfl (hb hby sa_d189) rfl (XS.iadd X0.here hx rfl (hb hby sa_d191) rfl k)))))) ?_
                show own_Dn p e below s _ _ _ (T0.setTop (mkF m 192 #[.val (.ref b0), .val (.int (0 : Int32)), .val (.int p2), .val (.int v3), .val (.int (4 : Int32)), .val (.int v5), .val (.int v6), .val (.int ((w_g ((1 : Int32)).toNatClampNeg) &&& (255 : Int32))), .val (.int (4 : Int32))] [(.int (4 : Int32)), (.int (4 : Int32))]))
                refine own_st (fun _ k => XS.icmpYes X0.here hx rfl (pc0 := 192) (pc' := 225) rfl (hb hby sa_d192) rfl (flt (by decide : ¬ ((4 : Int32) < (4 : Int32)))).2.1 (by decide) (by decide) k) ?_
                show own_Dn p e below s _ _ _ (T0.setTop (mkF m 225 #[.val (.ref b0), .val (.int (0 : Int32)), .val (.int p2), .val (.int v3), .val (.int (4 : Int32)), .val (.int v5), .val (.int v6), .val (.int ((w_g ((1 : Int32)).toNatClampNeg) &&& (255 : Int32))), .val (.int (4 : Int32))] []))
                refine own_st (fun _ k => XS.iload X0.here hx rfl (hb hby sa_d225) rfl k) ?_
                show own_Dn p e below s _ _ _ (T0.setTop (mkF m 227 #[.val (.ref b0), .val (.int (0 : Int32)), .val (.int p2), .val (.int v3), .val (.int (4 : Int32)), .val (.int v5), .val (.int v6), .val (.int ((w_g ((1 : Int32)).toNatClampNeg) &&& (255 : Int32))), .val (.int (4 : Int32))] [(.int (4 : Int32))]))
                exact own_retI X0 hx hret hlk (hb hby sa_d227) (by decide) (by decide) ⟨(by rw [hr0, sa_f145k4, if_pos hc46, if_neg hc47, if_neg hc48, if_pos hc49, if_pos hc50, if_pos hc51, if_pos hc52]), N0, e0⟩
              · refine own_st (fun _ k => XS.icmpNo X0.here hx rfl (hb hby sa_d214) rfl (feq hc52).1 k) ?_
                show own_Dn p e below s _ _ _ (T0.setTop (mkF m 217 #[.val (.ref b0), .val (.int (0 : Int32)), .val (.int p2), .val (.int v3), .val (.int (4 : Int32)), .val (.int v5), .val (.int v6), .val (.int ((w_g ((1 : Int32)).toNatClampNeg) &&& (255 : Int32))), .val (.int (3 : Int32))] []))
                refine own_st (fun _ k => XS.iconst X0.here hx rfl (hb hby sa_d217) k) ?_
                show own_Dn p e below s _ _ _ (T0.setTop (mkF m 218 #[.val (.ref b0), .val (.int (0 : Int32)), .val (.int p2), .val (.int v3), .val (.int (4 : Int32)), .val (.int v5), .val (.int v6), .val (.int ((w_g ((1 : Int32)).toNatClampNeg) &&& (255 : Int32))), .val (.int (3 : Int32))] [(.int (-1 : Int32))]))
                exact own_retI X0 hx hret hlk (hb hby sa_d218) (by decide) (by decide) ⟨(by rw [hr0, sa_f145k4, if_pos hc46, if_neg hc47, if_neg hc48, if_pos hc49, if_pos hc50, if_pos hc51, if_neg hc52]), N0, e0⟩
            · refine own_st (fun _ k => XS.icmpNo X0.here hx rfl (hb hby sa_d198) rfl (flt hc51).1 k) ?_
              show own_Dn p e below s _ _ _ (T0.setTop (mkF m 201 #[.val (.ref b0), .val (.int (0 : Int32)), .val (.int p2), .val (.int v3), .val (.int (4 : Int32)), .val (.int v5), .val (.int v6), .val (.int ((w_g ((1 : Int32)).toNatClampNeg) &&& (255 : Int32))), .val (.int (3 : Int32))] []))
              refine own_st (fun _ k => XS.iconst X0.here hx rfl (hb hby sa_d201) k) ?_
              show own_Dn p e below s _ _ _ (T0.setTop (mkF m 202 #[.val (.ref b0), .val (.int (0 : Int32)), .val (.int p2), .val (.int v3), .val (.int (4 : Int32)), .val (.int v5), .val (.int v6), .val (.int ((w_g ((1 : Int32)).toNatClampNeg) &&& (255 : Int32))), .val (.int (3 : Int32))] [(.int (0 : Int32))]))
              exact own_retI X0 hx hret hlk (hb hby sa_d202) (by decide) (by decide) ⟨(by rw [hr0, sa_f145k4, if_pos hc46, if_neg hc47, if_neg hc48, if_pos hc49, if_pos hc50, if_neg hc51]), N0, e0⟩
          · refine own_st (fun _ k => XS.icmpNo X0.here hx rfl (hb hby sa_d214) rfl (feq hc50).1 k) ?_
            show own_Dn p e below s _ _ _ (T0.setTop (mkF m 217 #[.val (.ref b0), .val (.int (0 : Int32)), .val (.int p2), .val (.int v3), .val (.int (4 : Int32)), .val (.int v5), .val (.int v6), .val (.int ((w_g ((1 : Int32)).toNatClampNeg) &&& (255 : Int32))), .val (.int (2 : Int32))] []))
            refine own_st (fun _ k => XS.iconst X0.here hx rfl (hb hby sa_d217) k) ?_
            show own_Dn p e below s _ _ _ (T0.setTop (mkF m 218 #[.val (.ref b0), .val (.int (0 : Int32)), .val (.int p2), .val (.int v3), .val (.int (4 : Int32)), .val (.int v5), .val (.int v6), .val (.int ((w_g ((1 : Int32)).toNatClampNeg) &&& (255 : Int32))), .val (.int (2 : Int32))] [(.int (-1 : Int32))]))
            exact own_retI X0 hx hret hlk (hb hby sa_d218) (by decide) (by decide) ⟨(by rw [hr0, sa_f145k4, if_pos hc46, if_neg hc47, if_neg hc48, if_pos hc49, if_neg hc50]), N0, e0⟩
        · refine own_st (fun _ k => XS.icmpNo X0.here hx rfl (hb hby sa_d198) rfl (flt hc49).1 k) ?_
          show own_Dn p e below s _ _ _ (T0.setTop (mkF m 201 #[.val (.ref b0), .val (.int (0 : Int32)), .val (.int p2), .val (.int v3), .val (.int (4 : Int32)), .val (.int v5), .val (.int v6), .val (.int ((w_g ((1 : Int32)).toNatClampNeg) &&& (255 : Int32))), .val (.int (2 : Int32))] []))
          refine own_st (fun _ k => XS.iconst X0.here hx rfl (hb hby sa_d201) k) ?_
          show own_Dn p e below s _ _ _ (T0.setTop (mkF m 202 #[.val (.ref b0), .val (.int (0 : Int32)), .val (.int p2), .val (.int v3), .val (.int (4 : Int32)), .val (.int v5), .val (.int v6), .val (.int ((w_g ((1 : Int32)).toNatClampNeg) &&& (255 : Int32))), .val (.int (2 : Int32))] [(.int (0 : Int32))]))
          exact own_retI X0 hx hret hlk (hb hby sa_d202) (by decide) (by decide) ⟨(by rw [hr0, sa_f145k4, if_pos hc46, if_neg hc47, if_neg hc48, if_neg hc49]), N0, e0⟩
  · refine own_st (fun _ k => XS.icmpNo X0.here hx rfl (hb hby sa_d149) rfl (flt hc46).1 k) ?_
    show own_Dn p e below s _ _ _ (T0.setTop (mkF m 152 #[.val (.ref b0), .val (.int (0 : Int32)), .val (.int p2), .val (.int v3), .val (.int (4 : Int32)), .val (.int v5), .val (.int v6), .unset, .unset] []))
    refine own_st (fun _ k => XS.iconst X0.here hx rfl (hb hby sa_d152) k) ?_
    show own_Dn p e below s _ _ _ (T0.setTop (mkF m 153 #[.val (.ref b0), .val (.int (0 : Int32)), .val (.int p2), .val (.int v3), .val (.int (4 : Int32)), .val (.int v5), .val (.int v6), .unset, .unset] [(.int (0 : Int32))]))
    exact own_retI X0 hx hret hlk (hb hby sa_d153) (by decide) (by decide) ⟨(by rw [hr0, sa_f145k4, if_neg hc46]), N0, e0⟩
def sa_f145k3 (p2 : Int32) (w_g : Nat → Int32) (v3 : Int32) (v5 : Int32) (v6 : Int32) : Int32 :=
  if (1 : Int32) < p2 then
    if ((w_g ((1 : Int32)).toNatClampNeg) &&& (255 : Int32)) < v5 then
      (-1 : Int32)
    else
      if v6 < ((w_g ((1 : Int32)).toNatClampNeg) &&& (255 : Int32)) then
        (-1 : Int32)
      else
        if (2 : Int32) < p2 then
          if ((w_g ((2 : Int32)).toNatClampNeg) &&& (192 : Int32)) = (128 : Int32) then
            (3 : Int32)
          else
            (-1 : Int32)
        else
          (0 : Int32)
  else
    (0 : Int32)
set_option maxRecDepth 65536 in
set_option maxHeartbeats 40000000 in
theorem sa_c145k3 {l : Launch} {Z : State} {a0 : Array Value} {b0 : Addr} {p2 : Int32} {w_g : Nat → Int32} {h0 : Heap} {n0 : Nat} {p : Program} {e : Env} {s : State} {m : MethodId} {args : Array Value} {below : List Frame} {meth : Method} {c : Code} {T0 : State} {locs : List Loc} {r0 : Int32} (C0 : own_Cx p s m meth c Z a0 prog_31_method_2_code 9 "com/example/xylograph/xylograph/io/Utf8" "sequenceLength" (some .int)) (X0 : Stand p l e ({ frames := 0, cells := 0, slots := 0, locals := 0 } : Room) s m args below meth c T0 locs 0 0) (e0 : T0.heap = h0) (N0 : Fr n0 locs) (v3 : Int32) (v5 : Int32) (v6 : Int32) (Z0 : n0 ≤ h0.size) (P1 : own_Arf Z h0 b0 .byte 6 (fun i => (.int (w_g i)))) (hr0 : r0 = sa_f145k3 p2 w_g v3 v5 v6) :
    own_Dn p e below s (own_Q (some (.int r0)) n0 h0) ({ frames := 0, cells := 0, slots := 0, locals := 0 } : Room).cells ({ frames := 0, cells := 0, slots := 0, locals := 0 } : Room).slots (T0.setTop (mkF m 145 #[.val (.ref b0), .val (.int (0 : Int32)), .val (.int p2), .val (.int v3), .val (.int (3 : Int32)), .val (.int v5), .val (.int v6), .unset, .unset] [])) := by
  obtain ⟨hx, hZ, hw, hby, hml, hown, hret, hlk, hnm⟩ := id C0
  refine own_st (fun _ k => XS.iloadN X0.here hx rfl (hb hby sa_d145) rfl (XS.iconst X0.here hx rfl (hb hby sa_d146) (XS.iadd X0.here hx rfl (hb hby sa_d147) rfl (XS.iloadN X0.here hx rfl (hb hby sa_d148) rfl k)))) ?_
  show own_Dn p e below s _ _ _ (T0.setTop (mkF m 149 #[.val (.ref b0), .val (.int (0 : Int32)), .val (.int p2), .val (.int v3), .val (.int (3 : Int32)), .val (.int v5), .val (.int v6), .unset, .unset] [(.int p2), (.int (1 : Int32))]))
  by_cases hc41 : (1 : Int32) < p2
  · refine own_st (fun _ k => XS.icmpYes X0.here hx rfl (pc0 := 149) (pc' := 154) rfl (hb hby sa_d149) rfl (tlt hc41).1 (by decide) (by decide) k) ?_
    show own_Dn p e below s _ _ _ (T0.setTop (mkF m 154 #[.val (.ref b0), .val (.int (0 : Int32)), .val (.int p2), .val (.int v3), .val (.int (3 : Int32)), .val (.int v5), .val (.int v6), .unset, .unset] []))
    refine own_st (fun _ k => XS.aloadN X0.here hx rfl (hb hby sa_d154) rfl rfl (XS.iloadN X0.here hx rfl (hb hby sa_d155) rfl (XS.iconst X0.here hx rfl (hb hby sa_d156) (XS.iadd X0.here hx rfl (hb hby sa_d157) rfl k)))) ?_
    show own_Dn p e below s _ _ _ (T0.setTop (mkF m 158 #[.val (.ref b0), .val (.int (0 : Int32)), .val (.int p2), .val (.int v3), .val (.int (3 : Int32)), .val (.int v5), .val (.int v6), .unset, .unset] [(.int (1 : Int32)), (.ref b0)]))
    refine own_st (own_ldB (pc := 158) (L := #[.val (.ref b0), .val (.int (0 : Int32)), .val (.int p2), .val (.int v3), .val (.int (3 : Int32)), .val (.int v5), .val (.int v6), .unset, .unset]) (rest := []) X0 hx hZ e0 P1 (j := (1 : Int32)) (by decide) (by decide) (hb hby sa_d158)) ?_
    show own_Dn p e below s _ _ _ (T0.setTop (mkF m 159 #[.val (.ref b0), .val (.int (0 : Int32)), .val (.int p2), .val (.int v3), .val (.int (3 : Int32)), .val (.int v5), .val (.int v6), .unset, .unset] [(.int (w_g ((1 : Int32)).toNatClampNeg))]))
    refine own_st (fun _ k => XS.sipush X0.here hx rfl (hb hby sa_d159) (XS.iand X0.here hx rfl (hb hby sa_d162) rfl (XS.istore X0.here hx rfl (hb hby sa_d163) rfl (l' := #[.val (.ref b0), .val (.int (0 : Int32)), .val (.int p2), .val (.int v3), .val (.int (3 : Int32)), .val (.int v5), .val (.int v6), .val (.int ((w_g ((1 : Int32)).toNatClampNeg) &&& (255 : Int32))), .unset]) rfl (XS.iload X0.here hx rfl (hb hby sa_d165) rfl (XS.iload X0.here hx rfl (hb hby sa_d167) rfl k))))) ?_
    show own_Dn p e below s _ _ _ (T0.setTop (mkF m 169 #[.val (.ref b0), .val (.int (0 : Int32)), .val (.int p2), .val (.int v3), .val (.int (3 : Int32)), .val (.int v5), .val (.int v6), .val (.int ((w_g ((1 : Int32)).toNatClampNeg) &&& (255 : Int32))), .unset] [(.int v5), (.int ((w_g ((1 : Int32)).toNatClampNeg) &&& (255 : Int32)))]))
    by_cases hc42 : ((w_g ((1 : Int32)).toNatClampNeg) &&& (255 : Int32)) < v5
    · refine own_st (fun _ k => XS.icmpYes X0.here hx rfl (pc0 := 169) (pc' := 179) rfl (hb hby sa_d169) rfl (tlt hc42).1 (by decide) (by decide) k) ?_
      show own_Dn p e below s _ _ _ (T0.setTop (mkF m 179 #[.val (.ref b0), .val (.int (0 : Int32)), .val (.int p2), .val (.int v3), .val (.int (3 : Int32)), .val (.int v5), .val (.int v6), .val (.int ((w_g ((1 : Int32)).toNatClampNeg) &&& (255 : Int32))), .unset] []))
      refine own_st (fun _ k => XS.iconst X0.here hx rfl (hb hby sa_d179) k) ?_
      show own_Dn p e below s _ _ _ (T0.setTop (mkF m 180 #[.val (.ref b0), .val (.int (0 : Int32)), .val (.int p2), .val (.int v3), .val (.int (3 : Int32)), .val (.int v5), .val (.int v6), .val (.int ((w_g ((1 : Int32)).toNatClampNeg) &&& (255 : Int32))), .unset] [(.int (-1 : Int32))]))
      exact own_retI X0 hx hret hlk (hb hby sa_d180) (by decide) (by decide) ⟨(by rw [hr0, sa_f145k3, if_pos hc41, if_pos hc42]), N0, e0⟩
    · refine own_st (fun _ k => XS.icmpNo X0.here hx rfl (hb hby sa_d169) rfl (flt hc42).1 k) ?_
      show own_Dn p e below s _ _ _ (T0.setTop (mkF m 172 #[.val (.ref b0), .val (.int (0 : Int32)), .val (.int p2), .val (.int v3), .val (.int (3 : Int32)), .val (.int v5), .val (.int v6), .val (.int ((w_g ((1 : Int32)).toNatClampNeg) &&& (255 : Int32))), .unset] []))
      refine own_st (fun _ k => XS.iload X0.here hx rfl (hb hby sa_d172) rfl (XS.iload X0.here hx rfl (hb hby sa_d174) rfl k)) ?_
      show own_Dn p e below s _ _ _ (T0.setTop (mkF m 176 #[.val (.ref b0), .val (.int (0 : Int32)), .val (.int p2), .val (.int v3), .val (.int (3 : Int32)), .val (.int v5), .val (.int v6), .val (.int ((w_g ((1 : Int32)).toNatClampNeg) &&& (255 : Int32))), .unset] [(.int v6), (.int ((w_g ((1 : Int32)).toNatClampNeg) &&& (255 : Int32)))]))
      by_cases hc43 : v6 < ((w_g ((1 : Int32)).toNatClampNeg) &&& (255 : Int32))
      · refine own_st (fun _ k => XS.icmpNo X0.here hx rfl (hb hby sa_d176) rfl (tlt hc43).2.2.2 k) ?_
        show own_Dn p e below s _ _ _ (T0.setTop (mkF m 179 #[.val (.ref b0), .val (.int (0 : Int32)), .val (.int p2), .val (.int v3), .val (.int (3 : Int32)), .val (.int v5), .val (.int v6), .val (.int ((w_g ((1 : Int32)).toNatClampNeg) &&& (255 : Int32))), .unset] []))
        refine own_st (fun _ k => XS.iconst X0.here hx rfl (hb hby sa_d179) k) ?_
        show own_Dn p e below s _ _ _ (T0.setTop (mkF m 180 #[.val (.ref b0), .val (.int (0 : Int32)), .val (.int p2), .val (.int v3), .val (.int (3 : Int32)), .val (.int v5), .val (.int v6), .val (.int ((w_g ((1 : Int32)).toNatClampNeg) &&& (255 : Int32))), .unset] [(.int (-1 : Int32))]))
        exact own_retI X0 hx hret hlk (hb hby sa_d180) (by decide) (by decide) ⟨(by rw [hr0, sa_f145k3, if_pos hc41, if_neg hc42, if_pos hc43]), N0, e0⟩
      · refine own_st (fun _ k => XS.icmpYes X0.here hx rfl (pc0 := 176) (pc' := 181) rfl (hb hby sa_d176) rfl (flt hc43).2.2.2 (by decide) (by decide) k) ?_
        show own_Dn p e below s _ _ _ (T0.setTop (mkF m 181 #[.val (.ref b0), .val (.int (0 : Int32)), .val (.int p2), .val (.int v3), .val (.int (3 : Int32)), .val (.int v5), .val (.int v6), .val (.int ((w_g ((1 : Int32)).toNatClampNeg) &&& (255 : Int32))), .unset] []))
        refine own_st (fun _ k => XS.iloadN X0.here hx rfl (hb hby sa_d181) rfl (XS.iconst X0.here hx rfl (hb hby sa_d182) (XS.iadd X0.here hx rfl (hb hby sa_d183) rfl (XS.istore X0.here hx rfl (hb hby sa_d184) rfl (l' := #[.val (.ref b0), .val (.int (0 : Int32)), .val (.int p2), .val (.int v3), .val (.int (3 : Int32)), .val (.int v5), .val (.int v6), .val (.int ((w_g ((1 : Int32)).toNatClampNeg) &&& (255 : Int32))), .val (.int (2 : Int32))]) rfl (XS.iload X0.here hx rfl (hb hby sa_d186) rfl (XS.iloadN X0.here hx rfl (hb hby sa_d188) rfl (XS.iload X0.here hx rfl (hb hby sa_d189) rfl (XS.iadd X0.here hx rfl (hb hby sa_d191) rfl k)))))))) ?_
        show own_Dn p e below s _ _ _ (T0.setTop (mkF m 192 #[.val (.ref b0), .val (.int (0 : Int32)), .val (.int p2), .val (.int v3), .val (.int (3 : Int32)), .val (.int v5), .val (.int v6), .val (.int ((w_g ((1 : Int32)).toNatClampNeg) &&& (255 : Int32))), .val (.int (2 : Int32))] [(.int (3 : Int32)), (.int (2 : Int32))]))
        refine own_st (fun _ k => XS.icmpNo X0.here hx rfl (hb hby sa_d192) rfl (tlt (by decide : (2 : Int32) < (3 : Int32))).2.1 k) ?_
        show own_Dn p e below s _ _ _ (T0.setTop (mkF m 195 #[.val (.ref b0), .val (.int (0 : Int32)), .val (.int p2), .val (.int v3), .val (.int (3 : Int32)), .val (.int v5), .val (.int v6), .val (.int ((w_g ((1 : Int32)).toNatClampNeg) &&& (255 : Int32))), .val (.int (2 : Int32))] []))
        refine own_st (fun _ k => XS.iload X0.here hx rfl (hb hby sa_d195) rfl (XS.iloadN X0.here hx rfl (hb hby sa_d197) rfl k)) ?_
        show own_Dn p e below s _ _ _ (T0.setTop (mkF m 198 #[.val (.ref b0), .val (.int (0 : Int32)), .val (.int p2), .val (.int v3), .val (.int (3 : Int32)), .val (.int v5), .val (.int v6), .val (.int ((w_g ((1 : Int32)).toNatClampNeg) &&& (255 : Int32))), .val (.int (2 : Int32))] [(.int p2), (.int (2 : Int32))]))
        by_cases hc44 : (2 : Int32) < p2
        · refine own_st (fun _ k => XS.icmpYes X0.here hx rfl (pc0 := 198) (pc' := 203) rfl (hb hby sa_d198) rfl (tlt hc44).1 (by decide) (by decide) k) ?_
          show own_Dn p e below s _ _ _ (T0.setTop (mkF m 203 #[.val (.ref b0), .val (.int (0 : Int32)), .val (.int p2), .val (.int v3), .val (.int (3 : Int32)), .val (.int v5), .val (.int v6), .val (.int ((w_g ((1 : Int32)).toNatClampNeg) &&& (255 : Int32))), .val (.int (2 : Int32))] []))
          refine own_st (fun _ k => XS.aloadN X0.here hx rfl (hb hby sa_d203) rfl rfl (XS.iload X0.here hx rfl (hb hby sa_d204) rfl k)) ?_
          show own_Dn p e below s _ _ _ (T0.setTop (mkF m 206 #[.val (.ref b0), .val (.int (0 : Int32)), .val (.int p2), .val (.int v3), .val (.int (3 : Int32)), .val (.int v5), .val (.int v6), .val (.int ((w_g ((1 : Int32)).toNatClampNeg) &&& (255 : Int32))), .val (.int (2 : Int32))] [(.int (2 : Int32)), (.ref b0)]))
          refine own_st (own_ldB (pc := 206) (L := #[.val (.ref b0), .val (.int (0 : Int32)), .val (.int p2), .val (.int v3), .val (.int (3 : Int32)), .val (.int v5), .val (.int v6), .val (.int ((w_g ((1 : Int32)).toNatClampNeg) &&& (255 : Int32))), .val (.int (2 : Int32))]) (rest := []) X0 hx hZ e0 P1 (j := (2 : Int32)) (by decide) (by decide) (hb hby sa_d206)) ?_
          show own_Dn p e below s _ _ _ (T0.setTop (mkF m 207 #[.val (.ref b0), .val (.int (0 : Int32)), .val (.int p2), .val (.int v3), .val (.int (3 : Int32)), .val (.int v5), .val (.int v6), .val (.int ((w_g ((1 : Int32)).toNatClampNeg) &&& (255 : Int32))), .val (.int (2 : Int32))] [(.int (w_g ((2 : Int32)).toNatClampNeg))]))
          refine own_st (fun _ k => XS.sipush X0.here hx rfl (hb hby sa_d207) (XS.iand X0.here hx rfl (hb hby sa_d210) rfl (XS.sipush X0.here hx rfl (hb hby sa_d211) k))) ?_
          show own_Dn p e below s _ _ _ (T0.setTop (mkF m 214 #[.val (.ref b0), .val (.int (0 : Int32)), .val (.int p2), .val (.int v3), .val (.int (3 : Int32)), .val (.int v5), .val (.int v6), .val (.int ((w_g ((1 : Int32)).toNatClampNeg) &&& (255 : Int32))), .val (.int (2 : Int32))] [(.int (128 : Int32)), (.int ((w_g ((2 : Int32)).toNatClampNeg) &&& (192 : Int32)))]))
          by_cases hc45 : ((w_g ((2 : Int32)).toNatClampNeg) &&& (192 : Int32)) = (128 : Int32)
          · refine own_st (fun _ k => XS.icmpYes X0.here hx rfl (pc0 := 214) (pc' := 219) rfl (hb hby sa_d214) rfl (teq hc45).1 (by decide) (by decide) k) ?_
            show own_Dn p e below s _ _ _ (T0.setTop (mkF m 219 #[.val (.ref b0), .val (.int (0 : Int32)), .val (.int p2), .val (.int v3), .val (.int (3 : Int32)), .val (.int v5), .val (.int v6), .val (.int ((w_g ((1 : Int32)).toNatClampNeg) &&& (255 : Int32))), .val (.int (2 : Int32))] []))
            refine own_st (fun _ k => XS.iinc X0.here hx rfl (hb hby sa_d219) rfl (l' := #[.val (.ref b0), .val (.int (0 : Int32)), .val (.int p2), .val (.int v3), .val (.int (3 : Int32)), .val (.int v5), .val (.int v6), .val (.int ((w_g ((1 : Int32)).toNatClampNeg) &&& (255 : Int32))), .val (.int (3 : Int32))]) rfl (XS.goto X0.here hx rfl (pc0 := 222) (pc' := 186) rfl (hb hby sa_d222) (by decide) (by decide) (XS.iload X0.here hx rfl (hb hby sa_d186) rfl (XS.iloadN X0.here hx rfl (hb hby sa_d188) rfl (XS.iload X0.here hx rfl (hb hby sa_d189) rfl (XS.iadd X0.here hx rfl (hb hby sa_d191) rfl k)))))) ?_
            show own_Dn p e below s _ _ _ (T0.setTop (mkF m 192 #[.val (.ref b0), .val (.int (0 : Int32)), .val (.int p2), .val (.int v3), .val (.int (3 : Int32)), .val (.int v5), .val (.int v6), .val (.int ((w_g ((1 : Int32)).toNatClampNeg) &&& (255 : Int32))), .val (.int (3 : Int32))] [(.int (3 : Int32)), (.int (3 : Int32))]))
            refine own_st (fun _ k => XS.icmpYes X0.here hx rfl (pc0 := 192) (pc' := 225) rfl (hb hby sa_d192) rfl (flt (by decide : ¬ ((3 : Int32) < (3 : Int32)))).2.1 (by decide) (by decide) k) ?_
            show own_Dn p e below s _ _ _ (T0.setTop (mkF m 225 #[.val (.ref b0), .val (.int (0 : Int32)), .val (.int p2), .val (.int v3), .val (.int (3 : Int32)), .val (.int v5), .val (.int v6), .val (.int ((w_g ((1 : Int32)).toNatClampNeg) &&& (255 : Int32))), .val (.int (3 : Int32))] []))
            refine own_st (fun _ k => XS.iload X0.here hx rfl (hb hby sa_d225) rfl k) ?_
            show own_Dn p e below s _ _ _ (T0.setTop (mkF m 227 #[.val (.ref b0), .val (.int (0 : Int32)), .val (.int p2), .val (.int v3), .val (.int (3 : Int32)), .val (.int v5), .val (.int v6), .val (.int ((w_g ((1 : Int32)).toNatClampNeg) &&& (255 : Int32))), .val (.int (3 : Int32))] [(.int (3 : Int32))]))
            exact own_retI X0 hx hret hlk (hb hby sa_d227) (by decide) (by decide) ⟨(by rw [hr0, sa_f145k3, if_pos hc41, if_neg hc42, if_neg hc43, if_pos hc44, if_pos hc45]), N0, e0⟩
          · refine own_st (fun _ k => XS.icmpNo X0.here hx rfl (hb hby sa_d214) rfl (feq hc45).1 k) ?_
            show own_Dn p e below s _ _ _ (T0.setTop (mkF m 217 #[.val (.ref b0), .val (.int (0 : Int32)), .val (.int p2), .val (.int v3), .val (.int (3 : Int32)), .val (.int v5), .val (.int v6), .val (.int ((w_g ((1 : Int32)).toNatClampNeg) &&& (255 : Int32))), .val (.int (2 : Int32))] []))
            refine own_st (fun _ k => XS.iconst X0.here hx rfl (hb hby sa_d217) k) ?_
            show own_Dn p e below s _ _ _ (T0.setTop (mkF m 218 #[.val (.ref b0), .val (.int (0 : Int32)), .val (.int p2), .val (.int v3), .val (.int (3 : Int32)), .val (.int v5), .val (.int v6), .val (.int ((w_g ((1 : Int32)).toNatClampNeg) &&& (255 : Int32))), .val (.int (2 : Int32))] [(.int (-1 : Int32))]))
            exact own_retI X0 hx hret hlk (hb hby sa_d218) (by decide) (by decide) ⟨(by rw [hr0, sa_f145k3, if_pos hc41, if_neg hc42, if_neg hc43, if_pos hc44, if_neg hc45]), N0, e0⟩
        · refine own_st (fun _ k => XS.icmpNo X0.here hx rfl (hb hby sa_d198) rfl (flt hc44).1 k) ?_
          show own_Dn p e below s _ _ _ (T0.setTop (mkF m 201 #[.val (.ref b0), .val (.int (0 : Int32)), .val (.int p2), .val (.int v3), .val (.int (3 : Int32)), .val (.int v5), .val (.int v6), .val (.int ((w_g ((1 : Int32)).toNatClampNeg) &&& (255 : Int32))), .val (.int (2 : Int32))] []))
          refine own_st (fun _ k => XS.iconst X0.here hx rfl (hb hby sa_d201) k) ?_
          show own_Dn p e below s _ _ _ (T0.setTop (mkF m 202 #[.val (.ref b0), .val (.int (0 : Int32)), .val (.int p2), .val (.int v3), .val (.int (3 : Int32)), .val (.int v5), .val (.int v6), .val (.int ((w_g ((1 : Int32)).toNatClampNeg) &&& (255 : Int32))), .val (.int (2 : Int32))] [(.int (0 : Int32))]))
          exact own_retI X0 hx hret hlk (hb hby sa_d202) (by decide) (by decide) ⟨(by rw [hr0, sa_f145k3, if_pos hc41, if_neg hc42, if_neg hc43, if_neg hc44]), N0, e0⟩
  · refine own_st (fun _ k => XS.icmpNo X0.here hx rfl (hb hby sa_d149) rfl (flt hc41).1 k) ?_
    show own_Dn p e below s _ _ _ (T0.setTop (mkF m 152 #[.val (.ref b0), .val (.int (0 : Int32)), .val (.int p2), .val (.int v3), .val (.int (3 : Int32)), .val (.int v5), .val (.int v6), .unset, .unset] []))
    refine own_st (fun _ k => XS.iconst X0.here hx rfl (hb hby sa_d152) k) ?_
    show own_Dn p e below s _ _ _ (T0.setTop (mkF m 153 #[.val (.ref b0), .val (.int (0 : Int32)), .val (.int p2), .val (.int v3), .val (.int (3 : Int32)), .val (.int v5), .val (.int v6), .unset, .unset] [(.int (0 : Int32))]))
    exact own_retI X0 hx hret hlk (hb hby sa_d153) (by decide) (by decide) ⟨(by rw [hr0, sa_f145k3, if_neg hc41]), N0, e0⟩
def sa_f145k2 (p2 : Int32) (w_g : Nat → Int32) (v3 : Int32) : Int32 :=
  if (1 : Int32) < p2 then
    if ((w_g ((1 : Int32)).toNatClampNeg) &&& (255 : Int32)) < (128 : Int32) then
      (-1 : Int32)
    else
      if (191 : Int32) < ((w_g ((1 : Int32)).toNatClampNeg) &&& (255 : Int32)) then
        (-1 : Int32)
      else
        (2 : Int32)
  else
    (0 : Int32)
set_option maxRecDepth 65536 in
set_option maxHeartbeats 40000000 in
theorem sa_c145k2 {l : Launch} {Z : State} {a0 : Array Value} {b0 : Addr} {p2 : Int32} {w_g : Nat → Int32} {h0 : Heap} {n0 : Nat} {p : Program} {e : Env} {s : State} {m : MethodId} {args : Array Value} {below : List Frame} {meth : Method} {c : Code} {T0 : State} {locs : List Loc} {r0 : Int32} (C0 : own_Cx p s m meth c Z a0 prog_31_method_2_code 9 "com/example/xylograph/xylograph/io/Utf8" "sequenceLength" (some .int)) (X0 : Stand p l e ({ frames := 0, cells := 0, slots := 0, locals := 0 } : Room) s m args below meth c T0 locs 0 0) (e0 : T0.heap = h0) (N0 : Fr n0 locs) (v3 : Int32) (Z0 : n0 ≤ h0.size) (P1 : own_Arf Z h0 b0 .byte 6 (fun i => (.int (w_g i)))) (hr0 : r0 = sa_f145k2 p2 w_g v3) :
    own_Dn p e below s (own_Q (some (.int r0)) n0 h0) ({ frames := 0, cells := 0, slots := 0, locals := 0 } : Room).cells ({ frames := 0, cells := 0, slots := 0, locals := 0 } : Room).slots (T0.setTop (mkF m 145 #[.val (.ref b0), .val (.int (0 : Int32)), .val (.int p2), .val (.int v3), .val (.int (2 : Int32)), .val (.int (128 : Int32)), .val (.int (191 : Int32)), .unset, .unset] [])) := by
  obtain ⟨hx, hZ, hw, hby, hml, hown, hret, hlk, hnm⟩ := id C0
  refine own_st (fun _ k => XS.iloadN X0.here hx rfl (hb hby sa_d145) rfl (XS.iconst X0.here hx rfl (hb hby sa_d146) (XS.iadd X0.here hx rfl (hb hby sa_d147) rfl (XS.iloadN X0.here hx rfl (hb hby sa_d148) rfl k)))) ?_
  show own_Dn p e below s _ _ _ (T0.setTop (mkF m 149 #[.val (.ref b0), .val (.int (0 : Int32)), .val (.int p2), .val (.int v3), .val (.int (2 : Int32)), .val (.int (128 : Int32)), .val (.int (191 : Int32)), .unset, .unset] [(.int p2), (.int (1 : Int32))]))
  by_cases hc38 : (1 : Int32) < p2
  · refine own_st (fun _ k => XS.icmpYes X0.here hx rfl (pc0 := 149) (pc' := 154) rfl (hb hby sa_d149) rfl (tlt hc38).1 (by decide) (by decide) k) ?_
    show own_Dn p e below s _ _ _ (T0.setTop (mkF m 154 #[.val (.ref b0), .val (.int (0 : Int32)), .val (.int p2), .val (.int v3), .val (.int (2 : Int32)), .val (.int (128 : Int32)), .val (.int (191 : Int32)), .unset, .unset] []))
    refine own_st (fun _ k => XS.aloadN X0.here hx rfl (hb hby sa_d154) rfl rfl (XS.iloadN X0.here hx rfl (hb hby sa_d155) rfl (XS.iconst X0.here hx rfl (hb hby sa_d156) (XS.iadd X0.here hx rfl (hb hby sa_d157) rfl k)))) ?_
    show own_Dn p e below s _ _ _ (T0.setTop (mkF m 158 #[.val (.ref b0), .val (.int (0 : Int32)), .val (.int p2), .val (.int v3), .val (.int (2 : Int32)), .val (.int (128 : Int32)), .val (.int (191 : Int32)), .unset, .unset] [(.int (1 : Int32)), (.ref b0)]))
    refine own_st (own_ldB (pc := 158) (L := #[.val (.ref b0), .val (.int (0 : Int32)), .val (.int p2), .val (.int v3), .val (.int (2 : Int32)), .val (.int (128 : Int32)), .val (.int (191 : Int32)), .unset, .unset]) (rest := []) X0 hx hZ e0 P1 (j := (1 : Int32)) (by decide) (by decide) (hb hby sa_d158)) ?_
    show own_Dn p e below s _ _ _ (T0.setTop (mkF m 159 #[.val (.ref b0), .val (.int (0 : Int32)), .val (.int p2), .val (.int v3), .val (.int (2 : Int32)), .val (.int (128 : Int32)), .val (.int (191 : Int32)), .unset, .unset] [(.int (w_g ((1 : Int32)).toNatClampNeg))]))
    refine own_st (fun _ k => XS.sipush X0.here hx rfl (hb hby sa_d159) (XS.iand X0.here hx rfl (hb hby sa_d162) rfl (XS.istore X0.here hx rfl (hb hby sa_d163) rfl (l' := #[.val (.ref b0), .val (.int (0 : Int32)), .val (.int p2), .val (.int v3), .val (.int (2 : Int32)), .val (.int (128 : Int32)), .val (.int (191 : Int32)), .val (.int ((w_g ((1 : Int32)).toNatClampNeg) &&& (255 : Int32))), .unset]) rfl (XS.iload X0.here hx rfl (hb hby sa_d165) rfl (XS.iload X0.here hx rfl (hb hby sa_d167) rfl k))))) ?_
    show own_Dn p e below s _ _ _ (T0.setTop (mkF m 169 #[.val (.ref b0), .val (.int (0 : Int32)), .val (.int p2), .val (.int v3), .val (.int (2 : Int32)), .val (.int (128 : Int32)), .val (.int (191 : Int32)), .val (.int ((w_g ((1 : Int32)).toNatClampNeg) &&& (255 : Int32))), .unset] [(.int (128 : Int32)), (.int ((w_g ((1 : Int32)).toNatClampNeg) &&& (255 : Int32)))]))
    by_cases hc39 : ((w_g ((1 : Int32)).toNatClampNeg) &&& (255 : Int32)) < (128 : Int32)
    · refine own_st (fun _ k => XS.icmpYes X0.here hx rfl (pc0 := 169) (pc' := 179) rfl (hb hby sa_d169) rfl (tlt hc39).1 (by decide) (by decide) k) ?_
      show own_Dn p e below s _ _ _ (T0.setTop (mkF m 179 #[.val (.ref b0), .val (.int (0 : Int32)), .val (.int p2), .val (.int v3), .val (.int (2 : Int32)), .val (.int (128 : Int32)), .val (.int (191 : Int32)), .val (.int ((w_g ((1 : Int32)).toNatClampNeg) &&& (255 : Int32))), .unset] []))
      refine own_st (fun _ k => XS.iconst X0.here hx rfl (hb hby sa_d179) k) ?_
      show own_Dn p e below s _ _ _ (T0.setTop (mkF m 180 #[.val (.ref b0), .val (.int (0 : Int32)), .val (.int p2), .val (.int v3), .val (.int (2 : Int32)), .val (.int (128 : Int32)), .val (.int (191 : Int32)), .val (.int ((w_g ((1 : Int32)).toNatClampNeg) &&& (255 : Int32))), .unset] [(.int (-1 : Int32))]))
      exact own_retI X0 hx hret hlk (hb hby sa_d180) (by decide) (by decide) ⟨(by rw [hr0, sa_f145k2, if_pos hc38, if_pos hc39]), N0, e0⟩
    · refine own_st (fun _ k => XS.icmpNo X0.here hx rfl (hb hby sa_d169) rfl (flt hc39).1 k) ?_
      show own_Dn p e below s _ _ _ (T0.setTop (mkF m 172 #[.val (.ref b0), .val (.int (0 : Int32)), .val (.int p2), .val (.int v3), .val (.int (2 : Int32)), .val (.int (128 : Int32)), .val (.int (191 : Int32)), .val (.int ((w_g ((1 : Int32)).toNatClampNeg) &&& (255 : Int32))), .unset] []))
      refine own_st (fun _ k => XS.iload X0.here hx rfl (hb hby sa_d172) rfl (XS.iload X0.here hx rfl (hb hby sa_d174) rfl k)) ?_
      show own_Dn p e below s _ _ _ (T0.setTop (mkF m 176 #[.val (.ref b0), .val (.int (0 : Int32)), .val (.int p2), .val (.int v3), .val (.int (2 : Int32)), .val (.int (128 : Int32)), .val (.int (191 : Int32)), .val (.int ((w_g ((1 : Int32)).toNatClampNeg) &&& (255 : Int32))), .unset] [(.int (191 : Int32)), (.int ((w_g ((1 : Int32)).toNatClampNeg) &&& (255 : Int32)))]))
      by_cases hc40 : (191 : Int32) < ((w_g ((1 : Int32)).toNatClampNeg) &&& (255 : Int32))
      · refine own_st (fun _ k => XS.icmpNo X0.here hx rfl (hb hby sa_d176) rfl (tlt hc40).2.2.2 k) ?_
        show own_Dn p e below s _ _ _ (T0.setTop (mkF m 179 #[.val (.ref b0), .val (.int (0 : Int32)), .val (.int p2), .val (.int v3), .val (.int (2 : Int32)), .val (.int (128 : Int32)), .val (.int (191 : Int32)), .val (.int ((w_g ((1 : Int32)).toNatClampNeg) &&& (255 : Int32))), .unset] []))
        refine own_st (fun _ k => XS.iconst X0.here hx rfl (hb hby sa_d179) k) ?_
        show own_Dn p e below s _ _ _ (T0.setTop (mkF m 180 #[.val (.ref b0), .val (.int (0 : Int32)), .val (.int p2), .val (.int v3), .val (.int (2 : Int32)), .val (.int (128 : Int32)), .val (.int (191 : Int32)), .val (.int ((w_g ((1 : Int32)).toNatClampNeg) &&& (255 : Int32))), .unset] [(.int (-1 : Int32))]))
        exact own_retI X0 hx hret hlk (hb hby sa_d180) (by decide) (by decide) ⟨(by rw [hr0, sa_f145k2, if_pos hc38, if_neg hc39, if_pos hc40]), N0, e0⟩
      · refine own_st (fun _ k => XS.icmpYes X0.here hx rfl (pc0 := 176) (pc' := 181) rfl (hb hby sa_d176) rfl (flt hc40).2.2.2 (by decide) (by decide) k) ?_
        show own_Dn p e below s _ _ _ (T0.setTop (mkF m 181 #[.val (.ref b0), .val (.int (0 : Int32)), .val (.int p2), .val (.int v3), .val (.int (2 : Int32)), .val (.int (128 : Int32)), .val (.int (191 : Int32)), .val (.int ((w_g ((1 : Int32)).toNatClampNeg) &&& (255 : Int32))), .unset] []))
        refine own_st (fun _ k => XS.iloadN X0.here hx rfl (hb hby sa_d181) rfl (XS.iconst X0.here hx rfl (hb hby sa_d182) (XS.iadd X0.here hx rfl (hb hby sa_d183) rfl (XS.istore X0.here hx rfl (hb hby sa_d184) rfl (l' := #[.val (.ref b0), .val (.int (0 : Int32)), .val (.int p2), .val (.int v3), .val (.int (2 : Int32)), .val (.int (128 : Int32)), .val (.int (191 : Int32)), .val (.int ((w_g ((1 : Int32)).toNatClampNeg) &&& (255 : Int32))), .val (.int (2 : Int32))]) rfl (XS.iload X0.here hx rfl (hb hby sa_d186) rfl (XS.iloadN X0.here hx rfl (hb hby sa_d188) rfl (XS.iload X0.here hx rfl (hb hby sa_d189) rfl (XS.iadd X0.here hx rfl (hb hby sa_d191) rfl k)))))))) ?_
        show own_Dn p e below s _ _ _ (T0.setTop (mkF m 192 #[.val (.ref b0), .val (.int (0 : Int32)), .val (.int p2), .val (.int v3), .val (.int (2 : Int32)), .val (.int (128 : Int32)), .val (.int (191 : Int32)), .val (.int ((w_g ((1 : Int32)).toNatClampNeg) &&& (255 : Int32))), .val (.int (2 : Int32))] [(.int (2 : Int32)), (.int (2 : Int32))]))
        refine own_st (fun _ k => XS.icmpYes X0.here hx rfl (pc0 := 192) (pc' := 225) rfl (hb hby sa_d192) rfl (flt (by decide : ¬ ((2 : Int32) < (2 : Int32)))).2.1 (by decide) (by decide) k) ?_
        show own_Dn p e below s _ _ _ (T0.setTop (mkF m 225 #[.val (.ref b0), .val (.int (0 : Int32)), .val (.int p2), .val (.int v3), .val (.int (2 : Int32)), .val (.int (128 : Int32)), .val (.int (191 : Int32)), .val (.int ((w_g ((1 : Int32)).toNatClampNeg) &&& (255 : Int32))), .val (.int (2 : Int32))] []))
        refine own_st (fun _ k => XS.iload X0.here hx rfl (hb hby sa_d225) rfl k) ?_
        show own_Dn p e below s _ _ _ (T0.setTop (mkF m 227 #[.val (.ref b0), .val (.int (0 : Int32)), .val (.int p2), .val (.int v3), .val (.int (2 : Int32)), .val (.int (128 : Int32)), .val (.int (191 : Int32)), .val (.int ((w_g ((1 : Int32)).toNatClampNeg) &&& (255 : Int32))), .val (.int (2 : Int32))] [(.int (2 : Int32))]))
        exact own_retI X0 hx hret hlk (hb hby sa_d227) (by decide) (by decide) ⟨(by rw [hr0, sa_f145k2, if_pos hc38, if_neg hc39, if_neg hc40]), N0, e0⟩
  · refine own_st (fun _ k => XS.icmpNo X0.here hx rfl (hb hby sa_d149) rfl (flt hc38).1 k) ?_
    show own_Dn p e below s _ _ _ (T0.setTop (mkF m 152 #[.val (.ref b0), .val (.int (0 : Int32)), .val (.int p2), .val (.int v3), .val (.int (2 : Int32)), .val (.int (128 : Int32)), .val (.int (191 : Int32)), .unset, .unset] []))
    refine own_st (fun _ k => XS.iconst X0.here hx rfl (hb hby sa_d152) k) ?_
    show own_Dn p e below s _ _ _ (T0.setTop (mkF m 153 #[.val (.ref b0), .val (.int (0 : Int32)), .val (.int p2), .val (.int v3), .val (.int (2 : Int32)), .val (.int (128 : Int32)), .val (.int (191 : Int32)), .unset, .unset] [(.int (0 : Int32))]))
    exact own_retI X0 hx hret hlk (hb hby sa_d153) (by decide) (by decide) ⟨(by rw [hr0, sa_f145k2, if_neg hc38]), N0, e0⟩
def sa_f (p2 : Int32) (w_g : Nat → Int32)  : Int32 :=
  if ((w_g ((0 : Int32)).toNatClampNeg) &&& (255 : Int32)) < (128 : Int32) then
    (1 : Int32)
  else
    if ((w_g ((0 : Int32)).toNatClampNeg) &&& (255 : Int32)) < (194 : Int32) then
      (-1 : Int32)
    else
      if ((w_g ((0 : Int32)).toNatClampNeg) &&& (255 : Int32)) < (224 : Int32) then
        sa_f145k2 p2 w_g (((w_g ((0 : Int32)).toNatClampNeg) &&& (255 : Int32)))
      else
        if ((w_g ((0 : Int32)).toNatClampNeg) &&& (255 : Int32)) < (240 : Int32) then
          if ((w_g ((0 : Int32)).toNatClampNeg) &&& (255 : Int32)) = (224 : Int32) then
            if ((w_g ((0 : Int32)).toNatClampNeg) &&& (255 : Int32)) = (237 : Int32) then
              sa_f145k3 p2 w_g (((w_g ((0 : Int32)).toNatClampNeg) &&& (255 : Int32))) ((160 : Int32)) ((159 : Int32))
            else
              sa_f145k3 p2 w_g (((w_g ((0 : Int32)).toNatClampNeg) &&& (255 : Int32))) ((160 : Int32)) ((191 : Int32))
          else
            if ((w_g ((0 : Int32)).toNatClampNeg) &&& (255 : Int32)) = (237 : Int32) then
              sa_f145k3 p2 w_g (((w_g ((0 : Int32)).toNatClampNeg) &&& (255 : Int32))) ((128 : Int32)) ((159 : Int32))
            else
              sa_f145k3 p2 w_g (((w_g ((0 : Int32)).toNatClampNeg) &&& (255 : Int32))) ((128 : Int32)) ((191 : Int32))
        else
          if ((w_g ((0 : Int32)).toNatClampNeg) &&& (255 : Int32)) < (245 : Int32) then
            if ((w_g ((0 : Int32)).toNatClampNeg) &&& (255 : Int32)) = (240 : Int32) then
              if ((w_g ((0 : Int32)).toNatClampNeg) &&& (255 : Int32)) = (244 : Int32) then
                sa_f145k4 p2 w_g (((w_g ((0 : Int32)).toNatClampNeg) &&& (255 : Int32))) ((144 : Int32)) ((143 : Int32))
              else
                sa_f145k4 p2 w_g (((w_g ((0 : Int32)).toNatClampNeg) &&& (255 : Int32))) ((144 : Int32)) ((191 : Int32))
            else
              if ((w_g ((0 : Int32)).toNatClampNeg) &&& (255 : Int32)) = (244 : Int32) then
                sa_f145k4 p2 w_g (((w_g ((0 : Int32)).toNatClampNeg) &&& (255 : Int32))) ((128 : Int32)) ((143 : Int32))
              else
                sa_f145k4 p2 w_g (((w_g ((0 : Int32)).toNatClampNeg) &&& (255 : Int32))) ((128 : Int32)) ((191 : Int32))
          else
            (-1 : Int32)
set_option maxRecDepth 65536 in
set_option maxHeartbeats 40000000 in
theorem sa_c0 {l : Launch} {Z : State} {a0 : Array Value} {b0 : Addr} {p2 : Int32} {w_g : Nat → Int32} {h0 : Heap} {n0 : Nat} {p : Program} {e : Env} {s : State} {m : MethodId} {args : Array Value} {below : List Frame} {meth : Method} {c : Code} {T0 : State} {locs : List Loc} {r0 : Int32} (C0 : own_Cx p s m meth c Z a0 prog_31_method_2_code 9 "com/example/xylograph/xylograph/io/Utf8" "sequenceLength" (some .int)) (X0 : Stand p l e ({ frames := 0, cells := 0, slots := 0, locals := 0 } : Room) s m args below meth c T0 locs 0 0) (e0 : T0.heap = h0) (N0 : Fr n0 locs)  (Z0 : n0 ≤ h0.size) (P0 : own_Arf Z h0 b0 .byte 6 (fun i => (.int (w_g i)))) (hr0 : r0 = sa_f p2 w_g ) :
    own_Dn p e below s (own_Q (some (.int r0)) n0 h0) ({ frames := 0, cells := 0, slots := 0, locals := 0 } : Room).cells ({ frames := 0, cells := 0, slots := 0, locals := 0 } : Room).slots (T0.setTop (mkF m 0 #[.val (.ref b0), .val (.int (0 : Int32)), .val (.int p2), .unset, .unset, .unset, .unset, .unset, .unset] [])) := by
  obtain ⟨hx, hZ, hw, hby, hml, hown, hret, hlk, hnm⟩ := id C0
  refine own_st (fun _ k => XS.aloadN X0.here hx rfl (hb hby sa_d0) rfl rfl (XS.iloadN X0.here hx rfl (hb hby sa_d1) rfl k)) ?_
  show own_Dn p e below s _ _ _ (T0.setTop (mkF m 2 #[.val (.ref b0), .val (.int (0 : Int32)), .val (.int p2), .unset, .unset, .unset, .unset, .unset, .unset] [(.int (0 : Int32)), (.ref b0)]))
  refine own_st (own_ldB (pc := 2) (L := #[.val (.ref b0), .val (.int (0 : Int32)), .val (.int p2), .unset, .unset, .unset, .unset, .unset, .unset]) (rest := []) X0 hx hZ e0 P0 (j := (0 : Int32)) (by decide) (by decide) (hb hby sa_d2)) ?_
  show own_Dn p e below s _ _ _ (T0.setTop (mkF m 3 #[.val (.ref b0), .val (.int (0 : Int32)), .val (.int p2), .unset, .unset, .unset, .unset, .unset, .unset] [(.int (w_g ((0 : Int32)).toNatClampNeg))]))
  refine own_st (fun _ k => XS.sipush X0.here hx rfl (hb hby sa_d3) (XS.iand X0.here hx rfl (hb hby sa_d6) rfl (XS.istoreN X0.here hx rfl (hb hby sa_d7) rfl (l' := #[.val (.ref b0), .val (.int (0 : Int32)), .val (.int p2), .val (.int ((w_g ((0 : Int32)).toNatClampNeg) &&& (255 : Int32))), .unset, .unset, .unset, .unset, .unset]) rfl (XS.iloadN X0.here hx rfl (hb hby sa_d8) rfl (XS.sipush X0.here hx rfl (hb hby sa_d9) k))))) ?_
  show own_Dn p e below s _ _ _ (T0.setTop (mkF m 12 #[.val (.ref b0), .val (.int (0 : Int32)), .val (.int p2), .val (.int ((w_g ((0 : Int32)).toNatClampNeg) &&& (255 : Int32))), .unset, .unset, .unset, .unset, .unset] [(.int (128 : Int32)), (.int ((w_g ((0 : Int32)).toNatClampNeg) &&& (255 : Int32)))]))
  by_cases hc27 : ((w_g ((0 : Int32)).toNatClampNeg) &&& (255 : Int32)) < (128 : Int32)
  · refine own_st (fun _ k => XS.icmpNo X0.here hx rfl (hb hby sa_d12) rfl (tlt hc27).2.1 k) ?_
    show own_Dn p e below s _ _ _ (T0.setTop (mkF m 15 #[.val (.ref b0), .val (.int (0 : Int32)), .val (.int p2), .val (.int ((w_g ((0 : Int32)).toNatClampNeg) &&& (255 : Int32))), .unset, .unset, .unset, .unset, .unset] []))
    refine own_st (fun _ k => XS.iconst X0.here hx rfl (hb hby sa_d15) k) ?_
    show own_Dn p e below s _ _ _ (T0.setTop (mkF m 16 #[.val (.ref b0), .val (.int (0 : Int32)), .val (.int p2), .val (.int ((w_g ((0 : Int32)).toNatClampNeg) &&& (255 : Int32))), .unset, .unset, .unset, .unset, .unset] [(.int (1 : Int32))]))
    exact own_retI X0 hx hret hlk (hb hby sa_d16) (by decide) (by decide) ⟨(by rw [hr0, sa_f, if_pos hc27]), N0, e0⟩
  · refine own_st (fun _ k => XS.icmpYes X0.here hx rfl (pc0 := 12) (pc' := 17) rfl (hb hby sa_d12) rfl (flt hc27).2.1 (by decide) (by decide) k) ?_
    show own_Dn p e below s _ _ _ (T0.setTop (mkF m 17 #[.val (.ref b0), .val (.int (0 : Int32)), .val (.int p2), .val (.int ((w_g ((0 : Int32)).toNatClampNeg) &&& (255 : Int32))), .unset, .unset, .unset, .unset, .unset] []))
    refine own_st (fun _ k => XS.sipush X0.here hx rfl (hb hby sa_d17) (XS.istore X0.here hx rfl (hb hby sa_d20) rfl (l' := #[.val (.ref b0), .val (.int (0 : Int32)), .val (.int p2), .val (.int ((w_g ((0 : Int32)).toNatClampNeg) &&& (255 : Int32))), .unset, .val (.int (128 : Int32)), .unset, .unset, .unset]) rfl (XS.sipush X0.here hx rfl (hb hby sa_d22) (XS.istore X0.here hx rfl (hb hby sa_d25) rfl (l' := #[.val (.ref b0), .val (.int (0 : Int32)), .val (.int p2), .val (.int ((w_g ((0 : Int32)).toNatClampNeg) &&& (255 : Int32))), .unset, .val (.int (128 : Int32)), .val (.int (191 : Int32)), .unset, .unset]) rfl (XS.iloadN X0.here hx rfl (hb hby sa_d27) rfl (XS.sipush X0.here hx rfl (hb hby sa_d28) k)))))) ?_
    show own_Dn p e below s _ _ _ (T0.setTop (mkF m 31 #[.val (.ref b0), .val (.int (0 : Int32)), .val (.int p2), .val (.int ((w_g ((0 : Int32)).toNatClampNeg) &&& (255 : Int32))), .unset, .val (.int (128 : Int32)), .val (.int (191 : Int32)), .unset, .unset] [(.int (194 : Int32)), (.int ((w_g ((0 : Int32)).toNatClampNeg) &&& (255 : Int32)))]))
    by_cases hc28 : ((w_g ((0 : Int32)).toNatClampNeg) &&& (255 : Int32)) < (194 : Int32)
    · refine own_st (fun _ k => XS.icmpNo X0.here hx rfl (hb hby sa_d31) rfl (tlt hc28).2.1 k) ?_
      show own_Dn p e below s _ _ _ (T0.setTop (mkF m 34 #[.val (.ref b0), .val (.int (0 : Int32)), .val (.int p2), .val (.int ((w_g ((0 : Int32)).toNatClampNeg) &&& (255 : Int32))), .unset, .val (.int (128 : Int32)), .val (.int (191 : Int32)), .unset, .unset] []))
      refine own_st (fun _ k => XS.iconst X0.here hx rfl (hb hby sa_d34) k) ?_
      show own_Dn p e below s _ _ _ (T0.setTop (mkF m 35 #[.val (.ref b0), .val (.int (0 : Int32)), .val (.int p2), .val (.int ((w_g ((0 : Int32)).toNatClampNeg) &&& (255 : Int32))), .unset, .val (.int (128 : Int32)), .val (.int (191 : Int32)), .unset, .unset] [(.int (-1 : Int32))]))
      exact own_retI X0 hx hret hlk (hb hby sa_d35) (by decide) (by decide) ⟨(by rw [hr0, sa_f, if_neg hc27, if_pos hc28]), N0, e0⟩
    · refine own_st (fun _ k => XS.icmpYes X0.here hx rfl (pc0 := 31) (pc' := 36) rfl (hb hby sa_d31) rfl (flt hc28).2.1 (by decide) (by decide) k) ?_
      show own_Dn p e below s _ _ _ (T0.setTop (mkF m 36 #[.val (.ref b0), .val (.int (0 : Int32)), .val (.int p2), .val (.int ((w_g ((0 : Int32)).toNatClampNeg) &&& (255 : Int32))), .unset, .val (.int (128 : Int32)), .val (.int (191 : Int32)), .unset, .unset] []))
      refine own_st (fun _ k => XS.iloadN X0.here hx rfl (hb hby sa_d36) rfl (XS.sipush X0.here hx rfl (hb hby sa_d37) k)) ?_
      show own_Dn p e below s _ _ _ (T0.setTop (mkF m 40 #[.val (.ref b0), .val (.int (0 : Int32)), .val (.int p2), .val (.int ((w_g ((0 : Int32)).toNatClampNeg) &&& (255 : Int32))), .unset, .val (.int (128 : Int32)), .val (.int (191 : Int32)), .unset, .unset] [(.int (224 : Int32)), (.int ((w_g ((0 : Int32)).toNatClampNeg) &&& (255 : Int32)))]))
      by_cases hc29 : ((w_g ((0 : Int32)).toNatClampNeg) &&& (255 : Int32)) < (224 : Int32)
      · refine own_st (fun _ k => XS.icmpNo X0.here hx rfl (hb hby sa_d40) rfl (tlt hc29).2.1 k) ?_
        show own_Dn p e below s _ _ _ (T0.setTop (mkF m 43 #[.val (.ref b0), .val (.int (0 : Int32)), .val (.int p2), .val (.int ((w_g ((0 : Int32)).toNatClampNeg) &&& (255 : Int32))), .unset, .val (.int (128 : Int32)), .val (.int (191 : Int32)), .unset, .unset] []))
        refine own_st (fun _ k => XS.iconst X0.here hx rfl (hb hby sa_d43) (XS.istore X0.here hx rfl (hb hby sa_d44) rfl (l' := #[.val (.ref b0), .val (.int (0 : Int32)), .val (.int p2), .val (.int ((w_g ((0 : Int32)).toNatClampNeg) &&& (255 : Int32))), .val (.int (2 : Int32)), .val (.int (128 : Int32)), .val (.int (191 : Int32)), .unset, .unset]) rfl (XS.goto X0.here hx rfl (pc0 := 46) (pc' := 145) rfl (hb hby sa_d46) (by decide) (by decide) k))) ?_
        show own_Dn p e below s _ _ _ (T0.setTop (mkF m 145 #[.val (.ref b0), .val (.int (0 : Int32)), .val (.int p2), .val (.int ((w_g ((0 : Int32)).toNatClampNeg) &&& (255 : Int32))), .val (.int (2 : Int32)), .val (.int (128 : Int32)), .val (.int (191 : Int32)), .unset, .unset] []))
        exact sa_c145k2 C0 X0 e0 N0 (((w_g ((0 : Int32)).toNatClampNeg) &&& (255 : Int32))) Z0 P0 (by rw [hr0, sa_f, if_neg hc27, if_neg hc28, if_pos hc29])
      · refine own_st (fun _ k => XS.icmpYes X0.here hx rfl (pc0 := 40) (pc' := 49) rfl (hb hby sa_d40) rfl (flt hc29).2.1 (by decide) (by decide) k) ?_
        show own_Dn p e below s _ _ _ (T0.setTop (mkF m 49 #[.val (.ref b0), .val (.int (0 : Int32)), .val (.int p2), .val (.int ((w_g ((0 : Int32)).toNatClampNeg) &&& (255 : Int32))), .unset, .val (.int (128 : Int32)), .val (.int (191 : Int32)), .unset, .unset] []))
        refine own_st (fun _ k => XS.iloadN X0.here hx rfl (hb hby sa_d49) rfl (XS.sipush X0.here hx rfl (hb hby sa_d50) k)) ?_
        show own_Dn p e below s _ _ _ (T0.setTop (mkF m 53 #[.val (.ref b0), .val (.int (0 : Int32)), .val (.int p2), .val (.int ((w_g ((0 : Int32)).toNatClampNeg) &&& (255 : Int32))), .unset, .val (.int (128 : Int32)), .val (.int (191 : Int32)), .unset, .unset] [(.int (240 : Int32)), (.int ((w_g ((0 : Int32)).toNatClampNeg) &&& (255 : Int32)))]))
        by_cases hc30 : ((w_g ((0 : Int32)).toNatClampNeg) &&& (255 : Int32)) < (240 : Int32)
        · refine own_st (fun _ k => XS.icmpNo X0.here hx rfl (hb hby sa_d53) rfl (tlt hc30).2.1 k) ?_
          show own_Dn p e below s _ _ _ (T0.setTop (mkF m 56 #[.val (.ref b0), .val (.int (0 : Int32)), .val (.int p2), .val (.int ((w_g ((0 : Int32)).toNatClampNeg) &&& (255 : Int32))), .unset, .val (.int (128 : Int32)), .val (.int (191 : Int32)), .unset, .unset] []))
          refine own_st (fun _ k => XS.iconst X0.here hx rfl (hb hby sa_d56) (XS.istore X0.here hx rfl (hb hby sa_d57) rfl (l' := #[.val (.ref b0), .val (.int (0 : Int32)), .val (.int p2), .val (.int ((w_g ((0 : Int32)).toNatClampNeg) &&& (255 : Int32))), .val (.int (3 : Int32)), .val (.int (128 : Int32)), .val (.int (191 : Int32)), .unset, .unset]) rfl (XS.iloadN X0.here hx rfl (hb hby sa_d59) rfl (XS.sipush X0.here hx rfl (hb hby sa_d60) k)))) ?_
          show own_Dn p e below s _ _ _ (T0.setTop (mkF m 63 #[.val (.ref b0), .val (.int (0 : Int32)), .val (.int p2), .val (.int ((w_g ((0 : Int32)).toNatClampNeg) &&& (255 : Int32))), .val (.int (3 : Int32)), .val (.int (128 : Int32)), .val (.int (191 : Int32)), .unset, .unset] [(.int (224 : Int32)), (.int ((w_g ((0 : Int32)).toNatClampNeg) &&& (255 : Int32)))]))
          by_cases hc31 : ((w_g ((0 : Int32)).toNatClampNeg) &&& (255 : Int32)) = (224 : Int32)
          · refine own_st (fun _ k => XS.icmpNo X0.here hx rfl (hb hby sa_d63) rfl (teq hc31).2 k) ?_
            show own_Dn p e below s _ _ _ (T0.setTop (mkF m 66 #[.val (.ref b0), .val (.int (0 : Int32)), .val (.int p2), .val (.int ((w_g ((0 : Int32)).toNatClampNeg) &&& (255 : Int32))), .val (.int (3 : Int32)), .val (.int (128 : Int32)), .val (.int (191 : Int32)), .unset, .unset] []))
            refine own_st (fun _ k => XS.sipush X0.here hx rfl (hb hby sa_d66) (XS.goto X0.here hx rfl (pc0 := 69) (pc' := 74) rfl (hb hby sa_d69) (by decide) (by decide) (XS.istore X0.here hx rfl (hb hby sa_d74) rfl (l' := #[.val (.ref b0), .val (.int (0 : Int32)), .val (.int p2), .val (.int ((w_g ((0 : Int32)).toNatClampNeg) &&& (255 : Int32))), .val (.int (3 : Int32)), .val (.int (160 : Int32)), .val (.int (191 : Int32)), .unset, .unset]) rfl (XS.iloadN X0.here hx rfl (hb hby sa_d76) rfl (XS.sipush X0.here hx rfl (hb hby sa_d77) k))))) ?_
            show own_Dn p e below s _ _ _ (T0.setTop (mkF m 80 #[.val (.ref b0), .val (.int (0 : Int32)), .val (.int p2), .val (.int ((w_g ((0 : Int32)).toNatClampNeg) &&& (255 : Int32))), .val (.int (3 : Int32)), .val (.int (160 : Int32)), .val (.int (191 : Int32)), .unset, .unset] [(.int (237 : Int32)), (.int ((w_g ((0 : Int32)).toNatClampNeg) &&& (255 : Int32)))]))
            by_cases hc32 : ((w_g ((0 : Int32)).toNatClampNeg) &&& (255 : Int32)) = (237 : Int32)
            · refine own_st (fun _ k => XS.icmpNo X0.here hx rfl (hb hby sa_d80) rfl (teq hc32).2 k) ?_
              show own_Dn p e below s _ _ _ (T0.setTop (mkF m 83 #[.val (.ref b0), .val (.int (0 : Int32)), .val (.int p2), .val (.int ((w_g ((0 : Int32)).toNatClampNeg) &&& (255 : Int32))), .val (.int (3 : Int32)), .val (.int (160 : Int32)), .val (.int (191 : Int32)), .unset, .unset] []))
              refine own_st (fun _ k => XS.sipush X0.here hx rfl (hb hby sa_d83) (XS.goto X0.here hx rfl (pc0 := 86) (pc' := 91) rfl (hb hby sa_d86) (by decide) (by decide) (XS.istore X0.here hx rfl (hb hby sa_d91) rfl (l' := #[.val (.ref b0), .val (.int (0 : Int32)), .val (.int p2), .val (.int ((w_g ((0 : Int32)).toNatClampNeg) &&& (255 : Int32))), .val (.int (3 : Int32)), .val (.int (160 : Int32)), .val (.int (159 : Int32)), .unset, .unset]) rfl (XS.goto X0.here hx rfl (pc0 := 93) (pc' := 145) rfl (hb hby sa_d93) (by decide) (by decide) k)))) ?_
              show own_Dn p e below s _ _ _ (T0.setTop (mkF m 145 #[.val (.ref b0), .val (.int (0 : Int32)), .val (.int p2), .val (.int ((w_g ((0 : Int32)).toNatClampNeg) &&& (255 : Int32))), .val (.int (3 : Int32)), .val (.int (160 : Int32)), .val (.int (159 : Int32)), .unset, .unset] []))
              exact sa_c145k3 C0 X0 e0 N0 (((w_g ((0 : Int32)).toNatClampNeg) &&& (255 : Int32))) ((160 : Int32)) ((159 : Int32)) Z0 P0 (by rw [hr0, sa_f, if_neg hc27, if_neg hc28, if_neg hc29, if_pos hc30, if_pos hc31, if_pos hc32])
            · refine own_st (fun _ k => XS.icmpYes X0.here hx rfl (pc0 := 80) (pc' := 89) rfl (hb hby sa_d80) rfl (feq hc32).2 (by decide) (by decide) k) ?_
              show own_Dn p e below s _ _ _ (T0.setTop (mkF m 89 #[.val (.ref b0), .val (.int (0 : Int32)), .val (.int p2), .val (.int ((w_g ((0 : Int32)).toNatClampNeg) &&& (255 : Int32))), .val (.int (3 : Int32)), .val (.int (160 : Int32)), .val (.int (191 : Int32)), .unset, .unset] []))
              refine own_st (fun _ k => XS.iload X0.here hx rfl (hb hby sa_d89) rfl (XS.istore X0.here hx rfl (hb hby sa_d91) rfl (l' := #[.val (.ref b0), .val (.int (0 : Int32)), .val (.int p2), .val (.int ((w_g ((0 : Int32)).toNatClampNeg) &&& (255 : Int32))), .val (.int (3 : Int32)), .val (.int (160 : Int32)), .val (.int (191 : Int32)), .unset, .unset]) rfl (XS.goto X0.here hx rfl (pc0 := 93) (pc' := 145) rfl (hb hby sa_d93) (by decide) (by decide) k))) ?_
              show own_Dn p e below s _ _ _ (T0.setTop (mkF m 145 #[.val (.ref b0), .val (.int (0 : Int32)), .val (.int p2), .val (.int ((w_g ((0 : Int32)).toNatClampNeg) &&& (255 : Int32))), .val (.int (3 : Int32)), .val (.int (160 : Int32)), .val (.int (191 : Int32)), .unset, .unset] []))
              exact sa_c145k3 C0 X0 e0 N0 (((w_g ((0 : Int32)).toNatClampNeg) &&& (255 : Int32))) ((160 : Int32)) ((191 : Int32)) Z0 P0 (by rw [hr0, sa_f, if_neg hc27, if_neg hc28, if_neg hc29, if_pos hc30, if_pos hc31, if_neg hc32])
          · refine own_st (fun _ k => XS.icmpYes X0.here hx rfl (pc0 := 63) (pc' := 72) rfl (hb hby sa_d63) rfl (feq hc31).2 (by decide) (by decide) k) ?_
            show own_Dn p e below s _ _ _ (T0.setTop (mkF m 72 #[.val (.ref b0), .val (.int (0 : Int32)), .val (.int p2), .val (.int ((w_g ((0 : Int32)).toNatClampNeg) &&& (255 : Int32))), .val (.int (3 : Int32)), .val (.int (128 : Int32)), .val (.int (191 : Int32)), .unset, .unset] []))
            refine own_st (fun _ k => XS.iload X0.here hx rfl (hb hby sa_d72) rfl (XS.istore X0.here hx rfl (hb hby sa_d74) rfl (l' := #[.val (.ref b0), .val (.int (0 : Int32)), .val (.int p2), .val (.int ((w_g ((0 : Int32)).toNatClampNeg) &&& (255 : Int32))), .val (.int (3 : Int32)), .val (.int (128 : Int32)), .val (.int (191 : Int32)), .unset, .unset]) rfl (XS.iloadN X0.here hx rfl (hb hby sa_d76) rfl (XS.sipush X0.here hx rfl (hb hby sa_d77) k)))) ?_
            show own_Dn p e below s _ _ _ (T0.setTop (mkF m 80 #[.val (.ref b0), .val (.int (0 : Int32)), .val (.int p2), .val (.int ((w_g ((0 : Int32)).toNatClampNeg) &&& (255 : Int32))), .val (.int (3 : Int32)), .val (.int (128 : Int32)), .val (.int (191 : Int32)), .unset, .unset] [(.int (237 : Int32)), (.int ((w_g ((0 : Int32)).toNatClampNeg) &&& (255 : Int32)))]))
            by_cases hc33 : ((w_g ((0 : Int32)).toNatClampNeg) &&& (255 : Int32)) = (237 : Int32)
            · refine own_st (fun _ k => XS.icmpNo X0.here hx rfl (hb hby sa_d80) rfl (teq hc33).2 k) ?_
              show own_Dn p e below s _ _ _ (T0.setTop (mkF m 83 #[.val (.ref b0), .val (.int (0 : Int32)), .val (.int p2), .val (.int ((w_g ((0 : Int32)).toNatClampNeg) &&& (255 : Int32))), .val (.int (3 : Int32)), .val (.int (128 : Int32)), .val (.int (191 : Int32)), .unset, .unset] []))
              refine own_st (fun _ k => XS.sipush X0.here hx rfl (hb hby sa_d83) (XS.goto X0.here hx rfl (pc0 := 86) (pc' := 91) rfl (hb hby sa_d86) (by decide) (by decide) (XS.istore X0.here hx rfl (hb hby sa_d91) rfl (l' := #[.val (.ref b0), .val (.int (0 : Int32)), .val (.int p2), .val (.int ((w_g ((0 : Int32)).toNatClampNeg) &&& (255 : Int32))), .val (.int (3 : Int32)), .val (.int (128 : Int32)), .val (.int (159 : Int32)), .unset, .unset]) rfl (XS.goto X0.here hx rfl (pc0 := 93) (pc' := 145) rfl (hb hby sa_d93) (by decide) (by decide) k)))) ?_
              show own_Dn p e below s _ _ _ (T0.setTop (mkF m 145 #[.val (.ref b0), .val (.int (0 : Int32)), .val (.int p2), .val (.int ((w_g ((0 : Int32)).toNatClampNeg) &&& (255 : Int32))), .val (.int (3 : Int32)), .val (.int (128 : Int32)), .val (.int (159 : Int32)), .unset, .unset] []))
              exact sa_c145k3 C0 X0 e0 N0 (((w_g ((0 : Int32)).toNatClampNeg) &&& (255 : Int32))) ((128 : Int32)) ((159 : Int32)) Z0 P0 (by rw [hr0, sa_f, if_neg hc27, if_neg hc28, if_neg hc29, if_pos hc30, if_neg hc31, if_pos hc33])
            · refine own_st (fun _ k => XS.icmpYes X0.here hx rfl (pc0 := 80) (pc' := 89) rfl (hb hby sa_d80) rfl (feq hc33).2 (by decide) (by decide) k) ?_
              show own_Dn p e below s _ _ _ (T0.setTop (mkF m 89 #[.val (.ref b0), .val (.int (0 : Int32)), .val (.int p2), .val (.int ((w_g ((0 : Int32)).toNatClampNeg) &&& (255 : Int32))), .val (.int (3 : Int32)), .val (.int (128 : Int32)), .val (.int (191 : Int32)), .unset, .unset] []))
              refine own_st (fun _ k => XS.iload X0.here hx rfl (hb hby sa_d89) rfl (XS.istore X0.here hx rfl (hb hby sa_d91) rfl (l' := #[.val (.ref b0), .val (.int (0 : Int32)), .val (.int p2), .val (.int ((w_g ((0 : Int32)).toNatClampNeg) &&& (255 : Int32))), .val (.int (3 : Int32)), .val (.int (128 : Int32)), .val (.int (191 : Int32)), .unset, .unset]) rfl (XS.goto X0.here hx rfl (pc0 := 93) (pc' := 145) rfl (hb hby sa_d93) (by decide) (by decide) k))) ?_
              show own_Dn p e below s _ _ _ (T0.setTop (mkF m 145 #[.val (.ref b0), .val (.int (0 : Int32)), .val (.int p2), .val (.int ((w_g ((0 : Int32)).toNatClampNeg) &&& (255 : Int32))), .val (.int (3 : Int32)), .val (.int (128 : Int32)), .val (.int (191 : Int32)), .unset, .unset] []))
              exact sa_c145k3 C0 X0 e0 N0 (((w_g ((0 : Int32)).toNatClampNeg) &&& (255 : Int32))) ((128 : Int32)) ((191 : Int32)) Z0 P0 (by rw [hr0, sa_f, if_neg hc27, if_neg hc28, if_neg hc29, if_pos hc30, if_neg hc31, if_neg hc33])
        · refine own_st (fun _ k => XS.icmpYes X0.here hx rfl (pc0 := 53) (pc' := 96) rfl (hb hby sa_d53) rfl (flt hc30).2.1 (by decide) (by decide) k) ?_
          show own_Dn p e below s _ _ _ (T0.setTop (mkF m 96 #[.val (.ref b0), .val (.int (0 : Int32)), .val (.int p2), .val (.int ((w_g ((0 : Int32)).toNatClampNeg) &&& (255 : Int32))), .unset, .val (.int (128 : Int32)), .val (.int (191 : Int32)), .unset, .unset] []))
          refine own_st (fun _ k => XS.iloadN X0.here hx rfl (hb hby sa_d96) rfl (XS.sipush X0.here hx rfl (hb hby sa_d97) k)) ?_
          show own_Dn p e below s _ _ _ (T0.setTop (mkF m 100 #[.val (.ref b0), .val (.int (0 : Int32)), .val (.int p2), .val (.int ((w_g ((0 : Int32)).toNatClampNeg) &&& (255 : Int32))), .unset, .val (.int (128 : Int32)), .val (.int (191 : Int32)), .unset, .unset] [(.int (245 : Int32)), (.int ((w_g ((0 : Int32)).toNatClampNeg) &&& (255 : Int32)))]))
          by_cases hc34 : ((w_g ((0 : Int32)).toNatClampNeg) &&& (255 : Int32)) < (245 : Int32)
          · refine own_st (fun _ k => XS.icmpNo X0.here hx rfl (hb hby sa_d100) rfl (tlt hc34).2.1 k) ?_
            show own_Dn p e below s _ _ _ (T0.setTop (mkF m 103 #[.val (.ref b0), .val (.int (0 : Int32)), .val (.int p2), .val (.int ((w_g ((0 : Int32)).toNatClampNeg) &&& (255 : Int32))), .unset, .val (.int (128 : Int32)), .val (.int (191 : Int32)), .unset, .unset] []))
            refine own_st (fun _ k => XS.iconst X0.here hx rfl (hb hby sa_d103) (XS.istore X0.here hx rfl (hb hby sa_d104) rfl (l' := #[.val (.ref b0), .val (.int (0 : Int32)), .val (.int p2), .val (.int ((w_g ((0 : Int32)).toNatClampNeg) &&& (255 : Int32))), .val (.int (4 : Int32)), .val (.int (128 : Int32)), .val (.int (191 : Int32)), .unset, .unset]) rfl (XS.iloadN X0.here hx rfl (hb hby sa_d106) rfl (XS.sipush X0.here hx rfl (hb hby sa_d107) k)))) ?_
            show own_Dn p e below s _ _ _ (T0.setTop (mkF m 110 #[.val (.ref b0), .val (.int (0 : Int32)), .val (.int p2), .val (.int ((w_g ((0 : Int32)).toNatClampNeg) &&& (255 : Int32))), .val (.int (4 : Int32)), .val (.int (128 : Int32)), .val (.int (191 : Int32)), .unset, .unset] [(.int (240 : Int32)), (.int ((w_g ((0 : Int32)).toNatClampNeg) &&& (255 : Int32)))]))
            by_cases hc35 : ((w_g ((0 : Int32)).toNatClampNeg) &&& (255 : Int32)) = (240 : Int32)
            · refine own_st (fun _ k => XS.icmpNo X0.here hx rfl (hb hby sa_d110) rfl (teq hc35).2 k) ?_
              show own_Dn p e below s _ _ _ (T0.setTop (mkF m 113 #[.val (.ref b0), .val (.int (0 : Int32)), .val (.int p2), .val (.int ((w_g ((0 : Int32)).toNatClampNeg) &&& (255 : Int32))), .val (.int (4 : Int32)), .val (.int (128 : Int32)), .val (.int (191 : Int32)), .unset, .unset] []))
              refine own_st (fun _ k => XS.sipush X0.here hx rfl (hb hby sa_d113) (XS.goto X0.here hx rfl (pc0 := 116) (pc' := 121) rfl (hb hby sa_d116) (by decide) (by decide) (XS.istore X0.here hx rfl (hb hby sa_d121) rfl (l' := #[.val (.ref b0), .val (.int (0 : Int32)), .val (.int p2), .val (.int ((w_g ((0 : Int32)).toNatClampNeg) &&& (255 : Int32))), .val (.int (4 : Int32)), .val (.int (144 : Int32)), .val (.int (191 : Int32)), .unset, .unset]) rfl (XS.iloadN X0.here hx rfl (hb hby sa_d123) rfl (XS.sipush X0.here hx rfl (hb hby sa_d124) k))))) ?_
              show own_Dn p e below s _ _ _ (T0.setTop (mkF m 127 #[.val (.ref b0), .val (.int (0 : Int32)), .val (.int p2), .val (.int ((w_g ((0 : Int32)).toNatClampNeg) &&& (255 : Int32))), .val (.int (4 : Int32)), .val (.int (144 : Int32)), .val (.int (191 : Int32)), .unset, .unset] [(.int (244 : Int32)), (.int ((w_g ((0 : Int32)).toNatClampNeg) &&& (255 : Int32)))]))
              by_cases hc36 : ((w_g ((0 : Int32)).toNatClampNeg) &&& (255 : Int32)) = (244 : Int32)
              · refine own_st (fun _ k => XS.icmpNo X0.here hx rfl (hb hby sa_d127) rfl (teq hc36).2 k) ?_
                show own_Dn p e below s _ _ _ (T0.setTop (mkF m 130 #[.val (.ref b0), .val (.int (0 : Int32)), .val (.int p2), .val (.int ((w_g ((0 : Int32)).toNatClampNeg) &&& (255 : Int32))), .val (.int (4 : Int32)), .val (.int (144 : Int32)), .val (.int (191 : Int32)), .unset, .unset] []))
                refine own_st (fun _ k => XS.sipush X0.here hx rfl (hb hby sa_d130) (XS.goto X0.here hx rfl (pc0 := 133) (pc' := 138) rfl (hb hby sa_d133) (by decide) (by decide) (XS.istore X0.here hx rfl (hb hby sa_d138) rfl (l' := #[.val (.ref b0), .val (.int (0 : Int32)), .val (.int p2), .val (.int ((w_g ((0 : Int32)).toNatClampNeg) &&& (255 : Int32))), .val (.int (4 : Int32)), .val (.int (144 : Int32)), .val (.int (143 : Int32)), .unset, .unset]) rfl (XS.goto X0.here hx rfl (pc0 := 140) (pc' := 145) rfl (hb hby sa_d140) (by decide) (by decide) k)))) ?_
                show own_Dn p e below s _ _ _ (T0.setTop (mkF m 145 #[.val (.ref b0), .val (.int (0 : Int32)), .val (.int p2), .val (.int ((w_g ((0 : Int32)).toNatClampNeg) &&& (255 : Int32))), .val (.int (4 : Int32)), .val (.int (144 : Int32)), .val (.int (143 : Int32)), .unset, .unset] []))
                exact sa_c145k4 C0 X0 e0 N0 (((w_g ((0 : Int32)).toNatClampNeg) &&& (255 : Int32))) ((144 : Int32)) ((143 : Int32)) Z0 P0 (by rw [hr0, sa_f, if_neg hc27, if_neg hc28, if_neg hc29, if_neg hc30, if_pos hc34, if_pos hc35, if_pos hc36])
              · refine own_st (fun _ k => XS.icmpYes X0.here hx rfl (pc0 := 127) (pc' := 136) rfl (hb hby sa_d127) rfl (feq hc36).2 (by decide) (by decide) k) ?_
                show own_Dn p e below s _ _ _ (T0.setTop (mkF m 136 #[.val (.ref b0), .val (.int (0 : Int32)), .val (.int p2), .val (.int ((w_g ((0 : Int32)).toNatClampNeg) &&& (255 : Int32))), .val (.int (4 : Int32)), .val (.int (144 : Int32)), .val (.int (191 : Int32)), .unset, .unset] []))
                refine own_st (fun _ k => XS.iload X0.here hx rfl (hb hby sa_d136) rfl (XS.istore X0.here hx rfl (hb hby sa_d138) rfl (l' := #[.val (.ref b0), .val (.int (0 : Int32)), .val (.int p2), .val (.int ((w_g ((0 : Int32)).toNatClampNeg) &&& (255 : Int32))), .val (.int (4 : Int32)), .val (.int (144 : Int32)), .val (.int (191 : Int32)), .unset, .unset]) rfl (XS.goto X0.here hx rfl (pc0 := 140) (pc' := 145) rfl (hb hby sa_d140) (by decide) (by decide) k))) ?_
                show own_Dn p e below s _ _ _ (T0.setTop (mkF m 145 #[.val (.ref b0), .val (.int (0 : Int32)), .val (.int p2), .val (.int ((w_g ((0 : Int32)).toNatClampNeg) &&& (255 : Int32))), .val (.int (4 : Int32)), .val (.int (144 : Int32)), .val (.int (191 : Int32)), .unset, .unset] []))
                exact sa_c145k4 C0 X0 e0 N0 (((w_g ((0 : Int32)).toNatClampNeg) &&& (255 : Int32))) ((144 : Int32)) ((191 : Int32)) Z0 P0 (by rw [hr0, sa_f, if_neg hc27, if_neg hc28, if_neg hc29, if_neg hc30, if_pos hc34, if_pos hc35, if_neg hc36])
            · refine own_st (fun _ k => XS.icmpYes X0.here hx rfl (pc0 := 110) (pc' := 119) rfl (hb hby sa_d110) rfl (feq hc35).2 (by decide) (by decide) k) ?_
              show own_Dn p e below s _ _ _ (T0.setTop (mkF m 119 #[.val (.ref b0), .val (.int (0 : Int32)), .val (.int p2), .val (.int ((w_g ((0 : Int32)).toNatClampNeg) &&& (255 : Int32))), .val (.int (4 : Int32)), .val (.int (128 : Int32)), .val (.int (191 : Int32)), .unset, .unset] []))
              refine own_st (fun _ k => XS.iload X0.here hx rfl (hb hby sa_d119) rfl (XS.istore X0.here hx rfl (hb hby sa_d121) rfl (l' := #[.val (.ref b0), .val (.int (0 : Int32)), .val (.int p2), .val (.int ((w_g ((0 : Int32)).toNatClampNeg) &&& (255 : Int32))), .val (.int (4 : Int32)), .val (.int (128 : Int32)), .val (.int (191 : Int32)), .unset, .unset]) rfl (XS.iloadN X0.here hx rfl (hb hby sa_d123) rfl (XS.sipush X0.here hx rfl (hb hby sa_d124) k)))) ?_
              show own_Dn p e below s _ _ _ (T0.setTop (mkF m 127 #[.val (.ref b0), .val (.int (0 : Int32)), .val (.int p2), .val (.int ((w_g ((0 : Int32)).toNatClampNeg) &&& (255 : Int32))), .val (.int (4 : Int32)), .val (.int (128 : Int32)), .val (.int (191 : Int32)), .unset, .unset] [(.int (244 : Int32)), (.int ((w_g ((0 : Int32)).toNatClampNeg) &&& (255 : Int32)))]))
              by_cases hc37 : ((w_g ((0 : Int32)).toNatClampNeg) &&& (255 : Int32)) = (244 : Int32)
              · refine own_st (fun _ k => XS.icmpNo X0.here hx rfl (hb hby sa_d127) rfl (teq hc37).2 k) ?_
                show own_Dn p e below s _ _ _ (T0.setTop (mkF m 130 #[.val (.ref b0), .val (.int (0 : Int32)), .val (.int p2), .val (.int ((w_g ((0 : Int32)).toNatClampNeg) &&& (255 : Int32))), .val (.int (4 : Int32)), .val (.int (128 : Int32)), .val (.int (191 : Int32)), .unset, .unset] []))
                refine own_st (fun _ k => XS.sipush X0.here hx rfl (hb hby sa_d130) (XS.goto X0.here hx rfl (pc0 := 133) (pc' := 138) rfl (hb hby sa_d133) (by decide) (by decide) (XS.istore X0.here hx rfl (hb hby sa_d138) rfl (l' := #[.val (.ref b0), .val (.int (0 : Int32)), .val (.int p2), .val (.int ((w_g ((0 : Int32)).toNatClampNeg) &&& (255 : Int32))), .val (.int (4 : Int32)), .val (.int (128 : Int32)), .val (.int (143 : Int32)), .unset, .unset]) rfl (XS.goto X0.here hx rfl (pc0 := 140) (pc' := 145) rfl (hb hby sa_d140) (by decide) (by decide) k)))) ?_
                show own_Dn p e below s _ _ _ (T0.setTop (mkF m 145 #[.val (.ref b0), .val (.int (0 : Int32)), .val (.int p2), .val (.int ((w_g ((0 : Int32)).toNatClampNeg) &&& (255 : Int32))), .val (.int (4 : Int32)), .val (.int (128 : Int32)), .val (.int (143 : Int32)), .unset, .unset] []))
                exact sa_c145k4 C0 X0 e0 N0 (((w_g ((0 : Int32)).toNatClampNeg) &&& (255 : Int32))) ((128 : Int32)) ((143 : Int32)) Z0 P0 (by rw [hr0, sa_f, if_neg hc27, if_neg hc28, if_neg hc29, if_neg hc30, if_pos hc34, if_neg hc35, if_pos hc37])
              · refine own_st (fun _ k => XS.icmpYes X0.here hx rfl (pc0 := 127) (pc' := 136) rfl (hb hby sa_d127) rfl (feq hc37).2 (by decide) (by decide) k) ?_
                show own_Dn p e below s _ _ _ (T0.setTop (mkF m 136 #[.val (.ref b0), .val (.int (0 : Int32)), .val (.int p2), .val (.int ((w_g ((0 : Int32)).toNatClampNeg) &&& (255 : Int32))), .val (.int (4 : Int32)), .val (.int (128 : Int32)), .val (.int (191 : Int32)), .unset, .unset] []))
                refine own_st (fun _ k => XS.iload X0.here hx rfl (hb hby sa_d136) rfl (XS.istore X0.here hx rfl (hb hby sa_d138) rfl (l' := #[.val (.ref b0), .val (.int (0 : Int32)), .val (.int p2), .val (.int ((w_g ((0 : Int32)).toNatClampNeg) &&& (255 : Int32))), .val (.int (4 : Int32)), .val (.int (128 : Int32)), .val (.int (191 : Int32)), .unset, .unset]) rfl (XS.goto X0.here hx rfl (pc0 := 140) (pc' := 145) rfl (hb hby sa_d140) (by decide) (by decide) k))) ?_
                show own_Dn p e below s _ _ _ (T0.setTop (mkF m 145 #[.val (.ref b0), .val (.int (0 : Int32)), .val (.int p2), .val (.int ((w_g ((0 : Int32)).toNatClampNeg) &&& (255 : Int32))), .val (.int (4 : Int32)), .val (.int (128 : Int32)), .val (.int (191 : Int32)), .unset, .unset] []))
                exact sa_c145k4 C0 X0 e0 N0 (((w_g ((0 : Int32)).toNatClampNeg) &&& (255 : Int32))) ((128 : Int32)) ((191 : Int32)) Z0 P0 (by rw [hr0, sa_f, if_neg hc27, if_neg hc28, if_neg hc29, if_neg hc30, if_pos hc34, if_neg hc35, if_neg hc37])
          · refine own_st (fun _ k => XS.icmpYes X0.here hx rfl (pc0 := 100) (pc' := 143) rfl (hb hby sa_d100) rfl (flt hc34).2.1 (by decide) (by decide) k) ?_
            show own_Dn p e below s _ _ _ (T0.setTop (mkF m 143 #[.val (.ref b0), .val (.int (0 : Int32)), .val (.int p2), .val (.int ((w_g ((0 : Int32)).toNatClampNeg) &&& (255 : Int32))), .unset, .val (.int (128 : Int32)), .val (.int (191 : Int32)), .unset, .unset] []))
            refine own_st (fun _ k => XS.iconst X0.here hx rfl (hb hby sa_d143) k) ?_
            show own_Dn p e below s _ _ _ (T0.setTop (mkF m 144 #[.val (.ref b0), .val (.int (0 : Int32)), .val (.int p2), .val (.int ((w_g ((0 : Int32)).toNatClampNeg) &&& (255 : Int32))), .unset, .val (.int (128 : Int32)), .val (.int (191 : Int32)), .unset, .unset] [(.int (-1 : Int32))]))
            exact own_retI X0 hx hret hlk (hb hby sa_d144) (by decide) (by decide) ⟨(by rw [hr0, sa_f, if_neg hc27, if_neg hc28, if_neg hc29, if_neg hc30, if_neg hc34]), N0, e0⟩
theorem sa_ef (m : MethodId) (b0 : Addr) (p2 : Int32) : entryFrame m #[(.ref b0), (.int (0 : Int32)), (.int p2)] 9 = mkF m 0 #[.val (.ref b0), .val (.int (0 : Int32)), .val (.int p2), .unset, .unset, .unset, .unset, .unset, .unset] [] := by first | (simp [entryFrame, mkF, argsToLocals, Value.category]; done) | rfl
theorem sa_rm (l : Launch) (Z : State) (a0 : Array Value) (hw : ∀ d ∈ tables_1, d.before a0 Z = true) (ws : List Jvm.Cond) (b0 : Addr) (p2 : Int32) (w_g : Nat → Int32) (h0 : Heap) (n0 : Nat) (Z0 : n0 ≤ h0.size) (P0 : own_Arf Z h0 b0 .byte 6 (fun i => (.int (w_g i)))) :
    MetFree l (⟨"com/example/xylograph/xylograph/io/Utf8", "sequenceLength", "([BII)I"⟩ : MethodName) (head1 (Jvm.Cond.code (⟨"com/example/xylograph/xylograph/io/Utf8", "sequenceLength", "([BII)I"⟩ : MethodName) prog_31_method_2_code 9 (some .int) :: ws) ({ frames := 0, cells := 0, slots := 0, locals := 0 } : Room)) (fun a U => a = #[(.ref b0), (.int (0 : Int32)), (.int p2)] ∧ Z.Warmed39 U.vm ∧ U.heap = h0) (fun _ _ _ _ _ => True) (fun _ U o U' => ∃ v L, o = .returned v ∧ (own_Q (some (.int (sa_f p2 w_g))) n0 h0) v U'.heap L ∧ FrameEnd U o U' L ({ frames := 0, cells := 0, slots := 0, locals := 0 } : Room).cells ({ frames := 0, cells := 0, slots := 0, locals := 0 } : Room).slots) :=
  own_met hw (plainFor_of_name (by first | (simp [plainName, overriddenIn]; done) | decide +kernel)) (fun p e s m below meth c T0 C0 X0 e0 => own_st (fun _ k => castTop (sa_ef m b0 p2) k) (sa_c0 C0 X0 e0 (Fr.nil n0) Z0 P0 rfl))
theorem sb_d0 : decode prog_31_method_2_code 0 = .ok (.aload_n 0, 1) := by decide +kernel
theorem sb_d1 : decode prog_31_method_2_code 1 = .ok (.iload_n 1, 1) := by decide +kernel
theorem sb_d2 : decode prog_31_method_2_code 2 = .ok (.baload, 1) := by decide +kernel
theorem sb_d3 : decode prog_31_method_2_code 3 = .ok (.sipush 255, 3) := by decide +kernel
theorem sb_d6 : decode prog_31_method_2_code 6 = .ok (.iand, 1) := by decide +kernel
theorem sb_d7 : decode prog_31_method_2_code 7 = .ok (.istore_n 3, 1) := by decide +kernel
theorem sb_d8 : decode prog_31_method_2_code 8 = .ok (.iload_n 3, 1) := by decide +kernel
theorem sb_d9 : decode prog_31_method_2_code 9 = .ok (.sipush 128, 3) := by decide +kernel
theorem sb_d12 : decode prog_31_method_2_code 12 = .ok (.if_icmp .ge 5, 3) := by decide +kernel
theorem sb_d15 : decode prog_31_method_2_code 15 = .ok (.iconst 1, 1) := by decide +kernel
theorem sb_d16 : decode prog_31_method_2_code 16 = .ok (.ireturn, 1) := by decide +kernel
theorem sb_d17 : decode prog_31_method_2_code 17 = .ok (.sipush 128, 3) := by decide +kernel
theorem sb_d20 : decode prog_31_method_2_code 20 = .ok (.istore 5, 2) := by decide +kernel
theorem sb_d22 : decode prog_31_method_2_code 22 = .ok (.sipush 191, 3) := by decide +kernel
theorem sb_d25 : decode prog_31_method_2_code 25 = .ok (.istore 6, 2) := by decide +kernel
theorem sb_d27 : decode prog_31_method_2_code 27 = .ok (.iload_n 3, 1) := by decide +kernel
theorem sb_d28 : decode prog_31_method_2_code 28 = .ok (.sipush 194, 3) := by decide +kernel
theorem sb_d31 : decode prog_31_method_2_code 31 = .ok (.if_icmp .ge 5, 3) := by decide +kernel
theorem sb_d34 : decode prog_31_method_2_code 34 = .ok (.iconst (-1), 1) := by decide +kernel
theorem sb_d35 : decode prog_31_method_2_code 35 = .ok (.ireturn, 1) := by decide +kernel
theorem sb_d36 : decode prog_31_method_2_code 36 = .ok (.iload_n 3, 1) := by decide +kernel
theorem sb_d37 : decode prog_31_method_2_code 37 = .ok (.sipush 224, 3) := by decide +kernel
theorem sb_d40 : decode prog_31_method_2_code 40 = .ok (.if_icmp .ge 9, 3) := by decide +kernel
theorem sb_d43 : decode prog_31_method_2_code 43 = .ok (.iconst 2, 1) := by decide +kernel
theorem sb_d44 : decode prog_31_method_2_code 44 = .ok (.istore 4, 2) := by decide +kernel
theorem sb_d46 : decode prog_31_method_2_code 46 = .ok (.goto 99, 3) := by decide +kernel
theorem sb_d49 : decode prog_31_method_2_code 49 = .ok (.iload_n 3, 1) := by decide +kernel
theorem sb_d50 : decode prog_31_method_2_code 50 = .ok (.sipush 240, 3) := by decide +kernel
theorem sb_d53 : decode prog_31_method_2_code 53 = .ok (.if_icmp .ge 43, 3) := by decide +kernel
theorem sb_d56 : decode prog_31_method_2_code 56 = .ok (.iconst 3, 1) := by decide +kernel
theorem sb_d57 : decode prog_31_method_2_code 57 = .ok (.istore 4, 2) := by decide +kernel
theorem sb_d59 : decode prog_31_method_2_code 59 = .ok (.iload_n 3, 1) := by decide +kernel
theorem sb_d60 : decode prog_31_method_2_code 60 = .ok (.sipush 224, 3) := by decide +kernel
theorem sb_d63 : decode prog_31_method_2_code 63 = .ok (.if_icmp .ne 9, 3) := by decide +kernel
theorem sb_d66 : decode prog_31_method_2_code 66 = .ok (.sipush 160, 3) := by decide +kernel
theorem sb_d69 : decode prog_31_method_2_code 69 = .ok (.goto 5, 3) := by decide +kernel
theorem sb_d72 : decode prog_31_method_2_code 72 = .ok (.iload 5, 2) := by decide +kernel
theorem sb_d74 : decode prog_31_method_2_code 74 = .ok (.istore 5, 2) := by decide +kernel
theorem sb_d76 : decode prog_31_method_2_code 76 = .ok (.iload_n 3, 1) := by decide +kernel
theorem sb_d77 : decode prog_31_method_2_code 77 = .ok (.sipush 237, 3) := by decide +kernel
theorem sb_d80 : decode prog_31_method_2_code 80 = .ok (.if_icmp .ne 9, 3) := by decide +kernel
theorem sb_d83 : decode prog_31_method_2_code 83 = .ok (.sipush 159, 3) := by decide +kernel
theorem sb_d86 : decode prog_31_method_2_code 86 = .ok (.goto 5, 3) := by decide +kernel
theorem sb_d89 : decode prog_31_method_2_code 89 = .ok (.iload 6, 2) := by decide +kernel
theorem sb_d91 : decode prog_31_method_2_code 91 = .ok (.istore 6, 2) := by decide +kernel
theorem sb_d93 : decode prog_31_method_2_code 93 = .ok (.goto 52, 3) := by decide +kernel
theorem sb_d96 : decode prog_31_method_2_code 96 = .ok (.iload_n 3, 1) := by decide +kernel
theorem sb_d97 : decode prog_31_method_2_code 97 = .ok (.sipush 245, 3) := by decide +kernel
theorem sb_d100 : decode prog_31_method_2_code 100 = .ok (.if_icmp .ge 43, 3) := by decide +kernel
theorem sb_d103 : decode prog_31_method_2_code 103 = .ok (.iconst 4, 1) := by decide +kernel
theorem sb_d104 : decode prog_31_method_2_code 104 = .ok (.istore 4, 2) := by decide +kernel
theorem sb_d106 : decode prog_31_method_2_code 106 = .ok (.iload_n 3, 1) := by decide +kernel
theorem sb_d107 : decode prog_31_method_2_code 107 = .ok (.sipush 240, 3) := by decide +kernel
theorem sb_d110 : decode prog_31_method_2_code 110 = .ok (.if_icmp .ne 9, 3) := by decide +kernel
theorem sb_d113 : decode prog_31_method_2_code 113 = .ok (.sipush 144, 3) := by decide +kernel
theorem sb_d116 : decode prog_31_method_2_code 116 = .ok (.goto 5, 3) := by decide +kernel
theorem sb_d119 : decode prog_31_method_2_code 119 = .ok (.iload 5, 2) := by decide +kernel
theorem sb_d121 : decode prog_31_method_2_code 121 = .ok (.istore 5, 2) := by decide +kernel
theorem sb_d123 : decode prog_31_method_2_code 123 = .ok (.iload_n 3, 1) := by decide +kernel
theorem sb_d124 : decode prog_31_method_2_code 124 = .ok (.sipush 244, 3) := by decide +kernel
theorem sb_d127 : decode prog_31_method_2_code 127 = .ok (.if_icmp .ne 9, 3) := by decide +kernel
theorem sb_d130 : decode prog_31_method_2_code 130 = .ok (.sipush 143, 3) := by decide +kernel
theorem sb_d133 : decode prog_31_method_2_code 133 = .ok (.goto 5, 3) := by decide +kernel
theorem sb_d136 : decode prog_31_method_2_code 136 = .ok (.iload 6, 2) := by decide +kernel
theorem sb_d138 : decode prog_31_method_2_code 138 = .ok (.istore 6, 2) := by decide +kernel
theorem sb_d140 : decode prog_31_method_2_code 140 = .ok (.goto 5, 3) := by decide +kernel
theorem sb_d143 : decode prog_31_method_2_code 143 = .ok (.iconst (-1), 1) := by decide +kernel
theorem sb_d144 : decode prog_31_method_2_code 144 = .ok (.ireturn, 1) := by decide +kernel
theorem sb_d145 : decode prog_31_method_2_code 145 = .ok (.iload_n 1, 1) := by decide +kernel
theorem sb_d146 : decode prog_31_method_2_code 146 = .ok (.iconst 1, 1) := by decide +kernel
theorem sb_d147 : decode prog_31_method_2_code 147 = .ok (.iadd, 1) := by decide +kernel
theorem sb_d148 : decode prog_31_method_2_code 148 = .ok (.iload_n 2, 1) := by decide +kernel
theorem sb_d149 : decode prog_31_method_2_code 149 = .ok (.if_icmp .lt 5, 3) := by decide +kernel
theorem sb_d152 : decode prog_31_method_2_code 152 = .ok (.iconst 0, 1) := by decide +kernel
theorem sb_d153 : decode prog_31_method_2_code 153 = .ok (.ireturn, 1) := by decide +kernel
theorem sb_d154 : decode prog_31_method_2_code 154 = .ok (.aload_n 0, 1) := by decide +kernel
theorem sb_d155 : decode prog_31_method_2_code 155 = .ok (.iload_n 1, 1) := by decide +kernel
theorem sb_d156 : decode prog_31_method_2_code 156 = .ok (.iconst 1, 1) := by decide +kernel
theorem sb_d157 : decode prog_31_method_2_code 157 = .ok (.iadd, 1) := by decide +kernel
theorem sb_d158 : decode prog_31_method_2_code 158 = .ok (.baload, 1) := by decide +kernel
theorem sb_d159 : decode prog_31_method_2_code 159 = .ok (.sipush 255, 3) := by decide +kernel
theorem sb_d162 : decode prog_31_method_2_code 162 = .ok (.iand, 1) := by decide +kernel
theorem sb_d163 : decode prog_31_method_2_code 163 = .ok (.istore 7, 2) := by decide +kernel
theorem sb_d165 : decode prog_31_method_2_code 165 = .ok (.iload 7, 2) := by decide +kernel
theorem sb_d167 : decode prog_31_method_2_code 167 = .ok (.iload 5, 2) := by decide +kernel
theorem sb_d169 : decode prog_31_method_2_code 169 = .ok (.if_icmp .lt 10, 3) := by decide +kernel
theorem sb_d172 : decode prog_31_method_2_code 172 = .ok (.iload 7, 2) := by decide +kernel
theorem sb_d174 : decode prog_31_method_2_code 174 = .ok (.iload 6, 2) := by decide +kernel
theorem sb_d176 : decode prog_31_method_2_code 176 = .ok (.if_icmp .le 5, 3) := by decide +kernel
theorem sb_d179 : decode prog_31_method_2_code 179 = .ok (.iconst (-1), 1) := by decide +kernel
theorem sb_d180 : decode prog_31_method_2_code 180 = .ok (.ireturn, 1) := by decide +kernel
theorem sb_d181 : decode prog_31_method_2_code 181 = .ok (.iload_n 1, 1) := by decide +kernel
theorem sb_d182 : decode prog_31_method_2_code 182 = .ok (.iconst 2, 1) := by decide +kernel
theorem sb_d183 : decode prog_31_method_2_code 183 = .ok (.iadd, 1) := by decide +kernel
theorem sb_d184 : decode prog_31_method_2_code 184 = .ok (.istore 8, 2) := by decide +kernel
theorem sb_d186 : decode prog_31_method_2_code 186 = .ok (.iload 8, 2) := by decide +kernel
theorem sb_d188 : decode prog_31_method_2_code 188 = .ok (.iload_n 1, 1) := by decide +kernel
theorem sb_d189 : decode prog_31_method_2_code 189 = .ok (.iload 4, 2) := by decide +kernel
theorem sb_d191 : decode prog_31_method_2_code 191 = .ok (.iadd, 1) := by decide +kernel
theorem sb_d192 : decode prog_31_method_2_code 192 = .ok (.if_icmp .ge 33, 3) := by decide +kernel
theorem sb_d195 : decode prog_31_method_2_code 195 = .ok (.iload 8, 2) := by decide +kernel
theorem sb_d197 : decode prog_31_method_2_code 197 = .ok (.iload_n 2, 1) := by decide +kernel
theorem sb_d198 : decode prog_31_method_2_code 198 = .ok (.if_icmp .lt 5, 3) := by decide +kernel
theorem sb_d201 : decode prog_31_method_2_code 201 = .ok (.iconst 0, 1) := by decide +kernel
theorem sb_d202 : decode prog_31_method_2_code 202 = .ok (.ireturn, 1) := by decide +kernel
theorem sb_d203 : decode prog_31_method_2_code 203 = .ok (.aload_n 0, 1) := by decide +kernel
theorem sb_d204 : decode prog_31_method_2_code 204 = .ok (.iload 8, 2) := by decide +kernel
theorem sb_d206 : decode prog_31_method_2_code 206 = .ok (.baload, 1) := by decide +kernel
theorem sb_d207 : decode prog_31_method_2_code 207 = .ok (.sipush 192, 3) := by decide +kernel
theorem sb_d210 : decode prog_31_method_2_code 210 = .ok (.iand, 1) := by decide +kernel
theorem sb_d211 : decode prog_31_method_2_code 211 = .ok (.sipush 128, 3) := by decide +kernel
theorem sb_d214 : decode prog_31_method_2_code 214 = .ok (.if_icmp .eq 5, 3) := by decide +kernel
theorem sb_d217 : decode prog_31_method_2_code 217 = .ok (.iconst (-1), 1) := by decide +kernel
theorem sb_d218 : decode prog_31_method_2_code 218 = .ok (.ireturn, 1) := by decide +kernel
theorem sb_d219 : decode prog_31_method_2_code 219 = .ok (.iinc 8 1, 3) := by decide +kernel
theorem sb_d222 : decode prog_31_method_2_code 222 = .ok (.goto (-36), 3) := by decide +kernel
theorem sb_d225 : decode prog_31_method_2_code 225 = .ok (.iload 4, 2) := by decide +kernel
theorem sb_d227 : decode prog_31_method_2_code 227 = .ok (.ireturn, 1) := by decide +kernel
def sb_f145k4 (p2 : Int32) (w_g : Nat → Int32) (v3 : Int32) (v5 : Int32) (v6 : Int32) : Int32 :=
  if (2 : Int32) < p2 then
    if ((w_g ((2 : Int32)).toNatClampNeg) &&& (255 : Int32)) < v5 then
      (-1 : Int32)
    else
      if v6 < ((w_g ((2 : Int32)).toNatClampNeg) &&& (255 : Int32)) then
        (-1 : Int32)
      else
        if (3 : Int32) < p2 then
          if ((w_g ((3 : Int32)).toNatClampNeg) &&& (192 : Int32)) = (128 : Int32) then
            if (4 : Int32) < p2 then
              if ((w_g ((4 : Int32)).toNatClampNeg) &&& (192 : Int32)) = (128 : Int32) then
                (4 : Int32)
              else
                (-1 : Int32)
            else
              (0 : Int32)
          else
            (-1 : Int32)
        else
          (0 : Int32)
  else
    (0 : Int32)
set_option maxRecDepth 65536 in
set_option maxHeartbeats 40000000 in
theorem sb_c145k4 {l : Launch} {Z : State} {a0 : Array Value} {b0 : Addr} {p2 : Int32} {w_g : Nat → Int32} {h0 : Heap} {n0 : Nat} {p : Program} {e : Env} {s : State} {m : MethodId} {args : Array Value} {below : List Frame} {meth : Method} {c : Code} {T0 : State} {locs : List Loc} {r0 : Int32} (C0 : own_Cx p s m meth c Z a0 prog_31_method_2_code 9 "com/example/xylograph/xylograph/io/Utf8" "sequenceLength" (some .int)) (X0 : Stand p l e ({ frames := 0, cells := 0, slots := 0, locals := 0 } : Room) s m args below meth c T0 locs 0 0) (e0 : T0.heap = h0) (N0 : Fr n0 locs) (v3 : Int32) (v5 : Int32) (v6 : Int32) (Z0 : n0 ≤ h0.size) (P1 : own_Arf Z h0 b0 .byte 6 (fun i => (.int (w_g i)))) (hr0 : r0 = sb_f145k4 p2 w_g v3 v5 v6) :
    own_Dn p e below s (own_Q (some (.int r0)) n0 h0) ({ frames := 0, cells := 0, slots := 0, locals := 0 } : Room).cells ({ frames := 0, cells := 0, slots := 0, locals := 0 } : Room).slots (T0.setTop (mkF m 145 #[.val (.ref b0), .val (.int (1 : Int32)), .val (.int p2), .val (.int v3), .val (.int (4 : Int32)), .val (.int v5), .val (.int v6), .unset, .unset] [])) := by
  obtain ⟨hx, hZ, hw, hby, hml, hown, hret, hlk, hnm⟩ := id C0
  refine own_st (fun _ k => XS.iloadN X0.here hx rfl (hb hby sb_d145) rfl (XS.iconst X0.here hx rfl (hb hby sb_d146) (XS.iadd X0.here hx rfl (hb hby sb_d147) rfl (XS.iloadN X0.here hx rfl (hb hby sb_d148) rfl k)))) ?_
  show own_Dn p e below s _ _ _ (T0.setTop (mkF m 149 #[.val (.ref b0), .val (.int (1 : Int32)), .val (.int p2), .val (.int v3), .val (.int (4 : Int32)), .val (.int v5), .val (.int v6), .unset, .unset] [(.int p2), (.int (2 : Int32))]))
  by_cases hc46 : (2 : Int32) < p2
  · refine own_st (fun _ k => XS.icmpYes X0.here hx rfl (pc0 := 149) (pc' := 154) rfl (hb hby sb_d149) rfl (tlt hc46).1 (by decide) (by decide) k) ?_
    show own_Dn p e below s _ _ _ (T0.setTop (mkF m 154 #[.val (.ref b0), .val (.int (1 : Int32)), .val (.int p2), .val (.int v3), .val (.int (4 : Int32)), .val (.int v5), .val (.int v6), .unset, .unset] []))
    refine own_st (fun _ k => XS.aloadN X0.here hx rfl (hb hby sb_d154) rfl rfl (XS.iloadN X0.here hx rfl (hb hby sb_d155) rfl (XS.iconst X0.here hx rfl (hb hby sb_d156) (XS.iadd X0.here hx rfl (hb hby sb_d157) rfl k)))) ?_
    show own_Dn p e below s _ _ _ (T0.setTop (mkF m 158 #[.val (.ref b0), .val (.int (1 : Int32)), .val (.int p2), .val (.int v3), .val (.int (4 : Int32)), .val (.int v5), .val (.int v6), .unset, .unset] [(.int (2 : Int32)), (.ref b0)]))
    refine own_st (own_ldB (pc := 158) (L := #[.val (.ref b0), .val (.int (1 : Int32)), .val (.int p2), .val (.int v3), .val (.int (4 : Int32)), .val (.int v5), .val (.int v6), .unset, .unset]) (rest := []) X0 hx hZ e0 P1 (j := (2 : Int32)) (by decide) (by decide) (hb hby sb_d158)) ?_
    show own_Dn p e below s _ _ _ (T0.setTop (mkF m 159 #[.val (.ref b0), .val (.int (1 : Int32)), .val (.int p2), .val (.int v3), .val (.int (4 : Int32)), .val (.int v5), .val (.int v6), .unset, .unset] [(.int (w_g ((2 : Int32)).toNatClampNeg))]))
    refine own_st (fun _ k => XS.sipush X0.here hx rfl (hb hby sb_d159) (XS.iand X0.here hx rfl (hb hby sb_d162) rfl (XS.istore X0.here hx rfl (hb hby sb_d163) rfl (l' := #[.val (.ref b0), .val (.int (1 : Int32)), .val (.int p2), .val (.int v3), .val (.int (4 : Int32)), .val (.int v5), .val (.int v6), .val (.int ((w_g ((2 : Int32)).toNatClampNeg) &&& (255 : Int32))), .unset]) rfl (XS.iload X0.here hx rfl (hb hby sb_d165) rfl (XS.iload X0.here hx rfl (hb hby sb_d167) rfl k))))) ?_
    show own_Dn p e below s _ _ _ (T0.setTop (mkF m 169 #[.val (.ref b0), .val (.int (1 : Int32)), .val (.int p2), .val (.int v3), .val (.int (4 : Int32)), .val (.int v5), .val (.int v6), .val (.int ((w_g ((2 : Int32)).toNatClampNeg) &&& (255 : Int32))), .unset] [(.int v5), (.int ((w_g ((2 : Int32)).toNatClampNeg) &&& (255 : Int32)))]))
    by_cases hc47 : ((w_g ((2 : Int32)).toNatClampNeg) &&& (255 : Int32)) < v5
    · refine own_st (fun _ k => XS.icmpYes X0.here hx rfl (pc0 := 169) (pc' := 179) rfl (hb hby sb_d169) rfl (tlt hc47).1 (by decide) (by decide) k) ?_
      show own_Dn p e below s _ _ _ (T0.setTop (mkF m 179 #[.val (.ref b0), .val (.int (1 : Int32)), .val (.int p2), .val (.int v3), .val (.int (4 : Int32)), .val (.int v5), .val (.int v6), .val (.int ((w_g ((2 : Int32)).toNatClampNeg) &&& (255 : Int32))), .unset] []))
      refine own_st (fun _ k => XS.iconst X0.here hx rfl (hb hby sb_d179) k) ?_
      show own_Dn p e below s _ _ _ (T0.setTop (mkF m 180 #[.val (.ref b0), .val (.int (1 : Int32)), .val (.int p2), .val (.int v3), .val (.int (4 : Int32)), .val (.int v5), .val (.int v6), .val (.int ((w_g ((2 : Int32)).toNatClampNeg) &&& (255 : Int32))), .unset] [(.int (-1 : Int32))]))
      exact own_retI X0 hx hret hlk (hb hby sb_d180) (by decide) (by decide) ⟨(by rw [hr0, sb_f145k4, if_pos hc46, if_pos hc47]), N0, e0⟩
    · refine own_st (fun _ k => XS.icmpNo X0.here hx rfl (hb hby sb_d169) rfl (flt hc47).1 k) ?_
      show own_Dn p e below s _ _ _ (T0.setTop (mkF m 172 #[.val (.ref b0), .val (.int (1 : Int32)), .val (.int p2), .val (.int v3), .val (.int (4 : Int32)), .val (.int v5), .val (.int v6), .val (.int ((w_g ((2 : Int32)).toNatClampNeg) &&& (255 : Int32))), .unset] []))
      refine own_st (fun _ k => XS.iload X0.here hx rfl (hb hby sb_d172) rfl (XS.iload X0.here hx rfl (hb hby sb_d174) rfl k)) ?_
      show own_Dn p e below s _ _ _ (T0.setTop (mkF m 176 #[.val (.ref b0), .val (.int (1 : Int32)), .val (.int p2), .val (.int v3), .val (.int (4 : Int32)), .val (.int v5), .val (.int v6), .val (.int ((w_g ((2 : Int32)).toNatClampNeg) &&& (255 : Int32))), .unset] [(.int v6), (.int ((w_g ((2 : Int32)).toNatClampNeg) &&& (255 : Int32)))]))
      by_cases hc48 : v6 < ((w_g ((2 : Int32)).toNatClampNeg) &&& (255 : Int32))
      · refine own_st (fun _ k => XS.icmpNo X0.here hx rfl (hb hby sb_d176) rfl (tlt hc48).2.2.2 k) ?_
        show own_Dn p e below s _ _ _ (T0.setTop (mkF m 179 #[.val (.ref b0), .val (.int (1 : Int32)), .val (.int p2), .val (.int v3), .val (.int (4 : Int32)), .val (.int v5), .val (.int v6), .val (.int ((w_g ((2 : Int32)).toNatClampNeg) &&& (255 : Int32))), .unset] []))
        refine own_st (fun _ k => XS.iconst X0.here hx rfl (hb hby sb_d179) k) ?_
        show own_Dn p e below s _ _ _ (T0.setTop (mkF m 180 #[.val (.ref b0), .val (.int (1 : Int32)), .val (.int p2), .val (.int v3), .val (.int (4 : Int32)), .val (.int v5), .val (.int v6), .val (.int ((w_g ((2 : Int32)).toNatClampNeg) &&& (255 : Int32))), .unset] [(.int (-1 : Int32))]))
        exact own_retI X0 hx hret hlk (hb hby sb_d180) (by decide) (by decide) ⟨(by rw [hr0, sb_f145k4, if_pos hc46, if_neg hc47, if_pos hc48]), N0, e0⟩
      · refine own_st (fun _ k => XS.icmpYes X0.here hx rfl (pc0 := 176) (pc' := 181) rfl (hb hby sb_d176) rfl (flt hc48).2.2.2 (by decide) (by decide) k) ?_
        show own_Dn p e below s _ _ _ (T0.setTop (mkF m 181 #[.val (.ref b0), .val (.int (1 : Int32)), .val (.int p2), .val (.int v3), .val (.int (4 : Int32)), .val (.int v5), .val (.int v6), .val (.int ((w_g ((2 : Int32)).toNatClampNeg) &&& (255 : Int32))), .unset] []))
        refine own_st (fun _ k => XS.iloadN X0.here hx rfl (hb hby sb_d181) rfl (XS.iconst X0.here hx rfl (hb hby sb_d182) (XS.iadd X0.here hx rfl (hb hby sb_d183) rfl (XS.istore X0.here hx rfl (hb hby sb_d184) rfl (l' := #[.val (.ref b0), .val (.int (1 : Int32)), .val (.int p2), .val (.int v3), .val (.int (4 : Int32)), .val (.int v5), .val (.int v6), .val (.int ((w_g ((2 : Int32)).toNatClampNeg) &&& (255 : Int32))), .val (.int (3 : Int32))]) rfl (XS.iload X0.here hx rfl (hb hby sb_d186) rfl (XS.iloadN X0.here hx rfl (hb hby sb_d188) rfl (XS.iload X0.here hx rfl (hb hby sb_d189) rfl (XS.iadd X0.here hx rfl (hb hby sb_d191) rfl k)))))))) ?_
        show own_Dn p e below s _ _ _ (T0.setTop (mkF m 192 #[.val (.ref b0), .val (.int (1 : Int32)), .val (.int p2), .val (.int v3), .val (.int (4 : Int32)), .val (.int v5), .val (.int v6), .val (.int ((w_g ((2 : Int32)).toNatClampNeg) &&& (255 : Int32))), .val (.int (3 : Int32))] [(.int (5 : Int32)), (.int (3 : Int32))]))
        refine own_st (fun _ k => XS.icmpNo X0.here hx rfl (hb hby sb_d192) rfl (tlt (by decide : (3 : Int32) < (5 : Int32))).2.1 k) ?_
        show own_Dn p e below s _ _ _ (T0.setTop (mkF m 195 #[.val (.ref b0), .val (.int (1 : Int32)), .val (.int p2), .val (.int v3), .val (.int (4 : Int32)), .val (.int v5), .val (.int v6), .val (.int ((w_g ((2 : Int32)).toNatClampNeg) &&& (255 : Int32))), .val (.int (3 : Int32))] []))
        refine own_st (fun _ k => XS.iload X0.here hx rfl (hb hby sb_d195) rfl (XS.iloadN X0.here hx rfl (hb hby sb_d197) rfl k)) ?_
        show own_Dn p e below s _ _ _ (T0.setTop (mkF m 198 #[.val (.ref b0), .val (.int (1 : Int32)), .val (.int p2), .val (.int v3), .val (.int (4 : Int32)), .val (.int v5), .val (.int v6), .val (.int ((w_g ((2 : Int32)).toNatClampNeg) &&& (255 : Int32))), .val (.int (3 : Int32))] [(.int p2), (.int (3 : Int32))]))
        by_cases hc49 : (3 : Int32) < p2
        · refine own_st (fun _ k => XS.icmpYes X0.here hx rfl (pc0 := 198) (pc' := 203) rfl (hb hby sb_d198) rfl (tlt hc49).1 (by decide) (by decide) k) ?_
          show own_Dn p e below s _ _ _ (T0.setTop (mkF m 203 #[.val (.ref b0), .val (.int (1 : Int32)), .val (.int p2), .val (.int v3), .val (.int (4 : Int32)), .val (.int v5), .val (.int v6), .val (.int ((w_g ((2 : Int32)).toNatClampNeg) &&& (255 : Int32))), .val (.int (3 : Int32))] []))
          refine own_st (fun _ k => XS.aloadN X0.here hx rfl (hb hby sb_d203) rfl rfl (XS.iload X0.here hx rfl (hb hby sb_d204) rfl k)) ?_
          show own_Dn p e below s _ _ _ (T0.setTop (mkF m 206 #[.val (.ref b0), .val (.int (1 : Int32)), .val (.int p2), .val (.int v3), .val (.int (4 : Int32)), .val (.int v5), .val (.int v6), .val (.int ((w_g ((2 : Int32)).toNatClampNeg) &&& (255 : Int32))), .val (.int (3 : Int32))] [(.int (3 : Int32)), (.ref b0)]))
          refine own_st (own_ldB (pc := 206) (L := #[.val (.ref b0), .val (.int (1 : Int32)), .val (.int p2), .val (.int v3), .val (.int (4 : Int32)), .val (.int v5), .val (.int v6), .val (.int ((w_g ((2 : Int32)).toNatClampNeg) &&& (255 : Int32))), .val (.int (3 : Int32))]) (rest := []) X0 hx hZ e0 P1 (j := (3 : Int32)) (by decide) (by decide) (hb hby sb_d206)) ?_
          show own_Dn p e below s _ _ _ (T0.setTop (mkF m 207 #[.val (.ref b0), .val (.int (1 : Int32)), .val (.int p2), .val (.int v3), .val (.int (4 : Int32)), .val (.int v5), .val (.int v6), .val (.int ((w_g ((2 : Int32)).toNatClampNeg) &&& (255 : Int32))), .val (.int (3 : Int32))] [(.int (w_g ((3 : Int32)).toNatClampNeg))]))
          refine own_st (fun _ k => XS.sipush X0.here hx rfl (hb hby sb_d207) (XS.iand X0.here hx rfl (hb hby sb_d210) rfl (XS.sipush X0.here hx rfl (hb hby sb_d211) k))) ?_
          show own_Dn p e below s _ _ _ (T0.setTop (mkF m 214 #[.val (.ref b0), .val (.int (1 : Int32)), .val (.int p2), .val (.int v3), .val (.int (4 : Int32)), .val (.int v5), .val (.int v6), .val (.int ((w_g ((2 : Int32)).toNatClampNeg) &&& (255 : Int32))), .val (.int (3 : Int32))] [(.int (128 : Int32)), (.int ((w_g ((3 : Int32)).toNatClampNeg) &&& (192 : Int32)))]))
          by_cases hc50 : ((w_g ((3 : Int32)).toNatClampNeg) &&& (192 : Int32)) = (128 : Int32)
          · refine own_st (fun _ k => XS.icmpYes X0.here hx rfl (pc0 := 214) (pc' := 219) rfl (hb hby sb_d214) rfl (teq hc50).1 (by decide) (by decide) k) ?_
            show own_Dn p e below s _ _ _ (T0.setTop (mkF m 219 #[.val (.ref b0), .val (.int (1 : Int32)), .val (.int p2), .val (.int v3), .val (.int (4 : Int32)), .val (.int v5), .val (.int v6), .val (.int ((w_g ((2 : Int32)).toNatClampNeg) &&& (255 : Int32))), .val (.int (3 : Int32))] []))
            refine own_st (fun _ k => XS.iinc X0.here hx rfl (hb hby sb_d219) rfl (l' := #[.val (.ref b0), .val (.int (1 : Int32)), .val (.int p2), .val (.int v3), .val (.int (4 : Int32)), .val (.int v5), .val (.int v6), .val (.int ((w_g ((2 : Int32)).toNatClampNeg) &&& (255 : Int32))), .val (.int (4 : Int32))]) rfl (XS.goto X0.here hx rfl (pc0 := 222) (pc' := 186) rfl (hb hby sb_d222) (by decide) (by decide) (XS.iload X0.here hx rfl (hb hby sb_d186) rfl (XS.iloadN X0.here hx rfl (hb hby sb_d188) rfl (XS.iload X0.here hx rfl (hb hby sb_d189) rfl (XS.iadd X0.here hx rfl (hb hby sb_d191) rfl k)))))) ?_
            show own_Dn p e below s _ _ _ (T0.setTop (mkF m 192 #[.val (.ref b0), .val (.int (1 : Int32)), .val (.int p2), .val (.int v3), .val (.int (4 : Int32)), .val (.int v5), .val (.int v6), .val (.int ((w_g ((2 : Int32)).toNatClampNeg) &&& (255 : Int32))), .val (.int (4 : Int32))] [(.int (5 : Int32)), (.int (4 : Int32))]))
            refine own_st (fun _ k => XS.icmpNo X0.here hx rfl (hb hby sb_d192) rfl (tlt (by decide : (4 : Int32) < (5 : Int32))).2.1 k) ?_
            show own_Dn p e below s _ _ _ (T0.setTop (mkF m 195 #[.val (.ref b0), .val (.int (1 : Int32)), .val (.int p2), .val (.int v3), .val (.int (4 : Int32)), .val (.int v5), .val (.int v6), .val (.int ((w_g ((2 : Int32)).toNatClampNeg) &&& (255 : Int32))), .val (.int (4 : Int32))] []))
            refine own_st (fun _ k => XS.iload X0.here hx rfl (hb hby sb_d195) rfl (XS.iloadN X0.here hx rfl (hb hby sb_d197) rfl k)) ?_
            show own_Dn p e below s _ _ _ (T0.setTop (mkF m 198 #[.val (.ref b0), .val (.int (1 : Int32)), .val (.int p2), .val (.int v3), .val (.int (4 : Int32)), .val (.int v5), .val (.int v6), .val (.int ((w_g ((2 : Int32)).toNatClampNeg) &&& (255 : Int32))), .val (.int (4 : Int32))] [(.int p2), (.int (4 : Int32))]))
            by_cases hc51 : (4 : Int32) < p2
            · refine own_st (fun _ k => XS.icmpYes X0.here hx rfl (pc0 := 198) (pc' := 203) rfl (hb hby sb_d198) rfl (tlt hc51).1 (by decide) (by decide) k) ?_
              show own_Dn p e below s _ _ _ (T0.setTop (mkF m 203 #[.val (.ref b0), .val (.int (1 : Int32)), .val (.int p2), .val (.int v3), .val (.int (4 : Int32)), .val (.int v5), .val (.int v6), .val (.int ((w_g ((2 : Int32)).toNatClampNeg) &&& (255 : Int32))), .val (.int (4 : Int32))] []))
              refine own_st (fun _ k => XS.aloadN X0.here hx rfl (hb hby sb_d203) rfl rfl (XS.iload X0.here hx rfl (hb hby sb_d204) rfl k)) ?_
              show own_Dn p e below s _ _ _ (T0.setTop (mkF m 206 #[.val (.ref b0), .val (.int (1 : Int32)), .val (.int p2), .val (.int v3), .val (.int (4 : Int32)), .val (.int v5), .val (.int v6), .val (.int ((w_g ((2 : Int32)).toNatClampNeg) &&& (255 : Int32))), .val (.int (4 : Int32))] [(.int (4 : Int32)), (.ref b0)]))
              refine own_st (own_ldB (pc := 206) (L := #[.val (.ref b0), .val (.int (1 : Int32)), .val (.int p2), .val (.int v3), .val (.int (4 : Int32)), .val (.int v5), .val (.int v6), .val (.int ((w_g ((2 : Int32)).toNatClampNeg) &&& (255 : Int32))), .val (.int (4 : Int32))]) (rest := []) X0 hx hZ e0 P1 (j := (4 : Int32)) (by decide) (by decide) (hb hby sb_d206)) ?_
              show own_Dn p e below s _ _ _ (T0.setTop (mkF m 207 #[.val (.ref b0), .val (.int (1 : Int32)), .val (.int p2), .val (.int v3), .val (.int (4 : Int32)), .val (.int v5), .val (.int v6), .val (.int ((w_g ((2 : Int32)).toNatClampNeg) &&& (255 : Int32))), .val (.int (4 : Int32))] [(.int (w_g ((4 : Int32)).toNatClampNeg))]))
              refine own_st (fun _ k => XS.sipush X0.here hx rfl (hb hby sb_d207) (XS.iand X0.here hx rfl (hb hby sb_d210) rfl (XS.sipush X0.here hx rfl (hb hby sb_d211) k))) ?_
              show own_Dn p e below s _ _ _ (T0.setTop (mkF m 214 #[.val (.ref b0), .val (.int (1 : Int32)), .val (.int p2), .val (.int v3), .val (.int (4 : Int32)), .val (.int v5), .val (.int v6), .val (.int ((w_g ((2 : Int32)).toNatClampNeg) &&& (255 : Int32))), .val (.int (4 : Int32))] [(.int (128 : Int32)), (.int ((w_g ((4 : Int32)).toNatClampNeg) &&& (192 : Int32)))]))
              by_cases hc52 : ((w_g ((4 : Int32)).toNatClampNeg) &&& (192 : Int32)) = (128 : Int32)
              · refine own_st (fun _ k => XS.icmpYes X0.here hx rfl (pc0 := 214) (pc' := 219) rfl (hb hby sb_d214) rfl (teq hc52).1 (by decide) (by decide) k) ?_
                show own_Dn p e below s _ _ _ (T0.setTop (mkF m 219 #[.val (.ref b0), .val (.int (1 : Int32)), .val (.int p2), .val (.int v3), .val (.int (4 : Int32)), .val (.int v5), .val (.int v6), .val (.int ((w_g ((2 : Int32)).toNatClampNeg) &&& (255 : Int32))), .val (.int (4 : Int32))] []))
                refine own_st (fun _ k => XS.iinc X0.here hx rfl (hb hby sb_d219) rfl (l' := #[.val (.ref b0), .val (.int (1 : Int32)), .val (.int p2), .val (.int v3), .val (.int (4 : Int32)), .val (.int v5), .val (.int v6), .val (.int ((w_g ((2 : Int32)).toNatClampNeg) &&& (255 : Int32))), .val (.int (5 : Int32))]) rfl (XS.goto X0.here hx rfl (pc0 := 222) (pc' := 186) rfl (hb hby sb_d222) (by decide) (by decide) (XS.iload X0.here hx rfl (hb hby sb_d186) rfl (XS.iloadN X0.here hx rfl (hb hby sb_d188) rfl (XS.iload X0.here hx rfl (hb hby sb_d189) rfl (XS.iadd X0.here hx rfl (hb hby sb_d191) rfl k)))))) ?_
                show own_Dn p e below s _ _ _ (T0.setTop (mkF m 192 #[.val (.ref b0), .val (.int (1 : Int32)), .val (.int p2), .val (.int v3), .val (.int (4 : Int32)), .val (.int v5), .val (.int v6), .val (.int ((w_g ((2 : Int32)).toNatClampNeg) &&& (255 : Int32))), .val (.int (5 : Int32))] [(.int (5 : Int32)), (.int (5 : Int32))]))
                refine own_st (fun _ k => XS.icmpYes X0.here hx rfl (pc0 := 192) (pc' := 225) rfl (hb hby sb_d192) rfl (flt (by decide : ¬ ((5 : Int32) < (5 : Int32)))).2.1 (by decide) (by decide) k) ?_
                show own_Dn p e below s _ _ _ (T0.setTop (mkF m 225 #[.val (.ref b0), .val (.int (1 : Int32)), .val (.int p2), .val (.int v3), .val (.int (4 : Int32)), .val (.int v5), .val (.int v6), .val (.int ((w_g ((2 : Int32)).toNatClampNeg) &&& (255 : Int32))), .val (.int (5 : Int32))] []))
                refine own_st (fun _ k => XS.iload X0.here hx rfl (hb hby sb_d225) rfl k) ?_
                show own_Dn p e below s _ _ _ (T0.setTop (mkF m 227 #[.val (.ref b0), .val (.int (1 : Int32)), .val (.int p2), .val (.int v3), .val (.int (4 : Int32)), .val (.int v5), .val (.int v6), .val (.int ((w_g ((2 : Int32)).toNatClampNeg) &&& (255 : Int32))), .val (.int (5 : Int32))] [(.int (4 : Int32))]))
                exact own_retI X0 hx hret hlk (hb hby sb_d227) (by decide) (by decide) ⟨(by rw [hr0, sb_f145k4, if_pos hc46, if_neg hc47, if_neg hc48, if_pos hc49, if_pos hc50, if_pos hc51, if_pos hc52]), N0, e0⟩
              · refine own_st (fun _ k => XS.icmpNo X0.here hx rfl (hb hby sb_d214) rfl (feq hc52).1 k) ?_
                show own_Dn p e below s _ _ _ (T0.setTop (mkF m 217 #[.val (.ref b0), .val (.int (1 : Int32)), .val (.int p2), .val (.int v3), .val (.int (4 : Int32)), .val (.int v5), .val (.int v6), .val (.int ((w_g ((2 : Int32)).toNatClampNeg) &&& (255 : Int32))), .val (.int (4 : Int32))] []))
                refine own_st (fun _ k => XS.iconst X0.here hx rfl (hb hby sb_d217) k) ?_
                show own_Dn p e below s _ _ _ (T0.setTop (mkF m 218 #[.val (.ref b0), .val (.int (1 : Int32)), .val (.int p2), .val (.int v3), .val (.int (4 : Int32)), .val (.int v5), .val (.int v6), .val (.int ((w_g ((2 : Int32)).toNatClampNeg) &&& (255 : Int32))), .val (.int (4 : Int32))] [(.int (-1 : Int32))]))
                exact own_retI X0 hx hret hlk (hb hby sb_d218) (by decide) (by decide) ⟨(by rw [hr0, sb_f145k4, if_pos hc46, if_neg hc47, if_neg hc48, if_pos hc49, if_pos hc50, if_pos hc51, if_neg hc52]), N0, e0⟩
            · refine own_st (fun _ k => XS.icmpNo X0.here hx rfl (hb hby sb_d198) rfl (flt hc51).1 k) ?_
              show own_Dn p e below s _ _ _ (T0.setTop (mkF m 201 #[.val (.ref b0), .val (.int (1 : Int32)), .val (.int p2), .val (.int v3), .val (.int (4 : Int32)), .val (.int v5), .val (.int v6), .val (.int ((w_g ((2 : Int32)).toNatClampNeg) &&& (255 : Int32))), .val (.int (4 : Int32))] []))
              refine own_st (fun _ k => XS.iconst X0.here hx rfl (hb hby sb_d201) k) ?_
              show own_Dn p e below s _ _ _ (T0.setTop (mkF m 202 #[.val (.ref b0), .val (.int (1 : Int32)), .val (.int p2), .val (.int v3), .val (.int (4 : Int32)), .val (.int v5), .val (.int v6), .val (.int ((w_g ((2 : Int32)).toNatClampNeg) &&& (255 : Int32))), .val (.int (4 : Int32))] [(.int (0 : Int32))]))
              exact own_retI X0 hx hret hlk (hb hby sb_d202) (by decide) (by decide) ⟨(by rw [hr0, sb_f145k4, if_pos hc46, if_neg hc47, if_neg hc48, if_pos hc49, if_pos hc50, if_neg hc51]), N0, e0⟩
          · refine own_st (fun _ k => XS.icmpNo X0.here hx rfl (hb hby sb_d214) rfl (feq hc50).1 k) ?_
            show own_Dn p e below s _ _ _ (T0.setTop (mkF m 217 #[.val (.ref b0), .val (.int (1 : Int32)), .val (.int p2), .val (.int v3), .val (.int (4 : Int32)), .val (.int v5), .val (.int v6), .val (.int ((w_g ((2 : Int32)).toNatClampNeg) &&& (255 : Int32))), .val (.int (3 : Int32))] []))
            refine own_st (fun _ k => XS.iconst X0.here hx rfl (hb hby sb_d217) k) ?_
            show own_Dn p e below s _ _ _ (T0.setTop (mkF m 218 #[.val (.ref b0), .val (.int (1 : Int32)), .val (.int p2), .val (.int v3), .val (.int (4 : Int32)), .val (.int v5), .val (.int v6), .val (.int ((w_g ((2 : Int32)).toNatClampNeg) &&& (255 : Int32))), .val (.int (3 : Int32))] [(.int (-1 : Int32))]))
            exact own_retI X0 hx hret hlk (hb hby sb_d218) (by decide) (by decide) ⟨(by rw [hr0, sb_f145k4, if_pos hc46, if_neg hc47, if_neg hc48, if_pos hc49, if_neg hc50]), N0, e0⟩
        · refine own_st (fun _ k => XS.icmpNo X0.here hx rfl (hb hby sb_d198) rfl (flt hc49).1 k) ?_
          show own_Dn p e below s _ _ _ (T0.setTop (mkF m 201 #[.val (.ref b0), .val (.int (1 : Int32)), .val (.int p2), .val (.int v3), .val (.int (4 : Int32)), .val (.int v5), .val (.int v6), .val (.int ((w_g ((2 : Int32)).toNatClampNeg) &&& (255 : Int32))), .val (.int (3 : Int32))] []))
          refine own_st (fun _ k => XS.iconst X0.here hx rfl (hb hby sb_d201) k) ?_
          show own_Dn p e below s _ _ _ (T0.setTop (mkF m 202 #[.val (.ref b0), .val (.int (1 : Int32)), .val (.int p2), .val (.int v3), .val (.int (4 : Int32)), .val (.int v5), .val (.int v6), .val (.int ((w_g ((2 : Int32)).toNatClampNeg) &&& (255 : Int32))), .val (.int (3 : Int32))] [(.int (0 : Int32))]))
          exact own_retI X0 hx hret hlk (hb hby sb_d202) (by decide) (by decide) ⟨(by rw [hr0, sb_f145k4, if_pos hc46, if_neg hc47, if_neg hc48, if_neg hc49]), N0, e0⟩
  · refine own_st (fun _ k => XS.icmpNo X0.here hx rfl (hb hby sb_d149) rfl (flt hc46).1 k) ?_
    show own_Dn p e below s _ _ _ (T0.setTop (mkF m 152 #[.val (.ref b0), .val (.int (1 : Int32)), .val (.int p2), .val (.int v3), .val (.int (4 : Int32)), .val (.int v5), .val (.int v6), .unset, .unset] []))
    refine own_st (fun _ k => XS.iconst X0.here hx rfl (hb hby sb_d152) k) ?_
    show own_Dn p e below s _ _ _ (T0.setTop (mkF m 153 #[.val (.ref b0), .val (.int (1 : Int32)), .val (.int p2), .val (.int v3), .val (.int (4 : Int32)), .val (.int v5), .val (.int v6), .unset, .unset] [(.int (0 : Int32))]))
    exact own_retI X0 hx hret hlk (hb hby sb_d153) (by decide) (by decide) ⟨(by rw [hr0, sb_f145k4, if_neg hc46]), N0, e0⟩
def sb_f145k3 (p2 : Int32) (w_g : Nat → Int32) (v3 : Int32) (v5 : Int32) (v6 : Int32) : Int32 :=
  if (2 : Int32) < p2 then
    if ((w_g ((2 : Int32)).toNatClampNeg) &&& (255 : Int32)) < v5 then
      (-1 : Int32)
    else
      if v6 < ((w_g ((2 : Int32)).toNatClampNeg) &&& (255 : Int32)) then
        (-1 : Int32)
      else
        if (3 : Int32) < p2 then
          if ((w_g ((3 : Int32)).toNatClampNeg) &&& (192 : Int32)) = (128 : Int32) then
            (3 : Int32)
          else
            (-1 : Int32)
        else
          (0 : Int32)
  else
    (0 : Int32)
set_option maxRecDepth 65536 in
set_option maxHeartbeats 40000000 in
theorem sb_c145k3 {l : Launch} {Z : State} {a0 : Array Value} {b0 : Addr} {p2 : Int32} {w_g : Nat → Int32} {h0 : Heap} {n0 : Nat} {p : Program} {e : Env} {s : State} {m : MethodId} {args : Array Value} {below : List Frame} {meth : Method} {c : Code} {T0 : State} {locs : List Loc} {r0 : Int32} (C0 : own_Cx p s m meth c Z a0 prog_31_method_2_code 9 "com/example/xylograph/xylograph/io/Utf8" "sequenceLength" (some .int)) (X0 : Stand p l e ({ frames := 0, cells := 0, slots := 0, locals := 0 } : Room) s m args below meth c T0 locs 0 0) (e0 : T0.heap = h0) (N0 : Fr n0 locs) (v3 : Int32) (v5 : Int32) (v6 : Int32) (Z0 : n0 ≤ h0.size) (P1 : own_Arf Z h0 b0 .byte 6 (fun i => (.int (w_g i)))) (hr0 : r0 = sb_f145k3 p2 w_g v3 v5 v6) :
    own_Dn p e below s (own_Q (some (.int r0)) n0 h0) ({ frames := 0, cells := 0, slots := 0, locals := 0 } : Room).cells ({ frames := 0, cells := 0, slots := 0, locals := 0 } : Room).slots (T0.setTop (mkF m 145 #[.val (.ref b0), .val (.int (1 : Int32)), .val (.int p2), .val (.int v3), .val (.int (3 : Int32)), .val (.int v5), .val (.int v6), .unset, .unset] [])) := by
  obtain ⟨hx, hZ, hw, hby, hml, hown, hret, hlk, hnm⟩ := id C0
  refine own_st (fun _ k => XS.iloadN X0.here hx rfl (hb hby sb_d145) rfl (XS.iconst X0.here hx rfl (hb hby sb_d146) (XS.iadd X0.here hx rfl (hb hby sb_d147) rfl (XS.iloadN X0.here hx rfl (hb hby sb_d148) rfl k)))) ?_
  show own_Dn p e below s _ _ _ (T0.setTop (mkF m 149 #[.val (.ref b0), .val (.int (1 : Int32)), .val (.int p2), .val (.int v3), .val (.int (3 : Int32)), .val (.int v5), .val (.int v6), .unset, .unset] [(.int p2), (.int (2 : Int32))]))
  by_cases hc41 : (2 : Int32) < p2
  · refine own_st (fun _ k => XS.icmpYes X0.here hx rfl (pc0 := 149) (pc' := 154) rfl (hb hby sb_d149) rfl (tlt hc41).1 (by decide) (by decide) k) ?_
    show own_Dn p e below s _ _ _ (T0.setTop (mkF m 154 #[.val (.ref b0), .val (.int (1 : Int32)), .val (.int p2), .val (.int v3), .val (.int (3 : Int32)), .val (.int v5), .val (.int v6), .unset, .unset] []))
    refine own_st (fun _ k => XS.aloadN X0.here hx rfl (hb hby sb_d154) rfl rfl (XS.iloadN X0.here hx rfl (hb hby sb_d155) rfl (XS.iconst X0.here hx rfl (hb hby sb_d156) (XS.iadd X0.here hx rfl (hb hby sb_d157) rfl k)))) ?_
    show own_Dn p e below s _ _ _ (T0.setTop (mkF m 158 #[.val (.ref b0), .val (.int (1 : Int32)), .val (.int p2), .val (.int v3), .val (.int (3 : Int32)), .val (.int v5), .val (.int v6), .unset, .unset] [(.int (2 : Int32)), (.ref b0)]))
    refine own_st (own_ldB (pc := 158) (L := #[.val (.ref b0), .val (.int (1 : Int32)), .val (.int p2), .val (.int v3), .val (.int (3 : Int32)), .val (.int v5), .val (.int v6), .unset, .unset]) (rest := []) X0 hx hZ e0 P1 (j := (2 : Int32)) (by decide) (by decide) (hb hby sb_d158)) ?_
    show own_Dn p e below s _ _ _ (T0.setTop (mkF m 159 #[.val (.ref b0), .val (.int (1 : Int32)), .val (.int p2), .val (.int v3), .val (.int (3 : Int32)), .val (.int v5), .val (.int v6), .unset, .unset] [(.int (w_g ((2 : Int32)).toNatClampNeg))]))
    refine own_st (fun _ k => XS.sipush X0.here hx rfl (hb hby sb_d159) (XS.iand X0.here hx rfl (hb hby sb_d162) rfl (XS.istore X0.here hx rfl (hb hby sb_d163) rfl (l' := #[.val (.ref b0), .val (.int (1 : Int32)), .val (.int p2), .val (.int v3), .val (.int (3 : Int32)), .val (.int v5), .val (.int v6), .val (.int ((w_g ((2 : Int32)).toNatClampNeg) &&& (255 : Int32))), .unset]) rfl (XS.iload X0.here hx rfl (hb hby sb_d165) rfl (XS.iload X0.here hx rfl (hb hby sb_d167) rfl k))))) ?_
    show own_Dn p e below s _ _ _ (T0.setTop (mkF m 169 #[.val (.ref b0), .val (.int (1 : Int32)), .val (.int p2), .val (.int v3), .val (.int (3 : Int32)), .val (.int v5), .val (.int v6), .val (.int ((w_g ((2 : Int32)).toNatClampNeg) &&& (255 : Int32))), .unset] [(.int v5), (.int ((w_g ((2 : Int32)).toNatClampNeg) &&& (255 : Int32)))]))
    by_cases hc42 : ((w_g ((2 : Int32)).toNatClampNeg) &&& (255 : Int32)) < v5
    · refine own_st (fun _ k => XS.icmpYes X0.here hx rfl (pc0 := 169) (pc' := 179) rfl (hb hby sb_d169) rfl (tlt hc42).1 (by decide) (by decide) k) ?_
      show own_Dn p e below s _ _ _ (T0.setTop (mkF m 179 #[.val (.ref b0), .val (.int (1 : Int32)), .val (.int p2), .val (.int v3), .val (.int (3 : Int32)), .val (.int v5), .val (.int v6), .val (.int ((w_g ((2 : Int32)).toNatClampNeg) &&& (255 : Int32))), .unset] []))
      refine own_st (fun _ k => XS.iconst X0.here hx rfl (hb hby sb_d179) k) ?_
      show own_Dn p e below s _ _ _ (T0.setTop (mkF m 180 #[.val (.ref b0), .val (.int (1 : Int32)), .val (.int p2), .val (.int v3), .val (.int (3 : Int32)), .val (.int v5), .val (.int v6), .val (.int ((w_g ((2 : Int32)).toNatClampNeg) &&& (255 : Int32))), .unset] [(.int (-1 : Int32))]))
      exact own_retI X0 hx hret hlk (hb hby sb_d180) (by decide) (by decide) ⟨(by rw [hr0, sb_f145k3, if_pos hc41, if_pos hc42]), N0, e0⟩
    · refine own_st (fun _ k => XS.icmpNo X0.here hx rfl (hb hby sb_d169) rfl (flt hc42).1 k) ?_
      show own_Dn p e below s _ _ _ (T0.setTop (mkF m 172 #[.val (.ref b0), .val (.int (1 : Int32)), .val (.int p2), .val (.int v3), .val (.int (3 : Int32)), .val (.int v5), .val (.int v6), .val (.int ((w_g ((2 : Int32)).toNatClampNeg) &&& (255 : Int32))), .unset] []))
      refine own_st (fun _ k => XS.iload X0.here hx rfl (hb hby sb_d172) rfl (XS.iload X0.here hx rfl (hb hby sb_d174) rfl k)) ?_
      show own_Dn p e below s _ _ _ (T0.setTop (mkF m 176 #[.val (.ref b0), .val (.int (1 : Int32)), .val (.int p2), .val (.int v3), .val (.int (3 : Int32)), .val (.int v5), .val (.int v6), .val (.int ((w_g ((2 : Int32)).toNatClampNeg) &&& (255 : Int32))), .unset] [(.int v6), (.int ((w_g ((2 : Int32)).toNatClampNeg) &&& (255 : Int32)))]))
      by_cases hc43 : v6 < ((w_g ((2 : Int32)).toNatClampNeg) &&& (255 : Int32))
      · refine own_st (fun _ k => XS.icmpNo X0.here hx rfl (hb hby sb_d176) rfl (tlt hc43).2.2.2 k) ?_
        show own_Dn p e below s _ _ _ (T0.setTop (mkF m 179 #[.val (.ref b0), .val (.int (1 : Int32)), .val (.int p2), .val (.int v3), .val (.int (3 : Int32)), .val (.int v5), .val (.int v6), .val (.int ((w_g ((2 : Int32)).toNatClampNeg) &&& (255 : Int32))), .unset] []))
        refine own_st (fun _ k => XS.iconst X0.here hx rfl (hb hby sb_d179) k) ?_
        show own_Dn p e below s _ _ _ (T0.setTop (mkF m 180 #[.val (.ref b0), .val (.int (1 : Int32)), .val (.int p2), .val (.int v3), .val (.int (3 : Int32)), .val (.int v5), .val (.int v6), .val (.int ((w_g ((2 : Int32)).toNatClampNeg) &&& (255 : Int32))), .unset] [(.int (-1 : Int32))]))
        exact own_retI X0 hx hret hlk (hb hby sb_d180) (by decide) (by decide) ⟨(by rw [hr0, sb_f145k3, if_pos hc41, if_neg hc42, if_pos hc43]), N0, e0⟩
      · refine own_st (fun _ k => XS.icmpYes X0.here hx rfl (pc0 := 176) (pc' := 181) rfl (hb hby sb_d176) rfl (flt hc43).2.2.2 (by decide) (by decide) k) ?_
        show own_Dn p e below s _ _ _ (T0.setTop (mkF m 181 #[.val (.ref b0), .val (.int (1 : Int32)), .val (.int p2), .val (.int v3), .val (.int (3 : Int32)), .val (.int v5), .val (.int v6), .val (.int ((w_g ((2 : Int32)).toNatClampNeg) &&& (255 : Int32))), .unset] []))
        refine own_st (fun _ k => XS.iloadN X0.here hx rfl (hb hby sb_d181) rfl (XS.iconst X0.here hx rfl (hb hby sb_d182) (XS.iadd X0.here hx rfl (hb hby sb_d183) rfl (XS.istore X0.here hx rfl (hb hby sb_d184) rfl (l' := #[.val (.ref b0), .val (.int (1 : Int32)), .val (.int p2), .val (.int v3), .val (.int (3 : Int32)), .val (.int v5), .val (.int v6), .val (.int ((w_g ((2 : Int32)).toNatClampNeg) &&& (255 : Int32))), .val (.int (3 : Int32))]) rfl (XS.iload X0.here hx rfl (hb hby sb_d186) rfl (XS.iloadN X0.here hx rfl (hb hby sb_d188) rfl (XS.iload X0.here hx rfl (hb hby sb_d189) rfl (XS.iadd X0.here hx rfl (hb hby sb_d191) rfl k)))))))) ?_
        show own_Dn p e below s _ _ _ (T0.setTop (mkF m 192 #[.val (.ref b0), .val (.int (1 : Int32)), .val (.int p2), .val (.int v3), .val (.int (3 : Int32)), .val (.int v5), .val (.int v6), .val (.int ((w_g ((2 : Int32)).toNatClampNeg) &&& (255 : Int32))), .val (.int (3 : Int32))] [(.int (4 : Int32)), (.int (3 : Int32))]))
        refine own_st (fun _ k => XS.icmpNo X0.here hx rfl (hb hby sb_d192) rfl (tlt (by decide : (3 : Int32) < (4 : Int32))).2.1 k) ?_
        show own_Dn p e below s _ _ _ (T0.setTop (mkF m 195 #[.val (.ref b0), .val (.int (1 : Int32)), .val (.int p2), .val (.int v3), .val (.int (3 : Int32)), .val (.int v5), .val (.int v6), .val (.int ((w_g ((2 : Int32)).toNatClampNeg) &&& (255 : Int32))), .val (.int (3 : Int32))] []))
        refine own_st (fun _ k => XS.iload X0.here hx rfl (hb hby sb_d195) rfl (XS.iloadN X0.here hx rfl (hb hby sb_d197) rfl k)) ?_
        show own_Dn p e below s _ _ _ (T0.setTop (mkF m 198 #[.val (.ref b0), .val (.int (1 : Int32)), .val (.int p2), .val (.int v3), .val (.int (3 : Int32)), .val (.int v5), .val (.int v6), .val (.int ((w_g ((2 : Int32)).toNatClampNeg) &&& (255 : Int32))), .val (.int (3 : Int32))] [(.int p2), (.int (3 : Int32))]))
        by_cases hc44 : (3 : Int32) < p2
        · refine own_st (fun _ k => XS.icmpYes X0.here hx rfl (pc0 := 198) (pc' := 203) rfl (hb hby sb_d198) rfl (tlt hc44).1 (by decide) (by decide) k) ?_
          show own_Dn p e below s _ _ _ (T0.setTop (mkF m 203 #[.val (.ref b0), .val (.int (1 : Int32)), .val (.int p2), .val (.int v3), .val (.int (3 : Int32)), .val (.int v5), .val (.int v6), .val (.int ((w_g ((2 : Int32)).toNatClampNeg) &&& (255 : Int32))), .val (.int (3 : Int32))] []))
          refine own_st (fun _ k => XS.aloadN X0.here hx rfl (hb hby sb_d203) rfl rfl (XS.iload X0.here hx rfl (hb hby sb_d204) rfl k)) ?_
          show own_Dn p e below s _ _ _ (T0.setTop (mkF m 206 #[.val (.ref b0), .val (.int (1 : Int32)), .val (.int p2), .val (.int v3), .val (.int (3 : Int32)), .val (.int v5), .val (.int v6), .val (.int ((w_g ((2 : Int32)).toNatClampNeg) &&& (255 : Int32))), .val (.int (3 : Int32))] [(.int (3 : Int32)), (.ref b0)]))
          refine own_st (own_ldB (pc := 206) (L := #[.val (.ref b0), .val (.int (1 : Int32)), .val (.int p2), .val (.int v3), .val (.int (3 : Int32)), .val (.int v5), .val (.int v6), .val (.int ((w_g ((2 : Int32)).toNatClampNeg) &&& (255 : Int32))), .val (.int (3 : Int32))]) (rest := []) X0 hx hZ e0 P1 (j := (3 : Int32)) (by decide) (by decide) (hb hby sb_d206)) ?_
          show own_Dn p e below s _ _ _ (T0.setTop (mkF m 207 #[.val (.ref b0), .val (.int (1 : Int32)), .val (.int p2), .val (.int v3), .val (.int (3 : Int32)), .val (.int v5), .val (.int v6), .val (.int ((w_g ((2 : Int32)).toNatClampNeg) &&& (255 : Int32))), .val (.int (3 : Int32))] [(.int (w_g ((3 : Int32)).toNatClampNeg))]))
          refine own_st (fun _ k => XS.sipush X0.here hx rfl (hb hby sb_d207) (XS.iand X0.here hx rfl (hb hby sb_d210) rfl (XS.sipush X0.here hx rfl (hb hby sb_d211) k))) ?_
          show own_Dn p e below s _ _ _ (T0.setTop (mkF m 214 #[.val (.ref b0), .val (.int (1 : Int32)), .val (.int p2), .val (.int v3), .val (.int (3 : Int32)), .val (.int v5), .val (.int v6), .val (.int ((w_g ((2 : Int32)).toNatClampNeg) &&& (255 : Int32))), .val (.int (3 : Int32))] [(.int (128 : Int32)), (.int ((w_g ((3 : Int32)).toNatClampNeg) &&& (192 : Int32)))]))
          by_cases hc45 : ((w_g ((3 : Int32)).toNatClampNeg) &&& (192 : Int32)) = (128 : Int32)
          · refine own_st (fun _ k => XS.icmpYes X0.here hx rfl (pc0 := 214) (pc' := 219) rfl (hb hby sb_d214) rfl (teq hc45).1 (by decide) (by decide) k) ?_
            show own_Dn p e below s _ _ _ (T0.setTop (mkF m 219 #[.val (.ref b0), .val (.int (1 : Int32)), .val (.int p2), .val (.int v3), .val (.int (3 : Int32)), .val (.int v5), .val (.int v6), .val (.int ((w_g ((2 : Int32)).toNatClampNeg) &&& (255 : Int32))), .val (.int (3 : Int32))] []))
            refine own_st (fun _ k => XS.iinc X0.here hx rfl (hb hby sb_d219) rfl (l' := #[.val (.ref b0), .val (.int (1 : Int32)), .val (.int p2), .val (.int v3), .val (.int (3 : Int32)), .val (.int v5), .val (.int v6), .val (.int ((w_g ((2 : Int32)).toNatClampNeg) &&& (255 : Int32))), .val (.int (4 : Int32))]) rfl (XS.goto X0.here hx rfl (pc0 := 222) (pc' := 186) rfl (hb hby sb_d222) (by decide) (by decide) (XS.iload X0.here hx rfl (hb hby sb_d186) rfl (XS.iloadN X0.here hx rfl (hb hby sb_d188) rfl (XS.iload X0.here hx rfl (hb hby sb_d189) rfl (XS.iadd X0.here hx rfl (hb hby sb_d191) rfl k)))))) ?_
            show own_Dn p e below s _ _ _ (T0.setTop (mkF m 192 #[.val (.ref b0), .val (.int (1 : Int32)), .val (.int p2), .val (.int v3), .val (.int (3 : Int32)), .val (.int v5), .val (.int v6), .val (.int ((w_g ((2 : Int32)).toNatClampNeg) &&& (255 : Int32))), .val (.int (4 : Int32))] [(.int (4 : Int32)), (.int (4 : Int32))]))
            refine own_st (fun _ k => XS.icmpYes X0.here hx rfl (pc0 := 192) (pc' := 225) rfl (hb hby sb_d192) rfl (flt (by decide : ¬ ((4 : Int32) < (4 : Int32)))).2.1 (by decide) (by decide) k) ?_
            show own_Dn p e below s _ _ _ (T0.setTop (mkF m 225 #[.val (.ref b0), .val (.int (1 : Int32)), .val (.int p2), .val (.int v3), .val (.int (3 : Int32)), .val (.int v5), .val (.int v6), .val (.int ((w_g ((2 : Int32)).toNatClampNeg) &&& (255 : Int32))), .val (.int (4 : Int32))] []))
            refine own_st (fun _ k => XS.iload X0.here hx rfl (hb hby sb_d225) rfl k) ?_
            show own_Dn p e below s _ _ _ (T0.setTop (mkF m 227 #[.val (.ref b0), .val (.int (1 : Int32)), .val (.int p2), .val (.int v3), .val (.int (3 : Int32)), .val (.int v5), .val (.int v6), .val (.int ((w_g ((2 : Int32)).toNatClampNeg) &&& (255 : Int32))), .val (.int (4 : Int32))] [(.int (3 : Int32))]))
            exact own_retI X0 hx hret hlk (hb hby sb_d227) (by decide) (by decide) ⟨(by rw [hr0, sb_f145k3, if_pos hc41, if_neg hc42, if_neg hc43, if_pos hc44, if_pos hc45]), N0, e0⟩
          · refine own_st (fun _ k => XS.icmpNo X0.here hx rfl (hb hby sb_d214) rfl (feq hc45).1 k) ?_
            show own_Dn p e below s _ _ _ (T0.setTop (mkF m 217 #[.val (.ref b0), .val (.int (1 : Int32)), .val (.int p2), .val (.int v3), .val (.int (3 : Int32)), .val (.int v5), .val (.int v6), .val (.int ((w_g ((2 : Int32)).toNatClampNeg) &&& (255 : Int32))), .val (.int (3 : Int32))] []))
            refine own_st (fun _ k => XS.iconst X0.here hx rfl (hb hby sb_d217) k) ?_
            show own_Dn p e below s _ _ _ (T0.setTop (mkF m 218 #[.val (.ref b0), .val (.int (1 : Int32)), .val (.int p2), .val (.int v3), .val (.int (3 : Int32)), .val (.int v5), .val (.int v6), .val (.int ((w_g ((2 : Int32)).toNatClampNeg) &&& (255 : Int32))), .val (.int (3 : Int32))] [(.int (-1 : Int32))]))
            exact own_retI X0 hx hret hlk (hb hby sb_d218) (by decide) (by decide) ⟨(by rw [hr0, sb_f145k3, if_pos hc41, if_neg hc42, if_neg hc43, if_pos hc44, if_neg hc45]), N0, e0⟩
        · refine own_st (fun _ k => XS.icmpNo X0.here hx rfl (hb hby sb_d198) rfl (flt hc44).1 k) ?_
          show own_Dn p e below s _ _ _ (T0.setTop (mkF m 201 #[.val (.ref b0), .val (.int (1 : Int32)), .val (.int p2), .val (.int v3), .val (.int (3 : Int32)), .val (.int v5), .val (.int v6), .val (.int ((w_g ((2 : Int32)).toNatClampNeg) &&& (255 : Int32))), .val (.int (3 : Int32))] []))
          refine own_st (fun _ k => XS.iconst X0.here hx rfl (hb hby sb_d201) k) ?_
          show own_Dn p e below s _ _ _ (T0.setTop (mkF m 202 #[.val (.ref b0), .val (.int (1 : Int32)), .val (.int p2), .val (.int v3), .val (.int (3 : Int32)), .val (.int v5), .val (.int v6), .val (.int ((w_g ((2 : Int32)).toNatClampNeg) &&& (255 : Int32))), .val (.int (3 : Int32))] [(.int (0 : Int32))]))
          exact own_retI X0 hx hret hlk (hb hby sb_d202) (by decide) (by decide) ⟨(by rw [hr0, sb_f145k3, if_pos hc41, if_neg hc42, if_neg hc43, if_neg hc44]), N0, e0⟩
  · refine own_st (fun _ k => XS.icmpNo X0.here hx rfl (hb hby sb_d149) rfl (flt hc41).1 k) ?_
    show own_Dn p e below s _ _ _ (T0.setTop (mkF m 152 #[.val (.ref b0), .val (.int (1 : Int32)), .val (.int p2), .val (.int v3), .val (.int (3 : Int32)), .val (.int v5), .val (.int v6), .unset, .unset] []))
    refine own_st (fun _ k => XS.iconst X0.here hx rfl (hb hby sb_d152) k) ?_
    show own_Dn p e below s _ _ _ (T0.setTop (mkF m 153 #[.val (.ref b0), .val (.int (1 : Int32)), .val (.int p2), .val (.int v3), .val (.int (3 : Int32)), .val (.int v5), .val (.int v6), .unset, .unset] [(.int (0 : Int32))]))
    exact own_retI X0 hx hret hlk (hb hby sb_d153) (by decide) (by decide) ⟨(by rw [hr0, sb_f145k3, if_neg hc41]), N0, e0⟩
def sb_f145k2 (p2 : Int32) (w_g : Nat → Int32) (v3 : Int32) : Int32 :=
  if (2 : Int32) < p2 then
    if ((w_g ((2 : Int32)).toNatClampNeg) &&& (255 : Int32)) < (128 : Int32) then
      (-1 : Int32)
    else
      if (191 : Int32) < ((w_g ((2 : Int32)).toNatClampNeg) &&& (255 : Int32)) then
        (-1 : Int32)
      else
        (2 : Int32)
  else
    (0 : Int32)
set_option maxRecDepth 65536 in
set_option maxHeartbeats 40000000 in
theorem sb_c145k2 {l : Launch} {Z : State} {a0 : Array Value} {b0 : Addr} {p2 : Int32} {w_g : Nat → Int32} {h0 : Heap} {n0 : Nat} {p : Program} {e : Env} {s : State} {m : MethodId} {args : Array Value} {below : List Frame} {meth : Method} {c : Code} {T0 : State} {locs : List Loc} {r0 : Int32} (C0 : own_Cx p s m meth c Z a0 prog_31_method_2_code 9 "com/example/xylograph/xylograph/io/Utf8" "sequenceLength" (some .int)) (X0 : Stand p l e ({ frames := 0, cells := 0, slots := 0, locals := 0 } : Room) s m args below meth c T0 locs 0 0) (e0 : T0.heap = h0) (N0 : Fr n0 locs) (v3 : Int32) (Z0 : n0 ≤ h0.size) (P1 : own_Arf Z h0 b0 .byte 6 (fun i => (.int (w_g i)))) (hr0 : r0 = sb_f145k2 p2 w_g v3) :
    own_Dn p e below s (own_Q (some (.int r0)) n0 h0) ({ frames := 0, cells := 0, slots := 0, locals := 0 } : Room).cells ({ frames := 0, cells := 0, slots := 0, locals := 0 } : Room).slots (T0.setTop (mkF m 145 #[.val (.ref b0), .val (.int (1 : Int32)), .val (.int p2), .val (.int v3), .val (.int (2 : Int32)), .val (.int (128 : Int32)), .val (.int (191 : Int32)), .unset, .unset] [])) := by
  obtain ⟨hx, hZ, hw, hby, hml, hown, hret, hlk, hnm⟩ := id C0
  refine own_st (fun _ k => XS.iloadN X0.here hx rfl (hb hby sb_d145) rfl (XS.iconst X0.here hx rfl (hb hby sb_d146) (XS.iadd X0.here hx rfl (hb hby sb_d147) rfl (XS.iloadN X0.here hx rfl (hb hby sb_d148) rfl k)))) ?_
  show own_Dn p e below s _ _ _ (T0.setTop (mkF m 149 #[.val (.ref b0), .val (.int (1 : Int32)), .val (.int p2), .val (.int v3), .val (.int (2 : Int32)), .val (.int (128 : Int32)), .val (.int (191 : Int32)), .unset, .unset] [(.int p2), (.int (2 : Int32))]))
  by_cases hc38 : (2 : Int32) < p2
  · refine own_st (fun _ k => XS.icmpYes X0.here hx rfl (pc0 := 149) (pc' := 154) rfl (hb hby sb_d149) rfl (tlt hc38).1 (by decide) (by decide) k) ?_
    show own_Dn p e below s _ _ _ (T0.setTop (mkF m 154 #[.val (.ref b0), .val (.int (1 : Int32)), .val (.int p2), .val (.int v3), .val (.int (2 : Int32)), .val (.int (128 : Int32)), .val (.int (191 : Int32)), .unset, .unset] []))
    refine own_st (fun _ k => XS.aloadN X0.here hx rfl (hb hby sb_d154) rfl rfl (XS.iloadN X0.here hx rfl (hb hby sb_d155) rfl (XS.iconst X0.here hx rfl (hb hby sb_d156) (XS.iadd X0.here hx rfl (hb hby sb_d157) rfl k)))) ?_
    show own_Dn p e below s _ _ _ (T0.setTop (mkF m 158 #[.val (.ref b0), .val (.int (1 : Int32)), .val (.int p2), .val (.int v3), .val (.int (2 : Int32)), .val (.int (128 : Int32)), .val (.int (191 : Int32)), .unset, .unset] [(.int (2 : Int32)), (.ref b0)]))
    refine own_st (own_ldB (pc := 158) (L := #[.val (.ref b0), .val (.int (1 : Int32)), .val (.int p2), .val (.int v3), .val (.int (2 : Int32)), .val (.int (128 : Int32)), .val (.int (191 : Int32)), .unset, .unset]) (rest := []) X0 hx hZ e0 P1 (j := (2 : Int32)) (by decide) (by decide) (hb hby sb_d158)) ?_
    show own_Dn p e below s _ _ _ (T0.setTop (mkF m 159 #[.val (.ref b0), .val (.int (1 : Int32)), .val (.int p2), .val (.int v3), .val (.int (2 : Int32)), .val (.int (128 : Int32)), .val (.int (191 : Int32)), .unset, .unset] [(.int (w_g ((2 : Int32)).toNatClampNeg))]))
    refine own_st (fun _ k => XS.sipush X0.here hx rfl (hb hby sb_d159) (XS.iand X0.here hx rfl (hb hby sb_d162) rfl (XS.istore X0.here hx rfl (hb hby sb_d163) rfl (l' := #[.val (.ref b0), .val (.int (1 : Int32)), .val (.int p2), .val (.int v3), .val (.int (2 : Int32)), .val (.int (128 : Int32)), .val (.int (191 : Int32)), .val (.int ((w_g ((2 : Int32)).toNatClampNeg) &&& (255 : Int32))), .unset]) rfl (XS.iload X0.here hx rfl (hb hby sb_d165) rfl (XS.iload X0.here hx rfl (hb hby sb_d167) rfl k))))) ?_
    show own_Dn p e below s _ _ _ (T0.setTop (mkF m 169 #[.val (.ref b0), .val (.int (1 : Int32)), .val (.int p2), .val (.int v3), .val (.int (2 : Int32)), .val (.int (128 : Int32)), .val (.int (191 : Int32)), .val (.int ((w_g ((2 : Int32)).toNatClampNeg) &&& (255 : Int32))), .unset] [(.int (128 : Int32)), (.int ((w_g ((2 : Int32)).toNatClampNeg) &&& (255 : Int32)))]))
    by_cases hc39 : ((w_g ((2 : Int32)).toNatClampNeg) &&& (255 : Int32)) < (128 : Int32)
    · refine own_st (fun _ k => XS.icmpYes X0.here hx rfl (pc0 := 169) (pc' := 179) rfl (hb hby sb_d169) rfl (tlt hc39).1 (by decide) (by decide) k) ?_
      show own_Dn p e below s _ _ _ (T0.setTop (mkF m 179 #[.val (.ref b0), .val (.int (1 : Int32)), .val (.int p2), .val (.int v3), .val (.int (2 : Int32)), .val (.int (128 : Int32)), .val (.int (191 : Int32)), .val (.int ((w_g ((2 : Int32)).toNatClampNeg) &&& (255 : Int32))), .unset] []))
      refine own_st (fun _ k => XS.iconst X0.here hx rfl (hb hby sb_d179) k) ?_
      show own_Dn p e below s _ _ _ (T0.setTop (mkF m 180 #[.val (.ref b0), .val (.int (1 : Int32)), .val (.int p2), .val (.int v3), .val (.int (2 : Int32)), .val (.int (128 : Int32)), .val (.int (191 : Int32)), .val (.int ((w_g ((2 : Int32)).toNatClampNeg) &&& (255 : Int32))), .unset] [(.int (-1 : Int32))]))
      exact own_retI X0 hx hret hlk (hb hby sb_d180) (by decide) (by decide) ⟨(by rw [hr0, sb_f145k2, if_pos hc38, if_pos hc39]), N0, e0⟩
    · refine own_st (fun _ k => XS.icmpNo X0.here hx rfl (hb hby sb_d169) rfl (flt hc39).1 k) ?_
      show own_Dn p e below s _ _ _ (T0.setTop (mkF m 172 #[.val (.ref b0), .val (.int (1 : Int32)), .val (.int p2), .val (.int v3), .val (.int (2 : Int32)), .val (.int (128 : Int32)), .val (.int (191 : Int32)), .val (.int ((w_g ((2 : Int32)).toNatClampNeg) &&& (255 : Int32))), .unset] []))
      refine own_st (fun _ k => XS.iload X0.here hx rfl (hb hby sb_d172) rfl (XS.iload X0.here hx rfl (hb hby sb_d174) rfl k)) ?_
      show own_Dn p e below s _ _ _ (T0.setTop (mkF m 176 #[.val (.ref b0), .val (.int (1 : Int32)), .val (.int p2), .val (.int v3), .val (.int (2 : Int32)), .val (.int (128 : Int32)), .val (.int (191 : Int32)), .val (.int ((w_g ((2 : Int32)).toNatClampNeg) &&& (255 : Int32))), .unset] [(.int (191 : Int32)), (.int ((w_g ((2 : Int32)).toNatClampNeg) &&& (255 : Int32)))]))
      by_cases hc40 : (191 : Int32) < ((w_g ((2 : Int32)).toNatClampNeg) &&& (255 : Int32))
      · refine own_st (fun _ k => XS.icmpNo X0.here hx rfl (hb hby sb_d176) rfl (tlt hc40).2.2.2 k) ?_
        show own_Dn p e below s _ _ _ (T0.setTop (mkF m 179 #[.val (.ref b0), .val (.int (1 : Int32)), .val (.int p2), .val (.int v3), .val (.int (2 : Int32)), .val (.int (128 : Int32)), .val (.int (191 : Int32)), .val (.int ((w_g ((2 : Int32)).toNatClampNeg) &&& (255 : Int32))), .unset] []))
        refine own_st (fun _ k => XS.iconst X0.here hx rfl (hb hby sb_d179) k) ?_
        show own_Dn p e below s _ _ _ (T0.setTop (mkF m 180 #[.val (.ref b0), .val (.int (1 : Int32)), .val (.int p2), .val (.int v3), .val (.int (2 : Int32)), .val (.int (128 : Int32)), .val (.int (191 : Int32)), .val (.int ((w_g ((2 : Int32)).toNatClampNeg) &&& (255 : Int32))), .unset] [(.int (-1 : Int32))]))
        exact own_retI X0 hx hret hlk (hb hby sb_d180) (by decide) (by decide) ⟨(by rw [hr0, sb_f145k2, if_pos hc38, if_neg hc39, if_pos hc40]), N0, e0⟩
      · refine own_st (fun _ k => XS.icmpYes X0.here hx rfl (pc0 := 176) (pc' := 181) rfl (hb hby sb_d176) rfl (flt hc40).2.2.2 (by decide) (by decide) k) ?_
        show own_Dn p e below s _ _ _ (T0.setTop (mkF m 181 #[.val (.ref b0), .val (.int (1 : Int32)), .val (.int p2), .val (.int v3), .val (.int (2 : Int32)), .val (.int (128 : Int32)), .val (.int (191 : Int32)), .val (.int ((w_g ((2 : Int32)).toNatClampNeg) &&& (255 : Int32))), .unset] []))
        refine own_st (fun _ k => XS.iloadN X0.here hx rfl (hb hby sb_d181) rfl (XS.iconst X0.here hx rfl (hb hby sb_d182) (XS.iadd X0.here hx rfl (hb hby sb_d183) rfl (XS.istore X0.here hx rfl (hb hby sb_d184) rfl (l' := #[.val (.ref b0), .val (.int (1 : Int32)), .val (.int p2), .val (.int v3), .val (.int (2 : Int32)), .val (.int (128 : Int32)), .val (.int (191 : Int32)), .val (.int ((w_g ((2 : Int32)).toNatClampNeg) &&& (255 : Int32))), .val (.int (3 : Int32))]) rfl (XS.iload X0.here hx rfl (hb hby sb_d186) rfl (XS.iloadN X0.here hx rfl (hb hby sb_d188) rfl (XS.iload X0.here hx rfl (hb hby sb_d189) rfl (XS.iadd X0.here hx rfl (hb hby sb_d191) rfl k)))))))) ?_
        show own_Dn p e below s _ _ _ (T0.setTop (mkF m 192 #[.val (.ref b0), .val (.int (1 : Int32)), .val (.int p2), .val (.int v3), .val (.int (2 : Int32)), .val (.int (128 : Int32)), .val (.int (191 : Int32)), .val (.int ((w_g ((2 : Int32)).toNatClampNeg) &&& (255 : Int32))), .val (.int (3 : Int32))] [(.int (3 : Int32)), (.int (3 : Int32))]))
        refine own_st (fun _ k => XS.icmpYes X0.here hx rfl (pc0 := 192) (pc' := 225) rfl (hb hby sb_d192) rfl (flt (by decide : ¬ ((3 : Int32) < (3 : Int32)))).2.1 (by decide) (by decide) k) ?_
        show own_Dn p e below s _ _ _ (T0.setTop (mkF m 225 #[.val (.ref b0), .val (.int (1 : Int32)), .val (.int p2), .val (.int v3), .val (.int (2 : Int32)), .val (.int (128 : Int32)), .val (.int (191 : Int32)), .val (.int ((w_g ((2 : Int32)).toNatClampNeg) &&& (255 : Int32))), .val (.int (3 : Int32))] []))
        refine own_st (fun _ k => XS.iload X0.here hx rfl (hb hby sb_d225) rfl k) ?_
        show own_Dn p e below s _ _ _ (T0.setTop (mkF m 227 #[.val (.ref b0), .val (.int (1 : Int32)), .val (.int p2), .val (.int v3), .val (.int (2 : Int32)), .val (.int (128 : Int32)), .val (.int (191 : Int32)), .val (.int ((w_g ((2 : Int32)).toNatClampNeg) &&& (255 : Int32))), .val (.int (3 : Int32))] [(.int (2 : Int32))]))
        exact own_retI X0 hx hret hlk (hb hby sb_d227) (by decide) (by decide) ⟨(by rw [hr0, sb_f145k2, if_pos hc38, if_neg hc39, if_neg hc40]), N0, e0⟩
  · refine own_st (fun _ k => XS.icmpNo X0.here hx rfl (hb hby sb_d149) rfl (flt hc38).1 k) ?_
    show own_Dn p e below s _ _ _ (T0.setTop (mkF m 152 #[.val (.ref b0), .val (.int (1 : Int32)), .val (.int p2), .val (.int v3), .val (.int (2 : Int32)), .val (.int (128 : Int32)), .val (.int (191 : Int32)), .unset, .unset] []))
    refine own_st (fun _ k => XS.iconst X0.here hx rfl (hb hby sb_d152) k) ?_
    show own_Dn p e below s _ _ _ (T0.setTop (mkF m 153 #[.val (.ref b0), .val (.int (1 : Int32)), .val (.int p2), .val (.int v3), .val (.int (2 : Int32)), .val (.int (128 : Int32)), .val (.int (191 : Int32)), .unset, .unset] [(.int (0 : Int32))]))
    exact own_retI X0 hx hret hlk (hb hby sb_d153) (by decide) (by decide) ⟨(by rw [hr0, sb_f145k2, if_neg hc38]), N0, e0⟩
def sb_f (p2 : Int32) (w_g : Nat → Int32)  : Int32 :=
  if ((w_g ((1 : Int32)).toNatClampNeg) &&& (255 : Int32)) < (128 : Int32) then
    (1 : Int32)
  else
    if ((w_g ((1 : Int32)).toNatClampNeg) &&& (255 : Int32)) < (194 : Int32) then
      (-1 : Int32)
    else
      if ((w_g ((1 : Int32)).toNatClampNeg) &&& (255 : Int32)) < (224 : Int32) then
        sb_f145k2 p2 w_g (((w_g ((1 : Int32)).toNatClampNeg) &&& (255 : Int32)))
      else
        if ((w_g ((1 : Int32)).toNatClampNeg) &&& (255 : Int32)) < (240 : Int32) then
          if ((w_g ((1 : Int32)).toNatClampNeg) &&& (255 : Int32)) = (224 : Int32) then
            if ((w_g ((1 : Int32)).toNatClampNeg) &&& (255 : Int32)) = (237 : Int32) then
              sb_f145k3 p2 w_g (((w_g ((1 : Int32)).toNatClampNeg) &&& (255 : Int32))) ((160 : Int32)) ((159 : Int32))
            else
              sb_f145k3 p2 w_g (((w_g ((1 : Int32)).toNatClampNeg) &&& (255 : Int32))) ((160 : Int32)) ((191 : Int32))
          else
            if ((w_g ((1 : Int32)).toNatClampNeg) &&& (255 : Int32)) = (237 : Int32) then
              sb_f145k3 p2 w_g (((w_g ((1 : Int32)).toNatClampNeg) &&& (255 : Int32))) ((128 : Int32)) ((159 : Int32))
            else
              sb_f145k3 p2 w_g (((w_g ((1 : Int32)).toNatClampNeg) &&& (255 : Int32))) ((128 : Int32)) ((191 : Int32))
        else
          if ((w_g ((1 : Int32)).toNatClampNeg) &&& (255 : Int32)) < (245 : Int32) then
            if ((w_g ((1 : Int32)).toNatClampNeg) &&& (255 : Int32)) = (240 : Int32) then
              if ((w_g ((1 : Int32)).toNatClampNeg) &&& (255 : Int32)) = (244 : Int32) then
                sb_f145k4 p2 w_g (((w_g ((1 : Int32)).toNatClampNeg) &&& (255 : Int32))) ((144 : Int32)) ((143 : Int32))
              else
                sb_f145k4 p2 w_g (((w_g ((1 : Int32)).toNatClampNeg) &&& (255 : Int32))) ((144 : Int32)) ((191 : Int32))
            else
              if ((w_g ((1 : Int32)).toNatClampNeg) &&& (255 : Int32)) = (244 : Int32) then
                sb_f145k4 p2 w_g (((w_g ((1 : Int32)).toNatClampNeg) &&& (255 : Int32))) ((128 : Int32)) ((143 : Int32))
              else
                sb_f145k4 p2 w_g (((w_g ((1 : Int32)).toNatClampNeg) &&& (255 : Int32))) ((128 : Int32)) ((191 : Int32))
          else
            (-1 : Int32)
set_option maxRecDepth 65536 in
set_option maxHeartbeats 40000000 in
theorem sb_c0 {l : Launch} {Z : State} {a0 : Array Value} {b0 : Addr} {p2 : Int32} {w_g : Nat → Int32} {h0 : Heap} {n0 : Nat} {p : Program} {e : Env} {s : State} {m : MethodId} {args : Array Value} {below : List Frame} {meth : Method} {c : Code} {T0 : State} {locs : List Loc} {r0 : Int32} (C0 : own_Cx p s m meth c Z a0 prog_31_method_2_code 9 "com/example/xylograph/xylograph/io/Utf8" "sequenceLength" (some .int)) (X0 : Stand p l e ({ frames := 0, cells := 0, slots := 0, locals := 0 } : Room) s m args below meth c T0 locs 0 0) (e0 : T0.heap = h0) (N0 : Fr n0 locs)  (Z0 : n0 ≤ h0.size) (P0 : own_Arf Z h0 b0 .byte 6 (fun i => (.int (w_g i)))) (hr0 : r0 = sb_f p2 w_g ) :
    own_Dn p e below s (own_Q (some (.int r0)) n0 h0) ({ frames := 0, cells := 0, slots := 0, locals := 0 } : Room).cells ({ frames := 0, cells := 0, slots := 0, locals := 0 } : Room).slots (T0.setTop (mkF m 0 #[.val (.ref b0), .val (.int (1 : Int32)), .val (.int p2), .unset, .unset, .unset, .unset, .unset, .unset] [])) := by
  obtain ⟨hx, hZ, hw, hby, hml, hown, hret, hlk, hnm⟩ := id C0
  refine own_st (fun _ k => XS.aloadN X0.here hx rfl (hb hby sb_d0) rfl rfl (XS.iloadN X0.here hx rfl (hb hby sb_d1) rfl k)) ?_
  show own_Dn p e below s _ _ _ (T0.setTop (mkF m 2 #[.val (.ref b0), .val (.int (1 : Int32)), .val (.int p2), .unset, .unset, .unset, .unset, .unset, .unset] [(.int (1 : Int32)), (.ref b0)]))
  refine own_st (own_ldB (pc := 2) (L := #[.val (.ref b0), .val (.int (1 : Int32)), .val (.int p2), .unset, .unset, .unset, .unset, .unset, .unset]) (rest := []) X0 hx hZ e0 P0 (j := (1 : Int32)) (by decide) (by decide) (hb hby sb_d2)) ?_
  show own_Dn p e below s _ _ _ (T0.setTop (mkF m 3 #[.val (.ref b0), .val (.int (1 : Int32)), .val (.int p2), .unset, .unset, .unset, .unset, .unset, .unset] [(.int (w_g ((1 : Int32)).toNatClampNeg))]))
  refine own_st (fun _ k => XS.sipush X0.here hx rfl (hb hby sb_d3) (XS.iand X0.here hx rfl (hb hby sb_d6) rfl (XS.istoreN X0.here hx rfl (hb hby sb_d7) rfl (l' := #[.val (.ref b0), .val (.int (1 : Int32)), .val (.int p2), .val (.int ((w_g ((1 : Int32)).toNatClampNeg) &&& (255 : Int32))), .unset, .unset, .unset, .unset, .unset]) rfl (XS.iloadN X0.here hx rfl (hb hby sb_d8) rfl (XS.sipush X0.here hx rfl (hb hby sb_d9) k))))) ?_
  show own_Dn p e below s _ _ _ (T0.setTop (mkF m 12 #[.val (.ref b0), .val (.int (1 : Int32)), .val (.int p2), .val (.int ((w_g ((1 : Int32)).toNatClampNeg) &&& (255 : Int32))), .unset, .unset, .unset, .unset, .unset] [(.int (128 : Int32)), (.int ((w_g ((1 : Int32)).toNatClampNeg) &&& (255 : Int32)))]))
  by_cases hc27 : ((w_g ((1 : Int32)).toNatClampNeg) &&& (255 : Int32)) < (128 : Int32)
  · refine own_st (fun _ k => XS.icmpNo X0.here hx rfl (hb hby sb_d12) rfl (tlt hc27).2.1 k) ?_
    show own_Dn p e below s _ _ _ (T0.setTop (mkF m 15 #[.val (.ref b0), .val (.int (1 : Int32)), .val (.int p2), .val (.int ((w_g ((1 : Int32)).toNatClampNeg) &&& (255 : Int32))), .unset, .unset, .unset, .unset, .unset] []))
    refine own_st (fun _ k => XS.iconst X0.here hx rfl (hb hby sb_d15) k) ?_
    show own_Dn p e below s _ _ _ (T0.setTop (mkF m 16 #[.val (.ref b0), .val (.int (1 : Int32)), .val (.int p2), .val (.int ((w_g ((1 : Int32)).toNatClampNeg) &&& (255 : Int32))), .unset, .unset, .unset, .unset, .unset] [(.int (1 : Int32))]))
    exact own_retI X0 hx hret hlk (hb hby sb_d16) (by decide) (by decide) ⟨(by rw [hr0, sb_f, if_pos hc27]), N0, e0⟩
  · refine own_st (fun _ k => XS.icmpYes X0.here hx rfl (pc0 := 12) (pc' := 17) rfl (hb hby sb_d12) rfl (flt hc27).2.1 (by decide) (by decide) k) ?_
    show own_Dn p e below s _ _ _ (T0.setTop (mkF m 17 #[.val (.ref b0), .val (.int (1 : Int32)), .val (.int p2), .val (.int ((w_g ((1 : Int32)).toNatClampNeg) &&& (255 : Int32))), .unset, .unset, .unset, .unset, .unset] []))
    refine own_st (fun _ k => XS.sipush X0.here hx rfl (hb hby sb_d17) (XS.istore X0.here hx rfl (hb hby sb_d20) rfl (l' := #[.val (.ref b0), .val (.int (1 : Int32)), .val (.int p2), .val (.int ((w_g ((1 : Int32)).toNatClampNeg) &&& (255 : Int32))), .unset, .val (.int (128 : Int32)), .unset, .unset, .unset]) rfl (XS.sipush X0.here hx rfl (hb hby sb_d22) (XS.istore X0.here hx rfl (hb hby sb_d25) rfl (l' := #[.val (.ref b0), .val (.int (1 : Int32)), .val (.int p2), .val (.int ((w_g ((1 : Int32)).toNatClampNeg) &&& (255 : Int32))), .unset, .val (.int (128 : Int32)), .val (.int (191 : Int32)), .unset, .unset]) rfl (XS.iloadN X0.here hx rfl (hb hby sb_d27) rfl (XS.sipush X0.here hx rfl (hb hby sb_d28) k)))))) ?_
    show own_Dn p e below s _ _ _ (T0.setTop (mkF m 31 #[.val (.ref b0), .val (.int (1 : Int32)), .val (.int p2), .val (.int ((w_g ((1 : Int32)).toNatClampNeg) &&& (255 : Int32))), .unset, .val (.int (128 : Int32)), .val (.int (191 : Int32)), .unset, .unset] [(.int (194 : Int32)), (.int ((w_g ((1 : Int32)).toNatClampNeg) &&& (255 : Int32)))]))
    by_cases hc28 : ((w_g ((1 : Int32)).toNatClampNeg) &&& (255 : Int32)) < (194 : Int32)
    · refine own_st (fun _ k => XS.icmpNo X0.here hx rfl (hb hby sb_d31) rfl (tlt hc28).2.1 k) ?_
      show own_Dn p e below s _ _ _ (T0.setTop (mkF m 34 #[.val (.ref b0), .val (.int (1 : Int32)), .val (.int p2), .val (.int ((w_g ((1 : Int32)).toNatClampNeg) &&& (255 : Int32))), .unset, .val (.int (128 : Int32)), .val (.int (191 : Int32)), .unset, .unset] []))
      refine own_st (fun _ k => XS.iconst X0.here hx rfl (hb hby sb_d34) k) ?_
      show own_Dn p e below s _ _ _ (T0.setTop (mkF m 35 #[.val (.ref b0), .val (.int (1 : Int32)), .val (.int p2), .val (.int ((w_g ((1 : Int32)).toNatClampNeg) &&& (255 : Int32))), .unset, .val (.int (128 : Int32)), .val (.int (191 : Int32)), .unset, .unset] [(.int (-1 : Int32))]))
      exact own_retI X0 hx hret hlk (hb hby sb_d35) (by decide) (by decide) ⟨(by rw [hr0, sb_f, if_neg hc27, if_pos hc28]), N0, e0⟩
    · refine own_st (fun _ k => XS.icmpYes X0.here hx rfl (pc0 := 31) (pc' := 36) rfl (hb hby sb_d31) rfl (flt hc28).2.1 (by decide) (by decide) k) ?_
      show own_Dn p e below s _ _ _ (T0.setTop (mkF m 36 #[.val (.ref b0), .val (.int (1 : Int32)), .val (.int p2), .val (.int ((w_g ((1 : Int32)).toNatClampNeg) &&& (255 : Int32))), .unset, .val (.int (128 : Int32)), .val (.int (191 : Int32)), .unset, .unset] []))
      refine own_st (fun _ k => XS.iloadN X0.here hx rfl (hb hby sb_d36) rfl (XS.sipush X0.here hx rfl (hb hby sb_d37) k)) ?_
      show own_Dn p e below s _ _ _ (T0.setTop (mkF m 40 #[.val (.ref b0), .val (.int (1 : Int32)), .val (.int p2), .val (.int ((w_g ((1 : Int32)).toNatClampNeg) &&& (255 : Int32))), .unset, .val (.int (128 : Int32)), .val (.int (191 : Int32)), .unset, .unset] [(.int (224 : Int32)), (.int ((w_g ((1 : Int32)).toNatClampNeg) &&& (255 : Int32)))]))
      by_cases hc29 : ((w_g ((1 : Int32)).toNatClampNeg) &&& (255 : Int32)) < (224 : Int32)
      · refine own_st (fun _ k => XS.icmpNo X0.here hx rfl (hb hby sb_d40) rfl (tlt hc29).2.1 k) ?_
        show own_Dn p e below s _ _ _ (T0.setTop (mkF m 43 #[.val (.ref b0), .val (.int (1 : Int32)), .val (.int p2), .val (.int ((w_g ((1 : Int32)).toNatClampNeg) &&& (255 : Int32))), .unset, .val (.int (128 : Int32)), .val (.int (191 : Int32)), .unset, .unset] []))
        refine own_st (fun _ k => XS.iconst X0.here hx rfl (hb hby sb_d43) (XS.istore X0.here hx rfl (hb hby sb_d44) rfl (l' := #[.val (.ref b0), .val (.int (1 : Int32)), .val (.int p2), .val (.int ((w_g ((1 : Int32)).toNatClampNeg) &&& (255 : Int32))), .val (.int (2 : Int32)), .val (.int (128 : Int32)), .val (.int (191 : Int32)), .unset, .unset]) rfl (XS.goto X0.here hx rfl (pc0 := 46) (pc' := 145) rfl (hb hby sb_d46) (by decide) (by decide) k))) ?_
        show own_Dn p e below s _ _ _ (T0.setTop (mkF m 145 #[.val (.ref b0), .val (.int (1 : Int32)), .val (.int p2), .val (.int ((w_g ((1 : Int32)).toNatClampNeg) &&& (255 : Int32))), .val (.int (2 : Int32)), .val (.int (128 : Int32)), .val (.int (191 : Int32)), .unset, .unset] []))
        exact sb_c145k2 C0 X0 e0 N0 (((w_g ((1 : Int32)).toNatClampNeg) &&& (255 : Int32))) Z0 P0 (by rw [hr0, sb_f, if_neg hc27, if_neg hc28, if_pos hc29])
      · refine own_st (fun _ k => XS.icmpYes X0.here hx rfl (pc0 := 40) (pc' := 49) rfl (hb hby sb_d40) rfl (flt hc29).2.1 (by decide) (by decide) k) ?_
        show own_Dn p e below s _ _ _ (T0.setTop (mkF m 49 #[.val (.ref b0), .val (.int (1 : Int32)), .val (.int p2), .val (.int ((w_g ((1 : Int32)).toNatClampNeg) &&& (255 : Int32))), .unset, .val (.int (128 : Int32)), .val (.int (191 : Int32)), .unset, .unset] []))
        refine own_st (fun _ k => XS.iloadN X0.here hx rfl (hb hby sb_d49) rfl (XS.sipush X0.here hx rfl (hb hby sb_d50) k)) ?_
        show own_Dn p e below s _ _ _ (T0.setTop (mkF m 53 #[.val (.ref b0), .val (.int (1 : Int32)), .val (.int p2), .val (.int ((w_g ((1 : Int32)).toNatClampNeg) &&& (255 : Int32))), .unset, .val (.int (128 : Int32)), .val (.int (191 : Int32)), .unset, .unset] [(.int (240 : Int32)), (.int ((w_g ((1 : Int32)).toNatClampNeg) &&& (255 : Int32)))]))
        by_cases hc30 : ((w_g ((1 : Int32)).toNatClampNeg) &&& (255 : Int32)) < (240 : Int32)
        · refine own_st (fun _ k => XS.icmpNo X0.here hx rfl (hb hby sb_d53) rfl (tlt hc30).2.1 k) ?_
          show own_Dn p e below s _ _ _ (T0.setTop (mkF m 56 #[.val (.ref b0), .val (.int (1 : Int32)), .val (.int p2), .val (.int ((w_g ((1 : Int32)).toNatClampNeg) &&& (255 : Int32))), .unset, .val (.int (128 : Int32)), .val (.int (191 : Int32)), .unset, .unset] []))
          refine own_st (fun _ k => XS.iconst X0.here hx rfl (hb hby sb_d56) (XS.istore X0.here hx rfl (hb hby sb_d57) rfl (l' := #[.val (.ref b0), .val (.int (1 : Int32)), .val (.int p2), .val (.int ((w_g ((1 : Int32)).toNatClampNeg) &&& (255 : Int32))), .val (.int (3 : Int32)), .val (.int (128 : Int32)), .val (.int (191 : Int32)), .unset, .unset]) rfl (XS.iloadN X0.here hx rfl (hb hby sb_d59) rfl (XS.sipush X0.here hx rfl (hb hby sb_d60) k)))) ?_
          show own_Dn p e below s _ _ _ (T0.setTop (mkF m 63 #[.val (.ref b0), .val (.int (1 : Int32)), .val (.int p2), .val (.int ((w_g ((1 : Int32)).toNatClampNeg) &&& (255 : Int32))), .val (.int (3 : Int32)), .val (.int (128 : Int32)), .val (.int (191 : Int32)), .unset, .unset] [(.int (224 : Int32)), (.int ((w_g ((1 : Int32)).toNatClampNeg) &&& (255 : Int32)))]))
          by_cases hc31 : ((w_g ((1 : Int32)).toNatClampNeg) &&& (255 : Int32)) = (224 : Int32)
          · refine own_st (fun _ k => XS.icmpNo X0.here hx rfl (hb hby sb_d63) rfl (teq hc31).2 k) ?_
            show own_Dn p e below s _ _ _ (T0.setTop (mkF m 66 #[.val (.ref b0), .val (.int (1 : Int32)), .val (.int p2), .val (.int ((w_g ((1 : Int32)).toNatClampNeg) &&& (255 : Int32))), .val (.int (3 : Int32)), .val (.int (128 : Int32)), .val (.int (191 : Int32)), .unset, .unset] []))
            refine own_st (fun _ k => XS.sipush X0.here hx rfl (hb hby sb_d66) (XS.goto X0.here hx rfl (pc0 := 69) (pc' := 74) rfl (hb hby sb_d69) (by decide) (by decide) (XS.istore X0.here hx rfl (hb hby sb_d74) rfl (l' := #[.val (.ref b0), .val (.int (1 : Int32)), .val (.int p2), .val (.int ((w_g ((1 : Int32)).toNatClampNeg) &&& (255 : Int32))), .val (.int (3 : Int32)), .val (.int (160 : Int32)), .val (.int (191 : Int32)), .unset, .unset]) rfl (XS.iloadN X0.here hx rfl (hb hby sb_d76) rfl (XS.sipush X0.here hx rfl (hb hby sb_d77) k))))) ?_
            show own_Dn p e below s _ _ _ (T0.setTop (mkF m 80 #[.val (.ref b0), .val (.int (1 : Int32)), .val (.int p2), .val (.int ((w_g ((1 : Int32)).toNatClampNeg) &&& (255 : Int32))), .val (.int (3 : Int32)), .val (.int (160 : Int32)), .val (.int (191 : Int32)), .unset, .unset] [(.int (237 : Int32)), (.int ((w_g ((1 : Int32)).toNatClampNeg) &&& (255 : Int32)))]))
            by_cases hc32 : ((w_g ((1 : Int32)).toNatClampNeg) &&& (255 : Int32)) = (237 : Int32)
            · refine own_st (fun _ k => XS.icmpNo X0.here hx rfl (hb hby sb_d80) rfl (teq hc32).2 k) ?_
              show own_Dn p e below s _ _ _ (T0.setTop (mkF m 83 #[.val (.ref b0), .val (.int (1 : Int32)), .val (.int p2), .val (.int ((w_g ((1 : Int32)).toNatClampNeg) &&& (255 : Int32))), .val (.int (3 : Int32)), .val (.int (160 : Int32)), .val (.int (191 : Int32)), .unset, .unset] []))
              refine own_st (fun _ k => XS.sipush X0.here hx rfl (hb hby sb_d83) (XS.goto X0.here hx rfl (pc0 := 86) (pc' := 91) rfl (hb hby sb_d86) (by decide) (by decide) (XS.istore X0.here hx rfl (hb hby sb_d91) rfl (l' := #[.val (.ref b0), .val (.int (1 : Int32)), .val (.int p2), .val (.int ((w_g ((1 : Int32)).toNatClampNeg) &&& (255 : Int32))), .val (.int (3 : Int32)), .val (.int (160 : Int32)), .val (.int (159 : Int32)), .unset, .unset]) rfl (XS.goto X0.here hx rfl (pc0 := 93) (pc' := 145) rfl (hb hby sb_d93) (by decide) (by decide) k)))) ?_
              show own_Dn p e below s _ _ _ (T0.setTop (mkF m 145 #[.val (.ref b0), .val (.int (1 : Int32)), .val (.int p2), .val (.int ((w_g ((1 : Int32)).toNatClampNeg) &&& (255 : Int32))), .val (.int (3 : Int32)), .val (.int (160 : Int32)), .val (.int (159 : Int32)), .unset, .unset] []))
              exact sb_c145k3 C0 X0 e0 N0 (((w_g ((1 : Int32)).toNatClampNeg) &&& (255 : Int32))) ((160 : Int32)) ((159 : Int32)) Z0 P0 (by rw [hr0, sb_f, if_neg hc27, if_neg hc28, if_neg hc29, if_pos hc30, if_pos hc31, if_pos hc32])
            · refine own_st (fun _ k => XS.icmpYes X0.here hx rfl (pc0 := 80) (pc' := 89) rfl (hb hby sb_d80) rfl (feq hc32).2 (by decide) (by decide) k) ?_
              show own_Dn p e below s _ _ _ (T0.setTop (mkF m 89 #[.val (.ref b0), .val (.int (1 : Int32)), .val (.int p2), .val (.int ((w_g ((1 : Int32)).toNatClampNeg) &&& (255 : Int32))), .val (.int (3 : Int32)), .val (.int (160 : Int32)), .val (.int (191 : Int32)), .unset, .unset] []))
              refine own_st (fun _ k => XS.iload X0.here hx rfl (hb hby sb_d89) rfl (XS.istore X0.here hx rfl (hb hby sb_d91) rfl (l' := #[.val (.ref b0), .val (.int (1 : Int32)), .val (.int p2), .val (.int ((w_g ((1 : Int32)).toNatClampNeg) &&& (255 : Int32))), .val (.int (3 : Int32)), .val (.int (160 : Int32)), .val (.int (191 : Int32)), .unset, .unset]) rfl (XS.goto X0.here hx rfl (pc0 := 93) (pc' := 145) rfl (hb hby sb_d93) (by decide) (by decide) k))) ?_
              show own_Dn p e below s _ _ _ (T0.setTop (mkF m 145 #[.val (.ref b0), .val (.int (1 : Int32)), .val (.int p2), .val (.int ((w_g ((1 : Int32)).toNatClampNeg) &&& (255 : Int32))), .val (.int (3 : Int32)), .val (.int (160 : Int32)), .val (.int (191 : Int32)), .unset, .unset] []))
              exact sb_c145k3 C0 X0 e0 N0 (((w_g ((1 : Int32)).toNatClampNeg) &&& (255 : Int32))) ((160 : Int32)) ((191 : Int32)) Z0 P0 (by rw [hr0, sb_f, if_neg hc27, if_neg hc28, if_neg hc29, if_pos hc30, if_pos hc31, if_neg hc32])
          · refine own_st (fun _ k => XS.icmpYes X0.here hx rfl (pc0 := 63) (pc' := 72) rfl (hb hby sb_d63) rfl (feq hc31).2 (by decide) (by decide) k) ?_
            show own_Dn p e below s _ _ _ (T0.setTop (mkF m 72 #[.val (.ref b0), .val (.int (1 : Int32)), .val (.int p2), .val (.int ((w_g ((1 : Int32)).toNatClampNeg) &&& (255 : Int32))), .val (.int (3 : Int32)), .val (.int (128 : Int32)), .val (.int (191 : Int32)), .unset, .unset] []))
            refine own_st (fun _ k => XS.iload X0.here hx rfl (hb hby sb_d72) rfl (XS.istore X0.here hx rfl (hb hby sb_d74) rfl (l' := #[.val (.ref b0), .val (.int (1 : Int32)), .val (.int p2), .val (.int ((w_g ((1 : Int32)).toNatClampNeg) &&& (255 : Int32))), .val (.int (3 : Int32)), .val (.int (128 : Int32)), .val (.int (191 : Int32)), .unset, .unset]) rfl (XS.iloadN X0.here hx rfl (hb hby sb_d76) rfl (XS.sipush X0.here hx rfl (hb hby sb_d77) k)))) ?_
            show own_Dn p e below s _ _ _ (T0.setTop (mkF m 80 #[.val (.ref b0), .val (.int (1 : Int32)), .val (.int p2), .val (.int ((w_g ((1 : Int32)).toNatClampNeg) &&& (255 : Int32))), .val (.int (3 : Int32)), .val (.int (128 : Int32)), .val (.int (191 : Int32)), .unset, .unset] [(.int (237 : Int32)), (.int ((w_g ((1 : Int32)).toNatClampNeg) &&& (255 : Int32)))]))
            by_cases hc33 : ((w_g ((1 : Int32)).toNatClampNeg) &&& (255 : Int32)) = (237 : Int32)
            · refine own_st (fun _ k => XS.icmpNo X0.here hx rfl (hb hby sb_d80) rfl (teq hc33).2 k) ?_
              show own_Dn p e below s _ _ _ (T0.setTop (mkF m 83 #[.val (.ref b0), .val (.int (1 : Int32)), .val (.int p2), .val (.int ((w_g ((1 : Int32)).toNatClampNeg) &&& (255 : Int32))), .val (.int (3 : Int32)), .val (.int (128 : Int32)), .val (.int (191 : Int32)), .unset, .unset] []))
              refine own_st (fun _ k => XS.sipush X0.here hx rfl (hb hby sb_d83) (XS.goto X0.here hx rfl (pc0 := 86) (pc' := 91) rfl (hb hby sb_d86) (by decide) (by decide) (XS.istore X0.here hx rfl (hb hby sb_d91) rfl (l' := #[.val (.ref b0), .val (.int (1 : Int32)), .val (.int p2), .val (.int ((w_g ((1 : Int32)).toNatClampNeg) &&& (255 : Int32))), .val (.int (3 : Int32)), .val (.int (128 : Int32)), .val (.int (159 : Int32)), .unset, .unset]) rfl (XS.goto X0.here hx rfl (pc0 := 93) (pc' := 145) rfl (hb hby sb_d93) (by decide) (by decide) k)))) ?_
              show own_Dn p e below s _ _ _ (T0.setTop (mkF m 145 #[.val (.ref b0), .val (.int (1 : Int32)), .val (.int p2), .val (.int ((w_g ((1 : Int32)).toNatClampNeg) &&& (255 : Int32))), .val (.int (3 : Int32)), .val (.int (128 : Int32)), .val (.int (159 : Int32)), .unset, .unset] []))
              exact sb_c145k3 C0 X0 e0 N0 (((w_g ((1 : Int32)).toNatClampNeg) &&& (255 : Int32))) ((128 : Int32)) ((159 : Int32)) Z0 P0 (by rw [hr0, sb_f, if_neg hc27, if_neg hc28, if_neg hc29, if_pos hc30, if_neg hc31, if_pos hc33])
            · refine own_st (fun _ k => XS.icmpYes X0.here hx rfl (pc0 := 80) (pc' := 89) rfl (hb hby sb_d80) rfl (feq hc33).2 (by decide) (by decide) k) ?_
              show own_Dn p e below s _ _ _ (T0.setTop (mkF m 89 #[.val (.ref b0), .val (.int (1 : Int32)), .val (.int p2), .val (.int ((w_g ((1 : Int32)).toNatClampNeg) &&& (255 : Int32))), .val (.int (3 : Int32)), .val (.int (128 : Int32)), .val (.int (191 : Int32)), .unset, .unset] []))
              refine own_st (fun _ k => XS.iload X0.here hx rfl (hb hby sb_d89) rfl (XS.istore X0.here hx rfl (hb hby sb_d91) rfl (l' := #[.val (.ref b0), .val (.int (1 : Int32)), .val (.int p2), .val (.int ((w_g ((1 : Int32)).toNatClampNeg) &&& (255 : Int32))), .val (.int (3 : Int32)), .val (.int (128 : Int32)), .val (.int (191 : Int32)), .unset, .unset]) rfl (XS.goto X0.here hx rfl (pc0 := 93) (pc' := 145) rfl (hb hby sb_d93) (by decide) (by decide) k))) ?_
              show own_Dn p e below s _ _ _ (T0.setTop (mkF m 145 #[.val (.ref b0), .val (.int (1 : Int32)), .val (.int p2), .val (.int ((w_g ((1 : Int32)).toNatClampNeg) &&& (255 : Int32))), .val (.int (3 : Int32)), .val (.int (128 : Int32)), .val (.int (191 : Int32)), .unset, .unset] []))
              exact sb_c145k3 C0 X0 e0 N0 (((w_g ((1 : Int32)).toNatClampNeg) &&& (255 : Int32))) ((128 : Int32)) ((191 : Int32)) Z0 P0 (by rw [hr0, sb_f, if_neg hc27, if_neg hc28, if_neg hc29, if_pos hc30, if_neg hc31, if_neg hc33])
        · refine own_st (fun _ k => XS.icmpYes X0.here hx rfl (pc0 := 53) (pc' := 96) rfl (hb hby sb_d53) rfl (flt hc30).2.1 (by decide) (by decide) k) ?_
          show own_Dn p e below s _ _ _ (T0.setTop (mkF m 96 #[.val (.ref b0), .val (.int (1 : Int32)), .val (.int p2), .val (.int ((w_g ((1 : Int32)).toNatClampNeg) &&& (255 : Int32))), .unset, .val (.int (128 : Int32)), .val (.int (191 : Int32)), .unset, .unset] []))
          refine own_st (fun _ k => XS.iloadN X0.here hx rfl (hb hby sb_d96) rfl (XS.sipush X0.here hx rfl (hb hby sb_d97) k)) ?_
          show own_Dn p e below s _ _ _ (T0.setTop (mkF m 100 #[.val (.ref b0), .val (.int (1 : Int32)), .val (.int p2), .val (.int ((w_g ((1 : Int32)).toNatClampNeg) &&& (255 : Int32))), .unset, .val (.int (128 : Int32)), .val (.int (191 : Int32)), .unset, .unset] [(.int (245 : Int32)), (.int ((w_g ((1 : Int32)).toNatClampNeg) &&& (255 : Int32)))]))
          by_cases hc34 : ((w_g ((1 : Int32)).toNatClampNeg) &&& (255 : Int32)) < (245 : Int32)
          · refine own_st (fun _ k => XS.icmpNo X0.here hx rfl (hb hby sb_d100) rfl (tlt hc34).2.1 k) ?_
            show own_Dn p e below s _ _ _ (T0.setTop (mkF m 103 #[.val (.ref b0), .val (.int (1 : Int32)), .val (.int p2), .val (.int ((w_g ((1 : Int32)).toNatClampNeg) &&& (255 : Int32))), .unset, .val (.int (128 : Int32)), .val (.int (191 : Int32)), .unset, .unset] []))
            refine own_st (fun _ k => XS.iconst X0.here hx rfl (hb hby sb_d103) (XS.istore X0.here hx rfl (hb hby sb_d104) rfl (l' := #[.val (.ref b0), .val (.int (1 : Int32)), .val (.int p2), .val (.int ((w_g ((1 : Int32)).toNatClampNeg) &&& (255 : Int32))), .val (.int (4 : Int32)), .val (.int (128 : Int32)), .val (.int (191 : Int32)), .unset, .unset]) rfl (XS.iloadN X0.here hx rfl (hb hby sb_d106) rfl (XS.sipush X0.here hx rfl (hb hby sb_d107) k)))) ?_
            show own_Dn p e below s _ _ _ (T0.setTop (mkF m 110 #[.val (.ref b0), .val (.int (1 : Int32)), .val (.int p2), .val (.int ((w_g ((1 : Int32)).toNatClampNeg) &&& (255 : Int32))), .val (.int (4 : Int32)), .val (.int (128 : Int32)), .val (.int (191 : Int32)), .unset, .unset] [(.int (240 : Int32)), (.int ((w_g ((1 : Int32)).toNatClampNeg) &&& (255 : Int32)))]))
            by_cases hc35 : ((w_g ((1 : Int32)).toNatClampNeg) &&& (255 : Int32)) = (240 : Int32)
            · refine own_st (fun _ k => XS.icmpNo X0.here hx rfl (hb hby sb_d110) rfl (teq hc35).2 k) ?_
              show own_Dn p e below s _ _ _ (T0.setTop (mkF m 113 #[.val (.ref b0), .val (.int (1 : Int32)), .val (.int p2), .val (.int ((w_g ((1 : Int32)).toNatClampNeg) &&& (255 : Int32))), .val (.int (4 : Int32)), .val (.int (128 : Int32)), .val (.int (191 : Int32)), .unset, .unset] []))
              refine own_st (fun _ k => XS.sipush X0.here hx rfl (hb hby sb_d113) (XS.goto X0.here hx rfl (pc0 := 116) (pc' := 121) rfl (hb hby sb_d116) (by decide) (by decide) (XS.istore X0.here hx rfl (hb hby sb_d121) rfl (l' := #[.val (.ref b0), .val (.int (1 : Int32)), .val (.int p2), .val (.int ((w_g ((1 : Int32)).toNatClampNeg) &&& (255 : Int32))), .val (.int (4 : Int32)), .val (.int (144 : Int32)), .val (.int (191 : Int32)), .unset, .unset]) rfl (XS.iloadN X0.here hx rfl (hb hby sb_d123) rfl (XS.sipush X0.here hx rfl (hb hby sb_d124) k))))) ?_
              show own_Dn p e below s _ _ _ (T0.setTop (mkF m 127 #[.val (.ref b0), .val (.int (1 : Int32)), .val (.int p2), .val (.int ((w_g ((1 : Int32)).toNatClampNeg) &&& (255 : Int32))), .val (.int (4 : Int32)), .val (.int (144 : Int32)), .val (.int (191 : Int32)), .unset, .unset] [(.int (244 : Int32)), (.int ((w_g ((1 : Int32)).toNatClampNeg) &&& (255 : Int32)))]))
              by_cases hc36 : ((w_g ((1 : Int32)).toNatClampNeg) &&& (255 : Int32)) = (244 : Int32)
              · refine own_st (fun _ k => XS.icmpNo X0.here hx rfl (hb hby sb_d127) rfl (teq hc36).2 k) ?_
                show own_Dn p e below s _ _ _ (T0.setTop (mkF m 130 #[.val (.ref b0), .val (.int (1 : Int32)), .val (.int p2), .val (.int ((w_g ((1 : Int32)).toNatClampNeg) &&& (255 : Int32))), .val (.int (4 : Int32)), .val (.int (144 : Int32)), .val (.int (191 : Int32)), .unset, .unset] []))
                refine own_st (fun _ k => XS.sipush X0.here hx rfl (hb hby sb_d130) (XS.goto X0.here hx rfl (pc0 := 133) (pc' := 138) rfl (hb hby sb_d133) (by decide) (by decide) (XS.istore X0.here hx rfl (hb hby sb_d138) rfl (l' := #[.val (.ref b0), .val (.int (1 : Int32)), .val (.int p2), .val (.int ((w_g ((1 : Int32)).toNatClampNeg) &&& (255 : Int32))), .val (.int (4 : Int32)), .val (.int (144 : Int32)), .val (.int (143 : Int32)), .unset, .unset]) rfl (XS.goto X0.here hx rfl (pc0 := 140) (pc' := 145) rfl (hb hby sb_d140) (by decide) (by decide) k)))) ?_
                show own_Dn p e below s _ _ _ (T0.setTop (mkF m 145 #[.val (.ref b0), .val (.int (1 : Int32)), .val (.int p2), .val (.int ((w_g ((1 : Int32)).toNatClampNeg) &&& (255 : Int32))), .val (.int (4 : Int32)), .val (.int (144 : Int32)), .val (.int (143 : Int32)), .unset, .unset] []))
                exact sb_c145k4 C0 X0 e0 N0 (((w_g ((1 : Int32)).toNatClampNeg) &&& (255 : Int32))) ((144 : Int32)) ((143 : Int32)) Z0 P0 (by rw [hr0, sb_f, if_neg hc27, if_neg hc28, if_neg hc29, if_neg hc30, if_pos hc34, if_pos hc35, if_pos hc36])
              · refine own_st (fun _ k => XS.icmpYes X0.here hx rfl (pc0 := 127) (pc' := 136) rfl (hb hby sb_d127) rfl (feq hc36).2 (by decide) (by decide) k) ?_
                show own_Dn p e below s _ _ _ (T0.setTop (mkF m 136 #[.val (.ref b0), .val (.int (1 : Int32)), .val (.int p2), .val (.int ((w_g ((1 : Int32)).toNatClampNeg) &&& (255 : Int32))), .val (.int (4 : Int32)), .val (.int (144 : Int32)), .val (.int (191 : Int32)), .unset, .unset] []))
                refine own_st (fun _ k => XS.iload X0.here hx rfl (hb hby sb_d136) rfl (XS.istore X0.here hx rfl (hb hby sb_d138) rfl (l' := #[.val (.ref b0), .val (.int (1 : Int32)), .val (.int p2), .val (.int ((w_g ((1 : Int32)).toNatClampNeg) &&& (255 : Int32))), .val (.int (4 : Int32)), .val (.int (144 : Int32)), .val (.int (191 : Int32)), .unset, .unset]) rfl (XS.goto X0.here hx rfl (pc0 := 140) (pc' := 145) rfl (hb hby sb_d140) (by decide) (by decide) k))) ?_
                show own_Dn p e below s _ _ _ (T0.setTop (mkF m 145 #[.val (.ref b0), .val (.int (1 : Int32)), .val (.int p2), .val (.int ((w_g ((1 : Int32)).toNatClampNeg) &&& (255 : Int32))), .val (.int (4 : Int32)), .val (.int (144 : Int32)), .val (.int (191 : Int32)), .unset, .unset] []))
                exact sb_c145k4 C0 X0 e0 N0 (((w_g ((1 : Int32)).toNatClampNeg) &&& (255 : Int32))) ((144 : Int32)) ((191 : Int32)) Z0 P0 (by rw [hr0, sb_f, if_neg hc27, if_neg hc28, if_neg hc29, if_neg hc30, if_pos hc34, if_pos hc35, if_neg hc36])
            · refine own_st (fun _ k => XS.icmpYes X0.here hx rfl (pc0 := 110) (pc' := 119) rfl (hb hby sb_d110) rfl (feq hc35).2 (by decide) (by decide) k) ?_
              show own_Dn p e below s _ _ _ (T0.setTop (mkF m 119 #[.val (.ref b0), .val (.int (1 : Int32)), .val (.int p2), .val (.int ((w_g ((1 : Int32)).toNatClampNeg) &&& (255 : Int32))), .val (.int (4 : Int32)), .val (.int (128 : Int32)), .val (.int (191 : Int32)), .unset, .unset] []))
              refine own_st (fun _ k => XS.iload X0.here hx rfl (hb hby sb_d119) rfl (XS.istore X0.here hx rfl (hb hby sb_d121) rfl (l' := #[.val (.ref b0), .val (.int (1 : Int32)), .val (.int p2), .val (.int ((w_g ((1 : Int32)).toNatClampNeg) &&& (255 : Int32))), .val (.int (4 : Int32)), .val (.int (128 : Int32)), .val (.int (191 : Int32)), .unset, .unset]) rfl (XS.iloadN X0.here hx rfl (hb hby sb_d123) rfl (XS.sipush X0.here hx rfl (hb hby sb_d124) k)))) ?_
              show own_Dn p e below s _ _ _ (T0.setTop (mkF m 127 #[.val (.ref b0), .val (.int (1 : Int32)), .val (.int p2), .val (.int ((w_g ((1 : Int32)).toNatClampNeg) &&& (255 : Int32))), .val (.int (4 : Int32)), .val (.int (128 : Int32)), .val (.int (191 : Int32)), .unset, .unset] [(.int (244 : Int32)), (.int ((w_g ((1 : Int32)).toNatClampNeg) &&& (255 : Int32)))]))
              by_cases hc37 : ((w_g ((1 : Int32)).toNatClampNeg) &&& (255 : Int32)) = (244 : Int32)
              · refine own_st (fun _ k => XS.icmpNo X0.here hx rfl (hb hby sb_d127) rfl (teq hc37).2 k) ?_
                show own_Dn p e below s _ _ _ (T0.setTop (mkF m 130 #[.val (.ref b0), .val (.int (1 : Int32)), .val (.int p2), .val (.int ((w_g ((1 : Int32)).toNatClampNeg) &&& (255 : Int32))), .val (.int (4 : Int32)), .val (.int (128 : Int32)), .val (.int (191 : Int32)), .unset, .unset] []))
                refine own_st (fun _ k => XS.sipush X0.here hx rfl (hb hby sb_d130) (XS.goto X0.here hx rfl (pc0 := 133) (pc' := 138) rfl (hb hby sb_d133) (by decide) (by decide) (XS.istore X0.here hx rfl (hb hby sb_d138) rfl (l' := #[.val (.ref b0), .val (.int (1 : Int32)), .val (.int p2), .val (.int ((w_g ((1 : Int32)).toNatClampNeg) &&& (255 : Int32))), .val (.int (4 : Int32)), .val (.int (128 : Int32)), .val (.int (143 : Int32)), .unset, .unset]) rfl (XS.goto X0.here hx rfl (pc0 := 140) (pc' := 145) rfl (hb hby sb_d140) (by decide) (by decide) k)))) ?_
                show own_Dn p e below s _ _ _ (T0.setTop (mkF m 145 #[.val (.ref b0), .val (.int (1 : Int32)), .val (.int p2), .val (.int ((w_g ((1 : Int32)).toNatClampNeg) &&& (255 : Int32))), .val (.int (4 : Int32)), .val (.int (128 : Int32)), .val (.int (143 : Int32)), .unset, .unset] []))
                exact sb_c145k4 C0 X0 e0 N0 (((w_g ((1 : Int32)).toNatClampNeg) &&& (255 : Int32))) ((128 : Int32)) ((143 : Int32)) Z0 P0 (by rw [hr0, sb_f, if_neg hc27, if_neg hc28, if_neg hc29, if_neg hc30, if_pos hc34, if_neg hc35, if_pos hc37])
              · refine own_st (fun _ k => XS.icmpYes X0.here hx rfl (pc0 := 127) (pc' := 136) rfl (hb hby sb_d127) rfl (feq hc37).2 (by decide) (by decide) k) ?_
                show own_Dn p e below s _ _ _ (T0.setTop (mkF m 136 #[.val (.ref b0), .val (.int (1 : Int32)), .val (.int p2), .val (.int ((w_g ((1 : Int32)).toNatClampNeg) &&& (255 : Int32))), .val (.int (4 : Int32)), .val (.int (128 : Int32)), .val (.int (191 : Int32)), .unset, .unset] []))
                refine own_st (fun _ k => XS.iload X0.here hx rfl (hb hby sb_d136) rfl (XS.istore X0.here hx rfl (hb hby sb_d138) rfl (l' := #[.val (.ref b0), .val (.int (1 : Int32)), .val (.int p2), .val (.int ((w_g ((1 : Int32)).toNatClampNeg) &&& (255 : Int32))), .val (.int (4 : Int32)), .val (.int (128 : Int32)), .val (.int (191 : Int32)), .unset, .unset]) rfl (XS.goto X0.here hx rfl (pc0 := 140) (pc' := 145) rfl (hb hby sb_d140) (by decide) (by decide) k))) ?_
                show own_Dn p e below s _ _ _ (T0.setTop (mkF m 145 #[.val (.ref b0), .val (.int (1 : Int32)), .val (.int p2), .val (.int ((w_g ((1 : Int32)).toNatClampNeg) &&& (255 : Int32))), .val (.int (4 : Int32)), .val (.int (128 : Int32)), .val (.int (191 : Int32)), .unset, .unset] []))
                exact sb_c145k4 C0 X0 e0 N0 (((w_g ((1 : Int32)).toNatClampNeg) &&& (255 : Int32))) ((128 : Int32)) ((191 : Int32)) Z0 P0 (by rw [hr0, sb_f, if_neg hc27, if_neg hc28, if_neg hc29, if_neg hc30, if_pos hc34, if_neg hc35, if_neg hc37])
          · refine own_st (fun _ k => XS.icmpYes X0.here hx rfl (pc0 := 100) (pc' := 143) rfl (hb hby sb_d100) rfl (flt hc34).2.1 (by decide) (by decide) k) ?_
            show own_Dn p e below s _ _ _ (T0.setTop (mkF m 143 #[.val (.ref b0), .val (.int (1 : Int32)), .val (.int p2), .val (.int ((w_g ((1 : Int32)).toNatClampNeg) &&& (255 : Int32))), .unset, .val (.int (128 : Int32)), .val (.int (191 : Int32)), .unset, .unset] []))
            refine own_st (fun _ k => XS.iconst X0.here hx rfl (hb hby sb_d143) k) ?_
            show own_Dn p e below s _ _ _ (T0.setTop (mkF m 144 #[.val (.ref b0), .val (.int (1 : Int32)), .val (.int p2), .val (.int ((w_g ((1 : Int32)).toNatClampNeg) &&& (255 : Int32))), .unset, .val (.int (128 : Int32)), .val (.int (191 : Int32)), .unset, .unset] [(.int (-1 : Int32))]))
            exact own_retI X0 hx hret hlk (hb hby sb_d144) (by decide) (by decide) ⟨(by rw [hr0, sb_f, if_neg hc27, if_neg hc28, if_neg hc29, if_neg hc30, if_neg hc34]), N0, e0⟩
theorem sb_ef (m : MethodId) (b0 : Addr) (p2 : Int32) : entryFrame m #[(.ref b0), (.int (1 : Int32)), (.int p2)] 9 = mkF m 0 #[.val (.ref b0), .val (.int (1 : Int32)), .val (.int p2), .unset, .unset, .unset, .unset, .unset, .unset] [] := by first | (simp [entryFrame, mkF, argsToLocals, Value.category]; done) | rfl
theorem sb_rm (l : Launch) (Z : State) (a0 : Array Value) (hw : ∀ d ∈ tables_1, d.before a0 Z = true) (ws : List Jvm.Cond) (b0 : Addr) (p2 : Int32) (w_g : Nat → Int32) (h0 : Heap) (n0 : Nat) (Z0 : n0 ≤ h0.size) (P0 : own_Arf Z h0 b0 .byte 6 (fun i => (.int (w_g i)))) :
    MetFree l (⟨"com/example/xylograph/xylograph/io/Utf8", "sequenceLength", "([BII)I"⟩ : MethodName) (head1 (Jvm.Cond.code (⟨"com/example/xylograph/xylograph/io/Utf8", "sequenceLength", "([BII)I"⟩ : MethodName) prog_31_method_2_code 9 (some .int) :: ws) ({ frames := 0, cells := 0, slots := 0, locals := 0 } : Room)) (fun a U => a = #[(.ref b0), (.int (1 : Int32)), (.int p2)] ∧ Z.Warmed39 U.vm ∧ U.heap = h0) (fun _ _ _ _ _ => True) (fun _ U o U' => ∃ v L, o = .returned v ∧ (own_Q (some (.int (sb_f p2 w_g))) n0 h0) v U'.heap L ∧ FrameEnd U o U' L ({ frames := 0, cells := 0, slots := 0, locals := 0 } : Room).cells ({ frames := 0, cells := 0, slots := 0, locals := 0 } : Room).slots) :=
  own_met hw (plainFor_of_name (by first | (simp [plainName, overriddenIn]; done) | decide +kernel)) (fun p e s m below meth c T0 C0 X0 e0 => own_st (fun _ k => castTop (sb_ef m b0 p2) k) (sb_c0 C0 X0 e0 (Fr.nil n0) Z0 P0 rfl))
theorem lw_d0 : decode code 0 = .ok (.iload 4, 2) := by decide +kernel
theorem lw_d2 : decode code 2 = .ok (.iconst 1, 1) := by decide +kernel
theorem lw_d3 : decode code 3 = .ok (.iand, 1) := by decide +kernel
theorem lw_d4 : decode code 4 = .ok (.istore 6, 2) := by decide +kernel
theorem lw_d6 : decode code 6 = .ok (.iload 4, 2) := by decide +kernel
theorem lw_d8 : decode code 8 = .ok (.iconst 1, 1) := by decide +kernel
theorem lw_d9 : decode code 9 = .ok (.iushr, 1) := by decide +kernel
theorem lw_d10 : decode code 10 = .ok (.i2b, 1) := by decide +kernel
theorem lw_d11 : decode code 11 = .ok (.istore 7, 2) := by decide +kernel
theorem lw_d13 : decode code 13 = .ok (.bipush 6, 2) := by decide +kernel
theorem lw_d15 : decode code 15 = .ok (.newarray .byte, 2) := by decide +kernel
theorem lw_d17 : decode code 17 = .ok (.astore 8, 2) := by decide +kernel
theorem lw_d19 : decode code 19 = .ok (.aload 8, 2) := by decide +kernel
theorem lw_d21 : decode code 21 = .ok (.iconst 0, 1) := by decide +kernel
theorem lw_d22 : decode code 22 = .ok (.iload 7, 2) := by decide +kernel
theorem lw_d24 : decode code 24 = .ok (.bastore, 1) := by decide +kernel
theorem lw_d25 : decode code 25 = .ok (.aload 8, 2) := by decide +kernel
theorem lw_d27 : decode code 27 = .ok (.iconst 1, 1) := by decide +kernel
theorem lw_d28 : decode code 28 = .ok (.iload 7, 2) := by decide +kernel
theorem lw_d30 : decode code 30 = .ok (.bastore, 1) := by decide +kernel
theorem lw_d31 : decode code 31 = .ok (.aload 8, 2) := by decide +kernel
theorem lw_d33 : decode code 33 = .ok (.iconst 2, 1) := by decide +kernel
theorem lw_d34 : decode code 34 = .ok (.iload 7, 2) := by decide +kernel
theorem lw_d36 : decode code 36 = .ok (.bastore, 1) := by decide +kernel
theorem lw_d37 : decode code 37 = .ok (.aload 8, 2) := by decide +kernel
theorem lw_d39 : decode code 39 = .ok (.iconst 3, 1) := by decide +kernel
theorem lw_d40 : decode code 40 = .ok (.iload 7, 2) := by decide +kernel
theorem lw_d42 : decode code 42 = .ok (.bastore, 1) := by decide +kernel
theorem lw_d43 : decode code 43 = .ok (.aload 8, 2) := by decide +kernel
theorem lw_d45 : decode code 45 = .ok (.iconst 4, 1) := by decide +kernel
theorem lw_d46 : decode code 46 = .ok (.iload 7, 2) := by decide +kernel
theorem lw_d48 : decode code 48 = .ok (.bastore, 1) := by decide +kernel
theorem lw_d49 : decode code 49 = .ok (.aload 8, 2) := by decide +kernel
theorem lw_d51 : decode code 51 = .ok (.iconst 5, 1) := by decide +kernel
theorem lw_d52 : decode code 52 = .ok (.iload 7, 2) := by decide +kernel
theorem lw_d54 : decode code 54 = .ok (.bastore, 1) := by decide +kernel
theorem lw_d55 : decode code 55 = .ok (.aload 8, 2) := by decide +kernel
theorem lw_d57 : decode code 57 = .ok (.iload 6, 2) := by decide +kernel
theorem lw_d59 : decode code 59 = .ok (.iload_n 0, 1) := by decide +kernel
theorem lw_d60 : decode code 60 = .ok (.i2b, 1) := by decide +kernel
theorem lw_d61 : decode code 61 = .ok (.bastore, 1) := by decide +kernel
theorem lw_d62 : decode code 62 = .ok (.aload 8, 2) := by decide +kernel
theorem lw_d64 : decode code 64 = .ok (.iload 6, 2) := by decide +kernel
theorem lw_d66 : decode code 66 = .ok (.iconst 1, 1) := by decide +kernel
theorem lw_d67 : decode code 67 = .ok (.iadd, 1) := by decide +kernel
theorem lw_d68 : decode code 68 = .ok (.iload_n 1, 1) := by decide +kernel
theorem lw_d69 : decode code 69 = .ok (.i2b, 1) := by decide +kernel
theorem lw_d70 : decode code 70 = .ok (.bastore, 1) := by decide +kernel
theorem lw_d71 : decode code 71 = .ok (.aload 8, 2) := by decide +kernel
theorem lw_d73 : decode code 73 = .ok (.iload 6, 2) := by decide +kernel
theorem lw_d75 : decode code 75 = .ok (.iconst 2, 1) := by decide +kernel
theorem lw_d76 : decode code 76 = .ok (.iadd, 1) := by decide +kernel
theorem lw_d77 : decode code 77 = .ok (.iload_n 2, 1) := by decide +kernel
theorem lw_d78 : decode code 78 = .ok (.i2b, 1) := by decide +kernel
theorem lw_d79 : decode code 79 = .ok (.bastore, 1) := by decide +kernel
theorem lw_d80 : decode code 80 = .ok (.aload 8, 2) := by decide +kernel
theorem lw_d82 : decode code 82 = .ok (.iload 6, 2) := by decide +kernel
theorem lw_d84 : decode code 84 = .ok (.iconst 3, 1) := by decide +kernel
theorem lw_d85 : decode code 85 = .ok (.iadd, 1) := by decide +kernel
theorem lw_d86 : decode code 86 = .ok (.iload_n 3, 1) := by decide +kernel
theorem lw_d87 : decode code 87 = .ok (.i2b, 1) := by decide +kernel
theorem lw_d88 : decode code 88 = .ok (.bastore, 1) := by decide +kernel
theorem lw_d89 : decode code 89 = .ok (.iconst 1, 1) := by decide +kernel
theorem lw_d90 : decode code 90 = .ok (.iload 5, 2) := by decide +kernel
theorem lw_d92 : decode code 92 = .ok (.ldc 7, 2) := by decide +kernel
theorem lw_d94 : decode code 94 = .ok (.iand, 1) := by decide +kernel
theorem lw_d95 : decode code 95 = .ok (.bipush 6, 2) := by decide +kernel
theorem lw_d97 : decode code 97 = .ok (.iload 6, 2) := by decide +kernel
theorem lw_d99 : decode code 99 = .ok (.isub, 1) := by decide +kernel
theorem lw_d100 : decode code 100 = .ok (.irem, 1) := by decide +kernel
theorem lw_d101 : decode code 101 = .ok (.iadd, 1) := by decide +kernel
theorem lw_d102 : decode code 102 = .ok (.istore 9, 2) := by decide +kernel
theorem lw_d104 : decode code 104 = .ok (.iload 6, 2) := by decide +kernel
theorem lw_d106 : decode code 106 = .ok (.iload 9, 2) := by decide +kernel
theorem lw_d108 : decode code 108 = .ok (.iadd, 1) := by decide +kernel
theorem lw_d109 : decode code 109 = .ok (.istore 10, 2) := by decide +kernel
theorem lw_d111 : decode code 111 = .ok (.aload 8, 2) := by decide +kernel
theorem lw_d113 : decode code 113 = .ok (.iload 6, 2) := by decide +kernel
theorem lw_d115 : decode code 115 = .ok (.iload 10, 2) := by decide +kernel
theorem lw_d117 : decode code 117 = .ok (.invokestatic 8, 3) := by decide +kernel
theorem lw_d120 : decode code 120 = .ok (.istore 11, 2) := by decide +kernel
theorem lw_d122 : decode code 122 = .ok (.iload 11, 2) := by decide +kernel
theorem lw_d124 : decode code 124 = .ok (.iload_n 0, 1) := by decide +kernel
theorem lw_d125 : decode code 125 = .ok (.sipush 255, 3) := by decide +kernel
theorem lw_d128 : decode code 128 = .ok (.iand, 1) := by decide +kernel
theorem lw_d129 : decode code 129 = .ok (.iload_n 1, 1) := by decide +kernel
theorem lw_d130 : decode code 130 = .ok (.sipush 255, 3) := by decide +kernel
theorem lw_d133 : decode code 133 = .ok (.iand, 1) := by decide +kernel
theorem lw_d134 : decode code 134 = .ok (.iload_n 2, 1) := by decide +kernel
theorem lw_d135 : decode code 135 = .ok (.sipush 255, 3) := by decide +kernel
theorem lw_d138 : decode code 138 = .ok (.iand, 1) := by decide +kernel
theorem lw_d139 : decode code 139 = .ok (.iload_n 3, 1) := by decide +kernel
theorem lw_d140 : decode code 140 = .ok (.sipush 255, 3) := by decide +kernel
theorem lw_d143 : decode code 143 = .ok (.iand, 1) := by decide +kernel
theorem lw_d144 : decode code 144 = .ok (.iload 9, 2) := by decide +kernel
theorem lw_d146 : decode code 146 = .ok (.invokestatic 14, 3) := by decide +kernel
theorem lw_d149 : decode code 149 = .ok (.if_icmp .ne 7, 3) := by decide +kernel
theorem lw_d152 : decode code 152 = .ok (.iconst 1, 1) := by decide +kernel
theorem lw_d153 : decode code 153 = .ok (.goto 4, 3) := by decide +kernel
theorem lw_d156 : decode code 156 = .ok (.iconst 0, 1) := by decide +kernel
theorem lw_d157 : decode code 157 = .ok (.ireturn, 1) := by decide +kernel
def lw_f (p0 : Int32) (p1 : Int32) (p2 : Int32) (p3 : Int32) (p4 : Int32) (p5 : Int32)  : Int32 :=
  if (p4 &&& (1 : Int32)) = (0 : Int32) then
    if (sa_f ((0 : Int32) + ((1 : Int32) + ((p5 &&& (2147483647 : Int32)) % (6 : Int32)))) (own_upd (own_upd (own_upd (own_upd (own_upd (own_upd (own_upd (own_upd (own_upd (own_upd (fun _ => (0 : Int32)) ((0 : Int32)).toNatClampNeg (((p4.toUInt32 >>> ((1 : Int32) &&& 31).toUInt32).toInt32).toInt8.toInt32).toInt8.toInt32) ((1 : Int32)).toNatClampNeg (((p4.toUInt32 >>> ((1 : Int32) &&& 31).toUInt32).toInt32).toInt8.toInt32).toInt8.toInt32) ((2 : Int32)).toNatClampNeg (((p4.toUInt32 >>> ((1 : Int32) &&& 31).toUInt32).toInt32).toInt8.toInt32).toInt8.toInt32) ((3 : Int32)).toNatClampNeg (((p4.toUInt32 >>> ((1 : Int32) &&& 31).toUInt32).toInt32).toInt8.toInt32).toInt8.toInt32) ((4 : Int32)).toNatClampNeg (((p4.toUInt32 >>> ((1 : Int32) &&& 31).toUInt32).toInt32).toInt8.toInt32).toInt8.toInt32) ((5 : Int32)).toNatClampNeg (((p4.toUInt32 >>> ((1 : Int32) &&& 31).toUInt32).toInt32).toInt8.toInt32).toInt8.toInt32) ((0 : Int32)).toNatClampNeg (p0.toInt8.toInt32).toInt8.toInt32) ((1 : Int32)).toNatClampNeg (p1.toInt8.toInt32).toInt8.toInt32) ((2 : Int32)).toNatClampNeg (p2.toInt8.toInt32).toInt8.toInt32) ((3 : Int32)).toNatClampNeg (p3.toInt8.toInt32).toInt8.toInt32)) = (ex_f (p0 &&& (255 : Int32)) (p1 &&& (255 : Int32)) (p2 &&& (255 : Int32)) (p3 &&& (255 : Int32)) ((1 : Int32) + ((p5 &&& (2147483647 : Int32)) % (6 : Int32)))) then
      (1 : Int32)
    else
      (0 : Int32)
  else
    if (sb_f ((1 : Int32) + ((1 : Int32) + ((p5 &&& (2147483647 : Int32)) % (5 : Int32)))) (own_upd (own_upd (own_upd (own_upd (own_upd (own_upd (own_upd (own_upd (own_upd (own_upd (fun _ => (0 : Int32)) ((0 : Int32)).toNatClampNeg (((p4.toUInt32 >>> ((1 : Int32) &&& 31).toUInt32).toInt32).toInt8.toInt32).toInt8.toInt32) ((1 : Int32)).toNatClampNeg (((p4.toUInt32 >>> ((1 : Int32) &&& 31).toUInt32).toInt32).toInt8.toInt32).toInt8.toInt32) ((2 : Int32)).toNatClampNeg (((p4.toUInt32 >>> ((1 : Int32) &&& 31).toUInt32).toInt32).toInt8.toInt32).toInt8.toInt32) ((3 : Int32)).toNatClampNeg (((p4.toUInt32 >>> ((1 : Int32) &&& 31).toUInt32).toInt32).toInt8.toInt32).toInt8.toInt32) ((4 : Int32)).toNatClampNeg (((p4.toUInt32 >>> ((1 : Int32) &&& 31).toUInt32).toInt32).toInt8.toInt32).toInt8.toInt32) ((5 : Int32)).toNatClampNeg (((p4.toUInt32 >>> ((1 : Int32) &&& 31).toUInt32).toInt32).toInt8.toInt32).toInt8.toInt32) ((1 : Int32)).toNatClampNeg (p0.toInt8.toInt32).toInt8.toInt32) ((2 : Int32)).toNatClampNeg (p1.toInt8.toInt32).toInt8.toInt32) ((3 : Int32)).toNatClampNeg (p2.toInt8.toInt32).toInt8.toInt32) ((4 : Int32)).toNatClampNeg (p3.toInt8.toInt32).toInt8.toInt32)) = (ex_f (p0 &&& (255 : Int32)) (p1 &&& (255 : Int32)) (p2 &&& (255 : Int32)) (p3 &&& (255 : Int32)) ((1 : Int32) + ((p5 &&& (2147483647 : Int32)) % (5 : Int32)))) then
      (1 : Int32)
    else
      (0 : Int32)
set_option maxRecDepth 65536 in
set_option maxHeartbeats 40000000 in
theorem lw_c0 {l : Launch} {Z : State} {a0 : Array Value} {p0 : Int32} {p1 : Int32} {p2 : Int32} {p3 : Int32} {p4 : Int32} {p5 : Int32} {h0 : Heap} {n0 : Nat} {p : Program} {e : Env} {s : State} {m : MethodId} {args : Array Value} {below : List Frame} {meth : Method} {c : Code} {T0 : State} {locs : List Loc} {r0 : Int32} (C0 : own_Cx p s m meth c Z a0 code 12 "com/example/xylograph/xylograph/io/Utf8SequenceLengthPinLaw" "law" (some .boolean)) (X0 : Stand p l e room_1 s m args below meth c T0 locs 0 0) (e0 : T0.heap = h0) (N0 : Fr n0 locs)  (Z0 : n0 ≤ h0.size) (hr0 : r0 = lw_f p0 p1 p2 p3 p4 p5 ) :
    own_Dn p e below s (own_QL (some (.int r0)) n0) room_1.cells room_1.slots (T0.setTop (mkF m 0 #[.val (.int p0), .val (.int p1), .val (.int p2), .val (.int p3), .val (.int p4), .val (.int p5), .unset, .unset, .unset, .unset, .unset, .unset] [])) := by
  obtain ⟨hx, hZ, hw, hby, hml, hown, hret, hlk, hnm⟩ := id C0
  refine own_st (fun _ k => XS.iload X0.here hx rfl (hb hby lw_d0) rfl (XS.iconst X0.here hx rfl (hb hby lw_d2) (XS.iand X0.here hx rfl (hb hby lw_d3) rfl (XS.istore X0.here hx rfl (hb hby lw_d4) rfl (l' := #[.val (.int p0), .val (.int p1), .val (.int p2), .val (.int p3), .val (.int p4), .val (.int p5), .val (.int (p4 &&& (1 : Int32))), .unset, .unset, .unset, .unset, .unset]) rfl k)))) ?_
  show own_Dn p e below s _ _ _ (T0.setTop (mkF m 6 #[.val (.int p0), .val (.int p1), .val (.int p2), .val (.int p3), .val (.int p4), .val (.int p5), .val (.int (p4 &&& (1 : Int32))), .unset, .unset, .unset, .unset, .unset] []))
  rcases and_one p4 with hs56 | hs56
  · rw [hs56]
    show own_Dn p e below s _ _ _ (T0.setTop (mkF m 6 #[.val (.int p0), .val (.int p1), .val (.int p2), .val (.int p3), .val (.int p4), .val (.int p5), .val (.int (0 : Int32)), .unset, .unset, .unset, .unset, .unset] []))
    refine own_st (fun _ k => XS.iload X0.here hx rfl (hb hby lw_d6) rfl (XS.iconst X0.here hx rfl (hb hby lw_d8) (XS.iushr X0.here hx rfl (hb hby lw_d9) rfl (XS.i2b X0.here hx rfl (hb hby lw_d10) rfl (XS.istore X0.here hx rfl (hb hby lw_d11) rfl (l' := #[.val (.int p0), .val (.int p1), .val (.int p2), .val (.int p3), .val (.int p4), .val (.int p5), .val (.int (0 : Int32)), .val (.int (((p4.toUInt32 >>> ((1 : Int32) &&& 31).toUInt32).toInt32).toInt8.toInt32)), .unset, .unset, .unset, .unset]) rfl (XS.bipush X0.here hx rfl (hb hby lw_d13) k)))))) ?_
    show own_Dn p e below s _ _ _ (T0.setTop (mkF m 15 #[.val (.int p0), .val (.int p1), .val (.int p2), .val (.int p3), .val (.int p4), .val (.int p5), .val (.int (0 : Int32)), .val (.int (((p4.toUInt32 >>> ((1 : Int32) &&& 31).toUInt32).toInt32).toInt8.toInt32)), .unset, .unset, .unset, .unset] [(.int (6 : Int32))]))
    obtain ⟨T57, h57, cA57, X57, e57, E57, A57, st57⟩ := newP X0 hx hZ (aty := .byte) (hw _ (List.mem_of_getElem? (i := 0) rfl)) e0 (g := (mkF m 15 #[.val (.int p0), .val (.int p1), .val (.int p2), .val (.int p3), .val (.int p4), .val (.int p5), .val (.int (0 : Int32)), .val (.int (((p4.toUInt32 >>> ((1 : Int32) &&& 31).toUInt32).toInt32).toInt8.toInt32)), .unset, .unset, .unset, .unset] [(.int (6 : Int32))])) rfl (hb hby lw_d15) (n := (6 : Int32)) rfl (by decide) (cap := 6) (by decide) (by decide) (by decide) (by decide)
    obtain ⟨o15, g57⟩ : ∃ z, z = h0.size := ⟨_, rfl⟩
    rw [← g57] at A57 st57
    have ge58 : n0 ≤ o15 := Nat.le_trans Z0 (Nat.le_of_eq g57.symm)
    have F59 : n0 ≤ h57.size := Nat.le_trans Z0 E57.1
    have F60 : own_Arf Z h57 o15 .byte 6 (fun i => (.int ((fun _ => (0 : Int32)) i))) := own_Arf.new A57 (by decide) (by decide)
    refine own_st st57 ?_
    show own_Dn p e below s _ _ _ (T57.setTop (mkF m 17 #[.val (.int p0), .val (.int p1), .val (.int p2), .val (.int p3), .val (.int p4), .val (.int p5), .val (.int (0 : Int32)), .val (.int (((p4.toUInt32 >>> ((1 : Int32) &&& 31).toUInt32).toInt32).toInt8.toInt32)), .unset, .unset, .unset, .unset] [(.ref o15)]))
    refine own_st (fun _ k => XS.astore X57.here hx rfl (hb hby lw_d17) rfl rfl (l' := #[.val (.int p0), .val (.int p1), .val (.int p2), .val (.int p3), .val (.int p4), .val (.int p5), .val (.int (0 : Int32)), .val (.int (((p4.toUInt32 >>> ((1 : Int32) &&& 31).toUInt32).toInt32).toInt8.toInt32)), .val (.ref o15), .unset, .unset, .unset]) rfl (XS.aload X57.here hx rfl (hb hby lw_d19) rfl rfl (XS.iconst X57.here hx rfl (hb hby lw_d21) (XS.iload X57.here hx rfl (hb hby lw_d22) rfl k)))) ?_
    show own_Dn p e below s _ _ _ (T57.setTop (mkF m 24 #[.val (.int p0), .val (.int p1), .val (.int p2), .val (.int p3), .val (.int p4), .val (.int p5), .val (.int (0 : Int32)), .val (.int (((p4.toUInt32 >>> ((1 : Int32) &&& 31).toUInt32).toInt32).toInt8.toInt32)), .val (.ref o15), .unset, .unset, .unset] [(.int (((p4.toUInt32 >>> ((1 : Int32) &&& 31).toUInt32).toInt32).toInt8.toInt32)), (.int (0 : Int32)), (.ref o15)]))
    obtain ⟨T61, h61, X61, e61, W61, F61a, st61⟩ := own_stB (pc := 24) (L := #[.val (.int p0), .val (.int p1), .val (.int p2), .val (.int p3), .val (.int p4), .val (.int p5), .val (.int (0 : Int32)), .val (.int (((p4.toUInt32 >>> ((1 : Int32) &&& 31).toUInt32).toInt32).toInt8.toInt32)), .val (.ref o15), .unset, .unset, .unset]) (rest := []) X57 hx hZ e57 F60 (j := (0 : Int32)) (x := (((p4.toUInt32 >>> ((1 : Int32) &&& 31).toUInt32).toInt32).toInt8.toInt32)) (by decide) (by decide) (hb hby lw_d24)
    have N61 := Fr.snoc X61 N0 ge58
    have F62 : n0 ≤ h61.size := Nat.le_trans F59 (Keep.of_wr W61).1
    refine own_st st61 ?_
    show own_Dn p e below s _ _ _ (T61.setTop (mkF m 25 #[.val (.int p0), .val (.int p1), .val (.int p2), .val (.int p3), .val (.int p4), .val (.int p5), .val (.int (0 : Int32)), .val (.int (((p4.toUInt32 >>> ((1 : Int32) &&& 31).toUInt32).toInt32).toInt8.toInt32)), .val (.ref o15), .unset, .unset, .unset] []))
    refine own_st (fun _ k => XS.aload X61.here hx rfl (hb hby lw_d25) rfl rfl (XS.iconst X61.here hx rfl (hb hby lw_d27) (XS.iload X61.here hx rfl (hb hby lw_d28) rfl k))) ?_
    show own_Dn p e below s _ _ _ (T61.setTop (mkF m 30 #[.val (.int p0), .val (.int p1), .val (.int p2), .val (.int p3), .val (.int p4), .val (.int p5), .val (.int (0 : Int32)), .val (.int (((p4.toUInt32 >>> ((1 : Int32) &&& 31).toUInt32).toInt32).toInt8.toInt32)), .val (.ref o15), .unset, .unset, .unset] [(.int (((p4.toUInt32 >>> ((1 : Int32) &&& 31).toUInt32).toInt32).toInt8.toInt32)), (.int (1 : Int32)), (.ref o15)]))
    obtain ⟨T63, h63, X63, e63, W63, F63a, st63⟩ := own_stB (pc := 30) (L := #[.val (.int p0), .val (.int p1), .val (.int p2), .val (.int p3), .val (.int p4), .val (.int p5), .val (.int (0 : Int32)), .val (.int (((p4.toUInt32 >>> ((1 : Int32) &&& 31).toUInt32).toInt32).toInt8.toInt32)), .val (.ref o15), .unset, .unset, .unset]) (rest := []) X61 hx hZ e61 F61a (j := (1 : Int32)) (x := (((p4.toUInt32 >>> ((1 : Int32) &&& 31).toUInt32).toInt32).toInt8.toInt32)) (by decide) (by decide) (hb hby lw_d30)
    have N63 := Fr.snoc X63 N61 ge58
    have F64 : n0 ≤ h63.size := Nat.le_trans F62 (Keep.of_wr W63).1
    refine own_st st63 ?_
    show own_Dn p e below s _ _ _ (T63.setTop (mkF m 31 #[.val (.int p0), .val (.int p1), .val (.int p2), .val (.int p3), .val (.int p4), .val (.int p5), .val (.int (0 : Int32)), .val (.int (((p4.toUInt32 >>> ((1 : Int32) &&& 31).toUInt32).toInt32).toInt8.toInt32)), .val (.ref o15), .unset, .unset, .unset] []))
    refine own_st (fun _ k => XS.aload X63.here hx rfl (hb hby lw_d31) rfl rfl (XS.iconst X63.here hx rfl (hb hby lw_d33) (XS.iload X63.here hx rfl (hb hby lw_d34) rfl k))) ?_
    show own_Dn p e below s _ _ _ (T63.setTop (mkF m 36 #[.val (.int p0), .val (.int p1), .val (.int p2), .val (.int p3), .val (.int p4), .val (.int p5), .val (.int (0 : Int32)), .val (.int (((p4.toUInt32 >>> ((1 : Int32) &&& 31).toUInt32).toInt32).toInt8.toInt32)), .val (.ref o15), .unset, .unset, .unset] [(.int (((p4.toUInt32 >>> ((1 : Int32) &&& 31).toUInt32).toInt32).toInt8.toInt32)), (.int (2 : Int32)), (.ref o15)]))
    obtain ⟨T65, h65, X65, e65, W65, F65a, st65⟩ := own_stB (pc := 36) (L := #[.val (.int p0), .val (.int p1), .val (.int p2), .val (.int p3), .val (.int p4), .val (.int p5), .val (.int (0 : Int32)), .val (.int (((p4.toUInt32 >>> ((1 : Int32) &&& 31).toUInt32).toInt32).toInt8.toInt32)), .val (.ref o15), .unset, .unset, .unset]) (rest := []) X63 hx hZ e63 F63a (j := (2 : Int32)) (x := (((p4.toUInt32 >>> ((1 : Int32) &&& 31).toUInt32).toInt32).toInt8.toInt32)) (by decide) (by decide) (hb hby lw_d36)
    have N65 := Fr.snoc X65 N63 ge58
    have F66 : n0 ≤ h65.size := Nat.le_trans F64 (Keep.of_wr W65).1
    refine own_st st65 ?_
    show own_Dn p e below s _ _ _ (T65.setTop (mkF m 37 #[.val (.int p0), .val (.int p1), .val (.int p2), .val (.int p3), .val (.int p4), .val (.int p5), .val (.int (0 : Int32)), .val (.int (((p4.toUInt32 >>> ((1 : Int32) &&& 31).toUInt32).toInt32).toInt8.toInt32)), .val (.ref o15), .unset, .unset, .unset] []))
    refine own_st (fun _ k => XS.aload X65.here hx rfl (hb hby lw_d37) rfl rfl (XS.iconst X65.here hx rfl (hb hby lw_d39) (XS.iload X65.here hx rfl (hb hby lw_d40) rfl k))) ?_
    show own_Dn p e below s _ _ _ (T65.setTop (mkF m 42 #[.val (.int p0), .val (.int p1), .val (.int p2), .val (.int p3), .val (.int p4), .val (.int p5), .val (.int (0 : Int32)), .val (.int (((p4.toUInt32 >>> ((1 : Int32) &&& 31).toUInt32).toInt32).toInt8.toInt32)), .val (.ref o15), .unset, .unset, .unset] [(.int (((p4.toUInt32 >>> ((1 : Int32) &&& 31).toUInt32).toInt32).toInt8.toInt32)), (.int (3 : Int32)), (.ref o15)]))
    obtain ⟨T67, h67, X67, e67, W67, F67a, st67⟩ := own_stB (pc := 42) (L := #[.val (.int p0), .val (.int p1), .val (.int p2), .val (.int p3), .val (.int p4), .val (.int p5), .val (.int (0 : Int32)), .val (.int (((p4.toUInt32 >>> ((1 : Int32) &&& 31).toUInt32).toInt32).toInt8.toInt32)), .val (.ref o15), .unset, .unset, .unset]) (rest := []) X65 hx hZ e65 F65a (j := (3 : Int32)) (x := (((p4.toUInt32 >>> ((1 : Int32) &&& 31).toUInt32).toInt32).toInt8.toInt32)) (by decide) (by decide) (hb hby lw_d42)
    have N67 := Fr.snoc X67 N65 ge58
    have F68 : n0 ≤ h67.size := Nat.le_trans F66 (Keep.of_wr W67).1
    refine own_st st67 ?_
    show own_Dn p e below s _ _ _ (T67.setTop (mkF m 43 #[.val (.int p0), .val (.int p1), .val (.int p2), .val (.int p3), .val (.int p4), .val (.int p5), .val (.int (0 : Int32)), .val (.int (((p4.toUInt32 >>> ((1 : Int32) &&& 31).toUInt32).toInt32).toInt8.toInt32)), .val (.ref o15), .unset, .unset, .unset] []))
    refine own_st (fun _ k => XS.aload X67.here hx rfl (hb hby lw_d43) rfl rfl (XS.iconst X67.here hx rfl (hb hby lw_d45) (XS.iload X67.here hx rfl (hb hby lw_d46) rfl k))) ?_
    show own_Dn p e below s _ _ _ (T67.setTop (mkF m 48 #[.val (.int p0), .val (.int p1), .val (.int p2), .val (.int p3), .val (.int p4), .val (.int p5), .val (.int (0 : Int32)), .val (.int (((p4.toUInt32 >>> ((1 : Int32) &&& 31).toUInt32).toInt32).toInt8.toInt32)), .val (.ref o15), .unset, .unset, .unset] [(.int (((p4.toUInt32 >>> ((1 : Int32) &&& 31).toUInt32).toInt32).toInt8.toInt32)), (.int (4 : Int32)), (.ref o15)]))
    obtain ⟨T69, h69, X69, e69, W69, F69a, st69⟩ := own_stB (pc := 48) (L := #[.val (.int p0), .val (.int p1), .val (.int p2), .val (.int p3), .val (.int p4), .val (.int p5), .val (.int (0 : Int32)), .val (.int (((p4.toUInt32 >>> ((1 : Int32) &&& 31).toUInt32).toInt32).toInt8.toInt32)), .val (.ref o15), .unset, .unset, .unset]) (rest := []) X67 hx hZ e67 F67a (j := (4 : Int32)) (x := (((p4.toUInt32 >>> ((1 : Int32) &&& 31).toUInt32).toInt32).toInt8.toInt32)) (by decide) (by decide) (hb hby lw_d48)
    have N69 := Fr.snoc X69 N67 ge58
    have F70 : n0 ≤ h69.size := Nat.le_trans F68 (Keep.of_wr W69).1
    refine own_st st69 ?_
    show own_Dn p e below s _ _ _ (T69.setTop (mkF m 49 #[.val (.int p0), .val (.int p1), .val (.int p2), .val (.int p3), .val (.int p4), .val (.int p5), .val (.int (0 : Int32)), .val (.int (((p4.toUInt32 >>> ((1 : Int32) &&& 31).toUInt32).toInt32).toInt8.toInt32)), .val (.ref o15), .unset, .unset, .unset] []))
    refine own_st (fun _ k => XS.aload X69.here hx rfl (hb hby lw_d49) rfl rfl (XS.iconst X69.here hx rfl (hb hby lw_d51) (XS.iload X69.here hx rfl (hb hby lw_d52) rfl k))) ?_
    show own_Dn p e below s _ _ _ (T69.setTop (mkF m 54 #[.val (.int p0), .val (.int p1), .val (.int p2), .val (.int p3), .val (.int p4), .val (.int p5), .val (.int (0 : Int32)), .val (.int (((p4.toUInt32 >>> ((1 : Int32) &&& 31).toUInt32).toInt32).toInt8.toInt32)), .val (.ref o15), .unset, .unset, .unset] [(.int (((p4.toUInt32 >>> ((1 : Int32) &&& 31).toUInt32).toInt32).toInt8.toInt32)), (.int (5 : Int32)), (.ref o15)]))
    obtain ⟨T71, h71, X71, e71, W71, F71a, st71⟩ := own_stB (pc := 54) (L := #[.val (.int p0), .val (.int p1), .val (.int p2), .val (.int p3), .val (.int p4), .val (.int p5), .val (.int (0 : Int32)), .val (.int (((p4.toUInt32 >>> ((1 : Int32) &&& 31).toUInt32).toInt32).toInt8.toInt32)), .val (.ref o15), .unset, .unset, .unset]) (rest := []) X69 hx hZ e69 F69a (j := (5 : Int32)) (x := (((p4.toUInt32 >>> ((1 : Int32) &&& 31).toUInt32).toInt32).toInt8.toInt32)) (by decide) (by decide) (hb hby lw_d54)
    have N71 := Fr.snoc X71 N69 ge58
    have F72 : n0 ≤ h71.size := Nat.le_trans F70 (Keep.of_wr W71).1
    refine own_st st71 ?_
    show own_Dn p e below s _ _ _ (T71.setTop (mkF m 55 #[.val (.int p0), .val (.int p1), .val (.int p2), .val (.int p3), .val (.int p4), .val (.int p5), .val (.int (0 : Int32)), .val (.int (((p4.toUInt32 >>> ((1 : Int32) &&& 31).toUInt32).toInt32).toInt8.toInt32)), .val (.ref o15), .unset, .unset, .unset] []))
    refine own_st (fun _ k => XS.aload X71.here hx rfl (hb hby lw_d55) rfl rfl (XS.iload X71.here hx rfl (hb hby lw_d57) rfl (XS.iloadN X71.here hx rfl (hb hby lw_d59) rfl (XS.i2b X71.here hx rfl (hb hby lw_d60) rfl k)))) ?_
    show own_Dn p e below s _ _ _ (T71.setTop (mkF m 61 #[.val (.int p0), .val (.int p1), .val (.int p2), .val (.int p3), .val (.int p4), .val (.int p5), .val (.int (0 : Int32)), .val (.int (((p4.toUInt32 >>> ((1 : Int32) &&& 31).toUInt32).toInt32).toInt8.toInt32)), .val (.ref o15), .unset, .unset, .unset] [(.int (p0.toInt8.toInt32)), (.int (0 : Int32)), (.ref o15)]))
    obtain ⟨T73, h73, X73, e73, W73, F73a, st73⟩ := own_stB (pc := 61) (L := #[.val (.int p0), .val (.int p1), .val (.int p2), .val (.int p3), .val (.int p4), .val (.int p5), .val (.int (0 : Int32)), .val (.int (((p4.toUInt32 >>> ((1 : Int32) &&& 31).toUInt32).toInt32).toInt8.toInt32)), .val (.ref o15), .unset, .unset, .unset]) (rest := []) X71 hx hZ e71 F71a (j := (0 : Int32)) (x := (p0.toInt8.toInt32)) (by decide) (by decide) (hb hby lw_d61)
    have N73 := Fr.snoc X73 N71 ge58
    have F74 : n0 ≤ h73.size := Nat.le_trans F72 (Keep.of_wr W73).1
    refine own_st st73 ?_
    show own_Dn p e below s _ _ _ (T73.setTop (mkF m 62 #[.val (.int p0), .val (.int p1), .val (.int p2), .val (.int p3), .val (.int p4), .val (.int p5), .val (.int (0 : Int32)), .val (.int (((p4.toUInt32 >>> ((1 : Int32) &&& 31).toUInt32).toInt32).toInt8.toInt32)), .val (.ref o15), .unset, .unset, .unset] []))
    refine own_st (fun _ k => XS.aload X73.here hx rfl (hb hby lw_d62) rfl rfl (XS.iload X73.here hx rfl (hb hby lw_d64) rfl (XS.iconst X73.here hx rfl (hb hby lw_d66) (XS.iadd X73.here hx rfl (hb hby lw_d67) rfl (XS.iloadN X73.here hx rfl (hb hby lw_d68) rfl (XS.i2b X73.here hx rfl (hb hby lw_d69) rfl k)))))) ?_
    show own_Dn p e below s _ _ _ (T73.setTop (mkF m 70 #[.val (.int p0), .val (.int p1), .val (.int p2), .val (.int p3), .val (.int p4), .val (.int p5), .val (.int (0 : Int32)), .val (.int (((p4.toUInt32 >>> ((1 : Int32) &&& 31).toUInt32).toInt32).toInt8.toInt32)), .val (.ref o15), .unset, .unset, .unset] [(.int (p1.toInt8.toInt32)), (.int (1 : Int32)), (.ref o15)]))
    obtain ⟨T75, h75, X75, e75, W75, F75a, st75⟩ := own_stB (pc := 70) (L := #[.val (.int p0), .val (.int p1), .val (.int p2), .val (.int p3), .val (.int p4), .val (.int p5), .val (.int (0 : Int32)), .val (.int (((p4.toUInt32 >>> ((1 : Int32) &&& 31).toUInt32).toInt32).toInt8.toInt32)), .val (.ref o15), .unset, .unset, .unset]) (rest := []) X73 hx hZ e73 F73a (j := (1 : Int32)) (x := (p1.toInt8.toInt32)) (by decide) (by decide) (hb hby lw_d70)
    have N75 := Fr.snoc X75 N73 ge58
    have F76 : n0 ≤ h75.size := Nat.le_trans F74 (Keep.of_wr W75).1
    refine own_st st75 ?_
    show own_Dn p e below s _ _ _ (T75.setTop (mkF m 71 #[.val (.int p0), .val (.int p1), .val (.int p2), .val (.int p3), .val (.int p4), .val (.int p5), .val (.int (0 : Int32)), .val (.int (((p4.toUInt32 >>> ((1 : Int32) &&& 31).toUInt32).toInt32).toInt8.toInt32)), .val (.ref o15), .unset, .unset, .unset] []))
    refine own_st (fun _ k => XS.aload X75.here hx rfl (hb hby lw_d71) rfl rfl (XS.iload X75.here hx rfl (hb hby lw_d73) rfl (XS.iconst X75.here hx rfl (hb hby lw_d75) (XS.iadd X75.here hx rfl (hb hby lw_d76) rfl (XS.iloadN X75.here hx rfl (hb hby lw_d77) rfl (XS.i2b X75.here hx rfl (hb hby lw_d78) rfl k)))))) ?_
    show own_Dn p e below s _ _ _ (T75.setTop (mkF m 79 #[.val (.int p0), .val (.int p1), .val (.int p2), .val (.int p3), .val (.int p4), .val (.int p5), .val (.int (0 : Int32)), .val (.int (((p4.toUInt32 >>> ((1 : Int32) &&& 31).toUInt32).toInt32).toInt8.toInt32)), .val (.ref o15), .unset, .unset, .unset] [(.int (p2.toInt8.toInt32)), (.int (2 : Int32)), (.ref o15)]))
    obtain ⟨T77, h77, X77, e77, W77, F77a, st77⟩ := own_stB (pc := 79) (L := #[.val (.int p0), .val (.int p1), .val (.int p2), .val (.int p3), .val (.int p4), .val (.int p5), .val (.int (0 : Int32)), .val (.int (((p4.toUInt32 >>> ((1 : Int32) &&& 31).toUInt32).toInt32).toInt8.toInt32)), .val (.ref o15), .unset, .unset, .unset]) (rest := []) X75 hx hZ e75 F75a (j := (2 : Int32)) (x := (p2.toInt8.toInt32)) (by decide) (by decide) (hb hby lw_d79)
    have N77 := Fr.snoc X77 N75 ge58
    have F78 : n0 ≤ h77.size := Nat.le_trans F76 (Keep.of_wr W77).1
    refine own_st st77 ?_
    show own_Dn p e below s _ _ _ (T77.setTop (mkF m 80 #[.val (.int p0), .val (.int p1), .val (.int p2), .val (.int p3), .val (.int p4), .val (.int p5), .val (.int (0 : Int32)), .val (.int (((p4.toUInt32 >>> ((1 : Int32) &&& 31).toUInt32).toInt32).toInt8.toInt32)), .val (.ref o15), .unset, .unset, .unset] []))
    refine own_st (fun _ k => XS.aload X77.here hx rfl (hb hby lw_d80) rfl rfl (XS.iload X77.here hx rfl (hb hby lw_d82) rfl (XS.iconst X77.here hx rfl (hb hby lw_d84) (XS.iadd X77.here hx rfl (hb hby lw_d85) rfl (XS.iloadN X77.here hx rfl (hb hby lw_d86) rfl (XS.i2b X77.here hx rfl (hb hby lw_d87) rfl k)))))) ?_
    show own_Dn p e below s _ _ _ (T77.setTop (mkF m 88 #[.val (.int p0), .val (.int p1), .val (.int p2), .val (.int p3), .val (.int p4), .val (.int p5), .val (.int (0 : Int32)), .val (.int (((p4.toUInt32 >>> ((1 : Int32) &&& 31).toUInt32).toInt32).toInt8.toInt32)), .val (.ref o15), .unset, .unset, .unset] [(.int (p3.toInt8.toInt32)), (.int (3 : Int32)), (.ref o15)]))
    obtain ⟨T79, h79, X79, e79, W79, F79a, st79⟩ := own_stB (pc := 88) (L := #[.val (.int p0), .val (.int p1), .val (.int p2), .val (.int p3), .val (.int p4), .val (.int p5), .val (.int (0 : Int32)), .val (.int (((p4.toUInt32 >>> ((1 : Int32) &&& 31).toUInt32).toInt32).toInt8.toInt32)), .val (.ref o15), .unset, .unset, .unset]) (rest := []) X77 hx hZ e77 F77a (j := (3 : Int32)) (x := (p3.toInt8.toInt32)) (by decide) (by decide) (hb hby lw_d88)
    have N79 := Fr.snoc X79 N77 ge58
    have F80 : n0 ≤ h79.size := Nat.le_trans F78 (Keep.of_wr W79).1
    refine own_st st79 ?_
    show own_Dn p e below s _ _ _ (T79.setTop (mkF m 89 #[.val (.int p0), .val (.int p1), .val (.int p2), .val (.int p3), .val (.int p4), .val (.int p5), .val (.int (0 : Int32)), .val (.int (((p4.toUInt32 >>> ((1 : Int32) &&& 31).toUInt32).toInt32).toInt8.toInt32)), .val (.ref o15), .unset, .unset, .unset] []))
    refine own_st (fun _ k => XS.iconst X79.here hx rfl (hb hby lw_d89) (XS.iload X79.here hx rfl (hb hby lw_d90) rfl (X79.ldcInt hx (index := 7) (v := (2147483647 : Int32)) hown (mvT hZ (hw _ (List.mem_of_getElem? (i := 1) rfl))) (g := (mkF m 92 #[.val (.int p0), .val (.int p1), .val (.int p2), .val (.int p3), .val (.int p4), .val (.int p5), .val (.int (0 : Int32)), .val (.int (((p4.toUInt32 >>> ((1 : Int32) &&& 31).toUInt32).toInt32).toInt8.toInt32)), .val (.ref o15), .unset, .unset, .unset] [(.int p5), (.int (1 : Int32))])) rfl (hb hby lw_d92) _ (XS.iand X79.here hx rfl (hb hby lw_d94) rfl (XS.bipush X79.here hx rfl (hb hby lw_d95) (XS.iload X79.here hx rfl (hb hby lw_d97) rfl (XS.isub X79.here hx rfl (hb hby lw_d99) rfl (iremM X79 hx rfl (hb hby lw_d100) rfl (by decide) (XS.iadd X79.here hx rfl (hb hby lw_d101) rfl (XS.istore X79.here hx rfl (hb hby lw_d102) rfl (l' := #[.val (.int p0), .val (.int p1), .val (.int p2), .val (.int p3), .val (.int p4), .val (.int p5), .val (.int (0 : Int32)), .val (.int (((p4.toUInt32 >>> ((1 : Int32) &&& 31).toUInt32).toInt32).toInt8.toInt32)), .val (.ref o15), .val (.int ((1 : Int32) + ((p5 &&& (2147483647 : Int32)) % (6 : Int32)))), .unset, .unset]) rfl (XS.iload X79.here hx rfl (hb hby lw_d104) rfl (XS.iload X79.here hx rfl (hb hby lw_d106) rfl (XS.iadd X79.here hx rfl (hb hby lw_d108) rfl (XS.istore X79.here hx rfl (hb hby lw_d109) rfl (l' := #[.val (.int p0), .val (.int p1), .val (.int p2), .val (.int p3), .val (.int p4), .val (.int p5), .val (.int (0 : Int32)), .val (.int (((p4.toUInt32 >>> ((1 : Int32) &&& 31).toUInt32).toInt32).toInt8.toInt32)), .val (.ref o15), .val (.int ((1 : Int32) + ((p5 &&& (2147483647 : Int32)) % (6 : Int32)))), .val (.int ((0 : Int32) + ((1 : Int32) + ((p5 &&& (2147483647 : Int32)) % (6 : Int32))))), .unset]) rfl (XS.aload X79.here hx rfl (hb hby lw_d111) rfl rfl (XS.iload X79.here hx rfl (hb hby lw_d113) rfl (XS.iload X79.here hx rfl (hb hby lw_d115) rfl k))))))))))))))))) ?_
    show own_Dn p e below s _ _ _ (T79.setTop (mkF m 117 #[.val (.int p0), .val (.int p1), .val (.int p2), .val (.int p3), .val (.int p4), .val (.int p5), .val (.int (0 : Int32)), .val (.int (((p4.toUInt32 >>> ((1 : Int32) &&& 31).toUInt32).toInt32).toInt8.toInt32)), .val (.ref o15), .val (.int ((1 : Int32) + ((p5 &&& (2147483647 : Int32)) % (6 : Int32)))), .val (.int ((0 : Int32) + ((1 : Int32) + ((p5 &&& (2147483647 : Int32)) % (6 : Int32))))), .unset] [(.int ((0 : Int32) + ((1 : Int32) + ((p5 &&& (2147483647 : Int32)) % (6 : Int32))))), (.int (0 : Int32)), (.ref o15)]))
    obtain ⟨_, _, ⟨T81, L81, k81, n81⟩, -, X81, ⟨Lc81, hQ81, l81, y81, z81⟩, st81⟩ := Jvm.LawKit.callS X79 hx (y := (⟨"com/example/xylograph/xylograph/io/Utf8", "sequenceLength", "([BII)I"⟩ : MethodName)) hown (mvT hZ (hw _ (List.mem_of_getElem? (i := 2) rfl))) (mvT hZ (hw _ (List.mem_of_getElem? (i := 3) rfl))) (mvT hZ (hw _ (List.mem_of_getElem? (i := 4) rfl))) (mvT hZ (hw _ (List.mem_of_getElem? (i := 5) rfl))) (by decide) (backOf (W := 0) (sa_rm l Z a0 hw [] (o15) (((0 : Int32) + ((1 : Int32) + ((p5 &&& (2147483647 : Int32)) % (6 : Int32))))) ((own_upd (own_upd (own_upd (own_upd (own_upd (own_upd (own_upd (own_upd (own_upd (own_upd (fun _ => (0 : Int32)) ((0 : Int32)).toNatClampNeg (((p4.toUInt32 >>> ((1 : Int32) &&& 31).toUInt32).toInt32).toInt8.toInt32).toInt8.toInt32) ((1 : Int32)).toNatClampNeg (((p4.toUInt32 >>> ((1 : Int32) &&& 31).toUInt32).toInt32).toInt8.toInt32).toInt8.toInt32) ((2 : Int32)).toNatClampNeg (((p4.toUInt32 >>> ((1 : Int32) &&& 31).toUInt32).toInt32).toInt8.toInt32).toInt8.toInt32) ((3 : Int32)).toNatClampNeg (((p4.toUInt32 >>> ((1 : Int32) &&& 31).toUInt32).toInt32).toInt8.toInt32).toInt8.toInt32) ((4 : Int32)).toNatClampNeg (((p4.toUInt32 >>> ((1 : Int32) &&& 31).toUInt32).toInt32).toInt8.toInt32).toInt8.toInt32) ((5 : Int32)).toNatClampNeg (((p4.toUInt32 >>> ((1 : Int32) &&& 31).toUInt32).toInt32).toInt8.toInt32).toInt8.toInt32) ((0 : Int32)).toNatClampNeg (p0.toInt8.toInt32).toInt8.toInt32) ((1 : Int32)).toNatClampNeg (p1.toInt8.toInt32).toInt8.toInt32) ((2 : Int32)).toNatClampNeg (p2.toInt8.toInt32).toInt8.toInt32) ((3 : Int32)).toNatClampNeg (p3.toInt8.toInt32).toInt8.toInt32)) h79 n0 F80 F79a) hZ (hw _ (List.mem_of_getElem? (i := 5) rfl)) (hw _ (List.mem_of_getElem? (i := 4) rfl)) (by decide) (by decide)) (g := (mkF m 117 #[.val (.int p0), .val (.int p1), .val (.int p2), .val (.int p3), .val (.int p4), .val (.int p5), .val (.int (0 : Int32)), .val (.int (((p4.toUInt32 >>> ((1 : Int32) &&& 31).toUInt32).toInt32).toInt8.toInt32)), .val (.ref o15), .val (.int ((1 : Int32) + ((p5 &&& (2147483647 : Int32)) % (6 : Int32)))), .val (.int ((0 : Int32) + ((1 : Int32) + ((p5 &&& (2147483647 : Int32)) % (6 : Int32))))), .unset] [(.int ((0 : Int32) + ((1 : Int32) + ((p5 &&& (2147483647 : Int32)) % (6 : Int32))))), (.int (0 : Int32)), (.ref o15)])) rfl (by rw [hml]; rfl) (argsL := [(.ref o15), (.int (0 : Int32)), (.int ((0 : Int32) + ((1 : Int32) + ((p5 &&& (2147483647 : Int32)) % (6 : Int32)))))]) (rest := []) (lenOf own_pd4 rfl) rfl (by show 2 * 0 + _ ≤ _; exact Nat.le_of_eq rfl) (hb hby lw_d117) (fun _ _ => ⟨rfl, e79, (by decide : 1 + 0 ≤ _), (by decide : 6 + 0 ≤ _)⟩)
    dsimp only [Pt.U, Pt.locs, Pt.cells, Pt.slots] at X81 l81 y81 z81 st81 hQ81
    subst l81 y81 z81
    obtain ⟨rfl, N81q, e81⟩ := hQ81
    have N81 := Fr.app N79 N81q
    refine own_st st81 ?_
    show own_Dn p e below s _ _ _ (T81.setTop (mkF m 120 #[.val (.int p0), .val (.int p1), .val (.int p2), .val (.int p3), .val (.int p4), .val (.int p5), .val (.int (0 : Int32)), .val (.int (((p4.toUInt32 >>> ((1 : Int32) &&& 31).toUInt32).toInt32).toInt8.toInt32)), .val (.ref o15), .val (.int ((1 : Int32) + ((p5 &&& (2147483647 : Int32)) % (6 : Int32)))), .val (.int ((0 : Int32) + ((1 : Int32) + ((p5 &&& (2147483647 : Int32)) % (6 : Int32))))), .unset] [(.int (sa_f ((0 : Int32) + ((1 : Int32) + ((p5 &&& (2147483647 : Int32)) % (6 : Int32)))) (own_upd (own_upd (own_upd (own_upd (own_upd (own_upd (own_upd (own_upd (own_upd (own_upd (fun _ => (0 : Int32)) ((0 : Int32)).toNatClampNeg (((p4.toUInt32 >>> ((1 : Int32) &&& 31).toUInt32).toInt32).toInt8.toInt32).toInt8.toInt32) ((1 : Int32)).toNatClampNeg (((p4.toUInt32 >>> ((1 : Int32) &&& 31).toUInt32).toInt32).toInt8.toInt32).toInt8.toInt32) ((2 : Int32)).toNatClampNeg (((p4.toUInt32 >>> ((1 : Int32) &&& 31).toUInt32).toInt32).toInt8.toInt32).toInt8.toInt32) ((3 : Int32)).toNatClampNeg (((p4.toUInt32 >>> ((1 : Int32) &&& 31).toUInt32).toInt32).toInt8.toInt32).toInt8.toInt32) ((4 : Int32)).toNatClampNeg (((p4.toUInt32 >>> ((1 : Int32) &&& 31).toUInt32).toInt32).toInt8.toInt32).toInt8.toInt32) ((5 : Int32)).toNatClampNeg (((p4.toUInt32 >>> ((1 : Int32) &&& 31).toUInt32).toInt32).toInt8.toInt32).toInt8.toInt32) ((0 : Int32)).toNatClampNeg (p0.toInt8.toInt32).toInt8.toInt32) ((1 : Int32)).toNatClampNeg (p1.toInt8.toInt32).toInt8.toInt32) ((2 : Int32)).toNatClampNeg (p2.toInt8.toInt32).toInt8.toInt32) ((3 : Int32)).toNatClampNeg (p3.toInt8.toInt32).toInt8.toInt32)))]))
    refine own_st (fun _ k => XS.istore X81.here hx rfl (hb hby lw_d120) rfl (l' := #[.val (.int p0), .val (.int p1), .val (.int p2), .val (.int p3), .val (.int p4), .val (.int p5), .val (.int (0 : Int32)), .val (.int (((p4.toUInt32 >>> ((1 : Int32) &&& 31).toUInt32).toInt32).toInt8.toInt32)), .val (.ref o15), .val (.int ((1 : Int32) + ((p5 &&& (2147483647 : Int32)) % (6 : Int32)))), .val (.int ((0 : Int32) + ((1 : Int32) + ((p5 &&& (2147483647 : Int32)) % (6 : Int32))))), .val (.int (sa_f ((0 : Int32) + ((1 : Int32) + ((p5 &&& (2147483647 : Int32)) % (6 : Int32)))) (own_upd (own_upd (own_upd (own_upd (own_upd (own_upd (own_upd (own_upd (own_upd (own_upd (fun _ => (0 : Int32)) ((0 : Int32)).toNatClampNeg (((p4.toUInt32 >>> ((1 : Int32) &&& 31).toUInt32).toInt32).toInt8.toInt32).toInt8.toInt32) ((1 : Int32)).toNatClampNeg (((p4.toUInt32 >>> ((1 : Int32) &&& 31).toUInt32).toInt32).toInt8.toInt32).toInt8.toInt32) ((2 : Int32)).toNatClampNeg (((p4.toUInt32 >>> ((1 : Int32) &&& 31).toUInt32).toInt32).toInt8.toInt32).toInt8.toInt32) ((3 : Int32)).toNatClampNeg (((p4.toUInt32 >>> ((1 : Int32) &&& 31).toUInt32).toInt32).toInt8.toInt32).toInt8.toInt32) ((4 : Int32)).toNatClampNeg (((p4.toUInt32 >>> ((1 : Int32) &&& 31).toUInt32).toInt32).toInt8.toInt32).toInt8.toInt32) ((5 : Int32)).toNatClampNeg (((p4.toUInt32 >>> ((1 : Int32) &&& 31).toUInt32).toInt32).toInt8.toInt32).toInt8.toInt32) ((0 : Int32)).toNatClampNeg (p0.toInt8.toInt32).toInt8.toInt32) ((1 : Int32)).toNatClampNeg (p1.toInt8.toInt32).toInt8.toInt32) ((2 : Int32)).toNatClampNeg (p2.toInt8.toInt32).toInt8.toInt32) ((3 : Int32)).toNatClampNeg (p3.toInt8.toInt32).toInt8.toInt32)))]) rfl (XS.iload X81.here hx rfl (hb hby lw_d122) rfl (XS.iloadN X81.here hx rfl (hb hby lw_d124) rfl (XS.sipush X81.here hx rfl (hb hby lw_d125) (XS.iand X81.here hx rfl (hb hby lw_d128) rfl (XS.iloadN X81.here hx rfl (hb hby lw_d129) rfl (XS.sipush X81.here hx rfl (hb hby lw_d130) (XS.iand X81.here hx rfl (hb hby lw_d133) rfl (XS.iloadN X81.here hx rfl (hb hby lw_d134) rfl (XS.sipush X81.here hx rfl (hb hby lw_d135) (XS.iand X81.here hx rfl (hb hby lw_d138) rfl (XS.iloadN X81.here hx rfl (hb hby lw_d139) rfl (XS.sipush X81.here hx rfl (hb hby lw_d140) (XS.iand X81.here hx rfl (hb hby lw_d143) rfl (XS.iload X81.here hx rfl (hb hby lw_d144) rfl k))))))))))))))) ?_
    show own_Dn p e below s _ _ _ (T81.setTop (mkF m 146 #[.val (.int p0), .val (.int p1), .val (.int p2), .val (.int p3), .val (.int p4), .val (.int p5), .val (.int (0 : Int32)), .val (.int (((p4.toUInt32 >>> ((1 : Int32) &&& 31).toUInt32).toInt32).toInt8.toInt32)), .val (.ref o15), .val (.int ((1 : Int32) + ((p5 &&& (2147483647 : Int32)) % (6 : Int32)))), .val (.int ((0 : Int32) + ((1 : Int32) + ((p5 &&& (2147483647 : Int32)) % (6 : Int32))))), .val (.int (sa_f ((0 : Int32) + ((1 : Int32) + ((p5 &&& (2147483647 : Int32)) % (6 : Int32)))) (own_upd (own_upd (own_upd (own_upd (own_upd (own_upd (own_upd (own_upd (own_upd (own_upd (fun _ => (0 : Int32)) ((0 : Int32)).toNatClampNeg (((p4.toUInt32 >>> ((1 : Int32) &&& 31).toUInt32).toInt32).toInt8.toInt32).toInt8.toInt32) ((1 : Int32)).toNatClampNeg (((p4.toUInt32 >>> ((1 : Int32) &&& 31).toUInt32).toInt32).toInt8.toInt32).toInt8.toInt32) ((2 : Int32)).toNatClampNeg (((p4.toUInt32 >>> ((1 : Int32) &&& 31).toUInt32).toInt32).toInt8.toInt32).toInt8.toInt32) ((3 : Int32)).toNatClampNeg (((p4.toUInt32 >>> ((1 : Int32) &&& 31).toUInt32).toInt32).toInt8.toInt32).toInt8.toInt32) ((4 : Int32)).toNatClampNeg (((p4.toUInt32 >>> ((1 : Int32) &&& 31).toUInt32).toInt32).toInt8.toInt32).toInt8.toInt32) ((5 : Int32)).toNatClampNeg (((p4.toUInt32 >>> ((1 : Int32) &&& 31).toUInt32).toInt32).toInt8.toInt32).toInt8.toInt32) ((0 : Int32)).toNatClampNeg (p0.toInt8.toInt32).toInt8.toInt32) ((1 : Int32)).toNatClampNeg (p1.toInt8.toInt32).toInt8.toInt32) ((2 : Int32)).toNatClampNeg (p2.toInt8.toInt32).toInt8.toInt32) ((3 : Int32)).toNatClampNeg (p3.toInt8.toInt32).toInt8.toInt32)))] [(.int ((1 : Int32) + ((p5 &&& (2147483647 : Int32)) % (6 : Int32)))), (.int (p3 &&& (255 : Int32))), (.int (p2 &&& (255 : Int32))), (.int (p1 &&& (255 : Int32))), (.int (p0 &&& (255 : Int32))), (.int (sa_f ((0 : Int32) + ((1 : Int32) + ((p5 &&& (2147483647 : Int32)) % (6 : Int32)))) (own_upd (own_upd (own_upd (own_upd (own_upd (own_upd (own_upd (own_upd (own_upd (own_upd (fun _ => (0 : Int32)) ((0 : Int32)).toNatClampNeg (((p4.toUInt32 >>> ((1 : Int32) &&& 31).toUInt32).toInt32).toInt8.toInt32).toInt8.toInt32) ((1 : Int32)).toNatClampNeg (((p4.toUInt32 >>> ((1 : Int32) &&& 31).toUInt32).toInt32).toInt8.toInt32).toInt8.toInt32) ((2 : Int32)).toNatClampNeg (((p4.toUInt32 >>> ((1 : Int32) &&& 31).toUInt32).toInt32).toInt8.toInt32).toInt8.toInt32) ((3 : Int32)).toNatClampNeg (((p4.toUInt32 >>> ((1 : Int32) &&& 31).toUInt32).toInt32).toInt8.toInt32).toInt8.toInt32) ((4 : Int32)).toNatClampNeg (((p4.toUInt32 >>> ((1 : Int32) &&& 31).toUInt32).toInt32).toInt8.toInt32).toInt8.toInt32) ((5 : Int32)).toNatClampNeg (((p4.toUInt32 >>> ((1 : Int32) &&& 31).toUInt32).toInt32).toInt8.toInt32).toInt8.toInt32) ((0 : Int32)).toNatClampNeg (p0.toInt8.toInt32).toInt8.toInt32) ((1 : Int32)).toNatClampNeg (p1.toInt8.toInt32).toInt8.toInt32) ((2 : Int32)).toNatClampNeg (p2.toInt8.toInt32).toInt8.toInt32) ((3 : Int32)).toNatClampNeg (p3.toInt8.toInt32).toInt8.toInt32)))]))
    obtain ⟨_, _, ⟨T82, L82, k82, n82⟩, -, X82, ⟨Lc82, hQ82, l82, y82, z82⟩, st82⟩ := Jvm.LawKit.callS X81 hx (y := (⟨"com/example/xylograph/xylograph/io/Utf8SequenceLengthPinLaw", "expected", "(IIIII)I"⟩ : MethodName)) hown (mvT hZ (hw _ (List.mem_of_getElem? (i := 6) rfl))) (mvT hZ (hw _ (List.mem_of_getElem? (i := 7) rfl))) (mvT hZ (hw _ (List.mem_of_getElem? (i := 8) rfl))) (mvT hZ (hw _ (List.mem_of_getElem? (i := 9) rfl))) (by decide) (backOf (W := 1) (ex_rm l Z a0 hw [] ((p0 &&& (255 : Int32))) ((p1 &&& (255 : Int32))) ((p2 &&& (255 : Int32))) ((p3 &&& (255 : Int32))) (((1 : Int32) + ((p5 &&& (2147483647 : Int32)) % (6 : Int32)))) h79 n0) hZ (hw _ (List.mem_of_getElem? (i := 9) rfl)) (hw _ (List.mem_of_getElem? (i := 8) rfl)) (by decide) (by decide)) (g := (mkF m 146 #[.val (.int p0), .val (.int p1), .val (.int p2), .val (.int p3), .val (.int p4), .val (.int p5), .val (.int (0 : Int32)), .val (.int (((p4.toUInt32 >>> ((1 : Int32) &&& 31).toUInt32).toInt32).toInt8.toInt32)), .val (.ref o15), .val (.int ((1 : Int32) + ((p5 &&& (2147483647 : Int32)) % (6 : Int32)))), .val (.int ((0 : Int32) + ((1 : Int32) + ((p5 &&& (2147483647 : Int32)) % (6 : Int32))))), .val (.int (sa_f ((0 : Int32) + ((1 : Int32) + ((p5 &&& (2147483647 : Int32)) % (6 : Int32)))) (own_upd (own_upd (own_upd (own_upd (own_upd (own_upd (own_upd (own_upd (own_upd (own_upd (fun _ => (0 : Int32)) ((0 : Int32)).toNatClampNeg (((p4.toUInt32 >>> ((1 : Int32) &&& 31).toUInt32).toInt32).toInt8.toInt32).toInt8.toInt32) ((1 : Int32)).toNatClampNeg (((p4.toUInt32 >>> ((1 : Int32) &&& 31).toUInt32).toInt32).toInt8.toInt32).toInt8.toInt32) ((2 : Int32)).toNatClampNeg (((p4.toUInt32 >>> ((1 : Int32) &&& 31).toUInt32).toInt32).toInt8.toInt32).toInt8.toInt32) ((3 : Int32)).toNatClampNeg (((p4.toUInt32 >>> ((1 : Int32) &&& 31).toUInt32).toInt32).toInt8.toInt32).toInt8.toInt32) ((4 : Int32)).toNatClampNeg (((p4.toUInt32 >>> ((1 : Int32) &&& 31).toUInt32).toInt32).toInt8.toInt32).toInt8.toInt32) ((5 : Int32)).toNatClampNeg (((p4.toUInt32 >>> ((1 : Int32) &&& 31).toUInt32).toInt32).toInt8.toInt32).toInt8.toInt32) ((0 : Int32)).toNatClampNeg (p0.toInt8.toInt32).toInt8.toInt32) ((1 : Int32)).toNatClampNeg (p1.toInt8.toInt32).toInt8.toInt32) ((2 : Int32)).toNatClampNeg (p2.toInt8.toInt32).toInt8.toInt32) ((3 : Int32)).toNatClampNeg (p3.toInt8.toInt32).toInt8.toInt32)))] [(.int ((1 : Int32) + ((p5 &&& (2147483647 : Int32)) % (6 : Int32)))), (.int (p3 &&& (255 : Int32))), (.int (p2 &&& (255 : Int32))), (.int (p1 &&& (255 : Int32))), (.int (p0 &&& (255 : Int32))), (.int (sa_f ((0 : Int32) + ((1 : Int32) + ((p5 &&& (2147483647 : Int32)) % (6 : Int32)))) (own_upd (own_upd (own_upd (own_upd (own_upd (own_upd (own_upd (own_upd (own_upd (own_upd (fun _ => (0 : Int32)) ((0 : Int32)).toNatClampNeg (((p4.toUInt32 >>> ((1 : Int32) &&& 31).toUInt32).toInt32).toInt8.toInt32).toInt8.toInt32) ((1 : Int32)).toNatClampNeg (((p4.toUInt32 >>> ((1 : Int32) &&& 31).toUInt32).toInt32).toInt8.toInt32).toInt8.toInt32) ((2 : Int32)).toNatClampNeg (((p4.toUInt32 >>> ((1 : Int32) &&& 31).toUInt32).toInt32).toInt8.toInt32).toInt8.toInt32) ((3 : Int32)).toNatClampNeg (((p4.toUInt32 >>> ((1 : Int32) &&& 31).toUInt32).toInt32).toInt8.toInt32).toInt8.toInt32) ((4 : Int32)).toNatClampNeg (((p4.toUInt32 >>> ((1 : Int32) &&& 31).toUInt32).toInt32).toInt8.toInt32).toInt8.toInt32) ((5 : Int32)).toNatClampNeg (((p4.toUInt32 >>> ((1 : Int32) &&& 31).toUInt32).toInt32).toInt8.toInt32).toInt8.toInt32) ((0 : Int32)).toNatClampNeg (p0.toInt8.toInt32).toInt8.toInt32) ((1 : Int32)).toNatClampNeg (p1.toInt8.toInt32).toInt8.toInt32) ((2 : Int32)).toNatClampNeg (p2.toInt8.toInt32).toInt8.toInt32) ((3 : Int32)).toNatClampNeg (p3.toInt8.toInt32).toInt8.toInt32)))])) rfl (by rw [hml]; rfl) (argsL := [(.int (p0 &&& (255 : Int32))), (.int (p1 &&& (255 : Int32))), (.int (p2 &&& (255 : Int32))), (.int (p3 &&& (255 : Int32))), (.int ((1 : Int32) + ((p5 &&& (2147483647 : Int32)) % (6 : Int32))))]) (rest := [(.int (sa_f ((0 : Int32) + ((1 : Int32) + ((p5 &&& (2147483647 : Int32)) % (6 : Int32)))) (own_upd (own_upd (own_upd (own_upd (own_upd (own_upd (own_upd (own_upd (own_upd (own_upd (fun _ => (0 : Int32)) ((0 : Int32)).toNatClampNeg (((p4.toUInt32 >>> ((1 : Int32) &&& 31).toUInt32).toInt32).toInt8.toInt32).toInt8.toInt32) ((1 : Int32)).toNatClampNeg (((p4.toUInt32 >>> ((1 : Int32) &&& 31).toUInt32).toInt32).toInt8.toInt32).toInt8.toInt32) ((2 : Int32)).toNatClampNeg (((p4.toUInt32 >>> ((1 : Int32) &&& 31).toUInt32).toInt32).toInt8.toInt32).toInt8.toInt32) ((3 : Int32)).toNatClampNeg (((p4.toUInt32 >>> ((1 : Int32) &&& 31).toUInt32).toInt32).toInt8.toInt32).toInt8.toInt32) ((4 : Int32)).toNatClampNeg (((p4.toUInt32 >>> ((1 : Int32) &&& 31).toUInt32).toInt32).toInt8.toInt32).toInt8.toInt32) ((5 : Int32)).toNatClampNeg (((p4.toUInt32 >>> ((1 : Int32) &&& 31).toUInt32).toInt32).toInt8.toInt32).toInt8.toInt32) ((0 : Int32)).toNatClampNeg (p0.toInt8.toInt32).toInt8.toInt32) ((1 : Int32)).toNatClampNeg (p1.toInt8.toInt32).toInt8.toInt32) ((2 : Int32)).toNatClampNeg (p2.toInt8.toInt32).toInt8.toInt32) ((3 : Int32)).toNatClampNeg (p3.toInt8.toInt32).toInt8.toInt32)))]) (lenOf own_pd3 rfl) rfl (by show 2 * 0 + _ ≤ _; exact Nat.le_of_eq rfl) (hb hby lw_d146) (fun _ _ => ⟨rfl, e81, (by decide : 1 + 0 ≤ _), (by decide : 6 + 0 ≤ _)⟩)
    dsimp only [Pt.U, Pt.locs, Pt.cells, Pt.slots] at X82 l82 y82 z82 st82 hQ82
    subst l82 y82 z82
    obtain ⟨rfl, N82q, e82⟩ := hQ82
    have N82 := Fr.app N81 N82q
    refine own_st st82 ?_
    show own_Dn p e below s _ _ _ (T82.setTop (mkF m 149 #[.val (.int p0), .val (.int p1), .val (.int p2), .val (.int p3), .val (.int p4), .val (.int p5), .val (.int (0 : Int32)), .val (.int (((p4.toUInt32 >>> ((1 : Int32) &&& 31).toUInt32).toInt32).toInt8.toInt32)), .val (.ref o15), .val (.int ((1 : Int32) + ((p5 &&& (2147483647 : Int32)) % (6 : Int32)))), .val (.int ((0 : Int32) + ((1 : Int32) + ((p5 &&& (2147483647 : Int32)) % (6 : Int32))))), .val (.int (sa_f ((0 : Int32) + ((1 : Int32) + ((p5 &&& (2147483647 : Int32)) % (6 : Int32)))) (own_upd (own_upd (own_upd (own_upd (own_upd (own_upd (own_upd (own_upd (own_upd (own_upd (fun _ => (0 : Int32)) ((0 : Int32)).toNatClampNeg (((p4.toUInt32 >>> ((1 : Int32) &&& 31).toUInt32).toInt32).toInt8.toInt32).toInt8.toInt32) ((1 : Int32)).toNatClampNeg (((p4.toUInt32 >>> ((1 : Int32) &&& 31).toUInt32).toInt32).toInt8.toInt32).toInt8.toInt32) ((2 : Int32)).toNatClampNeg (((p4.toUInt32 >>> ((1 : Int32) &&& 31).toUInt32).toInt32).toInt8.toInt32).toInt8.toInt32) ((3 : Int32)).toNatClampNeg (((p4.toUInt32 >>> ((1 : Int32) &&& 31).toUInt32).toInt32).toInt8.toInt32).toInt8.toInt32) ((4 : Int32)).toNatClampNeg (((p4.toUInt32 >>> ((1 : Int32) &&& 31).toUInt32).toInt32).toInt8.toInt32).toInt8.toInt32) ((5 : Int32)).toNatClampNeg (((p4.toUInt32 >>> ((1 : Int32) &&& 31).toUInt32).toInt32).toInt8.toInt32).toInt8.toInt32) ((0 : Int32)).toNatClampNeg (p0.toInt8.toInt32).toInt8.toInt32) ((1 : Int32)).toNatClampNeg (p1.toInt8.toInt32).toInt8.toInt32) ((2 : Int32)).toNatClampNeg (p2.toInt8.toInt32).toInt8.toInt32) ((3 : Int32)).toNatClampNeg (p3.toInt8.toInt32).toInt8.toInt32)))] [(.int (ex_f (p0 &&& (255 : Int32)) (p1 &&& (255 : Int32)) (p2 &&& (255 : Int32)) (p3 &&& (255 : Int32)) ((1 : Int32) + ((p5 &&& (2147483647 : Int32)) % (6 : Int32))))), (.int (sa_f ((0 : Int32) + ((1 : Int32) + ((p5 &&& (2147483647 : Int32)) % (6 : Int32)))) (own_upd (own_upd (own_upd (own_upd (own_upd (own_upd (own_upd (own_upd (own_upd (own_upd (fun _ => (0 : Int32)) ((0 : Int32)).toNatClampNeg (((p4.toUInt32 >>> ((1 : Int32) &&& 31).toUInt32).toInt32).toInt8.toInt32).toInt8.toInt32) ((1 : Int32)).toNatClampNeg (((p4.toUInt32 >>> ((1 : Int32) &&& 31).toUInt32).toInt32).toInt8.toInt32).toInt8.toInt32) ((2 : Int32)).toNatClampNeg (((p4.toUInt32 >>> ((1 : Int32) &&& 31).toUInt32).toInt32).toInt8.toInt32).toInt8.toInt32) ((3 : Int32)).toNatClampNeg (((p4.toUInt32 >>> ((1 : Int32) &&& 31).toUInt32).toInt32).toInt8.toInt32).toInt8.toInt32) ((4 : Int32)).toNatClampNeg (((p4.toUInt32 >>> ((1 : Int32) &&& 31).toUInt32).toInt32).toInt8.toInt32).toInt8.toInt32) ((5 : Int32)).toNatClampNeg (((p4.toUInt32 >>> ((1 : Int32) &&& 31).toUInt32).toInt32).toInt8.toInt32).toInt8.toInt32) ((0 : Int32)).toNatClampNeg (p0.toInt8.toInt32).toInt8.toInt32) ((1 : Int32)).toNatClampNeg (p1.toInt8.toInt32).toInt8.toInt32) ((2 : Int32)).toNatClampNeg (p2.toInt8.toInt32).toInt8.toInt32) ((3 : Int32)).toNatClampNeg (p3.toInt8.toInt32).toInt8.toInt32)))]))
    by_cases hc83 : (sa_f ((0 : Int32) + ((1 : Int32) + ((p5 &&& (2147483647 : Int32)) % (6 : Int32)))) (own_upd (own_upd (own_upd (own_upd (own_upd (own_upd (own_upd (own_upd (own_upd (own_upd (fun _ => (0 : Int32)) ((0 : Int32)).toNatClampNeg (((p4.toUInt32 >>> ((1 : Int32) &&& 31).toUInt32).toInt32).toInt8.toInt32).toInt8.toInt32) ((1 : Int32)).toNatClampNeg (((p4.toUInt32 >>> ((1 : Int32) &&& 31).toUInt32).toInt32).toInt8.toInt32).toInt8.toInt32) ((2 : Int32)).toNatClampNeg (((p4.toUInt32 >>> ((1 : Int32) &&& 31).toUInt32).toInt32).toInt8.toInt32).toInt8.toInt32) ((3 : Int32)).toNatClampNeg (((p4.toUInt32 >>> ((1 : Int32) &&& 31).toUInt32).toInt32).toInt8.toInt32).toInt8.toInt32) ((4 : Int32)).toNatClampNeg (((p4.toUInt32 >>> ((1 : Int32) &&& 31).toUInt32).toInt32).toInt8.toInt32).toInt8.toInt32) ((5 : Int32)).toNatClampNeg (((p4.toUInt32 >>> ((1 : Int32) &&& 31).toUInt32).toInt32).toInt8.toInt32).toInt8.toInt32) ((0 : Int32)).toNatClampNeg (p0.toInt8.toInt32).toInt8.toInt32) ((1 : Int32)).toNatClampNeg (p1.toInt8.toInt32).toInt8.toInt32) ((2 : Int32)).toNatClampNeg (p2.toInt8.toInt32).toInt8.toInt32) ((3 : Int32)).toNatClampNeg (p3.toInt8.toInt32).toInt8.toInt32)) = (ex_f (p0 &&& (255 : Int32)) (p1 &&& (255 : Int32)) (p2 &&& (255 : Int32)) (p3 &&& (255 : Int32)) ((1 : Int32) + ((p5 &&& (2147483647 : Int32)) % (6 : Int32))))
    · refine own_st (fun _ k => XS.icmpNo X82.here hx rfl (hb hby lw_d149) rfl (teq hc83).2 k) ?_
      show own_Dn p e below s _ _ _ (T82.setTop (mkF m 152 #[.val (.int p0), .val (.int p1), .val (.int p2), .val (.int p3), .val (.int p4), .val (.int p5), .val (.int (0 : Int32)), .val (.int (((p4.toUInt32 >>> ((1 : Int32) &&& 31).toUInt32).toInt32).toInt8.toInt32)), .val (.ref o15), .val (.int ((1 : Int32) + ((p5 &&& (2147483647 : Int32)) % (6 : Int32)))), .val (.int ((0 : Int32) + ((1 : Int32) + ((p5 &&& (2147483647 : Int32)) % (6 : Int32))))), .val (.int (sa_f ((0 : Int32) + ((1 : Int32) + ((p5 &&& (2147483647 : Int32)) % (6 : Int32)))) (own_upd (own_upd (own_upd (own_upd (own_upd (own_upd (own_upd (own_upd (own_upd (own_upd (fun _ => (0 : Int32)) ((0 : Int32)).toNatClampNeg (((p4.toUInt32 >>> ((1 : Int32) &&& 31).toUInt32).toInt32).toInt8.toInt32).toInt8.toInt32) ((1 : Int32)).toNatClampNeg (((p4.toUInt32 >>> ((1 : Int32) &&& 31).toUInt32).toInt32).toInt8.toInt32).toInt8.toInt32) ((2 : Int32)).toNatClampNeg (((p4.toUInt32 >>> ((1 : Int32) &&& 31).toUInt32).toInt32).toInt8.toInt32).toInt8.toInt32) ((3 : Int32)).toNatClampNeg (((p4.toUInt32 >>> ((1 : Int32) &&& 31).toUInt32).toInt32).toInt8.toInt32).toInt8.toInt32) ((4 : Int32)).toNatClampNeg (((p4.toUInt32 >>> ((1 : Int32) &&& 31).toUInt32).toInt32).toInt8.toInt32).toInt8.toInt32) ((5 : Int32)).toNatClampNeg (((p4.toUInt32 >>> ((1 : Int32) &&& 31).toUInt32).toInt32).toInt8.toInt32).toInt8.toInt32) ((0 : Int32)).toNatClampNeg (p0.toInt8.toInt32).toInt8.toInt32) ((1 : Int32)).toNatClampNeg (p1.toInt8.toInt32).toInt8.toInt32) ((2 : Int32)).toNatClampNeg (p2.toInt8.toInt32).toInt8.toInt32) ((3 : Int32)).toNatClampNeg (p3.toInt8.toInt32).toInt8.toInt32)))] []))
      refine own_st (fun _ k => XS.iconst X82.here hx rfl (hb hby lw_d152) (XS.goto X82.here hx rfl (pc0 := 153) (pc' := 157) rfl (hb hby lw_d153) (by decide) (by decide) k)) ?_
      show own_Dn p e below s _ _ _ (T82.setTop (mkF m 157 #[.val (.int p0), .val (.int p1), .val (.int p2), .val (.int p3), .val (.int p4), .val (.int p5), .val (.int (0 : Int32)), .val (.int (((p4.toUInt32 >>> ((1 : Int32) &&& 31).toUInt32).toInt32).toInt8.toInt32)), .val (.ref o15), .val (.int ((1 : Int32) + ((p5 &&& (2147483647 : Int32)) % (6 : Int32)))), .val (.int ((0 : Int32) + ((1 : Int32) + ((p5 &&& (2147483647 : Int32)) % (6 : Int32))))), .val (.int (sa_f ((0 : Int32) + ((1 : Int32) + ((p5 &&& (2147483647 : Int32)) % (6 : Int32)))) (own_upd (own_upd (own_upd (own_upd (own_upd (own_upd (own_upd (own_upd (own_upd (own_upd (fun _ => (0 : Int32)) ((0 : Int32)).toNatClampNeg (((p4.toUInt32 >>> ((1 : Int32) &&& 31).toUInt32).toInt32).toInt8.toInt32).toInt8.toInt32) ((1 : Int32)).toNatClampNeg (((p4.toUInt32 >>> ((1 : Int32) &&& 31).toUInt32).toInt32).toInt8.toInt32).toInt8.toInt32) ((2 : Int32)).toNatClampNeg (((p4.toUInt32 >>> ((1 : Int32) &&& 31).toUInt32).toInt32).toInt8.toInt32).toInt8.toInt32) ((3 : Int32)).toNatClampNeg (((p4.toUInt32 >>> ((1 : Int32) &&& 31).toUInt32).toInt32).toInt8.toInt32).toInt8.toInt32) ((4 : Int32)).toNatClampNeg (((p4.toUInt32 >>> ((1 : Int32) &&& 31).toUInt32).toInt32).toInt8.toInt32).toInt8.toInt32) ((5 : Int32)).toNatClampNeg (((p4.toUInt32 >>> ((1 : Int32) &&& 31).toUInt32).toInt32).toInt8.toInt32).toInt8.toInt32) ((0 : Int32)).toNatClampNeg (p0.toInt8.toInt32).toInt8.toInt32) ((1 : Int32)).toNatClampNeg (p1.toInt8.toInt32).toInt8.toInt32) ((2 : Int32)).toNatClampNeg (p2.toInt8.toInt32).toInt8.toInt32) ((3 : Int32)).toNatClampNeg (p3.toInt8.toInt32).toInt8.toInt32)))] [(.int (1 : Int32))]))
      exact own_retZ X82 hx hret hlk (by decide) (hb hby lw_d157) (by decide) (by decide) ⟨(by rw [hr0, lw_f, if_pos hs56, if_pos hc83]), N82⟩
    · refine own_st (fun _ k => XS.icmpYes X82.here hx rfl (pc0 := 149) (pc' := 156) rfl (hb hby lw_d149) rfl (feq hc83).2 (by decide) (by decide) k) ?_
      show own_Dn p e below s _ _ _ (T82.setTop (mkF m 156 #[.val (.int p0), .val (.int p1), .val (.int p2), .val (.int p3), .val (.int p4), .val (.int p5), .val (.int (0 : Int32)), .val (.int (((p4.toUInt32 >>> ((1 : Int32) &&& 31).toUInt32).toInt32).toInt8.toInt32)), .val (.ref o15), .val (.int ((1 : Int32) + ((p5 &&& (2147483647 : Int32)) % (6 : Int32)))), .val (.int ((0 : Int32) + ((1 : Int32) + ((p5 &&& (2147483647 : Int32)) % (6 : Int32))))), .val (.int (sa_f ((0 : Int32) + ((1 : Int32) + ((p5 &&& (2147483647 : Int32)) % (6 : Int32)))) (own_upd (own_upd (own_upd (own_upd (own_upd (own_upd (own_upd (own_upd (own_upd (own_upd (fun _ => (0 : Int32)) ((0 : Int32)).toNatClampNeg (((p4.toUInt32 >>> ((1 : Int32) &&& 31).toUInt32).toInt32).toInt8.toInt32).toInt8.toInt32) ((1 : Int32)).toNatClampNeg (((p4.toUInt32 >>> ((1 : Int32) &&& 31).toUInt32).toInt32).toInt8.toInt32).toInt8.toInt32) ((2 : Int32)).toNatClampNeg (((p4.toUInt32 >>> ((1 : Int32) &&& 31).toUInt32).toInt32).toInt8.toInt32).toInt8.toInt32) ((3 : Int32)).toNatClampNeg (((p4.toUInt32 >>> ((1 : Int32) &&& 31).toUInt32).toInt32).toInt8.toInt32).toInt8.toInt32) ((4 : Int32)).toNatClampNeg (((p4.toUInt32 >>> ((1 : Int32) &&& 31).toUInt32).toInt32).toInt8.toInt32).toInt8.toInt32) ((5 : Int32)).toNatClampNeg (((p4.toUInt32 >>> ((1 : Int32) &&& 31).toUInt32).toInt32).toInt8.toInt32).toInt8.toInt32) ((0 : Int32)).toNatClampNeg (p0.toInt8.toInt32).toInt8.toInt32) ((1 : Int32)).toNatClampNeg (p1.toInt8.toInt32).toInt8.toInt32) ((2 : Int32)).toNatClampNeg (p2.toInt8.toInt32).toInt8.toInt32) ((3 : Int32)).toNatClampNeg (p3.toInt8.toInt32).toInt8.toInt32)))] []))
      refine own_st (fun _ k => XS.iconst X82.here hx rfl (hb hby lw_d156) k) ?_
      show own_Dn p e below s _ _ _ (T82.setTop (mkF m 157 #[.val (.int p0), .val (.int p1), .val (.int p2), .val (.int p3), .val (.int p4), .val (.int p5), .val (.int (0 : Int32)), .val (.int (((p4.toUInt32 >>> ((1 : Int32) &&& 31).toUInt32).toInt32).toInt8.toInt32)), .val (.ref o15), .val (.int ((1 : Int32) + ((p5 &&& (2147483647 : Int32)) % (6 : Int32)))), .val (.int ((0 : Int32) + ((1 : Int32) + ((p5 &&& (2147483647 : Int32)) % (6 : Int32))))), .val (.int (sa_f ((0 : Int32) + ((1 : Int32) + ((p5 &&& (2147483647 : Int32)) % (6 : Int32)))) (own_upd (own_upd (own_upd (own_upd (own_upd (own_upd (own_upd (own_upd (own_upd (own_upd (fun _ => (0 : Int32)) ((0 : Int32)).toNatClampNeg (((p4.toUInt32 >>> ((1 : Int32) &&& 31).toUInt32).toInt32).toInt8.toInt32).toInt8.toInt32) ((1 : Int32)).toNatClampNeg (((p4.toUInt32 >>> ((1 : Int32) &&& 31).toUInt32).toInt32).toInt8.toInt32).toInt8.toInt32) ((2 : Int32)).toNatClampNeg (((p4.toUInt32 >>> ((1 : Int32) &&& 31).toUInt32).toInt32).toInt8.toInt32).toInt8.toInt32) ((3 : Int32)).toNatClampNeg (((p4.toUInt32 >>> ((1 : Int32) &&& 31).toUInt32).toInt32).toInt8.toInt32).toInt8.toInt32) ((4 : Int32)).toNatClampNeg (((p4.toUInt32 >>> ((1 : Int32) &&& 31).toUInt32).toInt32).toInt8.toInt32).toInt8.toInt32) ((5 : Int32)).toNatClampNeg (((p4.toUInt32 >>> ((1 : Int32) &&& 31).toUInt32).toInt32).toInt8.toInt32).toInt8.toInt32) ((0 : Int32)).toNatClampNeg (p0.toInt8.toInt32).toInt8.toInt32) ((1 : Int32)).toNatClampNeg (p1.toInt8.toInt32).toInt8.toInt32) ((2 : Int32)).toNatClampNeg (p2.toInt8.toInt32).toInt8.toInt32) ((3 : Int32)).toNatClampNeg (p3.toInt8.toInt32).toInt8.toInt32)))] [(.int (0 : Int32))]))
      exact own_retZ X82 hx hret hlk (by decide) (hb hby lw_d157) (by decide) (by decide) ⟨(by rw [hr0, lw_f, if_pos hs56, if_neg hc83]), N82⟩
  · rw [hs56]
    show own_Dn p e below s _ _ _ (T0.setTop (mkF m 6 #[.val (.int p0), .val (.int p1), .val (.int p2), .val (.int p3), .val (.int p4), .val (.int p5), .val (.int (1 : Int32)), .unset, .unset, .unset, .unset, .unset] []))
    refine own_st (fun _ k => XS.iload X0.here hx rfl (hb hby lw_d6) rfl (XS.iconst X0.here hx rfl (hb hby lw_d8) (XS.iushr X0.here hx rfl (hb hby lw_d9) rfl (XS.i2b X0.here hx rfl (hb hby lw_d10) rfl (XS.istore X0.here hx rfl (hb hby lw_d11) rfl (l' := #[.val (.int p0), .val (.int p1), .val (.int p2), .val (.int p3), .val (.int p4), .val (.int p5), .val (.int (1 : Int32)), .val (.int (((p4.toUInt32 >>> ((1 : Int32) &&& 31).toUInt32).toInt32).toInt8.toInt32)), .unset, .unset, .unset, .unset]) rfl (XS.bipush X0.here hx rfl (hb hby lw_d13) k)))))) ?_
    show own_Dn p e below s _ _ _ (T0.setTop (mkF m 15 #[.val (.int p0), .val (.int p1), .val (.int p2), .val (.int p3), .val (.int p4), .val (.int p5), .val (.int (1 : Int32)), .val (.int (((p4.toUInt32 >>> ((1 : Int32) &&& 31).toUInt32).toInt32).toInt8.toInt32)), .unset, .unset, .unset, .unset] [(.int (6 : Int32))]))
    obtain ⟨T84, h84, cA84, X84, e84, E84, A84, st84⟩ := newP X0 hx hZ (aty := .byte) (hw _ (List.mem_of_getElem? (i := 0) rfl)) e0 (g := (mkF m 15 #[.val (.int p0), .val (.int p1), .val (.int p2), .val (.int p3), .val (.int p4), .val (.int p5), .val (.int (1 : Int32)), .val (.int (((p4.toUInt32 >>> ((1 : Int32) &&& 31).toUInt32).toInt32).toInt8.toInt32)), .unset, .unset, .unset, .unset] [(.int (6 : Int32))])) rfl (hb hby lw_d15) (n := (6 : Int32)) rfl (by decide) (cap := 6) (by decide) (by decide) (by decide) (by decide)
    obtain ⟨o15, g84⟩ : ∃ z, z = h0.size := ⟨_, rfl⟩
    rw [← g84] at A84 st84
    have ge85 : n0 ≤ o15 := Nat.le_trans Z0 (Nat.le_of_eq g84.symm)
    have F86 : n0 ≤ h84.size := Nat.le_trans Z0 E84.1
    have F87 : own_Arf Z h84 o15 .byte 6 (fun i => (.int ((fun _ => (0 : Int32)) i))) := own_Arf.new A84 (by decide) (by decide)
    refine own_st st84 ?_
    show own_Dn p e below s _ _ _ (T84.setTop (mkF m 17 #[.val (.int p0), .val (.int p1), .val (.int p2), .val (.int p3), .val (.int p4), .val (.int p5), .val (.int (1 : Int32)), .val (.int (((p4.toUInt32 >>> ((1 : Int32) &&& 31).toUInt32).toInt32).toInt8.toInt32)), .unset, .unset, .unset, .unset] [(.ref o15)]))
    refine own_st (fun _ k => XS.astore X84.here hx rfl (hb hby lw_d17) rfl rfl (l' := #[.val (.int p0), .val (.int p1), .val (.int p2), .val (.int p3), .val (.int p4), .val (.int p5), .val (.int (1 : Int32)), .val (.int (((p4.toUInt32 >>> ((1 : Int32) &&& 31).toUInt32).toInt32).toInt8.toInt32)), .val (.ref o15), .unset, .unset, .unset]) rfl (XS.aload X84.here hx rfl (hb hby lw_d19) rfl rfl (XS.iconst X84.here hx rfl (hb hby lw_d21) (XS.iload X84.here hx rfl (hb hby lw_d22) rfl k)))) ?_
    show own_Dn p e below s _ _ _ (T84.setTop (mkF m 24 #[.val (.int p0), .val (.int p1), .val (.int p2), .val (.int p3), .val (.int p4), .val (.int p5), .val (.int (1 : Int32)), .val (.int (((p4.toUInt32 >>> ((1 : Int32) &&& 31).toUInt32).toInt32).toInt8.toInt32)), .val (.ref o15), .unset, .unset, .unset] [(.int (((p4.toUInt32 >>> ((1 : Int32) &&& 31).toUInt32).toInt32).toInt8.toInt32)), (.int (0 : Int32)), (.ref o15)]))
    obtain ⟨T88, h88, X88, e88, W88, F88a, st88⟩ := own_stB (pc := 24) (L := #[.val (.int p0), .val (.int p1), .val (.int p2), .val (.int p3), .val (.int p4), .val (.int p5), .val (.int (1 : Int32)), .val (.int (((p4.toUInt32 >>> ((1 : Int32) &&& 31).toUInt32).toInt32).toInt8.toInt32)), .val (.ref o15), .unset, .unset, .unset]) (rest := []) X84 hx hZ e84 F87 (j := (0 : Int32)) (x := (((p4.toUInt32 >>> ((1 : Int32) &&& 31).toUInt32).toInt32).toInt8.toInt32)) (by decide) (by decide) (hb hby lw_d24)
    have N88 := Fr.snoc X88 N0 ge85
    have F89 : n0 ≤ h88.size := Nat.le_trans F86 (Keep.of_wr W88).1
    refine own_st st88 ?_
    show own_Dn p e below s _ _ _ (T88.setTop (mkF m 25 #[.val (.int p0), .val (.int p1), .val (.int p2), .val (.int p3), .val (.int p4), .val (.int p5), .val (.int (1 : Int32)), .val (.int (((p4.toUInt32 >>> ((1 : Int32) &&& 31).toUInt32).toInt32).toInt8.toInt32)), .val (.ref o15), .unset, .unset, .unset] []))
    refine own_st (fun _ k => XS.aload X88.here hx rfl (hb hby lw_d25) rfl rfl (XS.iconst X88.here hx rfl (hb hby lw_d27) (XS.iload X88.here hx rfl (hb hby lw_d28) rfl k))) ?_
    show own_Dn p e below s _ _ _ (T88.setTop (mkF m 30 #[.val (.int p0), .val (.int p1), .val (.int p2), .val (.int p3), .val (.int p4), .val (.int p5), .val (.int (1 : Int32)), .val (.int (((p4.toUInt32 >>> ((1 : Int32) &&& 31).toUInt32).toInt32).toInt8.toInt32)), .val (.ref o15), .unset, .unset, .unset] [(.int (((p4.toUInt32 >>> ((1 : Int32) &&& 31).toUInt32).toInt32).toInt8.toInt32)), (.int (1 : Int32)), (.ref o15)]))
    obtain ⟨T90, h90, X90, e90, W90, F90a, st90⟩ := own_stB (pc := 30) (L := #[.val (.int p0), .val (.int p1), .val (.int p2), .val (.int p3), .val (.int p4), .val (.int p5), .val (.int (1 : Int32)), .val (.int (((p4.toUInt32 >>> ((1 : Int32) &&& 31).toUInt32).toInt32).toInt8.toInt32)), .val (.ref o15), .unset, .unset, .unset]) (rest := []) X88 hx hZ e88 F88a (j := (1 : Int32)) (x := (((p4.toUInt32 >>> ((1 : Int32) &&& 31).toUInt32).toInt32).toInt8.toInt32)) (by decide) (by decide) (hb hby lw_d30)
    have N90 := Fr.snoc X90 N88 ge85
    have F91 : n0 ≤ h90.size := Nat.le_trans F89 (Keep.of_wr W90).1
    refine own_st st90 ?_
    show own_Dn p e below s _ _ _ (T90.setTop (mkF m 31 #[.val (.int p0), .val (.int p1), .val (.int p2), .val (.int p3), .val (.int p4), .val (.int p5), .val (.int (1 : Int32)), .val (.int (((p4.toUInt32 >>> ((1 : Int32) &&& 31).toUInt32).toInt32).toInt8.toInt32)), .val (.ref o15), .unset, .unset, .unset] []))
    refine own_st (fun _ k => XS.aload X90.here hx rfl (hb hby lw_d31) rfl rfl (XS.iconst X90.here hx rfl (hb hby lw_d33) (XS.iload X90.here hx rfl (hb hby lw_d34) rfl k))) ?_
    show own_Dn p e below s _ _ _ (T90.setTop (mkF m 36 #[.val (.int p0), .val (.int p1), .val (.int p2), .val (.int p3), .val (.int p4), .val (.int p5), .val (.int (1 : Int32)), .val (.int (((p4.toUInt32 >>> ((1 : Int32) &&& 31).toUInt32).toInt32).toInt8.toInt32)), .val (.ref o15), .unset, .unset, .unset] [(.int (((p4.toUInt32 >>> ((1 : Int32) &&& 31).toUInt32).toInt32).toInt8.toInt32)), (.int (2 : Int32)), (.ref o15)]))
    obtain ⟨T92, h92, X92, e92, W92, F92a, st92⟩ := own_stB (pc := 36) (L := #[.val (.int p0), .val (.int p1), .val (.int p2), .val (.int p3), .val (.int p4), .val (.int p5), .val (.int (1 : Int32)), .val (.int (((p4.toUInt32 >>> ((1 : Int32) &&& 31).toUInt32).toInt32).toInt8.toInt32)), .val (.ref o15), .unset, .unset, .unset]) (rest := []) X90 hx hZ e90 F90a (j := (2 : Int32)) (x := (((p4.toUInt32 >>> ((1 : Int32) &&& 31).toUInt32).toInt32).toInt8.toInt32)) (by decide) (by decide) (hb hby lw_d36)
    have N92 := Fr.snoc X92 N90 ge85
    have F93 : n0 ≤ h92.size := Nat.le_trans F91 (Keep.of_wr W92).1
    refine own_st st92 ?_
    show own_Dn p e below s _ _ _ (T92.setTop (mkF m 37 #[.val (.int p0), .val (.int p1), .val (.int p2), .val (.int p3), .val (.int p4), .val (.int p5), .val (.int (1 : Int32)), .val (.int (((p4.toUInt32 >>> ((1 : Int32) &&& 31).toUInt32).toInt32).toInt8.toInt32)), .val (.ref o15), .unset, .unset, .unset] []))
    refine own_st (fun _ k => XS.aload X92.here hx rfl (hb hby lw_d37) rfl rfl (XS.iconst X92.here hx rfl (hb hby lw_d39) (XS.iload X92.here hx rfl (hb hby lw_d40) rfl k))) ?_
    show own_Dn p e below s _ _ _ (T92.setTop (mkF m 42 #[.val (.int p0), .val (.int p1), .val (.int p2), .val (.int p3), .val (.int p4), .val (.int p5), .val (.int (1 : Int32)), .val (.int (((p4.toUInt32 >>> ((1 : Int32) &&& 31).toUInt32).toInt32).toInt8.toInt32)), .val (.ref o15), .unset, .unset, .unset] [(.int (((p4.toUInt32 >>> ((1 : Int32) &&& 31).toUInt32).toInt32).toInt8.toInt32)), (.int (3 : Int32)), (.ref o15)]))
    obtain ⟨T94, h94, X94, e94, W94, F94a, st94⟩ := own_stB (pc := 42) (L := #[.val (.int p0), .val (.int p1), .val (.int p2), .val (.int p3), .val (.int p4), .val (.int p5), .val (.int (1 : Int32)), .val (.int (((p4.toUInt32 >>> ((1 : Int32) &&& 31).toUInt32).toInt32).toInt8.toInt32)), .val (.ref o15), .unset, .unset, .unset]) (rest := []) X92 hx hZ e92 F92a (j := (3 : Int32)) (x := (((p4.toUInt32 >>> ((1 : Int32) &&& 31).toUInt32).toInt32).toInt8.toInt32)) (by decide) (by decide) (hb hby lw_d42)
    have N94 := Fr.snoc X94 N92 ge85
    have F95 : n0 ≤ h94.size := Nat.le_trans F93 (Keep.of_wr W94).1
    refine own_st st94 ?_
    show own_Dn p e below s _ _ _ (T94.setTop (mkF m 43 #[.val (.int p0), .val (.int p1), .val (.int p2), .val (.int p3), .val (.int p4), .val (.int p5), .val (.int (1 : Int32)), .val (.int (((p4.toUInt32 >>> ((1 : Int32) &&& 31).toUInt32).toInt32).toInt8.toInt32)), .val (.ref o15), .unset, .unset, .unset] []))
    refine own_st (fun _ k => XS.aload X94.here hx rfl (hb hby lw_d43) rfl rfl (XS.iconst X94.here hx rfl (hb hby lw_d45) (XS.iload X94.here hx rfl (hb hby lw_d46) rfl k))) ?_
    show own_Dn p e below s _ _ _ (T94.setTop (mkF m 48 #[.val (.int p0), .val (.int p1), .val (.int p2), .val (.int p3), .val (.int p4), .val (.int p5), .val (.int (1 : Int32)), .val (.int (((p4.toUInt32 >>> ((1 : Int32) &&& 31).toUInt32).toInt32).toInt8.toInt32)), .val (.ref o15), .unset, .unset, .unset] [(.int (((p4.toUInt32 >>> ((1 : Int32) &&& 31).toUInt32).toInt32).toInt8.toInt32)), (.int (4 : Int32)), (.ref o15)]))
    obtain ⟨T96, h96, X96, e96, W96, F96a, st96⟩ := own_stB (pc := 48) (L := #[.val (.int p0), .val (.int p1), .val (.int p2), .val (.int p3), .val (.int p4), .val (.int p5), .val (.int (1 : Int32)), .val (.int (((p4.toUInt32 >>> ((1 : Int32) &&& 31).toUInt32).toInt32).toInt8.toInt32)), .val (.ref o15), .unset, .unset, .unset]) (rest := []) X94 hx hZ e94 F94a (j := (4 : Int32)) (x := (((p4.toUInt32 >>> ((1 : Int32) &&& 31).toUInt32).toInt32).toInt8.toInt32)) (by decide) (by decide) (hb hby lw_d48)
    have N96 := Fr.snoc X96 N94 ge85
    have F97 : n0 ≤ h96.size := Nat.le_trans F95 (Keep.of_wr W96).1
    refine own_st st96 ?_
    show own_Dn p e below s _ _ _ (T96.setTop (mkF m 49 #[.val (.int p0), .val (.int p1), .val (.int p2), .val (.int p3), .val (.int p4), .val (.int p5), .val (.int (1 : Int32)), .val (.int (((p4.toUInt32 >>> ((1 : Int32) &&& 31).toUInt32).toInt32).toInt8.toInt32)), .val (.ref o15), .unset, .unset, .unset] []))
    refine own_st (fun _ k => XS.aload X96.here hx rfl (hb hby lw_d49) rfl rfl (XS.iconst X96.here hx rfl (hb hby lw_d51) (XS.iload X96.here hx rfl (hb hby lw_d52) rfl k))) ?_
    show own_Dn p e below s _ _ _ (T96.setTop (mkF m 54 #[.val (.int p0), .val (.int p1), .val (.int p2), .val (.int p3), .val (.int p4), .val (.int p5), .val (.int (1 : Int32)), .val (.int (((p4.toUInt32 >>> ((1 : Int32) &&& 31).toUInt32).toInt32).toInt8.toInt32)), .val (.ref o15), .unset, .unset, .unset] [(.int (((p4.toUInt32 >>> ((1 : Int32) &&& 31).toUInt32).toInt32).toInt8.toInt32)), (.int (5 : Int32)), (.ref o15)]))
    obtain ⟨T98, h98, X98, e98, W98, F98a, st98⟩ := own_stB (pc := 54) (L := #[.val (.int p0), .val (.int p1), .val (.int p2), .val (.int p3), .val (.int p4), .val (.int p5), .val (.int (1 : Int32)), .val (.int (((p4.toUInt32 >>> ((1 : Int32) &&& 31).toUInt32).toInt32).toInt8.toInt32)), .val (.ref o15), .unset, .unset, .unset]) (rest := []) X96 hx hZ e96 F96a (j := (5 : Int32)) (x := (((p4.toUInt32 >>> ((1 : Int32) &&& 31).toUInt32).toInt32).toInt8.toInt32)) (by decide) (by decide) (hb hby lw_d54)
    have N98 := Fr.snoc X98 N96 ge85
    have F99 : n0 ≤ h98.size := Nat.le_trans F97 (Keep.of_wr W98).1
    refine own_st st98 ?_
    show own_Dn p e below s _ _ _ (T98.setTop (mkF m 55 #[.val (.int p0), .val (.int p1), .val (.int p2), .val (.int p3), .val (.int p4), .val (.int p5), .val (.int (1 : Int32)), .val (.int (((p4.toUInt32 >>> ((1 : Int32) &&& 31).toUInt32).toInt32).toInt8.toInt32)), .val (.ref o15), .unset, .unset, .unset] []))
    refine own_st (fun _ k => XS.aload X98.here hx rfl (hb hby lw_d55) rfl rfl (XS.iload X98.here hx rfl (hb hby lw_d57) rfl (XS.iloadN X98.here hx rfl (hb hby lw_d59) rfl (XS.i2b X98.here hx rfl (hb hby lw_d60) rfl k)))) ?_
    show own_Dn p e below s _ _ _ (T98.setTop (mkF m 61 #[.val (.int p0), .val (.int p1), .val (.int p2), .val (.int p3), .val (.int p4), .val (.int p5), .val (.int (1 : Int32)), .val (.int (((p4.toUInt32 >>> ((1 : Int32) &&& 31).toUInt32).toInt32).toInt8.toInt32)), .val (.ref o15), .unset, .unset, .unset] [(.int (p0.toInt8.toInt32)), (.int (1 : Int32)), (.ref o15)]))
    obtain ⟨T100, h100, X100, e100, W100, F100a, st100⟩ := own_stB (pc := 61) (L := #[.val (.int p0), .val (.int p1), .val (.int p2), .val (.int p3), .val (.int p4), .val (.int p5), .val (.int (1 : Int32)), .val (.int (((p4.toUInt32 >>> ((1 : Int32) &&& 31).toUInt32).toInt32).toInt8.toInt32)), .val (.ref o15), .unset, .unset, .unset]) (rest := []) X98 hx hZ e98 F98a (j := (1 : Int32)) (x := (p0.toInt8.toInt32)) (by decide) (by decide) (hb hby lw_d61)
    have N100 := Fr.snoc X100 N98 ge85
    have F101 : n0 ≤ h100.size := Nat.le_trans F99 (Keep.of_wr W100).1
    refine own_st st100 ?_
    show own_Dn p e below s _ _ _ (T100.setTop (mkF m 62 #[.val (.int p0), .val (.int p1), .val (.int p2), .val (.int p3), .val (.int p4), .val (.int p5), .val (.int (1 : Int32)), .val (.int (((p4.toUInt32 >>> ((1 : Int32) &&& 31).toUInt32).toInt32).toInt8.toInt32)), .val (.ref o15), .unset, .unset, .unset] []))
    refine own_st (fun _ k => XS.aload X100.here hx rfl (hb hby lw_d62) rfl rfl (XS.iload X100.here hx rfl (hb hby lw_d64) rfl (XS.iconst X100.here hx rfl (hb hby lw_d66) (XS.iadd X100.here hx rfl (hb hby lw_d67) rfl (XS.iloadN X100.here hx rfl (hb hby lw_d68) rfl (XS.i2b X100.here hx rfl (hb hby lw_d69) rfl k)))))) ?_
    show own_Dn p e below s _ _ _ (T100.setTop (mkF m 70 #[.val (.int p0), .val (.int p1), .val (.int p2), .val (.int p3), .val (.int p4), .val (.int p5), .val (.int (1 : Int32)), .val (.int (((p4.toUInt32 >>> ((1 : Int32) &&& 31).toUInt32).toInt32).toInt8.toInt32)), .val (.ref o15), .unset, .unset, .unset] [(.int (p1.toInt8.toInt32)), (.int (2 : Int32)), (.ref o15)]))
    obtain ⟨T102, h102, X102, e102, W102, F102a, st102⟩ := own_stB (pc := 70) (L := #[.val (.int p0), .val (.int p1), .val (.int p2), .val (.int p3), .val (.int p4), .val (.int p5), .val (.int (1 : Int32)), .val (.int (((p4.toUInt32 >>> ((1 : Int32) &&& 31).toUInt32).toInt32).toInt8.toInt32)), .val (.ref o15), .unset, .unset, .unset]) (rest := []) X100 hx hZ e100 F100a (j := (2 : Int32)) (x := (p1.toInt8.toInt32)) (by decide) (by decide) (hb hby lw_d70)
    have N102 := Fr.snoc X102 N100 ge85
    have F103 : n0 ≤ h102.size := Nat.le_trans F101 (Keep.of_wr W102).1
    refine own_st st102 ?_
    show own_Dn p e below s _ _ _ (T102.setTop (mkF m 71 #[.val (.int p0), .val (.int p1), .val (.int p2), .val (.int p3), .val (.int p4), .val (.int p5), .val (.int (1 : Int32)), .val (.int (((p4.toUInt32 >>> ((1 : Int32) &&& 31).toUInt32).toInt32).toInt8.toInt32)), .val (.ref o15), .unset, .unset, .unset] []))
    refine own_st (fun _ k => XS.aload X102.here hx rfl (hb hby lw_d71) rfl rfl (XS.iload X102.here hx rfl (hb hby lw_d73) rfl (XS.iconst X102.here hx rfl (hb hby lw_d75) (XS.iadd X102.here hx rfl (hb hby lw_d76) rfl (XS.iloadN X102.here hx rfl (hb hby lw_d77) rfl (XS.i2b X102.here hx rfl (hb hby lw_d78) rfl k)))))) ?_
    show own_Dn p e below s _ _ _ (T102.setTop (mkF m 79 #[.val (.int p0), .val (.int p1), .val (.int p2), .val (.int p3), .val (.int p4), .val (.int p5), .val (.int (1 : Int32)), .val (.int (((p4.toUInt32 >>> ((1 : Int32) &&& 31).toUInt32).toInt32).toInt8.toInt32)), .val (.ref o15), .unset, .unset, .unset] [(.int (p2.toInt8.toInt32)), (.int (3 : Int32)), (.ref o15)]))
    obtain ⟨T104, h104, X104, e104, W104, F104a, st104⟩ := own_stB (pc := 79) (L := #[.val (.int p0), .val (.int p1), .val (.int p2), .val (.int p3), .val (.int p4), .val (.int p5), .val (.int (1 : Int32)), .val (.int (((p4.toUInt32 >>> ((1 : Int32) &&& 31).toUInt32).toInt32).toInt8.toInt32)), .val (.ref o15), .unset, .unset, .unset]) (rest := []) X102 hx hZ e102 F102a (j := (3 : Int32)) (x := (p2.toInt8.toInt32)) (by decide) (by decide) (hb hby lw_d79)
    have N104 := Fr.snoc X104 N102 ge85
    have F105 : n0 ≤ h104.size := Nat.le_trans F103 (Keep.of_wr W104).1
    refine own_st st104 ?_
    show own_Dn p e below s _ _ _ (T104.setTop (mkF m 80 #[.val (.int p0), .val (.int p1), .val (.int p2), .val (.int p3), .val (.int p4), .val (.int p5), .val (.int (1 : Int32)), .val (.int (((p4.toUInt32 >>> ((1 : Int32) &&& 31).toUInt32).toInt32).toInt8.toInt32)), .val (.ref o15), .unset, .unset, .unset] []))
    refine own_st (fun _ k => XS.aload X104.here hx rfl (hb hby lw_d80) rfl rfl (XS.iload X104.here hx rfl (hb hby lw_d82) rfl (XS.iconst X104.here hx rfl (hb hby lw_d84) (XS.iadd X104.here hx rfl (hb hby lw_d85) rfl (XS.iloadN X104.here hx rfl (hb hby lw_d86) rfl (XS.i2b X104.here hx rfl (hb hby lw_d87) rfl k)))))) ?_
    show own_Dn p e below s _ _ _ (T104.setTop (mkF m 88 #[.val (.int p0), .val (.int p1), .val (.int p2), .val (.int p3), .val (.int p4), .val (.int p5), .val (.int (1 : Int32)), .val (.int (((p4.toUInt32 >>> ((1 : Int32) &&& 31).toUInt32).toInt32).toInt8.toInt32)), .val (.ref o15), .unset, .unset, .unset] [(.int (p3.toInt8.toInt32)), (.int (4 : Int32)), (.ref o15)]))
    obtain ⟨T106, h106, X106, e106, W106, F106a, st106⟩ := own_stB (pc := 88) (L := #[.val (.int p0), .val (.int p1), .val (.int p2), .val (.int p3), .val (.int p4), .val (.int p5), .val (.int (1 : Int32)), .val (.int (((p4.toUInt32 >>> ((1 : Int32) &&& 31).toUInt32).toInt32).toInt8.toInt32)), .val (.ref o15), .unset, .unset, .unset]) (rest := []) X104 hx hZ e104 F104a (j := (4 : Int32)) (x := (p3.toInt8.toInt32)) (by decide) (by decide) (hb hby lw_d88)
    have N106 := Fr.snoc X106 N104 ge85
    have F107 : n0 ≤ h106.size := Nat.le_trans F105 (Keep.of_wr W106).1
    refine own_st st106 ?_
    show own_Dn p e below s _ _ _ (T106.setTop (mkF m 89 #[.val (.int p0), .val (.int p1), .val (.int p2), .val (.int p3), .val (.int p4), .val (.int p5), .val (.int (1 : Int32)), .val (.int (((p4.toUInt32 >>> ((1 : Int32) &&& 31).toUInt32).toInt32).toInt8.toInt32)), .val (.ref o15), .unset, .unset, .unset] []))
    refine own_st (fun _ k => XS.iconst X106.here hx rfl (hb hby lw_d89) (XS.iload X106.here hx rfl (hb hby lw_d90) rfl (X106.ldcInt hx (index := 7) (v := (2147483647 : Int32)) hown (mvT hZ (hw _ (List.mem_of_getElem? (i := 1) rfl))) (g := (mkF m 92 #[.val (.int p0), .val (.int p1), .val (.int p2), .val (.int p3), .val (.int p4), .val (.int p5), .val (.int (1 : Int32)), .val (.int (((p4.toUInt32 >>> ((1 : Int32) &&& 31).toUInt32).toInt32).toInt8.toInt32)), .val (.ref o15), .unset, .unset, .unset] [(.int p5), (.int (1 : Int32))])) rfl (hb hby lw_d92) _ (XS.iand X106.here hx rfl (hb hby lw_d94) rfl (XS.bipush X106.here hx rfl (hb hby lw_d95) (XS.iload X106.here hx rfl (hb hby lw_d97) rfl (XS.isub X106.here hx rfl (hb hby lw_d99) rfl (iremM X106 hx rfl (hb hby lw_d100) rfl (by decide) (XS.iadd X106.here hx rfl (hb hby lw_d101) rfl (XS.istore X106.here hx rfl (hb hby lw_d102) rfl (l' := #[.val (.int p0), .val (.int p1), .val (.int p2), .val (.int p3), .val (.int p4), .val (.int p5), .val (.int (1 : Int32)), .val (.int (((p4.toUInt32 >>> ((1 : Int32) &&& 31).toUInt32).toInt32).toInt8.toInt32)), .val (.ref o15), .val (.int ((1 : Int32) + ((p5 &&& (2147483647 : Int32)) % (5 : Int32)))), .unset, .unset]) rfl (XS.iload X106.here hx rfl (hb hby lw_d104) rfl (XS.iload X106.here hx rfl (hb hby lw_d106) rfl (XS.iadd X106.here hx rfl (hb hby lw_d108) rfl (XS.istore X106.here hx rfl (hb hby lw_d109) rfl (l' := #[.val (.int p0), .val (.int p1), .val (.int p2), .val (.int p3), .val (.int p4), .val (.int p5), .val (.int (1 : Int32)), .val (.int (((p4.toUInt32 >>> ((1 : Int32) &&& 31).toUInt32).toInt32).toInt8.toInt32)), .val (.ref o15), .val (.int ((1 : Int32) + ((p5 &&& (2147483647 : Int32)) % (5 : Int32)))), .val (.int ((1 : Int32) + ((1 : Int32) + ((p5 &&& (2147483647 : Int32)) % (5 : Int32))))), .unset]) rfl (XS.aload X106.here hx rfl (hb hby lw_d111) rfl rfl (XS.iload X106.here hx rfl (hb hby lw_d113) rfl (XS.iload X106.here hx rfl (hb hby lw_d115) rfl k))))))))))))))))) ?_
    show own_Dn p e below s _ _ _ (T106.setTop (mkF m 117 #[.val (.int p0), .val (.int p1), .val (.int p2), .val (.int p3), .val (.int p4), .val (.int p5), .val (.int (1 : Int32)), .val (.int (((p4.toUInt32 >>> ((1 : Int32) &&& 31).toUInt32).toInt32).toInt8.toInt32)), .val (.ref o15), .val (.int ((1 : Int32) + ((p5 &&& (2147483647 : Int32)) % (5 : Int32)))), .val (.int ((1 : Int32) + ((1 : Int32) + ((p5 &&& (2147483647 : Int32)) % (5 : Int32))))), .unset] [(.int ((1 : Int32) + ((1 : Int32) + ((p5 &&& (2147483647 : Int32)) % (5 : Int32))))), (.int (1 : Int32)), (.ref o15)]))
    obtain ⟨_, _, ⟨T108, L108, k108, n108⟩, -, X108, ⟨Lc108, hQ108, l108, y108, z108⟩, st108⟩ := Jvm.LawKit.callS X106 hx (y := (⟨"com/example/xylograph/xylograph/io/Utf8", "sequenceLength", "([BII)I"⟩ : MethodName)) hown (mvT hZ (hw _ (List.mem_of_getElem? (i := 2) rfl))) (mvT hZ (hw _ (List.mem_of_getElem? (i := 3) rfl))) (mvT hZ (hw _ (List.mem_of_getElem? (i := 4) rfl))) (mvT hZ (hw _ (List.mem_of_getElem? (i := 5) rfl))) (by decide) (backOf (W := 0) (sb_rm l Z a0 hw [] (o15) (((1 : Int32) + ((1 : Int32) + ((p5 &&& (2147483647 : Int32)) % (5 : Int32))))) ((own_upd (own_upd (own_upd (own_upd (own_upd (own_upd (own_upd (own_upd (own_upd (own_upd (fun _ => (0 : Int32)) ((0 : Int32)).toNatClampNeg (((p4.toUInt32 >>> ((1 : Int32) &&& 31).toUInt32).toInt32).toInt8.toInt32).toInt8.toInt32) ((1 : Int32)).toNatClampNeg (((p4.toUInt32 >>> ((1 : Int32) &&& 31).toUInt32).toInt32).toInt8.toInt32).toInt8.toInt32) ((2 : Int32)).toNatClampNeg (((p4.toUInt32 >>> ((1 : Int32) &&& 31).toUInt32).toInt32).toInt8.toInt32).toInt8.toInt32) ((3 : Int32)).toNatClampNeg (((p4.toUInt32 >>> ((1 : Int32) &&& 31).toUInt32).toInt32).toInt8.toInt32).toInt8.toInt32) ((4 : Int32)).toNatClampNeg (((p4.toUInt32 >>> ((1 : Int32) &&& 31).toUInt32).toInt32).toInt8.toInt32).toInt8.toInt32) ((5 : Int32)).toNatClampNeg (((p4.toUInt32 >>> ((1 : Int32) &&& 31).toUInt32).toInt32).toInt8.toInt32).toInt8.toInt32) ((1 : Int32)).toNatClampNeg (p0.toInt8.toInt32).toInt8.toInt32) ((2 : Int32)).toNatClampNeg (p1.toInt8.toInt32).toInt8.toInt32) ((3 : Int32)).toNatClampNeg (p2.toInt8.toInt32).toInt8.toInt32) ((4 : Int32)).toNatClampNeg (p3.toInt8.toInt32).toInt8.toInt32)) h106 n0 F107 F106a) hZ (hw _ (List.mem_of_getElem? (i := 5) rfl)) (hw _ (List.mem_of_getElem? (i := 4) rfl)) (by decide) (by decide)) (g := (mkF m 117 #[.val (.int p0), .val (.int p1), .val (.int p2), .val (.int p3), .val (.int p4), .val (.int p5), .val (.int (1 : Int32)), .val (.int (((p4.toUInt32 >>> ((1 : Int32) &&& 31).toUInt32).toInt32).toInt8.toInt32)), .val (.ref o15), .val (.int ((1 : Int32) + ((p5 &&& (2147483647 : Int32)) % (5 : Int32)))), .val (.int ((1 : Int32) + ((1 : Int32) + ((p5 &&& (2147483647 : Int32)) % (5 : Int32))))), .unset] [(.int ((1 : Int32) + ((1 : Int32) + ((p5 &&& (2147483647 : Int32)) % (5 : Int32))))), (.int (1 : Int32)), (.ref o15)])) rfl (by rw [hml]; rfl) (argsL := [(.ref o15), (.int (1 : Int32)), (.int ((1 : Int32) + ((1 : Int32) + ((p5 &&& (2147483647 : Int32)) % (5 : Int32)))))]) (rest := []) (lenOf own_pd4 rfl) rfl (by show 2 * 0 + _ ≤ _; exact Nat.le_of_eq rfl) (hb hby lw_d117) (fun _ _ => ⟨rfl, e106, (by decide : 1 + 0 ≤ _), (by decide : 6 + 0 ≤ _)⟩)
    dsimp only [Pt.U, Pt.locs, Pt.cells, Pt.slots] at X108 l108 y108 z108 st108 hQ108
    subst l108 y108 z108
    obtain ⟨rfl, N108q, e108⟩ := hQ108
    have N108 := Fr.app N106 N108q
    refine own_st st108 ?_
    show own_Dn p e below s _ _ _ (T108.setTop (mkF m 120 #[.val (.int p0), .val (.int p1), .val (.int p2), .val (.int p3), .val (.int p4), .val (.int p5), .val (.int (1 : Int32)), .val (.int (((p4.toUInt32 >>> ((1 : Int32) &&& 31).toUInt32).toInt32).toInt8.toInt32)), .val (.ref o15), .val (.int ((1 : Int32) + ((p5 &&& (2147483647 : Int32)) % (5 : Int32)))), .val (.int ((1 : Int32) + ((1 : Int32) + ((p5 &&& (2147483647 : Int32)) % (5 : Int32))))), .unset] [(.int (sb_f ((1 : Int32) + ((1 : Int32) + ((p5 &&& (2147483647 : Int32)) % (5 : Int32)))) (own_upd (own_upd (own_upd (own_upd (own_upd (own_upd (own_upd (own_upd (own_upd (own_upd (fun _ => (0 : Int32)) ((0 : Int32)).toNatClampNeg (((p4.toUInt32 >>> ((1 : Int32) &&& 31).toUInt32).toInt32).toInt8.toInt32).toInt8.toInt32) ((1 : Int32)).toNatClampNeg (((p4.toUInt32 >>> ((1 : Int32) &&& 31).toUInt32).toInt32).toInt8.toInt32).toInt8.toInt32) ((2 : Int32)).toNatClampNeg (((p4.toUInt32 >>> ((1 : Int32) &&& 31).toUInt32).toInt32).toInt8.toInt32).toInt8.toInt32) ((3 : Int32)).toNatClampNeg (((p4.toUInt32 >>> ((1 : Int32) &&& 31).toUInt32).toInt32).toInt8.toInt32).toInt8.toInt32) ((4 : Int32)).toNatClampNeg (((p4.toUInt32 >>> ((1 : Int32) &&& 31).toUInt32).toInt32).toInt8.toInt32).toInt8.toInt32) ((5 : Int32)).toNatClampNeg (((p4.toUInt32 >>> ((1 : Int32) &&& 31).toUInt32).toInt32).toInt8.toInt32).toInt8.toInt32) ((1 : Int32)).toNatClampNeg (p0.toInt8.toInt32).toInt8.toInt32) ((2 : Int32)).toNatClampNeg (p1.toInt8.toInt32).toInt8.toInt32) ((3 : Int32)).toNatClampNeg (p2.toInt8.toInt32).toInt8.toInt32) ((4 : Int32)).toNatClampNeg (p3.toInt8.toInt32).toInt8.toInt32)))]))
    refine own_st (fun _ k => XS.istore X108.here hx rfl (hb hby lw_d120) rfl (l' := #[.val (.int p0), .val (.int p1), .val (.int p2), .val (.int p3), .val (.int p4), .val (.int p5), .val (.int (1 : Int32)), .val (.int (((p4.toUInt32 >>> ((1 : Int32) &&& 31).toUInt32).toInt32).toInt8.toInt32)), .val (.ref o15), .val (.int ((1 : Int32) + ((p5 &&& (2147483647 : Int32)) % (5 : Int32)))), .val (.int ((1 : Int32) + ((1 : Int32) + ((p5 &&& (2147483647 : Int32)) % (5 : Int32))))), .val (.int (sb_f ((1 : Int32) + ((1 : Int32) + ((p5 &&& (2147483647 : Int32)) % (5 : Int32)))) (own_upd (own_upd (own_upd (own_upd (own_upd (own_upd (own_upd (own_upd (own_upd (own_upd (fun _ => (0 : Int32)) ((0 : Int32)).toNatClampNeg (((p4.toUInt32 >>> ((1 : Int32) &&& 31).toUInt32).toInt32).toInt8.toInt32).toInt8.toInt32) ((1 : Int32)).toNatClampNeg (((p4.toUInt32 >>> ((1 : Int32) &&& 31).toUInt32).toInt32).toInt8.toInt32).toInt8.toInt32) ((2 : Int32)).toNatClampNeg (((p4.toUInt32 >>> ((1 : Int32) &&& 31).toUInt32).toInt32).toInt8.toInt32).toInt8.toInt32) ((3 : Int32)).toNatClampNeg (((p4.toUInt32 >>> ((1 : Int32) &&& 31).toUInt32).toInt32).toInt8.toInt32).toInt8.toInt32) ((4 : Int32)).toNatClampNeg (((p4.toUInt32 >>> ((1 : Int32) &&& 31).toUInt32).toInt32).toInt8.toInt32).toInt8.toInt32) ((5 : Int32)).toNatClampNeg (((p4.toUInt32 >>> ((1 : Int32) &&& 31).toUInt32).toInt32).toInt8.toInt32).toInt8.toInt32) ((1 : Int32)).toNatClampNeg (p0.toInt8.toInt32).toInt8.toInt32) ((2 : Int32)).toNatClampNeg (p1.toInt8.toInt32).toInt8.toInt32) ((3 : Int32)).toNatClampNeg (p2.toInt8.toInt32).toInt8.toInt32) ((4 : Int32)).toNatClampNeg (p3.toInt8.toInt32).toInt8.toInt32)))]) rfl (XS.iload X108.here hx rfl (hb hby lw_d122) rfl (XS.iloadN X108.here hx rfl (hb hby lw_d124) rfl (XS.sipush X108.here hx rfl (hb hby lw_d125) (XS.iand X108.here hx rfl (hb hby lw_d128) rfl (XS.iloadN X108.here hx rfl (hb hby lw_d129) rfl (XS.sipush X108.here hx rfl (hb hby lw_d130) (XS.iand X108.here hx rfl (hb hby lw_d133) rfl (XS.iloadN X108.here hx rfl (hb hby lw_d134) rfl (XS.sipush X108.here hx rfl (hb hby lw_d135) (XS.iand X108.here hx rfl (hb hby lw_d138) rfl (XS.iloadN X108.here hx rfl (hb hby lw_d139) rfl (XS.sipush X108.here hx rfl (hb hby lw_d140) (XS.iand X108.here hx rfl (hb hby lw_d143) rfl (XS.iload X108.here hx rfl (hb hby lw_d144) rfl k))))))))))))))) ?_
    show own_Dn p e below s _ _ _ (T108.setTop (mkF m 146 #[.val (.int p0), .val (.int p1), .val (.int p2), .val (.int p3), .val (.int p4), .val (.int p5), .val (.int (1 : Int32)), .val (.int (((p4.toUInt32 >>> ((1 : Int32) &&& 31).toUInt32).toInt32).toInt8.toInt32)), .val (.ref o15), .val (.int ((1 : Int32) + ((p5 &&& (2147483647 : Int32)) % (5 : Int32)))), .val (.int ((1 : Int32) + ((1 : Int32) + ((p5 &&& (2147483647 : Int32)) % (5 : Int32))))), .val (.int (sb_f ((1 : Int32) + ((1 : Int32) + ((p5 &&& (2147483647 : Int32)) % (5 : Int32)))) (own_upd (own_upd (own_upd (own_upd (own_upd (own_upd (own_upd (own_upd (own_upd (own_upd (fun _ => (0 : Int32)) ((0 : Int32)).toNatClampNeg (((p4.toUInt32 >>> ((1 : Int32) &&& 31).toUInt32).toInt32).toInt8.toInt32).toInt8.toInt32) ((1 : Int32)).toNatClampNeg (((p4.toUInt32 >>> ((1 : Int32) &&& 31).toUInt32).toInt32).toInt8.toInt32).toInt8.toInt32) ((2 : Int32)).toNatClampNeg (((p4.toUInt32 >>> ((1 : Int32) &&& 31).toUInt32).toInt32).toInt8.toInt32).toInt8.toInt32) ((3 : Int32)).toNatClampNeg (((p4.toUInt32 >>> ((1 : Int32) &&& 31).toUInt32).toInt32).toInt8.toInt32).toInt8.toInt32) ((4 : Int32)).toNatClampNeg (((p4.toUInt32 >>> ((1 : Int32) &&& 31).toUInt32).toInt32).toInt8.toInt32).toInt8.toInt32) ((5 : Int32)).toNatClampNeg (((p4.toUInt32 >>> ((1 : Int32) &&& 31).toUInt32).toInt32).toInt8.toInt32).toInt8.toInt32) ((1 : Int32)).toNatClampNeg (p0.toInt8.toInt32).toInt8.toInt32) ((2 : Int32)).toNatClampNeg (p1.toInt8.toInt32).toInt8.toInt32) ((3 : Int32)).toNatClampNeg (p2.toInt8.toInt32).toInt8.toInt32) ((4 : Int32)).toNatClampNeg (p3.toInt8.toInt32).toInt8.toInt32)))] [(.int ((1 : Int32) + ((p5 &&& (2147483647 : Int32)) % (5 : Int32)))), (.int (p3 &&& (255 : Int32))), (.int (p2 &&& (255 : Int32))), (.int (p1 &&& (255 : Int32))), (.int (p0 &&& (255 : Int32))), (.int (sb_f ((1 : Int32) + ((1 : Int32) + ((p5 &&& (2147483647 : Int32)) % (5 : Int32)))) (own_upd (own_upd (own_upd (own_upd (own_upd (own_upd (own_upd (own_upd (own_upd (own_upd (fun _ => (0 : Int32)) ((0 : Int32)).toNatClampNeg (((p4.toUInt32 >>> ((1 : Int32) &&& 31).toUInt32).toInt32).toInt8.toInt32).toInt8.toInt32) ((1 : Int32)).toNatClampNeg (((p4.toUInt32 >>> ((1 : Int32) &&& 31).toUInt32).toInt32).toInt8.toInt32).toInt8.toInt32) ((2 : Int32)).toNatClampNeg (((p4.toUInt32 >>> ((1 : Int32) &&& 31).toUInt32).toInt32).toInt8.toInt32).toInt8.toInt32) ((3 : Int32)).toNatClampNeg (((p4.toUInt32 >>> ((1 : Int32) &&& 31).toUInt32).toInt32).toInt8.toInt32).toInt8.toInt32) ((4 : Int32)).toNatClampNeg (((p4.toUInt32 >>> ((1 : Int32) &&& 31).toUInt32).toInt32).toInt8.toInt32).toInt8.toInt32) ((5 : Int32)).toNatClampNeg (((p4.toUInt32 >>> ((1 : Int32) &&& 31).toUInt32).toInt32).toInt8.toInt32).toInt8.toInt32) ((1 : Int32)).toNatClampNeg (p0.toInt8.toInt32).toInt8.toInt32) ((2 : Int32)).toNatClampNeg (p1.toInt8.toInt32).toInt8.toInt32) ((3 : Int32)).toNatClampNeg (p2.toInt8.toInt32).toInt8.toInt32) ((4 : Int32)).toNatClampNeg (p3.toInt8.toInt32).toInt8.toInt32)))]))
    obtain ⟨_, _, ⟨T109, L109, k109, n109⟩, -, X109, ⟨Lc109, hQ109, l109, y109, z109⟩, st109⟩ := Jvm.LawKit.callS X108 hx (y := (⟨"com/example/xylograph/xylograph/io/Utf8SequenceLengthPinLaw", "expected", "(IIIII)I"⟩ : MethodName)) hown (mvT hZ (hw _ (List.mem_of_getElem? (i := 6) rfl))) (mvT hZ (hw _ (List.mem_of_getElem? (i := 7) rfl))) (mvT hZ (hw _ (List.mem_of_getElem? (i := 8) rfl))) (mvT hZ (hw _ (List.mem_of_getElem? (i := 9) rfl))) (by decide) (backOf (W := 1) (ex_rm l Z a0 hw [] ((p0 &&& (255 : Int32))) ((p1 &&& (255 : Int32))) ((p2 &&& (255 : Int32))) ((p3 &&& (255 : Int32))) (((1 : Int32) + ((p5 &&& (2147483647 : Int32)) % (5 : Int32)))) h106 n0) hZ (hw _ (List.mem_of_getElem? (i := 9) rfl)) (hw _ (List.mem_of_getElem? (i := 8) rfl)) (by decide) (by decide)) (g := (mkF m 146 #[.val (.int p0), .val (.int p1), .val (.int p2), .val (.int p3), .val (.int p4), .val (.int p5), .val (.int (1 : Int32)), .val (.int (((p4.toUInt32 >>> ((1 : Int32) &&& 31).toUInt32).toInt32).toInt8.toInt32)), .val (.ref o15), .val (.int ((1 : Int32) + ((p5 &&& (2147483647 : Int32)) % (5 : Int32)))), .val (.int ((1 : Int32) + ((1 : Int32) + ((p5 &&& (2147483647 : Int32)) % (5 : Int32))))), .val (.int (sb_f ((1 : Int32) + ((1 : Int32) + ((p5 &&& (2147483647 : Int32)) % (5 : Int32)))) (own_upd (own_upd (own_upd (own_upd (own_upd (own_upd (own_upd (own_upd (own_upd (own_upd (fun _ => (0 : Int32)) ((0 : Int32)).toNatClampNeg (((p4.toUInt32 >>> ((1 : Int32) &&& 31).toUInt32).toInt32).toInt8.toInt32).toInt8.toInt32) ((1 : Int32)).toNatClampNeg (((p4.toUInt32 >>> ((1 : Int32) &&& 31).toUInt32).toInt32).toInt8.toInt32).toInt8.toInt32) ((2 : Int32)).toNatClampNeg (((p4.toUInt32 >>> ((1 : Int32) &&& 31).toUInt32).toInt32).toInt8.toInt32).toInt8.toInt32) ((3 : Int32)).toNatClampNeg (((p4.toUInt32 >>> ((1 : Int32) &&& 31).toUInt32).toInt32).toInt8.toInt32).toInt8.toInt32) ((4 : Int32)).toNatClampNeg (((p4.toUInt32 >>> ((1 : Int32) &&& 31).toUInt32).toInt32).toInt8.toInt32).toInt8.toInt32) ((5 : Int32)).toNatClampNeg (((p4.toUInt32 >>> ((1 : Int32) &&& 31).toUInt32).toInt32).toInt8.toInt32).toInt8.toInt32) ((1 : Int32)).toNatClampNeg (p0.toInt8.toInt32).toInt8.toInt32) ((2 : Int32)).toNatClampNeg (p1.toInt8.toInt32).toInt8.toInt32) ((3 : Int32)).toNatClampNeg (p2.toInt8.toInt32).toInt8.toInt32) ((4 : Int32)).toNatClampNeg (p3.toInt8.toInt32).toInt8.toInt32)))] [(.int ((1 : Int32) + ((p5 &&& (2147483647 : Int32)) % (5 : Int32)))), (.int (p3 &&& (255 : Int32))), (.int (p2 &&& (255 : Int32))), (.int (p1 &&& (255 : Int32))), (.int (p0 &&& (255 : Int32))), (.int (sb_f ((1 : Int32) + ((1 : Int32) + ((p5 &&& (2147483647 : Int32)) % (5 : Int32)))) (own_upd (own_upd (own_upd (own_upd (own_upd (own_upd (own_upd (own_upd (own_upd (own_upd (fun _ => (0 : Int32)) ((0 : Int32)).toNatClampNeg (((p4.toUInt32 >>> ((1 : Int32) &&& 31).toUInt32).toInt32).toInt8.toInt32).toInt8.toInt32) ((1 : Int32)).toNatClampNeg (((p4.toUInt32 >>> ((1 : Int32) &&& 31).toUInt32).toInt32).toInt8.toInt32).toInt8.toInt32) ((2 : Int32)).toNatClampNeg (((p4.toUInt32 >>> ((1 : Int32) &&& 31).toUInt32).toInt32).toInt8.toInt32).toInt8.toInt32) ((3 : Int32)).toNatClampNeg (((p4.toUInt32 >>> ((1 : Int32) &&& 31).toUInt32).toInt32).toInt8.toInt32).toInt8.toInt32) ((4 : Int32)).toNatClampNeg (((p4.toUInt32 >>> ((1 : Int32) &&& 31).toUInt32).toInt32).toInt8.toInt32).toInt8.toInt32) ((5 : Int32)).toNatClampNeg (((p4.toUInt32 >>> ((1 : Int32) &&& 31).toUInt32).toInt32).toInt8.toInt32).toInt8.toInt32) ((1 : Int32)).toNatClampNeg (p0.toInt8.toInt32).toInt8.toInt32) ((2 : Int32)).toNatClampNeg (p1.toInt8.toInt32).toInt8.toInt32) ((3 : Int32)).toNatClampNeg (p2.toInt8.toInt32).toInt8.toInt32) ((4 : Int32)).toNatClampNeg (p3.toInt8.toInt32).toInt8.toInt32)))])) rfl (by rw [hml]; rfl) (argsL := [(.int (p0 &&& (255 : Int32))), (.int (p1 &&& (255 : Int32))), (.int (p2 &&& (255 : Int32))), (.int (p3 &&& (255 : Int32))), (.int ((1 : Int32) + ((p5 &&& (2147483647 : Int32)) % (5 : Int32))))]) (rest := [(.int (sb_f ((1 : Int32) + ((1 : Int32) + ((p5 &&& (2147483647 : Int32)) % (5 : Int32)))) (own_upd (own_upd (own_upd (own_upd (own_upd (own_upd (own_upd (own_upd (own_upd (own_upd (fun _ => (0 : Int32)) ((0 : Int32)).toNatClampNeg (((p4.toUInt32 >>> ((1 : Int32) &&& 31).toUInt32).toInt32).toInt8.toInt32).toInt8.toInt32) ((1 : Int32)).toNatClampNeg (((p4.toUInt32 >>> ((1 : Int32) &&& 31).toUInt32).toInt32).toInt8.toInt32).toInt8.toInt32) ((2 : Int32)).toNatClampNeg (((p4.toUInt32 >>> ((1 : Int32) &&& 31).toUInt32).toInt32).toInt8.toInt32).toInt8.toInt32) ((3 : Int32)).toNatClampNeg (((p4.toUInt32 >>> ((1 : Int32) &&& 31).toUInt32).toInt32).toInt8.toInt32).toInt8.toInt32) ((4 : Int32)).toNatClampNeg (((p4.toUInt32 >>> ((1 : Int32) &&& 31).toUInt32).toInt32).toInt8.toInt32).toInt8.toInt32) ((5 : Int32)).toNatClampNeg (((p4.toUInt32 >>> ((1 : Int32) &&& 31).toUInt32).toInt32).toInt8.toInt32).toInt8.toInt32) ((1 : Int32)).toNatClampNeg (p0.toInt8.toInt32).toInt8.toInt32) ((2 : Int32)).toNatClampNeg (p1.toInt8.toInt32).toInt8.toInt32) ((3 : Int32)).toNatClampNeg (p2.toInt8.toInt32).toInt8.toInt32) ((4 : Int32)).toNatClampNeg (p3.toInt8.toInt32).toInt8.toInt32)))]) (lenOf own_pd3 rfl) rfl (by show 2 * 0 + _ ≤ _; exact Nat.le_of_eq rfl) (hb hby lw_d146) (fun _ _ => ⟨rfl, e108, (by decide : 1 + 0 ≤ _), (by decide : 6 + 0 ≤ _)⟩)
    dsimp only [Pt.U, Pt.locs, Pt.cells, Pt.slots] at X109 l109 y109 z109 st109 hQ109
    subst l109 y109 z109
    obtain ⟨rfl, N109q, e109⟩ := hQ109
    have N109 := Fr.app N108 N109q
    refine own_st st109 ?_
    show own_Dn p e below s _ _ _ (T109.setTop (mkF m 149 #[.val (.int p0), .val (.int p1), .val (.int p2), .val (.int p3), .val (.int p4), .val (.int p5), .val (.int (1 : Int32)), .val (.int (((p4.toUInt32 >>> ((1 : Int32) &&& 31).toUInt32).toInt32).toInt8.toInt32)), .val (.ref o15), .val (.int ((1 : Int32) + ((p5 &&& (2147483647 : Int32)) % (5 : Int32)))), .val (.int ((1 : Int32) + ((1 : Int32) + ((p5 &&& (2147483647 : Int32)) % (5 : Int32))))), .val (.int (sb_f ((1 : Int32) + ((1 : Int32) + ((p5 &&& (2147483647 : Int32)) % (5 : Int32)))) (own_upd (own_upd (own_upd (own_upd (own_upd (own_upd (own_upd (own_upd (own_upd (own_upd (fun _ => (0 : Int32)) ((0 : Int32)).toNatClampNeg (((p4.toUInt32 >>> ((1 : Int32) &&& 31).toUInt32).toInt32).toInt8.toInt32).toInt8.toInt32) ((1 : Int32)).toNatClampNeg (((p4.toUInt32 >>> ((1 : Int32) &&& 31).toUInt32).toInt32).toInt8.toInt32).toInt8.toInt32) ((2 : Int32)).toNatClampNeg (((p4.toUInt32 >>> ((1 : Int32) &&& 31).toUInt32).toInt32).toInt8.toInt32).toInt8.toInt32) ((3 : Int32)).toNatClampNeg (((p4.toUInt32 >>> ((1 : Int32) &&& 31).toUInt32).toInt32).toInt8.toInt32).toInt8.toInt32) ((4 : Int32)).toNatClampNeg (((p4.toUInt32 >>> ((1 : Int32) &&& 31).toUInt32).toInt32).toInt8.toInt32).toInt8.toInt32) ((5 : Int32)).toNatClampNeg (((p4.toUInt32 >>> ((1 : Int32) &&& 31).toUInt32).toInt32).toInt8.toInt32).toInt8.toInt32) ((1 : Int32)).toNatClampNeg (p0.toInt8.toInt32).toInt8.toInt32) ((2 : Int32)).toNatClampNeg (p1.toInt8.toInt32).toInt8.toInt32) ((3 : Int32)).toNatClampNeg (p2.toInt8.toInt32).toInt8.toInt32) ((4 : Int32)).toNatClampNeg (p3.toInt8.toInt32).toInt8.toInt32)))] [(.int (ex_f (p0 &&& (255 : Int32)) (p1 &&& (255 : Int32)) (p2 &&& (255 : Int32)) (p3 &&& (255 : Int32)) ((1 : Int32) + ((p5 &&& (2147483647 : Int32)) % (5 : Int32))))), (.int (sb_f ((1 : Int32) + ((1 : Int32) + ((p5 &&& (2147483647 : Int32)) % (5 : Int32)))) (own_upd (own_upd (own_upd (own_upd (own_upd (own_upd (own_upd (own_upd (own_upd (own_upd (fun _ => (0 : Int32)) ((0 : Int32)).toNatClampNeg (((p4.toUInt32 >>> ((1 : Int32) &&& 31).toUInt32).toInt32).toInt8.toInt32).toInt8.toInt32) ((1 : Int32)).toNatClampNeg (((p4.toUInt32 >>> ((1 : Int32) &&& 31).toUInt32).toInt32).toInt8.toInt32).toInt8.toInt32) ((2 : Int32)).toNatClampNeg (((p4.toUInt32 >>> ((1 : Int32) &&& 31).toUInt32).toInt32).toInt8.toInt32).toInt8.toInt32) ((3 : Int32)).toNatClampNeg (((p4.toUInt32 >>> ((1 : Int32) &&& 31).toUInt32).toInt32).toInt8.toInt32).toInt8.toInt32) ((4 : Int32)).toNatClampNeg (((p4.toUInt32 >>> ((1 : Int32) &&& 31).toUInt32).toInt32).toInt8.toInt32).toInt8.toInt32) ((5 : Int32)).toNatClampNeg (((p4.toUInt32 >>> ((1 : Int32) &&& 31).toUInt32).toInt32).toInt8.toInt32).toInt8.toInt32) ((1 : Int32)).toNatClampNeg (p0.toInt8.toInt32).toInt8.toInt32) ((2 : Int32)).toNatClampNeg (p1.toInt8.toInt32).toInt8.toInt32) ((3 : Int32)).toNatClampNeg (p2.toInt8.toInt32).toInt8.toInt32) ((4 : Int32)).toNatClampNeg (p3.toInt8.toInt32).toInt8.toInt32)))]))
    by_cases hc110 : (sb_f ((1 : Int32) + ((1 : Int32) + ((p5 &&& (2147483647 : Int32)) % (5 : Int32)))) (own_upd (own_upd (own_upd (own_upd (own_upd (own_upd (own_upd (own_upd (own_upd (own_upd (fun _ => (0 : Int32)) ((0 : Int32)).toNatClampNeg (((p4.toUInt32 >>> ((1 : Int32) &&& 31).toUInt32).toInt32).toInt8.toInt32).toInt8.toInt32) ((1 : Int32)).toNatClampNeg (((p4.toUInt32 >>> ((1 : Int32) &&& 31).toUInt32).toInt32).toInt8.toInt32).toInt8.toInt32) ((2 : Int32)).toNatClampNeg (((p4.toUInt32 >>> ((1 : Int32) &&& 31).toUInt32).toInt32).toInt8.toInt32).toInt8.toInt32) ((3 : Int32)).toNatClampNeg (((p4.toUInt32 >>> ((1 : Int32) &&& 31).toUInt32).toInt32).toInt8.toInt32).toInt8.toInt32) ((4 : Int32)).toNatClampNeg (((p4.toUInt32 >>> ((1 : Int32) &&& 31).toUInt32).toInt32).toInt8.toInt32).toInt8.toInt32) ((5 : Int32)).toNatClampNeg (((p4.toUInt32 >>> ((1 : Int32) &&& 31).toUInt32).toInt32).toInt8.toInt32).toInt8.toInt32) ((1 : Int32)).toNatClampNeg (p0.toInt8.toInt32).toInt8.toInt32) ((2 : Int32)).toNatClampNeg (p1.toInt8.toInt32).toInt8.toInt32) ((3 : Int32)).toNatClampNeg (p2.toInt8.toInt32).toInt8.toInt32) ((4 : Int32)).toNatClampNeg (p3.toInt8.toInt32).toInt8.toInt32)) = (ex_f (p0 &&& (255 : Int32)) (p1 &&& (255 : Int32)) (p2 &&& (255 : Int32)) (p3 &&& (255 : Int32)) ((1 : Int32) + ((p5 &&& (2147483647 : Int32)) % (5 : Int32))))
    · refine own_st (fun _ k => XS.icmpNo X109.here hx rfl (hb hby lw_d149) rfl (teq hc110).2 k) ?_
      show own_Dn p e below s _ _ _ (T109.setTop (mkF m 152 #[.val (.int p0), .val (.int p1), .val (.int p2), .val (.int p3), .val (.int p4), .val (.int p5), .val (.int (1 : Int32)), .val (.int (((p4.toUInt32 >>> ((1 : Int32) &&& 31).toUInt32).toInt32).toInt8.toInt32)), .val (.ref o15), .val (.int ((1 : Int32) + ((p5 &&& (2147483647 : Int32)) % (5 : Int32)))), .val (.int ((1 : Int32) + ((1 : Int32) + ((p5 &&& (2147483647 : Int32)) % (5 : Int32))))), .val (.int (sb_f ((1 : Int32) + ((1 : Int32) + ((p5 &&& (2147483647 : Int32)) % (5 : Int32)))) (own_upd (own_upd (own_upd (own_upd (own_upd (own_upd (own_upd (own_upd (own_upd (own_upd (fun _ => (0 : Int32)) ((0 : Int32)).toNatClampNeg (((p4.toUInt32 >>> ((1 : Int32) &&& 31).toUInt32).toInt32).toInt8.toInt32).toInt8.toInt32) ((1 : Int32)).toNatClampNeg (((p4.toUInt32 >>> ((1 : Int32) &&& 31).toUInt32).toInt32).toInt8.toInt32).toInt8.toInt32) ((2 : Int32)).toNatClampNeg (((p4.toUInt32 >>> ((1 : Int32) &&& 31).toUInt32).toInt32).toInt8.toInt32).toInt8.toInt32) ((3 : Int32)).toNatClampNeg (((p4.toUInt32 >>> ((1 : Int32) &&& 31).toUInt32).toInt32).toInt8.toInt32).toInt8.toInt32) ((4 : Int32)).toNatClampNeg (((p4.toUInt32 >>> ((1 : Int32) &&& 31).toUInt32).toInt32).toInt8.toInt32).toInt8.toInt32) ((5 : Int32)).toNatClampNeg (((p4.toUInt32 >>> ((1 : Int32) &&& 31).toUInt32).toInt32).toInt8.toInt32).toInt8.toInt32) ((1 : Int32)).toNatClampNeg (p0.toInt8.toInt32).toInt8.toInt32) ((2 : Int32)).toNatClampNeg (p1.toInt8.toInt32).toInt8.toInt32) ((3 : Int32)).toNatClampNeg (p2.toInt8.toInt32).toInt8.toInt32) ((4 : Int32)).toNatClampNeg (p3.toInt8.toInt32).toInt8.toInt32)))] []))
      refine own_st (fun _ k => XS.iconst X109.here hx rfl (hb hby lw_d152) (XS.goto X109.here hx rfl (pc0 := 153) (pc' := 157) rfl (hb hby lw_d153) (by decide) (by decide) k)) ?_
      show own_Dn p e below s _ _ _ (T109.setTop (mkF m 157 #[.val (.int p0), .val (.int p1), .val (.int p2), .val (.int p3), .val (.int p4), .val (.int p5), .val (.int (1 : Int32)), .val (.int (((p4.toUInt32 >>> ((1 : Int32) &&& 31).toUInt32).toInt32).toInt8.toInt32)), .val (.ref o15), .val (.int ((1 : Int32) + ((p5 &&& (2147483647 : Int32)) % (5 : Int32)))), .val (.int ((1 : Int32) + ((1 : Int32) + ((p5 &&& (2147483647 : Int32)) % (5 : Int32))))), .val (.int (sb_f ((1 : Int32) + ((1 : Int32) + ((p5 &&& (2147483647 : Int32)) % (5 : Int32)))) (own_upd (own_upd (own_upd (own_upd (own_upd (own_upd (own_upd (own_upd (own_upd (own_upd (fun _ => (0 : Int32)) ((0 : Int32)).toNatClampNeg (((p4.toUInt32 >>> ((1 : Int32) &&& 31).toUInt32).toInt32).toInt8.toInt32).toInt8.toInt32) ((1 : Int32)).toNatClampNeg (((p4.toUInt32 >>> ((1 : Int32) &&& 31).toUInt32).toInt32).toInt8.toInt32).toInt8.toInt32) ((2 : Int32)).toNatClampNeg (((p4.toUInt32 >>> ((1 : Int32) &&& 31).toUInt32).toInt32).toInt8.toInt32).toInt8.toInt32) ((3 : Int32)).toNatClampNeg (((p4.toUInt32 >>> ((1 : Int32) &&& 31).toUInt32).toInt32).toInt8.toInt32).toInt8.toInt32) ((4 : Int32)).toNatClampNeg (((p4.toUInt32 >>> ((1 : Int32) &&& 31).toUInt32).toInt32).toInt8.toInt32).toInt8.toInt32) ((5 : Int32)).toNatClampNeg (((p4.toUInt32 >>> ((1 : Int32) &&& 31).toUInt32).toInt32).toInt8.toInt32).toInt8.toInt32) ((1 : Int32)).toNatClampNeg (p0.toInt8.toInt32).toInt8.toInt32) ((2 : Int32)).toNatClampNeg (p1.toInt8.toInt32).toInt8.toInt32) ((3 : Int32)).toNatClampNeg (p2.toInt8.toInt32).toInt8.toInt32) ((4 : Int32)).toNatClampNeg (p3.toInt8.toInt32).toInt8.toInt32)))] [(.int (1 : Int32))]))
      exact own_retZ X109 hx hret hlk (by decide) (hb hby lw_d157) (by decide) (by decide) ⟨(by rw [hr0, lw_f, if_neg (by rw [hs56]; decide), if_pos hc110]), N109⟩
    · refine own_st (fun _ k => XS.icmpYes X109.here hx rfl (pc0 := 149) (pc' := 156) rfl (hb hby lw_d149) rfl (feq hc110).2 (by decide) (by decide) k) ?_
      show own_Dn p e below s _ _ _ (T109.setTop (mkF m 156 #[.val (.int p0), .val (.int p1), .val (.int p2), .val (.int p3), .val (.int p4), .val (.int p5), .val (.int (1 : Int32)), .val (.int (((p4.toUInt32 >>> ((1 : Int32) &&& 31).toUInt32).toInt32).toInt8.toInt32)), .val (.ref o15), .val (.int ((1 : Int32) + ((p5 &&& (2147483647 : Int32)) % (5 : Int32)))), .val (.int ((1 : Int32) + ((1 : Int32) + ((p5 &&& (2147483647 : Int32)) % (5 : Int32))))), .val (.int (sb_f ((1 : Int32) + ((1 : Int32) + ((p5 &&& (2147483647 : Int32)) % (5 : Int32)))) (own_upd (own_upd (own_upd (own_upd (own_upd (own_upd (own_upd (own_upd (own_upd (own_upd (fun _ => (0 : Int32)) ((0 : Int32)).toNatClampNeg (((p4.toUInt32 >>> ((1 : Int32) &&& 31).toUInt32).toInt32).toInt8.toInt32).toInt8.toInt32) ((1 : Int32)).toNatClampNeg (((p4.toUInt32 >>> ((1 : Int32) &&& 31).toUInt32).toInt32).toInt8.toInt32).toInt8.toInt32) ((2 : Int32)).toNatClampNeg (((p4.toUInt32 >>> ((1 : Int32) &&& 31).toUInt32).toInt32).toInt8.toInt32).toInt8.toInt32) ((3 : Int32)).toNatClampNeg (((p4.toUInt32 >>> ((1 : Int32) &&& 31).toUInt32).toInt32).toInt8.toInt32).toInt8.toInt32) ((4 : Int32)).toNatClampNeg (((p4.toUInt32 >>> ((1 : Int32) &&& 31).toUInt32).toInt32).toInt8.toInt32).toInt8.toInt32) ((5 : Int32)).toNatClampNeg (((p4.toUInt32 >>> ((1 : Int32) &&& 31).toUInt32).toInt32).toInt8.toInt32).toInt8.toInt32) ((1 : Int32)).toNatClampNeg (p0.toInt8.toInt32).toInt8.toInt32) ((2 : Int32)).toNatClampNeg (p1.toInt8.toInt32).toInt8.toInt32) ((3 : Int32)).toNatClampNeg (p2.toInt8.toInt32).toInt8.toInt32) ((4 : Int32)).toNatClampNeg (p3.toInt8.toInt32).toInt8.toInt32)))] []))
      refine own_st (fun _ k => XS.iconst X109.here hx rfl (hb hby lw_d156) k) ?_
      show own_Dn p e below s _ _ _ (T109.setTop (mkF m 157 #[.val (.int p0), .val (.int p1), .val (.int p2), .val (.int p3), .val (.int p4), .val (.int p5), .val (.int (1 : Int32)), .val (.int (((p4.toUInt32 >>> ((1 : Int32) &&& 31).toUInt32).toInt32).toInt8.toInt32)), .val (.ref o15), .val (.int ((1 : Int32) + ((p5 &&& (2147483647 : Int32)) % (5 : Int32)))), .val (.int ((1 : Int32) + ((1 : Int32) + ((p5 &&& (2147483647 : Int32)) % (5 : Int32))))), .val (.int (sb_f ((1 : Int32) + ((1 : Int32) + ((p5 &&& (2147483647 : Int32)) % (5 : Int32)))) (own_upd (own_upd (own_upd (own_upd (own_upd (own_upd (own_upd (own_upd (own_upd (own_upd (fun _ => (0 : Int32)) ((0 : Int32)).toNatClampNeg (((p4.toUInt32 >>> ((1 : Int32) &&& 31).toUInt32).toInt32).toInt8.toInt32).toInt8.toInt32) ((1 : Int32)).toNatClampNeg (((p4.toUInt32 >>> ((1 : Int32) &&& 31).toUInt32).toInt32).toInt8.toInt32).toInt8.toInt32) ((2 : Int32)).toNatClampNeg (((p4.toUInt32 >>> ((1 : Int32) &&& 31).toUInt32).toInt32).toInt8.toInt32).toInt8.toInt32) ((3 : Int32)).toNatClampNeg (((p4.toUInt32 >>> ((1 : Int32) &&& 31).toUInt32).toInt32).toInt8.toInt32).toInt8.toInt32) ((4 : Int32)).toNatClampNeg (((p4.toUInt32 >>> ((1 : Int32) &&& 31).toUInt32).toInt32).toInt8.toInt32).toInt8.toInt32) ((5 : Int32)).toNatClampNeg (((p4.toUInt32 >>> ((1 : Int32) &&& 31).toUInt32).toInt32).toInt8.toInt32).toInt8.toInt32) ((1 : Int32)).toNatClampNeg (p0.toInt8.toInt32).toInt8.toInt32) ((2 : Int32)).toNatClampNeg (p1.toInt8.toInt32).toInt8.toInt32) ((3 : Int32)).toNatClampNeg (p2.toInt8.toInt32).toInt8.toInt32) ((4 : Int32)).toNatClampNeg (p3.toInt8.toInt32).toInt8.toInt32)))] [(.int (0 : Int32))]))
      exact own_retZ X109 hx hret hlk (by decide) (hb hby lw_d157) (by decide) (by decide) ⟨(by rw [hr0, lw_f, if_neg (by rw [hs56]; decide), if_neg hc110]), N109⟩
theorem lw_ef (m : MethodId) (p0 : Int32) (p1 : Int32) (p2 : Int32) (p3 : Int32) (p4 : Int32) (p5 : Int32) : entryFrame m #[(.int p0), (.int p1), (.int p2), (.int p3), (.int p4), (.int p5)] maxLocals = mkF m 0 #[.val (.int p0), .val (.int p1), .val (.int p2), .val (.int p3), .val (.int p4), .val (.int p5), .unset, .unset, .unset, .unset, .unset, .unset] [] := by first | (simp [entryFrame, mkF, argsToLocals, Value.category, maxLocals]; done) | rfl
theorem lw_rm (l : Launch) (Z : State) (a0 : Array Value) (hw : ∀ d ∈ tables_1, d.before a0 Z = true) (ws : List Jvm.Cond) (p0 : Int32) (p1 : Int32) (p2 : Int32) (p3 : Int32) (p4 : Int32) (p5 : Int32) (h0 : Heap) (n0 : Nat) (Z0 : n0 ≤ h0.size) :
    MetFree l x (head1 (Jvm.Cond.code x code maxLocals ret :: ws) room_1) (fun a U => a = #[(.int p0), (.int p1), (.int p2), (.int p3), (.int p4), (.int p5)] ∧ Z.Warmed39 U.vm ∧ U.heap = h0) (fun _ _ _ _ _ => True) (fun _ U o U' => ∃ v L, o = .returned v ∧ (own_QL (some (.int (lw_f p0 p1 p2 p3 p4 p5))) n0) v U'.heap L ∧ FrameEnd U o U' L room_1.cells room_1.slots) :=
  own_met hw (plainFor_of_name (by first | (simp [plainName, overriddenIn]; done) | decide +kernel)) (fun p e s m below meth c T0 C0 X0 e0 => own_st (fun _ k => castTop (lw_ef m p0 p1 p2 p3 p4 p5) k) (lw_c0 C0 X0 e0 (Fr.nil n0) Z0  rfl))
set_option linter.unusedSimpArgs false
theorem own_byte (y : Int32) (h : 0 ≤ y.toInt ∧ y.toInt < 256) : ∃ n : Fin 256, y = Int32.ofNat n.1 ∧ y.toInt = (n.1 : Int) := by
  refine ⟨⟨y.toInt.toNat, by omega⟩, ?_, by simp only []; omega⟩
  apply Int32.toInt_inj.mp
  have e : (Int32.ofNat y.toInt.toNat).toInt = (y.toInt.toNat : Int) := len_toInt (by omega)
  rw [e]; omega
theorem own_c192 (x : Int32) : (x &&& (192 : Int32)) = (128 : Int32) ↔ (128 ≤ (x &&& (255 : Int32)).toInt ∧ (x &&& (255 : Int32)).toInt ≤ 191) := by
  have e : x &&& (192 : Int32) = (x &&& (255 : Int32)) &&& (192 : Int32) := by rw [Int32.and_assoc]; rfl
  have h := c_mask x 255 8 (by decide) (by decide)
  obtain ⟨n, h1, h2⟩ := own_byte (x &&& 255) (by omega)
  have k : ∀ n : Fin 256, ((Int32.ofNat n.1 &&& (192 : Int32)) = (128 : Int32)) ↔ (128 ≤ n.1 ∧ n.1 ≤ 191) := by decide +kernel
  rw [e, h2, h1, k]; omega
theorem own_m224 (y : Int32) (h : 0 ≤ y.toInt ∧ y.toInt < 256) : (y &&& (224 : Int32)) = (192 : Int32) ↔ (192 ≤ y.toInt ∧ y.toInt < 224) := by
  obtain ⟨n, h1, h2⟩ := own_byte y h
  have k : ∀ n : Fin 256, ((Int32.ofNat n.1 &&& (224 : Int32)) = (192 : Int32)) ↔ (192 ≤ n.1 ∧ n.1 < 224) := by decide +kernel
  rw [h2, h1, k]; omega
theorem own_m240 (y : Int32) (h : 0 ≤ y.toInt ∧ y.toInt < 256) : (y &&& (240 : Int32)) = (224 : Int32) ↔ (224 ≤ y.toInt ∧ y.toInt < 240) := by
  obtain ⟨n, h1, h2⟩ := own_byte y h
  have k : ∀ n : Fin 256, ((Int32.ofNat n.1 &&& (240 : Int32)) = (224 : Int32)) ↔ (224 ≤ n.1 ∧ n.1 < 240) := by decide +kernel
  rw [h2, h1, k]; omega
theorem own_m248 (y : Int32) (h : 0 ≤ y.toInt ∧ y.toInt < 256) : (y &&& (248 : Int32)) = (240 : Int32) ↔ (240 ≤ y.toInt ∧ y.toInt < 248) := by
  obtain ⟨n, h1, h2⟩ := own_byte y h
  have k : ∀ n : Fin 256, ((Int32.ofNat n.1 &&& (248 : Int32)) = (240 : Int32)) ↔ (240 ≤ n.1 ∧ n.1 < 248) := by decide +kernel
  rw [h2, h1, k]; omega
/-- what both sides answer, over plain numbers: the four bytes and how many there are -/
def own_sp (a b c d k : Int) : Int32 :=
  if a < 128 then 1 else if a < 194 then -1
  else if a < 224 then (if k ≤ 1 then 0 else if b < 128 ∨ 191 < b then -1 else 2)
  else if a < 240 then (if k ≤ 1 then 0 else if b < 128 ∨ 191 < b ∨ (a = 224 ∧ b < 160) ∨ (a = 237 ∧ 159 < b) then -1 else if k ≤ 2 then 0 else if c < 128 ∨ 191 < c then -1 else 3)
  else if a < 245 then (if k ≤ 1 then 0 else if b < 128 ∨ 191 < b ∨ (a = 240 ∧ b < 144) ∨ (a = 244 ∧ 143 < b) then -1 else if k ≤ 2 then 0 else if c < 128 ∨ 191 < c then -1 else if k ≤ 3 then 0 else if d < 128 ∨ 191 < d then -1 else 4)
  else -1
theorem own_sp2 (a b c d k : Int) (h : 192 ≤ a ∧ a < 224) : own_sp a b c d k = if a < 194 then -1 else (if k ≤ 1 then 0 else if b < 128 ∨ 191 < b then -1 else 2) := by
  rw [own_sp, if_neg (by omega), if_pos h.2]
theorem own_sp3 (a b c d k : Int) (h : 224 ≤ a ∧ a < 240) : own_sp a b c d k = (if k ≤ 1 then 0 else if b < 128 ∨ 191 < b ∨ (a = 224 ∧ b < 160) ∨ (a = 237 ∧ 159 < b) then -1 else if k ≤ 2 then 0 else if c < 128 ∨ 191 < c then -1 else 3) := by
  rw [own_sp, if_neg (by omega), if_neg (by omega), if_neg (by omega), if_pos h.2]
theorem own_sp4 (a b c d k : Int) (h : 240 ≤ a ∧ a < 248) : own_sp a b c d k = if a < 245 then (if k ≤ 1 then 0 else if b < 128 ∨ 191 < b ∨ (a = 240 ∧ b < 144) ∨ (a = 244 ∧ 143 < b) then -1 else if k ≤ 2 then 0 else if c < 128 ∨ 191 < c then -1 else if k ≤ 3 then 0 else if d < 128 ∨ 191 < d then -1 else 4) else -1 := by
  rw [own_sp, if_neg (by omega), if_neg (by omega), if_neg (by omega), if_neg (by omega)]
set_option maxHeartbeats 8000000 in
theorem own_sa (p2 : Int32) (g : Nat → Int32) : sa_f p2 g = own_sp (g 0 &&& 255).toInt (g 1 &&& 255).toInt (g 2 &&& 255).toInt (g 3 &&& 255).toInt p2.toInt := by
  have z0 : ((0 : Int32)).toNatClampNeg = 0 := by decide
  have z1 : ((1 : Int32)).toNatClampNeg = 1 := by decide
  have z2 : ((2 : Int32)).toNatClampNeg = 2 := by decide
  have z3 : ((3 : Int32)).toNatClampNeg = 3 := by decide
  simp only [sa_f, sa_f145k2, sa_f145k3, sa_f145k4, own_c192, z0, z1, z2, z3, Int32.lt_iff_toInt_lt, Int32.reduceToInt]
  have q1 : ((g 0 &&& 255) = (224 : Int32)) ↔ (g 0 &&& 255).toInt = 224 := by rw [← Int32.toInt_inj]; rfl
  have q2 : ((g 0 &&& 255) = (237 : Int32)) ↔ (g 0 &&& 255).toInt = 237 := by rw [← Int32.toInt_inj]; rfl
  have q3 : ((g 0 &&& 255) = (240 : Int32)) ↔ (g 0 &&& 255).toInt = 240 := by rw [← Int32.toInt_inj]; rfl
  have q4 : ((g 0 &&& 255) = (244 : Int32)) ↔ (g 0 &&& 255).toInt = 244 := by rw [← Int32.toInt_inj]; rfl
  simp only [q1, q2, q3, q4]
  generalize (g 0 &&& 255).toInt = a
  generalize (g 1 &&& 255).toInt = b
  generalize (g 2 &&& 255).toInt = c
  generalize (g 3 &&& 255).toInt = d
  generalize p2.toInt = k
  by_cases h1 : a < 128
  · simp only [if_pos h1, own_sp]
  simp only [if_neg h1]
  by_cases h2 : a < 194
  · simp only [if_pos h2, if_neg h1, own_sp]
  simp only [if_neg h2]
  by_cases h3 : a < 224
  · simp only [if_pos h3, own_sp2 a b c d k ⟨by omega, h3⟩, if_neg h2]
    repeat' split
    all_goals first | rfl | (exfalso; omega)
  simp only [if_neg h3]
  by_cases h4 : a < 240
  · simp only [if_pos h4, own_sp3 a b c d k ⟨by omega, h4⟩]
    by_cases e1 : a = 224
    · have e2 : ¬ a = 237 := by omega
      simp only [if_pos e1, if_neg e2]
      repeat' split
      all_goals first | rfl | (exfalso; omega)
    · by_cases e2 : a = 237
      · simp only [if_neg e1, if_pos e2]
        repeat' split
        all_goals first | rfl | (exfalso; omega)
      · simp only [if_neg e1, if_neg e2]
        repeat' split
        all_goals first | rfl | (exfalso; omega)
  simp only [if_neg h4]
  by_cases h5 : a < 245
  · simp only [if_pos h5, own_sp4 a b c d k ⟨by omega, by omega⟩]
    by_cases e1 : a = 240
    · have e2 : ¬ a = 244 := by omega
      simp only [if_pos e1, if_neg e2]
      repeat' split
      all_goals first | rfl | (exfalso; omega)
    · by_cases e2 : a = 244
      · simp only [if_neg e1, if_pos e2]
        repeat' split
        all_goals first | rfl | (exfalso; omega)
      · simp only [if_neg e1, if_neg e2]
        repeat' split
        all_goals first | rfl | (exfalso; omega)
  simp only [own_sp, if_neg h1, if_neg h2, if_neg h3, if_neg h4, if_neg h5]
set_option maxHeartbeats 8000000 in
theorem own_sb (p2 : Int32) (g : Nat → Int32) : sb_f p2 g = own_sp (g 1 &&& 255).toInt (g 2 &&& 255).toInt (g 3 &&& 255).toInt (g 4 &&& 255).toInt (p2.toInt - 1) := by
  have z1 : ((1 : Int32)).toNatClampNeg = 1 := by decide
  have z2 : ((2 : Int32)).toNatClampNeg = 2 := by decide
  have z3 : ((3 : Int32)).toNatClampNeg = 3 := by decide
  have z4 : ((4 : Int32)).toNatClampNeg = 4 := by decide
  simp only [sb_f, sb_f145k2, sb_f145k3, sb_f145k4, own_c192, z1, z2, z3, z4, Int32.lt_iff_toInt_lt, Int32.reduceToInt]
  have q1 : ((g 1 &&& 255) = (224 : Int32)) ↔ (g 1 &&& 255).toInt = 224 := by rw [← Int32.toInt_inj]; rfl
  have q2 : ((g 1 &&& 255) = (237 : Int32)) ↔ (g 1 &&& 255).toInt = 237 := by rw [← Int32.toInt_inj]; rfl
  have q3 : ((g 1 &&& 255) = (240 : Int32)) ↔ (g 1 &&& 255).toInt = 240 := by rw [← Int32.toInt_inj]; rfl
  have q4 : ((g 1 &&& 255) = (244 : Int32)) ↔ (g 1 &&& 255).toInt = 244 := by rw [← Int32.toInt_inj]; rfl
  simp only [q1, q2, q3, q4]
  generalize (g 1 &&& 255).toInt = a
  generalize (g 2 &&& 255).toInt = b
  generalize (g 3 &&& 255).toInt = c
  generalize (g 4 &&& 255).toInt = d
  generalize p2.toInt = k
  by_cases h1 : a < 128
  · simp only [if_pos h1, own_sp]
  simp only [if_neg h1]
  by_cases h2 : a < 194
  · simp only [if_pos h2, if_neg h1, own_sp]
  simp only [if_neg h2]
  by_cases h3 : a < 224
  · simp only [if_pos h3, own_sp2 a b c d (k - 1) ⟨by omega, h3⟩, if_neg h2]
    repeat' split
    all_goals first | rfl | (exfalso; omega)
  simp only [if_neg h3]
  by_cases h4 : a < 240
  · simp only [if_pos h4, own_sp3 a b c d (k - 1) ⟨by omega, h4⟩]
    by_cases e1 : a = 224
    · have e2 : ¬ a = 237 := by omega
      simp only [if_pos e1, if_neg e2]
      repeat' split
      all_goals first | rfl | (exfalso; omega)
    · by_cases e2 : a = 237
      · simp only [if_neg e1, if_pos e2]
        repeat' split
        all_goals first | rfl | (exfalso; omega)
      · simp only [if_neg e1, if_neg e2]
        repeat' split
        all_goals first | rfl | (exfalso; omega)
  simp only [if_neg h4]
  by_cases h5 : a < 245
  · simp only [if_pos h5, own_sp4 a b c d (k - 1) ⟨by omega, by omega⟩]
    by_cases e1 : a = 240
    · have e2 : ¬ a = 244 := by omega
      simp only [if_pos e1, if_neg e2]
      repeat' split
      all_goals first | rfl | (exfalso; omega)
    · by_cases e2 : a = 244
      · simp only [if_neg e1, if_pos e2]
        repeat' split
        all_goals first | rfl | (exfalso; omega)
      · simp only [if_neg e1, if_neg e2]
        repeat' split
        all_goals first | rfl | (exfalso; omega)
  simp only [own_sp, if_neg h1, if_neg h2, if_neg h3, if_neg h4, if_neg h5]
theorem own_ic (u : Int32) : ic_f u = if 128 ≤ u.toInt ∧ u.toInt ≤ 191 then 1 else 0 := by
  simp only [ic_f, Int32.lt_iff_toInt_lt, Int32.reduceToInt]
  repeat' split
  all_goals first | rfl | (exfalso; omega)
theorem own_63 (u : Int32) : (u &&& (63 : Int32)).toInt = u.toInt % 64 := c_mask u 63 6 (by decide) (by decide)
theorem own_dc2 (a c1 c2 c3 : Int32) (h : 0 ≤ c1.toInt ∧ c1.toInt < 64) : (dc_f a c1 c2 c3 2).toInt = (a.toInt % 32) * 64 + c1.toInt := by
  have m := c_mask a 31 5 (by decide) (by decide)
  have s := c_ishl (a &&& 31) 6 6 (by decide)
  have r := rng32 ((a &&& 31) <<< ((6 : Int32) &&& 31))
  have o := c_or ((a &&& 31) <<< ((6 : Int32) &&& 31)) c1 6 (by decide) 64 (by decide) (by omega) h.1 h.2
  have r2 := rng32 (((a &&& 31) <<< ((6 : Int32) &&& 31)) ||| c1)
  simp only [dc_f, if_true]
  omega
theorem own_dc3 (a c1 c2 c3 : Int32) (h1 : 0 ≤ c1.toInt ∧ c1.toInt < 64) (h2 : 0 ≤ c2.toInt ∧ c2.toInt < 64) : (dc_f a c1 c2 c3 3).toInt = (a.toInt % 16) * 4096 + c1.toInt * 64 + c2.toInt := by
  have m := c_mask a 15 4 (by decide) (by decide)
  have s := c_ishl (a &&& 15) 12 12 (by decide)
  have r := rng32 ((a &&& 15) <<< ((12 : Int32) &&& 31))
  have s1 := c_ishl c1 6 6 (by decide)
  have r1 := rng32 (c1 <<< ((6 : Int32) &&& 31))
  have o := c_or ((a &&& 15) <<< ((12 : Int32) &&& 31)) (c1 <<< ((6 : Int32) &&& 31)) 12 (by decide) 4096 (by decide) (by omega) (by omega) (by omega)
  have r2 := rng32 (((a &&& 15) <<< ((12 : Int32) &&& 31)) ||| (c1 <<< ((6 : Int32) &&& 31)))
  have o2 := c_or (((a &&& 15) <<< ((12 : Int32) &&& 31)) ||| (c1 <<< ((6 : Int32) &&& 31))) c2 6 (by decide) 64 (by decide) (by omega) h2.1 h2.2
  have r3 := rng32 ((((a &&& 15) <<< ((12 : Int32) &&& 31)) ||| (c1 <<< ((6 : Int32) &&& 31))) ||| c2)
  have n2 : ¬ (3 : Int32) = 2 := by decide
  simp only [dc_f, n2, if_false, if_true]
  omega
theorem own_dc4 (a c1 c2 c3 : Int32) (h1 : 0 ≤ c1.toInt ∧ c1.toInt < 64) (h2 : 0 ≤ c2.toInt ∧ c2.toInt < 64) (h3 : 0 ≤ c3.toInt ∧ c3.toInt < 64) : (dc_f a c1 c2 c3 4).toInt = (a.toInt % 8) * 262144 + c1.toInt * 4096 + c2.toInt * 64 + c3.toInt := by
  have m := c_mask a 7 3 (by decide) (by decide)
  have s := c_ishl (a &&& 7) 18 18 (by decide)
  have r := rng32 ((a &&& 7) <<< ((18 : Int32) &&& 31))
  have s1 := c_ishl c1 12 12 (by decide)
  have r1 := rng32 (c1 <<< ((12 : Int32) &&& 31))
  have s2 := c_ishl c2 6 6 (by decide)
  have r1' := rng32 (c2 <<< ((6 : Int32) &&& 31))
  have o := c_or ((a &&& 7) <<< ((18 : Int32) &&& 31)) (c1 <<< ((12 : Int32) &&& 31)) 18 (by decide) 262144 (by decide) (by omega) (by omega) (by omega)
  have r2 := rng32 (((a &&& 7) <<< ((18 : Int32) &&& 31)) ||| (c1 <<< ((12 : Int32) &&& 31)))
  have o2 := c_or (((a &&& 7) <<< ((18 : Int32) &&& 31)) ||| (c1 <<< ((12 : Int32) &&& 31))) (c2 <<< ((6 : Int32) &&& 31)) 12 (by decide) 4096 (by decide) (by omega) (by omega) (by omega)
  have r3 := rng32 ((((a &&& 7) <<< ((18 : Int32) &&& 31)) ||| (c1 <<< ((12 : Int32) &&& 31))) ||| (c2 <<< ((6 : Int32) &&& 31)))
  have o3 := c_or ((((a &&& 7) <<< ((18 : Int32) &&& 31)) ||| (c1 <<< ((12 : Int32) &&& 31))) ||| (c2 <<< ((6 : Int32) &&& 31))) c3 6 (by decide) 64 (by decide) (by omega) h3.1 h3.2
  have r4 := rng32 (((((a &&& 7) <<< ((18 : Int32) &&& 31)) ||| (c1 <<< ((12 : Int32) &&& 31))) ||| (c2 <<< ((6 : Int32) &&& 31))) ||| c3)
  have n2 : ¬ (4 : Int32) = 2 := by decide
  have n3 : ¬ (4 : Int32) = 3 := by decide
  simp only [dc_f, n2, n3, if_false]
  omega
def own_r (v5 : Int32) (a5 a6 a7 a8 a9 a10 : Int) : Int32 :=
  if (a10 < a9 ∨ a10 < a6 ∨ a7 < a9 ∨ a7 < a6) then -1
  else if (55296 ≤ a9 ∨ 55296 ≤ a6) ∧ (a10 ≤ 57343 ∨ a7 ≤ 57343) then -1 else if a8 < a5 then 0 else v5
theorem own_207 (p0 p1 p2 p3 p4 v5 v6 v7 v8 v9 v10 : Int32) : ex_f207 p0 p1 p2 p3 p4 v5 v6 v7 v8 v9 v10 = own_r v5 v5.toInt v6.toInt v7.toInt v8.toInt v9.toInt v10.toInt := by
  have mn : (mn_f v10 v7).toInt = if v7.toInt < v10.toInt then v7.toInt else v10.toInt := by
    simp only [mn_f, Int32.lt_iff_toInt_lt]; split <;> rfl
  have mx : (mx_f v9 v6).toInt = if v9.toInt < v6.toInt then v6.toInt else v9.toInt := by
    simp only [mx_f, Int32.lt_iff_toInt_lt]; split <;> rfl
  simp only [ex_f207, ex_f250, own_r, Int32.lt_iff_toInt_lt, mn, mx, Int32.reduceToInt]
  generalize v5.toInt = a5
  generalize v6.toInt = a6
  generalize v7.toInt = a7
  generalize v8.toInt = a8
  generalize v9.toInt = a9
  generalize v10.toInt = a10
  repeat' split
  all_goals first | rfl | (exfalso; omega)
theorem own_mn (k n : Int32) (h : n.toInt ≤ k.toInt) : mn_f k n = n := by
  simp only [mn_f, Int32.lt_iff_toInt_lt]
  split
  · rfl
  · exact Int32.toInt_inj.mp (by omega)
theorem own_eqk (k n : Int32) (h : k.toInt = n.toInt) : k = n := Int32.toInt_inj.mp h
theorem own_m1 : ¬ ((-1 : Int32) = 0) := by decide
theorem own_e21 (u0 u1 u2 u3 : Int32) : ex_f89 u0 u1 u2 u3 (1 : Int32) 2 128 2047 = ex_f207 u0 u1 u2 u3 (1 : Int32) 2 128 2047 1 (dc_f u0 0 0 0 2) (dc_f u0 63 63 63 2) := by
  have e : mn_f (1 : Int32) 2 = 1 := (by decide : mn_f (1 : Int32) 2 = 1)
  simp only [ex_f89, ex_f113, ex_f128, ex_f143, e, own_ic, py_f]
  simp +decide only [if_true, if_false, ite_not]
  repeat' split
  all_goals first | rfl | simp_all
theorem own_e22 (u0 u1 u2 u3 : Int32) (k : Int32) (hk : 2 ≤ k.toInt) : ex_f89 u0 u1 u2 u3 k 2 128 2047 = if ¬ (128 ≤ u1.toInt ∧ u1.toInt ≤ 191) then -1 else ex_f207 u0 u1 u2 u3 k 2 128 2047 2 (dc_f u0 (u1 &&& 63) 0 0 2) (dc_f u0 (u1 &&& 63) 63 63 2) := by
  have e : mn_f k 2 = 2 := own_mn k 2 hk
  simp only [ex_f89, ex_f113, ex_f128, ex_f143, e, own_ic, py_f]
  simp +decide only [if_true, if_false, ite_not]
  repeat' split
  all_goals first | rfl | simp_all
theorem own_e31 (u0 u1 u2 u3 : Int32) : ex_f89 u0 u1 u2 u3 (1 : Int32) 3 2048 65535 = ex_f207 u0 u1 u2 u3 (1 : Int32) 3 2048 65535 1 (dc_f u0 0 0 0 3) (dc_f u0 63 63 63 3) := by
  have e : mn_f (1 : Int32) 3 = 1 := (by decide : mn_f (1 : Int32) 3 = 1)
  simp only [ex_f89, ex_f113, ex_f128, ex_f143, e, own_ic, py_f]
  simp +decide only [if_true, if_false, ite_not]
  repeat' split
  all_goals first | rfl | simp_all
theorem own_e32 (u0 u1 u2 u3 : Int32) : ex_f89 u0 u1 u2 u3 (2 : Int32) 3 2048 65535 = if ¬ (128 ≤ u1.toInt ∧ u1.toInt ≤ 191) then -1 else ex_f207 u0 u1 u2 u3 (2 : Int32) 3 2048 65535 2 (dc_f u0 (u1 &&& 63) 0 0 3) (dc_f u0 (u1 &&& 63) 63 63 3) := by
  have e : mn_f (2 : Int32) 3 = 2 := (by decide : mn_f (2 : Int32) 3 = 2)
  simp only [ex_f89, ex_f113, ex_f128, ex_f143, e, own_ic, py_f]
  simp +decide only [if_true, if_false, ite_not]
  repeat' split
  all_goals first | rfl | simp_all
theorem own_e33 (u0 u1 u2 u3 : Int32) (k : Int32) (hk : 3 ≤ k.toInt) : ex_f89 u0 u1 u2 u3 k 3 2048 65535 = if ¬ (128 ≤ u1.toInt ∧ u1.toInt ≤ 191) then -1 else if ¬ (128 ≤ u2.toInt ∧ u2.toInt ≤ 191) then -1 else ex_f207 u0 u1 u2 u3 k 3 2048 65535 3 (dc_f u0 (u1 &&& 63) (u2 &&& 63) 0 3) (dc_f u0 (u1 &&& 63) (u2 &&& 63) 63 3) := by
  have e : mn_f k 3 = 3 := own_mn k 3 hk
  simp only [ex_f89, ex_f113, ex_f128, ex_f143, e, own_ic, py_f]
  simp +decide only [if_true, if_false, ite_not]
  repeat' split
  all_goals first | rfl | simp_all
theorem own_e41 (u0 u1 u2 u3 : Int32) : ex_f89 u0 u1 u2 u3 (1 : Int32) 4 65536 1114111 = ex_f207 u0 u1 u2 u3 (1 : Int32) 4 65536 1114111 1 (dc_f u0 0 0 0 4) (dc_f u0 63 63 63 4) := by
  have e : mn_f (1 : Int32) 4 = 1 := (by decide : mn_f (1 : Int32) 4 = 1)
  simp only [ex_f89, ex_f113, ex_f128, ex_f143, e, own_ic, py_f]
  simp +decide only [if_true, if_false, ite_not]
  repeat' split
  all_goals first | rfl | simp_all
theorem own_e42 (u0 u1 u2 u3 : Int32) : ex_f89 u0 u1 u2 u3 (2 : Int32) 4 65536 1114111 = if ¬ (128 ≤ u1.toInt ∧ u1.toInt ≤ 191) then -1 else ex_f207 u0 u1 u2 u3 (2 : Int32) 4 65536 1114111 2 (dc_f u0 (u1 &&& 63) 0 0 4) (dc_f u0 (u1 &&& 63) 63 63 4) := by
  have e : mn_f (2 : Int32) 4 = 2 := (by decide : mn_f (2 : Int32) 4 = 2)
  simp only [ex_f89, ex_f113, ex_f128, ex_f143, e, own_ic, py_f]
  simp +decide only [if_true, if_false, ite_not]
  repeat' split
  all_goals first | rfl | simp_all
theorem own_e43 (u0 u1 u2 u3 : Int32) : ex_f89 u0 u1 u2 u3 (3 : Int32) 4 65536 1114111 = if ¬ (128 ≤ u1.toInt ∧ u1.toInt ≤ 191) then -1 else if ¬ (128 ≤ u2.toInt ∧ u2.toInt ≤ 191) then -1 else ex_f207 u0 u1 u2 u3 (3 : Int32) 4 65536 1114111 3 (dc_f u0 (u1 &&& 63) (u2 &&& 63) 0 4) (dc_f u0 (u1 &&& 63) (u2 &&& 63) 63 4) := by
  have e : mn_f (3 : Int32) 4 = 3 := (by decide : mn_f (3 : Int32) 4 = 3)
  simp only [ex_f89, ex_f113, ex_f128, ex_f143, e, own_ic, py_f]
  simp +decide only [if_true, if_false, ite_not]
  repeat' split
  all_goals first | rfl | simp_all
theorem own_e44 (u0 u1 u2 u3 : Int32) (k : Int32) (hk : 4 ≤ k.toInt) : ex_f89 u0 u1 u2 u3 k 4 65536 1114111 = if ¬ (128 ≤ u1.toInt ∧ u1.toInt ≤ 191) then -1 else if ¬ (128 ≤ u2.toInt ∧ u2.toInt ≤ 191) then -1 else if ¬ (128 ≤ u3.toInt ∧ u3.toInt ≤ 191) then -1 else ex_f207 u0 u1 u2 u3 k 4 65536 1114111 4 (dc_f u0 (u1 &&& 63) (u2 &&& 63) (u3 &&& 63) 4) (dc_f u0 (u1 &&& 63) (u2 &&& 63) (u3 &&& 63) 4) := by
  have e : mn_f k 4 = 4 := own_mn k 4 hk
  simp only [ex_f89, ex_f113, ex_f128, ex_f143, e, own_ic, py_f]
  simp +decide only [if_true, if_false, ite_not]
  repeat' split
  all_goals first | rfl | simp_all
theorem own_bb (x : Int32) : ((x.toInt8.toInt32).toInt8.toInt32 &&& (255 : Int32)).toInt = (x &&& (255 : Int32)).toInt := by
  have m1 := c_mask ((x.toInt8.toInt32).toInt8.toInt32) 255 8 (by decide) (by decide)
  have m2 := c_mask x 255 8 (by decide) (by decide)
  have b1 := c_i2b x
  have b2 := c_i2b x.toInt8.toInt32
  omega
theorem own_y21 (a b c d x y : Int) (h : 192 ≤ a ∧ a < 224) (d1 : x = a % 32 * 64 + 0) (d2 : y = a % 32 * 64 + 63) : (own_r 2 2 128 2047 1 x y) = own_sp a b c d 1 := by
  rw [own_sp2 _ _ _ _ _ h]
  simp only [own_r]
  repeat' split
  all_goals first | rfl | (exfalso; omega)
theorem own_y22 (a b c d x y : Int) (k : Int) (h : 192 ≤ a ∧ a < 224) (hk : 2 ≤ k) (d1 : x = a % 32 * 64 + (b % 64)) (d2 : y = a % 32 * 64 + (b % 64)) : (if ¬ (128 ≤ b ∧ b ≤ 191) then -1 else own_r 2 2 128 2047 2 x y) = own_sp a b c d k := by
  rw [own_sp2 _ _ _ _ _ h]
  simp only [own_r]
  repeat' split
  all_goals first | rfl | (exfalso; omega)
theorem own_y31 (a b c d x y : Int) (h : 224 ≤ a ∧ a < 240) (d1 : x = a % 16 * 4096 + 0 * 64 + 0) (d2 : y = a % 16 * 4096 + 63 * 64 + 63) : (own_r 3 3 2048 65535 1 x y) = own_sp a b c d 1 := by
  rw [own_sp3 _ _ _ _ _ h]
  simp only [own_r]
  repeat' split
  all_goals first | rfl | (exfalso; omega)
theorem own_y32 (a b c d x y : Int) (h : 224 ≤ a ∧ a < 240) (d1 : x = a % 16 * 4096 + (b % 64) * 64 + 0) (d2 : y = a % 16 * 4096 + (b % 64) * 64 + 63) : (if ¬ (128 ≤ b ∧ b ≤ 191) then -1 else own_r 3 3 2048 65535 2 x y) = own_sp a b c d 2 := by
  rw [own_sp3 _ _ _ _ _ h]
  simp only [own_r]
  repeat' split
  all_goals first | rfl | (exfalso; omega)
theorem own_y33 (a b c d x y : Int) (k : Int) (h : 224 ≤ a ∧ a < 240) (hk : 3 ≤ k) (d1 : x = a % 16 * 4096 + (b % 64) * 64 + (c % 64)) (d2 : y = a % 16 * 4096 + (b % 64) * 64 + (c % 64)) : (if ¬ (128 ≤ b ∧ b ≤ 191) then -1 else if ¬ (128 ≤ c ∧ c ≤ 191) then -1 else own_r 3 3 2048 65535 3 x y) = own_sp a b c d k := by
  rw [own_sp3 _ _ _ _ _ h]
  simp only [own_r]
  repeat' split
  all_goals first | rfl | (exfalso; omega)
theorem own_y41 (a b c d x y : Int) (h : 240 ≤ a ∧ a < 248) (d1 : x = a % 8 * 262144 + 0 * 4096 + 0 * 64 + 0) (d2 : y = a % 8 * 262144 + 63 * 4096 + 63 * 64 + 63) : (own_r 4 4 65536 1114111 1 x y) = own_sp a b c d 1 := by
  rw [own_sp4 _ _ _ _ _ h]
  simp only [own_r]
  repeat' split
  all_goals first | rfl | (exfalso; omega)
theorem own_y42 (a b c d x y : Int) (h : 240 ≤ a ∧ a < 248) (d1 : x = a % 8 * 262144 + (b % 64) * 4096 + 0 * 64 + 0) (d2 : y = a % 8 * 262144 + (b % 64) * 4096 + 63 * 64 + 63) : (if ¬ (128 ≤ b ∧ b ≤ 191) then -1 else own_r 4 4 65536 1114111 2 x y) = own_sp a b c d 2 := by
  rw [own_sp4 _ _ _ _ _ h]
  simp only [own_r]
  repeat' split
  all_goals first | rfl | (exfalso; omega)
theorem own_y43 (a b c d x y : Int) (h : 240 ≤ a ∧ a < 248) (d1 : x = a % 8 * 262144 + (b % 64) * 4096 + (c % 64) * 64 + 0) (d2 : y = a % 8 * 262144 + (b % 64) * 4096 + (c % 64) * 64 + 63) : (if ¬ (128 ≤ b ∧ b ≤ 191) then -1 else if ¬ (128 ≤ c ∧ c ≤ 191) then -1 else own_r 4 4 65536 1114111 3 x y) = own_sp a b c d 3 := by
  rw [own_sp4 _ _ _ _ _ h]
  simp only [own_r]
  repeat' split
  all_goals first | rfl | (exfalso; omega)
theorem own_y44 (a b c d x y : Int) (k : Int) (h : 240 ≤ a ∧ a < 248) (hk : 4 ≤ k) (d1 : x = a % 8 * 262144 + (b % 64) * 4096 + (c % 64) * 64 + (d % 64)) (d2 : y = a % 8 * 262144 + (b % 64) * 4096 + (c % 64) * 64 + (d % 64)) : (if ¬ (128 ≤ b ∧ b ≤ 191) then -1 else if ¬ (128 ≤ c ∧ c ≤ 191) then -1 else if ¬ (128 ≤ d ∧ d ≤ 191) then -1 else own_r 4 4 65536 1114111 4 x y) = own_sp a b c d k := by
  rw [own_sp4 _ _ _ _ _ h]
  simp only [own_r]
  repeat' split
  all_goals first | rfl | (exfalso; omega)
theorem own_x2 (u0 u1 u2 u3 k : Int32) (h0 : 192 ≤ u0.toInt ∧ u0.toInt < 224) (hk : 1 ≤ k.toInt) : ex_f89 u0 u1 u2 u3 k 2 128 2047 = own_sp u0.toInt u1.toInt u2.toInt u3.toInt k.toInt := by
  have m1 := own_63 u1
  have m2 := own_63 u2
  have m3 := own_63 u3
  by_cases k1 : k.toInt = 1
  · cases own_eqk k 1 k1
    have d1 := own_dc2 u0 0 0 0 (by decide)
    simp only [Int32.reduceToInt] at d1
    have d2 := own_dc2 u0 63 63 63 (by decide)
    simp only [Int32.reduceToInt] at d2
    rw [own_e21 u0 u1 u2 u3, own_207]
    exact own_y21 u0.toInt u1.toInt u2.toInt u3.toInt _ _ h0 d1 d2
  have d1 := own_dc2 u0 (u1 &&& 63) 0 0 (by omega)
  simp only [m1, Int32.reduceToInt] at d1
  have d2 := own_dc2 u0 (u1 &&& 63) 63 63 (by omega)
  simp only [m1, Int32.reduceToInt] at d2
  rw [own_e22 u0 u1 u2 u3 k (by omega), own_207]
  exact own_y22 u0.toInt u1.toInt u2.toInt u3.toInt _ _ k.toInt h0 (by omega) d1 d2
theorem own_x3 (u0 u1 u2 u3 k : Int32) (h0 : 224 ≤ u0.toInt ∧ u0.toInt < 240) (hk : 1 ≤ k.toInt) : ex_f89 u0 u1 u2 u3 k 3 2048 65535 = own_sp u0.toInt u1.toInt u2.toInt u3.toInt k.toInt := by
  have m1 := own_63 u1
  have m2 := own_63 u2
  have m3 := own_63 u3
  by_cases k1 : k.toInt = 1
  · cases own_eqk k 1 k1
    have d1 := own_dc3 u0 0 0 0 (by decide) (by decide)
    simp only [Int32.reduceToInt] at d1
    have d2 := own_dc3 u0 63 63 63 (by decide) (by decide)
    simp only [Int32.reduceToInt] at d2
    rw [own_e31 u0 u1 u2 u3, own_207]
    exact own_y31 u0.toInt u1.toInt u2.toInt u3.toInt _ _ h0 d1 d2
  by_cases k2 : k.toInt = 2
  · cases own_eqk k 2 k2
    have d1 := own_dc3 u0 (u1 &&& 63) 0 0 (by omega) (by decide)
    simp only [m1, Int32.reduceToInt] at d1
    have d2 := own_dc3 u0 (u1 &&& 63) 63 63 (by omega) (by decide)
    simp only [m1, Int32.reduceToInt] at d2
    rw [own_e32 u0 u1 u2 u3, own_207]
    exact own_y32 u0.toInt u1.toInt u2.toInt u3.toInt _ _ h0 d1 d2
  have d1 := own_dc3 u0 (u1 &&& 63) (u2 &&& 63) 0 (by omega) (by omega)
  simp only [m1, m2, Int32.reduceToInt] at d1
  have d2 := own_dc3 u0 (u1 &&& 63) (u2 &&& 63) 63 (by omega) (by omega)
  simp only [m1, m2, Int32.reduceToInt] at d2
  rw [own_e33 u0 u1 u2 u3 k (by omega), own_207]
  exact own_y33 u0.toInt u1.toInt u2.toInt u3.toInt _ _ k.toInt h0 (by omega) d1 d2
theorem own_x4 (u0 u1 u2 u3 k : Int32) (h0 : 240 ≤ u0.toInt ∧ u0.toInt < 248) (hk : 1 ≤ k.toInt) : ex_f89 u0 u1 u2 u3 k 4 65536 1114111 = own_sp u0.toInt u1.toInt u2.toInt u3.toInt k.toInt := by
  have m1 := own_63 u1
  have m2 := own_63 u2
  have m3 := own_63 u3
  by_cases k1 : k.toInt = 1
  · cases own_eqk k 1 k1
    have d1 := own_dc4 u0 0 0 0 (by decide) (by decide) (by decide)
    simp only [Int32.reduceToInt] at d1
    have d2 := own_dc4 u0 63 63 63 (by decide) (by decide) (by decide)
    simp only [Int32.reduceToInt] at d2
    rw [own_e41 u0 u1 u2 u3, own_207]
    exact own_y41 u0.toInt u1.toInt u2.toInt u3.toInt _ _ h0 d1 d2
  by_cases k2 : k.toInt = 2
  · cases own_eqk k 2 k2
    have d1 := own_dc4 u0 (u1 &&& 63) 0 0 (by omega) (by decide) (by decide)
    simp only [m1, Int32.reduceToInt] at d1
    have d2 := own_dc4 u0 (u1 &&& 63) 63 63 (by omega) (by decide) (by decide)
    simp only [m1, Int32.reduceToInt] at d2
    rw [own_e42 u0 u1 u2 u3, own_207]
    exact own_y42 u0.toInt u1.toInt u2.toInt u3.toInt _ _ h0 d1 d2
  by_cases k3 : k.toInt = 3
  · cases own_eqk k 3 k3
    have d1 := own_dc4 u0 (u1 &&& 63) (u2 &&& 63) 0 (by omega) (by omega) (by decide)
    simp only [m1, m2, Int32.reduceToInt] at d1
    have d2 := own_dc4 u0 (u1 &&& 63) (u2 &&& 63) 63 (by omega) (by omega) (by decide)
    simp only [m1, m2, Int32.reduceToInt] at d2
    rw [own_e43 u0 u1 u2 u3, own_207]
    exact own_y43 u0.toInt u1.toInt u2.toInt u3.toInt _ _ h0 d1 d2
  have d1 := own_dc4 u0 (u1 &&& 63) (u2 &&& 63) (u3 &&& 63) (by omega) (by omega) (by omega)
  simp only [m1, m2, m3, Int32.reduceToInt] at d1
  have d2 := own_dc4 u0 (u1 &&& 63) (u2 &&& 63) (u3 &&& 63) (by omega) (by omega) (by omega)
  simp only [m1, m2, m3, Int32.reduceToInt] at d2
  rw [own_e44 u0 u1 u2 u3 k (by omega), own_207]
  exact own_y44 u0.toInt u1.toInt u2.toInt u3.toInt _ _ k.toInt h0 (by omega) d1 d2
theorem own_ex (u0 u1 u2 u3 k : Int32) (h0 : 0 ≤ u0.toInt ∧ u0.toInt < 256) (hk : 1 ≤ k.toInt) : ex_f u0 u1 u2 u3 k = own_sp u0.toInt u1.toInt u2.toInt u3.toInt k.toInt := by
  simp only [ex_f, own_m224 u0 h0, own_m240 u0 h0, own_m248 u0 h0, Int32.lt_iff_toInt_lt, Int32.reduceToInt]
  by_cases a1 : u0.toInt < 128
  · rw [if_pos a1, own_sp, if_pos a1]
  rw [if_neg a1]
  by_cases a2 : 192 ≤ u0.toInt ∧ u0.toInt < 224
  · rw [if_pos a2]; exact own_x2 u0 u1 u2 u3 k a2 hk
  rw [if_neg a2]
  by_cases a3 : 224 ≤ u0.toInt ∧ u0.toInt < 240
  · rw [if_pos a3]; exact own_x3 u0 u1 u2 u3 k a3 hk
  rw [if_neg a3]
  by_cases a4 : 240 ≤ u0.toInt ∧ u0.toInt < 248
  · rw [if_pos a4]; exact own_x4 u0 u1 u2 u3 k a4 hk
  rw [if_neg a4]
  by_cases a5 : u0.toInt < 194
  · rw [own_sp, if_neg a1, if_pos a5]
  · rw [own_sp, if_neg a1, if_neg a5, if_neg (by omega), if_neg (by omega), if_neg (by omega)]
theorem own_law (p0 p1 p2 p3 p4 p5 : Int32) : lw_f p0 p1 p2 p3 p4 p5 = 1 := by
  have m0 := c_mask p0 255 8 (by decide) (by decide)
  have m5 := c_mask p5 2147483647 31 (by decide) (by decide)
  have z0 : ((0 : Int32)).toNatClampNeg = 0 := by decide
  have z1 : ((1 : Int32)).toNatClampNeg = 1 := by decide
  have z2 : ((2 : Int32)).toNatClampNeg = 2 := by decide
  have z3 : ((3 : Int32)).toNatClampNeg = 3 := by decide
  have z4 : ((4 : Int32)).toNatClampNeg = 4 := by decide
  have z5 : ((5 : Int32)).toNatClampNeg = 5 := by decide
  have o1 : (1 : Int32).toInt = 1 := rfl
  have o0 : (0 : Int32).toInt = 0 := rfl
  unfold lw_f
  split
  · rw [if_pos]
    have r := c_irem (p5 &&& 2147483647) 6 6 rfl
    have a := c_iadd 1 ((p5 &&& 2147483647) % 6)
    have ra := rng32 (1 + (p5 &&& 2147483647) % 6)
    have b := c_iadd 0 (1 + (p5 &&& 2147483647) % 6)
    have rb := rng32 (0 + (1 + (p5 &&& 2147483647) % 6))
    have r1 := r.1 (by omega)
    have e : (0 + (1 + (p5 &&& 2147483647) % 6) : Int32).toInt = (1 + (p5 &&& 2147483647) % 6 : Int32).toInt := by omega
    rw [own_ex _ _ _ _ _ (by omega) (by omega), own_sa, e]
    simp only [z0, z1, z2, z3, z4, z5, own_upd, Nat.reduceEqDiff, if_true, if_false, own_bb]
  · rw [if_pos]
    have r := c_irem (p5 &&& 2147483647) 5 5 rfl
    have a := c_iadd 1 ((p5 &&& 2147483647) % 5)
    have ra := rng32 (1 + (p5 &&& 2147483647) % 5)
    have b := c_iadd 1 (1 + (p5 &&& 2147483647) % 5)
    have rb := rng32 (1 + (1 + (p5 &&& 2147483647) % 5))
    have r1 := r.1 (by omega)
    have e : (1 + (1 + (p5 &&& 2147483647) % 5) : Int32).toInt - 1 = (1 + (p5 &&& 2147483647) % 5 : Int32).toInt := by omega
    rw [own_ex _ _ _ _ _ (by omega) (by omega), own_sb, e]
    simp only [z0, z1, z2, z3, z4, z5, own_upd, Nat.reduceEqDiff, if_true, if_false, own_bb]

set_option maxRecDepth 65536 in
set_option maxHeartbeats 40000000 in
theorem comes_1 {Post : Tables → Env → Array Value → State → Outcome → State → Prop} (hpost : ∀ tb e args s v u, (limb_1_1.after args s (.returned v) u = true ∧ limb_1_2.after args s (.returned v) u = true ∧ True) → FrameEnd s (.returned v) u (Jvm.fieldLocs frame_1_writes args s ++ Jvm.arrayLocs frame_1_arrays args s ++ Jvm.staticLocs frame_1_statics s) 16 128 → Post tb e args s (.returned v) u) :
    ArmFor flags0 classFile x code maxLocals ret World_1 tables_1 room_1 Calls_1 rest_1 Pre_1 Post := by
  intro l hfl _ _ p e ha hc hk s m args below hf hA hF happ hP
  obtain ⟨hcalls, hrest, hpre⟩ := hP
  obtain ⟨-, -, -, hnamed, -, -, -, hat⟩ := (Spec.applies_iff hf).mp happ
  obtain ⟨hg, hn⟩ := and_e (Cond.before_iff.mp (show (Jvm.Cond.and given_1 narrow_1).before args s = true from hpre))
  obtain ⟨gc, hg0⟩ := and_e hg
  obtain ⟨g0, hg1⟩ := and_e hg0
  obtain ⟨g1, hg2⟩ := and_e hg1
  obtain ⟨g2, hg3⟩ := and_e hg2
  obtain ⟨g3, hg4⟩ := and_e hg3
  obtain ⟨g4, g5⟩ := and_e hg4
  obtain ⟨w0, w1, w2, w3, w4, w5, rfl⟩ : ∃ w0 w1 w2 w3 w4 w5 : Value, args = #[w0, w1, w2, w3, w4, w5] := by
    have hs : args.size = 6 := by simpa [Cond.value, given_1] using gc
    obtain ⟨L⟩ := args
    match L, hs with
    | [w0, w1, w2, w3, w4, w5], _ => exact ⟨w0, w1, w2, w3, w4, w5, rfl⟩
  have hw := fun d (hd : d ∈ tables_1) => atoms_spec (ws := Jvm.Cond.code x code maxLocals ret :: tables_1) hat d (List.mem_cons_of_mem _ hd)
  have hfit : Fit s := fun {y c} hc i hi => by
    obtain ⟨ha, rfl⟩ := Array.getElem?_eq_some_iff.mp hc
    have q := List.all_eq_true.mp ((Array.all_eq_true_iff_forall_mem.mp hF) _ (Array.getElem_mem ha)) i (List.mem_range.mpr hi)
    simpa [Array.getElem?_eq_getElem hi] using q
  obtain ⟨i0, ei0⟩ := is_v g0
  obtain rfl : w0 = (.int i0) := Option.some.inj ei0
  obtain ⟨i1, ei1⟩ := is_v g1
  obtain rfl : w1 = (.int i1) := Option.some.inj ei1
  obtain ⟨i2, ei2⟩ := is_v g2
  obtain rfl : w2 = (.int i2) := Option.some.inj ei2
  obtain ⟨i3, ei3⟩ := is_v g3
  obtain rfl : w3 = (.int i3) := Option.some.inj ei3
  obtain ⟨i4, ei4⟩ := is_v g4
  obtain rfl : w4 = (.int i4) := Option.some.inj ei4
  obtain ⟨i5, ei5⟩ := is_v g5
  obtain rfl : w5 = (.int i5) := Option.some.inj ei5
  obtain ⟨n, o, h1, h2, h3, _, L, rfl, ⟨rfl, N⟩, hq⟩ := lw_rm l s _ hw tables_1 i0 i1 i2 i3 i4 i5  s.heap s.heap.size (Nat.le_refl _) p e ha hc hk s m _ below hf ((Spec.applies_iff_loose hf).mp happ).1 ⟨rfl, State.Warmed39.refl s, rfl⟩ trivial
  refine ⟨n, _, h1, h2, h3, hpost _ _ _ _ _ _ ⟨Cond.after_iff.mpr rfl, Cond.after_iff.mpr (eq_i res_at (Term.int_eval (1)) (by rw [own_law])), trivial⟩ ⟨hq.1, hq.2.1, (hq.2.2.sift fun y hy => Or.inr (N y hy)).mono (by decide) (by decide)⟩⟩
theorem main_1_1 : Claimed_1_1 := comes_1 fun _ _ _ _ _ _ h hF => ⟨h.1, hF⟩
theorem main_1_2 : Claimed_1_2 := comes_1 fun _ _ _ _ _ _ h hF => ⟨h.2.1, hF⟩
end Jvm.Pilot.@@N@@
namespace Jvm.Pilot.@@N@@
open Jvm Jvm.ClassFile Sem Op Lib Jvm.Free Jvm.Stand Jvm.Pilot.@@N@@.Jvm.D
/-! MADE BY PROGRAM (witnessworld.py) out of the Statement's table words and the real class files: 10 classes; the members and pool entries that the words name. The judged class is class 1, her method 1. -/
namespace start1
open Jvm.ClassFile
def u (s : String) : CpInfo := .utf8 (stringToUtf16 s)
/-- a pool by its gaps: so many unusable entries, then the entry; so many at the end -/
def gap : Nat → List CpInfo → List CpInfo
  | 0, r => r
  | n + 1, r => .unusable :: gap n r
def poolList (es : List (Nat × CpInfo)) (last : Nat) : List CpInfo := es.foldr (fun e r => gap e.1 (e.2 :: r)) (gap last [])
def pool (es : List (Nat × CpInfo)) (last : Nat) : Array CpInfo := ⟨poolList es last⟩
def fileOf (pool : Array CpInfo) (this : Nat) (attrs : Array Attribute := #[]) (ms : Array MethodInfo := #[]) (fl : Nat := 33) (sup : Nat := 0) (ifs : Array Nat := #[]) (fds : Array FieldInfo := #[]) : ClassFile where
  minorVersion := 0
  majorVersion := 65
  constantPool := pool
  accessFlags := fl
  thisClass := this
  superClass := sup
  interfaces := ifs
  fields := fds
  methods := ms
  attributes := attrs
def plain (name : String) (sup : Option ClassId) : Class where
  name := name
  kind := .ordinary
  loader := none
  accessFlags := 33
  super := sup
  interfaces := #[]
  cf := none
  fields := #[]
  methods := #[]
  instanceTypes := #[]
  staticTypes := #[]
  resolved := #[]
  callSites := []
  init := .initialized
  statics := none
  mirror := none

def pool0 : Array CpInfo := pool [(5, u "<init>"), (0, u "()V"), (1, .class_ 10), (1, u "java/lang/Object")] 113

def k0m0 : Method := { name := "<init>", desc := "()V", sig := { parameters := [], returnType := none }, accessFlags := 1, code := none }
/-- java/lang/Object -/
def k0 : Class := { plain "java/lang/Object" none with
  accessFlags := 33
  interfaces := #[]
  cf := some (fileOf pool0 8 #[] #[{ accessFlags := 1, nameIndex := 5, descriptorIndex := 6, attributes := #[] }] 33 0 #[] #[])
  fields := #[]
  methods := #[k0m0]
  instanceTypes := #[]
  staticTypes := #[]
  resolved := Array.replicate 124 none
  statics := none }

def pool1 : Array CpInfo := pool [(2, .class_ 4), (1, u "java/lang/Object"), (0, u "<init>"), (0, u "()V"), (0, .integer 2147483647), (0, .methodref 9 10), (0, .class_ 11), (0, .nameAndType 12 13), (0, u "com/example/xylograph/xylograph/io/Utf8"), (0, u "sequenceLength"), (0, u "([BII)I"), (0, .methodref 15 16), (0, .class_ 17), (0, .nameAndType 18 19), (0, u "com/example/xylograph/xylograph/io/Utf8SequenceLengthPinLaw"), (0, u "expected"), (0, u "(IIIII)I"), (0, .integer 65535), (0, .integer 65536), (0, .integer 1114111), (0, .methodref 24 25), (0, .class_ 26), (0, .nameAndType 27 28), (0, u "java/lang/Math"), (0, u "min"), (0, u "(II)I"), (0, .methodref 15 30), (0, .nameAndType 31 32), (0, u "isCont"), (0, u "(I)Z"), (0, .methodref 15 34), (0, .nameAndType 35 36), (0, u "pay"), (0, u "(IIIZ)I"), (0, .methodref 15 38), (0, .nameAndType 39 19), (0, u "decode"), (0, .methodref 24 41), (0, .nameAndType 42 28), (0, u "max"), (0, .integer 55296), (0, .integer 57343), (2, u "law"), (0, u "(IIIIII)Z")] 5

def k1m0 : Method := { name := "<init>", desc := "()V", sig := { parameters := [], returnType := none }, accessFlags := 1, code := none }
def k1c1 : Code := { maxStack := 6, maxLocals := 12, code := code, exceptionTable := #[], attributes := #[] }
def k1m1 : Method := { name := "law", desc := "(IIIIII)Z", sig := { parameters := [.int, .int, .int, .int, .int, .int], returnType := some .boolean }, accessFlags := 9, code := some k1c1 }
def k1c2 : Code := { maxStack := 2, maxLocals := 1, code := method_3_code, exceptionTable := #[], attributes := #[] }
def k1m2 : Method := { name := "isCont", desc := "(I)Z", sig := { parameters := [.int], returnType := some .boolean }, accessFlags := 10, code := some k1c2 }
def k1c3 : Code := { maxStack := 2, maxLocals := 4, code := method_4_code, exceptionTable := #[], attributes := #[] }
def k1m3 : Method := { name := "pay", desc := "(IIIZ)I", sig := { parameters := [.int, .int, .int, .boolean], returnType := some .int }, accessFlags := 10, code := some k1c3 }
def k1c4 : Code := { maxStack := 3, maxLocals := 5, code := method_5_code, exceptionTable := #[], attributes := #[] }
def k1m4 : Method := { name := "decode", desc := "(IIIII)I", sig := { parameters := [.int, .int, .int, .int, .int], returnType := some .int }, accessFlags := 10, code := some k1c4 }
def k1c5 : Code := { maxStack := 7, maxLocals := 13, code := method_6_code, exceptionTable := #[], attributes := #[] }
def k1m5 : Method := { name := "expected", desc := "(IIIII)I", sig := { parameters := [.int, .int, .int, .int, .int], returnType := some .int }, accessFlags := 10, code := some k1c5 }
/-- com/example/xylograph/xylograph/io/Utf8SequenceLengthPinLaw -/
def k1 : Class := { plain "com/example/xylograph/xylograph/io/Utf8SequenceLengthPinLaw" (some 0) with
  accessFlags := 49
  interfaces := #[]
  cf := some (fileOf pool1 15 #[] #[{ accessFlags := 1, nameIndex := 5, descriptorIndex := 6, attributes := #[] }, { accessFlags := 9, nameIndex := 47, descriptorIndex := 48, attributes := #[] }, { accessFlags := 10, nameIndex := 31, descriptorIndex := 32, attributes := #[] }, { accessFlags := 10, nameIndex := 35, descriptorIndex := 36, attributes := #[] }, { accessFlags := 10, nameIndex := 39, descriptorIndex := 19, attributes := #[] }, { accessFlags := 10, nameIndex := 18, descriptorIndex := 19, attributes := #[] }] 49 2 #[] #[])
  fields := #[]
  methods := #[k1m0, k1m1, k1m2, k1m3, k1m4, k1m5]
  instanceTypes := #[]
  staticTypes := #[]
  resolved := Array.replicate 54 none
  statics := none }

def pool2 : Array CpInfo := pool [(2, .class_ 4), (1, u "java/lang/Object"), (0, u "<init>"), (0, u "()V"), (0, .class_ 8), (0, u "com/example/xylograph/xylograph/io/Utf8"), (2, u "sequenceLength"), (0, u "([BII)I"), (0, u "INCOMPLETE"), (0, u "I"), (2, u "MALFORMED")] 10

def k2m0 : Method := { name := "<init>", desc := "()V", sig := { parameters := [], returnType := none }, accessFlags := 2, code := none }
def k2c1 : Code := { maxStack := 3, maxLocals := 9, code := prog_31_method_2_code, exceptionTable := #[], attributes := #[] }
def k2m1 : Method := { name := "sequenceLength", desc := "([BII)I", sig := { parameters := [(.array .byte), .int, .int], returnType := some .int }, accessFlags := 8, code := some k2c1 }
/-- com/example/xylograph/xylograph/io/Utf8 -/
def k2 : Class := { plain "com/example/xylograph/xylograph/io/Utf8" (some 0) with
  accessFlags := 48
  interfaces := #[]
  cf := some (fileOf pool2 7 #[] #[{ accessFlags := 2, nameIndex := 5, descriptorIndex := 6, attributes := #[] }, { accessFlags := 8, nameIndex := 11, descriptorIndex := 12, attributes := #[] }] 48 2 #[] #[{ accessFlags := 24, nameIndex := 13, descriptorIndex := 14, attributes := #[] }, { accessFlags := 24, nameIndex := 17, descriptorIndex := 14, attributes := #[] }])
  fields := #[{ name := "INCOMPLETE", type := .int, accessFlags := 24, slot := 0, constantValue := 0 }, { name := "MALFORMED", type := .int, accessFlags := 24, slot := 1, constantValue := 0 }]
  methods := #[k2m0, k2m1]
  instanceTypes := #[]
  staticTypes := #[.int, .int]
  resolved := Array.replicate 28 none
  statics := none }

def pool3 : Array CpInfo := pool [(1, .class_ 2), (0, u "java/lang/Math"), (1, .class_ 6), (1, u "java/lang/Object"), (0, u "<init>"), (0, u "()V"), (89, .class_ 100), (1, u "java/lang/Math$RandomNumberGeneratorHolder"), (71, u "negativeZeroFloatBits"), (0, u "J"), (2, u "negativeZeroDoubleBits"), (21, u "max"), (2, u "min"), (43, u "$assertionsDisabled"), (0, u "Z"), (88, u "(II)I"), (2, u "twoToTheDoubleScaleDown"), (0, u "D"), (4, u "twoToTheDoubleScaleUp"), (9, u "E"), (3, u "PI"), (2, u "TAU"), (2, u "DEGREES_TO_RADIANS"), (0, u "RADIANS_TO_DEGREES")] 94

def k3m0 : Method := { name := "<init>", desc := "()V", sig := { parameters := [], returnType := none }, accessFlags := 2, code := none }
def k3c1 : Code := { maxStack := 2, maxLocals := 2, code := jdk_29_method_65_code, exceptionTable := #[], attributes := #[] }
def k3m1 : Method := { name := "max", desc := "(II)I", sig := { parameters := [.int, .int], returnType := some .int }, accessFlags := 9, code := some k3c1 }
def k3c2 : Code := { maxStack := 2, maxLocals := 2, code := jdk_29_method_69_code, exceptionTable := #[], attributes := #[] }
def k3m2 : Method := { name := "min", desc := "(II)I", sig := { parameters := [.int, .int], returnType := some .int }, accessFlags := 9, code := some k3c2 }
/-- java/lang/Math -/
def k3 : Class := { plain "java/lang/Math" (some 0) with
  accessFlags := 49
  interfaces := #[]
  cf := some (fileOf pool3 1 #[.nestMembers #[98]] #[{ accessFlags := 2, nameIndex := 7, descriptorIndex := 8, attributes := #[] }, { accessFlags := 9, nameIndex := 198, descriptorIndex := 335, attributes := #[] }, { accessFlags := 9, nameIndex := 201, descriptorIndex := 335, attributes := #[] }] 49 4 #[] #[{ accessFlags := 25, nameIndex := 354, descriptorIndex := 339, attributes := #[] }, { accessFlags := 25, nameIndex := 358, descriptorIndex := 339, attributes := #[] }, { accessFlags := 25, nameIndex := 361, descriptorIndex := 339, attributes := #[] }, { accessFlags := 26, nameIndex := 364, descriptorIndex := 339, attributes := #[] }, { accessFlags := 26, nameIndex := 365, descriptorIndex := 339, attributes := #[] }, { accessFlags := 26, nameIndex := 172, descriptorIndex := 173, attributes := #[] }, { accessFlags := 26, nameIndex := 176, descriptorIndex := 173, attributes := #[] }, { accessFlags := 8, nameIndex := 344, descriptorIndex := 339, attributes := #[] }, { accessFlags := 8, nameIndex := 338, descriptorIndex := 339, attributes := #[] }, { accessFlags := 4120, nameIndex := 245, descriptorIndex := 246, attributes := #[] }])
  fields := #[{ name := "E", type := .double, accessFlags := 25, slot := 0, constantValue := 0 }, { name := "PI", type := .double, accessFlags := 25, slot := 1, constantValue := 0 }, { name := "TAU", type := .double, accessFlags := 25, slot := 2, constantValue := 0 }, { name := "DEGREES_TO_RADIANS", type := .double, accessFlags := 26, slot := 3, constantValue := 0 }, { name := "RADIANS_TO_DEGREES", type := .double, accessFlags := 26, slot := 4, constantValue := 0 }, { name := "negativeZeroFloatBits", type := .long, accessFlags := 26, slot := 5, constantValue := 0 }, { name := "negativeZeroDoubleBits", type := .long, accessFlags := 26, slot := 6, constantValue := 0 }, { name := "twoToTheDoubleScaleUp", type := .double, accessFlags := 8, slot := 7, constantValue := 0 }, { name := "twoToTheDoubleScaleDown", type := .double, accessFlags := 8, slot := 8, constantValue := 0 }, { name := "$assertionsDisabled", type := .boolean, accessFlags := 4120, slot := 9, constantValue := 0 }]
  methods := #[k3m0, k3m1, k3m2]
  instanceTypes := #[]
  staticTypes := #[.double, .double, .double, .double, .double, .long, .long, .double, .double, .boolean]
  resolved := Array.replicate 460 none
  statics := none }

def pool4 : Array CpInfo := pool [(1, u "java/lang/Cloneable"), (0, .class_ 1), (0, u "java/lang/Object"), (0, .class_ 3)] 3

/-- java/lang/Cloneable -/
def k4 : Class := { plain "java/lang/Cloneable" (some 0) with
  accessFlags := 1537
  interfaces := #[]
  cf := some (fileOf pool4 2 #[] #[] 1537 4 #[] #[])
  fields := #[]
  methods := #[]
  instanceTypes := #[]
  staticTypes := #[]
  resolved := Array.replicate 8 none
  statics := none }

def pool5 : Array CpInfo := pool [(1, u "java/io/Serializable"), (0, .class_ 1), (0, u "java/lang/Object"), (0, .class_ 3)] 3

/-- java/io/Serializable -/
def k5 : Class := { plain "java/io/Serializable" (some 0) with
  accessFlags := 1537
  interfaces := #[]
  cf := some (fileOf pool5 2 #[] #[] 1537 4 #[] #[])
  fields := #[]
  methods := #[]
  instanceTypes := #[]
  staticTypes := #[]
  resolved := Array.replicate 8 none
  statics := none }

/-- the primitive byte -/
def k6 : Class := { plain "byte" none with kind := .primitive 'B', accessFlags := 0x411 }
/-- [B -/
def k7 : Class := { plain "[B" (some 0) with kind := .array 6 .byte, interfaces := #[4, 5], accessFlags := 1041 }

/-- the primitive int -/
def k8 : Class := { plain "int" none with kind := .primitive 'I', accessFlags := 0x411 }
/-- [I -/
def k9 : Class := { plain "[I" (some 0) with kind := .array 8 .int, interfaces := #[4, 5], accessFlags := 1041 }

def heap : Heap := #[]
def classes : Array Class := #[k0, k1, k2, k3, k4, k5, k6, k7, k8, k9]
def interned : List (Array UInt16 × Addr) := []
def slotsUsed : Nat := 0
def theMethod : MethodId := ⟨1, 1⟩
def args0 : Array Value := #[.int 195, .int 130, .int 7, .int 3, .int 2, .int 1]
def aboutOver (below : List Frame) : State where
  vm := { classes := classes, interned := interned.toArray }
  heap := heap
  slotsUsed := slotsUsed
  threads := #[{ frames := .invoking theMethod args0 :: below }]
def below0 : List Frame := [.native { method := ⟨0, 0⟩, args := #[] }]
def about1 : State := aboutOver below0
def p0 : Program := .bare "" "" ""
def e0 : Env := launch0.env 0 0 0
theorem w_frames : about1.frames = Frame.invoking theMethod args0 :: below0 := rfl
set_option maxRecDepth 65536 in
theorem w_args : argsFit about1.vm theMethod args0 = true := by decide +kernel
set_option maxRecDepth 65536 in
theorem w_heap : heapFits about1 = true := by decide +kernel
set_option maxRecDepth 65536 in
theorem w_runnable : about1.curStatus? = some .runnable := by decide +kernel
set_option maxRecDepth 65536 in
theorem w_alone : about1.alone = true := by decide +kernel
set_option maxRecDepth 65536 in
theorem w_named : about1.methodNamed? x = some theMethod := by decide +kernel
set_option maxRecDepth 65536 in
theorem w_hears : about1.hears theMethod below0 = true := by decide +kernel
set_option maxRecDepth 65536 in
theorem w_ripe : about1.ripe theMethod args0 below0 = true := by decide +kernel
theorem w_running : about1.status = .running := rfl
set_option maxRecDepth 65536 in
theorem w_room : about1.hasRoom e0.platform room_1 = true :=
  launch0.hasRoom_least _ room_1 (by decide +kernel) (by decide +kernel) (by decide +kernel) (by decide +kernel) (by decide +kernel) (by decide +kernel)
theorem allAtoms_all (ts : List Jvm.Cond) (a : Array Jvm.Value) (st : Jvm.State) : (allAtoms ts).before a st = ts.all (fun c => c.before a st) := by
  induction ts with
  | nil => rfl
  | cons c t ih =>
    show (Jvm.Cond.and c (allAtoms t)).before a st = _
    rw [Jvm.Cond.before_and, ih, List.all_cons]
def words1 : List Jvm.Cond := Jvm.Cond.code x code maxLocals ret :: tables_1
/-- a 'code' word, met by the world's own term for the bytes: nothing is compared byte by byte -/
theorem code_word {y : MethodName} {bytes : ByteArray} {mx : Nat} {rt : Option FieldType} {a : Array Value} {s : State} {m : MethodId} {meth : Method} {c : Code} (h1 : s.methodNamed? y = some m) (h2 : s.vm.method? m = some meth) (h3 : meth.code = some c) (h4 : c.code = bytes)
    (h5 : (c.maxLocals == mx && c.exceptionTable.isEmpty && decide (c.maxStack ≤ mostOperands) && decide (meth.sig.returnType = rt) && !meth.locks && decide (parseMethodDescriptor y.desc = some meth.sig)) = true) : (Jvm.Cond.code y bytes mx rt).before a s = true := by
  simp only [Bool.and_eq_true, beq_iff_eq, Bool.not_eq_true', decide_eq_true_eq] at h5
  obtain ⟨⟨⟨⟨⟨g1, g2⟩, g3⟩, g4⟩, g5⟩, g6⟩ := h5
  simp [Cond.before, Cond.holds, Cond.value, h1, h2, h3, h4, g1, g2, g3, g4, g5, g6]
def isCode : Jvm.Cond → Bool
  | .code _ _ _ _ => true
  | _ => false
theorem all_split {L : List Jvm.Cond} {P : Jvm.Cond → Bool} (h1 : L.all (fun c => isCode c || P c) = true) (h2 : ∀ c ∈ L.filter isCode, P c = true) : L.all P = true := by
  refine List.all_eq_true.mpr fun c hc => ?_
  have h := List.all_eq_true.mp h1 c hc
  rcases Bool.eq_false_or_eq_true (isCode c) with hi | hi
  · exact h2 c (List.mem_filter.mpr ⟨hc, hi⟩)
  · simpa [hi] using h
set_option maxRecDepth 65536 in
theorem w_c0 : (Jvm.Cond.code x code maxLocals ret).before args0 about1 = true := code_word (m := ⟨1, 1⟩) (meth := k1m1) (c := k1c1) (by decide +kernel) rfl rfl rfl (by decide +kernel)
set_option maxRecDepth 65536 in
theorem w_c1 : (Jvm.Cond.code ({ cls := "com/example/xylograph/xylograph/io/Utf8", name := "sequenceLength", desc := "([BII)I" } : Jvm.MethodName) prog_31_method_2_code (9 : Nat) (Option.some Jvm.ClassFile.FieldType.int)).before args0 about1 = true := code_word (m := ⟨2, 1⟩) (meth := k2m1) (c := k2c1) (by decide +kernel) rfl rfl rfl (by decide +kernel)
set_option maxRecDepth 65536 in
theorem w_c2 : (Jvm.Cond.code ({ cls := "com/example/xylograph/xylograph/io/Utf8SequenceLengthPinLaw", name := "expected", desc := "(IIIII)I" } : Jvm.MethodName) method_6_code (13 : Nat) (Option.some Jvm.ClassFile.FieldType.int)).before args0 about1 = true := code_word (m := ⟨1, 5⟩) (meth := k1m5) (c := k1c5) (by decide +kernel) rfl rfl rfl (by decide +kernel)
set_option maxRecDepth 65536 in
theorem w_c3 : (Jvm.Cond.code ({ cls := "java/lang/Math", name := "min", desc := "(II)I" } : Jvm.MethodName) jdk_29_method_69_code (2 : Nat) (Option.some Jvm.ClassFile.FieldType.int)).before args0 about1 = true := code_word (m := ⟨3, 2⟩) (meth := k3m2) (c := k3c2) (by decide +kernel) rfl rfl rfl (by decide +kernel)
set_option maxRecDepth 65536 in
theorem w_c4 : (Jvm.Cond.code ({ cls := "com/example/xylograph/xylograph/io/Utf8SequenceLengthPinLaw", name := "isCont", desc := "(I)Z" } : Jvm.MethodName) method_3_code (1 : Nat) (Option.some Jvm.ClassFile.FieldType.boolean)).before args0 about1 = true := code_word (m := ⟨1, 2⟩) (meth := k1m2) (c := k1c2) (by decide +kernel) rfl rfl rfl (by decide +kernel)
set_option maxRecDepth 65536 in
theorem w_c5 : (Jvm.Cond.code ({ cls := "com/example/xylograph/xylograph/io/Utf8SequenceLengthPinLaw", name := "pay", desc := "(IIIZ)I" } : Jvm.MethodName) method_4_code (4 : Nat) (Option.some Jvm.ClassFile.FieldType.int)).before args0 about1 = true := code_word (m := ⟨1, 3⟩) (meth := k1m3) (c := k1c3) (by decide +kernel) rfl rfl rfl (by decide +kernel)
set_option maxRecDepth 65536 in
theorem w_c6 : (Jvm.Cond.code ({ cls := "com/example/xylograph/xylograph/io/Utf8SequenceLengthPinLaw", name := "decode", desc := "(IIIII)I" } : Jvm.MethodName) method_5_code (5 : Nat) (Option.some Jvm.ClassFile.FieldType.int)).before args0 about1 = true := code_word (m := ⟨1, 4⟩) (meth := k1m4) (c := k1c4) (by decide +kernel) rfl rfl rfl (by decide +kernel)
set_option maxRecDepth 65536 in
theorem w_c7 : (Jvm.Cond.code ({ cls := "java/lang/Math", name := "max", desc := "(II)I" } : Jvm.MethodName) jdk_29_method_65_code (2 : Nat) (Option.some Jvm.ClassFile.FieldType.int)).before args0 about1 = true := code_word (m := ⟨3, 1⟩) (meth := k3m1) (c := k3c1) (by decide +kernel) rfl rfl rfl (by decide +kernel)
def codes1 : List Jvm.Cond := [Jvm.Cond.code x code maxLocals ret, Jvm.Cond.code ({ cls := "com/example/xylograph/xylograph/io/Utf8", name := "sequenceLength", desc := "([BII)I" } : Jvm.MethodName) prog_31_method_2_code (9 : Nat) (Option.some Jvm.ClassFile.FieldType.int), Jvm.Cond.code ({ cls := "com/example/xylograph/xylograph/io/Utf8SequenceLengthPinLaw", name := "expected", desc := "(IIIII)I" } : Jvm.MethodName) method_6_code (13 : Nat) (Option.some Jvm.ClassFile.FieldType.int), Jvm.Cond.code ({ cls := "java/lang/Math", name := "min", desc := "(II)I" } : Jvm.MethodName) jdk_29_method_69_code (2 : Nat) (Option.some Jvm.ClassFile.FieldType.int), Jvm.Cond.code ({ cls := "com/example/xylograph/xylograph/io/Utf8SequenceLengthPinLaw", name := "isCont", desc := "(I)Z" } : Jvm.MethodName) method_3_code (1 : Nat) (Option.some Jvm.ClassFile.FieldType.boolean), Jvm.Cond.code ({ cls := "com/example/xylograph/xylograph/io/Utf8SequenceLengthPinLaw", name := "pay", desc := "(IIIZ)I" } : Jvm.MethodName) method_4_code (4 : Nat) (Option.some Jvm.ClassFile.FieldType.int), Jvm.Cond.code ({ cls := "com/example/xylograph/xylograph/io/Utf8SequenceLengthPinLaw", name := "decode", desc := "(IIIII)I" } : Jvm.MethodName) method_5_code (5 : Nat) (Option.some Jvm.ClassFile.FieldType.int), Jvm.Cond.code ({ cls := "java/lang/Math", name := "max", desc := "(II)I" } : Jvm.MethodName) jdk_29_method_65_code (2 : Nat) (Option.some Jvm.ClassFile.FieldType.int)]
set_option maxRecDepth 65536 in
theorem codes_eq : words1.filter isCode = codes1 := rfl
theorem w_codes : ∀ c ∈ words1.filter isCode, c.before args0 about1 = true := by
  rw [codes_eq]
  intro c hc
  simp only [codes1, List.mem_cons, List.not_mem_nil, or_false] at hc
  rcases hc with rfl | rfl | rfl | rfl | rfl | rfl | rfl | rfl
  · exact w_c0
  · exact w_c1
  · exact w_c2
  · exact w_c3
  · exact w_c4
  · exact w_c5
  · exact w_c6
  · exact w_c7
set_option maxRecDepth 65536 in
theorem w_t1 : (words1.take 24).all (fun c => isCode c || c.before args0 about1) = true := by decide +kernel
set_option maxRecDepth 65536 in
theorem w_t2 : (words1.drop 24).all (fun c => isCode c || c.before args0 about1) = true := by decide +kernel
theorem w_tables : (allAtoms (Jvm.Cond.code x code maxLocals ret :: tables_1)).before args0 about1 = true := by
  rw [allAtoms_all]
  show words1.all (fun c => c.before args0 about1) = true
  refine all_split ?_ w_codes
  rw [← List.take_append_drop 24 words1, List.all_append, w_t1, w_t2]
  rfl
set_option maxRecDepth 65536 in
theorem w_case : (Jvm.Cond.and given_1 narrow_1).before args0 about1 = true := by decide +kernel
theorem w_applies : (headSpec (Jvm.Cond.code x code maxLocals ret :: tables_1) room_1).applies x e0.platform about1 = true :=
  (Spec.applies_iff w_frames).mpr ⟨w_running, w_runnable, w_alone, w_named, w_hears, w_ripe, w_room, w_tables⟩
theorem atStart : AtStart classFile x code maxLocals ret World_1 tables_1 room_1 Calls_1 rest_1 Pre_1 launch0 p0 e0 about1 theMethod args0 below0 :=
  ⟨lists_1, trivial, launch0.admits_env _ _ _, launch0.least_env, fairChoices_fair.cas, fairChoices_fair.clock, w_frames, w_args, w_heap, w_applies, trivial, trivial, w_case⟩
end start1
theorem witness_1 : WitnessClaimed_1 := ⟨start1.p0, start1.e0, start1.about1, start1.theMethod, start1.args0, start1.below0, start1.atStart⟩
end Jvm.Pilot.@@N@@
