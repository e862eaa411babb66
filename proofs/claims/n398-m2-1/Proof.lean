import JvmDerived
import JvmDerived.Pilot.@@N@@Statement
import JvmDerived.Pilot.@@N@@Code
set_option linter.unusedVariables false
set_option linter.unusedSimpArgs false

namespace Jvm.Pilot.@@N@@
open Jvm Jvm.ClassFile Sem Op Lib Jvm.Free Jvm.Stand Jvm.LawKit Jvm.RoadKit Bundle Jvm.Pilot.@@N@@.Jvm.D
/-! own layer: 'from here the run ends, and Q holds of what it leaves' (own_Dn), stepped backwards -/
def own_Dn (p : Program) (e : Env) (below : List Frame) (s : State) (Q : Option Value → Heap → List Loc → Prop) (K N : Nat) (A : State) : Prop :=
  ∃ s₂ o, Steps p.tables e below A s₂ ∧ s₂.status = .running ∧ Ended s₂ below o ∧ ∃ v L, o = .returned v ∧ Q v s₂.heap L ∧ FrameEnd s o s₂ L K N
def own_Q (r : Option Value) (n0 : Nat) (h0 : Heap) (v : Option Value) (h : Heap) (L : List Loc) : Prop := v = r ∧ Fr n0 L ∧ h = h0
def own_QL (r : Option Value) (n0 : Nat) (v : Option Value) (h : Heap) (L : List Loc) : Prop := v = r ∧ Fr n0 L
def own_Cx (p : Program) (s : State) (m : MethodId) (meth : Method) (c : Code) (Z : State) (a0 : Array Value) (bytes : ByteArray) (ml : Nat) (own nm : String) (ret : Option FieldType) : Prop :=
  p.tables.exec = Jvm.exec ∧ Z.Warmed39 s.vm ∧ (∀ d ∈ tables_1, d.before a0 Z = true) ∧ c.code = bytes ∧ c.maxLocals = ml ∧ s.vm.findClass own = some m.cls ∧ meth.sig.returnType = ret ∧ meth.locks = false ∧ meth.name = nm
theorem own_st {p : Program} {e : Env} {below : List Frame} {s : State} {Q : Option Value → Heap → List Loc → Prop} {K N : Nat} {A B : State} (k : ∀ t, Steps p.tables e below B t → Steps p.tables e below A t) (d : own_Dn p e below s Q K N B) : own_Dn p e below s Q K N A := by
  obtain ⟨s₂, o, h, r⟩ := d
  exact ⟨s₂, o, k _ h, r⟩
theorem own_tr {p : Program} {e : Env} {below : List Frame} {s : State} {Q : Option Value → Heap → List Loc → Prop} {K N : Nat} {A B : State} (k : Steps p.tables e below A B) (d : own_Dn p e below s Q K N B) : own_Dn p e below s Q K N A :=
  own_st (fun _ h => k.trans h) d
theorem own_cat {v : Value} (h : v.isRef = true) : v.category = 1 := by
  cases v <;> first | rfl | (simp [Value.isRef] at h)
section own
variable {p : Program} {l : Launch} {e : Env} {R : Room} {s : State} {m : MethodId} {args : Array Value} {below : List Frame} {meth : Method} {c : Code} {T : State} {locs : List Loc} {cells slots : Nat} {Q : Option Value → Heap → List Loc → Prop} {K N : Nat}
theorem own_ret (X : Stand p l e R s m args below meth c T locs cells slots) (hlk : meth.locks = false) {v : Option Value} (hv : meth.sig.returnType = none → v = none) {A : State} (hK : cells ≤ K) (hN : slots ≤ N) (hq : Q v T.heap locs)
    (hst : ∀ fs, (∀ (f : JFrame) (acts : List Action), f.method = m → f.locked = none → f.entered = [] → (doReturn e (T.setTop f) acts v).1 = T.setFrames fs) → Steps p.tables e below A (T.setFrames fs)) : own_Dn p e below s Q K N A := by
  obtain ⟨fs, hr, hrun, hended, hW, hsame⟩ := X.leave (v := v) hv hlk
  exact ⟨_, _, hst fs hr, hrun, hended, _, _, rfl, hq, ⟨_, rfl⟩, hW, hsame.mono hK hN⟩
theorem own_retI (X : Stand p l e R s m args below meth c T locs cells slots) (hx : p.tables.exec = Jvm.exec) (hret : meth.sig.returnType = some .int) (hlk : meth.locks = false) {pc : Nat} {Ls : Array Slot} {z : Int32} {rest : List Value} (hd : decode c.code pc = .ok (.ireturn, 1)) (hK : cells ≤ K) (hN : slots ≤ N)
    (hq : Q (some (.int z)) T.heap locs) : own_Dn p e below s Q K N (T.setTop (mkF m pc Ls (.int z :: rest))) :=
  own_ret X hlk (fun h => by rw [hret] at h; cases h) hK hN hq (fun fs hr => retOut X hx hret rfl (Or.inl ⟨rfl, Or.inl rfl, _, rfl⟩) hd hr)
theorem own_retJ (X : Stand p l e R s m args below meth c T locs cells slots) (hx : p.tables.exec = Jvm.exec) (hret : meth.sig.returnType = some .long) (hlk : meth.locks = false) {pc : Nat} {Ls : Array Slot} {z : Int64} {rest : List Value} (hd : decode c.code pc = .ok (.lreturn, 1)) (hK : cells ≤ K) (hN : slots ≤ N)
    (hq : Q (some (.long z)) T.heap locs) : own_Dn p e below s Q K N (T.setTop (mkF m pc Ls (.long z :: rest))) :=
  own_ret X hlk (fun h => by rw [hret] at h; cases h) hK hN hq (fun fs hr => retOut X hx hret rfl (Or.inr (Or.inl ⟨rfl, rfl, _, rfl⟩)) hd hr)
theorem own_retZ (X : Stand p l e R s m args below meth c T locs cells slots) (hx : p.tables.exec = Jvm.exec) (hret : meth.sig.returnType = some .boolean) (hlk : meth.locks = false) {pc : Nat} {Ls : Array Slot} {z : Int32} {rest : List Value} (hz : z &&& 1 = z) (hd : decode c.code pc = .ok (.ireturn, 1)) (hK : cells ≤ K) (hN : slots ≤ N)
    (hq : Q (some (.int z)) T.heap locs) : own_Dn p e below s Q K N (T.setTop (mkF m pc Ls (.int z :: rest))) :=
  own_ret X hlk (fun h => by rw [hret] at h; cases h) hK hN hq (fun fs hr => retOut X hx (w := .int z) hret (show Value.int (z &&& 1) = .int z from congrArg Value.int hz) (Or.inl ⟨rfl, Or.inr (Or.inl rfl), _, rfl⟩) hd hr)
theorem own_retV (X : Stand p l e R s m args below meth c T locs cells slots) (hx : p.tables.exec = Jvm.exec) (hret : meth.sig.returnType = none) (hlk : meth.locks = false) {pc : Nat} {Ls : Array Slot} (hd : decode c.code pc = .ok (.return_, 1)) (hK : cells ≤ K) (hN : slots ≤ N)
    (hq : Q none T.heap locs) : own_Dn p e below s Q K N (T.setTop (mkF m pc Ls [])) :=
  own_ret X hlk (fun _ => rfl) hK hN hq (fun fs hr => X.returnOut hx hret hd hr)
theorem own_retA (X : Stand p l e R s m args below meth c T locs cells slots) (hx : p.tables.exec = Jvm.exec) {t : FieldType} (ht : t.isReference = true) (hret : meth.sig.returnType = some t) (hlk : meth.locks = false) {pc : Nat} {Ls : Array Slot} {w : Value} {rest : List Value} (hw : w.isRef = true) (hn : narrow t w = w) (hd : decode c.code pc = .ok (.areturn, 1)) (hK : cells ≤ K) (hN : slots ≤ N)
    (hq : Q (some w) T.heap locs) : own_Dn p e below s Q K N (T.setTop (mkF m pc Ls (w :: rest))) :=
  own_ret X hlk (fun h => by rw [hret] at h; cases h) hK hN hq (fun fs hr => retOut X hx hret hn (Or.inr (Or.inr (Or.inr (Or.inr ⟨rfl, ht, hw⟩)))) hd hr)
end own
theorem own_met {l : Launch} {Z : State} {a0 : Array Value} (hw : ∀ d ∈ tables_1, d.before a0 Z = true) {y : MethodName} {bytes : ByteArray} {ml : Nat} {ret : Option FieldType} {ws : List Jvm.Cond} {rm : Room} {as' : Array Value} {h0 : Heap} {Q : Option Value → Heap → List Loc → Prop} (hpl : plainFor y = true)
    (body : ∀ p e s m below meth c s₁, own_Cx p s m meth c Z a0 bytes ml y.cls y.name ret → Stand p l e rm s m as' below meth c s₁ [] 0 0 → s₁.heap = h0 → own_Dn p e below s Q rm.cells rm.slots (s₁.setTop (entryFrame m as' ml))) :
    MetFree l y (head1 (Jvm.Cond.code y bytes ml ret :: ws) rm) (fun a U => a = as' ∧ Z.Warmed39 U.vm ∧ U.heap = h0) (fun _ _ _ _ _ => True) (fun _ U o U' => ∃ v L, o = .returned v ∧ Q v U'.heap L ∧ FrameEnd U o U' L rm.cells rm.slots) := by
  refine MetFree.of_bodySF hpl hisR ?_
  intro p e s m args below meth c s₁ Bd hml0 hP hK
  obtain ⟨rfl, hZ, hh⟩ := hP
  exact body p e s m below meth c s₁ ⟨Bd.exec, hZ, hw, Bd.bytes, hml0, findClass_of_methodNamed Bd.named, Bd.returns, BodyLoose.notSynchronized Bd, (name_of_methodNamed Bd.named Bd.method).1⟩ (Stand.of_body Bd) (by rw [← hh, Bd.state]; rfl)
theorem own_jtlt {x y : Int64} (h : x < y) : ifCond.holds .lt (lcmpW x y) = true ∧ ifCond.holds .ge (lcmpW x y) = false ∧ ifCond.holds .gt (lcmpW y x) = true ∧ ifCond.holds .le (lcmpW y x) = false := by
  have h1 : lcmpW x y < 0 := by rw [lcW]; exact (lc_lt x y).mpr h
  have h2 : 0 < lcmpW y x := by rw [lcW]; exact (lc_gt y x).mpr h
  exact ⟨(if0 _ _).trans (tlt h1).1, (if0 _ _).trans (tlt h1).2.1, (if0 _ _).trans (tlt h2).2.2.1, (if0 _ _).trans (tlt h2).2.2.2⟩
theorem own_jflt {x y : Int64} (h : ¬ x < y) : ifCond.holds .lt (lcmpW x y) = false ∧ ifCond.holds .ge (lcmpW x y) = true ∧ ifCond.holds .gt (lcmpW y x) = false ∧ ifCond.holds .le (lcmpW y x) = true := by
  have h1 : ¬ lcmpW x y < 0 := by rw [lcW]; exact fun q => h ((lc_lt x y).mp q)
  have h2 : ¬ 0 < lcmpW y x := by rw [lcW]; exact fun q => h ((lc_gt y x).mp q)
  exact ⟨(if0 _ _).trans (flt h1).1, (if0 _ _).trans (flt h1).2.1, (if0 _ _).trans (flt h2).2.2.1, (if0 _ _).trans (flt h2).2.2.2⟩
theorem own_jteq {x y : Int64} (h : x = y) : ifCond.holds .eq (lcmpW x y) = true ∧ ifCond.holds .ne (lcmpW x y) = false := by
  have h1 : lcmpW x y = 0 := by rw [lcW]; exact (lc_eq x y).mpr h
  exact ⟨(if0 _ _).trans (teq h1).1, (if0 _ _).trans (teq h1).2⟩
theorem own_jfeq {x y : Int64} (h : ¬ x = y) : ifCond.holds .eq (lcmpW x y) = false ∧ ifCond.holds .ne (lcmpW x y) = true := by
  have h1 : ¬ lcmpW x y = 0 := by rw [lcW]; exact fun q => h ((lc_eq x y).mp q)
  exact ⟨(if0 _ _).trans (feq h1).1, (if0 _ _).trans (feq h1).2⟩
theorem own_miss (a : Int32) (ks : List Int32) (h : ∀ k ∈ ks, ¬ a = k) {ps : List (Int × Int)} (e : ps.map (·.1) = ks.map Int32.toInt) : ∀ p ∈ ps, p.1 ≠ a.toInt := by
  intro p hp q
  have h1 : p.1 ∈ ps.map (·.1) := List.mem_map.mpr ⟨p, hp, rfl⟩
  rw [e] at h1
  obtain ⟨k, hk, r⟩ := List.mem_map.mp h1
  exact h k hk (Int32.toInt_inj.mp (q.symm.trans r.symm))
theorem own_Sta_keep {Z : State} {h h' : Heap} {C n d : String} {v : Value} {a : Addr} {C' : String} (F : Sta Z h C n d v) (K : Keep h h' [a]) (E : Exa Z h a C') : Sta Z h' C n d v := by
  obtain ⟨cf, i, k, f, st, cell, h1, h2, h3, h4, h5, h6, h7⟩ := F
  obtain ⟨cl, k', e1, -, -, e4, -⟩ := E
  refine ⟨cf, i, k, f, st, cell, h1, h2, h3, h4, K.2.1 _ _ h5 (ninS (fun q => ?_) nin0), h6, h7⟩
  subst q
  cases h5.symm.trans e1
  rw [h6] at e4; cases e4
theorem own_Sta_keep0 {Z : State} {h h' : Heap} {C n d : String} {v : Value} (F : Sta Z h C n d v) (K : Keep h h' []) : Sta Z h' C n d v := by
  obtain ⟨cf, i, k, f, st, cell, h1, h2, h3, h4, h5, h6, h7⟩ := F
  exact ⟨cf, i, k, f, st, cell, h1, h2, h3, h4, K.2.1 _ _ h5 nin0, h6, h7⟩
theorem own_ne_or {r x : Addr} {ws : List Addr} {H : Heap} (h : r ∈ ws ∨ H.size ≤ r) (hl : x < H.size) (hn : x ∉ ws) : x ≠ r := fun e => h.elim (fun q => hn (e ▸ q)) (fun q => Nat.lt_irrefl _ (Nat.lt_of_lt_of_le (e ▸ hl) q))
theorem own_or_up {r : Addr} {ws ws' : List Addr} {h0 H : Heap} (h : r ∈ ws ∨ H.size ≤ r) (hk : h0.size ≤ H.size) (all : ∀ x ∈ ws, x ∈ ws' ∨ h0.size ≤ x) : r ∈ ws' ∨ h0.size ≤ r := h.elim (all r) (fun q => Or.inr (Nat.le_trans hk q))
theorem own_selp {Z s : State} {a0 args : Array Value} {y : MethodName} {n : Nat} (hZ : Z.Warmed39 s.vm) (w1 : (Cond.instantiable y.cls n).before a0 Z = true) (w2 : (Cond.instanceMethod y).before a0 Z = true) (w3 : (Cond.privateMethod y).before a0 Z = true) (hy : y.cls ≠ "java/lang/invoke/MethodHandle" ∧ y.cls ≠ "java/lang/invoke/VarHandle") : (Cond.selects y.cls y y).before args s = true := by
  have i1 : (Cond.instantiable y.cls n).before args s = true := mvT hZ w1
  obtain ⟨c, k, h1, h2, -, h4, -, -⟩ := Cond.instantiable_spec i1
  have h5 : k.isInterface = false := by
    cases hk : k.isInterface
    · rfl
    · rw [hk] at h4; simp at h4
  exact selects_self_of_private h1 h2 h5 (Cond.privateMethod_at (mvP hZ w3 (args := args))) (mvT hZ w2) hy

/-! own layer, arrays: an array's places as a function -/
def own_Arf (Z : State) (h : Heap) (a : Addr) (ty : FieldType) (n : Nat) (f : Nat → Value) : Prop := ∃ c : Cell, Arr Z h a c ty ∧ c.slots.size = n ∧ n < 2 ^ 31 ∧ ∀ i, i < n → c.slots[i]? = some (f i)
def own_upd {α : Type} (g : Nat → α) (j : Nat) (v : α) (i : Nat) : α := if i = j then v else g i
section ownA
variable {Z : State} {h h' : Heap} {a b : Addr} {ty : FieldType} {n sl : Nat} {f : Nat → Value} {v : Value} {ws : List Addr}
theorem own_Arf.lt (F : own_Arf Z h a ty n f) : a < h.size := by obtain ⟨c, A, -⟩ := F; exact A.lt
theorem own_Arf.ext (F : own_Arf Z h a ty n f) (E : Ext h h') : own_Arf Z h' a ty n f := by obtain ⟨c, A, q⟩ := F; exact ⟨c, A.ext E, q⟩
theorem own_Arf.other (F : own_Arf Z h b ty n f) (W : Wr h h' a sl v) (q : b ≠ a) : own_Arf Z h' b ty n f := by obtain ⟨c, A, r⟩ := F; exact ⟨c, A.other W q, r⟩
theorem own_Arf.keep (F : own_Arf Z h a ty n f) (K : Keep h h' ws) (q : a ∉ ws) : own_Arf Z h' a ty n f := by obtain ⟨c, A, r⟩ := F; exact ⟨c, ⟨K.2.1 _ _ A.1 q, A.2⟩, r⟩
theorem own_Arf.congr {f' : Nat → Value} (F : own_Arf Z h a ty n f) (q : ∀ i, i < n → f i = f' i) : own_Arf Z h a ty n f' := by
  obtain ⟨c, A, hs, hn, hf⟩ := F
  exact ⟨c, A, hs, hn, fun i hi => by rw [hf i hi, q i hi]⟩
theorem own_Arf.new {k : ClassId} {z : Int32} (A : Arr Z h a (newA k ty z) ty) (q : z.toNatClampNeg = n) (hn : n < 2 ^ 31) : own_Arf Z h a ty n (fun _ => defaultValue ty) := by
  refine ⟨_, A, by rw [sz_new]; exact q, hn, fun i hi => ?_⟩
  simp [newA, q, hi]
theorem own_Arf.set (F : own_Arf Z h a ty n f) (W : Wr h h' a sl v) (hj : sl < n) : own_Arf Z h' a ty n (own_upd f sl v) := by
  obtain ⟨c, A, hs, hn, hf⟩ := F
  refine ⟨c.setSlot sl v, A.same W, by rw [sz_set]; exact hs, hn, fun i hi => ?_⟩
  simp only [own_upd]
  split
  · rename_i q; subst q; simp [Cell.setSlot, hs, hi]
  · rename_i q; simp [Cell.setSlot, Array.getElem?_setIfInBounds, Ne.symm q, hf i hi]
theorem own_Arf.setI {g : Nat → Int32} {x : Int32} (F : own_Arf Z h a ty n (fun i => .int (g i))) (W : Wr h h' a sl (.int x)) (hj : sl < n) : own_Arf Z h' a ty n (fun i => .int (own_upd g sl x i)) :=
  (F.set W hj).congr fun i _ => by simp only [own_upd]; split <;> rfl
theorem own_Arf.setJ {g : Nat → Int64} {x : Int64} (F : own_Arf Z h a ty n (fun i => .long (g i))) (W : Wr h h' a sl (.long x)) (hj : sl < n) : own_Arf Z h' a ty n (fun i => .long (own_upd g sl x i)) :=
  (F.set W hj).congr fun i _ => by simp only [own_upd]; split <;> rfl
variable {p : Program} {l : Launch} {e : Env} {R : Room} {s : State} {m : MethodId} {args : Array Value} {below : List Frame} {meth : Method} {c : Code} {T : State} {locs : List Loc} {cells slots : Nat}
theorem own_ldI (X : Stand p l e R s m args below meth c T locs cells slots) (hx : p.tables.exec = Jvm.exec) (hZ : Z.Warmed39 s.vm) (eT : T.heap = h) (F : own_Arf Z h a .int n f) {j : Int32} (h0 : ¬ j < 0) (hj : j.toNatClampNeg < n) {pc : Nat} {L : Array Slot} {rest : List Value} (hd : decode c.code pc = .ok (.iaload, 1)) :
    ∀ target, Steps p.tables e below (T.setTop (mkF m (pc + 1) L (f j.toNatClampNeg :: rest))) target → Steps p.tables e below (T.setTop (mkF m pc L (.int j :: .ref a :: rest))) target := by
  obtain ⟨cl, A, hs, hn, hf⟩ := F
  intro target k
  exact X.iaload hx (j := j) (v := f j.toNatClampNeg) (by rw [eT]; exact A.1) (State.isArrayOf_alike hZ.alike A.2.1) A.2.2 (fun q => q.elim h0 (fun r => by omega)) (hf _ hj) (g := mkF m pc L (.int j :: .ref a :: rest)) rfl rfl hd _ k
theorem own_ldJ (X : Stand p l e R s m args below meth c T locs cells slots) (hx : p.tables.exec = Jvm.exec) (hZ : Z.Warmed39 s.vm) (eT : T.heap = h) (F : own_Arf Z h a .long n f) {j : Int32} (h0 : ¬ j < 0) (hj : j.toNatClampNeg < n) {pc : Nat} {L : Array Slot} {rest : List Value} (hd : decode c.code pc = .ok (.laload, 1)) :
    ∀ target, Steps p.tables e below (T.setTop (mkF m (pc + 1) L (f j.toNatClampNeg :: rest))) target → Steps p.tables e below (T.setTop (mkF m pc L (.int j :: .ref a :: rest))) target := by
  obtain ⟨cl, A, hs, hn, hf⟩ := F
  intro target k
  exact X.laload hx (j := j) (v := f j.toNatClampNeg) (by rw [eT]; exact A.1) (State.isArrayOf_alike hZ.alike A.2.1) A.2.2 (fun q => q.elim h0 (fun r => by omega)) (hf _ hj) (g := mkF m pc L (.int j :: .ref a :: rest)) rfl rfl hd _ k
theorem own_ldB (X : Stand p l e R s m args below meth c T locs cells slots) (hx : p.tables.exec = Jvm.exec) (hZ : Z.Warmed39 s.vm) (eT : T.heap = h) (F : own_Arf Z h a .byte n f) {j : Int32} (h0 : ¬ j < 0) (hj : j.toNatClampNeg < n) {pc : Nat} {L : Array Slot} {rest : List Value} (hd : decode c.code pc = .ok (.baload, 1)) :
    ∀ target, Steps p.tables e below (T.setTop (mkF m (pc + 1) L (f j.toNatClampNeg :: rest))) target → Steps p.tables e below (T.setTop (mkF m pc L (.int j :: .ref a :: rest))) target := by
  obtain ⟨cl, A, hs, hn, hf⟩ := F
  intro target k
  exact X.baloadBytes hx (j := j) (v := f j.toNatClampNeg) (by rw [eT]; exact A.1) (State.isArrayOf_alike hZ.alike A.2.1) A.2.2 (fun q => q.elim h0 (fun r => by omega)) (hf _ hj) (g := mkF m pc L (.int j :: .ref a :: rest)) rfl rfl hd _ k
theorem own_len (X : Stand p l e R s m args below meth c T locs cells slots) (hx : p.tables.exec = Jvm.exec) (hZ : Z.Warmed39 s.vm) (eT : T.heap = h) (F : own_Arf Z h a ty n f) {z : Int32} (hz : n.toInt32 = z) {pc : Nat} {L : Array Slot} {rest : List Value} (hd : decode c.code pc = .ok (.arraylength, 1)) :
    ∀ target, Steps p.tables e below (T.setTop (mkF m (pc + 1) L (.int z :: rest))) target → Steps p.tables e below (T.setTop (mkF m pc L (.ref a :: rest))) target := by
  obtain ⟨cl, A, hs, hn, hf⟩ := F
  intro target k
  refine X.arraylength hx (cell := cl) (by rw [eT]; exact A.1) (State.isArrayOf_alike hZ.alike A.2.1) (g := mkF m pc L (.ref a :: rest)) rfl (rest := rest) rfl hd _ ?_
  rw [hs, hz]; exact k
theorem own_stI (X : Stand p l e R s m args below meth c T locs cells slots) (hx : p.tables.exec = Jvm.exec) (hZ : Z.Warmed39 s.vm) (eT : T.heap = h) {g : Nat → Int32} (F : own_Arf Z h a .int n (fun i => .int (g i))) {j x : Int32} (h0 : ¬ j < 0) (hj : j.toNatClampNeg < n) {pc : Nat} {L : Array Slot} {rest : List Value} (hd : decode c.code pc = .ok (.iastore, 1)) :
    ∃ T' h', Stand p l e R s m args below meth c T' (locs ++ [⟨a, j.toNatClampNeg⟩]) cells slots ∧ T'.heap = h' ∧ Wr h h' a j.toNatClampNeg (.int x) ∧ own_Arf Z h' a .int n (fun i => .int (own_upd g j.toNatClampNeg x i)) ∧
      ∀ target, Steps p.tables e below (T'.setTop (mkF m (pc + 1) L rest)) target → Steps p.tables e below (T.setTop (mkF m pc L (.int x :: .int j :: .ref a :: rest))) target := by
  have F' := F
  obtain ⟨cl, A, hs, hn, hf⟩ := F
  obtain ⟨T', h', X', e', W, st⟩ := stI X hx hZ eT A (j := j) (x := x) (fun q => q.elim h0 (fun r => by omega)) (g := mkF m pc L (.int x :: .int j :: .ref a :: rest)) rfl rfl hd
  exact ⟨T', h', X', e', W, F'.setI W hj, st⟩
theorem own_stJ (X : Stand p l e R s m args below meth c T locs cells slots) (hx : p.tables.exec = Jvm.exec) (hZ : Z.Warmed39 s.vm) (eT : T.heap = h) {g : Nat → Int64} (F : own_Arf Z h a .long n (fun i => .long (g i))) {j : Int32} {x : Int64} (h0 : ¬ j < 0) (hj : j.toNatClampNeg < n) {pc : Nat} {L : Array Slot} {rest : List Value} (hd : decode c.code pc = .ok (.lastore, 1)) :
    ∃ T' h', Stand p l e R s m args below meth c T' (locs ++ [⟨a, j.toNatClampNeg⟩]) cells slots ∧ T'.heap = h' ∧ Wr h h' a j.toNatClampNeg (.long x) ∧ own_Arf Z h' a .long n (fun i => .long (own_upd g j.toNatClampNeg x i)) ∧
      ∀ target, Steps p.tables e below (T'.setTop (mkF m (pc + 1) L rest)) target → Steps p.tables e below (T.setTop (mkF m pc L (.long x :: .int j :: .ref a :: rest))) target := by
  have F' := F
  obtain ⟨cl, A, hs, hn, hf⟩ := F
  obtain ⟨T', h', X', e', W, st⟩ := stJ X hx hZ eT A (j := j) (x := x) (fun q => q.elim h0 (fun r => by omega)) (g := mkF m pc L (.long x :: .int j :: .ref a :: rest)) rfl rfl hd
  exact ⟨T', h', X', e', W, F'.setJ W hj, st⟩
theorem own_stB (X : Stand p l e R s m args below meth c T locs cells slots) (hx : p.tables.exec = Jvm.exec) (hZ : Z.Warmed39 s.vm) (eT : T.heap = h) {g : Nat → Int32} (F : own_Arf Z h a .byte n (fun i => .int (g i))) {j x : Int32} (h0 : ¬ j < 0) (hj : j.toNatClampNeg < n) {pc : Nat} {L : Array Slot} {rest : List Value} (hd : decode c.code pc = .ok (.bastore, 1)) :
    ∃ T' h', Stand p l e R s m args below meth c T' (locs ++ [⟨a, j.toNatClampNeg⟩]) cells slots ∧ T'.heap = h' ∧ Wr h h' a j.toNatClampNeg (.int x.toInt8.toInt32) ∧ own_Arf Z h' a .byte n (fun i => .int (own_upd g j.toNatClampNeg x.toInt8.toInt32 i)) ∧
      ∀ target, Steps p.tables e below (T'.setTop (mkF m (pc + 1) L rest)) target → Steps p.tables e below (T.setTop (mkF m pc L (.int x :: .int j :: .ref a :: rest))) target := by
  have F' := F
  obtain ⟨cl, A, hs, hn, hf⟩ := F
  obtain ⟨T', h', X', e', W, st⟩ := stB X hx hZ eT A (j := j) (x := x) (fun q => q.elim h0 (fun r => by omega)) (g := mkF m pc L (.int x :: .int j :: .ref a :: rest)) rfl rfl hd
  exact ⟨T', h', X', e', W, F'.setI W hj, st⟩
end ownA
section ownB
variable {args : Array Value} {s : State} {t u : Term} {w : Addr} {ty : FieldType} {z : Int32} {n : Nat}
theorem own_Arf.start (ev : t.eval args s none [] s = some (.ref w)) (h1 : (Jvm.Cond.arrayOf t ty).value args s none s [] = some true) (h2 : (Jvm.Cond.eq (.length t) (.int z)).value args s none s [] = some true) (hn : z.toInt = n) :
    ∃ f, own_Arf s s.heap w ty n f ∧ ∀ j : Int32, ¬ j < 0 → j.toNatClampNeg < n → (Term.elem t (.int j)).eval args s none [] s = some (f j.toNatClampNeg) := by
  obtain ⟨c, A⟩ := Arr.start ev h1
  have hat : s.arrayAt? w = some c := Arr.fin (State.Warmed39.refl s).alike A
  have hlen := Cond.eq_int (Cond.before_iff.mpr h2) rfl
  have h31 := SBG.length_lt ev hat hlen
  have hsz : c.slots.size = n := by
    have e1 := len_f ev hat h31
    have e2 : c.slots.size.toInt32 = z := by simpa using Option.some.inj (e1.symm.trans hlen)
    have e3 := len_toInt h31
    rw [e2] at e3; omega
  refine ⟨fun i => (c.slots[i]?).getD .null, ⟨c, A, hsz, by omega, fun i hi => ?_⟩, fun j h0 hj => ?_⟩
  · have : i < c.slots.size := by omega
    simp [this]
  · rw [elem_f ev (Term.int_eval j) hat h0]
    have : j.toNatClampNeg < c.slots.size := by omega
    simp [this]
theorem own_eqref {a b : Term} {x : Value} (ha : a.eval args s none [] s = some x) (hb : b.eval args s none [] s = some (.ref w)) (h : (Jvm.Cond.eq a b).value args s none s [] = some true) : x = .ref w := by
  obtain ⟨x', y', e1, e2, k1, k2⟩ := cmp_v (Or.inl h)
  cases ha.symm.trans e1; cases hb.symm.trans e2
  exact gotT (eq_R ha hb k2.2 rfl) h
theorem own_fldstart {C f d : String} {k : Int32} (ev : t.eval args s none [] s = some (.ref w)) (h : (Jvm.Cond.eq (.field t C f d) (.int k)).value args s none s [] = some true) : Fld s s.heap w C f d (.int k) := by
  have e := Cond.eq_int (Cond.before_iff.mpr h) rfl
  rw [fld_at ev] at e
  exact Fld.start e
end ownB
section ownC
variable {Z : State} {h h' : Heap} {a b : Addr} {ty : FieldType} {n sl : Nat} {f : Nat → Value} {v : Value} {ws : List Addr}
variable {p : Program} {l : Launch} {e : Env} {R : Room} {s : State} {m : MethodId} {args : Array Value} {below : List Frame} {meth : Method} {c : Code} {T : State} {locs : List Loc} {cells slots : Nat}
theorem own_ldA (X : Stand p l e R s m args below meth c T locs cells slots) (hx : p.tables.exec = Jvm.exec) (hZ : Z.Warmed39 s.vm) (eT : T.heap = h) (F : own_Arf Z h a ty n f) (hty : ty.isReference = true) {j : Int32} (h0 : ¬ j < 0) (hj : j.toNatClampNeg < n) {pc : Nat} {L : Array Slot} {rest : List Value} (hd : decode c.code pc = .ok (.aaload, 1)) :
    ∀ target, Steps p.tables e below (T.setTop (mkF m (pc + 1) L (f j.toNatClampNeg :: rest))) target → Steps p.tables e below (T.setTop (mkF m pc L (.int j :: .ref a :: rest))) target := by
  obtain ⟨cl, A, hs, hn, hf⟩ := F
  intro target k
  exact X.aaload hx (j := j) (v := f j.toNatClampNeg) (by rw [eT]; exact A.1) (State.isArrayOf_alike hZ.alike A.2.1) hty A.2.2 (fun q => q.elim h0 (fun r => by omega)) (hf _ hj) (g := mkF m pc L (.int j :: .ref a :: rest)) rfl rfl hd _ k
theorem own_clone (X : Stand p l e R s m args below meth c T locs cells slots) (hx : p.tables.exec = Jvm.exec) (hZ : Z.Warmed39 s.vm) {a0 : Array Value} {own ad : String} {index : Nat} (hown : s.vm.findClass own = some m.cls)
    (w1 : (Cond.methodLink own index ⟨ad, "clone", "()Ljava/lang/Object;"⟩).before a0 Z = true) (w2 : (Cond.sameMethod ad "java/lang/Object" "clone" "()Ljava/lang/Object;").before a0 Z = true) (w3 : (Cond.native ⟨"java/lang/Object", "clone", "()Ljava/lang/Object;"⟩).before a0 Z = true)
    (w4 : (Cond.instanceMethod ⟨"java/lang/Object", "clone", "()Ljava/lang/Object;"⟩).before a0 Z = true) (w5 : (Cond.selects ad ⟨ad, "clone", "()Ljava/lang/Object;"⟩ ⟨"java/lang/Object", "clone", "()Ljava/lang/Object;"⟩).before a0 Z = true) (w6 : (Cond.castable ad "java/lang/Cloneable").before a0 Z = true)
    (eT : T.heap = h) (F : own_Arf Z h a ty n f) (E : Exa Z h a ad) (hfit : ∀ i, i < n → fits ty (f i) = true) {g : JFrame} (hg : g.method = m) (hsize : g.locals.size = c.maxLocals) {rest : List Value} (hs : g.stack = .ref a :: rest) (hd : decode c.code g.pc = .ok (.invokevirtual index, 3))
    (hf : 1 ≤ R.frames) {W : Nat} (hW : 2 * g.monitorRoom + (rest.map fun v => v.category).sum ≤ W) (hl : W + 14 ≤ R.locals) (hc : cells + 1 ≤ R.cells) (hsl : slots + n ≤ R.slots) :
    ∃ T' h', Stand p l e R s m args below meth c T' locs (cells + 1) (slots + n) ∧ T'.heap = h' ∧ Ext h h' ∧ own_Arf Z h' h.size ty n f ∧ Exa Z h' h.size ad ∧
      ∀ target, Steps p.tables e below (T'.setTop { g with pc := g.pc + 3, stack := .ref h.size :: rest }) target → Steps p.tables e below (T.setTop g) target := by
  obtain ⟨cl, A, q1, q2, q3⟩ := F
  have FC : FitC Z cl := fitC_of A (fun i hi v hv => by
    have r := q3 i (by omega)
    rw [r] at hv; cases hv; exact hfit i (by omega))
  obtain ⟨T', h', X', e', E', A', EA, st⟩ := cloneA X hx hZ hown w1 w2 w3 w4 w5 w6 eT A E FC hg hsize hs hd hf hW hl (cap := n) (by omega) hc hsl
  exact ⟨T', h', X', e', E', ⟨_, A', q1, q2, q3⟩, EA, st⟩
end ownC

theorem own_pd0 : parseMethodDescriptor "(I)I" = some ⟨[.int], some .int⟩ := by decide +kernel
theorem ty_d0 : decode prog_16_method_2_code 0 = .ok (.iload_n 0, 1) := by decide +kernel
theorem ty_d1 : decode prog_16_method_2_code 1 = .ok (.bipush (-65), 2) := by decide +kernel
theorem ty_d3 : decode prog_16_method_2_code 3 = .ok (.iand, 1) := by decide +kernel
theorem ty_d4 : decode prog_16_method_2_code 4 = .ok (.istore_n 1, 1) := by decide +kernel
theorem ty_d5 : decode prog_16_method_2_code 5 = .ok (.iload_n 1, 1) := by decide +kernel
theorem ty_d6 : decode prog_16_method_2_code 6 = .ok (.iconst 1, 1) := by decide +kernel
theorem ty_d7 : decode prog_16_method_2_code 7 = .ok (.if_icmp .eq 32, 3) := by decide +kernel
theorem ty_d10 : decode prog_16_method_2_code 10 = .ok (.iload_n 1, 1) := by decide +kernel
theorem ty_d11 : decode prog_16_method_2_code 11 = .ok (.iconst 5, 1) := by decide +kernel
theorem ty_d12 : decode prog_16_method_2_code 12 = .ok (.if_icmp .eq 27, 3) := by decide +kernel
theorem ty_d15 : decode prog_16_method_2_code 15 = .ok (.iload_n 1, 1) := by decide +kernel
theorem ty_d16 : decode prog_16_method_2_code 16 = .ok (.bipush 6, 2) := by decide +kernel
theorem ty_d18 : decode prog_16_method_2_code 18 = .ok (.if_icmp .eq 21, 3) := by decide +kernel
theorem ty_d21 : decode prog_16_method_2_code 21 = .ok (.iload_n 1, 1) := by decide +kernel
theorem ty_d22 : decode prog_16_method_2_code 22 = .ok (.bipush 7, 2) := by decide +kernel
theorem ty_d24 : decode prog_16_method_2_code 24 = .ok (.if_icmp .eq 15, 3) := by decide +kernel
theorem ty_d27 : decode prog_16_method_2_code 27 = .ok (.iload_n 1, 1) := by decide +kernel
theorem ty_d28 : decode prog_16_method_2_code 28 = .ok (.bipush 8, 2) := by decide +kernel
theorem ty_d30 : decode prog_16_method_2_code 30 = .ok (.if_icmp .eq 9, 3) := by decide +kernel
theorem ty_d33 : decode prog_16_method_2_code 33 = .ok (.iload_n 1, 1) := by decide +kernel
theorem ty_d34 : decode prog_16_method_2_code 34 = .ok (.bipush 9, 2) := by decide +kernel
theorem ty_d36 : decode prog_16_method_2_code 36 = .ok (.if_icmp .ne 7, 3) := by decide +kernel
theorem ty_d39 : decode prog_16_method_2_code 39 = .ok (.iconst 1, 1) := by decide +kernel
theorem ty_d40 : decode prog_16_method_2_code 40 = .ok (.goto 4, 3) := by decide +kernel
theorem ty_d43 : decode prog_16_method_2_code 43 = .ok (.iconst 0, 1) := by decide +kernel
theorem ty_d44 : decode prog_16_method_2_code 44 = .ok (.istore_n 2, 1) := by decide +kernel
theorem ty_d45 : decode prog_16_method_2_code 45 = .ok (.iload_n 0, 1) := by decide +kernel
theorem ty_d46 : decode prog_16_method_2_code 46 = .ok (.getstatic 9, 3) := by decide +kernel
theorem ty_d49 : decode prog_16_method_2_code 49 = .ok (.arraylength, 1) := by decide +kernel
theorem ty_d50 : decode prog_16_method_2_code 50 = .ok (.if_icmp .lt 12, 3) := by decide +kernel
theorem ty_d53 : decode prog_16_method_2_code 53 = .ok (.iload_n 0, 1) := by decide +kernel
theorem ty_d54 : decode prog_16_method_2_code 54 = .ok (.iload_n 1, 1) := by decide +kernel
theorem ty_d55 : decode prog_16_method_2_code 55 = .ok (.if_icmp .eq 9, 3) := by decide +kernel
theorem ty_d58 : decode prog_16_method_2_code 58 = .ok (.iload_n 2, 1) := by decide +kernel
theorem ty_d59 : decode prog_16_method_2_code 59 = .ok (.ifCond .eq 5, 3) := by decide +kernel
theorem ty_d62 : decode prog_16_method_2_code 62 = .ok (.iload_n 1, 1) := by decide +kernel
theorem ty_d63 : decode prog_16_method_2_code 63 = .ok (.ireturn, 1) := by decide +kernel
theorem ty_d64 : decode prog_16_method_2_code 64 = .ok (.iconst (-1), 1) := by decide +kernel
theorem ty_d65 : decode prog_16_method_2_code 65 = .ok (.ireturn, 1) := by decide +kernel
def ty_f44 (p0 : Int32) (w_f : Nat → Value) (v1 : Int32) (u0 : Int32) : Int32 :=
  if p0 < (16 : Int32) then
    v1
  else
    if p0 = v1 then
      (-1 : Int32)
    else
      if u0 = (0 : Int32) then
        (-1 : Int32)
      else
        v1
set_option maxRecDepth 65536 in
set_option maxHeartbeats 40000000 in
theorem ty_c44 {l : Launch} {Z : State} {a0 : Array Value} {p0 : Int32} {w_a : Addr} {w_f : Nat → Value} {h0 : Heap} {n0 : Nat} {p : Program} {e : Env} {s : State} {m : MethodId} {args : Array Value} {below : List Frame} {meth : Method} {c : Code} {T0 : State} {locs : List Loc} {r0 : Int32} (C0 : own_Cx p s m meth c Z a0 prog_16_method_2_code 3 "com/example/xylograph/xylograph/evtbinxml/Token" "type" (some .int)) (X0 : Stand p l e ({ frames := 0, cells := 0, slots := 0, locals := 0 } : Room) s m args below meth c T0 locs 0 0) (e0 : T0.heap = h0) (N0 : Fr n0 locs) (v1 : Int32) (u0 : Int32) (Z0 : n0 ≤ h0.size) (P1 : Sta Z h0 "com/example/xylograph/xylograph/evtbinxml/Token" "NAMES" "[Ljava/lang/String;" (.ref w_a)) (P2 : own_Arf Z h0 w_a (.object "java/lang/String") 16 (fun i => (w_f i))) (hr0 : r0 = ty_f44 p0 w_f v1 u0) :
    own_Dn p e below s (own_Q (some (.int r0)) n0 h0) ({ frames := 0, cells := 0, slots := 0, locals := 0 } : Room).cells ({ frames := 0, cells := 0, slots := 0, locals := 0 } : Room).slots (T0.setTop (mkF m 44 #[.val (.int p0), .val (.int v1), .unset] [(.int u0)])) := by
  obtain ⟨hx, hZ, hw, hby, hml, hown, hret, hlk, hnm⟩ := id C0
  refine own_st (fun _ k => XS.istoreN X0.here hx rfl (hb hby ty_d44) rfl (l' := #[.val (.int p0), .val (.int v1), .val (.int u0)]) rfl (XS.iloadN X0.here hx rfl (hb hby ty_d45) rfl k)) ?_
  show own_Dn p e below s _ _ _ (T0.setTop (mkF m 46 #[.val (.int p0), .val (.int v1), .val (.int u0)] [(.int p0)]))
  obtain ⟨T17, X17, e17, st17⟩ := getS2 X0 hx hZ hown (host := "") (Or.inl (hw _ (List.mem_of_getElem? (i := 4) rfl))) Via.refl e0 P1 (g := (mkF m 46 #[.val (.int p0), .val (.int v1), .val (.int u0)] [(.int p0)])) rfl (hb hby ty_d46)
  refine own_st st17 ?_
  show own_Dn p e below s _ _ _ (T17.setTop (mkF m 49 #[.val (.int p0), .val (.int v1), .val (.int u0)] [(.ref w_a), (.int p0)]))
  refine own_st (own_len (pc := 49) (L := #[.val (.int p0), .val (.int v1), .val (.int u0)]) (rest := [(.int p0)]) X17 hx hZ e17 P2 (z := (16 : Int32)) rfl (hb hby ty_d49)) ?_
  show own_Dn p e below s _ _ _ (T17.setTop (mkF m 50 #[.val (.int p0), .val (.int v1), .val (.int u0)] [(.int (16 : Int32)), (.int p0)]))
  by_cases hc18 : p0 < (16 : Int32)
  · refine own_st (fun _ k => XS.icmpYes X17.here hx rfl (pc0 := 50) (pc' := 62) rfl (hb hby ty_d50) rfl (tlt hc18).1 (by decide) (by decide) k) ?_
    show own_Dn p e below s _ _ _ (T17.setTop (mkF m 62 #[.val (.int p0), .val (.int v1), .val (.int u0)] []))
    refine own_st (fun _ k => XS.iloadN X17.here hx rfl (hb hby ty_d62) rfl k) ?_
    show own_Dn p e below s _ _ _ (T17.setTop (mkF m 63 #[.val (.int p0), .val (.int v1), .val (.int u0)] [(.int v1)]))
    exact own_retI X17 hx hret hlk (hb hby ty_d63) (by decide) (by decide) ⟨(by rw [hr0, ty_f44, if_pos hc18]), N0, e17⟩
  · refine own_st (fun _ k => XS.icmpNo X17.here hx rfl (hb hby ty_d50) rfl (flt hc18).1 k) ?_
    show own_Dn p e below s _ _ _ (T17.setTop (mkF m 53 #[.val (.int p0), .val (.int v1), .val (.int u0)] []))
    refine own_st (fun _ k => XS.iloadN X17.here hx rfl (hb hby ty_d53) rfl (XS.iloadN X17.here hx rfl (hb hby ty_d54) rfl k)) ?_
    show own_Dn p e below s _ _ _ (T17.setTop (mkF m 55 #[.val (.int p0), .val (.int v1), .val (.int u0)] [(.int v1), (.int p0)]))
    by_cases hc19 : p0 = v1
    · refine own_st (fun _ k => XS.icmpYes X17.here hx rfl (pc0 := 55) (pc' := 64) rfl (hb hby ty_d55) rfl (teq hc19).1 (by decide) (by decide) k) ?_
      show own_Dn p e below s _ _ _ (T17.setTop (mkF m 64 #[.val (.int p0), .val (.int v1), .val (.int u0)] []))
      refine own_st (fun _ k => XS.iconst X17.here hx rfl (hb hby ty_d64) k) ?_
      show own_Dn p e below s _ _ _ (T17.setTop (mkF m 65 #[.val (.int p0), .val (.int v1), .val (.int u0)] [(.int (-1 : Int32))]))
      exact own_retI X17 hx hret hlk (hb hby ty_d65) (by decide) (by decide) ⟨(by rw [hr0, ty_f44, if_neg hc18, if_pos hc19]), N0, e17⟩
    · refine own_st (fun _ k => XS.icmpNo X17.here hx rfl (hb hby ty_d55) rfl (feq hc19).1 k) ?_
      show own_Dn p e below s _ _ _ (T17.setTop (mkF m 58 #[.val (.int p0), .val (.int v1), .val (.int u0)] []))
      refine own_st (fun _ k => XS.iloadN X17.here hx rfl (hb hby ty_d58) rfl k) ?_
      show own_Dn p e below s _ _ _ (T17.setTop (mkF m 59 #[.val (.int p0), .val (.int v1), .val (.int u0)] [(.int u0)]))
      by_cases hc20 : u0 = (0 : Int32)
      · refine own_st (fun _ k => XS.ifYes X17.here hx rfl (pc0 := 59) (pc' := 64) rfl (hb hby ty_d59) rfl ((if0 _ _).trans (teq hc20).1) (by decide) (by decide) k) ?_
        show own_Dn p e below s _ _ _ (T17.setTop (mkF m 64 #[.val (.int p0), .val (.int v1), .val (.int u0)] []))
        refine own_st (fun _ k => XS.iconst X17.here hx rfl (hb hby ty_d64) k) ?_
        show own_Dn p e below s _ _ _ (T17.setTop (mkF m 65 #[.val (.int p0), .val (.int v1), .val (.int u0)] [(.int (-1 : Int32))]))
        exact own_retI X17 hx hret hlk (hb hby ty_d65) (by decide) (by decide) ⟨(by rw [hr0, ty_f44, if_neg hc18, if_neg hc19, if_pos hc20]), N0, e17⟩
      · refine own_st (fun _ k => XS.ifNo X17.here hx rfl (hb hby ty_d59) rfl ((if0 _ _).trans (feq hc20).1) k) ?_
        show own_Dn p e below s _ _ _ (T17.setTop (mkF m 62 #[.val (.int p0), .val (.int v1), .val (.int u0)] []))
        refine own_st (fun _ k => XS.iloadN X17.here hx rfl (hb hby ty_d62) rfl k) ?_
        show own_Dn p e below s _ _ _ (T17.setTop (mkF m 63 #[.val (.int p0), .val (.int v1), .val (.int u0)] [(.int v1)]))
        exact own_retI X17 hx hret hlk (hb hby ty_d63) (by decide) (by decide) ⟨(by rw [hr0, ty_f44, if_neg hc18, if_neg hc19, if_neg hc20]), N0, e17⟩
def ty_f (p0 : Int32) (w_f : Nat → Value)  : Int32 :=
  if (p0 &&& (-65 : Int32)) = (1 : Int32) then
    ty_f44 p0 w_f ((p0 &&& (-65 : Int32))) ((1 : Int32))
  else
    if (p0 &&& (-65 : Int32)) = (5 : Int32) then
      ty_f44 p0 w_f ((p0 &&& (-65 : Int32))) ((1 : Int32))
    else
      if (p0 &&& (-65 : Int32)) = (6 : Int32) then
        ty_f44 p0 w_f ((p0 &&& (-65 : Int32))) ((1 : Int32))
      else
        if (p0 &&& (-65 : Int32)) = (7 : Int32) then
          ty_f44 p0 w_f ((p0 &&& (-65 : Int32))) ((1 : Int32))
        else
          if (p0 &&& (-65 : Int32)) = (8 : Int32) then
            ty_f44 p0 w_f ((p0 &&& (-65 : Int32))) ((1 : Int32))
          else
            if (p0 &&& (-65 : Int32)) = (9 : Int32) then
              ty_f44 p0 w_f ((p0 &&& (-65 : Int32))) ((1 : Int32))
            else
              ty_f44 p0 w_f ((p0 &&& (-65 : Int32))) ((0 : Int32))
set_option maxRecDepth 65536 in
set_option maxHeartbeats 40000000 in
theorem ty_c0 {l : Launch} {Z : State} {a0 : Array Value} {p0 : Int32} {w_a : Addr} {w_f : Nat → Value} {h0 : Heap} {n0 : Nat} {p : Program} {e : Env} {s : State} {m : MethodId} {args : Array Value} {below : List Frame} {meth : Method} {c : Code} {T0 : State} {locs : List Loc} {r0 : Int32} (C0 : own_Cx p s m meth c Z a0 prog_16_method_2_code 3 "com/example/xylograph/xylograph/evtbinxml/Token" "type" (some .int)) (X0 : Stand p l e ({ frames := 0, cells := 0, slots := 0, locals := 0 } : Room) s m args below meth c T0 locs 0 0) (e0 : T0.heap = h0) (N0 : Fr n0 locs)  (Z0 : n0 ≤ h0.size) (P0 : Sta Z h0 "com/example/xylograph/xylograph/evtbinxml/Token" "NAMES" "[Ljava/lang/String;" (.ref w_a)) (P1 : own_Arf Z h0 w_a (.object "java/lang/String") 16 (fun i => (w_f i))) (hr0 : r0 = ty_f p0 w_f ) :
    own_Dn p e below s (own_Q (some (.int r0)) n0 h0) ({ frames := 0, cells := 0, slots := 0, locals := 0 } : Room).cells ({ frames := 0, cells := 0, slots := 0, locals := 0 } : Room).slots (T0.setTop (mkF m 0 #[.val (.int p0), .unset, .unset] [])) := by
  obtain ⟨hx, hZ, hw, hby, hml, hown, hret, hlk, hnm⟩ := id C0
  refine own_st (fun _ k => XS.iloadN X0.here hx rfl (hb hby ty_d0) rfl (XS.bipush X0.here hx rfl (hb hby ty_d1) (XS.iand X0.here hx rfl (hb hby ty_d3) rfl (XS.istoreN X0.here hx rfl (hb hby ty_d4) rfl (l' := #[.val (.int p0), .val (.int (p0 &&& (-65 : Int32))), .unset]) rfl (XS.iloadN X0.here hx rfl (hb hby ty_d5) rfl (XS.iconst X0.here hx rfl (hb hby ty_d6) k)))))) ?_
  show own_Dn p e below s _ _ _ (T0.setTop (mkF m 7 #[.val (.int p0), .val (.int (p0 &&& (-65 : Int32))), .unset] [(.int (1 : Int32)), (.int (p0 &&& (-65 : Int32)))]))
  by_cases hc11 : (p0 &&& (-65 : Int32)) = (1 : Int32)
  · refine own_st (fun _ k => XS.icmpYes X0.here hx rfl (pc0 := 7) (pc' := 39) rfl (hb hby ty_d7) rfl (teq hc11).1 (by decide) (by decide) k) ?_
    show own_Dn p e below s _ _ _ (T0.setTop (mkF m 39 #[.val (.int p0), .val (.int (p0 &&& (-65 : Int32))), .unset] []))
    refine own_st (fun _ k => XS.iconst X0.here hx rfl (hb hby ty_d39) (XS.goto X0.here hx rfl (pc0 := 40) (pc' := 44) rfl (hb hby ty_d40) (by decide) (by decide) k)) ?_
    show own_Dn p e below s _ _ _ (T0.setTop (mkF m 44 #[.val (.int p0), .val (.int (p0 &&& (-65 : Int32))), .unset] [(.int (1 : Int32))]))
    exact ty_c44 C0 X0 e0 N0 ((p0 &&& (-65 : Int32))) ((1 : Int32)) Z0 P0 P1 (by rw [hr0, ty_f, if_pos hc11])
  · refine own_st (fun _ k => XS.icmpNo X0.here hx rfl (hb hby ty_d7) rfl (feq hc11).1 k) ?_
    show own_Dn p e below s _ _ _ (T0.setTop (mkF m 10 #[.val (.int p0), .val (.int (p0 &&& (-65 : Int32))), .unset] []))
    refine own_st (fun _ k => XS.iloadN X0.here hx rfl (hb hby ty_d10) rfl (XS.iconst X0.here hx rfl (hb hby ty_d11) k)) ?_
    show own_Dn p e below s _ _ _ (T0.setTop (mkF m 12 #[.val (.int p0), .val (.int (p0 &&& (-65 : Int32))), .unset] [(.int (5 : Int32)), (.int (p0 &&& (-65 : Int32)))]))
    by_cases hc12 : (p0 &&& (-65 : Int32)) = (5 : Int32)
    · refine own_st (fun _ k => XS.icmpYes X0.here hx rfl (pc0 := 12) (pc' := 39) rfl (hb hby ty_d12) rfl (teq hc12).1 (by decide) (by decide) k) ?_
      show own_Dn p e below s _ _ _ (T0.setTop (mkF m 39 #[.val (.int p0), .val (.int (p0 &&& (-65 : Int32))), .unset] []))
      refine own_st (fun _ k => XS.iconst X0.here hx rfl (hb hby ty_d39) (XS.goto X0.here hx rfl (pc0 := 40) (pc' := 44) rfl (hb hby ty_d40) (by decide) (by decide) k)) ?_
      show own_Dn p e below s _ _ _ (T0.setTop (mkF m 44 #[.val (.int p0), .val (.int (p0 &&& (-65 : Int32))), .unset] [(.int (1 : Int32))]))
      exact ty_c44 C0 X0 e0 N0 ((p0 &&& (-65 : Int32))) ((1 : Int32)) Z0 P0 P1 (by rw [hr0, ty_f, if_neg hc11, if_pos hc12])
    · refine own_st (fun _ k => XS.icmpNo X0.here hx rfl (hb hby ty_d12) rfl (feq hc12).1 k) ?_
      show own_Dn p e below s _ _ _ (T0.setTop (mkF m 15 #[.val (.int p0), .val (.int (p0 &&& (-65 : Int32))), .unset] []))
      refine own_st (fun _ k => XS.iloadN X0.here hx rfl (hb hby ty_d15) rfl (XS.bipush X0.here hx rfl (hb hby ty_d16) k)) ?_
      show own_Dn p e below s _ _ _ (T0.setTop (mkF m 18 #[.val (.int p0), .val (.int (p0 &&& (-65 : Int32))), .unset] [(.int (6 : Int32)), (.int (p0 &&& (-65 : Int32)))]))
      by_cases hc13 : (p0 &&& (-65 : Int32)) = (6 : Int32)
      · refine own_st (fun _ k => XS.icmpYes X0.here hx rfl (pc0 := 18) (pc' := 39) rfl (hb hby ty_d18) rfl (teq hc13).1 (by decide) (by decide) k) ?_
        show own_Dn p e below s _ _ _ (T0.setTop (mkF m 39 #[.val (.int p0), .val (.int (p0 &&& (-65 : Int32))), .unset] []))
        refine own_st (fun _ k => XS.iconst X0.here hx rfl (hb hby ty_d39) (XS.goto X0.here hx rfl (pc0 := 40) (pc' := 44) rfl (hb hby ty_d40) (by decide) (by decide) k)) ?_
        show own_Dn p e below s _ _ _ (T0.setTop (mkF m 44 #[.val (.int p0), .val (.int (p0 &&& (-65 : Int32))), .unset] [(.int (1 : Int32))]))
        exact ty_c44 C0 X0 e0 N0 ((p0 &&& (-65 : Int32))) ((1 : Int32)) Z0 P0 P1 (by rw [hr0, ty_f, if_neg hc11, if_neg hc12, if_pos hc13])
      · refine own_st (fun _ k => XS.icmpNo X0.here hx rfl (hb hby ty_d18) rfl (feq hc13).1 k) ?_
        show own_Dn p e below s _ _ _ (T0.setTop (mkF m 21 #[.val (.int p0), .val (.int (p0 &&& (-65 : Int32))), .unset] []))
        refine own_st (fun _ k => XS.iloadN X0.here hx rfl (hb hby ty_d21) rfl (XS.bipush X0.here hx rfl (hb hby ty_d22) k)) ?_
        show own_Dn p e below s _ _ _ (T0.setTop (mkF m 24 #[.val (.int p0), .val (.int (p0 &&& (-65 : Int32))), .unset] [(.int (7 : Int32)), (.int (p0 &&& (-65 : Int32)))]))
        by_cases hc14 : (p0 &&& (-65 : Int32)) = (7 : Int32)
        · refine own_st (fun _ k => XS.icmpYes X0.here hx rfl (pc0 := 24) (pc' := 39) rfl (hb hby ty_d24) rfl (teq hc14).1 (by decide) (by decide) k) ?_
          show own_Dn p e below s _ _ _ (T0.setTop (mkF m 39 #[.val (.int p0), .val (.int (p0 &&& (-65 : Int32))), .unset] []))
          refine own_st (fun _ k => XS.iconst X0.here hx rfl (hb hby ty_d39) (XS.goto X0.here hx rfl (pc0 := 40) (pc' := 44) rfl (hb hby ty_d40) (by decide) (by decide) k)) ?_
          show own_Dn p e below s _ _ _ (T0.setTop (mkF m 44 #[.val (.int p0), .val (.int (p0 &&& (-65 : Int32))), .unset] [(.int (1 : Int32))]))
          exact ty_c44 C0 X0 e0 N0 ((p0 &&& (-65 : Int32))) ((1 : Int32)) Z0 P0 P1 (by rw [hr0, ty_f, if_neg hc11, if_neg hc12, if_neg hc13, if_pos hc14])
        · refine own_st (fun _ k => XS.icmpNo X0.here hx rfl (hb hby ty_d24) rfl (feq hc14).1 k) ?_
          show own_Dn p e below s _ _ _ (T0.setTop (mkF m 27 #[.val (.int p0), .val (.int (p0 &&& (-65 : Int32))), .unset] []))
          refine own_st (fun _ k => XS.iloadN X0.here hx rfl (hb hby ty_d27) rfl (XS.bipush X0.here hx rfl (hb hby ty_d28) k)) ?_
          show own_Dn p e below s _ _ _ (T0.setTop (mkF m 30 #[.val (.int p0), .val (.int (p0 &&& (-65 : Int32))), .unset] [(.int (8 : Int32)), (.int (p0 &&& (-65 : Int32)))]))
          by_cases hc15 : (p0 &&& (-65 : Int32)) = (8 : Int32)
          · refine own_st (fun _ k => XS.icmpYes X0.here hx rfl (pc0 := 30) (pc' := 39) rfl (hb hby ty_d30) rfl (teq hc15).1 (by decide) (by decide) k) ?_
            show own_Dn p e below s _ _ _ (T0.setTop (mkF m 39 #[.val (.int p0), .val (.int (p0 &&& (-65 : Int32))), .unset] []))
            refine own_st (fun _ k => XS.iconst X0.here hx rfl (hb hby ty_d39) (XS.goto X0.here hx rfl (pc0 := 40) (pc' := 44) rfl (hb hby ty_d40) (by decide) (by decide) k)) ?_
            show own_Dn p e below s _ _ _ (T0.setTop (mkF m 44 #[.val (.int p0), .val (.int (p0 &&& (-65 : Int32))), .unset] [(.int (1 : Int32))]))
            exact ty_c44 C0 X0 e0 N0 ((p0 &&& (-65 : Int32))) ((1 : Int32)) Z0 P0 P1 (by rw [hr0, ty_f, if_neg hc11, if_neg hc12, if_neg hc13, if_neg hc14, if_pos hc15])
          · refine own_st (fun _ k => XS.icmpNo X0.here hx rfl (hb hby ty_d30) rfl (feq hc15).1 k) ?_
            show own_Dn p e below s _ _ _ (T0.setTop (mkF m 33 #[.val (.int p0), .val (.int (p0 &&& (-65 : Int32))), .unset] []))
            refine own_st (fun _ k => XS.iloadN X0.here hx rfl (hb hby ty_d33) rfl (XS.bipush X0.here hx rfl (hb hby ty_d34) k)) ?_
            show own_Dn p e below s _ _ _ (T0.setTop (mkF m 36 #[.val (.int p0), .val (.int (p0 &&& (-65 : Int32))), .unset] [(.int (9 : Int32)), (.int (p0 &&& (-65 : Int32)))]))
            by_cases hc16 : (p0 &&& (-65 : Int32)) = (9 : Int32)
            · refine own_st (fun _ k => XS.icmpNo X0.here hx rfl (hb hby ty_d36) rfl (teq hc16).2 k) ?_
              show own_Dn p e below s _ _ _ (T0.setTop (mkF m 39 #[.val (.int p0), .val (.int (p0 &&& (-65 : Int32))), .unset] []))
              refine own_st (fun _ k => XS.iconst X0.here hx rfl (hb hby ty_d39) (XS.goto X0.here hx rfl (pc0 := 40) (pc' := 44) rfl (hb hby ty_d40) (by decide) (by decide) k)) ?_
              show own_Dn p e below s _ _ _ (T0.setTop (mkF m 44 #[.val (.int p0), .val (.int (p0 &&& (-65 : Int32))), .unset] [(.int (1 : Int32))]))
              exact ty_c44 C0 X0 e0 N0 ((p0 &&& (-65 : Int32))) ((1 : Int32)) Z0 P0 P1 (by rw [hr0, ty_f, if_neg hc11, if_neg hc12, if_neg hc13, if_neg hc14, if_neg hc15, if_pos hc16])
            · refine own_st (fun _ k => XS.icmpYes X0.here hx rfl (pc0 := 36) (pc' := 43) rfl (hb hby ty_d36) rfl (feq hc16).2 (by decide) (by decide) k) ?_
              show own_Dn p e below s _ _ _ (T0.setTop (mkF m 43 #[.val (.int p0), .val (.int (p0 &&& (-65 : Int32))), .unset] []))
              refine own_st (fun _ k => XS.iconst X0.here hx rfl (hb hby ty_d43) k) ?_
              show own_Dn p e below s _ _ _ (T0.setTop (mkF m 44 #[.val (.int p0), .val (.int (p0 &&& (-65 : Int32))), .unset] [(.int (0 : Int32))]))
              exact ty_c44 C0 X0 e0 N0 ((p0 &&& (-65 : Int32))) ((0 : Int32)) Z0 P0 P1 (by rw [hr0, ty_f, if_neg hc11, if_neg hc12, if_neg hc13, if_neg hc14, if_neg hc15, if_neg hc16])
theorem ty_ef (m : MethodId) (p0 : Int32) : entryFrame m #[(.int p0)] 3 = mkF m 0 #[.val (.int p0), .unset, .unset] [] := by first | (simp [entryFrame, mkF, argsToLocals, Value.category]; done) | rfl
theorem ty_rm (l : Launch) (Z : State) (a0 : Array Value) (hw : ∀ d ∈ tables_1, d.before a0 Z = true) (ws : List Jvm.Cond) (p0 : Int32) (w_a : Addr) (w_f : Nat → Value) (h0 : Heap) (n0 : Nat) (Z0 : n0 ≤ h0.size) (P0 : Sta Z h0 "com/example/xylograph/xylograph/evtbinxml/Token" "NAMES" "[Ljava/lang/String;" (.ref w_a)) (P1 : own_Arf Z h0 w_a (.object "java/lang/String") 16 (fun i => (w_f i))) :
    MetFree l (⟨"com/example/xylograph/xylograph/evtbinxml/Token", "type", "(I)I"⟩ : MethodName) (head1 (Jvm.Cond.code (⟨"com/example/xylograph/xylograph/evtbinxml/Token", "type", "(I)I"⟩ : MethodName) prog_16_method_2_code 3 (some .int) :: ws) ({ frames := 0, cells := 0, slots := 0, locals := 0 } : Room)) (fun a U => a = #[(.int p0)] ∧ Z.Warmed39 U.vm ∧ U.heap = h0) (fun _ _ _ _ _ => True) (fun _ U o U' => ∃ v L, o = .returned v ∧ (own_Q (some (.int (ty_f p0 w_f))) n0 h0) v U'.heap L ∧ FrameEnd U o U' L ({ frames := 0, cells := 0, slots := 0, locals := 0 } : Room).cells ({ frames := 0, cells := 0, slots := 0, locals := 0 } : Room).slots) :=
  own_met hw (plainFor_of_name (by first | (simp [plainName, overriddenIn]; done) | decide +kernel)) (fun p e s m below meth c T0 C0 X0 e0 => own_st (fun _ k => castTop (ty_ef m p0) k) (ty_c0 C0 X0 e0 (Fr.nil n0) Z0 P0 P1 rfl))
theorem ex_d0 : decode method_2_code 0 = .ok (.iload_n 0, 1) := by decide +kernel
theorem ex_d1 : decode method_2_code 1 = .ok (.bipush 16, 2) := by decide +kernel
theorem ex_d3 : decode method_2_code 3 = .ok (.if_icmp .ge 5, 3) := by decide +kernel
theorem ex_d6 : decode method_2_code 6 = .ok (.iload_n 0, 1) := by decide +kernel
theorem ex_d7 : decode method_2_code 7 = .ok (.ireturn, 1) := by decide +kernel
theorem ex_d8 : decode method_2_code 8 = .ok (.iload_n 0, 1) := by decide +kernel
theorem ex_d9 : decode method_2_code 9 = .ok (.bipush 65, 2) := by decide +kernel
theorem ex_d11 : decode method_2_code 11 = .ok (.if_icmp .eq 15, 3) := by decide +kernel
theorem ex_d14 : decode method_2_code 14 = .ok (.iload_n 0, 1) := by decide +kernel
theorem ex_d15 : decode method_2_code 15 = .ok (.bipush 69, 2) := by decide +kernel
theorem ex_d17 : decode method_2_code 17 = .ok (.if_icmp .lt 14, 3) := by decide +kernel
theorem ex_d20 : decode method_2_code 20 = .ok (.iload_n 0, 1) := by decide +kernel
theorem ex_d21 : decode method_2_code 21 = .ok (.bipush 73, 2) := by decide +kernel
theorem ex_d23 : decode method_2_code 23 = .ok (.if_icmp .gt 8, 3) := by decide +kernel
theorem ex_d26 : decode method_2_code 26 = .ok (.iload_n 0, 1) := by decide +kernel
theorem ex_d27 : decode method_2_code 27 = .ok (.bipush 64, 2) := by decide +kernel
theorem ex_d29 : decode method_2_code 29 = .ok (.isub, 1) := by decide +kernel
theorem ex_d30 : decode method_2_code 30 = .ok (.ireturn, 1) := by decide +kernel
theorem ex_d31 : decode method_2_code 31 = .ok (.iconst (-1), 1) := by decide +kernel
theorem ex_d32 : decode method_2_code 32 = .ok (.ireturn, 1) := by decide +kernel
def ex_f26 (p0 : Int32)  : Int32 :=
  (p0 - (64 : Int32))
set_option maxRecDepth 65536 in
set_option maxHeartbeats 40000000 in
theorem ex_c26 {l : Launch} {Z : State} {a0 : Array Value} {p0 : Int32} {h0 : Heap} {n0 : Nat} {p : Program} {e : Env} {s : State} {m : MethodId} {args : Array Value} {below : List Frame} {meth : Method} {c : Code} {T0 : State} {locs : List Loc} {r0 : Int32} (C0 : own_Cx p s m meth c Z a0 method_2_code 1 "com/example/xylograph/xylograph/evtbinxml/TokenTypePinLaw" "expected" (some .int)) (X0 : Stand p l e ({ frames := 0, cells := 0, slots := 0, locals := 0 } : Room) s m args below meth c T0 locs 0 0) (e0 : T0.heap = h0) (N0 : Fr n0 locs)  (hr0 : r0 = ex_f26 p0 ) :
    own_Dn p e below s (own_Q (some (.int r0)) n0 h0) ({ frames := 0, cells := 0, slots := 0, locals := 0 } : Room).cells ({ frames := 0, cells := 0, slots := 0, locals := 0 } : Room).slots (T0.setTop (mkF m 26 #[.val (.int p0)] [])) := by
  obtain ⟨hx, hZ, hw, hby, hml, hown, hret, hlk, hnm⟩ := id C0
  refine own_st (fun _ k => XS.iloadN X0.here hx rfl (hb hby ex_d26) rfl (XS.bipush X0.here hx rfl (hb hby ex_d27) (XS.isub X0.here hx rfl (hb hby ex_d29) rfl k))) ?_
  show own_Dn p e below s _ _ _ (T0.setTop (mkF m 30 #[.val (.int p0)] [(.int (p0 - (64 : Int32)))]))
  exact own_retI X0 hx hret hlk (hb hby ex_d30) (by decide) (by decide) ⟨(by rw [hr0, ex_f26]), N0, e0⟩
def ex_f (p0 : Int32)  : Int32 :=
  if p0 < (16 : Int32) then
    p0
  else
    if p0 = (65 : Int32) then
      ex_f26 p0
    else
      if p0 < (69 : Int32) then
        (-1 : Int32)
      else
        if (73 : Int32) < p0 then
          (-1 : Int32)
        else
          ex_f26 p0
set_option maxRecDepth 65536 in
set_option maxHeartbeats 40000000 in
theorem ex_c0 {l : Launch} {Z : State} {a0 : Array Value} {p0 : Int32} {h0 : Heap} {n0 : Nat} {p : Program} {e : Env} {s : State} {m : MethodId} {args : Array Value} {below : List Frame} {meth : Method} {c : Code} {T0 : State} {locs : List Loc} {r0 : Int32} (C0 : own_Cx p s m meth c Z a0 method_2_code 1 "com/example/xylograph/xylograph/evtbinxml/TokenTypePinLaw" "expected" (some .int)) (X0 : Stand p l e ({ frames := 0, cells := 0, slots := 0, locals := 0 } : Room) s m args below meth c T0 locs 0 0) (e0 : T0.heap = h0) (N0 : Fr n0 locs)  (hr0 : r0 = ex_f p0 ) :
    own_Dn p e below s (own_Q (some (.int r0)) n0 h0) ({ frames := 0, cells := 0, slots := 0, locals := 0 } : Room).cells ({ frames := 0, cells := 0, slots := 0, locals := 0 } : Room).slots (T0.setTop (mkF m 0 #[.val (.int p0)] [])) := by
  obtain ⟨hx, hZ, hw, hby, hml, hown, hret, hlk, hnm⟩ := id C0
  refine own_st (fun _ k => XS.iloadN X0.here hx rfl (hb hby ex_d0) rfl (XS.bipush X0.here hx rfl (hb hby ex_d1) k)) ?_
  show own_Dn p e below s _ _ _ (T0.setTop (mkF m 3 #[.val (.int p0)] [(.int (16 : Int32)), (.int p0)]))
  by_cases hc5 : p0 < (16 : Int32)
  · refine own_st (fun _ k => XS.icmpNo X0.here hx rfl (hb hby ex_d3) rfl (tlt hc5).2.1 k) ?_
    show own_Dn p e below s _ _ _ (T0.setTop (mkF m 6 #[.val (.int p0)] []))
    refine own_st (fun _ k => XS.iloadN X0.here hx rfl (hb hby ex_d6) rfl k) ?_
    show own_Dn p e below s _ _ _ (T0.setTop (mkF m 7 #[.val (.int p0)] [(.int p0)]))
    exact own_retI X0 hx hret hlk (hb hby ex_d7) (by decide) (by decide) ⟨(by rw [hr0, ex_f, if_pos hc5]), N0, e0⟩
  · refine own_st (fun _ k => XS.icmpYes X0.here hx rfl (pc0 := 3) (pc' := 8) rfl (hb hby ex_d3) rfl (flt hc5).2.1 (by decide) (by decide) k) ?_
    show own_Dn p e below s _ _ _ (T0.setTop (mkF m 8 #[.val (.int p0)] []))
    refine own_st (fun _ k => XS.iloadN X0.here hx rfl (hb hby ex_d8) rfl (XS.bipush X0.here hx rfl (hb hby ex_d9) k)) ?_
    show own_Dn p e below s _ _ _ (T0.setTop (mkF m 11 #[.val (.int p0)] [(.int (65 : Int32)), (.int p0)]))
    by_cases hc6 : p0 = (65 : Int32)
    · refine own_st (fun _ k => XS.icmpYes X0.here hx rfl (pc0 := 11) (pc' := 26) rfl (hb hby ex_d11) rfl (teq hc6).1 (by decide) (by decide) k) ?_
      show own_Dn p e below s _ _ _ (T0.setTop (mkF m 26 #[.val (.int p0)] []))
      exact ex_c26 C0 X0 e0 N0 (by rw [hr0, ex_f, if_neg hc5, if_pos hc6])
    · refine own_st (fun _ k => XS.icmpNo X0.here hx rfl (hb hby ex_d11) rfl (feq hc6).1 k) ?_
      show own_Dn p e below s _ _ _ (T0.setTop (mkF m 14 #[.val (.int p0)] []))
      refine own_st (fun _ k => XS.iloadN X0.here hx rfl (hb hby ex_d14) rfl (XS.bipush X0.here hx rfl (hb hby ex_d15) k)) ?_
      show own_Dn p e below s _ _ _ (T0.setTop (mkF m 17 #[.val (.int p0)] [(.int (69 : Int32)), (.int p0)]))
      by_cases hc7 : p0 < (69 : Int32)
      · refine own_st (fun _ k => XS.icmpYes X0.here hx rfl (pc0 := 17) (pc' := 31) rfl (hb hby ex_d17) rfl (tlt hc7).1 (by decide) (by decide) k) ?_
        show own_Dn p e below s _ _ _ (T0.setTop (mkF m 31 #[.val (.int p0)] []))
        refine own_st (fun _ k => XS.iconst X0.here hx rfl (hb hby ex_d31) k) ?_
        show own_Dn p e below s _ _ _ (T0.setTop (mkF m 32 #[.val (.int p0)] [(.int (-1 : Int32))]))
        exact own_retI X0 hx hret hlk (hb hby ex_d32) (by decide) (by decide) ⟨(by rw [hr0, ex_f, if_neg hc5, if_neg hc6, if_pos hc7]), N0, e0⟩
      · refine own_st (fun _ k => XS.icmpNo X0.here hx rfl (hb hby ex_d17) rfl (flt hc7).1 k) ?_
        show own_Dn p e below s _ _ _ (T0.setTop (mkF m 20 #[.val (.int p0)] []))
        refine own_st (fun _ k => XS.iloadN X0.here hx rfl (hb hby ex_d20) rfl (XS.bipush X0.here hx rfl (hb hby ex_d21) k)) ?_
        show own_Dn p e below s _ _ _ (T0.setTop (mkF m 23 #[.val (.int p0)] [(.int (73 : Int32)), (.int p0)]))
        by_cases hc8 : (73 : Int32) < p0
        · refine own_st (fun _ k => XS.icmpYes X0.here hx rfl (pc0 := 23) (pc' := 31) rfl (hb hby ex_d23) rfl (tlt hc8).2.2.1 (by decide) (by decide) k) ?_
          show own_Dn p e below s _ _ _ (T0.setTop (mkF m 31 #[.val (.int p0)] []))
          refine own_st (fun _ k => XS.iconst X0.here hx rfl (hb hby ex_d31) k) ?_
          show own_Dn p e below s _ _ _ (T0.setTop (mkF m 32 #[.val (.int p0)] [(.int (-1 : Int32))]))
          exact own_retI X0 hx hret hlk (hb hby ex_d32) (by decide) (by decide) ⟨(by rw [hr0, ex_f, if_neg hc5, if_neg hc6, if_neg hc7, if_pos hc8]), N0, e0⟩
        · refine own_st (fun _ k => XS.icmpNo X0.here hx rfl (hb hby ex_d23) rfl (flt hc8).2.2.1 k) ?_
          show own_Dn p e below s _ _ _ (T0.setTop (mkF m 26 #[.val (.int p0)] []))
          exact ex_c26 C0 X0 e0 N0 (by rw [hr0, ex_f, if_neg hc5, if_neg hc6, if_neg hc7, if_neg hc8])
theorem ex_ef (m : MethodId) (p0 : Int32) : entryFrame m #[(.int p0)] 1 = mkF m 0 #[.val (.int p0)] [] := by first | (simp [entryFrame, mkF, argsToLocals, Value.category]; done) | rfl
theorem ex_rm (l : Launch) (Z : State) (a0 : Array Value) (hw : ∀ d ∈ tables_1, d.before a0 Z = true) (ws : List Jvm.Cond) (p0 : Int32) (h0 : Heap) (n0 : Nat) :
    MetFree l (⟨"com/example/xylograph/xylograph/evtbinxml/TokenTypePinLaw", "expected", "(I)I"⟩ : MethodName) (head1 (Jvm.Cond.code (⟨"com/example/xylograph/xylograph/evtbinxml/TokenTypePinLaw", "expected", "(I)I"⟩ : MethodName) method_2_code 1 (some .int) :: ws) ({ frames := 0, cells := 0, slots := 0, locals := 0 } : Room)) (fun a U => a = #[(.int p0)] ∧ Z.Warmed39 U.vm ∧ U.heap = h0) (fun _ _ _ _ _ => True) (fun _ U o U' => ∃ v L, o = .returned v ∧ (own_Q (some (.int (ex_f p0))) n0 h0) v U'.heap L ∧ FrameEnd U o U' L ({ frames := 0, cells := 0, slots := 0, locals := 0 } : Room).cells ({ frames := 0, cells := 0, slots := 0, locals := 0 } : Room).slots) :=
  own_met hw (plainFor_of_name (by first | (simp [plainName, overriddenIn]; done) | decide +kernel)) (fun p e s m below meth c T0 C0 X0 e0 => own_st (fun _ k => castTop (ex_ef m p0) k) (ex_c0 C0 X0 e0 (Fr.nil n0) rfl))
theorem lw_d0 : decode code 0 = .ok (.iload_n 0, 1) := by decide +kernel
theorem lw_d1 : decode code 1 = .ok (.sipush 255, 3) := by decide +kernel
theorem lw_d4 : decode code 4 = .ok (.iand, 1) := by decide +kernel
theorem lw_d5 : decode code 5 = .ok (.istore_n 2, 1) := by decide +kernel
theorem lw_d6 : decode code 6 = .ok (.iload_n 2, 1) := by decide +kernel
theorem lw_d7 : decode code 7 = .ok (.invokestatic 7, 3) := by decide +kernel
theorem lw_d10 : decode code 10 = .ok (.istore_n 3, 1) := by decide +kernel
theorem lw_d11 : decode code 11 = .ok (.iload_n 1, 1) := by decide +kernel
theorem lw_d12 : decode code 12 = .ok (.invokestatic 7, 3) := by decide +kernel
theorem lw_d15 : decode code 15 = .ok (.istore 4, 2) := by decide +kernel
theorem lw_d17 : decode code 17 = .ok (.iload_n 3, 1) := by decide +kernel
theorem lw_d18 : decode code 18 = .ok (.iload_n 2, 1) := by decide +kernel
theorem lw_d19 : decode code 19 = .ok (.invokestatic 13, 3) := by decide +kernel
theorem lw_d22 : decode code 22 = .ok (.if_icmp .ne 7, 3) := by decide +kernel
theorem lw_d25 : decode code 25 = .ok (.iconst 1, 1) := by decide +kernel
theorem lw_d26 : decode code 26 = .ok (.goto 4, 3) := by decide +kernel
theorem lw_d29 : decode code 29 = .ok (.iconst 0, 1) := by decide +kernel
theorem lw_d30 : decode code 30 = .ok (.istore 5, 2) := by decide +kernel
theorem lw_d32 : decode code 32 = .ok (.iload_n 1, 1) := by decide +kernel
theorem lw_d33 : decode code 33 = .ok (.ifCond .lt 20, 3) := by decide +kernel
theorem lw_d36 : decode code 36 = .ok (.iload 4, 2) := by decide +kernel
theorem lw_d38 : decode code 38 = .ok (.iload_n 1, 1) := by decide +kernel
theorem lw_d39 : decode code 39 = .ok (.invokestatic 13, 3) := by decide +kernel
theorem lw_d42 : decode code 42 = .ok (.if_icmp .ne 7, 3) := by decide +kernel
theorem lw_d45 : decode code 45 = .ok (.iconst 1, 1) := by decide +kernel
theorem lw_d46 : decode code 46 = .ok (.goto 17, 3) := by decide +kernel
theorem lw_d49 : decode code 49 = .ok (.iconst 0, 1) := by decide +kernel
theorem lw_d50 : decode code 50 = .ok (.goto 13, 3) := by decide +kernel
theorem lw_d53 : decode code 53 = .ok (.iload 4, 2) := by decide +kernel
theorem lw_d55 : decode code 55 = .ok (.ifCond .ge 7, 3) := by decide +kernel
theorem lw_d58 : decode code 58 = .ok (.iconst 1, 1) := by decide +kernel
theorem lw_d59 : decode code 59 = .ok (.goto 4, 3) := by decide +kernel
theorem lw_d62 : decode code 62 = .ok (.iconst 0, 1) := by decide +kernel
theorem lw_d63 : decode code 63 = .ok (.istore 6, 2) := by decide +kernel
theorem lw_d65 : decode code 65 = .ok (.iload 5, 2) := by decide +kernel
theorem lw_d67 : decode code 67 = .ok (.ifCond .eq 12, 3) := by decide +kernel
theorem lw_d70 : decode code 70 = .ok (.iload 6, 2) := by decide +kernel
theorem lw_d72 : decode code 72 = .ok (.ifCond .eq 7, 3) := by decide +kernel
theorem lw_d75 : decode code 75 = .ok (.iconst 1, 1) := by decide +kernel
theorem lw_d76 : decode code 76 = .ok (.goto 4, 3) := by decide +kernel
theorem lw_d79 : decode code 79 = .ok (.iconst 0, 1) := by decide +kernel
theorem lw_d80 : decode code 80 = .ok (.ireturn, 1) := by decide +kernel
def lw_f (p0 : Int32) (p1 : Int32) (w_f : Nat → Value)  : Int32 :=
  if (ty_f (p0 &&& (255 : Int32)) w_f) = (ex_f (p0 &&& (255 : Int32))) then
    if p1 < (0 : Int32) then
      if (ty_f p1 w_f) < (0 : Int32) then
        (1 : Int32)
      else
        (0 : Int32)
    else
      if (ty_f p1 w_f) = (ex_f p1) then
        (1 : Int32)
      else
        (0 : Int32)
  else
    if p1 < (0 : Int32) then
      if (ty_f p1 w_f) < (0 : Int32) then
        (0 : Int32)
      else
        (0 : Int32)
    else
      if (ty_f p1 w_f) = (ex_f p1) then
        (0 : Int32)
      else
        (0 : Int32)
set_option maxRecDepth 65536 in
set_option maxHeartbeats 40000000 in
theorem lw_c0 {l : Launch} {Z : State} {a0 : Array Value} {p0 : Int32} {p1 : Int32} {w_a : Addr} {w_f : Nat → Value} {h0 : Heap} {n0 : Nat} {p : Program} {e : Env} {s : State} {m : MethodId} {args : Array Value} {below : List Frame} {meth : Method} {c : Code} {T0 : State} {locs : List Loc} {r0 : Int32} (C0 : own_Cx p s m meth c Z a0 code 7 "com/example/xylograph/xylograph/evtbinxml/TokenTypePinLaw" "law" (some .boolean)) (X0 : Stand p l e room_1 s m args below meth c T0 locs 0 0) (e0 : T0.heap = h0) (N0 : Fr n0 locs)  (Z0 : n0 ≤ h0.size) (P0 : Sta Z h0 "com/example/xylograph/xylograph/evtbinxml/Token" "NAMES" "[Ljava/lang/String;" (.ref w_a)) (P1 : own_Arf Z h0 w_a (.object "java/lang/String") 16 (fun i => (w_f i))) (hr0 : r0 = lw_f p0 p1 w_f ) :
    own_Dn p e below s (own_QL (some (.int r0)) n0) room_1.cells room_1.slots (T0.setTop (mkF m 0 #[.val (.int p0), .val (.int p1), .unset, .unset, .unset, .unset, .unset] [])) := by
  obtain ⟨hx, hZ, hw, hby, hml, hown, hret, hlk, hnm⟩ := id C0
  refine own_st (fun _ k => XS.iloadN X0.here hx rfl (hb hby lw_d0) rfl (XS.sipush X0.here hx rfl (hb hby lw_d1) (XS.iand X0.here hx rfl (hb hby lw_d4) rfl (XS.istoreN X0.here hx rfl (hb hby lw_d5) rfl (l' := #[.val (.int p0), .val (.int p1), .val (.int (p0 &&& (255 : Int32))), .unset, .unset, .unset, .unset]) rfl (XS.iloadN X0.here hx rfl (hb hby lw_d6) rfl k))))) ?_
  show own_Dn p e below s _ _ _ (T0.setTop (mkF m 7 #[.val (.int p0), .val (.int p1), .val (.int (p0 &&& (255 : Int32))), .unset, .unset, .unset, .unset] [(.int (p0 &&& (255 : Int32)))]))
  obtain ⟨_, _, ⟨T13, L13, k13, n13⟩, -, X13, ⟨Lc13, hQ13, l13, y13, z13⟩, st13⟩ := Jvm.LawKit.callS X0 hx (y := (⟨"com/example/xylograph/xylograph/evtbinxml/Token", "type", "(I)I"⟩ : MethodName)) hown (mvT hZ (hw _ (List.mem_of_getElem? (i := 0) rfl))) (mvT hZ (hw _ (List.mem_of_getElem? (i := 1) rfl))) (mvT hZ (hw _ (List.mem_of_getElem? (i := 2) rfl))) (mvT hZ (hw _ (List.mem_of_getElem? (i := 3) rfl))) (by decide) (backOf (W := 0) (ty_rm l Z a0 hw [] ((p0 &&& (255 : Int32))) (w_a) (w_f) h0 n0 Z0 P0 P1) hZ (hw _ (List.mem_of_getElem? (i := 3) rfl)) (hw _ (List.mem_of_getElem? (i := 2) rfl)) (by decide) (by decide)) (g := (mkF m 7 #[.val (.int p0), .val (.int p1), .val (.int (p0 &&& (255 : Int32))), .unset, .unset, .unset, .unset] [(.int (p0 &&& (255 : Int32)))])) rfl (by rw [hml]; rfl) (argsL := [(.int (p0 &&& (255 : Int32)))]) (rest := []) (lenOf own_pd0 rfl) rfl (by show 2 * 0 + _ ≤ _; exact Nat.le_of_eq rfl) (hb hby lw_d7) (fun _ _ => ⟨rfl, e0, (by decide : 0 + 0 ≤ _), (by decide : 0 + 0 ≤ _)⟩)
  dsimp only [Pt.U, Pt.locs, Pt.cells, Pt.slots] at X13 l13 y13 z13 st13 hQ13
  subst l13 y13 z13
  obtain ⟨rfl, N13q, e13⟩ := hQ13
  have N13 := Fr.app N0 N13q
  refine own_st st13 ?_
  show own_Dn p e below s _ _ _ (T13.setTop (mkF m 10 #[.val (.int p0), .val (.int p1), .val (.int (p0 &&& (255 : Int32))), .unset, .unset, .unset, .unset] [(.int (ty_f (p0 &&& (255 : Int32)) w_f))]))
  refine own_st (fun _ k => XS.istoreN X13.here hx rfl (hb hby lw_d10) rfl (l' := #[.val (.int p0), .val (.int p1), .val (.int (p0 &&& (255 : Int32))), .val (.int (ty_f (p0 &&& (255 : Int32)) w_f)), .unset, .unset, .unset]) rfl (XS.iloadN X13.here hx rfl (hb hby lw_d11) rfl k)) ?_
  show own_Dn p e below s _ _ _ (T13.setTop (mkF m 12 #[.val (.int p0), .val (.int p1), .val (.int (p0 &&& (255 : Int32))), .val (.int (ty_f (p0 &&& (255 : Int32)) w_f)), .unset, .unset, .unset] [(.int p1)]))
  obtain ⟨_, _, ⟨T14, L14, k14, n14⟩, -, X14, ⟨Lc14, hQ14, l14, y14, z14⟩, st14⟩ := Jvm.LawKit.callS X13 hx (y := (⟨"com/example/xylograph/xylograph/evtbinxml/Token", "type", "(I)I"⟩ : MethodName)) hown (mvT hZ (hw _ (List.mem_of_getElem? (i := 0) rfl))) (mvT hZ (hw _ (List.mem_of_getElem? (i := 1) rfl))) (mvT hZ (hw _ (List.mem_of_getElem? (i := 2) rfl))) (mvT hZ (hw _ (List.mem_of_getElem? (i := 3) rfl))) (by decide) (backOf (W := 0) (ty_rm l Z a0 hw [] (p1) (w_a) (w_f) h0 n0 Z0 P0 P1) hZ (hw _ (List.mem_of_getElem? (i := 3) rfl)) (hw _ (List.mem_of_getElem? (i := 2) rfl)) (by decide) (by decide)) (g := (mkF m 12 #[.val (.int p0), .val (.int p1), .val (.int (p0 &&& (255 : Int32))), .val (.int (ty_f (p0 &&& (255 : Int32)) w_f)), .unset, .unset, .unset] [(.int p1)])) rfl (by rw [hml]; rfl) (argsL := [(.int p1)]) (rest := []) (lenOf own_pd0 rfl) rfl (by show 2 * 0 + _ ≤ _; exact Nat.le_of_eq rfl) (hb hby lw_d12) (fun _ _ => ⟨rfl, e13, (by decide : 0 + 0 ≤ _), (by decide : 0 + 0 ≤ _)⟩)
  dsimp only [Pt.U, Pt.locs, Pt.cells, Pt.slots] at X14 l14 y14 z14 st14 hQ14
  subst l14 y14 z14
  obtain ⟨rfl, N14q, e14⟩ := hQ14
  have N14 := Fr.app N13 N14q
  refine own_st st14 ?_
  show own_Dn p e below s _ _ _ (T14.setTop (mkF m 15 #[.val (.int p0), .val (.int p1), .val (.int (p0 &&& (255 : Int32))), .val (.int (ty_f (p0 &&& (255 : Int32)) w_f)), .unset, .unset, .unset] [(.int (ty_f p1 w_f))]))
  refine own_st (fun _ k => XS.istore X14.here hx rfl (hb hby lw_d15) rfl (l' := #[.val (.int p0), .val (.int p1), .val (.int (p0 &&& (255 : Int32))), .val (.int (ty_f (p0 &&& (255 : Int32)) w_f)), .val (.int (ty_f p1 w_f)), .unset, .unset]) rfl (XS.iloadN X14.here hx rfl (hb hby lw_d17) rfl (XS.iloadN X14.here hx rfl (hb hby lw_d18) rfl k))) ?_
  show own_Dn p e below s _ _ _ (T14.setTop (mkF m 19 #[.val (.int p0), .val (.int p1), .val (.int (p0 &&& (255 : Int32))), .val (.int (ty_f (p0 &&& (255 : Int32)) w_f)), .val (.int (ty_f p1 w_f)), .unset, .unset] [(.int (p0 &&& (255 : Int32))), (.int (ty_f (p0 &&& (255 : Int32)) w_f))]))
  obtain ⟨_, _, ⟨T15, L15, k15, n15⟩, -, X15, ⟨Lc15, hQ15, l15, y15, z15⟩, st15⟩ := Jvm.LawKit.callS X14 hx (y := (⟨"com/example/xylograph/xylograph/evtbinxml/TokenTypePinLaw", "expected", "(I)I"⟩ : MethodName)) hown (mvT hZ (hw _ (List.mem_of_getElem? (i := 6) rfl))) (mvT hZ (hw _ (List.mem_of_getElem? (i := 7) rfl))) (mvT hZ (hw _ (List.mem_of_getElem? (i := 8) rfl))) (mvT hZ (hw _ (List.mem_of_getElem? (i := 9) rfl))) (by decide) (backOf (W := 1) (ex_rm l Z a0 hw [] ((p0 &&& (255 : Int32))) h0 n0) hZ (hw _ (List.mem_of_getElem? (i := 9) rfl)) (hw _ (List.mem_of_getElem? (i := 8) rfl)) (by decide) (by decide)) (g := (mkF m 19 #[.val (.int p0), .val (.int p1), .val (.int (p0 &&& (255 : Int32))), .val (.int (ty_f (p0 &&& (255 : Int32)) w_f)), .val (.int (ty_f p1 w_f)), .unset, .unset] [(.int (p0 &&& (255 : Int32))), (.int (ty_f (p0 &&& (255 : Int32)) w_f))])) rfl (by rw [hml]; rfl) (argsL := [(.int (p0 &&& (255 : Int32)))]) (rest := [(.int (ty_f (p0 &&& (255 : Int32)) w_f))]) (lenOf own_pd0 rfl) rfl (by show 2 * 0 + _ ≤ _; exact Nat.le_of_eq rfl) (hb hby lw_d19) (fun _ _ => ⟨rfl, e14, (by decide : 0 + 0 ≤ _), (by decide : 0 + 0 ≤ _)⟩)
  dsimp only [Pt.U, Pt.locs, Pt.cells, Pt.slots] at X15 l15 y15 z15 st15 hQ15
  subst l15 y15 z15
  obtain ⟨rfl, N15q, e15⟩ := hQ15
  have N15 := Fr.app N14 N15q
  refine own_st st15 ?_
  show own_Dn p e below s _ _ _ (T15.setTop (mkF m 22 #[.val (.int p0), .val (.int p1), .val (.int (p0 &&& (255 : Int32))), .val (.int (ty_f (p0 &&& (255 : Int32)) w_f)), .val (.int (ty_f p1 w_f)), .unset, .unset] [(.int (ex_f (p0 &&& (255 : Int32)))), (.int (ty_f (p0 &&& (255 : Int32)) w_f))]))
  by_cases hc16 : (ty_f (p0 &&& (255 : Int32)) w_f) = (ex_f (p0 &&& (255 : Int32)))
  · refine own_st (fun _ k => XS.icmpNo X15.here hx rfl (hb hby lw_d22) rfl (teq hc16).2 k) ?_
    show own_Dn p e below s _ _ _ (T15.setTop (mkF m 25 #[.val (.int p0), .val (.int p1), .val (.int (p0 &&& (255 : Int32))), .val (.int (ty_f (p0 &&& (255 : Int32)) w_f)), .val (.int (ty_f p1 w_f)), .unset, .unset] []))
    refine own_st (fun _ k => XS.iconst X15.here hx rfl (hb hby lw_d25) (XS.goto X15.here hx rfl (pc0 := 26) (pc' := 30) rfl (hb hby lw_d26) (by decide) (by decide) (XS.istore X15.here hx rfl (hb hby lw_d30) rfl (l' := #[.val (.int p0), .val (.int p1), .val (.int (p0 &&& (255 : Int32))), .val (.int (ty_f (p0 &&& (255 : Int32)) w_f)), .val (.int (ty_f p1 w_f)), .val (.int (1 : Int32)), .unset]) rfl (XS.iloadN X15.here hx rfl (hb hby lw_d32) rfl k)))) ?_
    show own_Dn p e below s _ _ _ (T15.setTop (mkF m 33 #[.val (.int p0), .val (.int p1), .val (.int (p0 &&& (255 : Int32))), .val (.int (ty_f (p0 &&& (255 : Int32)) w_f)), .val (.int (ty_f p1 w_f)), .val (.int (1 : Int32)), .unset] [(.int p1)]))
    by_cases hc17 : p1 < (0 : Int32)
    · refine own_st (fun _ k => XS.ifYes X15.here hx rfl (pc0 := 33) (pc' := 53) rfl (hb hby lw_d33) rfl ((if0 _ _).trans (tlt hc17).1) (by decide) (by decide) k) ?_
      show own_Dn p e below s _ _ _ (T15.setTop (mkF m 53 #[.val (.int p0), .val (.int p1), .val (.int (p0 &&& (255 : Int32))), .val (.int (ty_f (p0 &&& (255 : Int32)) w_f)), .val (.int (ty_f p1 w_f)), .val (.int (1 : Int32)), .unset] []))
      refine own_st (fun _ k => XS.iload X15.here hx rfl (hb hby lw_d53) rfl k) ?_
      show own_Dn p e below s _ _ _ (T15.setTop (mkF m 55 #[.val (.int p0), .val (.int p1), .val (.int (p0 &&& (255 : Int32))), .val (.int (ty_f (p0 &&& (255 : Int32)) w_f)), .val (.int (ty_f p1 w_f)), .val (.int (1 : Int32)), .unset] [(.int (ty_f p1 w_f))]))
      by_cases hc18 : (ty_f p1 w_f) < (0 : Int32)
      · refine own_st (fun _ k => XS.ifNo X15.here hx rfl (hb hby lw_d55) rfl ((if0 _ _).trans (tlt hc18).2.1) k) ?_
        show own_Dn p e below s _ _ _ (T15.setTop (mkF m 58 #[.val (.int p0), .val (.int p1), .val (.int (p0 &&& (255 : Int32))), .val (.int (ty_f (p0 &&& (255 : Int32)) w_f)), .val (.int (ty_f p1 w_f)), .val (.int (1 : Int32)), .unset] []))
        refine own_st (fun _ k => XS.iconst X15.here hx rfl (hb hby lw_d58) (XS.goto X15.here hx rfl (pc0 := 59) (pc' := 63) rfl (hb hby lw_d59) (by decide) (by decide) (XS.istore X15.here hx rfl (hb hby lw_d63) rfl (l' := #[.val (.int p0), .val (.int p1), .val (.int (p0 &&& (255 : Int32))), .val (.int (ty_f (p0 &&& (255 : Int32)) w_f)), .val (.int (ty_f p1 w_f)), .val (.int (1 : Int32)), .val (.int (1 : Int32))]) rfl (XS.iload X15.here hx rfl (hb hby lw_d65) rfl k)))) ?_
        show own_Dn p e below s _ _ _ (T15.setTop (mkF m 67 #[.val (.int p0), .val (.int p1), .val (.int (p0 &&& (255 : Int32))), .val (.int (ty_f (p0 &&& (255 : Int32)) w_f)), .val (.int (ty_f p1 w_f)), .val (.int (1 : Int32)), .val (.int (1 : Int32))] [(.int (1 : Int32))]))
        refine own_st (fun _ k => XS.ifNo X15.here hx rfl (hb hby lw_d67) rfl ((if0 _ _).trans (feq (by decide : ¬ ((1 : Int32) = (0 : Int32)))).1) k) ?_
        show own_Dn p e below s _ _ _ (T15.setTop (mkF m 70 #[.val (.int p0), .val (.int p1), .val (.int (p0 &&& (255 : Int32))), .val (.int (ty_f (p0 &&& (255 : Int32)) w_f)), .val (.int (ty_f p1 w_f)), .val (.int (1 : Int32)), .val (.int (1 : Int32))] []))
        refine own_st (fun _ k => XS.iload X15.here hx rfl (hb hby lw_d70) rfl k) ?_
        show own_Dn p e below s _ _ _ (T15.setTop (mkF m 72 #[.val (.int p0), .val (.int p1), .val (.int (p0 &&& (255 : Int32))), .val (.int (ty_f (p0 &&& (255 : Int32)) w_f)), .val (.int (ty_f p1 w_f)), .val (.int (1 : Int32)), .val (.int (1 : Int32))] [(.int (1 : Int32))]))
        refine own_st (fun _ k => XS.ifNo X15.here hx rfl (hb hby lw_d72) rfl ((if0 _ _).trans (feq (by decide : ¬ ((1 : Int32) = (0 : Int32)))).1) k) ?_
        show own_Dn p e below s _ _ _ (T15.setTop (mkF m 75 #[.val (.int p0), .val (.int p1), .val (.int (p0 &&& (255 : Int32))), .val (.int (ty_f (p0 &&& (255 : Int32)) w_f)), .val (.int (ty_f p1 w_f)), .val (.int (1 : Int32)), .val (.int (1 : Int32))] []))
        refine own_st (fun _ k => XS.iconst X15.here hx rfl (hb hby lw_d75) (XS.goto X15.here hx rfl (pc0 := 76) (pc' := 80) rfl (hb hby lw_d76) (by decide) (by decide) k)) ?_
        show own_Dn p e below s _ _ _ (T15.setTop (mkF m 80 #[.val (.int p0), .val (.int p1), .val (.int (p0 &&& (255 : Int32))), .val (.int (ty_f (p0 &&& (255 : Int32)) w_f)), .val (.int (ty_f p1 w_f)), .val (.int (1 : Int32)), .val (.int (1 : Int32))] [(.int (1 : Int32))]))
        exact own_retZ X15 hx hret hlk (by decide) (hb hby lw_d80) (by decide) (by decide) ⟨(by rw [hr0, lw_f, if_pos hc16, if_pos hc17, if_pos hc18]), N15⟩
      · refine own_st (fun _ k => XS.ifYes X15.here hx rfl (pc0 := 55) (pc' := 62) rfl (hb hby lw_d55) rfl ((if0 _ _).trans (flt hc18).2.1) (by decide) (by decide) k) ?_
        show own_Dn p e below s _ _ _ (T15.setTop (mkF m 62 #[.val (.int p0), .val (.int p1), .val (.int (p0 &&& (255 : Int32))), .val (.int (ty_f (p0 &&& (255 : Int32)) w_f)), .val (.int (ty_f p1 w_f)), .val (.int (1 : Int32)), .unset] []))
        refine own_st (fun _ k => XS.iconst X15.here hx rfl (hb hby lw_d62) (XS.istore X15.here hx rfl (hb hby lw_d63) rfl (l' := #[.val (.int p0), .val (.int p1), .val (.int (p0 &&& (255 : Int32))), .val (.int (ty_f (p0 &&& (255 : Int32)) w_f)), .val (.int (ty_f p1 w_f)), .val (.int (1 : Int32)), .val (.int (0 : Int32))]) rfl (XS.iload X15.here hx rfl (hb hby lw_d65) rfl k))) ?_
        show own_Dn p e below s _ _ _ (T15.setTop (mkF m 67 #[.val (.int p0), .val (.int p1), .val (.int (p0 &&& (255 : Int32))), .val (.int (ty_f (p0 &&& (255 : Int32)) w_f)), .val (.int (ty_f p1 w_f)), .val (.int (1 : Int32)), .val (.int (0 : Int32))] [(.int (1 : Int32))]))
        refine own_st (fun _ k => XS.ifNo X15.here hx rfl (hb hby lw_d67) rfl ((if0 _ _).trans (feq (by decide : ¬ ((1 : Int32) = (0 : Int32)))).1) k) ?_
        show own_Dn p e below s _ _ _ (T15.setTop (mkF m 70 #[.val (.int p0), .val (.int p1), .val (.int (p0 &&& (255 : Int32))), .val (.int (ty_f (p0 &&& (255 : Int32)) w_f)), .val (.int (ty_f p1 w_f)), .val (.int (1 : Int32)), .val (.int (0 : Int32))] []))
        refine own_st (fun _ k => XS.iload X15.here hx rfl (hb hby lw_d70) rfl k) ?_
        show own_Dn p e below s _ _ _ (T15.setTop (mkF m 72 #[.val (.int p0), .val (.int p1), .val (.int (p0 &&& (255 : Int32))), .val (.int (ty_f (p0 &&& (255 : Int32)) w_f)), .val (.int (ty_f p1 w_f)), .val (.int (1 : Int32)), .val (.int (0 : Int32))] [(.int (0 : Int32))]))
        refine own_st (fun _ k => XS.ifYes X15.here hx rfl (pc0 := 72) (pc' := 79) rfl (hb hby lw_d72) rfl ((if0 _ _).trans (teq (by decide : (0 : Int32) = (0 : Int32))).1) (by decide) (by decide) k) ?_
        show own_Dn p e below s _ _ _ (T15.setTop (mkF m 79 #[.val (.int p0), .val (.int p1), .val (.int (p0 &&& (255 : Int32))), .val (.int (ty_f (p0 &&& (255 : Int32)) w_f)), .val (.int (ty_f p1 w_f)), .val (.int (1 : Int32)), .val (.int (0 : Int32))] []))
        refine own_st (fun _ k => XS.iconst X15.here hx rfl (hb hby lw_d79) k) ?_
        show own_Dn p e below s _ _ _ (T15.setTop (mkF m 80 #[.val (.int p0), .val (.int p1), .val (.int (p0 &&& (255 : Int32))), .val (.int (ty_f (p0 &&& (255 : Int32)) w_f)), .val (.int (ty_f p1 w_f)), .val (.int (1 : Int32)), .val (.int (0 : Int32))] [(.int (0 : Int32))]))
        exact own_retZ X15 hx hret hlk (by decide) (hb hby lw_d80) (by decide) (by decide) ⟨(by rw [hr0, lw_f, if_pos hc16, if_pos hc17, if_neg hc18]), N15⟩
    · refine own_st (fun _ k => XS.ifNo X15.here hx rfl (hb hby lw_d33) rfl ((if0 _ _).trans (flt hc17).1) k) ?_
      show own_Dn p e below s _ _ _ (T15.setTop (mkF m 36 #[.val (.int p0), .val (.int p1), .val (.int (p0 &&& (255 : Int32))), .val (.int (ty_f (p0 &&& (255 : Int32)) w_f)), .val (.int (ty_f p1 w_f)), .val (.int (1 : Int32)), .unset] []))
      refine own_st (fun _ k => XS.iload X15.here hx rfl (hb hby lw_d36) rfl (XS.iloadN X15.here hx rfl (hb hby lw_d38) rfl k)) ?_
      show own_Dn p e below s _ _ _ (T15.setTop (mkF m 39 #[.val (.int p0), .val (.int p1), .val (.int (p0 &&& (255 : Int32))), .val (.int (ty_f (p0 &&& (255 : Int32)) w_f)), .val (.int (ty_f p1 w_f)), .val (.int (1 : Int32)), .unset] [(.int p1), (.int (ty_f p1 w_f))]))
      obtain ⟨_, _, ⟨T19, L19, k19, n19⟩, -, X19, ⟨Lc19, hQ19, l19, y19, z19⟩, st19⟩ := Jvm.LawKit.callS X15 hx (y := (⟨"com/example/xylograph/xylograph/evtbinxml/TokenTypePinLaw", "expected", "(I)I"⟩ : MethodName)) hown (mvT hZ (hw _ (List.mem_of_getElem? (i := 6) rfl))) (mvT hZ (hw _ (List.mem_of_getElem? (i := 7) rfl))) (mvT hZ (hw _ (List.mem_of_getElem? (i := 8) rfl))) (mvT hZ (hw _ (List.mem_of_getElem? (i := 9) rfl))) (by decide) (backOf (W := 1) (ex_rm l Z a0 hw [] (p1) h0 n0) hZ (hw _ (List.mem_of_getElem? (i := 9) rfl)) (hw _ (List.mem_of_getElem? (i := 8) rfl)) (by decide) (by decide)) (g := (mkF m 39 #[.val (.int p0), .val (.int p1), .val (.int (p0 &&& (255 : Int32))), .val (.int (ty_f (p0 &&& (255 : Int32)) w_f)), .val (.int (ty_f p1 w_f)), .val (.int (1 : Int32)), .unset] [(.int p1), (.int (ty_f p1 w_f))])) rfl (by rw [hml]; rfl) (argsL := [(.int p1)]) (rest := [(.int (ty_f p1 w_f))]) (lenOf own_pd0 rfl) rfl (by show 2 * 0 + _ ≤ _; exact Nat.le_of_eq rfl) (hb hby lw_d39) (fun _ _ => ⟨rfl, e15, (by decide : 0 + 0 ≤ _), (by decide : 0 + 0 ≤ _)⟩)
      dsimp only [Pt.U, Pt.locs, Pt.cells, Pt.slots] at X19 l19 y19 z19 st19 hQ19
      subst l19 y19 z19
      obtain ⟨rfl, N19q, e19⟩ := hQ19
      have N19 := Fr.app N15 N19q
      refine own_st st19 ?_
      show own_Dn p e below s _ _ _ (T19.setTop (mkF m 42 #[.val (.int p0), .val (.int p1), .val (.int (p0 &&& (255 : Int32))), .val (.int (ty_f (p0 &&& (255 : Int32)) w_f)), .val (.int (ty_f p1 w_f)), .val (.int (1 : Int32)), .unset] [(.int (ex_f p1)), (.int (ty_f p1 w_f))]))
      by_cases hc20 : (ty_f p1 w_f) = (ex_f p1)
      · refine own_st (fun _ k => XS.icmpNo X19.here hx rfl (hb hby lw_d42) rfl (teq hc20).2 k) ?_
        show own_Dn p e below s _ _ _ (T19.setTop (mkF m 45 #[.val (.int p0), .val (.int p1), .val (.int (p0 &&& (255 : Int32))), .val (.int (ty_f (p0 &&& (255 : Int32)) w_f)), .val (.int (ty_f p1 w_f)), .val (.int (1 : Int32)), .unset] []))
        refine own_st (fun _ k => XS.iconst X19.here hx rfl (hb hby lw_d45) (XS.goto X19.here hx rfl (pc0 := 46) (pc' := 63) rfl (hb hby lw_d46) (by decide) (by decide) (XS.istore X19.here hx rfl (hb hby lw_d63) rfl (l' := #[.val (.int p0), .val (.int p1), .val (.int (p0 &&& (255 : Int32))), .val (.int (ty_f (p0 &&& (255 : Int32)) w_f)), .val (.int (ty_f p1 w_f)), .val (.int (1 : Int32)), .val (.int (1 : Int32))]) rfl (XS.iload X19.here hx rfl (hb hby lw_d65) rfl k)))) ?_
        show own_Dn p e below s _ _ _ (T19.setTop (mkF m 67 #[.val (.int p0), .val (.int p1), .val (.int (p0 &&& (255 : Int32))), .val (.int (ty_f (p0 &&& (255 : Int32)) w_f)), .val (.int (ty_f p1 w_f)), .val (.int (1 : Int32)), .val (.int (1 : Int32))] [(.int (1 : Int32))]))
        refine own_st (fun _ k => XS.ifNo X19.here hx rfl (hb hby lw_d67) rfl ((if0 _ _).trans (feq (by decide : ¬ ((1 : Int32) = (0 : Int32)))).1) k) ?_
        show own_Dn p e below s _ _ _ (T19.setTop (mkF m 70 #[.val (.int p0), .val (.int p1), .val (.int (p0 &&& (255 : Int32))), .val (.int (ty_f (p0 &&& (255 : Int32)) w_f)), .val (.int (ty_f p1 w_f)), .val (.int (1 : Int32)), .val (.int (1 : Int32))] []))
        refine own_st (fun _ k => XS.iload X19.here hx rfl (hb hby lw_d70) rfl k) ?_
        show own_Dn p e below s _ _ _ (T19.setTop (mkF m 72 #[.val (.int p0), .val (.int p1), .val (.int (p0 &&& (255 : Int32))), .val (.int (ty_f (p0 &&& (255 : Int32)) w_f)), .val (.int (ty_f p1 w_f)), .val (.int (1 : Int32)), .val (.int (1 : Int32))] [(.int (1 : Int32))]))
        refine own_st (fun _ k => XS.ifNo X19.here hx rfl (hb hby lw_d72) rfl ((if0 _ _).trans (feq (by decide : ¬ ((1 : Int32) = (0 : Int32)))).1) k) ?_
        show own_Dn p e below s _ _ _ (T19.setTop (mkF m 75 #[.val (.int p0), .val (.int p1), .val (.int (p0 &&& (255 : Int32))), .val (.int (ty_f (p0 &&& (255 : Int32)) w_f)), .val (.int (ty_f p1 w_f)), .val (.int (1 : Int32)), .val (.int (1 : Int32))] []))
        refine own_st (fun _ k => XS.iconst X19.here hx rfl (hb hby lw_d75) (XS.goto X19.here hx rfl (pc0 := 76) (pc' := 80) rfl (hb hby lw_d76) (by decide) (by decide) k)) ?_
        show own_Dn p e below s _ _ _ (T19.setTop (mkF m 80 #[.val (.int p0), .val (.int p1), .val (.int (p0 &&& (255 : Int32))), .val (.int (ty_f (p0 &&& (255 : Int32)) w_f)), .val (.int (ty_f p1 w_f)), .val (.int (1 : Int32)), .val (.int (1 : Int32))] [(.int (1 : Int32))]))
        exact own_retZ X19 hx hret hlk (by decide) (hb hby lw_d80) (by decide) (by decide) ⟨(by rw [hr0, lw_f, if_pos hc16, if_neg hc17, if_pos hc20]), N19⟩
      · refine own_st (fun _ k => XS.icmpYes X19.here hx rfl (pc0 := 42) (pc' := 49) rfl (hb hby lw_d42) rfl (feq hc20).2 (by decide) (by decide) k) ?_
        show own_Dn p e below s _ _ _ (T19.setTop (mkF m 49 #[.val (.int p0), .val (.int p1), .val (.int (p0 &&& (255 : Int32))), .val (.int (ty_f (p0 &&& (255 : Int32)) w_f)), .val (.int (ty_f p1 w_f)), .val (.int (1 : Int32)), .unset] []))
        refine own_st (fun _ k => XS.iconst X19.here hx rfl (hb hby lw_d49) (XS.goto X19.here hx rfl (pc0 := 50) (pc' := 63) rfl (hb hby lw_d50) (by decide) (by decide) (XS.istore X19.here hx rfl (hb hby lw_d63) rfl (l' := #[.val (.int p0), .val (.int p1), .val (.int (p0 &&& (255 : Int32))), .val (.int (ty_f (p0 &&& (255 : Int32)) w_f)), .val (.int (ty_f p1 w_f)), .val (.int (1 : Int32)), .val (.int (0 : Int32))]) rfl (XS.iload X19.here hx rfl (hb hby lw_d65) rfl k)))) ?_
        show own_Dn p e below s _ _ _ (T19.setTop (mkF m 67 #[.val (.int p0), .val (.int p1), .val (.int (p0 &&& (255 : Int32))), .val (.int (ty_f (p0 &&& (255 : Int32)) w_f)), .val (.int (ty_f p1 w_f)), .val (.int (1 : Int32)), .val (.int (0 : Int32))] [(.int (1 : Int32))]))
        refine own_st (fun _ k => XS.ifNo X19.here hx rfl (hb hby lw_d67) rfl ((if0 _ _).trans (feq (by decide : ¬ ((1 : Int32) = (0 : Int32)))).1) k) ?_
        show own_Dn p e below s _ _ _ (T19.setTop (mkF m 70 #[.val (.int p0), .val (.int p1), .val (.int (p0 &&& (255 : Int32))), .val (.int (ty_f (p0 &&& (255 : Int32)) w_f)), .val (.int (ty_f p1 w_f)), .val (.int (1 : Int32)), .val (.int (0 : Int32))] []))
        refine own_st (fun _ k => XS.iload X19.here hx rfl (hb hby lw_d70) rfl k) ?_
        show own_Dn p e below s _ _ _ (T19.setTop (mkF m 72 #[.val (.int p0), .val (.int p1), .val (.int (p0 &&& (255 : Int32))), .val (.int (ty_f (p0 &&& (255 : Int32)) w_f)), .val (.int (ty_f p1 w_f)), .val (.int (1 : Int32)), .val (.int (0 : Int32))] [(.int (0 : Int32))]))
        refine own_st (fun _ k => XS.ifYes X19.here hx rfl (pc0 := 72) (pc' := 79) rfl (hb hby lw_d72) rfl ((if0 _ _).trans (teq (by decide : (0 : Int32) = (0 : Int32))).1) (by decide) (by decide) k) ?_
        show own_Dn p e below s _ _ _ (T19.setTop (mkF m 79 #[.val (.int p0), .val (.int p1), .val (.int (p0 &&& (255 : Int32))), .val (.int (ty_f (p0 &&& (255 : Int32)) w_f)), .val (.int (ty_f p1 w_f)), .val (.int (1 : Int32)), .val (.int (0 : Int32))] []))
        refine own_st (fun _ k => XS.iconst X19.here hx rfl (hb hby lw_d79) k) ?_
        show own_Dn p e below s _ _ _ (T19.setTop (mkF m 80 #[.val (.int p0), .val (.int p1), .val (.int (p0 &&& (255 : Int32))), .val (.int (ty_f (p0 &&& (255 : Int32)) w_f)), .val (.int (ty_f p1 w_f)), .val (.int (1 : Int32)), .val (.int (0 : Int32))] [(.int (0 : Int32))]))
        exact own_retZ X19 hx hret hlk (by decide) (hb hby lw_d80) (by decide) (by decide) ⟨(by rw [hr0, lw_f, if_pos hc16, if_neg hc17, if_neg hc20]), N19⟩
  · refine own_st (fun _ k => XS.icmpYes X15.here hx rfl (pc0 := 22) (pc' := 29) rfl (hb hby lw_d22) rfl (feq hc16).2 (by decide) (by decide) k) ?_
    show own_Dn p e below s _ _ _ (T15.setTop (mkF m 29 #[.val (.int p0), .val (.int p1), .val (.int (p0 &&& (255 : Int32))), .val (.int (ty_f (p0 &&& (255 : Int32)) w_f)), .val (.int (ty_f p1 w_f)), .unset, .unset] []))
    refine own_st (fun _ k => XS.iconst X15.here hx rfl (hb hby lw_d29) (XS.istore X15.here hx rfl (hb hby lw_d30) rfl (l' := #[.val (.int p0), .val (.int p1), .val (.int (p0 &&& (255 : Int32))), .val (.int (ty_f (p0 &&& (255 : Int32)) w_f)), .val (.int (ty_f p1 w_f)), .val (.int (0 : Int32)), .unset]) rfl (XS.iloadN X15.here hx rfl (hb hby lw_d32) rfl k))) ?_
    show own_Dn p e below s _ _ _ (T15.setTop (mkF m 33 #[.val (.int p0), .val (.int p1), .val (.int (p0 &&& (255 : Int32))), .val (.int (ty_f (p0 &&& (255 : Int32)) w_f)), .val (.int (ty_f p1 w_f)), .val (.int (0 : Int32)), .unset] [(.int p1)]))
    by_cases hc21 : p1 < (0 : Int32)
    · refine own_st (fun _ k => XS.ifYes X15.here hx rfl (pc0 := 33) (pc' := 53) rfl (hb hby lw_d33) rfl ((if0 _ _).trans (tlt hc21).1) (by decide) (by decide) k) ?_
      show own_Dn p e below s _ _ _ (T15.setTop (mkF m 53 #[.val (.int p0), .val (.int p1), .val (.int (p0 &&& (255 : Int32))), .val (.int (ty_f (p0 &&& (255 : Int32)) w_f)), .val (.int (ty_f p1 w_f)), .val (.int (0 : Int32)), .unset] []))
      refine own_st (fun _ k => XS.iload X15.here hx rfl (hb hby lw_d53) rfl k) ?_
      show own_Dn p e below s _ _ _ (T15.setTop (mkF m 55 #[.val (.int p0), .val (.int p1), .val (.int (p0 &&& (255 : Int32))), .val (.int (ty_f (p0 &&& (255 : Int32)) w_f)), .val (.int (ty_f p1 w_f)), .val (.int (0 : Int32)), .unset] [(.int (ty_f p1 w_f))]))
      by_cases hc22 : (ty_f p1 w_f) < (0 : Int32)
      · refine own_st (fun _ k => XS.ifNo X15.here hx rfl (hb hby lw_d55) rfl ((if0 _ _).trans (tlt hc22).2.1) k) ?_
        show own_Dn p e below s _ _ _ (T15.setTop (mkF m 58 #[.val (.int p0), .val (.int p1), .val (.int (p0 &&& (255 : Int32))), .val (.int (ty_f (p0 &&& (255 : Int32)) w_f)), .val (.int (ty_f p1 w_f)), .val (.int (0 : Int32)), .unset] []))
        refine own_st (fun _ k => XS.iconst X15.here hx rfl (hb hby lw_d58) (XS.goto X15.here hx rfl (pc0 := 59) (pc' := 63) rfl (hb hby lw_d59) (by decide) (by decide) (XS.istore X15.here hx rfl (hb hby lw_d63) rfl (l' := #[.val (.int p0), .val (.int p1), .val (.int (p0 &&& (255 : Int32))), .val (.int (ty_f (p0 &&& (255 : Int32)) w_f)), .val (.int (ty_f p1 w_f)), .val (.int (0 : Int32)), .val (.int (1 : Int32))]) rfl (XS.iload X15.here hx rfl (hb hby lw_d65) rfl k)))) ?_
        show own_Dn p e below s _ _ _ (T15.setTop (mkF m 67 #[.val (.int p0), .val (.int p1), .val (.int (p0 &&& (255 : Int32))), .val (.int (ty_f (p0 &&& (255 : Int32)) w_f)), .val (.int (ty_f p1 w_f)), .val (.int (0 : Int32)), .val (.int (1 : Int32))] [(.int (0 : Int32))]))
        refine own_st (fun _ k => XS.ifYes X15.here hx rfl (pc0 := 67) (pc' := 79) rfl (hb hby lw_d67) rfl ((if0 _ _).trans (teq (by decide : (0 : Int32) = (0 : Int32))).1) (by decide) (by decide) k) ?_
        show own_Dn p e below s _ _ _ (T15.setTop (mkF m 79 #[.val (.int p0), .val (.int p1), .val (.int (p0 &&& (255 : Int32))), .val (.int (ty_f (p0 &&& (255 : Int32)) w_f)), .val (.int (ty_f p1 w_f)), .val (.int (0 : Int32)), .val (.int (1 : Int32))] []))
        refine own_st (fun _ k => XS.iconst X15.here hx rfl (hb hby lw_d79) k) ?_
        show own_Dn p e below s _ _ _ (T15.setTop (mkF m 80 #[.val (.int p0), .val (.int p1), .val (.int (p0 &&& (255 : Int32))), .val (.int (ty_f (p0 &&& (255 : Int32)) w_f)), .val (.int (ty_f p1 w_f)), .val (.int (0 : Int32)), .val (.int (1 : Int32))] [(.int (0 : Int32))]))
        exact own_retZ X15 hx hret hlk (by decide) (hb hby lw_d80) (by decide) (by decide) ⟨(by rw [hr0, lw_f, if_neg hc16, if_pos hc21, if_pos hc22]), N15⟩
      · refine own_st (fun _ k => XS.ifYes X15.here hx rfl (pc0 := 55) (pc' := 62) rfl (hb hby lw_d55) rfl ((if0 _ _).trans (flt hc22).2.1) (by decide) (by decide) k) ?_
        show own_Dn p e below s _ _ _ (T15.setTop (mkF m 62 #[.val (.int p0), .val (.int p1), .val (.int (p0 &&& (255 : Int32))), .val (.int (ty_f (p0 &&& (255 : Int32)) w_f)), .val (.int (ty_f p1 w_f)), .val (.int (0 : Int32)), .unset] []))
        refine own_st (fun _ k => XS.iconst X15.here hx rfl (hb hby lw_d62) (XS.istore X15.here hx rfl (hb hby lw_d63) rfl (l' := #[.val (.int p0), .val (.int p1), .val (.int (p0 &&& (255 : Int32))), .val (.int (ty_f (p0 &&& (255 : Int32)) w_f)), .val (.int (ty_f p1 w_f)), .val (.int (0 : Int32)), .val (.int (0 : Int32))]) rfl (XS.iload X15.here hx rfl (hb hby lw_d65) rfl k))) ?_
        show own_Dn p e below s _ _ _ (T15.setTop (mkF m 67 #[.val (.int p0), .val (.int p1), .val (.int (p0 &&& (255 : Int32))), .val (.int (ty_f (p0 &&& (255 : Int32)) w_f)), .val (.int (ty_f p1 w_f)), .val (.int (0 : Int32)), .val (.int (0 : Int32))] [(.int (0 : Int32))]))
        refine own_st (fun _ k => XS.ifYes X15.here hx rfl (pc0 := 67) (pc' := 79) rfl (hb hby lw_d67) rfl ((if0 _ _).trans (teq (by decide : (0 : Int32) = (0 : Int32))).1) (by decide) (by decide) k) ?_
        show own_Dn p e below s _ _ _ (T15.setTop (mkF m 79 #[.val (.int p0), .val (.int p1), .val (.int (p0 &&& (255 : Int32))), .val (.int (ty_f (p0 &&& (255 : Int32)) w_f)), .val (.int (ty_f p1 w_f)), .val (.int (0 : Int32)), .val (.int (0 : Int32))] []))
        refine own_st (fun _ k => XS.iconst X15.here hx rfl (hb hby lw_d79) k) ?_
        show own_Dn p e below s _ _ _ (T15.setTop (mkF m 80 #[.val (.int p0), .val (.int p1), .val (.int (p0 &&& (255 : Int32))), .val (.int (ty_f (p0 &&& (255 : Int32)) w_f)), .val (.int (ty_f p1 w_f)), .val (.int (0 : Int32)), .val (.int (0 : Int32))] [(.int (0 : Int32))]))
        exact own_retZ X15 hx hret hlk (by decide) (hb hby lw_d80) (by decide) (by decide) ⟨(by rw [hr0, lw_f, if_neg hc16, if_pos hc21, if_neg hc22]), N15⟩
    · refine own_st (fun _ k => XS.ifNo X15.here hx rfl (hb hby lw_d33) rfl ((if0 _ _).trans (flt hc21).1) k) ?_
      show own_Dn p e below s _ _ _ (T15.setTop (mkF m 36 #[.val (.int p0), .val (.int p1), .val (.int (p0 &&& (255 : Int32))), .val (.int (ty_f (p0 &&& (255 : Int32)) w_f)), .val (.int (ty_f p1 w_f)), .val (.int (0 : Int32)), .unset] []))
      refine own_st (fun _ k => XS.iload X15.here hx rfl (hb hby lw_d36) rfl (XS.iloadN X15.here hx rfl (hb hby lw_d38) rfl k)) ?_
      show own_Dn p e below s _ _ _ (T15.setTop (mkF m 39 #[.val (.int p0), .val (.int p1), .val (.int (p0 &&& (255 : Int32))), .val (.int (ty_f (p0 &&& (255 : Int32)) w_f)), .val (.int (ty_f p1 w_f)), .val (.int (0 : Int32)), .unset] [(.int p1), (.int (ty_f p1 w_f))]))
      obtain ⟨_, _, ⟨T23, L23, k23, n23⟩, -, X23, ⟨Lc23, hQ23, l23, y23, z23⟩, st23⟩ := Jvm.LawKit.callS X15 hx (y := (⟨"com/example/xylograph/xylograph/evtbinxml/TokenTypePinLaw", "expected", "(I)I"⟩ : MethodName)) hown (mvT hZ (hw _ (List.mem_of_getElem? (i := 6) rfl))) (mvT hZ (hw _ (List.mem_of_getElem? (i := 7) rfl))) (mvT hZ (hw _ (List.mem_of_getElem? (i := 8) rfl))) (mvT hZ (hw _ (List.mem_of_getElem? (i := 9) rfl))) (by decide) (backOf (W := 1) (ex_rm l Z a0 hw [] (p1) h0 n0) hZ (hw _ (List.mem_of_getElem? (i := 9) rfl)) (hw _ (List.mem_of_getElem? (i := 8) rfl)) (by decide) (by decide)) (g := (mkF m 39 #[.val (.int p0), .val (.int p1), .val (.int (p0 &&& (255 : Int32))), .val (.int (ty_f (p0 &&& (255 : Int32)) w_f)), .val (.int (ty_f p1 w_f)), .val (.int (0 : Int32)), .unset] [(.int p1), (.int (ty_f p1 w_f))])) rfl (by rw [hml]; rfl) (argsL := [(.int p1)]) (rest := [(.int (ty_f p1 w_f))]) (lenOf own_pd0 rfl) rfl (by show 2 * 0 + _ ≤ _; exact Nat.le_of_eq rfl) (hb hby lw_d39) (fun _ _ => ⟨rfl, e15, (by decide : 0 + 0 ≤ _), (by decide : 0 + 0 ≤ _)⟩)
      dsimp only [Pt.U, Pt.locs, Pt.cells, Pt.slots] at X23 l23 y23 z23 st23 hQ23
      subst l23 y23 z23
      obtain ⟨rfl, N23q, e23⟩ := hQ23
      have N23 := Fr.app N15 N23q
      refine own_st st23 ?_
      show own_Dn p e below s _ _ _ (T23.setTop (mkF m 42 #[.val (.int p0), .val (.int p1), .val (.int (p0 &&& (255 : Int32))), .val (.int (ty_f (p0 &&& (255 : Int32)) w_f)), .val (.int (ty_f p1 w_f)), .val (.int (0 : Int32)), .unset] [(.int (ex_f p1)), (.int (ty_f p1 w_f))]))
      by_cases hc24 : (ty_f p1 w_f) = (ex_f p1)
      · refine own_st (fun _ k => XS.icmpNo X23.here hx rfl (hb hby lw_d42) rfl (teq hc24).2 k) ?_
        show own_Dn p e below s _ _ _ (T23.setTop (mkF m 45 #[.val (.int p0), .val (.int p1), .val (.int (p0 &&& (255 : Int32))), .val (.int (ty_f (p0 &&& (255 : Int32)) w_f)), .val (.int (ty_f p1 w_f)), .val (.int (0 : Int32)), .unset] []))
        refine own_st (fun _ k => XS.iconst X23.here hx rfl (hb hby lw_d45) (XS.goto X23.here hx rfl (pc0 := 46) (pc' := 63) rfl (hb hby lw_d46) (by decide) (by decide) (XS.istore X23.here hx rfl (hb hby lw_d63) rfl (l' := #[.val (.int p0), .val (.int p1), .val (.int (p0 &&& (255 : Int32))), .val (.int (ty_f (p0 &&& (255 : Int32)) w_f)), .val (.int (ty_f p1 w_f)), .val (.int (0 : Int32)), .val (.int (1 : Int32))]) rfl (XS.iload X23.here hx rfl (hb hby lw_d65) rfl k)))) ?_
        show own_Dn p e below s _ _ _ (T23.setTop (mkF m 67 #[.val (.int p0), .val (.int p1), .val (.int (p0 &&& (255 : Int32))), .val (.int (ty_f (p0 &&& (255 : Int32)) w_f)), .val (.int (ty_f p1 w_f)), .val (.int (0 : Int32)), .val (.int (1 : Int32))] [(.int (0 : Int32))]))
        refine own_st (fun _ k => XS.ifYes X23.here hx rfl (pc0 := 67) (pc' := 79) rfl (hb hby lw_d67) rfl ((if0 _ _).trans (teq (by decide : (0 : Int32) = (0 : Int32))).1) (by decide) (by decide) k) ?_
        show own_Dn p e below s _ _ _ (T23.setTop (mkF m 79 #[.val (.int p0), .val (.int p1), .val (.int (p0 &&& (255 : Int32))), .val (.int (ty_f (p0 &&& (255 : Int32)) w_f)), .val (.int (ty_f p1 w_f)), .val (.int (0 : Int32)), .val (.int (1 : Int32))] []))
        refine own_st (fun _ k => XS.iconst X23.here hx rfl (hb hby lw_d79) k) ?_
        show own_Dn p e below s _ _ _ (T23.setTop (mkF m 80 #[.val (.int p0), .val (.int p1), .val (.int (p0 &&& (255 : Int32))), .val (.int (ty_f (p0 &&& (255 : Int32)) w_f)), .val (.int (ty_f p1 w_f)), .val (.int (0 : Int32)), .val (.int (1 : Int32))] [(.int (0 : Int32))]))
        exact own_retZ X23 hx hret hlk (by decide) (hb hby lw_d80) (by decide) (by decide) ⟨(by rw [hr0, lw_f, if_neg hc16, if_neg hc21, if_pos hc24]), N23⟩
      · refine own_st (fun _ k => XS.icmpYes X23.here hx rfl (pc0 := 42) (pc' := 49) rfl (hb hby lw_d42) rfl (feq hc24).2 (by decide) (by decide) k) ?_
        show own_Dn p e below s _ _ _ (T23.setTop (mkF m 49 #[.val (.int p0), .val (.int p1), .val (.int (p0 &&& (255 : Int32))), .val (.int (ty_f (p0 &&& (255 : Int32)) w_f)), .val (.int (ty_f p1 w_f)), .val (.int (0 : Int32)), .unset] []))
        refine own_st (fun _ k => XS.iconst X23.here hx rfl (hb hby lw_d49) (XS.goto X23.here hx rfl (pc0 := 50) (pc' := 63) rfl (hb hby lw_d50) (by decide) (by decide) (XS.istore X23.here hx rfl (hb hby lw_d63) rfl (l' := #[.val (.int p0), .val (.int p1), .val (.int (p0 &&& (255 : Int32))), .val (.int (ty_f (p0 &&& (255 : Int32)) w_f)), .val (.int (ty_f p1 w_f)), .val (.int (0 : Int32)), .val (.int (0 : Int32))]) rfl (XS.iload X23.here hx rfl (hb hby lw_d65) rfl k)))) ?_
        show own_Dn p e below s _ _ _ (T23.setTop (mkF m 67 #[.val (.int p0), .val (.int p1), .val (.int (p0 &&& (255 : Int32))), .val (.int (ty_f (p0 &&& (255 : Int32)) w_f)), .val (.int (ty_f p1 w_f)), .val (.int (0 : Int32)), .val (.int (0 : Int32))] [(.int (0 : Int32))]))
        refine own_st (fun _ k => XS.ifYes X23.here hx rfl (pc0 := 67) (pc' := 79) rfl (hb hby lw_d67) rfl ((if0 _ _).trans (teq (by decide : (0 : Int32) = (0 : Int32))).1) (by decide) (by decide) k) ?_
        show own_Dn p e below s _ _ _ (T23.setTop (mkF m 79 #[.val (.int p0), .val (.int p1), .val (.int (p0 &&& (255 : Int32))), .val (.int (ty_f (p0 &&& (255 : Int32)) w_f)), .val (.int (ty_f p1 w_f)), .val (.int (0 : Int32)), .val (.int (0 : Int32))] []))
        refine own_st (fun _ k => XS.iconst X23.here hx rfl (hb hby lw_d79) k) ?_
        show own_Dn p e below s _ _ _ (T23.setTop (mkF m 80 #[.val (.int p0), .val (.int p1), .val (.int (p0 &&& (255 : Int32))), .val (.int (ty_f (p0 &&& (255 : Int32)) w_f)), .val (.int (ty_f p1 w_f)), .val (.int (0 : Int32)), .val (.int (0 : Int32))] [(.int (0 : Int32))]))
        exact own_retZ X23 hx hret hlk (by decide) (hb hby lw_d80) (by decide) (by decide) ⟨(by rw [hr0, lw_f, if_neg hc16, if_neg hc21, if_neg hc24]), N23⟩
theorem lw_ef (m : MethodId) (p0 : Int32) (p1 : Int32) : entryFrame m #[(.int p0), (.int p1)] maxLocals = mkF m 0 #[.val (.int p0), .val (.int p1), .unset, .unset, .unset, .unset, .unset] [] := by first | (simp [entryFrame, mkF, argsToLocals, Value.category, maxLocals]; done) | rfl
theorem lw_rm (l : Launch) (Z : State) (a0 : Array Value) (hw : ∀ d ∈ tables_1, d.before a0 Z = true) (ws : List Jvm.Cond) (p0 : Int32) (p1 : Int32) (w_a : Addr) (w_f : Nat → Value) (h0 : Heap) (n0 : Nat) (Z0 : n0 ≤ h0.size) (P0 : Sta Z h0 "com/example/xylograph/xylograph/evtbinxml/Token" "NAMES" "[Ljava/lang/String;" (.ref w_a)) (P1 : own_Arf Z h0 w_a (.object "java/lang/String") 16 (fun i => (w_f i))) :
    MetFree l x (head1 (Jvm.Cond.code x code maxLocals ret :: ws) room_1) (fun a U => a = #[(.int p0), (.int p1)] ∧ Z.Warmed39 U.vm ∧ U.heap = h0) (fun _ _ _ _ _ => True) (fun _ U o U' => ∃ v L, o = .returned v ∧ (own_QL (some (.int (lw_f p0 p1 w_f))) n0) v U'.heap L ∧ FrameEnd U o U' L room_1.cells room_1.slots) :=
  own_met hw (plainFor_of_name (by first | (simp [plainName, overriddenIn]; done) | decide +kernel)) (fun p e s m below meth c T0 C0 X0 e0 => own_st (fun _ k => castTop (lw_ef m p0 p1) k) (lw_c0 C0 X0 e0 (Fr.nil n0) Z0 P0 P1 rfl))
theorem own_k1 : ∀ i : Fin 32, ((4294967231#32)[i.1] || (64#32)[i.1]) = true := by decide
theorem own_k2 : ∀ i : Fin 32, ((4294967231#32)[i.1] && (64#32)[i.1]) = false := by decide
theorem own_k3 : ∀ i : Fin 32, (64#32)[i.1] = decide (i.1 = 6) := by decide
theorem own_bit (x : BitVec 32) : x &&& 4294967231#32 = if x.getLsbD 6 then x - 64#32 else x := by
  have e : x = (x &&& 4294967231#32) ||| (x &&& 64#32) := by
    ext i hi
    rw [BitVec.getElem_or, BitVec.getElem_and, BitVec.getElem_and, ← Bool.and_or_distrib_left, own_k1 ⟨i, hi⟩, Bool.and_true]
  have z : (x &&& 4294967231#32) &&& (x &&& 64#32) = 0#32 := by
    ext i hi
    have k := own_k2 ⟨i, hi⟩
    rw [BitVec.getElem_and, BitVec.getElem_and, BitVec.getElem_and, BitVec.getElem_zero]
    simp only [] at k
    revert k
    generalize (4294967231#32)[i] = u
    generalize (64#32)[i] = v
    cases x[i] <;> cases u <;> cases v <;> simp
  have a : x = (x &&& 4294967231#32) + (x &&& 64#32) := by
    rw [BitVec.add_eq_or_of_and_eq_zero _ _ z]; exact e
  have c : x &&& 64#32 = if x.getLsbD 6 then 64#32 else 0#32 := by
    ext i hi
    have k := own_k3 ⟨i, hi⟩
    simp only [] at k
    rw [BitVec.getElem_and, k]
    by_cases q : i = 6
    · subst q
      have g : x[6] = x.getLsbD 6 := (BitVec.getLsbD_eq_getElem (by decide)).symm
      rw [g]
      cases x.getLsbD 6
      · simp
      · simp only [decide_true, Bool.and_self, if_true]; rw [k]; simp
    · rw [decide_eq_false q, Bool.and_false]
      split
      · rw [k, decide_eq_false q]
      · simp
  rw [c] at a
  cases h : x.getLsbD 6
  · simp only [h, if_false, Bool.false_eq_true] at a ⊢
    rw [BitVec.add_zero] at a; exact a.symm
  · simp only [h, if_true] at a ⊢
    exact BitVec.eq_sub_iff_add_eq.mpr a.symm
theorem own_and (x : Int32) : (x &&& (-65 : Int32)).toInt = x.toInt - 64 * (x.toInt / 64 % 2) := by
  have h := own_bit x.toBitVec
  have hb : x.toBitVec.getLsbD 6 = decide (x.toBitVec.toNat / 64 % 2 = 1) := by
    show x.toBitVec.toNat.testBit 6 = _
    rw [Nat.testBit_eq_decide_div_mod_eq]
  have e1 : (x &&& (-65 : Int32)).toInt = (x.toBitVec &&& 4294967231#32).toInt := rfl
  have e2 : x.toInt = x.toBitVec.toInt := rfl
  rw [e1, e2, h, hb]
  have lt := x.toBitVec.isLt
  have t1 := BitVec.toInt_eq_toNat_cond x.toBitVec
  by_cases q : x.toBitVec.toNat / 64 % 2 = 1
  · rw [decide_eq_true q, if_pos rfl]
    have t2 := BitVec.toInt_eq_toNat_cond (x.toBitVec - 64#32)
    have t3 : (x.toBitVec - 64#32).toNat = x.toBitVec.toNat - 64 := by
      rw [BitVec.toNat_sub]
      have : (64#32).toNat = 64 := rfl
      omega
    rw [t3] at t2
    rw [t2, t1]
    split <;> split <;> omega
  · rw [decide_eq_false q, if_neg (by decide)]
    rw [t1]
    split <;> omega
theorem own_pos (u : Int32) (w_f : Nat → Value) (h0 : 0 ≤ u.toInt) : ty_f u w_f = ex_f u := by
  have hv := own_and u
  have e := c_isub u 64
  have r1 := rng32 u
  have n1 : (-1 : Int32).toInt = -1 := rfl
  have r2 := rng32 (u - 64)
  simp only [Int32.reduceToInt] at e
  simp only [ty_f, ty_f44, ex_f, ex_f26]
  revert hv
  generalize (u &&& (-65 : Int32)) = v
  intro hv
  simp only [Int32.lt_iff_toInt_lt, ← Int32.toInt_inj, Int32.reduceToInt]
  repeat' split
  all_goals first | rfl | omega | exact absurd trivial (by assumption)
theorem own_neg (u : Int32) (w_f : Nat → Value) (h0 : u.toInt < 0) : ty_f u w_f < 0 := by
  have hv := own_and u
  have r1 := rng32 u
  have n1 : (-1 : Int32).toInt = -1 := rfl
  simp only [ty_f, ty_f44]
  revert hv
  generalize (u &&& (-65 : Int32)) = v
  intro hv
  simp only [Int32.lt_iff_toInt_lt, ← Int32.toInt_inj, Int32.reduceToInt]
  repeat' split
  all_goals first | rfl | omega | exact absurd trivial (by assumption)
theorem own_law (p0 p1 : Int32) (w_f : Nat → Value) : lw_f p0 p1 w_f = 1 := by
  have m := c_mask p0 255 8 (by decide) (by decide)
  have a := own_pos (p0 &&& 255) w_f (by omega)
  rw [lw_f, if_pos a]
  split
  · rename_i k
    rw [if_pos (own_neg p1 w_f (by rw [Int32.lt_iff_toInt_lt] at k; exact k))]
  · rename_i k
    rw [if_pos (own_pos p1 w_f (by rw [Int32.lt_iff_toInt_lt] at k; exact Int.not_lt.mp k))]

set_option maxRecDepth 65536 in
set_option maxHeartbeats 40000000 in
theorem comes_1 {Post : Tables → Env → Array Value → State → Outcome → State → Prop} (hpost : ∀ tb e args s v u, (limb_1_1.after args s (.returned v) u = true ∧ limb_1_2.after args s (.returned v) u = true ∧ True) → FrameEnd s (.returned v) u (Jvm.fieldLocs frame_1_writes args s ++ Jvm.arrayLocs frame_1_arrays args s ++ Jvm.staticLocs frame_1_statics s) 0 0 → Post tb e args s (.returned v) u) :
    ArmFor flags0 classFile x code maxLocals ret World_1 tables_1 room_1 Calls_1 rest_1 Pre_1 Post := by
  intro l hfl _ _ p e ha hc hk s m args below hf hA hF happ hP
  obtain ⟨hcalls, hrest, hpre⟩ := hP
  obtain ⟨-, -, -, hnamed, -, -, -, hat⟩ := (Spec.applies_iff hf).mp happ
  obtain ⟨hg, hn⟩ := and_e (Cond.before_iff.mp (show (Jvm.Cond.and given_1 narrow_1).before args s = true from hpre))
  obtain ⟨gc, hg0⟩ := and_e hg
  obtain ⟨g0, g1⟩ := and_e hg0
  obtain ⟨w0, w1, rfl⟩ : ∃ w0 w1 : Value, args = #[w0, w1] := by
    have hs : args.size = 2 := by simpa [Cond.value, given_1] using gc
    obtain ⟨L⟩ := args
    match L, hs with
    | [w0, w1], _ => exact ⟨w0, w1, rfl⟩
  have hw := fun d (hd : d ∈ tables_1) => atoms_spec (ws := Jvm.Cond.code x code maxLocals ret :: tables_1) hat d (List.mem_cons_of_mem _ hd)
  have hfit : Fit s := fun {y c} hc i hi => by
    obtain ⟨ha, rfl⟩ := Array.getElem?_eq_some_iff.mp hc
    have q := List.all_eq_true.mp ((Array.all_eq_true_iff_forall_mem.mp hF) _ (Array.getElem_mem ha)) i (List.mem_range.mpr hi)
    simpa [Array.getElem?_eq_getElem hi] using q
  obtain ⟨i0, ei0⟩ := is_v g0
  obtain rfl : w0 = (.int i0) := Option.some.inj ei0
  obtain ⟨i1, ei1⟩ := is_v g1
  obtain rfl : w1 = (.int i1) := Option.some.inj ei1
  obtain ⟨x0, x1⟩ := and_e hn
  obtain ⟨w_a, ev⟩ := arr_v x0
  have P0 : Sta s s.heap "com/example/xylograph/xylograph/evtbinxml/Token" "NAMES" "[Ljava/lang/String;" (.ref w_a) := Sta.start ev (Or.inr ⟨(hw _ (List.mem_of_getElem? (i := 2) rfl)), (hw _ (List.mem_of_getElem? (i := 5) rfl))⟩)
  obtain ⟨w_f, P1, -⟩ := own_Arf.start (n := 16) ev x0 x1 (by decide)
  obtain ⟨n, o, h1, h2, h3, _, L, rfl, ⟨rfl, N⟩, hq⟩ := lw_rm l s _ hw tables_1 i0 i1 w_a w_f s.heap s.heap.size (Nat.le_refl _) P0 P1 p e ha hc hk s m _ below hf ((Spec.applies_iff_loose hf).mp happ).1 ⟨rfl, State.Warmed39.refl s, rfl⟩ trivial
  refine ⟨n, _, h1, h2, h3, hpost _ _ _ _ _ _ ⟨Cond.after_iff.mpr rfl, Cond.after_iff.mpr (eq_i res_at (Term.int_eval (1)) (by rw [own_law])), trivial⟩ ⟨hq.1, hq.2.1, (hq.2.2.sift fun y hy => Or.inr (N y hy)).mono (by decide) (by decide)⟩⟩
theorem main_1_1 : Claimed_1_1 := comes_1 fun _ _ _ _ _ _ h hF => ⟨h.1, hF⟩
theorem main_1_2 : Claimed_1_2 := comes_1 fun _ _ _ _ _ _ h hF => ⟨h.2.1, hF⟩
end Jvm.Pilot.@@N@@
namespace Jvm.Pilot.@@N@@
open Jvm Jvm.ClassFile Sem Op Lib Jvm.Free Jvm.Stand Jvm.Pilot.@@N@@.Jvm.D
/-! MADE BY PROGRAM (witnessworld.py) out of the Statement's table words and the real class files: 15 classes; the members and pool entries that the words name. The judged class is class 1, her method 2. -/
namespace start1
open Jvm.ClassFile
def u (s : String) : CpInfo := .utf8 (stringToUtf16 s)
/-- a pool by its gaps: so many unusable entries, then the entry; so many at the end -/
def gap : Nat → List CpInfo → List CpInfo
  | 0, r => r
  | n + 1, r => .unusable :: gap n r
def poolList (es : List (Nat × CpInfo)) (last : Nat) : List CpInfo := es.foldr (fun e r => gap e.1 (e.2 :: r)) (gap last [])
def pool (es : List (Nat × CpInfo)) (last : Nat) : Array CpInfo := ⟨poolList es last⟩
def fileOf (pool : Array CpInfo) (this : Nat) (attrs : Array Attribute := #[]) (ms : Array MethodInfo := #[]) (fl : Nat := 33) (sup : Nat := 0) (ifs : Array Nat := #[]) (fds : Array FieldInfo := #[]) : ClassFile where
  minorVersion := 0
  majorVersion := 65
  constantPool := pool
  accessFlags := fl
  thisClass := this
  superClass := sup
  interfaces := ifs
  fields := fds
  methods := ms
  attributes := attrs
def plain (name : String) (sup : Option ClassId) : Class where
  name := name
  kind := .ordinary
  loader := none
  accessFlags := 33
  super := sup
  interfaces := #[]
  cf := none
  fields := #[]
  methods := #[]
  instanceTypes := #[]
  staticTypes := #[]
  resolved := #[]
  callSites := []
  init := .initialized
  statics := none
  mirror := none

def pool0 : Array CpInfo := pool [(5, u "<init>"), (0, u "()V"), (1, .class_ 10), (1, u "java/lang/Object")] 113

def k0m0 : Method := { name := "<init>", desc := "()V", sig := { parameters := [], returnType := none }, accessFlags := 1, code := none }
/-- java/lang/Object -/
def k0 : Class := { plain "java/lang/Object" none with
  accessFlags := 33
  interfaces := #[]
  cf := some (fileOf pool0 8 #[] #[{ accessFlags := 1, nameIndex := 5, descriptorIndex := 6, attributes := #[] }] 33 0 #[] #[])
  fields := #[]
  methods := #[k0m0]
  instanceTypes := #[]
  staticTypes := #[]
  resolved := Array.replicate 124 none
  statics := none }

def pool1 : Array CpInfo := pool [(2, .class_ 4), (1, u "java/lang/Object"), (0, u "<init>"), (0, u "()V"), (0, .methodref 8 9), (0, .class_ 10), (0, .nameAndType 11 12), (0, u "com/example/xylograph/xylograph/evtbinxml/Token"), (0, u "type"), (0, u "(I)I"), (0, .methodref 14 15), (0, .class_ 16), (0, .nameAndType 17 12), (0, u "com/example/xylograph/xylograph/evtbinxml/TokenTypePinLaw"), (0, u "expected"), (3, u "law"), (0, u "(II)Z")] 2

def k1m0 : Method := { name := "<init>", desc := "()V", sig := { parameters := [], returnType := none }, accessFlags := 2, code := none }
def k1c1 : Code := { maxStack := 2, maxLocals := 1, code := method_2_code, exceptionTable := #[], attributes := #[] }
def k1m1 : Method := { name := "expected", desc := "(I)I", sig := { parameters := [.int], returnType := some .int }, accessFlags := 10, code := some k1c1 }
def k1c2 : Code := { maxStack := 2, maxLocals := 7, code := code, exceptionTable := #[], attributes := #[] }
def k1m2 : Method := { name := "law", desc := "(II)Z", sig := { parameters := [.int, .int], returnType := some .boolean }, accessFlags := 9, code := some k1c2 }
/-- com/example/xylograph/xylograph/evtbinxml/TokenTypePinLaw -/
def k1 : Class := { plain "com/example/xylograph/xylograph/evtbinxml/TokenTypePinLaw" (some 0) with
  accessFlags := 49
  interfaces := #[]
  cf := some (fileOf pool1 14 #[] #[{ accessFlags := 2, nameIndex := 5, descriptorIndex := 6, attributes := #[] }, { accessFlags := 10, nameIndex := 17, descriptorIndex := 12, attributes := #[] }, { accessFlags := 9, nameIndex := 21, descriptorIndex := 22, attributes := #[] }] 49 2 #[] #[])
  fields := #[]
  methods := #[k1m0, k1m1, k1m2]
  instanceTypes := #[]
  staticTypes := #[]
  resolved := Array.replicate 25 none
  statics := none }

def pool2 : Array CpInfo := pool [(2, .class_ 4), (1, u "java/lang/Object"), (0, u "<init>"), (0, u "()V"), (0, .class_ 8), (0, u "com/example/xylograph/xylograph/evtbinxml/Token"), (0, .fieldref 7 10), (0, .nameAndType 11 12), (0, u "NAMES"), (0, u "[Ljava/lang/String;"), (16, u "type"), (0, u "(I)I"), (36, u "END_OF_STREAM"), (0, u "I"), (2, u "OPEN_START_ELEMENT"), (1, u "CLOSE_START_ELEMENT"), (1, u "CLOSE_EMPTY_ELEMENT"), (1, u "END_ELEMENT"), (1, u "VALUE"), (1, u "ATTRIBUTE"), (1, u "CDATA_SECTION"), (1, u "CHAR_REF"), (1, u "ENTITY_REF"), (1, u "PI_TARGET"), (1, u "PI_DATA"), (1, u "TEMPLATE_INSTANCE"), (1, u "NORMAL_SUBSTITUTION"), (1, u "OPTIONAL_SUBSTITUTION"), (1, u "FRAGMENT_HEADER"), (1, u "MORE")] 24

def k2m0 : Method := { name := "<init>", desc := "()V", sig := { parameters := [], returnType := none }, accessFlags := 2, code := none }
def k2c1 : Code := { maxStack := 2, maxLocals := 3, code := prog_16_method_2_code, exceptionTable := #[], attributes := #[] }
def k2m1 : Method := { name := "type", desc := "(I)I", sig := { parameters := [.int], returnType := some .int }, accessFlags := 8, code := some k2c1 }
/-- com/example/xylograph/xylograph/evtbinxml/Token -/
def k2 : Class := { plain "com/example/xylograph/xylograph/evtbinxml/Token" (some 0) with
  accessFlags := 48
  interfaces := #[]
  cf := some (fileOf pool2 7 #[] #[{ accessFlags := 2, nameIndex := 5, descriptorIndex := 6, attributes := #[] }, { accessFlags := 8, nameIndex := 29, descriptorIndex := 30, attributes := #[] }] 48 2 #[] #[{ accessFlags := 24, nameIndex := 67, descriptorIndex := 68, attributes := #[] }, { accessFlags := 24, nameIndex := 71, descriptorIndex := 68, attributes := #[] }, { accessFlags := 24, nameIndex := 73, descriptorIndex := 68, attributes := #[] }, { accessFlags := 24, nameIndex := 75, descriptorIndex := 68, attributes := #[] }, { accessFlags := 24, nameIndex := 77, descriptorIndex := 68, attributes := #[] }, { accessFlags := 24, nameIndex := 79, descriptorIndex := 68, attributes := #[] }, { accessFlags := 24, nameIndex := 81, descriptorIndex := 68, attributes := #[] }, { accessFlags := 24, nameIndex := 83, descriptorIndex := 68, attributes := #[] }, { accessFlags := 24, nameIndex := 85, descriptorIndex := 68, attributes := #[] }, { accessFlags := 24, nameIndex := 87, descriptorIndex := 68, attributes := #[] }, { accessFlags := 24, nameIndex := 89, descriptorIndex := 68, attributes := #[] }, { accessFlags := 24, nameIndex := 91, descriptorIndex := 68, attributes := #[] }, { accessFlags := 24, nameIndex := 93, descriptorIndex := 68, attributes := #[] }, { accessFlags := 24, nameIndex := 95, descriptorIndex := 68, attributes := #[] }, { accessFlags := 24, nameIndex := 97, descriptorIndex := 68, attributes := #[] }, { accessFlags := 24, nameIndex := 99, descriptorIndex := 68, attributes := #[] }, { accessFlags := 24, nameIndex := 101, descriptorIndex := 68, attributes := #[] }, { accessFlags := 26, nameIndex := 11, descriptorIndex := 12, attributes := #[] }])
  fields := #[{ name := "END_OF_STREAM", type := .int, accessFlags := 24, slot := 0, constantValue := 0 }, { name := "OPEN_START_ELEMENT", type := .int, accessFlags := 24, slot := 1, constantValue := 0 }, { name := "CLOSE_START_ELEMENT", type := .int, accessFlags := 24, slot := 2, constantValue := 0 }, { name := "CLOSE_EMPTY_ELEMENT", type := .int, accessFlags := 24, slot := 3, constantValue := 0 }, { name := "END_ELEMENT", type := .int, accessFlags := 24, slot := 4, constantValue := 0 }, { name := "VALUE", type := .int, accessFlags := 24, slot := 5, constantValue := 0 }, { name := "ATTRIBUTE", type := .int, accessFlags := 24, slot := 6, constantValue := 0 }, { name := "CDATA_SECTION", type := .int, accessFlags := 24, slot := 7, constantValue := 0 }, { name := "CHAR_REF", type := .int, accessFlags := 24, slot := 8, constantValue := 0 }, { name := "ENTITY_REF", type := .int, accessFlags := 24, slot := 9, constantValue := 0 }, { name := "PI_TARGET", type := .int, accessFlags := 24, slot := 10, constantValue := 0 }, { name := "PI_DATA", type := .int, accessFlags := 24, slot := 11, constantValue := 0 }, { name := "TEMPLATE_INSTANCE", type := .int, accessFlags := 24, slot := 12, constantValue := 0 }, { name := "NORMAL_SUBSTITUTION", type := .int, accessFlags := 24, slot := 13, constantValue := 0 }, { name := "OPTIONAL_SUBSTITUTION", type := .int, accessFlags := 24, slot := 14, constantValue := 0 }, { name := "FRAGMENT_HEADER", type := .int, accessFlags := 24, slot := 15, constantValue := 0 }, { name := "MORE", type := .int, accessFlags := 24, slot := 16, constantValue := 0 }, { name := "NAMES", type := (.array (.object "java/lang/String")), accessFlags := 26, slot := 17, constantValue := 0 }]
  methods := #[k2m0, k2m1]
  instanceTypes := #[]
  staticTypes := #[.int, .int, .int, .int, .int, .int, .int, .int, .int, .int, .int, .int, .int, .int, .int, .int, .int, (.array (.object "java/lang/String"))]
  resolved := Array.replicate 126 none
  statics := some 0 }

def pool3 : Array CpInfo := pool [(1, .class_ 2), (0, u "java/io/Serializable"), (0, .class_ 4), (0, u "java/lang/Object")] 2

/-- java/io/Serializable -/
def k3 : Class := { plain "java/io/Serializable" (some 0) with
  accessFlags := 1537
  interfaces := #[]
  cf := some (fileOf pool3 1 #[] #[] 1537 3 #[] #[])
  fields := #[]
  methods := #[]
  instanceTypes := #[]
  staticTypes := #[]
  resolved := Array.replicate 7 none
  statics := none }

def pool4 : Array CpInfo := pool [(1, .class_ 2), (0, u "java/lang/Comparable"), (0, .class_ 4), (0, u "java/lang/Object")] 7

/-- java/lang/Comparable -/
def k4 : Class := { plain "java/lang/Comparable" (some 0) with
  accessFlags := 1537
  interfaces := #[]
  cf := some (fileOf pool4 1 #[] #[] 1537 3 #[] #[])
  fields := #[]
  methods := #[]
  instanceTypes := #[]
  staticTypes := #[]
  resolved := Array.replicate 12 none
  statics := none }

def pool5 : Array CpInfo := pool [(2, .class_ 4), (1, u "java/lang/CharSequence"), (42, .class_ 48), (0, u "java/lang/CharSequence$1CodePointIterator"), (10, .class_ 60), (0, u "java/lang/CharSequence$1CharIterator"), (5, .class_ 67), (0, u "java/lang/Object")] 63

/-- java/lang/CharSequence -/
def k5 : Class := { plain "java/lang/CharSequence" (some 0) with
  accessFlags := 1537
  interfaces := #[]
  cf := some (fileOf pool5 2 #[.nestMembers #[47, 59]] #[] 1537 66 #[] #[])
  fields := #[]
  methods := #[]
  instanceTypes := #[]
  staticTypes := #[]
  resolved := Array.replicate 131 none
  statics := none }

def pool6 : Array CpInfo := pool [(1, .class_ 2), (0, u "java/lang/constant/Constable"), (0, .class_ 4), (0, u "java/lang/Object")] 6

/-- java/lang/constant/Constable -/
def k6 : Class := { plain "java/lang/constant/Constable" (some 0) with
  accessFlags := 1537
  interfaces := #[]
  cf := some (fileOf pool6 1 #[] #[] 1537 3 #[] #[])
  fields := #[]
  methods := #[]
  instanceTypes := #[]
  staticTypes := #[]
  resolved := Array.replicate 11 none
  statics := none }

def pool7 : Array CpInfo := pool [(1, .class_ 2), (0, u "java/lang/constant/ConstantDesc"), (0, .class_ 4), (0, u "java/lang/Object")] 32

/-- java/lang/constant/ConstantDesc -/
def k7 : Class := { plain "java/lang/constant/ConstantDesc" (some 0) with
  accessFlags := 1537
  interfaces := #[]
  cf := some (fileOf pool7 1 #[] #[] 1537 3 #[] #[])
  fields := #[]
  methods := #[]
  instanceTypes := #[]
  staticTypes := #[]
  resolved := Array.replicate 37 none
  statics := none }

def pool8 : Array CpInfo := pool [(2, .class_ 4), (1, u "java/lang/Object"), (0, u "<init>"), (0, u "()V"), (3, .class_ 12), (1, u "java/lang/String"), (0, u "value"), (0, u "[B"), (2, u "coder"), (0, u "B"), (2, u "hash"), (0, u "I"), (2, u "hashIsZero"), (0, u "Z"), (13, u "COMPACT_STRINGS"), (534, .class_ 576), (0, u "java/lang/CharSequence"), (22, u "CASE_INSENSITIVE_ORDER"), (0, u "Ljava/util/Comparator;"), (500, u "serialPersistentFields"), (0, u "[Ljava/io/ObjectStreamField;"), (0, .class_ 1104), (0, u "java/lang/String$CaseInsensitiveComparator"), (1, .class_ 1107), (0, u "java/io/Serializable"), (0, .class_ 1109), (0, u "java/lang/Comparable"), (0, .class_ 1111), (0, u "java/lang/constant/Constable"), (0, .class_ 1113), (0, u "java/lang/constant/ConstantDesc"), (2, u "serialVersionUID"), (0, u "J"), (3, u "REPL"), (0, u "C"), (2, u "LATIN1"), (1, u "UTF16")] 323

def k8m0 : Method := { name := "<init>", desc := "()V", sig := { parameters := [], returnType := none }, accessFlags := 1, code := none }
/-- java/lang/String -/
def k8 : Class := { plain "java/lang/String" (some 0) with
  accessFlags := 49
  interfaces := #[3, 4, 5, 6, 7]
  cf := some (fileOf pool8 10 #[.nestMembers #[1103]] #[{ accessFlags := 1, nameIndex := 5, descriptorIndex := 6, attributes := #[] }] 49 2 #[1106, 1108, 575, 1110, 1112] #[{ accessFlags := 18, nameIndex := 13, descriptorIndex := 14, attributes := #[] }, { accessFlags := 18, nameIndex := 17, descriptorIndex := 18, attributes := #[] }, { accessFlags := 2, nameIndex := 21, descriptorIndex := 22, attributes := #[] }, { accessFlags := 2, nameIndex := 25, descriptorIndex := 26, attributes := #[] }, { accessFlags := 26, nameIndex := 1116, descriptorIndex := 1117, attributes := #[] }, { accessFlags := 24, nameIndex := 40, descriptorIndex := 26, attributes := #[] }, { accessFlags := 26, nameIndex := 1101, descriptorIndex := 1102, attributes := #[] }, { accessFlags := 26, nameIndex := 1121, descriptorIndex := 1122, attributes := #[] }, { accessFlags := 25, nameIndex := 599, descriptorIndex := 600, attributes := #[] }, { accessFlags := 24, nameIndex := 1125, descriptorIndex := 18, attributes := #[] }, { accessFlags := 24, nameIndex := 1127, descriptorIndex := 18, attributes := #[] }])
  fields := #[{ name := "value", type := (.array .byte), accessFlags := 18, slot := 0, constantValue := 0 }, { name := "coder", type := .byte, accessFlags := 18, slot := 1, constantValue := 0 }, { name := "hash", type := .int, accessFlags := 2, slot := 2, constantValue := 0 }, { name := "hashIsZero", type := .boolean, accessFlags := 2, slot := 3, constantValue := 0 }, { name := "serialVersionUID", type := .long, accessFlags := 26, slot := 0, constantValue := 0 }, { name := "COMPACT_STRINGS", type := .boolean, accessFlags := 24, slot := 1, constantValue := 0 }, { name := "serialPersistentFields", type := (.array (.object "java/io/ObjectStreamField")), accessFlags := 26, slot := 2, constantValue := 0 }, { name := "REPL", type := .char, accessFlags := 26, slot := 3, constantValue := 0 }, { name := "CASE_INSENSITIVE_ORDER", type := (.object "java/util/Comparator"), accessFlags := 25, slot := 4, constantValue := 0 }, { name := "LATIN1", type := .byte, accessFlags := 24, slot := 5, constantValue := 0 }, { name := "UTF16", type := .byte, accessFlags := 24, slot := 6, constantValue := 0 }]
  methods := #[k8m0]
  instanceTypes := #[(.array .byte), .byte, .int, .boolean]
  staticTypes := #[.long, .boolean, (.array (.object "java/io/ObjectStreamField")), .char, (.object "java/util/Comparator"), .byte, .byte]
  resolved := Array.replicate 1451 none
  statics := none }

def pool9 : Array CpInfo := pool [(1, u "java/lang/Cloneable"), (0, .class_ 1), (0, u "java/lang/Object"), (0, .class_ 3)] 3

/-- java/lang/Cloneable -/
def k9 : Class := { plain "java/lang/Cloneable" (some 0) with
  accessFlags := 1537
  interfaces := #[]
  cf := some (fileOf pool9 2 #[] #[] 1537 4 #[] #[])
  fields := #[]
  methods := #[]
  instanceTypes := #[]
  staticTypes := #[]
  resolved := Array.replicate 8 none
  statics := none }

/-- the primitive byte -/
def k10 : Class := { plain "byte" none with kind := .primitive 'B', accessFlags := 0x411 }
/-- [B -/
def k11 : Class := { plain "[B" (some 0) with kind := .array 10 .byte, interfaces := #[9, 3], accessFlags := 1041 }

/-- the primitive int -/
def k12 : Class := { plain "int" none with kind := .primitive 'I', accessFlags := 0x411 }
/-- [I -/
def k13 : Class := { plain "[I" (some 0) with kind := .array 12 .int, interfaces := #[9, 3], accessFlags := 1041 }

/-- [Ljava/lang/String; -/
def k14 : Class := { plain "[Ljava/lang/String;" (some 0) with kind := .array 8 (.object "java/lang/String"), interfaces := #[9, 3], accessFlags := 1041 }

def heap : Heap := #[{ cls := 2, slots := #[.int 0, .int 0, .int 0, .int 0, .int 0, .int 0, .int 0, .int 0, .int 0, .int 0, .int 0, .int 0, .int 0, .int 0, .int 0, .int 0, .int 0, .ref 1], vm := .statics 2 },
  { cls := 14, slots := #[.null, .null, .null, .null, .null, .null, .null, .null, .null, .null, .null, .null, .null, .null, .null, .null], vm := .none }]
def classes : Array Class := #[k0, k1, k2, k3, k4, k5, k6, k7, k8, k9, k10, k11, k12, k13, k14]
def interned : List (Array UInt16 × Addr) := []
def slotsUsed : Nat := 34
def theMethod : MethodId := ⟨1, 2⟩
def args0 : Array Value := #[.int 5, .int 9]
def aboutOver (below : List Frame) : State where
  vm := { classes := classes, interned := interned.toArray }
  heap := heap
  slotsUsed := slotsUsed
  threads := #[{ frames := .invoking theMethod args0 :: below }]
def below0 : List Frame := [.native { method := ⟨0, 0⟩, args := #[] }]
def about1 : State := aboutOver below0
def p0 : Program := .bare "" "" ""
def e0 : Env := launch0.env 0 0 0
theorem w_frames : about1.frames = Frame.invoking theMethod args0 :: below0 := rfl
set_option maxRecDepth 65536 in
theorem w_args : argsFit about1.vm theMethod args0 = true := by decide +kernel
set_option maxRecDepth 65536 in
theorem w_heap : heapFits about1 = true := by decide +kernel
set_option maxRecDepth 65536 in
theorem w_runnable : about1.curStatus? = some .runnable := by decide +kernel
set_option maxRecDepth 65536 in
theorem w_alone : about1.alone = true := by decide +kernel
set_option maxRecDepth 65536 in
theorem w_named : about1.methodNamed? x = some theMethod := by decide +kernel
set_option maxRecDepth 65536 in
theorem w_hears : about1.hears theMethod below0 = true := by decide +kernel
set_option maxRecDepth 65536 in
theorem w_ripe : about1.ripe theMethod args0 below0 = true := by decide +kernel
theorem w_running : about1.status = .running := rfl
set_option maxRecDepth 65536 in
theorem w_room : about1.hasRoom e0.platform room_1 = true :=
  launch0.hasRoom_least _ room_1 (by decide +kernel) (by decide +kernel) (by decide +kernel) (by decide +kernel) (by decide +kernel) (by decide +kernel)
theorem allAtoms_all (ts : List Jvm.Cond) (a : Array Jvm.Value) (st : Jvm.State) : (allAtoms ts).before a st = ts.all (fun c => c.before a st) := by
  induction ts with
  | nil => rfl
  | cons c t ih =>
    show (Jvm.Cond.and c (allAtoms t)).before a st = _
    rw [Jvm.Cond.before_and, ih, List.all_cons]
def words1 : List Jvm.Cond := Jvm.Cond.code x code maxLocals ret :: tables_1
/-- a 'code' word, met by the world's own term for the bytes: nothing is compared byte by byte -/
theorem code_word {y : MethodName} {bytes : ByteArray} {mx : Nat} {rt : Option FieldType} {a : Array Value} {s : State} {m : MethodId} {meth : Method} {c : Code} (h1 : s.methodNamed? y = some m) (h2 : s.vm.method? m = some meth) (h3 : meth.code = some c) (h4 : c.code = bytes)
    (h5 : (c.maxLocals == mx && c.exceptionTable.isEmpty && decide (c.maxStack ≤ mostOperands) && decide (meth.sig.returnType = rt) && !meth.locks && decide (parseMethodDescriptor y.desc = some meth.sig)) = true) : (Jvm.Cond.code y bytes mx rt).before a s = true := by
  simp only [Bool.and_eq_true, beq_iff_eq, Bool.not_eq_true', decide_eq_true_eq] at h5
  obtain ⟨⟨⟨⟨⟨g1, g2⟩, g3⟩, g4⟩, g5⟩, g6⟩ := h5
  simp [Cond.before, Cond.holds, Cond.value, h1, h2, h3, h4, g1, g2, g3, g4, g5, g6]
def isCode : Jvm.Cond → Bool
  | .code _ _ _ _ => true
  | _ => false
theorem all_split {L : List Jvm.Cond} {P : Jvm.Cond → Bool} (h1 : L.all (fun c => isCode c || P c) = true) (h2 : ∀ c ∈ L.filter isCode, P c = true) : L.all P = true := by
  refine List.all_eq_true.mpr fun c hc => ?_
  have h := List.all_eq_true.mp h1 c hc
  rcases Bool.eq_false_or_eq_true (isCode c) with hi | hi
  · exact h2 c (List.mem_filter.mpr ⟨hc, hi⟩)
  · simpa [hi] using h
set_option maxRecDepth 65536 in
theorem w_c0 : (Jvm.Cond.code x code maxLocals ret).before args0 about1 = true := code_word (m := ⟨1, 2⟩) (meth := k1m2) (c := k1c2) (by decide +kernel) rfl rfl rfl (by decide +kernel)
set_option maxRecDepth 65536 in
theorem w_c1 : (Jvm.Cond.code ({ cls := "com/example/xylograph/xylograph/evtbinxml/Token", name := "type", desc := "(I)I" } : Jvm.MethodName) prog_16_method_2_code (3 : Nat) (Option.some Jvm.ClassFile.FieldType.int)).before args0 about1 = true := code_word (m := ⟨2, 1⟩) (meth := k2m1) (c := k2c1) (by decide +kernel) rfl rfl rfl (by decide +kernel)
set_option maxRecDepth 65536 in
theorem w_c2 : (Jvm.Cond.code ({ cls := "com/example/xylograph/xylograph/evtbinxml/TokenTypePinLaw", name := "expected", desc := "(I)I" } : Jvm.MethodName) method_2_code (1 : Nat) (Option.some Jvm.ClassFile.FieldType.int)).before args0 about1 = true := code_word (m := ⟨1, 1⟩) (meth := k1m1) (c := k1c1) (by decide +kernel) rfl rfl rfl (by decide +kernel)
def codes1 : List Jvm.Cond := [Jvm.Cond.code x code maxLocals ret, Jvm.Cond.code ({ cls := "com/example/xylograph/xylograph/evtbinxml/Token", name := "type", desc := "(I)I" } : Jvm.MethodName) prog_16_method_2_code (3 : Nat) (Option.some Jvm.ClassFile.FieldType.int), Jvm.Cond.code ({ cls := "com/example/xylograph/xylograph/evtbinxml/TokenTypePinLaw", name := "expected", desc := "(I)I" } : Jvm.MethodName) method_2_code (1 : Nat) (Option.some Jvm.ClassFile.FieldType.int)]
set_option maxRecDepth 65536 in
theorem codes_eq : words1.filter isCode = codes1 := rfl
theorem w_codes : ∀ c ∈ words1.filter isCode, c.before args0 about1 = true := by
  rw [codes_eq]
  intro c hc
  simp only [codes1, List.mem_cons, List.not_mem_nil, or_false] at hc
  rcases hc with rfl | rfl | rfl
  · exact w_c0
  · exact w_c1
  · exact w_c2
set_option maxRecDepth 65536 in
theorem w_t1 : words1.all (fun c => isCode c || c.before args0 about1) = true := by decide +kernel
theorem w_tables : (allAtoms (Jvm.Cond.code x code maxLocals ret :: tables_1)).before args0 about1 = true := by
  rw [allAtoms_all]
  show words1.all (fun c => c.before args0 about1) = true
  refine all_split ?_ w_codes
  rw [w_t1]
set_option maxRecDepth 65536 in
theorem w_case : (Jvm.Cond.and given_1 narrow_1).before args0 about1 = true := by decide +kernel
theorem w_applies : (headSpec (Jvm.Cond.code x code maxLocals ret :: tables_1) room_1).applies x e0.platform about1 = true :=
  (Spec.applies_iff w_frames).mpr ⟨w_running, w_runnable, w_alone, w_named, w_hears, w_ripe, w_room, w_tables⟩
theorem atStart : AtStart classFile x code maxLocals ret World_1 tables_1 room_1 Calls_1 rest_1 Pre_1 launch0 p0 e0 about1 theMethod args0 below0 :=
  ⟨lists_1, trivial, launch0.admits_env _ _ _, launch0.least_env, fairChoices_fair.cas, fairChoices_fair.clock, w_frames, w_args, w_heap, w_applies, trivial, trivial, w_case⟩
end start1
theorem witness_1 : WitnessClaimed_1 := ⟨start1.p0, start1.e0, start1.about1, start1.theMethod, start1.args0, start1.below0, start1.atStart⟩
end Jvm.Pilot.@@N@@
