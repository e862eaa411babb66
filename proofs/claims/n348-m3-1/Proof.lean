import JvmDerived
import JvmDerived.Pilot.@@N@@Statement
import JvmDerived.Pilot.@@N@@Code
set_option linter.unusedVariables false
set_option linter.unusedSimpArgs false
@@BLOCK:LamKit.lean.txt@@
namespace Jvm.Pilot.@@N@@
open Jvm Jvm.ClassFile Sem Op Lib Jvm.Free Jvm.Stand Jvm.LawKit Jvm.RoadKit Bundle Jvm.Pilot.@@N@@.Jvm.D
/-! own layer: 'from here the run ends, and Q holds of what it leaves' (own_Dn), stepped backwards -/
def own_Dn (p : Program) (e : Env) (below : List Frame) (s : State) (Q : Option Value → Heap → List Loc → Prop) (K N : Nat) (A : State) : Prop :=
  ∃ s₂ o, Steps p.tables e below A s₂ ∧ s₂.status = .running ∧ Ended s₂ below o ∧ ∃ v L, o = .returned v ∧ Q v s₂.heap L ∧ FrameEnd s o s₂ L K N
def own_Q (r : Option Value) (n0 : Nat) (h0 : Heap) (v : Option Value) (h : Heap) (L : List Loc) : Prop := v = r ∧ Fr n0 L ∧ h = h0
def own_QL (r : Option Value) (n0 : Nat) (v : Option Value) (h : Heap) (L : List Loc) : Prop := v = r ∧ Fr n0 L
def own_Cx (p : Program) (s : State) (m : MethodId) (meth : Method) (c : Code) (Z : State) (a0 : Array Value) (bytes : ByteArray) (ml : Nat) (own nm : String) (ret : Option FieldType) : Prop :=
  p.tables.exec = Jvm.exec ∧ Z.Warmed39 s.vm ∧ (∀ d ∈ tables_1, d.before a0 Z = true) ∧ c.code = bytes ∧ c.maxLocals = ml ∧ s.vm.findClass own = some m.cls ∧ meth.sig.returnType = ret ∧ meth.locks = false ∧ meth.name = nm
theorem own_st {p : Program} {e : Env} {below : List Frame} {s : State} {Q : Option Value → Heap → List Loc → Prop} {K N : Nat} {A B : State} (k : ∀ t, Steps p.tables e below B t → Steps p.tables e below A t) (d : own_Dn p e below s Q K N B) : own_Dn p e below s Q K N A := by
  obtain ⟨s₂, o, h, r⟩ := d
  exact ⟨s₂, o, k _ h, r⟩
theorem own_tr {p : Program} {e : Env} {below : List Frame} {s : State} {Q : Option Value → Heap → List Loc → Prop} {K N : Nat} {A B : State} (k : Steps p.tables e below A B) (d : own_Dn p e below s Q K N B) : own_Dn p e below s Q K N A :=
  own_st (fun _ h => k.trans h) d
theorem own_cat {v : Value} (h : v.isRef = true) : v.category = 1 := by
  cases v <;> first | rfl | (simp [Value.isRef] at h)
section own
variable {p : Program} {l : Launch} {e : Env} {R : Room} {s : State} {m : MethodId} {args : Array Value} {below : List Frame} {meth : Method} {c : Code} {T : State} {locs : List Loc} {cells slots : Nat} {Q : Option Value → Heap → List Loc → Prop} {K N : Nat}
theorem own_ret (X : Stand p l e R s m args below meth c T locs cells slots) (hlk : meth.locks = false) {v : Option Value} (hv : meth.sig.returnType = none → v = none) {A : State} (hK : cells ≤ K) (hN : slots ≤ N) (hq : Q v T.heap locs)
    (hst : ∀ fs, (∀ (f : JFrame) (acts : List Action), f.method = m → f.locked = none → f.entered = [] → (doReturn e (T.setTop f) acts v).1 = T.setFrames fs) → Steps p.tables e below A (T.setFrames fs)) : own_Dn p e below s Q K N A := by
  obtain ⟨fs, hr, hrun, hended, hW, hsame⟩ := X.leave (v := v) hv hlk
  exact ⟨_, _, hst fs hr, hrun, hended, _, _, rfl, hq, ⟨_, rfl⟩, hW, hsame.mono hK hN⟩
theorem own_retI (X : Stand p l e R s m args below meth c T locs cells slots) (hx : p.tables.exec = Jvm.exec) (hret : meth.sig.returnType = some .int) (hlk : meth.locks = false) {pc : Nat} {Ls : Array Slot} {z : Int32} {rest : List Value} (hd : decode c.code pc = .ok (.ireturn, 1)) (hK : cells ≤ K) (hN : slots ≤ N)
    (hq : Q (some (.int z)) T.heap locs) : own_Dn p e below s Q K N (T.setTop (mkF m pc Ls (.int z :: rest))) :=
  own_ret X hlk (fun h => by rw [hret] at h; cases h) hK hN hq (fun fs hr => retOut X hx hret rfl (Or.inl ⟨rfl, Or.inl rfl, _, rfl⟩) hd hr)
theorem own_retJ (X : Stand p l e R s m args below meth c T locs cells slots) (hx : p.tables.exec = Jvm.exec) (hret : meth.sig.returnType = some .long) (hlk : meth.locks = false) {pc : Nat} {Ls : Array Slot} {z : Int64} {rest : List Value} (hd : decode c.code pc = .ok (.lreturn, 1)) (hK : cells ≤ K) (hN : slots ≤ N)
    (hq : Q (some (.long z)) T.heap locs) : own_Dn p e below s Q K N (T.setTop (mkF m pc Ls (.long z :: rest))) :=
  own_ret X hlk (fun h => by rw [hret] at h; cases h) hK hN hq (fun fs hr => retOut X hx hret rfl (Or.inr (Or.inl ⟨rfl, rfl, _, rfl⟩)) hd hr)
theorem own_retZ (X : Stand p l e R s m args below meth c T locs cells slots) (hx : p.tables.exec = Jvm.exec) (hret : meth.sig.returnType = some .boolean) (hlk : meth.locks = false) {pc : Nat} {Ls : Array Slot} {z : Int32} {rest : List Value} (hz : z &&& 1 = z) (hd : decode c.code pc = .ok (.ireturn, 1)) (hK : cells ≤ K) (hN : slots ≤ N)
    (hq : Q (some (.int z)) T.heap locs) : own_Dn p e below s Q K N (T.setTop (mkF m pc Ls (.int z :: rest))) :=
  own_ret X hlk (fun h => by rw [hret] at h; cases h) hK hN hq (fun fs hr => retOut X hx (w := .int z) hret (show Value.int (z &&& 1) = .int z from congrArg Value.int hz) (Or.inl ⟨rfl, Or.inr (Or.inl rfl), _, rfl⟩) hd hr)
theorem own_retV (X : Stand p l e R s m args below meth c T locs cells slots) (hx : p.tables.exec = Jvm.exec) (hret : meth.sig.returnType = none) (hlk : meth.locks = false) {pc : Nat} {Ls : Array Slot} (hd : decode c.code pc = .ok (.return_, 1)) (hK : cells ≤ K) (hN : slots ≤ N)
    (hq : Q none T.heap locs) : own_Dn p e below s Q K N (T.setTop (mkF m pc Ls [])) :=
  own_ret X hlk (fun _ => rfl) hK hN hq (fun fs hr => X.returnOut hx hret hd hr)
theorem own_retA (X : Stand p l e R s m args below meth c T locs cells slots) (hx : p.tables.exec = Jvm.exec) {t : FieldType} (ht : t.isReference = true) (hret : meth.sig.returnType = some t) (hlk : meth.locks = false) {pc : Nat} {Ls : Array Slot} {w : Value} {rest : List Value} (hw : w.isRef = true) (hn : narrow t w = w) (hd : decode c.code pc = .ok (.areturn, 1)) (hK : cells ≤ K) (hN : slots ≤ N)
    (hq : Q (some w) T.heap locs) : own_Dn p e below s Q K N (T.setTop (mkF m pc Ls (w :: rest))) :=
  own_ret X hlk (fun h => by rw [hret] at h; cases h) hK hN hq (fun fs hr => retOut X hx hret hn (Or.inr (Or.inr (Or.inr (Or.inr ⟨rfl, ht, hw⟩)))) hd hr)
end own
theorem own_met {l : Launch} {Z : State} {a0 : Array Value} (hw : ∀ d ∈ tables_1, d.before a0 Z = true) {y : MethodName} {bytes : ByteArray} {ml : Nat} {ret : Option FieldType} {ws : List Jvm.Cond} {rm : Room} {as' : Array Value} {h0 : Heap} {Q : Option Value → Heap → List Loc → Prop} (hpl : plainFor y = true)
    (body : ∀ p e s m below meth c s₁, own_Cx p s m meth c Z a0 bytes ml y.cls y.name ret → Stand p l e rm s m as' below meth c s₁ [] 0 0 → s₁.heap = h0 → own_Dn p e below s Q rm.cells rm.slots (s₁.setTop (entryFrame m as' ml))) :
    MetFree l y (head1 (Jvm.Cond.code y bytes ml ret :: ws) rm) (fun a U => a = as' ∧ Z.Warmed39 U.vm ∧ U.heap = h0) (fun _ _ _ _ _ => True) (fun _ U o U' => ∃ v L, o = .returned v ∧ Q v U'.heap L ∧ FrameEnd U o U' L rm.cells rm.slots) := by
  refine MetFree.of_bodySF hpl hisR ?_
  intro p e s m args below meth c s₁ Bd hml0 hP hK
  obtain ⟨rfl, hZ, hh⟩ := hP
  exact body p e s m below meth c s₁ ⟨Bd.exec, hZ, hw, Bd.bytes, hml0, findClass_of_methodNamed Bd.named, Bd.returns, BodyLoose.notSynchronized Bd, (name_of_methodNamed Bd.named Bd.method).1⟩ (Stand.of_body Bd) (by rw [← hh, Bd.state]; rfl)
theorem own_jtlt {x y : Int64} (h : x < y) : ifCond.holds .lt (lcmpW x y) = true ∧ ifCond.holds .ge (lcmpW x y) = false ∧ ifCond.holds .gt (lcmpW y x) = true ∧ ifCond.holds .le (lcmpW y x) = false := by
  have h1 : lcmpW x y < 0 := by rw [lcW]; exact (lc_lt x y).mpr h
  have h2 : 0 < lcmpW y x := by rw [lcW]; exact (lc_gt y x).mpr h
  exact ⟨(if0 _ _).trans (tlt h1).1, (if0 _ _).trans (tlt h1).2.1, (if0 _ _).trans (tlt h2).2.2.1, (if0 _ _).trans (tlt h2).2.2.2⟩
theorem own_jflt {x y : Int64} (h : ¬ x < y) : ifCond.holds .lt (lcmpW x y) = false ∧ ifCond.holds .ge (lcmpW x y) = true ∧ ifCond.holds .gt (lcmpW y x) = false ∧ ifCond.holds .le (lcmpW y x) = true := by
  have h1 : ¬ lcmpW x y < 0 := by rw [lcW]; exact fun q => h ((lc_lt x y).mp q)
  have h2 : ¬ 0 < lcmpW y x := by rw [lcW]; exact fun q => h ((lc_gt y x).mp q)
  exact ⟨(if0 _ _).trans (flt h1).1, (if0 _ _).trans (flt h1).2.1, (if0 _ _).trans (flt h2).2.2.1, (if0 _ _).trans (flt h2).2.2.2⟩
theorem own_jteq {x y : Int64} (h : x = y) : ifCond.holds .eq (lcmpW x y) = true ∧ ifCond.holds .ne (lcmpW x y) = false := by
  have h1 : lcmpW x y = 0 := by rw [lcW]; exact (lc_eq x y).mpr h
  exact ⟨(if0 _ _).trans (teq h1).1, (if0 _ _).trans (teq h1).2⟩
theorem own_jfeq {x y : Int64} (h : ¬ x = y) : ifCond.holds .eq (lcmpW x y) = false ∧ ifCond.holds .ne (lcmpW x y) = true := by
  have h1 : ¬ lcmpW x y = 0 := by rw [lcW]; exact fun q => h ((lc_eq x y).mp q)
  exact ⟨(if0 _ _).trans (feq h1).1, (if0 _ _).trans (feq h1).2⟩
theorem own_miss (a : Int32) (ks : List Int32) (h : ∀ k ∈ ks, ¬ a = k) {ps : List (Int × Int)} (e : ps.map (·.1) = ks.map Int32.toInt) : ∀ p ∈ ps, p.1 ≠ a.toInt := by
  intro p hp q
  have h1 : p.1 ∈ ps.map (·.1) := List.mem_map.mpr ⟨p, hp, rfl⟩
  rw [e] at h1
  obtain ⟨k, hk, r⟩ := List.mem_map.mp h1
  exact h k hk (Int32.toInt_inj.mp (q.symm.trans r.symm))
theorem own_Sta_keep {Z : State} {h h' : Heap} {C n d : String} {v : Value} {a : Addr} {C' : String} (F : Sta Z h C n d v) (K : Keep h h' [a]) (E : Exa Z h a C') : Sta Z h' C n d v := by
  obtain ⟨cf, i, k, f, st, cell, h1, h2, h3, h4, h5, h6, h7⟩ := F
  obtain ⟨cl, k', e1, -, -, e4, -⟩ := E
  refine ⟨cf, i, k, f, st, cell, h1, h2, h3, h4, K.2.1 _ _ h5 (ninS (fun q => ?_) nin0), h6, h7⟩
  subst q
  cases h5.symm.trans e1
  rw [h6] at e4; cases e4
theorem own_Sta_keep0 {Z : State} {h h' : Heap} {C n d : String} {v : Value} (F : Sta Z h C n d v) (K : Keep h h' []) : Sta Z h' C n d v := by
  obtain ⟨cf, i, k, f, st, cell, h1, h2, h3, h4, h5, h6, h7⟩ := F
  exact ⟨cf, i, k, f, st, cell, h1, h2, h3, h4, K.2.1 _ _ h5 nin0, h6, h7⟩
theorem own_ne_or {r x : Addr} {ws : List Addr} {H : Heap} (h : r ∈ ws ∨ H.size ≤ r) (hl : x < H.size) (hn : x ∉ ws) : x ≠ r := fun e => h.elim (fun q => hn (e ▸ q)) (fun q => Nat.lt_irrefl _ (Nat.lt_of_lt_of_le (e ▸ hl) q))
theorem own_or_up {r : Addr} {ws ws' : List Addr} {h0 H : Heap} (h : r ∈ ws ∨ H.size ≤ r) (hk : h0.size ≤ H.size) (all : ∀ x ∈ ws, x ∈ ws' ∨ h0.size ≤ x) : r ∈ ws' ∨ h0.size ≤ r := h.elim (all r) (fun q => Or.inr (Nat.le_trans hk q))
theorem own_selp {Z s : State} {a0 args : Array Value} {y : MethodName} {n : Nat} (hZ : Z.Warmed39 s.vm) (w1 : (Cond.instantiable y.cls n).before a0 Z = true) (w2 : (Cond.instanceMethod y).before a0 Z = true) (w3 : (Cond.privateMethod y).before a0 Z = true) (hy : y.cls ≠ "java/lang/invoke/MethodHandle" ∧ y.cls ≠ "java/lang/invoke/VarHandle") : (Cond.selects y.cls y y).before args s = true := by
  have i1 : (Cond.instantiable y.cls n).before args s = true := mvT hZ w1
  obtain ⟨c, k, h1, h2, -, h4, -, -⟩ := Cond.instantiable_spec i1
  have h5 : k.isInterface = false := by
    cases hk : k.isInterface
    · rfl
    · rw [hk] at h4; simp at h4
  exact selects_self_of_private h1 h2 h5 (Cond.privateMethod_at (mvP hZ w3 (args := args))) (mvT hZ w2) hy

/-! own layer, arrays: an array's places as a function -/
def own_Arf (Z : State) (h : Heap) (a : Addr) (ty : FieldType) (n : Nat) (f : Nat → Value) : Prop := ∃ c : Cell, Arr Z h a c ty ∧ c.slots.size = n ∧ n < 2 ^ 31 ∧ ∀ i, i < n → c.slots[i]? = some (f i)
def own_upd {α : Type} (g : Nat → α) (j : Nat) (v : α) (i : Nat) : α := if i = j then v else g i
section ownA
variable {Z : State} {h h' : Heap} {a b : Addr} {ty : FieldType} {n sl : Nat} {f : Nat → Value} {v : Value} {ws : List Addr}
theorem own_Arf.lt (F : own_Arf Z h a ty n f) : a < h.size := by obtain ⟨c, A, -⟩ := F; exact A.lt
theorem own_Arf.ext (F : own_Arf Z h a ty n f) (E : Ext h h') : own_Arf Z h' a ty n f := by obtain ⟨c, A, q⟩ := F; exact ⟨c, A.ext E, q⟩
theorem own_Arf.other (F : own_Arf Z h b ty n f) (W : Wr h h' a sl v) (q : b ≠ a) : own_Arf Z h' b ty n f := by obtain ⟨c, A, r⟩ := F; exact ⟨c, A.other W q, r⟩
theorem own_Arf.keep (F : own_Arf Z h a ty n f) (K : Keep h h' ws) (q : a ∉ ws) : own_Arf Z h' a ty n f := by obtain ⟨c, A, r⟩ := F; exact ⟨c, ⟨K.2.1 _ _ A.1 q, A.2⟩, r⟩
theorem own_Arf.congr {f' : Nat → Value} (F : own_Arf Z h a ty n f) (q : ∀ i, i < n → f i = f' i) : own_Arf Z h a ty n f' := by
  obtain ⟨c, A, hs, hn, hf⟩ := F
  exact ⟨c, A, hs, hn, fun i hi => by rw [hf i hi, q i hi]⟩
theorem own_Arf.new {k : ClassId} {z : Int32} (A : Arr Z h a (newA k ty z) ty) (q : z.toNatClampNeg = n) (hn : n < 2 ^ 31) : own_Arf Z h a ty n (fun _ => defaultValue ty) := by
  refine ⟨_, A, by rw [sz_new]; exact q, hn, fun i hi => ?_⟩
  simp [newA, q, hi]
theorem own_Arf.set (F : own_Arf Z h a ty n f) (W : Wr h h' a sl v) (hj : sl < n) : own_Arf Z h' a ty n (own_upd f sl v) := by
  obtain ⟨c, A, hs, hn, hf⟩ := F
  refine ⟨c.setSlot sl v, A.same W, by rw [sz_set]; exact hs, hn, fun i hi => ?_⟩
  simp only [own_upd]
  split
  · rename_i q; subst q; simp [Cell.setSlot, hs, hi]
  · rename_i q; simp [Cell.setSlot, Array.getElem?_setIfInBounds, Ne.symm q, hf i hi]
theorem own_Arf.setI {g : Nat → Int32} {x : Int32} (F : own_Arf Z h a ty n (fun i => .int (g i))) (W : Wr h h' a sl (.int x)) (hj : sl < n) : own_Arf Z h' a ty n (fun i => .int (own_upd g sl x i)) :=
  (F.set W hj).congr fun i _ => by simp only [own_upd]; split <;> rfl
theorem own_Arf.setJ {g : Nat → Int64} {x : Int64} (F : own_Arf Z h a ty n (fun i => .long (g i))) (W : Wr h h' a sl (.long x)) (hj : sl < n) : own_Arf Z h' a ty n (fun i => .long (own_upd g sl x i)) :=
  (F.set W hj).congr fun i _ => by simp only [own_upd]; split <;> rfl
variable {p : Program} {l : Launch} {e : Env} {R : Room} {s : State} {m : MethodId} {args : Array Value} {below : List Frame} {meth : Method} {c : Code} {T : State} {locs : List Loc} {cells slots : Nat}
theorem own_ldI (X : Stand p l e R s m args below meth c T locs cells slots) (hx : p.tables.exec = Jvm.exec) (hZ : Z.Warmed39 s.vm) (eT : T.heap = h) (F : own_Arf Z h a .int n f) {j : Int32} (h0 : ¬ j < 0) (hj : j.toNatClampNeg < n) {pc : Nat} {L : Array Slot} {rest : List Value} (hd : decode c.code pc = .ok (.iaload, 1)) :
    ∀ target, Steps p.tables e below (T.setTop (mkF m (pc + 1) L (f j.toNatClampNeg :: rest))) target → Steps p.tables e below (T.setTop (mkF m pc L (.int j :: .ref a :: rest))) target := by
  obtain ⟨cl, A, hs, hn, hf⟩ := F
  intro target k
  exact X.iaload hx (j := j) (v := f j.toNatClampNeg) (by rw [eT]; exact A.1) (State.isArrayOf_alike hZ.alike A.2.1) A.2.2 (fun q => q.elim h0 (fun r => by omega)) (hf _ hj) (g := mkF m pc L (.int j :: .ref a :: rest)) rfl rfl hd _ k
theorem own_ldJ (X : Stand p l e R s m args below meth c T locs cells slots) (hx : p.tables.exec = Jvm.exec) (hZ : Z.Warmed39 s.vm) (eT : T.heap = h) (F : own_Arf Z h a .long n f) {j : Int32} (h0 : ¬ j < 0) (hj : j.toNatClampNeg < n) {pc : Nat} {L : Array Slot} {rest : List Value} (hd : decode c.code pc = .ok (.laload, 1)) :
    ∀ target, Steps p.tables e below (T.setTop (mkF m (pc + 1) L (f j.toNatClampNeg :: rest))) target → Steps p.tables e below (T.setTop (mkF m pc L (.int j :: .ref a :: rest))) target := by
  obtain ⟨cl, A, hs, hn, hf⟩ := F
  intro target k
  exact X.laload hx (j := j) (v := f j.toNatClampNeg) (by rw [eT]; exact A.1) (State.isArrayOf_alike hZ.alike A.2.1) A.2.2 (fun q => q.elim h0 (fun r => by omega)) (hf _ hj) (g := mkF m pc L (.int j :: .ref a :: rest)) rfl rfl hd _ k
theorem own_ldB (X : Stand p l e R s m args below meth c T locs cells slots) (hx : p.tables.exec = Jvm.exec) (hZ : Z.Warmed39 s.vm) (eT : T.heap = h) (F : own_Arf Z h a .byte n f) {j : Int32} (h0 : ¬ j < 0) (hj : j.toNatClampNeg < n) {pc : Nat} {L : Array Slot} {rest : List Value} (hd : decode c.code pc = .ok (.baload, 1)) :
    ∀ target, Steps p.tables e below (T.setTop (mkF m (pc + 1) L (f j.toNatClampNeg :: rest))) target → Steps p.tables e below (T.setTop (mkF m pc L (.int j :: .ref a :: rest))) target := by
  obtain ⟨cl, A, hs, hn, hf⟩ := F
  intro target k
  exact X.baloadBytes hx (j := j) (v := f j.toNatClampNeg) (by rw [eT]; exact A.1) (State.isArrayOf_alike hZ.alike A.2.1) A.2.2 (fun q => q.elim h0 (fun r => by omega)) (hf _ hj) (g := mkF m pc L (.int j :: .ref a :: rest)) rfl rfl hd _ k
theorem own_len (X : Stand p l e R s m args below meth c T locs cells slots) (hx : p.tables.exec = Jvm.exec) (hZ : Z.Warmed39 s.vm) (eT : T.heap = h) (F : own_Arf Z h a ty n f) {z : Int32} (hz : n.toInt32 = z) {pc : Nat} {L : Array Slot} {rest : List Value} (hd : decode c.code pc = .ok (.arraylength, 1)) :
    ∀ target, Steps p.tables e below (T.setTop (mkF m (pc + 1) L (.int z :: rest))) target → Steps p.tables e below (T.setTop (mkF m pc L (.ref a :: rest))) target := by
  obtain ⟨cl, A, hs, hn, hf⟩ := F
  intro target k
  refine X.arraylength hx (cell := cl) (by rw [eT]; exact A.1) (State.isArrayOf_alike hZ.alike A.2.1) (g := mkF m pc L (.ref a :: rest)) rfl (rest := rest) rfl hd _ ?_
  rw [hs, hz]; exact k
theorem own_stI (X : Stand p l e R s m args below meth c T locs cells slots) (hx : p.tables.exec = Jvm.exec) (hZ : Z.Warmed39 s.vm) (eT : T.heap = h) {g : Nat → Int32} (F : own_Arf Z h a .int n (fun i => .int (g i))) {j x : Int32} (h0 : ¬ j < 0) (hj : j.toNatClampNeg < n) {pc : Nat} {L : Array Slot} {rest : List Value} (hd : decode c.code pc = .ok (.iastore, 1)) :
    ∃ T' h', Stand p l e R s m args below meth c T' (locs ++ [⟨a, j.toNatClampNeg⟩]) cells slots ∧ T'.heap = h' ∧ Wr h h' a j.toNatClampNeg (.int x) ∧ own_Arf Z h' a .int n (fun i => .int (own_upd g j.toNatClampNeg x i)) ∧
      ∀ target, Steps p.tables e below (T'.setTop (mkF m (pc + 1) L rest)) target → Steps p.tables e below (T.setTop (mkF m pc L (.int x :: .int j :: .ref a :: rest))) target := by
  have F' := F
  obtain ⟨cl, A, hs, hn, hf⟩ := F
  obtain ⟨T', h', X', e', W, st⟩ := stI X hx hZ eT A (j := j) (x := x) (fun q => q.elim h0 (fun r => by omega)) (g := mkF m pc L (.int x :: .int j :: .ref a :: rest)) rfl rfl hd
  exact ⟨T', h', X', e', W, F'.setI W hj, st⟩
theorem own_stJ (X : Stand p l e R s m args below meth c T locs cells slots) (hx : p.tables.exec = Jvm.exec) (hZ : Z.Warmed39 s.vm) (eT : T.heap = h) {g : Nat → Int64} (F : own_Arf Z h a .long n (fun i => .long (g i))) {j : Int32} {x : Int64} (h0 : ¬ j < 0) (hj : j.toNatClampNeg < n) {pc : Nat} {L : Array Slot} {rest : List Value} (hd : decode c.code pc = .ok (.lastore, 1)) :
    ∃ T' h', Stand p l e R s m args below meth c T' (locs ++ [⟨a, j.toNatClampNeg⟩]) cells slots ∧ T'.heap = h' ∧ Wr h h' a j.toNatClampNeg (.long x) ∧ own_Arf Z h' a .long n (fun i => .long (own_upd g j.toNatClampNeg x i)) ∧
      ∀ target, Steps p.tables e below (T'.setTop (mkF m (pc + 1) L rest)) target → Steps p.tables e below (T.setTop (mkF m pc L (.long x :: .int j :: .ref a :: rest))) target := by
  have F' := F
  obtain ⟨cl, A, hs, hn, hf⟩ := F
  obtain ⟨T', h', X', e', W, st⟩ := stJ X hx hZ eT A (j := j) (x := x) (fun q => q.elim h0 (fun r => by omega)) (g := mkF m pc L (.long x :: .int j :: .ref a :: rest)) rfl rfl hd
  exact ⟨T', h', X', e', W, F'.setJ W hj, st⟩
theorem own_stB (X : Stand p l e R s m args below meth c T locs cells slots) (hx : p.tables.exec = Jvm.exec) (hZ : Z.Warmed39 s.vm) (eT : T.heap = h) {g : Nat → Int32} (F : own_Arf Z h a .byte n (fun i => .int (g i))) {j x : Int32} (h0 : ¬ j < 0) (hj : j.toNatClampNeg < n) {pc : Nat} {L : Array Slot} {rest : List Value} (hd : decode c.code pc = .ok (.bastore, 1)) :
    ∃ T' h', Stand p l e R s m args below meth c T' (locs ++ [⟨a, j.toNatClampNeg⟩]) cells slots ∧ T'.heap = h' ∧ Wr h h' a j.toNatClampNeg (.int x.toInt8.toInt32) ∧ own_Arf Z h' a .byte n (fun i => .int (own_upd g j.toNatClampNeg x.toInt8.toInt32 i)) ∧
      ∀ target, Steps p.tables e below (T'.setTop (mkF m (pc + 1) L rest)) target → Steps p.tables e below (T.setTop (mkF m pc L (.int x :: .int j :: .ref a :: rest))) target := by
  have F' := F
  obtain ⟨cl, A, hs, hn, hf⟩ := F
  obtain ⟨T', h', X', e', W, st⟩ := stB X hx hZ eT A (j := j) (x := x) (fun q => q.elim h0 (fun r => by omega)) (g := mkF m pc L (.int x :: .int j :: .ref a :: rest)) rfl rfl hd
  exact ⟨T', h', X', e', W, F'.setI W hj, st⟩
end ownA
section ownB
variable {args : Array Value} {s : State} {t u : Term} {w : Addr} {ty : FieldType} {z : Int32} {n : Nat}
theorem own_Arf.start (ev : t.eval args s none [] s = some (.ref w)) (h1 : (Jvm.Cond.arrayOf t ty).value args s none s [] = some true) (h2 : (Jvm.Cond.eq (.length t) (.int z)).value args s none s [] = some true) (hn : z.toInt = n) :
    ∃ f, own_Arf s s.heap w ty n f ∧ ∀ j : Int32, ¬ j < 0 → j.toNatClampNeg < n → (Term.elem t (.int j)).eval args s none [] s = some (f j.toNatClampNeg) := by
  obtain ⟨c, A⟩ := Arr.start ev h1
  have hat : s.arrayAt? w = some c := Arr.fin (State.Warmed39.refl s).alike A
  have hlen := Cond.eq_int (Cond.before_iff.mpr h2) rfl
  have h31 := SBG.length_lt ev hat hlen
  have hsz : c.slots.size = n := by
    have e1 := len_f ev hat h31
    have e2 : c.slots.size.toInt32 = z := by simpa using Option.some.inj (e1.symm.trans hlen)
    have e3 := len_toInt h31
    rw [e2] at e3; omega
  refine ⟨fun i => (c.slots[i]?).getD .null, ⟨c, A, hsz, by omega, fun i hi => ?_⟩, fun j h0 hj => ?_⟩
  · have : i < c.slots.size := by omega
    simp [this]
  · rw [elem_f ev (Term.int_eval j) hat h0]
    have : j.toNatClampNeg < c.slots.size := by omega
    simp [this]
theorem own_eqref {a b : Term} {x : Value} (ha : a.eval args s none [] s = some x) (hb : b.eval args s none [] s = some (.ref w)) (h : (Jvm.Cond.eq a b).value args s none s [] = some true) : x = .ref w := by
  obtain ⟨x', y', e1, e2, k1, k2⟩ := cmp_v (Or.inl h)
  cases ha.symm.trans e1; cases hb.symm.trans e2
  exact gotT (eq_R ha hb k2.2 rfl) h
theorem own_fldstart {C f d : String} {k : Int32} (ev : t.eval args s none [] s = some (.ref w)) (h : (Jvm.Cond.eq (.field t C f d) (.int k)).value args s none s [] = some true) : Fld s s.heap w C f d (.int k) := by
  have e := Cond.eq_int (Cond.before_iff.mpr h) rfl
  rw [fld_at ev] at e
  exact Fld.start e
end ownB
section ownC
variable {Z : State} {h h' : Heap} {a b : Addr} {ty : FieldType} {n sl : Nat} {f : Nat → Value} {v : Value} {ws : List Addr}
variable {p : Program} {l : Launch} {e : Env} {R : Room} {s : State} {m : MethodId} {args : Array Value} {below : List Frame} {meth : Method} {c : Code} {T : State} {locs : List Loc} {cells slots : Nat}
theorem own_ldA (X : Stand p l e R s m args below meth c T locs cells slots) (hx : p.tables.exec = Jvm.exec) (hZ : Z.Warmed39 s.vm) (eT : T.heap = h) (F : own_Arf Z h a ty n f) (hty : ty.isReference = true) {j : Int32} (h0 : ¬ j < 0) (hj : j.toNatClampNeg < n) {pc : Nat} {L : Array Slot} {rest : List Value} (hd : decode c.code pc = .ok (.aaload, 1)) :
    ∀ target, Steps p.tables e below (T.setTop (mkF m (pc + 1) L (f j.toNatClampNeg :: rest))) target → Steps p.tables e below (T.setTop (mkF m pc L (.int j :: .ref a :: rest))) target := by
  obtain ⟨cl, A, hs, hn, hf⟩ := F
  intro target k
  exact X.aaload hx (j := j) (v := f j.toNatClampNeg) (by rw [eT]; exact A.1) (State.isArrayOf_alike hZ.alike A.2.1) hty A.2.2 (fun q => q.elim h0 (fun r => by omega)) (hf _ hj) (g := mkF m pc L (.int j :: .ref a :: rest)) rfl rfl hd _ k
theorem own_clone (X : Stand p l e R s m args below meth c T locs cells slots) (hx : p.tables.exec = Jvm.exec) (hZ : Z.Warmed39 s.vm) {a0 : Array Value} {own ad : String} {index : Nat} (hown : s.vm.findClass own = some m.cls)
    (w1 : (Cond.methodLink own index ⟨ad, "clone", "()Ljava/lang/Object;"⟩).before a0 Z = true) (w2 : (Cond.sameMethod ad "java/lang/Object" "clone" "()Ljava/lang/Object;").before a0 Z = true) (w3 : (Cond.native ⟨"java/lang/Object", "clone", "()Ljava/lang/Object;"⟩).before a0 Z = true)
    (w4 : (Cond.instanceMethod ⟨"java/lang/Object", "clone", "()Ljava/lang/Object;"⟩).before a0 Z = true) (w5 : (Cond.selects ad ⟨ad, "clone", "()Ljava/lang/Object;"⟩ ⟨"java/lang/Object", "clone", "()Ljava/lang/Object;"⟩).before a0 Z = true) (w6 : (Cond.castable ad "java/lang/Cloneable").before a0 Z = true)
    (eT : T.heap = h) (F : own_Arf Z h a ty n f) (E : Exa Z h a ad) (hfit : ∀ i, i < n → fits ty (f i) = true) {g : JFrame} (hg : g.method = m) (hsize : g.locals.size = c.maxLocals) {rest : List Value} (hs : g.stack = .ref a :: rest) (hd : decode c.code g.pc = .ok (.invokevirtual index, 3))
    (hf : 1 ≤ R.frames) {W : Nat} (hW : 2 * g.monitorRoom + (rest.map fun v => v.category).sum ≤ W) (hl : W + 14 ≤ R.locals) (hc : cells + 1 ≤ R.cells) (hsl : slots + n ≤ R.slots) :
    ∃ T' h', Stand p l e R s m args below meth c T' locs (cells + 1) (slots + n) ∧ T'.heap = h' ∧ Ext h h' ∧ own_Arf Z h' h.size ty n f ∧ Exa Z h' h.size ad ∧
      ∀ target, Steps p.tables e below (T'.setTop { g with pc := g.pc + 3, stack := .ref h.size :: rest }) target → Steps p.tables e below (T.setTop g) target := by
  obtain ⟨cl, A, q1, q2, q3⟩ := F
  have FC : FitC Z cl := fitC_of A (fun i hi v hv => by
    have r := q3 i (by omega)
    rw [r] at hv; cases hv; exact hfit i (by omega))
  obtain ⟨T', h', X', e', E', A', EA, st⟩ := cloneA X hx hZ hown w1 w2 w3 w4 w5 w6 eT A E FC hg hsize hs hd hf hW hl (cap := n) (by omega) hc hsl
  exact ⟨T', h', X', e', E', ⟨_, A', q1, q2, q3⟩, EA, st⟩
end ownC

theorem own_pd0 : parseMethodDescriptor "(I)I" = some ⟨[.int], some .int⟩ := by decide +kernel
theorem own_pd1 : parseMethodDescriptor "(II)I" = some ⟨[.int, .int], some .int⟩ := by decide +kernel
theorem own_pd2 : parseMethodDescriptor "([I)I" = some ⟨[(.array .int)], some .int⟩ := by decide +kernel
theorem own_pd3 : parseMethodDescriptor "(I[I)Z" = some ⟨[.int, (.array .int)], some .boolean⟩ := by decide +kernel
theorem own_pd4 : parseMethodDescriptor "(I)[I" = some ⟨[.int], some (.array .int)⟩ := by decide +kernel
theorem own_pd5 : parseMethodDescriptor "(I)V" = some ⟨[.int], none⟩ := by decide +kernel
theorem own_pd6 : parseMethodDescriptor "(Ljava/util/ArrayList;)V" = some ⟨[(.object "java/util/ArrayList")], none⟩ := by decide +kernel
theorem own_pd7 : parseMethodDescriptor "()Ljava/util/Iterator;" = some ⟨[], some (.object "java/util/Iterator")⟩ := by decide +kernel
theorem own_pd8 : parseMethodDescriptor "()Z" = some ⟨[], some .boolean⟩ := by decide +kernel
theorem own_pd9 : parseMethodDescriptor "()V" = some ⟨[], none⟩ := by decide +kernel
theorem own_pd10 : parseMethodDescriptor "(Ljava/lang/Object;)Ljava/lang/Object;" = some ⟨[(.object "java/lang/Object")], some (.object "java/lang/Object")⟩ := by decide +kernel
theorem own_pd11 : parseMethodDescriptor "()I" = some ⟨[], some .int⟩ := by decide +kernel
theorem own_pd12 : parseMethodDescriptor "([ILjava/util/function/IntUnaryOperator;)V" = some ⟨[(.array .int), (.object "java/util/function/IntUnaryOperator")], none⟩ := by decide +kernel
theorem own_pd13 : parseMethodDescriptor "(Lcom/example/chasebound/chasebound/chase/Relation;[IZ)V" = some ⟨[(.object "com/example/chasebound/chasebound/chase/Relation"), (.array .int), .boolean], none⟩ := by decide +kernel
theorem own_pd14 : parseMethodDescriptor "(Ljava/lang/String;I)V" = some ⟨[(.object "java/lang/String"), .int], none⟩ := by decide +kernel
theorem own_pd15 : parseMethodDescriptor "(Lcom/example/chasebound/chasebound/rules/Predicate;I)V" = some ⟨[(.object "com/example/chasebound/chasebound/rules/Predicate"), .int], none⟩ := by decide +kernel
theorem own_pd16 : parseMethodDescriptor "([I)Z" = some ⟨[(.array .int)], some .boolean⟩ := by decide +kernel
theorem own_pd17 : parseMethodDescriptor "(I)Z" = some ⟨[.int], some .boolean⟩ := by decide +kernel
abbrev ς0 : String := "com/example/chasebound/chasebound/chase/Relation"
abbrev ς1 : String := "com/example/chasebound/chasebound/chase/Relation$Index"
abbrev ς2 : String := "Lcom/example/chasebound/chasebound/chase/Relation;"
abbrev ς3 : String := "java/util/ArrayList"
abbrev ς4 : String := "com/example/chasebound/chasebound/rules/Predicate"
abbrev ς5 : String := "Lcom/example/chasebound/chasebound/chase/Relation$Index;"
abbrev ς6 : String := "java/util/AbstractList"
abbrev ς7 : String := "java/util/ArrayList$Itr"
abbrev ς8 : String := "com/example/chasebound/chasebound/chase/RelationIsLivePinLaw"
abbrev ς9 : String := "Lcom/example/chasebound/chasebound/rules/Predicate;"
abbrev ς10 : String := "Ljava/util/List;"
abbrev ρ (a : Addr) : Slot := .val (.ref a)
abbrev ι (z : Int32) : Slot := .val (.int z)
abbrev υ : Slot := .unset
theorem own_w {Z : State} {a0 : Array Value} (hw : ∀ d ∈ tables_1, d.before a0 Z = true) (i : Nat) {d : Cond} (e : tables_1[i]? = some d) : d.before a0 Z = true := hw d (List.mem_of_getElem? e)
section ownAll
variable {l : Launch} {Z : State} {a0 : Array Value} {h0 h1 : Heap} {n0 : Nat} {p : Program} {e : Env} {s : State} {m : MethodId} {args : Array Value} {below : List Frame} {meth : Method} {c : Code} {T0 : State}
/-! own layer: calls through entries that the words say resolved (methodRef) -/
section ownRef
variable {p : Program} {l : Launch} {e : Env} {R : Room} {s : State} {m : MethodId} {args : Array Value} {below : List Frame} {meth : Method} {c : Code} {T : State} {locs : List Loc} {cells slots : Nat} {Z : State} {a0 : Array Value}
theorem own_refAt {own : String} {index : Nat} {y : MethodName} {bytes : ByteArray} {ml : Nat} {ret : Option FieldType} (e : Env) (X : Stand p l e R s m args below meth c T locs cells slots) (hZ : Z.Warmed39 s.vm) (hown : s.vm.findClass own = some m.cls)
    (w1 : (Cond.methodRef own index y).before a0 Z = true) (w2 : (Cond.instanceMethod y).before a0 Z = true) (wc : (Cond.code y bytes ml ret).before a0 Z = true) (hy : y.cls ≠ "java/lang/invoke/MethodHandle" ∧ y.cls ≠ "java/lang/invoke/VarHandle") :
    ∃ mk methM, s.methodNamed? y = some mk ∧ T.vm.method? mk = some methM ∧ methM.isStatic = false ∧ methM.isAbstract = false ∧ parseMethodDescriptor y.desc = some methM.sig ∧ methM.name = y.name ∧ methM.desc = y.desc ∧ T.vm.methodReady m.cls index mk ∧ namesResolved T.vm m.cls index mk.cls ∧ (∃ k, T.vm.classes[mk.cls]? = some k ∧ k.name = y.cls) ∧ lookupSpecial T.vm mk.cls y.name y.desc = .method mk := by
  have hT : Z.Warmed39 T.vm := wtrans hZ X.warmed
  have u2 : (Cond.instanceMethod y).before a0 (Z.setVm T.vm) = true := mv (s := Z.setVm T.vm) hT w2
  obtain ⟨mk, methM, hnamed, hmethM, hstM, habM⟩ := Cond.instanceMethod_spec u2
  obtain ⟨methM', cM, hm', -, -, -, -, -, -, hsig⟩ := Cond.code_spec hnamed (mv (args := a0) (s := Z.setVm T.vm) hT wc)
  cases hmethM.symm.trans hm'
  have hnZ : Z.methodNamed? y = some mk := by rw [← State.methodNamed?_setVm hT.alike]; exact hnamed
  have r1 : (Cond.methodRef own index y).before a0 (Z.setVm T.vm) = true := Cond.methodRef_warmed39 hT hnZ hy w1
  have hcur : (Z.setVm T.vm).vm.findClass own = some m.cls := by
    show T.vm.findClass own = some m.cls
    rw [X.warmed.alike.findClass]; exact hown
  obtain ⟨m', c', hfound, hready, hfind, hnr⟩ := Cond.methodRef_named e hcur r1
  cases (State.methodFound?_of_named hnamed hy).symm.trans hfound
  cases (findClass_of_methodNamed hnamed).symm.trans hfind
  obtain ⟨k, hk, hkn⟩ := className_of_methodNamed hnamed
  have hns : s.methodNamed? y = some mk := by rw [← State.methodNamed?_setVm hZ.alike] at hnZ; exact hnZ
  obtain ⟨q1, q2⟩ := name_of_methodNamed hnamed hmethM
  exact ⟨mk, methM, hns, hmethM, hstM, habM, hsig, q1, q2, hready, hnr, ⟨k, hk, hkn⟩, lookupSpecial_of_named hnamed hmethM hstM⟩
theorem own_refPriv {own : String} {index kk : Nat} {y : MethodName} {bytes : ByteArray} {ml : Nat} {ret : Option FieldType} (X : Stand p l e R s m args below meth c T locs cells slots) (hx : p.tables.exec = Jvm.exec) (hZ : Z.Warmed39 s.vm) (hown : s.vm.findClass own = some m.cls)
    (w1 : (Cond.methodRef own index y).before a0 Z = true) (w2 : (Cond.instanceMethod y).before a0 Z = true) (wc : (Cond.code y bytes ml ret).before a0 Z = true) (wi : (Cond.instantiable y.cls kk).before a0 Z = true) (hy : y.cls ≠ "java/lang/invoke/MethodHandle" ∧ y.cls ≠ "java/lang/invoke/VarHandle") (hpriv : s.PrivateAt y)
    {W : Nat} {Pre : Pt → Array Value → Prop} {Post : Pt → Array Value → Option Value → Pt → Prop} (hK : Back l R p e below s args y 3 W Pre Post)
    {g : JFrame} (hg : g.method = m) (hsize : g.locals.size = c.maxLocals) {a : Addr} {cell : Cell} (hcell : T.heap[a]? = some cell) (hobj : ∀ q, cell.vm ≠ .statics q) {argsL rest : List Value}
    (hlen : ∀ sig, parseMethodDescriptor y.desc = some sig → argsL.length = sig.parameters.length) (hstack : g.stack = argsL.reverse ++ .ref a :: rest) (hW : 2 * g.monitorRoom + (rest.map fun v => v.category).sum ≤ W) (hdg : decode c.code g.pc = .ok (.invokevirtual index, 3)) (hpre : Pre ⟨T, locs, cells, slots⟩ (.ref a :: argsL).toArray) :
    ∃ (v : Option Value) (B : Pt), Stand p l e R s m args below meth c B.U B.locs B.cells B.slots ∧ Post ⟨T, locs, cells, slots⟩ (.ref a :: argsL).toArray v B ∧ Steps p.tables e below (T.setTop g) (B.U.setTop { g with pc := g.pc + 3, stack := v.toList ++ rest }) := by
  obtain ⟨mk, methM, hns, hmM, hst, hab, hsig, hnm, hds, hready, hnr, ⟨k, hk, hkn⟩, -⟩ := own_refAt e X hZ hown w1 w2 wc hy
  have hT : Z.Warmed39 T.vm := wtrans hZ X.warmed
  obtain ⟨c1, k1, i1, i2, -, i4, -, -⟩ := Cond.instantiable_spec (mv (args := a0) (s := Z.setVm T.vm) hT wi)
  have hcM : T.vm.findClass y.cls = some mk.cls := by
    have q := findClass_of_methodNamed hns
    rw [X.warmed.alike.findClass]; exact q
  cases hcM.symm.trans i1
  cases (show T.vm.classes[mk.cls]? = some k from hk).symm.trans i2
  have hitf : k.isInterface = false := by
    cases hi : k.isInterface
    · rfl
    · simp [hi] at i4
  have hms : s.vm.method? mk = some methM := by rw [← X.warmed.alike.method?]; exact hmM
  have hpm := hpriv mk methM hns hms
  have hsel : selectMethod e.platform T.vm cell.cls mk = .method mk := selectMethod_private hmM hpm
  have hpoly : signaturePolymorphic k methM = false := by simp [signaturePolymorphic, hkn, hy.1, hy.2]
  obtain ⟨v, B, X', hpost, hsteps⟩ := hK m meth c ⟨T, locs, cells, slots⟩ { g with stack := rest } (.invokevirtual index) mk (.ref a :: argsL).toArray X hg hsize hdg hW (X.named hns) hpre
  refine ⟨v, B, X', hpost, ?_⟩
  subst hg
  jvm_step X.here [hx, hdg, invokevirtual.wp_named (e := e) (s := T) (f := g) X.here.top hnr hk hitf hready hk hmM hpoly hst (hlen _ hsig) hstack hcell hobj hsel hmM hab hk hitf]
  intro acts
  rw [doInvoke_state]
  exact hsteps
theorem own_refInit {own : String} {index kk : Nat} {y : MethodName} {bytes : ByteArray} {ml : Nat} {ret : Option FieldType} (X : Stand p l e R s m args below meth c T locs cells slots) (hx : p.tables.exec = Jvm.exec) (hZ : Z.Warmed39 s.vm) (hown : s.vm.findClass own = some m.cls)
    (w1 : (Cond.methodRef own index y).before a0 Z = true) (w2 : (Cond.instanceMethod y).before a0 Z = true) (wc : (Cond.code y bytes ml ret).before a0 Z = true) (wi : (Cond.instantiable y.cls kk).before a0 Z = true) (hy : (y.cls ≠ "java/lang/invoke/MethodHandle" ∧ y.cls ≠ "java/lang/invoke/VarHandle") ∧ y.name = "<init>")
    {W : Nat} {Pre : Pt → Array Value → Prop} {Post : Pt → Array Value → Option Value → Pt → Prop} (hK : Back l R p e below s args y 3 W Pre Post)
    {g : JFrame} (hg : g.method = m) (hsize : g.locals.size = c.maxLocals) {a : Addr} {cell : Cell} (hcell : T.heap[a]? = some cell) (hobj : ∀ q, cell.vm ≠ .statics q) {argsL rest : List Value}
    (hlen : ∀ sig, parseMethodDescriptor y.desc = some sig → argsL.length = sig.parameters.length) (hstack : g.stack = argsL.reverse ++ .ref a :: rest) (hW : 2 * g.monitorRoom + (rest.map fun v => v.category).sum ≤ W) (hdg : decode c.code g.pc = .ok (.invokespecial index, 3)) (hpre : Pre ⟨T, locs, cells, slots⟩ (.ref a :: argsL).toArray) :
    ∃ (v : Option Value) (B : Pt), Stand p l e R s m args below meth c B.U B.locs B.cells B.slots ∧ Post ⟨T, locs, cells, slots⟩ (.ref a :: argsL).toArray v B ∧ Steps p.tables e below (T.setTop g) (B.U.setTop { g with pc := g.pc + 3, stack := v.toList ++ rest }) := by
  obtain ⟨mk, methM, hns, hmM, hst, hab, hsig, hnm, hds, hready, hnr, ⟨k, hk, hkn⟩, hlook⟩ := own_refAt e X hZ hown w1 w2 wc hy.1
  obtain ⟨v, B, X', hpost, hsteps⟩ := hK m meth c ⟨T, locs, cells, slots⟩ { g with stack := rest } (.invokespecial index) mk (.ref a :: argsL).toArray X hg hsize hdg hW (X.named hns) hpre
  refine ⟨v, B, X', hpost, ?_⟩
  subst hg
  rw [hy.2, ← hds] at hlook
  jvm_step X.here [hx, hdg, invokespecial.wp_init (e := e) (s := T) (f := g) X.here.top hnr hready hk hmM (hnm.trans hy.2) hst hab hlook (hlen _ hsig) hstack]
  intro acts
  rw [doInvoke_state]
  exact hsteps
end ownRef
section ownZ
variable {Z : State} {h : Heap} {a : Addr} {n : Nat} {f : Nat → Value} {p : Program} {l : Launch} {e : Env} {R : Room} {s : State} {m : MethodId} {args : Array Value} {below : List Frame} {meth : Method} {c : Code} {T : State} {locs : List Loc} {cells slots : Nat}
theorem own_ldZ (X : Stand p l e R s m args below meth c T locs cells slots) (hx : p.tables.exec = Jvm.exec) (hZ : Z.Warmed39 s.vm) (eT : T.heap = h) (F : own_Arf Z h a .boolean n f) {j : Int32} (h0 : ¬ j < 0) (hj : j.toNatClampNeg < n) {pc : Nat} {L : Array Slot} {rest : List Value} (hd : decode c.code pc = .ok (.baload, 1)) :
    ∀ target, Steps p.tables e below (T.setTop (mkF m (pc + 1) L (f j.toNatClampNeg :: rest))) target → Steps p.tables e below (T.setTop (mkF m pc L (.int j :: .ref a :: rest))) target := by
  obtain ⟨cl, A, hs, hn, hf⟩ := F
  intro target k
  exact X.baloadBooleans hx (j := j) (v := f j.toNatClampNeg) (by rw [eT]; exact A.1) (State.isArrayOf_alike hZ.alike A.2.1) A.2.2 (fun q => q.elim h0 (fun r => by omega)) (hf _ hj) (g := mkF m pc L (.int j :: .ref a :: rest)) rfl rfl hd _ k
theorem own_stZ (X : Stand p l e R s m args below meth c T locs cells slots) (hx : p.tables.exec = Jvm.exec) (hZ : Z.Warmed39 s.vm) (eT : T.heap = h) {g : Nat → Int32} (F : own_Arf Z h a .boolean n (fun i => .int (g i))) {j x : Int32} (h0 : ¬ j < 0) (hj : j.toNatClampNeg < n) {pc : Nat} {L : Array Slot} {rest : List Value} (hd : decode c.code pc = .ok (.bastore, 1)) :
    ∃ T' h', Stand p l e R s m args below meth c T' (locs ++ [⟨a, j.toNatClampNeg⟩]) cells slots ∧ T'.heap = h' ∧ Wr h h' a j.toNatClampNeg (.int (nar .boolean x)) ∧ own_Arf Z h' a .boolean n (fun i => .int (own_upd g j.toNatClampNeg (nar .boolean x) i)) ∧
      ∀ target, Steps p.tables e below (T'.setTop (mkF m (pc + 1) L rest)) target → Steps p.tables e below (T.setTop (mkF m pc L (.int x :: .int j :: .ref a :: rest))) target := by
  have F' := F
  obtain ⟨cl, A, hs, hn, hf⟩ := F
  obtain ⟨T', h', X', e', W, st⟩ := stZ X hx hZ eT A (j := j) (x := x) (fun q => q.elim h0 (fun r => by omega)) (g := mkF m pc L (.int x :: .int j :: .ref a :: rest)) rfl rfl hd
  exact ⟨T', h', X', e', W, F'.setI W hj, st⟩
end ownZ
/-! own layer: the one lambda (Relation.<init>, i -> i), its object old, its class made at the start -/
abbrev own_σ : Lambda.Shape := Lambda.Shape.mk "java/util/function/IntUnaryOperator" "applyAsInt" ⟨[.int], some .int⟩ [] 6 ς0 "lambda$new$0" ⟨[.int], some .int⟩ false ⟨[.int], some .int⟩
abbrev own_xi : MethodName := ⟨"java/util/function/IntUnaryOperator", "applyAsInt", "(I)I"⟩
abbrev own_ly : MethodName := ⟨ς0, "lambda$new$0", "(I)I"⟩
abbrev own_lx : MethodName := ⟨ς0, "<init>", "(Lcom/example/chasebound/chasebound/rules/Predicate;I)V"⟩
def own_fcode : ByteArray := ⟨#[0x1b, 0xb8, 0x00, 0x11, 0xac]⟩
theorem own_fwd : LamKit.fwdOK own_σ ς0 own_fcode 2 (some .int) 17 14 = true := by decide +kernel
theorem own_f0 : decode own_fcode 0 = .ok (.iload_n 1, 1) := by decide +kernel
theorem own_f1 : decode own_fcode 1 = .ok (.invokestatic 17, 3) := by decide +kernel
theorem own_f4 : decode own_fcode 4 = .ok (.ireturn, 1) := by decide +kernel
theorem own_lt0 : decode prog_23_method_10_code 0 = .ok (.iload_n 0, 1) := by decide +kernel
theorem own_lt1 : decode prog_23_method_10_code 1 = .ok (.ireturn, 1) := by decide +kernel
abbrev own_wsT : List Cond := [Cond.code own_ly prog_23_method_10_code 1 (some .int)]
theorem own_target (l : Launch) (v : Int32) : Met l own_ly own_wsT { frames := 0, cells := 0, slots := 0, locals := 0 } (fun args _ => args = #[.int v]) (fun _ s o t => o = .returned (some (.int v)) ∧ t.heap = s.heap) 0 0 (fun _ => False) := by
  refine MetFree.of_bodyS (code := prog_23_method_10_code) (maxLocals := 1) (ret := some .int) (by decide) (LamKit.hisOf (List.mem_singleton.mpr rfl)) ?_
  intro p e s m args below meth c s₁ Bd hml hP _
  obtain rfl : args = #[.int v] := hP
  have X := Stand.of_body Bd
  obtain ⟨fs, hr, hrun, hended, hW, hsame⟩ := X.leave (v := some (.int v)) (fun h => by rw [Bd.returns] at h; cases h)
  refine ⟨s₁.setFrames fs, _, ?_, hrun, hended, ⟨rfl, by rw [Bd.state]; rfl⟩, [], ⟨⟨_, rfl⟩, hW, hsame⟩, fun q hq => nomatch hq⟩
  show Steps p.tables e below (s₁.setTop (mkF m 0 #[ι v] [])) _
  refine XS.iloadN X.here Bd.exec rfl (hb Bd.bytes own_lt0) rfl ?_
  exact X.ireturnOut Bd.exec Bd.returns rfl (Or.inl rfl) (hb Bd.bytes own_lt1) hr
/-- the made class stays made under tables that may have interned (the library says it of narrower ones: Lambda.isMade_warmer) -/
theorem own_made39 {s : State} {vm' : Vm} (hW : s.Warmed39 vm') {d c : ClassId} {σ : Lambda.Shape} (h : Lambda.isMade { classPath := fun _ => none } s.vm d σ c = true) : Lambda.isMade { classPath := fun _ => none } vm' d σ c = true := by
  have hA := hW.alike
  simp only [Lambda.isMade, Option.bind_eq_bind, Option.pure_def, Option.getD_eq_iff, Option.bind_eq_some_iff, Bool.false_eq_true, and_false, or_false] at h ⊢
  obtain ⟨dk, h2, k, h3, file, h4, cf, h5, object, ho, iface, hi, ok, h6, lay, h7, methods, h8, t, ht, tk, htk, h⟩ := h
  obtain ⟨dk', h2', e2⟩ := hA.2.2 _ _ h2
  obtain ⟨k', h3', e3, -, hres, -⟩ := hW.2.2.2 _ _ h3
  obtain ⟨ok', h6', e6⟩ := hA.2.2 _ _ h6
  obtain ⟨tk', htk', e7⟩ := hA.2.2 _ _ htk
  refine ⟨dk', h2', k', h3', file, by rw [e3]; exact h4, cf, by rw [e2]; exact h5, object, by rw [hA.findClass]; exact ho, iface, by rw [hA.findClass]; exact hi, ok', h6', lay, by rw [e6]; exact h7, methods, h8, t, by rw [hA.findClass]; exact ht, tk', htk', ?_⟩
  have n7 : tk'.isInterface = tk.isInterface := by rw [e7]; rfl
  rw [n7, Lambda.methodIn_ask_alike hA, Lambda.methodIn_ask_alike hA]
  cases hg : ((methodIn t σ.implName σ.implDesc.toString tk.isInterface none).ask { classPath := fun _ => none } s.vm).1 with
  | error x => simp [hg] at h
  | ok target =>
    cases hf : ((methodIn iface σ.name σ.sam.toString true none).ask { classPath := fun _ => none } s.vm).1 with
    | error x => simp [hg, hf] at h
    | ok found =>
      simp only [hg, hf, Option.some.injEq, Bool.and_eq_true] at h ⊢
      rw [Lambda.resolvedOf_alike hA, hA.selectMethod, show dk'.name = dk.name by rw [e2], show ok'.instanceTypes = ok.instanceTypes by rw [e6]]
      generalize k'.nestHost = nh at e3
      generalize k'.nestHostError = ne at e3
      generalize k'.resolved = rs at e3 hres ⊢
      subst e3
      obtain ⟨⟨hrest, hall⟩, hlast⟩ := h
      refine ⟨⟨hrest, ?_⟩, hlast⟩
      refine List.all_eq_true.mpr fun y hy => ?_
      have q := List.all_eq_true.mp hall y hy
      obtain ⟨x, i⟩ := y
      rcases x with _ | r
      · rfl
      · have q' : k.resolved[i]? = some (some r) := by simpa using q
        have q2 : rs[i]? = some (some r) := (hres i).elim (fun e => e.trans q') (fun ⟨e, _⟩ => absurd (q'.symm.trans e) (by simp))
        simp [q2]
theorem own_madeAt {Z s : State} {cK : ClassId} {host : String} {σ : Lambda.Shape} (hZ : Z.Warmed39 s.vm) (h : LamKit.Made Z host σ cK) : LamKit.Made s host σ cK := by
  obtain ⟨d, dk, h1, h2, h3, h4⟩ := h
  obtain ⟨dk', h1', e⟩ := hZ.alike.2.2 _ _ h1
  refine ⟨d, dk', h1', by rw [e]; exact h2, own_made39 hZ h3, ?_⟩
  have hA := hZ.alike
  simp only [State.lambdaCallable, hA.findClass, hA.assignable, hA.superclasses, hA.declaredIn] at h4 ⊢
  exact h4
def own_LF (n0 : Nat) (Z : State) (h : Heap) (a : Addr) : Prop := a < n0 ∧ ∃ cK, LamKit.Made Z ς0 own_σ cK ∧ LamKit.FnAt h a cK ∧ ∃ mD kD i0 p0, Z.methodNamed? own_lx = some mD ∧ Z.vm.classes[mD.cls]? = some kD ∧ (kD.callSites.find? fun y => y.1 == mD.idx && y.2.1 == 58) = some (i0, p0, Linked.constant a)
theorem own_LF.keep {n0 : Nat} {Z : State} {h h' : Heap} {a : Addr} {ws : List Addr} (L : own_LF n0 Z h a) (K : Keep h h' ws) (hn : ∀ x ∈ ws, n0 ≤ x) : own_LF n0 Z h' a := by
  obtain ⟨hlt, cK, h1, ⟨cell, c1, c2, c3⟩, h3⟩ := L
  exact ⟨hlt, cK, h1, ⟨cell, K.2.1 _ _ c1 (fun q => Nat.lt_irrefl _ (Nat.lt_of_lt_of_le hlt (hn _ q))), c2, c3⟩, h3⟩
theorem own_LF.start {Z : State} {a0 : Array Value} (w : (Cond.lambdaSite own_lx 58 42 own_σ).before a0 Z = true) : ∃ a, own_LF Z.heap.size Z Z.heap a := by
  obtain ⟨cK, one, hat⟩ := Cond.lambdaSite_spec w
  obtain ⟨mD, kD, cfD, i0, p0, lk, hmD, hkD, -, -, -, hfind, hmade, hcan, hl⟩ := State.lambdaAt?_spec hat
  obtain ⟨kD', hkD', hnameD⟩ := className_of_methodNamed hmD
  cases hkD.symm.trans hkD'
  rcases hl with ⟨a, cell, rfl, -, -, hcell, hcls, hvm, -⟩ | ⟨-, -, hne⟩
  · exact ⟨a, (Array.getElem?_eq_some_iff.mp hcell).1, cK, ⟨_, kD, hkD, hnameD, hmade, hcan⟩, ⟨cell, hcell, hcls, hvm⟩, mD, kD, i0, p0, hmD, hkD, hfind⟩
  · exact absurd rfl hne
section ownLam
variable {p : Program} {l : Launch} {e : Env} {R : Room} {s : State} {m : MethodId} {args : Array Value} {below : List Frame} {meth : Method} {c : Code} {T : State} {locs : List Loc} {cells slots : Nat} {Z : State} {a0 : Array Value} {h : Heap} {a : Addr} {n0 : Nat}
theorem own_site (X : Stand p l e R s m args below meth c T locs cells slots) (hx : p.tables.exec = Jvm.exec) (hZ : Z.Warmed39 s.vm) (hnd : s.methodNamed? own_lx = some m) (L : own_LF n0 Z h a) {g : JFrame} (hg : g.method = m) (hpc : g.pc = 58) (hsize : g.locals.size = c.maxLocals)
    (hdg : decode c.code g.pc = .ok (.invokedynamic 42, 5)) (hwords : 2 * g.monitorRoom + (g.stack.map fun v => v.category).sum + 3072 ≤ R.locals) :
    ∀ target, Steps p.tables e below (T.setTop { g with pc := g.pc + 5, stack := .ref a :: g.stack }) target → Steps p.tables e below (T.setTop g) target := by
  obtain ⟨-, cK, -, -, mD, kD, i0, p0, hmD, hkD, hfind⟩ := L
  have e1 : s.methodNamed? own_lx = some mD := by
    have q := State.methodNamed?_setVm (s := Z) hZ.alike own_lx
    rw [hmD] at q; exact q
  cases hnd.symm.trans e1
  obtain ⟨k', hk', he⟩ := hZ.alike.2.2 _ _ hkD
  have hw : e.platform.lambdaLinkWords = 3072 := by rw [X.admits.platform]
  intro target k
  exact X.lambdaConstant hx hg hsize hdg hk' (by rw [hpc, he]; exact hfind) (by rw [hw]; exact hwords) k
theorem own_call (X : Stand p l e R s m args below meth c T locs cells slots) (hx : p.tables.exec = Jvm.exec) (hZ : Z.Warmed39 s.vm) (hw : ∀ d ∈ tables_1, d.before a0 Z = true) (hown : s.vm.findClass "java/util/Arrays" = some m.cls) (eT : T.heap = h) (L : own_LF n0 Z h a) {i : Int32} {pc : Nat} {Ls : Array Slot} {rest : List Value} (hsize : Ls.size = c.maxLocals)
    (hd : decode c.code pc = .ok (.invokeinterface 582 2, 5)) (hfr : 2 ≤ R.frames) (hlo : (rest.map fun v => v.category).sum + 25 ≤ R.locals) (hc : cells ≤ R.cells) (hsl : slots ≤ R.slots) :
    ∃ T', Stand p l e R s m args below meth c T' locs cells slots ∧ T'.heap = h ∧ ∀ target, Steps p.tables e below (T'.setTop (mkF m (pc + 5) Ls (.int i :: rest))) target → Steps p.tables e below (T.setTop (mkF m pc Ls (.int i :: .ref a :: rest))) target := by
  obtain ⟨-, cK, hmd, hfn, -⟩ := L
  have wcode : (Cond.code own_ly prog_23_method_10_code 1 (some .int)).before a0 Z = true := hw _ (List.mem_of_getElem? (i := 92) rfl)
  obtain ⟨w, st, t, T', L', X', hL, e1, e2, hq, st8⟩ := LamKit.callLamS X hx (own := "java/util/Arrays") (host := ς0) (index := 582) (count := 2) (xi := own_xi) (y := own_ly) (σ := own_σ) (own_target l i) (fun _ _ _ _ h => h) rfl rfl
    (fun w hw' a' U hU => by rw [List.mem_singleton.mp hw']; exact mvT (wtrans hZ hU) wcode) (List.mem_singleton.mpr rfl)
    hown (mvT hZ (own_w hw 88 rfl)) (mvT hZ (own_w hw 89 rfl)) (mvT hZ (own_w hw 90 rfl)) (mvT hZ wcode) (mvT hZ (own_w hw 91 rfl)) (mvT hZ (own_w hw 3 rfl)) (by decide +kernel) (by decide +kernel) (by decide) (own_madeAt hZ hmd) (by rw [eT]; exact hfn) own_fwd own_f1 own_f4
    (g := mkF m pc Ls (.int i :: .ref a :: rest)) rfl hsize (argsL := [.int i]) (argsT := [.int i]) (rest := rest) (L0 := #[ρ a, ι i])
    (fun sig h => by cases (by decide +kernel : parseMethodDescriptor own_xi.desc = some ⟨[.int], some .int⟩).symm.trans h; rfl) (fun sig h => by cases (by decide +kernel : parseMethodDescriptor own_ly.desc = some ⟨[.int], some .int⟩).symm.trans h; rfl)
    rfl hd (fun _ => rfl) rfl
    (fun U ck bl target hU hck _ _ k => XS.iloadN hU hx rfl (hb hck own_f0) rfl k)
    (fun st w t h => by cases h.1; exact Or.inl ⟨.int, _, rfl, Or.inl rfl, rfl, rfl, rfl⟩) hfr (by show 2 * 0 + _ + (2 + 11) + (1 + 11 + 0) ≤ _; omega) hc hsl (fun _ _ _ => rfl)
  obtain ⟨q1, q2⟩ := hq
  cases q1
  have X'' := Stand.forget (extra := L') X' (fun q hq => (hL q hq).elim)
  exact ⟨T', X'', by rw [e1, q2, e2, eT], st8⟩
end ownLam
theorem own_metN {l : Launch} {Z : State} {a0 : Array Value} (hw : ∀ d ∈ tables_1, d.before a0 Z = true) {y : MethodName} {bytes : ByteArray} {ml : Nat} {ret : Option FieldType} {ws : List Jvm.Cond} {rm : Room} {as' : Array Value} {h0 : Heap} {Q : Option Value → Heap → List Loc → Prop} (hpl : plainFor y = true)
    (body : ∀ p e s m below meth c s₁, own_Cx p s m meth c Z a0 bytes ml y.cls y.name ret → Stand p l e rm s m as' below meth c s₁ [] 0 0 → s₁.heap = h0 → s.methodNamed? y = some m → own_Dn p e below s Q rm.cells rm.slots (s₁.setTop (entryFrame m as' ml))) :
    MetFree l y (head1 (Jvm.Cond.code y bytes ml ret :: ws) rm) (fun a U => a = as' ∧ Z.Warmed39 U.vm ∧ U.heap = h0) (fun _ _ _ _ _ => True) (fun _ U o U' => ∃ v L, o = .returned v ∧ Q v U'.heap L ∧ FrameEnd U o U' L rm.cells rm.slots) := by
  refine MetFree.of_bodySF hpl hisR ?_
  intro p e s m args below meth c s₁ Bd hml0 hP hK
  obtain ⟨rfl, hZ, hh⟩ := hP
  exact body p e s m below meth c s₁ ⟨Bd.exec, hZ, hw, Bd.bytes, hml0, findClass_of_methodNamed Bd.named, Bd.returns, BodyLoose.notSynchronized Bd, (name_of_methodNamed Bd.named Bd.method).1⟩ (Stand.of_body Bd) (by rw [← hh, Bd.state]; rfl) Bd.named
theorem mx_d0 : decode jdk_29_method_65_code 0 = .ok (.iload_n 0, 1) := by decide +kernel
theorem mx_d1 : decode jdk_29_method_65_code 1 = .ok (.iload_n 1, 1) := by decide +kernel
theorem mx_d2 : decode jdk_29_method_65_code 2 = .ok (.if_icmp .lt 7, 3) := by decide +kernel
theorem mx_d5 : decode jdk_29_method_65_code 5 = .ok (.iload_n 0, 1) := by decide +kernel
theorem mx_d6 : decode jdk_29_method_65_code 6 = .ok (.goto 4, 3) := by decide +kernel
theorem mx_d9 : decode jdk_29_method_65_code 9 = .ok (.iload_n 1, 1) := by decide +kernel
theorem mx_d10 : decode jdk_29_method_65_code 10 = .ok (.ireturn, 1) := by decide +kernel
def mx_f (p0 : Int32) (p1 : Int32)  : Int32 :=
  if p0 < p1 then
    p1
  else
    p0
set_option maxRecDepth 65536 in
set_option maxHeartbeats 40000000 in
theorem mx_c0 {p0 : Int32} {p1 : Int32} {locs : List Loc} {r0 : Int32} (C0 : own_Cx p s m meth c Z a0 jdk_29_method_65_code 2 "java/lang/Math" "max" (some .int)) (X0 : Stand p l e ({ frames := 0, cells := 0, slots := 0, locals := 0 } : Room) s m args below meth c T0 locs 0 0) (e0 : T0.heap = h0) (N0 : Fr n0 locs)  (hr0 : r0 = mx_f p0 p1 ) :
    own_Dn p e below s (own_Q (some (.int r0)) n0 h0) ({ frames := 0, cells := 0, slots := 0, locals := 0 } : Room).cells ({ frames := 0, cells := 0, slots := 0, locals := 0 } : Room).slots (T0.setTop (mkF m 0 #[ι p0, ι p1] [])) := by
  obtain ⟨hx, hZ, hw, hby, hml, hown, hret, hlk, hnm⟩ := id C0
  refine own_st (fun _ k => XS.iloadN X0.here hx rfl (hb hby mx_d0) rfl (XS.iloadN X0.here hx rfl (hb hby mx_d1) rfl k)) ?_
  show own_Dn p e below s _ _ _ (T0.setTop (mkF m 2 #[ι p0, ι p1] [(.int p1), (.int p0)]))
  by_cases hc2 : p0 < p1
  · refine own_st (fun _ k => XS.icmpYes X0.here hx rfl (pc0 := 2) (pc' := 9) rfl (hb hby mx_d2) rfl (tlt hc2).1 (by decide) (by decide) k) ?_
    show own_Dn p e below s _ _ _ (T0.setTop (mkF m 9 #[ι p0, ι p1] []))
    refine own_st (fun _ k => XS.iloadN X0.here hx rfl (hb hby mx_d9) rfl k) ?_
    show own_Dn p e below s _ _ _ (T0.setTop (mkF m 10 #[ι p0, ι p1] [(.int p1)]))
    exact own_retI X0 hx hret hlk (hb hby mx_d10) (by decide) (by decide) ⟨(by rw [hr0, mx_f, if_pos hc2]), N0, e0⟩
  · refine own_st (fun _ k => XS.icmpNo X0.here hx rfl (hb hby mx_d2) rfl (flt hc2).1 k) ?_
    show own_Dn p e below s _ _ _ (T0.setTop (mkF m 5 #[ι p0, ι p1] []))
    refine own_st (fun _ k => XS.iloadN X0.here hx rfl (hb hby mx_d5) rfl (XS.goto X0.here hx rfl (pc0 := 6) (pc' := 10) rfl (hb hby mx_d6) (by decide) (by decide) k)) ?_
    show own_Dn p e below s _ _ _ (T0.setTop (mkF m 10 #[ι p0, ι p1] [(.int p0)]))
    exact own_retI X0 hx hret hlk (hb hby mx_d10) (by decide) (by decide) ⟨(by rw [hr0, mx_f, if_neg hc2]), N0, e0⟩
theorem mx_ef (m : MethodId) (p0 : Int32) (p1 : Int32) : entryFrame m #[(.int p0), (.int p1)] 2 = mkF m 0 #[.val (.int p0), .val (.int p1)] [] := by first | (simp [entryFrame, mkF, argsToLocals, Value.category]; done) | rfl
theorem mx_rm (l : Launch) (Z : State) (a0 : Array Value) (hw : ∀ d ∈ tables_1, d.before a0 Z = true) (ws : List Jvm.Cond) (p0 : Int32) (p1 : Int32) (h0 : Heap) (n0 : Nat) :
    MetFree l (⟨"java/lang/Math", "max", "(II)I"⟩ : MethodName) (head1 (Jvm.Cond.code (⟨"java/lang/Math", "max", "(II)I"⟩ : MethodName) jdk_29_method_65_code 2 (some .int) :: ws) ({ frames := 0, cells := 0, slots := 0, locals := 0 } : Room)) (fun a U => a = #[(.int p0), (.int p1)] ∧ Z.Warmed39 U.vm ∧ U.heap = h0) (fun _ _ _ _ _ => True) (fun _ U o U' => ∃ v L, o = .returned v ∧ (own_Q (some (.int (mx_f p0 p1))) n0 h0) v U'.heap L ∧ FrameEnd U o U' L ({ frames := 0, cells := 0, slots := 0, locals := 0 } : Room).cells ({ frames := 0, cells := 0, slots := 0, locals := 0 } : Room).slots) :=
  own_met hw (Jvm.Free.JP.mathPlain rfl (by decide +kernel)) (fun p e s m below meth c T0 C0 X0 e0 => own_st (fun _ k => castTop (mx_ef m p0 p1) k) (mx_c0 C0 X0 e0 (Fr.nil n0) rfl))
theorem mi_d0 : decode prog_17_method_2_code 0 = .ok (.iload_n 0, 1) := by decide +kernel
theorem mi_d1 : decode prog_17_method_2_code 1 = .ok (.istore_n 1, 1) := by decide +kernel
theorem mi_d2 : decode prog_17_method_2_code 2 = .ok (.iload_n 1, 1) := by decide +kernel
theorem mi_d3 : decode prog_17_method_2_code 3 = .ok (.iload_n 1, 1) := by decide +kernel
theorem mi_d4 : decode prog_17_method_2_code 4 = .ok (.bipush 16, 2) := by decide +kernel
theorem mi_d6 : decode prog_17_method_2_code 6 = .ok (.iushr, 1) := by decide +kernel
theorem mi_d7 : decode prog_17_method_2_code 7 = .ok (.ixor, 1) := by decide +kernel
theorem mi_d8 : decode prog_17_method_2_code 8 = .ok (.istore_n 1, 1) := by decide +kernel
theorem mi_d9 : decode prog_17_method_2_code 9 = .ok (.iload_n 1, 1) := by decide +kernel
theorem mi_d10 : decode prog_17_method_2_code 10 = .ok (.ldc 7, 2) := by decide +kernel
theorem mi_d12 : decode prog_17_method_2_code 12 = .ok (.imul, 1) := by decide +kernel
theorem mi_d13 : decode prog_17_method_2_code 13 = .ok (.istore_n 1, 1) := by decide +kernel
theorem mi_d14 : decode prog_17_method_2_code 14 = .ok (.iload_n 1, 1) := by decide +kernel
theorem mi_d15 : decode prog_17_method_2_code 15 = .ok (.iload_n 1, 1) := by decide +kernel
theorem mi_d16 : decode prog_17_method_2_code 16 = .ok (.bipush 13, 2) := by decide +kernel
theorem mi_d18 : decode prog_17_method_2_code 18 = .ok (.iushr, 1) := by decide +kernel
theorem mi_d19 : decode prog_17_method_2_code 19 = .ok (.ixor, 1) := by decide +kernel
theorem mi_d20 : decode prog_17_method_2_code 20 = .ok (.istore_n 1, 1) := by decide +kernel
theorem mi_d21 : decode prog_17_method_2_code 21 = .ok (.iload_n 1, 1) := by decide +kernel
theorem mi_d22 : decode prog_17_method_2_code 22 = .ok (.ldc 8, 2) := by decide +kernel
theorem mi_d24 : decode prog_17_method_2_code 24 = .ok (.imul, 1) := by decide +kernel
theorem mi_d25 : decode prog_17_method_2_code 25 = .ok (.istore_n 1, 1) := by decide +kernel
theorem mi_d26 : decode prog_17_method_2_code 26 = .ok (.iload_n 1, 1) := by decide +kernel
theorem mi_d27 : decode prog_17_method_2_code 27 = .ok (.iload_n 1, 1) := by decide +kernel
theorem mi_d28 : decode prog_17_method_2_code 28 = .ok (.bipush 16, 2) := by decide +kernel
theorem mi_d30 : decode prog_17_method_2_code 30 = .ok (.iushr, 1) := by decide +kernel
theorem mi_d31 : decode prog_17_method_2_code 31 = .ok (.ixor, 1) := by decide +kernel
theorem mi_d32 : decode prog_17_method_2_code 32 = .ok (.istore_n 1, 1) := by decide +kernel
theorem mi_d33 : decode prog_17_method_2_code 33 = .ok (.iload_n 1, 1) := by decide +kernel
theorem mi_d34 : decode prog_17_method_2_code 34 = .ok (.ireturn, 1) := by decide +kernel
def mi_f (p0 : Int32)  : Int32 :=
  (((((p0 ^^^ ((p0.toUInt32 >>> ((16 : Int32) &&& 31).toUInt32).toInt32)) * (-2048144789 : Int32)) ^^^ ((((p0 ^^^ ((p0.toUInt32 >>> ((16 : Int32) &&& 31).toUInt32).toInt32)) * (-2048144789 : Int32)).toUInt32 >>> ((13 : Int32) &&& 31).toUInt32).toInt32)) * (-1028477387 : Int32)) ^^^ ((((((p0 ^^^ ((p0.toUInt32 >>> ((16 : Int32) &&& 31).toUInt32).toInt32)) * (-2048144789 : Int32)) ^^^ ((((p0 ^^^ ((p0.toUInt32 >>> ((16 : Int32) &&& 31).toUInt32).toInt32)) * (-2048144789 : Int32)).toUInt32 >>> ((13 : Int32) &&& 31).toUInt32).toInt32)) * (-1028477387 : Int32)).toUInt32 >>> ((16 : Int32) &&& 31).toUInt32).toInt32))
set_option maxRecDepth 65536 in
set_option maxHeartbeats 40000000 in
theorem mi_c0 {p0 : Int32} {locs : List Loc} {r0 : Int32} (C0 : own_Cx p s m meth c Z a0 prog_17_method_2_code 2 "com/example/chasebound/chasebound/chase/Hashing" "mix" (some .int)) (X0 : Stand p l e ({ frames := 0, cells := 0, slots := 0, locals := 0 } : Room) s m args below meth c T0 locs 0 0) (e0 : T0.heap = h0) (N0 : Fr n0 locs)  (hr0 : r0 = mi_f p0 ) :
    own_Dn p e below s (own_Q (some (.int r0)) n0 h0) ({ frames := 0, cells := 0, slots := 0, locals := 0 } : Room).cells ({ frames := 0, cells := 0, slots := 0, locals := 0 } : Room).slots (T0.setTop (mkF m 0 #[ι p0, υ] [])) := by
  obtain ⟨hx, hZ, hw, hby, hml, hown, hret, hlk, hnm⟩ := id C0
  refine own_st (fun _ k => XS.iloadN X0.here hx rfl (hb hby mi_d0) rfl (XS.istoreN X0.here hx rfl (hb hby mi_d1) rfl (l' := #[ι p0, ι p0]) rfl (XS.iloadN X0.here hx rfl (hb hby mi_d2) rfl (XS.iloadN X0.here hx rfl (hb hby mi_d3) rfl (XS.bipush X0.here hx rfl (hb hby mi_d4) (XS.iushr X0.here hx rfl (hb hby mi_d6) rfl (XS.ixor X0.here hx rfl (hb hby mi_d7) rfl (XS.istoreN X0.here hx rfl (hb hby mi_d8) rfl (l' := #[ι p0, .val (.int (p0 ^^^ ((p0.toUInt32 >>> ((16 : Int32) &&& 31).toUInt32).toInt32)))]) rfl (XS.iloadN X0.here hx rfl (hb hby mi_d9) rfl (X0.ldcInt hx (index := 7) (v := (-2048144789 : Int32)) hown (mvT hZ (own_w hw 132 rfl)) (g := (mkF m 10 #[ι p0, .val (.int (p0 ^^^ ((p0.toUInt32 >>> ((16 : Int32) &&& 31).toUInt32).toInt32)))] [(.int (p0 ^^^ ((p0.toUInt32 >>> ((16 : Int32) &&& 31).toUInt32).toInt32)))])) rfl (hb hby mi_d10) _ (XS.imul X0.here hx rfl (hb hby mi_d12) rfl (XS.istoreN X0.here hx rfl (hb hby mi_d13) rfl (l' := #[ι p0, .val (.int ((p0 ^^^ ((p0.toUInt32 >>> ((16 : Int32) &&& 31).toUInt32).toInt32)) * (-2048144789 : Int32)))]) rfl (XS.iloadN X0.here hx rfl (hb hby mi_d14) rfl (XS.iloadN X0.here hx rfl (hb hby mi_d15) rfl (XS.bipush X0.here hx rfl (hb hby mi_d16) (XS.iushr X0.here hx rfl (hb hby mi_d18) rfl (XS.ixor X0.here hx rfl (hb hby mi_d19) rfl (XS.istoreN X0.here hx rfl (hb hby mi_d20) rfl (l' := #[ι p0, .val (.int (((p0 ^^^ ((p0.toUInt32 >>> ((16 : Int32) &&& 31).toUInt32).toInt32)) * (-2048144789 : Int32)) ^^^ ((((p0 ^^^ ((p0.toUInt32 >>> ((16 : Int32) &&& 31).toUInt32).toInt32)) * (-2048144789 : Int32)).toUInt32 >>> ((13 : Int32) &&& 31).toUInt32).toInt32)))]) rfl (XS.iloadN X0.here hx rfl (hb hby mi_d21) rfl (X0.ldcInt hx (index := 8) (v := (-1028477387 : Int32)) hown (mvT hZ (own_w hw 133 rfl)) (g := (mkF m 22 #[ι p0, .val (.int (((p0 ^^^ ((p0.toUInt32 >>> ((16 : Int32) &&& 31).toUInt32).toInt32)) * (-2048144789 : Int32)) ^^^ ((((p0 ^^^ ((p0.toUInt32 >>> ((16 : Int32) &&& 31).toUInt32).toInt32)) * (-2048144789 : Int32)).toUInt32 >>> ((13 : Int32) &&& 31).toUInt32).toInt32)))] [(.int (((p0 ^^^ ((p0.toUInt32 >>> ((16 : Int32) &&& 31).toUInt32).toInt32)) * (-2048144789 : Int32)) ^^^ ((((p0 ^^^ ((p0.toUInt32 >>> ((16 : Int32) &&& 31).toUInt32).toInt32)) * (-2048144789 : Int32)).toUInt32 >>> ((13 : Int32) &&& 31).toUInt32).toInt32)))])) rfl (hb hby mi_d22) _ (XS.imul X0.here hx rfl (hb hby mi_d24) rfl (XS.istoreN X0.here hx rfl (hb hby mi_d25) rfl (l' := #[ι p0, .val (.int ((((p0 ^^^ ((p0.toUInt32 >>> ((16 : Int32) &&& 31).toUInt32).toInt32)) * (-2048144789 : Int32)) ^^^ ((((p0 ^^^ ((p0.toUInt32 >>> ((16 : Int32) &&& 31).toUInt32).toInt32)) * (-2048144789 : Int32)).toUInt32 >>> ((13 : Int32) &&& 31).toUInt32).toInt32)) * (-1028477387 : Int32)))]) rfl (XS.iloadN X0.here hx rfl (hb hby mi_d26) rfl (XS.iloadN X0.here hx rfl (hb hby mi_d27) rfl k)))))))))))))))))))))))) ?_
  show own_Dn p e below s _ _ _ (T0.setTop (mkF m 28 #[ι p0, .val (.int ((((p0 ^^^ ((p0.toUInt32 >>> ((16 : Int32) &&& 31).toUInt32).toInt32)) * (-2048144789 : Int32)) ^^^ ((((p0 ^^^ ((p0.toUInt32 >>> ((16 : Int32) &&& 31).toUInt32).toInt32)) * (-2048144789 : Int32)).toUInt32 >>> ((13 : Int32) &&& 31).toUInt32).toInt32)) * (-1028477387 : Int32)))] [(.int ((((p0 ^^^ ((p0.toUInt32 >>> ((16 : Int32) &&& 31).toUInt32).toInt32)) * (-2048144789 : Int32)) ^^^ ((((p0 ^^^ ((p0.toUInt32 >>> ((16 : Int32) &&& 31).toUInt32).toInt32)) * (-2048144789 : Int32)).toUInt32 >>> ((13 : Int32) &&& 31).toUInt32).toInt32)) * (-1028477387 : Int32))), (.int ((((p0 ^^^ ((p0.toUInt32 >>> ((16 : Int32) &&& 31).toUInt32).toInt32)) * (-2048144789 : Int32)) ^^^ ((((p0 ^^^ ((p0.toUInt32 >>> ((16 : Int32) &&& 31).toUInt32).toInt32)) * (-2048144789 : Int32)).toUInt32 >>> ((13 : Int32) &&& 31).toUInt32).toInt32)) * (-1028477387 : Int32)))]))
  refine own_st (fun _ k => XS.bipush X0.here hx rfl (hb hby mi_d28) (XS.iushr X0.here hx rfl (hb hby mi_d30) rfl (XS.ixor X0.here hx rfl (hb hby mi_d31) rfl (XS.istoreN X0.here hx rfl (hb hby mi_d32) rfl (l' := #[ι p0, .val (.int (((((p0 ^^^ ((p0.toUInt32 >>> ((16 : Int32) &&& 31).toUInt32).toInt32)) * (-2048144789 : Int32)) ^^^ ((((p0 ^^^ ((p0.toUInt32 >>> ((16 : Int32) &&& 31).toUInt32).toInt32)) * (-2048144789 : Int32)).toUInt32 >>> ((13 : Int32) &&& 31).toUInt32).toInt32)) * (-1028477387 : Int32)) ^^^ ((((((p0 ^^^ ((p0.toUInt32 >>> ((16 : Int32) &&& 31).toUInt32).toInt32)) * (-2048144789 : Int32)) ^^^ ((((p0 ^^^ ((p0.toUInt32 >>> ((16 : Int32) &&& 31).toUInt32).toInt32)) * (-2048144789 : Int32)).toUInt32 >>> ((13 : Int32) &&& 31).toUInt32).toInt32)) * (-1028477387 : Int32)).toUInt32 >>> ((16 : Int32) &&& 31).toUInt32).toInt32)))]) rfl (XS.iloadN X0.here hx rfl (hb hby mi_d33) rfl k))))) ?_
  show own_Dn p e below s _ _ _ (T0.setTop (mkF m 34 #[ι p0, .val (.int (((((p0 ^^^ ((p0.toUInt32 >>> ((16 : Int32) &&& 31).toUInt32).toInt32)) * (-2048144789 : Int32)) ^^^ ((((p0 ^^^ ((p0.toUInt32 >>> ((16 : Int32) &&& 31).toUInt32).toInt32)) * (-2048144789 : Int32)).toUInt32 >>> ((13 : Int32) &&& 31).toUInt32).toInt32)) * (-1028477387 : Int32)) ^^^ ((((((p0 ^^^ ((p0.toUInt32 >>> ((16 : Int32) &&& 31).toUInt32).toInt32)) * (-2048144789 : Int32)) ^^^ ((((p0 ^^^ ((p0.toUInt32 >>> ((16 : Int32) &&& 31).toUInt32).toInt32)) * (-2048144789 : Int32)).toUInt32 >>> ((13 : Int32) &&& 31).toUInt32).toInt32)) * (-1028477387 : Int32)).toUInt32 >>> ((16 : Int32) &&& 31).toUInt32).toInt32)))] [(.int (((((p0 ^^^ ((p0.toUInt32 >>> ((16 : Int32) &&& 31).toUInt32).toInt32)) * (-2048144789 : Int32)) ^^^ ((((p0 ^^^ ((p0.toUInt32 >>> ((16 : Int32) &&& 31).toUInt32).toInt32)) * (-2048144789 : Int32)).toUInt32 >>> ((13 : Int32) &&& 31).toUInt32).toInt32)) * (-1028477387 : Int32)) ^^^ ((((((p0 ^^^ ((p0.toUInt32 >>> ((16 : Int32) &&& 31).toUInt32).toInt32)) * (-2048144789 : Int32)) ^^^ ((((p0 ^^^ ((p0.toUInt32 >>> ((16 : Int32) &&& 31).toUInt32).toInt32)) * (-2048144789 : Int32)).toUInt32 >>> ((13 : Int32) &&& 31).toUInt32).toInt32)) * (-1028477387 : Int32)).toUInt32 >>> ((16 : Int32) &&& 31).toUInt32).toInt32)))]))
  exact own_retI X0 hx hret hlk (hb hby mi_d34) (by decide) (by decide) ⟨(by rw [hr0, mi_f]), N0, e0⟩
theorem mi_ef (m : MethodId) (p0 : Int32) : entryFrame m #[(.int p0)] 2 = mkF m 0 #[.val (.int p0), .unset] [] := by first | (simp [entryFrame, mkF, argsToLocals, Value.category]; done) | rfl
theorem mi_rm (l : Launch) (Z : State) (a0 : Array Value) (hw : ∀ d ∈ tables_1, d.before a0 Z = true) (ws : List Jvm.Cond) (p0 : Int32) (h0 : Heap) (n0 : Nat) :
    MetFree l (⟨"com/example/chasebound/chasebound/chase/Hashing", "mix", "(I)I"⟩ : MethodName) (head1 (Jvm.Cond.code (⟨"com/example/chasebound/chasebound/chase/Hashing", "mix", "(I)I"⟩ : MethodName) prog_17_method_2_code 2 (some .int) :: ws) ({ frames := 0, cells := 0, slots := 0, locals := 0 } : Room)) (fun a U => a = #[(.int p0)] ∧ Z.Warmed39 U.vm ∧ U.heap = h0) (fun _ _ _ _ _ => True) (fun _ U o U' => ∃ v L, o = .returned v ∧ (own_Q (some (.int (mi_f p0))) n0 h0) v U'.heap L ∧ FrameEnd U o U' L ({ frames := 0, cells := 0, slots := 0, locals := 0 } : Room).cells ({ frames := 0, cells := 0, slots := 0, locals := 0 } : Room).slots) :=
  own_met hw (plainFor_of_name (by first | (simp [plainName, overriddenIn]; done) | decide +kernel)) (fun p e s m below meth c T0 C0 X0 e0 => own_st (fun _ k => castTop (mi_ef m p0) k) (mi_c0 C0 X0 e0 (Fr.nil n0) rfl))
theorem ha_d0 : decode prog_24_method_11_code 0 = .ok (.iconst 0, 1) := by decide +kernel
theorem ha_d1 : decode prog_24_method_11_code 1 = .ok (.istore_n 1, 1) := by decide +kernel
theorem ha_d2 : decode prog_24_method_11_code 2 = .ok (.aload_n 0, 1) := by decide +kernel
theorem ha_d3 : decode prog_24_method_11_code 3 = .ok (.astore_n 2, 1) := by decide +kernel
theorem ha_d4 : decode prog_24_method_11_code 4 = .ok (.aload_n 2, 1) := by decide +kernel
theorem ha_d5 : decode prog_24_method_11_code 5 = .ok (.arraylength, 1) := by decide +kernel
theorem ha_d6 : decode prog_24_method_11_code 6 = .ok (.istore_n 3, 1) := by decide +kernel
theorem ha_d7 : decode prog_24_method_11_code 7 = .ok (.iconst 0, 1) := by decide +kernel
theorem ha_d8 : decode prog_24_method_11_code 8 = .ok (.istore 4, 2) := by decide +kernel
theorem ha_d10 : decode prog_24_method_11_code 10 = .ok (.iload 4, 2) := by decide +kernel
theorem ha_d12 : decode prog_24_method_11_code 12 = .ok (.iload_n 3, 1) := by decide +kernel
theorem ha_d13 : decode prog_24_method_11_code 13 = .ok (.if_icmp .ge 23, 3) := by decide +kernel
theorem ha_d16 : decode prog_24_method_11_code 16 = .ok (.aload_n 2, 1) := by decide +kernel
theorem ha_d17 : decode prog_24_method_11_code 17 = .ok (.iload 4, 2) := by decide +kernel
theorem ha_d19 : decode prog_24_method_11_code 19 = .ok (.iaload, 1) := by decide +kernel
theorem ha_d20 : decode prog_24_method_11_code 20 = .ok (.istore 5, 2) := by decide +kernel
theorem ha_d22 : decode prog_24_method_11_code 22 = .ok (.ldc 72, 2) := by decide +kernel
theorem ha_d24 : decode prog_24_method_11_code 24 = .ok (.iload_n 1, 1) := by decide +kernel
theorem ha_d25 : decode prog_24_method_11_code 25 = .ok (.imul, 1) := by decide +kernel
theorem ha_d26 : decode prog_24_method_11_code 26 = .ok (.iload 5, 2) := by decide +kernel
theorem ha_d28 : decode prog_24_method_11_code 28 = .ok (.iadd, 1) := by decide +kernel
theorem ha_d29 : decode prog_24_method_11_code 29 = .ok (.istore_n 1, 1) := by decide +kernel
theorem ha_d30 : decode prog_24_method_11_code 30 = .ok (.iinc 4 1, 3) := by decide +kernel
theorem ha_d33 : decode prog_24_method_11_code 33 = .ok (.goto (-23), 3) := by decide +kernel
theorem ha_d36 : decode prog_24_method_11_code 36 = .ok (.iload_n 1, 1) := by decide +kernel
theorem ha_d37 : decode prog_24_method_11_code 37 = .ok (.invokestatic 73, 3) := by decide +kernel
theorem ha_d40 : decode prog_24_method_11_code 40 = .ok (.ireturn, 1) := by decide +kernel
def ha_f (w_K : Nat → Int32)  : Int32 :=
  (mi_f (((-1640531535 : Int32) * (0 : Int32)) + (w_K ((0 : Int32)).toNatClampNeg)))
set_option maxRecDepth 65536 in
set_option maxHeartbeats 40000000 in
theorem ha_c0 {b0 : Addr} {w_K : Nat → Int32} {locs : List Loc} {r0 : Int32} (C0 : own_Cx p s m meth c Z a0 prog_24_method_11_code 6 ς1 "hash" (some .int)) (X0 : Stand p l e ({ frames := 1, cells := 0, slots := 0, locals := 13 } : Room) s m args below meth c T0 locs 0 0) (e0 : T0.heap = h0) (N0 : Fr n0 locs)  (Z0 : n0 ≤ h0.size) (P0 : own_Arf Z h0 b0 .int 1 (fun i => (.int (w_K i)))) (hr0 : r0 = ha_f w_K ) :
    own_Dn p e below s (own_Q (some (.int r0)) n0 h0) ({ frames := 1, cells := 0, slots := 0, locals := 13 } : Room).cells ({ frames := 1, cells := 0, slots := 0, locals := 13 } : Room).slots (T0.setTop (mkF m 0 #[ρ b0, υ, υ, υ, υ, υ] [])) := by
  obtain ⟨hx, hZ, hw, hby, hml, hown, hret, hlk, hnm⟩ := id C0
  refine own_st (fun _ k => XS.iconst X0.here hx rfl (hb hby ha_d0) (XS.istoreN X0.here hx rfl (hb hby ha_d1) rfl (l' := #[ρ b0, ι 0, υ, υ, υ, υ]) rfl (XS.aloadN X0.here hx rfl (hb hby ha_d2) rfl rfl (XS.astoreN X0.here hx rfl (hb hby ha_d3) rfl rfl (l' := #[ρ b0, ι 0, ρ b0, υ, υ, υ]) rfl (XS.aloadN X0.here hx rfl (hb hby ha_d4) rfl rfl k))))) ?_
  show own_Dn p e below s _ _ _ (T0.setTop (mkF m 5 #[ρ b0, ι 0, ρ b0, υ, υ, υ] [(.ref b0)]))
  refine own_st (own_len (pc := 5) (L := #[ρ b0, ι 0, ρ b0, υ, υ, υ]) (rest := []) X0 hx hZ e0 P0 (z := (1 : Int32)) rfl (hb hby ha_d5)) ?_
  show own_Dn p e below s _ _ _ (T0.setTop (mkF m 6 #[ρ b0, ι 0, ρ b0, υ, υ, υ] [(.int 1)]))
  refine own_st (fun _ k => XS.istoreN X0.here hx rfl (hb hby ha_d6) rfl (l' := #[ρ b0, ι 0, ρ b0, ι 1, υ, υ]) rfl (XS.iconst X0.here hx rfl (hb hby ha_d7) (XS.istore X0.here hx rfl (hb hby ha_d8) rfl (l' := #[ρ b0, ι 0, ρ b0, ι 1, ι 0, υ]) rfl (XS.iload X0.here hx rfl (hb hby ha_d10) rfl (XS.iloadN X0.here hx rfl (hb hby ha_d12) rfl k))))) ?_
  show own_Dn p e below s _ _ _ (T0.setTop (mkF m 13 #[ρ b0, ι 0, ρ b0, ι 1, ι 0, υ] [(.int 1), (.int 0)]))
  refine own_st (fun _ k => XS.icmpNo X0.here hx rfl (hb hby ha_d13) rfl (tlt (by decide : (0 : Int32) < (1 : Int32))).2.1 k) ?_
  show own_Dn p e below s _ _ _ (T0.setTop (mkF m 16 #[ρ b0, ι 0, ρ b0, ι 1, ι 0, υ] []))
  refine own_st (fun _ k => XS.aloadN X0.here hx rfl (hb hby ha_d16) rfl rfl (XS.iload X0.here hx rfl (hb hby ha_d17) rfl k)) ?_
  show own_Dn p e below s _ _ _ (T0.setTop (mkF m 19 #[ρ b0, ι 0, ρ b0, ι 1, ι 0, υ] [(.int 0), (.ref b0)]))
  refine own_st (own_ldI (pc := 19) (L := #[ρ b0, ι 0, ρ b0, ι 1, ι 0, υ]) (rest := []) X0 hx hZ e0 P0 (j := (0 : Int32)) (by decide) (by decide) (hb hby ha_d19)) ?_
  show own_Dn p e below s _ _ _ (T0.setTop (mkF m 20 #[ρ b0, ι 0, ρ b0, ι 1, ι 0, υ] [(.int (w_K ((0 : Int32)).toNatClampNeg))]))
  refine own_st (fun _ k => XS.istore X0.here hx rfl (hb hby ha_d20) rfl (l' := #[ρ b0, ι 0, ρ b0, ι 1, ι 0, .val (.int (w_K ((0 : Int32)).toNatClampNeg))]) rfl (X0.ldcInt hx (index := 72) (v := (-1640531535 : Int32)) hown (mvT hZ (own_w hw 127 rfl)) (g := (mkF m 22 #[ρ b0, ι 0, ρ b0, ι 1, ι 0, .val (.int (w_K ((0 : Int32)).toNatClampNeg))] [])) rfl (hb hby ha_d22) _ (XS.iloadN X0.here hx rfl (hb hby ha_d24) rfl (XS.imul X0.here hx rfl (hb hby ha_d25) rfl (XS.iload X0.here hx rfl (hb hby ha_d26) rfl (XS.iadd X0.here hx rfl (hb hby ha_d28) rfl (XS.istoreN X0.here hx rfl (hb hby ha_d29) rfl (l' := #[ρ b0, .val (.int (((-1640531535 : Int32) * (0 : Int32)) + (w_K ((0 : Int32)).toNatClampNeg))), ρ b0, ι 1, ι 0, .val (.int (w_K ((0 : Int32)).toNatClampNeg))]) rfl (XS.iinc X0.here hx rfl (hb hby ha_d30) rfl (l' := #[ρ b0, .val (.int (((-1640531535 : Int32) * (0 : Int32)) + (w_K ((0 : Int32)).toNatClampNeg))), ρ b0, ι 1, ι 1, .val (.int (w_K ((0 : Int32)).toNatClampNeg))]) rfl (XS.goto X0.here hx rfl (pc0 := 33) (pc' := 10) rfl (hb hby ha_d33) (by decide) (by decide) (XS.iload X0.here hx rfl (hb hby ha_d10) rfl (XS.iloadN X0.here hx rfl (hb hby ha_d12) rfl k))))))))))) ?_
  show own_Dn p e below s _ _ _ (T0.setTop (mkF m 13 #[ρ b0, .val (.int (((-1640531535 : Int32) * (0 : Int32)) + (w_K ((0 : Int32)).toNatClampNeg))), ρ b0, ι 1, ι 1, .val (.int (w_K ((0 : Int32)).toNatClampNeg))] [(.int 1), (.int 1)]))
  refine own_st (fun _ k => XS.icmpYes X0.here hx rfl (pc0 := 13) (pc' := 36) rfl (hb hby ha_d13) rfl (flt (by decide : ¬ ((1 : Int32) < (1 : Int32)))).2.1 (by decide) (by decide) k) ?_
  show own_Dn p e below s _ _ _ (T0.setTop (mkF m 36 #[ρ b0, .val (.int (((-1640531535 : Int32) * (0 : Int32)) + (w_K ((0 : Int32)).toNatClampNeg))), ρ b0, ι 1, ι 1, .val (.int (w_K ((0 : Int32)).toNatClampNeg))] []))
  refine own_st (fun _ k => XS.iloadN X0.here hx rfl (hb hby ha_d36) rfl k) ?_
  show own_Dn p e below s _ _ _ (T0.setTop (mkF m 37 #[ρ b0, .val (.int (((-1640531535 : Int32) * (0 : Int32)) + (w_K ((0 : Int32)).toNatClampNeg))), ρ b0, ι 1, ι 1, .val (.int (w_K ((0 : Int32)).toNatClampNeg))] [(.int (((-1640531535 : Int32) * (0 : Int32)) + (w_K ((0 : Int32)).toNatClampNeg)))]))
  obtain ⟨_, _, ⟨T2, L2, k2, n2⟩, -, X2, ⟨Lc2, hQ2, l2, y2, z2⟩, st2⟩ := Jvm.LawKit.callS X0 hx (y := (⟨"com/example/chasebound/chasebound/chase/Hashing", "mix", "(I)I"⟩ : MethodName)) hown (mvT hZ (own_w hw 128 rfl)) (mvT hZ (own_w hw 129 rfl)) (mvT hZ (own_w hw 130 rfl)) (mvT hZ (own_w hw 131 rfl)) (by decide) (backOf (W := 0) (mi_rm l Z a0 hw [] ((((-1640531535 : Int32) * (0 : Int32)) + (w_K ((0 : Int32)).toNatClampNeg))) h0 n0) hZ (own_w hw 131 rfl) (own_w hw 130 rfl) (by decide) (by decide)) (g := (mkF m 37 #[ρ b0, .val (.int (((-1640531535 : Int32) * (0 : Int32)) + (w_K ((0 : Int32)).toNatClampNeg))), ρ b0, ι 1, ι 1, .val (.int (w_K ((0 : Int32)).toNatClampNeg))] [(.int (((-1640531535 : Int32) * (0 : Int32)) + (w_K ((0 : Int32)).toNatClampNeg)))])) rfl (by rw [hml]; rfl) (argsL := [(.int (((-1640531535 : Int32) * (0 : Int32)) + (w_K ((0 : Int32)).toNatClampNeg)))]) (rest := []) (lenOf own_pd0 rfl) rfl (by show 2 * 0 + _ ≤ _; exact Nat.le_of_eq rfl) (hb hby ha_d37) (fun _ _ => ⟨rfl, e0, (by decide : 0 + 0 ≤ _), (by decide : 0 + 0 ≤ _)⟩)
  dsimp only [Pt.U, Pt.locs, Pt.cells, Pt.slots] at X2 l2 y2 z2 st2 hQ2
  subst l2 y2 z2
  obtain ⟨rfl, N2q, e2⟩ := hQ2
  have N2 := Fr.app N0 N2q
  refine own_st st2 ?_
  show own_Dn p e below s _ _ _ (T2.setTop (mkF m 40 #[ρ b0, .val (.int (((-1640531535 : Int32) * (0 : Int32)) + (w_K ((0 : Int32)).toNatClampNeg))), ρ b0, ι 1, ι 1, .val (.int (w_K ((0 : Int32)).toNatClampNeg))] [(.int (mi_f (((-1640531535 : Int32) * (0 : Int32)) + (w_K ((0 : Int32)).toNatClampNeg))))]))
  exact own_retI X2 hx hret hlk (hb hby ha_d40) (by decide) (by decide) ⟨(by rw [hr0, ha_f]), N2, e2⟩
theorem ha_ef (m : MethodId) (b0 : Addr) : entryFrame m #[(.ref b0)] 6 = mkF m 0 #[.val (.ref b0), .unset, .unset, .unset, .unset, .unset] [] := by first | (simp [entryFrame, mkF, argsToLocals, Value.category]; done) | rfl
theorem ha_rm (l : Launch) (Z : State) (a0 : Array Value) (hw : ∀ d ∈ tables_1, d.before a0 Z = true) (ws : List Jvm.Cond) (b0 : Addr) (w_K : Nat → Int32) (h0 : Heap) (n0 : Nat) (Z0 : n0 ≤ h0.size) (P0 : own_Arf Z h0 b0 .int 1 (fun i => (.int (w_K i)))) :
    MetFree l (⟨ς1, "hash", "([I)I"⟩ : MethodName) (head1 (Jvm.Cond.code (⟨ς1, "hash", "([I)I"⟩ : MethodName) prog_24_method_11_code 6 (some .int) :: ws) ({ frames := 1, cells := 0, slots := 0, locals := 13 } : Room)) (fun a U => a = #[(.ref b0)] ∧ Z.Warmed39 U.vm ∧ U.heap = h0) (fun _ _ _ _ _ => True) (fun _ U o U' => ∃ v L, o = .returned v ∧ (own_Q (some (.int (ha_f w_K))) n0 h0) v U'.heap L ∧ FrameEnd U o U' L ({ frames := 1, cells := 0, slots := 0, locals := 13 } : Room).cells ({ frames := 1, cells := 0, slots := 0, locals := 13 } : Room).slots) :=
  own_met hw (plainFor_of_name (by first | (simp [plainName, overriddenIn]; done) | decide +kernel)) (fun p e s m below meth c T0 C0 X0 e0 => own_st (fun _ k => castTop (ha_ef m b0) k) (ha_c0 C0 X0 e0 (Fr.nil n0) Z0 P0 rfl))
theorem own_nn {a : Int32} (h : 0 ≤ a.toInt) : ¬ a < 0 := by
  simp only [Int32.lt_iff_toInt_lt, Int32.reduceToInt]; omega
theorem own_lt16 {p : Int32} (h : 0 ≤ p.toInt ∧ p.toInt < 16) : p.toNatClampNeg < 16 := by simp only [Int32.toNatClampNeg]; omega
theorem own_z0 : (0 : Int32).toNatClampNeg = 0 := by decide
theorem own_ix {P : Nat → Int32} {r : Int32} (hP : P 0 = 0) : ((r * (1 : Int32)) + (P ((0 : Int32)).toNatClampNeg)) = r := by
  rw [own_z0, hP, Int32.mul_one, Int32.add_zero]
theorem own_gb {P : Nat → Int32} {r : Int32} (hP : P 0 = 0) (hr : 0 ≤ r.toInt ∧ r.toInt < 16) : 0 ≤ ((r * (1 : Int32)) + (P ((0 : Int32)).toNatClampNeg)).toInt ∧ ((r * (1 : Int32)) + (P ((0 : Int32)).toNatClampNeg)).toInt < 16 := by
  rw [own_ix hP]; exact hr
theorem gt_d0 : decode prog_23_method_6_code 0 = .ok (.aload_n 0, 1) := by decide +kernel
theorem gt_d1 : decode prog_23_method_6_code 1 = .ok (.getfield 38, 3) := by decide +kernel
theorem gt_d4 : decode prog_23_method_6_code 4 = .ok (.iload_n 1, 1) := by decide +kernel
theorem gt_d5 : decode prog_23_method_6_code 5 = .ok (.aload_n 0, 1) := by decide +kernel
theorem gt_d6 : decode prog_23_method_6_code 6 = .ok (.getfield 30, 3) := by decide +kernel
theorem gt_d9 : decode prog_23_method_6_code 9 = .ok (.imul, 1) := by decide +kernel
theorem gt_d10 : decode prog_23_method_6_code 10 = .ok (.iload_n 2, 1) := by decide +kernel
theorem gt_d11 : decode prog_23_method_6_code 11 = .ok (.iadd, 1) := by decide +kernel
theorem gt_d12 : decode prog_23_method_6_code 12 = .ok (.iaload, 1) := by decide +kernel
theorem gt_d13 : decode prog_23_method_6_code 13 = .ok (.ireturn, 1) := by decide +kernel
def gt_f (p1 : Int32) (p2 : Int32) (w_D : Nat → Int32)  : Int32 :=
  (w_D (((p1 * (1 : Int32)) + p2)).toNatClampNeg)
set_option maxRecDepth 65536 in
set_option maxHeartbeats 40000000 in
theorem gt_c0 {b0 : Addr} {p1 : Int32} {p2 : Int32} {w_d : Addr} {w_D : Nat → Int32} {locs : List Loc} {r0 : Int32} (C0 : own_Cx p s m meth c Z a0 prog_23_method_6_code 3 ς0 "get" (some .int)) (X0 : Stand p l e ({ frames := 0, cells := 0, slots := 0, locals := 0 } : Room) s m args below meth c T0 locs 0 0) (e0 : T0.heap = h0) (N0 : Fr n0 locs)  (Z0 : n0 ≤ h0.size) (P0 : Fld Z h0 b0 ς0 "data" "[I" (.ref w_d)) (P1 : Fld Z h0 b0 ς0 "arity" "I" (.int 1)) (P2 : own_Arf Z h0 w_d .int 16 (fun i => (.int (w_D i)))) (hbd : 0 ≤ ((p1 * (1 : Int32)) + p2).toInt ∧ ((p1 * (1 : Int32)) + p2).toInt < 16) (hr0 : r0 = gt_f p1 p2 w_D ) :
    own_Dn p e below s (own_Q (some (.int r0)) n0 h0) ({ frames := 0, cells := 0, slots := 0, locals := 0 } : Room).cells ({ frames := 0, cells := 0, slots := 0, locals := 0 } : Room).slots (T0.setTop (mkF m 0 #[ρ b0, ι p1, ι p2] [])) := by
  obtain ⟨hx, hZ, hw, hby, hml, hown, hret, hlk, hnm⟩ := id C0
  refine own_st (fun _ k => XS.aloadN X0.here hx rfl (hb hby gt_d0) rfl rfl k) ?_
  show own_Dn p e below s _ _ _ (T0.setTop (mkF m 1 #[ρ b0, ι p1, ι p2] [(.ref b0)]))
  obtain ⟨T3, X3, e3, st3⟩ := getF X0 hx hZ hown (host := "") (Or.inl (own_w hw 75 rfl)) Via.refl e0 P0 (g := (mkF m 1 #[ρ b0, ι p1, ι p2] [(.ref b0)])) rfl rfl (hb hby gt_d1)
  refine own_st st3 ?_
  show own_Dn p e below s _ _ _ (T3.setTop (mkF m 4 #[ρ b0, ι p1, ι p2] [(.ref w_d)]))
  refine own_st (fun _ k => XS.iloadN X3.here hx rfl (hb hby gt_d4) rfl (XS.aloadN X3.here hx rfl (hb hby gt_d5) rfl rfl k)) ?_
  show own_Dn p e below s _ _ _ (T3.setTop (mkF m 6 #[ρ b0, ι p1, ι p2] [(.ref b0), (.int p1), (.ref w_d)]))
  obtain ⟨T4, X4, e4, st4⟩ := getF X3 hx hZ hown (host := "") (Or.inl (own_w hw 69 rfl)) Via.refl e3 P1 (g := (mkF m 6 #[ρ b0, ι p1, ι p2] [(.ref b0), (.int p1), (.ref w_d)])) rfl rfl (hb hby gt_d6)
  refine own_st st4 ?_
  show own_Dn p e below s _ _ _ (T4.setTop (mkF m 9 #[ρ b0, ι p1, ι p2] [(.int 1), (.int p1), (.ref w_d)]))
  refine own_st (fun _ k => XS.imul X4.here hx rfl (hb hby gt_d9) rfl (XS.iloadN X4.here hx rfl (hb hby gt_d10) rfl (XS.iadd X4.here hx rfl (hb hby gt_d11) rfl k))) ?_
  show own_Dn p e below s _ _ _ (T4.setTop (mkF m 12 #[ρ b0, ι p1, ι p2] [(.int ((p1 * (1 : Int32)) + p2)), (.ref w_d)]))
  refine own_st (own_ldI (pc := 12) (L := #[ρ b0, ι p1, ι p2]) (rest := []) X4 hx hZ e4 P2 (j := ((p1 * (1 : Int32)) + p2)) (own_nn hbd.1) (own_lt16 hbd) (hb hby gt_d12)) ?_
  show own_Dn p e below s _ _ _ (T4.setTop (mkF m 13 #[ρ b0, ι p1, ι p2] [(.int (w_D (((p1 * (1 : Int32)) + p2)).toNatClampNeg))]))
  exact own_retI X4 hx hret hlk (hb hby gt_d13) (by decide) (by decide) ⟨(by rw [hr0, gt_f]), N0, e4⟩
theorem gt_ef (m : MethodId) (b0 : Addr) (p1 : Int32) (p2 : Int32) : entryFrame m #[(.ref b0), (.int p1), (.int p2)] 3 = mkF m 0 #[.val (.ref b0), .val (.int p1), .val (.int p2)] [] := by first | (simp [entryFrame, mkF, argsToLocals, Value.category]; done) | rfl
theorem gt_rm (l : Launch) (Z : State) (a0 : Array Value) (hw : ∀ d ∈ tables_1, d.before a0 Z = true) (ws : List Jvm.Cond) (b0 : Addr) (p1 : Int32) (p2 : Int32) (w_d : Addr) (w_D : Nat → Int32) (h0 : Heap) (n0 : Nat) (Z0 : n0 ≤ h0.size) (P0 : Fld Z h0 b0 ς0 "data" "[I" (.ref w_d)) (P1 : Fld Z h0 b0 ς0 "arity" "I" (.int 1)) (P2 : own_Arf Z h0 w_d .int 16 (fun i => (.int (w_D i)))) (hbd : 0 ≤ ((p1 * (1 : Int32)) + p2).toInt ∧ ((p1 * (1 : Int32)) + p2).toInt < 16) :
    MetFree l (⟨ς0, "get", "(II)I"⟩ : MethodName) (head1 (Jvm.Cond.code (⟨ς0, "get", "(II)I"⟩ : MethodName) prog_23_method_6_code 3 (some .int) :: ws) ({ frames := 0, cells := 0, slots := 0, locals := 0 } : Room)) (fun a U => a = #[(.ref b0), (.int p1), (.int p2)] ∧ Z.Warmed39 U.vm ∧ U.heap = h0) (fun _ _ _ _ _ => True) (fun _ U o U' => ∃ v L, o = .returned v ∧ (own_Q (some (.int (gt_f p1 p2 w_D))) n0 h0) v U'.heap L ∧ FrameEnd U o U' L ({ frames := 0, cells := 0, slots := 0, locals := 0 } : Room).cells ({ frames := 0, cells := 0, slots := 0, locals := 0 } : Room).slots) :=
  own_met hw (plainFor_of_name (by first | (simp [plainName, overriddenIn]; done) | decide +kernel)) (fun p e s m below meth c T0 C0 X0 e0 => own_st (fun _ k => castTop (gt_ef m b0 p1 p2) k) (gt_c0 C0 X0 e0 (Fr.nil n0) Z0 P0 P1 P2 hbd rfl))
theorem hk_d0 : decode prog_24_method_9_code 0 = .ok (.iconst 0, 1) := by decide +kernel
theorem hk_d1 : decode prog_24_method_9_code 1 = .ok (.istore_n 3, 1) := by decide +kernel
theorem hk_d2 : decode prog_24_method_9_code 2 = .ok (.iload_n 3, 1) := by decide +kernel
theorem hk_d3 : decode prog_24_method_9_code 3 = .ok (.aload_n 0, 1) := by decide +kernel
theorem hk_d4 : decode prog_24_method_9_code 4 = .ok (.getfield 20, 3) := by decide +kernel
theorem hk_d7 : decode prog_24_method_9_code 7 = .ok (.arraylength, 1) := by decide +kernel
theorem hk_d8 : decode prog_24_method_9_code 8 = .ok (.if_icmp .ge 31, 3) := by decide +kernel
theorem hk_d11 : decode prog_24_method_9_code 11 = .ok (.aload_n 0, 1) := by decide +kernel
theorem hk_d12 : decode prog_24_method_9_code 12 = .ok (.getfield 1, 3) := by decide +kernel
theorem hk_d15 : decode prog_24_method_9_code 15 = .ok (.iload_n 1, 1) := by decide +kernel
theorem hk_d16 : decode prog_24_method_9_code 16 = .ok (.aload_n 0, 1) := by decide +kernel
theorem hk_d17 : decode prog_24_method_9_code 17 = .ok (.getfield 20, 3) := by decide +kernel
theorem hk_d20 : decode prog_24_method_9_code 20 = .ok (.iload_n 3, 1) := by decide +kernel
theorem hk_d21 : decode prog_24_method_9_code 21 = .ok (.iaload, 1) := by decide +kernel
theorem hk_d22 : decode prog_24_method_9_code 22 = .ok (.invokevirtual 67, 3) := by decide +kernel
theorem hk_d25 : decode prog_24_method_9_code 25 = .ok (.aload_n 2, 1) := by decide +kernel
theorem hk_d26 : decode prog_24_method_9_code 26 = .ok (.iload_n 3, 1) := by decide +kernel
theorem hk_d27 : decode prog_24_method_9_code 27 = .ok (.iaload, 1) := by decide +kernel
theorem hk_d28 : decode prog_24_method_9_code 28 = .ok (.if_icmp .eq 5, 3) := by decide +kernel
theorem hk_d31 : decode prog_24_method_9_code 31 = .ok (.iconst 0, 1) := by decide +kernel
theorem hk_d32 : decode prog_24_method_9_code 32 = .ok (.ireturn, 1) := by decide +kernel
theorem hk_d33 : decode prog_24_method_9_code 33 = .ok (.iinc 3 1, 3) := by decide +kernel
theorem hk_d36 : decode prog_24_method_9_code 36 = .ok (.goto (-34), 3) := by decide +kernel
theorem hk_d39 : decode prog_24_method_9_code 39 = .ok (.iconst 1, 1) := by decide +kernel
theorem hk_d40 : decode prog_24_method_9_code 40 = .ok (.ireturn, 1) := by decide +kernel
def hk_f (p1 : Int32) (w_P : Nat → Int32) (w_D : Nat → Int32) (w_K : Nat → Int32)  : Int32 :=
  if (gt_f p1 (w_P ((0 : Int32)).toNatClampNeg) w_D) = (w_K ((0 : Int32)).toNatClampNeg) then
    (1 : Int32)
  else
    (0 : Int32)
set_option maxRecDepth 65536 in
set_option maxHeartbeats 40000000 in
theorem hk_c0 {b0 : Addr} {p1 : Int32} {b2 : Addr} {w_r : Addr} {w_p : Addr} {w_d : Addr} {w_P : Nat → Int32} {w_D : Nat → Int32} {w_K : Nat → Int32} {locs : List Loc} {r0 : Int32} (C0 : own_Cx p s m meth c Z a0 prog_24_method_9_code 4 ς1 "hasKey" (some .boolean)) (X0 : Stand p l e ({ frames := 1, cells := 0, slots := 0, locals := 14 } : Room) s m args below meth c T0 locs 0 0) (e0 : T0.heap = h0) (N0 : Fr n0 locs)  (Z0 : n0 ≤ h0.size) (P0 : Exa Z h0 b0 ς1) (P1 : Fld Z h0 b0 ς1 "this$0" ς2 (.ref w_r)) (P2 : Fld Z h0 b0 ς1 "positions" "[I" (.ref w_p)) (P3 : own_Arf Z h0 w_p .int 1 (fun i => (.int (w_P i)))) (P4 : Exa Z h0 w_r ς0) (P5 : Fld Z h0 w_r ς0 "data" "[I" (.ref w_d)) (P6 : Fld Z h0 w_r ς0 "arity" "I" (.int 1)) (P7 : own_Arf Z h0 w_d .int 16 (fun i => (.int (w_D i)))) (P8 : own_Arf Z h0 b2 .int 1 (fun i => (.int (w_K i)))) (hP : w_P 0 = 0) (hr : 0 ≤ p1.toInt ∧ p1.toInt < 16) (hr0 : r0 = hk_f p1 w_P w_D w_K ) :
    own_Dn p e below s (own_Q (some (.int r0)) n0 h0) ({ frames := 1, cells := 0, slots := 0, locals := 14 } : Room).cells ({ frames := 1, cells := 0, slots := 0, locals := 14 } : Room).slots (T0.setTop (mkF m 0 #[ρ b0, ι p1, ρ b2, υ] [])) := by
  obtain ⟨hx, hZ, hw, hby, hml, hown, hret, hlk, hnm⟩ := id C0
  refine own_st (fun _ k => XS.iconst X0.here hx rfl (hb hby hk_d0) (XS.istoreN X0.here hx rfl (hb hby hk_d1) rfl (l' := #[ρ b0, ι p1, ρ b2, ι 0]) rfl (XS.iloadN X0.here hx rfl (hb hby hk_d2) rfl (XS.aloadN X0.here hx rfl (hb hby hk_d3) rfl rfl k)))) ?_
  show own_Dn p e below s _ _ _ (T0.setTop (mkF m 4 #[ρ b0, ι p1, ρ b2, ι 0] [(.ref b0), (.int 0)]))
  obtain ⟨T7, X7, e7, st7⟩ := getF X0 hx hZ hown (host := "") (Or.inl (own_w hw 106 rfl)) Via.refl e0 P2 (g := (mkF m 4 #[ρ b0, ι p1, ρ b2, ι 0] [(.ref b0), (.int 0)])) rfl rfl (hb hby hk_d4)
  refine own_st st7 ?_
  show own_Dn p e below s _ _ _ (T7.setTop (mkF m 7 #[ρ b0, ι p1, ρ b2, ι 0] [(.ref w_p), (.int 0)]))
  refine own_st (own_len (pc := 7) (L := #[ρ b0, ι p1, ρ b2, ι 0]) (rest := [(.int 0)]) X7 hx hZ e7 P3 (z := (1 : Int32)) rfl (hb hby hk_d7)) ?_
  show own_Dn p e below s _ _ _ (T7.setTop (mkF m 8 #[ρ b0, ι p1, ρ b2, ι 0] [(.int 1), (.int 0)]))
  refine own_st (fun _ k => XS.icmpNo X7.here hx rfl (hb hby hk_d8) rfl (tlt (by decide : (0 : Int32) < (1 : Int32))).2.1 k) ?_
  show own_Dn p e below s _ _ _ (T7.setTop (mkF m 11 #[ρ b0, ι p1, ρ b2, ι 0] []))
  refine own_st (fun _ k => XS.aloadN X7.here hx rfl (hb hby hk_d11) rfl rfl k) ?_
  show own_Dn p e below s _ _ _ (T7.setTop (mkF m 12 #[ρ b0, ι p1, ρ b2, ι 0] [(.ref b0)]))
  obtain ⟨T8, X8, e8, st8⟩ := getF X7 hx hZ hown (host := "") (Or.inl (own_w hw 99 rfl)) Via.refl e7 P1 (g := (mkF m 12 #[ρ b0, ι p1, ρ b2, ι 0] [(.ref b0)])) rfl rfl (hb hby hk_d12)
  refine own_st st8 ?_
  show own_Dn p e below s _ _ _ (T8.setTop (mkF m 15 #[ρ b0, ι p1, ρ b2, ι 0] [(.ref w_r)]))
  refine own_st (fun _ k => XS.iloadN X8.here hx rfl (hb hby hk_d15) rfl (XS.aloadN X8.here hx rfl (hb hby hk_d16) rfl rfl k)) ?_
  show own_Dn p e below s _ _ _ (T8.setTop (mkF m 17 #[ρ b0, ι p1, ρ b2, ι 0] [(.ref b0), (.int p1), (.ref w_r)]))
  obtain ⟨T9, X9, e9, st9⟩ := getF X8 hx hZ hown (host := "") (Or.inl (own_w hw 106 rfl)) Via.refl e8 P2 (g := (mkF m 17 #[ρ b0, ι p1, ρ b2, ι 0] [(.ref b0), (.int p1), (.ref w_r)])) rfl rfl (hb hby hk_d17)
  refine own_st st9 ?_
  show own_Dn p e below s _ _ _ (T9.setTop (mkF m 20 #[ρ b0, ι p1, ρ b2, ι 0] [(.ref w_p), (.int p1), (.ref w_r)]))
  refine own_st (fun _ k => XS.iloadN X9.here hx rfl (hb hby hk_d20) rfl k) ?_
  show own_Dn p e below s _ _ _ (T9.setTop (mkF m 21 #[ρ b0, ι p1, ρ b2, ι 0] [(.int 0), (.ref w_p), (.int p1), (.ref w_r)]))
  refine own_st (own_ldI (pc := 21) (L := #[ρ b0, ι p1, ρ b2, ι 0]) (rest := [(.int p1), (.ref w_r)]) X9 hx hZ e9 P3 (j := (0 : Int32)) (by decide) (by decide) (hb hby hk_d21)) ?_
  show own_Dn p e below s _ _ _ (T9.setTop (mkF m 22 #[ρ b0, ι p1, ρ b2, ι 0] [(.int (w_P ((0 : Int32)).toNatClampNeg)), (.int p1), (.ref w_r)]))
  obtain ⟨cq10, kq10, q10a, q10b, q10c⟩ := isOf hZ e9 P4
  obtain ⟨_, _, ⟨T10, L10, k10, n10⟩, -, X10, ⟨Lc10, hQ10, l10, y10, z10⟩, st10⟩ := X9.virtualBack hx (y := (⟨ς0, "get", "(II)I"⟩ : MethodName)) (z := (⟨ς0, "get", "(II)I"⟩ : MethodName)) hown (mvT hZ (own_w hw 150 rfl)) (mvT hZ (own_w hw 151 rfl)) (notFace_of_selects (args := #[]) (mvT hZ (own_w hw 153 rfl))) (mvT hZ (own_w hw 153 rfl)) (mvT hZ (own_w hw 152 rfl)) (by decide) (backOf (W := 0) (gt_rm l Z a0 hw [] (w_r) (p1) ((w_P ((0 : Int32)).toNatClampNeg)) (w_d) (w_D) h0 n0 Z0 P5 P6 P7 (own_gb hP hr)) hZ (own_w hw 154 rfl) (own_w hw 3 rfl) (by decide) (by decide)) q10a q10c (g := (mkF m 22 #[ρ b0, ι p1, ρ b2, ι 0] [(.int (w_P ((0 : Int32)).toNatClampNeg)), (.int p1), (.ref w_r)])) rfl (by rw [hml]; rfl) (Steps.refl _) (argsL := [(.int p1), (.int (w_P ((0 : Int32)).toNatClampNeg))]) (rest := []) (lenOf own_pd1 rfl) rfl (by show 2 * 0 + _ ≤ _; exact Nat.le_of_eq rfl) (hb hby hk_d22) (fun _ _ => ⟨rfl, e9, (by decide : 0 + 0 ≤ _), (by decide : 0 + 0 ≤ _)⟩)
  dsimp only [Pt.U, Pt.locs, Pt.cells, Pt.slots] at X10 l10 y10 z10 st10 hQ10
  subst l10 y10 z10
  obtain ⟨rfl, N10q, e10⟩ := hQ10
  have N10 := Fr.app N0 N10q
  refine own_tr st10 ?_
  show own_Dn p e below s _ _ _ (T10.setTop (mkF m 25 #[ρ b0, ι p1, ρ b2, ι 0] [(.int (gt_f p1 (w_P ((0 : Int32)).toNatClampNeg) w_D))]))
  refine own_st (fun _ k => XS.aloadN X10.here hx rfl (hb hby hk_d25) rfl rfl (XS.iloadN X10.here hx rfl (hb hby hk_d26) rfl k)) ?_
  show own_Dn p e below s _ _ _ (T10.setTop (mkF m 27 #[ρ b0, ι p1, ρ b2, ι 0] [(.int 0), (.ref b2), (.int (gt_f p1 (w_P ((0 : Int32)).toNatClampNeg) w_D))]))
  refine own_st (own_ldI (pc := 27) (L := #[ρ b0, ι p1, ρ b2, ι 0]) (rest := [(.int (gt_f p1 (w_P ((0 : Int32)).toNatClampNeg) w_D))]) X10 hx hZ e10 P8 (j := (0 : Int32)) (by decide) (by decide) (hb hby hk_d27)) ?_
  show own_Dn p e below s _ _ _ (T10.setTop (mkF m 28 #[ρ b0, ι p1, ρ b2, ι 0] [(.int (w_K ((0 : Int32)).toNatClampNeg)), (.int (gt_f p1 (w_P ((0 : Int32)).toNatClampNeg) w_D))]))
  by_cases hc11 : (gt_f p1 (w_P ((0 : Int32)).toNatClampNeg) w_D) = (w_K ((0 : Int32)).toNatClampNeg)
  · refine own_st (fun _ k => XS.icmpYes X10.here hx rfl (pc0 := 28) (pc' := 33) rfl (hb hby hk_d28) rfl (teq hc11).1 (by decide) (by decide) k) ?_
    show own_Dn p e below s _ _ _ (T10.setTop (mkF m 33 #[ρ b0, ι p1, ρ b2, ι 0] []))
    refine own_st (fun _ k => XS.iinc X10.here hx rfl (hb hby hk_d33) rfl (l' := #[ρ b0, ι p1, ρ b2, ι 1]) rfl (XS.goto X10.here hx rfl (pc0 := 36) (pc' := 2) rfl (hb hby hk_d36) (by decide) (by decide) (XS.iloadN X10.here hx rfl (hb hby hk_d2) rfl (XS.aloadN X10.here hx rfl (hb hby hk_d3) rfl rfl k)))) ?_
    show own_Dn p e below s _ _ _ (T10.setTop (mkF m 4 #[ρ b0, ι p1, ρ b2, ι 1] [(.ref b0), (.int 1)]))
    obtain ⟨T12, X12, e12, st12⟩ := getF X10 hx hZ hown (host := "") (Or.inl (own_w hw 106 rfl)) Via.refl e10 P2 (g := (mkF m 4 #[ρ b0, ι p1, ρ b2, ι 1] [(.ref b0), (.int 1)])) rfl rfl (hb hby hk_d4)
    refine own_st st12 ?_
    show own_Dn p e below s _ _ _ (T12.setTop (mkF m 7 #[ρ b0, ι p1, ρ b2, ι 1] [(.ref w_p), (.int 1)]))
    refine own_st (own_len (pc := 7) (L := #[ρ b0, ι p1, ρ b2, ι 1]) (rest := [(.int 1)]) X12 hx hZ e12 P3 (z := (1 : Int32)) rfl (hb hby hk_d7)) ?_
    show own_Dn p e below s _ _ _ (T12.setTop (mkF m 8 #[ρ b0, ι p1, ρ b2, ι 1] [(.int 1), (.int 1)]))
    refine own_st (fun _ k => XS.icmpYes X12.here hx rfl (pc0 := 8) (pc' := 39) rfl (hb hby hk_d8) rfl (flt (by decide : ¬ ((1 : Int32) < (1 : Int32)))).2.1 (by decide) (by decide) k) ?_
    show own_Dn p e below s _ _ _ (T12.setTop (mkF m 39 #[ρ b0, ι p1, ρ b2, ι 1] []))
    refine own_st (fun _ k => XS.iconst X12.here hx rfl (hb hby hk_d39) k) ?_
    show own_Dn p e below s _ _ _ (T12.setTop (mkF m 40 #[ρ b0, ι p1, ρ b2, ι 1] [(.int 1)]))
    exact own_retZ X12 hx hret hlk (by decide) (hb hby hk_d40) (by decide) (by decide) ⟨(by rw [hr0, hk_f, if_pos hc11]), N10, e12⟩
  · refine own_st (fun _ k => XS.icmpNo X10.here hx rfl (hb hby hk_d28) rfl (feq hc11).1 k) ?_
    show own_Dn p e below s _ _ _ (T10.setTop (mkF m 31 #[ρ b0, ι p1, ρ b2, ι 0] []))
    refine own_st (fun _ k => XS.iconst X10.here hx rfl (hb hby hk_d31) k) ?_
    show own_Dn p e below s _ _ _ (T10.setTop (mkF m 32 #[ρ b0, ι p1, ρ b2, ι 0] [(.int 0)]))
    exact own_retZ X10 hx hret hlk (by decide) (hb hby hk_d32) (by decide) (by decide) ⟨(by rw [hr0, hk_f, if_neg hc11]), N10, e10⟩
theorem hk_ef (m : MethodId) (b0 : Addr) (p1 : Int32) (b2 : Addr) : entryFrame m #[(.ref b0), (.int p1), (.ref b2)] 4 = mkF m 0 #[.val (.ref b0), .val (.int p1), .val (.ref b2), .unset] [] := by first | (simp [entryFrame, mkF, argsToLocals, Value.category]; done) | rfl
theorem hk_rm (l : Launch) (Z : State) (a0 : Array Value) (hw : ∀ d ∈ tables_1, d.before a0 Z = true) (ws : List Jvm.Cond) (b0 : Addr) (p1 : Int32) (b2 : Addr) (w_r : Addr) (w_p : Addr) (w_d : Addr) (w_P : Nat → Int32) (w_D : Nat → Int32) (w_K : Nat → Int32) (h0 : Heap) (n0 : Nat) (Z0 : n0 ≤ h0.size) (P0 : Exa Z h0 b0 ς1) (P1 : Fld Z h0 b0 ς1 "this$0" ς2 (.ref w_r)) (P2 : Fld Z h0 b0 ς1 "positions" "[I" (.ref w_p)) (P3 : own_Arf Z h0 w_p .int 1 (fun i => (.int (w_P i)))) (P4 : Exa Z h0 w_r ς0) (P5 : Fld Z h0 w_r ς0 "data" "[I" (.ref w_d)) (P6 : Fld Z h0 w_r ς0 "arity" "I" (.int 1)) (P7 : own_Arf Z h0 w_d .int 16 (fun i => (.int (w_D i)))) (P8 : own_Arf Z h0 b2 .int 1 (fun i => (.int (w_K i)))) (hP : w_P 0 = 0) (hr : 0 ≤ p1.toInt ∧ p1.toInt < 16) :
    MetFree l (⟨ς1, "hasKey", "(I[I)Z"⟩ : MethodName) (head1 (Jvm.Cond.code (⟨ς1, "hasKey", "(I[I)Z"⟩ : MethodName) prog_24_method_9_code 4 (some .boolean) :: ws) ({ frames := 1, cells := 0, slots := 0, locals := 14 } : Room)) (fun a U => a = #[(.ref b0), (.int p1), (.ref b2)] ∧ Z.Warmed39 U.vm ∧ U.heap = h0) (fun _ _ _ _ _ => True) (fun _ U o U' => ∃ v L, o = .returned v ∧ (own_Q (some (.int (hk_f p1 w_P w_D w_K))) n0 h0) v U'.heap L ∧ FrameEnd U o U' L ({ frames := 1, cells := 0, slots := 0, locals := 14 } : Room).cells ({ frames := 1, cells := 0, slots := 0, locals := 14 } : Room).slots) :=
  own_met hw (plainFor_of_name (by first | (simp [plainName, overriddenIn]; done) | decide +kernel)) (fun p e s m below meth c T0 C0 X0 e0 => own_st (fun _ k => castTop (hk_ef m b0 p1 b2) k) (hk_c0 C0 X0 e0 (Fr.nil n0) Z0 P0 P1 P2 P3 P4 P5 P6 P7 P8 hP hr rfl))
theorem ko_d0 : decode prog_24_method_10_code 0 = .ok (.iconst 0, 1) := by decide +kernel
theorem ko_d1 : decode prog_24_method_10_code 1 = .ok (.istore_n 2, 1) := by decide +kernel
theorem ko_d2 : decode prog_24_method_10_code 2 = .ok (.iload_n 2, 1) := by decide +kernel
theorem ko_d3 : decode prog_24_method_10_code 3 = .ok (.aload_n 0, 1) := by decide +kernel
theorem ko_d4 : decode prog_24_method_10_code 4 = .ok (.getfield 20, 3) := by decide +kernel
theorem ko_d7 : decode prog_24_method_10_code 7 = .ok (.arraylength, 1) := by decide +kernel
theorem ko_d8 : decode prog_24_method_10_code 8 = .ok (.if_icmp .ge 29, 3) := by decide +kernel
theorem ko_d11 : decode prog_24_method_10_code 11 = .ok (.aload_n 0, 1) := by decide +kernel
theorem ko_d12 : decode prog_24_method_10_code 12 = .ok (.getfield 26, 3) := by decide +kernel
theorem ko_d15 : decode prog_24_method_10_code 15 = .ok (.iload_n 2, 1) := by decide +kernel
theorem ko_d16 : decode prog_24_method_10_code 16 = .ok (.aload_n 0, 1) := by decide +kernel
theorem ko_d17 : decode prog_24_method_10_code 17 = .ok (.getfield 1, 3) := by decide +kernel
theorem ko_d20 : decode prog_24_method_10_code 20 = .ok (.iload_n 1, 1) := by decide +kernel
theorem ko_d21 : decode prog_24_method_10_code 21 = .ok (.aload_n 0, 1) := by decide +kernel
theorem ko_d22 : decode prog_24_method_10_code 22 = .ok (.getfield 20, 3) := by decide +kernel
theorem ko_d25 : decode prog_24_method_10_code 25 = .ok (.iload_n 2, 1) := by decide +kernel
theorem ko_d26 : decode prog_24_method_10_code 26 = .ok (.iaload, 1) := by decide +kernel
theorem ko_d27 : decode prog_24_method_10_code 27 = .ok (.invokevirtual 67, 3) := by decide +kernel
theorem ko_d30 : decode prog_24_method_10_code 30 = .ok (.iastore, 1) := by decide +kernel
theorem ko_d31 : decode prog_24_method_10_code 31 = .ok (.iinc 2 1, 3) := by decide +kernel
theorem ko_d34 : decode prog_24_method_10_code 34 = .ok (.goto (-32), 3) := by decide +kernel
theorem ko_d37 : decode prog_24_method_10_code 37 = .ok (.aload_n 0, 1) := by decide +kernel
theorem ko_d38 : decode prog_24_method_10_code 38 = .ok (.getfield 26, 3) := by decide +kernel
theorem ko_d41 : decode prog_24_method_10_code 41 = .ok (.areturn, 1) := by decide +kernel
def ko_Q (Z : State) (b0 : Addr) (p1 : Int32) (w_r : Addr) (w_p : Addr) (w_d : Addr) (w_P : Nat → Int32) (w_D : Nat → Int32) (w_k : Addr) (w_K : Nat → Int32) (y0 : Nat → Int32) (h0 : Heap) (n0 : Nat) (v : Option Value) (h : Heap) (L : List Loc) : Prop := v = some (.ref w_k) ∧ Fr n0 L ∧ Keep h0 h [w_k] ∧ own_Arf Z h w_k .int 1 (fun i => (.int (y0 i)))
def ko_g0 (p1 : Int32) (w_P : Nat → Int32) (w_D : Nat → Int32) (w_K : Nat → Int32)  : Nat → Int32 :=
  (own_upd w_K ((0 : Int32)).toNatClampNeg (gt_f p1 (w_P ((0 : Int32)).toNatClampNeg) w_D))
set_option maxRecDepth 65536 in
set_option maxHeartbeats 40000000 in
theorem ko_c0 {b0 : Addr} {p1 : Int32} {w_r : Addr} {w_p : Addr} {w_d : Addr} {w_P : Nat → Int32} {w_D : Nat → Int32} {w_k : Addr} {w_K : Nat → Int32} {locs : List Loc} {y0 : Nat → Int32} (C0 : own_Cx p s m meth c Z a0 prog_24_method_10_code 3 ς1 "keyOf" (some (.array .int))) (X0 : Stand p l e ({ frames := 1, cells := 0, slots := 0, locals := 16 } : Room) s m args below meth c T0 locs 0 0) (e0 : T0.heap = h0) (N0 : Fr n0 locs)  (Z0 : n0 ≤ h0.size) (P0 : Exa Z h0 b0 ς1) (P1 : Fld Z h0 b0 ς1 "this$0" ς2 (.ref w_r)) (P2 : Fld Z h0 b0 ς1 "positions" "[I" (.ref w_p)) (P3 : own_Arf Z h0 w_p .int 1 (fun i => (.int (w_P i)))) (P4 : Exa Z h0 w_r ς0) (P5 : Fld Z h0 w_r ς0 "data" "[I" (.ref w_d)) (P6 : Fld Z h0 w_r ς0 "arity" "I" (.int 1)) (P7 : own_Arf Z h0 w_d .int 16 (fun i => (.int (w_D i)))) (P8 : Fld Z h0 b0 ς1 "rowKey" "[I" (.ref w_k)) (P9 : own_Arf Z h0 w_k .int 1 (fun i => (.int (w_K i)))) (ge_w_k : n0 ≤ w_k) (nes0 : b0 ≠ w_k) (nes1 : w_r ≠ w_k) (nes2 : w_p ≠ w_k) (nes3 : w_d ≠ w_k) (hP : w_P 0 = 0) (hr : 0 ≤ p1.toInt ∧ p1.toInt < 16) (hy0 : y0 = ko_g0 p1 w_P w_D w_K ) :
    own_Dn p e below s (ko_Q Z b0 p1 w_r w_p w_d w_P w_D w_k w_K y0 h0 n0) ({ frames := 1, cells := 0, slots := 0, locals := 16 } : Room).cells ({ frames := 1, cells := 0, slots := 0, locals := 16 } : Room).slots (T0.setTop (mkF m 0 #[ρ b0, ι p1, υ] [])) := by
  obtain ⟨hx, hZ, hw, hby, hml, hown, hret, hlk, hnm⟩ := id C0
  refine own_st (fun _ k => XS.iconst X0.here hx rfl (hb hby ko_d0) (XS.istoreN X0.here hx rfl (hb hby ko_d1) rfl (l' := #[ρ b0, ι p1, ι 0]) rfl (XS.iloadN X0.here hx rfl (hb hby ko_d2) rfl (XS.aloadN X0.here hx rfl (hb hby ko_d3) rfl rfl k)))) ?_
  show own_Dn p e below s _ _ _ (T0.setTop (mkF m 4 #[ρ b0, ι p1, ι 0] [(.ref b0), (.int 0)]))
  obtain ⟨T20, X20, e20, st20⟩ := getF X0 hx hZ hown (host := "") (Or.inl (own_w hw 106 rfl)) Via.refl e0 P2 (g := (mkF m 4 #[ρ b0, ι p1, ι 0] [(.ref b0), (.int 0)])) rfl rfl (hb hby ko_d4)
  refine own_st st20 ?_
  show own_Dn p e below s _ _ _ (T20.setTop (mkF m 7 #[ρ b0, ι p1, ι 0] [(.ref w_p), (.int 0)]))
  refine own_st (own_len (pc := 7) (L := #[ρ b0, ι p1, ι 0]) (rest := [(.int 0)]) X20 hx hZ e20 P3 (z := (1 : Int32)) rfl (hb hby ko_d7)) ?_
  show own_Dn p e below s _ _ _ (T20.setTop (mkF m 8 #[ρ b0, ι p1, ι 0] [(.int 1), (.int 0)]))
  refine own_st (fun _ k => XS.icmpNo X20.here hx rfl (hb hby ko_d8) rfl (tlt (by decide : (0 : Int32) < (1 : Int32))).2.1 k) ?_
  show own_Dn p e below s _ _ _ (T20.setTop (mkF m 11 #[ρ b0, ι p1, ι 0] []))
  refine own_st (fun _ k => XS.aloadN X20.here hx rfl (hb hby ko_d11) rfl rfl k) ?_
  show own_Dn p e below s _ _ _ (T20.setTop (mkF m 12 #[ρ b0, ι p1, ι 0] [(.ref b0)]))
  obtain ⟨T21, X21, e21, st21⟩ := getF X20 hx hZ hown (host := "") (Or.inl (own_w hw 110 rfl)) Via.refl e20 P8 (g := (mkF m 12 #[ρ b0, ι p1, ι 0] [(.ref b0)])) rfl rfl (hb hby ko_d12)
  refine own_st st21 ?_
  show own_Dn p e below s _ _ _ (T21.setTop (mkF m 15 #[ρ b0, ι p1, ι 0] [(.ref w_k)]))
  refine own_st (fun _ k => XS.iloadN X21.here hx rfl (hb hby ko_d15) rfl (XS.aloadN X21.here hx rfl (hb hby ko_d16) rfl rfl k)) ?_
  show own_Dn p e below s _ _ _ (T21.setTop (mkF m 17 #[ρ b0, ι p1, ι 0] [(.ref b0), (.int 0), (.ref w_k)]))
  obtain ⟨T22, X22, e22, st22⟩ := getF X21 hx hZ hown (host := "") (Or.inl (own_w hw 99 rfl)) Via.refl e21 P1 (g := (mkF m 17 #[ρ b0, ι p1, ι 0] [(.ref b0), (.int 0), (.ref w_k)])) rfl rfl (hb hby ko_d17)
  refine own_st st22 ?_
  show own_Dn p e below s _ _ _ (T22.setTop (mkF m 20 #[ρ b0, ι p1, ι 0] [(.ref w_r), (.int 0), (.ref w_k)]))
  refine own_st (fun _ k => XS.iloadN X22.here hx rfl (hb hby ko_d20) rfl (XS.aloadN X22.here hx rfl (hb hby ko_d21) rfl rfl k)) ?_
  show own_Dn p e below s _ _ _ (T22.setTop (mkF m 22 #[ρ b0, ι p1, ι 0] [(.ref b0), (.int p1), (.ref w_r), (.int 0), (.ref w_k)]))
  obtain ⟨T23, X23, e23, st23⟩ := getF X22 hx hZ hown (host := "") (Or.inl (own_w hw 106 rfl)) Via.refl e22 P2 (g := (mkF m 22 #[ρ b0, ι p1, ι 0] [(.ref b0), (.int p1), (.ref w_r), (.int 0), (.ref w_k)])) rfl rfl (hb hby ko_d22)
  refine own_st st23 ?_
  show own_Dn p e below s _ _ _ (T23.setTop (mkF m 25 #[ρ b0, ι p1, ι 0] [(.ref w_p), (.int p1), (.ref w_r), (.int 0), (.ref w_k)]))
  refine own_st (fun _ k => XS.iloadN X23.here hx rfl (hb hby ko_d25) rfl k) ?_
  show own_Dn p e below s _ _ _ (T23.setTop (mkF m 26 #[ρ b0, ι p1, ι 0] [(.int 0), (.ref w_p), (.int p1), (.ref w_r), (.int 0), (.ref w_k)]))
  refine own_st (own_ldI (pc := 26) (L := #[ρ b0, ι p1, ι 0]) (rest := [(.int p1), (.ref w_r), (.int 0), (.ref w_k)]) X23 hx hZ e23 P3 (j := (0 : Int32)) (by decide) (by decide) (hb hby ko_d26)) ?_
  show own_Dn p e below s _ _ _ (T23.setTop (mkF m 27 #[ρ b0, ι p1, ι 0] [(.int (w_P ((0 : Int32)).toNatClampNeg)), (.int p1), (.ref w_r), (.int 0), (.ref w_k)]))
  obtain ⟨cq24, kq24, q24a, q24b, q24c⟩ := isOf hZ e23 P4
  obtain ⟨_, _, ⟨T24, L24, k24, n24⟩, -, X24, ⟨Lc24, hQ24, l24, y24, z24⟩, st24⟩ := X23.virtualBack hx (y := (⟨ς0, "get", "(II)I"⟩ : MethodName)) (z := (⟨ς0, "get", "(II)I"⟩ : MethodName)) hown (mvT hZ (own_w hw 150 rfl)) (mvT hZ (own_w hw 151 rfl)) (notFace_of_selects (args := #[]) (mvT hZ (own_w hw 153 rfl))) (mvT hZ (own_w hw 153 rfl)) (mvT hZ (own_w hw 152 rfl)) (by decide) (backOf (W := 2) (gt_rm l Z a0 hw [] (w_r) (p1) ((w_P ((0 : Int32)).toNatClampNeg)) (w_d) (w_D) h0 n0 Z0 P5 P6 P7 (own_gb hP hr)) hZ (own_w hw 154 rfl) (own_w hw 3 rfl) (by decide) (by decide)) q24a q24c (g := (mkF m 27 #[ρ b0, ι p1, ι 0] [(.int (w_P ((0 : Int32)).toNatClampNeg)), (.int p1), (.ref w_r), (.int 0), (.ref w_k)])) rfl (by rw [hml]; rfl) (Steps.refl _) (argsL := [(.int p1), (.int (w_P ((0 : Int32)).toNatClampNeg))]) (rest := [(.int 0), (.ref w_k)]) (lenOf own_pd1 rfl) rfl (by show 2 * 0 + _ ≤ _; exact Nat.le_of_eq rfl) (hb hby ko_d27) (fun _ _ => ⟨rfl, e23, (by decide : 0 + 0 ≤ _), (by decide : 0 + 0 ≤ _)⟩)
  dsimp only [Pt.U, Pt.locs, Pt.cells, Pt.slots] at X24 l24 y24 z24 st24 hQ24
  subst l24 y24 z24
  obtain ⟨rfl, N24q, e24⟩ := hQ24
  have N24 := Fr.app N0 N24q
  refine own_tr st24 ?_
  show own_Dn p e below s _ _ _ (T24.setTop (mkF m 30 #[ρ b0, ι p1, ι 0] [(.int (gt_f p1 (w_P ((0 : Int32)).toNatClampNeg) w_D)), (.int 0), (.ref w_k)]))
  obtain ⟨T25, h25, X25, e25, W25, F25a, st25⟩ := own_stI (pc := 30) (L := #[ρ b0, ι p1, ι 0]) (rest := []) X24 hx hZ e24 P9 (j := (0 : Int32)) (x := (gt_f p1 (w_P ((0 : Int32)).toNatClampNeg) w_D)) (by decide) (by decide) (hb hby ko_d30)
  have N25 := Fr.snoc X25 N24 ge_w_k
  have F26 : n0 ≤ h25.size := Nat.le_trans Z0 (Keep.of_wr W25).1
  have F27 := P0.wr W25
  have F28 := P1.other W25 (Or.inl nes0)
  have F29 := P2.other W25 (Or.inl nes0)
  have F30 := P3.other W25 nes2
  have F31 := P4.wr W25
  have F32 := P5.other W25 (Or.inl nes1)
  have F33 := P6.other W25 (Or.inl nes1)
  have F34 := P7.other W25 nes3
  have F35 := P8.other W25 (Or.inl nes0)
  have F36 : Keep h0 h25 [w_k] := (Keep.refl h0 [w_k]).wr W25 (Or.inl (List.mem_of_getElem? (i := 0) rfl))
  refine own_st st25 ?_
  show own_Dn p e below s _ _ _ (T25.setTop (mkF m 31 #[ρ b0, ι p1, ι 0] []))
  refine own_st (fun _ k => XS.iinc X25.here hx rfl (hb hby ko_d31) rfl (l' := #[ρ b0, ι p1, ι 1]) rfl (XS.goto X25.here hx rfl (pc0 := 34) (pc' := 2) rfl (hb hby ko_d34) (by decide) (by decide) (XS.iloadN X25.here hx rfl (hb hby ko_d2) rfl (XS.aloadN X25.here hx rfl (hb hby ko_d3) rfl rfl k)))) ?_
  show own_Dn p e below s _ _ _ (T25.setTop (mkF m 4 #[ρ b0, ι p1, ι 1] [(.ref b0), (.int 1)]))
  obtain ⟨T37, X37, e37, st37⟩ := getF X25 hx hZ hown (host := "") (Or.inl (own_w hw 106 rfl)) Via.refl e25 F29 (g := (mkF m 4 #[ρ b0, ι p1, ι 1] [(.ref b0), (.int 1)])) rfl rfl (hb hby ko_d4)
  refine own_st st37 ?_
  show own_Dn p e below s _ _ _ (T37.setTop (mkF m 7 #[ρ b0, ι p1, ι 1] [(.ref w_p), (.int 1)]))
  refine own_st (own_len (pc := 7) (L := #[ρ b0, ι p1, ι 1]) (rest := [(.int 1)]) X37 hx hZ e37 F30 (z := (1 : Int32)) rfl (hb hby ko_d7)) ?_
  show own_Dn p e below s _ _ _ (T37.setTop (mkF m 8 #[ρ b0, ι p1, ι 1] [(.int 1), (.int 1)]))
  refine own_st (fun _ k => XS.icmpYes X37.here hx rfl (pc0 := 8) (pc' := 37) rfl (hb hby ko_d8) rfl (flt (by decide : ¬ ((1 : Int32) < (1 : Int32)))).2.1 (by decide) (by decide) k) ?_
  show own_Dn p e below s _ _ _ (T37.setTop (mkF m 37 #[ρ b0, ι p1, ι 1] []))
  refine own_st (fun _ k => XS.aloadN X37.here hx rfl (hb hby ko_d37) rfl rfl k) ?_
  show own_Dn p e below s _ _ _ (T37.setTop (mkF m 38 #[ρ b0, ι p1, ι 1] [(.ref b0)]))
  obtain ⟨T38, X38, e38, st38⟩ := getF X37 hx hZ hown (host := "") (Or.inl (own_w hw 110 rfl)) Via.refl e37 F35 (g := (mkF m 38 #[ρ b0, ι p1, ι 1] [(.ref b0)])) rfl rfl (hb hby ko_d38)
  refine own_st st38 ?_
  show own_Dn p e below s _ _ _ (T38.setTop (mkF m 41 #[ρ b0, ι p1, ι 1] [(.ref w_k)]))
  have eqH : T38.heap = h25 := e38
  exact own_retA X38 hx rfl hret hlk rfl rfl (hb hby ko_d41) (by decide) (by decide) (by rw [eqH]; exact ⟨rfl, N25, F36, (by rw [hy0, ko_g0]; exact F25a)⟩)
theorem ko_ef (m : MethodId) (b0 : Addr) (p1 : Int32) : entryFrame m #[(.ref b0), (.int p1)] 3 = mkF m 0 #[.val (.ref b0), .val (.int p1), .unset] [] := by first | (simp [entryFrame, mkF, argsToLocals, Value.category]; done) | rfl
theorem ko_rm (l : Launch) (Z : State) (a0 : Array Value) (hw : ∀ d ∈ tables_1, d.before a0 Z = true) (ws : List Jvm.Cond) (b0 : Addr) (p1 : Int32) (w_r : Addr) (w_p : Addr) (w_d : Addr) (w_P : Nat → Int32) (w_D : Nat → Int32) (w_k : Addr) (w_K : Nat → Int32) (h0 : Heap) (n0 : Nat) (Z0 : n0 ≤ h0.size) (P0 : Exa Z h0 b0 ς1) (P1 : Fld Z h0 b0 ς1 "this$0" ς2 (.ref w_r)) (P2 : Fld Z h0 b0 ς1 "positions" "[I" (.ref w_p)) (P3 : own_Arf Z h0 w_p .int 1 (fun i => (.int (w_P i)))) (P4 : Exa Z h0 w_r ς0) (P5 : Fld Z h0 w_r ς0 "data" "[I" (.ref w_d)) (P6 : Fld Z h0 w_r ς0 "arity" "I" (.int 1)) (P7 : own_Arf Z h0 w_d .int 16 (fun i => (.int (w_D i)))) (P8 : Fld Z h0 b0 ς1 "rowKey" "[I" (.ref w_k)) (P9 : own_Arf Z h0 w_k .int 1 (fun i => (.int (w_K i)))) (ge_w_k : n0 ≤ w_k) (nes0 : b0 ≠ w_k) (nes1 : w_r ≠ w_k) (nes2 : w_p ≠ w_k) (nes3 : w_d ≠ w_k) (hP : w_P 0 = 0) (hr : 0 ≤ p1.toInt ∧ p1.toInt < 16) :
    MetFree l (⟨ς1, "keyOf", "(I)[I"⟩ : MethodName) (head1 (Jvm.Cond.code (⟨ς1, "keyOf", "(I)[I"⟩ : MethodName) prog_24_method_10_code 3 (some (.array .int)) :: ws) ({ frames := 1, cells := 0, slots := 0, locals := 16 } : Room)) (fun a U => a = #[(.ref b0), (.int p1)] ∧ Z.Warmed39 U.vm ∧ U.heap = h0) (fun _ _ _ _ _ => True) (fun _ U o U' => ∃ v L, o = .returned v ∧ ko_Q Z b0 p1 w_r w_p w_d w_P w_D w_k w_K (ko_g0 p1 w_P w_D w_K) h0 n0 v U'.heap L ∧ FrameEnd U o U' L ({ frames := 1, cells := 0, slots := 0, locals := 16 } : Room).cells ({ frames := 1, cells := 0, slots := 0, locals := 16 } : Room).slots) :=
  own_met hw (plainFor_of_name (by first | (simp [plainName, overriddenIn]; done) | decide +kernel)) (fun p e s m below meth c T0 C0 X0 e0 => own_st (fun _ k => castTop (ko_ef m b0 p1) k) (ko_c0 C0 X0 e0 (Fr.nil n0) Z0 P0 P1 P2 P3 P4 P5 P6 P7 P8 P9 ge_w_k nes0 nes1 nes2 nes3 hP hr rfl))
def own_FB (F : Nat → Int32) : Prop := (∀ i, i < 16 → 0 ≤ (F i).toInt ∧ (F i).toInt ≤ 4) ∧ ∃ i, i < 16 ∧ F i = 0
def own_iF (k : Nat) (F : Nat → Int32) (v : Int32) : Prop := own_FB F ∧ 0 ≤ v.toInt ∧ v.toInt < 16 ∧ ∃ d, d < k ∧ F ((v.toNatClampNeg + d) % 16) = 0
theorem own_iF_zero {F : Nat → Int32} {v : Int32} : ¬ own_iF 0 F v := by
  rintro ⟨-, -, -, d, h, -⟩
  exact absurd h (Nat.not_lt_zero _)
theorem own_and15 (x : Int32) : 0 ≤ (x &&& (15 : Int32)).toInt ∧ (x &&& (15 : Int32)).toInt < 16 := by
  have e := c_mask x 15 4 (by decide) (by decide)
  omega
theorem own_next {v : Int32} (h : 0 ≤ v.toInt ∧ v.toInt < 16) : ((v + (1 : Int32)) &&& (15 : Int32)).toNatClampNeg = (v.toNatClampNeg + 1) % 16 := by
  have e := c_mask (v + 1) 15 4 (by decide) (by decide)
  have f := c_iadd v 1
  have r := rng32 (v + 1)
  simp only [Int32.reduceToInt] at f
  simp only [Int32.toNatClampNeg]
  omega
theorem own_iF_b {k : Nat} {F : Nat → Int32} {v : Int32} (h : own_iF k F v) : ¬ v < 0 ∧ v.toNatClampNeg < 16 := ⟨own_nn h.2.1, own_lt16 ⟨h.2.1, h.2.2.1⟩⟩
theorem own_iF_enter {F : Nat → Int32} (x : Int32) (h : own_FB F) : own_iF 16 F (x &&& (15 : Int32)) := by
  have b := own_and15 x
  have l := own_lt16 b
  obtain ⟨i, hi, hz⟩ := h.2
  refine ⟨h, b.1, b.2, (i + 16 - (x &&& (15 : Int32)).toNatClampNeg) % 16, by omega, ?_⟩
  have e : ((x &&& (15 : Int32)).toNatClampNeg + (i + 16 - (x &&& (15 : Int32)).toNatClampNeg) % 16) % 16 = i := by omega
  rw [e]; exact hz
theorem own_iF_step {k : Nat} {F : Nat → Int32} {v : Int32} (h : own_iF (k + 1) F v) (hc : ¬ (F v.toNatClampNeg) = (0 : Int32)) : own_iF k F ((v + (1 : Int32)) &&& (15 : Int32)) := by
  obtain ⟨h1, h2, h3, d, hd, hz⟩ := h
  have b := own_and15 (v + 1)
  have l := own_lt16 ⟨h2, h3⟩
  have n := own_next ⟨h2, h3⟩
  cases d with
  | zero =>
    have e : (v.toNatClampNeg + 0) % 16 = v.toNatClampNeg := by omega
    rw [e] at hz; exact absurd hz hc
  | succ d =>
    refine ⟨h1, b.1, b.2, d, by omega, ?_⟩
    have e : (((v + (1 : Int32)) &&& (15 : Int32)).toNatClampNeg + d) % 16 = (v.toNatClampNeg + (d + 1)) % 16 := by omega
    rw [e]; exact hz
theorem own_row {F : Nat → Int32} {v : Int32} (h : own_FB F) (hv : v.toNatClampNeg < 16) (hc : ¬ (F v.toNatClampNeg) = (0 : Int32)) : 0 ≤ ((F v.toNatClampNeg) - (1 : Int32)).toInt ∧ ((F v.toNatClampNeg) - (1 : Int32)).toInt < 16 := by
  have b := h.1 _ hv
  have e := c_isub (F v.toNatClampNeg) 1
  have r := rng32 ((F v.toNatClampNeg) - 1)
  simp only [Int32.reduceToInt] at e
  have z : (F v.toNatClampNeg).toInt ≠ 0 := fun q => hc (Int32.toInt_inj.mp (by rw [q]; decide))
  omega
theorem fs_d0 : decode prog_24_method_2_code 0 = .ok (.aload_n 0, 1) := by decide +kernel
theorem fs_d1 : decode prog_24_method_2_code 1 = .ok (.getfield 13, 3) := by decide +kernel
theorem fs_d4 : decode prog_24_method_2_code 4 = .ok (.arraylength, 1) := by decide +kernel
theorem fs_d5 : decode prog_24_method_2_code 5 = .ok (.iconst 1, 1) := by decide +kernel
theorem fs_d6 : decode prog_24_method_2_code 6 = .ok (.isub, 1) := by decide +kernel
theorem fs_d7 : decode prog_24_method_2_code 7 = .ok (.istore_n 2, 1) := by decide +kernel
theorem fs_d8 : decode prog_24_method_2_code 8 = .ok (.aload_n 1, 1) := by decide +kernel
theorem fs_d9 : decode prog_24_method_2_code 9 = .ok (.invokestatic 29, 3) := by decide +kernel
theorem fs_d12 : decode prog_24_method_2_code 12 = .ok (.iload_n 2, 1) := by decide +kernel
theorem fs_d13 : decode prog_24_method_2_code 13 = .ok (.iand, 1) := by decide +kernel
theorem fs_d14 : decode prog_24_method_2_code 14 = .ok (.istore_n 3, 1) := by decide +kernel
theorem fs_d15 : decode prog_24_method_2_code 15 = .ok (.aload_n 0, 1) := by decide +kernel
theorem fs_d16 : decode prog_24_method_2_code 16 = .ok (.getfield 13, 3) := by decide +kernel
theorem fs_d19 : decode prog_24_method_2_code 19 = .ok (.iload_n 3, 1) := by decide +kernel
theorem fs_d20 : decode prog_24_method_2_code 20 = .ok (.iaload, 1) := by decide +kernel
theorem fs_d21 : decode prog_24_method_2_code 21 = .ok (.ifCond .eq 35, 3) := by decide +kernel
theorem fs_d24 : decode prog_24_method_2_code 24 = .ok (.aload_n 0, 1) := by decide +kernel
theorem fs_d25 : decode prog_24_method_2_code 25 = .ok (.getfield 13, 3) := by decide +kernel
theorem fs_d28 : decode prog_24_method_2_code 28 = .ok (.iload_n 3, 1) := by decide +kernel
theorem fs_d29 : decode prog_24_method_2_code 29 = .ok (.iaload, 1) := by decide +kernel
theorem fs_d30 : decode prog_24_method_2_code 30 = .ok (.iconst 1, 1) := by decide +kernel
theorem fs_d31 : decode prog_24_method_2_code 31 = .ok (.isub, 1) := by decide +kernel
theorem fs_d32 : decode prog_24_method_2_code 32 = .ok (.istore 4, 2) := by decide +kernel
theorem fs_d34 : decode prog_24_method_2_code 34 = .ok (.aload_n 0, 1) := by decide +kernel
theorem fs_d35 : decode prog_24_method_2_code 35 = .ok (.iload 4, 2) := by decide +kernel
theorem fs_d37 : decode prog_24_method_2_code 37 = .ok (.aload_n 1, 1) := by decide +kernel
theorem fs_d38 : decode prog_24_method_2_code 38 = .ok (.invokevirtual 33, 3) := by decide +kernel
theorem fs_d41 : decode prog_24_method_2_code 41 = .ok (.ifCond .eq 6, 3) := by decide +kernel
theorem fs_d44 : decode prog_24_method_2_code 44 = .ok (.iload 4, 2) := by decide +kernel
theorem fs_d46 : decode prog_24_method_2_code 46 = .ok (.ireturn, 1) := by decide +kernel
theorem fs_d47 : decode prog_24_method_2_code 47 = .ok (.iload_n 3, 1) := by decide +kernel
theorem fs_d48 : decode prog_24_method_2_code 48 = .ok (.iconst 1, 1) := by decide +kernel
theorem fs_d49 : decode prog_24_method_2_code 49 = .ok (.iadd, 1) := by decide +kernel
theorem fs_d50 : decode prog_24_method_2_code 50 = .ok (.iload_n 2, 1) := by decide +kernel
theorem fs_d51 : decode prog_24_method_2_code 51 = .ok (.iand, 1) := by decide +kernel
theorem fs_d52 : decode prog_24_method_2_code 52 = .ok (.istore_n 3, 1) := by decide +kernel
theorem fs_d53 : decode prog_24_method_2_code 53 = .ok (.goto (-38), 3) := by decide +kernel
theorem fs_d56 : decode prog_24_method_2_code 56 = .ok (.iconst (-1), 1) := by decide +kernel
theorem fs_d57 : decode prog_24_method_2_code 57 = .ok (.ireturn, 1) := by decide +kernel
def fs_Q (Z : State) (b0 : Addr) (b1 : Addr) (w_r : Addr) (w_p : Addr) (w_d : Addr) (w_P : Nat → Int32) (w_D : Nat → Int32) (w_1 : Addr) (w_F : Nat → Int32) (w_K : Nat → Int32) (r0 : Int32) (h0 : Heap) (n0 : Nat) (v : Option Value) (h : Heap) (L : List Loc) : Prop := v = some (.int r0) ∧ Fr n0 L ∧ Keep h0 h []
def fs_f15 : Nat → (Nat → Int32) → (Nat → Int32) → (Nat → Int32) → (Nat → Int32) → (Int32) → (Int32)
  | 0, _, _, _, _, _ => 0
  | k + 1, w_P, w_D, w_F, w_K, v3 =>
    if (w_F (v3).toNatClampNeg) = (0 : Int32) then
      (-1 : Int32)
    else
      if (hk_f ((w_F (v3).toNatClampNeg) - (1 : Int32)) w_P w_D w_K) = (0 : Int32) then
        fs_f15 k w_P w_D w_F w_K (((v3 + (1 : Int32)) &&& (15 : Int32)))
      else
        ((w_F (v3).toNatClampNeg) - (1 : Int32))
set_option maxRecDepth 65536 in
set_option maxHeartbeats 40000000 in
theorem fs_c15 {b0 : Addr} {b1 : Addr} {w_r : Addr} {w_p : Addr} {w_d : Addr} {w_P : Nat → Int32} {w_D : Nat → Int32} {w_1 : Addr} {w_F : Nat → Int32} {w_K : Nat → Int32} {locs : List Loc} {r0 : Int32} (C0 : own_Cx p s m meth c Z a0 prog_24_method_2_code 5 ς1 "first" (some .int)) (k : Nat) (X0 : Stand p l e ({ frames := 2, cells := 0, slots := 0, locals := 30 } : Room) s m args below meth c T0 locs 0 0) (e0 : T0.heap = h1) (N0 : Fr n0 locs) (v3 : Int32) (s4 : Slot) (hs4 : One s4) (Z0 : n0 ≤ h1.size) (P1 : Exa Z h1 b0 ς1) (P2 : Fld Z h1 b0 ς1 "this$0" ς2 (.ref w_r)) (P3 : Fld Z h1 b0 ς1 "positions" "[I" (.ref w_p)) (P4 : own_Arf Z h1 w_p .int 1 (fun i => (.int (w_P i)))) (P5 : Exa Z h1 w_r ς0) (P6 : Fld Z h1 w_r ς0 "data" "[I" (.ref w_d)) (P7 : Fld Z h1 w_r ς0 "arity" "I" (.int 1)) (P8 : own_Arf Z h1 w_d .int 16 (fun i => (.int (w_D i)))) (P9 : Fld Z h1 b0 ς1 "firsts" "[I" (.ref w_1)) (P10 : own_Arf Z h1 w_1 .int 16 (fun i => (.int (w_F i)))) (P11 : own_Arf Z h1 b1 .int 1 (fun i => (.int (w_K i)))) (K0 : Keep h0 h1 []) (hP : w_P 0 = 0) (hF : own_FB w_F) (hi0 : own_iF k w_F v3) (hr0 : r0 = fs_f15 k w_P w_D w_F w_K v3) :
    own_Dn p e below s (fs_Q Z b0 b1 w_r w_p w_d w_P w_D w_1 w_F w_K r0 h0 n0) ({ frames := 2, cells := 0, slots := 0, locals := 30 } : Room).cells ({ frames := 2, cells := 0, slots := 0, locals := 30 } : Room).slots (T0.setTop (mkF m 15 #[ρ b0, ρ b1, ι 15, ι v3, s4] [])) := by
  induction k generalizing T0 locs h1 r0 v3 s4 with
  | zero => exact absurd hi0 own_iF_zero
  | succ k ih =>
    obtain ⟨hx, hZ, hw, hby, hml, hown, hret, hlk, hnm⟩ := id C0
    refine own_st (fun _ k => XS.aloadN X0.here hx rfl (hb hby fs_d15) rfl rfl k) ?_
    show own_Dn p e below s _ _ _ (T0.setTop (mkF m 16 #[ρ b0, ρ b1, ι 15, ι v3, s4] [(.ref b0)]))
    obtain ⟨T10, X10, e10, st10⟩ := getF X0 hx hZ hown (host := "") (Or.inl (own_w hw 102 rfl)) Via.refl e0 P9 (g := (mkF m 16 #[ρ b0, ρ b1, ι 15, ι v3, s4] [(.ref b0)])) rfl rfl (hb hby fs_d16)
    refine own_st st10 ?_
    show own_Dn p e below s _ _ _ (T10.setTop (mkF m 19 #[ρ b0, ρ b1, ι 15, ι v3, s4] [(.ref w_1)]))
    refine own_st (fun _ k => XS.iloadN X10.here hx rfl (hb hby fs_d19) rfl k) ?_
    show own_Dn p e below s _ _ _ (T10.setTop (mkF m 20 #[ρ b0, ρ b1, ι 15, ι v3, s4] [(.int v3), (.ref w_1)]))
    refine own_st (own_ldI (pc := 20) (L := #[ρ b0, ρ b1, ι 15, ι v3, s4]) (rest := []) X10 hx hZ e10 P10 (j := v3) (own_iF_b hi0).1 (own_iF_b hi0).2 (hb hby fs_d20)) ?_
    show own_Dn p e below s _ _ _ (T10.setTop (mkF m 21 #[ρ b0, ρ b1, ι 15, ι v3, s4] [(.int (w_F (v3).toNatClampNeg))]))
    by_cases hc11 : (w_F (v3).toNatClampNeg) = (0 : Int32)
    · refine own_st (fun _ k => XS.ifYes X10.here hx rfl (pc0 := 21) (pc' := 56) rfl (hb hby fs_d21) rfl ((if0 _ _).trans (teq hc11).1) (by decide) (by decide) k) ?_
      show own_Dn p e below s _ _ _ (T10.setTop (mkF m 56 #[ρ b0, ρ b1, ι 15, ι v3, s4] []))
      refine own_st (fun _ k => XS.iconst X10.here hx rfl (hb hby fs_d56) k) ?_
      show own_Dn p e below s _ _ _ (T10.setTop (mkF m 57 #[ρ b0, ρ b1, ι 15, ι v3, s4] [(.int (-1 : Int32))]))
      have eqH : T10.heap = h1 := e10
      exact own_retI X10 hx hret hlk (hb hby fs_d57) (by decide) (by decide) (by rw [eqH]; exact ⟨(by rw [hr0, fs_f15, if_pos hc11]), N0, K0⟩)
    · refine own_st (fun _ k => XS.ifNo X10.here hx rfl (hb hby fs_d21) rfl ((if0 _ _).trans (feq hc11).1) k) ?_
      show own_Dn p e below s _ _ _ (T10.setTop (mkF m 24 #[ρ b0, ρ b1, ι 15, ι v3, s4] []))
      refine own_st (fun _ k => XS.aloadN X10.here hx rfl (hb hby fs_d24) rfl rfl k) ?_
      show own_Dn p e below s _ _ _ (T10.setTop (mkF m 25 #[ρ b0, ρ b1, ι 15, ι v3, s4] [(.ref b0)]))
      obtain ⟨T12, X12, e12, st12⟩ := getF X10 hx hZ hown (host := "") (Or.inl (own_w hw 102 rfl)) Via.refl e10 P9 (g := (mkF m 25 #[ρ b0, ρ b1, ι 15, ι v3, s4] [(.ref b0)])) rfl rfl (hb hby fs_d25)
      refine own_st st12 ?_
      show own_Dn p e below s _ _ _ (T12.setTop (mkF m 28 #[ρ b0, ρ b1, ι 15, ι v3, s4] [(.ref w_1)]))
      refine own_st (fun _ k => XS.iloadN X12.here hx rfl (hb hby fs_d28) rfl k) ?_
      show own_Dn p e below s _ _ _ (T12.setTop (mkF m 29 #[ρ b0, ρ b1, ι 15, ι v3, s4] [(.int v3), (.ref w_1)]))
      refine own_st (own_ldI (pc := 29) (L := #[ρ b0, ρ b1, ι 15, ι v3, s4]) (rest := []) X12 hx hZ e12 P10 (j := v3) (own_iF_b hi0).1 (own_iF_b hi0).2 (hb hby fs_d29)) ?_
      show own_Dn p e below s _ _ _ (T12.setTop (mkF m 30 #[ρ b0, ρ b1, ι 15, ι v3, s4] [(.int (w_F (v3).toNatClampNeg))]))
      refine own_st (fun _ k => XS.iconst X12.here hx rfl (hb hby fs_d30) (XS.isub X12.here hx rfl (hb hby fs_d31) rfl (XS.istore X12.here hx rfl (hb hby fs_d32) rfl (l' := #[ρ b0, ρ b1, ι 15, ι v3, .val (.int ((w_F (v3).toNatClampNeg) - (1 : Int32)))]) (XS.store1 rfl hs4 rfl) (XS.aloadN X12.here hx rfl (hb hby fs_d34) rfl rfl (XS.iload X12.here hx rfl (hb hby fs_d35) rfl (XS.aloadN X12.here hx rfl (hb hby fs_d37) rfl rfl k)))))) ?_
      show own_Dn p e below s _ _ _ (T12.setTop (mkF m 38 #[ρ b0, ρ b1, ι 15, ι v3, .val (.int ((w_F (v3).toNatClampNeg) - (1 : Int32)))] [(.ref b1), (.int ((w_F (v3).toNatClampNeg) - (1 : Int32))), (.ref b0)]))
      obtain ⟨cq13, q13, q13x⟩ := P1.cell
      obtain ⟨_, _, ⟨T13, L13, k13, n13⟩, -, X13, ⟨Lc13, hQ13, l13, y13, z13⟩, st13⟩ := X12.privateBack hx (y := (⟨ς1, "hasKey", "(I[I)Z"⟩ : MethodName)) hown (mvT hZ (own_w hw 207 rfl)) (mvT hZ (own_w hw 208 rfl)) (own_selp hZ (own_w hw 94 rfl) (own_w hw 208 rfl) (own_w hw 209 rfl) (by decide)) (Cond.privateMethod_at (mvP hZ (own_w hw 209 rfl) (args := #[]))) (mvT hZ (own_w hw 210 rfl)) (by decide) (backOf (W := 0) (hk_rm l Z a0 hw [] (b0) (((w_F (v3).toNatClampNeg) - (1 : Int32))) (b1) (w_r) (w_p) (w_d) (w_P) (w_D) (w_K) h1 n0 Z0 P1 P2 P3 P4 P5 P6 P7 P8 P11 hP (own_row hF (own_iF_b hi0).2 hc11)) hZ (own_w hw 210 rfl) (own_w hw 95 rfl) (by decide) (by decide)) (g := (mkF m 38 #[ρ b0, ρ b1, ι 15, ι v3, .val (.int ((w_F (v3).toNatClampNeg) - (1 : Int32)))] [(.ref b1), (.int ((w_F (v3).toNatClampNeg) - (1 : Int32))), (.ref b0)])) rfl (by rw [hml]; rfl) (Steps.refl _) (a := b0) (by rw [show T12.heap = h1 from e12]; exact q13) q13x (argsL := [(.int ((w_F (v3).toNatClampNeg) - (1 : Int32))), (.ref b1)]) (rest := []) (lenOf own_pd3 rfl) rfl (by show 2 * 0 + _ ≤ _; exact Nat.le_of_eq rfl) (hb hby fs_d38) (fun _ _ => ⟨rfl, e12, (by decide : 0 + 0 ≤ _), (by decide : 0 + 0 ≤ _)⟩)
      dsimp only [Pt.U, Pt.locs, Pt.cells, Pt.slots] at X13 l13 y13 z13 st13 hQ13
      subst l13 y13 z13
      obtain ⟨rfl, N13q, e13⟩ := hQ13
      have N13 := Fr.app N0 N13q
      refine own_tr st13 ?_
      show own_Dn p e below s _ _ _ (T13.setTop (mkF m 41 #[ρ b0, ρ b1, ι 15, ι v3, .val (.int ((w_F (v3).toNatClampNeg) - (1 : Int32)))] [(.int (hk_f ((w_F (v3).toNatClampNeg) - (1 : Int32)) w_P w_D w_K))]))
      by_cases hc14 : (hk_f ((w_F (v3).toNatClampNeg) - (1 : Int32)) w_P w_D w_K) = (0 : Int32)
      · refine own_st (fun _ k => XS.ifYes X13.here hx rfl (pc0 := 41) (pc' := 47) rfl (hb hby fs_d41) rfl ((if0 _ _).trans (teq hc14).1) (by decide) (by decide) k) ?_
        show own_Dn p e below s _ _ _ (T13.setTop (mkF m 47 #[ρ b0, ρ b1, ι 15, ι v3, .val (.int ((w_F (v3).toNatClampNeg) - (1 : Int32)))] []))
        refine own_st (fun _ k => XS.iloadN X13.here hx rfl (hb hby fs_d47) rfl (XS.iconst X13.here hx rfl (hb hby fs_d48) (XS.iadd X13.here hx rfl (hb hby fs_d49) rfl (XS.iloadN X13.here hx rfl (hb hby fs_d50) rfl (XS.iand X13.here hx rfl (hb hby fs_d51) rfl (XS.istoreN X13.here hx rfl (hb hby fs_d52) rfl (l' := #[ρ b0, ρ b1, ι 15, .val (.int ((v3 + (1 : Int32)) &&& (15 : Int32))), .val (.int ((w_F (v3).toNatClampNeg) - (1 : Int32)))]) rfl (XS.goto X13.here hx rfl (pc0 := 53) (pc' := 15) rfl (hb hby fs_d53) (by decide) (by decide) k))))))) ?_
        show own_Dn p e below s _ _ _ (T13.setTop (mkF m 15 #[ρ b0, ρ b1, ι 15, .val (.int ((v3 + (1 : Int32)) &&& (15 : Int32))), .val (.int ((w_F (v3).toNatClampNeg) - (1 : Int32)))] []))
        exact ih X13 e13 N13 (((v3 + (1 : Int32)) &&& (15 : Int32))) (.val (.int ((w_F (v3).toNatClampNeg) - (1 : Int32)))) ((One.val rfl)) Z0 P1 P2 P3 P4 P5 P6 P7 P8 P9 P10 P11 K0 (own_iF_step hi0 hc11) (by rw [hr0, fs_f15, if_neg hc11, if_pos hc14])
      · refine own_st (fun _ k => XS.ifNo X13.here hx rfl (hb hby fs_d41) rfl ((if0 _ _).trans (feq hc14).1) k) ?_
        show own_Dn p e below s _ _ _ (T13.setTop (mkF m 44 #[ρ b0, ρ b1, ι 15, ι v3, .val (.int ((w_F (v3).toNatClampNeg) - (1 : Int32)))] []))
        refine own_st (fun _ k => XS.iload X13.here hx rfl (hb hby fs_d44) rfl k) ?_
        show own_Dn p e below s _ _ _ (T13.setTop (mkF m 46 #[ρ b0, ρ b1, ι 15, ι v3, .val (.int ((w_F (v3).toNatClampNeg) - (1 : Int32)))] [(.int ((w_F (v3).toNatClampNeg) - (1 : Int32)))]))
        have eqH : T13.heap = h1 := e13
        exact own_retI X13 hx hret hlk (hb hby fs_d46) (by decide) (by decide) (by rw [eqH]; exact ⟨(by rw [hr0, fs_f15, if_neg hc11, if_neg hc14]), N13, K0⟩)
def fs_f (w_P : Nat → Int32) (w_D : Nat → Int32) (w_F : Nat → Int32) (w_K : Nat → Int32)  : Int32 :=
  fs_f15 16 w_P w_D w_F w_K (((ha_f w_K) &&& (15 : Int32)))
set_option maxRecDepth 65536 in
set_option maxHeartbeats 40000000 in
theorem fs_c0 {b0 : Addr} {b1 : Addr} {w_r : Addr} {w_p : Addr} {w_d : Addr} {w_P : Nat → Int32} {w_D : Nat → Int32} {w_1 : Addr} {w_F : Nat → Int32} {w_K : Nat → Int32} {locs : List Loc} {r0 : Int32} (C0 : own_Cx p s m meth c Z a0 prog_24_method_2_code 5 ς1 "first" (some .int)) (X0 : Stand p l e ({ frames := 2, cells := 0, slots := 0, locals := 30 } : Room) s m args below meth c T0 locs 0 0) (e0 : T0.heap = h0) (N0 : Fr n0 locs)  (Z0 : n0 ≤ h0.size) (P0 : Exa Z h0 b0 ς1) (P1 : Fld Z h0 b0 ς1 "this$0" ς2 (.ref w_r)) (P2 : Fld Z h0 b0 ς1 "positions" "[I" (.ref w_p)) (P3 : own_Arf Z h0 w_p .int 1 (fun i => (.int (w_P i)))) (P4 : Exa Z h0 w_r ς0) (P5 : Fld Z h0 w_r ς0 "data" "[I" (.ref w_d)) (P6 : Fld Z h0 w_r ς0 "arity" "I" (.int 1)) (P7 : own_Arf Z h0 w_d .int 16 (fun i => (.int (w_D i)))) (P8 : Fld Z h0 b0 ς1 "firsts" "[I" (.ref w_1)) (P9 : own_Arf Z h0 w_1 .int 16 (fun i => (.int (w_F i)))) (P10 : own_Arf Z h0 b1 .int 1 (fun i => (.int (w_K i)))) (hP : w_P 0 = 0) (hF : own_FB w_F) (hr0 : r0 = fs_f w_P w_D w_F w_K ) :
    own_Dn p e below s (fs_Q Z b0 b1 w_r w_p w_d w_P w_D w_1 w_F w_K r0 h0 n0) ({ frames := 2, cells := 0, slots := 0, locals := 30 } : Room).cells ({ frames := 2, cells := 0, slots := 0, locals := 30 } : Room).slots (T0.setTop (mkF m 0 #[ρ b0, ρ b1, υ, υ, υ] [])) := by
  obtain ⟨hx, hZ, hw, hby, hml, hown, hret, hlk, hnm⟩ := id C0
  refine own_st (fun _ k => XS.aloadN X0.here hx rfl (hb hby fs_d0) rfl rfl k) ?_
  show own_Dn p e below s _ _ _ (T0.setTop (mkF m 1 #[ρ b0, ρ b1, υ, υ, υ] [(.ref b0)]))
  obtain ⟨T8, X8, e8, st8⟩ := getF X0 hx hZ hown (host := "") (Or.inl (own_w hw 102 rfl)) Via.refl e0 P8 (g := (mkF m 1 #[ρ b0, ρ b1, υ, υ, υ] [(.ref b0)])) rfl rfl (hb hby fs_d1)
  refine own_st st8 ?_
  show own_Dn p e below s _ _ _ (T8.setTop (mkF m 4 #[ρ b0, ρ b1, υ, υ, υ] [(.ref w_1)]))
  refine own_st (own_len (pc := 4) (L := #[ρ b0, ρ b1, υ, υ, υ]) (rest := []) X8 hx hZ e8 P9 (z := (16 : Int32)) rfl (hb hby fs_d4)) ?_
  show own_Dn p e below s _ _ _ (T8.setTop (mkF m 5 #[ρ b0, ρ b1, υ, υ, υ] [(.int 16)]))
  refine own_st (fun _ k => XS.iconst X8.here hx rfl (hb hby fs_d5) (XS.isub X8.here hx rfl (hb hby fs_d6) rfl (XS.istoreN X8.here hx rfl (hb hby fs_d7) rfl (l' := #[ρ b0, ρ b1, ι 15, υ, υ]) rfl (XS.aloadN X8.here hx rfl (hb hby fs_d8) rfl rfl k)))) ?_
  show own_Dn p e below s _ _ _ (T8.setTop (mkF m 9 #[ρ b0, ρ b1, ι 15, υ, υ] [(.ref b1)]))
  obtain ⟨_, _, ⟨T9, L9, k9, n9⟩, -, X9, ⟨Lc9, hQ9, l9, y9, z9⟩, st9⟩ := Jvm.LawKit.callS X8 hx (y := (⟨ς1, "hash", "([I)I"⟩ : MethodName)) hown (mvT hZ (own_w hw 124 rfl)) (mvT hZ (own_w hw 125 rfl)) (mvT hZ (own_w hw 95 rfl)) (mvT hZ (own_w hw 126 rfl)) (by decide) (backOf (W := 0) (ha_rm l Z a0 hw [] (b1) (w_K) h0 n0 Z0 P10) hZ (own_w hw 126 rfl) (own_w hw 95 rfl) (by decide) (by decide)) (g := (mkF m 9 #[ρ b0, ρ b1, ι 15, υ, υ] [(.ref b1)])) rfl (by rw [hml]; rfl) (argsL := [(.ref b1)]) (rest := []) (lenOf own_pd2 rfl) rfl (by show 2 * 0 + _ ≤ _; exact Nat.le_of_eq rfl) (hb hby fs_d9) (fun _ _ => ⟨rfl, e8, (by decide : 0 + 0 ≤ _), (by decide : 0 + 0 ≤ _)⟩)
  dsimp only [Pt.U, Pt.locs, Pt.cells, Pt.slots] at X9 l9 y9 z9 st9 hQ9
  subst l9 y9 z9
  obtain ⟨rfl, N9q, e9⟩ := hQ9
  have N9 := Fr.app N0 N9q
  refine own_st st9 ?_
  show own_Dn p e below s _ _ _ (T9.setTop (mkF m 12 #[ρ b0, ρ b1, ι 15, υ, υ] [(.int (ha_f w_K))]))
  refine own_st (fun _ k => XS.iloadN X9.here hx rfl (hb hby fs_d12) rfl (XS.iand X9.here hx rfl (hb hby fs_d13) rfl (XS.istoreN X9.here hx rfl (hb hby fs_d14) rfl (l' := #[ρ b0, ρ b1, ι 15, .val (.int ((ha_f w_K) &&& (15 : Int32))), υ]) rfl k))) ?_
  show own_Dn p e below s _ _ _ (T9.setTop (mkF m 15 #[ρ b0, ρ b1, ι 15, .val (.int ((ha_f w_K) &&& (15 : Int32))), υ] []))
  exact fs_c15 C0 16 X9 e9 N9 (((ha_f w_K) &&& (15 : Int32))) (.unset) (One.u) Z0 P0 P1 P2 P3 P4 P5 P6 P7 P8 P9 P10 (Keep.refl h0 []) hP hF (own_iF_enter _ hF) (by rw [hr0, fs_f])
theorem fs_ef (m : MethodId) (b0 : Addr) (b1 : Addr) : entryFrame m #[(.ref b0), (.ref b1)] 5 = mkF m 0 #[.val (.ref b0), .val (.ref b1), .unset, .unset, .unset] [] := by first | (simp [entryFrame, mkF, argsToLocals, Value.category]; done) | rfl
theorem fs_rm (l : Launch) (Z : State) (a0 : Array Value) (hw : ∀ d ∈ tables_1, d.before a0 Z = true) (ws : List Jvm.Cond) (b0 : Addr) (b1 : Addr) (w_r : Addr) (w_p : Addr) (w_d : Addr) (w_P : Nat → Int32) (w_D : Nat → Int32) (w_1 : Addr) (w_F : Nat → Int32) (w_K : Nat → Int32) (h0 : Heap) (n0 : Nat) (Z0 : n0 ≤ h0.size) (P0 : Exa Z h0 b0 ς1) (P1 : Fld Z h0 b0 ς1 "this$0" ς2 (.ref w_r)) (P2 : Fld Z h0 b0 ς1 "positions" "[I" (.ref w_p)) (P3 : own_Arf Z h0 w_p .int 1 (fun i => (.int (w_P i)))) (P4 : Exa Z h0 w_r ς0) (P5 : Fld Z h0 w_r ς0 "data" "[I" (.ref w_d)) (P6 : Fld Z h0 w_r ς0 "arity" "I" (.int 1)) (P7 : own_Arf Z h0 w_d .int 16 (fun i => (.int (w_D i)))) (P8 : Fld Z h0 b0 ς1 "firsts" "[I" (.ref w_1)) (P9 : own_Arf Z h0 w_1 .int 16 (fun i => (.int (w_F i)))) (P10 : own_Arf Z h0 b1 .int 1 (fun i => (.int (w_K i)))) (hP : w_P 0 = 0) (hF : own_FB w_F) :
    MetFree l (⟨ς1, "first", "([I)I"⟩ : MethodName) (head1 (Jvm.Cond.code (⟨ς1, "first", "([I)I"⟩ : MethodName) prog_24_method_2_code 5 (some .int) :: ws) ({ frames := 2, cells := 0, slots := 0, locals := 30 } : Room)) (fun a U => a = #[(.ref b0), (.ref b1)] ∧ Z.Warmed39 U.vm ∧ U.heap = h0) (fun _ _ _ _ _ => True) (fun _ U o U' => ∃ v L, o = .returned v ∧ fs_Q Z b0 b1 w_r w_p w_d w_P w_D w_1 w_F w_K (fs_f w_P w_D w_F w_K) h0 n0 v U'.heap L ∧ FrameEnd U o U' L ({ frames := 2, cells := 0, slots := 0, locals := 30 } : Room).cells ({ frames := 2, cells := 0, slots := 0, locals := 30 } : Room).slots) :=
  own_met hw (plainFor_of_name (by first | (simp [plainName, overriddenIn]; done) | decide +kernel)) (fun p e s m below meth c T0 C0 X0 e0 => own_st (fun _ k => castTop (fs_ef m b0 b1) k) (fs_c0 C0 X0 e0 (Fr.nil n0) Z0 P0 P1 P2 P3 P4 P5 P6 P7 P8 P9 P10 hP hF rfl))
def own_ND (F D : Nat → Int32) (r : Int32) : Prop := ∀ i, i < 16 → ¬ F i = 0 → ¬ D ((F i) - (1 : Int32)).toNatClampNeg = D r.toNatClampNeg
theorem own_ko (r : Int32) {P D K : Nat → Int32} (hP : P 0 = 0) : (ko_g0 r P D K) 0 = D r.toNatClampNeg := by
  rw [ko_g0, own_upd, own_z0, if_pos rfl, gt_f, ← own_z0, own_ix hP]
theorem own_hk {P D K : Nat → Int32} {r q : Int32} (hP : P 0 = 0) (hK : K 0 = D q.toNatClampNeg) : (hk_f r P D K) = if D r.toNatClampNeg = D q.toNatClampNeg then (1 : Int32) else (0 : Int32) := by
  rw [hk_f, own_z0, hK, gt_f, ← own_z0, own_ix hP]
theorem own_nd {k : Nat} {F D P K : Nat → Int32} {v r : Int32} (hP : P 0 = 0) (hK : K 0 = D r.toNatClampNeg) (hnd : own_ND F D r) (hi : own_iF k F v) (hc : ¬ (F v.toNatClampNeg) = (0 : Int32)) : (hk_f ((F v.toNatClampNeg) - (1 : Int32)) P D K) = (0 : Int32) := by
  have h := hnd _ (own_iF_b hi).2 hc
  rw [own_hk hP hK, if_neg h]
theorem ia_d0 : decode prog_24_method_4_code 0 = .ok (.aload_n 0, 1) := by decide +kernel
theorem ia_d1 : decode prog_24_method_4_code 1 = .ok (.getfield 13, 3) := by decide +kernel
theorem ia_d4 : decode prog_24_method_4_code 4 = .ok (.arraylength, 1) := by decide +kernel
theorem ia_d5 : decode prog_24_method_4_code 5 = .ok (.iconst 1, 1) := by decide +kernel
theorem ia_d6 : decode prog_24_method_4_code 6 = .ok (.isub, 1) := by decide +kernel
theorem ia_d7 : decode prog_24_method_4_code 7 = .ok (.istore_n 2, 1) := by decide +kernel
theorem ia_d8 : decode prog_24_method_4_code 8 = .ok (.aload_n 0, 1) := by decide +kernel
theorem ia_d9 : decode prog_24_method_4_code 9 = .ok (.iload_n 1, 1) := by decide +kernel
theorem ia_d10 : decode prog_24_method_4_code 10 = .ok (.invokevirtual 37, 3) := by decide +kernel
theorem ia_d13 : decode prog_24_method_4_code 13 = .ok (.invokestatic 29, 3) := by decide +kernel
theorem ia_d16 : decode prog_24_method_4_code 16 = .ok (.iload_n 2, 1) := by decide +kernel
theorem ia_d17 : decode prog_24_method_4_code 17 = .ok (.iand, 1) := by decide +kernel
theorem ia_d18 : decode prog_24_method_4_code 18 = .ok (.istore_n 3, 1) := by decide +kernel
theorem ia_d19 : decode prog_24_method_4_code 19 = .ok (.aload_n 0, 1) := by decide +kernel
theorem ia_d20 : decode prog_24_method_4_code 20 = .ok (.getfield 13, 3) := by decide +kernel
theorem ia_d23 : decode prog_24_method_4_code 23 = .ok (.iload_n 3, 1) := by decide +kernel
theorem ia_d24 : decode prog_24_method_4_code 24 = .ok (.iaload, 1) := by decide +kernel
theorem ia_d25 : decode prog_24_method_4_code 25 = .ok (.ifCond .eq 31, 3) := by decide +kernel
theorem ia_d28 : decode prog_24_method_4_code 28 = .ok (.aload_n 0, 1) := by decide +kernel
theorem ia_d29 : decode prog_24_method_4_code 29 = .ok (.aload_n 0, 1) := by decide +kernel
theorem ia_d30 : decode prog_24_method_4_code 30 = .ok (.getfield 13, 3) := by decide +kernel
theorem ia_d33 : decode prog_24_method_4_code 33 = .ok (.iload_n 3, 1) := by decide +kernel
theorem ia_d34 : decode prog_24_method_4_code 34 = .ok (.iaload, 1) := by decide +kernel
theorem ia_d35 : decode prog_24_method_4_code 35 = .ok (.iconst 1, 1) := by decide +kernel
theorem ia_d36 : decode prog_24_method_4_code 36 = .ok (.isub, 1) := by decide +kernel
theorem ia_d37 : decode prog_24_method_4_code 37 = .ok (.aload_n 0, 1) := by decide +kernel
theorem ia_d38 : decode prog_24_method_4_code 38 = .ok (.getfield 26, 3) := by decide +kernel
theorem ia_d41 : decode prog_24_method_4_code 41 = .ok (.invokevirtual 33, 3) := by decide +kernel
theorem ia_d44 : decode prog_24_method_4_code 44 = .ok (.ifCond .ne 12, 3) := by decide +kernel
theorem ia_d47 : decode prog_24_method_4_code 47 = .ok (.iload_n 3, 1) := by decide +kernel
theorem ia_d48 : decode prog_24_method_4_code 48 = .ok (.iconst 1, 1) := by decide +kernel
theorem ia_d49 : decode prog_24_method_4_code 49 = .ok (.iadd, 1) := by decide +kernel
theorem ia_d50 : decode prog_24_method_4_code 50 = .ok (.iload_n 2, 1) := by decide +kernel
theorem ia_d51 : decode prog_24_method_4_code 51 = .ok (.iand, 1) := by decide +kernel
theorem ia_d52 : decode prog_24_method_4_code 52 = .ok (.istore_n 3, 1) := by decide +kernel
theorem ia_d53 : decode prog_24_method_4_code 53 = .ok (.goto (-34), 3) := by decide +kernel
theorem ia_d56 : decode prog_24_method_4_code 56 = .ok (.aload_n 0, 1) := by decide +kernel
theorem ia_d57 : decode prog_24_method_4_code 57 = .ok (.getfield 23, 3) := by decide +kernel
theorem ia_d60 : decode prog_24_method_4_code 60 = .ok (.ifnull 43, 3) := by decide +kernel
theorem ia_d103 : decode prog_24_method_4_code 103 = .ok (.aload_n 0, 1) := by decide +kernel
theorem ia_d104 : decode prog_24_method_4_code 104 = .ok (.getfield 53, 3) := by decide +kernel
theorem ia_d107 : decode prog_24_method_4_code 107 = .ok (.ifnull 53, 3) := by decide +kernel
theorem ia_d160 : decode prog_24_method_4_code 160 = .ok (.aload_n 0, 1) := by decide +kernel
theorem ia_d161 : decode prog_24_method_4_code 161 = .ok (.getfield 13, 3) := by decide +kernel
theorem ia_d164 : decode prog_24_method_4_code 164 = .ok (.iload_n 3, 1) := by decide +kernel
theorem ia_d165 : decode prog_24_method_4_code 165 = .ok (.iaload, 1) := by decide +kernel
theorem ia_d166 : decode prog_24_method_4_code 166 = .ok (.ifCond .eq 23, 3) := by decide +kernel
theorem ia_d189 : decode prog_24_method_4_code 189 = .ok (.aload_n 0, 1) := by decide +kernel
theorem ia_d190 : decode prog_24_method_4_code 190 = .ok (.getfield 13, 3) := by decide +kernel
theorem ia_d193 : decode prog_24_method_4_code 193 = .ok (.iload_n 3, 1) := by decide +kernel
theorem ia_d194 : decode prog_24_method_4_code 194 = .ok (.iload_n 1, 1) := by decide +kernel
theorem ia_d195 : decode prog_24_method_4_code 195 = .ok (.iconst 1, 1) := by decide +kernel
theorem ia_d196 : decode prog_24_method_4_code 196 = .ok (.iadd, 1) := by decide +kernel
theorem ia_d197 : decode prog_24_method_4_code 197 = .ok (.iastore, 1) := by decide +kernel
theorem ia_d198 : decode prog_24_method_4_code 198 = .ok (.aload_n 0, 1) := by decide +kernel
theorem ia_d199 : decode prog_24_method_4_code 199 = .ok (.getfield 17, 3) := by decide +kernel
theorem ia_d202 : decode prog_24_method_4_code 202 = .ok (.iload_n 3, 1) := by decide +kernel
theorem ia_d203 : decode prog_24_method_4_code 203 = .ok (.iload_n 1, 1) := by decide +kernel
theorem ia_d204 : decode prog_24_method_4_code 204 = .ok (.iastore, 1) := by decide +kernel
theorem ia_d205 : decode prog_24_method_4_code 205 = .ok (.aload_n 0, 1) := by decide +kernel
theorem ia_d206 : decode prog_24_method_4_code 206 = .ok (.dup, 1) := by decide +kernel
theorem ia_d207 : decode prog_24_method_4_code 207 = .ok (.getfield 56, 3) := by decide +kernel
theorem ia_d210 : decode prog_24_method_4_code 210 = .ok (.iconst 1, 1) := by decide +kernel
theorem ia_d211 : decode prog_24_method_4_code 211 = .ok (.iadd, 1) := by decide +kernel
theorem ia_d212 : decode prog_24_method_4_code 212 = .ok (.dup_x1, 1) := by decide +kernel
theorem ia_d213 : decode prog_24_method_4_code 213 = .ok (.putfield 56, 3) := by decide +kernel
theorem ia_d216 : decode prog_24_method_4_code 216 = .ok (.iconst 2, 1) := by decide +kernel
theorem ia_d217 : decode prog_24_method_4_code 217 = .ok (.imul, 1) := by decide +kernel
theorem ia_d218 : decode prog_24_method_4_code 218 = .ok (.aload_n 0, 1) := by decide +kernel
theorem ia_d219 : decode prog_24_method_4_code 219 = .ok (.getfield 13, 3) := by decide +kernel
theorem ia_d222 : decode prog_24_method_4_code 222 = .ok (.arraylength, 1) := by decide +kernel
theorem ia_d223 : decode prog_24_method_4_code 223 = .ok (.if_icmp .le 7, 3) := by decide +kernel
theorem ia_d230 : decode prog_24_method_4_code 230 = .ok (.return_, 1) := by decide +kernel
def ia_Q (Z : State) (b0 : Addr) (p1 : Int32) (w_r : Addr) (w_p : Addr) (w_d : Addr) (w_P : Nat → Int32) (w_D : Nat → Int32) (w_1 : Addr) (w_2 : Addr) (w_k : Addr) (w_F : Nat → Int32) (w_L : Nat → Int32) (w_K : Nat → Int32) (w_c : Int32) (y8 : Int32) (y9 : Nat → Int32) (y10 : Nat → Int32) (y11 : Nat → Int32) (h0 : Heap) (n0 : Nat) (v : Option Value) (h : Heap) (L : List Loc) : Prop := v = none ∧ Fr n0 L ∧ Keep h0 h [b0, w_1, w_2, w_k] ∧ Exa Z h b0 ς1 ∧ Fld Z h b0 ς1 "this$0" ς2 (.ref w_r) ∧ Fld Z h b0 ς1 "positions" "[I" (.ref w_p) ∧ Fld Z h b0 ς1 "firsts" "[I" (.ref w_1) ∧ Fld Z h b0 ς1 "lasts" "[I" (.ref w_2) ∧ Fld Z h b0 ς1 "rowKey" "[I" (.ref w_k) ∧ Fld Z h b0 ς1 "next" "[I" .null ∧ Fld Z h b0 ς1 "previous" "[I" .null ∧ Fld Z h b0 ς1 "keys" "I" (.int y8) ∧ own_Arf Z h w_1 .int 16 (fun i => (.int (y9 i))) ∧ own_Arf Z h w_2 .int 16 (fun i => (.int (y10 i))) ∧ own_Arf Z h w_k .int 1 (fun i => (.int (y11 i)))
def ia_g8_19 : Nat → (Int32) → (Nat → Int32) → (Nat → Int32) → (Nat → Int32) → (Nat → Int32) → (Nat → Int32) → (Int32) → (Int32) → (Nat → Int32) → (Int32)
  | 0, _, _, _, _, _, _, _, _, _ => 0
  | k + 1, p1, w_P, w_D, w_F, w_L, w_K, w_c, v3, w18 =>
    if (w_F (v3).toNatClampNeg) = (0 : Int32) then
      (w_c + (1 : Int32))
    else
      ia_g8_19 k p1 w_P w_D w_F w_L w_K w_c (((v3 + (1 : Int32)) &&& (15 : Int32))) (w18)
def ia_g9_19 : Nat → (Int32) → (Nat → Int32) → (Nat → Int32) → (Nat → Int32) → (Nat → Int32) → (Nat → Int32) → (Int32) → (Int32) → (Nat → Int32) → (Nat → Int32)
  | 0, _, _, _, _, _, _, _, _, _ => fun _ => 0
  | k + 1, p1, w_P, w_D, w_F, w_L, w_K, w_c, v3, w18 =>
    if (w_F (v3).toNatClampNeg) = (0 : Int32) then
      (own_upd w_F (v3).toNatClampNeg (p1 + (1 : Int32)))
    else
      ia_g9_19 k p1 w_P w_D w_F w_L w_K w_c (((v3 + (1 : Int32)) &&& (15 : Int32))) (w18)
def ia_g10_19 : Nat → (Int32) → (Nat → Int32) → (Nat → Int32) → (Nat → Int32) → (Nat → Int32) → (Nat → Int32) → (Int32) → (Int32) → (Nat → Int32) → (Nat → Int32)
  | 0, _, _, _, _, _, _, _, _, _ => fun _ => 0
  | k + 1, p1, w_P, w_D, w_F, w_L, w_K, w_c, v3, w18 =>
    if (w_F (v3).toNatClampNeg) = (0 : Int32) then
      (own_upd w_L (v3).toNatClampNeg p1)
    else
      ia_g10_19 k p1 w_P w_D w_F w_L w_K w_c (((v3 + (1 : Int32)) &&& (15 : Int32))) (w18)
def ia_g11_19 : Nat → (Int32) → (Nat → Int32) → (Nat → Int32) → (Nat → Int32) → (Nat → Int32) → (Nat → Int32) → (Int32) → (Int32) → (Nat → Int32) → (Nat → Int32)
  | 0, _, _, _, _, _, _, _, _, _ => fun _ => 0
  | k + 1, p1, w_P, w_D, w_F, w_L, w_K, w_c, v3, w18 =>
    if (w_F (v3).toNatClampNeg) = (0 : Int32) then
      w18
    else
      ia_g11_19 k p1 w_P w_D w_F w_L w_K w_c (((v3 + (1 : Int32)) &&& (15 : Int32))) (w18)
set_option maxRecDepth 65536 in
set_option maxHeartbeats 40000000 in
theorem ia_c19 {b0 : Addr} {p1 : Int32} {w_r : Addr} {w_p : Addr} {w_d : Addr} {w_P : Nat → Int32} {w_D : Nat → Int32} {w_1 : Addr} {w_2 : Addr} {w_k : Addr} {w_F : Nat → Int32} {w_L : Nat → Int32} {w_K : Nat → Int32} {w_c : Int32} {locs : List Loc} {y8 : Int32} {y9 : Nat → Int32} {y10 : Nat → Int32} {y11 : Nat → Int32} (C0 : own_Cx p s m meth c Z a0 prog_24_method_4_code 4 ς1 "add" none) (k : Nat) (X0 : Stand p l e ({ frames := 2, cells := 0, slots := 0, locals := 30 } : Room) s m args below meth c T0 locs 0 0) (e0 : T0.heap = h1) (N0 : Fr n0 locs) (v3 : Int32) (w18 : Nat → Int32) (Z0 : n0 ≤ h1.size) (P1 : Exa Z h1 b0 ς1) (P2 : Fld Z h1 b0 ς1 "this$0" ς2 (.ref w_r)) (P3 : Fld Z h1 b0 ς1 "positions" "[I" (.ref w_p)) (P4 : own_Arf Z h1 w_p .int 1 (fun i => (.int (w_P i)))) (P5 : Exa Z h1 w_r ς0) (P6 : Fld Z h1 w_r ς0 "data" "[I" (.ref w_d)) (P7 : Fld Z h1 w_r ς0 "arity" "I" (.int 1)) (P8 : own_Arf Z h1 w_d .int 16 (fun i => (.int (w_D i)))) (P9 : Fld Z h1 b0 ς1 "firsts" "[I" (.ref w_1)) (P10 : Fld Z h1 b0 ς1 "lasts" "[I" (.ref w_2)) (P11 : Fld Z h1 b0 ς1 "rowKey" "[I" (.ref w_k)) (P12 : Fld Z h1 b0 ς1 "next" "[I" .null) (P13 : Fld Z h1 b0 ς1 "previous" "[I" .null) (P14 : Fld Z h1 b0 ς1 "keys" "I" (.int w_c)) (P15 : own_Arf Z h1 w_1 .int 16 (fun i => (.int (w_F i)))) (P16 : own_Arf Z h1 w_2 .int 16 (fun i => (.int (w_L i)))) (K0 : Keep h0 h1 [b0, w_1, w_2, w_k]) (P18 : own_Arf Z h1 w_k .int 1 (fun i => (.int (w18 i)))) (kn0 : n0 ≤ b0) (kn1 : n0 ≤ w_1) (kn2 : n0 ≤ w_2) (kn3 : n0 ≤ w_k) (kn4 : b0 ≠ w_1) (kn5 : w_r ≠ w_1) (kn6 : w_p ≠ w_1) (kn7 : w_d ≠ w_1) (kn8 : b0 ≠ w_2) (kn9 : w_r ≠ w_2) (kn10 : w_p ≠ w_2) (kn11 : w_d ≠ w_2) (kn12 : b0 ≠ w_k) (kn13 : w_r ≠ w_k) (kn14 : w_p ≠ w_k) (kn15 : w_d ≠ w_k) (kn16 : w_1 ≠ w_2) (kn17 : w_1 ≠ w_k) (kn18 : w_2 ≠ w_k) (kn19 : b0 ≠ w_p) (kn20 : b0 ≠ w_d) (hP : w_P 0 = 0) (hF : own_FB w_F) (hr : 0 ≤ p1.toInt ∧ p1.toInt < 16) (hnd : own_ND w_F w_D p1) (hkeys : ¬ ((16 : Int32) < ((w_c + (1 : Int32)) * (2 : Int32)))) (hi0 : own_iF k w_F v3 ∧ w18 0 = w_D p1.toNatClampNeg) (hy8 : y8 = ia_g8_19 k p1 w_P w_D w_F w_L w_K w_c v3 w18) (hy9 : y9 = ia_g9_19 k p1 w_P w_D w_F w_L w_K w_c v3 w18) (hy10 : y10 = ia_g10_19 k p1 w_P w_D w_F w_L w_K w_c v3 w18) (hy11 : y11 = ia_g11_19 k p1 w_P w_D w_F w_L w_K w_c v3 w18) :
    own_Dn p e below s (ia_Q Z b0 p1 w_r w_p w_d w_P w_D w_1 w_2 w_k w_F w_L w_K w_c y8 y9 y10 y11 h0 n0) ({ frames := 2, cells := 0, slots := 0, locals := 30 } : Room).cells ({ frames := 2, cells := 0, slots := 0, locals := 30 } : Room).slots (T0.setTop (mkF m 19 #[ρ b0, ι p1, ι 15, ι v3] [])) := by
  induction k generalizing T0 locs h1 y8 y9 y10 y11 v3 w18 with
  | zero => exact absurd hi0 (fun q => own_iF_zero q.1)
  | succ k ih =>
    obtain ⟨hx, hZ, hw, hby, hml, hown, hret, hlk, hnm⟩ := id C0
    refine own_st (fun _ k => XS.aloadN X0.here hx rfl (hb hby ia_d19) rfl rfl k) ?_
    show own_Dn p e below s _ _ _ (T0.setTop (mkF m 20 #[ρ b0, ι p1, ι 15, ι v3] [(.ref b0)]))
    obtain ⟨T116, X116, e116, st116⟩ := getF X0 hx hZ hown (host := "") (Or.inl (own_w hw 102 rfl)) Via.refl e0 P9 (g := (mkF m 20 #[ρ b0, ι p1, ι 15, ι v3] [(.ref b0)])) rfl rfl (hb hby ia_d20)
    refine own_st st116 ?_
    show own_Dn p e below s _ _ _ (T116.setTop (mkF m 23 #[ρ b0, ι p1, ι 15, ι v3] [(.ref w_1)]))
    refine own_st (fun _ k => XS.iloadN X116.here hx rfl (hb hby ia_d23) rfl k) ?_
    show own_Dn p e below s _ _ _ (T116.setTop (mkF m 24 #[ρ b0, ι p1, ι 15, ι v3] [(.int v3), (.ref w_1)]))
    refine own_st (own_ldI (pc := 24) (L := #[ρ b0, ι p1, ι 15, ι v3]) (rest := []) X116 hx hZ e116 P15 (j := v3) (own_iF_b hi0.1).1 (own_iF_b hi0.1).2 (hb hby ia_d24)) ?_
    show own_Dn p e below s _ _ _ (T116.setTop (mkF m 25 #[ρ b0, ι p1, ι 15, ι v3] [(.int (w_F (v3).toNatClampNeg))]))
    by_cases hc117 : (w_F (v3).toNatClampNeg) = (0 : Int32)
    · refine own_st (fun _ k => XS.ifYes X116.here hx rfl (pc0 := 25) (pc' := 56) rfl (hb hby ia_d25) rfl ((if0 _ _).trans (teq hc117).1) (by decide) (by decide) k) ?_
      show own_Dn p e below s _ _ _ (T116.setTop (mkF m 56 #[ρ b0, ι p1, ι 15, ι v3] []))
      refine own_st (fun _ k => XS.aloadN X116.here hx rfl (hb hby ia_d56) rfl rfl k) ?_
      show own_Dn p e below s _ _ _ (T116.setTop (mkF m 57 #[ρ b0, ι p1, ι 15, ι v3] [(.ref b0)]))
      obtain ⟨T118, X118, e118, st118⟩ := getF X116 hx hZ hown (host := "") (Or.inl (own_w hw 108 rfl)) Via.refl e116 P12 (g := (mkF m 57 #[ρ b0, ι p1, ι 15, ι v3] [(.ref b0)])) rfl rfl (hb hby ia_d57)
      refine own_st st118 ?_
      show own_Dn p e below s _ _ _ (T118.setTop (mkF m 60 #[ρ b0, ι p1, ι 15, ι v3] [.null]))
      refine own_st (fun _ k => XS.ifnullYes X118.here hx rfl (pc0 := 60) (pc' := 103) rfl (hb hby ia_d60) rfl (by decide) (by decide) k) ?_
      show own_Dn p e below s _ _ _ (T118.setTop (mkF m 103 #[ρ b0, ι p1, ι 15, ι v3] []))
      refine own_st (fun _ k => XS.aloadN X118.here hx rfl (hb hby ia_d103) rfl rfl k) ?_
      show own_Dn p e below s _ _ _ (T118.setTop (mkF m 104 #[ρ b0, ι p1, ι 15, ι v3] [(.ref b0)]))
      obtain ⟨T119, X119, e119, st119⟩ := getF X118 hx hZ hown (host := "") (Or.inl (own_w hw 155 rfl)) Via.refl e118 P13 (g := (mkF m 104 #[ρ b0, ι p1, ι 15, ι v3] [(.ref b0)])) rfl rfl (hb hby ia_d104)
      refine own_st st119 ?_
      show own_Dn p e below s _ _ _ (T119.setTop (mkF m 107 #[ρ b0, ι p1, ι 15, ι v3] [.null]))
      refine own_st (fun _ k => XS.ifnullYes X119.here hx rfl (pc0 := 107) (pc' := 160) rfl (hb hby ia_d107) rfl (by decide) (by decide) k) ?_
      show own_Dn p e below s _ _ _ (T119.setTop (mkF m 160 #[ρ b0, ι p1, ι 15, ι v3] []))
      refine own_st (fun _ k => XS.aloadN X119.here hx rfl (hb hby ia_d160) rfl rfl k) ?_
      show own_Dn p e below s _ _ _ (T119.setTop (mkF m 161 #[ρ b0, ι p1, ι 15, ι v3] [(.ref b0)]))
      obtain ⟨T120, X120, e120, st120⟩ := getF X119 hx hZ hown (host := "") (Or.inl (own_w hw 102 rfl)) Via.refl e119 P9 (g := (mkF m 161 #[ρ b0, ι p1, ι 15, ι v3] [(.ref b0)])) rfl rfl (hb hby ia_d161)
      refine own_st st120 ?_
      show own_Dn p e below s _ _ _ (T120.setTop (mkF m 164 #[ρ b0, ι p1, ι 15, ι v3] [(.ref w_1)]))
      refine own_st (fun _ k => XS.iloadN X120.here hx rfl (hb hby ia_d164) rfl k) ?_
      show own_Dn p e below s _ _ _ (T120.setTop (mkF m 165 #[ρ b0, ι p1, ι 15, ι v3] [(.int v3), (.ref w_1)]))
      refine own_st (own_ldI (pc := 165) (L := #[ρ b0, ι p1, ι 15, ι v3]) (rest := []) X120 hx hZ e120 P15 (j := v3) (own_iF_b hi0.1).1 (own_iF_b hi0.1).2 (hb hby ia_d165)) ?_
      show own_Dn p e below s _ _ _ (T120.setTop (mkF m 166 #[ρ b0, ι p1, ι 15, ι v3] [(.int (w_F (v3).toNatClampNeg))]))
      refine own_st (fun _ k => XS.ifYes X120.here hx rfl (pc0 := 166) (pc' := 189) rfl (hb hby ia_d166) rfl ((if0 _ _).trans (teq hc117).1) (by decide) (by decide) k) ?_
      show own_Dn p e below s _ _ _ (T120.setTop (mkF m 189 #[ρ b0, ι p1, ι 15, ι v3] []))
      refine own_st (fun _ k => XS.aloadN X120.here hx rfl (hb hby ia_d189) rfl rfl k) ?_
      show own_Dn p e below s _ _ _ (T120.setTop (mkF m 190 #[ρ b0, ι p1, ι 15, ι v3] [(.ref b0)]))
      obtain ⟨T121, X121, e121, st121⟩ := getF X120 hx hZ hown (host := "") (Or.inl (own_w hw 102 rfl)) Via.refl e120 P9 (g := (mkF m 190 #[ρ b0, ι p1, ι 15, ι v3] [(.ref b0)])) rfl rfl (hb hby ia_d190)
      refine own_st st121 ?_
      show own_Dn p e below s _ _ _ (T121.setTop (mkF m 193 #[ρ b0, ι p1, ι 15, ι v3] [(.ref w_1)]))
      refine own_st (fun _ k => XS.iloadN X121.here hx rfl (hb hby ia_d193) rfl (XS.iloadN X121.here hx rfl (hb hby ia_d194) rfl (XS.iconst X121.here hx rfl (hb hby ia_d195) (XS.iadd X121.here hx rfl (hb hby ia_d196) rfl k)))) ?_
      show own_Dn p e below s _ _ _ (T121.setTop (mkF m 197 #[ρ b0, ι p1, ι 15, ι v3] [(.int (p1 + (1 : Int32))), (.int v3), (.ref w_1)]))
      obtain ⟨T122, h122, X122, e122, W122, F122a, st122⟩ := own_stI (pc := 197) (L := #[ρ b0, ι p1, ι 15, ι v3]) (rest := []) X121 hx hZ e121 P15 (j := v3) (x := (p1 + (1 : Int32))) (own_iF_b hi0.1).1 (own_iF_b hi0.1).2 (hb hby ia_d197)
      have N122 := Fr.snoc X122 N0 kn1
      have F123 : n0 ≤ h122.size := Nat.le_trans Z0 (Keep.of_wr W122).1
      have F124 := P1.wr W122
      have F125 := P2.other W122 (Or.inl kn4)
      have F126 := P3.other W122 (Or.inl kn4)
      have F127 := P4.other W122 kn6
      have F128 := P5.wr W122
      have F129 := P6.other W122 (Or.inl kn5)
      have F130 := P7.other W122 (Or.inl kn5)
      have F131 := P8.other W122 kn7
      have F132 := P9.other W122 (Or.inl kn4)
      have F133 := P10.other W122 (Or.inl kn4)
      have F134 := P11.other W122 (Or.inl kn4)
      have F135 := P12.other W122 (Or.inl kn4)
      have F136 := P13.other W122 (Or.inl kn4)
      have F137 := P14.other W122 (Or.inl kn4)
      have F138 := P16.other W122 (Ne.symm kn16)
      have F139 : Keep h0 h122 [b0, w_1, w_2, w_k] := K0.wr W122 (Or.inl (List.mem_of_getElem? (i := 1) rfl))
      have F140 := P18.other W122 (Ne.symm kn17)
      refine own_st st122 ?_
      show own_Dn p e below s _ _ _ (T122.setTop (mkF m 198 #[ρ b0, ι p1, ι 15, ι v3] []))
      refine own_st (fun _ k => XS.aloadN X122.here hx rfl (hb hby ia_d198) rfl rfl k) ?_
      show own_Dn p e below s _ _ _ (T122.setTop (mkF m 199 #[ρ b0, ι p1, ι 15, ι v3] [(.ref b0)]))
      obtain ⟨T141, X141, e141, st141⟩ := getF X122 hx hZ hown (host := "") (Or.inl (own_w hw 104 rfl)) Via.refl e122 F133 (g := (mkF m 199 #[ρ b0, ι p1, ι 15, ι v3] [(.ref b0)])) rfl rfl (hb hby ia_d199)
      refine own_st st141 ?_
      show own_Dn p e below s _ _ _ (T141.setTop (mkF m 202 #[ρ b0, ι p1, ι 15, ι v3] [(.ref w_2)]))
      refine own_st (fun _ k => XS.iloadN X141.here hx rfl (hb hby ia_d202) rfl (XS.iloadN X141.here hx rfl (hb hby ia_d203) rfl k)) ?_
      show own_Dn p e below s _ _ _ (T141.setTop (mkF m 204 #[ρ b0, ι p1, ι 15, ι v3] [(.int p1), (.int v3), (.ref w_2)]))
      obtain ⟨T142, h142, X142, e142, W142, F142a, st142⟩ := own_stI (pc := 204) (L := #[ρ b0, ι p1, ι 15, ι v3]) (rest := []) X141 hx hZ e141 F138 (j := v3) (x := p1) (own_iF_b hi0.1).1 (own_iF_b hi0.1).2 (hb hby ia_d204)
      have N142 := Fr.snoc X142 N122 kn2
      have F143 : n0 ≤ h142.size := Nat.le_trans F123 (Keep.of_wr W142).1
      have F144 := F124.wr W142
      have F145 := F125.other W142 (Or.inl kn8)
      have F146 := F126.other W142 (Or.inl kn8)
      have F147 := F127.other W142 kn10
      have F148 := F128.wr W142
      have F149 := F129.other W142 (Or.inl kn9)
      have F150 := F130.other W142 (Or.inl kn9)
      have F151 := F131.other W142 kn11
      have F152 := F132.other W142 (Or.inl kn8)
      have F153 := F133.other W142 (Or.inl kn8)
      have F154 := F134.other W142 (Or.inl kn8)
      have F155 := F135.other W142 (Or.inl kn8)
      have F156 := F136.other W142 (Or.inl kn8)
      have F157 := F137.other W142 (Or.inl kn8)
      have F158 : Keep h0 h142 [b0, w_1, w_2, w_k] := F139.wr W142 (Or.inl (List.mem_of_getElem? (i := 2) rfl))
      have F159 := F140.other W142 (Ne.symm kn18)
      have F160 := F122a.other W142 kn16
      refine own_st st142 ?_
      show own_Dn p e below s _ _ _ (T142.setTop (mkF m 205 #[ρ b0, ι p1, ι 15, ι v3] []))
      refine own_st (fun _ k => XS.aloadN X142.here hx rfl (hb hby ia_d205) rfl rfl (XS.dup X142.here hx rfl (hb hby ia_d206) rfl rfl k)) ?_
      show own_Dn p e below s _ _ _ (T142.setTop (mkF m 207 #[ρ b0, ι p1, ι 15, ι v3] [(.ref b0), (.ref b0)]))
      obtain ⟨T161, X161, e161, st161⟩ := getF X142 hx hZ hown (host := "") (Or.inl (own_w hw 157 rfl)) Via.refl e142 F157 (g := (mkF m 207 #[ρ b0, ι p1, ι 15, ι v3] [(.ref b0), (.ref b0)])) rfl rfl (hb hby ia_d207)
      refine own_st st161 ?_
      show own_Dn p e below s _ _ _ (T161.setTop (mkF m 210 #[ρ b0, ι p1, ι 15, ι v3] [(.int w_c), (.ref b0)]))
      refine own_st (fun _ k => XS.iconst X161.here hx rfl (hb hby ia_d210) (XS.iadd X161.here hx rfl (hb hby ia_d211) rfl (XS.dupX1 X161.here hx rfl (hb hby ia_d212) rfl rfl rfl k))) ?_
      show own_Dn p e below s _ _ _ (T161.setTop (mkF m 213 #[ρ b0, ι p1, ι 15, ι v3] [(.int (w_c + (1 : Int32))), (.ref b0), (.int (w_c + (1 : Int32)))]))
      obtain ⟨T162, h162, X162, e162, W162, st162⟩ := putF X161 hx hZ hown (host := "") (Or.inl (own_w hw 157 rfl)) Via.refl e161 F157 F144 (Or.inl (own_w hw 158 rfl)) (own_w hw 94 rfl) (ty := .int) (v := (.int (w_c + (1 : Int32)))) (by decide) rfl rfl (g := (mkF m 213 #[ρ b0, ι p1, ι 15, ι v3] [(.int (w_c + (1 : Int32))), (.ref b0), (.int (w_c + (1 : Int32)))])) rfl rfl (hb hby ia_d213)
      have N162 := Fr.snoc X162 N142 kn0
      have F163 : n0 ≤ h162.size := Nat.le_trans F143 (Keep.of_wr W162).1
      have F164 := F144.wr W162
      have F165 := F145.other W162 (Or.inr (slot_ne (Or.inr (own_w hw 100 rfl)) (Or.inl (own_w hw 158 rfl)) (by decide) (t := (.object ς0)) (t' := .int) (by decide) (by decide)))
      have F166 := F146.other W162 (Or.inr (slot_ne (Or.inr (own_w hw 107 rfl)) (Or.inl (own_w hw 158 rfl)) (by decide) (t := (.array .int)) (t' := .int) (by decide) (by decide)))
      have F167 := F147.other W162 (Ne.symm kn19)
      have F168 := F148.wr W162
      have F169 := F149.other W162 (Or.inl (ne_exa F148 F144 (by decide)))
      have F170 := F150.other W162 (Or.inl (ne_exa F148 F144 (by decide)))
      have F171 := F151.other W162 (Ne.symm kn20)
      have F172 := F152.other W162 (Or.inr (slot_ne (Or.inl (own_w hw 103 rfl)) (Or.inl (own_w hw 158 rfl)) (by decide) (t := (.array .int)) (t' := .int) (by decide) (by decide)))
      have F173 := F153.other W162 (Or.inr (slot_ne (Or.inl (own_w hw 105 rfl)) (Or.inl (own_w hw 158 rfl)) (by decide) (t := (.array .int)) (t' := .int) (by decide) (by decide)))
      have F174 := F154.other W162 (Or.inr (slot_ne (Or.inr (own_w hw 111 rfl)) (Or.inl (own_w hw 158 rfl)) (by decide) (t := (.array .int)) (t' := .int) (by decide) (by decide)))
      have F175 := F155.other W162 (Or.inr (slot_ne (Or.inl (own_w hw 109 rfl)) (Or.inl (own_w hw 158 rfl)) (by decide) (t := (.array .int)) (t' := .int) (by decide) (by decide)))
      have F176 := F156.other W162 (Or.inr (slot_ne (Or.inl (own_w hw 156 rfl)) (Or.inl (own_w hw 158 rfl)) (by decide) (t := (.array .int)) (t' := .int) (by decide) (by decide)))
      have F177 : Fld Z h162 b0 ς1 "keys" "I" (.int (w_c + (1 : Int32))) := F157.same W162
      have F178 : Keep h0 h162 [b0, w_1, w_2, w_k] := F158.wr W162 (Or.inl (List.mem_of_getElem? (i := 0) rfl))
      have F179 := F159.other W162 (Ne.symm kn12)
      have F180 := F160.other W162 (Ne.symm kn4)
      have F181 := F142a.other W162 (Ne.symm kn8)
      refine own_st st162 ?_
      show own_Dn p e below s _ _ _ (T162.setTop (mkF m 216 #[ρ b0, ι p1, ι 15, ι v3] [(.int (w_c + (1 : Int32)))]))
      refine own_st (fun _ k => XS.iconst X162.here hx rfl (hb hby ia_d216) (XS.imul X162.here hx rfl (hb hby ia_d217) rfl (XS.aloadN X162.here hx rfl (hb hby ia_d218) rfl rfl k))) ?_
      show own_Dn p e below s _ _ _ (T162.setTop (mkF m 219 #[ρ b0, ι p1, ι 15, ι v3] [(.ref b0), (.int ((w_c + (1 : Int32)) * (2 : Int32)))]))
      obtain ⟨T182, X182, e182, st182⟩ := getF X162 hx hZ hown (host := "") (Or.inl (own_w hw 102 rfl)) Via.refl e162 F172 (g := (mkF m 219 #[ρ b0, ι p1, ι 15, ι v3] [(.ref b0), (.int ((w_c + (1 : Int32)) * (2 : Int32)))])) rfl rfl (hb hby ia_d219)
      refine own_st st182 ?_
      show own_Dn p e below s _ _ _ (T182.setTop (mkF m 222 #[ρ b0, ι p1, ι 15, ι v3] [(.ref w_1), (.int ((w_c + (1 : Int32)) * (2 : Int32)))]))
      refine own_st (own_len (pc := 222) (L := #[ρ b0, ι p1, ι 15, ι v3]) (rest := [(.int ((w_c + (1 : Int32)) * (2 : Int32)))]) X182 hx hZ e182 F180 (z := (16 : Int32)) rfl (hb hby ia_d222)) ?_
      show own_Dn p e below s _ _ _ (T182.setTop (mkF m 223 #[ρ b0, ι p1, ι 15, ι v3] [(.int 16), (.int ((w_c + (1 : Int32)) * (2 : Int32)))]))
      refine own_st (fun _ k => XS.icmpYes X182.here hx rfl (pc0 := 223) (pc' := 230) rfl (hb hby ia_d223) rfl (flt hkeys).2.2.2 (by decide) (by decide) k) ?_
      show own_Dn p e below s _ _ _ (T182.setTop (mkF m 230 #[ρ b0, ι p1, ι 15, ι v3] []))
      have eqH : T182.heap = h162 := e182
      exact own_retV X182 hx hret hlk (hb hby ia_d230) (by decide) (by decide) (by rw [eqH]; exact ⟨rfl, N162, F178, F164, F165, F166, F172, F173, F174, F175, F176, (by rw [hy8, ia_g8_19, if_pos hc117]; exact F177), (by rw [hy9, ia_g9_19, if_pos hc117]; exact F180), (by rw [hy10, ia_g10_19, if_pos hc117]; exact F181), (by rw [hy11, ia_g11_19, if_pos hc117]; exact F179)⟩)
    · refine own_st (fun _ k => XS.ifNo X116.here hx rfl (hb hby ia_d25) rfl ((if0 _ _).trans (feq hc117).1) k) ?_
      show own_Dn p e below s _ _ _ (T116.setTop (mkF m 28 #[ρ b0, ι p1, ι 15, ι v3] []))
      refine own_st (fun _ k => XS.aloadN X116.here hx rfl (hb hby ia_d28) rfl rfl (XS.aloadN X116.here hx rfl (hb hby ia_d29) rfl rfl k)) ?_
      show own_Dn p e below s _ _ _ (T116.setTop (mkF m 30 #[ρ b0, ι p1, ι 15, ι v3] [(.ref b0), (.ref b0)]))
      obtain ⟨T183, X183, e183, st183⟩ := getF X116 hx hZ hown (host := "") (Or.inl (own_w hw 102 rfl)) Via.refl e116 P9 (g := (mkF m 30 #[ρ b0, ι p1, ι 15, ι v3] [(.ref b0), (.ref b0)])) rfl rfl (hb hby ia_d30)
      refine own_st st183 ?_
      show own_Dn p e below s _ _ _ (T183.setTop (mkF m 33 #[ρ b0, ι p1, ι 15, ι v3] [(.ref w_1), (.ref b0)]))
      refine own_st (fun _ k => XS.iloadN X183.here hx rfl (hb hby ia_d33) rfl k) ?_
      show own_Dn p e below s _ _ _ (T183.setTop (mkF m 34 #[ρ b0, ι p1, ι 15, ι v3] [(.int v3), (.ref w_1), (.ref b0)]))
      refine own_st (own_ldI (pc := 34) (L := #[ρ b0, ι p1, ι 15, ι v3]) (rest := [(.ref b0)]) X183 hx hZ e183 P15 (j := v3) (own_iF_b hi0.1).1 (own_iF_b hi0.1).2 (hb hby ia_d34)) ?_
      show own_Dn p e below s _ _ _ (T183.setTop (mkF m 35 #[ρ b0, ι p1, ι 15, ι v3] [(.int (w_F (v3).toNatClampNeg)), (.ref b0)]))
      refine own_st (fun _ k => XS.iconst X183.here hx rfl (hb hby ia_d35) (XS.isub X183.here hx rfl (hb hby ia_d36) rfl (XS.aloadN X183.here hx rfl (hb hby ia_d37) rfl rfl k))) ?_
      show own_Dn p e below s _ _ _ (T183.setTop (mkF m 38 #[ρ b0, ι p1, ι 15, ι v3] [(.ref b0), (.int ((w_F (v3).toNatClampNeg) - (1 : Int32))), (.ref b0)]))
      obtain ⟨T184, X184, e184, st184⟩ := getF X183 hx hZ hown (host := "") (Or.inl (own_w hw 110 rfl)) Via.refl e183 P11 (g := (mkF m 38 #[ρ b0, ι p1, ι 15, ι v3] [(.ref b0), (.int ((w_F (v3).toNatClampNeg) - (1 : Int32))), (.ref b0)])) rfl rfl (hb hby ia_d38)
      refine own_st st184 ?_
      show own_Dn p e below s _ _ _ (T184.setTop (mkF m 41 #[ρ b0, ι p1, ι 15, ι v3] [(.ref w_k), (.int ((w_F (v3).toNatClampNeg) - (1 : Int32))), (.ref b0)]))
      obtain ⟨cq185, q185, q185x⟩ := P1.cell
      obtain ⟨_, _, ⟨T185, L185, k185, n185⟩, -, X185, ⟨Lc185, hQ185, l185, y185, z185⟩, st185⟩ := X184.privateBack hx (y := (⟨ς1, "hasKey", "(I[I)Z"⟩ : MethodName)) hown (mvT hZ (own_w hw 207 rfl)) (mvT hZ (own_w hw 208 rfl)) (own_selp hZ (own_w hw 94 rfl) (own_w hw 208 rfl) (own_w hw 209 rfl) (by decide)) (Cond.privateMethod_at (mvP hZ (own_w hw 209 rfl) (args := #[]))) (mvT hZ (own_w hw 210 rfl)) (by decide) (backOf (W := 0) (hk_rm l Z a0 hw [] (b0) (((w_F (v3).toNatClampNeg) - (1 : Int32))) (w_k) (w_r) (w_p) (w_d) (w_P) (w_D) (w18) h1 n0 Z0 P1 P2 P3 P4 P5 P6 P7 P8 P18 hP (own_row hF (own_iF_b hi0.1).2 hc117)) hZ (own_w hw 210 rfl) (own_w hw 95 rfl) (by decide) (by decide)) (g := (mkF m 41 #[ρ b0, ι p1, ι 15, ι v3] [(.ref w_k), (.int ((w_F (v3).toNatClampNeg) - (1 : Int32))), (.ref b0)])) rfl (by rw [hml]; rfl) (Steps.refl _) (a := b0) (by rw [show T184.heap = h1 from e184]; exact q185) q185x (argsL := [(.int ((w_F (v3).toNatClampNeg) - (1 : Int32))), (.ref w_k)]) (rest := []) (lenOf own_pd3 rfl) rfl (by show 2 * 0 + _ ≤ _; exact Nat.le_of_eq rfl) (hb hby ia_d41) (fun _ _ => ⟨rfl, e184, (by decide : 0 + 0 ≤ _), (by decide : 0 + 0 ≤ _)⟩)
      dsimp only [Pt.U, Pt.locs, Pt.cells, Pt.slots] at X185 l185 y185 z185 st185 hQ185
      subst l185 y185 z185
      obtain ⟨rfl, N185q, e185⟩ := hQ185
      have N185 := Fr.app N0 N185q
      refine own_tr st185 ?_
      have ha186 : (hk_f ((w_F (v3).toNatClampNeg) - (1 : Int32)) w_P w_D w18) = (0 : Int32) := (own_nd hP hi0.2 hnd hi0.1 hc117)
      show own_Dn p e below s _ _ _ (T185.setTop (mkF m 44 #[ρ b0, ι p1, ι 15, ι v3] [(.int (hk_f ((w_F (v3).toNatClampNeg) - (1 : Int32)) w_P w_D w18))]))
      refine own_st (fun _ k => XS.ifNo X185.here hx rfl (hb hby ia_d44) rfl ((if0 _ _).trans (teq ha186).2) k) ?_
      show own_Dn p e below s _ _ _ (T185.setTop (mkF m 47 #[ρ b0, ι p1, ι 15, ι v3] []))
      refine own_st (fun _ k => XS.iloadN X185.here hx rfl (hb hby ia_d47) rfl (XS.iconst X185.here hx rfl (hb hby ia_d48) (XS.iadd X185.here hx rfl (hb hby ia_d49) rfl (XS.iloadN X185.here hx rfl (hb hby ia_d50) rfl (XS.iand X185.here hx rfl (hb hby ia_d51) rfl (XS.istoreN X185.here hx rfl (hb hby ia_d52) rfl (l' := #[ρ b0, ι p1, ι 15, .val (.int ((v3 + (1 : Int32)) &&& (15 : Int32)))]) rfl (XS.goto X185.here hx rfl (pc0 := 53) (pc' := 19) rfl (hb hby ia_d53) (by decide) (by decide) k))))))) ?_
      show own_Dn p e below s _ _ _ (T185.setTop (mkF m 19 #[ρ b0, ι p1, ι 15, .val (.int ((v3 + (1 : Int32)) &&& (15 : Int32)))] []))
      exact ih X185 e185 N185 (((v3 + (1 : Int32)) &&& (15 : Int32))) (w18) Z0 P1 P2 P3 P4 P5 P6 P7 P8 P9 P10 P11 P12 P13 P14 P15 P16 K0 P18 ⟨own_iF_step hi0.1 hc117, hi0.2⟩ (by rw [hy8, ia_g8_19, if_neg hc117]) (by rw [hy9, ia_g9_19, if_neg hc117]) (by rw [hy10, ia_g10_19, if_neg hc117]) (by rw [hy11, ia_g11_19, if_neg hc117])
def ia_g8 (p1 : Int32) (w_P : Nat → Int32) (w_D : Nat → Int32) (w_F : Nat → Int32) (w_L : Nat → Int32) (w_K : Nat → Int32) (w_c : Int32)  : Int32 :=
  ia_g8_19 16 p1 w_P w_D w_F w_L w_K w_c (((ha_f (ko_g0 p1 w_P w_D w_K)) &&& (15 : Int32))) ((ko_g0 p1 w_P w_D w_K))
def ia_g9 (p1 : Int32) (w_P : Nat → Int32) (w_D : Nat → Int32) (w_F : Nat → Int32) (w_L : Nat → Int32) (w_K : Nat → Int32) (w_c : Int32)  : Nat → Int32 :=
  ia_g9_19 16 p1 w_P w_D w_F w_L w_K w_c (((ha_f (ko_g0 p1 w_P w_D w_K)) &&& (15 : Int32))) ((ko_g0 p1 w_P w_D w_K))
def ia_g10 (p1 : Int32) (w_P : Nat → Int32) (w_D : Nat → Int32) (w_F : Nat → Int32) (w_L : Nat → Int32) (w_K : Nat → Int32) (w_c : Int32)  : Nat → Int32 :=
  ia_g10_19 16 p1 w_P w_D w_F w_L w_K w_c (((ha_f (ko_g0 p1 w_P w_D w_K)) &&& (15 : Int32))) ((ko_g0 p1 w_P w_D w_K))
def ia_g11 (p1 : Int32) (w_P : Nat → Int32) (w_D : Nat → Int32) (w_F : Nat → Int32) (w_L : Nat → Int32) (w_K : Nat → Int32) (w_c : Int32)  : Nat → Int32 :=
  ia_g11_19 16 p1 w_P w_D w_F w_L w_K w_c (((ha_f (ko_g0 p1 w_P w_D w_K)) &&& (15 : Int32))) ((ko_g0 p1 w_P w_D w_K))
set_option maxRecDepth 65536 in
set_option maxHeartbeats 40000000 in
theorem ia_c0 {b0 : Addr} {p1 : Int32} {w_r : Addr} {w_p : Addr} {w_d : Addr} {w_P : Nat → Int32} {w_D : Nat → Int32} {w_1 : Addr} {w_2 : Addr} {w_k : Addr} {w_F : Nat → Int32} {w_L : Nat → Int32} {w_K : Nat → Int32} {w_c : Int32} {locs : List Loc} {y8 : Int32} {y9 : Nat → Int32} {y10 : Nat → Int32} {y11 : Nat → Int32} (C0 : own_Cx p s m meth c Z a0 prog_24_method_4_code 4 ς1 "add" none) (X0 : Stand p l e ({ frames := 2, cells := 0, slots := 0, locals := 30 } : Room) s m args below meth c T0 locs 0 0) (e0 : T0.heap = h0) (N0 : Fr n0 locs)  (Z0 : n0 ≤ h0.size) (P0 : Exa Z h0 b0 ς1) (P1 : Fld Z h0 b0 ς1 "this$0" ς2 (.ref w_r)) (P2 : Fld Z h0 b0 ς1 "positions" "[I" (.ref w_p)) (P3 : own_Arf Z h0 w_p .int 1 (fun i => (.int (w_P i)))) (P4 : Exa Z h0 w_r ς0) (P5 : Fld Z h0 w_r ς0 "data" "[I" (.ref w_d)) (P6 : Fld Z h0 w_r ς0 "arity" "I" (.int 1)) (P7 : own_Arf Z h0 w_d .int 16 (fun i => (.int (w_D i)))) (P8 : Fld Z h0 b0 ς1 "firsts" "[I" (.ref w_1)) (P9 : Fld Z h0 b0 ς1 "lasts" "[I" (.ref w_2)) (P10 : Fld Z h0 b0 ς1 "rowKey" "[I" (.ref w_k)) (P11 : Fld Z h0 b0 ς1 "next" "[I" .null) (P12 : Fld Z h0 b0 ς1 "previous" "[I" .null) (P13 : Fld Z h0 b0 ς1 "keys" "I" (.int w_c)) (P14 : own_Arf Z h0 w_1 .int 16 (fun i => (.int (w_F i)))) (P15 : own_Arf Z h0 w_2 .int 16 (fun i => (.int (w_L i)))) (P16 : own_Arf Z h0 w_k .int 1 (fun i => (.int (w_K i)))) (ge_b0 : n0 ≤ b0) (ge_w_1 : n0 ≤ w_1) (ge_w_2 : n0 ≤ w_2) (ge_w_k : n0 ≤ w_k) (nes0 : b0 ≠ w_1) (nes1 : w_r ≠ w_1) (nes2 : w_p ≠ w_1) (nes3 : w_d ≠ w_1) (nes4 : b0 ≠ w_2) (nes5 : w_r ≠ w_2) (nes6 : w_p ≠ w_2) (nes7 : w_d ≠ w_2) (nes8 : b0 ≠ w_k) (nes9 : w_r ≠ w_k) (nes10 : w_p ≠ w_k) (nes11 : w_d ≠ w_k) (nes12 : w_1 ≠ w_2) (nes13 : w_1 ≠ w_k) (nes14 : w_2 ≠ w_k) (nes15 : b0 ≠ w_p) (nes16 : b0 ≠ w_d) (hP : w_P 0 = 0) (hF : own_FB w_F) (hr : 0 ≤ p1.toInt ∧ p1.toInt < 16) (hnd : own_ND w_F w_D p1) (hkeys : ¬ ((16 : Int32) < ((w_c + (1 : Int32)) * (2 : Int32)))) (hy8 : y8 = ia_g8 p1 w_P w_D w_F w_L w_K w_c ) (hy9 : y9 = ia_g9 p1 w_P w_D w_F w_L w_K w_c ) (hy10 : y10 = ia_g10 p1 w_P w_D w_F w_L w_K w_c ) (hy11 : y11 = ia_g11 p1 w_P w_D w_F w_L w_K w_c ) :
    own_Dn p e below s (ia_Q Z b0 p1 w_r w_p w_d w_P w_D w_1 w_2 w_k w_F w_L w_K w_c y8 y9 y10 y11 h0 n0) ({ frames := 2, cells := 0, slots := 0, locals := 30 } : Room).cells ({ frames := 2, cells := 0, slots := 0, locals := 30 } : Room).slots (T0.setTop (mkF m 0 #[ρ b0, ι p1, υ, υ] [])) := by
  obtain ⟨hx, hZ, hw, hby, hml, hown, hret, hlk, hnm⟩ := id C0
  refine own_st (fun _ k => XS.aloadN X0.here hx rfl (hb hby ia_d0) rfl rfl k) ?_
  show own_Dn p e below s _ _ _ (T0.setTop (mkF m 1 #[ρ b0, ι p1, υ, υ] [(.ref b0)]))
  obtain ⟨T94, X94, e94, st94⟩ := getF X0 hx hZ hown (host := "") (Or.inl (own_w hw 102 rfl)) Via.refl e0 P8 (g := (mkF m 1 #[ρ b0, ι p1, υ, υ] [(.ref b0)])) rfl rfl (hb hby ia_d1)
  refine own_st st94 ?_
  show own_Dn p e below s _ _ _ (T94.setTop (mkF m 4 #[ρ b0, ι p1, υ, υ] [(.ref w_1)]))
  refine own_st (own_len (pc := 4) (L := #[ρ b0, ι p1, υ, υ]) (rest := []) X94 hx hZ e94 P14 (z := (16 : Int32)) rfl (hb hby ia_d4)) ?_
  show own_Dn p e below s _ _ _ (T94.setTop (mkF m 5 #[ρ b0, ι p1, υ, υ] [(.int 16)]))
  refine own_st (fun _ k => XS.iconst X94.here hx rfl (hb hby ia_d5) (XS.isub X94.here hx rfl (hb hby ia_d6) rfl (XS.istoreN X94.here hx rfl (hb hby ia_d7) rfl (l' := #[ρ b0, ι p1, ι 15, υ]) rfl (XS.aloadN X94.here hx rfl (hb hby ia_d8) rfl rfl (XS.iloadN X94.here hx rfl (hb hby ia_d9) rfl k))))) ?_
  show own_Dn p e below s _ _ _ (T94.setTop (mkF m 10 #[ρ b0, ι p1, ι 15, υ] [(.int p1), (.ref b0)]))
  obtain ⟨cq95, q95, q95x⟩ := P0.cell
  obtain ⟨_, _, ⟨T95, L95, k95, n95⟩, -, X95, ⟨Lc95, hQ95, l95, y95, z95⟩, st95⟩ := X94.privateBack hx (y := (⟨ς1, "keyOf", "(I)[I"⟩ : MethodName)) hown (mvT hZ (own_w hw 146 rfl)) (mvT hZ (own_w hw 147 rfl)) (own_selp hZ (own_w hw 94 rfl) (own_w hw 147 rfl) (own_w hw 148 rfl) (by decide)) (Cond.privateMethod_at (mvP hZ (own_w hw 148 rfl) (args := #[]))) (mvT hZ (own_w hw 149 rfl)) (by decide) (backOf (W := 0) (ko_rm l Z a0 hw [] (b0) (p1) (w_r) (w_p) (w_d) (w_P) (w_D) (w_k) (w_K) h0 n0 Z0 P0 P1 P2 P3 P4 P5 P6 P7 P10 P16 ge_w_k nes8 nes9 nes10 nes11 hP hr) hZ (own_w hw 149 rfl) (own_w hw 95 rfl) (by decide) (by decide)) (g := (mkF m 10 #[ρ b0, ι p1, ι 15, υ] [(.int p1), (.ref b0)])) rfl (by rw [hml]; rfl) (Steps.refl _) (a := b0) (by rw [show T94.heap = h0 from e94]; exact q95) q95x (argsL := [(.int p1)]) (rest := []) (lenOf own_pd4 rfl) rfl (by show 2 * 0 + _ ≤ _; exact Nat.le_of_eq rfl) (hb hby ia_d10) (fun _ _ => ⟨rfl, e94, (by decide : 0 + 0 ≤ _), (by decide : 0 + 0 ≤ _)⟩)
  dsimp only [Pt.U, Pt.locs, Pt.cells, Pt.slots] at X95 l95 y95 z95 st95 hQ95
  subst l95 y95 z95
  obtain ⟨rfl, N95q, K95, G96⟩ := hQ95
  have F97 : n0 ≤ T95.heap.size := Nat.le_trans Z0 K95.1
  have F98 := P0.keep K95
  have F99 := P1.keep K95 (ninS nes8 nin0)
  have F100 := P2.keep K95 (ninS nes8 nin0)
  have F101 := P3.keep K95 (ninS nes10 nin0)
  have F102 := P4.keep K95
  have F103 := P5.keep K95 (ninS nes9 nin0)
  have F104 := P6.keep K95 (ninS nes9 nin0)
  have F105 := P7.keep K95 (ninS nes11 nin0)
  have F106 := P8.keep K95 (ninS nes8 nin0)
  have F107 := P9.keep K95 (ninS nes8 nin0)
  have F108 := P10.keep K95 (ninS nes8 nin0)
  have F109 := P11.keep K95 (ninS nes8 nin0)
  have F110 := P12.keep K95 (ninS nes8 nin0)
  have F111 := P13.keep K95 (ninS nes8 nin0)
  have F112 := P14.keep K95 (ninS nes13 nin0)
  have F113 := P15.keep K95 (ninS nes14 nin0)
  have F114 : Keep h0 T95.heap [b0, w_1, w_2, w_k] := (Keep.refl h0 [b0, w_1, w_2, w_k]).trans K95 (allS (Or.inl (List.mem_of_getElem? (i := 3) rfl)) all0)
  have N95 := Fr.app N0 N95q
  refine own_tr st95 ?_
  show own_Dn p e below s _ _ _ (T95.setTop (mkF m 13 #[ρ b0, ι p1, ι 15, υ] [(.ref w_k)]))
  obtain ⟨_, _, ⟨T115, L115, k115, n115⟩, -, X115, ⟨Lc115, hQ115, l115, y115, z115⟩, st115⟩ := Jvm.LawKit.callS X95 hx (y := (⟨ς1, "hash", "([I)I"⟩ : MethodName)) hown (mvT hZ (own_w hw 124 rfl)) (mvT hZ (own_w hw 125 rfl)) (mvT hZ (own_w hw 95 rfl)) (mvT hZ (own_w hw 126 rfl)) (by decide) (backOf (W := 0) (ha_rm l Z a0 hw [] (w_k) ((ko_g0 p1 w_P w_D w_K)) T95.heap n0 F97 G96) hZ (own_w hw 126 rfl) (own_w hw 95 rfl) (by decide) (by decide)) (g := (mkF m 13 #[ρ b0, ι p1, ι 15, υ] [(.ref w_k)])) rfl (by rw [hml]; rfl) (argsL := [(.ref w_k)]) (rest := []) (lenOf own_pd2 rfl) rfl (by show 2 * 0 + _ ≤ _; exact Nat.le_of_eq rfl) (hb hby ia_d13) (fun _ _ => ⟨rfl, rfl, (by decide : 0 + 0 ≤ _), (by decide : 0 + 0 ≤ _)⟩)
  dsimp only [Pt.U, Pt.locs, Pt.cells, Pt.slots] at X115 l115 y115 z115 st115 hQ115
  subst l115 y115 z115
  obtain ⟨rfl, N115q, e115⟩ := hQ115
  have N115 := Fr.app N95 N115q
  refine own_st st115 ?_
  show own_Dn p e below s _ _ _ (T115.setTop (mkF m 16 #[ρ b0, ι p1, ι 15, υ] [(.int (ha_f (ko_g0 p1 w_P w_D w_K)))]))
  refine own_st (fun _ k => XS.iloadN X115.here hx rfl (hb hby ia_d16) rfl (XS.iand X115.here hx rfl (hb hby ia_d17) rfl (XS.istoreN X115.here hx rfl (hb hby ia_d18) rfl (l' := #[ρ b0, ι p1, ι 15, .val (.int ((ha_f (ko_g0 p1 w_P w_D w_K)) &&& (15 : Int32)))]) rfl k))) ?_
  show own_Dn p e below s _ _ _ (T115.setTop (mkF m 19 #[ρ b0, ι p1, ι 15, .val (.int ((ha_f (ko_g0 p1 w_P w_D w_K)) &&& (15 : Int32)))] []))
  exact ia_c19 C0 16 X115 e115 N115 (((ha_f (ko_g0 p1 w_P w_D w_K)) &&& (15 : Int32))) ((ko_g0 p1 w_P w_D w_K)) F97 F98 F99 F100 F101 F102 F103 F104 F105 F106 F107 F108 F109 F110 F111 F112 F113 F114 G96 ge_b0 ge_w_1 ge_w_2 ge_w_k nes0 nes1 nes2 nes3 nes4 nes5 nes6 nes7 nes8 nes9 nes10 nes11 nes12 nes13 nes14 nes15 nes16 hP hF hr hnd hkeys ⟨own_iF_enter _ hF, own_ko p1 hP⟩ (by rw [hy8, ia_g8]) (by rw [hy9, ia_g9]) (by rw [hy10, ia_g10]) (by rw [hy11, ia_g11])
theorem ia_ef (m : MethodId) (b0 : Addr) (p1 : Int32) : entryFrame m #[(.ref b0), (.int p1)] 4 = mkF m 0 #[.val (.ref b0), .val (.int p1), .unset, .unset] [] := by first | (simp [entryFrame, mkF, argsToLocals, Value.category]; done) | rfl
theorem ia_rm (l : Launch) (Z : State) (a0 : Array Value) (hw : ∀ d ∈ tables_1, d.before a0 Z = true) (ws : List Jvm.Cond) (b0 : Addr) (p1 : Int32) (w_r : Addr) (w_p : Addr) (w_d : Addr) (w_P : Nat → Int32) (w_D : Nat → Int32) (w_1 : Addr) (w_2 : Addr) (w_k : Addr) (w_F : Nat → Int32) (w_L : Nat → Int32) (w_K : Nat → Int32) (w_c : Int32) (h0 : Heap) (n0 : Nat) (Z0 : n0 ≤ h0.size) (P0 : Exa Z h0 b0 ς1) (P1 : Fld Z h0 b0 ς1 "this$0" ς2 (.ref w_r)) (P2 : Fld Z h0 b0 ς1 "positions" "[I" (.ref w_p)) (P3 : own_Arf Z h0 w_p .int 1 (fun i => (.int (w_P i)))) (P4 : Exa Z h0 w_r ς0) (P5 : Fld Z h0 w_r ς0 "data" "[I" (.ref w_d)) (P6 : Fld Z h0 w_r ς0 "arity" "I" (.int 1)) (P7 : own_Arf Z h0 w_d .int 16 (fun i => (.int (w_D i)))) (P8 : Fld Z h0 b0 ς1 "firsts" "[I" (.ref w_1)) (P9 : Fld Z h0 b0 ς1 "lasts" "[I" (.ref w_2)) (P10 : Fld Z h0 b0 ς1 "rowKey" "[I" (.ref w_k)) (P11 : Fld Z h0 b0 ς1 "next" "[I" .null) (P12 : Fld Z h0 b0 ς1 "previous" "[I" .null) (P13 : Fld Z h0 b0 ς1 "keys" "I" (.int w_c)) (P14 : own_Arf Z h0 w_1 .int 16 (fun i => (.int (w_F i)))) (P15 : own_Arf Z h0 w_2 .int 16 (fun i => (.int (w_L i)))) (P16 : own_Arf Z h0 w_k .int 1 (fun i => (.int (w_K i)))) (ge_b0 : n0 ≤ b0) (ge_w_1 : n0 ≤ w_1) (ge_w_2 : n0 ≤ w_2) (ge_w_k : n0 ≤ w_k) (nes0 : b0 ≠ w_1) (nes1 : w_r ≠ w_1) (nes2 : w_p ≠ w_1) (nes3 : w_d ≠ w_1) (nes4 : b0 ≠ w_2) (nes5 : w_r ≠ w_2) (nes6 : w_p ≠ w_2) (nes7 : w_d ≠ w_2) (nes8 : b0 ≠ w_k) (nes9 : w_r ≠ w_k) (nes10 : w_p ≠ w_k) (nes11 : w_d ≠ w_k) (nes12 : w_1 ≠ w_2) (nes13 : w_1 ≠ w_k) (nes14 : w_2 ≠ w_k) (nes15 : b0 ≠ w_p) (nes16 : b0 ≠ w_d) (hP : w_P 0 = 0) (hF : own_FB w_F) (hr : 0 ≤ p1.toInt ∧ p1.toInt < 16) (hnd : own_ND w_F w_D p1) (hkeys : ¬ ((16 : Int32) < ((w_c + (1 : Int32)) * (2 : Int32)))) :
    MetFree l (⟨ς1, "add", "(I)V"⟩ : MethodName) (head1 (Jvm.Cond.code (⟨ς1, "add", "(I)V"⟩ : MethodName) prog_24_method_4_code 4 none :: ws) ({ frames := 2, cells := 0, slots := 0, locals := 30 } : Room)) (fun a U => a = #[(.ref b0), (.int p1)] ∧ Z.Warmed39 U.vm ∧ U.heap = h0) (fun _ _ _ _ _ => True) (fun _ U o U' => ∃ v L, o = .returned v ∧ ia_Q Z b0 p1 w_r w_p w_d w_P w_D w_1 w_2 w_k w_F w_L w_K w_c (ia_g8 p1 w_P w_D w_F w_L w_K w_c) (ia_g9 p1 w_P w_D w_F w_L w_K w_c) (ia_g10 p1 w_P w_D w_F w_L w_K w_c) (ia_g11 p1 w_P w_D w_F w_L w_K w_c) h0 n0 v U'.heap L ∧ FrameEnd U o U' L ({ frames := 2, cells := 0, slots := 0, locals := 30 } : Room).cells ({ frames := 2, cells := 0, slots := 0, locals := 30 } : Room).slots) :=
  own_met hw (plainFor_of_name (by first | (simp [plainName, overriddenIn]; done) | decide +kernel)) (fun p e s m below meth c T0 C0 X0 e0 => own_st (fun _ k => castTop (ia_ef m b0 p1) k) (ia_c0 C0 X0 e0 (Fr.nil n0) Z0 P0 P1 P2 P3 P4 P5 P6 P7 P8 P9 P10 P11 P12 P13 P14 P15 P16 ge_b0 ge_w_1 ge_w_2 ge_w_k nes0 nes1 nes2 nes3 nes4 nes5 nes6 nes7 nes8 nes9 nes10 nes11 nes12 nes13 nes14 nes15 nes16 hP hF hr hnd hkeys rfl rfl rfl rfl))
def own_E4 (F : Nat → Int32) : Prop := ∀ i, i < 16 → 0 ≤ (F i).toInt ∧ (F i).toInt ≤ 4
def own_iR (k : Nat) (F : Nat → Int32) (v1 v3 : Int32) : Prop := own_E4 F ∧ (0 ≤ v1.toInt ∧ v1.toInt < 16) ∧ (0 ≤ v3.toInt ∧ v3.toInt < 16) ∧ ∃ d, d < k ∧ d < 16 ∧ F ((v3.toNatClampNeg + d) % 16) = 0 ∧ ∀ j, j ≤ d → (v3.toNatClampNeg + j) % 16 ≠ v1.toNatClampNeg
theorem own_iR_zero {F : Nat → Int32} {v1 v3 : Int32} : ¬ own_iR 0 F v1 v3 := by
  rintro ⟨-, -, -, d, h, -⟩
  exact absurd h (Nat.not_lt_zero _)
theorem own_iR_b {k : Nat} {F : Nat → Int32} {v1 v3 : Int32} (h : own_iR k F v1 v3) : (¬ v1 < 0 ∧ v1.toNatClampNeg < 16) ∧ (¬ v3 < 0 ∧ v3.toNatClampNeg < 16) := ⟨⟨own_nn h.2.1.1, own_lt16 h.2.1⟩, own_nn h.2.2.1.1, own_lt16 h.2.2.1⟩
theorem own_rowE {F : Nat → Int32} {v : Int32} (h : own_E4 F) (hv : v.toNatClampNeg < 16) (hc : ¬ (F v.toNatClampNeg) = (0 : Int32)) : 0 ≤ ((F v.toNatClampNeg) - (1 : Int32)).toInt ∧ ((F v.toNatClampNeg) - (1 : Int32)).toInt < 16 := by
  have b := h _ hv
  have e := c_isub (F v.toNatClampNeg) 1
  have r := rng32 ((F v.toNatClampNeg) - 1)
  simp only [Int32.reduceToInt] at e
  have z : (F v.toNatClampNeg).toInt ≠ 0 := fun q => hc (Int32.toInt_inj.mp (by rw [q]; decide))
  omega
theorem own_iR_stay {k : Nat} {F : Nat → Int32} {v1 v3 : Int32} (h : own_iR (k + 1) F v1 v3) (hc : ¬ (F v3.toNatClampNeg) = (0 : Int32)) : own_iR k F v1 ((v3 + (1 : Int32)) &&& (15 : Int32)) := by
  obtain ⟨h1, h2, h3, d, hd, hd2, hz, hne⟩ := h
  have l := own_lt16 h3
  have n := own_next h3
  cases d with
  | zero =>
    have e : (v3.toNatClampNeg + 0) % 16 = v3.toNatClampNeg := by omega
    rw [e] at hz; exact absurd hz hc
  | succ d =>
    refine ⟨h1, h2, own_and15 _, d, by omega, by omega, ?_, fun j hj => ?_⟩
    · have e : (((v3 + (1 : Int32)) &&& (15 : Int32)).toNatClampNeg + d) % 16 = (v3.toNatClampNeg + (d + 1)) % 16 := by omega
      rw [e]; exact hz
    · have e : (((v3 + (1 : Int32)) &&& (15 : Int32)).toNatClampNeg + j) % 16 = (v3.toNatClampNeg + (j + 1)) % 16 := by omega
      rw [e]; exact hne _ (by omega)
theorem own_iR_move {k : Nat} {F : Nat → Int32} {v1 v3 : Int32} (h : own_iR (k + 1) F v1 v3) (hc : ¬ (F v3.toNatClampNeg) = (0 : Int32)) : own_iR k (own_upd F v1.toNatClampNeg (F v3.toNatClampNeg)) v3 ((v3 + (1 : Int32)) &&& (15 : Int32)) := by
  obtain ⟨h1, h2, h3, d, hd, hd2, hz, hne⟩ := h
  have l := own_lt16 h3
  have n := own_next h3
  cases d with
  | zero =>
    have e : (v3.toNatClampNeg + 0) % 16 = v3.toNatClampNeg := by omega
    rw [e] at hz; exact absurd hz hc
  | succ d =>
    refine ⟨fun i hi => ?_, h3, own_and15 _, d, by omega, by omega, ?_, fun j hj => ?_⟩
    · rw [own_upd]
      split
      · exact h1 _ l
      · exact h1 _ hi
    · have e : (((v3 + (1 : Int32)) &&& (15 : Int32)).toNatClampNeg + d) % 16 = (v3.toNatClampNeg + (d + 1)) % 16 := by omega
      rw [e, own_upd, if_neg (hne _ (Nat.le_refl _))]; exact hz
    · omega
theorem rk_d0 : decode prog_24_method_7_code 0 = .ok (.aload_n 0, 1) := by decide +kernel
theorem rk_d1 : decode prog_24_method_7_code 1 = .ok (.getfield 13, 3) := by decide +kernel
theorem rk_d4 : decode prog_24_method_7_code 4 = .ok (.arraylength, 1) := by decide +kernel
theorem rk_d5 : decode prog_24_method_7_code 5 = .ok (.iconst 1, 1) := by decide +kernel
theorem rk_d6 : decode prog_24_method_7_code 6 = .ok (.isub, 1) := by decide +kernel
theorem rk_d7 : decode prog_24_method_7_code 7 = .ok (.istore_n 2, 1) := by decide +kernel
theorem rk_d8 : decode prog_24_method_7_code 8 = .ok (.iload_n 1, 1) := by decide +kernel
theorem rk_d9 : decode prog_24_method_7_code 9 = .ok (.iconst 1, 1) := by decide +kernel
theorem rk_d10 : decode prog_24_method_7_code 10 = .ok (.iadd, 1) := by decide +kernel
theorem rk_d11 : decode prog_24_method_7_code 11 = .ok (.iload_n 2, 1) := by decide +kernel
theorem rk_d12 : decode prog_24_method_7_code 12 = .ok (.iand, 1) := by decide +kernel
theorem rk_d13 : decode prog_24_method_7_code 13 = .ok (.istore_n 3, 1) := by decide +kernel
theorem rk_d14 : decode prog_24_method_7_code 14 = .ok (.aload_n 0, 1) := by decide +kernel
theorem rk_d15 : decode prog_24_method_7_code 15 = .ok (.getfield 13, 3) := by decide +kernel
theorem rk_d18 : decode prog_24_method_7_code 18 = .ok (.iload_n 3, 1) := by decide +kernel
theorem rk_d19 : decode prog_24_method_7_code 19 = .ok (.iaload, 1) := by decide +kernel
theorem rk_d20 : decode prog_24_method_7_code 20 = .ok (.ifCond .eq 106, 3) := by decide +kernel
theorem rk_d23 : decode prog_24_method_7_code 23 = .ok (.aload_n 0, 1) := by decide +kernel
theorem rk_d24 : decode prog_24_method_7_code 24 = .ok (.aload_n 0, 1) := by decide +kernel
theorem rk_d25 : decode prog_24_method_7_code 25 = .ok (.getfield 13, 3) := by decide +kernel
theorem rk_d28 : decode prog_24_method_7_code 28 = .ok (.iload_n 3, 1) := by decide +kernel
theorem rk_d29 : decode prog_24_method_7_code 29 = .ok (.iaload, 1) := by decide +kernel
theorem rk_d30 : decode prog_24_method_7_code 30 = .ok (.iconst 1, 1) := by decide +kernel
theorem rk_d31 : decode prog_24_method_7_code 31 = .ok (.isub, 1) := by decide +kernel
theorem rk_d32 : decode prog_24_method_7_code 32 = .ok (.invokevirtual 37, 3) := by decide +kernel
theorem rk_d35 : decode prog_24_method_7_code 35 = .ok (.invokestatic 29, 3) := by decide +kernel
theorem rk_d38 : decode prog_24_method_7_code 38 = .ok (.iload_n 2, 1) := by decide +kernel
theorem rk_d39 : decode prog_24_method_7_code 39 = .ok (.iand, 1) := by decide +kernel
theorem rk_d40 : decode prog_24_method_7_code 40 = .ok (.istore 4, 2) := by decide +kernel
theorem rk_d42 : decode prog_24_method_7_code 42 = .ok (.iload_n 1, 1) := by decide +kernel
theorem rk_d43 : decode prog_24_method_7_code 43 = .ok (.iload_n 3, 1) := by decide +kernel
theorem rk_d44 : decode prog_24_method_7_code 44 = .ok (.if_icmp .ge 23, 3) := by decide +kernel
theorem rk_d47 : decode prog_24_method_7_code 47 = .ok (.iload_n 1, 1) := by decide +kernel
theorem rk_d48 : decode prog_24_method_7_code 48 = .ok (.iload 4, 2) := by decide +kernel
theorem rk_d50 : decode prog_24_method_7_code 50 = .ok (.if_icmp .ge 13, 3) := by decide +kernel
theorem rk_d53 : decode prog_24_method_7_code 53 = .ok (.iload 4, 2) := by decide +kernel
theorem rk_d55 : decode prog_24_method_7_code 55 = .ok (.iload_n 3, 1) := by decide +kernel
theorem rk_d56 : decode prog_24_method_7_code 56 = .ok (.if_icmp .gt 7, 3) := by decide +kernel
theorem rk_d59 : decode prog_24_method_7_code 59 = .ok (.iconst 1, 1) := by decide +kernel
theorem rk_d60 : decode prog_24_method_7_code 60 = .ok (.goto 24, 3) := by decide +kernel
theorem rk_d63 : decode prog_24_method_7_code 63 = .ok (.iconst 0, 1) := by decide +kernel
theorem rk_d64 : decode prog_24_method_7_code 64 = .ok (.goto 20, 3) := by decide +kernel
theorem rk_d67 : decode prog_24_method_7_code 67 = .ok (.iload_n 1, 1) := by decide +kernel
theorem rk_d68 : decode prog_24_method_7_code 68 = .ok (.iload 4, 2) := by decide +kernel
theorem rk_d70 : decode prog_24_method_7_code 70 = .ok (.if_icmp .lt 9, 3) := by decide +kernel
theorem rk_d73 : decode prog_24_method_7_code 73 = .ok (.iload 4, 2) := by decide +kernel
theorem rk_d75 : decode prog_24_method_7_code 75 = .ok (.iload_n 3, 1) := by decide +kernel
theorem rk_d76 : decode prog_24_method_7_code 76 = .ok (.if_icmp .gt 7, 3) := by decide +kernel
theorem rk_d79 : decode prog_24_method_7_code 79 = .ok (.iconst 1, 1) := by decide +kernel
theorem rk_d80 : decode prog_24_method_7_code 80 = .ok (.goto 4, 3) := by decide +kernel
theorem rk_d83 : decode prog_24_method_7_code 83 = .ok (.iconst 0, 1) := by decide +kernel
theorem rk_d84 : decode prog_24_method_7_code 84 = .ok (.istore 5, 2) := by decide +kernel
theorem rk_d86 : decode prog_24_method_7_code 86 = .ok (.iload 5, 2) := by decide +kernel
theorem rk_d88 : decode prog_24_method_7_code 88 = .ok (.ifCond .ne 29, 3) := by decide +kernel
theorem rk_d91 : decode prog_24_method_7_code 91 = .ok (.aload_n 0, 1) := by decide +kernel
theorem rk_d92 : decode prog_24_method_7_code 92 = .ok (.getfield 13, 3) := by decide +kernel
theorem rk_d95 : decode prog_24_method_7_code 95 = .ok (.iload_n 1, 1) := by decide +kernel
theorem rk_d96 : decode prog_24_method_7_code 96 = .ok (.aload_n 0, 1) := by decide +kernel
theorem rk_d97 : decode prog_24_method_7_code 97 = .ok (.getfield 13, 3) := by decide +kernel
theorem rk_d100 : decode prog_24_method_7_code 100 = .ok (.iload_n 3, 1) := by decide +kernel
theorem rk_d101 : decode prog_24_method_7_code 101 = .ok (.iaload, 1) := by decide +kernel
theorem rk_d102 : decode prog_24_method_7_code 102 = .ok (.iastore, 1) := by decide +kernel
theorem rk_d103 : decode prog_24_method_7_code 103 = .ok (.aload_n 0, 1) := by decide +kernel
theorem rk_d104 : decode prog_24_method_7_code 104 = .ok (.getfield 17, 3) := by decide +kernel
theorem rk_d107 : decode prog_24_method_7_code 107 = .ok (.iload_n 1, 1) := by decide +kernel
theorem rk_d108 : decode prog_24_method_7_code 108 = .ok (.aload_n 0, 1) := by decide +kernel
theorem rk_d109 : decode prog_24_method_7_code 109 = .ok (.getfield 17, 3) := by decide +kernel
theorem rk_d112 : decode prog_24_method_7_code 112 = .ok (.iload_n 3, 1) := by decide +kernel
theorem rk_d113 : decode prog_24_method_7_code 113 = .ok (.iaload, 1) := by decide +kernel
theorem rk_d114 : decode prog_24_method_7_code 114 = .ok (.iastore, 1) := by decide +kernel
theorem rk_d115 : decode prog_24_method_7_code 115 = .ok (.iload_n 3, 1) := by decide +kernel
theorem rk_d116 : decode prog_24_method_7_code 116 = .ok (.istore_n 1, 1) := by decide +kernel
theorem rk_d117 : decode prog_24_method_7_code 117 = .ok (.iload_n 3, 1) := by decide +kernel
theorem rk_d118 : decode prog_24_method_7_code 118 = .ok (.iconst 1, 1) := by decide +kernel
theorem rk_d119 : decode prog_24_method_7_code 119 = .ok (.iadd, 1) := by decide +kernel
theorem rk_d120 : decode prog_24_method_7_code 120 = .ok (.iload_n 2, 1) := by decide +kernel
theorem rk_d121 : decode prog_24_method_7_code 121 = .ok (.iand, 1) := by decide +kernel
theorem rk_d122 : decode prog_24_method_7_code 122 = .ok (.istore_n 3, 1) := by decide +kernel
theorem rk_d123 : decode prog_24_method_7_code 123 = .ok (.goto (-109), 3) := by decide +kernel
theorem rk_d126 : decode prog_24_method_7_code 126 = .ok (.aload_n 0, 1) := by decide +kernel
theorem rk_d127 : decode prog_24_method_7_code 127 = .ok (.getfield 13, 3) := by decide +kernel
theorem rk_d130 : decode prog_24_method_7_code 130 = .ok (.iload_n 1, 1) := by decide +kernel
theorem rk_d131 : decode prog_24_method_7_code 131 = .ok (.iconst 0, 1) := by decide +kernel
theorem rk_d132 : decode prog_24_method_7_code 132 = .ok (.iastore, 1) := by decide +kernel
theorem rk_d133 : decode prog_24_method_7_code 133 = .ok (.aload_n 0, 1) := by decide +kernel
theorem rk_d134 : decode prog_24_method_7_code 134 = .ok (.dup, 1) := by decide +kernel
theorem rk_d135 : decode prog_24_method_7_code 135 = .ok (.getfield 56, 3) := by decide +kernel
theorem rk_d138 : decode prog_24_method_7_code 138 = .ok (.iconst 1, 1) := by decide +kernel
theorem rk_d139 : decode prog_24_method_7_code 139 = .ok (.isub, 1) := by decide +kernel
theorem rk_d140 : decode prog_24_method_7_code 140 = .ok (.putfield 56, 3) := by decide +kernel
theorem rk_d143 : decode prog_24_method_7_code 143 = .ok (.return_, 1) := by decide +kernel
def rk_Q (Z : State) (b0 : Addr) (p1 : Int32) (w_r : Addr) (w_p : Addr) (w_d : Addr) (w_P : Nat → Int32) (w_D : Nat → Int32) (w_1 : Addr) (w_2 : Addr) (w_k : Addr) (w_F : Nat → Int32) (w_L : Nat → Int32) (w_K : Nat → Int32) (w_c : Int32) (y8 : Int32) (y9 : Nat → Int32) (y10 : Nat → Int32) (y11 : Nat → Int32) (h0 : Heap) (n0 : Nat) (v : Option Value) (h : Heap) (L : List Loc) : Prop := v = none ∧ Fr n0 L ∧ Keep h0 h [b0, w_1, w_2, w_k] ∧ Exa Z h b0 ς1 ∧ Fld Z h b0 ς1 "this$0" ς2 (.ref w_r) ∧ Fld Z h b0 ς1 "positions" "[I" (.ref w_p) ∧ Fld Z h b0 ς1 "firsts" "[I" (.ref w_1) ∧ Fld Z h b0 ς1 "lasts" "[I" (.ref w_2) ∧ Fld Z h b0 ς1 "rowKey" "[I" (.ref w_k) ∧ Fld Z h b0 ς1 "next" "[I" .null ∧ Fld Z h b0 ς1 "previous" "[I" .null ∧ Fld Z h b0 ς1 "keys" "I" (.int y8) ∧ own_Arf Z h w_1 .int 16 (fun i => (.int (y9 i))) ∧ own_Arf Z h w_2 .int 16 (fun i => (.int (y10 i))) ∧ own_Arf Z h w_k .int 1 (fun i => (.int (y11 i)))
def rk_g8_14 : Nat → (Int32) → (Nat → Int32) → (Nat → Int32) → (Nat → Int32) → (Nat → Int32) → (Nat → Int32) → (Int32) → (Int32) → (Int32) → (Nat → Int32) → (Nat → Int32) → (Nat → Int32) → (Int32)
  | 0, _, _, _, _, _, _, _, _, _, _, _, _ => 0
  | k + 1, p1, w_P, w_D, w_F, w_L, w_K, w_c, v1, v3, w15, w16, w17 =>
    if (w15 (v3).toNatClampNeg) = (0 : Int32) then
      (w_c - (1 : Int32))
    else
      if v1 < v3 then
        if v1 < ((ha_f (ko_g0 ((w15 (v3).toNatClampNeg) - (1 : Int32)) w_P w_D w17)) &&& (15 : Int32)) then
          if v3 < ((ha_f (ko_g0 ((w15 (v3).toNatClampNeg) - (1 : Int32)) w_P w_D w17)) &&& (15 : Int32)) then
            rk_g8_14 k p1 w_P w_D w_F w_L w_K w_c (v3) (((v3 + (1 : Int32)) &&& (15 : Int32))) ((own_upd w15 (v1).toNatClampNeg (w15 (v3).toNatClampNeg))) ((own_upd w16 (v1).toNatClampNeg (w16 (v3).toNatClampNeg))) ((ko_g0 ((w15 (v3).toNatClampNeg) - (1 : Int32)) w_P w_D w17))
          else
            rk_g8_14 k p1 w_P w_D w_F w_L w_K w_c (v1) (((v3 + (1 : Int32)) &&& (15 : Int32))) (w15) (w16) ((ko_g0 ((w15 (v3).toNatClampNeg) - (1 : Int32)) w_P w_D w17))
        else
          rk_g8_14 k p1 w_P w_D w_F w_L w_K w_c (v3) (((v3 + (1 : Int32)) &&& (15 : Int32))) ((own_upd w15 (v1).toNatClampNeg (w15 (v3).toNatClampNeg))) ((own_upd w16 (v1).toNatClampNeg (w16 (v3).toNatClampNeg))) ((ko_g0 ((w15 (v3).toNatClampNeg) - (1 : Int32)) w_P w_D w17))
      else
        if v1 < ((ha_f (ko_g0 ((w15 (v3).toNatClampNeg) - (1 : Int32)) w_P w_D w17)) &&& (15 : Int32)) then
          rk_g8_14 k p1 w_P w_D w_F w_L w_K w_c (v1) (((v3 + (1 : Int32)) &&& (15 : Int32))) (w15) (w16) ((ko_g0 ((w15 (v3).toNatClampNeg) - (1 : Int32)) w_P w_D w17))
        else
          if v3 < ((ha_f (ko_g0 ((w15 (v3).toNatClampNeg) - (1 : Int32)) w_P w_D w17)) &&& (15 : Int32)) then
            rk_g8_14 k p1 w_P w_D w_F w_L w_K w_c (v3) (((v3 + (1 : Int32)) &&& (15 : Int32))) ((own_upd w15 (v1).toNatClampNeg (w15 (v3).toNatClampNeg))) ((own_upd w16 (v1).toNatClampNeg (w16 (v3).toNatClampNeg))) ((ko_g0 ((w15 (v3).toNatClampNeg) - (1 : Int32)) w_P w_D w17))
          else
            rk_g8_14 k p1 w_P w_D w_F w_L w_K w_c (v1) (((v3 + (1 : Int32)) &&& (15 : Int32))) (w15) (w16) ((ko_g0 ((w15 (v3).toNatClampNeg) - (1 : Int32)) w_P w_D w17))
def rk_g9_14 : Nat → (Int32) → (Nat → Int32) → (Nat → Int32) → (Nat → Int32) → (Nat → Int32) → (Nat → Int32) → (Int32) → (Int32) → (Int32) → (Nat → Int32) → (Nat → Int32) → (Nat → Int32) → (Nat → Int32)
  | 0, _, _, _, _, _, _, _, _, _, _, _, _ => fun _ => 0
  | k + 1, p1, w_P, w_D, w_F, w_L, w_K, w_c, v1, v3, w15, w16, w17 =>
    if (w15 (v3).toNatClampNeg) = (0 : Int32) then
      (own_upd w15 (v1).toNatClampNeg (0 : Int32))
    else
      if v1 < v3 then
        if v1 < ((ha_f (ko_g0 ((w15 (v3).toNatClampNeg) - (1 : Int32)) w_P w_D w17)) &&& (15 : Int32)) then
          if v3 < ((ha_f (ko_g0 ((w15 (v3).toNatClampNeg) - (1 : Int32)) w_P w_D w17)) &&& (15 : Int32)) then
            rk_g9_14 k p1 w_P w_D w_F w_L w_K w_c (v3) (((v3 + (1 : Int32)) &&& (15 : Int32))) ((own_upd w15 (v1).toNatClampNeg (w15 (v3).toNatClampNeg))) ((own_upd w16 (v1).toNatClampNeg (w16 (v3).toNatClampNeg))) ((ko_g0 ((w15 (v3).toNatClampNeg) - (1 : Int32)) w_P w_D w17))
          else
            rk_g9_14 k p1 w_P w_D w_F w_L w_K w_c (v1) (((v3 + (1 : Int32)) &&& (15 : Int32))) (w15) (w16) ((ko_g0 ((w15 (v3).toNatClampNeg) - (1 : Int32)) w_P w_D w17))
        else
          rk_g9_14 k p1 w_P w_D w_F w_L w_K w_c (v3) (((v3 + (1 : Int32)) &&& (15 : Int32))) ((own_upd w15 (v1).toNatClampNeg (w15 (v3).toNatClampNeg))) ((own_upd w16 (v1).toNatClampNeg (w16 (v3).toNatClampNeg))) ((ko_g0 ((w15 (v3).toNatClampNeg) - (1 : Int32)) w_P w_D w17))
      else
        if v1 < ((ha_f (ko_g0 ((w15 (v3).toNatClampNeg) - (1 : Int32)) w_P w_D w17)) &&& (15 : Int32)) then
          rk_g9_14 k p1 w_P w_D w_F w_L w_K w_c (v1) (((v3 + (1 : Int32)) &&& (15 : Int32))) (w15) (w16) ((ko_g0 ((w15 (v3).toNatClampNeg) - (1 : Int32)) w_P w_D w17))
        else
          if v3 < ((ha_f (ko_g0 ((w15 (v3).toNatClampNeg) - (1 : Int32)) w_P w_D w17)) &&& (15 : Int32)) then
            rk_g9_14 k p1 w_P w_D w_F w_L w_K w_c (v3) (((v3 + (1 : Int32)) &&& (15 : Int32))) ((own_upd w15 (v1).toNatClampNeg (w15 (v3).toNatClampNeg))) ((own_upd w16 (v1).toNatClampNeg (w16 (v3).toNatClampNeg))) ((ko_g0 ((w15 (v3).toNatClampNeg) - (1 : Int32)) w_P w_D w17))
          else
            rk_g9_14 k p1 w_P w_D w_F w_L w_K w_c (v1) (((v3 + (1 : Int32)) &&& (15 : Int32))) (w15) (w16) ((ko_g0 ((w15 (v3).toNatClampNeg) - (1 : Int32)) w_P w_D w17))
def rk_g10_14 : Nat → (Int32) → (Nat → Int32) → (Nat → Int32) → (Nat → Int32) → (Nat → Int32) → (Nat → Int32) → (Int32) → (Int32) → (Int32) → (Nat → Int32) → (Nat → Int32) → (Nat → Int32) → (Nat → Int32)
  | 0, _, _, _, _, _, _, _, _, _, _, _, _ => fun _ => 0
  | k + 1, p1, w_P, w_D, w_F, w_L, w_K, w_c, v1, v3, w15, w16, w17 =>
    if (w15 (v3).toNatClampNeg) = (0 : Int32) then
      w16
    else
      if v1 < v3 then
        if v1 < ((ha_f (ko_g0 ((w15 (v3).toNatClampNeg) - (1 : Int32)) w_P w_D w17)) &&& (15 : Int32)) then
          if v3 < ((ha_f (ko_g0 ((w15 (v3).toNatClampNeg) - (1 : Int32)) w_P w_D w17)) &&& (15 : Int32)) then
            rk_g10_14 k p1 w_P w_D w_F w_L w_K w_c (v3) (((v3 + (1 : Int32)) &&& (15 : Int32))) ((own_upd w15 (v1).toNatClampNeg (w15 (v3).toNatClampNeg))) ((own_upd w16 (v1).toNatClampNeg (w16 (v3).toNatClampNeg))) ((ko_g0 ((w15 (v3).toNatClampNeg) - (1 : Int32)) w_P w_D w17))
          else
            rk_g10_14 k p1 w_P w_D w_F w_L w_K w_c (v1) (((v3 + (1 : Int32)) &&& (15 : Int32))) (w15) (w16) ((ko_g0 ((w15 (v3).toNatClampNeg) - (1 : Int32)) w_P w_D w17))
        else
          rk_g10_14 k p1 w_P w_D w_F w_L w_K w_c (v3) (((v3 + (1 : Int32)) &&& (15 : Int32))) ((own_upd w15 (v1).toNatClampNeg (w15 (v3).toNatClampNeg))) ((own_upd w16 (v1).toNatClampNeg (w16 (v3).toNatClampNeg))) ((ko_g0 ((w15 (v3).toNatClampNeg) - (1 : Int32)) w_P w_D w17))
      else
        if v1 < ((ha_f (ko_g0 ((w15 (v3).toNatClampNeg) - (1 : Int32)) w_P w_D w17)) &&& (15 : Int32)) then
          rk_g10_14 k p1 w_P w_D w_F w_L w_K w_c (v1) (((v3 + (1 : Int32)) &&& (15 : Int32))) (w15) (w16) ((ko_g0 ((w15 (v3).toNatClampNeg) - (1 : Int32)) w_P w_D w17))
        else
          if v3 < ((ha_f (ko_g0 ((w15 (v3).toNatClampNeg) - (1 : Int32)) w_P w_D w17)) &&& (15 : Int32)) then
            rk_g10_14 k p1 w_P w_D w_F w_L w_K w_c (v3) (((v3 + (1 : Int32)) &&& (15 : Int32))) ((own_upd w15 (v1).toNatClampNeg (w15 (v3).toNatClampNeg))) ((own_upd w16 (v1).toNatClampNeg (w16 (v3).toNatClampNeg))) ((ko_g0 ((w15 (v3).toNatClampNeg) - (1 : Int32)) w_P w_D w17))
          else
            rk_g10_14 k p1 w_P w_D w_F w_L w_K w_c (v1) (((v3 + (1 : Int32)) &&& (15 : Int32))) (w15) (w16) ((ko_g0 ((w15 (v3).toNatClampNeg) - (1 : Int32)) w_P w_D w17))
def rk_g11_14 : Nat → (Int32) → (Nat → Int32) → (Nat → Int32) → (Nat → Int32) → (Nat → Int32) → (Nat → Int32) → (Int32) → (Int32) → (Int32) → (Nat → Int32) → (Nat → Int32) → (Nat → Int32) → (Nat → Int32)
  | 0, _, _, _, _, _, _, _, _, _, _, _, _ => fun _ => 0
  | k + 1, p1, w_P, w_D, w_F, w_L, w_K, w_c, v1, v3, w15, w16, w17 =>
    if (w15 (v3).toNatClampNeg) = (0 : Int32) then
      w17
    else
      if v1 < v3 then
        if v1 < ((ha_f (ko_g0 ((w15 (v3).toNatClampNeg) - (1 : Int32)) w_P w_D w17)) &&& (15 : Int32)) then
          if v3 < ((ha_f (ko_g0 ((w15 (v3).toNatClampNeg) - (1 : Int32)) w_P w_D w17)) &&& (15 : Int32)) then
            rk_g11_14 k p1 w_P w_D w_F w_L w_K w_c (v3) (((v3 + (1 : Int32)) &&& (15 : Int32))) ((own_upd w15 (v1).toNatClampNeg (w15 (v3).toNatClampNeg))) ((own_upd w16 (v1).toNatClampNeg (w16 (v3).toNatClampNeg))) ((ko_g0 ((w15 (v3).toNatClampNeg) - (1 : Int32)) w_P w_D w17))
          else
            rk_g11_14 k p1 w_P w_D w_F w_L w_K w_c (v1) (((v3 + (1 : Int32)) &&& (15 : Int32))) (w15) (w16) ((ko_g0 ((w15 (v3).toNatClampNeg) - (1 : Int32)) w_P w_D w17))
        else
          rk_g11_14 k p1 w_P w_D w_F w_L w_K w_c (v3) (((v3 + (1 : Int32)) &&& (15 : Int32))) ((own_upd w15 (v1).toNatClampNeg (w15 (v3).toNatClampNeg))) ((own_upd w16 (v1).toNatClampNeg (w16 (v3).toNatClampNeg))) ((ko_g0 ((w15 (v3).toNatClampNeg) - (1 : Int32)) w_P w_D w17))
      else
        if v1 < ((ha_f (ko_g0 ((w15 (v3).toNatClampNeg) - (1 : Int32)) w_P w_D w17)) &&& (15 : Int32)) then
          rk_g11_14 k p1 w_P w_D w_F w_L w_K w_c (v1) (((v3 + (1 : Int32)) &&& (15 : Int32))) (w15) (w16) ((ko_g0 ((w15 (v3).toNatClampNeg) - (1 : Int32)) w_P w_D w17))
        else
          if v3 < ((ha_f (ko_g0 ((w15 (v3).toNatClampNeg) - (1 : Int32)) w_P w_D w17)) &&& (15 : Int32)) then
            rk_g11_14 k p1 w_P w_D w_F w_L w_K w_c (v3) (((v3 + (1 : Int32)) &&& (15 : Int32))) ((own_upd w15 (v1).toNatClampNeg (w15 (v3).toNatClampNeg))) ((own_upd w16 (v1).toNatClampNeg (w16 (v3).toNatClampNeg))) ((ko_g0 ((w15 (v3).toNatClampNeg) - (1 : Int32)) w_P w_D w17))
          else
            rk_g11_14 k p1 w_P w_D w_F w_L w_K w_c (v1) (((v3 + (1 : Int32)) &&& (15 : Int32))) (w15) (w16) ((ko_g0 ((w15 (v3).toNatClampNeg) - (1 : Int32)) w_P w_D w17))
set_option maxRecDepth 65536 in
set_option maxHeartbeats 40000000 in
theorem rk_c14 {b0 : Addr} {p1 : Int32} {w_r : Addr} {w_p : Addr} {w_d : Addr} {w_P : Nat → Int32} {w_D : Nat → Int32} {w_1 : Addr} {w_2 : Addr} {w_k : Addr} {w_F : Nat → Int32} {w_L : Nat → Int32} {w_K : Nat → Int32} {w_c : Int32} {locs : List Loc} {y8 : Int32} {y9 : Nat → Int32} {y10 : Nat → Int32} {y11 : Nat → Int32} (C0 : own_Cx p s m meth c Z a0 prog_24_method_7_code 6 ς1 "removeKey" none) (k : Nat) (X0 : Stand p l e ({ frames := 2, cells := 0, slots := 0, locals := 30 } : Room) s m args below meth c T0 locs 0 0) (e0 : T0.heap = h1) (N0 : Fr n0 locs) (v1 : Int32) (v3 : Int32) (s4 : Slot) (hs4 : One s4) (s5 : Slot) (hs5 : One s5) (w15 : Nat → Int32) (w16 : Nat → Int32) (w17 : Nat → Int32) (Z0 : n0 ≤ h1.size) (P1 : Exa Z h1 b0 ς1) (P2 : Fld Z h1 b0 ς1 "this$0" ς2 (.ref w_r)) (P3 : Fld Z h1 b0 ς1 "positions" "[I" (.ref w_p)) (P4 : own_Arf Z h1 w_p .int 1 (fun i => (.int (w_P i)))) (P5 : Exa Z h1 w_r ς0) (P6 : Fld Z h1 w_r ς0 "data" "[I" (.ref w_d)) (P7 : Fld Z h1 w_r ς0 "arity" "I" (.int 1)) (P8 : own_Arf Z h1 w_d .int 16 (fun i => (.int (w_D i)))) (P9 : Fld Z h1 b0 ς1 "firsts" "[I" (.ref w_1)) (P10 : Fld Z h1 b0 ς1 "lasts" "[I" (.ref w_2)) (P11 : Fld Z h1 b0 ς1 "rowKey" "[I" (.ref w_k)) (P12 : Fld Z h1 b0 ς1 "next" "[I" .null) (P13 : Fld Z h1 b0 ς1 "previous" "[I" .null) (P14 : Fld Z h1 b0 ς1 "keys" "I" (.int w_c)) (P15 : own_Arf Z h1 w_1 .int 16 (fun i => (.int (w15 i)))) (P16 : own_Arf Z h1 w_2 .int 16 (fun i => (.int (w16 i)))) (P17 : own_Arf Z h1 w_k .int 1 (fun i => (.int (w17 i)))) (K0 : Keep h0 h1 [b0, w_1, w_2, w_k]) (kn0 : n0 ≤ b0) (kn1 : n0 ≤ w_1) (kn2 : n0 ≤ w_2) (kn3 : n0 ≤ w_k) (kn4 : b0 ≠ w_1) (kn5 : w_r ≠ w_1) (kn6 : w_p ≠ w_1) (kn7 : w_d ≠ w_1) (kn8 : b0 ≠ w_2) (kn9 : w_r ≠ w_2) (kn10 : w_p ≠ w_2) (kn11 : w_d ≠ w_2) (kn12 : b0 ≠ w_k) (kn13 : w_r ≠ w_k) (kn14 : w_p ≠ w_k) (kn15 : w_d ≠ w_k) (kn16 : w_1 ≠ w_2) (kn17 : w_1 ≠ w_k) (kn18 : w_2 ≠ w_k) (kn19 : b0 ≠ w_p) (kn20 : b0 ≠ w_d) (hP : w_P 0 = 0) (hR : own_iR 16 w_F p1 ((p1 + (1 : Int32)) &&& (15 : Int32))) (hi0 : own_iR k w15 v1 v3) (hy8 : y8 = rk_g8_14 k p1 w_P w_D w_F w_L w_K w_c v1 v3 w15 w16 w17) (hy9 : y9 = rk_g9_14 k p1 w_P w_D w_F w_L w_K w_c v1 v3 w15 w16 w17) (hy10 : y10 = rk_g10_14 k p1 w_P w_D w_F w_L w_K w_c v1 v3 w15 w16 w17) (hy11 : y11 = rk_g11_14 k p1 w_P w_D w_F w_L w_K w_c v1 v3 w15 w16 w17) :
    own_Dn p e below s (rk_Q Z b0 p1 w_r w_p w_d w_P w_D w_1 w_2 w_k w_F w_L w_K w_c y8 y9 y10 y11 h0 n0) ({ frames := 2, cells := 0, slots := 0, locals := 30 } : Room).cells ({ frames := 2, cells := 0, slots := 0, locals := 30 } : Room).slots (T0.setTop (mkF m 14 #[ρ b0, ι v1, ι 15, ι v3, s4, s5] [])) := by
  induction k generalizing T0 locs h1 y8 y9 y10 y11 v1 v3 s4 s5 w15 w16 w17 with
  | zero => exact absurd hi0 own_iR_zero
  | succ k ih =>
    obtain ⟨hx, hZ, hw, hby, hml, hown, hret, hlk, hnm⟩ := id C0
    refine own_st (fun _ k => XS.aloadN X0.here hx rfl (hb hby rk_d14) rfl rfl k) ?_
    show own_Dn p e below s _ _ _ (T0.setTop (mkF m 15 #[ρ b0, ι v1, ι 15, ι v3, s4, s5] [(.ref b0)]))
    obtain ⟨T199, X199, e199, st199⟩ := getF X0 hx hZ hown (host := "") (Or.inl (own_w hw 102 rfl)) Via.refl e0 P9 (g := (mkF m 15 #[ρ b0, ι v1, ι 15, ι v3, s4, s5] [(.ref b0)])) rfl rfl (hb hby rk_d15)
    refine own_st st199 ?_
    show own_Dn p e below s _ _ _ (T199.setTop (mkF m 18 #[ρ b0, ι v1, ι 15, ι v3, s4, s5] [(.ref w_1)]))
    refine own_st (fun _ k => XS.iloadN X199.here hx rfl (hb hby rk_d18) rfl k) ?_
    show own_Dn p e below s _ _ _ (T199.setTop (mkF m 19 #[ρ b0, ι v1, ι 15, ι v3, s4, s5] [(.int v3), (.ref w_1)]))
    refine own_st (own_ldI (pc := 19) (L := #[ρ b0, ι v1, ι 15, ι v3, s4, s5]) (rest := []) X199 hx hZ e199 P15 (j := v3) (own_iR_b hi0).2.1 (own_iR_b hi0).2.2 (hb hby rk_d19)) ?_
    show own_Dn p e below s _ _ _ (T199.setTop (mkF m 20 #[ρ b0, ι v1, ι 15, ι v3, s4, s5] [(.int (w15 (v3).toNatClampNeg))]))
    by_cases hc200 : (w15 (v3).toNatClampNeg) = (0 : Int32)
    · refine own_st (fun _ k => XS.ifYes X199.here hx rfl (pc0 := 20) (pc' := 126) rfl (hb hby rk_d20) rfl ((if0 _ _).trans (teq hc200).1) (by decide) (by decide) k) ?_
      show own_Dn p e below s _ _ _ (T199.setTop (mkF m 126 #[ρ b0, ι v1, ι 15, ι v3, s4, s5] []))
      refine own_st (fun _ k => XS.aloadN X199.here hx rfl (hb hby rk_d126) rfl rfl k) ?_
      show own_Dn p e below s _ _ _ (T199.setTop (mkF m 127 #[ρ b0, ι v1, ι 15, ι v3, s4, s5] [(.ref b0)]))
      obtain ⟨T201, X201, e201, st201⟩ := getF X199 hx hZ hown (host := "") (Or.inl (own_w hw 102 rfl)) Via.refl e199 P9 (g := (mkF m 127 #[ρ b0, ι v1, ι 15, ι v3, s4, s5] [(.ref b0)])) rfl rfl (hb hby rk_d127)
      refine own_st st201 ?_
      show own_Dn p e below s _ _ _ (T201.setTop (mkF m 130 #[ρ b0, ι v1, ι 15, ι v3, s4, s5] [(.ref w_1)]))
      refine own_st (fun _ k => XS.iloadN X201.here hx rfl (hb hby rk_d130) rfl (XS.iconst X201.here hx rfl (hb hby rk_d131) k)) ?_
      show own_Dn p e below s _ _ _ (T201.setTop (mkF m 132 #[ρ b0, ι v1, ι 15, ι v3, s4, s5] [(.int 0), (.int v1), (.ref w_1)]))
      obtain ⟨T202, h202, X202, e202, W202, F202a, st202⟩ := own_stI (pc := 132) (L := #[ρ b0, ι v1, ι 15, ι v3, s4, s5]) (rest := []) X201 hx hZ e201 P15 (j := v1) (x := (0 : Int32)) (own_iR_b hi0).1.1 (own_iR_b hi0).1.2 (hb hby rk_d132)
      have N202 := Fr.snoc X202 N0 kn1
      have F203 : n0 ≤ h202.size := Nat.le_trans Z0 (Keep.of_wr W202).1
      have F204 := P1.wr W202
      have F205 := P2.other W202 (Or.inl kn4)
      have F206 := P3.other W202 (Or.inl kn4)
      have F207 := P4.other W202 kn6
      have F208 := P5.wr W202
      have F209 := P6.other W202 (Or.inl kn5)
      have F210 := P7.other W202 (Or.inl kn5)
      have F211 := P8.other W202 kn7
      have F212 := P9.other W202 (Or.inl kn4)
      have F213 := P10.other W202 (Or.inl kn4)
      have F214 := P11.other W202 (Or.inl kn4)
      have F215 := P12.other W202 (Or.inl kn4)
      have F216 := P13.other W202 (Or.inl kn4)
      have F217 := P14.other W202 (Or.inl kn4)
      have F218 := P16.other W202 (Ne.symm kn16)
      have F219 := P17.other W202 (Ne.symm kn17)
      have F220 : Keep h0 h202 [b0, w_1, w_2, w_k] := K0.wr W202 (Or.inl (List.mem_of_getElem? (i := 1) rfl))
      refine own_st st202 ?_
      show own_Dn p e below s _ _ _ (T202.setTop (mkF m 133 #[ρ b0, ι v1, ι 15, ι v3, s4, s5] []))
      refine own_st (fun _ k => XS.aloadN X202.here hx rfl (hb hby rk_d133) rfl rfl (XS.dup X202.here hx rfl (hb hby rk_d134) rfl rfl k)) ?_
      show own_Dn p e below s _ _ _ (T202.setTop (mkF m 135 #[ρ b0, ι v1, ι 15, ι v3, s4, s5] [(.ref b0), (.ref b0)]))
      obtain ⟨T221, X221, e221, st221⟩ := getF X202 hx hZ hown (host := "") (Or.inl (own_w hw 157 rfl)) Via.refl e202 F217 (g := (mkF m 135 #[ρ b0, ι v1, ι 15, ι v3, s4, s5] [(.ref b0), (.ref b0)])) rfl rfl (hb hby rk_d135)
      refine own_st st221 ?_
      show own_Dn p e below s _ _ _ (T221.setTop (mkF m 138 #[ρ b0, ι v1, ι 15, ι v3, s4, s5] [(.int w_c), (.ref b0)]))
      refine own_st (fun _ k => XS.iconst X221.here hx rfl (hb hby rk_d138) (XS.isub X221.here hx rfl (hb hby rk_d139) rfl k)) ?_
      show own_Dn p e below s _ _ _ (T221.setTop (mkF m 140 #[ρ b0, ι v1, ι 15, ι v3, s4, s5] [(.int (w_c - (1 : Int32))), (.ref b0)]))
      obtain ⟨T222, h222, X222, e222, W222, st222⟩ := putF X221 hx hZ hown (host := "") (Or.inl (own_w hw 157 rfl)) Via.refl e221 F217 F204 (Or.inl (own_w hw 158 rfl)) (own_w hw 94 rfl) (ty := .int) (v := (.int (w_c - (1 : Int32)))) (by decide) rfl rfl (g := (mkF m 140 #[ρ b0, ι v1, ι 15, ι v3, s4, s5] [(.int (w_c - (1 : Int32))), (.ref b0)])) rfl rfl (hb hby rk_d140)
      have N222 := Fr.snoc X222 N202 kn0
      have F223 : n0 ≤ h222.size := Nat.le_trans F203 (Keep.of_wr W222).1
      have F224 := F204.wr W222
      have F225 := F205.other W222 (Or.inr (slot_ne (Or.inr (own_w hw 100 rfl)) (Or.inl (own_w hw 158 rfl)) (by decide) (t := (.object ς0)) (t' := .int) (by decide) (by decide)))
      have F226 := F206.other W222 (Or.inr (slot_ne (Or.inr (own_w hw 107 rfl)) (Or.inl (own_w hw 158 rfl)) (by decide) (t := (.array .int)) (t' := .int) (by decide) (by decide)))
      have F227 := F207.other W222 (Ne.symm kn19)
      have F228 := F208.wr W222
      have F229 := F209.other W222 (Or.inl (ne_exa F208 F204 (by decide)))
      have F230 := F210.other W222 (Or.inl (ne_exa F208 F204 (by decide)))
      have F231 := F211.other W222 (Ne.symm kn20)
      have F232 := F212.other W222 (Or.inr (slot_ne (Or.inl (own_w hw 103 rfl)) (Or.inl (own_w hw 158 rfl)) (by decide) (t := (.array .int)) (t' := .int) (by decide) (by decide)))
      have F233 := F213.other W222 (Or.inr (slot_ne (Or.inl (own_w hw 105 rfl)) (Or.inl (own_w hw 158 rfl)) (by decide) (t := (.array .int)) (t' := .int) (by decide) (by decide)))
      have F234 := F214.other W222 (Or.inr (slot_ne (Or.inr (own_w hw 111 rfl)) (Or.inl (own_w hw 158 rfl)) (by decide) (t := (.array .int)) (t' := .int) (by decide) (by decide)))
      have F235 := F215.other W222 (Or.inr (slot_ne (Or.inl (own_w hw 109 rfl)) (Or.inl (own_w hw 158 rfl)) (by decide) (t := (.array .int)) (t' := .int) (by decide) (by decide)))
      have F236 := F216.other W222 (Or.inr (slot_ne (Or.inl (own_w hw 156 rfl)) (Or.inl (own_w hw 158 rfl)) (by decide) (t := (.array .int)) (t' := .int) (by decide) (by decide)))
      have F237 : Fld Z h222 b0 ς1 "keys" "I" (.int (w_c - (1 : Int32))) := F217.same W222
      have F238 := F218.other W222 (Ne.symm kn8)
      have F239 := F219.other W222 (Ne.symm kn12)
      have F240 : Keep h0 h222 [b0, w_1, w_2, w_k] := F220.wr W222 (Or.inl (List.mem_of_getElem? (i := 0) rfl))
      have F241 := F202a.other W222 (Ne.symm kn4)
      refine own_st st222 ?_
      show own_Dn p e below s _ _ _ (T222.setTop (mkF m 143 #[ρ b0, ι v1, ι 15, ι v3, s4, s5] []))
      have eqH : T222.heap = h222 := e222
      exact own_retV X222 hx hret hlk (hb hby rk_d143) (by decide) (by decide) (by rw [eqH]; exact ⟨rfl, N222, F240, F224, F225, F226, F232, F233, F234, F235, F236, (by rw [hy8, rk_g8_14, if_pos hc200]; exact F237), (by rw [hy9, rk_g9_14, if_pos hc200]; exact F241), (by rw [hy10, rk_g10_14, if_pos hc200]; exact F238), (by rw [hy11, rk_g11_14, if_pos hc200]; exact F239)⟩)
    · refine own_st (fun _ k => XS.ifNo X199.here hx rfl (hb hby rk_d20) rfl ((if0 _ _).trans (feq hc200).1) k) ?_
      show own_Dn p e below s _ _ _ (T199.setTop (mkF m 23 #[ρ b0, ι v1, ι 15, ι v3, s4, s5] []))
      refine own_st (fun _ k => XS.aloadN X199.here hx rfl (hb hby rk_d23) rfl rfl (XS.aloadN X199.here hx rfl (hb hby rk_d24) rfl rfl k)) ?_
      show own_Dn p e below s _ _ _ (T199.setTop (mkF m 25 #[ρ b0, ι v1, ι 15, ι v3, s4, s5] [(.ref b0), (.ref b0)]))
      obtain ⟨T242, X242, e242, st242⟩ := getF X199 hx hZ hown (host := "") (Or.inl (own_w hw 102 rfl)) Via.refl e199 P9 (g := (mkF m 25 #[ρ b0, ι v1, ι 15, ι v3, s4, s5] [(.ref b0), (.ref b0)])) rfl rfl (hb hby rk_d25)
      refine own_st st242 ?_
      show own_Dn p e below s _ _ _ (T242.setTop (mkF m 28 #[ρ b0, ι v1, ι 15, ι v3, s4, s5] [(.ref w_1), (.ref b0)]))
      refine own_st (fun _ k => XS.iloadN X242.here hx rfl (hb hby rk_d28) rfl k) ?_
      show own_Dn p e below s _ _ _ (T242.setTop (mkF m 29 #[ρ b0, ι v1, ι 15, ι v3, s4, s5] [(.int v3), (.ref w_1), (.ref b0)]))
      refine own_st (own_ldI (pc := 29) (L := #[ρ b0, ι v1, ι 15, ι v3, s4, s5]) (rest := [(.ref b0)]) X242 hx hZ e242 P15 (j := v3) (own_iR_b hi0).2.1 (own_iR_b hi0).2.2 (hb hby rk_d29)) ?_
      show own_Dn p e below s _ _ _ (T242.setTop (mkF m 30 #[ρ b0, ι v1, ι 15, ι v3, s4, s5] [(.int (w15 (v3).toNatClampNeg)), (.ref b0)]))
      refine own_st (fun _ k => XS.iconst X242.here hx rfl (hb hby rk_d30) (XS.isub X242.here hx rfl (hb hby rk_d31) rfl k)) ?_
      show own_Dn p e below s _ _ _ (T242.setTop (mkF m 32 #[ρ b0, ι v1, ι 15, ι v3, s4, s5] [(.int ((w15 (v3).toNatClampNeg) - (1 : Int32))), (.ref b0)]))
      obtain ⟨cq243, q243, q243x⟩ := P1.cell
      obtain ⟨_, _, ⟨T243, L243, k243, n243⟩, -, X243, ⟨Lc243, hQ243, l243, y243, z243⟩, st243⟩ := X242.privateBack hx (y := (⟨ς1, "keyOf", "(I)[I"⟩ : MethodName)) hown (mvT hZ (own_w hw 146 rfl)) (mvT hZ (own_w hw 147 rfl)) (own_selp hZ (own_w hw 94 rfl) (own_w hw 147 rfl) (own_w hw 148 rfl) (by decide)) (Cond.privateMethod_at (mvP hZ (own_w hw 148 rfl) (args := #[]))) (mvT hZ (own_w hw 149 rfl)) (by decide) (backOf (W := 0) (ko_rm l Z a0 hw [] (b0) (((w15 (v3).toNatClampNeg) - (1 : Int32))) (w_r) (w_p) (w_d) (w_P) (w_D) (w_k) (w17) h1 n0 Z0 P1 P2 P3 P4 P5 P6 P7 P8 P11 P17 kn3 kn12 kn13 kn14 kn15 hP (own_rowE hi0.1 (own_iR_b hi0).2.2 hc200)) hZ (own_w hw 149 rfl) (own_w hw 95 rfl) (by decide) (by decide)) (g := (mkF m 32 #[ρ b0, ι v1, ι 15, ι v3, s4, s5] [(.int ((w15 (v3).toNatClampNeg) - (1 : Int32))), (.ref b0)])) rfl (by rw [hml]; rfl) (Steps.refl _) (a := b0) (by rw [show T242.heap = h1 from e242]; exact q243) q243x (argsL := [(.int ((w15 (v3).toNatClampNeg) - (1 : Int32)))]) (rest := []) (lenOf own_pd4 rfl) rfl (by show 2 * 0 + _ ≤ _; exact Nat.le_of_eq rfl) (hb hby rk_d32) (fun _ _ => ⟨rfl, e242, (by decide : 0 + 0 ≤ _), (by decide : 0 + 0 ≤ _)⟩)
      dsimp only [Pt.U, Pt.locs, Pt.cells, Pt.slots] at X243 l243 y243 z243 st243 hQ243
      subst l243 y243 z243
      obtain ⟨rfl, N243q, K243, G244⟩ := hQ243
      have F245 : n0 ≤ T243.heap.size := Nat.le_trans Z0 K243.1
      have F246 := P1.keep K243
      have F247 := P2.keep K243 (ninS kn12 nin0)
      have F248 := P3.keep K243 (ninS kn12 nin0)
      have F249 := P4.keep K243 (ninS kn14 nin0)
      have F250 := P5.keep K243
      have F251 := P6.keep K243 (ninS kn13 nin0)
      have F252 := P7.keep K243 (ninS kn13 nin0)
      have F253 := P8.keep K243 (ninS kn15 nin0)
      have F254 := P9.keep K243 (ninS kn12 nin0)
      have F255 := P10.keep K243 (ninS kn12 nin0)
      have F256 := P11.keep K243 (ninS kn12 nin0)
      have F257 := P12.keep K243 (ninS kn12 nin0)
      have F258 := P13.keep K243 (ninS kn12 nin0)
      have F259 := P14.keep K243 (ninS kn12 nin0)
      have F260 := P15.keep K243 (ninS kn17 nin0)
      have F261 := P16.keep K243 (ninS kn18 nin0)
      have F262 : Keep h0 T243.heap [b0, w_1, w_2, w_k] := K0.trans K243 (allS (Or.inl (List.mem_of_getElem? (i := 3) rfl)) all0)
      have N243 := Fr.app N0 N243q
      refine own_tr st243 ?_
      show own_Dn p e below s _ _ _ (T243.setTop (mkF m 35 #[ρ b0, ι v1, ι 15, ι v3, s4, s5] [(.ref w_k)]))
      obtain ⟨_, _, ⟨T263, L263, k263, n263⟩, -, X263, ⟨Lc263, hQ263, l263, y263, z263⟩, st263⟩ := Jvm.LawKit.callS X243 hx (y := (⟨ς1, "hash", "([I)I"⟩ : MethodName)) hown (mvT hZ (own_w hw 124 rfl)) (mvT hZ (own_w hw 125 rfl)) (mvT hZ (own_w hw 95 rfl)) (mvT hZ (own_w hw 126 rfl)) (by decide) (backOf (W := 0) (ha_rm l Z a0 hw [] (w_k) ((ko_g0 ((w15 (v3).toNatClampNeg) - (1 : Int32)) w_P w_D w17)) T243.heap n0 F245 G244) hZ (own_w hw 126 rfl) (own_w hw 95 rfl) (by decide) (by decide)) (g := (mkF m 35 #[ρ b0, ι v1, ι 15, ι v3, s4, s5] [(.ref w_k)])) rfl (by rw [hml]; rfl) (argsL := [(.ref w_k)]) (rest := []) (lenOf own_pd2 rfl) rfl (by show 2 * 0 + _ ≤ _; exact Nat.le_of_eq rfl) (hb hby rk_d35) (fun _ _ => ⟨rfl, rfl, (by decide : 0 + 0 ≤ _), (by decide : 0 + 0 ≤ _)⟩)
      dsimp only [Pt.U, Pt.locs, Pt.cells, Pt.slots] at X263 l263 y263 z263 st263 hQ263
      subst l263 y263 z263
      obtain ⟨rfl, N263q, e263⟩ := hQ263
      have N263 := Fr.app N243 N263q
      refine own_st st263 ?_
      show own_Dn p e below s _ _ _ (T263.setTop (mkF m 38 #[ρ b0, ι v1, ι 15, ι v3, s4, s5] [(.int (ha_f (ko_g0 ((w15 (v3).toNatClampNeg) - (1 : Int32)) w_P w_D w17)))]))
      refine own_st (fun _ k => XS.iloadN X263.here hx rfl (hb hby rk_d38) rfl (XS.iand X263.here hx rfl (hb hby rk_d39) rfl (XS.istore X263.here hx rfl (hb hby rk_d40) rfl (l' := #[ρ b0, ι v1, ι 15, ι v3, .val (.int ((ha_f (ko_g0 ((w15 (v3).toNatClampNeg) - (1 : Int32)) w_P w_D w17)) &&& (15 : Int32))), s5]) (XS.store1 rfl hs4 rfl) (XS.iloadN X263.here hx rfl (hb hby rk_d42) rfl (XS.iloadN X263.here hx rfl (hb hby rk_d43) rfl k))))) ?_
      show own_Dn p e below s _ _ _ (T263.setTop (mkF m 44 #[ρ b0, ι v1, ι 15, ι v3, .val (.int ((ha_f (ko_g0 ((w15 (v3).toNatClampNeg) - (1 : Int32)) w_P w_D w17)) &&& (15 : Int32))), s5] [(.int v3), (.int v1)]))
      by_cases hc264 : v1 < v3
      · refine own_st (fun _ k => XS.icmpNo X263.here hx rfl (hb hby rk_d44) rfl (tlt hc264).2.1 k) ?_
        show own_Dn p e below s _ _ _ (T263.setTop (mkF m 47 #[ρ b0, ι v1, ι 15, ι v3, .val (.int ((ha_f (ko_g0 ((w15 (v3).toNatClampNeg) - (1 : Int32)) w_P w_D w17)) &&& (15 : Int32))), s5] []))
        refine own_st (fun _ k => XS.iloadN X263.here hx rfl (hb hby rk_d47) rfl (XS.iload X263.here hx rfl (hb hby rk_d48) rfl k)) ?_
        show own_Dn p e below s _ _ _ (T263.setTop (mkF m 50 #[ρ b0, ι v1, ι 15, ι v3, .val (.int ((ha_f (ko_g0 ((w15 (v3).toNatClampNeg) - (1 : Int32)) w_P w_D w17)) &&& (15 : Int32))), s5] [(.int ((ha_f (ko_g0 ((w15 (v3).toNatClampNeg) - (1 : Int32)) w_P w_D w17)) &&& (15 : Int32))), (.int v1)]))
        by_cases hc265 : v1 < ((ha_f (ko_g0 ((w15 (v3).toNatClampNeg) - (1 : Int32)) w_P w_D w17)) &&& (15 : Int32))
        · refine own_st (fun _ k => XS.icmpNo X263.here hx rfl (hb hby rk_d50) rfl (tlt hc265).2.1 k) ?_
          show own_Dn p e below s _ _ _ (T263.setTop (mkF m 53 #[ρ b0, ι v1, ι 15, ι v3, .val (.int ((ha_f (ko_g0 ((w15 (v3).toNatClampNeg) - (1 : Int32)) w_P w_D w17)) &&& (15 : Int32))), s5] []))
          refine own_st (fun _ k => XS.iload X263.here hx rfl (hb hby rk_d53) rfl (XS.iloadN X263.here hx rfl (hb hby rk_d55) rfl k)) ?_
          show own_Dn p e below s _ _ _ (T263.setTop (mkF m 56 #[ρ b0, ι v1, ι 15, ι v3, .val (.int ((ha_f (ko_g0 ((w15 (v3).toNatClampNeg) - (1 : Int32)) w_P w_D w17)) &&& (15 : Int32))), s5] [(.int v3), (.int ((ha_f (ko_g0 ((w15 (v3).toNatClampNeg) - (1 : Int32)) w_P w_D w17)) &&& (15 : Int32)))]))
          by_cases hc266 : v3 < ((ha_f (ko_g0 ((w15 (v3).toNatClampNeg) - (1 : Int32)) w_P w_D w17)) &&& (15 : Int32))
          · refine own_st (fun _ k => XS.icmpYes X263.here hx rfl (pc0 := 56) (pc' := 63) rfl (hb hby rk_d56) rfl (tlt hc266).2.2.1 (by decide) (by decide) k) ?_
            show own_Dn p e below s _ _ _ (T263.setTop (mkF m 63 #[ρ b0, ι v1, ι 15, ι v3, .val (.int ((ha_f (ko_g0 ((w15 (v3).toNatClampNeg) - (1 : Int32)) w_P w_D w17)) &&& (15 : Int32))), s5] []))
            refine own_st (fun _ k => XS.iconst X263.here hx rfl (hb hby rk_d63) (XS.goto X263.here hx rfl (pc0 := 64) (pc' := 84) rfl (hb hby rk_d64) (by decide) (by decide) (XS.istore X263.here hx rfl (hb hby rk_d84) rfl (l' := #[ρ b0, ι v1, ι 15, ι v3, .val (.int ((ha_f (ko_g0 ((w15 (v3).toNatClampNeg) - (1 : Int32)) w_P w_D w17)) &&& (15 : Int32))), ι 0]) (XS.store1 rfl hs5 rfl) (XS.iload X263.here hx rfl (hb hby rk_d86) rfl k)))) ?_
            show own_Dn p e below s _ _ _ (T263.setTop (mkF m 88 #[ρ b0, ι v1, ι 15, ι v3, .val (.int ((ha_f (ko_g0 ((w15 (v3).toNatClampNeg) - (1 : Int32)) w_P w_D w17)) &&& (15 : Int32))), ι 0] [(.int 0)]))
            refine own_st (fun _ k => XS.ifNo X263.here hx rfl (hb hby rk_d88) rfl ((if0 _ _).trans (teq (by decide : (0 : Int32) = (0 : Int32))).2) k) ?_
            show own_Dn p e below s _ _ _ (T263.setTop (mkF m 91 #[ρ b0, ι v1, ι 15, ι v3, .val (.int ((ha_f (ko_g0 ((w15 (v3).toNatClampNeg) - (1 : Int32)) w_P w_D w17)) &&& (15 : Int32))), ι 0] []))
            refine own_st (fun _ k => XS.aloadN X263.here hx rfl (hb hby rk_d91) rfl rfl k) ?_
            show own_Dn p e below s _ _ _ (T263.setTop (mkF m 92 #[ρ b0, ι v1, ι 15, ι v3, .val (.int ((ha_f (ko_g0 ((w15 (v3).toNatClampNeg) - (1 : Int32)) w_P w_D w17)) &&& (15 : Int32))), ι 0] [(.ref b0)]))
            obtain ⟨T267, X267, e267, st267⟩ := getF X263 hx hZ hown (host := "") (Or.inl (own_w hw 102 rfl)) Via.refl e263 F254 (g := (mkF m 92 #[ρ b0, ι v1, ι 15, ι v3, .val (.int ((ha_f (ko_g0 ((w15 (v3).toNatClampNeg) - (1 : Int32)) w_P w_D w17)) &&& (15 : Int32))), ι 0] [(.ref b0)])) rfl rfl (hb hby rk_d92)
            refine own_st st267 ?_
            show own_Dn p e below s _ _ _ (T267.setTop (mkF m 95 #[ρ b0, ι v1, ι 15, ι v3, .val (.int ((ha_f (ko_g0 ((w15 (v3).toNatClampNeg) - (1 : Int32)) w_P w_D w17)) &&& (15 : Int32))), ι 0] [(.ref w_1)]))
            refine own_st (fun _ k => XS.iloadN X267.here hx rfl (hb hby rk_d95) rfl (XS.aloadN X267.here hx rfl (hb hby rk_d96) rfl rfl k)) ?_
            show own_Dn p e below s _ _ _ (T267.setTop (mkF m 97 #[ρ b0, ι v1, ι 15, ι v3, .val (.int ((ha_f (ko_g0 ((w15 (v3).toNatClampNeg) - (1 : Int32)) w_P w_D w17)) &&& (15 : Int32))), ι 0] [(.ref b0), (.int v1), (.ref w_1)]))
            obtain ⟨T268, X268, e268, st268⟩ := getF X267 hx hZ hown (host := "") (Or.inl (own_w hw 102 rfl)) Via.refl e267 F254 (g := (mkF m 97 #[ρ b0, ι v1, ι 15, ι v3, .val (.int ((ha_f (ko_g0 ((w15 (v3).toNatClampNeg) - (1 : Int32)) w_P w_D w17)) &&& (15 : Int32))), ι 0] [(.ref b0), (.int v1), (.ref w_1)])) rfl rfl (hb hby rk_d97)
            refine own_st st268 ?_
            show own_Dn p e below s _ _ _ (T268.setTop (mkF m 100 #[ρ b0, ι v1, ι 15, ι v3, .val (.int ((ha_f (ko_g0 ((w15 (v3).toNatClampNeg) - (1 : Int32)) w_P w_D w17)) &&& (15 : Int32))), ι 0] [(.ref w_1), (.int v1), (.ref w_1)]))
            refine own_st (fun _ k => XS.iloadN X268.here hx rfl (hb hby rk_d100) rfl k) ?_
            show own_Dn p e below s _ _ _ (T268.setTop (mkF m 101 #[ρ b0, ι v1, ι 15, ι v3, .val (.int ((ha_f (ko_g0 ((w15 (v3).toNatClampNeg) - (1 : Int32)) w_P w_D w17)) &&& (15 : Int32))), ι 0] [(.int v3), (.ref w_1), (.int v1), (.ref w_1)]))
            refine own_st (own_ldI (pc := 101) (L := #[ρ b0, ι v1, ι 15, ι v3, .val (.int ((ha_f (ko_g0 ((w15 (v3).toNatClampNeg) - (1 : Int32)) w_P w_D w17)) &&& (15 : Int32))), ι 0]) (rest := [(.int v1), (.ref w_1)]) X268 hx hZ e268 F260 (j := v3) (own_iR_b hi0).2.1 (own_iR_b hi0).2.2 (hb hby rk_d101)) ?_
            show own_Dn p e below s _ _ _ (T268.setTop (mkF m 102 #[ρ b0, ι v1, ι 15, ι v3, .val (.int ((ha_f (ko_g0 ((w15 (v3).toNatClampNeg) - (1 : Int32)) w_P w_D w17)) &&& (15 : Int32))), ι 0] [(.int (w15 (v3).toNatClampNeg)), (.int v1), (.ref w_1)]))
            obtain ⟨T269, h269, X269, e269, W269, F269a, st269⟩ := own_stI (pc := 102) (L := #[ρ b0, ι v1, ι 15, ι v3, .val (.int ((ha_f (ko_g0 ((w15 (v3).toNatClampNeg) - (1 : Int32)) w_P w_D w17)) &&& (15 : Int32))), ι 0]) (rest := []) X268 hx hZ e268 F260 (j := v1) (x := (w15 (v3).toNatClampNeg)) (own_iR_b hi0).1.1 (own_iR_b hi0).1.2 (hb hby rk_d102)
            have N269 := Fr.snoc X269 N263 kn1
            have F270 : n0 ≤ h269.size := Nat.le_trans F245 (Keep.of_wr W269).1
            have F271 := F246.wr W269
            have F272 := F247.other W269 (Or.inl kn4)
            have F273 := F248.other W269 (Or.inl kn4)
            have F274 := F249.other W269 kn6
            have F275 := F250.wr W269
            have F276 := F251.other W269 (Or.inl kn5)
            have F277 := F252.other W269 (Or.inl kn5)
            have F278 := F253.other W269 kn7
            have F279 := F254.other W269 (Or.inl kn4)
            have F280 := F255.other W269 (Or.inl kn4)
            have F281 := F256.other W269 (Or.inl kn4)
            have F282 := F257.other W269 (Or.inl kn4)
            have F283 := F258.other W269 (Or.inl kn4)
            have F284 := F259.other W269 (Or.inl kn4)
            have F285 := F261.other W269 (Ne.symm kn16)
            have F286 : Keep h0 h269 [b0, w_1, w_2, w_k] := F262.wr W269 (Or.inl (List.mem_of_getElem? (i := 1) rfl))
            have F287 := G244.other W269 (Ne.symm kn17)
            refine own_st st269 ?_
            show own_Dn p e below s _ _ _ (T269.setTop (mkF m 103 #[ρ b0, ι v1, ι 15, ι v3, .val (.int ((ha_f (ko_g0 ((w15 (v3).toNatClampNeg) - (1 : Int32)) w_P w_D w17)) &&& (15 : Int32))), ι 0] []))
            refine own_st (fun _ k => XS.aloadN X269.here hx rfl (hb hby rk_d103) rfl rfl k) ?_
            show own_Dn p e below s _ _ _ (T269.setTop (mkF m 104 #[ρ b0, ι v1, ι 15, ι v3, .val (.int ((ha_f (ko_g0 ((w15 (v3).toNatClampNeg) - (1 : Int32)) w_P w_D w17)) &&& (15 : Int32))), ι 0] [(.ref b0)]))
            obtain ⟨T288, X288, e288, st288⟩ := getF X269 hx hZ hown (host := "") (Or.inl (own_w hw 104 rfl)) Via.refl e269 F280 (g := (mkF m 104 #[ρ b0, ι v1, ι 15, ι v3, .val (.int ((ha_f (ko_g0 ((w15 (v3).toNatClampNeg) - (1 : Int32)) w_P w_D w17)) &&& (15 : Int32))), ι 0] [(.ref b0)])) rfl rfl (hb hby rk_d104)
            refine own_st st288 ?_
            show own_Dn p e below s _ _ _ (T288.setTop (mkF m 107 #[ρ b0, ι v1, ι 15, ι v3, .val (.int ((ha_f (ko_g0 ((w15 (v3).toNatClampNeg) - (1 : Int32)) w_P w_D w17)) &&& (15 : Int32))), ι 0] [(.ref w_2)]))
            refine own_st (fun _ k => XS.iloadN X288.here hx rfl (hb hby rk_d107) rfl (XS.aloadN X288.here hx rfl (hb hby rk_d108) rfl rfl k)) ?_
            show own_Dn p e below s _ _ _ (T288.setTop (mkF m 109 #[ρ b0, ι v1, ι 15, ι v3, .val (.int ((ha_f (ko_g0 ((w15 (v3).toNatClampNeg) - (1 : Int32)) w_P w_D w17)) &&& (15 : Int32))), ι 0] [(.ref b0), (.int v1), (.ref w_2)]))
            obtain ⟨T289, X289, e289, st289⟩ := getF X288 hx hZ hown (host := "") (Or.inl (own_w hw 104 rfl)) Via.refl e288 F280 (g := (mkF m 109 #[ρ b0, ι v1, ι 15, ι v3, .val (.int ((ha_f (ko_g0 ((w15 (v3).toNatClampNeg) - (1 : Int32)) w_P w_D w17)) &&& (15 : Int32))), ι 0] [(.ref b0), (.int v1), (.ref w_2)])) rfl rfl (hb hby rk_d109)
            refine own_st st289 ?_
            show own_Dn p e below s _ _ _ (T289.setTop (mkF m 112 #[ρ b0, ι v1, ι 15, ι v3, .val (.int ((ha_f (ko_g0 ((w15 (v3).toNatClampNeg) - (1 : Int32)) w_P w_D w17)) &&& (15 : Int32))), ι 0] [(.ref w_2), (.int v1), (.ref w_2)]))
            refine own_st (fun _ k => XS.iloadN X289.here hx rfl (hb hby rk_d112) rfl k) ?_
            show own_Dn p e below s _ _ _ (T289.setTop (mkF m 113 #[ρ b0, ι v1, ι 15, ι v3, .val (.int ((ha_f (ko_g0 ((w15 (v3).toNatClampNeg) - (1 : Int32)) w_P w_D w17)) &&& (15 : Int32))), ι 0] [(.int v3), (.ref w_2), (.int v1), (.ref w_2)]))
            refine own_st (own_ldI (pc := 113) (L := #[ρ b0, ι v1, ι 15, ι v3, .val (.int ((ha_f (ko_g0 ((w15 (v3).toNatClampNeg) - (1 : Int32)) w_P w_D w17)) &&& (15 : Int32))), ι 0]) (rest := [(.int v1), (.ref w_2)]) X289 hx hZ e289 F285 (j := v3) (own_iR_b hi0).2.1 (own_iR_b hi0).2.2 (hb hby rk_d113)) ?_
            show own_Dn p e below s _ _ _ (T289.setTop (mkF m 114 #[ρ b0, ι v1, ι 15, ι v3, .val (.int ((ha_f (ko_g0 ((w15 (v3).toNatClampNeg) - (1 : Int32)) w_P w_D w17)) &&& (15 : Int32))), ι 0] [(.int (w16 (v3).toNatClampNeg)), (.int v1), (.ref w_2)]))
            obtain ⟨T290, h290, X290, e290, W290, F290a, st290⟩ := own_stI (pc := 114) (L := #[ρ b0, ι v1, ι 15, ι v3, .val (.int ((ha_f (ko_g0 ((w15 (v3).toNatClampNeg) - (1 : Int32)) w_P w_D w17)) &&& (15 : Int32))), ι 0]) (rest := []) X289 hx hZ e289 F285 (j := v1) (x := (w16 (v3).toNatClampNeg)) (own_iR_b hi0).1.1 (own_iR_b hi0).1.2 (hb hby rk_d114)
            have N290 := Fr.snoc X290 N269 kn2
            have F291 : n0 ≤ h290.size := Nat.le_trans F270 (Keep.of_wr W290).1
            have F292 := F271.wr W290
            have F293 := F272.other W290 (Or.inl kn8)
            have F294 := F273.other W290 (Or.inl kn8)
            have F295 := F274.other W290 kn10
            have F296 := F275.wr W290
            have F297 := F276.other W290 (Or.inl kn9)
            have F298 := F277.other W290 (Or.inl kn9)
            have F299 := F278.other W290 kn11
            have F300 := F279.other W290 (Or.inl kn8)
            have F301 := F280.other W290 (Or.inl kn8)
            have F302 := F281.other W290 (Or.inl kn8)
            have F303 := F282.other W290 (Or.inl kn8)
            have F304 := F283.other W290 (Or.inl kn8)
            have F305 := F284.other W290 (Or.inl kn8)
            have F306 : Keep h0 h290 [b0, w_1, w_2, w_k] := F286.wr W290 (Or.inl (List.mem_of_getElem? (i := 2) rfl))
            have F307 := F287.other W290 (Ne.symm kn18)
            have F308 := F269a.other W290 kn16
            refine own_st st290 ?_
            show own_Dn p e below s _ _ _ (T290.setTop (mkF m 115 #[ρ b0, ι v1, ι 15, ι v3, .val (.int ((ha_f (ko_g0 ((w15 (v3).toNatClampNeg) - (1 : Int32)) w_P w_D w17)) &&& (15 : Int32))), ι 0] []))
            refine own_st (fun _ k => XS.iloadN X290.here hx rfl (hb hby rk_d115) rfl (XS.istoreN X290.here hx rfl (hb hby rk_d116) rfl (l' := #[ρ b0, ι v3, ι 15, ι v3, .val (.int ((ha_f (ko_g0 ((w15 (v3).toNatClampNeg) - (1 : Int32)) w_P w_D w17)) &&& (15 : Int32))), ι 0]) rfl (XS.iloadN X290.here hx rfl (hb hby rk_d117) rfl (XS.iconst X290.here hx rfl (hb hby rk_d118) (XS.iadd X290.here hx rfl (hb hby rk_d119) rfl (XS.iloadN X290.here hx rfl (hb hby rk_d120) rfl (XS.iand X290.here hx rfl (hb hby rk_d121) rfl (XS.istoreN X290.here hx rfl (hb hby rk_d122) rfl (l' := #[ρ b0, ι v3, ι 15, .val (.int ((v3 + (1 : Int32)) &&& (15 : Int32))), .val (.int ((ha_f (ko_g0 ((w15 (v3).toNatClampNeg) - (1 : Int32)) w_P w_D w17)) &&& (15 : Int32))), ι 0]) rfl (XS.goto X290.here hx rfl (pc0 := 123) (pc' := 14) rfl (hb hby rk_d123) (by decide) (by decide) k))))))))) ?_
            show own_Dn p e below s _ _ _ (T290.setTop (mkF m 14 #[ρ b0, ι v3, ι 15, .val (.int ((v3 + (1 : Int32)) &&& (15 : Int32))), .val (.int ((ha_f (ko_g0 ((w15 (v3).toNatClampNeg) - (1 : Int32)) w_P w_D w17)) &&& (15 : Int32))), ι 0] []))
            exact ih X290 e290 N290 (v3) (((v3 + (1 : Int32)) &&& (15 : Int32))) (.val (.int ((ha_f (ko_g0 ((w15 (v3).toNatClampNeg) - (1 : Int32)) w_P w_D w17)) &&& (15 : Int32)))) ((One.val rfl)) (.val (.int 0)) ((One.val rfl)) ((own_upd w15 (v1).toNatClampNeg (w15 (v3).toNatClampNeg))) ((own_upd w16 (v1).toNatClampNeg (w16 (v3).toNatClampNeg))) ((ko_g0 ((w15 (v3).toNatClampNeg) - (1 : Int32)) w_P w_D w17)) F291 F292 F293 F294 F295 F296 F297 F298 F299 F300 F301 F302 F303 F304 F305 F308 F290a F307 F306 (own_iR_move hi0 hc200) (by rw [hy8, rk_g8_14, if_neg hc200, if_pos hc264, if_pos hc265, if_pos hc266]) (by rw [hy9, rk_g9_14, if_neg hc200, if_pos hc264, if_pos hc265, if_pos hc266]) (by rw [hy10, rk_g10_14, if_neg hc200, if_pos hc264, if_pos hc265, if_pos hc266]) (by rw [hy11, rk_g11_14, if_neg hc200, if_pos hc264, if_pos hc265, if_pos hc266])
          · refine own_st (fun _ k => XS.icmpNo X263.here hx rfl (hb hby rk_d56) rfl (flt hc266).2.2.1 k) ?_
            show own_Dn p e below s _ _ _ (T263.setTop (mkF m 59 #[ρ b0, ι v1, ι 15, ι v3, .val (.int ((ha_f (ko_g0 ((w15 (v3).toNatClampNeg) - (1 : Int32)) w_P w_D w17)) &&& (15 : Int32))), s5] []))
            refine own_st (fun _ k => XS.iconst X263.here hx rfl (hb hby rk_d59) (XS.goto X263.here hx rfl (pc0 := 60) (pc' := 84) rfl (hb hby rk_d60) (by decide) (by decide) (XS.istore X263.here hx rfl (hb hby rk_d84) rfl (l' := #[ρ b0, ι v1, ι 15, ι v3, .val (.int ((ha_f (ko_g0 ((w15 (v3).toNatClampNeg) - (1 : Int32)) w_P w_D w17)) &&& (15 : Int32))), ι 1]) (XS.store1 rfl hs5 rfl) (XS.iload X263.here hx rfl (hb hby rk_d86) rfl k)))) ?_
            show own_Dn p e below s _ _ _ (T263.setTop (mkF m 88 #[ρ b0, ι v1, ι 15, ι v3, .val (.int ((ha_f (ko_g0 ((w15 (v3).toNatClampNeg) - (1 : Int32)) w_P w_D w17)) &&& (15 : Int32))), ι 1] [(.int 1)]))
            refine own_st (fun _ k => XS.ifYes X263.here hx rfl (pc0 := 88) (pc' := 117) rfl (hb hby rk_d88) rfl ((if0 _ _).trans (feq (by decide : ¬ ((1 : Int32) = (0 : Int32)))).2) (by decide) (by decide) k) ?_
            show own_Dn p e below s _ _ _ (T263.setTop (mkF m 117 #[ρ b0, ι v1, ι 15, ι v3, .val (.int ((ha_f (ko_g0 ((w15 (v3).toNatClampNeg) - (1 : Int32)) w_P w_D w17)) &&& (15 : Int32))), ι 1] []))
            refine own_st (fun _ k => XS.iloadN X263.here hx rfl (hb hby rk_d117) rfl (XS.iconst X263.here hx rfl (hb hby rk_d118) (XS.iadd X263.here hx rfl (hb hby rk_d119) rfl (XS.iloadN X263.here hx rfl (hb hby rk_d120) rfl (XS.iand X263.here hx rfl (hb hby rk_d121) rfl (XS.istoreN X263.here hx rfl (hb hby rk_d122) rfl (l' := #[ρ b0, ι v1, ι 15, .val (.int ((v3 + (1 : Int32)) &&& (15 : Int32))), .val (.int ((ha_f (ko_g0 ((w15 (v3).toNatClampNeg) - (1 : Int32)) w_P w_D w17)) &&& (15 : Int32))), ι 1]) rfl (XS.goto X263.here hx rfl (pc0 := 123) (pc' := 14) rfl (hb hby rk_d123) (by decide) (by decide) k))))))) ?_
            show own_Dn p e below s _ _ _ (T263.setTop (mkF m 14 #[ρ b0, ι v1, ι 15, .val (.int ((v3 + (1 : Int32)) &&& (15 : Int32))), .val (.int ((ha_f (ko_g0 ((w15 (v3).toNatClampNeg) - (1 : Int32)) w_P w_D w17)) &&& (15 : Int32))), ι 1] []))
            exact ih X263 e263 N263 (v1) (((v3 + (1 : Int32)) &&& (15 : Int32))) (.val (.int ((ha_f (ko_g0 ((w15 (v3).toNatClampNeg) - (1 : Int32)) w_P w_D w17)) &&& (15 : Int32)))) ((One.val rfl)) (.val (.int 1)) ((One.val rfl)) (w15) (w16) ((ko_g0 ((w15 (v3).toNatClampNeg) - (1 : Int32)) w_P w_D w17)) F245 F246 F247 F248 F249 F250 F251 F252 F253 F254 F255 F256 F257 F258 F259 F260 F261 G244 F262 (own_iR_stay hi0 hc200) (by rw [hy8, rk_g8_14, if_neg hc200, if_pos hc264, if_pos hc265, if_neg hc266]) (by rw [hy9, rk_g9_14, if_neg hc200, if_pos hc264, if_pos hc265, if_neg hc266]) (by rw [hy10, rk_g10_14, if_neg hc200, if_pos hc264, if_pos hc265, if_neg hc266]) (by rw [hy11, rk_g11_14, if_neg hc200, if_pos hc264, if_pos hc265, if_neg hc266])
        · refine own_st (fun _ k => XS.icmpYes X263.here hx rfl (pc0 := 50) (pc' := 63) rfl (hb hby rk_d50) rfl (flt hc265).2.1 (by decide) (by decide) k) ?_
          show own_Dn p e below s _ _ _ (T263.setTop (mkF m 63 #[ρ b0, ι v1, ι 15, ι v3, .val (.int ((ha_f (ko_g0 ((w15 (v3).toNatClampNeg) - (1 : Int32)) w_P w_D w17)) &&& (15 : Int32))), s5] []))
          refine own_st (fun _ k => XS.iconst X263.here hx rfl (hb hby rk_d63) (XS.goto X263.here hx rfl (pc0 := 64) (pc' := 84) rfl (hb hby rk_d64) (by decide) (by decide) (XS.istore X263.here hx rfl (hb hby rk_d84) rfl (l' := #[ρ b0, ι v1, ι 15, ι v3, .val (.int ((ha_f (ko_g0 ((w15 (v3).toNatClampNeg) - (1 : Int32)) w_P w_D w17)) &&& (15 : Int32))), ι 0]) (XS.store1 rfl hs5 rfl) (XS.iload X263.here hx rfl (hb hby rk_d86) rfl k)))) ?_
          show own_Dn p e below s _ _ _ (T263.setTop (mkF m 88 #[ρ b0, ι v1, ι 15, ι v3, .val (.int ((ha_f (ko_g0 ((w15 (v3).toNatClampNeg) - (1 : Int32)) w_P w_D w17)) &&& (15 : Int32))), ι 0] [(.int 0)]))
          refine own_st (fun _ k => XS.ifNo X263.here hx rfl (hb hby rk_d88) rfl ((if0 _ _).trans (teq (by decide : (0 : Int32) = (0 : Int32))).2) k) ?_
          show own_Dn p e below s _ _ _ (T263.setTop (mkF m 91 #[ρ b0, ι v1, ι 15, ι v3, .val (.int ((ha_f (ko_g0 ((w15 (v3).toNatClampNeg) - (1 : Int32)) w_P w_D w17)) &&& (15 : Int32))), ι 0] []))
          refine own_st (fun _ k => XS.aloadN X263.here hx rfl (hb hby rk_d91) rfl rfl k) ?_
          show own_Dn p e below s _ _ _ (T263.setTop (mkF m 92 #[ρ b0, ι v1, ι 15, ι v3, .val (.int ((ha_f (ko_g0 ((w15 (v3).toNatClampNeg) - (1 : Int32)) w_P w_D w17)) &&& (15 : Int32))), ι 0] [(.ref b0)]))
          obtain ⟨T309, X309, e309, st309⟩ := getF X263 hx hZ hown (host := "") (Or.inl (own_w hw 102 rfl)) Via.refl e263 F254 (g := (mkF m 92 #[ρ b0, ι v1, ι 15, ι v3, .val (.int ((ha_f (ko_g0 ((w15 (v3).toNatClampNeg) - (1 : Int32)) w_P w_D w17)) &&& (15 : Int32))), ι 0] [(.ref b0)])) rfl rfl (hb hby rk_d92)
          refine own_st st309 ?_
          show own_Dn p e below s _ _ _ (T309.setTop (mkF m 95 #[ρ b0, ι v1, ι 15, ι v3, .val (.int ((ha_f (ko_g0 ((w15 (v3).toNatClampNeg) - (1 : Int32)) w_P w_D w17)) &&& (15 : Int32))), ι 0] [(.ref w_1)]))
          refine own_st (fun _ k => XS.iloadN X309.here hx rfl (hb hby rk_d95) rfl (XS.aloadN X309.here hx rfl (hb hby rk_d96) rfl rfl k)) ?_
          show own_Dn p e below s _ _ _ (T309.setTop (mkF m 97 #[ρ b0, ι v1, ι 15, ι v3, .val (.int ((ha_f (ko_g0 ((w15 (v3).toNatClampNeg) - (1 : Int32)) w_P w_D w17)) &&& (15 : Int32))), ι 0] [(.ref b0), (.int v1), (.ref w_1)]))
          obtain ⟨T310, X310, e310, st310⟩ := getF X309 hx hZ hown (host := "") (Or.inl (own_w hw 102 rfl)) Via.refl e309 F254 (g := (mkF m 97 #[ρ b0, ι v1, ι 15, ι v3, .val (.int ((ha_f (ko_g0 ((w15 (v3).toNatClampNeg) - (1 : Int32)) w_P w_D w17)) &&& (15 : Int32))), ι 0] [(.ref b0), (.int v1), (.ref w_1)])) rfl rfl (hb hby rk_d97)
          refine own_st st310 ?_
          show own_Dn p e below s _ _ _ (T310.setTop (mkF m 100 #[ρ b0, ι v1, ι 15, ι v3, .val (.int ((ha_f (ko_g0 ((w15 (v3).toNatClampNeg) - (1 : Int32)) w_P w_D w17)) &&& (15 : Int32))), ι 0] [(.ref w_1), (.int v1), (.ref w_1)]))
          refine own_st (fun _ k => XS.iloadN X310.here hx rfl (hb hby rk_d100) rfl k) ?_
          show own_Dn p e below s _ _ _ (T310.setTop (mkF m 101 #[ρ b0, ι v1, ι 15, ι v3, .val (.int ((ha_f (ko_g0 ((w15 (v3).toNatClampNeg) - (1 : Int32)) w_P w_D w17)) &&& (15 : Int32))), ι 0] [(.int v3), (.ref w_1), (.int v1), (.ref w_1)]))
          refine own_st (own_ldI (pc := 101) (L := #[ρ b0, ι v1, ι 15, ι v3, .val (.int ((ha_f (ko_g0 ((w15 (v3).toNatClampNeg) - (1 : Int32)) w_P w_D w17)) &&& (15 : Int32))), ι 0]) (rest := [(.int v1), (.ref w_1)]) X310 hx hZ e310 F260 (j := v3) (own_iR_b hi0).2.1 (own_iR_b hi0).2.2 (hb hby rk_d101)) ?_
          show own_Dn p e below s _ _ _ (T310.setTop (mkF m 102 #[ρ b0, ι v1, ι 15, ι v3, .val (.int ((ha_f (ko_g0 ((w15 (v3).toNatClampNeg) - (1 : Int32)) w_P w_D w17)) &&& (15 : Int32))), ι 0] [(.int (w15 (v3).toNatClampNeg)), (.int v1), (.ref w_1)]))
          obtain ⟨T311, h311, X311, e311, W311, F311a, st311⟩ := own_stI (pc := 102) (L := #[ρ b0, ι v1, ι 15, ι v3, .val (.int ((ha_f (ko_g0 ((w15 (v3).toNatClampNeg) - (1 : Int32)) w_P w_D w17)) &&& (15 : Int32))), ι 0]) (rest := []) X310 hx hZ e310 F260 (j := v1) (x := (w15 (v3).toNatClampNeg)) (own_iR_b hi0).1.1 (own_iR_b hi0).1.2 (hb hby rk_d102)
          have N311 := Fr.snoc X311 N263 kn1
          have F312 : n0 ≤ h311.size := Nat.le_trans F245 (Keep.of_wr W311).1
          have F313 := F246.wr W311
          have F314 := F247.other W311 (Or.inl kn4)
          have F315 := F248.other W311 (Or.inl kn4)
          have F316 := F249.other W311 kn6
          have F317 := F250.wr W311
          have F318 := F251.other W311 (Or.inl kn5)
          have F319 := F252.other W311 (Or.inl kn5)
          have F320 := F253.other W311 kn7
          have F321 := F254.other W311 (Or.inl kn4)
          have F322 := F255.other W311 (Or.inl kn4)
          have F323 := F256.other W311 (Or.inl kn4)
          have F324 := F257.other W311 (Or.inl kn4)
          have F325 := F258.other W311 (Or.inl kn4)
          have F326 := F259.other W311 (Or.inl kn4)
          have F327 := F261.other W311 (Ne.symm kn16)
          have F328 : Keep h0 h311 [b0, w_1, w_2, w_k] := F262.wr W311 (Or.inl (List.mem_of_getElem? (i := 1) rfl))
          have F329 := G244.other W311 (Ne.symm kn17)
          refine own_st st311 ?_
          show own_Dn p e below s _ _ _ (T311.setTop (mkF m 103 #[ρ b0, ι v1, ι 15, ι v3, .val (.int ((ha_f (ko_g0 ((w15 (v3).toNatClampNeg) - (1 : Int32)) w_P w_D w17)) &&& (15 : Int32))), ι 0] []))
          refine own_st (fun _ k => XS.aloadN X311.here hx rfl (hb hby rk_d103) rfl rfl k) ?_
          show own_Dn p e below s _ _ _ (T311.setTop (mkF m 104 #[ρ b0, ι v1, ι 15, ι v3, .val (.int ((ha_f (ko_g0 ((w15 (v3).toNatClampNeg) - (1 : Int32)) w_P w_D w17)) &&& (15 : Int32))), ι 0] [(.ref b0)]))
          obtain ⟨T330, X330, e330, st330⟩ := getF X311 hx hZ hown (host := "") (Or.inl (own_w hw 104 rfl)) Via.refl e311 F322 (g := (mkF m 104 #[ρ b0, ι v1, ι 15, ι v3, .val (.int ((ha_f (ko_g0 ((w15 (v3).toNatClampNeg) - (1 : Int32)) w_P w_D w17)) &&& (15 : Int32))), ι 0] [(.ref b0)])) rfl rfl (hb hby rk_d104)
          refine own_st st330 ?_
          show own_Dn p e below s _ _ _ (T330.setTop (mkF m 107 #[ρ b0, ι v1, ι 15, ι v3, .val (.int ((ha_f (ko_g0 ((w15 (v3).toNatClampNeg) - (1 : Int32)) w_P w_D w17)) &&& (15 : Int32))), ι 0] [(.ref w_2)]))
          refine own_st (fun _ k => XS.iloadN X330.here hx rfl (hb hby rk_d107) rfl (XS.aloadN X330.here hx rfl (hb hby rk_d108) rfl rfl k)) ?_
          show own_Dn p e below s _ _ _ (T330.setTop (mkF m 109 #[ρ b0, ι v1, ι 15, ι v3, .val (.int ((ha_f (ko_g0 ((w15 (v3).toNatClampNeg) - (1 : Int32)) w_P w_D w17)) &&& (15 : Int32))), ι 0] [(.ref b0), (.int v1), (.ref w_2)]))
          obtain ⟨T331, X331, e331, st331⟩ := getF X330 hx hZ hown (host := "") (Or.inl (own_w hw 104 rfl)) Via.refl e330 F322 (g := (mkF m 109 #[ρ b0, ι v1, ι 15, ι v3, .val (.int ((ha_f (ko_g0 ((w15 (v3).toNatClampNeg) - (1 : Int32)) w_P w_D w17)) &&& (15 : Int32))), ι 0] [(.ref b0), (.int v1), (.ref w_2)])) rfl rfl (hb hby rk_d109)
          refine own_st st331 ?_
          show own_Dn p e below s _ _ _ (T331.setTop (mkF m 112 #[ρ b0, ι v1, ι 15, ι v3, .val (.int ((ha_f (ko_g0 ((w15 (v3).toNatClampNeg) - (1 : Int32)) w_P w_D w17)) &&& (15 : Int32))), ι 0] [(.ref w_2), (.int v1), (.ref w_2)]))
          refine own_st (fun _ k => XS.iloadN X331.here hx rfl (hb hby rk_d112) rfl k) ?_
          show own_Dn p e below s _ _ _ (T331.setTop (mkF m 113 #[ρ b0, ι v1, ι 15, ι v3, .val (.int ((ha_f (ko_g0 ((w15 (v3).toNatClampNeg) - (1 : Int32)) w_P w_D w17)) &&& (15 : Int32))), ι 0] [(.int v3), (.ref w_2), (.int v1), (.ref w_2)]))
          refine own_st (own_ldI (pc := 113) (L := #[ρ b0, ι v1, ι 15, ι v3, .val (.int ((ha_f (ko_g0 ((w15 (v3).toNatClampNeg) - (1 : Int32)) w_P w_D w17)) &&& (15 : Int32))), ι 0]) (rest := [(.int v1), (.ref w_2)]) X331 hx hZ e331 F327 (j := v3) (own_iR_b hi0).2.1 (own_iR_b hi0).2.2 (hb hby rk_d113)) ?_
          show own_Dn p e below s _ _ _ (T331.setTop (mkF m 114 #[ρ b0, ι v1, ι 15, ι v3, .val (.int ((ha_f (ko_g0 ((w15 (v3).toNatClampNeg) - (1 : Int32)) w_P w_D w17)) &&& (15 : Int32))), ι 0] [(.int (w16 (v3).toNatClampNeg)), (.int v1), (.ref w_2)]))
          obtain ⟨T332, h332, X332, e332, W332, F332a, st332⟩ := own_stI (pc := 114) (L := #[ρ b0, ι v1, ι 15, ι v3, .val (.int ((ha_f (ko_g0 ((w15 (v3).toNatClampNeg) - (1 : Int32)) w_P w_D w17)) &&& (15 : Int32))), ι 0]) (rest := []) X331 hx hZ e331 F327 (j := v1) (x := (w16 (v3).toNatClampNeg)) (own_iR_b hi0).1.1 (own_iR_b hi0).1.2 (hb hby rk_d114)
          have N332 := Fr.snoc X332 N311 kn2
          have F333 : n0 ≤ h332.size := Nat.le_trans F312 (Keep.of_wr W332).1
          have F334 := F313.wr W332
          have F335 := F314.other W332 (Or.inl kn8)
          have F336 := F315.other W332 (Or.inl kn8)
          have F337 := F316.other W332 kn10
          have F338 := F317.wr W332
          have F339 := F318.other W332 (Or.inl kn9)
          have F340 := F319.other W332 (Or.inl kn9)
          have F341 := F320.other W332 kn11
          have F342 := F321.other W332 (Or.inl kn8)
          have F343 := F322.other W332 (Or.inl kn8)
          have F344 := F323.other W332 (Or.inl kn8)
          have F345 := F324.other W332 (Or.inl kn8)
          have F346 := F325.other W332 (Or.inl kn8)
          have F347 := F326.other W332 (Or.inl kn8)
          have F348 : Keep h0 h332 [b0, w_1, w_2, w_k] := F328.wr W332 (Or.inl (List.mem_of_getElem? (i := 2) rfl))
          have F349 := F329.other W332 (Ne.symm kn18)
          have F350 := F311a.other W332 kn16
          refine own_st st332 ?_
          show own_Dn p e below s _ _ _ (T332.setTop (mkF m 115 #[ρ b0, ι v1, ι 15, ι v3, .val (.int ((ha_f (ko_g0 ((w15 (v3).toNatClampNeg) - (1 : Int32)) w_P w_D w17)) &&& (15 : Int32))), ι 0] []))
          refine own_st (fun _ k => XS.iloadN X332.here hx rfl (hb hby rk_d115) rfl (XS.istoreN X332.here hx rfl (hb hby rk_d116) rfl (l' := #[ρ b0, ι v3, ι 15, ι v3, .val (.int ((ha_f (ko_g0 ((w15 (v3).toNatClampNeg) - (1 : Int32)) w_P w_D w17)) &&& (15 : Int32))), ι 0]) rfl (XS.iloadN X332.here hx rfl (hb hby rk_d117) rfl (XS.iconst X332.here hx rfl (hb hby rk_d118) (XS.iadd X332.here hx rfl (hb hby rk_d119) rfl (XS.iloadN X332.here hx rfl (hb hby rk_d120) rfl (XS.iand X332.here hx rfl (hb hby rk_d121) rfl (XS.istoreN X332.here hx rfl (hb hby rk_d122) rfl (l' := #[ρ b0, ι v3, ι 15, .val (.int ((v3 + (1 : Int32)) &&& (15 : Int32))), .val (.int ((ha_f (ko_g0 ((w15 (v3).toNatClampNeg) - (1 : Int32)) w_P w_D w17)) &&& (15 : Int32))), ι 0]) rfl (XS.goto X332.here hx rfl (pc0 := 123) (pc' := 14) rfl (hb hby rk_d123) (by decide) (by decide) k))))))))) ?_
          show own_Dn p e below s _ _ _ (T332.setTop (mkF m 14 #[ρ b0, ι v3, ι 15, .val (.int ((v3 + (1 : Int32)) &&& (15 : Int32))), .val (.int ((ha_f (ko_g0 ((w15 (v3).toNatClampNeg) - (1 : Int32)) w_P w_D w17)) &&& (15 : Int32))), ι 0] []))
          exact ih X332 e332 N332 (v3) (((v3 + (1 : Int32)) &&& (15 : Int32))) (.val (.int ((ha_f (ko_g0 ((w15 (v3).toNatClampNeg) - (1 : Int32)) w_P w_D w17)) &&& (15 : Int32)))) ((One.val rfl)) (.val (.int 0)) ((One.val rfl)) ((own_upd w15 (v1).toNatClampNeg (w15 (v3).toNatClampNeg))) ((own_upd w16 (v1).toNatClampNeg (w16 (v3).toNatClampNeg))) ((ko_g0 ((w15 (v3).toNatClampNeg) - (1 : Int32)) w_P w_D w17)) F333 F334 F335 F336 F337 F338 F339 F340 F341 F342 F343 F344 F345 F346 F347 F350 F332a F349 F348 (own_iR_move hi0 hc200) (by rw [hy8, rk_g8_14, if_neg hc200, if_pos hc264, if_neg hc265]) (by rw [hy9, rk_g9_14, if_neg hc200, if_pos hc264, if_neg hc265]) (by rw [hy10, rk_g10_14, if_neg hc200, if_pos hc264, if_neg hc265]) (by rw [hy11, rk_g11_14, if_neg hc200, if_pos hc264, if_neg hc265])
      · refine own_st (fun _ k => XS.icmpYes X263.here hx rfl (pc0 := 44) (pc' := 67) rfl (hb hby rk_d44) rfl (flt hc264).2.1 (by decide) (by decide) k) ?_
        show own_Dn p e below s _ _ _ (T263.setTop (mkF m 67 #[ρ b0, ι v1, ι 15, ι v3, .val (.int ((ha_f (ko_g0 ((w15 (v3).toNatClampNeg) - (1 : Int32)) w_P w_D w17)) &&& (15 : Int32))), s5] []))
        refine own_st (fun _ k => XS.iloadN X263.here hx rfl (hb hby rk_d67) rfl (XS.iload X263.here hx rfl (hb hby rk_d68) rfl k)) ?_
        show own_Dn p e below s _ _ _ (T263.setTop (mkF m 70 #[ρ b0, ι v1, ι 15, ι v3, .val (.int ((ha_f (ko_g0 ((w15 (v3).toNatClampNeg) - (1 : Int32)) w_P w_D w17)) &&& (15 : Int32))), s5] [(.int ((ha_f (ko_g0 ((w15 (v3).toNatClampNeg) - (1 : Int32)) w_P w_D w17)) &&& (15 : Int32))), (.int v1)]))
        by_cases hc351 : v1 < ((ha_f (ko_g0 ((w15 (v3).toNatClampNeg) - (1 : Int32)) w_P w_D w17)) &&& (15 : Int32))
        · refine own_st (fun _ k => XS.icmpYes X263.here hx rfl (pc0 := 70) (pc' := 79) rfl (hb hby rk_d70) rfl (tlt hc351).1 (by decide) (by decide) k) ?_
          show own_Dn p e below s _ _ _ (T263.setTop (mkF m 79 #[ρ b0, ι v1, ι 15, ι v3, .val (.int ((ha_f (ko_g0 ((w15 (v3).toNatClampNeg) - (1 : Int32)) w_P w_D w17)) &&& (15 : Int32))), s5] []))
          refine own_st (fun _ k => XS.iconst X263.here hx rfl (hb hby rk_d79) (XS.goto X263.here hx rfl (pc0 := 80) (pc' := 84) rfl (hb hby rk_d80) (by decide) (by decide) (XS.istore X263.here hx rfl (hb hby rk_d84) rfl (l' := #[ρ b0, ι v1, ι 15, ι v3, .val (.int ((ha_f (ko_g0 ((w15 (v3).toNatClampNeg) - (1 : Int32)) w_P w_D w17)) &&& (15 : Int32))), ι 1]) (XS.store1 rfl hs5 rfl) (XS.iload X263.here hx rfl (hb hby rk_d86) rfl k)))) ?_
          show own_Dn p e below s _ _ _ (T263.setTop (mkF m 88 #[ρ b0, ι v1, ι 15, ι v3, .val (.int ((ha_f (ko_g0 ((w15 (v3).toNatClampNeg) - (1 : Int32)) w_P w_D w17)) &&& (15 : Int32))), ι 1] [(.int 1)]))
          refine own_st (fun _ k => XS.ifYes X263.here hx rfl (pc0 := 88) (pc' := 117) rfl (hb hby rk_d88) rfl ((if0 _ _).trans (feq (by decide : ¬ ((1 : Int32) = (0 : Int32)))).2) (by decide) (by decide) k) ?_
          show own_Dn p e below s _ _ _ (T263.setTop (mkF m 117 #[ρ b0, ι v1, ι 15, ι v3, .val (.int ((ha_f (ko_g0 ((w15 (v3).toNatClampNeg) - (1 : Int32)) w_P w_D w17)) &&& (15 : Int32))), ι 1] []))
          refine own_st (fun _ k => XS.iloadN X263.here hx rfl (hb hby rk_d117) rfl (XS.iconst X263.here hx rfl (hb hby rk_d118) (XS.iadd X263.here hx rfl (hb hby rk_d119) rfl (XS.iloadN X263.here hx rfl (hb hby rk_d120) rfl (XS.iand X263.here hx rfl (hb hby rk_d121) rfl (XS.istoreN X263.here hx rfl (hb hby rk_d122) rfl (l' := #[ρ b0, ι v1, ι 15, .val (.int ((v3 + (1 : Int32)) &&& (15 : Int32))), .val (.int ((ha_f (ko_g0 ((w15 (v3).toNatClampNeg) - (1 : Int32)) w_P w_D w17)) &&& (15 : Int32))), ι 1]) rfl (XS.goto X263.here hx rfl (pc0 := 123) (pc' := 14) rfl (hb hby rk_d123) (by decide) (by decide) k))))))) ?_
          show own_Dn p e below s _ _ _ (T263.setTop (mkF m 14 #[ρ b0, ι v1, ι 15, .val (.int ((v3 + (1 : Int32)) &&& (15 : Int32))), .val (.int ((ha_f (ko_g0 ((w15 (v3).toNatClampNeg) - (1 : Int32)) w_P w_D w17)) &&& (15 : Int32))), ι 1] []))
          exact ih X263 e263 N263 (v1) (((v3 + (1 : Int32)) &&& (15 : Int32))) (.val (.int ((ha_f (ko_g0 ((w15 (v3).toNatClampNeg) - (1 : Int32)) w_P w_D w17)) &&& (15 : Int32)))) ((One.val rfl)) (.val (.int 1)) ((One.val rfl)) (w15) (w16) ((ko_g0 ((w15 (v3).toNatClampNeg) - (1 : Int32)) w_P w_D w17)) F245 F246 F247 F248 F249 F250 F251 F252 F253 F254 F255 F256 F257 F258 F259 F260 F261 G244 F262 (own_iR_stay hi0 hc200) (by rw [hy8, rk_g8_14, if_neg hc200, if_neg hc264, if_pos hc351]) (by rw [hy9, rk_g9_14, if_neg hc200, if_neg hc264, if_pos hc351]) (by rw [hy10, rk_g10_14, if_neg hc200, if_neg hc264, if_pos hc351]) (by rw [hy11, rk_g11_14, if_neg hc200, if_neg hc264, if_pos hc351])
        · refine own_st (fun _ k => XS.icmpNo X263.here hx rfl (hb hby rk_d70) rfl (flt hc351).1 k) ?_
          show own_Dn p e below s _ _ _ (T263.setTop (mkF m 73 #[ρ b0, ι v1, ι 15, ι v3, .val (.int ((ha_f (ko_g0 ((w15 (v3).toNatClampNeg) - (1 : Int32)) w_P w_D w17)) &&& (15 : Int32))), s5] []))
          refine own_st (fun _ k => XS.iload X263.here hx rfl (hb hby rk_d73) rfl (XS.iloadN X263.here hx rfl (hb hby rk_d75) rfl k)) ?_
          show own_Dn p e below s _ _ _ (T263.setTop (mkF m 76 #[ρ b0, ι v1, ι 15, ι v3, .val (.int ((ha_f (ko_g0 ((w15 (v3).toNatClampNeg) - (1 : Int32)) w_P w_D w17)) &&& (15 : Int32))), s5] [(.int v3), (.int ((ha_f (ko_g0 ((w15 (v3).toNatClampNeg) - (1 : Int32)) w_P w_D w17)) &&& (15 : Int32)))]))
          by_cases hc352 : v3 < ((ha_f (ko_g0 ((w15 (v3).toNatClampNeg) - (1 : Int32)) w_P w_D w17)) &&& (15 : Int32))
          · refine own_st (fun _ k => XS.icmpYes X263.here hx rfl (pc0 := 76) (pc' := 83) rfl (hb hby rk_d76) rfl (tlt hc352).2.2.1 (by decide) (by decide) k) ?_
            show own_Dn p e below s _ _ _ (T263.setTop (mkF m 83 #[ρ b0, ι v1, ι 15, ι v3, .val (.int ((ha_f (ko_g0 ((w15 (v3).toNatClampNeg) - (1 : Int32)) w_P w_D w17)) &&& (15 : Int32))), s5] []))
            refine own_st (fun _ k => XS.iconst X263.here hx rfl (hb hby rk_d83) (XS.istore X263.here hx rfl (hb hby rk_d84) rfl (l' := #[ρ b0, ι v1, ι 15, ι v3, .val (.int ((ha_f (ko_g0 ((w15 (v3).toNatClampNeg) - (1 : Int32)) w_P w_D w17)) &&& (15 : Int32))), ι 0]) (XS.store1 rfl hs5 rfl) (XS.iload X263.here hx rfl (hb hby rk_d86) rfl k))) ?_
            show own_Dn p e below s _ _ _ (T263.setTop (mkF m 88 #[ρ b0, ι v1, ι 15, ι v3, .val (.int ((ha_f (ko_g0 ((w15 (v3).toNatClampNeg) - (1 : Int32)) w_P w_D w17)) &&& (15 : Int32))), ι 0] [(.int 0)]))
            refine own_st (fun _ k => XS.ifNo X263.here hx rfl (hb hby rk_d88) rfl ((if0 _ _).trans (teq (by decide : (0 : Int32) = (0 : Int32))).2) k) ?_
            show own_Dn p e below s _ _ _ (T263.setTop (mkF m 91 #[ρ b0, ι v1, ι 15, ι v3, .val (.int ((ha_f (ko_g0 ((w15 (v3).toNatClampNeg) - (1 : Int32)) w_P w_D w17)) &&& (15 : Int32))), ι 0] []))
            refine own_st (fun _ k => XS.aloadN X263.here hx rfl (hb hby rk_d91) rfl rfl k) ?_
            show own_Dn p e below s _ _ _ (T263.setTop (mkF m 92 #[ρ b0, ι v1, ι 15, ι v3, .val (.int ((ha_f (ko_g0 ((w15 (v3).toNatClampNeg) - (1 : Int32)) w_P w_D w17)) &&& (15 : Int32))), ι 0] [(.ref b0)]))
            obtain ⟨T353, X353, e353, st353⟩ := getF X263 hx hZ hown (host := "") (Or.inl (own_w hw 102 rfl)) Via.refl e263 F254 (g := (mkF m 92 #[ρ b0, ι v1, ι 15, ι v3, .val (.int ((ha_f (ko_g0 ((w15 (v3).toNatClampNeg) - (1 : Int32)) w_P w_D w17)) &&& (15 : Int32))), ι 0] [(.ref b0)])) rfl rfl (hb hby rk_d92)
            refine own_st st353 ?_
            show own_Dn p e below s _ _ _ (T353.setTop (mkF m 95 #[ρ b0, ι v1, ι 15, ι v3, .val (.int ((ha_f (ko_g0 ((w15 (v3).toNatClampNeg) - (1 : Int32)) w_P w_D w17)) &&& (15 : Int32))), ι 0] [(.ref w_1)]))
            refine own_st (fun _ k => XS.iloadN X353.here hx rfl (hb hby rk_d95) rfl (XS.aloadN X353.here hx rfl (hb hby rk_d96) rfl rfl k)) ?_
            show own_Dn p e below s _ _ _ (T353.setTop (mkF m 97 #[ρ b0, ι v1, ι 15, ι v3, .val (.int ((ha_f (ko_g0 ((w15 (v3).toNatClampNeg) - (1 : Int32)) w_P w_D w17)) &&& (15 : Int32))), ι 0] [(.ref b0), (.int v1), (.ref w_1)]))
            obtain ⟨T354, X354, e354, st354⟩ := getF X353 hx hZ hown (host := "") (Or.inl (own_w hw 102 rfl)) Via.refl e353 F254 (g := (mkF m 97 #[ρ b0, ι v1, ι 15, ι v3, .val (.int ((ha_f (ko_g0 ((w15 (v3).toNatClampNeg) - (1 : Int32)) w_P w_D w17)) &&& (15 : Int32))), ι 0] [(.ref b0), (.int v1), (.ref w_1)])) rfl rfl (hb hby rk_d97)
            refine own_st st354 ?_
            show own_Dn p e below s _ _ _ (T354.setTop (mkF m 100 #[ρ b0, ι v1, ι 15, ι v3, .val (.int ((ha_f (ko_g0 ((w15 (v3).toNatClampNeg) - (1 : Int32)) w_P w_D w17)) &&& (15 : Int32))), ι 0] [(.ref w_1), (.int v1), (.ref w_1)]))
            refine own_st (fun _ k => XS.iloadN X354.here hx rfl (hb hby rk_d100) rfl k) ?_
            show own_Dn p e below s _ _ _ (T354.setTop (mkF m 101 #[ρ b0, ι v1, ι 15, ι v3, .val (.int ((ha_f (ko_g0 ((w15 (v3).toNatClampNeg) - (1 : Int32)) w_P w_D w17)) &&& (15 : Int32))), ι 0] [(.int v3), (.ref w_1), (.int v1), (.ref w_1)]))
            refine own_st (own_ldI (pc := 101) (L := #[ρ b0, ι v1, ι 15, ι v3, .val (.int ((ha_f (ko_g0 ((w15 (v3).toNatClampNeg) - (1 : Int32)) w_P w_D w17)) &&& (15 : Int32))), ι 0]) (rest := [(.int v1), (.ref w_1)]) X354 hx hZ e354 F260 (j := v3) (own_iR_b hi0).2.1 (own_iR_b hi0).2.2 (hb hby rk_d101)) ?_
            show own_Dn p e below s _ _ _ (T354.setTop (mkF m 102 #[ρ b0, ι v1, ι 15, ι v3, .val (.int ((ha_f (ko_g0 ((w15 (v3).toNatClampNeg) - (1 : Int32)) w_P w_D w17)) &&& (15 : Int32))), ι 0] [(.int (w15 (v3).toNatClampNeg)), (.int v1), (.ref w_1)]))
            obtain ⟨T355, h355, X355, e355, W355, F355a, st355⟩ := own_stI (pc := 102) (L := #[ρ b0, ι v1, ι 15, ι v3, .val (.int ((ha_f (ko_g0 ((w15 (v3).toNatClampNeg) - (1 : Int32)) w_P w_D w17)) &&& (15 : Int32))), ι 0]) (rest := []) X354 hx hZ e354 F260 (j := v1) (x := (w15 (v3).toNatClampNeg)) (own_iR_b hi0).1.1 (own_iR_b hi0).1.2 (hb hby rk_d102)
            have N355 := Fr.snoc X355 N263 kn1
            have F356 : n0 ≤ h355.size := Nat.le_trans F245 (Keep.of_wr W355).1
            have F357 := F246.wr W355
            have F358 := F247.other W355 (Or.inl kn4)
            have F359 := F248.other W355 (Or.inl kn4)
            have F360 := F249.other W355 kn6
            have F361 := F250.wr W355
            have F362 := F251.other W355 (Or.inl kn5)
            have F363 := F252.other W355 (Or.inl kn5)
            have F364 := F253.other W355 kn7
            have F365 := F254.other W355 (Or.inl kn4)
            have F366 := F255.other W355 (Or.inl kn4)
            have F367 := F256.other W355 (Or.inl kn4)
            have F368 := F257.other W355 (Or.inl kn4)
            have F369 := F258.other W355 (Or.inl kn4)
            have F370 := F259.other W355 (Or.inl kn4)
            have F371 := F261.other W355 (Ne.symm kn16)
            have F372 : Keep h0 h355 [b0, w_1, w_2, w_k] := F262.wr W355 (Or.inl (List.mem_of_getElem? (i := 1) rfl))
            have F373 := G244.other W355 (Ne.symm kn17)
            refine own_st st355 ?_
            show own_Dn p e below s _ _ _ (T355.setTop (mkF m 103 #[ρ b0, ι v1, ι 15, ι v3, .val (.int ((ha_f (ko_g0 ((w15 (v3).toNatClampNeg) - (1 : Int32)) w_P w_D w17)) &&& (15 : Int32))), ι 0] []))
            refine own_st (fun _ k => XS.aloadN X355.here hx rfl (hb hby rk_d103) rfl rfl k) ?_
            show own_Dn p e below s _ _ _ (T355.setTop (mkF m 104 #[ρ b0, ι v1, ι 15, ι v3, .val (.int ((ha_f (ko_g0 ((w15 (v3).toNatClampNeg) - (1 : Int32)) w_P w_D w17)) &&& (15 : Int32))), ι 0] [(.ref b0)]))
            obtain ⟨T374, X374, e374, st374⟩ := getF X355 hx hZ hown (host := "") (Or.inl (own_w hw 104 rfl)) Via.refl e355 F366 (g := (mkF m 104 #[ρ b0, ι v1, ι 15, ι v3, .val (.int ((ha_f (ko_g0 ((w15 (v3).toNatClampNeg) - (1 : Int32)) w_P w_D w17)) &&& (15 : Int32))), ι 0] [(.ref b0)])) rfl rfl (hb hby rk_d104)
            refine own_st st374 ?_
            show own_Dn p e below s _ _ _ (T374.setTop (mkF m 107 #[ρ b0, ι v1, ι 15, ι v3, .val (.int ((ha_f (ko_g0 ((w15 (v3).toNatClampNeg) - (1 : Int32)) w_P w_D w17)) &&& (15 : Int32))), ι 0] [(.ref w_2)]))
            refine own_st (fun _ k => XS.iloadN X374.here hx rfl (hb hby rk_d107) rfl (XS.aloadN X374.here hx rfl (hb hby rk_d108) rfl rfl k)) ?_
            show own_Dn p e below s _ _ _ (T374.setTop (mkF m 109 #[ρ b0, ι v1, ι 15, ι v3, .val (.int ((ha_f (ko_g0 ((w15 (v3).toNatClampNeg) - (1 : Int32)) w_P w_D w17)) &&& (15 : Int32))), ι 0] [(.ref b0), (.int v1), (.ref w_2)]))
            obtain ⟨T375, X375, e375, st375⟩ := getF X374 hx hZ hown (host := "") (Or.inl (own_w hw 104 rfl)) Via.refl e374 F366 (g := (mkF m 109 #[ρ b0, ι v1, ι 15, ι v3, .val (.int ((ha_f (ko_g0 ((w15 (v3).toNatClampNeg) - (1 : Int32)) w_P w_D w17)) &&& (15 : Int32))), ι 0] [(.ref b0), (.int v1), (.ref w_2)])) rfl rfl (hb hby rk_d109)
            refine own_st st375 ?_
            show own_Dn p e below s _ _ _ (T375.setTop (mkF m 112 #[ρ b0, ι v1, ι 15, ι v3, .val (.int ((ha_f (ko_g0 ((w15 (v3).toNatClampNeg) - (1 : Int32)) w_P w_D w17)) &&& (15 : Int32))), ι 0] [(.ref w_2), (.int v1), (.ref w_2)]))
            refine own_st (fun _ k => XS.iloadN X375.here hx rfl (hb hby rk_d112) rfl k) ?_
            show own_Dn p e below s _ _ _ (T375.setTop (mkF m 113 #[ρ b0, ι v1, ι 15, ι v3, .val (.int ((ha_f (ko_g0 ((w15 (v3).toNatClampNeg) - (1 : Int32)) w_P w_D w17)) &&& (15 : Int32))), ι 0] [(.int v3), (.ref w_2), (.int v1), (.ref w_2)]))
            refine own_st (own_ldI (pc := 113) (L := #[ρ b0, ι v1, ι 15, ι v3, .val (.int ((ha_f (ko_g0 ((w15 (v3).toNatClampNeg) - (1 : Int32)) w_P w_D w17)) &&& (15 : Int32))), ι 0]) (rest := [(.int v1), (.ref w_2)]) X375 hx hZ e375 F371 (j := v3) (own_iR_b hi0).2.1 (own_iR_b hi0).2.2 (hb hby rk_d113)) ?_
            show own_Dn p e below s _ _ _ (T375.setTop (mkF m 114 #[ρ b0, ι v1, ι 15, ι v3, .val (.int ((ha_f (ko_g0 ((w15 (v3).toNatClampNeg) - (1 : Int32)) w_P w_D w17)) &&& (15 : Int32))), ι 0] [(.int (w16 (v3).toNatClampNeg)), (.int v1), (.ref w_2)]))
            obtain ⟨T376, h376, X376, e376, W376, F376a, st376⟩ := own_stI (pc := 114) (L := #[ρ b0, ι v1, ι 15, ι v3, .val (.int ((ha_f (ko_g0 ((w15 (v3).toNatClampNeg) - (1 : Int32)) w_P w_D w17)) &&& (15 : Int32))), ι 0]) (rest := []) X375 hx hZ e375 F371 (j := v1) (x := (w16 (v3).toNatClampNeg)) (own_iR_b hi0).1.1 (own_iR_b hi0).1.2 (hb hby rk_d114)
            have N376 := Fr.snoc X376 N355 kn2
            have F377 : n0 ≤ h376.size := Nat.le_trans F356 (Keep.of_wr W376).1
            have F378 := F357.wr W376
            have F379 := F358.other W376 (Or.inl kn8)
            have F380 := F359.other W376 (Or.inl kn8)
            have F381 := F360.other W376 kn10
            have F382 := F361.wr W376
            have F383 := F362.other W376 (Or.inl kn9)
            have F384 := F363.other W376 (Or.inl kn9)
            have F385 := F364.other W376 kn11
            have F386 := F365.other W376 (Or.inl kn8)
            have F387 := F366.other W376 (Or.inl kn8)
            have F388 := F367.other W376 (Or.inl kn8)
            have F389 := F368.other W376 (Or.inl kn8)
            have F390 := F369.other W376 (Or.inl kn8)
            have F391 := F370.other W376 (Or.inl kn8)
            have F392 : Keep h0 h376 [b0, w_1, w_2, w_k] := F372.wr W376 (Or.inl (List.mem_of_getElem? (i := 2) rfl))
            have F393 := F373.other W376 (Ne.symm kn18)
            have F394 := F355a.other W376 kn16
            refine own_st st376 ?_
            show own_Dn p e below s _ _ _ (T376.setTop (mkF m 115 #[ρ b0, ι v1, ι 15, ι v3, .val (.int ((ha_f (ko_g0 ((w15 (v3).toNatClampNeg) - (1 : Int32)) w_P w_D w17)) &&& (15 : Int32))), ι 0] []))
            refine own_st (fun _ k => XS.iloadN X376.here hx rfl (hb hby rk_d115) rfl (XS.istoreN X376.here hx rfl (hb hby rk_d116) rfl (l' := #[ρ b0, ι v3, ι 15, ι v3, .val (.int ((ha_f (ko_g0 ((w15 (v3).toNatClampNeg) - (1 : Int32)) w_P w_D w17)) &&& (15 : Int32))), ι 0]) rfl (XS.iloadN X376.here hx rfl (hb hby rk_d117) rfl (XS.iconst X376.here hx rfl (hb hby rk_d118) (XS.iadd X376.here hx rfl (hb hby rk_d119) rfl (XS.iloadN X376.here hx rfl (hb hby rk_d120) rfl (XS.iand X376.here hx rfl (hb hby rk_d121) rfl (XS.istoreN X376.here hx rfl (hb hby rk_d122) rfl (l' := #[ρ b0, ι v3, ι 15, .val (.int ((v3 + (1 : Int32)) &&& (15 : Int32))), .val (.int ((ha_f (ko_g0 ((w15 (v3).toNatClampNeg) - (1 : Int32)) w_P w_D w17)) &&& (15 : Int32))), ι 0]) rfl (XS.goto X376.here hx rfl (pc0 := 123) (pc' := 14) rfl (hb hby rk_d123) (by decide) (by decide) k))))))))) ?_
            show own_Dn p e below s _ _ _ (T376.setTop (mkF m 14 #[ρ b0, ι v3, ι 15, .val (.int ((v3 + (1 : Int32)) &&& (15 : Int32))), .val (.int ((ha_f (ko_g0 ((w15 (v3).toNatClampNeg) - (1 : Int32)) w_P w_D w17)) &&& (15 : Int32))), ι 0] []))
            exact ih X376 e376 N376 (v3) (((v3 + (1 : Int32)) &&& (15 : Int32))) (.val (.int ((ha_f (ko_g0 ((w15 (v3).toNatClampNeg) - (1 : Int32)) w_P w_D w17)) &&& (15 : Int32)))) ((One.val rfl)) (.val (.int 0)) ((One.val rfl)) ((own_upd w15 (v1).toNatClampNeg (w15 (v3).toNatClampNeg))) ((own_upd w16 (v1).toNatClampNeg (w16 (v3).toNatClampNeg))) ((ko_g0 ((w15 (v3).toNatClampNeg) - (1 : Int32)) w_P w_D w17)) F377 F378 F379 F380 F381 F382 F383 F384 F385 F386 F387 F388 F389 F390 F391 F394 F376a F393 F392 (own_iR_move hi0 hc200) (by rw [hy8, rk_g8_14, if_neg hc200, if_neg hc264, if_neg hc351, if_pos hc352]) (by rw [hy9, rk_g9_14, if_neg hc200, if_neg hc264, if_neg hc351, if_pos hc352]) (by rw [hy10, rk_g10_14, if_neg hc200, if_neg hc264, if_neg hc351, if_pos hc352]) (by rw [hy11, rk_g11_14, if_neg hc200, if_neg hc264, if_neg hc351, if_pos hc352])
          · refine own_st (fun _ k => XS.icmpNo X263.here hx rfl (hb hby rk_d76) rfl (flt hc352).2.2.1 k) ?_
            show own_Dn p e below s _ _ _ (T263.setTop (mkF m 79 #[ρ b0, ι v1, ι 15, ι v3, .val (.int ((ha_f (ko_g0 ((w15 (v3).toNatClampNeg) - (1 : Int32)) w_P w_D w17)) &&& (15 : Int32))), s5] []))
            refine own_st (fun _ k => XS.iconst X263.here hx rfl (hb hby rk_d79) (XS.goto X263.here hx rfl (pc0 := 80) (pc' := 84) rfl (hb hby rk_d80) (by decide) (by decide) (XS.istore X263.here hx rfl (hb hby rk_d84) rfl (l' := #[ρ b0, ι v1, ι 15, ι v3, .val (.int ((ha_f (ko_g0 ((w15 (v3).toNatClampNeg) - (1 : Int32)) w_P w_D w17)) &&& (15 : Int32))), ι 1]) (XS.store1 rfl hs5 rfl) (XS.iload X263.here hx rfl (hb hby rk_d86) rfl k)))) ?_
            show own_Dn p e below s _ _ _ (T263.setTop (mkF m 88 #[ρ b0, ι v1, ι 15, ι v3, .val (.int ((ha_f (ko_g0 ((w15 (v3).toNatClampNeg) - (1 : Int32)) w_P w_D w17)) &&& (15 : Int32))), ι 1] [(.int 1)]))
            refine own_st (fun _ k => XS.ifYes X263.here hx rfl (pc0 := 88) (pc' := 117) rfl (hb hby rk_d88) rfl ((if0 _ _).trans (feq (by decide : ¬ ((1 : Int32) = (0 : Int32)))).2) (by decide) (by decide) k) ?_
            show own_Dn p e below s _ _ _ (T263.setTop (mkF m 117 #[ρ b0, ι v1, ι 15, ι v3, .val (.int ((ha_f (ko_g0 ((w15 (v3).toNatClampNeg) - (1 : Int32)) w_P w_D w17)) &&& (15 : Int32))), ι 1] []))
            refine own_st (fun _ k => XS.iloadN X263.here hx rfl (hb hby rk_d117) rfl (XS.iconst X263.here hx rfl (hb hby rk_d118) (XS.iadd X263.here hx rfl (hb hby rk_d119) rfl (XS.iloadN X263.here hx rfl (hb hby rk_d120) rfl (XS.iand X263.here hx rfl (hb hby rk_d121) rfl (XS.istoreN X263.here hx rfl (hb hby rk_d122) rfl (l' := #[ρ b0, ι v1, ι 15, .val (.int ((v3 + (1 : Int32)) &&& (15 : Int32))), .val (.int ((ha_f (ko_g0 ((w15 (v3).toNatClampNeg) - (1 : Int32)) w_P w_D w17)) &&& (15 : Int32))), ι 1]) rfl (XS.goto X263.here hx rfl (pc0 := 123) (pc' := 14) rfl (hb hby rk_d123) (by decide) (by decide) k))))))) ?_
            show own_Dn p e below s _ _ _ (T263.setTop (mkF m 14 #[ρ b0, ι v1, ι 15, .val (.int ((v3 + (1 : Int32)) &&& (15 : Int32))), .val (.int ((ha_f (ko_g0 ((w15 (v3).toNatClampNeg) - (1 : Int32)) w_P w_D w17)) &&& (15 : Int32))), ι 1] []))
            exact ih X263 e263 N263 (v1) (((v3 + (1 : Int32)) &&& (15 : Int32))) (.val (.int ((ha_f (ko_g0 ((w15 (v3).toNatClampNeg) - (1 : Int32)) w_P w_D w17)) &&& (15 : Int32)))) ((One.val rfl)) (.val (.int 1)) ((One.val rfl)) (w15) (w16) ((ko_g0 ((w15 (v3).toNatClampNeg) - (1 : Int32)) w_P w_D w17)) F245 F246 F247 F248 F249 F250 F251 F252 F253 F254 F255 F256 F257 F258 F259 F260 F261 G244 F262 (own_iR_stay hi0 hc200) (by rw [hy8, rk_g8_14, if_neg hc200, if_neg hc264, if_neg hc351, if_neg hc352]) (by rw [hy9, rk_g9_14, if_neg hc200, if_neg hc264, if_neg hc351, if_neg hc352]) (by rw [hy10, rk_g10_14, if_neg hc200, if_neg hc264, if_neg hc351, if_neg hc352]) (by rw [hy11, rk_g11_14, if_neg hc200, if_neg hc264, if_neg hc351, if_neg hc352])
def rk_g8 (p1 : Int32) (w_P : Nat → Int32) (w_D : Nat → Int32) (w_F : Nat → Int32) (w_L : Nat → Int32) (w_K : Nat → Int32) (w_c : Int32)  : Int32 :=
  rk_g8_14 16 p1 w_P w_D w_F w_L w_K w_c (p1) (((p1 + (1 : Int32)) &&& (15 : Int32))) (w_F) (w_L) (w_K)
def rk_g9 (p1 : Int32) (w_P : Nat → Int32) (w_D : Nat → Int32) (w_F : Nat → Int32) (w_L : Nat → Int32) (w_K : Nat → Int32) (w_c : Int32)  : Nat → Int32 :=
  rk_g9_14 16 p1 w_P w_D w_F w_L w_K w_c (p1) (((p1 + (1 : Int32)) &&& (15 : Int32))) (w_F) (w_L) (w_K)
def rk_g10 (p1 : Int32) (w_P : Nat → Int32) (w_D : Nat → Int32) (w_F : Nat → Int32) (w_L : Nat → Int32) (w_K : Nat → Int32) (w_c : Int32)  : Nat → Int32 :=
  rk_g10_14 16 p1 w_P w_D w_F w_L w_K w_c (p1) (((p1 + (1 : Int32)) &&& (15 : Int32))) (w_F) (w_L) (w_K)
def rk_g11 (p1 : Int32) (w_P : Nat → Int32) (w_D : Nat → Int32) (w_F : Nat → Int32) (w_L : Nat → Int32) (w_K : Nat → Int32) (w_c : Int32)  : Nat → Int32 :=
  rk_g11_14 16 p1 w_P w_D w_F w_L w_K w_c (p1) (((p1 + (1 : Int32)) &&& (15 : Int32))) (w_F) (w_L) (w_K)
set_option maxRecDepth 65536 in
set_option maxHeartbeats 40000000 in
theorem rk_c0 {b0 : Addr} {p1 : Int32} {w_r : Addr} {w_p : Addr} {w_d : Addr} {w_P : Nat → Int32} {w_D : Nat → Int32} {w_1 : Addr} {w_2 : Addr} {w_k : Addr} {w_F : Nat → Int32} {w_L : Nat → Int32} {w_K : Nat → Int32} {w_c : Int32} {locs : List Loc} {y8 : Int32} {y9 : Nat → Int32} {y10 : Nat → Int32} {y11 : Nat → Int32} (C0 : own_Cx p s m meth c Z a0 prog_24_method_7_code 6 ς1 "removeKey" none) (X0 : Stand p l e ({ frames := 2, cells := 0, slots := 0, locals := 30 } : Room) s m args below meth c T0 locs 0 0) (e0 : T0.heap = h0) (N0 : Fr n0 locs)  (Z0 : n0 ≤ h0.size) (P0 : Exa Z h0 b0 ς1) (P1 : Fld Z h0 b0 ς1 "this$0" ς2 (.ref w_r)) (P2 : Fld Z h0 b0 ς1 "positions" "[I" (.ref w_p)) (P3 : own_Arf Z h0 w_p .int 1 (fun i => (.int (w_P i)))) (P4 : Exa Z h0 w_r ς0) (P5 : Fld Z h0 w_r ς0 "data" "[I" (.ref w_d)) (P6 : Fld Z h0 w_r ς0 "arity" "I" (.int 1)) (P7 : own_Arf Z h0 w_d .int 16 (fun i => (.int (w_D i)))) (P8 : Fld Z h0 b0 ς1 "firsts" "[I" (.ref w_1)) (P9 : Fld Z h0 b0 ς1 "lasts" "[I" (.ref w_2)) (P10 : Fld Z h0 b0 ς1 "rowKey" "[I" (.ref w_k)) (P11 : Fld Z h0 b0 ς1 "next" "[I" .null) (P12 : Fld Z h0 b0 ς1 "previous" "[I" .null) (P13 : Fld Z h0 b0 ς1 "keys" "I" (.int w_c)) (P14 : own_Arf Z h0 w_1 .int 16 (fun i => (.int (w_F i)))) (P15 : own_Arf Z h0 w_2 .int 16 (fun i => (.int (w_L i)))) (P16 : own_Arf Z h0 w_k .int 1 (fun i => (.int (w_K i)))) (ge_b0 : n0 ≤ b0) (ge_w_1 : n0 ≤ w_1) (ge_w_2 : n0 ≤ w_2) (ge_w_k : n0 ≤ w_k) (nes0 : b0 ≠ w_1) (nes1 : w_r ≠ w_1) (nes2 : w_p ≠ w_1) (nes3 : w_d ≠ w_1) (nes4 : b0 ≠ w_2) (nes5 : w_r ≠ w_2) (nes6 : w_p ≠ w_2) (nes7 : w_d ≠ w_2) (nes8 : b0 ≠ w_k) (nes9 : w_r ≠ w_k) (nes10 : w_p ≠ w_k) (nes11 : w_d ≠ w_k) (nes12 : w_1 ≠ w_2) (nes13 : w_1 ≠ w_k) (nes14 : w_2 ≠ w_k) (nes15 : b0 ≠ w_p) (nes16 : b0 ≠ w_d) (hP : w_P 0 = 0) (hR : own_iR 16 w_F p1 ((p1 + (1 : Int32)) &&& (15 : Int32))) (hy8 : y8 = rk_g8 p1 w_P w_D w_F w_L w_K w_c ) (hy9 : y9 = rk_g9 p1 w_P w_D w_F w_L w_K w_c ) (hy10 : y10 = rk_g10 p1 w_P w_D w_F w_L w_K w_c ) (hy11 : y11 = rk_g11 p1 w_P w_D w_F w_L w_K w_c ) :
    own_Dn p e below s (rk_Q Z b0 p1 w_r w_p w_d w_P w_D w_1 w_2 w_k w_F w_L w_K w_c y8 y9 y10 y11 h0 n0) ({ frames := 2, cells := 0, slots := 0, locals := 30 } : Room).cells ({ frames := 2, cells := 0, slots := 0, locals := 30 } : Room).slots (T0.setTop (mkF m 0 #[ρ b0, ι p1, υ, υ, υ, υ] [])) := by
  obtain ⟨hx, hZ, hw, hby, hml, hown, hret, hlk, hnm⟩ := id C0
  refine own_st (fun _ k => XS.aloadN X0.here hx rfl (hb hby rk_d0) rfl rfl k) ?_
  show own_Dn p e below s _ _ _ (T0.setTop (mkF m 1 #[ρ b0, ι p1, υ, υ, υ, υ] [(.ref b0)]))
  obtain ⟨T198, X198, e198, st198⟩ := getF X0 hx hZ hown (host := "") (Or.inl (own_w hw 102 rfl)) Via.refl e0 P8 (g := (mkF m 1 #[ρ b0, ι p1, υ, υ, υ, υ] [(.ref b0)])) rfl rfl (hb hby rk_d1)
  refine own_st st198 ?_
  show own_Dn p e below s _ _ _ (T198.setTop (mkF m 4 #[ρ b0, ι p1, υ, υ, υ, υ] [(.ref w_1)]))
  refine own_st (own_len (pc := 4) (L := #[ρ b0, ι p1, υ, υ, υ, υ]) (rest := []) X198 hx hZ e198 P14 (z := (16 : Int32)) rfl (hb hby rk_d4)) ?_
  show own_Dn p e below s _ _ _ (T198.setTop (mkF m 5 #[ρ b0, ι p1, υ, υ, υ, υ] [(.int 16)]))
  refine own_st (fun _ k => XS.iconst X198.here hx rfl (hb hby rk_d5) (XS.isub X198.here hx rfl (hb hby rk_d6) rfl (XS.istoreN X198.here hx rfl (hb hby rk_d7) rfl (l' := #[ρ b0, ι p1, ι 15, υ, υ, υ]) rfl (XS.iloadN X198.here hx rfl (hb hby rk_d8) rfl (XS.iconst X198.here hx rfl (hb hby rk_d9) (XS.iadd X198.here hx rfl (hb hby rk_d10) rfl (XS.iloadN X198.here hx rfl (hb hby rk_d11) rfl (XS.iand X198.here hx rfl (hb hby rk_d12) rfl (XS.istoreN X198.here hx rfl (hb hby rk_d13) rfl (l' := #[ρ b0, ι p1, ι 15, .val (.int ((p1 + (1 : Int32)) &&& (15 : Int32))), υ, υ]) rfl k))))))))) ?_
  show own_Dn p e below s _ _ _ (T198.setTop (mkF m 14 #[ρ b0, ι p1, ι 15, .val (.int ((p1 + (1 : Int32)) &&& (15 : Int32))), υ, υ] []))
  exact rk_c14 C0 16 X198 e198 N0 (p1) (((p1 + (1 : Int32)) &&& (15 : Int32))) (.unset) (One.u) (.unset) (One.u) (w_F) (w_L) (w_K) Z0 P0 P1 P2 P3 P4 P5 P6 P7 P8 P9 P10 P11 P12 P13 P14 P15 P16 (Keep.refl h0 [b0, w_1, w_2, w_k]) ge_b0 ge_w_1 ge_w_2 ge_w_k nes0 nes1 nes2 nes3 nes4 nes5 nes6 nes7 nes8 nes9 nes10 nes11 nes12 nes13 nes14 nes15 nes16 hP hR hR (by rw [hy8, rk_g8]) (by rw [hy9, rk_g9]) (by rw [hy10, rk_g10]) (by rw [hy11, rk_g11])
theorem rk_ef (m : MethodId) (b0 : Addr) (p1 : Int32) : entryFrame m #[(.ref b0), (.int p1)] 6 = mkF m 0 #[.val (.ref b0), .val (.int p1), .unset, .unset, .unset, .unset] [] := by first | (simp [entryFrame, mkF, argsToLocals, Value.category]; done) | rfl
theorem rk_rm (l : Launch) (Z : State) (a0 : Array Value) (hw : ∀ d ∈ tables_1, d.before a0 Z = true) (ws : List Jvm.Cond) (b0 : Addr) (p1 : Int32) (w_r : Addr) (w_p : Addr) (w_d : Addr) (w_P : Nat → Int32) (w_D : Nat → Int32) (w_1 : Addr) (w_2 : Addr) (w_k : Addr) (w_F : Nat → Int32) (w_L : Nat → Int32) (w_K : Nat → Int32) (w_c : Int32) (h0 : Heap) (n0 : Nat) (Z0 : n0 ≤ h0.size) (P0 : Exa Z h0 b0 ς1) (P1 : Fld Z h0 b0 ς1 "this$0" ς2 (.ref w_r)) (P2 : Fld Z h0 b0 ς1 "positions" "[I" (.ref w_p)) (P3 : own_Arf Z h0 w_p .int 1 (fun i => (.int (w_P i)))) (P4 : Exa Z h0 w_r ς0) (P5 : Fld Z h0 w_r ς0 "data" "[I" (.ref w_d)) (P6 : Fld Z h0 w_r ς0 "arity" "I" (.int 1)) (P7 : own_Arf Z h0 w_d .int 16 (fun i => (.int (w_D i)))) (P8 : Fld Z h0 b0 ς1 "firsts" "[I" (.ref w_1)) (P9 : Fld Z h0 b0 ς1 "lasts" "[I" (.ref w_2)) (P10 : Fld Z h0 b0 ς1 "rowKey" "[I" (.ref w_k)) (P11 : Fld Z h0 b0 ς1 "next" "[I" .null) (P12 : Fld Z h0 b0 ς1 "previous" "[I" .null) (P13 : Fld Z h0 b0 ς1 "keys" "I" (.int w_c)) (P14 : own_Arf Z h0 w_1 .int 16 (fun i => (.int (w_F i)))) (P15 : own_Arf Z h0 w_2 .int 16 (fun i => (.int (w_L i)))) (P16 : own_Arf Z h0 w_k .int 1 (fun i => (.int (w_K i)))) (ge_b0 : n0 ≤ b0) (ge_w_1 : n0 ≤ w_1) (ge_w_2 : n0 ≤ w_2) (ge_w_k : n0 ≤ w_k) (nes0 : b0 ≠ w_1) (nes1 : w_r ≠ w_1) (nes2 : w_p ≠ w_1) (nes3 : w_d ≠ w_1) (nes4 : b0 ≠ w_2) (nes5 : w_r ≠ w_2) (nes6 : w_p ≠ w_2) (nes7 : w_d ≠ w_2) (nes8 : b0 ≠ w_k) (nes9 : w_r ≠ w_k) (nes10 : w_p ≠ w_k) (nes11 : w_d ≠ w_k) (nes12 : w_1 ≠ w_2) (nes13 : w_1 ≠ w_k) (nes14 : w_2 ≠ w_k) (nes15 : b0 ≠ w_p) (nes16 : b0 ≠ w_d) (hP : w_P 0 = 0) (hR : own_iR 16 w_F p1 ((p1 + (1 : Int32)) &&& (15 : Int32))) :
    MetFree l (⟨ς1, "removeKey", "(I)V"⟩ : MethodName) (head1 (Jvm.Cond.code (⟨ς1, "removeKey", "(I)V"⟩ : MethodName) prog_24_method_7_code 6 none :: ws) ({ frames := 2, cells := 0, slots := 0, locals := 30 } : Room)) (fun a U => a = #[(.ref b0), (.int p1)] ∧ Z.Warmed39 U.vm ∧ U.heap = h0) (fun _ _ _ _ _ => True) (fun _ U o U' => ∃ v L, o = .returned v ∧ rk_Q Z b0 p1 w_r w_p w_d w_P w_D w_1 w_2 w_k w_F w_L w_K w_c (rk_g8 p1 w_P w_D w_F w_L w_K w_c) (rk_g9 p1 w_P w_D w_F w_L w_K w_c) (rk_g10 p1 w_P w_D w_F w_L w_K w_c) (rk_g11 p1 w_P w_D w_F w_L w_K w_c) h0 n0 v U'.heap L ∧ FrameEnd U o U' L ({ frames := 2, cells := 0, slots := 0, locals := 30 } : Room).cells ({ frames := 2, cells := 0, slots := 0, locals := 30 } : Room).slots) :=
  own_met hw (plainFor_of_name (by first | (simp [plainName, overriddenIn]; done) | decide +kernel)) (fun p e s m below meth c T0 C0 X0 e0 => own_st (fun _ k => castTop (rk_ef m b0 p1) k) (rk_c0 C0 X0 e0 (Fr.nil n0) Z0 P0 P1 P2 P3 P4 P5 P6 P7 P8 P9 P10 P11 P12 P13 P14 P15 P16 ge_b0 ge_w_1 ge_w_2 ge_w_k nes0 nes1 nes2 nes3 nes4 nes5 nes6 nes7 nes8 nes9 nes10 nes11 nes12 nes13 nes14 nes15 nes16 hP hR rfl rfl rfl rfl))
def own_hm (x : Int32) : Int32 := (mi_f (((-1640531535 : Int32) * (0 : Int32)) + x)) &&& (15 : Int32)
theorem own_ha {K : Nat → Int32} {x : Int32} (h : K 0 = x) : (ha_f K) &&& (15 : Int32) = own_hm x := by
  rw [ha_f, own_z0, h, own_hm]
def own_In (F : Nat → Int32) (k : Nat) (h r : Int32) : Prop := ∃ d, d < k ∧ F ((h.toNatClampNeg + d) % 16) = r + 1 ∧ ∀ j, j < d → ¬ F ((h.toNatClampNeg + j) % 16) = 0
def own_iD (k : Nat) (F D K : Nat → Int32) (r v3 : Int32) : Prop := own_FB F ∧ (0 ≤ r.toInt ∧ r.toInt < 16) ∧ (0 ≤ v3.toInt ∧ v3.toInt < 16) ∧ K 0 = D r.toNatClampNeg ∧ own_In F k v3 r
theorem own_iD_zero {F D K : Nat → Int32} {r v3 : Int32} : ¬ own_iD 0 F D K r v3 := by
  rintro ⟨-, -, -, -, d, h, -⟩
  exact absurd h (Nat.not_lt_zero _)
theorem own_iD_b {k : Nat} {F D K : Nat → Int32} {r v3 : Int32} (h : own_iD k F D K r v3) : ¬ v3 < 0 ∧ v3.toNatClampNeg < 16 := ⟨own_nn h.2.2.1.1, own_lt16 h.2.2.1⟩
theorem own_r1 {r : Int32} (h : 0 ≤ r.toInt ∧ r.toInt < 16) : (r + 1).toInt = r.toInt + 1 := by
  have e := c_iadd r 1
  have b := rng32 (r + 1)
  simp only [Int32.reduceToInt] at e
  omega
theorem own_iD_nz {k : Nat} {F D K : Nat → Int32} {r v3 : Int32} (h : own_iD k F D K r v3) : ¬ (F v3.toNatClampNeg) = (0 : Int32) := by
  obtain ⟨h1, h2, h3, h4, d, hd, hz, hne⟩ := h
  have l := own_lt16 h3
  have e : (v3.toNatClampNeg + 0) % 16 = v3.toNatClampNeg := by omega
  cases d with
  | zero =>
    rw [e] at hz
    rw [hz]; intro q
    have a := own_r1 h2
    rw [q] at a
    have b : (0 : Int32).toInt = 0 := by decide
    omega
  | succ d => have := hne 0 (by omega); rw [e] at this; exact this
theorem own_iD_row {k : Nat} {F D K : Nat → Int32} {r v3 : Int32} (h : own_iD k F D K r v3) : 0 ≤ ((F v3.toNatClampNeg) - (1 : Int32)).toInt ∧ ((F v3.toNatClampNeg) - (1 : Int32)).toInt < 16 := own_row h.1 (own_iD_b h).2 (own_iD_nz h)
theorem own_iD_step {k : Nat} {F D K P : Nat → Int32} {r v3 : Int32} (hP : P 0 = 0) (h : own_iD (k + 1) F D K r v3) (hc : (hk_f ((F v3.toNatClampNeg) - (1 : Int32)) P D K) = (0 : Int32)) : own_iD k F D K r ((v3 + (1 : Int32)) &&& (15 : Int32)) := by
  obtain ⟨h1, h2, h3, h4, d, hd, hz, hne⟩ := h
  have l := own_lt16 h3
  have n := own_next h3
  rw [own_hk hP h4] at hc
  cases d with
  | zero =>
    have e : (v3.toNatClampNeg + 0) % 16 = v3.toNatClampNeg := by omega
    rw [e] at hz
    have e2 : (F v3.toNatClampNeg) - (1 : Int32) = r := by rw [hz, Int32.add_sub_cancel]
    rw [e2, if_pos rfl] at hc
    exact absurd hc (by decide)
  | succ d =>
    refine ⟨h1, h2, own_and15 _, h4, d, by omega, ?_, fun j hj => ?_⟩
    · have e : (((v3 + (1 : Int32)) &&& (15 : Int32)).toNatClampNeg + d) % 16 = (v3.toNatClampNeg + (d + 1)) % 16 := by omega
      rw [e]; exact hz
    · have e : (((v3 + (1 : Int32)) &&& (15 : Int32)).toNatClampNeg + j) % 16 = (v3.toNatClampNeg + (j + 1)) % 16 := by omega
      rw [e]; exact hne _ (by omega)
theorem own_iD_R {k : Nat} {F D K : Nat → Int32} {r v3 : Int32} (h : own_iD k F D K r v3) : own_iR 16 (own_upd F v3.toNatClampNeg (0 : Int32)) v3 ((v3 + (1 : Int32)) &&& (15 : Int32)) := by
  have nz := own_iD_nz h
  obtain ⟨⟨h1, i, hi, hz⟩, h2, h3, -⟩ := h
  have l := own_lt16 h3
  have n := own_next h3
  have ne : i ≠ v3.toNatClampNeg := fun q => nz (by rw [← q]; exact hz)
  refine ⟨fun j hj => ?_, h3, own_and15 _, (i + 16 - ((v3 + (1 : Int32)) &&& (15 : Int32)).toNatClampNeg) % 16, by omega, by omega, ?_, fun j hj => ?_⟩
  · rw [own_upd]
    split
    · decide
    · exact h1 _ hj
  · have e : (((v3 + (1 : Int32)) &&& (15 : Int32)).toNatClampNeg + (i + 16 - ((v3 + (1 : Int32)) &&& (15 : Int32)).toNatClampNeg) % 16) % 16 = i := by omega
    rw [e, own_upd, if_neg ne]; exact hz
  · omega
theorem own_iD_enter {F D P K : Nat → Int32} {r : Int32} (hP : P 0 = 0) (hF : own_FB F) (hr : 0 ≤ r.toInt ∧ r.toInt < 16) (hin : own_In F 16 (own_hm (D r.toNatClampNeg)) r) : own_iD 16 F D (ko_g0 r P D K) r ((ha_f (ko_g0 r P D K)) &&& (15 : Int32)) := by
  have e := own_ko r (D := D) (K := K) hP
  refine ⟨hF, hr, own_and15 _, e, ?_⟩
  rw [own_ha e]; exact hin
theorem own_same (F : Nat → Int32) (i : Nat) (v : Int32) : (own_upd F i v) i = v := by rw [own_upd, if_pos rfl]
theorem ir_d0 : decode prog_24_method_6_code 0 = .ok (.aload_n 0, 1) := by decide +kernel
theorem ir_d1 : decode prog_24_method_6_code 1 = .ok (.getfield 13, 3) := by decide +kernel
theorem ir_d4 : decode prog_24_method_6_code 4 = .ok (.arraylength, 1) := by decide +kernel
theorem ir_d5 : decode prog_24_method_6_code 5 = .ok (.iconst 1, 1) := by decide +kernel
theorem ir_d6 : decode prog_24_method_6_code 6 = .ok (.isub, 1) := by decide +kernel
theorem ir_d7 : decode prog_24_method_6_code 7 = .ok (.istore_n 2, 1) := by decide +kernel
theorem ir_d8 : decode prog_24_method_6_code 8 = .ok (.aload_n 0, 1) := by decide +kernel
theorem ir_d9 : decode prog_24_method_6_code 9 = .ok (.iload_n 1, 1) := by decide +kernel
theorem ir_d10 : decode prog_24_method_6_code 10 = .ok (.invokevirtual 37, 3) := by decide +kernel
theorem ir_d13 : decode prog_24_method_6_code 13 = .ok (.invokestatic 29, 3) := by decide +kernel
theorem ir_d16 : decode prog_24_method_6_code 16 = .ok (.iload_n 2, 1) := by decide +kernel
theorem ir_d17 : decode prog_24_method_6_code 17 = .ok (.iand, 1) := by decide +kernel
theorem ir_d18 : decode prog_24_method_6_code 18 = .ok (.istore_n 3, 1) := by decide +kernel
theorem ir_d19 : decode prog_24_method_6_code 19 = .ok (.aload_n 0, 1) := by decide +kernel
theorem ir_d20 : decode prog_24_method_6_code 20 = .ok (.aload_n 0, 1) := by decide +kernel
theorem ir_d21 : decode prog_24_method_6_code 21 = .ok (.getfield 13, 3) := by decide +kernel
theorem ir_d24 : decode prog_24_method_6_code 24 = .ok (.iload_n 3, 1) := by decide +kernel
theorem ir_d25 : decode prog_24_method_6_code 25 = .ok (.iaload, 1) := by decide +kernel
theorem ir_d26 : decode prog_24_method_6_code 26 = .ok (.iconst 1, 1) := by decide +kernel
theorem ir_d27 : decode prog_24_method_6_code 27 = .ok (.isub, 1) := by decide +kernel
theorem ir_d28 : decode prog_24_method_6_code 28 = .ok (.aload_n 0, 1) := by decide +kernel
theorem ir_d29 : decode prog_24_method_6_code 29 = .ok (.getfield 26, 3) := by decide +kernel
theorem ir_d32 : decode prog_24_method_6_code 32 = .ok (.invokevirtual 33, 3) := by decide +kernel
theorem ir_d35 : decode prog_24_method_6_code 35 = .ok (.ifCond .ne 12, 3) := by decide +kernel
theorem ir_d38 : decode prog_24_method_6_code 38 = .ok (.iload_n 3, 1) := by decide +kernel
theorem ir_d39 : decode prog_24_method_6_code 39 = .ok (.iconst 1, 1) := by decide +kernel
theorem ir_d40 : decode prog_24_method_6_code 40 = .ok (.iadd, 1) := by decide +kernel
theorem ir_d41 : decode prog_24_method_6_code 41 = .ok (.iload_n 2, 1) := by decide +kernel
theorem ir_d42 : decode prog_24_method_6_code 42 = .ok (.iand, 1) := by decide +kernel
theorem ir_d43 : decode prog_24_method_6_code 43 = .ok (.istore_n 3, 1) := by decide +kernel
theorem ir_d44 : decode prog_24_method_6_code 44 = .ok (.goto (-25), 3) := by decide +kernel
theorem ir_d47 : decode prog_24_method_6_code 47 = .ok (.aload_n 0, 1) := by decide +kernel
theorem ir_d48 : decode prog_24_method_6_code 48 = .ok (.getfield 53, 3) := by decide +kernel
theorem ir_d51 : decode prog_24_method_6_code 51 = .ok (.ifnonnull 7, 3) := by decide +kernel
theorem ir_d54 : decode prog_24_method_6_code 54 = .ok (.iconst (-1), 1) := by decide +kernel
theorem ir_d55 : decode prog_24_method_6_code 55 = .ok (.goto 9, 3) := by decide +kernel
theorem ir_d64 : decode prog_24_method_6_code 64 = .ok (.istore 4, 2) := by decide +kernel
theorem ir_d66 : decode prog_24_method_6_code 66 = .ok (.aload_n 0, 1) := by decide +kernel
theorem ir_d67 : decode prog_24_method_6_code 67 = .ok (.getfield 23, 3) := by decide +kernel
theorem ir_d70 : decode prog_24_method_6_code 70 = .ok (.ifnonnull 7, 3) := by decide +kernel
theorem ir_d73 : decode prog_24_method_6_code 73 = .ok (.iconst (-1), 1) := by decide +kernel
theorem ir_d74 : decode prog_24_method_6_code 74 = .ok (.goto 9, 3) := by decide +kernel
theorem ir_d83 : decode prog_24_method_6_code 83 = .ok (.istore 5, 2) := by decide +kernel
theorem ir_d85 : decode prog_24_method_6_code 85 = .ok (.iload 4, 2) := by decide +kernel
theorem ir_d87 : decode prog_24_method_6_code 87 = .ok (.ifCond .lt 15, 3) := by decide +kernel
theorem ir_d102 : decode prog_24_method_6_code 102 = .ok (.aload_n 0, 1) := by decide +kernel
theorem ir_d103 : decode prog_24_method_6_code 103 = .ok (.getfield 13, 3) := by decide +kernel
theorem ir_d106 : decode prog_24_method_6_code 106 = .ok (.iload_n 3, 1) := by decide +kernel
theorem ir_d107 : decode prog_24_method_6_code 107 = .ok (.iload 5, 2) := by decide +kernel
theorem ir_d109 : decode prog_24_method_6_code 109 = .ok (.iconst 1, 1) := by decide +kernel
theorem ir_d110 : decode prog_24_method_6_code 110 = .ok (.iadd, 1) := by decide +kernel
theorem ir_d111 : decode prog_24_method_6_code 111 = .ok (.iastore, 1) := by decide +kernel
theorem ir_d112 : decode prog_24_method_6_code 112 = .ok (.iload 5, 2) := by decide +kernel
theorem ir_d114 : decode prog_24_method_6_code 114 = .ok (.ifCond .lt 15, 3) := by decide +kernel
theorem ir_d129 : decode prog_24_method_6_code 129 = .ok (.aload_n 0, 1) := by decide +kernel
theorem ir_d130 : decode prog_24_method_6_code 130 = .ok (.getfield 17, 3) := by decide +kernel
theorem ir_d133 : decode prog_24_method_6_code 133 = .ok (.iload_n 3, 1) := by decide +kernel
theorem ir_d134 : decode prog_24_method_6_code 134 = .ok (.iload 4, 2) := by decide +kernel
theorem ir_d136 : decode prog_24_method_6_code 136 = .ok (.iastore, 1) := by decide +kernel
theorem ir_d137 : decode prog_24_method_6_code 137 = .ok (.aload_n 0, 1) := by decide +kernel
theorem ir_d138 : decode prog_24_method_6_code 138 = .ok (.getfield 13, 3) := by decide +kernel
theorem ir_d141 : decode prog_24_method_6_code 141 = .ok (.iload_n 3, 1) := by decide +kernel
theorem ir_d142 : decode prog_24_method_6_code 142 = .ok (.iaload, 1) := by decide +kernel
theorem ir_d143 : decode prog_24_method_6_code 143 = .ok (.ifCond .ne 8, 3) := by decide +kernel
theorem ir_d146 : decode prog_24_method_6_code 146 = .ok (.aload_n 0, 1) := by decide +kernel
theorem ir_d147 : decode prog_24_method_6_code 147 = .ok (.iload_n 3, 1) := by decide +kernel
theorem ir_d148 : decode prog_24_method_6_code 148 = .ok (.invokevirtual 63, 3) := by decide +kernel
theorem ir_d151 : decode prog_24_method_6_code 151 = .ok (.return_, 1) := by decide +kernel
def ir_Q (Z : State) (b0 : Addr) (p1 : Int32) (w_r : Addr) (w_p : Addr) (w_d : Addr) (w_P : Nat → Int32) (w_D : Nat → Int32) (w_1 : Addr) (w_2 : Addr) (w_k : Addr) (w_F : Nat → Int32) (w_L : Nat → Int32) (w_K : Nat → Int32) (w_c : Int32) (y8 : Int32) (y9 : Nat → Int32) (y10 : Nat → Int32) (y11 : Nat → Int32) (h0 : Heap) (n0 : Nat) (v : Option Value) (h : Heap) (L : List Loc) : Prop := v = none ∧ Fr n0 L ∧ Keep h0 h [b0, w_1, w_2, w_k] ∧ Exa Z h b0 ς1 ∧ Fld Z h b0 ς1 "this$0" ς2 (.ref w_r) ∧ Fld Z h b0 ς1 "positions" "[I" (.ref w_p) ∧ Fld Z h b0 ς1 "firsts" "[I" (.ref w_1) ∧ Fld Z h b0 ς1 "lasts" "[I" (.ref w_2) ∧ Fld Z h b0 ς1 "rowKey" "[I" (.ref w_k) ∧ Fld Z h b0 ς1 "next" "[I" .null ∧ Fld Z h b0 ς1 "previous" "[I" .null ∧ Fld Z h b0 ς1 "keys" "I" (.int y8) ∧ own_Arf Z h w_1 .int 16 (fun i => (.int (y9 i))) ∧ own_Arf Z h w_2 .int 16 (fun i => (.int (y10 i))) ∧ own_Arf Z h w_k .int 1 (fun i => (.int (y11 i)))
def ir_g8_19 : Nat → (Int32) → (Nat → Int32) → (Nat → Int32) → (Nat → Int32) → (Nat → Int32) → (Nat → Int32) → (Int32) → (Int32) → (Nat → Int32) → (Int32)
  | 0, _, _, _, _, _, _, _, _, _ => 0
  | k + 1, p1, w_P, w_D, w_F, w_L, w_K, w_c, v3, w18 =>
    if (hk_f ((w_F (v3).toNatClampNeg) - (1 : Int32)) w_P w_D w18) = (0 : Int32) then
      ir_g8_19 k p1 w_P w_D w_F w_L w_K w_c (((v3 + (1 : Int32)) &&& (15 : Int32))) (w18)
    else
      (rk_g8 v3 w_P w_D (own_upd w_F (v3).toNatClampNeg (0 : Int32)) (own_upd w_L (v3).toNatClampNeg (-1 : Int32)) w18 w_c)
def ir_g9_19 : Nat → (Int32) → (Nat → Int32) → (Nat → Int32) → (Nat → Int32) → (Nat → Int32) → (Nat → Int32) → (Int32) → (Int32) → (Nat → Int32) → (Nat → Int32)
  | 0, _, _, _, _, _, _, _, _, _ => fun _ => 0
  | k + 1, p1, w_P, w_D, w_F, w_L, w_K, w_c, v3, w18 =>
    if (hk_f ((w_F (v3).toNatClampNeg) - (1 : Int32)) w_P w_D w18) = (0 : Int32) then
      ir_g9_19 k p1 w_P w_D w_F w_L w_K w_c (((v3 + (1 : Int32)) &&& (15 : Int32))) (w18)
    else
      (rk_g9 v3 w_P w_D (own_upd w_F (v3).toNatClampNeg (0 : Int32)) (own_upd w_L (v3).toNatClampNeg (-1 : Int32)) w18 w_c)
def ir_g10_19 : Nat → (Int32) → (Nat → Int32) → (Nat → Int32) → (Nat → Int32) → (Nat → Int32) → (Nat → Int32) → (Int32) → (Int32) → (Nat → Int32) → (Nat → Int32)
  | 0, _, _, _, _, _, _, _, _, _ => fun _ => 0
  | k + 1, p1, w_P, w_D, w_F, w_L, w_K, w_c, v3, w18 =>
    if (hk_f ((w_F (v3).toNatClampNeg) - (1 : Int32)) w_P w_D w18) = (0 : Int32) then
      ir_g10_19 k p1 w_P w_D w_F w_L w_K w_c (((v3 + (1 : Int32)) &&& (15 : Int32))) (w18)
    else
      (rk_g10 v3 w_P w_D (own_upd w_F (v3).toNatClampNeg (0 : Int32)) (own_upd w_L (v3).toNatClampNeg (-1 : Int32)) w18 w_c)
def ir_g11_19 : Nat → (Int32) → (Nat → Int32) → (Nat → Int32) → (Nat → Int32) → (Nat → Int32) → (Nat → Int32) → (Int32) → (Int32) → (Nat → Int32) → (Nat → Int32)
  | 0, _, _, _, _, _, _, _, _, _ => fun _ => 0
  | k + 1, p1, w_P, w_D, w_F, w_L, w_K, w_c, v3, w18 =>
    if (hk_f ((w_F (v3).toNatClampNeg) - (1 : Int32)) w_P w_D w18) = (0 : Int32) then
      ir_g11_19 k p1 w_P w_D w_F w_L w_K w_c (((v3 + (1 : Int32)) &&& (15 : Int32))) (w18)
    else
      (rk_g11 v3 w_P w_D (own_upd w_F (v3).toNatClampNeg (0 : Int32)) (own_upd w_L (v3).toNatClampNeg (-1 : Int32)) w18 w_c)
set_option maxRecDepth 65536 in
set_option maxHeartbeats 40000000 in
theorem ir_c19 {b0 : Addr} {p1 : Int32} {w_r : Addr} {w_p : Addr} {w_d : Addr} {w_P : Nat → Int32} {w_D : Nat → Int32} {w_1 : Addr} {w_2 : Addr} {w_k : Addr} {w_F : Nat → Int32} {w_L : Nat → Int32} {w_K : Nat → Int32} {w_c : Int32} {locs : List Loc} {y8 : Int32} {y9 : Nat → Int32} {y10 : Nat → Int32} {y11 : Nat → Int32} (C0 : own_Cx p s m meth c Z a0 prog_24_method_6_code 6 ς1 "remove" none) (k : Nat) (X0 : Stand p l e ({ frames := 3, cells := 0, slots := 0, locals := 47 } : Room) s m args below meth c T0 locs 0 0) (e0 : T0.heap = h1) (N0 : Fr n0 locs) (v3 : Int32) (w18 : Nat → Int32) (Z0 : n0 ≤ h1.size) (P1 : Exa Z h1 b0 ς1) (P2 : Fld Z h1 b0 ς1 "this$0" ς2 (.ref w_r)) (P3 : Fld Z h1 b0 ς1 "positions" "[I" (.ref w_p)) (P4 : own_Arf Z h1 w_p .int 1 (fun i => (.int (w_P i)))) (P5 : Exa Z h1 w_r ς0) (P6 : Fld Z h1 w_r ς0 "data" "[I" (.ref w_d)) (P7 : Fld Z h1 w_r ς0 "arity" "I" (.int 1)) (P8 : own_Arf Z h1 w_d .int 16 (fun i => (.int (w_D i)))) (P9 : Fld Z h1 b0 ς1 "firsts" "[I" (.ref w_1)) (P10 : Fld Z h1 b0 ς1 "lasts" "[I" (.ref w_2)) (P11 : Fld Z h1 b0 ς1 "rowKey" "[I" (.ref w_k)) (P12 : Fld Z h1 b0 ς1 "next" "[I" .null) (P13 : Fld Z h1 b0 ς1 "previous" "[I" .null) (P14 : Fld Z h1 b0 ς1 "keys" "I" (.int w_c)) (P15 : own_Arf Z h1 w_1 .int 16 (fun i => (.int (w_F i)))) (P16 : own_Arf Z h1 w_2 .int 16 (fun i => (.int (w_L i)))) (K0 : Keep h0 h1 [b0, w_1, w_2, w_k]) (P18 : own_Arf Z h1 w_k .int 1 (fun i => (.int (w18 i)))) (kn0 : n0 ≤ b0) (kn1 : n0 ≤ w_1) (kn2 : n0 ≤ w_2) (kn3 : n0 ≤ w_k) (kn4 : b0 ≠ w_1) (kn5 : w_r ≠ w_1) (kn6 : w_p ≠ w_1) (kn7 : w_d ≠ w_1) (kn8 : b0 ≠ w_2) (kn9 : w_r ≠ w_2) (kn10 : w_p ≠ w_2) (kn11 : w_d ≠ w_2) (kn12 : b0 ≠ w_k) (kn13 : w_r ≠ w_k) (kn14 : w_p ≠ w_k) (kn15 : w_d ≠ w_k) (kn16 : w_1 ≠ w_2) (kn17 : w_1 ≠ w_k) (kn18 : w_2 ≠ w_k) (kn19 : b0 ≠ w_p) (kn20 : b0 ≠ w_d) (hP : w_P 0 = 0) (hF : own_FB w_F) (hr : 0 ≤ p1.toInt ∧ p1.toInt < 16) (hin : own_In w_F 16 (own_hm (w_D p1.toNatClampNeg)) p1) (hi0 : own_iD k w_F w_D w18 p1 v3) (hy8 : y8 = ir_g8_19 k p1 w_P w_D w_F w_L w_K w_c v3 w18) (hy9 : y9 = ir_g9_19 k p1 w_P w_D w_F w_L w_K w_c v3 w18) (hy10 : y10 = ir_g10_19 k p1 w_P w_D w_F w_L w_K w_c v3 w18) (hy11 : y11 = ir_g11_19 k p1 w_P w_D w_F w_L w_K w_c v3 w18) :
    own_Dn p e below s (ir_Q Z b0 p1 w_r w_p w_d w_P w_D w_1 w_2 w_k w_F w_L w_K w_c y8 y9 y10 y11 h0 n0) ({ frames := 3, cells := 0, slots := 0, locals := 47 } : Room).cells ({ frames := 3, cells := 0, slots := 0, locals := 47 } : Room).slots (T0.setTop (mkF m 19 #[ρ b0, ι p1, ι 15, ι v3, υ, υ] [])) := by
  induction k generalizing T0 locs h1 y8 y9 y10 y11 v3 w18 with
  | zero => exact absurd hi0 own_iD_zero
  | succ k ih =>
    obtain ⟨hx, hZ, hw, hby, hml, hown, hret, hlk, hnm⟩ := id C0
    refine own_st (fun _ k => XS.aloadN X0.here hx rfl (hb hby ir_d19) rfl rfl (XS.aloadN X0.here hx rfl (hb hby ir_d20) rfl rfl k)) ?_
    show own_Dn p e below s _ _ _ (T0.setTop (mkF m 21 #[ρ b0, ι p1, ι 15, ι v3, υ, υ] [(.ref b0), (.ref b0)]))
    obtain ⟨T114, X114, e114, st114⟩ := getF X0 hx hZ hown (host := "") (Or.inl (own_w hw 102 rfl)) Via.refl e0 P9 (g := (mkF m 21 #[ρ b0, ι p1, ι 15, ι v3, υ, υ] [(.ref b0), (.ref b0)])) rfl rfl (hb hby ir_d21)
    refine own_st st114 ?_
    show own_Dn p e below s _ _ _ (T114.setTop (mkF m 24 #[ρ b0, ι p1, ι 15, ι v3, υ, υ] [(.ref w_1), (.ref b0)]))
    refine own_st (fun _ k => XS.iloadN X114.here hx rfl (hb hby ir_d24) rfl k) ?_
    show own_Dn p e below s _ _ _ (T114.setTop (mkF m 25 #[ρ b0, ι p1, ι 15, ι v3, υ, υ] [(.int v3), (.ref w_1), (.ref b0)]))
    refine own_st (own_ldI (pc := 25) (L := #[ρ b0, ι p1, ι 15, ι v3, υ, υ]) (rest := [(.ref b0)]) X114 hx hZ e114 P15 (j := v3) (own_iD_b hi0).1 (own_iD_b hi0).2 (hb hby ir_d25)) ?_
    show own_Dn p e below s _ _ _ (T114.setTop (mkF m 26 #[ρ b0, ι p1, ι 15, ι v3, υ, υ] [(.int (w_F (v3).toNatClampNeg)), (.ref b0)]))
    refine own_st (fun _ k => XS.iconst X114.here hx rfl (hb hby ir_d26) (XS.isub X114.here hx rfl (hb hby ir_d27) rfl (XS.aloadN X114.here hx rfl (hb hby ir_d28) rfl rfl k))) ?_
    show own_Dn p e below s _ _ _ (T114.setTop (mkF m 29 #[ρ b0, ι p1, ι 15, ι v3, υ, υ] [(.ref b0), (.int ((w_F (v3).toNatClampNeg) - (1 : Int32))), (.ref b0)]))
    obtain ⟨T115, X115, e115, st115⟩ := getF X114 hx hZ hown (host := "") (Or.inl (own_w hw 110 rfl)) Via.refl e114 P11 (g := (mkF m 29 #[ρ b0, ι p1, ι 15, ι v3, υ, υ] [(.ref b0), (.int ((w_F (v3).toNatClampNeg) - (1 : Int32))), (.ref b0)])) rfl rfl (hb hby ir_d29)
    refine own_st st115 ?_
    show own_Dn p e below s _ _ _ (T115.setTop (mkF m 32 #[ρ b0, ι p1, ι 15, ι v3, υ, υ] [(.ref w_k), (.int ((w_F (v3).toNatClampNeg) - (1 : Int32))), (.ref b0)]))
    obtain ⟨cq116, q116, q116x⟩ := P1.cell
    obtain ⟨_, _, ⟨T116, L116, k116, n116⟩, -, X116, ⟨Lc116, hQ116, l116, y116, z116⟩, st116⟩ := X115.privateBack hx (y := (⟨ς1, "hasKey", "(I[I)Z"⟩ : MethodName)) hown (mvT hZ (own_w hw 207 rfl)) (mvT hZ (own_w hw 208 rfl)) (own_selp hZ (own_w hw 94 rfl) (own_w hw 208 rfl) (own_w hw 209 rfl) (by decide)) (Cond.privateMethod_at (mvP hZ (own_w hw 209 rfl) (args := #[]))) (mvT hZ (own_w hw 210 rfl)) (by decide) (backOf (W := 0) (hk_rm l Z a0 hw [] (b0) (((w_F (v3).toNatClampNeg) - (1 : Int32))) (w_k) (w_r) (w_p) (w_d) (w_P) (w_D) (w18) h1 n0 Z0 P1 P2 P3 P4 P5 P6 P7 P8 P18 hP (own_iD_row hi0)) hZ (own_w hw 210 rfl) (own_w hw 95 rfl) (by decide) (by decide)) (g := (mkF m 32 #[ρ b0, ι p1, ι 15, ι v3, υ, υ] [(.ref w_k), (.int ((w_F (v3).toNatClampNeg) - (1 : Int32))), (.ref b0)])) rfl (by rw [hml]; rfl) (Steps.refl _) (a := b0) (by rw [show T115.heap = h1 from e115]; exact q116) q116x (argsL := [(.int ((w_F (v3).toNatClampNeg) - (1 : Int32))), (.ref w_k)]) (rest := []) (lenOf own_pd3 rfl) rfl (by show 2 * 0 + _ ≤ _; exact Nat.le_of_eq rfl) (hb hby ir_d32) (fun _ _ => ⟨rfl, e115, (by decide : 0 + 0 ≤ _), (by decide : 0 + 0 ≤ _)⟩)
    dsimp only [Pt.U, Pt.locs, Pt.cells, Pt.slots] at X116 l116 y116 z116 st116 hQ116
    subst l116 y116 z116
    obtain ⟨rfl, N116q, e116⟩ := hQ116
    have N116 := Fr.app N0 N116q
    refine own_tr st116 ?_
    show own_Dn p e below s _ _ _ (T116.setTop (mkF m 35 #[ρ b0, ι p1, ι 15, ι v3, υ, υ] [(.int (hk_f ((w_F (v3).toNatClampNeg) - (1 : Int32)) w_P w_D w18))]))
    by_cases hc117 : (hk_f ((w_F (v3).toNatClampNeg) - (1 : Int32)) w_P w_D w18) = (0 : Int32)
    · refine own_st (fun _ k => XS.ifNo X116.here hx rfl (hb hby ir_d35) rfl ((if0 _ _).trans (teq hc117).2) k) ?_
      show own_Dn p e below s _ _ _ (T116.setTop (mkF m 38 #[ρ b0, ι p1, ι 15, ι v3, υ, υ] []))
      refine own_st (fun _ k => XS.iloadN X116.here hx rfl (hb hby ir_d38) rfl (XS.iconst X116.here hx rfl (hb hby ir_d39) (XS.iadd X116.here hx rfl (hb hby ir_d40) rfl (XS.iloadN X116.here hx rfl (hb hby ir_d41) rfl (XS.iand X116.here hx rfl (hb hby ir_d42) rfl (XS.istoreN X116.here hx rfl (hb hby ir_d43) rfl (l' := #[ρ b0, ι p1, ι 15, .val (.int ((v3 + (1 : Int32)) &&& (15 : Int32))), υ, υ]) rfl (XS.goto X116.here hx rfl (pc0 := 44) (pc' := 19) rfl (hb hby ir_d44) (by decide) (by decide) k))))))) ?_
      show own_Dn p e below s _ _ _ (T116.setTop (mkF m 19 #[ρ b0, ι p1, ι 15, .val (.int ((v3 + (1 : Int32)) &&& (15 : Int32))), υ, υ] []))
      exact ih X116 e116 N116 (((v3 + (1 : Int32)) &&& (15 : Int32))) (w18) Z0 P1 P2 P3 P4 P5 P6 P7 P8 P9 P10 P11 P12 P13 P14 P15 P16 K0 P18 (own_iD_step hP hi0 hc117) (by rw [hy8, ir_g8_19, if_pos hc117]) (by rw [hy9, ir_g9_19, if_pos hc117]) (by rw [hy10, ir_g10_19, if_pos hc117]) (by rw [hy11, ir_g11_19, if_pos hc117])
    · refine own_st (fun _ k => XS.ifYes X116.here hx rfl (pc0 := 35) (pc' := 47) rfl (hb hby ir_d35) rfl ((if0 _ _).trans (feq hc117).2) (by decide) (by decide) k) ?_
      show own_Dn p e below s _ _ _ (T116.setTop (mkF m 47 #[ρ b0, ι p1, ι 15, ι v3, υ, υ] []))
      refine own_st (fun _ k => XS.aloadN X116.here hx rfl (hb hby ir_d47) rfl rfl k) ?_
      show own_Dn p e below s _ _ _ (T116.setTop (mkF m 48 #[ρ b0, ι p1, ι 15, ι v3, υ, υ] [(.ref b0)]))
      obtain ⟨T118, X118, e118, st118⟩ := getF X116 hx hZ hown (host := "") (Or.inl (own_w hw 155 rfl)) Via.refl e116 P13 (g := (mkF m 48 #[ρ b0, ι p1, ι 15, ι v3, υ, υ] [(.ref b0)])) rfl rfl (hb hby ir_d48)
      refine own_st st118 ?_
      show own_Dn p e below s _ _ _ (T118.setTop (mkF m 51 #[ρ b0, ι p1, ι 15, ι v3, υ, υ] [.null]))
      refine own_st (fun _ k => XT.ifnonnullNo X118.here hx rfl (hb hby ir_d51) rfl k) ?_
      show own_Dn p e below s _ _ _ (T118.setTop (mkF m 54 #[ρ b0, ι p1, ι 15, ι v3, υ, υ] []))
      refine own_st (fun _ k => XS.iconst X118.here hx rfl (hb hby ir_d54) (XS.goto X118.here hx rfl (pc0 := 55) (pc' := 64) rfl (hb hby ir_d55) (by decide) (by decide) (XS.istore X118.here hx rfl (hb hby ir_d64) rfl (l' := #[ρ b0, ι p1, ι 15, ι v3, .val (.int (-1 : Int32)), υ]) rfl (XS.aloadN X118.here hx rfl (hb hby ir_d66) rfl rfl k)))) ?_
      show own_Dn p e below s _ _ _ (T118.setTop (mkF m 67 #[ρ b0, ι p1, ι 15, ι v3, .val (.int (-1 : Int32)), υ] [(.ref b0)]))
      obtain ⟨T119, X119, e119, st119⟩ := getF X118 hx hZ hown (host := "") (Or.inl (own_w hw 108 rfl)) Via.refl e118 P12 (g := (mkF m 67 #[ρ b0, ι p1, ι 15, ι v3, .val (.int (-1 : Int32)), υ] [(.ref b0)])) rfl rfl (hb hby ir_d67)
      refine own_st st119 ?_
      show own_Dn p e below s _ _ _ (T119.setTop (mkF m 70 #[ρ b0, ι p1, ι 15, ι v3, .val (.int (-1 : Int32)), υ] [.null]))
      refine own_st (fun _ k => XT.ifnonnullNo X119.here hx rfl (hb hby ir_d70) rfl k) ?_
      show own_Dn p e below s _ _ _ (T119.setTop (mkF m 73 #[ρ b0, ι p1, ι 15, ι v3, .val (.int (-1 : Int32)), υ] []))
      refine own_st (fun _ k => XS.iconst X119.here hx rfl (hb hby ir_d73) (XS.goto X119.here hx rfl (pc0 := 74) (pc' := 83) rfl (hb hby ir_d74) (by decide) (by decide) (XS.istore X119.here hx rfl (hb hby ir_d83) rfl (l' := #[ρ b0, ι p1, ι 15, ι v3, .val (.int (-1 : Int32)), .val (.int (-1 : Int32))]) rfl (XS.iload X119.here hx rfl (hb hby ir_d85) rfl k)))) ?_
      show own_Dn p e below s _ _ _ (T119.setTop (mkF m 87 #[ρ b0, ι p1, ι 15, ι v3, .val (.int (-1 : Int32)), .val (.int (-1 : Int32))] [(.int (-1 : Int32))]))
      refine own_st (fun _ k => XS.ifYes X119.here hx rfl (pc0 := 87) (pc' := 102) rfl (hb hby ir_d87) rfl ((if0 _ _).trans (tlt (by decide : (-1 : Int32) < (0 : Int32))).1) (by decide) (by decide) k) ?_
      show own_Dn p e below s _ _ _ (T119.setTop (mkF m 102 #[ρ b0, ι p1, ι 15, ι v3, .val (.int (-1 : Int32)), .val (.int (-1 : Int32))] []))
      refine own_st (fun _ k => XS.aloadN X119.here hx rfl (hb hby ir_d102) rfl rfl k) ?_
      show own_Dn p e below s _ _ _ (T119.setTop (mkF m 103 #[ρ b0, ι p1, ι 15, ι v3, .val (.int (-1 : Int32)), .val (.int (-1 : Int32))] [(.ref b0)]))
      obtain ⟨T120, X120, e120, st120⟩ := getF X119 hx hZ hown (host := "") (Or.inl (own_w hw 102 rfl)) Via.refl e119 P9 (g := (mkF m 103 #[ρ b0, ι p1, ι 15, ι v3, .val (.int (-1 : Int32)), .val (.int (-1 : Int32))] [(.ref b0)])) rfl rfl (hb hby ir_d103)
      refine own_st st120 ?_
      show own_Dn p e below s _ _ _ (T120.setTop (mkF m 106 #[ρ b0, ι p1, ι 15, ι v3, .val (.int (-1 : Int32)), .val (.int (-1 : Int32))] [(.ref w_1)]))
      refine own_st (fun _ k => XS.iloadN X120.here hx rfl (hb hby ir_d106) rfl (XS.iload X120.here hx rfl (hb hby ir_d107) rfl (XS.iconst X120.here hx rfl (hb hby ir_d109) (XS.iadd X120.here hx rfl (hb hby ir_d110) rfl k)))) ?_
      show own_Dn p e below s _ _ _ (T120.setTop (mkF m 111 #[ρ b0, ι p1, ι 15, ι v3, .val (.int (-1 : Int32)), .val (.int (-1 : Int32))] [(.int 0), (.int v3), (.ref w_1)]))
      obtain ⟨T121, h121, X121, e121, W121, F121a, st121⟩ := own_stI (pc := 111) (L := #[ρ b0, ι p1, ι 15, ι v3, .val (.int (-1 : Int32)), .val (.int (-1 : Int32))]) (rest := []) X120 hx hZ e120 P15 (j := v3) (x := (0 : Int32)) (own_iD_b hi0).1 (own_iD_b hi0).2 (hb hby ir_d111)
      have N121 := Fr.snoc X121 N116 kn1
      have F122 : n0 ≤ h121.size := Nat.le_trans Z0 (Keep.of_wr W121).1
      have F123 := P1.wr W121
      have F124 := P2.other W121 (Or.inl kn4)
      have F125 := P3.other W121 (Or.inl kn4)
      have F126 := P4.other W121 kn6
      have F127 := P5.wr W121
      have F128 := P6.other W121 (Or.inl kn5)
      have F129 := P7.other W121 (Or.inl kn5)
      have F130 := P8.other W121 kn7
      have F131 := P9.other W121 (Or.inl kn4)
      have F132 := P10.other W121 (Or.inl kn4)
      have F133 := P11.other W121 (Or.inl kn4)
      have F134 := P12.other W121 (Or.inl kn4)
      have F135 := P13.other W121 (Or.inl kn4)
      have F136 := P14.other W121 (Or.inl kn4)
      have F137 := P16.other W121 (Ne.symm kn16)
      have F138 : Keep h0 h121 [b0, w_1, w_2, w_k] := K0.wr W121 (Or.inl (List.mem_of_getElem? (i := 1) rfl))
      have F139 := P18.other W121 (Ne.symm kn17)
      refine own_st st121 ?_
      show own_Dn p e below s _ _ _ (T121.setTop (mkF m 112 #[ρ b0, ι p1, ι 15, ι v3, .val (.int (-1 : Int32)), .val (.int (-1 : Int32))] []))
      refine own_st (fun _ k => XS.iload X121.here hx rfl (hb hby ir_d112) rfl k) ?_
      show own_Dn p e below s _ _ _ (T121.setTop (mkF m 114 #[ρ b0, ι p1, ι 15, ι v3, .val (.int (-1 : Int32)), .val (.int (-1 : Int32))] [(.int (-1 : Int32))]))
      refine own_st (fun _ k => XS.ifYes X121.here hx rfl (pc0 := 114) (pc' := 129) rfl (hb hby ir_d114) rfl ((if0 _ _).trans (tlt (by decide : (-1 : Int32) < (0 : Int32))).1) (by decide) (by decide) k) ?_
      show own_Dn p e below s _ _ _ (T121.setTop (mkF m 129 #[ρ b0, ι p1, ι 15, ι v3, .val (.int (-1 : Int32)), .val (.int (-1 : Int32))] []))
      refine own_st (fun _ k => XS.aloadN X121.here hx rfl (hb hby ir_d129) rfl rfl k) ?_
      show own_Dn p e below s _ _ _ (T121.setTop (mkF m 130 #[ρ b0, ι p1, ι 15, ι v3, .val (.int (-1 : Int32)), .val (.int (-1 : Int32))] [(.ref b0)]))
      obtain ⟨T140, X140, e140, st140⟩ := getF X121 hx hZ hown (host := "") (Or.inl (own_w hw 104 rfl)) Via.refl e121 F132 (g := (mkF m 130 #[ρ b0, ι p1, ι 15, ι v3, .val (.int (-1 : Int32)), .val (.int (-1 : Int32))] [(.ref b0)])) rfl rfl (hb hby ir_d130)
      refine own_st st140 ?_
      show own_Dn p e below s _ _ _ (T140.setTop (mkF m 133 #[ρ b0, ι p1, ι 15, ι v3, .val (.int (-1 : Int32)), .val (.int (-1 : Int32))] [(.ref w_2)]))
      refine own_st (fun _ k => XS.iloadN X140.here hx rfl (hb hby ir_d133) rfl (XS.iload X140.here hx rfl (hb hby ir_d134) rfl k)) ?_
      show own_Dn p e below s _ _ _ (T140.setTop (mkF m 136 #[ρ b0, ι p1, ι 15, ι v3, .val (.int (-1 : Int32)), .val (.int (-1 : Int32))] [(.int (-1 : Int32)), (.int v3), (.ref w_2)]))
      obtain ⟨T141, h141, X141, e141, W141, F141a, st141⟩ := own_stI (pc := 136) (L := #[ρ b0, ι p1, ι 15, ι v3, .val (.int (-1 : Int32)), .val (.int (-1 : Int32))]) (rest := []) X140 hx hZ e140 F137 (j := v3) (x := (-1 : Int32)) (own_iD_b hi0).1 (own_iD_b hi0).2 (hb hby ir_d136)
      have N141 := Fr.snoc X141 N121 kn2
      have F142 : n0 ≤ h141.size := Nat.le_trans F122 (Keep.of_wr W141).1
      have F143 := F123.wr W141
      have F144 := F124.other W141 (Or.inl kn8)
      have F145 := F125.other W141 (Or.inl kn8)
      have F146 := F126.other W141 kn10
      have F147 := F127.wr W141
      have F148 := F128.other W141 (Or.inl kn9)
      have F149 := F129.other W141 (Or.inl kn9)
      have F150 := F130.other W141 kn11
      have F151 := F131.other W141 (Or.inl kn8)
      have F152 := F132.other W141 (Or.inl kn8)
      have F153 := F133.other W141 (Or.inl kn8)
      have F154 := F134.other W141 (Or.inl kn8)
      have F155 := F135.other W141 (Or.inl kn8)
      have F156 := F136.other W141 (Or.inl kn8)
      have F157 : Keep h0 h141 [b0, w_1, w_2, w_k] := F138.wr W141 (Or.inl (List.mem_of_getElem? (i := 2) rfl))
      have F158 := F139.other W141 (Ne.symm kn18)
      have F159 := F121a.other W141 kn16
      refine own_st st141 ?_
      show own_Dn p e below s _ _ _ (T141.setTop (mkF m 137 #[ρ b0, ι p1, ι 15, ι v3, .val (.int (-1 : Int32)), .val (.int (-1 : Int32))] []))
      refine own_st (fun _ k => XS.aloadN X141.here hx rfl (hb hby ir_d137) rfl rfl k) ?_
      show own_Dn p e below s _ _ _ (T141.setTop (mkF m 138 #[ρ b0, ι p1, ι 15, ι v3, .val (.int (-1 : Int32)), .val (.int (-1 : Int32))] [(.ref b0)]))
      obtain ⟨T160, X160, e160, st160⟩ := getF X141 hx hZ hown (host := "") (Or.inl (own_w hw 102 rfl)) Via.refl e141 F151 (g := (mkF m 138 #[ρ b0, ι p1, ι 15, ι v3, .val (.int (-1 : Int32)), .val (.int (-1 : Int32))] [(.ref b0)])) rfl rfl (hb hby ir_d138)
      refine own_st st160 ?_
      show own_Dn p e below s _ _ _ (T160.setTop (mkF m 141 #[ρ b0, ι p1, ι 15, ι v3, .val (.int (-1 : Int32)), .val (.int (-1 : Int32))] [(.ref w_1)]))
      refine own_st (fun _ k => XS.iloadN X160.here hx rfl (hb hby ir_d141) rfl k) ?_
      show own_Dn p e below s _ _ _ (T160.setTop (mkF m 142 #[ρ b0, ι p1, ι 15, ι v3, .val (.int (-1 : Int32)), .val (.int (-1 : Int32))] [(.int v3), (.ref w_1)]))
      refine own_st (own_ldI (pc := 142) (L := #[ρ b0, ι p1, ι 15, ι v3, .val (.int (-1 : Int32)), .val (.int (-1 : Int32))]) (rest := []) X160 hx hZ e160 F159 (j := v3) (own_iD_b hi0).1 (own_iD_b hi0).2 (hb hby ir_d142)) ?_
      have hs161 : ((own_upd w_F (v3).toNatClampNeg (0 : Int32)) (v3).toNatClampNeg) = (0 : Int32) := own_same _ _ _
      show own_Dn p e below s _ _ _ (T160.setTop (mkF m 143 #[ρ b0, ι p1, ι 15, ι v3, .val (.int (-1 : Int32)), .val (.int (-1 : Int32))] [(.int ((own_upd w_F (v3).toNatClampNeg (0 : Int32)) (v3).toNatClampNeg))]))
      refine own_st (fun _ k => XS.ifNo X160.here hx rfl (hb hby ir_d143) rfl ((if0 _ _).trans (teq hs161).2) k) ?_
      show own_Dn p e below s _ _ _ (T160.setTop (mkF m 146 #[ρ b0, ι p1, ι 15, ι v3, .val (.int (-1 : Int32)), .val (.int (-1 : Int32))] []))
      refine own_st (fun _ k => XS.aloadN X160.here hx rfl (hb hby ir_d146) rfl rfl (XS.iloadN X160.here hx rfl (hb hby ir_d147) rfl k)) ?_
      show own_Dn p e below s _ _ _ (T160.setTop (mkF m 148 #[ρ b0, ι p1, ι 15, ι v3, .val (.int (-1 : Int32)), .val (.int (-1 : Int32))] [(.int v3), (.ref b0)]))
      obtain ⟨cq162, q162, q162x⟩ := F143.cell
      obtain ⟨_, _, ⟨T162, L162, k162, n162⟩, -, X162, ⟨Lc162, hQ162, l162, y162, z162⟩, st162⟩ := X160.privateBack hx (y := (⟨ς1, "removeKey", "(I)V"⟩ : MethodName)) hown (mvT hZ (own_w hw 211 rfl)) (mvT hZ (own_w hw 212 rfl)) (own_selp hZ (own_w hw 94 rfl) (own_w hw 212 rfl) (own_w hw 213 rfl) (by decide)) (Cond.privateMethod_at (mvP hZ (own_w hw 213 rfl) (args := #[]))) (mvT hZ (own_w hw 214 rfl)) (by decide) (backOf (W := 0) (rk_rm l Z a0 hw [] (b0) (v3) (w_r) (w_p) (w_d) (w_P) (w_D) (w_1) (w_2) (w_k) ((own_upd w_F (v3).toNatClampNeg (0 : Int32))) ((own_upd w_L (v3).toNatClampNeg (-1 : Int32))) (w18) (w_c) h141 n0 F142 F143 F144 F145 F146 F147 F148 F149 F150 F151 F152 F153 F154 F155 F156 F159 F141a F158 kn0 kn1 kn2 kn3 kn4 kn5 kn6 kn7 kn8 kn9 kn10 kn11 kn12 kn13 kn14 kn15 kn16 kn17 kn18 kn19 kn20 hP (own_iD_R hi0)) hZ (own_w hw 214 rfl) (own_w hw 95 rfl) (by decide) (by decide)) (g := (mkF m 148 #[ρ b0, ι p1, ι 15, ι v3, .val (.int (-1 : Int32)), .val (.int (-1 : Int32))] [(.int v3), (.ref b0)])) rfl (by rw [hml]; rfl) (Steps.refl _) (a := b0) (by rw [show T160.heap = h141 from e160]; exact q162) q162x (argsL := [(.int v3)]) (rest := []) (lenOf own_pd5 rfl) rfl (by show 2 * 0 + _ ≤ _; exact Nat.le_of_eq rfl) (hb hby ir_d148) (fun _ _ => ⟨rfl, e160, (by decide : 0 + 0 ≤ _), (by decide : 0 + 0 ≤ _)⟩)
      dsimp only [Pt.U, Pt.locs, Pt.cells, Pt.slots] at X162 l162 y162 z162 st162 hQ162
      subst l162 y162 z162
      obtain ⟨rfl, N162q, K162, G163, G164, G165, G166, G167, G168, G169, G170, G171, G172, G173, G174⟩ := hQ162
      have F175 : n0 ≤ T162.heap.size := Nat.le_trans F142 K162.1
      have F176 := F143.keep K162
      have F177 := F146.keep K162 (ninS (Ne.symm kn19) (ninS kn6 (ninS kn10 (ninS kn14 nin0))))
      have F178 := F147.keep K162
      have F179 := F148.keep K162 (ninS (ne_exa F147 F143 (by decide)) (ninS kn5 (ninS kn9 (ninS kn13 nin0))))
      have F180 := F149.keep K162 (ninS (ne_exa F147 F143 (by decide)) (ninS kn5 (ninS kn9 (ninS kn13 nin0))))
      have F181 := F150.keep K162 (ninS (Ne.symm kn20) (ninS kn7 (ninS kn11 (ninS kn15 nin0))))
      have F182 : Keep h0 T162.heap [b0, w_1, w_2, w_k] := F157.trans K162 (allS (Or.inl (List.mem_of_getElem? (i := 0) rfl)) (allS (Or.inl (List.mem_of_getElem? (i := 1) rfl)) (allS (Or.inl (List.mem_of_getElem? (i := 2) rfl)) (allS (Or.inl (List.mem_of_getElem? (i := 3) rfl)) all0))))
      have N162 := Fr.app N141 N162q
      refine own_tr st162 ?_
      show own_Dn p e below s _ _ _ (T162.setTop (mkF m 151 #[ρ b0, ι p1, ι 15, ι v3, .val (.int (-1 : Int32)), .val (.int (-1 : Int32))] []))
      have eqH : T162.heap = T162.heap := rfl
      exact own_retV X162 hx hret hlk (hb hby ir_d151) (by decide) (by decide) (by rw [eqH]; exact ⟨rfl, N162, F182, G163, G164, G165, G166, G167, G168, G169, G170, (by rw [hy8, ir_g8_19, if_neg hc117]; exact G171), (by rw [hy9, ir_g9_19, if_neg hc117]; exact G172), (by rw [hy10, ir_g10_19, if_neg hc117]; exact G173), (by rw [hy11, ir_g11_19, if_neg hc117]; exact G174)⟩)
def ir_g8 (p1 : Int32) (w_P : Nat → Int32) (w_D : Nat → Int32) (w_F : Nat → Int32) (w_L : Nat → Int32) (w_K : Nat → Int32) (w_c : Int32)  : Int32 :=
  ir_g8_19 16 p1 w_P w_D w_F w_L w_K w_c (((ha_f (ko_g0 p1 w_P w_D w_K)) &&& (15 : Int32))) ((ko_g0 p1 w_P w_D w_K))
def ir_g9 (p1 : Int32) (w_P : Nat → Int32) (w_D : Nat → Int32) (w_F : Nat → Int32) (w_L : Nat → Int32) (w_K : Nat → Int32) (w_c : Int32)  : Nat → Int32 :=
  ir_g9_19 16 p1 w_P w_D w_F w_L w_K w_c (((ha_f (ko_g0 p1 w_P w_D w_K)) &&& (15 : Int32))) ((ko_g0 p1 w_P w_D w_K))
def ir_g10 (p1 : Int32) (w_P : Nat → Int32) (w_D : Nat → Int32) (w_F : Nat → Int32) (w_L : Nat → Int32) (w_K : Nat → Int32) (w_c : Int32)  : Nat → Int32 :=
  ir_g10_19 16 p1 w_P w_D w_F w_L w_K w_c (((ha_f (ko_g0 p1 w_P w_D w_K)) &&& (15 : Int32))) ((ko_g0 p1 w_P w_D w_K))
def ir_g11 (p1 : Int32) (w_P : Nat → Int32) (w_D : Nat → Int32) (w_F : Nat → Int32) (w_L : Nat → Int32) (w_K : Nat → Int32) (w_c : Int32)  : Nat → Int32 :=
  ir_g11_19 16 p1 w_P w_D w_F w_L w_K w_c (((ha_f (ko_g0 p1 w_P w_D w_K)) &&& (15 : Int32))) ((ko_g0 p1 w_P w_D w_K))
set_option maxRecDepth 65536 in
set_option maxHeartbeats 40000000 in
theorem ir_c0 {b0 : Addr} {p1 : Int32} {w_r : Addr} {w_p : Addr} {w_d : Addr} {w_P : Nat → Int32} {w_D : Nat → Int32} {w_1 : Addr} {w_2 : Addr} {w_k : Addr} {w_F : Nat → Int32} {w_L : Nat → Int32} {w_K : Nat → Int32} {w_c : Int32} {locs : List Loc} {y8 : Int32} {y9 : Nat → Int32} {y10 : Nat → Int32} {y11 : Nat → Int32} (C0 : own_Cx p s m meth c Z a0 prog_24_method_6_code 6 ς1 "remove" none) (X0 : Stand p l e ({ frames := 3, cells := 0, slots := 0, locals := 47 } : Room) s m args below meth c T0 locs 0 0) (e0 : T0.heap = h0) (N0 : Fr n0 locs)  (Z0 : n0 ≤ h0.size) (P0 : Exa Z h0 b0 ς1) (P1 : Fld Z h0 b0 ς1 "this$0" ς2 (.ref w_r)) (P2 : Fld Z h0 b0 ς1 "positions" "[I" (.ref w_p)) (P3 : own_Arf Z h0 w_p .int 1 (fun i => (.int (w_P i)))) (P4 : Exa Z h0 w_r ς0) (P5 : Fld Z h0 w_r ς0 "data" "[I" (.ref w_d)) (P6 : Fld Z h0 w_r ς0 "arity" "I" (.int 1)) (P7 : own_Arf Z h0 w_d .int 16 (fun i => (.int (w_D i)))) (P8 : Fld Z h0 b0 ς1 "firsts" "[I" (.ref w_1)) (P9 : Fld Z h0 b0 ς1 "lasts" "[I" (.ref w_2)) (P10 : Fld Z h0 b0 ς1 "rowKey" "[I" (.ref w_k)) (P11 : Fld Z h0 b0 ς1 "next" "[I" .null) (P12 : Fld Z h0 b0 ς1 "previous" "[I" .null) (P13 : Fld Z h0 b0 ς1 "keys" "I" (.int w_c)) (P14 : own_Arf Z h0 w_1 .int 16 (fun i => (.int (w_F i)))) (P15 : own_Arf Z h0 w_2 .int 16 (fun i => (.int (w_L i)))) (P16 : own_Arf Z h0 w_k .int 1 (fun i => (.int (w_K i)))) (ge_b0 : n0 ≤ b0) (ge_w_1 : n0 ≤ w_1) (ge_w_2 : n0 ≤ w_2) (ge_w_k : n0 ≤ w_k) (nes0 : b0 ≠ w_1) (nes1 : w_r ≠ w_1) (nes2 : w_p ≠ w_1) (nes3 : w_d ≠ w_1) (nes4 : b0 ≠ w_2) (nes5 : w_r ≠ w_2) (nes6 : w_p ≠ w_2) (nes7 : w_d ≠ w_2) (nes8 : b0 ≠ w_k) (nes9 : w_r ≠ w_k) (nes10 : w_p ≠ w_k) (nes11 : w_d ≠ w_k) (nes12 : w_1 ≠ w_2) (nes13 : w_1 ≠ w_k) (nes14 : w_2 ≠ w_k) (nes15 : b0 ≠ w_p) (nes16 : b0 ≠ w_d) (hP : w_P 0 = 0) (hF : own_FB w_F) (hr : 0 ≤ p1.toInt ∧ p1.toInt < 16) (hin : own_In w_F 16 (own_hm (w_D p1.toNatClampNeg)) p1) (hy8 : y8 = ir_g8 p1 w_P w_D w_F w_L w_K w_c ) (hy9 : y9 = ir_g9 p1 w_P w_D w_F w_L w_K w_c ) (hy10 : y10 = ir_g10 p1 w_P w_D w_F w_L w_K w_c ) (hy11 : y11 = ir_g11 p1 w_P w_D w_F w_L w_K w_c ) :
    own_Dn p e below s (ir_Q Z b0 p1 w_r w_p w_d w_P w_D w_1 w_2 w_k w_F w_L w_K w_c y8 y9 y10 y11 h0 n0) ({ frames := 3, cells := 0, slots := 0, locals := 47 } : Room).cells ({ frames := 3, cells := 0, slots := 0, locals := 47 } : Room).slots (T0.setTop (mkF m 0 #[ρ b0, ι p1, υ, υ, υ, υ] [])) := by
  obtain ⟨hx, hZ, hw, hby, hml, hown, hret, hlk, hnm⟩ := id C0
  refine own_st (fun _ k => XS.aloadN X0.here hx rfl (hb hby ir_d0) rfl rfl k) ?_
  show own_Dn p e below s _ _ _ (T0.setTop (mkF m 1 #[ρ b0, ι p1, υ, υ, υ, υ] [(.ref b0)]))
  obtain ⟨T92, X92, e92, st92⟩ := getF X0 hx hZ hown (host := "") (Or.inl (own_w hw 102 rfl)) Via.refl e0 P8 (g := (mkF m 1 #[ρ b0, ι p1, υ, υ, υ, υ] [(.ref b0)])) rfl rfl (hb hby ir_d1)
  refine own_st st92 ?_
  show own_Dn p e below s _ _ _ (T92.setTop (mkF m 4 #[ρ b0, ι p1, υ, υ, υ, υ] [(.ref w_1)]))
  refine own_st (own_len (pc := 4) (L := #[ρ b0, ι p1, υ, υ, υ, υ]) (rest := []) X92 hx hZ e92 P14 (z := (16 : Int32)) rfl (hb hby ir_d4)) ?_
  show own_Dn p e below s _ _ _ (T92.setTop (mkF m 5 #[ρ b0, ι p1, υ, υ, υ, υ] [(.int 16)]))
  refine own_st (fun _ k => XS.iconst X92.here hx rfl (hb hby ir_d5) (XS.isub X92.here hx rfl (hb hby ir_d6) rfl (XS.istoreN X92.here hx rfl (hb hby ir_d7) rfl (l' := #[ρ b0, ι p1, ι 15, υ, υ, υ]) rfl (XS.aloadN X92.here hx rfl (hb hby ir_d8) rfl rfl (XS.iloadN X92.here hx rfl (hb hby ir_d9) rfl k))))) ?_
  show own_Dn p e below s _ _ _ (T92.setTop (mkF m 10 #[ρ b0, ι p1, ι 15, υ, υ, υ] [(.int p1), (.ref b0)]))
  obtain ⟨cq93, q93, q93x⟩ := P0.cell
  obtain ⟨_, _, ⟨T93, L93, k93, n93⟩, -, X93, ⟨Lc93, hQ93, l93, y93, z93⟩, st93⟩ := X92.privateBack hx (y := (⟨ς1, "keyOf", "(I)[I"⟩ : MethodName)) hown (mvT hZ (own_w hw 146 rfl)) (mvT hZ (own_w hw 147 rfl)) (own_selp hZ (own_w hw 94 rfl) (own_w hw 147 rfl) (own_w hw 148 rfl) (by decide)) (Cond.privateMethod_at (mvP hZ (own_w hw 148 rfl) (args := #[]))) (mvT hZ (own_w hw 149 rfl)) (by decide) (backOf (W := 0) (ko_rm l Z a0 hw [] (b0) (p1) (w_r) (w_p) (w_d) (w_P) (w_D) (w_k) (w_K) h0 n0 Z0 P0 P1 P2 P3 P4 P5 P6 P7 P10 P16 ge_w_k nes8 nes9 nes10 nes11 hP hr) hZ (own_w hw 149 rfl) (own_w hw 95 rfl) (by decide) (by decide)) (g := (mkF m 10 #[ρ b0, ι p1, ι 15, υ, υ, υ] [(.int p1), (.ref b0)])) rfl (by rw [hml]; rfl) (Steps.refl _) (a := b0) (by rw [show T92.heap = h0 from e92]; exact q93) q93x (argsL := [(.int p1)]) (rest := []) (lenOf own_pd4 rfl) rfl (by show 2 * 0 + _ ≤ _; exact Nat.le_of_eq rfl) (hb hby ir_d10) (fun _ _ => ⟨rfl, e92, (by decide : 0 + 0 ≤ _), (by decide : 0 + 0 ≤ _)⟩)
  dsimp only [Pt.U, Pt.locs, Pt.cells, Pt.slots] at X93 l93 y93 z93 st93 hQ93
  subst l93 y93 z93
  obtain ⟨rfl, N93q, K93, G94⟩ := hQ93
  have F95 : n0 ≤ T93.heap.size := Nat.le_trans Z0 K93.1
  have F96 := P0.keep K93
  have F97 := P1.keep K93 (ninS nes8 nin0)
  have F98 := P2.keep K93 (ninS nes8 nin0)
  have F99 := P3.keep K93 (ninS nes10 nin0)
  have F100 := P4.keep K93
  have F101 := P5.keep K93 (ninS nes9 nin0)
  have F102 := P6.keep K93 (ninS nes9 nin0)
  have F103 := P7.keep K93 (ninS nes11 nin0)
  have F104 := P8.keep K93 (ninS nes8 nin0)
  have F105 := P9.keep K93 (ninS nes8 nin0)
  have F106 := P10.keep K93 (ninS nes8 nin0)
  have F107 := P11.keep K93 (ninS nes8 nin0)
  have F108 := P12.keep K93 (ninS nes8 nin0)
  have F109 := P13.keep K93 (ninS nes8 nin0)
  have F110 := P14.keep K93 (ninS nes13 nin0)
  have F111 := P15.keep K93 (ninS nes14 nin0)
  have F112 : Keep h0 T93.heap [b0, w_1, w_2, w_k] := (Keep.refl h0 [b0, w_1, w_2, w_k]).trans K93 (allS (Or.inl (List.mem_of_getElem? (i := 3) rfl)) all0)
  have N93 := Fr.app N0 N93q
  refine own_tr st93 ?_
  show own_Dn p e below s _ _ _ (T93.setTop (mkF m 13 #[ρ b0, ι p1, ι 15, υ, υ, υ] [(.ref w_k)]))
  obtain ⟨_, _, ⟨T113, L113, k113, n113⟩, -, X113, ⟨Lc113, hQ113, l113, y113, z113⟩, st113⟩ := Jvm.LawKit.callS X93 hx (y := (⟨ς1, "hash", "([I)I"⟩ : MethodName)) hown (mvT hZ (own_w hw 124 rfl)) (mvT hZ (own_w hw 125 rfl)) (mvT hZ (own_w hw 95 rfl)) (mvT hZ (own_w hw 126 rfl)) (by decide) (backOf (W := 0) (ha_rm l Z a0 hw [] (w_k) ((ko_g0 p1 w_P w_D w_K)) T93.heap n0 F95 G94) hZ (own_w hw 126 rfl) (own_w hw 95 rfl) (by decide) (by decide)) (g := (mkF m 13 #[ρ b0, ι p1, ι 15, υ, υ, υ] [(.ref w_k)])) rfl (by rw [hml]; rfl) (argsL := [(.ref w_k)]) (rest := []) (lenOf own_pd2 rfl) rfl (by show 2 * 0 + _ ≤ _; exact Nat.le_of_eq rfl) (hb hby ir_d13) (fun _ _ => ⟨rfl, rfl, (by decide : 0 + 0 ≤ _), (by decide : 0 + 0 ≤ _)⟩)
  dsimp only [Pt.U, Pt.locs, Pt.cells, Pt.slots] at X113 l113 y113 z113 st113 hQ113
  subst l113 y113 z113
  obtain ⟨rfl, N113q, e113⟩ := hQ113
  have N113 := Fr.app N93 N113q
  refine own_st st113 ?_
  show own_Dn p e below s _ _ _ (T113.setTop (mkF m 16 #[ρ b0, ι p1, ι 15, υ, υ, υ] [(.int (ha_f (ko_g0 p1 w_P w_D w_K)))]))
  refine own_st (fun _ k => XS.iloadN X113.here hx rfl (hb hby ir_d16) rfl (XS.iand X113.here hx rfl (hb hby ir_d17) rfl (XS.istoreN X113.here hx rfl (hb hby ir_d18) rfl (l' := #[ρ b0, ι p1, ι 15, .val (.int ((ha_f (ko_g0 p1 w_P w_D w_K)) &&& (15 : Int32))), υ, υ]) rfl k))) ?_
  show own_Dn p e below s _ _ _ (T113.setTop (mkF m 19 #[ρ b0, ι p1, ι 15, .val (.int ((ha_f (ko_g0 p1 w_P w_D w_K)) &&& (15 : Int32))), υ, υ] []))
  exact ir_c19 C0 16 X113 e113 N113 (((ha_f (ko_g0 p1 w_P w_D w_K)) &&& (15 : Int32))) ((ko_g0 p1 w_P w_D w_K)) F95 F96 F97 F98 F99 F100 F101 F102 F103 F104 F105 F106 F107 F108 F109 F110 F111 F112 G94 ge_b0 ge_w_1 ge_w_2 ge_w_k nes0 nes1 nes2 nes3 nes4 nes5 nes6 nes7 nes8 nes9 nes10 nes11 nes12 nes13 nes14 nes15 nes16 hP hF hr hin (own_iD_enter hP hF hr hin) (by rw [hy8, ir_g8]) (by rw [hy9, ir_g9]) (by rw [hy10, ir_g10]) (by rw [hy11, ir_g11])
theorem ir_ef (m : MethodId) (b0 : Addr) (p1 : Int32) : entryFrame m #[(.ref b0), (.int p1)] 6 = mkF m 0 #[.val (.ref b0), .val (.int p1), .unset, .unset, .unset, .unset] [] := by first | (simp [entryFrame, mkF, argsToLocals, Value.category]; done) | rfl
theorem ir_rm (l : Launch) (Z : State) (a0 : Array Value) (hw : ∀ d ∈ tables_1, d.before a0 Z = true) (ws : List Jvm.Cond) (b0 : Addr) (p1 : Int32) (w_r : Addr) (w_p : Addr) (w_d : Addr) (w_P : Nat → Int32) (w_D : Nat → Int32) (w_1 : Addr) (w_2 : Addr) (w_k : Addr) (w_F : Nat → Int32) (w_L : Nat → Int32) (w_K : Nat → Int32) (w_c : Int32) (h0 : Heap) (n0 : Nat) (Z0 : n0 ≤ h0.size) (P0 : Exa Z h0 b0 ς1) (P1 : Fld Z h0 b0 ς1 "this$0" ς2 (.ref w_r)) (P2 : Fld Z h0 b0 ς1 "positions" "[I" (.ref w_p)) (P3 : own_Arf Z h0 w_p .int 1 (fun i => (.int (w_P i)))) (P4 : Exa Z h0 w_r ς0) (P5 : Fld Z h0 w_r ς0 "data" "[I" (.ref w_d)) (P6 : Fld Z h0 w_r ς0 "arity" "I" (.int 1)) (P7 : own_Arf Z h0 w_d .int 16 (fun i => (.int (w_D i)))) (P8 : Fld Z h0 b0 ς1 "firsts" "[I" (.ref w_1)) (P9 : Fld Z h0 b0 ς1 "lasts" "[I" (.ref w_2)) (P10 : Fld Z h0 b0 ς1 "rowKey" "[I" (.ref w_k)) (P11 : Fld Z h0 b0 ς1 "next" "[I" .null) (P12 : Fld Z h0 b0 ς1 "previous" "[I" .null) (P13 : Fld Z h0 b0 ς1 "keys" "I" (.int w_c)) (P14 : own_Arf Z h0 w_1 .int 16 (fun i => (.int (w_F i)))) (P15 : own_Arf Z h0 w_2 .int 16 (fun i => (.int (w_L i)))) (P16 : own_Arf Z h0 w_k .int 1 (fun i => (.int (w_K i)))) (ge_b0 : n0 ≤ b0) (ge_w_1 : n0 ≤ w_1) (ge_w_2 : n0 ≤ w_2) (ge_w_k : n0 ≤ w_k) (nes0 : b0 ≠ w_1) (nes1 : w_r ≠ w_1) (nes2 : w_p ≠ w_1) (nes3 : w_d ≠ w_1) (nes4 : b0 ≠ w_2) (nes5 : w_r ≠ w_2) (nes6 : w_p ≠ w_2) (nes7 : w_d ≠ w_2) (nes8 : b0 ≠ w_k) (nes9 : w_r ≠ w_k) (nes10 : w_p ≠ w_k) (nes11 : w_d ≠ w_k) (nes12 : w_1 ≠ w_2) (nes13 : w_1 ≠ w_k) (nes14 : w_2 ≠ w_k) (nes15 : b0 ≠ w_p) (nes16 : b0 ≠ w_d) (hP : w_P 0 = 0) (hF : own_FB w_F) (hr : 0 ≤ p1.toInt ∧ p1.toInt < 16) (hin : own_In w_F 16 (own_hm (w_D p1.toNatClampNeg)) p1) :
    MetFree l (⟨ς1, "remove", "(I)V"⟩ : MethodName) (head1 (Jvm.Cond.code (⟨ς1, "remove", "(I)V"⟩ : MethodName) prog_24_method_6_code 6 none :: ws) ({ frames := 3, cells := 0, slots := 0, locals := 47 } : Room)) (fun a U => a = #[(.ref b0), (.int p1)] ∧ Z.Warmed39 U.vm ∧ U.heap = h0) (fun _ _ _ _ _ => True) (fun _ U o U' => ∃ v L, o = .returned v ∧ ir_Q Z b0 p1 w_r w_p w_d w_P w_D w_1 w_2 w_k w_F w_L w_K w_c (ir_g8 p1 w_P w_D w_F w_L w_K w_c) (ir_g9 p1 w_P w_D w_F w_L w_K w_c) (ir_g10 p1 w_P w_D w_F w_L w_K w_c) (ir_g11 p1 w_P w_D w_F w_L w_K w_c) h0 n0 v U'.heap L ∧ FrameEnd U o U' L ({ frames := 3, cells := 0, slots := 0, locals := 47 } : Room).cells ({ frames := 3, cells := 0, slots := 0, locals := 47 } : Room).slots) :=
  own_met hw (plainFor_of_name (by first | (simp [plainName, overriddenIn]; done) | decide +kernel)) (fun p e s m below meth c T0 C0 X0 e0 => own_st (fun _ k => castTop (ir_ef m b0 p1) k) (ir_c0 C0 X0 e0 (Fr.nil n0) Z0 P0 P1 P2 P3 P4 P5 P6 P7 P8 P9 P10 P11 P12 P13 P14 P15 P16 ge_b0 ge_w_1 ge_w_2 ge_w_k nes0 nes1 nes2 nes3 nes4 nes5 nes6 nes7 nes8 nes9 nes10 nes11 nes12 nes13 nes14 nes15 nes16 hP hF hr hin rfl rfl rfl rfl))
theorem ti_d0 : decode jdk_49_method_1_code 0 = .ok (.aload_n 0, 1) := by decide +kernel
theorem ti_d1 : decode jdk_49_method_1_code 1 = .ok (.aload_n 1, 1) := by decide +kernel
theorem ti_d2 : decode jdk_49_method_1_code 2 = .ok (.putfield 1, 3) := by decide +kernel
theorem ti_d5 : decode jdk_49_method_1_code 5 = .ok (.aload_n 0, 1) := by decide +kernel
theorem ti_d6 : decode jdk_49_method_1_code 6 = .ok (.invokespecial 7, 3) := by decide +kernel
theorem ti_d9 : decode jdk_49_method_1_code 9 = .ok (.aload_n 0, 1) := by decide +kernel
theorem ti_d10 : decode jdk_49_method_1_code 10 = .ok (.iconst (-1), 1) := by decide +kernel
theorem ti_d11 : decode jdk_49_method_1_code 11 = .ok (.putfield 13, 3) := by decide +kernel
theorem ti_d14 : decode jdk_49_method_1_code 14 = .ok (.aload_n 0, 1) := by decide +kernel
theorem ti_d15 : decode jdk_49_method_1_code 15 = .ok (.aload_n 0, 1) := by decide +kernel
theorem ti_d16 : decode jdk_49_method_1_code 16 = .ok (.getfield 1, 3) := by decide +kernel
theorem ti_d19 : decode jdk_49_method_1_code 19 = .ok (.getfield 17, 3) := by decide +kernel
theorem ti_d22 : decode jdk_49_method_1_code 22 = .ok (.putfield 22, 3) := by decide +kernel
theorem ti_d25 : decode jdk_49_method_1_code 25 = .ok (.return_, 1) := by decide +kernel
def ti_Q (Z : State) (b0 : Addr) (b1 : Addr) (h0 : Heap) (n0 : Nat) (v : Option Value) (h : Heap) (L : List Loc) : Prop := v = none ∧ Fr n0 L ∧ Keep h0 h [b0] ∧ Exa Z h b0 ς7 ∧ Fld Z h b0 ς7 "this$0" "Ljava/util/ArrayList;" (.ref b1) ∧ Fld Z h b0 ς7 "cursor" "I" (.int 0)
set_option maxRecDepth 65536 in
set_option maxHeartbeats 40000000 in
theorem ti_c0 {b0 : Addr} {b1 : Addr} {locs : List Loc} (C0 : own_Cx p s m meth c Z a0 jdk_49_method_1_code 2 ς7 "<init>" none) (X0 : Stand p l e ({ frames := 1, cells := 0, slots := 0, locals := 12 } : Room) s m args below meth c T0 locs 0 0) (e0 : T0.heap = h0) (N0 : Fr n0 locs)  (Z0 : n0 ≤ h0.size) (P0 : Exa Z h0 b0 ς7) (P1 : Fld Z h0 b0 ς7 "this$0" "Ljava/util/ArrayList;" .null) (P2 : Fld Z h0 b0 ς7 "lastRet" "I" (.int 0)) (P3 : Fld Z h0 b0 ς7 "expectedModCount" "I" (.int 0)) (P4 : Fld Z h0 b0 ς7 "cursor" "I" (.int 0)) (P5 : Exa Z h0 b1 ς3) (P6 : Fld Z h0 b1 ς6 "modCount" "I" (.int 0)) (ge_b0 : n0 ≤ b0) :
    own_Dn p e below s (ti_Q Z b0 b1 h0 n0) ({ frames := 1, cells := 0, slots := 0, locals := 12 } : Room).cells ({ frames := 1, cells := 0, slots := 0, locals := 12 } : Room).slots (T0.setTop (mkF m 0 #[ρ b0, ρ b1] [])) := by
  obtain ⟨hx, hZ, hw, hby, hml, hown, hret, hlk, hnm⟩ := id C0
  refine own_st (fun _ k => XS.aloadN X0.here hx rfl (hb hby ti_d0) rfl rfl (XS.aloadN X0.here hx rfl (hb hby ti_d1) rfl rfl k)) ?_
  show own_Dn p e below s _ _ _ (T0.setTop (mkF m 2 #[ρ b0, ρ b1] [(.ref b1), (.ref b0)]))
  obtain ⟨T34, h34, X34, e34, W34, st34⟩ := putF X0 hx hZ hown (host := "") (Or.inl (own_w hw 175 rfl)) Via.refl e0 P1 P0 (Or.inr ⟨(own_w hw 176 rfl), rfl, hnm⟩) (own_w hw 169 rfl) (ty := (.object ς3)) (v := (.ref b1)) (by decide) rfl rfl (g := (mkF m 2 #[ρ b0, ρ b1] [(.ref b1), (.ref b0)])) rfl rfl (hb hby ti_d2)
  have N34 := Fr.snoc X34 N0 ge_b0
  have F35 : n0 ≤ h34.size := Nat.le_trans Z0 (Keep.of_wr W34).1
  have F36 := P0.wr W34
  have F37 : Fld Z h34 b0 ς7 "this$0" "Ljava/util/ArrayList;" (.ref b1) := P1.same W34
  have F38 := P2.other W34 (Or.inr (slot_ne (Or.inl (own_w hw 179 rfl)) (Or.inr (own_w hw 176 rfl)) (by decide) (t := .int) (t' := (.object ς3)) (by decide) (by decide)))
  have F39 := P3.other W34 (Or.inr (slot_ne (Or.inl (own_w hw 183 rfl)) (Or.inr (own_w hw 176 rfl)) (by decide) (t := .int) (t' := (.object ς3)) (by decide) (by decide)))
  have F40 := P4.other W34 (Or.inr (slot_ne (Or.inl (own_w hw 194 rfl)) (Or.inr (own_w hw 176 rfl)) (by decide) (t := .int) (t' := (.object ς3)) (by decide) (by decide)))
  have F41 := P5.wr W34
  have F42 := P6.other W34 (Or.inl (ne_exa P5 P0 (by decide)))
  have F43 : Keep h0 h34 [b0] := (Keep.refl h0 [b0]).wr W34 (Or.inl (List.mem_of_getElem? (i := 0) rfl))
  refine own_st st34 ?_
  show own_Dn p e below s _ _ _ (T34.setTop (mkF m 5 #[ρ b0, ρ b1] []))
  refine own_st (fun _ k => XS.aloadN X34.here hx rfl (hb hby ti_d5) rfl rfl k) ?_
  show own_Dn p e below s _ _ _ (T34.setTop (mkF m 6 #[ρ b0, ρ b1] [(.ref b0)]))
  obtain ⟨T44, X44, e44, st44⟩ := initO X34 hx hZ hown (own_w hw 177 rfl) (own_w hw 24 rfl) (own_w hw 25 rfl) e34 (g := (mkF m 6 #[ρ b0, ρ b1] [(.ref b0)])) rfl (by rw [hml]; rfl) rfl (hb hby ti_d6) (by decide) (W := 0) (by show 2 * 0 + _ ≤ _; exact Nat.le_of_eq rfl) (by decide)
  refine own_st st44 ?_
  show own_Dn p e below s _ _ _ (T44.setTop (mkF m 9 #[ρ b0, ρ b1] []))
  refine own_st (fun _ k => XS.aloadN X44.here hx rfl (hb hby ti_d9) rfl rfl (XS.iconst X44.here hx rfl (hb hby ti_d10) k)) ?_
  show own_Dn p e below s _ _ _ (T44.setTop (mkF m 11 #[ρ b0, ρ b1] [(.int (-1 : Int32)), (.ref b0)]))
  obtain ⟨T45, h45, X45, e45, W45, st45⟩ := putF X44 hx hZ hown (host := "") (Or.inl (own_w hw 178 rfl)) Via.refl e44 F38 F36 (Or.inl (own_w hw 179 rfl)) (own_w hw 169 rfl) (ty := .int) (v := (.int (-1 : Int32))) (by decide) rfl rfl (g := (mkF m 11 #[ρ b0, ρ b1] [(.int (-1 : Int32)), (.ref b0)])) rfl rfl (hb hby ti_d11)
  have N45 := Fr.snoc X45 N34 ge_b0
  have F46 : n0 ≤ h45.size := Nat.le_trans F35 (Keep.of_wr W45).1
  have F47 := F36.wr W45
  have F48 := F37.other W45 (Or.inr (slot_ne (Or.inr (own_w hw 176 rfl)) (Or.inl (own_w hw 179 rfl)) (by decide) (t := (.object ς3)) (t' := .int) (by decide) (by decide)))
  have F49 : Fld Z h45 b0 ς7 "lastRet" "I" (.int (-1 : Int32)) := F38.same W45
  have F50 := F39.other W45 (Or.inr (slot_ne (Or.inl (own_w hw 183 rfl)) (Or.inl (own_w hw 179 rfl)) (by decide) (t := .int) (t' := .int) (by decide) (by decide)))
  have F51 := F40.other W45 (Or.inr (slot_ne (Or.inl (own_w hw 194 rfl)) (Or.inl (own_w hw 179 rfl)) (by decide) (t := .int) (t' := .int) (by decide) (by decide)))
  have F52 := F41.wr W45
  have F53 := F42.other W45 (Or.inl (ne_exa F41 F36 (by decide)))
  have F54 : Keep h0 h45 [b0] := F43.wr W45 (Or.inl (List.mem_of_getElem? (i := 0) rfl))
  refine own_st st45 ?_
  show own_Dn p e below s _ _ _ (T45.setTop (mkF m 14 #[ρ b0, ρ b1] []))
  refine own_st (fun _ k => XS.aloadN X45.here hx rfl (hb hby ti_d14) rfl rfl (XS.aloadN X45.here hx rfl (hb hby ti_d15) rfl rfl k)) ?_
  show own_Dn p e below s _ _ _ (T45.setTop (mkF m 16 #[ρ b0, ρ b1] [(.ref b0), (.ref b0)]))
  obtain ⟨T55, X55, e55, st55⟩ := getF X45 hx hZ hown (host := "") (Or.inl (own_w hw 175 rfl)) Via.refl e45 F48 (g := (mkF m 16 #[ρ b0, ρ b1] [(.ref b0), (.ref b0)])) rfl rfl (hb hby ti_d16)
  refine own_st st55 ?_
  show own_Dn p e below s _ _ _ (T55.setTop (mkF m 19 #[ρ b0, ρ b1] [(.ref b1), (.ref b0)]))
  obtain ⟨T56, X56, e56, st56⟩ := getF X55 hx hZ hown (host := "") (Or.inl (own_w hw 180 rfl)) (Via.of (own_w hw 181 rfl)) e55 F53 (g := (mkF m 19 #[ρ b0, ρ b1] [(.ref b1), (.ref b0)])) rfl rfl (hb hby ti_d19)
  refine own_st st56 ?_
  show own_Dn p e below s _ _ _ (T56.setTop (mkF m 22 #[ρ b0, ρ b1] [(.int 0), (.ref b0)]))
  obtain ⟨T57, h57, X57, e57, W57, st57⟩ := putF X56 hx hZ hown (host := "") (Or.inl (own_w hw 182 rfl)) Via.refl e56 F50 F47 (Or.inl (own_w hw 183 rfl)) (own_w hw 169 rfl) (ty := .int) (v := (.int 0)) (by decide) rfl rfl (g := (mkF m 22 #[ρ b0, ρ b1] [(.int 0), (.ref b0)])) rfl rfl (hb hby ti_d22)
  have N57 := Fr.snoc X57 N45 ge_b0
  have F58 : n0 ≤ h57.size := Nat.le_trans F46 (Keep.of_wr W57).1
  have F59 := F47.wr W57
  have F60 := F48.other W57 (Or.inr (slot_ne (Or.inr (own_w hw 176 rfl)) (Or.inl (own_w hw 183 rfl)) (by decide) (t := (.object ς3)) (t' := .int) (by decide) (by decide)))
  have F61 := F49.other W57 (Or.inr (slot_ne (Or.inl (own_w hw 179 rfl)) (Or.inl (own_w hw 183 rfl)) (by decide) (t := .int) (t' := .int) (by decide) (by decide)))
  have F62 : Fld Z h57 b0 ς7 "expectedModCount" "I" (.int 0) := F50.same W57
  have F63 := F51.other W57 (Or.inr (slot_ne (Or.inl (own_w hw 194 rfl)) (Or.inl (own_w hw 183 rfl)) (by decide) (t := .int) (t' := .int) (by decide) (by decide)))
  have F64 := F52.wr W57
  have F65 := F53.other W57 (Or.inl (ne_exa F52 F47 (by decide)))
  have F66 : Keep h0 h57 [b0] := F54.wr W57 (Or.inl (List.mem_of_getElem? (i := 0) rfl))
  refine own_st st57 ?_
  show own_Dn p e below s _ _ _ (T57.setTop (mkF m 25 #[ρ b0, ρ b1] []))
  have eqH : T57.heap = h57 := e57
  exact own_retV X57 hx hret hlk (hb hby ti_d25) (by decide) (by decide) (by rw [eqH]; exact ⟨rfl, N57, F66, F59, F60, F63⟩)
theorem ti_ef (m : MethodId) (b0 : Addr) (b1 : Addr) : entryFrame m #[(.ref b0), (.ref b1)] 2 = mkF m 0 #[.val (.ref b0), .val (.ref b1)] [] := by first | (simp [entryFrame, mkF, argsToLocals, Value.category]; done) | rfl
theorem ti_rm (l : Launch) (Z : State) (a0 : Array Value) (hw : ∀ d ∈ tables_1, d.before a0 Z = true) (ws : List Jvm.Cond) (b0 : Addr) (b1 : Addr) (h0 : Heap) (n0 : Nat) (Z0 : n0 ≤ h0.size) (P0 : Exa Z h0 b0 ς7) (P1 : Fld Z h0 b0 ς7 "this$0" "Ljava/util/ArrayList;" .null) (P2 : Fld Z h0 b0 ς7 "lastRet" "I" (.int 0)) (P3 : Fld Z h0 b0 ς7 "expectedModCount" "I" (.int 0)) (P4 : Fld Z h0 b0 ς7 "cursor" "I" (.int 0)) (P5 : Exa Z h0 b1 ς3) (P6 : Fld Z h0 b1 ς6 "modCount" "I" (.int 0)) (ge_b0 : n0 ≤ b0) :
    MetFree l (⟨ς7, "<init>", "(Ljava/util/ArrayList;)V"⟩ : MethodName) (head1 (Jvm.Cond.code (⟨ς7, "<init>", "(Ljava/util/ArrayList;)V"⟩ : MethodName) jdk_49_method_1_code 2 none :: ws) ({ frames := 1, cells := 0, slots := 0, locals := 12 } : Room)) (fun a U => a = #[(.ref b0), (.ref b1)] ∧ Z.Warmed39 U.vm ∧ U.heap = h0) (fun _ _ _ _ _ => True) (fun _ U o U' => ∃ v L, o = .returned v ∧ (ti_Q Z b0 b1 h0 n0) v U'.heap L ∧ FrameEnd U o U' L ({ frames := 1, cells := 0, slots := 0, locals := 12 } : Room).cells ({ frames := 1, cells := 0, slots := 0, locals := 12 } : Room).slots) :=
  own_met hw (plainFor_of_name (by first | (simp [plainName, overriddenIn]; done) | decide +kernel)) (fun p e s m below meth c T0 C0 X0 e0 => own_st (fun _ k => castTop (ti_ef m b0 b1) k) (ti_c0 C0 X0 e0 (Fr.nil n0) Z0 P0 P1 P2 P3 P4 P5 P6 ge_b0))
theorem it_d0 : decode jdk_38_method_55_code 0 = .ok (.new 267, 3) := by decide +kernel
theorem it_d3 : decode jdk_38_method_55_code 3 = .ok (.dup, 1) := by decide +kernel
theorem it_d4 : decode jdk_38_method_55_code 4 = .ok (.aload_n 0, 1) := by decide +kernel
theorem it_d5 : decode jdk_38_method_55_code 5 = .ok (.invokespecial 269, 3) := by decide +kernel
theorem it_d8 : decode jdk_38_method_55_code 8 = .ok (.areturn, 1) := by decide +kernel
def it_Q (Z : State) (b0 : Addr) (h0 : Heap) (n0 : Nat) (v : Option Value) (h : Heap) (L : List Loc) : Prop := ∃ r : Addr, v = some (.ref r) ∧ n0 ≤ r ∧ h0.size ≤ r ∧ Fr n0 L ∧ Keep h0 h [] ∧ Exa Z h r ς7 ∧ Fld Z h r ς7 "this$0" "Ljava/util/ArrayList;" (.ref b0) ∧ Fld Z h r ς7 "cursor" "I" (.int 0)
set_option maxRecDepth 65536 in
set_option maxHeartbeats 40000000 in
theorem it_c0 {b0 : Addr} {locs : List Loc} (C0 : own_Cx p s m meth c Z a0 jdk_38_method_55_code 1 ς3 "iterator" (some (.object "java/util/Iterator"))) (X0 : Stand p l e ({ frames := 2, cells := 1, slots := 4, locals := 26 } : Room) s m args below meth c T0 locs 0 0) (e0 : T0.heap = h0) (N0 : Fr n0 locs)  (Z0 : n0 ≤ h0.size) (P0 : Exa Z h0 b0 ς3) (P1 : Fld Z h0 b0 ς6 "modCount" "I" (.int 0)) :
    own_Dn p e below s (it_Q Z b0 h0 n0) ({ frames := 2, cells := 1, slots := 4, locals := 26 } : Room).cells ({ frames := 2, cells := 1, slots := 4, locals := 26 } : Room).slots (T0.setTop (mkF m 0 #[ρ b0] [])) := by
  obtain ⟨hx, hZ, hw, hby, hml, hown, hret, hlk, hnm⟩ := id C0
  obtain ⟨T22, h22, X22, e22, E22, A22, D22, -, st22⟩ := newO X0 hx hZ hown (own_w hw 168 rfl) (own_w hw 169 rfl) (own_w hw 170 rfl) e0 (g := (mkF m 0 #[ρ b0] [])) rfl (hb hby it_d0) (by decide) (by decide)
  obtain ⟨o0, g22⟩ : ∃ z, z = h0.size := ⟨_, rfl⟩
  rw [← g22] at A22 D22 st22
  have ne23 : b0 ≠ o0 := Nat.ne_of_lt (Nat.lt_of_lt_of_le P0.lt (Nat.le_of_eq g22.symm))
  have ge24 : n0 ≤ o0 := Nat.le_trans Z0 (Nat.le_of_eq g22.symm)
  have gh25 : h0.size ≤ o0 := Nat.le_trans (Keep.refl h0 []).1 (Nat.le_of_eq g22.symm)
  have F26 : n0 ≤ h22.size := Nat.le_trans Z0 E22.1
  have F27 := P0.ext E22
  have F28 := P1.ext E22
  have F29 : Keep h0 h22 [] := (Keep.refl h0 []).ext E22
  have F30 : Fld Z h22 o0 ς7 "this$0" "Ljava/util/ArrayList;" .null := D22 (Or.inr (own_w hw 176 rfl)) (ty := (.object ς3)) (by decide)
  have F31 : Fld Z h22 o0 ς7 "lastRet" "I" (.int 0) := D22 (Or.inl (own_w hw 179 rfl)) (ty := .int) (by decide)
  have F32 : Fld Z h22 o0 ς7 "expectedModCount" "I" (.int 0) := D22 (Or.inl (own_w hw 183 rfl)) (ty := .int) (by decide)
  have F33 : Fld Z h22 o0 ς7 "cursor" "I" (.int 0) := D22 (Or.inl (own_w hw 194 rfl)) (ty := .int) (by decide)
  refine own_st st22 ?_
  show own_Dn p e below s _ _ _ (T22.setTop (mkF m 3 #[ρ b0] [(.ref o0)]))
  refine own_st (fun _ k => XS.dup X22.here hx rfl (hb hby it_d3) rfl rfl (XS.aloadN X22.here hx rfl (hb hby it_d4) rfl rfl k)) ?_
  show own_Dn p e below s _ _ _ (T22.setTop (mkF m 5 #[ρ b0] [(.ref b0), (.ref o0), (.ref o0)]))
  obtain ⟨_, _, ⟨T34, L34, k34, n34⟩, -, X34, ⟨Lc34, hQ34, l34, y34, z34⟩, st34⟩ := X22.specialBack hx (y := (⟨ς7, "<init>", "(Ljava/util/ArrayList;)V"⟩ : MethodName)) rfl hown (mvT hZ (own_w hw 171 rfl)) (mvT hZ (own_w hw 172 rfl)) (mvT hZ (own_w hw 174 rfl)) (by decide) (backOf (W := 1) (ti_rm l Z a0 hw [] (o0) (b0) h22 n0 F26 A22 F30 F31 F32 F33 F27 F28 ge24) hZ (own_w hw 174 rfl) (own_w hw 170 rfl) (by decide) (by decide)) (g := (mkF m 5 #[ρ b0] [(.ref b0), (.ref o0), (.ref o0)])) rfl (by rw [hml]; rfl) (Steps.refl _) (a := o0) (argsL := [(.ref b0)]) (rest := [(.ref o0)]) (lenOf own_pd6 rfl) rfl (by show 2 * 0 + _ ≤ _; exact Nat.le_of_eq rfl) (hb hby it_d5) (fun _ _ => ⟨rfl, e22, (by decide : 1 + 0 ≤ _), (by decide : 4 + 0 ≤ _)⟩)
  dsimp only [Pt.U, Pt.locs, Pt.cells, Pt.slots] at X34 l34 y34 z34 st34 hQ34
  subst l34 y34 z34
  obtain ⟨rfl, N34q, K34, G35, G36, G37⟩ := hQ34
  have F38 : n0 ≤ T34.heap.size := Nat.le_trans F26 K34.1
  have F39 := F27.keep K34
  have F40 := F28.keep K34 (ninS ne23 nin0)
  have F41 : Keep h0 T34.heap [] := F29.trans K34 (allS (Or.inr gh25) all0)
  have F42 := A22.keep K34
  have N34 := Fr.app N0 N34q
  refine own_tr st34 ?_
  show own_Dn p e below s _ _ _ (T34.setTop (mkF m 8 #[ρ b0] [(.ref o0)]))
  have eqH : T34.heap = T34.heap := rfl
  exact own_retA X34 hx rfl hret hlk rfl rfl (hb hby it_d8) (by decide) (by decide) (by rw [eqH]; exact ⟨o0, rfl, ge24, gh25, N34, F41, G35, G36, G37⟩)
theorem it_ef (m : MethodId) (b0 : Addr) : entryFrame m #[(.ref b0)] 1 = mkF m 0 #[.val (.ref b0)] [] := by first | (simp [entryFrame, mkF, argsToLocals, Value.category]; done) | rfl
theorem it_rm (l : Launch) (Z : State) (a0 : Array Value) (hw : ∀ d ∈ tables_1, d.before a0 Z = true) (ws : List Jvm.Cond) (b0 : Addr) (h0 : Heap) (n0 : Nat) (Z0 : n0 ≤ h0.size) (P0 : Exa Z h0 b0 ς3) (P1 : Fld Z h0 b0 ς6 "modCount" "I" (.int 0)) :
    MetFree l (⟨ς3, "iterator", "()Ljava/util/Iterator;"⟩ : MethodName) (head1 (Jvm.Cond.code (⟨ς3, "iterator", "()Ljava/util/Iterator;"⟩ : MethodName) jdk_38_method_55_code 1 (some (.object "java/util/Iterator")) :: ws) ({ frames := 2, cells := 1, slots := 4, locals := 26 } : Room)) (fun a U => a = #[(.ref b0)] ∧ Z.Warmed39 U.vm ∧ U.heap = h0) (fun _ _ _ _ _ => True) (fun _ U o U' => ∃ v L, o = .returned v ∧ (it_Q Z b0 h0 n0) v U'.heap L ∧ FrameEnd U o U' L ({ frames := 2, cells := 1, slots := 4, locals := 26 } : Room).cells ({ frames := 2, cells := 1, slots := 4, locals := 26 } : Room).slots) :=
  own_met hw (plainFor_of_name (by first | (simp [plainName, overriddenIn]; done) | decide +kernel)) (fun p e s m below meth c T0 C0 X0 e0 => own_st (fun _ k => castTop (it_ef m b0) k) (it_c0 C0 X0 e0 (Fr.nil n0) Z0 P0 P1))
theorem hn_d0 : decode jdk_49_method_2_code 0 = .ok (.aload_n 0, 1) := by decide +kernel
theorem hn_d1 : decode jdk_49_method_2_code 1 = .ok (.getfield 25, 3) := by decide +kernel
theorem hn_d4 : decode jdk_49_method_2_code 4 = .ok (.aload_n 0, 1) := by decide +kernel
theorem hn_d5 : decode jdk_49_method_2_code 5 = .ok (.getfield 1, 3) := by decide +kernel
theorem hn_d8 : decode jdk_49_method_2_code 8 = .ok (.getfield 28, 3) := by decide +kernel
theorem hn_d11 : decode jdk_49_method_2_code 11 = .ok (.if_icmp .eq 7, 3) := by decide +kernel
theorem hn_d18 : decode jdk_49_method_2_code 18 = .ok (.iconst 0, 1) := by decide +kernel
theorem hn_d19 : decode jdk_49_method_2_code 19 = .ok (.ireturn, 1) := by decide +kernel
def hn_f   : Int32 :=
  (0 : Int32)
set_option maxRecDepth 65536 in
set_option maxHeartbeats 40000000 in
theorem hn_c0 {b0 : Addr} {w_l : Addr} {locs : List Loc} {r0 : Int32} (C0 : own_Cx p s m meth c Z a0 jdk_49_method_2_code 1 ς7 "hasNext" (some .boolean)) (X0 : Stand p l e ({ frames := 0, cells := 0, slots := 0, locals := 0 } : Room) s m args below meth c T0 locs 0 0) (e0 : T0.heap = h0) (N0 : Fr n0 locs)  (Z0 : n0 ≤ h0.size) (P0 : Fld Z h0 b0 ς7 "cursor" "I" (.int 0)) (P1 : Fld Z h0 b0 ς7 "this$0" "Ljava/util/ArrayList;" (.ref w_l)) (P2 : Fld Z h0 w_l ς3 "size" "I" (.int 0)) (hr0 : r0 = hn_f  ) :
    own_Dn p e below s (own_Q (some (.int r0)) n0 h0) ({ frames := 0, cells := 0, slots := 0, locals := 0 } : Room).cells ({ frames := 0, cells := 0, slots := 0, locals := 0 } : Room).slots (T0.setTop (mkF m 0 #[ρ b0] [])) := by
  obtain ⟨hx, hZ, hw, hby, hml, hown, hret, hlk, hnm⟩ := id C0
  refine own_st (fun _ k => XS.aloadN X0.here hx rfl (hb hby hn_d0) rfl rfl k) ?_
  show own_Dn p e below s _ _ _ (T0.setTop (mkF m 1 #[ρ b0] [(.ref b0)]))
  obtain ⟨T4, X4, e4, st4⟩ := getF X0 hx hZ hown (host := "") (Or.inl (own_w hw 193 rfl)) Via.refl e0 P0 (g := (mkF m 1 #[ρ b0] [(.ref b0)])) rfl rfl (hb hby hn_d1)
  refine own_st st4 ?_
  show own_Dn p e below s _ _ _ (T4.setTop (mkF m 4 #[ρ b0] [(.int 0)]))
  refine own_st (fun _ k => XS.aloadN X4.here hx rfl (hb hby hn_d4) rfl rfl k) ?_
  show own_Dn p e below s _ _ _ (T4.setTop (mkF m 5 #[ρ b0] [(.ref b0), (.int 0)]))
  obtain ⟨T5, X5, e5, st5⟩ := getF X4 hx hZ hown (host := "") (Or.inl (own_w hw 175 rfl)) Via.refl e4 P1 (g := (mkF m 5 #[ρ b0] [(.ref b0), (.int 0)])) rfl rfl (hb hby hn_d5)
  refine own_st st5 ?_
  show own_Dn p e below s _ _ _ (T5.setTop (mkF m 8 #[ρ b0] [(.ref w_l), (.int 0)]))
  obtain ⟨T6, X6, e6, st6⟩ := getF X5 hx hZ hown (Or.inr (own_w hw 195 rfl)) Via.refl e5 P2 (g := (mkF m 8 #[ρ b0] [(.ref w_l), (.int 0)])) rfl rfl (hb hby hn_d8)
  refine own_st st6 ?_
  show own_Dn p e below s _ _ _ (T6.setTop (mkF m 11 #[ρ b0] [(.int 0), (.int 0)]))
  refine own_st (fun _ k => XS.icmpYes X6.here hx rfl (pc0 := 11) (pc' := 18) rfl (hb hby hn_d11) rfl (teq (by decide : (0 : Int32) = (0 : Int32))).1 (by decide) (by decide) k) ?_
  show own_Dn p e below s _ _ _ (T6.setTop (mkF m 18 #[ρ b0] []))
  refine own_st (fun _ k => XS.iconst X6.here hx rfl (hb hby hn_d18) k) ?_
  show own_Dn p e below s _ _ _ (T6.setTop (mkF m 19 #[ρ b0] [(.int 0)]))
  exact own_retZ X6 hx hret hlk (by decide) (hb hby hn_d19) (by decide) (by decide) ⟨(by rw [hr0, hn_f]), N0, e6⟩
theorem hn_ef (m : MethodId) (b0 : Addr) : entryFrame m #[(.ref b0)] 1 = mkF m 0 #[.val (.ref b0)] [] := by first | (simp [entryFrame, mkF, argsToLocals, Value.category]; done) | rfl
theorem hn_rm (l : Launch) (Z : State) (a0 : Array Value) (hw : ∀ d ∈ tables_1, d.before a0 Z = true) (ws : List Jvm.Cond) (b0 : Addr) (w_l : Addr) (h0 : Heap) (n0 : Nat) (Z0 : n0 ≤ h0.size) (P0 : Fld Z h0 b0 ς7 "cursor" "I" (.int 0)) (P1 : Fld Z h0 b0 ς7 "this$0" "Ljava/util/ArrayList;" (.ref w_l)) (P2 : Fld Z h0 w_l ς3 "size" "I" (.int 0)) :
    MetFree l (⟨ς7, "hasNext", "()Z"⟩ : MethodName) (head1 (Jvm.Cond.code (⟨ς7, "hasNext", "()Z"⟩ : MethodName) jdk_49_method_2_code 1 (some .boolean) :: ws) ({ frames := 0, cells := 0, slots := 0, locals := 0 } : Room)) (fun a U => a = #[(.ref b0)] ∧ Z.Warmed39 U.vm ∧ U.heap = h0) (fun _ _ _ _ _ => True) (fun _ U o U' => ∃ v L, o = .returned v ∧ (own_Q (some (.int (hn_f ))) n0 h0) v U'.heap L ∧ FrameEnd U o U' L ({ frames := 0, cells := 0, slots := 0, locals := 0 } : Room).cells ({ frames := 0, cells := 0, slots := 0, locals := 0 } : Room).slots) :=
  own_met hw (plainFor_of_name (by first | (simp [plainName, overriddenIn]; done) | decide +kernel)) (fun p e s m below meth c T0 C0 X0 e0 => own_st (fun _ k => castTop (hn_ef m b0) k) (hn_c0 C0 X0 e0 (Fr.nil n0) Z0 P0 P1 P2 rfl))
def own_RA (F D : Nat → Int32) (s x c : Int32) : Prop := own_FB F ∧ (0 ≤ s.toInt ∧ s.toInt < 4) ∧ (∀ i, i < 16 → (F i).toInt ≤ s.toInt) ∧ (∀ i, i < 16 → ¬ F i = 0 → ¬ D ((F i) - (1 : Int32)).toNatClampNeg = x) ∧ (0 ≤ c.toInt ∧ c.toInt ≤ 4)
theorem own_RA_r {F D : Nat → Int32} {s x c : Int32} (h : own_RA F D s x c) : 0 ≤ s.toInt ∧ s.toInt < 16 := by have := h.2.1; omega
theorem own_fs15 {F D P K : Nat → Int32} (hP : P 0 = 0) (hF : ∀ i, i < 16 → ¬ F i = 0 → ¬ D ((F i) - (1 : Int32)).toNatClampNeg = K 0) : ∀ (k : Nat) (v : Int32), own_iF k F v → fs_f15 k P D F K v = (-1 : Int32)
  | 0, _, h => absurd h own_iF_zero
  | k + 1, v, h => by
    rw [fs_f15]
    by_cases hc : (F v.toNatClampNeg) = (0 : Int32)
    · rw [if_pos hc]
    · have e : (hk_f ((F v.toNatClampNeg) - (1 : Int32)) P D K) = (0 : Int32) := by
        rw [hk_f, own_z0, gt_f, ← own_z0, own_ix hP, own_z0, if_neg (hF _ (own_iF_b h).2 hc)]
      rw [if_neg hc, if_pos e]
      exact own_fs15 hP hF k _ (own_iF_step h hc)
theorem own_fst {F D P K : Nat → Int32} {s c : Int32} (hP : P 0 = 0) (h : own_RA F D s (K 0) c) : (fs_f P D F K) < (0 : Int32) := by
  rw [fs_f, own_fs15 hP h.2.2.2.1 16 _ (own_iF_enter _ h.1)]; decide
theorem own_RA_fit {F D : Nat → Int32} {s x c : Int32} (h : own_RA F D s x c) : ¬ ((16 : Int32) < ((s + (1 : Int32)) * (1 : Int32))) := by
  have b := own_r1 (own_RA_r h)
  rw [Int32.mul_one]
  simp only [Int32.lt_iff_toInt_lt, Int32.reduceToInt]
  have := h.2.1; omega
theorem own_RA_keys {F D : Nat → Int32} {s x c : Int32} (h : own_RA F D s x c) : ¬ ((16 : Int32) < ((c + (1 : Int32)) * (2 : Int32))) := by
  have e := c_iadd c 1
  have r := rng32 (c + 1)
  have f := c_imul (c + 1) 2
  have r2 := rng32 ((c + 1) * 2)
  simp only [Int32.reduceToInt] at e f
  simp only [Int32.lt_iff_toInt_lt, Int32.reduceToInt]
  have := h.2.2.2.2; omega
theorem own_RA_nd {F D : Nat → Int32} {s x c : Int32} (h : own_RA F D s x c) : own_ND F (own_upd D ((s * (1 : Int32))).toNatClampNeg x) s := by
  intro i hi hc
  have b := h.1.1 i hi
  have g := h.2.2.1 i hi
  have e := c_isub (F i) 1
  have r := rng32 ((F i) - 1)
  have z : (F i).toInt ≠ 0 := fun q => hc (Int32.toInt_inj.mp (by rw [q]; decide))
  simp only [Int32.reduceToInt] at e
  have hs := h.2.1
  have ne : ((F i) - (1 : Int32)).toNatClampNeg ≠ s.toNatClampNeg := by simp only [Int32.toNatClampNeg]; omega
  rw [Int32.mul_one, own_upd, own_upd, if_neg ne, if_pos rfl]
  exact h.2.2.2.1 i hi hc
theorem own_RA_s16 {F D : Nat → Int32} {s x c : Int32} (h : own_RA F D s x c) : ¬ (s = (16 : Int32)) := fun q => by
  have := h.2.1
  rw [q] at this
  exact absurd this (by decide)
theorem own_Arf.arvI {Z : State} {h : Heap} {a : Addr} {n : Nat} {g : Nat → Int32} (F : own_Arf Z h a .int n (fun i => .int (g i))) : ∃ k, Arv Z h a k .int n.toInt32 ((List.range n).map fun i => Value.int (g i)) (.int 0) := by
  obtain ⟨c, A, hs, hn, hf⟩ := F
  have e : n.toInt32.toInt = n := len_toInt hn
  have e2 : n.toInt32.toNatClampNeg = n := by simp only [Int32.toNatClampNeg]; omega
  refine ⟨c.cls, c, A, rfl, by rw [hs, e2], own_nn (by omega), fun k hk => ?_, fun i hi => ?_⟩
  · rw [hf k (by omega)]
    simp [List.getD, show k < n by omega]
  · simp [List.getD, show i < n by omega, fits]
theorem own_acopy1 {p : Program} {l : Launch} {e : Env} {R : Room} {s : State} {m : MethodId} {args : Array Value} {below : List Frame} {meth : Method} {c : Code} {T : State} {locs : List Loc} {cells slots : Nat} {Z : State} {h : Heap} {a b : Addr}
    (X : Stand p l e R s m args below meth c T locs cells slots) (hx : p.tables.exec = Jvm.exec) (hZ : Z.Warmed39 s.vm) {a0 : Array Value} {own : String} {index : Nat} (hown : s.vm.findClass own = some m.cls)
    (w1 : (Cond.methodLink own index Jvm.Stand.acN).before a0 Z = true) (w2 : (Cond.native Jvm.Stand.acN).before a0 Z = true) (w3 : (Cond.static Jvm.Stand.acN).before a0 Z = true) (w4 : (Cond.initialized "java/lang/System").before a0 Z = true) (eT : T.heap = h)
    {f f' : Nat → Int32} (A : own_Arf Z h a .int 1 (fun i => .int (f i))) (B : own_Arf Z h b .int 16 (fun i => .int (f' i))) {dp : Int32} (hdp : 0 ≤ dp.toInt ∧ dp.toInt < 16) {n0 : Nat} (N : Fr n0 locs) (ge : n0 ≤ b)
    {g : JFrame} (hg : g.method = m) (hsize : g.locals.size = c.maxLocals) {rest : List Value} (hs : g.stack = .int 1 :: .int dp :: .ref b :: .int 0 :: .ref a :: rest) (hd : decode c.code g.pc = .ok (.invokestatic index, 3))
    (hf : 1 ≤ R.frames) {W : Nat} (hW : 2 * g.monitorRoom + (rest.map fun v => v.category).sum ≤ W) (hlo : W + (nativeFrameWords "java/lang/System" "arraycopy" 5 + 11) ≤ R.locals) :
    ∃ T' h' L, Stand p l e R s m args below meth c T' L cells slots ∧ T'.heap = h' ∧ Fr n0 L ∧ Keep h h' [b] ∧ own_Arf Z h' b .int 16 (fun i => .int (own_upd f' dp.toNatClampNeg (f 0) i)) ∧
      ∀ target, Steps p.tables e below (T'.setTop { g with pc := g.pc + 3, stack := rest }) target → Steps p.tables e below (T.setTop g) target := by
  obtain ⟨k, A'⟩ := A.arvI
  obtain ⟨k', B'⟩ := B.arvI
  have z0 : (0 : Int32).toNatClampNeg = 0 := by decide
  have z1 : (1 : Int32).toNatClampNeg = 1 := by decide
  have n1 : (1 : Nat).toInt32.toNatClampNeg = 1 := by decide
  have n16 : (16 : Nat).toInt32.toNatClampNeg = 16 := by decide
  have hl := own_lt16 hdp
  obtain ⟨T', h', L, X', e', N', K', C, st⟩ := cpA X hx hZ hown w1 w2 w3 w4 eT A' B' (sp := 0) (dp := dp) (nn := 1) (us := [Value.int (f 0)]) (Or.inl ⟨rfl, rfl⟩) (by decide) (own_nn hdp.1) (by decide) (by rw [z0, z1, n1]; decide) (by rw [z1, n16]; omega) (by rw [z0, z1]; rfl) (by rw [z1]; simp; omega) N ge hg hsize hs hd hf hW hlo
  refine ⟨T', h', L, X', e', N', K', ?_, st⟩
  obtain ⟨cc, AA, -, S, -, H, -⟩ := C
  refine ⟨cc, AA, by rw [S, n16], by decide, fun i hi => ?_⟩
  rw [H i (by rw [S, n16]; exact hi), z1]
  simp only [own_upd]
  by_cases q : i = dp.toNatClampNeg
  · subst q
    rw [if_pos rfl]
    simp [List.getD, List.getElem?_append, hl, Nat.min_eq_left (Nat.le_of_lt hl)]
  · rw [if_neg q]
    by_cases q2 : i < dp.toNatClampNeg
    · simp [List.getD, List.getElem?_append, q2, hi, Nat.min_eq_left (Nat.le_of_lt hl), List.getElem?_take]
    · have q3 : dp.toNatClampNeg + 1 + (i - (dp.toNatClampNeg + 1)) = i := by omega
      have q4 : ¬ i - dp.toNatClampNeg < 1 := by omega
      simp [List.getD, List.getElem?_append, q2, hi, Nat.min_eq_left (Nat.le_of_lt hl), List.getElem?_drop, q4]
      have q5 : i - dp.toNatClampNeg = (i - dp.toNatClampNeg - 1) + 1 := by omega
      have q6 : dp.toNatClampNeg + 1 + (i - dp.toNatClampNeg - 1) = i := by omega
      rw [q5, List.getElem?_cons_succ, List.getElem?_drop, q6]
      simp [hi]
theorem ra_d0 : decode prog_23_method_7_code 0 = .ok (.aload_n 0, 1) := by decide +kernel
theorem ra_d1 : decode prog_23_method_7_code 1 = .ok (.getfield 57, 3) := by decide +kernel
theorem ra_d4 : decode prog_23_method_7_code 4 = .ok (.aload_n 1, 1) := by decide +kernel
theorem ra_d5 : decode prog_23_method_7_code 5 = .ok (.invokevirtual 68, 3) := by decide +kernel
theorem ra_d8 : decode prog_23_method_7_code 8 = .ok (.ifCond .lt 5, 3) := by decide +kernel
theorem ra_d13 : decode prog_23_method_7_code 13 = .ok (.aload_n 0, 1) := by decide +kernel
theorem ra_d14 : decode prog_23_method_7_code 14 = .ok (.getfield 61, 3) := by decide +kernel
theorem ra_d17 : decode prog_23_method_7_code 17 = .ok (.iconst 1, 1) := by decide +kernel
theorem ra_d18 : decode prog_23_method_7_code 18 = .ok (.iadd, 1) := by decide +kernel
theorem ra_d19 : decode prog_23_method_7_code 19 = .ok (.aload_n 0, 1) := by decide +kernel
theorem ra_d20 : decode prog_23_method_7_code 20 = .ok (.getfield 30, 3) := by decide +kernel
theorem ra_d23 : decode prog_23_method_7_code 23 = .ok (.imul, 1) := by decide +kernel
theorem ra_d24 : decode prog_23_method_7_code 24 = .ok (.aload_n 0, 1) := by decide +kernel
theorem ra_d25 : decode prog_23_method_7_code 25 = .ok (.getfield 38, 3) := by decide +kernel
theorem ra_d28 : decode prog_23_method_7_code 28 = .ok (.arraylength, 1) := by decide +kernel
theorem ra_d29 : decode prog_23_method_7_code 29 = .ok (.if_icmp .le 21, 3) := by decide +kernel
theorem ra_d50 : decode prog_23_method_7_code 50 = .ok (.aload_n 1, 1) := by decide +kernel
theorem ra_d51 : decode prog_23_method_7_code 51 = .ok (.iconst 0, 1) := by decide +kernel
theorem ra_d52 : decode prog_23_method_7_code 52 = .ok (.aload_n 0, 1) := by decide +kernel
theorem ra_d53 : decode prog_23_method_7_code 53 = .ok (.getfield 38, 3) := by decide +kernel
theorem ra_d56 : decode prog_23_method_7_code 56 = .ok (.aload_n 0, 1) := by decide +kernel
theorem ra_d57 : decode prog_23_method_7_code 57 = .ok (.getfield 61, 3) := by decide +kernel
theorem ra_d60 : decode prog_23_method_7_code 60 = .ok (.aload_n 0, 1) := by decide +kernel
theorem ra_d61 : decode prog_23_method_7_code 61 = .ok (.getfield 30, 3) := by decide +kernel
theorem ra_d64 : decode prog_23_method_7_code 64 = .ok (.imul, 1) := by decide +kernel
theorem ra_d65 : decode prog_23_method_7_code 65 = .ok (.aload_n 0, 1) := by decide +kernel
theorem ra_d66 : decode prog_23_method_7_code 66 = .ok (.getfield 30, 3) := by decide +kernel
theorem ra_d69 : decode prog_23_method_7_code 69 = .ok (.invokestatic 76, 3) := by decide +kernel
theorem ra_d72 : decode prog_23_method_7_code 72 = .ok (.aload_n 0, 1) := by decide +kernel
theorem ra_d73 : decode prog_23_method_7_code 73 = .ok (.dup, 1) := by decide +kernel
theorem ra_d74 : decode prog_23_method_7_code 74 = .ok (.getfield 61, 3) := by decide +kernel
theorem ra_d77 : decode prog_23_method_7_code 77 = .ok (.dup_x1, 1) := by decide +kernel
theorem ra_d78 : decode prog_23_method_7_code 78 = .ok (.iconst 1, 1) := by decide +kernel
theorem ra_d79 : decode prog_23_method_7_code 79 = .ok (.iadd, 1) := by decide +kernel
theorem ra_d80 : decode prog_23_method_7_code 80 = .ok (.putfield 61, 3) := by decide +kernel
theorem ra_d83 : decode prog_23_method_7_code 83 = .ok (.istore_n 2, 1) := by decide +kernel
theorem ra_d84 : decode prog_23_method_7_code 84 = .ok (.aload_n 0, 1) := by decide +kernel
theorem ra_d85 : decode prog_23_method_7_code 85 = .ok (.getfield 64, 3) := by decide +kernel
theorem ra_d88 : decode prog_23_method_7_code 88 = .ok (.ifnull 26, 3) := by decide +kernel
theorem ra_d114 : decode prog_23_method_7_code 114 = .ok (.aload_n 0, 1) := by decide +kernel
theorem ra_d115 : decode prog_23_method_7_code 115 = .ok (.getfield 57, 3) := by decide +kernel
theorem ra_d118 : decode prog_23_method_7_code 118 = .ok (.iload_n 2, 1) := by decide +kernel
theorem ra_d119 : decode prog_23_method_7_code 119 = .ok (.invokevirtual 85, 3) := by decide +kernel
theorem ra_d122 : decode prog_23_method_7_code 122 = .ok (.aload_n 0, 1) := by decide +kernel
theorem ra_d123 : decode prog_23_method_7_code 123 = .ok (.getfield 10, 3) := by decide +kernel
theorem ra_d126 : decode prog_23_method_7_code 126 = .ok (.invokeinterface 89 1, 5) := by decide +kernel
theorem ra_d131 : decode prog_23_method_7_code 131 = .ok (.astore_n 3, 1) := by decide +kernel
theorem ra_d132 : decode prog_23_method_7_code 132 = .ok (.aload_n 3, 1) := by decide +kernel
theorem ra_d133 : decode prog_23_method_7_code 133 = .ok (.invokeinterface 95 1, 5) := by decide +kernel
theorem ra_d138 : decode prog_23_method_7_code 138 = .ok (.ifCond .eq 23, 3) := by decide +kernel
theorem ra_d161 : decode prog_23_method_7_code 161 = .ok (.iconst 1, 1) := by decide +kernel
theorem ra_d162 : decode prog_23_method_7_code 162 = .ok (.ireturn, 1) := by decide +kernel
def ra_Q (Z : State) (b0 : Addr) (b1 : Addr) (w_p : Addr) (w_d : Addr) (w_1 : Addr) (w_2 : Addr) (w_k : Addr) (w_f : Addr) (w_l : Addr) (w_P : Nat → Int32) (w_D : Nat → Int32) (w_F : Nat → Int32) (w_L : Nat → Int32) (w_K : Nat → Int32) (w_c : Int32) (w_s : Int32) (w_U : Nat → Int32) (r0 : Int32) (y6 : Int32) (y15 : Int32) (y16 : Nat → Int32) (y17 : Nat → Int32) (y18 : Nat → Int32) (y19 : Nat → Int32) (h0 : Heap) (n0 : Nat) (v : Option Value) (h : Heap) (L : List Loc) : Prop := v = some (.int r0) ∧ Fr n0 L ∧ Keep h0 h [b0, w_f, w_d, w_1, w_2, w_k] ∧ Exa Z h b0 ς0 ∧ Fld Z h b0 ς0 "data" "[I" (.ref w_d) ∧ Fld Z h b0 ς0 "arity" "I" (.int 1) ∧ Fld Z h b0 ς0 "facts" ς5 (.ref w_f) ∧ Fld Z h b0 ς0 "indexes" ς10 (.ref w_l) ∧ Fld Z h b0 ς0 "removed" "[Z" .null ∧ Fld Z h b0 ς0 "size" "I" (.int y6) ∧ Exa Z h w_f ς1 ∧ Fld Z h w_f ς1 "this$0" ς2 (.ref b0) ∧ Fld Z h w_f ς1 "positions" "[I" (.ref w_p) ∧ Fld Z h w_f ς1 "firsts" "[I" (.ref w_1) ∧ Fld Z h w_f ς1 "lasts" "[I" (.ref w_2) ∧ Fld Z h w_f ς1 "rowKey" "[I" (.ref w_k) ∧ Fld Z h w_f ς1 "next" "[I" .null ∧ Fld Z h w_f ς1 "previous" "[I" .null ∧ Fld Z h w_f ς1 "keys" "I" (.int y15) ∧ own_Arf Z h w_d .int 16 (fun i => (.int (y16 i))) ∧ own_Arf Z h w_1 .int 16 (fun i => (.int (y17 i))) ∧ own_Arf Z h w_2 .int 16 (fun i => (.int (y18 i))) ∧ own_Arf Z h w_k .int 1 (fun i => (.int (y19 i)))
def ra_f (w_P : Nat → Int32) (w_D : Nat → Int32) (w_F : Nat → Int32) (w_L : Nat → Int32) (w_K : Nat → Int32) (w_c : Int32) (w_s : Int32) (w_U : Nat → Int32)  : Int32 :=
  (1 : Int32)
def ra_g6 (w_P : Nat → Int32) (w_D : Nat → Int32) (w_F : Nat → Int32) (w_L : Nat → Int32) (w_K : Nat → Int32) (w_c : Int32) (w_s : Int32) (w_U : Nat → Int32)  : Int32 :=
  (w_s + (1 : Int32))
def ra_g15 (w_P : Nat → Int32) (w_D : Nat → Int32) (w_F : Nat → Int32) (w_L : Nat → Int32) (w_K : Nat → Int32) (w_c : Int32) (w_s : Int32) (w_U : Nat → Int32)  : Int32 :=
  (ia_g8 w_s w_P (own_upd w_D ((w_s * (1 : Int32))).toNatClampNeg (w_U 0)) w_F w_L w_K w_c)
def ra_g16 (w_P : Nat → Int32) (w_D : Nat → Int32) (w_F : Nat → Int32) (w_L : Nat → Int32) (w_K : Nat → Int32) (w_c : Int32) (w_s : Int32) (w_U : Nat → Int32)  : Nat → Int32 :=
  (own_upd w_D ((w_s * (1 : Int32))).toNatClampNeg (w_U 0))
def ra_g17 (w_P : Nat → Int32) (w_D : Nat → Int32) (w_F : Nat → Int32) (w_L : Nat → Int32) (w_K : Nat → Int32) (w_c : Int32) (w_s : Int32) (w_U : Nat → Int32)  : Nat → Int32 :=
  (ia_g9 w_s w_P (own_upd w_D ((w_s * (1 : Int32))).toNatClampNeg (w_U 0)) w_F w_L w_K w_c)
def ra_g18 (w_P : Nat → Int32) (w_D : Nat → Int32) (w_F : Nat → Int32) (w_L : Nat → Int32) (w_K : Nat → Int32) (w_c : Int32) (w_s : Int32) (w_U : Nat → Int32)  : Nat → Int32 :=
  (ia_g10 w_s w_P (own_upd w_D ((w_s * (1 : Int32))).toNatClampNeg (w_U 0)) w_F w_L w_K w_c)
def ra_g19 (w_P : Nat → Int32) (w_D : Nat → Int32) (w_F : Nat → Int32) (w_L : Nat → Int32) (w_K : Nat → Int32) (w_c : Int32) (w_s : Int32) (w_U : Nat → Int32)  : Nat → Int32 :=
  (ia_g11 w_s w_P (own_upd w_D ((w_s * (1 : Int32))).toNatClampNeg (w_U 0)) w_F w_L w_K w_c)
set_option maxRecDepth 65536 in
set_option maxHeartbeats 40000000 in
theorem ra_c0 {b0 : Addr} {b1 : Addr} {w_p : Addr} {w_d : Addr} {w_1 : Addr} {w_2 : Addr} {w_k : Addr} {w_f : Addr} {w_l : Addr} {w_P : Nat → Int32} {w_D : Nat → Int32} {w_F : Nat → Int32} {w_L : Nat → Int32} {w_K : Nat → Int32} {w_c : Int32} {w_s : Int32} {w_U : Nat → Int32} {locs : List Loc} {r0 : Int32} {y6 : Int32} {y15 : Int32} {y16 : Nat → Int32} {y17 : Nat → Int32} {y18 : Nat → Int32} {y19 : Nat → Int32} (C0 : own_Cx p s m meth c Z a0 prog_23_method_7_code 5 ς0 "add" (some .boolean)) (X0 : Stand p l e ({ frames := 3, cells := 1, slots := 4, locals := 46 } : Room) s m args below meth c T0 locs 0 0) (e0 : T0.heap = h0) (N0 : Fr n0 locs)  (Z0 : n0 ≤ h0.size) (P0 : Exa Z h0 b0 ς0) (P1 : Fld Z h0 b0 ς0 "data" "[I" (.ref w_d)) (P2 : Fld Z h0 b0 ς0 "arity" "I" (.int 1)) (P3 : Fld Z h0 b0 ς0 "facts" ς5 (.ref w_f)) (P4 : Fld Z h0 b0 ς0 "indexes" ς10 (.ref w_l)) (P5 : Fld Z h0 b0 ς0 "removed" "[Z" .null) (P6 : own_Arf Z h0 w_d .int 16 (fun i => (.int (w_D i)))) (P7 : Exa Z h0 w_l ς3) (P8 : Fld Z h0 w_l ς6 "modCount" "I" (.int 0)) (P9 : Fld Z h0 w_l ς3 "size" "I" (.int 0)) (P10 : Fld Z h0 b0 ς0 "size" "I" (.int w_s)) (P11 : Exa Z h0 w_f ς1) (P12 : Fld Z h0 w_f ς1 "this$0" ς2 (.ref b0)) (P13 : Fld Z h0 w_f ς1 "positions" "[I" (.ref w_p)) (P14 : own_Arf Z h0 w_p .int 1 (fun i => (.int (w_P i)))) (P15 : Fld Z h0 w_f ς1 "firsts" "[I" (.ref w_1)) (P16 : Fld Z h0 w_f ς1 "lasts" "[I" (.ref w_2)) (P17 : Fld Z h0 w_f ς1 "rowKey" "[I" (.ref w_k)) (P18 : Fld Z h0 w_f ς1 "next" "[I" .null) (P19 : Fld Z h0 w_f ς1 "previous" "[I" .null) (P20 : Fld Z h0 w_f ς1 "keys" "I" (.int w_c)) (P21 : own_Arf Z h0 w_1 .int 16 (fun i => (.int (w_F i)))) (P22 : own_Arf Z h0 w_2 .int 16 (fun i => (.int (w_L i)))) (P23 : own_Arf Z h0 w_k .int 1 (fun i => (.int (w_K i)))) (P24 : own_Arf Z h0 b1 .int 1 (fun i => (.int (w_U i)))) (ge_b0 : n0 ≤ b0) (ge_w_f : n0 ≤ w_f) (ge_w_d : n0 ≤ w_d) (ge_w_1 : n0 ≤ w_1) (ge_w_2 : n0 ≤ w_2) (ge_w_k : n0 ≤ w_k) (nes0 : b0 ≠ w_p) (nes1 : w_f ≠ w_p) (nes2 : w_l ≠ w_p) (nes3 : b0 ≠ w_d) (nes4 : w_f ≠ w_d) (nes5 : w_l ≠ w_d) (nes6 : w_p ≠ w_d) (nes7 : b0 ≠ w_1) (nes8 : w_f ≠ w_1) (nes9 : w_l ≠ w_1) (nes10 : w_p ≠ w_1) (nes11 : w_d ≠ w_1) (nes12 : b0 ≠ w_2) (nes13 : w_f ≠ w_2) (nes14 : w_l ≠ w_2) (nes15 : w_p ≠ w_2) (nes16 : w_d ≠ w_2) (nes17 : w_1 ≠ w_2) (nes18 : b0 ≠ w_k) (nes19 : w_f ≠ w_k) (nes20 : w_l ≠ w_k) (nes21 : w_p ≠ w_k) (nes22 : w_d ≠ w_k) (nes23 : w_1 ≠ w_k) (nes24 : w_2 ≠ w_k) (nes25 : b1 ≠ w_d) (hP : w_P 0 = 0) (hA : own_RA w_F w_D w_s (w_U 0) w_c) (hfit : ¬ ((16 : Int32) < ((w_s + (1 : Int32)) * (1 : Int32)))) (hs16 : ¬ (w_s = (16 : Int32))) (hr0 : r0 = ra_f w_P w_D w_F w_L w_K w_c w_s w_U ) (hy6 : y6 = ra_g6 w_P w_D w_F w_L w_K w_c w_s w_U ) (hy15 : y15 = ra_g15 w_P w_D w_F w_L w_K w_c w_s w_U ) (hy16 : y16 = ra_g16 w_P w_D w_F w_L w_K w_c w_s w_U ) (hy17 : y17 = ra_g17 w_P w_D w_F w_L w_K w_c w_s w_U ) (hy18 : y18 = ra_g18 w_P w_D w_F w_L w_K w_c w_s w_U ) (hy19 : y19 = ra_g19 w_P w_D w_F w_L w_K w_c w_s w_U ) :
    own_Dn p e below s (ra_Q Z b0 b1 w_p w_d w_1 w_2 w_k w_f w_l w_P w_D w_F w_L w_K w_c w_s w_U r0 y6 y15 y16 y17 y18 y19 h0 n0) ({ frames := 3, cells := 1, slots := 4, locals := 46 } : Room).cells ({ frames := 3, cells := 1, slots := 4, locals := 46 } : Room).slots (T0.setTop (mkF m 0 #[ρ b0, ρ b1, υ, υ, υ] [])) := by
  obtain ⟨hx, hZ, hw, hby, hml, hown, hret, hlk, hnm⟩ := id C0
  refine own_st (fun _ k => XS.aloadN X0.here hx rfl (hb hby ra_d0) rfl rfl k) ?_
  show own_Dn p e below s _ _ _ (T0.setTop (mkF m 1 #[ρ b0, ρ b1, υ, υ, υ] [(.ref b0)]))
  obtain ⟨T163, X163, e163, st163⟩ := getF X0 hx hZ hown (host := "") (Or.inl (own_w hw 112 rfl)) Via.refl e0 P3 (g := (mkF m 1 #[ρ b0, ρ b1, υ, υ, υ] [(.ref b0)])) rfl rfl (hb hby ra_d1)
  refine own_st st163 ?_
  show own_Dn p e below s _ _ _ (T163.setTop (mkF m 4 #[ρ b0, ρ b1, υ, υ, υ] [(.ref w_f)]))
  refine own_st (fun _ k => XS.aloadN X163.here hx rfl (hb hby ra_d4) rfl rfl k) ?_
  show own_Dn p e below s _ _ _ (T163.setTop (mkF m 5 #[ρ b0, ρ b1, υ, υ, υ] [(.ref b1), (.ref w_f)]))
  obtain ⟨cq164, kq164, q164a, q164b, q164c⟩ := isOf hZ e163 P11
  obtain ⟨_, _, ⟨T164, L164, k164, n164⟩, -, X164, ⟨Lc164, hQ164, l164, y164, z164⟩, st164⟩ := X163.virtualBack hx (y := (⟨ς1, "first", "([I)I"⟩ : MethodName)) (z := (⟨ς1, "first", "([I)I"⟩ : MethodName)) hown (mvT hZ (own_w hw 119 rfl)) (mvT hZ (own_w hw 120 rfl)) (notFace_of_selects (args := #[]) (mvT hZ (own_w hw 122 rfl))) (mvT hZ (own_w hw 122 rfl)) (mvT hZ (own_w hw 121 rfl)) (by decide) (backOf (W := 0) (fs_rm l Z a0 hw [] (w_f) (b1) (b0) (w_p) (w_d) (w_P) (w_D) (w_1) (w_F) (w_U) h0 n0 Z0 P11 P12 P13 P14 P0 P1 P2 P6 P15 P21 P24 hP hA.1) hZ (own_w hw 123 rfl) (own_w hw 95 rfl) (by decide) (by decide)) q164a q164c (g := (mkF m 5 #[ρ b0, ρ b1, υ, υ, υ] [(.ref b1), (.ref w_f)])) rfl (by rw [hml]; rfl) (Steps.refl _) (argsL := [(.ref b1)]) (rest := []) (lenOf own_pd2 rfl) rfl (by show 2 * 0 + _ ≤ _; exact Nat.le_of_eq rfl) (hb hby ra_d5) (fun _ _ => ⟨rfl, e163, (by decide : 0 + 0 ≤ _), (by decide : 0 + 0 ≤ _)⟩)
  dsimp only [Pt.U, Pt.locs, Pt.cells, Pt.slots] at X164 l164 y164 z164 st164 hQ164
  subst l164 y164 z164
  obtain ⟨rfl, N164q, K164⟩ := hQ164
  have F165 : n0 ≤ T164.heap.size := Nat.le_trans Z0 K164.1
  have F166 := P0.keep K164
  have F167 := P1.keep K164 nin0
  have F168 := P2.keep K164 nin0
  have F169 := P3.keep K164 nin0
  have F170 := P4.keep K164 nin0
  have F171 := P5.keep K164 nin0
  have F172 := P6.keep K164 nin0
  have F173 := P7.keep K164
  have F174 := P8.keep K164 nin0
  have F175 := P9.keep K164 nin0
  have F176 := P10.keep K164 nin0
  have F177 := P11.keep K164
  have F178 := P12.keep K164 nin0
  have F179 := P13.keep K164 nin0
  have F180 := P14.keep K164 nin0
  have F181 := P15.keep K164 nin0
  have F182 := P16.keep K164 nin0
  have F183 := P17.keep K164 nin0
  have F184 := P18.keep K164 nin0
  have F185 := P19.keep K164 nin0
  have F186 := P20.keep K164 nin0
  have F187 := P21.keep K164 nin0
  have F188 := P22.keep K164 nin0
  have F189 := P23.keep K164 nin0
  have F190 := P24.keep K164 nin0
  have F191 : Keep h0 T164.heap [b0, w_f, w_d, w_1, w_2, w_k] := (Keep.refl h0 [b0, w_f, w_d, w_1, w_2, w_k]).trans K164 all0
  have N164 := Fr.app N0 N164q
  refine own_tr st164 ?_
  have ha192 : (fs_f w_P w_D w_F w_U) < (0 : Int32) := own_fst hP hA
  show own_Dn p e below s _ _ _ (T164.setTop (mkF m 8 #[ρ b0, ρ b1, υ, υ, υ] [(.int (fs_f w_P w_D w_F w_U))]))
  refine own_st (fun _ k => XS.ifYes X164.here hx rfl (pc0 := 8) (pc' := 13) rfl (hb hby ra_d8) rfl ((if0 _ _).trans (tlt ha192).1) (by decide) (by decide) k) ?_
  show own_Dn p e below s _ _ _ (T164.setTop (mkF m 13 #[ρ b0, ρ b1, υ, υ, υ] []))
  refine own_st (fun _ k => XS.aloadN X164.here hx rfl (hb hby ra_d13) rfl rfl k) ?_
  show own_Dn p e below s _ _ _ (T164.setTop (mkF m 14 #[ρ b0, ρ b1, υ, υ, υ] [(.ref b0)]))
  obtain ⟨T193, X193, e193, st193⟩ := getF X164 hx hZ hown (host := "") (Or.inl (own_w hw 134 rfl)) Via.refl rfl F176 (g := (mkF m 14 #[ρ b0, ρ b1, υ, υ, υ] [(.ref b0)])) rfl rfl (hb hby ra_d14)
  refine own_st st193 ?_
  show own_Dn p e below s _ _ _ (T193.setTop (mkF m 17 #[ρ b0, ρ b1, υ, υ, υ] [(.int w_s)]))
  refine own_st (fun _ k => XS.iconst X193.here hx rfl (hb hby ra_d17) (XS.iadd X193.here hx rfl (hb hby ra_d18) rfl (XS.aloadN X193.here hx rfl (hb hby ra_d19) rfl rfl k))) ?_
  show own_Dn p e below s _ _ _ (T193.setTop (mkF m 20 #[ρ b0, ρ b1, υ, υ, υ] [(.ref b0), (.int (w_s + (1 : Int32)))]))
  obtain ⟨T194, X194, e194, st194⟩ := getF X193 hx hZ hown (host := "") (Or.inl (own_w hw 69 rfl)) Via.refl e193 F168 (g := (mkF m 20 #[ρ b0, ρ b1, υ, υ, υ] [(.ref b0), (.int (w_s + (1 : Int32)))])) rfl rfl (hb hby ra_d20)
  refine own_st st194 ?_
  show own_Dn p e below s _ _ _ (T194.setTop (mkF m 23 #[ρ b0, ρ b1, υ, υ, υ] [(.int 1), (.int (w_s + (1 : Int32)))]))
  refine own_st (fun _ k => XS.imul X194.here hx rfl (hb hby ra_d23) rfl (XS.aloadN X194.here hx rfl (hb hby ra_d24) rfl rfl k)) ?_
  show own_Dn p e below s _ _ _ (T194.setTop (mkF m 25 #[ρ b0, ρ b1, υ, υ, υ] [(.ref b0), (.int ((w_s + (1 : Int32)) * (1 : Int32)))]))
  obtain ⟨T195, X195, e195, st195⟩ := getF X194 hx hZ hown (host := "") (Or.inl (own_w hw 75 rfl)) Via.refl e194 F167 (g := (mkF m 25 #[ρ b0, ρ b1, υ, υ, υ] [(.ref b0), (.int ((w_s + (1 : Int32)) * (1 : Int32)))])) rfl rfl (hb hby ra_d25)
  refine own_st st195 ?_
  show own_Dn p e below s _ _ _ (T195.setTop (mkF m 28 #[ρ b0, ρ b1, υ, υ, υ] [(.ref w_d), (.int ((w_s + (1 : Int32)) * (1 : Int32)))]))
  refine own_st (own_len (pc := 28) (L := #[ρ b0, ρ b1, υ, υ, υ]) (rest := [(.int ((w_s + (1 : Int32)) * (1 : Int32)))]) X195 hx hZ e195 F172 (z := (16 : Int32)) rfl (hb hby ra_d28)) ?_
  show own_Dn p e below s _ _ _ (T195.setTop (mkF m 29 #[ρ b0, ρ b1, υ, υ, υ] [(.int 16), (.int ((w_s + (1 : Int32)) * (1 : Int32)))]))
  refine own_st (fun _ k => XS.icmpYes X195.here hx rfl (pc0 := 29) (pc' := 50) rfl (hb hby ra_d29) rfl (flt hfit).2.2.2 (by decide) (by decide) k) ?_
  show own_Dn p e below s _ _ _ (T195.setTop (mkF m 50 #[ρ b0, ρ b1, υ, υ, υ] []))
  refine own_st (fun _ k => XS.aloadN X195.here hx rfl (hb hby ra_d50) rfl rfl (XS.iconst X195.here hx rfl (hb hby ra_d51) (XS.aloadN X195.here hx rfl (hb hby ra_d52) rfl rfl k))) ?_
  show own_Dn p e below s _ _ _ (T195.setTop (mkF m 53 #[ρ b0, ρ b1, υ, υ, υ] [(.ref b0), (.int 0), (.ref b1)]))
  obtain ⟨T196, X196, e196, st196⟩ := getF X195 hx hZ hown (host := "") (Or.inl (own_w hw 75 rfl)) Via.refl e195 F167 (g := (mkF m 53 #[ρ b0, ρ b1, υ, υ, υ] [(.ref b0), (.int 0), (.ref b1)])) rfl rfl (hb hby ra_d53)
  refine own_st st196 ?_
  show own_Dn p e below s _ _ _ (T196.setTop (mkF m 56 #[ρ b0, ρ b1, υ, υ, υ] [(.ref w_d), (.int 0), (.ref b1)]))
  refine own_st (fun _ k => XS.aloadN X196.here hx rfl (hb hby ra_d56) rfl rfl k) ?_
  show own_Dn p e below s _ _ _ (T196.setTop (mkF m 57 #[ρ b0, ρ b1, υ, υ, υ] [(.ref b0), (.ref w_d), (.int 0), (.ref b1)]))
  obtain ⟨T197, X197, e197, st197⟩ := getF X196 hx hZ hown (host := "") (Or.inl (own_w hw 134 rfl)) Via.refl e196 F176 (g := (mkF m 57 #[ρ b0, ρ b1, υ, υ, υ] [(.ref b0), (.ref w_d), (.int 0), (.ref b1)])) rfl rfl (hb hby ra_d57)
  refine own_st st197 ?_
  show own_Dn p e below s _ _ _ (T197.setTop (mkF m 60 #[ρ b0, ρ b1, υ, υ, υ] [(.int w_s), (.ref w_d), (.int 0), (.ref b1)]))
  refine own_st (fun _ k => XS.aloadN X197.here hx rfl (hb hby ra_d60) rfl rfl k) ?_
  show own_Dn p e below s _ _ _ (T197.setTop (mkF m 61 #[ρ b0, ρ b1, υ, υ, υ] [(.ref b0), (.int w_s), (.ref w_d), (.int 0), (.ref b1)]))
  obtain ⟨T198, X198, e198, st198⟩ := getF X197 hx hZ hown (host := "") (Or.inl (own_w hw 69 rfl)) Via.refl e197 F168 (g := (mkF m 61 #[ρ b0, ρ b1, υ, υ, υ] [(.ref b0), (.int w_s), (.ref w_d), (.int 0), (.ref b1)])) rfl rfl (hb hby ra_d61)
  refine own_st st198 ?_
  show own_Dn p e below s _ _ _ (T198.setTop (mkF m 64 #[ρ b0, ρ b1, υ, υ, υ] [(.int 1), (.int w_s), (.ref w_d), (.int 0), (.ref b1)]))
  refine own_st (fun _ k => XS.imul X198.here hx rfl (hb hby ra_d64) rfl (XS.aloadN X198.here hx rfl (hb hby ra_d65) rfl rfl k)) ?_
  show own_Dn p e below s _ _ _ (T198.setTop (mkF m 66 #[ρ b0, ρ b1, υ, υ, υ] [(.ref b0), (.int (w_s * (1 : Int32))), (.ref w_d), (.int 0), (.ref b1)]))
  obtain ⟨T199, X199, e199, st199⟩ := getF X198 hx hZ hown (host := "") (Or.inl (own_w hw 69 rfl)) Via.refl e198 F168 (g := (mkF m 66 #[ρ b0, ρ b1, υ, υ, υ] [(.ref b0), (.int (w_s * (1 : Int32))), (.ref w_d), (.int 0), (.ref b1)])) rfl rfl (hb hby ra_d66)
  refine own_st st199 ?_
  show own_Dn p e below s _ _ _ (T199.setTop (mkF m 69 #[ρ b0, ρ b1, υ, υ, υ] [(.int 1), (.int (w_s * (1 : Int32))), (.ref w_d), (.int 0), (.ref b1)]))
  obtain ⟨T200, h200, Lc200, X200, e200, N200, K200, F200a, st200⟩ := own_acopy1 X199 hx hZ hown (own_w hw 136 rfl) (own_w hw 139 rfl) (own_w hw 137 rfl) (own_w hw 138 rfl) e199 F190 F172 (dp := (w_s * (1 : Int32))) (by rw [Int32.mul_one]; exact own_RA_r hA) N164 ge_w_d (g := (mkF m 69 #[ρ b0, ρ b1, υ, υ, υ] [(.int 1), (.int (w_s * (1 : Int32))), (.ref w_d), (.int 0), (.ref b1)])) rfl (by rw [hml]; rfl) (rest := []) rfl (hb hby ra_d69) (by decide) (W := 0) (by show 2 * 0 + _ ≤ _; exact Nat.le_of_eq rfl) (by decide)
  have F201 : n0 ≤ h200.size := Nat.le_trans F165 K200.1
  have F202 := F166.keep K200
  have F203 := F167.keep K200 (ninS nes3 nin0)
  have F204 := F168.keep K200 (ninS nes3 nin0)
  have F205 := F169.keep K200 (ninS nes3 nin0)
  have F206 := F170.keep K200 (ninS nes3 nin0)
  have F207 := F171.keep K200 (ninS nes3 nin0)
  have F208 := F173.keep K200
  have F209 := F174.keep K200 (ninS nes5 nin0)
  have F210 := F175.keep K200 (ninS nes5 nin0)
  have F211 := F176.keep K200 (ninS nes3 nin0)
  have F212 := F177.keep K200
  have F213 := F178.keep K200 (ninS nes4 nin0)
  have F214 := F179.keep K200 (ninS nes4 nin0)
  have F215 := F180.keep K200 (ninS nes6 nin0)
  have F216 := F181.keep K200 (ninS nes4 nin0)
  have F217 := F182.keep K200 (ninS nes4 nin0)
  have F218 := F183.keep K200 (ninS nes4 nin0)
  have F219 := F184.keep K200 (ninS nes4 nin0)
  have F220 := F185.keep K200 (ninS nes4 nin0)
  have F221 := F186.keep K200 (ninS nes4 nin0)
  have F222 := F187.keep K200 (ninS (Ne.symm nes11) nin0)
  have F223 := F188.keep K200 (ninS (Ne.symm nes16) nin0)
  have F224 := F189.keep K200 (ninS (Ne.symm nes22) nin0)
  have F225 : Keep h0 h200 [b0, w_f, w_d, w_1, w_2, w_k] := F191.trans K200 (allS (Or.inl (List.mem_of_getElem? (i := 2) rfl)) all0)
  refine own_st st200 ?_
  show own_Dn p e below s _ _ _ (T200.setTop (mkF m 72 #[ρ b0, ρ b1, υ, υ, υ] []))
  refine own_st (fun _ k => XS.aloadN X200.here hx rfl (hb hby ra_d72) rfl rfl (XS.dup X200.here hx rfl (hb hby ra_d73) rfl rfl k)) ?_
  show own_Dn p e below s _ _ _ (T200.setTop (mkF m 74 #[ρ b0, ρ b1, υ, υ, υ] [(.ref b0), (.ref b0)]))
  obtain ⟨T226, X226, e226, st226⟩ := getF X200 hx hZ hown (host := "") (Or.inl (own_w hw 134 rfl)) Via.refl e200 F211 (g := (mkF m 74 #[ρ b0, ρ b1, υ, υ, υ] [(.ref b0), (.ref b0)])) rfl rfl (hb hby ra_d74)
  refine own_st st226 ?_
  show own_Dn p e below s _ _ _ (T226.setTop (mkF m 77 #[ρ b0, ρ b1, υ, υ, υ] [(.int w_s), (.ref b0)]))
  refine own_st (fun _ k => XS.dupX1 X226.here hx rfl (hb hby ra_d77) rfl rfl rfl (XS.iconst X226.here hx rfl (hb hby ra_d78) (XS.iadd X226.here hx rfl (hb hby ra_d79) rfl k))) ?_
  show own_Dn p e below s _ _ _ (T226.setTop (mkF m 80 #[ρ b0, ρ b1, υ, υ, υ] [(.int (w_s + (1 : Int32))), (.ref b0), (.int w_s)]))
  obtain ⟨T227, h227, X227, e227, W227, st227⟩ := putF X226 hx hZ hown (host := "") (Or.inl (own_w hw 134 rfl)) Via.refl e226 F211 F202 (Or.inl (own_w hw 135 rfl)) (own_w hw 2 rfl) (ty := .int) (v := (.int (w_s + (1 : Int32)))) (by decide) rfl rfl (g := (mkF m 80 #[ρ b0, ρ b1, υ, υ, υ] [(.int (w_s + (1 : Int32))), (.ref b0), (.int w_s)])) rfl rfl (hb hby ra_d80)
  have N227 := Fr.snoc X227 N200 ge_b0
  have F228 : n0 ≤ h227.size := Nat.le_trans F201 (Keep.of_wr W227).1
  have F229 := F202.wr W227
  have F230 := F203.other W227 (Or.inr (slot_ne (Or.inl (own_w hw 76 rfl)) (Or.inl (own_w hw 135 rfl)) (by decide) (t := (.array .int)) (t' := .int) (by decide) (by decide)))
  have F231 := F204.other W227 (Or.inr (slot_ne (Or.inr (own_w hw 70 rfl)) (Or.inl (own_w hw 135 rfl)) (by decide) (t := .int) (t' := .int) (by decide) (by decide)))
  have F232 := F205.other W227 (Or.inr (slot_ne (Or.inr (own_w hw 113 rfl)) (Or.inl (own_w hw 135 rfl)) (by decide) (t := (.object ς1)) (t' := .int) (by decide) (by decide)))
  have F233 := F206.other W227 (Or.inr (slot_ne (Or.inr (own_w hw 59 rfl)) (Or.inl (own_w hw 135 rfl)) (by decide) (t := (.object "java/util/List")) (t' := .int) (by decide) (by decide)))
  have F234 := F207.other W227 (Or.inr (slot_ne (Or.inl (own_w hw 141 rfl)) (Or.inl (own_w hw 135 rfl)) (by decide) (t := (.array .boolean)) (t' := .int) (by decide) (by decide)))
  have F235 := F208.wr W227
  have F236 := F209.other W227 (Or.inl (ne_exa F208 F202 (by decide)))
  have F237 := F210.other W227 (Or.inl (ne_exa F208 F202 (by decide)))
  have F238 : Fld Z h227 b0 ς0 "size" "I" (.int (w_s + (1 : Int32))) := F211.same W227
  have F239 := F212.wr W227
  have F240 := F213.other W227 (Or.inl (ne_exa F212 F202 (by decide)))
  have F241 := F214.other W227 (Or.inl (ne_exa F212 F202 (by decide)))
  have F242 := F215.other W227 (Ne.symm nes0)
  have F243 := F216.other W227 (Or.inl (ne_exa F212 F202 (by decide)))
  have F244 := F217.other W227 (Or.inl (ne_exa F212 F202 (by decide)))
  have F245 := F218.other W227 (Or.inl (ne_exa F212 F202 (by decide)))
  have F246 := F219.other W227 (Or.inl (ne_exa F212 F202 (by decide)))
  have F247 := F220.other W227 (Or.inl (ne_exa F212 F202 (by decide)))
  have F248 := F221.other W227 (Or.inl (ne_exa F212 F202 (by decide)))
  have F249 := F222.other W227 (Ne.symm nes7)
  have F250 := F223.other W227 (Ne.symm nes12)
  have F251 := F224.other W227 (Ne.symm nes18)
  have F252 : Keep h0 h227 [b0, w_f, w_d, w_1, w_2, w_k] := F225.wr W227 (Or.inl (List.mem_of_getElem? (i := 0) rfl))
  have F253 := F200a.other W227 (Ne.symm nes3)
  refine own_st st227 ?_
  show own_Dn p e below s _ _ _ (T227.setTop (mkF m 83 #[ρ b0, ρ b1, υ, υ, υ] [(.int w_s)]))
  refine own_st (fun _ k => XS.istoreN X227.here hx rfl (hb hby ra_d83) rfl (l' := #[ρ b0, ρ b1, ι w_s, υ, υ]) rfl (XS.aloadN X227.here hx rfl (hb hby ra_d84) rfl rfl k)) ?_
  show own_Dn p e below s _ _ _ (T227.setTop (mkF m 85 #[ρ b0, ρ b1, ι w_s, υ, υ] [(.ref b0)]))
  obtain ⟨T254, X254, e254, st254⟩ := getF X227 hx hZ hown (host := "") (Or.inl (own_w hw 140 rfl)) Via.refl e227 F234 (g := (mkF m 85 #[ρ b0, ρ b1, ι w_s, υ, υ] [(.ref b0)])) rfl rfl (hb hby ra_d85)
  refine own_st st254 ?_
  show own_Dn p e below s _ _ _ (T254.setTop (mkF m 88 #[ρ b0, ρ b1, ι w_s, υ, υ] [.null]))
  refine own_st (fun _ k => XS.ifnullYes X254.here hx rfl (pc0 := 88) (pc' := 114) rfl (hb hby ra_d88) rfl (by decide) (by decide) k) ?_
  show own_Dn p e below s _ _ _ (T254.setTop (mkF m 114 #[ρ b0, ρ b1, ι w_s, υ, υ] []))
  refine own_st (fun _ k => XS.aloadN X254.here hx rfl (hb hby ra_d114) rfl rfl k) ?_
  show own_Dn p e below s _ _ _ (T254.setTop (mkF m 115 #[ρ b0, ρ b1, ι w_s, υ, υ] [(.ref b0)]))
  obtain ⟨T255, X255, e255, st255⟩ := getF X254 hx hZ hown (host := "") (Or.inl (own_w hw 112 rfl)) Via.refl e254 F232 (g := (mkF m 115 #[ρ b0, ρ b1, ι w_s, υ, υ] [(.ref b0)])) rfl rfl (hb hby ra_d115)
  refine own_st st255 ?_
  show own_Dn p e below s _ _ _ (T255.setTop (mkF m 118 #[ρ b0, ρ b1, ι w_s, υ, υ] [(.ref w_f)]))
  refine own_st (fun _ k => XS.iloadN X255.here hx rfl (hb hby ra_d118) rfl k) ?_
  show own_Dn p e below s _ _ _ (T255.setTop (mkF m 119 #[ρ b0, ρ b1, ι w_s, υ, υ] [(.int w_s), (.ref w_f)]))
  obtain ⟨cq256, q256, q256x⟩ := F239.cell
  obtain ⟨_, ⟨T256, L256, k256, n256⟩, X256, ⟨Lc256, hQ256, l256, y256, z256⟩, st256⟩ := own_refPriv (y := (⟨ς1, "add", "(I)V"⟩ : MethodName)) X255 hx hZ hown (own_w hw 142 rfl) (own_w hw 143 rfl) (own_w hw 145 rfl) (own_w hw 94 rfl) (by decide) (Cond.privateMethod_at (mvP hZ (own_w hw 144 rfl) (args := #[]))) (backOf (W := 0) (ia_rm l Z a0 hw [] (w_f) (w_s) (b0) (w_p) (w_d) (w_P) ((own_upd w_D ((w_s * (1 : Int32))).toNatClampNeg (w_U 0))) (w_1) (w_2) (w_k) (w_F) (w_L) (w_K) (w_c) h227 n0 F228 F239 F240 F241 F242 F229 F230 F231 F253 F243 F244 F245 F246 F247 F248 F249 F250 F251 ge_w_f ge_w_1 ge_w_2 ge_w_k nes8 nes7 nes10 nes11 nes13 nes12 nes15 nes16 nes19 nes18 nes21 nes22 nes17 nes23 nes24 nes1 nes4 hP hA.1 (own_RA_r hA) (own_RA_nd hA) (own_RA_keys hA)) hZ (own_w hw 145 rfl) (own_w hw 95 rfl) (by decide) (by decide)) (g := (mkF m 119 #[ρ b0, ρ b1, ι w_s, υ, υ] [(.int w_s), (.ref w_f)])) rfl (by rw [hml]; rfl) (a := w_f) (by rw [show T255.heap = h227 from e255]; exact q256) q256x (argsL := [(.int w_s)]) (rest := []) (lenOf own_pd5 rfl) rfl (by show 2 * 0 + _ ≤ _; exact Nat.le_of_eq rfl) (hb hby ra_d119) ⟨rfl, e255, (by decide : 0 + 0 ≤ _), (by decide : 0 + 0 ≤ _)⟩
  dsimp only [Pt.U, Pt.locs, Pt.cells, Pt.slots] at X256 l256 y256 z256 st256 hQ256
  subst l256 y256 z256
  obtain ⟨rfl, N256q, K256, G257, G258, G259, G260, G261, G262, G263, G264, G265, G266, G267, G268⟩ := hQ256
  have F269 : n0 ≤ T256.heap.size := Nat.le_trans F228 K256.1
  have F270 := F229.keep K256
  have F271 := F230.keep K256 (ninS (ne_exa F229 F239 (by decide)) (ninS nes7 (ninS nes12 (ninS nes18 nin0))))
  have F272 := F231.keep K256 (ninS (ne_exa F229 F239 (by decide)) (ninS nes7 (ninS nes12 (ninS nes18 nin0))))
  have F273 := F232.keep K256 (ninS (ne_exa F229 F239 (by decide)) (ninS nes7 (ninS nes12 (ninS nes18 nin0))))
  have F274 := F233.keep K256 (ninS (ne_exa F229 F239 (by decide)) (ninS nes7 (ninS nes12 (ninS nes18 nin0))))
  have F275 := F234.keep K256 (ninS (ne_exa F229 F239 (by decide)) (ninS nes7 (ninS nes12 (ninS nes18 nin0))))
  have F276 := F235.keep K256
  have F277 := F236.keep K256 (ninS (ne_exa F235 F239 (by decide)) (ninS nes9 (ninS nes14 (ninS nes20 nin0))))
  have F278 := F237.keep K256 (ninS (ne_exa F235 F239 (by decide)) (ninS nes9 (ninS nes14 (ninS nes20 nin0))))
  have F279 := F238.keep K256 (ninS (ne_exa F229 F239 (by decide)) (ninS nes7 (ninS nes12 (ninS nes18 nin0))))
  have F280 := F239.keep K256
  have F281 := F242.keep K256 (ninS (Ne.symm nes1) (ninS nes10 (ninS nes15 (ninS nes21 nin0))))
  have F282 : Keep h0 T256.heap [b0, w_f, w_d, w_1, w_2, w_k] := F252.trans K256 (allS (Or.inl (List.mem_of_getElem? (i := 1) rfl)) (allS (Or.inl (List.mem_of_getElem? (i := 3) rfl)) (allS (Or.inl (List.mem_of_getElem? (i := 4) rfl)) (allS (Or.inl (List.mem_of_getElem? (i := 5) rfl)) all0))))
  have F283 := F253.keep K256 (ninS (Ne.symm nes4) (ninS nes11 (ninS nes16 (ninS nes22 nin0))))
  have N256 := Fr.app N227 N256q
  refine own_tr st256 ?_
  show own_Dn p e below s _ _ _ (T256.setTop (mkF m 122 #[ρ b0, ρ b1, ι w_s, υ, υ] []))
  refine own_st (fun _ k => XS.aloadN X256.here hx rfl (hb hby ra_d122) rfl rfl k) ?_
  show own_Dn p e below s _ _ _ (T256.setTop (mkF m 123 #[ρ b0, ρ b1, ι w_s, υ, υ] [(.ref b0)]))
  obtain ⟨T284, X284, e284, st284⟩ := getF X256 hx hZ hown (host := "") (Or.inl (own_w hw 58 rfl)) Via.refl rfl F274 (g := (mkF m 123 #[ρ b0, ρ b1, ι w_s, υ, υ] [(.ref b0)])) rfl rfl (hb hby ra_d123)
  refine own_st st284 ?_
  show own_Dn p e below s _ _ _ (T284.setTop (mkF m 126 #[ρ b0, ρ b1, ι w_s, υ, υ] [(.ref w_l)]))
  obtain ⟨cq285, kq285, q285a, q285b, q285c⟩ := isOf hZ e284 F276
  obtain ⟨_, _, ⟨T285, L285, k285, n285⟩, -, X285, ⟨Lc285, hQ285, l285, y285, z285⟩, st285⟩ := X284.interfaceBack hx (xi := (⟨"java/util/List", "iterator", "()Ljava/util/Iterator;"⟩ : MethodName)) (y := (⟨ς3, "iterator", "()Ljava/util/Iterator;"⟩ : MethodName)) hown (mvT hZ (own_w hw 159 rfl)) (mvT hZ (own_w hw 160 rfl)) (mvT hZ (own_w hw 161 rfl)) (mvT hZ (own_w hw 162 rfl)) (mvT hZ (own_w hw 163 rfl)) (mvT hZ (own_w hw 164 rfl)) (mvT hZ (own_w hw 165 rfl)) (mvT hZ (own_w hw 166 rfl)) (by decide) (backOf (W := 0) (it_rm l Z a0 hw [] (w_l) T256.heap n0 F269 F276 F277) hZ (own_w hw 167 rfl) (own_w hw 36 rfl) (by decide) (by decide)) q285a q285b q285c (g := (mkF m 126 #[ρ b0, ρ b1, ι w_s, υ, υ] [(.ref w_l)])) rfl (by rw [hml]; rfl) (Steps.refl _) (argsL := []) (rest := []) (lenOf own_pd7 rfl) rfl (by show 2 * 0 + _ ≤ _; exact Nat.le_of_eq rfl) (hb hby ra_d126) (fun _ _ => ⟨rfl, e284, (by decide : 0 + 1 ≤ _), (by decide : 0 + 4 ≤ _)⟩)
  dsimp only [Pt.U, Pt.locs, Pt.cells, Pt.slots] at X285 l285 y285 z285 st285 hQ285
  subst l285 y285 z285
  obtain ⟨r126, rfl, ge285, gh285, N285q, K285, G286, G287, G288⟩ := hQ285
  have ne289 : b0 ≠ r126 := Nat.ne_of_lt (Nat.lt_of_lt_of_le F270.lt gh285)
  have ne290 : w_l ≠ r126 := Nat.ne_of_lt (Nat.lt_of_lt_of_le F276.lt gh285)
  have ne291 : w_f ≠ r126 := Nat.ne_of_lt (Nat.lt_of_lt_of_le G257.lt gh285)
  have ne292 : w_p ≠ r126 := Nat.ne_of_lt (Nat.lt_of_lt_of_le F281.lt gh285)
  have ne293 : w_d ≠ r126 := Nat.ne_of_lt (Nat.lt_of_lt_of_le F283.lt gh285)
  have ne294 : w_1 ≠ r126 := Nat.ne_of_lt (Nat.lt_of_lt_of_le G266.lt gh285)
  have ne295 : w_2 ≠ r126 := Nat.ne_of_lt (Nat.lt_of_lt_of_le G267.lt gh285)
  have ne296 : w_k ≠ r126 := Nat.ne_of_lt (Nat.lt_of_lt_of_le G268.lt gh285)
  have gh297 : h0.size ≤ r126 := Nat.le_trans F282.1 gh285
  have F298 : n0 ≤ T285.heap.size := Nat.le_trans F269 K285.1
  have F299 := F270.keep K285
  have F300 := F271.keep K285 nin0
  have F301 := F272.keep K285 nin0
  have F302 := F273.keep K285 nin0
  have F303 := F274.keep K285 nin0
  have F304 := F275.keep K285 nin0
  have F305 := F276.keep K285
  have F306 := F277.keep K285 nin0
  have F307 := F278.keep K285 nin0
  have F308 := F279.keep K285 nin0
  have F309 := G257.keep K285
  have F310 := F281.keep K285 nin0
  have F311 : Keep h0 T285.heap [b0, w_f, w_d, w_1, w_2, w_k] := F282.trans K285 all0
  have F312 := F283.keep K285 nin0
  have F313 := G258.keep K285 nin0
  have F314 := G259.keep K285 nin0
  have F315 := G260.keep K285 nin0
  have F316 := G261.keep K285 nin0
  have F317 := G262.keep K285 nin0
  have F318 := G263.keep K285 nin0
  have F319 := G264.keep K285 nin0
  have F320 := G265.keep K285 nin0
  have F321 := G266.keep K285 nin0
  have F322 := G267.keep K285 nin0
  have F323 := G268.keep K285 nin0
  have N285 := Fr.app N256 N285q
  refine own_tr st285 ?_
  show own_Dn p e below s _ _ _ (T285.setTop (mkF m 131 #[ρ b0, ρ b1, ι w_s, υ, υ] [(.ref r126)]))
  refine own_st (fun _ k => XS.astoreN X285.here hx rfl (hb hby ra_d131) rfl rfl (l' := #[ρ b0, ρ b1, ι w_s, ρ r126, υ]) rfl (XS.aloadN X285.here hx rfl (hb hby ra_d132) rfl rfl k)) ?_
  show own_Dn p e below s _ _ _ (T285.setTop (mkF m 133 #[ρ b0, ρ b1, ι w_s, ρ r126, υ] [(.ref r126)]))
  obtain ⟨cq324, kq324, q324a, q324b, q324c⟩ := isOf hZ rfl G286
  obtain ⟨_, _, ⟨T324, L324, k324, n324⟩, -, X324, ⟨Lc324, hQ324, l324, y324, z324⟩, st324⟩ := X285.interfaceBack hx (xi := (⟨"java/util/Iterator", "hasNext", "()Z"⟩ : MethodName)) (y := (⟨ς7, "hasNext", "()Z"⟩ : MethodName)) hown (mvT hZ (own_w hw 184 rfl)) (mvT hZ (own_w hw 185 rfl)) (mvT hZ (own_w hw 186 rfl)) (mvT hZ (own_w hw 187 rfl)) (mvT hZ (own_w hw 188 rfl)) (mvT hZ (own_w hw 189 rfl)) (mvT hZ (own_w hw 190 rfl)) (mvT hZ (own_w hw 191 rfl)) (by decide) (backOf (W := 0) (hn_rm l Z a0 hw [] (r126) (w_l) T285.heap n0 F298 G288 G287 F307) hZ (own_w hw 192 rfl) (own_w hw 170 rfl) (by decide) (by decide)) q324a q324b q324c (g := (mkF m 133 #[ρ b0, ρ b1, ι w_s, ρ r126, υ] [(.ref r126)])) rfl (by rw [hml]; rfl) (Steps.refl _) (argsL := []) (rest := []) (lenOf own_pd8 rfl) rfl (by show 2 * 0 + _ ≤ _; exact Nat.le_of_eq rfl) (hb hby ra_d133) (fun _ _ => ⟨rfl, rfl, (by decide : 1 + 0 ≤ _), (by decide : 4 + 0 ≤ _)⟩)
  dsimp only [Pt.U, Pt.locs, Pt.cells, Pt.slots] at X324 l324 y324 z324 st324 hQ324
  subst l324 y324 z324
  obtain ⟨rfl, N324q, e324⟩ := hQ324
  have N324 := Fr.app N285 N324q
  refine own_tr st324 ?_
  show own_Dn p e below s _ _ _ (T324.setTop (mkF m 138 #[ρ b0, ρ b1, ι w_s, ρ r126, υ] [(.int 0)]))
  refine own_st (fun _ k => XS.ifYes X324.here hx rfl (pc0 := 138) (pc' := 161) rfl (hb hby ra_d138) rfl ((if0 _ _).trans (teq (by decide : (0 : Int32) = (0 : Int32))).1) (by decide) (by decide) k) ?_
  show own_Dn p e below s _ _ _ (T324.setTop (mkF m 161 #[ρ b0, ρ b1, ι w_s, ρ r126, υ] []))
  refine own_st (fun _ k => XS.iconst X324.here hx rfl (hb hby ra_d161) k) ?_
  show own_Dn p e below s _ _ _ (T324.setTop (mkF m 162 #[ρ b0, ρ b1, ι w_s, ρ r126, υ] [(.int 1)]))
  have eqH : T324.heap = T285.heap := e324
  exact own_retZ X324 hx hret hlk (by decide) (hb hby ra_d162) (by decide) (by decide) (by rw [eqH]; exact ⟨(by rw [hr0, ra_f]), N324, F311, F299, F300, F301, F302, F303, F304, (by rw [hy6, ra_g6]; exact F308), F309, F313, F314, F315, F316, F317, F318, F319, (by rw [hy15, ra_g15]; exact F320), (by rw [hy16, ra_g16]; exact F312), (by rw [hy17, ra_g17]; exact F321), (by rw [hy18, ra_g18]; exact F322), (by rw [hy19, ra_g19]; exact F323)⟩)
theorem ra_ef (m : MethodId) (b0 : Addr) (b1 : Addr) : entryFrame m #[(.ref b0), (.ref b1)] 5 = mkF m 0 #[.val (.ref b0), .val (.ref b1), .unset, .unset, .unset] [] := by first | (simp [entryFrame, mkF, argsToLocals, Value.category]; done) | rfl
theorem ra_rm (l : Launch) (Z : State) (a0 : Array Value) (hw : ∀ d ∈ tables_1, d.before a0 Z = true) (ws : List Jvm.Cond) (b0 : Addr) (b1 : Addr) (w_p : Addr) (w_d : Addr) (w_1 : Addr) (w_2 : Addr) (w_k : Addr) (w_f : Addr) (w_l : Addr) (w_P : Nat → Int32) (w_D : Nat → Int32) (w_F : Nat → Int32) (w_L : Nat → Int32) (w_K : Nat → Int32) (w_c : Int32) (w_s : Int32) (w_U : Nat → Int32) (h0 : Heap) (n0 : Nat) (Z0 : n0 ≤ h0.size) (P0 : Exa Z h0 b0 ς0) (P1 : Fld Z h0 b0 ς0 "data" "[I" (.ref w_d)) (P2 : Fld Z h0 b0 ς0 "arity" "I" (.int 1)) (P3 : Fld Z h0 b0 ς0 "facts" ς5 (.ref w_f)) (P4 : Fld Z h0 b0 ς0 "indexes" ς10 (.ref w_l)) (P5 : Fld Z h0 b0 ς0 "removed" "[Z" .null) (P6 : own_Arf Z h0 w_d .int 16 (fun i => (.int (w_D i)))) (P7 : Exa Z h0 w_l ς3) (P8 : Fld Z h0 w_l ς6 "modCount" "I" (.int 0)) (P9 : Fld Z h0 w_l ς3 "size" "I" (.int 0)) (P10 : Fld Z h0 b0 ς0 "size" "I" (.int w_s)) (P11 : Exa Z h0 w_f ς1) (P12 : Fld Z h0 w_f ς1 "this$0" ς2 (.ref b0)) (P13 : Fld Z h0 w_f ς1 "positions" "[I" (.ref w_p)) (P14 : own_Arf Z h0 w_p .int 1 (fun i => (.int (w_P i)))) (P15 : Fld Z h0 w_f ς1 "firsts" "[I" (.ref w_1)) (P16 : Fld Z h0 w_f ς1 "lasts" "[I" (.ref w_2)) (P17 : Fld Z h0 w_f ς1 "rowKey" "[I" (.ref w_k)) (P18 : Fld Z h0 w_f ς1 "next" "[I" .null) (P19 : Fld Z h0 w_f ς1 "previous" "[I" .null) (P20 : Fld Z h0 w_f ς1 "keys" "I" (.int w_c)) (P21 : own_Arf Z h0 w_1 .int 16 (fun i => (.int (w_F i)))) (P22 : own_Arf Z h0 w_2 .int 16 (fun i => (.int (w_L i)))) (P23 : own_Arf Z h0 w_k .int 1 (fun i => (.int (w_K i)))) (P24 : own_Arf Z h0 b1 .int 1 (fun i => (.int (w_U i)))) (ge_b0 : n0 ≤ b0) (ge_w_f : n0 ≤ w_f) (ge_w_d : n0 ≤ w_d) (ge_w_1 : n0 ≤ w_1) (ge_w_2 : n0 ≤ w_2) (ge_w_k : n0 ≤ w_k) (nes0 : b0 ≠ w_p) (nes1 : w_f ≠ w_p) (nes2 : w_l ≠ w_p) (nes3 : b0 ≠ w_d) (nes4 : w_f ≠ w_d) (nes5 : w_l ≠ w_d) (nes6 : w_p ≠ w_d) (nes7 : b0 ≠ w_1) (nes8 : w_f ≠ w_1) (nes9 : w_l ≠ w_1) (nes10 : w_p ≠ w_1) (nes11 : w_d ≠ w_1) (nes12 : b0 ≠ w_2) (nes13 : w_f ≠ w_2) (nes14 : w_l ≠ w_2) (nes15 : w_p ≠ w_2) (nes16 : w_d ≠ w_2) (nes17 : w_1 ≠ w_2) (nes18 : b0 ≠ w_k) (nes19 : w_f ≠ w_k) (nes20 : w_l ≠ w_k) (nes21 : w_p ≠ w_k) (nes22 : w_d ≠ w_k) (nes23 : w_1 ≠ w_k) (nes24 : w_2 ≠ w_k) (nes25 : b1 ≠ w_d) (hP : w_P 0 = 0) (hA : own_RA w_F w_D w_s (w_U 0) w_c) (hfit : ¬ ((16 : Int32) < ((w_s + (1 : Int32)) * (1 : Int32)))) (hs16 : ¬ (w_s = (16 : Int32))) :
    MetFree l (⟨ς0, "add", "([I)Z"⟩ : MethodName) (head1 (Jvm.Cond.code (⟨ς0, "add", "([I)Z"⟩ : MethodName) prog_23_method_7_code 5 (some .boolean) :: ws) ({ frames := 3, cells := 1, slots := 4, locals := 46 } : Room)) (fun a U => a = #[(.ref b0), (.ref b1)] ∧ Z.Warmed39 U.vm ∧ U.heap = h0) (fun _ _ _ _ _ => True) (fun _ U o U' => ∃ v L, o = .returned v ∧ ra_Q Z b0 b1 w_p w_d w_1 w_2 w_k w_f w_l w_P w_D w_F w_L w_K w_c w_s w_U (ra_f w_P w_D w_F w_L w_K w_c w_s w_U) (ra_g6 w_P w_D w_F w_L w_K w_c w_s w_U) (ra_g15 w_P w_D w_F w_L w_K w_c w_s w_U) (ra_g16 w_P w_D w_F w_L w_K w_c w_s w_U) (ra_g17 w_P w_D w_F w_L w_K w_c w_s w_U) (ra_g18 w_P w_D w_F w_L w_K w_c w_s w_U) (ra_g19 w_P w_D w_F w_L w_K w_c w_s w_U) h0 n0 v U'.heap L ∧ FrameEnd U o U' L ({ frames := 3, cells := 1, slots := 4, locals := 46 } : Room).cells ({ frames := 3, cells := 1, slots := 4, locals := 46 } : Room).slots) :=
  own_met hw (plainFor_of_name (by first | (simp [plainName, overriddenIn]; done) | decide +kernel)) (fun p e s m below meth c T0 C0 X0 e0 => own_st (fun _ k => castTop (ra_ef m b0 b1) k) (ra_c0 C0 X0 e0 (Fr.nil n0) Z0 P0 P1 P2 P3 P4 P5 P6 P7 P8 P9 P10 P11 P12 P13 P14 P15 P16 P17 P18 P19 P20 P21 P22 P23 P24 ge_b0 ge_w_f ge_w_d ge_w_1 ge_w_2 ge_w_k nes0 nes1 nes2 nes3 nes4 nes5 nes6 nes7 nes8 nes9 nes10 nes11 nes12 nes13 nes14 nes15 nes16 nes17 nes18 nes19 nes20 nes21 nes22 nes23 nes24 nes25 hP hA hfit hs16 rfl rfl rfl rfl rfl rfl rfl))
theorem rv_d91 : decode prog_23_method_7_code 91 = .ok (.iload_n 2, 1) := by decide +kernel
theorem rv_d92 : decode prog_23_method_7_code 92 = .ok (.aload_n 0, 1) := by decide +kernel
theorem rv_d93 : decode prog_23_method_7_code 93 = .ok (.getfield 64, 3) := by decide +kernel
theorem rv_d96 : decode prog_23_method_7_code 96 = .ok (.arraylength, 1) := by decide +kernel
theorem rv_d97 : decode prog_23_method_7_code 97 = .ok (.if_icmp .ne 17, 3) := by decide +kernel
def rv_Q (Z : State) (b0 : Addr) (b1 : Addr) (w_p : Addr) (w_d : Addr) (w_1 : Addr) (w_2 : Addr) (w_k : Addr) (w_f : Addr) (w_l : Addr) (w_P : Nat → Int32) (w_D : Nat → Int32) (w_F : Nat → Int32) (w_L : Nat → Int32) (w_K : Nat → Int32) (w_c : Int32) (w_s : Int32) (w_U : Nat → Int32) (w_v : Addr) (w_V : Nat → Int32) (r0 : Int32) (y6 : Int32) (y15 : Int32) (y16 : Nat → Int32) (y17 : Nat → Int32) (y18 : Nat → Int32) (y19 : Nat → Int32) (h0 : Heap) (n0 : Nat) (v : Option Value) (h : Heap) (L : List Loc) : Prop := v = some (.int r0) ∧ Fr n0 L ∧ Keep h0 h [b0, w_f, w_d, w_1, w_2, w_k] ∧ Exa Z h b0 ς0 ∧ Fld Z h b0 ς0 "data" "[I" (.ref w_d) ∧ Fld Z h b0 ς0 "arity" "I" (.int 1) ∧ Fld Z h b0 ς0 "facts" ς5 (.ref w_f) ∧ Fld Z h b0 ς0 "indexes" ς10 (.ref w_l) ∧ Fld Z h b0 ς0 "removed" "[Z" (.ref w_v) ∧ Fld Z h b0 ς0 "size" "I" (.int y6) ∧ Exa Z h w_f ς1 ∧ Fld Z h w_f ς1 "this$0" ς2 (.ref b0) ∧ Fld Z h w_f ς1 "positions" "[I" (.ref w_p) ∧ Fld Z h w_f ς1 "firsts" "[I" (.ref w_1) ∧ Fld Z h w_f ς1 "lasts" "[I" (.ref w_2) ∧ Fld Z h w_f ς1 "rowKey" "[I" (.ref w_k) ∧ Fld Z h w_f ς1 "next" "[I" .null ∧ Fld Z h w_f ς1 "previous" "[I" .null ∧ Fld Z h w_f ς1 "keys" "I" (.int y15) ∧ own_Arf Z h w_d .int 16 (fun i => (.int (y16 i))) ∧ own_Arf Z h w_1 .int 16 (fun i => (.int (y17 i))) ∧ own_Arf Z h w_2 .int 16 (fun i => (.int (y18 i))) ∧ own_Arf Z h w_k .int 1 (fun i => (.int (y19 i))) ∧ own_Arf Z h w_v .boolean 16 (fun i => (.int (w_V i)))
def rv_f (w_P : Nat → Int32) (w_D : Nat → Int32) (w_F : Nat → Int32) (w_L : Nat → Int32) (w_K : Nat → Int32) (w_c : Int32) (w_s : Int32) (w_U : Nat → Int32) (w_V : Nat → Int32)  : Int32 :=
  (1 : Int32)
def rv_g6 (w_P : Nat → Int32) (w_D : Nat → Int32) (w_F : Nat → Int32) (w_L : Nat → Int32) (w_K : Nat → Int32) (w_c : Int32) (w_s : Int32) (w_U : Nat → Int32) (w_V : Nat → Int32)  : Int32 :=
  (w_s + (1 : Int32))
def rv_g15 (w_P : Nat → Int32) (w_D : Nat → Int32) (w_F : Nat → Int32) (w_L : Nat → Int32) (w_K : Nat → Int32) (w_c : Int32) (w_s : Int32) (w_U : Nat → Int32) (w_V : Nat → Int32)  : Int32 :=
  (ia_g8 w_s w_P (own_upd w_D ((w_s * (1 : Int32))).toNatClampNeg (w_U 0)) w_F w_L w_K w_c)
def rv_g16 (w_P : Nat → Int32) (w_D : Nat → Int32) (w_F : Nat → Int32) (w_L : Nat → Int32) (w_K : Nat → Int32) (w_c : Int32) (w_s : Int32) (w_U : Nat → Int32) (w_V : Nat → Int32)  : Nat → Int32 :=
  (own_upd w_D ((w_s * (1 : Int32))).toNatClampNeg (w_U 0))
def rv_g17 (w_P : Nat → Int32) (w_D : Nat → Int32) (w_F : Nat → Int32) (w_L : Nat → Int32) (w_K : Nat → Int32) (w_c : Int32) (w_s : Int32) (w_U : Nat → Int32) (w_V : Nat → Int32)  : Nat → Int32 :=
  (ia_g9 w_s w_P (own_upd w_D ((w_s * (1 : Int32))).toNatClampNeg (w_U 0)) w_F w_L w_K w_c)
def rv_g18 (w_P : Nat → Int32) (w_D : Nat → Int32) (w_F : Nat → Int32) (w_L : Nat → Int32) (w_K : Nat → Int32) (w_c : Int32) (w_s : Int32) (w_U : Nat → Int32) (w_V : Nat → Int32)  : Nat → Int32 :=
  (ia_g10 w_s w_P (own_upd w_D ((w_s * (1 : Int32))).toNatClampNeg (w_U 0)) w_F w_L w_K w_c)
def rv_g19 (w_P : Nat → Int32) (w_D : Nat → Int32) (w_F : Nat → Int32) (w_L : Nat → Int32) (w_K : Nat → Int32) (w_c : Int32) (w_s : Int32) (w_U : Nat → Int32) (w_V : Nat → Int32)  : Nat → Int32 :=
  (ia_g11 w_s w_P (own_upd w_D ((w_s * (1 : Int32))).toNatClampNeg (w_U 0)) w_F w_L w_K w_c)
set_option maxRecDepth 65536 in
set_option maxHeartbeats 40000000 in
theorem rv_c0 {b0 : Addr} {b1 : Addr} {w_p : Addr} {w_d : Addr} {w_1 : Addr} {w_2 : Addr} {w_k : Addr} {w_f : Addr} {w_l : Addr} {w_P : Nat → Int32} {w_D : Nat → Int32} {w_F : Nat → Int32} {w_L : Nat → Int32} {w_K : Nat → Int32} {w_c : Int32} {w_s : Int32} {w_U : Nat → Int32} {w_v : Addr} {w_V : Nat → Int32} {locs : List Loc} {r0 : Int32} {y6 : Int32} {y15 : Int32} {y16 : Nat → Int32} {y17 : Nat → Int32} {y18 : Nat → Int32} {y19 : Nat → Int32} (C0 : own_Cx p s m meth c Z a0 prog_23_method_7_code 5 ς0 "add" (some .boolean)) (X0 : Stand p l e ({ frames := 3, cells := 1, slots := 4, locals := 46 } : Room) s m args below meth c T0 locs 0 0) (e0 : T0.heap = h0) (N0 : Fr n0 locs)  (Z0 : n0 ≤ h0.size) (P0 : Exa Z h0 b0 ς0) (P1 : Fld Z h0 b0 ς0 "data" "[I" (.ref w_d)) (P2 : Fld Z h0 b0 ς0 "arity" "I" (.int 1)) (P3 : Fld Z h0 b0 ς0 "facts" ς5 (.ref w_f)) (P4 : Fld Z h0 b0 ς0 "indexes" ς10 (.ref w_l)) (P5 : Fld Z h0 b0 ς0 "removed" "[Z" (.ref w_v)) (P6 : own_Arf Z h0 w_d .int 16 (fun i => (.int (w_D i)))) (P7 : Exa Z h0 w_l ς3) (P8 : Fld Z h0 w_l ς6 "modCount" "I" (.int 0)) (P9 : Fld Z h0 w_l ς3 "size" "I" (.int 0)) (P10 : Fld Z h0 b0 ς0 "size" "I" (.int w_s)) (P11 : Exa Z h0 w_f ς1) (P12 : Fld Z h0 w_f ς1 "this$0" ς2 (.ref b0)) (P13 : Fld Z h0 w_f ς1 "positions" "[I" (.ref w_p)) (P14 : own_Arf Z h0 w_p .int 1 (fun i => (.int (w_P i)))) (P15 : Fld Z h0 w_f ς1 "firsts" "[I" (.ref w_1)) (P16 : Fld Z h0 w_f ς1 "lasts" "[I" (.ref w_2)) (P17 : Fld Z h0 w_f ς1 "rowKey" "[I" (.ref w_k)) (P18 : Fld Z h0 w_f ς1 "next" "[I" .null) (P19 : Fld Z h0 w_f ς1 "previous" "[I" .null) (P20 : Fld Z h0 w_f ς1 "keys" "I" (.int w_c)) (P21 : own_Arf Z h0 w_1 .int 16 (fun i => (.int (w_F i)))) (P22 : own_Arf Z h0 w_2 .int 16 (fun i => (.int (w_L i)))) (P23 : own_Arf Z h0 w_k .int 1 (fun i => (.int (w_K i)))) (P24 : own_Arf Z h0 b1 .int 1 (fun i => (.int (w_U i)))) (P25 : own_Arf Z h0 w_v .boolean 16 (fun i => (.int (w_V i)))) (ge_b0 : n0 ≤ b0) (ge_w_f : n0 ≤ w_f) (ge_w_d : n0 ≤ w_d) (ge_w_1 : n0 ≤ w_1) (ge_w_2 : n0 ≤ w_2) (ge_w_k : n0 ≤ w_k) (nes0 : b0 ≠ w_p) (nes1 : w_f ≠ w_p) (nes2 : w_l ≠ w_p) (nes3 : b0 ≠ w_d) (nes4 : w_f ≠ w_d) (nes5 : w_l ≠ w_d) (nes6 : w_p ≠ w_d) (nes7 : b0 ≠ w_1) (nes8 : w_f ≠ w_1) (nes9 : w_l ≠ w_1) (nes10 : w_p ≠ w_1) (nes11 : w_d ≠ w_1) (nes12 : b0 ≠ w_2) (nes13 : w_f ≠ w_2) (nes14 : w_l ≠ w_2) (nes15 : w_p ≠ w_2) (nes16 : w_d ≠ w_2) (nes17 : w_1 ≠ w_2) (nes18 : b0 ≠ w_k) (nes19 : w_f ≠ w_k) (nes20 : w_l ≠ w_k) (nes21 : w_p ≠ w_k) (nes22 : w_d ≠ w_k) (nes23 : w_1 ≠ w_k) (nes24 : w_2 ≠ w_k) (nes25 : b0 ≠ w_v) (nes26 : w_f ≠ w_v) (nes27 : w_l ≠ w_v) (nes28 : w_p ≠ w_v) (nes29 : w_d ≠ w_v) (nes30 : w_1 ≠ w_v) (nes31 : w_2 ≠ w_v) (nes32 : w_k ≠ w_v) (nes33 : b1 ≠ w_d) (hP : w_P 0 = 0) (hA : own_RA w_F w_D w_s (w_U 0) w_c) (hfit : ¬ ((16 : Int32) < ((w_s + (1 : Int32)) * (1 : Int32)))) (hs16 : ¬ (w_s = (16 : Int32))) (hr0 : r0 = rv_f w_P w_D w_F w_L w_K w_c w_s w_U w_V ) (hy6 : y6 = rv_g6 w_P w_D w_F w_L w_K w_c w_s w_U w_V ) (hy15 : y15 = rv_g15 w_P w_D w_F w_L w_K w_c w_s w_U w_V ) (hy16 : y16 = rv_g16 w_P w_D w_F w_L w_K w_c w_s w_U w_V ) (hy17 : y17 = rv_g17 w_P w_D w_F w_L w_K w_c w_s w_U w_V ) (hy18 : y18 = rv_g18 w_P w_D w_F w_L w_K w_c w_s w_U w_V ) (hy19 : y19 = rv_g19 w_P w_D w_F w_L w_K w_c w_s w_U w_V ) :
    own_Dn p e below s (rv_Q Z b0 b1 w_p w_d w_1 w_2 w_k w_f w_l w_P w_D w_F w_L w_K w_c w_s w_U w_v w_V r0 y6 y15 y16 y17 y18 y19 h0 n0) ({ frames := 3, cells := 1, slots := 4, locals := 46 } : Room).cells ({ frames := 3, cells := 1, slots := 4, locals := 46 } : Room).slots (T0.setTop (mkF m 0 #[ρ b0, ρ b1, υ, υ, υ] [])) := by
  obtain ⟨hx, hZ, hw, hby, hml, hown, hret, hlk, hnm⟩ := id C0
  refine own_st (fun _ k => XS.aloadN X0.here hx rfl (hb hby ra_d0) rfl rfl k) ?_
  show own_Dn p e below s _ _ _ (T0.setTop (mkF m 1 #[ρ b0, ρ b1, υ, υ, υ] [(.ref b0)]))
  obtain ⟨T170, X170, e170, st170⟩ := getF X0 hx hZ hown (host := "") (Or.inl (own_w hw 112 rfl)) Via.refl e0 P3 (g := (mkF m 1 #[ρ b0, ρ b1, υ, υ, υ] [(.ref b0)])) rfl rfl (hb hby ra_d1)
  refine own_st st170 ?_
  show own_Dn p e below s _ _ _ (T170.setTop (mkF m 4 #[ρ b0, ρ b1, υ, υ, υ] [(.ref w_f)]))
  refine own_st (fun _ k => XS.aloadN X170.here hx rfl (hb hby ra_d4) rfl rfl k) ?_
  show own_Dn p e below s _ _ _ (T170.setTop (mkF m 5 #[ρ b0, ρ b1, υ, υ, υ] [(.ref b1), (.ref w_f)]))
  obtain ⟨cq171, kq171, q171a, q171b, q171c⟩ := isOf hZ e170 P11
  obtain ⟨_, _, ⟨T171, L171, k171, n171⟩, -, X171, ⟨Lc171, hQ171, l171, y171, z171⟩, st171⟩ := X170.virtualBack hx (y := (⟨ς1, "first", "([I)I"⟩ : MethodName)) (z := (⟨ς1, "first", "([I)I"⟩ : MethodName)) hown (mvT hZ (own_w hw 119 rfl)) (mvT hZ (own_w hw 120 rfl)) (notFace_of_selects (args := #[]) (mvT hZ (own_w hw 122 rfl))) (mvT hZ (own_w hw 122 rfl)) (mvT hZ (own_w hw 121 rfl)) (by decide) (backOf (W := 0) (fs_rm l Z a0 hw [] (w_f) (b1) (b0) (w_p) (w_d) (w_P) (w_D) (w_1) (w_F) (w_U) h0 n0 Z0 P11 P12 P13 P14 P0 P1 P2 P6 P15 P21 P24 hP hA.1) hZ (own_w hw 123 rfl) (own_w hw 95 rfl) (by decide) (by decide)) q171a q171c (g := (mkF m 5 #[ρ b0, ρ b1, υ, υ, υ] [(.ref b1), (.ref w_f)])) rfl (by rw [hml]; rfl) (Steps.refl _) (argsL := [(.ref b1)]) (rest := []) (lenOf own_pd2 rfl) rfl (by show 2 * 0 + _ ≤ _; exact Nat.le_of_eq rfl) (hb hby ra_d5) (fun _ _ => ⟨rfl, e170, (by decide : 0 + 0 ≤ _), (by decide : 0 + 0 ≤ _)⟩)
  dsimp only [Pt.U, Pt.locs, Pt.cells, Pt.slots] at X171 l171 y171 z171 st171 hQ171
  subst l171 y171 z171
  obtain ⟨rfl, N171q, K171⟩ := hQ171
  have F172 : n0 ≤ T171.heap.size := Nat.le_trans Z0 K171.1
  have F173 := P0.keep K171
  have F174 := P1.keep K171 nin0
  have F175 := P2.keep K171 nin0
  have F176 := P3.keep K171 nin0
  have F177 := P4.keep K171 nin0
  have F178 := P5.keep K171 nin0
  have F179 := P6.keep K171 nin0
  have F180 := P7.keep K171
  have F181 := P8.keep K171 nin0
  have F182 := P9.keep K171 nin0
  have F183 := P10.keep K171 nin0
  have F184 := P11.keep K171
  have F185 := P12.keep K171 nin0
  have F186 := P13.keep K171 nin0
  have F187 := P14.keep K171 nin0
  have F188 := P15.keep K171 nin0
  have F189 := P16.keep K171 nin0
  have F190 := P17.keep K171 nin0
  have F191 := P18.keep K171 nin0
  have F192 := P19.keep K171 nin0
  have F193 := P20.keep K171 nin0
  have F194 := P21.keep K171 nin0
  have F195 := P22.keep K171 nin0
  have F196 := P23.keep K171 nin0
  have F197 := P24.keep K171 nin0
  have F198 := P25.keep K171 nin0
  have F199 : Keep h0 T171.heap [b0, w_f, w_d, w_1, w_2, w_k] := (Keep.refl h0 [b0, w_f, w_d, w_1, w_2, w_k]).trans K171 all0
  have N171 := Fr.app N0 N171q
  refine own_tr st171 ?_
  have ha200 : (fs_f w_P w_D w_F w_U) < (0 : Int32) := own_fst hP hA
  show own_Dn p e below s _ _ _ (T171.setTop (mkF m 8 #[ρ b0, ρ b1, υ, υ, υ] [(.int (fs_f w_P w_D w_F w_U))]))
  refine own_st (fun _ k => XS.ifYes X171.here hx rfl (pc0 := 8) (pc' := 13) rfl (hb hby ra_d8) rfl ((if0 _ _).trans (tlt ha200).1) (by decide) (by decide) k) ?_
  show own_Dn p e below s _ _ _ (T171.setTop (mkF m 13 #[ρ b0, ρ b1, υ, υ, υ] []))
  refine own_st (fun _ k => XS.aloadN X171.here hx rfl (hb hby ra_d13) rfl rfl k) ?_
  show own_Dn p e below s _ _ _ (T171.setTop (mkF m 14 #[ρ b0, ρ b1, υ, υ, υ] [(.ref b0)]))
  obtain ⟨T201, X201, e201, st201⟩ := getF X171 hx hZ hown (host := "") (Or.inl (own_w hw 134 rfl)) Via.refl rfl F183 (g := (mkF m 14 #[ρ b0, ρ b1, υ, υ, υ] [(.ref b0)])) rfl rfl (hb hby ra_d14)
  refine own_st st201 ?_
  show own_Dn p e below s _ _ _ (T201.setTop (mkF m 17 #[ρ b0, ρ b1, υ, υ, υ] [(.int w_s)]))
  refine own_st (fun _ k => XS.iconst X201.here hx rfl (hb hby ra_d17) (XS.iadd X201.here hx rfl (hb hby ra_d18) rfl (XS.aloadN X201.here hx rfl (hb hby ra_d19) rfl rfl k))) ?_
  show own_Dn p e below s _ _ _ (T201.setTop (mkF m 20 #[ρ b0, ρ b1, υ, υ, υ] [(.ref b0), (.int (w_s + (1 : Int32)))]))
  obtain ⟨T202, X202, e202, st202⟩ := getF X201 hx hZ hown (host := "") (Or.inl (own_w hw 69 rfl)) Via.refl e201 F175 (g := (mkF m 20 #[ρ b0, ρ b1, υ, υ, υ] [(.ref b0), (.int (w_s + (1 : Int32)))])) rfl rfl (hb hby ra_d20)
  refine own_st st202 ?_
  show own_Dn p e below s _ _ _ (T202.setTop (mkF m 23 #[ρ b0, ρ b1, υ, υ, υ] [(.int 1), (.int (w_s + (1 : Int32)))]))
  refine own_st (fun _ k => XS.imul X202.here hx rfl (hb hby ra_d23) rfl (XS.aloadN X202.here hx rfl (hb hby ra_d24) rfl rfl k)) ?_
  show own_Dn p e below s _ _ _ (T202.setTop (mkF m 25 #[ρ b0, ρ b1, υ, υ, υ] [(.ref b0), (.int ((w_s + (1 : Int32)) * (1 : Int32)))]))
  obtain ⟨T203, X203, e203, st203⟩ := getF X202 hx hZ hown (host := "") (Or.inl (own_w hw 75 rfl)) Via.refl e202 F174 (g := (mkF m 25 #[ρ b0, ρ b1, υ, υ, υ] [(.ref b0), (.int ((w_s + (1 : Int32)) * (1 : Int32)))])) rfl rfl (hb hby ra_d25)
  refine own_st st203 ?_
  show own_Dn p e below s _ _ _ (T203.setTop (mkF m 28 #[ρ b0, ρ b1, υ, υ, υ] [(.ref w_d), (.int ((w_s + (1 : Int32)) * (1 : Int32)))]))
  refine own_st (own_len (pc := 28) (L := #[ρ b0, ρ b1, υ, υ, υ]) (rest := [(.int ((w_s + (1 : Int32)) * (1 : Int32)))]) X203 hx hZ e203 F179 (z := (16 : Int32)) rfl (hb hby ra_d28)) ?_
  show own_Dn p e below s _ _ _ (T203.setTop (mkF m 29 #[ρ b0, ρ b1, υ, υ, υ] [(.int 16), (.int ((w_s + (1 : Int32)) * (1 : Int32)))]))
  refine own_st (fun _ k => XS.icmpYes X203.here hx rfl (pc0 := 29) (pc' := 50) rfl (hb hby ra_d29) rfl (flt hfit).2.2.2 (by decide) (by decide) k) ?_
  show own_Dn p e below s _ _ _ (T203.setTop (mkF m 50 #[ρ b0, ρ b1, υ, υ, υ] []))
  refine own_st (fun _ k => XS.aloadN X203.here hx rfl (hb hby ra_d50) rfl rfl (XS.iconst X203.here hx rfl (hb hby ra_d51) (XS.aloadN X203.here hx rfl (hb hby ra_d52) rfl rfl k))) ?_
  show own_Dn p e below s _ _ _ (T203.setTop (mkF m 53 #[ρ b0, ρ b1, υ, υ, υ] [(.ref b0), (.int 0), (.ref b1)]))
  obtain ⟨T204, X204, e204, st204⟩ := getF X203 hx hZ hown (host := "") (Or.inl (own_w hw 75 rfl)) Via.refl e203 F174 (g := (mkF m 53 #[ρ b0, ρ b1, υ, υ, υ] [(.ref b0), (.int 0), (.ref b1)])) rfl rfl (hb hby ra_d53)
  refine own_st st204 ?_
  show own_Dn p e below s _ _ _ (T204.setTop (mkF m 56 #[ρ b0, ρ b1, υ, υ, υ] [(.ref w_d), (.int 0), (.ref b1)]))
  refine own_st (fun _ k => XS.aloadN X204.here hx rfl (hb hby ra_d56) rfl rfl k) ?_
  show own_Dn p e below s _ _ _ (T204.setTop (mkF m 57 #[ρ b0, ρ b1, υ, υ, υ] [(.ref b0), (.ref w_d), (.int 0), (.ref b1)]))
  obtain ⟨T205, X205, e205, st205⟩ := getF X204 hx hZ hown (host := "") (Or.inl (own_w hw 134 rfl)) Via.refl e204 F183 (g := (mkF m 57 #[ρ b0, ρ b1, υ, υ, υ] [(.ref b0), (.ref w_d), (.int 0), (.ref b1)])) rfl rfl (hb hby ra_d57)
  refine own_st st205 ?_
  show own_Dn p e below s _ _ _ (T205.setTop (mkF m 60 #[ρ b0, ρ b1, υ, υ, υ] [(.int w_s), (.ref w_d), (.int 0), (.ref b1)]))
  refine own_st (fun _ k => XS.aloadN X205.here hx rfl (hb hby ra_d60) rfl rfl k) ?_
  show own_Dn p e below s _ _ _ (T205.setTop (mkF m 61 #[ρ b0, ρ b1, υ, υ, υ] [(.ref b0), (.int w_s), (.ref w_d), (.int 0), (.ref b1)]))
  obtain ⟨T206, X206, e206, st206⟩ := getF X205 hx hZ hown (host := "") (Or.inl (own_w hw 69 rfl)) Via.refl e205 F175 (g := (mkF m 61 #[ρ b0, ρ b1, υ, υ, υ] [(.ref b0), (.int w_s), (.ref w_d), (.int 0), (.ref b1)])) rfl rfl (hb hby ra_d61)
  refine own_st st206 ?_
  show own_Dn p e below s _ _ _ (T206.setTop (mkF m 64 #[ρ b0, ρ b1, υ, υ, υ] [(.int 1), (.int w_s), (.ref w_d), (.int 0), (.ref b1)]))
  refine own_st (fun _ k => XS.imul X206.here hx rfl (hb hby ra_d64) rfl (XS.aloadN X206.here hx rfl (hb hby ra_d65) rfl rfl k)) ?_
  show own_Dn p e below s _ _ _ (T206.setTop (mkF m 66 #[ρ b0, ρ b1, υ, υ, υ] [(.ref b0), (.int (w_s * (1 : Int32))), (.ref w_d), (.int 0), (.ref b1)]))
  obtain ⟨T207, X207, e207, st207⟩ := getF X206 hx hZ hown (host := "") (Or.inl (own_w hw 69 rfl)) Via.refl e206 F175 (g := (mkF m 66 #[ρ b0, ρ b1, υ, υ, υ] [(.ref b0), (.int (w_s * (1 : Int32))), (.ref w_d), (.int 0), (.ref b1)])) rfl rfl (hb hby ra_d66)
  refine own_st st207 ?_
  show own_Dn p e below s _ _ _ (T207.setTop (mkF m 69 #[ρ b0, ρ b1, υ, υ, υ] [(.int 1), (.int (w_s * (1 : Int32))), (.ref w_d), (.int 0), (.ref b1)]))
  obtain ⟨T208, h208, Lc208, X208, e208, N208, K208, F208a, st208⟩ := own_acopy1 X207 hx hZ hown (own_w hw 136 rfl) (own_w hw 139 rfl) (own_w hw 137 rfl) (own_w hw 138 rfl) e207 F197 F179 (dp := (w_s * (1 : Int32))) (by rw [Int32.mul_one]; exact own_RA_r hA) N171 ge_w_d (g := (mkF m 69 #[ρ b0, ρ b1, υ, υ, υ] [(.int 1), (.int (w_s * (1 : Int32))), (.ref w_d), (.int 0), (.ref b1)])) rfl (by rw [hml]; rfl) (rest := []) rfl (hb hby ra_d69) (by decide) (W := 0) (by show 2 * 0 + _ ≤ _; exact Nat.le_of_eq rfl) (by decide)
  have F209 : n0 ≤ h208.size := Nat.le_trans F172 K208.1
  have F210 := F173.keep K208
  have F211 := F174.keep K208 (ninS nes3 nin0)
  have F212 := F175.keep K208 (ninS nes3 nin0)
  have F213 := F176.keep K208 (ninS nes3 nin0)
  have F214 := F177.keep K208 (ninS nes3 nin0)
  have F215 := F178.keep K208 (ninS nes3 nin0)
  have F216 := F180.keep K208
  have F217 := F181.keep K208 (ninS nes5 nin0)
  have F218 := F182.keep K208 (ninS nes5 nin0)
  have F219 := F183.keep K208 (ninS nes3 nin0)
  have F220 := F184.keep K208
  have F221 := F185.keep K208 (ninS nes4 nin0)
  have F222 := F186.keep K208 (ninS nes4 nin0)
  have F223 := F187.keep K208 (ninS nes6 nin0)
  have F224 := F188.keep K208 (ninS nes4 nin0)
  have F225 := F189.keep K208 (ninS nes4 nin0)
  have F226 := F190.keep K208 (ninS nes4 nin0)
  have F227 := F191.keep K208 (ninS nes4 nin0)
  have F228 := F192.keep K208 (ninS nes4 nin0)
  have F229 := F193.keep K208 (ninS nes4 nin0)
  have F230 := F194.keep K208 (ninS (Ne.symm nes11) nin0)
  have F231 := F195.keep K208 (ninS (Ne.symm nes16) nin0)
  have F232 := F196.keep K208 (ninS (Ne.symm nes22) nin0)
  have F233 := F198.keep K208 (ninS (Ne.symm nes29) nin0)
  have F234 : Keep h0 h208 [b0, w_f, w_d, w_1, w_2, w_k] := F199.trans K208 (allS (Or.inl (List.mem_of_getElem? (i := 2) rfl)) all0)
  refine own_st st208 ?_
  show own_Dn p e below s _ _ _ (T208.setTop (mkF m 72 #[ρ b0, ρ b1, υ, υ, υ] []))
  refine own_st (fun _ k => XS.aloadN X208.here hx rfl (hb hby ra_d72) rfl rfl (XS.dup X208.here hx rfl (hb hby ra_d73) rfl rfl k)) ?_
  show own_Dn p e below s _ _ _ (T208.setTop (mkF m 74 #[ρ b0, ρ b1, υ, υ, υ] [(.ref b0), (.ref b0)]))
  obtain ⟨T235, X235, e235, st235⟩ := getF X208 hx hZ hown (host := "") (Or.inl (own_w hw 134 rfl)) Via.refl e208 F219 (g := (mkF m 74 #[ρ b0, ρ b1, υ, υ, υ] [(.ref b0), (.ref b0)])) rfl rfl (hb hby ra_d74)
  refine own_st st235 ?_
  show own_Dn p e below s _ _ _ (T235.setTop (mkF m 77 #[ρ b0, ρ b1, υ, υ, υ] [(.int w_s), (.ref b0)]))
  refine own_st (fun _ k => XS.dupX1 X235.here hx rfl (hb hby ra_d77) rfl rfl rfl (XS.iconst X235.here hx rfl (hb hby ra_d78) (XS.iadd X235.here hx rfl (hb hby ra_d79) rfl k))) ?_
  show own_Dn p e below s _ _ _ (T235.setTop (mkF m 80 #[ρ b0, ρ b1, υ, υ, υ] [(.int (w_s + (1 : Int32))), (.ref b0), (.int w_s)]))
  obtain ⟨T236, h236, X236, e236, W236, st236⟩ := putF X235 hx hZ hown (host := "") (Or.inl (own_w hw 134 rfl)) Via.refl e235 F219 F210 (Or.inl (own_w hw 135 rfl)) (own_w hw 2 rfl) (ty := .int) (v := (.int (w_s + (1 : Int32)))) (by decide) rfl rfl (g := (mkF m 80 #[ρ b0, ρ b1, υ, υ, υ] [(.int (w_s + (1 : Int32))), (.ref b0), (.int w_s)])) rfl rfl (hb hby ra_d80)
  have N236 := Fr.snoc X236 N208 ge_b0
  have F237 : n0 ≤ h236.size := Nat.le_trans F209 (Keep.of_wr W236).1
  have F238 := F210.wr W236
  have F239 := F211.other W236 (Or.inr (slot_ne (Or.inl (own_w hw 76 rfl)) (Or.inl (own_w hw 135 rfl)) (by decide) (t := (.array .int)) (t' := .int) (by decide) (by decide)))
  have F240 := F212.other W236 (Or.inr (slot_ne (Or.inr (own_w hw 70 rfl)) (Or.inl (own_w hw 135 rfl)) (by decide) (t := .int) (t' := .int) (by decide) (by decide)))
  have F241 := F213.other W236 (Or.inr (slot_ne (Or.inr (own_w hw 113 rfl)) (Or.inl (own_w hw 135 rfl)) (by decide) (t := (.object ς1)) (t' := .int) (by decide) (by decide)))
  have F242 := F214.other W236 (Or.inr (slot_ne (Or.inr (own_w hw 59 rfl)) (Or.inl (own_w hw 135 rfl)) (by decide) (t := (.object "java/util/List")) (t' := .int) (by decide) (by decide)))
  have F243 := F215.other W236 (Or.inr (slot_ne (Or.inl (own_w hw 141 rfl)) (Or.inl (own_w hw 135 rfl)) (by decide) (t := (.array .boolean)) (t' := .int) (by decide) (by decide)))
  have F244 := F216.wr W236
  have F245 := F217.other W236 (Or.inl (ne_exa F216 F210 (by decide)))
  have F246 := F218.other W236 (Or.inl (ne_exa F216 F210 (by decide)))
  have F247 : Fld Z h236 b0 ς0 "size" "I" (.int (w_s + (1 : Int32))) := F219.same W236
  have F248 := F220.wr W236
  have F249 := F221.other W236 (Or.inl (ne_exa F220 F210 (by decide)))
  have F250 := F222.other W236 (Or.inl (ne_exa F220 F210 (by decide)))
  have F251 := F223.other W236 (Ne.symm nes0)
  have F252 := F224.other W236 (Or.inl (ne_exa F220 F210 (by decide)))
  have F253 := F225.other W236 (Or.inl (ne_exa F220 F210 (by decide)))
  have F254 := F226.other W236 (Or.inl (ne_exa F220 F210 (by decide)))
  have F255 := F227.other W236 (Or.inl (ne_exa F220 F210 (by decide)))
  have F256 := F228.other W236 (Or.inl (ne_exa F220 F210 (by decide)))
  have F257 := F229.other W236 (Or.inl (ne_exa F220 F210 (by decide)))
  have F258 := F230.other W236 (Ne.symm nes7)
  have F259 := F231.other W236 (Ne.symm nes12)
  have F260 := F232.other W236 (Ne.symm nes18)
  have F261 := F233.other W236 (Ne.symm nes25)
  have F262 : Keep h0 h236 [b0, w_f, w_d, w_1, w_2, w_k] := F234.wr W236 (Or.inl (List.mem_of_getElem? (i := 0) rfl))
  have F263 := F208a.other W236 (Ne.symm nes3)
  refine own_st st236 ?_
  show own_Dn p e below s _ _ _ (T236.setTop (mkF m 83 #[ρ b0, ρ b1, υ, υ, υ] [(.int w_s)]))
  refine own_st (fun _ k => XS.istoreN X236.here hx rfl (hb hby ra_d83) rfl (l' := #[ρ b0, ρ b1, ι w_s, υ, υ]) rfl (XS.aloadN X236.here hx rfl (hb hby ra_d84) rfl rfl k)) ?_
  show own_Dn p e below s _ _ _ (T236.setTop (mkF m 85 #[ρ b0, ρ b1, ι w_s, υ, υ] [(.ref b0)]))
  obtain ⟨T264, X264, e264, st264⟩ := getF X236 hx hZ hown (host := "") (Or.inl (own_w hw 140 rfl)) Via.refl e236 F243 (g := (mkF m 85 #[ρ b0, ρ b1, ι w_s, υ, υ] [(.ref b0)])) rfl rfl (hb hby ra_d85)
  refine own_st st264 ?_
  show own_Dn p e below s _ _ _ (T264.setTop (mkF m 88 #[ρ b0, ρ b1, ι w_s, υ, υ] [(.ref w_v)]))
  refine own_st (fun _ k => XS.ifnullNo X264.here hx rfl (hb hby ra_d88) rfl k) ?_
  show own_Dn p e below s _ _ _ (T264.setTop (mkF m 91 #[ρ b0, ρ b1, ι w_s, υ, υ] []))
  refine own_st (fun _ k => XS.iloadN X264.here hx rfl (hb hby rv_d91) rfl (XS.aloadN X264.here hx rfl (hb hby rv_d92) rfl rfl k)) ?_
  show own_Dn p e below s _ _ _ (T264.setTop (mkF m 93 #[ρ b0, ρ b1, ι w_s, υ, υ] [(.ref b0), (.int w_s)]))
  obtain ⟨T265, X265, e265, st265⟩ := getF X264 hx hZ hown (host := "") (Or.inl (own_w hw 140 rfl)) Via.refl e264 F243 (g := (mkF m 93 #[ρ b0, ρ b1, ι w_s, υ, υ] [(.ref b0), (.int w_s)])) rfl rfl (hb hby rv_d93)
  refine own_st st265 ?_
  show own_Dn p e below s _ _ _ (T265.setTop (mkF m 96 #[ρ b0, ρ b1, ι w_s, υ, υ] [(.ref w_v), (.int w_s)]))
  refine own_st (own_len (pc := 96) (L := #[ρ b0, ρ b1, ι w_s, υ, υ]) (rest := [(.int w_s)]) X265 hx hZ e265 F261 (z := (16 : Int32)) rfl (hb hby rv_d96)) ?_
  show own_Dn p e below s _ _ _ (T265.setTop (mkF m 97 #[ρ b0, ρ b1, ι w_s, υ, υ] [(.int 16), (.int w_s)]))
  refine own_st (fun _ k => XS.icmpYes X265.here hx rfl (pc0 := 97) (pc' := 114) rfl (hb hby rv_d97) rfl (feq hs16).2 (by decide) (by decide) k) ?_
  show own_Dn p e below s _ _ _ (T265.setTop (mkF m 114 #[ρ b0, ρ b1, ι w_s, υ, υ] []))
  refine own_st (fun _ k => XS.aloadN X265.here hx rfl (hb hby ra_d114) rfl rfl k) ?_
  show own_Dn p e below s _ _ _ (T265.setTop (mkF m 115 #[ρ b0, ρ b1, ι w_s, υ, υ] [(.ref b0)]))
  obtain ⟨T266, X266, e266, st266⟩ := getF X265 hx hZ hown (host := "") (Or.inl (own_w hw 112 rfl)) Via.refl e265 F241 (g := (mkF m 115 #[ρ b0, ρ b1, ι w_s, υ, υ] [(.ref b0)])) rfl rfl (hb hby ra_d115)
  refine own_st st266 ?_
  show own_Dn p e below s _ _ _ (T266.setTop (mkF m 118 #[ρ b0, ρ b1, ι w_s, υ, υ] [(.ref w_f)]))
  refine own_st (fun _ k => XS.iloadN X266.here hx rfl (hb hby ra_d118) rfl k) ?_
  show own_Dn p e below s _ _ _ (T266.setTop (mkF m 119 #[ρ b0, ρ b1, ι w_s, υ, υ] [(.int w_s), (.ref w_f)]))
  obtain ⟨cq267, q267, q267x⟩ := F248.cell
  obtain ⟨_, ⟨T267, L267, k267, n267⟩, X267, ⟨Lc267, hQ267, l267, y267, z267⟩, st267⟩ := own_refPriv (y := (⟨ς1, "add", "(I)V"⟩ : MethodName)) X266 hx hZ hown (own_w hw 142 rfl) (own_w hw 143 rfl) (own_w hw 145 rfl) (own_w hw 94 rfl) (by decide) (Cond.privateMethod_at (mvP hZ (own_w hw 144 rfl) (args := #[]))) (backOf (W := 0) (ia_rm l Z a0 hw [] (w_f) (w_s) (b0) (w_p) (w_d) (w_P) ((own_upd w_D ((w_s * (1 : Int32))).toNatClampNeg (w_U 0))) (w_1) (w_2) (w_k) (w_F) (w_L) (w_K) (w_c) h236 n0 F237 F248 F249 F250 F251 F238 F239 F240 F263 F252 F253 F254 F255 F256 F257 F258 F259 F260 ge_w_f ge_w_1 ge_w_2 ge_w_k nes8 nes7 nes10 nes11 nes13 nes12 nes15 nes16 nes19 nes18 nes21 nes22 nes17 nes23 nes24 nes1 nes4 hP hA.1 (own_RA_r hA) (own_RA_nd hA) (own_RA_keys hA)) hZ (own_w hw 145 rfl) (own_w hw 95 rfl) (by decide) (by decide)) (g := (mkF m 119 #[ρ b0, ρ b1, ι w_s, υ, υ] [(.int w_s), (.ref w_f)])) rfl (by rw [hml]; rfl) (a := w_f) (by rw [show T266.heap = h236 from e266]; exact q267) q267x (argsL := [(.int w_s)]) (rest := []) (lenOf own_pd5 rfl) rfl (by show 2 * 0 + _ ≤ _; exact Nat.le_of_eq rfl) (hb hby ra_d119) ⟨rfl, e266, (by decide : 0 + 0 ≤ _), (by decide : 0 + 0 ≤ _)⟩
  dsimp only [Pt.U, Pt.locs, Pt.cells, Pt.slots] at X267 l267 y267 z267 st267 hQ267
  subst l267 y267 z267
  obtain ⟨rfl, N267q, K267, G268, G269, G270, G271, G272, G273, G274, G275, G276, G277, G278, G279⟩ := hQ267
  have F280 : n0 ≤ T267.heap.size := Nat.le_trans F237 K267.1
  have F281 := F238.keep K267
  have F282 := F239.keep K267 (ninS (ne_exa F238 F248 (by decide)) (ninS nes7 (ninS nes12 (ninS nes18 nin0))))
  have F283 := F240.keep K267 (ninS (ne_exa F238 F248 (by decide)) (ninS nes7 (ninS nes12 (ninS nes18 nin0))))
  have F284 := F241.keep K267 (ninS (ne_exa F238 F248 (by decide)) (ninS nes7 (ninS nes12 (ninS nes18 nin0))))
  have F285 := F242.keep K267 (ninS (ne_exa F238 F248 (by decide)) (ninS nes7 (ninS nes12 (ninS nes18 nin0))))
  have F286 := F243.keep K267 (ninS (ne_exa F238 F248 (by decide)) (ninS nes7 (ninS nes12 (ninS nes18 nin0))))
  have F287 := F244.keep K267
  have F288 := F245.keep K267 (ninS (ne_exa F244 F248 (by decide)) (ninS nes9 (ninS nes14 (ninS nes20 nin0))))
  have F289 := F246.keep K267 (ninS (ne_exa F244 F248 (by decide)) (ninS nes9 (ninS nes14 (ninS nes20 nin0))))
  have F290 := F247.keep K267 (ninS (ne_exa F238 F248 (by decide)) (ninS nes7 (ninS nes12 (ninS nes18 nin0))))
  have F291 := F248.keep K267
  have F292 := F251.keep K267 (ninS (Ne.symm nes1) (ninS nes10 (ninS nes15 (ninS nes21 nin0))))
  have F293 := F261.keep K267 (ninS (Ne.symm nes26) (ninS (Ne.symm nes30) (ninS (Ne.symm nes31) (ninS (Ne.symm nes32) nin0))))
  have F294 : Keep h0 T267.heap [b0, w_f, w_d, w_1, w_2, w_k] := F262.trans K267 (allS (Or.inl (List.mem_of_getElem? (i := 1) rfl)) (allS (Or.inl (List.mem_of_getElem? (i := 3) rfl)) (allS (Or.inl (List.mem_of_getElem? (i := 4) rfl)) (allS (Or.inl (List.mem_of_getElem? (i := 5) rfl)) all0))))
  have F295 := F263.keep K267 (ninS (Ne.symm nes4) (ninS nes11 (ninS nes16 (ninS nes22 nin0))))
  have N267 := Fr.app N236 N267q
  refine own_tr st267 ?_
  show own_Dn p e below s _ _ _ (T267.setTop (mkF m 122 #[ρ b0, ρ b1, ι w_s, υ, υ] []))
  refine own_st (fun _ k => XS.aloadN X267.here hx rfl (hb hby ra_d122) rfl rfl k) ?_
  show own_Dn p e below s _ _ _ (T267.setTop (mkF m 123 #[ρ b0, ρ b1, ι w_s, υ, υ] [(.ref b0)]))
  obtain ⟨T296, X296, e296, st296⟩ := getF X267 hx hZ hown (host := "") (Or.inl (own_w hw 58 rfl)) Via.refl rfl F285 (g := (mkF m 123 #[ρ b0, ρ b1, ι w_s, υ, υ] [(.ref b0)])) rfl rfl (hb hby ra_d123)
  refine own_st st296 ?_
  show own_Dn p e below s _ _ _ (T296.setTop (mkF m 126 #[ρ b0, ρ b1, ι w_s, υ, υ] [(.ref w_l)]))
  obtain ⟨cq297, kq297, q297a, q297b, q297c⟩ := isOf hZ e296 F287
  obtain ⟨_, _, ⟨T297, L297, k297, n297⟩, -, X297, ⟨Lc297, hQ297, l297, y297, z297⟩, st297⟩ := X296.interfaceBack hx (xi := (⟨"java/util/List", "iterator", "()Ljava/util/Iterator;"⟩ : MethodName)) (y := (⟨ς3, "iterator", "()Ljava/util/Iterator;"⟩ : MethodName)) hown (mvT hZ (own_w hw 159 rfl)) (mvT hZ (own_w hw 160 rfl)) (mvT hZ (own_w hw 161 rfl)) (mvT hZ (own_w hw 162 rfl)) (mvT hZ (own_w hw 163 rfl)) (mvT hZ (own_w hw 164 rfl)) (mvT hZ (own_w hw 165 rfl)) (mvT hZ (own_w hw 166 rfl)) (by decide) (backOf (W := 0) (it_rm l Z a0 hw [] (w_l) T267.heap n0 F280 F287 F288) hZ (own_w hw 167 rfl) (own_w hw 36 rfl) (by decide) (by decide)) q297a q297b q297c (g := (mkF m 126 #[ρ b0, ρ b1, ι w_s, υ, υ] [(.ref w_l)])) rfl (by rw [hml]; rfl) (Steps.refl _) (argsL := []) (rest := []) (lenOf own_pd7 rfl) rfl (by show 2 * 0 + _ ≤ _; exact Nat.le_of_eq rfl) (hb hby ra_d126) (fun _ _ => ⟨rfl, e296, (by decide : 0 + 1 ≤ _), (by decide : 0 + 4 ≤ _)⟩)
  dsimp only [Pt.U, Pt.locs, Pt.cells, Pt.slots] at X297 l297 y297 z297 st297 hQ297
  subst l297 y297 z297
  obtain ⟨r126, rfl, ge297, gh297, N297q, K297, G298, G299, G300⟩ := hQ297
  have ne301 : b0 ≠ r126 := Nat.ne_of_lt (Nat.lt_of_lt_of_le F281.lt gh297)
  have ne302 : w_l ≠ r126 := Nat.ne_of_lt (Nat.lt_of_lt_of_le F287.lt gh297)
  have ne303 : w_f ≠ r126 := Nat.ne_of_lt (Nat.lt_of_lt_of_le G268.lt gh297)
  have ne304 : w_p ≠ r126 := Nat.ne_of_lt (Nat.lt_of_lt_of_le F292.lt gh297)
  have ne305 : w_v ≠ r126 := Nat.ne_of_lt (Nat.lt_of_lt_of_le F293.lt gh297)
  have ne306 : w_d ≠ r126 := Nat.ne_of_lt (Nat.lt_of_lt_of_le F295.lt gh297)
  have ne307 : w_1 ≠ r126 := Nat.ne_of_lt (Nat.lt_of_lt_of_le G277.lt gh297)
  have ne308 : w_2 ≠ r126 := Nat.ne_of_lt (Nat.lt_of_lt_of_le G278.lt gh297)
  have ne309 : w_k ≠ r126 := Nat.ne_of_lt (Nat.lt_of_lt_of_le G279.lt gh297)
  have gh310 : h0.size ≤ r126 := Nat.le_trans F294.1 gh297
  have F311 : n0 ≤ T297.heap.size := Nat.le_trans F280 K297.1
  have F312 := F281.keep K297
  have F313 := F282.keep K297 nin0
  have F314 := F283.keep K297 nin0
  have F315 := F284.keep K297 nin0
  have F316 := F285.keep K297 nin0
  have F317 := F286.keep K297 nin0
  have F318 := F287.keep K297
  have F319 := F288.keep K297 nin0
  have F320 := F289.keep K297 nin0
  have F321 := F290.keep K297 nin0
  have F322 := G268.keep K297
  have F323 := F292.keep K297 nin0
  have F324 := F293.keep K297 nin0
  have F325 : Keep h0 T297.heap [b0, w_f, w_d, w_1, w_2, w_k] := F294.trans K297 all0
  have F326 := F295.keep K297 nin0
  have F327 := G269.keep K297 nin0
  have F328 := G270.keep K297 nin0
  have F329 := G271.keep K297 nin0
  have F330 := G272.keep K297 nin0
  have F331 := G273.keep K297 nin0
  have F332 := G274.keep K297 nin0
  have F333 := G275.keep K297 nin0
  have F334 := G276.keep K297 nin0
  have F335 := G277.keep K297 nin0
  have F336 := G278.keep K297 nin0
  have F337 := G279.keep K297 nin0
  have N297 := Fr.app N267 N297q
  refine own_tr st297 ?_
  show own_Dn p e below s _ _ _ (T297.setTop (mkF m 131 #[ρ b0, ρ b1, ι w_s, υ, υ] [(.ref r126)]))
  refine own_st (fun _ k => XS.astoreN X297.here hx rfl (hb hby ra_d131) rfl rfl (l' := #[ρ b0, ρ b1, ι w_s, ρ r126, υ]) rfl (XS.aloadN X297.here hx rfl (hb hby ra_d132) rfl rfl k)) ?_
  show own_Dn p e below s _ _ _ (T297.setTop (mkF m 133 #[ρ b0, ρ b1, ι w_s, ρ r126, υ] [(.ref r126)]))
  obtain ⟨cq338, kq338, q338a, q338b, q338c⟩ := isOf hZ rfl G298
  obtain ⟨_, _, ⟨T338, L338, k338, n338⟩, -, X338, ⟨Lc338, hQ338, l338, y338, z338⟩, st338⟩ := X297.interfaceBack hx (xi := (⟨"java/util/Iterator", "hasNext", "()Z"⟩ : MethodName)) (y := (⟨ς7, "hasNext", "()Z"⟩ : MethodName)) hown (mvT hZ (own_w hw 184 rfl)) (mvT hZ (own_w hw 185 rfl)) (mvT hZ (own_w hw 186 rfl)) (mvT hZ (own_w hw 187 rfl)) (mvT hZ (own_w hw 188 rfl)) (mvT hZ (own_w hw 189 rfl)) (mvT hZ (own_w hw 190 rfl)) (mvT hZ (own_w hw 191 rfl)) (by decide) (backOf (W := 0) (hn_rm l Z a0 hw [] (r126) (w_l) T297.heap n0 F311 G300 G299 F320) hZ (own_w hw 192 rfl) (own_w hw 170 rfl) (by decide) (by decide)) q338a q338b q338c (g := (mkF m 133 #[ρ b0, ρ b1, ι w_s, ρ r126, υ] [(.ref r126)])) rfl (by rw [hml]; rfl) (Steps.refl _) (argsL := []) (rest := []) (lenOf own_pd8 rfl) rfl (by show 2 * 0 + _ ≤ _; exact Nat.le_of_eq rfl) (hb hby ra_d133) (fun _ _ => ⟨rfl, rfl, (by decide : 1 + 0 ≤ _), (by decide : 4 + 0 ≤ _)⟩)
  dsimp only [Pt.U, Pt.locs, Pt.cells, Pt.slots] at X338 l338 y338 z338 st338 hQ338
  subst l338 y338 z338
  obtain ⟨rfl, N338q, e338⟩ := hQ338
  have N338 := Fr.app N297 N338q
  refine own_tr st338 ?_
  show own_Dn p e below s _ _ _ (T338.setTop (mkF m 138 #[ρ b0, ρ b1, ι w_s, ρ r126, υ] [(.int 0)]))
  refine own_st (fun _ k => XS.ifYes X338.here hx rfl (pc0 := 138) (pc' := 161) rfl (hb hby ra_d138) rfl ((if0 _ _).trans (teq (by decide : (0 : Int32) = (0 : Int32))).1) (by decide) (by decide) k) ?_
  show own_Dn p e below s _ _ _ (T338.setTop (mkF m 161 #[ρ b0, ρ b1, ι w_s, ρ r126, υ] []))
  refine own_st (fun _ k => XS.iconst X338.here hx rfl (hb hby ra_d161) k) ?_
  show own_Dn p e below s _ _ _ (T338.setTop (mkF m 162 #[ρ b0, ρ b1, ι w_s, ρ r126, υ] [(.int 1)]))
  have eqH : T338.heap = T297.heap := e338
  exact own_retZ X338 hx hret hlk (by decide) (hb hby ra_d162) (by decide) (by decide) (by rw [eqH]; exact ⟨(by rw [hr0, rv_f]), N338, F325, F312, F313, F314, F315, F316, F317, (by rw [hy6, rv_g6]; exact F321), F322, F327, F328, F329, F330, F331, F332, F333, (by rw [hy15, rv_g15]; exact F334), (by rw [hy16, rv_g16]; exact F326), (by rw [hy17, rv_g17]; exact F335), (by rw [hy18, rv_g18]; exact F336), (by rw [hy19, rv_g19]; exact F337), F324⟩)
theorem rv_ef (m : MethodId) (b0 : Addr) (b1 : Addr) : entryFrame m #[(.ref b0), (.ref b1)] 5 = mkF m 0 #[.val (.ref b0), .val (.ref b1), .unset, .unset, .unset] [] := by first | (simp [entryFrame, mkF, argsToLocals, Value.category]; done) | rfl
theorem rv_rm (l : Launch) (Z : State) (a0 : Array Value) (hw : ∀ d ∈ tables_1, d.before a0 Z = true) (ws : List Jvm.Cond) (b0 : Addr) (b1 : Addr) (w_p : Addr) (w_d : Addr) (w_1 : Addr) (w_2 : Addr) (w_k : Addr) (w_f : Addr) (w_l : Addr) (w_P : Nat → Int32) (w_D : Nat → Int32) (w_F : Nat → Int32) (w_L : Nat → Int32) (w_K : Nat → Int32) (w_c : Int32) (w_s : Int32) (w_U : Nat → Int32) (w_v : Addr) (w_V : Nat → Int32) (h0 : Heap) (n0 : Nat) (Z0 : n0 ≤ h0.size) (P0 : Exa Z h0 b0 ς0) (P1 : Fld Z h0 b0 ς0 "data" "[I" (.ref w_d)) (P2 : Fld Z h0 b0 ς0 "arity" "I" (.int 1)) (P3 : Fld Z h0 b0 ς0 "facts" ς5 (.ref w_f)) (P4 : Fld Z h0 b0 ς0 "indexes" ς10 (.ref w_l)) (P5 : Fld Z h0 b0 ς0 "removed" "[Z" (.ref w_v)) (P6 : own_Arf Z h0 w_d .int 16 (fun i => (.int (w_D i)))) (P7 : Exa Z h0 w_l ς3) (P8 : Fld Z h0 w_l ς6 "modCount" "I" (.int 0)) (P9 : Fld Z h0 w_l ς3 "size" "I" (.int 0)) (P10 : Fld Z h0 b0 ς0 "size" "I" (.int w_s)) (P11 : Exa Z h0 w_f ς1) (P12 : Fld Z h0 w_f ς1 "this$0" ς2 (.ref b0)) (P13 : Fld Z h0 w_f ς1 "positions" "[I" (.ref w_p)) (P14 : own_Arf Z h0 w_p .int 1 (fun i => (.int (w_P i)))) (P15 : Fld Z h0 w_f ς1 "firsts" "[I" (.ref w_1)) (P16 : Fld Z h0 w_f ς1 "lasts" "[I" (.ref w_2)) (P17 : Fld Z h0 w_f ς1 "rowKey" "[I" (.ref w_k)) (P18 : Fld Z h0 w_f ς1 "next" "[I" .null) (P19 : Fld Z h0 w_f ς1 "previous" "[I" .null) (P20 : Fld Z h0 w_f ς1 "keys" "I" (.int w_c)) (P21 : own_Arf Z h0 w_1 .int 16 (fun i => (.int (w_F i)))) (P22 : own_Arf Z h0 w_2 .int 16 (fun i => (.int (w_L i)))) (P23 : own_Arf Z h0 w_k .int 1 (fun i => (.int (w_K i)))) (P24 : own_Arf Z h0 b1 .int 1 (fun i => (.int (w_U i)))) (P25 : own_Arf Z h0 w_v .boolean 16 (fun i => (.int (w_V i)))) (ge_b0 : n0 ≤ b0) (ge_w_f : n0 ≤ w_f) (ge_w_d : n0 ≤ w_d) (ge_w_1 : n0 ≤ w_1) (ge_w_2 : n0 ≤ w_2) (ge_w_k : n0 ≤ w_k) (nes0 : b0 ≠ w_p) (nes1 : w_f ≠ w_p) (nes2 : w_l ≠ w_p) (nes3 : b0 ≠ w_d) (nes4 : w_f ≠ w_d) (nes5 : w_l ≠ w_d) (nes6 : w_p ≠ w_d) (nes7 : b0 ≠ w_1) (nes8 : w_f ≠ w_1) (nes9 : w_l ≠ w_1) (nes10 : w_p ≠ w_1) (nes11 : w_d ≠ w_1) (nes12 : b0 ≠ w_2) (nes13 : w_f ≠ w_2) (nes14 : w_l ≠ w_2) (nes15 : w_p ≠ w_2) (nes16 : w_d ≠ w_2) (nes17 : w_1 ≠ w_2) (nes18 : b0 ≠ w_k) (nes19 : w_f ≠ w_k) (nes20 : w_l ≠ w_k) (nes21 : w_p ≠ w_k) (nes22 : w_d ≠ w_k) (nes23 : w_1 ≠ w_k) (nes24 : w_2 ≠ w_k) (nes25 : b0 ≠ w_v) (nes26 : w_f ≠ w_v) (nes27 : w_l ≠ w_v) (nes28 : w_p ≠ w_v) (nes29 : w_d ≠ w_v) (nes30 : w_1 ≠ w_v) (nes31 : w_2 ≠ w_v) (nes32 : w_k ≠ w_v) (nes33 : b1 ≠ w_d) (hP : w_P 0 = 0) (hA : own_RA w_F w_D w_s (w_U 0) w_c) (hfit : ¬ ((16 : Int32) < ((w_s + (1 : Int32)) * (1 : Int32)))) (hs16 : ¬ (w_s = (16 : Int32))) :
    MetFree l (⟨ς0, "add", "([I)Z"⟩ : MethodName) (head1 (Jvm.Cond.code (⟨ς0, "add", "([I)Z"⟩ : MethodName) prog_23_method_7_code 5 (some .boolean) :: ws) ({ frames := 3, cells := 1, slots := 4, locals := 46 } : Room)) (fun a U => a = #[(.ref b0), (.ref b1)] ∧ Z.Warmed39 U.vm ∧ U.heap = h0) (fun _ _ _ _ _ => True) (fun _ U o U' => ∃ v L, o = .returned v ∧ rv_Q Z b0 b1 w_p w_d w_1 w_2 w_k w_f w_l w_P w_D w_F w_L w_K w_c w_s w_U w_v w_V (rv_f w_P w_D w_F w_L w_K w_c w_s w_U w_V) (rv_g6 w_P w_D w_F w_L w_K w_c w_s w_U w_V) (rv_g15 w_P w_D w_F w_L w_K w_c w_s w_U w_V) (rv_g16 w_P w_D w_F w_L w_K w_c w_s w_U w_V) (rv_g17 w_P w_D w_F w_L w_K w_c w_s w_U w_V) (rv_g18 w_P w_D w_F w_L w_K w_c w_s w_U w_V) (rv_g19 w_P w_D w_F w_L w_K w_c w_s w_U w_V) h0 n0 v U'.heap L ∧ FrameEnd U o U' L ({ frames := 3, cells := 1, slots := 4, locals := 46 } : Room).cells ({ frames := 3, cells := 1, slots := 4, locals := 46 } : Room).slots) :=
  own_met hw (plainFor_of_name (by first | (simp [plainName, overriddenIn]; done) | decide +kernel)) (fun p e s m below meth c T0 C0 X0 e0 => own_st (fun _ k => castTop (rv_ef m b0 b1) k) (rv_c0 C0 X0 e0 (Fr.nil n0) Z0 P0 P1 P2 P3 P4 P5 P6 P7 P8 P9 P10 P11 P12 P13 P14 P15 P16 P17 P18 P19 P20 P21 P22 P23 P24 P25 ge_b0 ge_w_f ge_w_d ge_w_1 ge_w_2 ge_w_k nes0 nes1 nes2 nes3 nes4 nes5 nes6 nes7 nes8 nes9 nes10 nes11 nes12 nes13 nes14 nes15 nes16 nes17 nes18 nes19 nes20 nes21 nes22 nes23 nes24 nes25 nes26 nes27 nes28 nes29 nes30 nes31 nes32 nes33 hP hA hfit hs16 rfl rfl rfl rfl rfl rfl rfl))
theorem rr_d0 : decode prog_23_method_8_code 0 = .ok (.aload_n 0, 1) := by decide +kernel
theorem rr_d1 : decode prog_23_method_8_code 1 = .ok (.getfield 64, 3) := by decide +kernel
theorem rr_d4 : decode prog_23_method_8_code 4 = .ok (.ifnonnull 54, 3) := by decide +kernel
theorem rr_d7 : decode prog_23_method_8_code 7 = .ok (.aload_n 0, 1) := by decide +kernel
theorem rr_d8 : decode prog_23_method_8_code 8 = .ok (.bipush 16, 2) := by decide +kernel
theorem rr_d10 : decode prog_23_method_8_code 10 = .ok (.aload_n 0, 1) := by decide +kernel
theorem rr_d11 : decode prog_23_method_8_code 11 = .ok (.getfield 61, 3) := by decide +kernel
theorem rr_d14 : decode prog_23_method_8_code 14 = .ok (.invokestatic 32, 3) := by decide +kernel
theorem rr_d17 : decode prog_23_method_8_code 17 = .ok (.newarray .boolean, 2) := by decide +kernel
theorem rr_d19 : decode prog_23_method_8_code 19 = .ok (.putfield 64, 3) := by decide +kernel
theorem rr_d22 : decode prog_23_method_8_code 22 = .ok (.aload_n 0, 1) := by decide +kernel
theorem rr_d23 : decode prog_23_method_8_code 23 = .ok (.getfield 10, 3) := by decide +kernel
theorem rr_d26 : decode prog_23_method_8_code 26 = .ok (.invokeinterface 89 1, 5) := by decide +kernel
theorem rr_d31 : decode prog_23_method_8_code 31 = .ok (.astore_n 2, 1) := by decide +kernel
theorem rr_d32 : decode prog_23_method_8_code 32 = .ok (.aload_n 2, 1) := by decide +kernel
theorem rr_d33 : decode prog_23_method_8_code 33 = .ok (.invokeinterface 95 1, 5) := by decide +kernel
theorem rr_d38 : decode prog_23_method_8_code 38 = .ok (.ifCond .eq 20, 3) := by decide +kernel
theorem rr_d58 : decode prog_23_method_8_code 58 = .ok (.aload_n 0, 1) := by decide +kernel
theorem rr_d59 : decode prog_23_method_8_code 59 = .ok (.getfield 64, 3) := by decide +kernel
theorem rr_d62 : decode prog_23_method_8_code 62 = .ok (.iload_n 1, 1) := by decide +kernel
theorem rr_d63 : decode prog_23_method_8_code 63 = .ok (.iconst 1, 1) := by decide +kernel
theorem rr_d64 : decode prog_23_method_8_code 64 = .ok (.bastore, 1) := by decide +kernel
theorem rr_d65 : decode prog_23_method_8_code 65 = .ok (.aload_n 0, 1) := by decide +kernel
theorem rr_d66 : decode prog_23_method_8_code 66 = .ok (.getfield 57, 3) := by decide +kernel
theorem rr_d69 : decode prog_23_method_8_code 69 = .ok (.iload_n 1, 1) := by decide +kernel
theorem rr_d70 : decode prog_23_method_8_code 70 = .ok (.invokevirtual 108, 3) := by decide +kernel
theorem rr_d73 : decode prog_23_method_8_code 73 = .ok (.aload_n 0, 1) := by decide +kernel
theorem rr_d74 : decode prog_23_method_8_code 74 = .ok (.getfield 10, 3) := by decide +kernel
theorem rr_d77 : decode prog_23_method_8_code 77 = .ok (.invokeinterface 89 1, 5) := by decide +kernel
theorem rr_d82 : decode prog_23_method_8_code 82 = .ok (.astore_n 2, 1) := by decide +kernel
theorem rr_d83 : decode prog_23_method_8_code 83 = .ok (.aload_n 2, 1) := by decide +kernel
theorem rr_d84 : decode prog_23_method_8_code 84 = .ok (.invokeinterface 95 1, 5) := by decide +kernel
theorem rr_d89 : decode prog_23_method_8_code 89 = .ok (.ifCond .eq 21, 3) := by decide +kernel
theorem rr_d110 : decode prog_23_method_8_code 110 = .ok (.return_, 1) := by decide +kernel
def rr_Q (Z : State) (b0 : Addr) (p1 : Int32) (w_p : Addr) (w_d : Addr) (w_1 : Addr) (w_2 : Addr) (w_k : Addr) (w_f : Addr) (w_l : Addr) (w_P : Nat → Int32) (w_D : Nat → Int32) (w_F : Nat → Int32) (w_L : Nat → Int32) (w_K : Nat → Int32) (w_c : Int32) (y15 : Int32) (y17 : Nat → Int32) (y18 : Nat → Int32) (y19 : Nat → Int32) (y20 : Nat → Int32) (h0 : Heap) (n0 : Nat) (v : Option Value) (h : Heap) (L : List Loc) : Prop := v = none ∧ Fr n0 L ∧ Keep h0 h [b0, w_f, w_d, w_1, w_2, w_k] ∧ ∃ r1 : Addr, n0 ≤ r1 ∧ (r1 ∈ ([] : List Addr) ∨ h0.size ≤ r1) ∧ b0 ≠ r1 ∧ Exa Z h b0 ς0 ∧ Fld Z h b0 ς0 "data" "[I" (.ref w_d) ∧ Fld Z h b0 ς0 "arity" "I" (.int 1) ∧ Fld Z h b0 ς0 "facts" ς5 (.ref w_f) ∧ Fld Z h b0 ς0 "indexes" ς10 (.ref w_l) ∧ Fld Z h b0 ς0 "removed" "[Z" (.ref r1) ∧ Fld Z h b0 ς0 "size" "I" (.int 3) ∧ Exa Z h w_f ς1 ∧ Fld Z h w_f ς1 "this$0" ς2 (.ref b0) ∧ Fld Z h w_f ς1 "positions" "[I" (.ref w_p) ∧ Fld Z h w_f ς1 "firsts" "[I" (.ref w_1) ∧ Fld Z h w_f ς1 "lasts" "[I" (.ref w_2) ∧ Fld Z h w_f ς1 "rowKey" "[I" (.ref w_k) ∧ Fld Z h w_f ς1 "next" "[I" .null ∧ Fld Z h w_f ς1 "previous" "[I" .null ∧ Fld Z h w_f ς1 "keys" "I" (.int y15) ∧ own_Arf Z h w_d .int 16 (fun i => (.int (w_D i))) ∧ own_Arf Z h w_1 .int 16 (fun i => (.int (y17 i))) ∧ own_Arf Z h w_2 .int 16 (fun i => (.int (y18 i))) ∧ own_Arf Z h w_k .int 1 (fun i => (.int (y19 i))) ∧ own_Arf Z h r1 .boolean 16 (fun i => (.int (y20 i)))
def rr_g15 (p1 : Int32) (w_P : Nat → Int32) (w_D : Nat → Int32) (w_F : Nat → Int32) (w_L : Nat → Int32) (w_K : Nat → Int32) (w_c : Int32)  : Int32 :=
  (ir_g8 p1 w_P w_D w_F w_L w_K w_c)
def rr_g17 (p1 : Int32) (w_P : Nat → Int32) (w_D : Nat → Int32) (w_F : Nat → Int32) (w_L : Nat → Int32) (w_K : Nat → Int32) (w_c : Int32)  : Nat → Int32 :=
  (ir_g9 p1 w_P w_D w_F w_L w_K w_c)
def rr_g18 (p1 : Int32) (w_P : Nat → Int32) (w_D : Nat → Int32) (w_F : Nat → Int32) (w_L : Nat → Int32) (w_K : Nat → Int32) (w_c : Int32)  : Nat → Int32 :=
  (ir_g10 p1 w_P w_D w_F w_L w_K w_c)
def rr_g19 (p1 : Int32) (w_P : Nat → Int32) (w_D : Nat → Int32) (w_F : Nat → Int32) (w_L : Nat → Int32) (w_K : Nat → Int32) (w_c : Int32)  : Nat → Int32 :=
  (ir_g11 p1 w_P w_D w_F w_L w_K w_c)
def rr_g20 (p1 : Int32) (w_P : Nat → Int32) (w_D : Nat → Int32) (w_F : Nat → Int32) (w_L : Nat → Int32) (w_K : Nat → Int32) (w_c : Int32)  : Nat → Int32 :=
  (own_upd (fun _ => (0 : Int32)) (p1).toNatClampNeg (nar .boolean (1 : Int32)))
set_option maxRecDepth 65536 in
set_option maxHeartbeats 40000000 in
theorem rr_c0 {b0 : Addr} {p1 : Int32} {w_p : Addr} {w_d : Addr} {w_1 : Addr} {w_2 : Addr} {w_k : Addr} {w_f : Addr} {w_l : Addr} {w_P : Nat → Int32} {w_D : Nat → Int32} {w_F : Nat → Int32} {w_L : Nat → Int32} {w_K : Nat → Int32} {w_c : Int32} {locs : List Loc} {y15 : Int32} {y17 : Nat → Int32} {y18 : Nat → Int32} {y19 : Nat → Int32} {y20 : Nat → Int32} (C0 : own_Cx p s m meth c Z a0 prog_23_method_8_code 4 ς0 "remove" none) (X0 : Stand p l e ({ frames := 4, cells := 3, slots := 24, locals := 64 } : Room) s m args below meth c T0 locs 0 0) (e0 : T0.heap = h0) (N0 : Fr n0 locs)  (Z0 : n0 ≤ h0.size) (P0 : Exa Z h0 b0 ς0) (P1 : Fld Z h0 b0 ς0 "data" "[I" (.ref w_d)) (P2 : Fld Z h0 b0 ς0 "arity" "I" (.int 1)) (P3 : Fld Z h0 b0 ς0 "facts" ς5 (.ref w_f)) (P4 : Fld Z h0 b0 ς0 "indexes" ς10 (.ref w_l)) (P5 : Fld Z h0 b0 ς0 "removed" "[Z" .null) (P6 : own_Arf Z h0 w_d .int 16 (fun i => (.int (w_D i)))) (P7 : Exa Z h0 w_l ς3) (P8 : Fld Z h0 w_l ς6 "modCount" "I" (.int 0)) (P9 : Fld Z h0 w_l ς3 "size" "I" (.int 0)) (P10 : Fld Z h0 b0 ς0 "size" "I" (.int 3)) (P11 : Exa Z h0 w_f ς1) (P12 : Fld Z h0 w_f ς1 "this$0" ς2 (.ref b0)) (P13 : Fld Z h0 w_f ς1 "positions" "[I" (.ref w_p)) (P14 : own_Arf Z h0 w_p .int 1 (fun i => (.int (w_P i)))) (P15 : Fld Z h0 w_f ς1 "firsts" "[I" (.ref w_1)) (P16 : Fld Z h0 w_f ς1 "lasts" "[I" (.ref w_2)) (P17 : Fld Z h0 w_f ς1 "rowKey" "[I" (.ref w_k)) (P18 : Fld Z h0 w_f ς1 "next" "[I" .null) (P19 : Fld Z h0 w_f ς1 "previous" "[I" .null) (P20 : Fld Z h0 w_f ς1 "keys" "I" (.int w_c)) (P21 : own_Arf Z h0 w_1 .int 16 (fun i => (.int (w_F i)))) (P22 : own_Arf Z h0 w_2 .int 16 (fun i => (.int (w_L i)))) (P23 : own_Arf Z h0 w_k .int 1 (fun i => (.int (w_K i)))) (ge_b0 : n0 ≤ b0) (ge_w_f : n0 ≤ w_f) (ge_w_d : n0 ≤ w_d) (ge_w_1 : n0 ≤ w_1) (ge_w_2 : n0 ≤ w_2) (ge_w_k : n0 ≤ w_k) (nes0 : b0 ≠ w_p) (nes1 : w_f ≠ w_p) (nes2 : w_l ≠ w_p) (nes3 : b0 ≠ w_d) (nes4 : w_f ≠ w_d) (nes5 : w_l ≠ w_d) (nes6 : w_p ≠ w_d) (nes7 : b0 ≠ w_1) (nes8 : w_f ≠ w_1) (nes9 : w_l ≠ w_1) (nes10 : w_p ≠ w_1) (nes11 : w_d ≠ w_1) (nes12 : b0 ≠ w_2) (nes13 : w_f ≠ w_2) (nes14 : w_l ≠ w_2) (nes15 : w_p ≠ w_2) (nes16 : w_d ≠ w_2) (nes17 : w_1 ≠ w_2) (nes18 : b0 ≠ w_k) (nes19 : w_f ≠ w_k) (nes20 : w_l ≠ w_k) (nes21 : w_p ≠ w_k) (nes22 : w_d ≠ w_k) (nes23 : w_1 ≠ w_k) (nes24 : w_2 ≠ w_k) (hP : w_P 0 = 0) (hF : own_FB w_F) (hr : 0 ≤ p1.toInt ∧ p1.toInt < 16) (hin : own_In w_F 16 (own_hm (w_D p1.toNatClampNeg)) p1) (hy15 : y15 = rr_g15 p1 w_P w_D w_F w_L w_K w_c ) (hy17 : y17 = rr_g17 p1 w_P w_D w_F w_L w_K w_c ) (hy18 : y18 = rr_g18 p1 w_P w_D w_F w_L w_K w_c ) (hy19 : y19 = rr_g19 p1 w_P w_D w_F w_L w_K w_c ) (hy20 : y20 = rr_g20 p1 w_P w_D w_F w_L w_K w_c ) :
    own_Dn p e below s (rr_Q Z b0 p1 w_p w_d w_1 w_2 w_k w_f w_l w_P w_D w_F w_L w_K w_c y15 y17 y18 y19 y20 h0 n0) ({ frames := 4, cells := 3, slots := 24, locals := 64 } : Room).cells ({ frames := 4, cells := 3, slots := 24, locals := 64 } : Room).slots (T0.setTop (mkF m 0 #[ρ b0, ι p1, υ, υ] [])) := by
  obtain ⟨hx, hZ, hw, hby, hml, hown, hret, hlk, hnm⟩ := id C0
  refine own_st (fun _ k => XS.aloadN X0.here hx rfl (hb hby rr_d0) rfl rfl k) ?_
  show own_Dn p e below s _ _ _ (T0.setTop (mkF m 1 #[ρ b0, ι p1, υ, υ] [(.ref b0)]))
  obtain ⟨T224, X224, e224, st224⟩ := getF X0 hx hZ hown (host := "") (Or.inl (own_w hw 140 rfl)) Via.refl e0 P5 (g := (mkF m 1 #[ρ b0, ι p1, υ, υ] [(.ref b0)])) rfl rfl (hb hby rr_d1)
  refine own_st st224 ?_
  show own_Dn p e below s _ _ _ (T224.setTop (mkF m 4 #[ρ b0, ι p1, υ, υ] [.null]))
  refine own_st (fun _ k => XT.ifnonnullNo X224.here hx rfl (hb hby rr_d4) rfl k) ?_
  show own_Dn p e below s _ _ _ (T224.setTop (mkF m 7 #[ρ b0, ι p1, υ, υ] []))
  refine own_st (fun _ k => XS.aloadN X224.here hx rfl (hb hby rr_d7) rfl rfl (XS.bipush X224.here hx rfl (hb hby rr_d8) (XS.aloadN X224.here hx rfl (hb hby rr_d10) rfl rfl k))) ?_
  show own_Dn p e below s _ _ _ (T224.setTop (mkF m 11 #[ρ b0, ι p1, υ, υ] [(.ref b0), (.int 16), (.ref b0)]))
  obtain ⟨T225, X225, e225, st225⟩ := getF X224 hx hZ hown (host := "") (Or.inl (own_w hw 134 rfl)) Via.refl e224 P10 (g := (mkF m 11 #[ρ b0, ι p1, υ, υ] [(.ref b0), (.int 16), (.ref b0)])) rfl rfl (hb hby rr_d11)
  refine own_st st225 ?_
  show own_Dn p e below s _ _ _ (T225.setTop (mkF m 14 #[ρ b0, ι p1, υ, υ] [(.int 3), (.int 16), (.ref b0)]))
  obtain ⟨_, _, ⟨T226, L226, k226, n226⟩, -, X226, ⟨Lc226, hQ226, l226, y226, z226⟩, st226⟩ := Jvm.LawKit.callS X225 hx (y := (⟨"java/lang/Math", "max", "(II)I"⟩ : MethodName)) hown (mvT hZ (own_w hw 71 rfl)) (mvT hZ (own_w hw 72 rfl)) (mvT hZ (own_w hw 73 rfl)) (mvT hZ (own_w hw 74 rfl)) (by decide) (backOf (W := 1) (mx_rm l Z a0 hw [] ((16 : Int32)) ((3 : Int32)) h0 n0) hZ (own_w hw 74 rfl) (own_w hw 73 rfl) (by decide) (by decide)) (g := (mkF m 14 #[ρ b0, ι p1, υ, υ] [(.int 3), (.int 16), (.ref b0)])) rfl (by rw [hml]; rfl) (argsL := [(.int 16), (.int 3)]) (rest := [(.ref b0)]) (lenOf own_pd1 rfl) rfl (by show 2 * 0 + _ ≤ _; exact Nat.le_of_eq rfl) (hb hby rr_d14) (fun _ _ => ⟨rfl, e225, (by decide : 0 + 0 ≤ _), (by decide : 0 + 0 ≤ _)⟩)
  dsimp only [Pt.U, Pt.locs, Pt.cells, Pt.slots] at X226 l226 y226 z226 st226 hQ226
  subst l226 y226 z226
  obtain ⟨rfl, N226q, e226⟩ := hQ226
  have N226 := Fr.app N0 N226q
  refine own_st st226 ?_
  rw [show (mx_f (16 : Int32) (3 : Int32)) = (16 : Int32) from by decide]
  show own_Dn p e below s _ _ _ (T226.setTop (mkF m 17 #[ρ b0, ι p1, υ, υ] [(.int 16), (.ref b0)]))
  obtain ⟨T227, h227, cA227, X227, e227, E227, A227, st227⟩ := newP X226 hx hZ (aty := .boolean) (own_w hw 202 rfl) e226 (g := (mkF m 17 #[ρ b0, ι p1, υ, υ] [(.int 16), (.ref b0)])) rfl (hb hby rr_d17) (n := (16 : Int32)) rfl (by decide) (cap := 16) (by decide) (by decide) (by decide) (by decide)
  obtain ⟨o17, g227⟩ : ∃ z, z = h0.size := ⟨_, rfl⟩
  rw [← g227] at A227 st227
  have ne228 : b0 ≠ o17 := Nat.ne_of_lt (Nat.lt_of_lt_of_le P0.lt (Nat.le_of_eq g227.symm))
  have ne229 : w_d ≠ o17 := Nat.ne_of_lt (Nat.lt_of_lt_of_le P6.lt (Nat.le_of_eq g227.symm))
  have ne230 : w_l ≠ o17 := Nat.ne_of_lt (Nat.lt_of_lt_of_le P7.lt (Nat.le_of_eq g227.symm))
  have ne231 : w_f ≠ o17 := Nat.ne_of_lt (Nat.lt_of_lt_of_le P11.lt (Nat.le_of_eq g227.symm))
  have ne232 : w_p ≠ o17 := Nat.ne_of_lt (Nat.lt_of_lt_of_le P14.lt (Nat.le_of_eq g227.symm))
  have ne233 : w_1 ≠ o17 := Nat.ne_of_lt (Nat.lt_of_lt_of_le P21.lt (Nat.le_of_eq g227.symm))
  have ne234 : w_2 ≠ o17 := Nat.ne_of_lt (Nat.lt_of_lt_of_le P22.lt (Nat.le_of_eq g227.symm))
  have ne235 : w_k ≠ o17 := Nat.ne_of_lt (Nat.lt_of_lt_of_le P23.lt (Nat.le_of_eq g227.symm))
  have ge236 : n0 ≤ o17 := Nat.le_trans Z0 (Nat.le_of_eq g227.symm)
  have gh237 : h0.size ≤ o17 := Nat.le_trans (Keep.refl h0 [b0, w_f, w_d, w_1, w_2, w_k]).1 (Nat.le_of_eq g227.symm)
  have F238 : n0 ≤ h227.size := Nat.le_trans Z0 E227.1
  have F239 := P0.ext E227
  have F240 := P1.ext E227
  have F241 := P2.ext E227
  have F242 := P3.ext E227
  have F243 := P4.ext E227
  have F244 := P5.ext E227
  have F245 := P6.ext E227
  have F246 := P7.ext E227
  have F247 := P8.ext E227
  have F248 := P9.ext E227
  have F249 := P10.ext E227
  have F250 := P11.ext E227
  have F251 := P12.ext E227
  have F252 := P13.ext E227
  have F253 := P14.ext E227
  have F254 := P15.ext E227
  have F255 := P16.ext E227
  have F256 := P17.ext E227
  have F257 := P18.ext E227
  have F258 := P19.ext E227
  have F259 := P20.ext E227
  have F260 := P21.ext E227
  have F261 := P22.ext E227
  have F262 := P23.ext E227
  have F263 : Keep h0 h227 [b0, w_f, w_d, w_1, w_2, w_k] := (Keep.refl h0 [b0, w_f, w_d, w_1, w_2, w_k]).ext E227
  have F264 : own_Arf Z h227 o17 .boolean 16 (fun i => (.int ((fun _ => (0 : Int32)) i))) := own_Arf.new A227 (by decide) (by decide)
  refine own_st st227 ?_
  show own_Dn p e below s _ _ _ (T227.setTop (mkF m 19 #[ρ b0, ι p1, υ, υ] [(.ref o17), (.ref b0)]))
  obtain ⟨T265, h265, X265, e265, W265, st265⟩ := putF X227 hx hZ hown (host := "") (Or.inl (own_w hw 140 rfl)) Via.refl e227 F244 F239 (Or.inl (own_w hw 141 rfl)) (own_w hw 2 rfl) (ty := (.array .boolean)) (v := (.ref o17)) (by decide) rfl rfl (g := (mkF m 19 #[ρ b0, ι p1, υ, υ] [(.ref o17), (.ref b0)])) rfl rfl (hb hby rr_d19)
  have N265 := Fr.snoc X265 N226 ge_b0
  have F266 : n0 ≤ h265.size := Nat.le_trans F238 (Keep.of_wr W265).1
  have F267 := F239.wr W265
  have F268 := F240.other W265 (Or.inr (slot_ne (Or.inl (own_w hw 76 rfl)) (Or.inl (own_w hw 141 rfl)) (by decide) (t := (.array .int)) (t' := (.array .boolean)) (by decide) (by decide)))
  have F269 := F241.other W265 (Or.inr (slot_ne (Or.inr (own_w hw 70 rfl)) (Or.inl (own_w hw 141 rfl)) (by decide) (t := .int) (t' := (.array .boolean)) (by decide) (by decide)))
  have F270 := F242.other W265 (Or.inr (slot_ne (Or.inr (own_w hw 113 rfl)) (Or.inl (own_w hw 141 rfl)) (by decide) (t := (.object ς1)) (t' := (.array .boolean)) (by decide) (by decide)))
  have F271 := F243.other W265 (Or.inr (slot_ne (Or.inr (own_w hw 59 rfl)) (Or.inl (own_w hw 141 rfl)) (by decide) (t := (.object "java/util/List")) (t' := (.array .boolean)) (by decide) (by decide)))
  have F272 : Fld Z h265 b0 ς0 "removed" "[Z" (.ref o17) := F244.same W265
  have F273 := F245.other W265 (Ne.symm nes3)
  have F274 := F246.wr W265
  have F275 := F247.other W265 (Or.inl (ne_exa F246 F239 (by decide)))
  have F276 := F248.other W265 (Or.inl (ne_exa F246 F239 (by decide)))
  have F277 := F249.other W265 (Or.inr (slot_ne (Or.inl (own_w hw 135 rfl)) (Or.inl (own_w hw 141 rfl)) (by decide) (t := .int) (t' := (.array .boolean)) (by decide) (by decide)))
  have F278 := F250.wr W265
  have F279 := F251.other W265 (Or.inl (ne_exa F250 F239 (by decide)))
  have F280 := F252.other W265 (Or.inl (ne_exa F250 F239 (by decide)))
  have F281 := F253.other W265 (Ne.symm nes0)
  have F282 := F254.other W265 (Or.inl (ne_exa F250 F239 (by decide)))
  have F283 := F255.other W265 (Or.inl (ne_exa F250 F239 (by decide)))
  have F284 := F256.other W265 (Or.inl (ne_exa F250 F239 (by decide)))
  have F285 := F257.other W265 (Or.inl (ne_exa F250 F239 (by decide)))
  have F286 := F258.other W265 (Or.inl (ne_exa F250 F239 (by decide)))
  have F287 := F259.other W265 (Or.inl (ne_exa F250 F239 (by decide)))
  have F288 := F260.other W265 (Ne.symm nes7)
  have F289 := F261.other W265 (Ne.symm nes12)
  have F290 := F262.other W265 (Ne.symm nes18)
  have F291 : Keep h0 h265 [b0, w_f, w_d, w_1, w_2, w_k] := F263.wr W265 (Or.inl (List.mem_of_getElem? (i := 0) rfl))
  have F292 := F264.other W265 (Ne.symm ne228)
  refine own_st st265 ?_
  show own_Dn p e below s _ _ _ (T265.setTop (mkF m 22 #[ρ b0, ι p1, υ, υ] []))
  refine own_st (fun _ k => XS.aloadN X265.here hx rfl (hb hby rr_d22) rfl rfl k) ?_
  show own_Dn p e below s _ _ _ (T265.setTop (mkF m 23 #[ρ b0, ι p1, υ, υ] [(.ref b0)]))
  obtain ⟨T293, X293, e293, st293⟩ := getF X265 hx hZ hown (host := "") (Or.inl (own_w hw 58 rfl)) Via.refl e265 F271 (g := (mkF m 23 #[ρ b0, ι p1, υ, υ] [(.ref b0)])) rfl rfl (hb hby rr_d23)
  refine own_st st293 ?_
  show own_Dn p e below s _ _ _ (T293.setTop (mkF m 26 #[ρ b0, ι p1, υ, υ] [(.ref w_l)]))
  obtain ⟨cq294, kq294, q294a, q294b, q294c⟩ := isOf hZ e293 F274
  obtain ⟨_, _, ⟨T294, L294, k294, n294⟩, -, X294, ⟨Lc294, hQ294, l294, y294, z294⟩, st294⟩ := X293.interfaceBack hx (xi := (⟨"java/util/List", "iterator", "()Ljava/util/Iterator;"⟩ : MethodName)) (y := (⟨ς3, "iterator", "()Ljava/util/Iterator;"⟩ : MethodName)) hown (mvT hZ (own_w hw 159 rfl)) (mvT hZ (own_w hw 160 rfl)) (mvT hZ (own_w hw 161 rfl)) (mvT hZ (own_w hw 162 rfl)) (mvT hZ (own_w hw 163 rfl)) (mvT hZ (own_w hw 164 rfl)) (mvT hZ (own_w hw 165 rfl)) (mvT hZ (own_w hw 166 rfl)) (by decide) (backOf (W := 0) (it_rm l Z a0 hw [] (w_l) h265 n0 F266 F274 F275) hZ (own_w hw 167 rfl) (own_w hw 36 rfl) (by decide) (by decide)) q294a q294b q294c (g := (mkF m 26 #[ρ b0, ι p1, υ, υ] [(.ref w_l)])) rfl (by rw [hml]; rfl) (Steps.refl _) (argsL := []) (rest := []) (lenOf own_pd7 rfl) rfl (by show 2 * 0 + _ ≤ _; exact Nat.le_of_eq rfl) (hb hby rr_d26) (fun _ _ => ⟨rfl, e293, (by decide : 1 + 1 ≤ _), (by decide : 16 + 4 ≤ _)⟩)
  dsimp only [Pt.U, Pt.locs, Pt.cells, Pt.slots] at X294 l294 y294 z294 st294 hQ294
  subst l294 y294 z294
  obtain ⟨r26, rfl, ge294, gh294, N294q, K294, G295, G296, G297⟩ := hQ294
  have ne298 : b0 ≠ r26 := Nat.ne_of_lt (Nat.lt_of_lt_of_le F267.lt gh294)
  have ne299 : w_d ≠ r26 := Nat.ne_of_lt (Nat.lt_of_lt_of_le F273.lt gh294)
  have ne300 : w_l ≠ r26 := Nat.ne_of_lt (Nat.lt_of_lt_of_le F274.lt gh294)
  have ne301 : w_f ≠ r26 := Nat.ne_of_lt (Nat.lt_of_lt_of_le F278.lt gh294)
  have ne302 : w_p ≠ r26 := Nat.ne_of_lt (Nat.lt_of_lt_of_le F281.lt gh294)
  have ne303 : w_1 ≠ r26 := Nat.ne_of_lt (Nat.lt_of_lt_of_le F288.lt gh294)
  have ne304 : w_2 ≠ r26 := Nat.ne_of_lt (Nat.lt_of_lt_of_le F289.lt gh294)
  have ne305 : w_k ≠ r26 := Nat.ne_of_lt (Nat.lt_of_lt_of_le F290.lt gh294)
  have ne306 : o17 ≠ r26 := Nat.ne_of_lt (Nat.lt_of_lt_of_le F292.lt gh294)
  have gh307 : h0.size ≤ r26 := Nat.le_trans F291.1 gh294
  have F308 : n0 ≤ T294.heap.size := Nat.le_trans F266 K294.1
  have F309 := F267.keep K294
  have F310 := F268.keep K294 nin0
  have F311 := F269.keep K294 nin0
  have F312 := F270.keep K294 nin0
  have F313 := F271.keep K294 nin0
  have F314 := F272.keep K294 nin0
  have F315 := F273.keep K294 nin0
  have F316 := F274.keep K294
  have F317 := F275.keep K294 nin0
  have F318 := F276.keep K294 nin0
  have F319 := F277.keep K294 nin0
  have F320 := F278.keep K294
  have F321 := F279.keep K294 nin0
  have F322 := F280.keep K294 nin0
  have F323 := F281.keep K294 nin0
  have F324 := F282.keep K294 nin0
  have F325 := F283.keep K294 nin0
  have F326 := F284.keep K294 nin0
  have F327 := F285.keep K294 nin0
  have F328 := F286.keep K294 nin0
  have F329 := F287.keep K294 nin0
  have F330 := F288.keep K294 nin0
  have F331 := F289.keep K294 nin0
  have F332 := F290.keep K294 nin0
  have F333 : Keep h0 T294.heap [b0, w_f, w_d, w_1, w_2, w_k] := F291.trans K294 all0
  have F334 := F292.keep K294 nin0
  have N294 := Fr.app N265 N294q
  refine own_tr st294 ?_
  show own_Dn p e below s _ _ _ (T294.setTop (mkF m 31 #[ρ b0, ι p1, υ, υ] [(.ref r26)]))
  refine own_st (fun _ k => XS.astoreN X294.here hx rfl (hb hby rr_d31) rfl rfl (l' := #[ρ b0, ι p1, ρ r26, υ]) rfl (XS.aloadN X294.here hx rfl (hb hby rr_d32) rfl rfl k)) ?_
  show own_Dn p e below s _ _ _ (T294.setTop (mkF m 33 #[ρ b0, ι p1, ρ r26, υ] [(.ref r26)]))
  obtain ⟨cq335, kq335, q335a, q335b, q335c⟩ := isOf hZ rfl G295
  obtain ⟨_, _, ⟨T335, L335, k335, n335⟩, -, X335, ⟨Lc335, hQ335, l335, y335, z335⟩, st335⟩ := X294.interfaceBack hx (xi := (⟨"java/util/Iterator", "hasNext", "()Z"⟩ : MethodName)) (y := (⟨ς7, "hasNext", "()Z"⟩ : MethodName)) hown (mvT hZ (own_w hw 184 rfl)) (mvT hZ (own_w hw 185 rfl)) (mvT hZ (own_w hw 186 rfl)) (mvT hZ (own_w hw 187 rfl)) (mvT hZ (own_w hw 188 rfl)) (mvT hZ (own_w hw 189 rfl)) (mvT hZ (own_w hw 190 rfl)) (mvT hZ (own_w hw 191 rfl)) (by decide) (backOf (W := 0) (hn_rm l Z a0 hw [] (r26) (w_l) T294.heap n0 F308 G297 G296 F318) hZ (own_w hw 192 rfl) (own_w hw 170 rfl) (by decide) (by decide)) q335a q335b q335c (g := (mkF m 33 #[ρ b0, ι p1, ρ r26, υ] [(.ref r26)])) rfl (by rw [hml]; rfl) (Steps.refl _) (argsL := []) (rest := []) (lenOf own_pd8 rfl) rfl (by show 2 * 0 + _ ≤ _; exact Nat.le_of_eq rfl) (hb hby rr_d33) (fun _ _ => ⟨rfl, rfl, (by decide : 2 + 0 ≤ _), (by decide : 20 + 0 ≤ _)⟩)
  dsimp only [Pt.U, Pt.locs, Pt.cells, Pt.slots] at X335 l335 y335 z335 st335 hQ335
  subst l335 y335 z335
  obtain ⟨rfl, N335q, e335⟩ := hQ335
  have N335 := Fr.app N294 N335q
  refine own_tr st335 ?_
  show own_Dn p e below s _ _ _ (T335.setTop (mkF m 38 #[ρ b0, ι p1, ρ r26, υ] [(.int 0)]))
  refine own_st (fun _ k => XS.ifYes X335.here hx rfl (pc0 := 38) (pc' := 58) rfl (hb hby rr_d38) rfl ((if0 _ _).trans (teq (by decide : (0 : Int32) = (0 : Int32))).1) (by decide) (by decide) k) ?_
  show own_Dn p e below s _ _ _ (T335.setTop (mkF m 58 #[ρ b0, ι p1, ρ r26, υ] []))
  refine own_st (fun _ k => XS.aloadN X335.here hx rfl (hb hby rr_d58) rfl rfl k) ?_
  show own_Dn p e below s _ _ _ (T335.setTop (mkF m 59 #[ρ b0, ι p1, ρ r26, υ] [(.ref b0)]))
  obtain ⟨T336, X336, e336, st336⟩ := getF X335 hx hZ hown (host := "") (Or.inl (own_w hw 140 rfl)) Via.refl e335 F314 (g := (mkF m 59 #[ρ b0, ι p1, ρ r26, υ] [(.ref b0)])) rfl rfl (hb hby rr_d59)
  refine own_st st336 ?_
  show own_Dn p e below s _ _ _ (T336.setTop (mkF m 62 #[ρ b0, ι p1, ρ r26, υ] [(.ref o17)]))
  refine own_st (fun _ k => XS.iloadN X336.here hx rfl (hb hby rr_d62) rfl (XS.iconst X336.here hx rfl (hb hby rr_d63) k)) ?_
  show own_Dn p e below s _ _ _ (T336.setTop (mkF m 64 #[ρ b0, ι p1, ρ r26, υ] [(.int 1), (.int p1), (.ref o17)]))
  obtain ⟨T337, h337, X337, e337, W337, F337a, st337⟩ := own_stZ (pc := 64) (L := #[ρ b0, ι p1, ρ r26, υ]) (rest := []) X336 hx hZ e336 F334 (j := p1) (x := (1 : Int32)) (own_nn hr.1) (own_lt16 hr) (hb hby rr_d64)
  have N337 := Fr.snoc X337 N335 ge236
  have F338 : n0 ≤ h337.size := Nat.le_trans F308 (Keep.of_wr W337).1
  have F339 := F309.wr W337
  have F340 := F310.other W337 (Or.inl ne228)
  have F341 := F311.other W337 (Or.inl ne228)
  have F342 := F312.other W337 (Or.inl ne228)
  have F343 := F313.other W337 (Or.inl ne228)
  have F344 := F314.other W337 (Or.inl ne228)
  have F345 := F315.other W337 ne229
  have F346 := F316.wr W337
  have F347 := F317.other W337 (Or.inl ne230)
  have F348 := F318.other W337 (Or.inl ne230)
  have F349 := F319.other W337 (Or.inl ne228)
  have F350 := F320.wr W337
  have F351 := F321.other W337 (Or.inl ne231)
  have F352 := F322.other W337 (Or.inl ne231)
  have F353 := F323.other W337 ne232
  have F354 := F324.other W337 (Or.inl ne231)
  have F355 := F325.other W337 (Or.inl ne231)
  have F356 := F326.other W337 (Or.inl ne231)
  have F357 := F327.other W337 (Or.inl ne231)
  have F358 := F328.other W337 (Or.inl ne231)
  have F359 := F329.other W337 (Or.inl ne231)
  have F360 := F330.other W337 ne233
  have F361 := F331.other W337 ne234
  have F362 := F332.other W337 ne235
  have F363 : Keep h0 h337 [b0, w_f, w_d, w_1, w_2, w_k] := F333.wr W337 (Or.inr gh237)
  have F364 := G295.wr W337
  have F365 := G296.other W337 (Or.inl (Ne.symm ne306))
  have F366 := G297.other W337 (Or.inl (Ne.symm ne306))
  refine own_st st337 ?_
  show own_Dn p e below s _ _ _ (T337.setTop (mkF m 65 #[ρ b0, ι p1, ρ r26, υ] []))
  refine own_st (fun _ k => XS.aloadN X337.here hx rfl (hb hby rr_d65) rfl rfl k) ?_
  show own_Dn p e below s _ _ _ (T337.setTop (mkF m 66 #[ρ b0, ι p1, ρ r26, υ] [(.ref b0)]))
  obtain ⟨T367, X367, e367, st367⟩ := getF X337 hx hZ hown (host := "") (Or.inl (own_w hw 112 rfl)) Via.refl e337 F342 (g := (mkF m 66 #[ρ b0, ι p1, ρ r26, υ] [(.ref b0)])) rfl rfl (hb hby rr_d66)
  refine own_st st367 ?_
  show own_Dn p e below s _ _ _ (T367.setTop (mkF m 69 #[ρ b0, ι p1, ρ r26, υ] [(.ref w_f)]))
  refine own_st (fun _ k => XS.iloadN X367.here hx rfl (hb hby rr_d69) rfl k) ?_
  show own_Dn p e below s _ _ _ (T367.setTop (mkF m 70 #[ρ b0, ι p1, ρ r26, υ] [(.int p1), (.ref w_f)]))
  obtain ⟨cq368, q368, q368x⟩ := F350.cell
  obtain ⟨_, ⟨T368, L368, k368, n368⟩, X368, ⟨Lc368, hQ368, l368, y368, z368⟩, st368⟩ := own_refPriv (y := (⟨ς1, "remove", "(I)V"⟩ : MethodName)) X367 hx hZ hown (own_w hw 203 rfl) (own_w hw 204 rfl) (own_w hw 206 rfl) (own_w hw 94 rfl) (by decide) (Cond.privateMethod_at (mvP hZ (own_w hw 205 rfl) (args := #[]))) (backOf (W := 0) (ir_rm l Z a0 hw [] (w_f) (p1) (b0) (w_p) (w_d) (w_P) (w_D) (w_1) (w_2) (w_k) (w_F) (w_L) (w_K) (w_c) h337 n0 F338 F350 F351 F352 F353 F339 F340 F341 F345 F354 F355 F356 F357 F358 F359 F360 F361 F362 ge_w_f ge_w_1 ge_w_2 ge_w_k nes8 nes7 nes10 nes11 nes13 nes12 nes15 nes16 nes19 nes18 nes21 nes22 nes17 nes23 nes24 nes1 nes4 hP hF hr hin) hZ (own_w hw 206 rfl) (own_w hw 95 rfl) (by decide) (by decide)) (g := (mkF m 70 #[ρ b0, ι p1, ρ r26, υ] [(.int p1), (.ref w_f)])) rfl (by rw [hml]; rfl) (a := w_f) (by rw [show T367.heap = h337 from e367]; exact q368) q368x (argsL := [(.int p1)]) (rest := []) (lenOf own_pd5 rfl) rfl (by show 2 * 0 + _ ≤ _; exact Nat.le_of_eq rfl) (hb hby rr_d70) ⟨rfl, e367, (by decide : 2 + 0 ≤ _), (by decide : 20 + 0 ≤ _)⟩
  dsimp only [Pt.U, Pt.locs, Pt.cells, Pt.slots] at X368 l368 y368 z368 st368 hQ368
  subst l368 y368 z368
  obtain ⟨rfl, N368q, K368, G369, G370, G371, G372, G373, G374, G375, G376, G377, G378, G379, G380⟩ := hQ368
  have F381 : n0 ≤ T368.heap.size := Nat.le_trans F338 K368.1
  have F382 := F339.keep K368
  have F383 := F340.keep K368 (ninS (ne_exa F339 F350 (by decide)) (ninS nes7 (ninS nes12 (ninS nes18 nin0))))
  have F384 := F341.keep K368 (ninS (ne_exa F339 F350 (by decide)) (ninS nes7 (ninS nes12 (ninS nes18 nin0))))
  have F385 := F342.keep K368 (ninS (ne_exa F339 F350 (by decide)) (ninS nes7 (ninS nes12 (ninS nes18 nin0))))
  have F386 := F343.keep K368 (ninS (ne_exa F339 F350 (by decide)) (ninS nes7 (ninS nes12 (ninS nes18 nin0))))
  have F387 := F344.keep K368 (ninS (ne_exa F339 F350 (by decide)) (ninS nes7 (ninS nes12 (ninS nes18 nin0))))
  have F388 := F345.keep K368 (ninS (Ne.symm nes4) (ninS nes11 (ninS nes16 (ninS nes22 nin0))))
  have F389 := F346.keep K368
  have F390 := F347.keep K368 (ninS (ne_exa F346 F350 (by decide)) (ninS nes9 (ninS nes14 (ninS nes20 nin0))))
  have F391 := F348.keep K368 (ninS (ne_exa F346 F350 (by decide)) (ninS nes9 (ninS nes14 (ninS nes20 nin0))))
  have F392 := F349.keep K368 (ninS (ne_exa F339 F350 (by decide)) (ninS nes7 (ninS nes12 (ninS nes18 nin0))))
  have F393 := F350.keep K368
  have F394 := F353.keep K368 (ninS (Ne.symm nes1) (ninS nes10 (ninS nes15 (ninS nes21 nin0))))
  have F395 : Keep h0 T368.heap [b0, w_f, w_d, w_1, w_2, w_k] := F363.trans K368 (allS (Or.inl (List.mem_of_getElem? (i := 1) rfl)) (allS (Or.inl (List.mem_of_getElem? (i := 3) rfl)) (allS (Or.inl (List.mem_of_getElem? (i := 4) rfl)) (allS (Or.inl (List.mem_of_getElem? (i := 5) rfl)) all0))))
  have F396 := F364.keep K368
  have F397 := F365.keep K368 (ninS (Ne.symm ne301) (ninS (Ne.symm ne303) (ninS (Ne.symm ne304) (ninS (Ne.symm ne305) nin0))))
  have F398 := F366.keep K368 (ninS (Ne.symm ne301) (ninS (Ne.symm ne303) (ninS (Ne.symm ne304) (ninS (Ne.symm ne305) nin0))))
  have F399 := F337a.keep K368 (ninS (Ne.symm ne231) (ninS (Ne.symm ne233) (ninS (Ne.symm ne234) (ninS (Ne.symm ne235) nin0))))
  have N368 := Fr.app N337 N368q
  refine own_tr st368 ?_
  show own_Dn p e below s _ _ _ (T368.setTop (mkF m 73 #[ρ b0, ι p1, ρ r26, υ] []))
  refine own_st (fun _ k => XS.aloadN X368.here hx rfl (hb hby rr_d73) rfl rfl k) ?_
  show own_Dn p e below s _ _ _ (T368.setTop (mkF m 74 #[ρ b0, ι p1, ρ r26, υ] [(.ref b0)]))
  obtain ⟨T400, X400, e400, st400⟩ := getF X368 hx hZ hown (host := "") (Or.inl (own_w hw 58 rfl)) Via.refl rfl F386 (g := (mkF m 74 #[ρ b0, ι p1, ρ r26, υ] [(.ref b0)])) rfl rfl (hb hby rr_d74)
  refine own_st st400 ?_
  show own_Dn p e below s _ _ _ (T400.setTop (mkF m 77 #[ρ b0, ι p1, ρ r26, υ] [(.ref w_l)]))
  obtain ⟨cq401, kq401, q401a, q401b, q401c⟩ := isOf hZ e400 F389
  obtain ⟨_, _, ⟨T401, L401, k401, n401⟩, -, X401, ⟨Lc401, hQ401, l401, y401, z401⟩, st401⟩ := X400.interfaceBack hx (xi := (⟨"java/util/List", "iterator", "()Ljava/util/Iterator;"⟩ : MethodName)) (y := (⟨ς3, "iterator", "()Ljava/util/Iterator;"⟩ : MethodName)) hown (mvT hZ (own_w hw 159 rfl)) (mvT hZ (own_w hw 160 rfl)) (mvT hZ (own_w hw 161 rfl)) (mvT hZ (own_w hw 162 rfl)) (mvT hZ (own_w hw 163 rfl)) (mvT hZ (own_w hw 164 rfl)) (mvT hZ (own_w hw 165 rfl)) (mvT hZ (own_w hw 166 rfl)) (by decide) (backOf (W := 0) (it_rm l Z a0 hw [] (w_l) T368.heap n0 F381 F389 F390) hZ (own_w hw 167 rfl) (own_w hw 36 rfl) (by decide) (by decide)) q401a q401b q401c (g := (mkF m 77 #[ρ b0, ι p1, ρ r26, υ] [(.ref w_l)])) rfl (by rw [hml]; rfl) (Steps.refl _) (argsL := []) (rest := []) (lenOf own_pd7 rfl) rfl (by show 2 * 0 + _ ≤ _; exact Nat.le_of_eq rfl) (hb hby rr_d77) (fun _ _ => ⟨rfl, e400, (by decide : 2 + 1 ≤ _), (by decide : 20 + 4 ≤ _)⟩)
  dsimp only [Pt.U, Pt.locs, Pt.cells, Pt.slots] at X401 l401 y401 z401 st401 hQ401
  subst l401 y401 z401
  obtain ⟨r77, rfl, ge401, gh401, N401q, K401, G402, G403, G404⟩ := hQ401
  have ne405 : b0 ≠ r77 := Nat.ne_of_lt (Nat.lt_of_lt_of_le F382.lt gh401)
  have ne406 : w_d ≠ r77 := Nat.ne_of_lt (Nat.lt_of_lt_of_le F388.lt gh401)
  have ne407 : w_l ≠ r77 := Nat.ne_of_lt (Nat.lt_of_lt_of_le F389.lt gh401)
  have ne408 : w_f ≠ r77 := Nat.ne_of_lt (Nat.lt_of_lt_of_le G369.lt gh401)
  have ne409 : w_p ≠ r77 := Nat.ne_of_lt (Nat.lt_of_lt_of_le F394.lt gh401)
  have ne410 : r26 ≠ r77 := Nat.ne_of_lt (Nat.lt_of_lt_of_le F396.lt gh401)
  have ne411 : o17 ≠ r77 := Nat.ne_of_lt (Nat.lt_of_lt_of_le F399.lt gh401)
  have ne412 : w_1 ≠ r77 := Nat.ne_of_lt (Nat.lt_of_lt_of_le G378.lt gh401)
  have ne413 : w_2 ≠ r77 := Nat.ne_of_lt (Nat.lt_of_lt_of_le G379.lt gh401)
  have ne414 : w_k ≠ r77 := Nat.ne_of_lt (Nat.lt_of_lt_of_le G380.lt gh401)
  have gh415 : h0.size ≤ r77 := Nat.le_trans F395.1 gh401
  have F416 : n0 ≤ T401.heap.size := Nat.le_trans F381 K401.1
  have F417 := F382.keep K401
  have F418 := F383.keep K401 nin0
  have F419 := F384.keep K401 nin0
  have F420 := F385.keep K401 nin0
  have F421 := F386.keep K401 nin0
  have F422 := F387.keep K401 nin0
  have F423 := F388.keep K401 nin0
  have F424 := F389.keep K401
  have F425 := F390.keep K401 nin0
  have F426 := F391.keep K401 nin0
  have F427 := F392.keep K401 nin0
  have F428 := G369.keep K401
  have F429 := F394.keep K401 nin0
  have F430 : Keep h0 T401.heap [b0, w_f, w_d, w_1, w_2, w_k] := F395.trans K401 all0
  have F431 := F396.keep K401
  have F432 := F397.keep K401 nin0
  have F433 := F398.keep K401 nin0
  have F434 := F399.keep K401 nin0
  have F435 := G370.keep K401 nin0
  have F436 := G371.keep K401 nin0
  have F437 := G372.keep K401 nin0
  have F438 := G373.keep K401 nin0
  have F439 := G374.keep K401 nin0
  have F440 := G375.keep K401 nin0
  have F441 := G376.keep K401 nin0
  have F442 := G377.keep K401 nin0
  have F443 := G378.keep K401 nin0
  have F444 := G379.keep K401 nin0
  have F445 := G380.keep K401 nin0
  have N401 := Fr.app N368 N401q
  refine own_tr st401 ?_
  show own_Dn p e below s _ _ _ (T401.setTop (mkF m 82 #[ρ b0, ι p1, ρ r26, υ] [(.ref r77)]))
  refine own_st (fun _ k => XS.astoreN X401.here hx rfl (hb hby rr_d82) rfl rfl (l' := #[ρ b0, ι p1, ρ r77, υ]) rfl (XS.aloadN X401.here hx rfl (hb hby rr_d83) rfl rfl k)) ?_
  show own_Dn p e below s _ _ _ (T401.setTop (mkF m 84 #[ρ b0, ι p1, ρ r77, υ] [(.ref r77)]))
  obtain ⟨cq446, kq446, q446a, q446b, q446c⟩ := isOf hZ rfl G402
  obtain ⟨_, _, ⟨T446, L446, k446, n446⟩, -, X446, ⟨Lc446, hQ446, l446, y446, z446⟩, st446⟩ := X401.interfaceBack hx (xi := (⟨"java/util/Iterator", "hasNext", "()Z"⟩ : MethodName)) (y := (⟨ς7, "hasNext", "()Z"⟩ : MethodName)) hown (mvT hZ (own_w hw 184 rfl)) (mvT hZ (own_w hw 185 rfl)) (mvT hZ (own_w hw 186 rfl)) (mvT hZ (own_w hw 187 rfl)) (mvT hZ (own_w hw 188 rfl)) (mvT hZ (own_w hw 189 rfl)) (mvT hZ (own_w hw 190 rfl)) (mvT hZ (own_w hw 191 rfl)) (by decide) (backOf (W := 0) (hn_rm l Z a0 hw [] (r77) (w_l) T401.heap n0 F416 G404 G403 F426) hZ (own_w hw 192 rfl) (own_w hw 170 rfl) (by decide) (by decide)) q446a q446b q446c (g := (mkF m 84 #[ρ b0, ι p1, ρ r77, υ] [(.ref r77)])) rfl (by rw [hml]; rfl) (Steps.refl _) (argsL := []) (rest := []) (lenOf own_pd8 rfl) rfl (by show 2 * 0 + _ ≤ _; exact Nat.le_of_eq rfl) (hb hby rr_d84) (fun _ _ => ⟨rfl, rfl, (by decide : 3 + 0 ≤ _), (by decide : 24 + 0 ≤ _)⟩)
  dsimp only [Pt.U, Pt.locs, Pt.cells, Pt.slots] at X446 l446 y446 z446 st446 hQ446
  subst l446 y446 z446
  obtain ⟨rfl, N446q, e446⟩ := hQ446
  have N446 := Fr.app N401 N446q
  refine own_tr st446 ?_
  show own_Dn p e below s _ _ _ (T446.setTop (mkF m 89 #[ρ b0, ι p1, ρ r77, υ] [(.int 0)]))
  refine own_st (fun _ k => XS.ifYes X446.here hx rfl (pc0 := 89) (pc' := 110) rfl (hb hby rr_d89) rfl ((if0 _ _).trans (teq (by decide : (0 : Int32) = (0 : Int32))).1) (by decide) (by decide) k) ?_
  show own_Dn p e below s _ _ _ (T446.setTop (mkF m 110 #[ρ b0, ι p1, ρ r77, υ] []))
  have eqH : T446.heap = T401.heap := e446
  exact own_retV X446 hx hret hlk (hb hby rr_d110) (by decide) (by decide) (by rw [eqH]; exact ⟨rfl, N446, F430, o17, ge236, (Or.inr gh237), ne228, F417, F418, F419, F420, F421, F422, F427, F428, F435, F436, F437, F438, F439, F440, F441, (by rw [hy15, rr_g15]; exact F442), F423, (by rw [hy17, rr_g17]; exact F443), (by rw [hy18, rr_g18]; exact F444), (by rw [hy19, rr_g19]; exact F445), (by rw [hy20, rr_g20]; exact F434)⟩)
theorem rr_ef (m : MethodId) (b0 : Addr) (p1 : Int32) : entryFrame m #[(.ref b0), (.int p1)] 4 = mkF m 0 #[.val (.ref b0), .val (.int p1), .unset, .unset] [] := by first | (simp [entryFrame, mkF, argsToLocals, Value.category]; done) | rfl
theorem rr_rm (l : Launch) (Z : State) (a0 : Array Value) (hw : ∀ d ∈ tables_1, d.before a0 Z = true) (ws : List Jvm.Cond) (b0 : Addr) (p1 : Int32) (w_p : Addr) (w_d : Addr) (w_1 : Addr) (w_2 : Addr) (w_k : Addr) (w_f : Addr) (w_l : Addr) (w_P : Nat → Int32) (w_D : Nat → Int32) (w_F : Nat → Int32) (w_L : Nat → Int32) (w_K : Nat → Int32) (w_c : Int32) (h0 : Heap) (n0 : Nat) (Z0 : n0 ≤ h0.size) (P0 : Exa Z h0 b0 ς0) (P1 : Fld Z h0 b0 ς0 "data" "[I" (.ref w_d)) (P2 : Fld Z h0 b0 ς0 "arity" "I" (.int 1)) (P3 : Fld Z h0 b0 ς0 "facts" ς5 (.ref w_f)) (P4 : Fld Z h0 b0 ς0 "indexes" ς10 (.ref w_l)) (P5 : Fld Z h0 b0 ς0 "removed" "[Z" .null) (P6 : own_Arf Z h0 w_d .int 16 (fun i => (.int (w_D i)))) (P7 : Exa Z h0 w_l ς3) (P8 : Fld Z h0 w_l ς6 "modCount" "I" (.int 0)) (P9 : Fld Z h0 w_l ς3 "size" "I" (.int 0)) (P10 : Fld Z h0 b0 ς0 "size" "I" (.int 3)) (P11 : Exa Z h0 w_f ς1) (P12 : Fld Z h0 w_f ς1 "this$0" ς2 (.ref b0)) (P13 : Fld Z h0 w_f ς1 "positions" "[I" (.ref w_p)) (P14 : own_Arf Z h0 w_p .int 1 (fun i => (.int (w_P i)))) (P15 : Fld Z h0 w_f ς1 "firsts" "[I" (.ref w_1)) (P16 : Fld Z h0 w_f ς1 "lasts" "[I" (.ref w_2)) (P17 : Fld Z h0 w_f ς1 "rowKey" "[I" (.ref w_k)) (P18 : Fld Z h0 w_f ς1 "next" "[I" .null) (P19 : Fld Z h0 w_f ς1 "previous" "[I" .null) (P20 : Fld Z h0 w_f ς1 "keys" "I" (.int w_c)) (P21 : own_Arf Z h0 w_1 .int 16 (fun i => (.int (w_F i)))) (P22 : own_Arf Z h0 w_2 .int 16 (fun i => (.int (w_L i)))) (P23 : own_Arf Z h0 w_k .int 1 (fun i => (.int (w_K i)))) (ge_b0 : n0 ≤ b0) (ge_w_f : n0 ≤ w_f) (ge_w_d : n0 ≤ w_d) (ge_w_1 : n0 ≤ w_1) (ge_w_2 : n0 ≤ w_2) (ge_w_k : n0 ≤ w_k) (nes0 : b0 ≠ w_p) (nes1 : w_f ≠ w_p) (nes2 : w_l ≠ w_p) (nes3 : b0 ≠ w_d) (nes4 : w_f ≠ w_d) (nes5 : w_l ≠ w_d) (nes6 : w_p ≠ w_d) (nes7 : b0 ≠ w_1) (nes8 : w_f ≠ w_1) (nes9 : w_l ≠ w_1) (nes10 : w_p ≠ w_1) (nes11 : w_d ≠ w_1) (nes12 : b0 ≠ w_2) (nes13 : w_f ≠ w_2) (nes14 : w_l ≠ w_2) (nes15 : w_p ≠ w_2) (nes16 : w_d ≠ w_2) (nes17 : w_1 ≠ w_2) (nes18 : b0 ≠ w_k) (nes19 : w_f ≠ w_k) (nes20 : w_l ≠ w_k) (nes21 : w_p ≠ w_k) (nes22 : w_d ≠ w_k) (nes23 : w_1 ≠ w_k) (nes24 : w_2 ≠ w_k) (hP : w_P 0 = 0) (hF : own_FB w_F) (hr : 0 ≤ p1.toInt ∧ p1.toInt < 16) (hin : own_In w_F 16 (own_hm (w_D p1.toNatClampNeg)) p1) :
    MetFree l (⟨ς0, "remove", "(I)V"⟩ : MethodName) (head1 (Jvm.Cond.code (⟨ς0, "remove", "(I)V"⟩ : MethodName) prog_23_method_8_code 4 none :: ws) ({ frames := 4, cells := 3, slots := 24, locals := 64 } : Room)) (fun a U => a = #[(.ref b0), (.int p1)] ∧ Z.Warmed39 U.vm ∧ U.heap = h0) (fun _ _ _ _ _ => True) (fun _ U o U' => ∃ v L, o = .returned v ∧ rr_Q Z b0 p1 w_p w_d w_1 w_2 w_k w_f w_l w_P w_D w_F w_L w_K w_c (rr_g15 p1 w_P w_D w_F w_L w_K w_c) (rr_g17 p1 w_P w_D w_F w_L w_K w_c) (rr_g18 p1 w_P w_D w_F w_L w_K w_c) (rr_g19 p1 w_P w_D w_F w_L w_K w_c) (rr_g20 p1 w_P w_D w_F w_L w_K w_c) h0 n0 v U'.heap L ∧ FrameEnd U o U' L ({ frames := 4, cells := 3, slots := 24, locals := 64 } : Room).cells ({ frames := 4, cells := 3, slots := 24, locals := 64 } : Room).slots) :=
  own_met hw (plainFor_of_name (by first | (simp [plainName, overriddenIn]; done) | decide +kernel)) (fun p e s m below meth c T0 C0 X0 e0 => own_st (fun _ k => castTop (rr_ef m b0 p1) k) (rr_c0 C0 X0 e0 (Fr.nil n0) Z0 P0 P1 P2 P3 P4 P5 P6 P7 P8 P9 P10 P11 P12 P13 P14 P15 P16 P17 P18 P19 P20 P21 P22 P23 ge_b0 ge_w_f ge_w_d ge_w_1 ge_w_2 ge_w_k nes0 nes1 nes2 nes3 nes4 nes5 nes6 nes7 nes8 nes9 nes10 nes11 nes12 nes13 nes14 nes15 nes16 nes17 nes18 nes19 nes20 nes21 nes22 nes23 nes24 hP hF hr hin rfl rfl rfl rfl rfl))
def rs_Q (Z : State) (b0 : Addr) (p1 : Int32) (w_p : Addr) (w_d : Addr) (w_1 : Addr) (w_2 : Addr) (w_k : Addr) (w_f : Addr) (w_l : Addr) (w_P : Nat → Int32) (w_D : Nat → Int32) (w_F : Nat → Int32) (w_L : Nat → Int32) (w_K : Nat → Int32) (w_c : Int32) (w_v : Addr) (w_V : Nat → Int32) (y15 : Int32) (y17 : Nat → Int32) (y18 : Nat → Int32) (y19 : Nat → Int32) (y20 : Nat → Int32) (h0 : Heap) (n0 : Nat) (v : Option Value) (h : Heap) (L : List Loc) : Prop := v = none ∧ Fr n0 L ∧ Keep h0 h [b0, w_f, w_d, w_1, w_2, w_k, w_v] ∧ Exa Z h b0 ς0 ∧ Fld Z h b0 ς0 "data" "[I" (.ref w_d) ∧ Fld Z h b0 ς0 "arity" "I" (.int 1) ∧ Fld Z h b0 ς0 "facts" ς5 (.ref w_f) ∧ Fld Z h b0 ς0 "indexes" ς10 (.ref w_l) ∧ Fld Z h b0 ς0 "removed" "[Z" (.ref w_v) ∧ Fld Z h b0 ς0 "size" "I" (.int 3) ∧ Exa Z h w_f ς1 ∧ Fld Z h w_f ς1 "this$0" ς2 (.ref b0) ∧ Fld Z h w_f ς1 "positions" "[I" (.ref w_p) ∧ Fld Z h w_f ς1 "firsts" "[I" (.ref w_1) ∧ Fld Z h w_f ς1 "lasts" "[I" (.ref w_2) ∧ Fld Z h w_f ς1 "rowKey" "[I" (.ref w_k) ∧ Fld Z h w_f ς1 "next" "[I" .null ∧ Fld Z h w_f ς1 "previous" "[I" .null ∧ Fld Z h w_f ς1 "keys" "I" (.int y15) ∧ own_Arf Z h w_d .int 16 (fun i => (.int (w_D i))) ∧ own_Arf Z h w_1 .int 16 (fun i => (.int (y17 i))) ∧ own_Arf Z h w_2 .int 16 (fun i => (.int (y18 i))) ∧ own_Arf Z h w_k .int 1 (fun i => (.int (y19 i))) ∧ own_Arf Z h w_v .boolean 16 (fun i => (.int (y20 i)))
def rs_g15 (p1 : Int32) (w_P : Nat → Int32) (w_D : Nat → Int32) (w_F : Nat → Int32) (w_L : Nat → Int32) (w_K : Nat → Int32) (w_c : Int32) (w_V : Nat → Int32)  : Int32 :=
  (ir_g8 p1 w_P w_D w_F w_L w_K w_c)
def rs_g17 (p1 : Int32) (w_P : Nat → Int32) (w_D : Nat → Int32) (w_F : Nat → Int32) (w_L : Nat → Int32) (w_K : Nat → Int32) (w_c : Int32) (w_V : Nat → Int32)  : Nat → Int32 :=
  (ir_g9 p1 w_P w_D w_F w_L w_K w_c)
def rs_g18 (p1 : Int32) (w_P : Nat → Int32) (w_D : Nat → Int32) (w_F : Nat → Int32) (w_L : Nat → Int32) (w_K : Nat → Int32) (w_c : Int32) (w_V : Nat → Int32)  : Nat → Int32 :=
  (ir_g10 p1 w_P w_D w_F w_L w_K w_c)
def rs_g19 (p1 : Int32) (w_P : Nat → Int32) (w_D : Nat → Int32) (w_F : Nat → Int32) (w_L : Nat → Int32) (w_K : Nat → Int32) (w_c : Int32) (w_V : Nat → Int32)  : Nat → Int32 :=
  (ir_g11 p1 w_P w_D w_F w_L w_K w_c)
def rs_g20 (p1 : Int32) (w_P : Nat → Int32) (w_D : Nat → Int32) (w_F : Nat → Int32) (w_L : Nat → Int32) (w_K : Nat → Int32) (w_c : Int32) (w_V : Nat → Int32)  : Nat → Int32 :=
  (own_upd w_V (p1).toNatClampNeg (nar .boolean (1 : Int32)))
set_option maxRecDepth 65536 in
set_option maxHeartbeats 40000000 in
theorem rs_c0 {b0 : Addr} {p1 : Int32} {w_p : Addr} {w_d : Addr} {w_1 : Addr} {w_2 : Addr} {w_k : Addr} {w_f : Addr} {w_l : Addr} {w_P : Nat → Int32} {w_D : Nat → Int32} {w_F : Nat → Int32} {w_L : Nat → Int32} {w_K : Nat → Int32} {w_c : Int32} {w_v : Addr} {w_V : Nat → Int32} {locs : List Loc} {y15 : Int32} {y17 : Nat → Int32} {y18 : Nat → Int32} {y19 : Nat → Int32} {y20 : Nat → Int32} (C0 : own_Cx p s m meth c Z a0 prog_23_method_8_code 4 ς0 "remove" none) (X0 : Stand p l e ({ frames := 4, cells := 1, slots := 4, locals := 64 } : Room) s m args below meth c T0 locs 0 0) (e0 : T0.heap = h0) (N0 : Fr n0 locs)  (Z0 : n0 ≤ h0.size) (P0 : Exa Z h0 b0 ς0) (P1 : Fld Z h0 b0 ς0 "data" "[I" (.ref w_d)) (P2 : Fld Z h0 b0 ς0 "arity" "I" (.int 1)) (P3 : Fld Z h0 b0 ς0 "facts" ς5 (.ref w_f)) (P4 : Fld Z h0 b0 ς0 "indexes" ς10 (.ref w_l)) (P5 : Fld Z h0 b0 ς0 "removed" "[Z" (.ref w_v)) (P6 : own_Arf Z h0 w_d .int 16 (fun i => (.int (w_D i)))) (P7 : Exa Z h0 w_l ς3) (P8 : Fld Z h0 w_l ς6 "modCount" "I" (.int 0)) (P9 : Fld Z h0 w_l ς3 "size" "I" (.int 0)) (P10 : Fld Z h0 b0 ς0 "size" "I" (.int 3)) (P11 : Exa Z h0 w_f ς1) (P12 : Fld Z h0 w_f ς1 "this$0" ς2 (.ref b0)) (P13 : Fld Z h0 w_f ς1 "positions" "[I" (.ref w_p)) (P14 : own_Arf Z h0 w_p .int 1 (fun i => (.int (w_P i)))) (P15 : Fld Z h0 w_f ς1 "firsts" "[I" (.ref w_1)) (P16 : Fld Z h0 w_f ς1 "lasts" "[I" (.ref w_2)) (P17 : Fld Z h0 w_f ς1 "rowKey" "[I" (.ref w_k)) (P18 : Fld Z h0 w_f ς1 "next" "[I" .null) (P19 : Fld Z h0 w_f ς1 "previous" "[I" .null) (P20 : Fld Z h0 w_f ς1 "keys" "I" (.int w_c)) (P21 : own_Arf Z h0 w_1 .int 16 (fun i => (.int (w_F i)))) (P22 : own_Arf Z h0 w_2 .int 16 (fun i => (.int (w_L i)))) (P23 : own_Arf Z h0 w_k .int 1 (fun i => (.int (w_K i)))) (P24 : own_Arf Z h0 w_v .boolean 16 (fun i => (.int (w_V i)))) (ge_b0 : n0 ≤ b0) (ge_w_f : n0 ≤ w_f) (ge_w_d : n0 ≤ w_d) (ge_w_1 : n0 ≤ w_1) (ge_w_2 : n0 ≤ w_2) (ge_w_k : n0 ≤ w_k) (ge_w_v : n0 ≤ w_v) (nes0 : b0 ≠ w_p) (nes1 : w_f ≠ w_p) (nes2 : w_l ≠ w_p) (nes3 : b0 ≠ w_d) (nes4 : w_f ≠ w_d) (nes5 : w_l ≠ w_d) (nes6 : w_p ≠ w_d) (nes7 : b0 ≠ w_1) (nes8 : w_f ≠ w_1) (nes9 : w_l ≠ w_1) (nes10 : w_p ≠ w_1) (nes11 : w_d ≠ w_1) (nes12 : b0 ≠ w_2) (nes13 : w_f ≠ w_2) (nes14 : w_l ≠ w_2) (nes15 : w_p ≠ w_2) (nes16 : w_d ≠ w_2) (nes17 : w_1 ≠ w_2) (nes18 : b0 ≠ w_k) (nes19 : w_f ≠ w_k) (nes20 : w_l ≠ w_k) (nes21 : w_p ≠ w_k) (nes22 : w_d ≠ w_k) (nes23 : w_1 ≠ w_k) (nes24 : w_2 ≠ w_k) (nes25 : b0 ≠ w_v) (nes26 : w_f ≠ w_v) (nes27 : w_l ≠ w_v) (nes28 : w_p ≠ w_v) (nes29 : w_d ≠ w_v) (nes30 : w_1 ≠ w_v) (nes31 : w_2 ≠ w_v) (nes32 : w_k ≠ w_v) (hP : w_P 0 = 0) (hF : own_FB w_F) (hr : 0 ≤ p1.toInt ∧ p1.toInt < 16) (hin : own_In w_F 16 (own_hm (w_D p1.toNatClampNeg)) p1) (hy15 : y15 = rs_g15 p1 w_P w_D w_F w_L w_K w_c w_V ) (hy17 : y17 = rs_g17 p1 w_P w_D w_F w_L w_K w_c w_V ) (hy18 : y18 = rs_g18 p1 w_P w_D w_F w_L w_K w_c w_V ) (hy19 : y19 = rs_g19 p1 w_P w_D w_F w_L w_K w_c w_V ) (hy20 : y20 = rs_g20 p1 w_P w_D w_F w_L w_K w_c w_V ) :
    own_Dn p e below s (rs_Q Z b0 p1 w_p w_d w_1 w_2 w_k w_f w_l w_P w_D w_F w_L w_K w_c w_v w_V y15 y17 y18 y19 y20 h0 n0) ({ frames := 4, cells := 1, slots := 4, locals := 64 } : Room).cells ({ frames := 4, cells := 1, slots := 4, locals := 64 } : Room).slots (T0.setTop (mkF m 0 #[ρ b0, ι p1, υ, υ] [])) := by
  obtain ⟨hx, hZ, hw, hby, hml, hown, hret, hlk, hnm⟩ := id C0
  refine own_st (fun _ k => XS.aloadN X0.here hx rfl (hb hby rr_d0) rfl rfl k) ?_
  show own_Dn p e below s _ _ _ (T0.setTop (mkF m 1 #[ρ b0, ι p1, υ, υ] [(.ref b0)]))
  obtain ⟨T103, X103, e103, st103⟩ := getF X0 hx hZ hown (host := "") (Or.inl (own_w hw 140 rfl)) Via.refl e0 P5 (g := (mkF m 1 #[ρ b0, ι p1, υ, υ] [(.ref b0)])) rfl rfl (hb hby rr_d1)
  refine own_st st103 ?_
  show own_Dn p e below s _ _ _ (T103.setTop (mkF m 4 #[ρ b0, ι p1, υ, υ] [(.ref w_v)]))
  refine own_st (fun _ k => XT.ifnonnullYes X103.here hx rfl (pc0 := 4) (pc' := 58) rfl (hb hby rr_d4) rfl (by decide) (by decide) k) ?_
  show own_Dn p e below s _ _ _ (T103.setTop (mkF m 58 #[ρ b0, ι p1, υ, υ] []))
  refine own_st (fun _ k => XS.aloadN X103.here hx rfl (hb hby rr_d58) rfl rfl k) ?_
  show own_Dn p e below s _ _ _ (T103.setTop (mkF m 59 #[ρ b0, ι p1, υ, υ] [(.ref b0)]))
  obtain ⟨T104, X104, e104, st104⟩ := getF X103 hx hZ hown (host := "") (Or.inl (own_w hw 140 rfl)) Via.refl e103 P5 (g := (mkF m 59 #[ρ b0, ι p1, υ, υ] [(.ref b0)])) rfl rfl (hb hby rr_d59)
  refine own_st st104 ?_
  show own_Dn p e below s _ _ _ (T104.setTop (mkF m 62 #[ρ b0, ι p1, υ, υ] [(.ref w_v)]))
  refine own_st (fun _ k => XS.iloadN X104.here hx rfl (hb hby rr_d62) rfl (XS.iconst X104.here hx rfl (hb hby rr_d63) k)) ?_
  show own_Dn p e below s _ _ _ (T104.setTop (mkF m 64 #[ρ b0, ι p1, υ, υ] [(.int 1), (.int p1), (.ref w_v)]))
  obtain ⟨T105, h105, X105, e105, W105, F105a, st105⟩ := own_stZ (pc := 64) (L := #[ρ b0, ι p1, υ, υ]) (rest := []) X104 hx hZ e104 P24 (j := p1) (x := (1 : Int32)) (own_nn hr.1) (own_lt16 hr) (hb hby rr_d64)
  have N105 := Fr.snoc X105 N0 ge_w_v
  have F106 : n0 ≤ h105.size := Nat.le_trans Z0 (Keep.of_wr W105).1
  have F107 := P0.wr W105
  have F108 := P1.other W105 (Or.inl nes25)
  have F109 := P2.other W105 (Or.inl nes25)
  have F110 := P3.other W105 (Or.inl nes25)
  have F111 := P4.other W105 (Or.inl nes25)
  have F112 := P5.other W105 (Or.inl nes25)
  have F113 := P6.other W105 nes29
  have F114 := P7.wr W105
  have F115 := P8.other W105 (Or.inl nes27)
  have F116 := P9.other W105 (Or.inl nes27)
  have F117 := P10.other W105 (Or.inl nes25)
  have F118 := P11.wr W105
  have F119 := P12.other W105 (Or.inl nes26)
  have F120 := P13.other W105 (Or.inl nes26)
  have F121 := P14.other W105 nes28
  have F122 := P15.other W105 (Or.inl nes26)
  have F123 := P16.other W105 (Or.inl nes26)
  have F124 := P17.other W105 (Or.inl nes26)
  have F125 := P18.other W105 (Or.inl nes26)
  have F126 := P19.other W105 (Or.inl nes26)
  have F127 := P20.other W105 (Or.inl nes26)
  have F128 := P21.other W105 nes30
  have F129 := P22.other W105 nes31
  have F130 := P23.other W105 nes32
  have F131 : Keep h0 h105 [b0, w_f, w_d, w_1, w_2, w_k, w_v] := (Keep.refl h0 [b0, w_f, w_d, w_1, w_2, w_k, w_v]).wr W105 (Or.inl (List.mem_of_getElem? (i := 6) rfl))
  refine own_st st105 ?_
  show own_Dn p e below s _ _ _ (T105.setTop (mkF m 65 #[ρ b0, ι p1, υ, υ] []))
  refine own_st (fun _ k => XS.aloadN X105.here hx rfl (hb hby rr_d65) rfl rfl k) ?_
  show own_Dn p e below s _ _ _ (T105.setTop (mkF m 66 #[ρ b0, ι p1, υ, υ] [(.ref b0)]))
  obtain ⟨T132, X132, e132, st132⟩ := getF X105 hx hZ hown (host := "") (Or.inl (own_w hw 112 rfl)) Via.refl e105 F110 (g := (mkF m 66 #[ρ b0, ι p1, υ, υ] [(.ref b0)])) rfl rfl (hb hby rr_d66)
  refine own_st st132 ?_
  show own_Dn p e below s _ _ _ (T132.setTop (mkF m 69 #[ρ b0, ι p1, υ, υ] [(.ref w_f)]))
  refine own_st (fun _ k => XS.iloadN X132.here hx rfl (hb hby rr_d69) rfl k) ?_
  show own_Dn p e below s _ _ _ (T132.setTop (mkF m 70 #[ρ b0, ι p1, υ, υ] [(.int p1), (.ref w_f)]))
  obtain ⟨cq133, q133, q133x⟩ := F118.cell
  obtain ⟨_, ⟨T133, L133, k133, n133⟩, X133, ⟨Lc133, hQ133, l133, y133, z133⟩, st133⟩ := own_refPriv (y := (⟨ς1, "remove", "(I)V"⟩ : MethodName)) X132 hx hZ hown (own_w hw 203 rfl) (own_w hw 204 rfl) (own_w hw 206 rfl) (own_w hw 94 rfl) (by decide) (Cond.privateMethod_at (mvP hZ (own_w hw 205 rfl) (args := #[]))) (backOf (W := 0) (ir_rm l Z a0 hw [] (w_f) (p1) (b0) (w_p) (w_d) (w_P) (w_D) (w_1) (w_2) (w_k) (w_F) (w_L) (w_K) (w_c) h105 n0 F106 F118 F119 F120 F121 F107 F108 F109 F113 F122 F123 F124 F125 F126 F127 F128 F129 F130 ge_w_f ge_w_1 ge_w_2 ge_w_k nes8 nes7 nes10 nes11 nes13 nes12 nes15 nes16 nes19 nes18 nes21 nes22 nes17 nes23 nes24 nes1 nes4 hP hF hr hin) hZ (own_w hw 206 rfl) (own_w hw 95 rfl) (by decide) (by decide)) (g := (mkF m 70 #[ρ b0, ι p1, υ, υ] [(.int p1), (.ref w_f)])) rfl (by rw [hml]; rfl) (a := w_f) (by rw [show T132.heap = h105 from e132]; exact q133) q133x (argsL := [(.int p1)]) (rest := []) (lenOf own_pd5 rfl) rfl (by show 2 * 0 + _ ≤ _; exact Nat.le_of_eq rfl) (hb hby rr_d70) ⟨rfl, e132, (by decide : 0 + 0 ≤ _), (by decide : 0 + 0 ≤ _)⟩
  dsimp only [Pt.U, Pt.locs, Pt.cells, Pt.slots] at X133 l133 y133 z133 st133 hQ133
  subst l133 y133 z133
  obtain ⟨rfl, N133q, K133, G134, G135, G136, G137, G138, G139, G140, G141, G142, G143, G144, G145⟩ := hQ133
  have F146 : n0 ≤ T133.heap.size := Nat.le_trans F106 K133.1
  have F147 := F107.keep K133
  have F148 := F108.keep K133 (ninS (ne_exa F107 F118 (by decide)) (ninS nes7 (ninS nes12 (ninS nes18 nin0))))
  have F149 := F109.keep K133 (ninS (ne_exa F107 F118 (by decide)) (ninS nes7 (ninS nes12 (ninS nes18 nin0))))
  have F150 := F110.keep K133 (ninS (ne_exa F107 F118 (by decide)) (ninS nes7 (ninS nes12 (ninS nes18 nin0))))
  have F151 := F111.keep K133 (ninS (ne_exa F107 F118 (by decide)) (ninS nes7 (ninS nes12 (ninS nes18 nin0))))
  have F152 := F112.keep K133 (ninS (ne_exa F107 F118 (by decide)) (ninS nes7 (ninS nes12 (ninS nes18 nin0))))
  have F153 := F113.keep K133 (ninS (Ne.symm nes4) (ninS nes11 (ninS nes16 (ninS nes22 nin0))))
  have F154 := F114.keep K133
  have F155 := F115.keep K133 (ninS (ne_exa F114 F118 (by decide)) (ninS nes9 (ninS nes14 (ninS nes20 nin0))))
  have F156 := F116.keep K133 (ninS (ne_exa F114 F118 (by decide)) (ninS nes9 (ninS nes14 (ninS nes20 nin0))))
  have F157 := F117.keep K133 (ninS (ne_exa F107 F118 (by decide)) (ninS nes7 (ninS nes12 (ninS nes18 nin0))))
  have F158 := F118.keep K133
  have F159 := F121.keep K133 (ninS (Ne.symm nes1) (ninS nes10 (ninS nes15 (ninS nes21 nin0))))
  have F160 : Keep h0 T133.heap [b0, w_f, w_d, w_1, w_2, w_k, w_v] := F131.trans K133 (allS (Or.inl (List.mem_of_getElem? (i := 1) rfl)) (allS (Or.inl (List.mem_of_getElem? (i := 3) rfl)) (allS (Or.inl (List.mem_of_getElem? (i := 4) rfl)) (allS (Or.inl (List.mem_of_getElem? (i := 5) rfl)) all0))))
  have F161 := F105a.keep K133 (ninS (Ne.symm nes26) (ninS (Ne.symm nes30) (ninS (Ne.symm nes31) (ninS (Ne.symm nes32) nin0))))
  have N133 := Fr.app N105 N133q
  refine own_tr st133 ?_
  show own_Dn p e below s _ _ _ (T133.setTop (mkF m 73 #[ρ b0, ι p1, υ, υ] []))
  refine own_st (fun _ k => XS.aloadN X133.here hx rfl (hb hby rr_d73) rfl rfl k) ?_
  show own_Dn p e below s _ _ _ (T133.setTop (mkF m 74 #[ρ b0, ι p1, υ, υ] [(.ref b0)]))
  obtain ⟨T162, X162, e162, st162⟩ := getF X133 hx hZ hown (host := "") (Or.inl (own_w hw 58 rfl)) Via.refl rfl F151 (g := (mkF m 74 #[ρ b0, ι p1, υ, υ] [(.ref b0)])) rfl rfl (hb hby rr_d74)
  refine own_st st162 ?_
  show own_Dn p e below s _ _ _ (T162.setTop (mkF m 77 #[ρ b0, ι p1, υ, υ] [(.ref w_l)]))
  obtain ⟨cq163, kq163, q163a, q163b, q163c⟩ := isOf hZ e162 F154
  obtain ⟨_, _, ⟨T163, L163, k163, n163⟩, -, X163, ⟨Lc163, hQ163, l163, y163, z163⟩, st163⟩ := X162.interfaceBack hx (xi := (⟨"java/util/List", "iterator", "()Ljava/util/Iterator;"⟩ : MethodName)) (y := (⟨ς3, "iterator", "()Ljava/util/Iterator;"⟩ : MethodName)) hown (mvT hZ (own_w hw 159 rfl)) (mvT hZ (own_w hw 160 rfl)) (mvT hZ (own_w hw 161 rfl)) (mvT hZ (own_w hw 162 rfl)) (mvT hZ (own_w hw 163 rfl)) (mvT hZ (own_w hw 164 rfl)) (mvT hZ (own_w hw 165 rfl)) (mvT hZ (own_w hw 166 rfl)) (by decide) (backOf (W := 0) (it_rm l Z a0 hw [] (w_l) T133.heap n0 F146 F154 F155) hZ (own_w hw 167 rfl) (own_w hw 36 rfl) (by decide) (by decide)) q163a q163b q163c (g := (mkF m 77 #[ρ b0, ι p1, υ, υ] [(.ref w_l)])) rfl (by rw [hml]; rfl) (Steps.refl _) (argsL := []) (rest := []) (lenOf own_pd7 rfl) rfl (by show 2 * 0 + _ ≤ _; exact Nat.le_of_eq rfl) (hb hby rr_d77) (fun _ _ => ⟨rfl, e162, (by decide : 0 + 1 ≤ _), (by decide : 0 + 4 ≤ _)⟩)
  dsimp only [Pt.U, Pt.locs, Pt.cells, Pt.slots] at X163 l163 y163 z163 st163 hQ163
  subst l163 y163 z163
  obtain ⟨r77, rfl, ge163, gh163, N163q, K163, G164, G165, G166⟩ := hQ163
  have ne167 : b0 ≠ r77 := Nat.ne_of_lt (Nat.lt_of_lt_of_le F147.lt gh163)
  have ne168 : w_d ≠ r77 := Nat.ne_of_lt (Nat.lt_of_lt_of_le F153.lt gh163)
  have ne169 : w_l ≠ r77 := Nat.ne_of_lt (Nat.lt_of_lt_of_le F154.lt gh163)
  have ne170 : w_f ≠ r77 := Nat.ne_of_lt (Nat.lt_of_lt_of_le G134.lt gh163)
  have ne171 : w_p ≠ r77 := Nat.ne_of_lt (Nat.lt_of_lt_of_le F159.lt gh163)
  have ne172 : w_v ≠ r77 := Nat.ne_of_lt (Nat.lt_of_lt_of_le F161.lt gh163)
  have ne173 : w_1 ≠ r77 := Nat.ne_of_lt (Nat.lt_of_lt_of_le G143.lt gh163)
  have ne174 : w_2 ≠ r77 := Nat.ne_of_lt (Nat.lt_of_lt_of_le G144.lt gh163)
  have ne175 : w_k ≠ r77 := Nat.ne_of_lt (Nat.lt_of_lt_of_le G145.lt gh163)
  have gh176 : h0.size ≤ r77 := Nat.le_trans F160.1 gh163
  have F177 : n0 ≤ T163.heap.size := Nat.le_trans F146 K163.1
  have F178 := F147.keep K163
  have F179 := F148.keep K163 nin0
  have F180 := F149.keep K163 nin0
  have F181 := F150.keep K163 nin0
  have F182 := F151.keep K163 nin0
  have F183 := F152.keep K163 nin0
  have F184 := F153.keep K163 nin0
  have F185 := F154.keep K163
  have F186 := F155.keep K163 nin0
  have F187 := F156.keep K163 nin0
  have F188 := F157.keep K163 nin0
  have F189 := G134.keep K163
  have F190 := F159.keep K163 nin0
  have F191 : Keep h0 T163.heap [b0, w_f, w_d, w_1, w_2, w_k, w_v] := F160.trans K163 all0
  have F192 := F161.keep K163 nin0
  have F193 := G135.keep K163 nin0
  have F194 := G136.keep K163 nin0
  have F195 := G137.keep K163 nin0
  have F196 := G138.keep K163 nin0
  have F197 := G139.keep K163 nin0
  have F198 := G140.keep K163 nin0
  have F199 := G141.keep K163 nin0
  have F200 := G142.keep K163 nin0
  have F201 := G143.keep K163 nin0
  have F202 := G144.keep K163 nin0
  have F203 := G145.keep K163 nin0
  have N163 := Fr.app N133 N163q
  refine own_tr st163 ?_
  show own_Dn p e below s _ _ _ (T163.setTop (mkF m 82 #[ρ b0, ι p1, υ, υ] [(.ref r77)]))
  refine own_st (fun _ k => XS.astoreN X163.here hx rfl (hb hby rr_d82) rfl rfl (l' := #[ρ b0, ι p1, ρ r77, υ]) rfl (XS.aloadN X163.here hx rfl (hb hby rr_d83) rfl rfl k)) ?_
  show own_Dn p e below s _ _ _ (T163.setTop (mkF m 84 #[ρ b0, ι p1, ρ r77, υ] [(.ref r77)]))
  obtain ⟨cq204, kq204, q204a, q204b, q204c⟩ := isOf hZ rfl G164
  obtain ⟨_, _, ⟨T204, L204, k204, n204⟩, -, X204, ⟨Lc204, hQ204, l204, y204, z204⟩, st204⟩ := X163.interfaceBack hx (xi := (⟨"java/util/Iterator", "hasNext", "()Z"⟩ : MethodName)) (y := (⟨ς7, "hasNext", "()Z"⟩ : MethodName)) hown (mvT hZ (own_w hw 184 rfl)) (mvT hZ (own_w hw 185 rfl)) (mvT hZ (own_w hw 186 rfl)) (mvT hZ (own_w hw 187 rfl)) (mvT hZ (own_w hw 188 rfl)) (mvT hZ (own_w hw 189 rfl)) (mvT hZ (own_w hw 190 rfl)) (mvT hZ (own_w hw 191 rfl)) (by decide) (backOf (W := 0) (hn_rm l Z a0 hw [] (r77) (w_l) T163.heap n0 F177 G166 G165 F187) hZ (own_w hw 192 rfl) (own_w hw 170 rfl) (by decide) (by decide)) q204a q204b q204c (g := (mkF m 84 #[ρ b0, ι p1, ρ r77, υ] [(.ref r77)])) rfl (by rw [hml]; rfl) (Steps.refl _) (argsL := []) (rest := []) (lenOf own_pd8 rfl) rfl (by show 2 * 0 + _ ≤ _; exact Nat.le_of_eq rfl) (hb hby rr_d84) (fun _ _ => ⟨rfl, rfl, (by decide : 1 + 0 ≤ _), (by decide : 4 + 0 ≤ _)⟩)
  dsimp only [Pt.U, Pt.locs, Pt.cells, Pt.slots] at X204 l204 y204 z204 st204 hQ204
  subst l204 y204 z204
  obtain ⟨rfl, N204q, e204⟩ := hQ204
  have N204 := Fr.app N163 N204q
  refine own_tr st204 ?_
  show own_Dn p e below s _ _ _ (T204.setTop (mkF m 89 #[ρ b0, ι p1, ρ r77, υ] [(.int 0)]))
  refine own_st (fun _ k => XS.ifYes X204.here hx rfl (pc0 := 89) (pc' := 110) rfl (hb hby rr_d89) rfl ((if0 _ _).trans (teq (by decide : (0 : Int32) = (0 : Int32))).1) (by decide) (by decide) k) ?_
  show own_Dn p e below s _ _ _ (T204.setTop (mkF m 110 #[ρ b0, ι p1, ρ r77, υ] []))
  have eqH : T204.heap = T163.heap := e204
  exact own_retV X204 hx hret hlk (hb hby rr_d110) (by decide) (by decide) (by rw [eqH]; exact ⟨rfl, N204, F191, F178, F179, F180, F181, F182, F183, F188, F189, F193, F194, F195, F196, F197, F198, F199, (by rw [hy15, rs_g15]; exact F200), F184, (by rw [hy17, rs_g17]; exact F201), (by rw [hy18, rs_g18]; exact F202), (by rw [hy19, rs_g19]; exact F203), (by rw [hy20, rs_g20]; exact F192)⟩)
theorem rs_ef (m : MethodId) (b0 : Addr) (p1 : Int32) : entryFrame m #[(.ref b0), (.int p1)] 4 = mkF m 0 #[.val (.ref b0), .val (.int p1), .unset, .unset] [] := by first | (simp [entryFrame, mkF, argsToLocals, Value.category]; done) | rfl
theorem rs_rm (l : Launch) (Z : State) (a0 : Array Value) (hw : ∀ d ∈ tables_1, d.before a0 Z = true) (ws : List Jvm.Cond) (b0 : Addr) (p1 : Int32) (w_p : Addr) (w_d : Addr) (w_1 : Addr) (w_2 : Addr) (w_k : Addr) (w_f : Addr) (w_l : Addr) (w_P : Nat → Int32) (w_D : Nat → Int32) (w_F : Nat → Int32) (w_L : Nat → Int32) (w_K : Nat → Int32) (w_c : Int32) (w_v : Addr) (w_V : Nat → Int32) (h0 : Heap) (n0 : Nat) (Z0 : n0 ≤ h0.size) (P0 : Exa Z h0 b0 ς0) (P1 : Fld Z h0 b0 ς0 "data" "[I" (.ref w_d)) (P2 : Fld Z h0 b0 ς0 "arity" "I" (.int 1)) (P3 : Fld Z h0 b0 ς0 "facts" ς5 (.ref w_f)) (P4 : Fld Z h0 b0 ς0 "indexes" ς10 (.ref w_l)) (P5 : Fld Z h0 b0 ς0 "removed" "[Z" (.ref w_v)) (P6 : own_Arf Z h0 w_d .int 16 (fun i => (.int (w_D i)))) (P7 : Exa Z h0 w_l ς3) (P8 : Fld Z h0 w_l ς6 "modCount" "I" (.int 0)) (P9 : Fld Z h0 w_l ς3 "size" "I" (.int 0)) (P10 : Fld Z h0 b0 ς0 "size" "I" (.int 3)) (P11 : Exa Z h0 w_f ς1) (P12 : Fld Z h0 w_f ς1 "this$0" ς2 (.ref b0)) (P13 : Fld Z h0 w_f ς1 "positions" "[I" (.ref w_p)) (P14 : own_Arf Z h0 w_p .int 1 (fun i => (.int (w_P i)))) (P15 : Fld Z h0 w_f ς1 "firsts" "[I" (.ref w_1)) (P16 : Fld Z h0 w_f ς1 "lasts" "[I" (.ref w_2)) (P17 : Fld Z h0 w_f ς1 "rowKey" "[I" (.ref w_k)) (P18 : Fld Z h0 w_f ς1 "next" "[I" .null) (P19 : Fld Z h0 w_f ς1 "previous" "[I" .null) (P20 : Fld Z h0 w_f ς1 "keys" "I" (.int w_c)) (P21 : own_Arf Z h0 w_1 .int 16 (fun i => (.int (w_F i)))) (P22 : own_Arf Z h0 w_2 .int 16 (fun i => (.int (w_L i)))) (P23 : own_Arf Z h0 w_k .int 1 (fun i => (.int (w_K i)))) (P24 : own_Arf Z h0 w_v .boolean 16 (fun i => (.int (w_V i)))) (ge_b0 : n0 ≤ b0) (ge_w_f : n0 ≤ w_f) (ge_w_d : n0 ≤ w_d) (ge_w_1 : n0 ≤ w_1) (ge_w_2 : n0 ≤ w_2) (ge_w_k : n0 ≤ w_k) (ge_w_v : n0 ≤ w_v) (nes0 : b0 ≠ w_p) (nes1 : w_f ≠ w_p) (nes2 : w_l ≠ w_p) (nes3 : b0 ≠ w_d) (nes4 : w_f ≠ w_d) (nes5 : w_l ≠ w_d) (nes6 : w_p ≠ w_d) (nes7 : b0 ≠ w_1) (nes8 : w_f ≠ w_1) (nes9 : w_l ≠ w_1) (nes10 : w_p ≠ w_1) (nes11 : w_d ≠ w_1) (nes12 : b0 ≠ w_2) (nes13 : w_f ≠ w_2) (nes14 : w_l ≠ w_2) (nes15 : w_p ≠ w_2) (nes16 : w_d ≠ w_2) (nes17 : w_1 ≠ w_2) (nes18 : b0 ≠ w_k) (nes19 : w_f ≠ w_k) (nes20 : w_l ≠ w_k) (nes21 : w_p ≠ w_k) (nes22 : w_d ≠ w_k) (nes23 : w_1 ≠ w_k) (nes24 : w_2 ≠ w_k) (nes25 : b0 ≠ w_v) (nes26 : w_f ≠ w_v) (nes27 : w_l ≠ w_v) (nes28 : w_p ≠ w_v) (nes29 : w_d ≠ w_v) (nes30 : w_1 ≠ w_v) (nes31 : w_2 ≠ w_v) (nes32 : w_k ≠ w_v) (hP : w_P 0 = 0) (hF : own_FB w_F) (hr : 0 ≤ p1.toInt ∧ p1.toInt < 16) (hin : own_In w_F 16 (own_hm (w_D p1.toNatClampNeg)) p1) :
    MetFree l (⟨ς0, "remove", "(I)V"⟩ : MethodName) (head1 (Jvm.Cond.code (⟨ς0, "remove", "(I)V"⟩ : MethodName) prog_23_method_8_code 4 none :: ws) ({ frames := 4, cells := 1, slots := 4, locals := 64 } : Room)) (fun a U => a = #[(.ref b0), (.int p1)] ∧ Z.Warmed39 U.vm ∧ U.heap = h0) (fun _ _ _ _ _ => True) (fun _ U o U' => ∃ v L, o = .returned v ∧ rs_Q Z b0 p1 w_p w_d w_1 w_2 w_k w_f w_l w_P w_D w_F w_L w_K w_c w_v w_V (rs_g15 p1 w_P w_D w_F w_L w_K w_c w_V) (rs_g17 p1 w_P w_D w_F w_L w_K w_c w_V) (rs_g18 p1 w_P w_D w_F w_L w_K w_c w_V) (rs_g19 p1 w_P w_D w_F w_L w_K w_c w_V) (rs_g20 p1 w_P w_D w_F w_L w_K w_c w_V) h0 n0 v U'.heap L ∧ FrameEnd U o U' L ({ frames := 4, cells := 1, slots := 4, locals := 64 } : Room).cells ({ frames := 4, cells := 1, slots := 4, locals := 64 } : Room).slots) :=
  own_met hw (plainFor_of_name (by first | (simp [plainName, overriddenIn]; done) | decide +kernel)) (fun p e s m below meth c T0 C0 X0 e0 => own_st (fun _ k => castTop (rs_ef m b0 p1) k) (rs_c0 C0 X0 e0 (Fr.nil n0) Z0 P0 P1 P2 P3 P4 P5 P6 P7 P8 P9 P10 P11 P12 P13 P14 P15 P16 P17 P18 P19 P20 P21 P22 P23 P24 ge_b0 ge_w_f ge_w_d ge_w_1 ge_w_2 ge_w_k ge_w_v nes0 nes1 nes2 nes3 nes4 nes5 nes6 nes7 nes8 nes9 nes10 nes11 nes12 nes13 nes14 nes15 nes16 nes17 nes18 nes19 nes20 nes21 nes22 nes23 nes24 nes25 nes26 nes27 nes28 nes29 nes30 nes31 nes32 hP hF hr hin rfl rfl rfl rfl rfl))
theorem lv_d0 : decode prog_23_method_5_code 0 = .ok (.aload_n 0, 1) := by decide +kernel
theorem lv_d1 : decode prog_23_method_5_code 1 = .ok (.getfield 64, 3) := by decide +kernel
theorem lv_d4 : decode prog_23_method_5_code 4 = .ok (.ifnull 12, 3) := by decide +kernel
theorem lv_d16 : decode prog_23_method_5_code 16 = .ok (.iconst 1, 1) := by decide +kernel
theorem lv_d17 : decode prog_23_method_5_code 17 = .ok (.goto 4, 3) := by decide +kernel
theorem lv_d21 : decode prog_23_method_5_code 21 = .ok (.ireturn, 1) := by decide +kernel
def lv_f (p1 : Int32)  : Int32 :=
  (1 : Int32)
set_option maxRecDepth 65536 in
set_option maxHeartbeats 40000000 in
theorem lv_c0 {b0 : Addr} {p1 : Int32} {locs : List Loc} {r0 : Int32} (C0 : own_Cx p s m meth c Z a0 prog_23_method_5_code 2 ς0 "isLive" (some .boolean)) (X0 : Stand p l e ({ frames := 0, cells := 0, slots := 0, locals := 0 } : Room) s m args below meth c T0 locs 0 0) (e0 : T0.heap = h0) (N0 : Fr n0 locs)  (Z0 : n0 ≤ h0.size) (P0 : Fld Z h0 b0 ς0 "removed" "[Z" .null) (hr0 : r0 = lv_f p1 ) :
    own_Dn p e below s (own_Q (some (.int r0)) n0 h0) ({ frames := 0, cells := 0, slots := 0, locals := 0 } : Room).cells ({ frames := 0, cells := 0, slots := 0, locals := 0 } : Room).slots (T0.setTop (mkF m 0 #[ρ b0, ι p1] [])) := by
  obtain ⟨hx, hZ, hw, hby, hml, hown, hret, hlk, hnm⟩ := id C0
  refine own_st (fun _ k => XS.aloadN X0.here hx rfl (hb hby lv_d0) rfl rfl k) ?_
  show own_Dn p e below s _ _ _ (T0.setTop (mkF m 1 #[ρ b0, ι p1] [(.ref b0)]))
  obtain ⟨T2, X2, e2, st2⟩ := getF X0 hx hZ hown (host := "") (Or.inl (own_w hw 140 rfl)) Via.refl e0 P0 (g := (mkF m 1 #[ρ b0, ι p1] [(.ref b0)])) rfl rfl (hb hby lv_d1)
  refine own_st st2 ?_
  show own_Dn p e below s _ _ _ (T2.setTop (mkF m 4 #[ρ b0, ι p1] [.null]))
  refine own_st (fun _ k => XS.ifnullYes X2.here hx rfl (pc0 := 4) (pc' := 16) rfl (hb hby lv_d4) rfl (by decide) (by decide) k) ?_
  show own_Dn p e below s _ _ _ (T2.setTop (mkF m 16 #[ρ b0, ι p1] []))
  refine own_st (fun _ k => XS.iconst X2.here hx rfl (hb hby lv_d16) (XS.goto X2.here hx rfl (pc0 := 17) (pc' := 21) rfl (hb hby lv_d17) (by decide) (by decide) k)) ?_
  show own_Dn p e below s _ _ _ (T2.setTop (mkF m 21 #[ρ b0, ι p1] [(.int 1)]))
  exact own_retZ X2 hx hret hlk (by decide) (hb hby lv_d21) (by decide) (by decide) ⟨(by rw [hr0, lv_f]), N0, e2⟩
theorem lv_ef (m : MethodId) (b0 : Addr) (p1 : Int32) : entryFrame m #[(.ref b0), (.int p1)] 2 = mkF m 0 #[.val (.ref b0), .val (.int p1)] [] := by first | (simp [entryFrame, mkF, argsToLocals, Value.category]; done) | rfl
theorem lv_rm (l : Launch) (Z : State) (a0 : Array Value) (hw : ∀ d ∈ tables_1, d.before a0 Z = true) (ws : List Jvm.Cond) (b0 : Addr) (p1 : Int32) (h0 : Heap) (n0 : Nat) (Z0 : n0 ≤ h0.size) (P0 : Fld Z h0 b0 ς0 "removed" "[Z" .null) :
    MetFree l (⟨ς0, "isLive", "(I)Z"⟩ : MethodName) (head1 (Jvm.Cond.code (⟨ς0, "isLive", "(I)Z"⟩ : MethodName) prog_23_method_5_code 2 (some .boolean) :: ws) ({ frames := 0, cells := 0, slots := 0, locals := 0 } : Room)) (fun a U => a = #[(.ref b0), (.int p1)] ∧ Z.Warmed39 U.vm ∧ U.heap = h0) (fun _ _ _ _ _ => True) (fun _ U o U' => ∃ v L, o = .returned v ∧ (own_Q (some (.int (lv_f p1))) n0 h0) v U'.heap L ∧ FrameEnd U o U' L ({ frames := 0, cells := 0, slots := 0, locals := 0 } : Room).cells ({ frames := 0, cells := 0, slots := 0, locals := 0 } : Room).slots) :=
  own_met hw (plainFor_of_name (by first | (simp [plainName, overriddenIn]; done) | decide +kernel)) (fun p e s m below meth c T0 C0 X0 e0 => own_st (fun _ k => castTop (lv_ef m b0 p1) k) (lv_c0 C0 X0 e0 (Fr.nil n0) Z0 P0 rfl))
theorem lw_v_d7 : decode prog_23_method_5_code 7 = .ok (.aload_n 0, 1) := by decide +kernel
theorem lw_v_d8 : decode prog_23_method_5_code 8 = .ok (.getfield 64, 3) := by decide +kernel
theorem lw_v_d11 : decode prog_23_method_5_code 11 = .ok (.iload_n 1, 1) := by decide +kernel
theorem lw_v_d12 : decode prog_23_method_5_code 12 = .ok (.baload, 1) := by decide +kernel
theorem lw_v_d13 : decode prog_23_method_5_code 13 = .ok (.ifCond .ne 7, 3) := by decide +kernel
theorem lw_v_d20 : decode prog_23_method_5_code 20 = .ok (.iconst 0, 1) := by decide +kernel
def lw_v_f (p1 : Int32) (w_V : Nat → Int32)  : Int32 :=
  if (w_V (p1).toNatClampNeg) = (0 : Int32) then
    (1 : Int32)
  else
    (0 : Int32)
set_option maxRecDepth 65536 in
set_option maxHeartbeats 40000000 in
theorem lw_v_c0 {b0 : Addr} {p1 : Int32} {w_v : Addr} {w_V : Nat → Int32} {locs : List Loc} {r0 : Int32} (C0 : own_Cx p s m meth c Z a0 prog_23_method_5_code 2 ς0 "isLive" (some .boolean)) (X0 : Stand p l e ({ frames := 0, cells := 0, slots := 0, locals := 0 } : Room) s m args below meth c T0 locs 0 0) (e0 : T0.heap = h0) (N0 : Fr n0 locs)  (Z0 : n0 ≤ h0.size) (P0 : Fld Z h0 b0 ς0 "removed" "[Z" (.ref w_v)) (P1 : own_Arf Z h0 w_v .boolean 16 (fun i => (.int (w_V i)))) (hr : 0 ≤ p1.toInt ∧ p1.toInt < 16) (hr0 : r0 = lw_v_f p1 w_V ) :
    own_Dn p e below s (own_Q (some (.int r0)) n0 h0) ({ frames := 0, cells := 0, slots := 0, locals := 0 } : Room).cells ({ frames := 0, cells := 0, slots := 0, locals := 0 } : Room).slots (T0.setTop (mkF m 0 #[ρ b0, ι p1] [])) := by
  obtain ⟨hx, hZ, hw, hby, hml, hown, hret, hlk, hnm⟩ := id C0
  refine own_st (fun _ k => XS.aloadN X0.here hx rfl (hb hby lv_d0) rfl rfl k) ?_
  show own_Dn p e below s _ _ _ (T0.setTop (mkF m 1 #[ρ b0, ι p1] [(.ref b0)]))
  obtain ⟨T4, X4, e4, st4⟩ := getF X0 hx hZ hown (host := "") (Or.inl (own_w hw 140 rfl)) Via.refl e0 P0 (g := (mkF m 1 #[ρ b0, ι p1] [(.ref b0)])) rfl rfl (hb hby lv_d1)
  refine own_st st4 ?_
  show own_Dn p e below s _ _ _ (T4.setTop (mkF m 4 #[ρ b0, ι p1] [(.ref w_v)]))
  refine own_st (fun _ k => XS.ifnullNo X4.here hx rfl (hb hby lv_d4) rfl k) ?_
  show own_Dn p e below s _ _ _ (T4.setTop (mkF m 7 #[ρ b0, ι p1] []))
  refine own_st (fun _ k => XS.aloadN X4.here hx rfl (hb hby lw_v_d7) rfl rfl k) ?_
  show own_Dn p e below s _ _ _ (T4.setTop (mkF m 8 #[ρ b0, ι p1] [(.ref b0)]))
  obtain ⟨T5, X5, e5, st5⟩ := getF X4 hx hZ hown (host := "") (Or.inl (own_w hw 140 rfl)) Via.refl e4 P0 (g := (mkF m 8 #[ρ b0, ι p1] [(.ref b0)])) rfl rfl (hb hby lw_v_d8)
  refine own_st st5 ?_
  show own_Dn p e below s _ _ _ (T5.setTop (mkF m 11 #[ρ b0, ι p1] [(.ref w_v)]))
  refine own_st (fun _ k => XS.iloadN X5.here hx rfl (hb hby lw_v_d11) rfl k) ?_
  show own_Dn p e below s _ _ _ (T5.setTop (mkF m 12 #[ρ b0, ι p1] [(.int p1), (.ref w_v)]))
  refine own_st (own_ldZ (pc := 12) (L := #[ρ b0, ι p1]) (rest := []) X5 hx hZ e5 P1 (j := p1) (own_nn hr.1) (own_lt16 hr) (hb hby lw_v_d12)) ?_
  show own_Dn p e below s _ _ _ (T5.setTop (mkF m 13 #[ρ b0, ι p1] [(.int (w_V (p1).toNatClampNeg))]))
  by_cases hc6 : (w_V (p1).toNatClampNeg) = (0 : Int32)
  · refine own_st (fun _ k => XS.ifNo X5.here hx rfl (hb hby lw_v_d13) rfl ((if0 _ _).trans (teq hc6).2) k) ?_
    show own_Dn p e below s _ _ _ (T5.setTop (mkF m 16 #[ρ b0, ι p1] []))
    refine own_st (fun _ k => XS.iconst X5.here hx rfl (hb hby lv_d16) (XS.goto X5.here hx rfl (pc0 := 17) (pc' := 21) rfl (hb hby lv_d17) (by decide) (by decide) k)) ?_
    show own_Dn p e below s _ _ _ (T5.setTop (mkF m 21 #[ρ b0, ι p1] [(.int 1)]))
    exact own_retZ X5 hx hret hlk (by decide) (hb hby lv_d21) (by decide) (by decide) ⟨(by rw [hr0, lw_v_f, if_pos hc6]), N0, e5⟩
  · refine own_st (fun _ k => XS.ifYes X5.here hx rfl (pc0 := 13) (pc' := 20) rfl (hb hby lw_v_d13) rfl ((if0 _ _).trans (feq hc6).2) (by decide) (by decide) k) ?_
    show own_Dn p e below s _ _ _ (T5.setTop (mkF m 20 #[ρ b0, ι p1] []))
    refine own_st (fun _ k => XS.iconst X5.here hx rfl (hb hby lw_v_d20) k) ?_
    show own_Dn p e below s _ _ _ (T5.setTop (mkF m 21 #[ρ b0, ι p1] [(.int 0)]))
    exact own_retZ X5 hx hret hlk (by decide) (hb hby lv_d21) (by decide) (by decide) ⟨(by rw [hr0, lw_v_f, if_neg hc6]), N0, e5⟩
theorem lw_v_ef (m : MethodId) (b0 : Addr) (p1 : Int32) : entryFrame m #[(.ref b0), (.int p1)] 2 = mkF m 0 #[.val (.ref b0), .val (.int p1)] [] := by first | (simp [entryFrame, mkF, argsToLocals, Value.category]; done) | rfl
theorem lw_v_rm (l : Launch) (Z : State) (a0 : Array Value) (hw : ∀ d ∈ tables_1, d.before a0 Z = true) (ws : List Jvm.Cond) (b0 : Addr) (p1 : Int32) (w_v : Addr) (w_V : Nat → Int32) (h0 : Heap) (n0 : Nat) (Z0 : n0 ≤ h0.size) (P0 : Fld Z h0 b0 ς0 "removed" "[Z" (.ref w_v)) (P1 : own_Arf Z h0 w_v .boolean 16 (fun i => (.int (w_V i)))) (hr : 0 ≤ p1.toInt ∧ p1.toInt < 16) :
    MetFree l (⟨ς0, "isLive", "(I)Z"⟩ : MethodName) (head1 (Jvm.Cond.code (⟨ς0, "isLive", "(I)Z"⟩ : MethodName) prog_23_method_5_code 2 (some .boolean) :: ws) ({ frames := 0, cells := 0, slots := 0, locals := 0 } : Room)) (fun a U => a = #[(.ref b0), (.int p1)] ∧ Z.Warmed39 U.vm ∧ U.heap = h0) (fun _ _ _ _ _ => True) (fun _ U o U' => ∃ v L, o = .returned v ∧ (own_Q (some (.int (lw_v_f p1 w_V))) n0 h0) v U'.heap L ∧ FrameEnd U o U' L ({ frames := 0, cells := 0, slots := 0, locals := 0 } : Room).cells ({ frames := 0, cells := 0, slots := 0, locals := 0 } : Room).slots) :=
  own_met hw (plainFor_of_name (by first | (simp [plainName, overriddenIn]; done) | decide +kernel)) (fun p e s m below meth c T0 C0 X0 e0 => own_st (fun _ k => castTop (lw_v_ef m b0 p1) k) (lw_v_c0 C0 X0 e0 (Fr.nil n0) Z0 P0 P1 hr rfl))
theorem ac_d0 : decode jdk_22_method_1_code 0 = .ok (.aload_n 0, 1) := by decide +kernel
theorem ac_d1 : decode jdk_22_method_1_code 1 = .ok (.invokespecial 1, 3) := by decide +kernel
theorem ac_d4 : decode jdk_22_method_1_code 4 = .ok (.return_, 1) := by decide +kernel
set_option maxRecDepth 65536 in
set_option maxHeartbeats 40000000 in
theorem ac_c0 {b0 : Addr} {locs : List Loc} (C0 : own_Cx p s m meth c Z a0 jdk_22_method_1_code 1 "java/util/AbstractCollection" "<init>" none) (X0 : Stand p l e ({ frames := 1, cells := 0, slots := 0, locals := 12 } : Room) s m args below meth c T0 locs 0 0) (e0 : T0.heap = h0) (N0 : Fr n0 locs)  (Z0 : n0 ≤ h0.size) :
    own_Dn p e below s (own_Q none n0 h0) ({ frames := 1, cells := 0, slots := 0, locals := 12 } : Room).cells ({ frames := 1, cells := 0, slots := 0, locals := 12 } : Room).slots (T0.setTop (mkF m 0 #[ρ b0] [])) := by
  obtain ⟨hx, hZ, hw, hby, hml, hown, hret, hlk, hnm⟩ := id C0
  refine own_st (fun _ k => XS.aloadN X0.here hx rfl (hb hby ac_d0) rfl rfl k) ?_
  show own_Dn p e below s _ _ _ (T0.setTop (mkF m 1 #[ρ b0] [(.ref b0)]))
  obtain ⟨T2, X2, e2, st2⟩ := initO X0 hx hZ hown (own_w hw 52 rfl) (own_w hw 24 rfl) (own_w hw 25 rfl) e0 (g := (mkF m 1 #[ρ b0] [(.ref b0)])) rfl (by rw [hml]; rfl) rfl (hb hby ac_d1) (by decide) (W := 0) (by show 2 * 0 + _ ≤ _; exact Nat.le_of_eq rfl) (by decide)
  refine own_st st2 ?_
  show own_Dn p e below s _ _ _ (T2.setTop (mkF m 4 #[ρ b0] []))
  exact own_retV X2 hx hret hlk (hb hby ac_d4) (by decide) (by decide) ⟨rfl, N0, e2⟩
theorem ac_ef (m : MethodId) (b0 : Addr) : entryFrame m #[(.ref b0)] 1 = mkF m 0 #[.val (.ref b0)] [] := by first | (simp [entryFrame, mkF, argsToLocals, Value.category]; done) | rfl
theorem ac_rm (l : Launch) (Z : State) (a0 : Array Value) (hw : ∀ d ∈ tables_1, d.before a0 Z = true) (ws : List Jvm.Cond) (b0 : Addr) (h0 : Heap) (n0 : Nat) (Z0 : n0 ≤ h0.size) :
    MetFree l (⟨"java/util/AbstractCollection", "<init>", "()V"⟩ : MethodName) (head1 (Jvm.Cond.code (⟨"java/util/AbstractCollection", "<init>", "()V"⟩ : MethodName) jdk_22_method_1_code 1 none :: ws) ({ frames := 1, cells := 0, slots := 0, locals := 12 } : Room)) (fun a U => a = #[(.ref b0)] ∧ Z.Warmed39 U.vm ∧ U.heap = h0) (fun _ _ _ _ _ => True) (fun _ U o U' => ∃ v L, o = .returned v ∧ (own_Q none n0 h0) v U'.heap L ∧ FrameEnd U o U' L ({ frames := 1, cells := 0, slots := 0, locals := 12 } : Room).cells ({ frames := 1, cells := 0, slots := 0, locals := 12 } : Room).slots) :=
  own_met hw (plainFor_of_name (by first | (simp [plainName, overriddenIn]; done) | decide +kernel)) (fun p e s m below meth c T0 C0 X0 e0 => own_st (fun _ k => castTop (ac_ef m b0) k) (ac_c0 C0 X0 e0 (Fr.nil n0) Z0 ))
theorem al_d0 : decode jdk_39_method_1_code 0 = .ok (.aload_n 0, 1) := by decide +kernel
theorem al_d1 : decode jdk_39_method_1_code 1 = .ok (.invokespecial 1, 3) := by decide +kernel
theorem al_d4 : decode jdk_39_method_1_code 4 = .ok (.aload_n 0, 1) := by decide +kernel
theorem al_d5 : decode jdk_39_method_1_code 5 = .ok (.iconst 0, 1) := by decide +kernel
theorem al_d6 : decode jdk_39_method_1_code 6 = .ok (.putfield 7, 3) := by decide +kernel
theorem al_d9 : decode jdk_39_method_1_code 9 = .ok (.return_, 1) := by decide +kernel
def al_Q (Z : State) (b0 : Addr) (h0 : Heap) (n0 : Nat) (v : Option Value) (h : Heap) (L : List Loc) : Prop := v = none ∧ Fr n0 L ∧ Keep h0 h [b0] ∧ Exa Z h b0 ς3 ∧ Fld Z h b0 ς6 "modCount" "I" (.int 0) ∧ Fld Z h b0 ς3 "elementData" "[Ljava/lang/Object;" .null ∧ Fld Z h b0 ς3 "size" "I" (.int 0)
set_option maxRecDepth 65536 in
set_option maxHeartbeats 40000000 in
theorem al_c0 {b0 : Addr} {locs : List Loc} (C0 : own_Cx p s m meth c Z a0 jdk_39_method_1_code 1 ς6 "<init>" none) (X0 : Stand p l e ({ frames := 2, cells := 0, slots := 0, locals := 24 } : Room) s m args below meth c T0 locs 0 0) (e0 : T0.heap = h0) (N0 : Fr n0 locs)  (Z0 : n0 ≤ h0.size) (P0 : Exa Z h0 b0 ς3) (P1 : Fld Z h0 b0 ς6 "modCount" "I" (.int 0)) (P2 : Fld Z h0 b0 ς3 "elementData" "[Ljava/lang/Object;" .null) (P3 : Fld Z h0 b0 ς3 "size" "I" (.int 0)) (ge_b0 : n0 ≤ b0) :
    own_Dn p e below s (al_Q Z b0 h0 n0) ({ frames := 2, cells := 0, slots := 0, locals := 24 } : Room).cells ({ frames := 2, cells := 0, slots := 0, locals := 24 } : Room).slots (T0.setTop (mkF m 0 #[ρ b0] [])) := by
  obtain ⟨hx, hZ, hw, hby, hml, hown, hret, hlk, hnm⟩ := id C0
  refine own_st (fun _ k => XS.aloadN X0.here hx rfl (hb hby al_d0) rfl rfl k) ?_
  show own_Dn p e below s _ _ _ (T0.setTop (mkF m 1 #[ρ b0] [(.ref b0)]))
  obtain ⟨_, _, ⟨T9, L9, k9, n9⟩, -, X9, ⟨Lc9, hQ9, l9, y9, z9⟩, st9⟩ := X0.specialBack hx (y := (⟨"java/util/AbstractCollection", "<init>", "()V"⟩ : MethodName)) rfl hown (mvT hZ (own_w hw 46 rfl)) (mvT hZ (own_w hw 47 rfl)) (mvT hZ (own_w hw 51 rfl)) (by decide) (backOf (W := 0) (ac_rm l Z a0 hw [] (b0) h0 n0 Z0 ) hZ (own_w hw 51 rfl) (own_w hw 50 rfl) (by decide) (by decide)) (g := (mkF m 1 #[ρ b0] [(.ref b0)])) rfl (by rw [hml]; rfl) (Steps.refl _) (a := b0) (argsL := []) (rest := []) (lenOf own_pd9 rfl) rfl (by show 2 * 0 + _ ≤ _; exact Nat.le_of_eq rfl) (hb hby al_d1) (fun _ _ => ⟨rfl, e0, (by decide : 0 + 0 ≤ _), (by decide : 0 + 0 ≤ _)⟩)
  dsimp only [Pt.U, Pt.locs, Pt.cells, Pt.slots] at X9 l9 y9 z9 st9 hQ9
  subst l9 y9 z9
  obtain ⟨rfl, N9q, e9⟩ := hQ9
  have N9 := Fr.app N0 N9q
  refine own_tr st9 ?_
  show own_Dn p e below s _ _ _ (T9.setTop (mkF m 4 #[ρ b0] []))
  refine own_st (fun _ k => XS.aloadN X9.here hx rfl (hb hby al_d4) rfl rfl (XS.iconst X9.here hx rfl (hb hby al_d5) k)) ?_
  show own_Dn p e below s _ _ _ (T9.setTop (mkF m 6 #[ρ b0] [(.int 0), (.ref b0)]))
  obtain ⟨T10, h10, X10, e10, W10, st10⟩ := putF X9 hx hZ hown (host := "") (Or.inl (own_w hw 53 rfl)) Via.refl e9 P1 P0 (Or.inl (own_w hw 54 rfl)) (own_w hw 35 rfl) (ty := .int) (v := (.int 0)) (by decide) rfl rfl (g := (mkF m 6 #[ρ b0] [(.int 0), (.ref b0)])) rfl rfl (hb hby al_d6)
  have N10 := Fr.snoc X10 N9 ge_b0
  have F11 : n0 ≤ h10.size := Nat.le_trans Z0 (Keep.of_wr W10).1
  have F12 := P0.wr W10
  have F13 : Fld Z h10 b0 ς6 "modCount" "I" (.int 0) := P1.same W10
  have F14 := P2.other W10 (Or.inr (slot_ne (Or.inl (own_w hw 57 rfl)) (Or.inl (own_w hw 54 rfl)) (by decide) (t := (.array (.object "java/lang/Object"))) (t' := .int) (by decide) (by decide)))
  have F15 := P3.other W10 (Or.inr (slot_ne (Or.inl (own_w hw 196 rfl)) (Or.inl (own_w hw 54 rfl)) (by decide) (t := .int) (t' := .int) (by decide) (by decide)))
  have F16 : Keep h0 h10 [b0] := (Keep.refl h0 [b0]).wr W10 (Or.inl (List.mem_of_getElem? (i := 0) rfl))
  refine own_st st10 ?_
  show own_Dn p e below s _ _ _ (T10.setTop (mkF m 9 #[ρ b0] []))
  have eqH : T10.heap = h10 := e10
  exact own_retV X10 hx hret hlk (hb hby al_d9) (by decide) (by decide) (by rw [eqH]; exact ⟨rfl, N10, F16, F12, F13, F14, F15⟩)
theorem al_ef (m : MethodId) (b0 : Addr) : entryFrame m #[(.ref b0)] 1 = mkF m 0 #[.val (.ref b0)] [] := by first | (simp [entryFrame, mkF, argsToLocals, Value.category]; done) | rfl
theorem al_rm (l : Launch) (Z : State) (a0 : Array Value) (hw : ∀ d ∈ tables_1, d.before a0 Z = true) (ws : List Jvm.Cond) (b0 : Addr) (h0 : Heap) (n0 : Nat) (Z0 : n0 ≤ h0.size) (P0 : Exa Z h0 b0 ς3) (P1 : Fld Z h0 b0 ς6 "modCount" "I" (.int 0)) (P2 : Fld Z h0 b0 ς3 "elementData" "[Ljava/lang/Object;" .null) (P3 : Fld Z h0 b0 ς3 "size" "I" (.int 0)) (ge_b0 : n0 ≤ b0) :
    MetFree l (⟨ς6, "<init>", "()V"⟩ : MethodName) (head1 (Jvm.Cond.code (⟨ς6, "<init>", "()V"⟩ : MethodName) jdk_39_method_1_code 1 none :: ws) ({ frames := 2, cells := 0, slots := 0, locals := 24 } : Room)) (fun a U => a = #[(.ref b0)] ∧ Z.Warmed39 U.vm ∧ U.heap = h0) (fun _ _ _ _ _ => True) (fun _ U o U' => ∃ v L, o = .returned v ∧ (al_Q Z b0 h0 n0) v U'.heap L ∧ FrameEnd U o U' L ({ frames := 2, cells := 0, slots := 0, locals := 24 } : Room).cells ({ frames := 2, cells := 0, slots := 0, locals := 24 } : Room).slots) :=
  own_met hw (plainFor_of_name (by first | (simp [plainName, overriddenIn]; done) | decide +kernel)) (fun p e s m below meth c T0 C0 X0 e0 => own_st (fun _ k => castTop (al_ef m b0) k) (al_c0 C0 X0 e0 (Fr.nil n0) Z0 P0 P1 P2 P3 ge_b0))
theorem ai_d0 : decode jdk_38_method_2_code 0 = .ok (.aload_n 0, 1) := by decide +kernel
theorem ai_d1 : decode jdk_38_method_2_code 1 = .ok (.invokespecial 1, 3) := by decide +kernel
theorem ai_d4 : decode jdk_38_method_2_code 4 = .ok (.aload_n 0, 1) := by decide +kernel
theorem ai_d5 : decode jdk_38_method_2_code 5 = .ok (.getstatic 39, 3) := by decide +kernel
theorem ai_d8 : decode jdk_38_method_2_code 8 = .ok (.putfield 9, 3) := by decide +kernel
theorem ai_d11 : decode jdk_38_method_2_code 11 = .ok (.return_, 1) := by decide +kernel
def ai_Q (Z : State) (b0 : Addr) (w_e : Addr) (h0 : Heap) (n0 : Nat) (v : Option Value) (h : Heap) (L : List Loc) : Prop := v = none ∧ Fr n0 L ∧ Keep h0 h [b0] ∧ Exa Z h b0 ς3 ∧ Fld Z h b0 ς6 "modCount" "I" (.int 0) ∧ Fld Z h b0 ς3 "size" "I" (.int 0)
set_option maxRecDepth 65536 in
set_option maxHeartbeats 40000000 in
theorem ai_c0 {b0 : Addr} {w_e : Addr} {locs : List Loc} (C0 : own_Cx p s m meth c Z a0 jdk_38_method_2_code 1 ς3 "<init>" none) (X0 : Stand p l e ({ frames := 3, cells := 0, slots := 0, locals := 36 } : Room) s m args below meth c T0 locs 0 0) (e0 : T0.heap = h0) (N0 : Fr n0 locs)  (Z0 : n0 ≤ h0.size) (P0 : Exa Z h0 b0 ς3) (P1 : Fld Z h0 b0 ς6 "modCount" "I" (.int 0)) (P2 : Fld Z h0 b0 ς3 "elementData" "[Ljava/lang/Object;" .null) (P3 : Fld Z h0 b0 ς3 "size" "I" (.int 0)) (P4 : Sta Z h0 ς3 "DEFAULTCAPACITY_EMPTY_ELEMENTDATA" "[Ljava/lang/Object;" (.ref w_e)) (ge_b0 : n0 ≤ b0) :
    own_Dn p e below s (ai_Q Z b0 w_e h0 n0) ({ frames := 3, cells := 0, slots := 0, locals := 36 } : Room).cells ({ frames := 3, cells := 0, slots := 0, locals := 36 } : Room).slots (T0.setTop (mkF m 0 #[ρ b0] [])) := by
  obtain ⟨hx, hZ, hw, hby, hml, hown, hret, hlk, hnm⟩ := id C0
  refine own_st (fun _ k => XS.aloadN X0.here hx rfl (hb hby ai_d0) rfl rfl k) ?_
  show own_Dn p e below s _ _ _ (T0.setTop (mkF m 1 #[ρ b0] [(.ref b0)]))
  obtain ⟨_, _, ⟨T19, L19, k19, n19⟩, -, X19, ⟨Lc19, hQ19, l19, y19, z19⟩, st19⟩ := X0.specialBack hx (y := (⟨ς6, "<init>", "()V"⟩ : MethodName)) rfl hown (mvT hZ (own_w hw 40 rfl)) (mvT hZ (own_w hw 41 rfl)) (mvT hZ (own_w hw 45 rfl)) (by decide) (backOf (W := 0) (al_rm l Z a0 hw [] (b0) h0 n0 Z0 P0 P1 P2 P3 ge_b0) hZ (own_w hw 45 rfl) (own_w hw 44 rfl) (by decide) (by decide)) (g := (mkF m 1 #[ρ b0] [(.ref b0)])) rfl (by rw [hml]; rfl) (Steps.refl _) (a := b0) (argsL := []) (rest := []) (lenOf own_pd9 rfl) rfl (by show 2 * 0 + _ ≤ _; exact Nat.le_of_eq rfl) (hb hby ai_d1) (fun _ _ => ⟨rfl, e0, (by decide : 0 + 0 ≤ _), (by decide : 0 + 0 ≤ _)⟩)
  dsimp only [Pt.U, Pt.locs, Pt.cells, Pt.slots] at X19 l19 y19 z19 st19 hQ19
  subst l19 y19 z19
  obtain ⟨rfl, N19q, K19, G20, G21, G22, G23⟩ := hQ19
  have F24 : n0 ≤ T19.heap.size := Nat.le_trans Z0 K19.1
  have F25 := P0.keep K19
  have F26 := own_Sta_keep P4 K19 P0
  have F27 : Keep h0 T19.heap [b0] := (Keep.refl h0 [b0]).trans K19 (allS (Or.inl (List.mem_of_getElem? (i := 0) rfl)) all0)
  have N19 := Fr.app N0 N19q
  refine own_tr st19 ?_
  show own_Dn p e below s _ _ _ (T19.setTop (mkF m 4 #[ρ b0] []))
  refine own_st (fun _ k => XS.aloadN X19.here hx rfl (hb hby ai_d4) rfl rfl k) ?_
  show own_Dn p e below s _ _ _ (T19.setTop (mkF m 5 #[ρ b0] [(.ref b0)]))
  obtain ⟨T28, X28, e28, st28⟩ := getS2 X19 hx hZ hown (host := "") (Or.inl (own_w hw 55 rfl)) Via.refl rfl F26 (g := (mkF m 5 #[ρ b0] [(.ref b0)])) rfl (hb hby ai_d5)
  refine own_st st28 ?_
  show own_Dn p e below s _ _ _ (T28.setTop (mkF m 8 #[ρ b0] [(.ref w_e), (.ref b0)]))
  obtain ⟨T29, h29, X29, e29, W29, st29⟩ := putF X28 hx hZ hown (host := "") (Or.inl (own_w hw 56 rfl)) Via.refl e28 G22 G20 (Or.inl (own_w hw 57 rfl)) (own_w hw 35 rfl) (ty := (.array (.object "java/lang/Object"))) (v := (.ref w_e)) (by decide) rfl rfl (g := (mkF m 8 #[ρ b0] [(.ref w_e), (.ref b0)])) rfl rfl (hb hby ai_d8)
  have N29 := Fr.snoc X29 N19 ge_b0
  have F30 : n0 ≤ h29.size := Nat.le_trans F24 (Keep.of_wr W29).1
  have F31 := F26.wr W29
  have F32 : Keep h0 h29 [b0] := F27.wr W29 (Or.inl (List.mem_of_getElem? (i := 0) rfl))
  have F33 := G20.wr W29
  have F34 := G21.other W29 (Or.inr (slot_ne (Or.inl (own_w hw 54 rfl)) (Or.inl (own_w hw 57 rfl)) (by decide) (t := .int) (t' := (.array (.object "java/lang/Object"))) (by decide) (by decide)))
  have F35 : Fld Z h29 b0 ς3 "elementData" "[Ljava/lang/Object;" (.ref w_e) := G22.same W29
  have F36 := G23.other W29 (Or.inr (slot_ne (Or.inl (own_w hw 196 rfl)) (Or.inl (own_w hw 57 rfl)) (by decide) (t := .int) (t' := (.array (.object "java/lang/Object"))) (by decide) (by decide)))
  refine own_st st29 ?_
  show own_Dn p e below s _ _ _ (T29.setTop (mkF m 11 #[ρ b0] []))
  have eqH : T29.heap = h29 := e29
  exact own_retV X29 hx hret hlk (hb hby ai_d11) (by decide) (by decide) (by rw [eqH]; exact ⟨rfl, N29, F32, F33, F34, F36⟩)
theorem ai_ef (m : MethodId) (b0 : Addr) : entryFrame m #[(.ref b0)] 1 = mkF m 0 #[.val (.ref b0)] [] := by first | (simp [entryFrame, mkF, argsToLocals, Value.category]; done) | rfl
theorem ai_rm (l : Launch) (Z : State) (a0 : Array Value) (hw : ∀ d ∈ tables_1, d.before a0 Z = true) (ws : List Jvm.Cond) (b0 : Addr) (w_e : Addr) (h0 : Heap) (n0 : Nat) (Z0 : n0 ≤ h0.size) (P0 : Exa Z h0 b0 ς3) (P1 : Fld Z h0 b0 ς6 "modCount" "I" (.int 0)) (P2 : Fld Z h0 b0 ς3 "elementData" "[Ljava/lang/Object;" .null) (P3 : Fld Z h0 b0 ς3 "size" "I" (.int 0)) (P4 : Sta Z h0 ς3 "DEFAULTCAPACITY_EMPTY_ELEMENTDATA" "[Ljava/lang/Object;" (.ref w_e)) (ge_b0 : n0 ≤ b0) :
    MetFree l (⟨ς3, "<init>", "()V"⟩ : MethodName) (head1 (Jvm.Cond.code (⟨ς3, "<init>", "()V"⟩ : MethodName) jdk_38_method_2_code 1 none :: ws) ({ frames := 3, cells := 0, slots := 0, locals := 36 } : Room)) (fun a U => a = #[(.ref b0)] ∧ Z.Warmed39 U.vm ∧ U.heap = h0) (fun _ _ _ _ _ => True) (fun _ U o U' => ∃ v L, o = .returned v ∧ (ai_Q Z b0 w_e h0 n0) v U'.heap L ∧ FrameEnd U o U' L ({ frames := 3, cells := 0, slots := 0, locals := 36 } : Room).cells ({ frames := 3, cells := 0, slots := 0, locals := 36 } : Room).slots) :=
  own_met hw (plainFor_of_name (by first | (simp [plainName, overriddenIn]; done) | decide +kernel)) (fun p e s m below meth c T0 C0 X0 e0 => own_st (fun _ k => castTop (ai_ef m b0) k) (ai_c0 C0 X0 e0 (Fr.nil n0) Z0 P0 P1 P2 P3 P4 ge_b0))
theorem re_d0 : decode jdk_30_method_1_code 0 = .ok (.aload_n 0, 1) := by decide +kernel
theorem re_d1 : decode jdk_30_method_1_code 1 = .ok (.invokespecial 1, 3) := by decide +kernel
theorem re_d4 : decode jdk_30_method_1_code 4 = .ok (.return_, 1) := by decide +kernel
set_option maxRecDepth 65536 in
set_option maxHeartbeats 40000000 in
theorem re_c0 {b0 : Addr} {locs : List Loc} (C0 : own_Cx p s m meth c Z a0 jdk_30_method_1_code 1 "java/lang/Record" "<init>" none) (X0 : Stand p l e ({ frames := 1, cells := 0, slots := 0, locals := 12 } : Room) s m args below meth c T0 locs 0 0) (e0 : T0.heap = h0) (N0 : Fr n0 locs)  (Z0 : n0 ≤ h0.size) :
    own_Dn p e below s (own_Q none n0 h0) ({ frames := 1, cells := 0, slots := 0, locals := 12 } : Room).cells ({ frames := 1, cells := 0, slots := 0, locals := 12 } : Room).slots (T0.setTop (mkF m 0 #[ρ b0] [])) := by
  obtain ⟨hx, hZ, hw, hby, hml, hown, hret, hlk, hnm⟩ := id C0
  refine own_st (fun _ k => XS.aloadN X0.here hx rfl (hb hby re_d0) rfl rfl k) ?_
  show own_Dn p e below s _ _ _ (T0.setTop (mkF m 1 #[ρ b0] [(.ref b0)]))
  obtain ⟨T2, X2, e2, st2⟩ := initO X0 hx hZ hown (own_w hw 23 rfl) (own_w hw 24 rfl) (own_w hw 25 rfl) e0 (g := (mkF m 1 #[ρ b0] [(.ref b0)])) rfl (by rw [hml]; rfl) rfl (hb hby re_d1) (by decide) (W := 0) (by show 2 * 0 + _ ≤ _; exact Nat.le_of_eq rfl) (by decide)
  refine own_st st2 ?_
  show own_Dn p e below s _ _ _ (T2.setTop (mkF m 4 #[ρ b0] []))
  exact own_retV X2 hx hret hlk (hb hby re_d4) (by decide) (by decide) ⟨rfl, N0, e2⟩
theorem re_ef (m : MethodId) (b0 : Addr) : entryFrame m #[(.ref b0)] 1 = mkF m 0 #[.val (.ref b0)] [] := by first | (simp [entryFrame, mkF, argsToLocals, Value.category]; done) | rfl
theorem re_rm (l : Launch) (Z : State) (a0 : Array Value) (hw : ∀ d ∈ tables_1, d.before a0 Z = true) (ws : List Jvm.Cond) (b0 : Addr) (h0 : Heap) (n0 : Nat) (Z0 : n0 ≤ h0.size) :
    MetFree l (⟨"java/lang/Record", "<init>", "()V"⟩ : MethodName) (head1 (Jvm.Cond.code (⟨"java/lang/Record", "<init>", "()V"⟩ : MethodName) jdk_30_method_1_code 1 none :: ws) ({ frames := 1, cells := 0, slots := 0, locals := 12 } : Room)) (fun a U => a = #[(.ref b0)] ∧ Z.Warmed39 U.vm ∧ U.heap = h0) (fun _ _ _ _ _ => True) (fun _ U o U' => ∃ v L, o = .returned v ∧ (own_Q none n0 h0) v U'.heap L ∧ FrameEnd U o U' L ({ frames := 1, cells := 0, slots := 0, locals := 12 } : Room).cells ({ frames := 1, cells := 0, slots := 0, locals := 12 } : Room).slots) :=
  own_met hw (plainFor_of_name (by first | (simp [plainName, overriddenIn]; done) | decide +kernel)) (fun p e s m below meth c T0 C0 X0 e0 => own_st (fun _ k => castTop (re_ef m b0) k) (re_c0 C0 X0 e0 (Fr.nil n0) Z0 ))
theorem pi_d0 : decode prog_38_method_1_code 0 = .ok (.aload_n 0, 1) := by decide +kernel
theorem pi_d1 : decode prog_38_method_1_code 1 = .ok (.invokespecial 1, 3) := by decide +kernel
theorem pi_d4 : decode prog_38_method_1_code 4 = .ok (.iload_n 2, 1) := by decide +kernel
theorem pi_d5 : decode prog_38_method_1_code 5 = .ok (.ifCond .ge 18, 3) := by decide +kernel
theorem pi_d23 : decode prog_38_method_1_code 23 = .ok (.aload_n 0, 1) := by decide +kernel
theorem pi_d24 : decode prog_38_method_1_code 24 = .ok (.aload_n 1, 1) := by decide +kernel
theorem pi_d25 : decode prog_38_method_1_code 25 = .ok (.putfield 16, 3) := by decide +kernel
theorem pi_d28 : decode prog_38_method_1_code 28 = .ok (.aload_n 0, 1) := by decide +kernel
theorem pi_d29 : decode prog_38_method_1_code 29 = .ok (.iload_n 2, 1) := by decide +kernel
theorem pi_d30 : decode prog_38_method_1_code 30 = .ok (.putfield 22, 3) := by decide +kernel
theorem pi_d33 : decode prog_38_method_1_code 33 = .ok (.return_, 1) := by decide +kernel
def pi_Q (Z : State) (b0 : Addr) (b1 : Addr) (h0 : Heap) (n0 : Nat) (v : Option Value) (h : Heap) (L : List Loc) : Prop := v = none ∧ Fr n0 L ∧ Keep h0 h [b0] ∧ Exa Z h b0 ς4 ∧ Fld Z h b0 ς4 "arity" "I" (.int 1)
set_option maxRecDepth 65536 in
set_option maxHeartbeats 40000000 in
theorem pi_c0 {b0 : Addr} {b1 : Addr} {locs : List Loc} (C0 : own_Cx p s m meth c Z a0 prog_38_method_1_code 3 ς4 "<init>" none) (X0 : Stand p l e ({ frames := 2, cells := 0, slots := 0, locals := 24 } : Room) s m args below meth c T0 locs 0 0) (e0 : T0.heap = h0) (N0 : Fr n0 locs)  (Z0 : n0 ≤ h0.size) (P0 : Exa Z h0 b0 ς4) (P1 : Fld Z h0 b0 ς4 "name" "Ljava/lang/String;" .null) (P2 : Fld Z h0 b0 ς4 "arity" "I" (.int 0)) (ge_b0 : n0 ≤ b0) :
    own_Dn p e below s (pi_Q Z b0 b1 h0 n0) ({ frames := 2, cells := 0, slots := 0, locals := 24 } : Room).cells ({ frames := 2, cells := 0, slots := 0, locals := 24 } : Room).slots (T0.setTop (mkF m 0 #[ρ b0, ρ b1, ι 1] [])) := by
  obtain ⟨hx, hZ, hw, hby, hml, hown, hret, hlk, hnm⟩ := id C0
  refine own_st (fun _ k => XS.aloadN X0.here hx rfl (hb hby pi_d0) rfl rfl k) ?_
  show own_Dn p e below s _ _ _ (T0.setTop (mkF m 1 #[ρ b0, ρ b1, ι 1] [(.ref b0)]))
  obtain ⟨_, _, ⟨T14, L14, k14, n14⟩, -, X14, ⟨Lc14, hQ14, l14, y14, z14⟩, st14⟩ := X0.specialBack hx (y := (⟨"java/lang/Record", "<init>", "()V"⟩ : MethodName)) rfl hown (mvT hZ (own_w hw 18 rfl)) (mvT hZ (own_w hw 19 rfl)) (mvT hZ (own_w hw 22 rfl)) (by decide) (backOf (W := 0) (re_rm l Z a0 hw [] (b0) h0 n0 Z0 ) hZ (own_w hw 22 rfl) (own_w hw 21 rfl) (by decide) (by decide)) (g := (mkF m 1 #[ρ b0, ρ b1, ι 1] [(.ref b0)])) rfl (by rw [hml]; rfl) (Steps.refl _) (a := b0) (argsL := []) (rest := []) (lenOf own_pd9 rfl) rfl (by show 2 * 0 + _ ≤ _; exact Nat.le_of_eq rfl) (hb hby pi_d1) (fun _ _ => ⟨rfl, e0, (by decide : 0 + 0 ≤ _), (by decide : 0 + 0 ≤ _)⟩)
  dsimp only [Pt.U, Pt.locs, Pt.cells, Pt.slots] at X14 l14 y14 z14 st14 hQ14
  subst l14 y14 z14
  obtain ⟨rfl, N14q, e14⟩ := hQ14
  have N14 := Fr.app N0 N14q
  refine own_tr st14 ?_
  show own_Dn p e below s _ _ _ (T14.setTop (mkF m 4 #[ρ b0, ρ b1, ι 1] []))
  refine own_st (fun _ k => XS.iloadN X14.here hx rfl (hb hby pi_d4) rfl k) ?_
  show own_Dn p e below s _ _ _ (T14.setTop (mkF m 5 #[ρ b0, ρ b1, ι 1] [(.int 1)]))
  refine own_st (fun _ k => XS.ifYes X14.here hx rfl (pc0 := 5) (pc' := 23) rfl (hb hby pi_d5) rfl ((if0 _ _).trans (flt (by decide : ¬ ((1 : Int32) < (0 : Int32)))).2.1) (by decide) (by decide) k) ?_
  show own_Dn p e below s _ _ _ (T14.setTop (mkF m 23 #[ρ b0, ρ b1, ι 1] []))
  refine own_st (fun _ k => XS.aloadN X14.here hx rfl (hb hby pi_d23) rfl rfl (XS.aloadN X14.here hx rfl (hb hby pi_d24) rfl rfl k)) ?_
  show own_Dn p e below s _ _ _ (T14.setTop (mkF m 25 #[ρ b0, ρ b1, ι 1] [(.ref b1), (.ref b0)]))
  obtain ⟨T15, h15, X15, e15, W15, st15⟩ := putF X14 hx hZ hown (host := "") (Or.inl (own_w hw 26 rfl)) Via.refl e14 P1 P0 (Or.inr ⟨(own_w hw 27 rfl), rfl, hnm⟩) (own_w hw 5 rfl) (ty := (.object "java/lang/String")) (v := (.ref b1)) (by decide) rfl rfl (g := (mkF m 25 #[ρ b0, ρ b1, ι 1] [(.ref b1), (.ref b0)])) rfl rfl (hb hby pi_d25)
  have N15 := Fr.snoc X15 N14 ge_b0
  have F16 : n0 ≤ h15.size := Nat.le_trans Z0 (Keep.of_wr W15).1
  have F17 := P0.wr W15
  have F18 : Fld Z h15 b0 ς4 "name" "Ljava/lang/String;" (.ref b1) := P1.same W15
  have F19 := P2.other W15 (Or.inr (slot_ne (Or.inr (own_w hw 29 rfl)) (Or.inr (own_w hw 27 rfl)) (by decide) (t := .int) (t' := (.object "java/lang/String")) (by decide) (by decide)))
  have F20 : Keep h0 h15 [b0] := (Keep.refl h0 [b0]).wr W15 (Or.inl (List.mem_of_getElem? (i := 0) rfl))
  refine own_st st15 ?_
  show own_Dn p e below s _ _ _ (T15.setTop (mkF m 28 #[ρ b0, ρ b1, ι 1] []))
  refine own_st (fun _ k => XS.aloadN X15.here hx rfl (hb hby pi_d28) rfl rfl (XS.iloadN X15.here hx rfl (hb hby pi_d29) rfl k)) ?_
  show own_Dn p e below s _ _ _ (T15.setTop (mkF m 30 #[ρ b0, ρ b1, ι 1] [(.int 1), (.ref b0)]))
  obtain ⟨T21, h21, X21, e21, W21, st21⟩ := putF X15 hx hZ hown (host := "") (Or.inl (own_w hw 28 rfl)) Via.refl e15 F19 F17 (Or.inr ⟨(own_w hw 29 rfl), rfl, hnm⟩) (own_w hw 5 rfl) (ty := .int) (v := (.int 1)) (by decide) rfl rfl (g := (mkF m 30 #[ρ b0, ρ b1, ι 1] [(.int 1), (.ref b0)])) rfl rfl (hb hby pi_d30)
  have N21 := Fr.snoc X21 N15 ge_b0
  have F22 : n0 ≤ h21.size := Nat.le_trans F16 (Keep.of_wr W21).1
  have F23 := F17.wr W21
  have F24 := F18.other W21 (Or.inr (slot_ne (Or.inr (own_w hw 27 rfl)) (Or.inr (own_w hw 29 rfl)) (by decide) (t := (.object "java/lang/String")) (t' := .int) (by decide) (by decide)))
  have F25 : Fld Z h21 b0 ς4 "arity" "I" (.int 1) := F19.same W21
  have F26 : Keep h0 h21 [b0] := F20.wr W21 (Or.inl (List.mem_of_getElem? (i := 0) rfl))
  refine own_st st21 ?_
  show own_Dn p e below s _ _ _ (T21.setTop (mkF m 33 #[ρ b0, ρ b1, ι 1] []))
  have eqH : T21.heap = h21 := e21
  exact own_retV X21 hx hret hlk (hb hby pi_d33) (by decide) (by decide) (by rw [eqH]; exact ⟨rfl, N21, F26, F23, F25⟩)
theorem pi_ef (m : MethodId) (b0 : Addr) (b1 : Addr) : entryFrame m #[(.ref b0), (.ref b1), (.int 1)] 3 = mkF m 0 #[.val (.ref b0), .val (.ref b1), .val (.int 1)] [] := by first | (simp [entryFrame, mkF, argsToLocals, Value.category]; done) | rfl
theorem pi_rm (l : Launch) (Z : State) (a0 : Array Value) (hw : ∀ d ∈ tables_1, d.before a0 Z = true) (ws : List Jvm.Cond) (b0 : Addr) (b1 : Addr) (h0 : Heap) (n0 : Nat) (Z0 : n0 ≤ h0.size) (P0 : Exa Z h0 b0 ς4) (P1 : Fld Z h0 b0 ς4 "name" "Ljava/lang/String;" .null) (P2 : Fld Z h0 b0 ς4 "arity" "I" (.int 0)) (ge_b0 : n0 ≤ b0) :
    MetFree l (⟨ς4, "<init>", "(Ljava/lang/String;I)V"⟩ : MethodName) (head1 (Jvm.Cond.code (⟨ς4, "<init>", "(Ljava/lang/String;I)V"⟩ : MethodName) prog_38_method_1_code 3 none :: ws) ({ frames := 2, cells := 0, slots := 0, locals := 24 } : Room)) (fun a U => a = #[(.ref b0), (.ref b1), (.int 1)] ∧ Z.Warmed39 U.vm ∧ U.heap = h0) (fun _ _ _ _ _ => True) (fun _ U o U' => ∃ v L, o = .returned v ∧ (pi_Q Z b0 b1 h0 n0) v U'.heap L ∧ FrameEnd U o U' L ({ frames := 2, cells := 0, slots := 0, locals := 24 } : Room).cells ({ frames := 2, cells := 0, slots := 0, locals := 24 } : Room).slots) :=
  own_met hw (plainFor_of_name (by first | (simp [plainName, overriddenIn]; done) | decide +kernel)) (fun p e s m below meth c T0 C0 X0 e0 => own_st (fun _ k => castTop (pi_ef m b0 b1) k) (pi_c0 C0 X0 e0 (Fr.nil n0) Z0 P0 P1 P2 ge_b0))
theorem pa_d0 : decode prog_38_method_6_code 0 = .ok (.aload_n 0, 1) := by decide +kernel
theorem pa_d1 : decode prog_38_method_6_code 1 = .ok (.getfield 22, 3) := by decide +kernel
theorem pa_d4 : decode prog_38_method_6_code 4 = .ok (.ireturn, 1) := by decide +kernel
def pa_f   : Int32 :=
  (1 : Int32)
set_option maxRecDepth 65536 in
set_option maxHeartbeats 40000000 in
theorem pa_c0 {b0 : Addr} {locs : List Loc} {r0 : Int32} (C0 : own_Cx p s m meth c Z a0 prog_38_method_6_code 1 ς4 "arity" (some .int)) (X0 : Stand p l e ({ frames := 0, cells := 0, slots := 0, locals := 0 } : Room) s m args below meth c T0 locs 0 0) (e0 : T0.heap = h0) (N0 : Fr n0 locs)  (Z0 : n0 ≤ h0.size) (P0 : Fld Z h0 b0 ς4 "arity" "I" (.int 1)) (hr0 : r0 = pa_f  ) :
    own_Dn p e below s (own_Q (some (.int r0)) n0 h0) ({ frames := 0, cells := 0, slots := 0, locals := 0 } : Room).cells ({ frames := 0, cells := 0, slots := 0, locals := 0 } : Room).slots (T0.setTop (mkF m 0 #[ρ b0] [])) := by
  obtain ⟨hx, hZ, hw, hby, hml, hown, hret, hlk, hnm⟩ := id C0
  refine own_st (fun _ k => XS.aloadN X0.here hx rfl (hb hby pa_d0) rfl rfl k) ?_
  show own_Dn p e below s _ _ _ (T0.setTop (mkF m 1 #[ρ b0] [(.ref b0)]))
  obtain ⟨T2, X2, e2, st2⟩ := getF X0 hx hZ hown (host := "") (Or.inl (own_w hw 28 rfl)) Via.refl e0 P0 (g := (mkF m 1 #[ρ b0] [(.ref b0)])) rfl rfl (hb hby pa_d1)
  refine own_st st2 ?_
  show own_Dn p e below s _ _ _ (T2.setTop (mkF m 4 #[ρ b0] [(.int 1)]))
  exact own_retI X2 hx hret hlk (hb hby pa_d4) (by decide) (by decide) ⟨(by rw [hr0, pa_f]), N0, e2⟩
theorem pa_ef (m : MethodId) (b0 : Addr) : entryFrame m #[(.ref b0)] 1 = mkF m 0 #[.val (.ref b0)] [] := by first | (simp [entryFrame, mkF, argsToLocals, Value.category]; done) | rfl
theorem pa_rm (l : Launch) (Z : State) (a0 : Array Value) (hw : ∀ d ∈ tables_1, d.before a0 Z = true) (ws : List Jvm.Cond) (b0 : Addr) (h0 : Heap) (n0 : Nat) (Z0 : n0 ≤ h0.size) (P0 : Fld Z h0 b0 ς4 "arity" "I" (.int 1)) :
    MetFree l (⟨ς4, "arity", "()I"⟩ : MethodName) (head1 (Jvm.Cond.code (⟨ς4, "arity", "()I"⟩ : MethodName) prog_38_method_6_code 1 (some .int) :: ws) ({ frames := 0, cells := 0, slots := 0, locals := 0 } : Room)) (fun a U => a = #[(.ref b0)] ∧ Z.Warmed39 U.vm ∧ U.heap = h0) (fun _ _ _ _ _ => True) (fun _ U o U' => ∃ v L, o = .returned v ∧ (own_Q (some (.int (pa_f ))) n0 h0) v U'.heap L ∧ FrameEnd U o U' L ({ frames := 0, cells := 0, slots := 0, locals := 0 } : Room).cells ({ frames := 0, cells := 0, slots := 0, locals := 0 } : Room).slots) :=
  own_met hw (plainFor_of_name (by first | (simp [plainName, overriddenIn]; done) | decide +kernel)) (fun p e s m below meth c T0 C0 X0 e0 => own_st (fun _ k => castTop (pa_ef m b0) k) (pa_c0 C0 X0 e0 (Fr.nil n0) Z0 P0 rfl))
theorem ii_d0 : decode prog_24_method_1_code 0 = .ok (.aload_n 0, 1) := by decide +kernel
theorem ii_d1 : decode prog_24_method_1_code 1 = .ok (.aload_n 1, 1) := by decide +kernel
theorem ii_d2 : decode prog_24_method_1_code 2 = .ok (.putfield 1, 3) := by decide +kernel
theorem ii_d5 : decode prog_24_method_1_code 5 = .ok (.aload_n 0, 1) := by decide +kernel
theorem ii_d6 : decode prog_24_method_1_code 6 = .ok (.invokespecial 7, 3) := by decide +kernel
theorem ii_d9 : decode prog_24_method_1_code 9 = .ok (.aload_n 0, 1) := by decide +kernel
theorem ii_d10 : decode prog_24_method_1_code 10 = .ok (.bipush 16, 2) := by decide +kernel
theorem ii_d12 : decode prog_24_method_1_code 12 = .ok (.newarray .int, 2) := by decide +kernel
theorem ii_d14 : decode prog_24_method_1_code 14 = .ok (.putfield 13, 3) := by decide +kernel
theorem ii_d17 : decode prog_24_method_1_code 17 = .ok (.aload_n 0, 1) := by decide +kernel
theorem ii_d18 : decode prog_24_method_1_code 18 = .ok (.bipush 16, 2) := by decide +kernel
theorem ii_d20 : decode prog_24_method_1_code 20 = .ok (.newarray .int, 2) := by decide +kernel
theorem ii_d22 : decode prog_24_method_1_code 22 = .ok (.putfield 17, 3) := by decide +kernel
theorem ii_d25 : decode prog_24_method_1_code 25 = .ok (.aload_n 0, 1) := by decide +kernel
theorem ii_d26 : decode prog_24_method_1_code 26 = .ok (.aload_n 2, 1) := by decide +kernel
theorem ii_d27 : decode prog_24_method_1_code 27 = .ok (.putfield 20, 3) := by decide +kernel
theorem ii_d30 : decode prog_24_method_1_code 30 = .ok (.aload_n 0, 1) := by decide +kernel
theorem ii_d31 : decode prog_24_method_1_code 31 = .ok (.iload_n 3, 1) := by decide +kernel
theorem ii_d32 : decode prog_24_method_1_code 32 = .ok (.ifCond .eq 10, 3) := by decide +kernel
theorem ii_d42 : decode prog_24_method_1_code 42 = .ok (.aconst_null, 1) := by decide +kernel
theorem ii_d43 : decode prog_24_method_1_code 43 = .ok (.putfield 23, 3) := by decide +kernel
theorem ii_d46 : decode prog_24_method_1_code 46 = .ok (.aload_n 0, 1) := by decide +kernel
theorem ii_d47 : decode prog_24_method_1_code 47 = .ok (.aload_n 2, 1) := by decide +kernel
theorem ii_d48 : decode prog_24_method_1_code 48 = .ok (.arraylength, 1) := by decide +kernel
theorem ii_d49 : decode prog_24_method_1_code 49 = .ok (.newarray .int, 2) := by decide +kernel
theorem ii_d51 : decode prog_24_method_1_code 51 = .ok (.putfield 26, 3) := by decide +kernel
theorem ii_d54 : decode prog_24_method_1_code 54 = .ok (.return_, 1) := by decide +kernel
def ii_Q (Z : State) (b0 : Addr) (b1 : Addr) (b2 : Addr) (w_P : Nat → Int32) (y9 : Nat → Int32) (y10 : Nat → Int32) (y11 : Nat → Int32) (h0 : Heap) (n0 : Nat) (v : Option Value) (h : Heap) (L : List Loc) : Prop := v = none ∧ Fr n0 L ∧ Keep h0 h [b0] ∧ ∃ r1 r2 r3 : Addr, n0 ≤ r1 ∧ n0 ≤ r2 ∧ n0 ≤ r3 ∧ (r1 ∈ [b0] ∨ h0.size ≤ r1) ∧ (r2 ∈ [b0] ∨ h0.size ≤ r2) ∧ (r3 ∈ [b0] ∨ h0.size ≤ r3) ∧ r1 ≠ r2 ∧ r1 ≠ r3 ∧ r2 ≠ r3 ∧ b0 ≠ r1 ∧ b0 ≠ r2 ∧ b0 ≠ r3 ∧ Exa Z h b0 ς1 ∧ Fld Z h b0 ς1 "this$0" ς2 (.ref b1) ∧ Fld Z h b0 ς1 "positions" "[I" (.ref b2) ∧ Fld Z h b0 ς1 "firsts" "[I" (.ref r1) ∧ Fld Z h b0 ς1 "lasts" "[I" (.ref r2) ∧ Fld Z h b0 ς1 "rowKey" "[I" (.ref r3) ∧ Fld Z h b0 ς1 "next" "[I" .null ∧ Fld Z h b0 ς1 "previous" "[I" .null ∧ Fld Z h b0 ς1 "keys" "I" (.int 0) ∧ own_Arf Z h r1 .int 16 (fun i => (.int (y9 i))) ∧ own_Arf Z h r2 .int 16 (fun i => (.int (y10 i))) ∧ own_Arf Z h r3 .int 1 (fun i => (.int (y11 i)))
def ii_g9 (w_P : Nat → Int32)  : Nat → Int32 :=
  (fun _ => (0 : Int32))
def ii_g10 (w_P : Nat → Int32)  : Nat → Int32 :=
  (fun _ => (0 : Int32))
def ii_g11 (w_P : Nat → Int32)  : Nat → Int32 :=
  (fun _ => (0 : Int32))
set_option maxRecDepth 65536 in
set_option maxHeartbeats 40000000 in
theorem ii_c0 {b0 : Addr} {b1 : Addr} {b2 : Addr} {w_P : Nat → Int32} {locs : List Loc} {y9 : Nat → Int32} {y10 : Nat → Int32} {y11 : Nat → Int32} (C0 : own_Cx p s m meth c Z a0 prog_24_method_1_code 4 ς1 "<init>" none) (X0 : Stand p l e ({ frames := 1, cells := 3, slots := 33, locals := 12 } : Room) s m args below meth c T0 locs 0 0) (e0 : T0.heap = h0) (N0 : Fr n0 locs)  (Z0 : n0 ≤ h0.size) (P0 : Exa Z h0 b0 ς1) (P1 : Fld Z h0 b0 ς1 "this$0" ς2 .null) (P2 : Fld Z h0 b0 ς1 "positions" "[I" .null) (P3 : Fld Z h0 b0 ς1 "firsts" "[I" .null) (P4 : Fld Z h0 b0 ς1 "lasts" "[I" .null) (P5 : Fld Z h0 b0 ς1 "rowKey" "[I" .null) (P6 : Fld Z h0 b0 ς1 "next" "[I" .null) (P7 : Fld Z h0 b0 ς1 "previous" "[I" .null) (P8 : Fld Z h0 b0 ς1 "keys" "I" (.int 0)) (P9 : own_Arf Z h0 b2 .int 1 (fun i => (.int (w_P i)))) (ge_b0 : n0 ≤ b0) (nes0 : b0 ≠ b2) (hy9 : y9 = ii_g9 w_P ) (hy10 : y10 = ii_g10 w_P ) (hy11 : y11 = ii_g11 w_P ) :
    own_Dn p e below s (ii_Q Z b0 b1 b2 w_P y9 y10 y11 h0 n0) ({ frames := 1, cells := 3, slots := 33, locals := 12 } : Room).cells ({ frames := 1, cells := 3, slots := 33, locals := 12 } : Room).slots (T0.setTop (mkF m 0 #[ρ b0, ρ b1, ρ b2, ι 0] [])) := by
  obtain ⟨hx, hZ, hw, hby, hml, hown, hret, hlk, hnm⟩ := id C0
  refine own_st (fun _ k => XS.aloadN X0.here hx rfl (hb hby ii_d0) rfl rfl (XS.aloadN X0.here hx rfl (hb hby ii_d1) rfl rfl k)) ?_
  show own_Dn p e below s _ _ _ (T0.setTop (mkF m 2 #[ρ b0, ρ b1, ρ b2, ι 0] [(.ref b1), (.ref b0)]))
  obtain ⟨T150, h150, X150, e150, W150, st150⟩ := putF X0 hx hZ hown (host := "") (Or.inl (own_w hw 99 rfl)) Via.refl e0 P1 P0 (Or.inr ⟨(own_w hw 100 rfl), rfl, hnm⟩) (own_w hw 94 rfl) (ty := (.object ς0)) (v := (.ref b1)) (by decide) rfl rfl (g := (mkF m 2 #[ρ b0, ρ b1, ρ b2, ι 0] [(.ref b1), (.ref b0)])) rfl rfl (hb hby ii_d2)
  have N150 := Fr.snoc X150 N0 ge_b0
  have F151 : n0 ≤ h150.size := Nat.le_trans Z0 (Keep.of_wr W150).1
  have F152 := P0.wr W150
  have F153 : Fld Z h150 b0 ς1 "this$0" ς2 (.ref b1) := P1.same W150
  have F154 := P2.other W150 (Or.inr (slot_ne (Or.inr (own_w hw 107 rfl)) (Or.inr (own_w hw 100 rfl)) (by decide) (t := (.array .int)) (t' := (.object ς0)) (by decide) (by decide)))
  have F155 := P3.other W150 (Or.inr (slot_ne (Or.inl (own_w hw 103 rfl)) (Or.inr (own_w hw 100 rfl)) (by decide) (t := (.array .int)) (t' := (.object ς0)) (by decide) (by decide)))
  have F156 := P4.other W150 (Or.inr (slot_ne (Or.inl (own_w hw 105 rfl)) (Or.inr (own_w hw 100 rfl)) (by decide) (t := (.array .int)) (t' := (.object ς0)) (by decide) (by decide)))
  have F157 := P5.other W150 (Or.inr (slot_ne (Or.inr (own_w hw 111 rfl)) (Or.inr (own_w hw 100 rfl)) (by decide) (t := (.array .int)) (t' := (.object ς0)) (by decide) (by decide)))
  have F158 := P6.other W150 (Or.inr (slot_ne (Or.inl (own_w hw 109 rfl)) (Or.inr (own_w hw 100 rfl)) (by decide) (t := (.array .int)) (t' := (.object ς0)) (by decide) (by decide)))
  have F159 := P7.other W150 (Or.inr (slot_ne (Or.inl (own_w hw 156 rfl)) (Or.inr (own_w hw 100 rfl)) (by decide) (t := (.array .int)) (t' := (.object ς0)) (by decide) (by decide)))
  have F160 := P8.other W150 (Or.inr (slot_ne (Or.inl (own_w hw 158 rfl)) (Or.inr (own_w hw 100 rfl)) (by decide) (t := .int) (t' := (.object ς0)) (by decide) (by decide)))
  have F161 := P9.other W150 (Ne.symm nes0)
  have F162 : Keep h0 h150 [b0] := (Keep.refl h0 [b0]).wr W150 (Or.inl (List.mem_of_getElem? (i := 0) rfl))
  refine own_st st150 ?_
  show own_Dn p e below s _ _ _ (T150.setTop (mkF m 5 #[ρ b0, ρ b1, ρ b2, ι 0] []))
  refine own_st (fun _ k => XS.aloadN X150.here hx rfl (hb hby ii_d5) rfl rfl k) ?_
  show own_Dn p e below s _ _ _ (T150.setTop (mkF m 6 #[ρ b0, ρ b1, ρ b2, ι 0] [(.ref b0)]))
  obtain ⟨T163, X163, e163, st163⟩ := initO X150 hx hZ hown (own_w hw 101 rfl) (own_w hw 24 rfl) (own_w hw 25 rfl) e150 (g := (mkF m 6 #[ρ b0, ρ b1, ρ b2, ι 0] [(.ref b0)])) rfl (by rw [hml]; rfl) rfl (hb hby ii_d6) (by decide) (W := 0) (by show 2 * 0 + _ ≤ _; exact Nat.le_of_eq rfl) (by decide)
  refine own_st st163 ?_
  show own_Dn p e below s _ _ _ (T163.setTop (mkF m 9 #[ρ b0, ρ b1, ρ b2, ι 0] []))
  refine own_st (fun _ k => XS.aloadN X163.here hx rfl (hb hby ii_d9) rfl rfl (XS.bipush X163.here hx rfl (hb hby ii_d10) k)) ?_
  show own_Dn p e below s _ _ _ (T163.setTop (mkF m 12 #[ρ b0, ρ b1, ρ b2, ι 0] [(.int 16), (.ref b0)]))
  obtain ⟨T164, h164, cA164, X164, e164, E164, A164, st164⟩ := newP X163 hx hZ (aty := .int) (own_w hw 0 rfl) e163 (g := (mkF m 12 #[ρ b0, ρ b1, ρ b2, ι 0] [(.int 16), (.ref b0)])) rfl (hb hby ii_d12) (n := (16 : Int32)) rfl (by decide) (cap := 16) (by decide) (by decide) (by decide) (by decide)
  obtain ⟨o12, g164⟩ : ∃ z, z = h150.size := ⟨_, rfl⟩
  rw [← g164] at A164 st164
  have ne165 : b0 ≠ o12 := Nat.ne_of_lt (Nat.lt_of_lt_of_le F152.lt (Nat.le_of_eq g164.symm))
  have ne166 : b2 ≠ o12 := Nat.ne_of_lt (Nat.lt_of_lt_of_le F161.lt (Nat.le_of_eq g164.symm))
  have ge167 : n0 ≤ o12 := Nat.le_trans F151 (Nat.le_of_eq g164.symm)
  have gh168 : h0.size ≤ o12 := Nat.le_trans F162.1 (Nat.le_of_eq g164.symm)
  have F169 : n0 ≤ h164.size := Nat.le_trans F151 E164.1
  have F170 := F152.ext E164
  have F171 := F153.ext E164
  have F172 := F154.ext E164
  have F173 := F155.ext E164
  have F174 := F156.ext E164
  have F175 := F157.ext E164
  have F176 := F158.ext E164
  have F177 := F159.ext E164
  have F178 := F160.ext E164
  have F179 := F161.ext E164
  have F180 : Keep h0 h164 [b0] := F162.ext E164
  have F181 : own_Arf Z h164 o12 .int 16 (fun i => (.int ((fun _ => (0 : Int32)) i))) := own_Arf.new A164 (by decide) (by decide)
  refine own_st st164 ?_
  show own_Dn p e below s _ _ _ (T164.setTop (mkF m 14 #[ρ b0, ρ b1, ρ b2, ι 0] [(.ref o12), (.ref b0)]))
  obtain ⟨T182, h182, X182, e182, W182, st182⟩ := putF X164 hx hZ hown (host := "") (Or.inl (own_w hw 102 rfl)) Via.refl e164 F173 F170 (Or.inl (own_w hw 103 rfl)) (own_w hw 94 rfl) (ty := (.array .int)) (v := (.ref o12)) (by decide) rfl rfl (g := (mkF m 14 #[ρ b0, ρ b1, ρ b2, ι 0] [(.ref o12), (.ref b0)])) rfl rfl (hb hby ii_d14)
  have N182 := Fr.snoc X182 N150 ge_b0
  have F183 : n0 ≤ h182.size := Nat.le_trans F169 (Keep.of_wr W182).1
  have F184 := F170.wr W182
  have F185 := F171.other W182 (Or.inr (slot_ne (Or.inr (own_w hw 100 rfl)) (Or.inl (own_w hw 103 rfl)) (by decide) (t := (.object ς0)) (t' := (.array .int)) (by decide) (by decide)))
  have F186 := F172.other W182 (Or.inr (slot_ne (Or.inr (own_w hw 107 rfl)) (Or.inl (own_w hw 103 rfl)) (by decide) (t := (.array .int)) (t' := (.array .int)) (by decide) (by decide)))
  have F187 : Fld Z h182 b0 ς1 "firsts" "[I" (.ref o12) := F173.same W182
  have F188 := F174.other W182 (Or.inr (slot_ne (Or.inl (own_w hw 105 rfl)) (Or.inl (own_w hw 103 rfl)) (by decide) (t := (.array .int)) (t' := (.array .int)) (by decide) (by decide)))
  have F189 := F175.other W182 (Or.inr (slot_ne (Or.inr (own_w hw 111 rfl)) (Or.inl (own_w hw 103 rfl)) (by decide) (t := (.array .int)) (t' := (.array .int)) (by decide) (by decide)))
  have F190 := F176.other W182 (Or.inr (slot_ne (Or.inl (own_w hw 109 rfl)) (Or.inl (own_w hw 103 rfl)) (by decide) (t := (.array .int)) (t' := (.array .int)) (by decide) (by decide)))
  have F191 := F177.other W182 (Or.inr (slot_ne (Or.inl (own_w hw 156 rfl)) (Or.inl (own_w hw 103 rfl)) (by decide) (t := (.array .int)) (t' := (.array .int)) (by decide) (by decide)))
  have F192 := F178.other W182 (Or.inr (slot_ne (Or.inl (own_w hw 158 rfl)) (Or.inl (own_w hw 103 rfl)) (by decide) (t := .int) (t' := (.array .int)) (by decide) (by decide)))
  have F193 := F179.other W182 (Ne.symm nes0)
  have F194 : Keep h0 h182 [b0] := F180.wr W182 (Or.inl (List.mem_of_getElem? (i := 0) rfl))
  have F195 := F181.other W182 (Ne.symm ne165)
  refine own_st st182 ?_
  show own_Dn p e below s _ _ _ (T182.setTop (mkF m 17 #[ρ b0, ρ b1, ρ b2, ι 0] []))
  refine own_st (fun _ k => XS.aloadN X182.here hx rfl (hb hby ii_d17) rfl rfl (XS.bipush X182.here hx rfl (hb hby ii_d18) k)) ?_
  show own_Dn p e below s _ _ _ (T182.setTop (mkF m 20 #[ρ b0, ρ b1, ρ b2, ι 0] [(.int 16), (.ref b0)]))
  obtain ⟨T196, h196, cA196, X196, e196, E196, A196, st196⟩ := newP X182 hx hZ (aty := .int) (own_w hw 0 rfl) e182 (g := (mkF m 20 #[ρ b0, ρ b1, ρ b2, ι 0] [(.int 16), (.ref b0)])) rfl (hb hby ii_d20) (n := (16 : Int32)) rfl (by decide) (cap := 16) (by decide) (by decide) (by decide) (by decide)
  obtain ⟨o20, g196⟩ : ∃ z, z = h182.size := ⟨_, rfl⟩
  rw [← g196] at A196 st196
  have ne197 : b0 ≠ o20 := Nat.ne_of_lt (Nat.lt_of_lt_of_le F184.lt (Nat.le_of_eq g196.symm))
  have ne198 : b2 ≠ o20 := Nat.ne_of_lt (Nat.lt_of_lt_of_le F193.lt (Nat.le_of_eq g196.symm))
  have ne199 : o12 ≠ o20 := Nat.ne_of_lt (Nat.lt_of_lt_of_le F195.lt (Nat.le_of_eq g196.symm))
  have ge200 : n0 ≤ o20 := Nat.le_trans F183 (Nat.le_of_eq g196.symm)
  have gh201 : h0.size ≤ o20 := Nat.le_trans F194.1 (Nat.le_of_eq g196.symm)
  have F202 : n0 ≤ h196.size := Nat.le_trans F183 E196.1
  have F203 := F184.ext E196
  have F204 := F185.ext E196
  have F205 := F186.ext E196
  have F206 := F187.ext E196
  have F207 := F188.ext E196
  have F208 := F189.ext E196
  have F209 := F190.ext E196
  have F210 := F191.ext E196
  have F211 := F192.ext E196
  have F212 := F193.ext E196
  have F213 : Keep h0 h196 [b0] := F194.ext E196
  have F214 := F195.ext E196
  have F215 : own_Arf Z h196 o20 .int 16 (fun i => (.int ((fun _ => (0 : Int32)) i))) := own_Arf.new A196 (by decide) (by decide)
  refine own_st st196 ?_
  show own_Dn p e below s _ _ _ (T196.setTop (mkF m 22 #[ρ b0, ρ b1, ρ b2, ι 0] [(.ref o20), (.ref b0)]))
  obtain ⟨T216, h216, X216, e216, W216, st216⟩ := putF X196 hx hZ hown (host := "") (Or.inl (own_w hw 104 rfl)) Via.refl e196 F207 F203 (Or.inl (own_w hw 105 rfl)) (own_w hw 94 rfl) (ty := (.array .int)) (v := (.ref o20)) (by decide) rfl rfl (g := (mkF m 22 #[ρ b0, ρ b1, ρ b2, ι 0] [(.ref o20), (.ref b0)])) rfl rfl (hb hby ii_d22)
  have N216 := Fr.snoc X216 N182 ge_b0
  have F217 : n0 ≤ h216.size := Nat.le_trans F202 (Keep.of_wr W216).1
  have F218 := F203.wr W216
  have F219 := F204.other W216 (Or.inr (slot_ne (Or.inr (own_w hw 100 rfl)) (Or.inl (own_w hw 105 rfl)) (by decide) (t := (.object ς0)) (t' := (.array .int)) (by decide) (by decide)))
  have F220 := F205.other W216 (Or.inr (slot_ne (Or.inr (own_w hw 107 rfl)) (Or.inl (own_w hw 105 rfl)) (by decide) (t := (.array .int)) (t' := (.array .int)) (by decide) (by decide)))
  have F221 := F206.other W216 (Or.inr (slot_ne (Or.inl (own_w hw 103 rfl)) (Or.inl (own_w hw 105 rfl)) (by decide) (t := (.array .int)) (t' := (.array .int)) (by decide) (by decide)))
  have F222 : Fld Z h216 b0 ς1 "lasts" "[I" (.ref o20) := F207.same W216
  have F223 := F208.other W216 (Or.inr (slot_ne (Or.inr (own_w hw 111 rfl)) (Or.inl (own_w hw 105 rfl)) (by decide) (t := (.array .int)) (t' := (.array .int)) (by decide) (by decide)))
  have F224 := F209.other W216 (Or.inr (slot_ne (Or.inl (own_w hw 109 rfl)) (Or.inl (own_w hw 105 rfl)) (by decide) (t := (.array .int)) (t' := (.array .int)) (by decide) (by decide)))
  have F225 := F210.other W216 (Or.inr (slot_ne (Or.inl (own_w hw 156 rfl)) (Or.inl (own_w hw 105 rfl)) (by decide) (t := (.array .int)) (t' := (.array .int)) (by decide) (by decide)))
  have F226 := F211.other W216 (Or.inr (slot_ne (Or.inl (own_w hw 158 rfl)) (Or.inl (own_w hw 105 rfl)) (by decide) (t := .int) (t' := (.array .int)) (by decide) (by decide)))
  have F227 := F212.other W216 (Ne.symm nes0)
  have F228 : Keep h0 h216 [b0] := F213.wr W216 (Or.inl (List.mem_of_getElem? (i := 0) rfl))
  have F229 := F214.other W216 (Ne.symm ne165)
  have F230 := F215.other W216 (Ne.symm ne197)
  refine own_st st216 ?_
  show own_Dn p e below s _ _ _ (T216.setTop (mkF m 25 #[ρ b0, ρ b1, ρ b2, ι 0] []))
  refine own_st (fun _ k => XS.aloadN X216.here hx rfl (hb hby ii_d25) rfl rfl (XS.aloadN X216.here hx rfl (hb hby ii_d26) rfl rfl k)) ?_
  show own_Dn p e below s _ _ _ (T216.setTop (mkF m 27 #[ρ b0, ρ b1, ρ b2, ι 0] [(.ref b2), (.ref b0)]))
  obtain ⟨T231, h231, X231, e231, W231, st231⟩ := putF X216 hx hZ hown (host := "") (Or.inl (own_w hw 106 rfl)) Via.refl e216 F220 F218 (Or.inr ⟨(own_w hw 107 rfl), rfl, hnm⟩) (own_w hw 94 rfl) (ty := (.array .int)) (v := (.ref b2)) (by decide) rfl rfl (g := (mkF m 27 #[ρ b0, ρ b1, ρ b2, ι 0] [(.ref b2), (.ref b0)])) rfl rfl (hb hby ii_d27)
  have N231 := Fr.snoc X231 N216 ge_b0
  have F232 : n0 ≤ h231.size := Nat.le_trans F217 (Keep.of_wr W231).1
  have F233 := F218.wr W231
  have F234 := F219.other W231 (Or.inr (slot_ne (Or.inr (own_w hw 100 rfl)) (Or.inr (own_w hw 107 rfl)) (by decide) (t := (.object ς0)) (t' := (.array .int)) (by decide) (by decide)))
  have F235 : Fld Z h231 b0 ς1 "positions" "[I" (.ref b2) := F220.same W231
  have F236 := F221.other W231 (Or.inr (slot_ne (Or.inl (own_w hw 103 rfl)) (Or.inr (own_w hw 107 rfl)) (by decide) (t := (.array .int)) (t' := (.array .int)) (by decide) (by decide)))
  have F237 := F222.other W231 (Or.inr (slot_ne (Or.inl (own_w hw 105 rfl)) (Or.inr (own_w hw 107 rfl)) (by decide) (t := (.array .int)) (t' := (.array .int)) (by decide) (by decide)))
  have F238 := F223.other W231 (Or.inr (slot_ne (Or.inr (own_w hw 111 rfl)) (Or.inr (own_w hw 107 rfl)) (by decide) (t := (.array .int)) (t' := (.array .int)) (by decide) (by decide)))
  have F239 := F224.other W231 (Or.inr (slot_ne (Or.inl (own_w hw 109 rfl)) (Or.inr (own_w hw 107 rfl)) (by decide) (t := (.array .int)) (t' := (.array .int)) (by decide) (by decide)))
  have F240 := F225.other W231 (Or.inr (slot_ne (Or.inl (own_w hw 156 rfl)) (Or.inr (own_w hw 107 rfl)) (by decide) (t := (.array .int)) (t' := (.array .int)) (by decide) (by decide)))
  have F241 := F226.other W231 (Or.inr (slot_ne (Or.inl (own_w hw 158 rfl)) (Or.inr (own_w hw 107 rfl)) (by decide) (t := .int) (t' := (.array .int)) (by decide) (by decide)))
  have F242 := F227.other W231 (Ne.symm nes0)
  have F243 : Keep h0 h231 [b0] := F228.wr W231 (Or.inl (List.mem_of_getElem? (i := 0) rfl))
  have F244 := F229.other W231 (Ne.symm ne165)
  have F245 := F230.other W231 (Ne.symm ne197)
  refine own_st st231 ?_
  show own_Dn p e below s _ _ _ (T231.setTop (mkF m 30 #[ρ b0, ρ b1, ρ b2, ι 0] []))
  refine own_st (fun _ k => XS.aloadN X231.here hx rfl (hb hby ii_d30) rfl rfl (XS.iloadN X231.here hx rfl (hb hby ii_d31) rfl k)) ?_
  show own_Dn p e below s _ _ _ (T231.setTop (mkF m 32 #[ρ b0, ρ b1, ρ b2, ι 0] [(.int 0), (.ref b0)]))
  refine own_st (fun _ k => XS.ifYes X231.here hx rfl (pc0 := 32) (pc' := 42) rfl (hb hby ii_d32) rfl ((if0 _ _).trans (teq (by decide : (0 : Int32) = (0 : Int32))).1) (by decide) (by decide) k) ?_
  show own_Dn p e below s _ _ _ (T231.setTop (mkF m 42 #[ρ b0, ρ b1, ρ b2, ι 0] [(.ref b0)]))
  refine own_st (fun _ k => XS.aconstNull X231.here hx rfl (hb hby ii_d42) k) ?_
  show own_Dn p e below s _ _ _ (T231.setTop (mkF m 43 #[ρ b0, ρ b1, ρ b2, ι 0] [.null, (.ref b0)]))
  obtain ⟨T246, h246, X246, e246, W246, st246⟩ := putF X231 hx hZ hown (host := "") (Or.inl (own_w hw 108 rfl)) Via.refl e231 F239 F233 (Or.inl (own_w hw 109 rfl)) (own_w hw 94 rfl) (ty := (.array .int)) (v := .null) (by decide) rfl rfl (g := (mkF m 43 #[ρ b0, ρ b1, ρ b2, ι 0] [.null, (.ref b0)])) rfl rfl (hb hby ii_d43)
  have N246 := Fr.snoc X246 N231 ge_b0
  have F247 : n0 ≤ h246.size := Nat.le_trans F232 (Keep.of_wr W246).1
  have F248 := F233.wr W246
  have F249 := F234.other W246 (Or.inr (slot_ne (Or.inr (own_w hw 100 rfl)) (Or.inl (own_w hw 109 rfl)) (by decide) (t := (.object ς0)) (t' := (.array .int)) (by decide) (by decide)))
  have F250 := F235.other W246 (Or.inr (slot_ne (Or.inr (own_w hw 107 rfl)) (Or.inl (own_w hw 109 rfl)) (by decide) (t := (.array .int)) (t' := (.array .int)) (by decide) (by decide)))
  have F251 := F236.other W246 (Or.inr (slot_ne (Or.inl (own_w hw 103 rfl)) (Or.inl (own_w hw 109 rfl)) (by decide) (t := (.array .int)) (t' := (.array .int)) (by decide) (by decide)))
  have F252 := F237.other W246 (Or.inr (slot_ne (Or.inl (own_w hw 105 rfl)) (Or.inl (own_w hw 109 rfl)) (by decide) (t := (.array .int)) (t' := (.array .int)) (by decide) (by decide)))
  have F253 := F238.other W246 (Or.inr (slot_ne (Or.inr (own_w hw 111 rfl)) (Or.inl (own_w hw 109 rfl)) (by decide) (t := (.array .int)) (t' := (.array .int)) (by decide) (by decide)))
  have F254 : Fld Z h246 b0 ς1 "next" "[I" .null := F239.same W246
  have F255 := F240.other W246 (Or.inr (slot_ne (Or.inl (own_w hw 156 rfl)) (Or.inl (own_w hw 109 rfl)) (by decide) (t := (.array .int)) (t' := (.array .int)) (by decide) (by decide)))
  have F256 := F241.other W246 (Or.inr (slot_ne (Or.inl (own_w hw 158 rfl)) (Or.inl (own_w hw 109 rfl)) (by decide) (t := .int) (t' := (.array .int)) (by decide) (by decide)))
  have F257 := F242.other W246 (Ne.symm nes0)
  have F258 : Keep h0 h246 [b0] := F243.wr W246 (Or.inl (List.mem_of_getElem? (i := 0) rfl))
  have F259 := F244.other W246 (Ne.symm ne165)
  have F260 := F245.other W246 (Ne.symm ne197)
  refine own_st st246 ?_
  show own_Dn p e below s _ _ _ (T246.setTop (mkF m 46 #[ρ b0, ρ b1, ρ b2, ι 0] []))
  refine own_st (fun _ k => XS.aloadN X246.here hx rfl (hb hby ii_d46) rfl rfl (XS.aloadN X246.here hx rfl (hb hby ii_d47) rfl rfl k)) ?_
  show own_Dn p e below s _ _ _ (T246.setTop (mkF m 48 #[ρ b0, ρ b1, ρ b2, ι 0] [(.ref b2), (.ref b0)]))
  refine own_st (own_len (pc := 48) (L := #[ρ b0, ρ b1, ρ b2, ι 0]) (rest := [(.ref b0)]) X246 hx hZ e246 F257 (z := (1 : Int32)) rfl (hb hby ii_d48)) ?_
  show own_Dn p e below s _ _ _ (T246.setTop (mkF m 49 #[ρ b0, ρ b1, ρ b2, ι 0] [(.int 1), (.ref b0)]))
  obtain ⟨T261, h261, cA261, X261, e261, E261, A261, st261⟩ := newP X246 hx hZ (aty := .int) (own_w hw 0 rfl) e246 (g := (mkF m 49 #[ρ b0, ρ b1, ρ b2, ι 0] [(.int 1), (.ref b0)])) rfl (hb hby ii_d49) (n := (1 : Int32)) rfl (by decide) (cap := 1) (by decide) (by decide) (by decide) (by decide)
  obtain ⟨o49, g261⟩ : ∃ z, z = h246.size := ⟨_, rfl⟩
  rw [← g261] at A261 st261
  have ne262 : b0 ≠ o49 := Nat.ne_of_lt (Nat.lt_of_lt_of_le F248.lt (Nat.le_of_eq g261.symm))
  have ne263 : b2 ≠ o49 := Nat.ne_of_lt (Nat.lt_of_lt_of_le F257.lt (Nat.le_of_eq g261.symm))
  have ne264 : o12 ≠ o49 := Nat.ne_of_lt (Nat.lt_of_lt_of_le F259.lt (Nat.le_of_eq g261.symm))
  have ne265 : o20 ≠ o49 := Nat.ne_of_lt (Nat.lt_of_lt_of_le F260.lt (Nat.le_of_eq g261.symm))
  have ge266 : n0 ≤ o49 := Nat.le_trans F247 (Nat.le_of_eq g261.symm)
  have gh267 : h0.size ≤ o49 := Nat.le_trans F258.1 (Nat.le_of_eq g261.symm)
  have F268 : n0 ≤ h261.size := Nat.le_trans F247 E261.1
  have F269 := F248.ext E261
  have F270 := F249.ext E261
  have F271 := F250.ext E261
  have F272 := F251.ext E261
  have F273 := F252.ext E261
  have F274 := F253.ext E261
  have F275 := F254.ext E261
  have F276 := F255.ext E261
  have F277 := F256.ext E261
  have F278 := F257.ext E261
  have F279 : Keep h0 h261 [b0] := F258.ext E261
  have F280 := F259.ext E261
  have F281 := F260.ext E261
  have F282 : own_Arf Z h261 o49 .int 1 (fun i => (.int ((fun _ => (0 : Int32)) i))) := own_Arf.new A261 (by decide) (by decide)
  refine own_st st261 ?_
  show own_Dn p e below s _ _ _ (T261.setTop (mkF m 51 #[ρ b0, ρ b1, ρ b2, ι 0] [(.ref o49), (.ref b0)]))
  obtain ⟨T283, h283, X283, e283, W283, st283⟩ := putF X261 hx hZ hown (host := "") (Or.inl (own_w hw 110 rfl)) Via.refl e261 F274 F269 (Or.inr ⟨(own_w hw 111 rfl), rfl, hnm⟩) (own_w hw 94 rfl) (ty := (.array .int)) (v := (.ref o49)) (by decide) rfl rfl (g := (mkF m 51 #[ρ b0, ρ b1, ρ b2, ι 0] [(.ref o49), (.ref b0)])) rfl rfl (hb hby ii_d51)
  have N283 := Fr.snoc X283 N246 ge_b0
  have F284 : n0 ≤ h283.size := Nat.le_trans F268 (Keep.of_wr W283).1
  have F285 := F269.wr W283
  have F286 := F270.other W283 (Or.inr (slot_ne (Or.inr (own_w hw 100 rfl)) (Or.inr (own_w hw 111 rfl)) (by decide) (t := (.object ς0)) (t' := (.array .int)) (by decide) (by decide)))
  have F287 := F271.other W283 (Or.inr (slot_ne (Or.inr (own_w hw 107 rfl)) (Or.inr (own_w hw 111 rfl)) (by decide) (t := (.array .int)) (t' := (.array .int)) (by decide) (by decide)))
  have F288 := F272.other W283 (Or.inr (slot_ne (Or.inl (own_w hw 103 rfl)) (Or.inr (own_w hw 111 rfl)) (by decide) (t := (.array .int)) (t' := (.array .int)) (by decide) (by decide)))
  have F289 := F273.other W283 (Or.inr (slot_ne (Or.inl (own_w hw 105 rfl)) (Or.inr (own_w hw 111 rfl)) (by decide) (t := (.array .int)) (t' := (.array .int)) (by decide) (by decide)))
  have F290 : Fld Z h283 b0 ς1 "rowKey" "[I" (.ref o49) := F274.same W283
  have F291 := F275.other W283 (Or.inr (slot_ne (Or.inl (own_w hw 109 rfl)) (Or.inr (own_w hw 111 rfl)) (by decide) (t := (.array .int)) (t' := (.array .int)) (by decide) (by decide)))
  have F292 := F276.other W283 (Or.inr (slot_ne (Or.inl (own_w hw 156 rfl)) (Or.inr (own_w hw 111 rfl)) (by decide) (t := (.array .int)) (t' := (.array .int)) (by decide) (by decide)))
  have F293 := F277.other W283 (Or.inr (slot_ne (Or.inl (own_w hw 158 rfl)) (Or.inr (own_w hw 111 rfl)) (by decide) (t := .int) (t' := (.array .int)) (by decide) (by decide)))
  have F294 := F278.other W283 (Ne.symm nes0)
  have F295 : Keep h0 h283 [b0] := F279.wr W283 (Or.inl (List.mem_of_getElem? (i := 0) rfl))
  have F296 := F280.other W283 (Ne.symm ne165)
  have F297 := F281.other W283 (Ne.symm ne197)
  have F298 := F282.other W283 (Ne.symm ne262)
  refine own_st st283 ?_
  show own_Dn p e below s _ _ _ (T283.setTop (mkF m 54 #[ρ b0, ρ b1, ρ b2, ι 0] []))
  have eqH : T283.heap = h283 := e283
  exact own_retV X283 hx hret hlk (hb hby ii_d54) (by decide) (by decide) (by rw [eqH]; exact ⟨rfl, N283, F295, o12, o20, o49, ge167, ge200, ge266, (Or.inr gh168), (Or.inr gh201), (Or.inr gh267), ne199, ne264, ne265, ne165, ne197, ne262, F285, F286, F287, F288, F289, F290, F291, F292, F293, (by rw [hy9]; exact F296), (by rw [hy10]; exact F297), (by rw [hy11]; exact F298)⟩)
theorem ii_ef (m : MethodId) (b0 : Addr) (b1 : Addr) (b2 : Addr) : entryFrame m #[(.ref b0), (.ref b1), (.ref b2), (.int 0)] 4 = mkF m 0 #[.val (.ref b0), .val (.ref b1), .val (.ref b2), .val (.int 0)] [] := by first | (simp [entryFrame, mkF, argsToLocals, Value.category]; done) | rfl
theorem ii_rm (l : Launch) (Z : State) (a0 : Array Value) (hw : ∀ d ∈ tables_1, d.before a0 Z = true) (ws : List Jvm.Cond) (b0 : Addr) (b1 : Addr) (b2 : Addr) (w_P : Nat → Int32) (h0 : Heap) (n0 : Nat) (Z0 : n0 ≤ h0.size) (P0 : Exa Z h0 b0 ς1) (P1 : Fld Z h0 b0 ς1 "this$0" ς2 .null) (P2 : Fld Z h0 b0 ς1 "positions" "[I" .null) (P3 : Fld Z h0 b0 ς1 "firsts" "[I" .null) (P4 : Fld Z h0 b0 ς1 "lasts" "[I" .null) (P5 : Fld Z h0 b0 ς1 "rowKey" "[I" .null) (P6 : Fld Z h0 b0 ς1 "next" "[I" .null) (P7 : Fld Z h0 b0 ς1 "previous" "[I" .null) (P8 : Fld Z h0 b0 ς1 "keys" "I" (.int 0)) (P9 : own_Arf Z h0 b2 .int 1 (fun i => (.int (w_P i)))) (ge_b0 : n0 ≤ b0) (nes0 : b0 ≠ b2) :
    MetFree l (⟨ς1, "<init>", "(Lcom/example/chasebound/chasebound/chase/Relation;[IZ)V"⟩ : MethodName) (head1 (Jvm.Cond.code (⟨ς1, "<init>", "(Lcom/example/chasebound/chasebound/chase/Relation;[IZ)V"⟩ : MethodName) prog_24_method_1_code 4 none :: ws) ({ frames := 1, cells := 3, slots := 33, locals := 12 } : Room)) (fun a U => a = #[(.ref b0), (.ref b1), (.ref b2), (.int 0)] ∧ Z.Warmed39 U.vm ∧ U.heap = h0) (fun _ _ _ _ _ => True) (fun _ U o U' => ∃ v L, o = .returned v ∧ ii_Q Z b0 b1 b2 w_P (ii_g9 w_P) (ii_g10 w_P) (ii_g11 w_P) h0 n0 v U'.heap L ∧ FrameEnd U o U' L ({ frames := 1, cells := 3, slots := 33, locals := 12 } : Room).cells ({ frames := 1, cells := 3, slots := 33, locals := 12 } : Room).slots) :=
  own_met hw (plainFor_of_name (by first | (simp [plainName, overriddenIn]; done) | decide +kernel)) (fun p e s m below meth c T0 C0 X0 e0 => own_st (fun _ k => castTop (ii_ef m b0 b1 b2) k) (ii_c0 C0 X0 e0 (Fr.nil n0) Z0 P0 P1 P2 P3 P4 P5 P6 P7 P8 P9 ge_b0 nes0 rfl rfl rfl))
theorem rn_d0 : decode jdk_31_method_10_code 0 = .ok (.aload_n 0, 1) := by decide +kernel
theorem rn_d1 : decode jdk_31_method_10_code 1 = .ok (.ifnonnull 11, 3) := by decide +kernel
theorem rn_d12 : decode jdk_31_method_10_code 12 = .ok (.aload_n 0, 1) := by decide +kernel
theorem rn_d13 : decode jdk_31_method_10_code 13 = .ok (.areturn, 1) := by decide +kernel
def rn_Q (Z : State) (b0 : Addr)  (h0 : Heap) (n0 : Nat) (v : Option Value) (h : Heap) (L : List Loc) : Prop := v = some (.ref b0) ∧ Fr n0 L ∧ Keep h0 h []
set_option maxRecDepth 65536 in
set_option maxHeartbeats 40000000 in
theorem rn_c0 {b0 : Addr} {locs : List Loc} (C0 : own_Cx p s m meth c Z a0 jdk_31_method_10_code 1 "java/util/Objects" "requireNonNull" (some (.object "java/lang/Object"))) (X0 : Stand p l e ({ frames := 0, cells := 0, slots := 0, locals := 0 } : Room) s m args below meth c T0 locs 0 0) (e0 : T0.heap = h0) (N0 : Fr n0 locs)  (Z0 : n0 ≤ h0.size) :
    own_Dn p e below s (rn_Q Z b0  h0 n0) ({ frames := 0, cells := 0, slots := 0, locals := 0 } : Room).cells ({ frames := 0, cells := 0, slots := 0, locals := 0 } : Room).slots (T0.setTop (mkF m 0 #[ρ b0] [])) := by
  obtain ⟨hx, hZ, hw, hby, hml, hown, hret, hlk, hnm⟩ := id C0
  refine own_st (fun _ k => XS.aloadN X0.here hx rfl (hb hby rn_d0) rfl rfl k) ?_
  show own_Dn p e below s _ _ _ (T0.setTop (mkF m 1 #[ρ b0] [(.ref b0)]))
  refine own_st (fun _ k => XT.ifnonnullYes X0.here hx rfl (pc0 := 1) (pc' := 12) rfl (hb hby rn_d1) rfl (by decide) (by decide) k) ?_
  show own_Dn p e below s _ _ _ (T0.setTop (mkF m 12 #[ρ b0] []))
  refine own_st (fun _ k => XS.aloadN X0.here hx rfl (hb hby rn_d12) rfl rfl k) ?_
  show own_Dn p e below s _ _ _ (T0.setTop (mkF m 13 #[ρ b0] [(.ref b0)]))
  have eqH : T0.heap = h0 := e0
  exact own_retA X0 hx rfl hret hlk rfl rfl (hb hby rn_d13) (by decide) (by decide) (by rw [eqH]; exact ⟨rfl, N0, (Keep.refl h0 [])⟩)
theorem rn_ef (m : MethodId) (b0 : Addr) : entryFrame m #[(.ref b0)] 1 = mkF m 0 #[.val (.ref b0)] [] := by first | (simp [entryFrame, mkF, argsToLocals, Value.category]; done) | rfl
theorem rn_rm (l : Launch) (Z : State) (a0 : Array Value) (hw : ∀ d ∈ tables_1, d.before a0 Z = true) (ws : List Jvm.Cond) (b0 : Addr) (h0 : Heap) (n0 : Nat) (Z0 : n0 ≤ h0.size) :
    MetFree l (⟨"java/util/Objects", "requireNonNull", "(Ljava/lang/Object;)Ljava/lang/Object;"⟩ : MethodName) (head1 (Jvm.Cond.code (⟨"java/util/Objects", "requireNonNull", "(Ljava/lang/Object;)Ljava/lang/Object;"⟩ : MethodName) jdk_31_method_10_code 1 (some (.object "java/lang/Object")) :: ws) ({ frames := 0, cells := 0, slots := 0, locals := 0 } : Room)) (fun a U => a = #[(.ref b0)] ∧ Z.Warmed39 U.vm ∧ U.heap = h0) (fun _ _ _ _ _ => True) (fun _ U o U' => ∃ v L, o = .returned v ∧ rn_Q Z b0  h0 n0 v U'.heap L ∧ FrameEnd U o U' L ({ frames := 0, cells := 0, slots := 0, locals := 0 } : Room).cells ({ frames := 0, cells := 0, slots := 0, locals := 0 } : Room).slots) :=
  own_met hw (plainFor_of_name (by first | (simp [plainName, overriddenIn]; done) | decide +kernel)) (fun p e s m below meth c T0 C0 X0 e0 => own_st (fun _ k => castTop (rn_ef m b0) k) (rn_c0 C0 X0 e0 (Fr.nil n0) Z0 ))
theorem sa_d0 : decode jdk_65_method_175_code 0 = .ok (.aload_n 1, 1) := by decide +kernel
theorem sa_d1 : decode jdk_65_method_175_code 1 = .ok (.invokestatic 175, 3) := by decide +kernel
theorem sa_d4 : decode jdk_65_method_175_code 4 = .ok (.pop, 1) := by decide +kernel
theorem sa_d5 : decode jdk_65_method_175_code 5 = .ok (.iconst 0, 1) := by decide +kernel
theorem sa_d6 : decode jdk_65_method_175_code 6 = .ok (.istore_n 2, 1) := by decide +kernel
theorem sa_d7 : decode jdk_65_method_175_code 7 = .ok (.iload_n 2, 1) := by decide +kernel
theorem sa_d8 : decode jdk_65_method_175_code 8 = .ok (.aload_n 0, 1) := by decide +kernel
theorem sa_d9 : decode jdk_65_method_175_code 9 = .ok (.arraylength, 1) := by decide +kernel
theorem sa_d10 : decode jdk_65_method_175_code 10 = .ok (.if_icmp .ge 19, 3) := by decide +kernel
theorem sa_d13 : decode jdk_65_method_175_code 13 = .ok (.aload_n 0, 1) := by decide +kernel
theorem sa_d14 : decode jdk_65_method_175_code 14 = .ok (.iload_n 2, 1) := by decide +kernel
theorem sa_d15 : decode jdk_65_method_175_code 15 = .ok (.aload_n 1, 1) := by decide +kernel
theorem sa_d16 : decode jdk_65_method_175_code 16 = .ok (.iload_n 2, 1) := by decide +kernel
theorem sa_d17 : decode jdk_65_method_175_code 17 = .ok (.invokeinterface 582 2, 5) := by decide +kernel
theorem sa_d22 : decode jdk_65_method_175_code 22 = .ok (.iastore, 1) := by decide +kernel
theorem sa_d23 : decode jdk_65_method_175_code 23 = .ok (.iinc 2 1, 3) := by decide +kernel
theorem sa_d26 : decode jdk_65_method_175_code 26 = .ok (.goto (-19), 3) := by decide +kernel
theorem sa_d29 : decode jdk_65_method_175_code 29 = .ok (.return_, 1) := by decide +kernel
def sa_Q (Z : State) (b0 : Addr) (b1 : Addr) (w_g : Nat → Int32) (y0 : Nat → Int32) (h0 : Heap) (n0 : Nat) (v : Option Value) (h : Heap) (L : List Loc) : Prop := v = none ∧ Fr n0 L ∧ Keep h0 h [b0] ∧ own_Arf Z h b0 .int 1 (fun i => (.int (y0 i)))
def sa_g0 (w_g : Nat → Int32)  : Nat → Int32 :=
  (own_upd w_g ((0 : Int32)).toNatClampNeg (0 : Int32))
set_option maxRecDepth 65536 in
set_option maxHeartbeats 40000000 in
theorem sa_c0 {b0 : Addr} {b1 : Addr} {w_g : Nat → Int32} {locs : List Loc} {y0 : Nat → Int32} (C0 : own_Cx p s m meth c Z a0 jdk_65_method_175_code 3 "java/util/Arrays" "setAll" none) (X0 : Stand p l e ({ frames := 2, cells := 0, slots := 0, locals := 27 } : Room) s m args below meth c T0 locs 0 0) (e0 : T0.heap = h0) (N0 : Fr n0 locs)  (Z0 : n0 ≤ h0.size) (P0 : own_Arf Z h0 b0 .int 1 (fun i => (.int (w_g i)))) (ge_b0 : n0 ≤ b0) (hL : own_LF n0 Z h0 b1) (hy0 : y0 = sa_g0 w_g ) :
    own_Dn p e below s (sa_Q Z b0 b1 w_g y0 h0 n0) ({ frames := 2, cells := 0, slots := 0, locals := 27 } : Room).cells ({ frames := 2, cells := 0, slots := 0, locals := 27 } : Room).slots (T0.setTop (mkF m 0 #[ρ b0, ρ b1, υ] [])) := by
  obtain ⟨hx, hZ, hw, hby, hml, hown, hret, hlk, hnm⟩ := id C0
  refine own_st (fun _ k => XS.aloadN X0.here hx rfl (hb hby sa_d0) rfl rfl k) ?_
  show own_Dn p e below s _ _ _ (T0.setTop (mkF m 1 #[ρ b0, ρ b1, υ] [(.ref b1)]))
  obtain ⟨_, _, ⟨T9, L9, k9, n9⟩, -, X9, ⟨Lc9, hQ9, l9, y9, z9⟩, st9⟩ := Jvm.LawKit.callS X0 hx (y := (⟨"java/util/Objects", "requireNonNull", "(Ljava/lang/Object;)Ljava/lang/Object;"⟩ : MethodName)) hown (mvT hZ (own_w hw 84 rfl)) (mvT hZ (own_w hw 85 rfl)) (mvT hZ (own_w hw 86 rfl)) (mvT hZ (own_w hw 87 rfl)) (by decide) (backOf (W := 0) (rn_rm l Z a0 hw [] (b1) h0 n0 Z0 ) hZ (own_w hw 87 rfl) (own_w hw 86 rfl) (by decide) (by decide)) (g := (mkF m 1 #[ρ b0, ρ b1, υ] [(.ref b1)])) rfl (by rw [hml]; rfl) (argsL := [(.ref b1)]) (rest := []) (lenOf own_pd10 rfl) rfl (by show 2 * 0 + _ ≤ _; exact Nat.le_of_eq rfl) (hb hby sa_d1) (fun _ _ => ⟨rfl, e0, (by decide : 0 + 0 ≤ _), (by decide : 0 + 0 ≤ _)⟩)
  dsimp only [Pt.U, Pt.locs, Pt.cells, Pt.slots] at X9 l9 y9 z9 st9 hQ9
  subst l9 y9 z9
  obtain ⟨rfl, N9q, K9⟩ := hQ9
  have F10 : n0 ≤ T9.heap.size := Nat.le_trans Z0 K9.1
  have F11 := P0.keep K9 nin0
  have F12 : Keep h0 T9.heap [b0] := (Keep.refl h0 [b0]).trans K9 all0
  have N9 := Fr.app N0 N9q
  refine own_st st9 ?_
  show own_Dn p e below s _ _ _ (T9.setTop (mkF m 4 #[ρ b0, ρ b1, υ] [(.ref b1)]))
  refine own_st (fun _ k => XS.pop X9.here hx rfl (hb hby sa_d4) rfl rfl (XS.iconst X9.here hx rfl (hb hby sa_d5) (XS.istoreN X9.here hx rfl (hb hby sa_d6) rfl (l' := #[ρ b0, ρ b1, ι 0]) rfl (XS.iloadN X9.here hx rfl (hb hby sa_d7) rfl (XS.aloadN X9.here hx rfl (hb hby sa_d8) rfl rfl k))))) ?_
  show own_Dn p e below s _ _ _ (T9.setTop (mkF m 9 #[ρ b0, ρ b1, ι 0] [(.ref b0), (.int 0)]))
  refine own_st (own_len (pc := 9) (L := #[ρ b0, ρ b1, ι 0]) (rest := [(.int 0)]) X9 hx hZ rfl F11 (z := (1 : Int32)) rfl (hb hby sa_d9)) ?_
  show own_Dn p e below s _ _ _ (T9.setTop (mkF m 10 #[ρ b0, ρ b1, ι 0] [(.int 1), (.int 0)]))
  refine own_st (fun _ k => XS.icmpNo X9.here hx rfl (hb hby sa_d10) rfl (tlt (by decide : (0 : Int32) < (1 : Int32))).2.1 k) ?_
  show own_Dn p e below s _ _ _ (T9.setTop (mkF m 13 #[ρ b0, ρ b1, ι 0] []))
  refine own_st (fun _ k => XS.aloadN X9.here hx rfl (hb hby sa_d13) rfl rfl (XS.iloadN X9.here hx rfl (hb hby sa_d14) rfl (XS.aloadN X9.here hx rfl (hb hby sa_d15) rfl rfl (XS.iloadN X9.here hx rfl (hb hby sa_d16) rfl k)))) ?_
  show own_Dn p e below s _ _ _ (T9.setTop (mkF m 17 #[ρ b0, ρ b1, ι 0] [(.int 0), (.ref b1), (.int 0), (.ref b0)]))
  obtain ⟨T13, X13, e13, st13⟩ := own_call X9 hx hZ hw hown rfl (own_LF.keep hL F12 (allS ge_b0 all0)) (i := (0 : Int32)) (pc := 17) (Ls := #[ρ b0, ρ b1, ι 0]) (rest := [(.int 0), (.ref b0)]) (by rw [hml]; rfl) (hb hby sa_d17) (by decide) (Nat.le_of_ble_eq_true rfl) (by decide) (by decide)
  refine own_st st13 ?_
  show own_Dn p e below s _ _ _ (T13.setTop (mkF m 22 #[ρ b0, ρ b1, ι 0] [(.int 0), (.int 0), (.ref b0)]))
  obtain ⟨T14, h14, X14, e14, W14, F14a, st14⟩ := own_stI (pc := 22) (L := #[ρ b0, ρ b1, ι 0]) (rest := []) X13 hx hZ e13 F11 (j := (0 : Int32)) (x := (0 : Int32)) (by decide) (by decide) (hb hby sa_d22)
  have N14 := Fr.snoc X14 N9 ge_b0
  have F15 : n0 ≤ h14.size := Nat.le_trans F10 (Keep.of_wr W14).1
  have F16 : Keep h0 h14 [b0] := F12.wr W14 (Or.inl (List.mem_of_getElem? (i := 0) rfl))
  refine own_st st14 ?_
  show own_Dn p e below s _ _ _ (T14.setTop (mkF m 23 #[ρ b0, ρ b1, ι 0] []))
  refine own_st (fun _ k => XS.iinc X14.here hx rfl (hb hby sa_d23) rfl (l' := #[ρ b0, ρ b1, ι 1]) rfl (XS.goto X14.here hx rfl (pc0 := 26) (pc' := 7) rfl (hb hby sa_d26) (by decide) (by decide) (XS.iloadN X14.here hx rfl (hb hby sa_d7) rfl (XS.aloadN X14.here hx rfl (hb hby sa_d8) rfl rfl k)))) ?_
  show own_Dn p e below s _ _ _ (T14.setTop (mkF m 9 #[ρ b0, ρ b1, ι 1] [(.ref b0), (.int 1)]))
  refine own_st (own_len (pc := 9) (L := #[ρ b0, ρ b1, ι 1]) (rest := [(.int 1)]) X14 hx hZ e14 F14a (z := (1 : Int32)) rfl (hb hby sa_d9)) ?_
  show own_Dn p e below s _ _ _ (T14.setTop (mkF m 10 #[ρ b0, ρ b1, ι 1] [(.int 1), (.int 1)]))
  refine own_st (fun _ k => XS.icmpYes X14.here hx rfl (pc0 := 10) (pc' := 29) rfl (hb hby sa_d10) rfl (flt (by decide : ¬ ((1 : Int32) < (1 : Int32)))).2.1 (by decide) (by decide) k) ?_
  show own_Dn p e below s _ _ _ (T14.setTop (mkF m 29 #[ρ b0, ρ b1, ι 1] []))
  have eqH : T14.heap = h14 := e14
  exact own_retV X14 hx hret hlk (hb hby sa_d29) (by decide) (by decide) (by rw [eqH]; exact ⟨rfl, N14, F16, (by rw [hy0, sa_g0]; exact F14a)⟩)
theorem sa_ef (m : MethodId) (b0 : Addr) (b1 : Addr) : entryFrame m #[(.ref b0), (.ref b1)] 3 = mkF m 0 #[.val (.ref b0), .val (.ref b1), .unset] [] := by first | (simp [entryFrame, mkF, argsToLocals, Value.category]; done) | rfl
theorem sa_rm (l : Launch) (Z : State) (a0 : Array Value) (hw : ∀ d ∈ tables_1, d.before a0 Z = true) (ws : List Jvm.Cond) (b0 : Addr) (b1 : Addr) (w_g : Nat → Int32) (h0 : Heap) (n0 : Nat) (Z0 : n0 ≤ h0.size) (P0 : own_Arf Z h0 b0 .int 1 (fun i => (.int (w_g i)))) (ge_b0 : n0 ≤ b0) (hL : own_LF n0 Z h0 b1) :
    MetFree l (⟨"java/util/Arrays", "setAll", "([ILjava/util/function/IntUnaryOperator;)V"⟩ : MethodName) (head1 (Jvm.Cond.code (⟨"java/util/Arrays", "setAll", "([ILjava/util/function/IntUnaryOperator;)V"⟩ : MethodName) jdk_65_method_175_code 3 none :: ws) ({ frames := 2, cells := 0, slots := 0, locals := 27 } : Room)) (fun a U => a = #[(.ref b0), (.ref b1)] ∧ Z.Warmed39 U.vm ∧ U.heap = h0) (fun _ _ _ _ _ => True) (fun _ U o U' => ∃ v L, o = .returned v ∧ sa_Q Z b0 b1 w_g (sa_g0 w_g) h0 n0 v U'.heap L ∧ FrameEnd U o U' L ({ frames := 2, cells := 0, slots := 0, locals := 27 } : Room).cells ({ frames := 2, cells := 0, slots := 0, locals := 27 } : Room).slots) :=
  own_met hw (plainFor_of_name (by first | (simp [plainName, overriddenIn]; done) | decide +kernel)) (fun p e s m below meth c T0 C0 X0 e0 => own_st (fun _ k => castTop (sa_ef m b0 b1) k) (sa_c0 C0 X0 e0 (Fr.nil n0) Z0 P0 ge_b0 hL rfl))
theorem ri_d0 : decode prog_23_method_1_code 0 = .ok (.aload_n 0, 1) := by decide +kernel
theorem ri_d1 : decode prog_23_method_1_code 1 = .ok (.invokespecial 1, 3) := by decide +kernel
theorem ri_d4 : decode prog_23_method_1_code 4 = .ok (.aload_n 0, 1) := by decide +kernel
theorem ri_d5 : decode prog_23_method_1_code 5 = .ok (.new 7, 3) := by decide +kernel
theorem ri_d8 : decode prog_23_method_1_code 8 = .ok (.dup, 1) := by decide +kernel
theorem ri_d9 : decode prog_23_method_1_code 9 = .ok (.invokespecial 9, 3) := by decide +kernel
theorem ri_d12 : decode prog_23_method_1_code 12 = .ok (.putfield 10, 3) := by decide +kernel
theorem ri_d15 : decode prog_23_method_1_code 15 = .ok (.aload_n 0, 1) := by decide +kernel
theorem ri_d16 : decode prog_23_method_1_code 16 = .ok (.aload_n 1, 1) := by decide +kernel
theorem ri_d17 : decode prog_23_method_1_code 17 = .ok (.putfield 16, 3) := by decide +kernel
theorem ri_d20 : decode prog_23_method_1_code 20 = .ok (.aload_n 0, 1) := by decide +kernel
theorem ri_d21 : decode prog_23_method_1_code 21 = .ok (.iload_n 2, 1) := by decide +kernel
theorem ri_d22 : decode prog_23_method_1_code 22 = .ok (.putfield 20, 3) := by decide +kernel
theorem ri_d25 : decode prog_23_method_1_code 25 = .ok (.aload_n 0, 1) := by decide +kernel
theorem ri_d26 : decode prog_23_method_1_code 26 = .ok (.aload_n 1, 1) := by decide +kernel
theorem ri_d27 : decode prog_23_method_1_code 27 = .ok (.invokevirtual 24, 3) := by decide +kernel
theorem ri_d30 : decode prog_23_method_1_code 30 = .ok (.putfield 30, 3) := by decide +kernel
theorem ri_d33 : decode prog_23_method_1_code 33 = .ok (.aload_n 0, 1) := by decide +kernel
theorem ri_d34 : decode prog_23_method_1_code 34 = .ok (.bipush 16, 2) := by decide +kernel
theorem ri_d36 : decode prog_23_method_1_code 36 = .ok (.iconst 1, 1) := by decide +kernel
theorem ri_d37 : decode prog_23_method_1_code 37 = .ok (.aload_n 0, 1) := by decide +kernel
theorem ri_d38 : decode prog_23_method_1_code 38 = .ok (.getfield 30, 3) := by decide +kernel
theorem ri_d41 : decode prog_23_method_1_code 41 = .ok (.invokestatic 32, 3) := by decide +kernel
theorem ri_d44 : decode prog_23_method_1_code 44 = .ok (.imul, 1) := by decide +kernel
theorem ri_d45 : decode prog_23_method_1_code 45 = .ok (.newarray .int, 2) := by decide +kernel
theorem ri_d47 : decode prog_23_method_1_code 47 = .ok (.putfield 38, 3) := by decide +kernel
theorem ri_d50 : decode prog_23_method_1_code 50 = .ok (.aload_n 0, 1) := by decide +kernel
theorem ri_d51 : decode prog_23_method_1_code 51 = .ok (.getfield 30, 3) := by decide +kernel
theorem ri_d54 : decode prog_23_method_1_code 54 = .ok (.newarray .int, 2) := by decide +kernel
theorem ri_d56 : decode prog_23_method_1_code 56 = .ok (.astore_n 3, 1) := by decide +kernel
theorem ri_d57 : decode prog_23_method_1_code 57 = .ok (.aload_n 3, 1) := by decide +kernel
theorem ri_d58 : decode prog_23_method_1_code 58 = .ok (.invokedynamic 42, 5) := by decide +kernel
theorem ri_d63 : decode prog_23_method_1_code 63 = .ok (.invokestatic 46, 3) := by decide +kernel
theorem ri_d66 : decode prog_23_method_1_code 66 = .ok (.aload_n 0, 1) := by decide +kernel
theorem ri_d67 : decode prog_23_method_1_code 67 = .ok (.new 52, 3) := by decide +kernel
theorem ri_d70 : decode prog_23_method_1_code 70 = .ok (.dup, 1) := by decide +kernel
theorem ri_d71 : decode prog_23_method_1_code 71 = .ok (.aload_n 0, 1) := by decide +kernel
theorem ri_d72 : decode prog_23_method_1_code 72 = .ok (.aload_n 3, 1) := by decide +kernel
theorem ri_d73 : decode prog_23_method_1_code 73 = .ok (.iconst 0, 1) := by decide +kernel
theorem ri_d74 : decode prog_23_method_1_code 74 = .ok (.invokespecial 54, 3) := by decide +kernel
theorem ri_d77 : decode prog_23_method_1_code 77 = .ok (.putfield 57, 3) := by decide +kernel
theorem ri_d80 : decode prog_23_method_1_code 80 = .ok (.return_, 1) := by decide +kernel
def ri_Q (Z : State) (b0 : Addr) (b1 : Addr) (w_a : Addr) (w_e : Addr) (y19 : Nat → Int32) (y20 : Nat → Int32) (y21 : Nat → Int32) (y22 : Nat → Int32) (y23 : Nat → Int32) (h0 : Heap) (n0 : Nat) (v : Option Value) (h : Heap) (L : List Loc) : Prop := v = none ∧ Fr n0 L ∧ Keep h0 h [b0] ∧ ∃ r1 r2 r3 r4 r5 r6 r7 : Addr, n0 ≤ r1 ∧ n0 ≤ r2 ∧ n0 ≤ r3 ∧ n0 ≤ r4 ∧ n0 ≤ r5 ∧ n0 ≤ r6 ∧ n0 ≤ r7 ∧ (r1 ∈ [b0] ∨ h0.size ≤ r1) ∧ (r2 ∈ [b0] ∨ h0.size ≤ r2) ∧ (r3 ∈ [b0] ∨ h0.size ≤ r3) ∧ (r4 ∈ [b0] ∨ h0.size ≤ r4) ∧ (r5 ∈ [b0] ∨ h0.size ≤ r5) ∧ (r6 ∈ [b0] ∨ h0.size ≤ r6) ∧ (r7 ∈ [b0] ∨ h0.size ≤ r7) ∧ r1 ≠ r2 ∧ r1 ≠ r3 ∧ r1 ≠ r4 ∧ r1 ≠ r5 ∧ r1 ≠ r6 ∧ r1 ≠ r7 ∧ r2 ≠ r3 ∧ r2 ≠ r4 ∧ r2 ≠ r5 ∧ r2 ≠ r6 ∧ r2 ≠ r7 ∧ r3 ≠ r4 ∧ r3 ≠ r5 ∧ r3 ≠ r6 ∧ r3 ≠ r7 ∧ r4 ≠ r5 ∧ r4 ≠ r6 ∧ r4 ≠ r7 ∧ r5 ≠ r6 ∧ r5 ≠ r7 ∧ r6 ≠ r7 ∧ b0 ≠ r1 ∧ b0 ≠ r2 ∧ b0 ≠ r3 ∧ b0 ≠ r4 ∧ b0 ≠ r5 ∧ b0 ≠ r6 ∧ b0 ≠ r7 ∧ Exa Z h b0 ς0 ∧ Fld Z h b0 ς0 "data" "[I" (.ref r1) ∧ Fld Z h b0 ς0 "arity" "I" (.int 1) ∧ Fld Z h b0 ς0 "facts" ς5 (.ref r2) ∧ Fld Z h b0 ς0 "indexes" ς10 (.ref r3) ∧ Fld Z h b0 ς0 "removed" "[Z" .null ∧ Fld Z h b0 ς0 "size" "I" (.int 0) ∧ Exa Z h r2 ς1 ∧ Fld Z h r2 ς1 "this$0" ς2 (.ref b0) ∧ Fld Z h r2 ς1 "positions" "[I" (.ref r4) ∧ Fld Z h r2 ς1 "firsts" "[I" (.ref r5) ∧ Fld Z h r2 ς1 "lasts" "[I" (.ref r6) ∧ Fld Z h r2 ς1 "rowKey" "[I" (.ref r7) ∧ Fld Z h r2 ς1 "next" "[I" .null ∧ Fld Z h r2 ς1 "previous" "[I" .null ∧ Fld Z h r2 ς1 "keys" "I" (.int 0) ∧ Exa Z h r3 ς3 ∧ Fld Z h r3 ς6 "modCount" "I" (.int 0) ∧ Fld Z h r3 ς3 "size" "I" (.int 0) ∧ own_Arf Z h r1 .int 16 (fun i => (.int (y19 i))) ∧ own_Arf Z h r4 .int 1 (fun i => (.int (y20 i))) ∧ own_Arf Z h r5 .int 16 (fun i => (.int (y21 i))) ∧ own_Arf Z h r6 .int 16 (fun i => (.int (y22 i))) ∧ own_Arf Z h r7 .int 1 (fun i => (.int (y23 i)))
def ri_g19   : Nat → Int32 :=
  (fun _ => (0 : Int32))
def ri_g20   : Nat → Int32 :=
  (sa_g0 (fun _ => (0 : Int32)))
def ri_g21   : Nat → Int32 :=
  (ii_g9 (sa_g0 (fun _ => (0 : Int32))))
def ri_g22   : Nat → Int32 :=
  (ii_g10 (sa_g0 (fun _ => (0 : Int32))))
def ri_g23   : Nat → Int32 :=
  (ii_g11 (sa_g0 (fun _ => (0 : Int32))))
set_option maxRecDepth 65536 in
set_option maxHeartbeats 40000000 in
theorem ri_c0 {b0 : Addr} {b1 : Addr} {w_a : Addr} {w_e : Addr} {locs : List Loc} {y19 : Nat → Int32} {y20 : Nat → Int32} {y21 : Nat → Int32} {y22 : Nat → Int32} {y23 : Nat → Int32} (C0 : own_Cx p s m meth c Z a0 prog_23_method_1_code 4 ς0 "<init>" none) (X0 : Stand p l e ({ frames := 4, cells := 7, slots := 61, locals := 3073 } : Room) s m args below meth c T0 locs 0 0) (e0 : T0.heap = h0) (N0 : Fr n0 locs) (hnd : s.methodNamed? own_lx = some m)  (Z0 : n0 ≤ h0.size) (P0 : Exa Z h0 b0 ς0) (P1 : Fld Z h0 b0 ς0 "predicate" ς9 .null) (P2 : Fld Z h0 b0 ς0 "data" "[I" .null) (P3 : Fld Z h0 b0 ς0 "removed" "[Z" .null) (P4 : Fld Z h0 b0 ς0 "facts" ς5 .null) (P5 : Fld Z h0 b0 ς0 "indexes" ς10 .null) (P6 : Fld Z h0 b0 ς0 "number" "I" (.int 0)) (P7 : Fld Z h0 b0 ς0 "arity" "I" (.int 0)) (P8 : Fld Z h0 b0 ς0 "size" "I" (.int 0)) (P9 : Exa Z h0 b1 ς4) (P10 : Fld Z h0 b1 ς4 "arity" "I" (.int 1)) (P11 : Sta Z h0 ς3 "DEFAULTCAPACITY_EMPTY_ELEMENTDATA" "[Ljava/lang/Object;" (.ref w_e)) (ge_b0 : n0 ≤ b0) (hL : own_LF n0 Z h0 w_a) (hy19 : y19 = ri_g19  ) (hy20 : y20 = ri_g20  ) (hy21 : y21 = ri_g21  ) (hy22 : y22 = ri_g22  ) (hy23 : y23 = ri_g23  ) :
    own_Dn p e below s (ri_Q Z b0 b1 w_a w_e y19 y20 y21 y22 y23 h0 n0) ({ frames := 4, cells := 7, slots := 61, locals := 3073 } : Room).cells ({ frames := 4, cells := 7, slots := 61, locals := 3073 } : Room).slots (T0.setTop (mkF m 0 #[ρ b0, ρ b1, ι 0, υ] [])) := by
  obtain ⟨hx, hZ, hw, hby, hml, hown, hret, hlk, hnm⟩ := id C0
  refine own_st (fun _ k => XS.aloadN X0.here hx rfl (hb hby ri_d0) rfl rfl k) ?_
  show own_Dn p e below s _ _ _ (T0.setTop (mkF m 1 #[ρ b0, ρ b1, ι 0, υ] [(.ref b0)]))
  obtain ⟨T315, X315, e315, st315⟩ := initO X0 hx hZ hown (own_w hw 33 rfl) (own_w hw 24 rfl) (own_w hw 25 rfl) e0 (g := (mkF m 1 #[ρ b0, ρ b1, ι 0, υ] [(.ref b0)])) rfl (by rw [hml]; rfl) rfl (hb hby ri_d1) (by decide) (W := 0) (by show 2 * 0 + _ ≤ _; exact Nat.le_of_eq rfl) (by decide)
  refine own_st st315 ?_
  show own_Dn p e below s _ _ _ (T315.setTop (mkF m 4 #[ρ b0, ρ b1, ι 0, υ] []))
  refine own_st (fun _ k => XS.aloadN X315.here hx rfl (hb hby ri_d4) rfl rfl k) ?_
  show own_Dn p e below s _ _ _ (T315.setTop (mkF m 5 #[ρ b0, ρ b1, ι 0, υ] [(.ref b0)]))
  obtain ⟨T316, h316, X316, e316, E316, A316, D316, -, st316⟩ := newO X315 hx hZ hown (own_w hw 34 rfl) (own_w hw 35 rfl) (own_w hw 36 rfl) e315 (g := (mkF m 5 #[ρ b0, ρ b1, ι 0, υ] [(.ref b0)])) rfl (hb hby ri_d5) (by decide) (by decide)
  obtain ⟨o5, g316⟩ : ∃ z, z = h0.size := ⟨_, rfl⟩
  rw [← g316] at A316 D316 st316
  have ne317 : b0 ≠ o5 := Nat.ne_of_lt (Nat.lt_of_lt_of_le P0.lt (Nat.le_of_eq g316.symm))
  have ne318 : b1 ≠ o5 := Nat.ne_of_lt (Nat.lt_of_lt_of_le P9.lt (Nat.le_of_eq g316.symm))
  have ge319 : n0 ≤ o5 := Nat.le_trans Z0 (Nat.le_of_eq g316.symm)
  have gh320 : h0.size ≤ o5 := Nat.le_trans (Keep.refl h0 [b0]).1 (Nat.le_of_eq g316.symm)
  have F321 : n0 ≤ h316.size := Nat.le_trans Z0 E316.1
  have F322 := P0.ext E316
  have F323 := P1.ext E316
  have F324 := P2.ext E316
  have F325 := P3.ext E316
  have F326 := P4.ext E316
  have F327 := P5.ext E316
  have F328 := P6.ext E316
  have F329 := P7.ext E316
  have F330 := P8.ext E316
  have F331 := P9.ext E316
  have F332 := P10.ext E316
  have F333 := P11.ext E316
  have F334 : Keep h0 h316 [b0] := (Keep.refl h0 [b0]).ext E316
  have F335 : Fld Z h316 o5 ς6 "modCount" "I" (.int 0) := D316 (Or.inl (own_w hw 54 rfl)) (ty := .int) (by decide)
  have F336 : Fld Z h316 o5 ς3 "elementData" "[Ljava/lang/Object;" .null := D316 (Or.inl (own_w hw 57 rfl)) (ty := (.array (.object "java/lang/Object"))) (by decide)
  have F337 : Fld Z h316 o5 ς3 "size" "I" (.int 0) := D316 (Or.inl (own_w hw 196 rfl)) (ty := .int) (by decide)
  refine own_st st316 ?_
  show own_Dn p e below s _ _ _ (T316.setTop (mkF m 8 #[ρ b0, ρ b1, ι 0, υ] [(.ref o5), (.ref b0)]))
  refine own_st (fun _ k => XS.dup X316.here hx rfl (hb hby ri_d8) rfl rfl k) ?_
  show own_Dn p e below s _ _ _ (T316.setTop (mkF m 9 #[ρ b0, ρ b1, ι 0, υ] [(.ref o5), (.ref o5), (.ref b0)]))
  obtain ⟨_, _, ⟨T338, L338, k338, n338⟩, -, X338, ⟨Lc338, hQ338, l338, y338, z338⟩, st338⟩ := X316.specialBack hx (y := (⟨ς3, "<init>", "()V"⟩ : MethodName)) rfl hown (mvT hZ (own_w hw 37 rfl)) (mvT hZ (own_w hw 38 rfl)) (mvT hZ (own_w hw 39 rfl)) (by decide) (backOf (W := 2) (ai_rm l Z a0 hw [] (o5) (w_e) h316 n0 F321 A316 F335 F336 F337 F333 ge319) hZ (own_w hw 39 rfl) (own_w hw 36 rfl) (by decide) (by decide)) (g := (mkF m 9 #[ρ b0, ρ b1, ι 0, υ] [(.ref o5), (.ref o5), (.ref b0)])) rfl (by rw [hml]; rfl) (Steps.refl _) (a := o5) (argsL := []) (rest := [(.ref o5), (.ref b0)]) (lenOf own_pd9 rfl) rfl (by show 2 * 0 + _ ≤ _; exact Nat.le_of_eq rfl) (hb hby ri_d9) (fun _ _ => ⟨rfl, e316, (by decide : 1 + 0 ≤ _), (by decide : 3 + 0 ≤ _)⟩)
  dsimp only [Pt.U, Pt.locs, Pt.cells, Pt.slots] at X338 l338 y338 z338 st338 hQ338
  subst l338 y338 z338
  obtain ⟨rfl, N338q, K338, G339, G340, G341⟩ := hQ338
  have F342 : n0 ≤ T338.heap.size := Nat.le_trans F321 K338.1
  have F343 := F322.keep K338
  have F344 := F323.keep K338 (ninS ne317 nin0)
  have F345 := F324.keep K338 (ninS ne317 nin0)
  have F346 := F325.keep K338 (ninS ne317 nin0)
  have F347 := F326.keep K338 (ninS ne317 nin0)
  have F348 := F327.keep K338 (ninS ne317 nin0)
  have F349 := F328.keep K338 (ninS ne317 nin0)
  have F350 := F329.keep K338 (ninS ne317 nin0)
  have F351 := F330.keep K338 (ninS ne317 nin0)
  have F352 := F331.keep K338
  have F353 := F332.keep K338 (ninS ne318 nin0)
  have F354 := own_Sta_keep F333 K338 A316
  have F355 : Keep h0 T338.heap [b0] := F334.trans K338 (allS (Or.inr gh320) all0)
  have F356 := A316.keep K338
  have N338 := Fr.app N0 N338q
  refine own_tr st338 ?_
  show own_Dn p e below s _ _ _ (T338.setTop (mkF m 12 #[ρ b0, ρ b1, ι 0, υ] [(.ref o5), (.ref b0)]))
  obtain ⟨T357, h357, X357, e357, W357, st357⟩ := putF X338 hx hZ hown (host := "") (Or.inl (own_w hw 58 rfl)) Via.refl rfl F348 F343 (Or.inr ⟨(own_w hw 59 rfl), rfl, hnm⟩) (own_w hw 2 rfl) (ty := (.object "java/util/List")) (v := (.ref o5)) (by decide) rfl rfl (g := (mkF m 12 #[ρ b0, ρ b1, ι 0, υ] [(.ref o5), (.ref b0)])) rfl rfl (hb hby ri_d12)
  have N357 := Fr.snoc X357 N338 ge_b0
  have F358 : n0 ≤ h357.size := Nat.le_trans F342 (Keep.of_wr W357).1
  have F359 := F343.wr W357
  have F360 := F344.other W357 (Or.inr (slot_ne (Or.inr (own_w hw 61 rfl)) (Or.inr (own_w hw 59 rfl)) (by decide) (t := (.object ς4)) (t' := (.object "java/util/List")) (by decide) (by decide)))
  have F361 := F345.other W357 (Or.inr (slot_ne (Or.inl (own_w hw 76 rfl)) (Or.inr (own_w hw 59 rfl)) (by decide) (t := (.array .int)) (t' := (.object "java/util/List")) (by decide) (by decide)))
  have F362 := F346.other W357 (Or.inr (slot_ne (Or.inl (own_w hw 141 rfl)) (Or.inr (own_w hw 59 rfl)) (by decide) (t := (.array .boolean)) (t' := (.object "java/util/List")) (by decide) (by decide)))
  have F363 := F347.other W357 (Or.inr (slot_ne (Or.inr (own_w hw 113 rfl)) (Or.inr (own_w hw 59 rfl)) (by decide) (t := (.object ς1)) (t' := (.object "java/util/List")) (by decide) (by decide)))
  have F364 : Fld Z h357 b0 ς0 "indexes" ς10 (.ref o5) := F348.same W357
  have F365 := F349.other W357 (Or.inr (slot_ne (Or.inr (own_w hw 63 rfl)) (Or.inr (own_w hw 59 rfl)) (by decide) (t := .int) (t' := (.object "java/util/List")) (by decide) (by decide)))
  have F366 := F350.other W357 (Or.inr (slot_ne (Or.inr (own_w hw 70 rfl)) (Or.inr (own_w hw 59 rfl)) (by decide) (t := .int) (t' := (.object "java/util/List")) (by decide) (by decide)))
  have F367 := F351.other W357 (Or.inr (slot_ne (Or.inl (own_w hw 135 rfl)) (Or.inr (own_w hw 59 rfl)) (by decide) (t := .int) (t' := (.object "java/util/List")) (by decide) (by decide)))
  have F368 := F352.wr W357
  have F369 := F353.other W357 (Or.inl (ne_exa F352 F343 (by decide)))
  have F370 : Keep h0 h357 [b0] := F355.wr W357 (Or.inl (List.mem_of_getElem? (i := 0) rfl))
  have F371 := G339.wr W357
  have F372 := G340.other W357 (Or.inl (Ne.symm ne317))
  have F373 := G341.other W357 (Or.inl (Ne.symm ne317))
  refine own_st st357 ?_
  show own_Dn p e below s _ _ _ (T357.setTop (mkF m 15 #[ρ b0, ρ b1, ι 0, υ] []))
  refine own_st (fun _ k => XS.aloadN X357.here hx rfl (hb hby ri_d15) rfl rfl (XS.aloadN X357.here hx rfl (hb hby ri_d16) rfl rfl k)) ?_
  show own_Dn p e below s _ _ _ (T357.setTop (mkF m 17 #[ρ b0, ρ b1, ι 0, υ] [(.ref b1), (.ref b0)]))
  obtain ⟨T374, h374, X374, e374, W374, st374⟩ := putF X357 hx hZ hown (host := "") (Or.inl (own_w hw 60 rfl)) Via.refl e357 F360 F359 (Or.inr ⟨(own_w hw 61 rfl), rfl, hnm⟩) (own_w hw 2 rfl) (ty := (.object ς4)) (v := (.ref b1)) (by decide) rfl rfl (g := (mkF m 17 #[ρ b0, ρ b1, ι 0, υ] [(.ref b1), (.ref b0)])) rfl rfl (hb hby ri_d17)
  have N374 := Fr.snoc X374 N357 ge_b0
  have F375 : n0 ≤ h374.size := Nat.le_trans F358 (Keep.of_wr W374).1
  have F376 := F359.wr W374
  have F377 : Fld Z h374 b0 ς0 "predicate" ς9 (.ref b1) := F360.same W374
  have F378 := F361.other W374 (Or.inr (slot_ne (Or.inl (own_w hw 76 rfl)) (Or.inr (own_w hw 61 rfl)) (by decide) (t := (.array .int)) (t' := (.object ς4)) (by decide) (by decide)))
  have F379 := F362.other W374 (Or.inr (slot_ne (Or.inl (own_w hw 141 rfl)) (Or.inr (own_w hw 61 rfl)) (by decide) (t := (.array .boolean)) (t' := (.object ς4)) (by decide) (by decide)))
  have F380 := F363.other W374 (Or.inr (slot_ne (Or.inr (own_w hw 113 rfl)) (Or.inr (own_w hw 61 rfl)) (by decide) (t := (.object ς1)) (t' := (.object ς4)) (by decide) (by decide)))
  have F381 := F364.other W374 (Or.inr (slot_ne (Or.inr (own_w hw 59 rfl)) (Or.inr (own_w hw 61 rfl)) (by decide) (t := (.object "java/util/List")) (t' := (.object ς4)) (by decide) (by decide)))
  have F382 := F365.other W374 (Or.inr (slot_ne (Or.inr (own_w hw 63 rfl)) (Or.inr (own_w hw 61 rfl)) (by decide) (t := .int) (t' := (.object ς4)) (by decide) (by decide)))
  have F383 := F366.other W374 (Or.inr (slot_ne (Or.inr (own_w hw 70 rfl)) (Or.inr (own_w hw 61 rfl)) (by decide) (t := .int) (t' := (.object ς4)) (by decide) (by decide)))
  have F384 := F367.other W374 (Or.inr (slot_ne (Or.inl (own_w hw 135 rfl)) (Or.inr (own_w hw 61 rfl)) (by decide) (t := .int) (t' := (.object ς4)) (by decide) (by decide)))
  have F385 := F368.wr W374
  have F386 := F369.other W374 (Or.inl (ne_exa F368 F359 (by decide)))
  have F387 : Keep h0 h374 [b0] := F370.wr W374 (Or.inl (List.mem_of_getElem? (i := 0) rfl))
  have F388 := F371.wr W374
  have F389 := F372.other W374 (Or.inl (Ne.symm ne317))
  have F390 := F373.other W374 (Or.inl (Ne.symm ne317))
  refine own_st st374 ?_
  show own_Dn p e below s _ _ _ (T374.setTop (mkF m 20 #[ρ b0, ρ b1, ι 0, υ] []))
  refine own_st (fun _ k => XS.aloadN X374.here hx rfl (hb hby ri_d20) rfl rfl (XS.iloadN X374.here hx rfl (hb hby ri_d21) rfl k)) ?_
  show own_Dn p e below s _ _ _ (T374.setTop (mkF m 22 #[ρ b0, ρ b1, ι 0, υ] [(.int 0), (.ref b0)]))
  obtain ⟨T391, h391, X391, e391, W391, st391⟩ := putF X374 hx hZ hown (host := "") (Or.inl (own_w hw 62 rfl)) Via.refl e374 F382 F376 (Or.inr ⟨(own_w hw 63 rfl), rfl, hnm⟩) (own_w hw 2 rfl) (ty := .int) (v := (.int 0)) (by decide) rfl rfl (g := (mkF m 22 #[ρ b0, ρ b1, ι 0, υ] [(.int 0), (.ref b0)])) rfl rfl (hb hby ri_d22)
  have N391 := Fr.snoc X391 N374 ge_b0
  have F392 : n0 ≤ h391.size := Nat.le_trans F375 (Keep.of_wr W391).1
  have F393 := F376.wr W391
  have F394 := F377.other W391 (Or.inr (slot_ne (Or.inr (own_w hw 61 rfl)) (Or.inr (own_w hw 63 rfl)) (by decide) (t := (.object ς4)) (t' := .int) (by decide) (by decide)))
  have F395 := F378.other W391 (Or.inr (slot_ne (Or.inl (own_w hw 76 rfl)) (Or.inr (own_w hw 63 rfl)) (by decide) (t := (.array .int)) (t' := .int) (by decide) (by decide)))
  have F396 := F379.other W391 (Or.inr (slot_ne (Or.inl (own_w hw 141 rfl)) (Or.inr (own_w hw 63 rfl)) (by decide) (t := (.array .boolean)) (t' := .int) (by decide) (by decide)))
  have F397 := F380.other W391 (Or.inr (slot_ne (Or.inr (own_w hw 113 rfl)) (Or.inr (own_w hw 63 rfl)) (by decide) (t := (.object ς1)) (t' := .int) (by decide) (by decide)))
  have F398 := F381.other W391 (Or.inr (slot_ne (Or.inr (own_w hw 59 rfl)) (Or.inr (own_w hw 63 rfl)) (by decide) (t := (.object "java/util/List")) (t' := .int) (by decide) (by decide)))
  have F399 : Fld Z h391 b0 ς0 "number" "I" (.int 0) := F382.same W391
  have F400 := F383.other W391 (Or.inr (slot_ne (Or.inr (own_w hw 70 rfl)) (Or.inr (own_w hw 63 rfl)) (by decide) (t := .int) (t' := .int) (by decide) (by decide)))
  have F401 := F384.other W391 (Or.inr (slot_ne (Or.inl (own_w hw 135 rfl)) (Or.inr (own_w hw 63 rfl)) (by decide) (t := .int) (t' := .int) (by decide) (by decide)))
  have F402 := F385.wr W391
  have F403 := F386.other W391 (Or.inl (ne_exa F385 F376 (by decide)))
  have F404 : Keep h0 h391 [b0] := F387.wr W391 (Or.inl (List.mem_of_getElem? (i := 0) rfl))
  have F405 := F388.wr W391
  have F406 := F389.other W391 (Or.inl (Ne.symm ne317))
  have F407 := F390.other W391 (Or.inl (Ne.symm ne317))
  refine own_st st391 ?_
  show own_Dn p e below s _ _ _ (T391.setTop (mkF m 25 #[ρ b0, ρ b1, ι 0, υ] []))
  refine own_st (fun _ k => XS.aloadN X391.here hx rfl (hb hby ri_d25) rfl rfl (XS.aloadN X391.here hx rfl (hb hby ri_d26) rfl rfl k)) ?_
  show own_Dn p e below s _ _ _ (T391.setTop (mkF m 27 #[ρ b0, ρ b1, ι 0, υ] [(.ref b1), (.ref b0)]))
  obtain ⟨cq408, kq408, q408a, q408b, q408c⟩ := isOf hZ e391 F402
  obtain ⟨_, _, ⟨T408, L408, k408, n408⟩, -, X408, ⟨Lc408, hQ408, l408, y408, z408⟩, st408⟩ := X391.virtualBack hx (y := (⟨ς4, "arity", "()I"⟩ : MethodName)) (z := (⟨ς4, "arity", "()I"⟩ : MethodName)) hown (mvT hZ (own_w hw 64 rfl)) (mvT hZ (own_w hw 65 rfl)) (notFace_of_selects (args := #[]) (mvT hZ (own_w hw 67 rfl))) (mvT hZ (own_w hw 67 rfl)) (mvT hZ (own_w hw 66 rfl)) (by decide) (backOf (W := 1) (pa_rm l Z a0 hw [] (b1) h391 n0 F392 F403) hZ (own_w hw 68 rfl) (own_w hw 6 rfl) (by decide) (by decide)) q408a q408c (g := (mkF m 27 #[ρ b0, ρ b1, ι 0, υ] [(.ref b1), (.ref b0)])) rfl (by rw [hml]; rfl) (Steps.refl _) (argsL := []) (rest := [(.ref b0)]) (lenOf own_pd11 rfl) rfl (by show 2 * 0 + _ ≤ _; exact Nat.le_of_eq rfl) (hb hby ri_d27) (fun _ _ => ⟨rfl, e391, (by decide : 1 + 0 ≤ _), (by decide : 3 + 0 ≤ _)⟩)
  dsimp only [Pt.U, Pt.locs, Pt.cells, Pt.slots] at X408 l408 y408 z408 st408 hQ408
  subst l408 y408 z408
  obtain ⟨rfl, N408q, e408⟩ := hQ408
  have N408 := Fr.app N391 N408q
  refine own_tr st408 ?_
  show own_Dn p e below s _ _ _ (T408.setTop (mkF m 30 #[ρ b0, ρ b1, ι 0, υ] [(.int 1), (.ref b0)]))
  obtain ⟨T409, h409, X409, e409, W409, st409⟩ := putF X408 hx hZ hown (host := "") (Or.inl (own_w hw 69 rfl)) Via.refl e408 F400 F393 (Or.inr ⟨(own_w hw 70 rfl), rfl, hnm⟩) (own_w hw 2 rfl) (ty := .int) (v := (.int 1)) (by decide) rfl rfl (g := (mkF m 30 #[ρ b0, ρ b1, ι 0, υ] [(.int 1), (.ref b0)])) rfl rfl (hb hby ri_d30)
  have N409 := Fr.snoc X409 N408 ge_b0
  have F410 : n0 ≤ h409.size := Nat.le_trans F392 (Keep.of_wr W409).1
  have F411 := F393.wr W409
  have F412 := F394.other W409 (Or.inr (slot_ne (Or.inr (own_w hw 61 rfl)) (Or.inr (own_w hw 70 rfl)) (by decide) (t := (.object ς4)) (t' := .int) (by decide) (by decide)))
  have F413 := F395.other W409 (Or.inr (slot_ne (Or.inl (own_w hw 76 rfl)) (Or.inr (own_w hw 70 rfl)) (by decide) (t := (.array .int)) (t' := .int) (by decide) (by decide)))
  have F414 := F396.other W409 (Or.inr (slot_ne (Or.inl (own_w hw 141 rfl)) (Or.inr (own_w hw 70 rfl)) (by decide) (t := (.array .boolean)) (t' := .int) (by decide) (by decide)))
  have F415 := F397.other W409 (Or.inr (slot_ne (Or.inr (own_w hw 113 rfl)) (Or.inr (own_w hw 70 rfl)) (by decide) (t := (.object ς1)) (t' := .int) (by decide) (by decide)))
  have F416 := F398.other W409 (Or.inr (slot_ne (Or.inr (own_w hw 59 rfl)) (Or.inr (own_w hw 70 rfl)) (by decide) (t := (.object "java/util/List")) (t' := .int) (by decide) (by decide)))
  have F417 := F399.other W409 (Or.inr (slot_ne (Or.inr (own_w hw 63 rfl)) (Or.inr (own_w hw 70 rfl)) (by decide) (t := .int) (t' := .int) (by decide) (by decide)))
  have F418 : Fld Z h409 b0 ς0 "arity" "I" (.int 1) := F400.same W409
  have F419 := F401.other W409 (Or.inr (slot_ne (Or.inl (own_w hw 135 rfl)) (Or.inr (own_w hw 70 rfl)) (by decide) (t := .int) (t' := .int) (by decide) (by decide)))
  have F420 := F402.wr W409
  have F421 := F403.other W409 (Or.inl (ne_exa F402 F393 (by decide)))
  have F422 : Keep h0 h409 [b0] := F404.wr W409 (Or.inl (List.mem_of_getElem? (i := 0) rfl))
  have F423 := F405.wr W409
  have F424 := F406.other W409 (Or.inl (Ne.symm ne317))
  have F425 := F407.other W409 (Or.inl (Ne.symm ne317))
  refine own_st st409 ?_
  show own_Dn p e below s _ _ _ (T409.setTop (mkF m 33 #[ρ b0, ρ b1, ι 0, υ] []))
  refine own_st (fun _ k => XS.aloadN X409.here hx rfl (hb hby ri_d33) rfl rfl (XS.bipush X409.here hx rfl (hb hby ri_d34) (XS.iconst X409.here hx rfl (hb hby ri_d36) (XS.aloadN X409.here hx rfl (hb hby ri_d37) rfl rfl k)))) ?_
  show own_Dn p e below s _ _ _ (T409.setTop (mkF m 38 #[ρ b0, ρ b1, ι 0, υ] [(.ref b0), (.int 1), (.int 16), (.ref b0)]))
  obtain ⟨T426, X426, e426, st426⟩ := getF X409 hx hZ hown (host := "") (Or.inl (own_w hw 69 rfl)) Via.refl e409 F418 (g := (mkF m 38 #[ρ b0, ρ b1, ι 0, υ] [(.ref b0), (.int 1), (.int 16), (.ref b0)])) rfl rfl (hb hby ri_d38)
  refine own_st st426 ?_
  show own_Dn p e below s _ _ _ (T426.setTop (mkF m 41 #[ρ b0, ρ b1, ι 0, υ] [(.int 1), (.int 1), (.int 16), (.ref b0)]))
  obtain ⟨_, _, ⟨T427, L427, k427, n427⟩, -, X427, ⟨Lc427, hQ427, l427, y427, z427⟩, st427⟩ := Jvm.LawKit.callS X426 hx (y := (⟨"java/lang/Math", "max", "(II)I"⟩ : MethodName)) hown (mvT hZ (own_w hw 71 rfl)) (mvT hZ (own_w hw 72 rfl)) (mvT hZ (own_w hw 73 rfl)) (mvT hZ (own_w hw 74 rfl)) (by decide) (backOf (W := 2) (mx_rm l Z a0 hw [] ((1 : Int32)) ((1 : Int32)) h409 n0) hZ (own_w hw 74 rfl) (own_w hw 73 rfl) (by decide) (by decide)) (g := (mkF m 41 #[ρ b0, ρ b1, ι 0, υ] [(.int 1), (.int 1), (.int 16), (.ref b0)])) rfl (by rw [hml]; rfl) (argsL := [(.int 1), (.int 1)]) (rest := [(.int 16), (.ref b0)]) (lenOf own_pd1 rfl) rfl (by show 2 * 0 + _ ≤ _; exact Nat.le_of_eq rfl) (hb hby ri_d41) (fun _ _ => ⟨rfl, e426, (by decide : 1 + 0 ≤ _), (by decide : 3 + 0 ≤ _)⟩)
  dsimp only [Pt.U, Pt.locs, Pt.cells, Pt.slots] at X427 l427 y427 z427 st427 hQ427
  subst l427 y427 z427
  obtain ⟨rfl, N427q, e427⟩ := hQ427
  have N427 := Fr.app N409 N427q
  refine own_st st427 ?_
  rw [show (mx_f (1 : Int32) (1 : Int32)) = (1 : Int32) from by decide]
  show own_Dn p e below s _ _ _ (T427.setTop (mkF m 44 #[ρ b0, ρ b1, ι 0, υ] [(.int 1), (.int 16), (.ref b0)]))
  refine own_st (fun _ k => XS.imul X427.here hx rfl (hb hby ri_d44) rfl k) ?_
  show own_Dn p e below s _ _ _ (T427.setTop (mkF m 45 #[ρ b0, ρ b1, ι 0, υ] [(.int 16), (.ref b0)]))
  obtain ⟨T428, h428, cA428, X428, e428, E428, A428, st428⟩ := newP X427 hx hZ (aty := .int) (own_w hw 0 rfl) e427 (g := (mkF m 45 #[ρ b0, ρ b1, ι 0, υ] [(.int 16), (.ref b0)])) rfl (hb hby ri_d45) (n := (16 : Int32)) rfl (by decide) (cap := 16) (by decide) (by decide) (by decide) (by decide)
  obtain ⟨o45, g428⟩ : ∃ z, z = h409.size := ⟨_, rfl⟩
  rw [← g428] at A428 st428
  have ne429 : b0 ≠ o45 := Nat.ne_of_lt (Nat.lt_of_lt_of_le F411.lt (Nat.le_of_eq g428.symm))
  have ne430 : b1 ≠ o45 := Nat.ne_of_lt (Nat.lt_of_lt_of_le F420.lt (Nat.le_of_eq g428.symm))
  have ne431 : o5 ≠ o45 := Nat.ne_of_lt (Nat.lt_of_lt_of_le F423.lt (Nat.le_of_eq g428.symm))
  have ge432 : n0 ≤ o45 := Nat.le_trans F410 (Nat.le_of_eq g428.symm)
  have gh433 : h0.size ≤ o45 := Nat.le_trans F422.1 (Nat.le_of_eq g428.symm)
  have F434 : n0 ≤ h428.size := Nat.le_trans F410 E428.1
  have F435 := F411.ext E428
  have F436 := F412.ext E428
  have F437 := F413.ext E428
  have F438 := F414.ext E428
  have F439 := F415.ext E428
  have F440 := F416.ext E428
  have F441 := F417.ext E428
  have F442 := F418.ext E428
  have F443 := F419.ext E428
  have F444 := F420.ext E428
  have F445 := F421.ext E428
  have F446 : Keep h0 h428 [b0] := F422.ext E428
  have F447 := F423.ext E428
  have F448 := F424.ext E428
  have F449 := F425.ext E428
  have F450 : own_Arf Z h428 o45 .int 16 (fun i => (.int ((fun _ => (0 : Int32)) i))) := own_Arf.new A428 (by decide) (by decide)
  refine own_st st428 ?_
  show own_Dn p e below s _ _ _ (T428.setTop (mkF m 47 #[ρ b0, ρ b1, ι 0, υ] [(.ref o45), (.ref b0)]))
  obtain ⟨T451, h451, X451, e451, W451, st451⟩ := putF X428 hx hZ hown (host := "") (Or.inl (own_w hw 75 rfl)) Via.refl e428 F437 F435 (Or.inl (own_w hw 76 rfl)) (own_w hw 2 rfl) (ty := (.array .int)) (v := (.ref o45)) (by decide) rfl rfl (g := (mkF m 47 #[ρ b0, ρ b1, ι 0, υ] [(.ref o45), (.ref b0)])) rfl rfl (hb hby ri_d47)
  have N451 := Fr.snoc X451 N427 ge_b0
  have F452 : n0 ≤ h451.size := Nat.le_trans F434 (Keep.of_wr W451).1
  have F453 := F435.wr W451
  have F454 := F436.other W451 (Or.inr (slot_ne (Or.inr (own_w hw 61 rfl)) (Or.inl (own_w hw 76 rfl)) (by decide) (t := (.object ς4)) (t' := (.array .int)) (by decide) (by decide)))
  have F455 : Fld Z h451 b0 ς0 "data" "[I" (.ref o45) := F437.same W451
  have F456 := F438.other W451 (Or.inr (slot_ne (Or.inl (own_w hw 141 rfl)) (Or.inl (own_w hw 76 rfl)) (by decide) (t := (.array .boolean)) (t' := (.array .int)) (by decide) (by decide)))
  have F457 := F439.other W451 (Or.inr (slot_ne (Or.inr (own_w hw 113 rfl)) (Or.inl (own_w hw 76 rfl)) (by decide) (t := (.object ς1)) (t' := (.array .int)) (by decide) (by decide)))
  have F458 := F440.other W451 (Or.inr (slot_ne (Or.inr (own_w hw 59 rfl)) (Or.inl (own_w hw 76 rfl)) (by decide) (t := (.object "java/util/List")) (t' := (.array .int)) (by decide) (by decide)))
  have F459 := F441.other W451 (Or.inr (slot_ne (Or.inr (own_w hw 63 rfl)) (Or.inl (own_w hw 76 rfl)) (by decide) (t := .int) (t' := (.array .int)) (by decide) (by decide)))
  have F460 := F442.other W451 (Or.inr (slot_ne (Or.inr (own_w hw 70 rfl)) (Or.inl (own_w hw 76 rfl)) (by decide) (t := .int) (t' := (.array .int)) (by decide) (by decide)))
  have F461 := F443.other W451 (Or.inr (slot_ne (Or.inl (own_w hw 135 rfl)) (Or.inl (own_w hw 76 rfl)) (by decide) (t := .int) (t' := (.array .int)) (by decide) (by decide)))
  have F462 := F444.wr W451
  have F463 := F445.other W451 (Or.inl (ne_exa F444 F435 (by decide)))
  have F464 : Keep h0 h451 [b0] := F446.wr W451 (Or.inl (List.mem_of_getElem? (i := 0) rfl))
  have F465 := F447.wr W451
  have F466 := F448.other W451 (Or.inl (Ne.symm ne317))
  have F467 := F449.other W451 (Or.inl (Ne.symm ne317))
  have F468 := F450.other W451 (Ne.symm ne429)
  refine own_st st451 ?_
  show own_Dn p e below s _ _ _ (T451.setTop (mkF m 50 #[ρ b0, ρ b1, ι 0, υ] []))
  refine own_st (fun _ k => XS.aloadN X451.here hx rfl (hb hby ri_d50) rfl rfl k) ?_
  show own_Dn p e below s _ _ _ (T451.setTop (mkF m 51 #[ρ b0, ρ b1, ι 0, υ] [(.ref b0)]))
  obtain ⟨T469, X469, e469, st469⟩ := getF X451 hx hZ hown (host := "") (Or.inl (own_w hw 69 rfl)) Via.refl e451 F460 (g := (mkF m 51 #[ρ b0, ρ b1, ι 0, υ] [(.ref b0)])) rfl rfl (hb hby ri_d51)
  refine own_st st469 ?_
  show own_Dn p e below s _ _ _ (T469.setTop (mkF m 54 #[ρ b0, ρ b1, ι 0, υ] [(.int 1)]))
  obtain ⟨T470, h470, cA470, X470, e470, E470, A470, st470⟩ := newP X469 hx hZ (aty := .int) (own_w hw 0 rfl) e469 (g := (mkF m 54 #[ρ b0, ρ b1, ι 0, υ] [(.int 1)])) rfl (hb hby ri_d54) (n := (1 : Int32)) rfl (by decide) (cap := 1) (by decide) (by decide) (by decide) (by decide)
  obtain ⟨o54, g470⟩ : ∃ z, z = h451.size := ⟨_, rfl⟩
  rw [← g470] at A470 st470
  have ne471 : b0 ≠ o54 := Nat.ne_of_lt (Nat.lt_of_lt_of_le F453.lt (Nat.le_of_eq g470.symm))
  have ne472 : b1 ≠ o54 := Nat.ne_of_lt (Nat.lt_of_lt_of_le F462.lt (Nat.le_of_eq g470.symm))
  have ne473 : o5 ≠ o54 := Nat.ne_of_lt (Nat.lt_of_lt_of_le F465.lt (Nat.le_of_eq g470.symm))
  have ne474 : o45 ≠ o54 := Nat.ne_of_lt (Nat.lt_of_lt_of_le F468.lt (Nat.le_of_eq g470.symm))
  have ge475 : n0 ≤ o54 := Nat.le_trans F452 (Nat.le_of_eq g470.symm)
  have gh476 : h0.size ≤ o54 := Nat.le_trans F464.1 (Nat.le_of_eq g470.symm)
  have F477 : n0 ≤ h470.size := Nat.le_trans F452 E470.1
  have F478 := F453.ext E470
  have F479 := F454.ext E470
  have F480 := F455.ext E470
  have F481 := F456.ext E470
  have F482 := F457.ext E470
  have F483 := F458.ext E470
  have F484 := F459.ext E470
  have F485 := F460.ext E470
  have F486 := F461.ext E470
  have F487 := F462.ext E470
  have F488 := F463.ext E470
  have F489 : Keep h0 h470 [b0] := F464.ext E470
  have F490 := F465.ext E470
  have F491 := F466.ext E470
  have F492 := F467.ext E470
  have F493 := F468.ext E470
  have F494 : own_Arf Z h470 o54 .int 1 (fun i => (.int ((fun _ => (0 : Int32)) i))) := own_Arf.new A470 (by decide) (by decide)
  refine own_st st470 ?_
  show own_Dn p e below s _ _ _ (T470.setTop (mkF m 56 #[ρ b0, ρ b1, ι 0, υ] [(.ref o54)]))
  refine own_st (fun _ k => XS.astoreN X470.here hx rfl (hb hby ri_d56) rfl rfl (l' := #[ρ b0, ρ b1, ι 0, ρ o54]) rfl (XS.aloadN X470.here hx rfl (hb hby ri_d57) rfl rfl k)) ?_
  show own_Dn p e below s _ _ _ (T470.setTop (mkF m 58 #[ρ b0, ρ b1, ι 0, ρ o54] [(.ref o54)]))
  refine own_st (own_site X470 hx hZ hnd hL (g := (mkF m 58 #[ρ b0, ρ b1, ι 0, ρ o54] [(.ref o54)])) rfl rfl (by rw [hml]; rfl) (hb hby ri_d58) (Nat.le_of_ble_eq_true rfl)) ?_
  show own_Dn p e below s _ _ _ (T470.setTop (mkF m 63 #[ρ b0, ρ b1, ι 0, ρ o54] [(.ref w_a), (.ref o54)]))
  obtain ⟨_, _, ⟨T495, L495, k495, n495⟩, -, X495, ⟨Lc495, hQ495, l495, y495, z495⟩, st495⟩ := Jvm.LawKit.callS X470 hx (y := (⟨"java/util/Arrays", "setAll", "([ILjava/util/function/IntUnaryOperator;)V"⟩ : MethodName)) hown (mvT hZ (own_w hw 80 rfl)) (mvT hZ (own_w hw 81 rfl)) (mvT hZ (own_w hw 82 rfl)) (mvT hZ (own_w hw 83 rfl)) (by decide) (backOf (W := 0) (sa_rm l Z a0 hw [] (o54) (w_a) ((fun _ => (0 : Int32))) h470 n0 F477 F494 ge475 (own_LF.keep hL F489 (allS ge_b0 all0))) hZ (own_w hw 83 rfl) (own_w hw 82 rfl) (by decide) (by decide)) (g := (mkF m 63 #[ρ b0, ρ b1, ι 0, ρ o54] [(.ref w_a), (.ref o54)])) rfl (by rw [hml]; rfl) (argsL := [(.ref o54), (.ref w_a)]) (rest := []) (lenOf own_pd12 rfl) rfl (by show 2 * 0 + _ ≤ _; exact Nat.le_of_eq rfl) (hb hby ri_d63) (fun _ _ => ⟨rfl, e470, (by decide : 3 + 0 ≤ _), (by decide : 20 + 0 ≤ _)⟩)
  dsimp only [Pt.U, Pt.locs, Pt.cells, Pt.slots] at X495 l495 y495 z495 st495 hQ495
  subst l495 y495 z495
  obtain ⟨rfl, N495q, K495, G496⟩ := hQ495
  have F497 : n0 ≤ T495.heap.size := Nat.le_trans F477 K495.1
  have F498 := F478.keep K495
  have F499 := F479.keep K495 (ninS ne471 nin0)
  have F500 := F480.keep K495 (ninS ne471 nin0)
  have F501 := F481.keep K495 (ninS ne471 nin0)
  have F502 := F482.keep K495 (ninS ne471 nin0)
  have F503 := F483.keep K495 (ninS ne471 nin0)
  have F504 := F484.keep K495 (ninS ne471 nin0)
  have F505 := F485.keep K495 (ninS ne471 nin0)
  have F506 := F486.keep K495 (ninS ne471 nin0)
  have F507 := F487.keep K495
  have F508 := F488.keep K495 (ninS ne472 nin0)
  have F509 : Keep h0 T495.heap [b0] := F489.trans K495 (allS (Or.inr gh476) all0)
  have F510 := F490.keep K495
  have F511 := F491.keep K495 (ninS ne473 nin0)
  have F512 := F492.keep K495 (ninS ne473 nin0)
  have F513 := F493.keep K495 (ninS ne474 nin0)
  have N495 := Fr.app N451 N495q
  refine own_st st495 ?_
  show own_Dn p e below s _ _ _ (T495.setTop (mkF m 66 #[ρ b0, ρ b1, ι 0, ρ o54] []))
  refine own_st (fun _ k => XS.aloadN X495.here hx rfl (hb hby ri_d66) rfl rfl k) ?_
  show own_Dn p e below s _ _ _ (T495.setTop (mkF m 67 #[ρ b0, ρ b1, ι 0, ρ o54] [(.ref b0)]))
  obtain ⟨T514, h514, X514, e514, E514, A514, D514, -, st514⟩ := newO X495 hx hZ hown (own_w hw 93 rfl) (own_w hw 94 rfl) (own_w hw 95 rfl) rfl (g := (mkF m 67 #[ρ b0, ρ b1, ι 0, ρ o54] [(.ref b0)])) rfl (hb hby ri_d67) (by decide) (by decide)
  obtain ⟨o67, g514⟩ : ∃ z, z = T495.heap.size := ⟨_, rfl⟩
  rw [← g514] at A514 D514 st514
  have ne515 : b0 ≠ o67 := Nat.ne_of_lt (Nat.lt_of_lt_of_le F498.lt (Nat.le_of_eq g514.symm))
  have ne516 : b1 ≠ o67 := Nat.ne_of_lt (Nat.lt_of_lt_of_le F507.lt (Nat.le_of_eq g514.symm))
  have ne517 : o5 ≠ o67 := Nat.ne_of_lt (Nat.lt_of_lt_of_le F510.lt (Nat.le_of_eq g514.symm))
  have ne518 : o45 ≠ o67 := Nat.ne_of_lt (Nat.lt_of_lt_of_le F513.lt (Nat.le_of_eq g514.symm))
  have ne519 : o54 ≠ o67 := Nat.ne_of_lt (Nat.lt_of_lt_of_le G496.lt (Nat.le_of_eq g514.symm))
  have ge520 : n0 ≤ o67 := Nat.le_trans F497 (Nat.le_of_eq g514.symm)
  have gh521 : h0.size ≤ o67 := Nat.le_trans F509.1 (Nat.le_of_eq g514.symm)
  have F522 : n0 ≤ h514.size := Nat.le_trans F497 E514.1
  have F523 := F498.ext E514
  have F524 := F499.ext E514
  have F525 := F500.ext E514
  have F526 := F501.ext E514
  have F527 := F502.ext E514
  have F528 := F503.ext E514
  have F529 := F504.ext E514
  have F530 := F505.ext E514
  have F531 := F506.ext E514
  have F532 := F507.ext E514
  have F533 := F508.ext E514
  have F534 : Keep h0 h514 [b0] := F509.ext E514
  have F535 := F510.ext E514
  have F536 := F511.ext E514
  have F537 := F512.ext E514
  have F538 := F513.ext E514
  have F539 := G496.ext E514
  have F540 : Fld Z h514 o67 ς1 "this$0" ς2 .null := D514 (Or.inr (own_w hw 100 rfl)) (ty := (.object ς0)) (by decide)
  have F541 : Fld Z h514 o67 ς1 "firsts" "[I" .null := D514 (Or.inl (own_w hw 103 rfl)) (ty := (.array .int)) (by decide)
  have F542 : Fld Z h514 o67 ς1 "lasts" "[I" .null := D514 (Or.inl (own_w hw 105 rfl)) (ty := (.array .int)) (by decide)
  have F543 : Fld Z h514 o67 ς1 "positions" "[I" .null := D514 (Or.inr (own_w hw 107 rfl)) (ty := (.array .int)) (by decide)
  have F544 : Fld Z h514 o67 ς1 "next" "[I" .null := D514 (Or.inl (own_w hw 109 rfl)) (ty := (.array .int)) (by decide)
  have F545 : Fld Z h514 o67 ς1 "rowKey" "[I" .null := D514 (Or.inr (own_w hw 111 rfl)) (ty := (.array .int)) (by decide)
  have F546 : Fld Z h514 o67 ς1 "previous" "[I" .null := D514 (Or.inl (own_w hw 156 rfl)) (ty := (.array .int)) (by decide)
  have F547 : Fld Z h514 o67 ς1 "keys" "I" (.int 0) := D514 (Or.inl (own_w hw 158 rfl)) (ty := .int) (by decide)
  refine own_st st514 ?_
  show own_Dn p e below s _ _ _ (T514.setTop (mkF m 70 #[ρ b0, ρ b1, ι 0, ρ o54] [(.ref o67), (.ref b0)]))
  refine own_st (fun _ k => XS.dup X514.here hx rfl (hb hby ri_d70) rfl rfl (XS.aloadN X514.here hx rfl (hb hby ri_d71) rfl rfl (XS.aloadN X514.here hx rfl (hb hby ri_d72) rfl rfl (XS.iconst X514.here hx rfl (hb hby ri_d73) k)))) ?_
  show own_Dn p e below s _ _ _ (T514.setTop (mkF m 74 #[ρ b0, ρ b1, ι 0, ρ o54] [(.int 0), (.ref o54), (.ref b0), (.ref o67), (.ref o67), (.ref b0)]))
  obtain ⟨cq548, q548, q548x⟩ := A514.cell
  obtain ⟨_, ⟨T548, L548, k548, n548⟩, X548, ⟨Lc548, hQ548, l548, y548, z548⟩, st548⟩ := own_refInit (y := (⟨ς1, "<init>", "(Lcom/example/chasebound/chasebound/chase/Relation;[IZ)V"⟩ : MethodName)) X514 hx hZ hown (own_w hw 96 rfl) (own_w hw 97 rfl) (own_w hw 98 rfl) (own_w hw 94 rfl) (by decide) (backOf (W := 2) (ii_rm l Z a0 hw [] (o67) (b0) (o54) ((sa_g0 (fun _ => (0 : Int32)))) h514 n0 F522 A514 F540 F543 F541 F542 F545 F544 F546 F547 F539 ge520 (Ne.symm ne519)) hZ (own_w hw 98 rfl) (own_w hw 95 rfl) (by decide) (by decide)) (g := (mkF m 74 #[ρ b0, ρ b1, ι 0, ρ o54] [(.int 0), (.ref o54), (.ref b0), (.ref o67), (.ref o67), (.ref b0)])) rfl (by rw [hml]; rfl) (a := o67) (by rw [show T514.heap = h514 from e514]; exact q548) q548x (argsL := [(.ref b0), (.ref o54), (.int 0)]) (rest := [(.ref o67), (.ref b0)]) (lenOf own_pd13 rfl) rfl (by show 2 * 0 + _ ≤ _; exact Nat.le_of_eq rfl) (hb hby ri_d74) ⟨rfl, e514, (by decide : 4 + 3 ≤ _), (by decide : 28 + 33 ≤ _)⟩
  dsimp only [Pt.U, Pt.locs, Pt.cells, Pt.slots] at X548 l548 y548 z548 st548 hQ548
  subst l548 y548 z548
  obtain ⟨rfl, N548q, K548, r1_74, r2_74, r3_74, ge548_0, ge548_1, ge548_2, or548_0, or548_1, or548_2, ne548_0_1, ne548_0_2, ne548_1_2, nb548_0, nb548_1, nb548_2, G549, G550, G551, G552, G553, G554, G555, G556, G557, G558, G559, G560⟩ := hQ548
  have ne561 : b0 ≠ r1_74 := own_ne_or or548_0 F523.lt (ninS ne515 nin0)
  have ne562 : b0 ≠ r2_74 := own_ne_or or548_1 F523.lt (ninS ne515 nin0)
  have ne563 : b0 ≠ r3_74 := own_ne_or or548_2 F523.lt (ninS ne515 nin0)
  have ne564 : b1 ≠ r1_74 := own_ne_or or548_0 F532.lt (ninS ne516 nin0)
  have ne565 : b1 ≠ r2_74 := own_ne_or or548_1 F532.lt (ninS ne516 nin0)
  have ne566 : b1 ≠ r3_74 := own_ne_or or548_2 F532.lt (ninS ne516 nin0)
  have ne567 : o5 ≠ r1_74 := own_ne_or or548_0 F535.lt (ninS ne517 nin0)
  have ne568 : o5 ≠ r2_74 := own_ne_or or548_1 F535.lt (ninS ne517 nin0)
  have ne569 : o5 ≠ r3_74 := own_ne_or or548_2 F535.lt (ninS ne517 nin0)
  have ne570 : o45 ≠ r1_74 := own_ne_or or548_0 F538.lt (ninS ne518 nin0)
  have ne571 : o45 ≠ r2_74 := own_ne_or or548_1 F538.lt (ninS ne518 nin0)
  have ne572 : o45 ≠ r3_74 := own_ne_or or548_2 F538.lt (ninS ne518 nin0)
  have ne573 : o54 ≠ r1_74 := own_ne_or or548_0 F539.lt (ninS ne519 nin0)
  have ne574 : o54 ≠ r2_74 := own_ne_or or548_1 F539.lt (ninS ne519 nin0)
  have ne575 : o54 ≠ r3_74 := own_ne_or or548_2 F539.lt (ninS ne519 nin0)
  have or576 : r1_74 ∈ [b0] ∨ h0.size ≤ r1_74 := own_or_up or548_0 F534.1 (allS (Or.inr gh521) all0)
  have or577 : r2_74 ∈ [b0] ∨ h0.size ≤ r2_74 := own_or_up or548_1 F534.1 (allS (Or.inr gh521) all0)
  have or578 : r3_74 ∈ [b0] ∨ h0.size ≤ r3_74 := own_or_up or548_2 F534.1 (allS (Or.inr gh521) all0)
  have F579 : n0 ≤ T548.heap.size := Nat.le_trans F522 K548.1
  have F580 := F523.keep K548
  have F581 := F524.keep K548 (ninS ne515 nin0)
  have F582 := F525.keep K548 (ninS ne515 nin0)
  have F583 := F526.keep K548 (ninS ne515 nin0)
  have F584 := F527.keep K548 (ninS ne515 nin0)
  have F585 := F528.keep K548 (ninS ne515 nin0)
  have F586 := F529.keep K548 (ninS ne515 nin0)
  have F587 := F530.keep K548 (ninS ne515 nin0)
  have F588 := F531.keep K548 (ninS ne515 nin0)
  have F589 := F532.keep K548
  have F590 := F533.keep K548 (ninS ne516 nin0)
  have F591 : Keep h0 T548.heap [b0] := F534.trans K548 (allS (Or.inr gh521) all0)
  have F592 := F535.keep K548
  have F593 := F536.keep K548 (ninS ne517 nin0)
  have F594 := F537.keep K548 (ninS ne517 nin0)
  have F595 := F538.keep K548 (ninS ne518 nin0)
  have F596 := F539.keep K548 (ninS ne519 nin0)
  have F597 := A514.keep K548
  have N548 := Fr.app N495 N548q
  refine own_tr st548 ?_
  show own_Dn p e below s _ _ _ (T548.setTop (mkF m 77 #[ρ b0, ρ b1, ι 0, ρ o54] [(.ref o67), (.ref b0)]))
  obtain ⟨T598, h598, X598, e598, W598, st598⟩ := putF X548 hx hZ hown (host := "") (Or.inl (own_w hw 112 rfl)) Via.refl rfl F584 F580 (Or.inr ⟨(own_w hw 113 rfl), rfl, hnm⟩) (own_w hw 2 rfl) (ty := (.object ς1)) (v := (.ref o67)) (by decide) rfl rfl (g := (mkF m 77 #[ρ b0, ρ b1, ι 0, ρ o54] [(.ref o67), (.ref b0)])) rfl rfl (hb hby ri_d77)
  have N598 := Fr.snoc X598 N548 ge_b0
  have F599 : n0 ≤ h598.size := Nat.le_trans F579 (Keep.of_wr W598).1
  have F600 := F580.wr W598
  have F601 := F581.other W598 (Or.inr (slot_ne (Or.inr (own_w hw 61 rfl)) (Or.inr (own_w hw 113 rfl)) (by decide) (t := (.object ς4)) (t' := (.object ς1)) (by decide) (by decide)))
  have F602 := F582.other W598 (Or.inr (slot_ne (Or.inl (own_w hw 76 rfl)) (Or.inr (own_w hw 113 rfl)) (by decide) (t := (.array .int)) (t' := (.object ς1)) (by decide) (by decide)))
  have F603 := F583.other W598 (Or.inr (slot_ne (Or.inl (own_w hw 141 rfl)) (Or.inr (own_w hw 113 rfl)) (by decide) (t := (.array .boolean)) (t' := (.object ς1)) (by decide) (by decide)))
  have F604 : Fld Z h598 b0 ς0 "facts" ς5 (.ref o67) := F584.same W598
  have F605 := F585.other W598 (Or.inr (slot_ne (Or.inr (own_w hw 59 rfl)) (Or.inr (own_w hw 113 rfl)) (by decide) (t := (.object "java/util/List")) (t' := (.object ς1)) (by decide) (by decide)))
  have F606 := F586.other W598 (Or.inr (slot_ne (Or.inr (own_w hw 63 rfl)) (Or.inr (own_w hw 113 rfl)) (by decide) (t := .int) (t' := (.object ς1)) (by decide) (by decide)))
  have F607 := F587.other W598 (Or.inr (slot_ne (Or.inr (own_w hw 70 rfl)) (Or.inr (own_w hw 113 rfl)) (by decide) (t := .int) (t' := (.object ς1)) (by decide) (by decide)))
  have F608 := F588.other W598 (Or.inr (slot_ne (Or.inl (own_w hw 135 rfl)) (Or.inr (own_w hw 113 rfl)) (by decide) (t := .int) (t' := (.object ς1)) (by decide) (by decide)))
  have F609 := F589.wr W598
  have F610 := F590.other W598 (Or.inl (ne_exa F589 F580 (by decide)))
  have F611 : Keep h0 h598 [b0] := F591.wr W598 (Or.inl (List.mem_of_getElem? (i := 0) rfl))
  have F612 := F592.wr W598
  have F613 := F593.other W598 (Or.inl (Ne.symm ne317))
  have F614 := F594.other W598 (Or.inl (Ne.symm ne317))
  have F615 := F595.other W598 (Ne.symm ne429)
  have F616 := F596.other W598 (Ne.symm ne471)
  have F617 := G549.wr W598
  have F618 := G550.other W598 (Or.inl (Ne.symm ne515))
  have F619 := G551.other W598 (Or.inl (Ne.symm ne515))
  have F620 := G552.other W598 (Or.inl (Ne.symm ne515))
  have F621 := G553.other W598 (Or.inl (Ne.symm ne515))
  have F622 := G554.other W598 (Or.inl (Ne.symm ne515))
  have F623 := G555.other W598 (Or.inl (Ne.symm ne515))
  have F624 := G556.other W598 (Or.inl (Ne.symm ne515))
  have F625 := G557.other W598 (Or.inl (Ne.symm ne515))
  have F626 := G558.other W598 (Ne.symm ne561)
  have F627 := G559.other W598 (Ne.symm ne562)
  have F628 := G560.other W598 (Ne.symm ne563)
  refine own_st st598 ?_
  show own_Dn p e below s _ _ _ (T598.setTop (mkF m 80 #[ρ b0, ρ b1, ι 0, ρ o54] []))
  have eqH : T598.heap = h598 := e598
  exact own_retV X598 hx hret hlk (hb hby ri_d80) (by decide) (by decide) (by rw [eqH]; exact ⟨rfl, N598, F611, o45, o67, o5, o54, r1_74, r2_74, r3_74, ge432, ge520, ge319, ge475, ge548_0, ge548_1, ge548_2, (Or.inr gh433), (Or.inr gh521), (Or.inr gh320), (Or.inr gh476), or576, or577, or578, ne518, (Ne.symm ne431), ne474, ne570, ne571, ne572, (Ne.symm ne517), (Ne.symm ne519), nb548_0, nb548_1, nb548_2, ne473, ne567, ne568, ne569, ne573, ne574, ne575, ne548_0_1, ne548_0_2, ne548_1_2, ne429, ne515, ne317, ne471, ne561, ne562, ne563, F600, F602, F607, F604, F605, F603, F608, F617, F618, F619, F620, F621, F622, F623, F624, F625, F612, F613, F614, (by rw [hy19]; exact F615), (by rw [hy20]; exact F616), (by rw [hy21]; exact F626), (by rw [hy22]; exact F627), (by rw [hy23]; exact F628)⟩)
theorem ri_ef (m : MethodId) (b0 : Addr) (b1 : Addr) : entryFrame m #[(.ref b0), (.ref b1), (.int 0)] 4 = mkF m 0 #[.val (.ref b0), .val (.ref b1), .val (.int 0), .unset] [] := by first | (simp [entryFrame, mkF, argsToLocals, Value.category]; done) | rfl
theorem ri_rm (l : Launch) (Z : State) (a0 : Array Value) (hw : ∀ d ∈ tables_1, d.before a0 Z = true) (ws : List Jvm.Cond) (b0 : Addr) (b1 : Addr) (w_a : Addr) (w_e : Addr) (h0 : Heap) (n0 : Nat) (Z0 : n0 ≤ h0.size) (P0 : Exa Z h0 b0 ς0) (P1 : Fld Z h0 b0 ς0 "predicate" ς9 .null) (P2 : Fld Z h0 b0 ς0 "data" "[I" .null) (P3 : Fld Z h0 b0 ς0 "removed" "[Z" .null) (P4 : Fld Z h0 b0 ς0 "facts" ς5 .null) (P5 : Fld Z h0 b0 ς0 "indexes" ς10 .null) (P6 : Fld Z h0 b0 ς0 "number" "I" (.int 0)) (P7 : Fld Z h0 b0 ς0 "arity" "I" (.int 0)) (P8 : Fld Z h0 b0 ς0 "size" "I" (.int 0)) (P9 : Exa Z h0 b1 ς4) (P10 : Fld Z h0 b1 ς4 "arity" "I" (.int 1)) (P11 : Sta Z h0 ς3 "DEFAULTCAPACITY_EMPTY_ELEMENTDATA" "[Ljava/lang/Object;" (.ref w_e)) (ge_b0 : n0 ≤ b0) (hL : own_LF n0 Z h0 w_a) :
    MetFree l (⟨ς0, "<init>", "(Lcom/example/chasebound/chasebound/rules/Predicate;I)V"⟩ : MethodName) (head1 (Jvm.Cond.code (⟨ς0, "<init>", "(Lcom/example/chasebound/chasebound/rules/Predicate;I)V"⟩ : MethodName) prog_23_method_1_code 4 none :: ws) ({ frames := 4, cells := 7, slots := 61, locals := 3073 } : Room)) (fun a U => a = #[(.ref b0), (.ref b1), (.int 0)] ∧ Z.Warmed39 U.vm ∧ U.heap = h0) (fun _ _ _ _ _ => True) (fun _ U o U' => ∃ v L, o = .returned v ∧ ri_Q Z b0 b1 w_a w_e (ri_g19 ) (ri_g20 ) (ri_g21 ) (ri_g22 ) (ri_g23 ) h0 n0 v U'.heap L ∧ FrameEnd U o U' L ({ frames := 4, cells := 7, slots := 61, locals := 3073 } : Room).cells ({ frames := 4, cells := 7, slots := 61, locals := 3073 } : Room).slots) :=
  own_metN hw (plainFor_of_name (by first | (simp [plainName, overriddenIn]; done) | decide +kernel)) (fun p e s m below meth c T0 C0 X0 e0 hnd => own_st (fun _ k => castTop (ri_ef m b0 b1) k) (ri_c0 C0 X0 e0 (Fr.nil n0) hnd Z0 P0 P1 P2 P3 P4 P5 P6 P7 P8 P9 P10 P11 ge_b0 hL rfl rfl rfl rfl rfl))
def own_ds (a b : Nat) : Nat := (b + 16 - a) % 16
def own_T (G hm : Nat → Nat) (R : Nat → Prop) : Prop := (∀ i, i < 16 → G i ≠ 0 → G i ≤ 4 ∧ R (G i - 1)) ∧ (∀ i j, i < 16 → j < 16 → G i ≠ 0 → G i = G j → i = j) ∧
  ∀ r, R r → r < 4 ∧ ∃ t, t < 16 ∧ G t = r + 1 ∧ ∀ j, j < own_ds (hm r) t → G ((hm r + j) % 16) ≠ 0
def own_un (G : Nat → Nat) (j v i : Nat) : Nat := if i = j then v else G i
theorem own_T_empty {G hm : Nat → Nat} {R : Nat → Prop} (T : own_T G hm R) : ∃ i, i < 16 ∧ G i = 0 := by
  by_cases h0 : G 0 = 0
  · exact ⟨0, by decide, h0⟩
  by_cases h1 : G 1 = 0
  · exact ⟨1, by decide, h1⟩
  by_cases h2 : G 2 = 0
  · exact ⟨2, by decide, h2⟩
  by_cases h3 : G 3 = 0
  · exact ⟨3, by decide, h3⟩
  by_cases h4 : G 4 = 0
  · exact ⟨4, by decide, h4⟩
  have b0 := (T.1 0 (by decide) h0).1
  have b1 := (T.1 1 (by decide) h1).1
  have b2 := (T.1 2 (by decide) h2).1
  have b3 := (T.1 3 (by decide) h3).1
  have b4 := (T.1 4 (by decide) h4).1
  have ne : ∀ i j, i < 16 → j < 16 → G i ≠ 0 → i ≠ j → G i ≠ G j := fun i j hi hj hg hn e => hn (T.2.1 i j hi hj hg e)
  have n01 := ne 0 1 (by decide) (by decide) h0 (by decide)
  have n02 := ne 0 2 (by decide) (by decide) h0 (by decide)
  have n03 := ne 0 3 (by decide) (by decide) h0 (by decide)
  have n04 := ne 0 4 (by decide) (by decide) h0 (by decide)
  have n12 := ne 1 2 (by decide) (by decide) h1 (by decide)
  have n13 := ne 1 3 (by decide) (by decide) h1 (by decide)
  have n14 := ne 1 4 (by decide) (by decide) h1 (by decide)
  have n23 := ne 2 3 (by decide) (by decide) h2 (by decide)
  have n24 := ne 2 4 (by decide) (by decide) h2 (by decide)
  have n34 := ne 3 4 (by decide) (by decide) h3 (by decide)
  omega
theorem own_T_add {G hm : Nat → Nat} {R : Nat → Prop} {r d : Nat} (T : own_T G hm R) (hr : r < 4) (hn : ¬ R r) (hh : ∀ x, hm x < 16) (hd : d < 16) (hz : G ((hm r + d) % 16) = 0) (hp : ∀ j, j < d → G ((hm r + j) % 16) ≠ 0) :
    own_T (own_un G ((hm r + d) % 16) (r + 1)) hm (fun x => R x ∨ x = r) := by
  refine ⟨fun i hi h => ?_, fun i j hi hj h e => ?_, fun x hx => ?_⟩
  · simp only [own_un] at h ⊢
    by_cases q : i = (hm r + d) % 16
    · rw [if_pos q]; exact ⟨by omega, Or.inr (by omega)⟩
    · rw [if_neg q] at h ⊢
      exact ⟨(T.1 i hi h).1, Or.inl (T.1 i hi h).2⟩
  · simp only [own_un] at h e
    by_cases q : i = (hm r + d) % 16
    · by_cases q2 : j = (hm r + d) % 16
      · rw [q, q2]
      · rw [if_pos q, if_neg q2] at e
        have := (T.1 j hj (by omega)).2
        rw [← e] at this
        exact absurd this hn
    · rw [if_neg q] at h e
      by_cases q2 : j = (hm r + d) % 16
      · rw [if_pos q2] at e
        have := (T.1 i hi h).2
        rw [e] at this
        exact absurd this hn
      · rw [if_neg q2] at e
        exact T.2.1 i j hi hj h e
  · have hr' := hh r
    by_cases q : x = r
    · subst q
      refine ⟨hr, (hm x + d) % 16, by omega, by simp only [own_un, if_true], fun j hj => ?_⟩
      simp only [own_ds] at hj
      have e : j < d := by omega
      simp only [own_un]
      split
      · omega
      · exact hp j e
    · obtain ⟨x4, t, ht, hg, hpath⟩ := T.2.2 x (hx.resolve_right q)
      have hx' := hh x
      refine ⟨x4, t, ht, ?_, fun j hj => ?_⟩
      · simp only [own_un]
        by_cases q2 : t = (hm r + d) % 16
        · rw [q2] at hg; omega
        · rw [if_neg q2]; exact hg
      · simp only [own_un]
        split
        · omega
        · exact hpath j hj
def own_LT (G hm : Nat → Nat) (R : Nat → Prop) (H S : Nat) : Prop := (∀ i, i < 16 → i ≠ H → G i ≠ 0 → G i ≤ 4 ∧ R (G i - 1)) ∧ (∀ i j, i < 16 → j < 16 → i ≠ H → j ≠ H → G i ≠ 0 → G i = G j → i = j) ∧
  ∀ r, R r → r < 4 ∧ ∃ t, t < 16 ∧ t ≠ H ∧ G t = r + 1 ∧ (∀ j, j < own_ds (hm r) t → (hm r + j) % 16 = H ∨ G ((hm r + j) % 16) ≠ 0) ∧ (0 < own_ds H t → own_ds H t < own_ds H S → own_ds (hm r) t ≤ own_ds (hm r) H)
theorem own_LT_start {G hm : Nat → Nat} {R : Nat → Prop} {r p : Nat} (T : own_T G hm R) (hp : p < 16) (hg : G p = r + 1) : own_LT (own_un G p 0) hm (fun x => R x ∧ x ≠ r) p ((p + 1) % 16) := by
  refine ⟨fun i hi hn h => ?_, fun i j hi hj hn hm' h e => ?_, fun x hx => ?_⟩
  · simp only [own_un, if_neg hn] at h ⊢
    obtain ⟨q1, q2⟩ := T.1 i hi h
    refine ⟨q1, q2, fun q => hn (T.2.1 i p hi hp h (by omega))⟩
  · simp only [own_un, if_neg hn, if_neg hm'] at h e
    exact T.2.1 i j hi hj h e
  · obtain ⟨x4, t, ht, hgt, hpath⟩ := T.2.2 x hx.1
    have tp : t ≠ p := fun q => hx.2 (by rw [q, hg] at hgt; omega)
    refine ⟨x4, t, ht, tp, by simp only [own_un, if_neg tp]; exact hgt, fun j hj => ?_, fun h1 h2 => ?_⟩
    · by_cases q : (hm x + j) % 16 = p
      · exact Or.inl q
      · refine Or.inr ?_
        simp only [own_un, if_neg q]
        exact hpath j hj
    · simp only [own_ds] at h1 h2; omega
theorem own_LT_end {G hm : Nat → Nat} {R : Nat → Prop} {H S : Nat} (hh : ∀ x, hm x < 16) (hH : H < 16) (hS : S < 16) (ne : H ≠ S) (L : own_LT G hm R H S) (hz : G S = 0) : own_T (own_un G H 0) hm R := by
  refine ⟨fun i hi h => ?_, fun i j hi hj h e => ?_, fun r hr => ?_⟩
  · by_cases q : i = H
    · simp only [own_un, if_pos q] at h; exact absurd rfl h
    · simp only [own_un, if_neg q] at h ⊢
      exact L.1 i hi q h
  · by_cases q : i = H
    · simp only [own_un, if_pos q] at h; exact absurd rfl h
    · by_cases q2 : j = H
      · simp only [own_un, if_neg q, if_pos q2] at h e; exact absurd e h
      · simp only [own_un, if_neg q, if_neg q2] at h e
        exact L.2.1 i j hi hj q q2 h e
  · obtain ⟨r4, t, ht, tH, hg, hpath, hsc⟩ := L.2.2 r hr
    have h16 := hh r
    have tS : t ≠ S := fun q => by rw [q, hz] at hg; omega
    refine ⟨r4, t, ht, by simp only [own_un, if_neg tH]; exact hg, fun j hj => ?_⟩
    have nH : (hm r + j) % 16 ≠ H := fun q => by
      by_cases sc : own_ds H t < own_ds H S
      · have a := hsc (by simp only [own_ds]; omega) sc
        simp only [own_ds] at hj a; omega
      · have b := hpath (own_ds (hm r) S) (by simp only [own_ds] at hj sc ⊢; omega)
        have e : (hm r + own_ds (hm r) S) % 16 = S := by simp only [own_ds]; omega
        rw [e] at b
        exact b.elim (fun z => ne z.symm) (fun z => z hz)
    simp only [own_un, if_neg nH]
    exact (hpath j hj).resolve_left nH
theorem own_LT_stay {G hm : Nat → Nat} {R : Nat → Prop} {H S : Nat} (hh : ∀ x, hm x < 16) (hH : H < 16) (hS : S < 16) (ne : H ≠ S) (ne2 : (S + 1) % 16 ≠ H) (L : own_LT G hm R H S) (hz : G S ≠ 0) (st : 0 < own_ds H (hm (G S - 1)) ∧ own_ds H (hm (G S - 1)) ≤ own_ds H S) : own_LT G hm R H ((S + 1) % 16) := by
  refine ⟨L.1, L.2.1, fun r hr => ?_⟩
  obtain ⟨r4, t, ht, tH, hg, hpath, hsc⟩ := L.2.2 r hr
  have h16 := hh r
  refine ⟨r4, t, ht, tH, hg, hpath, fun h1 h2 => ?_⟩
  by_cases q : t = S
  · subst q
    rw [hg, show r + 1 - 1 = r by omega] at st
    simp only [own_ds] at st ⊢; omega
  · exact hsc h1 (by simp only [own_ds] at h2 h1 ⊢; omega)
theorem own_LT_move {G hm : Nat → Nat} {R : Nat → Prop} {H S : Nat} (hh : ∀ x, hm x < 16) (hH : H < 16) (hS : S < 16) (ne : H ≠ S) (L : own_LT G hm R H S) (hz : G S ≠ 0) (st : ¬ (0 < own_ds H (hm (G S - 1)) ∧ own_ds H (hm (G S - 1)) ≤ own_ds H S)) : own_LT (own_un G H (G S)) hm R S ((S + 1) % 16) := by
  refine ⟨fun i hi hn h => ?_, fun i j hi hj hn hn2 h e => ?_, fun r hr => ?_⟩
  · by_cases q : i = H
    · simp only [own_un, if_pos q]; exact L.1 S hS (Ne.symm ne) hz
    · simp only [own_un, if_neg q] at h ⊢; exact L.1 i hi q h
  · by_cases q : i = H
    · by_cases q2 : j = H
      · rw [q, q2]
      · simp only [own_un, if_pos q, if_neg q2] at e
        exact absurd (L.2.1 S j hS hj (Ne.symm ne) q2 hz e).symm hn2
    · by_cases q2 : j = H
      · simp only [own_un, if_neg q, if_pos q2] at h e
        exact absurd (L.2.1 i S hi hS q (Ne.symm ne) h e) hn
      · simp only [own_un, if_neg q, if_neg q2] at h e
        exact L.2.1 i j hi hj q q2 h e
  · obtain ⟨r4, t, ht, tH, hg, hpath, hsc⟩ := L.2.2 r hr
    have h16 := hh r
    by_cases q : t = S
    · subst q
      rw [hg, show r + 1 - 1 = r by omega] at st
      refine ⟨r4, H, hH, ne, by simp only [own_un, if_true]; exact hg, fun j hj => ?_, fun h1 h2 => ?_⟩
      · have a := hpath j (by simp only [own_ds] at hj st ⊢; omega)
        have b : (hm r + j) % 16 ≠ H := by simp only [own_ds] at hj; omega
        refine Or.inr ?_
        simp only [own_un, if_neg b]
        exact a.resolve_left b
      · simp only [own_ds] at h1 h2; omega
    · refine ⟨r4, t, ht, q, by simp only [own_un, if_neg tH]; exact hg, fun j hj => ?_, fun h1 h2 => ?_⟩
      · rcases hpath j hj with a | a
        · refine Or.inr ?_
          simp only [own_un, if_pos a]; exact hz
        · by_cases b : (hm r + j) % 16 = H
          · refine Or.inr ?_
            simp only [own_un, if_pos b]; exact hz
          · refine Or.inr ?_
            simp only [own_un, if_neg b]; exact a
      · simp only [own_ds] at h1 h2; omega
def own_N (F : Nat → Int32) (i : Nat) : Nat := (F i).toNatClampNeg
def own_hD (D : Nat → Int32) (r : Nat) : Nat := (own_hm (D r)).toNatClampNeg
def own_S (F D : Nat → Int32) (R : Nat → Prop) : Prop := own_E4 F ∧ own_T (own_N F) (own_hD D) R
theorem own_hD_lt (D : Nat → Int32) (r : Nat) : own_hD D r < 16 := own_lt16 (own_and15 _)
theorem own_N_z {F : Nat → Int32} (h : own_E4 F) {i : Nat} (hi : i < 16) : own_N F i = 0 ↔ F i = 0 := by
  have b := h i hi
  constructor
  · intro q
    simp only [own_N, Int32.toNatClampNeg] at q
    exact Int32.toInt_inj.mp (by rw [show (0 : Int32).toInt = 0 by decide]; omega)
  · intro q; rw [own_N, q]; decide
theorem own_N_upd (F : Nat → Int32) (j : Nat) (v : Int32) : own_N (own_upd F j v) = own_un (own_N F) j v.toNatClampNeg := by
  funext i
  simp only [own_N, own_upd, own_un]
  split <;> rfl
theorem own_N_row {F : Nat → Int32} (h : own_E4 F) {i : Nat} (hi : i < 16) (hz : ¬ F i = 0) : ((F i) - (1 : Int32)).toNatClampNeg = own_N F i - 1 ∧ 0 < own_N F i := by
  have b := h i hi
  have e := c_isub (F i) 1
  have r := rng32 ((F i) - 1)
  have z : (F i).toInt ≠ 0 := fun q => hz (Int32.toInt_inj.mp (by rw [q]; decide))
  simp only [Int32.reduceToInt] at e
  simp only [own_N, Int32.toNatClampNeg]
  omega
theorem own_S_FB {F D : Nat → Int32} {R : Nat → Prop} (S : own_S F D R) : own_FB F := by
  obtain ⟨i, hi, hz⟩ := own_T_empty S.2
  exact ⟨S.1, i, hi, (own_N_z S.1 hi).mp hz⟩
theorem own_T_hm {G hm hm' : Nat → Nat} {R : Nat → Prop} (T : own_T G hm R) (e : ∀ r, R r → hm' r = hm r) : own_T G hm' R := by
  refine ⟨T.1, T.2.1, fun r hr => ?_⟩
  rw [e r hr]; exact T.2.2 r hr
theorem own_ia19 {F P D L K K' : Nat → Int32} {p c : Int32} : ∀ (k : Nat) (v : Int32), own_iF k F v → ∃ d, d < k ∧ ia_g9_19 k p P D F L K c v K' = own_upd F ((v.toNatClampNeg + d) % 16) (p + (1 : Int32)) ∧ F ((v.toNatClampNeg + d) % 16) = 0 ∧ (∀ j, j < d → ¬ F ((v.toNatClampNeg + j) % 16) = 0) ∧ ia_g8_19 k p P D F L K c v K' = c + (1 : Int32)
  | 0, _, h => absurd h own_iF_zero
  | k + 1, v, h => by
    have l := (own_iF_b h).2
    have e0 : (v.toNatClampNeg + 0) % 16 = v.toNatClampNeg := by omega
    rw [ia_g9_19, ia_g8_19]
    by_cases hc : (F v.toNatClampNeg) = (0 : Int32)
    · refine ⟨0, by omega, ?_, ?_, fun j hj => absurd hj (Nat.not_lt_zero _), ?_⟩
      · rw [if_pos hc, e0]
      · rw [e0]; exact hc
      · rw [if_pos hc]
    · obtain ⟨d, h1, h2, h3, h4, h5⟩ := own_ia19 (P := P) (D := D) (L := L) (K := K) (K' := K') (p := p) (c := c) k _ (own_iF_step h hc)
      have n := own_next ⟨h.2.1, h.2.2.1⟩
      have e : ∀ j, (((v + (1 : Int32)) &&& (15 : Int32)).toNatClampNeg + j) % 16 = (v.toNatClampNeg + (j + 1)) % 16 := fun j => by omega
      rw [if_neg hc, if_neg hc, h2, h5, e d]
      rw [e d] at h3
      refine ⟨d + 1, by omega, rfl, h3, fun j hj => ?_, rfl⟩
      cases j with
      | zero => rw [e0]; exact hc
      | succ j => have := h4 j (by omega); rw [e j] at this; exact this
theorem own_E4_upd {F : Nat → Int32} (h : own_E4 F) (j : Nat) {v : Int32} (hv : 0 ≤ v.toInt ∧ v.toInt ≤ 4) : own_E4 (own_upd F j v) := fun i hi => by
  rw [own_upd]; split
  · exact hv
  · exact h i hi
theorem own_ia {F P D L K : Nat → Int32} {R : Nat → Prop} {p c : Int32} (hP : P 0 = 0) (S : own_S F D R) (hp : 0 ≤ p.toInt ∧ p.toInt < 4) (hn : ¬ R p.toNatClampNeg) :
    own_S (ia_g9 p P D F L K c) D (fun x => R x ∨ x = p.toNatClampNeg) ∧ ia_g8 p P D F L K c = c + (1 : Int32) := by
  have e := own_ha (own_ko p (D := D) (K := K) hP)
  obtain ⟨d, h1, h2, h3, h4, h5⟩ := own_ia19 (P := P) (D := D) (L := L) (K := K) (K' := ko_g0 p P D K) (p := p) (c := c) 16 _ (own_iF_enter (ha_f (ko_g0 p P D K)) (own_S_FB S))
  rw [ia_g9, ia_g8, h2, h5]
  rw [e] at h3 h4 ⊢
  have p1 := own_r1 (r := p) (by omega)
  have pn : (p + 1).toNatClampNeg = p.toNatClampNeg + 1 := by simp only [Int32.toNatClampNeg]; omega
  have p4 : p.toNatClampNeg < 4 := by simp only [Int32.toNatClampNeg]; omega
  refine ⟨⟨own_E4_upd S.1 _ (by omega), ?_⟩, rfl⟩
  rw [own_N_upd, pn]
  have hm : ∀ j, ((own_hm (D p.toNatClampNeg)).toNatClampNeg + j) % 16 < 16 := fun j => Nat.mod_lt _ (by decide)
  exact own_T_add S.2 p4 hn (own_hD_lt D) h1 ((own_N_z S.1 (hm d)).mpr h3) (fun j hj q => h4 j hj ((own_N_z S.1 (hm j)).mp q))
theorem own_add {F P D L K U : Nat → Int32} {R : Nat → Prop} {s c : Int32} (hP : P 0 = 0) (S : own_S F D R) (hs : 0 ≤ s.toInt ∧ s.toInt < 4) (hn : ¬ R s.toNatClampNeg) :
    own_S (ia_g9 s P (own_upd D ((s * (1 : Int32))).toNatClampNeg (U 0)) F L K c) (own_upd D ((s * (1 : Int32))).toNatClampNeg (U 0)) (fun x => R x ∨ x = s.toNatClampNeg) ∧ ia_g8 s P (own_upd D ((s * (1 : Int32))).toNatClampNeg (U 0)) F L K c = c + (1 : Int32) := by
  rw [Int32.mul_one]
  refine own_ia hP ⟨S.1, own_T_hm S.2 fun r hr => ?_⟩ hs hn
  have ne : r ≠ s.toNatClampNeg := fun q => hn (by rw [← q]; exact hr)
  rw [own_hD, own_hD, own_upd, if_neg ne]
theorem own_lti {a b : Int32} (ha : 0 ≤ a.toInt ∧ a.toInt < 16) (hb : 0 ≤ b.toInt ∧ b.toInt < 16) : a < b ↔ a.toNatClampNeg < b.toNatClampNeg := by
  rw [Int32.lt_iff_toInt_lt]; simp only [Int32.toNatClampNeg]; omega
theorem own_rk14 {P D F0 L0 K0 : Nat → Int32} {R : Nat → Prop} {p c : Int32} (hP : P 0 = 0) : ∀ (k : Nat) (v1 v3 : Int32) (F L K : Nat → Int32), own_iR k F v1 v3 → own_LT (own_N F) (own_hD D) R v1.toNatClampNeg v3.toNatClampNeg →
    own_S (rk_g9_14 k p P D F0 L0 K0 c v1 v3 F L K) D R ∧ rk_g8_14 k p P D F0 L0 K0 c v1 v3 F L K = c - (1 : Int32)
  | 0, _, _, _, _, _, h, _ => absurd h own_iR_zero
  | k + 1, v1, v3, F, L, K, h, T => by
    have hb := own_iR_b h
    have n := own_next h.2.2.1
    have ne : v1.toNatClampNeg ≠ v3.toNatClampNeg := by
      obtain ⟨-, -, -, d, -, -, -, hne⟩ := h
      have := hne 0 (Nat.zero_le _)
      omega
    have hh := own_hD_lt D
    rw [rk_g9_14, rk_g8_14]
    by_cases hc : (F v3.toNatClampNeg) = (0 : Int32)
    · rw [if_pos hc, if_pos hc]
      refine ⟨⟨own_E4_upd h.1 _ (by decide), ?_⟩, rfl⟩
      rw [own_N_upd, show (0 : Int32).toNatClampNeg = 0 by decide]
      exact own_LT_end hh hb.1.2 hb.2.2 ne T ((own_N_z h.1 hb.2.2).mpr hc)
    · have nz : own_N F v3.toNatClampNeg ≠ 0 := fun q => hc ((own_N_z h.1 hb.2.2).mp q)
      have hrow := own_N_row h.1 hb.2.2 hc
      have eh : (ha_f (ko_g0 ((F v3.toNatClampNeg) - (1 : Int32)) P D K)) &&& (15 : Int32) = own_hm (D ((F v3.toNatClampNeg) - (1 : Int32)).toNatClampNeg) := own_ha (own_ko _ hP)
      have eq : own_hD D (own_N F v3.toNatClampNeg - 1) = (own_hm (D ((F v3.toNatClampNeg) - (1 : Int32)).toNatClampNeg)).toNatClampNeg := by rw [own_hD, hrow.1]
      have hq := own_and15 (mi_f (((-1640531535 : Int32) * (0 : Int32)) + D ((F v3.toNatClampNeg) - (1 : Int32)).toNatClampNeg))
      have ne2 : (v3.toNatClampNeg + 1) % 16 ≠ v1.toNatClampNeg := by
        obtain ⟨-, -, -, d, -, -, hz, hne⟩ := h
        cases d with
        | zero => exact absurd (by rw [show (v3.toNatClampNeg + 0) % 16 = v3.toNatClampNeg by omega] at hz; exact hz) hc
        | succ d => exact hne 1 (by omega)
      rw [if_neg hc, if_neg hc, eh]
      have stay : (0 < own_ds v1.toNatClampNeg (own_hD D (own_N F v3.toNatClampNeg - 1)) ∧ own_ds v1.toNatClampNeg (own_hD D (own_N F v3.toNatClampNeg - 1)) ≤ own_ds v1.toNatClampNeg v3.toNatClampNeg) → ∀ K', own_S (rk_g9_14 k p P D F0 L0 K0 c v1 ((v3 + (1 : Int32)) &&& (15 : Int32)) F L K') D R ∧ rk_g8_14 k p P D F0 L0 K0 c v1 ((v3 + (1 : Int32)) &&& (15 : Int32)) F L K' = c - (1 : Int32) := fun st K' =>
        own_rk14 hP k _ _ _ _ _ (own_iR_stay h hc) (by rw [n]; exact own_LT_stay hh hb.1.2 hb.2.2 ne ne2 T nz st)
      have move : ¬ (0 < own_ds v1.toNatClampNeg (own_hD D (own_N F v3.toNatClampNeg - 1)) ∧ own_ds v1.toNatClampNeg (own_hD D (own_N F v3.toNatClampNeg - 1)) ≤ own_ds v1.toNatClampNeg v3.toNatClampNeg) → ∀ L' K', own_S (rk_g9_14 k p P D F0 L0 K0 c v3 ((v3 + (1 : Int32)) &&& (15 : Int32)) (own_upd F v1.toNatClampNeg (F v3.toNatClampNeg)) L' K') D R ∧ rk_g8_14 k p P D F0 L0 K0 c v3 ((v3 + (1 : Int32)) &&& (15 : Int32)) (own_upd F v1.toNatClampNeg (F v3.toNatClampNeg)) L' K' = c - (1 : Int32) := fun st L' K' =>
        own_rk14 hP k _ _ _ _ _ (own_iR_move h hc) (by rw [n, own_N_upd]; exact own_LT_move hh hb.1.2 hb.2.2 ne T nz st)
      rw [eq] at stay move
      have hqn : (own_hm (D ((F v3.toNatClampNeg) - (1 : Int32)).toNatClampNeg)).toNatClampNeg < 16 := own_lt16 hq
      have l13 := own_lti h.2.1 h.2.2.1
      have l1q : v1 < own_hm (D ((F v3.toNatClampNeg) - (1 : Int32)).toNatClampNeg) ↔ v1.toNatClampNeg < (own_hm (D ((F v3.toNatClampNeg) - (1 : Int32)).toNatClampNeg)).toNatClampNeg := own_lti h.2.1 hq
      have l3q : v3 < own_hm (D ((F v3.toNatClampNeg) - (1 : Int32)).toNatClampNeg) ↔ v3.toNatClampNeg < (own_hm (D ((F v3.toNatClampNeg) - (1 : Int32)).toNatClampNeg)).toNatClampNeg := own_lti h.2.2.1 hq
      generalize own_hm (D ((F v3.toNatClampNeg) - (1 : Int32)).toNatClampNeg) = q at stay move hqn l1q l3q
      have b1 := hb.1.2
      have b3 := hb.2.2
      by_cases c1 : v1 < v3
      · rw [if_pos c1, if_pos c1]
        have d1 := l13.mp c1
        by_cases c2 : v1 < q
        · rw [if_pos c2, if_pos c2]
          have d2 := l1q.mp c2
          by_cases c3 : v3 < q
          · rw [if_pos c3, if_pos c3]
            have d3 := l3q.mp c3
            exact move (by simp only [own_ds]; omega) _ _
          · rw [if_neg c3, if_neg c3]
            have d3 : ¬ v3.toNatClampNeg < q.toNatClampNeg := fun z => c3 (l3q.mpr z)
            exact stay (by simp only [own_ds]; omega) _
        · rw [if_neg c2, if_neg c2]
          have d2 : ¬ v1.toNatClampNeg < q.toNatClampNeg := fun z => c2 (l1q.mpr z)
          exact move (by simp only [own_ds]; omega) _ _
      · rw [if_neg c1, if_neg c1]
        have d1 : ¬ v1.toNatClampNeg < v3.toNatClampNeg := fun z => c1 (l13.mpr z)
        by_cases c2 : v1 < q
        · rw [if_pos c2, if_pos c2]
          have d2 := l1q.mp c2
          exact stay (by simp only [own_ds]; omega) _
        · rw [if_neg c2, if_neg c2]
          have d2 : ¬ v1.toNatClampNeg < q.toNatClampNeg := fun z => c2 (l1q.mpr z)
          by_cases c3 : v3 < q
          · rw [if_pos c3, if_pos c3]
            have d3 := l3q.mp c3
            exact move (by simp only [own_ds]; omega) _ _
          · rw [if_neg c3, if_neg c3]
            have d3 : ¬ v3.toNatClampNeg < q.toNatClampNeg := fun z => c3 (l3q.mpr z)
            exact stay (by simp only [own_ds]; omega) _
theorem own_ir19 {F P D L K0 : Nat → Int32} {R : Nat → Prop} {p c : Int32} (hP : P 0 = 0) (S : own_S F D R) (hR : R p.toNatClampNeg) (hd : ∀ x y, R x → R y → D x = D y → x = y) : ∀ (k : Nat) (v3 : Int32) (K : Nat → Int32), own_iD k F D K p v3 →
    own_S (ir_g9_19 k p P D F L K0 c v3 K) D (fun x => R x ∧ x ≠ p.toNatClampNeg) ∧ ir_g8_19 k p P D F L K0 c v3 K = c - (1 : Int32)
  | 0, _, _, h => absurd h own_iD_zero
  | k + 1, v3, K, h => by
    rw [ir_g9_19, ir_g8_19]
    by_cases hc : (hk_f ((F v3.toNatClampNeg) - (1 : Int32)) P D K) = (0 : Int32)
    · rw [if_pos hc, if_pos hc]
      exact own_ir19 hP S hR hd k _ K (own_iD_step hP h hc)
    · have nz := own_iD_nz h
      have b := (own_iD_b h).2
      have row := own_N_row S.1 b nz
      have hk := own_hk (r := (F v3.toNatClampNeg) - (1 : Int32)) hP h.2.2.2.1
      have same : D ((F v3.toNatClampNeg) - (1 : Int32)).toNatClampNeg = D p.toNatClampNeg := by
        by_cases q : D ((F v3.toNatClampNeg) - (1 : Int32)).toNatClampNeg = D p.toNatClampNeg
        · exact q
        · rw [hk, if_neg q] at hc; exact absurd rfl hc
      rw [row.1] at same
      have eqr := hd _ _ (S.2.1 _ b (by omega)).2 hR same
      rw [if_neg hc, if_neg hc, rk_g9, rk_g8]
      have n := own_next h.2.2.1
      refine own_rk14 hP 16 _ _ _ _ _ (own_iD_R h) ?_
      rw [n, own_N_upd, show (0 : Int32).toNatClampNeg = 0 by decide]
      exact own_LT_start S.2 b (by omega)
theorem own_S_In {F D : Nat → Int32} {R : Nat → Prop} {p : Int32} (S : own_S F D R) (hp : 0 ≤ p.toInt ∧ p.toInt < 16) (hR : R p.toNatClampNeg) : own_In F 16 (own_hm (D p.toNatClampNeg)) p := by
  obtain ⟨r4, t, ht, hg, hpath⟩ := S.2.2.2 _ hR
  have hh := own_hD_lt D p.toNatClampNeg
  have e : ((own_hm (D p.toNatClampNeg)).toNatClampNeg + own_ds (own_hD D p.toNatClampNeg) t) % 16 = t := by
    simp only [own_ds, own_hD] at hh ⊢; omega
  have b := S.1 t ht
  have p1 := own_r1 hp
  refine ⟨own_ds (own_hD D p.toNatClampNeg) t, by simp only [own_ds]; omega, ?_, fun j hj q => ?_⟩
  · rw [e]
    refine Int32.toInt_inj.mp ?_
    simp only [own_N, Int32.toNatClampNeg] at hg
    omega
  · exact hpath j hj ((own_N_z S.1 (Nat.mod_lt _ (by decide))).mpr q)
theorem own_rem {F P D L K : Nat → Int32} {R : Nat → Prop} {p c : Int32} (hP : P 0 = 0) (S : own_S F D R) (hp : 0 ≤ p.toInt ∧ p.toInt < 16) (hR : R p.toNatClampNeg) (hd : ∀ x y, R x → R y → D x = D y → x = y) :
    own_S (ir_g9 p P D F L K c) D (fun x => R x ∧ x ≠ p.toNatClampNeg) ∧ ir_g8 p P D F L K c = c - (1 : Int32) := by
  rw [ir_g9, ir_g8]
  exact own_ir19 hP S hR hd 16 _ _ (own_iD_enter hP (own_S_FB S) hp (own_S_In S hp hR))
def own_J (x : Int32) (n : Nat) (Rm : List Nat) (F D P : Nat → Int32) : Prop := P 0 = 0 ∧ own_S F D (fun r => r < n ∧ r ∉ Rm) ∧ ∀ r, r < n → D r = x + Int32.ofNat r
def own_B (v : Int32) : Prop := v = (0 : Int32) ∨ v = (1 : Int32)
theorem own_S_R {F D : Nat → Int32} {R R' : Nat → Prop} (S : own_S F D R) (e : ∀ r, R r ↔ R' r) : own_S F D R' := by
  have q : R = R' := funext fun r => propext (e r)
  rw [← q]; exact S
theorem own_ofN {n : Nat} (h : n < 16) : (Int32.ofNat n).toInt = n := len_toInt (by omega)
theorem own_ofNc {n : Nat} (h : n < 16) : (Int32.ofNat n).toNatClampNeg = n := by
  have e := own_ofN h
  simp only [Int32.toNatClampNeg]; omega
theorem own_xj {x : Int32} {a b : Nat} (ha : a < 16) (hb : b < 16) (h : x + Int32.ofNat a = x + Int32.ofNat b) : a = b := by
  have q : Int32.ofNat a = Int32.ofNat b := (Int32.add_right_inj x).mp h
  rw [← own_ofNc ha, ← own_ofNc hb, q]
theorem own_J0 (x : Int32) : own_J x 0 [] (ri_g21) (ri_g19) (ri_g20) := by
  refine ⟨by decide, ⟨fun i _ => ?_, fun i _ h => ?_, fun i j _ _ h => ?_, fun r hr => absurd hr.1 (Nat.not_lt_zero _)⟩, fun r hr => absurd hr (Nat.not_lt_zero _)⟩
  · show 0 ≤ (0 : Int32).toInt ∧ (0 : Int32).toInt ≤ 4
    decide
  · exact absurd (show (0 : Int32).toNatClampNeg = 0 by decide) h
  · exact absurd (show (0 : Int32).toNatClampNeg = 0 by decide) h
section ownJ
variable {x : Int32} {n : Nat} {Rm : List Nat} {F D P L K U : Nat → Int32}
theorem own_J.FB (J : own_J x n Rm F D P) : own_FB F := own_S_FB J.2.1
theorem own_J.RA (J : own_J x n Rm F D P) (hn : n < 4) {s u c : Int32} (hs : s = Int32.ofNat n) (hu : u = x + Int32.ofNat n) (hc : 0 ≤ c.toInt ∧ c.toInt ≤ 4) : own_RA F D s u c := by
  obtain ⟨hP, S, hD⟩ := J
  have e := own_ofN (n := n) (by omega)
  have row : ∀ i, i < 16 → ¬ F i = 0 → ((F i) - (1 : Int32)).toNatClampNeg = own_N F i - 1 ∧ 0 < own_N F i ∧ own_N F i - 1 < n := fun i hi hz => by
    have r := own_N_row S.1 hi hz
    exact ⟨r.1, r.2, (S.2.1 i hi (by omega)).2.1⟩
  refine ⟨own_S_FB S, by rw [hs]; omega, fun i hi => ?_, fun i hi hz => ?_, hc⟩
  · rw [hs]
    by_cases hz : F i = 0
    · rw [hz]; simp only [Int32.reduceToInt]; omega
    · have r := row i hi hz
      have b := S.1 i hi
      simp only [own_N, Int32.toNatClampNeg] at r
      omega
  · have r := row i hi hz
    rw [r.1, hD _ r.2.2, hu]
    intro q
    have := own_xj (by omega) (by omega) q
    omega
theorem own_J.add (J : own_J x n Rm F D P) (hn : n < 4) (hm : n ∉ Rm) {s c : Int32} (hs : s = Int32.ofNat n) (hU : U 0 = x + Int32.ofNat n) :
    own_J x (n + 1) Rm (ia_g9 s P (own_upd D ((s * (1 : Int32))).toNatClampNeg (U 0)) F L K c) (own_upd D ((s * (1 : Int32))).toNatClampNeg (U 0)) P ∧ ia_g8 s P (own_upd D ((s * (1 : Int32))).toNatClampNeg (U 0)) F L K c = c + (1 : Int32) := by
  obtain ⟨hP, S, hD⟩ := J
  have e := own_ofN (n := n) (by omega)
  have e2 : s.toNatClampNeg = n := by rw [hs]; exact own_ofNc (by omega)
  have A := own_add (U := U) (L := L) (K := K) (s := s) (c := c) hP S (by rw [hs]; omega) (fun q => by rw [e2] at q; omega)
  refine ⟨⟨hP, own_S_R A.1 fun r => ?_, fun r hr => ?_⟩, A.2⟩
  · rw [e2]
    constructor
    · rintro (⟨q1, q2⟩ | q)
      · exact ⟨by omega, q2⟩
      · rw [q]; exact ⟨by omega, hm⟩
    · rintro ⟨q1, q2⟩
      by_cases q : r = n
      · exact Or.inr q
      · exact Or.inl ⟨by omega, q2⟩
  · rw [Int32.mul_one, own_upd, e2]
    by_cases q : r = n
    · rw [if_pos q, hU, q]
    · rw [if_neg q]; exact hD r (by omega)
theorem own_J.din (J : own_J x n Rm F D P) {k : Int32} (hp : 0 ≤ k.toInt ∧ k.toInt < 16) (hk : k.toNatClampNeg < n) (hm : k.toNatClampNeg ∉ Rm) : own_In F 16 (own_hm (D k.toNatClampNeg)) k := own_S_In J.2.1 hp ⟨hk, hm⟩
theorem own_J.rem (J : own_J x n Rm F D P) (hn : n < 5) {k c : Int32} (hp : 0 ≤ k.toInt ∧ k.toInt < 16) (hk : k.toNatClampNeg < n) (hm : k.toNatClampNeg ∉ Rm) :
    own_J x n (k.toNatClampNeg :: Rm) (ir_g9 k P D F L K c) D P ∧ ir_g8 k P D F L K c = c - (1 : Int32) := by
  obtain ⟨hP, S, hD⟩ := J
  have A := own_rem (L := L) (K := K) (c := c) hP S hp ⟨hk, hm⟩ (fun a b ha hb q => own_xj (by omega) (by omega) (by rw [hD a ha.1, hD b hb.1] at q; exact q))
  refine ⟨⟨hP, own_S_R A.1 fun r => ?_, hD⟩, A.2⟩
  rw [List.mem_cons, not_or]
  constructor
  · rintro ⟨⟨q1, q2⟩, q3⟩
    exact ⟨q1, q3, q2⟩
  · rintro ⟨q1, q2, q3⟩
    exact ⟨⟨q1, q3⟩, q2⟩
end ownJ
theorem own_V_same (V : Nat → Int32) (k : Int32) : own_upd V k.toNatClampNeg (nar .boolean (1 : Int32)) k.toNatClampNeg = (1 : Int32) := by
  rw [own_upd, if_pos rfl]; decide
theorem own_V_other {V : Nat → Int32} {k j z : Int32} (h : j.toNatClampNeg ≠ k.toNatClampNeg) (e : V j.toNatClampNeg = z) : own_upd V k.toNatClampNeg (nar .boolean (1 : Int32)) j.toNatClampNeg = z := by
  rw [own_upd, if_neg h]; exact e
theorem own_lw0 {j : Int32} {V : Nat → Int32} (e : V j.toNatClampNeg = (0 : Int32)) : (lw_v_f j V) = (1 : Int32) := by rw [lw_v_f, if_pos e]
theorem own_lw1 {j : Int32} {V : Nat → Int32} (e : V j.toNatClampNeg = (1 : Int32)) : (lw_v_f j V) = (0 : Int32) := by rw [lw_v_f, if_neg (by rw [e]; decide)]
theorem own_FldE {Z : State} {h : Heap} {a : Addr} {C f d : String} {v w : Int32} (e : v = w) (F : Fld Z h a C f d (.int v)) : Fld Z h a C f d (.int w) := by rw [← e]; exact F
/-! what is left of it once rows may have gone: fr, rows that have not -/
def own_JE (x : Int32) (fr : List Nat) (F D P : Nat → Int32) : Prop := ∃ Rm : List Nat, (∀ k ∈ fr, k ∉ Rm) ∧ own_J x 3 Rm F D P
section ownJE
variable {x : Int32} {fr fr' : List Nat} {F D P L K U : Nat → Int32}
theorem own_JE.of (J : own_J x 3 [] F D P) : own_JE x fr F D P := ⟨[], (fun _ _ q => nomatch q), J⟩
theorem own_JE.sub (J : own_JE x fr F D P) (h : ∀ k ∈ fr', k ∈ fr) : own_JE x fr' F D P := by
  obtain ⟨Rm, h1, h2⟩ := J
  exact ⟨Rm, fun k hk => h1 k (h k hk), h2⟩
theorem own_JE.P0 (J : own_JE x fr F D P) : P 0 = 0 := by obtain ⟨_, _, h⟩ := J; exact h.1
theorem own_JE.FB (J : own_JE x fr F D P) : own_FB F := by obtain ⟨_, _, h⟩ := J; exact h.FB
theorem own_JE.RA (J : own_JE x fr F D P) {u c : Int32} (hu : u = x + Int32.ofNat 3) (hc : 0 ≤ c.toInt ∧ c.toInt ≤ 3) : own_RA F D (3 : Int32) u c := by
  obtain ⟨_, _, h⟩ := J
  exact h.RA (by decide) rfl hu (by omega)
theorem own_JE.din (J : own_JE x fr F D P) {k : Int32} (hp : 0 ≤ k.toInt ∧ k.toInt < 3) (hk : k.toNatClampNeg ∈ fr) : own_In F 16 (own_hm (D k.toNatClampNeg)) k := by
  obtain ⟨_, h1, h⟩ := J
  exact h.din (by omega) (by simp only [Int32.toNatClampNeg]; omega) (h1 _ hk)
theorem own_JE.rem (J : own_JE x fr F D P) {k c : Int32} (hp : 0 ≤ k.toInt ∧ k.toInt < 3) (hk : k.toNatClampNeg ∈ fr) (hf : ∀ j ∈ fr', j ∈ fr ∧ j ≠ k.toNatClampNeg) :
    own_JE x fr' (ir_g9 k P D F L K c) D P ∧ ir_g8 k P D F L K c = c - (1 : Int32) := by
  obtain ⟨Rm, h1, h⟩ := J
  have A := h.rem (L := L) (K := K) (c := c) (by decide) (by omega) (by simp only [Int32.toNatClampNeg]; omega) (h1 _ hk)
  refine ⟨⟨_, fun j hj => ?_, A.1⟩, A.2⟩
  rw [List.mem_cons, not_or]
  exact ⟨(hf j hj).2, h1 j (hf j hj).1⟩
end ownJE
theorem own_cdec {lo : Int} {c d : Int32} (h : lo + 1 ≤ c.toInt ∧ c.toInt ≤ 3) (h0 : 0 ≤ lo) (e : d = c - (1 : Int32)) : lo ≤ d.toInt ∧ d.toInt ≤ 3 := by
  have f := c_isub c 1
  have r := rng32 (c - 1)
  simp only [Int32.reduceToInt] at f
  rw [e]; omega
theorem own_clo {lo : Int} {c : Int32} (h : lo + 1 ≤ c.toInt ∧ c.toInt ≤ 3) : lo ≤ c.toInt ∧ c.toInt ≤ 3 := by omega
def own_Y (a b : Int32) : Prop := (a = (0 : Int32) ∧ b = (0 : Int32)) ∨ (a = (1 : Int32) ∧ b = (1 : Int32))
def own_X (a b : Int32) : Prop := (a = (0 : Int32) ∧ b = (1 : Int32)) ∨ (a = (1 : Int32) ∧ b = (0 : Int32))
theorem own_Y_up {V : Nat → Int32} {a k j z : Int32} (h : j.toNatClampNeg ≠ k.toNatClampNeg) (y : own_Y a (V j.toNatClampNeg)) : own_Y a (own_upd V k.toNatClampNeg z j.toNatClampNeg) := by
  rw [own_upd, if_neg h]; exact y
theorem own_YX {V : Nat → Int32} {a j : Int32} (y : own_Y a (V j.toNatClampNeg)) : own_X a (lw_v_f j V) := by
  rcases y with ⟨h, e⟩ | ⟨h, e⟩
  · exact Or.inl ⟨h, own_lw0 e⟩
  · exact Or.inr ⟨h, own_lw1 e⟩
/-! own layer: the law's ends (a String constant may have come to be interned) -/
def own_DW (p : Program) (e : Env) (below : List Frame) (s : State) (Q : Option Value → Heap → Vm → List Loc → Prop) (K N : Nat) (A : State) : Prop :=
  ∃ s₂ o, Steps p.tables e below A s₂ ∧ s₂.status = .running ∧ Ended s₂ below o ∧ ∃ v L, o = .returned v ∧ Q v s₂.heap s₂.vm L ∧ ReturnedEndW s o s₂ L K N
theorem own_stW {p : Program} {e : Env} {below : List Frame} {s : State} {Q : Option Value → Heap → Vm → List Loc → Prop} {K N : Nat} {A B : State} (k : ∀ t, Steps p.tables e below B t → Steps p.tables e below A t) (d : own_DW p e below s Q K N B) : own_DW p e below s Q K N A := by
  obtain ⟨s₂, o, h, r⟩ := d
  exact ⟨s₂, o, k _ h, r⟩
theorem own_trW {p : Program} {e : Env} {below : List Frame} {s : State} {Q : Option Value → Heap → Vm → List Loc → Prop} {K N : Nat} {A B : State} (k : Steps p.tables e below A B) (d : own_DW p e below s Q K N B) : own_DW p e below s Q K N A :=
  own_stW (fun _ h => k.trans h) d
theorem own_since0 (s : State) : s.Since s.vm 0 := (State.WarmedH.refl s).since 0
/-- an end that is narrow from the start with the tables behind the load is wide from the true start -/
theorem own_up {p : Program} {e : Env} {below : List Frame} {s : State} {Q Q' : Option Value → Heap → List Loc → Prop} {K N : Nat} {A : State} {vm0 : Vm} {k0 : Nat} (hS : s.Since vm0 k0) (hQ : ∀ v h L, Q' v h L → Q v h L ∧ k0 ≤ h.size) (d : own_Dn p e below (s.setVm vm0) Q' K N A) : own_DW p e below s (fun v h _ L => Q v h L) K N A := by
  obtain ⟨s₂, o, h1, h2, h3, v, L, h4, h5, r, hW, hs⟩ := d
  obtain ⟨q1, q2⟩ := hQ _ _ _ h5
  obtain ⟨a, b, c'⟩ := hS.ended (U := s₂) hW q2 hs
  exact ⟨s₂, o, h1, h2, h3, v, L, h4, q1, r, a, b, c'⟩
theorem own_metD {l : Launch} {Z : State} {a0 : Array Value} (hw : ∀ d ∈ tables_1, d.before a0 Z = true) {y : MethodName} {bytes : ByteArray} {ml : Nat} {ret : Option FieldType} {ws : List Jvm.Cond} {rm : Room} {as' : Array Value} {h0 : Heap} {Q : Option Value → Heap → List Loc → Prop} (hpl : plainFor y = true)
    (body : ∀ p e s m below meth c s₁, own_Cx p s m meth c Z a0 bytes ml y.cls y.name ret → Stand p l e rm s m as' below meth c s₁ [] 0 0 → s₁.heap = h0 → own_DW p e below s (fun v h _ L => Q v h L) rm.cells rm.slots (s₁.setTop (entryFrame m as' ml))) :
    MetFree l y (head1 (Jvm.Cond.code y bytes ml ret :: ws) rm) (fun a U => a = as' ∧ Z.Warmed39 U.vm ∧ U.heap = h0) (fun _ _ _ _ _ => True) (fun _ U o U' => ∃ v L, o = .returned v ∧ Q v U'.heap L ∧ ReturnedEndW U o U' L rm.cells rm.slots) := by
  refine MetFree.of_bodySF hpl hisR ?_
  intro p e s m args below meth c s₁ Bd hml0 hP hK
  obtain ⟨rfl, hZ, hh⟩ := hP
  exact body p e s m below meth c s₁ ⟨Bd.exec, hZ, hw, Bd.bytes, hml0, findClass_of_methodNamed Bd.named, Bd.returns, BodyLoose.notSynchronized Bd, (name_of_methodNamed Bd.named Bd.method).1⟩ (Stand.of_body Bd) (by rw [← hh, Bd.state]; rfl)
theorem own_wS {Z : State} {a0 : Array Value} (hw : ∀ d ∈ tables_1, d.before a0 Z = true) : ∀ d ∈ Bundle.stringAtoms, d.before a0 Z = true := fun d hd => hw d ((by decide +kernel : ∀ d ∈ Bundle.stringAtoms, d ∈ tables_1) d hd)
def own_QE (r0 : Int32) (h0 : Heap) (n0 : Nat) (v : Option Value) (h : Heap) (L : List Loc) : Prop := v = some (.int r0) ∧ Fr n0 L ∧ Keep h0 h []
theorem own_U0 (x : Int32) : (own_upd (fun _ => (0 : Int32)) ((0 : Int32)).toNatClampNeg x) 0 = x + Int32.ofNat 0 := by
  rw [own_upd, if_pos (by decide)]
  exact (Int32.add_zero x).symm
theorem own_U1 (x : Int32) : (own_upd (fun _ => (0 : Int32)) ((0 : Int32)).toNatClampNeg (x + (1 : Int32))) 0 = x + Int32.ofNat 1 := by
  rw [own_upd, if_pos (by decide)]
  rfl
theorem own_U2 (x : Int32) : (own_upd (fun _ => (0 : Int32)) ((0 : Int32)).toNatClampNeg (x + (2 : Int32))) 0 = x + Int32.ofNat 2 := by
  rw [own_upd, if_pos (by decide)]
  rfl
theorem own_U3 (x : Int32) : (own_upd (fun _ => (0 : Int32)) ((0 : Int32)).toNatClampNeg (x + (3 : Int32))) 0 = x + Int32.ofNat 3 := by
  rw [own_upd, if_pos (by decide)]
  rfl
theorem lw_d0 : decode code 0 = .ok (.iconst 1, 1) := by decide +kernel
theorem lw_d1 : decode code 1 = .ok (.newarray .int, 2) := by decide +kernel
theorem lw_d3 : decode code 3 = .ok (.dup, 1) := by decide +kernel
theorem lw_d4 : decode code 4 = .ok (.iconst 0, 1) := by decide +kernel
theorem lw_d5 : decode code 5 = .ok (.iload_n 0, 1) := by decide +kernel
theorem lw_d6 : decode code 6 = .ok (.iastore, 1) := by decide +kernel
theorem lw_d7 : decode code 7 = .ok (.astore_n 2, 1) := by decide +kernel
theorem lw_d8 : decode code 8 = .ok (.iconst 1, 1) := by decide +kernel
theorem lw_d9 : decode code 9 = .ok (.newarray .int, 2) := by decide +kernel
theorem lw_d11 : decode code 11 = .ok (.dup, 1) := by decide +kernel
theorem lw_d12 : decode code 12 = .ok (.iconst 0, 1) := by decide +kernel
theorem lw_d13 : decode code 13 = .ok (.iload_n 0, 1) := by decide +kernel
theorem lw_d14 : decode code 14 = .ok (.iconst 1, 1) := by decide +kernel
theorem lw_d15 : decode code 15 = .ok (.iadd, 1) := by decide +kernel
theorem lw_d16 : decode code 16 = .ok (.iastore, 1) := by decide +kernel
theorem lw_d17 : decode code 17 = .ok (.astore_n 3, 1) := by decide +kernel
theorem lw_d18 : decode code 18 = .ok (.iconst 1, 1) := by decide +kernel
theorem lw_d19 : decode code 19 = .ok (.newarray .int, 2) := by decide +kernel
theorem lw_d21 : decode code 21 = .ok (.dup, 1) := by decide +kernel
theorem lw_d22 : decode code 22 = .ok (.iconst 0, 1) := by decide +kernel
theorem lw_d23 : decode code 23 = .ok (.iload_n 0, 1) := by decide +kernel
theorem lw_d24 : decode code 24 = .ok (.iconst 2, 1) := by decide +kernel
theorem lw_d25 : decode code 25 = .ok (.iadd, 1) := by decide +kernel
theorem lw_d26 : decode code 26 = .ok (.iastore, 1) := by decide +kernel
theorem lw_d27 : decode code 27 = .ok (.astore 4, 2) := by decide +kernel
theorem lw_d29 : decode code 29 = .ok (.iconst 1, 1) := by decide +kernel
theorem lw_d30 : decode code 30 = .ok (.newarray .int, 2) := by decide +kernel
theorem lw_d32 : decode code 32 = .ok (.dup, 1) := by decide +kernel
theorem lw_d33 : decode code 33 = .ok (.iconst 0, 1) := by decide +kernel
theorem lw_d34 : decode code 34 = .ok (.iload_n 0, 1) := by decide +kernel
theorem lw_d35 : decode code 35 = .ok (.iconst 3, 1) := by decide +kernel
theorem lw_d36 : decode code 36 = .ok (.iadd, 1) := by decide +kernel
theorem lw_d37 : decode code 37 = .ok (.iastore, 1) := by decide +kernel
theorem lw_d38 : decode code 38 = .ok (.astore 5, 2) := by decide +kernel
theorem lw_d40 : decode code 40 = .ok (.iload_n 1, 1) := by decide +kernel
theorem lw_d41 : decode code 41 = .ok (.iconst 1, 1) := by decide +kernel
theorem lw_d42 : decode code 42 = .ok (.iand, 1) := by decide +kernel
theorem lw_d43 : decode code 43 = .ok (.ifCond .eq 7, 3) := by decide +kernel
theorem lw_d46 : decode code 46 = .ok (.iconst 1, 1) := by decide +kernel
theorem lw_d47 : decode code 47 = .ok (.goto 4, 3) := by decide +kernel
theorem lw_d50 : decode code 50 = .ok (.iconst 0, 1) := by decide +kernel
theorem lw_d51 : decode code 51 = .ok (.istore 6, 2) := by decide +kernel
theorem lw_d53 : decode code 53 = .ok (.iload_n 1, 1) := by decide +kernel
theorem lw_d54 : decode code 54 = .ok (.iconst 2, 1) := by decide +kernel
theorem lw_d55 : decode code 55 = .ok (.iand, 1) := by decide +kernel
theorem lw_d56 : decode code 56 = .ok (.ifCond .eq 7, 3) := by decide +kernel
theorem lw_d59 : decode code 59 = .ok (.iconst 1, 1) := by decide +kernel
theorem lw_d60 : decode code 60 = .ok (.goto 4, 3) := by decide +kernel
theorem lw_d63 : decode code 63 = .ok (.iconst 0, 1) := by decide +kernel
theorem lw_d64 : decode code 64 = .ok (.istore 7, 2) := by decide +kernel
theorem lw_d66 : decode code 66 = .ok (.iload_n 1, 1) := by decide +kernel
theorem lw_d67 : decode code 67 = .ok (.iconst 4, 1) := by decide +kernel
theorem lw_d68 : decode code 68 = .ok (.iand, 1) := by decide +kernel
theorem lw_d69 : decode code 69 = .ok (.ifCond .eq 7, 3) := by decide +kernel
theorem lw_d72 : decode code 72 = .ok (.iconst 1, 1) := by decide +kernel
theorem lw_d73 : decode code 73 = .ok (.goto 4, 3) := by decide +kernel
theorem lw_d76 : decode code 76 = .ok (.iconst 0, 1) := by decide +kernel
theorem lw_d77 : decode code 77 = .ok (.istore 8, 2) := by decide +kernel
theorem lw_d79 : decode code 79 = .ok (.new 7, 3) := by decide +kernel
theorem lw_d82 : decode code 82 = .ok (.dup, 1) := by decide +kernel
theorem lw_d83 : decode code 83 = .ok (.new 9, 3) := by decide +kernel
theorem lw_d86 : decode code 86 = .ok (.dup, 1) := by decide +kernel
theorem lw_d87 : decode code 87 = .ok (.ldc 11, 2) := by decide +kernel
theorem lw_d89 : decode code 89 = .ok (.iconst 1, 1) := by decide +kernel
theorem lw_d90 : decode code 90 = .ok (.invokespecial 13, 3) := by decide +kernel
theorem lw_d93 : decode code 93 = .ok (.iconst 0, 1) := by decide +kernel
theorem lw_d94 : decode code 94 = .ok (.invokespecial 16, 3) := by decide +kernel
theorem lw_d97 : decode code 97 = .ok (.astore 9, 2) := by decide +kernel
theorem lw_d99 : decode code 99 = .ok (.aload 9, 2) := by decide +kernel
theorem lw_d101 : decode code 101 = .ok (.aload_n 2, 1) := by decide +kernel
theorem lw_d102 : decode code 102 = .ok (.invokevirtual 19, 3) := by decide +kernel
theorem lw_d105 : decode code 105 = .ok (.istore 10, 2) := by decide +kernel
theorem lw_d107 : decode code 107 = .ok (.aload 9, 2) := by decide +kernel
theorem lw_d109 : decode code 109 = .ok (.aload_n 3, 1) := by decide +kernel
theorem lw_d110 : decode code 110 = .ok (.invokevirtual 19, 3) := by decide +kernel
theorem lw_d113 : decode code 113 = .ok (.istore 11, 2) := by decide +kernel
theorem lw_d115 : decode code 115 = .ok (.aload 9, 2) := by decide +kernel
theorem lw_d117 : decode code 117 = .ok (.aload 4, 2) := by decide +kernel
theorem lw_d119 : decode code 119 = .ok (.invokevirtual 19, 3) := by decide +kernel
theorem lw_d122 : decode code 122 = .ok (.istore 12, 2) := by decide +kernel
theorem lw_d124 : decode code 124 = .ok (.iload 6, 2) := by decide +kernel
theorem lw_d126 : decode code 126 = .ok (.ifCond .eq 9, 3) := by decide +kernel
theorem lw_d129 : decode code 129 = .ok (.aload 9, 2) := by decide +kernel
theorem lw_d131 : decode code 131 = .ok (.iconst 0, 1) := by decide +kernel
theorem lw_d132 : decode code 132 = .ok (.invokevirtual 23, 3) := by decide +kernel
theorem lw_d135 : decode code 135 = .ok (.iload 7, 2) := by decide +kernel
theorem lw_d137 : decode code 137 = .ok (.ifCond .eq 9, 3) := by decide +kernel
theorem lw_d140 : decode code 140 = .ok (.aload 9, 2) := by decide +kernel
theorem lw_d142 : decode code 142 = .ok (.iconst 1, 1) := by decide +kernel
theorem lw_d143 : decode code 143 = .ok (.invokevirtual 23, 3) := by decide +kernel
theorem lw_d146 : decode code 146 = .ok (.iload 8, 2) := by decide +kernel
theorem lw_d148 : decode code 148 = .ok (.ifCond .eq 9, 3) := by decide +kernel
theorem lw_d151 : decode code 151 = .ok (.aload 9, 2) := by decide +kernel
theorem lw_d153 : decode code 153 = .ok (.iconst 2, 1) := by decide +kernel
theorem lw_d154 : decode code 154 = .ok (.invokevirtual 23, 3) := by decide +kernel
theorem lw_d157 : decode code 157 = .ok (.aload 9, 2) := by decide +kernel
theorem lw_d159 : decode code 159 = .ok (.aload 5, 2) := by decide +kernel
theorem lw_d161 : decode code 161 = .ok (.invokevirtual 19, 3) := by decide +kernel
theorem lw_d164 : decode code 164 = .ok (.istore 13, 2) := by decide +kernel
theorem lw_d166 : decode code 166 = .ok (.aload 9, 2) := by decide +kernel
theorem lw_d168 : decode code 168 = .ok (.iconst 0, 1) := by decide +kernel
theorem lw_d169 : decode code 169 = .ok (.invokevirtual 27, 3) := by decide +kernel
theorem lw_d172 : decode code 172 = .ok (.istore 14, 2) := by decide +kernel
theorem lw_d174 : decode code 174 = .ok (.aload 9, 2) := by decide +kernel
theorem lw_d176 : decode code 176 = .ok (.iconst 1, 1) := by decide +kernel
theorem lw_d177 : decode code 177 = .ok (.invokevirtual 27, 3) := by decide +kernel
theorem lw_d180 : decode code 180 = .ok (.istore 15, 2) := by decide +kernel
theorem lw_d182 : decode code 182 = .ok (.aload 9, 2) := by decide +kernel
theorem lw_d184 : decode code 184 = .ok (.iconst 2, 1) := by decide +kernel
theorem lw_d185 : decode code 185 = .ok (.invokevirtual 27, 3) := by decide +kernel
theorem lw_d188 : decode code 188 = .ok (.istore 16, 2) := by decide +kernel
theorem lw_d190 : decode code 190 = .ok (.aload 9, 2) := by decide +kernel
theorem lw_d192 : decode code 192 = .ok (.iconst 3, 1) := by decide +kernel
theorem lw_d193 : decode code 193 = .ok (.invokevirtual 27, 3) := by decide +kernel
theorem lw_d196 : decode code 196 = .ok (.istore 17, 2) := by decide +kernel
theorem lw_d198 : decode code 198 = .ok (.iload 10, 2) := by decide +kernel
theorem lw_d200 : decode code 200 = .ok (.ifCond .eq 72, 3) := by decide +kernel
theorem lw_d203 : decode code 203 = .ok (.iload 11, 2) := by decide +kernel
theorem lw_d205 : decode code 205 = .ok (.ifCond .eq 67, 3) := by decide +kernel
theorem lw_d208 : decode code 208 = .ok (.iload 12, 2) := by decide +kernel
theorem lw_d210 : decode code 210 = .ok (.ifCond .eq 62, 3) := by decide +kernel
theorem lw_d213 : decode code 213 = .ok (.iload 13, 2) := by decide +kernel
theorem lw_d215 : decode code 215 = .ok (.ifCond .eq 57, 3) := by decide +kernel
theorem lw_d218 : decode code 218 = .ok (.iload 14, 2) := by decide +kernel
theorem lw_d220 : decode code 220 = .ok (.iload 6, 2) := by decide +kernel
theorem lw_d222 : decode code 222 = .ok (.ifCond .ne 7, 3) := by decide +kernel
theorem lw_d225 : decode code 225 = .ok (.iconst 1, 1) := by decide +kernel
theorem lw_d226 : decode code 226 = .ok (.goto 4, 3) := by decide +kernel
theorem lw_d229 : decode code 229 = .ok (.iconst 0, 1) := by decide +kernel
theorem lw_d230 : decode code 230 = .ok (.if_icmp .ne 42, 3) := by decide +kernel
theorem lw_d233 : decode code 233 = .ok (.iload 15, 2) := by decide +kernel
theorem lw_d235 : decode code 235 = .ok (.iload 7, 2) := by decide +kernel
theorem lw_d237 : decode code 237 = .ok (.ifCond .ne 7, 3) := by decide +kernel
theorem lw_d240 : decode code 240 = .ok (.iconst 1, 1) := by decide +kernel
theorem lw_d241 : decode code 241 = .ok (.goto 4, 3) := by decide +kernel
theorem lw_d244 : decode code 244 = .ok (.iconst 0, 1) := by decide +kernel
theorem lw_d245 : decode code 245 = .ok (.if_icmp .ne 27, 3) := by decide +kernel
theorem lw_d248 : decode code 248 = .ok (.iload 16, 2) := by decide +kernel
theorem lw_d250 : decode code 250 = .ok (.iload 8, 2) := by decide +kernel
theorem lw_d252 : decode code 252 = .ok (.ifCond .ne 7, 3) := by decide +kernel
theorem lw_d255 : decode code 255 = .ok (.iconst 1, 1) := by decide +kernel
theorem lw_d256 : decode code 256 = .ok (.goto 4, 3) := by decide +kernel
theorem lw_d259 : decode code 259 = .ok (.iconst 0, 1) := by decide +kernel
theorem lw_d260 : decode code 260 = .ok (.if_icmp .ne 12, 3) := by decide +kernel
theorem lw_d263 : decode code 263 = .ok (.iload 17, 2) := by decide +kernel
theorem lw_d265 : decode code 265 = .ok (.ifCond .eq 7, 3) := by decide +kernel
theorem lw_d268 : decode code 268 = .ok (.iconst 1, 1) := by decide +kernel
theorem lw_d269 : decode code 269 = .ok (.goto 4, 3) := by decide +kernel
theorem lw_d273 : decode code 273 = .ok (.ireturn, 1) := by decide +kernel
def lw_Q (Z : State) (p0 : Int32) (p1 : Int32) (w_a : Addr) (w_e : Addr) (w_k : Nat) (r0 : Int32) (h0 : Heap) (n0 : Nat) (v : Option Value) (h : Heap) (L : List Loc) : Prop := v = some (.int r0) ∧ Fr n0 L ∧ Keep h0 h [] ∧ w_k ≤ h.size
def lw_f263 (p0 : Int32) (p1 : Int32) (v6 : Int32) (v7 : Int32) (v8 : Int32) (v14 : Int32) (v15 : Int32) (v16 : Int32) : Int32 :=
  (1 : Int32)
set_option maxRecDepth 65536 in
set_option maxHeartbeats 40000000 in
theorem lw_c263 {p0 : Int32} {p1 : Int32} {w_a : Addr} {w_e : Addr} {w_k : Nat} {locs : List Loc} {o1 : Addr} {o19 : Addr} {o30 : Addr} {o79 : Addr} {o9 : Addr} {r0 : Int32} (C0 : own_Cx p s m meth c Z a0 code 18 ς8 "law" (some .boolean)) (X0 : Stand p l e room_1 s m args below meth c T0 locs 24 131) (e0 : T0.heap = h1) (N0 : Fr n0 locs) (v6 : Int32) (v7 : Int32) (v8 : Int32) (v14 : Int32) (v15 : Int32) (v16 : Int32) (Z0 : n0 ≤ h1.size) (P1 : w_k ≤ h1.size) (K0 : Keep h0 h1 []) (hL : own_LF n0 Z h0 w_a) (hr0 : r0 = lw_f263 p0 p1 v6 v7 v8 v14 v15 v16) :
    own_Dn p e below s (lw_Q Z p0 p1 w_a w_e w_k r0 h0 n0) room_1.cells room_1.slots (T0.setTop (mkF m 263 #[ι p0, ι p1, ρ o1, ρ o9, ρ o19, ρ o30, ι v6, ι v7, ι v8, ρ o79, ι 1, ι 1, ι 1, ι 1, ι v14, ι v15, ι v16, ι 1] [])) := by
  obtain ⟨hx, hZ, hw, hby, hml, hown, hret, hlk, hnm⟩ := id C0
  refine own_st (fun _ k => XS.iload X0.here hx rfl (hb hby lw_d263) rfl k) ?_
  show own_Dn p e below s _ _ _ (T0.setTop (mkF m 265 #[ι p0, ι p1, ρ o1, ρ o9, ρ o19, ρ o30, ι v6, ι v7, ι v8, ρ o79, ι 1, ι 1, ι 1, ι 1, ι v14, ι v15, ι v16, ι 1] [(.int 1)]))
  refine own_st (fun _ k => XS.ifNo X0.here hx rfl (hb hby lw_d265) rfl ((if0 _ _).trans (feq (by decide : ¬ ((1 : Int32) = (0 : Int32)))).1) k) ?_
  show own_Dn p e below s _ _ _ (T0.setTop (mkF m 268 #[ι p0, ι p1, ρ o1, ρ o9, ρ o19, ρ o30, ι v6, ι v7, ι v8, ρ o79, ι 1, ι 1, ι 1, ι 1, ι v14, ι v15, ι v16, ι 1] []))
  refine own_st (fun _ k => XS.iconst X0.here hx rfl (hb hby lw_d268) (XS.goto X0.here hx rfl (pc0 := 269) (pc' := 273) rfl (hb hby lw_d269) (by decide) (by decide) k)) ?_
  show own_Dn p e below s _ _ _ (T0.setTop (mkF m 273 #[ι p0, ι p1, ρ o1, ρ o9, ρ o19, ρ o30, ι v6, ι v7, ι v8, ρ o79, ι 1, ι 1, ι 1, ι 1, ι v14, ι v15, ι v16, ι 1] [(.int 1)]))
  have eqH : T0.heap = h1 := e0
  exact own_retZ X0 hx hret hlk (by decide) (hb hby lw_d273) (by decide) (by decide) (by rw [eqH]; exact ⟨(by rw [hr0, lw_f263]), N0, K0, P1⟩)
def lw_f248 (p0 : Int32) (p1 : Int32) (v6 : Int32) (v7 : Int32) (v8 : Int32) (v14 : Int32) (v15 : Int32) (v16 : Int32) : Int32 :=
  if v8 = (0 : Int32) then
    lw_f263 p0 p1 (v6) (v7) ((0 : Int32)) (v14) (v15) ((1 : Int32))
  else
    lw_f263 p0 p1 (v6) (v7) ((1 : Int32)) (v14) (v15) ((0 : Int32))
set_option maxRecDepth 65536 in
set_option maxHeartbeats 40000000 in
theorem lw_c248 {p0 : Int32} {p1 : Int32} {w_a : Addr} {w_e : Addr} {w_k : Nat} {locs : List Loc} {o1 : Addr} {o19 : Addr} {o30 : Addr} {o79 : Addr} {o9 : Addr} {r0 : Int32} (C0 : own_Cx p s m meth c Z a0 code 18 ς8 "law" (some .boolean)) (X0 : Stand p l e room_1 s m args below meth c T0 locs 24 131) (e0 : T0.heap = h1) (N0 : Fr n0 locs) (v6 : Int32) (v7 : Int32) (v8 : Int32) (v14 : Int32) (v15 : Int32) (v16 : Int32) (Z0 : n0 ≤ h1.size) (P1 : w_k ≤ h1.size) (K0 : Keep h0 h1 []) (hL : own_LF n0 Z h0 w_a) (hi0 : own_X v8 v16) (hr0 : r0 = lw_f248 p0 p1 v6 v7 v8 v14 v15 v16) :
    own_Dn p e below s (lw_Q Z p0 p1 w_a w_e w_k r0 h0 n0) room_1.cells room_1.slots (T0.setTop (mkF m 248 #[ι p0, ι p1, ρ o1, ρ o9, ρ o19, ρ o30, ι v6, ι v7, ι v8, ρ o79, ι 1, ι 1, ι 1, ι 1, ι v14, ι v15, ι v16, ι 1] [])) := by
  obtain ⟨hx, hZ, hw, hby, hml, hown, hret, hlk, hnm⟩ := id C0
  refine own_st (fun _ k => XS.iload X0.here hx rfl (hb hby lw_d248) rfl (XS.iload X0.here hx rfl (hb hby lw_d250) rfl k)) ?_
  show own_Dn p e below s _ _ _ (T0.setTop (mkF m 252 #[ι p0, ι p1, ρ o1, ρ o9, ρ o19, ρ o30, ι v6, ι v7, ι v8, ρ o79, ι 1, ι 1, ι 1, ι 1, ι v14, ι v15, ι v16, ι 1] [(.int v8), (.int v16)]))
  rcases hi0 with ⟨rfl, rfl⟩ | ⟨rfl, rfl⟩
  · refine own_st (fun _ k => XS.ifNo X0.here hx rfl (hb hby lw_d252) rfl ((if0 _ _).trans (teq (by decide : (0 : Int32) = (0 : Int32))).2) k) ?_
    show own_Dn p e below s _ _ _ (T0.setTop (mkF m 255 #[ι p0, ι p1, ρ o1, ρ o9, ρ o19, ρ o30, ι v6, ι v7, ι 0, ρ o79, ι 1, ι 1, ι 1, ι 1, ι v14, ι v15, ι 1, ι 1] [(.int 1)]))
    refine own_st (fun _ k => XS.iconst X0.here hx rfl (hb hby lw_d255) (XS.goto X0.here hx rfl (pc0 := 256) (pc' := 260) rfl (hb hby lw_d256) (by decide) (by decide) k)) ?_
    show own_Dn p e below s _ _ _ (T0.setTop (mkF m 260 #[ι p0, ι p1, ρ o1, ρ o9, ρ o19, ρ o30, ι v6, ι v7, ι 0, ρ o79, ι 1, ι 1, ι 1, ι 1, ι v14, ι v15, ι 1, ι 1] [(.int 1), (.int 1)]))
    refine own_st (fun _ k => XS.icmpNo X0.here hx rfl (hb hby lw_d260) rfl (teq (by decide : (1 : Int32) = (1 : Int32))).2 k) ?_
    show own_Dn p e below s _ _ _ (T0.setTop (mkF m 263 #[ι p0, ι p1, ρ o1, ρ o9, ρ o19, ρ o30, ι v6, ι v7, ι 0, ρ o79, ι 1, ι 1, ι 1, ι 1, ι v14, ι v15, ι 1, ι 1] []))
    exact lw_c263 C0 X0 e0 N0 (v6) (v7) ((0 : Int32)) (v14) (v15) ((1 : Int32)) Z0 P1 K0 hL (by rw [hr0, lw_f248, if_pos rfl])
  · refine own_st (fun _ k => XS.ifYes X0.here hx rfl (pc0 := 252) (pc' := 259) rfl (hb hby lw_d252) rfl ((if0 _ _).trans (feq (by decide : ¬ ((1 : Int32) = (0 : Int32)))).2) (by decide) (by decide) k) ?_
    show own_Dn p e below s _ _ _ (T0.setTop (mkF m 259 #[ι p0, ι p1, ρ o1, ρ o9, ρ o19, ρ o30, ι v6, ι v7, ι 1, ρ o79, ι 1, ι 1, ι 1, ι 1, ι v14, ι v15, ι 0, ι 1] [(.int 0)]))
    refine own_st (fun _ k => XS.iconst X0.here hx rfl (hb hby lw_d259) k) ?_
    show own_Dn p e below s _ _ _ (T0.setTop (mkF m 260 #[ι p0, ι p1, ρ o1, ρ o9, ρ o19, ρ o30, ι v6, ι v7, ι 1, ρ o79, ι 1, ι 1, ι 1, ι 1, ι v14, ι v15, ι 0, ι 1] [(.int 0), (.int 0)]))
    refine own_st (fun _ k => XS.icmpNo X0.here hx rfl (hb hby lw_d260) rfl (teq (by decide : (0 : Int32) = (0 : Int32))).2 k) ?_
    show own_Dn p e below s _ _ _ (T0.setTop (mkF m 263 #[ι p0, ι p1, ρ o1, ρ o9, ρ o19, ρ o30, ι v6, ι v7, ι 1, ρ o79, ι 1, ι 1, ι 1, ι 1, ι v14, ι v15, ι 0, ι 1] []))
    exact lw_c263 C0 X0 e0 N0 (v6) (v7) ((1 : Int32)) (v14) (v15) ((0 : Int32)) Z0 P1 K0 hL (by rw [hr0, lw_f248, if_neg (by decide : ¬ (1 : Int32) = (0 : Int32))])
def lw_f233 (p0 : Int32) (p1 : Int32) (v6 : Int32) (v7 : Int32) (v8 : Int32) (v14 : Int32) (v15 : Int32) (v16 : Int32) : Int32 :=
  if v7 = (0 : Int32) then
    lw_f248 p0 p1 (v6) ((0 : Int32)) (v8) (v14) ((1 : Int32)) (v16)
  else
    lw_f248 p0 p1 (v6) ((1 : Int32)) (v8) (v14) ((0 : Int32)) (v16)
set_option maxRecDepth 65536 in
set_option maxHeartbeats 40000000 in
theorem lw_c233 {p0 : Int32} {p1 : Int32} {w_a : Addr} {w_e : Addr} {w_k : Nat} {locs : List Loc} {o1 : Addr} {o19 : Addr} {o30 : Addr} {o79 : Addr} {o9 : Addr} {r0 : Int32} (C0 : own_Cx p s m meth c Z a0 code 18 ς8 "law" (some .boolean)) (X0 : Stand p l e room_1 s m args below meth c T0 locs 24 131) (e0 : T0.heap = h1) (N0 : Fr n0 locs) (v6 : Int32) (v7 : Int32) (v8 : Int32) (v14 : Int32) (v15 : Int32) (v16 : Int32) (Z0 : n0 ≤ h1.size) (P1 : w_k ≤ h1.size) (K0 : Keep h0 h1 []) (hL : own_LF n0 Z h0 w_a) (hi0 : own_X v7 v15 ∧ own_X v8 v16) (hr0 : r0 = lw_f233 p0 p1 v6 v7 v8 v14 v15 v16) :
    own_Dn p e below s (lw_Q Z p0 p1 w_a w_e w_k r0 h0 n0) room_1.cells room_1.slots (T0.setTop (mkF m 233 #[ι p0, ι p1, ρ o1, ρ o9, ρ o19, ρ o30, ι v6, ι v7, ι v8, ρ o79, ι 1, ι 1, ι 1, ι 1, ι v14, ι v15, ι v16, ι 1] [])) := by
  obtain ⟨hx, hZ, hw, hby, hml, hown, hret, hlk, hnm⟩ := id C0
  refine own_st (fun _ k => XS.iload X0.here hx rfl (hb hby lw_d233) rfl (XS.iload X0.here hx rfl (hb hby lw_d235) rfl k)) ?_
  show own_Dn p e below s _ _ _ (T0.setTop (mkF m 237 #[ι p0, ι p1, ρ o1, ρ o9, ρ o19, ρ o30, ι v6, ι v7, ι v8, ρ o79, ι 1, ι 1, ι 1, ι 1, ι v14, ι v15, ι v16, ι 1] [(.int v7), (.int v15)]))
  rcases hi0.1 with ⟨rfl, rfl⟩ | ⟨rfl, rfl⟩
  · refine own_st (fun _ k => XS.ifNo X0.here hx rfl (hb hby lw_d237) rfl ((if0 _ _).trans (teq (by decide : (0 : Int32) = (0 : Int32))).2) k) ?_
    show own_Dn p e below s _ _ _ (T0.setTop (mkF m 240 #[ι p0, ι p1, ρ o1, ρ o9, ρ o19, ρ o30, ι v6, ι 0, ι v8, ρ o79, ι 1, ι 1, ι 1, ι 1, ι v14, ι 1, ι v16, ι 1] [(.int 1)]))
    refine own_st (fun _ k => XS.iconst X0.here hx rfl (hb hby lw_d240) (XS.goto X0.here hx rfl (pc0 := 241) (pc' := 245) rfl (hb hby lw_d241) (by decide) (by decide) k)) ?_
    show own_Dn p e below s _ _ _ (T0.setTop (mkF m 245 #[ι p0, ι p1, ρ o1, ρ o9, ρ o19, ρ o30, ι v6, ι 0, ι v8, ρ o79, ι 1, ι 1, ι 1, ι 1, ι v14, ι 1, ι v16, ι 1] [(.int 1), (.int 1)]))
    refine own_st (fun _ k => XS.icmpNo X0.here hx rfl (hb hby lw_d245) rfl (teq (by decide : (1 : Int32) = (1 : Int32))).2 k) ?_
    show own_Dn p e below s _ _ _ (T0.setTop (mkF m 248 #[ι p0, ι p1, ρ o1, ρ o9, ρ o19, ρ o30, ι v6, ι 0, ι v8, ρ o79, ι 1, ι 1, ι 1, ι 1, ι v14, ι 1, ι v16, ι 1] []))
    exact lw_c248 C0 X0 e0 N0 (v6) ((0 : Int32)) (v8) (v14) ((1 : Int32)) (v16) Z0 P1 K0 hL hi0.2 (by rw [hr0, lw_f233, if_pos rfl])
  · refine own_st (fun _ k => XS.ifYes X0.here hx rfl (pc0 := 237) (pc' := 244) rfl (hb hby lw_d237) rfl ((if0 _ _).trans (feq (by decide : ¬ ((1 : Int32) = (0 : Int32)))).2) (by decide) (by decide) k) ?_
    show own_Dn p e below s _ _ _ (T0.setTop (mkF m 244 #[ι p0, ι p1, ρ o1, ρ o9, ρ o19, ρ o30, ι v6, ι 1, ι v8, ρ o79, ι 1, ι 1, ι 1, ι 1, ι v14, ι 0, ι v16, ι 1] [(.int 0)]))
    refine own_st (fun _ k => XS.iconst X0.here hx rfl (hb hby lw_d244) k) ?_
    show own_Dn p e below s _ _ _ (T0.setTop (mkF m 245 #[ι p0, ι p1, ρ o1, ρ o9, ρ o19, ρ o30, ι v6, ι 1, ι v8, ρ o79, ι 1, ι 1, ι 1, ι 1, ι v14, ι 0, ι v16, ι 1] [(.int 0), (.int 0)]))
    refine own_st (fun _ k => XS.icmpNo X0.here hx rfl (hb hby lw_d245) rfl (teq (by decide : (0 : Int32) = (0 : Int32))).2 k) ?_
    show own_Dn p e below s _ _ _ (T0.setTop (mkF m 248 #[ι p0, ι p1, ρ o1, ρ o9, ρ o19, ρ o30, ι v6, ι 1, ι v8, ρ o79, ι 1, ι 1, ι 1, ι 1, ι v14, ι 0, ι v16, ι 1] []))
    exact lw_c248 C0 X0 e0 N0 (v6) ((1 : Int32)) (v8) (v14) ((0 : Int32)) (v16) Z0 P1 K0 hL hi0.2 (by rw [hr0, lw_f233, if_neg (by decide : ¬ (1 : Int32) = (0 : Int32))])
def lw_f198 (p0 : Int32) (p1 : Int32) (v6 : Int32) (v7 : Int32) (v8 : Int32) (v14 : Int32) (v15 : Int32) (v16 : Int32) : Int32 :=
  if v6 = (0 : Int32) then
    lw_f233 p0 p1 ((0 : Int32)) (v7) (v8) ((1 : Int32)) (v15) (v16)
  else
    lw_f233 p0 p1 ((1 : Int32)) (v7) (v8) ((0 : Int32)) (v15) (v16)
set_option maxRecDepth 65536 in
set_option maxHeartbeats 40000000 in
theorem lw_c198 {p0 : Int32} {p1 : Int32} {w_a : Addr} {w_e : Addr} {w_k : Nat} {locs : List Loc} {o1 : Addr} {o19 : Addr} {o30 : Addr} {o79 : Addr} {o9 : Addr} {r0 : Int32} (C0 : own_Cx p s m meth c Z a0 code 18 ς8 "law" (some .boolean)) (X0 : Stand p l e room_1 s m args below meth c T0 locs 24 131) (e0 : T0.heap = h1) (N0 : Fr n0 locs) (v6 : Int32) (v7 : Int32) (v8 : Int32) (v14 : Int32) (v15 : Int32) (v16 : Int32) (Z0 : n0 ≤ h1.size) (P1 : w_k ≤ h1.size) (K0 : Keep h0 h1 []) (hL : own_LF n0 Z h0 w_a) (hi0 : own_X v6 v14 ∧ own_X v7 v15 ∧ own_X v8 v16) (hr0 : r0 = lw_f198 p0 p1 v6 v7 v8 v14 v15 v16) :
    own_Dn p e below s (lw_Q Z p0 p1 w_a w_e w_k r0 h0 n0) room_1.cells room_1.slots (T0.setTop (mkF m 198 #[ι p0, ι p1, ρ o1, ρ o9, ρ o19, ρ o30, ι v6, ι v7, ι v8, ρ o79, ι 1, ι 1, ι 1, ι 1, ι v14, ι v15, ι v16, ι 1] [])) := by
  obtain ⟨hx, hZ, hw, hby, hml, hown, hret, hlk, hnm⟩ := id C0
  refine own_st (fun _ k => XS.iload X0.here hx rfl (hb hby lw_d198) rfl k) ?_
  show own_Dn p e below s _ _ _ (T0.setTop (mkF m 200 #[ι p0, ι p1, ρ o1, ρ o9, ρ o19, ρ o30, ι v6, ι v7, ι v8, ρ o79, ι 1, ι 1, ι 1, ι 1, ι v14, ι v15, ι v16, ι 1] [(.int 1)]))
  refine own_st (fun _ k => XS.ifNo X0.here hx rfl (hb hby lw_d200) rfl ((if0 _ _).trans (feq (by decide : ¬ ((1 : Int32) = (0 : Int32)))).1) k) ?_
  show own_Dn p e below s _ _ _ (T0.setTop (mkF m 203 #[ι p0, ι p1, ρ o1, ρ o9, ρ o19, ρ o30, ι v6, ι v7, ι v8, ρ o79, ι 1, ι 1, ι 1, ι 1, ι v14, ι v15, ι v16, ι 1] []))
  refine own_st (fun _ k => XS.iload X0.here hx rfl (hb hby lw_d203) rfl k) ?_
  show own_Dn p e below s _ _ _ (T0.setTop (mkF m 205 #[ι p0, ι p1, ρ o1, ρ o9, ρ o19, ρ o30, ι v6, ι v7, ι v8, ρ o79, ι 1, ι 1, ι 1, ι 1, ι v14, ι v15, ι v16, ι 1] [(.int 1)]))
  refine own_st (fun _ k => XS.ifNo X0.here hx rfl (hb hby lw_d205) rfl ((if0 _ _).trans (feq (by decide : ¬ ((1 : Int32) = (0 : Int32)))).1) k) ?_
  show own_Dn p e below s _ _ _ (T0.setTop (mkF m 208 #[ι p0, ι p1, ρ o1, ρ o9, ρ o19, ρ o30, ι v6, ι v7, ι v8, ρ o79, ι 1, ι 1, ι 1, ι 1, ι v14, ι v15, ι v16, ι 1] []))
  refine own_st (fun _ k => XS.iload X0.here hx rfl (hb hby lw_d208) rfl k) ?_
  show own_Dn p e below s _ _ _ (T0.setTop (mkF m 210 #[ι p0, ι p1, ρ o1, ρ o9, ρ o19, ρ o30, ι v6, ι v7, ι v8, ρ o79, ι 1, ι 1, ι 1, ι 1, ι v14, ι v15, ι v16, ι 1] [(.int 1)]))
  refine own_st (fun _ k => XS.ifNo X0.here hx rfl (hb hby lw_d210) rfl ((if0 _ _).trans (feq (by decide : ¬ ((1 : Int32) = (0 : Int32)))).1) k) ?_
  show own_Dn p e below s _ _ _ (T0.setTop (mkF m 213 #[ι p0, ι p1, ρ o1, ρ o9, ρ o19, ρ o30, ι v6, ι v7, ι v8, ρ o79, ι 1, ι 1, ι 1, ι 1, ι v14, ι v15, ι v16, ι 1] []))
  refine own_st (fun _ k => XS.iload X0.here hx rfl (hb hby lw_d213) rfl k) ?_
  show own_Dn p e below s _ _ _ (T0.setTop (mkF m 215 #[ι p0, ι p1, ρ o1, ρ o9, ρ o19, ρ o30, ι v6, ι v7, ι v8, ρ o79, ι 1, ι 1, ι 1, ι 1, ι v14, ι v15, ι v16, ι 1] [(.int 1)]))
  refine own_st (fun _ k => XS.ifNo X0.here hx rfl (hb hby lw_d215) rfl ((if0 _ _).trans (feq (by decide : ¬ ((1 : Int32) = (0 : Int32)))).1) k) ?_
  show own_Dn p e below s _ _ _ (T0.setTop (mkF m 218 #[ι p0, ι p1, ρ o1, ρ o9, ρ o19, ρ o30, ι v6, ι v7, ι v8, ρ o79, ι 1, ι 1, ι 1, ι 1, ι v14, ι v15, ι v16, ι 1] []))
  refine own_st (fun _ k => XS.iload X0.here hx rfl (hb hby lw_d218) rfl (XS.iload X0.here hx rfl (hb hby lw_d220) rfl k)) ?_
  show own_Dn p e below s _ _ _ (T0.setTop (mkF m 222 #[ι p0, ι p1, ρ o1, ρ o9, ρ o19, ρ o30, ι v6, ι v7, ι v8, ρ o79, ι 1, ι 1, ι 1, ι 1, ι v14, ι v15, ι v16, ι 1] [(.int v6), (.int v14)]))
  rcases hi0.1 with ⟨rfl, rfl⟩ | ⟨rfl, rfl⟩
  · refine own_st (fun _ k => XS.ifNo X0.here hx rfl (hb hby lw_d222) rfl ((if0 _ _).trans (teq (by decide : (0 : Int32) = (0 : Int32))).2) k) ?_
    show own_Dn p e below s _ _ _ (T0.setTop (mkF m 225 #[ι p0, ι p1, ρ o1, ρ o9, ρ o19, ρ o30, ι 0, ι v7, ι v8, ρ o79, ι 1, ι 1, ι 1, ι 1, ι 1, ι v15, ι v16, ι 1] [(.int 1)]))
    refine own_st (fun _ k => XS.iconst X0.here hx rfl (hb hby lw_d225) (XS.goto X0.here hx rfl (pc0 := 226) (pc' := 230) rfl (hb hby lw_d226) (by decide) (by decide) k)) ?_
    show own_Dn p e below s _ _ _ (T0.setTop (mkF m 230 #[ι p0, ι p1, ρ o1, ρ o9, ρ o19, ρ o30, ι 0, ι v7, ι v8, ρ o79, ι 1, ι 1, ι 1, ι 1, ι 1, ι v15, ι v16, ι 1] [(.int 1), (.int 1)]))
    refine own_st (fun _ k => XS.icmpNo X0.here hx rfl (hb hby lw_d230) rfl (teq (by decide : (1 : Int32) = (1 : Int32))).2 k) ?_
    show own_Dn p e below s _ _ _ (T0.setTop (mkF m 233 #[ι p0, ι p1, ρ o1, ρ o9, ρ o19, ρ o30, ι 0, ι v7, ι v8, ρ o79, ι 1, ι 1, ι 1, ι 1, ι 1, ι v15, ι v16, ι 1] []))
    exact lw_c233 C0 X0 e0 N0 ((0 : Int32)) (v7) (v8) ((1 : Int32)) (v15) (v16) Z0 P1 K0 hL ⟨hi0.2.1, hi0.2.2⟩ (by rw [hr0, lw_f198, if_pos rfl])
  · refine own_st (fun _ k => XS.ifYes X0.here hx rfl (pc0 := 222) (pc' := 229) rfl (hb hby lw_d222) rfl ((if0 _ _).trans (feq (by decide : ¬ ((1 : Int32) = (0 : Int32)))).2) (by decide) (by decide) k) ?_
    show own_Dn p e below s _ _ _ (T0.setTop (mkF m 229 #[ι p0, ι p1, ρ o1, ρ o9, ρ o19, ρ o30, ι 1, ι v7, ι v8, ρ o79, ι 1, ι 1, ι 1, ι 1, ι 0, ι v15, ι v16, ι 1] [(.int 0)]))
    refine own_st (fun _ k => XS.iconst X0.here hx rfl (hb hby lw_d229) k) ?_
    show own_Dn p e below s _ _ _ (T0.setTop (mkF m 230 #[ι p0, ι p1, ρ o1, ρ o9, ρ o19, ρ o30, ι 1, ι v7, ι v8, ρ o79, ι 1, ι 1, ι 1, ι 1, ι 0, ι v15, ι v16, ι 1] [(.int 0), (.int 0)]))
    refine own_st (fun _ k => XS.icmpNo X0.here hx rfl (hb hby lw_d230) rfl (teq (by decide : (0 : Int32) = (0 : Int32))).2 k) ?_
    show own_Dn p e below s _ _ _ (T0.setTop (mkF m 233 #[ι p0, ι p1, ρ o1, ρ o9, ρ o19, ρ o30, ι 1, ι v7, ι v8, ρ o79, ι 1, ι 1, ι 1, ι 1, ι 0, ι v15, ι v16, ι 1] []))
    exact lw_c233 C0 X0 e0 N0 ((1 : Int32)) (v7) (v8) ((0 : Int32)) (v15) (v16) Z0 P1 K0 hL ⟨hi0.2.1, hi0.2.2⟩ (by rw [hr0, lw_f198, if_neg (by decide : ¬ (1 : Int32) = (0 : Int32))])
def lw_f157y (p0 : Int32) (p1 : Int32) (v6 : Int32) (v7 : Int32) (v8 : Int32) (w3 : Nat → Int32) (w9 : Nat → Int32) (w23 : Int32) (w24 : Nat → Int32) (w25 : Nat → Int32) (w26 : Nat → Int32) (w27 : Nat → Int32) (w28 : Nat → Int32) : Int32 :=
  lw_f198 p0 p1 (v6) (v7) (v8) ((lw_v_f (0 : Int32) w28)) ((lw_v_f (1 : Int32) w28)) ((lw_v_f (2 : Int32) w28))
set_option maxRecDepth 65536 in
set_option maxHeartbeats 40000000 in
theorem lw_c157y {p0 : Int32} {p1 : Int32} {w_a : Addr} {w_e : Addr} {w_k : Nat} {locs : List Loc} {o1 : Addr} {o19 : Addr} {o30 : Addr} {o79 : Addr} {o9 : Addr} {r1_94 : Addr} {r2_94 : Addr} {r3_94 : Addr} {r4_94 : Addr} {r5_94 : Addr} {r6_94 : Addr} {r7_94 : Addr} {rq : Addr} {r0 : Int32} (C0 : own_Cx p s m meth c Z a0 code 18 ς8 "law" (some .boolean)) (X0 : Stand p l e room_1 s m args below meth c T0 locs 23 127) (e0 : T0.heap = h1) (N0 : Fr n0 locs) (v6 : Int32) (v7 : Int32) (v8 : Int32) (w3 : Nat → Int32) (w9 : Nat → Int32) (w23 : Int32) (w24 : Nat → Int32) (w25 : Nat → Int32) (w26 : Nat → Int32) (w27 : Nat → Int32) (w28 : Nat → Int32) (Z0 : n0 ≤ h1.size) (P1 : w_k ≤ h1.size) (K0 : Keep h0 h1 []) (P3 : own_Arf Z h1 o30 .int 1 (fun i => (.int (w3 i)))) (P4 : Exa Z h1 o79 ς0) (P5 : Exa Z h1 r2_94 ς1) (P6 : Exa Z h1 r3_94 ς3) (P7 : Fld Z h1 r3_94 ς6 "modCount" "I" (.int 0)) (P8 : Fld Z h1 r3_94 ς3 "size" "I" (.int 0)) (P9 : own_Arf Z h1 r4_94 .int 1 (fun i => (.int (w9 i)))) (P10 : Fld Z h1 o79 ς0 "data" "[I" (.ref r1_94)) (P11 : Fld Z h1 o79 ς0 "arity" "I" (.int 1)) (P12 : Fld Z h1 o79 ς0 "facts" ς5 (.ref r2_94)) (P13 : Fld Z h1 o79 ς0 "indexes" ς10 (.ref r3_94)) (P14 : Fld Z h1 o79 ς0 "removed" "[Z" (.ref rq)) (P15 : Fld Z h1 o79 ς0 "size" "I" (.int 3)) (P16 : Fld Z h1 r2_94 ς1 "this$0" ς2 (.ref o79)) (P17 : Fld Z h1 r2_94 ς1 "positions" "[I" (.ref r4_94)) (P18 : Fld Z h1 r2_94 ς1 "firsts" "[I" (.ref r5_94)) (P19 : Fld Z h1 r2_94 ς1 "lasts" "[I" (.ref r6_94)) (P20 : Fld Z h1 r2_94 ς1 "rowKey" "[I" (.ref r7_94)) (P21 : Fld Z h1 r2_94 ς1 "next" "[I" .null) (P22 : Fld Z h1 r2_94 ς1 "previous" "[I" .null) (P23 : Fld Z h1 r2_94 ς1 "keys" "I" (.int w23)) (P24 : own_Arf Z h1 r1_94 .int 16 (fun i => (.int (w24 i)))) (P25 : own_Arf Z h1 r5_94 .int 16 (fun i => (.int (w25 i)))) (P26 : own_Arf Z h1 r6_94 .int 16 (fun i => (.int (w26 i)))) (P27 : own_Arf Z h1 r7_94 .int 1 (fun i => (.int (w27 i)))) (P28 : own_Arf Z h1 rq .boolean 16 (fun i => (.int (w28 i)))) (kn0 : o30 ≠ o79) (kn1 : n0 ≤ o79) (kn2 : h0.size ≤ o79) (kn3 : n0 ≤ r1_94) (kn4 : o79 ≠ r1_94) (kn5 : r1_94 ≠ r2_94) (kn6 : r1_94 ≠ r3_94) (kn7 : r1_94 ≠ r4_94) (kn8 : r1_94 ≠ r5_94) (kn9 : r1_94 ≠ r6_94) (kn10 : r1_94 ≠ r7_94) (kn11 : n0 ≤ r2_94) (kn12 : o79 ≠ r2_94) (kn13 : r2_94 ≠ r3_94) (kn14 : r2_94 ≠ r4_94) (kn15 : r2_94 ≠ r5_94) (kn16 : r2_94 ≠ r6_94) (kn17 : r2_94 ≠ r7_94) (kn18 : n0 ≤ r3_94) (kn19 : o79 ≠ r3_94) (kn20 : r3_94 ≠ r4_94) (kn21 : r3_94 ≠ r5_94) (kn22 : r3_94 ≠ r6_94) (kn23 : r3_94 ≠ r7_94) (kn24 : n0 ≤ r4_94) (kn25 : o79 ≠ r4_94) (kn26 : r4_94 ≠ r5_94) (kn27 : r4_94 ≠ r6_94) (kn28 : r4_94 ≠ r7_94) (kn29 : n0 ≤ r5_94) (kn30 : o79 ≠ r5_94) (kn31 : r5_94 ≠ r6_94) (kn32 : r5_94 ≠ r7_94) (kn33 : n0 ≤ r6_94) (kn34 : o79 ≠ r6_94) (kn35 : r6_94 ≠ r7_94) (kn36 : n0 ≤ r7_94) (kn37 : o79 ≠ r7_94) (kn38 : o30 ≠ r1_94) (kn39 : o30 ≠ r2_94) (kn40 : o30 ≠ r3_94) (kn41 : o30 ≠ r4_94) (kn42 : o30 ≠ r5_94) (kn43 : o30 ≠ r6_94) (kn44 : o30 ≠ r7_94) (kn45 : r1_94 ∈ ([] : List Addr) ∨ h0.size ≤ r1_94) (kn46 : r2_94 ∈ ([] : List Addr) ∨ h0.size ≤ r2_94) (kn47 : r3_94 ∈ ([] : List Addr) ∨ h0.size ≤ r3_94) (kn48 : r4_94 ∈ ([] : List Addr) ∨ h0.size ≤ r4_94) (kn49 : r5_94 ∈ ([] : List Addr) ∨ h0.size ≤ r5_94) (kn50 : r6_94 ∈ ([] : List Addr) ∨ h0.size ≤ r6_94) (kn51 : r7_94 ∈ ([] : List Addr) ∨ h0.size ≤ r7_94) (kn52 : n0 ≤ rq) (kn53 : o79 ≠ rq) (kn54 : o30 ≠ rq) (kn55 : r2_94 ≠ rq) (kn56 : r3_94 ≠ rq) (kn57 : r4_94 ≠ rq) (kn58 : r1_94 ≠ rq) (kn59 : r5_94 ≠ rq) (kn60 : r6_94 ≠ rq) (kn61 : r7_94 ≠ rq) (kn62 : rq ∈ ([] : List Addr) ∨ h0.size ≤ rq) (hL : own_LF n0 Z h0 w_a) (hi0 : w3 0 = p0 + Int32.ofNat 3 ∧ own_JE p0 [3] w25 w24 w9 ∧ (0 ≤ w23.toInt ∧ w23.toInt ≤ 3) ∧ own_Y v6 (w28 (0 : Int32).toNatClampNeg) ∧ own_Y v7 (w28 (1 : Int32).toNatClampNeg) ∧ own_Y v8 (w28 (2 : Int32).toNatClampNeg) ∧ w28 (3 : Int32).toNatClampNeg = (0 : Int32)) (hr0 : r0 = lw_f157y p0 p1 v6 v7 v8 w3 w9 w23 w24 w25 w26 w27 w28) :
    own_Dn p e below s (lw_Q Z p0 p1 w_a w_e w_k r0 h0 n0) room_1.cells room_1.slots (T0.setTop (mkF m 157 #[ι p0, ι p1, ρ o1, ρ o9, ρ o19, ρ o30, ι v6, ι v7, ι v8, ρ o79, ι 1, ι 1, ι 1, υ, υ, υ, υ, υ] [])) := by
  obtain ⟨hx, hZ, hw, hby, hml, hown, hret, hlk, hnm⟩ := id C0
  refine own_st (fun _ k => XS.aload X0.here hx rfl (hb hby lw_d157) rfl rfl (XS.aload X0.here hx rfl (hb hby lw_d159) rfl rfl k)) ?_
  show own_Dn p e below s _ _ _ (T0.setTop (mkF m 161 #[ι p0, ι p1, ρ o1, ρ o9, ρ o19, ρ o30, ι v6, ι v7, ι v8, ρ o79, ι 1, ι 1, ι 1, υ, υ, υ, υ, υ] [(.ref o30), (.ref o79)]))
  obtain ⟨cq1210, kq1210, q1210a, q1210b, q1210c⟩ := isOf hZ e0 P4
  obtain ⟨_, _, ⟨T1210, L1210, k1210, n1210⟩, -, X1210, ⟨Lc1210, hQ1210, l1210, y1210, z1210⟩, st1210⟩ := X0.virtualBack hx (y := (⟨ς0, "add", "([I)Z"⟩ : MethodName)) (z := (⟨ς0, "add", "([I)Z"⟩ : MethodName)) hown (mvT hZ (own_w hw 114 rfl)) (mvT hZ (own_w hw 115 rfl)) (notFace_of_selects (args := #[]) (mvT hZ (own_w hw 117 rfl))) (mvT hZ (own_w hw 117 rfl)) (mvT hZ (own_w hw 116 rfl)) (by decide) (backOf (W := 0) (rv_rm l Z a0 hw [] (o79) (o30) (r4_94) (r1_94) (r5_94) (r6_94) (r7_94) (r2_94) (r3_94) (w9) (w24) (w25) (w26) (w27) (w23) ((3 : Int32)) (w3) (rq) (w28) h1 n0 Z0 P4 P10 P11 P12 P13 P14 P24 P6 P7 P8 P15 P5 P16 P17 P9 P18 P19 P20 P21 P22 P23 P25 P26 P27 P3 P28 kn1 kn11 kn3 kn29 kn33 kn36 kn25 kn14 kn20 kn4 (Ne.symm kn5) (Ne.symm kn6) (Ne.symm kn7) kn30 kn15 kn21 kn26 kn8 kn34 kn16 kn22 kn27 kn9 kn31 kn37 kn17 kn23 kn28 kn10 kn32 kn35 kn53 kn55 kn56 kn57 kn58 kn59 kn60 kn61 kn38 (own_JE.P0 hi0.2.1) (own_JE.RA hi0.2.1 (c := w23) hi0.1 hi0.2.2.1) (own_RA_fit (own_JE.RA hi0.2.1 (c := w23) hi0.1 hi0.2.2.1)) (own_RA_s16 (own_JE.RA hi0.2.1 (c := w23) hi0.1 hi0.2.2.1))) hZ (own_w hw 118 rfl) (own_w hw 3 rfl) (by decide) (by decide)) q1210a q1210c (g := (mkF m 161 #[ι p0, ι p1, ρ o1, ρ o9, ρ o19, ρ o30, ι v6, ι v7, ι v8, ρ o79, ι 1, ι 1, ι 1, υ, υ, υ, υ, υ] [(.ref o30), (.ref o79)])) rfl (by rw [hml]; rfl) (Steps.refl _) (argsL := [(.ref o30)]) (rest := []) (lenOf own_pd16 rfl) rfl (by show 2 * 0 + _ ≤ _; exact Nat.le_of_eq rfl) (hb hby lw_d161) (fun _ _ => ⟨rfl, e0, (by decide : 23 + 1 ≤ _), (by decide : 127 + 4 ≤ _)⟩)
  dsimp only [Pt.U, Pt.locs, Pt.cells, Pt.slots] at X1210 l1210 y1210 z1210 st1210 hQ1210
  subst l1210 y1210 z1210
  obtain ⟨rfl, N1210q, K1210, G1211, G1212, G1213, G1214, G1215, G1216, G1217, G1218, G1219, G1220, G1221, G1222, G1223, G1224, G1225, G1226, G1227, G1228, G1229, G1230, G1231⟩ := hQ1210
  have F1232 : n0 ≤ T1210.heap.size := Nat.le_trans Z0 K1210.1
  have F1233 : w_k ≤ T1210.heap.size := Nat.le_trans P1 K1210.1
  have F1234 : Keep h0 T1210.heap [] := K0.trans K1210 (allS (Or.inr kn2) (allS kn46 (allS kn45 (allS kn49 (allS kn50 (allS kn51 all0))))))
  have F1235 := P3.keep K1210 (ninS kn0 (ninS kn39 (ninS kn38 (ninS kn42 (ninS kn43 (ninS kn44 nin0))))))
  have F1236 := P4.keep K1210
  have F1237 := P5.keep K1210
  have F1238 := P6.keep K1210
  have F1239 := P7.keep K1210 (ninS (Ne.symm kn19) (ninS (Ne.symm kn13) (ninS (Ne.symm kn6) (ninS kn21 (ninS kn22 (ninS kn23 nin0))))))
  have F1240 := P8.keep K1210 (ninS (Ne.symm kn19) (ninS (Ne.symm kn13) (ninS (Ne.symm kn6) (ninS kn21 (ninS kn22 (ninS kn23 nin0))))))
  have F1241 := P9.keep K1210 (ninS (Ne.symm kn25) (ninS (Ne.symm kn14) (ninS (Ne.symm kn7) (ninS kn26 (ninS kn27 (ninS kn28 nin0))))))
  have F1242 := P28.keep K1210 (ninS (Ne.symm kn53) (ninS (Ne.symm kn55) (ninS (Ne.symm kn58) (ninS (Ne.symm kn59) (ninS (Ne.symm kn60) (ninS (Ne.symm kn61) nin0))))))
  have N1210 := Fr.app N0 N1210q
  refine own_tr st1210 ?_
  show own_Dn p e below s _ _ _ (T1210.setTop (mkF m 164 #[ι p0, ι p1, ρ o1, ρ o9, ρ o19, ρ o30, ι v6, ι v7, ι v8, ρ o79, ι 1, ι 1, ι 1, υ, υ, υ, υ, υ] [(.int 1)]))
  refine own_st (fun _ k => XS.istore X1210.here hx rfl (hb hby lw_d164) rfl (l' := #[ι p0, ι p1, ρ o1, ρ o9, ρ o19, ρ o30, ι v6, ι v7, ι v8, ρ o79, ι 1, ι 1, ι 1, ι 1, υ, υ, υ, υ]) rfl (XS.aload X1210.here hx rfl (hb hby lw_d166) rfl rfl (XS.iconst X1210.here hx rfl (hb hby lw_d168) k))) ?_
  show own_Dn p e below s _ _ _ (T1210.setTop (mkF m 169 #[ι p0, ι p1, ρ o1, ρ o9, ρ o19, ρ o30, ι v6, ι v7, ι v8, ρ o79, ι 1, ι 1, ι 1, ι 1, υ, υ, υ, υ] [(.int 0), (.ref o79)]))
  obtain ⟨cq1243, kq1243, q1243a, q1243b, q1243c⟩ := isOf hZ rfl G1211
  obtain ⟨_, _, ⟨T1243, L1243, k1243, n1243⟩, -, X1243, ⟨Lc1243, hQ1243, l1243, y1243, z1243⟩, st1243⟩ := X1210.virtualBack hx (y := (⟨ς0, "isLive", "(I)Z"⟩ : MethodName)) (z := (⟨ς0, "isLive", "(I)Z"⟩ : MethodName)) hown (mvT hZ (own_w hw 215 rfl)) (mvT hZ (own_w hw 216 rfl)) (notFace_of_selects (args := #[]) (mvT hZ (own_w hw 218 rfl))) (mvT hZ (own_w hw 218 rfl)) (mvT hZ (own_w hw 217 rfl)) (by decide) (backOf (W := 0) (lw_v_rm l Z a0 hw [] (o79) ((0 : Int32)) (rq) (w28) T1210.heap n0 F1232 G1216 G1231 (by decide)) hZ (own_w hw 219 rfl) (own_w hw 3 rfl) (by decide) (by decide)) q1243a q1243c (g := (mkF m 169 #[ι p0, ι p1, ρ o1, ρ o9, ρ o19, ρ o30, ι v6, ι v7, ι v8, ρ o79, ι 1, ι 1, ι 1, ι 1, υ, υ, υ, υ] [(.int 0), (.ref o79)])) rfl (by rw [hml]; rfl) (Steps.refl _) (argsL := [(.int 0)]) (rest := []) (lenOf own_pd17 rfl) rfl (by show 2 * 0 + _ ≤ _; exact Nat.le_of_eq rfl) (hb hby lw_d169) (fun _ _ => ⟨rfl, rfl, (by decide : 24 + 0 ≤ _), (by decide : 131 + 0 ≤ _)⟩)
  dsimp only [Pt.U, Pt.locs, Pt.cells, Pt.slots] at X1243 l1243 y1243 z1243 st1243 hQ1243
  subst l1243 y1243 z1243
  obtain ⟨rfl, N1243q, e1243⟩ := hQ1243
  have N1243 := Fr.app N1210 N1243q
  refine own_tr st1243 ?_
  show own_Dn p e below s _ _ _ (T1243.setTop (mkF m 172 #[ι p0, ι p1, ρ o1, ρ o9, ρ o19, ρ o30, ι v6, ι v7, ι v8, ρ o79, ι 1, ι 1, ι 1, ι 1, υ, υ, υ, υ] [(.int (lw_v_f (0 : Int32) w28))]))
  refine own_st (fun _ k => XS.istore X1243.here hx rfl (hb hby lw_d172) rfl (l' := #[ι p0, ι p1, ρ o1, ρ o9, ρ o19, ρ o30, ι v6, ι v7, ι v8, ρ o79, ι 1, ι 1, ι 1, ι 1, .val (.int (lw_v_f (0 : Int32) w28)), υ, υ, υ]) rfl (XS.aload X1243.here hx rfl (hb hby lw_d174) rfl rfl (XS.iconst X1243.here hx rfl (hb hby lw_d176) k))) ?_
  show own_Dn p e below s _ _ _ (T1243.setTop (mkF m 177 #[ι p0, ι p1, ρ o1, ρ o9, ρ o19, ρ o30, ι v6, ι v7, ι v8, ρ o79, ι 1, ι 1, ι 1, ι 1, .val (.int (lw_v_f (0 : Int32) w28)), υ, υ, υ] [(.int 1), (.ref o79)]))
  obtain ⟨cq1244, kq1244, q1244a, q1244b, q1244c⟩ := isOf hZ e1243 G1211
  obtain ⟨_, _, ⟨T1244, L1244, k1244, n1244⟩, -, X1244, ⟨Lc1244, hQ1244, l1244, y1244, z1244⟩, st1244⟩ := X1243.virtualBack hx (y := (⟨ς0, "isLive", "(I)Z"⟩ : MethodName)) (z := (⟨ς0, "isLive", "(I)Z"⟩ : MethodName)) hown (mvT hZ (own_w hw 215 rfl)) (mvT hZ (own_w hw 216 rfl)) (notFace_of_selects (args := #[]) (mvT hZ (own_w hw 218 rfl))) (mvT hZ (own_w hw 218 rfl)) (mvT hZ (own_w hw 217 rfl)) (by decide) (backOf (W := 0) (lw_v_rm l Z a0 hw [] (o79) ((1 : Int32)) (rq) (w28) T1210.heap n0 F1232 G1216 G1231 (by decide)) hZ (own_w hw 219 rfl) (own_w hw 3 rfl) (by decide) (by decide)) q1244a q1244c (g := (mkF m 177 #[ι p0, ι p1, ρ o1, ρ o9, ρ o19, ρ o30, ι v6, ι v7, ι v8, ρ o79, ι 1, ι 1, ι 1, ι 1, .val (.int (lw_v_f (0 : Int32) w28)), υ, υ, υ] [(.int 1), (.ref o79)])) rfl (by rw [hml]; rfl) (Steps.refl _) (argsL := [(.int 1)]) (rest := []) (lenOf own_pd17 rfl) rfl (by show 2 * 0 + _ ≤ _; exact Nat.le_of_eq rfl) (hb hby lw_d177) (fun _ _ => ⟨rfl, e1243, (by decide : 24 + 0 ≤ _), (by decide : 131 + 0 ≤ _)⟩)
  dsimp only [Pt.U, Pt.locs, Pt.cells, Pt.slots] at X1244 l1244 y1244 z1244 st1244 hQ1244
  subst l1244 y1244 z1244
  obtain ⟨rfl, N1244q, e1244⟩ := hQ1244
  have N1244 := Fr.app N1243 N1244q
  refine own_tr st1244 ?_
  show own_Dn p e below s _ _ _ (T1244.setTop (mkF m 180 #[ι p0, ι p1, ρ o1, ρ o9, ρ o19, ρ o30, ι v6, ι v7, ι v8, ρ o79, ι 1, ι 1, ι 1, ι 1, .val (.int (lw_v_f (0 : Int32) w28)), υ, υ, υ] [(.int (lw_v_f (1 : Int32) w28))]))
  refine own_st (fun _ k => XS.istore X1244.here hx rfl (hb hby lw_d180) rfl (l' := #[ι p0, ι p1, ρ o1, ρ o9, ρ o19, ρ o30, ι v6, ι v7, ι v8, ρ o79, ι 1, ι 1, ι 1, ι 1, .val (.int (lw_v_f (0 : Int32) w28)), .val (.int (lw_v_f (1 : Int32) w28)), υ, υ]) rfl (XS.aload X1244.here hx rfl (hb hby lw_d182) rfl rfl (XS.iconst X1244.here hx rfl (hb hby lw_d184) k))) ?_
  show own_Dn p e below s _ _ _ (T1244.setTop (mkF m 185 #[ι p0, ι p1, ρ o1, ρ o9, ρ o19, ρ o30, ι v6, ι v7, ι v8, ρ o79, ι 1, ι 1, ι 1, ι 1, .val (.int (lw_v_f (0 : Int32) w28)), .val (.int (lw_v_f (1 : Int32) w28)), υ, υ] [(.int 2), (.ref o79)]))
  obtain ⟨cq1245, kq1245, q1245a, q1245b, q1245c⟩ := isOf hZ e1244 G1211
  obtain ⟨_, _, ⟨T1245, L1245, k1245, n1245⟩, -, X1245, ⟨Lc1245, hQ1245, l1245, y1245, z1245⟩, st1245⟩ := X1244.virtualBack hx (y := (⟨ς0, "isLive", "(I)Z"⟩ : MethodName)) (z := (⟨ς0, "isLive", "(I)Z"⟩ : MethodName)) hown (mvT hZ (own_w hw 215 rfl)) (mvT hZ (own_w hw 216 rfl)) (notFace_of_selects (args := #[]) (mvT hZ (own_w hw 218 rfl))) (mvT hZ (own_w hw 218 rfl)) (mvT hZ (own_w hw 217 rfl)) (by decide) (backOf (W := 0) (lw_v_rm l Z a0 hw [] (o79) ((2 : Int32)) (rq) (w28) T1210.heap n0 F1232 G1216 G1231 (by decide)) hZ (own_w hw 219 rfl) (own_w hw 3 rfl) (by decide) (by decide)) q1245a q1245c (g := (mkF m 185 #[ι p0, ι p1, ρ o1, ρ o9, ρ o19, ρ o30, ι v6, ι v7, ι v8, ρ o79, ι 1, ι 1, ι 1, ι 1, .val (.int (lw_v_f (0 : Int32) w28)), .val (.int (lw_v_f (1 : Int32) w28)), υ, υ] [(.int 2), (.ref o79)])) rfl (by rw [hml]; rfl) (Steps.refl _) (argsL := [(.int 2)]) (rest := []) (lenOf own_pd17 rfl) rfl (by show 2 * 0 + _ ≤ _; exact Nat.le_of_eq rfl) (hb hby lw_d185) (fun _ _ => ⟨rfl, e1244, (by decide : 24 + 0 ≤ _), (by decide : 131 + 0 ≤ _)⟩)
  dsimp only [Pt.U, Pt.locs, Pt.cells, Pt.slots] at X1245 l1245 y1245 z1245 st1245 hQ1245
  subst l1245 y1245 z1245
  obtain ⟨rfl, N1245q, e1245⟩ := hQ1245
  have N1245 := Fr.app N1244 N1245q
  refine own_tr st1245 ?_
  show own_Dn p e below s _ _ _ (T1245.setTop (mkF m 188 #[ι p0, ι p1, ρ o1, ρ o9, ρ o19, ρ o30, ι v6, ι v7, ι v8, ρ o79, ι 1, ι 1, ι 1, ι 1, .val (.int (lw_v_f (0 : Int32) w28)), .val (.int (lw_v_f (1 : Int32) w28)), υ, υ] [(.int (lw_v_f (2 : Int32) w28))]))
  refine own_st (fun _ k => XS.istore X1245.here hx rfl (hb hby lw_d188) rfl (l' := #[ι p0, ι p1, ρ o1, ρ o9, ρ o19, ρ o30, ι v6, ι v7, ι v8, ρ o79, ι 1, ι 1, ι 1, ι 1, .val (.int (lw_v_f (0 : Int32) w28)), .val (.int (lw_v_f (1 : Int32) w28)), .val (.int (lw_v_f (2 : Int32) w28)), υ]) rfl (XS.aload X1245.here hx rfl (hb hby lw_d190) rfl rfl (XS.iconst X1245.here hx rfl (hb hby lw_d192) k))) ?_
  show own_Dn p e below s _ _ _ (T1245.setTop (mkF m 193 #[ι p0, ι p1, ρ o1, ρ o9, ρ o19, ρ o30, ι v6, ι v7, ι v8, ρ o79, ι 1, ι 1, ι 1, ι 1, .val (.int (lw_v_f (0 : Int32) w28)), .val (.int (lw_v_f (1 : Int32) w28)), .val (.int (lw_v_f (2 : Int32) w28)), υ] [(.int 3), (.ref o79)]))
  obtain ⟨cq1246, kq1246, q1246a, q1246b, q1246c⟩ := isOf hZ e1245 G1211
  obtain ⟨_, _, ⟨T1246, L1246, k1246, n1246⟩, -, X1246, ⟨Lc1246, hQ1246, l1246, y1246, z1246⟩, st1246⟩ := X1245.virtualBack hx (y := (⟨ς0, "isLive", "(I)Z"⟩ : MethodName)) (z := (⟨ς0, "isLive", "(I)Z"⟩ : MethodName)) hown (mvT hZ (own_w hw 215 rfl)) (mvT hZ (own_w hw 216 rfl)) (notFace_of_selects (args := #[]) (mvT hZ (own_w hw 218 rfl))) (mvT hZ (own_w hw 218 rfl)) (mvT hZ (own_w hw 217 rfl)) (by decide) (backOf (W := 0) (lw_v_rm l Z a0 hw [] (o79) ((3 : Int32)) (rq) (w28) T1210.heap n0 F1232 G1216 G1231 (by decide)) hZ (own_w hw 219 rfl) (own_w hw 3 rfl) (by decide) (by decide)) q1246a q1246c (g := (mkF m 193 #[ι p0, ι p1, ρ o1, ρ o9, ρ o19, ρ o30, ι v6, ι v7, ι v8, ρ o79, ι 1, ι 1, ι 1, ι 1, .val (.int (lw_v_f (0 : Int32) w28)), .val (.int (lw_v_f (1 : Int32) w28)), .val (.int (lw_v_f (2 : Int32) w28)), υ] [(.int 3), (.ref o79)])) rfl (by rw [hml]; rfl) (Steps.refl _) (argsL := [(.int 3)]) (rest := []) (lenOf own_pd17 rfl) rfl (by show 2 * 0 + _ ≤ _; exact Nat.le_of_eq rfl) (hb hby lw_d193) (fun _ _ => ⟨rfl, e1245, (by decide : 24 + 0 ≤ _), (by decide : 131 + 0 ≤ _)⟩)
  dsimp only [Pt.U, Pt.locs, Pt.cells, Pt.slots] at X1246 l1246 y1246 z1246 st1246 hQ1246
  subst l1246 y1246 z1246
  obtain ⟨rfl, N1246q, e1246⟩ := hQ1246
  have N1246 := Fr.app N1245 N1246q
  refine own_tr st1246 ?_
  rw [show (lw_v_f (3 : Int32) w28) = (1 : Int32) from own_lw0 hi0.2.2.2.2.2.2]
  show own_Dn p e below s _ _ _ (T1246.setTop (mkF m 196 #[ι p0, ι p1, ρ o1, ρ o9, ρ o19, ρ o30, ι v6, ι v7, ι v8, ρ o79, ι 1, ι 1, ι 1, ι 1, .val (.int (lw_v_f (0 : Int32) w28)), .val (.int (lw_v_f (1 : Int32) w28)), .val (.int (lw_v_f (2 : Int32) w28)), υ] [(.int 1)]))
  refine own_st (fun _ k => XS.istore X1246.here hx rfl (hb hby lw_d196) rfl (l' := #[ι p0, ι p1, ρ o1, ρ o9, ρ o19, ρ o30, ι v6, ι v7, ι v8, ρ o79, ι 1, ι 1, ι 1, ι 1, .val (.int (lw_v_f (0 : Int32) w28)), .val (.int (lw_v_f (1 : Int32) w28)), .val (.int (lw_v_f (2 : Int32) w28)), ι 1]) rfl k) ?_
  show own_Dn p e below s _ _ _ (T1246.setTop (mkF m 198 #[ι p0, ι p1, ρ o1, ρ o9, ρ o19, ρ o30, ι v6, ι v7, ι v8, ρ o79, ι 1, ι 1, ι 1, ι 1, .val (.int (lw_v_f (0 : Int32) w28)), .val (.int (lw_v_f (1 : Int32) w28)), .val (.int (lw_v_f (2 : Int32) w28)), ι 1] []))
  exact lw_c198 C0 X1246 e1246 N1246 (v6) (v7) (v8) ((lw_v_f (0 : Int32) w28)) ((lw_v_f (1 : Int32) w28)) ((lw_v_f (2 : Int32) w28)) F1232 F1233 F1234 hL ⟨(own_YX hi0.2.2.2.1), (own_YX hi0.2.2.2.2.1), (own_YX hi0.2.2.2.2.2.1)⟩ (by rw [hr0, lw_f157y])
def lw_f157n (p0 : Int32) (p1 : Int32) (w3 : Nat → Int32) (w9 : Nat → Int32) (w24 : Nat → Int32) (w25 : Nat → Int32) (w26 : Nat → Int32) (w27 : Nat → Int32) : Int32 :=
  lw_f198 p0 p1 ((0 : Int32)) ((0 : Int32)) ((0 : Int32)) ((1 : Int32)) ((1 : Int32)) ((1 : Int32))
set_option maxRecDepth 65536 in
set_option maxHeartbeats 40000000 in
theorem lw_c157n {p0 : Int32} {p1 : Int32} {w_a : Addr} {w_e : Addr} {w_k : Nat} {locs : List Loc} {o1 : Addr} {o19 : Addr} {o30 : Addr} {o79 : Addr} {o9 : Addr} {r1_94 : Addr} {r2_94 : Addr} {r3_94 : Addr} {r4_94 : Addr} {r5_94 : Addr} {r6_94 : Addr} {r7_94 : Addr} {r0 : Int32} (C0 : own_Cx p s m meth c Z a0 code 18 ς8 "law" (some .boolean)) (X0 : Stand p l e room_1 s m args below meth c T0 locs 18 95) (e0 : T0.heap = h1) (N0 : Fr n0 locs) (w3 : Nat → Int32) (w9 : Nat → Int32) (w24 : Nat → Int32) (w25 : Nat → Int32) (w26 : Nat → Int32) (w27 : Nat → Int32) (Z0 : n0 ≤ h1.size) (P1 : w_k ≤ h1.size) (K0 : Keep h0 h1 []) (P3 : own_Arf Z h1 o30 .int 1 (fun i => (.int (w3 i)))) (P4 : Exa Z h1 o79 ς0) (P5 : Exa Z h1 r2_94 ς1) (P6 : Exa Z h1 r3_94 ς3) (P7 : Fld Z h1 r3_94 ς6 "modCount" "I" (.int 0)) (P8 : Fld Z h1 r3_94 ς3 "size" "I" (.int 0)) (P9 : own_Arf Z h1 r4_94 .int 1 (fun i => (.int (w9 i)))) (P10 : Fld Z h1 o79 ς0 "data" "[I" (.ref r1_94)) (P11 : Fld Z h1 o79 ς0 "arity" "I" (.int 1)) (P12 : Fld Z h1 o79 ς0 "facts" ς5 (.ref r2_94)) (P13 : Fld Z h1 o79 ς0 "indexes" ς10 (.ref r3_94)) (P14 : Fld Z h1 o79 ς0 "removed" "[Z" .null) (P15 : Fld Z h1 o79 ς0 "size" "I" (.int 3)) (P16 : Fld Z h1 r2_94 ς1 "this$0" ς2 (.ref o79)) (P17 : Fld Z h1 r2_94 ς1 "positions" "[I" (.ref r4_94)) (P18 : Fld Z h1 r2_94 ς1 "firsts" "[I" (.ref r5_94)) (P19 : Fld Z h1 r2_94 ς1 "lasts" "[I" (.ref r6_94)) (P20 : Fld Z h1 r2_94 ς1 "rowKey" "[I" (.ref r7_94)) (P21 : Fld Z h1 r2_94 ς1 "next" "[I" .null) (P22 : Fld Z h1 r2_94 ς1 "previous" "[I" .null) (P23 : Fld Z h1 r2_94 ς1 "keys" "I" (.int 3)) (P24 : own_Arf Z h1 r1_94 .int 16 (fun i => (.int (w24 i)))) (P25 : own_Arf Z h1 r5_94 .int 16 (fun i => (.int (w25 i)))) (P26 : own_Arf Z h1 r6_94 .int 16 (fun i => (.int (w26 i)))) (P27 : own_Arf Z h1 r7_94 .int 1 (fun i => (.int (w27 i)))) (kn0 : o30 ≠ o79) (kn1 : n0 ≤ o79) (kn2 : h0.size ≤ o79) (kn3 : n0 ≤ r1_94) (kn4 : o79 ≠ r1_94) (kn5 : r1_94 ≠ r2_94) (kn6 : r1_94 ≠ r3_94) (kn7 : r1_94 ≠ r4_94) (kn8 : r1_94 ≠ r5_94) (kn9 : r1_94 ≠ r6_94) (kn10 : r1_94 ≠ r7_94) (kn11 : n0 ≤ r2_94) (kn12 : o79 ≠ r2_94) (kn13 : r2_94 ≠ r3_94) (kn14 : r2_94 ≠ r4_94) (kn15 : r2_94 ≠ r5_94) (kn16 : r2_94 ≠ r6_94) (kn17 : r2_94 ≠ r7_94) (kn18 : n0 ≤ r3_94) (kn19 : o79 ≠ r3_94) (kn20 : r3_94 ≠ r4_94) (kn21 : r3_94 ≠ r5_94) (kn22 : r3_94 ≠ r6_94) (kn23 : r3_94 ≠ r7_94) (kn24 : n0 ≤ r4_94) (kn25 : o79 ≠ r4_94) (kn26 : r4_94 ≠ r5_94) (kn27 : r4_94 ≠ r6_94) (kn28 : r4_94 ≠ r7_94) (kn29 : n0 ≤ r5_94) (kn30 : o79 ≠ r5_94) (kn31 : r5_94 ≠ r6_94) (kn32 : r5_94 ≠ r7_94) (kn33 : n0 ≤ r6_94) (kn34 : o79 ≠ r6_94) (kn35 : r6_94 ≠ r7_94) (kn36 : n0 ≤ r7_94) (kn37 : o79 ≠ r7_94) (kn38 : o30 ≠ r1_94) (kn39 : o30 ≠ r2_94) (kn40 : o30 ≠ r3_94) (kn41 : o30 ≠ r4_94) (kn42 : o30 ≠ r5_94) (kn43 : o30 ≠ r6_94) (kn44 : o30 ≠ r7_94) (kn45 : r1_94 ∈ ([] : List Addr) ∨ h0.size ≤ r1_94) (kn46 : r2_94 ∈ ([] : List Addr) ∨ h0.size ≤ r2_94) (kn47 : r3_94 ∈ ([] : List Addr) ∨ h0.size ≤ r3_94) (kn48 : r4_94 ∈ ([] : List Addr) ∨ h0.size ≤ r4_94) (kn49 : r5_94 ∈ ([] : List Addr) ∨ h0.size ≤ r5_94) (kn50 : r6_94 ∈ ([] : List Addr) ∨ h0.size ≤ r6_94) (kn51 : r7_94 ∈ ([] : List Addr) ∨ h0.size ≤ r7_94) (hL : own_LF n0 Z h0 w_a) (hi0 : w3 0 = p0 + Int32.ofNat 3 ∧ own_JE p0 [3] w25 w24 w9 ∧ (0 ≤ (3 : Int32).toInt ∧ (3 : Int32).toInt ≤ 3)) (hr0 : r0 = lw_f157n p0 p1 w3 w9 w24 w25 w26 w27) :
    own_Dn p e below s (lw_Q Z p0 p1 w_a w_e w_k r0 h0 n0) room_1.cells room_1.slots (T0.setTop (mkF m 157 #[ι p0, ι p1, ρ o1, ρ o9, ρ o19, ρ o30, ι 0, ι 0, ι 0, ρ o79, ι 1, ι 1, ι 1, υ, υ, υ, υ, υ] [])) := by
  obtain ⟨hx, hZ, hw, hby, hml, hown, hret, hlk, hnm⟩ := id C0
  refine own_st (fun _ k => XS.aload X0.here hx rfl (hb hby lw_d157) rfl rfl (XS.aload X0.here hx rfl (hb hby lw_d159) rfl rfl k)) ?_
  show own_Dn p e below s _ _ _ (T0.setTop (mkF m 161 #[ι p0, ι p1, ρ o1, ρ o9, ρ o19, ρ o30, ι 0, ι 0, ι 0, ρ o79, ι 1, ι 1, ι 1, υ, υ, υ, υ, υ] [(.ref o30), (.ref o79)]))
  obtain ⟨cq1175, kq1175, q1175a, q1175b, q1175c⟩ := isOf hZ e0 P4
  obtain ⟨_, _, ⟨T1175, L1175, k1175, n1175⟩, -, X1175, ⟨Lc1175, hQ1175, l1175, y1175, z1175⟩, st1175⟩ := X0.virtualBack hx (y := (⟨ς0, "add", "([I)Z"⟩ : MethodName)) (z := (⟨ς0, "add", "([I)Z"⟩ : MethodName)) hown (mvT hZ (own_w hw 114 rfl)) (mvT hZ (own_w hw 115 rfl)) (notFace_of_selects (args := #[]) (mvT hZ (own_w hw 117 rfl))) (mvT hZ (own_w hw 117 rfl)) (mvT hZ (own_w hw 116 rfl)) (by decide) (backOf (W := 0) (ra_rm l Z a0 hw [] (o79) (o30) (r4_94) (r1_94) (r5_94) (r6_94) (r7_94) (r2_94) (r3_94) (w9) (w24) (w25) (w26) (w27) ((3 : Int32)) ((3 : Int32)) (w3) h1 n0 Z0 P4 P10 P11 P12 P13 P14 P24 P6 P7 P8 P15 P5 P16 P17 P9 P18 P19 P20 P21 P22 P23 P25 P26 P27 P3 kn1 kn11 kn3 kn29 kn33 kn36 kn25 kn14 kn20 kn4 (Ne.symm kn5) (Ne.symm kn6) (Ne.symm kn7) kn30 kn15 kn21 kn26 kn8 kn34 kn16 kn22 kn27 kn9 kn31 kn37 kn17 kn23 kn28 kn10 kn32 kn35 kn38 (own_JE.P0 hi0.2.1) (own_JE.RA hi0.2.1 (c := (3 : Int32)) hi0.1 hi0.2.2) (own_RA_fit (own_JE.RA hi0.2.1 (c := (3 : Int32)) hi0.1 hi0.2.2)) (own_RA_s16 (own_JE.RA hi0.2.1 (c := (3 : Int32)) hi0.1 hi0.2.2))) hZ (own_w hw 118 rfl) (own_w hw 3 rfl) (by decide) (by decide)) q1175a q1175c (g := (mkF m 161 #[ι p0, ι p1, ρ o1, ρ o9, ρ o19, ρ o30, ι 0, ι 0, ι 0, ρ o79, ι 1, ι 1, ι 1, υ, υ, υ, υ, υ] [(.ref o30), (.ref o79)])) rfl (by rw [hml]; rfl) (Steps.refl _) (argsL := [(.ref o30)]) (rest := []) (lenOf own_pd16 rfl) rfl (by show 2 * 0 + _ ≤ _; exact Nat.le_of_eq rfl) (hb hby lw_d161) (fun _ _ => ⟨rfl, e0, (by decide : 18 + 1 ≤ _), (by decide : 95 + 4 ≤ _)⟩)
  dsimp only [Pt.U, Pt.locs, Pt.cells, Pt.slots] at X1175 l1175 y1175 z1175 st1175 hQ1175
  subst l1175 y1175 z1175
  obtain ⟨rfl, N1175q, K1175, G1176, G1177, G1178, G1179, G1180, G1181, G1182, G1183, G1184, G1185, G1186, G1187, G1188, G1189, G1190, G1191, G1192, G1193, G1194, G1195⟩ := hQ1175
  have F1196 : n0 ≤ T1175.heap.size := Nat.le_trans Z0 K1175.1
  have F1197 : w_k ≤ T1175.heap.size := Nat.le_trans P1 K1175.1
  have F1198 : Keep h0 T1175.heap [] := K0.trans K1175 (allS (Or.inr kn2) (allS kn46 (allS kn45 (allS kn49 (allS kn50 (allS kn51 all0))))))
  have F1199 := P3.keep K1175 (ninS kn0 (ninS kn39 (ninS kn38 (ninS kn42 (ninS kn43 (ninS kn44 nin0))))))
  have F1200 := P4.keep K1175
  have F1201 := P5.keep K1175
  have F1202 := P6.keep K1175
  have F1203 := P7.keep K1175 (ninS (Ne.symm kn19) (ninS (Ne.symm kn13) (ninS (Ne.symm kn6) (ninS kn21 (ninS kn22 (ninS kn23 nin0))))))
  have F1204 := P8.keep K1175 (ninS (Ne.symm kn19) (ninS (Ne.symm kn13) (ninS (Ne.symm kn6) (ninS kn21 (ninS kn22 (ninS kn23 nin0))))))
  have F1205 := P9.keep K1175 (ninS (Ne.symm kn25) (ninS (Ne.symm kn14) (ninS (Ne.symm kn7) (ninS kn26 (ninS kn27 (ninS kn28 nin0))))))
  have N1175 := Fr.app N0 N1175q
  refine own_tr st1175 ?_
  show own_Dn p e below s _ _ _ (T1175.setTop (mkF m 164 #[ι p0, ι p1, ρ o1, ρ o9, ρ o19, ρ o30, ι 0, ι 0, ι 0, ρ o79, ι 1, ι 1, ι 1, υ, υ, υ, υ, υ] [(.int 1)]))
  refine own_st (fun _ k => XS.istore X1175.here hx rfl (hb hby lw_d164) rfl (l' := #[ι p0, ι p1, ρ o1, ρ o9, ρ o19, ρ o30, ι 0, ι 0, ι 0, ρ o79, ι 1, ι 1, ι 1, ι 1, υ, υ, υ, υ]) rfl (XS.aload X1175.here hx rfl (hb hby lw_d166) rfl rfl (XS.iconst X1175.here hx rfl (hb hby lw_d168) k))) ?_
  show own_Dn p e below s _ _ _ (T1175.setTop (mkF m 169 #[ι p0, ι p1, ρ o1, ρ o9, ρ o19, ρ o30, ι 0, ι 0, ι 0, ρ o79, ι 1, ι 1, ι 1, ι 1, υ, υ, υ, υ] [(.int 0), (.ref o79)]))
  obtain ⟨cq1206, kq1206, q1206a, q1206b, q1206c⟩ := isOf hZ rfl G1176
  obtain ⟨_, _, ⟨T1206, L1206, k1206, n1206⟩, -, X1206, ⟨Lc1206, hQ1206, l1206, y1206, z1206⟩, st1206⟩ := X1175.virtualBack hx (y := (⟨ς0, "isLive", "(I)Z"⟩ : MethodName)) (z := (⟨ς0, "isLive", "(I)Z"⟩ : MethodName)) hown (mvT hZ (own_w hw 215 rfl)) (mvT hZ (own_w hw 216 rfl)) (notFace_of_selects (args := #[]) (mvT hZ (own_w hw 218 rfl))) (mvT hZ (own_w hw 218 rfl)) (mvT hZ (own_w hw 217 rfl)) (by decide) (backOf (W := 0) (lv_rm l Z a0 hw [] (o79) ((0 : Int32)) T1175.heap n0 F1196 G1181) hZ (own_w hw 219 rfl) (own_w hw 3 rfl) (by decide) (by decide)) q1206a q1206c (g := (mkF m 169 #[ι p0, ι p1, ρ o1, ρ o9, ρ o19, ρ o30, ι 0, ι 0, ι 0, ρ o79, ι 1, ι 1, ι 1, ι 1, υ, υ, υ, υ] [(.int 0), (.ref o79)])) rfl (by rw [hml]; rfl) (Steps.refl _) (argsL := [(.int 0)]) (rest := []) (lenOf own_pd17 rfl) rfl (by show 2 * 0 + _ ≤ _; exact Nat.le_of_eq rfl) (hb hby lw_d169) (fun _ _ => ⟨rfl, rfl, (by decide : 19 + 0 ≤ _), (by decide : 99 + 0 ≤ _)⟩)
  dsimp only [Pt.U, Pt.locs, Pt.cells, Pt.slots] at X1206 l1206 y1206 z1206 st1206 hQ1206
  subst l1206 y1206 z1206
  obtain ⟨rfl, N1206q, e1206⟩ := hQ1206
  have N1206 := Fr.app N1175 N1206q
  refine own_tr st1206 ?_
  show own_Dn p e below s _ _ _ (T1206.setTop (mkF m 172 #[ι p0, ι p1, ρ o1, ρ o9, ρ o19, ρ o30, ι 0, ι 0, ι 0, ρ o79, ι 1, ι 1, ι 1, ι 1, υ, υ, υ, υ] [(.int 1)]))
  refine own_st (fun _ k => XS.istore X1206.here hx rfl (hb hby lw_d172) rfl (l' := #[ι p0, ι p1, ρ o1, ρ o9, ρ o19, ρ o30, ι 0, ι 0, ι 0, ρ o79, ι 1, ι 1, ι 1, ι 1, ι 1, υ, υ, υ]) rfl (XS.aload X1206.here hx rfl (hb hby lw_d174) rfl rfl (XS.iconst X1206.here hx rfl (hb hby lw_d176) k))) ?_
  show own_Dn p e below s _ _ _ (T1206.setTop (mkF m 177 #[ι p0, ι p1, ρ o1, ρ o9, ρ o19, ρ o30, ι 0, ι 0, ι 0, ρ o79, ι 1, ι 1, ι 1, ι 1, ι 1, υ, υ, υ] [(.int 1), (.ref o79)]))
  obtain ⟨cq1207, kq1207, q1207a, q1207b, q1207c⟩ := isOf hZ e1206 G1176
  obtain ⟨_, _, ⟨T1207, L1207, k1207, n1207⟩, -, X1207, ⟨Lc1207, hQ1207, l1207, y1207, z1207⟩, st1207⟩ := X1206.virtualBack hx (y := (⟨ς0, "isLive", "(I)Z"⟩ : MethodName)) (z := (⟨ς0, "isLive", "(I)Z"⟩ : MethodName)) hown (mvT hZ (own_w hw 215 rfl)) (mvT hZ (own_w hw 216 rfl)) (notFace_of_selects (args := #[]) (mvT hZ (own_w hw 218 rfl))) (mvT hZ (own_w hw 218 rfl)) (mvT hZ (own_w hw 217 rfl)) (by decide) (backOf (W := 0) (lv_rm l Z a0 hw [] (o79) ((1 : Int32)) T1175.heap n0 F1196 G1181) hZ (own_w hw 219 rfl) (own_w hw 3 rfl) (by decide) (by decide)) q1207a q1207c (g := (mkF m 177 #[ι p0, ι p1, ρ o1, ρ o9, ρ o19, ρ o30, ι 0, ι 0, ι 0, ρ o79, ι 1, ι 1, ι 1, ι 1, ι 1, υ, υ, υ] [(.int 1), (.ref o79)])) rfl (by rw [hml]; rfl) (Steps.refl _) (argsL := [(.int 1)]) (rest := []) (lenOf own_pd17 rfl) rfl (by show 2 * 0 + _ ≤ _; exact Nat.le_of_eq rfl) (hb hby lw_d177) (fun _ _ => ⟨rfl, e1206, (by decide : 19 + 0 ≤ _), (by decide : 99 + 0 ≤ _)⟩)
  dsimp only [Pt.U, Pt.locs, Pt.cells, Pt.slots] at X1207 l1207 y1207 z1207 st1207 hQ1207
  subst l1207 y1207 z1207
  obtain ⟨rfl, N1207q, e1207⟩ := hQ1207
  have N1207 := Fr.app N1206 N1207q
  refine own_tr st1207 ?_
  show own_Dn p e below s _ _ _ (T1207.setTop (mkF m 180 #[ι p0, ι p1, ρ o1, ρ o9, ρ o19, ρ o30, ι 0, ι 0, ι 0, ρ o79, ι 1, ι 1, ι 1, ι 1, ι 1, υ, υ, υ] [(.int 1)]))
  refine own_st (fun _ k => XS.istore X1207.here hx rfl (hb hby lw_d180) rfl (l' := #[ι p0, ι p1, ρ o1, ρ o9, ρ o19, ρ o30, ι 0, ι 0, ι 0, ρ o79, ι 1, ι 1, ι 1, ι 1, ι 1, ι 1, υ, υ]) rfl (XS.aload X1207.here hx rfl (hb hby lw_d182) rfl rfl (XS.iconst X1207.here hx rfl (hb hby lw_d184) k))) ?_
  show own_Dn p e below s _ _ _ (T1207.setTop (mkF m 185 #[ι p0, ι p1, ρ o1, ρ o9, ρ o19, ρ o30, ι 0, ι 0, ι 0, ρ o79, ι 1, ι 1, ι 1, ι 1, ι 1, ι 1, υ, υ] [(.int 2), (.ref o79)]))
  obtain ⟨cq1208, kq1208, q1208a, q1208b, q1208c⟩ := isOf hZ e1207 G1176
  obtain ⟨_, _, ⟨T1208, L1208, k1208, n1208⟩, -, X1208, ⟨Lc1208, hQ1208, l1208, y1208, z1208⟩, st1208⟩ := X1207.virtualBack hx (y := (⟨ς0, "isLive", "(I)Z"⟩ : MethodName)) (z := (⟨ς0, "isLive", "(I)Z"⟩ : MethodName)) hown (mvT hZ (own_w hw 215 rfl)) (mvT hZ (own_w hw 216 rfl)) (notFace_of_selects (args := #[]) (mvT hZ (own_w hw 218 rfl))) (mvT hZ (own_w hw 218 rfl)) (mvT hZ (own_w hw 217 rfl)) (by decide) (backOf (W := 0) (lv_rm l Z a0 hw [] (o79) ((2 : Int32)) T1175.heap n0 F1196 G1181) hZ (own_w hw 219 rfl) (own_w hw 3 rfl) (by decide) (by decide)) q1208a q1208c (g := (mkF m 185 #[ι p0, ι p1, ρ o1, ρ o9, ρ o19, ρ o30, ι 0, ι 0, ι 0, ρ o79, ι 1, ι 1, ι 1, ι 1, ι 1, ι 1, υ, υ] [(.int 2), (.ref o79)])) rfl (by rw [hml]; rfl) (Steps.refl _) (argsL := [(.int 2)]) (rest := []) (lenOf own_pd17 rfl) rfl (by show 2 * 0 + _ ≤ _; exact Nat.le_of_eq rfl) (hb hby lw_d185) (fun _ _ => ⟨rfl, e1207, (by decide : 19 + 0 ≤ _), (by decide : 99 + 0 ≤ _)⟩)
  dsimp only [Pt.U, Pt.locs, Pt.cells, Pt.slots] at X1208 l1208 y1208 z1208 st1208 hQ1208
  subst l1208 y1208 z1208
  obtain ⟨rfl, N1208q, e1208⟩ := hQ1208
  have N1208 := Fr.app N1207 N1208q
  refine own_tr st1208 ?_
  show own_Dn p e below s _ _ _ (T1208.setTop (mkF m 188 #[ι p0, ι p1, ρ o1, ρ o9, ρ o19, ρ o30, ι 0, ι 0, ι 0, ρ o79, ι 1, ι 1, ι 1, ι 1, ι 1, ι 1, υ, υ] [(.int 1)]))
  refine own_st (fun _ k => XS.istore X1208.here hx rfl (hb hby lw_d188) rfl (l' := #[ι p0, ι p1, ρ o1, ρ o9, ρ o19, ρ o30, ι 0, ι 0, ι 0, ρ o79, ι 1, ι 1, ι 1, ι 1, ι 1, ι 1, ι 1, υ]) rfl (XS.aload X1208.here hx rfl (hb hby lw_d190) rfl rfl (XS.iconst X1208.here hx rfl (hb hby lw_d192) k))) ?_
  show own_Dn p e below s _ _ _ (T1208.setTop (mkF m 193 #[ι p0, ι p1, ρ o1, ρ o9, ρ o19, ρ o30, ι 0, ι 0, ι 0, ρ o79, ι 1, ι 1, ι 1, ι 1, ι 1, ι 1, ι 1, υ] [(.int 3), (.ref o79)]))
  obtain ⟨cq1209, kq1209, q1209a, q1209b, q1209c⟩ := isOf hZ e1208 G1176
  obtain ⟨_, _, ⟨T1209, L1209, k1209, n1209⟩, -, X1209, ⟨Lc1209, hQ1209, l1209, y1209, z1209⟩, st1209⟩ := X1208.virtualBack hx (y := (⟨ς0, "isLive", "(I)Z"⟩ : MethodName)) (z := (⟨ς0, "isLive", "(I)Z"⟩ : MethodName)) hown (mvT hZ (own_w hw 215 rfl)) (mvT hZ (own_w hw 216 rfl)) (notFace_of_selects (args := #[]) (mvT hZ (own_w hw 218 rfl))) (mvT hZ (own_w hw 218 rfl)) (mvT hZ (own_w hw 217 rfl)) (by decide) (backOf (W := 0) (lv_rm l Z a0 hw [] (o79) ((3 : Int32)) T1175.heap n0 F1196 G1181) hZ (own_w hw 219 rfl) (own_w hw 3 rfl) (by decide) (by decide)) q1209a q1209c (g := (mkF m 193 #[ι p0, ι p1, ρ o1, ρ o9, ρ o19, ρ o30, ι 0, ι 0, ι 0, ρ o79, ι 1, ι 1, ι 1, ι 1, ι 1, ι 1, ι 1, υ] [(.int 3), (.ref o79)])) rfl (by rw [hml]; rfl) (Steps.refl _) (argsL := [(.int 3)]) (rest := []) (lenOf own_pd17 rfl) rfl (by show 2 * 0 + _ ≤ _; exact Nat.le_of_eq rfl) (hb hby lw_d193) (fun _ _ => ⟨rfl, e1208, (by decide : 19 + 0 ≤ _), (by decide : 99 + 0 ≤ _)⟩)
  dsimp only [Pt.U, Pt.locs, Pt.cells, Pt.slots] at X1209 l1209 y1209 z1209 st1209 hQ1209
  subst l1209 y1209 z1209
  obtain ⟨rfl, N1209q, e1209⟩ := hQ1209
  have N1209 := Fr.app N1208 N1209q
  refine own_tr st1209 ?_
  show own_Dn p e below s _ _ _ (T1209.setTop (mkF m 196 #[ι p0, ι p1, ρ o1, ρ o9, ρ o19, ρ o30, ι 0, ι 0, ι 0, ρ o79, ι 1, ι 1, ι 1, ι 1, ι 1, ι 1, ι 1, υ] [(.int 1)]))
  refine own_st (fun _ k => XS.istore X1209.here hx rfl (hb hby lw_d196) rfl (l' := #[ι p0, ι p1, ρ o1, ρ o9, ρ o19, ρ o30, ι 0, ι 0, ι 0, ρ o79, ι 1, ι 1, ι 1, ι 1, ι 1, ι 1, ι 1, ι 1]) rfl k) ?_
  show own_Dn p e below s _ _ _ (T1209.setTop (mkF m 198 #[ι p0, ι p1, ρ o1, ρ o9, ρ o19, ρ o30, ι 0, ι 0, ι 0, ρ o79, ι 1, ι 1, ι 1, ι 1, ι 1, ι 1, ι 1, ι 1] []))
  exact lw_c198 C0 (Stand.mono X1209 (by decide) (by decide)) e1209 N1209 ((0 : Int32)) ((0 : Int32)) ((0 : Int32)) ((1 : Int32)) ((1 : Int32)) ((1 : Int32)) F1196 F1197 F1198 hL ⟨(Or.inl ⟨rfl, rfl⟩), (Or.inl ⟨rfl, rfl⟩), (Or.inl ⟨rfl, rfl⟩)⟩ (by rw [hr0, lw_f157n])
def lw_f146y (p0 : Int32) (p1 : Int32) (v6 : Int32) (v7 : Int32) (v8 : Int32) (w3 : Nat → Int32) (w9 : Nat → Int32) (w23 : Int32) (w24 : Nat → Int32) (w25 : Nat → Int32) (w26 : Nat → Int32) (w27 : Nat → Int32) (w28 : Nat → Int32) : Int32 :=
  if v8 = (0 : Int32) then
    lw_f157y p0 p1 (v6) (v7) ((0 : Int32)) (w3) (w9) (w23) (w24) (w25) (w26) (w27) (w28)
  else
    lw_f157y p0 p1 (v6) (v7) ((1 : Int32)) (w3) (w9) ((rs_g15 (2 : Int32) w9 w24 w25 w26 w27 w23 w28)) (w24) ((rs_g17 (2 : Int32) w9 w24 w25 w26 w27 w23 w28)) ((rs_g18 (2 : Int32) w9 w24 w25 w26 w27 w23 w28)) ((rs_g19 (2 : Int32) w9 w24 w25 w26 w27 w23 w28)) ((rs_g20 (2 : Int32) w9 w24 w25 w26 w27 w23 w28))
set_option maxRecDepth 65536 in
set_option maxHeartbeats 40000000 in
theorem lw_c146y {p0 : Int32} {p1 : Int32} {w_a : Addr} {w_e : Addr} {w_k : Nat} {locs : List Loc} {o1 : Addr} {o19 : Addr} {o30 : Addr} {o79 : Addr} {o9 : Addr} {r1_94 : Addr} {r2_94 : Addr} {r3_94 : Addr} {r4_94 : Addr} {r5_94 : Addr} {r6_94 : Addr} {r7_94 : Addr} {rq : Addr} {r0 : Int32} (C0 : own_Cx p s m meth c Z a0 code 18 ς8 "law" (some .boolean)) (X0 : Stand p l e room_1 s m args below meth c T0 locs 22 123) (e0 : T0.heap = h1) (N0 : Fr n0 locs) (v6 : Int32) (v7 : Int32) (v8 : Int32) (w3 : Nat → Int32) (w9 : Nat → Int32) (w23 : Int32) (w24 : Nat → Int32) (w25 : Nat → Int32) (w26 : Nat → Int32) (w27 : Nat → Int32) (w28 : Nat → Int32) (Z0 : n0 ≤ h1.size) (P1 : w_k ≤ h1.size) (K0 : Keep h0 h1 []) (P3 : own_Arf Z h1 o30 .int 1 (fun i => (.int (w3 i)))) (P4 : Exa Z h1 o79 ς0) (P5 : Exa Z h1 r2_94 ς1) (P6 : Exa Z h1 r3_94 ς3) (P7 : Fld Z h1 r3_94 ς6 "modCount" "I" (.int 0)) (P8 : Fld Z h1 r3_94 ς3 "size" "I" (.int 0)) (P9 : own_Arf Z h1 r4_94 .int 1 (fun i => (.int (w9 i)))) (P10 : Fld Z h1 o79 ς0 "data" "[I" (.ref r1_94)) (P11 : Fld Z h1 o79 ς0 "arity" "I" (.int 1)) (P12 : Fld Z h1 o79 ς0 "facts" ς5 (.ref r2_94)) (P13 : Fld Z h1 o79 ς0 "indexes" ς10 (.ref r3_94)) (P14 : Fld Z h1 o79 ς0 "removed" "[Z" (.ref rq)) (P15 : Fld Z h1 o79 ς0 "size" "I" (.int 3)) (P16 : Fld Z h1 r2_94 ς1 "this$0" ς2 (.ref o79)) (P17 : Fld Z h1 r2_94 ς1 "positions" "[I" (.ref r4_94)) (P18 : Fld Z h1 r2_94 ς1 "firsts" "[I" (.ref r5_94)) (P19 : Fld Z h1 r2_94 ς1 "lasts" "[I" (.ref r6_94)) (P20 : Fld Z h1 r2_94 ς1 "rowKey" "[I" (.ref r7_94)) (P21 : Fld Z h1 r2_94 ς1 "next" "[I" .null) (P22 : Fld Z h1 r2_94 ς1 "previous" "[I" .null) (P23 : Fld Z h1 r2_94 ς1 "keys" "I" (.int w23)) (P24 : own_Arf Z h1 r1_94 .int 16 (fun i => (.int (w24 i)))) (P25 : own_Arf Z h1 r5_94 .int 16 (fun i => (.int (w25 i)))) (P26 : own_Arf Z h1 r6_94 .int 16 (fun i => (.int (w26 i)))) (P27 : own_Arf Z h1 r7_94 .int 1 (fun i => (.int (w27 i)))) (P28 : own_Arf Z h1 rq .boolean 16 (fun i => (.int (w28 i)))) (kn0 : o30 ≠ o79) (kn1 : n0 ≤ o79) (kn2 : h0.size ≤ o79) (kn3 : n0 ≤ r1_94) (kn4 : o79 ≠ r1_94) (kn5 : r1_94 ≠ r2_94) (kn6 : r1_94 ≠ r3_94) (kn7 : r1_94 ≠ r4_94) (kn8 : r1_94 ≠ r5_94) (kn9 : r1_94 ≠ r6_94) (kn10 : r1_94 ≠ r7_94) (kn11 : n0 ≤ r2_94) (kn12 : o79 ≠ r2_94) (kn13 : r2_94 ≠ r3_94) (kn14 : r2_94 ≠ r4_94) (kn15 : r2_94 ≠ r5_94) (kn16 : r2_94 ≠ r6_94) (kn17 : r2_94 ≠ r7_94) (kn18 : n0 ≤ r3_94) (kn19 : o79 ≠ r3_94) (kn20 : r3_94 ≠ r4_94) (kn21 : r3_94 ≠ r5_94) (kn22 : r3_94 ≠ r6_94) (kn23 : r3_94 ≠ r7_94) (kn24 : n0 ≤ r4_94) (kn25 : o79 ≠ r4_94) (kn26 : r4_94 ≠ r5_94) (kn27 : r4_94 ≠ r6_94) (kn28 : r4_94 ≠ r7_94) (kn29 : n0 ≤ r5_94) (kn30 : o79 ≠ r5_94) (kn31 : r5_94 ≠ r6_94) (kn32 : r5_94 ≠ r7_94) (kn33 : n0 ≤ r6_94) (kn34 : o79 ≠ r6_94) (kn35 : r6_94 ≠ r7_94) (kn36 : n0 ≤ r7_94) (kn37 : o79 ≠ r7_94) (kn38 : o30 ≠ r1_94) (kn39 : o30 ≠ r2_94) (kn40 : o30 ≠ r3_94) (kn41 : o30 ≠ r4_94) (kn42 : o30 ≠ r5_94) (kn43 : o30 ≠ r6_94) (kn44 : o30 ≠ r7_94) (kn45 : r1_94 ∈ ([] : List Addr) ∨ h0.size ≤ r1_94) (kn46 : r2_94 ∈ ([] : List Addr) ∨ h0.size ≤ r2_94) (kn47 : r3_94 ∈ ([] : List Addr) ∨ h0.size ≤ r3_94) (kn48 : r4_94 ∈ ([] : List Addr) ∨ h0.size ≤ r4_94) (kn49 : r5_94 ∈ ([] : List Addr) ∨ h0.size ≤ r5_94) (kn50 : r6_94 ∈ ([] : List Addr) ∨ h0.size ≤ r6_94) (kn51 : r7_94 ∈ ([] : List Addr) ∨ h0.size ≤ r7_94) (kn52 : n0 ≤ rq) (kn53 : o79 ≠ rq) (kn54 : o30 ≠ rq) (kn55 : r2_94 ≠ rq) (kn56 : r3_94 ≠ rq) (kn57 : r4_94 ≠ rq) (kn58 : r1_94 ≠ rq) (kn59 : r5_94 ≠ rq) (kn60 : r6_94 ≠ rq) (kn61 : r7_94 ≠ rq) (kn62 : rq ∈ ([] : List Addr) ∨ h0.size ≤ rq) (hL : own_LF n0 Z h0 w_a) (hi0 : w3 0 = p0 + Int32.ofNat 3 ∧ own_B v8 ∧ own_JE p0 [2, 3] w25 w24 w9 ∧ (1 ≤ w23.toInt ∧ w23.toInt ≤ 3) ∧ own_Y v6 (w28 (0 : Int32).toNatClampNeg) ∧ own_Y v7 (w28 (1 : Int32).toNatClampNeg) ∧ w28 (2 : Int32).toNatClampNeg = (0 : Int32) ∧ w28 (3 : Int32).toNatClampNeg = (0 : Int32)) (hr0 : r0 = lw_f146y p0 p1 v6 v7 v8 w3 w9 w23 w24 w25 w26 w27 w28) :
    own_Dn p e below s (lw_Q Z p0 p1 w_a w_e w_k r0 h0 n0) room_1.cells room_1.slots (T0.setTop (mkF m 146 #[ι p0, ι p1, ρ o1, ρ o9, ρ o19, ρ o30, ι v6, ι v7, ι v8, ρ o79, ι 1, ι 1, ι 1, υ, υ, υ, υ, υ] [])) := by
  obtain ⟨hx, hZ, hw, hby, hml, hown, hret, hlk, hnm⟩ := id C0
  refine own_st (fun _ k => XS.iload X0.here hx rfl (hb hby lw_d146) rfl k) ?_
  show own_Dn p e below s _ _ _ (T0.setTop (mkF m 148 #[ι p0, ι p1, ρ o1, ρ o9, ρ o19, ρ o30, ι v6, ι v7, ι v8, ρ o79, ι 1, ι 1, ι 1, υ, υ, υ, υ, υ] [(.int v8)]))
  rcases hi0.2.1 with rfl | rfl
  · refine own_st (fun _ k => XS.ifYes X0.here hx rfl (pc0 := 148) (pc' := 157) rfl (hb hby lw_d148) rfl ((if0 _ _).trans (teq (by decide : (0 : Int32) = (0 : Int32))).1) (by decide) (by decide) k) ?_
    show own_Dn p e below s _ _ _ (T0.setTop (mkF m 157 #[ι p0, ι p1, ρ o1, ρ o9, ρ o19, ρ o30, ι v6, ι v7, ι 0, ρ o79, ι 1, ι 1, ι 1, υ, υ, υ, υ, υ] []))
    exact lw_c157y C0 (Stand.mono X0 (by decide) (by decide)) e0 N0 (v6) (v7) ((0 : Int32)) (w3) (w9) (w23) (w24) (w25) (w26) (w27) (w28) Z0 P1 K0 P3 P4 P5 P6 P7 P8 P9 P10 P11 P12 P13 P14 P15 P16 P17 P18 P19 P20 P21 P22 P23 P24 P25 P26 P27 P28 kn0 kn1 kn2 kn3 kn4 kn5 kn6 kn7 kn8 kn9 kn10 kn11 kn12 kn13 kn14 kn15 kn16 kn17 kn18 kn19 kn20 kn21 kn22 kn23 kn24 kn25 kn26 kn27 kn28 kn29 kn30 kn31 kn32 kn33 kn34 kn35 kn36 kn37 kn38 kn39 kn40 kn41 kn42 kn43 kn44 kn45 kn46 kn47 kn48 kn49 kn50 kn51 kn52 kn53 kn54 kn55 kn56 kn57 kn58 kn59 kn60 kn61 kn62 hL ⟨hi0.1, (own_JE.sub hi0.2.2.1 (by decide)), (own_clo (lo := 0) hi0.2.2.2.1), hi0.2.2.2.2.1, hi0.2.2.2.2.2.1, (Or.inl ⟨rfl, hi0.2.2.2.2.2.2.1⟩), hi0.2.2.2.2.2.2.2⟩ (by rw [hr0, lw_f146y, if_pos rfl])
  · refine own_st (fun _ k => XS.ifNo X0.here hx rfl (hb hby lw_d148) rfl ((if0 _ _).trans (feq (by decide : ¬ ((1 : Int32) = (0 : Int32)))).1) k) ?_
    show own_Dn p e below s _ _ _ (T0.setTop (mkF m 151 #[ι p0, ι p1, ρ o1, ρ o9, ρ o19, ρ o30, ι v6, ι v7, ι 1, ρ o79, ι 1, ι 1, ι 1, υ, υ, υ, υ, υ] []))
    refine own_st (fun _ k => XS.aload X0.here hx rfl (hb hby lw_d151) rfl rfl (XS.iconst X0.here hx rfl (hb hby lw_d153) k)) ?_
    show own_Dn p e below s _ _ _ (T0.setTop (mkF m 154 #[ι p0, ι p1, ρ o1, ρ o9, ρ o19, ρ o30, ι v6, ι v7, ι 1, ρ o79, ι 1, ι 1, ι 1, υ, υ, υ, υ, υ] [(.int 2), (.ref o79)]))
    obtain ⟨cq1142, kq1142, q1142a, q1142b, q1142c⟩ := isOf hZ e0 P4
    obtain ⟨_, _, ⟨T1142, L1142, k1142, n1142⟩, -, X1142, ⟨Lc1142, hQ1142, l1142, y1142, z1142⟩, st1142⟩ := X0.virtualBack hx (y := (⟨ς0, "remove", "(I)V"⟩ : MethodName)) (z := (⟨ς0, "remove", "(I)V"⟩ : MethodName)) hown (mvT hZ (own_w hw 197 rfl)) (mvT hZ (own_w hw 198 rfl)) (notFace_of_selects (args := #[]) (mvT hZ (own_w hw 200 rfl))) (mvT hZ (own_w hw 200 rfl)) (mvT hZ (own_w hw 199 rfl)) (by decide) (backOf (W := 0) (rs_rm l Z a0 hw [] (o79) ((2 : Int32)) (r4_94) (r1_94) (r5_94) (r6_94) (r7_94) (r2_94) (r3_94) (w9) (w24) (w25) (w26) (w27) (w23) (rq) (w28) h1 n0 Z0 P4 P10 P11 P12 P13 P14 P24 P6 P7 P8 P15 P5 P16 P17 P9 P18 P19 P20 P21 P22 P23 P25 P26 P27 P28 kn1 kn11 kn3 kn29 kn33 kn36 kn52 kn25 kn14 kn20 kn4 (Ne.symm kn5) (Ne.symm kn6) (Ne.symm kn7) kn30 kn15 kn21 kn26 kn8 kn34 kn16 kn22 kn27 kn9 kn31 kn37 kn17 kn23 kn28 kn10 kn32 kn35 kn53 kn55 kn56 kn57 kn58 kn59 kn60 kn61 (own_JE.P0 hi0.2.2.1) (own_JE.FB hi0.2.2.1) (by decide) (own_JE.din hi0.2.2.1 (by decide) (by decide))) hZ (own_w hw 201 rfl) (own_w hw 3 rfl) (by decide) (by decide)) q1142a q1142c (g := (mkF m 154 #[ι p0, ι p1, ρ o1, ρ o9, ρ o19, ρ o30, ι v6, ι v7, ι 1, ρ o79, ι 1, ι 1, ι 1, υ, υ, υ, υ, υ] [(.int 2), (.ref o79)])) rfl (by rw [hml]; rfl) (Steps.refl _) (argsL := [(.int 2)]) (rest := []) (lenOf own_pd5 rfl) rfl (by show 2 * 0 + _ ≤ _; exact Nat.le_of_eq rfl) (hb hby lw_d154) (fun _ _ => ⟨rfl, e0, (by decide : 22 + 1 ≤ _), (by decide : 123 + 4 ≤ _)⟩)
    dsimp only [Pt.U, Pt.locs, Pt.cells, Pt.slots] at X1142 l1142 y1142 z1142 st1142 hQ1142
    subst l1142 y1142 z1142
    obtain ⟨rfl, N1142q, K1142, G1143, G1144, G1145, G1146, G1147, G1148, G1149, G1150, G1151, G1152, G1153, G1154, G1155, G1156, G1157, G1158, G1159, G1160, G1161, G1162, G1163⟩ := hQ1142
    have F1164 : n0 ≤ T1142.heap.size := Nat.le_trans Z0 K1142.1
    have F1165 : w_k ≤ T1142.heap.size := Nat.le_trans P1 K1142.1
    have F1166 : Keep h0 T1142.heap [] := K0.trans K1142 (allS (Or.inr kn2) (allS kn46 (allS kn45 (allS kn49 (allS kn50 (allS kn51 (allS kn62 all0)))))))
    have F1167 := P3.keep K1142 (ninS kn0 (ninS kn39 (ninS kn38 (ninS kn42 (ninS kn43 (ninS kn44 (ninS kn54 nin0)))))))
    have F1168 := P4.keep K1142
    have F1169 := P5.keep K1142
    have F1170 := P6.keep K1142
    have F1171 := P7.keep K1142 (ninS (Ne.symm kn19) (ninS (Ne.symm kn13) (ninS (Ne.symm kn6) (ninS kn21 (ninS kn22 (ninS kn23 (ninS kn56 nin0)))))))
    have F1172 := P8.keep K1142 (ninS (Ne.symm kn19) (ninS (Ne.symm kn13) (ninS (Ne.symm kn6) (ninS kn21 (ninS kn22 (ninS kn23 (ninS kn56 nin0)))))))
    have F1173 := P9.keep K1142 (ninS (Ne.symm kn25) (ninS (Ne.symm kn14) (ninS (Ne.symm kn7) (ninS kn26 (ninS kn27 (ninS kn28 (ninS kn57 nin0)))))))
    have N1142 := Fr.app N0 N1142q
    refine own_tr st1142 ?_
    have hJ1174 : own_JE p0 [3] (rs_g17 (2 : Int32) w9 w24 w25 w26 w27 w23 w28) w24 w9 ∧ (rs_g15 (2 : Int32) w9 w24 w25 w26 w27 w23 w28) = w23 - (1 : Int32) := own_JE.rem hi0.2.2.1 (by decide) (by decide) (by decide)
    show own_Dn p e below s _ _ _ (T1142.setTop (mkF m 157 #[ι p0, ι p1, ρ o1, ρ o9, ρ o19, ρ o30, ι v6, ι v7, ι 1, ρ o79, ι 1, ι 1, ι 1, υ, υ, υ, υ, υ] []))
    exact lw_c157y C0 X1142 rfl N1142 (v6) (v7) ((1 : Int32)) (w3) (w9) ((rs_g15 (2 : Int32) w9 w24 w25 w26 w27 w23 w28)) (w24) ((rs_g17 (2 : Int32) w9 w24 w25 w26 w27 w23 w28)) ((rs_g18 (2 : Int32) w9 w24 w25 w26 w27 w23 w28)) ((rs_g19 (2 : Int32) w9 w24 w25 w26 w27 w23 w28)) ((rs_g20 (2 : Int32) w9 w24 w25 w26 w27 w23 w28)) F1164 F1165 F1166 F1167 G1143 G1150 F1170 F1171 F1172 F1173 G1144 G1145 G1146 G1147 G1148 G1149 G1151 G1152 G1153 G1154 G1155 G1156 G1157 G1158 G1159 G1160 G1161 G1162 G1163 kn0 kn1 kn2 kn3 kn4 kn5 kn6 kn7 kn8 kn9 kn10 kn11 kn12 kn13 kn14 kn15 kn16 kn17 kn18 kn19 kn20 kn21 kn22 kn23 kn24 kn25 kn26 kn27 kn28 kn29 kn30 kn31 kn32 kn33 kn34 kn35 kn36 kn37 kn38 kn39 kn40 kn41 kn42 kn43 kn44 kn45 kn46 kn47 kn48 kn49 kn50 kn51 kn52 kn53 kn54 kn55 kn56 kn57 kn58 kn59 kn60 kn61 kn62 hL ⟨hi0.1, hJ1174.1, (own_cdec (lo := 0) hi0.2.2.2.1 (by decide) hJ1174.2), (own_Y_up (by decide) hi0.2.2.2.2.1), (own_Y_up (by decide) hi0.2.2.2.2.2.1), (Or.inr ⟨rfl, own_V_same _ _⟩), (own_V_other (by decide) hi0.2.2.2.2.2.2.2)⟩ (by rw [hr0, lw_f146y, if_neg (by decide : ¬ (1 : Int32) = (0 : Int32))])
def lw_f146n (p0 : Int32) (p1 : Int32) (v8 : Int32) (w3 : Nat → Int32) (w9 : Nat → Int32) (w24 : Nat → Int32) (w25 : Nat → Int32) (w26 : Nat → Int32) (w27 : Nat → Int32) : Int32 :=
  if v8 = (0 : Int32) then
    lw_f157n p0 p1 (w3) (w9) (w24) (w25) (w26) (w27)
  else
    lw_f157y p0 p1 ((0 : Int32)) ((0 : Int32)) ((1 : Int32)) (w3) (w9) ((2 : Int32)) (w24) ((rr_g17 (2 : Int32) w9 w24 w25 w26 w27 (3 : Int32))) ((rr_g18 (2 : Int32) w9 w24 w25 w26 w27 (3 : Int32))) ((rr_g19 (2 : Int32) w9 w24 w25 w26 w27 (3 : Int32))) ((rr_g20 (2 : Int32) w9 w24 w25 w26 w27 (3 : Int32)))
set_option maxRecDepth 65536 in
set_option maxHeartbeats 40000000 in
theorem lw_c146n {p0 : Int32} {p1 : Int32} {w_a : Addr} {w_e : Addr} {w_k : Nat} {locs : List Loc} {o1 : Addr} {o19 : Addr} {o30 : Addr} {o79 : Addr} {o9 : Addr} {r1_94 : Addr} {r2_94 : Addr} {r3_94 : Addr} {r4_94 : Addr} {r5_94 : Addr} {r6_94 : Addr} {r7_94 : Addr} {r0 : Int32} (C0 : own_Cx p s m meth c Z a0 code 18 ς8 "law" (some .boolean)) (X0 : Stand p l e room_1 s m args below meth c T0 locs 18 95) (e0 : T0.heap = h1) (N0 : Fr n0 locs) (v8 : Int32) (w3 : Nat → Int32) (w9 : Nat → Int32) (w24 : Nat → Int32) (w25 : Nat → Int32) (w26 : Nat → Int32) (w27 : Nat → Int32) (Z0 : n0 ≤ h1.size) (P1 : w_k ≤ h1.size) (K0 : Keep h0 h1 []) (P3 : own_Arf Z h1 o30 .int 1 (fun i => (.int (w3 i)))) (P4 : Exa Z h1 o79 ς0) (P5 : Exa Z h1 r2_94 ς1) (P6 : Exa Z h1 r3_94 ς3) (P7 : Fld Z h1 r3_94 ς6 "modCount" "I" (.int 0)) (P8 : Fld Z h1 r3_94 ς3 "size" "I" (.int 0)) (P9 : own_Arf Z h1 r4_94 .int 1 (fun i => (.int (w9 i)))) (P10 : Fld Z h1 o79 ς0 "data" "[I" (.ref r1_94)) (P11 : Fld Z h1 o79 ς0 "arity" "I" (.int 1)) (P12 : Fld Z h1 o79 ς0 "facts" ς5 (.ref r2_94)) (P13 : Fld Z h1 o79 ς0 "indexes" ς10 (.ref r3_94)) (P14 : Fld Z h1 o79 ς0 "removed" "[Z" .null) (P15 : Fld Z h1 o79 ς0 "size" "I" (.int 3)) (P16 : Fld Z h1 r2_94 ς1 "this$0" ς2 (.ref o79)) (P17 : Fld Z h1 r2_94 ς1 "positions" "[I" (.ref r4_94)) (P18 : Fld Z h1 r2_94 ς1 "firsts" "[I" (.ref r5_94)) (P19 : Fld Z h1 r2_94 ς1 "lasts" "[I" (.ref r6_94)) (P20 : Fld Z h1 r2_94 ς1 "rowKey" "[I" (.ref r7_94)) (P21 : Fld Z h1 r2_94 ς1 "next" "[I" .null) (P22 : Fld Z h1 r2_94 ς1 "previous" "[I" .null) (P23 : Fld Z h1 r2_94 ς1 "keys" "I" (.int 3)) (P24 : own_Arf Z h1 r1_94 .int 16 (fun i => (.int (w24 i)))) (P25 : own_Arf Z h1 r5_94 .int 16 (fun i => (.int (w25 i)))) (P26 : own_Arf Z h1 r6_94 .int 16 (fun i => (.int (w26 i)))) (P27 : own_Arf Z h1 r7_94 .int 1 (fun i => (.int (w27 i)))) (kn0 : o30 ≠ o79) (kn1 : n0 ≤ o79) (kn2 : h0.size ≤ o79) (kn3 : n0 ≤ r1_94) (kn4 : o79 ≠ r1_94) (kn5 : r1_94 ≠ r2_94) (kn6 : r1_94 ≠ r3_94) (kn7 : r1_94 ≠ r4_94) (kn8 : r1_94 ≠ r5_94) (kn9 : r1_94 ≠ r6_94) (kn10 : r1_94 ≠ r7_94) (kn11 : n0 ≤ r2_94) (kn12 : o79 ≠ r2_94) (kn13 : r2_94 ≠ r3_94) (kn14 : r2_94 ≠ r4_94) (kn15 : r2_94 ≠ r5_94) (kn16 : r2_94 ≠ r6_94) (kn17 : r2_94 ≠ r7_94) (kn18 : n0 ≤ r3_94) (kn19 : o79 ≠ r3_94) (kn20 : r3_94 ≠ r4_94) (kn21 : r3_94 ≠ r5_94) (kn22 : r3_94 ≠ r6_94) (kn23 : r3_94 ≠ r7_94) (kn24 : n0 ≤ r4_94) (kn25 : o79 ≠ r4_94) (kn26 : r4_94 ≠ r5_94) (kn27 : r4_94 ≠ r6_94) (kn28 : r4_94 ≠ r7_94) (kn29 : n0 ≤ r5_94) (kn30 : o79 ≠ r5_94) (kn31 : r5_94 ≠ r6_94) (kn32 : r5_94 ≠ r7_94) (kn33 : n0 ≤ r6_94) (kn34 : o79 ≠ r6_94) (kn35 : r6_94 ≠ r7_94) (kn36 : n0 ≤ r7_94) (kn37 : o79 ≠ r7_94) (kn38 : o30 ≠ r1_94) (kn39 : o30 ≠ r2_94) (kn40 : o30 ≠ r3_94) (kn41 : o30 ≠ r4_94) (kn42 : o30 ≠ r5_94) (kn43 : o30 ≠ r6_94) (kn44 : o30 ≠ r7_94) (kn45 : r1_94 ∈ ([] : List Addr) ∨ h0.size ≤ r1_94) (kn46 : r2_94 ∈ ([] : List Addr) ∨ h0.size ≤ r2_94) (kn47 : r3_94 ∈ ([] : List Addr) ∨ h0.size ≤ r3_94) (kn48 : r4_94 ∈ ([] : List Addr) ∨ h0.size ≤ r4_94) (kn49 : r5_94 ∈ ([] : List Addr) ∨ h0.size ≤ r5_94) (kn50 : r6_94 ∈ ([] : List Addr) ∨ h0.size ≤ r6_94) (kn51 : r7_94 ∈ ([] : List Addr) ∨ h0.size ≤ r7_94) (hL : own_LF n0 Z h0 w_a) (hi0 : w3 0 = p0 + Int32.ofNat 3 ∧ own_B v8 ∧ own_JE p0 [2, 3] w25 w24 w9 ∧ (1 ≤ (3 : Int32).toInt ∧ (3 : Int32).toInt ≤ 3)) (hr0 : r0 = lw_f146n p0 p1 v8 w3 w9 w24 w25 w26 w27) :
    own_Dn p e below s (lw_Q Z p0 p1 w_a w_e w_k r0 h0 n0) room_1.cells room_1.slots (T0.setTop (mkF m 146 #[ι p0, ι p1, ρ o1, ρ o9, ρ o19, ρ o30, ι 0, ι 0, ι v8, ρ o79, ι 1, ι 1, ι 1, υ, υ, υ, υ, υ] [])) := by
  obtain ⟨hx, hZ, hw, hby, hml, hown, hret, hlk, hnm⟩ := id C0
  refine own_st (fun _ k => XS.iload X0.here hx rfl (hb hby lw_d146) rfl k) ?_
  show own_Dn p e below s _ _ _ (T0.setTop (mkF m 148 #[ι p0, ι p1, ρ o1, ρ o9, ρ o19, ρ o30, ι 0, ι 0, ι v8, ρ o79, ι 1, ι 1, ι 1, υ, υ, υ, υ, υ] [(.int v8)]))
  rcases hi0.2.1 with rfl | rfl
  · refine own_st (fun _ k => XS.ifYes X0.here hx rfl (pc0 := 148) (pc' := 157) rfl (hb hby lw_d148) rfl ((if0 _ _).trans (teq (by decide : (0 : Int32) = (0 : Int32))).1) (by decide) (by decide) k) ?_
    show own_Dn p e below s _ _ _ (T0.setTop (mkF m 157 #[ι p0, ι p1, ρ o1, ρ o9, ρ o19, ρ o30, ι 0, ι 0, ι 0, ρ o79, ι 1, ι 1, ι 1, υ, υ, υ, υ, υ] []))
    exact lw_c157n C0 X0 e0 N0 (w3) (w9) (w24) (w25) (w26) (w27) Z0 P1 K0 P3 P4 P5 P6 P7 P8 P9 P10 P11 P12 P13 P14 P15 P16 P17 P18 P19 P20 P21 P22 P23 P24 P25 P26 P27 kn0 kn1 kn2 kn3 kn4 kn5 kn6 kn7 kn8 kn9 kn10 kn11 kn12 kn13 kn14 kn15 kn16 kn17 kn18 kn19 kn20 kn21 kn22 kn23 kn24 kn25 kn26 kn27 kn28 kn29 kn30 kn31 kn32 kn33 kn34 kn35 kn36 kn37 kn38 kn39 kn40 kn41 kn42 kn43 kn44 kn45 kn46 kn47 kn48 kn49 kn50 kn51 hL ⟨hi0.1, (own_JE.sub hi0.2.2.1 (by decide)), (by decide)⟩ (by rw [hr0, lw_f146n, if_pos rfl])
  · refine own_st (fun _ k => XS.ifNo X0.here hx rfl (hb hby lw_d148) rfl ((if0 _ _).trans (feq (by decide : ¬ ((1 : Int32) = (0 : Int32)))).1) k) ?_
    show own_Dn p e below s _ _ _ (T0.setTop (mkF m 151 #[ι p0, ι p1, ρ o1, ρ o9, ρ o19, ρ o30, ι 0, ι 0, ι 1, ρ o79, ι 1, ι 1, ι 1, υ, υ, υ, υ, υ] []))
    refine own_st (fun _ k => XS.aload X0.here hx rfl (hb hby lw_d151) rfl rfl (XS.iconst X0.here hx rfl (hb hby lw_d153) k)) ?_
    show own_Dn p e below s _ _ _ (T0.setTop (mkF m 154 #[ι p0, ι p1, ρ o1, ρ o9, ρ o19, ρ o30, ι 0, ι 0, ι 1, ρ o79, ι 1, ι 1, ι 1, υ, υ, υ, υ, υ] [(.int 2), (.ref o79)]))
    obtain ⟨cq1099, kq1099, q1099a, q1099b, q1099c⟩ := isOf hZ e0 P4
    obtain ⟨_, _, ⟨T1099, L1099, k1099, n1099⟩, -, X1099, ⟨Lc1099, hQ1099, l1099, y1099, z1099⟩, st1099⟩ := X0.virtualBack hx (y := (⟨ς0, "remove", "(I)V"⟩ : MethodName)) (z := (⟨ς0, "remove", "(I)V"⟩ : MethodName)) hown (mvT hZ (own_w hw 197 rfl)) (mvT hZ (own_w hw 198 rfl)) (notFace_of_selects (args := #[]) (mvT hZ (own_w hw 200 rfl))) (mvT hZ (own_w hw 200 rfl)) (mvT hZ (own_w hw 199 rfl)) (by decide) (backOf (W := 0) (rr_rm l Z a0 hw [] (o79) ((2 : Int32)) (r4_94) (r1_94) (r5_94) (r6_94) (r7_94) (r2_94) (r3_94) (w9) (w24) (w25) (w26) (w27) ((3 : Int32)) h1 n0 Z0 P4 P10 P11 P12 P13 P14 P24 P6 P7 P8 P15 P5 P16 P17 P9 P18 P19 P20 P21 P22 P23 P25 P26 P27 kn1 kn11 kn3 kn29 kn33 kn36 kn25 kn14 kn20 kn4 (Ne.symm kn5) (Ne.symm kn6) (Ne.symm kn7) kn30 kn15 kn21 kn26 kn8 kn34 kn16 kn22 kn27 kn9 kn31 kn37 kn17 kn23 kn28 kn10 kn32 kn35 (own_JE.P0 hi0.2.2.1) (own_JE.FB hi0.2.2.1) (by decide) (own_JE.din hi0.2.2.1 (by decide) (by decide))) hZ (own_w hw 201 rfl) (own_w hw 3 rfl) (by decide) (by decide)) q1099a q1099c (g := (mkF m 154 #[ι p0, ι p1, ρ o1, ρ o9, ρ o19, ρ o30, ι 0, ι 0, ι 1, ρ o79, ι 1, ι 1, ι 1, υ, υ, υ, υ, υ] [(.int 2), (.ref o79)])) rfl (by rw [hml]; rfl) (Steps.refl _) (argsL := [(.int 2)]) (rest := []) (lenOf own_pd5 rfl) rfl (by show 2 * 0 + _ ≤ _; exact Nat.le_of_eq rfl) (hb hby lw_d154) (fun _ _ => ⟨rfl, e0, (by decide : 18 + 3 ≤ _), (by decide : 95 + 24 ≤ _)⟩)
    dsimp only [Pt.U, Pt.locs, Pt.cells, Pt.slots] at X1099 l1099 y1099 z1099 st1099 hQ1099
    subst l1099 y1099 z1099
    obtain ⟨rfl, N1099q, K1099, rq, ge1099_0, or1099_0, nb1099_0, G1100, G1101, G1102, G1103, G1104, G1105, G1106, G1107, G1108, G1109, G1110, G1111, G1112, G1113, G1114, G1115, G1116, G1117, G1118, G1119, G1120⟩ := hQ1099
    have ne1121 : o30 ≠ rq := own_ne_or or1099_0 P3.lt nin0
    have ne1122 : r2_94 ≠ rq := own_ne_or or1099_0 P5.lt nin0
    have ne1123 : r3_94 ≠ rq := own_ne_or or1099_0 P6.lt nin0
    have ne1124 : r4_94 ≠ rq := own_ne_or or1099_0 P9.lt nin0
    have ne1125 : r1_94 ≠ rq := own_ne_or or1099_0 P24.lt nin0
    have ne1126 : r5_94 ≠ rq := own_ne_or or1099_0 P25.lt nin0
    have ne1127 : r6_94 ≠ rq := own_ne_or or1099_0 P26.lt nin0
    have ne1128 : r7_94 ≠ rq := own_ne_or or1099_0 P27.lt nin0
    have or1129 : rq ∈ ([] : List Addr) ∨ h0.size ≤ rq := own_or_up or1099_0 K0.1 all0
    have F1130 : n0 ≤ T1099.heap.size := Nat.le_trans Z0 K1099.1
    have F1131 : w_k ≤ T1099.heap.size := Nat.le_trans P1 K1099.1
    have F1132 : Keep h0 T1099.heap [] := K0.trans K1099 (allS (Or.inr kn2) (allS kn46 (allS kn45 (allS kn49 (allS kn50 (allS kn51 all0))))))
    have F1133 := P3.keep K1099 (ninS kn0 (ninS kn39 (ninS kn38 (ninS kn42 (ninS kn43 (ninS kn44 nin0))))))
    have F1134 := P4.keep K1099
    have F1135 := P5.keep K1099
    have F1136 := P6.keep K1099
    have F1137 := P7.keep K1099 (ninS (Ne.symm kn19) (ninS (Ne.symm kn13) (ninS (Ne.symm kn6) (ninS kn21 (ninS kn22 (ninS kn23 nin0))))))
    have F1138 := P8.keep K1099 (ninS (Ne.symm kn19) (ninS (Ne.symm kn13) (ninS (Ne.symm kn6) (ninS kn21 (ninS kn22 (ninS kn23 nin0))))))
    have F1139 := P9.keep K1099 (ninS (Ne.symm kn25) (ninS (Ne.symm kn14) (ninS (Ne.symm kn7) (ninS kn26 (ninS kn27 (ninS kn28 nin0))))))
    have N1099 := Fr.app N0 N1099q
    refine own_tr st1099 ?_
    have hJ1140 : own_JE p0 [3] (rr_g17 (2 : Int32) w9 w24 w25 w26 w27 (3 : Int32)) w24 w9 ∧ (rr_g15 (2 : Int32) w9 w24 w25 w26 w27 (3 : Int32)) = (3 : Int32) - (1 : Int32) := own_JE.rem hi0.2.2.1 (by decide) (by decide) (by decide)
    have G1141 : Fld Z T1099.heap r2_94 ς1 "keys" "I" (.int 2) := own_FldE (hJ1140.2.trans (by decide : (3 : Int32) - (1 : Int32) = (2 : Int32))) G1115
    show own_Dn p e below s _ _ _ (T1099.setTop (mkF m 157 #[ι p0, ι p1, ρ o1, ρ o9, ρ o19, ρ o30, ι 0, ι 0, ι 1, ρ o79, ι 1, ι 1, ι 1, υ, υ, υ, υ, υ] []))
    exact lw_c157y C0 (Stand.mono X1099 (by decide) (by decide)) rfl N1099 ((0 : Int32)) ((0 : Int32)) ((1 : Int32)) (w3) (w9) ((2 : Int32)) (w24) ((rr_g17 (2 : Int32) w9 w24 w25 w26 w27 (3 : Int32))) ((rr_g18 (2 : Int32) w9 w24 w25 w26 w27 (3 : Int32))) ((rr_g19 (2 : Int32) w9 w24 w25 w26 w27 (3 : Int32))) ((rr_g20 (2 : Int32) w9 w24 w25 w26 w27 (3 : Int32))) F1130 F1131 F1132 F1133 G1100 G1107 F1136 F1137 F1138 F1139 G1101 G1102 G1103 G1104 G1105 G1106 G1108 G1109 G1110 G1111 G1112 G1113 G1114 G1141 G1116 G1117 G1118 G1119 G1120 kn0 kn1 kn2 kn3 kn4 kn5 kn6 kn7 kn8 kn9 kn10 kn11 kn12 kn13 kn14 kn15 kn16 kn17 kn18 kn19 kn20 kn21 kn22 kn23 kn24 kn25 kn26 kn27 kn28 kn29 kn30 kn31 kn32 kn33 kn34 kn35 kn36 kn37 kn38 kn39 kn40 kn41 kn42 kn43 kn44 kn45 kn46 kn47 kn48 kn49 kn50 kn51 ge1099_0 nb1099_0 ne1121 ne1122 ne1123 ne1124 ne1125 ne1126 ne1127 ne1128 or1129 hL ⟨hi0.1, hJ1140.1, (by decide), (Or.inl ⟨rfl, own_V_other (by decide) rfl⟩), (Or.inl ⟨rfl, own_V_other (by decide) rfl⟩), (Or.inr ⟨rfl, own_V_same _ _⟩), (own_V_other (by decide) rfl)⟩ (by rw [hr0, lw_f146n, if_neg (by decide : ¬ (1 : Int32) = (0 : Int32))])
def lw_f135y (p0 : Int32) (p1 : Int32) (v7 : Int32) (v8 : Int32) (w3 : Nat → Int32) (w9 : Nat → Int32) (w24 : Nat → Int32) (w25 : Nat → Int32) (w26 : Nat → Int32) (w27 : Nat → Int32) (w28 : Nat → Int32) : Int32 :=
  if v7 = (0 : Int32) then
    lw_f146y p0 p1 ((1 : Int32)) ((0 : Int32)) (v8) (w3) (w9) ((2 : Int32)) (w24) (w25) (w26) (w27) (w28)
  else
    lw_f146y p0 p1 ((1 : Int32)) ((1 : Int32)) (v8) (w3) (w9) ((1 : Int32)) (w24) ((rs_g17 (1 : Int32) w9 w24 w25 w26 w27 (2 : Int32) w28)) ((rs_g18 (1 : Int32) w9 w24 w25 w26 w27 (2 : Int32) w28)) ((rs_g19 (1 : Int32) w9 w24 w25 w26 w27 (2 : Int32) w28)) ((rs_g20 (1 : Int32) w9 w24 w25 w26 w27 (2 : Int32) w28))
set_option maxRecDepth 65536 in
set_option maxHeartbeats 40000000 in
theorem lw_c135y {p0 : Int32} {p1 : Int32} {w_a : Addr} {w_e : Addr} {w_k : Nat} {locs : List Loc} {o1 : Addr} {o19 : Addr} {o30 : Addr} {o79 : Addr} {o9 : Addr} {r1_94 : Addr} {r2_94 : Addr} {r3_94 : Addr} {r4_94 : Addr} {r5_94 : Addr} {r6_94 : Addr} {r7_94 : Addr} {rq : Addr} {r0 : Int32} (C0 : own_Cx p s m meth c Z a0 code 18 ς8 "law" (some .boolean)) (X0 : Stand p l e room_1 s m args below meth c T0 locs 21 119) (e0 : T0.heap = h1) (N0 : Fr n0 locs) (v7 : Int32) (v8 : Int32) (w3 : Nat → Int32) (w9 : Nat → Int32) (w24 : Nat → Int32) (w25 : Nat → Int32) (w26 : Nat → Int32) (w27 : Nat → Int32) (w28 : Nat → Int32) (Z0 : n0 ≤ h1.size) (P1 : w_k ≤ h1.size) (K0 : Keep h0 h1 []) (P3 : own_Arf Z h1 o30 .int 1 (fun i => (.int (w3 i)))) (P4 : Exa Z h1 o79 ς0) (P5 : Exa Z h1 r2_94 ς1) (P6 : Exa Z h1 r3_94 ς3) (P7 : Fld Z h1 r3_94 ς6 "modCount" "I" (.int 0)) (P8 : Fld Z h1 r3_94 ς3 "size" "I" (.int 0)) (P9 : own_Arf Z h1 r4_94 .int 1 (fun i => (.int (w9 i)))) (P10 : Fld Z h1 o79 ς0 "data" "[I" (.ref r1_94)) (P11 : Fld Z h1 o79 ς0 "arity" "I" (.int 1)) (P12 : Fld Z h1 o79 ς0 "facts" ς5 (.ref r2_94)) (P13 : Fld Z h1 o79 ς0 "indexes" ς10 (.ref r3_94)) (P14 : Fld Z h1 o79 ς0 "removed" "[Z" (.ref rq)) (P15 : Fld Z h1 o79 ς0 "size" "I" (.int 3)) (P16 : Fld Z h1 r2_94 ς1 "this$0" ς2 (.ref o79)) (P17 : Fld Z h1 r2_94 ς1 "positions" "[I" (.ref r4_94)) (P18 : Fld Z h1 r2_94 ς1 "firsts" "[I" (.ref r5_94)) (P19 : Fld Z h1 r2_94 ς1 "lasts" "[I" (.ref r6_94)) (P20 : Fld Z h1 r2_94 ς1 "rowKey" "[I" (.ref r7_94)) (P21 : Fld Z h1 r2_94 ς1 "next" "[I" .null) (P22 : Fld Z h1 r2_94 ς1 "previous" "[I" .null) (P23 : Fld Z h1 r2_94 ς1 "keys" "I" (.int 2)) (P24 : own_Arf Z h1 r1_94 .int 16 (fun i => (.int (w24 i)))) (P25 : own_Arf Z h1 r5_94 .int 16 (fun i => (.int (w25 i)))) (P26 : own_Arf Z h1 r6_94 .int 16 (fun i => (.int (w26 i)))) (P27 : own_Arf Z h1 r7_94 .int 1 (fun i => (.int (w27 i)))) (P28 : own_Arf Z h1 rq .boolean 16 (fun i => (.int (w28 i)))) (kn0 : o30 ≠ o79) (kn1 : n0 ≤ o79) (kn2 : h0.size ≤ o79) (kn3 : n0 ≤ r1_94) (kn4 : o79 ≠ r1_94) (kn5 : r1_94 ≠ r2_94) (kn6 : r1_94 ≠ r3_94) (kn7 : r1_94 ≠ r4_94) (kn8 : r1_94 ≠ r5_94) (kn9 : r1_94 ≠ r6_94) (kn10 : r1_94 ≠ r7_94) (kn11 : n0 ≤ r2_94) (kn12 : o79 ≠ r2_94) (kn13 : r2_94 ≠ r3_94) (kn14 : r2_94 ≠ r4_94) (kn15 : r2_94 ≠ r5_94) (kn16 : r2_94 ≠ r6_94) (kn17 : r2_94 ≠ r7_94) (kn18 : n0 ≤ r3_94) (kn19 : o79 ≠ r3_94) (kn20 : r3_94 ≠ r4_94) (kn21 : r3_94 ≠ r5_94) (kn22 : r3_94 ≠ r6_94) (kn23 : r3_94 ≠ r7_94) (kn24 : n0 ≤ r4_94) (kn25 : o79 ≠ r4_94) (kn26 : r4_94 ≠ r5_94) (kn27 : r4_94 ≠ r6_94) (kn28 : r4_94 ≠ r7_94) (kn29 : n0 ≤ r5_94) (kn30 : o79 ≠ r5_94) (kn31 : r5_94 ≠ r6_94) (kn32 : r5_94 ≠ r7_94) (kn33 : n0 ≤ r6_94) (kn34 : o79 ≠ r6_94) (kn35 : r6_94 ≠ r7_94) (kn36 : n0 ≤ r7_94) (kn37 : o79 ≠ r7_94) (kn38 : o30 ≠ r1_94) (kn39 : o30 ≠ r2_94) (kn40 : o30 ≠ r3_94) (kn41 : o30 ≠ r4_94) (kn42 : o30 ≠ r5_94) (kn43 : o30 ≠ r6_94) (kn44 : o30 ≠ r7_94) (kn45 : r1_94 ∈ ([] : List Addr) ∨ h0.size ≤ r1_94) (kn46 : r2_94 ∈ ([] : List Addr) ∨ h0.size ≤ r2_94) (kn47 : r3_94 ∈ ([] : List Addr) ∨ h0.size ≤ r3_94) (kn48 : r4_94 ∈ ([] : List Addr) ∨ h0.size ≤ r4_94) (kn49 : r5_94 ∈ ([] : List Addr) ∨ h0.size ≤ r5_94) (kn50 : r6_94 ∈ ([] : List Addr) ∨ h0.size ≤ r6_94) (kn51 : r7_94 ∈ ([] : List Addr) ∨ h0.size ≤ r7_94) (kn52 : n0 ≤ rq) (kn53 : o79 ≠ rq) (kn54 : o30 ≠ rq) (kn55 : r2_94 ≠ rq) (kn56 : r3_94 ≠ rq) (kn57 : r4_94 ≠ rq) (kn58 : r1_94 ≠ rq) (kn59 : r5_94 ≠ rq) (kn60 : r6_94 ≠ rq) (kn61 : r7_94 ≠ rq) (kn62 : rq ∈ ([] : List Addr) ∨ h0.size ≤ rq) (hL : own_LF n0 Z h0 w_a) (hi0 : w3 0 = p0 + Int32.ofNat 3 ∧ own_B v7 ∧ own_B v8 ∧ own_JE p0 [1, 2, 3] w25 w24 w9 ∧ (2 ≤ (2 : Int32).toInt ∧ (2 : Int32).toInt ≤ 3) ∧ own_Y (1 : Int32) (w28 (0 : Int32).toNatClampNeg) ∧ w28 (1 : Int32).toNatClampNeg = (0 : Int32) ∧ w28 (2 : Int32).toNatClampNeg = (0 : Int32) ∧ w28 (3 : Int32).toNatClampNeg = (0 : Int32)) (hr0 : r0 = lw_f135y p0 p1 v7 v8 w3 w9 w24 w25 w26 w27 w28) :
    own_Dn p e below s (lw_Q Z p0 p1 w_a w_e w_k r0 h0 n0) room_1.cells room_1.slots (T0.setTop (mkF m 135 #[ι p0, ι p1, ρ o1, ρ o9, ρ o19, ρ o30, ι 1, ι v7, ι v8, ρ o79, ι 1, ι 1, ι 1, υ, υ, υ, υ, υ] [])) := by
  obtain ⟨hx, hZ, hw, hby, hml, hown, hret, hlk, hnm⟩ := id C0
  refine own_st (fun _ k => XS.iload X0.here hx rfl (hb hby lw_d135) rfl k) ?_
  show own_Dn p e below s _ _ _ (T0.setTop (mkF m 137 #[ι p0, ι p1, ρ o1, ρ o9, ρ o19, ρ o30, ι 1, ι v7, ι v8, ρ o79, ι 1, ι 1, ι 1, υ, υ, υ, υ, υ] [(.int v7)]))
  rcases hi0.2.1 with rfl | rfl
  · refine own_st (fun _ k => XS.ifYes X0.here hx rfl (pc0 := 137) (pc' := 146) rfl (hb hby lw_d137) rfl ((if0 _ _).trans (teq (by decide : (0 : Int32) = (0 : Int32))).1) (by decide) (by decide) k) ?_
    show own_Dn p e below s _ _ _ (T0.setTop (mkF m 146 #[ι p0, ι p1, ρ o1, ρ o9, ρ o19, ρ o30, ι 1, ι 0, ι v8, ρ o79, ι 1, ι 1, ι 1, υ, υ, υ, υ, υ] []))
    exact lw_c146y C0 (Stand.mono X0 (by decide) (by decide)) e0 N0 ((1 : Int32)) ((0 : Int32)) (v8) (w3) (w9) ((2 : Int32)) (w24) (w25) (w26) (w27) (w28) Z0 P1 K0 P3 P4 P5 P6 P7 P8 P9 P10 P11 P12 P13 P14 P15 P16 P17 P18 P19 P20 P21 P22 P23 P24 P25 P26 P27 P28 kn0 kn1 kn2 kn3 kn4 kn5 kn6 kn7 kn8 kn9 kn10 kn11 kn12 kn13 kn14 kn15 kn16 kn17 kn18 kn19 kn20 kn21 kn22 kn23 kn24 kn25 kn26 kn27 kn28 kn29 kn30 kn31 kn32 kn33 kn34 kn35 kn36 kn37 kn38 kn39 kn40 kn41 kn42 kn43 kn44 kn45 kn46 kn47 kn48 kn49 kn50 kn51 kn52 kn53 kn54 kn55 kn56 kn57 kn58 kn59 kn60 kn61 kn62 hL ⟨hi0.1, hi0.2.2.1, (own_JE.sub hi0.2.2.2.1 (by decide)), (by decide), hi0.2.2.2.2.2.1, (Or.inl ⟨rfl, hi0.2.2.2.2.2.2.1⟩), hi0.2.2.2.2.2.2.2.1, hi0.2.2.2.2.2.2.2.2⟩ (by rw [hr0, lw_f135y, if_pos rfl])
  · refine own_st (fun _ k => XS.ifNo X0.here hx rfl (hb hby lw_d137) rfl ((if0 _ _).trans (feq (by decide : ¬ ((1 : Int32) = (0 : Int32)))).1) k) ?_
    show own_Dn p e below s _ _ _ (T0.setTop (mkF m 140 #[ι p0, ι p1, ρ o1, ρ o9, ρ o19, ρ o30, ι 1, ι 1, ι v8, ρ o79, ι 1, ι 1, ι 1, υ, υ, υ, υ, υ] []))
    refine own_st (fun _ k => XS.aload X0.here hx rfl (hb hby lw_d140) rfl rfl (XS.iconst X0.here hx rfl (hb hby lw_d142) k)) ?_
    show own_Dn p e below s _ _ _ (T0.setTop (mkF m 143 #[ι p0, ι p1, ρ o1, ρ o9, ρ o19, ρ o30, ι 1, ι 1, ι v8, ρ o79, ι 1, ι 1, ι 1, υ, υ, υ, υ, υ] [(.int 1), (.ref o79)]))
    obtain ⟨cq1065, kq1065, q1065a, q1065b, q1065c⟩ := isOf hZ e0 P4
    obtain ⟨_, _, ⟨T1065, L1065, k1065, n1065⟩, -, X1065, ⟨Lc1065, hQ1065, l1065, y1065, z1065⟩, st1065⟩ := X0.virtualBack hx (y := (⟨ς0, "remove", "(I)V"⟩ : MethodName)) (z := (⟨ς0, "remove", "(I)V"⟩ : MethodName)) hown (mvT hZ (own_w hw 197 rfl)) (mvT hZ (own_w hw 198 rfl)) (notFace_of_selects (args := #[]) (mvT hZ (own_w hw 200 rfl))) (mvT hZ (own_w hw 200 rfl)) (mvT hZ (own_w hw 199 rfl)) (by decide) (backOf (W := 0) (rs_rm l Z a0 hw [] (o79) ((1 : Int32)) (r4_94) (r1_94) (r5_94) (r6_94) (r7_94) (r2_94) (r3_94) (w9) (w24) (w25) (w26) (w27) ((2 : Int32)) (rq) (w28) h1 n0 Z0 P4 P10 P11 P12 P13 P14 P24 P6 P7 P8 P15 P5 P16 P17 P9 P18 P19 P20 P21 P22 P23 P25 P26 P27 P28 kn1 kn11 kn3 kn29 kn33 kn36 kn52 kn25 kn14 kn20 kn4 (Ne.symm kn5) (Ne.symm kn6) (Ne.symm kn7) kn30 kn15 kn21 kn26 kn8 kn34 kn16 kn22 kn27 kn9 kn31 kn37 kn17 kn23 kn28 kn10 kn32 kn35 kn53 kn55 kn56 kn57 kn58 kn59 kn60 kn61 (own_JE.P0 hi0.2.2.2.1) (own_JE.FB hi0.2.2.2.1) (by decide) (own_JE.din hi0.2.2.2.1 (by decide) (by decide))) hZ (own_w hw 201 rfl) (own_w hw 3 rfl) (by decide) (by decide)) q1065a q1065c (g := (mkF m 143 #[ι p0, ι p1, ρ o1, ρ o9, ρ o19, ρ o30, ι 1, ι 1, ι v8, ρ o79, ι 1, ι 1, ι 1, υ, υ, υ, υ, υ] [(.int 1), (.ref o79)])) rfl (by rw [hml]; rfl) (Steps.refl _) (argsL := [(.int 1)]) (rest := []) (lenOf own_pd5 rfl) rfl (by show 2 * 0 + _ ≤ _; exact Nat.le_of_eq rfl) (hb hby lw_d143) (fun _ _ => ⟨rfl, e0, (by decide : 21 + 1 ≤ _), (by decide : 119 + 4 ≤ _)⟩)
    dsimp only [Pt.U, Pt.locs, Pt.cells, Pt.slots] at X1065 l1065 y1065 z1065 st1065 hQ1065
    subst l1065 y1065 z1065
    obtain ⟨rfl, N1065q, K1065, G1066, G1067, G1068, G1069, G1070, G1071, G1072, G1073, G1074, G1075, G1076, G1077, G1078, G1079, G1080, G1081, G1082, G1083, G1084, G1085, G1086⟩ := hQ1065
    have F1087 : n0 ≤ T1065.heap.size := Nat.le_trans Z0 K1065.1
    have F1088 : w_k ≤ T1065.heap.size := Nat.le_trans P1 K1065.1
    have F1089 : Keep h0 T1065.heap [] := K0.trans K1065 (allS (Or.inr kn2) (allS kn46 (allS kn45 (allS kn49 (allS kn50 (allS kn51 (allS kn62 all0)))))))
    have F1090 := P3.keep K1065 (ninS kn0 (ninS kn39 (ninS kn38 (ninS kn42 (ninS kn43 (ninS kn44 (ninS kn54 nin0)))))))
    have F1091 := P4.keep K1065
    have F1092 := P5.keep K1065
    have F1093 := P6.keep K1065
    have F1094 := P7.keep K1065 (ninS (Ne.symm kn19) (ninS (Ne.symm kn13) (ninS (Ne.symm kn6) (ninS kn21 (ninS kn22 (ninS kn23 (ninS kn56 nin0)))))))
    have F1095 := P8.keep K1065 (ninS (Ne.symm kn19) (ninS (Ne.symm kn13) (ninS (Ne.symm kn6) (ninS kn21 (ninS kn22 (ninS kn23 (ninS kn56 nin0)))))))
    have F1096 := P9.keep K1065 (ninS (Ne.symm kn25) (ninS (Ne.symm kn14) (ninS (Ne.symm kn7) (ninS kn26 (ninS kn27 (ninS kn28 (ninS kn57 nin0)))))))
    have N1065 := Fr.app N0 N1065q
    refine own_tr st1065 ?_
    have hJ1097 : own_JE p0 [2, 3] (rs_g17 (1 : Int32) w9 w24 w25 w26 w27 (2 : Int32) w28) w24 w9 ∧ (rs_g15 (1 : Int32) w9 w24 w25 w26 w27 (2 : Int32) w28) = (2 : Int32) - (1 : Int32) := own_JE.rem hi0.2.2.2.1 (by decide) (by decide) (by decide)
    have G1098 : Fld Z T1065.heap r2_94 ς1 "keys" "I" (.int 1) := own_FldE (hJ1097.2.trans (by decide : (2 : Int32) - (1 : Int32) = (1 : Int32))) G1081
    show own_Dn p e below s _ _ _ (T1065.setTop (mkF m 146 #[ι p0, ι p1, ρ o1, ρ o9, ρ o19, ρ o30, ι 1, ι 1, ι v8, ρ o79, ι 1, ι 1, ι 1, υ, υ, υ, υ, υ] []))
    exact lw_c146y C0 X1065 rfl N1065 ((1 : Int32)) ((1 : Int32)) (v8) (w3) (w9) ((1 : Int32)) (w24) ((rs_g17 (1 : Int32) w9 w24 w25 w26 w27 (2 : Int32) w28)) ((rs_g18 (1 : Int32) w9 w24 w25 w26 w27 (2 : Int32) w28)) ((rs_g19 (1 : Int32) w9 w24 w25 w26 w27 (2 : Int32) w28)) ((rs_g20 (1 : Int32) w9 w24 w25 w26 w27 (2 : Int32) w28)) F1087 F1088 F1089 F1090 G1066 G1073 F1093 F1094 F1095 F1096 G1067 G1068 G1069 G1070 G1071 G1072 G1074 G1075 G1076 G1077 G1078 G1079 G1080 G1098 G1082 G1083 G1084 G1085 G1086 kn0 kn1 kn2 kn3 kn4 kn5 kn6 kn7 kn8 kn9 kn10 kn11 kn12 kn13 kn14 kn15 kn16 kn17 kn18 kn19 kn20 kn21 kn22 kn23 kn24 kn25 kn26 kn27 kn28 kn29 kn30 kn31 kn32 kn33 kn34 kn35 kn36 kn37 kn38 kn39 kn40 kn41 kn42 kn43 kn44 kn45 kn46 kn47 kn48 kn49 kn50 kn51 kn52 kn53 kn54 kn55 kn56 kn57 kn58 kn59 kn60 kn61 kn62 hL ⟨hi0.1, hi0.2.2.1, hJ1097.1, (by decide), (own_Y_up (by decide) hi0.2.2.2.2.2.1), (Or.inr ⟨rfl, own_V_same _ _⟩), (own_V_other (by decide) hi0.2.2.2.2.2.2.2.1), (own_V_other (by decide) hi0.2.2.2.2.2.2.2.2)⟩ (by rw [hr0, lw_f135y, if_neg (by decide : ¬ (1 : Int32) = (0 : Int32))])
def lw_f135n (p0 : Int32) (p1 : Int32) (v7 : Int32) (v8 : Int32) (w3 : Nat → Int32) (w9 : Nat → Int32) (w24 : Nat → Int32) (w25 : Nat → Int32) (w26 : Nat → Int32) (w27 : Nat → Int32) : Int32 :=
  if v7 = (0 : Int32) then
    lw_f146n p0 p1 (v8) (w3) (w9) (w24) (w25) (w26) (w27)
  else
    lw_f146y p0 p1 ((0 : Int32)) ((1 : Int32)) (v8) (w3) (w9) ((2 : Int32)) (w24) ((rr_g17 (1 : Int32) w9 w24 w25 w26 w27 (3 : Int32))) ((rr_g18 (1 : Int32) w9 w24 w25 w26 w27 (3 : Int32))) ((rr_g19 (1 : Int32) w9 w24 w25 w26 w27 (3 : Int32))) ((rr_g20 (1 : Int32) w9 w24 w25 w26 w27 (3 : Int32)))
set_option maxRecDepth 65536 in
set_option maxHeartbeats 40000000 in
theorem lw_c135n {p0 : Int32} {p1 : Int32} {w_a : Addr} {w_e : Addr} {w_k : Nat} {locs : List Loc} {o1 : Addr} {o19 : Addr} {o30 : Addr} {o79 : Addr} {o9 : Addr} {r1_94 : Addr} {r2_94 : Addr} {r3_94 : Addr} {r4_94 : Addr} {r5_94 : Addr} {r6_94 : Addr} {r7_94 : Addr} {r0 : Int32} (C0 : own_Cx p s m meth c Z a0 code 18 ς8 "law" (some .boolean)) (X0 : Stand p l e room_1 s m args below meth c T0 locs 18 95) (e0 : T0.heap = h1) (N0 : Fr n0 locs) (v7 : Int32) (v8 : Int32) (w3 : Nat → Int32) (w9 : Nat → Int32) (w24 : Nat → Int32) (w25 : Nat → Int32) (w26 : Nat → Int32) (w27 : Nat → Int32) (Z0 : n0 ≤ h1.size) (P1 : w_k ≤ h1.size) (K0 : Keep h0 h1 []) (P3 : own_Arf Z h1 o30 .int 1 (fun i => (.int (w3 i)))) (P4 : Exa Z h1 o79 ς0) (P5 : Exa Z h1 r2_94 ς1) (P6 : Exa Z h1 r3_94 ς3) (P7 : Fld Z h1 r3_94 ς6 "modCount" "I" (.int 0)) (P8 : Fld Z h1 r3_94 ς3 "size" "I" (.int 0)) (P9 : own_Arf Z h1 r4_94 .int 1 (fun i => (.int (w9 i)))) (P10 : Fld Z h1 o79 ς0 "data" "[I" (.ref r1_94)) (P11 : Fld Z h1 o79 ς0 "arity" "I" (.int 1)) (P12 : Fld Z h1 o79 ς0 "facts" ς5 (.ref r2_94)) (P13 : Fld Z h1 o79 ς0 "indexes" ς10 (.ref r3_94)) (P14 : Fld Z h1 o79 ς0 "removed" "[Z" .null) (P15 : Fld Z h1 o79 ς0 "size" "I" (.int 3)) (P16 : Fld Z h1 r2_94 ς1 "this$0" ς2 (.ref o79)) (P17 : Fld Z h1 r2_94 ς1 "positions" "[I" (.ref r4_94)) (P18 : Fld Z h1 r2_94 ς1 "firsts" "[I" (.ref r5_94)) (P19 : Fld Z h1 r2_94 ς1 "lasts" "[I" (.ref r6_94)) (P20 : Fld Z h1 r2_94 ς1 "rowKey" "[I" (.ref r7_94)) (P21 : Fld Z h1 r2_94 ς1 "next" "[I" .null) (P22 : Fld Z h1 r2_94 ς1 "previous" "[I" .null) (P23 : Fld Z h1 r2_94 ς1 "keys" "I" (.int 3)) (P24 : own_Arf Z h1 r1_94 .int 16 (fun i => (.int (w24 i)))) (P25 : own_Arf Z h1 r5_94 .int 16 (fun i => (.int (w25 i)))) (P26 : own_Arf Z h1 r6_94 .int 16 (fun i => (.int (w26 i)))) (P27 : own_Arf Z h1 r7_94 .int 1 (fun i => (.int (w27 i)))) (kn0 : o30 ≠ o79) (kn1 : n0 ≤ o79) (kn2 : h0.size ≤ o79) (kn3 : n0 ≤ r1_94) (kn4 : o79 ≠ r1_94) (kn5 : r1_94 ≠ r2_94) (kn6 : r1_94 ≠ r3_94) (kn7 : r1_94 ≠ r4_94) (kn8 : r1_94 ≠ r5_94) (kn9 : r1_94 ≠ r6_94) (kn10 : r1_94 ≠ r7_94) (kn11 : n0 ≤ r2_94) (kn12 : o79 ≠ r2_94) (kn13 : r2_94 ≠ r3_94) (kn14 : r2_94 ≠ r4_94) (kn15 : r2_94 ≠ r5_94) (kn16 : r2_94 ≠ r6_94) (kn17 : r2_94 ≠ r7_94) (kn18 : n0 ≤ r3_94) (kn19 : o79 ≠ r3_94) (kn20 : r3_94 ≠ r4_94) (kn21 : r3_94 ≠ r5_94) (kn22 : r3_94 ≠ r6_94) (kn23 : r3_94 ≠ r7_94) (kn24 : n0 ≤ r4_94) (kn25 : o79 ≠ r4_94) (kn26 : r4_94 ≠ r5_94) (kn27 : r4_94 ≠ r6_94) (kn28 : r4_94 ≠ r7_94) (kn29 : n0 ≤ r5_94) (kn30 : o79 ≠ r5_94) (kn31 : r5_94 ≠ r6_94) (kn32 : r5_94 ≠ r7_94) (kn33 : n0 ≤ r6_94) (kn34 : o79 ≠ r6_94) (kn35 : r6_94 ≠ r7_94) (kn36 : n0 ≤ r7_94) (kn37 : o79 ≠ r7_94) (kn38 : o30 ≠ r1_94) (kn39 : o30 ≠ r2_94) (kn40 : o30 ≠ r3_94) (kn41 : o30 ≠ r4_94) (kn42 : o30 ≠ r5_94) (kn43 : o30 ≠ r6_94) (kn44 : o30 ≠ r7_94) (kn45 : r1_94 ∈ ([] : List Addr) ∨ h0.size ≤ r1_94) (kn46 : r2_94 ∈ ([] : List Addr) ∨ h0.size ≤ r2_94) (kn47 : r3_94 ∈ ([] : List Addr) ∨ h0.size ≤ r3_94) (kn48 : r4_94 ∈ ([] : List Addr) ∨ h0.size ≤ r4_94) (kn49 : r5_94 ∈ ([] : List Addr) ∨ h0.size ≤ r5_94) (kn50 : r6_94 ∈ ([] : List Addr) ∨ h0.size ≤ r6_94) (kn51 : r7_94 ∈ ([] : List Addr) ∨ h0.size ≤ r7_94) (hL : own_LF n0 Z h0 w_a) (hi0 : w3 0 = p0 + Int32.ofNat 3 ∧ own_B v7 ∧ own_B v8 ∧ own_JE p0 [1, 2, 3] w25 w24 w9 ∧ (2 ≤ (3 : Int32).toInt ∧ (3 : Int32).toInt ≤ 3)) (hr0 : r0 = lw_f135n p0 p1 v7 v8 w3 w9 w24 w25 w26 w27) :
    own_Dn p e below s (lw_Q Z p0 p1 w_a w_e w_k r0 h0 n0) room_1.cells room_1.slots (T0.setTop (mkF m 135 #[ι p0, ι p1, ρ o1, ρ o9, ρ o19, ρ o30, ι 0, ι v7, ι v8, ρ o79, ι 1, ι 1, ι 1, υ, υ, υ, υ, υ] [])) := by
  obtain ⟨hx, hZ, hw, hby, hml, hown, hret, hlk, hnm⟩ := id C0
  refine own_st (fun _ k => XS.iload X0.here hx rfl (hb hby lw_d135) rfl k) ?_
  show own_Dn p e below s _ _ _ (T0.setTop (mkF m 137 #[ι p0, ι p1, ρ o1, ρ o9, ρ o19, ρ o30, ι 0, ι v7, ι v8, ρ o79, ι 1, ι 1, ι 1, υ, υ, υ, υ, υ] [(.int v7)]))
  rcases hi0.2.1 with rfl | rfl
  · refine own_st (fun _ k => XS.ifYes X0.here hx rfl (pc0 := 137) (pc' := 146) rfl (hb hby lw_d137) rfl ((if0 _ _).trans (teq (by decide : (0 : Int32) = (0 : Int32))).1) (by decide) (by decide) k) ?_
    show own_Dn p e below s _ _ _ (T0.setTop (mkF m 146 #[ι p0, ι p1, ρ o1, ρ o9, ρ o19, ρ o30, ι 0, ι 0, ι v8, ρ o79, ι 1, ι 1, ι 1, υ, υ, υ, υ, υ] []))
    exact lw_c146n C0 X0 e0 N0 (v8) (w3) (w9) (w24) (w25) (w26) (w27) Z0 P1 K0 P3 P4 P5 P6 P7 P8 P9 P10 P11 P12 P13 P14 P15 P16 P17 P18 P19 P20 P21 P22 P23 P24 P25 P26 P27 kn0 kn1 kn2 kn3 kn4 kn5 kn6 kn7 kn8 kn9 kn10 kn11 kn12 kn13 kn14 kn15 kn16 kn17 kn18 kn19 kn20 kn21 kn22 kn23 kn24 kn25 kn26 kn27 kn28 kn29 kn30 kn31 kn32 kn33 kn34 kn35 kn36 kn37 kn38 kn39 kn40 kn41 kn42 kn43 kn44 kn45 kn46 kn47 kn48 kn49 kn50 kn51 hL ⟨hi0.1, hi0.2.2.1, (own_JE.sub hi0.2.2.2.1 (by decide)), (by decide)⟩ (by rw [hr0, lw_f135n, if_pos rfl])
  · refine own_st (fun _ k => XS.ifNo X0.here hx rfl (hb hby lw_d137) rfl ((if0 _ _).trans (feq (by decide : ¬ ((1 : Int32) = (0 : Int32)))).1) k) ?_
    show own_Dn p e below s _ _ _ (T0.setTop (mkF m 140 #[ι p0, ι p1, ρ o1, ρ o9, ρ o19, ρ o30, ι 0, ι 1, ι v8, ρ o79, ι 1, ι 1, ι 1, υ, υ, υ, υ, υ] []))
    refine own_st (fun _ k => XS.aload X0.here hx rfl (hb hby lw_d140) rfl rfl (XS.iconst X0.here hx rfl (hb hby lw_d142) k)) ?_
    show own_Dn p e below s _ _ _ (T0.setTop (mkF m 143 #[ι p0, ι p1, ρ o1, ρ o9, ρ o19, ρ o30, ι 0, ι 1, ι v8, ρ o79, ι 1, ι 1, ι 1, υ, υ, υ, υ, υ] [(.int 1), (.ref o79)]))
    obtain ⟨cq1022, kq1022, q1022a, q1022b, q1022c⟩ := isOf hZ e0 P4
    obtain ⟨_, _, ⟨T1022, L1022, k1022, n1022⟩, -, X1022, ⟨Lc1022, hQ1022, l1022, y1022, z1022⟩, st1022⟩ := X0.virtualBack hx (y := (⟨ς0, "remove", "(I)V"⟩ : MethodName)) (z := (⟨ς0, "remove", "(I)V"⟩ : MethodName)) hown (mvT hZ (own_w hw 197 rfl)) (mvT hZ (own_w hw 198 rfl)) (notFace_of_selects (args := #[]) (mvT hZ (own_w hw 200 rfl))) (mvT hZ (own_w hw 200 rfl)) (mvT hZ (own_w hw 199 rfl)) (by decide) (backOf (W := 0) (rr_rm l Z a0 hw [] (o79) ((1 : Int32)) (r4_94) (r1_94) (r5_94) (r6_94) (r7_94) (r2_94) (r3_94) (w9) (w24) (w25) (w26) (w27) ((3 : Int32)) h1 n0 Z0 P4 P10 P11 P12 P13 P14 P24 P6 P7 P8 P15 P5 P16 P17 P9 P18 P19 P20 P21 P22 P23 P25 P26 P27 kn1 kn11 kn3 kn29 kn33 kn36 kn25 kn14 kn20 kn4 (Ne.symm kn5) (Ne.symm kn6) (Ne.symm kn7) kn30 kn15 kn21 kn26 kn8 kn34 kn16 kn22 kn27 kn9 kn31 kn37 kn17 kn23 kn28 kn10 kn32 kn35 (own_JE.P0 hi0.2.2.2.1) (own_JE.FB hi0.2.2.2.1) (by decide) (own_JE.din hi0.2.2.2.1 (by decide) (by decide))) hZ (own_w hw 201 rfl) (own_w hw 3 rfl) (by decide) (by decide)) q1022a q1022c (g := (mkF m 143 #[ι p0, ι p1, ρ o1, ρ o9, ρ o19, ρ o30, ι 0, ι 1, ι v8, ρ o79, ι 1, ι 1, ι 1, υ, υ, υ, υ, υ] [(.int 1), (.ref o79)])) rfl (by rw [hml]; rfl) (Steps.refl _) (argsL := [(.int 1)]) (rest := []) (lenOf own_pd5 rfl) rfl (by show 2 * 0 + _ ≤ _; exact Nat.le_of_eq rfl) (hb hby lw_d143) (fun _ _ => ⟨rfl, e0, (by decide : 18 + 3 ≤ _), (by decide : 95 + 24 ≤ _)⟩)
    dsimp only [Pt.U, Pt.locs, Pt.cells, Pt.slots] at X1022 l1022 y1022 z1022 st1022 hQ1022
    subst l1022 y1022 z1022
    obtain ⟨rfl, N1022q, K1022, rq, ge1022_0, or1022_0, nb1022_0, G1023, G1024, G1025, G1026, G1027, G1028, G1029, G1030, G1031, G1032, G1033, G1034, G1035, G1036, G1037, G1038, G1039, G1040, G1041, G1042, G1043⟩ := hQ1022
    have ne1044 : o30 ≠ rq := own_ne_or or1022_0 P3.lt nin0
    have ne1045 : r2_94 ≠ rq := own_ne_or or1022_0 P5.lt nin0
    have ne1046 : r3_94 ≠ rq := own_ne_or or1022_0 P6.lt nin0
    have ne1047 : r4_94 ≠ rq := own_ne_or or1022_0 P9.lt nin0
    have ne1048 : r1_94 ≠ rq := own_ne_or or1022_0 P24.lt nin0
    have ne1049 : r5_94 ≠ rq := own_ne_or or1022_0 P25.lt nin0
    have ne1050 : r6_94 ≠ rq := own_ne_or or1022_0 P26.lt nin0
    have ne1051 : r7_94 ≠ rq := own_ne_or or1022_0 P27.lt nin0
    have or1052 : rq ∈ ([] : List Addr) ∨ h0.size ≤ rq := own_or_up or1022_0 K0.1 all0
    have F1053 : n0 ≤ T1022.heap.size := Nat.le_trans Z0 K1022.1
    have F1054 : w_k ≤ T1022.heap.size := Nat.le_trans P1 K1022.1
    have F1055 : Keep h0 T1022.heap [] := K0.trans K1022 (allS (Or.inr kn2) (allS kn46 (allS kn45 (allS kn49 (allS kn50 (allS kn51 all0))))))
    have F1056 := P3.keep K1022 (ninS kn0 (ninS kn39 (ninS kn38 (ninS kn42 (ninS kn43 (ninS kn44 nin0))))))
    have F1057 := P4.keep K1022
    have F1058 := P5.keep K1022
    have F1059 := P6.keep K1022
    have F1060 := P7.keep K1022 (ninS (Ne.symm kn19) (ninS (Ne.symm kn13) (ninS (Ne.symm kn6) (ninS kn21 (ninS kn22 (ninS kn23 nin0))))))
    have F1061 := P8.keep K1022 (ninS (Ne.symm kn19) (ninS (Ne.symm kn13) (ninS (Ne.symm kn6) (ninS kn21 (ninS kn22 (ninS kn23 nin0))))))
    have F1062 := P9.keep K1022 (ninS (Ne.symm kn25) (ninS (Ne.symm kn14) (ninS (Ne.symm kn7) (ninS kn26 (ninS kn27 (ninS kn28 nin0))))))
    have N1022 := Fr.app N0 N1022q
    refine own_tr st1022 ?_
    have hJ1063 : own_JE p0 [2, 3] (rr_g17 (1 : Int32) w9 w24 w25 w26 w27 (3 : Int32)) w24 w9 ∧ (rr_g15 (1 : Int32) w9 w24 w25 w26 w27 (3 : Int32)) = (3 : Int32) - (1 : Int32) := own_JE.rem hi0.2.2.2.1 (by decide) (by decide) (by decide)
    have G1064 : Fld Z T1022.heap r2_94 ς1 "keys" "I" (.int 2) := own_FldE (hJ1063.2.trans (by decide : (3 : Int32) - (1 : Int32) = (2 : Int32))) G1038
    show own_Dn p e below s _ _ _ (T1022.setTop (mkF m 146 #[ι p0, ι p1, ρ o1, ρ o9, ρ o19, ρ o30, ι 0, ι 1, ι v8, ρ o79, ι 1, ι 1, ι 1, υ, υ, υ, υ, υ] []))
    exact lw_c146y C0 (Stand.mono X1022 (by decide) (by decide)) rfl N1022 ((0 : Int32)) ((1 : Int32)) (v8) (w3) (w9) ((2 : Int32)) (w24) ((rr_g17 (1 : Int32) w9 w24 w25 w26 w27 (3 : Int32))) ((rr_g18 (1 : Int32) w9 w24 w25 w26 w27 (3 : Int32))) ((rr_g19 (1 : Int32) w9 w24 w25 w26 w27 (3 : Int32))) ((rr_g20 (1 : Int32) w9 w24 w25 w26 w27 (3 : Int32))) F1053 F1054 F1055 F1056 G1023 G1030 F1059 F1060 F1061 F1062 G1024 G1025 G1026 G1027 G1028 G1029 G1031 G1032 G1033 G1034 G1035 G1036 G1037 G1064 G1039 G1040 G1041 G1042 G1043 kn0 kn1 kn2 kn3 kn4 kn5 kn6 kn7 kn8 kn9 kn10 kn11 kn12 kn13 kn14 kn15 kn16 kn17 kn18 kn19 kn20 kn21 kn22 kn23 kn24 kn25 kn26 kn27 kn28 kn29 kn30 kn31 kn32 kn33 kn34 kn35 kn36 kn37 kn38 kn39 kn40 kn41 kn42 kn43 kn44 kn45 kn46 kn47 kn48 kn49 kn50 kn51 ge1022_0 nb1022_0 ne1044 ne1045 ne1046 ne1047 ne1048 ne1049 ne1050 ne1051 or1052 hL ⟨hi0.1, hi0.2.2.1, hJ1063.1, (by decide), (Or.inl ⟨rfl, own_V_other (by decide) rfl⟩), (Or.inr ⟨rfl, own_V_same _ _⟩), (own_V_other (by decide) rfl), (own_V_other (by decide) rfl)⟩ (by rw [hr0, lw_f135n, if_neg (by decide : ¬ (1 : Int32) = (0 : Int32))])
def lw_f122 (p0 : Int32) (p1 : Int32) (v6 : Int32) (v7 : Int32) (v8 : Int32) (w3 : Nat → Int32) (w9 : Nat → Int32) (w24 : Nat → Int32) (w25 : Nat → Int32) (w26 : Nat → Int32) (w27 : Nat → Int32) : Int32 :=
  if v6 = (0 : Int32) then
    lw_f135n p0 p1 (v7) (v8) (w3) (w9) (w24) (w25) (w26) (w27)
  else
    lw_f135y p0 p1 (v7) (v8) (w3) (w9) (w24) ((rr_g17 (0 : Int32) w9 w24 w25 w26 w27 (3 : Int32))) ((rr_g18 (0 : Int32) w9 w24 w25 w26 w27 (3 : Int32))) ((rr_g19 (0 : Int32) w9 w24 w25 w26 w27 (3 : Int32))) ((rr_g20 (0 : Int32) w9 w24 w25 w26 w27 (3 : Int32)))
set_option maxRecDepth 65536 in
set_option maxHeartbeats 40000000 in
theorem lw_c122 {p0 : Int32} {p1 : Int32} {w_a : Addr} {w_e : Addr} {w_k : Nat} {locs : List Loc} {o1 : Addr} {o19 : Addr} {o30 : Addr} {o79 : Addr} {o9 : Addr} {r1_94 : Addr} {r2_94 : Addr} {r3_94 : Addr} {r4_94 : Addr} {r5_94 : Addr} {r6_94 : Addr} {r7_94 : Addr} {r0 : Int32} (C0 : own_Cx p s m meth c Z a0 code 18 ς8 "law" (some .boolean)) (X0 : Stand p l e room_1 s m args below meth c T0 locs 18 95) (e0 : T0.heap = h1) (N0 : Fr n0 locs) (v6 : Int32) (v7 : Int32) (v8 : Int32) (w3 : Nat → Int32) (w9 : Nat → Int32) (w24 : Nat → Int32) (w25 : Nat → Int32) (w26 : Nat → Int32) (w27 : Nat → Int32) (Z0 : n0 ≤ h1.size) (P1 : w_k ≤ h1.size) (K0 : Keep h0 h1 []) (P3 : own_Arf Z h1 o30 .int 1 (fun i => (.int (w3 i)))) (P4 : Exa Z h1 o79 ς0) (P5 : Exa Z h1 r2_94 ς1) (P6 : Exa Z h1 r3_94 ς3) (P7 : Fld Z h1 r3_94 ς6 "modCount" "I" (.int 0)) (P8 : Fld Z h1 r3_94 ς3 "size" "I" (.int 0)) (P9 : own_Arf Z h1 r4_94 .int 1 (fun i => (.int (w9 i)))) (P10 : Fld Z h1 o79 ς0 "data" "[I" (.ref r1_94)) (P11 : Fld Z h1 o79 ς0 "arity" "I" (.int 1)) (P12 : Fld Z h1 o79 ς0 "facts" ς5 (.ref r2_94)) (P13 : Fld Z h1 o79 ς0 "indexes" ς10 (.ref r3_94)) (P14 : Fld Z h1 o79 ς0 "removed" "[Z" .null) (P15 : Fld Z h1 o79 ς0 "size" "I" (.int 3)) (P16 : Fld Z h1 r2_94 ς1 "this$0" ς2 (.ref o79)) (P17 : Fld Z h1 r2_94 ς1 "positions" "[I" (.ref r4_94)) (P18 : Fld Z h1 r2_94 ς1 "firsts" "[I" (.ref r5_94)) (P19 : Fld Z h1 r2_94 ς1 "lasts" "[I" (.ref r6_94)) (P20 : Fld Z h1 r2_94 ς1 "rowKey" "[I" (.ref r7_94)) (P21 : Fld Z h1 r2_94 ς1 "next" "[I" .null) (P22 : Fld Z h1 r2_94 ς1 "previous" "[I" .null) (P23 : Fld Z h1 r2_94 ς1 "keys" "I" (.int 3)) (P24 : own_Arf Z h1 r1_94 .int 16 (fun i => (.int (w24 i)))) (P25 : own_Arf Z h1 r5_94 .int 16 (fun i => (.int (w25 i)))) (P26 : own_Arf Z h1 r6_94 .int 16 (fun i => (.int (w26 i)))) (P27 : own_Arf Z h1 r7_94 .int 1 (fun i => (.int (w27 i)))) (kn0 : o30 ≠ o79) (kn1 : n0 ≤ o79) (kn2 : h0.size ≤ o79) (kn3 : n0 ≤ r1_94) (kn4 : o79 ≠ r1_94) (kn5 : r1_94 ≠ r2_94) (kn6 : r1_94 ≠ r3_94) (kn7 : r1_94 ≠ r4_94) (kn8 : r1_94 ≠ r5_94) (kn9 : r1_94 ≠ r6_94) (kn10 : r1_94 ≠ r7_94) (kn11 : n0 ≤ r2_94) (kn12 : o79 ≠ r2_94) (kn13 : r2_94 ≠ r3_94) (kn14 : r2_94 ≠ r4_94) (kn15 : r2_94 ≠ r5_94) (kn16 : r2_94 ≠ r6_94) (kn17 : r2_94 ≠ r7_94) (kn18 : n0 ≤ r3_94) (kn19 : o79 ≠ r3_94) (kn20 : r3_94 ≠ r4_94) (kn21 : r3_94 ≠ r5_94) (kn22 : r3_94 ≠ r6_94) (kn23 : r3_94 ≠ r7_94) (kn24 : n0 ≤ r4_94) (kn25 : o79 ≠ r4_94) (kn26 : r4_94 ≠ r5_94) (kn27 : r4_94 ≠ r6_94) (kn28 : r4_94 ≠ r7_94) (kn29 : n0 ≤ r5_94) (kn30 : o79 ≠ r5_94) (kn31 : r5_94 ≠ r6_94) (kn32 : r5_94 ≠ r7_94) (kn33 : n0 ≤ r6_94) (kn34 : o79 ≠ r6_94) (kn35 : r6_94 ≠ r7_94) (kn36 : n0 ≤ r7_94) (kn37 : o79 ≠ r7_94) (kn38 : o30 ≠ r1_94) (kn39 : o30 ≠ r2_94) (kn40 : o30 ≠ r3_94) (kn41 : o30 ≠ r4_94) (kn42 : o30 ≠ r5_94) (kn43 : o30 ≠ r6_94) (kn44 : o30 ≠ r7_94) (kn45 : r1_94 ∈ ([] : List Addr) ∨ h0.size ≤ r1_94) (kn46 : r2_94 ∈ ([] : List Addr) ∨ h0.size ≤ r2_94) (kn47 : r3_94 ∈ ([] : List Addr) ∨ h0.size ≤ r3_94) (kn48 : r4_94 ∈ ([] : List Addr) ∨ h0.size ≤ r4_94) (kn49 : r5_94 ∈ ([] : List Addr) ∨ h0.size ≤ r5_94) (kn50 : r6_94 ∈ ([] : List Addr) ∨ h0.size ≤ r6_94) (kn51 : r7_94 ∈ ([] : List Addr) ∨ h0.size ≤ r7_94) (hL : own_LF n0 Z h0 w_a) (hi0 : w3 0 = p0 + Int32.ofNat 3 ∧ own_B v6 ∧ own_B v7 ∧ own_B v8 ∧ own_J p0 3 [] w25 w24 w9) (hr0 : r0 = lw_f122 p0 p1 v6 v7 v8 w3 w9 w24 w25 w26 w27) :
    own_Dn p e below s (lw_Q Z p0 p1 w_a w_e w_k r0 h0 n0) room_1.cells room_1.slots (T0.setTop (mkF m 122 #[ι p0, ι p1, ρ o1, ρ o9, ρ o19, ρ o30, ι v6, ι v7, ι v8, ρ o79, ι 1, ι 1, υ, υ, υ, υ, υ, υ] [(.int 1)])) := by
  obtain ⟨hx, hZ, hw, hby, hml, hown, hret, hlk, hnm⟩ := id C0
  refine own_st (fun _ k => XS.istore X0.here hx rfl (hb hby lw_d122) rfl (l' := #[ι p0, ι p1, ρ o1, ρ o9, ρ o19, ρ o30, ι v6, ι v7, ι v8, ρ o79, ι 1, ι 1, ι 1, υ, υ, υ, υ, υ]) rfl (XS.iload X0.here hx rfl (hb hby lw_d124) rfl k)) ?_
  show own_Dn p e below s _ _ _ (T0.setTop (mkF m 126 #[ι p0, ι p1, ρ o1, ρ o9, ρ o19, ρ o30, ι v6, ι v7, ι v8, ρ o79, ι 1, ι 1, ι 1, υ, υ, υ, υ, υ] [(.int v6)]))
  rcases hi0.2.1 with rfl | rfl
  · refine own_st (fun _ k => XS.ifYes X0.here hx rfl (pc0 := 126) (pc' := 135) rfl (hb hby lw_d126) rfl ((if0 _ _).trans (teq (by decide : (0 : Int32) = (0 : Int32))).1) (by decide) (by decide) k) ?_
    show own_Dn p e below s _ _ _ (T0.setTop (mkF m 135 #[ι p0, ι p1, ρ o1, ρ o9, ρ o19, ρ o30, ι 0, ι v7, ι v8, ρ o79, ι 1, ι 1, ι 1, υ, υ, υ, υ, υ] []))
    exact lw_c135n C0 X0 e0 N0 (v7) (v8) (w3) (w9) (w24) (w25) (w26) (w27) Z0 P1 K0 P3 P4 P5 P6 P7 P8 P9 P10 P11 P12 P13 P14 P15 P16 P17 P18 P19 P20 P21 P22 P23 P24 P25 P26 P27 kn0 kn1 kn2 kn3 kn4 kn5 kn6 kn7 kn8 kn9 kn10 kn11 kn12 kn13 kn14 kn15 kn16 kn17 kn18 kn19 kn20 kn21 kn22 kn23 kn24 kn25 kn26 kn27 kn28 kn29 kn30 kn31 kn32 kn33 kn34 kn35 kn36 kn37 kn38 kn39 kn40 kn41 kn42 kn43 kn44 kn45 kn46 kn47 kn48 kn49 kn50 kn51 hL ⟨hi0.1, hi0.2.2.1, hi0.2.2.2.1, (own_JE.sub (own_JE.of hi0.2.2.2.2 (fr := [0, 1, 2, 3])) (by decide)), (by decide)⟩ (by rw [hr0, lw_f122, if_pos rfl])
  · refine own_st (fun _ k => XS.ifNo X0.here hx rfl (hb hby lw_d126) rfl ((if0 _ _).trans (feq (by decide : ¬ ((1 : Int32) = (0 : Int32)))).1) k) ?_
    show own_Dn p e below s _ _ _ (T0.setTop (mkF m 129 #[ι p0, ι p1, ρ o1, ρ o9, ρ o19, ρ o30, ι 1, ι v7, ι v8, ρ o79, ι 1, ι 1, ι 1, υ, υ, υ, υ, υ] []))
    refine own_st (fun _ k => XS.aload X0.here hx rfl (hb hby lw_d129) rfl rfl (XS.iconst X0.here hx rfl (hb hby lw_d131) k)) ?_
    show own_Dn p e below s _ _ _ (T0.setTop (mkF m 132 #[ι p0, ι p1, ρ o1, ρ o9, ρ o19, ρ o30, ι 1, ι v7, ι v8, ρ o79, ι 1, ι 1, ι 1, υ, υ, υ, υ, υ] [(.int 0), (.ref o79)]))
    obtain ⟨cq979, kq979, q979a, q979b, q979c⟩ := isOf hZ e0 P4
    obtain ⟨_, _, ⟨T979, L979, k979, n979⟩, -, X979, ⟨Lc979, hQ979, l979, y979, z979⟩, st979⟩ := X0.virtualBack hx (y := (⟨ς0, "remove", "(I)V"⟩ : MethodName)) (z := (⟨ς0, "remove", "(I)V"⟩ : MethodName)) hown (mvT hZ (own_w hw 197 rfl)) (mvT hZ (own_w hw 198 rfl)) (notFace_of_selects (args := #[]) (mvT hZ (own_w hw 200 rfl))) (mvT hZ (own_w hw 200 rfl)) (mvT hZ (own_w hw 199 rfl)) (by decide) (backOf (W := 0) (rr_rm l Z a0 hw [] (o79) ((0 : Int32)) (r4_94) (r1_94) (r5_94) (r6_94) (r7_94) (r2_94) (r3_94) (w9) (w24) (w25) (w26) (w27) ((3 : Int32)) h1 n0 Z0 P4 P10 P11 P12 P13 P14 P24 P6 P7 P8 P15 P5 P16 P17 P9 P18 P19 P20 P21 P22 P23 P25 P26 P27 kn1 kn11 kn3 kn29 kn33 kn36 kn25 kn14 kn20 kn4 (Ne.symm kn5) (Ne.symm kn6) (Ne.symm kn7) kn30 kn15 kn21 kn26 kn8 kn34 kn16 kn22 kn27 kn9 kn31 kn37 kn17 kn23 kn28 kn10 kn32 kn35 (own_JE.P0 (own_JE.of hi0.2.2.2.2 (fr := [0, 1, 2, 3]))) (own_JE.FB (own_JE.of hi0.2.2.2.2 (fr := [0, 1, 2, 3]))) (by decide) (own_JE.din (own_JE.of hi0.2.2.2.2 (fr := [0, 1, 2, 3])) (by decide) (by decide))) hZ (own_w hw 201 rfl) (own_w hw 3 rfl) (by decide) (by decide)) q979a q979c (g := (mkF m 132 #[ι p0, ι p1, ρ o1, ρ o9, ρ o19, ρ o30, ι 1, ι v7, ι v8, ρ o79, ι 1, ι 1, ι 1, υ, υ, υ, υ, υ] [(.int 0), (.ref o79)])) rfl (by rw [hml]; rfl) (Steps.refl _) (argsL := [(.int 0)]) (rest := []) (lenOf own_pd5 rfl) rfl (by show 2 * 0 + _ ≤ _; exact Nat.le_of_eq rfl) (hb hby lw_d132) (fun _ _ => ⟨rfl, e0, (by decide : 18 + 3 ≤ _), (by decide : 95 + 24 ≤ _)⟩)
    dsimp only [Pt.U, Pt.locs, Pt.cells, Pt.slots] at X979 l979 y979 z979 st979 hQ979
    subst l979 y979 z979
    obtain ⟨rfl, N979q, K979, rq, ge979_0, or979_0, nb979_0, G980, G981, G982, G983, G984, G985, G986, G987, G988, G989, G990, G991, G992, G993, G994, G995, G996, G997, G998, G999, G1000⟩ := hQ979
    have ne1001 : o30 ≠ rq := own_ne_or or979_0 P3.lt nin0
    have ne1002 : r2_94 ≠ rq := own_ne_or or979_0 P5.lt nin0
    have ne1003 : r3_94 ≠ rq := own_ne_or or979_0 P6.lt nin0
    have ne1004 : r4_94 ≠ rq := own_ne_or or979_0 P9.lt nin0
    have ne1005 : r1_94 ≠ rq := own_ne_or or979_0 P24.lt nin0
    have ne1006 : r5_94 ≠ rq := own_ne_or or979_0 P25.lt nin0
    have ne1007 : r6_94 ≠ rq := own_ne_or or979_0 P26.lt nin0
    have ne1008 : r7_94 ≠ rq := own_ne_or or979_0 P27.lt nin0
    have or1009 : rq ∈ ([] : List Addr) ∨ h0.size ≤ rq := own_or_up or979_0 K0.1 all0
    have F1010 : n0 ≤ T979.heap.size := Nat.le_trans Z0 K979.1
    have F1011 : w_k ≤ T979.heap.size := Nat.le_trans P1 K979.1
    have F1012 : Keep h0 T979.heap [] := K0.trans K979 (allS (Or.inr kn2) (allS kn46 (allS kn45 (allS kn49 (allS kn50 (allS kn51 all0))))))
    have F1013 := P3.keep K979 (ninS kn0 (ninS kn39 (ninS kn38 (ninS kn42 (ninS kn43 (ninS kn44 nin0))))))
    have F1014 := P4.keep K979
    have F1015 := P5.keep K979
    have F1016 := P6.keep K979
    have F1017 := P7.keep K979 (ninS (Ne.symm kn19) (ninS (Ne.symm kn13) (ninS (Ne.symm kn6) (ninS kn21 (ninS kn22 (ninS kn23 nin0))))))
    have F1018 := P8.keep K979 (ninS (Ne.symm kn19) (ninS (Ne.symm kn13) (ninS (Ne.symm kn6) (ninS kn21 (ninS kn22 (ninS kn23 nin0))))))
    have F1019 := P9.keep K979 (ninS (Ne.symm kn25) (ninS (Ne.symm kn14) (ninS (Ne.symm kn7) (ninS kn26 (ninS kn27 (ninS kn28 nin0))))))
    have N979 := Fr.app N0 N979q
    refine own_tr st979 ?_
    have hJ1020 : own_JE p0 [1, 2, 3] (rr_g17 (0 : Int32) w9 w24 w25 w26 w27 (3 : Int32)) w24 w9 ∧ (rr_g15 (0 : Int32) w9 w24 w25 w26 w27 (3 : Int32)) = (3 : Int32) - (1 : Int32) := own_JE.rem (own_JE.of hi0.2.2.2.2 (fr := [0, 1, 2, 3])) (by decide) (by decide) (by decide)
    have G1021 : Fld Z T979.heap r2_94 ς1 "keys" "I" (.int 2) := own_FldE (hJ1020.2.trans (by decide : (3 : Int32) - (1 : Int32) = (2 : Int32))) G995
    show own_Dn p e below s _ _ _ (T979.setTop (mkF m 135 #[ι p0, ι p1, ρ o1, ρ o9, ρ o19, ρ o30, ι 1, ι v7, ι v8, ρ o79, ι 1, ι 1, ι 1, υ, υ, υ, υ, υ] []))
    exact lw_c135y C0 X979 rfl N979 (v7) (v8) (w3) (w9) (w24) ((rr_g17 (0 : Int32) w9 w24 w25 w26 w27 (3 : Int32))) ((rr_g18 (0 : Int32) w9 w24 w25 w26 w27 (3 : Int32))) ((rr_g19 (0 : Int32) w9 w24 w25 w26 w27 (3 : Int32))) ((rr_g20 (0 : Int32) w9 w24 w25 w26 w27 (3 : Int32))) F1010 F1011 F1012 F1013 G980 G987 F1016 F1017 F1018 F1019 G981 G982 G983 G984 G985 G986 G988 G989 G990 G991 G992 G993 G994 G1021 G996 G997 G998 G999 G1000 kn0 kn1 kn2 kn3 kn4 kn5 kn6 kn7 kn8 kn9 kn10 kn11 kn12 kn13 kn14 kn15 kn16 kn17 kn18 kn19 kn20 kn21 kn22 kn23 kn24 kn25 kn26 kn27 kn28 kn29 kn30 kn31 kn32 kn33 kn34 kn35 kn36 kn37 kn38 kn39 kn40 kn41 kn42 kn43 kn44 kn45 kn46 kn47 kn48 kn49 kn50 kn51 ge979_0 nb979_0 ne1001 ne1002 ne1003 ne1004 ne1005 ne1006 ne1007 ne1008 or1009 hL ⟨hi0.1, hi0.2.2.1, hi0.2.2.2.1, hJ1020.1, (by decide), (Or.inr ⟨rfl, own_V_same _ _⟩), (own_V_other (by decide) rfl), (own_V_other (by decide) rfl), (own_V_other (by decide) rfl)⟩ (by rw [hr0, lw_f122, if_neg (by decide : ¬ (1 : Int32) = (0 : Int32))])
def lw_f113 (p0 : Int32) (p1 : Int32) (v6 : Int32) (v7 : Int32) (v8 : Int32) (w3 : Nat → Int32) (w4 : Nat → Int32) (w10 : Nat → Int32) (w25 : Nat → Int32) (w26 : Nat → Int32) (w27 : Nat → Int32) (w28 : Nat → Int32) : Int32 :=
  lw_f122 p0 p1 (v6) (v7) (v8) (w4) (w10) ((ra_g16 w10 w25 w26 w27 w28 (2 : Int32) (2 : Int32) w3)) ((ra_g17 w10 w25 w26 w27 w28 (2 : Int32) (2 : Int32) w3)) ((ra_g18 w10 w25 w26 w27 w28 (2 : Int32) (2 : Int32) w3)) ((ra_g19 w10 w25 w26 w27 w28 (2 : Int32) (2 : Int32) w3))
set_option maxRecDepth 65536 in
set_option maxHeartbeats 40000000 in
theorem lw_c113 {p0 : Int32} {p1 : Int32} {w_a : Addr} {w_e : Addr} {w_k : Nat} {locs : List Loc} {o1 : Addr} {o19 : Addr} {o30 : Addr} {o79 : Addr} {o9 : Addr} {r1_94 : Addr} {r2_94 : Addr} {r3_94 : Addr} {r4_94 : Addr} {r5_94 : Addr} {r6_94 : Addr} {r7_94 : Addr} {r0 : Int32} (C0 : own_Cx p s m meth c Z a0 code 18 ς8 "law" (some .boolean)) (X0 : Stand p l e room_1 s m args below meth c T0 locs 17 91) (e0 : T0.heap = h1) (N0 : Fr n0 locs) (v6 : Int32) (v7 : Int32) (v8 : Int32) (w3 : Nat → Int32) (w4 : Nat → Int32) (w10 : Nat → Int32) (w25 : Nat → Int32) (w26 : Nat → Int32) (w27 : Nat → Int32) (w28 : Nat → Int32) (Z0 : n0 ≤ h1.size) (P1 : w_k ≤ h1.size) (K0 : Keep h0 h1 []) (P3 : own_Arf Z h1 o19 .int 1 (fun i => (.int (w3 i)))) (P4 : own_Arf Z h1 o30 .int 1 (fun i => (.int (w4 i)))) (P5 : Exa Z h1 o79 ς0) (P6 : Exa Z h1 r2_94 ς1) (P7 : Exa Z h1 r3_94 ς3) (P8 : Fld Z h1 r3_94 ς6 "modCount" "I" (.int 0)) (P9 : Fld Z h1 r3_94 ς3 "size" "I" (.int 0)) (P10 : own_Arf Z h1 r4_94 .int 1 (fun i => (.int (w10 i)))) (P11 : Fld Z h1 o79 ς0 "data" "[I" (.ref r1_94)) (P12 : Fld Z h1 o79 ς0 "arity" "I" (.int 1)) (P13 : Fld Z h1 o79 ς0 "facts" ς5 (.ref r2_94)) (P14 : Fld Z h1 o79 ς0 "indexes" ς10 (.ref r3_94)) (P15 : Fld Z h1 o79 ς0 "removed" "[Z" .null) (P16 : Fld Z h1 o79 ς0 "size" "I" (.int 2)) (P17 : Fld Z h1 r2_94 ς1 "this$0" ς2 (.ref o79)) (P18 : Fld Z h1 r2_94 ς1 "positions" "[I" (.ref r4_94)) (P19 : Fld Z h1 r2_94 ς1 "firsts" "[I" (.ref r5_94)) (P20 : Fld Z h1 r2_94 ς1 "lasts" "[I" (.ref r6_94)) (P21 : Fld Z h1 r2_94 ς1 "rowKey" "[I" (.ref r7_94)) (P22 : Fld Z h1 r2_94 ς1 "next" "[I" .null) (P23 : Fld Z h1 r2_94 ς1 "previous" "[I" .null) (P24 : Fld Z h1 r2_94 ς1 "keys" "I" (.int 2)) (P25 : own_Arf Z h1 r1_94 .int 16 (fun i => (.int (w25 i)))) (P26 : own_Arf Z h1 r5_94 .int 16 (fun i => (.int (w26 i)))) (P27 : own_Arf Z h1 r6_94 .int 16 (fun i => (.int (w27 i)))) (P28 : own_Arf Z h1 r7_94 .int 1 (fun i => (.int (w28 i)))) (kn0 : o19 ≠ o79) (kn1 : o30 ≠ o79) (kn2 : n0 ≤ o79) (kn3 : h0.size ≤ o79) (kn4 : n0 ≤ r1_94) (kn5 : o79 ≠ r1_94) (kn6 : r1_94 ≠ r2_94) (kn7 : r1_94 ≠ r3_94) (kn8 : r1_94 ≠ r4_94) (kn9 : r1_94 ≠ r5_94) (kn10 : r1_94 ≠ r6_94) (kn11 : r1_94 ≠ r7_94) (kn12 : n0 ≤ r2_94) (kn13 : o79 ≠ r2_94) (kn14 : r2_94 ≠ r3_94) (kn15 : r2_94 ≠ r4_94) (kn16 : r2_94 ≠ r5_94) (kn17 : r2_94 ≠ r6_94) (kn18 : r2_94 ≠ r7_94) (kn19 : n0 ≤ r3_94) (kn20 : o79 ≠ r3_94) (kn21 : r3_94 ≠ r4_94) (kn22 : r3_94 ≠ r5_94) (kn23 : r3_94 ≠ r6_94) (kn24 : r3_94 ≠ r7_94) (kn25 : n0 ≤ r4_94) (kn26 : o79 ≠ r4_94) (kn27 : r4_94 ≠ r5_94) (kn28 : r4_94 ≠ r6_94) (kn29 : r4_94 ≠ r7_94) (kn30 : n0 ≤ r5_94) (kn31 : o79 ≠ r5_94) (kn32 : r5_94 ≠ r6_94) (kn33 : r5_94 ≠ r7_94) (kn34 : n0 ≤ r6_94) (kn35 : o79 ≠ r6_94) (kn36 : r6_94 ≠ r7_94) (kn37 : n0 ≤ r7_94) (kn38 : o79 ≠ r7_94) (kn39 : o19 ≠ r1_94) (kn40 : o19 ≠ r2_94) (kn41 : o19 ≠ r3_94) (kn42 : o19 ≠ r4_94) (kn43 : o19 ≠ r5_94) (kn44 : o19 ≠ r6_94) (kn45 : o19 ≠ r7_94) (kn46 : o30 ≠ r1_94) (kn47 : o30 ≠ r2_94) (kn48 : o30 ≠ r3_94) (kn49 : o30 ≠ r4_94) (kn50 : o30 ≠ r5_94) (kn51 : o30 ≠ r6_94) (kn52 : o30 ≠ r7_94) (kn53 : r1_94 ∈ ([] : List Addr) ∨ h0.size ≤ r1_94) (kn54 : r2_94 ∈ ([] : List Addr) ∨ h0.size ≤ r2_94) (kn55 : r3_94 ∈ ([] : List Addr) ∨ h0.size ≤ r3_94) (kn56 : r4_94 ∈ ([] : List Addr) ∨ h0.size ≤ r4_94) (kn57 : r5_94 ∈ ([] : List Addr) ∨ h0.size ≤ r5_94) (kn58 : r6_94 ∈ ([] : List Addr) ∨ h0.size ≤ r6_94) (kn59 : r7_94 ∈ ([] : List Addr) ∨ h0.size ≤ r7_94) (hL : own_LF n0 Z h0 w_a) (hi0 : w3 0 = p0 + Int32.ofNat 2 ∧ w4 0 = p0 + Int32.ofNat 3 ∧ own_B v6 ∧ own_B v7 ∧ own_B v8 ∧ own_J p0 2 [] w26 w25 w10) (hr0 : r0 = lw_f113 p0 p1 v6 v7 v8 w3 w4 w10 w25 w26 w27 w28) :
    own_Dn p e below s (lw_Q Z p0 p1 w_a w_e w_k r0 h0 n0) room_1.cells room_1.slots (T0.setTop (mkF m 113 #[ι p0, ι p1, ρ o1, ρ o9, ρ o19, ρ o30, ι v6, ι v7, ι v8, ρ o79, ι 1, υ, υ, υ, υ, υ, υ, υ] [(.int 1)])) := by
  obtain ⟨hx, hZ, hw, hby, hml, hown, hret, hlk, hnm⟩ := id C0
  refine own_st (fun _ k => XS.istore X0.here hx rfl (hb hby lw_d113) rfl (l' := #[ι p0, ι p1, ρ o1, ρ o9, ρ o19, ρ o30, ι v6, ι v7, ι v8, ρ o79, ι 1, ι 1, υ, υ, υ, υ, υ, υ]) rfl (XS.aload X0.here hx rfl (hb hby lw_d115) rfl rfl (XS.aload X0.here hx rfl (hb hby lw_d117) rfl rfl k))) ?_
  show own_Dn p e below s _ _ _ (T0.setTop (mkF m 119 #[ι p0, ι p1, ρ o1, ρ o9, ρ o19, ρ o30, ι v6, ι v7, ι v8, ρ o79, ι 1, ι 1, υ, υ, υ, υ, υ, υ] [(.ref o19), (.ref o79)]))
  obtain ⟨cq944, kq944, q944a, q944b, q944c⟩ := isOf hZ e0 P5
  obtain ⟨_, _, ⟨T944, L944, k944, n944⟩, -, X944, ⟨Lc944, hQ944, l944, y944, z944⟩, st944⟩ := X0.virtualBack hx (y := (⟨ς0, "add", "([I)Z"⟩ : MethodName)) (z := (⟨ς0, "add", "([I)Z"⟩ : MethodName)) hown (mvT hZ (own_w hw 114 rfl)) (mvT hZ (own_w hw 115 rfl)) (notFace_of_selects (args := #[]) (mvT hZ (own_w hw 117 rfl))) (mvT hZ (own_w hw 117 rfl)) (mvT hZ (own_w hw 116 rfl)) (by decide) (backOf (W := 0) (ra_rm l Z a0 hw [] (o79) (o19) (r4_94) (r1_94) (r5_94) (r6_94) (r7_94) (r2_94) (r3_94) (w10) (w25) (w26) (w27) (w28) ((2 : Int32)) ((2 : Int32)) (w3) h1 n0 Z0 P5 P11 P12 P13 P14 P15 P25 P7 P8 P9 P16 P6 P17 P18 P10 P19 P20 P21 P22 P23 P24 P26 P27 P28 P3 kn2 kn12 kn4 kn30 kn34 kn37 kn26 kn15 kn21 kn5 (Ne.symm kn6) (Ne.symm kn7) (Ne.symm kn8) kn31 kn16 kn22 kn27 kn9 kn35 kn17 kn23 kn28 kn10 kn32 kn38 kn18 kn24 kn29 kn11 kn33 kn36 kn39 hi0.2.2.2.2.2.1 (own_J.RA hi0.2.2.2.2.2 (by decide) (s := (2 : Int32)) (c := (2 : Int32)) rfl hi0.1 (by decide)) (own_RA_fit (own_J.RA hi0.2.2.2.2.2 (by decide) (s := (2 : Int32)) (c := (2 : Int32)) rfl hi0.1 (by decide))) (own_RA_s16 (own_J.RA hi0.2.2.2.2.2 (by decide) (s := (2 : Int32)) (c := (2 : Int32)) rfl hi0.1 (by decide)))) hZ (own_w hw 118 rfl) (own_w hw 3 rfl) (by decide) (by decide)) q944a q944c (g := (mkF m 119 #[ι p0, ι p1, ρ o1, ρ o9, ρ o19, ρ o30, ι v6, ι v7, ι v8, ρ o79, ι 1, ι 1, υ, υ, υ, υ, υ, υ] [(.ref o19), (.ref o79)])) rfl (by rw [hml]; rfl) (Steps.refl _) (argsL := [(.ref o19)]) (rest := []) (lenOf own_pd16 rfl) rfl (by show 2 * 0 + _ ≤ _; exact Nat.le_of_eq rfl) (hb hby lw_d119) (fun _ _ => ⟨rfl, e0, (by decide : 17 + 1 ≤ _), (by decide : 91 + 4 ≤ _)⟩)
  dsimp only [Pt.U, Pt.locs, Pt.cells, Pt.slots] at X944 l944 y944 z944 st944 hQ944
  subst l944 y944 z944
  obtain ⟨rfl, N944q, K944, G945, G946, G947, G948, G949, G950, G951, G952, G953, G954, G955, G956, G957, G958, G959, G960, G961, G962, G963, G964⟩ := hQ944
  have F965 : n0 ≤ T944.heap.size := Nat.le_trans Z0 K944.1
  have F966 : w_k ≤ T944.heap.size := Nat.le_trans P1 K944.1
  have F967 : Keep h0 T944.heap [] := K0.trans K944 (allS (Or.inr kn3) (allS kn54 (allS kn53 (allS kn57 (allS kn58 (allS kn59 all0))))))
  have F968 := P3.keep K944 (ninS kn0 (ninS kn40 (ninS kn39 (ninS kn43 (ninS kn44 (ninS kn45 nin0))))))
  have F969 := P4.keep K944 (ninS kn1 (ninS kn47 (ninS kn46 (ninS kn50 (ninS kn51 (ninS kn52 nin0))))))
  have F970 := P5.keep K944
  have F971 := P6.keep K944
  have F972 := P7.keep K944
  have F973 := P8.keep K944 (ninS (Ne.symm kn20) (ninS (Ne.symm kn14) (ninS (Ne.symm kn7) (ninS kn22 (ninS kn23 (ninS kn24 nin0))))))
  have F974 := P9.keep K944 (ninS (Ne.symm kn20) (ninS (Ne.symm kn14) (ninS (Ne.symm kn7) (ninS kn22 (ninS kn23 (ninS kn24 nin0))))))
  have F975 := P10.keep K944 (ninS (Ne.symm kn26) (ninS (Ne.symm kn15) (ninS (Ne.symm kn8) (ninS kn27 (ninS kn28 (ninS kn29 nin0))))))
  have N944 := Fr.app N0 N944q
  refine own_tr st944 ?_
  have hJ976 : own_J p0 3 [] (ra_g17 w10 w25 w26 w27 w28 (2 : Int32) (2 : Int32) w3) (ra_g16 w10 w25 w26 w27 w28 (2 : Int32) (2 : Int32) w3) w10 ∧ (ra_g15 w10 w25 w26 w27 w28 (2 : Int32) (2 : Int32) w3) = (3 : Int32) := (own_J.add hi0.2.2.2.2.2 (by decide) (by decide) rfl hi0.1).imp id (fun q => q.trans (by decide : (2 : Int32) + (1 : Int32) = (3 : Int32)))
  have G977 : Fld Z T944.heap r2_94 ς1 "keys" "I" (.int 3) := own_FldE hJ976.2 G960
  have G978 : Fld Z T944.heap o79 ς0 "size" "I" (.int 3) := own_FldE ((rfl : (ra_g6 w10 w25 w26 w27 w28 (2 : Int32) (2 : Int32) w3) = (2 : Int32) + (1 : Int32)).trans (by decide : (2 : Int32) + (1 : Int32) = (3 : Int32))) G951
  show own_Dn p e below s _ _ _ (T944.setTop (mkF m 122 #[ι p0, ι p1, ρ o1, ρ o9, ρ o19, ρ o30, ι v6, ι v7, ι v8, ρ o79, ι 1, ι 1, υ, υ, υ, υ, υ, υ] [(.int 1)]))
  exact lw_c122 C0 X944 rfl N944 (v6) (v7) (v8) (w4) (w10) ((ra_g16 w10 w25 w26 w27 w28 (2 : Int32) (2 : Int32) w3)) ((ra_g17 w10 w25 w26 w27 w28 (2 : Int32) (2 : Int32) w3)) ((ra_g18 w10 w25 w26 w27 w28 (2 : Int32) (2 : Int32) w3)) ((ra_g19 w10 w25 w26 w27 w28 (2 : Int32) (2 : Int32) w3)) F965 F966 F967 F969 G945 G952 F972 F973 F974 F975 G946 G947 G948 G949 G950 G978 G953 G954 G955 G956 G957 G958 G959 G977 G961 G962 G963 G964 kn1 kn2 kn3 kn4 kn5 kn6 kn7 kn8 kn9 kn10 kn11 kn12 kn13 kn14 kn15 kn16 kn17 kn18 kn19 kn20 kn21 kn22 kn23 kn24 kn25 kn26 kn27 kn28 kn29 kn30 kn31 kn32 kn33 kn34 kn35 kn36 kn37 kn38 kn46 kn47 kn48 kn49 kn50 kn51 kn52 kn53 kn54 kn55 kn56 kn57 kn58 kn59 hL ⟨hi0.2.1, hi0.2.2.1, hi0.2.2.2.1, hi0.2.2.2.2.1, hJ976.1⟩ (by rw [hr0, lw_f113])
def lw_f105 (p0 : Int32) (p1 : Int32) (v6 : Int32) (v7 : Int32) (v8 : Int32) (w3 : Nat → Int32) (w4 : Nat → Int32) (w5 : Nat → Int32) (w11 : Nat → Int32) (w26 : Nat → Int32) (w27 : Nat → Int32) (w28 : Nat → Int32) (w29 : Nat → Int32) : Int32 :=
  lw_f113 p0 p1 (v6) (v7) (v8) (w4) (w5) (w11) ((ra_g16 w11 w26 w27 w28 w29 (1 : Int32) (1 : Int32) w3)) ((ra_g17 w11 w26 w27 w28 w29 (1 : Int32) (1 : Int32) w3)) ((ra_g18 w11 w26 w27 w28 w29 (1 : Int32) (1 : Int32) w3)) ((ra_g19 w11 w26 w27 w28 w29 (1 : Int32) (1 : Int32) w3))
set_option maxRecDepth 65536 in
set_option maxHeartbeats 40000000 in
theorem lw_c105 {p0 : Int32} {p1 : Int32} {w_a : Addr} {w_e : Addr} {w_k : Nat} {locs : List Loc} {o1 : Addr} {o19 : Addr} {o30 : Addr} {o79 : Addr} {o9 : Addr} {r1_94 : Addr} {r2_94 : Addr} {r3_94 : Addr} {r4_94 : Addr} {r5_94 : Addr} {r6_94 : Addr} {r7_94 : Addr} {r0 : Int32} (C0 : own_Cx p s m meth c Z a0 code 18 ς8 "law" (some .boolean)) (X0 : Stand p l e room_1 s m args below meth c T0 locs 16 87) (e0 : T0.heap = h1) (N0 : Fr n0 locs) (v6 : Int32) (v7 : Int32) (v8 : Int32) (w3 : Nat → Int32) (w4 : Nat → Int32) (w5 : Nat → Int32) (w11 : Nat → Int32) (w26 : Nat → Int32) (w27 : Nat → Int32) (w28 : Nat → Int32) (w29 : Nat → Int32) (Z0 : n0 ≤ h1.size) (P1 : w_k ≤ h1.size) (K0 : Keep h0 h1 []) (P3 : own_Arf Z h1 o9 .int 1 (fun i => (.int (w3 i)))) (P4 : own_Arf Z h1 o19 .int 1 (fun i => (.int (w4 i)))) (P5 : own_Arf Z h1 o30 .int 1 (fun i => (.int (w5 i)))) (P6 : Exa Z h1 o79 ς0) (P7 : Exa Z h1 r2_94 ς1) (P8 : Exa Z h1 r3_94 ς3) (P9 : Fld Z h1 r3_94 ς6 "modCount" "I" (.int 0)) (P10 : Fld Z h1 r3_94 ς3 "size" "I" (.int 0)) (P11 : own_Arf Z h1 r4_94 .int 1 (fun i => (.int (w11 i)))) (P12 : Fld Z h1 o79 ς0 "data" "[I" (.ref r1_94)) (P13 : Fld Z h1 o79 ς0 "arity" "I" (.int 1)) (P14 : Fld Z h1 o79 ς0 "facts" ς5 (.ref r2_94)) (P15 : Fld Z h1 o79 ς0 "indexes" ς10 (.ref r3_94)) (P16 : Fld Z h1 o79 ς0 "removed" "[Z" .null) (P17 : Fld Z h1 o79 ς0 "size" "I" (.int 1)) (P18 : Fld Z h1 r2_94 ς1 "this$0" ς2 (.ref o79)) (P19 : Fld Z h1 r2_94 ς1 "positions" "[I" (.ref r4_94)) (P20 : Fld Z h1 r2_94 ς1 "firsts" "[I" (.ref r5_94)) (P21 : Fld Z h1 r2_94 ς1 "lasts" "[I" (.ref r6_94)) (P22 : Fld Z h1 r2_94 ς1 "rowKey" "[I" (.ref r7_94)) (P23 : Fld Z h1 r2_94 ς1 "next" "[I" .null) (P24 : Fld Z h1 r2_94 ς1 "previous" "[I" .null) (P25 : Fld Z h1 r2_94 ς1 "keys" "I" (.int 1)) (P26 : own_Arf Z h1 r1_94 .int 16 (fun i => (.int (w26 i)))) (P27 : own_Arf Z h1 r5_94 .int 16 (fun i => (.int (w27 i)))) (P28 : own_Arf Z h1 r6_94 .int 16 (fun i => (.int (w28 i)))) (P29 : own_Arf Z h1 r7_94 .int 1 (fun i => (.int (w29 i)))) (kn0 : o9 ≠ o79) (kn1 : o19 ≠ o79) (kn2 : o30 ≠ o79) (kn3 : n0 ≤ o79) (kn4 : h0.size ≤ o79) (kn5 : n0 ≤ r1_94) (kn6 : o79 ≠ r1_94) (kn7 : r1_94 ≠ r2_94) (kn8 : r1_94 ≠ r3_94) (kn9 : r1_94 ≠ r4_94) (kn10 : r1_94 ≠ r5_94) (kn11 : r1_94 ≠ r6_94) (kn12 : r1_94 ≠ r7_94) (kn13 : n0 ≤ r2_94) (kn14 : o79 ≠ r2_94) (kn15 : r2_94 ≠ r3_94) (kn16 : r2_94 ≠ r4_94) (kn17 : r2_94 ≠ r5_94) (kn18 : r2_94 ≠ r6_94) (kn19 : r2_94 ≠ r7_94) (kn20 : n0 ≤ r3_94) (kn21 : o79 ≠ r3_94) (kn22 : r3_94 ≠ r4_94) (kn23 : r3_94 ≠ r5_94) (kn24 : r3_94 ≠ r6_94) (kn25 : r3_94 ≠ r7_94) (kn26 : n0 ≤ r4_94) (kn27 : o79 ≠ r4_94) (kn28 : r4_94 ≠ r5_94) (kn29 : r4_94 ≠ r6_94) (kn30 : r4_94 ≠ r7_94) (kn31 : n0 ≤ r5_94) (kn32 : o79 ≠ r5_94) (kn33 : r5_94 ≠ r6_94) (kn34 : r5_94 ≠ r7_94) (kn35 : n0 ≤ r6_94) (kn36 : o79 ≠ r6_94) (kn37 : r6_94 ≠ r7_94) (kn38 : n0 ≤ r7_94) (kn39 : o79 ≠ r7_94) (kn40 : o9 ≠ r1_94) (kn41 : o9 ≠ r2_94) (kn42 : o9 ≠ r3_94) (kn43 : o9 ≠ r4_94) (kn44 : o9 ≠ r5_94) (kn45 : o9 ≠ r6_94) (kn46 : o9 ≠ r7_94) (kn47 : o19 ≠ r1_94) (kn48 : o19 ≠ r2_94) (kn49 : o19 ≠ r3_94) (kn50 : o19 ≠ r4_94) (kn51 : o19 ≠ r5_94) (kn52 : o19 ≠ r6_94) (kn53 : o19 ≠ r7_94) (kn54 : o30 ≠ r1_94) (kn55 : o30 ≠ r2_94) (kn56 : o30 ≠ r3_94) (kn57 : o30 ≠ r4_94) (kn58 : o30 ≠ r5_94) (kn59 : o30 ≠ r6_94) (kn60 : o30 ≠ r7_94) (kn61 : r1_94 ∈ ([] : List Addr) ∨ h0.size ≤ r1_94) (kn62 : r2_94 ∈ ([] : List Addr) ∨ h0.size ≤ r2_94) (kn63 : r3_94 ∈ ([] : List Addr) ∨ h0.size ≤ r3_94) (kn64 : r4_94 ∈ ([] : List Addr) ∨ h0.size ≤ r4_94) (kn65 : r5_94 ∈ ([] : List Addr) ∨ h0.size ≤ r5_94) (kn66 : r6_94 ∈ ([] : List Addr) ∨ h0.size ≤ r6_94) (kn67 : r7_94 ∈ ([] : List Addr) ∨ h0.size ≤ r7_94) (hL : own_LF n0 Z h0 w_a) (hi0 : w3 0 = p0 + Int32.ofNat 1 ∧ w4 0 = p0 + Int32.ofNat 2 ∧ w5 0 = p0 + Int32.ofNat 3 ∧ own_B v6 ∧ own_B v7 ∧ own_B v8 ∧ own_J p0 1 [] w27 w26 w11) (hr0 : r0 = lw_f105 p0 p1 v6 v7 v8 w3 w4 w5 w11 w26 w27 w28 w29) :
    own_Dn p e below s (lw_Q Z p0 p1 w_a w_e w_k r0 h0 n0) room_1.cells room_1.slots (T0.setTop (mkF m 105 #[ι p0, ι p1, ρ o1, ρ o9, ρ o19, ρ o30, ι v6, ι v7, ι v8, ρ o79, υ, υ, υ, υ, υ, υ, υ, υ] [(.int 1)])) := by
  obtain ⟨hx, hZ, hw, hby, hml, hown, hret, hlk, hnm⟩ := id C0
  refine own_st (fun _ k => XS.istore X0.here hx rfl (hb hby lw_d105) rfl (l' := #[ι p0, ι p1, ρ o1, ρ o9, ρ o19, ρ o30, ι v6, ι v7, ι v8, ρ o79, ι 1, υ, υ, υ, υ, υ, υ, υ]) rfl (XS.aload X0.here hx rfl (hb hby lw_d107) rfl rfl (XS.aloadN X0.here hx rfl (hb hby lw_d109) rfl rfl k))) ?_
  show own_Dn p e below s _ _ _ (T0.setTop (mkF m 110 #[ι p0, ι p1, ρ o1, ρ o9, ρ o19, ρ o30, ι v6, ι v7, ι v8, ρ o79, ι 1, υ, υ, υ, υ, υ, υ, υ] [(.ref o9), (.ref o79)]))
  obtain ⟨cq908, kq908, q908a, q908b, q908c⟩ := isOf hZ e0 P6
  obtain ⟨_, _, ⟨T908, L908, k908, n908⟩, -, X908, ⟨Lc908, hQ908, l908, y908, z908⟩, st908⟩ := X0.virtualBack hx (y := (⟨ς0, "add", "([I)Z"⟩ : MethodName)) (z := (⟨ς0, "add", "([I)Z"⟩ : MethodName)) hown (mvT hZ (own_w hw 114 rfl)) (mvT hZ (own_w hw 115 rfl)) (notFace_of_selects (args := #[]) (mvT hZ (own_w hw 117 rfl))) (mvT hZ (own_w hw 117 rfl)) (mvT hZ (own_w hw 116 rfl)) (by decide) (backOf (W := 0) (ra_rm l Z a0 hw [] (o79) (o9) (r4_94) (r1_94) (r5_94) (r6_94) (r7_94) (r2_94) (r3_94) (w11) (w26) (w27) (w28) (w29) ((1 : Int32)) ((1 : Int32)) (w3) h1 n0 Z0 P6 P12 P13 P14 P15 P16 P26 P8 P9 P10 P17 P7 P18 P19 P11 P20 P21 P22 P23 P24 P25 P27 P28 P29 P3 kn3 kn13 kn5 kn31 kn35 kn38 kn27 kn16 kn22 kn6 (Ne.symm kn7) (Ne.symm kn8) (Ne.symm kn9) kn32 kn17 kn23 kn28 kn10 kn36 kn18 kn24 kn29 kn11 kn33 kn39 kn19 kn25 kn30 kn12 kn34 kn37 kn40 hi0.2.2.2.2.2.2.1 (own_J.RA hi0.2.2.2.2.2.2 (by decide) (s := (1 : Int32)) (c := (1 : Int32)) rfl hi0.1 (by decide)) (own_RA_fit (own_J.RA hi0.2.2.2.2.2.2 (by decide) (s := (1 : Int32)) (c := (1 : Int32)) rfl hi0.1 (by decide))) (own_RA_s16 (own_J.RA hi0.2.2.2.2.2.2 (by decide) (s := (1 : Int32)) (c := (1 : Int32)) rfl hi0.1 (by decide)))) hZ (own_w hw 118 rfl) (own_w hw 3 rfl) (by decide) (by decide)) q908a q908c (g := (mkF m 110 #[ι p0, ι p1, ρ o1, ρ o9, ρ o19, ρ o30, ι v6, ι v7, ι v8, ρ o79, ι 1, υ, υ, υ, υ, υ, υ, υ] [(.ref o9), (.ref o79)])) rfl (by rw [hml]; rfl) (Steps.refl _) (argsL := [(.ref o9)]) (rest := []) (lenOf own_pd16 rfl) rfl (by show 2 * 0 + _ ≤ _; exact Nat.le_of_eq rfl) (hb hby lw_d110) (fun _ _ => ⟨rfl, e0, (by decide : 16 + 1 ≤ _), (by decide : 87 + 4 ≤ _)⟩)
  dsimp only [Pt.U, Pt.locs, Pt.cells, Pt.slots] at X908 l908 y908 z908 st908 hQ908
  subst l908 y908 z908
  obtain ⟨rfl, N908q, K908, G909, G910, G911, G912, G913, G914, G915, G916, G917, G918, G919, G920, G921, G922, G923, G924, G925, G926, G927, G928⟩ := hQ908
  have F929 : n0 ≤ T908.heap.size := Nat.le_trans Z0 K908.1
  have F930 : w_k ≤ T908.heap.size := Nat.le_trans P1 K908.1
  have F931 : Keep h0 T908.heap [] := K0.trans K908 (allS (Or.inr kn4) (allS kn62 (allS kn61 (allS kn65 (allS kn66 (allS kn67 all0))))))
  have F932 := P3.keep K908 (ninS kn0 (ninS kn41 (ninS kn40 (ninS kn44 (ninS kn45 (ninS kn46 nin0))))))
  have F933 := P4.keep K908 (ninS kn1 (ninS kn48 (ninS kn47 (ninS kn51 (ninS kn52 (ninS kn53 nin0))))))
  have F934 := P5.keep K908 (ninS kn2 (ninS kn55 (ninS kn54 (ninS kn58 (ninS kn59 (ninS kn60 nin0))))))
  have F935 := P6.keep K908
  have F936 := P7.keep K908
  have F937 := P8.keep K908
  have F938 := P9.keep K908 (ninS (Ne.symm kn21) (ninS (Ne.symm kn15) (ninS (Ne.symm kn8) (ninS kn23 (ninS kn24 (ninS kn25 nin0))))))
  have F939 := P10.keep K908 (ninS (Ne.symm kn21) (ninS (Ne.symm kn15) (ninS (Ne.symm kn8) (ninS kn23 (ninS kn24 (ninS kn25 nin0))))))
  have F940 := P11.keep K908 (ninS (Ne.symm kn27) (ninS (Ne.symm kn16) (ninS (Ne.symm kn9) (ninS kn28 (ninS kn29 (ninS kn30 nin0))))))
  have N908 := Fr.app N0 N908q
  refine own_tr st908 ?_
  have hJ941 : own_J p0 2 [] (ra_g17 w11 w26 w27 w28 w29 (1 : Int32) (1 : Int32) w3) (ra_g16 w11 w26 w27 w28 w29 (1 : Int32) (1 : Int32) w3) w11 ∧ (ra_g15 w11 w26 w27 w28 w29 (1 : Int32) (1 : Int32) w3) = (2 : Int32) := (own_J.add hi0.2.2.2.2.2.2 (by decide) (by decide) rfl hi0.1).imp id (fun q => q.trans (by decide : (1 : Int32) + (1 : Int32) = (2 : Int32)))
  have G942 : Fld Z T908.heap r2_94 ς1 "keys" "I" (.int 2) := own_FldE hJ941.2 G924
  have G943 : Fld Z T908.heap o79 ς0 "size" "I" (.int 2) := own_FldE ((rfl : (ra_g6 w11 w26 w27 w28 w29 (1 : Int32) (1 : Int32) w3) = (1 : Int32) + (1 : Int32)).trans (by decide : (1 : Int32) + (1 : Int32) = (2 : Int32))) G915
  show own_Dn p e below s _ _ _ (T908.setTop (mkF m 113 #[ι p0, ι p1, ρ o1, ρ o9, ρ o19, ρ o30, ι v6, ι v7, ι v8, ρ o79, ι 1, υ, υ, υ, υ, υ, υ, υ] [(.int 1)]))
  exact lw_c113 C0 X908 rfl N908 (v6) (v7) (v8) (w4) (w5) (w11) ((ra_g16 w11 w26 w27 w28 w29 (1 : Int32) (1 : Int32) w3)) ((ra_g17 w11 w26 w27 w28 w29 (1 : Int32) (1 : Int32) w3)) ((ra_g18 w11 w26 w27 w28 w29 (1 : Int32) (1 : Int32) w3)) ((ra_g19 w11 w26 w27 w28 w29 (1 : Int32) (1 : Int32) w3)) F929 F930 F931 F933 F934 G909 G916 F937 F938 F939 F940 G910 G911 G912 G913 G914 G943 G917 G918 G919 G920 G921 G922 G923 G942 G925 G926 G927 G928 kn1 kn2 kn3 kn4 kn5 kn6 kn7 kn8 kn9 kn10 kn11 kn12 kn13 kn14 kn15 kn16 kn17 kn18 kn19 kn20 kn21 kn22 kn23 kn24 kn25 kn26 kn27 kn28 kn29 kn30 kn31 kn32 kn33 kn34 kn35 kn36 kn37 kn38 kn39 kn47 kn48 kn49 kn50 kn51 kn52 kn53 kn54 kn55 kn56 kn57 kn58 kn59 kn60 kn61 kn62 kn63 kn64 kn65 kn66 kn67 hL ⟨hi0.2.1, hi0.2.2.1, hi0.2.2.2.1, hi0.2.2.2.2.1, hi0.2.2.2.2.2.1, hJ941.1⟩ (by rw [hr0, lw_f105])
def lw_f99 (p0 : Int32) (p1 : Int32) (v6 : Int32) (v7 : Int32) (v8 : Int32) (w3 : Nat → Int32) (w4 : Nat → Int32) (w5 : Nat → Int32) (w6 : Nat → Int32) (w26 : Nat → Int32) (w27 : Nat → Int32) (w28 : Nat → Int32) (w29 : Nat → Int32) (w30 : Nat → Int32) : Int32 :=
  lw_f105 p0 p1 (v6) (v7) (v8) (w4) (w5) (w6) (w27) ((ra_g16 w27 w26 w28 w29 w30 (0 : Int32) (0 : Int32) w3)) ((ra_g17 w27 w26 w28 w29 w30 (0 : Int32) (0 : Int32) w3)) ((ra_g18 w27 w26 w28 w29 w30 (0 : Int32) (0 : Int32) w3)) ((ra_g19 w27 w26 w28 w29 w30 (0 : Int32) (0 : Int32) w3))
set_option maxRecDepth 65536 in
set_option maxHeartbeats 40000000 in
theorem lw_c99 {p0 : Int32} {p1 : Int32} {w_a : Addr} {w_e : Addr} {w_k : Nat} {locs : List Loc} {o1 : Addr} {o19 : Addr} {o30 : Addr} {o79 : Addr} {o9 : Addr} {r1_94 : Addr} {r2_94 : Addr} {r3_94 : Addr} {r4_94 : Addr} {r5_94 : Addr} {r6_94 : Addr} {r7_94 : Addr} {r0 : Int32} (C0 : own_Cx p s m meth c Z a0 code 18 ς8 "law" (some .boolean)) (X0 : Stand p l e room_1 s m args below meth c T0 locs 15 83) (e0 : T0.heap = h1) (N0 : Fr n0 locs) (v6 : Int32) (v7 : Int32) (v8 : Int32) (w3 : Nat → Int32) (w4 : Nat → Int32) (w5 : Nat → Int32) (w6 : Nat → Int32) (w26 : Nat → Int32) (w27 : Nat → Int32) (w28 : Nat → Int32) (w29 : Nat → Int32) (w30 : Nat → Int32) (Z0 : n0 ≤ h1.size) (P1 : w_k ≤ h1.size) (K0 : Keep h0 h1 []) (P3 : own_Arf Z h1 o1 .int 1 (fun i => (.int (w3 i)))) (P4 : own_Arf Z h1 o9 .int 1 (fun i => (.int (w4 i)))) (P5 : own_Arf Z h1 o19 .int 1 (fun i => (.int (w5 i)))) (P6 : own_Arf Z h1 o30 .int 1 (fun i => (.int (w6 i)))) (P7 : Exa Z h1 o79 ς0) (P8 : Fld Z h1 o79 ς0 "data" "[I" (.ref r1_94)) (P9 : Fld Z h1 o79 ς0 "arity" "I" (.int 1)) (P10 : Fld Z h1 o79 ς0 "facts" ς5 (.ref r2_94)) (P11 : Fld Z h1 o79 ς0 "indexes" ς10 (.ref r3_94)) (P12 : Fld Z h1 o79 ς0 "removed" "[Z" .null) (P13 : Fld Z h1 o79 ς0 "size" "I" (.int 0)) (P14 : Exa Z h1 r2_94 ς1) (P15 : Fld Z h1 r2_94 ς1 "this$0" ς2 (.ref o79)) (P16 : Fld Z h1 r2_94 ς1 "positions" "[I" (.ref r4_94)) (P17 : Fld Z h1 r2_94 ς1 "firsts" "[I" (.ref r5_94)) (P18 : Fld Z h1 r2_94 ς1 "lasts" "[I" (.ref r6_94)) (P19 : Fld Z h1 r2_94 ς1 "rowKey" "[I" (.ref r7_94)) (P20 : Fld Z h1 r2_94 ς1 "next" "[I" .null) (P21 : Fld Z h1 r2_94 ς1 "previous" "[I" .null) (P22 : Fld Z h1 r2_94 ς1 "keys" "I" (.int 0)) (P23 : Exa Z h1 r3_94 ς3) (P24 : Fld Z h1 r3_94 ς6 "modCount" "I" (.int 0)) (P25 : Fld Z h1 r3_94 ς3 "size" "I" (.int 0)) (P26 : own_Arf Z h1 r1_94 .int 16 (fun i => (.int (w26 i)))) (P27 : own_Arf Z h1 r4_94 .int 1 (fun i => (.int (w27 i)))) (P28 : own_Arf Z h1 r5_94 .int 16 (fun i => (.int (w28 i)))) (P29 : own_Arf Z h1 r6_94 .int 16 (fun i => (.int (w29 i)))) (P30 : own_Arf Z h1 r7_94 .int 1 (fun i => (.int (w30 i)))) (kn0 : o1 ≠ o79) (kn1 : o9 ≠ o79) (kn2 : o19 ≠ o79) (kn3 : o30 ≠ o79) (kn4 : n0 ≤ o79) (kn5 : h0.size ≤ o79) (kn6 : n0 ≤ r1_94) (kn7 : o79 ≠ r1_94) (kn8 : r1_94 ≠ r2_94) (kn9 : r1_94 ≠ r3_94) (kn10 : r1_94 ≠ r4_94) (kn11 : r1_94 ≠ r5_94) (kn12 : r1_94 ≠ r6_94) (kn13 : r1_94 ≠ r7_94) (kn14 : n0 ≤ r2_94) (kn15 : o79 ≠ r2_94) (kn16 : r2_94 ≠ r3_94) (kn17 : r2_94 ≠ r4_94) (kn18 : r2_94 ≠ r5_94) (kn19 : r2_94 ≠ r6_94) (kn20 : r2_94 ≠ r7_94) (kn21 : n0 ≤ r3_94) (kn22 : o79 ≠ r3_94) (kn23 : r3_94 ≠ r4_94) (kn24 : r3_94 ≠ r5_94) (kn25 : r3_94 ≠ r6_94) (kn26 : r3_94 ≠ r7_94) (kn27 : n0 ≤ r4_94) (kn28 : o79 ≠ r4_94) (kn29 : r4_94 ≠ r5_94) (kn30 : r4_94 ≠ r6_94) (kn31 : r4_94 ≠ r7_94) (kn32 : n0 ≤ r5_94) (kn33 : o79 ≠ r5_94) (kn34 : r5_94 ≠ r6_94) (kn35 : r5_94 ≠ r7_94) (kn36 : n0 ≤ r6_94) (kn37 : o79 ≠ r6_94) (kn38 : r6_94 ≠ r7_94) (kn39 : n0 ≤ r7_94) (kn40 : o79 ≠ r7_94) (kn41 : o1 ≠ r1_94) (kn42 : o1 ≠ r2_94) (kn43 : o1 ≠ r3_94) (kn44 : o1 ≠ r4_94) (kn45 : o1 ≠ r5_94) (kn46 : o1 ≠ r6_94) (kn47 : o1 ≠ r7_94) (kn48 : o9 ≠ r1_94) (kn49 : o9 ≠ r2_94) (kn50 : o9 ≠ r3_94) (kn51 : o9 ≠ r4_94) (kn52 : o9 ≠ r5_94) (kn53 : o9 ≠ r6_94) (kn54 : o9 ≠ r7_94) (kn55 : o19 ≠ r1_94) (kn56 : o19 ≠ r2_94) (kn57 : o19 ≠ r3_94) (kn58 : o19 ≠ r4_94) (kn59 : o19 ≠ r5_94) (kn60 : o19 ≠ r6_94) (kn61 : o19 ≠ r7_94) (kn62 : o30 ≠ r1_94) (kn63 : o30 ≠ r2_94) (kn64 : o30 ≠ r3_94) (kn65 : o30 ≠ r4_94) (kn66 : o30 ≠ r5_94) (kn67 : o30 ≠ r6_94) (kn68 : o30 ≠ r7_94) (kn69 : r1_94 ∈ ([] : List Addr) ∨ h0.size ≤ r1_94) (kn70 : r2_94 ∈ ([] : List Addr) ∨ h0.size ≤ r2_94) (kn71 : r3_94 ∈ ([] : List Addr) ∨ h0.size ≤ r3_94) (kn72 : r4_94 ∈ ([] : List Addr) ∨ h0.size ≤ r4_94) (kn73 : r5_94 ∈ ([] : List Addr) ∨ h0.size ≤ r5_94) (kn74 : r6_94 ∈ ([] : List Addr) ∨ h0.size ≤ r6_94) (kn75 : r7_94 ∈ ([] : List Addr) ∨ h0.size ≤ r7_94) (hL : own_LF n0 Z h0 w_a) (hi0 : w3 0 = p0 + Int32.ofNat 0 ∧ w4 0 = p0 + Int32.ofNat 1 ∧ w5 0 = p0 + Int32.ofNat 2 ∧ w6 0 = p0 + Int32.ofNat 3 ∧ own_B v6 ∧ own_B v7 ∧ own_B v8 ∧ own_J p0 0 [] w28 w26 w27) (hr0 : r0 = lw_f99 p0 p1 v6 v7 v8 w3 w4 w5 w6 w26 w27 w28 w29 w30) :
    own_Dn p e below s (lw_Q Z p0 p1 w_a w_e w_k r0 h0 n0) room_1.cells room_1.slots (T0.setTop (mkF m 99 #[ι p0, ι p1, ρ o1, ρ o9, ρ o19, ρ o30, ι v6, ι v7, ι v8, ρ o79, υ, υ, υ, υ, υ, υ, υ, υ] [])) := by
  obtain ⟨hx, hZ, hw, hby, hml, hown, hret, hlk, hnm⟩ := id C0
  refine own_st (fun _ k => XS.aload X0.here hx rfl (hb hby lw_d99) rfl rfl (XS.aloadN X0.here hx rfl (hb hby lw_d101) rfl rfl k)) ?_
  show own_Dn p e below s _ _ _ (T0.setTop (mkF m 102 #[ι p0, ι p1, ρ o1, ρ o9, ρ o19, ρ o30, ι v6, ι v7, ι v8, ρ o79, υ, υ, υ, υ, υ, υ, υ, υ] [(.ref o1), (.ref o79)]))
  obtain ⟨cq871, kq871, q871a, q871b, q871c⟩ := isOf hZ e0 P7
  obtain ⟨_, _, ⟨T871, L871, k871, n871⟩, -, X871, ⟨Lc871, hQ871, l871, y871, z871⟩, st871⟩ := X0.virtualBack hx (y := (⟨ς0, "add", "([I)Z"⟩ : MethodName)) (z := (⟨ς0, "add", "([I)Z"⟩ : MethodName)) hown (mvT hZ (own_w hw 114 rfl)) (mvT hZ (own_w hw 115 rfl)) (notFace_of_selects (args := #[]) (mvT hZ (own_w hw 117 rfl))) (mvT hZ (own_w hw 117 rfl)) (mvT hZ (own_w hw 116 rfl)) (by decide) (backOf (W := 0) (ra_rm l Z a0 hw [] (o79) (o1) (r4_94) (r1_94) (r5_94) (r6_94) (r7_94) (r2_94) (r3_94) (w27) (w26) (w28) (w29) (w30) ((0 : Int32)) ((0 : Int32)) (w3) h1 n0 Z0 P7 P8 P9 P10 P11 P12 P26 P23 P24 P25 P13 P14 P15 P16 P27 P17 P18 P19 P20 P21 P22 P28 P29 P30 P3 kn4 kn14 kn6 kn32 kn36 kn39 kn28 kn17 kn23 kn7 (Ne.symm kn8) (Ne.symm kn9) (Ne.symm kn10) kn33 kn18 kn24 kn29 kn11 kn37 kn19 kn25 kn30 kn12 kn34 kn40 kn20 kn26 kn31 kn13 kn35 kn38 kn41 hi0.2.2.2.2.2.2.2.1 (own_J.RA hi0.2.2.2.2.2.2.2 (by decide) (s := (0 : Int32)) (c := (0 : Int32)) rfl hi0.1 (by decide)) (own_RA_fit (own_J.RA hi0.2.2.2.2.2.2.2 (by decide) (s := (0 : Int32)) (c := (0 : Int32)) rfl hi0.1 (by decide))) (own_RA_s16 (own_J.RA hi0.2.2.2.2.2.2.2 (by decide) (s := (0 : Int32)) (c := (0 : Int32)) rfl hi0.1 (by decide)))) hZ (own_w hw 118 rfl) (own_w hw 3 rfl) (by decide) (by decide)) q871a q871c (g := (mkF m 102 #[ι p0, ι p1, ρ o1, ρ o9, ρ o19, ρ o30, ι v6, ι v7, ι v8, ρ o79, υ, υ, υ, υ, υ, υ, υ, υ] [(.ref o1), (.ref o79)])) rfl (by rw [hml]; rfl) (Steps.refl _) (argsL := [(.ref o1)]) (rest := []) (lenOf own_pd16 rfl) rfl (by show 2 * 0 + _ ≤ _; exact Nat.le_of_eq rfl) (hb hby lw_d102) (fun _ _ => ⟨rfl, e0, (by decide : 15 + 1 ≤ _), (by decide : 83 + 4 ≤ _)⟩)
  dsimp only [Pt.U, Pt.locs, Pt.cells, Pt.slots] at X871 l871 y871 z871 st871 hQ871
  subst l871 y871 z871
  obtain ⟨rfl, N871q, K871, G872, G873, G874, G875, G876, G877, G878, G879, G880, G881, G882, G883, G884, G885, G886, G887, G888, G889, G890, G891⟩ := hQ871
  have F892 : n0 ≤ T871.heap.size := Nat.le_trans Z0 K871.1
  have F893 : w_k ≤ T871.heap.size := Nat.le_trans P1 K871.1
  have F894 : Keep h0 T871.heap [] := K0.trans K871 (allS (Or.inr kn5) (allS kn70 (allS kn69 (allS kn73 (allS kn74 (allS kn75 all0))))))
  have F895 := P3.keep K871 (ninS kn0 (ninS kn42 (ninS kn41 (ninS kn45 (ninS kn46 (ninS kn47 nin0))))))
  have F896 := P4.keep K871 (ninS kn1 (ninS kn49 (ninS kn48 (ninS kn52 (ninS kn53 (ninS kn54 nin0))))))
  have F897 := P5.keep K871 (ninS kn2 (ninS kn56 (ninS kn55 (ninS kn59 (ninS kn60 (ninS kn61 nin0))))))
  have F898 := P6.keep K871 (ninS kn3 (ninS kn63 (ninS kn62 (ninS kn66 (ninS kn67 (ninS kn68 nin0))))))
  have F899 := P7.keep K871
  have F900 := P14.keep K871
  have F901 := P23.keep K871
  have F902 := P24.keep K871 (ninS (Ne.symm kn22) (ninS (Ne.symm kn16) (ninS (Ne.symm kn9) (ninS kn24 (ninS kn25 (ninS kn26 nin0))))))
  have F903 := P25.keep K871 (ninS (Ne.symm kn22) (ninS (Ne.symm kn16) (ninS (Ne.symm kn9) (ninS kn24 (ninS kn25 (ninS kn26 nin0))))))
  have F904 := P27.keep K871 (ninS (Ne.symm kn28) (ninS (Ne.symm kn17) (ninS (Ne.symm kn10) (ninS kn29 (ninS kn30 (ninS kn31 nin0))))))
  have N871 := Fr.app N0 N871q
  refine own_tr st871 ?_
  have hJ905 : own_J p0 1 [] (ra_g17 w27 w26 w28 w29 w30 (0 : Int32) (0 : Int32) w3) (ra_g16 w27 w26 w28 w29 w30 (0 : Int32) (0 : Int32) w3) w27 ∧ (ra_g15 w27 w26 w28 w29 w30 (0 : Int32) (0 : Int32) w3) = (1 : Int32) := (own_J.add hi0.2.2.2.2.2.2.2 (by decide) (by decide) rfl hi0.1).imp id (fun q => q.trans (by decide : (0 : Int32) + (1 : Int32) = (1 : Int32)))
  have G906 : Fld Z T871.heap r2_94 ς1 "keys" "I" (.int 1) := own_FldE hJ905.2 G887
  have G907 : Fld Z T871.heap o79 ς0 "size" "I" (.int 1) := own_FldE ((rfl : (ra_g6 w27 w26 w28 w29 w30 (0 : Int32) (0 : Int32) w3) = (0 : Int32) + (1 : Int32)).trans (by decide : (0 : Int32) + (1 : Int32) = (1 : Int32))) G878
  show own_Dn p e below s _ _ _ (T871.setTop (mkF m 105 #[ι p0, ι p1, ρ o1, ρ o9, ρ o19, ρ o30, ι v6, ι v7, ι v8, ρ o79, υ, υ, υ, υ, υ, υ, υ, υ] [(.int 1)]))
  exact lw_c105 C0 X871 rfl N871 (v6) (v7) (v8) (w4) (w5) (w6) (w27) ((ra_g16 w27 w26 w28 w29 w30 (0 : Int32) (0 : Int32) w3)) ((ra_g17 w27 w26 w28 w29 w30 (0 : Int32) (0 : Int32) w3)) ((ra_g18 w27 w26 w28 w29 w30 (0 : Int32) (0 : Int32) w3)) ((ra_g19 w27 w26 w28 w29 w30 (0 : Int32) (0 : Int32) w3)) F892 F893 F894 F896 F897 F898 G872 G879 F901 F902 F903 F904 G873 G874 G875 G876 G877 G907 G880 G881 G882 G883 G884 G885 G886 G906 G888 G889 G890 G891 kn1 kn2 kn3 kn4 kn5 kn6 kn7 kn8 kn9 kn10 kn11 kn12 kn13 kn14 kn15 kn16 kn17 kn18 kn19 kn20 kn21 kn22 kn23 kn24 kn25 kn26 kn27 kn28 kn29 kn30 kn31 kn32 kn33 kn34 kn35 kn36 kn37 kn38 kn39 kn40 kn48 kn49 kn50 kn51 kn52 kn53 kn54 kn55 kn56 kn57 kn58 kn59 kn60 kn61 kn62 kn63 kn64 kn65 kn66 kn67 kn68 kn69 kn70 kn71 kn72 kn73 kn74 kn75 hL ⟨hi0.2.1, hi0.2.2.1, hi0.2.2.2.1, hi0.2.2.2.2.1, hi0.2.2.2.2.2.1, hi0.2.2.2.2.2.2.1, hJ905.1⟩ (by rw [hr0, lw_f99])
def lw_f89 (p0 : Int32) (p1 : Int32) (v6 : Int32) (v7 : Int32) (v8 : Int32) (w4 : Nat → Int32) (w5 : Nat → Int32) (w6 : Nat → Int32) (w7 : Nat → Int32) : Int32 :=
  lw_f99 p0 p1 (v6) (v7) (v8) (w4) (w5) (w6) (w7) ((ri_g19 )) ((ri_g20 )) ((ri_g21 )) ((ri_g22 )) ((ri_g23 ))
set_option maxRecDepth 65536 in
set_option maxHeartbeats 40000000 in
theorem lw_c89 {p0 : Int32} {p1 : Int32} {w_a : Addr} {w_e : Addr} {w_k : Nat} {locs : List Loc} {a87 : Addr} {o1 : Addr} {o19 : Addr} {o30 : Addr} {o79 : Addr} {o83 : Addr} {o9 : Addr} {r0 : Int32} (C0 : own_Cx p s m meth c Z a0 code 18 ς8 "law" (some .boolean)) (X0 : Stand p l e room_1 s m args below meth c T0 locs 8 22) (e0 : T0.heap = h1) (N0 : Fr n0 locs) (v6 : Int32) (v7 : Int32) (v8 : Int32) (w4 : Nat → Int32) (w5 : Nat → Int32) (w6 : Nat → Int32) (w7 : Nat → Int32) (Z0 : n0 ≤ h1.size) (P1 : Sta Z h1 ς3 "DEFAULTCAPACITY_EMPTY_ELEMENTDATA" "[Ljava/lang/Object;" (.ref w_e)) (P2 : w_k ≤ h1.size) (K0 : Keep h0 h1 []) (P4 : own_Arf Z h1 o1 .int 1 (fun i => (.int (w4 i)))) (P5 : own_Arf Z h1 o9 .int 1 (fun i => (.int (w5 i)))) (P6 : own_Arf Z h1 o19 .int 1 (fun i => (.int (w6 i)))) (P7 : own_Arf Z h1 o30 .int 1 (fun i => (.int (w7 i)))) (P8 : Exa Z h1 o79 ς0) (P9 : Fld Z h1 o79 ς0 "indexes" ς10 .null) (P10 : Fld Z h1 o79 ς0 "predicate" ς9 .null) (P11 : Fld Z h1 o79 ς0 "number" "I" (.int 0)) (P12 : Fld Z h1 o79 ς0 "arity" "I" (.int 0)) (P13 : Fld Z h1 o79 ς0 "data" "[I" .null) (P14 : Fld Z h1 o79 ς0 "facts" ς5 .null) (P15 : Fld Z h1 o79 ς0 "size" "I" (.int 0)) (P16 : Fld Z h1 o79 ς0 "removed" "[Z" .null) (P17 : Exa Z h1 o83 ς4) (P18 : Fld Z h1 o83 ς4 "name" "Ljava/lang/String;" .null) (P19 : Fld Z h1 o83 ς4 "arity" "I" (.int 0)) (kn0 : n0 ≤ o1) (kn1 : h0.size ≤ o1) (kn2 : o1 ≠ o9) (kn3 : n0 ≤ o9) (kn4 : h0.size ≤ o9) (kn5 : o1 ≠ o19) (kn6 : o9 ≠ o19) (kn7 : n0 ≤ o19) (kn8 : h0.size ≤ o19) (kn9 : o1 ≠ o30) (kn10 : o9 ≠ o30) (kn11 : o19 ≠ o30) (kn12 : n0 ≤ o30) (kn13 : h0.size ≤ o30) (kn14 : o1 ≠ o79) (kn15 : o9 ≠ o79) (kn16 : o19 ≠ o79) (kn17 : o30 ≠ o79) (kn18 : n0 ≤ o79) (kn19 : h0.size ≤ o79) (kn20 : o1 ≠ o83) (kn21 : o9 ≠ o83) (kn22 : o19 ≠ o83) (kn23 : o30 ≠ o83) (kn24 : o79 ≠ o83) (kn25 : n0 ≤ o83) (kn26 : h0.size ≤ o83) (hL : own_LF n0 Z h0 w_a) (hi0 : w4 0 = p0 + Int32.ofNat 0 ∧ w5 0 = p0 + Int32.ofNat 1 ∧ w6 0 = p0 + Int32.ofNat 2 ∧ w7 0 = p0 + Int32.ofNat 3 ∧ own_B v6 ∧ own_B v7 ∧ own_B v8) (hr0 : r0 = lw_f89 p0 p1 v6 v7 v8 w4 w5 w6 w7) :
    own_Dn p e below s (lw_Q Z p0 p1 w_a w_e w_k r0 h0 n0) room_1.cells room_1.slots (T0.setTop (mkF m 89 #[ι p0, ι p1, ρ o1, ρ o9, ρ o19, ρ o30, ι v6, ι v7, ι v8, υ, υ, υ, υ, υ, υ, υ, υ, υ] [(.ref a87), (.ref o83), (.ref o83), (.ref o79), (.ref o79)])) := by
  obtain ⟨hx, hZ, hw, hby, hml, hown, hret, hlk, hnm⟩ := id C0
  refine own_st (fun _ k => XS.iconst X0.here hx rfl (hb hby lw_d89) k) ?_
  show own_Dn p e below s _ _ _ (T0.setTop (mkF m 90 #[ι p0, ι p1, ρ o1, ρ o9, ρ o19, ρ o30, ι v6, ι v7, ι v8, υ, υ, υ, υ, υ, υ, υ, υ, υ] [(.int 1), (.ref a87), (.ref o83), (.ref o83), (.ref o79), (.ref o79)]))
  obtain ⟨_, _, ⟨T772, L772, k772, n772⟩, -, X772, ⟨Lc772, hQ772, l772, y772, z772⟩, st772⟩ := X0.specialBack hx (y := (⟨ς4, "<init>", "(Ljava/lang/String;I)V"⟩ : MethodName)) rfl hown (mvT hZ (own_w hw 15 rfl)) (mvT hZ (own_w hw 16 rfl)) (mvT hZ (own_w hw 17 rfl)) (by decide) (backOf (W := 3) (pi_rm l Z a0 hw [] (o83) (a87) h1 n0 Z0 P17 P18 P19 kn25) hZ (own_w hw 17 rfl) (own_w hw 6 rfl) (by decide) (by decide)) (g := (mkF m 90 #[ι p0, ι p1, ρ o1, ρ o9, ρ o19, ρ o30, ι v6, ι v7, ι v8, υ, υ, υ, υ, υ, υ, υ, υ, υ] [(.int 1), (.ref a87), (.ref o83), (.ref o83), (.ref o79), (.ref o79)])) rfl (by rw [hml]; rfl) (Steps.refl _) (a := o83) (argsL := [(.ref a87), (.int 1)]) (rest := [(.ref o83), (.ref o79), (.ref o79)]) (lenOf own_pd14 rfl) rfl (by show 2 * 0 + _ ≤ _; exact Nat.le_of_eq rfl) (hb hby lw_d90) (fun _ _ => ⟨rfl, e0, (by decide : 8 + 0 ≤ _), (by decide : 22 + 0 ≤ _)⟩)
  dsimp only [Pt.U, Pt.locs, Pt.cells, Pt.slots] at X772 l772 y772 z772 st772 hQ772
  subst l772 y772 z772
  obtain ⟨rfl, N772q, K772, G773, G774⟩ := hQ772
  have F775 : n0 ≤ T772.heap.size := Nat.le_trans Z0 K772.1
  have F776 := own_Sta_keep P1 K772 P17
  have F777 : w_k ≤ T772.heap.size := Nat.le_trans P2 K772.1
  have F778 : Keep h0 T772.heap [] := K0.trans K772 (allS (Or.inr kn26) all0)
  have F779 := P4.keep K772 (ninS kn20 nin0)
  have F780 := P5.keep K772 (ninS kn21 nin0)
  have F781 := P6.keep K772 (ninS kn22 nin0)
  have F782 := P7.keep K772 (ninS kn23 nin0)
  have F783 := P8.keep K772
  have F784 := P9.keep K772 (ninS kn24 nin0)
  have F785 := P10.keep K772 (ninS kn24 nin0)
  have F786 := P11.keep K772 (ninS kn24 nin0)
  have F787 := P12.keep K772 (ninS kn24 nin0)
  have F788 := P13.keep K772 (ninS kn24 nin0)
  have F789 := P14.keep K772 (ninS kn24 nin0)
  have F790 := P15.keep K772 (ninS kn24 nin0)
  have F791 := P16.keep K772 (ninS kn24 nin0)
  have F792 := P17.keep K772
  have N772 := Fr.app N0 N772q
  refine own_tr st772 ?_
  show own_Dn p e below s _ _ _ (T772.setTop (mkF m 93 #[ι p0, ι p1, ρ o1, ρ o9, ρ o19, ρ o30, ι v6, ι v7, ι v8, υ, υ, υ, υ, υ, υ, υ, υ, υ] [(.ref o83), (.ref o79), (.ref o79)]))
  refine own_st (fun _ k => XS.iconst X772.here hx rfl (hb hby lw_d93) k) ?_
  show own_Dn p e below s _ _ _ (T772.setTop (mkF m 94 #[ι p0, ι p1, ρ o1, ρ o9, ρ o19, ρ o30, ι v6, ι v7, ι v8, υ, υ, υ, υ, υ, υ, υ, υ, υ] [(.int 0), (.ref o83), (.ref o79), (.ref o79)]))
  obtain ⟨_, _, ⟨T793, L793, k793, n793⟩, -, X793, ⟨Lc793, hQ793, l793, y793, z793⟩, st793⟩ := X772.specialBack hx (y := (⟨ς0, "<init>", "(Lcom/example/chasebound/chasebound/rules/Predicate;I)V"⟩ : MethodName)) rfl hown (mvT hZ (own_w hw 30 rfl)) (mvT hZ (own_w hw 31 rfl)) (mvT hZ (own_w hw 32 rfl)) (by decide) (backOf (W := 1) (ri_rm l Z a0 hw [] (o79) (o83) (w_a) (w_e) T772.heap n0 F775 F783 F785 F788 F791 F789 F784 F786 F787 F790 G773 G774 F776 kn18 (own_LF.keep hL F778 all0)) hZ (own_w hw 32 rfl) (own_w hw 3 rfl) (by decide) (by decide)) (g := (mkF m 94 #[ι p0, ι p1, ρ o1, ρ o9, ρ o19, ρ o30, ι v6, ι v7, ι v8, υ, υ, υ, υ, υ, υ, υ, υ, υ] [(.int 0), (.ref o83), (.ref o79), (.ref o79)])) rfl (by rw [hml]; rfl) (Steps.refl _) (a := o79) (argsL := [(.ref o83), (.int 0)]) (rest := [(.ref o79)]) (lenOf own_pd15 rfl) rfl (by show 2 * 0 + _ ≤ _; exact Nat.le_of_eq rfl) (hb hby lw_d94) (fun _ _ => ⟨rfl, rfl, (by decide : 8 + 7 ≤ _), (by decide : 22 + 61 ≤ _)⟩)
  dsimp only [Pt.U, Pt.locs, Pt.cells, Pt.slots] at X793 l793 y793 z793 st793 hQ793
  subst l793 y793 z793
  obtain ⟨rfl, N793q, K793, r1_94, r2_94, r3_94, r4_94, r5_94, r6_94, r7_94, ge793_0, ge793_1, ge793_2, ge793_3, ge793_4, ge793_5, ge793_6, or793_0, or793_1, or793_2, or793_3, or793_4, or793_5, or793_6, ne793_0_1, ne793_0_2, ne793_0_3, ne793_0_4, ne793_0_5, ne793_0_6, ne793_1_2, ne793_1_3, ne793_1_4, ne793_1_5, ne793_1_6, ne793_2_3, ne793_2_4, ne793_2_5, ne793_2_6, ne793_3_4, ne793_3_5, ne793_3_6, ne793_4_5, ne793_4_6, ne793_5_6, nb793_0, nb793_1, nb793_2, nb793_3, nb793_4, nb793_5, nb793_6, G794, G795, G796, G797, G798, G799, G800, G801, G802, G803, G804, G805, G806, G807, G808, G809, G810, G811, G812, G813, G814, G815, G816, G817⟩ := hQ793
  have ne818 : o1 ≠ r1_94 := own_ne_or or793_0 F779.lt (ninS kn14 nin0)
  have ne819 : o1 ≠ r2_94 := own_ne_or or793_1 F779.lt (ninS kn14 nin0)
  have ne820 : o1 ≠ r3_94 := own_ne_or or793_2 F779.lt (ninS kn14 nin0)
  have ne821 : o1 ≠ r4_94 := own_ne_or or793_3 F779.lt (ninS kn14 nin0)
  have ne822 : o1 ≠ r5_94 := own_ne_or or793_4 F779.lt (ninS kn14 nin0)
  have ne823 : o1 ≠ r6_94 := own_ne_or or793_5 F779.lt (ninS kn14 nin0)
  have ne824 : o1 ≠ r7_94 := own_ne_or or793_6 F779.lt (ninS kn14 nin0)
  have ne825 : o9 ≠ r1_94 := own_ne_or or793_0 F780.lt (ninS kn15 nin0)
  have ne826 : o9 ≠ r2_94 := own_ne_or or793_1 F780.lt (ninS kn15 nin0)
  have ne827 : o9 ≠ r3_94 := own_ne_or or793_2 F780.lt (ninS kn15 nin0)
  have ne828 : o9 ≠ r4_94 := own_ne_or or793_3 F780.lt (ninS kn15 nin0)
  have ne829 : o9 ≠ r5_94 := own_ne_or or793_4 F780.lt (ninS kn15 nin0)
  have ne830 : o9 ≠ r6_94 := own_ne_or or793_5 F780.lt (ninS kn15 nin0)
  have ne831 : o9 ≠ r7_94 := own_ne_or or793_6 F780.lt (ninS kn15 nin0)
  have ne832 : o19 ≠ r1_94 := own_ne_or or793_0 F781.lt (ninS kn16 nin0)
  have ne833 : o19 ≠ r2_94 := own_ne_or or793_1 F781.lt (ninS kn16 nin0)
  have ne834 : o19 ≠ r3_94 := own_ne_or or793_2 F781.lt (ninS kn16 nin0)
  have ne835 : o19 ≠ r4_94 := own_ne_or or793_3 F781.lt (ninS kn16 nin0)
  have ne836 : o19 ≠ r5_94 := own_ne_or or793_4 F781.lt (ninS kn16 nin0)
  have ne837 : o19 ≠ r6_94 := own_ne_or or793_5 F781.lt (ninS kn16 nin0)
  have ne838 : o19 ≠ r7_94 := own_ne_or or793_6 F781.lt (ninS kn16 nin0)
  have ne839 : o30 ≠ r1_94 := own_ne_or or793_0 F782.lt (ninS kn17 nin0)
  have ne840 : o30 ≠ r2_94 := own_ne_or or793_1 F782.lt (ninS kn17 nin0)
  have ne841 : o30 ≠ r3_94 := own_ne_or or793_2 F782.lt (ninS kn17 nin0)
  have ne842 : o30 ≠ r4_94 := own_ne_or or793_3 F782.lt (ninS kn17 nin0)
  have ne843 : o30 ≠ r5_94 := own_ne_or or793_4 F782.lt (ninS kn17 nin0)
  have ne844 : o30 ≠ r6_94 := own_ne_or or793_5 F782.lt (ninS kn17 nin0)
  have ne845 : o30 ≠ r7_94 := own_ne_or or793_6 F782.lt (ninS kn17 nin0)
  have ne846 : o83 ≠ r1_94 := own_ne_or or793_0 G773.lt (ninS (Ne.symm kn24) nin0)
  have ne847 : o83 ≠ r2_94 := own_ne_or or793_1 G773.lt (ninS (Ne.symm kn24) nin0)
  have ne848 : o83 ≠ r3_94 := own_ne_or or793_2 G773.lt (ninS (Ne.symm kn24) nin0)
  have ne849 : o83 ≠ r4_94 := own_ne_or or793_3 G773.lt (ninS (Ne.symm kn24) nin0)
  have ne850 : o83 ≠ r5_94 := own_ne_or or793_4 G773.lt (ninS (Ne.symm kn24) nin0)
  have ne851 : o83 ≠ r6_94 := own_ne_or or793_5 G773.lt (ninS (Ne.symm kn24) nin0)
  have ne852 : o83 ≠ r7_94 := own_ne_or or793_6 G773.lt (ninS (Ne.symm kn24) nin0)
  have or853 : r1_94 ∈ ([] : List Addr) ∨ h0.size ≤ r1_94 := own_or_up or793_0 F778.1 (allS (Or.inr kn19) all0)
  have or854 : r2_94 ∈ ([] : List Addr) ∨ h0.size ≤ r2_94 := own_or_up or793_1 F778.1 (allS (Or.inr kn19) all0)
  have or855 : r3_94 ∈ ([] : List Addr) ∨ h0.size ≤ r3_94 := own_or_up or793_2 F778.1 (allS (Or.inr kn19) all0)
  have or856 : r4_94 ∈ ([] : List Addr) ∨ h0.size ≤ r4_94 := own_or_up or793_3 F778.1 (allS (Or.inr kn19) all0)
  have or857 : r5_94 ∈ ([] : List Addr) ∨ h0.size ≤ r5_94 := own_or_up or793_4 F778.1 (allS (Or.inr kn19) all0)
  have or858 : r6_94 ∈ ([] : List Addr) ∨ h0.size ≤ r6_94 := own_or_up or793_5 F778.1 (allS (Or.inr kn19) all0)
  have or859 : r7_94 ∈ ([] : List Addr) ∨ h0.size ≤ r7_94 := own_or_up or793_6 F778.1 (allS (Or.inr kn19) all0)
  have F860 : n0 ≤ T793.heap.size := Nat.le_trans F775 K793.1
  have F861 := own_Sta_keep F776 K793 F783
  have F862 : w_k ≤ T793.heap.size := Nat.le_trans F777 K793.1
  have F863 : Keep h0 T793.heap [] := F778.trans K793 (allS (Or.inr kn19) all0)
  have F864 := F779.keep K793 (ninS kn14 nin0)
  have F865 := F780.keep K793 (ninS kn15 nin0)
  have F866 := F781.keep K793 (ninS kn16 nin0)
  have F867 := F782.keep K793 (ninS kn17 nin0)
  have F868 := F783.keep K793
  have F869 := G773.keep K793
  have F870 := G774.keep K793 (ninS (Ne.symm kn24) nin0)
  have N793 := Fr.app N772 N793q
  refine own_tr st793 ?_
  show own_Dn p e below s _ _ _ (T793.setTop (mkF m 97 #[ι p0, ι p1, ρ o1, ρ o9, ρ o19, ρ o30, ι v6, ι v7, ι v8, υ, υ, υ, υ, υ, υ, υ, υ, υ] [(.ref o79)]))
  refine own_st (fun _ k => XS.astore X793.here hx rfl (hb hby lw_d97) rfl rfl (l' := #[ι p0, ι p1, ρ o1, ρ o9, ρ o19, ρ o30, ι v6, ι v7, ι v8, ρ o79, υ, υ, υ, υ, υ, υ, υ, υ]) rfl k) ?_
  show own_Dn p e below s _ _ _ (T793.setTop (mkF m 99 #[ι p0, ι p1, ρ o1, ρ o9, ρ o19, ρ o30, ι v6, ι v7, ι v8, ρ o79, υ, υ, υ, υ, υ, υ, υ, υ] []))
  exact lw_c99 C0 X793 rfl N793 (v6) (v7) (v8) (w4) (w5) (w6) (w7) ((ri_g19 )) ((ri_g20 )) ((ri_g21 )) ((ri_g22 )) ((ri_g23 )) F860 F862 F863 F864 F865 F866 F867 G794 G795 G796 G797 G798 G799 G800 G801 G802 G803 G804 G805 G806 G807 G808 G809 G810 G811 G812 G813 G814 G815 G816 G817 kn14 kn15 kn16 kn17 kn18 kn19 ge793_0 nb793_0 ne793_0_1 ne793_0_2 ne793_0_3 ne793_0_4 ne793_0_5 ne793_0_6 ge793_1 nb793_1 ne793_1_2 ne793_1_3 ne793_1_4 ne793_1_5 ne793_1_6 ge793_2 nb793_2 ne793_2_3 ne793_2_4 ne793_2_5 ne793_2_6 ge793_3 nb793_3 ne793_3_4 ne793_3_5 ne793_3_6 ge793_4 nb793_4 ne793_4_5 ne793_4_6 ge793_5 nb793_5 ne793_5_6 ge793_6 nb793_6 ne818 ne819 ne820 ne821 ne822 ne823 ne824 ne825 ne826 ne827 ne828 ne829 ne830 ne831 ne832 ne833 ne834 ne835 ne836 ne837 ne838 ne839 ne840 ne841 ne842 ne843 ne844 ne845 or853 or854 or855 or856 or857 or858 or859 hL ⟨hi0.1, hi0.2.1, hi0.2.2.1, hi0.2.2.2.1, hi0.2.2.2.2.1, hi0.2.2.2.2.2.1, hi0.2.2.2.2.2.2, (own_J0 p0)⟩ (by rw [hr0, lw_f89])
def lw_f79 (p0 : Int32) (p1 : Int32) (v6 : Int32) (v7 : Int32) (v8 : Int32) (w4 : Nat → Int32) (w5 : Nat → Int32) (w6 : Nat → Int32) (w7 : Nat → Int32) : Int32 :=
  lw_f89 p0 p1 (v6) (v7) (v8) (w4) (w5) (w6) (w7)
set_option maxRecDepth 65536 in
set_option maxHeartbeats 40000000 in
theorem lw_c79 {p0 : Int32} {p1 : Int32} {w_a : Addr} {w_e : Addr} {w_k : Nat} {locs : List Loc} {o1 : Addr} {o19 : Addr} {o30 : Addr} {o9 : Addr} {r0 : Int32} (C0 : own_Cx p s m meth c Z a0 code 18 ς8 "law" (some .boolean)) (X0 : Stand p l e room_1 s m args below meth c T0 locs 4 4) (e0 : T0.heap = h1) (N0 : Fr n0 locs) (v6 : Int32) (v7 : Int32) (v8 : Int32) (w4 : Nat → Int32) (w5 : Nat → Int32) (w6 : Nat → Int32) (w7 : Nat → Int32) (Z0 : n0 ≤ h1.size) (P1 : Sta Z h1 ς3 "DEFAULTCAPACITY_EMPTY_ELEMENTDATA" "[Ljava/lang/Object;" (.ref w_e)) (P2 : w_k ≤ h1.size) (K0 : Keep h0 h1 []) (P4 : own_Arf Z h1 o1 .int 1 (fun i => (.int (w4 i)))) (P5 : own_Arf Z h1 o9 .int 1 (fun i => (.int (w5 i)))) (P6 : own_Arf Z h1 o19 .int 1 (fun i => (.int (w6 i)))) (P7 : own_Arf Z h1 o30 .int 1 (fun i => (.int (w7 i)))) (kn0 : n0 ≤ o1) (kn1 : h0.size ≤ o1) (kn2 : o1 ≠ o9) (kn3 : n0 ≤ o9) (kn4 : h0.size ≤ o9) (kn5 : o1 ≠ o19) (kn6 : o9 ≠ o19) (kn7 : n0 ≤ o19) (kn8 : h0.size ≤ o19) (kn9 : o1 ≠ o30) (kn10 : o9 ≠ o30) (kn11 : o19 ≠ o30) (kn12 : n0 ≤ o30) (kn13 : h0.size ≤ o30) (hL : own_LF n0 Z h0 w_a) (hi0 : w4 0 = p0 + Int32.ofNat 0 ∧ w5 0 = p0 + Int32.ofNat 1 ∧ w6 0 = p0 + Int32.ofNat 2 ∧ w7 0 = p0 + Int32.ofNat 3 ∧ own_B v6 ∧ own_B v7 ∧ own_B v8) (hr0 : r0 = lw_f79 p0 p1 v6 v7 v8 w4 w5 w6 w7) :
    own_DW p e below s (fun v h _ L => own_QE r0 h0 n0 v h L) room_1.cells room_1.slots (T0.setTop (mkF m 79 #[ι p0, ι p1, ρ o1, ρ o9, ρ o19, ρ o30, ι v6, ι v7, ι v8, υ, υ, υ, υ, υ, υ, υ, υ, υ] [])) := by
  obtain ⟨hx, hZ, hw, hby, hml, hown, hret, hlk, hnm⟩ := id C0
  obtain ⟨T701, h701, X701, e701, E701, A701, D701, -, st701⟩ := newO X0 hx hZ hown (own_w hw 1 rfl) (own_w hw 2 rfl) (own_w hw 3 rfl) e0 (g := (mkF m 79 #[ι p0, ι p1, ρ o1, ρ o9, ρ o19, ρ o30, ι v6, ι v7, ι v8, υ, υ, υ, υ, υ, υ, υ, υ, υ] [])) rfl (hb hby lw_d79) (by decide) (by decide)
  obtain ⟨o79, g701⟩ : ∃ z, z = h1.size := ⟨_, rfl⟩
  rw [← g701] at A701 D701 st701
  have ne702 : o1 ≠ o79 := Nat.ne_of_lt (Nat.lt_of_lt_of_le P4.lt (Nat.le_of_eq g701.symm))
  have ne703 : o9 ≠ o79 := Nat.ne_of_lt (Nat.lt_of_lt_of_le P5.lt (Nat.le_of_eq g701.symm))
  have ne704 : o19 ≠ o79 := Nat.ne_of_lt (Nat.lt_of_lt_of_le P6.lt (Nat.le_of_eq g701.symm))
  have ne705 : o30 ≠ o79 := Nat.ne_of_lt (Nat.lt_of_lt_of_le P7.lt (Nat.le_of_eq g701.symm))
  have ge706 : n0 ≤ o79 := Nat.le_trans Z0 (Nat.le_of_eq g701.symm)
  have gh707 : h0.size ≤ o79 := Nat.le_trans K0.1 (Nat.le_of_eq g701.symm)
  have F708 : n0 ≤ h701.size := Nat.le_trans Z0 E701.1
  have F709 := P1.ext E701
  have F710 : w_k ≤ h701.size := Nat.le_trans P2 E701.1
  have F711 : Keep h0 h701 [] := K0.ext E701
  have F712 := P4.ext E701
  have F713 := P5.ext E701
  have F714 := P6.ext E701
  have F715 := P7.ext E701
  have F716 : Fld Z h701 o79 ς0 "indexes" ς10 .null := D701 (Or.inr (own_w hw 59 rfl)) (ty := (.object "java/util/List")) (by decide)
  have F717 : Fld Z h701 o79 ς0 "predicate" ς9 .null := D701 (Or.inr (own_w hw 61 rfl)) (ty := (.object ς4)) (by decide)
  have F718 : Fld Z h701 o79 ς0 "number" "I" (.int 0) := D701 (Or.inr (own_w hw 63 rfl)) (ty := .int) (by decide)
  have F719 : Fld Z h701 o79 ς0 "arity" "I" (.int 0) := D701 (Or.inr (own_w hw 70 rfl)) (ty := .int) (by decide)
  have F720 : Fld Z h701 o79 ς0 "data" "[I" .null := D701 (Or.inl (own_w hw 76 rfl)) (ty := (.array .int)) (by decide)
  have F721 : Fld Z h701 o79 ς0 "facts" ς5 .null := D701 (Or.inr (own_w hw 113 rfl)) (ty := (.object ς1)) (by decide)
  have F722 : Fld Z h701 o79 ς0 "size" "I" (.int 0) := D701 (Or.inl (own_w hw 135 rfl)) (ty := .int) (by decide)
  have F723 : Fld Z h701 o79 ς0 "removed" "[Z" .null := D701 (Or.inl (own_w hw 141 rfl)) (ty := (.array .boolean)) (by decide)
  refine own_stW st701 ?_
  show own_DW p e below s _ _ _ (T701.setTop (mkF m 82 #[ι p0, ι p1, ρ o1, ρ o9, ρ o19, ρ o30, ι v6, ι v7, ι v8, υ, υ, υ, υ, υ, υ, υ, υ, υ] [(.ref o79)]))
  refine own_stW (fun _ k => XS.dup X701.here hx rfl (hb hby lw_d82) rfl rfl k) ?_
  show own_DW p e below s _ _ _ (T701.setTop (mkF m 83 #[ι p0, ι p1, ρ o1, ρ o9, ρ o19, ρ o30, ι v6, ι v7, ι v8, υ, υ, υ, υ, υ, υ, υ, υ, υ] [(.ref o79), (.ref o79)]))
  obtain ⟨T724, h724, X724, e724, E724, A724, D724, -, st724⟩ := newO X701 hx hZ hown (own_w hw 4 rfl) (own_w hw 5 rfl) (own_w hw 6 rfl) e701 (g := (mkF m 83 #[ι p0, ι p1, ρ o1, ρ o9, ρ o19, ρ o30, ι v6, ι v7, ι v8, υ, υ, υ, υ, υ, υ, υ, υ, υ] [(.ref o79), (.ref o79)])) rfl (hb hby lw_d83) (by decide) (by decide)
  obtain ⟨o83, g724⟩ : ∃ z, z = h701.size := ⟨_, rfl⟩
  rw [← g724] at A724 D724 st724
  have ne725 : o1 ≠ o83 := Nat.ne_of_lt (Nat.lt_of_lt_of_le F712.lt (Nat.le_of_eq g724.symm))
  have ne726 : o9 ≠ o83 := Nat.ne_of_lt (Nat.lt_of_lt_of_le F713.lt (Nat.le_of_eq g724.symm))
  have ne727 : o19 ≠ o83 := Nat.ne_of_lt (Nat.lt_of_lt_of_le F714.lt (Nat.le_of_eq g724.symm))
  have ne728 : o30 ≠ o83 := Nat.ne_of_lt (Nat.lt_of_lt_of_le F715.lt (Nat.le_of_eq g724.symm))
  have ne729 : o79 ≠ o83 := Nat.ne_of_lt (Nat.lt_of_lt_of_le A701.lt (Nat.le_of_eq g724.symm))
  have ge730 : n0 ≤ o83 := Nat.le_trans F708 (Nat.le_of_eq g724.symm)
  have gh731 : h0.size ≤ o83 := Nat.le_trans F711.1 (Nat.le_of_eq g724.symm)
  have F732 : n0 ≤ h724.size := Nat.le_trans F708 E724.1
  have F733 := F709.ext E724
  have F734 : w_k ≤ h724.size := Nat.le_trans F710 E724.1
  have F735 : Keep h0 h724 [] := F711.ext E724
  have F736 := F712.ext E724
  have F737 := F713.ext E724
  have F738 := F714.ext E724
  have F739 := F715.ext E724
  have F740 := A701.ext E724
  have F741 := F716.ext E724
  have F742 := F717.ext E724
  have F743 := F718.ext E724
  have F744 := F719.ext E724
  have F745 := F720.ext E724
  have F746 := F721.ext E724
  have F747 := F722.ext E724
  have F748 := F723.ext E724
  have F749 : Fld Z h724 o83 ς4 "name" "Ljava/lang/String;" .null := D724 (Or.inr (own_w hw 27 rfl)) (ty := (.object "java/lang/String")) (by decide)
  have F750 : Fld Z h724 o83 ς4 "arity" "I" (.int 0) := D724 (Or.inr (own_w hw 29 rfl)) (ty := .int) (by decide)
  refine own_stW st724 ?_
  show own_DW p e below s _ _ _ (T724.setTop (mkF m 86 #[ι p0, ι p1, ρ o1, ρ o9, ρ o19, ρ o30, ι v6, ι v7, ι v8, υ, υ, υ, υ, υ, υ, υ, υ, υ] [(.ref o83), (.ref o79), (.ref o79)]))
  refine own_stW (fun _ k => XS.dup X724.here hx rfl (hb hby lw_d86) rfl rfl k) ?_
  show own_DW p e below s _ _ _ (T724.setTop (mkF m 87 #[ι p0, ι p1, ρ o1, ρ o9, ρ o19, ρ o30, ι v6, ι v7, ι v8, υ, υ, υ, υ, υ, υ, υ, υ, υ] [(.ref o83), (.ref o83), (.ref o79), (.ref o79)]))
  obtain ⟨a87, T751, h751, k751, X751, e751, E751, hS751, hk751, hZ, hown, st751⟩ := ldcS (s := s) (vm0 := s.vm) (text := "p") X724 hx hZ hown (own_w hw 7 rfl) (own_wS hw) e724 (own_since0 s) (Nat.zero_le _) (g := (mkF m 87 #[ι p0, ι p1, ρ o1, ρ o9, ρ o19, ρ o30, ι v6, ι v7, ι v8, υ, υ, υ, υ, υ, υ, υ, υ, υ] [(.ref o83), (.ref o83), (.ref o79), (.ref o79)])) rfl (hb hby lw_d87) (n := 4) (by decide) (by decide) (by decide) (by decide)
  have F752 : n0 ≤ h751.size := Nat.le_trans F732 E751.1
  have F753 := F733.ext E751
  have F754 : w_k ≤ h751.size := Nat.le_trans F734 E751.1
  have F755 : Keep h0 h751 [] := F735.ext E751
  have F756 := F736.ext E751
  have F757 := F737.ext E751
  have F758 := F738.ext E751
  have F759 := F739.ext E751
  have F760 := F740.ext E751
  have F761 := F741.ext E751
  have F762 := F742.ext E751
  have F763 := F743.ext E751
  have F764 := F744.ext E751
  have F765 := F745.ext E751
  have F766 := F746.ext E751
  have F767 := F747.ext E751
  have F768 := F748.ext E751
  have F769 := A724.ext E751
  have F770 := F749.ext E751
  have F771 := F750.ext E751
  refine own_stW st751 ?_
  show own_DW p e below s _ _ _ (T751.setTop (mkF m 89 #[ι p0, ι p1, ρ o1, ρ o9, ρ o19, ρ o30, ι v6, ι v7, ι v8, υ, υ, υ, υ, υ, υ, υ, υ, υ] [(.ref a87), (.ref o83), (.ref o83), (.ref o79), (.ref o79)]))
  exact own_up (s := s) (vm0 := T751.vm) hS751 (fun _ _ _ q => ⟨⟨q.1, q.2.1, q.2.2.1⟩, q.2.2.2⟩) (lw_c89 (s := s.setVm T751.vm) (w_k := k751) ⟨hx, hZ, hw, hby, hml, hown, hret, hlk, hnm⟩ X751 e751 N0 (v6) (v7) (v8) (w4) (w5) (w6) (w7) F752 F753 hk751 F755 F756 F757 F758 F759 F760 F761 F762 F763 F764 F765 F766 F767 F768 F769 F770 F771 kn0 kn1 kn2 kn3 kn4 kn5 kn6 kn7 kn8 kn9 kn10 kn11 kn12 kn13 ne702 ne703 ne704 ne705 ge706 gh707 ne725 ne726 ne727 ne728 ne729 ge730 gh731 hL ⟨hi0.1, hi0.2.1, hi0.2.2.1, hi0.2.2.2.1, hi0.2.2.2.2.1, hi0.2.2.2.2.2.1, hi0.2.2.2.2.2.2⟩ (by rw [hr0, lw_f79]))
def lw_f (p0 : Int32) (p1 : Int32)  : Int32 :=
  if (p1 &&& (1 : Int32)) = (0 : Int32) then
    if (p1 &&& (2 : Int32)) = (0 : Int32) then
      if (p1 &&& (4 : Int32)) = (0 : Int32) then
        lw_f79 p0 p1 ((0 : Int32)) ((0 : Int32)) ((0 : Int32)) ((own_upd (fun _ => (0 : Int32)) ((0 : Int32)).toNatClampNeg p0)) ((own_upd (fun _ => (0 : Int32)) ((0 : Int32)).toNatClampNeg (p0 + (1 : Int32)))) ((own_upd (fun _ => (0 : Int32)) ((0 : Int32)).toNatClampNeg (p0 + (2 : Int32)))) ((own_upd (fun _ => (0 : Int32)) ((0 : Int32)).toNatClampNeg (p0 + (3 : Int32))))
      else
        lw_f79 p0 p1 ((0 : Int32)) ((0 : Int32)) ((1 : Int32)) ((own_upd (fun _ => (0 : Int32)) ((0 : Int32)).toNatClampNeg p0)) ((own_upd (fun _ => (0 : Int32)) ((0 : Int32)).toNatClampNeg (p0 + (1 : Int32)))) ((own_upd (fun _ => (0 : Int32)) ((0 : Int32)).toNatClampNeg (p0 + (2 : Int32)))) ((own_upd (fun _ => (0 : Int32)) ((0 : Int32)).toNatClampNeg (p0 + (3 : Int32))))
    else
      if (p1 &&& (4 : Int32)) = (0 : Int32) then
        lw_f79 p0 p1 ((0 : Int32)) ((1 : Int32)) ((0 : Int32)) ((own_upd (fun _ => (0 : Int32)) ((0 : Int32)).toNatClampNeg p0)) ((own_upd (fun _ => (0 : Int32)) ((0 : Int32)).toNatClampNeg (p0 + (1 : Int32)))) ((own_upd (fun _ => (0 : Int32)) ((0 : Int32)).toNatClampNeg (p0 + (2 : Int32)))) ((own_upd (fun _ => (0 : Int32)) ((0 : Int32)).toNatClampNeg (p0 + (3 : Int32))))
      else
        lw_f79 p0 p1 ((0 : Int32)) ((1 : Int32)) ((1 : Int32)) ((own_upd (fun _ => (0 : Int32)) ((0 : Int32)).toNatClampNeg p0)) ((own_upd (fun _ => (0 : Int32)) ((0 : Int32)).toNatClampNeg (p0 + (1 : Int32)))) ((own_upd (fun _ => (0 : Int32)) ((0 : Int32)).toNatClampNeg (p0 + (2 : Int32)))) ((own_upd (fun _ => (0 : Int32)) ((0 : Int32)).toNatClampNeg (p0 + (3 : Int32))))
  else
    if (p1 &&& (2 : Int32)) = (0 : Int32) then
      if (p1 &&& (4 : Int32)) = (0 : Int32) then
        lw_f79 p0 p1 ((1 : Int32)) ((0 : Int32)) ((0 : Int32)) ((own_upd (fun _ => (0 : Int32)) ((0 : Int32)).toNatClampNeg p0)) ((own_upd (fun _ => (0 : Int32)) ((0 : Int32)).toNatClampNeg (p0 + (1 : Int32)))) ((own_upd (fun _ => (0 : Int32)) ((0 : Int32)).toNatClampNeg (p0 + (2 : Int32)))) ((own_upd (fun _ => (0 : Int32)) ((0 : Int32)).toNatClampNeg (p0 + (3 : Int32))))
      else
        lw_f79 p0 p1 ((1 : Int32)) ((0 : Int32)) ((1 : Int32)) ((own_upd (fun _ => (0 : Int32)) ((0 : Int32)).toNatClampNeg p0)) ((own_upd (fun _ => (0 : Int32)) ((0 : Int32)).toNatClampNeg (p0 + (1 : Int32)))) ((own_upd (fun _ => (0 : Int32)) ((0 : Int32)).toNatClampNeg (p0 + (2 : Int32)))) ((own_upd (fun _ => (0 : Int32)) ((0 : Int32)).toNatClampNeg (p0 + (3 : Int32))))
    else
      if (p1 &&& (4 : Int32)) = (0 : Int32) then
        lw_f79 p0 p1 ((1 : Int32)) ((1 : Int32)) ((0 : Int32)) ((own_upd (fun _ => (0 : Int32)) ((0 : Int32)).toNatClampNeg p0)) ((own_upd (fun _ => (0 : Int32)) ((0 : Int32)).toNatClampNeg (p0 + (1 : Int32)))) ((own_upd (fun _ => (0 : Int32)) ((0 : Int32)).toNatClampNeg (p0 + (2 : Int32)))) ((own_upd (fun _ => (0 : Int32)) ((0 : Int32)).toNatClampNeg (p0 + (3 : Int32))))
      else
        lw_f79 p0 p1 ((1 : Int32)) ((1 : Int32)) ((1 : Int32)) ((own_upd (fun _ => (0 : Int32)) ((0 : Int32)).toNatClampNeg p0)) ((own_upd (fun _ => (0 : Int32)) ((0 : Int32)).toNatClampNeg (p0 + (1 : Int32)))) ((own_upd (fun _ => (0 : Int32)) ((0 : Int32)).toNatClampNeg (p0 + (2 : Int32)))) ((own_upd (fun _ => (0 : Int32)) ((0 : Int32)).toNatClampNeg (p0 + (3 : Int32))))
set_option maxRecDepth 65536 in
set_option maxHeartbeats 40000000 in
theorem lw_c0 {p0 : Int32} {p1 : Int32} {w_a : Addr} {w_e : Addr} {w_k : Nat} {locs : List Loc} {r0 : Int32} (C0 : own_Cx p s m meth c Z a0 code 18 ς8 "law" (some .boolean)) (X0 : Stand p l e room_1 s m args below meth c T0 locs 0 0) (e0 : T0.heap = h0) (N0 : Fr n0 locs)  (Z0 : n0 ≤ h0.size) (P0 : Sta Z h0 ς3 "DEFAULTCAPACITY_EMPTY_ELEMENTDATA" "[Ljava/lang/Object;" (.ref w_e)) (P1 : w_k ≤ h0.size) (hL : own_LF n0 Z h0 w_a) (hr0 : r0 = lw_f p0 p1 ) :
    own_DW p e below s (fun v h _ L => own_QE r0 h0 n0 v h L) room_1.cells room_1.slots (T0.setTop (mkF m 0 #[ι p0, ι p1, υ, υ, υ, υ, υ, υ, υ, υ, υ, υ, υ, υ, υ, υ, υ, υ] [])) := by
  obtain ⟨hx, hZ, hw, hby, hml, hown, hret, hlk, hnm⟩ := id C0
  refine own_stW (fun _ k => XS.iconst X0.here hx rfl (hb hby lw_d0) k) ?_
  show own_DW p e below s _ _ _ (T0.setTop (mkF m 1 #[ι p0, ι p1, υ, υ, υ, υ, υ, υ, υ, υ, υ, υ, υ, υ, υ, υ, υ, υ] [(.int 1)]))
  obtain ⟨T624, h624, cA624, X624, e624, E624, A624, st624⟩ := newP X0 hx hZ (aty := .int) (own_w hw 0 rfl) e0 (g := (mkF m 1 #[ι p0, ι p1, υ, υ, υ, υ, υ, υ, υ, υ, υ, υ, υ, υ, υ, υ, υ, υ] [(.int 1)])) rfl (hb hby lw_d1) (n := (1 : Int32)) rfl (by decide) (cap := 1) (by decide) (by decide) (by decide) (by decide)
  obtain ⟨o1, g624⟩ : ∃ z, z = h0.size := ⟨_, rfl⟩
  rw [← g624] at A624 st624
  have ge625 : n0 ≤ o1 := Nat.le_trans Z0 (Nat.le_of_eq g624.symm)
  have gh626 : h0.size ≤ o1 := Nat.le_trans (Keep.refl h0 []).1 (Nat.le_of_eq g624.symm)
  have F627 : n0 ≤ h624.size := Nat.le_trans Z0 E624.1
  have F628 := P0.ext E624
  have F629 : w_k ≤ h624.size := Nat.le_trans P1 E624.1
  have F630 : Keep h0 h624 [] := (Keep.refl h0 []).ext E624
  have F631 : own_Arf Z h624 o1 .int 1 (fun i => (.int ((fun _ => (0 : Int32)) i))) := own_Arf.new A624 (by decide) (by decide)
  refine own_stW st624 ?_
  show own_DW p e below s _ _ _ (T624.setTop (mkF m 3 #[ι p0, ι p1, υ, υ, υ, υ, υ, υ, υ, υ, υ, υ, υ, υ, υ, υ, υ, υ] [(.ref o1)]))
  refine own_stW (fun _ k => XS.dup X624.here hx rfl (hb hby lw_d3) rfl rfl (XS.iconst X624.here hx rfl (hb hby lw_d4) (XS.iloadN X624.here hx rfl (hb hby lw_d5) rfl k))) ?_
  show own_DW p e below s _ _ _ (T624.setTop (mkF m 6 #[ι p0, ι p1, υ, υ, υ, υ, υ, υ, υ, υ, υ, υ, υ, υ, υ, υ, υ, υ] [(.int p0), (.int 0), (.ref o1), (.ref o1)]))
  obtain ⟨T632, h632, X632, e632, W632, F632a, st632⟩ := own_stI (pc := 6) (L := #[ι p0, ι p1, υ, υ, υ, υ, υ, υ, υ, υ, υ, υ, υ, υ, υ, υ, υ, υ]) (rest := [(.ref o1)]) X624 hx hZ e624 F631 (j := (0 : Int32)) (x := p0) (by decide) (by decide) (hb hby lw_d6)
  have N632 := Fr.snoc X632 N0 ge625
  have F633 : n0 ≤ h632.size := Nat.le_trans F627 (Keep.of_wr W632).1
  have F634 := F628.wr W632
  have F635 : w_k ≤ h632.size := Nat.le_trans F629 (Keep.of_wr W632).1
  have F636 : Keep h0 h632 [] := F630.wr W632 (Or.inr gh626)
  refine own_stW st632 ?_
  show own_DW p e below s _ _ _ (T632.setTop (mkF m 7 #[ι p0, ι p1, υ, υ, υ, υ, υ, υ, υ, υ, υ, υ, υ, υ, υ, υ, υ, υ] [(.ref o1)]))
  refine own_stW (fun _ k => XS.astoreN X632.here hx rfl (hb hby lw_d7) rfl rfl (l' := #[ι p0, ι p1, ρ o1, υ, υ, υ, υ, υ, υ, υ, υ, υ, υ, υ, υ, υ, υ, υ]) rfl (XS.iconst X632.here hx rfl (hb hby lw_d8) k)) ?_
  show own_DW p e below s _ _ _ (T632.setTop (mkF m 9 #[ι p0, ι p1, ρ o1, υ, υ, υ, υ, υ, υ, υ, υ, υ, υ, υ, υ, υ, υ, υ] [(.int 1)]))
  obtain ⟨T637, h637, cA637, X637, e637, E637, A637, st637⟩ := newP X632 hx hZ (aty := .int) (own_w hw 0 rfl) e632 (g := (mkF m 9 #[ι p0, ι p1, ρ o1, υ, υ, υ, υ, υ, υ, υ, υ, υ, υ, υ, υ, υ, υ, υ] [(.int 1)])) rfl (hb hby lw_d9) (n := (1 : Int32)) rfl (by decide) (cap := 1) (by decide) (by decide) (by decide) (by decide)
  obtain ⟨o9, g637⟩ : ∃ z, z = h632.size := ⟨_, rfl⟩
  rw [← g637] at A637 st637
  have ne638 : o1 ≠ o9 := Nat.ne_of_lt (Nat.lt_of_lt_of_le F632a.lt (Nat.le_of_eq g637.symm))
  have ge639 : n0 ≤ o9 := Nat.le_trans F633 (Nat.le_of_eq g637.symm)
  have gh640 : h0.size ≤ o9 := Nat.le_trans F636.1 (Nat.le_of_eq g637.symm)
  have F641 : n0 ≤ h637.size := Nat.le_trans F633 E637.1
  have F642 := F634.ext E637
  have F643 : w_k ≤ h637.size := Nat.le_trans F635 E637.1
  have F644 : Keep h0 h637 [] := F636.ext E637
  have F645 := F632a.ext E637
  have F646 : own_Arf Z h637 o9 .int 1 (fun i => (.int ((fun _ => (0 : Int32)) i))) := own_Arf.new A637 (by decide) (by decide)
  refine own_stW st637 ?_
  show own_DW p e below s _ _ _ (T637.setTop (mkF m 11 #[ι p0, ι p1, ρ o1, υ, υ, υ, υ, υ, υ, υ, υ, υ, υ, υ, υ, υ, υ, υ] [(.ref o9)]))
  refine own_stW (fun _ k => XS.dup X637.here hx rfl (hb hby lw_d11) rfl rfl (XS.iconst X637.here hx rfl (hb hby lw_d12) (XS.iloadN X637.here hx rfl (hb hby lw_d13) rfl (XS.iconst X637.here hx rfl (hb hby lw_d14) (XS.iadd X637.here hx rfl (hb hby lw_d15) rfl k))))) ?_
  show own_DW p e below s _ _ _ (T637.setTop (mkF m 16 #[ι p0, ι p1, ρ o1, υ, υ, υ, υ, υ, υ, υ, υ, υ, υ, υ, υ, υ, υ, υ] [(.int (p0 + (1 : Int32))), (.int 0), (.ref o9), (.ref o9)]))
  obtain ⟨T647, h647, X647, e647, W647, F647a, st647⟩ := own_stI (pc := 16) (L := #[ι p0, ι p1, ρ o1, υ, υ, υ, υ, υ, υ, υ, υ, υ, υ, υ, υ, υ, υ, υ]) (rest := [(.ref o9)]) X637 hx hZ e637 F646 (j := (0 : Int32)) (x := (p0 + (1 : Int32))) (by decide) (by decide) (hb hby lw_d16)
  have N647 := Fr.snoc X647 N632 ge639
  have F648 : n0 ≤ h647.size := Nat.le_trans F641 (Keep.of_wr W647).1
  have F649 := F642.wr W647
  have F650 : w_k ≤ h647.size := Nat.le_trans F643 (Keep.of_wr W647).1
  have F651 : Keep h0 h647 [] := F644.wr W647 (Or.inr gh640)
  have F652 := F645.other W647 ne638
  refine own_stW st647 ?_
  show own_DW p e below s _ _ _ (T647.setTop (mkF m 17 #[ι p0, ι p1, ρ o1, υ, υ, υ, υ, υ, υ, υ, υ, υ, υ, υ, υ, υ, υ, υ] [(.ref o9)]))
  refine own_stW (fun _ k => XS.astoreN X647.here hx rfl (hb hby lw_d17) rfl rfl (l' := #[ι p0, ι p1, ρ o1, ρ o9, υ, υ, υ, υ, υ, υ, υ, υ, υ, υ, υ, υ, υ, υ]) rfl (XS.iconst X647.here hx rfl (hb hby lw_d18) k)) ?_
  show own_DW p e below s _ _ _ (T647.setTop (mkF m 19 #[ι p0, ι p1, ρ o1, ρ o9, υ, υ, υ, υ, υ, υ, υ, υ, υ, υ, υ, υ, υ, υ] [(.int 1)]))
  obtain ⟨T653, h653, cA653, X653, e653, E653, A653, st653⟩ := newP X647 hx hZ (aty := .int) (own_w hw 0 rfl) e647 (g := (mkF m 19 #[ι p0, ι p1, ρ o1, ρ o9, υ, υ, υ, υ, υ, υ, υ, υ, υ, υ, υ, υ, υ, υ] [(.int 1)])) rfl (hb hby lw_d19) (n := (1 : Int32)) rfl (by decide) (cap := 1) (by decide) (by decide) (by decide) (by decide)
  obtain ⟨o19, g653⟩ : ∃ z, z = h647.size := ⟨_, rfl⟩
  rw [← g653] at A653 st653
  have ne654 : o1 ≠ o19 := Nat.ne_of_lt (Nat.lt_of_lt_of_le F652.lt (Nat.le_of_eq g653.symm))
  have ne655 : o9 ≠ o19 := Nat.ne_of_lt (Nat.lt_of_lt_of_le F647a.lt (Nat.le_of_eq g653.symm))
  have ge656 : n0 ≤ o19 := Nat.le_trans F648 (Nat.le_of_eq g653.symm)
  have gh657 : h0.size ≤ o19 := Nat.le_trans F651.1 (Nat.le_of_eq g653.symm)
  have F658 : n0 ≤ h653.size := Nat.le_trans F648 E653.1
  have F659 := F649.ext E653
  have F660 : w_k ≤ h653.size := Nat.le_trans F650 E653.1
  have F661 : Keep h0 h653 [] := F651.ext E653
  have F662 := F652.ext E653
  have F663 := F647a.ext E653
  have F664 : own_Arf Z h653 o19 .int 1 (fun i => (.int ((fun _ => (0 : Int32)) i))) := own_Arf.new A653 (by decide) (by decide)
  refine own_stW st653 ?_
  show own_DW p e below s _ _ _ (T653.setTop (mkF m 21 #[ι p0, ι p1, ρ o1, ρ o9, υ, υ, υ, υ, υ, υ, υ, υ, υ, υ, υ, υ, υ, υ] [(.ref o19)]))
  refine own_stW (fun _ k => XS.dup X653.here hx rfl (hb hby lw_d21) rfl rfl (XS.iconst X653.here hx rfl (hb hby lw_d22) (XS.iloadN X653.here hx rfl (hb hby lw_d23) rfl (XS.iconst X653.here hx rfl (hb hby lw_d24) (XS.iadd X653.here hx rfl (hb hby lw_d25) rfl k))))) ?_
  show own_DW p e below s _ _ _ (T653.setTop (mkF m 26 #[ι p0, ι p1, ρ o1, ρ o9, υ, υ, υ, υ, υ, υ, υ, υ, υ, υ, υ, υ, υ, υ] [(.int (p0 + (2 : Int32))), (.int 0), (.ref o19), (.ref o19)]))
  obtain ⟨T665, h665, X665, e665, W665, F665a, st665⟩ := own_stI (pc := 26) (L := #[ι p0, ι p1, ρ o1, ρ o9, υ, υ, υ, υ, υ, υ, υ, υ, υ, υ, υ, υ, υ, υ]) (rest := [(.ref o19)]) X653 hx hZ e653 F664 (j := (0 : Int32)) (x := (p0 + (2 : Int32))) (by decide) (by decide) (hb hby lw_d26)
  have N665 := Fr.snoc X665 N647 ge656
  have F666 : n0 ≤ h665.size := Nat.le_trans F658 (Keep.of_wr W665).1
  have F667 := F659.wr W665
  have F668 : w_k ≤ h665.size := Nat.le_trans F660 (Keep.of_wr W665).1
  have F669 : Keep h0 h665 [] := F661.wr W665 (Or.inr gh657)
  have F670 := F662.other W665 ne654
  have F671 := F663.other W665 ne655
  refine own_stW st665 ?_
  show own_DW p e below s _ _ _ (T665.setTop (mkF m 27 #[ι p0, ι p1, ρ o1, ρ o9, υ, υ, υ, υ, υ, υ, υ, υ, υ, υ, υ, υ, υ, υ] [(.ref o19)]))
  refine own_stW (fun _ k => XS.astore X665.here hx rfl (hb hby lw_d27) rfl rfl (l' := #[ι p0, ι p1, ρ o1, ρ o9, ρ o19, υ, υ, υ, υ, υ, υ, υ, υ, υ, υ, υ, υ, υ]) rfl (XS.iconst X665.here hx rfl (hb hby lw_d29) k)) ?_
  show own_DW p e below s _ _ _ (T665.setTop (mkF m 30 #[ι p0, ι p1, ρ o1, ρ o9, ρ o19, υ, υ, υ, υ, υ, υ, υ, υ, υ, υ, υ, υ, υ] [(.int 1)]))
  obtain ⟨T672, h672, cA672, X672, e672, E672, A672, st672⟩ := newP X665 hx hZ (aty := .int) (own_w hw 0 rfl) e665 (g := (mkF m 30 #[ι p0, ι p1, ρ o1, ρ o9, ρ o19, υ, υ, υ, υ, υ, υ, υ, υ, υ, υ, υ, υ, υ] [(.int 1)])) rfl (hb hby lw_d30) (n := (1 : Int32)) rfl (by decide) (cap := 1) (by decide) (by decide) (by decide) (by decide)
  obtain ⟨o30, g672⟩ : ∃ z, z = h665.size := ⟨_, rfl⟩
  rw [← g672] at A672 st672
  have ne673 : o1 ≠ o30 := Nat.ne_of_lt (Nat.lt_of_lt_of_le F670.lt (Nat.le_of_eq g672.symm))
  have ne674 : o9 ≠ o30 := Nat.ne_of_lt (Nat.lt_of_lt_of_le F671.lt (Nat.le_of_eq g672.symm))
  have ne675 : o19 ≠ o30 := Nat.ne_of_lt (Nat.lt_of_lt_of_le F665a.lt (Nat.le_of_eq g672.symm))
  have ge676 : n0 ≤ o30 := Nat.le_trans F666 (Nat.le_of_eq g672.symm)
  have gh677 : h0.size ≤ o30 := Nat.le_trans F669.1 (Nat.le_of_eq g672.symm)
  have F678 : n0 ≤ h672.size := Nat.le_trans F666 E672.1
  have F679 := F667.ext E672
  have F680 : w_k ≤ h672.size := Nat.le_trans F668 E672.1
  have F681 : Keep h0 h672 [] := F669.ext E672
  have F682 := F670.ext E672
  have F683 := F671.ext E672
  have F684 := F665a.ext E672
  have F685 : own_Arf Z h672 o30 .int 1 (fun i => (.int ((fun _ => (0 : Int32)) i))) := own_Arf.new A672 (by decide) (by decide)
  refine own_stW st672 ?_
  show own_DW p e below s _ _ _ (T672.setTop (mkF m 32 #[ι p0, ι p1, ρ o1, ρ o9, ρ o19, υ, υ, υ, υ, υ, υ, υ, υ, υ, υ, υ, υ, υ] [(.ref o30)]))
  refine own_stW (fun _ k => XS.dup X672.here hx rfl (hb hby lw_d32) rfl rfl (XS.iconst X672.here hx rfl (hb hby lw_d33) (XS.iloadN X672.here hx rfl (hb hby lw_d34) rfl (XS.iconst X672.here hx rfl (hb hby lw_d35) (XS.iadd X672.here hx rfl (hb hby lw_d36) rfl k))))) ?_
  show own_DW p e below s _ _ _ (T672.setTop (mkF m 37 #[ι p0, ι p1, ρ o1, ρ o9, ρ o19, υ, υ, υ, υ, υ, υ, υ, υ, υ, υ, υ, υ, υ] [(.int (p0 + (3 : Int32))), (.int 0), (.ref o30), (.ref o30)]))
  obtain ⟨T686, h686, X686, e686, W686, F686a, st686⟩ := own_stI (pc := 37) (L := #[ι p0, ι p1, ρ o1, ρ o9, ρ o19, υ, υ, υ, υ, υ, υ, υ, υ, υ, υ, υ, υ, υ]) (rest := [(.ref o30)]) X672 hx hZ e672 F685 (j := (0 : Int32)) (x := (p0 + (3 : Int32))) (by decide) (by decide) (hb hby lw_d37)
  have N686 := Fr.snoc X686 N665 ge676
  have F687 : n0 ≤ h686.size := Nat.le_trans F678 (Keep.of_wr W686).1
  have F688 := F679.wr W686
  have F689 : w_k ≤ h686.size := Nat.le_trans F680 (Keep.of_wr W686).1
  have F690 : Keep h0 h686 [] := F681.wr W686 (Or.inr gh677)
  have F691 := F682.other W686 ne673
  have F692 := F683.other W686 ne674
  have F693 := F684.other W686 ne675
  refine own_stW st686 ?_
  show own_DW p e below s _ _ _ (T686.setTop (mkF m 38 #[ι p0, ι p1, ρ o1, ρ o9, ρ o19, υ, υ, υ, υ, υ, υ, υ, υ, υ, υ, υ, υ, υ] [(.ref o30)]))
  refine own_stW (fun _ k => XS.astore X686.here hx rfl (hb hby lw_d38) rfl rfl (l' := #[ι p0, ι p1, ρ o1, ρ o9, ρ o19, ρ o30, υ, υ, υ, υ, υ, υ, υ, υ, υ, υ, υ, υ]) rfl (XS.iloadN X686.here hx rfl (hb hby lw_d40) rfl (XS.iconst X686.here hx rfl (hb hby lw_d41) (XS.iand X686.here hx rfl (hb hby lw_d42) rfl k)))) ?_
  show own_DW p e below s _ _ _ (T686.setTop (mkF m 43 #[ι p0, ι p1, ρ o1, ρ o9, ρ o19, ρ o30, υ, υ, υ, υ, υ, υ, υ, υ, υ, υ, υ, υ] [(.int (p1 &&& (1 : Int32)))]))
  by_cases hc694 : (p1 &&& (1 : Int32)) = (0 : Int32)
  · refine own_stW (fun _ k => XS.ifYes X686.here hx rfl (pc0 := 43) (pc' := 50) rfl (hb hby lw_d43) rfl ((if0 _ _).trans (teq hc694).1) (by decide) (by decide) k) ?_
    show own_DW p e below s _ _ _ (T686.setTop (mkF m 50 #[ι p0, ι p1, ρ o1, ρ o9, ρ o19, ρ o30, υ, υ, υ, υ, υ, υ, υ, υ, υ, υ, υ, υ] []))
    refine own_stW (fun _ k => XS.iconst X686.here hx rfl (hb hby lw_d50) (XS.istore X686.here hx rfl (hb hby lw_d51) rfl (l' := #[ι p0, ι p1, ρ o1, ρ o9, ρ o19, ρ o30, ι 0, υ, υ, υ, υ, υ, υ, υ, υ, υ, υ, υ]) rfl (XS.iloadN X686.here hx rfl (hb hby lw_d53) rfl (XS.iconst X686.here hx rfl (hb hby lw_d54) (XS.iand X686.here hx rfl (hb hby lw_d55) rfl k))))) ?_
    show own_DW p e below s _ _ _ (T686.setTop (mkF m 56 #[ι p0, ι p1, ρ o1, ρ o9, ρ o19, ρ o30, ι 0, υ, υ, υ, υ, υ, υ, υ, υ, υ, υ, υ] [(.int (p1 &&& (2 : Int32)))]))
    by_cases hc695 : (p1 &&& (2 : Int32)) = (0 : Int32)
    · refine own_stW (fun _ k => XS.ifYes X686.here hx rfl (pc0 := 56) (pc' := 63) rfl (hb hby lw_d56) rfl ((if0 _ _).trans (teq hc695).1) (by decide) (by decide) k) ?_
      show own_DW p e below s _ _ _ (T686.setTop (mkF m 63 #[ι p0, ι p1, ρ o1, ρ o9, ρ o19, ρ o30, ι 0, υ, υ, υ, υ, υ, υ, υ, υ, υ, υ, υ] []))
      refine own_stW (fun _ k => XS.iconst X686.here hx rfl (hb hby lw_d63) (XS.istore X686.here hx rfl (hb hby lw_d64) rfl (l' := #[ι p0, ι p1, ρ o1, ρ o9, ρ o19, ρ o30, ι 0, ι 0, υ, υ, υ, υ, υ, υ, υ, υ, υ, υ]) rfl (XS.iloadN X686.here hx rfl (hb hby lw_d66) rfl (XS.iconst X686.here hx rfl (hb hby lw_d67) (XS.iand X686.here hx rfl (hb hby lw_d68) rfl k))))) ?_
      show own_DW p e below s _ _ _ (T686.setTop (mkF m 69 #[ι p0, ι p1, ρ o1, ρ o9, ρ o19, ρ o30, ι 0, ι 0, υ, υ, υ, υ, υ, υ, υ, υ, υ, υ] [(.int (p1 &&& (4 : Int32)))]))
      by_cases hc696 : (p1 &&& (4 : Int32)) = (0 : Int32)
      · refine own_stW (fun _ k => XS.ifYes X686.here hx rfl (pc0 := 69) (pc' := 76) rfl (hb hby lw_d69) rfl ((if0 _ _).trans (teq hc696).1) (by decide) (by decide) k) ?_
        show own_DW p e below s _ _ _ (T686.setTop (mkF m 76 #[ι p0, ι p1, ρ o1, ρ o9, ρ o19, ρ o30, ι 0, ι 0, υ, υ, υ, υ, υ, υ, υ, υ, υ, υ] []))
        refine own_stW (fun _ k => XS.iconst X686.here hx rfl (hb hby lw_d76) (XS.istore X686.here hx rfl (hb hby lw_d77) rfl (l' := #[ι p0, ι p1, ρ o1, ρ o9, ρ o19, ρ o30, ι 0, ι 0, ι 0, υ, υ, υ, υ, υ, υ, υ, υ, υ]) rfl k)) ?_
        show own_DW p e below s _ _ _ (T686.setTop (mkF m 79 #[ι p0, ι p1, ρ o1, ρ o9, ρ o19, ρ o30, ι 0, ι 0, ι 0, υ, υ, υ, υ, υ, υ, υ, υ, υ] []))
        exact lw_c79 C0 X686 e686 N686 ((0 : Int32)) ((0 : Int32)) ((0 : Int32)) ((own_upd (fun _ => (0 : Int32)) ((0 : Int32)).toNatClampNeg p0)) ((own_upd (fun _ => (0 : Int32)) ((0 : Int32)).toNatClampNeg (p0 + (1 : Int32)))) ((own_upd (fun _ => (0 : Int32)) ((0 : Int32)).toNatClampNeg (p0 + (2 : Int32)))) ((own_upd (fun _ => (0 : Int32)) ((0 : Int32)).toNatClampNeg (p0 + (3 : Int32)))) F687 F688 F689 F690 F691 F692 F693 F686a ge625 gh626 ne638 ge639 gh640 ne654 ne655 ge656 gh657 ne673 ne674 ne675 ge676 gh677 hL ⟨own_U0 p0, own_U1 p0, own_U2 p0, own_U3 p0, (Or.inl rfl), (Or.inl rfl), (Or.inl rfl)⟩ (by rw [hr0, lw_f, if_pos hc694, if_pos hc695, if_pos hc696])
      · refine own_stW (fun _ k => XS.ifNo X686.here hx rfl (hb hby lw_d69) rfl ((if0 _ _).trans (feq hc696).1) k) ?_
        show own_DW p e below s _ _ _ (T686.setTop (mkF m 72 #[ι p0, ι p1, ρ o1, ρ o9, ρ o19, ρ o30, ι 0, ι 0, υ, υ, υ, υ, υ, υ, υ, υ, υ, υ] []))
        refine own_stW (fun _ k => XS.iconst X686.here hx rfl (hb hby lw_d72) (XS.goto X686.here hx rfl (pc0 := 73) (pc' := 77) rfl (hb hby lw_d73) (by decide) (by decide) (XS.istore X686.here hx rfl (hb hby lw_d77) rfl (l' := #[ι p0, ι p1, ρ o1, ρ o9, ρ o19, ρ o30, ι 0, ι 0, ι 1, υ, υ, υ, υ, υ, υ, υ, υ, υ]) rfl k))) ?_
        show own_DW p e below s _ _ _ (T686.setTop (mkF m 79 #[ι p0, ι p1, ρ o1, ρ o9, ρ o19, ρ o30, ι 0, ι 0, ι 1, υ, υ, υ, υ, υ, υ, υ, υ, υ] []))
        exact lw_c79 C0 X686 e686 N686 ((0 : Int32)) ((0 : Int32)) ((1 : Int32)) ((own_upd (fun _ => (0 : Int32)) ((0 : Int32)).toNatClampNeg p0)) ((own_upd (fun _ => (0 : Int32)) ((0 : Int32)).toNatClampNeg (p0 + (1 : Int32)))) ((own_upd (fun _ => (0 : Int32)) ((0 : Int32)).toNatClampNeg (p0 + (2 : Int32)))) ((own_upd (fun _ => (0 : Int32)) ((0 : Int32)).toNatClampNeg (p0 + (3 : Int32)))) F687 F688 F689 F690 F691 F692 F693 F686a ge625 gh626 ne638 ge639 gh640 ne654 ne655 ge656 gh657 ne673 ne674 ne675 ge676 gh677 hL ⟨own_U0 p0, own_U1 p0, own_U2 p0, own_U3 p0, (Or.inl rfl), (Or.inl rfl), (Or.inr rfl)⟩ (by rw [hr0, lw_f, if_pos hc694, if_pos hc695, if_neg hc696])
    · refine own_stW (fun _ k => XS.ifNo X686.here hx rfl (hb hby lw_d56) rfl ((if0 _ _).trans (feq hc695).1) k) ?_
      show own_DW p e below s _ _ _ (T686.setTop (mkF m 59 #[ι p0, ι p1, ρ o1, ρ o9, ρ o19, ρ o30, ι 0, υ, υ, υ, υ, υ, υ, υ, υ, υ, υ, υ] []))
      refine own_stW (fun _ k => XS.iconst X686.here hx rfl (hb hby lw_d59) (XS.goto X686.here hx rfl (pc0 := 60) (pc' := 64) rfl (hb hby lw_d60) (by decide) (by decide) (XS.istore X686.here hx rfl (hb hby lw_d64) rfl (l' := #[ι p0, ι p1, ρ o1, ρ o9, ρ o19, ρ o30, ι 0, ι 1, υ, υ, υ, υ, υ, υ, υ, υ, υ, υ]) rfl (XS.iloadN X686.here hx rfl (hb hby lw_d66) rfl (XS.iconst X686.here hx rfl (hb hby lw_d67) (XS.iand X686.here hx rfl (hb hby lw_d68) rfl k)))))) ?_
      show own_DW p e below s _ _ _ (T686.setTop (mkF m 69 #[ι p0, ι p1, ρ o1, ρ o9, ρ o19, ρ o30, ι 0, ι 1, υ, υ, υ, υ, υ, υ, υ, υ, υ, υ] [(.int (p1 &&& (4 : Int32)))]))
      by_cases hc697 : (p1 &&& (4 : Int32)) = (0 : Int32)
      · refine own_stW (fun _ k => XS.ifYes X686.here hx rfl (pc0 := 69) (pc' := 76) rfl (hb hby lw_d69) rfl ((if0 _ _).trans (teq hc697).1) (by decide) (by decide) k) ?_
        show own_DW p e below s _ _ _ (T686.setTop (mkF m 76 #[ι p0, ι p1, ρ o1, ρ o9, ρ o19, ρ o30, ι 0, ι 1, υ, υ, υ, υ, υ, υ, υ, υ, υ, υ] []))
        refine own_stW (fun _ k => XS.iconst X686.here hx rfl (hb hby lw_d76) (XS.istore X686.here hx rfl (hb hby lw_d77) rfl (l' := #[ι p0, ι p1, ρ o1, ρ o9, ρ o19, ρ o30, ι 0, ι 1, ι 0, υ, υ, υ, υ, υ, υ, υ, υ, υ]) rfl k)) ?_
        show own_DW p e below s _ _ _ (T686.setTop (mkF m 79 #[ι p0, ι p1, ρ o1, ρ o9, ρ o19, ρ o30, ι 0, ι 1, ι 0, υ, υ, υ, υ, υ, υ, υ, υ, υ] []))
        exact lw_c79 C0 X686 e686 N686 ((0 : Int32)) ((1 : Int32)) ((0 : Int32)) ((own_upd (fun _ => (0 : Int32)) ((0 : Int32)).toNatClampNeg p0)) ((own_upd (fun _ => (0 : Int32)) ((0 : Int32)).toNatClampNeg (p0 + (1 : Int32)))) ((own_upd (fun _ => (0 : Int32)) ((0 : Int32)).toNatClampNeg (p0 + (2 : Int32)))) ((own_upd (fun _ => (0 : Int32)) ((0 : Int32)).toNatClampNeg (p0 + (3 : Int32)))) F687 F688 F689 F690 F691 F692 F693 F686a ge625 gh626 ne638 ge639 gh640 ne654 ne655 ge656 gh657 ne673 ne674 ne675 ge676 gh677 hL ⟨own_U0 p0, own_U1 p0, own_U2 p0, own_U3 p0, (Or.inl rfl), (Or.inr rfl), (Or.inl rfl)⟩ (by rw [hr0, lw_f, if_pos hc694, if_neg hc695, if_pos hc697])
      · refine own_stW (fun _ k => XS.ifNo X686.here hx rfl (hb hby lw_d69) rfl ((if0 _ _).trans (feq hc697).1) k) ?_
        show own_DW p e below s _ _ _ (T686.setTop (mkF m 72 #[ι p0, ι p1, ρ o1, ρ o9, ρ o19, ρ o30, ι 0, ι 1, υ, υ, υ, υ, υ, υ, υ, υ, υ, υ] []))
        refine own_stW (fun _ k => XS.iconst X686.here hx rfl (hb hby lw_d72) (XS.goto X686.here hx rfl (pc0 := 73) (pc' := 77) rfl (hb hby lw_d73) (by decide) (by decide) (XS.istore X686.here hx rfl (hb hby lw_d77) rfl (l' := #[ι p0, ι p1, ρ o1, ρ o9, ρ o19, ρ o30, ι 0, ι 1, ι 1, υ, υ, υ, υ, υ, υ, υ, υ, υ]) rfl k))) ?_
        show own_DW p e below s _ _ _ (T686.setTop (mkF m 79 #[ι p0, ι p1, ρ o1, ρ o9, ρ o19, ρ o30, ι 0, ι 1, ι 1, υ, υ, υ, υ, υ, υ, υ, υ, υ] []))
        exact lw_c79 C0 X686 e686 N686 ((0 : Int32)) ((1 : Int32)) ((1 : Int32)) ((own_upd (fun _ => (0 : Int32)) ((0 : Int32)).toNatClampNeg p0)) ((own_upd (fun _ => (0 : Int32)) ((0 : Int32)).toNatClampNeg (p0 + (1 : Int32)))) ((own_upd (fun _ => (0 : Int32)) ((0 : Int32)).toNatClampNeg (p0 + (2 : Int32)))) ((own_upd (fun _ => (0 : Int32)) ((0 : Int32)).toNatClampNeg (p0 + (3 : Int32)))) F687 F688 F689 F690 F691 F692 F693 F686a ge625 gh626 ne638 ge639 gh640 ne654 ne655 ge656 gh657 ne673 ne674 ne675 ge676 gh677 hL ⟨own_U0 p0, own_U1 p0, own_U2 p0, own_U3 p0, (Or.inl rfl), (Or.inr rfl), (Or.inr rfl)⟩ (by rw [hr0, lw_f, if_pos hc694, if_neg hc695, if_neg hc697])
  · refine own_stW (fun _ k => XS.ifNo X686.here hx rfl (hb hby lw_d43) rfl ((if0 _ _).trans (feq hc694).1) k) ?_
    show own_DW p e below s _ _ _ (T686.setTop (mkF m 46 #[ι p0, ι p1, ρ o1, ρ o9, ρ o19, ρ o30, υ, υ, υ, υ, υ, υ, υ, υ, υ, υ, υ, υ] []))
    refine own_stW (fun _ k => XS.iconst X686.here hx rfl (hb hby lw_d46) (XS.goto X686.here hx rfl (pc0 := 47) (pc' := 51) rfl (hb hby lw_d47) (by decide) (by decide) (XS.istore X686.here hx rfl (hb hby lw_d51) rfl (l' := #[ι p0, ι p1, ρ o1, ρ o9, ρ o19, ρ o30, ι 1, υ, υ, υ, υ, υ, υ, υ, υ, υ, υ, υ]) rfl (XS.iloadN X686.here hx rfl (hb hby lw_d53) rfl (XS.iconst X686.here hx rfl (hb hby lw_d54) (XS.iand X686.here hx rfl (hb hby lw_d55) rfl k)))))) ?_
    show own_DW p e below s _ _ _ (T686.setTop (mkF m 56 #[ι p0, ι p1, ρ o1, ρ o9, ρ o19, ρ o30, ι 1, υ, υ, υ, υ, υ, υ, υ, υ, υ, υ, υ] [(.int (p1 &&& (2 : Int32)))]))
    by_cases hc698 : (p1 &&& (2 : Int32)) = (0 : Int32)
    · refine own_stW (fun _ k => XS.ifYes X686.here hx rfl (pc0 := 56) (pc' := 63) rfl (hb hby lw_d56) rfl ((if0 _ _).trans (teq hc698).1) (by decide) (by decide) k) ?_
      show own_DW p e below s _ _ _ (T686.setTop (mkF m 63 #[ι p0, ι p1, ρ o1, ρ o9, ρ o19, ρ o30, ι 1, υ, υ, υ, υ, υ, υ, υ, υ, υ, υ, υ] []))
      refine own_stW (fun _ k => XS.iconst X686.here hx rfl (hb hby lw_d63) (XS.istore X686.here hx rfl (hb hby lw_d64) rfl (l' := #[ι p0, ι p1, ρ o1, ρ o9, ρ o19, ρ o30, ι 1, ι 0, υ, υ, υ, υ, υ, υ, υ, υ, υ, υ]) rfl (XS.iloadN X686.here hx rfl (hb hby lw_d66) rfl (XS.iconst X686.here hx rfl (hb hby lw_d67) (XS.iand X686.here hx rfl (hb hby lw_d68) rfl k))))) ?_
      show own_DW p e below s _ _ _ (T686.setTop (mkF m 69 #[ι p0, ι p1, ρ o1, ρ o9, ρ o19, ρ o30, ι 1, ι 0, υ, υ, υ, υ, υ, υ, υ, υ, υ, υ] [(.int (p1 &&& (4 : Int32)))]))
      by_cases hc699 : (p1 &&& (4 : Int32)) = (0 : Int32)
      · refine own_stW (fun _ k => XS.ifYes X686.here hx rfl (pc0 := 69) (pc' := 76) rfl (hb hby lw_d69) rfl ((if0 _ _).trans (teq hc699).1) (by decide) (by decide) k) ?_
        show own_DW p e below s _ _ _ (T686.setTop (mkF m 76 #[ι p0, ι p1, ρ o1, ρ o9, ρ o19, ρ o30, ι 1, ι 0, υ, υ, υ, υ, υ, υ, υ, υ, υ, υ] []))
        refine own_stW (fun _ k => XS.iconst X686.here hx rfl (hb hby lw_d76) (XS.istore X686.here hx rfl (hb hby lw_d77) rfl (l' := #[ι p0, ι p1, ρ o1, ρ o9, ρ o19, ρ o30, ι 1, ι 0, ι 0, υ, υ, υ, υ, υ, υ, υ, υ, υ]) rfl k)) ?_
        show own_DW p e below s _ _ _ (T686.setTop (mkF m 79 #[ι p0, ι p1, ρ o1, ρ o9, ρ o19, ρ o30, ι 1, ι 0, ι 0, υ, υ, υ, υ, υ, υ, υ, υ, υ] []))
        exact lw_c79 C0 X686 e686 N686 ((1 : Int32)) ((0 : Int32)) ((0 : Int32)) ((own_upd (fun _ => (0 : Int32)) ((0 : Int32)).toNatClampNeg p0)) ((own_upd (fun _ => (0 : Int32)) ((0 : Int32)).toNatClampNeg (p0 + (1 : Int32)))) ((own_upd (fun _ => (0 : Int32)) ((0 : Int32)).toNatClampNeg (p0 + (2 : Int32)))) ((own_upd (fun _ => (0 : Int32)) ((0 : Int32)).toNatClampNeg (p0 + (3 : Int32)))) F687 F688 F689 F690 F691 F692 F693 F686a ge625 gh626 ne638 ge639 gh640 ne654 ne655 ge656 gh657 ne673 ne674 ne675 ge676 gh677 hL ⟨own_U0 p0, own_U1 p0, own_U2 p0, own_U3 p0, (Or.inr rfl), (Or.inl rfl), (Or.inl rfl)⟩ (by rw [hr0, lw_f, if_neg hc694, if_pos hc698, if_pos hc699])
      · refine own_stW (fun _ k => XS.ifNo X686.here hx rfl (hb hby lw_d69) rfl ((if0 _ _).trans (feq hc699).1) k) ?_
        show own_DW p e below s _ _ _ (T686.setTop (mkF m 72 #[ι p0, ι p1, ρ o1, ρ o9, ρ o19, ρ o30, ι 1, ι 0, υ, υ, υ, υ, υ, υ, υ, υ, υ, υ] []))
        refine own_stW (fun _ k => XS.iconst X686.here hx rfl (hb hby lw_d72) (XS.goto X686.here hx rfl (pc0 := 73) (pc' := 77) rfl (hb hby lw_d73) (by decide) (by decide) (XS.istore X686.here hx rfl (hb hby lw_d77) rfl (l' := #[ι p0, ι p1, ρ o1, ρ o9, ρ o19, ρ o30, ι 1, ι 0, ι 1, υ, υ, υ, υ, υ, υ, υ, υ, υ]) rfl k))) ?_
        show own_DW p e below s _ _ _ (T686.setTop (mkF m 79 #[ι p0, ι p1, ρ o1, ρ o9, ρ o19, ρ o30, ι 1, ι 0, ι 1, υ, υ, υ, υ, υ, υ, υ, υ, υ] []))
        exact lw_c79 C0 X686 e686 N686 ((1 : Int32)) ((0 : Int32)) ((1 : Int32)) ((own_upd (fun _ => (0 : Int32)) ((0 : Int32)).toNatClampNeg p0)) ((own_upd (fun _ => (0 : Int32)) ((0 : Int32)).toNatClampNeg (p0 + (1 : Int32)))) ((own_upd (fun _ => (0 : Int32)) ((0 : Int32)).toNatClampNeg (p0 + (2 : Int32)))) ((own_upd (fun _ => (0 : Int32)) ((0 : Int32)).toNatClampNeg (p0 + (3 : Int32)))) F687 F688 F689 F690 F691 F692 F693 F686a ge625 gh626 ne638 ge639 gh640 ne654 ne655 ge656 gh657 ne673 ne674 ne675 ge676 gh677 hL ⟨own_U0 p0, own_U1 p0, own_U2 p0, own_U3 p0, (Or.inr rfl), (Or.inl rfl), (Or.inr rfl)⟩ (by rw [hr0, lw_f, if_neg hc694, if_pos hc698, if_neg hc699])
    · refine own_stW (fun _ k => XS.ifNo X686.here hx rfl (hb hby lw_d56) rfl ((if0 _ _).trans (feq hc698).1) k) ?_
      show own_DW p e below s _ _ _ (T686.setTop (mkF m 59 #[ι p0, ι p1, ρ o1, ρ o9, ρ o19, ρ o30, ι 1, υ, υ, υ, υ, υ, υ, υ, υ, υ, υ, υ] []))
      refine own_stW (fun _ k => XS.iconst X686.here hx rfl (hb hby lw_d59) (XS.goto X686.here hx rfl (pc0 := 60) (pc' := 64) rfl (hb hby lw_d60) (by decide) (by decide) (XS.istore X686.here hx rfl (hb hby lw_d64) rfl (l' := #[ι p0, ι p1, ρ o1, ρ o9, ρ o19, ρ o30, ι 1, ι 1, υ, υ, υ, υ, υ, υ, υ, υ, υ, υ]) rfl (XS.iloadN X686.here hx rfl (hb hby lw_d66) rfl (XS.iconst X686.here hx rfl (hb hby lw_d67) (XS.iand X686.here hx rfl (hb hby lw_d68) rfl k)))))) ?_
      show own_DW p e below s _ _ _ (T686.setTop (mkF m 69 #[ι p0, ι p1, ρ o1, ρ o9, ρ o19, ρ o30, ι 1, ι 1, υ, υ, υ, υ, υ, υ, υ, υ, υ, υ] [(.int (p1 &&& (4 : Int32)))]))
      by_cases hc700 : (p1 &&& (4 : Int32)) = (0 : Int32)
      · refine own_stW (fun _ k => XS.ifYes X686.here hx rfl (pc0 := 69) (pc' := 76) rfl (hb hby lw_d69) rfl ((if0 _ _).trans (teq hc700).1) (by decide) (by decide) k) ?_
        show own_DW p e below s _ _ _ (T686.setTop (mkF m 76 #[ι p0, ι p1, ρ o1, ρ o9, ρ o19, ρ o30, ι 1, ι 1, υ, υ, υ, υ, υ, υ, υ, υ, υ, υ] []))
        refine own_stW (fun _ k => XS.iconst X686.here hx rfl (hb hby lw_d76) (XS.istore X686.here hx rfl (hb hby lw_d77) rfl (l' := #[ι p0, ι p1, ρ o1, ρ o9, ρ o19, ρ o30, ι 1, ι 1, ι 0, υ, υ, υ, υ, υ, υ, υ, υ, υ]) rfl k)) ?_
        show own_DW p e below s _ _ _ (T686.setTop (mkF m 79 #[ι p0, ι p1, ρ o1, ρ o9, ρ o19, ρ o30, ι 1, ι 1, ι 0, υ, υ, υ, υ, υ, υ, υ, υ, υ] []))
        exact lw_c79 C0 X686 e686 N686 ((1 : Int32)) ((1 : Int32)) ((0 : Int32)) ((own_upd (fun _ => (0 : Int32)) ((0 : Int32)).toNatClampNeg p0)) ((own_upd (fun _ => (0 : Int32)) ((0 : Int32)).toNatClampNeg (p0 + (1 : Int32)))) ((own_upd (fun _ => (0 : Int32)) ((0 : Int32)).toNatClampNeg (p0 + (2 : Int32)))) ((own_upd (fun _ => (0 : Int32)) ((0 : Int32)).toNatClampNeg (p0 + (3 : Int32)))) F687 F688 F689 F690 F691 F692 F693 F686a ge625 gh626 ne638 ge639 gh640 ne654 ne655 ge656 gh657 ne673 ne674 ne675 ge676 gh677 hL ⟨own_U0 p0, own_U1 p0, own_U2 p0, own_U3 p0, (Or.inr rfl), (Or.inr rfl), (Or.inl rfl)⟩ (by rw [hr0, lw_f, if_neg hc694, if_neg hc698, if_pos hc700])
      · refine own_stW (fun _ k => XS.ifNo X686.here hx rfl (hb hby lw_d69) rfl ((if0 _ _).trans (feq hc700).1) k) ?_
        show own_DW p e below s _ _ _ (T686.setTop (mkF m 72 #[ι p0, ι p1, ρ o1, ρ o9, ρ o19, ρ o30, ι 1, ι 1, υ, υ, υ, υ, υ, υ, υ, υ, υ, υ] []))
        refine own_stW (fun _ k => XS.iconst X686.here hx rfl (hb hby lw_d72) (XS.goto X686.here hx rfl (pc0 := 73) (pc' := 77) rfl (hb hby lw_d73) (by decide) (by decide) (XS.istore X686.here hx rfl (hb hby lw_d77) rfl (l' := #[ι p0, ι p1, ρ o1, ρ o9, ρ o19, ρ o30, ι 1, ι 1, ι 1, υ, υ, υ, υ, υ, υ, υ, υ, υ]) rfl k))) ?_
        show own_DW p e below s _ _ _ (T686.setTop (mkF m 79 #[ι p0, ι p1, ρ o1, ρ o9, ρ o19, ρ o30, ι 1, ι 1, ι 1, υ, υ, υ, υ, υ, υ, υ, υ, υ] []))
        exact lw_c79 C0 X686 e686 N686 ((1 : Int32)) ((1 : Int32)) ((1 : Int32)) ((own_upd (fun _ => (0 : Int32)) ((0 : Int32)).toNatClampNeg p0)) ((own_upd (fun _ => (0 : Int32)) ((0 : Int32)).toNatClampNeg (p0 + (1 : Int32)))) ((own_upd (fun _ => (0 : Int32)) ((0 : Int32)).toNatClampNeg (p0 + (2 : Int32)))) ((own_upd (fun _ => (0 : Int32)) ((0 : Int32)).toNatClampNeg (p0 + (3 : Int32)))) F687 F688 F689 F690 F691 F692 F693 F686a ge625 gh626 ne638 ge639 gh640 ne654 ne655 ge656 gh657 ne673 ne674 ne675 ge676 gh677 hL ⟨own_U0 p0, own_U1 p0, own_U2 p0, own_U3 p0, (Or.inr rfl), (Or.inr rfl), (Or.inr rfl)⟩ (by rw [hr0, lw_f, if_neg hc694, if_neg hc698, if_neg hc700])
theorem lw_ef (m : MethodId) (p0 : Int32) (p1 : Int32) : entryFrame m #[(.int p0), (.int p1)] maxLocals = mkF m 0 #[.val (.int p0), .val (.int p1), .unset, .unset, .unset, .unset, .unset, .unset, .unset, .unset, .unset, .unset, .unset, .unset, .unset, .unset, .unset, .unset] [] := by first | (simp [entryFrame, mkF, argsToLocals, Value.category, maxLocals]; done) | rfl
theorem lw_rm (l : Launch) (Z : State) (a0 : Array Value) (hw : ∀ d ∈ tables_1, d.before a0 Z = true) (ws : List Jvm.Cond) (p0 : Int32) (p1 : Int32) (w_a : Addr) (w_e : Addr) (w_k : Nat) (h0 : Heap) (n0 : Nat) (Z0 : n0 ≤ h0.size) (P0 : Sta Z h0 ς3 "DEFAULTCAPACITY_EMPTY_ELEMENTDATA" "[Ljava/lang/Object;" (.ref w_e)) (P1 : w_k ≤ h0.size) (hL : own_LF n0 Z h0 w_a) :
    MetFree l x (head1 (Jvm.Cond.code x code maxLocals ret :: ws) room_1) (fun a U => a = #[(.int p0), (.int p1)] ∧ Z.Warmed39 U.vm ∧ U.heap = h0) (fun _ _ _ _ _ => True) (fun _ U o U' => ∃ v L, o = .returned v ∧ own_QE (lw_f p0 p1) h0 n0 v U'.heap L ∧ ReturnedEndW U o U' L room_1.cells room_1.slots) :=
  own_metD hw (plainFor_of_name (by first | (simp [plainName, overriddenIn]; done) | decide +kernel)) (fun p e s m below meth c T0 C0 X0 e0 => own_stW (fun _ k => castTop (lw_ef m p0 p1) k) (lw_c0 C0 X0 e0 (Fr.nil n0) Z0 P0 P1 hL rfl))
end ownAll
theorem own_law (x m : Int32) : lw_f x m = (1 : Int32) := by
  simp only [lw_f, lw_f79, lw_f89, lw_f99, lw_f105, lw_f113, lw_f122, lw_f135n, lw_f135y, lw_f146n, lw_f146y, lw_f157n, lw_f157y, lw_f198, lw_f233, lw_f248, lw_f263, ite_self]
set_option maxRecDepth 65536 in
set_option maxHeartbeats 40000000 in
theorem comes_1 {Post : Tables → Env → Array Value → State → Outcome → State → Prop} (hpost : ∀ tb e args s v u, (limb_1_1.after args s (.returned v) u = true ∧ limb_1_2.after args s (.returned v) u = true ∧ True) → ReturnedEndW s (.returned v) u (Jvm.fieldLocs frame_1_writes args s ++ Jvm.arrayLocs frame_1_arrays args s ++ Jvm.staticLocs frame_1_statics s) 56 1344 → Post tb e args s (.returned v) u) :
    ArmFor flags0 classFile x code maxLocals ret World_1 tables_1 room_1 Calls_1 rest_1 Pre_1 Post := by
  intro l hfl _ _ p e ha hc hk s m args below hf hA hF happ hP
  obtain ⟨hcalls, hrest, hpre⟩ := hP
  obtain ⟨-, -, -, hnamed, -, -, -, hat⟩ := (Spec.applies_iff hf).mp happ
  obtain ⟨hg, hn⟩ := and_e (Cond.before_iff.mp (show (Jvm.Cond.and given_1 narrow_1).before args s = true from hpre))
  obtain ⟨gc, hg0⟩ := and_e hg
  obtain ⟨g0, g1⟩ := and_e hg0
  obtain ⟨w0, w1, rfl⟩ : ∃ w0 w1 : Value, args = #[w0, w1] := by
    have hs : args.size = 2 := by simpa [Cond.value, given_1] using gc
    obtain ⟨L⟩ := args
    match L, hs with
    | [w0, w1], _ => exact ⟨w0, w1, rfl⟩
  have hw := fun d (hd : d ∈ tables_1) => atoms_spec (ws := Jvm.Cond.code x code maxLocals ret :: tables_1) hat d (List.mem_cons_of_mem _ hd)
  have hfit : Fit s := fun {y c} hc i hi => by
    obtain ⟨ha, rfl⟩ := Array.getElem?_eq_some_iff.mp hc
    have q := List.all_eq_true.mp ((Array.all_eq_true_iff_forall_mem.mp hF) _ (Array.getElem_mem ha)) i (List.mem_range.mpr hi)
    simpa [Array.getElem?_eq_getElem hi] using q
  obtain ⟨i0, ei0⟩ := is_v g0
  obtain rfl : w0 = (.int i0) := Option.some.inj ei0
  obtain ⟨i1, ei1⟩ := is_v g1
  obtain rfl : w1 = (.int i1) := Option.some.inj ei1
  obtain ⟨hsets, hown0⟩ := atoms_of _ (rest_1_c_eq ▸ (show rest_1_c.before _ s = true from hrest))
  obtain ⟨w_e, ed⟩ := arr_v (Cond.before_iff.mp (hsets _ (List.mem_of_getElem? (i := 6) rfl)))
  have P0 : Sta s s.heap "java/util/ArrayList" "DEFAULTCAPACITY_EMPTY_ELEMENTDATA" "[Ljava/lang/Object;" (.ref w_e) := Sta.start ed (Or.inr ⟨(hw _ (List.mem_of_getElem? (i := 36) rfl)), (hsets _ (List.mem_of_getElem? (i := 2) rfl))⟩)
  obtain ⟨w_a, hL⟩ := own_LF.start (hw _ (List.mem_of_getElem? (i := 77) rfl))
  obtain ⟨n, o, h1, h2, h3, _, L, rfl, ⟨rfl, N, -⟩, hq⟩ := lw_rm l s _ hw tables_1 i0 i1 w_a w_e 0 s.heap s.heap.size (Nat.le_refl _) P0 (Nat.zero_le _) hL p e ha hc hk s m _ below hf ((Spec.applies_iff_loose hf).mp happ).1 ⟨rfl, State.Warmed39.refl s, rfl⟩ trivial
  refine ⟨n, _, h1, h2, h3, hpost _ _ _ _ _ _ ⟨Cond.after_iff.mpr rfl, Cond.after_iff.mpr (eq_i res_at (Term.int_eval (1)) (by rw [own_law])), trivial⟩ ⟨hq.1, hq.2.1, hq.2.2.1, (hq.2.2.2.sift fun y hy => Or.inr (N y hy)).mono (by decide) (by decide)⟩⟩
theorem main_1_1 : Claimed_1_1 := comes_1 fun _ _ _ _ _ _ h hF => ⟨h.1, hF⟩
theorem main_1_2 : Claimed_1_2 := comes_1 fun _ _ _ _ _ _ h hF => ⟨h.2.1, hF⟩
end Jvm.Pilot.@@N@@
namespace Jvm.Pilot.@@N@@
open Jvm Jvm.ClassFile Sem Op Lib Jvm.Free Jvm.Stand Jvm.Pilot.@@N@@.Jvm.D
/-! MADE BY PROGRAM (witnessworld.py) out of the Statement's table words and the real class files: 37 classes; the members and pool entries that the words name. The judged class is class 1, her method 1. -/
namespace start1
open Jvm.ClassFile
def u (s : String) : CpInfo := .utf8 (stringToUtf16 s)
/-- a pool by its gaps: so many unusable entries, then the entry; so many at the end -/
def gap : Nat → List CpInfo → List CpInfo
  | 0, r => r
  | n + 1, r => .unusable :: gap n r
def poolList (es : List (Nat × CpInfo)) (last : Nat) : List CpInfo := es.foldr (fun e r => gap e.1 (e.2 :: r)) (gap last [])
def pool (es : List (Nat × CpInfo)) (last : Nat) : Array CpInfo := ⟨poolList es last⟩
def fileOf (pool : Array CpInfo) (this : Nat) (attrs : Array Attribute := #[]) (ms : Array MethodInfo := #[]) (fl : Nat := 33) (sup : Nat := 0) (ifs : Array Nat := #[]) (fds : Array FieldInfo := #[]) : ClassFile where
  minorVersion := 0
  majorVersion := 65
  constantPool := pool
  accessFlags := fl
  thisClass := this
  superClass := sup
  interfaces := ifs
  fields := fds
  methods := ms
  attributes := attrs
def plain (name : String) (sup : Option ClassId) : Class where
  name := name
  kind := .ordinary
  loader := none
  accessFlags := 33
  super := sup
  interfaces := #[]
  cf := none
  fields := #[]
  methods := #[]
  instanceTypes := #[]
  staticTypes := #[]
  resolved := #[]
  callSites := []
  init := .initialized
  statics := none
  mirror := none

def pool0 : Array CpInfo := pool [(5, u "<init>"), (0, u "()V"), (1, .class_ 10), (1, u "java/lang/Object")] 113

def k0c0 : Code := { maxStack := 0, maxLocals := 1, code := object_method_1_code, exceptionTable := #[], attributes := #[] }
def k0m0 : Method := { name := "<init>", desc := "()V", sig := { parameters := [], returnType := none }, accessFlags := 1, code := some k0c0 }
/-- java/lang/Object -/
def k0 : Class := { plain "java/lang/Object" none with
  accessFlags := 33
  interfaces := #[]
  cf := some (fileOf pool0 8 #[] #[{ accessFlags := 1, nameIndex := 5, descriptorIndex := 6, attributes := #[] }] 33 0 #[] #[])
  fields := #[]
  methods := #[k0m0]
  instanceTypes := #[]
  staticTypes := #[]
  resolved := Array.replicate 124 none
  statics := none }

def pool1 : Array CpInfo := pool [(2, .class_ 4), (1, u "java/lang/Object"), (0, u "<init>"), (0, u "()V"), (0, .class_ 8), (0, u "com/example/chasebound/chasebound/chase/Relation"), (0, .class_ 10), (0, u "com/example/chasebound/chasebound/rules/Predicate"), (0, .string 12), (0, u "p"), (0, .methodref 9 14), (0, .nameAndType 5 15), (0, u "(Ljava/lang/String;I)V"), (0, .methodref 7 17), (0, .nameAndType 5 18), (0, u "(Lcom/example/chasebound/chasebound/rules/Predicate;I)V"), (0, .methodref 7 20), (0, .nameAndType 21 22), (0, u "add"), (0, u "([I)Z"), (0, .methodref 7 24), (0, .nameAndType 25 26), (0, u "remove"), (0, u "(I)V"), (0, .methodref 7 28), (0, .nameAndType 29 30), (0, u "isLive"), (0, u "(I)Z"), (0, .class_ 32), (0, u "com/example/chasebound/chasebound/chase/RelationIsLivePinLaw"), (2, u "law"), (0, u "(II)Z")] 5

def k1m0 : Method := { name := "<init>", desc := "()V", sig := { parameters := [], returnType := none }, accessFlags := 2, code := none }
def k1c1 : Code := { maxStack := 6, maxLocals := 18, code := code, exceptionTable := #[], attributes := #[] }
def k1m1 : Method := { name := "law", desc := "(II)Z", sig := { parameters := [.int, .int], returnType := some .boolean }, accessFlags := 9, code := some k1c1 }
/-- com/example/chasebound/chasebound/chase/RelationIsLivePinLaw -/
def k1 : Class := { plain "com/example/chasebound/chasebound/chase/RelationIsLivePinLaw" (some 0) with
  accessFlags := 49
  interfaces := #[]
  cf := some (fileOf pool1 31 #[] #[{ accessFlags := 2, nameIndex := 5, descriptorIndex := 6, attributes := #[] }, { accessFlags := 9, nameIndex := 35, descriptorIndex := 36, attributes := #[] }] 49 2 #[] #[])
  fields := #[]
  methods := #[k1m0, k1m1]
  instanceTypes := #[]
  staticTypes := #[]
  resolved := Array.replicate 42 none
  statics := none }

def pool2 : Array CpInfo := pool [(1, .methodref 2 3), (0, .class_ 4), (0, .nameAndType 5 6), (0, u "java/lang/Object"), (0, u "<init>"), (0, u "()V"), (0, .class_ 8), (0, u "java/util/ArrayList"), (0, .methodref 7 3), (0, .fieldref 11 12), (0, .class_ 13), (0, .nameAndType 14 15), (0, u "com/example/chasebound/chasebound/chase/Relation"), (0, u "indexes"), (0, u "Ljava/util/List;"), (0, .fieldref 11 17), (0, .nameAndType 18 19), (0, u "predicate"), (0, u "Lcom/example/chasebound/chasebound/rules/Predicate;"), (0, .fieldref 11 21), (0, .nameAndType 22 23), (0, u "number"), (0, u "I"), (0, .methodref 25 26), (0, .class_ 27), (0, .nameAndType 28 29), (0, u "com/example/chasebound/chasebound/rules/Predicate"), (0, u "arity"), (0, u "()I"), (0, .fieldref 11 31), (0, .nameAndType 28 23), (0, .methodref 33 34), (0, .class_ 35), (0, .nameAndType 36 37), (0, u "java/lang/Math"), (0, u "max"), (0, u "(II)I"), (0, .fieldref 11 39), (0, .nameAndType 40 41), (0, u "data"), (0, u "[I"), (0, .invokeDynamic 0 43), (0, .nameAndType 44 45), (0, u "applyAsInt"), (0, u "()Ljava/util/function/IntUnaryOperator;"), (0, .methodref 47 48), (0, .class_ 49), (0, .nameAndType 50 51), (0, u "java/util/Arrays"), (0, u "setAll"), (0, u "([ILjava/util/function/IntUnaryOperator;)V"), (0, .class_ 53), (0, u "com/example/chasebound/chasebound/chase/Relation$Index"), (0, .methodref 52 55), (0, .nameAndType 5 56), (0, u "(Lcom/example/chasebound/chasebound/chase/Relation;[IZ)V"), (0, .fieldref 11 58), (0, .nameAndType 59 60), (0, u "facts"), (0, u "Lcom/example/chasebound/chasebound/chase/Relation$Index;"), (0, .fieldref 11 62), (0, .nameAndType 63 23), (0, u "size"), (0, .fieldref 11 65), (0, .nameAndType 66 67), (0, u "removed"), (0, u "[Z"), (0, .methodref 52 69), (0, .nameAndType 70 71), (0, u "first"), (0, u "([I)I"), (4, .methodref 77 78), (0, .class_ 79), (0, .nameAndType 80 81), (0, u "java/lang/System"), (0, u "arraycopy"), (0, u "(Ljava/lang/Object;ILjava/lang/Object;II)V"), (3, .methodref 52 86), (0, .nameAndType 87 88), (0, u "add"), (0, u "(I)V"), (0, .interfaceMethodref 90 91), (0, .class_ 92), (0, .nameAndType 93 94), (0, u "java/util/List"), (0, u "iterator"), (0, u "()Ljava/util/Iterator;"), (0, .interfaceMethodref 96 97), (0, .class_ 98), (0, .nameAndType 99 100), (0, u "java/util/Iterator"), (0, u "hasNext"), (0, u "()Z"), (7, .methodref 52 109), (0, .nameAndType 110 88), (0, u "remove"), (13, u "isLive"), (0, u "(I)Z"), (5, u "(Lcom/example/chasebound/chasebound/rules/Predicate;I)V"), (4, u "get"), (0, u "([I)Z"), (2, u "lambda$new$0"), (0, u "(I)I"), (4, .methodType 141), (0, .methodHandle 6 148), (0, .methodref 11 149), (0, .nameAndType 140 141), (0, .methodHandle 6 151), (0, .methodref 152 153), (0, .class_ 154), (0, .nameAndType 155 156), (0, u "java/lang/invoke/LambdaMetafactory"), (0, u "metafactory"), (0, u "(Ljava/lang/invoke/MethodHandles$Lookup;Ljava/lang/String;Ljava/lang/invoke/MethodType;Ljava/lang/invoke/MethodType;Ljava/lang/invoke/MethodHandle;Ljava/lang/invoke/MethodType;)Ljava/lang/invoke/CallSite;")] 7

def k2c0 : Code := { maxStack := 6, maxLocals := 4, code := prog_23_method_1_code, exceptionTable := #[], attributes := #[] }
def k2m0 : Method := { name := "<init>", desc := "(Lcom/example/chasebound/chasebound/rules/Predicate;I)V", sig := { parameters := [(.object "com/example/chasebound/chasebound/rules/Predicate"), .int], returnType := none }, accessFlags := 0, code := some k2c0 }
def k2c1 : Code := { maxStack := 2, maxLocals := 2, code := prog_23_method_5_code, exceptionTable := #[], attributes := #[] }
def k2m1 : Method := { name := "isLive", desc := "(I)Z", sig := { parameters := [.int], returnType := some .boolean }, accessFlags := 0, code := some k2c1 }
def k2c2 : Code := { maxStack := 3, maxLocals := 3, code := prog_23_method_6_code, exceptionTable := #[], attributes := #[] }
def k2m2 : Method := { name := "get", desc := "(II)I", sig := { parameters := [.int, .int], returnType := some .int }, accessFlags := 0, code := some k2c2 }
def k2c3 : Code := { maxStack := 5, maxLocals := 5, code := prog_23_method_7_code, exceptionTable := #[], attributes := #[] }
def k2m3 : Method := { name := "add", desc := "([I)Z", sig := { parameters := [(.array .int)], returnType := some .boolean }, accessFlags := 0, code := some k2c3 }
def k2c4 : Code := { maxStack := 3, maxLocals := 4, code := prog_23_method_8_code, exceptionTable := #[], attributes := #[] }
def k2m4 : Method := { name := "remove", desc := "(I)V", sig := { parameters := [.int], returnType := none }, accessFlags := 0, code := some k2c4 }
def k2c5 : Code := { maxStack := 1, maxLocals := 1, code := prog_23_method_10_code, exceptionTable := #[], attributes := #[] }
def k2m5 : Method := { name := "lambda$new$0", desc := "(I)I", sig := { parameters := [.int], returnType := some .int }, accessFlags := 4106, code := some k2c5 }
/-- com/example/chasebound/chasebound/chase/Relation -/
def k2 : Class := { plain "com/example/chasebound/chasebound/chase/Relation" (some 0) with
  accessFlags := 48
  interfaces := #[]
  cf := some (fileOf pool2 11 #[.nestMembers #[52], .bootstrapMethods #[⟨150, #[146, 147, 146]⟩]] #[{ accessFlags := 0, nameIndex := 5, descriptorIndex := 131, attributes := #[] }, { accessFlags := 0, nameIndex := 124, descriptorIndex := 125, attributes := #[] }, { accessFlags := 0, nameIndex := 136, descriptorIndex := 37, attributes := #[] }, { accessFlags := 0, nameIndex := 87, descriptorIndex := 137, attributes := #[] }, { accessFlags := 0, nameIndex := 110, descriptorIndex := 88, attributes := #[] }, { accessFlags := 4106, nameIndex := 140, descriptorIndex := 141, attributes := #[] }] 48 2 #[] #[{ accessFlags := 18, nameIndex := 18, descriptorIndex := 19, attributes := #[] }, { accessFlags := 18, nameIndex := 22, descriptorIndex := 23, attributes := #[] }, { accessFlags := 18, nameIndex := 28, descriptorIndex := 23, attributes := #[] }, { accessFlags := 2, nameIndex := 40, descriptorIndex := 41, attributes := #[] }, { accessFlags := 2, nameIndex := 63, descriptorIndex := 23, attributes := #[] }, { accessFlags := 2, nameIndex := 66, descriptorIndex := 67, attributes := #[] }, { accessFlags := 18, nameIndex := 59, descriptorIndex := 60, attributes := #[] }, { accessFlags := 18, nameIndex := 14, descriptorIndex := 15, attributes := #[] }])
  fields := #[{ name := "predicate", type := (.object "com/example/chasebound/chasebound/rules/Predicate"), accessFlags := 18, slot := 0, constantValue := 0 }, { name := "number", type := .int, accessFlags := 18, slot := 1, constantValue := 0 }, { name := "arity", type := .int, accessFlags := 18, slot := 2, constantValue := 0 }, { name := "data", type := (.array .int), accessFlags := 2, slot := 3, constantValue := 0 }, { name := "size", type := .int, accessFlags := 2, slot := 4, constantValue := 0 }, { name := "removed", type := (.array .boolean), accessFlags := 2, slot := 5, constantValue := 0 }, { name := "facts", type := (.object "com/example/chasebound/chasebound/chase/Relation$Index"), accessFlags := 18, slot := 6, constantValue := 0 }, { name := "indexes", type := (.object "java/util/List"), accessFlags := 18, slot := 7, constantValue := 0 }]
  methods := #[k2m0, k2m1, k2m2, k2m3, k2m4, k2m5]
  instanceTypes := #[(.object "com/example/chasebound/chasebound/rules/Predicate"), .int, .int, (.array .int), .int, (.array .boolean), (.object "com/example/chasebound/chasebound/chase/Relation$Index"), (.object "java/util/List")]
  staticTypes := #[]
  resolved := #[none, none, none, none, none, none, none, none, none, none, none, none, none, none, none, none, none, none, none, none, none, none, none, none, none, none, none, none, none, none, none, none, none, none, none, none, none, none, none, none, none, none, none, none, none, none, none, none, none, none, none, none, some (.cls 24), none, some (.method ⟨24, 0⟩), none, none, none, none, none, none, none, none, none, none, none, none, none, none, none, none, none, none, none, none, none, none, none, none, none, none, none, none, none, none, some (.method ⟨24, 2⟩), none, none, none, none, none, none, none, none, none, none, none, none, none, none, none, none, none, none, none, none, none, none, some (.method ⟨24, 3⟩), none, none, none, none, none, none, none, none, none, none, none, none, none, none, none, none, none, none, none, none, none, none, none, none, none, none, none, none, none, none, none, none, none, none, none, none, none, none, none, none, none, none, none, none, none, none, none, none, none, none, none, none, none, none, none]
  callSites := [(0, 58, .constant 1)]
  statics := none }

def pool3 : Array CpInfo := pool [(1, .methodref 2 3), (0, .class_ 4), (0, .nameAndType 5 6), (0, u "java/lang/Object"), (0, u "<init>"), (0, u "()V"), (0, .class_ 8), (0, u "java/lang/Record")] 13

def k3c0 : Code := { maxStack := 1, maxLocals := 1, code := jdk_30_method_1_code, exceptionTable := #[], attributes := #[] }
def k3m0 : Method := { name := "<init>", desc := "()V", sig := { parameters := [], returnType := none }, accessFlags := 4, code := some k3c0 }
/-- java/lang/Record -/
def k3 : Class := { plain "java/lang/Record" (some 0) with
  accessFlags := 1057
  interfaces := #[]
  cf := some (fileOf pool3 7 #[] #[{ accessFlags := 4, nameIndex := 5, descriptorIndex := 6, attributes := #[] }] 1057 2 #[] #[])
  fields := #[]
  methods := #[k3m0]
  instanceTypes := #[]
  staticTypes := #[]
  resolved := Array.replicate 22 none
  statics := none }

def pool4 : Array CpInfo := pool [(1, .methodref 2 3), (0, .class_ 4), (0, .nameAndType 5 6), (0, u "java/lang/Record"), (0, u "<init>"), (0, u "()V"), (9, .fieldref 17 18), (0, .class_ 19), (0, .nameAndType 20 21), (0, u "com/example/chasebound/chasebound/rules/Predicate"), (0, u "name"), (0, u "Ljava/lang/String;"), (0, .fieldref 17 23), (0, .nameAndType 24 25), (0, u "arity"), (0, u "I"), (15, u "(Ljava/lang/String;I)V"), (2, u "EQUALITY"), (0, u "Lcom/example/chasebound/chasebound/rules/Predicate;"), (8, u "()I")] 33

def k4c0 : Code := { maxStack := 4, maxLocals := 3, code := prog_38_method_1_code, exceptionTable := #[], attributes := #[] }
def k4m0 : Method := { name := "<init>", desc := "(Ljava/lang/String;I)V", sig := { parameters := [(.object "java/lang/String"), .int], returnType := none }, accessFlags := 1, code := some k4c0 }
def k4c1 : Code := { maxStack := 1, maxLocals := 1, code := prog_38_method_6_code, exceptionTable := #[], attributes := #[] }
def k4m1 : Method := { name := "arity", desc := "()I", sig := { parameters := [], returnType := some .int }, accessFlags := 1, code := some k4c1 }
/-- com/example/chasebound/chasebound/rules/Predicate -/
def k4 : Class := { plain "com/example/chasebound/chasebound/rules/Predicate" (some 3) with
  accessFlags := 49
  interfaces := #[]
  cf := some (fileOf pool4 17 #[] #[{ accessFlags := 1, nameIndex := 5, descriptorIndex := 41, attributes := #[] }, { accessFlags := 1, nameIndex := 24, descriptorIndex := 54, attributes := #[] }] 49 2 #[] #[{ accessFlags := 18, nameIndex := 20, descriptorIndex := 21, attributes := #[] }, { accessFlags := 18, nameIndex := 24, descriptorIndex := 25, attributes := #[] }, { accessFlags := 25, nameIndex := 44, descriptorIndex := 45, attributes := #[] }])
  fields := #[{ name := "name", type := (.object "java/lang/String"), accessFlags := 18, slot := 0, constantValue := 0 }, { name := "arity", type := .int, accessFlags := 18, slot := 1, constantValue := 0 }, { name := "EQUALITY", type := (.object "com/example/chasebound/chasebound/rules/Predicate"), accessFlags := 25, slot := 0, constantValue := 0 }]
  methods := #[k4m0, k4m1]
  instanceTypes := #[(.object "java/lang/String"), .int]
  staticTypes := #[(.object "com/example/chasebound/chasebound/rules/Predicate")]
  resolved := Array.replicate 88 none
  statics := none }

def pool5 : Array CpInfo := pool [(1, .class_ 2), (0, u "java/io/Serializable"), (0, .class_ 4), (0, u "java/lang/Object")] 2

/-- java/io/Serializable -/
def k5 : Class := { plain "java/io/Serializable" (some 0) with
  accessFlags := 1537
  interfaces := #[]
  cf := some (fileOf pool5 1 #[] #[] 1537 3 #[] #[])
  fields := #[]
  methods := #[]
  instanceTypes := #[]
  staticTypes := #[]
  resolved := Array.replicate 7 none
  statics := none }

def pool6 : Array CpInfo := pool [(1, .class_ 2), (0, u "java/lang/Comparable"), (0, .class_ 4), (0, u "java/lang/Object")] 7

/-- java/lang/Comparable -/
def k6 : Class := { plain "java/lang/Comparable" (some 0) with
  accessFlags := 1537
  interfaces := #[]
  cf := some (fileOf pool6 1 #[] #[] 1537 3 #[] #[])
  fields := #[]
  methods := #[]
  instanceTypes := #[]
  staticTypes := #[]
  resolved := Array.replicate 12 none
  statics := none }

def pool7 : Array CpInfo := pool [(2, .class_ 4), (1, u "java/lang/CharSequence"), (42, .class_ 48), (0, u "java/lang/CharSequence$1CodePointIterator"), (10, .class_ 60), (0, u "java/lang/CharSequence$1CharIterator"), (5, .class_ 67), (0, u "java/lang/Object")] 63

/-- java/lang/CharSequence -/
def k7 : Class := { plain "java/lang/CharSequence" (some 0) with
  accessFlags := 1537
  interfaces := #[]
  cf := some (fileOf pool7 2 #[.nestMembers #[47, 59]] #[] 1537 66 #[] #[])
  fields := #[]
  methods := #[]
  instanceTypes := #[]
  staticTypes := #[]
  resolved := Array.replicate 131 none
  statics := none }

def pool8 : Array CpInfo := pool [(1, .class_ 2), (0, u "java/lang/constant/Constable"), (0, .class_ 4), (0, u "java/lang/Object")] 6

/-- java/lang/constant/Constable -/
def k8 : Class := { plain "java/lang/constant/Constable" (some 0) with
  accessFlags := 1537
  interfaces := #[]
  cf := some (fileOf pool8 1 #[] #[] 1537 3 #[] #[])
  fields := #[]
  methods := #[]
  instanceTypes := #[]
  staticTypes := #[]
  resolved := Array.replicate 11 none
  statics := none }

def pool9 : Array CpInfo := pool [(1, .class_ 2), (0, u "java/lang/constant/ConstantDesc"), (0, .class_ 4), (0, u "java/lang/Object")] 32

/-- java/lang/constant/ConstantDesc -/
def k9 : Class := { plain "java/lang/constant/ConstantDesc" (some 0) with
  accessFlags := 1537
  interfaces := #[]
  cf := some (fileOf pool9 1 #[] #[] 1537 3 #[] #[])
  fields := #[]
  methods := #[]
  instanceTypes := #[]
  staticTypes := #[]
  resolved := Array.replicate 37 none
  statics := none }

def pool10 : Array CpInfo := pool [(2, .class_ 4), (1, u "java/lang/Object"), (0, u "<init>"), (0, u "()V"), (3, .class_ 12), (1, u "java/lang/String"), (0, u "value"), (0, u "[B"), (2, u "coder"), (0, u "B"), (2, u "hash"), (0, u "I"), (2, u "hashIsZero"), (0, u "Z"), (13, u "COMPACT_STRINGS"), (534, .class_ 576), (0, u "java/lang/CharSequence"), (22, u "CASE_INSENSITIVE_ORDER"), (0, u "Ljava/util/Comparator;"), (500, u "serialPersistentFields"), (0, u "[Ljava/io/ObjectStreamField;"), (0, .class_ 1104), (0, u "java/lang/String$CaseInsensitiveComparator"), (1, .class_ 1107), (0, u "java/io/Serializable"), (0, .class_ 1109), (0, u "java/lang/Comparable"), (0, .class_ 1111), (0, u "java/lang/constant/Constable"), (0, .class_ 1113), (0, u "java/lang/constant/ConstantDesc"), (2, u "serialVersionUID"), (0, u "J"), (3, u "REPL"), (0, u "C"), (2, u "LATIN1"), (1, u "UTF16")] 323

def k10m0 : Method := { name := "<init>", desc := "()V", sig := { parameters := [], returnType := none }, accessFlags := 1, code := none }
/-- java/lang/String -/
def k10 : Class := { plain "java/lang/String" (some 0) with
  accessFlags := 49
  interfaces := #[5, 6, 7, 8, 9]
  cf := some (fileOf pool10 10 #[.nestMembers #[1103]] #[{ accessFlags := 1, nameIndex := 5, descriptorIndex := 6, attributes := #[] }] 49 2 #[1106, 1108, 575, 1110, 1112] #[{ accessFlags := 18, nameIndex := 13, descriptorIndex := 14, attributes := #[] }, { accessFlags := 18, nameIndex := 17, descriptorIndex := 18, attributes := #[] }, { accessFlags := 2, nameIndex := 21, descriptorIndex := 22, attributes := #[] }, { accessFlags := 2, nameIndex := 25, descriptorIndex := 26, attributes := #[] }, { accessFlags := 26, nameIndex := 1116, descriptorIndex := 1117, attributes := #[] }, { accessFlags := 24, nameIndex := 40, descriptorIndex := 26, attributes := #[] }, { accessFlags := 26, nameIndex := 1101, descriptorIndex := 1102, attributes := #[] }, { accessFlags := 26, nameIndex := 1121, descriptorIndex := 1122, attributes := #[] }, { accessFlags := 25, nameIndex := 599, descriptorIndex := 600, attributes := #[] }, { accessFlags := 24, nameIndex := 1125, descriptorIndex := 18, attributes := #[] }, { accessFlags := 24, nameIndex := 1127, descriptorIndex := 18, attributes := #[] }])
  fields := #[{ name := "value", type := (.array .byte), accessFlags := 18, slot := 0, constantValue := 0 }, { name := "coder", type := .byte, accessFlags := 18, slot := 1, constantValue := 0 }, { name := "hash", type := .int, accessFlags := 2, slot := 2, constantValue := 0 }, { name := "hashIsZero", type := .boolean, accessFlags := 2, slot := 3, constantValue := 0 }, { name := "serialVersionUID", type := .long, accessFlags := 26, slot := 0, constantValue := 0 }, { name := "COMPACT_STRINGS", type := .boolean, accessFlags := 24, slot := 1, constantValue := 0 }, { name := "serialPersistentFields", type := (.array (.object "java/io/ObjectStreamField")), accessFlags := 26, slot := 2, constantValue := 0 }, { name := "REPL", type := .char, accessFlags := 26, slot := 3, constantValue := 0 }, { name := "CASE_INSENSITIVE_ORDER", type := (.object "java/util/Comparator"), accessFlags := 25, slot := 4, constantValue := 0 }, { name := "LATIN1", type := .byte, accessFlags := 24, slot := 5, constantValue := 0 }, { name := "UTF16", type := .byte, accessFlags := 24, slot := 6, constantValue := 0 }]
  methods := #[k10m0]
  instanceTypes := #[(.array .byte), .byte, .int, .boolean]
  staticTypes := #[.long, .boolean, (.array (.object "java/io/ObjectStreamField")), .char, (.object "java/util/Comparator"), .byte, .byte]
  resolved := Array.replicate 1451 none
  statics := none }

def pool11 : Array CpInfo := pool [(8, .class_ 10), (1, u "java/lang/Iterable"), (24, .class_ 36), (0, u "java/lang/Object")] 25

/-- java/lang/Iterable -/
def k11 : Class := { plain "java/lang/Iterable" (some 0) with
  accessFlags := 1537
  interfaces := #[]
  cf := some (fileOf pool11 8 #[] #[] 1537 35 #[] #[])
  fields := #[]
  methods := #[]
  instanceTypes := #[]
  staticTypes := #[]
  resolved := Array.replicate 62 none
  statics := none }

def pool12 : Array CpInfo := pool [(10, .class_ 12), (1, u "java/util/Collection"), (47, .class_ 61), (0, u "java/lang/Object"), (0, .class_ 63), (0, u "java/lang/Iterable")] 51

/-- java/util/Collection -/
def k12 : Class := { plain "java/util/Collection" (some 0) with
  accessFlags := 1537
  interfaces := #[11]
  cf := some (fileOf pool12 10 #[] #[] 1537 60 #[62] #[])
  fields := #[]
  methods := #[]
  instanceTypes := #[]
  staticTypes := #[]
  resolved := Array.replicate 115 none
  statics := none }

def pool13 : Array CpInfo := pool [(1, .methodref 2 3), (0, .class_ 4), (0, .nameAndType 5 6), (0, u "java/lang/Object"), (0, u "<init>"), (0, u "()V"), (1, .class_ 10), (1, u "java/util/AbstractCollection"), (66, .class_ 78), (0, u "java/util/Collection")] 81

def k13c0 : Code := { maxStack := 1, maxLocals := 1, code := jdk_22_method_1_code, exceptionTable := #[], attributes := #[] }
def k13m0 : Method := { name := "<init>", desc := "()V", sig := { parameters := [], returnType := none }, accessFlags := 4, code := some k13c0 }
/-- java/util/AbstractCollection -/
def k13 : Class := { plain "java/util/AbstractCollection" (some 0) with
  accessFlags := 1057
  interfaces := #[12]
  cf := some (fileOf pool13 8 #[] #[{ accessFlags := 4, nameIndex := 5, descriptorIndex := 6, attributes := #[] }] 1057 2 #[77] #[])
  fields := #[]
  methods := #[k13m0]
  instanceTypes := #[]
  staticTypes := #[]
  resolved := Array.replicate 160 none
  statics := none }

def pool14 : Array CpInfo := pool [(8, .class_ 10), (1, u "java/util/SequencedCollection"), (15, .class_ 27), (0, u "java/lang/Object"), (0, .class_ 29), (0, u "java/util/Collection")] 27

/-- java/util/SequencedCollection -/
def k14 : Class := { plain "java/util/SequencedCollection" (some 0) with
  accessFlags := 1537
  interfaces := #[12]
  cf := some (fileOf pool14 8 #[] #[] 1537 26 #[28] #[])
  fields := #[]
  methods := #[]
  instanceTypes := #[]
  staticTypes := #[]
  resolved := Array.replicate 57 none
  statics := none }

def pool15 : Array CpInfo := pool [(8, .class_ 10), (1, u "java/util/List"), (92, .class_ 104), (0, u "java/lang/Object"), (15, .class_ 121), (0, u "java/util/SequencedCollection"), (1, u "iterator"), (0, u "()Ljava/util/Iterator;")] 126

def k15m0 : Method := { name := "iterator", desc := "()Ljava/util/Iterator;", sig := { parameters := [], returnType := some (.object "java/util/Iterator") }, accessFlags := 1025, code := none }
/-- java/util/List -/
def k15 : Class := { plain "java/util/List" (some 0) with
  accessFlags := 1537
  interfaces := #[14]
  cf := some (fileOf pool15 8 #[] #[{ accessFlags := 1025, nameIndex := 123, descriptorIndex := 124, attributes := #[] }] 1537 103 #[120] #[])
  fields := #[]
  methods := #[k15m0]
  instanceTypes := #[]
  staticTypes := #[]
  resolved := Array.replicate 251 none
  statics := none }

def pool16 : Array CpInfo := pool [(1, .methodref 2 3), (0, .class_ 4), (0, .nameAndType 5 6), (0, u "java/util/AbstractCollection"), (0, u "<init>"), (0, u "()V"), (0, .fieldref 8 9), (0, .class_ 10), (0, .nameAndType 11 12), (0, u "java/util/AbstractList"), (0, u "modCount"), (0, u "I"), (64, .class_ 78), (0, u "java/util/AbstractList$Itr"), (3, .class_ 83), (0, u "java/util/AbstractList$ListItr"), (9, .class_ 94), (0, u "java/util/AbstractList$RandomAccessSubList"), (3, .class_ 99), (0, u "java/util/AbstractList$SubList"), (33, .class_ 134), (0, u "java/util/List"), (73, .class_ 209), (0, u "java/util/AbstractList$SubList$1"), (0, .class_ 211), (0, u "java/util/AbstractList$RandomAccessSpliterator")] 6

def k16c0 : Code := { maxStack := 2, maxLocals := 1, code := jdk_39_method_1_code, exceptionTable := #[], attributes := #[] }
def k16m0 : Method := { name := "<init>", desc := "()V", sig := { parameters := [], returnType := none }, accessFlags := 4, code := some k16c0 }
/-- java/util/AbstractList -/
def k16 : Class := { plain "java/util/AbstractList" (some 13) with
  accessFlags := 1057
  interfaces := #[15]
  cf := some (fileOf pool16 8 #[.nestMembers #[93, 98, 208, 210, 82, 77]] #[{ accessFlags := 4, nameIndex := 5, descriptorIndex := 6, attributes := #[] }] 1057 2 #[133] #[{ accessFlags := 132, nameIndex := 11, descriptorIndex := 12, attributes := #[] }])
  fields := #[{ name := "modCount", type := .int, accessFlags := 132, slot := 0, constantValue := 0 }]
  methods := #[k16m0]
  instanceTypes := #[.int]
  staticTypes := #[]
  resolved := Array.replicate 218 none
  statics := none }

def pool17 : Array CpInfo := pool [(1, .class_ 2), (0, u "java/util/RandomAccess"), (0, .class_ 4), (0, u "java/lang/Object")] 2

/-- java/util/RandomAccess -/
def k17 : Class := { plain "java/util/RandomAccess" (some 0) with
  accessFlags := 1537
  interfaces := #[]
  cf := some (fileOf pool17 1 #[] #[] 1537 3 #[] #[])
  fields := #[]
  methods := #[]
  instanceTypes := #[]
  staticTypes := #[]
  resolved := Array.replicate 7 none
  statics := none }

def pool18 : Array CpInfo := pool [(1, .class_ 2), (0, u "java/lang/Cloneable"), (0, .class_ 4), (0, u "java/lang/Object")] 2

/-- java/lang/Cloneable -/
def k18 : Class := { plain "java/lang/Cloneable" (some 0) with
  accessFlags := 1537
  interfaces := #[]
  cf := some (fileOf pool18 1 #[] #[] 1537 3 #[] #[])
  fields := #[]
  methods := #[]
  instanceTypes := #[]
  staticTypes := #[]
  resolved := Array.replicate 7 none
  statics := none }

def pool19 : Array CpInfo := pool [(1, .methodref 2 3), (0, .class_ 4), (0, .nameAndType 5 6), (0, u "java/util/AbstractList"), (0, u "<init>"), (0, u "()V"), (2, .fieldref 10 11), (0, .class_ 12), (0, .nameAndType 13 14), (0, u "java/util/ArrayList"), (0, u "elementData"), (0, u "[Ljava/lang/Object;"), (2, u "EMPTY_ELEMENTDATA"), (21, .fieldref 10 40), (0, .nameAndType 41 14), (0, u "DEFAULTCAPACITY_EMPTY_ELEMENTDATA"), (8, u "size"), (0, u "I"), (96, .class_ 149), (0, u "java/util/List"), (16, u "iterator"), (0, u "()Ljava/util/Iterator;"), (94, .class_ 263), (0, u "java/util/ArrayList$ListItr"), (3, .class_ 268), (0, u "java/util/ArrayList$Itr"), (0, .methodref 267 270), (0, .nameAndType 5 271), (0, u "(Ljava/util/ArrayList;)V"), (4, .class_ 277), (0, u "java/util/ArrayList$SubList"), (12, .class_ 291), (0, u "java/util/ArrayList$ArrayListSpliterator"), (37, .class_ 330), (0, u "java/util/RandomAccess"), (0, .class_ 332), (0, u "java/lang/Cloneable"), (0, .class_ 334), (0, u "java/io/Serializable"), (0, u "serialVersionUID"), (0, u "J"), (3, u "DEFAULT_CAPACITY"), (159, .class_ 501), (0, u "java/util/ArrayList$SubList$2"), (0, .class_ 503), (0, u "java/util/ArrayList$SubList$1")] 5

def k19c0 : Code := { maxStack := 2, maxLocals := 1, code := jdk_38_method_2_code, exceptionTable := #[], attributes := #[] }
def k19m0 : Method := { name := "<init>", desc := "()V", sig := { parameters := [], returnType := none }, accessFlags := 1, code := some k19c0 }
def k19c1 : Code := { maxStack := 3, maxLocals := 1, code := jdk_38_method_55_code, exceptionTable := #[], attributes := #[] }
def k19m1 : Method := { name := "iterator", desc := "()Ljava/util/Iterator;", sig := { parameters := [], returnType := some (.object "java/util/Iterator") }, accessFlags := 1, code := some k19c1 }
/-- java/util/ArrayList -/
def k19 : Class := { plain "java/util/ArrayList" (some 16) with
  accessFlags := 33
  interfaces := #[15, 17, 18, 5]
  cf := some (fileOf pool19 10 #[.nestMembers #[290, 276, 500, 502, 262, 267]] #[{ accessFlags := 1, nameIndex := 5, descriptorIndex := 6, attributes := #[] }, { accessFlags := 1, nameIndex := 166, descriptorIndex := 167, attributes := #[] }] 33 2 #[148, 329, 331, 333] #[{ accessFlags := 26, nameIndex := 335, descriptorIndex := 336, attributes := #[] }, { accessFlags := 26, nameIndex := 340, descriptorIndex := 51, attributes := #[] }, { accessFlags := 26, nameIndex := 17, descriptorIndex := 14, attributes := #[] }, { accessFlags := 26, nameIndex := 41, descriptorIndex := 14, attributes := #[] }, { accessFlags := 128, nameIndex := 13, descriptorIndex := 14, attributes := #[] }, { accessFlags := 2, nameIndex := 50, descriptorIndex := 51, attributes := #[] }])
  fields := #[{ name := "serialVersionUID", type := .long, accessFlags := 26, slot := 0, constantValue := 0 }, { name := "DEFAULT_CAPACITY", type := .int, accessFlags := 26, slot := 1, constantValue := 0 }, { name := "EMPTY_ELEMENTDATA", type := (.array (.object "java/lang/Object")), accessFlags := 26, slot := 2, constantValue := 0 }, { name := "DEFAULTCAPACITY_EMPTY_ELEMENTDATA", type := (.array (.object "java/lang/Object")), accessFlags := 26, slot := 3, constantValue := 0 }, { name := "elementData", type := (.array (.object "java/lang/Object")), accessFlags := 128, slot := 1, constantValue := 0 }, { name := "size", type := .int, accessFlags := 2, slot := 2, constantValue := 0 }]
  methods := #[k19m0, k19m1]
  instanceTypes := #[.int, (.array (.object "java/lang/Object")), .int]
  staticTypes := #[.long, .int, (.array (.object "java/lang/Object")), (.array (.object "java/lang/Object"))]
  resolved := Array.replicate 509 none
  statics := some 0 }

def pool20 : Array CpInfo := pool [(1, .class_ 2), (0, u "java/lang/Math"), (1, .class_ 6), (1, u "java/lang/Object"), (0, u "<init>"), (0, u "()V"), (89, .class_ 100), (1, u "java/lang/Math$RandomNumberGeneratorHolder"), (71, u "negativeZeroFloatBits"), (0, u "J"), (2, u "negativeZeroDoubleBits"), (21, u "max"), (46, u "$assertionsDisabled"), (0, u "Z"), (88, u "(II)I"), (2, u "twoToTheDoubleScaleDown"), (0, u "D"), (4, u "twoToTheDoubleScaleUp"), (9, u "E"), (3, u "PI"), (2, u "TAU"), (2, u "DEGREES_TO_RADIANS"), (0, u "RADIANS_TO_DEGREES")] 94

def k20m0 : Method := { name := "<init>", desc := "()V", sig := { parameters := [], returnType := none }, accessFlags := 2, code := none }
def k20c1 : Code := { maxStack := 2, maxLocals := 2, code := jdk_29_method_65_code, exceptionTable := #[], attributes := #[] }
def k20m1 : Method := { name := "max", desc := "(II)I", sig := { parameters := [.int, .int], returnType := some .int }, accessFlags := 9, code := some k20c1 }
/-- java/lang/Math -/
def k20 : Class := { plain "java/lang/Math" (some 0) with
  accessFlags := 49
  interfaces := #[]
  cf := some (fileOf pool20 1 #[.nestMembers #[98]] #[{ accessFlags := 2, nameIndex := 7, descriptorIndex := 8, attributes := #[] }, { accessFlags := 9, nameIndex := 198, descriptorIndex := 335, attributes := #[] }] 49 4 #[] #[{ accessFlags := 25, nameIndex := 354, descriptorIndex := 339, attributes := #[] }, { accessFlags := 25, nameIndex := 358, descriptorIndex := 339, attributes := #[] }, { accessFlags := 25, nameIndex := 361, descriptorIndex := 339, attributes := #[] }, { accessFlags := 26, nameIndex := 364, descriptorIndex := 339, attributes := #[] }, { accessFlags := 26, nameIndex := 365, descriptorIndex := 339, attributes := #[] }, { accessFlags := 26, nameIndex := 172, descriptorIndex := 173, attributes := #[] }, { accessFlags := 26, nameIndex := 176, descriptorIndex := 173, attributes := #[] }, { accessFlags := 8, nameIndex := 344, descriptorIndex := 339, attributes := #[] }, { accessFlags := 8, nameIndex := 338, descriptorIndex := 339, attributes := #[] }, { accessFlags := 4120, nameIndex := 245, descriptorIndex := 246, attributes := #[] }])
  fields := #[{ name := "E", type := .double, accessFlags := 25, slot := 0, constantValue := 0 }, { name := "PI", type := .double, accessFlags := 25, slot := 1, constantValue := 0 }, { name := "TAU", type := .double, accessFlags := 25, slot := 2, constantValue := 0 }, { name := "DEGREES_TO_RADIANS", type := .double, accessFlags := 26, slot := 3, constantValue := 0 }, { name := "RADIANS_TO_DEGREES", type := .double, accessFlags := 26, slot := 4, constantValue := 0 }, { name := "negativeZeroFloatBits", type := .long, accessFlags := 26, slot := 5, constantValue := 0 }, { name := "negativeZeroDoubleBits", type := .long, accessFlags := 26, slot := 6, constantValue := 0 }, { name := "twoToTheDoubleScaleUp", type := .double, accessFlags := 8, slot := 7, constantValue := 0 }, { name := "twoToTheDoubleScaleDown", type := .double, accessFlags := 8, slot := 8, constantValue := 0 }, { name := "$assertionsDisabled", type := .boolean, accessFlags := 4120, slot := 9, constantValue := 0 }]
  methods := #[k20m0, k20m1]
  instanceTypes := #[]
  staticTypes := #[.double, .double, .double, .double, .double, .long, .long, .double, .double, .boolean]
  resolved := Array.replicate 460 none
  statics := none }

def pool21 : Array CpInfo := pool [(9, u "applyAsInt"), (6, .class_ 18), (1, u "java/util/function/IntUnaryOperator"), (0, u "(I)I"), (0, .class_ 21), (0, u "java/lang/Object")] 46

def k21m0 : Method := { name := "applyAsInt", desc := "(I)I", sig := { parameters := [.int], returnType := some .int }, accessFlags := 1025, code := none }
/-- java/util/function/IntUnaryOperator -/
def k21 : Class := { plain "java/util/function/IntUnaryOperator" (some 0) with
  accessFlags := 1537
  interfaces := #[]
  cf := some (fileOf pool21 16 #[] #[{ accessFlags := 1025, nameIndex := 9, descriptorIndex := 19, attributes := #[] }] 1537 20 #[] #[])
  fields := #[]
  methods := #[k21m0]
  instanceTypes := #[]
  staticTypes := #[]
  resolved := Array.replicate 68 none
  statics := none }

def pool22 : Array CpInfo := pool [(2, .class_ 4), (1, u "java/lang/Object"), (0, u "<init>"), (0, u "()V"), (7, .class_ 16), (1, u "java/util/Arrays"), (57, .class_ 76), (1, u "java/util/Arrays$NaturalOrder"), (36, .class_ 115), (1, u "java/util/Arrays$LegacyMergeSort"), (1, u "Z"), (57, .methodref 176 177), (0, .class_ 178), (0, .nameAndType 179 180), (0, u "java/util/Objects"), (0, u "requireNonNull"), (0, u "(Ljava/lang/Object;)Ljava/lang/Object;"), (194, .class_ 376), (0, u "java/util/Arrays$ArrayList"), (68, u "$assertionsDisabled"), (136, .interfaceMethodref 583 584), (0, .class_ 585), (0, .nameAndType 586 587), (0, u "java/util/function/IntUnaryOperator"), (0, u "applyAsInt"), (0, u "(I)I"), (127, u "MIN_ARRAY_SORT_GRAN"), (0, u "I"), (2, u "INSERTIONSORT_THRESHOLD"), (187, u "setAll"), (6, u "([ILjava/util/function/IntUnaryOperator;)V"), (60, .class_ 976), (0, u "java/util/Arrays$ArrayItr")] 52

def k22m0 : Method := { name := "<init>", desc := "()V", sig := { parameters := [], returnType := none }, accessFlags := 2, code := none }
def k22c1 : Code := { maxStack := 4, maxLocals := 3, code := jdk_65_method_175_code, exceptionTable := #[], attributes := #[] }
def k22m1 : Method := { name := "setAll", desc := "([ILjava/util/function/IntUnaryOperator;)V", sig := { parameters := [(.array .int), (.object "java/util/function/IntUnaryOperator")], returnType := none }, accessFlags := 9, code := some k22c1 }
/-- java/util/Arrays -/
def k22 : Class := { plain "java/util/Arrays" (some 0) with
  accessFlags := 49
  interfaces := #[]
  cf := some (fileOf pool22 14 #[.nestMembers #[975, 375, 113, 74]] #[{ accessFlags := 2, nameIndex := 5, descriptorIndex := 6, attributes := #[] }, { accessFlags := 9, nameIndex := 907, descriptorIndex := 914, attributes := #[] }] 49 2 #[] #[{ accessFlags := 26, nameIndex := 715, descriptorIndex := 716, attributes := #[] }, { accessFlags := 26, nameIndex := 719, descriptorIndex := 716, attributes := #[] }, { accessFlags := 4120, nameIndex := 445, descriptorIndex := 117, attributes := #[] }])
  fields := #[{ name := "MIN_ARRAY_SORT_GRAN", type := .int, accessFlags := 26, slot := 0, constantValue := 0 }, { name := "INSERTIONSORT_THRESHOLD", type := .int, accessFlags := 26, slot := 1, constantValue := 0 }, { name := "$assertionsDisabled", type := .boolean, accessFlags := 4120, slot := 2, constantValue := 0 }]
  methods := #[k22m0, k22m1]
  instanceTypes := #[]
  staticTypes := #[.int, .int, .boolean]
  resolved := Array.replicate 1029 none
  statics := none }

def pool23 : Array CpInfo := pool [(2, .class_ 4), (1, u "java/lang/Object"), (0, u "<init>"), (0, u "()V"), (35, .class_ 44), (1, u "java/util/Objects"), (0, u "requireNonNull"), (0, u "(Ljava/lang/Object;)Ljava/lang/Object;")] 137

def k23m0 : Method := { name := "<init>", desc := "()V", sig := { parameters := [], returnType := none }, accessFlags := 2, code := none }
def k23c1 : Code := { maxStack := 2, maxLocals := 1, code := jdk_31_method_10_code, exceptionTable := #[], attributes := #[] }
def k23m1 : Method := { name := "requireNonNull", desc := "(Ljava/lang/Object;)Ljava/lang/Object;", sig := { parameters := [(.object "java/lang/Object")], returnType := some (.object "java/lang/Object") }, accessFlags := 9, code := some k23c1 }
/-- java/util/Objects -/
def k23 : Class := { plain "java/util/Objects" (some 0) with
  accessFlags := 49
  interfaces := #[]
  cf := some (fileOf pool23 42 #[] #[{ accessFlags := 2, nameIndex := 5, descriptorIndex := 6, attributes := #[] }, { accessFlags := 9, nameIndex := 45, descriptorIndex := 46, attributes := #[] }] 49 2 #[] #[])
  fields := #[]
  methods := #[k23m0, k23m1]
  instanceTypes := #[]
  staticTypes := #[]
  resolved := Array.replicate 184 none
  statics := none }

def pool24 : Array CpInfo := pool [(1, .fieldref 2 3), (0, .class_ 4), (0, .nameAndType 5 6), (0, u "com/example/chasebound/chasebound/chase/Relation$Index"), (0, u "this$0"), (0, u "Lcom/example/chasebound/chasebound/chase/Relation;"), (0, .methodref 8 9), (0, .class_ 10), (0, .nameAndType 11 12), (0, u "java/lang/Object"), (0, u "<init>"), (0, u "()V"), (0, .fieldref 2 14), (0, .nameAndType 15 16), (0, u "firsts"), (0, u "[I"), (0, .fieldref 2 18), (0, .nameAndType 19 16), (0, u "lasts"), (0, .fieldref 2 21), (0, .nameAndType 22 16), (0, u "positions"), (0, .fieldref 2 24), (0, .nameAndType 25 16), (0, u "next"), (0, .fieldref 2 27), (0, .nameAndType 28 16), (0, u "rowKey"), (0, .methodref 2 30), (0, .nameAndType 31 32), (0, u "hash"), (0, u "([I)I"), (0, .methodref 2 34), (0, .nameAndType 35 36), (0, u "hasKey"), (0, u "(I[I)Z"), (0, .methodref 2 38), (0, .nameAndType 39 40), (0, u "keyOf"), (0, u "(I)[I"), (0, .methodref 42 43), (0, .class_ 44), (0, .nameAndType 45 46), (0, u "java/lang/Math"), (0, u "max"), (0, u "(II)I"), (6, .fieldref 2 54), (0, .nameAndType 55 16), (0, u "previous"), (0, .fieldref 2 57), (0, .nameAndType 58 59), (0, u "keys"), (0, u "I"), (3, .methodref 2 64), (0, .nameAndType 65 66), (0, u "removeKey"), (0, u "(I)V"), (0, .methodref 68 69), (0, .class_ 70), (0, .nameAndType 71 46), (0, u "com/example/chasebound/chasebound/chase/Relation"), (0, u "get"), (0, .integer 2654435761), (0, .methodref 74 75), (0, .class_ 76), (0, .nameAndType 77 78), (0, u "com/example/chasebound/chasebound/chase/Hashing"), (0, u "mix"), (0, u "(I)I"), (0, u "(Lcom/example/chasebound/chasebound/chase/Relation;[IZ)V"), (5, u "first"), (0, u "add"), (1, u "remove")] 5

def k24c0 : Code := { maxStack := 2, maxLocals := 4, code := prog_24_method_1_code, exceptionTable := #[], attributes := #[] }
def k24m0 : Method := { name := "<init>", desc := "(Lcom/example/chasebound/chasebound/chase/Relation;[IZ)V", sig := { parameters := [(.object "com/example/chasebound/chasebound/chase/Relation"), (.array .int), .boolean], returnType := none }, accessFlags := 2, code := some k24c0 }
def k24c1 : Code := { maxStack := 3, maxLocals := 5, code := prog_24_method_2_code, exceptionTable := #[], attributes := #[] }
def k24m1 : Method := { name := "first", desc := "([I)I", sig := { parameters := [(.array .int)], returnType := some .int }, accessFlags := 0, code := some k24c1 }
def k24c2 : Code := { maxStack := 5, maxLocals := 4, code := prog_24_method_4_code, exceptionTable := #[], attributes := #[] }
def k24m2 : Method := { name := "add", desc := "(I)V", sig := { parameters := [.int], returnType := none }, accessFlags := 2, code := some k24c2 }
def k24c3 : Code := { maxStack := 4, maxLocals := 6, code := prog_24_method_6_code, exceptionTable := #[], attributes := #[] }
def k24m3 : Method := { name := "remove", desc := "(I)V", sig := { parameters := [.int], returnType := none }, accessFlags := 2, code := some k24c3 }
def k24c4 : Code := { maxStack := 4, maxLocals := 6, code := prog_24_method_7_code, exceptionTable := #[], attributes := #[] }
def k24m4 : Method := { name := "removeKey", desc := "(I)V", sig := { parameters := [.int], returnType := none }, accessFlags := 2, code := some k24c4 }
def k24c5 : Code := { maxStack := 4, maxLocals := 4, code := prog_24_method_9_code, exceptionTable := #[], attributes := #[] }
def k24m5 : Method := { name := "hasKey", desc := "(I[I)Z", sig := { parameters := [.int, (.array .int)], returnType := some .boolean }, accessFlags := 2, code := some k24c5 }
def k24c6 : Code := { maxStack := 6, maxLocals := 3, code := prog_24_method_10_code, exceptionTable := #[], attributes := #[] }
def k24m6 : Method := { name := "keyOf", desc := "(I)[I", sig := { parameters := [.int], returnType := some (.array .int) }, accessFlags := 2, code := some k24c6 }
def k24c7 : Code := { maxStack := 2, maxLocals := 6, code := prog_24_method_11_code, exceptionTable := #[], attributes := #[] }
def k24m7 : Method := { name := "hash", desc := "([I)I", sig := { parameters := [(.array .int)], returnType := some .int }, accessFlags := 10, code := some k24c7 }
/-- com/example/chasebound/chasebound/chase/Relation$Index -/
def k24 : Class := { plain "com/example/chasebound/chasebound/chase/Relation$Index" (some 0) with
  accessFlags := 48
  interfaces := #[]
  cf := some (fileOf pool24 2 #[.nestHost 68] #[{ accessFlags := 2, nameIndex := 11, descriptorIndex := 79, attributes := #[] }, { accessFlags := 0, nameIndex := 85, descriptorIndex := 32, attributes := #[] }, { accessFlags := 2, nameIndex := 86, descriptorIndex := 66, attributes := #[] }, { accessFlags := 2, nameIndex := 88, descriptorIndex := 66, attributes := #[] }, { accessFlags := 2, nameIndex := 65, descriptorIndex := 66, attributes := #[] }, { accessFlags := 2, nameIndex := 35, descriptorIndex := 36, attributes := #[] }, { accessFlags := 2, nameIndex := 39, descriptorIndex := 40, attributes := #[] }, { accessFlags := 10, nameIndex := 31, descriptorIndex := 32, attributes := #[] }] 48 8 #[] #[{ accessFlags := 18, nameIndex := 22, descriptorIndex := 16, attributes := #[] }, { accessFlags := 2, nameIndex := 15, descriptorIndex := 16, attributes := #[] }, { accessFlags := 2, nameIndex := 19, descriptorIndex := 16, attributes := #[] }, { accessFlags := 2, nameIndex := 25, descriptorIndex := 16, attributes := #[] }, { accessFlags := 2, nameIndex := 55, descriptorIndex := 16, attributes := #[] }, { accessFlags := 2, nameIndex := 58, descriptorIndex := 59, attributes := #[] }, { accessFlags := 18, nameIndex := 28, descriptorIndex := 16, attributes := #[] }, { accessFlags := 4112, nameIndex := 5, descriptorIndex := 6, attributes := #[] }])
  fields := #[{ name := "positions", type := (.array .int), accessFlags := 18, slot := 0, constantValue := 0 }, { name := "firsts", type := (.array .int), accessFlags := 2, slot := 1, constantValue := 0 }, { name := "lasts", type := (.array .int), accessFlags := 2, slot := 2, constantValue := 0 }, { name := "next", type := (.array .int), accessFlags := 2, slot := 3, constantValue := 0 }, { name := "previous", type := (.array .int), accessFlags := 2, slot := 4, constantValue := 0 }, { name := "keys", type := .int, accessFlags := 2, slot := 5, constantValue := 0 }, { name := "rowKey", type := (.array .int), accessFlags := 18, slot := 6, constantValue := 0 }, { name := "this$0", type := (.object "com/example/chasebound/chasebound/chase/Relation"), accessFlags := 4112, slot := 7, constantValue := 0 }]
  methods := #[k24m0, k24m1, k24m2, k24m3, k24m4, k24m5, k24m6, k24m7]
  instanceTypes := #[(.array .int), (.array .int), (.array .int), (.array .int), (.array .int), .int, (.array .int), (.object "com/example/chasebound/chasebound/chase/Relation")]
  staticTypes := #[]
  resolved := Array.replicate 94 none
  statics := none }

def pool25 : Array CpInfo := pool [(2, .class_ 4), (1, u "java/lang/Object"), (0, u "<init>"), (0, u "()V"), (0, .integer 2246822507), (0, .integer 3266489909), (0, .class_ 10), (0, u "com/example/chasebound/chasebound/chase/Hashing"), (2, u "mix"), (0, u "(I)I")] 2

def k25m0 : Method := { name := "<init>", desc := "()V", sig := { parameters := [], returnType := none }, accessFlags := 2, code := none }
def k25c1 : Code := { maxStack := 3, maxLocals := 2, code := prog_17_method_2_code, exceptionTable := #[], attributes := #[] }
def k25m1 : Method := { name := "mix", desc := "(I)I", sig := { parameters := [.int], returnType := some .int }, accessFlags := 8, code := some k25c1 }
/-- com/example/chasebound/chasebound/chase/Hashing -/
def k25 : Class := { plain "com/example/chasebound/chasebound/chase/Hashing" (some 0) with
  accessFlags := 48
  interfaces := #[]
  cf := some (fileOf pool25 9 #[] #[{ accessFlags := 2, nameIndex := 5, descriptorIndex := 6, attributes := #[] }, { accessFlags := 8, nameIndex := 13, descriptorIndex := 14, attributes := #[] }] 48 2 #[] #[])
  fields := #[]
  methods := #[k25m0, k25m1]
  instanceTypes := #[]
  staticTypes := #[]
  resolved := Array.replicate 17 none
  statics := none }

def pool26 : Array CpInfo := pool [(2, .class_ 4), (1, u "java/lang/Object"), (0, u "<init>"), (0, u "()V"), (1, .class_ 10), (1, u "java/lang/System"), (0, u "allowSecurityManager"), (0, u "I"), (16, u "cons"), (0, u "Ljava/io/Console;"), (77, .class_ 110), (1, u "java/lang/System$CallersHolder"), (43, u "initialErrStream"), (0, u "Ljava/io/PrintStream;"), (19, u "security"), (0, u "Ljava/lang/SecurityManager;"), (31, .class_ 209), (0, u "java/lang/System$1"), (7, u "props"), (0, u "Ljava/util/Properties;"), (2, u "lineSeparator"), (0, u "Ljava/lang/String;"), (96, .class_ 321), (1, u "java/lang/System$LoggerFinder"), (5, .class_ 328), (0, u "java/lang/System$Logger"), (67, u "err"), (2, u "out"), (91, u "notSupportedJnuEncoding"), (15, u "in"), (17, u "initialIn"), (0, u "Ljava/io/InputStream;"), (35, u "bootLayer"), (0, u "Ljava/lang/ModuleLayer;"), (99, .class_ 664), (0, u "java/lang/System$2"), (9, u "NEVER"), (2, u "MAYBE"), (49, u "arraycopy"), (0, u "(Ljava/lang/Object;ILjava/lang/Object;II)V"), (72, .class_ 802), (0, u "java/lang/System$Logger$Level")] 31

def k26m0 : Method := { name := "<init>", desc := "()V", sig := { parameters := [], returnType := none }, accessFlags := 2, code := none }
def k26m1 : Method := { name := "arraycopy", desc := "(Ljava/lang/Object;ILjava/lang/Object;II)V", sig := { parameters := [(.object "java/lang/Object"), .int, (.object "java/lang/Object"), .int, .int], returnType := none }, accessFlags := 265, code := none }
/-- java/lang/System -/
def k26 : Class := { plain "java/lang/System" (some 0) with
  accessFlags := 49
  interfaces := #[]
  cf := some (fileOf pool26 8 #[.nestMembers #[319, 327, 801, 108, 663, 208]] #[{ accessFlags := 2, nameIndex := 5, descriptorIndex := 6, attributes := #[] }, { accessFlags := 265, nameIndex := 727, descriptorIndex := 728, attributes := #[] }] 49 2 #[] #[{ accessFlags := 25, nameIndex := 507, descriptorIndex := 526, attributes := #[] }, { accessFlags := 25, nameIndex := 399, descriptorIndex := 155, attributes := #[] }, { accessFlags := 25, nameIndex := 396, descriptorIndex := 155, attributes := #[] }, { accessFlags := 10, nameIndex := 525, descriptorIndex := 526, attributes := #[] }, { accessFlags := 26, nameIndex := 674, descriptorIndex := 12, attributes := #[] }, { accessFlags := 26, nameIndex := 677, descriptorIndex := 12, attributes := #[] }, { accessFlags := 10, nameIndex := 11, descriptorIndex := 12, attributes := #[] }, { accessFlags := 74, nameIndex := 175, descriptorIndex := 176, attributes := #[] }, { accessFlags := 10, nameIndex := 491, descriptorIndex := 222, attributes := #[] }, { accessFlags := 74, nameIndex := 29, descriptorIndex := 30, attributes := #[] }, { accessFlags := 74, nameIndex := 154, descriptorIndex := 155, attributes := #[] }, { accessFlags := 10, nameIndex := 217, descriptorIndex := 218, attributes := #[] }, { accessFlags := 10, nameIndex := 221, descriptorIndex := 222, attributes := #[] }, { accessFlags := 8, nameIndex := 562, descriptorIndex := 563, attributes := #[] }])
  fields := #[{ name := "in", type := (.object "java/io/InputStream"), accessFlags := 25, slot := 0, constantValue := 0 }, { name := "out", type := (.object "java/io/PrintStream"), accessFlags := 25, slot := 1, constantValue := 0 }, { name := "err", type := (.object "java/io/PrintStream"), accessFlags := 25, slot := 2, constantValue := 0 }, { name := "initialIn", type := (.object "java/io/InputStream"), accessFlags := 10, slot := 3, constantValue := 0 }, { name := "NEVER", type := .int, accessFlags := 26, slot := 4, constantValue := 0 }, { name := "MAYBE", type := .int, accessFlags := 26, slot := 5, constantValue := 0 }, { name := "allowSecurityManager", type := .int, accessFlags := 10, slot := 6, constantValue := 0 }, { name := "security", type := (.object "java/lang/SecurityManager"), accessFlags := 74, slot := 7, constantValue := 0 }, { name := "notSupportedJnuEncoding", type := (.object "java/lang/String"), accessFlags := 10, slot := 8, constantValue := 0 }, { name := "cons", type := (.object "java/io/Console"), accessFlags := 74, slot := 9, constantValue := 0 }, { name := "initialErrStream", type := (.object "java/io/PrintStream"), accessFlags := 74, slot := 10, constantValue := 0 }, { name := "props", type := (.object "java/util/Properties"), accessFlags := 10, slot := 11, constantValue := 0 }, { name := "lineSeparator", type := (.object "java/lang/String"), accessFlags := 10, slot := 12, constantValue := 0 }, { name := "bootLayer", type := (.object "java/lang/ModuleLayer"), accessFlags := 8, slot := 13, constantValue := 0 }]
  methods := #[k26m0, k26m1]
  instanceTypes := #[]
  staticTypes := #[(.object "java/io/InputStream"), (.object "java/io/PrintStream"), (.object "java/io/PrintStream"), (.object "java/io/InputStream"), .int, .int, .int, (.object "java/lang/SecurityManager"), (.object "java/lang/String"), (.object "java/io/Console"), (.object "java/io/PrintStream"), (.object "java/util/Properties"), (.object "java/lang/String"), (.object "java/lang/ModuleLayer")]
  resolved := Array.replicate 834 none
  statics := none }

def pool27 : Array CpInfo := pool [(16, .class_ 18), (1, u "java/util/Iterator"), (0, u "hasNext"), (0, u "()Z"), (10, .class_ 32), (0, u "java/lang/Object")] 20

def k27m0 : Method := { name := "hasNext", desc := "()Z", sig := { parameters := [], returnType := some .boolean }, accessFlags := 1025, code := none }
/-- java/util/Iterator -/
def k27 : Class := { plain "java/util/Iterator" (some 0) with
  accessFlags := 1537
  interfaces := #[]
  cf := some (fileOf pool27 16 #[] #[{ accessFlags := 1025, nameIndex := 19, descriptorIndex := 20, attributes := #[] }] 1537 31 #[] #[])
  fields := #[]
  methods := #[k27m0]
  instanceTypes := #[]
  staticTypes := #[]
  resolved := Array.replicate 53 none
  statics := none }

def pool28 : Array CpInfo := pool [(1, .fieldref 2 3), (0, .class_ 4), (0, .nameAndType 5 6), (0, u "java/util/ArrayList$Itr"), (0, u "this$0"), (0, u "Ljava/util/ArrayList;"), (0, .methodref 8 9), (0, .class_ 10), (0, .nameAndType 11 12), (0, u "java/lang/Object"), (0, u "<init>"), (0, u "()V"), (0, .fieldref 2 14), (0, .nameAndType 15 16), (0, u "lastRet"), (0, u "I"), (0, .fieldref 18 19), (0, .class_ 20), (0, .nameAndType 21 16), (0, u "java/util/ArrayList"), (0, u "modCount"), (0, .fieldref 2 23), (0, .nameAndType 24 16), (0, u "expectedModCount"), (0, .fieldref 2 26), (0, .nameAndType 27 16), (0, u "cursor"), (0, .fieldref 18 29), (0, .nameAndType 30 16), (0, u "size"), (38, .class_ 70), (0, u "java/util/Iterator"), (0, u "(Ljava/util/ArrayList;)V"), (8, u "hasNext"), (0, u "()Z")] 22

def k28c0 : Code := { maxStack := 2, maxLocals := 2, code := jdk_49_method_1_code, exceptionTable := #[], attributes := #[] }
def k28m0 : Method := { name := "<init>", desc := "(Ljava/util/ArrayList;)V", sig := { parameters := [(.object "java/util/ArrayList")], returnType := none }, accessFlags := 0, code := some k28c0 }
def k28c1 : Code := { maxStack := 2, maxLocals := 1, code := jdk_49_method_2_code, exceptionTable := #[], attributes := #[] }
def k28m1 : Method := { name := "hasNext", desc := "()Z", sig := { parameters := [], returnType := some .boolean }, accessFlags := 1, code := some k28c1 }
/-- java/util/ArrayList$Itr -/
def k28 : Class := { plain "java/util/ArrayList$Itr" (some 0) with
  accessFlags := 32
  interfaces := #[27]
  cf := some (fileOf pool28 2 #[.nestHost 18] #[{ accessFlags := 0, nameIndex := 11, descriptorIndex := 71, attributes := #[] }, { accessFlags := 1, nameIndex := 80, descriptorIndex := 81, attributes := #[] }] 32 8 #[69] #[{ accessFlags := 0, nameIndex := 27, descriptorIndex := 16, attributes := #[] }, { accessFlags := 0, nameIndex := 15, descriptorIndex := 16, attributes := #[] }, { accessFlags := 0, nameIndex := 24, descriptorIndex := 16, attributes := #[] }, { accessFlags := 4112, nameIndex := 5, descriptorIndex := 6, attributes := #[] }])
  fields := #[{ name := "cursor", type := .int, accessFlags := 0, slot := 0, constantValue := 0 }, { name := "lastRet", type := .int, accessFlags := 0, slot := 1, constantValue := 0 }, { name := "expectedModCount", type := .int, accessFlags := 0, slot := 2, constantValue := 0 }, { name := "this$0", type := (.object "java/util/ArrayList"), accessFlags := 4112, slot := 3, constantValue := 0 }]
  methods := #[k28m0, k28m1]
  instanceTypes := #[.int, .int, .int, (.object "java/util/ArrayList")]
  staticTypes := #[]
  resolved := Array.replicate 104 none
  statics := none }

/-- the primitive boolean -/
def k29 : Class := { plain "boolean" none with kind := .primitive 'Z', accessFlags := 0x411 }
/-- [Z -/
def k30 : Class := { plain "[Z" (some 0) with kind := .array 29 .boolean, interfaces := #[18, 5], accessFlags := 1041 }

/-- the primitive byte -/
def k31 : Class := { plain "byte" none with kind := .primitive 'B', accessFlags := 0x411 }
/-- [B -/
def k32 : Class := { plain "[B" (some 0) with kind := .array 31 .byte, interfaces := #[18, 5], accessFlags := 1041 }

/-- the primitive int -/
def k33 : Class := { plain "int" none with kind := .primitive 'I', accessFlags := 0x411 }
/-- [I -/
def k34 : Class := { plain "[I" (some 0) with kind := .array 33 .int, interfaces := #[18, 5], accessFlags := 1041 }

/-- [Ljava/lang/Object; -/
def k35 : Class := { plain "[Ljava/lang/Object;" (some 0) with kind := .array 0 (.object "java/lang/Object"), interfaces := #[18, 5], accessFlags := 1041 }

def classes0 : Array Class := #[k0, k1, k2, k3, k4, k5, k6, k7, k8, k9, k10, k11, k12, k13, k14, k15, k16, k17, k18, k19, k20, k21, k22, k23, k24, k25, k26, k27, k28, k29, k30, k31, k32, k33, k34, k35]
/-- the class that the rule has made for the site at 58 of com/example/chasebound/chasebound/chase/Relation.<init> -/
def k36 : Class := Jvm.LamKit.madeRec { classes := classes0 } "com/example/chasebound/chasebound/chase/Relation" (Jvm.Lambda.Shape.mk "java/util/function/IntUnaryOperator" "applyAsInt" (Jvm.ClassFile.MethodDescriptor.mk ([Jvm.ClassFile.FieldType.int] : List Jvm.ClassFile.FieldType) (Option.some Jvm.ClassFile.FieldType.int)) ([] : List Jvm.ClassFile.FieldType) (6 : Nat) "com/example/chasebound/chasebound/chase/Relation" "lambda$new$0" (Jvm.ClassFile.MethodDescriptor.mk ([Jvm.ClassFile.FieldType.int] : List Jvm.ClassFile.FieldType) (Option.some Jvm.ClassFile.FieldType.int)) false (Jvm.ClassFile.MethodDescriptor.mk ([Jvm.ClassFile.FieldType.int] : List Jvm.ClassFile.FieldType) (Option.some Jvm.ClassFile.FieldType.int))) 36

def heap : Heap := #[{ cls := 19, slots := #[.long 0, .int 0, .ref 2, .ref 3], vm := .statics 19 },
  { cls := 36, slots := #[], vm := .none },
  { cls := 35, slots := #[], vm := .none },
  { cls := 35, slots := #[], vm := .none }]
def classes : Array Class := #[k0, k1, k2, k3, k4, k5, k6, k7, k8, k9, k10, k11, k12, k13, k14, k15, k16, k17, k18, k19, k20, k21, k22, k23, k24, k25, k26, k27, k28, k29, k30, k31, k32, k33, k34, k35, k36]
def interned : List (Array UInt16 × Addr) := []
def slotsUsed : Nat := 4
def theMethod : MethodId := ⟨1, 1⟩
def args0 : Array Value := #[.int 5, .int 3]
def aboutOver (below : List Frame) : State where
  vm := { classes := classes, interned := interned.toArray }
  heap := heap
  slotsUsed := slotsUsed
  threads := #[{ frames := .invoking theMethod args0 :: below }]
def below0 : List Frame := [.native { method := ⟨0, 0⟩, args := #[] }]
def about1 : State := aboutOver below0
def p0 : Program := .bare "" "" ""
def e0 : Env := launch0.env 0 0 0
theorem w_frames : about1.frames = Frame.invoking theMethod args0 :: below0 := rfl
set_option maxRecDepth 65536 in
theorem w_args : argsFit about1.vm theMethod args0 = true := by decide +kernel
set_option maxRecDepth 65536 in
theorem w_heap : heapFits about1 = true := by decide +kernel
set_option maxRecDepth 65536 in
theorem w_runnable : about1.curStatus? = some .runnable := by decide +kernel
set_option maxRecDepth 65536 in
theorem w_alone : about1.alone = true := by decide +kernel
set_option maxRecDepth 65536 in
theorem w_named : about1.methodNamed? x = some theMethod := by decide +kernel
set_option maxRecDepth 65536 in
theorem w_hears : about1.hears theMethod below0 = true := by decide +kernel
set_option maxRecDepth 65536 in
theorem w_ripe : about1.ripe theMethod args0 below0 = true := by decide +kernel
theorem w_running : about1.status = .running := rfl
set_option maxRecDepth 65536 in
theorem w_room : about1.hasRoom e0.platform room_1 = true :=
  launch0.hasRoom_least _ room_1 (by decide +kernel) (by decide +kernel) (by decide +kernel) (by decide +kernel) (by decide +kernel) (by decide +kernel)
theorem allAtoms_all (ts : List Jvm.Cond) (a : Array Jvm.Value) (st : Jvm.State) : (allAtoms ts).before a st = ts.all (fun c => c.before a st) := by
  induction ts with
  | nil => rfl
  | cons c t ih =>
    show (Jvm.Cond.and c (allAtoms t)).before a st = _
    rw [Jvm.Cond.before_and, ih, List.all_cons]
def words1 : List Jvm.Cond := Jvm.Cond.code x code maxLocals ret :: tables_1
/-- a 'code' word, met by the world's own term for the bytes: nothing is compared byte by byte -/
theorem code_word {y : MethodName} {bytes : ByteArray} {mx : Nat} {rt : Option FieldType} {a : Array Value} {s : State} {m : MethodId} {meth : Method} {c : Code} (h1 : s.methodNamed? y = some m) (h2 : s.vm.method? m = some meth) (h3 : meth.code = some c) (h4 : c.code = bytes)
    (h5 : (c.maxLocals == mx && c.exceptionTable.isEmpty && decide (c.maxStack ≤ mostOperands) && decide (meth.sig.returnType = rt) && !meth.locks && decide (parseMethodDescriptor y.desc = some meth.sig)) = true) : (Jvm.Cond.code y bytes mx rt).before a s = true := by
  simp only [Bool.and_eq_true, beq_iff_eq, Bool.not_eq_true', decide_eq_true_eq] at h5
  obtain ⟨⟨⟨⟨⟨g1, g2⟩, g3⟩, g4⟩, g5⟩, g6⟩ := h5
  simp [Cond.before, Cond.holds, Cond.value, h1, h2, h3, h4, g1, g2, g3, g4, g5, g6]
def isCode : Jvm.Cond → Bool
  | .code _ _ _ _ => true
  | _ => false
theorem all_split {L : List Jvm.Cond} {P : Jvm.Cond → Bool} (h1 : L.all (fun c => isCode c || P c) = true) (h2 : ∀ c ∈ L.filter isCode, P c = true) : L.all P = true := by
  refine List.all_eq_true.mpr fun c hc => ?_
  have h := List.all_eq_true.mp h1 c hc
  rcases Bool.eq_false_or_eq_true (isCode c) with hi | hi
  · exact h2 c (List.mem_filter.mpr ⟨hc, hi⟩)
  · simpa [hi] using h
set_option maxRecDepth 65536 in
theorem w_c0 : (Jvm.Cond.code x code maxLocals ret).before args0 about1 = true := code_word (m := ⟨1, 1⟩) (meth := k1m1) (c := k1c1) (by decide +kernel) rfl rfl rfl (by decide +kernel)
set_option maxRecDepth 65536 in
theorem w_c1 : (Jvm.Cond.code ({ cls := "com/example/chasebound/chasebound/rules/Predicate", name := "<init>", desc := "(Ljava/lang/String;I)V" } : Jvm.MethodName) prog_38_method_1_code (3 : Nat) (Option.none : Option Jvm.ClassFile.FieldType)).before args0 about1 = true := code_word (m := ⟨4, 0⟩) (meth := k4m0) (c := k4c0) (by decide +kernel) rfl rfl rfl (by decide +kernel)
set_option maxRecDepth 65536 in
theorem w_c2 : (Jvm.Cond.code ({ cls := "java/lang/Record", name := "<init>", desc := "()V" } : Jvm.MethodName) jdk_30_method_1_code (1 : Nat) (Option.none : Option Jvm.ClassFile.FieldType)).before args0 about1 = true := code_word (m := ⟨3, 0⟩) (meth := k3m0) (c := k3c0) (by decide +kernel) rfl rfl rfl (by decide +kernel)
set_option maxRecDepth 65536 in
theorem w_c3 : (Jvm.Cond.code ({ cls := "java/lang/Object", name := "<init>", desc := "()V" } : Jvm.MethodName) object_method_1_code (1 : Nat) (Option.none : Option Jvm.ClassFile.FieldType)).before args0 about1 = true := code_word (m := ⟨0, 0⟩) (meth := k0m0) (c := k0c0) (by decide +kernel) rfl rfl rfl (by decide +kernel)
set_option maxRecDepth 65536 in
theorem w_c4 : (Jvm.Cond.code ({ cls := "com/example/chasebound/chasebound/chase/Relation", name := "<init>", desc := "(Lcom/example/chasebound/chasebound/rules/Predicate;I)V" } : Jvm.MethodName) prog_23_method_1_code (4 : Nat) (Option.none : Option Jvm.ClassFile.FieldType)).before args0 about1 = true := code_word (m := ⟨2, 0⟩) (meth := k2m0) (c := k2c0) (by decide +kernel) rfl rfl rfl (by decide +kernel)
set_option maxRecDepth 65536 in
theorem w_c5 : (Jvm.Cond.code ({ cls := "java/util/ArrayList", name := "<init>", desc := "()V" } : Jvm.MethodName) jdk_38_method_2_code (1 : Nat) (Option.none : Option Jvm.ClassFile.FieldType)).before args0 about1 = true := code_word (m := ⟨19, 0⟩) (meth := k19m0) (c := k19c0) (by decide +kernel) rfl rfl rfl (by decide +kernel)
set_option maxRecDepth 65536 in
theorem w_c6 : (Jvm.Cond.code ({ cls := "java/util/AbstractList", name := "<init>", desc := "()V" } : Jvm.MethodName) jdk_39_method_1_code (1 : Nat) (Option.none : Option Jvm.ClassFile.FieldType)).before args0 about1 = true := code_word (m := ⟨16, 0⟩) (meth := k16m0) (c := k16c0) (by decide +kernel) rfl rfl rfl (by decide +kernel)
set_option maxRecDepth 65536 in
theorem w_c7 : (Jvm.Cond.code ({ cls := "java/util/AbstractCollection", name := "<init>", desc := "()V" } : Jvm.MethodName) jdk_22_method_1_code (1 : Nat) (Option.none : Option Jvm.ClassFile.FieldType)).before args0 about1 = true := code_word (m := ⟨13, 0⟩) (meth := k13m0) (c := k13c0) (by decide +kernel) rfl rfl rfl (by decide +kernel)
set_option maxRecDepth 65536 in
theorem w_c8 : (Jvm.Cond.code ({ cls := "com/example/chasebound/chasebound/rules/Predicate", name := "arity", desc := "()I" } : Jvm.MethodName) prog_38_method_6_code (1 : Nat) (Option.some Jvm.ClassFile.FieldType.int)).before args0 about1 = true := code_word (m := ⟨4, 1⟩) (meth := k4m1) (c := k4c1) (by decide +kernel) rfl rfl rfl (by decide +kernel)
set_option maxRecDepth 65536 in
theorem w_c9 : (Jvm.Cond.code ({ cls := "java/lang/Math", name := "max", desc := "(II)I" } : Jvm.MethodName) jdk_29_method_65_code (2 : Nat) (Option.some Jvm.ClassFile.FieldType.int)).before args0 about1 = true := code_word (m := ⟨20, 1⟩) (meth := k20m1) (c := k20c1) (by decide +kernel) rfl rfl rfl (by decide +kernel)
set_option maxRecDepth 65536 in
theorem w_c10 : (Jvm.Cond.code ({ cls := "java/util/Arrays", name := "setAll", desc := "([ILjava/util/function/IntUnaryOperator;)V" } : Jvm.MethodName) jdk_65_method_175_code (3 : Nat) (Option.none : Option Jvm.ClassFile.FieldType)).before args0 about1 = true := code_word (m := ⟨22, 1⟩) (meth := k22m1) (c := k22c1) (by decide +kernel) rfl rfl rfl (by decide +kernel)
set_option maxRecDepth 65536 in
theorem w_c11 : (Jvm.Cond.code ({ cls := "java/util/Objects", name := "requireNonNull", desc := "(Ljava/lang/Object;)Ljava/lang/Object;" } : Jvm.MethodName) jdk_31_method_10_code (1 : Nat) (Option.some (Jvm.ClassFile.FieldType.object "java/lang/Object"))).before args0 about1 = true := code_word (m := ⟨23, 1⟩) (meth := k23m1) (c := k23c1) (by decide +kernel) rfl rfl rfl (by decide +kernel)
set_option maxRecDepth 65536 in
theorem w_c12 : (Jvm.Cond.code ({ cls := "com/example/chasebound/chasebound/chase/Relation", name := "lambda$new$0", desc := "(I)I" } : Jvm.MethodName) prog_23_method_10_code (1 : Nat) (Option.some Jvm.ClassFile.FieldType.int)).before args0 about1 = true := code_word (m := ⟨2, 5⟩) (meth := k2m5) (c := k2c5) (by decide +kernel) rfl rfl rfl (by decide +kernel)
set_option maxRecDepth 65536 in
theorem w_c13 : (Jvm.Cond.code ({ cls := "com/example/chasebound/chasebound/chase/Relation$Index", name := "<init>", desc := "(Lcom/example/chasebound/chasebound/chase/Relation;[IZ)V" } : Jvm.MethodName) prog_24_method_1_code (4 : Nat) (Option.none : Option Jvm.ClassFile.FieldType)).before args0 about1 = true := code_word (m := ⟨24, 0⟩) (meth := k24m0) (c := k24c0) (by decide +kernel) rfl rfl rfl (by decide +kernel)
set_option maxRecDepth 65536 in
theorem w_c14 : (Jvm.Cond.code ({ cls := "com/example/chasebound/chasebound/chase/Relation", name := "add", desc := "([I)Z" } : Jvm.MethodName) prog_23_method_7_code (5 : Nat) (Option.some Jvm.ClassFile.FieldType.boolean)).before args0 about1 = true := code_word (m := ⟨2, 3⟩) (meth := k2m3) (c := k2c3) (by decide +kernel) rfl rfl rfl (by decide +kernel)
set_option maxRecDepth 65536 in
theorem w_c15 : (Jvm.Cond.code ({ cls := "com/example/chasebound/chasebound/chase/Relation$Index", name := "first", desc := "([I)I" } : Jvm.MethodName) prog_24_method_2_code (5 : Nat) (Option.some Jvm.ClassFile.FieldType.int)).before args0 about1 = true := code_word (m := ⟨24, 1⟩) (meth := k24m1) (c := k24c1) (by decide +kernel) rfl rfl rfl (by decide +kernel)
set_option maxRecDepth 65536 in
theorem w_c16 : (Jvm.Cond.code ({ cls := "com/example/chasebound/chasebound/chase/Relation$Index", name := "hash", desc := "([I)I" } : Jvm.MethodName) prog_24_method_11_code (6 : Nat) (Option.some Jvm.ClassFile.FieldType.int)).before args0 about1 = true := code_word (m := ⟨24, 7⟩) (meth := k24m7) (c := k24c7) (by decide +kernel) rfl rfl rfl (by decide +kernel)
set_option maxRecDepth 65536 in
theorem w_c17 : (Jvm.Cond.code ({ cls := "com/example/chasebound/chasebound/chase/Hashing", name := "mix", desc := "(I)I" } : Jvm.MethodName) prog_17_method_2_code (2 : Nat) (Option.some Jvm.ClassFile.FieldType.int)).before args0 about1 = true := code_word (m := ⟨25, 1⟩) (meth := k25m1) (c := k25c1) (by decide +kernel) rfl rfl rfl (by decide +kernel)
set_option maxRecDepth 65536 in
theorem w_c18 : (Jvm.Cond.code ({ cls := "com/example/chasebound/chasebound/chase/Relation$Index", name := "add", desc := "(I)V" } : Jvm.MethodName) prog_24_method_4_code (4 : Nat) (Option.none : Option Jvm.ClassFile.FieldType)).before args0 about1 = true := code_word (m := ⟨24, 2⟩) (meth := k24m2) (c := k24c2) (by decide +kernel) rfl rfl rfl (by decide +kernel)
set_option maxRecDepth 65536 in
theorem w_c19 : (Jvm.Cond.code ({ cls := "com/example/chasebound/chasebound/chase/Relation$Index", name := "keyOf", desc := "(I)[I" } : Jvm.MethodName) prog_24_method_10_code (3 : Nat) (Option.some (Jvm.ClassFile.FieldType.array Jvm.ClassFile.FieldType.int))).before args0 about1 = true := code_word (m := ⟨24, 6⟩) (meth := k24m6) (c := k24c6) (by decide +kernel) rfl rfl rfl (by decide +kernel)
set_option maxRecDepth 65536 in
theorem w_c20 : (Jvm.Cond.code ({ cls := "com/example/chasebound/chasebound/chase/Relation", name := "get", desc := "(II)I" } : Jvm.MethodName) prog_23_method_6_code (3 : Nat) (Option.some Jvm.ClassFile.FieldType.int)).before args0 about1 = true := code_word (m := ⟨2, 2⟩) (meth := k2m2) (c := k2c2) (by decide +kernel) rfl rfl rfl (by decide +kernel)
set_option maxRecDepth 65536 in
theorem w_c21 : (Jvm.Cond.code ({ cls := "java/util/ArrayList", name := "iterator", desc := "()Ljava/util/Iterator;" } : Jvm.MethodName) jdk_38_method_55_code (1 : Nat) (Option.some (Jvm.ClassFile.FieldType.object "java/util/Iterator"))).before args0 about1 = true := code_word (m := ⟨19, 1⟩) (meth := k19m1) (c := k19c1) (by decide +kernel) rfl rfl rfl (by decide +kernel)
set_option maxRecDepth 65536 in
theorem w_c22 : (Jvm.Cond.code ({ cls := "java/util/ArrayList$Itr", name := "<init>", desc := "(Ljava/util/ArrayList;)V" } : Jvm.MethodName) jdk_49_method_1_code (2 : Nat) (Option.none : Option Jvm.ClassFile.FieldType)).before args0 about1 = true := code_word (m := ⟨28, 0⟩) (meth := k28m0) (c := k28c0) (by decide +kernel) rfl rfl rfl (by decide +kernel)
set_option maxRecDepth 65536 in
theorem w_c23 : (Jvm.Cond.code ({ cls := "java/util/ArrayList$Itr", name := "hasNext", desc := "()Z" } : Jvm.MethodName) jdk_49_method_2_code (1 : Nat) (Option.some Jvm.ClassFile.FieldType.boolean)).before args0 about1 = true := code_word (m := ⟨28, 1⟩) (meth := k28m1) (c := k28c1) (by decide +kernel) rfl rfl rfl (by decide +kernel)
set_option maxRecDepth 65536 in
theorem w_c24 : (Jvm.Cond.code ({ cls := "com/example/chasebound/chasebound/chase/Relation", name := "remove", desc := "(I)V" } : Jvm.MethodName) prog_23_method_8_code (4 : Nat) (Option.none : Option Jvm.ClassFile.FieldType)).before args0 about1 = true := code_word (m := ⟨2, 4⟩) (meth := k2m4) (c := k2c4) (by decide +kernel) rfl rfl rfl (by decide +kernel)
set_option maxRecDepth 65536 in
theorem w_c25 : (Jvm.Cond.code ({ cls := "com/example/chasebound/chasebound/chase/Relation$Index", name := "remove", desc := "(I)V" } : Jvm.MethodName) prog_24_method_6_code (6 : Nat) (Option.none : Option Jvm.ClassFile.FieldType)).before args0 about1 = true := code_word (m := ⟨24, 3⟩) (meth := k24m3) (c := k24c3) (by decide +kernel) rfl rfl rfl (by decide +kernel)
set_option maxRecDepth 65536 in
theorem w_c26 : (Jvm.Cond.code ({ cls := "com/example/chasebound/chasebound/chase/Relation$Index", name := "hasKey", desc := "(I[I)Z" } : Jvm.MethodName) prog_24_method_9_code (4 : Nat) (Option.some Jvm.ClassFile.FieldType.boolean)).before args0 about1 = true := code_word (m := ⟨24, 5⟩) (meth := k24m5) (c := k24c5) (by decide +kernel) rfl rfl rfl (by decide +kernel)
set_option maxRecDepth 65536 in
theorem w_c27 : (Jvm.Cond.code ({ cls := "com/example/chasebound/chasebound/chase/Relation$Index", name := "removeKey", desc := "(I)V" } : Jvm.MethodName) prog_24_method_7_code (6 : Nat) (Option.none : Option Jvm.ClassFile.FieldType)).before args0 about1 = true := code_word (m := ⟨24, 4⟩) (meth := k24m4) (c := k24c4) (by decide +kernel) rfl rfl rfl (by decide +kernel)
set_option maxRecDepth 65536 in
theorem w_c28 : (Jvm.Cond.code ({ cls := "com/example/chasebound/chasebound/chase/Relation", name := "isLive", desc := "(I)Z" } : Jvm.MethodName) prog_23_method_5_code (2 : Nat) (Option.some Jvm.ClassFile.FieldType.boolean)).before args0 about1 = true := code_word (m := ⟨2, 1⟩) (meth := k2m1) (c := k2c1) (by decide +kernel) rfl rfl rfl (by decide +kernel)
def codes1 : List Jvm.Cond := [Jvm.Cond.code x code maxLocals ret, Jvm.Cond.code ({ cls := "com/example/chasebound/chasebound/rules/Predicate", name := "<init>", desc := "(Ljava/lang/String;I)V" } : Jvm.MethodName) prog_38_method_1_code (3 : Nat) (Option.none : Option Jvm.ClassFile.FieldType), Jvm.Cond.code ({ cls := "java/lang/Record", name := "<init>", desc := "()V" } : Jvm.MethodName) jdk_30_method_1_code (1 : Nat) (Option.none : Option Jvm.ClassFile.FieldType), Jvm.Cond.code ({ cls := "java/lang/Object", name := "<init>", desc := "()V" } : Jvm.MethodName) object_method_1_code (1 : Nat) (Option.none : Option Jvm.ClassFile.FieldType), Jvm.Cond.code ({ cls := "com/example/chasebound/chasebound/chase/Relation", name := "<init>", desc := "(Lcom/example/chasebound/chasebound/rules/Predicate;I)V" } : Jvm.MethodName) prog_23_method_1_code (4 : Nat) (Option.none : Option Jvm.ClassFile.FieldType), Jvm.Cond.code ({ cls := "java/util/ArrayList", name := "<init>", desc := "()V" } : Jvm.MethodName) jdk_38_method_2_code (1 : Nat) (Option.none : Option Jvm.ClassFile.FieldType), Jvm.Cond.code ({ cls := "java/util/AbstractList", name := "<init>", desc := "()V" } : Jvm.MethodName) jdk_39_method_1_code (1 : Nat) (Option.none : Option Jvm.ClassFile.FieldType), Jvm.Cond.code ({ cls := "java/util/AbstractCollection", name := "<init>", desc := "()V" } : Jvm.MethodName) jdk_22_method_1_code (1 : Nat) (Option.none : Option Jvm.ClassFile.FieldType), Jvm.Cond.code ({ cls := "com/example/chasebound/chasebound/rules/Predicate", name := "arity", desc := "()I" } : Jvm.MethodName) prog_38_method_6_code (1 : Nat) (Option.some Jvm.ClassFile.FieldType.int), Jvm.Cond.code ({ cls := "java/lang/Math", name := "max", desc := "(II)I" } : Jvm.MethodName) jdk_29_method_65_code (2 : Nat) (Option.some Jvm.ClassFile.FieldType.int), Jvm.Cond.code ({ cls := "java/util/Arrays", name := "setAll", desc := "([ILjava/util/function/IntUnaryOperator;)V" } : Jvm.MethodName) jdk_65_method_175_code (3 : Nat) (Option.none : Option Jvm.ClassFile.FieldType), Jvm.Cond.code ({ cls := "java/util/Objects", name := "requireNonNull", desc := "(Ljava/lang/Object;)Ljava/lang/Object;" } : Jvm.MethodName) jdk_31_method_10_code (1 : Nat) (Option.some (Jvm.ClassFile.FieldType.object "java/lang/Object")), Jvm.Cond.code ({ cls := "com/example/chasebound/chasebound/chase/Relation", name := "lambda$new$0", desc := "(I)I" } : Jvm.MethodName) prog_23_method_10_code (1 : Nat) (Option.some Jvm.ClassFile.FieldType.int), Jvm.Cond.code ({ cls := "com/example/chasebound/chasebound/chase/Relation$Index", name := "<init>", desc := "(Lcom/example/chasebound/chasebound/chase/Relation;[IZ)V" } : Jvm.MethodName) prog_24_method_1_code (4 : Nat) (Option.none : Option Jvm.ClassFile.FieldType), Jvm.Cond.code ({ cls := "com/example/chasebound/chasebound/chase/Relation", name := "add", desc := "([I)Z" } : Jvm.MethodName) prog_23_method_7_code (5 : Nat) (Option.some Jvm.ClassFile.FieldType.boolean), Jvm.Cond.code ({ cls := "com/example/chasebound/chasebound/chase/Relation$Index", name := "first", desc := "([I)I" } : Jvm.MethodName) prog_24_method_2_code (5 : Nat) (Option.some Jvm.ClassFile.FieldType.int), Jvm.Cond.code ({ cls := "com/example/chasebound/chasebound/chase/Relation$Index", name := "hash", desc := "([I)I" } : Jvm.MethodName) prog_24_method_11_code (6 : Nat) (Option.some Jvm.ClassFile.FieldType.int), Jvm.Cond.code ({ cls := "com/example/chasebound/chasebound/chase/Hashing", name := "mix", desc := "(I)I" } : Jvm.MethodName) prog_17_method_2_code (2 : Nat) (Option.some Jvm.ClassFile.FieldType.int), Jvm.Cond.code ({ cls := "com/example/chasebound/chasebound/chase/Relation$Index", name := "add", desc := "(I)V" } : Jvm.MethodName) prog_24_method_4_code (4 : Nat) (Option.none : Option Jvm.ClassFile.FieldType), Jvm.Cond.code ({ cls := "com/example/chasebound/chasebound/chase/Relation$Index", name := "keyOf", desc := "(I)[I" } : Jvm.MethodName) prog_24_method_10_code (3 : Nat) (Option.some (Jvm.ClassFile.FieldType.array Jvm.ClassFile.FieldType.int)), Jvm.Cond.code ({ cls := "com/example/chasebound/chasebound/chase/Relation", name := "get", desc := "(II)I" } : Jvm.MethodName) prog_23_method_6_code (3 : Nat) (Option.some Jvm.ClassFile.FieldType.int), Jvm.Cond.code ({ cls := "java/util/ArrayList", name := "iterator", desc := "()Ljava/util/Iterator;" } : Jvm.MethodName) jdk_38_method_55_code (1 : Nat) (Option.some (Jvm.ClassFile.FieldType.object "java/util/Iterator")), Jvm.Cond.code ({ cls := "java/util/ArrayList$Itr", name := "<init>", desc := "(Ljava/util/ArrayList;)V" } : Jvm.MethodName) jdk_49_method_1_code (2 : Nat) (Option.none : Option Jvm.ClassFile.FieldType), Jvm.Cond.code ({ cls := "java/util/ArrayList$Itr", name := "hasNext", desc := "()Z" } : Jvm.MethodName) jdk_49_method_2_code (1 : Nat) (Option.some Jvm.ClassFile.FieldType.boolean), Jvm.Cond.code ({ cls := "com/example/chasebound/chasebound/chase/Relation", name := "remove", desc := "(I)V" } : Jvm.MethodName) prog_23_method_8_code (4 : Nat) (Option.none : Option Jvm.ClassFile.FieldType), Jvm.Cond.code ({ cls := "com/example/chasebound/chasebound/chase/Relation$Index", name := "remove", desc := "(I)V" } : Jvm.MethodName) prog_24_method_6_code (6 : Nat) (Option.none : Option Jvm.ClassFile.FieldType), Jvm.Cond.code ({ cls := "com/example/chasebound/chasebound/chase/Relation$Index", name := "hasKey", desc := "(I[I)Z" } : Jvm.MethodName) prog_24_method_9_code (4 : Nat) (Option.some Jvm.ClassFile.FieldType.boolean), Jvm.Cond.code ({ cls := "com/example/chasebound/chasebound/chase/Relation$Index", name := "removeKey", desc := "(I)V" } : Jvm.MethodName) prog_24_method_7_code (6 : Nat) (Option.none : Option Jvm.ClassFile.FieldType), Jvm.Cond.code ({ cls := "com/example/chasebound/chasebound/chase/Relation", name := "isLive", desc := "(I)Z" } : Jvm.MethodName) prog_23_method_5_code (2 : Nat) (Option.some Jvm.ClassFile.FieldType.boolean)]
set_option maxRecDepth 65536 in
theorem codes_eq : words1.filter isCode = codes1 := rfl
theorem w_codes : ∀ c ∈ words1.filter isCode, c.before args0 about1 = true := by
  rw [codes_eq]
  intro c hc
  simp only [codes1, List.mem_cons, List.not_mem_nil, or_false] at hc
  rcases hc with rfl | rfl | rfl | rfl | rfl | rfl | rfl | rfl | rfl | rfl | rfl | rfl | rfl | rfl | rfl | rfl | rfl | rfl | rfl | rfl | rfl | rfl | rfl | rfl | rfl | rfl | rfl | rfl | rfl
  · exact w_c0
  · exact w_c1
  · exact w_c2
  · exact w_c3
  · exact w_c4
  · exact w_c5
  · exact w_c6
  · exact w_c7
  · exact w_c8
  · exact w_c9
  · exact w_c10
  · exact w_c11
  · exact w_c12
  · exact w_c13
  · exact w_c14
  · exact w_c15
  · exact w_c16
  · exact w_c17
  · exact w_c18
  · exact w_c19
  · exact w_c20
  · exact w_c21
  · exact w_c22
  · exact w_c23
  · exact w_c24
  · exact w_c25
  · exact w_c26
  · exact w_c27
  · exact w_c28
set_option maxRecDepth 65536 in
theorem w_t1 : (words1.take 24).all (fun c => isCode c || c.before args0 about1) = true := by decide +kernel
set_option maxRecDepth 65536 in
theorem w_t2 : ((words1.drop 24).take 24).all (fun c => isCode c || c.before args0 about1) = true := by decide +kernel
set_option maxRecDepth 65536 in
theorem w_t3 : (((words1.drop 24).drop 24).take 24).all (fun c => isCode c || c.before args0 about1) = true := by decide +kernel
set_option maxRecDepth 65536 in
theorem w_t4 : ((((words1.drop 24).drop 24).drop 24).take 24).all (fun c => isCode c || c.before args0 about1) = true := by decide +kernel
set_option maxRecDepth 65536 in
theorem w_t5 : (((((words1.drop 24).drop 24).drop 24).drop 24).take 24).all (fun c => isCode c || c.before args0 about1) = true := by decide +kernel
set_option maxRecDepth 65536 in
theorem w_t6 : ((((((words1.drop 24).drop 24).drop 24).drop 24).drop 24).take 24).all (fun c => isCode c || c.before args0 about1) = true := by decide +kernel
set_option maxRecDepth 65536 in
theorem w_t7 : (((((((words1.drop 24).drop 24).drop 24).drop 24).drop 24).drop 24).take 24).all (fun c => isCode c || c.before args0 about1) = true := by decide +kernel
set_option maxRecDepth 65536 in
theorem w_t8 : ((((((((words1.drop 24).drop 24).drop 24).drop 24).drop 24).drop 24).drop 24).take 24).all (fun c => isCode c || c.before args0 about1) = true := by decide +kernel
set_option maxRecDepth 65536 in
theorem w_t9 : (((((((((words1.drop 24).drop 24).drop 24).drop 24).drop 24).drop 24).drop 24).drop 24).take 24).all (fun c => isCode c || c.before args0 about1) = true := by decide +kernel
set_option maxRecDepth 65536 in
theorem w_t10 : (((((((((words1.drop 24).drop 24).drop 24).drop 24).drop 24).drop 24).drop 24).drop 24).drop 24).all (fun c => isCode c || c.before args0 about1) = true := by decide +kernel
theorem w_tables : (allAtoms (Jvm.Cond.code x code maxLocals ret :: tables_1)).before args0 about1 = true := by
  rw [allAtoms_all]
  show words1.all (fun c => c.before args0 about1) = true
  refine all_split ?_ w_codes
  rw [← List.take_append_drop 24 words1, List.all_append, w_t1, ← List.take_append_drop 24 (words1.drop 24), List.all_append, w_t2, ← List.take_append_drop 24 ((words1.drop 24).drop 24), List.all_append, w_t3, ← List.take_append_drop 24 (((words1.drop 24).drop 24).drop 24), List.all_append, w_t4, ← List.take_append_drop 24 ((((words1.drop 24).drop 24).drop 24).drop 24), List.all_append, w_t5, ← List.take_append_drop 24 (((((words1.drop 24).drop 24).drop 24).drop 24).drop 24), List.all_append, w_t6, ← List.take_append_drop 24 ((((((words1.drop 24).drop 24).drop 24).drop 24).drop 24).drop 24), List.all_append, w_t7, ← List.take_append_drop 24 (((((((words1.drop 24).drop 24).drop 24).drop 24).drop 24).drop 24).drop 24), List.all_append, w_t8, ← List.take_append_drop 24 ((((((((words1.drop 24).drop 24).drop 24).drop 24).drop 24).drop 24).drop 24).drop 24), List.all_append, w_t9, w_t10]
  rfl
set_option maxRecDepth 65536 in
theorem w_rest : rest_1_c.before args0 about1 = true := by decide +kernel
set_option maxRecDepth 65536 in
theorem w_case : (Jvm.Cond.and given_1 narrow_1).before args0 about1 = true := by decide +kernel
theorem w_applies : (headSpec (Jvm.Cond.code x code maxLocals ret :: tables_1) room_1).applies x e0.platform about1 = true :=
  (Spec.applies_iff w_frames).mpr ⟨w_running, w_runnable, w_alone, w_named, w_hears, w_ripe, w_room, w_tables⟩
theorem atStart : AtStart classFile x code maxLocals ret World_1 tables_1 room_1 Calls_1 rest_1 Pre_1 launch0 p0 e0 about1 theMethod args0 below0 :=
  ⟨lists_1, trivial, launch0.admits_env _ _ _, launch0.least_env, fairChoices_fair.cas, fairChoices_fair.clock, w_frames, w_args, w_heap, w_applies, trivial, w_rest, w_case⟩
end start1
theorem witness_1 : WitnessClaimed_1 := ⟨start1.p0, start1.e0, start1.about1, start1.theMethod, start1.args0, start1.below0, start1.atStart⟩
end Jvm.Pilot.@@N@@
