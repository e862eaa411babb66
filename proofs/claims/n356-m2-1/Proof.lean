import JvmDerived
import JvmDerived.Pilot.@@N@@Statement
import JvmDerived.Pilot.@@N@@Code
set_option linter.unusedVariables false
set_option linter.unusedSimpArgs false

namespace Jvm.Pilot.@@N@@
open Jvm Jvm.ClassFile Sem Op Lib Jvm.Free Jvm.Stand Jvm.LawKit Jvm.RoadKit Bundle Jvm.Pilot.@@N@@.Jvm.D
/-! own layer: 'from here the run ends, and Q holds of what it leaves' (own_Dn), stepped backwards -/
def own_Dn (p : Program) (e : Env) (below : List Frame) (s : State) (Q : Option Value → Heap → List Loc → Prop) (K N : Nat) (A : State) : Prop :=
  ∃ s₂ o, Steps p.tables e below A s₂ ∧ s₂.status = .running ∧ Ended s₂ below o ∧ ∃ v L, o = .returned v ∧ Q v s₂.heap L ∧ FrameEnd s o s₂ L K N
def own_Q (r : Option Value) (n0 : Nat) (h0 : Heap) (v : Option Value) (h : Heap) (L : List Loc) : Prop := v = r ∧ Fr n0 L ∧ h = h0
def own_QL (r : Option Value) (n0 : Nat) (v : Option Value) (h : Heap) (L : List Loc) : Prop := v = r ∧ Fr n0 L
def own_Cx (p : Program) (s : State) (m : MethodId) (meth : Method) (c : Code) (Z : State) (a0 : Array Value) (bytes : ByteArray) (ml : Nat) (own nm : String) (ret : Option FieldType) : Prop :=
  p.tables.exec = Jvm.exec ∧ Z.Warmed39 s.vm ∧ (∀ d ∈ tables_1, d.before a0 Z = true) ∧ c.code = bytes ∧ c.maxLocals = ml ∧ s.vm.findClass own = some m.cls ∧ meth.sig.returnType = ret ∧ meth.locks = false ∧ meth.name = nm
theorem own_st {p : Program} {e : Env} {below : List Frame} {s : State} {Q : Option Value → Heap → List Loc → Prop} {K N : Nat} {A B : State} (k : ∀ t, Steps p.tables e below B t → Steps p.tables e below A t) (d : own_Dn p e below s Q K N B) : own_Dn p e below s Q K N A := by
  obtain ⟨s₂, o, h, r⟩ := d
  exact ⟨s₂, o, k _ h, r⟩
theorem own_tr {p : Program} {e : Env} {below : List Frame} {s : State} {Q : Option Value → Heap → List Loc → Prop} {K N : Nat} {A B : State} (k : Steps p.tables e below A B) (d : own_Dn p e below s Q K N B) : own_Dn p e below s Q K N A :=
  own_st (fun _ h => k.trans h) d
theorem own_cat {v : Value} (h : v.isRef = true) : v.category = 1 := by
  cases v <;> first | rfl | (simp [Value.isRef] at h)
section own
variable {p : Program} {l : Launch} {e : Env} {R : Room} {s : State} {m : MethodId} {args : Array Value} {below : List Frame} {meth : Method} {c : Code} {T : State} {locs : List Loc} {cells slots : Nat} {Q : Option Value → Heap → List Loc → Prop} {K N : Nat}
theorem own_ret (X : Stand p l e R s m args below meth c T locs cells slots) (hlk : meth.locks = false) {v : Option Value} (hv : meth.sig.returnType = none → v = none) {A : State} (hK : cells ≤ K) (hN : slots ≤ N) (hq : Q v T.heap locs)
    (hst : ∀ fs, (∀ (f : JFrame) (acts : List Action), f.method = m → f.locked = none → f.entered = [] → (doReturn e (T.setTop f) acts v).1 = T.setFrames fs) → Steps p.tables e below A (T.setFrames fs)) : own_Dn p e below s Q K N A := by
  obtain ⟨fs, hr, hrun, hended, hW, hsame⟩ := X.leave (v := v) hv hlk
  exact ⟨_, _, hst fs hr, hrun, hended, _, _, rfl, hq, ⟨_, rfl⟩, hW, hsame.mono hK hN⟩
theorem own_retI (X : Stand p l e R s m args below meth c T locs cells slots) (hx : p.tables.exec = Jvm.exec) (hret : meth.sig.returnType = some .int) (hlk : meth.locks = false) {pc : Nat} {Ls : Array Slot} {z : Int32} {rest : List Value} (hd : decode c.code pc = .ok (.ireturn, 1)) (hK : cells ≤ K) (hN : slots ≤ N)
    (hq : Q (some (.int z)) T.heap locs) : own_Dn p e below s Q K N (T.setTop (mkF m pc Ls (.int z :: rest))) :=
  own_ret X hlk (fun h => by rw [hret] at h; cases h) hK hN hq (fun fs hr => retOut X hx hret rfl (Or.inl ⟨rfl, Or.inl rfl, _, rfl⟩) hd hr)
theorem own_retJ (X : Stand p l e R s m args below meth c T locs cells slots) (hx : p.tables.exec = Jvm.exec) (hret : meth.sig.returnType = some .long) (hlk : meth.locks = false) {pc : Nat} {Ls : Array Slot} {z : Int64} {rest : List Value} (hd : decode c.code pc = .ok (.lreturn, 1)) (hK : cells ≤ K) (hN : slots ≤ N)
    (hq : Q (some (.long z)) T.heap locs) : own_Dn p e below s Q K N (T.setTop (mkF m pc Ls (.long z :: rest))) :=
  own_ret X hlk (fun h => by rw [hret] at h; cases h) hK hN hq (fun fs hr => retOut X hx hret rfl (Or.inr (Or.inl ⟨rfl, rfl, _, rfl⟩)) hd hr)
theorem own_retZ (X : Stand p l e R s m args below meth c T locs cells slots) (hx : p.tables.exec = Jvm.exec) (hret : meth.sig.returnType = some .boolean) (hlk : meth.locks = false) {pc : Nat} {Ls : Array Slot} {z : Int32} {rest : List Value} (hz : z &&& 1 = z) (hd : decode c.code pc = .ok (.ireturn, 1)) (hK : cells ≤ K) (hN : slots ≤ N)
    (hq : Q (some (.int z)) T.heap locs) : own_Dn p e below s Q K N (T.setTop (mkF m pc Ls (.int z :: rest))) :=
  own_ret X hlk (fun h => by rw [hret] at h; cases h) hK hN hq (fun fs hr => retOut X hx (w := .int z) hret (show Value.int (z &&& 1) = .int z from congrArg Value.int hz) (Or.inl ⟨rfl, Or.inr (Or.inl rfl), _, rfl⟩) hd hr)
theorem own_retV (X : Stand p l e R s m args below meth c T locs cells slots) (hx : p.tables.exec = Jvm.exec) (hret : meth.sig.returnType = none) (hlk : meth.locks = false) {pc : Nat} {Ls : Array Slot} (hd : decode c.code pc = .ok (.return_, 1)) (hK : cells ≤ K) (hN : slots ≤ N)
    (hq : Q none T.heap locs) : own_Dn p e below s Q K N (T.setTop (mkF m pc Ls [])) :=
  own_ret X hlk (fun _ => rfl) hK hN hq (fun fs hr => X.returnOut hx hret hd hr)
theorem own_retA (X : Stand p l e R s m args below meth c T locs cells slots) (hx : p.tables.exec = Jvm.exec) {t : FieldType} (ht : t.isReference = true) (hret : meth.sig.returnType = some t) (hlk : meth.locks = false) {pc : Nat} {Ls : Array Slot} {w : Value} {rest : List Value} (hw : w.isRef = true) (hn : narrow t w = w) (hd : decode c.code pc = .ok (.areturn, 1)) (hK : cells ≤ K) (hN : slots ≤ N)
    (hq : Q (some w) T.heap locs) : own_Dn p e below s Q K N (T.setTop (mkF m pc Ls (w :: rest))) :=
  own_ret X hlk (fun h => by rw [hret] at h; cases h) hK hN hq (fun fs hr => retOut X hx hret hn (Or.inr (Or.inr (Or.inr (Or.inr ⟨rfl, ht, hw⟩)))) hd hr)
end own
theorem own_met {l : Launch} {Z : State} {a0 : Array Value} (hw : ∀ d ∈ tables_1, d.before a0 Z = true) {y : MethodName} {bytes : ByteArray} {ml : Nat} {ret : Option FieldType} {ws : List Jvm.Cond} {rm : Room} {as' : Array Value} {h0 : Heap} {Q : Option Value → Heap → List Loc → Prop} (hpl : plainFor y = true)
    (body : ∀ p e s m below meth c s₁, own_Cx p s m meth c Z a0 bytes ml y.cls y.name ret → Stand p l e rm s m as' below meth c s₁ [] 0 0 → s₁.heap = h0 → own_Dn p e below s Q rm.cells rm.slots (s₁.setTop (entryFrame m as' ml))) :
    MetFree l y (head1 (Jvm.Cond.code y bytes ml ret :: ws) rm) (fun a U => a = as' ∧ Z.Warmed39 U.vm ∧ U.heap = h0) (fun _ _ _ _ _ => True) (fun _ U o U' => ∃ v L, o = .returned v ∧ Q v U'.heap L ∧ FrameEnd U o U' L rm.cells rm.slots) := by
  refine MetFree.of_bodySF hpl hisR ?_
  intro p e s m args below meth c s₁ Bd hml0 hP hK
  obtain ⟨rfl, hZ, hh⟩ := hP
  exact body p e s m below meth c s₁ ⟨Bd.exec, hZ, hw, Bd.bytes, hml0, findClass_of_methodNamed Bd.named, Bd.returns, BodyLoose.notSynchronized Bd, (name_of_methodNamed Bd.named Bd.method).1⟩ (Stand.of_body Bd) (by rw [← hh, Bd.state]; rfl)
theorem own_jtlt {x y : Int64} (h : x < y) : ifCond.holds .lt (lcmpW x y) = true ∧ ifCond.holds .ge (lcmpW x y) = false ∧ ifCond.holds .gt (lcmpW y x) = true ∧ ifCond.holds .le (lcmpW y x) = false := by
  have h1 : lcmpW x y < 0 := by rw [lcW]; exact (lc_lt x y).mpr h
  have h2 : 0 < lcmpW y x := by rw [lcW]; exact (lc_gt y x).mpr h
  exact ⟨(if0 _ _).trans (tlt h1).1, (if0 _ _).trans (tlt h1).2.1, (if0 _ _).trans (tlt h2).2.2.1, (if0 _ _).trans (tlt h2).2.2.2⟩
theorem own_jflt {x y : Int64} (h : ¬ x < y) : ifCond.holds .lt (lcmpW x y) = false ∧ ifCond.holds .ge (lcmpW x y) = true ∧ ifCond.holds .gt (lcmpW y x) = false ∧ ifCond.holds .le (lcmpW y x) = true := by
  have h1 : ¬ lcmpW x y < 0 := by rw [lcW]; exact fun q => h ((lc_lt x y).mp q)
  have h2 : ¬ 0 < lcmpW y x := by rw [lcW]; exact fun q => h ((lc_gt y x).mp q)
  exact ⟨(if0 _ _).trans (flt h1).1, (if0 _ _).trans (flt h1).2.1, (if0 _ _).trans (flt h2).2.2.1, (if0 _ _).trans (flt h2).2.2.2⟩
theorem own_jteq {x y : Int64} (h : x = y) : ifCond.holds .eq (lcmpW x y) = true ∧ ifCond.holds .ne (lcmpW x y) = false := by
  have h1 : lcmpW x y = 0 := by rw [lcW]; exact (lc_eq x y).mpr h
  exact ⟨(if0 _ _).trans (teq h1).1, (if0 _ _).trans (teq h1).2⟩
theorem own_jfeq {x y : Int64} (h : ¬ x = y) : ifCond.holds .eq (lcmpW x y) = false ∧ ifCond.holds .ne (lcmpW x y) = true := by
  have h1 : ¬ lcmpW x y = 0 := by rw [lcW]; exact fun q => h ((lc_eq x y).mp q)
  exact ⟨(if0 _ _).trans (feq h1).1, (if0 _ _).trans (feq h1).2⟩
theorem own_miss (a : Int32) (ks : List Int32) (h : ∀ k ∈ ks, ¬ a = k) {ps : List (Int × Int)} (e : ps.map (·.1) = ks.map Int32.toInt) : ∀ p ∈ ps, p.1 ≠ a.toInt := by
  intro p hp q
  have h1 : p.1 ∈ ps.map (·.1) := List.mem_map.mpr ⟨p, hp, rfl⟩
  rw [e] at h1
  obtain ⟨k, hk, r⟩ := List.mem_map.mp h1
  exact h k hk (Int32.toInt_inj.mp (q.symm.trans r.symm))
theorem own_Sta_keep {Z : State} {h h' : Heap} {C n d : String} {v : Value} {a : Addr} {C' : String} (F : Sta Z h C n d v) (K : Keep h h' [a]) (E : Exa Z h a C') : Sta Z h' C n d v := by
  obtain ⟨cf, i, k, f, st, cell, h1, h2, h3, h4, h5, h6, h7⟩ := F
  obtain ⟨cl, k', e1, -, -, e4, -⟩ := E
  refine ⟨cf, i, k, f, st, cell, h1, h2, h3, h4, K.2.1 _ _ h5 (ninS (fun q => ?_) nin0), h6, h7⟩
  subst q
  cases h5.symm.trans e1
  rw [h6] at e4; cases e4
theorem own_Sta_keep0 {Z : State} {h h' : Heap} {C n d : String} {v : Value} (F : Sta Z h C n d v) (K : Keep h h' []) : Sta Z h' C n d v := by
  obtain ⟨cf, i, k, f, st, cell, h1, h2, h3, h4, h5, h6, h7⟩ := F
  exact ⟨cf, i, k, f, st, cell, h1, h2, h3, h4, K.2.1 _ _ h5 nin0, h6, h7⟩
theorem own_ne_or {r x : Addr} {ws : List Addr} {H : Heap} (h : r ∈ ws ∨ H.size ≤ r) (hl : x < H.size) (hn : x ∉ ws) : x ≠ r := fun e => h.elim (fun q => hn (e ▸ q)) (fun q => Nat.lt_irrefl _ (Nat.lt_of_lt_of_le (e ▸ hl) q))
theorem own_or_up {r : Addr} {ws ws' : List Addr} {h0 H : Heap} (h : r ∈ ws ∨ H.size ≤ r) (hk : h0.size ≤ H.size) (all : ∀ x ∈ ws, x ∈ ws' ∨ h0.size ≤ x) : r ∈ ws' ∨ h0.size ≤ r := h.elim (all r) (fun q => Or.inr (Nat.le_trans hk q))
theorem own_selp {Z s : State} {a0 args : Array Value} {y : MethodName} {n : Nat} (hZ : Z.Warmed39 s.vm) (w1 : (Cond.instantiable y.cls n).before a0 Z = true) (w2 : (Cond.instanceMethod y).before a0 Z = true) (w3 : (Cond.privateMethod y).before a0 Z = true) (hy : y.cls ≠ "java/lang/invoke/MethodHandle" ∧ y.cls ≠ "java/lang/invoke/VarHandle") : (Cond.selects y.cls y y).before args s = true := by
  have i1 : (Cond.instantiable y.cls n).before args s = true := mvT hZ w1
  obtain ⟨c, k, h1, h2, -, h4, -, -⟩ := Cond.instantiable_spec i1
  have h5 : k.isInterface = false := by
    cases hk : k.isInterface
    · rfl
    · rw [hk] at h4; simp at h4
  exact selects_self_of_private h1 h2 h5 (Cond.privateMethod_at (mvP hZ w3 (args := args))) (mvT hZ w2) hy

theorem own_pd0 : parseMethodDescriptor "()V" = some ⟨[], none⟩ := by decide +kernel
theorem own_pd1 : parseMethodDescriptor "(Lcom/example/stierlin/stierlin/protocol/ApiKey;SS)V" = some ⟨[(.object "com/example/stierlin/stierlin/protocol/ApiKey"), .short, .short], none⟩ := by decide +kernel
theorem own_pd2 : parseMethodDescriptor "(S)Z" = some ⟨[.short], some .boolean⟩ := by decide +kernel
theorem own_pd3 : parseMethodDescriptor "(II)I" = some ⟨[.int, .int], some .int⟩ := by decide +kernel
theorem ri_d0 : decode jdk_30_method_1_code 0 = .ok (.aload_n 0, 1) := by decide +kernel
theorem ri_d1 : decode jdk_30_method_1_code 1 = .ok (.invokespecial 1, 3) := by decide +kernel
theorem ri_d4 : decode jdk_30_method_1_code 4 = .ok (.return_, 1) := by decide +kernel
set_option maxRecDepth 65536 in
set_option maxHeartbeats 40000000 in
theorem ri_c0 {l : Launch} {Z : State} {a0 : Array Value} {b0 : Addr} {h0 : Heap} {n0 : Nat} {p : Program} {e : Env} {s : State} {m : MethodId} {args : Array Value} {below : List Frame} {meth : Method} {c : Code} {T0 : State} {locs : List Loc} (C0 : own_Cx p s m meth c Z a0 jdk_30_method_1_code 1 "java/lang/Record" "<init>" none) (X0 : Stand p l e ({ frames := 1, cells := 0, slots := 0, locals := 12 } : Room) s m args below meth c T0 locs 0 0) (e0 : T0.heap = h0) (N0 : Fr n0 locs)  (Z0 : n0 ≤ h0.size) :
    own_Dn p e below s (own_Q none n0 h0) ({ frames := 1, cells := 0, slots := 0, locals := 12 } : Room).cells ({ frames := 1, cells := 0, slots := 0, locals := 12 } : Room).slots (T0.setTop (mkF m 0 #[.val (.ref b0)] [])) := by
  obtain ⟨hx, hZ, hw, hby, hml, hown, hret, hlk, hnm⟩ := id C0
  refine own_st (fun _ k => XS.aloadN X0.here hx rfl (hb hby ri_d0) rfl rfl k) ?_
  show own_Dn p e below s _ _ _ (T0.setTop (mkF m 1 #[.val (.ref b0)] [(.ref b0)]))
  obtain ⟨T2, X2, e2, st2⟩ := initO X0 hx hZ hown (hw _ (List.mem_of_getElem? (i := 11) rfl)) (hw _ (List.mem_of_getElem? (i := 12) rfl)) (hw _ (List.mem_of_getElem? (i := 13) rfl)) e0 (g := (mkF m 1 #[.val (.ref b0)] [(.ref b0)])) rfl (by rw [hml]; rfl) rfl (hb hby ri_d1) (by decide) (W := 0) (by show 2 * 0 + _ ≤ _; exact Nat.le_of_eq rfl) (by decide)
  refine own_st st2 ?_
  show own_Dn p e below s _ _ _ (T2.setTop (mkF m 4 #[.val (.ref b0)] []))
  exact own_retV X2 hx hret hlk (hb hby ri_d4) (by decide) (by decide) ⟨rfl, N0, e2⟩
theorem ri_ef (m : MethodId) (b0 : Addr) : entryFrame m #[(.ref b0)] 1 = mkF m 0 #[.val (.ref b0)] [] := by first | (simp [entryFrame, mkF, argsToLocals, Value.category]; done) | rfl
theorem ri_rm (l : Launch) (Z : State) (a0 : Array Value) (hw : ∀ d ∈ tables_1, d.before a0 Z = true) (ws : List Jvm.Cond) (b0 : Addr) (h0 : Heap) (n0 : Nat) (Z0 : n0 ≤ h0.size) :
    MetFree l (⟨"java/lang/Record", "<init>", "()V"⟩ : MethodName) (head1 (Jvm.Cond.code (⟨"java/lang/Record", "<init>", "()V"⟩ : MethodName) jdk_30_method_1_code 1 none :: ws) ({ frames := 1, cells := 0, slots := 0, locals := 12 } : Room)) (fun a U => a = #[(.ref b0)] ∧ Z.Warmed39 U.vm ∧ U.heap = h0) (fun _ _ _ _ _ => True) (fun _ U o U' => ∃ v L, o = .returned v ∧ (own_Q none n0 h0) v U'.heap L ∧ FrameEnd U o U' L ({ frames := 1, cells := 0, slots := 0, locals := 12 } : Room).cells ({ frames := 1, cells := 0, slots := 0, locals := 12 } : Room).slots) :=
  own_met hw (plainFor_of_name (by first | (simp [plainName, overriddenIn]; done) | decide +kernel)) (fun p e s m below meth c T0 C0 X0 e0 => own_st (fun _ k => castTop (ri_ef m b0) k) (ri_c0 C0 X0 e0 (Fr.nil n0) Z0 ))
theorem vi_d0 : decode prog_24_method_2_code 0 = .ok (.aload_n 0, 1) := by decide +kernel
theorem vi_d1 : decode prog_24_method_2_code 1 = .ok (.invokespecial 1, 3) := by decide +kernel
theorem vi_d4 : decode prog_24_method_2_code 4 = .ok (.aload_n 0, 1) := by decide +kernel
theorem vi_d5 : decode prog_24_method_2_code 5 = .ok (.aload_n 1, 1) := by decide +kernel
theorem vi_d6 : decode prog_24_method_2_code 6 = .ok (.putfield 7, 3) := by decide +kernel
theorem vi_d9 : decode prog_24_method_2_code 9 = .ok (.aload_n 0, 1) := by decide +kernel
theorem vi_d10 : decode prog_24_method_2_code 10 = .ok (.iload_n 2, 1) := by decide +kernel
theorem vi_d11 : decode prog_24_method_2_code 11 = .ok (.putfield 13, 3) := by decide +kernel
theorem vi_d14 : decode prog_24_method_2_code 14 = .ok (.aload_n 0, 1) := by decide +kernel
theorem vi_d15 : decode prog_24_method_2_code 15 = .ok (.iload_n 3, 1) := by decide +kernel
theorem vi_d16 : decode prog_24_method_2_code 16 = .ok (.putfield 17, 3) := by decide +kernel
theorem vi_d19 : decode prog_24_method_2_code 19 = .ok (.return_, 1) := by decide +kernel
def vi_Q (Z : State) (b0 : Addr) (p2 : Int32) (p3 : Int32) (h0 : Heap) (n0 : Nat) (v : Option Value) (h : Heap) (L : List Loc) : Prop := v = none ∧ Fr n0 L ∧ Keep h0 h [b0] ∧ Exa Z h b0 "com/example/stierlin/stierlin/protocol/ApiVersionRange" ∧ Fld Z h b0 "com/example/stierlin/stierlin/protocol/ApiVersionRange" "minVersion" "S" (.int p2) ∧ Fld Z h b0 "com/example/stierlin/stierlin/protocol/ApiVersionRange" "maxVersion" "S" (.int p3)
set_option maxRecDepth 65536 in
set_option maxHeartbeats 40000000 in
theorem vi_c0 {l : Launch} {Z : State} {a0 : Array Value} {b0 : Addr} {p2 : Int32} {p3 : Int32} {h0 : Heap} {n0 : Nat} {p : Program} {e : Env} {s : State} {m : MethodId} {args : Array Value} {below : List Frame} {meth : Method} {c : Code} {T0 : State} {locs : List Loc} (C0 : own_Cx p s m meth c Z a0 prog_24_method_2_code 4 "com/example/stierlin/stierlin/protocol/ApiVersionRange" "<init>" none) (X0 : Stand p l e ({ frames := 2, cells := 0, slots := 0, locals := 24 } : Room) s m args below meth c T0 locs 0 0) (e0 : T0.heap = h0) (N0 : Fr n0 locs)  (Z0 : n0 ≤ h0.size) (P0 : Exa Z h0 b0 "com/example/stierlin/stierlin/protocol/ApiVersionRange") (P1 : Fld Z h0 b0 "com/example/stierlin/stierlin/protocol/ApiVersionRange" "api" "Lcom/example/stierlin/stierlin/protocol/ApiKey;" .null) (P2 : Fld Z h0 b0 "com/example/stierlin/stierlin/protocol/ApiVersionRange" "minVersion" "S" (.int (0 : Int32))) (P3 : Fld Z h0 b0 "com/example/stierlin/stierlin/protocol/ApiVersionRange" "maxVersion" "S" (.int (0 : Int32))) (ge_b0 : n0 ≤ b0) (hs2 : p2.toInt16.toInt32 = p2) (hs3 : p3.toInt16.toInt32 = p3) :
    own_Dn p e below s (vi_Q Z b0 p2 p3 h0 n0) ({ frames := 2, cells := 0, slots := 0, locals := 24 } : Room).cells ({ frames := 2, cells := 0, slots := 0, locals := 24 } : Room).slots (T0.setTop (mkF m 0 #[.val (.ref b0), .val .null, .val (.int p2), .val (.int p3)] [])) := by
  obtain ⟨hx, hZ, hw, hby, hml, hown, hret, hlk, hnm⟩ := id C0
  refine own_st (fun _ k => XS.aloadN X0.here hx rfl (hb hby vi_d0) rfl rfl k) ?_
  show own_Dn p e below s _ _ _ (T0.setTop (mkF m 1 #[.val (.ref b0), .val .null, .val (.int p2), .val (.int p3)] [(.ref b0)]))
  obtain ⟨_, _, ⟨T23, L23, k23, n23⟩, -, X23, ⟨Lc23, hQ23, l23, y23, z23⟩, st23⟩ := X0.specialBack hx (y := (⟨"java/lang/Record", "<init>", "()V"⟩ : MethodName)) rfl hown (mvT hZ (hw _ (List.mem_of_getElem? (i := 6) rfl))) (mvT hZ (hw _ (List.mem_of_getElem? (i := 7) rfl))) (mvT hZ (hw _ (List.mem_of_getElem? (i := 10) rfl))) (by decide) (backOf (W := 0) (ri_rm l Z a0 hw [] (b0) h0 n0 Z0 ) hZ (hw _ (List.mem_of_getElem? (i := 10) rfl)) (hw _ (List.mem_of_getElem? (i := 9) rfl)) (by decide) (by decide)) (g := (mkF m 1 #[.val (.ref b0), .val .null, .val (.int p2), .val (.int p3)] [(.ref b0)])) rfl (by rw [hml]; rfl) (Steps.refl _) (a := b0) (argsL := []) (rest := []) (lenOf own_pd0 rfl) rfl (by show 2 * 0 + _ ≤ _; exact Nat.le_of_eq rfl) (hb hby vi_d1) (fun _ _ => ⟨rfl, e0, (by decide : 0 + 0 ≤ _), (by decide : 0 + 0 ≤ _)⟩)
  dsimp only [Pt.U, Pt.locs, Pt.cells, Pt.slots] at X23 l23 y23 z23 st23 hQ23
  subst l23 y23 z23
  obtain ⟨rfl, N23q, e23⟩ := hQ23
  have N23 := Fr.app N0 N23q
  refine own_tr st23 ?_
  show own_Dn p e below s _ _ _ (T23.setTop (mkF m 4 #[.val (.ref b0), .val .null, .val (.int p2), .val (.int p3)] []))
  refine own_st (fun _ k => XS.aloadN X23.here hx rfl (hb hby vi_d4) rfl rfl (XS.aloadN X23.here hx rfl (hb hby vi_d5) rfl rfl k)) ?_
  show own_Dn p e below s _ _ _ (T23.setTop (mkF m 6 #[.val (.ref b0), .val .null, .val (.int p2), .val (.int p3)] [.null, (.ref b0)]))
  obtain ⟨T24, h24, X24, e24, W24, st24⟩ := putF X23 hx hZ hown (host := "") (Or.inl (hw _ (List.mem_of_getElem? (i := 14) rfl))) Via.refl e23 P1 P0 (Or.inr ⟨(hw _ (List.mem_of_getElem? (i := 15) rfl)), rfl, hnm⟩) (hw _ (List.mem_of_getElem? (i := 1) rfl)) (ty := (.object "com/example/stierlin/stierlin/protocol/ApiKey")) (v := .null) (by decide) rfl rfl (g := (mkF m 6 #[.val (.ref b0), .val .null, .val (.int p2), .val (.int p3)] [.null, (.ref b0)])) rfl rfl (hb hby vi_d6)
  have N24 := Fr.snoc X24 N23 ge_b0
  have F25 : n0 ≤ h24.size := Nat.le_trans Z0 (Keep.of_wr W24).1
  have F26 : Exa Z h24 b0 "com/example/stierlin/stierlin/protocol/ApiVersionRange" := P0.wr W24
  have F27 : Fld Z h24 b0 "com/example/stierlin/stierlin/protocol/ApiVersionRange" "api" "Lcom/example/stierlin/stierlin/protocol/ApiKey;" .null := P1.same W24
  have F28 : Fld Z h24 b0 "com/example/stierlin/stierlin/protocol/ApiVersionRange" "minVersion" "S" (.int (0 : Int32)) := P2.other W24 (Or.inr (slot_ne (Or.inr (hw _ (List.mem_of_getElem? (i := 17) rfl))) (Or.inr (hw _ (List.mem_of_getElem? (i := 15) rfl))) (by decide) (t := .short) (t' := (.object "com/example/stierlin/stierlin/protocol/ApiKey")) (by decide) (by decide)))
  have F29 : Fld Z h24 b0 "com/example/stierlin/stierlin/protocol/ApiVersionRange" "maxVersion" "S" (.int (0 : Int32)) := P3.other W24 (Or.inr (slot_ne (Or.inr (hw _ (List.mem_of_getElem? (i := 19) rfl))) (Or.inr (hw _ (List.mem_of_getElem? (i := 15) rfl))) (by decide) (t := .short) (t' := (.object "com/example/stierlin/stierlin/protocol/ApiKey")) (by decide) (by decide)))
  have F30 : Keep h0 h24 [b0] := (Keep.refl h0 [b0]).wr W24 (Or.inl (List.mem_of_getElem? (i := 0) rfl))
  refine own_st st24 ?_
  show own_Dn p e below s _ _ _ (T24.setTop (mkF m 9 #[.val (.ref b0), .val .null, .val (.int p2), .val (.int p3)] []))
  refine own_st (fun _ k => XS.aloadN X24.here hx rfl (hb hby vi_d9) rfl rfl (XS.iloadN X24.here hx rfl (hb hby vi_d10) rfl k)) ?_
  show own_Dn p e below s _ _ _ (T24.setTop (mkF m 11 #[.val (.ref b0), .val .null, .val (.int p2), .val (.int p3)] [(.int p2), (.ref b0)]))
  obtain ⟨T31, h31, X31, e31, W31, st31⟩ := putF X24 hx hZ hown (host := "") (Or.inl (hw _ (List.mem_of_getElem? (i := 16) rfl))) Via.refl e24 F28 F26 (Or.inr ⟨(hw _ (List.mem_of_getElem? (i := 17) rfl)), rfl, hnm⟩) (hw _ (List.mem_of_getElem? (i := 1) rfl)) (ty := .short) (v := (.int p2)) (by decide) (congrArg Value.int hs2) (by rw [← hs2]; exact fits_nar_short _) (g := (mkF m 11 #[.val (.ref b0), .val .null, .val (.int p2), .val (.int p3)] [(.int p2), (.ref b0)])) rfl rfl (hb hby vi_d11)
  have N31 := Fr.snoc X31 N24 ge_b0
  have F32 : n0 ≤ h31.size := Nat.le_trans F25 (Keep.of_wr W31).1
  have F33 : Exa Z h31 b0 "com/example/stierlin/stierlin/protocol/ApiVersionRange" := F26.wr W31
  have F34 : Fld Z h31 b0 "com/example/stierlin/stierlin/protocol/ApiVersionRange" "api" "Lcom/example/stierlin/stierlin/protocol/ApiKey;" .null := F27.other W31 (Or.inr (slot_ne (Or.inr (hw _ (List.mem_of_getElem? (i := 15) rfl))) (Or.inr (hw _ (List.mem_of_getElem? (i := 17) rfl))) (by decide) (t := (.object "com/example/stierlin/stierlin/protocol/ApiKey")) (t' := .short) (by decide) (by decide)))
  have F35 : Fld Z h31 b0 "com/example/stierlin/stierlin/protocol/ApiVersionRange" "minVersion" "S" (.int p2) := F28.same W31
  have F36 : Fld Z h31 b0 "com/example/stierlin/stierlin/protocol/ApiVersionRange" "maxVersion" "S" (.int (0 : Int32)) := F29.other W31 (Or.inr (slot_ne (Or.inr (hw _ (List.mem_of_getElem? (i := 19) rfl))) (Or.inr (hw _ (List.mem_of_getElem? (i := 17) rfl))) (by decide) (t := .short) (t' := .short) (by decide) (by decide)))
  have F37 : Keep h0 h31 [b0] := F30.wr W31 (Or.inl (List.mem_of_getElem? (i := 0) rfl))
  refine own_st st31 ?_
  show own_Dn p e below s _ _ _ (T31.setTop (mkF m 14 #[.val (.ref b0), .val .null, .val (.int p2), .val (.int p3)] []))
  refine own_st (fun _ k => XS.aloadN X31.here hx rfl (hb hby vi_d14) rfl rfl (XS.iloadN X31.here hx rfl (hb hby vi_d15) rfl k)) ?_
  show own_Dn p e below s _ _ _ (T31.setTop (mkF m 16 #[.val (.ref b0), .val .null, .val (.int p2), .val (.int p3)] [(.int p3), (.ref b0)]))
  obtain ⟨T38, h38, X38, e38, W38, st38⟩ := putF X31 hx hZ hown (host := "") (Or.inl (hw _ (List.mem_of_getElem? (i := 18) rfl))) Via.refl e31 F36 F33 (Or.inr ⟨(hw _ (List.mem_of_getElem? (i := 19) rfl)), rfl, hnm⟩) (hw _ (List.mem_of_getElem? (i := 1) rfl)) (ty := .short) (v := (.int p3)) (by decide) (congrArg Value.int hs3) (by rw [← hs3]; exact fits_nar_short _) (g := (mkF m 16 #[.val (.ref b0), .val .null, .val (.int p2), .val (.int p3)] [(.int p3), (.ref b0)])) rfl rfl (hb hby vi_d16)
  have N38 := Fr.snoc X38 N31 ge_b0
  have F39 : n0 ≤ h38.size := Nat.le_trans F32 (Keep.of_wr W38).1
  have F40 : Exa Z h38 b0 "com/example/stierlin/stierlin/protocol/ApiVersionRange" := F33.wr W38
  have F41 : Fld Z h38 b0 "com/example/stierlin/stierlin/protocol/ApiVersionRange" "api" "Lcom/example/stierlin/stierlin/protocol/ApiKey;" .null := F34.other W38 (Or.inr (slot_ne (Or.inr (hw _ (List.mem_of_getElem? (i := 15) rfl))) (Or.inr (hw _ (List.mem_of_getElem? (i := 19) rfl))) (by decide) (t := (.object "com/example/stierlin/stierlin/protocol/ApiKey")) (t' := .short) (by decide) (by decide)))
  have F42 : Fld Z h38 b0 "com/example/stierlin/stierlin/protocol/ApiVersionRange" "minVersion" "S" (.int p2) := F35.other W38 (Or.inr (slot_ne (Or.inr (hw _ (List.mem_of_getElem? (i := 17) rfl))) (Or.inr (hw _ (List.mem_of_getElem? (i := 19) rfl))) (by decide) (t := .short) (t' := .short) (by decide) (by decide)))
  have F43 : Fld Z h38 b0 "com/example/stierlin/stierlin/protocol/ApiVersionRange" "maxVersion" "S" (.int p3) := F36.same W38
  have F44 : Keep h0 h38 [b0] := F37.wr W38 (Or.inl (List.mem_of_getElem? (i := 0) rfl))
  refine own_st st38 ?_
  show own_Dn p e below s _ _ _ (T38.setTop (mkF m 19 #[.val (.ref b0), .val .null, .val (.int p2), .val (.int p3)] []))
  have eqH : T38.heap = h38 := e38
  exact own_retV X38 hx hret hlk (hb hby vi_d19) (by decide) (by decide) (by rw [eqH]; exact ⟨rfl, N38, F44, F40, F42, F43⟩)
theorem vi_ef (m : MethodId) (b0 : Addr) (p2 : Int32) (p3 : Int32) : entryFrame m #[(.ref b0), .null, (.int p2), (.int p3)] 4 = mkF m 0 #[.val (.ref b0), .val .null, .val (.int p2), .val (.int p3)] [] := by first | (simp [entryFrame, mkF, argsToLocals, Value.category]; done) | rfl
theorem vi_rm (l : Launch) (Z : State) (a0 : Array Value) (hw : ∀ d ∈ tables_1, d.before a0 Z = true) (ws : List Jvm.Cond) (b0 : Addr) (p2 : Int32) (p3 : Int32) (h0 : Heap) (n0 : Nat) (Z0 : n0 ≤ h0.size) (P0 : Exa Z h0 b0 "com/example/stierlin/stierlin/protocol/ApiVersionRange") (P1 : Fld Z h0 b0 "com/example/stierlin/stierlin/protocol/ApiVersionRange" "api" "Lcom/example/stierlin/stierlin/protocol/ApiKey;" .null) (P2 : Fld Z h0 b0 "com/example/stierlin/stierlin/protocol/ApiVersionRange" "minVersion" "S" (.int (0 : Int32))) (P3 : Fld Z h0 b0 "com/example/stierlin/stierlin/protocol/ApiVersionRange" "maxVersion" "S" (.int (0 : Int32))) (ge_b0 : n0 ≤ b0) (hs2 : p2.toInt16.toInt32 = p2) (hs3 : p3.toInt16.toInt32 = p3) :
    MetFree l (⟨"com/example/stierlin/stierlin/protocol/ApiVersionRange", "<init>", "(Lcom/example/stierlin/stierlin/protocol/ApiKey;SS)V"⟩ : MethodName) (head1 (Jvm.Cond.code (⟨"com/example/stierlin/stierlin/protocol/ApiVersionRange", "<init>", "(Lcom/example/stierlin/stierlin/protocol/ApiKey;SS)V"⟩ : MethodName) prog_24_method_2_code 4 none :: ws) ({ frames := 2, cells := 0, slots := 0, locals := 24 } : Room)) (fun a U => a = #[(.ref b0), .null, (.int p2), (.int p3)] ∧ Z.Warmed39 U.vm ∧ U.heap = h0) (fun _ _ _ _ _ => True) (fun _ U o U' => ∃ v L, o = .returned v ∧ (vi_Q Z b0 p2 p3 h0 n0) v U'.heap L ∧ FrameEnd U o U' L ({ frames := 2, cells := 0, slots := 0, locals := 24 } : Room).cells ({ frames := 2, cells := 0, slots := 0, locals := 24 } : Room).slots) :=
  own_met hw (plainFor_of_name (by first | (simp [plainName, overriddenIn]; done) | decide +kernel)) (fun p e s m below meth c T0 C0 X0 e0 => own_st (fun _ k => castTop (vi_ef m b0 p2 p3) k) (vi_c0 C0 X0 e0 (Fr.nil n0) Z0 P0 P1 P2 P3 ge_b0 hs2 hs3))
theorem cn_d0 : decode prog_24_method_3_code 0 = .ok (.iload_n 1, 1) := by decide +kernel
theorem cn_d1 : decode prog_24_method_3_code 1 = .ok (.aload_n 0, 1) := by decide +kernel
theorem cn_d2 : decode prog_24_method_3_code 2 = .ok (.getfield 13, 3) := by decide +kernel
theorem cn_d5 : decode prog_24_method_3_code 5 = .ok (.if_icmp .lt 15, 3) := by decide +kernel
theorem cn_d8 : decode prog_24_method_3_code 8 = .ok (.iload_n 1, 1) := by decide +kernel
theorem cn_d9 : decode prog_24_method_3_code 9 = .ok (.aload_n 0, 1) := by decide +kernel
theorem cn_d10 : decode prog_24_method_3_code 10 = .ok (.getfield 17, 3) := by decide +kernel
theorem cn_d13 : decode prog_24_method_3_code 13 = .ok (.if_icmp .gt 7, 3) := by decide +kernel
theorem cn_d16 : decode prog_24_method_3_code 16 = .ok (.iconst 1, 1) := by decide +kernel
theorem cn_d17 : decode prog_24_method_3_code 17 = .ok (.goto 4, 3) := by decide +kernel
theorem cn_d20 : decode prog_24_method_3_code 20 = .ok (.iconst 0, 1) := by decide +kernel
theorem cn_d21 : decode prog_24_method_3_code 21 = .ok (.ireturn, 1) := by decide +kernel
def cn_f (p1 : Int32) (w_n : Int32) (w_x : Int32)  : Int32 :=
  if p1 < w_n then
    (0 : Int32)
  else
    if w_x < p1 then
      (0 : Int32)
    else
      (1 : Int32)
set_option maxRecDepth 65536 in
set_option maxHeartbeats 40000000 in
theorem cn_c0 {l : Launch} {Z : State} {a0 : Array Value} {b0 : Addr} {p1 : Int32} {w_n : Int32} {w_x : Int32} {h0 : Heap} {n0 : Nat} {p : Program} {e : Env} {s : State} {m : MethodId} {args : Array Value} {below : List Frame} {meth : Method} {c : Code} {T0 : State} {locs : List Loc} {r0 : Int32} (C0 : own_Cx p s m meth c Z a0 prog_24_method_3_code 2 "com/example/stierlin/stierlin/protocol/ApiVersionRange" "contains" (some .boolean)) (X0 : Stand p l e ({ frames := 0, cells := 0, slots := 0, locals := 0 } : Room) s m args below meth c T0 locs 0 0) (e0 : T0.heap = h0) (N0 : Fr n0 locs)  (Z0 : n0 ≤ h0.size) (P0 : Fld Z h0 b0 "com/example/stierlin/stierlin/protocol/ApiVersionRange" "minVersion" "S" (.int w_n)) (P1 : Fld Z h0 b0 "com/example/stierlin/stierlin/protocol/ApiVersionRange" "maxVersion" "S" (.int w_x)) (hr0 : r0 = cn_f p1 w_n w_x ) :
    own_Dn p e below s (own_Q (some (.int r0)) n0 h0) ({ frames := 0, cells := 0, slots := 0, locals := 0 } : Room).cells ({ frames := 0, cells := 0, slots := 0, locals := 0 } : Room).slots (T0.setTop (mkF m 0 #[.val (.ref b0), .val (.int p1)] [])) := by
  obtain ⟨hx, hZ, hw, hby, hml, hown, hret, hlk, hnm⟩ := id C0
  refine own_st (fun _ k => XS.iloadN X0.here hx rfl (hb hby cn_d0) rfl (XS.aloadN X0.here hx rfl (hb hby cn_d1) rfl rfl k)) ?_
  show own_Dn p e below s _ _ _ (T0.setTop (mkF m 2 #[.val (.ref b0), .val (.int p1)] [(.ref b0), (.int p1)]))
  obtain ⟨T5, X5, e5, st5⟩ := getF X0 hx hZ hown (host := "") (Or.inl (hw _ (List.mem_of_getElem? (i := 16) rfl))) Via.refl e0 P0 (g := (mkF m 2 #[.val (.ref b0), .val (.int p1)] [(.ref b0), (.int p1)])) rfl rfl (hb hby cn_d2)
  refine own_st st5 ?_
  show own_Dn p e below s _ _ _ (T5.setTop (mkF m 5 #[.val (.ref b0), .val (.int p1)] [(.int w_n), (.int p1)]))
  by_cases hc6 : p1 < w_n
  · refine own_st (fun _ k => XS.icmpYes X5.here hx rfl (pc0 := 5) (pc' := 20) rfl (hb hby cn_d5) rfl (tlt hc6).1 (by decide) (by decide) k) ?_
    show own_Dn p e below s _ _ _ (T5.setTop (mkF m 20 #[.val (.ref b0), .val (.int p1)] []))
    refine own_st (fun _ k => XS.iconst X5.here hx rfl (hb hby cn_d20) k) ?_
    show own_Dn p e below s _ _ _ (T5.setTop (mkF m 21 #[.val (.ref b0), .val (.int p1)] [(.int (0 : Int32))]))
    exact own_retZ X5 hx hret hlk (by decide) (hb hby cn_d21) (by decide) (by decide) ⟨(by rw [hr0, cn_f, if_pos hc6]), N0, e5⟩
  · refine own_st (fun _ k => XS.icmpNo X5.here hx rfl (hb hby cn_d5) rfl (flt hc6).1 k) ?_
    show own_Dn p e below s _ _ _ (T5.setTop (mkF m 8 #[.val (.ref b0), .val (.int p1)] []))
    refine own_st (fun _ k => XS.iloadN X5.here hx rfl (hb hby cn_d8) rfl (XS.aloadN X5.here hx rfl (hb hby cn_d9) rfl rfl k)) ?_
    show own_Dn p e below s _ _ _ (T5.setTop (mkF m 10 #[.val (.ref b0), .val (.int p1)] [(.ref b0), (.int p1)]))
    obtain ⟨T7, X7, e7, st7⟩ := getF X5 hx hZ hown (host := "") (Or.inl (hw _ (List.mem_of_getElem? (i := 18) rfl))) Via.refl e5 P1 (g := (mkF m 10 #[.val (.ref b0), .val (.int p1)] [(.ref b0), (.int p1)])) rfl rfl (hb hby cn_d10)
    refine own_st st7 ?_
    show own_Dn p e below s _ _ _ (T7.setTop (mkF m 13 #[.val (.ref b0), .val (.int p1)] [(.int w_x), (.int p1)]))
    by_cases hc8 : w_x < p1
    · refine own_st (fun _ k => XS.icmpYes X7.here hx rfl (pc0 := 13) (pc' := 20) rfl (hb hby cn_d13) rfl (tlt hc8).2.2.1 (by decide) (by decide) k) ?_
      show own_Dn p e below s _ _ _ (T7.setTop (mkF m 20 #[.val (.ref b0), .val (.int p1)] []))
      refine own_st (fun _ k => XS.iconst X7.here hx rfl (hb hby cn_d20) k) ?_
      show own_Dn p e below s _ _ _ (T7.setTop (mkF m 21 #[.val (.ref b0), .val (.int p1)] [(.int (0 : Int32))]))
      exact own_retZ X7 hx hret hlk (by decide) (hb hby cn_d21) (by decide) (by decide) ⟨(by rw [hr0, cn_f, if_neg hc6, if_pos hc8]), N0, e7⟩
    · refine own_st (fun _ k => XS.icmpNo X7.here hx rfl (hb hby cn_d13) rfl (flt hc8).2.2.1 k) ?_
      show own_Dn p e below s _ _ _ (T7.setTop (mkF m 16 #[.val (.ref b0), .val (.int p1)] []))
      refine own_st (fun _ k => XS.iconst X7.here hx rfl (hb hby cn_d16) (XS.goto X7.here hx rfl (pc0 := 17) (pc' := 21) rfl (hb hby cn_d17) (by decide) (by decide) k)) ?_
      show own_Dn p e below s _ _ _ (T7.setTop (mkF m 21 #[.val (.ref b0), .val (.int p1)] [(.int (1 : Int32))]))
      exact own_retZ X7 hx hret hlk (by decide) (hb hby cn_d21) (by decide) (by decide) ⟨(by rw [hr0, cn_f, if_neg hc6, if_neg hc8]), N0, e7⟩
theorem cn_ef (m : MethodId) (b0 : Addr) (p1 : Int32) : entryFrame m #[(.ref b0), (.int p1)] 2 = mkF m 0 #[.val (.ref b0), .val (.int p1)] [] := by first | (simp [entryFrame, mkF, argsToLocals, Value.category]; done) | rfl
theorem cn_rm (l : Launch) (Z : State) (a0 : Array Value) (hw : ∀ d ∈ tables_1, d.before a0 Z = true) (ws : List Jvm.Cond) (b0 : Addr) (p1 : Int32) (w_n : Int32) (w_x : Int32) (h0 : Heap) (n0 : Nat) (Z0 : n0 ≤ h0.size) (P0 : Fld Z h0 b0 "com/example/stierlin/stierlin/protocol/ApiVersionRange" "minVersion" "S" (.int w_n)) (P1 : Fld Z h0 b0 "com/example/stierlin/stierlin/protocol/ApiVersionRange" "maxVersion" "S" (.int w_x)) :
    MetFree l (⟨"com/example/stierlin/stierlin/protocol/ApiVersionRange", "contains", "(S)Z"⟩ : MethodName) (head1 (Jvm.Cond.code (⟨"com/example/stierlin/stierlin/protocol/ApiVersionRange", "contains", "(S)Z"⟩ : MethodName) prog_24_method_3_code 2 (some .boolean) :: ws) ({ frames := 0, cells := 0, slots := 0, locals := 0 } : Room)) (fun a U => a = #[(.ref b0), (.int p1)] ∧ Z.Warmed39 U.vm ∧ U.heap = h0) (fun _ _ _ _ _ => True) (fun _ U o U' => ∃ v L, o = .returned v ∧ (own_Q (some (.int (cn_f p1 w_n w_x))) n0 h0) v U'.heap L ∧ FrameEnd U o U' L ({ frames := 0, cells := 0, slots := 0, locals := 0 } : Room).cells ({ frames := 0, cells := 0, slots := 0, locals := 0 } : Room).slots) :=
  own_met hw (plainFor_of_name (by first | (simp [plainName, overriddenIn]; done) | decide +kernel)) (fun p e s m below meth c T0 C0 X0 e0 => own_st (fun _ k => castTop (cn_ef m b0 p1) k) (cn_c0 C0 X0 e0 (Fr.nil n0) Z0 P0 P1 rfl))
theorem mx_d0 : decode jdk_29_method_65_code 0 = .ok (.iload_n 0, 1) := by decide +kernel
theorem mx_d1 : decode jdk_29_method_65_code 1 = .ok (.iload_n 1, 1) := by decide +kernel
theorem mx_d2 : decode jdk_29_method_65_code 2 = .ok (.if_icmp .lt 7, 3) := by decide +kernel
theorem mx_d5 : decode jdk_29_method_65_code 5 = .ok (.iload_n 0, 1) := by decide +kernel
theorem mx_d6 : decode jdk_29_method_65_code 6 = .ok (.goto 4, 3) := by decide +kernel
theorem mx_d9 : decode jdk_29_method_65_code 9 = .ok (.iload_n 1, 1) := by decide +kernel
theorem mx_d10 : decode jdk_29_method_65_code 10 = .ok (.ireturn, 1) := by decide +kernel
def mx_f (p0 : Int32) (p1 : Int32)  : Int32 :=
  if p0 < p1 then
    p1
  else
    p0
set_option maxRecDepth 65536 in
set_option maxHeartbeats 40000000 in
theorem mx_c0 {l : Launch} {Z : State} {a0 : Array Value} {p0 : Int32} {p1 : Int32} {h0 : Heap} {n0 : Nat} {p : Program} {e : Env} {s : State} {m : MethodId} {args : Array Value} {below : List Frame} {meth : Method} {c : Code} {T0 : State} {locs : List Loc} {r0 : Int32} (C0 : own_Cx p s m meth c Z a0 jdk_29_method_65_code 2 "java/lang/Math" "max" (some .int)) (X0 : Stand p l e ({ frames := 0, cells := 0, slots := 0, locals := 0 } : Room) s m args below meth c T0 locs 0 0) (e0 : T0.heap = h0) (N0 : Fr n0 locs)  (hr0 : r0 = mx_f p0 p1 ) :
    own_Dn p e below s (own_Q (some (.int r0)) n0 h0) ({ frames := 0, cells := 0, slots := 0, locals := 0 } : Room).cells ({ frames := 0, cells := 0, slots := 0, locals := 0 } : Room).slots (T0.setTop (mkF m 0 #[.val (.int p0), .val (.int p1)] [])) := by
  obtain ⟨hx, hZ, hw, hby, hml, hown, hret, hlk, hnm⟩ := id C0
  refine own_st (fun _ k => XS.iloadN X0.here hx rfl (hb hby mx_d0) rfl (XS.iloadN X0.here hx rfl (hb hby mx_d1) rfl k)) ?_
  show own_Dn p e below s _ _ _ (T0.setTop (mkF m 2 #[.val (.int p0), .val (.int p1)] [(.int p1), (.int p0)]))
  by_cases hc2 : p0 < p1
  · refine own_st (fun _ k => XS.icmpYes X0.here hx rfl (pc0 := 2) (pc' := 9) rfl (hb hby mx_d2) rfl (tlt hc2).1 (by decide) (by decide) k) ?_
    show own_Dn p e below s _ _ _ (T0.setTop (mkF m 9 #[.val (.int p0), .val (.int p1)] []))
    refine own_st (fun _ k => XS.iloadN X0.here hx rfl (hb hby mx_d9) rfl k) ?_
    show own_Dn p e below s _ _ _ (T0.setTop (mkF m 10 #[.val (.int p0), .val (.int p1)] [(.int p1)]))
    exact own_retI X0 hx hret hlk (hb hby mx_d10) (by decide) (by decide) ⟨(by rw [hr0, mx_f, if_pos hc2]), N0, e0⟩
  · refine own_st (fun _ k => XS.icmpNo X0.here hx rfl (hb hby mx_d2) rfl (flt hc2).1 k) ?_
    show own_Dn p e below s _ _ _ (T0.setTop (mkF m 5 #[.val (.int p0), .val (.int p1)] []))
    refine own_st (fun _ k => XS.iloadN X0.here hx rfl (hb hby mx_d5) rfl (XS.goto X0.here hx rfl (pc0 := 6) (pc' := 10) rfl (hb hby mx_d6) (by decide) (by decide) k)) ?_
    show own_Dn p e below s _ _ _ (T0.setTop (mkF m 10 #[.val (.int p0), .val (.int p1)] [(.int p0)]))
    exact own_retI X0 hx hret hlk (hb hby mx_d10) (by decide) (by decide) ⟨(by rw [hr0, mx_f, if_neg hc2]), N0, e0⟩
theorem mx_ef (m : MethodId) (p0 : Int32) (p1 : Int32) : entryFrame m #[(.int p0), (.int p1)] 2 = mkF m 0 #[.val (.int p0), .val (.int p1)] [] := by first | (simp [entryFrame, mkF, argsToLocals, Value.category]; done) | rfl
theorem mx_rm (l : Launch) (Z : State) (a0 : Array Value) (hw : ∀ d ∈ tables_1, d.before a0 Z = true) (ws : List Jvm.Cond) (p0 : Int32) (p1 : Int32) (h0 : Heap) (n0 : Nat) :
    MetFree l (⟨"java/lang/Math", "max", "(II)I"⟩ : MethodName) (head1 (Jvm.Cond.code (⟨"java/lang/Math", "max", "(II)I"⟩ : MethodName) jdk_29_method_65_code 2 (some .int) :: ws) ({ frames := 0, cells := 0, slots := 0, locals := 0 } : Room)) (fun a U => a = #[(.int p0), (.int p1)] ∧ Z.Warmed39 U.vm ∧ U.heap = h0) (fun _ _ _ _ _ => True) (fun _ U o U' => ∃ v L, o = .returned v ∧ (own_Q (some (.int (mx_f p0 p1))) n0 h0) v U'.heap L ∧ FrameEnd U o U' L ({ frames := 0, cells := 0, slots := 0, locals := 0 } : Room).cells ({ frames := 0, cells := 0, slots := 0, locals := 0 } : Room).slots) :=
  own_met hw (Jvm.Free.JP.mathPlain rfl (by decide +kernel)) (fun p e s m below meth c T0 C0 X0 e0 => own_st (fun _ k => castTop (mx_ef m p0 p1) k) (mx_c0 C0 X0 e0 (Fr.nil n0) rfl))
theorem mn_d0 : decode jdk_29_method_69_code 0 = .ok (.iload_n 0, 1) := by decide +kernel
theorem mn_d1 : decode jdk_29_method_69_code 1 = .ok (.iload_n 1, 1) := by decide +kernel
theorem mn_d2 : decode jdk_29_method_69_code 2 = .ok (.if_icmp .gt 7, 3) := by decide +kernel
theorem mn_d5 : decode jdk_29_method_69_code 5 = .ok (.iload_n 0, 1) := by decide +kernel
theorem mn_d6 : decode jdk_29_method_69_code 6 = .ok (.goto 4, 3) := by decide +kernel
theorem mn_d9 : decode jdk_29_method_69_code 9 = .ok (.iload_n 1, 1) := by decide +kernel
theorem mn_d10 : decode jdk_29_method_69_code 10 = .ok (.ireturn, 1) := by decide +kernel
def mn_f (p0 : Int32) (p1 : Int32)  : Int32 :=
  if p1 < p0 then
    p1
  else
    p0
set_option maxRecDepth 65536 in
set_option maxHeartbeats 40000000 in
theorem mn_c0 {l : Launch} {Z : State} {a0 : Array Value} {p0 : Int32} {p1 : Int32} {h0 : Heap} {n0 : Nat} {p : Program} {e : Env} {s : State} {m : MethodId} {args : Array Value} {below : List Frame} {meth : Method} {c : Code} {T0 : State} {locs : List Loc} {r0 : Int32} (C0 : own_Cx p s m meth c Z a0 jdk_29_method_69_code 2 "java/lang/Math" "min" (some .int)) (X0 : Stand p l e ({ frames := 0, cells := 0, slots := 0, locals := 0 } : Room) s m args below meth c T0 locs 0 0) (e0 : T0.heap = h0) (N0 : Fr n0 locs)  (hr0 : r0 = mn_f p0 p1 ) :
    own_Dn p e below s (own_Q (some (.int r0)) n0 h0) ({ frames := 0, cells := 0, slots := 0, locals := 0 } : Room).cells ({ frames := 0, cells := 0, slots := 0, locals := 0 } : Room).slots (T0.setTop (mkF m 0 #[.val (.int p0), .val (.int p1)] [])) := by
  obtain ⟨hx, hZ, hw, hby, hml, hown, hret, hlk, hnm⟩ := id C0
  refine own_st (fun _ k => XS.iloadN X0.here hx rfl (hb hby mn_d0) rfl (XS.iloadN X0.here hx rfl (hb hby mn_d1) rfl k)) ?_
  show own_Dn p e below s _ _ _ (T0.setTop (mkF m 2 #[.val (.int p0), .val (.int p1)] [(.int p1), (.int p0)]))
  by_cases hc2 : p1 < p0
  · refine own_st (fun _ k => XS.icmpYes X0.here hx rfl (pc0 := 2) (pc' := 9) rfl (hb hby mn_d2) rfl (tlt hc2).2.2.1 (by decide) (by decide) k) ?_
    show own_Dn p e below s _ _ _ (T0.setTop (mkF m 9 #[.val (.int p0), .val (.int p1)] []))
    refine own_st (fun _ k => XS.iloadN X0.here hx rfl (hb hby mn_d9) rfl k) ?_
    show own_Dn p e below s _ _ _ (T0.setTop (mkF m 10 #[.val (.int p0), .val (.int p1)] [(.int p1)]))
    exact own_retI X0 hx hret hlk (hb hby mn_d10) (by decide) (by decide) ⟨(by rw [hr0, mn_f, if_pos hc2]), N0, e0⟩
  · refine own_st (fun _ k => XS.icmpNo X0.here hx rfl (hb hby mn_d2) rfl (flt hc2).2.2.1 k) ?_
    show own_Dn p e below s _ _ _ (T0.setTop (mkF m 5 #[.val (.int p0), .val (.int p1)] []))
    refine own_st (fun _ k => XS.iloadN X0.here hx rfl (hb hby mn_d5) rfl (XS.goto X0.here hx rfl (pc0 := 6) (pc' := 10) rfl (hb hby mn_d6) (by decide) (by decide) k)) ?_
    show own_Dn p e below s _ _ _ (T0.setTop (mkF m 10 #[.val (.int p0), .val (.int p1)] [(.int p0)]))
    exact own_retI X0 hx hret hlk (hb hby mn_d10) (by decide) (by decide) ⟨(by rw [hr0, mn_f, if_neg hc2]), N0, e0⟩
theorem mn_ef (m : MethodId) (p0 : Int32) (p1 : Int32) : entryFrame m #[(.int p0), (.int p1)] 2 = mkF m 0 #[.val (.int p0), .val (.int p1)] [] := by first | (simp [entryFrame, mkF, argsToLocals, Value.category]; done) | rfl
theorem mn_rm (l : Launch) (Z : State) (a0 : Array Value) (hw : ∀ d ∈ tables_1, d.before a0 Z = true) (ws : List Jvm.Cond) (p0 : Int32) (p1 : Int32) (h0 : Heap) (n0 : Nat) :
    MetFree l (⟨"java/lang/Math", "min", "(II)I"⟩ : MethodName) (head1 (Jvm.Cond.code (⟨"java/lang/Math", "min", "(II)I"⟩ : MethodName) jdk_29_method_69_code 2 (some .int) :: ws) ({ frames := 0, cells := 0, slots := 0, locals := 0 } : Room)) (fun a U => a = #[(.int p0), (.int p1)] ∧ Z.Warmed39 U.vm ∧ U.heap = h0) (fun _ _ _ _ _ => True) (fun _ U o U' => ∃ v L, o = .returned v ∧ (own_Q (some (.int (mn_f p0 p1))) n0 h0) v U'.heap L ∧ FrameEnd U o U' L ({ frames := 0, cells := 0, slots := 0, locals := 0 } : Room).cells ({ frames := 0, cells := 0, slots := 0, locals := 0 } : Room).slots) :=
  own_met hw (Jvm.Free.JP.mathPlain rfl (by decide +kernel)) (fun p e s m below meth c T0 C0 X0 e0 => own_st (fun _ k => castTop (mn_ef m p0 p1) k) (mn_c0 C0 X0 e0 (Fr.nil n0) rfl))
theorem lw_d0 : decode code 0 = .ok (.iload_n 0, 1) := by decide +kernel
theorem lw_d1 : decode code 1 = .ok (.i2s, 1) := by decide +kernel
theorem lw_d2 : decode code 2 = .ok (.istore_n 3, 1) := by decide +kernel
theorem lw_d3 : decode code 3 = .ok (.iload_n 1, 1) := by decide +kernel
theorem lw_d4 : decode code 4 = .ok (.i2s, 1) := by decide +kernel
theorem lw_d5 : decode code 5 = .ok (.istore 4, 2) := by decide +kernel
theorem lw_d7 : decode code 7 = .ok (.iload_n 2, 1) := by decide +kernel
theorem lw_d8 : decode code 8 = .ok (.i2s, 1) := by decide +kernel
theorem lw_d9 : decode code 9 = .ok (.istore 5, 2) := by decide +kernel
theorem lw_d11 : decode code 11 = .ok (.new 7, 3) := by decide +kernel
theorem lw_d14 : decode code 14 = .ok (.dup, 1) := by decide +kernel
theorem lw_d15 : decode code 15 = .ok (.aconst_null, 1) := by decide +kernel
theorem lw_d16 : decode code 16 = .ok (.iload_n 3, 1) := by decide +kernel
theorem lw_d17 : decode code 17 = .ok (.iload 4, 2) := by decide +kernel
theorem lw_d19 : decode code 19 = .ok (.invokespecial 9, 3) := by decide +kernel
theorem lw_d22 : decode code 22 = .ok (.astore 6, 2) := by decide +kernel
theorem lw_d24 : decode code 24 = .ok (.aload 6, 2) := by decide +kernel
theorem lw_d26 : decode code 26 = .ok (.iload 5, 2) := by decide +kernel
theorem lw_d28 : decode code 28 = .ok (.invokevirtual 12, 3) := by decide +kernel
theorem lw_d31 : decode code 31 = .ok (.istore 7, 2) := by decide +kernel
theorem lw_d33 : decode code 33 = .ok (.iload_n 3, 1) := by decide +kernel
theorem lw_d34 : decode code 34 = .ok (.iload 4, 2) := by decide +kernel
theorem lw_d36 : decode code 36 = .ok (.if_icmp .le 9, 3) := by decide +kernel
theorem lw_d39 : decode code 39 = .ok (.iconst 0, 1) := by decide +kernel
theorem lw_d40 : decode code 40 = .ok (.istore 8, 2) := by decide +kernel
theorem lw_d42 : decode code 42 = .ok (.goto 30, 3) := by decide +kernel
theorem lw_d45 : decode code 45 = .ok (.iload 5, 2) := by decide +kernel
theorem lw_d47 : decode code 47 = .ok (.iload_n 3, 1) := by decide +kernel
theorem lw_d48 : decode code 48 = .ok (.invokestatic 16, 3) := by decide +kernel
theorem lw_d51 : decode code 51 = .ok (.iload 4, 2) := by decide +kernel
theorem lw_d53 : decode code 53 = .ok (.invokestatic 22, 3) := by decide +kernel
theorem lw_d56 : decode code 56 = .ok (.istore 9, 2) := by decide +kernel
theorem lw_d58 : decode code 58 = .ok (.iload 9, 2) := by decide +kernel
theorem lw_d60 : decode code 60 = .ok (.iload 5, 2) := by decide +kernel
theorem lw_d62 : decode code 62 = .ok (.if_icmp .ne 7, 3) := by decide +kernel
theorem lw_d65 : decode code 65 = .ok (.iconst 1, 1) := by decide +kernel
theorem lw_d66 : decode code 66 = .ok (.goto 4, 3) := by decide +kernel
theorem lw_d69 : decode code 69 = .ok (.iconst 0, 1) := by decide +kernel
theorem lw_d70 : decode code 70 = .ok (.istore 8, 2) := by decide +kernel
theorem lw_d72 : decode code 72 = .ok (.iload 7, 2) := by decide +kernel
theorem lw_d74 : decode code 74 = .ok (.iload 8, 2) := by decide +kernel
theorem lw_d76 : decode code 76 = .ok (.if_icmp .ne 7, 3) := by decide +kernel
theorem lw_d79 : decode code 79 = .ok (.iconst 1, 1) := by decide +kernel
theorem lw_d80 : decode code 80 = .ok (.goto 4, 3) := by decide +kernel
theorem lw_d83 : decode code 83 = .ok (.iconst 0, 1) := by decide +kernel
theorem lw_d84 : decode code 84 = .ok (.ireturn, 1) := by decide +kernel
def lw_f (p0 : Int32) (p1 : Int32) (p2 : Int32)  : Int32 :=
  if (p1.toInt16.toInt32) < (p0.toInt16.toInt32) then
    if (cn_f (p2.toInt16.toInt32) (p0.toInt16.toInt32) (p1.toInt16.toInt32)) = (0 : Int32) then
      (1 : Int32)
    else
      (0 : Int32)
  else
    if (mn_f (mx_f (p2.toInt16.toInt32) (p0.toInt16.toInt32)) (p1.toInt16.toInt32)) = (p2.toInt16.toInt32) then
      if (cn_f (p2.toInt16.toInt32) (p0.toInt16.toInt32) (p1.toInt16.toInt32)) = (1 : Int32) then
        (1 : Int32)
      else
        (0 : Int32)
    else
      if (cn_f (p2.toInt16.toInt32) (p0.toInt16.toInt32) (p1.toInt16.toInt32)) = (0 : Int32) then
        (1 : Int32)
      else
        (0 : Int32)
set_option maxRecDepth 65536 in
set_option maxHeartbeats 40000000 in
theorem lw_c0 {l : Launch} {Z : State} {a0 : Array Value} {p0 : Int32} {p1 : Int32} {p2 : Int32} {h0 : Heap} {n0 : Nat} {p : Program} {e : Env} {s : State} {m : MethodId} {args : Array Value} {below : List Frame} {meth : Method} {c : Code} {T0 : State} {locs : List Loc} {r0 : Int32} (C0 : own_Cx p s m meth c Z a0 code 10 "com/example/stierlin/stierlin/protocol/ApiVersionRangeContainsPinLaw" "law" (some .boolean)) (X0 : Stand p l e room_1 s m args below meth c T0 locs 0 0) (e0 : T0.heap = h0) (N0 : Fr n0 locs)  (Z0 : n0 ≤ h0.size) (hr0 : r0 = lw_f p0 p1 p2 ) :
    own_Dn p e below s (own_QL (some (.int r0)) n0) room_1.cells room_1.slots (T0.setTop (mkF m 0 #[.val (.int p0), .val (.int p1), .val (.int p2), .unset, .unset, .unset, .unset, .unset, .unset, .unset] [])) := by
  obtain ⟨hx, hZ, hw, hby, hml, hown, hret, hlk, hnm⟩ := id C0
  refine own_st (fun _ k => XS.iloadN X0.here hx rfl (hb hby lw_d0) rfl (XS.i2s X0.here hx rfl (hb hby lw_d1) rfl (XS.istoreN X0.here hx rfl (hb hby lw_d2) rfl (l' := #[.val (.int p0), .val (.int p1), .val (.int p2), .val (.int (p0.toInt16.toInt32)), .unset, .unset, .unset, .unset, .unset, .unset]) rfl (XS.iloadN X0.here hx rfl (hb hby lw_d3) rfl (XS.i2s X0.here hx rfl (hb hby lw_d4) rfl (XS.istore X0.here hx rfl (hb hby lw_d5) rfl (l' := #[.val (.int p0), .val (.int p1), .val (.int p2), .val (.int (p0.toInt16.toInt32)), .val (.int (p1.toInt16.toInt32)), .unset, .unset, .unset, .unset, .unset]) rfl (XS.iloadN X0.here hx rfl (hb hby lw_d7) rfl (XS.i2s X0.here hx rfl (hb hby lw_d8) rfl (XS.istore X0.here hx rfl (hb hby lw_d9) rfl (l' := #[.val (.int p0), .val (.int p1), .val (.int p2), .val (.int (p0.toInt16.toInt32)), .val (.int (p1.toInt16.toInt32)), .val (.int (p2.toInt16.toInt32)), .unset, .unset, .unset, .unset]) rfl k))))))))) ?_
  show own_Dn p e below s _ _ _ (T0.setTop (mkF m 11 #[.val (.int p0), .val (.int p1), .val (.int p2), .val (.int (p0.toInt16.toInt32)), .val (.int (p1.toInt16.toInt32)), .val (.int (p2.toInt16.toInt32)), .unset, .unset, .unset, .unset] []))
  obtain ⟨T21, h21, X21, e21, E21, A21, D21, -, st21⟩ := newO X0 hx hZ hown (hw _ (List.mem_of_getElem? (i := 0) rfl)) (hw _ (List.mem_of_getElem? (i := 1) rfl)) (hw _ (List.mem_of_getElem? (i := 2) rfl)) e0 (g := (mkF m 11 #[.val (.int p0), .val (.int p1), .val (.int p2), .val (.int (p0.toInt16.toInt32)), .val (.int (p1.toInt16.toInt32)), .val (.int (p2.toInt16.toInt32)), .unset, .unset, .unset, .unset] [])) rfl (hb hby lw_d11) (by decide) (by decide)
  obtain ⟨o11, g21⟩ : ∃ z, z = h0.size := ⟨_, rfl⟩
  rw [← g21] at A21 D21 st21
  have ge22 : n0 ≤ o11 := Nat.le_trans Z0 (Nat.le_of_eq g21.symm)
  have F23 : n0 ≤ h21.size := Nat.le_trans Z0 E21.1
  have F24 : Fld Z h21 o11 "com/example/stierlin/stierlin/protocol/ApiVersionRange" "api" "Lcom/example/stierlin/stierlin/protocol/ApiKey;" .null := D21 (Or.inr (hw _ (List.mem_of_getElem? (i := 15) rfl))) (ty := (.object "com/example/stierlin/stierlin/protocol/ApiKey")) (by decide)
  have F25 : Fld Z h21 o11 "com/example/stierlin/stierlin/protocol/ApiVersionRange" "minVersion" "S" (.int (0 : Int32)) := D21 (Or.inr (hw _ (List.mem_of_getElem? (i := 17) rfl))) (ty := .short) (by decide)
  have F26 : Fld Z h21 o11 "com/example/stierlin/stierlin/protocol/ApiVersionRange" "maxVersion" "S" (.int (0 : Int32)) := D21 (Or.inr (hw _ (List.mem_of_getElem? (i := 19) rfl))) (ty := .short) (by decide)
  refine own_st st21 ?_
  show own_Dn p e below s _ _ _ (T21.setTop (mkF m 14 #[.val (.int p0), .val (.int p1), .val (.int p2), .val (.int (p0.toInt16.toInt32)), .val (.int (p1.toInt16.toInt32)), .val (.int (p2.toInt16.toInt32)), .unset, .unset, .unset, .unset] [(.ref o11)]))
  refine own_st (fun _ k => XS.dup X21.here hx rfl (hb hby lw_d14) rfl rfl (XS.aconstNull X21.here hx rfl (hb hby lw_d15) (XS.iloadN X21.here hx rfl (hb hby lw_d16) rfl (XS.iload X21.here hx rfl (hb hby lw_d17) rfl k)))) ?_
  show own_Dn p e below s _ _ _ (T21.setTop (mkF m 19 #[.val (.int p0), .val (.int p1), .val (.int p2), .val (.int (p0.toInt16.toInt32)), .val (.int (p1.toInt16.toInt32)), .val (.int (p2.toInt16.toInt32)), .unset, .unset, .unset, .unset] [(.int (p1.toInt16.toInt32)), (.int (p0.toInt16.toInt32)), .null, (.ref o11), (.ref o11)]))
  obtain ⟨_, _, ⟨T27, L27, k27, n27⟩, -, X27, ⟨Lc27, hQ27, l27, y27, z27⟩, st27⟩ := X21.specialBack hx (y := (⟨"com/example/stierlin/stierlin/protocol/ApiVersionRange", "<init>", "(Lcom/example/stierlin/stierlin/protocol/ApiKey;SS)V"⟩ : MethodName)) rfl hown (mvT hZ (hw _ (List.mem_of_getElem? (i := 3) rfl))) (mvT hZ (hw _ (List.mem_of_getElem? (i := 4) rfl))) (mvT hZ (hw _ (List.mem_of_getElem? (i := 5) rfl))) (by decide) (backOf (W := 1) (vi_rm l Z a0 hw [] (o11) ((p0.toInt16.toInt32)) ((p1.toInt16.toInt32)) h21 n0 F23 A21 F24 F25 F26 ge22 (by simp) (by simp)) hZ (hw _ (List.mem_of_getElem? (i := 5) rfl)) (hw _ (List.mem_of_getElem? (i := 2) rfl)) (by decide) (by decide)) (g := (mkF m 19 #[.val (.int p0), .val (.int p1), .val (.int p2), .val (.int (p0.toInt16.toInt32)), .val (.int (p1.toInt16.toInt32)), .val (.int (p2.toInt16.toInt32)), .unset, .unset, .unset, .unset] [(.int (p1.toInt16.toInt32)), (.int (p0.toInt16.toInt32)), .null, (.ref o11), (.ref o11)])) rfl (by rw [hml]; rfl) (Steps.refl _) (a := o11) (argsL := [.null, (.int (p0.toInt16.toInt32)), (.int (p1.toInt16.toInt32))]) (rest := [(.ref o11)]) (lenOf own_pd1 rfl) rfl (by show 2 * 0 + _ ≤ _; exact Nat.le_of_eq rfl) (hb hby lw_d19) (fun _ _ => ⟨rfl, e21, (by decide : 1 + 0 ≤ _), (by decide : 3 + 0 ≤ _)⟩)
  dsimp only [Pt.U, Pt.locs, Pt.cells, Pt.slots] at X27 l27 y27 z27 st27 hQ27
  subst l27 y27 z27
  obtain ⟨rfl, N27q, K27, G28, G29, G30⟩ := hQ27
  have F31 : n0 ≤ T27.heap.size := Nat.le_trans F23 K27.1
  have F32 : Exa Z T27.heap o11 "com/example/stierlin/stierlin/protocol/ApiVersionRange" := A21.keep K27
  have N27 := Fr.app N0 N27q
  refine own_tr st27 ?_
  show own_Dn p e below s _ _ _ (T27.setTop (mkF m 22 #[.val (.int p0), .val (.int p1), .val (.int p2), .val (.int (p0.toInt16.toInt32)), .val (.int (p1.toInt16.toInt32)), .val (.int (p2.toInt16.toInt32)), .unset, .unset, .unset, .unset] [(.ref o11)]))
  refine own_st (fun _ k => XS.astore X27.here hx rfl (hb hby lw_d22) rfl rfl (l' := #[.val (.int p0), .val (.int p1), .val (.int p2), .val (.int (p0.toInt16.toInt32)), .val (.int (p1.toInt16.toInt32)), .val (.int (p2.toInt16.toInt32)), .val (.ref o11), .unset, .unset, .unset]) rfl (XS.aload X27.here hx rfl (hb hby lw_d24) rfl rfl (XS.iload X27.here hx rfl (hb hby lw_d26) rfl k))) ?_
  show own_Dn p e below s _ _ _ (T27.setTop (mkF m 28 #[.val (.int p0), .val (.int p1), .val (.int p2), .val (.int (p0.toInt16.toInt32)), .val (.int (p1.toInt16.toInt32)), .val (.int (p2.toInt16.toInt32)), .val (.ref o11), .unset, .unset, .unset] [(.int (p2.toInt16.toInt32)), (.ref o11)]))
  obtain ⟨cq33, kq33, q33a, q33b, q33c⟩ := isOf hZ rfl G28
  obtain ⟨_, _, ⟨T33, L33, k33, n33⟩, -, X33, ⟨Lc33, hQ33, l33, y33, z33⟩, st33⟩ := X27.virtualBack hx (y := (⟨"com/example/stierlin/stierlin/protocol/ApiVersionRange", "contains", "(S)Z"⟩ : MethodName)) (z := (⟨"com/example/stierlin/stierlin/protocol/ApiVersionRange", "contains", "(S)Z"⟩ : MethodName)) hown (mvT hZ (hw _ (List.mem_of_getElem? (i := 20) rfl))) (mvT hZ (hw _ (List.mem_of_getElem? (i := 21) rfl))) (notFace_of_selects (args := #[]) (mvT hZ (hw _ (List.mem_of_getElem? (i := 23) rfl)))) (mvT hZ (hw _ (List.mem_of_getElem? (i := 23) rfl))) (mvT hZ (hw _ (List.mem_of_getElem? (i := 22) rfl))) (by decide) (backOf (W := 0) (cn_rm l Z a0 hw [] (o11) ((p2.toInt16.toInt32)) ((p0.toInt16.toInt32)) ((p1.toInt16.toInt32)) T27.heap n0 F31 G29 G30) hZ (hw _ (List.mem_of_getElem? (i := 24) rfl)) (hw _ (List.mem_of_getElem? (i := 2) rfl)) (by decide) (by decide)) q33a q33c (g := (mkF m 28 #[.val (.int p0), .val (.int p1), .val (.int p2), .val (.int (p0.toInt16.toInt32)), .val (.int (p1.toInt16.toInt32)), .val (.int (p2.toInt16.toInt32)), .val (.ref o11), .unset, .unset, .unset] [(.int (p2.toInt16.toInt32)), (.ref o11)])) rfl (by rw [hml]; rfl) (Steps.refl _) (argsL := [(.int (p2.toInt16.toInt32))]) (rest := []) (lenOf own_pd2 rfl) rfl (by show 2 * 0 + _ ≤ _; exact Nat.le_of_eq rfl) (hb hby lw_d28) (fun _ _ => ⟨rfl, rfl, (by decide : 1 + 0 ≤ _), (by decide : 3 + 0 ≤ _)⟩)
  dsimp only [Pt.U, Pt.locs, Pt.cells, Pt.slots] at X33 l33 y33 z33 st33 hQ33
  subst l33 y33 z33
  obtain ⟨rfl, N33q, e33⟩ := hQ33
  have N33 := Fr.app N27 N33q
  refine own_tr st33 ?_
  show own_Dn p e below s _ _ _ (T33.setTop (mkF m 31 #[.val (.int p0), .val (.int p1), .val (.int p2), .val (.int (p0.toInt16.toInt32)), .val (.int (p1.toInt16.toInt32)), .val (.int (p2.toInt16.toInt32)), .val (.ref o11), .unset, .unset, .unset] [(.int (cn_f (p2.toInt16.toInt32) (p0.toInt16.toInt32) (p1.toInt16.toInt32)))]))
  refine own_st (fun _ k => XS.istore X33.here hx rfl (hb hby lw_d31) rfl (l' := #[.val (.int p0), .val (.int p1), .val (.int p2), .val (.int (p0.toInt16.toInt32)), .val (.int (p1.toInt16.toInt32)), .val (.int (p2.toInt16.toInt32)), .val (.ref o11), .val (.int (cn_f (p2.toInt16.toInt32) (p0.toInt16.toInt32) (p1.toInt16.toInt32))), .unset, .unset]) rfl (XS.iloadN X33.here hx rfl (hb hby lw_d33) rfl (XS.iload X33.here hx rfl (hb hby lw_d34) rfl k))) ?_
  show own_Dn p e below s _ _ _ (T33.setTop (mkF m 36 #[.val (.int p0), .val (.int p1), .val (.int p2), .val (.int (p0.toInt16.toInt32)), .val (.int (p1.toInt16.toInt32)), .val (.int (p2.toInt16.toInt32)), .val (.ref o11), .val (.int (cn_f (p2.toInt16.toInt32) (p0.toInt16.toInt32) (p1.toInt16.toInt32))), .unset, .unset] [(.int (p1.toInt16.toInt32)), (.int (p0.toInt16.toInt32))]))
  by_cases hc34 : (p1.toInt16.toInt32) < (p0.toInt16.toInt32)
  · refine own_st (fun _ k => XS.icmpNo X33.here hx rfl (hb hby lw_d36) rfl (tlt hc34).2.2.2 k) ?_
    show own_Dn p e below s _ _ _ (T33.setTop (mkF m 39 #[.val (.int p0), .val (.int p1), .val (.int p2), .val (.int (p0.toInt16.toInt32)), .val (.int (p1.toInt16.toInt32)), .val (.int (p2.toInt16.toInt32)), .val (.ref o11), .val (.int (cn_f (p2.toInt16.toInt32) (p0.toInt16.toInt32) (p1.toInt16.toInt32))), .unset, .unset] []))
    refine own_st (fun _ k => XS.iconst X33.here hx rfl (hb hby lw_d39) (XS.istore X33.here hx rfl (hb hby lw_d40) rfl (l' := #[.val (.int p0), .val (.int p1), .val (.int p2), .val (.int (p0.toInt16.toInt32)), .val (.int (p1.toInt16.toInt32)), .val (.int (p2.toInt16.toInt32)), .val (.ref o11), .val (.int (cn_f (p2.toInt16.toInt32) (p0.toInt16.toInt32) (p1.toInt16.toInt32))), .val (.int (0 : Int32)), .unset]) rfl (XS.goto X33.here hx rfl (pc0 := 42) (pc' := 72) rfl (hb hby lw_d42) (by decide) (by decide) (XS.iload X33.here hx rfl (hb hby lw_d72) rfl (XS.iload X33.here hx rfl (hb hby lw_d74) rfl k))))) ?_
    show own_Dn p e below s _ _ _ (T33.setTop (mkF m 76 #[.val (.int p0), .val (.int p1), .val (.int p2), .val (.int (p0.toInt16.toInt32)), .val (.int (p1.toInt16.toInt32)), .val (.int (p2.toInt16.toInt32)), .val (.ref o11), .val (.int (cn_f (p2.toInt16.toInt32) (p0.toInt16.toInt32) (p1.toInt16.toInt32))), .val (.int (0 : Int32)), .unset] [(.int (0 : Int32)), (.int (cn_f (p2.toInt16.toInt32) (p0.toInt16.toInt32) (p1.toInt16.toInt32)))]))
    by_cases hc35 : (cn_f (p2.toInt16.toInt32) (p0.toInt16.toInt32) (p1.toInt16.toInt32)) = (0 : Int32)
    · refine own_st (fun _ k => XS.icmpNo X33.here hx rfl (hb hby lw_d76) rfl (teq hc35).2 k) ?_
      show own_Dn p e below s _ _ _ (T33.setTop (mkF m 79 #[.val (.int p0), .val (.int p1), .val (.int p2), .val (.int (p0.toInt16.toInt32)), .val (.int (p1.toInt16.toInt32)), .val (.int (p2.toInt16.toInt32)), .val (.ref o11), .val (.int (cn_f (p2.toInt16.toInt32) (p0.toInt16.toInt32) (p1.toInt16.toInt32))), .val (.int (0 : Int32)), .unset] []))
      refine own_st (fun _ k => XS.iconst X33.here hx rfl (hb hby lw_d79) (XS.goto X33.here hx rfl (pc0 := 80) (pc' := 84) rfl (hb hby lw_d80) (by decide) (by decide) k)) ?_
      show own_Dn p e below s _ _ _ (T33.setTop (mkF m 84 #[.val (.int p0), .val (.int p1), .val (.int p2), .val (.int (p0.toInt16.toInt32)), .val (.int (p1.toInt16.toInt32)), .val (.int (p2.toInt16.toInt32)), .val (.ref o11), .val (.int (cn_f (p2.toInt16.toInt32) (p0.toInt16.toInt32) (p1.toInt16.toInt32))), .val (.int (0 : Int32)), .unset] [(.int (1 : Int32))]))
      exact own_retZ X33 hx hret hlk (by decide) (hb hby lw_d84) (by decide) (by decide) ⟨(by rw [hr0, lw_f, if_pos hc34, if_pos hc35]), N33⟩
    · refine own_st (fun _ k => XS.icmpYes X33.here hx rfl (pc0 := 76) (pc' := 83) rfl (hb hby lw_d76) rfl (feq hc35).2 (by decide) (by decide) k) ?_
      show own_Dn p e below s _ _ _ (T33.setTop (mkF m 83 #[.val (.int p0), .val (.int p1), .val (.int p2), .val (.int (p0.toInt16.toInt32)), .val (.int (p1.toInt16.toInt32)), .val (.int (p2.toInt16.toInt32)), .val (.ref o11), .val (.int (cn_f (p2.toInt16.toInt32) (p0.toInt16.toInt32) (p1.toInt16.toInt32))), .val (.int (0 : Int32)), .unset] []))
      refine own_st (fun _ k => XS.iconst X33.here hx rfl (hb hby lw_d83) k) ?_
      show own_Dn p e below s _ _ _ (T33.setTop (mkF m 84 #[.val (.int p0), .val (.int p1), .val (.int p2), .val (.int (p0.toInt16.toInt32)), .val (.int (p1.toInt16.toInt32)), .val (.int (p2.toInt16.toInt32)), .val (.ref o11), .val (.int (cn_f (p2.toInt16.toInt32) (p0.toInt16.toInt32) (p1.toInt16.toInt32))), .val (.int (0 : Int32)), .unset] [(.int (0 : Int32))]))
      exact own_retZ X33 hx hret hlk (by decide) (hb hby lw_d84) (by decide) (by decide) ⟨(by rw [hr0, lw_f, if_pos hc34, if_neg hc35]), N33⟩
  · refine own_st (fun _ k => XS.icmpYes X33.here hx rfl (pc0 := 36) (pc' := 45) rfl (hb hby lw_d36) rfl (flt hc34).2.2.2 (by decide) (by decide) k) ?_
    show own_Dn p e below s _ _ _ (T33.setTop (mkF m 45 #[.val (.int p0), .val (.int p1), .val (.int p2), .val (.int (p0.toInt16.toInt32)), .val (.int (p1.toInt16.toInt32)), .val (.int (p2.toInt16.toInt32)), .val (.ref o11), .val (.int (cn_f (p2.toInt16.toInt32) (p0.toInt16.toInt32) (p1.toInt16.toInt32))), .unset, .unset] []))
    refine own_st (fun _ k => XS.iload X33.here hx rfl (hb hby lw_d45) rfl (XS.iloadN X33.here hx rfl (hb hby lw_d47) rfl k)) ?_
    show own_Dn p e below s _ _ _ (T33.setTop (mkF m 48 #[.val (.int p0), .val (.int p1), .val (.int p2), .val (.int (p0.toInt16.toInt32)), .val (.int (p1.toInt16.toInt32)), .val (.int (p2.toInt16.toInt32)), .val (.ref o11), .val (.int (cn_f (p2.toInt16.toInt32) (p0.toInt16.toInt32) (p1.toInt16.toInt32))), .unset, .unset] [(.int (p0.toInt16.toInt32)), (.int (p2.toInt16.toInt32))]))
    obtain ⟨_, _, ⟨T36, L36, k36, n36⟩, -, X36, ⟨Lc36, hQ36, l36, y36, z36⟩, st36⟩ := Jvm.LawKit.callS X33 hx (y := (⟨"java/lang/Math", "max", "(II)I"⟩ : MethodName)) hown (mvT hZ (hw _ (List.mem_of_getElem? (i := 25) rfl))) (mvT hZ (hw _ (List.mem_of_getElem? (i := 26) rfl))) (mvT hZ (hw _ (List.mem_of_getElem? (i := 27) rfl))) (mvT hZ (hw _ (List.mem_of_getElem? (i := 28) rfl))) (by decide) (backOf (W := 0) (mx_rm l Z a0 hw [] ((p2.toInt16.toInt32)) ((p0.toInt16.toInt32)) T27.heap n0) hZ (hw _ (List.mem_of_getElem? (i := 28) rfl)) (hw _ (List.mem_of_getElem? (i := 27) rfl)) (by decide) (by decide)) (g := (mkF m 48 #[.val (.int p0), .val (.int p1), .val (.int p2), .val (.int (p0.toInt16.toInt32)), .val (.int (p1.toInt16.toInt32)), .val (.int (p2.toInt16.toInt32)), .val (.ref o11), .val (.int (cn_f (p2.toInt16.toInt32) (p0.toInt16.toInt32) (p1.toInt16.toInt32))), .unset, .unset] [(.int (p0.toInt16.toInt32)), (.int (p2.toInt16.toInt32))])) rfl (by rw [hml]; rfl) (argsL := [(.int (p2.toInt16.toInt32)), (.int (p0.toInt16.toInt32))]) (rest := []) (lenOf own_pd3 rfl) rfl (by show 2 * 0 + _ ≤ _; exact Nat.le_of_eq rfl) (hb hby lw_d48) (fun _ _ => ⟨rfl, e33, (by decide : 1 + 0 ≤ _), (by decide : 3 + 0 ≤ _)⟩)
    dsimp only [Pt.U, Pt.locs, Pt.cells, Pt.slots] at X36 l36 y36 z36 st36 hQ36
    subst l36 y36 z36
    obtain ⟨rfl, N36q, e36⟩ := hQ36
    have N36 := Fr.app N33 N36q
    refine own_st st36 ?_
    show own_Dn p e below s _ _ _ (T36.setTop (mkF m 51 #[.val (.int p0), .val (.int p1), .val (.int p2), .val (.int (p0.toInt16.toInt32)), .val (.int (p1.toInt16.toInt32)), .val (.int (p2.toInt16.toInt32)), .val (.ref o11), .val (.int (cn_f (p2.toInt16.toInt32) (p0.toInt16.toInt32) (p1.toInt16.toInt32))), .unset, .unset] [(.int (mx_f (p2.toInt16.toInt32) (p0.toInt16.toInt32)))]))
    refine own_st (fun _ k => XS.iload X36.here hx rfl (hb hby lw_d51) rfl k) ?_
    show own_Dn p e below s _ _ _ (T36.setTop (mkF m 53 #[.val (.int p0), .val (.int p1), .val (.int p2), .val (.int (p0.toInt16.toInt32)), .val (.int (p1.toInt16.toInt32)), .val (.int (p2.toInt16.toInt32)), .val (.ref o11), .val (.int (cn_f (p2.toInt16.toInt32) (p0.toInt16.toInt32) (p1.toInt16.toInt32))), .unset, .unset] [(.int (p1.toInt16.toInt32)), (.int (mx_f (p2.toInt16.toInt32) (p0.toInt16.toInt32)))]))
    obtain ⟨_, _, ⟨T37, L37, k37, n37⟩, -, X37, ⟨Lc37, hQ37, l37, y37, z37⟩, st37⟩ := Jvm.LawKit.callS X36 hx (y := (⟨"java/lang/Math", "min", "(II)I"⟩ : MethodName)) hown (mvT hZ (hw _ (List.mem_of_getElem? (i := 29) rfl))) (mvT hZ (hw _ (List.mem_of_getElem? (i := 30) rfl))) (mvT hZ (hw _ (List.mem_of_getElem? (i := 27) rfl))) (mvT hZ (hw _ (List.mem_of_getElem? (i := 31) rfl))) (by decide) (backOf (W := 0) (mn_rm l Z a0 hw [] ((mx_f (p2.toInt16.toInt32) (p0.toInt16.toInt32))) ((p1.toInt16.toInt32)) T27.heap n0) hZ (hw _ (List.mem_of_getElem? (i := 31) rfl)) (hw _ (List.mem_of_getElem? (i := 27) rfl)) (by decide) (by decide)) (g := (mkF m 53 #[.val (.int p0), .val (.int p1), .val (.int p2), .val (.int (p0.toInt16.toInt32)), .val (.int (p1.toInt16.toInt32)), .val (.int (p2.toInt16.toInt32)), .val (.ref o11), .val (.int (cn_f (p2.toInt16.toInt32) (p0.toInt16.toInt32) (p1.toInt16.toInt32))), .unset, .unset] [(.int (p1.toInt16.toInt32)), (.int (mx_f (p2.toInt16.toInt32) (p0.toInt16.toInt32)))])) rfl (by rw [hml]; rfl) (argsL := [(.int (mx_f (p2.toInt16.toInt32) (p0.toInt16.toInt32))), (.int (p1.toInt16.toInt32))]) (rest := []) (lenOf own_pd3 rfl) rfl (by show 2 * 0 + _ ≤ _; exact Nat.le_of_eq rfl) (hb hby lw_d53) (fun _ _ => ⟨rfl, e36, (by decide : 1 + 0 ≤ _), (by decide : 3 + 0 ≤ _)⟩)
    dsimp only [Pt.U, Pt.locs, Pt.cells, Pt.slots] at X37 l37 y37 z37 st37 hQ37
    subst l37 y37 z37
    obtain ⟨rfl, N37q, e37⟩ := hQ37
    have N37 := Fr.app N36 N37q
    refine own_st st37 ?_
    show own_Dn p e below s _ _ _ (T37.setTop (mkF m 56 #[.val (.int p0), .val (.int p1), .val (.int p2), .val (.int (p0.toInt16.toInt32)), .val (.int (p1.toInt16.toInt32)), .val (.int (p2.toInt16.toInt32)), .val (.ref o11), .val (.int (cn_f (p2.toInt16.toInt32) (p0.toInt16.toInt32) (p1.toInt16.toInt32))), .unset, .unset] [(.int (mn_f (mx_f (p2.toInt16.toInt32) (p0.toInt16.toInt32)) (p1.toInt16.toInt32)))]))
    refine own_st (fun _ k => XS.istore X37.here hx rfl (hb hby lw_d56) rfl (l' := #[.val (.int p0), .val (.int p1), .val (.int p2), .val (.int (p0.toInt16.toInt32)), .val (.int (p1.toInt16.toInt32)), .val (.int (p2.toInt16.toInt32)), .val (.ref o11), .val (.int (cn_f (p2.toInt16.toInt32) (p0.toInt16.toInt32) (p1.toInt16.toInt32))), .unset, .val (.int (mn_f (mx_f (p2.toInt16.toInt32) (p0.toInt16.toInt32)) (p1.toInt16.toInt32)))]) rfl (XS.iload X37.here hx rfl (hb hby lw_d58) rfl (XS.iload X37.here hx rfl (hb hby lw_d60) rfl k))) ?_
    show own_Dn p e below s _ _ _ (T37.setTop (mkF m 62 #[.val (.int p0), .val (.int p1), .val (.int p2), .val (.int (p0.toInt16.toInt32)), .val (.int (p1.toInt16.toInt32)), .val (.int (p2.toInt16.toInt32)), .val (.ref o11), .val (.int (cn_f (p2.toInt16.toInt32) (p0.toInt16.toInt32) (p1.toInt16.toInt32))), .unset, .val (.int (mn_f (mx_f (p2.toInt16.toInt32) (p0.toInt16.toInt32)) (p1.toInt16.toInt32)))] [(.int (p2.toInt16.toInt32)), (.int (mn_f (mx_f (p2.toInt16.toInt32) (p0.toInt16.toInt32)) (p1.toInt16.toInt32)))]))
    by_cases hc38 : (mn_f (mx_f (p2.toInt16.toInt32) (p0.toInt16.toInt32)) (p1.toInt16.toInt32)) = (p2.toInt16.toInt32)
    · refine own_st (fun _ k => XS.icmpNo X37.here hx rfl (hb hby lw_d62) rfl (teq hc38).2 k) ?_
      show own_Dn p e below s _ _ _ (T37.setTop (mkF m 65 #[.val (.int p0), .val (.int p1), .val (.int p2), .val (.int (p0.toInt16.toInt32)), .val (.int (p1.toInt16.toInt32)), .val (.int (p2.toInt16.toInt32)), .val (.ref o11), .val (.int (cn_f (p2.toInt16.toInt32) (p0.toInt16.toInt32) (p1.toInt16.toInt32))), .unset, .val (.int (mn_f (mx_f (p2.toInt16.toInt32) (p0.toInt16.toInt32)) (p1.toInt16.toInt32)))] []))
      refine own_st (fun _ k => XS.iconst X37.here hx rfl (hb hby lw_d65) (XS.goto X37.here hx rfl (pc0 := 66) (pc' := 70) rfl (hb hby lw_d66) (by decide) (by decide) (XS.istore X37.here hx rfl (hb hby lw_d70) rfl (l' := #[.val (.int p0), .val (.int p1), .val (.int p2), .val (.int (p0.toInt16.toInt32)), .val (.int (p1.toInt16.toInt32)), .val (.int (p2.toInt16.toInt32)), .val (.ref o11), .val (.int (cn_f (p2.toInt16.toInt32) (p0.toInt16.toInt32) (p1.toInt16.toInt32))), .val (.int (1 : Int32)), .val (.int (mn_f (mx_f (p2.toInt16.toInt32) (p0.toInt16.toInt32)) (p1.toInt16.toInt32)))]) rfl (XS.iload X37.here hx rfl (hb hby lw_d72) rfl (XS.iload X37.here hx rfl (hb hby lw_d74) rfl k))))) ?_
      show own_Dn p e below s _ _ _ (T37.setTop (mkF m 76 #[.val (.int p0), .val (.int p1), .val (.int p2), .val (.int (p0.toInt16.toInt32)), .val (.int (p1.toInt16.toInt32)), .val (.int (p2.toInt16.toInt32)), .val (.ref o11), .val (.int (cn_f (p2.toInt16.toInt32) (p0.toInt16.toInt32) (p1.toInt16.toInt32))), .val (.int (1 : Int32)), .val (.int (mn_f (mx_f (p2.toInt16.toInt32) (p0.toInt16.toInt32)) (p1.toInt16.toInt32)))] [(.int (1 : Int32)), (.int (cn_f (p2.toInt16.toInt32) (p0.toInt16.toInt32) (p1.toInt16.toInt32)))]))
      by_cases hc39 : (cn_f (p2.toInt16.toInt32) (p0.toInt16.toInt32) (p1.toInt16.toInt32)) = (1 : Int32)
      · refine own_st (fun _ k => XS.icmpNo X37.here hx rfl (hb hby lw_d76) rfl (teq hc39).2 k) ?_
        show own_Dn p e below s _ _ _ (T37.setTop (mkF m 79 #[.val (.int p0), .val (.int p1), .val (.int p2), .val (.int (p0.toInt16.toInt32)), .val (.int (p1.toInt16.toInt32)), .val (.int (p2.toInt16.toInt32)), .val (.ref o11), .val (.int (cn_f (p2.toInt16.toInt32) (p0.toInt16.toInt32) (p1.toInt16.toInt32))), .val (.int (1 : Int32)), .val (.int (mn_f (mx_f (p2.toInt16.toInt32) (p0.toInt16.toInt32)) (p1.toInt16.toInt32)))] []))
        refine own_st (fun _ k => XS.iconst X37.here hx rfl (hb hby lw_d79) (XS.goto X37.here hx rfl (pc0 := 80) (pc' := 84) rfl (hb hby lw_d80) (by decide) (by decide) k)) ?_
        show own_Dn p e below s _ _ _ (T37.setTop (mkF m 84 #[.val (.int p0), .val (.int p1), .val (.int p2), .val (.int (p0.toInt16.toInt32)), .val (.int (p1.toInt16.toInt32)), .val (.int (p2.toInt16.toInt32)), .val (.ref o11), .val (.int (cn_f (p2.toInt16.toInt32) (p0.toInt16.toInt32) (p1.toInt16.toInt32))), .val (.int (1 : Int32)), .val (.int (mn_f (mx_f (p2.toInt16.toInt32) (p0.toInt16.toInt32)) (p1.toInt16.toInt32)))] [(.int (1 : Int32))]))
        exact own_retZ X37 hx hret hlk (by decide) (hb hby lw_d84) (by decide) (by decide) ⟨(by rw [hr0, lw_f, if_neg hc34, if_pos hc38, if_pos hc39]), N37⟩
      · refine own_st (fun _ k => XS.icmpYes X37.here hx rfl (pc0 := 76) (pc' := 83) rfl (hb hby lw_d76) rfl (feq hc39).2 (by decide) (by decide) k) ?_
        show own_Dn p e below s _ _ _ (T37.setTop (mkF m 83 #[.val (.int p0), .val (.int p1), .val (.int p2), .val (.int (p0.toInt16.toInt32)), .val (.int (p1.toInt16.toInt32)), .val (.int (p2.toInt16.toInt32)), .val (.ref o11), .val (.int (cn_f (p2.toInt16.toInt32) (p0.toInt16.toInt32) (p1.toInt16.toInt32))), .val (.int (1 : Int32)), .val (.int (mn_f (mx_f (p2.toInt16.toInt32) (p0.toInt16.toInt32)) (p1.toInt16.toInt32)))] []))
        refine own_st (fun _ k => XS.iconst X37.here hx rfl (hb hby lw_d83) k) ?_
        show own_Dn p e below s _ _ _ (T37.setTop (mkF m 84 #[.val (.int p0), .val (.int p1), .val (.int p2), .val (.int (p0.toInt16.toInt32)), .val (.int (p1.toInt16.toInt32)), .val (.int (p2.toInt16.toInt32)), .val (.ref o11), .val (.int (cn_f (p2.toInt16.toInt32) (p0.toInt16.toInt32) (p1.toInt16.toInt32))), .val (.int (1 : Int32)), .val (.int (mn_f (mx_f (p2.toInt16.toInt32) (p0.toInt16.toInt32)) (p1.toInt16.toInt32)))] [(.int (0 : Int32))]))
        exact own_retZ X37 hx hret hlk (by decide) (hb hby lw_d84) (by decide) (by decide) ⟨(by rw [hr0, lw_f, if_neg hc34, if_pos hc38, if_neg hc39]), N37⟩
    · refine own_st (fun _ k => XS.icmpYes X37.here hx rfl (pc0 := 62) (pc' := 69) rfl (hb hby lw_d62) rfl (feq hc38).2 (by decide) (by decide) k) ?_
      show own_Dn p e below s _ _ _ (T37.setTop (mkF m 69 #[.val (.int p0), .val (.int p1), .val (.int p2), .val (.int (p0.toInt16.toInt32)), .val (.int (p1.toInt16.toInt32)), .val (.int (p2.toInt16.toInt32)), .val (.ref o11), .val (.int (cn_f (p2.toInt16.toInt32) (p0.toInt16.toInt32) (p1.toInt16.toInt32))), .unset, .val (.int (mn_f (mx_f (p2.toInt16.toInt32) (p0.toInt16.toInt32)) (p1.toInt16.toInt32)))] []))
      refine own_st (fun _ k => XS.iconst X37.here hx rfl (hb hby lw_d69) (XS.istore X37.here hx rfl (hb hby lw_d70) rfl (l' := #[.val (.int p0), .val (.int p1), .val (.int p2), .val (.int (p0.toInt16.toInt32)), .val (.int (p1.toInt16.toInt32)), .val (.int (p2.toInt16.toInt32)), .val (.ref o11), .val (.int (cn_f (p2.toInt16.toInt32) (p0.toInt16.toInt32) (p1.toInt16.toInt32))), .val (.int (0 : Int32)), .val (.int (mn_f (mx_f (p2.toInt16.toInt32) (p0.toInt16.toInt32)) (p1.toInt16.toInt32)))]) rfl (XS.iload X37.here hx rfl (hb hby lw_d72) rfl (XS.iload X37.here hx rfl (hb hby lw_d74) rfl k)))) ?_
      show own_Dn p e below s _ _ _ (T37.setTop (mkF m 76 #[.val (.int p0), .val (.int p1), .val (.int p2), .val (.int (p0.toInt16.toInt32)), .val (.int (p1.toInt16.toInt32)), .val (.int (p2.toInt16.toInt32)), .val (.ref o11), .val (.int (cn_f (p2.toInt16.toInt32) (p0.toInt16.toInt32) (p1.toInt16.toInt32))), .val (.int (0 : Int32)), .val (.int (mn_f (mx_f (p2.toInt16.toInt32) (p0.toInt16.toInt32)) (p1.toInt16.toInt32)))] [(.int (0 : Int32)), (.int (cn_f (p2.toInt16.toInt32) (p0.toInt16.toInt32) (p1.toInt16.toInt32)))]))
      by_cases hc40 : (cn_f (p2.toInt16.toInt32) (p0.toInt16.toInt32) (p1.toInt16.toInt32)) = (0 : Int32)
      · refine own_st (fun _ k => XS.icmpNo X37.here hx rfl (hb hby lw_d76) rfl (teq hc40).2 k) ?_
        show own_Dn p e below s _ _ _ (T37.setTop (mkF m 79 #[.val (.int p0), .val (.int p1), .val (.int p2), .val (.int (p0.toInt16.toInt32)), .val (.int (p1.toInt16.toInt32)), .val (.int (p2.toInt16.toInt32)), .val (.ref o11), .val (.int (cn_f (p2.toInt16.toInt32) (p0.toInt16.toInt32) (p1.toInt16.toInt32))), .val (.int (0 : Int32)), .val (.int (mn_f (mx_f (p2.toInt16.toInt32) (p0.toInt16.toInt32)) (p1.toInt16.toInt32)))] []))
        refine own_st (fun _ k => XS.iconst X37.here hx rfl (hb hby lw_d79) (XS.goto X37.here hx rfl (pc0 := 80) (pc' := 84) rfl (hb hby lw_d80) (by decide) (by decide) k)) ?_
        show own_Dn p e below s _ _ _ (T37.setTop (mkF m 84 #[.val (.int p0), .val (.int p1), .val (.int p2), .val (.int (p0.toInt16.toInt32)), .val (.int (p1.toInt16.toInt32)), .val (.int (p2.toInt16.toInt32)), .val (.ref o11), .val (.int (cn_f (p2.toInt16.toInt32) (p0.toInt16.toInt32) (p1.toInt16.toInt32))), .val (.int (0 : Int32)), .val (.int (mn_f (mx_f (p2.toInt16.toInt32) (p0.toInt16.toInt32)) (p1.toInt16.toInt32)))] [(.int (1 : Int32))]))
        exact own_retZ X37 hx hret hlk (by decide) (hb hby lw_d84) (by decide) (by decide) ⟨(by rw [hr0, lw_f, if_neg hc34, if_neg hc38, if_pos hc40]), N37⟩
      · refine own_st (fun _ k => XS.icmpYes X37.here hx rfl (pc0 := 76) (pc' := 83) rfl (hb hby lw_d76) rfl (feq hc40).2 (by decide) (by decide) k) ?_
        show own_Dn p e below s _ _ _ (T37.setTop (mkF m 83 #[.val (.int p0), .val (.int p1), .val (.int p2), .val (.int (p0.toInt16.toInt32)), .val (.int (p1.toInt16.toInt32)), .val (.int (p2.toInt16.toInt32)), .val (.ref o11), .val (.int (cn_f (p2.toInt16.toInt32) (p0.toInt16.toInt32) (p1.toInt16.toInt32))), .val (.int (0 : Int32)), .val (.int (mn_f (mx_f (p2.toInt16.toInt32) (p0.toInt16.toInt32)) (p1.toInt16.toInt32)))] []))
        refine own_st (fun _ k => XS.iconst X37.here hx rfl (hb hby lw_d83) k) ?_
        show own_Dn p e below s _ _ _ (T37.setTop (mkF m 84 #[.val (.int p0), .val (.int p1), .val (.int p2), .val (.int (p0.toInt16.toInt32)), .val (.int (p1.toInt16.toInt32)), .val (.int (p2.toInt16.toInt32)), .val (.ref o11), .val (.int (cn_f (p2.toInt16.toInt32) (p0.toInt16.toInt32) (p1.toInt16.toInt32))), .val (.int (0 : Int32)), .val (.int (mn_f (mx_f (p2.toInt16.toInt32) (p0.toInt16.toInt32)) (p1.toInt16.toInt32)))] [(.int (0 : Int32))]))
        exact own_retZ X37 hx hret hlk (by decide) (hb hby lw_d84) (by decide) (by decide) ⟨(by rw [hr0, lw_f, if_neg hc34, if_neg hc38, if_neg hc40]), N37⟩
theorem lw_ef (m : MethodId) (p0 : Int32) (p1 : Int32) (p2 : Int32) : entryFrame m #[(.int p0), (.int p1), (.int p2)] maxLocals = mkF m 0 #[.val (.int p0), .val (.int p1), .val (.int p2), .unset, .unset, .unset, .unset, .unset, .unset, .unset] [] := by first | (simp [entryFrame, mkF, argsToLocals, Value.category, maxLocals]; done) | rfl
theorem lw_rm (l : Launch) (Z : State) (a0 : Array Value) (hw : ∀ d ∈ tables_1, d.before a0 Z = true) (ws : List Jvm.Cond) (p0 : Int32) (p1 : Int32) (p2 : Int32) (h0 : Heap) (n0 : Nat) (Z0 : n0 ≤ h0.size) :
    MetFree l x (head1 (Jvm.Cond.code x code maxLocals ret :: ws) room_1) (fun a U => a = #[(.int p0), (.int p1), (.int p2)] ∧ Z.Warmed39 U.vm ∧ U.heap = h0) (fun _ _ _ _ _ => True) (fun _ U o U' => ∃ v L, o = .returned v ∧ (own_QL (some (.int (lw_f p0 p1 p2))) n0) v U'.heap L ∧ FrameEnd U o U' L room_1.cells room_1.slots) :=
  own_met hw (plainFor_of_name (by first | (simp [plainName, overriddenIn]; done) | decide +kernel)) (fun p e s m below meth c T0 C0 X0 e0 => own_st (fun _ k => castTop (lw_ef m p0 p1 p2) k) (lw_c0 C0 X0 e0 (Fr.nil n0) Z0  rfl))
theorem own_law (p0 p1 p2 : Int32) : lw_f p0 p1 p2 = 1 := by
  simp only [lw_f]
  generalize p0.toInt16.toInt32 = lo
  generalize p1.toInt16.toInt32 = hi
  generalize p2.toInt16.toInt32 = v
  have hc : cn_f v lo hi = if lo ≤ v ∧ v ≤ hi then 1 else 0 := by
    simp only [cn_f, Int32.lt_iff_toInt_lt, Int32.le_iff_toInt_le]
    repeat' split
    all_goals first | rfl | omega
  have hm : mn_f (mx_f v lo) hi = v ↔ (lo ≤ v ∧ v ≤ hi) ∨ (hi < lo ∧ hi = v) := by
    simp only [mn_f, mx_f, Int32.lt_iff_toInt_lt, Int32.le_iff_toInt_le, ← Int32.toInt_inj]
    repeat' split
    all_goals omega
  simp only [hc, hm]
  by_cases a : hi < lo
  · have b : ¬ (lo ≤ v ∧ v ≤ hi) := by
      simp only [Int32.lt_iff_toInt_lt, Int32.le_iff_toInt_le] at a ⊢; omega
    simp [a, b]
  · by_cases b : lo ≤ v ∧ v ≤ hi
    · simp [a, b]
    · simp [a, b]

set_option maxRecDepth 65536 in
set_option maxHeartbeats 40000000 in
theorem comes_1 {Post : Tables → Env → Array Value → State → Outcome → State → Prop} (hpost : ∀ tb e args s v u, (limb_1_1.after args s (.returned v) u = true ∧ limb_1_2.after args s (.returned v) u = true ∧ True) → FrameEnd s (.returned v) u (Jvm.fieldLocs frame_1_writes args s ++ Jvm.arrayLocs frame_1_arrays args s ++ Jvm.staticLocs frame_1_statics s) 16 128 → Post tb e args s (.returned v) u) :
    ArmFor flags0 classFile x code maxLocals ret World_1 tables_1 room_1 Calls_1 rest_1 Pre_1 Post := by
  intro l hfl _ _ p e ha hc hk s m args below hf hA hF happ hP
  obtain ⟨hcalls, hrest, hpre⟩ := hP
  obtain ⟨-, -, -, hnamed, -, -, -, hat⟩ := (Spec.applies_iff hf).mp happ
  obtain ⟨hg, hn⟩ := and_e (Cond.before_iff.mp (show (Jvm.Cond.and given_1 narrow_1).before args s = true from hpre))
  obtain ⟨gc, hg0⟩ := and_e hg
  obtain ⟨g0, hg1⟩ := and_e hg0
  obtain ⟨g1, g2⟩ := and_e hg1
  obtain ⟨w0, w1, w2, rfl⟩ : ∃ w0 w1 w2 : Value, args = #[w0, w1, w2] := by
    have hs : args.size = 3 := by simpa [Cond.value, given_1] using gc
    obtain ⟨L⟩ := args
    match L, hs with
    | [w0, w1, w2], _ => exact ⟨w0, w1, w2, rfl⟩
  have hw := fun d (hd : d ∈ tables_1) => atoms_spec (ws := Jvm.Cond.code x code maxLocals ret :: tables_1) hat d (List.mem_cons_of_mem _ hd)
  have hfit : Fit s := fun {y c} hc i hi => by
    obtain ⟨ha, rfl⟩ := Array.getElem?_eq_some_iff.mp hc
    have q := List.all_eq_true.mp ((Array.all_eq_true_iff_forall_mem.mp hF) _ (Array.getElem_mem ha)) i (List.mem_range.mpr hi)
    simpa [Array.getElem?_eq_getElem hi] using q
  obtain ⟨i0, ei0⟩ := is_v g0
  obtain rfl : w0 = (.int i0) := Option.some.inj ei0
  obtain ⟨i1, ei1⟩ := is_v g1
  obtain rfl : w1 = (.int i1) := Option.some.inj ei1
  obtain ⟨i2, ei2⟩ := is_v g2
  obtain rfl : w2 = (.int i2) := Option.some.inj ei2
  obtain ⟨n, o, h1, h2, h3, _, L, rfl, ⟨rfl, N⟩, hq⟩ := lw_rm l s _ hw tables_1 i0 i1 i2  s.heap s.heap.size (Nat.le_refl _) p e ha hc hk s m _ below hf ((Spec.applies_iff_loose hf).mp happ).1 ⟨rfl, State.Warmed39.refl s, rfl⟩ trivial
  refine ⟨n, _, h1, h2, h3, hpost _ _ _ _ _ _ ⟨Cond.after_iff.mpr rfl, Cond.after_iff.mpr (eq_i res_at (Term.int_eval (1)) (by rw [own_law])), trivial⟩ ⟨hq.1, hq.2.1, (hq.2.2.sift fun y hy => Or.inr (N y hy)).mono (by decide) (by decide)⟩⟩
theorem main_1_1 : Claimed_1_1 := comes_1 fun _ _ _ _ _ _ h hF => ⟨h.1, hF⟩
theorem main_1_2 : Claimed_1_2 := comes_1 fun _ _ _ _ _ _ h hF => ⟨h.2.1, hF⟩
end Jvm.Pilot.@@N@@
namespace Jvm.Pilot.@@N@@
open Jvm Jvm.ClassFile Sem Op Lib Jvm.Free Jvm.Stand Jvm.Pilot.@@N@@.Jvm.D
/-! MADE BY PROGRAM (witnessworld.py) out of the Statement's table words and the real class files: 11 classes; the members and pool entries that the words name. The judged class is class 1, her method 1. -/
namespace start1
open Jvm.ClassFile
def u (s : String) : CpInfo := .utf8 (stringToUtf16 s)
/-- a pool by its gaps: so many unusable entries, then the entry; so many at the end -/
def gap : Nat → List CpInfo → List CpInfo
  | 0, r => r
  | n + 1, r => .unusable :: gap n r
def poolList (es : List (Nat × CpInfo)) (last : Nat) : List CpInfo := es.foldr (fun e r => gap e.1 (e.2 :: r)) (gap last [])
def pool (es : List (Nat × CpInfo)) (last : Nat) : Array CpInfo := ⟨poolList es last⟩
def fileOf (pool : Array CpInfo) (this : Nat) (attrs : Array Attribute := #[]) (ms : Array MethodInfo := #[]) (fl : Nat := 33) (sup : Nat := 0) (ifs : Array Nat := #[]) (fds : Array FieldInfo := #[]) : ClassFile where
  minorVersion := 0
  majorVersion := 65
  constantPool := pool
  accessFlags := fl
  thisClass := this
  superClass := sup
  interfaces := ifs
  fields := fds
  methods := ms
  attributes := attrs
def plain (name : String) (sup : Option ClassId) : Class where
  name := name
  kind := .ordinary
  loader := none
  accessFlags := 33
  super := sup
  interfaces := #[]
  cf := none
  fields := #[]
  methods := #[]
  instanceTypes := #[]
  staticTypes := #[]
  resolved := #[]
  callSites := []
  init := .initialized
  statics := none
  mirror := none

def pool0 : Array CpInfo := pool [(5, u "<init>"), (0, u "()V"), (1, .class_ 10), (1, u "java/lang/Object")] 113

def k0c0 : Code := { maxStack := 0, maxLocals := 1, code := object_method_1_code, exceptionTable := #[], attributes := #[] }
def k0m0 : Method := { name := "<init>", desc := "()V", sig := { parameters := [], returnType := none }, accessFlags := 1, code := some k0c0 }
/-- java/lang/Object -/
def k0 : Class := { plain "java/lang/Object" none with
  accessFlags := 33
  interfaces := #[]
  cf := some (fileOf pool0 8 #[] #[{ accessFlags := 1, nameIndex := 5, descriptorIndex := 6, attributes := #[] }] 33 0 #[] #[])
  fields := #[]
  methods := #[k0m0]
  instanceTypes := #[]
  staticTypes := #[]
  resolved := Array.replicate 124 none
  statics := none }

def pool1 : Array CpInfo := pool [(2, .class_ 4), (1, u "java/lang/Object"), (0, u "<init>"), (0, u "()V"), (0, .class_ 8), (0, u "com/example/stierlin/stierlin/protocol/ApiVersionRange"), (0, .methodref 7 10), (0, .nameAndType 5 11), (0, u "(Lcom/example/stierlin/stierlin/protocol/ApiKey;SS)V"), (0, .methodref 7 13), (0, .nameAndType 14 15), (0, u "contains"), (0, u "(S)Z"), (0, .methodref 17 18), (0, .class_ 19), (0, .nameAndType 20 21), (0, u "java/lang/Math"), (0, u "max"), (0, u "(II)I"), (0, .methodref 17 23), (0, .nameAndType 24 21), (0, u "min"), (0, .class_ 26), (0, u "com/example/stierlin/stierlin/protocol/ApiVersionRangeContainsPinLaw"), (2, u "law"), (0, u "(III)Z")] 3

def k1m0 : Method := { name := "<init>", desc := "()V", sig := { parameters := [], returnType := none }, accessFlags := 1, code := none }
def k1c1 : Code := { maxStack := 5, maxLocals := 10, code := code, exceptionTable := #[], attributes := #[] }
def k1m1 : Method := { name := "law", desc := "(III)Z", sig := { parameters := [.int, .int, .int], returnType := some .boolean }, accessFlags := 9, code := some k1c1 }
/-- com/example/stierlin/stierlin/protocol/ApiVersionRangeContainsPinLaw -/
def k1 : Class := { plain "com/example/stierlin/stierlin/protocol/ApiVersionRangeContainsPinLaw" (some 0) with
  accessFlags := 49
  interfaces := #[]
  cf := some (fileOf pool1 25 #[] #[{ accessFlags := 1, nameIndex := 5, descriptorIndex := 6, attributes := #[] }, { accessFlags := 9, nameIndex := 29, descriptorIndex := 30, attributes := #[] }] 49 2 #[] #[])
  fields := #[]
  methods := #[k1m0, k1m1]
  instanceTypes := #[]
  staticTypes := #[]
  resolved := Array.replicate 34 none
  statics := none }

def pool2 : Array CpInfo := pool [(1, .methodref 2 3), (0, .class_ 4), (0, .nameAndType 5 6), (0, u "java/lang/Object"), (0, u "<init>"), (0, u "()V"), (0, .class_ 8), (0, u "java/lang/Record")] 13

def k2c0 : Code := { maxStack := 1, maxLocals := 1, code := jdk_30_method_1_code, exceptionTable := #[], attributes := #[] }
def k2m0 : Method := { name := "<init>", desc := "()V", sig := { parameters := [], returnType := none }, accessFlags := 4, code := some k2c0 }
/-- java/lang/Record -/
def k2 : Class := { plain "java/lang/Record" (some 0) with
  accessFlags := 1057
  interfaces := #[]
  cf := some (fileOf pool2 7 #[] #[{ accessFlags := 4, nameIndex := 5, descriptorIndex := 6, attributes := #[] }] 1057 2 #[] #[])
  fields := #[]
  methods := #[k2m0]
  instanceTypes := #[]
  staticTypes := #[]
  resolved := Array.replicate 22 none
  statics := none }

def pool3 : Array CpInfo := pool [(1, .methodref 2 3), (0, .class_ 4), (0, .nameAndType 5 6), (0, u "java/lang/Record"), (0, u "<init>"), (0, u "()V"), (0, .fieldref 8 9), (0, .class_ 10), (0, .nameAndType 11 12), (0, u "com/example/stierlin/stierlin/protocol/ApiVersionRange"), (0, u "api"), (0, u "Lcom/example/stierlin/stierlin/protocol/ApiKey;"), (0, .fieldref 8 14), (0, .nameAndType 15 16), (0, u "minVersion"), (0, u "S"), (0, .fieldref 8 18), (0, .nameAndType 19 16), (0, u "maxVersion"), (2, u "(Lcom/example/stierlin/stierlin/protocol/ApiKey;SS)V"), (16, u "contains"), (0, u "(S)Z")] 28

def k3c0 : Code := { maxStack := 2, maxLocals := 4, code := prog_24_method_2_code, exceptionTable := #[], attributes := #[] }
def k3m0 : Method := { name := "<init>", desc := "(Lcom/example/stierlin/stierlin/protocol/ApiKey;SS)V", sig := { parameters := [(.object "com/example/stierlin/stierlin/protocol/ApiKey"), .short, .short], returnType := none }, accessFlags := 1, code := some k3c0 }
def k3c1 : Code := { maxStack := 2, maxLocals := 2, code := prog_24_method_3_code, exceptionTable := #[], attributes := #[] }
def k3m1 : Method := { name := "contains", desc := "(S)Z", sig := { parameters := [.short], returnType := some .boolean }, accessFlags := 1, code := some k3c1 }
/-- com/example/stierlin/stierlin/protocol/ApiVersionRange -/
def k3 : Class := { plain "com/example/stierlin/stierlin/protocol/ApiVersionRange" (some 2) with
  accessFlags := 49
  interfaces := #[]
  cf := some (fileOf pool3 8 #[] #[{ accessFlags := 1, nameIndex := 5, descriptorIndex := 22, attributes := #[] }, { accessFlags := 1, nameIndex := 39, descriptorIndex := 40, attributes := #[] }] 49 2 #[] #[{ accessFlags := 18, nameIndex := 11, descriptorIndex := 12, attributes := #[] }, { accessFlags := 18, nameIndex := 15, descriptorIndex := 16, attributes := #[] }, { accessFlags := 18, nameIndex := 19, descriptorIndex := 16, attributes := #[] }])
  fields := #[{ name := "api", type := (.object "com/example/stierlin/stierlin/protocol/ApiKey"), accessFlags := 18, slot := 0, constantValue := 0 }, { name := "minVersion", type := .short, accessFlags := 18, slot := 1, constantValue := 0 }, { name := "maxVersion", type := .short, accessFlags := 18, slot := 2, constantValue := 0 }]
  methods := #[k3m0, k3m1]
  instanceTypes := #[(.object "com/example/stierlin/stierlin/protocol/ApiKey"), .short, .short]
  staticTypes := #[]
  resolved := Array.replicate 69 none
  statics := none }

def pool4 : Array CpInfo := pool [(1, .class_ 2), (0, u "java/lang/Math"), (1, .class_ 6), (1, u "java/lang/Object"), (0, u "<init>"), (0, u "()V"), (89, .class_ 100), (1, u "java/lang/Math$RandomNumberGeneratorHolder"), (71, u "negativeZeroFloatBits"), (0, u "J"), (2, u "negativeZeroDoubleBits"), (21, u "max"), (2, u "min"), (43, u "$assertionsDisabled"), (0, u "Z"), (88, u "(II)I"), (2, u "twoToTheDoubleScaleDown"), (0, u "D"), (4, u "twoToTheDoubleScaleUp"), (9, u "E"), (3, u "PI"), (2, u "TAU"), (2, u "DEGREES_TO_RADIANS"), (0, u "RADIANS_TO_DEGREES")] 94

def k4m0 : Method := { name := "<init>", desc := "()V", sig := { parameters := [], returnType := none }, accessFlags := 2, code := none }
def k4c1 : Code := { maxStack := 2, maxLocals := 2, code := jdk_29_method_65_code, exceptionTable := #[], attributes := #[] }
def k4m1 : Method := { name := "max", desc := "(II)I", sig := { parameters := [.int, .int], returnType := some .int }, accessFlags := 9, code := some k4c1 }
def k4c2 : Code := { maxStack := 2, maxLocals := 2, code := jdk_29_method_69_code, exceptionTable := #[], attributes := #[] }
def k4m2 : Method := { name := "min", desc := "(II)I", sig := { parameters := [.int, .int], returnType := some .int }, accessFlags := 9, code := some k4c2 }
/-- java/lang/Math -/
def k4 : Class := { plain "java/lang/Math" (some 0) with
  accessFlags := 49
  interfaces := #[]
  cf := some (fileOf pool4 1 #[.nestMembers #[98]] #[{ accessFlags := 2, nameIndex := 7, descriptorIndex := 8, attributes := #[] }, { accessFlags := 9, nameIndex := 198, descriptorIndex := 335, attributes := #[] }, { accessFlags := 9, nameIndex := 201, descriptorIndex := 335, attributes := #[] }] 49 4 #[] #[{ accessFlags := 25, nameIndex := 354, descriptorIndex := 339, attributes := #[] }, { accessFlags := 25, nameIndex := 358, descriptorIndex := 339, attributes := #[] }, { accessFlags := 25, nameIndex := 361, descriptorIndex := 339, attributes := #[] }, { accessFlags := 26, nameIndex := 364, descriptorIndex := 339, attributes := #[] }, { accessFlags := 26, nameIndex := 365, descriptorIndex := 339, attributes := #[] }, { accessFlags := 26, nameIndex := 172, descriptorIndex := 173, attributes := #[] }, { accessFlags := 26, nameIndex := 176, descriptorIndex := 173, attributes := #[] }, { accessFlags := 8, nameIndex := 344, descriptorIndex := 339, attributes := #[] }, { accessFlags := 8, nameIndex := 338, descriptorIndex := 339, attributes := #[] }, { accessFlags := 4120, nameIndex := 245, descriptorIndex := 246, attributes := #[] }])
  fields := #[{ name := "E", type := .double, accessFlags := 25, slot := 0, constantValue := 0 }, { name := "PI", type := .double, accessFlags := 25, slot := 1, constantValue := 0 }, { name := "TAU", type := .double, accessFlags := 25, slot := 2, constantValue := 0 }, { name := "DEGREES_TO_RADIANS", type := .double, accessFlags := 26, slot := 3, constantValue := 0 }, { name := "RADIANS_TO_DEGREES", type := .double, accessFlags := 26, slot := 4, constantValue := 0 }, { name := "negativeZeroFloatBits", type := .long, accessFlags := 26, slot := 5, constantValue := 0 }, { name := "negativeZeroDoubleBits", type := .long, accessFlags := 26, slot := 6, constantValue := 0 }, { name := "twoToTheDoubleScaleUp", type := .double, accessFlags := 8, slot := 7, constantValue := 0 }, { name := "twoToTheDoubleScaleDown", type := .double, accessFlags := 8, slot := 8, constantValue := 0 }, { name := "$assertionsDisabled", type := .boolean, accessFlags := 4120, slot := 9, constantValue := 0 }]
  methods := #[k4m0, k4m1, k4m2]
  instanceTypes := #[]
  staticTypes := #[.double, .double, .double, .double, .double, .long, .long, .double, .double, .boolean]
  resolved := Array.replicate 460 none
  statics := none }

def pool5 : Array CpInfo := pool [(1, u "java/lang/Cloneable"), (0, .class_ 1), (0, u "java/lang/Object"), (0, .class_ 3)] 3

/-- java/lang/Cloneable -/
def k5 : Class := { plain "java/lang/Cloneable" (some 0) with
  accessFlags := 1537
  interfaces := #[]
  cf := some (fileOf pool5 2 #[] #[] 1537 4 #[] #[])
  fields := #[]
  methods := #[]
  instanceTypes := #[]
  staticTypes := #[]
  resolved := Array.replicate 8 none
  statics := none }

def pool6 : Array CpInfo := pool [(1, u "java/io/Serializable"), (0, .class_ 1), (0, u "java/lang/Object"), (0, .class_ 3)] 3

/-- java/io/Serializable -/
def k6 : Class := { plain "java/io/Serializable" (some 0) with
  accessFlags := 1537
  interfaces := #[]
  cf := some (fileOf pool6 2 #[] #[] 1537 4 #[] #[])
  fields := #[]
  methods := #[]
  instanceTypes := #[]
  staticTypes := #[]
  resolved := Array.replicate 8 none
  statics := none }

/-- the primitive byte -/
def k7 : Class := { plain "byte" none with kind := .primitive 'B', accessFlags := 0x411 }
/-- [B -/
def k8 : Class := { plain "[B" (some 0) with kind := .array 7 .byte, interfaces := #[5, 6], accessFlags := 1041 }

/-- the primitive int -/
def k9 : Class := { plain "int" none with kind := .primitive 'I', accessFlags := 0x411 }
/-- [I -/
def k10 : Class := { plain "[I" (some 0) with kind := .array 9 .int, interfaces := #[5, 6], accessFlags := 1041 }

def heap : Heap := #[]
def classes : Array Class := #[k0, k1, k2, k3, k4, k5, k6, k7, k8, k9, k10]
def interned : List (Array UInt16 × Addr) := []
def slotsUsed : Nat := 0
def theMethod : MethodId := ⟨1, 1⟩
def args0 : Array Value := #[.int 5, .int 9, .int 7]
def aboutOver (below : List Frame) : State where
  vm := { classes := classes, interned := interned.toArray }
  heap := heap
  slotsUsed := slotsUsed
  threads := #[{ frames := .invoking theMethod args0 :: below }]
def below0 : List Frame := [.native { method := ⟨0, 0⟩, args := #[] }]
def about1 : State := aboutOver below0
def p0 : Program := .bare "" "" ""
def e0 : Env := launch0.env 0 0 0
theorem w_frames : about1.frames = Frame.invoking theMethod args0 :: below0 := rfl
set_option maxRecDepth 65536 in
theorem w_args : argsFit about1.vm theMethod args0 = true := by decide +kernel
set_option maxRecDepth 65536 in
theorem w_heap : heapFits about1 = true := by decide +kernel
set_option maxRecDepth 65536 in
theorem w_runnable : about1.curStatus? = some .runnable := by decide +kernel
set_option maxRecDepth 65536 in
theorem w_alone : about1.alone = true := by decide +kernel
set_option maxRecDepth 65536 in
theorem w_named : about1.methodNamed? x = some theMethod := by decide +kernel
set_option maxRecDepth 65536 in
theorem w_hears : about1.hears theMethod below0 = true := by decide +kernel
set_option maxRecDepth 65536 in
theorem w_ripe : about1.ripe theMethod args0 below0 = true := by decide +kernel
theorem w_running : about1.status = .running := rfl
set_option maxRecDepth 65536 in
theorem w_room : about1.hasRoom e0.platform room_1 = true :=
  launch0.hasRoom_least _ room_1 (by decide +kernel) (by decide +kernel) (by decide +kernel) (by decide +kernel) (by decide +kernel) (by decide +kernel)
theorem allAtoms_all (ts : List Jvm.Cond) (a : Array Jvm.Value) (st : Jvm.State) : (allAtoms ts).before a st = ts.all (fun c => c.before a st) := by
  induction ts with
  | nil => rfl
  | cons c t ih =>
    show (Jvm.Cond.and c (allAtoms t)).before a st = _
    rw [Jvm.Cond.before_and, ih, List.all_cons]
def words1 : List Jvm.Cond := Jvm.Cond.code x code maxLocals ret :: tables_1
/-- a 'code' word, met by the world's own term for the bytes: nothing is compared byte by byte -/
theorem code_word {y : MethodName} {bytes : ByteArray} {mx : Nat} {rt : Option FieldType} {a : Array Value} {s : State} {m : MethodId} {meth : Method} {c : Code} (h1 : s.methodNamed? y = some m) (h2 : s.vm.method? m = some meth) (h3 : meth.code = some c) (h4 : c.code = bytes)
    (h5 : (c.maxLocals == mx && c.exceptionTable.isEmpty && decide (c.maxStack ≤ mostOperands) && decide (meth.sig.returnType = rt) && !meth.locks && decide (parseMethodDescriptor y.desc = some meth.sig)) = true) : (Jvm.Cond.code y bytes mx rt).before a s = true := by
  simp only [Bool.and_eq_true, beq_iff_eq, Bool.not_eq_true', decide_eq_true_eq] at h5
  obtain ⟨⟨⟨⟨⟨g1, g2⟩, g3⟩, g4⟩, g5⟩, g6⟩ := h5
  simp [Cond.before, Cond.holds, Cond.value, h1, h2, h3, h4, g1, g2, g3, g4, g5, g6]
def isCode : Jvm.Cond → Bool
  | .code _ _ _ _ => true
  | _ => false
theorem all_split {L : List Jvm.Cond} {P : Jvm.Cond → Bool} (h1 : L.all (fun c => isCode c || P c) = true) (h2 : ∀ c ∈ L.filter isCode, P c = true) : L.all P = true := by
  refine List.all_eq_true.mpr fun c hc => ?_
  have h := List.all_eq_true.mp h1 c hc
  rcases Bool.eq_false_or_eq_true (isCode c) with hi | hi
  · exact h2 c (List.mem_filter.mpr ⟨hc, hi⟩)
  · simpa [hi] using h
set_option maxRecDepth 65536 in
theorem w_c0 : (Jvm.Cond.code x code maxLocals ret).before args0 about1 = true := code_word (m := ⟨1, 1⟩) (meth := k1m1) (c := k1c1) (by decide +kernel) rfl rfl rfl (by decide +kernel)
set_option maxRecDepth 65536 in
theorem w_c1 : (Jvm.Cond.code ({ cls := "com/example/stierlin/stierlin/protocol/ApiVersionRange", name := "<init>", desc := "(Lcom/example/stierlin/stierlin/protocol/ApiKey;SS)V" } : Jvm.MethodName) prog_24_method_2_code (4 : Nat) (Option.none : Option Jvm.ClassFile.FieldType)).before args0 about1 = true := code_word (m := ⟨3, 0⟩) (meth := k3m0) (c := k3c0) (by decide +kernel) rfl rfl rfl (by decide +kernel)
set_option maxRecDepth 65536 in
theorem w_c2 : (Jvm.Cond.code ({ cls := "java/lang/Record", name := "<init>", desc := "()V" } : Jvm.MethodName) jdk_30_method_1_code (1 : Nat) (Option.none : Option Jvm.ClassFile.FieldType)).before args0 about1 = true := code_word (m := ⟨2, 0⟩) (meth := k2m0) (c := k2c0) (by decide +kernel) rfl rfl rfl (by decide +kernel)
set_option maxRecDepth 65536 in
theorem w_c3 : (Jvm.Cond.code ({ cls := "java/lang/Object", name := "<init>", desc := "()V" } : Jvm.MethodName) object_method_1_code (1 : Nat) (Option.none : Option Jvm.ClassFile.FieldType)).before args0 about1 = true := code_word (m := ⟨0, 0⟩) (meth := k0m0) (c := k0c0) (by decide +kernel) rfl rfl rfl (by decide +kernel)
set_option maxRecDepth 65536 in
theorem w_c4 : (Jvm.Cond.code ({ cls := "com/example/stierlin/stierlin/protocol/ApiVersionRange", name := "contains", desc := "(S)Z" } : Jvm.MethodName) prog_24_method_3_code (2 : Nat) (Option.some Jvm.ClassFile.FieldType.boolean)).before args0 about1 = true := code_word (m := ⟨3, 1⟩) (meth := k3m1) (c := k3c1) (by decide +kernel) rfl rfl rfl (by decide +kernel)
set_option maxRecDepth 65536 in
theorem w_c5 : (Jvm.Cond.code ({ cls := "java/lang/Math", name := "max", desc := "(II)I" } : Jvm.MethodName) jdk_29_method_65_code (2 : Nat) (Option.some Jvm.ClassFile.FieldType.int)).before args0 about1 = true := code_word (m := ⟨4, 1⟩) (meth := k4m1) (c := k4c1) (by decide +kernel) rfl rfl rfl (by decide +kernel)
set_option maxRecDepth 65536 in
theorem w_c6 : (Jvm.Cond.code ({ cls := "java/lang/Math", name := "min", desc := "(II)I" } : Jvm.MethodName) jdk_29_method_69_code (2 : Nat) (Option.some Jvm.ClassFile.FieldType.int)).before args0 about1 = true := code_word (m := ⟨4, 2⟩) (meth := k4m2) (c := k4c2) (by decide +kernel) rfl rfl rfl (by decide +kernel)
def codes1 : List Jvm.Cond := [Jvm.Cond.code x code maxLocals ret, Jvm.Cond.code ({ cls := "com/example/stierlin/stierlin/protocol/ApiVersionRange", name := "<init>", desc := "(Lcom/example/stierlin/stierlin/protocol/ApiKey;SS)V" } : Jvm.MethodName) prog_24_method_2_code (4 : Nat) (Option.none : Option Jvm.ClassFile.FieldType), Jvm.Cond.code ({ cls := "java/lang/Record", name := "<init>", desc := "()V" } : Jvm.MethodName) jdk_30_method_1_code (1 : Nat) (Option.none : Option Jvm.ClassFile.FieldType), Jvm.Cond.code ({ cls := "java/lang/Object", name := "<init>", desc := "()V" } : Jvm.MethodName) object_method_1_code (1 : Nat) (Option.none : Option Jvm.ClassFile.FieldType), Jvm.Cond.code ({ cls := "com/example/stierlin/stierlin/protocol/ApiVersionRange", name := "contains", desc := "(S)Z" } : Jvm.MethodName) prog_24_method_3_code (2 : Nat) (Option.some Jvm.ClassFile.FieldType.boolean), Jvm.Cond.code ({ cls := "java/lang/Math", name := "max", desc := "(II)I" } : Jvm.MethodName) jdk_29_method_65_code (2 : Nat) (Option.some Jvm.ClassFile.FieldType.int), Jvm.Cond.code ({ cls := "java/lang/Math", name := "min", desc := "(II)I" } : Jvm.MethodName) jdk_29_method_69_code (2 : Nat) (Option.some Jvm.ClassFile.FieldType.int)]
set_option maxRecDepth 65536 in
theorem codes_eq : words1.filter isCode = codes1 := rfl
theorem w_codes : ∀ c ∈ words1.filter isCode, c.before args0 about1 = true := by
  rw [codes_eq]
  intro c hc
  simp only [codes1, List.mem_cons, List.not_mem_nil, or_false] at hc
  rcases hc with rfl | rfl | rfl | rfl | rfl | rfl | rfl
  · exact w_c0
  · exact w_c1
  · exact w_c2
  · exact w_c3
  · exact w_c4
  · exact w_c5
  · exact w_c6
set_option maxRecDepth 65536 in
theorem w_t1 : (words1.take 24).all (fun c => isCode c || c.before args0 about1) = true := by decide +kernel
set_option maxRecDepth 65536 in
theorem w_t2 : (words1.drop 24).all (fun c => isCode c || c.before args0 about1) = true := by decide +kernel
theorem w_tables : (allAtoms (Jvm.Cond.code x code maxLocals ret :: tables_1)).before args0 about1 = true := by
  rw [allAtoms_all]
  show words1.all (fun c => c.before args0 about1) = true
  refine all_split ?_ w_codes
  rw [← List.take_append_drop 24 words1, List.all_append, w_t1, w_t2]
  rfl
set_option maxRecDepth 65536 in
theorem w_case : (Jvm.Cond.and given_1 narrow_1).before args0 about1 = true := by decide +kernel
theorem w_applies : (headSpec (Jvm.Cond.code x code maxLocals ret :: tables_1) room_1).applies x e0.platform about1 = true :=
  (Spec.applies_iff w_frames).mpr ⟨w_running, w_runnable, w_alone, w_named, w_hears, w_ripe, w_room, w_tables⟩
theorem atStart : AtStart classFile x code maxLocals ret World_1 tables_1 room_1 Calls_1 rest_1 Pre_1 launch0 p0 e0 about1 theMethod args0 below0 :=
  ⟨lists_1, trivial, launch0.admits_env _ _ _, launch0.least_env, fairChoices_fair.cas, fairChoices_fair.clock, w_frames, w_args, w_heap, w_applies, trivial, trivial, w_case⟩
end start1
theorem witness_1 : WitnessClaimed_1 := ⟨start1.p0, start1.e0, start1.about1, start1.theMethod, start1.args0, start1.below0, start1.atStart⟩
end Jvm.Pilot.@@N@@
