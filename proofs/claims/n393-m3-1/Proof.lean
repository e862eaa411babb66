import JvmDerived
import JvmDerived.Pilot.@@N@@Statement
import JvmDerived.Pilot.@@N@@Code
set_option linter.unusedVariables false
set_option linter.unusedSimpArgs false

namespace Jvm.Pilot.@@N@@
open Jvm Jvm.ClassFile Sem Op Lib Jvm.Free Jvm.Stand Jvm.LawKit Jvm.RoadKit Bundle Jvm.Pilot.@@N@@.Jvm.D
/-! own layer: 'from here the run ends, and Q holds of what it leaves' (own_Dn), stepped backwards -/
def own_Dn (p : Program) (e : Env) (below : List Frame) (s : State) (Q : Option Value → Heap → List Loc → Prop) (K N : Nat) (A : State) : Prop :=
  ∃ s₂ o, Steps p.tables e below A s₂ ∧ s₂.status = .running ∧ Ended s₂ below o ∧ ∃ v L, o = .returned v ∧ Q v s₂.heap L ∧ FrameEnd s o s₂ L K N
def own_Q (r : Option Value) (n0 : Nat) (h0 : Heap) (v : Option Value) (h : Heap) (L : List Loc) : Prop := v = r ∧ Fr n0 L ∧ h = h0
def own_QL (r : Option Value) (n0 : Nat) (v : Option Value) (h : Heap) (L : List Loc) : Prop := v = r ∧ Fr n0 L
def own_Cx (p : Program) (s : State) (m : MethodId) (meth : Method) (c : Code) (Z : State) (a0 : Array Value) (bytes : ByteArray) (ml : Nat) (own nm : String) (ret : Option FieldType) : Prop :=
  p.tables.exec = Jvm.exec ∧ Z.Warmed39 s.vm ∧ (∀ d ∈ tables_1, d.before a0 Z = true) ∧ c.code = bytes ∧ c.maxLocals = ml ∧ s.vm.findClass own = some m.cls ∧ meth.sig.returnType = ret ∧ meth.locks = false ∧ meth.name = nm
theorem own_st {p : Program} {e : Env} {below : List Frame} {s : State} {Q : Option Value → Heap → List Loc → Prop} {K N : Nat} {A B : State} (k : ∀ t, Steps p.tables e below B t → Steps p.tables e below A t) (d : own_Dn p e below s Q K N B) : own_Dn p e below s Q K N A := by
  obtain ⟨s₂, o, h, r⟩ := d
  exact ⟨s₂, o, k _ h, r⟩
theorem own_tr {p : Program} {e : Env} {below : List Frame} {s : State} {Q : Option Value → Heap → List Loc → Prop} {K N : Nat} {A B : State} (k : Steps p.tables e below A B) (d : own_Dn p e below s Q K N B) : own_Dn p e below s Q K N A :=
  own_st (fun _ h => k.trans h) d
section own
variable {p : Program} {l : Launch} {e : Env} {R : Room} {s : State} {m : MethodId} {args : Array Value} {below : List Frame} {meth : Method} {c : Code} {T : State} {locs : List Loc} {cells slots : Nat} {Q : Option Value → Heap → List Loc → Prop} {K N : Nat}
theorem own_ret (X : Stand p l e R s m args below meth c T locs cells slots) (hlk : meth.locks = false) {v : Option Value} (hv : meth.sig.returnType = none → v = none) {A : State} (hK : cells ≤ K) (hN : slots ≤ N) (hq : Q v T.heap locs)
    (hst : ∀ fs, (∀ (f : JFrame) (acts : List Action), f.method = m → f.locked = none → f.entered = [] → (doReturn e (T.setTop f) acts v).1 = T.setFrames fs) → Steps p.tables e below A (T.setFrames fs)) : own_Dn p e below s Q K N A := by
  obtain ⟨fs, hr, hrun, hended, hW, hsame⟩ := X.leave (v := v) hv hlk
  exact ⟨_, _, hst fs hr, hrun, hended, _, _, rfl, hq, ⟨_, rfl⟩, hW, hsame.mono hK hN⟩
theorem own_retI (X : Stand p l e R s m args below meth c T locs cells slots) (hx : p.tables.exec = Jvm.exec) (hret : meth.sig.returnType = some .int) (hlk : meth.locks = false) {pc : Nat} {Ls : Array Slot} {z : Int32} {rest : List Value} (hd : decode c.code pc = .ok (.ireturn, 1)) (hK : cells ≤ K) (hN : slots ≤ N)
    (hq : Q (some (.int z)) T.heap locs) : own_Dn p e below s Q K N (T.setTop (mkF m pc Ls (.int z :: rest))) :=
  own_ret X hlk (fun h => by rw [hret] at h; cases h) hK hN hq (fun fs hr => retOut X hx hret rfl (Or.inl ⟨rfl, Or.inl rfl, _, rfl⟩) hd hr)
theorem own_retJ (X : Stand p l e R s m args below meth c T locs cells slots) (hx : p.tables.exec = Jvm.exec) (hret : meth.sig.returnType = some .long) (hlk : meth.locks = false) {pc : Nat} {Ls : Array Slot} {z : Int64} {rest : List Value} (hd : decode c.code pc = .ok (.lreturn, 1)) (hK : cells ≤ K) (hN : slots ≤ N)
    (hq : Q (some (.long z)) T.heap locs) : own_Dn p e below s Q K N (T.setTop (mkF m pc Ls (.long z :: rest))) :=
  own_ret X hlk (fun h => by rw [hret] at h; cases h) hK hN hq (fun fs hr => retOut X hx hret rfl (Or.inr (Or.inl ⟨rfl, rfl, _, rfl⟩)) hd hr)
theorem own_retZ (X : Stand p l e R s m args below meth c T locs cells slots) (hx : p.tables.exec = Jvm.exec) (hret : meth.sig.returnType = some .boolean) (hlk : meth.locks = false) {pc : Nat} {Ls : Array Slot} {z : Int32} {rest : List Value} (hz : z &&& 1 = z) (hd : decode c.code pc = .ok (.ireturn, 1)) (hK : cells ≤ K) (hN : slots ≤ N)
    (hq : Q (some (.int z)) T.heap locs) : own_Dn p e below s Q K N (T.setTop (mkF m pc Ls (.int z :: rest))) :=
  own_ret X hlk (fun h => by rw [hret] at h; cases h) hK hN hq (fun fs hr => retOut X hx (w := .int z) hret (show Value.int (z &&& 1) = .int z from congrArg Value.int hz) (Or.inl ⟨rfl, Or.inr (Or.inl rfl), _, rfl⟩) hd hr)
theorem own_retV (X : Stand p l e R s m args below meth c T locs cells slots) (hx : p.tables.exec = Jvm.exec) (hret : meth.sig.returnType = none) (hlk : meth.locks = false) {pc : Nat} {Ls : Array Slot} (hd : decode c.code pc = .ok (.return_, 1)) (hK : cells ≤ K) (hN : slots ≤ N)
    (hq : Q none T.heap locs) : own_Dn p e below s Q K N (T.setTop (mkF m pc Ls [])) :=
  own_ret X hlk (fun _ => rfl) hK hN hq (fun fs hr => X.returnOut hx hret hd hr)
theorem own_retA (X : Stand p l e R s m args below meth c T locs cells slots) (hx : p.tables.exec = Jvm.exec) {t : FieldType} (ht : t.isReference = true) (hret : meth.sig.returnType = some t) (hlk : meth.locks = false) {pc : Nat} {Ls : Array Slot} {w : Value} {rest : List Value} (hw : w.isRef = true) (hn : narrow t w = w) (hd : decode c.code pc = .ok (.areturn, 1)) (hK : cells ≤ K) (hN : slots ≤ N)
    (hq : Q (some w) T.heap locs) : own_Dn p e below s Q K N (T.setTop (mkF m pc Ls (w :: rest))) :=
  own_ret X hlk (fun h => by rw [hret] at h; cases h) hK hN hq (fun fs hr => retOut X hx hret hn (Or.inr (Or.inr (Or.inr (Or.inr ⟨rfl, ht, hw⟩)))) hd hr)
end own
theorem own_met {l : Launch} {Z : State} {a0 : Array Value} (hw : ∀ d ∈ tables_1, d.before a0 Z = true) {y : MethodName} {bytes : ByteArray} {ml : Nat} {ret : Option FieldType} {ws : List Jvm.Cond} {rm : Room} {as' : Array Value} {h0 : Heap} {Q : Option Value → Heap → List Loc → Prop} (hpl : plainFor y = true)
    (body : ∀ p e s m below meth c s₁, own_Cx p s m meth c Z a0 bytes ml y.cls y.name ret → Stand p l e rm s m as' below meth c s₁ [] 0 0 → s₁.heap = h0 → own_Dn p e below s Q rm.cells rm.slots (s₁.setTop (entryFrame m as' ml))) :
    MetFree l y (head1 (Jvm.Cond.code y bytes ml ret :: ws) rm) (fun a U => a = as' ∧ Z.Warmed39 U.vm ∧ U.heap = h0) (fun _ _ _ _ _ => True) (fun _ U o U' => ∃ v L, o = .returned v ∧ Q v U'.heap L ∧ FrameEnd U o U' L rm.cells rm.slots) := by
  refine MetFree.of_bodySF hpl hisR ?_
  intro p e s m args below meth c s₁ Bd hml0 hP hK
  obtain ⟨rfl, hZ, hh⟩ := hP
  exact body p e s m below meth c s₁ ⟨Bd.exec, hZ, hw, Bd.bytes, hml0, findClass_of_methodNamed Bd.named, Bd.returns, BodyLoose.notSynchronized Bd, (name_of_methodNamed Bd.named Bd.method).1⟩ (Stand.of_body Bd) (by rw [← hh, Bd.state]; rfl)
theorem own_jtlt {x y : Int64} (h : x < y) : ifCond.holds .lt (lcmpW x y) = true ∧ ifCond.holds .ge (lcmpW x y) = false ∧ ifCond.holds .gt (lcmpW y x) = true ∧ ifCond.holds .le (lcmpW y x) = false := by
  have h1 : lcmpW x y < 0 := by rw [lcW]; exact (lc_lt x y).mpr h
  have h2 : 0 < lcmpW y x := by rw [lcW]; exact (lc_gt y x).mpr h
  exact ⟨(if0 _ _).trans (tlt h1).1, (if0 _ _).trans (tlt h1).2.1, (if0 _ _).trans (tlt h2).2.2.1, (if0 _ _).trans (tlt h2).2.2.2⟩
theorem own_jflt {x y : Int64} (h : ¬ x < y) : ifCond.holds .lt (lcmpW x y) = false ∧ ifCond.holds .ge (lcmpW x y) = true ∧ ifCond.holds .gt (lcmpW y x) = false ∧ ifCond.holds .le (lcmpW y x) = true := by
  have h1 : ¬ lcmpW x y < 0 := by rw [lcW]; exact fun q => h ((lc_lt x y).mp q)
  have h2 : ¬ 0 < lcmpW y x := by rw [lcW]; exact fun q => h ((lc_gt y x).mp q)
  exact ⟨(if0 _ _).trans (flt h1).1, (if0 _ _).trans (flt h1).2.1, (if0 _ _).trans (flt h2).2.2.1, (if0 _ _).trans (flt h2).2.2.2⟩
theorem own_jteq {x y : Int64} (h : x = y) : ifCond.holds .eq (lcmpW x y) = true ∧ ifCond.holds .ne (lcmpW x y) = false := by
  have h1 : lcmpW x y = 0 := by rw [lcW]; exact (lc_eq x y).mpr h
  exact ⟨(if0 _ _).trans (teq h1).1, (if0 _ _).trans (teq h1).2⟩
theorem own_jfeq {x y : Int64} (h : ¬ x = y) : ifCond.holds .eq (lcmpW x y) = false ∧ ifCond.holds .ne (lcmpW x y) = true := by
  have h1 : ¬ lcmpW x y = 0 := by rw [lcW]; exact fun q => h ((lc_eq x y).mp q)
  exact ⟨(if0 _ _).trans (feq h1).1, (if0 _ _).trans (feq h1).2⟩
theorem own_miss (a : Int32) (ks : List Int32) (h : ∀ k ∈ ks, ¬ a = k) {ps : List (Int × Int)} (e : ps.map (·.1) = ks.map Int32.toInt) : ∀ p ∈ ps, p.1 ≠ a.toInt := by
  intro p hp q
  have h1 : p.1 ∈ ps.map (·.1) := List.mem_map.mpr ⟨p, hp, rfl⟩
  rw [e] at h1
  obtain ⟨k, hk, r⟩ := List.mem_map.mp h1
  exact h k hk (Int32.toInt_inj.mp (q.symm.trans r.symm))
theorem own_Sta_keep {Z : State} {h h' : Heap} {C n d : String} {v : Value} {a : Addr} {C' : String} (F : Sta Z h C n d v) (K : Keep h h' [a]) (E : Exa Z h a C') : Sta Z h' C n d v := by
  obtain ⟨cf, i, k, f, st, cell, h1, h2, h3, h4, h5, h6, h7⟩ := F
  obtain ⟨cl, k', e1, -, -, e4, -⟩ := E
  refine ⟨cf, i, k, f, st, cell, h1, h2, h3, h4, K.2.1 _ _ h5 (ninS (fun q => ?_) nin0), h6, h7⟩
  subst q
  cases h5.symm.trans e1
  rw [h6] at e4; cases e4
theorem own_Sta_keep0 {Z : State} {h h' : Heap} {C n d : String} {v : Value} (F : Sta Z h C n d v) (K : Keep h h' []) : Sta Z h' C n d v := by
  obtain ⟨cf, i, k, f, st, cell, h1, h2, h3, h4, h5, h6, h7⟩ := F
  exact ⟨cf, i, k, f, st, cell, h1, h2, h3, h4, K.2.1 _ _ h5 nin0, h6, h7⟩
theorem own_ne_or {r x : Addr} {ws : List Addr} {H : Heap} (h : r ∈ ws ∨ H.size ≤ r) (hl : x < H.size) (hn : x ∉ ws) : x ≠ r := fun e => h.elim (fun q => hn (e ▸ q)) (fun q => Nat.lt_irrefl _ (Nat.lt_of_lt_of_le (e ▸ hl) q))
theorem own_or_up {r : Addr} {ws ws' : List Addr} {h0 H : Heap} (h : r ∈ ws ∨ H.size ≤ r) (hk : h0.size ≤ H.size) (all : ∀ x ∈ ws, x ∈ ws' ∨ h0.size ≤ x) : r ∈ ws' ∨ h0.size ≤ r := h.elim (all r) (fun q => Or.inr (Nat.le_trans hk q))
theorem own_selp {Z s : State} {a0 args : Array Value} {y : MethodName} {n : Nat} (hZ : Z.Warmed39 s.vm) (w1 : (Cond.instantiable y.cls n).before a0 Z = true) (w2 : (Cond.instanceMethod y).before a0 Z = true) (w3 : (Cond.privateMethod y).before a0 Z = true) (hy : y.cls ≠ "java/lang/invoke/MethodHandle" ∧ y.cls ≠ "java/lang/invoke/VarHandle") : (Cond.selects y.cls y y).before args s = true := by
  have i1 : (Cond.instantiable y.cls n).before args s = true := mvT hZ w1
  obtain ⟨c, k, h1, h2, -, h4, -, -⟩ := Cond.instantiable_spec i1
  have h5 : k.isInterface = false := by
    cases hk : k.isInterface
    · rfl
    · rw [hk] at h4; simp at h4
  exact selects_self_of_private h1 h2 h5 (Cond.privateMethod_at (mvP hZ w3 (args := args))) (mvT hZ w2) hy

theorem own_pd0 : parseMethodDescriptor "(J)J" = some ⟨[.long], some .long⟩ := by decide +kernel
theorem own_pd1 : parseMethodDescriptor "(JJ)Z" = some ⟨[.long, .long], some .boolean⟩ := by decide +kernel
theorem ge_d0 : decode prog_49_method_2_code 0 = .ok (.lload_n 0, 1) := by decide +kernel
theorem ge_d1 : decode prog_49_method_2_code 1 = .ok (.bipush 32, 2) := by decide +kernel
theorem ge_d3 : decode prog_49_method_2_code 3 = .ok (.lushr, 1) := by decide +kernel
theorem ge_d4 : decode prog_49_method_2_code 4 = .ok (.lreturn, 1) := by decide +kernel
def ge_f (q0 : Int64)  : Int64 :=
  ((q0.toUInt64 >>> ((32 : Int32) &&& 0x3f).toInt64.toUInt64).toInt64)
set_option maxRecDepth 65536 in
set_option maxHeartbeats 40000000 in
theorem ge_c0 {l : Launch} {Z : State} {a0 : Array Value} {q0 : Int64} {h0 : Heap} {n0 : Nat} {p : Program} {e : Env} {s : State} {m : MethodId} {args : Array Value} {below : List Frame} {meth : Method} {c : Code} {T0 : State} {locs : List Loc} {r0 : Int64} (C0 : own_Cx p s m meth c Z a0 prog_49_method_2_code 2 "com/example/cairnstore/cairnstore/store/VersionNumber" "generation" (some .long)) (X0 : Stand p l e ({ frames := 0, cells := 0, slots := 0, locals := 0 } : Room) s m args below meth c T0 locs 0 0) (e0 : T0.heap = h0) (N0 : Fr n0 locs)  (hr0 : r0 = ge_f q0 ) :
    own_Dn p e below s (own_Q (some (.long r0)) n0 h0) ({ frames := 0, cells := 0, slots := 0, locals := 0 } : Room).cells ({ frames := 0, cells := 0, slots := 0, locals := 0 } : Room).slots (T0.setTop (mkF m 0 #[.val (.long q0), .second] [])) := by
  obtain ⟨hx, hZ, hw, hby, hml, hown, hret, hlk, hnm⟩ := id C0
  refine own_st (fun _ k => XS.lloadN X0.here hx rfl (hb hby ge_d0) rfl (XS.bipush X0.here hx rfl (hb hby ge_d1) (XS.lushr X0.here hx rfl (hb hby ge_d3) rfl k))) ?_
  show own_Dn p e below s _ _ _ (T0.setTop (mkF m 4 #[.val (.long q0), .second] [(.long ((q0.toUInt64 >>> ((32 : Int32) &&& 0x3f).toInt64.toUInt64).toInt64))]))
  exact own_retJ X0 hx hret hlk (hb hby ge_d4) (by decide) (by decide) ⟨(by rw [hr0, ge_f]), N0, e0⟩
theorem ge_ef (m : MethodId) (q0 : Int64) : entryFrame m #[(.long q0)] 2 = mkF m 0 #[.val (.long q0), .second] [] := by first | (simp [entryFrame, mkF, argsToLocals, Value.category]; done) | rfl
theorem ge_rm (l : Launch) (Z : State) (a0 : Array Value) (hw : ∀ d ∈ tables_1, d.before a0 Z = true) (ws : List Jvm.Cond) (q0 : Int64) (h0 : Heap) (n0 : Nat) :
    MetFree l (⟨"com/example/cairnstore/cairnstore/store/VersionNumber", "generation", "(J)J"⟩ : MethodName) (head1 (Jvm.Cond.code (⟨"com/example/cairnstore/cairnstore/store/VersionNumber", "generation", "(J)J"⟩ : MethodName) prog_49_method_2_code 2 (some .long) :: ws) ({ frames := 0, cells := 0, slots := 0, locals := 0 } : Room)) (fun a U => a = #[(.long q0)] ∧ Z.Warmed39 U.vm ∧ U.heap = h0) (fun _ _ _ _ _ => True) (fun _ U o U' => ∃ v L, o = .returned v ∧ (own_Q (some (.long (ge_f q0))) n0 h0) v U'.heap L ∧ FrameEnd U o U' L ({ frames := 0, cells := 0, slots := 0, locals := 0 } : Room).cells ({ frames := 0, cells := 0, slots := 0, locals := 0 } : Room).slots) :=
  own_met hw (plainFor_of_name (by first | (simp [plainName, overriddenIn]; done) | decide +kernel)) (fun p e s m below meth c T0 C0 X0 e0 => own_st (fun _ k => castTop (ge_ef m q0) k) (ge_c0 C0 X0 e0 (Fr.nil n0) rfl))
theorem sq_d0 : decode prog_49_method_3_code 0 = .ok (.lload_n 0, 1) := by decide +kernel
theorem sq_d1 : decode prog_49_method_3_code 1 = .ok (.ldc2_w 9, 3) := by decide +kernel
theorem sq_d4 : decode prog_49_method_3_code 4 = .ok (.land, 1) := by decide +kernel
theorem sq_d5 : decode prog_49_method_3_code 5 = .ok (.lreturn, 1) := by decide +kernel
def sq_f (q0 : Int64)  : Int64 :=
  (q0 &&& (4294967295 : Int64))
set_option maxRecDepth 65536 in
set_option maxHeartbeats 40000000 in
theorem sq_c0 {l : Launch} {Z : State} {a0 : Array Value} {q0 : Int64} {h0 : Heap} {n0 : Nat} {p : Program} {e : Env} {s : State} {m : MethodId} {args : Array Value} {below : List Frame} {meth : Method} {c : Code} {T0 : State} {locs : List Loc} {r0 : Int64} (C0 : own_Cx p s m meth c Z a0 prog_49_method_3_code 2 "com/example/cairnstore/cairnstore/store/VersionNumber" "sequence" (some .long)) (X0 : Stand p l e ({ frames := 0, cells := 0, slots := 0, locals := 0 } : Room) s m args below meth c T0 locs 0 0) (e0 : T0.heap = h0) (N0 : Fr n0 locs)  (hr0 : r0 = sq_f q0 ) :
    own_Dn p e below s (own_Q (some (.long r0)) n0 h0) ({ frames := 0, cells := 0, slots := 0, locals := 0 } : Room).cells ({ frames := 0, cells := 0, slots := 0, locals := 0 } : Room).slots (T0.setTop (mkF m 0 #[.val (.long q0), .second] [])) := by
  obtain ⟨hx, hZ, hw, hby, hml, hown, hret, hlk, hnm⟩ := id C0
  refine own_st (fun _ k => XS.lloadN X0.here hx rfl (hb hby sq_d0) rfl (X0.ldc2Long hx (index := 9) (v := (4294967295 : Int64)) hown (mvT hZ (hw _ (List.mem_of_getElem? (i := 11) rfl))) (g := (mkF m 1 #[.val (.long q0), .second] [(.long q0)])) rfl (hb hby sq_d1) _ (XS.land X0.here hx rfl (hb hby sq_d4) rfl k))) ?_
  show own_Dn p e below s _ _ _ (T0.setTop (mkF m 5 #[.val (.long q0), .second] [(.long (q0 &&& (4294967295 : Int64)))]))
  exact own_retJ X0 hx hret hlk (hb hby sq_d5) (by decide) (by decide) ⟨(by rw [hr0, sq_f]), N0, e0⟩
theorem sq_ef (m : MethodId) (q0 : Int64) : entryFrame m #[(.long q0)] 2 = mkF m 0 #[.val (.long q0), .second] [] := by first | (simp [entryFrame, mkF, argsToLocals, Value.category]; done) | rfl
theorem sq_rm (l : Launch) (Z : State) (a0 : Array Value) (hw : ∀ d ∈ tables_1, d.before a0 Z = true) (ws : List Jvm.Cond) (q0 : Int64) (h0 : Heap) (n0 : Nat) :
    MetFree l (⟨"com/example/cairnstore/cairnstore/store/VersionNumber", "sequence", "(J)J"⟩ : MethodName) (head1 (Jvm.Cond.code (⟨"com/example/cairnstore/cairnstore/store/VersionNumber", "sequence", "(J)J"⟩ : MethodName) prog_49_method_3_code 2 (some .long) :: ws) ({ frames := 0, cells := 0, slots := 0, locals := 0 } : Room)) (fun a U => a = #[(.long q0)] ∧ Z.Warmed39 U.vm ∧ U.heap = h0) (fun _ _ _ _ _ => True) (fun _ U o U' => ∃ v L, o = .returned v ∧ (own_Q (some (.long (sq_f q0))) n0 h0) v U'.heap L ∧ FrameEnd U o U' L ({ frames := 0, cells := 0, slots := 0, locals := 0 } : Room).cells ({ frames := 0, cells := 0, slots := 0, locals := 0 } : Room).slots) :=
  own_met hw (plainFor_of_name (by first | (simp [plainName, overriddenIn]; done) | decide +kernel)) (fun p e s m below meth c T0 C0 X0 e0 => own_st (fun _ k => castTop (sq_ef m q0) k) (sq_c0 C0 X0 e0 (Fr.nil n0) rfl))
theorem fo_d0 : decode prog_49_method_5_code 0 = .ok (.lload_n 2, 1) := by decide +kernel
theorem fo_d1 : decode prog_49_method_5_code 1 = .ok (.invokestatic 11, 3) := by decide +kernel
theorem fo_d4 : decode prog_49_method_5_code 4 = .ok (.lload_n 0, 1) := by decide +kernel
theorem fo_d5 : decode prog_49_method_5_code 5 = .ok (.invokestatic 11, 3) := by decide +kernel
theorem fo_d8 : decode prog_49_method_5_code 8 = .ok (.lcmp, 1) := by decide +kernel
theorem fo_d9 : decode prog_49_method_5_code 9 = .ok (.ifCond .ne 17, 3) := by decide +kernel
theorem fo_d12 : decode prog_49_method_5_code 12 = .ok (.lload_n 2, 1) := by decide +kernel
theorem fo_d13 : decode prog_49_method_5_code 13 = .ok (.lload_n 0, 1) := by decide +kernel
theorem fo_d14 : decode prog_49_method_5_code 14 = .ok (.lconst 1, 1) := by decide +kernel
theorem fo_d15 : decode prog_49_method_5_code 15 = .ok (.ladd, 1) := by decide +kernel
theorem fo_d16 : decode prog_49_method_5_code 16 = .ok (.lcmp, 1) := by decide +kernel
theorem fo_d17 : decode prog_49_method_5_code 17 = .ok (.ifCond .ne 7, 3) := by decide +kernel
theorem fo_d20 : decode prog_49_method_5_code 20 = .ok (.iconst 1, 1) := by decide +kernel
theorem fo_d21 : decode prog_49_method_5_code 21 = .ok (.goto 4, 3) := by decide +kernel
theorem fo_d24 : decode prog_49_method_5_code 24 = .ok (.iconst 0, 1) := by decide +kernel
theorem fo_d25 : decode prog_49_method_5_code 25 = .ok (.ireturn, 1) := by decide +kernel
theorem fo_d26 : decode prog_49_method_5_code 26 = .ok (.lload_n 2, 1) := by decide +kernel
theorem fo_d27 : decode prog_49_method_5_code 27 = .ok (.invokestatic 11, 3) := by decide +kernel
theorem fo_d30 : decode prog_49_method_5_code 30 = .ok (.lload_n 0, 1) := by decide +kernel
theorem fo_d31 : decode prog_49_method_5_code 31 = .ok (.invokestatic 11, 3) := by decide +kernel
theorem fo_d34 : decode prog_49_method_5_code 34 = .ok (.lcmp, 1) := by decide +kernel
theorem fo_d35 : decode prog_49_method_5_code 35 = .ok (.ifCond .le 16, 3) := by decide +kernel
theorem fo_d38 : decode prog_49_method_5_code 38 = .ok (.lload_n 2, 1) := by decide +kernel
theorem fo_d39 : decode prog_49_method_5_code 39 = .ok (.invokestatic 15, 3) := by decide +kernel
theorem fo_d42 : decode prog_49_method_5_code 42 = .ok (.lconst 1, 1) := by decide +kernel
theorem fo_d43 : decode prog_49_method_5_code 43 = .ok (.lcmp, 1) := by decide +kernel
theorem fo_d44 : decode prog_49_method_5_code 44 = .ok (.ifCond .ne 7, 3) := by decide +kernel
theorem fo_d47 : decode prog_49_method_5_code 47 = .ok (.iconst 1, 1) := by decide +kernel
theorem fo_d48 : decode prog_49_method_5_code 48 = .ok (.goto 4, 3) := by decide +kernel
theorem fo_d51 : decode prog_49_method_5_code 51 = .ok (.iconst 0, 1) := by decide +kernel
theorem fo_d52 : decode prog_49_method_5_code 52 = .ok (.ireturn, 1) := by decide +kernel
def fo_f (q0 : Int64) (q1 : Int64)  : Int32 :=
  if (ge_f q1) = (ge_f q0) then
    if q1 = (q0 + (1 : Int64)) then
      (1 : Int32)
    else
      (0 : Int32)
  else
    if (ge_f q0) < (ge_f q1) then
      if (sq_f q1) = (1 : Int64) then
        (1 : Int32)
      else
        (0 : Int32)
    else
      (0 : Int32)
set_option maxRecDepth 65536 in
set_option maxHeartbeats 40000000 in
theorem fo_c0 {l : Launch} {Z : State} {a0 : Array Value} {q0 : Int64} {q1 : Int64} {h0 : Heap} {n0 : Nat} {p : Program} {e : Env} {s : State} {m : MethodId} {args : Array Value} {below : List Frame} {meth : Method} {c : Code} {T0 : State} {locs : List Loc} {r0 : Int32} (C0 : own_Cx p s m meth c Z a0 prog_49_method_5_code 4 "com/example/cairnstore/cairnstore/store/VersionNumber" "follows" (some .boolean)) (X0 : Stand p l e ({ frames := 1, cells := 0, slots := 0, locals := 15 } : Room) s m args below meth c T0 locs 0 0) (e0 : T0.heap = h0) (N0 : Fr n0 locs)  (hr0 : r0 = fo_f q0 q1 ) :
    own_Dn p e below s (own_Q (some (.int r0)) n0 h0) ({ frames := 1, cells := 0, slots := 0, locals := 15 } : Room).cells ({ frames := 1, cells := 0, slots := 0, locals := 15 } : Room).slots (T0.setTop (mkF m 0 #[.val (.long q0), .second, .val (.long q1), .second] [])) := by
  obtain ⟨hx, hZ, hw, hby, hml, hown, hret, hlk, hnm⟩ := id C0
  refine own_st (fun _ k => XS.lloadN X0.here hx rfl (hb hby fo_d0) rfl k) ?_
  show own_Dn p e below s _ _ _ (T0.setTop (mkF m 1 #[.val (.long q0), .second, .val (.long q1), .second] [(.long q1)]))
  obtain ⟨_, _, ⟨T10, L10, k10, n10⟩, -, X10, ⟨Lc10, hQ10, l10, y10, z10⟩, st10⟩ := Jvm.LawKit.callS X0 hx (y := (⟨"com/example/cairnstore/cairnstore/store/VersionNumber", "generation", "(J)J"⟩ : MethodName)) hown (mvT hZ (hw _ (List.mem_of_getElem? (i := 5) rfl))) (mvT hZ (hw _ (List.mem_of_getElem? (i := 6) rfl))) (mvT hZ (hw _ (List.mem_of_getElem? (i := 3) rfl))) (mvT hZ (hw _ (List.mem_of_getElem? (i := 7) rfl))) (by decide) (backOf (W := 0) (ge_rm l Z a0 hw [] (q1) h0 n0) hZ (hw _ (List.mem_of_getElem? (i := 7) rfl)) (hw _ (List.mem_of_getElem? (i := 3) rfl)) (by decide) (by decide)) (g := (mkF m 1 #[.val (.long q0), .second, .val (.long q1), .second] [(.long q1)])) rfl (by rw [hml]; rfl) (argsL := [(.long q1)]) (rest := []) (lenOf own_pd0 rfl) rfl (by show 2 * 0 + _ ≤ _; exact Nat.le_of_eq rfl) (hb hby fo_d1) (fun _ _ => ⟨rfl, e0, (by decide : 0 + 0 ≤ _), (by decide : 0 + 0 ≤ _)⟩)
  dsimp only [Pt.U, Pt.locs, Pt.cells, Pt.slots] at X10 l10 y10 z10 st10 hQ10
  subst l10 y10 z10
  obtain ⟨rfl, N10q, e10⟩ := hQ10
  have N10 := Fr.app N0 N10q
  refine own_st st10 ?_
  show own_Dn p e below s _ _ _ (T10.setTop (mkF m 4 #[.val (.long q0), .second, .val (.long q1), .second] [(.long (ge_f q1))]))
  refine own_st (fun _ k => XS.lloadN X10.here hx rfl (hb hby fo_d4) rfl k) ?_
  show own_Dn p e below s _ _ _ (T10.setTop (mkF m 5 #[.val (.long q0), .second, .val (.long q1), .second] [(.long q0), (.long (ge_f q1))]))
  obtain ⟨_, _, ⟨T11, L11, k11, n11⟩, -, X11, ⟨Lc11, hQ11, l11, y11, z11⟩, st11⟩ := Jvm.LawKit.callS X10 hx (y := (⟨"com/example/cairnstore/cairnstore/store/VersionNumber", "generation", "(J)J"⟩ : MethodName)) hown (mvT hZ (hw _ (List.mem_of_getElem? (i := 5) rfl))) (mvT hZ (hw _ (List.mem_of_getElem? (i := 6) rfl))) (mvT hZ (hw _ (List.mem_of_getElem? (i := 3) rfl))) (mvT hZ (hw _ (List.mem_of_getElem? (i := 7) rfl))) (by decide) (backOf (W := 2) (ge_rm l Z a0 hw [] (q0) h0 n0) hZ (hw _ (List.mem_of_getElem? (i := 7) rfl)) (hw _ (List.mem_of_getElem? (i := 3) rfl)) (by decide) (by decide)) (g := (mkF m 5 #[.val (.long q0), .second, .val (.long q1), .second] [(.long q0), (.long (ge_f q1))])) rfl (by rw [hml]; rfl) (argsL := [(.long q0)]) (rest := [(.long (ge_f q1))]) (lenOf own_pd0 rfl) rfl (by show 2 * 0 + _ ≤ _; exact Nat.le_of_eq rfl) (hb hby fo_d5) (fun _ _ => ⟨rfl, e10, (by decide : 0 + 0 ≤ _), (by decide : 0 + 0 ≤ _)⟩)
  dsimp only [Pt.U, Pt.locs, Pt.cells, Pt.slots] at X11 l11 y11 z11 st11 hQ11
  subst l11 y11 z11
  obtain ⟨rfl, N11q, e11⟩ := hQ11
  have N11 := Fr.app N10 N11q
  refine own_st st11 ?_
  show own_Dn p e below s _ _ _ (T11.setTop (mkF m 8 #[.val (.long q0), .second, .val (.long q1), .second] [(.long (ge_f q0)), (.long (ge_f q1))]))
  refine own_st (fun _ k => XS.lcmp X11.here hx rfl (hb hby fo_d8) rfl k) ?_
  show own_Dn p e below s _ _ _ (T11.setTop (mkF m 9 #[.val (.long q0), .second, .val (.long q1), .second] [(.int (lcmpW (ge_f q1) (ge_f q0)))]))
  by_cases hc12 : (ge_f q1) = (ge_f q0)
  · refine own_st (fun _ k => XS.ifNo X11.here hx rfl (hb hby fo_d9) rfl (own_jteq hc12).2 k) ?_
    show own_Dn p e below s _ _ _ (T11.setTop (mkF m 12 #[.val (.long q0), .second, .val (.long q1), .second] []))
    refine own_st (fun _ k => XS.lloadN X11.here hx rfl (hb hby fo_d12) rfl (XS.lloadN X11.here hx rfl (hb hby fo_d13) rfl (XS.lconst X11.here hx rfl (hb hby fo_d14) (XS.ladd X11.here hx rfl (hb hby fo_d15) rfl (XS.lcmp X11.here hx rfl (hb hby fo_d16) rfl k))))) ?_
    show own_Dn p e below s _ _ _ (T11.setTop (mkF m 17 #[.val (.long q0), .second, .val (.long q1), .second] [(.int (lcmpW q1 (q0 + (1 : Int64))))]))
    by_cases hc13 : q1 = (q0 + (1 : Int64))
    · refine own_st (fun _ k => XS.ifNo X11.here hx rfl (hb hby fo_d17) rfl (own_jteq hc13).2 k) ?_
      show own_Dn p e below s _ _ _ (T11.setTop (mkF m 20 #[.val (.long q0), .second, .val (.long q1), .second] []))
      refine own_st (fun _ k => XS.iconst X11.here hx rfl (hb hby fo_d20) (XS.goto X11.here hx rfl (pc0 := 21) (pc' := 25) rfl (hb hby fo_d21) (by decide) (by decide) k)) ?_
      show own_Dn p e below s _ _ _ (T11.setTop (mkF m 25 #[.val (.long q0), .second, .val (.long q1), .second] [(.int (1 : Int32))]))
      exact own_retZ X11 hx hret hlk (by decide) (hb hby fo_d25) (by decide) (by decide) ⟨(by rw [hr0, fo_f, if_pos hc12, if_pos hc13]), N11, e11⟩
    · refine own_st (fun _ k => XS.ifYes X11.here hx rfl (pc0 := 17) (pc' := 24) rfl (hb hby fo_d17) rfl (own_jfeq hc13).2 (by decide) (by decide) k) ?_
      show own_Dn p e below s _ _ _ (T11.setTop (mkF m 24 #[.val (.long q0), .second, .val (.long q1), .second] []))
      refine own_st (fun _ k => XS.iconst X11.here hx rfl (hb hby fo_d24) k) ?_
      show own_Dn p e below s _ _ _ (T11.setTop (mkF m 25 #[.val (.long q0), .second, .val (.long q1), .second] [(.int (0 : Int32))]))
      exact own_retZ X11 hx hret hlk (by decide) (hb hby fo_d25) (by decide) (by decide) ⟨(by rw [hr0, fo_f, if_pos hc12, if_neg hc13]), N11, e11⟩
  · refine own_st (fun _ k => XS.ifYes X11.here hx rfl (pc0 := 9) (pc' := 26) rfl (hb hby fo_d9) rfl (own_jfeq hc12).2 (by decide) (by decide) k) ?_
    show own_Dn p e below s _ _ _ (T11.setTop (mkF m 26 #[.val (.long q0), .second, .val (.long q1), .second] []))
    refine own_st (fun _ k => XS.lloadN X11.here hx rfl (hb hby fo_d26) rfl k) ?_
    show own_Dn p e below s _ _ _ (T11.setTop (mkF m 27 #[.val (.long q0), .second, .val (.long q1), .second] [(.long q1)]))
    obtain ⟨_, _, ⟨T14, L14, k14, n14⟩, -, X14, ⟨Lc14, hQ14, l14, y14, z14⟩, st14⟩ := Jvm.LawKit.callS X11 hx (y := (⟨"com/example/cairnstore/cairnstore/store/VersionNumber", "generation", "(J)J"⟩ : MethodName)) hown (mvT hZ (hw _ (List.mem_of_getElem? (i := 5) rfl))) (mvT hZ (hw _ (List.mem_of_getElem? (i := 6) rfl))) (mvT hZ (hw _ (List.mem_of_getElem? (i := 3) rfl))) (mvT hZ (hw _ (List.mem_of_getElem? (i := 7) rfl))) (by decide) (backOf (W := 0) (ge_rm l Z a0 hw [] (q1) h0 n0) hZ (hw _ (List.mem_of_getElem? (i := 7) rfl)) (hw _ (List.mem_of_getElem? (i := 3) rfl)) (by decide) (by decide)) (g := (mkF m 27 #[.val (.long q0), .second, .val (.long q1), .second] [(.long q1)])) rfl (by rw [hml]; rfl) (argsL := [(.long q1)]) (rest := []) (lenOf own_pd0 rfl) rfl (by show 2 * 0 + _ ≤ _; exact Nat.le_of_eq rfl) (hb hby fo_d27) (fun _ _ => ⟨rfl, e11, (by decide : 0 + 0 ≤ _), (by decide : 0 + 0 ≤ _)⟩)
    dsimp only [Pt.U, Pt.locs, Pt.cells, Pt.slots] at X14 l14 y14 z14 st14 hQ14
    subst l14 y14 z14
    obtain ⟨rfl, N14q, e14⟩ := hQ14
    have N14 := Fr.app N11 N14q
    refine own_st st14 ?_
    show own_Dn p e below s _ _ _ (T14.setTop (mkF m 30 #[.val (.long q0), .second, .val (.long q1), .second] [(.long (ge_f q1))]))
    refine own_st (fun _ k => XS.lloadN X14.here hx rfl (hb hby fo_d30) rfl k) ?_
    show own_Dn p e below s _ _ _ (T14.setTop (mkF m 31 #[.val (.long q0), .second, .val (.long q1), .second] [(.long q0), (.long (ge_f q1))]))
    obtain ⟨_, _, ⟨T15, L15, k15, n15⟩, -, X15, ⟨Lc15, hQ15, l15, y15, z15⟩, st15⟩ := Jvm.LawKit.callS X14 hx (y := (⟨"com/example/cairnstore/cairnstore/store/VersionNumber", "generation", "(J)J"⟩ : MethodName)) hown (mvT hZ (hw _ (List.mem_of_getElem? (i := 5) rfl))) (mvT hZ (hw _ (List.mem_of_getElem? (i := 6) rfl))) (mvT hZ (hw _ (List.mem_of_getElem? (i := 3) rfl))) (mvT hZ (hw _ (List.mem_of_getElem? (i := 7) rfl))) (by decide) (backOf (W := 2) (ge_rm l Z a0 hw [] (q0) h0 n0) hZ (hw _ (List.mem_of_getElem? (i := 7) rfl)) (hw _ (List.mem_of_getElem? (i := 3) rfl)) (by decide) (by decide)) (g := (mkF m 31 #[.val (.long q0), .second, .val (.long q1), .second] [(.long q0), (.long (ge_f q1))])) rfl (by rw [hml]; rfl) (argsL := [(.long q0)]) (rest := [(.long (ge_f q1))]) (lenOf own_pd0 rfl) rfl (by show 2 * 0 + _ ≤ _; exact Nat.le_of_eq rfl) (hb hby fo_d31) (fun _ _ => ⟨rfl, e14, (by decide : 0 + 0 ≤ _), (by decide : 0 + 0 ≤ _)⟩)
    dsimp only [Pt.U, Pt.locs, Pt.cells, Pt.slots] at X15 l15 y15 z15 st15 hQ15
    subst l15 y15 z15
    obtain ⟨rfl, N15q, e15⟩ := hQ15
    have N15 := Fr.app N14 N15q
    refine own_st st15 ?_
    show own_Dn p e below s _ _ _ (T15.setTop (mkF m 34 #[.val (.long q0), .second, .val (.long q1), .second] [(.long (ge_f q0)), (.long (ge_f q1))]))
    refine own_st (fun _ k => XS.lcmp X15.here hx rfl (hb hby fo_d34) rfl k) ?_
    show own_Dn p e below s _ _ _ (T15.setTop (mkF m 35 #[.val (.long q0), .second, .val (.long q1), .second] [(.int (lcmpW (ge_f q1) (ge_f q0)))]))
    by_cases hc16 : (ge_f q0) < (ge_f q1)
    · refine own_st (fun _ k => XS.ifNo X15.here hx rfl (hb hby fo_d35) rfl (own_jtlt hc16).2.2.2 k) ?_
      show own_Dn p e below s _ _ _ (T15.setTop (mkF m 38 #[.val (.long q0), .second, .val (.long q1), .second] []))
      refine own_st (fun _ k => XS.lloadN X15.here hx rfl (hb hby fo_d38) rfl k) ?_
      show own_Dn p e below s _ _ _ (T15.setTop (mkF m 39 #[.val (.long q0), .second, .val (.long q1), .second] [(.long q1)]))
      obtain ⟨_, _, ⟨T17, L17, k17, n17⟩, -, X17, ⟨Lc17, hQ17, l17, y17, z17⟩, st17⟩ := Jvm.LawKit.callS X15 hx (y := (⟨"com/example/cairnstore/cairnstore/store/VersionNumber", "sequence", "(J)J"⟩ : MethodName)) hown (mvT hZ (hw _ (List.mem_of_getElem? (i := 8) rfl))) (mvT hZ (hw _ (List.mem_of_getElem? (i := 9) rfl))) (mvT hZ (hw _ (List.mem_of_getElem? (i := 3) rfl))) (mvT hZ (hw _ (List.mem_of_getElem? (i := 10) rfl))) (by decide) (backOf (W := 0) (sq_rm l Z a0 hw [] (q1) h0 n0) hZ (hw _ (List.mem_of_getElem? (i := 10) rfl)) (hw _ (List.mem_of_getElem? (i := 3) rfl)) (by decide) (by decide)) (g := (mkF m 39 #[.val (.long q0), .second, .val (.long q1), .second] [(.long q1)])) rfl (by rw [hml]; rfl) (argsL := [(.long q1)]) (rest := []) (lenOf own_pd0 rfl) rfl (by show 2 * 0 + _ ≤ _; exact Nat.le_of_eq rfl) (hb hby fo_d39) (fun _ _ => ⟨rfl, e15, (by decide : 0 + 0 ≤ _), (by decide : 0 + 0 ≤ _)⟩)
      dsimp only [Pt.U, Pt.locs, Pt.cells, Pt.slots] at X17 l17 y17 z17 st17 hQ17
      subst l17 y17 z17
      obtain ⟨rfl, N17q, e17⟩ := hQ17
      have N17 := Fr.app N15 N17q
      refine own_st st17 ?_
      show own_Dn p e below s _ _ _ (T17.setTop (mkF m 42 #[.val (.long q0), .second, .val (.long q1), .second] [(.long (sq_f q1))]))
      refine own_st (fun _ k => XS.lconst X17.here hx rfl (hb hby fo_d42) (XS.lcmp X17.here hx rfl (hb hby fo_d43) rfl k)) ?_
      show own_Dn p e below s _ _ _ (T17.setTop (mkF m 44 #[.val (.long q0), .second, .val (.long q1), .second] [(.int (lcmpW (sq_f q1) (1 : Int64)))]))
      by_cases hc18 : (sq_f q1) = (1 : Int64)
      · refine own_st (fun _ k => XS.ifNo X17.here hx rfl (hb hby fo_d44) rfl (own_jteq hc18).2 k) ?_
        show own_Dn p e below s _ _ _ (T17.setTop (mkF m 47 #[.val (.long q0), .second, .val (.long q1), .second] []))
        refine own_st (fun _ k => XS.iconst X17.here hx rfl (hb hby fo_d47) (XS.goto X17.here hx rfl (pc0 := 48) (pc' := 52) rfl (hb hby fo_d48) (by decide) (by decide) k)) ?_
        show own_Dn p e below s _ _ _ (T17.setTop (mkF m 52 #[.val (.long q0), .second, .val (.long q1), .second] [(.int (1 : Int32))]))
        exact own_retZ X17 hx hret hlk (by decide) (hb hby fo_d52) (by decide) (by decide) ⟨(by rw [hr0, fo_f, if_neg hc12, if_pos hc16, if_pos hc18]), N17, e17⟩
      · refine own_st (fun _ k => XS.ifYes X17.here hx rfl (pc0 := 44) (pc' := 51) rfl (hb hby fo_d44) rfl (own_jfeq hc18).2 (by decide) (by decide) k) ?_
        show own_Dn p e below s _ _ _ (T17.setTop (mkF m 51 #[.val (.long q0), .second, .val (.long q1), .second] []))
        refine own_st (fun _ k => XS.iconst X17.here hx rfl (hb hby fo_d51) k) ?_
        show own_Dn p e below s _ _ _ (T17.setTop (mkF m 52 #[.val (.long q0), .second, .val (.long q1), .second] [(.int (0 : Int32))]))
        exact own_retZ X17 hx hret hlk (by decide) (hb hby fo_d52) (by decide) (by decide) ⟨(by rw [hr0, fo_f, if_neg hc12, if_pos hc16, if_neg hc18]), N17, e17⟩
    · refine own_st (fun _ k => XS.ifYes X15.here hx rfl (pc0 := 35) (pc' := 51) rfl (hb hby fo_d35) rfl (own_jflt hc16).2.2.2 (by decide) (by decide) k) ?_
      show own_Dn p e below s _ _ _ (T15.setTop (mkF m 51 #[.val (.long q0), .second, .val (.long q1), .second] []))
      refine own_st (fun _ k => XS.iconst X15.here hx rfl (hb hby fo_d51) k) ?_
      show own_Dn p e below s _ _ _ (T15.setTop (mkF m 52 #[.val (.long q0), .second, .val (.long q1), .second] [(.int (0 : Int32))]))
      exact own_retZ X15 hx hret hlk (by decide) (hb hby fo_d52) (by decide) (by decide) ⟨(by rw [hr0, fo_f, if_neg hc12, if_neg hc16]), N15, e15⟩
theorem fo_ef (m : MethodId) (q0 : Int64) (q1 : Int64) : entryFrame m #[(.long q0), (.long q1)] 4 = mkF m 0 #[.val (.long q0), .second, .val (.long q1), .second] [] := by first | (simp [entryFrame, mkF, argsToLocals, Value.category]; done) | rfl
theorem fo_rm (l : Launch) (Z : State) (a0 : Array Value) (hw : ∀ d ∈ tables_1, d.before a0 Z = true) (ws : List Jvm.Cond) (q0 : Int64) (q1 : Int64) (h0 : Heap) (n0 : Nat) :
    MetFree l (⟨"com/example/cairnstore/cairnstore/store/VersionNumber", "follows", "(JJ)Z"⟩ : MethodName) (head1 (Jvm.Cond.code (⟨"com/example/cairnstore/cairnstore/store/VersionNumber", "follows", "(JJ)Z"⟩ : MethodName) prog_49_method_5_code 4 (some .boolean) :: ws) ({ frames := 1, cells := 0, slots := 0, locals := 15 } : Room)) (fun a U => a = #[(.long q0), (.long q1)] ∧ Z.Warmed39 U.vm ∧ U.heap = h0) (fun _ _ _ _ _ => True) (fun _ U o U' => ∃ v L, o = .returned v ∧ (own_Q (some (.int (fo_f q0 q1))) n0 h0) v U'.heap L ∧ FrameEnd U o U' L ({ frames := 1, cells := 0, slots := 0, locals := 15 } : Room).cells ({ frames := 1, cells := 0, slots := 0, locals := 15 } : Room).slots) :=
  own_met hw (plainFor_of_name (by first | (simp [plainName, overriddenIn]; done) | decide +kernel)) (fun p e s m below meth c T0 C0 X0 e0 => own_st (fun _ k => castTop (fo_ef m q0 q1) k) (fo_c0 C0 X0 e0 (Fr.nil n0) rfl))
theorem lw_d0 : decode code 0 = .ok (.iload_n 0, 1) := by decide +kernel
theorem lw_d1 : decode code 1 = .ok (.i2l, 1) := by decide +kernel
theorem lw_d2 : decode code 2 = .ok (.ldc2_w 9, 3) := by decide +kernel
theorem lw_d5 : decode code 5 = .ok (.land, 1) := by decide +kernel
theorem lw_d6 : decode code 6 = .ok (.lstore 5, 2) := by decide +kernel
theorem lw_d8 : decode code 8 = .ok (.iload_n 1, 1) := by decide +kernel
theorem lw_d9 : decode code 9 = .ok (.i2l, 1) := by decide +kernel
theorem lw_d10 : decode code 10 = .ok (.ldc2_w 9, 3) := by decide +kernel
theorem lw_d13 : decode code 13 = .ok (.land, 1) := by decide +kernel
theorem lw_d14 : decode code 14 = .ok (.lstore 7, 2) := by decide +kernel
theorem lw_d16 : decode code 16 = .ok (.iload 4, 2) := by decide +kernel
theorem lw_d18 : decode code 18 = .ok (.iconst 1, 1) := by decide +kernel
theorem lw_d19 : decode code 19 = .ok (.iand, 1) := by decide +kernel
theorem lw_d20 : decode code 20 = .ok (.ifCond .eq 7, 3) := by decide +kernel
theorem lw_d23 : decode code 23 = .ok (.iload_n 0, 1) := by decide +kernel
theorem lw_d24 : decode code 24 = .ok (.goto 4, 3) := by decide +kernel
theorem lw_d27 : decode code 27 = .ok (.iload_n 2, 1) := by decide +kernel
theorem lw_d28 : decode code 28 = .ok (.istore 9, 2) := by decide +kernel
theorem lw_d30 : decode code 30 = .ok (.iload 4, 2) := by decide +kernel
theorem lw_d32 : decode code 32 = .ok (.iconst 2, 1) := by decide +kernel
theorem lw_d33 : decode code 33 = .ok (.iand, 1) := by decide +kernel
theorem lw_d34 : decode code 34 = .ok (.ifCond .eq 11, 3) := by decide +kernel
theorem lw_d37 : decode code 37 = .ok (.iload_n 1, 1) := by decide +kernel
theorem lw_d38 : decode code 38 = .ok (.iconst 1, 1) := by decide +kernel
theorem lw_d39 : decode code 39 = .ok (.iadd, 1) := by decide +kernel
theorem lw_d40 : decode code 40 = .ok (.istore 10, 2) := by decide +kernel
theorem lw_d42 : decode code 42 = .ok (.goto 19, 3) := by decide +kernel
theorem lw_d45 : decode code 45 = .ok (.iload 4, 2) := by decide +kernel
theorem lw_d47 : decode code 47 = .ok (.iconst 4, 1) := by decide +kernel
theorem lw_d48 : decode code 48 = .ok (.iand, 1) := by decide +kernel
theorem lw_d49 : decode code 49 = .ok (.ifCond .eq 9, 3) := by decide +kernel
theorem lw_d52 : decode code 52 = .ok (.iconst 1, 1) := by decide +kernel
theorem lw_d53 : decode code 53 = .ok (.istore 10, 2) := by decide +kernel
theorem lw_d55 : decode code 55 = .ok (.goto 6, 3) := by decide +kernel
theorem lw_d58 : decode code 58 = .ok (.iload_n 3, 1) := by decide +kernel
theorem lw_d59 : decode code 59 = .ok (.istore 10, 2) := by decide +kernel
theorem lw_d61 : decode code 61 = .ok (.iload 9, 2) := by decide +kernel
theorem lw_d63 : decode code 63 = .ok (.i2l, 1) := by decide +kernel
theorem lw_d64 : decode code 64 = .ok (.ldc2_w 9, 3) := by decide +kernel
theorem lw_d67 : decode code 67 = .ok (.land, 1) := by decide +kernel
theorem lw_d68 : decode code 68 = .ok (.lstore 11, 2) := by decide +kernel
theorem lw_d70 : decode code 70 = .ok (.iload 10, 2) := by decide +kernel
theorem lw_d72 : decode code 72 = .ok (.i2l, 1) := by decide +kernel
theorem lw_d73 : decode code 73 = .ok (.ldc2_w 9, 3) := by decide +kernel
theorem lw_d76 : decode code 76 = .ok (.land, 1) := by decide +kernel
theorem lw_d77 : decode code 77 = .ok (.lstore 13, 2) := by decide +kernel
theorem lw_d79 : decode code 79 = .ok (.lload 5, 2) := by decide +kernel
theorem lw_d81 : decode code 81 = .ok (.bipush 32, 2) := by decide +kernel
theorem lw_d83 : decode code 83 = .ok (.lshl, 1) := by decide +kernel
theorem lw_d84 : decode code 84 = .ok (.lload 7, 2) := by decide +kernel
theorem lw_d86 : decode code 86 = .ok (.lor, 1) := by decide +kernel
theorem lw_d87 : decode code 87 = .ok (.lstore 15, 2) := by decide +kernel
theorem lw_d89 : decode code 89 = .ok (.lload 11, 2) := by decide +kernel
theorem lw_d91 : decode code 91 = .ok (.bipush 32, 2) := by decide +kernel
theorem lw_d93 : decode code 93 = .ok (.lshl, 1) := by decide +kernel
theorem lw_d94 : decode code 94 = .ok (.lload 13, 2) := by decide +kernel
theorem lw_d96 : decode code 96 = .ok (.lor, 1) := by decide +kernel
theorem lw_d97 : decode code 97 = .ok (.lstore 17, 2) := by decide +kernel
theorem lw_d99 : decode code 99 = .ok (.lload 11, 2) := by decide +kernel
theorem lw_d101 : decode code 101 = .ok (.lload 5, 2) := by decide +kernel
theorem lw_d103 : decode code 103 = .ok (.lcmp, 1) := by decide +kernel
theorem lw_d104 : decode code 104 = .ok (.ifCond .ne 23, 3) := by decide +kernel
theorem lw_d107 : decode code 107 = .ok (.lload 13, 2) := by decide +kernel
theorem lw_d109 : decode code 109 = .ok (.lload 7, 2) := by decide +kernel
theorem lw_d111 : decode code 111 = .ok (.lconst 1, 1) := by decide +kernel
theorem lw_d112 : decode code 112 = .ok (.ladd, 1) := by decide +kernel
theorem lw_d113 : decode code 113 = .ok (.lcmp, 1) := by decide +kernel
theorem lw_d114 : decode code 114 = .ok (.ifCond .ne 7, 3) := by decide +kernel
theorem lw_d117 : decode code 117 = .ok (.iconst 1, 1) := by decide +kernel
theorem lw_d118 : decode code 118 = .ok (.goto 4, 3) := by decide +kernel
theorem lw_d121 : decode code 121 = .ok (.iconst 0, 1) := by decide +kernel
theorem lw_d122 : decode code 122 = .ok (.istore 19, 2) := by decide +kernel
theorem lw_d124 : decode code 124 = .ok (.goto 25, 3) := by decide +kernel
theorem lw_d127 : decode code 127 = .ok (.lload 11, 2) := by decide +kernel
theorem lw_d129 : decode code 129 = .ok (.lload 5, 2) := by decide +kernel
theorem lw_d131 : decode code 131 = .ok (.lcmp, 1) := by decide +kernel
theorem lw_d132 : decode code 132 = .ok (.ifCond .le 14, 3) := by decide +kernel
theorem lw_d135 : decode code 135 = .ok (.lload 13, 2) := by decide +kernel
theorem lw_d137 : decode code 137 = .ok (.lconst 1, 1) := by decide +kernel
theorem lw_d138 : decode code 138 = .ok (.lcmp, 1) := by decide +kernel
theorem lw_d139 : decode code 139 = .ok (.ifCond .ne 7, 3) := by decide +kernel
theorem lw_d142 : decode code 142 = .ok (.iconst 1, 1) := by decide +kernel
theorem lw_d143 : decode code 143 = .ok (.goto 4, 3) := by decide +kernel
theorem lw_d146 : decode code 146 = .ok (.iconst 0, 1) := by decide +kernel
theorem lw_d147 : decode code 147 = .ok (.istore 19, 2) := by decide +kernel
theorem lw_d149 : decode code 149 = .ok (.lload 15, 2) := by decide +kernel
theorem lw_d151 : decode code 151 = .ok (.lload 17, 2) := by decide +kernel
theorem lw_d153 : decode code 153 = .ok (.invokestatic 11, 3) := by decide +kernel
theorem lw_d156 : decode code 156 = .ok (.iload 19, 2) := by decide +kernel
theorem lw_d158 : decode code 158 = .ok (.if_icmp .ne 7, 3) := by decide +kernel
theorem lw_d161 : decode code 161 = .ok (.iconst 1, 1) := by decide +kernel
theorem lw_d162 : decode code 162 = .ok (.goto 4, 3) := by decide +kernel
theorem lw_d165 : decode code 165 = .ok (.iconst 0, 1) := by decide +kernel
theorem lw_d166 : decode code 166 = .ok (.ireturn, 1) := by decide +kernel
def lw_f149 (p0 : Int32) (p1 : Int32) (p2 : Int32) (p3 : Int32) (p4 : Int32) (v5 : Int64) (v7 : Int64) (v9 : Int32) (v10 : Int32) (v11 : Int64) (v13 : Int64) (v15 : Int64) (v17 : Int64) (v19 : Int32) : Int32 :=
  if (fo_f v15 v17) = v19 then
    (1 : Int32)
  else
    (0 : Int32)
set_option maxRecDepth 65536 in
set_option maxHeartbeats 40000000 in
theorem lw_c149 {l : Launch} {Z : State} {a0 : Array Value} {p0 : Int32} {p1 : Int32} {p2 : Int32} {p3 : Int32} {p4 : Int32} {h0 : Heap} {n0 : Nat} {p : Program} {e : Env} {s : State} {m : MethodId} {args : Array Value} {below : List Frame} {meth : Method} {c : Code} {T0 : State} {locs : List Loc} {r0 : Int32} (C0 : own_Cx p s m meth c Z a0 code 20 "com/example/cairnstore/cairnstore/store/VersionNumberFollowsPinLaw" "law" (some .boolean)) (X0 : Stand p l e room_1 s m args below meth c T0 locs 0 0) (e0 : T0.heap = h0) (N0 : Fr n0 locs) (v5 : Int64) (v7 : Int64) (v9 : Int32) (v10 : Int32) (v11 : Int64) (v13 : Int64) (v15 : Int64) (v17 : Int64) (v19 : Int32) (hr0 : r0 = lw_f149 p0 p1 p2 p3 p4 v5 v7 v9 v10 v11 v13 v15 v17 v19) :
    own_Dn p e below s (own_QL (some (.int r0)) n0) room_1.cells room_1.slots (T0.setTop (mkF m 149 #[.val (.int p0), .val (.int p1), .val (.int p2), .val (.int p3), .val (.int p4), .val (.long v5), .second, .val (.long v7), .second, .val (.int v9), .val (.int v10), .val (.long v11), .second, .val (.long v13), .second, .val (.long v15), .second, .val (.long v17), .second, .val (.int v19)] [])) := by
  obtain ⟨hx, hZ, hw, hby, hml, hown, hret, hlk, hnm⟩ := id C0
  refine own_st (fun _ k => XS.lload X0.here hx rfl (hb hby lw_d149) rfl (XS.lload X0.here hx rfl (hb hby lw_d151) rfl k)) ?_
  show own_Dn p e below s _ _ _ (T0.setTop (mkF m 153 #[.val (.int p0), .val (.int p1), .val (.int p2), .val (.int p3), .val (.int p4), .val (.long v5), .second, .val (.long v7), .second, .val (.int v9), .val (.int v10), .val (.long v11), .second, .val (.long v13), .second, .val (.long v15), .second, .val (.long v17), .second, .val (.int v19)] [(.long v17), (.long v15)]))
  obtain ⟨_, _, ⟨T17, L17, k17, n17⟩, -, X17, ⟨Lc17, hQ17, l17, y17, z17⟩, st17⟩ := Jvm.LawKit.callS X0 hx (y := (⟨"com/example/cairnstore/cairnstore/store/VersionNumber", "follows", "(JJ)Z"⟩ : MethodName)) hown (mvT hZ (hw _ (List.mem_of_getElem? (i := 1) rfl))) (mvT hZ (hw _ (List.mem_of_getElem? (i := 2) rfl))) (mvT hZ (hw _ (List.mem_of_getElem? (i := 3) rfl))) (mvT hZ (hw _ (List.mem_of_getElem? (i := 4) rfl))) (by decide) (backOf (W := 0) (fo_rm l Z a0 hw [] (v15) (v17) h0 n0) hZ (hw _ (List.mem_of_getElem? (i := 4) rfl)) (hw _ (List.mem_of_getElem? (i := 3) rfl)) (by decide) (by decide)) (g := (mkF m 153 #[.val (.int p0), .val (.int p1), .val (.int p2), .val (.int p3), .val (.int p4), .val (.long v5), .second, .val (.long v7), .second, .val (.int v9), .val (.int v10), .val (.long v11), .second, .val (.long v13), .second, .val (.long v15), .second, .val (.long v17), .second, .val (.int v19)] [(.long v17), (.long v15)])) rfl (by rw [hml]; rfl) (argsL := [(.long v15), (.long v17)]) (rest := []) (lenOf own_pd1 rfl) rfl (by show 2 * 0 + _ ≤ _; exact Nat.le_of_eq rfl) (hb hby lw_d153) (fun _ _ => ⟨rfl, e0, (by decide : 0 + 0 ≤ _), (by decide : 0 + 0 ≤ _)⟩)
  dsimp only [Pt.U, Pt.locs, Pt.cells, Pt.slots] at X17 l17 y17 z17 st17 hQ17
  subst l17 y17 z17
  obtain ⟨rfl, N17q, e17⟩ := hQ17
  have N17 := Fr.app N0 N17q
  refine own_st st17 ?_
  show own_Dn p e below s _ _ _ (T17.setTop (mkF m 156 #[.val (.int p0), .val (.int p1), .val (.int p2), .val (.int p3), .val (.int p4), .val (.long v5), .second, .val (.long v7), .second, .val (.int v9), .val (.int v10), .val (.long v11), .second, .val (.long v13), .second, .val (.long v15), .second, .val (.long v17), .second, .val (.int v19)] [(.int (fo_f v15 v17))]))
  refine own_st (fun _ k => XS.iload X17.here hx rfl (hb hby lw_d156) rfl k) ?_
  show own_Dn p e below s _ _ _ (T17.setTop (mkF m 158 #[.val (.int p0), .val (.int p1), .val (.int p2), .val (.int p3), .val (.int p4), .val (.long v5), .second, .val (.long v7), .second, .val (.int v9), .val (.int v10), .val (.long v11), .second, .val (.long v13), .second, .val (.long v15), .second, .val (.long v17), .second, .val (.int v19)] [(.int v19), (.int (fo_f v15 v17))]))
  by_cases hc18 : (fo_f v15 v17) = v19
  · refine own_st (fun _ k => XS.icmpNo X17.here hx rfl (hb hby lw_d158) rfl (teq hc18).2 k) ?_
    show own_Dn p e below s _ _ _ (T17.setTop (mkF m 161 #[.val (.int p0), .val (.int p1), .val (.int p2), .val (.int p3), .val (.int p4), .val (.long v5), .second, .val (.long v7), .second, .val (.int v9), .val (.int v10), .val (.long v11), .second, .val (.long v13), .second, .val (.long v15), .second, .val (.long v17), .second, .val (.int v19)] []))
    refine own_st (fun _ k => XS.iconst X17.here hx rfl (hb hby lw_d161) (XS.goto X17.here hx rfl (pc0 := 162) (pc' := 166) rfl (hb hby lw_d162) (by decide) (by decide) k)) ?_
    show own_Dn p e below s _ _ _ (T17.setTop (mkF m 166 #[.val (.int p0), .val (.int p1), .val (.int p2), .val (.int p3), .val (.int p4), .val (.long v5), .second, .val (.long v7), .second, .val (.int v9), .val (.int v10), .val (.long v11), .second, .val (.long v13), .second, .val (.long v15), .second, .val (.long v17), .second, .val (.int v19)] [(.int (1 : Int32))]))
    exact own_retZ X17 hx hret hlk (by decide) (hb hby lw_d166) (by decide) (by decide) ⟨(by rw [hr0, lw_f149, if_pos hc18]), N17⟩
  · refine own_st (fun _ k => XS.icmpYes X17.here hx rfl (pc0 := 158) (pc' := 165) rfl (hb hby lw_d158) rfl (feq hc18).2 (by decide) (by decide) k) ?_
    show own_Dn p e below s _ _ _ (T17.setTop (mkF m 165 #[.val (.int p0), .val (.int p1), .val (.int p2), .val (.int p3), .val (.int p4), .val (.long v5), .second, .val (.long v7), .second, .val (.int v9), .val (.int v10), .val (.long v11), .second, .val (.long v13), .second, .val (.long v15), .second, .val (.long v17), .second, .val (.int v19)] []))
    refine own_st (fun _ k => XS.iconst X17.here hx rfl (hb hby lw_d165) k) ?_
    show own_Dn p e below s _ _ _ (T17.setTop (mkF m 166 #[.val (.int p0), .val (.int p1), .val (.int p2), .val (.int p3), .val (.int p4), .val (.long v5), .second, .val (.long v7), .second, .val (.int v9), .val (.int v10), .val (.long v11), .second, .val (.long v13), .second, .val (.long v15), .second, .val (.long v17), .second, .val (.int v19)] [(.int (0 : Int32))]))
    exact own_retZ X17 hx hret hlk (by decide) (hb hby lw_d166) (by decide) (by decide) ⟨(by rw [hr0, lw_f149, if_neg hc18]), N17⟩
def lw_f79 (p0 : Int32) (p1 : Int32) (p2 : Int32) (p3 : Int32) (p4 : Int32) (v5 : Int64) (v7 : Int64) (v9 : Int32) (v10 : Int32) (v11 : Int64) (v13 : Int64) : Int32 :=
  if v11 = v5 then
    if v13 = (v7 + (1 : Int64)) then
      lw_f149 p0 p1 p2 p3 p4 (v5) (v7) (v9) (v10) (v11) (v13) (((v5 <<< ((32 : Int32) &&& 0x3f).toInt64) ||| v7)) (((v11 <<< ((32 : Int32) &&& 0x3f).toInt64) ||| v13)) ((1 : Int32))
    else
      lw_f149 p0 p1 p2 p3 p4 (v5) (v7) (v9) (v10) (v11) (v13) (((v5 <<< ((32 : Int32) &&& 0x3f).toInt64) ||| v7)) (((v11 <<< ((32 : Int32) &&& 0x3f).toInt64) ||| v13)) ((0 : Int32))
  else
    if v5 < v11 then
      if v13 = (1 : Int64) then
        lw_f149 p0 p1 p2 p3 p4 (v5) (v7) (v9) (v10) (v11) (v13) (((v5 <<< ((32 : Int32) &&& 0x3f).toInt64) ||| v7)) (((v11 <<< ((32 : Int32) &&& 0x3f).toInt64) ||| v13)) ((1 : Int32))
      else
        lw_f149 p0 p1 p2 p3 p4 (v5) (v7) (v9) (v10) (v11) (v13) (((v5 <<< ((32 : Int32) &&& 0x3f).toInt64) ||| v7)) (((v11 <<< ((32 : Int32) &&& 0x3f).toInt64) ||| v13)) ((0 : Int32))
    else
      lw_f149 p0 p1 p2 p3 p4 (v5) (v7) (v9) (v10) (v11) (v13) (((v5 <<< ((32 : Int32) &&& 0x3f).toInt64) ||| v7)) (((v11 <<< ((32 : Int32) &&& 0x3f).toInt64) ||| v13)) ((0 : Int32))
set_option maxRecDepth 65536 in
set_option maxHeartbeats 40000000 in
theorem lw_c79 {l : Launch} {Z : State} {a0 : Array Value} {p0 : Int32} {p1 : Int32} {p2 : Int32} {p3 : Int32} {p4 : Int32} {h0 : Heap} {n0 : Nat} {p : Program} {e : Env} {s : State} {m : MethodId} {args : Array Value} {below : List Frame} {meth : Method} {c : Code} {T0 : State} {locs : List Loc} {r0 : Int32} (C0 : own_Cx p s m meth c Z a0 code 20 "com/example/cairnstore/cairnstore/store/VersionNumberFollowsPinLaw" "law" (some .boolean)) (X0 : Stand p l e room_1 s m args below meth c T0 locs 0 0) (e0 : T0.heap = h0) (N0 : Fr n0 locs) (v5 : Int64) (v7 : Int64) (v9 : Int32) (v10 : Int32) (v11 : Int64) (v13 : Int64) (hr0 : r0 = lw_f79 p0 p1 p2 p3 p4 v5 v7 v9 v10 v11 v13) :
    own_Dn p e below s (own_QL (some (.int r0)) n0) room_1.cells room_1.slots (T0.setTop (mkF m 79 #[.val (.int p0), .val (.int p1), .val (.int p2), .val (.int p3), .val (.int p4), .val (.long v5), .second, .val (.long v7), .second, .val (.int v9), .val (.int v10), .val (.long v11), .second, .val (.long v13), .second, .unset, .unset, .unset, .unset, .unset] [])) := by
  obtain ⟨hx, hZ, hw, hby, hml, hown, hret, hlk, hnm⟩ := id C0
  refine own_st (fun _ k => XS.lload X0.here hx rfl (hb hby lw_d79) rfl (XS.bipush X0.here hx rfl (hb hby lw_d81) (XS.lshl X0.here hx rfl (hb hby lw_d83) rfl (XS.lload X0.here hx rfl (hb hby lw_d84) rfl (XS.lor X0.here hx rfl (hb hby lw_d86) rfl (XS.lstore X0.here hx rfl (hb hby lw_d87) rfl (l' := #[.val (.int p0), .val (.int p1), .val (.int p2), .val (.int p3), .val (.int p4), .val (.long v5), .second, .val (.long v7), .second, .val (.int v9), .val (.int v10), .val (.long v11), .second, .val (.long v13), .second, .val (.long ((v5 <<< ((32 : Int32) &&& 0x3f).toInt64) ||| v7)), .second, .unset, .unset, .unset]) rfl (XS.lload X0.here hx rfl (hb hby lw_d89) rfl (XS.bipush X0.here hx rfl (hb hby lw_d91) (XS.lshl X0.here hx rfl (hb hby lw_d93) rfl (XS.lload X0.here hx rfl (hb hby lw_d94) rfl (XS.lor X0.here hx rfl (hb hby lw_d96) rfl (XS.lstore X0.here hx rfl (hb hby lw_d97) rfl (l' := #[.val (.int p0), .val (.int p1), .val (.int p2), .val (.int p3), .val (.int p4), .val (.long v5), .second, .val (.long v7), .second, .val (.int v9), .val (.int v10), .val (.long v11), .second, .val (.long v13), .second, .val (.long ((v5 <<< ((32 : Int32) &&& 0x3f).toInt64) ||| v7)), .second, .val (.long ((v11 <<< ((32 : Int32) &&& 0x3f).toInt64) ||| v13)), .second, .unset]) rfl (XS.lload X0.here hx rfl (hb hby lw_d99) rfl (XS.lload X0.here hx rfl (hb hby lw_d101) rfl (XS.lcmp X0.here hx rfl (hb hby lw_d103) rfl k))))))))))))))) ?_
  show own_Dn p e below s _ _ _ (T0.setTop (mkF m 104 #[.val (.int p0), .val (.int p1), .val (.int p2), .val (.int p3), .val (.int p4), .val (.long v5), .second, .val (.long v7), .second, .val (.int v9), .val (.int v10), .val (.long v11), .second, .val (.long v13), .second, .val (.long ((v5 <<< ((32 : Int32) &&& 0x3f).toInt64) ||| v7)), .second, .val (.long ((v11 <<< ((32 : Int32) &&& 0x3f).toInt64) ||| v13)), .second, .unset] [(.int (lcmpW v11 v5))]))
  by_cases hc13 : v11 = v5
  · refine own_st (fun _ k => XS.ifNo X0.here hx rfl (hb hby lw_d104) rfl (own_jteq hc13).2 k) ?_
    show own_Dn p e below s _ _ _ (T0.setTop (mkF m 107 #[.val (.int p0), .val (.int p1), .val (.int p2), .val (.int p3), .val (.int p4), .val (.long v5), .second, .val (.long v7), .second, .val (.int v9), .val (.int v10), .val (.long v11), .second, .val (.long v13), .second, .val (.long ((v5 <<< ((32 : Int32) &&& 0x3f).toInt64) ||| v7)), .second, .val (.long ((v11 <<< ((32 : Int32) &&& 0x3f).toInt64) ||| v13)), .second, .unset] []))
    refine own_st (fun _ k => XS.lload X0.here hx rfl (hb hby lw_d107) rfl (XS.lload X0.here hx rfl (hb hby lw_d109) rfl (XS.lconst X0.here hx rfl (hb hby lw_d111) (XS.ladd X0.here hx rfl (hb hby lw_d112) rfl (XS.lcmp X0.here hx rfl (hb hby lw_d113) rfl k))))) ?_
    show own_Dn p e below s _ _ _ (T0.setTop (mkF m 114 #[.val (.int p0), .val (.int p1), .val (.int p2), .val (.int p3), .val (.int p4), .val (.long v5), .second, .val (.long v7), .second, .val (.int v9), .val (.int v10), .val (.long v11), .second, .val (.long v13), .second, .val (.long ((v5 <<< ((32 : Int32) &&& 0x3f).toInt64) ||| v7)), .second, .val (.long ((v11 <<< ((32 : Int32) &&& 0x3f).toInt64) ||| v13)), .second, .unset] [(.int (lcmpW v13 (v7 + (1 : Int64))))]))
    by_cases hc14 : v13 = (v7 + (1 : Int64))
    · refine own_st (fun _ k => XS.ifNo X0.here hx rfl (hb hby lw_d114) rfl (own_jteq hc14).2 k) ?_
      show own_Dn p e below s _ _ _ (T0.setTop (mkF m 117 #[.val (.int p0), .val (.int p1), .val (.int p2), .val (.int p3), .val (.int p4), .val (.long v5), .second, .val (.long v7), .second, .val (.int v9), .val (.int v10), .val (.long v11), .second, .val (.long v13), .second, .val (.long ((v5 <<< ((32 : Int32) &&& 0x3f).toInt64) ||| v7)), .second, .val (.long ((v11 <<< ((32 : Int32) &&& 0x3f).toInt64) ||| v13)), .second, .unset] []))
      refine own_st (fun _ k => XS.iconst X0.here hx rfl (hb hby lw_d117) (XS.goto X0.here hx rfl (pc0 := 118) (pc' := 122) rfl (hb hby lw_d118) (by decide) (by decide) (XS.istore X0.here hx rfl (hb hby lw_d122) rfl (l' := #[.val (.int p0), .val (.int p1), .val (.int p2), .val (.int p3), .val (.int p4), .val (.long v5), .second, .val (.long v7), .second, .val (.int v9), .val (.int v10), .val (.long v11), .second, .val (.long v13), .second, .val (.long ((v5 <<< ((32 : Int32) &&& 0x3f).toInt64) ||| v7)), .second, .val (.long ((v11 <<< ((32 : Int32) &&& 0x3f).toInt64) ||| v13)), .second, .val (.int (1 : Int32))]) rfl (XS.goto X0.here hx rfl (pc0 := 124) (pc' := 149) rfl (hb hby lw_d124) (by decide) (by decide) k)))) ?_
      show own_Dn p e below s _ _ _ (T0.setTop (mkF m 149 #[.val (.int p0), .val (.int p1), .val (.int p2), .val (.int p3), .val (.int p4), .val (.long v5), .second, .val (.long v7), .second, .val (.int v9), .val (.int v10), .val (.long v11), .second, .val (.long v13), .second, .val (.long ((v5 <<< ((32 : Int32) &&& 0x3f).toInt64) ||| v7)), .second, .val (.long ((v11 <<< ((32 : Int32) &&& 0x3f).toInt64) ||| v13)), .second, .val (.int (1 : Int32))] []))
      exact lw_c149 C0 X0 e0 N0 (v5) (v7) (v9) (v10) (v11) (v13) (((v5 <<< ((32 : Int32) &&& 0x3f).toInt64) ||| v7)) (((v11 <<< ((32 : Int32) &&& 0x3f).toInt64) ||| v13)) ((1 : Int32)) (by rw [hr0, lw_f79, if_pos hc13, if_pos hc14])
    · refine own_st (fun _ k => XS.ifYes X0.here hx rfl (pc0 := 114) (pc' := 121) rfl (hb hby lw_d114) rfl (own_jfeq hc14).2 (by decide) (by decide) k) ?_
      show own_Dn p e below s _ _ _ (T0.setTop (mkF m 121 #[.val (.int p0), .val (.int p1), .val (.int p2), .val (.int p3), .val (.int p4), .val (.long v5), .second, .val (.long v7), .second, .val (.int v9), .val (.int v10), .val (.long v11), .second, .val (.long v13), .second, .val (.long ((v5 <<< ((32 : Int32) &&& 0x3f).toInt64) ||| v7)), .second, .val (.long ((v11 <<< ((32 : Int32) &&& 0x3f).toInt64) ||| v13)), .second, .unset] []))
      refine own_st (fun _ k => XS.iconst X0.here hx rfl (hb hby lw_d121) (XS.istore X0.here hx rfl (hb hby lw_d122) rfl (l' := #[.val (.int p0), .val (.int p1), .val (.int p2), .val (.int p3), .val (.int p4), .val (.long v5), .second, .val (.long v7), .second, .val (.int v9), .val (.int v10), .val (.long v11), .second, .val (.long v13), .second, .val (.long ((v5 <<< ((32 : Int32) &&& 0x3f).toInt64) ||| v7)), .second, .val (.long ((v11 <<< ((32 : Int32) &&& 0x3f).toInt64) ||| v13)), .second, .val (.int (0 : Int32))]) rfl (XS.goto X0.here hx rfl (pc0 := 124) (pc' := 149) rfl (hb hby lw_d124) (by decide) (by decide) k))) ?_
      show own_Dn p e below s _ _ _ (T0.setTop (mkF m 149 #[.val (.int p0), .val (.int p1), .val (.int p2), .val (.int p3), .val (.int p4), .val (.long v5), .second, .val (.long v7), .second, .val (.int v9), .val (.int v10), .val (.long v11), .second, .val (.long v13), .second, .val (.long ((v5 <<< ((32 : Int32) &&& 0x3f).toInt64) ||| v7)), .second, .val (.long ((v11 <<< ((32 : Int32) &&& 0x3f).toInt64) ||| v13)), .second, .val (.int (0 : Int32))] []))
      exact lw_c149 C0 X0 e0 N0 (v5) (v7) (v9) (v10) (v11) (v13) (((v5 <<< ((32 : Int32) &&& 0x3f).toInt64) ||| v7)) (((v11 <<< ((32 : Int32) &&& 0x3f).toInt64) ||| v13)) ((0 : Int32)) (by rw [hr0, lw_f79, if_pos hc13, if_neg hc14])
  · refine own_st (fun _ k => XS.ifYes X0.here hx rfl (pc0 := 104) (pc' := 127) rfl (hb hby lw_d104) rfl (own_jfeq hc13).2 (by decide) (by decide) k) ?_
    show own_Dn p e below s _ _ _ (T0.setTop (mkF m 127 #[.val (.int p0), .val (.int p1), .val (.int p2), .val (.int p3), .val (.int p4), .val (.long v5), .second, .val (.long v7), .second, .val (.int v9), .val (.int v10), .val (.long v11), .second, .val (.long v13), .second, .val (.long ((v5 <<< ((32 : Int32) &&& 0x3f).toInt64) ||| v7)), .second, .val (.long ((v11 <<< ((32 : Int32) &&& 0x3f).toInt64) ||| v13)), .second, .unset] []))
    refine own_st (fun _ k => XS.lload X0.here hx rfl (hb hby lw_d127) rfl (XS.lload X0.here hx rfl (hb hby lw_d129) rfl (XS.lcmp X0.here hx rfl (hb hby lw_d131) rfl k))) ?_
    show own_Dn p e below s _ _ _ (T0.setTop (mkF m 132 #[.val (.int p0), .val (.int p1), .val (.int p2), .val (.int p3), .val (.int p4), .val (.long v5), .second, .val (.long v7), .second, .val (.int v9), .val (.int v10), .val (.long v11), .second, .val (.long v13), .second, .val (.long ((v5 <<< ((32 : Int32) &&& 0x3f).toInt64) ||| v7)), .second, .val (.long ((v11 <<< ((32 : Int32) &&& 0x3f).toInt64) ||| v13)), .second, .unset] [(.int (lcmpW v11 v5))]))
    by_cases hc15 : v5 < v11
    · refine own_st (fun _ k => XS.ifNo X0.here hx rfl (hb hby lw_d132) rfl (own_jtlt hc15).2.2.2 k) ?_
      show own_Dn p e below s _ _ _ (T0.setTop (mkF m 135 #[.val (.int p0), .val (.int p1), .val (.int p2), .val (.int p3), .val (.int p4), .val (.long v5), .second, .val (.long v7), .second, .val (.int v9), .val (.int v10), .val (.long v11), .second, .val (.long v13), .second, .val (.long ((v5 <<< ((32 : Int32) &&& 0x3f).toInt64) ||| v7)), .second, .val (.long ((v11 <<< ((32 : Int32) &&& 0x3f).toInt64) ||| v13)), .second, .unset] []))
      refine own_st (fun _ k => XS.lload X0.here hx rfl (hb hby lw_d135) rfl (XS.lconst X0.here hx rfl (hb hby lw_d137) (XS.lcmp X0.here hx rfl (hb hby lw_d138) rfl k))) ?_
      show own_Dn p e below s _ _ _ (T0.setTop (mkF m 139 #[.val (.int p0), .val (.int p1), .val (.int p2), .val (.int p3), .val (.int p4), .val (.long v5), .second, .val (.long v7), .second, .val (.int v9), .val (.int v10), .val (.long v11), .second, .val (.long v13), .second, .val (.long ((v5 <<< ((32 : Int32) &&& 0x3f).toInt64) ||| v7)), .second, .val (.long ((v11 <<< ((32 : Int32) &&& 0x3f).toInt64) ||| v13)), .second, .unset] [(.int (lcmpW v13 (1 : Int64)))]))
      by_cases hc16 : v13 = (1 : Int64)
      · refine own_st (fun _ k => XS.ifNo X0.here hx rfl (hb hby lw_d139) rfl (own_jteq hc16).2 k) ?_
        show own_Dn p e below s _ _ _ (T0.setTop (mkF m 142 #[.val (.int p0), .val (.int p1), .val (.int p2), .val (.int p3), .val (.int p4), .val (.long v5), .second, .val (.long v7), .second, .val (.int v9), .val (.int v10), .val (.long v11), .second, .val (.long v13), .second, .val (.long ((v5 <<< ((32 : Int32) &&& 0x3f).toInt64) ||| v7)), .second, .val (.long ((v11 <<< ((32 : Int32) &&& 0x3f).toInt64) ||| v13)), .second, .unset] []))
        refine own_st (fun _ k => XS.iconst X0.here hx rfl (hb hby lw_d142) (XS.goto X0.here hx rfl (pc0 := 143) (pc' := 147) rfl (hb hby lw_d143) (by decide) (by decide) (XS.istore X0.here hx rfl (hb hby lw_d147) rfl (l' := #[.val (.int p0), .val (.int p1), .val (.int p2), .val (.int p3), .val (.int p4), .val (.long v5), .second, .val (.long v7), .second, .val (.int v9), .val (.int v10), .val (.long v11), .second, .val (.long v13), .second, .val (.long ((v5 <<< ((32 : Int32) &&& 0x3f).toInt64) ||| v7)), .second, .val (.long ((v11 <<< ((32 : Int32) &&& 0x3f).toInt64) ||| v13)), .second, .val (.int (1 : Int32))]) rfl k))) ?_
        show own_Dn p e below s _ _ _ (T0.setTop (mkF m 149 #[.val (.int p0), .val (.int p1), .val (.int p2), .val (.int p3), .val (.int p4), .val (.long v5), .second, .val (.long v7), .second, .val (.int v9), .val (.int v10), .val (.long v11), .second, .val (.long v13), .second, .val (.long ((v5 <<< ((32 : Int32) &&& 0x3f).toInt64) ||| v7)), .second, .val (.long ((v11 <<< ((32 : Int32) &&& 0x3f).toInt64) ||| v13)), .second, .val (.int (1 : Int32))] []))
        exact lw_c149 C0 X0 e0 N0 (v5) (v7) (v9) (v10) (v11) (v13) (((v5 <<< ((32 : Int32) &&& 0x3f).toInt64) ||| v7)) (((v11 <<< ((32 : Int32) &&& 0x3f).toInt64) ||| v13)) ((1 : Int32)) (by rw [hr0, lw_f79, if_neg hc13, if_pos hc15, if_pos hc16])
      · refine own_st (fun _ k => XS.ifYes X0.here hx rfl (pc0 := 139) (pc' := 146) rfl (hb hby lw_d139) rfl (own_jfeq hc16).2 (by decide) (by decide) k) ?_
        show own_Dn p e below s _ _ _ (T0.setTop (mkF m 146 #[.val (.int p0), .val (.int p1), .val (.int p2), .val (.int p3), .val (.int p4), .val (.long v5), .second, .val (.long v7), .second, .val (.int v9), .val (.int v10), .val (.long v11), .second, .val (.long v13), .second, .val (.long ((v5 <<< ((32 : Int32) &&& 0x3f).toInt64) ||| v7)), .second, .val (.long ((v11 <<< ((32 : Int32) &&& 0x3f).toInt64) ||| v13)), .second, .unset] []))
        refine own_st (fun _ k => XS.iconst X0.here hx rfl (hb hby lw_d146) (XS.istore X0.here hx rfl (hb hby lw_d147) rfl (l' := #[.val (.int p0), .val (.int p1), .val (.int p2), .val (.int p3), .val (.int p4), .val (.long v5), .second, .val (.long v7), .second, .val (.int v9), .val (.int v10), .val (.long v11), .second, .val (.long v13), .second, .val (.long ((v5 <<< ((32 : Int32) &&& 0x3f).toInt64) ||| v7)), .second, .val (.long ((v11 <<< ((32 : Int32) &&& 0x3f).toInt64) ||| v13)), .second, .val (.int (0 : Int32))]) rfl k)) ?_
        show own_Dn p e below s _ _ _ (T0.setTop (mkF m 149 #[.val (.int p0), .val (.int p1), .val (.int p2), .val (.int p3), .val (.int p4), .val (.long v5), .second, .val (.long v7), .second, .val (.int v9), .val (.int v10), .val (.long v11), .second, .val (.long v13), .second, .val (.long ((v5 <<< ((32 : Int32) &&& 0x3f).toInt64) ||| v7)), .second, .val (.long ((v11 <<< ((32 : Int32) &&& 0x3f).toInt64) ||| v13)), .second, .val (.int (0 : Int32))] []))
        exact lw_c149 C0 X0 e0 N0 (v5) (v7) (v9) (v10) (v11) (v13) (((v5 <<< ((32 : Int32) &&& 0x3f).toInt64) ||| v7)) (((v11 <<< ((32 : Int32) &&& 0x3f).toInt64) ||| v13)) ((0 : Int32)) (by rw [hr0, lw_f79, if_neg hc13, if_pos hc15, if_neg hc16])
    · refine own_st (fun _ k => XS.ifYes X0.here hx rfl (pc0 := 132) (pc' := 146) rfl (hb hby lw_d132) rfl (own_jflt hc15).2.2.2 (by decide) (by decide) k) ?_
      show own_Dn p e below s _ _ _ (T0.setTop (mkF m 146 #[.val (.int p0), .val (.int p1), .val (.int p2), .val (.int p3), .val (.int p4), .val (.long v5), .second, .val (.long v7), .second, .val (.int v9), .val (.int v10), .val (.long v11), .second, .val (.long v13), .second, .val (.long ((v5 <<< ((32 : Int32) &&& 0x3f).toInt64) ||| v7)), .second, .val (.long ((v11 <<< ((32 : Int32) &&& 0x3f).toInt64) ||| v13)), .second, .unset] []))
      refine own_st (fun _ k => XS.iconst X0.here hx rfl (hb hby lw_d146) (XS.istore X0.here hx rfl (hb hby lw_d147) rfl (l' := #[.val (.int p0), .val (.int p1), .val (.int p2), .val (.int p3), .val (.int p4), .val (.long v5), .second, .val (.long v7), .second, .val (.int v9), .val (.int v10), .val (.long v11), .second, .val (.long v13), .second, .val (.long ((v5 <<< ((32 : Int32) &&& 0x3f).toInt64) ||| v7)), .second, .val (.long ((v11 <<< ((32 : Int32) &&& 0x3f).toInt64) ||| v13)), .second, .val (.int (0 : Int32))]) rfl k)) ?_
      show own_Dn p e below s _ _ _ (T0.setTop (mkF m 149 #[.val (.int p0), .val (.int p1), .val (.int p2), .val (.int p3), .val (.int p4), .val (.long v5), .second, .val (.long v7), .second, .val (.int v9), .val (.int v10), .val (.long v11), .second, .val (.long v13), .second, .val (.long ((v5 <<< ((32 : Int32) &&& 0x3f).toInt64) ||| v7)), .second, .val (.long ((v11 <<< ((32 : Int32) &&& 0x3f).toInt64) ||| v13)), .second, .val (.int (0 : Int32))] []))
      exact lw_c149 C0 X0 e0 N0 (v5) (v7) (v9) (v10) (v11) (v13) (((v5 <<< ((32 : Int32) &&& 0x3f).toInt64) ||| v7)) (((v11 <<< ((32 : Int32) &&& 0x3f).toInt64) ||| v13)) ((0 : Int32)) (by rw [hr0, lw_f79, if_neg hc13, if_neg hc15])
def lw_f61 (p0 : Int32) (p1 : Int32) (p2 : Int32) (p3 : Int32) (p4 : Int32) (v5 : Int64) (v7 : Int64) (v9 : Int32) (v10 : Int32) : Int32 :=
  lw_f79 p0 p1 p2 p3 p4 (v5) (v7) (v9) (v10) (((v9.toInt64) &&& (4294967295 : Int64))) (((v10.toInt64) &&& (4294967295 : Int64)))
set_option maxRecDepth 65536 in
set_option maxHeartbeats 40000000 in
theorem lw_c61 {l : Launch} {Z : State} {a0 : Array Value} {p0 : Int32} {p1 : Int32} {p2 : Int32} {p3 : Int32} {p4 : Int32} {h0 : Heap} {n0 : Nat} {p : Program} {e : Env} {s : State} {m : MethodId} {args : Array Value} {below : List Frame} {meth : Method} {c : Code} {T0 : State} {locs : List Loc} {r0 : Int32} (C0 : own_Cx p s m meth c Z a0 code 20 "com/example/cairnstore/cairnstore/store/VersionNumberFollowsPinLaw" "law" (some .boolean)) (X0 : Stand p l e room_1 s m args below meth c T0 locs 0 0) (e0 : T0.heap = h0) (N0 : Fr n0 locs) (v5 : Int64) (v7 : Int64) (v9 : Int32) (v10 : Int32) (hr0 : r0 = lw_f61 p0 p1 p2 p3 p4 v5 v7 v9 v10) :
    own_Dn p e below s (own_QL (some (.int r0)) n0) room_1.cells room_1.slots (T0.setTop (mkF m 61 #[.val (.int p0), .val (.int p1), .val (.int p2), .val (.int p3), .val (.int p4), .val (.long v5), .second, .val (.long v7), .second, .val (.int v9), .val (.int v10), .unset, .unset, .unset, .unset, .unset, .unset, .unset, .unset, .unset] [])) := by
  obtain ⟨hx, hZ, hw, hby, hml, hown, hret, hlk, hnm⟩ := id C0
  refine own_st (fun _ k => XS.iload X0.here hx rfl (hb hby lw_d61) rfl (XS.i2l X0.here hx rfl (hb hby lw_d63) rfl (X0.ldc2Long hx (index := 9) (v := (4294967295 : Int64)) hown (mvT hZ (hw _ (List.mem_of_getElem? (i := 0) rfl))) (g := (mkF m 64 #[.val (.int p0), .val (.int p1), .val (.int p2), .val (.int p3), .val (.int p4), .val (.long v5), .second, .val (.long v7), .second, .val (.int v9), .val (.int v10), .unset, .unset, .unset, .unset, .unset, .unset, .unset, .unset, .unset] [(.long (v9.toInt64))])) rfl (hb hby lw_d64) _ (XS.land X0.here hx rfl (hb hby lw_d67) rfl (XS.lstore X0.here hx rfl (hb hby lw_d68) rfl (l' := #[.val (.int p0), .val (.int p1), .val (.int p2), .val (.int p3), .val (.int p4), .val (.long v5), .second, .val (.long v7), .second, .val (.int v9), .val (.int v10), .val (.long ((v9.toInt64) &&& (4294967295 : Int64))), .second, .unset, .unset, .unset, .unset, .unset, .unset, .unset]) rfl (XS.iload X0.here hx rfl (hb hby lw_d70) rfl (XS.i2l X0.here hx rfl (hb hby lw_d72) rfl (X0.ldc2Long hx (index := 9) (v := (4294967295 : Int64)) hown (mvT hZ (hw _ (List.mem_of_getElem? (i := 0) rfl))) (g := (mkF m 73 #[.val (.int p0), .val (.int p1), .val (.int p2), .val (.int p3), .val (.int p4), .val (.long v5), .second, .val (.long v7), .second, .val (.int v9), .val (.int v10), .val (.long ((v9.toInt64) &&& (4294967295 : Int64))), .second, .unset, .unset, .unset, .unset, .unset, .unset, .unset] [(.long (v10.toInt64))])) rfl (hb hby lw_d73) _ (XS.land X0.here hx rfl (hb hby lw_d76) rfl (XS.lstore X0.here hx rfl (hb hby lw_d77) rfl (l' := #[.val (.int p0), .val (.int p1), .val (.int p2), .val (.int p3), .val (.int p4), .val (.long v5), .second, .val (.long v7), .second, .val (.int v9), .val (.int v10), .val (.long ((v9.toInt64) &&& (4294967295 : Int64))), .second, .val (.long ((v10.toInt64) &&& (4294967295 : Int64))), .second, .unset, .unset, .unset, .unset, .unset]) rfl k)))))))))) ?_
  show own_Dn p e below s _ _ _ (T0.setTop (mkF m 79 #[.val (.int p0), .val (.int p1), .val (.int p2), .val (.int p3), .val (.int p4), .val (.long v5), .second, .val (.long v7), .second, .val (.int v9), .val (.int v10), .val (.long ((v9.toInt64) &&& (4294967295 : Int64))), .second, .val (.long ((v10.toInt64) &&& (4294967295 : Int64))), .second, .unset, .unset, .unset, .unset, .unset] []))
  exact lw_c79 C0 X0 e0 N0 (v5) (v7) (v9) (v10) (((v9.toInt64) &&& (4294967295 : Int64))) (((v10.toInt64) &&& (4294967295 : Int64))) (by rw [hr0, lw_f61])
def lw_f28 (p0 : Int32) (p1 : Int32) (p2 : Int32) (p3 : Int32) (p4 : Int32) (v5 : Int64) (v7 : Int64) (u0 : Int32) : Int32 :=
  if (p4 &&& (2 : Int32)) = (0 : Int32) then
    if (p4 &&& (4 : Int32)) = (0 : Int32) then
      lw_f61 p0 p1 p2 p3 p4 (v5) (v7) (u0) (p3)
    else
      lw_f61 p0 p1 p2 p3 p4 (v5) (v7) (u0) ((1 : Int32))
  else
    lw_f61 p0 p1 p2 p3 p4 (v5) (v7) (u0) ((p1 + (1 : Int32)))
set_option maxRecDepth 65536 in
set_option maxHeartbeats 40000000 in
theorem lw_c28 {l : Launch} {Z : State} {a0 : Array Value} {p0 : Int32} {p1 : Int32} {p2 : Int32} {p3 : Int32} {p4 : Int32} {h0 : Heap} {n0 : Nat} {p : Program} {e : Env} {s : State} {m : MethodId} {args : Array Value} {below : List Frame} {meth : Method} {c : Code} {T0 : State} {locs : List Loc} {r0 : Int32} (C0 : own_Cx p s m meth c Z a0 code 20 "com/example/cairnstore/cairnstore/store/VersionNumberFollowsPinLaw" "law" (some .boolean)) (X0 : Stand p l e room_1 s m args below meth c T0 locs 0 0) (e0 : T0.heap = h0) (N0 : Fr n0 locs) (v5 : Int64) (v7 : Int64) (u0 : Int32) (hr0 : r0 = lw_f28 p0 p1 p2 p3 p4 v5 v7 u0) :
    own_Dn p e below s (own_QL (some (.int r0)) n0) room_1.cells room_1.slots (T0.setTop (mkF m 28 #[.val (.int p0), .val (.int p1), .val (.int p2), .val (.int p3), .val (.int p4), .val (.long v5), .second, .val (.long v7), .second, .unset, .unset, .unset, .unset, .unset, .unset, .unset, .unset, .unset, .unset, .unset] [(.int u0)])) := by
  obtain ⟨hx, hZ, hw, hby, hml, hown, hret, hlk, hnm⟩ := id C0
  refine own_st (fun _ k => XS.istore X0.here hx rfl (hb hby lw_d28) rfl (l' := #[.val (.int p0), .val (.int p1), .val (.int p2), .val (.int p3), .val (.int p4), .val (.long v5), .second, .val (.long v7), .second, .val (.int u0), .unset, .unset, .unset, .unset, .unset, .unset, .unset, .unset, .unset, .unset]) rfl (XS.iload X0.here hx rfl (hb hby lw_d30) rfl (XS.iconst X0.here hx rfl (hb hby lw_d32) (XS.iand X0.here hx rfl (hb hby lw_d33) rfl k)))) ?_
  show own_Dn p e below s _ _ _ (T0.setTop (mkF m 34 #[.val (.int p0), .val (.int p1), .val (.int p2), .val (.int p3), .val (.int p4), .val (.long v5), .second, .val (.long v7), .second, .val (.int u0), .unset, .unset, .unset, .unset, .unset, .unset, .unset, .unset, .unset, .unset] [(.int (p4 &&& (2 : Int32)))]))
  by_cases hc11 : (p4 &&& (2 : Int32)) = (0 : Int32)
  · refine own_st (fun _ k => XS.ifYes X0.here hx rfl (pc0 := 34) (pc' := 45) rfl (hb hby lw_d34) rfl ((if0 _ _).trans (teq hc11).1) (by decide) (by decide) k) ?_
    show own_Dn p e below s _ _ _ (T0.setTop (mkF m 45 #[.val (.int p0), .val (.int p1), .val (.int p2), .val (.int p3), .val (.int p4), .val (.long v5), .second, .val (.long v7), .second, .val (.int u0), .unset, .unset, .unset, .unset, .unset, .unset, .unset, .unset, .unset, .unset] []))
    refine own_st (fun _ k => XS.iload X0.here hx rfl (hb hby lw_d45) rfl (XS.iconst X0.here hx rfl (hb hby lw_d47) (XS.iand X0.here hx rfl (hb hby lw_d48) rfl k))) ?_
    show own_Dn p e below s _ _ _ (T0.setTop (mkF m 49 #[.val (.int p0), .val (.int p1), .val (.int p2), .val (.int p3), .val (.int p4), .val (.long v5), .second, .val (.long v7), .second, .val (.int u0), .unset, .unset, .unset, .unset, .unset, .unset, .unset, .unset, .unset, .unset] [(.int (p4 &&& (4 : Int32)))]))
    by_cases hc12 : (p4 &&& (4 : Int32)) = (0 : Int32)
    · refine own_st (fun _ k => XS.ifYes X0.here hx rfl (pc0 := 49) (pc' := 58) rfl (hb hby lw_d49) rfl ((if0 _ _).trans (teq hc12).1) (by decide) (by decide) k) ?_
      show own_Dn p e below s _ _ _ (T0.setTop (mkF m 58 #[.val (.int p0), .val (.int p1), .val (.int p2), .val (.int p3), .val (.int p4), .val (.long v5), .second, .val (.long v7), .second, .val (.int u0), .unset, .unset, .unset, .unset, .unset, .unset, .unset, .unset, .unset, .unset] []))
      refine own_st (fun _ k => XS.iloadN X0.here hx rfl (hb hby lw_d58) rfl (XS.istore X0.here hx rfl (hb hby lw_d59) rfl (l' := #[.val (.int p0), .val (.int p1), .val (.int p2), .val (.int p3), .val (.int p4), .val (.long v5), .second, .val (.long v7), .second, .val (.int u0), .val (.int p3), .unset, .unset, .unset, .unset, .unset, .unset, .unset, .unset, .unset]) rfl k)) ?_
      show own_Dn p e below s _ _ _ (T0.setTop (mkF m 61 #[.val (.int p0), .val (.int p1), .val (.int p2), .val (.int p3), .val (.int p4), .val (.long v5), .second, .val (.long v7), .second, .val (.int u0), .val (.int p3), .unset, .unset, .unset, .unset, .unset, .unset, .unset, .unset, .unset] []))
      exact lw_c61 C0 X0 e0 N0 (v5) (v7) (u0) (p3) (by rw [hr0, lw_f28, if_pos hc11, if_pos hc12])
    · refine own_st (fun _ k => XS.ifNo X0.here hx rfl (hb hby lw_d49) rfl ((if0 _ _).trans (feq hc12).1) k) ?_
      show own_Dn p e below s _ _ _ (T0.setTop (mkF m 52 #[.val (.int p0), .val (.int p1), .val (.int p2), .val (.int p3), .val (.int p4), .val (.long v5), .second, .val (.long v7), .second, .val (.int u0), .unset, .unset, .unset, .unset, .unset, .unset, .unset, .unset, .unset, .unset] []))
      refine own_st (fun _ k => XS.iconst X0.here hx rfl (hb hby lw_d52) (XS.istore X0.here hx rfl (hb hby lw_d53) rfl (l' := #[.val (.int p0), .val (.int p1), .val (.int p2), .val (.int p3), .val (.int p4), .val (.long v5), .second, .val (.long v7), .second, .val (.int u0), .val (.int (1 : Int32)), .unset, .unset, .unset, .unset, .unset, .unset, .unset, .unset, .unset]) rfl (XS.goto X0.here hx rfl (pc0 := 55) (pc' := 61) rfl (hb hby lw_d55) (by decide) (by decide) k))) ?_
      show own_Dn p e below s _ _ _ (T0.setTop (mkF m 61 #[.val (.int p0), .val (.int p1), .val (.int p2), .val (.int p3), .val (.int p4), .val (.long v5), .second, .val (.long v7), .second, .val (.int u0), .val (.int (1 : Int32)), .unset, .unset, .unset, .unset, .unset, .unset, .unset, .unset, .unset] []))
      exact lw_c61 C0 X0 e0 N0 (v5) (v7) (u0) ((1 : Int32)) (by rw [hr0, lw_f28, if_pos hc11, if_neg hc12])
  · refine own_st (fun _ k => XS.ifNo X0.here hx rfl (hb hby lw_d34) rfl ((if0 _ _).trans (feq hc11).1) k) ?_
    show own_Dn p e below s _ _ _ (T0.setTop (mkF m 37 #[.val (.int p0), .val (.int p1), .val (.int p2), .val (.int p3), .val (.int p4), .val (.long v5), .second, .val (.long v7), .second, .val (.int u0), .unset, .unset, .unset, .unset, .unset, .unset, .unset, .unset, .unset, .unset] []))
    refine own_st (fun _ k => XS.iloadN X0.here hx rfl (hb hby lw_d37) rfl (XS.iconst X0.here hx rfl (hb hby lw_d38) (XS.iadd X0.here hx rfl (hb hby lw_d39) rfl (XS.istore X0.here hx rfl (hb hby lw_d40) rfl (l' := #[.val (.int p0), .val (.int p1), .val (.int p2), .val (.int p3), .val (.int p4), .val (.long v5), .second, .val (.long v7), .second, .val (.int u0), .val (.int (p1 + (1 : Int32))), .unset, .unset, .unset, .unset, .unset, .unset, .unset, .unset, .unset]) rfl (XS.goto X0.here hx rfl (pc0 := 42) (pc' := 61) rfl (hb hby lw_d42) (by decide) (by decide) k))))) ?_
    show own_Dn p e below s _ _ _ (T0.setTop (mkF m 61 #[.val (.int p0), .val (.int p1), .val (.int p2), .val (.int p3), .val (.int p4), .val (.long v5), .second, .val (.long v7), .second, .val (.int u0), .val (.int (p1 + (1 : Int32))), .unset, .unset, .unset, .unset, .unset, .unset, .unset, .unset, .unset] []))
    exact lw_c61 C0 X0 e0 N0 (v5) (v7) (u0) ((p1 + (1 : Int32))) (by rw [hr0, lw_f28, if_neg hc11])
def lw_f (p0 : Int32) (p1 : Int32) (p2 : Int32) (p3 : Int32) (p4 : Int32)  : Int32 :=
  if (p4 &&& (1 : Int32)) = (0 : Int32) then
    lw_f28 p0 p1 p2 p3 p4 (((p0.toInt64) &&& (4294967295 : Int64))) (((p1.toInt64) &&& (4294967295 : Int64))) (p2)
  else
    lw_f28 p0 p1 p2 p3 p4 (((p0.toInt64) &&& (4294967295 : Int64))) (((p1.toInt64) &&& (4294967295 : Int64))) (p0)
set_option maxRecDepth 65536 in
set_option maxHeartbeats 40000000 in
theorem lw_c0 {l : Launch} {Z : State} {a0 : Array Value} {p0 : Int32} {p1 : Int32} {p2 : Int32} {p3 : Int32} {p4 : Int32} {h0 : Heap} {n0 : Nat} {p : Program} {e : Env} {s : State} {m : MethodId} {args : Array Value} {below : List Frame} {meth : Method} {c : Code} {T0 : State} {locs : List Loc} {r0 : Int32} (C0 : own_Cx p s m meth c Z a0 code 20 "com/example/cairnstore/cairnstore/store/VersionNumberFollowsPinLaw" "law" (some .boolean)) (X0 : Stand p l e room_1 s m args below meth c T0 locs 0 0) (e0 : T0.heap = h0) (N0 : Fr n0 locs)  (hr0 : r0 = lw_f p0 p1 p2 p3 p4 ) :
    own_Dn p e below s (own_QL (some (.int r0)) n0) room_1.cells room_1.slots (T0.setTop (mkF m 0 #[.val (.int p0), .val (.int p1), .val (.int p2), .val (.int p3), .val (.int p4), .unset, .unset, .unset, .unset, .unset, .unset, .unset, .unset, .unset, .unset, .unset, .unset, .unset, .unset, .unset] [])) := by
  obtain ⟨hx, hZ, hw, hby, hml, hown, hret, hlk, hnm⟩ := id C0
  refine own_st (fun _ k => XS.iloadN X0.here hx rfl (hb hby lw_d0) rfl (XS.i2l X0.here hx rfl (hb hby lw_d1) rfl (X0.ldc2Long hx (index := 9) (v := (4294967295 : Int64)) hown (mvT hZ (hw _ (List.mem_of_getElem? (i := 0) rfl))) (g := (mkF m 2 #[.val (.int p0), .val (.int p1), .val (.int p2), .val (.int p3), .val (.int p4), .unset, .unset, .unset, .unset, .unset, .unset, .unset, .unset, .unset, .unset, .unset, .unset, .unset, .unset, .unset] [(.long (p0.toInt64))])) rfl (hb hby lw_d2) _ (XS.land X0.here hx rfl (hb hby lw_d5) rfl (XS.lstore X0.here hx rfl (hb hby lw_d6) rfl (l' := #[.val (.int p0), .val (.int p1), .val (.int p2), .val (.int p3), .val (.int p4), .val (.long ((p0.toInt64) &&& (4294967295 : Int64))), .second, .unset, .unset, .unset, .unset, .unset, .unset, .unset, .unset, .unset, .unset, .unset, .unset, .unset]) rfl (XS.iloadN X0.here hx rfl (hb hby lw_d8) rfl (XS.i2l X0.here hx rfl (hb hby lw_d9) rfl (X0.ldc2Long hx (index := 9) (v := (4294967295 : Int64)) hown (mvT hZ (hw _ (List.mem_of_getElem? (i := 0) rfl))) (g := (mkF m 10 #[.val (.int p0), .val (.int p1), .val (.int p2), .val (.int p3), .val (.int p4), .val (.long ((p0.toInt64) &&& (4294967295 : Int64))), .second, .unset, .unset, .unset, .unset, .unset, .unset, .unset, .unset, .unset, .unset, .unset, .unset, .unset] [(.long (p1.toInt64))])) rfl (hb hby lw_d10) _ (XS.land X0.here hx rfl (hb hby lw_d13) rfl (XS.lstore X0.here hx rfl (hb hby lw_d14) rfl (l' := #[.val (.int p0), .val (.int p1), .val (.int p2), .val (.int p3), .val (.int p4), .val (.long ((p0.toInt64) &&& (4294967295 : Int64))), .second, .val (.long ((p1.toInt64) &&& (4294967295 : Int64))), .second, .unset, .unset, .unset, .unset, .unset, .unset, .unset, .unset, .unset, .unset, .unset]) rfl (XS.iload X0.here hx rfl (hb hby lw_d16) rfl (XS.iconst X0.here hx rfl (hb hby lw_d18) (XS.iand X0.here hx rfl (hb hby lw_d19) rfl k))))))))))))) ?_
  show own_Dn p e below s _ _ _ (T0.setTop (mkF m 20 #[.val (.int p0), .val (.int p1), .val (.int p2), .val (.int p3), .val (.int p4), .val (.long ((p0.toInt64) &&& (4294967295 : Int64))), .second, .val (.long ((p1.toInt64) &&& (4294967295 : Int64))), .second, .unset, .unset, .unset, .unset, .unset, .unset, .unset, .unset, .unset, .unset, .unset] [(.int (p4 &&& (1 : Int32)))]))
  by_cases hc10 : (p4 &&& (1 : Int32)) = (0 : Int32)
  · refine own_st (fun _ k => XS.ifYes X0.here hx rfl (pc0 := 20) (pc' := 27) rfl (hb hby lw_d20) rfl ((if0 _ _).trans (teq hc10).1) (by decide) (by decide) k) ?_
    show own_Dn p e below s _ _ _ (T0.setTop (mkF m 27 #[.val (.int p0), .val (.int p1), .val (.int p2), .val (.int p3), .val (.int p4), .val (.long ((p0.toInt64) &&& (4294967295 : Int64))), .second, .val (.long ((p1.toInt64) &&& (4294967295 : Int64))), .second, .unset, .unset, .unset, .unset, .unset, .unset, .unset, .unset, .unset, .unset, .unset] []))
    refine own_st (fun _ k => XS.iloadN X0.here hx rfl (hb hby lw_d27) rfl k) ?_
    show own_Dn p e below s _ _ _ (T0.setTop (mkF m 28 #[.val (.int p0), .val (.int p1), .val (.int p2), .val (.int p3), .val (.int p4), .val (.long ((p0.toInt64) &&& (4294967295 : Int64))), .second, .val (.long ((p1.toInt64) &&& (4294967295 : Int64))), .second, .unset, .unset, .unset, .unset, .unset, .unset, .unset, .unset, .unset, .unset, .unset] [(.int p2)]))
    exact lw_c28 C0 X0 e0 N0 (((p0.toInt64) &&& (4294967295 : Int64))) (((p1.toInt64) &&& (4294967295 : Int64))) (p2) (by rw [hr0, lw_f, if_pos hc10])
  · refine own_st (fun _ k => XS.ifNo X0.here hx rfl (hb hby lw_d20) rfl ((if0 _ _).trans (feq hc10).1) k) ?_
    show own_Dn p e below s _ _ _ (T0.setTop (mkF m 23 #[.val (.int p0), .val (.int p1), .val (.int p2), .val (.int p3), .val (.int p4), .val (.long ((p0.toInt64) &&& (4294967295 : Int64))), .second, .val (.long ((p1.toInt64) &&& (4294967295 : Int64))), .second, .unset, .unset, .unset, .unset, .unset, .unset, .unset, .unset, .unset, .unset, .unset] []))
    refine own_st (fun _ k => XS.iloadN X0.here hx rfl (hb hby lw_d23) rfl (XS.goto X0.here hx rfl (pc0 := 24) (pc' := 28) rfl (hb hby lw_d24) (by decide) (by decide) k)) ?_
    show own_Dn p e below s _ _ _ (T0.setTop (mkF m 28 #[.val (.int p0), .val (.int p1), .val (.int p2), .val (.int p3), .val (.int p4), .val (.long ((p0.toInt64) &&& (4294967295 : Int64))), .second, .val (.long ((p1.toInt64) &&& (4294967295 : Int64))), .second, .unset, .unset, .unset, .unset, .unset, .unset, .unset, .unset, .unset, .unset, .unset] [(.int p0)]))
    exact lw_c28 C0 X0 e0 N0 (((p0.toInt64) &&& (4294967295 : Int64))) (((p1.toInt64) &&& (4294967295 : Int64))) (p0) (by rw [hr0, lw_f, if_neg hc10])
theorem lw_ef (m : MethodId) (p0 : Int32) (p1 : Int32) (p2 : Int32) (p3 : Int32) (p4 : Int32) : entryFrame m #[(.int p0), (.int p1), (.int p2), (.int p3), (.int p4)] maxLocals = mkF m 0 #[.val (.int p0), .val (.int p1), .val (.int p2), .val (.int p3), .val (.int p4), .unset, .unset, .unset, .unset, .unset, .unset, .unset, .unset, .unset, .unset, .unset, .unset, .unset, .unset, .unset] [] := by first | (simp [entryFrame, mkF, argsToLocals, Value.category, maxLocals]; done) | rfl
theorem lw_rm (l : Launch) (Z : State) (a0 : Array Value) (hw : ∀ d ∈ tables_1, d.before a0 Z = true) (ws : List Jvm.Cond) (p0 : Int32) (p1 : Int32) (p2 : Int32) (p3 : Int32) (p4 : Int32) (h0 : Heap) (n0 : Nat) :
    MetFree l x (head1 (Jvm.Cond.code x code maxLocals ret :: ws) room_1) (fun a U => a = #[(.int p0), (.int p1), (.int p2), (.int p3), (.int p4)] ∧ Z.Warmed39 U.vm ∧ U.heap = h0) (fun _ _ _ _ _ => True) (fun _ U o U' => ∃ v L, o = .returned v ∧ (own_QL (some (.int (lw_f p0 p1 p2 p3 p4))) n0) v U'.heap L ∧ FrameEnd U o U' L room_1.cells room_1.slots) :=
  own_met hw (plainFor_of_name (by first | (simp [plainName, overriddenIn]; done) | decide +kernel)) (fun p e s m below meth c T0 C0 X0 e0 => own_st (fun _ k => castTop (lw_ef m p0 p1 p2 p3 p4) k) (lw_c0 C0 X0 e0 (Fr.nil n0) rfl))
theorem own_fo (g1 s1 g2 s2 : Int64) (a1 : 0 ≤ g1.toInt ∧ g1.toInt < 4294967296) (a2 : 0 ≤ s1.toInt ∧ s1.toInt < 4294967296) (a3 : 0 ≤ g2.toInt ∧ g2.toInt < 4294967296) (a4 : 0 ≤ s2.toInt ∧ s2.toInt < 4294967296) :
    fo_f ((g1 <<< ((32 : Int32) &&& 0x3f).toInt64) ||| s1) ((g2 <<< ((32 : Int32) &&& 0x3f).toInt64) ||| s2) = if g2 = g1 then (if s2 = s1 + 1 then 1 else 0) else if g1 < g2 then (if s2 = 1 then 1 else 0) else 0 := by
  have b1 := c_lshl g1 32 32 (by decide)
  have b2 := c_lshl g2 32 32 (by decide)
  have d1 := c_orL (g1 <<< ((32 : Int32) &&& 0x3f).toInt64) s1 32 (by decide) 4294967296 (by decide) (by omega) a2.1 a2.2
  have d2 := c_orL (g2 <<< ((32 : Int32) &&& 0x3f).toInt64) s2 32 (by decide) 4294967296 (by decide) (by omega) a4.1 a4.2
  generalize (g1 <<< ((32 : Int32) &&& 0x3f).toInt64) = x1 at *
  generalize (g2 <<< ((32 : Int32) &&& 0x3f).toInt64) = x2 at *
  generalize (x1 ||| s1) = A at *
  generalize (x2 ||| s2) = B at *
  have u1 := c_lushr A 32 32 (by decide) (by decide)
  have u2 := c_lushr B 32 32 (by decide) (by decide)
  have m2 := c_maskL B 4294967295 32 (by decide) (by decide)
  have p1 := c_ladd A 1
  have p2 := c_ladd s1 1
  have r1 := rng64 (A + 1)
  have r2 := rng64 (s1 + 1)
  have r3 := rng64 A
  have r4 := rng64 B
  have r5 := rng64 x1
  have r6 := rng64 x2
  simp only [Int64.reduceToInt] at p1 p2
  simp only [fo_f, ge_f, sq_f, Int64.lt_iff_toInt_lt, ← Int64.toInt_inj, Int64.reduceToInt, u1, u2, m2]
  repeat' split
  all_goals first | rfl | omega
theorem own_l79 (p0 p1 p2 p3 p4 : Int32) (v5 v7 : Int64) (v9 v10 : Int32) (v11 v13 : Int64) (a1 : 0 ≤ v5.toInt ∧ v5.toInt < 4294967296) (a2 : 0 ≤ v7.toInt ∧ v7.toInt < 4294967296) (a3 : 0 ≤ v11.toInt ∧ v11.toInt < 4294967296) (a4 : 0 ≤ v13.toInt ∧ v13.toInt < 4294967296) :
    lw_f79 p0 p1 p2 p3 p4 v5 v7 v9 v10 v11 v13 = 1 := by
  simp only [lw_f79, lw_f149, own_fo v5 v7 v11 v13 a1 a2 a3 a4]
  repeat' split
  all_goals first | rfl | simp_all
theorem own_m (x : Int32) : 0 ≤ ((x.toInt64) &&& (4294967295 : Int64)).toInt ∧ ((x.toInt64) &&& (4294967295 : Int64)).toInt < 4294967296 := by
  have h := c_maskL x.toInt64 4294967295 32 (by decide) (by decide)
  omega
theorem own_law (p0 p1 p2 p3 p4 : Int32) : lw_f p0 p1 p2 p3 p4 = 1 := by
  simp only [lw_f, lw_f28, lw_f61, own_l79 _ _ _ _ _ _ _ _ _ _ _ (own_m _) (own_m _) (own_m _) (own_m _), ite_self]

set_option maxRecDepth 65536 in
set_option maxHeartbeats 40000000 in
theorem comes_1 {Post : Tables → Env → Array Value → State → Outcome → State → Prop} (hpost : ∀ tb e args s v u, (limb_1_1.after args s (.returned v) u = true ∧ limb_1_2.after args s (.returned v) u = true ∧ True) → FrameEnd s (.returned v) u (Jvm.fieldLocs frame_1_writes args s ++ Jvm.arrayLocs frame_1_arrays args s ++ Jvm.staticLocs frame_1_statics s) 0 0 → Post tb e args s (.returned v) u) :
    ArmFor flags0 classFile x code maxLocals ret World_1 tables_1 room_1 Calls_1 rest_1 Pre_1 Post := by
  intro l hfl _ _ p e ha hc hk s m args below hf hA hF happ hP
  obtain ⟨hcalls, hrest, hpre⟩ := hP
  obtain ⟨-, -, -, hnamed, -, -, -, hat⟩ := (Spec.applies_iff hf).mp happ
  obtain ⟨hg, hn⟩ := and_e (Cond.before_iff.mp (show (Jvm.Cond.and given_1 narrow_1).before args s = true from hpre))
  obtain ⟨gc, hg0⟩ := and_e hg
  obtain ⟨g0, hg1⟩ := and_e hg0
  obtain ⟨g1, hg2⟩ := and_e hg1
  obtain ⟨g2, hg3⟩ := and_e hg2
  obtain ⟨g3, g4⟩ := and_e hg3
  obtain ⟨w0, w1, w2, w3, w4, rfl⟩ : ∃ w0 w1 w2 w3 w4 : Value, args = #[w0, w1, w2, w3, w4] := by
    have hs : args.size = 5 := by simpa [Cond.value, given_1] using gc
    obtain ⟨L⟩ := args
    match L, hs with
    | [w0, w1, w2, w3, w4], _ => exact ⟨w0, w1, w2, w3, w4, rfl⟩
  have hw := fun d (hd : d ∈ tables_1) => atoms_spec (ws := Jvm.Cond.code x code maxLocals ret :: tables_1) hat d (List.mem_cons_of_mem _ hd)
  have hfit : Fit s := fun {y c} hc i hi => by
    obtain ⟨ha, rfl⟩ := Array.getElem?_eq_some_iff.mp hc
    have q := List.all_eq_true.mp ((Array.all_eq_true_iff_forall_mem.mp hF) _ (Array.getElem_mem ha)) i (List.mem_range.mpr hi)
    simpa [Array.getElem?_eq_getElem hi] using q
  obtain ⟨i0, ei0⟩ := is_v g0
  obtain rfl : w0 = (.int i0) := Option.some.inj ei0
  obtain ⟨i1, ei1⟩ := is_v g1
  obtain rfl : w1 = (.int i1) := Option.some.inj ei1
  obtain ⟨i2, ei2⟩ := is_v g2
  obtain rfl : w2 = (.int i2) := Option.some.inj ei2
  obtain ⟨i3, ei3⟩ := is_v g3
  obtain rfl : w3 = (.int i3) := Option.some.inj ei3
  obtain ⟨i4, ei4⟩ := is_v g4
  obtain rfl : w4 = (.int i4) := Option.some.inj ei4
  obtain ⟨n, o, h1, h2, h3, _, L, rfl, ⟨rfl, N⟩, hq⟩ := lw_rm l s _ hw tables_1 i0 i1 i2 i3 i4  s.heap s.heap.size  p e ha hc hk s m _ below hf ((Spec.applies_iff_loose hf).mp happ).1 ⟨rfl, State.Warmed39.refl s, rfl⟩ trivial
  refine ⟨n, _, h1, h2, h3, hpost _ _ _ _ _ _ ⟨Cond.after_iff.mpr rfl, Cond.after_iff.mpr (eq_i res_at (Term.int_eval (1)) (by rw [own_law])), trivial⟩ ⟨hq.1, hq.2.1, (hq.2.2.sift fun y hy => Or.inr (N y hy)).mono (by decide) (by decide)⟩⟩
theorem main_1_1 : Claimed_1_1 := comes_1 fun _ _ _ _ _ _ h hF => ⟨h.1, hF⟩
theorem main_1_2 : Claimed_1_2 := comes_1 fun _ _ _ _ _ _ h hF => ⟨h.2.1, hF⟩
end Jvm.Pilot.@@N@@
namespace Jvm.Pilot.@@N@@
open Jvm Jvm.ClassFile Sem Op Lib Jvm.Free Jvm.Stand Jvm.Pilot.@@N@@.Jvm.D
/-! MADE BY PROGRAM (witnessworld.py) out of the Statement's table words and the real class files: 9 classes; the members and pool entries that the words name. The judged class is class 1, her method 1. -/
namespace start1
open Jvm.ClassFile
def u (s : String) : CpInfo := .utf8 (stringToUtf16 s)
/-- a pool by its gaps: so many unusable entries, then the entry; so many at the end -/
def gap : Nat → List CpInfo → List CpInfo
  | 0, r => r
  | n + 1, r => .unusable :: gap n r
def poolList (es : List (Nat × CpInfo)) (last : Nat) : List CpInfo := es.foldr (fun e r => gap e.1 (e.2 :: r)) (gap last [])
def pool (es : List (Nat × CpInfo)) (last : Nat) : Array CpInfo := ⟨poolList es last⟩
def fileOf (pool : Array CpInfo) (this : Nat) (attrs : Array Attribute := #[]) (ms : Array MethodInfo := #[]) (fl : Nat := 33) (sup : Nat := 0) (ifs : Array Nat := #[]) (fds : Array FieldInfo := #[]) : ClassFile where
  minorVersion := 0
  majorVersion := 65
  constantPool := pool
  accessFlags := fl
  thisClass := this
  superClass := sup
  interfaces := ifs
  fields := fds
  methods := ms
  attributes := attrs
def plain (name : String) (sup : Option ClassId) : Class where
  name := name
  kind := .ordinary
  loader := none
  accessFlags := 33
  super := sup
  interfaces := #[]
  cf := none
  fields := #[]
  methods := #[]
  instanceTypes := #[]
  staticTypes := #[]
  resolved := #[]
  callSites := []
  init := .initialized
  statics := none
  mirror := none

def pool0 : Array CpInfo := pool [(5, u "<init>"), (0, u "()V"), (1, .class_ 10), (1, u "java/lang/Object")] 113

def k0m0 : Method := { name := "<init>", desc := "()V", sig := { parameters := [], returnType := none }, accessFlags := 1, code := none }
/-- java/lang/Object -/
def k0 : Class := { plain "java/lang/Object" none with
  accessFlags := 33
  interfaces := #[]
  cf := some (fileOf pool0 8 #[] #[{ accessFlags := 1, nameIndex := 5, descriptorIndex := 6, attributes := #[] }] 33 0 #[] #[])
  fields := #[]
  methods := #[k0m0]
  instanceTypes := #[]
  staticTypes := #[]
  resolved := Array.replicate 124 none
  statics := none }

def pool1 : Array CpInfo := pool [(2, .class_ 4), (1, u "java/lang/Object"), (0, u "<init>"), (0, u "()V"), (0, .class_ 8), (0, u "com/example/cairnstore/cairnstore/store/VersionNumberFollowsPinLaw"), (0, .long 4294967295), (1, .methodref 12 13), (0, .class_ 14), (0, .nameAndType 15 16), (0, u "com/example/cairnstore/cairnstore/store/VersionNumber"), (0, u "follows"), (0, u "(JJ)Z"), (0, u "MASK"), (0, u "J"), (3, u "law"), (0, u "(IIIII)Z")] 3

def k1m0 : Method := { name := "<init>", desc := "()V", sig := { parameters := [], returnType := none }, accessFlags := 1, code := none }
def k1c1 : Code := { maxStack := 6, maxLocals := 20, code := code, exceptionTable := #[], attributes := #[] }
def k1m1 : Method := { name := "law", desc := "(IIIII)Z", sig := { parameters := [.int, .int, .int, .int, .int], returnType := some .boolean }, accessFlags := 9, code := some k1c1 }
/-- com/example/cairnstore/cairnstore/store/VersionNumberFollowsPinLaw -/
def k1 : Class := { plain "com/example/cairnstore/cairnstore/store/VersionNumberFollowsPinLaw" (some 0) with
  accessFlags := 49
  interfaces := #[]
  cf := some (fileOf pool1 7 #[] #[{ accessFlags := 1, nameIndex := 5, descriptorIndex := 6, attributes := #[] }, { accessFlags := 9, nameIndex := 22, descriptorIndex := 23, attributes := #[] }] 49 2 #[] #[{ accessFlags := 26, nameIndex := 17, descriptorIndex := 18, attributes := #[] }])
  fields := #[{ name := "MASK", type := .long, accessFlags := 26, slot := 0, constantValue := 0 }]
  methods := #[k1m0, k1m1]
  instanceTypes := #[]
  staticTypes := #[.long]
  resolved := Array.replicate 27 none
  statics := none }

def pool2 : Array CpInfo := pool [(2, .class_ 4), (1, u "java/lang/Object"), (0, u "<init>"), (0, u "()V"), (0, .class_ 8), (0, u "com/example/cairnstore/cairnstore/store/VersionNumber"), (0, .long 4294967295), (1, .methodref 7 12), (0, .nameAndType 13 14), (0, u "generation"), (0, u "(J)J"), (0, .methodref 7 16), (0, .nameAndType 17 14), (0, u "sequence"), (0, u "FIRST_SEQUENCE"), (0, u "J"), (3, u "LAST_SEQUENCE"), (3, u "follows"), (0, u "(JJ)Z")] 3

def k2m0 : Method := { name := "<init>", desc := "()V", sig := { parameters := [], returnType := none }, accessFlags := 2, code := none }
def k2c1 : Code := { maxStack := 3, maxLocals := 2, code := prog_49_method_2_code, exceptionTable := #[], attributes := #[] }
def k2m1 : Method := { name := "generation", desc := "(J)J", sig := { parameters := [.long], returnType := some .long }, accessFlags := 8, code := some k2c1 }
def k2c2 : Code := { maxStack := 4, maxLocals := 2, code := prog_49_method_3_code, exceptionTable := #[], attributes := #[] }
def k2m2 : Method := { name := "sequence", desc := "(J)J", sig := { parameters := [.long], returnType := some .long }, accessFlags := 8, code := some k2c2 }
def k2c3 : Code := { maxStack := 6, maxLocals := 4, code := prog_49_method_5_code, exceptionTable := #[], attributes := #[] }
def k2m3 : Method := { name := "follows", desc := "(JJ)Z", sig := { parameters := [.long, .long], returnType := some .boolean }, accessFlags := 8, code := some k2c3 }
/-- com/example/cairnstore/cairnstore/store/VersionNumber -/
def k2 : Class := { plain "com/example/cairnstore/cairnstore/store/VersionNumber" (some 0) with
  accessFlags := 48
  interfaces := #[]
  cf := some (fileOf pool2 7 #[] #[{ accessFlags := 2, nameIndex := 5, descriptorIndex := 6, attributes := #[] }, { accessFlags := 8, nameIndex := 13, descriptorIndex := 14, attributes := #[] }, { accessFlags := 8, nameIndex := 17, descriptorIndex := 14, attributes := #[] }, { accessFlags := 8, nameIndex := 27, descriptorIndex := 28, attributes := #[] }] 48 2 #[] #[{ accessFlags := 24, nameIndex := 18, descriptorIndex := 19, attributes := #[] }, { accessFlags := 24, nameIndex := 23, descriptorIndex := 19, attributes := #[] }])
  fields := #[{ name := "FIRST_SEQUENCE", type := .long, accessFlags := 24, slot := 0, constantValue := 0 }, { name := "LAST_SEQUENCE", type := .long, accessFlags := 24, slot := 1, constantValue := 0 }]
  methods := #[k2m0, k2m1, k2m2, k2m3]
  instanceTypes := #[]
  staticTypes := #[.long, .long]
  resolved := Array.replicate 32 none
  statics := none }

def pool3 : Array CpInfo := pool [(1, u "java/lang/Cloneable"), (0, .class_ 1), (0, u "java/lang/Object"), (0, .class_ 3)] 3

/-- java/lang/Cloneable -/
def k3 : Class := { plain "java/lang/Cloneable" (some 0) with
  accessFlags := 1537
  interfaces := #[]
  cf := some (fileOf pool3 2 #[] #[] 1537 4 #[] #[])
  fields := #[]
  methods := #[]
  instanceTypes := #[]
  staticTypes := #[]
  resolved := Array.replicate 8 none
  statics := none }

def pool4 : Array CpInfo := pool [(1, u "java/io/Serializable"), (0, .class_ 1), (0, u "java/lang/Object"), (0, .class_ 3)] 3

/-- java/io/Serializable -/
def k4 : Class := { plain "java/io/Serializable" (some 0) with
  accessFlags := 1537
  interfaces := #[]
  cf := some (fileOf pool4 2 #[] #[] 1537 4 #[] #[])
  fields := #[]
  methods := #[]
  instanceTypes := #[]
  staticTypes := #[]
  resolved := Array.replicate 8 none
  statics := none }

/-- the primitive byte -/
def k5 : Class := { plain "byte" none with kind := .primitive 'B', accessFlags := 0x411 }
/-- [B -/
def k6 : Class := { plain "[B" (some 0) with kind := .array 5 .byte, interfaces := #[3, 4], accessFlags := 1041 }

/-- the primitive int -/
def k7 : Class := { plain "int" none with kind := .primitive 'I', accessFlags := 0x411 }
/-- [I -/
def k8 : Class := { plain "[I" (some 0) with kind := .array 7 .int, interfaces := #[3, 4], accessFlags := 1041 }

def heap : Heap := #[]
def classes : Array Class := #[k0, k1, k2, k3, k4, k5, k6, k7, k8]
def interned : List (Array UInt16 × Addr) := []
def slotsUsed : Nat := 0
def theMethod : MethodId := ⟨1, 1⟩
def args0 : Array Value := #[.int 5, .int 9, .int 7, .int 3, .int 2]
def aboutOver (below : List Frame) : State where
  vm := { classes := classes, interned := interned.toArray }
  heap := heap
  slotsUsed := slotsUsed
  threads := #[{ frames := .invoking theMethod args0 :: below }]
def below0 : List Frame := [.native { method := ⟨0, 0⟩, args := #[] }]
def about1 : State := aboutOver below0
def p0 : Program := .bare "" "" ""
def e0 : Env := launch0.env 0 0 0
theorem w_frames : about1.frames = Frame.invoking theMethod args0 :: below0 := rfl
set_option maxRecDepth 65536 in
theorem w_args : argsFit about1.vm theMethod args0 = true := by decide +kernel
set_option maxRecDepth 65536 in
theorem w_heap : heapFits about1 = true := by decide +kernel
set_option maxRecDepth 65536 in
theorem w_runnable : about1.curStatus? = some .runnable := by decide +kernel
set_option maxRecDepth 65536 in
theorem w_alone : about1.alone = true := by decide +kernel
set_option maxRecDepth 65536 in
theorem w_named : about1.methodNamed? x = some theMethod := by decide +kernel
set_option maxRecDepth 65536 in
theorem w_hears : about1.hears theMethod below0 = true := by decide +kernel
set_option maxRecDepth 65536 in
theorem w_ripe : about1.ripe theMethod args0 below0 = true := by decide +kernel
theorem w_running : about1.status = .running := rfl
set_option maxRecDepth 65536 in
theorem w_room : about1.hasRoom e0.platform room_1 = true :=
  launch0.hasRoom_least _ room_1 (by decide +kernel) (by decide +kernel) (by decide +kernel) (by decide +kernel) (by decide +kernel) (by decide +kernel)
theorem allAtoms_all (ts : List Jvm.Cond) (a : Array Jvm.Value) (st : Jvm.State) : (allAtoms ts).before a st = ts.all (fun c => c.before a st) := by
  induction ts with
  | nil => rfl
  | cons c t ih =>
    show (Jvm.Cond.and c (allAtoms t)).before a st = _
    rw [Jvm.Cond.before_and, ih, List.all_cons]
def words1 : List Jvm.Cond := Jvm.Cond.code x code maxLocals ret :: tables_1
/-- a 'code' word, met by the world's own term for the bytes: nothing is compared byte by byte -/
theorem code_word {y : MethodName} {bytes : ByteArray} {mx : Nat} {rt : Option FieldType} {a : Array Value} {s : State} {m : MethodId} {meth : Method} {c : Code} (h1 : s.methodNamed? y = some m) (h2 : s.vm.method? m = some meth) (h3 : meth.code = some c) (h4 : c.code = bytes)
    (h5 : (c.maxLocals == mx && c.exceptionTable.isEmpty && decide (c.maxStack ≤ mostOperands) && decide (meth.sig.returnType = rt) && !meth.locks && decide (parseMethodDescriptor y.desc = some meth.sig)) = true) : (Jvm.Cond.code y bytes mx rt).before a s = true := by
  simp only [Bool.and_eq_true, beq_iff_eq, Bool.not_eq_true', decide_eq_true_eq] at h5
  obtain ⟨⟨⟨⟨⟨g1, g2⟩, g3⟩, g4⟩, g5⟩, g6⟩ := h5
  simp [Cond.before, Cond.holds, Cond.value, h1, h2, h3, h4, g1, g2, g3, g4, g5, g6]
def isCode : Jvm.Cond → Bool
  | .code _ _ _ _ => true
  | _ => false
theorem all_split {L : List Jvm.Cond} {P : Jvm.Cond → Bool} (h1 : L.all (fun c => isCode c || P c) = true) (h2 : ∀ c ∈ L.filter isCode, P c = true) : L.all P = true := by
  refine List.all_eq_true.mpr fun c hc => ?_
  have h := List.all_eq_true.mp h1 c hc
  rcases Bool.eq_false_or_eq_true (isCode c) with hi | hi
  · exact h2 c (List.mem_filter.mpr ⟨hc, hi⟩)
  · simpa [hi] using h
set_option maxRecDepth 65536 in
theorem w_c0 : (Jvm.Cond.code x code maxLocals ret).before args0 about1 = true := code_word (m := ⟨1, 1⟩) (meth := k1m1) (c := k1c1) (by decide +kernel) rfl rfl rfl (by decide +kernel)
set_option maxRecDepth 65536 in
theorem w_c1 : (Jvm.Cond.code ({ cls := "com/example/cairnstore/cairnstore/store/VersionNumber", name := "follows", desc := "(JJ)Z" } : Jvm.MethodName) prog_49_method_5_code (4 : Nat) (Option.some Jvm.ClassFile.FieldType.boolean)).before args0 about1 = true := code_word (m := ⟨2, 3⟩) (meth := k2m3) (c := k2c3) (by decide +kernel) rfl rfl rfl (by decide +kernel)
set_option maxRecDepth 65536 in
theorem w_c2 : (Jvm.Cond.code ({ cls := "com/example/cairnstore/cairnstore/store/VersionNumber", name := "generation", desc := "(J)J" } : Jvm.MethodName) prog_49_method_2_code (2 : Nat) (Option.some Jvm.ClassFile.FieldType.long)).before args0 about1 = true := code_word (m := ⟨2, 1⟩) (meth := k2m1) (c := k2c1) (by decide +kernel) rfl rfl rfl (by decide +kernel)
set_option maxRecDepth 65536 in
theorem w_c3 : (Jvm.Cond.code ({ cls := "com/example/cairnstore/cairnstore/store/VersionNumber", name := "sequence", desc := "(J)J" } : Jvm.MethodName) prog_49_method_3_code (2 : Nat) (Option.some Jvm.ClassFile.FieldType.long)).before args0 about1 = true := code_word (m := ⟨2, 2⟩) (meth := k2m2) (c := k2c2) (by decide +kernel) rfl rfl rfl (by decide +kernel)
def codes1 : List Jvm.Cond := [Jvm.Cond.code x code maxLocals ret, Jvm.Cond.code ({ cls := "com/example/cairnstore/cairnstore/store/VersionNumber", name := "follows", desc := "(JJ)Z" } : Jvm.MethodName) prog_49_method_5_code (4 : Nat) (Option.some Jvm.ClassFile.FieldType.boolean), Jvm.Cond.code ({ cls := "com/example/cairnstore/cairnstore/store/VersionNumber", name := "generation", desc := "(J)J" } : Jvm.MethodName) prog_49_method_2_code (2 : Nat) (Option.some Jvm.ClassFile.FieldType.long), Jvm.Cond.code ({ cls := "com/example/cairnstore/cairnstore/store/VersionNumber", name := "sequence", desc := "(J)J" } : Jvm.MethodName) prog_49_method_3_code (2 : Nat) (Option.some Jvm.ClassFile.FieldType.long)]
set_option maxRecDepth 65536 in
theorem codes_eq : words1.filter isCode = codes1 := rfl
theorem w_codes : ∀ c ∈ words1.filter isCode, c.before args0 about1 = true := by
  rw [codes_eq]
  intro c hc
  simp only [codes1, List.mem_cons, List.not_mem_nil, or_false] at hc
  rcases hc with rfl | rfl | rfl | rfl
  · exact w_c0
  · exact w_c1
  · exact w_c2
  · exact w_c3
set_option maxRecDepth 65536 in
theorem w_t1 : words1.all (fun c => isCode c || c.before args0 about1) = true := by decide +kernel
theorem w_tables : (allAtoms (Jvm.Cond.code x code maxLocals ret :: tables_1)).before args0 about1 = true := by
  rw [allAtoms_all]
  show words1.all (fun c => c.before args0 about1) = true
  refine all_split ?_ w_codes
  rw [w_t1]
set_option maxRecDepth 65536 in
theorem w_case : (Jvm.Cond.and given_1 narrow_1).before args0 about1 = true := by decide +kernel
theorem w_applies : (headSpec (Jvm.Cond.code x code maxLocals ret :: tables_1) room_1).applies x e0.platform about1 = true :=
  (Spec.applies_iff w_frames).mpr ⟨w_running, w_runnable, w_alone, w_named, w_hears, w_ripe, w_room, w_tables⟩
theorem atStart : AtStart classFile x code maxLocals ret World_1 tables_1 room_1 Calls_1 rest_1 Pre_1 launch0 p0 e0 about1 theMethod args0 below0 :=
  ⟨lists_1, trivial, launch0.admits_env _ _ _, launch0.least_env, fairChoices_fair.cas, fairChoices_fair.clock, w_frames, w_args, w_heap, w_applies, trivial, trivial, w_case⟩
end start1
theorem witness_1 : WitnessClaimed_1 := ⟨start1.p0, start1.e0, start1.about1, start1.theMethod, start1.args0, start1.below0, start1.atStart⟩
end Jvm.Pilot.@@N@@
