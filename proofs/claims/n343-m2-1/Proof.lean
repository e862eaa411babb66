import JvmDerived
import JvmDerived.Pilot.@@N@@Statement
import JvmDerived.Pilot.@@N@@Code
set_option linter.unusedVariables false
set_option linter.unusedSimpArgs false

namespace Jvm.Pilot.@@N@@
open Jvm Jvm.ClassFile Sem Op Lib Jvm.Free Jvm.Stand Jvm.LawKit Jvm.RoadKit Bundle Jvm.Pilot.@@N@@.Jvm.D
/-! own layer: 'from here the run ends, and Q holds of what it leaves' (own_Dn), stepped backwards -/
def own_Dn (p : Program) (e : Env) (below : List Frame) (s : State) (Q : Option Value → Heap → List Loc → Prop) (K N : Nat) (A : State) : Prop :=
  ∃ s₂ o, Steps p.tables e below A s₂ ∧ s₂.status = .running ∧ Ended s₂ below o ∧ ∃ v L, o = .returned v ∧ Q v s₂.heap L ∧ FrameEnd s o s₂ L K N
def own_Q (r : Option Value) (n0 : Nat) (h0 : Heap) (v : Option Value) (h : Heap) (L : List Loc) : Prop := v = r ∧ Fr n0 L ∧ h = h0
def own_QL (r : Option Value) (n0 : Nat) (v : Option Value) (h : Heap) (L : List Loc) : Prop := v = r ∧ Fr n0 L
def own_Cx (p : Program) (s : State) (m : MethodId) (meth : Method) (c : Code) (Z : State) (a0 : Array Value) (bytes : ByteArray) (ml : Nat) (own nm : String) (ret : Option FieldType) : Prop :=
  p.tables.exec = Jvm.exec ∧ Z.Warmed39 s.vm ∧ (∀ d ∈ tables_1, d.before a0 Z = true) ∧ c.code = bytes ∧ c.maxLocals = ml ∧ s.vm.findClass own = some m.cls ∧ meth.sig.returnType = ret ∧ meth.locks = false ∧ meth.name = nm
theorem own_st {p : Program} {e : Env} {below : List Frame} {s : State} {Q : Option Value → Heap → List Loc → Prop} {K N : Nat} {A B : State} (k : ∀ t, Steps p.tables e below B t → Steps p.tables e below A t) (d : own_Dn p e below s Q K N B) : own_Dn p e below s Q K N A := by
  obtain ⟨s₂, o, h, r⟩ := d
  exact ⟨s₂, o, k _ h, r⟩
theorem own_tr {p : Program} {e : Env} {below : List Frame} {s : State} {Q : Option Value → Heap → List Loc → Prop} {K N : Nat} {A B : State} (k : Steps p.tables e below A B) (d : own_Dn p e below s Q K N B) : own_Dn p e below s Q K N A :=
  own_st (fun _ h => k.trans h) d
section own
variable {p : Program} {l : Launch} {e : Env} {R : Room} {s : State} {m : MethodId} {args : Array Value} {below : List Frame} {meth : Method} {c : Code} {T : State} {locs : List Loc} {cells slots : Nat} {Q : Option Value → Heap → List Loc → Prop} {K N : Nat}
theorem own_ret (X : Stand p l e R s m args below meth c T locs cells slots) (hlk : meth.locks = false) {v : Option Value} (hv : meth.sig.returnType = none → v = none) {A : State} (hK : cells ≤ K) (hN : slots ≤ N) (hq : Q v T.heap locs)
    (hst : ∀ fs, (∀ (f : JFrame) (acts : List Action), f.method = m → f.locked = none → f.entered = [] → (doReturn e (T.setTop f) acts v).1 = T.setFrames fs) → Steps p.tables e below A (T.setFrames fs)) : own_Dn p e below s Q K N A := by
  obtain ⟨fs, hr, hrun, hended, hW, hsame⟩ := X.leave (v := v) hv hlk
  exact ⟨_, _, hst fs hr, hrun, hended, _, _, rfl, hq, ⟨_, rfl⟩, hW, hsame.mono hK hN⟩
theorem own_retI (X : Stand p l e R s m args below meth c T locs cells slots) (hx : p.tables.exec = Jvm.exec) (hret : meth.sig.returnType = some .int) (hlk : meth.locks = false) {pc : Nat} {Ls : Array Slot} {z : Int32} {rest : List Value} (hd : decode c.code pc = .ok (.ireturn, 1)) (hK : cells ≤ K) (hN : slots ≤ N)
    (hq : Q (some (.int z)) T.heap locs) : own_Dn p e below s Q K N (T.setTop (mkF m pc Ls (.int z :: rest))) :=
  own_ret X hlk (fun h => by rw [hret] at h; cases h) hK hN hq (fun fs hr => retOut X hx hret rfl (Or.inl ⟨rfl, Or.inl rfl, _, rfl⟩) hd hr)
theorem own_retJ (X : Stand p l e R s m args below meth c T locs cells slots) (hx : p.tables.exec = Jvm.exec) (hret : meth.sig.returnType = some .long) (hlk : meth.locks = false) {pc : Nat} {Ls : Array Slot} {z : Int64} {rest : List Value} (hd : decode c.code pc = .ok (.lreturn, 1)) (hK : cells ≤ K) (hN : slots ≤ N)
    (hq : Q (some (.long z)) T.heap locs) : own_Dn p e below s Q K N (T.setTop (mkF m pc Ls (.long z :: rest))) :=
  own_ret X hlk (fun h => by rw [hret] at h; cases h) hK hN hq (fun fs hr => retOut X hx hret rfl (Or.inr (Or.inl ⟨rfl, rfl, _, rfl⟩)) hd hr)
theorem own_retZ (X : Stand p l e R s m args below meth c T locs cells slots) (hx : p.tables.exec = Jvm.exec) (hret : meth.sig.returnType = some .boolean) (hlk : meth.locks = false) {pc : Nat} {Ls : Array Slot} {z : Int32} {rest : List Value} (hz : z &&& 1 = z) (hd : decode c.code pc = .ok (.ireturn, 1)) (hK : cells ≤ K) (hN : slots ≤ N)
    (hq : Q (some (.int z)) T.heap locs) : own_Dn p e below s Q K N (T.setTop (mkF m pc Ls (.int z :: rest))) :=
  own_ret X hlk (fun h => by rw [hret] at h; cases h) hK hN hq (fun fs hr => retOut X hx (w := .int z) hret (show Value.int (z &&& 1) = .int z from congrArg Value.int hz) (Or.inl ⟨rfl, Or.inr (Or.inl rfl), _, rfl⟩) hd hr)
theorem own_retV (X : Stand p l e R s m args below meth c T locs cells slots) (hx : p.tables.exec = Jvm.exec) (hret : meth.sig.returnType = none) (hlk : meth.locks = false) {pc : Nat} {Ls : Array Slot} (hd : decode c.code pc = .ok (.return_, 1)) (hK : cells ≤ K) (hN : slots ≤ N)
    (hq : Q none T.heap locs) : own_Dn p e below s Q K N (T.setTop (mkF m pc Ls [])) :=
  own_ret X hlk (fun _ => rfl) hK hN hq (fun fs hr => X.returnOut hx hret hd hr)
theorem own_retA (X : Stand p l e R s m args below meth c T locs cells slots) (hx : p.tables.exec = Jvm.exec) {t : FieldType} (ht : t.isReference = true) (hret : meth.sig.returnType = some t) (hlk : meth.locks = false) {pc : Nat} {Ls : Array Slot} {w : Value} {rest : List Value} (hw : w.isRef = true) (hn : narrow t w = w) (hd : decode c.code pc = .ok (.areturn, 1)) (hK : cells ≤ K) (hN : slots ≤ N)
    (hq : Q (some w) T.heap locs) : own_Dn p e below s Q K N (T.setTop (mkF m pc Ls (w :: rest))) :=
  own_ret X hlk (fun h => by rw [hret] at h; cases h) hK hN hq (fun fs hr => retOut X hx hret hn (Or.inr (Or.inr (Or.inr (Or.inr ⟨rfl, ht, hw⟩)))) hd hr)
end own
theorem own_met {l : Launch} {Z : State} {a0 : Array Value} (hw : ∀ d ∈ tables_1, d.before a0 Z = true) {y : MethodName} {bytes : ByteArray} {ml : Nat} {ret : Option FieldType} {ws : List Jvm.Cond} {rm : Room} {as' : Array Value} {h0 : Heap} {Q : Option Value → Heap → List Loc → Prop} (hpl : plainFor y = true)
    (body : ∀ p e s m below meth c s₁, own_Cx p s m meth c Z a0 bytes ml y.cls y.name ret → Stand p l e rm s m as' below meth c s₁ [] 0 0 → s₁.heap = h0 → own_Dn p e below s Q rm.cells rm.slots (s₁.setTop (entryFrame m as' ml))) :
    MetFree l y (head1 (Jvm.Cond.code y bytes ml ret :: ws) rm) (fun a U => a = as' ∧ Z.Warmed39 U.vm ∧ U.heap = h0) (fun _ _ _ _ _ => True) (fun _ U o U' => ∃ v L, o = .returned v ∧ Q v U'.heap L ∧ FrameEnd U o U' L rm.cells rm.slots) := by
  refine MetFree.of_bodySF hpl hisR ?_
  intro p e s m args below meth c s₁ Bd hml0 hP hK
  obtain ⟨rfl, hZ, hh⟩ := hP
  exact body p e s m below meth c s₁ ⟨Bd.exec, hZ, hw, Bd.bytes, hml0, findClass_of_methodNamed Bd.named, Bd.returns, BodyLoose.notSynchronized Bd, (name_of_methodNamed Bd.named Bd.method).1⟩ (Stand.of_body Bd) (by rw [← hh, Bd.state]; rfl)
theorem own_jtlt {x y : Int64} (h : x < y) : ifCond.holds .lt (lcmpW x y) = true ∧ ifCond.holds .ge (lcmpW x y) = false ∧ ifCond.holds .gt (lcmpW y x) = true ∧ ifCond.holds .le (lcmpW y x) = false := by
  have h1 : lcmpW x y < 0 := by rw [lcW]; exact (lc_lt x y).mpr h
  have h2 : 0 < lcmpW y x := by rw [lcW]; exact (lc_gt y x).mpr h
  exact ⟨(if0 _ _).trans (tlt h1).1, (if0 _ _).trans (tlt h1).2.1, (if0 _ _).trans (tlt h2).2.2.1, (if0 _ _).trans (tlt h2).2.2.2⟩
theorem own_jflt {x y : Int64} (h : ¬ x < y) : ifCond.holds .lt (lcmpW x y) = false ∧ ifCond.holds .ge (lcmpW x y) = true ∧ ifCond.holds .gt (lcmpW y x) = false ∧ ifCond.holds .le (lcmpW y x) = true := by
  have h1 : ¬ lcmpW x y < 0 := by rw [lcW]; exact fun q => h ((lc_lt x y).mp q)
  have h2 : ¬ 0 < lcmpW y x := by rw [lcW]; exact fun q => h ((lc_gt y x).mp q)
  exact ⟨(if0 _ _).trans (flt h1).1, (if0 _ _).trans (flt h1).2.1, (if0 _ _).trans (flt h2).2.2.1, (if0 _ _).trans (flt h2).2.2.2⟩
theorem own_jteq {x y : Int64} (h : x = y) : ifCond.holds .eq (lcmpW x y) = true ∧ ifCond.holds .ne (lcmpW x y) = false := by
  have h1 : lcmpW x y = 0 := by rw [lcW]; exact (lc_eq x y).mpr h
  exact ⟨(if0 _ _).trans (teq h1).1, (if0 _ _).trans (teq h1).2⟩
theorem own_jfeq {x y : Int64} (h : ¬ x = y) : ifCond.holds .eq (lcmpW x y) = false ∧ ifCond.holds .ne (lcmpW x y) = true := by
  have h1 : ¬ lcmpW x y = 0 := by rw [lcW]; exact fun q => h ((lc_eq x y).mp q)
  exact ⟨(if0 _ _).trans (feq h1).1, (if0 _ _).trans (feq h1).2⟩
theorem own_miss (a : Int32) (ks : List Int32) (h : ∀ k ∈ ks, ¬ a = k) {ps : List (Int × Int)} (e : ps.map (·.1) = ks.map Int32.toInt) : ∀ p ∈ ps, p.1 ≠ a.toInt := by
  intro p hp q
  have h1 : p.1 ∈ ps.map (·.1) := List.mem_map.mpr ⟨p, hp, rfl⟩
  rw [e] at h1
  obtain ⟨k, hk, r⟩ := List.mem_map.mp h1
  exact h k hk (Int32.toInt_inj.mp (q.symm.trans r.symm))
theorem own_Sta_keep {Z : State} {h h' : Heap} {C n d : String} {v : Value} {a : Addr} {C' : String} (F : Sta Z h C n d v) (K : Keep h h' [a]) (E : Exa Z h a C') : Sta Z h' C n d v := by
  obtain ⟨cf, i, k, f, st, cell, h1, h2, h3, h4, h5, h6, h7⟩ := F
  obtain ⟨cl, k', e1, -, -, e4, -⟩ := E
  refine ⟨cf, i, k, f, st, cell, h1, h2, h3, h4, K.2.1 _ _ h5 (ninS (fun q => ?_) nin0), h6, h7⟩
  subst q
  cases h5.symm.trans e1
  rw [h6] at e4; cases e4
theorem own_Sta_keep0 {Z : State} {h h' : Heap} {C n d : String} {v : Value} (F : Sta Z h C n d v) (K : Keep h h' []) : Sta Z h' C n d v := by
  obtain ⟨cf, i, k, f, st, cell, h1, h2, h3, h4, h5, h6, h7⟩ := F
  exact ⟨cf, i, k, f, st, cell, h1, h2, h3, h4, K.2.1 _ _ h5 nin0, h6, h7⟩
theorem own_ne_or {r x : Addr} {ws : List Addr} {H : Heap} (h : r ∈ ws ∨ H.size ≤ r) (hl : x < H.size) (hn : x ∉ ws) : x ≠ r := fun e => h.elim (fun q => hn (e ▸ q)) (fun q => Nat.lt_irrefl _ (Nat.lt_of_lt_of_le (e ▸ hl) q))
theorem own_or_up {r : Addr} {ws ws' : List Addr} {h0 H : Heap} (h : r ∈ ws ∨ H.size ≤ r) (hk : h0.size ≤ H.size) (all : ∀ x ∈ ws, x ∈ ws' ∨ h0.size ≤ x) : r ∈ ws' ∨ h0.size ≤ r := h.elim (all r) (fun q => Or.inr (Nat.le_trans hk q))
theorem own_selp {Z s : State} {a0 args : Array Value} {y : MethodName} {n : Nat} (hZ : Z.Warmed39 s.vm) (w1 : (Cond.instantiable y.cls n).before a0 Z = true) (w2 : (Cond.instanceMethod y).before a0 Z = true) (w3 : (Cond.privateMethod y).before a0 Z = true) (hy : y.cls ≠ "java/lang/invoke/MethodHandle" ∧ y.cls ≠ "java/lang/invoke/VarHandle") : (Cond.selects y.cls y y).before args s = true := by
  have i1 : (Cond.instantiable y.cls n).before args s = true := mvT hZ w1
  obtain ⟨c, k, h1, h2, -, h4, -, -⟩ := Cond.instantiable_spec i1
  have h5 : k.isInterface = false := by
    cases hk : k.isInterface
    · rfl
    · rw [hk] at h4; simp at h4
  exact selects_self_of_private h1 h2 h5 (Cond.privateMethod_at (mvP hZ w3 (args := args))) (mvT hZ w2) hy

theorem own_pd0 : parseMethodDescriptor "(JJ)V" = some ⟨[.long, .long], none⟩ := by decide +kernel
theorem own_pd1 : parseMethodDescriptor "(J)Z" = some ⟨[.long], some .boolean⟩ := by decide +kernel
theorem ti_d0 : decode prog_48_method_1_code 0 = .ok (.aload_n 0, 1) := by decide +kernel
theorem ti_d1 : decode prog_48_method_1_code 1 = .ok (.invokespecial 3, 3) := by decide +kernel
theorem ti_d4 : decode prog_48_method_1_code 4 = .ok (.aload_n 0, 1) := by decide +kernel
theorem ti_d5 : decode prog_48_method_1_code 5 = .ok (.lload_n 1, 1) := by decide +kernel
theorem ti_d6 : decode prog_48_method_1_code 6 = .ok (.putfield 9, 3) := by decide +kernel
theorem ti_d9 : decode prog_48_method_1_code 9 = .ok (.aload_n 0, 1) := by decide +kernel
theorem ti_d10 : decode prog_48_method_1_code 10 = .ok (.lload_n 3, 1) := by decide +kernel
theorem ti_d11 : decode prog_48_method_1_code 11 = .ok (.putfield 15, 3) := by decide +kernel
theorem ti_d14 : decode prog_48_method_1_code 14 = .ok (.return_, 1) := by decide +kernel
def ti_Q (Z : State) (b0 : Addr) (q1 : Int64) (q2 : Int64) (h0 : Heap) (n0 : Nat) (v : Option Value) (h : Heap) (L : List Loc) : Prop := v = none ∧ Fr n0 L ∧ Keep h0 h [b0] ∧ Exa Z h b0 "com/example/tally_flows/tallyflows/charging/TimeWindow" ∧ Fld Z h b0 "com/example/tally_flows/tallyflows/charging/TimeWindow" "start" "J" (.long q1) ∧ Fld Z h b0 "com/example/tally_flows/tallyflows/charging/TimeWindow" "end" "J" (.long q2)
set_option maxRecDepth 65536 in
set_option maxHeartbeats 40000000 in
theorem ti_c0 {l : Launch} {Z : State} {a0 : Array Value} {b0 : Addr} {q1 : Int64} {q2 : Int64} {h0 : Heap} {n0 : Nat} {p : Program} {e : Env} {s : State} {m : MethodId} {args : Array Value} {below : List Frame} {meth : Method} {c : Code} {T0 : State} {locs : List Loc} (C0 : own_Cx p s m meth c Z a0 prog_48_method_1_code 5 "com/example/tally_flows/tallyflows/charging/TimeWindow" "<init>" none) (X0 : Stand p l e ({ frames := 1, cells := 0, slots := 0, locals := 12 } : Room) s m args below meth c T0 locs 0 0) (e0 : T0.heap = h0) (N0 : Fr n0 locs)  (Z0 : n0 ≤ h0.size) (P0 : Exa Z h0 b0 "com/example/tally_flows/tallyflows/charging/TimeWindow") (P1 : Fld Z h0 b0 "com/example/tally_flows/tallyflows/charging/TimeWindow" "start" "J" (.long (0 : Int64))) (P2 : Fld Z h0 b0 "com/example/tally_flows/tallyflows/charging/TimeWindow" "end" "J" (.long (0 : Int64))) (ge_b0 : n0 ≤ b0) :
    own_Dn p e below s (ti_Q Z b0 q1 q2 h0 n0) ({ frames := 1, cells := 0, slots := 0, locals := 12 } : Room).cells ({ frames := 1, cells := 0, slots := 0, locals := 12 } : Room).slots (T0.setTop (mkF m 0 #[.val (.ref b0), .val (.long q1), .second, .val (.long q2), .second] [])) := by
  obtain ⟨hx, hZ, hw, hby, hml, hown, hret, hlk, hnm⟩ := id C0
  refine own_st (fun _ k => XS.aloadN X0.here hx rfl (hb hby ti_d0) rfl rfl k) ?_
  show own_Dn p e below s _ _ _ (T0.setTop (mkF m 1 #[.val (.ref b0), .val (.long q1), .second, .val (.long q2), .second] [(.ref b0)]))
  obtain ⟨T14, X14, e14, st14⟩ := initO X0 hx hZ hown (hw _ (List.mem_of_getElem? (i := 7) rfl)) (hw _ (List.mem_of_getElem? (i := 8) rfl)) (hw _ (List.mem_of_getElem? (i := 9) rfl)) e0 (g := (mkF m 1 #[.val (.ref b0), .val (.long q1), .second, .val (.long q2), .second] [(.ref b0)])) rfl (by rw [hml]; rfl) rfl (hb hby ti_d1) (by decide) (W := 0) (by show 2 * 0 + _ ≤ _; exact Nat.le_of_eq rfl) (by decide)
  refine own_st st14 ?_
  show own_Dn p e below s _ _ _ (T14.setTop (mkF m 4 #[.val (.ref b0), .val (.long q1), .second, .val (.long q2), .second] []))
  refine own_st (fun _ k => XS.aloadN X14.here hx rfl (hb hby ti_d4) rfl rfl (XS.lloadN X14.here hx rfl (hb hby ti_d5) rfl k)) ?_
  show own_Dn p e below s _ _ _ (T14.setTop (mkF m 6 #[.val (.ref b0), .val (.long q1), .second, .val (.long q2), .second] [(.long q1), (.ref b0)]))
  obtain ⟨T15, h15, X15, e15, W15, st15⟩ := putF X14 hx hZ hown (host := "") (Or.inl (hw _ (List.mem_of_getElem? (i := 10) rfl))) Via.refl e14 P1 P0 (Or.inr ⟨(hw _ (List.mem_of_getElem? (i := 11) rfl)), rfl, hnm⟩) (hw _ (List.mem_of_getElem? (i := 2) rfl)) (ty := .long) (by decide) rfl rfl (g := (mkF m 6 #[.val (.ref b0), .val (.long q1), .second, .val (.long q2), .second] [(.long q1), (.ref b0)])) rfl rfl (hb hby ti_d6)
  have N15 := Fr.snoc X15 N0 ge_b0
  have F16 : n0 ≤ h15.size := Nat.le_trans Z0 (Keep.of_wr W15).1
  have F17 : Exa Z h15 b0 "com/example/tally_flows/tallyflows/charging/TimeWindow" := P0.wr W15
  have F18 : Fld Z h15 b0 "com/example/tally_flows/tallyflows/charging/TimeWindow" "start" "J" (.long q1) := P1.same W15
  have F19 : Fld Z h15 b0 "com/example/tally_flows/tallyflows/charging/TimeWindow" "end" "J" (.long (0 : Int64)) := P2.other W15 (Or.inr (slot_ne (Or.inr (hw _ (List.mem_of_getElem? (i := 13) rfl))) (Or.inr (hw _ (List.mem_of_getElem? (i := 11) rfl))) (by decide) (t := .long) (t' := .long) (by decide) (by decide)))
  have F20 : Keep h0 h15 [b0] := (Keep.refl h0 [b0]).wr W15 (Or.inl (List.mem_of_getElem? (i := 0) rfl))
  refine own_st st15 ?_
  show own_Dn p e below s _ _ _ (T15.setTop (mkF m 9 #[.val (.ref b0), .val (.long q1), .second, .val (.long q2), .second] []))
  refine own_st (fun _ k => XS.aloadN X15.here hx rfl (hb hby ti_d9) rfl rfl (XS.lloadN X15.here hx rfl (hb hby ti_d10) rfl k)) ?_
  show own_Dn p e below s _ _ _ (T15.setTop (mkF m 11 #[.val (.ref b0), .val (.long q1), .second, .val (.long q2), .second] [(.long q2), (.ref b0)]))
  obtain ⟨T21, h21, X21, e21, W21, st21⟩ := putF X15 hx hZ hown (host := "") (Or.inl (hw _ (List.mem_of_getElem? (i := 12) rfl))) Via.refl e15 F19 F17 (Or.inr ⟨(hw _ (List.mem_of_getElem? (i := 13) rfl)), rfl, hnm⟩) (hw _ (List.mem_of_getElem? (i := 2) rfl)) (ty := .long) (by decide) rfl rfl (g := (mkF m 11 #[.val (.ref b0), .val (.long q1), .second, .val (.long q2), .second] [(.long q2), (.ref b0)])) rfl rfl (hb hby ti_d11)
  have N21 := Fr.snoc X21 N15 ge_b0
  have F22 : n0 ≤ h21.size := Nat.le_trans F16 (Keep.of_wr W21).1
  have F23 : Exa Z h21 b0 "com/example/tally_flows/tallyflows/charging/TimeWindow" := F17.wr W21
  have F24 : Fld Z h21 b0 "com/example/tally_flows/tallyflows/charging/TimeWindow" "start" "J" (.long q1) := F18.other W21 (Or.inr (slot_ne (Or.inr (hw _ (List.mem_of_getElem? (i := 11) rfl))) (Or.inr (hw _ (List.mem_of_getElem? (i := 13) rfl))) (by decide) (t := .long) (t' := .long) (by decide) (by decide)))
  have F25 : Fld Z h21 b0 "com/example/tally_flows/tallyflows/charging/TimeWindow" "end" "J" (.long q2) := F19.same W21
  have F26 : Keep h0 h21 [b0] := F20.wr W21 (Or.inl (List.mem_of_getElem? (i := 0) rfl))
  refine own_st st21 ?_
  show own_Dn p e below s _ _ _ (T21.setTop (mkF m 14 #[.val (.ref b0), .val (.long q1), .second, .val (.long q2), .second] []))
  have eqH : T21.heap = h21 := e21
  exact own_retV X21 hx hret hlk (hb hby ti_d14) (by decide) (by decide) (by rw [eqH]; exact ⟨rfl, N21, F26, F23, F24, F25⟩)
theorem ti_ef (m : MethodId) (b0 : Addr) (q1 : Int64) (q2 : Int64) : entryFrame m #[(.ref b0), (.long q1), (.long q2)] 5 = mkF m 0 #[.val (.ref b0), .val (.long q1), .second, .val (.long q2), .second] [] := by first | (simp [entryFrame, mkF, argsToLocals, Value.category]; done) | rfl
theorem ti_rm (l : Launch) (Z : State) (a0 : Array Value) (hw : ∀ d ∈ tables_1, d.before a0 Z = true) (ws : List Jvm.Cond) (b0 : Addr) (q1 : Int64) (q2 : Int64) (h0 : Heap) (n0 : Nat) (Z0 : n0 ≤ h0.size) (P0 : Exa Z h0 b0 "com/example/tally_flows/tallyflows/charging/TimeWindow") (P1 : Fld Z h0 b0 "com/example/tally_flows/tallyflows/charging/TimeWindow" "start" "J" (.long (0 : Int64))) (P2 : Fld Z h0 b0 "com/example/tally_flows/tallyflows/charging/TimeWindow" "end" "J" (.long (0 : Int64))) (ge_b0 : n0 ≤ b0) :
    MetFree l (⟨"com/example/tally_flows/tallyflows/charging/TimeWindow", "<init>", "(JJ)V"⟩ : MethodName) (head1 (Jvm.Cond.code (⟨"com/example/tally_flows/tallyflows/charging/TimeWindow", "<init>", "(JJ)V"⟩ : MethodName) prog_48_method_1_code 5 none :: ws) ({ frames := 1, cells := 0, slots := 0, locals := 12 } : Room)) (fun a U => a = #[(.ref b0), (.long q1), (.long q2)] ∧ Z.Warmed39 U.vm ∧ U.heap = h0) (fun _ _ _ _ _ => True) (fun _ U o U' => ∃ v L, o = .returned v ∧ (ti_Q Z b0 q1 q2 h0 n0) v U'.heap L ∧ FrameEnd U o U' L ({ frames := 1, cells := 0, slots := 0, locals := 12 } : Room).cells ({ frames := 1, cells := 0, slots := 0, locals := 12 } : Room).slots) :=
  own_met hw (plainFor_of_name (by first | (simp [plainName, overriddenIn]; done) | decide +kernel)) (fun p e s m below meth c T0 C0 X0 e0 => own_st (fun _ k => castTop (ti_ef m b0 q1 q2) k) (ti_c0 C0 X0 e0 (Fr.nil n0) Z0 P0 P1 P2 ge_b0))
theorem cn_d0 : decode prog_48_method_3_code 0 = .ok (.aload_n 0, 1) := by decide +kernel
theorem cn_d1 : decode prog_48_method_3_code 1 = .ok (.getfield 9, 3) := by decide +kernel
theorem cn_d4 : decode prog_48_method_3_code 4 = .ok (.lload_n 1, 1) := by decide +kernel
theorem cn_d5 : decode prog_48_method_3_code 5 = .ok (.lcmp, 1) := by decide +kernel
theorem cn_d6 : decode prog_48_method_3_code 6 = .ok (.ifCond .gt 27, 3) := by decide +kernel
theorem cn_d9 : decode prog_48_method_3_code 9 = .ok (.lload_n 1, 1) := by decide +kernel
theorem cn_d10 : decode prog_48_method_3_code 10 = .ok (.aload_n 0, 1) := by decide +kernel
theorem cn_d11 : decode prog_48_method_3_code 11 = .ok (.getfield 15, 3) := by decide +kernel
theorem cn_d14 : decode prog_48_method_3_code 14 = .ok (.lcmp, 1) := by decide +kernel
theorem cn_d15 : decode prog_48_method_3_code 15 = .ok (.ifCond .lt 14, 3) := by decide +kernel
theorem cn_d18 : decode prog_48_method_3_code 18 = .ok (.aload_n 0, 1) := by decide +kernel
theorem cn_d19 : decode prog_48_method_3_code 19 = .ok (.getfield 15, 3) := by decide +kernel
theorem cn_d22 : decode prog_48_method_3_code 22 = .ok (.ldc2_w 30, 3) := by decide +kernel
theorem cn_d25 : decode prog_48_method_3_code 25 = .ok (.lcmp, 1) := by decide +kernel
theorem cn_d26 : decode prog_48_method_3_code 26 = .ok (.ifCond .ne 7, 3) := by decide +kernel
theorem cn_d29 : decode prog_48_method_3_code 29 = .ok (.iconst 1, 1) := by decide +kernel
theorem cn_d30 : decode prog_48_method_3_code 30 = .ok (.goto 4, 3) := by decide +kernel
theorem cn_d33 : decode prog_48_method_3_code 33 = .ok (.iconst 0, 1) := by decide +kernel
theorem cn_d34 : decode prog_48_method_3_code 34 = .ok (.ireturn, 1) := by decide +kernel
def cn_f (q1 : Int64) (w_s : Int64) (w_e : Int64)  : Int32 :=
  if q1 < w_s then
    (0 : Int32)
  else
    if q1 < w_e then
      (1 : Int32)
    else
      if w_e = (9223372036854775807 : Int64) then
        (1 : Int32)
      else
        (0 : Int32)
set_option maxRecDepth 65536 in
set_option maxHeartbeats 40000000 in
theorem cn_c0 {l : Launch} {Z : State} {a0 : Array Value} {b0 : Addr} {q1 : Int64} {w_s : Int64} {w_e : Int64} {h0 : Heap} {n0 : Nat} {p : Program} {e : Env} {s : State} {m : MethodId} {args : Array Value} {below : List Frame} {meth : Method} {c : Code} {T0 : State} {locs : List Loc} {r0 : Int32} (C0 : own_Cx p s m meth c Z a0 prog_48_method_3_code 3 "com/example/tally_flows/tallyflows/charging/TimeWindow" "contains" (some .boolean)) (X0 : Stand p l e ({ frames := 0, cells := 0, slots := 0, locals := 0 } : Room) s m args below meth c T0 locs 0 0) (e0 : T0.heap = h0) (N0 : Fr n0 locs)  (Z0 : n0 ≤ h0.size) (P0 : Fld Z h0 b0 "com/example/tally_flows/tallyflows/charging/TimeWindow" "start" "J" (.long w_s)) (P1 : Fld Z h0 b0 "com/example/tally_flows/tallyflows/charging/TimeWindow" "end" "J" (.long w_e)) (hr0 : r0 = cn_f q1 w_s w_e ) :
    own_Dn p e below s (own_Q (some (.int r0)) n0 h0) ({ frames := 0, cells := 0, slots := 0, locals := 0 } : Room).cells ({ frames := 0, cells := 0, slots := 0, locals := 0 } : Room).slots (T0.setTop (mkF m 0 #[.val (.ref b0), .val (.long q1), .second] [])) := by
  obtain ⟨hx, hZ, hw, hby, hml, hown, hret, hlk, hnm⟩ := id C0
  refine own_st (fun _ k => XS.aloadN X0.here hx rfl (hb hby cn_d0) rfl rfl k) ?_
  show own_Dn p e below s _ _ _ (T0.setTop (mkF m 1 #[.val (.ref b0), .val (.long q1), .second] [(.ref b0)]))
  obtain ⟨T7, X7, e7, st7⟩ := getF X0 hx hZ hown (host := "") (Or.inl (hw _ (List.mem_of_getElem? (i := 10) rfl))) Via.refl e0 P0 (g := (mkF m 1 #[.val (.ref b0), .val (.long q1), .second] [(.ref b0)])) rfl rfl (hb hby cn_d1)
  refine own_st st7 ?_
  show own_Dn p e below s _ _ _ (T7.setTop (mkF m 4 #[.val (.ref b0), .val (.long q1), .second] [(.long w_s)]))
  refine own_st (fun _ k => XS.lloadN X7.here hx rfl (hb hby cn_d4) rfl (XS.lcmp X7.here hx rfl (hb hby cn_d5) rfl k)) ?_
  show own_Dn p e below s _ _ _ (T7.setTop (mkF m 6 #[.val (.ref b0), .val (.long q1), .second] [(.int (lcmpW w_s q1))]))
  by_cases hc8 : q1 < w_s
  · refine own_st (fun _ k => XS.ifYes X7.here hx rfl (pc0 := 6) (pc' := 33) rfl (hb hby cn_d6) rfl (own_jtlt hc8).2.2.1 (by decide) (by decide) k) ?_
    show own_Dn p e below s _ _ _ (T7.setTop (mkF m 33 #[.val (.ref b0), .val (.long q1), .second] []))
    refine own_st (fun _ k => XS.iconst X7.here hx rfl (hb hby cn_d33) k) ?_
    show own_Dn p e below s _ _ _ (T7.setTop (mkF m 34 #[.val (.ref b0), .val (.long q1), .second] [(.int (0 : Int32))]))
    exact own_retZ X7 hx hret hlk (by decide) (hb hby cn_d34) (by decide) (by decide) ⟨(by rw [hr0, cn_f, if_pos hc8]), N0, e7⟩
  · refine own_st (fun _ k => XS.ifNo X7.here hx rfl (hb hby cn_d6) rfl (own_jflt hc8).2.2.1 k) ?_
    show own_Dn p e below s _ _ _ (T7.setTop (mkF m 9 #[.val (.ref b0), .val (.long q1), .second] []))
    refine own_st (fun _ k => XS.lloadN X7.here hx rfl (hb hby cn_d9) rfl (XS.aloadN X7.here hx rfl (hb hby cn_d10) rfl rfl k)) ?_
    show own_Dn p e below s _ _ _ (T7.setTop (mkF m 11 #[.val (.ref b0), .val (.long q1), .second] [(.ref b0), (.long q1)]))
    obtain ⟨T9, X9, e9, st9⟩ := getF X7 hx hZ hown (host := "") (Or.inl (hw _ (List.mem_of_getElem? (i := 12) rfl))) Via.refl e7 P1 (g := (mkF m 11 #[.val (.ref b0), .val (.long q1), .second] [(.ref b0), (.long q1)])) rfl rfl (hb hby cn_d11)
    refine own_st st9 ?_
    show own_Dn p e below s _ _ _ (T9.setTop (mkF m 14 #[.val (.ref b0), .val (.long q1), .second] [(.long w_e), (.long q1)]))
    refine own_st (fun _ k => XS.lcmp X9.here hx rfl (hb hby cn_d14) rfl k) ?_
    show own_Dn p e below s _ _ _ (T9.setTop (mkF m 15 #[.val (.ref b0), .val (.long q1), .second] [(.int (lcmpW q1 w_e))]))
    by_cases hc10 : q1 < w_e
    · refine own_st (fun _ k => XS.ifYes X9.here hx rfl (pc0 := 15) (pc' := 29) rfl (hb hby cn_d15) rfl (own_jtlt hc10).1 (by decide) (by decide) k) ?_
      show own_Dn p e below s _ _ _ (T9.setTop (mkF m 29 #[.val (.ref b0), .val (.long q1), .second] []))
      refine own_st (fun _ k => XS.iconst X9.here hx rfl (hb hby cn_d29) (XS.goto X9.here hx rfl (pc0 := 30) (pc' := 34) rfl (hb hby cn_d30) (by decide) (by decide) k)) ?_
      show own_Dn p e below s _ _ _ (T9.setTop (mkF m 34 #[.val (.ref b0), .val (.long q1), .second] [(.int (1 : Int32))]))
      exact own_retZ X9 hx hret hlk (by decide) (hb hby cn_d34) (by decide) (by decide) ⟨(by rw [hr0, cn_f, if_neg hc8, if_pos hc10]), N0, e9⟩
    · refine own_st (fun _ k => XS.ifNo X9.here hx rfl (hb hby cn_d15) rfl (own_jflt hc10).1 k) ?_
      show own_Dn p e below s _ _ _ (T9.setTop (mkF m 18 #[.val (.ref b0), .val (.long q1), .second] []))
      refine own_st (fun _ k => XS.aloadN X9.here hx rfl (hb hby cn_d18) rfl rfl k) ?_
      show own_Dn p e below s _ _ _ (T9.setTop (mkF m 19 #[.val (.ref b0), .val (.long q1), .second] [(.ref b0)]))
      obtain ⟨T11, X11, e11, st11⟩ := getF X9 hx hZ hown (host := "") (Or.inl (hw _ (List.mem_of_getElem? (i := 12) rfl))) Via.refl e9 P1 (g := (mkF m 19 #[.val (.ref b0), .val (.long q1), .second] [(.ref b0)])) rfl rfl (hb hby cn_d19)
      refine own_st st11 ?_
      show own_Dn p e below s _ _ _ (T11.setTop (mkF m 22 #[.val (.ref b0), .val (.long q1), .second] [(.long w_e)]))
      refine own_st (fun _ k => X11.ldc2Long hx (index := 30) (v := (9223372036854775807 : Int64)) hown (mvT hZ (hw _ (List.mem_of_getElem? (i := 20) rfl))) (g := (mkF m 22 #[.val (.ref b0), .val (.long q1), .second] [(.long w_e)])) rfl (hb hby cn_d22) _ (XS.lcmp X11.here hx rfl (hb hby cn_d25) rfl k)) ?_
      show own_Dn p e below s _ _ _ (T11.setTop (mkF m 26 #[.val (.ref b0), .val (.long q1), .second] [(.int (lcmpW w_e (9223372036854775807 : Int64)))]))
      by_cases hc12 : w_e = (9223372036854775807 : Int64)
      · refine own_st (fun _ k => XS.ifNo X11.here hx rfl (hb hby cn_d26) rfl (own_jteq hc12).2 k) ?_
        show own_Dn p e below s _ _ _ (T11.setTop (mkF m 29 #[.val (.ref b0), .val (.long q1), .second] []))
        refine own_st (fun _ k => XS.iconst X11.here hx rfl (hb hby cn_d29) (XS.goto X11.here hx rfl (pc0 := 30) (pc' := 34) rfl (hb hby cn_d30) (by decide) (by decide) k)) ?_
        show own_Dn p e below s _ _ _ (T11.setTop (mkF m 34 #[.val (.ref b0), .val (.long q1), .second] [(.int (1 : Int32))]))
        exact own_retZ X11 hx hret hlk (by decide) (hb hby cn_d34) (by decide) (by decide) ⟨(by rw [hr0, cn_f, if_neg hc8, if_neg hc10, if_pos hc12]), N0, e11⟩
      · refine own_st (fun _ k => XS.ifYes X11.here hx rfl (pc0 := 26) (pc' := 33) rfl (hb hby cn_d26) rfl (own_jfeq hc12).2 (by decide) (by decide) k) ?_
        show own_Dn p e below s _ _ _ (T11.setTop (mkF m 33 #[.val (.ref b0), .val (.long q1), .second] []))
        refine own_st (fun _ k => XS.iconst X11.here hx rfl (hb hby cn_d33) k) ?_
        show own_Dn p e below s _ _ _ (T11.setTop (mkF m 34 #[.val (.ref b0), .val (.long q1), .second] [(.int (0 : Int32))]))
        exact own_retZ X11 hx hret hlk (by decide) (hb hby cn_d34) (by decide) (by decide) ⟨(by rw [hr0, cn_f, if_neg hc8, if_neg hc10, if_neg hc12]), N0, e11⟩
theorem cn_ef (m : MethodId) (b0 : Addr) (q1 : Int64) : entryFrame m #[(.ref b0), (.long q1)] 3 = mkF m 0 #[.val (.ref b0), .val (.long q1), .second] [] := by first | (simp [entryFrame, mkF, argsToLocals, Value.category]; done) | rfl
theorem cn_rm (l : Launch) (Z : State) (a0 : Array Value) (hw : ∀ d ∈ tables_1, d.before a0 Z = true) (ws : List Jvm.Cond) (b0 : Addr) (q1 : Int64) (w_s : Int64) (w_e : Int64) (h0 : Heap) (n0 : Nat) (Z0 : n0 ≤ h0.size) (P0 : Fld Z h0 b0 "com/example/tally_flows/tallyflows/charging/TimeWindow" "start" "J" (.long w_s)) (P1 : Fld Z h0 b0 "com/example/tally_flows/tallyflows/charging/TimeWindow" "end" "J" (.long w_e)) :
    MetFree l (⟨"com/example/tally_flows/tallyflows/charging/TimeWindow", "contains", "(J)Z"⟩ : MethodName) (head1 (Jvm.Cond.code (⟨"com/example/tally_flows/tallyflows/charging/TimeWindow", "contains", "(J)Z"⟩ : MethodName) prog_48_method_3_code 3 (some .boolean) :: ws) ({ frames := 0, cells := 0, slots := 0, locals := 0 } : Room)) (fun a U => a = #[(.ref b0), (.long q1)] ∧ Z.Warmed39 U.vm ∧ U.heap = h0) (fun _ _ _ _ _ => True) (fun _ U o U' => ∃ v L, o = .returned v ∧ (own_Q (some (.int (cn_f q1 w_s w_e))) n0 h0) v U'.heap L ∧ FrameEnd U o U' L ({ frames := 0, cells := 0, slots := 0, locals := 0 } : Room).cells ({ frames := 0, cells := 0, slots := 0, locals := 0 } : Room).slots) :=
  own_met hw (plainFor_of_name (by first | (simp [plainName, overriddenIn]; done) | decide +kernel)) (fun p e s m below meth c T0 C0 X0 e0 => own_st (fun _ k => castTop (cn_ef m b0 q1) k) (cn_c0 C0 X0 e0 (Fr.nil n0) Z0 P0 P1 rfl))
theorem lw_d0 : decode code 0 = .ok (.iload 6, 2) := by decide +kernel
theorem lw_d2 : decode code 2 = .ok (.iconst 1, 1) := by decide +kernel
theorem lw_d3 : decode code 3 = .ok (.iand, 1) := by decide +kernel
theorem lw_d4 : decode code 4 = .ok (.ifCond .eq 9, 3) := by decide +kernel
theorem lw_d7 : decode code 7 = .ok (.ldc2_w 9, 3) := by decide +kernel
theorem lw_d10 : decode code 10 = .ok (.goto 4, 3) := by decide +kernel
theorem lw_d13 : decode code 13 = .ok (.lload_n 0, 1) := by decide +kernel
theorem lw_d14 : decode code 14 = .ok (.lstore 7, 2) := by decide +kernel
theorem lw_d16 : decode code 16 = .ok (.iload 6, 2) := by decide +kernel
theorem lw_d18 : decode code 18 = .ok (.iconst 2, 1) := by decide +kernel
theorem lw_d19 : decode code 19 = .ok (.iand, 1) := by decide +kernel
theorem lw_d20 : decode code 20 = .ok (.ifCond .eq 9, 3) := by decide +kernel
theorem lw_d23 : decode code 23 = .ok (.ldc2_w 11, 3) := by decide +kernel
theorem lw_d26 : decode code 26 = .ok (.goto 4, 3) := by decide +kernel
theorem lw_d29 : decode code 29 = .ok (.lload_n 2, 1) := by decide +kernel
theorem lw_d30 : decode code 30 = .ok (.lstore 9, 2) := by decide +kernel
theorem lw_d32 : decode code 32 = .ok (.iload 6, 2) := by decide +kernel
theorem lw_d34 : decode code 34 = .ok (.iconst 2, 1) := by decide +kernel
theorem lw_d35 : decode code 35 = .ok (.iushr, 1) := by decide +kernel
theorem lw_d36 : decode code 36 = .ok (.bipush 7, 2) := by decide +kernel
theorem lw_d38 : decode code 38 = .ok (.iand, 1) := by decide +kernel
theorem lw_d39 : decode code 39 = .ok (.istore 11, 2) := by decide +kernel
theorem lw_d41 : decode code 41 = .ok (.lload 4, 2) := by decide +kernel
theorem lw_d43 : decode code 43 = .ok (.lstore 12, 2) := by decide +kernel
theorem lw_d45 : decode code 45 = .ok (.iload 11, 2) := by decide +kernel
theorem lw_d47 : decode code 47 = .ok (.iconst 1, 1) := by decide +kernel
theorem lw_d48 : decode code 48 = .ok (.if_icmp .ne 10, 3) := by decide +kernel
theorem lw_d51 : decode code 51 = .ok (.lload 7, 2) := by decide +kernel
theorem lw_d53 : decode code 53 = .ok (.lstore 12, 2) := by decide +kernel
theorem lw_d55 : decode code 55 = .ok (.goto 72, 3) := by decide +kernel
theorem lw_d58 : decode code 58 = .ok (.iload 11, 2) := by decide +kernel
theorem lw_d60 : decode code 60 = .ok (.iconst 2, 1) := by decide +kernel
theorem lw_d61 : decode code 61 = .ok (.if_icmp .ne 12, 3) := by decide +kernel
theorem lw_d64 : decode code 64 = .ok (.lload 7, 2) := by decide +kernel
theorem lw_d66 : decode code 66 = .ok (.lconst 1, 1) := by decide +kernel
theorem lw_d67 : decode code 67 = .ok (.lsub, 1) := by decide +kernel
theorem lw_d68 : decode code 68 = .ok (.lstore 12, 2) := by decide +kernel
theorem lw_d70 : decode code 70 = .ok (.goto 57, 3) := by decide +kernel
theorem lw_d73 : decode code 73 = .ok (.iload 11, 2) := by decide +kernel
theorem lw_d75 : decode code 75 = .ok (.iconst 3, 1) := by decide +kernel
theorem lw_d76 : decode code 76 = .ok (.if_icmp .ne 10, 3) := by decide +kernel
theorem lw_d79 : decode code 79 = .ok (.lload 9, 2) := by decide +kernel
theorem lw_d81 : decode code 81 = .ok (.lstore 12, 2) := by decide +kernel
theorem lw_d83 : decode code 83 = .ok (.goto 44, 3) := by decide +kernel
theorem lw_d86 : decode code 86 = .ok (.iload 11, 2) := by decide +kernel
theorem lw_d88 : decode code 88 = .ok (.iconst 4, 1) := by decide +kernel
theorem lw_d89 : decode code 89 = .ok (.if_icmp .ne 12, 3) := by decide +kernel
theorem lw_d92 : decode code 92 = .ok (.lload 9, 2) := by decide +kernel
theorem lw_d94 : decode code 94 = .ok (.lconst 1, 1) := by decide +kernel
theorem lw_d95 : decode code 95 = .ok (.lsub, 1) := by decide +kernel
theorem lw_d96 : decode code 96 = .ok (.lstore 12, 2) := by decide +kernel
theorem lw_d98 : decode code 98 = .ok (.goto 29, 3) := by decide +kernel
theorem lw_d101 : decode code 101 = .ok (.iload 11, 2) := by decide +kernel
theorem lw_d103 : decode code 103 = .ok (.iconst 5, 1) := by decide +kernel
theorem lw_d104 : decode code 104 = .ok (.if_icmp .ne 11, 3) := by decide +kernel
theorem lw_d107 : decode code 107 = .ok (.ldc2_w 11, 3) := by decide +kernel
theorem lw_d110 : decode code 110 = .ok (.lstore 12, 2) := by decide +kernel
theorem lw_d112 : decode code 112 = .ok (.goto 15, 3) := by decide +kernel
theorem lw_d115 : decode code 115 = .ok (.iload 11, 2) := by decide +kernel
theorem lw_d117 : decode code 117 = .ok (.bipush 6, 2) := by decide +kernel
theorem lw_d119 : decode code 119 = .ok (.if_icmp .ne 8, 3) := by decide +kernel
theorem lw_d122 : decode code 122 = .ok (.ldc2_w 9, 3) := by decide +kernel
theorem lw_d125 : decode code 125 = .ok (.lstore 12, 2) := by decide +kernel
theorem lw_d127 : decode code 127 = .ok (.new 13, 3) := by decide +kernel
theorem lw_d130 : decode code 130 = .ok (.dup, 1) := by decide +kernel
theorem lw_d131 : decode code 131 = .ok (.lload 7, 2) := by decide +kernel
theorem lw_d133 : decode code 133 = .ok (.lload 9, 2) := by decide +kernel
theorem lw_d135 : decode code 135 = .ok (.invokespecial 15, 3) := by decide +kernel
theorem lw_d138 : decode code 138 = .ok (.astore 14, 2) := by decide +kernel
theorem lw_d140 : decode code 140 = .ok (.aload 14, 2) := by decide +kernel
theorem lw_d142 : decode code 142 = .ok (.lload 12, 2) := by decide +kernel
theorem lw_d144 : decode code 144 = .ok (.invokevirtual 18, 3) := by decide +kernel
theorem lw_d147 : decode code 147 = .ok (.istore 15, 2) := by decide +kernel
theorem lw_d149 : decode code 149 = .ok (.lload 12, 2) := by decide +kernel
theorem lw_d151 : decode code 151 = .ok (.lload 7, 2) := by decide +kernel
theorem lw_d153 : decode code 153 = .ok (.lcmp, 1) := by decide +kernel
theorem lw_d154 : decode code 154 = .ok (.ifCond .ge 9, 3) := by decide +kernel
theorem lw_d157 : decode code 157 = .ok (.iconst 0, 1) := by decide +kernel
theorem lw_d158 : decode code 158 = .ok (.istore 16, 2) := by decide +kernel
theorem lw_d160 : decode code 160 = .ok (.goto 33, 3) := by decide +kernel
theorem lw_d163 : decode code 163 = .ok (.lload 9, 2) := by decide +kernel
theorem lw_d165 : decode code 165 = .ok (.ldc2_w 11, 3) := by decide +kernel
theorem lw_d168 : decode code 168 = .ok (.lcmp, 1) := by decide +kernel
theorem lw_d169 : decode code 169 = .ok (.ifCond .ne 9, 3) := by decide +kernel
theorem lw_d172 : decode code 172 = .ok (.iconst 1, 1) := by decide +kernel
theorem lw_d173 : decode code 173 = .ok (.istore 16, 2) := by decide +kernel
theorem lw_d175 : decode code 175 = .ok (.goto 18, 3) := by decide +kernel
theorem lw_d178 : decode code 178 = .ok (.lload 12, 2) := by decide +kernel
theorem lw_d180 : decode code 180 = .ok (.lload 9, 2) := by decide +kernel
theorem lw_d182 : decode code 182 = .ok (.lcmp, 1) := by decide +kernel
theorem lw_d183 : decode code 183 = .ok (.ifCond .ge 7, 3) := by decide +kernel
theorem lw_d186 : decode code 186 = .ok (.iconst 1, 1) := by decide +kernel
theorem lw_d187 : decode code 187 = .ok (.goto 4, 3) := by decide +kernel
theorem lw_d190 : decode code 190 = .ok (.iconst 0, 1) := by decide +kernel
theorem lw_d191 : decode code 191 = .ok (.istore 16, 2) := by decide +kernel
theorem lw_d193 : decode code 193 = .ok (.iload 15, 2) := by decide +kernel
theorem lw_d195 : decode code 195 = .ok (.iload 16, 2) := by decide +kernel
theorem lw_d197 : decode code 197 = .ok (.if_icmp .ne 7, 3) := by decide +kernel
theorem lw_d200 : decode code 200 = .ok (.iconst 1, 1) := by decide +kernel
theorem lw_d201 : decode code 201 = .ok (.goto 4, 3) := by decide +kernel
theorem lw_d204 : decode code 204 = .ok (.iconst 0, 1) := by decide +kernel
theorem lw_d205 : decode code 205 = .ok (.ireturn, 1) := by decide +kernel
def lw_f127 (q0 : Int64) (q1 : Int64) (q2 : Int64) (p3 : Int32) (v7 : Int64) (v9 : Int64) (v11 : Int32) (v12 : Int64) : Int32 :=
  if v12 < v7 then
    if (cn_f v12 v7 v9) = (0 : Int32) then
      (1 : Int32)
    else
      (0 : Int32)
  else
    if v9 = (9223372036854775807 : Int64) then
      if (cn_f v12 v7 v9) = (1 : Int32) then
        (1 : Int32)
      else
        (0 : Int32)
    else
      if v12 < v9 then
        if (cn_f v12 v7 v9) = (1 : Int32) then
          (1 : Int32)
        else
          (0 : Int32)
      else
        if (cn_f v12 v7 v9) = (0 : Int32) then
          (1 : Int32)
        else
          (0 : Int32)
set_option maxRecDepth 65536 in
set_option maxHeartbeats 40000000 in
theorem lw_c127 {l : Launch} {Z : State} {a0 : Array Value} {q0 : Int64} {q1 : Int64} {q2 : Int64} {p3 : Int32} {h0 : Heap} {n0 : Nat} {p : Program} {e : Env} {s : State} {m : MethodId} {args : Array Value} {below : List Frame} {meth : Method} {c : Code} {T0 : State} {locs : List Loc} {r0 : Int32} (C0 : own_Cx p s m meth c Z a0 code 17 "com/example/tally_flows/tallyflows/charging/TimeWindowContainsPinLaw" "law" (some .boolean)) (X0 : Stand p l e room_1 s m args below meth c T0 locs 0 0) (e0 : T0.heap = h0) (N0 : Fr n0 locs) (v7 : Int64) (v9 : Int64) (v11 : Int32) (v12 : Int64) (Z0 : n0 ≤ h0.size) (hr0 : r0 = lw_f127 q0 q1 q2 p3 v7 v9 v11 v12) :
    own_Dn p e below s (own_QL (some (.int r0)) n0) room_1.cells room_1.slots (T0.setTop (mkF m 127 #[.val (.long q0), .second, .val (.long q1), .second, .val (.long q2), .second, .val (.int p3), .val (.long v7), .second, .val (.long v9), .second, .val (.int v11), .val (.long v12), .second, .unset, .unset, .unset] [])) := by
  obtain ⟨hx, hZ, hw, hby, hml, hown, hret, hlk, hnm⟩ := id C0
  obtain ⟨T36, h36, X36, e36, E36, A36, D36, -, st36⟩ := newO X0 hx hZ hown (hw _ (List.mem_of_getElem? (i := 1) rfl)) (hw _ (List.mem_of_getElem? (i := 2) rfl)) (hw _ (List.mem_of_getElem? (i := 3) rfl)) e0 (g := (mkF m 127 #[.val (.long q0), .second, .val (.long q1), .second, .val (.long q2), .second, .val (.int p3), .val (.long v7), .second, .val (.long v9), .second, .val (.int v11), .val (.long v12), .second, .unset, .unset, .unset] [])) rfl (hb hby lw_d127) (by decide) (by decide)
  obtain ⟨o127, g36⟩ : ∃ z, z = h0.size := ⟨_, rfl⟩
  rw [← g36] at A36 D36 st36
  have ge37 : n0 ≤ o127 := Nat.le_trans Z0 (Nat.le_of_eq g36.symm)
  have F38 : n0 ≤ h36.size := Nat.le_trans Z0 E36.1
  have F39 : Fld Z h36 o127 "com/example/tally_flows/tallyflows/charging/TimeWindow" "start" "J" (.long (0 : Int64)) := D36 (Or.inr (hw _ (List.mem_of_getElem? (i := 11) rfl))) (ty := .long) (by decide)
  have F40 : Fld Z h36 o127 "com/example/tally_flows/tallyflows/charging/TimeWindow" "end" "J" (.long (0 : Int64)) := D36 (Or.inr (hw _ (List.mem_of_getElem? (i := 13) rfl))) (ty := .long) (by decide)
  refine own_st st36 ?_
  show own_Dn p e below s _ _ _ (T36.setTop (mkF m 130 #[.val (.long q0), .second, .val (.long q1), .second, .val (.long q2), .second, .val (.int p3), .val (.long v7), .second, .val (.long v9), .second, .val (.int v11), .val (.long v12), .second, .unset, .unset, .unset] [(.ref o127)]))
  refine own_st (fun _ k => XS.dup X36.here hx rfl (hb hby lw_d130) rfl rfl (XS.lload X36.here hx rfl (hb hby lw_d131) rfl (XS.lload X36.here hx rfl (hb hby lw_d133) rfl k))) ?_
  show own_Dn p e below s _ _ _ (T36.setTop (mkF m 135 #[.val (.long q0), .second, .val (.long q1), .second, .val (.long q2), .second, .val (.int p3), .val (.long v7), .second, .val (.long v9), .second, .val (.int v11), .val (.long v12), .second, .unset, .unset, .unset] [(.long v9), (.long v7), (.ref o127), (.ref o127)]))
  obtain ⟨_, _, ⟨T41, L41, k41, n41⟩, -, X41, ⟨Lc41, hQ41, l41, y41, z41⟩, st41⟩ := X36.specialBack hx (y := (⟨"com/example/tally_flows/tallyflows/charging/TimeWindow", "<init>", "(JJ)V"⟩ : MethodName)) rfl hown (mvT hZ (hw _ (List.mem_of_getElem? (i := 4) rfl))) (mvT hZ (hw _ (List.mem_of_getElem? (i := 5) rfl))) (mvT hZ (hw _ (List.mem_of_getElem? (i := 6) rfl))) (by decide) (backOf (W := 1) (ti_rm l Z a0 hw [] (o127) (v7) (v9) h36 n0 F38 A36 F39 F40 ge37) hZ (hw _ (List.mem_of_getElem? (i := 6) rfl)) (hw _ (List.mem_of_getElem? (i := 3) rfl)) (by decide) (by decide)) (g := (mkF m 135 #[.val (.long q0), .second, .val (.long q1), .second, .val (.long q2), .second, .val (.int p3), .val (.long v7), .second, .val (.long v9), .second, .val (.int v11), .val (.long v12), .second, .unset, .unset, .unset] [(.long v9), (.long v7), (.ref o127), (.ref o127)])) rfl (by rw [hml]; rfl) (Steps.refl _) (a := o127) (argsL := [(.long v7), (.long v9)]) (rest := [(.ref o127)]) (lenOf own_pd0 rfl) rfl (by show 2 * 0 + _ ≤ _; exact Nat.le_of_eq rfl) (hb hby lw_d135) (fun _ _ => ⟨rfl, e36, (by decide : 1 + 0 ≤ _), (by decide : 2 + 0 ≤ _)⟩)
  dsimp only [Pt.U, Pt.locs, Pt.cells, Pt.slots] at X41 l41 y41 z41 st41 hQ41
  subst l41 y41 z41
  obtain ⟨rfl, N41q, K41, G42, G43, G44⟩ := hQ41
  have F45 : n0 ≤ T41.heap.size := Nat.le_trans F38 K41.1
  have F46 : Exa Z T41.heap o127 "com/example/tally_flows/tallyflows/charging/TimeWindow" := A36.keep K41
  have N41 := Fr.app N0 N41q
  refine own_tr st41 ?_
  show own_Dn p e below s _ _ _ (T41.setTop (mkF m 138 #[.val (.long q0), .second, .val (.long q1), .second, .val (.long q2), .second, .val (.int p3), .val (.long v7), .second, .val (.long v9), .second, .val (.int v11), .val (.long v12), .second, .unset, .unset, .unset] [(.ref o127)]))
  refine own_st (fun _ k => XS.astore X41.here hx rfl (hb hby lw_d138) rfl rfl (l' := #[.val (.long q0), .second, .val (.long q1), .second, .val (.long q2), .second, .val (.int p3), .val (.long v7), .second, .val (.long v9), .second, .val (.int v11), .val (.long v12), .second, .val (.ref o127), .unset, .unset]) rfl (XS.aload X41.here hx rfl (hb hby lw_d140) rfl rfl (XS.lload X41.here hx rfl (hb hby lw_d142) rfl k))) ?_
  show own_Dn p e below s _ _ _ (T41.setTop (mkF m 144 #[.val (.long q0), .second, .val (.long q1), .second, .val (.long q2), .second, .val (.int p3), .val (.long v7), .second, .val (.long v9), .second, .val (.int v11), .val (.long v12), .second, .val (.ref o127), .unset, .unset] [(.long v12), (.ref o127)]))
  obtain ⟨cq47, kq47, q47a, q47b, q47c⟩ := isOf hZ rfl G42
  obtain ⟨_, _, ⟨T47, L47, k47, n47⟩, -, X47, ⟨Lc47, hQ47, l47, y47, z47⟩, st47⟩ := X41.virtualBack hx (y := (⟨"com/example/tally_flows/tallyflows/charging/TimeWindow", "contains", "(J)Z"⟩ : MethodName)) (z := (⟨"com/example/tally_flows/tallyflows/charging/TimeWindow", "contains", "(J)Z"⟩ : MethodName)) hown (mvT hZ (hw _ (List.mem_of_getElem? (i := 14) rfl))) (mvT hZ (hw _ (List.mem_of_getElem? (i := 15) rfl))) (notFace_of_selects (args := #[]) (mvT hZ (hw _ (List.mem_of_getElem? (i := 17) rfl)))) (mvT hZ (hw _ (List.mem_of_getElem? (i := 17) rfl))) (mvT hZ (hw _ (List.mem_of_getElem? (i := 16) rfl))) (by decide) (backOf (W := 0) (cn_rm l Z a0 hw [] (o127) (v12) (v7) (v9) T41.heap n0 F45 G43 G44) hZ (hw _ (List.mem_of_getElem? (i := 18) rfl)) (hw _ (List.mem_of_getElem? (i := 3) rfl)) (by decide) (by decide)) q47a q47c (g := (mkF m 144 #[.val (.long q0), .second, .val (.long q1), .second, .val (.long q2), .second, .val (.int p3), .val (.long v7), .second, .val (.long v9), .second, .val (.int v11), .val (.long v12), .second, .val (.ref o127), .unset, .unset] [(.long v12), (.ref o127)])) rfl (by rw [hml]; rfl) (Steps.refl _) (argsL := [(.long v12)]) (rest := []) (lenOf own_pd1 rfl) rfl (by show 2 * 0 + _ ≤ _; exact Nat.le_of_eq rfl) (hb hby lw_d144) (fun _ _ => ⟨rfl, rfl, (by decide : 1 + 0 ≤ _), (by decide : 2 + 0 ≤ _)⟩)
  dsimp only [Pt.U, Pt.locs, Pt.cells, Pt.slots] at X47 l47 y47 z47 st47 hQ47
  subst l47 y47 z47
  obtain ⟨rfl, N47q, e47⟩ := hQ47
  have N47 := Fr.app N41 N47q
  refine own_tr st47 ?_
  show own_Dn p e below s _ _ _ (T47.setTop (mkF m 147 #[.val (.long q0), .second, .val (.long q1), .second, .val (.long q2), .second, .val (.int p3), .val (.long v7), .second, .val (.long v9), .second, .val (.int v11), .val (.long v12), .second, .val (.ref o127), .unset, .unset] [(.int (cn_f v12 v7 v9))]))
  refine own_st (fun _ k => XS.istore X47.here hx rfl (hb hby lw_d147) rfl (l' := #[.val (.long q0), .second, .val (.long q1), .second, .val (.long q2), .second, .val (.int p3), .val (.long v7), .second, .val (.long v9), .second, .val (.int v11), .val (.long v12), .second, .val (.ref o127), .val (.int (cn_f v12 v7 v9)), .unset]) rfl (XS.lload X47.here hx rfl (hb hby lw_d149) rfl (XS.lload X47.here hx rfl (hb hby lw_d151) rfl (XS.lcmp X47.here hx rfl (hb hby lw_d153) rfl k)))) ?_
  show own_Dn p e below s _ _ _ (T47.setTop (mkF m 154 #[.val (.long q0), .second, .val (.long q1), .second, .val (.long q2), .second, .val (.int p3), .val (.long v7), .second, .val (.long v9), .second, .val (.int v11), .val (.long v12), .second, .val (.ref o127), .val (.int (cn_f v12 v7 v9)), .unset] [(.int (lcmpW v12 v7))]))
  by_cases hc48 : v12 < v7
  · refine own_st (fun _ k => XS.ifNo X47.here hx rfl (hb hby lw_d154) rfl (own_jtlt hc48).2.1 k) ?_
    show own_Dn p e below s _ _ _ (T47.setTop (mkF m 157 #[.val (.long q0), .second, .val (.long q1), .second, .val (.long q2), .second, .val (.int p3), .val (.long v7), .second, .val (.long v9), .second, .val (.int v11), .val (.long v12), .second, .val (.ref o127), .val (.int (cn_f v12 v7 v9)), .unset] []))
    refine own_st (fun _ k => XS.iconst X47.here hx rfl (hb hby lw_d157) (XS.istore X47.here hx rfl (hb hby lw_d158) rfl (l' := #[.val (.long q0), .second, .val (.long q1), .second, .val (.long q2), .second, .val (.int p3), .val (.long v7), .second, .val (.long v9), .second, .val (.int v11), .val (.long v12), .second, .val (.ref o127), .val (.int (cn_f v12 v7 v9)), .val (.int (0 : Int32))]) rfl (XS.goto X47.here hx rfl (pc0 := 160) (pc' := 193) rfl (hb hby lw_d160) (by decide) (by decide) (XS.iload X47.here hx rfl (hb hby lw_d193) rfl (XS.iload X47.here hx rfl (hb hby lw_d195) rfl k))))) ?_
    show own_Dn p e below s _ _ _ (T47.setTop (mkF m 197 #[.val (.long q0), .second, .val (.long q1), .second, .val (.long q2), .second, .val (.int p3), .val (.long v7), .second, .val (.long v9), .second, .val (.int v11), .val (.long v12), .second, .val (.ref o127), .val (.int (cn_f v12 v7 v9)), .val (.int (0 : Int32))] [(.int (0 : Int32)), (.int (cn_f v12 v7 v9))]))
    by_cases hc49 : (cn_f v12 v7 v9) = (0 : Int32)
    · refine own_st (fun _ k => XS.icmpNo X47.here hx rfl (hb hby lw_d197) rfl (teq hc49).2 k) ?_
      show own_Dn p e below s _ _ _ (T47.setTop (mkF m 200 #[.val (.long q0), .second, .val (.long q1), .second, .val (.long q2), .second, .val (.int p3), .val (.long v7), .second, .val (.long v9), .second, .val (.int v11), .val (.long v12), .second, .val (.ref o127), .val (.int (cn_f v12 v7 v9)), .val (.int (0 : Int32))] []))
      refine own_st (fun _ k => XS.iconst X47.here hx rfl (hb hby lw_d200) (XS.goto X47.here hx rfl (pc0 := 201) (pc' := 205) rfl (hb hby lw_d201) (by decide) (by decide) k)) ?_
      show own_Dn p e below s _ _ _ (T47.setTop (mkF m 205 #[.val (.long q0), .second, .val (.long q1), .second, .val (.long q2), .second, .val (.int p3), .val (.long v7), .second, .val (.long v9), .second, .val (.int v11), .val (.long v12), .second, .val (.ref o127), .val (.int (cn_f v12 v7 v9)), .val (.int (0 : Int32))] [(.int (1 : Int32))]))
      exact own_retZ X47 hx hret hlk (by decide) (hb hby lw_d205) (by decide) (by decide) ⟨(by rw [hr0, lw_f127, if_pos hc48, if_pos hc49]), N47⟩
    · refine own_st (fun _ k => XS.icmpYes X47.here hx rfl (pc0 := 197) (pc' := 204) rfl (hb hby lw_d197) rfl (feq hc49).2 (by decide) (by decide) k) ?_
      show own_Dn p e below s _ _ _ (T47.setTop (mkF m 204 #[.val (.long q0), .second, .val (.long q1), .second, .val (.long q2), .second, .val (.int p3), .val (.long v7), .second, .val (.long v9), .second, .val (.int v11), .val (.long v12), .second, .val (.ref o127), .val (.int (cn_f v12 v7 v9)), .val (.int (0 : Int32))] []))
      refine own_st (fun _ k => XS.iconst X47.here hx rfl (hb hby lw_d204) k) ?_
      show own_Dn p e below s _ _ _ (T47.setTop (mkF m 205 #[.val (.long q0), .second, .val (.long q1), .second, .val (.long q2), .second, .val (.int p3), .val (.long v7), .second, .val (.long v9), .second, .val (.int v11), .val (.long v12), .second, .val (.ref o127), .val (.int (cn_f v12 v7 v9)), .val (.int (0 : Int32))] [(.int (0 : Int32))]))
      exact own_retZ X47 hx hret hlk (by decide) (hb hby lw_d205) (by decide) (by decide) ⟨(by rw [hr0, lw_f127, if_pos hc48, if_neg hc49]), N47⟩
  · refine own_st (fun _ k => XS.ifYes X47.here hx rfl (pc0 := 154) (pc' := 163) rfl (hb hby lw_d154) rfl (own_jflt hc48).2.1 (by decide) (by decide) k) ?_
    show own_Dn p e below s _ _ _ (T47.setTop (mkF m 163 #[.val (.long q0), .second, .val (.long q1), .second, .val (.long q2), .second, .val (.int p3), .val (.long v7), .second, .val (.long v9), .second, .val (.int v11), .val (.long v12), .second, .val (.ref o127), .val (.int (cn_f v12 v7 v9)), .unset] []))
    refine own_st (fun _ k => XS.lload X47.here hx rfl (hb hby lw_d163) rfl (X47.ldc2Long hx (index := 11) (v := (9223372036854775807 : Int64)) hown (mvT hZ (hw _ (List.mem_of_getElem? (i := 0) rfl))) (g := (mkF m 165 #[.val (.long q0), .second, .val (.long q1), .second, .val (.long q2), .second, .val (.int p3), .val (.long v7), .second, .val (.long v9), .second, .val (.int v11), .val (.long v12), .second, .val (.ref o127), .val (.int (cn_f v12 v7 v9)), .unset] [(.long v9)])) rfl (hb hby lw_d165) _ (XS.lcmp X47.here hx rfl (hb hby lw_d168) rfl k))) ?_
    show own_Dn p e below s _ _ _ (T47.setTop (mkF m 169 #[.val (.long q0), .second, .val (.long q1), .second, .val (.long q2), .second, .val (.int p3), .val (.long v7), .second, .val (.long v9), .second, .val (.int v11), .val (.long v12), .second, .val (.ref o127), .val (.int (cn_f v12 v7 v9)), .unset] [(.int (lcmpW v9 (9223372036854775807 : Int64)))]))
    by_cases hc50 : v9 = (9223372036854775807 : Int64)
    · refine own_st (fun _ k => XS.ifNo X47.here hx rfl (hb hby lw_d169) rfl (own_jteq hc50).2 k) ?_
      show own_Dn p e below s _ _ _ (T47.setTop (mkF m 172 #[.val (.long q0), .second, .val (.long q1), .second, .val (.long q2), .second, .val (.int p3), .val (.long v7), .second, .val (.long v9), .second, .val (.int v11), .val (.long v12), .second, .val (.ref o127), .val (.int (cn_f v12 v7 v9)), .unset] []))
      refine own_st (fun _ k => XS.iconst X47.here hx rfl (hb hby lw_d172) (XS.istore X47.here hx rfl (hb hby lw_d173) rfl (l' := #[.val (.long q0), .second, .val (.long q1), .second, .val (.long q2), .second, .val (.int p3), .val (.long v7), .second, .val (.long v9), .second, .val (.int v11), .val (.long v12), .second, .val (.ref o127), .val (.int (cn_f v12 v7 v9)), .val (.int (1 : Int32))]) rfl (XS.goto X47.here hx rfl (pc0 := 175) (pc' := 193) rfl (hb hby lw_d175) (by decide) (by decide) (XS.iload X47.here hx rfl (hb hby lw_d193) rfl (XS.iload X47.here hx rfl (hb hby lw_d195) rfl k))))) ?_
      show own_Dn p e below s _ _ _ (T47.setTop (mkF m 197 #[.val (.long q0), .second, .val (.long q1), .second, .val (.long q2), .second, .val (.int p3), .val (.long v7), .second, .val (.long v9), .second, .val (.int v11), .val (.long v12), .second, .val (.ref o127), .val (.int (cn_f v12 v7 v9)), .val (.int (1 : Int32))] [(.int (1 : Int32)), (.int (cn_f v12 v7 v9))]))
      by_cases hc51 : (cn_f v12 v7 v9) = (1 : Int32)
      · refine own_st (fun _ k => XS.icmpNo X47.here hx rfl (hb hby lw_d197) rfl (teq hc51).2 k) ?_
        show own_Dn p e below s _ _ _ (T47.setTop (mkF m 200 #[.val (.long q0), .second, .val (.long q1), .second, .val (.long q2), .second, .val (.int p3), .val (.long v7), .second, .val (.long v9), .second, .val (.int v11), .val (.long v12), .second, .val (.ref o127), .val (.int (cn_f v12 v7 v9)), .val (.int (1 : Int32))] []))
        refine own_st (fun _ k => XS.iconst X47.here hx rfl (hb hby lw_d200) (XS.goto X47.here hx rfl (pc0 := 201) (pc' := 205) rfl (hb hby lw_d201) (by decide) (by decide) k)) ?_
        show own_Dn p e below s _ _ _ (T47.setTop (mkF m 205 #[.val (.long q0), .second, .val (.long q1), .second, .val (.long q2), .second, .val (.int p3), .val (.long v7), .second, .val (.long v9), .second, .val (.int v11), .val (.long v12), .second, .val (.ref o127), .val (.int (cn_f v12 v7 v9)), .val (.int (1 : Int32))] [(.int (1 : Int32))]))
        exact own_retZ X47 hx hret hlk (by decide) (hb hby lw_d205) (by decide) (by decide) ⟨(by rw [hr0, lw_f127, if_neg hc48, if_pos hc50, if_pos hc51]), N47⟩
      · refine own_st (fun _ k => XS.icmpYes X47.here hx rfl (pc0 := 197) (pc' := 204) rfl (hb hby lw_d197) rfl (feq hc51).2 (by decide) (by decide) k) ?_
        show own_Dn p e below s _ _ _ (T47.setTop (mkF m 204 #[.val (.long q0), .second, .val (.long q1), .second, .val (.long q2), .second, .val (.int p3), .val (.long v7), .second, .val (.long v9), .second, .val (.int v11), .val (.long v12), .second, .val (.ref o127), .val (.int (cn_f v12 v7 v9)), .val (.int (1 : Int32))] []))
        refine own_st (fun _ k => XS.iconst X47.here hx rfl (hb hby lw_d204) k) ?_
        show own_Dn p e below s _ _ _ (T47.setTop (mkF m 205 #[.val (.long q0), .second, .val (.long q1), .second, .val (.long q2), .second, .val (.int p3), .val (.long v7), .second, .val (.long v9), .second, .val (.int v11), .val (.long v12), .second, .val (.ref o127), .val (.int (cn_f v12 v7 v9)), .val (.int (1 : Int32))] [(.int (0 : Int32))]))
        exact own_retZ X47 hx hret hlk (by decide) (hb hby lw_d205) (by decide) (by decide) ⟨(by rw [hr0, lw_f127, if_neg hc48, if_pos hc50, if_neg hc51]), N47⟩
    · refine own_st (fun _ k => XS.ifYes X47.here hx rfl (pc0 := 169) (pc' := 178) rfl (hb hby lw_d169) rfl (own_jfeq hc50).2 (by decide) (by decide) k) ?_
      show own_Dn p e below s _ _ _ (T47.setTop (mkF m 178 #[.val (.long q0), .second, .val (.long q1), .second, .val (.long q2), .second, .val (.int p3), .val (.long v7), .second, .val (.long v9), .second, .val (.int v11), .val (.long v12), .second, .val (.ref o127), .val (.int (cn_f v12 v7 v9)), .unset] []))
      refine own_st (fun _ k => XS.lload X47.here hx rfl (hb hby lw_d178) rfl (XS.lload X47.here hx rfl (hb hby lw_d180) rfl (XS.lcmp X47.here hx rfl (hb hby lw_d182) rfl k))) ?_
      show own_Dn p e below s _ _ _ (T47.setTop (mkF m 183 #[.val (.long q0), .second, .val (.long q1), .second, .val (.long q2), .second, .val (.int p3), .val (.long v7), .second, .val (.long v9), .second, .val (.int v11), .val (.long v12), .second, .val (.ref o127), .val (.int (cn_f v12 v7 v9)), .unset] [(.int (lcmpW v12 v9))]))
      by_cases hc52 : v12 < v9
      · refine own_st (fun _ k => XS.ifNo X47.here hx rfl (hb hby lw_d183) rfl (own_jtlt hc52).2.1 k) ?_
        show own_Dn p e below s _ _ _ (T47.setTop (mkF m 186 #[.val (.long q0), .second, .val (.long q1), .second, .val (.long q2), .second, .val (.int p3), .val (.long v7), .second, .val (.long v9), .second, .val (.int v11), .val (.long v12), .second, .val (.ref o127), .val (.int (cn_f v12 v7 v9)), .unset] []))
        refine own_st (fun _ k => XS.iconst X47.here hx rfl (hb hby lw_d186) (XS.goto X47.here hx rfl (pc0 := 187) (pc' := 191) rfl (hb hby lw_d187) (by decide) (by decide) (XS.istore X47.here hx rfl (hb hby lw_d191) rfl (l' := #[.val (.long q0), .second, .val (.long q1), .second, .val (.long q2), .second, .val (.int p3), .val (.long v7), .second, .val (.long v9), .second, .val (.int v11), .val (.long v12), .second, .val (.ref o127), .val (.int (cn_f v12 v7 v9)), .val (.int (1 : Int32))]) rfl (XS.iload X47.here hx rfl (hb hby lw_d193) rfl (XS.iload X47.here hx rfl (hb hby lw_d195) rfl k))))) ?_
        show own_Dn p e below s _ _ _ (T47.setTop (mkF m 197 #[.val (.long q0), .second, .val (.long q1), .second, .val (.long q2), .second, .val (.int p3), .val (.long v7), .second, .val (.long v9), .second, .val (.int v11), .val (.long v12), .second, .val (.ref o127), .val (.int (cn_f v12 v7 v9)), .val (.int (1 : Int32))] [(.int (1 : Int32)), (.int (cn_f v12 v7 v9))]))
        by_cases hc53 : (cn_f v12 v7 v9) = (1 : Int32)
        · refine own_st (fun _ k => XS.icmpNo X47.here hx rfl (hb hby lw_d197) rfl (teq hc53).2 k) ?_
          show own_Dn p e below s _ _ _ (T47.setTop (mkF m 200 #[.val (.long q0), .second, .val (.long q1), .second, .val (.long q2), .second, .val (.int p3), .val (.long v7), .second, .val (.long v9), .second, .val (.int v11), .val (.long v12), .second, .val (.ref o127), .val (.int (cn_f v12 v7 v9)), .val (.int (1 : Int32))] []))
          refine own_st (fun _ k => XS.iconst X47.here hx rfl (hb hby lw_d200) (XS.goto X47.here hx rfl (pc0 := 201) (pc' := 205) rfl (hb hby lw_d201) (by decide) (by decide) k)) ?_
          show own_Dn p e below s _ _ _ (T47.setTop (mkF m 205 #[.val (.long q0), .second, .val (.long q1), .second, .val (.long q2), .second, .val (.int p3), .val (.long v7), .second, .val (.long v9), .second, .val (.int v11), .val (.long v12), .second, .val (.ref o127), .val (.int (cn_f v12 v7 v9)), .val (.int (1 : Int32))] [(.int (1 : Int32))]))
          exact own_retZ X47 hx hret hlk (by decide) (hb hby lw_d205) (by decide) (by decide) ⟨(by rw [hr0, lw_f127, if_neg hc48, if_neg hc50, if_pos hc52, if_pos hc53]), N47⟩
        · refine own_st (fun _ k => XS.icmpYes X47.here hx rfl (pc0 := 197) (pc' := 204) rfl (hb hby lw_d197) rfl (feq hc53).2 (by decide) (by decide) k) ?_
          show own_Dn p e below s _ _ _ (T47.setTop (mkF m 204 #[.val (.long q0), .second, .val (.long q1), .second, .val (.long q2), .second, .val (.int p3), .val (.long v7), .second, .val (.long v9), .second, .val (.int v11), .val (.long v12), .second, .val (.ref o127), .val (.int (cn_f v12 v7 v9)), .val (.int (1 : Int32))] []))
          refine own_st (fun _ k => XS.iconst X47.here hx rfl (hb hby lw_d204) k) ?_
          show own_Dn p e below s _ _ _ (T47.setTop (mkF m 205 #[.val (.long q0), .second, .val (.long q1), .second, .val (.long q2), .second, .val (.int p3), .val (.long v7), .second, .val (.long v9), .second, .val (.int v11), .val (.long v12), .second, .val (.ref o127), .val (.int (cn_f v12 v7 v9)), .val (.int (1 : Int32))] [(.int (0 : Int32))]))
          exact own_retZ X47 hx hret hlk (by decide) (hb hby lw_d205) (by decide) (by decide) ⟨(by rw [hr0, lw_f127, if_neg hc48, if_neg hc50, if_pos hc52, if_neg hc53]), N47⟩
      · refine own_st (fun _ k => XS.ifYes X47.here hx rfl (pc0 := 183) (pc' := 190) rfl (hb hby lw_d183) rfl (own_jflt hc52).2.1 (by decide) (by decide) k) ?_
        show own_Dn p e below s _ _ _ (T47.setTop (mkF m 190 #[.val (.long q0), .second, .val (.long q1), .second, .val (.long q2), .second, .val (.int p3), .val (.long v7), .second, .val (.long v9), .second, .val (.int v11), .val (.long v12), .second, .val (.ref o127), .val (.int (cn_f v12 v7 v9)), .unset] []))
        refine own_st (fun _ k => XS.iconst X47.here hx rfl (hb hby lw_d190) (XS.istore X47.here hx rfl (hb hby lw_d191) rfl (l' := #[.val (.long q0), .second, .val (.long q1), .second, .val (.long q2), .second, .val (.int p3), .val (.long v7), .second, .val (.long v9), .second, .val (.int v11), .val (.long v12), .second, .val (.ref o127), .val (.int (cn_f v12 v7 v9)), .val (.int (0 : Int32))]) rfl (XS.iload X47.here hx rfl (hb hby lw_d193) rfl (XS.iload X47.here hx rfl (hb hby lw_d195) rfl k)))) ?_
        show own_Dn p e below s _ _ _ (T47.setTop (mkF m 197 #[.val (.long q0), .second, .val (.long q1), .second, .val (.long q2), .second, .val (.int p3), .val (.long v7), .second, .val (.long v9), .second, .val (.int v11), .val (.long v12), .second, .val (.ref o127), .val (.int (cn_f v12 v7 v9)), .val (.int (0 : Int32))] [(.int (0 : Int32)), (.int (cn_f v12 v7 v9))]))
        by_cases hc54 : (cn_f v12 v7 v9) = (0 : Int32)
        · refine own_st (fun _ k => XS.icmpNo X47.here hx rfl (hb hby lw_d197) rfl (teq hc54).2 k) ?_
          show own_Dn p e below s _ _ _ (T47.setTop (mkF m 200 #[.val (.long q0), .second, .val (.long q1), .second, .val (.long q2), .second, .val (.int p3), .val (.long v7), .second, .val (.long v9), .second, .val (.int v11), .val (.long v12), .second, .val (.ref o127), .val (.int (cn_f v12 v7 v9)), .val (.int (0 : Int32))] []))
          refine own_st (fun _ k => XS.iconst X47.here hx rfl (hb hby lw_d200) (XS.goto X47.here hx rfl (pc0 := 201) (pc' := 205) rfl (hb hby lw_d201) (by decide) (by decide) k)) ?_
          show own_Dn p e below s _ _ _ (T47.setTop (mkF m 205 #[.val (.long q0), .second, .val (.long q1), .second, .val (.long q2), .second, .val (.int p3), .val (.long v7), .second, .val (.long v9), .second, .val (.int v11), .val (.long v12), .second, .val (.ref o127), .val (.int (cn_f v12 v7 v9)), .val (.int (0 : Int32))] [(.int (1 : Int32))]))
          exact own_retZ X47 hx hret hlk (by decide) (hb hby lw_d205) (by decide) (by decide) ⟨(by rw [hr0, lw_f127, if_neg hc48, if_neg hc50, if_neg hc52, if_pos hc54]), N47⟩
        · refine own_st (fun _ k => XS.icmpYes X47.here hx rfl (pc0 := 197) (pc' := 204) rfl (hb hby lw_d197) rfl (feq hc54).2 (by decide) (by decide) k) ?_
          show own_Dn p e below s _ _ _ (T47.setTop (mkF m 204 #[.val (.long q0), .second, .val (.long q1), .second, .val (.long q2), .second, .val (.int p3), .val (.long v7), .second, .val (.long v9), .second, .val (.int v11), .val (.long v12), .second, .val (.ref o127), .val (.int (cn_f v12 v7 v9)), .val (.int (0 : Int32))] []))
          refine own_st (fun _ k => XS.iconst X47.here hx rfl (hb hby lw_d204) k) ?_
          show own_Dn p e below s _ _ _ (T47.setTop (mkF m 205 #[.val (.long q0), .second, .val (.long q1), .second, .val (.long q2), .second, .val (.int p3), .val (.long v7), .second, .val (.long v9), .second, .val (.int v11), .val (.long v12), .second, .val (.ref o127), .val (.int (cn_f v12 v7 v9)), .val (.int (0 : Int32))] [(.int (0 : Int32))]))
          exact own_retZ X47 hx hret hlk (by decide) (hb hby lw_d205) (by decide) (by decide) ⟨(by rw [hr0, lw_f127, if_neg hc48, if_neg hc50, if_neg hc52, if_neg hc54]), N47⟩
def lw_f30 (q0 : Int64) (q1 : Int64) (q2 : Int64) (p3 : Int32) (v7 : Int64) (u0 : Int64) : Int32 :=
  if (((p3.toUInt32 >>> ((2 : Int32) &&& 31).toUInt32).toInt32) &&& (7 : Int32)) = (1 : Int32) then
    lw_f127 q0 q1 q2 p3 (v7) (u0) ((((p3.toUInt32 >>> ((2 : Int32) &&& 31).toUInt32).toInt32) &&& (7 : Int32))) (v7)
  else
    if (((p3.toUInt32 >>> ((2 : Int32) &&& 31).toUInt32).toInt32) &&& (7 : Int32)) = (2 : Int32) then
      lw_f127 q0 q1 q2 p3 (v7) (u0) ((((p3.toUInt32 >>> ((2 : Int32) &&& 31).toUInt32).toInt32) &&& (7 : Int32))) ((v7 - (1 : Int64)))
    else
      if (((p3.toUInt32 >>> ((2 : Int32) &&& 31).toUInt32).toInt32) &&& (7 : Int32)) = (3 : Int32) then
        lw_f127 q0 q1 q2 p3 (v7) (u0) ((((p3.toUInt32 >>> ((2 : Int32) &&& 31).toUInt32).toInt32) &&& (7 : Int32))) (u0)
      else
        if (((p3.toUInt32 >>> ((2 : Int32) &&& 31).toUInt32).toInt32) &&& (7 : Int32)) = (4 : Int32) then
          lw_f127 q0 q1 q2 p3 (v7) (u0) ((((p3.toUInt32 >>> ((2 : Int32) &&& 31).toUInt32).toInt32) &&& (7 : Int32))) ((u0 - (1 : Int64)))
        else
          if (((p3.toUInt32 >>> ((2 : Int32) &&& 31).toUInt32).toInt32) &&& (7 : Int32)) = (5 : Int32) then
            lw_f127 q0 q1 q2 p3 (v7) (u0) ((((p3.toUInt32 >>> ((2 : Int32) &&& 31).toUInt32).toInt32) &&& (7 : Int32))) ((9223372036854775807 : Int64))
          else
            if (((p3.toUInt32 >>> ((2 : Int32) &&& 31).toUInt32).toInt32) &&& (7 : Int32)) = (6 : Int32) then
              lw_f127 q0 q1 q2 p3 (v7) (u0) ((((p3.toUInt32 >>> ((2 : Int32) &&& 31).toUInt32).toInt32) &&& (7 : Int32))) ((-9223372036854775808 : Int64))
            else
              lw_f127 q0 q1 q2 p3 (v7) (u0) ((((p3.toUInt32 >>> ((2 : Int32) &&& 31).toUInt32).toInt32) &&& (7 : Int32))) (q2)
set_option maxRecDepth 65536 in
set_option maxHeartbeats 40000000 in
theorem lw_c30 {l : Launch} {Z : State} {a0 : Array Value} {q0 : Int64} {q1 : Int64} {q2 : Int64} {p3 : Int32} {h0 : Heap} {n0 : Nat} {p : Program} {e : Env} {s : State} {m : MethodId} {args : Array Value} {below : List Frame} {meth : Method} {c : Code} {T0 : State} {locs : List Loc} {r0 : Int32} (C0 : own_Cx p s m meth c Z a0 code 17 "com/example/tally_flows/tallyflows/charging/TimeWindowContainsPinLaw" "law" (some .boolean)) (X0 : Stand p l e room_1 s m args below meth c T0 locs 0 0) (e0 : T0.heap = h0) (N0 : Fr n0 locs) (v7 : Int64) (u0 : Int64) (Z0 : n0 ≤ h0.size) (hr0 : r0 = lw_f30 q0 q1 q2 p3 v7 u0) :
    own_Dn p e below s (own_QL (some (.int r0)) n0) room_1.cells room_1.slots (T0.setTop (mkF m 30 #[.val (.long q0), .second, .val (.long q1), .second, .val (.long q2), .second, .val (.int p3), .val (.long v7), .second, .unset, .unset, .unset, .unset, .unset, .unset, .unset, .unset] [(.long u0)])) := by
  obtain ⟨hx, hZ, hw, hby, hml, hown, hret, hlk, hnm⟩ := id C0
  refine own_st (fun _ k => XS.lstore X0.here hx rfl (hb hby lw_d30) rfl (l' := #[.val (.long q0), .second, .val (.long q1), .second, .val (.long q2), .second, .val (.int p3), .val (.long v7), .second, .val (.long u0), .second, .unset, .unset, .unset, .unset, .unset, .unset]) rfl (XS.iload X0.here hx rfl (hb hby lw_d32) rfl (XS.iconst X0.here hx rfl (hb hby lw_d34) (XS.iushr X0.here hx rfl (hb hby lw_d35) rfl (XS.bipush X0.here hx rfl (hb hby lw_d36) (XS.iand X0.here hx rfl (hb hby lw_d38) rfl (XS.istore X0.here hx rfl (hb hby lw_d39) rfl (l' := #[.val (.long q0), .second, .val (.long q1), .second, .val (.long q2), .second, .val (.int p3), .val (.long v7), .second, .val (.long u0), .second, .val (.int (((p3.toUInt32 >>> ((2 : Int32) &&& 31).toUInt32).toInt32) &&& (7 : Int32))), .unset, .unset, .unset, .unset, .unset]) rfl (XS.lload X0.here hx rfl (hb hby lw_d41) rfl (XS.lstore X0.here hx rfl (hb hby lw_d43) rfl (l' := #[.val (.long q0), .second, .val (.long q1), .second, .val (.long q2), .second, .val (.int p3), .val (.long v7), .second, .val (.long u0), .second, .val (.int (((p3.toUInt32 >>> ((2 : Int32) &&& 31).toUInt32).toInt32) &&& (7 : Int32))), .val (.long q2), .second, .unset, .unset, .unset]) rfl (XS.iload X0.here hx rfl (hb hby lw_d45) rfl (XS.iconst X0.here hx rfl (hb hby lw_d47) k))))))))))) ?_
  show own_Dn p e below s _ _ _ (T0.setTop (mkF m 48 #[.val (.long q0), .second, .val (.long q1), .second, .val (.long q2), .second, .val (.int p3), .val (.long v7), .second, .val (.long u0), .second, .val (.int (((p3.toUInt32 >>> ((2 : Int32) &&& 31).toUInt32).toInt32) &&& (7 : Int32))), .val (.long q2), .second, .unset, .unset, .unset] [(.int (1 : Int32)), (.int (((p3.toUInt32 >>> ((2 : Int32) &&& 31).toUInt32).toInt32) &&& (7 : Int32)))]))
  by_cases hc30 : (((p3.toUInt32 >>> ((2 : Int32) &&& 31).toUInt32).toInt32) &&& (7 : Int32)) = (1 : Int32)
  · refine own_st (fun _ k => XS.icmpNo X0.here hx rfl (hb hby lw_d48) rfl (teq hc30).2 k) ?_
    show own_Dn p e below s _ _ _ (T0.setTop (mkF m 51 #[.val (.long q0), .second, .val (.long q1), .second, .val (.long q2), .second, .val (.int p3), .val (.long v7), .second, .val (.long u0), .second, .val (.int (((p3.toUInt32 >>> ((2 : Int32) &&& 31).toUInt32).toInt32) &&& (7 : Int32))), .val (.long q2), .second, .unset, .unset, .unset] []))
    refine own_st (fun _ k => XS.lload X0.here hx rfl (hb hby lw_d51) rfl (XS.lstore X0.here hx rfl (hb hby lw_d53) rfl (l' := #[.val (.long q0), .second, .val (.long q1), .second, .val (.long q2), .second, .val (.int p3), .val (.long v7), .second, .val (.long u0), .second, .val (.int (((p3.toUInt32 >>> ((2 : Int32) &&& 31).toUInt32).toInt32) &&& (7 : Int32))), .val (.long v7), .second, .unset, .unset, .unset]) rfl (XS.goto X0.here hx rfl (pc0 := 55) (pc' := 127) rfl (hb hby lw_d55) (by decide) (by decide) k))) ?_
    show own_Dn p e below s _ _ _ (T0.setTop (mkF m 127 #[.val (.long q0), .second, .val (.long q1), .second, .val (.long q2), .second, .val (.int p3), .val (.long v7), .second, .val (.long u0), .second, .val (.int (((p3.toUInt32 >>> ((2 : Int32) &&& 31).toUInt32).toInt32) &&& (7 : Int32))), .val (.long v7), .second, .unset, .unset, .unset] []))
    exact lw_c127 C0 X0 e0 N0 (v7) (u0) ((((p3.toUInt32 >>> ((2 : Int32) &&& 31).toUInt32).toInt32) &&& (7 : Int32))) (v7) Z0 (by rw [hr0, lw_f30, if_pos hc30])
  · refine own_st (fun _ k => XS.icmpYes X0.here hx rfl (pc0 := 48) (pc' := 58) rfl (hb hby lw_d48) rfl (feq hc30).2 (by decide) (by decide) k) ?_
    show own_Dn p e below s _ _ _ (T0.setTop (mkF m 58 #[.val (.long q0), .second, .val (.long q1), .second, .val (.long q2), .second, .val (.int p3), .val (.long v7), .second, .val (.long u0), .second, .val (.int (((p3.toUInt32 >>> ((2 : Int32) &&& 31).toUInt32).toInt32) &&& (7 : Int32))), .val (.long q2), .second, .unset, .unset, .unset] []))
    refine own_st (fun _ k => XS.iload X0.here hx rfl (hb hby lw_d58) rfl (XS.iconst X0.here hx rfl (hb hby lw_d60) k)) ?_
    show own_Dn p e below s _ _ _ (T0.setTop (mkF m 61 #[.val (.long q0), .second, .val (.long q1), .second, .val (.long q2), .second, .val (.int p3), .val (.long v7), .second, .val (.long u0), .second, .val (.int (((p3.toUInt32 >>> ((2 : Int32) &&& 31).toUInt32).toInt32) &&& (7 : Int32))), .val (.long q2), .second, .unset, .unset, .unset] [(.int (2 : Int32)), (.int (((p3.toUInt32 >>> ((2 : Int32) &&& 31).toUInt32).toInt32) &&& (7 : Int32)))]))
    by_cases hc31 : (((p3.toUInt32 >>> ((2 : Int32) &&& 31).toUInt32).toInt32) &&& (7 : Int32)) = (2 : Int32)
    · refine own_st (fun _ k => XS.icmpNo X0.here hx rfl (hb hby lw_d61) rfl (teq hc31).2 k) ?_
      show own_Dn p e below s _ _ _ (T0.setTop (mkF m 64 #[.val (.long q0), .second, .val (.long q1), .second, .val (.long q2), .second, .val (.int p3), .val (.long v7), .second, .val (.long u0), .second, .val (.int (((p3.toUInt32 >>> ((2 : Int32) &&& 31).toUInt32).toInt32) &&& (7 : Int32))), .val (.long q2), .second, .unset, .unset, .unset] []))
      refine own_st (fun _ k => XS.lload X0.here hx rfl (hb hby lw_d64) rfl (XS.lconst X0.here hx rfl (hb hby lw_d66) (XS.lsub X0.here hx rfl (hb hby lw_d67) rfl (XS.lstore X0.here hx rfl (hb hby lw_d68) rfl (l' := #[.val (.long q0), .second, .val (.long q1), .second, .val (.long q2), .second, .val (.int p3), .val (.long v7), .second, .val (.long u0), .second, .val (.int (((p3.toUInt32 >>> ((2 : Int32) &&& 31).toUInt32).toInt32) &&& (7 : Int32))), .val (.long (v7 - (1 : Int64))), .second, .unset, .unset, .unset]) rfl (XS.goto X0.here hx rfl (pc0 := 70) (pc' := 127) rfl (hb hby lw_d70) (by decide) (by decide) k))))) ?_
      show own_Dn p e below s _ _ _ (T0.setTop (mkF m 127 #[.val (.long q0), .second, .val (.long q1), .second, .val (.long q2), .second, .val (.int p3), .val (.long v7), .second, .val (.long u0), .second, .val (.int (((p3.toUInt32 >>> ((2 : Int32) &&& 31).toUInt32).toInt32) &&& (7 : Int32))), .val (.long (v7 - (1 : Int64))), .second, .unset, .unset, .unset] []))
      exact lw_c127 C0 X0 e0 N0 (v7) (u0) ((((p3.toUInt32 >>> ((2 : Int32) &&& 31).toUInt32).toInt32) &&& (7 : Int32))) ((v7 - (1 : Int64))) Z0 (by rw [hr0, lw_f30, if_neg hc30, if_pos hc31])
    · refine own_st (fun _ k => XS.icmpYes X0.here hx rfl (pc0 := 61) (pc' := 73) rfl (hb hby lw_d61) rfl (feq hc31).2 (by decide) (by decide) k) ?_
      show own_Dn p e below s _ _ _ (T0.setTop (mkF m 73 #[.val (.long q0), .second, .val (.long q1), .second, .val (.long q2), .second, .val (.int p3), .val (.long v7), .second, .val (.long u0), .second, .val (.int (((p3.toUInt32 >>> ((2 : Int32) &&& 31).toUInt32).toInt32) &&& (7 : Int32))), .val (.long q2), .second, .unset, .unset, .unset] []))
      refine own_st (fun _ k => XS.iload X0.here hx rfl (hb hby lw_d73) rfl (XS.iconst X0.here hx rfl (hb hby lw_d75) k)) ?_
      show own_Dn p e below s _ _ _ (T0.setTop (mkF m 76 #[.val (.long q0), .second, .val (.long q1), .second, .val (.long q2), .second, .val (.int p3), .val (.long v7), .second, .val (.long u0), .second, .val (.int (((p3.toUInt32 >>> ((2 : Int32) &&& 31).toUInt32).toInt32) &&& (7 : Int32))), .val (.long q2), .second, .unset, .unset, .unset] [(.int (3 : Int32)), (.int (((p3.toUInt32 >>> ((2 : Int32) &&& 31).toUInt32).toInt32) &&& (7 : Int32)))]))
      by_cases hc32 : (((p3.toUInt32 >>> ((2 : Int32) &&& 31).toUInt32).toInt32) &&& (7 : Int32)) = (3 : Int32)
      · refine own_st (fun _ k => XS.icmpNo X0.here hx rfl (hb hby lw_d76) rfl (teq hc32).2 k) ?_
        show own_Dn p e below s _ _ _ (T0.setTop (mkF m 79 #[.val (.long q0), .second, .val (.long q1), .second, .val (.long q2), .second, .val (.int p3), .val (.long v7), .second, .val (.long u0), .second, .val (.int (((p3.toUInt32 >>> ((2 : Int32) &&& 31).toUInt32).toInt32) &&& (7 : Int32))), .val (.long q2), .second, .unset, .unset, .unset] []))
        refine own_st (fun _ k => XS.lload X0.here hx rfl (hb hby lw_d79) rfl (XS.lstore X0.here hx rfl (hb hby lw_d81) rfl (l' := #[.val (.long q0), .second, .val (.long q1), .second, .val (.long q2), .second, .val (.int p3), .val (.long v7), .second, .val (.long u0), .second, .val (.int (((p3.toUInt32 >>> ((2 : Int32) &&& 31).toUInt32).toInt32) &&& (7 : Int32))), .val (.long u0), .second, .unset, .unset, .unset]) rfl (XS.goto X0.here hx rfl (pc0 := 83) (pc' := 127) rfl (hb hby lw_d83) (by decide) (by decide) k))) ?_
        show own_Dn p e below s _ _ _ (T0.setTop (mkF m 127 #[.val (.long q0), .second, .val (.long q1), .second, .val (.long q2), .second, .val (.int p3), .val (.long v7), .second, .val (.long u0), .second, .val (.int (((p3.toUInt32 >>> ((2 : Int32) &&& 31).toUInt32).toInt32) &&& (7 : Int32))), .val (.long u0), .second, .unset, .unset, .unset] []))
        exact lw_c127 C0 X0 e0 N0 (v7) (u0) ((((p3.toUInt32 >>> ((2 : Int32) &&& 31).toUInt32).toInt32) &&& (7 : Int32))) (u0) Z0 (by rw [hr0, lw_f30, if_neg hc30, if_neg hc31, if_pos hc32])
      · refine own_st (fun _ k => XS.icmpYes X0.here hx rfl (pc0 := 76) (pc' := 86) rfl (hb hby lw_d76) rfl (feq hc32).2 (by decide) (by decide) k) ?_
        show own_Dn p e below s _ _ _ (T0.setTop (mkF m 86 #[.val (.long q0), .second, .val (.long q1), .second, .val (.long q2), .second, .val (.int p3), .val (.long v7), .second, .val (.long u0), .second, .val (.int (((p3.toUInt32 >>> ((2 : Int32) &&& 31).toUInt32).toInt32) &&& (7 : Int32))), .val (.long q2), .second, .unset, .unset, .unset] []))
        refine own_st (fun _ k => XS.iload X0.here hx rfl (hb hby lw_d86) rfl (XS.iconst X0.here hx rfl (hb hby lw_d88) k)) ?_
        show own_Dn p e below s _ _ _ (T0.setTop (mkF m 89 #[.val (.long q0), .second, .val (.long q1), .second, .val (.long q2), .second, .val (.int p3), .val (.long v7), .second, .val (.long u0), .second, .val (.int (((p3.toUInt32 >>> ((2 : Int32) &&& 31).toUInt32).toInt32) &&& (7 : Int32))), .val (.long q2), .second, .unset, .unset, .unset] [(.int (4 : Int32)), (.int (((p3.toUInt32 >>> ((2 : Int32) &&& 31).toUInt32).toInt32) &&& (7 : Int32)))]))
        by_cases hc33 : (((p3.toUInt32 >>> ((2 : Int32) &&& 31).toUInt32).toInt32) &&& (7 : Int32)) = (4 : Int32)
        · refine own_st (fun _ k => XS.icmpNo X0.here hx rfl (hb hby lw_d89) rfl (teq hc33).2 k) ?_
          show own_Dn p e below s _ _ _ (T0.setTop (mkF m 92 #[.val (.long q0), .second, .val (.long q1), .second, .val (.long q2), .second, .val (.int p3), .val (.long v7), .second, .val (.long u0), .second, .val (.int (((p3.toUInt32 >>> ((2 : Int32) &&& 31).toUInt32).toInt32) &&& (7 : Int32))), .val (.long q2), .second, .unset, .unset, .unset] []))
          refine own_st (fun _ k => XS.lload X0.here hx rfl (hb hby lw_d92) rfl (XS.lconst X0.here hx rfl (hb hby lw_d94) (XS.lsub X0.here hx rfl (hb hby lw_d95) rfl (XS.lstore X0.here hx rfl (hb hby lw_d96) rfl (l' := #[.val (.long q0), .second, .val (.long q1), .second, .val (.long q2), .second, .val (.int p3), .val (.long v7), .second, .val (.long u0), .second, .val (.int (((p3.toUInt32 >>> ((2 : Int32) &&& 31).toUInt32).toInt32) &&& (7 : Int32))), .val (.long (u0 - (1 : Int64))), .second, .unset, .unset, .unset]) rfl (XS.goto X0.here hx rfl (pc0 := 98) (pc' := 127) rfl (hb hby lw_d98) (by decide) (by decide) k))))) ?_
          show own_Dn p e below s _ _ _ (T0.setTop (mkF m 127 #[.val (.long q0), .second, .val (.long q1), .second, .val (.long q2), .second, .val (.int p3), .val (.long v7), .second, .val (.long u0), .second, .val (.int (((p3.toUInt32 >>> ((2 : Int32) &&& 31).toUInt32).toInt32) &&& (7 : Int32))), .val (.long (u0 - (1 : Int64))), .second, .unset, .unset, .unset] []))
          exact lw_c127 C0 X0 e0 N0 (v7) (u0) ((((p3.toUInt32 >>> ((2 : Int32) &&& 31).toUInt32).toInt32) &&& (7 : Int32))) ((u0 - (1 : Int64))) Z0 (by rw [hr0, lw_f30, if_neg hc30, if_neg hc31, if_neg hc32, if_pos hc33])
        · refine own_st (fun _ k => XS.icmpYes X0.here hx rfl (pc0 := 89) (pc' := 101) rfl (hb hby lw_d89) rfl (feq hc33).2 (by decide) (by decide) k) ?_
          show own_Dn p e below s _ _ _ (T0.setTop (mkF m 101 #[.val (.long q0), .second, .val (.long q1), .second, .val (.long q2), .second, .val (.int p3), .val (.long v7), .second, .val (.long u0), .second, .val (.int (((p3.toUInt32 >>> ((2 : Int32) &&& 31).toUInt32).toInt32) &&& (7 : Int32))), .val (.long q2), .second, .unset, .unset, .unset] []))
          refine own_st (fun _ k => XS.iload X0.here hx rfl (hb hby lw_d101) rfl (XS.iconst X0.here hx rfl (hb hby lw_d103) k)) ?_
          show own_Dn p e below s _ _ _ (T0.setTop (mkF m 104 #[.val (.long q0), .second, .val (.long q1), .second, .val (.long q2), .second, .val (.int p3), .val (.long v7), .second, .val (.long u0), .second, .val (.int (((p3.toUInt32 >>> ((2 : Int32) &&& 31).toUInt32).toInt32) &&& (7 : Int32))), .val (.long q2), .second, .unset, .unset, .unset] [(.int (5 : Int32)), (.int (((p3.toUInt32 >>> ((2 : Int32) &&& 31).toUInt32).toInt32) &&& (7 : Int32)))]))
          by_cases hc34 : (((p3.toUInt32 >>> ((2 : Int32) &&& 31).toUInt32).toInt32) &&& (7 : Int32)) = (5 : Int32)
          · refine own_st (fun _ k => XS.icmpNo X0.here hx rfl (hb hby lw_d104) rfl (teq hc34).2 k) ?_
            show own_Dn p e below s _ _ _ (T0.setTop (mkF m 107 #[.val (.long q0), .second, .val (.long q1), .second, .val (.long q2), .second, .val (.int p3), .val (.long v7), .second, .val (.long u0), .second, .val (.int (((p3.toUInt32 >>> ((2 : Int32) &&& 31).toUInt32).toInt32) &&& (7 : Int32))), .val (.long q2), .second, .unset, .unset, .unset] []))
            refine own_st (fun _ k => X0.ldc2Long hx (index := 11) (v := (9223372036854775807 : Int64)) hown (mvT hZ (hw _ (List.mem_of_getElem? (i := 0) rfl))) (g := (mkF m 107 #[.val (.long q0), .second, .val (.long q1), .second, .val (.long q2), .second, .val (.int p3), .val (.long v7), .second, .val (.long u0), .second, .val (.int (((p3.toUInt32 >>> ((2 : Int32) &&& 31).toUInt32).toInt32) &&& (7 : Int32))), .val (.long q2), .second, .unset, .unset, .unset] [])) rfl (hb hby lw_d107) _ (XS.lstore X0.here hx rfl (hb hby lw_d110) rfl (l' := #[.val (.long q0), .second, .val (.long q1), .second, .val (.long q2), .second, .val (.int p3), .val (.long v7), .second, .val (.long u0), .second, .val (.int (((p3.toUInt32 >>> ((2 : Int32) &&& 31).toUInt32).toInt32) &&& (7 : Int32))), .val (.long (9223372036854775807 : Int64)), .second, .unset, .unset, .unset]) rfl (XS.goto X0.here hx rfl (pc0 := 112) (pc' := 127) rfl (hb hby lw_d112) (by decide) (by decide) k))) ?_
            show own_Dn p e below s _ _ _ (T0.setTop (mkF m 127 #[.val (.long q0), .second, .val (.long q1), .second, .val (.long q2), .second, .val (.int p3), .val (.long v7), .second, .val (.long u0), .second, .val (.int (((p3.toUInt32 >>> ((2 : Int32) &&& 31).toUInt32).toInt32) &&& (7 : Int32))), .val (.long (9223372036854775807 : Int64)), .second, .unset, .unset, .unset] []))
            exact lw_c127 C0 X0 e0 N0 (v7) (u0) ((((p3.toUInt32 >>> ((2 : Int32) &&& 31).toUInt32).toInt32) &&& (7 : Int32))) ((9223372036854775807 : Int64)) Z0 (by rw [hr0, lw_f30, if_neg hc30, if_neg hc31, if_neg hc32, if_neg hc33, if_pos hc34])
          · refine own_st (fun _ k => XS.icmpYes X0.here hx rfl (pc0 := 104) (pc' := 115) rfl (hb hby lw_d104) rfl (feq hc34).2 (by decide) (by decide) k) ?_
            show own_Dn p e below s _ _ _ (T0.setTop (mkF m 115 #[.val (.long q0), .second, .val (.long q1), .second, .val (.long q2), .second, .val (.int p3), .val (.long v7), .second, .val (.long u0), .second, .val (.int (((p3.toUInt32 >>> ((2 : Int32) &&& 31).toUInt32).toInt32) &&& (7 : Int32))), .val (.long q2), .second, .unset, .unset, .unset] []))
            refine own_st (fun _ k => XS.iload X0.here hx rfl (hb hby lw_d115) rfl (XS.bipush X0.here hx rfl (hb hby lw_d117) k)) ?_
            show own_Dn p e below s _ _ _ (T0.setTop (mkF m 119 #[.val (.long q0), .second, .val (.long q1), .second, .val (.long q2), .second, .val (.int p3), .val (.long v7), .second, .val (.long u0), .second, .val (.int (((p3.toUInt32 >>> ((2 : Int32) &&& 31).toUInt32).toInt32) &&& (7 : Int32))), .val (.long q2), .second, .unset, .unset, .unset] [(.int (6 : Int32)), (.int (((p3.toUInt32 >>> ((2 : Int32) &&& 31).toUInt32).toInt32) &&& (7 : Int32)))]))
            by_cases hc35 : (((p3.toUInt32 >>> ((2 : Int32) &&& 31).toUInt32).toInt32) &&& (7 : Int32)) = (6 : Int32)
            · refine own_st (fun _ k => XS.icmpNo X0.here hx rfl (hb hby lw_d119) rfl (teq hc35).2 k) ?_
              show own_Dn p e below s _ _ _ (T0.setTop (mkF m 122 #[.val (.long q0), .second, .val (.long q1), .second, .val (.long q2), .second, .val (.int p3), .val (.long v7), .second, .val (.long u0), .second, .val (.int (((p3.toUInt32 >>> ((2 : Int32) &&& 31).toUInt32).toInt32) &&& (7 : Int32))), .val (.long q2), .second, .unset, .unset, .unset] []))
              refine own_st (fun _ k => X0.ldc2Long hx (index := 9) (v := (-9223372036854775808 : Int64)) hown (mvT hZ (hw _ (List.mem_of_getElem? (i := 19) rfl))) (g := (mkF m 122 #[.val (.long q0), .second, .val (.long q1), .second, .val (.long q2), .second, .val (.int p3), .val (.long v7), .second, .val (.long u0), .second, .val (.int (((p3.toUInt32 >>> ((2 : Int32) &&& 31).toUInt32).toInt32) &&& (7 : Int32))), .val (.long q2), .second, .unset, .unset, .unset] [])) rfl (hb hby lw_d122) _ (XS.lstore X0.here hx rfl (hb hby lw_d125) rfl (l' := #[.val (.long q0), .second, .val (.long q1), .second, .val (.long q2), .second, .val (.int p3), .val (.long v7), .second, .val (.long u0), .second, .val (.int (((p3.toUInt32 >>> ((2 : Int32) &&& 31).toUInt32).toInt32) &&& (7 : Int32))), .val (.long (-9223372036854775808 : Int64)), .second, .unset, .unset, .unset]) rfl k)) ?_
              show own_Dn p e below s _ _ _ (T0.setTop (mkF m 127 #[.val (.long q0), .second, .val (.long q1), .second, .val (.long q2), .second, .val (.int p3), .val (.long v7), .second, .val (.long u0), .second, .val (.int (((p3.toUInt32 >>> ((2 : Int32) &&& 31).toUInt32).toInt32) &&& (7 : Int32))), .val (.long (-9223372036854775808 : Int64)), .second, .unset, .unset, .unset] []))
              exact lw_c127 C0 X0 e0 N0 (v7) (u0) ((((p3.toUInt32 >>> ((2 : Int32) &&& 31).toUInt32).toInt32) &&& (7 : Int32))) ((-9223372036854775808 : Int64)) Z0 (by rw [hr0, lw_f30, if_neg hc30, if_neg hc31, if_neg hc32, if_neg hc33, if_neg hc34, if_pos hc35])
            · refine own_st (fun _ k => XS.icmpYes X0.here hx rfl (pc0 := 119) (pc' := 127) rfl (hb hby lw_d119) rfl (feq hc35).2 (by decide) (by decide) k) ?_
              show own_Dn p e below s _ _ _ (T0.setTop (mkF m 127 #[.val (.long q0), .second, .val (.long q1), .second, .val (.long q2), .second, .val (.int p3), .val (.long v7), .second, .val (.long u0), .second, .val (.int (((p3.toUInt32 >>> ((2 : Int32) &&& 31).toUInt32).toInt32) &&& (7 : Int32))), .val (.long q2), .second, .unset, .unset, .unset] []))
              exact lw_c127 C0 X0 e0 N0 (v7) (u0) ((((p3.toUInt32 >>> ((2 : Int32) &&& 31).toUInt32).toInt32) &&& (7 : Int32))) (q2) Z0 (by rw [hr0, lw_f30, if_neg hc30, if_neg hc31, if_neg hc32, if_neg hc33, if_neg hc34, if_neg hc35])
def lw_f14 (q0 : Int64) (q1 : Int64) (q2 : Int64) (p3 : Int32) (u0 : Int64) : Int32 :=
  if (p3 &&& (2 : Int32)) = (0 : Int32) then
    lw_f30 q0 q1 q2 p3 (u0) (q1)
  else
    lw_f30 q0 q1 q2 p3 (u0) ((9223372036854775807 : Int64))
set_option maxRecDepth 65536 in
set_option maxHeartbeats 40000000 in
theorem lw_c14 {l : Launch} {Z : State} {a0 : Array Value} {q0 : Int64} {q1 : Int64} {q2 : Int64} {p3 : Int32} {h0 : Heap} {n0 : Nat} {p : Program} {e : Env} {s : State} {m : MethodId} {args : Array Value} {below : List Frame} {meth : Method} {c : Code} {T0 : State} {locs : List Loc} {r0 : Int32} (C0 : own_Cx p s m meth c Z a0 code 17 "com/example/tally_flows/tallyflows/charging/TimeWindowContainsPinLaw" "law" (some .boolean)) (X0 : Stand p l e room_1 s m args below meth c T0 locs 0 0) (e0 : T0.heap = h0) (N0 : Fr n0 locs) (u0 : Int64) (Z0 : n0 ≤ h0.size) (hr0 : r0 = lw_f14 q0 q1 q2 p3 u0) :
    own_Dn p e below s (own_QL (some (.int r0)) n0) room_1.cells room_1.slots (T0.setTop (mkF m 14 #[.val (.long q0), .second, .val (.long q1), .second, .val (.long q2), .second, .val (.int p3), .unset, .unset, .unset, .unset, .unset, .unset, .unset, .unset, .unset, .unset] [(.long u0)])) := by
  obtain ⟨hx, hZ, hw, hby, hml, hown, hret, hlk, hnm⟩ := id C0
  refine own_st (fun _ k => XS.lstore X0.here hx rfl (hb hby lw_d14) rfl (l' := #[.val (.long q0), .second, .val (.long q1), .second, .val (.long q2), .second, .val (.int p3), .val (.long u0), .second, .unset, .unset, .unset, .unset, .unset, .unset, .unset, .unset]) rfl (XS.iload X0.here hx rfl (hb hby lw_d16) rfl (XS.iconst X0.here hx rfl (hb hby lw_d18) (XS.iand X0.here hx rfl (hb hby lw_d19) rfl k)))) ?_
  show own_Dn p e below s _ _ _ (T0.setTop (mkF m 20 #[.val (.long q0), .second, .val (.long q1), .second, .val (.long q2), .second, .val (.int p3), .val (.long u0), .second, .unset, .unset, .unset, .unset, .unset, .unset, .unset, .unset] [(.int (p3 &&& (2 : Int32)))]))
  by_cases hc29 : (p3 &&& (2 : Int32)) = (0 : Int32)
  · refine own_st (fun _ k => XS.ifYes X0.here hx rfl (pc0 := 20) (pc' := 29) rfl (hb hby lw_d20) rfl ((if0 _ _).trans (teq hc29).1) (by decide) (by decide) k) ?_
    show own_Dn p e below s _ _ _ (T0.setTop (mkF m 29 #[.val (.long q0), .second, .val (.long q1), .second, .val (.long q2), .second, .val (.int p3), .val (.long u0), .second, .unset, .unset, .unset, .unset, .unset, .unset, .unset, .unset] []))
    refine own_st (fun _ k => XS.lloadN X0.here hx rfl (hb hby lw_d29) rfl k) ?_
    show own_Dn p e below s _ _ _ (T0.setTop (mkF m 30 #[.val (.long q0), .second, .val (.long q1), .second, .val (.long q2), .second, .val (.int p3), .val (.long u0), .second, .unset, .unset, .unset, .unset, .unset, .unset, .unset, .unset] [(.long q1)]))
    exact lw_c30 C0 X0 e0 N0 (u0) (q1) Z0 (by rw [hr0, lw_f14, if_pos hc29])
  · refine own_st (fun _ k => XS.ifNo X0.here hx rfl (hb hby lw_d20) rfl ((if0 _ _).trans (feq hc29).1) k) ?_
    show own_Dn p e below s _ _ _ (T0.setTop (mkF m 23 #[.val (.long q0), .second, .val (.long q1), .second, .val (.long q2), .second, .val (.int p3), .val (.long u0), .second, .unset, .unset, .unset, .unset, .unset, .unset, .unset, .unset] []))
    refine own_st (fun _ k => X0.ldc2Long hx (index := 11) (v := (9223372036854775807 : Int64)) hown (mvT hZ (hw _ (List.mem_of_getElem? (i := 0) rfl))) (g := (mkF m 23 #[.val (.long q0), .second, .val (.long q1), .second, .val (.long q2), .second, .val (.int p3), .val (.long u0), .second, .unset, .unset, .unset, .unset, .unset, .unset, .unset, .unset] [])) rfl (hb hby lw_d23) _ (XS.goto X0.here hx rfl (pc0 := 26) (pc' := 30) rfl (hb hby lw_d26) (by decide) (by decide) k)) ?_
    show own_Dn p e below s _ _ _ (T0.setTop (mkF m 30 #[.val (.long q0), .second, .val (.long q1), .second, .val (.long q2), .second, .val (.int p3), .val (.long u0), .second, .unset, .unset, .unset, .unset, .unset, .unset, .unset, .unset] [(.long (9223372036854775807 : Int64))]))
    exact lw_c30 C0 X0 e0 N0 (u0) ((9223372036854775807 : Int64)) Z0 (by rw [hr0, lw_f14, if_neg hc29])
def lw_f (q0 : Int64) (q1 : Int64) (q2 : Int64) (p3 : Int32)  : Int32 :=
  if (p3 &&& (1 : Int32)) = (0 : Int32) then
    lw_f14 q0 q1 q2 p3 (q0)
  else
    lw_f14 q0 q1 q2 p3 ((-9223372036854775808 : Int64))
set_option maxRecDepth 65536 in
set_option maxHeartbeats 40000000 in
theorem lw_c0 {l : Launch} {Z : State} {a0 : Array Value} {q0 : Int64} {q1 : Int64} {q2 : Int64} {p3 : Int32} {h0 : Heap} {n0 : Nat} {p : Program} {e : Env} {s : State} {m : MethodId} {args : Array Value} {below : List Frame} {meth : Method} {c : Code} {T0 : State} {locs : List Loc} {r0 : Int32} (C0 : own_Cx p s m meth c Z a0 code 17 "com/example/tally_flows/tallyflows/charging/TimeWindowContainsPinLaw" "law" (some .boolean)) (X0 : Stand p l e room_1 s m args below meth c T0 locs 0 0) (e0 : T0.heap = h0) (N0 : Fr n0 locs)  (Z0 : n0 ≤ h0.size) (hr0 : r0 = lw_f q0 q1 q2 p3 ) :
    own_Dn p e below s (own_QL (some (.int r0)) n0) room_1.cells room_1.slots (T0.setTop (mkF m 0 #[.val (.long q0), .second, .val (.long q1), .second, .val (.long q2), .second, .val (.int p3), .unset, .unset, .unset, .unset, .unset, .unset, .unset, .unset, .unset, .unset] [])) := by
  obtain ⟨hx, hZ, hw, hby, hml, hown, hret, hlk, hnm⟩ := id C0
  refine own_st (fun _ k => XS.iload X0.here hx rfl (hb hby lw_d0) rfl (XS.iconst X0.here hx rfl (hb hby lw_d2) (XS.iand X0.here hx rfl (hb hby lw_d3) rfl k))) ?_
  show own_Dn p e below s _ _ _ (T0.setTop (mkF m 4 #[.val (.long q0), .second, .val (.long q1), .second, .val (.long q2), .second, .val (.int p3), .unset, .unset, .unset, .unset, .unset, .unset, .unset, .unset, .unset, .unset] [(.int (p3 &&& (1 : Int32)))]))
  by_cases hc28 : (p3 &&& (1 : Int32)) = (0 : Int32)
  · refine own_st (fun _ k => XS.ifYes X0.here hx rfl (pc0 := 4) (pc' := 13) rfl (hb hby lw_d4) rfl ((if0 _ _).trans (teq hc28).1) (by decide) (by decide) k) ?_
    show own_Dn p e below s _ _ _ (T0.setTop (mkF m 13 #[.val (.long q0), .second, .val (.long q1), .second, .val (.long q2), .second, .val (.int p3), .unset, .unset, .unset, .unset, .unset, .unset, .unset, .unset, .unset, .unset] []))
    refine own_st (fun _ k => XS.lloadN X0.here hx rfl (hb hby lw_d13) rfl k) ?_
    show own_Dn p e below s _ _ _ (T0.setTop (mkF m 14 #[.val (.long q0), .second, .val (.long q1), .second, .val (.long q2), .second, .val (.int p3), .unset, .unset, .unset, .unset, .unset, .unset, .unset, .unset, .unset, .unset] [(.long q0)]))
    exact lw_c14 C0 X0 e0 N0 (q0) Z0 (by rw [hr0, lw_f, if_pos hc28])
  · refine own_st (fun _ k => XS.ifNo X0.here hx rfl (hb hby lw_d4) rfl ((if0 _ _).trans (feq hc28).1) k) ?_
    show own_Dn p e below s _ _ _ (T0.setTop (mkF m 7 #[.val (.long q0), .second, .val (.long q1), .second, .val (.long q2), .second, .val (.int p3), .unset, .unset, .unset, .unset, .unset, .unset, .unset, .unset, .unset, .unset] []))
    refine own_st (fun _ k => X0.ldc2Long hx (index := 9) (v := (-9223372036854775808 : Int64)) hown (mvT hZ (hw _ (List.mem_of_getElem? (i := 19) rfl))) (g := (mkF m 7 #[.val (.long q0), .second, .val (.long q1), .second, .val (.long q2), .second, .val (.int p3), .unset, .unset, .unset, .unset, .unset, .unset, .unset, .unset, .unset, .unset] [])) rfl (hb hby lw_d7) _ (XS.goto X0.here hx rfl (pc0 := 10) (pc' := 14) rfl (hb hby lw_d10) (by decide) (by decide) k)) ?_
    show own_Dn p e below s _ _ _ (T0.setTop (mkF m 14 #[.val (.long q0), .second, .val (.long q1), .second, .val (.long q2), .second, .val (.int p3), .unset, .unset, .unset, .unset, .unset, .unset, .unset, .unset, .unset, .unset] [(.long (-9223372036854775808 : Int64))]))
    exact lw_c14 C0 X0 e0 N0 ((-9223372036854775808 : Int64)) Z0 (by rw [hr0, lw_f, if_neg hc28])
theorem lw_ef (m : MethodId) (q0 : Int64) (q1 : Int64) (q2 : Int64) (p3 : Int32) : entryFrame m #[(.long q0), (.long q1), (.long q2), (.int p3)] maxLocals = mkF m 0 #[.val (.long q0), .second, .val (.long q1), .second, .val (.long q2), .second, .val (.int p3), .unset, .unset, .unset, .unset, .unset, .unset, .unset, .unset, .unset, .unset] [] := by first | (simp [entryFrame, mkF, argsToLocals, Value.category, maxLocals]; done) | rfl
theorem lw_rm (l : Launch) (Z : State) (a0 : Array Value) (hw : ∀ d ∈ tables_1, d.before a0 Z = true) (ws : List Jvm.Cond) (q0 : Int64) (q1 : Int64) (q2 : Int64) (p3 : Int32) (h0 : Heap) (n0 : Nat) (Z0 : n0 ≤ h0.size) :
    MetFree l x (head1 (Jvm.Cond.code x code maxLocals ret :: ws) room_1) (fun a U => a = #[(.long q0), (.long q1), (.long q2), (.int p3)] ∧ Z.Warmed39 U.vm ∧ U.heap = h0) (fun _ _ _ _ _ => True) (fun _ U o U' => ∃ v L, o = .returned v ∧ (own_QL (some (.int (lw_f q0 q1 q2 p3))) n0) v U'.heap L ∧ FrameEnd U o U' L room_1.cells room_1.slots) :=
  own_met hw (plainFor_of_name (by first | (simp [plainName, overriddenIn]; done) | decide +kernel)) (fun p e s m below meth c T0 C0 X0 e0 => own_st (fun _ k => castTop (lw_ef m q0 q1 q2 p3) k) (lw_c0 C0 X0 e0 (Fr.nil n0) Z0  rfl))
theorem own_l127 (q0 q1 q2 : Int64) (p3 : Int32) (v7 v9 : Int64) (v11 : Int32) (v12 : Int64) : lw_f127 q0 q1 q2 p3 v7 v9 v11 v12 = 1 := by
  simp only [lw_f127, cn_f]
  by_cases a : v12 < v7
  · simp [a]
  · by_cases b : v12 < v9
    · by_cases c : v9 = 9223372036854775807
      · simp [a, b, c]
      · simp [a, b, c]
    · by_cases c : v9 = 9223372036854775807
      · simp [a, b, c]
      · simp [a, b, c]
theorem own_law (q0 q1 q2 : Int64) (p3 : Int32) : lw_f q0 q1 q2 p3 = 1 := by
  simp only [lw_f, lw_f14, lw_f30, own_l127, ite_self]

set_option maxRecDepth 65536 in
set_option maxHeartbeats 40000000 in
theorem comes_1 {Post : Tables → Env → Array Value → State → Outcome → State → Prop} (hpost : ∀ tb e args s v u, (limb_1_1.after args s (.returned v) u = true ∧ limb_1_2.after args s (.returned v) u = true ∧ True) → FrameEnd s (.returned v) u (Jvm.fieldLocs frame_1_writes args s ++ Jvm.arrayLocs frame_1_arrays args s ++ Jvm.staticLocs frame_1_statics s) 16 128 → Post tb e args s (.returned v) u) :
    ArmFor flags0 classFile x code maxLocals ret World_1 tables_1 room_1 Calls_1 rest_1 Pre_1 Post := by
  intro l hfl _ _ p e ha hc hk s m args below hf hA hF happ hP
  obtain ⟨hcalls, hrest, hpre⟩ := hP
  obtain ⟨-, -, -, hnamed, -, -, -, hat⟩ := (Spec.applies_iff hf).mp happ
  obtain ⟨hg, hn⟩ := and_e (Cond.before_iff.mp (show (Jvm.Cond.and given_1 narrow_1).before args s = true from hpre))
  obtain ⟨gc, hg0⟩ := and_e hg
  obtain ⟨g0, hg1⟩ := and_e hg0
  obtain ⟨g1, hg2⟩ := and_e hg1
  obtain ⟨g2, g3⟩ := and_e hg2
  obtain ⟨w0, w1, w2, w3, rfl⟩ : ∃ w0 w1 w2 w3 : Value, args = #[w0, w1, w2, w3] := by
    have hs : args.size = 4 := by simpa [Cond.value, given_1] using gc
    obtain ⟨L⟩ := args
    match L, hs with
    | [w0, w1, w2, w3], _ => exact ⟨w0, w1, w2, w3, rfl⟩
  have hw := fun d (hd : d ∈ tables_1) => atoms_spec (ws := Jvm.Cond.code x code maxLocals ret :: tables_1) hat d (List.mem_cons_of_mem _ hd)
  have hfit : Fit s := fun {y c} hc i hi => by
    obtain ⟨ha, rfl⟩ := Array.getElem?_eq_some_iff.mp hc
    have q := List.all_eq_true.mp ((Array.all_eq_true_iff_forall_mem.mp hF) _ (Array.getElem_mem ha)) i (List.mem_range.mpr hi)
    simpa [Array.getElem?_eq_getElem hi] using q
  obtain ⟨i0, ei0⟩ := isL_v g0
  obtain rfl : w0 = (.long i0) := Option.some.inj ei0
  obtain ⟨i1, ei1⟩ := isL_v g1
  obtain rfl : w1 = (.long i1) := Option.some.inj ei1
  obtain ⟨i2, ei2⟩ := isL_v g2
  obtain rfl : w2 = (.long i2) := Option.some.inj ei2
  obtain ⟨i3, ei3⟩ := is_v g3
  obtain rfl : w3 = (.int i3) := Option.some.inj ei3
  obtain ⟨n, o, h1, h2, h3, _, L, rfl, ⟨rfl, N⟩, hq⟩ := lw_rm l s _ hw tables_1 i0 i1 i2 i3  s.heap s.heap.size (Nat.le_refl _) p e ha hc hk s m _ below hf ((Spec.applies_iff_loose hf).mp happ).1 ⟨rfl, State.Warmed39.refl s, rfl⟩ trivial
  refine ⟨n, _, h1, h2, h3, hpost _ _ _ _ _ _ ⟨Cond.after_iff.mpr rfl, Cond.after_iff.mpr (eq_i res_at (Term.int_eval (1)) (by rw [own_law])), trivial⟩ ⟨hq.1, hq.2.1, (hq.2.2.sift fun y hy => Or.inr (N y hy)).mono (by decide) (by decide)⟩⟩
theorem main_1_1 : Claimed_1_1 := comes_1 fun _ _ _ _ _ _ h hF => ⟨h.1, hF⟩
theorem main_1_2 : Claimed_1_2 := comes_1 fun _ _ _ _ _ _ h hF => ⟨h.2.1, hF⟩
end Jvm.Pilot.@@N@@
namespace Jvm.Pilot.@@N@@
open Jvm Jvm.ClassFile Sem Op Lib Jvm.Free Jvm.Stand Jvm.Pilot.@@N@@.Jvm.D
/-! MADE BY PROGRAM (witnessworld.py) out of the Statement's table words and the real class files: 9 classes; the members and pool entries that the words name. The judged class is class 1, her method 1. -/
namespace start1
open Jvm.ClassFile
def u (s : String) : CpInfo := .utf8 (stringToUtf16 s)
/-- a pool by its gaps: so many unusable entries, then the entry; so many at the end -/
def gap : Nat → List CpInfo → List CpInfo
  | 0, r => r
  | n + 1, r => .unusable :: gap n r
def poolList (es : List (Nat × CpInfo)) (last : Nat) : List CpInfo := es.foldr (fun e r => gap e.1 (e.2 :: r)) (gap last [])
def pool (es : List (Nat × CpInfo)) (last : Nat) : Array CpInfo := ⟨poolList es last⟩
def fileOf (pool : Array CpInfo) (this : Nat) (attrs : Array Attribute := #[]) (ms : Array MethodInfo := #[]) (fl : Nat := 33) (sup : Nat := 0) (ifs : Array Nat := #[]) (fds : Array FieldInfo := #[]) : ClassFile where
  minorVersion := 0
  majorVersion := 65
  constantPool := pool
  accessFlags := fl
  thisClass := this
  superClass := sup
  interfaces := ifs
  fields := fds
  methods := ms
  attributes := attrs
def plain (name : String) (sup : Option ClassId) : Class where
  name := name
  kind := .ordinary
  loader := none
  accessFlags := 33
  super := sup
  interfaces := #[]
  cf := none
  fields := #[]
  methods := #[]
  instanceTypes := #[]
  staticTypes := #[]
  resolved := #[]
  callSites := []
  init := .initialized
  statics := none
  mirror := none

def pool0 : Array CpInfo := pool [(5, u "<init>"), (0, u "()V"), (1, .class_ 10), (1, u "java/lang/Object")] 113

def k0c0 : Code := { maxStack := 0, maxLocals := 1, code := object_method_1_code, exceptionTable := #[], attributes := #[] }
def k0m0 : Method := { name := "<init>", desc := "()V", sig := { parameters := [], returnType := none }, accessFlags := 1, code := some k0c0 }
/-- java/lang/Object -/
def k0 : Class := { plain "java/lang/Object" none with
  accessFlags := 33
  interfaces := #[]
  cf := some (fileOf pool0 8 #[] #[{ accessFlags := 1, nameIndex := 5, descriptorIndex := 6, attributes := #[] }] 33 0 #[] #[])
  fields := #[]
  methods := #[k0m0]
  instanceTypes := #[]
  staticTypes := #[]
  resolved := Array.replicate 124 none
  statics := none }

def pool1 : Array CpInfo := pool [(2, .class_ 4), (1, u "java/lang/Object"), (0, u "<init>"), (0, u "()V"), (2, .long 9223372036854775808), (1, .long 9223372036854775807), (1, .class_ 14), (0, u "com/example/tally_flows/tallyflows/charging/TimeWindow"), (0, .methodref 13 16), (0, .nameAndType 5 17), (0, u "(JJ)V"), (0, .methodref 13 19), (0, .nameAndType 20 21), (0, u "contains"), (0, u "(J)Z"), (0, .class_ 23), (0, u "com/example/tally_flows/tallyflows/charging/TimeWindowContainsPinLaw"), (2, u "law"), (0, u "(JJJI)Z")] 3

def k1m0 : Method := { name := "<init>", desc := "()V", sig := { parameters := [], returnType := none }, accessFlags := 1, code := none }
def k1c1 : Code := { maxStack := 6, maxLocals := 17, code := code, exceptionTable := #[], attributes := #[] }
def k1m1 : Method := { name := "law", desc := "(JJJI)Z", sig := { parameters := [.long, .long, .long, .int], returnType := some .boolean }, accessFlags := 9, code := some k1c1 }
/-- com/example/tally_flows/tallyflows/charging/TimeWindowContainsPinLaw -/
def k1 : Class := { plain "com/example/tally_flows/tallyflows/charging/TimeWindowContainsPinLaw" (some 0) with
  accessFlags := 49
  interfaces := #[]
  cf := some (fileOf pool1 22 #[] #[{ accessFlags := 1, nameIndex := 5, descriptorIndex := 6, attributes := #[] }, { accessFlags := 9, nameIndex := 26, descriptorIndex := 27, attributes := #[] }] 49 2 #[] #[])
  fields := #[]
  methods := #[k1m0, k1m1]
  instanceTypes := #[]
  staticTypes := #[]
  resolved := Array.replicate 31 none
  statics := none }

def pool2 : Array CpInfo := pool [(3, .methodref 4 5), (0, .class_ 6), (0, .nameAndType 7 8), (0, u "java/lang/Object"), (0, u "<init>"), (0, u "()V"), (0, .fieldref 10 11), (0, .class_ 12), (0, .nameAndType 13 14), (0, u "com/example/tally_flows/tallyflows/charging/TimeWindow"), (0, u "start"), (0, u "J"), (0, .fieldref 10 16), (0, .nameAndType 17 14), (0, u "end"), (12, .long 9223372036854775807), (15, u "(JJ)V"), (15, u "ALWAYS"), (0, u "Lcom/example/tally_flows/tallyflows/charging/TimeWindow;"), (0, u "OPEN_START"), (1, u "OPEN_END"), (8, u "contains"), (0, u "(J)Z")] 24

def k2c0 : Code := { maxStack := 3, maxLocals := 5, code := prog_48_method_1_code, exceptionTable := #[], attributes := #[] }
def k2m0 : Method := { name := "<init>", desc := "(JJ)V", sig := { parameters := [.long, .long], returnType := none }, accessFlags := 0, code := some k2c0 }
def k2c1 : Code := { maxStack := 4, maxLocals := 3, code := prog_48_method_3_code, exceptionTable := #[], attributes := #[] }
def k2m1 : Method := { name := "contains", desc := "(J)Z", sig := { parameters := [.long], returnType := some .boolean }, accessFlags := 0, code := some k2c1 }
/-- com/example/tally_flows/tallyflows/charging/TimeWindow -/
def k2 : Class := { plain "com/example/tally_flows/tallyflows/charging/TimeWindow" (some 0) with
  accessFlags := 48
  interfaces := #[]
  cf := some (fileOf pool2 10 #[] #[{ accessFlags := 0, nameIndex := 7, descriptorIndex := 46, attributes := #[] }, { accessFlags := 0, nameIndex := 75, descriptorIndex := 76, attributes := #[] }] 48 4 #[] #[{ accessFlags := 24, nameIndex := 64, descriptorIndex := 14, attributes := #[] }, { accessFlags := 24, nameIndex := 66, descriptorIndex := 14, attributes := #[] }, { accessFlags := 24, nameIndex := 62, descriptorIndex := 63, attributes := #[] }, { accessFlags := 18, nameIndex := 13, descriptorIndex := 14, attributes := #[] }, { accessFlags := 18, nameIndex := 17, descriptorIndex := 14, attributes := #[] }])
  fields := #[{ name := "OPEN_START", type := .long, accessFlags := 24, slot := 0, constantValue := 0 }, { name := "OPEN_END", type := .long, accessFlags := 24, slot := 1, constantValue := 0 }, { name := "ALWAYS", type := (.object "com/example/tally_flows/tallyflows/charging/TimeWindow"), accessFlags := 24, slot := 2, constantValue := 0 }, { name := "start", type := .long, accessFlags := 18, slot := 0, constantValue := 0 }, { name := "end", type := .long, accessFlags := 18, slot := 1, constantValue := 0 }]
  methods := #[k2m0, k2m1]
  instanceTypes := #[.long, .long]
  staticTypes := #[.long, .long, (.object "com/example/tally_flows/tallyflows/charging/TimeWindow")]
  resolved := Array.replicate 101 none
  statics := none }

def pool3 : Array CpInfo := pool [(1, u "java/lang/Cloneable"), (0, .class_ 1), (0, u "java/lang/Object"), (0, .class_ 3)] 3

/-- java/lang/Cloneable -/
def k3 : Class := { plain "java/lang/Cloneable" (some 0) with
  accessFlags := 1537
  interfaces := #[]
  cf := some (fileOf pool3 2 #[] #[] 1537 4 #[] #[])
  fields := #[]
  methods := #[]
  instanceTypes := #[]
  staticTypes := #[]
  resolved := Array.replicate 8 none
  statics := none }

def pool4 : Array CpInfo := pool [(1, u "java/io/Serializable"), (0, .class_ 1), (0, u "java/lang/Object"), (0, .class_ 3)] 3

/-- java/io/Serializable -/
def k4 : Class := { plain "java/io/Serializable" (some 0) with
  accessFlags := 1537
  interfaces := #[]
  cf := some (fileOf pool4 2 #[] #[] 1537 4 #[] #[])
  fields := #[]
  methods := #[]
  instanceTypes := #[]
  staticTypes := #[]
  resolved := Array.replicate 8 none
  statics := none }

/-- the primitive byte -/
def k5 : Class := { plain "byte" none with kind := .primitive 'B', accessFlags := 0x411 }
/-- [B -/
def k6 : Class := { plain "[B" (some 0) with kind := .array 5 .byte, interfaces := #[3, 4], accessFlags := 1041 }

/-- the primitive int -/
def k7 : Class := { plain "int" none with kind := .primitive 'I', accessFlags := 0x411 }
/-- [I -/
def k8 : Class := { plain "[I" (some 0) with kind := .array 7 .int, interfaces := #[3, 4], accessFlags := 1041 }

def heap : Heap := #[]
def classes : Array Class := #[k0, k1, k2, k3, k4, k5, k6, k7, k8]
def interned : List (Array UInt16 × Addr) := []
def slotsUsed : Nat := 0
def theMethod : MethodId := ⟨1, 1⟩
def args0 : Array Value := #[.long 5, .long 9, .long 7, .int 3]
def aboutOver (below : List Frame) : State where
  vm := { classes := classes, interned := interned.toArray }
  heap := heap
  slotsUsed := slotsUsed
  threads := #[{ frames := .invoking theMethod args0 :: below }]
def below0 : List Frame := [.native { method := ⟨0, 0⟩, args := #[] }]
def about1 : State := aboutOver below0
def p0 : Program := .bare "" "" ""
def e0 : Env := launch0.env 0 0 0
theorem w_frames : about1.frames = Frame.invoking theMethod args0 :: below0 := rfl
set_option maxRecDepth 65536 in
theorem w_args : argsFit about1.vm theMethod args0 = true := by decide +kernel
set_option maxRecDepth 65536 in
theorem w_heap : heapFits about1 = true := by decide +kernel
set_option maxRecDepth 65536 in
theorem w_runnable : about1.curStatus? = some .runnable := by decide +kernel
set_option maxRecDepth 65536 in
theorem w_alone : about1.alone = true := by decide +kernel
set_option maxRecDepth 65536 in
theorem w_named : about1.methodNamed? x = some theMethod := by decide +kernel
set_option maxRecDepth 65536 in
theorem w_hears : about1.hears theMethod below0 = true := by decide +kernel
set_option maxRecDepth 65536 in
theorem w_ripe : about1.ripe theMethod args0 below0 = true := by decide +kernel
theorem w_running : about1.status = .running := rfl
set_option maxRecDepth 65536 in
theorem w_room : about1.hasRoom e0.platform room_1 = true :=
  launch0.hasRoom_least _ room_1 (by decide +kernel) (by decide +kernel) (by decide +kernel) (by decide +kernel) (by decide +kernel) (by decide +kernel)
theorem allAtoms_all (ts : List Jvm.Cond) (a : Array Jvm.Value) (st : Jvm.State) : (allAtoms ts).before a st = ts.all (fun c => c.before a st) := by
  induction ts with
  | nil => rfl
  | cons c t ih =>
    show (Jvm.Cond.and c (allAtoms t)).before a st = _
    rw [Jvm.Cond.before_and, ih, List.all_cons]
def words1 : List Jvm.Cond := Jvm.Cond.code x code maxLocals ret :: tables_1
/-- a 'code' word, met by the world's own term for the bytes: nothing is compared byte by byte -/
theorem code_word {y : MethodName} {bytes : ByteArray} {mx : Nat} {rt : Option FieldType} {a : Array Value} {s : State} {m : MethodId} {meth : Method} {c : Code} (h1 : s.methodNamed? y = some m) (h2 : s.vm.method? m = some meth) (h3 : meth.code = some c) (h4 : c.code = bytes)
    (h5 : (c.maxLocals == mx && c.exceptionTable.isEmpty && decide (c.maxStack ≤ mostOperands) && decide (meth.sig.returnType = rt) && !meth.locks && decide (parseMethodDescriptor y.desc = some meth.sig)) = true) : (Jvm.Cond.code y bytes mx rt).before a s = true := by
  simp only [Bool.and_eq_true, beq_iff_eq, Bool.not_eq_true', decide_eq_true_eq] at h5
  obtain ⟨⟨⟨⟨⟨g1, g2⟩, g3⟩, g4⟩, g5⟩, g6⟩ := h5
  simp [Cond.before, Cond.holds, Cond.value, h1, h2, h3, h4, g1, g2, g3, g4, g5, g6]
def isCode : Jvm.Cond → Bool
  | .code _ _ _ _ => true
  | _ => false
theorem all_split {L : List Jvm.Cond} {P : Jvm.Cond → Bool} (h1 : L.all (fun c => isCode c || P c) = true) (h2 : ∀ c ∈ L.filter isCode, P c = true) : L.all P = true := by
  refine List.all_eq_true.mpr fun c hc => ?_
  have h := List.all_eq_true.mp h1 c hc
  rcases Bool.eq_false_or_eq_true (isCode c) with hi | hi
  · exact h2 c (List.mem_filter.mpr ⟨hc, hi⟩)
  · simpa [hi] using h
set_option maxRecDepth 65536 in
theorem w_c0 : (Jvm.Cond.code x code maxLocals ret).before args0 about1 = true := code_word (m := ⟨1, 1⟩) (meth := k1m1) (c := k1c1) (by decide +kernel) rfl rfl rfl (by decide +kernel)
set_option maxRecDepth 65536 in
theorem w_c1 : (Jvm.Cond.code ({ cls := "com/example/tally_flows/tallyflows/charging/TimeWindow", name := "<init>", desc := "(JJ)V" } : Jvm.MethodName) prog_48_method_1_code (5 : Nat) (Option.none : Option Jvm.ClassFile.FieldType)).before args0 about1 = true := code_word (m := ⟨2, 0⟩) (meth := k2m0) (c := k2c0) (by decide +kernel) rfl rfl rfl (by decide +kernel)
set_option maxRecDepth 65536 in
theorem w_c2 : (Jvm.Cond.code ({ cls := "java/lang/Object", name := "<init>", desc := "()V" } : Jvm.MethodName) object_method_1_code (1 : Nat) (Option.none : Option Jvm.ClassFile.FieldType)).before args0 about1 = true := code_word (m := ⟨0, 0⟩) (meth := k0m0) (c := k0c0) (by decide +kernel) rfl rfl rfl (by decide +kernel)
set_option maxRecDepth 65536 in
theorem w_c3 : (Jvm.Cond.code ({ cls := "com/example/tally_flows/tallyflows/charging/TimeWindow", name := "contains", desc := "(J)Z" } : Jvm.MethodName) prog_48_method_3_code (3 : Nat) (Option.some Jvm.ClassFile.FieldType.boolean)).before args0 about1 = true := code_word (m := ⟨2, 1⟩) (meth := k2m1) (c := k2c1) (by decide +kernel) rfl rfl rfl (by decide +kernel)
def codes1 : List Jvm.Cond := [Jvm.Cond.code x code maxLocals ret, Jvm.Cond.code ({ cls := "com/example/tally_flows/tallyflows/charging/TimeWindow", name := "<init>", desc := "(JJ)V" } : Jvm.MethodName) prog_48_method_1_code (5 : Nat) (Option.none : Option Jvm.ClassFile.FieldType), Jvm.Cond.code ({ cls := "java/lang/Object", name := "<init>", desc := "()V" } : Jvm.MethodName) object_method_1_code (1 : Nat) (Option.none : Option Jvm.ClassFile.FieldType), Jvm.Cond.code ({ cls := "com/example/tally_flows/tallyflows/charging/TimeWindow", name := "contains", desc := "(J)Z" } : Jvm.MethodName) prog_48_method_3_code (3 : Nat) (Option.some Jvm.ClassFile.FieldType.boolean)]
set_option maxRecDepth 65536 in
theorem codes_eq : words1.filter isCode = codes1 := rfl
theorem w_codes : ∀ c ∈ words1.filter isCode, c.before args0 about1 = true := by
  rw [codes_eq]
  intro c hc
  simp only [codes1, List.mem_cons, List.not_mem_nil, or_false] at hc
  rcases hc with rfl | rfl | rfl | rfl
  · exact w_c0
  · exact w_c1
  · exact w_c2
  · exact w_c3
set_option maxRecDepth 65536 in
theorem w_t1 : words1.all (fun c => isCode c || c.before args0 about1) = true := by decide +kernel
theorem w_tables : (allAtoms (Jvm.Cond.code x code maxLocals ret :: tables_1)).before args0 about1 = true := by
  rw [allAtoms_all]
  show words1.all (fun c => c.before args0 about1) = true
  refine all_split ?_ w_codes
  rw [w_t1]
set_option maxRecDepth 65536 in
theorem w_case : (Jvm.Cond.and given_1 narrow_1).before args0 about1 = true := by decide +kernel
theorem w_applies : (headSpec (Jvm.Cond.code x code maxLocals ret :: tables_1) room_1).applies x e0.platform about1 = true :=
  (Spec.applies_iff w_frames).mpr ⟨w_running, w_runnable, w_alone, w_named, w_hears, w_ripe, w_room, w_tables⟩
theorem atStart : AtStart classFile x code maxLocals ret World_1 tables_1 room_1 Calls_1 rest_1 Pre_1 launch0 p0 e0 about1 theMethod args0 below0 :=
  ⟨lists_1, trivial, launch0.admits_env _ _ _, launch0.least_env, fairChoices_fair.cas, fairChoices_fair.clock, w_frames, w_args, w_heap, w_applies, trivial, trivial, w_case⟩
end start1
theorem witness_1 : WitnessClaimed_1 := ⟨start1.p0, start1.e0, start1.about1, start1.theMethod, start1.args0, start1.below0, start1.atStart⟩
end Jvm.Pilot.@@N@@
