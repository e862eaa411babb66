import JvmDerived
import JvmDerived.Pilot.@@N@@Statement
import JvmDerived.Pilot.@@N@@Code
set_option linter.unusedVariables false
set_option linter.unusedSimpArgs false
/- laws to paste: Road.backV (cut by pick.py; bodies as the Statement names them) -/
namespace Jvm.Pilot.@@N@@
namespace StrChars
open Jvm Sem ClassFile Op Lib Jvm.Stand Jvm.Free.XT Jvm.Free.ALB Jvm.Free.JM Jvm.Free
open Jvm.Lib.Cold (StaticIs)
/-- a char array whose places are chars -/
def Ch (a : Addr) (A : Cell) (U : State) : Prop := Arr .char a A U ∧ Typed .char A
theorem Ch.mv {a : Addr} {A : Cell} {U U' : State} (h : Ch a A U) (hal : U.vm.Alike U'.vm) (hh : U'.heap = U.heap) : Ch a A U' := ⟨h.1.mv hal hh, h.2⟩
theorem Ch.keep {a : Addr} {A : Cell} {U U' : State} (h : Ch a A U) (hal : U.vm.Alike U'.vm) (hk : U'.heap[a]? = some A) : Ch a A U' := ⟨h.1.keep hal hk, h.2⟩
/-- what place i of a char[]'s cell holds -/
def cv (A : Cell) (i : Nat) : Int32 := match A.slots[i]? with | some (.int x) => x | _ => 0
theorem Ch.get {a : Addr} {A : Cell} {U : State} (h : Ch a A U) {i : Nat} (hi : i < A.slots.size) : A.slots[i]? = some (.int (cv A i)) := by
  have e := Array.getElem?_eq_getElem hi
  have f := h.2 i _ e
  unfold cv; rw [e]
  generalize A.slots[i] = v at f
  cases v <;> simp [fits] at f ⊢
/-- the byte that i2b leaves of a char -/
def lo8 (x : Int32) : Int32 := x.toInt8.toInt32
theorem fits_lo8 (y : Int32) : fits .byte (.int (lo8 y)) = true := by
  have h1 := y.toInt8.le_toInt
  have h2 := y.toInt8.toInt_lt
  simp only [lo8, fits, Bool.and_eq_true, decide_eq_true_eq, Int32.le_iff_toInt_le, Int8.toInt_toInt32, show (-128 : Int32).toInt = -128 from by decide, show (127 : Int32).toInt = 127 from by decide]
  omega
/-- A' is A but that each place j of lo .. hi - 1 holds f j -/
def Laid (A A' : Cell) (lo hi : Nat) (f : Nat → Value) : Prop := A'.cls = A.cls ∧ A'.vm = A.vm ∧ A'.slots.size = A.slots.size ∧ ∀ i, A'.slots[i]? = if lo ≤ i ∧ i < hi then some (f i) else A.slots[i]?
theorem Laid.zero (A : Cell) (lo : Nat) (f : Nat → Value) : Laid A A lo (lo + 0) f := ⟨rfl, rfl, rfl, fun i => by rw [if_neg (by omega)]⟩
theorem Laid.step {A Ak : Cell} {lo k : Nat} {f : Nat → Value} {v : Value} (h : Laid A Ak lo k f) (hlo : lo ≤ k) (hk : k < Ak.slots.size) (hv : v = f k) : Laid A (Ak.setSlot k v) lo (k + 1) f := by
  refine ⟨h.1, h.2.1, by simpa [Cell.setSlot] using h.2.2.1, fun i => ?_⟩
  by_cases e : k = i
  · subst e; rw [Cell.slots_setSlot_self v hk, if_pos (by omega), hv]
  · rw [Cell.slots_setSlot_ne v e, h.2.2.2 i]
    by_cases q : lo ≤ i ∧ i < k
    · rw [if_pos q, if_pos (by omega)]
    · rw [if_neg q, if_neg (by omega)]
def U16 : String := "java/lang/StringUTF16"
namespace Cmp5
def yN : MethodName := ⟨"java/lang/StringUTF16", "compress", "([CI[BII)I"⟩
abbrev yB : ByteArray := jdk_52_method_21_code
theorem d0 : decode yB 0 = .ok (.iconst 0, 1) := by decide +kernel
theorem d1 : decode yB 1 = .ok (.istore 5, 2) := by decide +kernel
theorem d3 : decode yB 3 = .ok (.iload 5, 2) := by decide +kernel
theorem d5 : decode yB 5 = .ok (.iload 4, 2) := by decide +kernel
theorem d7 : decode yB 7 = .ok (.if_icmp (.ge) 37, 3) := by decide +kernel
theorem d10 : decode yB 10 = .ok (.aload_n 0, 1) := by decide +kernel
theorem d11 : decode yB 11 = .ok (.iload_n 1, 1) := by decide +kernel
theorem d12 : decode yB 12 = .ok (.caload, 1) := by decide +kernel
theorem d13 : decode yB 13 = .ok (.istore 6, 2) := by decide +kernel
theorem d15 : decode yB 15 = .ok (.iload 6, 2) := by decide +kernel
theorem d17 : decode yB 17 = .ok (.sipush 255, 3) := by decide +kernel
theorem d20 : decode yB 20 = .ok (.if_icmp (.le) 6, 3) := by decide +kernel
theorem d26 : decode yB 26 = .ok (.aload_n 2, 1) := by decide +kernel
theorem d27 : decode yB 27 = .ok (.iload_n 3, 1) := by decide +kernel
theorem d28 : decode yB 28 = .ok (.iload 6, 2) := by decide +kernel
theorem d30 : decode yB 30 = .ok (.i2b, 1) := by decide +kernel
theorem d31 : decode yB 31 = .ok (.bastore, 1) := by decide +kernel
theorem d32 : decode yB 32 = .ok (.iinc 1 1, 3) := by decide +kernel
theorem d35 : decode yB 35 = .ok (.iinc 3 1, 3) := by decide +kernel
theorem d38 : decode yB 38 = .ok (.iinc 5 1, 3) := by decide +kernel
theorem d41 : decode yB 41 = .ok (.goto (-38), 3) := by decide +kernel
theorem d44 : decode yB 44 = .ok (.iload 4, 2) := by decide +kernel
theorem d46 : decode yB 46 = .ok (.ireturn, 1) := by decide +kernel
def site : List Cond := []
def tab : Cond := tabOf yN yB 7 (some .int) site
def P (b : Addr) (A : Cell) (d : Addr) (B : Cell) (o q len : Nat) (args : Array Value) (s : State) : Prop := args = #[.ref b, .int (Int32.ofNat o), .ref d, .int (Int32.ofNat q), .int (Int32.ofNat len)] ∧ Ch b A s ∧ Arr .byte d B s ∧ b ≠ d ∧ o + len ≤ A.slots.size ∧ q + len ≤ B.slots.size ∧ ∀ i, i < len → ¬ 255 < cv A (o + i)
def E (b : Addr) (A : Cell) (d : Addr) (B : Cell) (o q len : Nat) (r : Option Value) (s u : State) : Prop := r = some (.int (Int32.ofNat len)) ∧ ∃ B', Put d B' s u ∧ Laid B B' q (q + len) (fun j => Value.int (lo8 (cv A (o + (j - q)))))
/-- no char of the range above 255: len; the places written hold each char's low byte -/
theorem law (l : Launch) (b : Addr) (A : Cell) (d : Addr) (B : Cell) (o q len : Nat) : Law l yN 5 5 0 0 yB 7 (some .int) site (P b A d B o q len) (E b A d B o q len) (copyLocs d q len) 0 0 := by
  refine Law.of_walk (plainFor_of_name (by decide +kernel)) (by decide +kernel) (by decide +kernel) (by decide) (fun _ _ h => by rw [h.1]; rfl) (fun _ U U' hal hh h => ⟨h.1, h.2.1.mv hal hh, h.2.2.1.mv hal hh, h.2.2.2⟩) (fun r U U' V V' h1 hal h2 h => ⟨h.1, h.2.elim fun B' q => ⟨B', q.1.mv h1 h2, q.2⟩⟩) ?_
  intro p e s m args below meth c s₁ X0 hexec hbytes hml hret hlk hnm hown hh0 W hP
  obtain ⟨rfl, hA, hB, hne, l1, l2, hp⟩ := hP
  have c1 : Steps p.tables e below (s₁.setTop (entryFrame m #[.ref b, .int (Int32.ofNat o), .ref d, .int (Int32.ofNat q), .int (Int32.ofNat len)] 7)) (s₁.setTop (mkF m 0 #[.val (.ref b), .val (.int (Int32.ofNat o)), .val (.ref d), .val (.int (Int32.ofNat q)), .val (.int (Int32.ofNat len)), .unset, .unset] [])) := entry rfl
  have hA0 := hA.1.mv X0.warmed.alike hh0
  have hB0 := hB.mv X0.warmed.alike hh0
  have a31 := hA.1.2.2.2
  have c2 : Steps p.tables e below (s₁.setTop (entryFrame m #[.ref b, .int (Int32.ofNat o), .ref d, .int (Int32.ofNat q), .int (Int32.ofNat len)] 7)) (s₁.setTop (mkF m 3 #[.val (.ref b), .val (.int (Int32.ofNat o)), .val (.ref d), .val (.int (Int32.ofNat q)), .val (.int (Int32.ofNat len)), .val (.int 0), .unset] [])) := c1.trans (by
    refine iconstV X0.here hexec rfl 0 (hb hbytes d0) (by decide) ?_
    refine XS.istore X0.here hexec rfl (hb hbytes d1) rfl rfl ?_
    exact Steps.refl _)
  have loop : ∀ (r i : Nat), i + r = len → ∀ (z : Slot), (z = .unset ∨ ∃ w, z = .val w ∧ w.category = 1) → ∀ (Tl : State) (Bk : Cell), Stand p l e { frames := 0, locals := 0, cells := 0, slots := 0 } s m #[.ref b, .int (Int32.ofNat o), .ref d, .int (Int32.ofNat q), .int (Int32.ofNat len)] below meth c Tl ([] ++ copyLocs d q i) 0 0 → Put d Bk s₁ Tl → Laid B Bk q (q + i) (fun j => Value.int (lo8 (cv A (o + (j - q))))) →
      Steps p.tables e below (s₁.setTop (entryFrame m #[.ref b, .int (Int32.ofNat o), .ref d, .int (Int32.ofNat q), .int (Int32.ofNat len)] 7)) (Tl.setTop (mkF m 3 #[.val (.ref b), .val (.int (Int32.ofNat (o + i))), .val (.ref d), .val (.int (Int32.ofNat (q + i))), .val (.int (Int32.ofNat len)), .val (.int (Int32.ofNat i)), z] [])) → ∃ (T' : State) (B' : Cell) (z' : Slot), Stand p l e { frames := 0, locals := 0, cells := 0, slots := 0 } s m #[.ref b, .int (Int32.ofNat o), .ref d, .int (Int32.ofNat q), .int (Int32.ofNat len)] below meth c T' ([] ++ copyLocs d q len) 0 0 ∧ Put d B' s₁ T' ∧ Laid B B' q (q + len) (fun j => Value.int (lo8 (cv A (o + (j - q))))) ∧
      Steps p.tables e below (s₁.setTop (entryFrame m #[.ref b, .int (Int32.ofNat o), .ref d, .int (Int32.ofNat q), .int (Int32.ofNat len)] 7)) (T'.setTop (mkF m 3 #[.val (.ref b), .val (.int (Int32.ofNat (o + len))), .val (.ref d), .val (.int (Int32.ofNat (q + len))), .val (.int (Int32.ofNat len)), .val (.int (Int32.ofNat len)), z'] [])) := by
    intro r
    induction r with
    | zero =>
      intro i hi z hz Tl Bk Xl pl fl cl
      have hil : i = len := by omega
      rw [hil] at Xl fl cl
      exact ⟨Tl, Bk, z, Xl, pl, fl, cl⟩
    | succ r ih =>
      intro i hi z hz Tl Bk Xl pl fl cl
      have all := X0.warmed.alike.symm.trans Xl.warmed.alike
      have hAl := hA0.keep all (pl.other hne hA0.1)
      have hBk := hB0.like all pl.1 fl.1 fl.2.1 fl.2.2.1
      have hlt : q + i < Bk.slots.size := by rw [fl.2.2.1]; omega
      have c3 : Steps p.tables e below (s₁.setTop (entryFrame m #[.ref b, .int (Int32.ofNat o), .ref d, .int (Int32.ofNat q), .int (Int32.ofNat len)] 7)) (Tl.setTop (mkF m 12 #[.val (.ref b), .val (.int (Int32.ofNat (o + i))), .val (.ref d), .val (.int (Int32.ofNat (q + i))), .val (.int (Int32.ofNat len)), .val (.int (Int32.ofNat i)), z] [.int (Int32.ofNat (o + i)), .ref b])) := cl.trans (by
        refine XS.iload Xl.here hexec rfl (hb hbytes d3) rfl ?_
        refine XS.iload Xl.here hexec rfl (hb hbytes d5) rfl ?_
        refine XS.icmpNo Xl.here hexec rfl (hb hbytes d7) rfl (ii_ge_f (lt32 (by omega) (by omega))) ?_
        refine XS.aloadN Xl.here hexec rfl (hb hbytes d10) rfl rfl ?_
        refine XS.iloadN Xl.here hexec rfl (hb hbytes d11) rfl ?_
        exact Steps.refl _)
      have c4 : Steps p.tables e below (s₁.setTop (entryFrame m #[.ref b, .int (Int32.ofNat o), .ref d, .int (Int32.ofNat q), .int (Int32.ofNat len)] 7)) (Tl.setTop (mkF m 13 #[.val (.ref b), .val (.int (Int32.ofNat (o + i))), .val (.ref d), .val (.int (Int32.ofNat (q + i))), .val (.int (Int32.ofNat len)), .val (.int (Int32.ofNat i)), z] [.int (cv A (o + i))])) := c3.trans (by
        refine Xl.aget hexec hAl rfl (hA.get (i := o + i) (by omega)) rfl rfl (hb hbytes d12) ?_
        exact Steps.refl _)
      have c5 : Steps p.tables e below (s₁.setTop (entryFrame m #[.ref b, .int (Int32.ofNat o), .ref d, .int (Int32.ofNat q), .int (Int32.ofNat len)] 7)) (Tl.setTop (mkF m 15 #[.val (.ref b), .val (.int (Int32.ofNat (o + i))), .val (.ref d), .val (.int (Int32.ofNat (q + i))), .val (.int (Int32.ofNat len)), .val (.int (Int32.ofNat i)), .val (.int (cv A (o + i)))] [])) := c4.trans (by
        refine XS.istoreS Xl.here hexec rfl (hb hbytes d13) rfl rfl hz ?_
        exact Steps.refl _)
      have c6 : Steps p.tables e below (s₁.setTop (entryFrame m #[.ref b, .int (Int32.ofNat o), .ref d, .int (Int32.ofNat q), .int (Int32.ofNat len)] 7)) (Tl.setTop (mkF m 31 #[.val (.ref b), .val (.int (Int32.ofNat (o + i))), .val (.ref d), .val (.int (Int32.ofNat (q + i))), .val (.int (Int32.ofNat len)), .val (.int (Int32.ofNat i)), .val (.int (cv A (o + i)))] [.int (lo8 (cv A (o + i))), .int (Int32.ofNat (q + i)), .ref d])) := c5.trans (by
        refine XS.iload Xl.here hexec rfl (hb hbytes d15) rfl ?_
        refine sipushV Xl.here hexec rfl 255 (hb hbytes d17) (by decide) ?_
        refine XS.icmpYes Xl.here hexec rfl (pc0 := 20) rfl (hb hbytes d20) rfl (ii_le_t (hp i (by omega))) (by decide) rfl ?_
        refine XS.aloadN Xl.here hexec rfl (hb hbytes d26) rfl rfl ?_
        refine XS.iloadN Xl.here hexec rfl (hb hbytes d27) rfl ?_
        refine XS.iload Xl.here hexec rfl (hb hbytes d28) rfl ?_
        refine i2b Xl.here hexec rfl (hb hbytes d30) rfl ?_
        exact Steps.refl _)
      obtain ⟨T7, X7, p7, st7⟩ := Xl.aput hexec hBk rfl hlt rfl (fits_lo8 (cv A (o + i))) (g := (mkF m 31 #[.val (.ref b), .val (.int (Int32.ofNat (o + i))), .val (.ref d), .val (.int (Int32.ofNat (q + i))), .val (.int (Int32.ofNat len)), .val (.int (Int32.ofNat i)), .val (.int (cv A (o + i)))] [.int (lo8 (cv A (o + i))), .int (Int32.ofNat (q + i)), .ref d])) rfl (rest := []) rfl (hb hbytes d31)
      have c8 : Steps p.tables e below (s₁.setTop (entryFrame m #[.ref b, .int (Int32.ofNat o), .ref d, .int (Int32.ofNat q), .int (Int32.ofNat len)] 7)) (T7.setTop (mkF m 32 #[.val (.ref b), .val (.int (Int32.ofNat (o + i))), .val (.ref d), .val (.int (Int32.ofNat (q + i))), .val (.int (Int32.ofNat len)), .val (.int (Int32.ofNat i)), .val (.int (cv A (o + i)))] [])) := c6.trans (st7 _ (Steps.refl _))
      have c9 : Steps p.tables e below (s₁.setTop (entryFrame m #[.ref b, .int (Int32.ofNat o), .ref d, .int (Int32.ofNat q), .int (Int32.ofNat len)] 7)) (T7.setTop (mkF m 3 #[.val (.ref b), .val (.int (Int32.ofNat (o + i) + 1)), .val (.ref d), .val (.int (Int32.ofNat (q + i) + 1)), .val (.int (Int32.ofNat len)), .val (.int (Int32.ofNat i + 1)), .val (.int (cv A (o + i)))] [])) := c8.trans (by
        refine iincV X7.here hexec rfl 1 (hb hbytes d32) (by decide) rfl rfl ?_
        refine iincV X7.here hexec rfl 1 (hb hbytes d35) (by decide) rfl rfl ?_
        refine iincV X7.here hexec rfl 1 (hb hbytes d38) (by decide) rfl rfl ?_
        refine XS.goto X7.here hexec rfl (pc0 := 41) rfl (hb hbytes d41) (by decide) rfl ?_
        exact Steps.refl _)
      have c10 : Steps p.tables e below (s₁.setTop (entryFrame m #[.ref b, .int (Int32.ofNat o), .ref d, .int (Int32.ofNat q), .int (Int32.ofNat len)] 7)) (T7.setTop (mkF m 3 #[.val (.ref b), .val (.int (Int32.ofNat (o + (i + 1)))), .val (.ref d), .val (.int (Int32.ofNat (q + (i + 1)))), .val (.int (Int32.ofNat len)), .val (.int (Int32.ofNat (i + 1))), .val (.int (cv A (o + i)))] [])) := by
        have := c9
        rw [succ32, succ32, succ32] at this
        exact this
      exact ih (i + 1) (by omega) _ (Or.inr ⟨_, rfl, rfl⟩) T7 _ (by rw [copyLocs_step, ← List.append_assoc]; exact X7) (pl.trans p7) (fl.step (by omega) hlt (by simp)) c10
  obtain ⟨T9, B9, z9, X9, p9, f9, g9⟩ := loop len 0 (by omega) .unset (Or.inl rfl) s₁ B (by simpa [copyLocs] using X0) ⟨hB0.1, fun _ _ => rfl, rfl⟩ (Laid.zero _ _ _) c2
  have c11 : Steps p.tables e below (s₁.setTop (entryFrame m #[.ref b, .int (Int32.ofNat o), .ref d, .int (Int32.ofNat q), .int (Int32.ofNat len)] 7)) (T9.setTop (mkF m 46 #[.val (.ref b), .val (.int (Int32.ofNat (o + len))), .val (.ref d), .val (.int (Int32.ofNat (q + len))), .val (.int (Int32.ofNat len)), .val (.int (Int32.ofNat len)), z9] [.int (Int32.ofNat len)])) := g9.trans (by
    refine XS.iload X9.here hexec rfl (hb hbytes d3) rfl ?_
    refine XS.iload X9.here hexec rfl (hb hbytes d5) rfl ?_
    refine XS.icmpYes X9.here hexec rfl (pc0 := 7) rfl (hb hbytes d7) rfl (ii_ge_t (nlt32 (by omega) (Nat.le_refl _))) (by decide) rfl ?_
    refine XS.iload X9.here hexec rfl (hb hbytes d44) rfl ?_
    exact Steps.refl _)
  exact ⟨T9, some (.int (Int32.ofNat len)), _, _, _, X9, by simp, rfl, rfl, (fun h => by cases h), ⟨rfl, B9, p9.from hh0, f9⟩, fun fs hl => c11.trans (X9.ireturnOut hexec hret rfl (Or.inl rfl) (hb hbytes d46) hl)⟩
end Cmp5
namespace Cmp3
def yN : MethodName := ⟨"java/lang/StringUTF16", "compress", "([CII)[B"⟩
abbrev yB : ByteArray := jdk_52_method_16_code
theorem d0 : decode yB 0 = .ok (.iload_n 2, 1) := by decide +kernel
theorem d1 : decode yB 1 = .ok (.newarray .byte, 2) := by decide +kernel
theorem d3 : decode yB 3 = .ok (.astore_n 3, 1) := by decide +kernel
theorem d4 : decode yB 4 = .ok (.aload_n 0, 1) := by decide +kernel
theorem d5 : decode yB 5 = .ok (.iload_n 1, 1) := by decide +kernel
theorem d6 : decode yB 6 = .ok (.aload_n 3, 1) := by decide +kernel
theorem d7 : decode yB 7 = .ok (.iconst 0, 1) := by decide +kernel
theorem d8 : decode yB 8 = .ok (.iload_n 2, 1) := by decide +kernel
theorem d9 : decode yB 9 = .ok (.invokestatic 115, 3) := by decide +kernel
theorem d12 : decode yB 12 = .ok (.istore 4, 2) := by decide +kernel
theorem d14 : decode yB 14 = .ok (.iload 4, 2) := by decide +kernel
theorem d16 : decode yB 16 = .ok (.iload_n 2, 1) := by decide +kernel
theorem d17 : decode yB 17 = .ok (.if_icmp (.eq) 40, 3) := by decide +kernel
theorem d57 : decode yB 57 = .ok (.aload_n 3, 1) := by decide +kernel
theorem d58 : decode yB 58 = .ok (.areturn, 1) := by decide +kernel
def site : List Cond := [.arrayClass .byte, Cmp5.tab] ++ staticW U16 115 Cmp5.yN
def tab : Cond := tabOf yN yB 6 (some (.array .byte)) site
def P (b : Addr) (A : Cell) (o len : Nat) (args : Array Value) (s : State) : Prop := args = #[.ref b, .int (Int32.ofNat o), .int (Int32.ofNat len)] ∧ Ch b A s ∧ o + len ≤ A.slots.size ∧ len ≤ 536870912 ∧ ∀ i, i < len → ¬ 255 < cv A (o + i)
def E (b : Addr) (A : Cell) (o len : Nat) (r : Option Value) (s u : State) : Prop := NewArr .byte "[B" len (fun j => .int (lo8 (cv A (o + j)))) r s u ∧ u.heap.size = s.heap.size + 1
/-- no char of the range above 255: a new byte[] of their low bytes -/
theorem law (l : Launch) (b : Addr) (A : Cell) (o len : Nat) : Law l yN 3 3 1 18 yB 6 (some (.array .byte)) site (P b A o len) (E b A o len) [] 1 len := by
  refine Law.of_walk (plainFor_of_name (by decide +kernel)) (by decide +kernel) (by decide +kernel) (by decide) (fun _ _ h => by rw [h.1]; rfl) (fun _ U U' hal hh h => ⟨h.1, h.2.1.mv hal hh, h.2.2⟩) (fun r U U' V V' h1 hal h2 h => ⟨NewArr.mv r U U' V V' h1 hal h2 h.1, by rw [h1, h2]; exact h.2⟩) ?_
  intro p e s m args below meth c s₁ X0 hexec hbytes hml hret hlk hnm hown hh0 W hP
  obtain ⟨rfl, hA, l1, l2, hp⟩ := hP
  have a31 := hA.1.2.2.2
  have c1 : Steps p.tables e below (s₁.setTop (entryFrame m #[.ref b, .int (Int32.ofNat o), .int (Int32.ofNat len)] 6)) (s₁.setTop (mkF m 0 #[.val (.ref b), .val (.int (Int32.ofNat o)), .val (.int (Int32.ofNat len)), .unset, .unset, .unset] [])) := entry rfl
  have c2 : Steps p.tables e below (s₁.setTop (entryFrame m #[.ref b, .int (Int32.ofNat o), .int (Int32.ofNat len)] 6)) (s₁.setTop (mkF m 1 #[.val (.ref b), .val (.int (Int32.ofNat o)), .val (.int (Int32.ofNat len)), .unset, .unset, .unset] [.int (Int32.ofNat len)])) := c1.trans (by
    refine XS.iloadN X0.here hexec rfl (hb hbytes d0) rfl ?_
    exact Steps.refl _)
  obtain ⟨T3, B3, X3, ba3, bs3, bv3, bh3, bf3, st3⟩ := X0.anew hexec (atype := .byte) (wk W (.arrayClass .byte)) rfl (by show len * 1 ≤ _; omega) (by omega) (g := (mkF m 1 #[.val (.ref b), .val (.int (Int32.ofNat o)), .val (.int (Int32.ofNat len)), .unset, .unset, .unset] [.int (Int32.ofNat len)])) rfl (hb hbytes d1) (rest := []) rfl (Nat.le_refl _) (by show 0 + len ≤ len; omega)
  rw [hh0] at ba3 st3
  have kp3 : XT.Kept s T3 := (XT.Kept.of_eq hh0).push bh3
  have hA3 := hA.keep X3.warmed.alike (kp3 _ _ hA.1.1)
  have hne : b ≠ s.heap.size := hA.1.ne
  have c4 : Steps p.tables e below (s₁.setTop (entryFrame m #[.ref b, .int (Int32.ofNat o), .int (Int32.ofNat len)] 6)) (T3.setTop (mkF m 3 #[.val (.ref b), .val (.int (Int32.ofNat o)), .val (.int (Int32.ofNat len)), .unset, .unset, .unset] [.ref s.heap.size])) := c2.trans (st3 _ (Steps.refl _))
  have c5 : Steps p.tables e below (s₁.setTop (entryFrame m #[.ref b, .int (Int32.ofNat o), .int (Int32.ofNat len)] 6)) (T3.setTop (mkF m 9 #[.val (.ref b), .val (.int (Int32.ofNat o)), .val (.int (Int32.ofNat len)), .val (.ref s.heap.size), .unset, .unset] [.int (Int32.ofNat len), .int 0, .ref s.heap.size, .int (Int32.ofNat o), .ref b])) := c4.trans (by
    refine XS.astoreN X3.here hexec rfl (hb hbytes d3) rfl rfl rfl ?_
    refine XS.aloadN X3.here hexec rfl (hb hbytes d4) rfl rfl ?_
    refine XS.iloadN X3.here hexec rfl (hb hbytes d5) rfl ?_
    refine XS.aloadN X3.here hexec rfl (hb hbytes d6) rfl rfl ?_
    refine iconstV X3.here hexec rfl 0 (hb hbytes d7) (by decide) ?_
    refine XS.iloadN X3.here hexec rfl (hb hbytes d8) rfl ?_
    exact Steps.refl _)
  obtain ⟨v6, T6, X6, E6, g6⟩ := X3.callS hexec (Cmp5.law l b A s.heap.size B3 o 0 len) hown (wks W (staticW U16 115 Cmp5.yN)) (wk W Cmp5.tab) (W := 0) (Nat.le_of_ble_eq_true rfl) (Nat.le_of_ble_eq_true rfl) (Nat.le_refl _) (by show 0 + len + 0 ≤ len; omega) (g := (mkF m 9 #[.val (.ref b), .val (.int (Int32.ofNat o)), .val (.int (Int32.ofNat len)), .val (.ref s.heap.size), .unset, .unset] [.int (Int32.ofNat len), .int (Int32.ofNat 0), .ref s.heap.size, .int (Int32.ofNat o), .ref b])) rfl (by rw [hml]; rfl) c5 (argsL := [.ref b, .int (Int32.ofNat o), .ref s.heap.size, .int (Int32.ofNat 0), .int (Int32.ofNat len)]) (rest := []) rfl rfl (by show 2 * 0 + 0 ≤ _; decide) (hb hbytes d9) (⟨rfl, hA3, ba3, hne, l1, by rw [bs3]; simp, hp⟩)
  obtain ⟨rfl, B6, p6, f6⟩ := E6
  have c7 : Steps p.tables e below (s₁.setTop (entryFrame m #[.ref b, .int (Int32.ofNat o), .int (Int32.ofNat len)] 6)) (T6.setTop (mkF m 12 #[.val (.ref b), .val (.int (Int32.ofNat o)), .val (.int (Int32.ofNat len)), .val (.ref s.heap.size), .unset, .unset] [.int (Int32.ofNat len)])) := g6
  have c8 : Steps p.tables e below (s₁.setTop (entryFrame m #[.ref b, .int (Int32.ofNat o), .int (Int32.ofNat len)] 6)) (T6.setTop (mkF m 58 #[.val (.ref b), .val (.int (Int32.ofNat o)), .val (.int (Int32.ofNat len)), .val (.ref s.heap.size), .val (.int (Int32.ofNat len)), .unset] [.ref s.heap.size])) := c7.trans (by
    refine XS.istore X6.here hexec rfl (hb hbytes d12) rfl rfl ?_
    refine XS.iload X6.here hexec rfl (hb hbytes d14) rfl ?_
    refine XS.iloadN X6.here hexec rfl (hb hbytes d16) rfl ?_
    refine XS.icmpYes X6.here hexec rfl (pc0 := 17) rfl (hb hbytes d17) rfl (ii_eq_t rfl) (by decide) rfl ?_
    refine XS.aloadN X6.here hexec rfl (hb hbytes d57) rfl rfl ?_
    exact Steps.refl _)
  have X8 := X6.wide (L' := []) (cells' := 1) (slots' := len) (fun x hx hlt => by
    simp only [List.nil_append, copyLocs, List.mem_map, List.mem_range] at hx
    obtain ⟨i, -, rfl⟩ := hx
    exact absurd hlt (Nat.lt_irrefl _)) (Nat.le_refl _) (by omega)
  exact ⟨T6, some (.ref s.heap.size), _, _, _, X8, rfl, rfl, rfl, (fun h => by cases h), ⟨⟨rfl, B6, ba3.like (X3.warmed.alike.symm.trans X6.warmed.alike) p6.1 f6.1 f6.2.1 f6.2.2.1, f6.2.1.trans bv3, by rw [X6.warmed.alike.findClass, f6.1]; exact bf3, by rw [f6.2.2.1, bs3]; simp, fun j hj => by rw [f6.2.2.2 j, if_pos (by omega)]; rfl, kp3.put p6 (Nat.le_refl _)⟩, by rw [p6.2.2, bh3, hh0]; simp⟩, fun fs hl => c8.trans (X8.areturnOut hexec rfl hret rfl (hb hbytes d58) hl)⟩
end Cmp3
namespace CodL
def yN : MethodName := ⟨"java/lang/StringUTF16", "coderFromArrayLen", "([BI)B"⟩
abbrev yB : ByteArray := jdk_52_method_15_code
theorem d0 : decode yB 0 = .ok (.iload_n 1, 1) := by decide +kernel
theorem d1 : decode yB 1 = .ok (.aload_n 0, 1) := by decide +kernel
theorem d2 : decode yB 2 = .ok (.arraylength, 1) := by decide +kernel
theorem d3 : decode yB 3 = .ok (.isub, 1) := by decide +kernel
theorem d4 : decode yB 4 = .ok (.bipush 31, 2) := by decide +kernel
theorem d6 : decode yB 6 = .ok (.iushr, 1) := by decide +kernel
theorem d7 : decode yB 7 = .ok (.i2b, 1) := by decide +kernel
theorem d8 : decode yB 8 = .ok (.ireturn, 1) := by decide +kernel
def site : List Cond := []
def tab : Cond := tabOf yN yB 2 (some .byte) site
def P (d : Addr) (B : Cell) (args : Array Value) (s : State) : Prop := args = #[.ref d, .int (Int32.ofNat B.slots.size)] ∧ Arr .byte d B s
def E (r : Option Value) (s u : State) : Prop := XT.PureE (some (.int 0)) r s u
/-- an array as long as the number of chars: LATIN1 -/
theorem law (l : Launch) (d : Addr) (B : Cell) : Law l yN 2 2 0 0 yB 2 (some .byte) site (P d B) E [] 0 0 := by
  refine Law.of_walk (plainFor_of_name (by decide +kernel)) (by decide +kernel) (by decide +kernel) (by decide) (fun _ _ h => by rw [h.1]; rfl) (fun _ U U' hal hh h => ⟨h.1, h.2.mv hal hh⟩) (fun r U U' V V' h1 hal h2 h => XT.PureE.mv r U U' V V' h1 hal h2 h) ?_
  intro p e s m args below meth c s₁ X0 hexec hbytes hml hret hlk hnm hown hh0 W hP
  obtain ⟨rfl, hB⟩ := hP
  have hB0 := hB.mv X0.warmed.alike hh0
  have c1 : Steps p.tables e below (s₁.setTop (entryFrame m #[.ref d, .int (Int32.ofNat B.slots.size)] 2)) (s₁.setTop (mkF m 0 #[.val (.ref d), .val (.int (Int32.ofNat B.slots.size))] [])) := entry rfl
  have c2 : Steps p.tables e below (s₁.setTop (entryFrame m #[.ref d, .int (Int32.ofNat B.slots.size)] 2)) (s₁.setTop (mkF m 2 #[.val (.ref d), .val (.int (Int32.ofNat B.slots.size))] [.ref d, .int (Int32.ofNat B.slots.size)])) := c1.trans (by
    refine XS.iloadN X0.here hexec rfl (hb hbytes d0) rfl ?_
    refine XS.aloadN X0.here hexec rfl (hb hbytes d1) rfl rfl ?_
    exact Steps.refl _)
  have c3 : Steps p.tables e below (s₁.setTop (entryFrame m #[.ref d, .int (Int32.ofNat B.slots.size)] 2)) (s₁.setTop (mkF m 8 #[.val (.ref d), .val (.int (Int32.ofNat B.slots.size))] [.int (lo8 (ushr (Int32.ofNat B.slots.size - Int32.ofNat B.slots.size) 31))])) := c2.trans (by
    refine X0.alen hexec hB0 rfl rfl (hb hbytes d2) ?_
    refine XS.isub X0.here hexec rfl (hb hbytes d3) rfl ?_
    refine bipushV X0.here hexec rfl 31 (hb hbytes d4) (by decide) ?_
    refine iushr X0.here hexec rfl (hb hbytes d6) rfl ?_
    refine i2b X0.here hexec rfl (hb hbytes d7) rfl ?_
    exact Steps.refl _)
  have e0 : lo8 (ushr (Int32.ofNat B.slots.size - Int32.ofNat B.slots.size) 31) = 0 := by rw [Int32.sub_self]; decide
  rw [e0] at c3
  exact ⟨s₁, some (.int 0), _, _, _, X0, rfl, rfl, rfl, (fun h => by cases h), ⟨rfl, hh0⟩, fun fs hl => c3.trans (X0.ireturnOut hexec hret rfl (Or.inr (Or.inr (Or.inl rfl))) (hb hbytes d8) hl)⟩
end CodL
/-- the String at a is Latin-1 over a new byte[] (the heap's one new cell): the low bytes of the len chars of A from o on; every cell but a is kept -/
def Got (a : Addr) (D : Cell) (fV fC : Field) (A : Cell) (o len : Nat) (r : Option Value) (s u : State) : Prop := r = none ∧ ∃ D' V : Cell, Blank "java/lang/String" a D' u ∧ Same D D' [fV.slot, fC.slot] ∧ D'.slots[fV.slot]? = some (.ref s.heap.size) ∧ D'.slots[fC.slot]? = some (.int 0) ∧ Arr .byte s.heap.size V u ∧ V.vm = .none ∧ u.vm.findClass "[B" = some V.cls ∧ V.slots.size = len ∧ (∀ j, j < len → V.slots[j]? = some (.int (lo8 (cv A (o + j))))) ∧ (∀ (y : Addr) (c : Cell), y ≠ a → s.heap[y]? = some c → u.heap[y]? = some c) ∧ u.heap.size = s.heap.size + 1
theorem Got.mv {a : Addr} {D A : Cell} {fV fC : Field} {o len : Nat} : ∀ r (U U' V V' : State), U'.heap = U.heap → V.vm.Alike V'.vm → V'.heap = V.heap → Got a D fV fC A o len r U V → Got a D fV fC A o len r U' V' :=
  fun r U U' V V' h1 hal h2 ⟨e0, D', X, a1, a2, a3, a4, a5, a6, a7, a8, a9, a10, a11⟩ => ⟨e0, D', X, a1.mv hal h2, a2, by rw [h1]; exact a3, a4, by rw [h1]; exact a5.mv hal h2, a6, by rw [hal.findClass]; exact a7, a8, a9, by rw [h1, h2]; exact a10, by rw [h1, h2]; exact a11⟩
namespace New4
def yN : MethodName := ⟨"java/lang/String", "<init>", "([CIILjava/lang/Void;)V"⟩
abbrev yB : ByteArray := jdk_42_method_149_code
theorem d0 : decode yB 0 = .ok (.aload_n 0, 1) := by decide +kernel
theorem d1 : decode yB 1 = .ok (.invokespecial 1, 3) := by decide +kernel
theorem d4 : decode yB 4 = .ok (.iload_n 3, 1) := by decide +kernel
theorem d5 : decode yB 5 = .ok (.ifCond (.ne) 22, 3) := by decide +kernel
theorem d27 : decode yB 27 = .ok (.getstatic 38, 3) := by decide +kernel
theorem d30 : decode yB 30 = .ok (.ifCond (.eq) 28, 3) := by decide +kernel
theorem d33 : decode yB 33 = .ok (.aload_n 1, 1) := by decide +kernel
theorem d34 : decode yB 34 = .ok (.iload_n 2, 1) := by decide +kernel
theorem d35 : decode yB 35 = .ok (.iload_n 3, 1) := by decide +kernel
theorem d36 : decode yB 36 = .ok (.invokestatic 177, 3) := by decide +kernel
theorem d39 : decode yB 39 = .ok (.astore 5, 2) := by decide +kernel
theorem d41 : decode yB 41 = .ok (.aload_n 0, 1) := by decide +kernel
theorem d42 : decode yB 42 = .ok (.aload 5, 2) := by decide +kernel
theorem d44 : decode yB 44 = .ok (.iload_n 3, 1) := by decide +kernel
theorem d45 : decode yB 45 = .ok (.invokestatic 47, 3) := by decide +kernel
theorem d48 : decode yB 48 = .ok (.putfield 15, 3) := by decide +kernel
theorem d51 : decode yB 51 = .ok (.aload_n 0, 1) := by decide +kernel
theorem d52 : decode yB 52 = .ok (.aload 5, 2) := by decide +kernel
theorem d54 : decode yB 54 = .ok (.putfield 9, 3) := by decide +kernel
theorem d57 : decode yB 57 = .ok (.return_, 1) := by decide +kernel
def site : List Cond := [.fieldLink "java/lang/String" 38 "java/lang/String" "COMPACT_STRINGS" "Z", Cmp3.tab, CodL.tab, .laysFinal "java/lang/String" "java/lang/String" "value" "[B", .fieldLink "java/lang/String" 9 "java/lang/String" "value" "[B", .laysFinal "java/lang/String" "java/lang/String" "coder" "B", .fieldLink "java/lang/String" 15 "java/lang/String" "coder" "B"] ++ objW "java/lang/String" 1 ++ staticW "java/lang/String" 177 Cmp3.yN ++ staticW "java/lang/String" 47 CodL.yN
def tab : Cond := tabOf yN yB 6 none site
def P (a : Addr) (D : Cell) (fV fC : Field) (b : Addr) (A : Cell) (z : Int32) (o len : Nat) (args : Array Value) (s : State) : Prop := args = #[.ref a, .ref b, .int (Int32.ofNat o), .int (Int32.ofNat len), .null] ∧ Blank "java/lang/String" a D s ∧ Found "java/lang/String" "value" "[B" fV s ∧ Found "java/lang/String" "coder" "B" fC s ∧ Ch b A s ∧ StaticIs s "java/lang/String" "COMPACT_STRINGS" "Z" (.int z) ∧ ¬ z = 0 ∧ 0 < len ∧ o + len ≤ A.slots.size ∧ len ≤ 536870912 ∧ ∀ i, i < len → ¬ 255 < cv A (o + i)
def E (a : Addr) (D : Cell) (fV fC : Field) (A : Cell) (o len : Nat) (r : Option Value) (s u : State) : Prop := Got a D fV fC A o len r s u
/-- len > 0, no char of the range above 255: a Latin-1 String of their low bytes -/
theorem law (l : Launch) (a : Addr) (D : Cell) (fV fC : Field) (b : Addr) (A : Cell) (z : Int32) (o len : Nat) : Law l yN 5 4 2 35 yB 6 none site (P a D fV fC b A z o len) (E a D fV fC A o len) [⟨a, fC.slot⟩, ⟨a, fV.slot⟩] 1 len := by
  refine Law.of_walk (plainFor_of_name (by decide +kernel)) (by decide +kernel) (by decide +kernel) (by decide) (fun _ _ h => by rw [h.1]; rfl) (fun _ U U' hal hh h => ⟨h.1, h.2.1.mv hal hh, h.2.2.1.al hal, h.2.2.2.1.al hal, h.2.2.2.2.1.mv hal hh, h.2.2.2.2.2.1.there hal hh, h.2.2.2.2.2.2⟩) (fun r U U' V V' h1 hal h2 h => Got.mv r U U' V V' h1 hal h2 h) ?_
  intro p e s m args below meth c s₁ X0 hexec hbytes hml hret hlk hnm hown hh0 W hP
  obtain ⟨rfl, hB, f1, f2, hA, s1, hz, l0, l1, l2, hp⟩ := hP
  have a31 := hA.1.2.2.2
  have c1 : Steps p.tables e below (s₁.setTop (entryFrame m #[.ref a, .ref b, .int (Int32.ofNat o), .int (Int32.ofNat len), .null] 6)) (s₁.setTop (mkF m 0 #[.val (.ref a), .val (.ref b), .val (.int (Int32.ofNat o)), .val (.int (Int32.ofNat len)), .val .null, .unset] [])) := entry rfl
  have c2 : Steps p.tables e below (s₁.setTop (entryFrame m #[.ref a, .ref b, .int (Int32.ofNat o), .int (Int32.ofNat len), .null] 6)) (s₁.setTop (mkF m 1 #[.val (.ref a), .val (.ref b), .val (.int (Int32.ofNat o)), .val (.int (Int32.ofNat len)), .val .null, .unset] [.ref a])) := c1.trans (by
    refine XS.aloadN X0.here hexec rfl (hb hbytes d0) rfl rfl ?_
    exact Steps.refl _)
  obtain ⟨T3, X3, q3, st3⟩ := X0.oinit hexec hown (wks W (objW "java/lang/String" 1)) (g := (mkF m 1 #[.val (.ref a), .val (.ref b), .val (.int (Int32.ofNat o)), .val (.int (Int32.ofNat len)), .val .null, .unset] [.ref a])) rfl (by rw [hml]; rfl) (rest := []) rfl (hb hbytes d1) (W := 0) (by show 2 * 0 + 0 ≤ _; decide) (Nat.le_of_ble_eq_true rfl) (Nat.le_of_ble_eq_true rfl)
  have hh3 := q3.trans hh0
  have c4 : Steps p.tables e below (s₁.setTop (entryFrame m #[.ref a, .ref b, .int (Int32.ofNat o), .int (Int32.ofNat len), .null] 6)) (T3.setTop (mkF m 27 #[.val (.ref a), .val (.ref b), .val (.int (Int32.ofNat o)), .val (.int (Int32.ofNat len)), .val .null, .unset] [])) := (c2.trans (st3 _ (Steps.refl _))).trans (by
    refine XS.iloadN X3.here hexec rfl (hb hbytes d4) rfl ?_
    refine XS.ifYes X3.here hexec rfl (pc0 := 5) rfl (hb hbytes d5) rfl (i0_ne_t (nz32 (by omega) l0)) (by decide) rfl ?_
    exact Steps.refl _)
  obtain ⟨T5, X5, q5, st5⟩ := X3.sget hexec hown (wk W (.fieldLink "java/lang/String" 38 "java/lang/String" "COMPACT_STRINGS" "Z")) s1 (fun _ _ h => by rw [hh3]; exact h) (g := (mkF m 27 #[.val (.ref a), .val (.ref b), .val (.int (Int32.ofNat o)), .val (.int (Int32.ofNat len)), .val .null, .unset] [])) rfl (hb hbytes d27)
  have hh5 := q5.trans hh3
  have c6 : Steps p.tables e below (s₁.setTop (entryFrame m #[.ref a, .ref b, .int (Int32.ofNat o), .int (Int32.ofNat len), .null] 6)) (T5.setTop (mkF m 30 #[.val (.ref a), .val (.ref b), .val (.int (Int32.ofNat o)), .val (.int (Int32.ofNat len)), .val .null, .unset] [.int z])) := c4.trans (st5 _ (Steps.refl _))
  have c7 : Steps p.tables e below (s₁.setTop (entryFrame m #[.ref a, .ref b, .int (Int32.ofNat o), .int (Int32.ofNat len), .null] 6)) (T5.setTop (mkF m 36 #[.val (.ref a), .val (.ref b), .val (.int (Int32.ofNat o)), .val (.int (Int32.ofNat len)), .val .null, .unset] [.int (Int32.ofNat len), .int (Int32.ofNat o), .ref b])) := c6.trans (by
    refine XS.ifNo X5.here hexec rfl (hb hbytes d30) rfl (i0_eq_f hz) ?_
    refine XS.aloadN X5.here hexec rfl (hb hbytes d33) rfl rfl ?_
    refine XS.iloadN X5.here hexec rfl (hb hbytes d34) rfl ?_
    refine XS.iloadN X5.here hexec rfl (hb hbytes d35) rfl ?_
    exact Steps.refl _)
  obtain ⟨v8, T8, X8, E8, g8⟩ := X5.callS hexec (Cmp3.law l b A o len) hown (wks W (staticW "java/lang/String" 177 Cmp3.yN)) (wk W Cmp3.tab) (W := 0) (Nat.le_of_ble_eq_true rfl) (Nat.le_of_ble_eq_true rfl) (Nat.le_refl _) (by show 0 + len ≤ len; omega) (g := (mkF m 36 #[.val (.ref a), .val (.ref b), .val (.int (Int32.ofNat o)), .val (.int (Int32.ofNat len)), .val .null, .unset] [.int (Int32.ofNat len), .int (Int32.ofNat o), .ref b])) rfl (by rw [hml]; rfl) c7 (argsL := [.ref b, .int (Int32.ofNat o), .int (Int32.ofNat len)]) (rest := []) rfl rfl (by show 2 * 0 + 0 ≤ _; decide) (hb hbytes d36) (⟨rfl, hA.mv X5.warmed.alike hh5, l1, l2, hp⟩)
  obtain ⟨e8, z8⟩ := E8
  obtain ⟨rfl, N, n1, n2, n3, n4, n5, n6⟩ := NewArr.mv _ T5 s _ _ hh5.symm (Vm.Alike.refl _) rfl e8
  rw [hh5] at z8
  have hB1 := hB.keep X8.warmed.alike (n6 _ _ hB.1)
  have hne : s.heap.size ≠ a := (Nat.ne_of_lt (Array.getElem?_eq_some_iff.mp hB.1).1).symm
  have c9 : Steps p.tables e below (s₁.setTop (entryFrame m #[.ref a, .ref b, .int (Int32.ofNat o), .int (Int32.ofNat len), .null] 6)) (T8.setTop (mkF m 39 #[.val (.ref a), .val (.ref b), .val (.int (Int32.ofNat o)), .val (.int (Int32.ofNat len)), .val .null, .unset] [.ref s.heap.size])) := g8
  have c10 : Steps p.tables e below (s₁.setTop (entryFrame m #[.ref a, .ref b, .int (Int32.ofNat o), .int (Int32.ofNat len), .null] 6)) (T8.setTop (mkF m 45 #[.val (.ref a), .val (.ref b), .val (.int (Int32.ofNat o)), .val (.int (Int32.ofNat len)), .val .null, .val (.ref s.heap.size)] [.int (Int32.ofNat N.slots.size), .ref s.heap.size, .ref a])) := by
    have hc : Steps p.tables e below (s₁.setTop (entryFrame m #[.ref a, .ref b, .int (Int32.ofNat o), .int (Int32.ofNat len), .null] 6)) (T8.setTop (mkF m 45 #[.val (.ref a), .val (.ref b), .val (.int (Int32.ofNat o)), .val (.int (Int32.ofNat len)), .val .null, .val (.ref s.heap.size)] [.int (Int32.ofNat len), .ref s.heap.size, .ref a])) := c9.trans (by
      refine XS.astore X8.here hexec rfl (hb hbytes d39) rfl rfl rfl ?_
      refine XS.aloadN X8.here hexec rfl (hb hbytes d41) rfl rfl ?_
      refine XS.aload X8.here hexec rfl (hb hbytes d42) rfl rfl ?_
      refine XS.iloadN X8.here hexec rfl (hb hbytes d44) rfl ?_
      exact Steps.refl _)
    rw [n4]; exact hc
  obtain ⟨v11, T11, X11, E11, g11⟩ := X8.callS hexec (CodL.law l s.heap.size N) hown (wks W (staticW "java/lang/String" 47 CodL.yN)) (wk W CodL.tab) (W := 1) (Nat.le_of_ble_eq_true rfl) (Nat.le_of_ble_eq_true rfl) (Nat.le_refl _) (by show 0 + len + 0 ≤ len; omega) (g := (mkF m 45 #[.val (.ref a), .val (.ref b), .val (.int (Int32.ofNat o)), .val (.int (Int32.ofNat len)), .val .null, .val (.ref s.heap.size)] [.int (Int32.ofNat N.slots.size), .ref s.heap.size, .ref a])) rfl (by rw [hml]; rfl) c10 (argsL := [.ref s.heap.size, .int (Int32.ofNat N.slots.size)]) (rest := [.ref a]) rfl rfl (by show 2 * 0 + (1 + 0) ≤ _; decide) (hb hbytes d45) (⟨rfl, n1⟩)
  obtain ⟨rfl, q11⟩ := E11
  have hB11 := hB1.mv (X8.warmed.alike.symm.trans X11.warmed.alike) q11
  have c12 : Steps p.tables e below (s₁.setTop (entryFrame m #[.ref a, .ref b, .int (Int32.ofNat o), .int (Int32.ofNat len), .null] 6)) (T11.setTop (mkF m 48 #[.val (.ref a), .val (.ref b), .val (.int (Int32.ofNat o)), .val (.int (Int32.ofNat len)), .val .null, .val (.ref s.heap.size)] [.int 0, .ref a])) := g11
  obtain ⟨T13, X13, p13, bl13, sl13, st13⟩ := X11.finit hexec hown (wk W (.fieldLink "java/lang/String" 15 "java/lang/String" "coder" "B")) (Or.inr ⟨_, (wk W (.laysFinal "java/lang/String" "java/lang/String" "coder" "B"))⟩) (Or.inl ⟨rfl, hnm⟩) f2 (Or.inl rfl) hB11 (t := .byte) (by decide +kernel) rfl (g := (mkF m 48 #[.val (.ref a), .val (.ref b), .val (.int (Int32.ofNat o)), .val (.int (Int32.ofNat len)), .val .null, .val (.ref s.heap.size)] [.int 0, .ref a])) rfl (rest := []) rfl (hb hbytes d48)
  have c14 : Steps p.tables e below (s₁.setTop (entryFrame m #[.ref a, .ref b, .int (Int32.ofNat o), .int (Int32.ofNat len), .null] 6)) (T13.setTop (mkF m 54 #[.val (.ref a), .val (.ref b), .val (.int (Int32.ofNat o)), .val (.int (Int32.ofNat len)), .val .null, .val (.ref s.heap.size)] [.ref s.heap.size, .ref a])) := (c12.trans (st13 _ (Steps.refl _))).trans (by
    refine XS.aloadN X13.here hexec rfl (hb hbytes d51) rfl rfl ?_
    refine XS.aload X13.here hexec rfl (hb hbytes d52) rfl rfl ?_
    exact Steps.refl _)
  obtain ⟨T15, X15, p15, bl15, sl15, st15⟩ := X13.finit hexec hown (wk W (.fieldLink "java/lang/String" 9 "java/lang/String" "value" "[B")) (Or.inr ⟨_, (wk W (.laysFinal "java/lang/String" "java/lang/String" "value" "[B"))⟩) (Or.inl ⟨rfl, hnm⟩) f1 (Or.inl rfl) bl13 (t := (.array .byte)) (by decide +kernel) rfl (g := (mkF m 54 #[.val (.ref a), .val (.ref b), .val (.int (Int32.ofNat o)), .val (.int (Int32.ofNat len)), .val .null, .val (.ref s.heap.size)] [.ref s.heap.size, .ref a])) rfl (rest := []) rfl (hb hbytes d54)
  have c16 : Steps p.tables e below (s₁.setTop (entryFrame m #[.ref a, .ref b, .int (Int32.ofNat o), .int (Int32.ofNat len), .null] 6)) (T15.setTop (mkF m 57 #[.val (.ref a), .val (.ref b), .val (.int (Int32.ofNat o)), .val (.int (Int32.ofNat len)), .val .null, .val (.ref s.heap.size)] [])) := c14.trans (st15 _ (Steps.refl _))
  have ap := apart (Or.inr ⟨_, (wk W (.laysFinal "java/lang/String" "java/lang/String" "value" "[B"))⟩) (Or.inr ⟨_, (wk W (.laysFinal "java/lang/String" "java/lang/String" "coder" "B"))⟩) f1 f2 (t₁ := .array .byte) (t₂ := .byte) (by decide +kernel) (by decide +kernel) (by decide)
  have al := X8.warmed.alike.symm.trans X15.warmed.alike
  have n7 : T11.heap[s.heap.size]? = some N := by rw [q11]; exact n1.1
  exact ⟨T15, none, _, _, _, X15, by simp, rfl, by omega, (fun _ => rfl), ⟨rfl, _, N, bl15, ((Same.refl D _).set _ (by simp)).set _ (by simp), sl15, (Cell.slots_setSlot_ne _ ap).trans sl13, n1.keep al (p15.other hne (p13.other hne n7)), n2, by rw [al.findClass]; exact n3, n4, n5, fun y c h1 h2 => p15.other h1 (p13.other h1 (by rw [q11]; exact n6 y c h2)), by rw [p15.2.2, p13.2.2, q11]; exact z8⟩, fun fs hl => c16.trans (X15.returnOut hexec hret (hb hbytes d57) hl)⟩
end New4
namespace New1
def yN : MethodName := ⟨"java/lang/String", "<init>", "([C)V"⟩
abbrev yB : ByteArray := jdk_42_method_3_code
theorem d0 : decode yB 0 = .ok (.aload_n 0, 1) := by decide +kernel
theorem d1 : decode yB 1 = .ok (.aload_n 1, 1) := by decide +kernel
theorem d2 : decode yB 2 = .ok (.iconst 0, 1) := by decide +kernel
theorem d3 : decode yB 3 = .ok (.aload_n 1, 1) := by decide +kernel
theorem d4 : decode yB 4 = .ok (.arraylength, 1) := by decide +kernel
theorem d5 : decode yB 5 = .ok (.aconst_null, 1) := by decide +kernel
theorem d6 : decode yB 6 = .ok (.invokespecial 27, 3) := by decide +kernel
theorem d9 : decode yB 9 = .ok (.return_, 1) := by decide +kernel
def site : List Cond := [New4.tab] ++ initW "java/lang/String" 27 New4.yN
def tab : Cond := tabOf yN yB 2 none site
def P (a : Addr) (D : Cell) (fV fC : Field) (b : Addr) (A : Cell) (z : Int32) (args : Array Value) (s : State) : Prop := args = #[.ref a, .ref b] ∧ Blank "java/lang/String" a D s ∧ Found "java/lang/String" "value" "[B" fV s ∧ Found "java/lang/String" "coder" "B" fC s ∧ Ch b A s ∧ StaticIs s "java/lang/String" "COMPACT_STRINGS" "Z" (.int z) ∧ ¬ z = 0 ∧ 0 < A.slots.size ∧ A.slots.size ≤ 536870912 ∧ ∀ i, i < A.slots.size → ¬ 255 < cv A i
def E (a : Addr) (D : Cell) (fV fC : Field) (A : Cell) (r : Option Value) (s u : State) : Prop := Got a D fV fC A 0 A.slots.size r s u
/-- new String(chars), not empty, no char above 255: a Latin-1 String of their low bytes -/
theorem law (l : Launch) (a : Addr) (D : Cell) (fV fC : Field) (b : Addr) (A : Cell) (z : Int32) : Law l yN 2 1 3 52 yB 2 none site (P a D fV fC b A z) (E a D fV fC A) [⟨a, fC.slot⟩, ⟨a, fV.slot⟩] 1 A.slots.size := by
  refine Law.of_walk (plainFor_of_name (by decide +kernel)) (by decide +kernel) (by decide +kernel) (by decide) (fun _ _ h => by rw [h.1]; rfl) (fun _ U U' hal hh h => ⟨h.1, h.2.1.mv hal hh, h.2.2.1.al hal, h.2.2.2.1.al hal, h.2.2.2.2.1.mv hal hh, h.2.2.2.2.2.1.there hal hh, h.2.2.2.2.2.2⟩) (fun r U U' V V' h1 hal h2 h => Got.mv r U U' V V' h1 hal h2 h) ?_
  intro p e s m args below meth c s₁ X0 hexec hbytes hml hret hlk hnm hown hh0 W hP
  obtain ⟨rfl, hB, f1, f2, hA, s1, hz, l0, l2, hp⟩ := hP
  have c1 : Steps p.tables e below (s₁.setTop (entryFrame m #[.ref a, .ref b] 2)) (s₁.setTop (mkF m 0 #[.val (.ref a), .val (.ref b)] [])) := entry rfl
  have c2 : Steps p.tables e below (s₁.setTop (entryFrame m #[.ref a, .ref b] 2)) (s₁.setTop (mkF m 6 #[.val (.ref a), .val (.ref b)] [.null, .int (Int32.ofNat A.slots.size), .int 0, .ref b, .ref a])) := c1.trans (by
    refine XS.aloadN X0.here hexec rfl (hb hbytes d0) rfl rfl ?_
    refine XS.aloadN X0.here hexec rfl (hb hbytes d1) rfl rfl ?_
    refine iconstV X0.here hexec rfl 0 (hb hbytes d2) (by decide) ?_
    refine XS.aloadN X0.here hexec rfl (hb hbytes d3) rfl rfl ?_
    refine X0.alen hexec (hA.1.mv X0.warmed.alike hh0) rfl rfl (hb hbytes d4) ?_
    refine XS.aconstNull X0.here hexec rfl (hb hbytes d5) ?_
    exact Steps.refl _)
  obtain ⟨v3, T3, X3, E3, g3⟩ := X0.callN hexec (New4.law l a D fV fC b A z 0 A.slots.size) rfl hown (wks W (initW "java/lang/String" 27 New4.yN)) (W New4.tab (by simp only [site, List.mem_cons, List.mem_append, true_or, or_true])) (W := 0) (Nat.le_of_ble_eq_true rfl) (Nat.le_of_ble_eq_true rfl) (Nat.le_refl _) (by show 0 + A.slots.size ≤ A.slots.size; omega) (g := (mkF m 6 #[.val (.ref a), .val (.ref b)] [.null, .int (Int32.ofNat A.slots.size), .int (Int32.ofNat 0), .ref b, .ref a])) rfl (by rw [hml]; rfl) c2 (argsL := [.ref b, .int (Int32.ofNat 0), .int (Int32.ofNat A.slots.size), .null]) (rest := []) rfl rfl (by show 2 * 0 + 0 ≤ _; decide) (hb hbytes d6) (⟨rfl, hB.mv X0.warmed.alike hh0, f1.al X0.warmed.alike, f2.al X0.warmed.alike, hA.mv X0.warmed.alike hh0, s1.there X0.warmed.alike hh0, hz, l0, by omega, l2, fun i hi => by rw [Nat.zero_add]; exact hp i hi⟩)
  have e0 := Got.mv _ s₁ s _ _ hh0.symm (Vm.Alike.refl _) rfl E3
  obtain rfl := e0.1
  have c4 : Steps p.tables e below (s₁.setTop (entryFrame m #[.ref a, .ref b] 2)) (T3.setTop (mkF m 9 #[.val (.ref a), .val (.ref b)] [])) := g3
  exact ⟨T3, none, _, _, _, X3, by simp, rfl, by omega, (fun _ => rfl), e0, fun fs hl => c4.trans (X3.returnOut hexec hret (hb hbytes d9) hl)⟩
theorem pays {l : Launch} {R : Room} {p : Program} {e : Env} {below : List Frame} {s : State} {sargs : Array Value} {len W : Nat} (a : Addr) (D : Cell) (fV fC : Field) (b : Addr) (A : Cell) (z : Int32) (htab : tab.before sargs s = true) (hfr : 4 ≤ R.frames) (hlo : W + 65 ≤ R.locals) :
    Back l R p e below s sargs yN len W (fun A₁ a₁ => A₁.cells + 1 ≤ R.cells ∧ A₁.slots + A.slots.size ≤ R.slots ∧ P a D fV fC b A z a₁ A₁.U) (fun A₁ _ v₁ B₁ => E a D fV fC A v₁ A₁.U B₁.U ∧ B₁.locs = A₁.locs ++ [⟨a, fC.slot⟩, ⟨a, fV.slot⟩] ∧ B₁.cells = A₁.cells + 1 ∧ B₁.slots = A₁.slots + A.slots.size) :=
  (law l a D fV fC b A z).pays htab hfr (by omega)
end New1
end StrChars
namespace StrChars.Road
open Jvm Sem ClassFile Op Lib Jvm.Stand Jvm.Free Jvm.Free.XT
open Jvm.Lib.Cold (StaticIs)
abbrev ST : String := "java/lang/String"
/-- every table word that New1's law asks, flat -/
abbrev words : List Jvm.Cond := [.code New1.yN New1.yB 2 none, .initialized ST, .methodLink ST 27 New4.yN, .instanceMethod New4.yN,
  .code New4.yN New4.yB 6 none, .fieldLink ST 38 ST "COMPACT_STRINGS" "Z", .laysFinal ST ST "value" "[B", .fieldLink ST 9 ST "value" "[B", .laysFinal ST ST "coder" "B", .fieldLink ST 15 ST "coder" "B",
  .methodLink ST 1 Lib.objectInit, .instanceMethod Lib.objectInit, .code Lib.objectInit ⟨#[0xb1]⟩ 1 none, .methodLink ST 177 Cmp3.yN, .static Cmp3.yN, .methodLink ST 47 CodL.yN, .static CodL.yN,
  .code Cmp3.yN Cmp3.yB 6 (some (.array .byte)), .initialized U16, .arrayClass .byte, .methodLink U16 115 Cmp5.yN, .static Cmp5.yN, .code Cmp5.yN Cmp5.yB 7 (some .int), .code CodL.yN CodL.yB 2 (some .byte)]
theorem tab_of {a : Array Value} {s : State} (h : ∀ w ∈ words, w.before a s = true) : New1.tab.before a s = true := by
  have h5 : Cmp5.tab.before a s = true := unparts (wk h (.code Cmp5.yN Cmp5.yB 7 (some .int))) (wks h (.initialized Cmp5.yN.cls :: Cmp5.site))
  have hc : CodL.tab.before a s = true := unparts (wk h (.code CodL.yN CodL.yB 2 (some .byte))) (wks h (.initialized CodL.yN.cls :: CodL.site))
  have q5 : ∀ w ∈ Cmp5.tab :: words, w.before a s = true := fun w hw => (List.mem_cons.mp hw).elim (fun e => e ▸ h5) (h w)
  have h3 : Cmp3.tab.before a s = true := unparts (wk q5 (.code Cmp3.yN Cmp3.yB 6 (some (.array .byte)))) (wks q5 (.initialized Cmp3.yN.cls :: Cmp3.site))
  have q3 : ∀ w ∈ Cmp3.tab :: CodL.tab :: words, w.before a s = true := fun w hw => (List.mem_cons.mp hw).elim (fun e => e ▸ h3) fun hw => (List.mem_cons.mp hw).elim (fun e => e ▸ hc) (h w)
  have h4 : New4.tab.before a s = true := unparts (wk q3 (.code New4.yN New4.yB 6 none)) (wks q3 (.initialized New4.yN.cls :: New4.site))
  have q4 : ∀ w ∈ New4.tab :: words, w.before a s = true := fun w hw => (List.mem_cons.mp hw).elim (fun e => e ▸ h4) (h w)
  exact unparts (wk q4 (.code New1.yN New1.yB 2 none)) (wks q4 (.initialized New1.yN.cls :: New1.site))
/-- the words ride from the start Z to the walk's own state -/
theorem moved {Z s : State} {a0 args : Array Value} (hZ : Z.Warmed39 s.vm) (hw : ∀ d ∈ words, d.before a0 Z = true) : ∀ d ∈ words, d.before args s = true := fun d hd => by
  have q := hw d hd
  have t : ∀ d ∈ words, d = .arrayClass .byte ∨ (d.onTables && d.keepsFace) = true := by decide +kernel
  rcases t d hd with rfl | t
  · exact RoadKit.mvA hZ q
  · exact RoadKit.mv hZ q t
/-- WHAT COMES BACK, over the tables of the start Z: h the heap at the call, h' behind it -/
def Q (Z : State) (x : Addr) (A : Cell) (h : Heap) (v : Option Value) (h' : Heap) (L : List Loc) : Prop := v = none ∧ (∀ y ∈ L, y.base = x) ∧ RoadKit.Keep h h' [x] ∧ h'.size = h.size + 1 ∧ RoadKit.Exa Z h' x ST ∧ RoadKit.Fld Z h' x ST "value" "[B" (.ref h.size) ∧ RoadKit.Fld Z h' x ST "coder" "B" (.int 0) ∧
  (∃ V : Cell, RoadKit.Arr Z h' h.size V .byte ∧ V.vm = .none ∧ Z.vm.findClass "[B" = some V.cls ∧ V.slots.size = A.slots.size ∧ ∀ j, j < A.slots.size → V.slots[j]? = some (.int (lo8 (cv A j)))) ∧
  ∀ (O n d : String) (w : Value), RoadKit.Fld Z h x O n d w → RoadKit.slotOf Z O n d ≠ RoadKit.slotOf Z ST "value" "[B" → RoadKit.slotOf Z O n d ≠ RoadKit.slotOf Z ST "coder" "B" → RoadKit.Fld Z h' x O n d w
/-- **new String(chars) AT A CALL, IN THE ROAD'S FORM**: for specialBack behind newO: x the fresh String, b the char[] with the cell A -/
theorem back {p : Program} {l : Launch} {e : Env} {R : Room} {s : State} {args : Array Value} {below : List Frame} {len W : Nat} {Z : State} {a0 : Array Value} {h : Heap} (hZ : Z.Warmed39 s.vm) (hw : ∀ d ∈ words, d.before a0 Z = true) {kI : Nat} (wi : (Jvm.Cond.instantiable ST kI).before a0 Z = true)
    {x b : Addr} {A : Cell} {z : Int32} {v0 c0 : Value} (E : RoadKit.Exa Z h x ST) (V : RoadKit.Fld Z h x ST "value" "[B" v0) (C : RoadKit.Fld Z h x ST "coder" "B" c0) (K : RoadKit.Arr Z h b A .char) (hty : Typed .char A) (S : RoadKit.Sta Z h ST "COMPACT_STRINGS" "Z" (.int z)) (hz : ¬ z = 0)
    (l0 : 0 < A.slots.size) (l2 : A.slots.size ≤ 536870912) (hp : ∀ i, i < A.slots.size → ¬ 255 < cv A i) (hfr : 4 ≤ R.frames) (hlo : W + 65 ≤ R.locals) :
    Back l R p e below s args New1.yN len W (fun P a => a = #[.ref x, .ref b] ∧ P.U.heap = h ∧ P.cells + 1 ≤ R.cells ∧ P.slots + A.slots.size ≤ R.slots)
      (fun P _ v B => ∃ L, Q Z x A h v B.U.heap L ∧ B.locs = P.locs ++ L ∧ B.cells = P.cells + 1 ∧ B.slots = P.slots + A.slots.size) := by
  intro m meth c P g ig mk a X hg hsize hdg hW hn hp'
  obtain ⟨rfl, rfl, r1, r2⟩ := hp'
  have al : Z.vm.Alike P.U.vm := hZ.alike.trans X.warmed.alike
  obtain ⟨D, cfV, kV, iV, fV, hD, gV, stV, knV, obV, asV, slV⟩ := id V
  obtain ⟨D', cfC, kC, iC, fC, hD', gC, stC, -, -, asC, slC⟩ := id C
  cases hD.symm.trans hD'
  obtain ⟨D2, kD, e1, e2, e3, e4, e5⟩ := id E
  cases hD.symm.trans e1
  obtain ⟨c2, k2, i1, i2, i3, -⟩ := Cond.instantiable_spec wi
  cases e2.symm.trans i1
  cases e3.symm.trans i2
  obtain ⟨kU, u1, u2⟩ := al.2.2 _ _ e3
  have hB : Blank ST x D P.U := ⟨hD, ⟨knV, fun q hq => by rw [hq] at obV; cases obV⟩, by rw [al.findClass]; exact e2, kU, u1, by rw [u2]; exact i3, by rw [u2]; exact e5 i3⟩
  have F1 : Found ST "value" "[B" fV P.U := ⟨SBG.found_only al ⟨cfV, kV, iV, gV⟩, stV⟩
  have F2 : Found ST "coder" "B" fC P.U := ⟨SBG.found_only al ⟨cfC, kC, iC, gC⟩, stC⟩
  have hA : Ch b A P.U := ⟨⟨K.1, State.isArrayOf_alike al K.2.1, K.2.2, by omega⟩, hty⟩
  have hS : StaticIs P.U ST "COMPACT_STRINGS" "Z" (.int z) := by
    obtain ⟨cfS, iS, kS, fS, st, cS, t1, t2, t3, t4, t5, t6, t7⟩ := S
    exact StaticIs.there (s := { Z with heap := P.U.heap }) ⟨cfS, iS, kS, fS, st, cS, t1, t2, t3, t4, t5, (fun q => by rw [q] at t6; cases t6), t7⟩ al rfl
  obtain ⟨v, B, X', ⟨⟨hv, E', V', q1, q2, q3, q4, q5, q6, q7, q8, q9, q10, q11⟩, hl, hc, hs⟩, st⟩ := New1.pays x D fV fC b A z (tab_of (moved hZ hw)) hfr hlo m meth c P g ig mk _ X hg hsize hdg hW hn ⟨r1, r2, rfl, hB, F1, F2, hA, hS, hz, l0, l2, hp⟩
  have al' : Z.vm.Alike B.U.vm := hZ.alike.trans X'.warmed.alike
  have hsz : E'.slots.size = D.slots.size := by
    obtain ⟨-, -, -, kB, w1, w2, w3⟩ := q1
    obtain ⟨kB', y1, y2⟩ := al'.2.2 _ _ e3
    rw [q2.2.1] at w1
    cases w1.symm.trans y1
    rw [w3, e5 i3, y2]
  refine ⟨v, B, X', ⟨_, ⟨hv, ?_, ⟨by omega, fun y cy hy hn' => q10 y cy (by simpa using hn') hy, fun y cy hy => ?_⟩, q11, ⟨E', _, q1.1, by rw [q2.2.1]; exact e2, by rw [q2.2.1]; exact e3, by rw [q2.1]; exact obV, fun _ => by rw [hsz]; exact e5 i3⟩,
    ⟨E', cfV, kV, iV, fV, q1.1, gV, stV, by rw [q2.1]; exact knV, by rw [q2.1]; exact obV, by rw [q2.2.1]; exact asV, q3⟩, ⟨E', cfC, kC, iC, fC, q1.1, gC, stC, by rw [q2.1]; exact knV, by rw [q2.1]; exact obV, by rw [q2.2.1]; exact asC, q4⟩,
    ⟨V', ⟨q5.1, State.isArrayOf_alike al'.symm q5.2.1, q5.2.2.1⟩, q6, by rw [← al'.findClass]; exact q7, q8, fun j hj => by have := q9 j hj; rwa [Nat.zero_add] at this⟩, fun O n d w F n1 n2 => ?_⟩, hl, hc, hs⟩, st⟩
  · intro y hy
    simp only [List.mem_cons, List.not_mem_nil, or_false] at hy
    rcases hy with rfl | rfl <;> rfl
  · by_cases q : y = x
    · subst q
      cases hD.symm.trans hy
      exact ⟨E', q1.1, q2.2.1, q2.1, hsz⟩
    · exact ⟨cy, q10 y cy q hy, rfl, rfl, rfl⟩
  · obtain ⟨D3, cf, k, i, f, g1, g2, g3, g4, g5, g6, g7⟩ := F
    cases hD.symm.trans g1
    simp only [RoadKit.slotOf, g2, gV, gC, Option.map_some, Option.getD_some] at n1 n2
    exact ⟨E', cf, k, i, f, q1.1, g2, g3, by rw [q2.1]; exact g4, by rw [q2.1]; exact g5, by rw [q2.2.1]; exact g6, by rw [q2.2.2 f.slot (by simp [n1, n2])]; exact g7⟩
end StrChars.Road
namespace StrChars.Road
open Jvm Sem ClassFile Op Lib Jvm.Stand Jvm.Free Jvm.Free.XT
/-- WHAT COMES BACK, the byte[] as a list of values -/
def QA (Z : State) (x : Addr) (zn : Int32) (cs : List Int32) (h : Heap) (v : Option Value) (h' : Heap) (L : List Loc) : Prop := v = none ∧ (∀ y ∈ L, y.base = x) ∧ RoadKit.Keep h h' [x] ∧ h'.size = h.size + 1 ∧ RoadKit.Exa Z h' x ST ∧ RoadKit.Fld Z h' x ST "value" "[B" (.ref h.size) ∧ RoadKit.Fld Z h' x ST "coder" "B" (.int 0) ∧
  (∃ kb, Z.vm.findClass "[B" = some kb ∧ RoadKit.Arv Z h' h.size kb .byte zn (cs.map fun c => .int (lo8 c)) (.int 0)) ∧
  ∀ (O n d : String) (w : Value), RoadKit.Fld Z h x O n d w → RoadKit.slotOf Z O n d ≠ RoadKit.slotOf Z ST "value" "[B" → RoadKit.slotOf Z O n d ≠ RoadKit.slotOf Z ST "coder" "B" → RoadKit.Fld Z h' x O n d w
/-- **new String(chars) AT A CALL, THE ARRAYS AS LISTS**: the char[] at b holds cs, not empty, no char above 255 -/
theorem backArv {p : Program} {l : Launch} {e : Env} {R : Room} {s : State} {args : Array Value} {below : List Frame} {len W : Nat} {Z : State} {a0 : Array Value} {h : Heap} (hZ : Z.Warmed39 s.vm) (hw : ∀ d ∈ words, d.before a0 Z = true) {kI : Nat} (wi : (Jvm.Cond.instantiable ST kI).before a0 Z = true)
    {x b : Addr} {k : ClassId} {zn z : Int32} {cs : List Int32} {dv v0 c0 : Value} (E : RoadKit.Exa Z h x ST) (V : RoadKit.Fld Z h x ST "value" "[B" v0) (C : RoadKit.Fld Z h x ST "coder" "B" c0) (K : RoadKit.Arv Z h b k .char zn (cs.map Value.int) dv) (S : RoadKit.Sta Z h ST "COMPACT_STRINGS" "Z" (.int z)) (hz : ¬ z = 0)
    (hlen : zn.toNatClampNeg = cs.length) (h0 : 0 < cs.length) (hbig : cs.length ≤ 536870912) (hall : ∀ c ∈ cs, ¬ 255 < c) (hfr : 4 ≤ R.frames) (hlo : W + 65 ≤ R.locals) :
    Back l R p e below s args New1.yN len W (fun P a => a = #[.ref x, .ref b] ∧ P.U.heap = h ∧ P.cells + 1 ≤ R.cells ∧ P.slots + cs.length ≤ R.slots)
      (fun P _ v B => ∃ L, QA Z x zn cs h v B.U.heap L ∧ B.locs = P.locs ++ L ∧ B.cells = P.cells + 1 ∧ B.slots = P.slots + cs.length) := by
  obtain ⟨A, K1, K2, K3, K4, K5, K6⟩ := K
  have e : A.slots.size = cs.length := K3.trans hlen
  have hat : ∀ (i : Nat) (hi : i < cs.length), A.slots[i]? = some (.int cs[i]) := fun i hi => by rw [K5 i (by omega)]; simp [List.getD_eq_getElem?_getD, hi]
  have hcv : ∀ (i : Nat) (hi : i < cs.length), cv A i = cs[i] := fun i hi => by unfold cv; rw [hat i hi]
  have hty : Typed .char A := fun i v hv => by
    have hi : i < A.slots.size := (Array.getElem?_eq_some_iff.mp hv).1
    have q := K5 i hi
    rw [hv] at q
    rw [Option.some.inj q]
    exact K6 i hi
  refine Back.mono (back hZ hw wi E V C K1 hty S hz (by omega) (by omega) (fun i hi => by rw [hcv i (by omega)]; exact hall _ (List.getElem_mem _)) hfr hlo) (fun P a hp => ⟨hp.1, hp.2.1, hp.2.2.1, by rw [e]; exact hp.2.2.2⟩) (fun P a v B hp hq => ?_)
  obtain ⟨L, ⟨q1, q2, q3, q4, q5, q6, q7, ⟨V', v1, v2, v3, v4, v5⟩, q9⟩, hl, hc, hs⟩ := hq
  refine ⟨L, ⟨q1, q2, q3, q4, q5, q6, q7, ⟨V'.cls, v3, V', v1, rfl, by rw [v4, e, hlen], K4, fun i hi => ?_, fun i hi => ?_⟩, q9⟩, hl, hc, by rw [hs, e]⟩
  · have hi' : i < cs.length := by omega
    rw [v5 i (by omega), hcv i hi']; simp [List.getD_eq_getElem?_getD, hi']
  · have hi' : i < cs.length := by omega
    simp only [List.getD_eq_getElem?_getD, List.getElem?_map, List.getElem?_eq_getElem hi', Option.map_some, Option.getD_some]
    exact fits_lo8 _
end StrChars.Road
namespace StrChars.Road
open Jvm Sem ClassFile Op Lib Jvm.Stand Jvm.Free Jvm.Free.XT
/-- WHAT COMES BACK, in the writer's own shape -/
def QV (Z : State) (x : Addr) (N : Int32) (bs : List Int32) (h : Heap) (n0 : Nat) (v : Option Value) (h' : Heap) (L : List Loc) : Prop := v = none ∧ RoadKit.Fr n0 L ∧ RoadKit.Keep h h' [x] ∧ RoadKit.Exa Z h' x ST ∧ RoadKit.Fld Z h' x ST "coder" "B" (.int 0) ∧
  ∃ (t : Addr) (kb : ClassId), n0 ≤ t ∧ h.size ≤ t ∧ ¬ t = x ∧ RoadKit.Fld Z h' x ST "value" "[B" (.ref t) ∧ RoadKit.Arv Z h' t kb .byte N (bs.map Value.int) (.int 0)
/-- **new String(chars) AT A CALL, FOR THE WRITER**: a char[] of n known ints, each 0 to 255 -/
theorem backV {p : Program} {l : Launch} {e : Env} {R : Room} {s : State} {args : Array Value} {below : List Frame} {len W : Nat} {Z : State} {a0 : Array Value} {h : Heap} (hZ : Z.Warmed39 s.vm) (hw : ∀ d ∈ words, d.before a0 Z = true) {kI : Nat} (wi : (Jvm.Cond.instantiable ST kI).before a0 Z = true)
    {x b : Addr} {kC : ClassId} {cs bs : List Int32} {d v0 c0 : Value} {z N : Int32} {n n0 : Nat} (hx0 : n0 ≤ x) (hh0 : n0 ≤ h.size) (E : RoadKit.Exa Z h x ST) (V : RoadKit.Fld Z h x ST "value" "[B" v0) (C : RoadKit.Fld Z h x ST "coder" "B" c0) (K : RoadKit.Arv Z h b kC .char N (cs.map Value.int) d) (S : RoadKit.Sta Z h ST "COMPACT_STRINGS" "Z" (.int z)) (hz : ¬ z = 0)
    (hn : cs.length = n) (hN : N = Int32.ofNat n) (l0 : 0 < n) (l2 : n ≤ 4000) (hp : ∀ c ∈ cs, ¬ c < 0 ∧ ¬ (255 : Int32) < c) (hb : bs = cs.map (fun c => c.toInt8.toInt32)) (hfr : 4 ≤ R.frames) (hlo : W + 65 ≤ R.locals) :
    Back l R p e below s args (⟨"java/lang/String", "<init>", "([C)V"⟩ : MethodName) len W (fun P a => a = #[.ref x, .ref b] ∧ P.U.heap = h ∧ P.cells + 1 ≤ R.cells ∧ P.slots + n ≤ R.slots)
      (fun P _ v B => ∃ L, QV Z x N bs h n0 v B.U.heap L ∧ B.locs = P.locs ++ L ∧ B.cells = P.cells + 1 ∧ B.slots = P.slots + n) := by
  subst hn hN hb
  refine Back.mono (backArv hZ hw wi E V C K S hz (n32 (by omega)) l0 (by omega) (fun c hc => (hp c hc).2) hfr hlo) (fun P a hp => hp) (fun P a v B hp hq => ?_)
  obtain ⟨L, ⟨q1, q2, q3, q4, q5, q6, q7, ⟨kb, v1, v2⟩, q9⟩, hl, hc, hs⟩ := hq
  exact ⟨L, ⟨q1, fun y hy => by rw [q2 y hy]; exact hx0, q3, q5, q7, h.size, kb, hh0, Nat.le_refl _, Nat.ne_of_gt E.lt, q6, by rw [List.map_map]; exact v2⟩, hl, hc, hs⟩
end StrChars.Road
end Jvm.Pilot.@@N@@

namespace Jvm.Pilot.@@N@@
open Jvm Jvm.ClassFile Sem Op Lib Jvm.Free Jvm.Stand Jvm.LawKit Jvm.RoadKit Bundle Jvm.Pilot.@@N@@.Jvm.D
/-! own layer: 'from here the run ends, and Q holds of what it leaves' (own_Dn), stepped backwards -/
def own_Dn (p : Program) (e : Env) (below : List Frame) (s : State) (Q : Option Value → Heap → List Loc → Prop) (K N : Nat) (A : State) : Prop :=
  ∃ s₂ o, Steps p.tables e below A s₂ ∧ s₂.status = .running ∧ Ended s₂ below o ∧ ∃ v L, o = .returned v ∧ Q v s₂.heap L ∧ FrameEnd s o s₂ L K N
def own_Q (r : Option Value) (n0 : Nat) (h0 : Heap) (v : Option Value) (h : Heap) (L : List Loc) : Prop := v = r ∧ Fr n0 L ∧ h = h0
def own_QL (r : Option Value) (n0 : Nat) (v : Option Value) (h : Heap) (L : List Loc) : Prop := v = r ∧ Fr n0 L
def own_Cx (p : Program) (s : State) (m : MethodId) (meth : Method) (c : Code) (Z : State) (a0 : Array Value) (bytes : ByteArray) (ml : Nat) (own nm : String) (ret : Option FieldType) : Prop :=
  p.tables.exec = Jvm.exec ∧ Z.Warmed39 s.vm ∧ (∀ d ∈ tables_1, d.before a0 Z = true) ∧ c.code = bytes ∧ c.maxLocals = ml ∧ s.vm.findClass own = some m.cls ∧ meth.sig.returnType = ret ∧ meth.locks = false ∧ meth.name = nm
theorem own_st {p : Program} {e : Env} {below : List Frame} {s : State} {Q : Option Value → Heap → List Loc → Prop} {K N : Nat} {A B : State} (k : ∀ t, Steps p.tables e below B t → Steps p.tables e below A t) (d : own_Dn p e below s Q K N B) : own_Dn p e below s Q K N A := by
  obtain ⟨s₂, o, h, r⟩ := d
  exact ⟨s₂, o, k _ h, r⟩
theorem own_tr {p : Program} {e : Env} {below : List Frame} {s : State} {Q : Option Value → Heap → List Loc → Prop} {K N : Nat} {A B : State} (k : Steps p.tables e below A B) (d : own_Dn p e below s Q K N B) : own_Dn p e below s Q K N A :=
  own_st (fun _ h => k.trans h) d
theorem own_cat {v : Value} (h : v.isRef = true) : v.category = 1 := by
  cases v <;> first | rfl | (simp [Value.isRef] at h)
section own
variable {p : Program} {l : Launch} {e : Env} {R : Room} {s : State} {m : MethodId} {args : Array Value} {below : List Frame} {meth : Method} {c : Code} {T : State} {locs : List Loc} {cells slots : Nat} {Q : Option Value → Heap → List Loc → Prop} {K N : Nat}
theorem own_ret (X : Stand p l e R s m args below meth c T locs cells slots) (hlk : meth.locks = false) {v : Option Value} (hv : meth.sig.returnType = none → v = none) {A : State} (hK : cells ≤ K) (hN : slots ≤ N) (hq : Q v T.heap locs)
    (hst : ∀ fs, (∀ (f : JFrame) (acts : List Action), f.method = m → f.locked = none → f.entered = [] → (doReturn e (T.setTop f) acts v).1 = T.setFrames fs) → Steps p.tables e below A (T.setFrames fs)) : own_Dn p e below s Q K N A := by
  obtain ⟨fs, hr, hrun, hended, hW, hsame⟩ := X.leave (v := v) hv hlk
  exact ⟨_, _, hst fs hr, hrun, hended, _, _, rfl, hq, ⟨_, rfl⟩, hW, hsame.mono hK hN⟩
theorem own_retI (X : Stand p l e R s m args below meth c T locs cells slots) (hx : p.tables.exec = Jvm.exec) (hret : meth.sig.returnType = some .int) (hlk : meth.locks = false) {pc : Nat} {Ls : Array Slot} {z : Int32} {rest : List Value} (hd : decode c.code pc = .ok (.ireturn, 1)) (hK : cells ≤ K) (hN : slots ≤ N)
    (hq : Q (some (.int z)) T.heap locs) : own_Dn p e below s Q K N (T.setTop (mkF m pc Ls (.int z :: rest))) :=
  own_ret X hlk (fun h => by rw [hret] at h; cases h) hK hN hq (fun fs hr => retOut X hx hret rfl (Or.inl ⟨rfl, Or.inl rfl, _, rfl⟩) hd hr)
theorem own_retJ (X : Stand p l e R s m args below meth c T locs cells slots) (hx : p.tables.exec = Jvm.exec) (hret : meth.sig.returnType = some .long) (hlk : meth.locks = false) {pc : Nat} {Ls : Array Slot} {z : Int64} {rest : List Value} (hd : decode c.code pc = .ok (.lreturn, 1)) (hK : cells ≤ K) (hN : slots ≤ N)
    (hq : Q (some (.long z)) T.heap locs) : own_Dn p e below s Q K N (T.setTop (mkF m pc Ls (.long z :: rest))) :=
  own_ret X hlk (fun h => by rw [hret] at h; cases h) hK hN hq (fun fs hr => retOut X hx hret rfl (Or.inr (Or.inl ⟨rfl, rfl, _, rfl⟩)) hd hr)
theorem own_retZ (X : Stand p l e R s m args below meth c T locs cells slots) (hx : p.tables.exec = Jvm.exec) (hret : meth.sig.returnType = some .boolean) (hlk : meth.locks = false) {pc : Nat} {Ls : Array Slot} {z : Int32} {rest : List Value} (hz : z &&& 1 = z) (hd : decode c.code pc = .ok (.ireturn, 1)) (hK : cells ≤ K) (hN : slots ≤ N)
    (hq : Q (some (.int z)) T.heap locs) : own_Dn p e below s Q K N (T.setTop (mkF m pc Ls (.int z :: rest))) :=
  own_ret X hlk (fun h => by rw [hret] at h; cases h) hK hN hq (fun fs hr => retOut X hx (w := .int z) hret (show Value.int (z &&& 1) = .int z from congrArg Value.int hz) (Or.inl ⟨rfl, Or.inr (Or.inl rfl), _, rfl⟩) hd hr)
theorem own_retV (X : Stand p l e R s m args below meth c T locs cells slots) (hx : p.tables.exec = Jvm.exec) (hret : meth.sig.returnType = none) (hlk : meth.locks = false) {pc : Nat} {Ls : Array Slot} (hd : decode c.code pc = .ok (.return_, 1)) (hK : cells ≤ K) (hN : slots ≤ N)
    (hq : Q none T.heap locs) : own_Dn p e below s Q K N (T.setTop (mkF m pc Ls [])) :=
  own_ret X hlk (fun _ => rfl) hK hN hq (fun fs hr => X.returnOut hx hret hd hr)
theorem own_retA (X : Stand p l e R s m args below meth c T locs cells slots) (hx : p.tables.exec = Jvm.exec) {t : FieldType} (ht : t.isReference = true) (hret : meth.sig.returnType = some t) (hlk : meth.locks = false) {pc : Nat} {Ls : Array Slot} {w : Value} {rest : List Value} (hw : w.isRef = true) (hn : narrow t w = w) (hd : decode c.code pc = .ok (.areturn, 1)) (hK : cells ≤ K) (hN : slots ≤ N)
    (hq : Q (some w) T.heap locs) : own_Dn p e below s Q K N (T.setTop (mkF m pc Ls (w :: rest))) :=
  own_ret X hlk (fun h => by rw [hret] at h; cases h) hK hN hq (fun fs hr => retOut X hx hret hn (Or.inr (Or.inr (Or.inr (Or.inr ⟨rfl, ht, hw⟩)))) hd hr)
end own
theorem own_met {l : Launch} {Z : State} {a0 : Array Value} (hw : ∀ d ∈ tables_1, d.before a0 Z = true) {y : MethodName} {bytes : ByteArray} {ml : Nat} {ret : Option FieldType} {ws : List Jvm.Cond} {rm : Room} {as' : Array Value} {h0 : Heap} {Q : Option Value → Heap → List Loc → Prop} (hpl : plainFor y = true)
    (body : ∀ p e s m below meth c s₁, own_Cx p s m meth c Z a0 bytes ml y.cls y.name ret → Stand p l e rm s m as' below meth c s₁ [] 0 0 → s₁.heap = h0 → own_Dn p e below s Q rm.cells rm.slots (s₁.setTop (entryFrame m as' ml))) :
    MetFree l y (head1 (Jvm.Cond.code y bytes ml ret :: ws) rm) (fun a U => a = as' ∧ Z.Warmed39 U.vm ∧ U.heap = h0) (fun _ _ _ _ _ => True) (fun _ U o U' => ∃ v L, o = .returned v ∧ Q v U'.heap L ∧ FrameEnd U o U' L rm.cells rm.slots) := by
  refine MetFree.of_bodySF hpl hisR ?_
  intro p e s m args below meth c s₁ Bd hml0 hP hK
  obtain ⟨rfl, hZ, hh⟩ := hP
  exact body p e s m below meth c s₁ ⟨Bd.exec, hZ, hw, Bd.bytes, hml0, findClass_of_methodNamed Bd.named, Bd.returns, BodyLoose.notSynchronized Bd, (name_of_methodNamed Bd.named Bd.method).1⟩ (Stand.of_body Bd) (by rw [← hh, Bd.state]; rfl)
theorem own_jtlt {x y : Int64} (h : x < y) : ifCond.holds .lt (lcmpW x y) = true ∧ ifCond.holds .ge (lcmpW x y) = false ∧ ifCond.holds .gt (lcmpW y x) = true ∧ ifCond.holds .le (lcmpW y x) = false := by
  have h1 : lcmpW x y < 0 := by rw [lcW]; exact (lc_lt x y).mpr h
  have h2 : 0 < lcmpW y x := by rw [lcW]; exact (lc_gt y x).mpr h
  exact ⟨(if0 _ _).trans (tlt h1).1, (if0 _ _).trans (tlt h1).2.1, (if0 _ _).trans (tlt h2).2.2.1, (if0 _ _).trans (tlt h2).2.2.2⟩
theorem own_jflt {x y : Int64} (h : ¬ x < y) : ifCond.holds .lt (lcmpW x y) = false ∧ ifCond.holds .ge (lcmpW x y) = true ∧ ifCond.holds .gt (lcmpW y x) = false ∧ ifCond.holds .le (lcmpW y x) = true := by
  have h1 : ¬ lcmpW x y < 0 := by rw [lcW]; exact fun q => h ((lc_lt x y).mp q)
  have h2 : ¬ 0 < lcmpW y x := by rw [lcW]; exact fun q => h ((lc_gt y x).mp q)
  exact ⟨(if0 _ _).trans (flt h1).1, (if0 _ _).trans (flt h1).2.1, (if0 _ _).trans (flt h2).2.2.1, (if0 _ _).trans (flt h2).2.2.2⟩
theorem own_jteq {x y : Int64} (h : x = y) : ifCond.holds .eq (lcmpW x y) = true ∧ ifCond.holds .ne (lcmpW x y) = false := by
  have h1 : lcmpW x y = 0 := by rw [lcW]; exact (lc_eq x y).mpr h
  exact ⟨(if0 _ _).trans (teq h1).1, (if0 _ _).trans (teq h1).2⟩
theorem own_jfeq {x y : Int64} (h : ¬ x = y) : ifCond.holds .eq (lcmpW x y) = false ∧ ifCond.holds .ne (lcmpW x y) = true := by
  have h1 : ¬ lcmpW x y = 0 := by rw [lcW]; exact fun q => h ((lc_eq x y).mp q)
  exact ⟨(if0 _ _).trans (feq h1).1, (if0 _ _).trans (feq h1).2⟩
theorem own_miss (a : Int32) (ks : List Int32) (h : ∀ k ∈ ks, ¬ a = k) {ps : List (Int × Int)} (e : ps.map (·.1) = ks.map Int32.toInt) : ∀ p ∈ ps, p.1 ≠ a.toInt := by
  intro p hp q
  have h1 : p.1 ∈ ps.map (·.1) := List.mem_map.mpr ⟨p, hp, rfl⟩
  rw [e] at h1
  obtain ⟨k, hk, r⟩ := List.mem_map.mp h1
  exact h k hk (Int32.toInt_inj.mp (q.symm.trans r.symm))
theorem own_Sta_keep {Z : State} {h h' : Heap} {C n d : String} {v : Value} {a : Addr} {C' : String} (F : Sta Z h C n d v) (K : Keep h h' [a]) (E : Exa Z h a C') : Sta Z h' C n d v := by
  obtain ⟨cf, i, k, f, st, cell, h1, h2, h3, h4, h5, h6, h7⟩ := F
  obtain ⟨cl, k', e1, -, -, e4, -⟩ := E
  refine ⟨cf, i, k, f, st, cell, h1, h2, h3, h4, K.2.1 _ _ h5 (ninS (fun q => ?_) nin0), h6, h7⟩
  subst q
  cases h5.symm.trans e1
  rw [h6] at e4; cases e4
theorem own_Sta_keep0 {Z : State} {h h' : Heap} {C n d : String} {v : Value} (F : Sta Z h C n d v) (K : Keep h h' []) : Sta Z h' C n d v := by
  obtain ⟨cf, i, k, f, st, cell, h1, h2, h3, h4, h5, h6, h7⟩ := F
  exact ⟨cf, i, k, f, st, cell, h1, h2, h3, h4, K.2.1 _ _ h5 nin0, h6, h7⟩
theorem own_ne_or {r x : Addr} {ws : List Addr} {H : Heap} (h : r ∈ ws ∨ H.size ≤ r) (hl : x < H.size) (hn : x ∉ ws) : x ≠ r := fun e => h.elim (fun q => hn (e ▸ q)) (fun q => Nat.lt_irrefl _ (Nat.lt_of_lt_of_le (e ▸ hl) q))
theorem own_or_up {r : Addr} {ws ws' : List Addr} {h0 H : Heap} (h : r ∈ ws ∨ H.size ≤ r) (hk : h0.size ≤ H.size) (all : ∀ x ∈ ws, x ∈ ws' ∨ h0.size ≤ x) : r ∈ ws' ∨ h0.size ≤ r := h.elim (all r) (fun q => Or.inr (Nat.le_trans hk q))
theorem own_selp {Z s : State} {a0 args : Array Value} {y : MethodName} {n : Nat} (hZ : Z.Warmed39 s.vm) (w1 : (Cond.instantiable y.cls n).before a0 Z = true) (w2 : (Cond.instanceMethod y).before a0 Z = true) (w3 : (Cond.privateMethod y).before a0 Z = true) (hy : y.cls ≠ "java/lang/invoke/MethodHandle" ∧ y.cls ≠ "java/lang/invoke/VarHandle") : (Cond.selects y.cls y y).before args s = true := by
  have i1 : (Cond.instantiable y.cls n).before args s = true := mvT hZ w1
  obtain ⟨c, k, h1, h2, -, h4, -, -⟩ := Cond.instantiable_spec i1
  have h5 : k.isInterface = false := by
    cases hk : k.isInterface
    · rfl
    · rw [hk] at h4; simp at h4
  exact selects_self_of_private h1 h2 h5 (Cond.privateMethod_at (mvP hZ w3 (args := args))) (mvT hZ w2) hy

/-! own layer, arrays: an array's places as a function -/
def own_Arf (Z : State) (h : Heap) (a : Addr) (ty : FieldType) (n : Nat) (f : Nat → Value) : Prop := ∃ c : Cell, Arr Z h a c ty ∧ c.slots.size = n ∧ n < 2 ^ 31 ∧ ∀ i, i < n → c.slots[i]? = some (f i)
def own_upd {α : Type} (g : Nat → α) (j : Nat) (v : α) (i : Nat) : α := if i = j then v else g i
section ownA
variable {Z : State} {h h' : Heap} {a b : Addr} {ty : FieldType} {n sl : Nat} {f : Nat → Value} {v : Value} {ws : List Addr}
theorem own_Arf.lt (F : own_Arf Z h a ty n f) : a < h.size := by obtain ⟨c, A, -⟩ := F; exact A.lt
theorem own_Arf.ext (F : own_Arf Z h a ty n f) (E : Ext h h') : own_Arf Z h' a ty n f := by obtain ⟨c, A, q⟩ := F; exact ⟨c, A.ext E, q⟩
theorem own_Arf.other (F : own_Arf Z h b ty n f) (W : Wr h h' a sl v) (q : b ≠ a) : own_Arf Z h' b ty n f := by obtain ⟨c, A, r⟩ := F; exact ⟨c, A.other W q, r⟩
theorem own_Arf.keep (F : own_Arf Z h a ty n f) (K : Keep h h' ws) (q : a ∉ ws) : own_Arf Z h' a ty n f := by obtain ⟨c, A, r⟩ := F; exact ⟨c, ⟨K.2.1 _ _ A.1 q, A.2⟩, r⟩
theorem own_Arf.congr {f' : Nat → Value} (F : own_Arf Z h a ty n f) (q : ∀ i, i < n → f i = f' i) : own_Arf Z h a ty n f' := by
  obtain ⟨c, A, hs, hn, hf⟩ := F
  exact ⟨c, A, hs, hn, fun i hi => by rw [hf i hi, q i hi]⟩
theorem own_Arf.new {k : ClassId} {z : Int32} (A : Arr Z h a (newA k ty z) ty) (q : z.toNatClampNeg = n) (hn : n < 2 ^ 31) : own_Arf Z h a ty n (fun _ => defaultValue ty) := by
  refine ⟨_, A, by rw [sz_new]; exact q, hn, fun i hi => ?_⟩
  simp [newA, q, hi]
theorem own_Arf.set (F : own_Arf Z h a ty n f) (W : Wr h h' a sl v) (hj : sl < n) : own_Arf Z h' a ty n (own_upd f sl v) := by
  obtain ⟨c, A, hs, hn, hf⟩ := F
  refine ⟨c.setSlot sl v, A.same W, by rw [sz_set]; exact hs, hn, fun i hi => ?_⟩
  simp only [own_upd]
  split
  · rename_i q; subst q; simp [Cell.setSlot, hs, hi]
  · rename_i q; simp [Cell.setSlot, Array.getElem?_setIfInBounds, Ne.symm q, hf i hi]
theorem own_Arf.setI {g : Nat → Int32} {x : Int32} (F : own_Arf Z h a ty n (fun i => .int (g i))) (W : Wr h h' a sl (.int x)) (hj : sl < n) : own_Arf Z h' a ty n (fun i => .int (own_upd g sl x i)) :=
  (F.set W hj).congr fun i _ => by simp only [own_upd]; split <;> rfl
theorem own_Arf.setJ {g : Nat → Int64} {x : Int64} (F : own_Arf Z h a ty n (fun i => .long (g i))) (W : Wr h h' a sl (.long x)) (hj : sl < n) : own_Arf Z h' a ty n (fun i => .long (own_upd g sl x i)) :=
  (F.set W hj).congr fun i _ => by simp only [own_upd]; split <;> rfl
variable {p : Program} {l : Launch} {e : Env} {R : Room} {s : State} {m : MethodId} {args : Array Value} {below : List Frame} {meth : Method} {c : Code} {T : State} {locs : List Loc} {cells slots : Nat}
theorem own_ldI (X : Stand p l e R s m args below meth c T locs cells slots) (hx : p.tables.exec = Jvm.exec) (hZ : Z.Warmed39 s.vm) (eT : T.heap = h) (F : own_Arf Z h a .int n f) {j : Int32} (h0 : ¬ j < 0) (hj : j.toNatClampNeg < n) {pc : Nat} {L : Array Slot} {rest : List Value} (hd : decode c.code pc = .ok (.iaload, 1)) :
    ∀ target, Steps p.tables e below (T.setTop (mkF m (pc + 1) L (f j.toNatClampNeg :: rest))) target → Steps p.tables e below (T.setTop (mkF m pc L (.int j :: .ref a :: rest))) target := by
  obtain ⟨cl, A, hs, hn, hf⟩ := F
  intro target k
  exact X.iaload hx (j := j) (v := f j.toNatClampNeg) (by rw [eT]; exact A.1) (State.isArrayOf_alike hZ.alike A.2.1) A.2.2 (fun q => q.elim h0 (fun r => by omega)) (hf _ hj) (g := mkF m pc L (.int j :: .ref a :: rest)) rfl rfl hd _ k
theorem own_ldJ (X : Stand p l e R s m args below meth c T locs cells slots) (hx : p.tables.exec = Jvm.exec) (hZ : Z.Warmed39 s.vm) (eT : T.heap = h) (F : own_Arf Z h a .long n f) {j : Int32} (h0 : ¬ j < 0) (hj : j.toNatClampNeg < n) {pc : Nat} {L : Array Slot} {rest : List Value} (hd : decode c.code pc = .ok (.laload, 1)) :
    ∀ target, Steps p.tables e below (T.setTop (mkF m (pc + 1) L (f j.toNatClampNeg :: rest))) target → Steps p.tables e below (T.setTop (mkF m pc L (.int j :: .ref a :: rest))) target := by
  obtain ⟨cl, A, hs, hn, hf⟩ := F
  intro target k
  exact X.laload hx (j := j) (v := f j.toNatClampNeg) (by rw [eT]; exact A.1) (State.isArrayOf_alike hZ.alike A.2.1) A.2.2 (fun q => q.elim h0 (fun r => by omega)) (hf _ hj) (g := mkF m pc L (.int j :: .ref a :: rest)) rfl rfl hd _ k
theorem own_ldB (X : Stand p l e R s m args below meth c T locs cells slots) (hx : p.tables.exec = Jvm.exec) (hZ : Z.Warmed39 s.vm) (eT : T.heap = h) (F : own_Arf Z h a .byte n f) {j : Int32} (h0 : ¬ j < 0) (hj : j.toNatClampNeg < n) {pc : Nat} {L : Array Slot} {rest : List Value} (hd : decode c.code pc = .ok (.baload, 1)) :
    ∀ target, Steps p.tables e below (T.setTop (mkF m (pc + 1) L (f j.toNatClampNeg :: rest))) target → Steps p.tables e below (T.setTop (mkF m pc L (.int j :: .ref a :: rest))) target := by
  obtain ⟨cl, A, hs, hn, hf⟩ := F
  intro target k
  exact X.baloadBytes hx (j := j) (v := f j.toNatClampNeg) (by rw [eT]; exact A.1) (State.isArrayOf_alike hZ.alike A.2.1) A.2.2 (fun q => q.elim h0 (fun r => by omega)) (hf _ hj) (g := mkF m pc L (.int j :: .ref a :: rest)) rfl rfl hd _ k
theorem own_len (X : Stand p l e R s m args below meth c T locs cells slots) (hx : p.tables.exec = Jvm.exec) (hZ : Z.Warmed39 s.vm) (eT : T.heap = h) (F : own_Arf Z h a ty n f) {z : Int32} (hz : n.toInt32 = z) {pc : Nat} {L : Array Slot} {rest : List Value} (hd : decode c.code pc = .ok (.arraylength, 1)) :
    ∀ target, Steps p.tables e below (T.setTop (mkF m (pc + 1) L (.int z :: rest))) target → Steps p.tables e below (T.setTop (mkF m pc L (.ref a :: rest))) target := by
  obtain ⟨cl, A, hs, hn, hf⟩ := F
  intro target k
  refine X.arraylength hx (cell := cl) (by rw [eT]; exact A.1) (State.isArrayOf_alike hZ.alike A.2.1) (g := mkF m pc L (.ref a :: rest)) rfl (rest := rest) rfl hd _ ?_
  rw [hs, hz]; exact k
theorem own_stI (X : Stand p l e R s m args below meth c T locs cells slots) (hx : p.tables.exec = Jvm.exec) (hZ : Z.Warmed39 s.vm) (eT : T.heap = h) {g : Nat → Int32} (F : own_Arf Z h a .int n (fun i => .int (g i))) {j x : Int32} (h0 : ¬ j < 0) (hj : j.toNatClampNeg < n) {pc : Nat} {L : Array Slot} {rest : List Value} (hd : decode c.code pc = .ok (.iastore, 1)) :
    ∃ T' h', Stand p l e R s m args below meth c T' (locs ++ [⟨a, j.toNatClampNeg⟩]) cells slots ∧ T'.heap = h' ∧ Wr h h' a j.toNatClampNeg (.int x) ∧ own_Arf Z h' a .int n (fun i => .int (own_upd g j.toNatClampNeg x i)) ∧
      ∀ target, Steps p.tables e below (T'.setTop (mkF m (pc + 1) L rest)) target → Steps p.tables e below (T.setTop (mkF m pc L (.int x :: .int j :: .ref a :: rest))) target := by
  have F' := F
  obtain ⟨cl, A, hs, hn, hf⟩ := F
  obtain ⟨T', h', X', e', W, st⟩ := stI X hx hZ eT A (j := j) (x := x) (fun q => q.elim h0 (fun r => by omega)) (g := mkF m pc L (.int x :: .int j :: .ref a :: rest)) rfl rfl hd
  exact ⟨T', h', X', e', W, F'.setI W hj, st⟩
theorem own_stJ (X : Stand p l e R s m args below meth c T locs cells slots) (hx : p.tables.exec = Jvm.exec) (hZ : Z.Warmed39 s.vm) (eT : T.heap = h) {g : Nat → Int64} (F : own_Arf Z h a .long n (fun i => .long (g i))) {j : Int32} {x : Int64} (h0 : ¬ j < 0) (hj : j.toNatClampNeg < n) {pc : Nat} {L : Array Slot} {rest : List Value} (hd : decode c.code pc = .ok (.lastore, 1)) :
    ∃ T' h', Stand p l e R s m args below meth c T' (locs ++ [⟨a, j.toNatClampNeg⟩]) cells slots ∧ T'.heap = h' ∧ Wr h h' a j.toNatClampNeg (.long x) ∧ own_Arf Z h' a .long n (fun i => .long (own_upd g j.toNatClampNeg x i)) ∧
      ∀ target, Steps p.tables e below (T'.setTop (mkF m (pc + 1) L rest)) target → Steps p.tables e below (T.setTop (mkF m pc L (.long x :: .int j :: .ref a :: rest))) target := by
  have F' := F
  obtain ⟨cl, A, hs, hn, hf⟩ := F
  obtain ⟨T', h', X', e', W, st⟩ := stJ X hx hZ eT A (j := j) (x := x) (fun q => q.elim h0 (fun r => by omega)) (g := mkF m pc L (.long x :: .int j :: .ref a :: rest)) rfl rfl hd
  exact ⟨T', h', X', e', W, F'.setJ W hj, st⟩
theorem own_stB (X : Stand p l e R s m args below meth c T locs cells slots) (hx : p.tables.exec = Jvm.exec) (hZ : Z.Warmed39 s.vm) (eT : T.heap = h) {g : Nat → Int32} (F : own_Arf Z h a .byte n (fun i => .int (g i))) {j x : Int32} (h0 : ¬ j < 0) (hj : j.toNatClampNeg < n) {pc : Nat} {L : Array Slot} {rest : List Value} (hd : decode c.code pc = .ok (.bastore, 1)) :
    ∃ T' h', Stand p l e R s m args below meth c T' (locs ++ [⟨a, j.toNatClampNeg⟩]) cells slots ∧ T'.heap = h' ∧ Wr h h' a j.toNatClampNeg (.int x.toInt8.toInt32) ∧ own_Arf Z h' a .byte n (fun i => .int (own_upd g j.toNatClampNeg x.toInt8.toInt32 i)) ∧
      ∀ target, Steps p.tables e below (T'.setTop (mkF m (pc + 1) L rest)) target → Steps p.tables e below (T.setTop (mkF m pc L (.int x :: .int j :: .ref a :: rest))) target := by
  have F' := F
  obtain ⟨cl, A, hs, hn, hf⟩ := F
  obtain ⟨T', h', X', e', W, st⟩ := stB X hx hZ eT A (j := j) (x := x) (fun q => q.elim h0 (fun r => by omega)) (g := mkF m pc L (.int x :: .int j :: .ref a :: rest)) rfl rfl hd
  exact ⟨T', h', X', e', W, F'.setI W hj, st⟩
end ownA
section ownB
variable {args : Array Value} {s : State} {t u : Term} {w : Addr} {ty : FieldType} {z : Int32} {n : Nat}
theorem own_Arf.start (ev : t.eval args s none [] s = some (.ref w)) (h1 : (Jvm.Cond.arrayOf t ty).value args s none s [] = some true) (h2 : (Jvm.Cond.eq (.length t) (.int z)).value args s none s [] = some true) (hn : z.toInt = n) :
    ∃ f, own_Arf s s.heap w ty n f ∧ ∀ j : Int32, ¬ j < 0 → j.toNatClampNeg < n → (Term.elem t (.int j)).eval args s none [] s = some (f j.toNatClampNeg) := by
  obtain ⟨c, A⟩ := Arr.start ev h1
  have hat : s.arrayAt? w = some c := Arr.fin (State.Warmed39.refl s).alike A
  have hlen := Cond.eq_int (Cond.before_iff.mpr h2) rfl
  have h31 := SBG.length_lt ev hat hlen
  have hsz : c.slots.size = n := by
    have e1 := len_f ev hat h31
    have e2 : c.slots.size.toInt32 = z := by simpa using Option.some.inj (e1.symm.trans hlen)
    have e3 := len_toInt h31
    rw [e2] at e3; omega
  refine ⟨fun i => (c.slots[i]?).getD .null, ⟨c, A, hsz, by omega, fun i hi => ?_⟩, fun j h0 hj => ?_⟩
  · have : i < c.slots.size := by omega
    simp [this]
  · rw [elem_f ev (Term.int_eval j) hat h0]
    have : j.toNatClampNeg < c.slots.size := by omega
    simp [this]
theorem own_eqref {a b : Term} {x : Value} (ha : a.eval args s none [] s = some x) (hb : b.eval args s none [] s = some (.ref w)) (h : (Jvm.Cond.eq a b).value args s none s [] = some true) : x = .ref w := by
  obtain ⟨x', y', e1, e2, k1, k2⟩ := cmp_v (Or.inl h)
  cases ha.symm.trans e1; cases hb.symm.trans e2
  exact gotT (eq_R ha hb k2.2 rfl) h
theorem own_fldstart {C f d : String} {k : Int32} (ev : t.eval args s none [] s = some (.ref w)) (h : (Jvm.Cond.eq (.field t C f d) (.int k)).value args s none s [] = some true) : Fld s s.heap w C f d (.int k) := by
  have e := Cond.eq_int (Cond.before_iff.mpr h) rfl
  rw [fld_at ev] at e
  exact Fld.start e
end ownB
section ownC
variable {Z : State} {h h' : Heap} {a b : Addr} {ty : FieldType} {n sl : Nat} {f : Nat → Value} {v : Value} {ws : List Addr}
variable {p : Program} {l : Launch} {e : Env} {R : Room} {s : State} {m : MethodId} {args : Array Value} {below : List Frame} {meth : Method} {c : Code} {T : State} {locs : List Loc} {cells slots : Nat}
theorem own_ldA (X : Stand p l e R s m args below meth c T locs cells slots) (hx : p.tables.exec = Jvm.exec) (hZ : Z.Warmed39 s.vm) (eT : T.heap = h) (F : own_Arf Z h a ty n f) (hty : ty.isReference = true) {j : Int32} (h0 : ¬ j < 0) (hj : j.toNatClampNeg < n) {pc : Nat} {L : Array Slot} {rest : List Value} (hd : decode c.code pc = .ok (.aaload, 1)) :
    ∀ target, Steps p.tables e below (T.setTop (mkF m (pc + 1) L (f j.toNatClampNeg :: rest))) target → Steps p.tables e below (T.setTop (mkF m pc L (.int j :: .ref a :: rest))) target := by
  obtain ⟨cl, A, hs, hn, hf⟩ := F
  intro target k
  exact X.aaload hx (j := j) (v := f j.toNatClampNeg) (by rw [eT]; exact A.1) (State.isArrayOf_alike hZ.alike A.2.1) hty A.2.2 (fun q => q.elim h0 (fun r => by omega)) (hf _ hj) (g := mkF m pc L (.int j :: .ref a :: rest)) rfl rfl hd _ k
theorem own_clone (X : Stand p l e R s m args below meth c T locs cells slots) (hx : p.tables.exec = Jvm.exec) (hZ : Z.Warmed39 s.vm) {a0 : Array Value} {own ad : String} {index : Nat} (hown : s.vm.findClass own = some m.cls)
    (w1 : (Cond.methodLink own index ⟨ad, "clone", "()Ljava/lang/Object;"⟩).before a0 Z = true) (w2 : (Cond.sameMethod ad "java/lang/Object" "clone" "()Ljava/lang/Object;").before a0 Z = true) (w3 : (Cond.native ⟨"java/lang/Object", "clone", "()Ljava/lang/Object;"⟩).before a0 Z = true)
    (w4 : (Cond.instanceMethod ⟨"java/lang/Object", "clone", "()Ljava/lang/Object;"⟩).before a0 Z = true) (w5 : (Cond.selects ad ⟨ad, "clone", "()Ljava/lang/Object;"⟩ ⟨"java/lang/Object", "clone", "()Ljava/lang/Object;"⟩).before a0 Z = true) (w6 : (Cond.castable ad "java/lang/Cloneable").before a0 Z = true)
    (eT : T.heap = h) (F : own_Arf Z h a ty n f) (E : Exa Z h a ad) (hfit : ∀ i, i < n → fits ty (f i) = true) {g : JFrame} (hg : g.method = m) (hsize : g.locals.size = c.maxLocals) {rest : List Value} (hs : g.stack = .ref a :: rest) (hd : decode c.code g.pc = .ok (.invokevirtual index, 3))
    (hf : 1 ≤ R.frames) {W : Nat} (hW : 2 * g.monitorRoom + (rest.map fun v => v.category).sum ≤ W) (hl : W + 14 ≤ R.locals) (hc : cells + 1 ≤ R.cells) (hsl : slots + n ≤ R.slots) :
    ∃ T' h', Stand p l e R s m args below meth c T' locs (cells + 1) (slots + n) ∧ T'.heap = h' ∧ Ext h h' ∧ own_Arf Z h' h.size ty n f ∧ Exa Z h' h.size ad ∧
      ∀ target, Steps p.tables e below (T'.setTop { g with pc := g.pc + 3, stack := .ref h.size :: rest }) target → Steps p.tables e below (T.setTop g) target := by
  obtain ⟨cl, A, q1, q2, q3⟩ := F
  have FC : FitC Z cl := fitC_of A (fun i hi v hv => by
    have r := q3 i (by omega)
    rw [r] at hv; cases hv; exact hfit i (by omega))
  obtain ⟨T', h', X', e', E', A', EA, st⟩ := cloneA X hx hZ hown w1 w2 w3 w4 w5 w6 eT A E FC hg hsize hs hd hf hW hl (cap := n) (by omega) hc hsl
  exact ⟨T', h', X', e', E', ⟨_, A', q1, q2, q3⟩, EA, st⟩
end ownC

theorem own_pd0 : parseMethodDescriptor "()V" = some ⟨[], none⟩ := by decide +kernel
theorem own_pd1 : parseMethodDescriptor "()Z" = some ⟨[], some .boolean⟩ := by decide +kernel
theorem own_pd2 : parseMethodDescriptor "([CIILjava/lang/Void;)V" = some ⟨[(.array .char), .int, .int, (.object "java/lang/Void")], none⟩ := by decide +kernel
theorem own_pd3 : parseMethodDescriptor "([C)V" = some ⟨[(.array .char)], none⟩ := by decide +kernel
theorem own_pd4 : parseMethodDescriptor "(ICCC)Ljava/lang/String;" = some ⟨[.int, .char, .char, .char], some (.object "java/lang/String")⟩ := by decide +kernel
theorem own_pd5 : parseMethodDescriptor "(Ljava/lang/String;ILjava/lang/String;Ljava/lang/String;Ljava/util/List;)V" = some ⟨[(.object "java/lang/String"), .int, (.object "java/lang/String"), (.object "java/lang/String"), (.object "java/util/List")], none⟩ := by decide +kernel
/-! own layer, cold: bodies that may load String constants that nothing has loaded yet (the ends may have interned) -/
def own_EL : List (String × Nat) := [("java/lang/String", 7)]
def own_DW (p : Program) (e : Env) (below : List Frame) (s : State) (Q : Option Value → Heap → Vm → List Loc → Prop) (K N : Nat) (A : State) : Prop :=
  ∃ s₂ o, Steps p.tables e below A s₂ ∧ s₂.status = .running ∧ Ended s₂ below o ∧ ∃ v L, o = .returned v ∧ Q v s₂.heap s₂.vm L ∧ ReturnedEndW s o s₂ L K N
theorem own_stW {p : Program} {e : Env} {below : List Frame} {s : State} {Q : Option Value → Heap → Vm → List Loc → Prop} {K N : Nat} {A B : State} (k : ∀ t, Steps p.tables e below B t → Steps p.tables e below A t) (d : own_DW p e below s Q K N B) : own_DW p e below s Q K N A := by
  obtain ⟨s₂, o, h, r⟩ := d
  exact ⟨s₂, o, k _ h, r⟩
theorem own_trW {p : Program} {e : Env} {below : List Frame} {s : State} {Q : Option Value → Heap → Vm → List Loc → Prop} {K N : Nat} {A B : State} (k : Steps p.tables e below A B) (d : own_DW p e below s Q K N B) : own_DW p e below s Q K N A :=
  own_stW (fun _ h => k.trans h) d
theorem own_since0 (s : State) : s.Since s.vm 0 := (State.WarmedH.refl s).since 0
theorem own_hk {T : State} {h : Heap} {k : Nat} (e : T.heap = h) (q : k ≤ h.size) : k ≤ T.heap.size := by rw [e]; exact q
section ownW
variable {p : Program} {l : Launch} {e : Env} {R : Room} {s : State} {m : MethodId} {args : Array Value} {below : List Frame} {meth : Method} {c : Code} {T : State} {locs : List Loc} {cells slots : Nat} {Q : Option Value → Heap → Vm → List Loc → Prop} {K N : Nat} {vm0 : Vm} {k0 : Nat}
theorem own_retW (X : Stand p l e R (s.setVm vm0) m args below meth c T locs cells slots) (hS : s.Since vm0 k0) (hk : k0 ≤ T.heap.size) (hlk : meth.locks = false) {v : Option Value} (hv : meth.sig.returnType = none → v = none) {A : State} (hK : cells ≤ K) (hN : slots ≤ N) (hq : Q v T.heap T.vm locs)
    (hst : ∀ fs, (∀ (f : JFrame) (acts : List Action), f.method = m → f.locked = none → f.entered = [] → (doReturn e (T.setTop f) acts v).1 = T.setFrames fs) → Steps p.tables e below A (T.setFrames fs)) : own_DW p e below s Q K N A := by
  obtain ⟨fs, hr, hrun, hended, h1, h2, h3, h4⟩ := X.leaveW hS hk (v := v) hv hlk
  exact ⟨_, _, hst fs hr, hrun, hended, _, _, rfl, hq, h1, h2, h3, h4.mono hK hN⟩
theorem own_retZW (X : Stand p l e R (s.setVm vm0) m args below meth c T locs cells slots) (hS : s.Since vm0 k0) (hk : k0 ≤ T.heap.size) (hx : p.tables.exec = Jvm.exec) (hret : meth.sig.returnType = some .boolean) (hlk : meth.locks = false) {pc : Nat} {Ls : Array Slot} {z : Int32} {rest : List Value} (hz : z &&& 1 = z) (hd : decode c.code pc = .ok (.ireturn, 1)) (hK : cells ≤ K) (hN : slots ≤ N)
    (hq : Q (some (.int z)) T.heap T.vm locs) : own_DW p e below s Q K N (T.setTop (mkF m pc Ls (.int z :: rest))) :=
  own_retW X hS hk hlk (fun h => by rw [hret] at h; cases h) hK hN hq (fun fs hr => retOut X hx (w := .int z) hret (show Value.int (z &&& 1) = .int z from congrArg Value.int hz) (Or.inl ⟨rfl, Or.inr (Or.inl rfl), _, rfl⟩) hd hr)
theorem own_retVW (X : Stand p l e R (s.setVm vm0) m args below meth c T locs cells slots) (hS : s.Since vm0 k0) (hk : k0 ≤ T.heap.size) (hx : p.tables.exec = Jvm.exec) (hret : meth.sig.returnType = none) (hlk : meth.locks = false) {pc : Nat} {Ls : Array Slot} (hd : decode c.code pc = .ok (.return_, 1)) (hK : cells ≤ K) (hN : slots ≤ N)
    (hq : Q none T.heap T.vm locs) : own_DW p e below s Q K N (T.setTop (mkF m pc Ls [])) :=
  own_retW X hS hk hlk (fun _ => rfl) hK hN hq (fun fs hr => X.returnOut hx hret hd hr)
theorem own_retAW (X : Stand p l e R (s.setVm vm0) m args below meth c T locs cells slots) (hS : s.Since vm0 k0) (hk : k0 ≤ T.heap.size) (hx : p.tables.exec = Jvm.exec) {t : FieldType} (ht : t.isReference = true) (hret : meth.sig.returnType = some t) (hlk : meth.locks = false) {pc : Nat} {Ls : Array Slot} {w : Value} {rest : List Value} (hw : w.isRef = true) (hn : narrow t w = w) (hd : decode c.code pc = .ok (.areturn, 1)) (hK : cells ≤ K) (hN : slots ≤ N)
    (hq : Q (some w) T.heap T.vm locs) : own_DW p e below s Q K N (T.setTop (mkF m pc Ls (w :: rest))) :=
  own_retW X hS hk hlk (fun h => by rw [hret] at h; cases h) hK hN hq (fun fs hr => retOut X hx hret hn (Or.inr (Or.inr (Or.inr (Or.inr ⟨rfl, ht, hw⟩)))) hd hr)
end ownW
theorem own_metW {l : Launch} {Z : State} {a0 : Array Value} (hw : ∀ d ∈ tables_1, d.before a0 Z = true) {y : MethodName} {bytes : ByteArray} {ml : Nat} {ret : Option FieldType} {ws : List Jvm.Cond} {rm : Room} {as' : Array Value} {h0 : Heap} {Q : Option Value → Heap → List Loc → Prop} (hpl : plainFor y = true)
    (body : ∀ p e s m below meth c s₁, own_Cx p s m meth c Z a0 bytes ml y.cls y.name ret → Stand p l e rm s m as' below meth c s₁ [] 0 0 → s₁.heap = h0 → CHv Z own_EL s.vm h0 → own_DW p e below s (fun v h vm L => Q v h L ∧ CHr Z own_EL s.vm h0 vm h) rm.cells rm.slots (s₁.setTop (entryFrame m as' ml))) :
    MetFree l y (head1 (Jvm.Cond.code y bytes ml ret :: ws) rm) (fun a U => a = as' ∧ Z.Warmed39 U.vm ∧ U.heap = h0 ∧ CHv Z own_EL U.vm h0) (fun _ _ _ _ _ => True) (fun _ U o U' => ∃ v L, o = .returned v ∧ Q v U'.heap L ∧ CHr Z own_EL U.vm U.heap U'.vm U'.heap ∧ ReturnedEndW U o U' L rm.cells rm.slots) := by
  refine MetFree.of_bodySF hpl hisR ?_
  intro p e s m args below meth c s₁ Bd hml0 hP hK
  obtain ⟨rfl, hZ, hh, hC⟩ := hP
  obtain ⟨s₂, o, d1, d2, d3, v, L, d4, ⟨d5, d6⟩, d7⟩ := body p e s m below meth c s₁ ⟨Bd.exec, hZ, hw, Bd.bytes, hml0, findClass_of_methodNamed Bd.named, Bd.returns, BodyLoose.notSynchronized Bd, (name_of_methodNamed Bd.named Bd.method).1⟩ (Stand.of_body Bd) (by rw [← hh, Bd.state]; rfl) hC
  exact ⟨s₂, o, d1, d2, d3, v, L, d4, d5, by rw [hh]; exact d6, d7⟩
theorem own_metL {l : Launch} {Z : State} {a0 : Array Value} (hw : ∀ d ∈ tables_1, d.before a0 Z = true) {y : MethodName} {bytes : ByteArray} {ml : Nat} {ret : Option FieldType} {ws : List Jvm.Cond} {rm : Room} {as' : Array Value} {h0 : Heap} {Q : Option Value → Heap → List Loc → Prop} (hpl : plainFor y = true)
    (body : ∀ p e s m below meth c s₁, own_Cx p s m meth c Z a0 bytes ml y.cls y.name ret → Stand p l e rm s m as' below meth c s₁ [] 0 0 → s₁.heap = h0 → CHv Z own_EL s.vm h0 → own_DW p e below s (fun v h _ L => Q v h L) rm.cells rm.slots (s₁.setTop (entryFrame m as' ml))) :
    MetFree l y (head1 (Jvm.Cond.code y bytes ml ret :: ws) rm) (fun a U => a = as' ∧ Z.Warmed39 U.vm ∧ U.heap = h0 ∧ CHv Z own_EL U.vm h0) (fun _ _ _ _ _ => True) (fun _ U o U' => ∃ v L, o = .returned v ∧ Q v U'.heap L ∧ ReturnedEndW U o U' L rm.cells rm.slots) := by
  refine MetFree.of_bodySF hpl hisR ?_
  intro p e s m args below meth c s₁ Bd hml0 hP hK
  obtain ⟨rfl, hZ, hh, hC⟩ := hP
  exact body p e s m below meth c s₁ ⟨Bd.exec, hZ, hw, Bd.bytes, hml0, findClass_of_methodNamed Bd.named, Bd.returns, BodyLoose.notSynchronized Bd, (name_of_methodNamed Bd.named Bd.method).1⟩ (Stand.of_body Bd) (by rw [← hh, Bd.state]; rfl) hC
section ownWords
variable {Z : State} {a0 : Array Value} {h : Heap} {vm : Vm} {EL : List (String × Nat)}
theorem own_wS (hw : ∀ d ∈ tables_1, d.before a0 Z = true) : ∀ d ∈ Bundle.stringAtoms, d.before a0 Z = true := by
  intro d hd
  simp only [Bundle.stringAtoms, List.mem_cons, List.not_mem_nil, or_false] at hd
  rcases hd with rfl | rfl | rfl | rfl | rfl | rfl | rfl
  · exact hw _ (List.mem_of_getElem? (i := 6) rfl)
  · exact hw _ (List.mem_of_getElem? (i := 5) rfl)
  · exact hw _ (List.mem_of_getElem? (i := 23) rfl)
  · exact hw _ (List.mem_of_getElem? (i := 33) rfl)
  · exact hw _ (List.mem_of_getElem? (i := 31) rfl)
  · exact hw _ (List.mem_of_getElem? (i := 62) rfl)
  · exact hw _ (List.mem_of_getElem? (i := 63) rfl)
theorem own_hEL (hw : ∀ d ∈ tables_1, d.before a0 Z = true) : EW Z a0 own_EL :=
  EW.cons (text := "") (hw _ (List.mem_of_getElem? (i := 93) rfl)) (by decide) EW.nil
theorem own_hws (hw : ∀ d ∈ tables_1, d.before a0 Z = true) : ∀ d ∈ StrChars.Road.words, d.before a0 Z = true := fun d hd => hw d ((by decide +kernel : ∀ d ∈ StrChars.Road.words, d ∈ tables_1) d hd)
/-- a String whose value is null is no booked one -/
theorem own_safe {x : Addr} (hal : Z.vm.Alike vm) (E : Exa Z h x "java/lang/String") (F : Fld Z h x "java/lang/String" "value" "[B" .null) : Safe Z EL vm h x := fun B => by
  obtain ⟨p, -, u, a, -, q, -, S, rfl | rfl⟩ := B
  · obtain ⟨cS, ⟨⟨s1, -, -, ⟨cv, kv, iv, s4, -⟩, -, -, -, s8, -⟩, -⟩, -⟩ := S
    obtain ⟨kv', z4⟩ := ff_back (U := Wst Z vm h) hal s4
    obtain ⟨cell, cf, k, i, f, e1, e2, -, -, -, -, e7⟩ := F
    have e8 := (show h[q.sa]? = some q.sC from s1).symm.trans e1
    have e9 : cell = q.sC := (Option.some.inj e8).symm
    have e10 := z4.symm.trans e2
    simp only [Option.some.injEq, Prod.mk.injEq] at e10
    rw [e9, ← e10.2.2.2, s8] at e7
    cases e7
  · obtain ⟨cell, k, e1, e2, -, -, -⟩ := E
    have e8 := (show h[q.sd]? = some q.SA from S.hd).symm.trans e1
    have e9 : cell = q.SA := (Option.some.inj e8).symm
    obtain ⟨cS, -, -, f, -⟩ := S
    have f' : vm.findClass "[B" = some q.SA.cls := f
    rw [hal.findClass] at f'
    rw [e9] at e2
    obtain ⟨k1, q1, q2⟩ := Vm.findClass_spec f'
    obtain ⟨k2, q3, q4⟩ := Vm.findClass_spec e2
    cases q1.symm.trans q3
    exact absurd (q2.symm.trans q4) (by decide)
theorem own_arf0 {t : Addr} {k : ClassId} (A : Arv Z h t k .byte 0 [] (.int 0)) : own_Arf Z h t .byte 0 (fun i => (.int ((fun _ => (0 : Int32)) i))) := by
  obtain ⟨c, A, -, hs, -, -, -⟩ := A
  exact ⟨c, A, by rw [hs]; decide, by decide, fun i hi => absurd hi (Nat.not_lt_zero _)⟩
theorem own_arfB {t : Addr} {k : ClassId} {N : Int32} {bs : List Int32} {n : Nat} (A : Arv Z h t k .byte N (bs.map Value.int) (.int 0)) (hN : N.toNatClampNeg = n) (hn : n < 2 ^ 31) : own_Arf Z h t .byte n (fun i => (.int ((fun j => bs.getD j 0) i))) := by
  obtain ⟨c, A, -, hs, -, H, -⟩ := A
  refine ⟨c, A, by rw [hs, hN], hn, fun i hi => ?_⟩
  rw [H i (by omega)]
  simp only [List.getD, List.getElem?_map]
  cases bs[i]? <;> rfl
def own_255 (x : Int32) : Prop := 0 ≤ x.toInt ∧ x.toInt ≤ 255
theorem own_c255 (x : Int32) : own_255 ((x &&& (255 : Int32)).toUInt32.toUInt16.toUInt32.toInt32) := by
  rw [i2c_mask]
  have e := c_mask x 255 8 (by decide) (by decide)
  exact ⟨by omega, by omega⟩
theorem own_nar {v : Int32} (h : own_255 v) : nar .char v = v := by
  have e := c_mask v 255 8 (by decide) (by decide)
  have e2 : v &&& 255 = v := Int32.toInt_inj.mp (by have h1 := h.1; have h2 := h.2; omega)
  have e3 := i2c_mask v
  rw [e2] at e3
  exact e3
theorem own_lat {v : Int32} (h : own_255 v) : ¬ v < 0 ∧ ¬ (255 : Int32) < v := by
  have h1 := h.1
  have h2 := h.2
  simp only [Int32.lt_iff_toInt_lt, Int32.reduceToInt]
  omega
theorem own_fitC {v : Int32} (h : own_255 v) : fits .char (.int v) = true := by
  rw [← own_nar h]; exact fits_nar_char v
theorem own_arvC {a : Addr} {n : Nat} {g : Nat → Int32} {cs : List Int32} (F : own_Arf Z h a .char n (fun i => (.int (g i)))) (hl : cs.length = n) (hg : ∀ i, i < n → g i = cs.getD i 0) (hc : ∀ x ∈ cs, own_255 x) : ∃ k, Arv Z h a k .char (Int32.ofNat n) (cs.map Value.int) (.int 0) := by
  obtain ⟨c, A, hs, hn, hf⟩ := F
  have e : (Int32.ofNat n).toInt = n := len_toInt hn
  have e2 : (Int32.ofNat n).toNatClampNeg = n := by simp only [Int32.toNatClampNeg]; omega
  have hx : ∀ i, i < n → ∃ x, (cs.map Value.int).getD i (.int 0) = .int x ∧ own_255 x ∧ g i = x := fun i hi => by
    have hi' : i < cs.length := by omega
    refine ⟨cs[i], by simp [List.getD, hi'], hc _ (List.getElem_mem hi'), ?_⟩
    rw [hg i hi]; simp [List.getD, hi']
  refine ⟨c.cls, c, A, rfl, by rw [hs, e2], by simp only [Int32.lt_iff_toInt_lt, Int32.reduceToInt]; omega, fun i hi => ?_, fun i hi => ?_⟩
  · obtain ⟨x, h1, h2, h3⟩ := hx i (by omega)
    rw [hf i (by omega), h1, ← h3]
  · obtain ⟨x, h1, h2, h3⟩ := hx i (by omega)
    rw [h1]; exact own_fitC h2
end ownWords
section ownStC
variable {Z : State} {h : Heap} {a : Addr} {n : Nat} {p : Program} {l : Launch} {e : Env} {R : Room} {s : State} {m : MethodId} {args : Array Value} {below : List Frame} {meth : Method} {c : Code} {T : State} {locs : List Loc} {cells slots : Nat}
theorem own_stC (X : Stand p l e R s m args below meth c T locs cells slots) (hx : p.tables.exec = Jvm.exec) (hZ : Z.Warmed39 s.vm) (eT : T.heap = h) {g : Nat → Int32} (F : own_Arf Z h a .char n (fun i => .int (g i))) {j x : Int32} (h0 : ¬ j < 0) (hj : j.toNatClampNeg < n) {pc : Nat} {L : Array Slot} {rest : List Value} (hd : decode c.code pc = .ok (.castore, 1)) :
    ∃ T' h', Stand p l e R s m args below meth c T' (locs ++ [⟨a, j.toNatClampNeg⟩]) cells slots ∧ T'.heap = h' ∧ Wr h h' a j.toNatClampNeg (.int (nar .char x)) ∧ own_Arf Z h' a .char n (fun i => .int (own_upd g j.toNatClampNeg (nar .char x) i)) ∧
      ∀ target, Steps p.tables e below (T'.setTop (mkF m (pc + 1) L rest)) target → Steps p.tables e below (T.setTop (mkF m pc L (.int x :: .int j :: .ref a :: rest))) target := by
  have F' := F
  obtain ⟨cl, A, hs, hn, hf⟩ := F
  obtain ⟨T', h', X', e', W, st⟩ := stC X hx hZ eT A (j := j) (x := x) (fun q => q.elim h0 (fun r => by omega)) (g := mkF m pc L (.int x :: .int j :: .ref a :: rest)) rfl rfl hd
  exact ⟨T', h', X', e', W, F'.setI W hj, st⟩
end ownStC
def own_S0 (Z : State) (h : Heap) (a : Addr) : Prop := Exa Z h a "java/lang/String" ∧ ∃ (t : Addr) (f : Nat → Int32), Fld Z h a "java/lang/String" "value" "[B" (.ref t) ∧ own_Arf Z h t .byte 0 (fun i => (.int (f i)))
def own_S1 (Z : State) (h : Heap) (a : Addr) : Prop := Exa Z h a "java/lang/String" ∧ ∃ (t : Addr) (n : Nat) (f : Nat → Int32), n ≠ 0 ∧ Fld Z h a "java/lang/String" "value" "[B" (.ref t) ∧ own_Arf Z h t .byte n (fun i => (.int (f i)))
def own_Q0 (Z : State) (b0 : Addr) (h0 : Heap) (n0 : Nat) (v : Option Value) (h : Heap) (L : List Loc) : Prop := v = none ∧ Fr n0 L ∧ Keep h0 h [b0] ∧ own_S0 Z h b0
def own_QM (Z : State) (S : State → Heap → Addr → Prop) (h0 : Heap) (n0 : Nat) (v : Option Value) (h : Heap) (L : List Loc) : Prop := ∃ r : Addr, v = some (.ref r) ∧ Fr n0 L ∧ Keep h0 h [] ∧ S Z h r
theorem ac_d0 : decode jdk_22_method_1_code 0 = .ok (.aload_n 0, 1) := by decide +kernel
theorem ac_d1 : decode jdk_22_method_1_code 1 = .ok (.invokespecial 1, 3) := by decide +kernel
theorem ac_d4 : decode jdk_22_method_1_code 4 = .ok (.return_, 1) := by decide +kernel
set_option maxRecDepth 65536 in
set_option maxHeartbeats 40000000 in
theorem ac_c0 {l : Launch} {Z : State} {a0 : Array Value} {b0 : Addr} {h0 : Heap} {n0 : Nat} {p : Program} {e : Env} {s : State} {m : MethodId} {args : Array Value} {below : List Frame} {meth : Method} {c : Code} {T0 : State} {locs : List Loc} (C0 : own_Cx p s m meth c Z a0 jdk_22_method_1_code 1 "java/util/AbstractCollection" "<init>" none) (X0 : Stand p l e ({ frames := 1, cells := 0, slots := 0, locals := 12 } : Room) s m args below meth c T0 locs 0 0) (e0 : T0.heap = h0) (N0 : Fr n0 locs)  (Z0 : n0 ≤ h0.size) :
    own_Dn p e below s (own_Q none n0 h0) ({ frames := 1, cells := 0, slots := 0, locals := 12 } : Room).cells ({ frames := 1, cells := 0, slots := 0, locals := 12 } : Room).slots (T0.setTop (mkF m 0 #[.val (.ref b0)] [])) := by
  obtain ⟨hx, hZ, hw, hby, hml, hown, hret, hlk, hnm⟩ := id C0
  refine own_st (fun _ k => XS.aloadN X0.here hx rfl (hb hby ac_d0) rfl rfl k) ?_
  show own_Dn p e below s _ _ _ (T0.setTop (mkF m 1 #[.val (.ref b0)] [(.ref b0)]))
  obtain ⟨T2, X2, e2, st2⟩ := initO X0 hx hZ hown (hw _ (List.mem_of_getElem? (i := 52) rfl)) (hw _ (List.mem_of_getElem? (i := 16) rfl)) (hw _ (List.mem_of_getElem? (i := 17) rfl)) e0 (g := (mkF m 1 #[.val (.ref b0)] [(.ref b0)])) rfl (by rw [hml]; rfl) rfl (hb hby ac_d1) (by decide) (W := 0) (by show 2 * 0 + _ ≤ _; exact Nat.le_of_eq rfl) (by decide)
  refine own_st st2 ?_
  show own_Dn p e below s _ _ _ (T2.setTop (mkF m 4 #[.val (.ref b0)] []))
  exact own_retV X2 hx hret hlk (hb hby ac_d4) (by decide) (by decide) ⟨rfl, N0, e2⟩
theorem ac_ef (m : MethodId) (b0 : Addr) : entryFrame m #[(.ref b0)] 1 = mkF m 0 #[.val (.ref b0)] [] := by first | (simp [entryFrame, mkF, argsToLocals, Value.category]; done) | rfl
theorem ac_rm (l : Launch) (Z : State) (a0 : Array Value) (hw : ∀ d ∈ tables_1, d.before a0 Z = true) (ws : List Jvm.Cond) (b0 : Addr) (h0 : Heap) (n0 : Nat) (Z0 : n0 ≤ h0.size) :
    MetFree l (⟨"java/util/AbstractCollection", "<init>", "()V"⟩ : MethodName) (head1 (Jvm.Cond.code (⟨"java/util/AbstractCollection", "<init>", "()V"⟩ : MethodName) jdk_22_method_1_code 1 none :: ws) ({ frames := 1, cells := 0, slots := 0, locals := 12 } : Room)) (fun a U => a = #[(.ref b0)] ∧ Z.Warmed39 U.vm ∧ U.heap = h0) (fun _ _ _ _ _ => True) (fun _ U o U' => ∃ v L, o = .returned v ∧ (own_Q none n0 h0) v U'.heap L ∧ FrameEnd U o U' L ({ frames := 1, cells := 0, slots := 0, locals := 12 } : Room).cells ({ frames := 1, cells := 0, slots := 0, locals := 12 } : Room).slots) :=
  own_met hw (plainFor_of_name (by first | (simp [plainName, overriddenIn]; done) | decide +kernel)) (fun p e s m below meth c T0 C0 X0 e0 => own_st (fun _ k => castTop (ac_ef m b0) k) (ac_c0 C0 X0 e0 (Fr.nil n0) Z0 ))
theorem al_d0 : decode jdk_39_method_1_code 0 = .ok (.aload_n 0, 1) := by decide +kernel
theorem al_d1 : decode jdk_39_method_1_code 1 = .ok (.invokespecial 1, 3) := by decide +kernel
theorem al_d4 : decode jdk_39_method_1_code 4 = .ok (.aload_n 0, 1) := by decide +kernel
theorem al_d5 : decode jdk_39_method_1_code 5 = .ok (.iconst 0, 1) := by decide +kernel
theorem al_d6 : decode jdk_39_method_1_code 6 = .ok (.putfield 7, 3) := by decide +kernel
theorem al_d9 : decode jdk_39_method_1_code 9 = .ok (.return_, 1) := by decide +kernel
def al_Q (Z : State) (b0 : Addr) (h0 : Heap) (n0 : Nat) (v : Option Value) (h : Heap) (L : List Loc) : Prop := v = none ∧ Fr n0 L ∧ Keep h0 h [b0] ∧ Exa Z h b0 "java/util/ArrayList" ∧ Fld Z h b0 "java/util/AbstractList" "modCount" "I" (.int (0 : Int32)) ∧ Fld Z h b0 "java/util/ArrayList" "elementData" "[Ljava/lang/Object;" .null
set_option maxRecDepth 65536 in
set_option maxHeartbeats 40000000 in
theorem al_c0 {l : Launch} {Z : State} {a0 : Array Value} {b0 : Addr} {h0 : Heap} {n0 : Nat} {p : Program} {e : Env} {s : State} {m : MethodId} {args : Array Value} {below : List Frame} {meth : Method} {c : Code} {T0 : State} {locs : List Loc} (C0 : own_Cx p s m meth c Z a0 jdk_39_method_1_code 1 "java/util/AbstractList" "<init>" none) (X0 : Stand p l e ({ frames := 2, cells := 0, slots := 0, locals := 24 } : Room) s m args below meth c T0 locs 0 0) (e0 : T0.heap = h0) (N0 : Fr n0 locs)  (Z0 : n0 ≤ h0.size) (P0 : Exa Z h0 b0 "java/util/ArrayList") (P1 : Fld Z h0 b0 "java/util/AbstractList" "modCount" "I" (.int (0 : Int32))) (P2 : Fld Z h0 b0 "java/util/ArrayList" "elementData" "[Ljava/lang/Object;" .null) (ge_b0 : n0 ≤ b0) :
    own_Dn p e below s (al_Q Z b0 h0 n0) ({ frames := 2, cells := 0, slots := 0, locals := 24 } : Room).cells ({ frames := 2, cells := 0, slots := 0, locals := 24 } : Room).slots (T0.setTop (mkF m 0 #[.val (.ref b0)] [])) := by
  obtain ⟨hx, hZ, hw, hby, hml, hown, hret, hlk, hnm⟩ := id C0
  refine own_st (fun _ k => XS.aloadN X0.here hx rfl (hb hby al_d0) rfl rfl k) ?_
  show own_Dn p e below s _ _ _ (T0.setTop (mkF m 1 #[.val (.ref b0)] [(.ref b0)]))
  obtain ⟨_, _, ⟨T8, L8, k8, n8⟩, -, X8, ⟨Lc8, hQ8, l8, y8, z8⟩, st8⟩ := X0.specialBack hx (y := (⟨"java/util/AbstractCollection", "<init>", "()V"⟩ : MethodName)) rfl hown (mvT hZ (hw _ (List.mem_of_getElem? (i := 46) rfl))) (mvT hZ (hw _ (List.mem_of_getElem? (i := 47) rfl))) (mvT hZ (hw _ (List.mem_of_getElem? (i := 51) rfl))) (by decide) (backOf (W := 0) (ac_rm l Z a0 hw [] (b0) h0 n0 Z0 ) hZ (hw _ (List.mem_of_getElem? (i := 51) rfl)) (hw _ (List.mem_of_getElem? (i := 50) rfl)) (by decide) (by decide)) (g := (mkF m 1 #[.val (.ref b0)] [(.ref b0)])) rfl (by rw [hml]; rfl) (Steps.refl _) (a := b0) (argsL := []) (rest := []) (lenOf own_pd0 rfl) rfl (by show 2 * 0 + _ ≤ _; exact Nat.le_of_eq rfl) (hb hby al_d1) (fun _ _ => ⟨rfl, e0, (by decide : 0 + 0 ≤ _), (by decide : 0 + 0 ≤ _)⟩)
  dsimp only [Pt.U, Pt.locs, Pt.cells, Pt.slots] at X8 l8 y8 z8 st8 hQ8
  subst l8 y8 z8
  obtain ⟨rfl, N8q, e8⟩ := hQ8
  have N8 := Fr.app N0 N8q
  refine own_tr st8 ?_
  show own_Dn p e below s _ _ _ (T8.setTop (mkF m 4 #[.val (.ref b0)] []))
  refine own_st (fun _ k => XS.aloadN X8.here hx rfl (hb hby al_d4) rfl rfl (XS.iconst X8.here hx rfl (hb hby al_d5) k)) ?_
  show own_Dn p e below s _ _ _ (T8.setTop (mkF m 6 #[.val (.ref b0)] [(.int (0 : Int32)), (.ref b0)]))
  obtain ⟨T9, h9, X9, e9, W9, st9⟩ := putF X8 hx hZ hown (host := "") (Or.inl (hw _ (List.mem_of_getElem? (i := 53) rfl))) Via.refl e8 P1 P0 (Or.inl (hw _ (List.mem_of_getElem? (i := 54) rfl))) (hw _ (List.mem_of_getElem? (i := 35) rfl)) (ty := .int) (v := (.int (0 : Int32))) (by decide) rfl rfl (g := (mkF m 6 #[.val (.ref b0)] [(.int (0 : Int32)), (.ref b0)])) rfl rfl (hb hby al_d6)
  have N9 := Fr.snoc X9 N8 ge_b0
  have F10 : n0 ≤ h9.size := Nat.le_trans Z0 (Keep.of_wr W9).1
  have F11 : Exa Z h9 b0 "java/util/ArrayList" := P0.wr W9
  have F12 : Fld Z h9 b0 "java/util/AbstractList" "modCount" "I" (.int (0 : Int32)) := P1.same W9
  have F13 : Fld Z h9 b0 "java/util/ArrayList" "elementData" "[Ljava/lang/Object;" .null := P2.other W9 (Or.inr (slot_ne (Or.inl (hw _ (List.mem_of_getElem? (i := 57) rfl))) (Or.inl (hw _ (List.mem_of_getElem? (i := 54) rfl))) (by decide) (t := (.array (.object "java/lang/Object"))) (t' := .int) (by decide) (by decide)))
  have F14 : Keep h0 h9 [b0] := (Keep.refl h0 [b0]).wr W9 (Or.inl (List.mem_of_getElem? (i := 0) rfl))
  refine own_st st9 ?_
  show own_Dn p e below s _ _ _ (T9.setTop (mkF m 9 #[.val (.ref b0)] []))
  have eqH : T9.heap = h9 := e9
  exact own_retV X9 hx hret hlk (hb hby al_d9) (by decide) (by decide) (by rw [eqH]; exact ⟨rfl, N9, F14, F11, F12, F13⟩)
theorem al_ef (m : MethodId) (b0 : Addr) : entryFrame m #[(.ref b0)] 1 = mkF m 0 #[.val (.ref b0)] [] := by first | (simp [entryFrame, mkF, argsToLocals, Value.category]; done) | rfl
theorem al_rm (l : Launch) (Z : State) (a0 : Array Value) (hw : ∀ d ∈ tables_1, d.before a0 Z = true) (ws : List Jvm.Cond) (b0 : Addr) (h0 : Heap) (n0 : Nat) (Z0 : n0 ≤ h0.size) (P0 : Exa Z h0 b0 "java/util/ArrayList") (P1 : Fld Z h0 b0 "java/util/AbstractList" "modCount" "I" (.int (0 : Int32))) (P2 : Fld Z h0 b0 "java/util/ArrayList" "elementData" "[Ljava/lang/Object;" .null) (ge_b0 : n0 ≤ b0) :
    MetFree l (⟨"java/util/AbstractList", "<init>", "()V"⟩ : MethodName) (head1 (Jvm.Cond.code (⟨"java/util/AbstractList", "<init>", "()V"⟩ : MethodName) jdk_39_method_1_code 1 none :: ws) ({ frames := 2, cells := 0, slots := 0, locals := 24 } : Room)) (fun a U => a = #[(.ref b0)] ∧ Z.Warmed39 U.vm ∧ U.heap = h0) (fun _ _ _ _ _ => True) (fun _ U o U' => ∃ v L, o = .returned v ∧ (al_Q Z b0 h0 n0) v U'.heap L ∧ FrameEnd U o U' L ({ frames := 2, cells := 0, slots := 0, locals := 24 } : Room).cells ({ frames := 2, cells := 0, slots := 0, locals := 24 } : Room).slots) :=
  own_met hw (plainFor_of_name (by first | (simp [plainName, overriddenIn]; done) | decide +kernel)) (fun p e s m below meth c T0 C0 X0 e0 => own_st (fun _ k => castTop (al_ef m b0) k) (al_c0 C0 X0 e0 (Fr.nil n0) Z0 P0 P1 P2 ge_b0))
theorem ar_d0 : decode jdk_38_method_2_code 0 = .ok (.aload_n 0, 1) := by decide +kernel
theorem ar_d1 : decode jdk_38_method_2_code 1 = .ok (.invokespecial 1, 3) := by decide +kernel
theorem ar_d4 : decode jdk_38_method_2_code 4 = .ok (.aload_n 0, 1) := by decide +kernel
theorem ar_d5 : decode jdk_38_method_2_code 5 = .ok (.getstatic 39, 3) := by decide +kernel
theorem ar_d8 : decode jdk_38_method_2_code 8 = .ok (.putfield 9, 3) := by decide +kernel
theorem ar_d11 : decode jdk_38_method_2_code 11 = .ok (.return_, 1) := by decide +kernel
def ar_Q (Z : State) (b0 : Addr) (w_d : Addr) (h0 : Heap) (n0 : Nat) (v : Option Value) (h : Heap) (L : List Loc) : Prop := v = none ∧ Fr n0 L ∧ Keep h0 h [b0] ∧ Exa Z h b0 "java/util/ArrayList"
set_option maxRecDepth 65536 in
set_option maxHeartbeats 40000000 in
theorem ar_c0 {l : Launch} {Z : State} {a0 : Array Value} {b0 : Addr} {w_d : Addr} {h0 : Heap} {n0 : Nat} {p : Program} {e : Env} {s : State} {m : MethodId} {args : Array Value} {below : List Frame} {meth : Method} {c : Code} {T0 : State} {locs : List Loc} (C0 : own_Cx p s m meth c Z a0 jdk_38_method_2_code 1 "java/util/ArrayList" "<init>" none) (X0 : Stand p l e ({ frames := 3, cells := 0, slots := 0, locals := 36 } : Room) s m args below meth c T0 locs 0 0) (e0 : T0.heap = h0) (N0 : Fr n0 locs)  (Z0 : n0 ≤ h0.size) (P0 : Exa Z h0 b0 "java/util/ArrayList") (P1 : Fld Z h0 b0 "java/util/AbstractList" "modCount" "I" (.int (0 : Int32))) (P2 : Fld Z h0 b0 "java/util/ArrayList" "elementData" "[Ljava/lang/Object;" .null) (P3 : Sta Z h0 "java/util/ArrayList" "DEFAULTCAPACITY_EMPTY_ELEMENTDATA" "[Ljava/lang/Object;" (.ref w_d)) (ge_b0 : n0 ≤ b0) :
    own_Dn p e below s (ar_Q Z b0 w_d h0 n0) ({ frames := 3, cells := 0, slots := 0, locals := 36 } : Room).cells ({ frames := 3, cells := 0, slots := 0, locals := 36 } : Room).slots (T0.setTop (mkF m 0 #[.val (.ref b0)] [])) := by
  obtain ⟨hx, hZ, hw, hby, hml, hown, hret, hlk, hnm⟩ := id C0
  refine own_st (fun _ k => XS.aloadN X0.here hx rfl (hb hby ar_d0) rfl rfl k) ?_
  show own_Dn p e below s _ _ _ (T0.setTop (mkF m 1 #[.val (.ref b0)] [(.ref b0)]))
  obtain ⟨_, _, ⟨T17, L17, k17, n17⟩, -, X17, ⟨Lc17, hQ17, l17, y17, z17⟩, st17⟩ := X0.specialBack hx (y := (⟨"java/util/AbstractList", "<init>", "()V"⟩ : MethodName)) rfl hown (mvT hZ (hw _ (List.mem_of_getElem? (i := 40) rfl))) (mvT hZ (hw _ (List.mem_of_getElem? (i := 41) rfl))) (mvT hZ (hw _ (List.mem_of_getElem? (i := 45) rfl))) (by decide) (backOf (W := 0) (al_rm l Z a0 hw [] (b0) h0 n0 Z0 P0 P1 P2 ge_b0) hZ (hw _ (List.mem_of_getElem? (i := 45) rfl)) (hw _ (List.mem_of_getElem? (i := 44) rfl)) (by decide) (by decide)) (g := (mkF m 1 #[.val (.ref b0)] [(.ref b0)])) rfl (by rw [hml]; rfl) (Steps.refl _) (a := b0) (argsL := []) (rest := []) (lenOf own_pd0 rfl) rfl (by show 2 * 0 + _ ≤ _; exact Nat.le_of_eq rfl) (hb hby ar_d1) (fun _ _ => ⟨rfl, e0, (by decide : 0 + 0 ≤ _), (by decide : 0 + 0 ≤ _)⟩)
  dsimp only [Pt.U, Pt.locs, Pt.cells, Pt.slots] at X17 l17 y17 z17 st17 hQ17
  subst l17 y17 z17
  obtain ⟨rfl, N17q, K17, G18, G19, G20⟩ := hQ17
  have F21 : n0 ≤ T17.heap.size := Nat.le_trans Z0 K17.1
  have F22 : Exa Z T17.heap b0 "java/util/ArrayList" := P0.keep K17
  have F23 : Sta Z T17.heap "java/util/ArrayList" "DEFAULTCAPACITY_EMPTY_ELEMENTDATA" "[Ljava/lang/Object;" (.ref w_d) := own_Sta_keep P3 K17 P0
  have F24 : Keep h0 T17.heap [b0] := (Keep.refl h0 [b0]).trans K17 (allS (Or.inl (List.mem_of_getElem? (i := 0) rfl)) all0)
  have N17 := Fr.app N0 N17q
  refine own_tr st17 ?_
  show own_Dn p e below s _ _ _ (T17.setTop (mkF m 4 #[.val (.ref b0)] []))
  refine own_st (fun _ k => XS.aloadN X17.here hx rfl (hb hby ar_d4) rfl rfl k) ?_
  show own_Dn p e below s _ _ _ (T17.setTop (mkF m 5 #[.val (.ref b0)] [(.ref b0)]))
  obtain ⟨T25, X25, e25, st25⟩ := getS2 X17 hx hZ hown (host := "") (Or.inl (hw _ (List.mem_of_getElem? (i := 55) rfl))) Via.refl rfl F23 (g := (mkF m 5 #[.val (.ref b0)] [(.ref b0)])) rfl (hb hby ar_d5)
  refine own_st st25 ?_
  show own_Dn p e below s _ _ _ (T25.setTop (mkF m 8 #[.val (.ref b0)] [(.ref w_d), (.ref b0)]))
  obtain ⟨T26, h26, X26, e26, W26, st26⟩ := putF X25 hx hZ hown (host := "") (Or.inl (hw _ (List.mem_of_getElem? (i := 56) rfl))) Via.refl e25 G20 G18 (Or.inl (hw _ (List.mem_of_getElem? (i := 57) rfl))) (hw _ (List.mem_of_getElem? (i := 35) rfl)) (ty := (.array (.object "java/lang/Object"))) (v := (.ref w_d)) (by decide) rfl rfl (g := (mkF m 8 #[.val (.ref b0)] [(.ref w_d), (.ref b0)])) rfl rfl (hb hby ar_d8)
  have N26 := Fr.snoc X26 N17 ge_b0
  have F27 : n0 ≤ h26.size := Nat.le_trans F21 (Keep.of_wr W26).1
  have F28 : Sta Z h26 "java/util/ArrayList" "DEFAULTCAPACITY_EMPTY_ELEMENTDATA" "[Ljava/lang/Object;" (.ref w_d) := F23.wr W26
  have F29 : Keep h0 h26 [b0] := F24.wr W26 (Or.inl (List.mem_of_getElem? (i := 0) rfl))
  have F30 : Exa Z h26 b0 "java/util/ArrayList" := G18.wr W26
  have F31 : Fld Z h26 b0 "java/util/AbstractList" "modCount" "I" (.int (0 : Int32)) := G19.other W26 (Or.inr (slot_ne (Or.inl (hw _ (List.mem_of_getElem? (i := 54) rfl))) (Or.inl (hw _ (List.mem_of_getElem? (i := 57) rfl))) (by decide) (t := .int) (t' := (.array (.object "java/lang/Object"))) (by decide) (by decide)))
  have F32 : Fld Z h26 b0 "java/util/ArrayList" "elementData" "[Ljava/lang/Object;" (.ref w_d) := G20.same W26
  refine own_st st26 ?_
  show own_Dn p e below s _ _ _ (T26.setTop (mkF m 11 #[.val (.ref b0)] []))
  have eqH : T26.heap = h26 := e26
  exact own_retV X26 hx hret hlk (hb hby ar_d11) (by decide) (by decide) (by rw [eqH]; exact ⟨rfl, N26, F29, F30⟩)
theorem ar_ef (m : MethodId) (b0 : Addr) : entryFrame m #[(.ref b0)] 1 = mkF m 0 #[.val (.ref b0)] [] := by first | (simp [entryFrame, mkF, argsToLocals, Value.category]; done) | rfl
theorem ar_rm (l : Launch) (Z : State) (a0 : Array Value) (hw : ∀ d ∈ tables_1, d.before a0 Z = true) (ws : List Jvm.Cond) (b0 : Addr) (w_d : Addr) (h0 : Heap) (n0 : Nat) (Z0 : n0 ≤ h0.size) (P0 : Exa Z h0 b0 "java/util/ArrayList") (P1 : Fld Z h0 b0 "java/util/AbstractList" "modCount" "I" (.int (0 : Int32))) (P2 : Fld Z h0 b0 "java/util/ArrayList" "elementData" "[Ljava/lang/Object;" .null) (P3 : Sta Z h0 "java/util/ArrayList" "DEFAULTCAPACITY_EMPTY_ELEMENTDATA" "[Ljava/lang/Object;" (.ref w_d)) (ge_b0 : n0 ≤ b0) :
    MetFree l (⟨"java/util/ArrayList", "<init>", "()V"⟩ : MethodName) (head1 (Jvm.Cond.code (⟨"java/util/ArrayList", "<init>", "()V"⟩ : MethodName) jdk_38_method_2_code 1 none :: ws) ({ frames := 3, cells := 0, slots := 0, locals := 36 } : Room)) (fun a U => a = #[(.ref b0)] ∧ Z.Warmed39 U.vm ∧ U.heap = h0) (fun _ _ _ _ _ => True) (fun _ U o U' => ∃ v L, o = .returned v ∧ (ar_Q Z b0 w_d h0 n0) v U'.heap L ∧ FrameEnd U o U' L ({ frames := 3, cells := 0, slots := 0, locals := 36 } : Room).cells ({ frames := 3, cells := 0, slots := 0, locals := 36 } : Room).slots) :=
  own_met hw (plainFor_of_name (by first | (simp [plainName, overriddenIn]; done) | decide +kernel)) (fun p e s m below meth c T0 C0 X0 e0 => own_st (fun _ k => castTop (ar_ef m b0) k) (ar_c0 C0 X0 e0 (Fr.nil n0) Z0 P0 P1 P2 P3 ge_b0))
theorem re_d0 : decode jdk_30_method_1_code 0 = .ok (.aload_n 0, 1) := by decide +kernel
theorem re_d1 : decode jdk_30_method_1_code 1 = .ok (.invokespecial 1, 3) := by decide +kernel
theorem re_d4 : decode jdk_30_method_1_code 4 = .ok (.return_, 1) := by decide +kernel
set_option maxRecDepth 65536 in
set_option maxHeartbeats 40000000 in
theorem re_c0 {l : Launch} {Z : State} {a0 : Array Value} {b0 : Addr} {h0 : Heap} {n0 : Nat} {p : Program} {e : Env} {s : State} {m : MethodId} {args : Array Value} {below : List Frame} {meth : Method} {c : Code} {T0 : State} {locs : List Loc} (C0 : own_Cx p s m meth c Z a0 jdk_30_method_1_code 1 "java/lang/Record" "<init>" none) (X0 : Stand p l e ({ frames := 1, cells := 0, slots := 0, locals := 12 } : Room) s m args below meth c T0 locs 0 0) (e0 : T0.heap = h0) (N0 : Fr n0 locs)  (Z0 : n0 ≤ h0.size) :
    own_Dn p e below s (own_Q none n0 h0) ({ frames := 1, cells := 0, slots := 0, locals := 12 } : Room).cells ({ frames := 1, cells := 0, slots := 0, locals := 12 } : Room).slots (T0.setTop (mkF m 0 #[.val (.ref b0)] [])) := by
  obtain ⟨hx, hZ, hw, hby, hml, hown, hret, hlk, hnm⟩ := id C0
  refine own_st (fun _ k => XS.aloadN X0.here hx rfl (hb hby re_d0) rfl rfl k) ?_
  show own_Dn p e below s _ _ _ (T0.setTop (mkF m 1 #[.val (.ref b0)] [(.ref b0)]))
  obtain ⟨T2, X2, e2, st2⟩ := initO X0 hx hZ hown (hw _ (List.mem_of_getElem? (i := 72) rfl)) (hw _ (List.mem_of_getElem? (i := 16) rfl)) (hw _ (List.mem_of_getElem? (i := 17) rfl)) e0 (g := (mkF m 1 #[.val (.ref b0)] [(.ref b0)])) rfl (by rw [hml]; rfl) rfl (hb hby re_d1) (by decide) (W := 0) (by show 2 * 0 + _ ≤ _; exact Nat.le_of_eq rfl) (by decide)
  refine own_st st2 ?_
  show own_Dn p e below s _ _ _ (T2.setTop (mkF m 4 #[.val (.ref b0)] []))
  exact own_retV X2 hx hret hlk (hb hby re_d4) (by decide) (by decide) ⟨rfl, N0, e2⟩
theorem re_ef (m : MethodId) (b0 : Addr) : entryFrame m #[(.ref b0)] 1 = mkF m 0 #[.val (.ref b0)] [] := by first | (simp [entryFrame, mkF, argsToLocals, Value.category]; done) | rfl
theorem re_rm (l : Launch) (Z : State) (a0 : Array Value) (hw : ∀ d ∈ tables_1, d.before a0 Z = true) (ws : List Jvm.Cond) (b0 : Addr) (h0 : Heap) (n0 : Nat) (Z0 : n0 ≤ h0.size) :
    MetFree l (⟨"java/lang/Record", "<init>", "()V"⟩ : MethodName) (head1 (Jvm.Cond.code (⟨"java/lang/Record", "<init>", "()V"⟩ : MethodName) jdk_30_method_1_code 1 none :: ws) ({ frames := 1, cells := 0, slots := 0, locals := 12 } : Room)) (fun a U => a = #[(.ref b0)] ∧ Z.Warmed39 U.vm ∧ U.heap = h0) (fun _ _ _ _ _ => True) (fun _ U o U' => ∃ v L, o = .returned v ∧ (own_Q none n0 h0) v U'.heap L ∧ FrameEnd U o U' L ({ frames := 1, cells := 0, slots := 0, locals := 12 } : Room).cells ({ frames := 1, cells := 0, slots := 0, locals := 12 } : Room).slots) :=
  own_met hw (plainFor_of_name (by first | (simp [plainName, overriddenIn]; done) | decide +kernel)) (fun p e s m below meth c T0 C0 X0 e0 => own_st (fun _ k => castTop (re_ef m b0) k) (re_c0 C0 X0 e0 (Fr.nil n0) Z0 ))
theorem oc_d0 : decode prog_63_method_1_code 0 = .ok (.aload_n 0, 1) := by decide +kernel
theorem oc_d1 : decode prog_63_method_1_code 1 = .ok (.invokespecial 1, 3) := by decide +kernel
theorem oc_d4 : decode prog_63_method_1_code 4 = .ok (.aload_n 0, 1) := by decide +kernel
theorem oc_d5 : decode prog_63_method_1_code 5 = .ok (.aload_n 1, 1) := by decide +kernel
theorem oc_d6 : decode prog_63_method_1_code 6 = .ok (.putfield 7, 3) := by decide +kernel
theorem oc_d9 : decode prog_63_method_1_code 9 = .ok (.aload_n 0, 1) := by decide +kernel
theorem oc_d10 : decode prog_63_method_1_code 10 = .ok (.iload_n 2, 1) := by decide +kernel
theorem oc_d11 : decode prog_63_method_1_code 11 = .ok (.putfield 13, 3) := by decide +kernel
theorem oc_d14 : decode prog_63_method_1_code 14 = .ok (.aload_n 0, 1) := by decide +kernel
theorem oc_d15 : decode prog_63_method_1_code 15 = .ok (.aload_n 3, 1) := by decide +kernel
theorem oc_d16 : decode prog_63_method_1_code 16 = .ok (.putfield 17, 3) := by decide +kernel
theorem oc_d19 : decode prog_63_method_1_code 19 = .ok (.aload_n 0, 1) := by decide +kernel
theorem oc_d20 : decode prog_63_method_1_code 20 = .ok (.aload 4, 2) := by decide +kernel
theorem oc_d22 : decode prog_63_method_1_code 22 = .ok (.putfield 20, 3) := by decide +kernel
theorem oc_d25 : decode prog_63_method_1_code 25 = .ok (.aload_n 0, 1) := by decide +kernel
theorem oc_d26 : decode prog_63_method_1_code 26 = .ok (.aload 5, 2) := by decide +kernel
theorem oc_d28 : decode prog_63_method_1_code 28 = .ok (.putfield 23, 3) := by decide +kernel
theorem oc_d31 : decode prog_63_method_1_code 31 = .ok (.return_, 1) := by decide +kernel
def oc_Q (Z : State) (b0 : Addr) (b1 : Addr) (p2 : Int32) (b3 : Addr) (b5 : Addr) (h0 : Heap) (n0 : Nat) (v : Option Value) (h : Heap) (L : List Loc) : Prop := v = none ∧ Fr n0 L ∧ Keep h0 h [b0] ∧ Exa Z h b0 "com/example/stierlin/stierlin/protocol/OffsetCommitRequest" ∧ Fld Z h b0 "com/example/stierlin/stierlin/protocol/OffsetCommitRequest" "generationId" "I" (.int p2) ∧ Fld Z h b0 "com/example/stierlin/stierlin/protocol/OffsetCommitRequest" "memberId" "Ljava/lang/String;" (.ref b3)
set_option maxRecDepth 65536 in
set_option maxHeartbeats 40000000 in
theorem oc_c0 {l : Launch} {Z : State} {a0 : Array Value} {b0 : Addr} {b1 : Addr} {p2 : Int32} {b3 : Addr} {b5 : Addr} {h0 : Heap} {n0 : Nat} {p : Program} {e : Env} {s : State} {m : MethodId} {args : Array Value} {below : List Frame} {meth : Method} {c : Code} {T0 : State} {locs : List Loc} (C0 : own_Cx p s m meth c Z a0 prog_63_method_1_code 6 "com/example/stierlin/stierlin/protocol/OffsetCommitRequest" "<init>" none) (X0 : Stand p l e ({ frames := 2, cells := 0, slots := 0, locals := 24 } : Room) s m args below meth c T0 locs 0 0) (e0 : T0.heap = h0) (N0 : Fr n0 locs)  (Z0 : n0 ≤ h0.size) (P0 : Exa Z h0 b0 "com/example/stierlin/stierlin/protocol/OffsetCommitRequest") (P1 : Fld Z h0 b0 "com/example/stierlin/stierlin/protocol/OffsetCommitRequest" "groupId" "Ljava/lang/String;" .null) (P2 : Fld Z h0 b0 "com/example/stierlin/stierlin/protocol/OffsetCommitRequest" "generationId" "I" (.int (0 : Int32))) (P3 : Fld Z h0 b0 "com/example/stierlin/stierlin/protocol/OffsetCommitRequest" "memberId" "Ljava/lang/String;" .null) (P4 : Fld Z h0 b0 "com/example/stierlin/stierlin/protocol/OffsetCommitRequest" "groupInstanceId" "Ljava/lang/String;" .null) (P5 : Fld Z h0 b0 "com/example/stierlin/stierlin/protocol/OffsetCommitRequest" "topics" "Ljava/util/List;" .null) (ge_b0 : n0 ≤ b0) :
    own_Dn p e below s (oc_Q Z b0 b1 p2 b3 b5 h0 n0) ({ frames := 2, cells := 0, slots := 0, locals := 24 } : Room).cells ({ frames := 2, cells := 0, slots := 0, locals := 24 } : Room).slots (T0.setTop (mkF m 0 #[.val (.ref b0), .val (.ref b1), .val (.int p2), .val (.ref b3), .val .null, .val (.ref b5)] [])) := by
  obtain ⟨hx, hZ, hw, hby, hml, hown, hret, hlk, hnm⟩ := id C0
  refine own_st (fun _ k => XS.aloadN X0.here hx rfl (hb hby oc_d0) rfl rfl k) ?_
  show own_Dn p e below s _ _ _ (T0.setTop (mkF m 1 #[.val (.ref b0), .val (.ref b1), .val (.int p2), .val (.ref b3), .val .null, .val (.ref b5)] [(.ref b0)]))
  obtain ⟨_, _, ⟨T47, L47, k47, n47⟩, -, X47, ⟨Lc47, hQ47, l47, y47, z47⟩, st47⟩ := X0.specialBack hx (y := (⟨"java/lang/Record", "<init>", "()V"⟩ : MethodName)) rfl hown (mvT hZ (hw _ (List.mem_of_getElem? (i := 67) rfl))) (mvT hZ (hw _ (List.mem_of_getElem? (i := 68) rfl))) (mvT hZ (hw _ (List.mem_of_getElem? (i := 71) rfl))) (by decide) (backOf (W := 0) (re_rm l Z a0 hw [] (b0) h0 n0 Z0 ) hZ (hw _ (List.mem_of_getElem? (i := 71) rfl)) (hw _ (List.mem_of_getElem? (i := 70) rfl)) (by decide) (by decide)) (g := (mkF m 1 #[.val (.ref b0), .val (.ref b1), .val (.int p2), .val (.ref b3), .val .null, .val (.ref b5)] [(.ref b0)])) rfl (by rw [hml]; rfl) (Steps.refl _) (a := b0) (argsL := []) (rest := []) (lenOf own_pd0 rfl) rfl (by show 2 * 0 + _ ≤ _; exact Nat.le_of_eq rfl) (hb hby oc_d1) (fun _ _ => ⟨rfl, e0, (by decide : 0 + 0 ≤ _), (by decide : 0 + 0 ≤ _)⟩)
  dsimp only [Pt.U, Pt.locs, Pt.cells, Pt.slots] at X47 l47 y47 z47 st47 hQ47
  subst l47 y47 z47
  obtain ⟨rfl, N47q, e47⟩ := hQ47
  have N47 := Fr.app N0 N47q
  refine own_tr st47 ?_
  show own_Dn p e below s _ _ _ (T47.setTop (mkF m 4 #[.val (.ref b0), .val (.ref b1), .val (.int p2), .val (.ref b3), .val .null, .val (.ref b5)] []))
  refine own_st (fun _ k => XS.aloadN X47.here hx rfl (hb hby oc_d4) rfl rfl (XS.aloadN X47.here hx rfl (hb hby oc_d5) rfl rfl k)) ?_
  show own_Dn p e below s _ _ _ (T47.setTop (mkF m 6 #[.val (.ref b0), .val (.ref b1), .val (.int p2), .val (.ref b3), .val .null, .val (.ref b5)] [(.ref b1), (.ref b0)]))
  obtain ⟨T48, h48, X48, e48, W48, st48⟩ := putF X47 hx hZ hown (host := "") (Or.inl (hw _ (List.mem_of_getElem? (i := 73) rfl))) Via.refl e47 P1 P0 (Or.inr ⟨(hw _ (List.mem_of_getElem? (i := 74) rfl)), rfl, hnm⟩) (hw _ (List.mem_of_getElem? (i := 59) rfl)) (ty := (.object "java/lang/String")) (v := (.ref b1)) (by decide) rfl rfl (g := (mkF m 6 #[.val (.ref b0), .val (.ref b1), .val (.int p2), .val (.ref b3), .val .null, .val (.ref b5)] [(.ref b1), (.ref b0)])) rfl rfl (hb hby oc_d6)
  have N48 := Fr.snoc X48 N47 ge_b0
  have F49 : n0 ≤ h48.size := Nat.le_trans Z0 (Keep.of_wr W48).1
  have F50 : Exa Z h48 b0 "com/example/stierlin/stierlin/protocol/OffsetCommitRequest" := P0.wr W48
  have F51 : Fld Z h48 b0 "com/example/stierlin/stierlin/protocol/OffsetCommitRequest" "groupId" "Ljava/lang/String;" (.ref b1) := P1.same W48
  have F52 : Fld Z h48 b0 "com/example/stierlin/stierlin/protocol/OffsetCommitRequest" "generationId" "I" (.int (0 : Int32)) := P2.other W48 (Or.inr (slot_ne (Or.inr (hw _ (List.mem_of_getElem? (i := 76) rfl))) (Or.inr (hw _ (List.mem_of_getElem? (i := 74) rfl))) (by decide) (t := .int) (t' := (.object "java/lang/String")) (by decide) (by decide)))
  have F53 : Fld Z h48 b0 "com/example/stierlin/stierlin/protocol/OffsetCommitRequest" "memberId" "Ljava/lang/String;" .null := P3.other W48 (Or.inr (slot_ne (Or.inr (hw _ (List.mem_of_getElem? (i := 78) rfl))) (Or.inr (hw _ (List.mem_of_getElem? (i := 74) rfl))) (by decide) (t := (.object "java/lang/String")) (t' := (.object "java/lang/String")) (by decide) (by decide)))
  have F54 : Fld Z h48 b0 "com/example/stierlin/stierlin/protocol/OffsetCommitRequest" "groupInstanceId" "Ljava/lang/String;" .null := P4.other W48 (Or.inr (slot_ne (Or.inr (hw _ (List.mem_of_getElem? (i := 80) rfl))) (Or.inr (hw _ (List.mem_of_getElem? (i := 74) rfl))) (by decide) (t := (.object "java/lang/String")) (t' := (.object "java/lang/String")) (by decide) (by decide)))
  have F55 : Fld Z h48 b0 "com/example/stierlin/stierlin/protocol/OffsetCommitRequest" "topics" "Ljava/util/List;" .null := P5.other W48 (Or.inr (slot_ne (Or.inr (hw _ (List.mem_of_getElem? (i := 82) rfl))) (Or.inr (hw _ (List.mem_of_getElem? (i := 74) rfl))) (by decide) (t := (.object "java/util/List")) (t' := (.object "java/lang/String")) (by decide) (by decide)))
  have F56 : Keep h0 h48 [b0] := (Keep.refl h0 [b0]).wr W48 (Or.inl (List.mem_of_getElem? (i := 0) rfl))
  refine own_st st48 ?_
  show own_Dn p e below s _ _ _ (T48.setTop (mkF m 9 #[.val (.ref b0), .val (.ref b1), .val (.int p2), .val (.ref b3), .val .null, .val (.ref b5)] []))
  refine own_st (fun _ k => XS.aloadN X48.here hx rfl (hb hby oc_d9) rfl rfl (XS.iloadN X48.here hx rfl (hb hby oc_d10) rfl k)) ?_
  show own_Dn p e below s _ _ _ (T48.setTop (mkF m 11 #[.val (.ref b0), .val (.ref b1), .val (.int p2), .val (.ref b3), .val .null, .val (.ref b5)] [(.int p2), (.ref b0)]))
  obtain ⟨T57, h57, X57, e57, W57, st57⟩ := putF X48 hx hZ hown (host := "") (Or.inl (hw _ (List.mem_of_getElem? (i := 75) rfl))) Via.refl e48 F52 F50 (Or.inr ⟨(hw _ (List.mem_of_getElem? (i := 76) rfl)), rfl, hnm⟩) (hw _ (List.mem_of_getElem? (i := 59) rfl)) (ty := .int) (v := (.int p2)) (by decide) rfl rfl (g := (mkF m 11 #[.val (.ref b0), .val (.ref b1), .val (.int p2), .val (.ref b3), .val .null, .val (.ref b5)] [(.int p2), (.ref b0)])) rfl rfl (hb hby oc_d11)
  have N57 := Fr.snoc X57 N48 ge_b0
  have F58 : n0 ≤ h57.size := Nat.le_trans F49 (Keep.of_wr W57).1
  have F59 : Exa Z h57 b0 "com/example/stierlin/stierlin/protocol/OffsetCommitRequest" := F50.wr W57
  have F60 : Fld Z h57 b0 "com/example/stierlin/stierlin/protocol/OffsetCommitRequest" "groupId" "Ljava/lang/String;" (.ref b1) := F51.other W57 (Or.inr (slot_ne (Or.inr (hw _ (List.mem_of_getElem? (i := 74) rfl))) (Or.inr (hw _ (List.mem_of_getElem? (i := 76) rfl))) (by decide) (t := (.object "java/lang/String")) (t' := .int) (by decide) (by decide)))
  have F61 : Fld Z h57 b0 "com/example/stierlin/stierlin/protocol/OffsetCommitRequest" "generationId" "I" (.int p2) := F52.same W57
  have F62 : Fld Z h57 b0 "com/example/stierlin/stierlin/protocol/OffsetCommitRequest" "memberId" "Ljava/lang/String;" .null := F53.other W57 (Or.inr (slot_ne (Or.inr (hw _ (List.mem_of_getElem? (i := 78) rfl))) (Or.inr (hw _ (List.mem_of_getElem? (i := 76) rfl))) (by decide) (t := (.object "java/lang/String")) (t' := .int) (by decide) (by decide)))
  have F63 : Fld Z h57 b0 "com/example/stierlin/stierlin/protocol/OffsetCommitRequest" "groupInstanceId" "Ljava/lang/String;" .null := F54.other W57 (Or.inr (slot_ne (Or.inr (hw _ (List.mem_of_getElem? (i := 80) rfl))) (Or.inr (hw _ (List.mem_of_getElem? (i := 76) rfl))) (by decide) (t := (.object "java/lang/String")) (t' := .int) (by decide) (by decide)))
  have F64 : Fld Z h57 b0 "com/example/stierlin/stierlin/protocol/OffsetCommitRequest" "topics" "Ljava/util/List;" .null := F55.other W57 (Or.inr (slot_ne (Or.inr (hw _ (List.mem_of_getElem? (i := 82) rfl))) (Or.inr (hw _ (List.mem_of_getElem? (i := 76) rfl))) (by decide) (t := (.object "java/util/List")) (t' := .int) (by decide) (by decide)))
  have F65 : Keep h0 h57 [b0] := F56.wr W57 (Or.inl (List.mem_of_getElem? (i := 0) rfl))
  refine own_st st57 ?_
  show own_Dn p e below s _ _ _ (T57.setTop (mkF m 14 #[.val (.ref b0), .val (.ref b1), .val (.int p2), .val (.ref b3), .val .null, .val (.ref b5)] []))
  refine own_st (fun _ k => XS.aloadN X57.here hx rfl (hb hby oc_d14) rfl rfl (XS.aloadN X57.here hx rfl (hb hby oc_d15) rfl rfl k)) ?_
  show own_Dn p e below s _ _ _ (T57.setTop (mkF m 16 #[.val (.ref b0), .val (.ref b1), .val (.int p2), .val (.ref b3), .val .null, .val (.ref b5)] [(.ref b3), (.ref b0)]))
  obtain ⟨T66, h66, X66, e66, W66, st66⟩ := putF X57 hx hZ hown (host := "") (Or.inl (hw _ (List.mem_of_getElem? (i := 77) rfl))) Via.refl e57 F62 F59 (Or.inr ⟨(hw _ (List.mem_of_getElem? (i := 78) rfl)), rfl, hnm⟩) (hw _ (List.mem_of_getElem? (i := 59) rfl)) (ty := (.object "java/lang/String")) (v := (.ref b3)) (by decide) rfl rfl (g := (mkF m 16 #[.val (.ref b0), .val (.ref b1), .val (.int p2), .val (.ref b3), .val .null, .val (.ref b5)] [(.ref b3), (.ref b0)])) rfl rfl (hb hby oc_d16)
  have N66 := Fr.snoc X66 N57 ge_b0
  have F67 : n0 ≤ h66.size := Nat.le_trans F58 (Keep.of_wr W66).1
  have F68 : Exa Z h66 b0 "com/example/stierlin/stierlin/protocol/OffsetCommitRequest" := F59.wr W66
  have F69 : Fld Z h66 b0 "com/example/stierlin/stierlin/protocol/OffsetCommitRequest" "groupId" "Ljava/lang/String;" (.ref b1) := F60.other W66 (Or.inr (slot_ne (Or.inr (hw _ (List.mem_of_getElem? (i := 74) rfl))) (Or.inr (hw _ (List.mem_of_getElem? (i := 78) rfl))) (by decide) (t := (.object "java/lang/String")) (t' := (.object "java/lang/String")) (by decide) (by decide)))
  have F70 : Fld Z h66 b0 "com/example/stierlin/stierlin/protocol/OffsetCommitRequest" "generationId" "I" (.int p2) := F61.other W66 (Or.inr (slot_ne (Or.inr (hw _ (List.mem_of_getElem? (i := 76) rfl))) (Or.inr (hw _ (List.mem_of_getElem? (i := 78) rfl))) (by decide) (t := .int) (t' := (.object "java/lang/String")) (by decide) (by decide)))
  have F71 : Fld Z h66 b0 "com/example/stierlin/stierlin/protocol/OffsetCommitRequest" "memberId" "Ljava/lang/String;" (.ref b3) := F62.same W66
  have F72 : Fld Z h66 b0 "com/example/stierlin/stierlin/protocol/OffsetCommitRequest" "groupInstanceId" "Ljava/lang/String;" .null := F63.other W66 (Or.inr (slot_ne (Or.inr (hw _ (List.mem_of_getElem? (i := 80) rfl))) (Or.inr (hw _ (List.mem_of_getElem? (i := 78) rfl))) (by decide) (t := (.object "java/lang/String")) (t' := (.object "java/lang/String")) (by decide) (by decide)))
  have F73 : Fld Z h66 b0 "com/example/stierlin/stierlin/protocol/OffsetCommitRequest" "topics" "Ljava/util/List;" .null := F64.other W66 (Or.inr (slot_ne (Or.inr (hw _ (List.mem_of_getElem? (i := 82) rfl))) (Or.inr (hw _ (List.mem_of_getElem? (i := 78) rfl))) (by decide) (t := (.object "java/util/List")) (t' := (.object "java/lang/String")) (by decide) (by decide)))
  have F74 : Keep h0 h66 [b0] := F65.wr W66 (Or.inl (List.mem_of_getElem? (i := 0) rfl))
  refine own_st st66 ?_
  show own_Dn p e below s _ _ _ (T66.setTop (mkF m 19 #[.val (.ref b0), .val (.ref b1), .val (.int p2), .val (.ref b3), .val .null, .val (.ref b5)] []))
  refine own_st (fun _ k => XS.aloadN X66.here hx rfl (hb hby oc_d19) rfl rfl (XS.aload X66.here hx rfl (hb hby oc_d20) rfl rfl k)) ?_
  show own_Dn p e below s _ _ _ (T66.setTop (mkF m 22 #[.val (.ref b0), .val (.ref b1), .val (.int p2), .val (.ref b3), .val .null, .val (.ref b5)] [.null, (.ref b0)]))
  obtain ⟨T75, h75, X75, e75, W75, st75⟩ := putF X66 hx hZ hown (host := "") (Or.inl (hw _ (List.mem_of_getElem? (i := 79) rfl))) Via.refl e66 F72 F68 (Or.inr ⟨(hw _ (List.mem_of_getElem? (i := 80) rfl)), rfl, hnm⟩) (hw _ (List.mem_of_getElem? (i := 59) rfl)) (ty := (.object "java/lang/String")) (v := .null) (by decide) rfl rfl (g := (mkF m 22 #[.val (.ref b0), .val (.ref b1), .val (.int p2), .val (.ref b3), .val .null, .val (.ref b5)] [.null, (.ref b0)])) rfl rfl (hb hby oc_d22)
  have N75 := Fr.snoc X75 N66 ge_b0
  have F76 : n0 ≤ h75.size := Nat.le_trans F67 (Keep.of_wr W75).1
  have F77 : Exa Z h75 b0 "com/example/stierlin/stierlin/protocol/OffsetCommitRequest" := F68.wr W75
  have F78 : Fld Z h75 b0 "com/example/stierlin/stierlin/protocol/OffsetCommitRequest" "groupId" "Ljava/lang/String;" (.ref b1) := F69.other W75 (Or.inr (slot_ne (Or.inr (hw _ (List.mem_of_getElem? (i := 74) rfl))) (Or.inr (hw _ (List.mem_of_getElem? (i := 80) rfl))) (by decide) (t := (.object "java/lang/String")) (t' := (.object "java/lang/String")) (by decide) (by decide)))
  have F79 : Fld Z h75 b0 "com/example/stierlin/stierlin/protocol/OffsetCommitRequest" "generationId" "I" (.int p2) := F70.other W75 (Or.inr (slot_ne (Or.inr (hw _ (List.mem_of_getElem? (i := 76) rfl))) (Or.inr (hw _ (List.mem_of_getElem? (i := 80) rfl))) (by decide) (t := .int) (t' := (.object "java/lang/String")) (by decide) (by decide)))
  have F80 : Fld Z h75 b0 "com/example/stierlin/stierlin/protocol/OffsetCommitRequest" "memberId" "Ljava/lang/String;" (.ref b3) := F71.other W75 (Or.inr (slot_ne (Or.inr (hw _ (List.mem_of_getElem? (i := 78) rfl))) (Or.inr (hw _ (List.mem_of_getElem? (i := 80) rfl))) (by decide) (t := (.object "java/lang/String")) (t' := (.object "java/lang/String")) (by decide) (by decide)))
  have F81 : Fld Z h75 b0 "com/example/stierlin/stierlin/protocol/OffsetCommitRequest" "groupInstanceId" "Ljava/lang/String;" .null := F72.same W75
  have F82 : Fld Z h75 b0 "com/example/stierlin/stierlin/protocol/OffsetCommitRequest" "topics" "Ljava/util/List;" .null := F73.other W75 (Or.inr (slot_ne (Or.inr (hw _ (List.mem_of_getElem? (i := 82) rfl))) (Or.inr (hw _ (List.mem_of_getElem? (i := 80) rfl))) (by decide) (t := (.object "java/util/List")) (t' := (.object "java/lang/String")) (by decide) (by decide)))
  have F83 : Keep h0 h75 [b0] := F74.wr W75 (Or.inl (List.mem_of_getElem? (i := 0) rfl))
  refine own_st st75 ?_
  show own_Dn p e below s _ _ _ (T75.setTop (mkF m 25 #[.val (.ref b0), .val (.ref b1), .val (.int p2), .val (.ref b3), .val .null, .val (.ref b5)] []))
  refine own_st (fun _ k => XS.aloadN X75.here hx rfl (hb hby oc_d25) rfl rfl (XS.aload X75.here hx rfl (hb hby oc_d26) rfl rfl k)) ?_
  show own_Dn p e below s _ _ _ (T75.setTop (mkF m 28 #[.val (.ref b0), .val (.ref b1), .val (.int p2), .val (.ref b3), .val .null, .val (.ref b5)] [(.ref b5), (.ref b0)]))
  obtain ⟨T84, h84, X84, e84, W84, st84⟩ := putF X75 hx hZ hown (host := "") (Or.inl (hw _ (List.mem_of_getElem? (i := 81) rfl))) Via.refl e75 F82 F77 (Or.inr ⟨(hw _ (List.mem_of_getElem? (i := 82) rfl)), rfl, hnm⟩) (hw _ (List.mem_of_getElem? (i := 59) rfl)) (ty := (.object "java/util/List")) (v := (.ref b5)) (by decide) rfl rfl (g := (mkF m 28 #[.val (.ref b0), .val (.ref b1), .val (.int p2), .val (.ref b3), .val .null, .val (.ref b5)] [(.ref b5), (.ref b0)])) rfl rfl (hb hby oc_d28)
  have N84 := Fr.snoc X84 N75 ge_b0
  have F85 : n0 ≤ h84.size := Nat.le_trans F76 (Keep.of_wr W84).1
  have F86 : Exa Z h84 b0 "com/example/stierlin/stierlin/protocol/OffsetCommitRequest" := F77.wr W84
  have F87 : Fld Z h84 b0 "com/example/stierlin/stierlin/protocol/OffsetCommitRequest" "groupId" "Ljava/lang/String;" (.ref b1) := F78.other W84 (Or.inr (slot_ne (Or.inr (hw _ (List.mem_of_getElem? (i := 74) rfl))) (Or.inr (hw _ (List.mem_of_getElem? (i := 82) rfl))) (by decide) (t := (.object "java/lang/String")) (t' := (.object "java/util/List")) (by decide) (by decide)))
  have F88 : Fld Z h84 b0 "com/example/stierlin/stierlin/protocol/OffsetCommitRequest" "generationId" "I" (.int p2) := F79.other W84 (Or.inr (slot_ne (Or.inr (hw _ (List.mem_of_getElem? (i := 76) rfl))) (Or.inr (hw _ (List.mem_of_getElem? (i := 82) rfl))) (by decide) (t := .int) (t' := (.object "java/util/List")) (by decide) (by decide)))
  have F89 : Fld Z h84 b0 "com/example/stierlin/stierlin/protocol/OffsetCommitRequest" "memberId" "Ljava/lang/String;" (.ref b3) := F80.other W84 (Or.inr (slot_ne (Or.inr (hw _ (List.mem_of_getElem? (i := 78) rfl))) (Or.inr (hw _ (List.mem_of_getElem? (i := 82) rfl))) (by decide) (t := (.object "java/lang/String")) (t' := (.object "java/util/List")) (by decide) (by decide)))
  have F90 : Fld Z h84 b0 "com/example/stierlin/stierlin/protocol/OffsetCommitRequest" "groupInstanceId" "Ljava/lang/String;" .null := F81.other W84 (Or.inr (slot_ne (Or.inr (hw _ (List.mem_of_getElem? (i := 80) rfl))) (Or.inr (hw _ (List.mem_of_getElem? (i := 82) rfl))) (by decide) (t := (.object "java/lang/String")) (t' := (.object "java/util/List")) (by decide) (by decide)))
  have F91 : Fld Z h84 b0 "com/example/stierlin/stierlin/protocol/OffsetCommitRequest" "topics" "Ljava/util/List;" (.ref b5) := F82.same W84
  have F92 : Keep h0 h84 [b0] := F83.wr W84 (Or.inl (List.mem_of_getElem? (i := 0) rfl))
  refine own_st st84 ?_
  show own_Dn p e below s _ _ _ (T84.setTop (mkF m 31 #[.val (.ref b0), .val (.ref b1), .val (.int p2), .val (.ref b3), .val .null, .val (.ref b5)] []))
  have eqH : T84.heap = h84 := e84
  exact own_retV X84 hx hret hlk (hb hby oc_d31) (by decide) (by decide) (by rw [eqH]; exact ⟨rfl, N84, F92, F86, F88, F89⟩)
theorem oc_ef (m : MethodId) (b0 : Addr) (b1 : Addr) (p2 : Int32) (b3 : Addr) (b5 : Addr) : entryFrame m #[(.ref b0), (.ref b1), (.int p2), (.ref b3), .null, (.ref b5)] 6 = mkF m 0 #[.val (.ref b0), .val (.ref b1), .val (.int p2), .val (.ref b3), .val .null, .val (.ref b5)] [] := by first | (simp [entryFrame, mkF, argsToLocals, Value.category]; done) | rfl
theorem oc_rm (l : Launch) (Z : State) (a0 : Array Value) (hw : ∀ d ∈ tables_1, d.before a0 Z = true) (ws : List Jvm.Cond) (b0 : Addr) (b1 : Addr) (p2 : Int32) (b3 : Addr) (b5 : Addr) (h0 : Heap) (n0 : Nat) (Z0 : n0 ≤ h0.size) (P0 : Exa Z h0 b0 "com/example/stierlin/stierlin/protocol/OffsetCommitRequest") (P1 : Fld Z h0 b0 "com/example/stierlin/stierlin/protocol/OffsetCommitRequest" "groupId" "Ljava/lang/String;" .null) (P2 : Fld Z h0 b0 "com/example/stierlin/stierlin/protocol/OffsetCommitRequest" "generationId" "I" (.int (0 : Int32))) (P3 : Fld Z h0 b0 "com/example/stierlin/stierlin/protocol/OffsetCommitRequest" "memberId" "Ljava/lang/String;" .null) (P4 : Fld Z h0 b0 "com/example/stierlin/stierlin/protocol/OffsetCommitRequest" "groupInstanceId" "Ljava/lang/String;" .null) (P5 : Fld Z h0 b0 "com/example/stierlin/stierlin/protocol/OffsetCommitRequest" "topics" "Ljava/util/List;" .null) (ge_b0 : n0 ≤ b0) :
    MetFree l (⟨"com/example/stierlin/stierlin/protocol/OffsetCommitRequest", "<init>", "(Ljava/lang/String;ILjava/lang/String;Ljava/lang/String;Ljava/util/List;)V"⟩ : MethodName) (head1 (Jvm.Cond.code (⟨"com/example/stierlin/stierlin/protocol/OffsetCommitRequest", "<init>", "(Ljava/lang/String;ILjava/lang/String;Ljava/lang/String;Ljava/util/List;)V"⟩ : MethodName) prog_63_method_1_code 6 none :: ws) ({ frames := 2, cells := 0, slots := 0, locals := 24 } : Room)) (fun a U => a = #[(.ref b0), (.ref b1), (.int p2), (.ref b3), .null, (.ref b5)] ∧ Z.Warmed39 U.vm ∧ U.heap = h0) (fun _ _ _ _ _ => True) (fun _ U o U' => ∃ v L, o = .returned v ∧ (oc_Q Z b0 b1 p2 b3 b5 h0 n0) v U'.heap L ∧ FrameEnd U o U' L ({ frames := 2, cells := 0, slots := 0, locals := 24 } : Room).cells ({ frames := 2, cells := 0, slots := 0, locals := 24 } : Room).slots) :=
  own_met hw (plainFor_of_name (by first | (simp [plainName, overriddenIn]; done) | decide +kernel)) (fun p e s m below meth c T0 C0 X0 e0 => own_st (fun _ k => castTop (oc_ef m b0 b1 p2 b3 b5) k) (oc_c0 C0 X0 e0 (Fr.nil n0) Z0 P0 P1 P2 P3 P4 P5 ge_b0))
theorem em_d0 : decode jdk_42_method_55_code 0 = .ok (.aload_n 0, 1) := by decide +kernel
theorem em_d1 : decode jdk_42_method_55_code 1 = .ok (.getfield 9, 3) := by decide +kernel
theorem em_d4 : decode jdk_42_method_55_code 4 = .ok (.arraylength, 1) := by decide +kernel
theorem em_d5 : decode jdk_42_method_55_code 5 = .ok (.ifCond .ne 7, 3) := by decide +kernel
theorem em_d8 : decode jdk_42_method_55_code 8 = .ok (.iconst 1, 1) := by decide +kernel
theorem em_d9 : decode jdk_42_method_55_code 9 = .ok (.goto 4, 3) := by decide +kernel
theorem em_d12 : decode jdk_42_method_55_code 12 = .ok (.iconst 0, 1) := by decide +kernel
theorem em_d13 : decode jdk_42_method_55_code 13 = .ok (.ireturn, 1) := by decide +kernel
def em_f (w_n : Nat) (w_g : Nat → Int32)  : Int32 :=
  if (w_n).toInt32 = (0 : Int32) then
    (1 : Int32)
  else
    (0 : Int32)
set_option maxRecDepth 65536 in
set_option maxHeartbeats 40000000 in
theorem em_c0 {l : Launch} {Z : State} {a0 : Array Value} {b0 : Addr} {w_t : Addr} {w_n : Nat} {w_g : Nat → Int32} {h0 : Heap} {n0 : Nat} {p : Program} {e : Env} {s : State} {m : MethodId} {args : Array Value} {below : List Frame} {meth : Method} {c : Code} {T0 : State} {locs : List Loc} {r0 : Int32} (C0 : own_Cx p s m meth c Z a0 jdk_42_method_55_code 1 "java/lang/String" "isEmpty" (some .boolean)) (X0 : Stand p l e ({ frames := 0, cells := 0, slots := 0, locals := 0 } : Room) s m args below meth c T0 locs 0 0) (e0 : T0.heap = h0) (N0 : Fr n0 locs)  (Z0 : n0 ≤ h0.size) (P0 : Fld Z h0 b0 "java/lang/String" "value" "[B" (.ref w_t)) (P1 : own_Arf Z h0 w_t .byte w_n (fun i => (.int (w_g i)))) (hr0 : r0 = em_f w_n w_g ) :
    own_Dn p e below s (own_Q (some (.int r0)) n0 h0) ({ frames := 0, cells := 0, slots := 0, locals := 0 } : Room).cells ({ frames := 0, cells := 0, slots := 0, locals := 0 } : Room).slots (T0.setTop (mkF m 0 #[.val (.ref b0)] [])) := by
  obtain ⟨hx, hZ, hw, hby, hml, hown, hret, hlk, hnm⟩ := id C0
  refine own_st (fun _ k => XS.aloadN X0.here hx rfl (hb hby em_d0) rfl rfl k) ?_
  show own_Dn p e below s _ _ _ (T0.setTop (mkF m 1 #[.val (.ref b0)] [(.ref b0)]))
  obtain ⟨T3, X3, e3, st3⟩ := getF X0 hx hZ hown (host := "") (Or.inl (hw _ (List.mem_of_getElem? (i := 32) rfl))) Via.refl e0 P0 (g := (mkF m 1 #[.val (.ref b0)] [(.ref b0)])) rfl rfl (hb hby em_d1)
  refine own_st st3 ?_
  show own_Dn p e below s _ _ _ (T3.setTop (mkF m 4 #[.val (.ref b0)] [(.ref w_t)]))
  refine own_st (own_len (pc := 4) (L := #[.val (.ref b0)]) (rest := []) X3 hx hZ e3 P1 (z := (w_n).toInt32) rfl (hb hby em_d4)) ?_
  show own_Dn p e below s _ _ _ (T3.setTop (mkF m 5 #[.val (.ref b0)] [(.int (w_n).toInt32)]))
  by_cases hc4 : (w_n).toInt32 = (0 : Int32)
  · refine own_st (fun _ k => XS.ifNo X3.here hx rfl (hb hby em_d5) rfl ((if0 _ _).trans (teq hc4).2) k) ?_
    show own_Dn p e below s _ _ _ (T3.setTop (mkF m 8 #[.val (.ref b0)] []))
    refine own_st (fun _ k => XS.iconst X3.here hx rfl (hb hby em_d8) (XS.goto X3.here hx rfl (pc0 := 9) (pc' := 13) rfl (hb hby em_d9) (by decide) (by decide) k)) ?_
    show own_Dn p e below s _ _ _ (T3.setTop (mkF m 13 #[.val (.ref b0)] [(.int (1 : Int32))]))
    exact own_retZ X3 hx hret hlk (by decide) (hb hby em_d13) (by decide) (by decide) ⟨(by rw [hr0, em_f, if_pos hc4]), N0, e3⟩
  · refine own_st (fun _ k => XS.ifYes X3.here hx rfl (pc0 := 5) (pc' := 12) rfl (hb hby em_d5) rfl ((if0 _ _).trans (feq hc4).2) (by decide) (by decide) k) ?_
    show own_Dn p e below s _ _ _ (T3.setTop (mkF m 12 #[.val (.ref b0)] []))
    refine own_st (fun _ k => XS.iconst X3.here hx rfl (hb hby em_d12) k) ?_
    show own_Dn p e below s _ _ _ (T3.setTop (mkF m 13 #[.val (.ref b0)] [(.int (0 : Int32))]))
    exact own_retZ X3 hx hret hlk (by decide) (hb hby em_d13) (by decide) (by decide) ⟨(by rw [hr0, em_f, if_neg hc4]), N0, e3⟩
theorem em_ef (m : MethodId) (b0 : Addr) : entryFrame m #[(.ref b0)] 1 = mkF m 0 #[.val (.ref b0)] [] := by first | (simp [entryFrame, mkF, argsToLocals, Value.category]; done) | rfl
theorem em_rm (l : Launch) (Z : State) (a0 : Array Value) (hw : ∀ d ∈ tables_1, d.before a0 Z = true) (ws : List Jvm.Cond) (b0 : Addr) (w_t : Addr) (w_n : Nat) (w_g : Nat → Int32) (h0 : Heap) (n0 : Nat) (Z0 : n0 ≤ h0.size) (P0 : Fld Z h0 b0 "java/lang/String" "value" "[B" (.ref w_t)) (P1 : own_Arf Z h0 w_t .byte w_n (fun i => (.int (w_g i)))) :
    MetFree l (⟨"java/lang/String", "isEmpty", "()Z"⟩ : MethodName) (head1 (Jvm.Cond.code (⟨"java/lang/String", "isEmpty", "()Z"⟩ : MethodName) jdk_42_method_55_code 1 (some .boolean) :: ws) ({ frames := 0, cells := 0, slots := 0, locals := 0 } : Room)) (fun a U => a = #[(.ref b0)] ∧ Z.Warmed39 U.vm ∧ U.heap = h0) (fun _ _ _ _ _ => True) (fun _ U o U' => ∃ v L, o = .returned v ∧ (own_Q (some (.int (em_f w_n w_g))) n0 h0) v U'.heap L ∧ FrameEnd U o U' L ({ frames := 0, cells := 0, slots := 0, locals := 0 } : Room).cells ({ frames := 0, cells := 0, slots := 0, locals := 0 } : Room).slots) :=
  own_met hw (plainFor_of_name (by first | (simp [plainName, overriddenIn]; done) | decide +kernel)) (fun p e s m below meth c T0 C0 X0 e0 => own_st (fun _ k => castTop (em_ef m b0) k) (em_c0 C0 X0 e0 (Fr.nil n0) Z0 P0 P1 rfl))
theorem fo_d0 : decode prog_63_method_3_code 0 = .ok (.aload_n 0, 1) := by decide +kernel
theorem fo_d1 : decode prog_63_method_3_code 1 = .ok (.getfield 13, 3) := by decide +kernel
theorem fo_d4 : decode prog_63_method_3_code 4 = .ok (.iconst (-1), 1) := by decide +kernel
theorem fo_d5 : decode prog_63_method_3_code 5 = .ok (.if_icmp .ne 17, 3) := by decide +kernel
theorem fo_d8 : decode prog_63_method_3_code 8 = .ok (.aload_n 0, 1) := by decide +kernel
theorem fo_d9 : decode prog_63_method_3_code 9 = .ok (.getfield 17, 3) := by decide +kernel
theorem fo_d12 : decode prog_63_method_3_code 12 = .ok (.invokevirtual 55, 3) := by decide +kernel
theorem fo_d15 : decode prog_63_method_3_code 15 = .ok (.ifCond .eq 7, 3) := by decide +kernel
theorem fo_d18 : decode prog_63_method_3_code 18 = .ok (.iconst 1, 1) := by decide +kernel
theorem fo_d19 : decode prog_63_method_3_code 19 = .ok (.goto 4, 3) := by decide +kernel
theorem fo_d22 : decode prog_63_method_3_code 22 = .ok (.iconst 0, 1) := by decide +kernel
theorem fo_d23 : decode prog_63_method_3_code 23 = .ok (.ireturn, 1) := by decide +kernel
def fo_f (w_i : Int32) (w_n : Nat) (w_g : Nat → Int32)  : Int32 :=
  if w_i = (-1 : Int32) then
    if (em_f w_n w_g) = (0 : Int32) then
      (0 : Int32)
    else
      (1 : Int32)
  else
    (0 : Int32)
set_option maxRecDepth 65536 in
set_option maxHeartbeats 40000000 in
theorem fo_c0 {l : Launch} {Z : State} {a0 : Array Value} {b0 : Addr} {w_i : Int32} {w_m : Addr} {w_t : Addr} {w_n : Nat} {w_g : Nat → Int32} {h0 : Heap} {n0 : Nat} {p : Program} {e : Env} {s : State} {m : MethodId} {args : Array Value} {below : List Frame} {meth : Method} {c : Code} {T0 : State} {locs : List Loc} {r0 : Int32} (C0 : own_Cx p s m meth c Z a0 prog_63_method_3_code 1 "com/example/stierlin/stierlin/protocol/OffsetCommitRequest" "fromOutsideMembership" (some .boolean)) (X0 : Stand p l e ({ frames := 1, cells := 0, slots := 0, locals := 12 } : Room) s m args below meth c T0 locs 0 0) (e0 : T0.heap = h0) (N0 : Fr n0 locs)  (Z0 : n0 ≤ h0.size) (P0 : Fld Z h0 b0 "com/example/stierlin/stierlin/protocol/OffsetCommitRequest" "generationId" "I" (.int w_i)) (P1 : Fld Z h0 b0 "com/example/stierlin/stierlin/protocol/OffsetCommitRequest" "memberId" "Ljava/lang/String;" (.ref w_m)) (P2 : Exa Z h0 w_m "java/lang/String") (P3 : Fld Z h0 w_m "java/lang/String" "value" "[B" (.ref w_t)) (P4 : own_Arf Z h0 w_t .byte w_n (fun i => (.int (w_g i)))) (hr0 : r0 = fo_f w_i w_n w_g ) :
    own_Dn p e below s (own_Q (some (.int r0)) n0 h0) ({ frames := 1, cells := 0, slots := 0, locals := 12 } : Room).cells ({ frames := 1, cells := 0, slots := 0, locals := 12 } : Room).slots (T0.setTop (mkF m 0 #[.val (.ref b0)] [])) := by
  obtain ⟨hx, hZ, hw, hby, hml, hown, hret, hlk, hnm⟩ := id C0
  refine own_st (fun _ k => XS.aloadN X0.here hx rfl (hb hby fo_d0) rfl rfl k) ?_
  show own_Dn p e below s _ _ _ (T0.setTop (mkF m 1 #[.val (.ref b0)] [(.ref b0)]))
  obtain ⟨T6, X6, e6, st6⟩ := getF X0 hx hZ hown (host := "") (Or.inl (hw _ (List.mem_of_getElem? (i := 75) rfl))) Via.refl e0 P0 (g := (mkF m 1 #[.val (.ref b0)] [(.ref b0)])) rfl rfl (hb hby fo_d1)
  refine own_st st6 ?_
  show own_Dn p e below s _ _ _ (T6.setTop (mkF m 4 #[.val (.ref b0)] [(.int w_i)]))
  refine own_st (fun _ k => XS.iconst X6.here hx rfl (hb hby fo_d4) k) ?_
  show own_Dn p e below s _ _ _ (T6.setTop (mkF m 5 #[.val (.ref b0)] [(.int (-1 : Int32)), (.int w_i)]))
  by_cases hc7 : w_i = (-1 : Int32)
  · refine own_st (fun _ k => XS.icmpNo X6.here hx rfl (hb hby fo_d5) rfl (teq hc7).2 k) ?_
    show own_Dn p e below s _ _ _ (T6.setTop (mkF m 8 #[.val (.ref b0)] []))
    refine own_st (fun _ k => XS.aloadN X6.here hx rfl (hb hby fo_d8) rfl rfl k) ?_
    show own_Dn p e below s _ _ _ (T6.setTop (mkF m 9 #[.val (.ref b0)] [(.ref b0)]))
    obtain ⟨T8, X8, e8, st8⟩ := getF X6 hx hZ hown (host := "") (Or.inl (hw _ (List.mem_of_getElem? (i := 77) rfl))) Via.refl e6 P1 (g := (mkF m 9 #[.val (.ref b0)] [(.ref b0)])) rfl rfl (hb hby fo_d9)
    refine own_st st8 ?_
    show own_Dn p e below s _ _ _ (T8.setTop (mkF m 12 #[.val (.ref b0)] [(.ref w_m)]))
    obtain ⟨cq9, kq9, q9a, q9b, q9c⟩ := isOf hZ e8 P2
    obtain ⟨_, _, ⟨T9, L9, k9, n9⟩, -, X9, ⟨Lc9, hQ9, l9, y9, z9⟩, st9⟩ := X8.virtualBack hx (y := (⟨"java/lang/String", "isEmpty", "()Z"⟩ : MethodName)) (z := (⟨"java/lang/String", "isEmpty", "()Z"⟩ : MethodName)) hown (mvT hZ (hw _ (List.mem_of_getElem? (i := 88) rfl))) (mvT hZ (hw _ (List.mem_of_getElem? (i := 89) rfl))) (notFace_of_selects (args := #[]) (mvT hZ (hw _ (List.mem_of_getElem? (i := 91) rfl)))) (mvT hZ (hw _ (List.mem_of_getElem? (i := 91) rfl))) (mvT hZ (hw _ (List.mem_of_getElem? (i := 90) rfl))) (by decide) (backOf (W := 0) (em_rm l Z a0 hw [] (w_m) (w_t) (w_n) (w_g) h0 n0 Z0 P3 P4) hZ (hw _ (List.mem_of_getElem? (i := 92) rfl)) (hw _ (List.mem_of_getElem? (i := 6) rfl)) (by decide) (by decide)) q9a q9c (g := (mkF m 12 #[.val (.ref b0)] [(.ref w_m)])) rfl (by rw [hml]; rfl) (Steps.refl _) (argsL := []) (rest := []) (lenOf own_pd1 rfl) rfl (by show 2 * 0 + _ ≤ _; exact Nat.le_of_eq rfl) (hb hby fo_d12) (fun _ _ => ⟨rfl, e8, (by decide : 0 + 0 ≤ _), (by decide : 0 + 0 ≤ _)⟩)
    dsimp only [Pt.U, Pt.locs, Pt.cells, Pt.slots] at X9 l9 y9 z9 st9 hQ9
    subst l9 y9 z9
    obtain ⟨rfl, N9q, e9⟩ := hQ9
    have N9 := Fr.app N0 N9q
    refine own_tr st9 ?_
    show own_Dn p e below s _ _ _ (T9.setTop (mkF m 15 #[.val (.ref b0)] [(.int (em_f w_n w_g))]))
    by_cases hc10 : (em_f w_n w_g) = (0 : Int32)
    · refine own_st (fun _ k => XS.ifYes X9.here hx rfl (pc0 := 15) (pc' := 22) rfl (hb hby fo_d15) rfl ((if0 _ _).trans (teq hc10).1) (by decide) (by decide) k) ?_
      show own_Dn p e below s _ _ _ (T9.setTop (mkF m 22 #[.val (.ref b0)] []))
      refine own_st (fun _ k => XS.iconst X9.here hx rfl (hb hby fo_d22) k) ?_
      show own_Dn p e below s _ _ _ (T9.setTop (mkF m 23 #[.val (.ref b0)] [(.int (0 : Int32))]))
      exact own_retZ X9 hx hret hlk (by decide) (hb hby fo_d23) (by decide) (by decide) ⟨(by rw [hr0, fo_f, if_pos hc7, if_pos hc10]), N9, e9⟩
    · refine own_st (fun _ k => XS.ifNo X9.here hx rfl (hb hby fo_d15) rfl ((if0 _ _).trans (feq hc10).1) k) ?_
      show own_Dn p e below s _ _ _ (T9.setTop (mkF m 18 #[.val (.ref b0)] []))
      refine own_st (fun _ k => XS.iconst X9.here hx rfl (hb hby fo_d18) (XS.goto X9.here hx rfl (pc0 := 19) (pc' := 23) rfl (hb hby fo_d19) (by decide) (by decide) k)) ?_
      show own_Dn p e below s _ _ _ (T9.setTop (mkF m 23 #[.val (.ref b0)] [(.int (1 : Int32))]))
      exact own_retZ X9 hx hret hlk (by decide) (hb hby fo_d23) (by decide) (by decide) ⟨(by rw [hr0, fo_f, if_pos hc7, if_neg hc10]), N9, e9⟩
  · refine own_st (fun _ k => XS.icmpYes X6.here hx rfl (pc0 := 5) (pc' := 22) rfl (hb hby fo_d5) rfl (feq hc7).2 (by decide) (by decide) k) ?_
    show own_Dn p e below s _ _ _ (T6.setTop (mkF m 22 #[.val (.ref b0)] []))
    refine own_st (fun _ k => XS.iconst X6.here hx rfl (hb hby fo_d22) k) ?_
    show own_Dn p e below s _ _ _ (T6.setTop (mkF m 23 #[.val (.ref b0)] [(.int (0 : Int32))]))
    exact own_retZ X6 hx hret hlk (by decide) (hb hby fo_d23) (by decide) (by decide) ⟨(by rw [hr0, fo_f, if_neg hc7]), N0, e6⟩
theorem fo_ef (m : MethodId) (b0 : Addr) : entryFrame m #[(.ref b0)] 1 = mkF m 0 #[.val (.ref b0)] [] := by first | (simp [entryFrame, mkF, argsToLocals, Value.category]; done) | rfl
theorem fo_rm (l : Launch) (Z : State) (a0 : Array Value) (hw : ∀ d ∈ tables_1, d.before a0 Z = true) (ws : List Jvm.Cond) (b0 : Addr) (w_i : Int32) (w_m : Addr) (w_t : Addr) (w_n : Nat) (w_g : Nat → Int32) (h0 : Heap) (n0 : Nat) (Z0 : n0 ≤ h0.size) (P0 : Fld Z h0 b0 "com/example/stierlin/stierlin/protocol/OffsetCommitRequest" "generationId" "I" (.int w_i)) (P1 : Fld Z h0 b0 "com/example/stierlin/stierlin/protocol/OffsetCommitRequest" "memberId" "Ljava/lang/String;" (.ref w_m)) (P2 : Exa Z h0 w_m "java/lang/String") (P3 : Fld Z h0 w_m "java/lang/String" "value" "[B" (.ref w_t)) (P4 : own_Arf Z h0 w_t .byte w_n (fun i => (.int (w_g i)))) :
    MetFree l (⟨"com/example/stierlin/stierlin/protocol/OffsetCommitRequest", "fromOutsideMembership", "()Z"⟩ : MethodName) (head1 (Jvm.Cond.code (⟨"com/example/stierlin/stierlin/protocol/OffsetCommitRequest", "fromOutsideMembership", "()Z"⟩ : MethodName) prog_63_method_3_code 1 (some .boolean) :: ws) ({ frames := 1, cells := 0, slots := 0, locals := 12 } : Room)) (fun a U => a = #[(.ref b0)] ∧ Z.Warmed39 U.vm ∧ U.heap = h0) (fun _ _ _ _ _ => True) (fun _ U o U' => ∃ v L, o = .returned v ∧ (own_Q (some (.int (fo_f w_i w_n w_g))) n0 h0) v U'.heap L ∧ FrameEnd U o U' L ({ frames := 1, cells := 0, slots := 0, locals := 12 } : Room).cells ({ frames := 1, cells := 0, slots := 0, locals := 12 } : Room).slots) :=
  own_met hw (plainFor_of_name (by first | (simp [plainName, overriddenIn]; done) | decide +kernel)) (fun p e s m below meth c T0 C0 X0 e0 => own_st (fun _ k => castTop (fo_ef m b0) k) (fo_c0 C0 X0 e0 (Fr.nil n0) Z0 P0 P1 P2 P3 P4 rfl))
theorem iz_d0 : decode jdk_42_method_149_code 0 = .ok (.aload_n 0, 1) := by decide +kernel
theorem iz_d1 : decode jdk_42_method_149_code 1 = .ok (.invokespecial 1, 3) := by decide +kernel
theorem iz_d4 : decode jdk_42_method_149_code 4 = .ok (.iload_n 3, 1) := by decide +kernel
theorem iz_d5 : decode jdk_42_method_149_code 5 = .ok (.ifCond .ne 22, 3) := by decide +kernel
theorem iz_d8 : decode jdk_42_method_149_code 8 = .ok (.aload_n 0, 1) := by decide +kernel
theorem iz_d9 : decode jdk_42_method_149_code 9 = .ok (.ldc 7, 2) := by decide +kernel
theorem iz_d11 : decode jdk_42_method_149_code 11 = .ok (.getfield 9, 3) := by decide +kernel
theorem iz_d14 : decode jdk_42_method_149_code 14 = .ok (.putfield 9, 3) := by decide +kernel
theorem iz_d17 : decode jdk_42_method_149_code 17 = .ok (.aload_n 0, 1) := by decide +kernel
theorem iz_d18 : decode jdk_42_method_149_code 18 = .ok (.ldc 7, 2) := by decide +kernel
theorem iz_d20 : decode jdk_42_method_149_code 20 = .ok (.getfield 15, 3) := by decide +kernel
theorem iz_d23 : decode jdk_42_method_149_code 23 = .ok (.putfield 15, 3) := by decide +kernel
theorem iz_d26 : decode jdk_42_method_149_code 26 = .ok (.return_, 1) := by decide +kernel
set_option maxRecDepth 65536 in
set_option maxHeartbeats 40000000 in
theorem iz_c0 {l : Launch} {Z : State} {a0 : Array Value} {b0 : Addr} {b1 : Addr} {h0 : Heap} {n0 : Nat} {p : Program} {e : Env} {s : State} {m : MethodId} {args : Array Value} {below : List Frame} {meth : Method} {c : Code} {T0 : State} {locs : List Loc} (C0 : own_Cx p s m meth c Z a0 jdk_42_method_149_code 6 "java/lang/String" "<init>" none) (X0 : Stand p l e ({ frames := 1, cells := 4, slots := 8, locals := 12 } : Room) s m args below meth c T0 locs 0 0) (e0 : T0.heap = h0) (N0 : Fr n0 locs) (C1 : CHv Z own_EL s.vm h0) (Z0 : n0 ≤ h0.size) (P0 : Exa Z h0 b0 "java/lang/String") (P1 : Fld Z h0 b0 "java/lang/String" "value" "[B" .null) (P2 : Fld Z h0 b0 "java/lang/String" "coder" "B" (.int (0 : Int32))) (ge_b0 : n0 ≤ b0) :
    own_DW p e below s (fun v h vm L => (own_Q0 Z b0 h0 n0) v h L ∧ CHr Z own_EL s.vm h0 vm h) ({ frames := 1, cells := 4, slots := 8, locals := 12 } : Room).cells ({ frames := 1, cells := 4, slots := 8, locals := 12 } : Room).slots (T0.setTop (mkF m 0 #[.val (.ref b0), .val (.ref b1), .val (.int (0 : Int32)), .val (.int (0 : Int32)), .val .null, .unset] [])) := by
  obtain ⟨hx, hZ, hw, hby, hml, hown, hret, hlk, hnm⟩ := id C0
  have SF0 : Safe Z own_EL s.vm h0 b0 := own_safe hZ.alike P0 P1
  refine own_stW (fun _ k => XS.aloadN X0.here hx rfl (hb hby iz_d0) rfl rfl k) ?_
  show own_DW p e below s _ _ _ (T0.setTop (mkF m 1 #[.val (.ref b0), .val (.ref b1), .val (.int (0 : Int32)), .val (.int (0 : Int32)), .val .null, .unset] [(.ref b0)]))
  obtain ⟨T49, X49, e49, st49⟩ := initO X0 hx hZ hown (hw _ (List.mem_of_getElem? (i := 15) rfl)) (hw _ (List.mem_of_getElem? (i := 16) rfl)) (hw _ (List.mem_of_getElem? (i := 17) rfl)) e0 (g := (mkF m 1 #[.val (.ref b0), .val (.ref b1), .val (.int (0 : Int32)), .val (.int (0 : Int32)), .val .null, .unset] [(.ref b0)])) rfl (by rw [hml]; rfl) rfl (hb hby iz_d1) (by decide) (W := 0) (by show 2 * 0 + _ ≤ _; exact Nat.le_of_eq rfl) (by decide)
  refine own_stW st49 ?_
  show own_DW p e below s _ _ _ (T49.setTop (mkF m 4 #[.val (.ref b0), .val (.ref b1), .val (.int (0 : Int32)), .val (.int (0 : Int32)), .val .null, .unset] []))
  refine own_stW (fun _ k => XS.iloadN X49.here hx rfl (hb hby iz_d4) rfl k) ?_
  show own_DW p e below s _ _ _ (T49.setTop (mkF m 5 #[.val (.ref b0), .val (.ref b1), .val (.int (0 : Int32)), .val (.int (0 : Int32)), .val .null, .unset] [(.int (0 : Int32))]))
  refine own_stW (fun _ k => XS.ifNo X49.here hx rfl (hb hby iz_d5) rfl ((if0 _ _).trans (teq (by decide : (0 : Int32) = (0 : Int32))).2) k) ?_
  show own_DW p e below s _ _ _ (T49.setTop (mkF m 8 #[.val (.ref b0), .val (.ref b1), .val (.int (0 : Int32)), .val (.int (0 : Int32)), .val .null, .unset] []))
  refine own_stW (fun _ k => XS.aloadN X49.here hx rfl (hb hby iz_d8) rfl rfl k) ?_
  show own_DW p e below s _ _ _ (T49.setTop (mkF m 9 #[.val (.ref b0), .val (.ref b1), .val (.int (0 : Int32)), .val (.int (0 : Int32)), .val .null, .unset] [(.ref b0)]))
  obtain ⟨a9, T50, h50, k50, t9, c50, X50, e50, E50, hS50, hk50, hZ, hown, A50, C50, V50, R50, -, -, CR50, -, NE50, st50⟩ := ldcCH (s := s) (vm0 := s.vm) X49 hx hZ hown (hw _ (List.mem_of_getElem? (i := 93) rfl)) (own_wS hw) e49 (own_since0 s) (Nat.zero_le _) (own_hEL hw) (List.mem_of_getElem? (i := 0) rfl) (CHr.refl C1).1 (text := "") (vs := []) (z := 0) ⟨by decide, rfl⟩ (by decide) (by decide) (g := (mkF m 9 #[.val (.ref b0), .val (.ref b1), .val (.int (0 : Int32)), .val (.int (0 : Int32)), .val .null, .unset] [(.ref b0)])) rfl (hb hby iz_d9) (n := 0) (by decide) (by decide) (by decide) (by decide)
  have F51 : n0 ≤ h50.size := Nat.le_trans Z0 E50.1
  have F52 : Exa Z h50 b0 "java/lang/String" := P0.ext E50
  have F53 : Fld Z h50 b0 "java/lang/String" "value" "[B" .null := P1.ext E50
  have F54 : Fld Z h50 b0 "java/lang/String" "coder" "B" (.int (0 : Int32)) := P2.ext E50
  have F55 : Keep h0 h50 [b0] := (Keep.refl h0 [b0]).ext E50
  have F56 : Safe Z own_EL T50.vm h50 b0 := CR50.safe P0.lt SF0
  refine own_stW st50 ?_
  show own_DW p e below s _ _ _ (T50.setTop (mkF m 11 #[.val (.ref b0), .val (.ref b1), .val (.int (0 : Int32)), .val (.int (0 : Int32)), .val .null, .unset] [(.ref a9), (.ref b0)]))
  obtain ⟨T57, X57, e57, st57⟩ := getF X50 hx hZ hown (host := "") (Or.inl (hw _ (List.mem_of_getElem? (i := 32) rfl))) Via.refl e50 V50 (g := (mkF m 11 #[.val (.ref b0), .val (.ref b1), .val (.int (0 : Int32)), .val (.int (0 : Int32)), .val .null, .unset] [(.ref a9), (.ref b0)])) rfl rfl (hb hby iz_d11)
  refine own_stW st57 ?_
  show own_DW p e below s _ _ _ (T57.setTop (mkF m 14 #[.val (.ref b0), .val (.ref b1), .val (.int (0 : Int32)), .val (.int (0 : Int32)), .val .null, .unset] [(.ref t9), (.ref b0)]))
  obtain ⟨T58, h58, X58, e58, W58, st58⟩ := putF X57 hx hZ hown (host := "") (Or.inl (hw _ (List.mem_of_getElem? (i := 32) rfl))) Via.refl e57 F53 F52 (Or.inr ⟨(hw _ (List.mem_of_getElem? (i := 33) rfl)), rfl, hnm⟩) (hw _ (List.mem_of_getElem? (i := 5) rfl)) (ty := (.array .byte)) (v := (.ref t9)) (by decide) rfl rfl (g := (mkF m 14 #[.val (.ref b0), .val (.ref b1), .val (.int (0 : Int32)), .val (.int (0 : Int32)), .val .null, .unset] [(.ref t9), (.ref b0)])) rfl rfl (hb hby iz_d14)
  have N58 := Fr.snoc X58 N0 ge_b0
  have F59 : n0 ≤ h58.size := Nat.le_trans F51 (Keep.of_wr W58).1
  have F60 : Exa Z h58 b0 "java/lang/String" := F52.wr W58
  have F61 : Fld Z h58 b0 "java/lang/String" "value" "[B" (.ref t9) := F53.same W58
  have F62 : Fld Z h58 b0 "java/lang/String" "coder" "B" (.int (0 : Int32)) := F54.other W58 (Or.inr (slot_ne (Or.inr (hw _ (List.mem_of_getElem? (i := 31) rfl))) (Or.inr (hw _ (List.mem_of_getElem? (i := 33) rfl))) (by decide) (t := .byte) (t' := (.array .byte)) (by decide) (by decide)))
  have F63 : Keep h0 h58 [b0] := F55.wr W58 (Or.inl (List.mem_of_getElem? (i := 0) rfl))
  have F64 : CHr Z own_EL s.vm h0 T50.vm h58 := ((CHr.refl C1).trans CR50).trans (CHr.wr W58 F56 ((CHr.refl C1).trans CR50).1)
  have F65 : Safe Z own_EL T50.vm h58 b0 := Safe.wr W58 F56 ((CHr.refl C1).trans CR50).1 F56
  have F66 : k50 ≤ h58.size := Nat.le_trans hk50 (Keep.of_wr W58).1
  have F67 : Exa Z h58 a9 "java/lang/String" := A50.wr W58
  have F68 : Fld Z h58 a9 "java/lang/String" "coder" "B" (.int (0 : Int32)) := C50.other W58 (Or.inl (Ne.symm (NE50 _ F56).1))
  have F69 : Fld Z h58 a9 "java/lang/String" "value" "[B" (.ref t9) := V50.other W58 (Or.inl (Ne.symm (NE50 _ F56).1))
  have F70 : own_Arf Z h58 t9 .byte 0 (fun i => (.int ((fun _ => (0 : Int32)) i))) := (own_arf0 R50).other W58 (Ne.symm (NE50 _ F56).2)
  refine own_stW st58 ?_
  show own_DW p e below s _ _ _ (T58.setTop (mkF m 17 #[.val (.ref b0), .val (.ref b1), .val (.int (0 : Int32)), .val (.int (0 : Int32)), .val .null, .unset] []))
  refine own_stW (fun _ k => XS.aloadN X58.here hx rfl (hb hby iz_d17) rfl rfl k) ?_
  show own_DW p e below s _ _ _ (T58.setTop (mkF m 18 #[.val (.ref b0), .val (.ref b1), .val (.int (0 : Int32)), .val (.int (0 : Int32)), .val .null, .unset] [(.ref b0)]))
  obtain ⟨a18, T71, h71, k71, t18, c71, X71, e71, E71, hS71, hk71, hZ, hown, A71, C71, V71, R71, -, -, CR71, -, NE71, st71⟩ := ldcCH (s := s) (vm0 := T50.vm) X58 hx hZ hown (hw _ (List.mem_of_getElem? (i := 93) rfl)) (own_wS hw) e58 hS50 F66 (own_hEL hw) (List.mem_of_getElem? (i := 0) rfl) F64.1 (text := "") (vs := []) (z := 0) ⟨by decide, rfl⟩ (by decide) (by decide) (g := (mkF m 18 #[.val (.ref b0), .val (.ref b1), .val (.int (0 : Int32)), .val (.int (0 : Int32)), .val .null, .unset] [(.ref b0)])) rfl (hb hby iz_d18) (n := 0) (by decide) (by decide) (by decide) (by decide)
  have F72 : n0 ≤ h71.size := Nat.le_trans F59 E71.1
  have F73 : Exa Z h71 b0 "java/lang/String" := F60.ext E71
  have F74 : Fld Z h71 b0 "java/lang/String" "value" "[B" (.ref t9) := F61.ext E71
  have F75 : Fld Z h71 b0 "java/lang/String" "coder" "B" (.int (0 : Int32)) := F62.ext E71
  have F76 : Keep h0 h71 [b0] := F63.ext E71
  have F77 : Safe Z own_EL T71.vm h71 b0 := CR71.safe F60.lt F65
  have F78 : Exa Z h71 a9 "java/lang/String" := F67.ext E71
  have F79 : Fld Z h71 a9 "java/lang/String" "coder" "B" (.int (0 : Int32)) := F68.ext E71
  have F80 : Fld Z h71 a9 "java/lang/String" "value" "[B" (.ref t9) := F69.ext E71
  have F81 : own_Arf Z h71 t9 .byte 0 (fun i => (.int ((fun _ => (0 : Int32)) i))) := F70.ext E71
  refine own_stW st71 ?_
  show own_DW p e below s _ _ _ (T71.setTop (mkF m 20 #[.val (.ref b0), .val (.ref b1), .val (.int (0 : Int32)), .val (.int (0 : Int32)), .val .null, .unset] [(.ref a18), (.ref b0)]))
  obtain ⟨T82, X82, e82, st82⟩ := getF X71 hx hZ hown (host := "") (Or.inl (hw _ (List.mem_of_getElem? (i := 30) rfl))) Via.refl e71 C71 (g := (mkF m 20 #[.val (.ref b0), .val (.ref b1), .val (.int (0 : Int32)), .val (.int (0 : Int32)), .val .null, .unset] [(.ref a18), (.ref b0)])) rfl rfl (hb hby iz_d20)
  refine own_stW st82 ?_
  show own_DW p e below s _ _ _ (T82.setTop (mkF m 23 #[.val (.ref b0), .val (.ref b1), .val (.int (0 : Int32)), .val (.int (0 : Int32)), .val .null, .unset] [(.int (0 : Int32)), (.ref b0)]))
  obtain ⟨T83, h83, X83, e83, W83, st83⟩ := putF X82 hx hZ hown (host := "") (Or.inl (hw _ (List.mem_of_getElem? (i := 30) rfl))) Via.refl e82 F75 F73 (Or.inr ⟨(hw _ (List.mem_of_getElem? (i := 31) rfl)), rfl, hnm⟩) (hw _ (List.mem_of_getElem? (i := 5) rfl)) (ty := .byte) (v := (.int (0 : Int32))) (by decide) (by decide) (by decide) (g := (mkF m 23 #[.val (.ref b0), .val (.ref b1), .val (.int (0 : Int32)), .val (.int (0 : Int32)), .val .null, .unset] [(.int (0 : Int32)), (.ref b0)])) rfl rfl (hb hby iz_d23)
  have N83 := Fr.snoc X83 N58 ge_b0
  have F84 : n0 ≤ h83.size := Nat.le_trans F72 (Keep.of_wr W83).1
  have F85 : Exa Z h83 b0 "java/lang/String" := F73.wr W83
  have F86 : Fld Z h83 b0 "java/lang/String" "value" "[B" (.ref t9) := F74.other W83 (Or.inr (slot_ne (Or.inr (hw _ (List.mem_of_getElem? (i := 33) rfl))) (Or.inr (hw _ (List.mem_of_getElem? (i := 31) rfl))) (by decide) (t := (.array .byte)) (t' := .byte) (by decide) (by decide)))
  have F87 : Fld Z h83 b0 "java/lang/String" "coder" "B" (.int (0 : Int32)) := F75.same W83
  have F88 : Keep h0 h83 [b0] := F76.wr W83 (Or.inl (List.mem_of_getElem? (i := 0) rfl))
  have F89 : CHr Z own_EL s.vm h0 T71.vm h83 := (F64.trans CR71).trans (CHr.wr W83 F77 (F64.trans CR71).1)
  have F90 : Safe Z own_EL T71.vm h83 b0 := Safe.wr W83 F77 (F64.trans CR71).1 F77
  have F91 : own_Arf Z h83 t9 .byte 0 (fun i => (.int ((fun _ => (0 : Int32)) i))) := F81.other W83 (Ne.symm (NE50 _ F56).2)
  have F92 : k71 ≤ h83.size := Nat.le_trans hk71 (Keep.of_wr W83).1
  have F93 : Exa Z h83 a18 "java/lang/String" := A71.wr W83
  have F94 : Fld Z h83 a18 "java/lang/String" "coder" "B" (.int (0 : Int32)) := C71.other W83 (Or.inl (Ne.symm (NE71 _ F77).1))
  have F95 : Fld Z h83 a18 "java/lang/String" "value" "[B" (.ref t18) := V71.other W83 (Or.inl (Ne.symm (NE71 _ F77).1))
  have F96 : own_Arf Z h83 t18 .byte 0 (fun i => (.int ((fun _ => (0 : Int32)) i))) := (own_arf0 R71).other W83 (Ne.symm (NE71 _ F77).2)
  refine own_stW st83 ?_
  show own_DW p e below s _ _ _ (T83.setTop (mkF m 26 #[.val (.ref b0), .val (.ref b1), .val (.int (0 : Int32)), .val (.int (0 : Int32)), .val .null, .unset] []))
  have eqH : T83.heap = h83 := e83
  have crH := F89.trans (CHv.at (s := s) (vm0 := T71.vm) X83 hZ (own_hEL hw) F89.1)
  exact own_retVW (s := s) (vm0 := T71.vm) X83 hS71 (own_hk eqH F92) hx hret hlk (hb hby iz_d26) (by decide) (by decide) (by rw [eqH]; exact ⟨⟨rfl, N83, F88, ⟨F85, _, _, F86, F91⟩⟩, crH⟩)
theorem iz_ef (m : MethodId) (b0 : Addr) (b1 : Addr) : entryFrame m #[(.ref b0), (.ref b1), (.int (0 : Int32)), (.int (0 : Int32)), .null] 6 = mkF m 0 #[.val (.ref b0), .val (.ref b1), .val (.int (0 : Int32)), .val (.int (0 : Int32)), .val .null, .unset] [] := by first | (simp [entryFrame, mkF, argsToLocals, Value.category]; done) | rfl
theorem iz_rm (l : Launch) (Z : State) (a0 : Array Value) (hw : ∀ d ∈ tables_1, d.before a0 Z = true) (ws : List Jvm.Cond) (b0 : Addr) (b1 : Addr) (h0 : Heap) (n0 : Nat) (Z0 : n0 ≤ h0.size) (P0 : Exa Z h0 b0 "java/lang/String") (P1 : Fld Z h0 b0 "java/lang/String" "value" "[B" .null) (P2 : Fld Z h0 b0 "java/lang/String" "coder" "B" (.int (0 : Int32))) (ge_b0 : n0 ≤ b0) :
    MetFree l (⟨"java/lang/String", "<init>", "([CIILjava/lang/Void;)V"⟩ : MethodName) (head1 (Jvm.Cond.code (⟨"java/lang/String", "<init>", "([CIILjava/lang/Void;)V"⟩ : MethodName) jdk_42_method_149_code 6 none :: ws) ({ frames := 1, cells := 4, slots := 8, locals := 12 } : Room)) (fun a U => a = #[(.ref b0), (.ref b1), (.int (0 : Int32)), (.int (0 : Int32)), .null] ∧ Z.Warmed39 U.vm ∧ U.heap = h0 ∧ CHv Z own_EL U.vm h0) (fun _ _ _ _ _ => True) (fun _ U o U' => ∃ v L, o = .returned v ∧ (own_Q0 Z b0 h0 n0) v U'.heap L ∧ CHr Z own_EL U.vm U.heap U'.vm U'.heap ∧ ReturnedEndW U o U' L ({ frames := 1, cells := 4, slots := 8, locals := 12 } : Room).cells ({ frames := 1, cells := 4, slots := 8, locals := 12 } : Room).slots) :=
  own_metW hw (plainFor_of_name (by first | (simp [plainName, overriddenIn]; done) | decide +kernel)) (fun p e s m below meth c T0 C0 X0 e0 C1 => own_stW (fun _ k => castTop (iz_ef m b0 b1) k) (iz_c0 C0 X0 e0 (Fr.nil n0) C1 Z0 P0 P1 P2 ge_b0))
theorem jz_d0 : decode jdk_42_method_3_code 0 = .ok (.aload_n 0, 1) := by decide +kernel
theorem jz_d1 : decode jdk_42_method_3_code 1 = .ok (.aload_n 1, 1) := by decide +kernel
theorem jz_d2 : decode jdk_42_method_3_code 2 = .ok (.iconst 0, 1) := by decide +kernel
theorem jz_d3 : decode jdk_42_method_3_code 3 = .ok (.aload_n 1, 1) := by decide +kernel
theorem jz_d4 : decode jdk_42_method_3_code 4 = .ok (.arraylength, 1) := by decide +kernel
theorem jz_d5 : decode jdk_42_method_3_code 5 = .ok (.aconst_null, 1) := by decide +kernel
theorem jz_d6 : decode jdk_42_method_3_code 6 = .ok (.invokespecial 27, 3) := by decide +kernel
theorem jz_d9 : decode jdk_42_method_3_code 9 = .ok (.return_, 1) := by decide +kernel
set_option maxRecDepth 65536 in
set_option maxHeartbeats 40000000 in
theorem jz_c0 {l : Launch} {Z : State} {a0 : Array Value} {b0 : Addr} {b1 : Addr} {w_g : Nat → Int32} {h0 : Heap} {n0 : Nat} {p : Program} {e : Env} {s : State} {m : MethodId} {args : Array Value} {below : List Frame} {meth : Method} {c : Code} {T0 : State} {locs : List Loc} (C0 : own_Cx p s m meth c Z a0 jdk_42_method_3_code 2 "java/lang/String" "<init>" none) (X0 : Stand p l e ({ frames := 2, cells := 4, slots := 8, locals := 29 } : Room) s m args below meth c T0 locs 0 0) (e0 : T0.heap = h0) (N0 : Fr n0 locs) (C1 : CHv Z own_EL s.vm h0) (Z0 : n0 ≤ h0.size) (P0 : Exa Z h0 b0 "java/lang/String") (P1 : Fld Z h0 b0 "java/lang/String" "value" "[B" .null) (P2 : Fld Z h0 b0 "java/lang/String" "coder" "B" (.int (0 : Int32))) (P3 : own_Arf Z h0 b1 .char 0 (fun i => (.int (w_g i)))) (ge_b0 : n0 ≤ b0) :
    own_DW p e below s (fun v h vm L => (own_Q0 Z b0 h0 n0) v h L ∧ CHr Z own_EL s.vm h0 vm h) ({ frames := 2, cells := 4, slots := 8, locals := 29 } : Room).cells ({ frames := 2, cells := 4, slots := 8, locals := 29 } : Room).slots (T0.setTop (mkF m 0 #[.val (.ref b0), .val (.ref b1)] [])) := by
  obtain ⟨hx, hZ, hw, hby, hml, hown, hret, hlk, hnm⟩ := id C0
  refine own_stW (fun _ k => XS.aloadN X0.here hx rfl (hb hby jz_d0) rfl rfl (XS.aloadN X0.here hx rfl (hb hby jz_d1) rfl rfl (XS.iconst X0.here hx rfl (hb hby jz_d2) (XS.aloadN X0.here hx rfl (hb hby jz_d3) rfl rfl k)))) ?_
  show own_DW p e below s _ _ _ (T0.setTop (mkF m 4 #[.val (.ref b0), .val (.ref b1)] [(.ref b1), (.int (0 : Int32)), (.ref b1), (.ref b0)]))
  refine own_stW (own_len (pc := 4) (L := #[.val (.ref b0), .val (.ref b1)]) (rest := [(.int (0 : Int32)), (.ref b1), (.ref b0)]) X0 hx hZ e0 P3 (z := (0 : Int32)) rfl (hb hby jz_d4)) ?_
  show own_DW p e below s _ _ _ (T0.setTop (mkF m 5 #[.val (.ref b0), .val (.ref b1)] [(.int (0 : Int32)), (.int (0 : Int32)), (.ref b1), (.ref b0)]))
  refine own_stW (fun _ k => XS.aconstNull X0.here hx rfl (hb hby jz_d5) k) ?_
  show own_DW p e below s _ _ _ (T0.setTop (mkF m 6 #[.val (.ref b0), .val (.ref b1)] [.null, (.int (0 : Int32)), (.int (0 : Int32)), (.ref b1), (.ref b0)]))
  obtain ⟨_, _, ⟨T2, L2, k2, n2⟩, -, Xq2, h22, gr2, ⟨Lc2, hQ2, l2, y2, z2, CR2⟩, st2⟩ := Stand.specialBackS (s := s.setVm s.vm) X0 hx (y := (⟨"java/lang/String", "<init>", "([CIILjava/lang/Void;)V"⟩ : MethodName)) rfl hown (mvT (s := s.setVm s.vm) hZ (hw _ (List.mem_of_getElem? (i := 11) rfl))) (mvT (s := s.setVm s.vm) hZ (hw _ (List.mem_of_getElem? (i := 12) rfl))) (mvT (s := s.setVm s.vm) hZ (hw _ (List.mem_of_getElem? (i := 14) rfl))) (by decide) (backOfSH (s := s) (vm0 := s.vm) (W := 0) (iz_rm l Z a0 hw [] (b0) (b1) h0 n0 Z0 P0 P1 P2 ge_b0) hZ (hw _ (List.mem_of_getElem? (i := 14) rfl)) (hw _ (List.mem_of_getElem? (i := 6) rfl)) (by decide) (by decide) (own_hEL hw) (CHr.refl C1).1) (g := (mkF m 6 #[.val (.ref b0), .val (.ref b1)] [.null, (.int (0 : Int32)), (.int (0 : Int32)), (.ref b1), (.ref b0)])) rfl (by rw [hml]; rfl) (Steps.refl _) (a := b0) (argsL := [(.ref b1), (.int (0 : Int32)), (.int (0 : Int32)), .null]) (rest := []) (lenOf own_pd2 rfl) rfl (by show 2 * 0 + _ ≤ _; exact Nat.le_of_eq rfl) (hb hby jz_d6) (fun _ _ => ⟨rfl, e0, (by decide : 0 + 4 ≤ _), (by decide : 0 + 8 ≤ _)⟩)
  dsimp only [Pt.U, Pt.locs, Pt.cells, Pt.slots] at Xq2 h22 gr2 l2 y2 z2 st2 hQ2 CR2
  subst l2 y2 z2
  obtain ⟨rfl, N2q, K2, S2⟩ := hQ2
  obtain ⟨X2, hS2, hZ, hown⟩ := rebS (own_since0 s) (own_hk (show T0.heap = h0 from e0) (Nat.zero_le _)) Xq2 h22 gr2 hZ hown
  have N2 := Fr.app N0 N2q
  have K2k := (Keep.refl h0 [b0]).trans K2 (allS (Or.inl (List.mem_of_getElem? (i := 0) rfl)) all0)
  refine own_trW st2 ?_
  show own_DW p e below s _ _ _ (T2.setTop (mkF m 9 #[.val (.ref b0), .val (.ref b1)] []))
  have eqH : T2.heap = T2.heap := rfl
  have crH := ((CHr.refl C1).trans CR2).trans (CHv.at (s := s) (vm0 := T2.vm) X2 hZ (own_hEL hw) ((CHr.refl C1).trans CR2).1)
  exact own_retVW (s := s) (vm0 := T2.vm) X2 hS2 (own_hk eqH (Nat.le_refl _)) hx hret hlk (hb hby jz_d9) (by decide) (by decide) (by rw [eqH]; exact ⟨⟨rfl, N2, K2k, S2⟩, crH⟩)
theorem jz_ef (m : MethodId) (b0 : Addr) (b1 : Addr) : entryFrame m #[(.ref b0), (.ref b1)] 2 = mkF m 0 #[.val (.ref b0), .val (.ref b1)] [] := by first | (simp [entryFrame, mkF, argsToLocals, Value.category]; done) | rfl
theorem jz_rm (l : Launch) (Z : State) (a0 : Array Value) (hw : ∀ d ∈ tables_1, d.before a0 Z = true) (ws : List Jvm.Cond) (b0 : Addr) (b1 : Addr) (w_g : Nat → Int32) (h0 : Heap) (n0 : Nat) (Z0 : n0 ≤ h0.size) (P0 : Exa Z h0 b0 "java/lang/String") (P1 : Fld Z h0 b0 "java/lang/String" "value" "[B" .null) (P2 : Fld Z h0 b0 "java/lang/String" "coder" "B" (.int (0 : Int32))) (P3 : own_Arf Z h0 b1 .char 0 (fun i => (.int (w_g i)))) (ge_b0 : n0 ≤ b0) :
    MetFree l (⟨"java/lang/String", "<init>", "([C)V"⟩ : MethodName) (head1 (Jvm.Cond.code (⟨"java/lang/String", "<init>", "([C)V"⟩ : MethodName) jdk_42_method_3_code 2 none :: ws) ({ frames := 2, cells := 4, slots := 8, locals := 29 } : Room)) (fun a U => a = #[(.ref b0), (.ref b1)] ∧ Z.Warmed39 U.vm ∧ U.heap = h0 ∧ CHv Z own_EL U.vm h0) (fun _ _ _ _ _ => True) (fun _ U o U' => ∃ v L, o = .returned v ∧ (own_Q0 Z b0 h0 n0) v U'.heap L ∧ CHr Z own_EL U.vm U.heap U'.vm U'.heap ∧ ReturnedEndW U o U' L ({ frames := 2, cells := 4, slots := 8, locals := 29 } : Room).cells ({ frames := 2, cells := 4, slots := 8, locals := 29 } : Room).slots) :=
  own_metW hw (plainFor_of_name (by first | (simp [plainName, overriddenIn]; done) | decide +kernel)) (fun p e s m below meth c T0 C0 X0 e0 C1 => own_stW (fun _ k => castTop (jz_ef m b0 b1) k) (jz_c0 C0 X0 e0 (Fr.nil n0) C1 Z0 P0 P1 P2 P3 ge_b0))
theorem mz_d0 : decode method_3_code 0 = .ok (.iload_n 0, 1) := by decide +kernel
theorem mz_d1 : decode method_3_code 1 = .ok (.ifCond .ne 14, 3) := by decide +kernel
theorem mz_d4 : decode method_3_code 4 = .ok (.new 27, 3) := by decide +kernel
theorem mz_d7 : decode method_3_code 7 = .ok (.dup, 1) := by decide +kernel
theorem mz_d8 : decode method_3_code 8 = .ok (.iconst 0, 1) := by decide +kernel
theorem mz_d9 : decode method_3_code 9 = .ok (.newarray .char, 2) := by decide +kernel
theorem mz_d11 : decode method_3_code 11 = .ok (.invokespecial 29, 3) := by decide +kernel
theorem mz_d14 : decode method_3_code 14 = .ok (.areturn, 1) := by decide +kernel
set_option maxRecDepth 65536 in
set_option maxHeartbeats 40000000 in
theorem mz_c0 {l : Launch} {Z : State} {a0 : Array Value} {p1 : Int32} {p2 : Int32} {p3 : Int32} {h0 : Heap} {n0 : Nat} {p : Program} {e : Env} {s : State} {m : MethodId} {args : Array Value} {below : List Frame} {meth : Method} {c : Code} {T0 : State} {locs : List Loc} (C0 : own_Cx p s m meth c Z a0 method_3_code 4 "com/example/stierlin/stierlin/protocol/OffsetCommitRequestFromOutsideMembershipPinLaw" "make" (some (.object "java/lang/String"))) (X0 : Stand p l e ({ frames := 3, cells := 6, slots := 12, locals := 43 } : Room) s m args below meth c T0 locs 0 0) (e0 : T0.heap = h0) (N0 : Fr n0 locs) (C1 : CHv Z own_EL s.vm h0) (Z0 : n0 ≤ h0.size) :
    own_DW p e below s (fun v h vm L => (own_QM Z own_S0 h0 n0) v h L ∧ CHr Z own_EL s.vm h0 vm h) ({ frames := 3, cells := 6, slots := 12, locals := 43 } : Room).cells ({ frames := 3, cells := 6, slots := 12, locals := 43 } : Room).slots (T0.setTop (mkF m 0 #[.val (.int (0 : Int32)), .val (.int p1), .val (.int p2), .val (.int p3)] [])) := by
  obtain ⟨hx, hZ, hw, hby, hml, hown, hret, hlk, hnm⟩ := id C0
  refine own_stW (fun _ k => XS.iloadN X0.here hx rfl (hb hby mz_d0) rfl k) ?_
  show own_DW p e below s _ _ _ (T0.setTop (mkF m 1 #[.val (.int (0 : Int32)), .val (.int p1), .val (.int p2), .val (.int p3)] [(.int (0 : Int32))]))
  refine own_stW (fun _ k => XS.ifNo X0.here hx rfl (hb hby mz_d1) rfl ((if0 _ _).trans (teq (by decide : (0 : Int32) = (0 : Int32))).2) k) ?_
  show own_DW p e below s _ _ _ (T0.setTop (mkF m 4 #[.val (.int (0 : Int32)), .val (.int p1), .val (.int p2), .val (.int p3)] []))
  obtain ⟨T23, h23, X23, e23, E23, A23, D23, -, st23⟩ := newO X0 hx hZ hown (hw _ (List.mem_of_getElem? (i := 4) rfl)) (hw _ (List.mem_of_getElem? (i := 5) rfl)) (hw _ (List.mem_of_getElem? (i := 6) rfl)) e0 (g := (mkF m 4 #[.val (.int (0 : Int32)), .val (.int p1), .val (.int p2), .val (.int p3)] [])) rfl (hb hby mz_d4) (by decide) (by decide)
  obtain ⟨o4, g23⟩ : ∃ z, z = h0.size := ⟨_, rfl⟩
  rw [← g23] at A23 D23 st23
  have ge24 : n0 ≤ o4 := Nat.le_trans Z0 (Nat.le_of_eq g23.symm)
  have gh25 : h0.size ≤ o4 := Nat.le_trans (Keep.refl h0 []).1 (Nat.le_of_eq g23.symm)
  have F26 : n0 ≤ h23.size := Nat.le_trans Z0 E23.1
  have F27 : Keep h0 h23 [] := (Keep.refl h0 []).ext E23
  have F28 : 0 ≤ h23.size := Nat.le_trans (Nat.zero_le _) E23.1
  have F29 : CHr Z own_EL s.vm h0 s.vm h23 := (CHr.refl C1).trans (CHr.ext E23 (CHr.refl C1).1)
  have F30 : Fld Z h23 o4 "java/lang/String" "coder" "B" (.int (0 : Int32)) := D23 (Or.inr (hw _ (List.mem_of_getElem? (i := 31) rfl))) (ty := .byte) (by decide)
  have F31 : Fld Z h23 o4 "java/lang/String" "value" "[B" .null := D23 (Or.inr (hw _ (List.mem_of_getElem? (i := 33) rfl))) (ty := (.array .byte)) (by decide)
  refine own_stW st23 ?_
  show own_DW p e below s _ _ _ (T23.setTop (mkF m 7 #[.val (.int (0 : Int32)), .val (.int p1), .val (.int p2), .val (.int p3)] [(.ref o4)]))
  refine own_stW (fun _ k => XS.dup X23.here hx rfl (hb hby mz_d7) rfl rfl (XS.iconst X23.here hx rfl (hb hby mz_d8) k)) ?_
  show own_DW p e below s _ _ _ (T23.setTop (mkF m 9 #[.val (.int (0 : Int32)), .val (.int p1), .val (.int p2), .val (.int p3)] [(.int (0 : Int32)), (.ref o4), (.ref o4)]))
  obtain ⟨T32, h32, cA32, X32, e32, E32, A32, st32⟩ := newP X23 hx hZ (aty := .char) (hw _ (List.mem_of_getElem? (i := 7) rfl)) e23 (g := (mkF m 9 #[.val (.int (0 : Int32)), .val (.int p1), .val (.int p2), .val (.int p3)] [(.int (0 : Int32)), (.ref o4), (.ref o4)])) rfl (hb hby mz_d9) (n := (0 : Int32)) rfl (by decide) (cap := 0) (by decide) (by decide) (by decide) (by decide)
  obtain ⟨o9, g32⟩ : ∃ z, z = h23.size := ⟨_, rfl⟩
  rw [← g32] at A32 st32
  have ne33 : o4 ≠ o9 := Nat.ne_of_lt (Nat.lt_of_lt_of_le A23.lt (Nat.le_of_eq g32.symm))
  have ge34 : n0 ≤ o9 := Nat.le_trans F26 (Nat.le_of_eq g32.symm)
  have gh35 : h0.size ≤ o9 := Nat.le_trans F27.1 (Nat.le_of_eq g32.symm)
  have F36 : n0 ≤ h32.size := Nat.le_trans F26 E32.1
  have F37 : Keep h0 h32 [] := F27.ext E32
  have F38 : 0 ≤ h32.size := Nat.le_trans F28 E32.1
  have F39 : CHr Z own_EL s.vm h0 s.vm h32 := F29.trans (CHr.ext E32 F29.1)
  have F40 : Exa Z h32 o4 "java/lang/String" := A23.ext E32
  have F41 : Fld Z h32 o4 "java/lang/String" "coder" "B" (.int (0 : Int32)) := F30.ext E32
  have F42 : Fld Z h32 o4 "java/lang/String" "value" "[B" .null := F31.ext E32
  have F43 : own_Arf Z h32 o9 .char 0 (fun i => (.int ((fun _ => (0 : Int32)) i))) := own_Arf.new A32 (by decide) (by decide)
  refine own_stW st32 ?_
  show own_DW p e below s _ _ _ (T32.setTop (mkF m 11 #[.val (.int (0 : Int32)), .val (.int p1), .val (.int p2), .val (.int p3)] [(.ref o9), (.ref o4), (.ref o4)]))
  obtain ⟨_, _, ⟨T44, L44, k44, n44⟩, -, Xq44, h244, gr44, ⟨Lc44, hQ44, l44, y44, z44, CR44⟩, st44⟩ := Stand.specialBackS (s := s.setVm s.vm) X32 hx (y := (⟨"java/lang/String", "<init>", "([C)V"⟩ : MethodName)) rfl hown (mvT (s := s.setVm s.vm) hZ (hw _ (List.mem_of_getElem? (i := 8) rfl))) (mvT (s := s.setVm s.vm) hZ (hw _ (List.mem_of_getElem? (i := 9) rfl))) (mvT (s := s.setVm s.vm) hZ (hw _ (List.mem_of_getElem? (i := 10) rfl))) (by decide) (backOfSH (s := s) (vm0 := s.vm) (W := 1) (jz_rm l Z a0 hw [] (o4) (o9) ((fun _ => (0 : Int32))) h32 n0 F36 F40 F42 F41 F43 ge24) hZ (hw _ (List.mem_of_getElem? (i := 10) rfl)) (hw _ (List.mem_of_getElem? (i := 6) rfl)) (by decide) (by decide) (own_hEL hw) F39.1) (g := (mkF m 11 #[.val (.int (0 : Int32)), .val (.int p1), .val (.int p2), .val (.int p3)] [(.ref o9), (.ref o4), (.ref o4)])) rfl (by rw [hml]; rfl) (Steps.refl _) (a := o4) (argsL := [(.ref o9)]) (rest := [(.ref o4)]) (lenOf own_pd3 rfl) rfl (by show 2 * 0 + _ ≤ _; exact Nat.le_of_eq rfl) (hb hby mz_d11) (fun _ _ => ⟨rfl, e32, (by decide : 2 + 4 ≤ _), (by decide : 4 + 8 ≤ _)⟩)
  dsimp only [Pt.U, Pt.locs, Pt.cells, Pt.slots] at Xq44 h244 gr44 l44 y44 z44 st44 hQ44 CR44
  subst l44 y44 z44
  obtain ⟨rfl, N44q, K44, S44⟩ := hQ44
  obtain ⟨X44, hS44, hZ, hown⟩ := rebS (own_since0 s) (own_hk (show T32.heap = h32 from e32) F38) Xq44 h244 gr44 hZ hown
  have N44 := Fr.app N0 N44q
  have K44k := F37.trans K44 (allS (Or.inr gh25) all0)
  refine own_trW st44 ?_
  show own_DW p e below s _ _ _ (T44.setTop (mkF m 14 #[.val (.int (0 : Int32)), .val (.int p1), .val (.int p2), .val (.int p3)] [(.ref o4)]))
  have eqH : T44.heap = T44.heap := rfl
  have crH := (F39.trans CR44).trans (CHv.at (s := s) (vm0 := T44.vm) X44 hZ (own_hEL hw) (F39.trans CR44).1)
  exact own_retAW (s := s) (vm0 := T44.vm) X44 hS44 (own_hk eqH (Nat.le_refl _)) hx rfl hret hlk rfl rfl (hb hby mz_d14) (by decide) (by decide) (by rw [eqH]; exact ⟨⟨o4, rfl, N44, K44k, S44⟩, crH⟩)
theorem mz_ef (m : MethodId) (p1 : Int32) (p2 : Int32) (p3 : Int32) : entryFrame m #[(.int (0 : Int32)), (.int p1), (.int p2), (.int p3)] 4 = mkF m 0 #[.val (.int (0 : Int32)), .val (.int p1), .val (.int p2), .val (.int p3)] [] := by first | (simp [entryFrame, mkF, argsToLocals, Value.category]; done) | rfl
theorem mz_rm (l : Launch) (Z : State) (a0 : Array Value) (hw : ∀ d ∈ tables_1, d.before a0 Z = true) (ws : List Jvm.Cond) (p1 : Int32) (p2 : Int32) (p3 : Int32) (h0 : Heap) (n0 : Nat) (Z0 : n0 ≤ h0.size) :
    MetFree l (⟨"com/example/stierlin/stierlin/protocol/OffsetCommitRequestFromOutsideMembershipPinLaw", "make", "(ICCC)Ljava/lang/String;"⟩ : MethodName) (head1 (Jvm.Cond.code (⟨"com/example/stierlin/stierlin/protocol/OffsetCommitRequestFromOutsideMembershipPinLaw", "make", "(ICCC)Ljava/lang/String;"⟩ : MethodName) method_3_code 4 (some (.object "java/lang/String")) :: ws) ({ frames := 3, cells := 6, slots := 12, locals := 43 } : Room)) (fun a U => a = #[(.int (0 : Int32)), (.int p1), (.int p2), (.int p3)] ∧ Z.Warmed39 U.vm ∧ U.heap = h0 ∧ CHv Z own_EL U.vm h0) (fun _ _ _ _ _ => True) (fun _ U o U' => ∃ v L, o = .returned v ∧ (own_QM Z own_S0 h0 n0) v U'.heap L ∧ CHr Z own_EL U.vm U.heap U'.vm U'.heap ∧ ReturnedEndW U o U' L ({ frames := 3, cells := 6, slots := 12, locals := 43 } : Room).cells ({ frames := 3, cells := 6, slots := 12, locals := 43 } : Room).slots) :=
  own_metW hw (plainFor_of_name (by first | (simp [plainName, overriddenIn]; done) | decide +kernel)) (fun p e s m below meth c T0 C0 X0 e0 C1 => own_stW (fun _ k => castTop (mz_ef m p1 p2 p3) k) (mz_c0 C0 X0 e0 (Fr.nil n0) C1 Z0 ))
theorem mk_d0 : decode method_3_code 0 = .ok (.iload_n 0, 1) := by decide +kernel
theorem mk_d1 : decode method_3_code 1 = .ok (.ifCond .ne 14, 3) := by decide +kernel
theorem mk_d15 : decode method_3_code 15 = .ok (.iload_n 0, 1) := by decide +kernel
theorem mk_d16 : decode method_3_code 16 = .ok (.iconst 1, 1) := by decide +kernel
theorem mk_d17 : decode method_3_code 17 = .ok (.if_icmp .ne 18, 3) := by decide +kernel
theorem mk_d20 : decode method_3_code 20 = .ok (.new 27, 3) := by decide +kernel
theorem mk_d23 : decode method_3_code 23 = .ok (.dup, 1) := by decide +kernel
theorem mk_d24 : decode method_3_code 24 = .ok (.iconst 1, 1) := by decide +kernel
theorem mk_d25 : decode method_3_code 25 = .ok (.newarray .char, 2) := by decide +kernel
theorem mk_d27 : decode method_3_code 27 = .ok (.dup, 1) := by decide +kernel
theorem mk_d28 : decode method_3_code 28 = .ok (.iconst 0, 1) := by decide +kernel
theorem mk_d29 : decode method_3_code 29 = .ok (.iload_n 1, 1) := by decide +kernel
theorem mk_d30 : decode method_3_code 30 = .ok (.castore, 1) := by decide +kernel
theorem mk_d31 : decode method_3_code 31 = .ok (.invokespecial 29, 3) := by decide +kernel
theorem mk_d34 : decode method_3_code 34 = .ok (.areturn, 1) := by decide +kernel
theorem mk_d35 : decode method_3_code 35 = .ok (.iload_n 0, 1) := by decide +kernel
theorem mk_d36 : decode method_3_code 36 = .ok (.iconst 2, 1) := by decide +kernel
theorem mk_d37 : decode method_3_code 37 = .ok (.if_icmp .ne 22, 3) := by decide +kernel
theorem mk_d40 : decode method_3_code 40 = .ok (.new 27, 3) := by decide +kernel
theorem mk_d43 : decode method_3_code 43 = .ok (.dup, 1) := by decide +kernel
theorem mk_d44 : decode method_3_code 44 = .ok (.iconst 2, 1) := by decide +kernel
theorem mk_d45 : decode method_3_code 45 = .ok (.newarray .char, 2) := by decide +kernel
theorem mk_d47 : decode method_3_code 47 = .ok (.dup, 1) := by decide +kernel
theorem mk_d48 : decode method_3_code 48 = .ok (.iconst 0, 1) := by decide +kernel
theorem mk_d49 : decode method_3_code 49 = .ok (.iload_n 1, 1) := by decide +kernel
theorem mk_d50 : decode method_3_code 50 = .ok (.castore, 1) := by decide +kernel
theorem mk_d51 : decode method_3_code 51 = .ok (.dup, 1) := by decide +kernel
theorem mk_d52 : decode method_3_code 52 = .ok (.iconst 1, 1) := by decide +kernel
theorem mk_d53 : decode method_3_code 53 = .ok (.iload_n 2, 1) := by decide +kernel
theorem mk_d54 : decode method_3_code 54 = .ok (.castore, 1) := by decide +kernel
theorem mk_d55 : decode method_3_code 55 = .ok (.invokespecial 29, 3) := by decide +kernel
theorem mk_d58 : decode method_3_code 58 = .ok (.areturn, 1) := by decide +kernel
theorem mk_d59 : decode method_3_code 59 = .ok (.new 27, 3) := by decide +kernel
theorem mk_d62 : decode method_3_code 62 = .ok (.dup, 1) := by decide +kernel
theorem mk_d63 : decode method_3_code 63 = .ok (.iconst 3, 1) := by decide +kernel
theorem mk_d64 : decode method_3_code 64 = .ok (.newarray .char, 2) := by decide +kernel
theorem mk_d66 : decode method_3_code 66 = .ok (.dup, 1) := by decide +kernel
theorem mk_d67 : decode method_3_code 67 = .ok (.iconst 0, 1) := by decide +kernel
theorem mk_d68 : decode method_3_code 68 = .ok (.iload_n 1, 1) := by decide +kernel
theorem mk_d69 : decode method_3_code 69 = .ok (.castore, 1) := by decide +kernel
theorem mk_d70 : decode method_3_code 70 = .ok (.dup, 1) := by decide +kernel
theorem mk_d71 : decode method_3_code 71 = .ok (.iconst 1, 1) := by decide +kernel
theorem mk_d72 : decode method_3_code 72 = .ok (.iload_n 2, 1) := by decide +kernel
theorem mk_d73 : decode method_3_code 73 = .ok (.castore, 1) := by decide +kernel
theorem mk_d74 : decode method_3_code 74 = .ok (.dup, 1) := by decide +kernel
theorem mk_d75 : decode method_3_code 75 = .ok (.iconst 2, 1) := by decide +kernel
theorem mk_d76 : decode method_3_code 76 = .ok (.iload_n 3, 1) := by decide +kernel
theorem mk_d77 : decode method_3_code 77 = .ok (.castore, 1) := by decide +kernel
theorem mk_d78 : decode method_3_code 78 = .ok (.invokespecial 29, 3) := by decide +kernel
theorem mk_d81 : decode method_3_code 81 = .ok (.areturn, 1) := by decide +kernel
set_option maxRecDepth 65536 in
set_option maxHeartbeats 40000000 in
theorem mk_c0 {l : Launch} {Z : State} {a0 : Array Value} {p0 : Int32} {p1 : Int32} {p2 : Int32} {p3 : Int32} {w_z : Int32} {h0 : Heap} {n0 : Nat} {p : Program} {e : Env} {s : State} {m : MethodId} {args : Array Value} {below : List Frame} {meth : Method} {c : Code} {T0 : State} {locs : List Loc} (C0 : own_Cx p s m meth c Z a0 method_3_code 4 "com/example/stierlin/stierlin/protocol/OffsetCommitRequestFromOutsideMembershipPinLaw" "make" (some (.object "java/lang/String"))) (X0 : Stand p l e ({ frames := 4, cells := 3, slots := 10, locals := 66 } : Room) s m args below meth c T0 locs 0 0) (e0 : T0.heap = h0) (N0 : Fr n0 locs) (Z0 : n0 ≤ h0.size) (P0 : Sta Z h0 "java/lang/String" "COMPACT_STRINGS" "Z" (.int w_z)) (hnz : ¬ (p0 = (0 : Int32))) (hwz : ¬ w_z = (0 : Int32)) (hch : own_255 p1 ∧ own_255 p2 ∧ own_255 p3) :
    own_Dn p e below s (own_QM Z own_S1 h0 n0) ({ frames := 4, cells := 3, slots := 10, locals := 66 } : Room).cells ({ frames := 4, cells := 3, slots := 10, locals := 66 } : Room).slots (T0.setTop (mkF m 0 #[.val (.int p0), .val (.int p1), .val (.int p2), .val (.int p3)] [])) := by
  obtain ⟨hx, hZ, hw, hby, hml, hown, hret, hlk, hnm⟩ := id C0
  refine own_st (fun _ k => XS.iloadN X0.here hx rfl (hb hby mk_d0) rfl k) ?_
  show own_Dn p e below s _ _ _ (T0.setTop (mkF m 1 #[.val (.int p0), .val (.int p1), .val (.int p2), .val (.int p3)] [(.int p0)]))
  refine own_st (fun _ k => XS.ifYes X0.here hx rfl (pc0 := 1) (pc' := 15) rfl (hb hby mk_d1) rfl ((if0 _ _).trans (feq hnz).2) (by decide) (by decide) k) ?_
  show own_Dn p e below s _ _ _ (T0.setTop (mkF m 15 #[.val (.int p0), .val (.int p1), .val (.int p2), .val (.int p3)] []))
  refine own_st (fun _ k => XS.iloadN X0.here hx rfl (hb hby mk_d15) rfl (XS.iconst X0.here hx rfl (hb hby mk_d16) k)) ?_
  show own_Dn p e below s _ _ _ (T0.setTop (mkF m 17 #[.val (.int p0), .val (.int p1), .val (.int p2), .val (.int p3)] [(.int (1 : Int32)), (.int p0)]))
  by_cases hc105 : p0 = (1 : Int32)
  · refine own_st (fun _ k => XS.icmpNo X0.here hx rfl (hb hby mk_d17) rfl (teq hc105).2 k) ?_
    show own_Dn p e below s _ _ _ (T0.setTop (mkF m 20 #[.val (.int p0), .val (.int p1), .val (.int p2), .val (.int p3)] []))
    obtain ⟨T106, h106, X106, e106, E106, A106, D106, -, st106⟩ := newO X0 hx hZ hown (hw _ (List.mem_of_getElem? (i := 4) rfl)) (hw _ (List.mem_of_getElem? (i := 5) rfl)) (hw _ (List.mem_of_getElem? (i := 6) rfl)) e0 (g := (mkF m 20 #[.val (.int p0), .val (.int p1), .val (.int p2), .val (.int p3)] [])) rfl (hb hby mk_d20) (by decide) (by decide)
    obtain ⟨o20, g106⟩ : ∃ z, z = h0.size := ⟨_, rfl⟩
    rw [← g106] at A106 D106 st106
    have ge107 : n0 ≤ o20 := Nat.le_trans Z0 (Nat.le_of_eq g106.symm)
    have gh108 : h0.size ≤ o20 := Nat.le_trans (Keep.refl h0 []).1 (Nat.le_of_eq g106.symm)
    have F109 : n0 ≤ h106.size := Nat.le_trans Z0 E106.1
    have F110 : Sta Z h106 "java/lang/String" "COMPACT_STRINGS" "Z" (.int w_z) := P0.ext E106
    have F111 : Keep h0 h106 [] := (Keep.refl h0 []).ext E106
    have F112 : Fld Z h106 o20 "java/lang/String" "coder" "B" (.int (0 : Int32)) := D106 (Or.inr (hw _ (List.mem_of_getElem? (i := 31) rfl))) (ty := .byte) (by decide)
    have F113 : Fld Z h106 o20 "java/lang/String" "value" "[B" .null := D106 (Or.inr (hw _ (List.mem_of_getElem? (i := 33) rfl))) (ty := (.array .byte)) (by decide)
    refine own_st st106 ?_
    show own_Dn p e below s _ _ _ (T106.setTop (mkF m 23 #[.val (.int p0), .val (.int p1), .val (.int p2), .val (.int p3)] [(.ref o20)]))
    refine own_st (fun _ k => XS.dup X106.here hx rfl (hb hby mk_d23) rfl rfl (XS.iconst X106.here hx rfl (hb hby mk_d24) k)) ?_
    show own_Dn p e below s _ _ _ (T106.setTop (mkF m 25 #[.val (.int p0), .val (.int p1), .val (.int p2), .val (.int p3)] [(.int (1 : Int32)), (.ref o20), (.ref o20)]))
    obtain ⟨T114, h114, cA114, X114, e114, E114, A114, st114⟩ := newP X106 hx hZ (aty := .char) (hw _ (List.mem_of_getElem? (i := 7) rfl)) e106 (g := (mkF m 25 #[.val (.int p0), .val (.int p1), .val (.int p2), .val (.int p3)] [(.int (1 : Int32)), (.ref o20), (.ref o20)])) rfl (hb hby mk_d25) (n := (1 : Int32)) rfl (by decide) (cap := 1) (by decide) (by decide) (by decide) (by decide)
    obtain ⟨o25, g114⟩ : ∃ z, z = h106.size := ⟨_, rfl⟩
    rw [← g114] at A114 st114
    have ne115 : o20 ≠ o25 := Nat.ne_of_lt (Nat.lt_of_lt_of_le A106.lt (Nat.le_of_eq g114.symm))
    have ge116 : n0 ≤ o25 := Nat.le_trans F109 (Nat.le_of_eq g114.symm)
    have gh117 : h0.size ≤ o25 := Nat.le_trans F111.1 (Nat.le_of_eq g114.symm)
    have F118 : n0 ≤ h114.size := Nat.le_trans F109 E114.1
    have F119 : Sta Z h114 "java/lang/String" "COMPACT_STRINGS" "Z" (.int w_z) := F110.ext E114
    have F120 : Keep h0 h114 [] := F111.ext E114
    have F121 : Exa Z h114 o20 "java/lang/String" := A106.ext E114
    have F122 : Fld Z h114 o20 "java/lang/String" "coder" "B" (.int (0 : Int32)) := F112.ext E114
    have F123 : Fld Z h114 o20 "java/lang/String" "value" "[B" .null := F113.ext E114
    have F124 : own_Arf Z h114 o25 .char 1 (fun i => (.int ((fun _ => (0 : Int32)) i))) := own_Arf.new A114 (by decide) (by decide)
    refine own_st st114 ?_
    show own_Dn p e below s _ _ _ (T114.setTop (mkF m 27 #[.val (.int p0), .val (.int p1), .val (.int p2), .val (.int p3)] [(.ref o25), (.ref o20), (.ref o20)]))
    refine own_st (fun _ k => XS.dup X114.here hx rfl (hb hby mk_d27) rfl rfl (XS.iconst X114.here hx rfl (hb hby mk_d28) (XS.iloadN X114.here hx rfl (hb hby mk_d29) rfl k))) ?_
    show own_Dn p e below s _ _ _ (T114.setTop (mkF m 30 #[.val (.int p0), .val (.int p1), .val (.int p2), .val (.int p3)] [(.int p1), (.int (0 : Int32)), (.ref o25), (.ref o25), (.ref o20), (.ref o20)]))
    obtain ⟨T125, h125, X125, e125, W125, F125a, st125⟩ := own_stC (pc := 30) (L := #[.val (.int p0), .val (.int p1), .val (.int p2), .val (.int p3)]) (rest := [(.ref o25), (.ref o20), (.ref o20)]) X114 hx hZ e114 F124 (j := (0 : Int32)) (x := p1) (by decide) (by decide) (hb hby mk_d30)
    have N125 := Fr.snoc X125 N0 ge116
    have F126 : n0 ≤ h125.size := Nat.le_trans F118 (Keep.of_wr W125).1
    have F127 : Sta Z h125 "java/lang/String" "COMPACT_STRINGS" "Z" (.int w_z) := F119.wr W125
    have F128 : Keep h0 h125 [] := F120.wr W125 (Or.inr gh117)
    have F129 : Exa Z h125 o20 "java/lang/String" := F121.wr W125
    have F130 : Fld Z h125 o20 "java/lang/String" "coder" "B" (.int (0 : Int32)) := F122.other W125 (Or.inl ne115)
    have F131 : Fld Z h125 o20 "java/lang/String" "value" "[B" .null := F123.other W125 (Or.inl ne115)
    refine own_st st125 ?_
    show own_Dn p e below s _ _ _ (T125.setTop (mkF m 31 #[.val (.int p0), .val (.int p1), .val (.int p2), .val (.int p3)] [(.ref o25), (.ref o20), (.ref o20)]))
    have hm132 : ∀ x ∈ ([p1] : List Int32), own_255 x := by
      intro x hx'
      simp only [List.mem_cons, List.not_mem_nil, or_false] at hx'
      rcases hx' with rfl
      · exact hch.1
    have hg132 : ∀ i, i < 1 → (own_upd (fun _ => (0 : Int32)) ((0 : Int32)).toNatClampNeg (nar .char p1)) i = ([p1] : List Int32).getD i 0 := by
      intro i hi
      have hi' : i = 0 := by omega
      rcases hi' with rfl
      all_goals simp only [own_upd]
      all_goals first | exact own_nar hch.1 | exact own_nar hch.2.1 | exact own_nar hch.2.2
    obtain ⟨kC132, AV132⟩ := own_arvC (n := 1) (cs := [p1]) F125a rfl hg132 hm132
    obtain ⟨_, _, ⟨T132, L132, k132, n132⟩, -, X132, ⟨Lc132, hQ132, l132, y132, z132⟩, st132⟩ := X125.specialBack hx (y := (⟨"java/lang/String", "<init>", "([C)V"⟩ : MethodName)) rfl hown (mvT hZ (hw _ (List.mem_of_getElem? (i := 8) rfl))) (mvT hZ (hw _ (List.mem_of_getElem? (i := 9) rfl))) (mvT hZ (hw _ (List.mem_of_getElem? (i := 10) rfl))) (by decide) (StrChars.Road.backV (W := 1) hZ (own_hws hw) (kI := 4) (hw _ (List.mem_of_getElem? (i := 5) rfl)) (cs := [p1]) (bs := [p1.toInt8.toInt32]) (n := 1) ge107 F126 F129 F131 F130 AV132 F127 hwz rfl rfl (by decide) (by decide) (fun x hx' => own_lat (hm132 x hx')) rfl (by decide) (by decide)) (g := (mkF m 31 #[.val (.int p0), .val (.int p1), .val (.int p2), .val (.int p3)] [(.ref o25), (.ref o20), (.ref o20)])) rfl (by rw [hml]; rfl) (Steps.refl _) (a := o20) (argsL := [(.ref o25)]) (rest := [(.ref o20)]) (lenOf own_pd3 rfl) rfl (by show 2 * 0 + _ ≤ _; exact Nat.le_of_eq rfl) (hb hby mk_d31) (fun _ _ => ⟨rfl, e125, (by decide : 2 + 1 ≤ _), (by decide : 5 + 1 ≤ _)⟩)
    dsimp only [Pt.U, Pt.locs, Pt.cells, Pt.slots] at X132 l132 y132 z132 st132 hQ132
    subst l132 y132 z132
    obtain ⟨rfl, N132q, K132, E132, -, t132, kb132, -, -, -, V132, A132⟩ := hQ132
    have N132 := Fr.app N125 N132q
    have K132k := F128.trans K132 (allS (Or.inr gh108) all0)
    have S132 : own_S1 Z T132.heap o20 := ⟨E132, t132, 1, _, by decide, V132, own_arfB A132 (by decide) (by decide)⟩
    refine own_tr st132 ?_
    show own_Dn p e below s _ _ _ (T132.setTop (mkF m 34 #[.val (.int p0), .val (.int p1), .val (.int p2), .val (.int p3)] [(.ref o20)]))
    have eqH : T132.heap = T132.heap := rfl
    exact own_retA X132 hx rfl hret hlk rfl rfl (hb hby mk_d34) (by decide) (by decide) (by rw [eqH]; exact ⟨o20, rfl, N132, K132k, S132⟩)
  · refine own_st (fun _ k => XS.icmpYes X0.here hx rfl (pc0 := 17) (pc' := 35) rfl (hb hby mk_d17) rfl (feq hc105).2 (by decide) (by decide) k) ?_
    show own_Dn p e below s _ _ _ (T0.setTop (mkF m 35 #[.val (.int p0), .val (.int p1), .val (.int p2), .val (.int p3)] []))
    refine own_st (fun _ k => XS.iloadN X0.here hx rfl (hb hby mk_d35) rfl (XS.iconst X0.here hx rfl (hb hby mk_d36) k)) ?_
    show own_Dn p e below s _ _ _ (T0.setTop (mkF m 37 #[.val (.int p0), .val (.int p1), .val (.int p2), .val (.int p3)] [(.int (2 : Int32)), (.int p0)]))
    by_cases hc133 : p0 = (2 : Int32)
    · refine own_st (fun _ k => XS.icmpNo X0.here hx rfl (hb hby mk_d37) rfl (teq hc133).2 k) ?_
      show own_Dn p e below s _ _ _ (T0.setTop (mkF m 40 #[.val (.int p0), .val (.int p1), .val (.int p2), .val (.int p3)] []))
      obtain ⟨T134, h134, X134, e134, E134, A134, D134, -, st134⟩ := newO X0 hx hZ hown (hw _ (List.mem_of_getElem? (i := 4) rfl)) (hw _ (List.mem_of_getElem? (i := 5) rfl)) (hw _ (List.mem_of_getElem? (i := 6) rfl)) e0 (g := (mkF m 40 #[.val (.int p0), .val (.int p1), .val (.int p2), .val (.int p3)] [])) rfl (hb hby mk_d40) (by decide) (by decide)
      obtain ⟨o40, g134⟩ : ∃ z, z = h0.size := ⟨_, rfl⟩
      rw [← g134] at A134 D134 st134
      have ge135 : n0 ≤ o40 := Nat.le_trans Z0 (Nat.le_of_eq g134.symm)
      have gh136 : h0.size ≤ o40 := Nat.le_trans (Keep.refl h0 []).1 (Nat.le_of_eq g134.symm)
      have F137 : n0 ≤ h134.size := Nat.le_trans Z0 E134.1
      have F138 : Sta Z h134 "java/lang/String" "COMPACT_STRINGS" "Z" (.int w_z) := P0.ext E134
      have F139 : Keep h0 h134 [] := (Keep.refl h0 []).ext E134
      have F140 : Fld Z h134 o40 "java/lang/String" "coder" "B" (.int (0 : Int32)) := D134 (Or.inr (hw _ (List.mem_of_getElem? (i := 31) rfl))) (ty := .byte) (by decide)
      have F141 : Fld Z h134 o40 "java/lang/String" "value" "[B" .null := D134 (Or.inr (hw _ (List.mem_of_getElem? (i := 33) rfl))) (ty := (.array .byte)) (by decide)
      refine own_st st134 ?_
      show own_Dn p e below s _ _ _ (T134.setTop (mkF m 43 #[.val (.int p0), .val (.int p1), .val (.int p2), .val (.int p3)] [(.ref o40)]))
      refine own_st (fun _ k => XS.dup X134.here hx rfl (hb hby mk_d43) rfl rfl (XS.iconst X134.here hx rfl (hb hby mk_d44) k)) ?_
      show own_Dn p e below s _ _ _ (T134.setTop (mkF m 45 #[.val (.int p0), .val (.int p1), .val (.int p2), .val (.int p3)] [(.int (2 : Int32)), (.ref o40), (.ref o40)]))
      obtain ⟨T142, h142, cA142, X142, e142, E142, A142, st142⟩ := newP X134 hx hZ (aty := .char) (hw _ (List.mem_of_getElem? (i := 7) rfl)) e134 (g := (mkF m 45 #[.val (.int p0), .val (.int p1), .val (.int p2), .val (.int p3)] [(.int (2 : Int32)), (.ref o40), (.ref o40)])) rfl (hb hby mk_d45) (n := (2 : Int32)) rfl (by decide) (cap := 2) (by decide) (by decide) (by decide) (by decide)
      obtain ⟨o45, g142⟩ : ∃ z, z = h134.size := ⟨_, rfl⟩
      rw [← g142] at A142 st142
      have ne143 : o40 ≠ o45 := Nat.ne_of_lt (Nat.lt_of_lt_of_le A134.lt (Nat.le_of_eq g142.symm))
      have ge144 : n0 ≤ o45 := Nat.le_trans F137 (Nat.le_of_eq g142.symm)
      have gh145 : h0.size ≤ o45 := Nat.le_trans F139.1 (Nat.le_of_eq g142.symm)
      have F146 : n0 ≤ h142.size := Nat.le_trans F137 E142.1
      have F147 : Sta Z h142 "java/lang/String" "COMPACT_STRINGS" "Z" (.int w_z) := F138.ext E142
      have F148 : Keep h0 h142 [] := F139.ext E142
      have F149 : Exa Z h142 o40 "java/lang/String" := A134.ext E142
      have F150 : Fld Z h142 o40 "java/lang/String" "coder" "B" (.int (0 : Int32)) := F140.ext E142
      have F151 : Fld Z h142 o40 "java/lang/String" "value" "[B" .null := F141.ext E142
      have F152 : own_Arf Z h142 o45 .char 2 (fun i => (.int ((fun _ => (0 : Int32)) i))) := own_Arf.new A142 (by decide) (by decide)
      refine own_st st142 ?_
      show own_Dn p e below s _ _ _ (T142.setTop (mkF m 47 #[.val (.int p0), .val (.int p1), .val (.int p2), .val (.int p3)] [(.ref o45), (.ref o40), (.ref o40)]))
      refine own_st (fun _ k => XS.dup X142.here hx rfl (hb hby mk_d47) rfl rfl (XS.iconst X142.here hx rfl (hb hby mk_d48) (XS.iloadN X142.here hx rfl (hb hby mk_d49) rfl k))) ?_
      show own_Dn p e below s _ _ _ (T142.setTop (mkF m 50 #[.val (.int p0), .val (.int p1), .val (.int p2), .val (.int p3)] [(.int p1), (.int (0 : Int32)), (.ref o45), (.ref o45), (.ref o40), (.ref o40)]))
      obtain ⟨T153, h153, X153, e153, W153, F153a, st153⟩ := own_stC (pc := 50) (L := #[.val (.int p0), .val (.int p1), .val (.int p2), .val (.int p3)]) (rest := [(.ref o45), (.ref o40), (.ref o40)]) X142 hx hZ e142 F152 (j := (0 : Int32)) (x := p1) (by decide) (by decide) (hb hby mk_d50)
      have N153 := Fr.snoc X153 N0 ge144
      have F154 : n0 ≤ h153.size := Nat.le_trans F146 (Keep.of_wr W153).1
      have F155 : Sta Z h153 "java/lang/String" "COMPACT_STRINGS" "Z" (.int w_z) := F147.wr W153
      have F156 : Keep h0 h153 [] := F148.wr W153 (Or.inr gh145)
      have F157 : Exa Z h153 o40 "java/lang/String" := F149.wr W153
      have F158 : Fld Z h153 o40 "java/lang/String" "coder" "B" (.int (0 : Int32)) := F150.other W153 (Or.inl ne143)
      have F159 : Fld Z h153 o40 "java/lang/String" "value" "[B" .null := F151.other W153 (Or.inl ne143)
      refine own_st st153 ?_
      show own_Dn p e below s _ _ _ (T153.setTop (mkF m 51 #[.val (.int p0), .val (.int p1), .val (.int p2), .val (.int p3)] [(.ref o45), (.ref o40), (.ref o40)]))
      refine own_st (fun _ k => XS.dup X153.here hx rfl (hb hby mk_d51) rfl rfl (XS.iconst X153.here hx rfl (hb hby mk_d52) (XS.iloadN X153.here hx rfl (hb hby mk_d53) rfl k))) ?_
      show own_Dn p e below s _ _ _ (T153.setTop (mkF m 54 #[.val (.int p0), .val (.int p1), .val (.int p2), .val (.int p3)] [(.int p2), (.int (1 : Int32)), (.ref o45), (.ref o45), (.ref o40), (.ref o40)]))
      obtain ⟨T160, h160, X160, e160, W160, F160a, st160⟩ := own_stC (pc := 54) (L := #[.val (.int p0), .val (.int p1), .val (.int p2), .val (.int p3)]) (rest := [(.ref o45), (.ref o40), (.ref o40)]) X153 hx hZ e153 F153a (j := (1 : Int32)) (x := p2) (by decide) (by decide) (hb hby mk_d54)
      have N160 := Fr.snoc X160 N153 ge144
      have F161 : n0 ≤ h160.size := Nat.le_trans F154 (Keep.of_wr W160).1
      have F162 : Sta Z h160 "java/lang/String" "COMPACT_STRINGS" "Z" (.int w_z) := F155.wr W160
      have F163 : Keep h0 h160 [] := F156.wr W160 (Or.inr gh145)
      have F164 : Exa Z h160 o40 "java/lang/String" := F157.wr W160
      have F165 : Fld Z h160 o40 "java/lang/String" "coder" "B" (.int (0 : Int32)) := F158.other W160 (Or.inl ne143)
      have F166 : Fld Z h160 o40 "java/lang/String" "value" "[B" .null := F159.other W160 (Or.inl ne143)
      refine own_st st160 ?_
      show own_Dn p e below s _ _ _ (T160.setTop (mkF m 55 #[.val (.int p0), .val (.int p1), .val (.int p2), .val (.int p3)] [(.ref o45), (.ref o40), (.ref o40)]))
      have hm167 : ∀ x ∈ ([p1, p2] : List Int32), own_255 x := by
        intro x hx'
        simp only [List.mem_cons, List.not_mem_nil, or_false] at hx'
        rcases hx' with rfl | rfl
        · exact hch.1
        · exact hch.2.1
      have hg167 : ∀ i, i < 2 → (own_upd (own_upd (fun _ => (0 : Int32)) ((0 : Int32)).toNatClampNeg (nar .char p1)) ((1 : Int32)).toNatClampNeg (nar .char p2)) i = ([p1, p2] : List Int32).getD i 0 := by
        intro i hi
        have hi' : i = 0 ∨ i = 1 := by omega
        rcases hi' with rfl | rfl
        all_goals simp only [own_upd]
        all_goals first | exact own_nar hch.1 | exact own_nar hch.2.1 | exact own_nar hch.2.2
      obtain ⟨kC167, AV167⟩ := own_arvC (n := 2) (cs := [p1, p2]) F160a rfl hg167 hm167
      obtain ⟨_, _, ⟨T167, L167, k167, n167⟩, -, X167, ⟨Lc167, hQ167, l167, y167, z167⟩, st167⟩ := X160.specialBack hx (y := (⟨"java/lang/String", "<init>", "([C)V"⟩ : MethodName)) rfl hown (mvT hZ (hw _ (List.mem_of_getElem? (i := 8) rfl))) (mvT hZ (hw _ (List.mem_of_getElem? (i := 9) rfl))) (mvT hZ (hw _ (List.mem_of_getElem? (i := 10) rfl))) (by decide) (StrChars.Road.backV (W := 1) hZ (own_hws hw) (kI := 4) (hw _ (List.mem_of_getElem? (i := 5) rfl)) (cs := [p1, p2]) (bs := [p1.toInt8.toInt32, p2.toInt8.toInt32]) (n := 2) ge135 F161 F164 F166 F165 AV167 F162 hwz rfl rfl (by decide) (by decide) (fun x hx' => own_lat (hm167 x hx')) rfl (by decide) (by decide)) (g := (mkF m 55 #[.val (.int p0), .val (.int p1), .val (.int p2), .val (.int p3)] [(.ref o45), (.ref o40), (.ref o40)])) rfl (by rw [hml]; rfl) (Steps.refl _) (a := o40) (argsL := [(.ref o45)]) (rest := [(.ref o40)]) (lenOf own_pd3 rfl) rfl (by show 2 * 0 + _ ≤ _; exact Nat.le_of_eq rfl) (hb hby mk_d55) (fun _ _ => ⟨rfl, e160, (by decide : 2 + 1 ≤ _), (by decide : 6 + 2 ≤ _)⟩)
      dsimp only [Pt.U, Pt.locs, Pt.cells, Pt.slots] at X167 l167 y167 z167 st167 hQ167
      subst l167 y167 z167
      obtain ⟨rfl, N167q, K167, E167, -, t167, kb167, -, -, -, V167, A167⟩ := hQ167
      have N167 := Fr.app N160 N167q
      have K167k := F163.trans K167 (allS (Or.inr gh136) all0)
      have S167 : own_S1 Z T167.heap o40 := ⟨E167, t167, 2, _, by decide, V167, own_arfB A167 (by decide) (by decide)⟩
      refine own_tr st167 ?_
      show own_Dn p e below s _ _ _ (T167.setTop (mkF m 58 #[.val (.int p0), .val (.int p1), .val (.int p2), .val (.int p3)] [(.ref o40)]))
      have eqH : T167.heap = T167.heap := rfl
      exact own_retA X167 hx rfl hret hlk rfl rfl (hb hby mk_d58) (by decide) (by decide) (by rw [eqH]; exact ⟨o40, rfl, N167, K167k, S167⟩)
    · refine own_st (fun _ k => XS.icmpYes X0.here hx rfl (pc0 := 37) (pc' := 59) rfl (hb hby mk_d37) rfl (feq hc133).2 (by decide) (by decide) k) ?_
      show own_Dn p e below s _ _ _ (T0.setTop (mkF m 59 #[.val (.int p0), .val (.int p1), .val (.int p2), .val (.int p3)] []))
      obtain ⟨T168, h168, X168, e168, E168, A168, D168, -, st168⟩ := newO X0 hx hZ hown (hw _ (List.mem_of_getElem? (i := 4) rfl)) (hw _ (List.mem_of_getElem? (i := 5) rfl)) (hw _ (List.mem_of_getElem? (i := 6) rfl)) e0 (g := (mkF m 59 #[.val (.int p0), .val (.int p1), .val (.int p2), .val (.int p3)] [])) rfl (hb hby mk_d59) (by decide) (by decide)
      obtain ⟨o59, g168⟩ : ∃ z, z = h0.size := ⟨_, rfl⟩
      rw [← g168] at A168 D168 st168
      have ge169 : n0 ≤ o59 := Nat.le_trans Z0 (Nat.le_of_eq g168.symm)
      have gh170 : h0.size ≤ o59 := Nat.le_trans (Keep.refl h0 []).1 (Nat.le_of_eq g168.symm)
      have F171 : n0 ≤ h168.size := Nat.le_trans Z0 E168.1
      have F172 : Sta Z h168 "java/lang/String" "COMPACT_STRINGS" "Z" (.int w_z) := P0.ext E168
      have F173 : Keep h0 h168 [] := (Keep.refl h0 []).ext E168
      have F174 : Fld Z h168 o59 "java/lang/String" "coder" "B" (.int (0 : Int32)) := D168 (Or.inr (hw _ (List.mem_of_getElem? (i := 31) rfl))) (ty := .byte) (by decide)
      have F175 : Fld Z h168 o59 "java/lang/String" "value" "[B" .null := D168 (Or.inr (hw _ (List.mem_of_getElem? (i := 33) rfl))) (ty := (.array .byte)) (by decide)
      refine own_st st168 ?_
      show own_Dn p e below s _ _ _ (T168.setTop (mkF m 62 #[.val (.int p0), .val (.int p1), .val (.int p2), .val (.int p3)] [(.ref o59)]))
      refine own_st (fun _ k => XS.dup X168.here hx rfl (hb hby mk_d62) rfl rfl (XS.iconst X168.here hx rfl (hb hby mk_d63) k)) ?_
      show own_Dn p e below s _ _ _ (T168.setTop (mkF m 64 #[.val (.int p0), .val (.int p1), .val (.int p2), .val (.int p3)] [(.int (3 : Int32)), (.ref o59), (.ref o59)]))
      obtain ⟨T176, h176, cA176, X176, e176, E176, A176, st176⟩ := newP X168 hx hZ (aty := .char) (hw _ (List.mem_of_getElem? (i := 7) rfl)) e168 (g := (mkF m 64 #[.val (.int p0), .val (.int p1), .val (.int p2), .val (.int p3)] [(.int (3 : Int32)), (.ref o59), (.ref o59)])) rfl (hb hby mk_d64) (n := (3 : Int32)) rfl (by decide) (cap := 3) (by decide) (by decide) (by decide) (by decide)
      obtain ⟨o64, g176⟩ : ∃ z, z = h168.size := ⟨_, rfl⟩
      rw [← g176] at A176 st176
      have ne177 : o59 ≠ o64 := Nat.ne_of_lt (Nat.lt_of_lt_of_le A168.lt (Nat.le_of_eq g176.symm))
      have ge178 : n0 ≤ o64 := Nat.le_trans F171 (Nat.le_of_eq g176.symm)
      have gh179 : h0.size ≤ o64 := Nat.le_trans F173.1 (Nat.le_of_eq g176.symm)
      have F180 : n0 ≤ h176.size := Nat.le_trans F171 E176.1
      have F181 : Sta Z h176 "java/lang/String" "COMPACT_STRINGS" "Z" (.int w_z) := F172.ext E176
      have F182 : Keep h0 h176 [] := F173.ext E176
      have F183 : Exa Z h176 o59 "java/lang/String" := A168.ext E176
      have F184 : Fld Z h176 o59 "java/lang/String" "coder" "B" (.int (0 : Int32)) := F174.ext E176
      have F185 : Fld Z h176 o59 "java/lang/String" "value" "[B" .null := F175.ext E176
      have F186 : own_Arf Z h176 o64 .char 3 (fun i => (.int ((fun _ => (0 : Int32)) i))) := own_Arf.new A176 (by decide) (by decide)
      refine own_st st176 ?_
      show own_Dn p e below s _ _ _ (T176.setTop (mkF m 66 #[.val (.int p0), .val (.int p1), .val (.int p2), .val (.int p3)] [(.ref o64), (.ref o59), (.ref o59)]))
      refine own_st (fun _ k => XS.dup X176.here hx rfl (hb hby mk_d66) rfl rfl (XS.iconst X176.here hx rfl (hb hby mk_d67) (XS.iloadN X176.here hx rfl (hb hby mk_d68) rfl k))) ?_
      show own_Dn p e below s _ _ _ (T176.setTop (mkF m 69 #[.val (.int p0), .val (.int p1), .val (.int p2), .val (.int p3)] [(.int p1), (.int (0 : Int32)), (.ref o64), (.ref o64), (.ref o59), (.ref o59)]))
      obtain ⟨T187, h187, X187, e187, W187, F187a, st187⟩ := own_stC (pc := 69) (L := #[.val (.int p0), .val (.int p1), .val (.int p2), .val (.int p3)]) (rest := [(.ref o64), (.ref o59), (.ref o59)]) X176 hx hZ e176 F186 (j := (0 : Int32)) (x := p1) (by decide) (by decide) (hb hby mk_d69)
      have N187 := Fr.snoc X187 N0 ge178
      have F188 : n0 ≤ h187.size := Nat.le_trans F180 (Keep.of_wr W187).1
      have F189 : Sta Z h187 "java/lang/String" "COMPACT_STRINGS" "Z" (.int w_z) := F181.wr W187
      have F190 : Keep h0 h187 [] := F182.wr W187 (Or.inr gh179)
      have F191 : Exa Z h187 o59 "java/lang/String" := F183.wr W187
      have F192 : Fld Z h187 o59 "java/lang/String" "coder" "B" (.int (0 : Int32)) := F184.other W187 (Or.inl ne177)
      have F193 : Fld Z h187 o59 "java/lang/String" "value" "[B" .null := F185.other W187 (Or.inl ne177)
      refine own_st st187 ?_
      show own_Dn p e below s _ _ _ (T187.setTop (mkF m 70 #[.val (.int p0), .val (.int p1), .val (.int p2), .val (.int p3)] [(.ref o64), (.ref o59), (.ref o59)]))
      refine own_st (fun _ k => XS.dup X187.here hx rfl (hb hby mk_d70) rfl rfl (XS.iconst X187.here hx rfl (hb hby mk_d71) (XS.iloadN X187.here hx rfl (hb hby mk_d72) rfl k))) ?_
      show own_Dn p e below s _ _ _ (T187.setTop (mkF m 73 #[.val (.int p0), .val (.int p1), .val (.int p2), .val (.int p3)] [(.int p2), (.int (1 : Int32)), (.ref o64), (.ref o64), (.ref o59), (.ref o59)]))
      obtain ⟨T194, h194, X194, e194, W194, F194a, st194⟩ := own_stC (pc := 73) (L := #[.val (.int p0), .val (.int p1), .val (.int p2), .val (.int p3)]) (rest := [(.ref o64), (.ref o59), (.ref o59)]) X187 hx hZ e187 F187a (j := (1 : Int32)) (x := p2) (by decide) (by decide) (hb hby mk_d73)
      have N194 := Fr.snoc X194 N187 ge178
      have F195 : n0 ≤ h194.size := Nat.le_trans F188 (Keep.of_wr W194).1
      have F196 : Sta Z h194 "java/lang/String" "COMPACT_STRINGS" "Z" (.int w_z) := F189.wr W194
      have F197 : Keep h0 h194 [] := F190.wr W194 (Or.inr gh179)
      have F198 : Exa Z h194 o59 "java/lang/String" := F191.wr W194
      have F199 : Fld Z h194 o59 "java/lang/String" "coder" "B" (.int (0 : Int32)) := F192.other W194 (Or.inl ne177)
      have F200 : Fld Z h194 o59 "java/lang/String" "value" "[B" .null := F193.other W194 (Or.inl ne177)
      refine own_st st194 ?_
      show own_Dn p e below s _ _ _ (T194.setTop (mkF m 74 #[.val (.int p0), .val (.int p1), .val (.int p2), .val (.int p3)] [(.ref o64), (.ref o59), (.ref o59)]))
      refine own_st (fun _ k => XS.dup X194.here hx rfl (hb hby mk_d74) rfl rfl (XS.iconst X194.here hx rfl (hb hby mk_d75) (XS.iloadN X194.here hx rfl (hb hby mk_d76) rfl k))) ?_
      show own_Dn p e below s _ _ _ (T194.setTop (mkF m 77 #[.val (.int p0), .val (.int p1), .val (.int p2), .val (.int p3)] [(.int p3), (.int (2 : Int32)), (.ref o64), (.ref o64), (.ref o59), (.ref o59)]))
      obtain ⟨T201, h201, X201, e201, W201, F201a, st201⟩ := own_stC (pc := 77) (L := #[.val (.int p0), .val (.int p1), .val (.int p2), .val (.int p3)]) (rest := [(.ref o64), (.ref o59), (.ref o59)]) X194 hx hZ e194 F194a (j := (2 : Int32)) (x := p3) (by decide) (by decide) (hb hby mk_d77)
      have N201 := Fr.snoc X201 N194 ge178
      have F202 : n0 ≤ h201.size := Nat.le_trans F195 (Keep.of_wr W201).1
      have F203 : Sta Z h201 "java/lang/String" "COMPACT_STRINGS" "Z" (.int w_z) := F196.wr W201
      have F204 : Keep h0 h201 [] := F197.wr W201 (Or.inr gh179)
      have F205 : Exa Z h201 o59 "java/lang/String" := F198.wr W201
      have F206 : Fld Z h201 o59 "java/lang/String" "coder" "B" (.int (0 : Int32)) := F199.other W201 (Or.inl ne177)
      have F207 : Fld Z h201 o59 "java/lang/String" "value" "[B" .null := F200.other W201 (Or.inl ne177)
      refine own_st st201 ?_
      show own_Dn p e below s _ _ _ (T201.setTop (mkF m 78 #[.val (.int p0), .val (.int p1), .val (.int p2), .val (.int p3)] [(.ref o64), (.ref o59), (.ref o59)]))
      have hm208 : ∀ x ∈ ([p1, p2, p3] : List Int32), own_255 x := by
        intro x hx'
        simp only [List.mem_cons, List.not_mem_nil, or_false] at hx'
        rcases hx' with rfl | rfl | rfl
        · exact hch.1
        · exact hch.2.1
        · exact hch.2.2
      have hg208 : ∀ i, i < 3 → (own_upd (own_upd (own_upd (fun _ => (0 : Int32)) ((0 : Int32)).toNatClampNeg (nar .char p1)) ((1 : Int32)).toNatClampNeg (nar .char p2)) ((2 : Int32)).toNatClampNeg (nar .char p3)) i = ([p1, p2, p3] : List Int32).getD i 0 := by
        intro i hi
        have hi' : i = 0 ∨ i = 1 ∨ i = 2 := by omega
        rcases hi' with rfl | rfl | rfl
        all_goals simp only [own_upd]
        all_goals first | exact own_nar hch.1 | exact own_nar hch.2.1 | exact own_nar hch.2.2
      obtain ⟨kC208, AV208⟩ := own_arvC (n := 3) (cs := [p1, p2, p3]) F201a rfl hg208 hm208
      obtain ⟨_, _, ⟨T208, L208, k208, n208⟩, -, X208, ⟨Lc208, hQ208, l208, y208, z208⟩, st208⟩ := X201.specialBack hx (y := (⟨"java/lang/String", "<init>", "([C)V"⟩ : MethodName)) rfl hown (mvT hZ (hw _ (List.mem_of_getElem? (i := 8) rfl))) (mvT hZ (hw _ (List.mem_of_getElem? (i := 9) rfl))) (mvT hZ (hw _ (List.mem_of_getElem? (i := 10) rfl))) (by decide) (StrChars.Road.backV (W := 1) hZ (own_hws hw) (kI := 4) (hw _ (List.mem_of_getElem? (i := 5) rfl)) (cs := [p1, p2, p3]) (bs := [p1.toInt8.toInt32, p2.toInt8.toInt32, p3.toInt8.toInt32]) (n := 3) ge169 F202 F205 F207 F206 AV208 F203 hwz rfl rfl (by decide) (by decide) (fun x hx' => own_lat (hm208 x hx')) rfl (by decide) (by decide)) (g := (mkF m 78 #[.val (.int p0), .val (.int p1), .val (.int p2), .val (.int p3)] [(.ref o64), (.ref o59), (.ref o59)])) rfl (by rw [hml]; rfl) (Steps.refl _) (a := o59) (argsL := [(.ref o64)]) (rest := [(.ref o59)]) (lenOf own_pd3 rfl) rfl (by show 2 * 0 + _ ≤ _; exact Nat.le_of_eq rfl) (hb hby mk_d78) (fun _ _ => ⟨rfl, e201, (by decide : 2 + 1 ≤ _), (by decide : 7 + 3 ≤ _)⟩)
      dsimp only [Pt.U, Pt.locs, Pt.cells, Pt.slots] at X208 l208 y208 z208 st208 hQ208
      subst l208 y208 z208
      obtain ⟨rfl, N208q, K208, E208, -, t208, kb208, -, -, -, V208, A208⟩ := hQ208
      have N208 := Fr.app N201 N208q
      have K208k := F204.trans K208 (allS (Or.inr gh170) all0)
      have S208 : own_S1 Z T208.heap o59 := ⟨E208, t208, 3, _, by decide, V208, own_arfB A208 (by decide) (by decide)⟩
      refine own_tr st208 ?_
      show own_Dn p e below s _ _ _ (T208.setTop (mkF m 81 #[.val (.int p0), .val (.int p1), .val (.int p2), .val (.int p3)] [(.ref o59)]))
      have eqH : T208.heap = T208.heap := rfl
      exact own_retA X208 hx rfl hret hlk rfl rfl (hb hby mk_d81) (by decide) (by decide) (by rw [eqH]; exact ⟨o59, rfl, N208, K208k, S208⟩)
theorem mk_ef (m : MethodId) (p0 : Int32) (p1 : Int32) (p2 : Int32) (p3 : Int32) : entryFrame m #[(.int p0), (.int p1), (.int p2), (.int p3)] 4 = mkF m 0 #[.val (.int p0), .val (.int p1), .val (.int p2), .val (.int p3)] [] := by first | (simp [entryFrame, mkF, argsToLocals, Value.category]; done) | rfl
theorem mk_rm (l : Launch) (Z : State) (a0 : Array Value) (hw : ∀ d ∈ tables_1, d.before a0 Z = true) (ws : List Jvm.Cond) (p0 : Int32) (p1 : Int32) (p2 : Int32) (p3 : Int32) (w_z : Int32) (h0 : Heap) (n0 : Nat) (Z0 : n0 ≤ h0.size) (P0 : Sta Z h0 "java/lang/String" "COMPACT_STRINGS" "Z" (.int w_z)) (hnz : ¬ (p0 = (0 : Int32))) (hwz : ¬ w_z = (0 : Int32)) (hch : own_255 p1 ∧ own_255 p2 ∧ own_255 p3) :
    MetFree l (⟨"com/example/stierlin/stierlin/protocol/OffsetCommitRequestFromOutsideMembershipPinLaw", "make", "(ICCC)Ljava/lang/String;"⟩ : MethodName) (head1 (Jvm.Cond.code (⟨"com/example/stierlin/stierlin/protocol/OffsetCommitRequestFromOutsideMembershipPinLaw", "make", "(ICCC)Ljava/lang/String;"⟩ : MethodName) method_3_code 4 (some (.object "java/lang/String")) :: ws) ({ frames := 4, cells := 3, slots := 10, locals := 66 } : Room)) (fun a U => a = #[(.int p0), (.int p1), (.int p2), (.int p3)] ∧ Z.Warmed39 U.vm ∧ U.heap = h0) (fun _ _ _ _ _ => True) (fun _ U o U' => ∃ v L, o = .returned v ∧ (own_QM Z own_S1 h0 n0) v U'.heap L ∧ FrameEnd U o U' L ({ frames := 4, cells := 3, slots := 10, locals := 66 } : Room).cells ({ frames := 4, cells := 3, slots := 10, locals := 66 } : Room).slots) :=
  own_met hw (plainFor_of_name (by first | (simp [plainName, overriddenIn]; done) | decide +kernel)) (fun p e s m below meth c T0 C0 X0 e0 => own_st (fun _ k => castTop (mk_ef m p0 p1 p2 p3) k) (mk_c0 C0 X0 e0 (Fr.nil n0) Z0 P0 hnz hwz hch))
theorem own_em0 (f : Nat → Int32) : em_f 0 f = 1 := by
  rw [em_f, if_pos (show (0 : Nat).toInt32 = (0 : Int32) by decide)]
theorem own_fo0 (v : Int32) (f : Nat → Int32) (h : v = (-1 : Int32)) : fo_f v 0 f = (1 : Int32) := by
  rw [fo_f, if_pos h, own_em0, if_neg (show ¬ (1 : Int32) = 0 by decide)]
theorem own_fo0n (v : Int32) (f : Nat → Int32) (h : ¬ v = (-1 : Int32)) : fo_f v 0 f = (0 : Int32) := by
  rw [fo_f, if_neg h]
theorem own_fo1 {Z : State} {h : Heap} {t : Addr} {v : Int32} {n : Nat} {f : Nat → Int32} (hn : n ≠ 0) (A : own_Arf Z h t .byte n (fun i => (.int (f i)))) : fo_f v n f = (0 : Int32) := by
  obtain ⟨c, -, -, h31, -⟩ := A
  have e : n.toInt32.toInt = n := len_toInt h31
  have z : ¬ n.toInt32 = (0 : Int32) := fun q => by
    rw [q] at e
    have e2 : (0 : Int32).toInt = 0 := by decide
    omega
  rw [fo_f, em_f, if_neg z, if_pos (show (0 : Int32) = 0 from rfl)]
  split <;> rfl
theorem lw_d0 : decode code 0 = .ok (.iload_n 1, 1) := by decide +kernel
theorem lw_d1 : decode code 1 = .ok (.iconst 1, 1) := by decide +kernel
theorem lw_d2 : decode code 2 = .ok (.iand, 1) := by decide +kernel
theorem lw_d3 : decode code 3 = .ok (.ifCond .eq 7, 3) := by decide +kernel
theorem lw_d6 : decode code 6 = .ok (.iconst (-1), 1) := by decide +kernel
theorem lw_d7 : decode code 7 = .ok (.goto 4, 3) := by decide +kernel
theorem lw_d10 : decode code 10 = .ok (.iload_n 0, 1) := by decide +kernel
theorem lw_d11 : decode code 11 = .ok (.istore_n 3, 1) := by decide +kernel
theorem lw_d12 : decode code 12 = .ok (.iload_n 1, 1) := by decide +kernel
theorem lw_d13 : decode code 13 = .ok (.iconst 1, 1) := by decide +kernel
theorem lw_d14 : decode code 14 = .ok (.iushr, 1) := by decide +kernel
theorem lw_d15 : decode code 15 = .ok (.iconst 3, 1) := by decide +kernel
theorem lw_d16 : decode code 16 = .ok (.iand, 1) := by decide +kernel
theorem lw_d17 : decode code 17 = .ok (.istore 4, 2) := by decide +kernel
theorem lw_d19 : decode code 19 = .ok (.iload_n 2, 1) := by decide +kernel
theorem lw_d20 : decode code 20 = .ok (.sipush 255, 3) := by decide +kernel
theorem lw_d23 : decode code 23 = .ok (.iand, 1) := by decide +kernel
theorem lw_d24 : decode code 24 = .ok (.i2c, 1) := by decide +kernel
theorem lw_d25 : decode code 25 = .ok (.istore 5, 2) := by decide +kernel
theorem lw_d27 : decode code 27 = .ok (.iload_n 2, 1) := by decide +kernel
theorem lw_d28 : decode code 28 = .ok (.bipush 8, 2) := by decide +kernel
theorem lw_d30 : decode code 30 = .ok (.iushr, 1) := by decide +kernel
theorem lw_d31 : decode code 31 = .ok (.sipush 255, 3) := by decide +kernel
theorem lw_d34 : decode code 34 = .ok (.iand, 1) := by decide +kernel
theorem lw_d35 : decode code 35 = .ok (.i2c, 1) := by decide +kernel
theorem lw_d36 : decode code 36 = .ok (.istore 6, 2) := by decide +kernel
theorem lw_d38 : decode code 38 = .ok (.iload_n 2, 1) := by decide +kernel
theorem lw_d39 : decode code 39 = .ok (.bipush 16, 2) := by decide +kernel
theorem lw_d41 : decode code 41 = .ok (.iushr, 1) := by decide +kernel
theorem lw_d42 : decode code 42 = .ok (.sipush 255, 3) := by decide +kernel
theorem lw_d45 : decode code 45 = .ok (.iand, 1) := by decide +kernel
theorem lw_d46 : decode code 46 = .ok (.i2c, 1) := by decide +kernel
theorem lw_d47 : decode code 47 = .ok (.istore 7, 2) := by decide +kernel
theorem lw_d49 : decode code 49 = .ok (.iload 4, 2) := by decide +kernel
theorem lw_d51 : decode code 51 = .ok (.iload 5, 2) := by decide +kernel
theorem lw_d53 : decode code 53 = .ok (.iload 6, 2) := by decide +kernel
theorem lw_d55 : decode code 55 = .ok (.iload 7, 2) := by decide +kernel
theorem lw_d57 : decode code 57 = .ok (.invokestatic 7, 3) := by decide +kernel
theorem lw_d60 : decode code 60 = .ok (.astore 8, 2) := by decide +kernel
theorem lw_d62 : decode code 62 = .ok (.new 13, 3) := by decide +kernel
theorem lw_d65 : decode code 65 = .ok (.dup, 1) := by decide +kernel
theorem lw_d66 : decode code 66 = .ok (.invokespecial 15, 3) := by decide +kernel
theorem lw_d69 : decode code 69 = .ok (.astore 9, 2) := by decide +kernel
theorem lw_d71 : decode code 71 = .ok (.new 16, 3) := by decide +kernel
theorem lw_d74 : decode code 74 = .ok (.dup, 1) := by decide +kernel
theorem lw_d75 : decode code 75 = .ok (.ldc 18, 2) := by decide +kernel
theorem lw_d77 : decode code 77 = .ok (.iload_n 3, 1) := by decide +kernel
theorem lw_d78 : decode code 78 = .ok (.aload 8, 2) := by decide +kernel
theorem lw_d80 : decode code 80 = .ok (.aconst_null, 1) := by decide +kernel
theorem lw_d81 : decode code 81 = .ok (.aload 9, 2) := by decide +kernel
theorem lw_d83 : decode code 83 = .ok (.invokespecial 20, 3) := by decide +kernel
theorem lw_d86 : decode code 86 = .ok (.astore 10, 2) := by decide +kernel
theorem lw_d88 : decode code 88 = .ok (.iload_n 3, 1) := by decide +kernel
theorem lw_d89 : decode code 89 = .ok (.iconst (-1), 1) := by decide +kernel
theorem lw_d90 : decode code 90 = .ok (.if_icmp .ne 12, 3) := by decide +kernel
theorem lw_d93 : decode code 93 = .ok (.iload 4, 2) := by decide +kernel
theorem lw_d95 : decode code 95 = .ok (.ifCond .ne 7, 3) := by decide +kernel
theorem lw_d98 : decode code 98 = .ok (.iconst 1, 1) := by decide +kernel
theorem lw_d99 : decode code 99 = .ok (.goto 4, 3) := by decide +kernel
theorem lw_d102 : decode code 102 = .ok (.iconst 0, 1) := by decide +kernel
theorem lw_d103 : decode code 103 = .ok (.istore 11, 2) := by decide +kernel
theorem lw_d105 : decode code 105 = .ok (.aload 10, 2) := by decide +kernel
theorem lw_d107 : decode code 107 = .ok (.invokevirtual 23, 3) := by decide +kernel
theorem lw_d110 : decode code 110 = .ok (.iload 11, 2) := by decide +kernel
theorem lw_d112 : decode code 112 = .ok (.if_icmp .ne 7, 3) := by decide +kernel
theorem lw_d115 : decode code 115 = .ok (.iconst 1, 1) := by decide +kernel
theorem lw_d116 : decode code 116 = .ok (.goto 4, 3) := by decide +kernel
theorem lw_d120 : decode code 120 = .ok (.ireturn, 1) := by decide +kernel
def lw_Q (Z : State) (p0 : Int32) (p1 : Int32) (p2 : Int32) (w_z : Int32) (w_d : Addr) (r0 : Int32) (h0 : Heap) (n0 : Nat) (v : Option Value) (h : Heap) (L : List Loc) : Prop := v = some (.int r0) ∧ Fr n0 L ∧ Keep h0 h []
def lw_f49 (p0 : Int32) (p1 : Int32) (p2 : Int32) (w_z : Int32) (v3 : Int32) (v4 : Int32) (v5 : Int32) (v6 : Int32) (v7 : Int32) : Int32 :=
  if v4 = (0 : Int32) then
    if v3 = (-1 : Int32) then
      (1 : Int32)
    else
      (1 : Int32)
  else
    if v3 = (-1 : Int32) then
      (1 : Int32)
    else
      (1 : Int32)
set_option maxRecDepth 65536 in
set_option maxHeartbeats 40000000 in
theorem lw_c49 {l : Launch} {Z : State} {a0 : Array Value} {p0 : Int32} {p1 : Int32} {p2 : Int32} {w_z : Int32} {w_d : Addr} {h0 h1 : Heap} {n0 : Nat} {p : Program} {e : Env} {s : State} {m : MethodId} {args : Array Value} {below : List Frame} {meth : Method} {c : Code} {T0 : State} {locs : List Loc} {r0 : Int32} (C0 : own_Cx p s m meth c Z a0 code 12 "com/example/stierlin/stierlin/protocol/OffsetCommitRequestFromOutsideMembershipPinLaw" "law" (some .boolean)) (X0 : Stand p l e room_1 s m args below meth c T0 locs 0 0) (e0 : T0.heap = h1) (N0 : Fr n0 locs) (v3 : Int32) (v4 : Int32) (v5 : Int32) (v6 : Int32) (v7 : Int32) (Z0 : n0 ≤ h1.size) (P1 : Sta Z h1 "java/lang/String" "COMPACT_STRINGS" "Z" (.int w_z)) (P2 : Sta Z h1 "java/util/ArrayList" "DEFAULTCAPACITY_EMPTY_ELEMENTDATA" "[Ljava/lang/Object;" (.ref w_d)) (K0 : Keep h0 h1 []) (P4 : CHv Z own_EL s.vm h1) (hi0 : own_255 v5 ∧ own_255 v6 ∧ own_255 v7 ∧ ¬ w_z = (0 : Int32)) (hr0 : r0 = lw_f49 p0 p1 p2 w_z v3 v4 v5 v6 v7) :
    own_DW p e below s (fun v h _ L => lw_Q Z p0 p1 p2 w_z w_d r0 h0 n0 v h L) room_1.cells room_1.slots (T0.setTop (mkF m 49 #[.val (.int p0), .val (.int p1), .val (.int p2), .val (.int v3), .val (.int v4), .val (.int v5), .val (.int v6), .val (.int v7), .unset, .unset, .unset, .unset] [])) := by
  obtain ⟨hx, hZ, hw, hby, hml, hown, hret, hlk, hnm⟩ := id C0
  refine own_stW (fun _ k => XS.iload X0.here hx rfl (hb hby lw_d49) rfl (XS.iload X0.here hx rfl (hb hby lw_d51) rfl (XS.iload X0.here hx rfl (hb hby lw_d53) rfl (XS.iload X0.here hx rfl (hb hby lw_d55) rfl k)))) ?_
  show own_DW p e below s _ _ _ (T0.setTop (mkF m 57 #[.val (.int p0), .val (.int p1), .val (.int p2), .val (.int v3), .val (.int v4), .val (.int v5), .val (.int v6), .val (.int v7), .unset, .unset, .unset, .unset] [(.int v7), (.int v6), (.int v5), (.int v4)]))
  by_cases hc174 : v4 = (0 : Int32)
  · subst hc174
    obtain ⟨_, _, ⟨T175, L175, k175, n175⟩, -, Xq175, h2175, gr175, ⟨Lc175, hQ175, l175, y175, z175, -⟩, st175⟩ := Jvm.RoadKit.callSS (s := s.setVm s.vm) X0 hx (y := (⟨"com/example/stierlin/stierlin/protocol/OffsetCommitRequestFromOutsideMembershipPinLaw", "make", "(ICCC)Ljava/lang/String;"⟩ : MethodName)) hown (mvT (s := s.setVm s.vm) hZ (hw _ (List.mem_of_getElem? (i := 0) rfl))) (mvT (s := s.setVm s.vm) hZ (hw _ (List.mem_of_getElem? (i := 1) rfl))) (mvT (s := s.setVm s.vm) hZ (hw _ (List.mem_of_getElem? (i := 2) rfl))) (mvT (s := s.setVm s.vm) hZ (hw _ (List.mem_of_getElem? (i := 3) rfl))) (by decide) (backOfSH (s := s) (vm0 := s.vm) (W := 0) (mz_rm l Z a0 hw [] (v5) (v6) (v7) h1 n0 Z0) hZ (hw _ (List.mem_of_getElem? (i := 3) rfl)) (hw _ (List.mem_of_getElem? (i := 2) rfl)) (by decide) (by decide) (own_hEL hw) P4) (g := (mkF m 57 #[.val (.int p0), .val (.int p1), .val (.int p2), .val (.int v3), .val (.int (0 : Int32)), .val (.int v5), .val (.int v6), .val (.int v7), .unset, .unset, .unset, .unset] [(.int v7), (.int v6), (.int v5), (.int (0 : Int32))])) rfl (by rw [hml]; rfl) (argsL := [(.int (0 : Int32)), (.int v5), (.int v6), (.int v7)]) (rest := []) (lenOf own_pd4 rfl) rfl (by show 2 * 0 + _ ≤ _; exact Nat.le_of_eq rfl) (hb hby lw_d57) (fun _ _ => ⟨rfl, e0, (by decide : 0 + 6 ≤ _), (by decide : 0 + 12 ≤ _)⟩)
    dsimp only [Pt.U, Pt.locs, Pt.cells, Pt.slots] at Xq175 h2175 gr175 l175 y175 z175 st175 hQ175
    subst l175 y175 z175
    obtain ⟨r57, rfl, N175q, K175, E175, t57, f57, V175, A175⟩ := hQ175
    obtain ⟨X175, hS175, hZ, hown⟩ := rebS (own_since0 s) (own_hk (show T0.heap = h1 from e0) (Nat.zero_le _)) Xq175 h2175 gr175 hZ hown
    have F176 : n0 ≤ T175.heap.size := Nat.le_trans Z0 K175.1
    have F177 : Sta Z T175.heap "java/lang/String" "COMPACT_STRINGS" "Z" (.int w_z) := own_Sta_keep0 P1 K175
    have F178 : Sta Z T175.heap "java/util/ArrayList" "DEFAULTCAPACITY_EMPTY_ELEMENTDATA" "[Ljava/lang/Object;" (.ref w_d) := own_Sta_keep0 P2 K175
    have F179 : Keep h0 T175.heap [] := K0.trans K175 all0
    have N175 := Fr.app N0 N175q
    refine own_trW st175 ?_
    show own_DW p e below s _ _ _ (T175.setTop (mkF m 60 #[.val (.int p0), .val (.int p1), .val (.int p2), .val (.int v3), .val (.int (0 : Int32)), .val (.int v5), .val (.int v6), .val (.int v7), .unset, .unset, .unset, .unset] [(.ref r57)]))
    refine own_stW (fun _ k => XS.astore X175.here hx rfl (hb hby lw_d60) rfl rfl (l' := #[.val (.int p0), .val (.int p1), .val (.int p2), .val (.int v3), .val (.int (0 : Int32)), .val (.int v5), .val (.int v6), .val (.int v7), .val (.ref r57), .unset, .unset, .unset]) rfl k) ?_
    show own_DW p e below s _ _ _ (T175.setTop (mkF m 62 #[.val (.int p0), .val (.int p1), .val (.int p2), .val (.int v3), .val (.int (0 : Int32)), .val (.int v5), .val (.int v6), .val (.int v7), .val (.ref r57), .unset, .unset, .unset] []))
    obtain ⟨T180, h180, X180, e180, E180, A180, D180, -, st180⟩ := newO X175 hx hZ hown (hw _ (List.mem_of_getElem? (i := 34) rfl)) (hw _ (List.mem_of_getElem? (i := 35) rfl)) (hw _ (List.mem_of_getElem? (i := 36) rfl)) rfl (g := (mkF m 62 #[.val (.int p0), .val (.int p1), .val (.int p2), .val (.int v3), .val (.int (0 : Int32)), .val (.int v5), .val (.int v6), .val (.int v7), .val (.ref r57), .unset, .unset, .unset] [])) rfl (hb hby lw_d62) (by decide) (by decide)
    obtain ⟨o62, g180⟩ : ∃ z, z = T175.heap.size := ⟨_, rfl⟩
    rw [← g180] at A180 D180 st180
    have ne181 : r57 ≠ o62 := Nat.ne_of_lt (Nat.lt_of_lt_of_le E175.lt (Nat.le_of_eq g180.symm))
    have ne182 : t57 ≠ o62 := Nat.ne_of_lt (Nat.lt_of_lt_of_le A175.lt (Nat.le_of_eq g180.symm))
    have ge183 : n0 ≤ o62 := Nat.le_trans F176 (Nat.le_of_eq g180.symm)
    have gh184 : h0.size ≤ o62 := Nat.le_trans F179.1 (Nat.le_of_eq g180.symm)
    have F185 : n0 ≤ h180.size := Nat.le_trans F176 E180.1
    have F186 : Sta Z h180 "java/lang/String" "COMPACT_STRINGS" "Z" (.int w_z) := F177.ext E180
    have F187 : Sta Z h180 "java/util/ArrayList" "DEFAULTCAPACITY_EMPTY_ELEMENTDATA" "[Ljava/lang/Object;" (.ref w_d) := F178.ext E180
    have F188 : Keep h0 h180 [] := F179.ext E180
    have F189 : T175.heap.size ≤ h180.size := Nat.le_trans (Nat.le_refl _) E180.1
    have F190 : Exa Z h180 r57 "java/lang/String" := E175.ext E180
    have F191 : Fld Z h180 r57 "java/lang/String" "value" "[B" (.ref t57) := V175.ext E180
    have F192 : own_Arf Z h180 t57 .byte 0 (fun i => (.int (f57 i))) := A175.ext E180
    have F193 : Fld Z h180 o62 "java/util/AbstractList" "modCount" "I" (.int (0 : Int32)) := D180 (Or.inl (hw _ (List.mem_of_getElem? (i := 54) rfl))) (ty := .int) (by decide)
    have F194 : Fld Z h180 o62 "java/util/ArrayList" "elementData" "[Ljava/lang/Object;" .null := D180 (Or.inl (hw _ (List.mem_of_getElem? (i := 57) rfl))) (ty := (.array (.object "java/lang/Object"))) (by decide)
    refine own_stW st180 ?_
    show own_DW p e below s _ _ _ (T180.setTop (mkF m 65 #[.val (.int p0), .val (.int p1), .val (.int p2), .val (.int v3), .val (.int (0 : Int32)), .val (.int v5), .val (.int v6), .val (.int v7), .val (.ref r57), .unset, .unset, .unset] [(.ref o62)]))
    refine own_stW (fun _ k => XS.dup X180.here hx rfl (hb hby lw_d65) rfl rfl k) ?_
    show own_DW p e below s _ _ _ (T180.setTop (mkF m 66 #[.val (.int p0), .val (.int p1), .val (.int p2), .val (.int v3), .val (.int (0 : Int32)), .val (.int v5), .val (.int v6), .val (.int v7), .val (.ref r57), .unset, .unset, .unset] [(.ref o62), (.ref o62)]))
    obtain ⟨_, _, ⟨T195, L195, k195, n195⟩, -, X195, ⟨Lc195, hQ195, l195, y195, z195⟩, st195⟩ := X180.specialBack hx (y := (⟨"java/util/ArrayList", "<init>", "()V"⟩ : MethodName)) rfl hown (mvT hZ (hw _ (List.mem_of_getElem? (i := 37) rfl))) (mvT hZ (hw _ (List.mem_of_getElem? (i := 38) rfl))) (mvT hZ (hw _ (List.mem_of_getElem? (i := 39) rfl))) (by decide) (backOf (W := 1) (ar_rm l Z a0 hw [] (o62) (w_d) h180 n0 F185 A180 F193 F194 F187 ge183) hZ (hw _ (List.mem_of_getElem? (i := 39) rfl)) (hw _ (List.mem_of_getElem? (i := 36) rfl)) (by decide) (by decide)) (g := (mkF m 66 #[.val (.int p0), .val (.int p1), .val (.int p2), .val (.int v3), .val (.int (0 : Int32)), .val (.int v5), .val (.int v6), .val (.int v7), .val (.ref r57), .unset, .unset, .unset] [(.ref o62), (.ref o62)])) rfl (by rw [hml]; rfl) (Steps.refl _) (a := o62) (argsL := []) (rest := [(.ref o62)]) (lenOf own_pd0 rfl) rfl (by show 2 * 0 + _ ≤ _; exact Nat.le_of_eq rfl) (hb hby lw_d66) (fun _ _ => ⟨rfl, e180, (by decide : 7 + 0 ≤ _), (by decide : 15 + 0 ≤ _)⟩)
    dsimp only [Pt.U, Pt.locs, Pt.cells, Pt.slots] at X195 l195 y195 z195 st195 hQ195
    subst l195 y195 z195
    obtain ⟨rfl, N195q, K195, G196⟩ := hQ195
    have F197 : n0 ≤ T195.heap.size := Nat.le_trans F185 K195.1
    have F198 : Sta Z T195.heap "java/lang/String" "COMPACT_STRINGS" "Z" (.int w_z) := own_Sta_keep F186 K195 A180
    have F199 : Sta Z T195.heap "java/util/ArrayList" "DEFAULTCAPACITY_EMPTY_ELEMENTDATA" "[Ljava/lang/Object;" (.ref w_d) := own_Sta_keep F187 K195 A180
    have F200 : Keep h0 T195.heap [] := F188.trans K195 (allS (Or.inr gh184) all0)
    have F201 : T175.heap.size ≤ T195.heap.size := Nat.le_trans F189 K195.1
    have F202 : Exa Z T195.heap r57 "java/lang/String" := F190.keep K195
    have F203 : Fld Z T195.heap r57 "java/lang/String" "value" "[B" (.ref t57) := F191.keep K195 (ninS ne181 nin0)
    have F204 : own_Arf Z T195.heap t57 .byte 0 (fun i => (.int (f57 i))) := F192.keep K195 (ninS ne182 nin0)
    have F205 : Exa Z T195.heap o62 "java/util/ArrayList" := A180.keep K195
    have N195 := Fr.app N175 N195q
    refine own_trW st195 ?_
    show own_DW p e below s _ _ _ (T195.setTop (mkF m 69 #[.val (.int p0), .val (.int p1), .val (.int p2), .val (.int v3), .val (.int (0 : Int32)), .val (.int v5), .val (.int v6), .val (.int v7), .val (.ref r57), .unset, .unset, .unset] [(.ref o62)]))
    refine own_stW (fun _ k => XS.astore X195.here hx rfl (hb hby lw_d69) rfl rfl (l' := #[.val (.int p0), .val (.int p1), .val (.int p2), .val (.int v3), .val (.int (0 : Int32)), .val (.int v5), .val (.int v6), .val (.int v7), .val (.ref r57), .val (.ref o62), .unset, .unset]) rfl k) ?_
    show own_DW p e below s _ _ _ (T195.setTop (mkF m 71 #[.val (.int p0), .val (.int p1), .val (.int p2), .val (.int v3), .val (.int (0 : Int32)), .val (.int v5), .val (.int v6), .val (.int v7), .val (.ref r57), .val (.ref o62), .unset, .unset] []))
    obtain ⟨T206, h206, X206, e206, E206, A206, D206, -, st206⟩ := newO X195 hx hZ hown (hw _ (List.mem_of_getElem? (i := 58) rfl)) (hw _ (List.mem_of_getElem? (i := 59) rfl)) (hw _ (List.mem_of_getElem? (i := 60) rfl)) rfl (g := (mkF m 71 #[.val (.int p0), .val (.int p1), .val (.int p2), .val (.int v3), .val (.int (0 : Int32)), .val (.int v5), .val (.int v6), .val (.int v7), .val (.ref r57), .val (.ref o62), .unset, .unset] [])) rfl (hb hby lw_d71) (by decide) (by decide)
    obtain ⟨o71, g206⟩ : ∃ z, z = T195.heap.size := ⟨_, rfl⟩
    rw [← g206] at A206 D206 st206
    have ne207 : r57 ≠ o71 := Nat.ne_of_lt (Nat.lt_of_lt_of_le F202.lt (Nat.le_of_eq g206.symm))
    have ne208 : t57 ≠ o71 := Nat.ne_of_lt (Nat.lt_of_lt_of_le F204.lt (Nat.le_of_eq g206.symm))
    have ne209 : o62 ≠ o71 := Nat.ne_of_lt (Nat.lt_of_lt_of_le G196.lt (Nat.le_of_eq g206.symm))
    have ge210 : n0 ≤ o71 := Nat.le_trans F197 (Nat.le_of_eq g206.symm)
    have gh211 : h0.size ≤ o71 := Nat.le_trans F200.1 (Nat.le_of_eq g206.symm)
    have F212 : n0 ≤ h206.size := Nat.le_trans F197 E206.1
    have F213 : Sta Z h206 "java/lang/String" "COMPACT_STRINGS" "Z" (.int w_z) := F198.ext E206
    have F214 : Sta Z h206 "java/util/ArrayList" "DEFAULTCAPACITY_EMPTY_ELEMENTDATA" "[Ljava/lang/Object;" (.ref w_d) := F199.ext E206
    have F215 : Keep h0 h206 [] := F200.ext E206
    have F216 : T175.heap.size ≤ h206.size := Nat.le_trans F201 E206.1
    have F217 : Exa Z h206 r57 "java/lang/String" := F202.ext E206
    have F218 : Fld Z h206 r57 "java/lang/String" "value" "[B" (.ref t57) := F203.ext E206
    have F219 : own_Arf Z h206 t57 .byte 0 (fun i => (.int (f57 i))) := F204.ext E206
    have F220 : Exa Z h206 o62 "java/util/ArrayList" := G196.ext E206
    have F221 : Fld Z h206 o71 "com/example/stierlin/stierlin/protocol/OffsetCommitRequest" "groupId" "Ljava/lang/String;" .null := D206 (Or.inr (hw _ (List.mem_of_getElem? (i := 74) rfl))) (ty := (.object "java/lang/String")) (by decide)
    have F222 : Fld Z h206 o71 "com/example/stierlin/stierlin/protocol/OffsetCommitRequest" "generationId" "I" (.int (0 : Int32)) := D206 (Or.inr (hw _ (List.mem_of_getElem? (i := 76) rfl))) (ty := .int) (by decide)
    have F223 : Fld Z h206 o71 "com/example/stierlin/stierlin/protocol/OffsetCommitRequest" "memberId" "Ljava/lang/String;" .null := D206 (Or.inr (hw _ (List.mem_of_getElem? (i := 78) rfl))) (ty := (.object "java/lang/String")) (by decide)
    have F224 : Fld Z h206 o71 "com/example/stierlin/stierlin/protocol/OffsetCommitRequest" "groupInstanceId" "Ljava/lang/String;" .null := D206 (Or.inr (hw _ (List.mem_of_getElem? (i := 80) rfl))) (ty := (.object "java/lang/String")) (by decide)
    have F225 : Fld Z h206 o71 "com/example/stierlin/stierlin/protocol/OffsetCommitRequest" "topics" "Ljava/util/List;" .null := D206 (Or.inr (hw _ (List.mem_of_getElem? (i := 82) rfl))) (ty := (.object "java/util/List")) (by decide)
    refine own_stW st206 ?_
    show own_DW p e below s _ _ _ (T206.setTop (mkF m 74 #[.val (.int p0), .val (.int p1), .val (.int p2), .val (.int v3), .val (.int (0 : Int32)), .val (.int v5), .val (.int v6), .val (.int v7), .val (.ref r57), .val (.ref o62), .unset, .unset] [(.ref o71)]))
    refine own_stW (fun _ k => XS.dup X206.here hx rfl (hb hby lw_d74) rfl rfl k) ?_
    show own_DW p e below s _ _ _ (T206.setTop (mkF m 75 #[.val (.int p0), .val (.int p1), .val (.int p2), .val (.int v3), .val (.int (0 : Int32)), .val (.int v5), .val (.int v6), .val (.int v7), .val (.ref r57), .val (.ref o62), .unset, .unset] [(.ref o71), (.ref o71)]))
    obtain ⟨a75, T226, h226, k226, X226, e226, E226, hS226, hk226, hZ, hown, st226⟩ := ldcS (s := s) (vm0 := T175.vm) (text := "g") X206 hx hZ hown (hw _ (List.mem_of_getElem? (i := 61) rfl)) (own_wS hw) e206 hS175 F216 (g := (mkF m 75 #[.val (.int p0), .val (.int p1), .val (.int p2), .val (.int v3), .val (.int (0 : Int32)), .val (.int v5), .val (.int v6), .val (.int v7), .val (.ref r57), .val (.ref o62), .unset, .unset] [(.ref o71), (.ref o71)])) rfl (hb hby lw_d75) (n := 4) (by decide) (by decide) (by decide) (by decide)
    have F227 : n0 ≤ h226.size := Nat.le_trans F212 E226.1
    have F228 : Sta Z h226 "java/lang/String" "COMPACT_STRINGS" "Z" (.int w_z) := F213.ext E226
    have F229 : Sta Z h226 "java/util/ArrayList" "DEFAULTCAPACITY_EMPTY_ELEMENTDATA" "[Ljava/lang/Object;" (.ref w_d) := F214.ext E226
    have F230 : Keep h0 h226 [] := F215.ext E226
    have F231 : Exa Z h226 r57 "java/lang/String" := F217.ext E226
    have F232 : Fld Z h226 r57 "java/lang/String" "value" "[B" (.ref t57) := F218.ext E226
    have F233 : own_Arf Z h226 t57 .byte 0 (fun i => (.int (f57 i))) := F219.ext E226
    have F234 : Exa Z h226 o62 "java/util/ArrayList" := F220.ext E226
    have F235 : Exa Z h226 o71 "com/example/stierlin/stierlin/protocol/OffsetCommitRequest" := A206.ext E226
    have F236 : Fld Z h226 o71 "com/example/stierlin/stierlin/protocol/OffsetCommitRequest" "groupId" "Ljava/lang/String;" .null := F221.ext E226
    have F237 : Fld Z h226 o71 "com/example/stierlin/stierlin/protocol/OffsetCommitRequest" "generationId" "I" (.int (0 : Int32)) := F222.ext E226
    have F238 : Fld Z h226 o71 "com/example/stierlin/stierlin/protocol/OffsetCommitRequest" "memberId" "Ljava/lang/String;" .null := F223.ext E226
    have F239 : Fld Z h226 o71 "com/example/stierlin/stierlin/protocol/OffsetCommitRequest" "groupInstanceId" "Ljava/lang/String;" .null := F224.ext E226
    have F240 : Fld Z h226 o71 "com/example/stierlin/stierlin/protocol/OffsetCommitRequest" "topics" "Ljava/util/List;" .null := F225.ext E226
    refine own_stW st226 ?_
    show own_DW p e below s _ _ _ (T226.setTop (mkF m 77 #[.val (.int p0), .val (.int p1), .val (.int p2), .val (.int v3), .val (.int (0 : Int32)), .val (.int v5), .val (.int v6), .val (.int v7), .val (.ref r57), .val (.ref o62), .unset, .unset] [(.ref a75), (.ref o71), (.ref o71)]))
    refine own_stW (fun _ k => XS.iloadN X226.here hx rfl (hb hby lw_d77) rfl (XS.aload X226.here hx rfl (hb hby lw_d78) rfl rfl (XS.aconstNull X226.here hx rfl (hb hby lw_d80) (XS.aload X226.here hx rfl (hb hby lw_d81) rfl rfl k)))) ?_
    show own_DW p e below s _ _ _ (T226.setTop (mkF m 83 #[.val (.int p0), .val (.int p1), .val (.int p2), .val (.int v3), .val (.int (0 : Int32)), .val (.int v5), .val (.int v6), .val (.int v7), .val (.ref r57), .val (.ref o62), .unset, .unset] [(.ref o62), .null, (.ref r57), (.int v3), (.ref a75), (.ref o71), (.ref o71)]))
    obtain ⟨_, _, ⟨T241, L241, k241, n241⟩, -, X241, ⟨Lc241, hQ241, l241, y241, z241⟩, st241⟩ := X226.specialBack hx (y := (⟨"com/example/stierlin/stierlin/protocol/OffsetCommitRequest", "<init>", "(Ljava/lang/String;ILjava/lang/String;Ljava/lang/String;Ljava/util/List;)V"⟩ : MethodName)) rfl hown (mvT hZ (hw _ (List.mem_of_getElem? (i := 64) rfl))) (mvT hZ (hw _ (List.mem_of_getElem? (i := 65) rfl))) (mvT hZ (hw _ (List.mem_of_getElem? (i := 66) rfl))) (by decide) (backOf (W := 1) (oc_rm l Z a0 hw [] (o71) (a75) (v3) (r57) (o62) h226 n0 F227 F235 F236 F237 F238 F239 F240 ge210) hZ (hw _ (List.mem_of_getElem? (i := 66) rfl)) (hw _ (List.mem_of_getElem? (i := 60) rfl)) (by decide) (by decide)) (g := (mkF m 83 #[.val (.int p0), .val (.int p1), .val (.int p2), .val (.int v3), .val (.int (0 : Int32)), .val (.int v5), .val (.int v6), .val (.int v7), .val (.ref r57), .val (.ref o62), .unset, .unset] [(.ref o62), .null, (.ref r57), (.int v3), (.ref a75), (.ref o71), (.ref o71)])) rfl (by rw [hml]; rfl) (Steps.refl _) (a := o71) (argsL := [(.ref a75), (.int v3), (.ref r57), .null, (.ref o62)]) (rest := [(.ref o71)]) (lenOf own_pd5 rfl) rfl (by show 2 * 0 + _ ≤ _; exact Nat.le_of_eq rfl) (hb hby lw_d83) (fun _ _ => ⟨rfl, e226, (by decide : 10 + 0 ≤ _), (by decide : 28 + 0 ≤ _)⟩)
    dsimp only [Pt.U, Pt.locs, Pt.cells, Pt.slots] at X241 l241 y241 z241 st241 hQ241
    subst l241 y241 z241
    obtain ⟨rfl, N241q, K241, G242, G243, G244⟩ := hQ241
    have F245 : n0 ≤ T241.heap.size := Nat.le_trans F227 K241.1
    have F246 : Sta Z T241.heap "java/lang/String" "COMPACT_STRINGS" "Z" (.int w_z) := own_Sta_keep F228 K241 F235
    have F247 : Sta Z T241.heap "java/util/ArrayList" "DEFAULTCAPACITY_EMPTY_ELEMENTDATA" "[Ljava/lang/Object;" (.ref w_d) := own_Sta_keep F229 K241 F235
    have F248 : Keep h0 T241.heap [] := F230.trans K241 (allS (Or.inr gh211) all0)
    have F249 : Exa Z T241.heap r57 "java/lang/String" := F231.keep K241
    have F250 : Fld Z T241.heap r57 "java/lang/String" "value" "[B" (.ref t57) := F232.keep K241 (ninS ne207 nin0)
    have F251 : own_Arf Z T241.heap t57 .byte 0 (fun i => (.int (f57 i))) := F233.keep K241 (ninS ne208 nin0)
    have F252 : Exa Z T241.heap o62 "java/util/ArrayList" := F234.keep K241
    have F253 : Exa Z T241.heap o71 "com/example/stierlin/stierlin/protocol/OffsetCommitRequest" := F235.keep K241
    have F254 : k226 ≤ T241.heap.size := Nat.le_trans hk226 K241.1
    have N241 := Fr.app N195 N241q
    refine own_trW st241 ?_
    show own_DW p e below s _ _ _ (T241.setTop (mkF m 86 #[.val (.int p0), .val (.int p1), .val (.int p2), .val (.int v3), .val (.int (0 : Int32)), .val (.int v5), .val (.int v6), .val (.int v7), .val (.ref r57), .val (.ref o62), .unset, .unset] [(.ref o71)]))
    refine own_stW (fun _ k => XS.astore X241.here hx rfl (hb hby lw_d86) rfl rfl (l' := #[.val (.int p0), .val (.int p1), .val (.int p2), .val (.int v3), .val (.int (0 : Int32)), .val (.int v5), .val (.int v6), .val (.int v7), .val (.ref r57), .val (.ref o62), .val (.ref o71), .unset]) rfl (XS.iloadN X241.here hx rfl (hb hby lw_d88) rfl (XS.iconst X241.here hx rfl (hb hby lw_d89) k))) ?_
    show own_DW p e below s _ _ _ (T241.setTop (mkF m 90 #[.val (.int p0), .val (.int p1), .val (.int p2), .val (.int v3), .val (.int (0 : Int32)), .val (.int v5), .val (.int v6), .val (.int v7), .val (.ref r57), .val (.ref o62), .val (.ref o71), .unset] [(.int (-1 : Int32)), (.int v3)]))
    by_cases hc255 : v3 = (-1 : Int32)
    · refine own_stW (fun _ k => XS.icmpNo X241.here hx rfl (hb hby lw_d90) rfl (teq hc255).2 k) ?_
      show own_DW p e below s _ _ _ (T241.setTop (mkF m 93 #[.val (.int p0), .val (.int p1), .val (.int p2), .val (.int v3), .val (.int (0 : Int32)), .val (.int v5), .val (.int v6), .val (.int v7), .val (.ref r57), .val (.ref o62), .val (.ref o71), .unset] []))
      refine own_stW (fun _ k => XS.iload X241.here hx rfl (hb hby lw_d93) rfl k) ?_
      show own_DW p e below s _ _ _ (T241.setTop (mkF m 95 #[.val (.int p0), .val (.int p1), .val (.int p2), .val (.int v3), .val (.int (0 : Int32)), .val (.int v5), .val (.int v6), .val (.int v7), .val (.ref r57), .val (.ref o62), .val (.ref o71), .unset] [(.int (0 : Int32))]))
      refine own_stW (fun _ k => XS.ifNo X241.here hx rfl (hb hby lw_d95) rfl ((if0 _ _).trans (teq (by decide : (0 : Int32) = (0 : Int32))).2) k) ?_
      show own_DW p e below s _ _ _ (T241.setTop (mkF m 98 #[.val (.int p0), .val (.int p1), .val (.int p2), .val (.int v3), .val (.int (0 : Int32)), .val (.int v5), .val (.int v6), .val (.int v7), .val (.ref r57), .val (.ref o62), .val (.ref o71), .unset] []))
      refine own_stW (fun _ k => XS.iconst X241.here hx rfl (hb hby lw_d98) (XS.goto X241.here hx rfl (pc0 := 99) (pc' := 103) rfl (hb hby lw_d99) (by decide) (by decide) (XS.istore X241.here hx rfl (hb hby lw_d103) rfl (l' := #[.val (.int p0), .val (.int p1), .val (.int p2), .val (.int v3), .val (.int (0 : Int32)), .val (.int v5), .val (.int v6), .val (.int v7), .val (.ref r57), .val (.ref o62), .val (.ref o71), .val (.int (1 : Int32))]) rfl (XS.aload X241.here hx rfl (hb hby lw_d105) rfl rfl k)))) ?_
      show own_DW p e below s _ _ _ (T241.setTop (mkF m 107 #[.val (.int p0), .val (.int p1), .val (.int p2), .val (.int v3), .val (.int (0 : Int32)), .val (.int v5), .val (.int v6), .val (.int v7), .val (.ref r57), .val (.ref o62), .val (.ref o71), .val (.int (1 : Int32))] [(.ref o71)]))
      obtain ⟨cq256, kq256, q256a, q256b, q256c⟩ := isOf hZ rfl G242
      obtain ⟨_, _, ⟨T256, L256, k256, n256⟩, -, X256, ⟨Lc256, hQ256, l256, y256, z256⟩, st256⟩ := X241.virtualBack hx (y := (⟨"com/example/stierlin/stierlin/protocol/OffsetCommitRequest", "fromOutsideMembership", "()Z"⟩ : MethodName)) (z := (⟨"com/example/stierlin/stierlin/protocol/OffsetCommitRequest", "fromOutsideMembership", "()Z"⟩ : MethodName)) hown (mvT hZ (hw _ (List.mem_of_getElem? (i := 83) rfl))) (mvT hZ (hw _ (List.mem_of_getElem? (i := 84) rfl))) (notFace_of_selects (args := #[]) (mvT hZ (hw _ (List.mem_of_getElem? (i := 86) rfl)))) (mvT hZ (hw _ (List.mem_of_getElem? (i := 86) rfl))) (mvT hZ (hw _ (List.mem_of_getElem? (i := 85) rfl))) (by decide) (backOf (W := 0) (fo_rm l Z a0 hw [] (o71) (v3) (r57) (t57) (0) (f57) T241.heap n0 F245 G243 G244 F249 F250 F251) hZ (hw _ (List.mem_of_getElem? (i := 87) rfl)) (hw _ (List.mem_of_getElem? (i := 60) rfl)) (by decide) (by decide)) q256a q256c (g := (mkF m 107 #[.val (.int p0), .val (.int p1), .val (.int p2), .val (.int v3), .val (.int (0 : Int32)), .val (.int v5), .val (.int v6), .val (.int v7), .val (.ref r57), .val (.ref o62), .val (.ref o71), .val (.int (1 : Int32))] [(.ref o71)])) rfl (by rw [hml]; rfl) (Steps.refl _) (argsL := []) (rest := []) (lenOf own_pd1 rfl) rfl (by show 2 * 0 + _ ≤ _; exact Nat.le_of_eq rfl) (hb hby lw_d107) (fun _ _ => ⟨rfl, rfl, (by decide : 10 + 0 ≤ _), (by decide : 28 + 0 ≤ _)⟩)
      dsimp only [Pt.U, Pt.locs, Pt.cells, Pt.slots] at X256 l256 y256 z256 st256 hQ256
      subst l256 y256 z256
      obtain ⟨rfl, N256q, e256⟩ := hQ256
      have N256 := Fr.app N241 N256q
      refine own_trW st256 ?_
      have hfo257 : (fo_f v3 0 f57) = (1 : Int32) := own_fo0 _ _ hc255
      show own_DW p e below s _ _ _ (T256.setTop (mkF m 110 #[.val (.int p0), .val (.int p1), .val (.int p2), .val (.int v3), .val (.int (0 : Int32)), .val (.int v5), .val (.int v6), .val (.int v7), .val (.ref r57), .val (.ref o62), .val (.ref o71), .val (.int (1 : Int32))] [(.int (fo_f v3 0 f57))]))
      refine own_stW (fun _ k => XS.iload X256.here hx rfl (hb hby lw_d110) rfl k) ?_
      show own_DW p e below s _ _ _ (T256.setTop (mkF m 112 #[.val (.int p0), .val (.int p1), .val (.int p2), .val (.int v3), .val (.int (0 : Int32)), .val (.int v5), .val (.int v6), .val (.int v7), .val (.ref r57), .val (.ref o62), .val (.ref o71), .val (.int (1 : Int32))] [(.int (1 : Int32)), (.int (fo_f v3 0 f57))]))
      refine own_stW (fun _ k => XS.icmpNo X256.here hx rfl (hb hby lw_d112) rfl (teq hfo257).2 k) ?_
      show own_DW p e below s _ _ _ (T256.setTop (mkF m 115 #[.val (.int p0), .val (.int p1), .val (.int p2), .val (.int v3), .val (.int (0 : Int32)), .val (.int v5), .val (.int v6), .val (.int v7), .val (.ref r57), .val (.ref o62), .val (.ref o71), .val (.int (1 : Int32))] []))
      refine own_stW (fun _ k => XS.iconst X256.here hx rfl (hb hby lw_d115) (XS.goto X256.here hx rfl (pc0 := 116) (pc' := 120) rfl (hb hby lw_d116) (by decide) (by decide) k)) ?_
      show own_DW p e below s _ _ _ (T256.setTop (mkF m 120 #[.val (.int p0), .val (.int p1), .val (.int p2), .val (.int v3), .val (.int (0 : Int32)), .val (.int v5), .val (.int v6), .val (.int v7), .val (.ref r57), .val (.ref o62), .val (.ref o71), .val (.int (1 : Int32))] [(.int (1 : Int32))]))
      have eqH : T256.heap = T241.heap := e256
      exact own_retZW (s := s) (vm0 := T226.vm) X256 hS226 (own_hk eqH F254) hx hret hlk (by decide) (hb hby lw_d120) (by decide) (by decide) (by rw [eqH]; exact ⟨(by rw [hr0, lw_f49, if_pos rfl, if_pos hc255]), N256, F248⟩)
    · refine own_stW (fun _ k => XS.icmpYes X241.here hx rfl (pc0 := 90) (pc' := 102) rfl (hb hby lw_d90) rfl (feq hc255).2 (by decide) (by decide) k) ?_
      show own_DW p e below s _ _ _ (T241.setTop (mkF m 102 #[.val (.int p0), .val (.int p1), .val (.int p2), .val (.int v3), .val (.int (0 : Int32)), .val (.int v5), .val (.int v6), .val (.int v7), .val (.ref r57), .val (.ref o62), .val (.ref o71), .unset] []))
      refine own_stW (fun _ k => XS.iconst X241.here hx rfl (hb hby lw_d102) (XS.istore X241.here hx rfl (hb hby lw_d103) rfl (l' := #[.val (.int p0), .val (.int p1), .val (.int p2), .val (.int v3), .val (.int (0 : Int32)), .val (.int v5), .val (.int v6), .val (.int v7), .val (.ref r57), .val (.ref o62), .val (.ref o71), .val (.int (0 : Int32))]) rfl (XS.aload X241.here hx rfl (hb hby lw_d105) rfl rfl k))) ?_
      show own_DW p e below s _ _ _ (T241.setTop (mkF m 107 #[.val (.int p0), .val (.int p1), .val (.int p2), .val (.int v3), .val (.int (0 : Int32)), .val (.int v5), .val (.int v6), .val (.int v7), .val (.ref r57), .val (.ref o62), .val (.ref o71), .val (.int (0 : Int32))] [(.ref o71)]))
      obtain ⟨cq258, kq258, q258a, q258b, q258c⟩ := isOf hZ rfl G242
      obtain ⟨_, _, ⟨T258, L258, k258, n258⟩, -, X258, ⟨Lc258, hQ258, l258, y258, z258⟩, st258⟩ := X241.virtualBack hx (y := (⟨"com/example/stierlin/stierlin/protocol/OffsetCommitRequest", "fromOutsideMembership", "()Z"⟩ : MethodName)) (z := (⟨"com/example/stierlin/stierlin/protocol/OffsetCommitRequest", "fromOutsideMembership", "()Z"⟩ : MethodName)) hown (mvT hZ (hw _ (List.mem_of_getElem? (i := 83) rfl))) (mvT hZ (hw _ (List.mem_of_getElem? (i := 84) rfl))) (notFace_of_selects (args := #[]) (mvT hZ (hw _ (List.mem_of_getElem? (i := 86) rfl)))) (mvT hZ (hw _ (List.mem_of_getElem? (i := 86) rfl))) (mvT hZ (hw _ (List.mem_of_getElem? (i := 85) rfl))) (by decide) (backOf (W := 0) (fo_rm l Z a0 hw [] (o71) (v3) (r57) (t57) (0) (f57) T241.heap n0 F245 G243 G244 F249 F250 F251) hZ (hw _ (List.mem_of_getElem? (i := 87) rfl)) (hw _ (List.mem_of_getElem? (i := 60) rfl)) (by decide) (by decide)) q258a q258c (g := (mkF m 107 #[.val (.int p0), .val (.int p1), .val (.int p2), .val (.int v3), .val (.int (0 : Int32)), .val (.int v5), .val (.int v6), .val (.int v7), .val (.ref r57), .val (.ref o62), .val (.ref o71), .val (.int (0 : Int32))] [(.ref o71)])) rfl (by rw [hml]; rfl) (Steps.refl _) (argsL := []) (rest := []) (lenOf own_pd1 rfl) rfl (by show 2 * 0 + _ ≤ _; exact Nat.le_of_eq rfl) (hb hby lw_d107) (fun _ _ => ⟨rfl, rfl, (by decide : 10 + 0 ≤ _), (by decide : 28 + 0 ≤ _)⟩)
      dsimp only [Pt.U, Pt.locs, Pt.cells, Pt.slots] at X258 l258 y258 z258 st258 hQ258
      subst l258 y258 z258
      obtain ⟨rfl, N258q, e258⟩ := hQ258
      have N258 := Fr.app N241 N258q
      refine own_trW st258 ?_
      have hfo259 : (fo_f v3 0 f57) = (0 : Int32) := own_fo0n _ _ hc255
      show own_DW p e below s _ _ _ (T258.setTop (mkF m 110 #[.val (.int p0), .val (.int p1), .val (.int p2), .val (.int v3), .val (.int (0 : Int32)), .val (.int v5), .val (.int v6), .val (.int v7), .val (.ref r57), .val (.ref o62), .val (.ref o71), .val (.int (0 : Int32))] [(.int (fo_f v3 0 f57))]))
      refine own_stW (fun _ k => XS.iload X258.here hx rfl (hb hby lw_d110) rfl k) ?_
      show own_DW p e below s _ _ _ (T258.setTop (mkF m 112 #[.val (.int p0), .val (.int p1), .val (.int p2), .val (.int v3), .val (.int (0 : Int32)), .val (.int v5), .val (.int v6), .val (.int v7), .val (.ref r57), .val (.ref o62), .val (.ref o71), .val (.int (0 : Int32))] [(.int (0 : Int32)), (.int (fo_f v3 0 f57))]))
      refine own_stW (fun _ k => XS.icmpNo X258.here hx rfl (hb hby lw_d112) rfl (teq hfo259).2 k) ?_
      show own_DW p e below s _ _ _ (T258.setTop (mkF m 115 #[.val (.int p0), .val (.int p1), .val (.int p2), .val (.int v3), .val (.int (0 : Int32)), .val (.int v5), .val (.int v6), .val (.int v7), .val (.ref r57), .val (.ref o62), .val (.ref o71), .val (.int (0 : Int32))] []))
      refine own_stW (fun _ k => XS.iconst X258.here hx rfl (hb hby lw_d115) (XS.goto X258.here hx rfl (pc0 := 116) (pc' := 120) rfl (hb hby lw_d116) (by decide) (by decide) k)) ?_
      show own_DW p e below s _ _ _ (T258.setTop (mkF m 120 #[.val (.int p0), .val (.int p1), .val (.int p2), .val (.int v3), .val (.int (0 : Int32)), .val (.int v5), .val (.int v6), .val (.int v7), .val (.ref r57), .val (.ref o62), .val (.ref o71), .val (.int (0 : Int32))] [(.int (1 : Int32))]))
      have eqH : T258.heap = T241.heap := e258
      exact own_retZW (s := s) (vm0 := T226.vm) X258 hS226 (own_hk eqH F254) hx hret hlk (by decide) (hb hby lw_d120) (by decide) (by decide) (by rw [eqH]; exact ⟨(by rw [hr0, lw_f49, if_pos rfl, if_neg hc255]), N258, F248⟩)
  · obtain ⟨_, _, ⟨T260, L260, k260, n260⟩, -, X260, ⟨Lc260, hQ260, l260, y260, z260⟩, st260⟩ := Jvm.LawKit.callS X0 hx (y := (⟨"com/example/stierlin/stierlin/protocol/OffsetCommitRequestFromOutsideMembershipPinLaw", "make", "(ICCC)Ljava/lang/String;"⟩ : MethodName)) hown (mvT hZ (hw _ (List.mem_of_getElem? (i := 0) rfl))) (mvT hZ (hw _ (List.mem_of_getElem? (i := 1) rfl))) (mvT hZ (hw _ (List.mem_of_getElem? (i := 2) rfl))) (mvT hZ (hw _ (List.mem_of_getElem? (i := 3) rfl))) (by decide) (backOf (W := 0) (mk_rm l Z a0 hw [] (v4) (v5) (v6) (v7) (w_z) h1 n0 Z0 P1 hc174 hi0.2.2.2 ⟨hi0.1, hi0.2.1, hi0.2.2.1⟩) hZ (hw _ (List.mem_of_getElem? (i := 3) rfl)) (hw _ (List.mem_of_getElem? (i := 2) rfl)) (by decide) (by decide)) (g := (mkF m 57 #[.val (.int p0), .val (.int p1), .val (.int p2), .val (.int v3), .val (.int v4), .val (.int v5), .val (.int v6), .val (.int v7), .unset, .unset, .unset, .unset] [(.int v7), (.int v6), (.int v5), (.int v4)])) rfl (by rw [hml]; rfl) (argsL := [(.int v4), (.int v5), (.int v6), (.int v7)]) (rest := []) (lenOf own_pd4 rfl) rfl (by show 2 * 0 + _ ≤ _; exact Nat.le_of_eq rfl) (hb hby lw_d57) (fun _ _ => ⟨rfl, e0, (by decide : 0 + 3 ≤ _), (by decide : 0 + 10 ≤ _)⟩)
    dsimp only [Pt.U, Pt.locs, Pt.cells, Pt.slots] at X260 l260 y260 z260 st260 hQ260
    subst l260 y260 z260
    obtain ⟨r57, rfl, N260q, K260, E260, t57, n57, f57, hn57, V260, A260⟩ := hQ260
    have F261 : n0 ≤ T260.heap.size := Nat.le_trans Z0 K260.1
    have F262 : Sta Z T260.heap "java/lang/String" "COMPACT_STRINGS" "Z" (.int w_z) := own_Sta_keep0 P1 K260
    have F263 : Sta Z T260.heap "java/util/ArrayList" "DEFAULTCAPACITY_EMPTY_ELEMENTDATA" "[Ljava/lang/Object;" (.ref w_d) := own_Sta_keep0 P2 K260
    have F264 : Keep h0 T260.heap [] := K0.trans K260 all0
    have N260 := Fr.app N0 N260q
    refine own_stW st260 ?_
    show own_DW p e below s _ _ _ (T260.setTop (mkF m 60 #[.val (.int p0), .val (.int p1), .val (.int p2), .val (.int v3), .val (.int v4), .val (.int v5), .val (.int v6), .val (.int v7), .unset, .unset, .unset, .unset] [(.ref r57)]))
    refine own_stW (fun _ k => XS.astore X260.here hx rfl (hb hby lw_d60) rfl rfl (l' := #[.val (.int p0), .val (.int p1), .val (.int p2), .val (.int v3), .val (.int v4), .val (.int v5), .val (.int v6), .val (.int v7), .val (.ref r57), .unset, .unset, .unset]) rfl k) ?_
    show own_DW p e below s _ _ _ (T260.setTop (mkF m 62 #[.val (.int p0), .val (.int p1), .val (.int p2), .val (.int v3), .val (.int v4), .val (.int v5), .val (.int v6), .val (.int v7), .val (.ref r57), .unset, .unset, .unset] []))
    obtain ⟨T265, h265, X265, e265, E265, A265, D265, -, st265⟩ := newO X260 hx hZ hown (hw _ (List.mem_of_getElem? (i := 34) rfl)) (hw _ (List.mem_of_getElem? (i := 35) rfl)) (hw _ (List.mem_of_getElem? (i := 36) rfl)) rfl (g := (mkF m 62 #[.val (.int p0), .val (.int p1), .val (.int p2), .val (.int v3), .val (.int v4), .val (.int v5), .val (.int v6), .val (.int v7), .val (.ref r57), .unset, .unset, .unset] [])) rfl (hb hby lw_d62) (by decide) (by decide)
    obtain ⟨o62, g265⟩ : ∃ z, z = T260.heap.size := ⟨_, rfl⟩
    rw [← g265] at A265 D265 st265
    have ne266 : r57 ≠ o62 := Nat.ne_of_lt (Nat.lt_of_lt_of_le E260.lt (Nat.le_of_eq g265.symm))
    have ne267 : t57 ≠ o62 := Nat.ne_of_lt (Nat.lt_of_lt_of_le A260.lt (Nat.le_of_eq g265.symm))
    have ge268 : n0 ≤ o62 := Nat.le_trans F261 (Nat.le_of_eq g265.symm)
    have gh269 : h0.size ≤ o62 := Nat.le_trans F264.1 (Nat.le_of_eq g265.symm)
    have F270 : n0 ≤ h265.size := Nat.le_trans F261 E265.1
    have F271 : Sta Z h265 "java/lang/String" "COMPACT_STRINGS" "Z" (.int w_z) := F262.ext E265
    have F272 : Sta Z h265 "java/util/ArrayList" "DEFAULTCAPACITY_EMPTY_ELEMENTDATA" "[Ljava/lang/Object;" (.ref w_d) := F263.ext E265
    have F273 : Keep h0 h265 [] := F264.ext E265
    have F274 : 0 ≤ h265.size := Nat.le_trans (Nat.zero_le _) E265.1
    have F275 : Exa Z h265 r57 "java/lang/String" := E260.ext E265
    have F276 : Fld Z h265 r57 "java/lang/String" "value" "[B" (.ref t57) := V260.ext E265
    have F277 : own_Arf Z h265 t57 .byte n57 (fun i => (.int (f57 i))) := A260.ext E265
    have F278 : Fld Z h265 o62 "java/util/AbstractList" "modCount" "I" (.int (0 : Int32)) := D265 (Or.inl (hw _ (List.mem_of_getElem? (i := 54) rfl))) (ty := .int) (by decide)
    have F279 : Fld Z h265 o62 "java/util/ArrayList" "elementData" "[Ljava/lang/Object;" .null := D265 (Or.inl (hw _ (List.mem_of_getElem? (i := 57) rfl))) (ty := (.array (.object "java/lang/Object"))) (by decide)
    refine own_stW st265 ?_
    show own_DW p e below s _ _ _ (T265.setTop (mkF m 65 #[.val (.int p0), .val (.int p1), .val (.int p2), .val (.int v3), .val (.int v4), .val (.int v5), .val (.int v6), .val (.int v7), .val (.ref r57), .unset, .unset, .unset] [(.ref o62)]))
    refine own_stW (fun _ k => XS.dup X265.here hx rfl (hb hby lw_d65) rfl rfl k) ?_
    show own_DW p e below s _ _ _ (T265.setTop (mkF m 66 #[.val (.int p0), .val (.int p1), .val (.int p2), .val (.int v3), .val (.int v4), .val (.int v5), .val (.int v6), .val (.int v7), .val (.ref r57), .unset, .unset, .unset] [(.ref o62), (.ref o62)]))
    obtain ⟨_, _, ⟨T280, L280, k280, n280⟩, -, X280, ⟨Lc280, hQ280, l280, y280, z280⟩, st280⟩ := X265.specialBack hx (y := (⟨"java/util/ArrayList", "<init>", "()V"⟩ : MethodName)) rfl hown (mvT hZ (hw _ (List.mem_of_getElem? (i := 37) rfl))) (mvT hZ (hw _ (List.mem_of_getElem? (i := 38) rfl))) (mvT hZ (hw _ (List.mem_of_getElem? (i := 39) rfl))) (by decide) (backOf (W := 1) (ar_rm l Z a0 hw [] (o62) (w_d) h265 n0 F270 A265 F278 F279 F272 ge268) hZ (hw _ (List.mem_of_getElem? (i := 39) rfl)) (hw _ (List.mem_of_getElem? (i := 36) rfl)) (by decide) (by decide)) (g := (mkF m 66 #[.val (.int p0), .val (.int p1), .val (.int p2), .val (.int v3), .val (.int v4), .val (.int v5), .val (.int v6), .val (.int v7), .val (.ref r57), .unset, .unset, .unset] [(.ref o62), (.ref o62)])) rfl (by rw [hml]; rfl) (Steps.refl _) (a := o62) (argsL := []) (rest := [(.ref o62)]) (lenOf own_pd0 rfl) rfl (by show 2 * 0 + _ ≤ _; exact Nat.le_of_eq rfl) (hb hby lw_d66) (fun _ _ => ⟨rfl, e265, (by decide : 4 + 0 ≤ _), (by decide : 13 + 0 ≤ _)⟩)
    dsimp only [Pt.U, Pt.locs, Pt.cells, Pt.slots] at X280 l280 y280 z280 st280 hQ280
    subst l280 y280 z280
    obtain ⟨rfl, N280q, K280, G281⟩ := hQ280
    have F282 : n0 ≤ T280.heap.size := Nat.le_trans F270 K280.1
    have F283 : Sta Z T280.heap "java/lang/String" "COMPACT_STRINGS" "Z" (.int w_z) := own_Sta_keep F271 K280 A265
    have F284 : Sta Z T280.heap "java/util/ArrayList" "DEFAULTCAPACITY_EMPTY_ELEMENTDATA" "[Ljava/lang/Object;" (.ref w_d) := own_Sta_keep F272 K280 A265
    have F285 : Keep h0 T280.heap [] := F273.trans K280 (allS (Or.inr gh269) all0)
    have F286 : 0 ≤ T280.heap.size := Nat.le_trans F274 K280.1
    have F287 : Exa Z T280.heap r57 "java/lang/String" := F275.keep K280
    have F288 : Fld Z T280.heap r57 "java/lang/String" "value" "[B" (.ref t57) := F276.keep K280 (ninS ne266 nin0)
    have F289 : own_Arf Z T280.heap t57 .byte n57 (fun i => (.int (f57 i))) := F277.keep K280 (ninS ne267 nin0)
    have F290 : Exa Z T280.heap o62 "java/util/ArrayList" := A265.keep K280
    have N280 := Fr.app N260 N280q
    refine own_trW st280 ?_
    show own_DW p e below s _ _ _ (T280.setTop (mkF m 69 #[.val (.int p0), .val (.int p1), .val (.int p2), .val (.int v3), .val (.int v4), .val (.int v5), .val (.int v6), .val (.int v7), .val (.ref r57), .unset, .unset, .unset] [(.ref o62)]))
    refine own_stW (fun _ k => XS.astore X280.here hx rfl (hb hby lw_d69) rfl rfl (l' := #[.val (.int p0), .val (.int p1), .val (.int p2), .val (.int v3), .val (.int v4), .val (.int v5), .val (.int v6), .val (.int v7), .val (.ref r57), .val (.ref o62), .unset, .unset]) rfl k) ?_
    show own_DW p e below s _ _ _ (T280.setTop (mkF m 71 #[.val (.int p0), .val (.int p1), .val (.int p2), .val (.int v3), .val (.int v4), .val (.int v5), .val (.int v6), .val (.int v7), .val (.ref r57), .val (.ref o62), .unset, .unset] []))
    obtain ⟨T291, h291, X291, e291, E291, A291, D291, -, st291⟩ := newO X280 hx hZ hown (hw _ (List.mem_of_getElem? (i := 58) rfl)) (hw _ (List.mem_of_getElem? (i := 59) rfl)) (hw _ (List.mem_of_getElem? (i := 60) rfl)) rfl (g := (mkF m 71 #[.val (.int p0), .val (.int p1), .val (.int p2), .val (.int v3), .val (.int v4), .val (.int v5), .val (.int v6), .val (.int v7), .val (.ref r57), .val (.ref o62), .unset, .unset] [])) rfl (hb hby lw_d71) (by decide) (by decide)
    obtain ⟨o71, g291⟩ : ∃ z, z = T280.heap.size := ⟨_, rfl⟩
    rw [← g291] at A291 D291 st291
    have ne292 : r57 ≠ o71 := Nat.ne_of_lt (Nat.lt_of_lt_of_le F287.lt (Nat.le_of_eq g291.symm))
    have ne293 : t57 ≠ o71 := Nat.ne_of_lt (Nat.lt_of_lt_of_le F289.lt (Nat.le_of_eq g291.symm))
    have ne294 : o62 ≠ o71 := Nat.ne_of_lt (Nat.lt_of_lt_of_le G281.lt (Nat.le_of_eq g291.symm))
    have ge295 : n0 ≤ o71 := Nat.le_trans F282 (Nat.le_of_eq g291.symm)
    have gh296 : h0.size ≤ o71 := Nat.le_trans F285.1 (Nat.le_of_eq g291.symm)
    have F297 : n0 ≤ h291.size := Nat.le_trans F282 E291.1
    have F298 : Sta Z h291 "java/lang/String" "COMPACT_STRINGS" "Z" (.int w_z) := F283.ext E291
    have F299 : Sta Z h291 "java/util/ArrayList" "DEFAULTCAPACITY_EMPTY_ELEMENTDATA" "[Ljava/lang/Object;" (.ref w_d) := F284.ext E291
    have F300 : Keep h0 h291 [] := F285.ext E291
    have F301 : 0 ≤ h291.size := Nat.le_trans F286 E291.1
    have F302 : Exa Z h291 r57 "java/lang/String" := F287.ext E291
    have F303 : Fld Z h291 r57 "java/lang/String" "value" "[B" (.ref t57) := F288.ext E291
    have F304 : own_Arf Z h291 t57 .byte n57 (fun i => (.int (f57 i))) := F289.ext E291
    have F305 : Exa Z h291 o62 "java/util/ArrayList" := G281.ext E291
    have F306 : Fld Z h291 o71 "com/example/stierlin/stierlin/protocol/OffsetCommitRequest" "groupId" "Ljava/lang/String;" .null := D291 (Or.inr (hw _ (List.mem_of_getElem? (i := 74) rfl))) (ty := (.object "java/lang/String")) (by decide)
    have F307 : Fld Z h291 o71 "com/example/stierlin/stierlin/protocol/OffsetCommitRequest" "generationId" "I" (.int (0 : Int32)) := D291 (Or.inr (hw _ (List.mem_of_getElem? (i := 76) rfl))) (ty := .int) (by decide)
    have F308 : Fld Z h291 o71 "com/example/stierlin/stierlin/protocol/OffsetCommitRequest" "memberId" "Ljava/lang/String;" .null := D291 (Or.inr (hw _ (List.mem_of_getElem? (i := 78) rfl))) (ty := (.object "java/lang/String")) (by decide)
    have F309 : Fld Z h291 o71 "com/example/stierlin/stierlin/protocol/OffsetCommitRequest" "groupInstanceId" "Ljava/lang/String;" .null := D291 (Or.inr (hw _ (List.mem_of_getElem? (i := 80) rfl))) (ty := (.object "java/lang/String")) (by decide)
    have F310 : Fld Z h291 o71 "com/example/stierlin/stierlin/protocol/OffsetCommitRequest" "topics" "Ljava/util/List;" .null := D291 (Or.inr (hw _ (List.mem_of_getElem? (i := 82) rfl))) (ty := (.object "java/util/List")) (by decide)
    refine own_stW st291 ?_
    show own_DW p e below s _ _ _ (T291.setTop (mkF m 74 #[.val (.int p0), .val (.int p1), .val (.int p2), .val (.int v3), .val (.int v4), .val (.int v5), .val (.int v6), .val (.int v7), .val (.ref r57), .val (.ref o62), .unset, .unset] [(.ref o71)]))
    refine own_stW (fun _ k => XS.dup X291.here hx rfl (hb hby lw_d74) rfl rfl k) ?_
    show own_DW p e below s _ _ _ (T291.setTop (mkF m 75 #[.val (.int p0), .val (.int p1), .val (.int p2), .val (.int v3), .val (.int v4), .val (.int v5), .val (.int v6), .val (.int v7), .val (.ref r57), .val (.ref o62), .unset, .unset] [(.ref o71), (.ref o71)]))
    obtain ⟨a75, T311, h311, k311, X311, e311, E311, hS311, hk311, hZ, hown, st311⟩ := ldcS (s := s) (vm0 := s.vm) (text := "g") X291 hx hZ hown (hw _ (List.mem_of_getElem? (i := 61) rfl)) (own_wS hw) e291 (own_since0 s) F301 (g := (mkF m 75 #[.val (.int p0), .val (.int p1), .val (.int p2), .val (.int v3), .val (.int v4), .val (.int v5), .val (.int v6), .val (.int v7), .val (.ref r57), .val (.ref o62), .unset, .unset] [(.ref o71), (.ref o71)])) rfl (hb hby lw_d75) (n := 4) (by decide) (by decide) (by decide) (by decide)
    have F312 : n0 ≤ h311.size := Nat.le_trans F297 E311.1
    have F313 : Sta Z h311 "java/lang/String" "COMPACT_STRINGS" "Z" (.int w_z) := F298.ext E311
    have F314 : Sta Z h311 "java/util/ArrayList" "DEFAULTCAPACITY_EMPTY_ELEMENTDATA" "[Ljava/lang/Object;" (.ref w_d) := F299.ext E311
    have F315 : Keep h0 h311 [] := F300.ext E311
    have F316 : Exa Z h311 r57 "java/lang/String" := F302.ext E311
    have F317 : Fld Z h311 r57 "java/lang/String" "value" "[B" (.ref t57) := F303.ext E311
    have F318 : own_Arf Z h311 t57 .byte n57 (fun i => (.int (f57 i))) := F304.ext E311
    have F319 : Exa Z h311 o62 "java/util/ArrayList" := F305.ext E311
    have F320 : Exa Z h311 o71 "com/example/stierlin/stierlin/protocol/OffsetCommitRequest" := A291.ext E311
    have F321 : Fld Z h311 o71 "com/example/stierlin/stierlin/protocol/OffsetCommitRequest" "groupId" "Ljava/lang/String;" .null := F306.ext E311
    have F322 : Fld Z h311 o71 "com/example/stierlin/stierlin/protocol/OffsetCommitRequest" "generationId" "I" (.int (0 : Int32)) := F307.ext E311
    have F323 : Fld Z h311 o71 "com/example/stierlin/stierlin/protocol/OffsetCommitRequest" "memberId" "Ljava/lang/String;" .null := F308.ext E311
    have F324 : Fld Z h311 o71 "com/example/stierlin/stierlin/protocol/OffsetCommitRequest" "groupInstanceId" "Ljava/lang/String;" .null := F309.ext E311
    have F325 : Fld Z h311 o71 "com/example/stierlin/stierlin/protocol/OffsetCommitRequest" "topics" "Ljava/util/List;" .null := F310.ext E311
    refine own_stW st311 ?_
    show own_DW p e below s _ _ _ (T311.setTop (mkF m 77 #[.val (.int p0), .val (.int p1), .val (.int p2), .val (.int v3), .val (.int v4), .val (.int v5), .val (.int v6), .val (.int v7), .val (.ref r57), .val (.ref o62), .unset, .unset] [(.ref a75), (.ref o71), (.ref o71)]))
    refine own_stW (fun _ k => XS.iloadN X311.here hx rfl (hb hby lw_d77) rfl (XS.aload X311.here hx rfl (hb hby lw_d78) rfl rfl (XS.aconstNull X311.here hx rfl (hb hby lw_d80) (XS.aload X311.here hx rfl (hb hby lw_d81) rfl rfl k)))) ?_
    show own_DW p e below s _ _ _ (T311.setTop (mkF m 83 #[.val (.int p0), .val (.int p1), .val (.int p2), .val (.int v3), .val (.int v4), .val (.int v5), .val (.int v6), .val (.int v7), .val (.ref r57), .val (.ref o62), .unset, .unset] [(.ref o62), .null, (.ref r57), (.int v3), (.ref a75), (.ref o71), (.ref o71)]))
    obtain ⟨_, _, ⟨T326, L326, k326, n326⟩, -, X326, ⟨Lc326, hQ326, l326, y326, z326⟩, st326⟩ := X311.specialBack hx (y := (⟨"com/example/stierlin/stierlin/protocol/OffsetCommitRequest", "<init>", "(Ljava/lang/String;ILjava/lang/String;Ljava/lang/String;Ljava/util/List;)V"⟩ : MethodName)) rfl hown (mvT hZ (hw _ (List.mem_of_getElem? (i := 64) rfl))) (mvT hZ (hw _ (List.mem_of_getElem? (i := 65) rfl))) (mvT hZ (hw _ (List.mem_of_getElem? (i := 66) rfl))) (by decide) (backOf (W := 1) (oc_rm l Z a0 hw [] (o71) (a75) (v3) (r57) (o62) h311 n0 F312 F320 F321 F322 F323 F324 F325 ge295) hZ (hw _ (List.mem_of_getElem? (i := 66) rfl)) (hw _ (List.mem_of_getElem? (i := 60) rfl)) (by decide) (by decide)) (g := (mkF m 83 #[.val (.int p0), .val (.int p1), .val (.int p2), .val (.int v3), .val (.int v4), .val (.int v5), .val (.int v6), .val (.int v7), .val (.ref r57), .val (.ref o62), .unset, .unset] [(.ref o62), .null, (.ref r57), (.int v3), (.ref a75), (.ref o71), (.ref o71)])) rfl (by rw [hml]; rfl) (Steps.refl _) (a := o71) (argsL := [(.ref a75), (.int v3), (.ref r57), .null, (.ref o62)]) (rest := [(.ref o71)]) (lenOf own_pd5 rfl) rfl (by show 2 * 0 + _ ≤ _; exact Nat.le_of_eq rfl) (hb hby lw_d83) (fun _ _ => ⟨rfl, e311, (by decide : 7 + 0 ≤ _), (by decide : 26 + 0 ≤ _)⟩)
    dsimp only [Pt.U, Pt.locs, Pt.cells, Pt.slots] at X326 l326 y326 z326 st326 hQ326
    subst l326 y326 z326
    obtain ⟨rfl, N326q, K326, G327, G328, G329⟩ := hQ326
    have F330 : n0 ≤ T326.heap.size := Nat.le_trans F312 K326.1
    have F331 : Sta Z T326.heap "java/lang/String" "COMPACT_STRINGS" "Z" (.int w_z) := own_Sta_keep F313 K326 F320
    have F332 : Sta Z T326.heap "java/util/ArrayList" "DEFAULTCAPACITY_EMPTY_ELEMENTDATA" "[Ljava/lang/Object;" (.ref w_d) := own_Sta_keep F314 K326 F320
    have F333 : Keep h0 T326.heap [] := F315.trans K326 (allS (Or.inr gh296) all0)
    have F334 : Exa Z T326.heap r57 "java/lang/String" := F316.keep K326
    have F335 : Fld Z T326.heap r57 "java/lang/String" "value" "[B" (.ref t57) := F317.keep K326 (ninS ne292 nin0)
    have F336 : own_Arf Z T326.heap t57 .byte n57 (fun i => (.int (f57 i))) := F318.keep K326 (ninS ne293 nin0)
    have F337 : Exa Z T326.heap o62 "java/util/ArrayList" := F319.keep K326
    have F338 : Exa Z T326.heap o71 "com/example/stierlin/stierlin/protocol/OffsetCommitRequest" := F320.keep K326
    have F339 : k311 ≤ T326.heap.size := Nat.le_trans hk311 K326.1
    have N326 := Fr.app N280 N326q
    refine own_trW st326 ?_
    show own_DW p e below s _ _ _ (T326.setTop (mkF m 86 #[.val (.int p0), .val (.int p1), .val (.int p2), .val (.int v3), .val (.int v4), .val (.int v5), .val (.int v6), .val (.int v7), .val (.ref r57), .val (.ref o62), .unset, .unset] [(.ref o71)]))
    refine own_stW (fun _ k => XS.astore X326.here hx rfl (hb hby lw_d86) rfl rfl (l' := #[.val (.int p0), .val (.int p1), .val (.int p2), .val (.int v3), .val (.int v4), .val (.int v5), .val (.int v6), .val (.int v7), .val (.ref r57), .val (.ref o62), .val (.ref o71), .unset]) rfl (XS.iloadN X326.here hx rfl (hb hby lw_d88) rfl (XS.iconst X326.here hx rfl (hb hby lw_d89) k))) ?_
    show own_DW p e below s _ _ _ (T326.setTop (mkF m 90 #[.val (.int p0), .val (.int p1), .val (.int p2), .val (.int v3), .val (.int v4), .val (.int v5), .val (.int v6), .val (.int v7), .val (.ref r57), .val (.ref o62), .val (.ref o71), .unset] [(.int (-1 : Int32)), (.int v3)]))
    by_cases hc340 : v3 = (-1 : Int32)
    · refine own_stW (fun _ k => XS.icmpNo X326.here hx rfl (hb hby lw_d90) rfl (teq hc340).2 k) ?_
      show own_DW p e below s _ _ _ (T326.setTop (mkF m 93 #[.val (.int p0), .val (.int p1), .val (.int p2), .val (.int v3), .val (.int v4), .val (.int v5), .val (.int v6), .val (.int v7), .val (.ref r57), .val (.ref o62), .val (.ref o71), .unset] []))
      refine own_stW (fun _ k => XS.iload X326.here hx rfl (hb hby lw_d93) rfl k) ?_
      show own_DW p e below s _ _ _ (T326.setTop (mkF m 95 #[.val (.int p0), .val (.int p1), .val (.int p2), .val (.int v3), .val (.int v4), .val (.int v5), .val (.int v6), .val (.int v7), .val (.ref r57), .val (.ref o62), .val (.ref o71), .unset] [(.int v4)]))
      refine own_stW (fun _ k => XS.ifYes X326.here hx rfl (pc0 := 95) (pc' := 102) rfl (hb hby lw_d95) rfl ((if0 _ _).trans (feq hc174).2) (by decide) (by decide) k) ?_
      show own_DW p e below s _ _ _ (T326.setTop (mkF m 102 #[.val (.int p0), .val (.int p1), .val (.int p2), .val (.int v3), .val (.int v4), .val (.int v5), .val (.int v6), .val (.int v7), .val (.ref r57), .val (.ref o62), .val (.ref o71), .unset] []))
      refine own_stW (fun _ k => XS.iconst X326.here hx rfl (hb hby lw_d102) (XS.istore X326.here hx rfl (hb hby lw_d103) rfl (l' := #[.val (.int p0), .val (.int p1), .val (.int p2), .val (.int v3), .val (.int v4), .val (.int v5), .val (.int v6), .val (.int v7), .val (.ref r57), .val (.ref o62), .val (.ref o71), .val (.int (0 : Int32))]) rfl (XS.aload X326.here hx rfl (hb hby lw_d105) rfl rfl k))) ?_
      show own_DW p e below s _ _ _ (T326.setTop (mkF m 107 #[.val (.int p0), .val (.int p1), .val (.int p2), .val (.int v3), .val (.int v4), .val (.int v5), .val (.int v6), .val (.int v7), .val (.ref r57), .val (.ref o62), .val (.ref o71), .val (.int (0 : Int32))] [(.ref o71)]))
      obtain ⟨cq341, kq341, q341a, q341b, q341c⟩ := isOf hZ rfl G327
      obtain ⟨_, _, ⟨T341, L341, k341, n341⟩, -, X341, ⟨Lc341, hQ341, l341, y341, z341⟩, st341⟩ := X326.virtualBack hx (y := (⟨"com/example/stierlin/stierlin/protocol/OffsetCommitRequest", "fromOutsideMembership", "()Z"⟩ : MethodName)) (z := (⟨"com/example/stierlin/stierlin/protocol/OffsetCommitRequest", "fromOutsideMembership", "()Z"⟩ : MethodName)) hown (mvT hZ (hw _ (List.mem_of_getElem? (i := 83) rfl))) (mvT hZ (hw _ (List.mem_of_getElem? (i := 84) rfl))) (notFace_of_selects (args := #[]) (mvT hZ (hw _ (List.mem_of_getElem? (i := 86) rfl)))) (mvT hZ (hw _ (List.mem_of_getElem? (i := 86) rfl))) (mvT hZ (hw _ (List.mem_of_getElem? (i := 85) rfl))) (by decide) (backOf (W := 0) (fo_rm l Z a0 hw [] (o71) (v3) (r57) (t57) (n57) (f57) T326.heap n0 F330 G328 G329 F334 F335 F336) hZ (hw _ (List.mem_of_getElem? (i := 87) rfl)) (hw _ (List.mem_of_getElem? (i := 60) rfl)) (by decide) (by decide)) q341a q341c (g := (mkF m 107 #[.val (.int p0), .val (.int p1), .val (.int p2), .val (.int v3), .val (.int v4), .val (.int v5), .val (.int v6), .val (.int v7), .val (.ref r57), .val (.ref o62), .val (.ref o71), .val (.int (0 : Int32))] [(.ref o71)])) rfl (by rw [hml]; rfl) (Steps.refl _) (argsL := []) (rest := []) (lenOf own_pd1 rfl) rfl (by show 2 * 0 + _ ≤ _; exact Nat.le_of_eq rfl) (hb hby lw_d107) (fun _ _ => ⟨rfl, rfl, (by decide : 7 + 0 ≤ _), (by decide : 26 + 0 ≤ _)⟩)
      dsimp only [Pt.U, Pt.locs, Pt.cells, Pt.slots] at X341 l341 y341 z341 st341 hQ341
      subst l341 y341 z341
      obtain ⟨rfl, N341q, e341⟩ := hQ341
      have N341 := Fr.app N326 N341q
      refine own_trW st341 ?_
      have hfo342 : (fo_f v3 n57 f57) = (0 : Int32) := own_fo1 hn57 F336
      show own_DW p e below s _ _ _ (T341.setTop (mkF m 110 #[.val (.int p0), .val (.int p1), .val (.int p2), .val (.int v3), .val (.int v4), .val (.int v5), .val (.int v6), .val (.int v7), .val (.ref r57), .val (.ref o62), .val (.ref o71), .val (.int (0 : Int32))] [(.int (fo_f v3 n57 f57))]))
      refine own_stW (fun _ k => XS.iload X341.here hx rfl (hb hby lw_d110) rfl k) ?_
      show own_DW p e below s _ _ _ (T341.setTop (mkF m 112 #[.val (.int p0), .val (.int p1), .val (.int p2), .val (.int v3), .val (.int v4), .val (.int v5), .val (.int v6), .val (.int v7), .val (.ref r57), .val (.ref o62), .val (.ref o71), .val (.int (0 : Int32))] [(.int (0 : Int32)), (.int (fo_f v3 n57 f57))]))
      refine own_stW (fun _ k => XS.icmpNo X341.here hx rfl (hb hby lw_d112) rfl (teq hfo342).2 k) ?_
      show own_DW p e below s _ _ _ (T341.setTop (mkF m 115 #[.val (.int p0), .val (.int p1), .val (.int p2), .val (.int v3), .val (.int v4), .val (.int v5), .val (.int v6), .val (.int v7), .val (.ref r57), .val (.ref o62), .val (.ref o71), .val (.int (0 : Int32))] []))
      refine own_stW (fun _ k => XS.iconst X341.here hx rfl (hb hby lw_d115) (XS.goto X341.here hx rfl (pc0 := 116) (pc' := 120) rfl (hb hby lw_d116) (by decide) (by decide) k)) ?_
      show own_DW p e below s _ _ _ (T341.setTop (mkF m 120 #[.val (.int p0), .val (.int p1), .val (.int p2), .val (.int v3), .val (.int v4), .val (.int v5), .val (.int v6), .val (.int v7), .val (.ref r57), .val (.ref o62), .val (.ref o71), .val (.int (0 : Int32))] [(.int (1 : Int32))]))
      have eqH : T341.heap = T326.heap := e341
      exact own_retZW (s := s) (vm0 := T311.vm) X341 hS311 (own_hk eqH F339) hx hret hlk (by decide) (hb hby lw_d120) (by decide) (by decide) (by rw [eqH]; exact ⟨(by rw [hr0, lw_f49, if_neg hc174, if_pos hc340]), N341, F333⟩)
    · refine own_stW (fun _ k => XS.icmpYes X326.here hx rfl (pc0 := 90) (pc' := 102) rfl (hb hby lw_d90) rfl (feq hc340).2 (by decide) (by decide) k) ?_
      show own_DW p e below s _ _ _ (T326.setTop (mkF m 102 #[.val (.int p0), .val (.int p1), .val (.int p2), .val (.int v3), .val (.int v4), .val (.int v5), .val (.int v6), .val (.int v7), .val (.ref r57), .val (.ref o62), .val (.ref o71), .unset] []))
      refine own_stW (fun _ k => XS.iconst X326.here hx rfl (hb hby lw_d102) (XS.istore X326.here hx rfl (hb hby lw_d103) rfl (l' := #[.val (.int p0), .val (.int p1), .val (.int p2), .val (.int v3), .val (.int v4), .val (.int v5), .val (.int v6), .val (.int v7), .val (.ref r57), .val (.ref o62), .val (.ref o71), .val (.int (0 : Int32))]) rfl (XS.aload X326.here hx rfl (hb hby lw_d105) rfl rfl k))) ?_
      show own_DW p e below s _ _ _ (T326.setTop (mkF m 107 #[.val (.int p0), .val (.int p1), .val (.int p2), .val (.int v3), .val (.int v4), .val (.int v5), .val (.int v6), .val (.int v7), .val (.ref r57), .val (.ref o62), .val (.ref o71), .val (.int (0 : Int32))] [(.ref o71)]))
      obtain ⟨cq343, kq343, q343a, q343b, q343c⟩ := isOf hZ rfl G327
      obtain ⟨_, _, ⟨T343, L343, k343, n343⟩, -, X343, ⟨Lc343, hQ343, l343, y343, z343⟩, st343⟩ := X326.virtualBack hx (y := (⟨"com/example/stierlin/stierlin/protocol/OffsetCommitRequest", "fromOutsideMembership", "()Z"⟩ : MethodName)) (z := (⟨"com/example/stierlin/stierlin/protocol/OffsetCommitRequest", "fromOutsideMembership", "()Z"⟩ : MethodName)) hown (mvT hZ (hw _ (List.mem_of_getElem? (i := 83) rfl))) (mvT hZ (hw _ (List.mem_of_getElem? (i := 84) rfl))) (notFace_of_selects (args := #[]) (mvT hZ (hw _ (List.mem_of_getElem? (i := 86) rfl)))) (mvT hZ (hw _ (List.mem_of_getElem? (i := 86) rfl))) (mvT hZ (hw _ (List.mem_of_getElem? (i := 85) rfl))) (by decide) (backOf (W := 0) (fo_rm l Z a0 hw [] (o71) (v3) (r57) (t57) (n57) (f57) T326.heap n0 F330 G328 G329 F334 F335 F336) hZ (hw _ (List.mem_of_getElem? (i := 87) rfl)) (hw _ (List.mem_of_getElem? (i := 60) rfl)) (by decide) (by decide)) q343a q343c (g := (mkF m 107 #[.val (.int p0), .val (.int p1), .val (.int p2), .val (.int v3), .val (.int v4), .val (.int v5), .val (.int v6), .val (.int v7), .val (.ref r57), .val (.ref o62), .val (.ref o71), .val (.int (0 : Int32))] [(.ref o71)])) rfl (by rw [hml]; rfl) (Steps.refl _) (argsL := []) (rest := []) (lenOf own_pd1 rfl) rfl (by show 2 * 0 + _ ≤ _; exact Nat.le_of_eq rfl) (hb hby lw_d107) (fun _ _ => ⟨rfl, rfl, (by decide : 7 + 0 ≤ _), (by decide : 26 + 0 ≤ _)⟩)
      dsimp only [Pt.U, Pt.locs, Pt.cells, Pt.slots] at X343 l343 y343 z343 st343 hQ343
      subst l343 y343 z343
      obtain ⟨rfl, N343q, e343⟩ := hQ343
      have N343 := Fr.app N326 N343q
      refine own_trW st343 ?_
      have hfo344 : (fo_f v3 n57 f57) = (0 : Int32) := own_fo1 hn57 F336
      show own_DW p e below s _ _ _ (T343.setTop (mkF m 110 #[.val (.int p0), .val (.int p1), .val (.int p2), .val (.int v3), .val (.int v4), .val (.int v5), .val (.int v6), .val (.int v7), .val (.ref r57), .val (.ref o62), .val (.ref o71), .val (.int (0 : Int32))] [(.int (fo_f v3 n57 f57))]))
      refine own_stW (fun _ k => XS.iload X343.here hx rfl (hb hby lw_d110) rfl k) ?_
      show own_DW p e below s _ _ _ (T343.setTop (mkF m 112 #[.val (.int p0), .val (.int p1), .val (.int p2), .val (.int v3), .val (.int v4), .val (.int v5), .val (.int v6), .val (.int v7), .val (.ref r57), .val (.ref o62), .val (.ref o71), .val (.int (0 : Int32))] [(.int (0 : Int32)), (.int (fo_f v3 n57 f57))]))
      refine own_stW (fun _ k => XS.icmpNo X343.here hx rfl (hb hby lw_d112) rfl (teq hfo344).2 k) ?_
      show own_DW p e below s _ _ _ (T343.setTop (mkF m 115 #[.val (.int p0), .val (.int p1), .val (.int p2), .val (.int v3), .val (.int v4), .val (.int v5), .val (.int v6), .val (.int v7), .val (.ref r57), .val (.ref o62), .val (.ref o71), .val (.int (0 : Int32))] []))
      refine own_stW (fun _ k => XS.iconst X343.here hx rfl (hb hby lw_d115) (XS.goto X343.here hx rfl (pc0 := 116) (pc' := 120) rfl (hb hby lw_d116) (by decide) (by decide) k)) ?_
      show own_DW p e below s _ _ _ (T343.setTop (mkF m 120 #[.val (.int p0), .val (.int p1), .val (.int p2), .val (.int v3), .val (.int v4), .val (.int v5), .val (.int v6), .val (.int v7), .val (.ref r57), .val (.ref o62), .val (.ref o71), .val (.int (0 : Int32))] [(.int (1 : Int32))]))
      have eqH : T343.heap = T326.heap := e343
      exact own_retZW (s := s) (vm0 := T311.vm) X343 hS311 (own_hk eqH F339) hx hret hlk (by decide) (hb hby lw_d120) (by decide) (by decide) (by rw [eqH]; exact ⟨(by rw [hr0, lw_f49, if_neg hc174, if_neg hc340]), N343, F333⟩)
def lw_f11 (p0 : Int32) (p1 : Int32) (p2 : Int32) (w_z : Int32) (u0 : Int32) : Int32 :=
  lw_f49 p0 p1 p2 w_z (u0) ((((p1.toUInt32 >>> ((1 : Int32) &&& 31).toUInt32).toInt32) &&& (3 : Int32))) (((p2 &&& (255 : Int32)).toUInt32.toUInt16.toUInt32.toInt32)) (((((p2.toUInt32 >>> ((8 : Int32) &&& 31).toUInt32).toInt32) &&& (255 : Int32)).toUInt32.toUInt16.toUInt32.toInt32)) (((((p2.toUInt32 >>> ((16 : Int32) &&& 31).toUInt32).toInt32) &&& (255 : Int32)).toUInt32.toUInt16.toUInt32.toInt32))
set_option maxRecDepth 65536 in
set_option maxHeartbeats 40000000 in
theorem lw_c11 {l : Launch} {Z : State} {a0 : Array Value} {p0 : Int32} {p1 : Int32} {p2 : Int32} {w_z : Int32} {w_d : Addr} {h0 h1 : Heap} {n0 : Nat} {p : Program} {e : Env} {s : State} {m : MethodId} {args : Array Value} {below : List Frame} {meth : Method} {c : Code} {T0 : State} {locs : List Loc} {r0 : Int32} (C0 : own_Cx p s m meth c Z a0 code 12 "com/example/stierlin/stierlin/protocol/OffsetCommitRequestFromOutsideMembershipPinLaw" "law" (some .boolean)) (X0 : Stand p l e room_1 s m args below meth c T0 locs 0 0) (e0 : T0.heap = h1) (N0 : Fr n0 locs) (u0 : Int32) (Z0 : n0 ≤ h1.size) (P1 : Sta Z h1 "java/lang/String" "COMPACT_STRINGS" "Z" (.int w_z)) (P2 : Sta Z h1 "java/util/ArrayList" "DEFAULTCAPACITY_EMPTY_ELEMENTDATA" "[Ljava/lang/Object;" (.ref w_d)) (K0 : Keep h0 h1 []) (P4 : CHv Z own_EL s.vm h1) (hi0 : ¬ w_z = (0 : Int32)) (hr0 : r0 = lw_f11 p0 p1 p2 w_z u0) :
    own_DW p e below s (fun v h _ L => lw_Q Z p0 p1 p2 w_z w_d r0 h0 n0 v h L) room_1.cells room_1.slots (T0.setTop (mkF m 11 #[.val (.int p0), .val (.int p1), .val (.int p2), .unset, .unset, .unset, .unset, .unset, .unset, .unset, .unset, .unset] [(.int u0)])) := by
  obtain ⟨hx, hZ, hw, hby, hml, hown, hret, hlk, hnm⟩ := id C0
  refine own_stW (fun _ k => XS.istoreN X0.here hx rfl (hb hby lw_d11) rfl (l' := #[.val (.int p0), .val (.int p1), .val (.int p2), .val (.int u0), .unset, .unset, .unset, .unset, .unset, .unset, .unset, .unset]) rfl (XS.iloadN X0.here hx rfl (hb hby lw_d12) rfl (XS.iconst X0.here hx rfl (hb hby lw_d13) (XS.iushr X0.here hx rfl (hb hby lw_d14) rfl (XS.iconst X0.here hx rfl (hb hby lw_d15) (XS.iand X0.here hx rfl (hb hby lw_d16) rfl (XS.istore X0.here hx rfl (hb hby lw_d17) rfl (l' := #[.val (.int p0), .val (.int p1), .val (.int p2), .val (.int u0), .val (.int (((p1.toUInt32 >>> ((1 : Int32) &&& 31).toUInt32).toInt32) &&& (3 : Int32))), .unset, .unset, .unset, .unset, .unset, .unset, .unset]) rfl (XS.iloadN X0.here hx rfl (hb hby lw_d19) rfl (XS.sipush X0.here hx rfl (hb hby lw_d20) (XS.iand X0.here hx rfl (hb hby lw_d23) rfl (XS.i2c X0.here hx rfl (hb hby lw_d24) rfl (XS.istore X0.here hx rfl (hb hby lw_d25) rfl (l' := #[.val (.int p0), .val (.int p1), .val (.int p2), .val (.int u0), .val (.int (((p1.toUInt32 >>> ((1 : Int32) &&& 31).toUInt32).toInt32) &&& (3 : Int32))), .val (.int ((p2 &&& (255 : Int32)).toUInt32.toUInt16.toUInt32.toInt32)), .unset, .unset, .unset, .unset, .unset, .unset]) rfl (XS.iloadN X0.here hx rfl (hb hby lw_d27) rfl (XS.bipush X0.here hx rfl (hb hby lw_d28) (XS.iushr X0.here hx rfl (hb hby lw_d30) rfl (XS.sipush X0.here hx rfl (hb hby lw_d31) (XS.iand X0.here hx rfl (hb hby lw_d34) rfl (XS.i2c X0.here hx rfl (hb hby lw_d35) rfl (XS.istore X0.here hx rfl (hb hby lw_d36) rfl (l' := #[.val (.int p0), .val (.int p1), .val (.int p2), .val (.int u0), .val (.int (((p1.toUInt32 >>> ((1 : Int32) &&& 31).toUInt32).toInt32) &&& (3 : Int32))), .val (.int ((p2 &&& (255 : Int32)).toUInt32.toUInt16.toUInt32.toInt32)), .val (.int ((((p2.toUInt32 >>> ((8 : Int32) &&& 31).toUInt32).toInt32) &&& (255 : Int32)).toUInt32.toUInt16.toUInt32.toInt32)), .unset, .unset, .unset, .unset, .unset]) rfl (XS.iloadN X0.here hx rfl (hb hby lw_d38) rfl (XS.bipush X0.here hx rfl (hb hby lw_d39) (XS.iushr X0.here hx rfl (hb hby lw_d41) rfl (XS.sipush X0.here hx rfl (hb hby lw_d42) (XS.iand X0.here hx rfl (hb hby lw_d45) rfl k)))))))))))))))))))))))) ?_
  show own_DW p e below s _ _ _ (T0.setTop (mkF m 46 #[.val (.int p0), .val (.int p1), .val (.int p2), .val (.int u0), .val (.int (((p1.toUInt32 >>> ((1 : Int32) &&& 31).toUInt32).toInt32) &&& (3 : Int32))), .val (.int ((p2 &&& (255 : Int32)).toUInt32.toUInt16.toUInt32.toInt32)), .val (.int ((((p2.toUInt32 >>> ((8 : Int32) &&& 31).toUInt32).toInt32) &&& (255 : Int32)).toUInt32.toUInt16.toUInt32.toInt32)), .unset, .unset, .unset, .unset, .unset] [(.int (((p2.toUInt32 >>> ((16 : Int32) &&& 31).toUInt32).toInt32) &&& (255 : Int32)))]))
  refine own_stW (fun _ k => XS.i2c X0.here hx rfl (hb hby lw_d46) rfl (XS.istore X0.here hx rfl (hb hby lw_d47) rfl (l' := #[.val (.int p0), .val (.int p1), .val (.int p2), .val (.int u0), .val (.int (((p1.toUInt32 >>> ((1 : Int32) &&& 31).toUInt32).toInt32) &&& (3 : Int32))), .val (.int ((p2 &&& (255 : Int32)).toUInt32.toUInt16.toUInt32.toInt32)), .val (.int ((((p2.toUInt32 >>> ((8 : Int32) &&& 31).toUInt32).toInt32) &&& (255 : Int32)).toUInt32.toUInt16.toUInt32.toInt32)), .val (.int ((((p2.toUInt32 >>> ((16 : Int32) &&& 31).toUInt32).toInt32) &&& (255 : Int32)).toUInt32.toUInt16.toUInt32.toInt32)), .unset, .unset, .unset, .unset]) rfl k)) ?_
  show own_DW p e below s _ _ _ (T0.setTop (mkF m 49 #[.val (.int p0), .val (.int p1), .val (.int p2), .val (.int u0), .val (.int (((p1.toUInt32 >>> ((1 : Int32) &&& 31).toUInt32).toInt32) &&& (3 : Int32))), .val (.int ((p2 &&& (255 : Int32)).toUInt32.toUInt16.toUInt32.toInt32)), .val (.int ((((p2.toUInt32 >>> ((8 : Int32) &&& 31).toUInt32).toInt32) &&& (255 : Int32)).toUInt32.toUInt16.toUInt32.toInt32)), .val (.int ((((p2.toUInt32 >>> ((16 : Int32) &&& 31).toUInt32).toInt32) &&& (255 : Int32)).toUInt32.toUInt16.toUInt32.toInt32)), .unset, .unset, .unset, .unset] []))
  exact lw_c49 C0 X0 e0 N0 (u0) ((((p1.toUInt32 >>> ((1 : Int32) &&& 31).toUInt32).toInt32) &&& (3 : Int32))) (((p2 &&& (255 : Int32)).toUInt32.toUInt16.toUInt32.toInt32)) (((((p2.toUInt32 >>> ((8 : Int32) &&& 31).toUInt32).toInt32) &&& (255 : Int32)).toUInt32.toUInt16.toUInt32.toInt32)) (((((p2.toUInt32 >>> ((16 : Int32) &&& 31).toUInt32).toInt32) &&& (255 : Int32)).toUInt32.toUInt16.toUInt32.toInt32)) Z0 P1 P2 K0 P4 ⟨own_c255 _, own_c255 _, own_c255 _, hi0⟩ (by rw [hr0, lw_f11])
def lw_f (p0 : Int32) (p1 : Int32) (p2 : Int32) (w_z : Int32)  : Int32 :=
  if (p1 &&& (1 : Int32)) = (0 : Int32) then
    lw_f11 p0 p1 p2 w_z (p0)
  else
    lw_f11 p0 p1 p2 w_z ((-1 : Int32))
set_option maxRecDepth 65536 in
set_option maxHeartbeats 40000000 in
theorem lw_c0 {l : Launch} {Z : State} {a0 : Array Value} {p0 : Int32} {p1 : Int32} {p2 : Int32} {w_z : Int32} {w_d : Addr} {h0 : Heap} {n0 : Nat} {p : Program} {e : Env} {s : State} {m : MethodId} {args : Array Value} {below : List Frame} {meth : Method} {c : Code} {T0 : State} {locs : List Loc} {r0 : Int32} (C0 : own_Cx p s m meth c Z a0 code 12 "com/example/stierlin/stierlin/protocol/OffsetCommitRequestFromOutsideMembershipPinLaw" "law" (some .boolean)) (X0 : Stand p l e room_1 s m args below meth c T0 locs 0 0) (e0 : T0.heap = h0) (N0 : Fr n0 locs) (C1 : CHv Z own_EL s.vm h0)  (Z0 : n0 ≤ h0.size) (P0 : Sta Z h0 "java/lang/String" "COMPACT_STRINGS" "Z" (.int w_z)) (P1 : Sta Z h0 "java/util/ArrayList" "DEFAULTCAPACITY_EMPTY_ELEMENTDATA" "[Ljava/lang/Object;" (.ref w_d)) (hwz : ¬ w_z = (0 : Int32)) (hr0 : r0 = lw_f p0 p1 p2 w_z ) :
    own_DW p e below s (fun v h _ L => lw_Q Z p0 p1 p2 w_z w_d r0 h0 n0 v h L) room_1.cells room_1.slots (T0.setTop (mkF m 0 #[.val (.int p0), .val (.int p1), .val (.int p2), .unset, .unset, .unset, .unset, .unset, .unset, .unset, .unset, .unset] [])) := by
  obtain ⟨hx, hZ, hw, hby, hml, hown, hret, hlk, hnm⟩ := id C0
  refine own_stW (fun _ k => XS.iloadN X0.here hx rfl (hb hby lw_d0) rfl (XS.iconst X0.here hx rfl (hb hby lw_d1) (XS.iand X0.here hx rfl (hb hby lw_d2) rfl k))) ?_
  show own_DW p e below s _ _ _ (T0.setTop (mkF m 3 #[.val (.int p0), .val (.int p1), .val (.int p2), .unset, .unset, .unset, .unset, .unset, .unset, .unset, .unset, .unset] [(.int (p1 &&& (1 : Int32)))]))
  by_cases hc173 : (p1 &&& (1 : Int32)) = (0 : Int32)
  · refine own_stW (fun _ k => XS.ifYes X0.here hx rfl (pc0 := 3) (pc' := 10) rfl (hb hby lw_d3) rfl ((if0 _ _).trans (teq hc173).1) (by decide) (by decide) k) ?_
    show own_DW p e below s _ _ _ (T0.setTop (mkF m 10 #[.val (.int p0), .val (.int p1), .val (.int p2), .unset, .unset, .unset, .unset, .unset, .unset, .unset, .unset, .unset] []))
    refine own_stW (fun _ k => XS.iloadN X0.here hx rfl (hb hby lw_d10) rfl k) ?_
    show own_DW p e below s _ _ _ (T0.setTop (mkF m 11 #[.val (.int p0), .val (.int p1), .val (.int p2), .unset, .unset, .unset, .unset, .unset, .unset, .unset, .unset, .unset] [(.int p0)]))
    exact lw_c11 C0 X0 e0 N0 (p0) Z0 P0 P1 (Keep.refl h0 []) C1 hwz (by rw [hr0, lw_f, if_pos hc173])
  · refine own_stW (fun _ k => XS.ifNo X0.here hx rfl (hb hby lw_d3) rfl ((if0 _ _).trans (feq hc173).1) k) ?_
    show own_DW p e below s _ _ _ (T0.setTop (mkF m 6 #[.val (.int p0), .val (.int p1), .val (.int p2), .unset, .unset, .unset, .unset, .unset, .unset, .unset, .unset, .unset] []))
    refine own_stW (fun _ k => XS.iconst X0.here hx rfl (hb hby lw_d6) (XS.goto X0.here hx rfl (pc0 := 7) (pc' := 11) rfl (hb hby lw_d7) (by decide) (by decide) k)) ?_
    show own_DW p e below s _ _ _ (T0.setTop (mkF m 11 #[.val (.int p0), .val (.int p1), .val (.int p2), .unset, .unset, .unset, .unset, .unset, .unset, .unset, .unset, .unset] [(.int (-1 : Int32))]))
    exact lw_c11 C0 X0 e0 N0 ((-1 : Int32)) Z0 P0 P1 (Keep.refl h0 []) C1 hwz (by rw [hr0, lw_f, if_neg hc173])
theorem lw_ef (m : MethodId) (p0 : Int32) (p1 : Int32) (p2 : Int32) : entryFrame m #[(.int p0), (.int p1), (.int p2)] maxLocals = mkF m 0 #[.val (.int p0), .val (.int p1), .val (.int p2), .unset, .unset, .unset, .unset, .unset, .unset, .unset, .unset, .unset] [] := by first | (simp [entryFrame, mkF, argsToLocals, Value.category, maxLocals]; done) | rfl
theorem lw_rm (l : Launch) (Z : State) (a0 : Array Value) (hw : ∀ d ∈ tables_1, d.before a0 Z = true) (ws : List Jvm.Cond) (p0 : Int32) (p1 : Int32) (p2 : Int32) (w_z : Int32) (w_d : Addr) (h0 : Heap) (n0 : Nat) (Z0 : n0 ≤ h0.size) (P0 : Sta Z h0 "java/lang/String" "COMPACT_STRINGS" "Z" (.int w_z)) (P1 : Sta Z h0 "java/util/ArrayList" "DEFAULTCAPACITY_EMPTY_ELEMENTDATA" "[Ljava/lang/Object;" (.ref w_d)) (hwz : ¬ w_z = (0 : Int32)) :
    MetFree l x (head1 (Jvm.Cond.code x code maxLocals ret :: ws) room_1) (fun a U => a = #[(.int p0), (.int p1), (.int p2)] ∧ Z.Warmed39 U.vm ∧ U.heap = h0 ∧ CHv Z own_EL U.vm h0) (fun _ _ _ _ _ => True) (fun _ U o U' => ∃ v L, o = .returned v ∧ lw_Q Z p0 p1 p2 w_z w_d (lw_f p0 p1 p2 w_z) h0 n0 v U'.heap L ∧ ReturnedEndW U o U' L room_1.cells room_1.slots) :=
  own_metL hw (plainFor_of_name (by first | (simp [plainName, overriddenIn]; done) | decide +kernel)) (fun p e s m below meth c T0 C0 X0 e0 C1 => own_stW (fun _ k => castTop (lw_ef m p0 p1 p2) k) (lw_c0 C0 X0 e0 (Fr.nil n0) C1 Z0 P0 P1 hwz rfl))
theorem own_law (p0 p1 p2 w_z : Int32) : lw_f p0 p1 p2 w_z = 1 := by
  simp only [lw_f, lw_f11, lw_f49]
  split <;> split <;> split <;> rfl

set_option maxRecDepth 65536 in
set_option maxHeartbeats 40000000 in
theorem comes_1 {Post : Tables → Env → Array Value → State → Outcome → State → Prop} (hpost : ∀ tb e args s v u, (limb_1_1.after args s (.returned v) u = true ∧ limb_1_2.after args s (.returned v) u = true ∧ True) → ReturnedEndW s (.returned v) u (Jvm.fieldLocs frame_1_writes args s ++ Jvm.arrayLocs frame_1_arrays args s ++ Jvm.staticLocs frame_1_statics s) 24 2176 → Post tb e args s (.returned v) u) :
    ArmFor flags0 classFile x code maxLocals ret World_1 tables_1 room_1 Calls_1 rest_1 Pre_1 Post := by
  intro l hfl _ _ p e ha hc hk s m args below hf hA hF happ hP
  obtain ⟨hcalls, hrest, hpre⟩ := hP
  obtain ⟨-, -, -, hnamed, -, -, -, hat⟩ := (Spec.applies_iff hf).mp happ
  obtain ⟨hg, hn⟩ := and_e (Cond.before_iff.mp (show (Jvm.Cond.and given_1 narrow_1).before args s = true from hpre))
  obtain ⟨gc, hg0⟩ := and_e hg
  obtain ⟨g0, hg1⟩ := and_e hg0
  obtain ⟨g1, g2⟩ := and_e hg1
  obtain ⟨w0, w1, w2, rfl⟩ : ∃ w0 w1 w2 : Value, args = #[w0, w1, w2] := by
    have hs : args.size = 3 := by simpa [Cond.value, given_1] using gc
    obtain ⟨L⟩ := args
    match L, hs with
    | [w0, w1, w2], _ => exact ⟨w0, w1, w2, rfl⟩
  have hw := fun d (hd : d ∈ tables_1) => atoms_spec (ws := Jvm.Cond.code x code maxLocals ret :: tables_1) hat d (List.mem_cons_of_mem _ hd)
  have hfit : Fit s := fun {y c} hc i hi => by
    obtain ⟨ha, rfl⟩ := Array.getElem?_eq_some_iff.mp hc
    have q := List.all_eq_true.mp ((Array.all_eq_true_iff_forall_mem.mp hF) _ (Array.getElem_mem ha)) i (List.mem_range.mpr hi)
    simpa [Array.getElem?_eq_getElem hi] using q
  obtain ⟨i0, ei0⟩ := is_v g0
  obtain rfl : w0 = (.int i0) := Option.some.inj ei0
  obtain ⟨i1, ei1⟩ := is_v g1
  obtain rfl : w1 = (.int i1) := Option.some.inj ei1
  obtain ⟨i2, ei2⟩ := is_v g2
  obtain rfl : w2 = (.int i2) := Option.some.inj ei2
  obtain ⟨hsets, hown0⟩ := atoms_of _ (rest_1_c_eq ▸ (show rest_1_c.before _ s = true from hrest))
  obtain ⟨w_z, ez⟩ := is_v (Cond.before_iff.mp (hsets _ (List.mem_of_getElem? (i := 1) rfl)))
  have hwz : ¬ w_z = (0 : Int32) := gotF (Cond.eq_ints ez (Term.int_eval (0))) (not_v (Cond.before_iff.mp (hsets _ (List.mem_of_getElem? (i := 2) rfl))))
  have P0 : Sta s s.heap "java/lang/String" "COMPACT_STRINGS" "Z" (.int w_z) := Sta.start ez (Or.inl (hsets _ (List.mem_of_getElem? (i := 0) rfl)))
  obtain ⟨w_d, ed⟩ := arr_v (Cond.before_iff.mp (hsets _ (List.mem_of_getElem? (i := 15) rfl)))
  have P1 : Sta s s.heap "java/util/ArrayList" "DEFAULTCAPACITY_EMPTY_ELEMENTDATA" "[Ljava/lang/Object;" (.ref w_d) := Sta.start ed (Or.inr ⟨(hw _ (List.mem_of_getElem? (i := 36) rfl)), (hsets _ (List.mem_of_getElem? (i := 11) rfl))⟩)
  have hCH : CHv s own_EL s.vm s.heap := CHv.start (own_hEL hw) (fun p hp => by
    rcases List.mem_singleton.mp hp with rfl
    exact hcalls.1 ("java/lang/String", 7) (List.mem_of_getElem? (i := 1) rfl)) (hsets _ (List.mem_of_getElem? (i := 2) rfl)) (hw _ (List.mem_of_getElem? (i := 23) rfl)) (hw _ (List.mem_of_getElem? (i := 5) rfl))
  obtain ⟨n, o, h1, h2, h3, _, L, rfl, ⟨rfl, N, -⟩, hq⟩ := lw_rm l s _ hw tables_1 i0 i1 i2 w_z w_d s.heap s.heap.size (Nat.le_refl _) P0 P1 hwz p e ha hc hk s m _ below hf ((Spec.applies_iff_loose hf).mp happ).1 ⟨rfl, State.Warmed39.refl s, rfl, hCH⟩ trivial
  refine ⟨n, _, h1, h2, h3, hpost _ _ _ _ _ _ ⟨Cond.after_iff.mpr rfl, Cond.after_iff.mpr (eq_i res_at (Term.int_eval (1)) (by rw [own_law])), trivial⟩ ⟨hq.1, hq.2.1, hq.2.2.1, (hq.2.2.2.sift fun y hy => Or.inr (N y hy)).mono (by decide) (by decide)⟩⟩
theorem main_1_1 : Claimed_1_1 := comes_1 fun _ _ _ _ _ _ h hF => ⟨h.1, hF⟩
theorem main_1_2 : Claimed_1_2 := comes_1 fun _ _ _ _ _ _ h hF => ⟨h.2.1, hF⟩
end Jvm.Pilot.@@N@@
namespace Jvm.Pilot.@@N@@
open Jvm Jvm.ClassFile Sem Op Lib Jvm.Free Jvm.Stand Jvm.Pilot.@@N@@.Jvm.D
/-! MADE BY PROGRAM (witnessworld.py) out of the Statement's table words and the real class files: 30 classes; the members and pool entries that the words name. The judged class is class 1, her method 1. -/
namespace start1
open Jvm.ClassFile
def u (s : String) : CpInfo := .utf8 (stringToUtf16 s)
/-- a pool by its gaps: so many unusable entries, then the entry; so many at the end -/
def gap : Nat → List CpInfo → List CpInfo
  | 0, r => r
  | n + 1, r => .unusable :: gap n r
def poolList (es : List (Nat × CpInfo)) (last : Nat) : List CpInfo := es.foldr (fun e r => gap e.1 (e.2 :: r)) (gap last [])
def pool (es : List (Nat × CpInfo)) (last : Nat) : Array CpInfo := ⟨poolList es last⟩
def fileOf (pool : Array CpInfo) (this : Nat) (attrs : Array Attribute := #[]) (ms : Array MethodInfo := #[]) (fl : Nat := 33) (sup : Nat := 0) (ifs : Array Nat := #[]) (fds : Array FieldInfo := #[]) : ClassFile where
  minorVersion := 0
  majorVersion := 65
  constantPool := pool
  accessFlags := fl
  thisClass := this
  superClass := sup
  interfaces := ifs
  fields := fds
  methods := ms
  attributes := attrs
def plain (name : String) (sup : Option ClassId) : Class where
  name := name
  kind := .ordinary
  loader := none
  accessFlags := 33
  super := sup
  interfaces := #[]
  cf := none
  fields := #[]
  methods := #[]
  instanceTypes := #[]
  staticTypes := #[]
  resolved := #[]
  callSites := []
  init := .initialized
  statics := none
  mirror := none

def pool0 : Array CpInfo := pool [(5, u "<init>"), (0, u "()V"), (1, .class_ 10), (1, u "java/lang/Object")] 113

def k0c0 : Code := { maxStack := 0, maxLocals := 1, code := object_method_1_code, exceptionTable := #[], attributes := #[] }
def k0m0 : Method := { name := "<init>", desc := "()V", sig := { parameters := [], returnType := none }, accessFlags := 1, code := some k0c0 }
/-- java/lang/Object -/
def k0 : Class := { plain "java/lang/Object" none with
  accessFlags := 33
  interfaces := #[]
  cf := some (fileOf pool0 8 #[] #[{ accessFlags := 1, nameIndex := 5, descriptorIndex := 6, attributes := #[] }] 33 0 #[] #[])
  fields := #[]
  methods := #[k0m0]
  instanceTypes := #[]
  staticTypes := #[]
  resolved := Array.replicate 124 none
  statics := none }

def pool1 : Array CpInfo := pool [(2, .class_ 4), (0, .nameAndType 5 6), (0, u "java/lang/Object"), (0, u "<init>"), (0, u "()V"), (0, .methodref 8 9), (0, .class_ 10), (0, .nameAndType 11 12), (0, u "com/example/stierlin/stierlin/protocol/OffsetCommitRequestFromOutsideMembershipPinLaw"), (0, u "make"), (0, u "(ICCC)Ljava/lang/String;"), (0, .class_ 14), (0, u "java/util/ArrayList"), (0, .methodref 13 3), (0, .class_ 17), (0, u "com/example/stierlin/stierlin/protocol/OffsetCommitRequest"), (0, .string 19), (0, u "g"), (0, .methodref 16 21), (0, .nameAndType 5 22), (0, u "(Ljava/lang/String;ILjava/lang/String;Ljava/lang/String;Ljava/util/List;)V"), (0, .methodref 16 24), (0, .nameAndType 25 26), (0, u "fromOutsideMembership"), (0, u "()Z"), (0, .class_ 28), (0, u "java/lang/String"), (0, .methodref 27 30), (0, .nameAndType 5 31), (0, u "([C)V"), (2, u "law"), (0, u "(III)Z")] 5

def k1m0 : Method := { name := "<init>", desc := "()V", sig := { parameters := [], returnType := none }, accessFlags := 1, code := none }
def k1c1 : Code := { maxStack := 7, maxLocals := 12, code := code, exceptionTable := #[], attributes := #[] }
def k1m1 : Method := { name := "law", desc := "(III)Z", sig := { parameters := [.int, .int, .int], returnType := some .boolean }, accessFlags := 9, code := some k1c1 }
def k1c2 : Code := { maxStack := 6, maxLocals := 4, code := method_3_code, exceptionTable := #[], attributes := #[] }
def k1m2 : Method := { name := "make", desc := "(ICCC)Ljava/lang/String;", sig := { parameters := [.int, .char, .char, .char], returnType := some (.object "java/lang/String") }, accessFlags := 10, code := some k1c2 }
/-- com/example/stierlin/stierlin/protocol/OffsetCommitRequestFromOutsideMembershipPinLaw -/
def k1 : Class := { plain "com/example/stierlin/stierlin/protocol/OffsetCommitRequestFromOutsideMembershipPinLaw" (some 0) with
  accessFlags := 49
  interfaces := #[]
  cf := some (fileOf pool1 8 #[] #[{ accessFlags := 1, nameIndex := 5, descriptorIndex := 6, attributes := #[] }, { accessFlags := 9, nameIndex := 34, descriptorIndex := 35, attributes := #[] }, { accessFlags := 10, nameIndex := 11, descriptorIndex := 12, attributes := #[] }] 49 2 #[] #[])
  fields := #[]
  methods := #[k1m0, k1m1, k1m2]
  instanceTypes := #[]
  staticTypes := #[]
  resolved := Array.replicate 41 none
  statics := none }

def pool2 : Array CpInfo := pool [(1, .class_ 2), (0, u "java/io/Serializable"), (0, .class_ 4), (0, u "java/lang/Object")] 2

/-- java/io/Serializable -/
def k2 : Class := { plain "java/io/Serializable" (some 0) with
  accessFlags := 1537
  interfaces := #[]
  cf := some (fileOf pool2 1 #[] #[] 1537 3 #[] #[])
  fields := #[]
  methods := #[]
  instanceTypes := #[]
  staticTypes := #[]
  resolved := Array.replicate 7 none
  statics := none }

def pool3 : Array CpInfo := pool [(1, .class_ 2), (0, u "java/lang/Comparable"), (0, .class_ 4), (0, u "java/lang/Object")] 7

/-- java/lang/Comparable -/
def k3 : Class := { plain "java/lang/Comparable" (some 0) with
  accessFlags := 1537
  interfaces := #[]
  cf := some (fileOf pool3 1 #[] #[] 1537 3 #[] #[])
  fields := #[]
  methods := #[]
  instanceTypes := #[]
  staticTypes := #[]
  resolved := Array.replicate 12 none
  statics := none }

def pool4 : Array CpInfo := pool [(2, .class_ 4), (1, u "java/lang/CharSequence"), (42, .class_ 48), (0, u "java/lang/CharSequence$1CodePointIterator"), (10, .class_ 60), (0, u "java/lang/CharSequence$1CharIterator"), (5, .class_ 67), (0, u "java/lang/Object")] 63

/-- java/lang/CharSequence -/
def k4 : Class := { plain "java/lang/CharSequence" (some 0) with
  accessFlags := 1537
  interfaces := #[]
  cf := some (fileOf pool4 2 #[.nestMembers #[47, 59]] #[] 1537 66 #[] #[])
  fields := #[]
  methods := #[]
  instanceTypes := #[]
  staticTypes := #[]
  resolved := Array.replicate 131 none
  statics := none }

def pool5 : Array CpInfo := pool [(1, .class_ 2), (0, u "java/lang/constant/Constable"), (0, .class_ 4), (0, u "java/lang/Object")] 6

/-- java/lang/constant/Constable -/
def k5 : Class := { plain "java/lang/constant/Constable" (some 0) with
  accessFlags := 1537
  interfaces := #[]
  cf := some (fileOf pool5 1 #[] #[] 1537 3 #[] #[])
  fields := #[]
  methods := #[]
  instanceTypes := #[]
  staticTypes := #[]
  resolved := Array.replicate 11 none
  statics := none }

def pool6 : Array CpInfo := pool [(1, .class_ 2), (0, u "java/lang/constant/ConstantDesc"), (0, .class_ 4), (0, u "java/lang/Object")] 32

/-- java/lang/constant/ConstantDesc -/
def k6 : Class := { plain "java/lang/constant/ConstantDesc" (some 0) with
  accessFlags := 1537
  interfaces := #[]
  cf := some (fileOf pool6 1 #[] #[] 1537 3 #[] #[])
  fields := #[]
  methods := #[]
  instanceTypes := #[]
  staticTypes := #[]
  resolved := Array.replicate 37 none
  statics := none }

def pool7 : Array CpInfo := pool [(1, .methodref 2 3), (0, .class_ 4), (0, .nameAndType 5 6), (0, u "java/lang/Object"), (0, u "<init>"), (0, u "()V"), (0, .string 8), (0, u ""), (0, .fieldref 10 11), (0, .class_ 12), (0, .nameAndType 13 14), (0, u "java/lang/String"), (0, u "value"), (0, u "[B"), (0, .fieldref 10 16), (0, .nameAndType 17 18), (0, u "coder"), (0, u "B"), (2, u "hash"), (0, u "I"), (2, u "hashIsZero"), (0, u "Z"), (0, .methodref 10 28), (0, .nameAndType 5 29), (0, u "([CIILjava/lang/Void;)V"), (8, .fieldref 10 39), (0, .nameAndType 40 26), (0, u "COMPACT_STRINGS"), (1, .class_ 44), (1, u "java/lang/StringUTF16"), (0, u "compress"), (1, .methodref 42 48), (0, .nameAndType 49 50), (0, u "coderFromArrayLen"), (0, u "([BI)B"), (91, u "()Z"), (34, .methodref 42 178), (0, .nameAndType 45 179), (0, u "([CII)[B"), (395, .class_ 576), (0, u "java/lang/CharSequence"), (22, u "CASE_INSENSITIVE_ORDER"), (0, u "Ljava/util/Comparator;"), (91, u "isEmpty"), (317, u "([C)V"), (90, u "serialPersistentFields"), (0, u "[Ljava/io/ObjectStreamField;"), (0, .class_ 1104), (0, u "java/lang/String$CaseInsensitiveComparator"), (1, .class_ 1107), (0, u "java/io/Serializable"), (0, .class_ 1109), (0, u "java/lang/Comparable"), (0, .class_ 1111), (0, u "java/lang/constant/Constable"), (0, .class_ 1113), (0, u "java/lang/constant/ConstantDesc"), (2, u "serialVersionUID"), (0, u "J"), (3, u "REPL"), (0, u "C"), (2, u "LATIN1"), (1, u "UTF16")] 323

def k7m0 : Method := { name := "<init>", desc := "()V", sig := { parameters := [], returnType := none }, accessFlags := 1, code := none }
def k7c1 : Code := { maxStack := 5, maxLocals := 2, code := jdk_42_method_3_code, exceptionTable := #[], attributes := #[] }
def k7m1 : Method := { name := "<init>", desc := "([C)V", sig := { parameters := [(.array .char)], returnType := none }, accessFlags := 1, code := some k7c1 }
def k7c2 : Code := { maxStack := 1, maxLocals := 1, code := jdk_42_method_55_code, exceptionTable := #[], attributes := #[] }
def k7m2 : Method := { name := "isEmpty", desc := "()Z", sig := { parameters := [], returnType := some .boolean }, accessFlags := 1, code := some k7c2 }
def k7c3 : Code := { maxStack := 4, maxLocals := 6, code := jdk_42_method_149_code, exceptionTable := #[], attributes := #[] }
def k7m3 : Method := { name := "<init>", desc := "([CIILjava/lang/Void;)V", sig := { parameters := [(.array .char), .int, .int, (.object "java/lang/Void")], returnType := none }, accessFlags := 2, code := some k7c3 }
/-- java/lang/String -/
def k7 : Class := { plain "java/lang/String" (some 0) with
  accessFlags := 49
  interfaces := #[2, 3, 4, 5, 6]
  cf := some (fileOf pool7 10 #[.nestMembers #[1103]] #[{ accessFlags := 1, nameIndex := 5, descriptorIndex := 6, attributes := #[] }, { accessFlags := 1, nameIndex := 5, descriptorIndex := 1010, attributes := #[] }, { accessFlags := 1, nameIndex := 692, descriptorIndex := 142, attributes := #[] }, { accessFlags := 2, nameIndex := 5, descriptorIndex := 29, attributes := #[] }] 49 2 #[1106, 1108, 575, 1110, 1112] #[{ accessFlags := 18, nameIndex := 13, descriptorIndex := 14, attributes := #[] }, { accessFlags := 18, nameIndex := 17, descriptorIndex := 18, attributes := #[] }, { accessFlags := 2, nameIndex := 21, descriptorIndex := 22, attributes := #[] }, { accessFlags := 2, nameIndex := 25, descriptorIndex := 26, attributes := #[] }, { accessFlags := 26, nameIndex := 1116, descriptorIndex := 1117, attributes := #[] }, { accessFlags := 24, nameIndex := 40, descriptorIndex := 26, attributes := #[] }, { accessFlags := 26, nameIndex := 1101, descriptorIndex := 1102, attributes := #[] }, { accessFlags := 26, nameIndex := 1121, descriptorIndex := 1122, attributes := #[] }, { accessFlags := 25, nameIndex := 599, descriptorIndex := 600, attributes := #[] }, { accessFlags := 24, nameIndex := 1125, descriptorIndex := 18, attributes := #[] }, { accessFlags := 24, nameIndex := 1127, descriptorIndex := 18, attributes := #[] }])
  fields := #[{ name := "value", type := (.array .byte), accessFlags := 18, slot := 0, constantValue := 0 }, { name := "coder", type := .byte, accessFlags := 18, slot := 1, constantValue := 0 }, { name := "hash", type := .int, accessFlags := 2, slot := 2, constantValue := 0 }, { name := "hashIsZero", type := .boolean, accessFlags := 2, slot := 3, constantValue := 0 }, { name := "serialVersionUID", type := .long, accessFlags := 26, slot := 0, constantValue := 0 }, { name := "COMPACT_STRINGS", type := .boolean, accessFlags := 24, slot := 1, constantValue := 0 }, { name := "serialPersistentFields", type := (.array (.object "java/io/ObjectStreamField")), accessFlags := 26, slot := 2, constantValue := 0 }, { name := "REPL", type := .char, accessFlags := 26, slot := 3, constantValue := 0 }, { name := "CASE_INSENSITIVE_ORDER", type := (.object "java/util/Comparator"), accessFlags := 25, slot := 4, constantValue := 0 }, { name := "LATIN1", type := .byte, accessFlags := 24, slot := 5, constantValue := 0 }, { name := "UTF16", type := .byte, accessFlags := 24, slot := 6, constantValue := 0 }]
  methods := #[k7m0, k7m1, k7m2, k7m3]
  instanceTypes := #[(.array .byte), .byte, .int, .boolean]
  staticTypes := #[.long, .boolean, (.array (.object "java/io/ObjectStreamField")), .char, (.object "java/util/Comparator"), .byte, .byte]
  resolved := Array.replicate 1451 none
  statics := some 0 }

def pool8 : Array CpInfo := pool [(6, .class_ 8), (1, u "java/lang/Object"), (0, u "<init>"), (0, u "()V"), (1, .class_ 14), (1, u "java/lang/StringUTF16"), (31, u "$assertionsDisabled"), (0, u "Z"), (13, u "HI_BYTE_SHIFT"), (0, u "I"), (2, u "LO_BYTE_SHIFT"), (49, .methodref 12 116), (0, .nameAndType 117 118), (0, u "compress"), (0, u "([CI[BII)I"), (3, u "([CII)[B"), (138, u "coderFromArrayLen"), (0, u "([BI)B"), (106, .class_ 371), (1, u "java/lang/StringUTF16$LinesSpliterator"), (58, u "MAX_LENGTH"), (196, .class_ 628), (0, u "java/lang/StringUTF16$CodePointsSpliterator"), (0, .class_ 630), (0, u "java/lang/StringUTF16$CharsSpliterator")] 4

def k8m0 : Method := { name := "<init>", desc := "()V", sig := { parameters := [], returnType := none }, accessFlags := 0, code := none }
def k8c1 : Code := { maxStack := 2, maxLocals := 2, code := jdk_52_method_15_code, exceptionTable := #[], attributes := #[] }
def k8m1 : Method := { name := "coderFromArrayLen", desc := "([BI)B", sig := { parameters := [(.array .byte), .int], returnType := some .byte }, accessFlags := 8, code := some k8c1 }
def k8c2 : Code := { maxStack := 5, maxLocals := 6, code := jdk_52_method_16_code, exceptionTable := #[], attributes := #[] }
def k8m2 : Method := { name := "compress", desc := "([CII)[B", sig := { parameters := [(.array .char), .int, .int], returnType := some (.array .byte) }, accessFlags := 9, code := some k8c2 }
def k8c3 : Code := { maxStack := 3, maxLocals := 7, code := jdk_52_method_21_code, exceptionTable := #[], attributes := #[] }
def k8m3 : Method := { name := "compress", desc := "([CI[BII)I", sig := { parameters := [(.array .char), .int, (.array .byte), .int, .int], returnType := some .int }, accessFlags := 9, code := some k8c3 }
/-- java/lang/StringUTF16 -/
def k8 : Class := { plain "java/lang/StringUTF16" (some 0) with
  accessFlags := 48
  interfaces := #[]
  cf := some (fileOf pool8 12 #[.nestMembers #[627, 629, 369]] #[{ accessFlags := 0, nameIndex := 9, descriptorIndex := 10, attributes := #[] }, { accessFlags := 8, nameIndex := 261, descriptorIndex := 262, attributes := #[] }, { accessFlags := 9, nameIndex := 117, descriptorIndex := 122, attributes := #[] }, { accessFlags := 9, nameIndex := 117, descriptorIndex := 118, attributes := #[] }] 48 6 #[] #[{ accessFlags := 26, nameIndex := 61, descriptorIndex := 62, attributes := #[] }, { accessFlags := 26, nameIndex := 65, descriptorIndex := 62, attributes := #[] }, { accessFlags := 24, nameIndex := 430, descriptorIndex := 62, attributes := #[] }, { accessFlags := 4120, nameIndex := 46, descriptorIndex := 47, attributes := #[] }])
  fields := #[{ name := "HI_BYTE_SHIFT", type := .int, accessFlags := 26, slot := 0, constantValue := 0 }, { name := "LO_BYTE_SHIFT", type := .int, accessFlags := 26, slot := 1, constantValue := 0 }, { name := "MAX_LENGTH", type := .int, accessFlags := 24, slot := 2, constantValue := 0 }, { name := "$assertionsDisabled", type := .boolean, accessFlags := 4120, slot := 3, constantValue := 0 }]
  methods := #[k8m0, k8m1, k8m2, k8m3]
  instanceTypes := #[]
  staticTypes := #[.int, .int, .int, .boolean]
  resolved := Array.replicate 635 none
  statics := none }

def pool9 : Array CpInfo := pool [(8, .class_ 10), (1, u "java/lang/Iterable"), (24, .class_ 36), (0, u "java/lang/Object")] 25

/-- java/lang/Iterable -/
def k9 : Class := { plain "java/lang/Iterable" (some 0) with
  accessFlags := 1537
  interfaces := #[]
  cf := some (fileOf pool9 8 #[] #[] 1537 35 #[] #[])
  fields := #[]
  methods := #[]
  instanceTypes := #[]
  staticTypes := #[]
  resolved := Array.replicate 62 none
  statics := none }

def pool10 : Array CpInfo := pool [(10, .class_ 12), (1, u "java/util/Collection"), (47, .class_ 61), (0, u "java/lang/Object"), (0, .class_ 63), (0, u "java/lang/Iterable")] 51

/-- java/util/Collection -/
def k10 : Class := { plain "java/util/Collection" (some 0) with
  accessFlags := 1537
  interfaces := #[9]
  cf := some (fileOf pool10 10 #[] #[] 1537 60 #[62] #[])
  fields := #[]
  methods := #[]
  instanceTypes := #[]
  staticTypes := #[]
  resolved := Array.replicate 115 none
  statics := none }

def pool11 : Array CpInfo := pool [(1, .methodref 2 3), (0, .class_ 4), (0, .nameAndType 5 6), (0, u "java/lang/Object"), (0, u "<init>"), (0, u "()V"), (1, .class_ 10), (1, u "java/util/AbstractCollection"), (66, .class_ 78), (0, u "java/util/Collection")] 81

def k11c0 : Code := { maxStack := 1, maxLocals := 1, code := jdk_22_method_1_code, exceptionTable := #[], attributes := #[] }
def k11m0 : Method := { name := "<init>", desc := "()V", sig := { parameters := [], returnType := none }, accessFlags := 4, code := some k11c0 }
/-- java/util/AbstractCollection -/
def k11 : Class := { plain "java/util/AbstractCollection" (some 0) with
  accessFlags := 1057
  interfaces := #[10]
  cf := some (fileOf pool11 8 #[] #[{ accessFlags := 4, nameIndex := 5, descriptorIndex := 6, attributes := #[] }] 1057 2 #[77] #[])
  fields := #[]
  methods := #[k11m0]
  instanceTypes := #[]
  staticTypes := #[]
  resolved := Array.replicate 160 none
  statics := none }

def pool12 : Array CpInfo := pool [(8, .class_ 10), (1, u "java/util/SequencedCollection"), (15, .class_ 27), (0, u "java/lang/Object"), (0, .class_ 29), (0, u "java/util/Collection")] 27

/-- java/util/SequencedCollection -/
def k12 : Class := { plain "java/util/SequencedCollection" (some 0) with
  accessFlags := 1537
  interfaces := #[10]
  cf := some (fileOf pool12 8 #[] #[] 1537 26 #[28] #[])
  fields := #[]
  methods := #[]
  instanceTypes := #[]
  staticTypes := #[]
  resolved := Array.replicate 57 none
  statics := none }

def pool13 : Array CpInfo := pool [(8, .class_ 10), (1, u "java/util/List"), (92, .class_ 104), (0, u "java/lang/Object"), (15, .class_ 121), (0, u "java/util/SequencedCollection")] 129

/-- java/util/List -/
def k13 : Class := { plain "java/util/List" (some 0) with
  accessFlags := 1537
  interfaces := #[12]
  cf := some (fileOf pool13 8 #[] #[] 1537 103 #[120] #[])
  fields := #[]
  methods := #[]
  instanceTypes := #[]
  staticTypes := #[]
  resolved := Array.replicate 251 none
  statics := none }

def pool14 : Array CpInfo := pool [(1, .methodref 2 3), (0, .class_ 4), (0, .nameAndType 5 6), (0, u "java/util/AbstractCollection"), (0, u "<init>"), (0, u "()V"), (0, .fieldref 8 9), (0, .class_ 10), (0, .nameAndType 11 12), (0, u "java/util/AbstractList"), (0, u "modCount"), (0, u "I"), (64, .class_ 78), (0, u "java/util/AbstractList$Itr"), (3, .class_ 83), (0, u "java/util/AbstractList$ListItr"), (9, .class_ 94), (0, u "java/util/AbstractList$RandomAccessSubList"), (3, .class_ 99), (0, u "java/util/AbstractList$SubList"), (33, .class_ 134), (0, u "java/util/List"), (73, .class_ 209), (0, u "java/util/AbstractList$SubList$1"), (0, .class_ 211), (0, u "java/util/AbstractList$RandomAccessSpliterator")] 6

def k14c0 : Code := { maxStack := 2, maxLocals := 1, code := jdk_39_method_1_code, exceptionTable := #[], attributes := #[] }
def k14m0 : Method := { name := "<init>", desc := "()V", sig := { parameters := [], returnType := none }, accessFlags := 4, code := some k14c0 }
/-- java/util/AbstractList -/
def k14 : Class := { plain "java/util/AbstractList" (some 11) with
  accessFlags := 1057
  interfaces := #[13]
  cf := some (fileOf pool14 8 #[.nestMembers #[93, 98, 208, 210, 82, 77]] #[{ accessFlags := 4, nameIndex := 5, descriptorIndex := 6, attributes := #[] }] 1057 2 #[133] #[{ accessFlags := 132, nameIndex := 11, descriptorIndex := 12, attributes := #[] }])
  fields := #[{ name := "modCount", type := .int, accessFlags := 132, slot := 0, constantValue := 0 }]
  methods := #[k14m0]
  instanceTypes := #[.int]
  staticTypes := #[]
  resolved := Array.replicate 218 none
  statics := none }

def pool15 : Array CpInfo := pool [(1, .class_ 2), (0, u "java/util/RandomAccess"), (0, .class_ 4), (0, u "java/lang/Object")] 2

/-- java/util/RandomAccess -/
def k15 : Class := { plain "java/util/RandomAccess" (some 0) with
  accessFlags := 1537
  interfaces := #[]
  cf := some (fileOf pool15 1 #[] #[] 1537 3 #[] #[])
  fields := #[]
  methods := #[]
  instanceTypes := #[]
  staticTypes := #[]
  resolved := Array.replicate 7 none
  statics := none }

def pool16 : Array CpInfo := pool [(1, .class_ 2), (0, u "java/lang/Cloneable"), (0, .class_ 4), (0, u "java/lang/Object")] 2

/-- java/lang/Cloneable -/
def k16 : Class := { plain "java/lang/Cloneable" (some 0) with
  accessFlags := 1537
  interfaces := #[]
  cf := some (fileOf pool16 1 #[] #[] 1537 3 #[] #[])
  fields := #[]
  methods := #[]
  instanceTypes := #[]
  staticTypes := #[]
  resolved := Array.replicate 7 none
  statics := none }

def pool17 : Array CpInfo := pool [(1, .methodref 2 3), (0, .class_ 4), (0, .nameAndType 5 6), (0, u "java/util/AbstractList"), (0, u "<init>"), (0, u "()V"), (2, .fieldref 10 11), (0, .class_ 12), (0, .nameAndType 13 14), (0, u "java/util/ArrayList"), (0, u "elementData"), (0, u "[Ljava/lang/Object;"), (2, u "EMPTY_ELEMENTDATA"), (21, .fieldref 10 40), (0, .nameAndType 41 14), (0, u "DEFAULTCAPACITY_EMPTY_ELEMENTDATA"), (8, u "size"), (0, u "I"), (96, .class_ 149), (0, u "java/util/List"), (112, .class_ 263), (0, u "java/util/ArrayList$ListItr"), (3, .class_ 268), (0, u "java/util/ArrayList$Itr"), (7, .class_ 277), (0, u "java/util/ArrayList$SubList"), (12, .class_ 291), (0, u "java/util/ArrayList$ArrayListSpliterator"), (37, .class_ 330), (0, u "java/util/RandomAccess"), (0, .class_ 332), (0, u "java/lang/Cloneable"), (0, .class_ 334), (0, u "java/io/Serializable"), (0, u "serialVersionUID"), (0, u "J"), (3, u "DEFAULT_CAPACITY"), (159, .class_ 501), (0, u "java/util/ArrayList$SubList$2"), (0, .class_ 503), (0, u "java/util/ArrayList$SubList$1")] 5

def k17c0 : Code := { maxStack := 2, maxLocals := 1, code := jdk_38_method_2_code, exceptionTable := #[], attributes := #[] }
def k17m0 : Method := { name := "<init>", desc := "()V", sig := { parameters := [], returnType := none }, accessFlags := 1, code := some k17c0 }
/-- java/util/ArrayList -/
def k17 : Class := { plain "java/util/ArrayList" (some 14) with
  accessFlags := 33
  interfaces := #[13, 15, 16, 2]
  cf := some (fileOf pool17 10 #[.nestMembers #[290, 276, 500, 502, 262, 267]] #[{ accessFlags := 1, nameIndex := 5, descriptorIndex := 6, attributes := #[] }] 33 2 #[148, 329, 331, 333] #[{ accessFlags := 26, nameIndex := 335, descriptorIndex := 336, attributes := #[] }, { accessFlags := 26, nameIndex := 340, descriptorIndex := 51, attributes := #[] }, { accessFlags := 26, nameIndex := 17, descriptorIndex := 14, attributes := #[] }, { accessFlags := 26, nameIndex := 41, descriptorIndex := 14, attributes := #[] }, { accessFlags := 128, nameIndex := 13, descriptorIndex := 14, attributes := #[] }, { accessFlags := 2, nameIndex := 50, descriptorIndex := 51, attributes := #[] }])
  fields := #[{ name := "serialVersionUID", type := .long, accessFlags := 26, slot := 0, constantValue := 0 }, { name := "DEFAULT_CAPACITY", type := .int, accessFlags := 26, slot := 1, constantValue := 0 }, { name := "EMPTY_ELEMENTDATA", type := (.array (.object "java/lang/Object")), accessFlags := 26, slot := 2, constantValue := 0 }, { name := "DEFAULTCAPACITY_EMPTY_ELEMENTDATA", type := (.array (.object "java/lang/Object")), accessFlags := 26, slot := 3, constantValue := 0 }, { name := "elementData", type := (.array (.object "java/lang/Object")), accessFlags := 128, slot := 1, constantValue := 0 }, { name := "size", type := .int, accessFlags := 2, slot := 2, constantValue := 0 }]
  methods := #[k17m0]
  instanceTypes := #[.int, (.array (.object "java/lang/Object")), .int]
  staticTypes := #[.long, .int, (.array (.object "java/lang/Object")), (.array (.object "java/lang/Object"))]
  resolved := Array.replicate 509 none
  statics := some 1 }

def pool18 : Array CpInfo := pool [(1, .methodref 2 3), (0, .class_ 4), (0, .nameAndType 5 6), (0, u "java/lang/Object"), (0, u "<init>"), (0, u "()V"), (0, .class_ 8), (0, u "java/lang/Record")] 13

def k18c0 : Code := { maxStack := 1, maxLocals := 1, code := jdk_30_method_1_code, exceptionTable := #[], attributes := #[] }
def k18m0 : Method := { name := "<init>", desc := "()V", sig := { parameters := [], returnType := none }, accessFlags := 4, code := some k18c0 }
/-- java/lang/Record -/
def k18 : Class := { plain "java/lang/Record" (some 0) with
  accessFlags := 1057
  interfaces := #[]
  cf := some (fileOf pool18 7 #[] #[{ accessFlags := 4, nameIndex := 5, descriptorIndex := 6, attributes := #[] }] 1057 2 #[] #[])
  fields := #[]
  methods := #[k18m0]
  instanceTypes := #[]
  staticTypes := #[]
  resolved := Array.replicate 22 none
  statics := none }

def pool19 : Array CpInfo := pool [(1, .methodref 2 3), (0, .class_ 4), (0, .nameAndType 5 6), (0, u "java/lang/Record"), (0, u "<init>"), (0, u "()V"), (0, .fieldref 8 9), (0, .class_ 10), (0, .nameAndType 11 12), (0, u "com/example/stierlin/stierlin/protocol/OffsetCommitRequest"), (0, u "groupId"), (0, u "Ljava/lang/String;"), (0, .fieldref 8 14), (0, .nameAndType 15 16), (0, u "generationId"), (0, u "I"), (0, .fieldref 8 18), (0, .nameAndType 19 12), (0, u "memberId"), (0, .fieldref 8 21), (0, .nameAndType 22 12), (0, u "groupInstanceId"), (0, .fieldref 8 24), (0, .nameAndType 25 26), (0, u "topics"), (0, u "Ljava/util/List;"), (27, u "(Ljava/lang/String;ILjava/lang/String;Ljava/lang/String;Ljava/util/List;)V"), (0, .methodref 56 57), (0, .class_ 58), (0, .nameAndType 59 60), (0, u "java/lang/String"), (0, u "isEmpty"), (0, u "()Z"), (0, .class_ 62), (0, u "com/example/stierlin/stierlin/protocol/OffsetCommitRequest$Topic"), (4, .class_ 68), (0, u "com/example/stierlin/stierlin/protocol/OffsetCommitRequest$Partition"), (25, u "NO_LEADER_EPOCH"), (2, u "OUTSIDE_MEMBERSHIP"), (0, u "FIRST_VERSION_WITH_RETENTION"), (0, u "S"), (1, u "FIRST_VERSION_WITHOUT_RETENTION"), (1, u "FIRST_VERSION_WITH_LEADER_EPOCH"), (1, u "FIRST_VERSION_WITH_INSTANCE_ID"), (8, u "fromOutsideMembership")] 53

def k19c0 : Code := { maxStack := 2, maxLocals := 6, code := prog_63_method_1_code, exceptionTable := #[], attributes := #[] }
def k19m0 : Method := { name := "<init>", desc := "(Ljava/lang/String;ILjava/lang/String;Ljava/lang/String;Ljava/util/List;)V", sig := { parameters := [(.object "java/lang/String"), .int, (.object "java/lang/String"), (.object "java/lang/String"), (.object "java/util/List")], returnType := none }, accessFlags := 1, code := some k19c0 }
def k19c1 : Code := { maxStack := 2, maxLocals := 1, code := prog_63_method_3_code, exceptionTable := #[], attributes := #[] }
def k19m1 : Method := { name := "fromOutsideMembership", desc := "()Z", sig := { parameters := [], returnType := some .boolean }, accessFlags := 1, code := some k19c1 }
/-- com/example/stierlin/stierlin/protocol/OffsetCommitRequest -/
def k19 : Class := { plain "com/example/stierlin/stierlin/protocol/OffsetCommitRequest" (some 18) with
  accessFlags := 49
  interfaces := #[]
  cf := some (fileOf pool19 8 #[.nestMembers #[67, 61]] #[{ accessFlags := 1, nameIndex := 5, descriptorIndex := 54, attributes := #[] }, { accessFlags := 1, nameIndex := 114, descriptorIndex := 60, attributes := #[] }] 49 2 #[] #[{ accessFlags := 18, nameIndex := 11, descriptorIndex := 12, attributes := #[] }, { accessFlags := 18, nameIndex := 15, descriptorIndex := 16, attributes := #[] }, { accessFlags := 18, nameIndex := 19, descriptorIndex := 12, attributes := #[] }, { accessFlags := 18, nameIndex := 22, descriptorIndex := 12, attributes := #[] }, { accessFlags := 18, nameIndex := 25, descriptorIndex := 26, attributes := #[] }, { accessFlags := 25, nameIndex := 94, descriptorIndex := 16, attributes := #[] }, { accessFlags := 25, nameIndex := 97, descriptorIndex := 16, attributes := #[] }, { accessFlags := 26, nameIndex := 98, descriptorIndex := 99, attributes := #[] }, { accessFlags := 26, nameIndex := 101, descriptorIndex := 99, attributes := #[] }, { accessFlags := 26, nameIndex := 103, descriptorIndex := 99, attributes := #[] }, { accessFlags := 26, nameIndex := 105, descriptorIndex := 99, attributes := #[] }])
  fields := #[{ name := "groupId", type := (.object "java/lang/String"), accessFlags := 18, slot := 0, constantValue := 0 }, { name := "generationId", type := .int, accessFlags := 18, slot := 1, constantValue := 0 }, { name := "memberId", type := (.object "java/lang/String"), accessFlags := 18, slot := 2, constantValue := 0 }, { name := "groupInstanceId", type := (.object "java/lang/String"), accessFlags := 18, slot := 3, constantValue := 0 }, { name := "topics", type := (.object "java/util/List"), accessFlags := 18, slot := 4, constantValue := 0 }, { name := "NO_LEADER_EPOCH", type := .int, accessFlags := 25, slot := 0, constantValue := 0 }, { name := "OUTSIDE_MEMBERSHIP", type := .int, accessFlags := 25, slot := 1, constantValue := 0 }, { name := "FIRST_VERSION_WITH_RETENTION", type := .short, accessFlags := 26, slot := 2, constantValue := 0 }, { name := "FIRST_VERSION_WITHOUT_RETENTION", type := .short, accessFlags := 26, slot := 3, constantValue := 0 }, { name := "FIRST_VERSION_WITH_LEADER_EPOCH", type := .short, accessFlags := 26, slot := 4, constantValue := 0 }, { name := "FIRST_VERSION_WITH_INSTANCE_ID", type := .short, accessFlags := 26, slot := 5, constantValue := 0 }]
  methods := #[k19m0, k19m1]
  instanceTypes := #[(.object "java/lang/String"), .int, (.object "java/lang/String"), (.object "java/lang/String"), (.object "java/util/List")]
  staticTypes := #[.int, .int, .short, .short, .short, .short]
  resolved := Array.replicate 168 none
  statics := none }

def pool20 : Array CpInfo := pool [(4, .class_ 6), (1, u "java/lang/Object"), (0, u "<init>"), (0, u "()V"), (5, .class_ 16), (1, u "java/lang/StringLatin1"), (104, u "$assertionsDisabled"), (0, u "Z"), (98, .class_ 223), (1, u "java/lang/StringLatin1$LinesSpliterator"), (166, .class_ 391), (0, u "java/lang/StringLatin1$CharsSpliterator")] 3

def k20m0 : Method := { name := "<init>", desc := "()V", sig := { parameters := [], returnType := none }, accessFlags := 0, code := none }
/-- java/lang/StringLatin1 -/
def k20 : Class := { plain "java/lang/StringLatin1" (some 0) with
  accessFlags := 48
  interfaces := #[]
  cf := some (fileOf pool20 14 #[.nestMembers #[390, 221]] #[{ accessFlags := 0, nameIndex := 7, descriptorIndex := 8, attributes := #[] }] 48 4 #[] #[{ accessFlags := 4120, nameIndex := 121, descriptorIndex := 122, attributes := #[] }])
  fields := #[{ name := "$assertionsDisabled", type := .boolean, accessFlags := 4120, slot := 0, constantValue := 0 }]
  methods := #[k20m0]
  instanceTypes := #[]
  staticTypes := #[.boolean]
  resolved := Array.replicate 395 none
  statics := none }

def pool21 : Array CpInfo := pool [(2, .class_ 4), (1, u "java/lang/Object"), (0, u "<init>"), (0, u "()V"), (17, .class_ 26), (1, u "jdk/internal/util/Preconditions"), (28, .class_ 56), (0, u "jdk/internal/util/Preconditions$4"), (57, .class_ 115), (0, u "jdk/internal/util/Preconditions$1"), (7, u "SIOOBE_FORMATTER"), (0, u "Ljava/util/function/BiFunction;"), (0, .class_ 126), (0, u "jdk/internal/util/Preconditions$2"), (3, u "AIOOBE_FORMATTER"), (0, .class_ 132), (0, u "jdk/internal/util/Preconditions$3"), (3, u "IOOBE_FORMATTER")] 57

def k21m0 : Method := { name := "<init>", desc := "()V", sig := { parameters := [], returnType := none }, accessFlags := 1, code := none }
/-- jdk/internal/util/Preconditions -/
def k21 : Class := { plain "jdk/internal/util/Preconditions" (some 0) with
  accessFlags := 33
  interfaces := #[]
  cf := some (fileOf pool21 24 #[.nestMembers #[55, 131, 125, 114]] #[{ accessFlags := 1, nameIndex := 5, descriptorIndex := 6, attributes := #[] }] 33 2 #[] #[{ accessFlags := 25, nameIndex := 123, descriptorIndex := 124, attributes := #[] }, { accessFlags := 25, nameIndex := 130, descriptorIndex := 124, attributes := #[] }, { accessFlags := 25, nameIndex := 136, descriptorIndex := 124, attributes := #[] }])
  fields := #[{ name := "SIOOBE_FORMATTER", type := (.object "java/util/function/BiFunction"), accessFlags := 25, slot := 0, constantValue := 0 }, { name := "AIOOBE_FORMATTER", type := (.object "java/util/function/BiFunction"), accessFlags := 25, slot := 1, constantValue := 0 }, { name := "IOOBE_FORMATTER", type := (.object "java/util/function/BiFunction"), accessFlags := 25, slot := 2, constantValue := 0 }]
  methods := #[k21m0]
  instanceTypes := #[]
  staticTypes := #[(.object "java/util/function/BiFunction"), (.object "java/util/function/BiFunction"), (.object "java/util/function/BiFunction")]
  resolved := Array.replicate 194 none
  statics := some 2 }

def pool22 : Array CpInfo := pool [(9, u "<init>"), (6, .class_ 18), (1, u "java/lang/Object"), (0, u "()V"), (1, .class_ 23), (1, u "jdk/internal/util/ArraysSupport"), (0, u "LOG2_ARRAY_LONG_INDEX_SCALE"), (0, u "I"), (2, u "U"), (0, u "Ljdk/internal/misc/Unsafe;"), (8, u "BIG_ENDIAN"), (0, u "Z"), (8, u "LOG2_BYTE_BIT_SIZE"), (4, u "LOG2_ARRAY_INT_INDEX_SCALE"), (54, u "JLA"), (0, u "Ljdk/internal/access/JavaLangAccess;"), (11, u "LOG2_ARRAY_BOOLEAN_INDEX_SCALE"), (9, u "LOG2_ARRAY_BYTE_INDEX_SCALE"), (5, u "LOG2_ARRAY_CHAR_INDEX_SCALE"), (5, u "LOG2_ARRAY_SHORT_INDEX_SCALE"), (18, u "LOG2_ARRAY_FLOAT_INDEX_SCALE"), (24, u "LOG2_ARRAY_DOUBLE_INDEX_SCALE"), (89, u "T_BOOLEAN"), (2, u "T_CHAR"), (1, u "T_FLOAT"), (1, u "T_DOUBLE"), (1, u "T_BYTE"), (1, u "T_SHORT"), (1, u "T_INT"), (1, u "T_LONG"), (1, u "SOFT_MAX_ARRAY_LENGTH")] 83

def k22m0 : Method := { name := "<init>", desc := "()V", sig := { parameters := [], returnType := none }, accessFlags := 2, code := none }
/-- jdk/internal/util/ArraysSupport -/
def k22 : Class := { plain "jdk/internal/util/ArraysSupport" (some 0) with
  accessFlags := 33
  interfaces := #[]
  cf := some (fileOf pool22 21 #[] #[{ accessFlags := 2, nameIndex := 9, descriptorIndex := 19, attributes := #[] }] 33 16 #[] #[{ accessFlags := 24, nameIndex := 28, descriptorIndex := 29, attributes := #[] }, { accessFlags := 26, nameIndex := 38, descriptorIndex := 39, attributes := #[] }, { accessFlags := 25, nameIndex := 121, descriptorIndex := 25, attributes := #[] }, { accessFlags := 25, nameIndex := 131, descriptorIndex := 25, attributes := #[] }, { accessFlags := 25, nameIndex := 137, descriptorIndex := 25, attributes := #[] }, { accessFlags := 25, nameIndex := 143, descriptorIndex := 25, attributes := #[] }, { accessFlags := 25, nameIndex := 53, descriptorIndex := 25, attributes := #[] }, { accessFlags := 25, nameIndex := 24, descriptorIndex := 25, attributes := #[] }, { accessFlags := 25, nameIndex := 162, descriptorIndex := 25, attributes := #[] }, { accessFlags := 25, nameIndex := 187, descriptorIndex := 25, attributes := #[] }, { accessFlags := 26, nameIndex := 48, descriptorIndex := 25, attributes := #[] }, { accessFlags := 25, nameIndex := 277, descriptorIndex := 25, attributes := #[] }, { accessFlags := 25, nameIndex := 280, descriptorIndex := 25, attributes := #[] }, { accessFlags := 25, nameIndex := 282, descriptorIndex := 25, attributes := #[] }, { accessFlags := 25, nameIndex := 284, descriptorIndex := 25, attributes := #[] }, { accessFlags := 25, nameIndex := 286, descriptorIndex := 25, attributes := #[] }, { accessFlags := 25, nameIndex := 288, descriptorIndex := 25, attributes := #[] }, { accessFlags := 25, nameIndex := 290, descriptorIndex := 25, attributes := #[] }, { accessFlags := 25, nameIndex := 292, descriptorIndex := 25, attributes := #[] }, { accessFlags := 26, nameIndex := 108, descriptorIndex := 109, attributes := #[] }, { accessFlags := 25, nameIndex := 294, descriptorIndex := 25, attributes := #[] }])
  fields := #[{ name := "U", type := (.object "jdk/internal/misc/Unsafe"), accessFlags := 24, slot := 0, constantValue := 0 }, { name := "BIG_ENDIAN", type := .boolean, accessFlags := 26, slot := 1, constantValue := 0 }, { name := "LOG2_ARRAY_BOOLEAN_INDEX_SCALE", type := .int, accessFlags := 25, slot := 2, constantValue := 0 }, { name := "LOG2_ARRAY_BYTE_INDEX_SCALE", type := .int, accessFlags := 25, slot := 3, constantValue := 0 }, { name := "LOG2_ARRAY_CHAR_INDEX_SCALE", type := .int, accessFlags := 25, slot := 4, constantValue := 0 }, { name := "LOG2_ARRAY_SHORT_INDEX_SCALE", type := .int, accessFlags := 25, slot := 5, constantValue := 0 }, { name := "LOG2_ARRAY_INT_INDEX_SCALE", type := .int, accessFlags := 25, slot := 6, constantValue := 0 }, { name := "LOG2_ARRAY_LONG_INDEX_SCALE", type := .int, accessFlags := 25, slot := 7, constantValue := 0 }, { name := "LOG2_ARRAY_FLOAT_INDEX_SCALE", type := .int, accessFlags := 25, slot := 8, constantValue := 0 }, { name := "LOG2_ARRAY_DOUBLE_INDEX_SCALE", type := .int, accessFlags := 25, slot := 9, constantValue := 0 }, { name := "LOG2_BYTE_BIT_SIZE", type := .int, accessFlags := 26, slot := 10, constantValue := 0 }, { name := "T_BOOLEAN", type := .int, accessFlags := 25, slot := 11, constantValue := 0 }, { name := "T_CHAR", type := .int, accessFlags := 25, slot := 12, constantValue := 0 }, { name := "T_FLOAT", type := .int, accessFlags := 25, slot := 13, constantValue := 0 }, { name := "T_DOUBLE", type := .int, accessFlags := 25, slot := 14, constantValue := 0 }, { name := "T_BYTE", type := .int, accessFlags := 25, slot := 15, constantValue := 0 }, { name := "T_SHORT", type := .int, accessFlags := 25, slot := 16, constantValue := 0 }, { name := "T_INT", type := .int, accessFlags := 25, slot := 17, constantValue := 0 }, { name := "T_LONG", type := .int, accessFlags := 25, slot := 18, constantValue := 0 }, { name := "JLA", type := (.object "jdk/internal/access/JavaLangAccess"), accessFlags := 26, slot := 19, constantValue := 0 }, { name := "SOFT_MAX_ARRAY_LENGTH", type := .int, accessFlags := 25, slot := 20, constantValue := 0 }]
  methods := #[k22m0]
  instanceTypes := #[]
  staticTypes := #[(.object "jdk/internal/misc/Unsafe"), .boolean, .int, .int, .int, .int, .int, .int, .int, .int, .int, .int, .int, .int, .int, .int, .int, .int, .int, (.object "jdk/internal/access/JavaLangAccess"), .int]
  resolved := Array.replicate 378 none
  statics := none }

/-- the primitive byte -/
def k23 : Class := { plain "byte" none with kind := .primitive 'B', accessFlags := 0x411 }
/-- [B -/
def k24 : Class := { plain "[B" (some 0) with kind := .array 23 .byte, interfaces := #[16, 2], accessFlags := 1041 }

/-- the primitive char -/
def k25 : Class := { plain "char" none with kind := .primitive 'C', accessFlags := 0x411 }
/-- [C -/
def k26 : Class := { plain "[C" (some 0) with kind := .array 25 .char, interfaces := #[16, 2], accessFlags := 1041 }

/-- the primitive int -/
def k27 : Class := { plain "int" none with kind := .primitive 'I', accessFlags := 0x411 }
/-- [I -/
def k28 : Class := { plain "[I" (some 0) with kind := .array 27 .int, interfaces := #[16, 2], accessFlags := 1041 }

/-- [Ljava/lang/Object; -/
def k29 : Class := { plain "[Ljava/lang/Object;" (some 0) with kind := .array 0 (.object "java/lang/Object"), interfaces := #[16, 2], accessFlags := 1041 }

def heap : Heap := #[{ cls := 7, slots := #[.long 0, .int 1, .null, .int 0, .null, .int 0, .int 0], vm := .statics 7 },
  { cls := 17, slots := #[.long 0, .int 0, .ref 3, .ref 4], vm := .statics 17 },
  { cls := 21, slots := #[.null, .null, .null], vm := .statics 21 },
  { cls := 29, slots := #[], vm := .none },
  { cls := 29, slots := #[], vm := .none }]
def classes : Array Class := #[k0, k1, k2, k3, k4, k5, k6, k7, k8, k9, k10, k11, k12, k13, k14, k15, k16, k17, k18, k19, k20, k21, k22, k23, k24, k25, k26, k27, k28, k29]
def interned : List (Array UInt16 × Addr) := []
def slotsUsed : Nat := 14
def theMethod : MethodId := ⟨1, 1⟩
def args0 : Array Value := #[.int 5, .int 3, .int 7]
def aboutOver (below : List Frame) : State where
  vm := { classes := classes, interned := interned.toArray }
  heap := heap
  slotsUsed := slotsUsed
  threads := #[{ frames := .invoking theMethod args0 :: below }]
def below0 : List Frame := [.native { method := ⟨0, 0⟩, args := #[] }]
def about1 : State := aboutOver below0
def p0 : Program := .bare "" "" ""
def e0 : Env := launch0.env 0 0 0
theorem w_frames : about1.frames = Frame.invoking theMethod args0 :: below0 := rfl
set_option maxRecDepth 65536 in
theorem w_args : argsFit about1.vm theMethod args0 = true := by decide +kernel
set_option maxRecDepth 65536 in
theorem w_heap : heapFits about1 = true := by decide +kernel
set_option maxRecDepth 65536 in
theorem w_runnable : about1.curStatus? = some .runnable := by decide +kernel
set_option maxRecDepth 65536 in
theorem w_alone : about1.alone = true := by decide +kernel
set_option maxRecDepth 65536 in
theorem w_named : about1.methodNamed? x = some theMethod := by decide +kernel
set_option maxRecDepth 65536 in
theorem w_hears : about1.hears theMethod below0 = true := by decide +kernel
set_option maxRecDepth 65536 in
theorem w_ripe : about1.ripe theMethod args0 below0 = true := by decide +kernel
theorem w_running : about1.status = .running := rfl
set_option maxRecDepth 65536 in
theorem w_room : about1.hasRoom e0.platform room_1 = true :=
  launch0.hasRoom_least _ room_1 (by decide +kernel) (by decide +kernel) (by decide +kernel) (by decide +kernel) (by decide +kernel) (by decide +kernel)
theorem allAtoms_all (ts : List Jvm.Cond) (a : Array Jvm.Value) (st : Jvm.State) : (allAtoms ts).before a st = ts.all (fun c => c.before a st) := by
  induction ts with
  | nil => rfl
  | cons c t ih =>
    show (Jvm.Cond.and c (allAtoms t)).before a st = _
    rw [Jvm.Cond.before_and, ih, List.all_cons]
def words1 : List Jvm.Cond := Jvm.Cond.code x code maxLocals ret :: tables_1
/-- a 'code' word, met by the world's own term for the bytes: nothing is compared byte by byte -/
theorem code_word {y : MethodName} {bytes : ByteArray} {mx : Nat} {rt : Option FieldType} {a : Array Value} {s : State} {m : MethodId} {meth : Method} {c : Code} (h1 : s.methodNamed? y = some m) (h2 : s.vm.method? m = some meth) (h3 : meth.code = some c) (h4 : c.code = bytes)
    (h5 : (c.maxLocals == mx && c.exceptionTable.isEmpty && decide (c.maxStack ≤ mostOperands) && decide (meth.sig.returnType = rt) && !meth.locks && decide (parseMethodDescriptor y.desc = some meth.sig)) = true) : (Jvm.Cond.code y bytes mx rt).before a s = true := by
  simp only [Bool.and_eq_true, beq_iff_eq, Bool.not_eq_true', decide_eq_true_eq] at h5
  obtain ⟨⟨⟨⟨⟨g1, g2⟩, g3⟩, g4⟩, g5⟩, g6⟩ := h5
  simp [Cond.before, Cond.holds, Cond.value, h1, h2, h3, h4, g1, g2, g3, g4, g5, g6]
def isCode : Jvm.Cond → Bool
  | .code _ _ _ _ => true
  | _ => false
theorem all_split {L : List Jvm.Cond} {P : Jvm.Cond → Bool} (h1 : L.all (fun c => isCode c || P c) = true) (h2 : ∀ c ∈ L.filter isCode, P c = true) : L.all P = true := by
  refine List.all_eq_true.mpr fun c hc => ?_
  have h := List.all_eq_true.mp h1 c hc
  rcases Bool.eq_false_or_eq_true (isCode c) with hi | hi
  · exact h2 c (List.mem_filter.mpr ⟨hc, hi⟩)
  · simpa [hi] using h
set_option maxRecDepth 65536 in
theorem w_c0 : (Jvm.Cond.code x code maxLocals ret).before args0 about1 = true := code_word (m := ⟨1, 1⟩) (meth := k1m1) (c := k1c1) (by decide +kernel) rfl rfl rfl (by decide +kernel)
set_option maxRecDepth 65536 in
theorem w_c1 : (Jvm.Cond.code ({ cls := "com/example/stierlin/stierlin/protocol/OffsetCommitRequestFromOutsideMembershipPinLaw", name := "make", desc := "(ICCC)Ljava/lang/String;" } : Jvm.MethodName) method_3_code (4 : Nat) (Option.some (Jvm.ClassFile.FieldType.object "java/lang/String"))).before args0 about1 = true := code_word (m := ⟨1, 2⟩) (meth := k1m2) (c := k1c2) (by decide +kernel) rfl rfl rfl (by decide +kernel)
set_option maxRecDepth 65536 in
theorem w_c2 : (Jvm.Cond.code ({ cls := "java/lang/String", name := "<init>", desc := "([C)V" } : Jvm.MethodName) jdk_42_method_3_code (2 : Nat) (Option.none : Option Jvm.ClassFile.FieldType)).before args0 about1 = true := code_word (m := ⟨7, 1⟩) (meth := k7m1) (c := k7c1) (by decide +kernel) rfl rfl rfl (by decide +kernel)
set_option maxRecDepth 65536 in
theorem w_c3 : (Jvm.Cond.code ({ cls := "java/lang/String", name := "<init>", desc := "([CIILjava/lang/Void;)V" } : Jvm.MethodName) jdk_42_method_149_code (6 : Nat) (Option.none : Option Jvm.ClassFile.FieldType)).before args0 about1 = true := code_word (m := ⟨7, 3⟩) (meth := k7m3) (c := k7c3) (by decide +kernel) rfl rfl rfl (by decide +kernel)
set_option maxRecDepth 65536 in
theorem w_c4 : (Jvm.Cond.code ({ cls := "java/lang/Object", name := "<init>", desc := "()V" } : Jvm.MethodName) object_method_1_code (1 : Nat) (Option.none : Option Jvm.ClassFile.FieldType)).before args0 about1 = true := code_word (m := ⟨0, 0⟩) (meth := k0m0) (c := k0c0) (by decide +kernel) rfl rfl rfl (by decide +kernel)
set_option maxRecDepth 65536 in
theorem w_c5 : (Jvm.Cond.code ({ cls := "java/lang/StringUTF16", name := "compress", desc := "([CII)[B" } : Jvm.MethodName) jdk_52_method_16_code (6 : Nat) (Option.some (Jvm.ClassFile.FieldType.array Jvm.ClassFile.FieldType.byte))).before args0 about1 = true := code_word (m := ⟨8, 2⟩) (meth := k8m2) (c := k8c2) (by decide +kernel) rfl rfl rfl (by decide +kernel)
set_option maxRecDepth 65536 in
theorem w_c6 : (Jvm.Cond.code ({ cls := "java/lang/StringUTF16", name := "compress", desc := "([CI[BII)I" } : Jvm.MethodName) jdk_52_method_21_code (7 : Nat) (Option.some Jvm.ClassFile.FieldType.int)).before args0 about1 = true := code_word (m := ⟨8, 3⟩) (meth := k8m3) (c := k8c3) (by decide +kernel) rfl rfl rfl (by decide +kernel)
set_option maxRecDepth 65536 in
theorem w_c7 : (Jvm.Cond.code ({ cls := "java/lang/StringUTF16", name := "coderFromArrayLen", desc := "([BI)B" } : Jvm.MethodName) jdk_52_method_15_code (2 : Nat) (Option.some Jvm.ClassFile.FieldType.byte)).before args0 about1 = true := code_word (m := ⟨8, 1⟩) (meth := k8m1) (c := k8c1) (by decide +kernel) rfl rfl rfl (by decide +kernel)
set_option maxRecDepth 65536 in
theorem w_c8 : (Jvm.Cond.code ({ cls := "java/util/ArrayList", name := "<init>", desc := "()V" } : Jvm.MethodName) jdk_38_method_2_code (1 : Nat) (Option.none : Option Jvm.ClassFile.FieldType)).before args0 about1 = true := code_word (m := ⟨17, 0⟩) (meth := k17m0) (c := k17c0) (by decide +kernel) rfl rfl rfl (by decide +kernel)
set_option maxRecDepth 65536 in
theorem w_c9 : (Jvm.Cond.code ({ cls := "java/util/AbstractList", name := "<init>", desc := "()V" } : Jvm.MethodName) jdk_39_method_1_code (1 : Nat) (Option.none : Option Jvm.ClassFile.FieldType)).before args0 about1 = true := code_word (m := ⟨14, 0⟩) (meth := k14m0) (c := k14c0) (by decide +kernel) rfl rfl rfl (by decide +kernel)
set_option maxRecDepth 65536 in
theorem w_c10 : (Jvm.Cond.code ({ cls := "java/util/AbstractCollection", name := "<init>", desc := "()V" } : Jvm.MethodName) jdk_22_method_1_code (1 : Nat) (Option.none : Option Jvm.ClassFile.FieldType)).before args0 about1 = true := code_word (m := ⟨11, 0⟩) (meth := k11m0) (c := k11c0) (by decide +kernel) rfl rfl rfl (by decide +kernel)
set_option maxRecDepth 65536 in
theorem w_c11 : (Jvm.Cond.code ({ cls := "com/example/stierlin/stierlin/protocol/OffsetCommitRequest", name := "<init>", desc := "(Ljava/lang/String;ILjava/lang/String;Ljava/lang/String;Ljava/util/List;)V" } : Jvm.MethodName) prog_63_method_1_code (6 : Nat) (Option.none : Option Jvm.ClassFile.FieldType)).before args0 about1 = true := code_word (m := ⟨19, 0⟩) (meth := k19m0) (c := k19c0) (by decide +kernel) rfl rfl rfl (by decide +kernel)
set_option maxRecDepth 65536 in
theorem w_c12 : (Jvm.Cond.code ({ cls := "java/lang/Record", name := "<init>", desc := "()V" } : Jvm.MethodName) jdk_30_method_1_code (1 : Nat) (Option.none : Option Jvm.ClassFile.FieldType)).before args0 about1 = true := code_word (m := ⟨18, 0⟩) (meth := k18m0) (c := k18c0) (by decide +kernel) rfl rfl rfl (by decide +kernel)
set_option maxRecDepth 65536 in
theorem w_c13 : (Jvm.Cond.code ({ cls := "com/example/stierlin/stierlin/protocol/OffsetCommitRequest", name := "fromOutsideMembership", desc := "()Z" } : Jvm.MethodName) prog_63_method_3_code (1 : Nat) (Option.some Jvm.ClassFile.FieldType.boolean)).before args0 about1 = true := code_word (m := ⟨19, 1⟩) (meth := k19m1) (c := k19c1) (by decide +kernel) rfl rfl rfl (by decide +kernel)
set_option maxRecDepth 65536 in
theorem w_c14 : (Jvm.Cond.code ({ cls := "java/lang/String", name := "isEmpty", desc := "()Z" } : Jvm.MethodName) jdk_42_method_55_code (1 : Nat) (Option.some Jvm.ClassFile.FieldType.boolean)).before args0 about1 = true := code_word (m := ⟨7, 2⟩) (meth := k7m2) (c := k7c2) (by decide +kernel) rfl rfl rfl (by decide +kernel)
def codes1 : List Jvm.Cond := [Jvm.Cond.code x code maxLocals ret, Jvm.Cond.code ({ cls := "com/example/stierlin/stierlin/protocol/OffsetCommitRequestFromOutsideMembershipPinLaw", name := "make", desc := "(ICCC)Ljava/lang/String;" } : Jvm.MethodName) method_3_code (4 : Nat) (Option.some (Jvm.ClassFile.FieldType.object "java/lang/String")), Jvm.Cond.code ({ cls := "java/lang/String", name := "<init>", desc := "([C)V" } : Jvm.MethodName) jdk_42_method_3_code (2 : Nat) (Option.none : Option Jvm.ClassFile.FieldType), Jvm.Cond.code ({ cls := "java/lang/String", name := "<init>", desc := "([CIILjava/lang/Void;)V" } : Jvm.MethodName) jdk_42_method_149_code (6 : Nat) (Option.none : Option Jvm.ClassFile.FieldType), Jvm.Cond.code ({ cls := "java/lang/Object", name := "<init>", desc := "()V" } : Jvm.MethodName) object_method_1_code (1 : Nat) (Option.none : Option Jvm.ClassFile.FieldType), Jvm.Cond.code ({ cls := "java/lang/StringUTF16", name := "compress", desc := "([CII)[B" } : Jvm.MethodName) jdk_52_method_16_code (6 : Nat) (Option.some (Jvm.ClassFile.FieldType.array Jvm.ClassFile.FieldType.byte)), Jvm.Cond.code ({ cls := "java/lang/StringUTF16", name := "compress", desc := "([CI[BII)I" } : Jvm.MethodName) jdk_52_method_21_code (7 : Nat) (Option.some Jvm.ClassFile.FieldType.int), Jvm.Cond.code ({ cls := "java/lang/StringUTF16", name := "coderFromArrayLen", desc := "([BI)B" } : Jvm.MethodName) jdk_52_method_15_code (2 : Nat) (Option.some Jvm.ClassFile.FieldType.byte), Jvm.Cond.code ({ cls := "java/util/ArrayList", name := "<init>", desc := "()V" } : Jvm.MethodName) jdk_38_method_2_code (1 : Nat) (Option.none : Option Jvm.ClassFile.FieldType), Jvm.Cond.code ({ cls := "java/util/AbstractList", name := "<init>", desc := "()V" } : Jvm.MethodName) jdk_39_method_1_code (1 : Nat) (Option.none : Option Jvm.ClassFile.FieldType), Jvm.Cond.code ({ cls := "java/util/AbstractCollection", name := "<init>", desc := "()V" } : Jvm.MethodName) jdk_22_method_1_code (1 : Nat) (Option.none : Option Jvm.ClassFile.FieldType), Jvm.Cond.code ({ cls := "com/example/stierlin/stierlin/protocol/OffsetCommitRequest", name := "<init>", desc := "(Ljava/lang/String;ILjava/lang/String;Ljava/lang/String;Ljava/util/List;)V" } : Jvm.MethodName) prog_63_method_1_code (6 : Nat) (Option.none : Option Jvm.ClassFile.FieldType), Jvm.Cond.code ({ cls := "java/lang/Record", name := "<init>", desc := "()V" } : Jvm.MethodName) jdk_30_method_1_code (1 : Nat) (Option.none : Option Jvm.ClassFile.FieldType), Jvm.Cond.code ({ cls := "com/example/stierlin/stierlin/protocol/OffsetCommitRequest", name := "fromOutsideMembership", desc := "()Z" } : Jvm.MethodName) prog_63_method_3_code (1 : Nat) (Option.some Jvm.ClassFile.FieldType.boolean), Jvm.Cond.code ({ cls := "java/lang/String", name := "isEmpty", desc := "()Z" } : Jvm.MethodName) jdk_42_method_55_code (1 : Nat) (Option.some Jvm.ClassFile.FieldType.boolean)]
set_option maxRecDepth 65536 in
theorem codes_eq : words1.filter isCode = codes1 := rfl
theorem w_codes : ∀ c ∈ words1.filter isCode, c.before args0 about1 = true := by
  rw [codes_eq]
  intro c hc
  simp only [codes1, List.mem_cons, List.not_mem_nil, or_false] at hc
  rcases hc with rfl | rfl | rfl | rfl | rfl | rfl | rfl | rfl | rfl | rfl | rfl | rfl | rfl | rfl | rfl
  · exact w_c0
  · exact w_c1
  · exact w_c2
  · exact w_c3
  · exact w_c4
  · exact w_c5
  · exact w_c6
  · exact w_c7
  · exact w_c8
  · exact w_c9
  · exact w_c10
  · exact w_c11
  · exact w_c12
  · exact w_c13
  · exact w_c14
set_option maxRecDepth 65536 in
theorem w_t1 : (words1.take 24).all (fun c => isCode c || c.before args0 about1) = true := by decide +kernel
set_option maxRecDepth 65536 in
theorem w_t2 : ((words1.drop 24).take 24).all (fun c => isCode c || c.before args0 about1) = true := by decide +kernel
set_option maxRecDepth 65536 in
theorem w_t3 : (((words1.drop 24).drop 24).take 24).all (fun c => isCode c || c.before args0 about1) = true := by decide +kernel
set_option maxRecDepth 65536 in
theorem w_t4 : (((words1.drop 24).drop 24).drop 24).all (fun c => isCode c || c.before args0 about1) = true := by decide +kernel
theorem w_tables : (allAtoms (Jvm.Cond.code x code maxLocals ret :: tables_1)).before args0 about1 = true := by
  rw [allAtoms_all]
  show words1.all (fun c => c.before args0 about1) = true
  refine all_split ?_ w_codes
  rw [← List.take_append_drop 24 words1, List.all_append, w_t1, ← List.take_append_drop 24 (words1.drop 24), List.all_append, w_t2, ← List.take_append_drop 24 ((words1.drop 24).drop 24), List.all_append, w_t3, w_t4]
  rfl
set_option maxRecDepth 65536 in
theorem w_rest : rest_1_c.before args0 about1 = true := by decide +kernel
set_option maxRecDepth 65536 in
theorem w_case : (Jvm.Cond.and given_1 narrow_1).before args0 about1 = true := by decide +kernel
set_option maxRecDepth 65536 in
theorem w_consts : constsHeld consts_1 about1 := Jvm.Lit.constsHeldB_iff.mp (by decide +kernel)
theorem w_applies : (headSpec (Jvm.Cond.code x code maxLocals ret :: tables_1) room_1).applies x e0.platform about1 = true :=
  (Spec.applies_iff w_frames).mpr ⟨w_running, w_runnable, w_alone, w_named, w_hears, w_ripe, w_room, w_tables⟩
theorem atStart : AtStart classFile x code maxLocals ret World_1 tables_1 room_1 Calls_1 rest_1 Pre_1 launch0 p0 e0 about1 theMethod args0 below0 :=
  ⟨lists_1, trivial, launch0.admits_env _ _ _, launch0.least_env, fairChoices_fair.cas, fairChoices_fair.clock, w_frames, w_args, w_heap, w_applies, ⟨w_consts, trivial⟩, w_rest, w_case⟩
end start1
theorem witness_1 : WitnessClaimed_1 := ⟨start1.p0, start1.e0, start1.about1, start1.theMethod, start1.args0, start1.below0, start1.atStart⟩
end Jvm.Pilot.@@N@@
