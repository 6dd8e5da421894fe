import JvmDerived
import JvmDerived.Pilot.@@N@@Statement
import JvmDerived.Pilot.@@N@@Code
set_option linter.unusedVariables false
set_option linter.unusedSimpArgs false
/- laws to paste: Road.backV, lo8_mask, shr0 (cut by pick.py; bodies as the Statement names them) -/
namespace Jvm.Pilot.@@N@@
namespace StrChars
open Jvm Sem ClassFile Op Lib Jvm.Stand Jvm.Free.XT Jvm.Free.ALB Jvm.Free.JM Jvm.Free
open Jvm.Lib.Cold (StaticIs)
/-- a char array whose places are chars -/
def Ch (a : Addr) (A : Cell) (U : State) : Prop := Arr .char a A U ∧ Typed .char A
theorem Ch.mv {a : Addr} {A : Cell} {U U' : State} (h : Ch a A U) (hal : U.vm.Alike U'.vm) (hh : U'.heap = U.heap) : Ch a A U' := ⟨h.1.mv hal hh, h.2⟩
theorem Ch.keep {a : Addr} {A : Cell} {U U' : State} (h : Ch a A U) (hal : U.vm.Alike U'.vm) (hk : U'.heap[a]? = some A) : Ch a A U' := ⟨h.1.keep hal hk, h.2⟩
/-- what place i of a char[]'s cell holds -/
def cv (A : Cell) (i : Nat) : Int32 := match A.slots[i]? with | some (.int x) => x | _ => 0
theorem Ch.get {a : Addr} {A : Cell} {U : State} (h : Ch a A U) {i : Nat} (hi : i < A.slots.size) : A.slots[i]? = some (.int (cv A i)) := by
  have e := Array.getElem?_eq_getElem hi
  have f := h.2 i _ e
  unfold cv; rw [e]
  generalize A.slots[i] = v at f
  cases v <;> simp [fits] at f ⊢
/-- the byte that i2b leaves of a char -/
def lo8 (x : Int32) : Int32 := x.toInt8.toInt32
theorem fits_lo8 (y : Int32) : fits .byte (.int (lo8 y)) = true := by
  have h1 := y.toInt8.le_toInt
  have h2 := y.toInt8.toInt_lt
  simp only [lo8, fits, Bool.and_eq_true, decide_eq_true_eq, Int32.le_iff_toInt_le, Int8.toInt_toInt32, show (-128 : Int32).toInt = -128 from by decide, show (127 : Int32).toInt = 127 from by decide]
  omega
/-- A' is A but that each place j of lo .. hi - 1 holds f j -/
def Laid (A A' : Cell) (lo hi : Nat) (f : Nat → Value) : Prop := A'.cls = A.cls ∧ A'.vm = A.vm ∧ A'.slots.size = A.slots.size ∧ ∀ i, A'.slots[i]? = if lo ≤ i ∧ i < hi then some (f i) else A.slots[i]?
theorem Laid.zero (A : Cell) (lo : Nat) (f : Nat → Value) : Laid A A lo (lo + 0) f := ⟨rfl, rfl, rfl, fun i => by rw [if_neg (by omega)]⟩
theorem Laid.step {A Ak : Cell} {lo k : Nat} {f : Nat → Value} {v : Value} (h : Laid A Ak lo k f) (hlo : lo ≤ k) (hk : k < Ak.slots.size) (hv : v = f k) : Laid A (Ak.setSlot k v) lo (k + 1) f := by
  refine ⟨h.1, h.2.1, by simpa [Cell.setSlot] using h.2.2.1, fun i => ?_⟩
  by_cases e : k = i
  · subst e; rw [Cell.slots_setSlot_self v hk, if_pos (by omega), hv]
  · rw [Cell.slots_setSlot_ne v e, h.2.2.2 i]
    by_cases q : lo ≤ i ∧ i < k
    · rw [if_pos q, if_pos (by omega)]
    · rw [if_neg q, if_neg (by omega)]
def U16 : String := "java/lang/StringUTF16"
namespace Cmp5
def yN : MethodName := ⟨"java/lang/StringUTF16", "compress", "([CI[BII)I"⟩
abbrev yB : ByteArray := jdk_52_method_21_code
theorem d0 : decode yB 0 = .ok (.iconst 0, 1) := by decide +kernel
theorem d1 : decode yB 1 = .ok (.istore 5, 2) := by decide +kernel
theorem d3 : decode yB 3 = .ok (.iload 5, 2) := by decide +kernel
theorem d5 : decode yB 5 = .ok (.iload 4, 2) := by decide +kernel
theorem d7 : decode yB 7 = .ok (.if_icmp (.ge) 37, 3) := by decide +kernel
theorem d10 : decode yB 10 = .ok (.aload_n 0, 1) := by decide +kernel
theorem d11 : decode yB 11 = .ok (.iload_n 1, 1) := by decide +kernel
theorem d12 : decode yB 12 = .ok (.caload, 1) := by decide +kernel
theorem d13 : decode yB 13 = .ok (.istore 6, 2) := by decide +kernel
theorem d15 : decode yB 15 = .ok (.iload 6, 2) := by decide +kernel
theorem d17 : decode yB 17 = .ok (.sipush 255, 3) := by decide +kernel
theorem d20 : decode yB 20 = .ok (.if_icmp (.le) 6, 3) := by decide +kernel
theorem d26 : decode yB 26 = .ok (.aload_n 2, 1) := by decide +kernel
theorem d27 : decode yB 27 = .ok (.iload_n 3, 1) := by decide +kernel
theorem d28 : decode yB 28 = .ok (.iload 6, 2) := by decide +kernel
theorem d30 : decode yB 30 = .ok (.i2b, 1) := by decide +kernel
theorem d31 : decode yB 31 = .ok (.bastore, 1) := by decide +kernel
theorem d32 : decode yB 32 = .ok (.iinc 1 1, 3) := by decide +kernel
theorem d35 : decode yB 35 = .ok (.iinc 3 1, 3) := by decide +kernel
theorem d38 : decode yB 38 = .ok (.iinc 5 1, 3) := by decide +kernel
theorem d41 : decode yB 41 = .ok (.goto (-38), 3) := by decide +kernel
theorem d44 : decode yB 44 = .ok (.iload 4, 2) := by decide +kernel
theorem d46 : decode yB 46 = .ok (.ireturn, 1) := by decide +kernel
def site : List Cond := []
def tab : Cond := tabOf yN yB 7 (some .int) site
def P (b : Addr) (A : Cell) (d : Addr) (B : Cell) (o q len : Nat) (args : Array Value) (s : State) : Prop := args = #[.ref b, .int (Int32.ofNat o), .ref d, .int (Int32.ofNat q), .int (Int32.ofNat len)] ∧ Ch b A s ∧ Arr .byte d B s ∧ b ≠ d ∧ o + len ≤ A.slots.size ∧ q + len ≤ B.slots.size ∧ ∀ i, i < len → ¬ 255 < cv A (o + i)
def E (b : Addr) (A : Cell) (d : Addr) (B : Cell) (o q len : Nat) (r : Option Value) (s u : State) : Prop := r = some (.int (Int32.ofNat len)) ∧ ∃ B', Put d B' s u ∧ Laid B B' q (q + len) (fun j => Value.int (lo8 (cv A (o + (j - q)))))
/-- no char of the range above 255: len; the places written hold each char's low byte -/
theorem law (l : Launch) (b : Addr) (A : Cell) (d : Addr) (B : Cell) (o q len : Nat) : Law l yN 5 5 0 0 yB 7 (some .int) site (P b A d B o q len) (E b A d B o q len) (copyLocs d q len) 0 0 := by
  refine Law.of_walk (plainFor_of_name (by decide +kernel)) (by decide +kernel) (by decide +kernel) (by decide) (fun _ _ h => by rw [h.1]; rfl) (fun _ U U' hal hh h => ⟨h.1, h.2.1.mv hal hh, h.2.2.1.mv hal hh, h.2.2.2⟩) (fun r U U' V V' h1 hal h2 h => ⟨h.1, h.2.elim fun B' q => ⟨B', q.1.mv h1 h2, q.2⟩⟩) ?_
  intro p e s m args below meth c s₁ X0 hexec hbytes hml hret hlk hnm hown hh0 W hP
  obtain ⟨rfl, hA, hB, hne, l1, l2, hp⟩ := hP
  have c1 : Steps p.tables e below (s₁.setTop (entryFrame m #[.ref b, .int (Int32.ofNat o), .ref d, .int (Int32.ofNat q), .int (Int32.ofNat len)] 7)) (s₁.setTop (mkF m 0 #[.val (.ref b), .val (.int (Int32.ofNat o)), .val (.ref d), .val (.int (Int32.ofNat q)), .val (.int (Int32.ofNat len)), .unset, .unset] [])) := entry rfl
  have hA0 := hA.1.mv X0.warmed.alike hh0
  have hB0 := hB.mv X0.warmed.alike hh0
  have a31 := hA.1.2.2.2
  have c2 : Steps p.tables e below (s₁.setTop (entryFrame m #[.ref b, .int (Int32.ofNat o), .ref d, .int (Int32.ofNat q), .int (Int32.ofNat len)] 7)) (s₁.setTop (mkF m 3 #[.val (.ref b), .val (.int (Int32.ofNat o)), .val (.ref d), .val (.int (Int32.ofNat q)), .val (.int (Int32.ofNat len)), .val (.int 0), .unset] [])) := c1.trans (by
    refine iconstV X0.here hexec rfl 0 (hb hbytes d0) (by decide) ?_
    refine XS.istore X0.here hexec rfl (hb hbytes d1) rfl rfl ?_
    exact Steps.refl _)
  have loop : ∀ (r i : Nat), i + r = len → ∀ (z : Slot), (z = .unset ∨ ∃ w, z = .val w ∧ w.category = 1) → ∀ (Tl : State) (Bk : Cell), Stand p l e { frames := 0, locals := 0, cells := 0, slots := 0 } s m #[.ref b, .int (Int32.ofNat o), .ref d, .int (Int32.ofNat q), .int (Int32.ofNat len)] below meth c Tl ([] ++ copyLocs d q i) 0 0 → Put d Bk s₁ Tl → Laid B Bk q (q + i) (fun j => Value.int (lo8 (cv A (o + (j - q))))) →
      Steps p.tables e below (s₁.setTop (entryFrame m #[.ref b, .int (Int32.ofNat o), .ref d, .int (Int32.ofNat q), .int (Int32.ofNat len)] 7)) (Tl.setTop (mkF m 3 #[.val (.ref b), .val (.int (Int32.ofNat (o + i))), .val (.ref d), .val (.int (Int32.ofNat (q + i))), .val (.int (Int32.ofNat len)), .val (.int (Int32.ofNat i)), z] [])) → ∃ (T' : State) (B' : Cell) (z' : Slot), Stand p l e { frames := 0, locals := 0, cells := 0, slots := 0 } s m #[.ref b, .int (Int32.ofNat o), .ref d, .int (Int32.ofNat q), .int (Int32.ofNat len)] below meth c T' ([] ++ copyLocs d q len) 0 0 ∧ Put d B' s₁ T' ∧ Laid B B' q (q + len) (fun j => Value.int (lo8 (cv A (o + (j - q))))) ∧
      Steps p.tables e below (s₁.setTop (entryFrame m #[.ref b, .int (Int32.ofNat o), .ref d, .int (Int32.ofNat q), .int (Int32.ofNat len)] 7)) (T'.setTop (mkF m 3 #[.val (.ref b), .val (.int (Int32.ofNat (o + len))), .val (.ref d), .val (.int (Int32.ofNat (q + len))), .val (.int (Int32.ofNat len)), .val (.int (Int32.ofNat len)), z'] [])) := by
    intro r
    induction r with
    | zero =>
      intro i hi z hz Tl Bk Xl pl fl cl
      have hil : i = len := by omega
      rw [hil] at Xl fl cl
      exact ⟨Tl, Bk, z, Xl, pl, fl, cl⟩
    | succ r ih =>
      intro i hi z hz Tl Bk Xl pl fl cl
      have all := X0.warmed.alike.symm.trans Xl.warmed.alike
      have hAl := hA0.keep all (pl.other hne hA0.1)
      have hBk := hB0.like all pl.1 fl.1 fl.2.1 fl.2.2.1
      have hlt : q + i < Bk.slots.size := by rw [fl.2.2.1]; omega
      have c3 : Steps p.tables e below (s₁.setTop (entryFrame m #[.ref b, .int (Int32.ofNat o), .ref d, .int (Int32.ofNat q), .int (Int32.ofNat len)] 7)) (Tl.setTop (mkF m 12 #[.val (.ref b), .val (.int (Int32.ofNat (o + i))), .val (.ref d), .val (.int (Int32.ofNat (q + i))), .val (.int (Int32.ofNat len)), .val (.int (Int32.ofNat i)), z] [.int (Int32.ofNat (o + i)), .ref b])) := cl.trans (by
        refine XS.iload Xl.here hexec rfl (hb hbytes d3) rfl ?_
        refine XS.iload Xl.here hexec rfl (hb hbytes d5) rfl ?_
        refine XS.icmpNo Xl.here hexec rfl (hb hbytes d7) rfl (ii_ge_f (lt32 (by omega) (by omega))) ?_
        refine XS.aloadN Xl.here hexec rfl (hb hbytes d10) rfl rfl ?_
        refine XS.iloadN Xl.here hexec rfl (hb hbytes d11) rfl ?_
        exact Steps.refl _)
      have c4 : Steps p.tables e below (s₁.setTop (entryFrame m #[.ref b, .int (Int32.ofNat o), .ref d, .int (Int32.ofNat q), .int (Int32.ofNat len)] 7)) (Tl.setTop (mkF m 13 #[.val (.ref b), .val (.int (Int32.ofNat (o + i))), .val (.ref d), .val (.int (Int32.ofNat (q + i))), .val (.int (Int32.ofNat len)), .val (.int (Int32.ofNat i)), z] [.int (cv A (o + i))])) := c3.trans (by
        refine Xl.aget hexec hAl rfl (hA.get (i := o + i) (by omega)) rfl rfl (hb hbytes d12) ?_
        exact Steps.refl _)
      have c5 : Steps p.tables e below (s₁.setTop (entryFrame m #[.ref b, .int (Int32.ofNat o), .ref d, .int (Int32.ofNat q), .int (Int32.ofNat len)] 7)) (Tl.setTop (mkF m 15 #[.val (.ref b), .val (.int (Int32.ofNat (o + i))), .val (.ref d), .val (.int (Int32.ofNat (q + i))), .val (.int (Int32.ofNat len)), .val (.int (Int32.ofNat i)), .val (.int (cv A (o + i)))] [])) := c4.trans (by
        refine XS.istoreS Xl.here hexec rfl (hb hbytes d13) rfl rfl hz ?_
        exact Steps.refl _)
      have c6 : Steps p.tables e below (s₁.setTop (entryFrame m #[.ref b, .int (Int32.ofNat o), .ref d, .int (Int32.ofNat q), .int (Int32.ofNat len)] 7)) (Tl.setTop (mkF m 31 #[.val (.ref b), .val (.int (Int32.ofNat (o + i))), .val (.ref d), .val (.int (Int32.ofNat (q + i))), .val (.int (Int32.ofNat len)), .val (.int (Int32.ofNat i)), .val (.int (cv A (o + i)))] [.int (lo8 (cv A (o + i))), .int (Int32.ofNat (q + i)), .ref d])) := c5.trans (by
        refine XS.iload Xl.here hexec rfl (hb hbytes d15) rfl ?_
        refine sipushV Xl.here hexec rfl 255 (hb hbytes d17) (by decide) ?_
        refine XS.icmpYes Xl.here hexec rfl (pc0 := 20) rfl (hb hbytes d20) rfl (ii_le_t (hp i (by omega))) (by decide) rfl ?_
        refine XS.aloadN Xl.here hexec rfl (hb hbytes d26) rfl rfl ?_
        refine XS.iloadN Xl.here hexec rfl (hb hbytes d27) rfl ?_
        refine XS.iload Xl.here hexec rfl (hb hbytes d28) rfl ?_
        refine i2b Xl.here hexec rfl (hb hbytes d30) rfl ?_
        exact Steps.refl _)
      obtain ⟨T7, X7, p7, st7⟩ := Xl.aput hexec hBk rfl hlt rfl (fits_lo8 (cv A (o + i))) (g := (mkF m 31 #[.val (.ref b), .val (.int (Int32.ofNat (o + i))), .val (.ref d), .val (.int (Int32.ofNat (q + i))), .val (.int (Int32.ofNat len)), .val (.int (Int32.ofNat i)), .val (.int (cv A (o + i)))] [.int (lo8 (cv A (o + i))), .int (Int32.ofNat (q + i)), .ref d])) rfl (rest := []) rfl (hb hbytes d31)
      have c8 : Steps p.tables e below (s₁.setTop (entryFrame m #[.ref b, .int (Int32.ofNat o), .ref d, .int (Int32.ofNat q), .int (Int32.ofNat len)] 7)) (T7.setTop (mkF m 32 #[.val (.ref b), .val (.int (Int32.ofNat (o + i))), .val (.ref d), .val (.int (Int32.ofNat (q + i))), .val (.int (Int32.ofNat len)), .val (.int (Int32.ofNat i)), .val (.int (cv A (o + i)))] [])) := c6.trans (st7 _ (Steps.refl _))
      have c9 : Steps p.tables e below (s₁.setTop (entryFrame m #[.ref b, .int (Int32.ofNat o), .ref d, .int (Int32.ofNat q), .int (Int32.ofNat len)] 7)) (T7.setTop (mkF m 3 #[.val (.ref b), .val (.int (Int32.ofNat (o + i) + 1)), .val (.ref d), .val (.int (Int32.ofNat (q + i) + 1)), .val (.int (Int32.ofNat len)), .val (.int (Int32.ofNat i + 1)), .val (.int (cv A (o + i)))] [])) := c8.trans (by
        refine iincV X7.here hexec rfl 1 (hb hbytes d32) (by decide) rfl rfl ?_
        refine iincV X7.here hexec rfl 1 (hb hbytes d35) (by decide) rfl rfl ?_
        refine iincV X7.here hexec rfl 1 (hb hbytes d38) (by decide) rfl rfl ?_
        refine XS.goto X7.here hexec rfl (pc0 := 41) rfl (hb hbytes d41) (by decide) rfl ?_
        exact Steps.refl _)
      have c10 : Steps p.tables e below (s₁.setTop (entryFrame m #[.ref b, .int (Int32.ofNat o), .ref d, .int (Int32.ofNat q), .int (Int32.ofNat len)] 7)) (T7.setTop (mkF m 3 #[.val (.ref b), .val (.int (Int32.ofNat (o + (i + 1)))), .val (.ref d), .val (.int (Int32.ofNat (q + (i + 1)))), .val (.int (Int32.ofNat len)), .val (.int (Int32.ofNat (i + 1))), .val (.int (cv A (o + i)))] [])) := by
        have := c9
        rw [succ32, succ32, succ32] at this
        exact this
      exact ih (i + 1) (by omega) _ (Or.inr ⟨_, rfl, rfl⟩) T7 _ (by rw [copyLocs_step, ← List.append_assoc]; exact X7) (pl.trans p7) (fl.step (by omega) hlt (by simp)) c10
  obtain ⟨T9, B9, z9, X9, p9, f9, g9⟩ := loop len 0 (by omega) .unset (Or.inl rfl) s₁ B (by simpa [copyLocs] using X0) ⟨hB0.1, fun _ _ => rfl, rfl⟩ (Laid.zero _ _ _) c2
  have c11 : Steps p.tables e below (s₁.setTop (entryFrame m #[.ref b, .int (Int32.ofNat o), .ref d, .int (Int32.ofNat q), .int (Int32.ofNat len)] 7)) (T9.setTop (mkF m 46 #[.val (.ref b), .val (.int (Int32.ofNat (o + len))), .val (.ref d), .val (.int (Int32.ofNat (q + len))), .val (.int (Int32.ofNat len)), .val (.int (Int32.ofNat len)), z9] [.int (Int32.ofNat len)])) := g9.trans (by
    refine XS.iload X9.here hexec rfl (hb hbytes d3) rfl ?_
    refine XS.iload X9.here hexec rfl (hb hbytes d5) rfl ?_
    refine XS.icmpYes X9.here hexec rfl (pc0 := 7) rfl (hb hbytes d7) rfl (ii_ge_t (nlt32 (by omega) (Nat.le_refl _))) (by decide) rfl ?_
    refine XS.iload X9.here hexec rfl (hb hbytes d44) rfl ?_
    exact Steps.refl _)
  exact ⟨T9, some (.int (Int32.ofNat len)), _, _, _, X9, by simp, rfl, rfl, (fun h => by cases h), ⟨rfl, B9, p9.from hh0, f9⟩, fun fs hl => c11.trans (X9.ireturnOut hexec hret rfl (Or.inl rfl) (hb hbytes d46) hl)⟩
end Cmp5
namespace Cmp3
def yN : MethodName := ⟨"java/lang/StringUTF16", "compress", "([CII)[B"⟩
abbrev yB : ByteArray := jdk_52_method_16_code
theorem d0 : decode yB 0 = .ok (.iload_n 2, 1) := by decide +kernel
theorem d1 : decode yB 1 = .ok (.newarray .byte, 2) := by decide +kernel
theorem d3 : decode yB 3 = .ok (.astore_n 3, 1) := by decide +kernel
theorem d4 : decode yB 4 = .ok (.aload_n 0, 1) := by decide +kernel
theorem d5 : decode yB 5 = .ok (.iload_n 1, 1) := by decide +kernel
theorem d6 : decode yB 6 = .ok (.aload_n 3, 1) := by decide +kernel
theorem d7 : decode yB 7 = .ok (.iconst 0, 1) := by decide +kernel
theorem d8 : decode yB 8 = .ok (.iload_n 2, 1) := by decide +kernel
theorem d9 : decode yB 9 = .ok (.invokestatic 115, 3) := by decide +kernel
theorem d12 : decode yB 12 = .ok (.istore 4, 2) := by decide +kernel
theorem d14 : decode yB 14 = .ok (.iload 4, 2) := by decide +kernel
theorem d16 : decode yB 16 = .ok (.iload_n 2, 1) := by decide +kernel
theorem d17 : decode yB 17 = .ok (.if_icmp (.eq) 40, 3) := by decide +kernel
theorem d57 : decode yB 57 = .ok (.aload_n 3, 1) := by decide +kernel
theorem d58 : decode yB 58 = .ok (.areturn, 1) := by decide +kernel
def site : List Cond := [.arrayClass .byte, Cmp5.tab] ++ staticW U16 115 Cmp5.yN
def tab : Cond := tabOf yN yB 6 (some (.array .byte)) site
def P (b : Addr) (A : Cell) (o len : Nat) (args : Array Value) (s : State) : Prop := args = #[.ref b, .int (Int32.ofNat o), .int (Int32.ofNat len)] ∧ Ch b A s ∧ o + len ≤ A.slots.size ∧ len ≤ 536870912 ∧ ∀ i, i < len → ¬ 255 < cv A (o + i)
def E (b : Addr) (A : Cell) (o len : Nat) (r : Option Value) (s u : State) : Prop := NewArr .byte "[B" len (fun j => .int (lo8 (cv A (o + j)))) r s u ∧ u.heap.size = s.heap.size + 1
/-- no char of the range above 255: a new byte[] of their low bytes -/
theorem law (l : Launch) (b : Addr) (A : Cell) (o len : Nat) : Law l yN 3 3 1 18 yB 6 (some (.array .byte)) site (P b A o len) (E b A o len) [] 1 len := by
  refine Law.of_walk (plainFor_of_name (by decide +kernel)) (by decide +kernel) (by decide +kernel) (by decide) (fun _ _ h => by rw [h.1]; rfl) (fun _ U U' hal hh h => ⟨h.1, h.2.1.mv hal hh, h.2.2⟩) (fun r U U' V V' h1 hal h2 h => ⟨NewArr.mv r U U' V V' h1 hal h2 h.1, by rw [h1, h2]; exact h.2⟩) ?_
  intro p e s m args below meth c s₁ X0 hexec hbytes hml hret hlk hnm hown hh0 W hP
  obtain ⟨rfl, hA, l1, l2, hp⟩ := hP
  have a31 := hA.1.2.2.2
  have c1 : Steps p.tables e below (s₁.setTop (entryFrame m #[.ref b, .int (Int32.ofNat o), .int (Int32.ofNat len)] 6)) (s₁.setTop (mkF m 0 #[.val (.ref b), .val (.int (Int32.ofNat o)), .val (.int (Int32.ofNat len)), .unset, .unset, .unset] [])) := entry rfl
  have c2 : Steps p.tables e below (s₁.setTop (entryFrame m #[.ref b, .int (Int32.ofNat o), .int (Int32.ofNat len)] 6)) (s₁.setTop (mkF m 1 #[.val (.ref b), .val (.int (Int32.ofNat o)), .val (.int (Int32.ofNat len)), .unset, .unset, .unset] [.int (Int32.ofNat len)])) := c1.trans (by
    refine XS.iloadN X0.here hexec rfl (hb hbytes d0) rfl ?_
    exact Steps.refl _)
  obtain ⟨T3, B3, X3, ba3, bs3, bv3, bh3, bf3, st3⟩ := X0.anew hexec (atype := .byte) (wk W (.arrayClass .byte)) rfl (by show len * 1 ≤ _; omega) (by omega) (g := (mkF m 1 #[.val (.ref b), .val (.int (Int32.ofNat o)), .val (.int (Int32.ofNat len)), .unset, .unset, .unset] [.int (Int32.ofNat len)])) rfl (hb hbytes d1) (rest := []) rfl (Nat.le_refl _) (by show 0 + len ≤ len; omega)
  rw [hh0] at ba3 st3
  have kp3 : XT.Kept s T3 := (XT.Kept.of_eq hh0).push bh3
  have hA3 := hA.keep X3.warmed.alike (kp3 _ _ hA.1.1)
  have hne : b ≠ s.heap.size := hA.1.ne
  have c4 : Steps p.tables e below (s₁.setTop (entryFrame m #[.ref b, .int (Int32.ofNat o), .int (Int32.ofNat len)] 6)) (T3.setTop (mkF m 3 #[.val (.ref b), .val (.int (Int32.ofNat o)), .val (.int (Int32.ofNat len)), .unset, .unset, .unset] [.ref s.heap.size])) := c2.trans (st3 _ (Steps.refl _))
  have c5 : Steps p.tables e below (s₁.setTop (entryFrame m #[.ref b, .int (Int32.ofNat o), .int (Int32.ofNat len)] 6)) (T3.setTop (mkF m 9 #[.val (.ref b), .val (.int (Int32.ofNat o)), .val (.int (Int32.ofNat len)), .val (.ref s.heap.size), .unset, .unset] [.int (Int32.ofNat len), .int 0, .ref s.heap.size, .int (Int32.ofNat o), .ref b])) := c4.trans (by
    refine XS.astoreN X3.here hexec rfl (hb hbytes d3) rfl rfl rfl ?_
    refine XS.aloadN X3.here hexec rfl (hb hbytes d4) rfl rfl ?_
    refine XS.iloadN X3.here hexec rfl (hb hbytes d5) rfl ?_
    refine XS.aloadN X3.here hexec rfl (hb hbytes d6) rfl rfl ?_
    refine iconstV X3.here hexec rfl 0 (hb hbytes d7) (by decide) ?_
    refine XS.iloadN X3.here hexec rfl (hb hbytes d8) rfl ?_
    exact Steps.refl _)
  obtain ⟨v6, T6, X6, E6, g6⟩ := X3.callS hexec (Cmp5.law l b A s.heap.size B3 o 0 len) hown (wks W (staticW U16 115 Cmp5.yN)) (wk W Cmp5.tab) (W := 0) (Nat.le_of_ble_eq_true rfl) (Nat.le_of_ble_eq_true rfl) (Nat.le_refl _) (by show 0 + len + 0 ≤ len; omega) (g := (mkF m 9 #[.val (.ref b), .val (.int (Int32.ofNat o)), .val (.int (Int32.ofNat len)), .val (.ref s.heap.size), .unset, .unset] [.int (Int32.ofNat len), .int (Int32.ofNat 0), .ref s.heap.size, .int (Int32.ofNat o), .ref b])) rfl (by rw [hml]; rfl) c5 (argsL := [.ref b, .int (Int32.ofNat o), .ref s.heap.size, .int (Int32.ofNat 0), .int (Int32.ofNat len)]) (rest := []) rfl rfl (by show 2 * 0 + 0 ≤ _; decide) (hb hbytes d9) (⟨rfl, hA3, ba3, hne, l1, by rw [bs3]; simp, hp⟩)
  obtain ⟨rfl, B6, p6, f6⟩ := E6
  have c7 : Steps p.tables e below (s₁.setTop (entryFrame m #[.ref b, .int (Int32.ofNat o), .int (Int32.ofNat len)] 6)) (T6.setTop (mkF m 12 #[.val (.ref b), .val (.int (Int32.ofNat o)), .val (.int (Int32.ofNat len)), .val (.ref s.heap.size), .unset, .unset] [.int (Int32.ofNat len)])) := g6
  have c8 : Steps p.tables e below (s₁.setTop (entryFrame m #[.ref b, .int (Int32.ofNat o), .int (Int32.ofNat len)] 6)) (T6.setTop (mkF m 58 #[.val (.ref b), .val (.int (Int32.ofNat o)), .val (.int (Int32.ofNat len)), .val (.ref s.heap.size), .val (.int (Int32.ofNat len)), .unset] [.ref s.heap.size])) := c7.trans (by
    refine XS.istore X6.here hexec rfl (hb hbytes d12) rfl rfl ?_
    refine XS.iload X6.here hexec rfl (hb hbytes d14) rfl ?_
    refine XS.iloadN X6.here hexec rfl (hb hbytes d16) rfl ?_
    refine XS.icmpYes X6.here hexec rfl (pc0 := 17) rfl (hb hbytes d17) rfl (ii_eq_t rfl) (by decide) rfl ?_
    refine XS.aloadN X6.here hexec rfl (hb hbytes d57) rfl rfl ?_
    exact Steps.refl _)
  have X8 := X6.wide (L' := []) (cells' := 1) (slots' := len) (fun x hx hlt => by
    simp only [List.nil_append, copyLocs, List.mem_map, List.mem_range] at hx
    obtain ⟨i, -, rfl⟩ := hx
    exact absurd hlt (Nat.lt_irrefl _)) (Nat.le_refl _) (by omega)
  exact ⟨T6, some (.ref s.heap.size), _, _, _, X8, rfl, rfl, rfl, (fun h => by cases h), ⟨⟨rfl, B6, ba3.like (X3.warmed.alike.symm.trans X6.warmed.alike) p6.1 f6.1 f6.2.1 f6.2.2.1, f6.2.1.trans bv3, by rw [X6.warmed.alike.findClass, f6.1]; exact bf3, by rw [f6.2.2.1, bs3]; simp, fun j hj => by rw [f6.2.2.2 j, if_pos (by omega)]; rfl, kp3.put p6 (Nat.le_refl _)⟩, by rw [p6.2.2, bh3, hh0]; simp⟩, fun fs hl => c8.trans (X8.areturnOut hexec rfl hret rfl (hb hbytes d58) hl)⟩
end Cmp3
namespace CodL
def yN : MethodName := ⟨"java/lang/StringUTF16", "coderFromArrayLen", "([BI)B"⟩
abbrev yB : ByteArray := jdk_52_method_15_code
theorem d0 : decode yB 0 = .ok (.iload_n 1, 1) := by decide +kernel
theorem d1 : decode yB 1 = .ok (.aload_n 0, 1) := by decide +kernel
theorem d2 : decode yB 2 = .ok (.arraylength, 1) := by decide +kernel
theorem d3 : decode yB 3 = .ok (.isub, 1) := by decide +kernel
theorem d4 : decode yB 4 = .ok (.bipush 31, 2) := by decide +kernel
theorem d6 : decode yB 6 = .ok (.iushr, 1) := by decide +kernel
theorem d7 : decode yB 7 = .ok (.i2b, 1) := by decide +kernel
theorem d8 : decode yB 8 = .ok (.ireturn, 1) := by decide +kernel
def site : List Cond := []
def tab : Cond := tabOf yN yB 2 (some .byte) site
def P (d : Addr) (B : Cell) (args : Array Value) (s : State) : Prop := args = #[.ref d, .int (Int32.ofNat B.slots.size)] ∧ Arr .byte d B s
def E (r : Option Value) (s u : State) : Prop := XT.PureE (some (.int 0)) r s u
/-- an array as long as the number of chars: LATIN1 -/
theorem law (l : Launch) (d : Addr) (B : Cell) : Law l yN 2 2 0 0 yB 2 (some .byte) site (P d B) E [] 0 0 := by
  refine Law.of_walk (plainFor_of_name (by decide +kernel)) (by decide +kernel) (by decide +kernel) (by decide) (fun _ _ h => by rw [h.1]; rfl) (fun _ U U' hal hh h => ⟨h.1, h.2.mv hal hh⟩) (fun r U U' V V' h1 hal h2 h => XT.PureE.mv r U U' V V' h1 hal h2 h) ?_
  intro p e s m args below meth c s₁ X0 hexec hbytes hml hret hlk hnm hown hh0 W hP
  obtain ⟨rfl, hB⟩ := hP
  have hB0 := hB.mv X0.warmed.alike hh0
  have c1 : Steps p.tables e below (s₁.setTop (entryFrame m #[.ref d, .int (Int32.ofNat B.slots.size)] 2)) (s₁.setTop (mkF m 0 #[.val (.ref d), .val (.int (Int32.ofNat B.slots.size))] [])) := entry rfl
  have c2 : Steps p.tables e below (s₁.setTop (entryFrame m #[.ref d, .int (Int32.ofNat B.slots.size)] 2)) (s₁.setTop (mkF m 2 #[.val (.ref d), .val (.int (Int32.ofNat B.slots.size))] [.ref d, .int (Int32.ofNat B.slots.size)])) := c1.trans (by
    refine XS.iloadN X0.here hexec rfl (hb hbytes d0) rfl ?_
    refine XS.aloadN X0.here hexec rfl (hb hbytes d1) rfl rfl ?_
    exact Steps.refl _)
  have c3 : Steps p.tables e below (s₁.setTop (entryFrame m #[.ref d, .int (Int32.ofNat B.slots.size)] 2)) (s₁.setTop (mkF m 8 #[.val (.ref d), .val (.int (Int32.ofNat B.slots.size))] [.int (lo8 (ushr (Int32.ofNat B.slots.size - Int32.ofNat B.slots.size) 31))])) := c2.trans (by
    refine X0.alen hexec hB0 rfl rfl (hb hbytes d2) ?_
    refine XS.isub X0.here hexec rfl (hb hbytes d3) rfl ?_
    refine bipushV X0.here hexec rfl 31 (hb hbytes d4) (by decide) ?_
    refine iushr X0.here hexec rfl (hb hbytes d6) rfl ?_
    refine i2b X0.here hexec rfl (hb hbytes d7) rfl ?_
    exact Steps.refl _)
  have e0 : lo8 (ushr (Int32.ofNat B.slots.size - Int32.ofNat B.slots.size) 31) = 0 := by rw [Int32.sub_self]; decide
  rw [e0] at c3
  exact ⟨s₁, some (.int 0), _, _, _, X0, rfl, rfl, rfl, (fun h => by cases h), ⟨rfl, hh0⟩, fun fs hl => c3.trans (X0.ireturnOut hexec hret rfl (Or.inr (Or.inr (Or.inl rfl))) (hb hbytes d8) hl)⟩
end CodL
/-- the String at a is Latin-1 over a new byte[] (the heap's one new cell): the low bytes of the len chars of A from o on; every cell but a is kept -/
def Got (a : Addr) (D : Cell) (fV fC : Field) (A : Cell) (o len : Nat) (r : Option Value) (s u : State) : Prop := r = none ∧ ∃ D' V : Cell, Blank "java/lang/String" a D' u ∧ Same D D' [fV.slot, fC.slot] ∧ D'.slots[fV.slot]? = some (.ref s.heap.size) ∧ D'.slots[fC.slot]? = some (.int 0) ∧ Arr .byte s.heap.size V u ∧ V.vm = .none ∧ u.vm.findClass "[B" = some V.cls ∧ V.slots.size = len ∧ (∀ j, j < len → V.slots[j]? = some (.int (lo8 (cv A (o + j))))) ∧ (∀ (y : Addr) (c : Cell), y ≠ a → s.heap[y]? = some c → u.heap[y]? = some c) ∧ u.heap.size = s.heap.size + 1
theorem Got.mv {a : Addr} {D A : Cell} {fV fC : Field} {o len : Nat} : ∀ r (U U' V V' : State), U'.heap = U.heap → V.vm.Alike V'.vm → V'.heap = V.heap → Got a D fV fC A o len r U V → Got a D fV fC A o len r U' V' :=
  fun r U U' V V' h1 hal h2 ⟨e0, D', X, a1, a2, a3, a4, a5, a6, a7, a8, a9, a10, a11⟩ => ⟨e0, D', X, a1.mv hal h2, a2, by rw [h1]; exact a3, a4, by rw [h1]; exact a5.mv hal h2, a6, by rw [hal.findClass]; exact a7, a8, a9, by rw [h1, h2]; exact a10, by rw [h1, h2]; exact a11⟩
namespace New4
def yN : MethodName := ⟨"java/lang/String", "<init>", "([CIILjava/lang/Void;)V"⟩
abbrev yB : ByteArray := jdk_42_method_149_code
theorem d0 : decode yB 0 = .ok (.aload_n 0, 1) := by decide +kernel
theorem d1 : decode yB 1 = .ok (.invokespecial 1, 3) := by decide +kernel
theorem d4 : decode yB 4 = .ok (.iload_n 3, 1) := by decide +kernel
theorem d5 : decode yB 5 = .ok (.ifCond (.ne) 22, 3) := by decide +kernel
theorem d27 : decode yB 27 = .ok (.getstatic 38, 3) := by decide +kernel
theorem d30 : decode yB 30 = .ok (.ifCond (.eq) 28, 3) := by decide +kernel
theorem d33 : decode yB 33 = .ok (.aload_n 1, 1) := by decide +kernel
theorem d34 : decode yB 34 = .ok (.iload_n 2, 1) := by decide +kernel
theorem d35 : decode yB 35 = .ok (.iload_n 3, 1) := by decide +kernel
theorem d36 : decode yB 36 = .ok (.invokestatic 177, 3) := by decide +kernel
theorem d39 : decode yB 39 = .ok (.astore 5, 2) := by decide +kernel
theorem d41 : decode yB 41 = .ok (.aload_n 0, 1) := by decide +kernel
theorem d42 : decode yB 42 = .ok (.aload 5, 2) := by decide +kernel
theorem d44 : decode yB 44 = .ok (.iload_n 3, 1) := by decide +kernel
theorem d45 : decode yB 45 = .ok (.invokestatic 47, 3) := by decide +kernel
theorem d48 : decode yB 48 = .ok (.putfield 15, 3) := by decide +kernel
theorem d51 : decode yB 51 = .ok (.aload_n 0, 1) := by decide +kernel
theorem d52 : decode yB 52 = .ok (.aload 5, 2) := by decide +kernel
theorem d54 : decode yB 54 = .ok (.putfield 9, 3) := by decide +kernel
theorem d57 : decode yB 57 = .ok (.return_, 1) := by decide +kernel
def site : List Cond := [.fieldLink "java/lang/String" 38 "java/lang/String" "COMPACT_STRINGS" "Z", Cmp3.tab, CodL.tab, .laysFinal "java/lang/String" "java/lang/String" "value" "[B", .fieldLink "java/lang/String" 9 "java/lang/String" "value" "[B", .laysFinal "java/lang/String" "java/lang/String" "coder" "B", .fieldLink "java/lang/String" 15 "java/lang/String" "coder" "B"] ++ objW "java/lang/String" 1 ++ staticW "java/lang/String" 177 Cmp3.yN ++ staticW "java/lang/String" 47 CodL.yN
def tab : Cond := tabOf yN yB 6 none site
def P (a : Addr) (D : Cell) (fV fC : Field) (b : Addr) (A : Cell) (z : Int32) (o len : Nat) (args : Array Value) (s : State) : Prop := args = #[.ref a, .ref b, .int (Int32.ofNat o), .int (Int32.ofNat len), .null] ∧ Blank "java/lang/String" a D s ∧ Found "java/lang/String" "value" "[B" fV s ∧ Found "java/lang/String" "coder" "B" fC s ∧ Ch b A s ∧ StaticIs s "java/lang/String" "COMPACT_STRINGS" "Z" (.int z) ∧ ¬ z = 0 ∧ 0 < len ∧ o + len ≤ A.slots.size ∧ len ≤ 536870912 ∧ ∀ i, i < len → ¬ 255 < cv A (o + i)
def E (a : Addr) (D : Cell) (fV fC : Field) (A : Cell) (o len : Nat) (r : Option Value) (s u : State) : Prop := Got a D fV fC A o len r s u
/-- len > 0, no char of the range above 255: a Latin-1 String of their low bytes -/
theorem law (l : Launch) (a : Addr) (D : Cell) (fV fC : Field) (b : Addr) (A : Cell) (z : Int32) (o len : Nat) : Law l yN 5 4 2 35 yB 6 none site (P a D fV fC b A z o len) (E a D fV fC A o len) [⟨a, fC.slot⟩, ⟨a, fV.slot⟩] 1 len := by
  refine Law.of_walk (plainFor_of_name (by decide +kernel)) (by decide +kernel) (by decide +kernel) (by decide) (fun _ _ h => by rw [h.1]; rfl) (fun _ U U' hal hh h => ⟨h.1, h.2.1.mv hal hh, h.2.2.1.al hal, h.2.2.2.1.al hal, h.2.2.2.2.1.mv hal hh, h.2.2.2.2.2.1.there hal hh, h.2.2.2.2.2.2⟩) (fun r U U' V V' h1 hal h2 h => Got.mv r U U' V V' h1 hal h2 h) ?_
  intro p e s m args below meth c s₁ X0 hexec hbytes hml hret hlk hnm hown hh0 W hP
  obtain ⟨rfl, hB, f1, f2, hA, s1, hz, l0, l1, l2, hp⟩ := hP
  have a31 := hA.1.2.2.2
  have c1 : Steps p.tables e below (s₁.setTop (entryFrame m #[.ref a, .ref b, .int (Int32.ofNat o), .int (Int32.ofNat len), .null] 6)) (s₁.setTop (mkF m 0 #[.val (.ref a), .val (.ref b), .val (.int (Int32.ofNat o)), .val (.int (Int32.ofNat len)), .val .null, .unset] [])) := entry rfl
  have c2 : Steps p.tables e below (s₁.setTop (entryFrame m #[.ref a, .ref b, .int (Int32.ofNat o), .int (Int32.ofNat len), .null] 6)) (s₁.setTop (mkF m 1 #[.val (.ref a), .val (.ref b), .val (.int (Int32.ofNat o)), .val (.int (Int32.ofNat len)), .val .null, .unset] [.ref a])) := c1.trans (by
    refine XS.aloadN X0.here hexec rfl (hb hbytes d0) rfl rfl ?_
    exact Steps.refl _)
  obtain ⟨T3, X3, q3, st3⟩ := X0.oinit hexec hown (wks W (objW "java/lang/String" 1)) (g := (mkF m 1 #[.val (.ref a), .val (.ref b), .val (.int (Int32.ofNat o)), .val (.int (Int32.ofNat len)), .val .null, .unset] [.ref a])) rfl (by rw [hml]; rfl) (rest := []) rfl (hb hbytes d1) (W := 0) (by show 2 * 0 + 0 ≤ _; decide) (Nat.le_of_ble_eq_true rfl) (Nat.le_of_ble_eq_true rfl)
  have hh3 := q3.trans hh0
  have c4 : Steps p.tables e below (s₁.setTop (entryFrame m #[.ref a, .ref b, .int (Int32.ofNat o), .int (Int32.ofNat len), .null] 6)) (T3.setTop (mkF m 27 #[.val (.ref a), .val (.ref b), .val (.int (Int32.ofNat o)), .val (.int (Int32.ofNat len)), .val .null, .unset] [])) := (c2.trans (st3 _ (Steps.refl _))).trans (by
    refine XS.iloadN X3.here hexec rfl (hb hbytes d4) rfl ?_
    refine XS.ifYes X3.here hexec rfl (pc0 := 5) rfl (hb hbytes d5) rfl (i0_ne_t (nz32 (by omega) l0)) (by decide) rfl ?_
    exact Steps.refl _)
  obtain ⟨T5, X5, q5, st5⟩ := X3.sget hexec hown (wk W (.fieldLink "java/lang/String" 38 "java/lang/String" "COMPACT_STRINGS" "Z")) s1 (fun _ _ h => by rw [hh3]; exact h) (g := (mkF m 27 #[.val (.ref a), .val (.ref b), .val (.int (Int32.ofNat o)), .val (.int (Int32.ofNat len)), .val .null, .unset] [])) rfl (hb hbytes d27)
  have hh5 := q5.trans hh3
  have c6 : Steps p.tables e below (s₁.setTop (entryFrame m #[.ref a, .ref b, .int (Int32.ofNat o), .int (Int32.ofNat len), .null] 6)) (T5.setTop (mkF m 30 #[.val (.ref a), .val (.ref b), .val (.int (Int32.ofNat o)), .val (.int (Int32.ofNat len)), .val .null, .unset] [.int z])) := c4.trans (st5 _ (Steps.refl _))
  have c7 : Steps p.tables e below (s₁.setTop (entryFrame m #[.ref a, .ref b, .int (Int32.ofNat o), .int (Int32.ofNat len), .null] 6)) (T5.setTop (mkF m 36 #[.val (.ref a), .val (.ref b), .val (.int (Int32.ofNat o)), .val (.int (Int32.ofNat len)), .val .null, .unset] [.int (Int32.ofNat len), .int (Int32.ofNat o), .ref b])) := c6.trans (by
    refine XS.ifNo X5.here hexec rfl (hb hbytes d30) rfl (i0_eq_f hz) ?_
    refine XS.aloadN X5.here hexec rfl (hb hbytes d33) rfl rfl ?_
    refine XS.iloadN X5.here hexec rfl (hb hbytes d34) rfl ?_
    refine XS.iloadN X5.here hexec rfl (hb hbytes d35) rfl ?_
    exact Steps.refl _)
  obtain ⟨v8, T8, X8, E8, g8⟩ := X5.callS hexec (Cmp3.law l b A o len) hown (wks W (staticW "java/lang/String" 177 Cmp3.yN)) (wk W Cmp3.tab) (W := 0) (Nat.le_of_ble_eq_true rfl) (Nat.le_of_ble_eq_true rfl) (Nat.le_refl _) (by show 0 + len ≤ len; omega) (g := (mkF m 36 #[.val (.ref a), .val (.ref b), .val (.int (Int32.ofNat o)), .val (.int (Int32.ofNat len)), .val .null, .unset] [.int (Int32.ofNat len), .int (Int32.ofNat o), .ref b])) rfl (by rw [hml]; rfl) c7 (argsL := [.ref b, .int (Int32.ofNat o), .int (Int32.ofNat len)]) (rest := []) rfl rfl (by show 2 * 0 + 0 ≤ _; decide) (hb hbytes d36) (⟨rfl, hA.mv X5.warmed.alike hh5, l1, l2, hp⟩)
  obtain ⟨e8, z8⟩ := E8
  obtain ⟨rfl, N, n1, n2, n3, n4, n5, n6⟩ := NewArr.mv _ T5 s _ _ hh5.symm (Vm.Alike.refl _) rfl e8
  rw [hh5] at z8
  have hB1 := hB.keep X8.warmed.alike (n6 _ _ hB.1)
  have hne : s.heap.size ≠ a := (Nat.ne_of_lt (Array.getElem?_eq_some_iff.mp hB.1).1).symm
  have c9 : Steps p.tables e below (s₁.setTop (entryFrame m #[.ref a, .ref b, .int (Int32.ofNat o), .int (Int32.ofNat len), .null] 6)) (T8.setTop (mkF m 39 #[.val (.ref a), .val (.ref b), .val (.int (Int32.ofNat o)), .val (.int (Int32.ofNat len)), .val .null, .unset] [.ref s.heap.size])) := g8
  have c10 : Steps p.tables e below (s₁.setTop (entryFrame m #[.ref a, .ref b, .int (Int32.ofNat o), .int (Int32.ofNat len), .null] 6)) (T8.setTop (mkF m 45 #[.val (.ref a), .val (.ref b), .val (.int (Int32.ofNat o)), .val (.int (Int32.ofNat len)), .val .null, .val (.ref s.heap.size)] [.int (Int32.ofNat N.slots.size), .ref s.heap.size, .ref a])) := by
    have hc : Steps p.tables e below (s₁.setTop (entryFrame m #[.ref a, .ref b, .int (Int32.ofNat o), .int (Int32.ofNat len), .null] 6)) (T8.setTop (mkF m 45 #[.val (.ref a), .val (.ref b), .val (.int (Int32.ofNat o)), .val (.int (Int32.ofNat len)), .val .null, .val (.ref s.heap.size)] [.int (Int32.ofNat len), .ref s.heap.size, .ref a])) := c9.trans (by
      refine XS.astore X8.here hexec rfl (hb hbytes d39) rfl rfl rfl ?_
      refine XS.aloadN X8.here hexec rfl (hb hbytes d41) rfl rfl ?_
      refine XS.aload X8.here hexec rfl (hb hbytes d42) rfl rfl ?_
      refine XS.iloadN X8.here hexec rfl (hb hbytes d44) rfl ?_
      exact Steps.refl _)
    rw [n4]; exact hc
  obtain ⟨v11, T11, X11, E11, g11⟩ := X8.callS hexec (CodL.law l s.heap.size N) hown (wks W (staticW "java/lang/String" 47 CodL.yN)) (wk W CodL.tab) (W := 1) (Nat.le_of_ble_eq_true rfl) (Nat.le_of_ble_eq_true rfl) (Nat.le_refl _) (by show 0 + len + 0 ≤ len; omega) (g := (mkF m 45 #[.val (.ref a), .val (.ref b), .val (.int (Int32.ofNat o)), .val (.int (Int32.ofNat len)), .val .null, .val (.ref s.heap.size)] [.int (Int32.ofNat N.slots.size), .ref s.heap.size, .ref a])) rfl (by rw [hml]; rfl) c10 (argsL := [.ref s.heap.size, .int (Int32.ofNat N.slots.size)]) (rest := [.ref a]) rfl rfl (by show 2 * 0 + (1 + 0) ≤ _; decide) (hb hbytes d45) (⟨rfl, n1⟩)
  obtain ⟨rfl, q11⟩ := E11
  have hB11 := hB1.mv (X8.warmed.alike.symm.trans X11.warmed.alike) q11
  have c12 : Steps p.tables e below (s₁.setTop (entryFrame m #[.ref a, .ref b, .int (Int32.ofNat o), .int (Int32.ofNat len), .null] 6)) (T11.setTop (mkF m 48 #[.val (.ref a), .val (.ref b), .val (.int (Int32.ofNat o)), .val (.int (Int32.ofNat len)), .val .null, .val (.ref s.heap.size)] [.int 0, .ref a])) := g11
  obtain ⟨T13, X13, p13, bl13, sl13, st13⟩ := X11.finit hexec hown (wk W (.fieldLink "java/lang/String" 15 "java/lang/String" "coder" "B")) (Or.inr ⟨_, (wk W (.laysFinal "java/lang/String" "java/lang/String" "coder" "B"))⟩) (Or.inl ⟨rfl, hnm⟩) f2 (Or.inl rfl) hB11 (t := .byte) (by decide +kernel) rfl (g := (mkF m 48 #[.val (.ref a), .val (.ref b), .val (.int (Int32.ofNat o)), .val (.int (Int32.ofNat len)), .val .null, .val (.ref s.heap.size)] [.int 0, .ref a])) rfl (rest := []) rfl (hb hbytes d48)
  have c14 : Steps p.tables e below (s₁.setTop (entryFrame m #[.ref a, .ref b, .int (Int32.ofNat o), .int (Int32.ofNat len), .null] 6)) (T13.setTop (mkF m 54 #[.val (.ref a), .val (.ref b), .val (.int (Int32.ofNat o)), .val (.int (Int32.ofNat len)), .val .null, .val (.ref s.heap.size)] [.ref s.heap.size, .ref a])) := (c12.trans (st13 _ (Steps.refl _))).trans (by
    refine XS.aloadN X13.here hexec rfl (hb hbytes d51) rfl rfl ?_
    refine XS.aload X13.here hexec rfl (hb hbytes d52) rfl rfl ?_
    exact Steps.refl _)
  obtain ⟨T15, X15, p15, bl15, sl15, st15⟩ := X13.finit hexec hown (wk W (.fieldLink "java/lang/String" 9 "java/lang/String" "value" "[B")) (Or.inr ⟨_, (wk W (.laysFinal "java/lang/String" "java/lang/String" "value" "[B"))⟩) (Or.inl ⟨rfl, hnm⟩) f1 (Or.inl rfl) bl13 (t := (.array .byte)) (by decide +kernel) rfl (g := (mkF m 54 #[.val (.ref a), .val (.ref b), .val (.int (Int32.ofNat o)), .val (.int (Int32.ofNat len)), .val .null, .val (.ref s.heap.size)] [.ref s.heap.size, .ref a])) rfl (rest := []) rfl (hb hbytes d54)
  have c16 : Steps p.tables e below (s₁.setTop (entryFrame m #[.ref a, .ref b, .int (Int32.ofNat o), .int (Int32.ofNat len), .null] 6)) (T15.setTop (mkF m 57 #[.val (.ref a), .val (.ref b), .val (.int (Int32.ofNat o)), .val (.int (Int32.ofNat len)), .val .null, .val (.ref s.heap.size)] [])) := c14.trans (st15 _ (Steps.refl _))
  have ap := apart (Or.inr ⟨_, (wk W (.laysFinal "java/lang/String" "java/lang/String" "value" "[B"))⟩) (Or.inr ⟨_, (wk W (.laysFinal "java/lang/String" "java/lang/String" "coder" "B"))⟩) f1 f2 (t₁ := .array .byte) (t₂ := .byte) (by decide +kernel) (by decide +kernel) (by decide)
  have al := X8.warmed.alike.symm.trans X15.warmed.alike
  have n7 : T11.heap[s.heap.size]? = some N := by rw [q11]; exact n1.1
  exact ⟨T15, none, _, _, _, X15, by simp, rfl, by omega, (fun _ => rfl), ⟨rfl, _, N, bl15, ((Same.refl D _).set _ (by simp)).set _ (by simp), sl15, (Cell.slots_setSlot_ne _ ap).trans sl13, n1.keep al (p15.other hne (p13.other hne n7)), n2, by rw [al.findClass]; exact n3, n4, n5, fun y c h1 h2 => p15.other h1 (p13.other h1 (by rw [q11]; exact n6 y c h2)), by rw [p15.2.2, p13.2.2, q11]; exact z8⟩, fun fs hl => c16.trans (X15.returnOut hexec hret (hb hbytes d57) hl)⟩
end New4
namespace New1
def yN : MethodName := ⟨"java/lang/String", "<init>", "([C)V"⟩
abbrev yB : ByteArray := jdk_42_method_3_code
theorem d0 : decode yB 0 = .ok (.aload_n 0, 1) := by decide +kernel
theorem d1 : decode yB 1 = .ok (.aload_n 1, 1) := by decide +kernel
theorem d2 : decode yB 2 = .ok (.iconst 0, 1) := by decide +kernel
theorem d3 : decode yB 3 = .ok (.aload_n 1, 1) := by decide +kernel
theorem d4 : decode yB 4 = .ok (.arraylength, 1) := by decide +kernel
theorem d5 : decode yB 5 = .ok (.aconst_null, 1) := by decide +kernel
theorem d6 : decode yB 6 = .ok (.invokespecial 27, 3) := by decide +kernel
theorem d9 : decode yB 9 = .ok (.return_, 1) := by decide +kernel
def site : List Cond := [New4.tab] ++ initW "java/lang/String" 27 New4.yN
def tab : Cond := tabOf yN yB 2 none site
def P (a : Addr) (D : Cell) (fV fC : Field) (b : Addr) (A : Cell) (z : Int32) (args : Array Value) (s : State) : Prop := args = #[.ref a, .ref b] ∧ Blank "java/lang/String" a D s ∧ Found "java/lang/String" "value" "[B" fV s ∧ Found "java/lang/String" "coder" "B" fC s ∧ Ch b A s ∧ StaticIs s "java/lang/String" "COMPACT_STRINGS" "Z" (.int z) ∧ ¬ z = 0 ∧ 0 < A.slots.size ∧ A.slots.size ≤ 536870912 ∧ ∀ i, i < A.slots.size → ¬ 255 < cv A i
def E (a : Addr) (D : Cell) (fV fC : Field) (A : Cell) (r : Option Value) (s u : State) : Prop := Got a D fV fC A 0 A.slots.size r s u
/-- new String(chars), not empty, no char above 255: a Latin-1 String of their low bytes -/
theorem law (l : Launch) (a : Addr) (D : Cell) (fV fC : Field) (b : Addr) (A : Cell) (z : Int32) : Law l yN 2 1 3 52 yB 2 none site (P a D fV fC b A z) (E a D fV fC A) [⟨a, fC.slot⟩, ⟨a, fV.slot⟩] 1 A.slots.size := by
  refine Law.of_walk (plainFor_of_name (by decide +kernel)) (by decide +kernel) (by decide +kernel) (by decide) (fun _ _ h => by rw [h.1]; rfl) (fun _ U U' hal hh h => ⟨h.1, h.2.1.mv hal hh, h.2.2.1.al hal, h.2.2.2.1.al hal, h.2.2.2.2.1.mv hal hh, h.2.2.2.2.2.1.there hal hh, h.2.2.2.2.2.2⟩) (fun r U U' V V' h1 hal h2 h => Got.mv r U U' V V' h1 hal h2 h) ?_
  intro p e s m args below meth c s₁ X0 hexec hbytes hml hret hlk hnm hown hh0 W hP
  obtain ⟨rfl, hB, f1, f2, hA, s1, hz, l0, l2, hp⟩ := hP
  have c1 : Steps p.tables e below (s₁.setTop (entryFrame m #[.ref a, .ref b] 2)) (s₁.setTop (mkF m 0 #[.val (.ref a), .val (.ref b)] [])) := entry rfl
  have c2 : Steps p.tables e below (s₁.setTop (entryFrame m #[.ref a, .ref b] 2)) (s₁.setTop (mkF m 6 #[.val (.ref a), .val (.ref b)] [.null, .int (Int32.ofNat A.slots.size), .int 0, .ref b, .ref a])) := c1.trans (by
    refine XS.aloadN X0.here hexec rfl (hb hbytes d0) rfl rfl ?_
    refine XS.aloadN X0.here hexec rfl (hb hbytes d1) rfl rfl ?_
    refine iconstV X0.here hexec rfl 0 (hb hbytes d2) (by decide) ?_
    refine XS.aloadN X0.here hexec rfl (hb hbytes d3) rfl rfl ?_
    refine X0.alen hexec (hA.1.mv X0.warmed.alike hh0) rfl rfl (hb hbytes d4) ?_
    refine XS.aconstNull X0.here hexec rfl (hb hbytes d5) ?_
    exact Steps.refl _)
  obtain ⟨v3, T3, X3, E3, g3⟩ := X0.callN hexec (New4.law l a D fV fC b A z 0 A.slots.size) rfl hown (wks W (initW "java/lang/String" 27 New4.yN)) (W New4.tab (by simp only [site, List.mem_cons, List.mem_append, true_or, or_true])) (W := 0) (Nat.le_of_ble_eq_true rfl) (Nat.le_of_ble_eq_true rfl) (Nat.le_refl _) (by show 0 + A.slots.size ≤ A.slots.size; omega) (g := (mkF m 6 #[.val (.ref a), .val (.ref b)] [.null, .int (Int32.ofNat A.slots.size), .int (Int32.ofNat 0), .ref b, .ref a])) rfl (by rw [hml]; rfl) c2 (argsL := [.ref b, .int (Int32.ofNat 0), .int (Int32.ofNat A.slots.size), .null]) (rest := []) rfl rfl (by show 2 * 0 + 0 ≤ _; decide) (hb hbytes d6) (⟨rfl, hB.mv X0.warmed.alike hh0, f1.al X0.warmed.alike, f2.al X0.warmed.alike, hA.mv X0.warmed.alike hh0, s1.there X0.warmed.alike hh0, hz, l0, by omega, l2, fun i hi => by rw [Nat.zero_add]; exact hp i hi⟩)
  have e0 := Got.mv _ s₁ s _ _ hh0.symm (Vm.Alike.refl _) rfl E3
  obtain rfl := e0.1
  have c4 : Steps p.tables e below (s₁.setTop (entryFrame m #[.ref a, .ref b] 2)) (T3.setTop (mkF m 9 #[.val (.ref a), .val (.ref b)] [])) := g3
  exact ⟨T3, none, _, _, _, X3, by simp, rfl, by omega, (fun _ => rfl), e0, fun fs hl => c4.trans (X3.returnOut hexec hret (hb hbytes d9) hl)⟩
theorem pays {l : Launch} {R : Room} {p : Program} {e : Env} {below : List Frame} {s : State} {sargs : Array Value} {len W : Nat} (a : Addr) (D : Cell) (fV fC : Field) (b : Addr) (A : Cell) (z : Int32) (htab : tab.before sargs s = true) (hfr : 4 ≤ R.frames) (hlo : W + 65 ≤ R.locals) :
    Back l R p e below s sargs yN len W (fun A₁ a₁ => A₁.cells + 1 ≤ R.cells ∧ A₁.slots + A.slots.size ≤ R.slots ∧ P a D fV fC b A z a₁ A₁.U) (fun A₁ _ v₁ B₁ => E a D fV fC A v₁ A₁.U B₁.U ∧ B₁.locs = A₁.locs ++ [⟨a, fC.slot⟩, ⟨a, fV.slot⟩] ∧ B₁.cells = A₁.cells + 1 ∧ B₁.slots = A₁.slots + A.slots.size) :=
  (law l a D fV fC b A z).pays htab hfr (by omega)
end New1
/-- the byte, read back as charAt reads it, is the char -/
theorem lo8_mask {x : Int32} (h0 : ¬ x < 0) (h1 : ¬ 255 < x) : lo8 x &&& 255 = x := by
  have t : ∀ k : Fin 256, lo8 (Int32.ofNat k.val) &&& 255 = Int32.ofNat k.val := by decide +kernel
  rw [Int32.lt_iff_toInt_lt] at h0 h1
  have e0 : (0 : Int32).toInt = 0 := rfl
  have e1 : (255 : Int32).toInt = 255 := rfl
  obtain ⟨k, hk⟩ : ∃ k : Nat, x.toInt = k := ⟨x.toInt.toNat, by omega⟩
  have hx : x = Int32.ofNat k := Int32.toInt_inj.mp (by rw [hk, Int32.toInt_ofNat_small (by omega)])
  rw [hx]
  exact t ⟨k, by omega⟩
end StrChars
namespace StrChars.Road
open Jvm Sem ClassFile Op Lib Jvm.Stand Jvm.Free Jvm.Free.XT
open Jvm.Lib.Cold (StaticIs)
abbrev ST : String := "java/lang/String"
/-- every table word that New1's law asks, flat -/
abbrev words : List Jvm.Cond := [.code New1.yN New1.yB 2 none, .initialized ST, .methodLink ST 27 New4.yN, .instanceMethod New4.yN,
  .code New4.yN New4.yB 6 none, .fieldLink ST 38 ST "COMPACT_STRINGS" "Z", .laysFinal ST ST "value" "[B", .fieldLink ST 9 ST "value" "[B", .laysFinal ST ST "coder" "B", .fieldLink ST 15 ST "coder" "B",
  .methodLink ST 1 Lib.objectInit, .instanceMethod Lib.objectInit, .code Lib.objectInit ⟨#[0xb1]⟩ 1 none, .methodLink ST 177 Cmp3.yN, .static Cmp3.yN, .methodLink ST 47 CodL.yN, .static CodL.yN,
  .code Cmp3.yN Cmp3.yB 6 (some (.array .byte)), .initialized U16, .arrayClass .byte, .methodLink U16 115 Cmp5.yN, .static Cmp5.yN, .code Cmp5.yN Cmp5.yB 7 (some .int), .code CodL.yN CodL.yB 2 (some .byte)]
theorem tab_of {a : Array Value} {s : State} (h : ∀ w ∈ words, w.before a s = true) : New1.tab.before a s = true := by
  have h5 : Cmp5.tab.before a s = true := unparts (wk h (.code Cmp5.yN Cmp5.yB 7 (some .int))) (wks h (.initialized Cmp5.yN.cls :: Cmp5.site))
  have hc : CodL.tab.before a s = true := unparts (wk h (.code CodL.yN CodL.yB 2 (some .byte))) (wks h (.initialized CodL.yN.cls :: CodL.site))
  have q5 : ∀ w ∈ Cmp5.tab :: words, w.before a s = true := fun w hw => (List.mem_cons.mp hw).elim (fun e => e ▸ h5) (h w)
  have h3 : Cmp3.tab.before a s = true := unparts (wk q5 (.code Cmp3.yN Cmp3.yB 6 (some (.array .byte)))) (wks q5 (.initialized Cmp3.yN.cls :: Cmp3.site))
  have q3 : ∀ w ∈ Cmp3.tab :: CodL.tab :: words, w.before a s = true := fun w hw => (List.mem_cons.mp hw).elim (fun e => e ▸ h3) fun hw => (List.mem_cons.mp hw).elim (fun e => e ▸ hc) (h w)
  have h4 : New4.tab.before a s = true := unparts (wk q3 (.code New4.yN New4.yB 6 none)) (wks q3 (.initialized New4.yN.cls :: New4.site))
  have q4 : ∀ w ∈ New4.tab :: words, w.before a s = true := fun w hw => (List.mem_cons.mp hw).elim (fun e => e ▸ h4) (h w)
  exact unparts (wk q4 (.code New1.yN New1.yB 2 none)) (wks q4 (.initialized New1.yN.cls :: New1.site))
/-- the words ride from the start Z to the walk's own state -/
theorem moved {Z s : State} {a0 args : Array Value} (hZ : Z.Warmed39 s.vm) (hw : ∀ d ∈ words, d.before a0 Z = true) : ∀ d ∈ words, d.before args s = true := fun d hd => by
  have q := hw d hd
  have t : ∀ d ∈ words, d = .arrayClass .byte ∨ (d.onTables && d.keepsFace) = true := by decide +kernel
  rcases t d hd with rfl | t
  · exact RoadKit.mvA hZ q
  · exact RoadKit.mv hZ q t
/-- WHAT COMES BACK, over the tables of the start Z: h the heap at the call, h' behind it -/
def Q (Z : State) (x : Addr) (A : Cell) (h : Heap) (v : Option Value) (h' : Heap) (L : List Loc) : Prop := v = none ∧ (∀ y ∈ L, y.base = x) ∧ RoadKit.Keep h h' [x] ∧ h'.size = h.size + 1 ∧ RoadKit.Exa Z h' x ST ∧ RoadKit.Fld Z h' x ST "value" "[B" (.ref h.size) ∧ RoadKit.Fld Z h' x ST "coder" "B" (.int 0) ∧
  (∃ V : Cell, RoadKit.Arr Z h' h.size V .byte ∧ V.vm = .none ∧ Z.vm.findClass "[B" = some V.cls ∧ V.slots.size = A.slots.size ∧ ∀ j, j < A.slots.size → V.slots[j]? = some (.int (lo8 (cv A j)))) ∧
  ∀ (O n d : String) (w : Value), RoadKit.Fld Z h x O n d w → RoadKit.slotOf Z O n d ≠ RoadKit.slotOf Z ST "value" "[B" → RoadKit.slotOf Z O n d ≠ RoadKit.slotOf Z ST "coder" "B" → RoadKit.Fld Z h' x O n d w
/-- **new String(chars) AT A CALL, IN THE ROAD'S FORM**: for specialBack behind newO: x the fresh String, b the char[] with the cell A -/
theorem back {p : Program} {l : Launch} {e : Env} {R : Room} {s : State} {args : Array Value} {below : List Frame} {len W : Nat} {Z : State} {a0 : Array Value} {h : Heap} (hZ : Z.Warmed39 s.vm) (hw : ∀ d ∈ words, d.before a0 Z = true) {kI : Nat} (wi : (Jvm.Cond.instantiable ST kI).before a0 Z = true)
    {x b : Addr} {A : Cell} {z : Int32} {v0 c0 : Value} (E : RoadKit.Exa Z h x ST) (V : RoadKit.Fld Z h x ST "value" "[B" v0) (C : RoadKit.Fld Z h x ST "coder" "B" c0) (K : RoadKit.Arr Z h b A .char) (hty : Typed .char A) (S : RoadKit.Sta Z h ST "COMPACT_STRINGS" "Z" (.int z)) (hz : ¬ z = 0)
    (l0 : 0 < A.slots.size) (l2 : A.slots.size ≤ 536870912) (hp : ∀ i, i < A.slots.size → ¬ 255 < cv A i) (hfr : 4 ≤ R.frames) (hlo : W + 65 ≤ R.locals) :
    Back l R p e below s args New1.yN len W (fun P a => a = #[.ref x, .ref b] ∧ P.U.heap = h ∧ P.cells + 1 ≤ R.cells ∧ P.slots + A.slots.size ≤ R.slots)
      (fun P _ v B => ∃ L, Q Z x A h v B.U.heap L ∧ B.locs = P.locs ++ L ∧ B.cells = P.cells + 1 ∧ B.slots = P.slots + A.slots.size) := by
  intro m meth c P g ig mk a X hg hsize hdg hW hn hp'
  obtain ⟨rfl, rfl, r1, r2⟩ := hp'
  have al : Z.vm.Alike P.U.vm := hZ.alike.trans X.warmed.alike
  obtain ⟨D, cfV, kV, iV, fV, hD, gV, stV, knV, obV, asV, slV⟩ := id V
  obtain ⟨D', cfC, kC, iC, fC, hD', gC, stC, -, -, asC, slC⟩ := id C
  cases hD.symm.trans hD'
  obtain ⟨D2, kD, e1, e2, e3, e4, e5⟩ := id E
  cases hD.symm.trans e1
  obtain ⟨c2, k2, i1, i2, i3, -⟩ := Cond.instantiable_spec wi
  cases e2.symm.trans i1
  cases e3.symm.trans i2
  obtain ⟨kU, u1, u2⟩ := al.2.2 _ _ e3
  have hB : Blank ST x D P.U := ⟨hD, ⟨knV, fun q hq => by rw [hq] at obV; cases obV⟩, by rw [al.findClass]; exact e2, kU, u1, by rw [u2]; exact i3, by rw [u2]; exact e5 i3⟩
  have F1 : Found ST "value" "[B" fV P.U := ⟨SBG.found_only al ⟨cfV, kV, iV, gV⟩, stV⟩
  have F2 : Found ST "coder" "B" fC P.U := ⟨SBG.found_only al ⟨cfC, kC, iC, gC⟩, stC⟩
  have hA : Ch b A P.U := ⟨⟨K.1, State.isArrayOf_alike al K.2.1, K.2.2, by omega⟩, hty⟩
  have hS : StaticIs P.U ST "COMPACT_STRINGS" "Z" (.int z) := by
    obtain ⟨cfS, iS, kS, fS, st, cS, t1, t2, t3, t4, t5, t6, t7⟩ := S
    exact StaticIs.there (s := { Z with heap := P.U.heap }) ⟨cfS, iS, kS, fS, st, cS, t1, t2, t3, t4, t5, (fun q => by rw [q] at t6; cases t6), t7⟩ al rfl
  obtain ⟨v, B, X', ⟨⟨hv, E', V', q1, q2, q3, q4, q5, q6, q7, q8, q9, q10, q11⟩, hl, hc, hs⟩, st⟩ := New1.pays x D fV fC b A z (tab_of (moved hZ hw)) hfr hlo m meth c P g ig mk _ X hg hsize hdg hW hn ⟨r1, r2, rfl, hB, F1, F2, hA, hS, hz, l0, l2, hp⟩
  have al' : Z.vm.Alike B.U.vm := hZ.alike.trans X'.warmed.alike
  have hsz : E'.slots.size = D.slots.size := by
    obtain ⟨-, -, -, kB, w1, w2, w3⟩ := q1
    obtain ⟨kB', y1, y2⟩ := al'.2.2 _ _ e3
    rw [q2.2.1] at w1
    cases w1.symm.trans y1
    rw [w3, e5 i3, y2]
  refine ⟨v, B, X', ⟨_, ⟨hv, ?_, ⟨by omega, fun y cy hy hn' => q10 y cy (by simpa using hn') hy, fun y cy hy => ?_⟩, q11, ⟨E', _, q1.1, by rw [q2.2.1]; exact e2, by rw [q2.2.1]; exact e3, by rw [q2.1]; exact obV, fun _ => by rw [hsz]; exact e5 i3⟩,
    ⟨E', cfV, kV, iV, fV, q1.1, gV, stV, by rw [q2.1]; exact knV, by rw [q2.1]; exact obV, by rw [q2.2.1]; exact asV, q3⟩, ⟨E', cfC, kC, iC, fC, q1.1, gC, stC, by rw [q2.1]; exact knV, by rw [q2.1]; exact obV, by rw [q2.2.1]; exact asC, q4⟩,
    ⟨V', ⟨q5.1, State.isArrayOf_alike al'.symm q5.2.1, q5.2.2.1⟩, q6, by rw [← al'.findClass]; exact q7, q8, fun j hj => by have := q9 j hj; rwa [Nat.zero_add] at this⟩, fun O n d w F n1 n2 => ?_⟩, hl, hc, hs⟩, st⟩
  · intro y hy
    simp only [List.mem_cons, List.not_mem_nil, or_false] at hy
    rcases hy with rfl | rfl <;> rfl
  · by_cases q : y = x
    · subst q
      cases hD.symm.trans hy
      exact ⟨E', q1.1, q2.2.1, q2.1, hsz⟩
    · exact ⟨cy, q10 y cy q hy, rfl, rfl, rfl⟩
  · obtain ⟨D3, cf, k, i, f, g1, g2, g3, g4, g5, g6, g7⟩ := F
    cases hD.symm.trans g1
    simp only [RoadKit.slotOf, g2, gV, gC, Option.map_some, Option.getD_some] at n1 n2
    exact ⟨E', cf, k, i, f, q1.1, g2, g3, by rw [q2.1]; exact g4, by rw [q2.1]; exact g5, by rw [q2.2.1]; exact g6, by rw [q2.2.2 f.slot (by simp [n1, n2])]; exact g7⟩
end StrChars.Road
namespace StrChars.Road
open Jvm Sem ClassFile Op Lib Jvm.Stand Jvm.Free Jvm.Free.XT
/-- WHAT COMES BACK, the byte[] as a list of values -/
def QA (Z : State) (x : Addr) (zn : Int32) (cs : List Int32) (h : Heap) (v : Option Value) (h' : Heap) (L : List Loc) : Prop := v = none ∧ (∀ y ∈ L, y.base = x) ∧ RoadKit.Keep h h' [x] ∧ h'.size = h.size + 1 ∧ RoadKit.Exa Z h' x ST ∧ RoadKit.Fld Z h' x ST "value" "[B" (.ref h.size) ∧ RoadKit.Fld Z h' x ST "coder" "B" (.int 0) ∧
  (∃ kb, Z.vm.findClass "[B" = some kb ∧ RoadKit.Arv Z h' h.size kb .byte zn (cs.map fun c => .int (lo8 c)) (.int 0)) ∧
  ∀ (O n d : String) (w : Value), RoadKit.Fld Z h x O n d w → RoadKit.slotOf Z O n d ≠ RoadKit.slotOf Z ST "value" "[B" → RoadKit.slotOf Z O n d ≠ RoadKit.slotOf Z ST "coder" "B" → RoadKit.Fld Z h' x O n d w
/-- **new String(chars) AT A CALL, THE ARRAYS AS LISTS**: the char[] at b holds cs, not empty, no char above 255 -/
theorem backArv {p : Program} {l : Launch} {e : Env} {R : Room} {s : State} {args : Array Value} {below : List Frame} {len W : Nat} {Z : State} {a0 : Array Value} {h : Heap} (hZ : Z.Warmed39 s.vm) (hw : ∀ d ∈ words, d.before a0 Z = true) {kI : Nat} (wi : (Jvm.Cond.instantiable ST kI).before a0 Z = true)
    {x b : Addr} {k : ClassId} {zn z : Int32} {cs : List Int32} {dv v0 c0 : Value} (E : RoadKit.Exa Z h x ST) (V : RoadKit.Fld Z h x ST "value" "[B" v0) (C : RoadKit.Fld Z h x ST "coder" "B" c0) (K : RoadKit.Arv Z h b k .char zn (cs.map Value.int) dv) (S : RoadKit.Sta Z h ST "COMPACT_STRINGS" "Z" (.int z)) (hz : ¬ z = 0)
    (hlen : zn.toNatClampNeg = cs.length) (h0 : 0 < cs.length) (hbig : cs.length ≤ 536870912) (hall : ∀ c ∈ cs, ¬ 255 < c) (hfr : 4 ≤ R.frames) (hlo : W + 65 ≤ R.locals) :
    Back l R p e below s args New1.yN len W (fun P a => a = #[.ref x, .ref b] ∧ P.U.heap = h ∧ P.cells + 1 ≤ R.cells ∧ P.slots + cs.length ≤ R.slots)
      (fun P _ v B => ∃ L, QA Z x zn cs h v B.U.heap L ∧ B.locs = P.locs ++ L ∧ B.cells = P.cells + 1 ∧ B.slots = P.slots + cs.length) := by
  obtain ⟨A, K1, K2, K3, K4, K5, K6⟩ := K
  have e : A.slots.size = cs.length := K3.trans hlen
  have hat : ∀ (i : Nat) (hi : i < cs.length), A.slots[i]? = some (.int cs[i]) := fun i hi => by rw [K5 i (by omega)]; simp [List.getD_eq_getElem?_getD, hi]
  have hcv : ∀ (i : Nat) (hi : i < cs.length), cv A i = cs[i] := fun i hi => by unfold cv; rw [hat i hi]
  have hty : Typed .char A := fun i v hv => by
    have hi : i < A.slots.size := (Array.getElem?_eq_some_iff.mp hv).1
    have q := K5 i hi
    rw [hv] at q
    rw [Option.some.inj q]
    exact K6 i hi
  refine Back.mono (back hZ hw wi E V C K1 hty S hz (by omega) (by omega) (fun i hi => by rw [hcv i (by omega)]; exact hall _ (List.getElem_mem _)) hfr hlo) (fun P a hp => ⟨hp.1, hp.2.1, hp.2.2.1, by rw [e]; exact hp.2.2.2⟩) (fun P a v B hp hq => ?_)
  obtain ⟨L, ⟨q1, q2, q3, q4, q5, q6, q7, ⟨V', v1, v2, v3, v4, v5⟩, q9⟩, hl, hc, hs⟩ := hq
  refine ⟨L, ⟨q1, q2, q3, q4, q5, q6, q7, ⟨V'.cls, v3, V', v1, rfl, by rw [v4, e, hlen], K4, fun i hi => ?_, fun i hi => ?_⟩, q9⟩, hl, hc, by rw [hs, e]⟩
  · have hi' : i < cs.length := by omega
    rw [v5 i (by omega), hcv i hi']; simp [List.getD_eq_getElem?_getD, hi']
  · have hi' : i < cs.length := by omega
    simp only [List.getD_eq_getElem?_getD, List.getElem?_map, List.getElem?_eq_getElem hi', Option.map_some, Option.getD_some]
    exact fits_lo8 _
end StrChars.Road
namespace StrChars.Road
open Jvm Sem ClassFile Op Lib Jvm.Stand Jvm.Free Jvm.Free.XT
/-- WHAT COMES BACK, in the writer's own shape -/
def QV (Z : State) (x : Addr) (N : Int32) (bs : List Int32) (h : Heap) (n0 : Nat) (v : Option Value) (h' : Heap) (L : List Loc) : Prop := v = none ∧ RoadKit.Fr n0 L ∧ RoadKit.Keep h h' [x] ∧ RoadKit.Exa Z h' x ST ∧ RoadKit.Fld Z h' x ST "coder" "B" (.int 0) ∧
  ∃ (t : Addr) (kb : ClassId), n0 ≤ t ∧ h.size ≤ t ∧ ¬ t = x ∧ RoadKit.Fld Z h' x ST "value" "[B" (.ref t) ∧ RoadKit.Arv Z h' t kb .byte N (bs.map Value.int) (.int 0)
/-- **new String(chars) AT A CALL, FOR THE WRITER**: a char[] of n known ints, each 0 to 255 -/
theorem backV {p : Program} {l : Launch} {e : Env} {R : Room} {s : State} {args : Array Value} {below : List Frame} {len W : Nat} {Z : State} {a0 : Array Value} {h : Heap} (hZ : Z.Warmed39 s.vm) (hw : ∀ d ∈ words, d.before a0 Z = true) {kI : Nat} (wi : (Jvm.Cond.instantiable ST kI).before a0 Z = true)
    {x b : Addr} {kC : ClassId} {cs bs : List Int32} {d v0 c0 : Value} {z N : Int32} {n n0 : Nat} (hx0 : n0 ≤ x) (hh0 : n0 ≤ h.size) (E : RoadKit.Exa Z h x ST) (V : RoadKit.Fld Z h x ST "value" "[B" v0) (C : RoadKit.Fld Z h x ST "coder" "B" c0) (K : RoadKit.Arv Z h b kC .char N (cs.map Value.int) d) (S : RoadKit.Sta Z h ST "COMPACT_STRINGS" "Z" (.int z)) (hz : ¬ z = 0)
    (hn : cs.length = n) (hN : N = Int32.ofNat n) (l0 : 0 < n) (l2 : n ≤ 4000) (hp : ∀ c ∈ cs, ¬ c < 0 ∧ ¬ (255 : Int32) < c) (hb : bs = cs.map (fun c => c.toInt8.toInt32)) (hfr : 4 ≤ R.frames) (hlo : W + 65 ≤ R.locals) :
    Back l R p e below s args (⟨"java/lang/String", "<init>", "([C)V"⟩ : MethodName) len W (fun P a => a = #[.ref x, .ref b] ∧ P.U.heap = h ∧ P.cells + 1 ≤ R.cells ∧ P.slots + n ≤ R.slots)
      (fun P _ v B => ∃ L, QV Z x N bs h n0 v B.U.heap L ∧ B.locs = P.locs ++ L ∧ B.cells = P.cells + 1 ∧ B.slots = P.slots + n) := by
  subst hn hN hb
  refine Back.mono (backArv hZ hw wi E V C K S hz (n32 (by omega)) l0 (by omega) (fun c hc => (hp c hc).2) hfr hlo) (fun P a hp => hp) (fun P a v B hp hq => ?_)
  obtain ⟨L, ⟨q1, q2, q3, q4, q5, q6, q7, ⟨kb, v1, v2⟩, q9⟩, hl, hc, hs⟩ := hq
  exact ⟨L, ⟨q1, fun y hy => by rw [q2 y hy]; exact hx0, q3, q5, q7, h.size, kb, hh0, Nat.le_refl _, Nat.ne_of_gt E.lt, q6, by rw [List.map_map]; exact v2⟩, hl, hc, hs⟩
end StrChars.Road
namespace StrChars
open Jvm Sem ClassFile Op Lib Jvm.Stand Jvm.Free.XT Jvm.Free.ALB Jvm.Free.JM Jvm.Free
open Jvm.Lib.Cold (StaticIs)
theorem shr0 (c : Int32) : c >>> ((0 : Int32) &&& 31) = c := by
  have e : ((0 : Int32) &&& 31) = 0 := by decide
  rw [e]
  apply Int32.toBitVec_inj.mp
  rw [Int32.toBitVec_shiftRight]
  have e1 : ((0 : Int32).toBitVec.smod 32) = 0#32 := by decide
  rw [e1, BitVec.sshiftRight_eq']
  exact BitVec.sshiftRight_zero
end StrChars
end Jvm.Pilot.@@N@@
namespace Jvm.Pilot.@@N@@
open Jvm Jvm.ClassFile Sem Op Lib Jvm.Free Jvm.Stand Jvm.LawKit Jvm.RoadKit Bundle Jvm.Pilot.@@N@@.Jvm.D
section Own
variable {p : Program} {l : Launch} {e : Env} {R : Room} {s : State} {m : MethodId} {args : Array Value} {below : List Frame} {meth : Method} {c : Code} {T S S' : State} {locs : List Loc} {cells slots : Nat} {Z : State} {a0 : Array Value} {h h' : Heap}
/-- from S the walk comes to an end that P holds of -/
def OwnEnd (p : Program) (e : Env) (below : List Frame) (P : Outcome → State → Prop) (S : State) : Prop := ∃ s₂ o, Steps p.tables e below S s₂ ∧ s₂.status = .running ∧ Ended s₂ below o ∧ P o s₂
theorem OwnEnd.of {P : Outcome → State → Prop} (h : ∀ t, Steps p.tables e below S' t → Steps p.tables e below S t) (k : OwnEnd p e below P S') : OwnEnd p e below P S := by
  obtain ⟨s2, o, a, r⟩ := k; exact ⟨s2, o, h _ a, r⟩
theorem OwnEnd.tr {P : Outcome → State → Prop} (h : Steps p.tables e below S S') (k : OwnEnd p e below P S') : OwnEnd p e below P S := OwnEnd.of (fun _ q => h.trans q) k
theorem OwnEnd.start {P : Outcome → State → Prop} {n : Nat} {g' : JFrame} (h : entryFrame m args n = g') (k : OwnEnd p e below P (T.setTop g')) :
    ∃ s₂ o, Steps p.tables e below (T.setTop (entryFrame m args n)) s₂ ∧ s₂.status = .running ∧ Ended s₂ below o ∧ P o s₂ := by rw [h]; exact k
theorem OwnEnd.ret (X : Stand p l e R s m args below meth c T locs cells slots) {v : Option Value} (hv : meth.sig.returnType = none → v = none) (hlk : meth.locks = false)
    (st : ∀ fs, (∀ (f : JFrame) (acts : List Action), f.method = m → f.locked = none → f.entered = [] → (doReturn e (T.setTop f) acts v).1 = T.setFrames fs) → Steps p.tables e below S (T.setFrames fs))
    {k n : Nat} (hk : cells ≤ k) (hn : slots ≤ n) {Q : Option Value → Heap → List Loc → Prop} (eT : T.heap = h) (hq : Q v h locs) :
    OwnEnd p e below (fun o t => ∃ v L, o = .returned v ∧ Q v t.heap L ∧ FrameEnd s o t L k n) S := by
  obtain ⟨fs, hr, hrun, hended, hW, hsame⟩ := X.leave (v := v) hv hlk
  subst eT
  exact ⟨_, _, st fs hr, hrun, hended, v, locs, rfl, hq, ⟨_, rfl⟩, hW, hsame.mono hk hn⟩
theorem OwnEnd.retW {vm₁ : Vm} (X : Stand p l e R (s.setVm vm₁) m args below meth c T locs cells slots) {k0 : Nat} (hS : s.Since vm₁ k0) (hk0 : k0 ≤ Array.size h) {v : Option Value} (hv : meth.sig.returnType = none → v = none) (hlk : meth.locks = false)
    (st : ∀ fs, (∀ (f : JFrame) (acts : List Action), f.method = m → f.locked = none → f.entered = [] → (doReturn e (T.setTop f) acts v).1 = T.setFrames fs) → Steps p.tables e below S (T.setFrames fs))
    {k n : Nat} (hk : cells ≤ k) (hn : slots ≤ n) {Q : Option Value → Heap → List Loc → Prop} (eT : T.heap = h) (hq : Q v h locs) :
    OwnEnd p e below (fun o t => ∃ v L, o = .returned v ∧ Q v t.heap L ∧ ReturnedEndW s o t L k n) S := by
  subst eT
  obtain ⟨fs, hr, hrun, hended, hE⟩ := X.leaveW hS hk0 (v := v) hv hlk
  exact ⟨_, _, st fs hr, hrun, hended, v, locs, rfl, hq, hE.1, hE.2.1, hE.2.2.1, hE.2.2.2.mono hk hn⟩
theorem OwnEnd.retC {vm₁ : Vm} {EL : List (String × Nat)} {h0 : Heap} (hh : s.heap = h0) (hEL : EW Z a0 EL) (hZ : Z.Warmed39 vm₁) (X : Stand p l e R (s.setVm vm₁) m args below meth c T locs cells slots) {k0 : Nat} (hS : s.Since vm₁ k0) (hk0 : k0 ≤ Array.size h) {v : Option Value} (hv : meth.sig.returnType = none → v = none) (hlk : meth.locks = false)
    (st : ∀ fs, (∀ (f : JFrame) (acts : List Action), f.method = m → f.locked = none → f.entered = [] → (doReturn e (T.setTop f) acts v).1 = T.setFrames fs) → Steps p.tables e below S (T.setFrames fs))
    {k n : Nat} (hk : cells ≤ k) (hn : slots ≤ n) {Q : Option Value → Heap → List Loc → Prop} (eT : T.heap = h) (hR : CHr Z EL s.vm h0 vm₁ h) (hq : Q v h locs) :
    OwnEnd p e below (fun o t => ∃ v L, o = .returned v ∧ Q v t.heap L ∧ CHr Z EL s.vm s.heap t.vm t.heap ∧ ReturnedEndW s o t L k n) S := by
  subst eT hh
  obtain ⟨fs, hr, hrun, hended, hE⟩ := X.leaveW hS hk0 (v := v) hv hlk
  have q := CHv.at X hZ hEL hR.1
  exact ⟨_, _, st fs hr, hrun, hended, v, locs, rfl, hq, hR.trans q, hE.1, hE.2.1, hE.2.2.1, hE.2.2.2.mono hk hn⟩
theorem own_old_le {n0 : Nat} (O : Old Z n0 h) : n0 ≤ Array.size h := O.1 ▸ O.2.1
theorem own_wr_le {a : Addr} {sl : Nat} {v : Value} (W : Wr h h' a sl v) : Array.size h ≤ Array.size h' := Nat.le_of_eq W.size.symm
theorem own_ltN' {a n : Nat} (q : a < n) : @LT.lt Nat instLTNat a n := q
theorem own_ltB {a n : Nat} (q : @LT.lt Nat instLTNat a n) : a < n := q
theorem own_ne {a b : Nat} (q : @LT.lt Nat instLTNat a b ∨ @LT.lt Nat instLTNat b a) : a ≠ b := by rcases q with q | q <;> omega
theorem own_neN {a b : Nat} (q : a ≠ b) : @Ne Nat a b := q
theorem own_nin1 {a b : Addr} (h : a ≠ b) : a ∉ [b] := ninS h nin0
theorem own_nin2 {a b d : Addr} (h : a ≠ b) (h2 : a ≠ d) : a ∉ [b, d] := ninS h (own_nin1 h2)
theorem own_nin3 {a b d f : Addr} (h : a ≠ b) (h2 : a ≠ d) (h3 : a ≠ f) : a ∉ [b, d, f] := ninS h (own_nin2 h2 h3)
theorem own_all0 {P : Addr → Prop} : ∀ x ∈ ([] : List Addr), P x := all0
theorem own_all1 {P : Addr → Prop} {a : Addr} (h : P a) : ∀ x ∈ [a], P x := allS h all0
theorem own_all2 {P : Addr → Prop} {a b : Addr} (h : P a) (h2 : P b) : ∀ x ∈ [a, b], P x := allS h (own_all1 h2)
theorem own_all3 {P : Addr → Prop} {a b d : Addr} (h : P a) (h2 : P b) (h3 : P d) : ∀ x ∈ [a, b, d], P x := allS h (own_all2 h2 h3)
theorem own_cat1 {v : Value} (h : v.isRef = true) : v.category = 1 := by rcases ref_cases h with rfl | ⟨_, rfl⟩ <;> rfl
theorem own_fits_ref {v : Value} {t : FieldType} (h : v.isRef = true) (ht : t.isReference = true) : fits t v = true := by
  rcases ref_cases h with rfl | ⟨_, rfl⟩ <;> cases t <;> first | rfl | cases ht
theorem own_nar_ref {v : Value} {t : FieldType} (h : v.isRef = true) (ht : t.isReference = true) : narrow t v = v := by
  rcases ref_cases h with rfl | ⟨_, rfl⟩ <;> cases t <;> first | rfl | cases ht
theorem own_nar_cc (x : Int32) : nar .char (nar .char x) = nar .char x := by
  obtain ⟨h1, h2⟩ := rng_char (fits_nar_char x)
  have a := (c_i2c (nar .char x)); have b := c_i2c x
  have r := rng32 (nar .char x)
  apply Int32.toInt_inj.mp
  show (nar .char x).toUInt32.toUInt16.toUInt32.toInt32.toInt = (nar .char x).toInt
  have q1 : (nar .char x).toInt = x.toUInt32.toUInt16.toUInt32.toInt32.toInt := rfl
  omega
theorem own_c255 (x : Int32) : ¬ nar .char (x &&& (255 : Int32)) < 0 ∧ ¬ (255 : Int32) < nar .char (x &&& (255 : Int32)) := by
  have a := c_i2c (x &&& 255); have b := c_and x 255 (by decide)
  have q1 : (nar .char (x &&& 255)).toInt = (x &&& (255 : Int32)).toUInt32.toUInt16.toUInt32.toInt32.toInt := rfl
  have e0 : (0 : Int32).toInt = 0 := rfl
  have e2 : (255 : Int32).toInt = 255 := rfl
  rw [Int32.lt_iff_toInt_lt, Int32.lt_iff_toInt_lt]
  omega
theorem own_up (cs : List Int32) (h : ∀ c ∈ cs, ¬ c < 0 ∧ ¬ (255 : Int32) < c) : ∀ c ∈ cs, ¬ c < 0 ∧ ¬ (65535 : Int32) < c := fun c hc => ⟨(h c hc).1, fun q => (h c hc).2 (by rw [Int32.lt_iff_toInt_lt] at q ⊢; have e1 : (65535 : Int32).toInt = 65535 := rfl; have e2 : (255 : Int32).toInt = 255 := rfl; omega)⟩
end Own
section Own2
theorem own_notI {args : Array Value} {s : State} {C : String} {x z y : MethodName} (w : (Cond.selects C x z).before args s = true) (e : z.cls = y.cls) : NotFace s y := fun r0 h0 => by
  obtain ⟨c2, r2, m2, q1, q2, q3, q4, kP, hkP, hkPi⟩ := Cond.selects_spec w
  have a := findClass_of_methodNamed q3
  have b := findClass_of_methodNamed h0
  rw [e] at a
  have q : m2.cls = r0.cls := Option.some.inj (a.symm.trans b)
  exact ⟨kP, by rw [← q]; exact hkP, hkPi⟩
theorem own_same {args : Array Value} {s : State} {y : MethodName} (hn : NotFace s y) (hi : (Cond.instanceMethod y).before args s = true) (hy : y.cls ≠ "java/lang/invoke/MethodHandle" ∧ y.cls ≠ "java/lang/invoke/VarHandle") : (Cond.sameMethod y.cls y.cls y.name y.desc).before args s = true := by
  obtain ⟨mk, methM, hnamed, -⟩ := Cond.instanceMethod_spec hi
  obtain ⟨k, hk, hki⟩ := hn _ hnamed
  have hc := findClass_of_methodNamed hnamed
  have hf := State.methodFound?_of_named hnamed hy
  have hnm : s.methodNamed? ⟨y.cls, y.name, y.desc⟩ = some mk := hnamed
  simp [Cond.before, Cond.holds, Cond.value, hc, hf, hnm, hk, hki]
theorem own_selP {args : Array Value} {s : State} {y : MethodName} (hn : NotFace s y) (hi : (Cond.instanceMethod y).before args s = true) (hp : s.PrivateAt y) (hy : y.cls ≠ "java/lang/invoke/MethodHandle" ∧ y.cls ≠ "java/lang/invoke/VarHandle") : (Cond.selects y.cls y y).before args s = true := by
  obtain ⟨mk, methM, hnamed, -⟩ := Cond.instanceMethod_spec hi
  obtain ⟨k, hk, hki⟩ := hn _ hnamed
  exact selects_self_of_private (findClass_of_methodNamed hnamed) hk hki hp hi hy
theorem own_nost {cell : Cell} (h : cell.vm.isStatics = false) : ∀ q, cell.vm ≠ .statics q := fun q e => by rw [e] at h; cases h
theorem own_sto {Z : State} {h : Heap} {a y : Addr} {cl : Cell} {k : ClassId} {ty : FieldType} {C : String} (A : Arr Z h a cl ty) (q : cl.cls = k) (O : Ovr Z k C) (I : Ins Z h y C true) : Sto Z h a (.ref y) := Sto.of A (by rw [q]; exact O) I
end Own2
def OwnG (Z : State) (a0 : Array Value) : Prop := (∀ d ∈ tables_1, d.before a0 Z = true) ∧ (∀ d ∈ jdkStatics_1, d.before a0 Z = true)
theorem own_w {Z : State} {a0 : Array Value} (G : OwnG Z a0) (i : Nat) {d : Jvm.Cond} (h : tables_1[i]? = some d) : d.before a0 Z = true := G.1 _ (List.mem_of_getElem? h)
abbrev own_m0 : MethodName := ⟨"jdk/internal/util/Preconditions", "checkIndex", "(IILjava/util/function/BiFunction;)I"⟩
abbrev own_m1 : MethodName := ⟨"java/lang/String", "checkIndex", "(II)V"⟩
abbrev own_m2 : MethodName := ⟨"java/lang/String", "isLatin1", "()Z"⟩
abbrev own_m3 : MethodName := ⟨"java/lang/String", "coder", "()B"⟩
abbrev own_m4 : MethodName := ⟨"java/lang/String", "length", "()I"⟩
abbrev own_m5 : MethodName := ⟨"java/lang/StringLatin1", "charAt", "([BI)C"⟩
abbrev own_m6 : MethodName := ⟨"java/lang/String", "charAt", "(I)C"⟩
abbrev own_m7 : MethodName := ⟨"java/lang/StringLatin1", "canEncode", "(C)Z"⟩
abbrev own_m8 : MethodName := ⟨"java/lang/AbstractStringBuilder", "isLatin1", "()Z"⟩
abbrev own_m9 : MethodName := ⟨"java/lang/AbstractStringBuilder", "<init>", "(I)V"⟩
abbrev own_m10 : MethodName := ⟨"java/lang/StringBuilder", "<init>", "()V"⟩
abbrev own_m11 : MethodName := ⟨"java/lang/AbstractStringBuilder", "ensureCapacityInternal", "(I)V"⟩
abbrev own_m12 : MethodName := ⟨"java/lang/AbstractStringBuilder", "append", "(C)Ljava/lang/AbstractStringBuilder;"⟩
abbrev own_m13 : MethodName := ⟨"java/lang/StringBuilder", "append", "(C)Ljava/lang/StringBuilder;"⟩
abbrev own_m14 : MethodName := ⟨"java/lang/AbstractStringBuilder", "length", "()I"⟩
abbrev own_m15 : MethodName := ⟨"java/lang/StringBuilder", "length", "()I"⟩
abbrev own_m16 : MethodName := ⟨"java/lang/AbstractStringBuilder", "getValue", "()[B"⟩
abbrev own_m17 : MethodName := ⟨"java/util/Arrays", "checkLength", "(II)V"⟩
abbrev own_m18 : MethodName := ⟨"java/lang/Math", "min", "(II)I"⟩
abbrev own_m19 : MethodName := ⟨"java/util/Arrays", "copyOfRangeByte", "([BII)[B"⟩
abbrev own_m20 : MethodName := ⟨"java/util/Arrays", "copyOfRange", "([BII)[B"⟩
abbrev own_m21 : MethodName := ⟨"java/lang/String", "<init>", "(Ljava/lang/AbstractStringBuilder;Ljava/lang/Void;)V"⟩
abbrev own_m22 : MethodName := ⟨"java/lang/String", "<init>", "(Ljava/lang/StringBuilder;)V"⟩
abbrev own_m23 : MethodName := ⟨"java/lang/StringBuilder", "toString", "()Ljava/lang/String;"⟩
abbrev own_m24 : MethodName := ⟨"java/lang/AbstractStringBuilder", "setLength", "(I)V"⟩
abbrev own_m25 : MethodName := ⟨"java/lang/StringBuilder", "setLength", "(I)V"⟩
abbrev own_m26 : MethodName := ⟨"java/lang/StringLatin1", "toBytes", "(C)[B"⟩
abbrev own_m27 : MethodName := ⟨"java/lang/String", "<init>", "([BB)V"⟩
abbrev own_m28 : MethodName := ⟨"java/lang/String", "valueOf", "(C)Ljava/lang/String;"⟩
abbrev own_m29 : MethodName := ⟨"java/util/AbstractCollection", "<init>", "()V"⟩
abbrev own_m30 : MethodName := ⟨"java/util/AbstractList", "<init>", "()V"⟩
abbrev own_m31 : MethodName := ⟨"java/util/ArrayList", "<init>", "()V"⟩
abbrev own_m32 : MethodName := ⟨"java/lang/Math", "max", "(II)I"⟩
abbrev own_m33 : MethodName := ⟨"java/util/ArrayList", "grow", "(I)[Ljava/lang/Object;"⟩
abbrev own_m34 : MethodName := ⟨"java/util/ArrayList", "grow", "()[Ljava/lang/Object;"⟩
abbrev own_m35 : MethodName := ⟨"java/util/ArrayList", "add", "(Ljava/lang/Object;[Ljava/lang/Object;I)V"⟩
abbrev own_m36 : MethodName := ⟨"java/util/ArrayList", "add", "(Ljava/lang/Object;)Z"⟩
abbrev own_m37 : MethodName := ⟨"java/util/ArrayList", "size", "()I"⟩
abbrev own_m38 : MethodName := ⟨"java/util/Objects", "checkIndex", "(II)I"⟩
abbrev own_m39 : MethodName := ⟨"java/util/ArrayList", "elementData", "(I)Ljava/lang/Object;"⟩
abbrev own_m40 : MethodName := ⟨"java/util/ArrayList", "get", "(I)Ljava/lang/Object;"⟩
abbrev own_m41 : MethodName := ⟨"com/example/typicalc/typicalc/Tokens", "add", "(Ljava/lang/StringBuilder;)V"⟩
abbrev own_m42 : MethodName := ⟨"java/util/List", "add", "(Ljava/lang/Object;)Z"⟩
abbrev own_m43 : MethodName := ⟨"com/example/typicalc/typicalc/Tokens", "<init>", "(Ljava/lang/String;)V"⟩
abbrev own_m44 : MethodName := ⟨"java/util/List", "size", "()I"⟩
abbrev own_m45 : MethodName := ⟨"com/example/typicalc/typicalc/Tokens", "atEnd", "()Z"⟩
abbrev own_m46 : MethodName := ⟨"java/util/List", "get", "(I)Ljava/lang/Object;"⟩
abbrev own_m47 : MethodName := ⟨"com/example/typicalc/typicalc/Tokens", "next", "()Ljava/lang/String;"⟩
abbrev own_m48 : MethodName := ⟨"com/example/typicalc/typicalc/Tokens", "position", "()I"⟩
abbrev own_m49 : MethodName := ⟨"com/example/typicalc/typicalc/Tokens", "peek", "(I)Ljava/lang/String;"⟩
abbrev own_m50 : MethodName := ⟨"java/lang/StringLatin1", "equals", "([B[B)Z"⟩
abbrev own_m51 : MethodName := ⟨"java/lang/String", "equals", "(Ljava/lang/Object;)Z"⟩
abbrev own_m52 : MethodName := ⟨"com/example/typicalc/typicalc/TokensPeekPinLaw", "blank", "(C)Z"⟩
abbrev own_m53 : MethodName := ⟨"java/lang/String", "<init>", "([C)V"⟩
theorem own_cs {Z : State} {a0 : Array Value} (G : OwnG Z a0) : ∃ z : Int32, Sta Z Z.heap "java/lang/String" "COMPACT_STRINGS" "Z" (.int z) ∧ ¬ z = (0 : Int32) := by
  have hs := G.2
  obtain ⟨i, e⟩ := is_v (Cond.before_iff.mp (hs _ (List.mem_of_getElem? (i := 1) rfl)))
  have n5 := not_v (Cond.before_iff.mp (hs _ (List.mem_of_getElem? (i := 2) rfl)))
  exact ⟨i, Sta.start e (Or.inl (hs _ (List.mem_of_getElem? (i := 0) rfl))), gotF (Cond.eq_ints e (Term.int_eval (0))) n5⟩
theorem own_fm {Z : State} {a0 : Array Value} (G : OwnG Z a0) : ∃ v : Value, Sta Z Z.heap "jdk/internal/util/Preconditions" "SIOOBE_FORMATTER" "Ljava/util/function/BiFunction;" v ∧ v.isRef = true := by
  have hs := G.2
  obtain ⟨v, e, r⟩ := isR_v (Cond.before_iff.mp (hs _ (List.mem_of_getElem? (i := 8) rfl)))
  exact ⟨v, Sta.start e (Or.inl (hs _ (List.mem_of_getElem? (i := 7) rfl))), r⟩
def own_Qint (r : Int32) (h0 : Heap) (n0 : Nat) (v : Option Value) (h : Heap) (L : List Loc) : Prop := v = some (.int r) ∧ Fr n0 L ∧ h = h0
theorem own_255 {c : Int32} (h : ¬ (255 : Int32) < c) : ¬ (65535 : Int32) < c := fun q => h (by rw [Int32.lt_iff_toInt_lt] at q ⊢; have e1 : (65535 : Int32).toInt = 65535 := rfl; have e2 : (255 : Int32).toInt = 255 := rfl; omega)
theorem own_narc {c : Int32} (h0 : ¬ c < (0 : Int32)) (h1 : ¬ (65535 : Int32) < c) : nar .char c = c := by
  have a := c_i2c c
  have q1 : (nar .char c).toInt = c.toUInt32.toUInt16.toUInt32.toInt32.toInt := rfl
  rw [Int32.lt_iff_toInt_lt] at h0 h1
  have e1 : (65535 : Int32).toInt = 65535 := rfl
  have e0 : (0 : Int32).toInt = 0 := rfl
  apply Int32.toInt_inj.mp
  omega
theorem own_lat {c : Int32} (h0 : ¬ c < (0 : Int32)) (h1 : ¬ (255 : Int32) < c) : nar .char (nar .char (StrChars.lo8 c &&& (255 : Int32))) = c := by
  rw [own_nar_cc, StrChars.lo8_mask h0 h1, own_narc h0 (own_255 h1)]
theorem own_toInt {k : Nat} (h : k < 2 ^ 31) : (Int32.ofNat k).toInt = k := toInt_of rfl h
theorem own_clamp {k : Nat} (h : k < 2 ^ 31) : (Int32.ofNat k).toNatClampNeg = k := clamp_of rfl h
theorem own_nn {k : Nat} (h : k < 2 ^ 31) : ¬ Int32.ofNat k < (0 : Int32) := by
  rw [Int32.lt_iff_toInt_lt, own_toInt h]; have e0 : (0 : Int32).toInt = 0 := rfl; omega
theorem own_ltN {k n : Nat} (h : k < n) (hn : n < 2 ^ 31) : Int32.ofNat k < Int32.ofNat n := by
  rw [Int32.lt_iff_toInt_lt, own_toInt hn, own_toInt (by omega)]; omega
theorem own_dbl {k : Nat} (h : k < 2 ^ 29) : Int32.ofNat k <<< ((1 : Int32) &&& 31) = Int32.ofNat (2 * k) := by
  have a := c_ishl (Int32.ofNat k) 1 1 (by decide)
  have r := rng32 (Int32.ofNat k <<< ((1 : Int32) &&& 31))
  rw [own_toInt (by omega)] at a
  apply Int32.toInt_inj.mp
  rw [own_toInt (show 2 * k < 2 ^ 31 by omega)]
  omega
theorem own_inc {k : Nat} (h : k + 1 < 2 ^ 31) : Int32.ofNat k + (1 : Int32) = Int32.ofNat (k + 1) := (inc_ofNat k).symm
theorem own_half {cs : List Int32} (h : cs.length ≤ 4000) : Int32.ofNat (2 * cs.length) >>> ((1 : Int32) &&& 31) = Int32.ofNat cs.length := by
  have a := c_ishr (Int32.ofNat (2 * cs.length)) 1 1 (by decide)
  rw [own_toInt (by omega)] at a
  apply Int32.toInt_inj.mp
  rw [a, own_toInt (by omega)]
  omega
theorem own_shr0 (c : Int32) : c >>> ((0 : Int32) &&& 31) = c := StrChars.shr0 c
theorem own_getD_mem {cs : List Int32} {k : Nat} (h : k < cs.length) : cs.getD k 0 ∈ cs := by
  have e : cs.getD k 0 = cs[k] := by simp [List.getD_eq_getElem?_getD, h]
  rw [e]; exact List.getElem_mem _
theorem own_arr_ref {Z : State} {a0 : Array Value} {t : Term} {ty : FieldType} (h : (Cond.arrayOf t ty).value a0 Z none Z [] = some true) : ∃ a : Addr, t.eval a0 Z none [] Z = some (.ref a) := by
  simp only [Cond.value] at h
  split at h
  · cases h
  · cases hv : t.eval a0 Z none [] Z with
    | none => rw [hv] at h; cases h
    | some v => cases v <;> first | exact ⟨_, rfl⟩ | (rw [hv] at h; simp at h)
theorem own_len0 {Z : State} {a0 : Array Value} {t : Term} {a : Addr} {cl : Cell} {ty : FieldType} (A : Arr Z Z.heap a cl ty) (ev : t.eval a0 Z none [] Z = some (.ref a)) (h : (Cond.eq (Term.length t) (Term.int (0 : Int32))).value a0 Z none Z [] = some true) : cl.slots.size = (0 : Int32).toNatClampNeg := by
  have q := eqv_i (Term.int_eval (0 : Int32)) h
  have hA := A.fin (U := Z) (Vm.Alike.refl _)
  by_cases h31 : cl.slots.size < 2147483648
  · have e2 := (len_f ev hA h31).symm.trans q
    have e3 : cl.slots.size.toInt32 = (0 : Int32) := by simpa using e2
    have e4 := congrArg Int32.toInt e3
    rw [len_toInt h31] at e4
    have e5 : (0 : Int32).toInt = 0 := rfl
    have e6 : (0 : Int32).toNatClampNeg = 0 := by decide
    omega
  · simp [Term.eval, ev, hA, h31] at q
theorem own_words : ∀ d ∈ StrChars.Road.words, d ∈ tables_1 := by decide +kernel
theorem own_lolo (x : Int32) : nar .byte (nar .byte x) = nar .byte x := by
  have a := c_i2b x; have b := c_i2b (nar .byte x)
  have q1 : (nar .byte x).toInt = x.toInt8.toInt32.toInt := rfl
  apply Int32.toInt_inj.mp
  show (nar .byte x).toInt8.toInt32.toInt = (nar .byte x).toInt
  omega
theorem own_lo2 (c : Int32) : nar .byte (nar .byte c) = StrChars.lo8 c := own_lolo c
theorem own_dflt {Z : State} {a0 : Array Value} (G : OwnG Z a0) : ∃ (aD : Addr) (kD : ClassId), Sta Z Z.heap "java/util/ArrayList" "DEFAULTCAPACITY_EMPTY_ELEMENTDATA" "[Ljava/lang/Object;" (.ref aD) ∧ Arv Z Z.heap aD kD (.object "java/lang/Object") (0 : Int32) [] .null := by
  have hs := G.2
  have w1 := Cond.before_iff.mp (hs _ (List.mem_of_getElem? (i := 15) rfl))
  obtain ⟨a, ev⟩ := own_arr_ref w1
  obtain ⟨cl, A⟩ := Arr.start ev w1
  have z := own_len0 A ev (Cond.before_iff.mp (hs _ (List.mem_of_getElem? (i := 17) rfl)))
  exact ⟨a, cl.cls, Sta.start ev (Or.inr ⟨(own_w G 58 rfl), hs _ (List.mem_of_getElem? (i := 11) rfl)⟩), cl, A, rfl, z, by decide, fun k hk => by rw [z] at hk; exact absurd hk (Nat.not_lt_zero _), fun k hk => by rw [z] at hk; exact absurd hk (Nat.not_lt_zero _)⟩
def own_ord : List Nat → Prop
  | a :: b :: r => a < b ∧ own_ord (b :: r)
  | _ => True
def own_nb : List Int32 → List Int32
  | [] => []
  | c :: cs => if c = 32 then own_nb cs else if c = 9 then own_nb cs else c :: own_nb cs
theorem own_nb_b {c : Int32} {cs : List Int32} (h : c = (32 : Int32) ∨ c = (9 : Int32)) : own_nb (c :: cs) = own_nb cs := by
  rcases h with h | h <;> simp [own_nb, h]
theorem own_nb_n {c : Int32} {cs : List Int32} (h1 : ¬ c = (32 : Int32)) (h2 : ¬ c = (9 : Int32)) : own_nb (c :: cs) = c :: own_nb cs := by
  simp [own_nb, h1, h2]
theorem own_b40 {c : Int32} (h : c = (32 : Int32) ∨ c = (9 : Int32)) : ¬ c = (40 : Int32) := by rcases h with rfl | rfl <;> decide
theorem own_b41 {c : Int32} (h : c = (32 : Int32) ∨ c = (9 : Int32)) : ¬ c = (41 : Int32) := by rcases h with rfl | rfl <;> decide
theorem own_p32 {c : Int32} (h : c = (40 : Int32) ∨ c = (41 : Int32)) : ¬ c = (32 : Int32) := by rcases h with rfl | rfl <;> decide
theorem own_p9 {c : Int32} (h : c = (40 : Int32) ∨ c = (41 : Int32)) : ¬ c = (9 : Int32) := by rcases h with rfl | rfl <;> decide
theorem own_blr {c : Int32} (h : c = (32 : Int32) ∨ c = (9 : Int32)) : ¬ c < (0 : Int32) ∧ ¬ (255 : Int32) < c := by rcases h with rfl | rfl <;> decide
theorem own_kind (c : Int32) : (c = (32 : Int32) ∨ c = (9 : Int32)) ∨ (c = (40 : Int32) ∨ c = (41 : Int32)) ∨ (¬ c = (32 : Int32) ∧ ¬ c = (9 : Int32) ∧ ¬ c = (40 : Int32) ∧ ¬ c = (41 : Int32)) := by
  by_cases h1 : c = 32
  · exact Or.inl (Or.inl h1)
  by_cases h2 : c = 9
  · exact Or.inl (Or.inr h2)
  by_cases h3 : c = 40
  · exact Or.inr (Or.inl (Or.inl h3))
  by_cases h4 : c = 41
  · exact Or.inr (Or.inl (Or.inr h4))
  exact Or.inr (Or.inr ⟨h1, h2, h3, h4⟩)
def own_blank (c : Int32) : Int32 := if c = 32 then 1 else if c = 9 then 1 else 0
theorem own_blank01 (c : Int32) : (own_blank c = (0 : Int32) ∧ ¬ c = (32 : Int32) ∧ ¬ c = (9 : Int32)) ∨ (own_blank c = (1 : Int32) ∧ (c = (32 : Int32) ∨ c = (9 : Int32))) := by
  by_cases h1 : c = 32
  · exact Or.inr ⟨by simp [own_blank, h1], Or.inl h1⟩
  by_cases h2 : c = 9
  · exact Or.inr ⟨by simp [own_blank, h2], Or.inr h2⟩
  exact Or.inl ⟨by simp [own_blank, h1, h2], h1, h2⟩
theorem own_all5 {a b d e f : Int32} (ha : ¬ a < (0 : Int32) ∧ ¬ (255 : Int32) < a) (hb : ¬ b < (0 : Int32) ∧ ¬ (255 : Int32) < b) (hd : ¬ d < (0 : Int32) ∧ ¬ (255 : Int32) < d) (he : ¬ e < (0 : Int32) ∧ ¬ (255 : Int32) < e) (hf : ¬ f < (0 : Int32) ∧ ¬ (255 : Int32) < f) : ∀ c ∈ ([a, b, d, e, f] : List Int32), ¬ c < (0 : Int32) ∧ ¬ (255 : Int32) < c := by
  intro c hc; simp only [List.mem_cons, List.not_mem_nil, or_false] at hc; rcases hc with rfl | rfl | rfl | rfl | rfl <;> assumption
theorem own_and3 (p : Int32) : (p &&& (3 : Int32)) = (0 : Int32) ∨ (p &&& (3 : Int32)) = (1 : Int32) ∨ (p &&& (3 : Int32)) = (2 : Int32) ∨ (p &&& (3 : Int32)) = (3 : Int32) := by
  have a := c_and p 3 (by decide)
  simp only [← Int32.toInt_inj]
  have e0 : (0 : Int32).toInt = 0 := rfl
  have e1 : (1 : Int32).toInt = 1 := rfl
  have e2 : (2 : Int32).toInt = 2 := rfl
  have e3 : (3 : Int32).toInt = 3 := rfl
  omega
theorem own_t0 (p : Int32) : (p &&& (3 : Int32)) = (0 : Int32) ∨ ¬ (p &&& (3 : Int32)) < (1 : Int32) := by
  have a := c_and p 3 (by decide)
  simp only [← Int32.toInt_inj, Int32.lt_iff_toInt_lt] at *
  have e0 : (0 : Int32).toInt = 0 := rfl
  have e1 : (1 : Int32).toInt = 1 := rfl
  have e2 : (2 : Int32).toInt = 2 := rfl
  have e3 : (3 : Int32).toInt = 3 := rfl
  omega
theorem own_t1 (p : Int32) (h : ¬ (p &&& (3 : Int32)) < (1 : Int32)) : (p &&& (3 : Int32)) = (1 : Int32) ∨ ¬ (p &&& (3 : Int32)) < (2 : Int32) := by
  have a := c_and p 3 (by decide)
  simp only [← Int32.toInt_inj, Int32.lt_iff_toInt_lt] at *
  have e0 : (0 : Int32).toInt = 0 := rfl
  have e1 : (1 : Int32).toInt = 1 := rfl
  have e2 : (2 : Int32).toInt = 2 := rfl
  have e3 : (3 : Int32).toInt = 3 := rfl
  omega
theorem own_t2 (p : Int32) (h : ¬ (p &&& (3 : Int32)) < (2 : Int32)) : (p &&& (3 : Int32)) = (2 : Int32) ∨ (p &&& (3 : Int32)) = (3 : Int32) := by
  have a := c_and p 3 (by decide)
  simp only [← Int32.toInt_inj, Int32.lt_iff_toInt_lt] at *
  have e0 : (0 : Int32).toInt = 0 := rfl
  have e1 : (1 : Int32).toInt = 1 := rfl
  have e2 : (2 : Int32).toInt = 2 := rfl
  have e3 : (3 : Int32).toInt = 3 := rfl
  omega
theorem own_ah0_0 (p : Int32) : ¬ ((0 : Int32) + (p &&& (7 : Int32))) < (0 : Int32) := by
  have a := c_and p 7 (by decide)
  have b := c_iadd (0 : Int32) (p &&& (7 : Int32))
  have r := rng32 ((0 : Int32) + (p &&& (7 : Int32)))
  simp only [← Int32.toInt_inj, Int32.lt_iff_toInt_lt]
  have e0 : (0 : Int32).toInt = 0 := rfl
  have e1 : (1 : Int32).toInt = 1 := rfl
  have e2 : (2 : Int32).toInt = 2 := rfl
  have e3 : (3 : Int32).toInt = 3 := rfl
  have e7 : (7 : Int32).toInt = 7 := rfl
  omega
theorem own_ah0_1 (p : Int32) : (p &&& (7 : Int32)) = (0 : Int32) ∨ ¬ ((0 : Int32) + (p &&& (7 : Int32))) < (1 : Int32) := by
  have a := c_and p 7 (by decide)
  have b := c_iadd (0 : Int32) (p &&& (7 : Int32))
  have r := rng32 ((0 : Int32) + (p &&& (7 : Int32)))
  simp only [← Int32.toInt_inj, Int32.lt_iff_toInt_lt]
  have e0 : (0 : Int32).toInt = 0 := rfl
  have e1 : (1 : Int32).toInt = 1 := rfl
  have e2 : (2 : Int32).toInt = 2 := rfl
  have e3 : (3 : Int32).toInt = 3 := rfl
  have e7 : (7 : Int32).toInt = 7 := rfl
  omega
theorem own_ah1_1 (p : Int32) : ¬ ((1 : Int32) + (p &&& (7 : Int32))) < (1 : Int32) := by
  have a := c_and p 7 (by decide)
  have b := c_iadd (1 : Int32) (p &&& (7 : Int32))
  have r := rng32 ((1 : Int32) + (p &&& (7 : Int32)))
  simp only [← Int32.toInt_inj, Int32.lt_iff_toInt_lt]
  have e0 : (0 : Int32).toInt = 0 := rfl
  have e1 : (1 : Int32).toInt = 1 := rfl
  have e2 : (2 : Int32).toInt = 2 := rfl
  have e3 : (3 : Int32).toInt = 3 := rfl
  have e7 : (7 : Int32).toInt = 7 := rfl
  omega
theorem own_ah0_2 (p : Int32) : (p &&& (7 : Int32)) = (0 : Int32) ∨ (p &&& (7 : Int32)) = (1 : Int32) ∨ ¬ ((0 : Int32) + (p &&& (7 : Int32))) < (2 : Int32) := by
  have a := c_and p 7 (by decide)
  have b := c_iadd (0 : Int32) (p &&& (7 : Int32))
  have r := rng32 ((0 : Int32) + (p &&& (7 : Int32)))
  simp only [← Int32.toInt_inj, Int32.lt_iff_toInt_lt]
  have e0 : (0 : Int32).toInt = 0 := rfl
  have e1 : (1 : Int32).toInt = 1 := rfl
  have e2 : (2 : Int32).toInt = 2 := rfl
  have e3 : (3 : Int32).toInt = 3 := rfl
  have e7 : (7 : Int32).toInt = 7 := rfl
  omega
theorem own_ah1_2 (p : Int32) : (p &&& (7 : Int32)) = (0 : Int32) ∨ ¬ ((1 : Int32) + (p &&& (7 : Int32))) < (2 : Int32) := by
  have a := c_and p 7 (by decide)
  have b := c_iadd (1 : Int32) (p &&& (7 : Int32))
  have r := rng32 ((1 : Int32) + (p &&& (7 : Int32)))
  simp only [← Int32.toInt_inj, Int32.lt_iff_toInt_lt]
  have e0 : (0 : Int32).toInt = 0 := rfl
  have e1 : (1 : Int32).toInt = 1 := rfl
  have e2 : (2 : Int32).toInt = 2 := rfl
  have e3 : (3 : Int32).toInt = 3 := rfl
  have e7 : (7 : Int32).toInt = 7 := rfl
  omega
theorem own_ah2_2 (p : Int32) : ¬ ((2 : Int32) + (p &&& (7 : Int32))) < (2 : Int32) := by
  have a := c_and p 7 (by decide)
  have b := c_iadd (2 : Int32) (p &&& (7 : Int32))
  have r := rng32 ((2 : Int32) + (p &&& (7 : Int32)))
  simp only [← Int32.toInt_inj, Int32.lt_iff_toInt_lt]
  have e0 : (0 : Int32).toInt = 0 := rfl
  have e1 : (1 : Int32).toInt = 1 := rfl
  have e2 : (2 : Int32).toInt = 2 := rfl
  have e3 : (3 : Int32).toInt = 3 := rfl
  have e7 : (7 : Int32).toInt = 7 := rfl
  omega
theorem own_ah0_3 (p : Int32) : (p &&& (7 : Int32)) = (0 : Int32) ∨ (p &&& (7 : Int32)) = (1 : Int32) ∨ (p &&& (7 : Int32)) = (2 : Int32) ∨ ¬ ((0 : Int32) + (p &&& (7 : Int32))) < (3 : Int32) := by
  have a := c_and p 7 (by decide)
  have b := c_iadd (0 : Int32) (p &&& (7 : Int32))
  have r := rng32 ((0 : Int32) + (p &&& (7 : Int32)))
  simp only [← Int32.toInt_inj, Int32.lt_iff_toInt_lt]
  have e0 : (0 : Int32).toInt = 0 := rfl
  have e1 : (1 : Int32).toInt = 1 := rfl
  have e2 : (2 : Int32).toInt = 2 := rfl
  have e3 : (3 : Int32).toInt = 3 := rfl
  have e7 : (7 : Int32).toInt = 7 := rfl
  omega
theorem own_ah1_3 (p : Int32) : (p &&& (7 : Int32)) = (0 : Int32) ∨ (p &&& (7 : Int32)) = (1 : Int32) ∨ ¬ ((1 : Int32) + (p &&& (7 : Int32))) < (3 : Int32) := by
  have a := c_and p 7 (by decide)
  have b := c_iadd (1 : Int32) (p &&& (7 : Int32))
  have r := rng32 ((1 : Int32) + (p &&& (7 : Int32)))
  simp only [← Int32.toInt_inj, Int32.lt_iff_toInt_lt]
  have e0 : (0 : Int32).toInt = 0 := rfl
  have e1 : (1 : Int32).toInt = 1 := rfl
  have e2 : (2 : Int32).toInt = 2 := rfl
  have e3 : (3 : Int32).toInt = 3 := rfl
  have e7 : (7 : Int32).toInt = 7 := rfl
  omega
theorem own_ah2_3 (p : Int32) : (p &&& (7 : Int32)) = (0 : Int32) ∨ ¬ ((2 : Int32) + (p &&& (7 : Int32))) < (3 : Int32) := by
  have a := c_and p 7 (by decide)
  have b := c_iadd (2 : Int32) (p &&& (7 : Int32))
  have r := rng32 ((2 : Int32) + (p &&& (7 : Int32)))
  simp only [← Int32.toInt_inj, Int32.lt_iff_toInt_lt]
  have e0 : (0 : Int32).toInt = 0 := rfl
  have e1 : (1 : Int32).toInt = 1 := rfl
  have e2 : (2 : Int32).toInt = 2 := rfl
  have e3 : (3 : Int32).toInt = 3 := rfl
  have e7 : (7 : Int32).toInt = 7 := rfl
  omega
theorem own_ah3_3 (p : Int32) : ¬ ((3 : Int32) + (p &&& (7 : Int32))) < (3 : Int32) := by
  have a := c_and p 7 (by decide)
  have b := c_iadd (3 : Int32) (p &&& (7 : Int32))
  have r := rng32 ((3 : Int32) + (p &&& (7 : Int32)))
  simp only [← Int32.toInt_inj, Int32.lt_iff_toInt_lt]
  have e0 : (0 : Int32).toInt = 0 := rfl
  have e1 : (1 : Int32).toInt = 1 := rfl
  have e2 : (2 : Int32).toInt = 2 := rfl
  have e3 : (3 : Int32).toInt = 3 := rfl
  have e7 : (7 : Int32).toInt = 7 := rfl
  omega
abbrev rR (a b c d : Nat) : Room := { frames := a, cells := b, slots := c, locals := d }
theorem oo {p : Program} {e : Env} {below : List Frame} {P : Outcome → State → Prop} {S S' : State} (h : ∀ t, Steps p.tables e below S' t → Steps p.tables e below S t) (k : OwnEnd p e below P S') : OwnEnd p e below P S := OwnEnd.of h k
theorem ot {p : Program} {e : Env} {below : List Frame} {P : Outcome → State → Prop} {S S' : State} (h : Steps p.tables e below S S') (k : OwnEnd p e below P S') : OwnEnd p e below P S := OwnEnd.tr h k
theorem w_ {Z : State} {a0 : Array Value} (G : OwnG Z a0) (i : Nat) {d : Jvm.Cond} (h : tables_1[i]? = some d) : d.before a0 Z = true := own_w G i h
theorem ol {a b : Nat} (h : Nat.ble a b = true) : a ≤ b := Nat.le_of_ble_eq_true h
theorem lN {a n : Nat} (q : a < n) : @LT.lt Nat instLTNat a n := q
theorem on {a b : Nat} (q : @LT.lt Nat instLTNat a b ∨ @LT.lt Nat instLTNat b a) : a ≠ b := own_ne q
theorem oI {s : State} {C : String} {x z y : MethodName} (w : (Cond.selects C x z).before #[] s = true) (e : z.cls = y.cls) : NotFace s y := own_notI w e
abbrev vI (x : Int32) : Slot := .val (.int x)
abbrev vR (x : Addr) : Slot := .val (.ref x)
theorem own_z {m : MethodId} {pc : Nat} {Ls : Array Slot} {Ss rest : List Value} {W : Nat} (h : (rest.map fun v => v.category).sum = W) : 2 * (mkF m pc Ls Ss).monitorRoom + (rest.map fun v => v.category).sum ≤ W := by
  subst h; show 2 * 0 + _ ≤ _; omega
theorem own_st {p : Program} {l : Launch} {e : Env} {s : State} {m : MethodId} {args : Array Value} {below : List Frame} {meth : Method} {c : Code} {s₁ : State} {x : MethodName} {cd : ByteArray} {mx : Nat} {rt : Option FieldType} {ws : List Jvm.Cond} {R : Room} {h0 : Heap} (Bd : BodyLoose p l x (head1 ws R) cd mx rt e s m args below meth c s₁) (hh : s.heap = h0) :
    p.tables.exec = Jvm.exec ∧ c.code = cd ∧ s.vm.findClass x.cls = some m.cls ∧ meth.locks = false ∧ Stand p l e R s m args below meth c s₁ [] 0 0 ∧ s₁.heap = h0 :=
  ⟨Bd.exec, Bd.bytes, findClass_of_methodNamed Bd.named, Bd.notSynchronized, Stand.of_body Bd, by rw [← hh, Bd.state]; rfl⟩
abbrev j0 : String := "java/lang/AbstractStringBuilder"
abbrev j1 : String := "java/lang/String"
abbrev j2 : String := "java/util/ArrayList"
abbrev j3 : String := "com/example/typicalc/typicalc/Tokens"
abbrev j4 : String := "java/lang/Object"
abbrev j5 : String := "java/lang/StringBuilder"
abbrev j6 : String := "java/util/AbstractList"
abbrev j7 : String := "com/example/typicalc/typicalc/TokensPeekPinLaw"
abbrev j8 : String := "java/lang/Math"
abbrev j9 : String := "java/util/List"
abbrev B10 : ByteArray := jdk_41_method_11_code
abbrev B11 : ByteArray := jdk_42_method_155_code
abbrev B12 : ByteArray := jdk_42_method_154_code
abbrev B13 : ByteArray := jdk_42_method_152_code
abbrev B14 : ByteArray := jdk_42_method_54_code
abbrev B15 : ByteArray := jdk_43_method_2_code
abbrev B16 : ByteArray := jdk_42_method_56_code
abbrev B17 : ByteArray := jdk_43_method_3_code
abbrev B18 : ByteArray := jdk_68_method_68_code
abbrev B19 : ByteArray := jdk_68_method_2_code
abbrev B20 : ByteArray := jdk_67_method_1_code
abbrev B21 : ByteArray := jdk_68_method_9_code
abbrev B22 : ByteArray := jdk_68_method_31_code
abbrev B23 : ByteArray := jdk_67_method_14_code
abbrev B24 : ByteArray := jdk_68_method_6_code
abbrev B25 : ByteArray := jdk_67_method_93_code
abbrev B26 : ByteArray := jdk_68_method_64_code
abbrev B27 : ByteArray := jdk_65_method_131_code
abbrev B28 : ByteArray := jdk_29_method_69_code
abbrev B29 : ByteArray := jdk_65_method_133_code
abbrev B30 : ByteArray := jdk_65_method_132_code
abbrev B31 : ByteArray := jdk_42_method_150_code
abbrev B32 : ByteArray := jdk_42_method_53_code
abbrev B33 : ByteArray := jdk_67_method_42_code
abbrev B34 : ByteArray := jdk_68_method_13_code
abbrev B35 : ByteArray := jdk_67_method_89_code
abbrev B36 : ByteArray := jdk_43_method_46_code
abbrev B37 : ByteArray := jdk_42_method_151_code
abbrev B38 : ByteArray := jdk_42_method_139_code
abbrev B39 : ByteArray := jdk_22_method_1_code
abbrev B40 : ByteArray := jdk_39_method_1_code
abbrev B41 : ByteArray := jdk_38_method_2_code
abbrev B42 : ByteArray := jdk_29_method_65_code
abbrev B43 : ByteArray := jdk_38_method_6_code
abbrev B44 : ByteArray := jdk_38_method_7_code
abbrev B45 : ByteArray := jdk_38_method_24_code
abbrev B46 : ByteArray := jdk_38_method_25_code
abbrev B47 : ByteArray := jdk_38_method_8_code
abbrev B48 : ByteArray := jdk_31_method_17_code
abbrev B49 : ByteArray := jdk_38_method_18_code
abbrev B50 : ByteArray := jdk_38_method_20_code
abbrev B51 : ByteArray := prog_4_method_2_code
abbrev B52 : ByteArray := prog_4_method_1_code
abbrev B53 : ByteArray := prog_4_method_3_code
abbrev B54 : ByteArray := prog_4_method_7_code
abbrev B55 : ByteArray := prog_4_method_4_code
abbrev B56 : ByteArray := prog_4_method_6_code
abbrev B57 : ByteArray := jdk_43_method_13_code
abbrev B58 : ByteArray := jdk_42_method_66_code
abbrev B59 : ByteArray := method_2_code
theorem d0_0 : decode B10 0 = .ok (.iload_n 0, 1) := by decide +kernel
theorem d0_1 : decode B10 1 = .ok (.ifCond .lt 8, 3) := by decide +kernel
theorem d0_4 : decode B10 4 = .ok (.iload_n 0, 1) := by decide +kernel
theorem d0_5 : decode B10 5 = .ok (.iload_n 1, 1) := by decide +kernel
theorem d0_6 : decode B10 6 = .ok (.if_icmp .lt 10, 3) := by decide +kernel
theorem d0_16 : decode B10 16 = .ok (.iload_n 0, 1) := by decide +kernel
theorem d0_17 : decode B10 17 = .ok (.ireturn, 1) := by decide +kernel
theorem pn_0 : plainName "jdk/internal/util/Preconditions" = true := by first | (simp [plainName, overriddenIn]; done) | decide +kernel
theorem d1_0 : decode B11 0 = .ok (.iload_n 0, 1) := by decide +kernel
theorem d1_1 : decode B11 1 = .ok (.iload_n 1, 1) := by decide +kernel
theorem d1_2 : decode B11 2 = .ok (.getstatic 1053, 3) := by decide +kernel
theorem d1_5 : decode B11 5 = .ok (.invokestatic 1059, 3) := by decide +kernel
theorem pd_0 : parseMethodDescriptor "(IILjava/util/function/BiFunction;)I" = some ⟨[.int, .int, (.object "java/util/function/BiFunction")], some .int⟩ := by decide +kernel
theorem d1_8 : decode B11 8 = .ok (.pop, 1) := by decide +kernel
theorem d1_9 : decode B11 9 = .ok (.return_, 1) := by decide +kernel
theorem pn_1 : plainName "java/lang/String" = true := by first | (simp [plainName, overriddenIn]; done) | decide +kernel
theorem d2_0 : decode B12 0 = .ok (.getstatic 38, 3) := by decide +kernel
theorem d2_3 : decode B12 3 = .ok (.ifCond .eq 14, 3) := by decide +kernel
theorem d2_6 : decode B12 6 = .ok (.aload_n 0, 1) := by decide +kernel
theorem d2_7 : decode B12 7 = .ok (.getfield 15, 3) := by decide +kernel
theorem d2_10 : decode B12 10 = .ok (.ifCond .ne 7, 3) := by decide +kernel
theorem d2_13 : decode B12 13 = .ok (.iconst 1, 1) := by decide +kernel
theorem d2_14 : decode B12 14 = .ok (.goto 4, 3) := by decide +kernel
theorem d2_18 : decode B12 18 = .ok (.ireturn, 1) := by decide +kernel
theorem d3_0 : decode B13 0 = .ok (.getstatic 38, 3) := by decide +kernel
theorem d3_3 : decode B13 3 = .ok (.ifCond .eq 10, 3) := by decide +kernel
theorem d3_6 : decode B13 6 = .ok (.aload_n 0, 1) := by decide +kernel
theorem d3_7 : decode B13 7 = .ok (.getfield 15, 3) := by decide +kernel
theorem d3_10 : decode B13 10 = .ok (.goto 4, 3) := by decide +kernel
theorem d3_14 : decode B13 14 = .ok (.ireturn, 1) := by decide +kernel
theorem d4_0 : decode B14 0 = .ok (.aload_n 0, 1) := by decide +kernel
theorem d4_1 : decode B14 1 = .ok (.getfield 9, 3) := by decide +kernel
theorem d4_4 : decode B14 4 = .ok (.arraylength, 1) := by decide +kernel
theorem d4_5 : decode B14 5 = .ok (.aload_n 0, 1) := by decide +kernel
theorem d4_6 : decode B14 6 = .ok (.invokevirtual 335, 3) := by decide +kernel
theorem pd_1 : parseMethodDescriptor "()B" = some ⟨[], some .byte⟩ := by decide +kernel
theorem d4_9 : decode B14 9 = .ok (.ishr, 1) := by decide +kernel
theorem d4_10 : decode B14 10 = .ok (.ireturn, 1) := by decide +kernel
theorem d5_0 : decode B15 0 = .ok (.iload_n 1, 1) := by decide +kernel
theorem d5_1 : decode B15 1 = .ok (.aload_n 0, 1) := by decide +kernel
theorem d5_2 : decode B15 2 = .ok (.arraylength, 1) := by decide +kernel
theorem d5_3 : decode B15 3 = .ok (.invokestatic 9, 3) := by decide +kernel
theorem pd_2 : parseMethodDescriptor "(II)V" = some ⟨[.int, .int], none⟩ := by decide +kernel
theorem d5_6 : decode B15 6 = .ok (.aload_n 0, 1) := by decide +kernel
theorem d5_7 : decode B15 7 = .ok (.iload_n 1, 1) := by decide +kernel
theorem d5_8 : decode B15 8 = .ok (.baload, 1) := by decide +kernel
theorem d5_9 : decode B15 9 = .ok (.sipush 255, 3) := by decide +kernel
theorem d5_12 : decode B15 12 = .ok (.iand, 1) := by decide +kernel
theorem d5_13 : decode B15 13 = .ok (.i2c, 1) := by decide +kernel
theorem d5_14 : decode B15 14 = .ok (.ireturn, 1) := by decide +kernel
theorem pn_2 : plainName "java/lang/StringLatin1" = true := by first | (simp [plainName, overriddenIn]; done) | decide +kernel
theorem d6_0 : decode B16 0 = .ok (.aload_n 0, 1) := by decide +kernel
theorem d6_1 : decode B16 1 = .ok (.invokevirtual 492, 3) := by decide +kernel
theorem pd_3 : parseMethodDescriptor "()Z" = some ⟨[], some .boolean⟩ := by decide +kernel
theorem d6_4 : decode B16 4 = .ok (.ifCond .eq 12, 3) := by decide +kernel
theorem d6_7 : decode B16 7 = .ok (.aload_n 0, 1) := by decide +kernel
theorem d6_8 : decode B16 8 = .ok (.getfield 9, 3) := by decide +kernel
theorem d6_11 : decode B16 11 = .ok (.iload_n 1, 1) := by decide +kernel
theorem d6_12 : decode B16 12 = .ok (.invokestatic 495, 3) := by decide +kernel
theorem pd_4 : parseMethodDescriptor "([BI)C" = some ⟨[(.array .byte), .int], some .char⟩ := by decide +kernel
theorem d6_15 : decode B16 15 = .ok (.ireturn, 1) := by decide +kernel
theorem d7_0 : decode B17 0 = .ok (.iload_n 0, 1) := by decide +kernel
theorem d7_1 : decode B17 1 = .ok (.sipush 255, 3) := by decide +kernel
theorem d7_4 : decode B17 4 = .ok (.if_icmp .gt 7, 3) := by decide +kernel
theorem d7_7 : decode B17 7 = .ok (.iconst 1, 1) := by decide +kernel
theorem d7_8 : decode B17 8 = .ok (.goto 4, 3) := by decide +kernel
theorem d7_12 : decode B17 12 = .ok (.ireturn, 1) := by decide +kernel
theorem d8_0 : decode B18 0 = .ok (.getstatic 18, 3) := by decide +kernel
theorem d8_3 : decode B18 3 = .ok (.ifCond .eq 14, 3) := by decide +kernel
theorem d8_6 : decode B18 6 = .ok (.aload_n 0, 1) := by decide +kernel
theorem d8_7 : decode B18 7 = .ok (.getfield 22, 3) := by decide +kernel
theorem d8_10 : decode B18 10 = .ok (.ifCond .ne 7, 3) := by decide +kernel
theorem d8_13 : decode B18 13 = .ok (.iconst 1, 1) := by decide +kernel
theorem d8_14 : decode B18 14 = .ok (.goto 4, 3) := by decide +kernel
theorem d8_18 : decode B18 18 = .ok (.ireturn, 1) := by decide +kernel
theorem pn_3 : plainName "java/lang/AbstractStringBuilder" = true := by first | (simp [plainName, overriddenIn]; done) | decide +kernel
theorem d9_0 : decode B19 0 = .ok (.aload_n 0, 1) := by decide +kernel
theorem d9_1 : decode B19 1 = .ok (.invokespecial 3, 3) := by decide +kernel
theorem d9_4 : decode B19 4 = .ok (.getstatic 18, 3) := by decide +kernel
theorem d9_7 : decode B19 7 = .ok (.ifCond .eq 18, 3) := by decide +kernel
theorem d9_10 : decode B19 10 = .ok (.aload_n 0, 1) := by decide +kernel
theorem d9_11 : decode B19 11 = .ok (.iload_n 1, 1) := by decide +kernel
theorem d9_12 : decode B19 12 = .ok (.newarray .byte, 2) := by decide +kernel
theorem d9_14 : decode B19 14 = .ok (.putfield 15, 3) := by decide +kernel
theorem d9_17 : decode B19 17 = .ok (.aload_n 0, 1) := by decide +kernel
theorem d9_18 : decode B19 18 = .ok (.iconst 0, 1) := by decide +kernel
theorem d9_19 : decode B19 19 = .ok (.putfield 22, 3) := by decide +kernel
theorem d9_22 : decode B19 22 = .ok (.goto 16, 3) := by decide +kernel
theorem d9_38 : decode B19 38 = .ok (.return_, 1) := by decide +kernel
theorem d10_0 : decode B20 0 = .ok (.aload_n 0, 1) := by decide +kernel
theorem d10_1 : decode B20 1 = .ok (.bipush 16, 2) := by decide +kernel
theorem d10_3 : decode B20 3 = .ok (.invokespecial 1, 3) := by decide +kernel
theorem pd_5 : parseMethodDescriptor "(I)V" = some ⟨[.int], none⟩ := by decide +kernel
theorem d10_6 : decode B20 6 = .ok (.return_, 1) := by decide +kernel
theorem pn_4 : plainName "java/lang/StringBuilder" = true := by first | (simp [plainName, overriddenIn]; done) | decide +kernel
theorem d11_0 : decode B21 0 = .ok (.aload_n 0, 1) := by decide +kernel
theorem d11_1 : decode B21 1 = .ok (.getfield 15, 3) := by decide +kernel
theorem d11_4 : decode B21 4 = .ok (.arraylength, 1) := by decide +kernel
theorem d11_5 : decode B21 5 = .ok (.aload_n 0, 1) := by decide +kernel
theorem d11_6 : decode B21 6 = .ok (.getfield 22, 3) := by decide +kernel
theorem d11_9 : decode B21 9 = .ok (.ishr, 1) := by decide +kernel
theorem d11_10 : decode B21 10 = .ok (.istore_n 2, 1) := by decide +kernel
theorem d11_11 : decode B21 11 = .ok (.iload_n 1, 1) := by decide +kernel
theorem d11_12 : decode B21 12 = .ok (.iload_n 2, 1) := by decide +kernel
theorem d11_13 : decode B21 13 = .ok (.isub, 1) := by decide +kernel
theorem d11_14 : decode B21 14 = .ok (.ifCond .le 24, 3) := by decide +kernel
theorem d11_38 : decode B21 38 = .ok (.return_, 1) := by decide +kernel
theorem d12_0 : decode B22 0 = .ok (.aload_n 0, 1) := by decide +kernel
theorem d12_1 : decode B22 1 = .ok (.aload_n 0, 1) := by decide +kernel
theorem d12_2 : decode B22 2 = .ok (.getfield 79, 3) := by decide +kernel
theorem d12_5 : decode B22 5 = .ok (.iconst 1, 1) := by decide +kernel
theorem d12_6 : decode B22 6 = .ok (.iadd, 1) := by decide +kernel
theorem d12_7 : decode B22 7 = .ok (.invokevirtual 100, 3) := by decide +kernel
theorem d12_10 : decode B22 10 = .ok (.aload_n 0, 1) := by decide +kernel
theorem d12_11 : decode B22 11 = .ok (.invokevirtual 83, 3) := by decide +kernel
theorem d12_14 : decode B22 14 = .ok (.ifCond .eq 31, 3) := by decide +kernel
theorem d12_17 : decode B22 17 = .ok (.iload_n 1, 1) := by decide +kernel
theorem d12_18 : decode B22 18 = .ok (.invokestatic 191, 3) := by decide +kernel
theorem pd_6 : parseMethodDescriptor "(C)Z" = some ⟨[.char], some .boolean⟩ := by decide +kernel
theorem d12_21 : decode B22 21 = .ok (.ifCond .eq 24, 3) := by decide +kernel
theorem d12_24 : decode B22 24 = .ok (.aload_n 0, 1) := by decide +kernel
theorem d12_25 : decode B22 25 = .ok (.getfield 15, 3) := by decide +kernel
theorem d12_28 : decode B22 28 = .ok (.aload_n 0, 1) := by decide +kernel
theorem d12_29 : decode B22 29 = .ok (.dup, 1) := by decide +kernel
theorem d12_30 : decode B22 30 = .ok (.getfield 79, 3) := by decide +kernel
theorem d12_33 : decode B22 33 = .ok (.dup_x1, 1) := by decide +kernel
theorem d12_34 : decode B22 34 = .ok (.iconst 1, 1) := by decide +kernel
theorem d12_35 : decode B22 35 = .ok (.iadd, 1) := by decide +kernel
theorem d12_36 : decode B22 36 = .ok (.putfield 79, 3) := by decide +kernel
theorem d12_39 : decode B22 39 = .ok (.iload_n 1, 1) := by decide +kernel
theorem d12_40 : decode B22 40 = .ok (.i2b, 1) := by decide +kernel
theorem d12_41 : decode B22 41 = .ok (.bastore, 1) := by decide +kernel
theorem d12_42 : decode B22 42 = .ok (.goto 33, 3) := by decide +kernel
theorem d12_75 : decode B22 75 = .ok (.aload_n 0, 1) := by decide +kernel
theorem d12_76 : decode B22 76 = .ok (.areturn, 1) := by decide +kernel
theorem d13_0 : decode B23 0 = .ok (.aload_n 0, 1) := by decide +kernel
theorem d13_1 : decode B23 1 = .ok (.iload_n 1, 1) := by decide +kernel
theorem d13_2 : decode B23 2 = .ok (.invokespecial 50, 3) := by decide +kernel
theorem pd_7 : parseMethodDescriptor "(C)Ljava/lang/AbstractStringBuilder;" = some ⟨[.char], some (.object "java/lang/AbstractStringBuilder")⟩ := by decide +kernel
theorem d13_5 : decode B23 5 = .ok (.pop, 1) := by decide +kernel
theorem d13_6 : decode B23 6 = .ok (.aload_n 0, 1) := by decide +kernel
theorem d13_7 : decode B23 7 = .ok (.areturn, 1) := by decide +kernel
theorem d14_0 : decode B24 0 = .ok (.aload_n 0, 1) := by decide +kernel
theorem d14_1 : decode B24 1 = .ok (.getfield 79, 3) := by decide +kernel
theorem d14_4 : decode B24 4 = .ok (.ireturn, 1) := by decide +kernel
theorem d15_0 : decode B25 0 = .ok (.aload_n 0, 1) := by decide +kernel
theorem d15_1 : decode B25 1 = .ok (.invokespecial 343, 3) := by decide +kernel
theorem pd_8 : parseMethodDescriptor "()I" = some ⟨[], some .int⟩ := by decide +kernel
theorem d15_4 : decode B25 4 = .ok (.ireturn, 1) := by decide +kernel
theorem d16_0 : decode B26 0 = .ok (.aload_n 0, 1) := by decide +kernel
theorem d16_1 : decode B26 1 = .ok (.getfield 15, 3) := by decide +kernel
theorem d16_4 : decode B26 4 = .ok (.areturn, 1) := by decide +kernel
theorem d17_0 : decode B27 0 = .ok (.iload_n 1, 1) := by decide +kernel
theorem d17_1 : decode B27 1 = .ok (.iload_n 0, 1) := by decide +kernel
theorem d17_2 : decode B27 2 = .ok (.if_icmp .ge 35, 3) := by decide +kernel
theorem d17_37 : decode B27 37 = .ok (.return_, 1) := by decide +kernel
theorem pn_5 : plainName "java/util/Arrays" = true := by first | (simp [plainName, overriddenIn]; done) | decide +kernel
theorem d18_0 : decode B29 0 = .ok (.iload_n 1, 1) := by decide +kernel
theorem d18_1 : decode B29 1 = .ok (.iload_n 2, 1) := by decide +kernel
theorem d18_2 : decode B29 2 = .ok (.invokestatic 343, 3) := by decide +kernel
theorem d18_5 : decode B29 5 = .ok (.iload_n 2, 1) := by decide +kernel
theorem d18_6 : decode B29 6 = .ok (.iload_n 1, 1) := by decide +kernel
theorem d18_7 : decode B29 7 = .ok (.isub, 1) := by decide +kernel
theorem d18_8 : decode B29 8 = .ok (.istore_n 3, 1) := by decide +kernel
theorem d18_9 : decode B29 9 = .ok (.iload_n 3, 1) := by decide +kernel
theorem d18_10 : decode B29 10 = .ok (.newarray .byte, 2) := by decide +kernel
theorem d18_12 : decode B29 12 = .ok (.astore 4, 2) := by decide +kernel
theorem d18_14 : decode B29 14 = .ok (.aload_n 0, 1) := by decide +kernel
theorem d18_15 : decode B29 15 = .ok (.iload_n 1, 1) := by decide +kernel
theorem d18_16 : decode B29 16 = .ok (.aload 4, 2) := by decide +kernel
theorem d18_18 : decode B29 18 = .ok (.iconst 0, 1) := by decide +kernel
theorem d18_19 : decode B29 19 = .ok (.aload_n 0, 1) := by decide +kernel
theorem d18_20 : decode B29 20 = .ok (.arraylength, 1) := by decide +kernel
theorem d18_21 : decode B29 21 = .ok (.iload_n 1, 1) := by decide +kernel
theorem d18_22 : decode B29 22 = .ok (.isub, 1) := by decide +kernel
theorem d18_23 : decode B29 23 = .ok (.iload_n 3, 1) := by decide +kernel
theorem d18_24 : decode B29 24 = .ok (.invokestatic 304, 3) := by decide +kernel
theorem d19_0 : decode B28 0 = .ok (.iload_n 0, 1) := by decide +kernel
theorem d19_1 : decode B28 1 = .ok (.iload_n 1, 1) := by decide +kernel
theorem d19_2 : decode B28 2 = .ok (.if_icmp .gt 7, 3) := by decide +kernel
theorem d19_9 : decode B28 9 = .ok (.iload_n 1, 1) := by decide +kernel
theorem d19_10 : decode B28 10 = .ok (.ireturn, 1) := by decide +kernel
theorem pd_9 : parseMethodDescriptor "(II)I" = some ⟨[.int, .int], some .int⟩ := by decide +kernel
theorem d18_27 : decode B29 27 = .ok (.invokestatic 150, 3) := by decide +kernel
theorem d18_30 : decode B29 30 = .ok (.aload 4, 2) := by decide +kernel
theorem d18_32 : decode B29 32 = .ok (.areturn, 1) := by decide +kernel
theorem d20_0 : decode B30 0 = .ok (.iload_n 1, 1) := by decide +kernel
theorem d20_1 : decode B30 1 = .ok (.ifCond .ne 9, 3) := by decide +kernel
theorem d20_4 : decode B30 4 = .ok (.iload_n 2, 1) := by decide +kernel
theorem d20_5 : decode B30 5 = .ok (.aload_n 0, 1) := by decide +kernel
theorem d20_6 : decode B30 6 = .ok (.arraylength, 1) := by decide +kernel
theorem d20_7 : decode B30 7 = .ok (.if_icmp .eq 10, 3) := by decide +kernel
theorem d20_10 : decode B30 10 = .ok (.aload_n 0, 1) := by decide +kernel
theorem d20_11 : decode B30 11 = .ok (.iload_n 1, 1) := by decide +kernel
theorem d20_12 : decode B30 12 = .ok (.iload_n 2, 1) := by decide +kernel
theorem d20_13 : decode B30 13 = .ok (.invokestatic 339, 3) := by decide +kernel
theorem pd_10 : parseMethodDescriptor "([BII)[B" = some ⟨[(.array .byte), .int, .int], some (.array .byte)⟩ := by decide +kernel
theorem d20_16 : decode B30 16 = .ok (.areturn, 1) := by decide +kernel
theorem d21_0 : decode B31 0 = .ok (.aload_n 0, 1) := by decide +kernel
theorem d21_1 : decode B31 1 = .ok (.invokespecial 1, 3) := by decide +kernel
theorem d21_4 : decode B31 4 = .ok (.aload_n 1, 1) := by decide +kernel
theorem d21_5 : decode B31 5 = .ok (.invokevirtual 552, 3) := by decide +kernel
theorem pd_11 : parseMethodDescriptor "()[B" = some ⟨[], some (.array .byte)⟩ := by decide +kernel
theorem d21_8 : decode B31 8 = .ok (.astore_n 3, 1) := by decide +kernel
theorem d21_9 : decode B31 9 = .ok (.aload_n 1, 1) := by decide +kernel
theorem d21_10 : decode B31 10 = .ok (.invokevirtual 549, 3) := by decide +kernel
theorem d21_13 : decode B31 13 = .ok (.istore 4, 2) := by decide +kernel
theorem d21_15 : decode B31 15 = .ok (.aload_n 1, 1) := by decide +kernel
theorem d21_16 : decode B31 16 = .ok (.invokevirtual 1047, 3) := by decide +kernel
theorem d21_19 : decode B31 19 = .ok (.ifCond .eq 22, 3) := by decide +kernel
theorem d21_22 : decode B31 22 = .ok (.aload_n 0, 1) := by decide +kernel
theorem d21_23 : decode B31 23 = .ok (.iconst 0, 1) := by decide +kernel
theorem d21_24 : decode B31 24 = .ok (.putfield 15, 3) := by decide +kernel
theorem d21_27 : decode B31 27 = .ok (.aload_n 0, 1) := by decide +kernel
theorem d21_28 : decode B31 28 = .ok (.aload_n 3, 1) := by decide +kernel
theorem d21_29 : decode B31 29 = .ok (.iconst 0, 1) := by decide +kernel
theorem d21_30 : decode B31 30 = .ok (.iload 4, 2) := by decide +kernel
theorem d21_32 : decode B31 32 = .ok (.invokestatic 54, 3) := by decide +kernel
theorem d21_35 : decode B31 35 = .ok (.putfield 9, 3) := by decide +kernel
theorem d21_38 : decode B31 38 = .ok (.goto 59, 3) := by decide +kernel
theorem d21_97 : decode B31 97 = .ok (.return_, 1) := by decide +kernel
theorem d22_0 : decode B32 0 = .ok (.aload_n 0, 1) := by decide +kernel
theorem d22_1 : decode B32 1 = .ok (.aload_n 1, 1) := by decide +kernel
theorem d22_2 : decode B32 2 = .ok (.aconst_null, 1) := by decide +kernel
theorem d22_3 : decode B32 3 = .ok (.invokespecial 489, 3) := by decide +kernel
theorem pd_12 : parseMethodDescriptor "(Ljava/lang/AbstractStringBuilder;Ljava/lang/Void;)V" = some ⟨[(.object "java/lang/AbstractStringBuilder"), (.object "java/lang/Void")], none⟩ := by decide +kernel
theorem d22_6 : decode B32 6 = .ok (.return_, 1) := by decide +kernel
theorem d23_0 : decode B33 0 = .ok (.new 18, 3) := by decide +kernel
theorem d23_3 : decode B33 3 = .ok (.dup, 1) := by decide +kernel
theorem d23_4 : decode B33 4 = .ok (.aload_n 0, 1) := by decide +kernel
theorem d23_5 : decode B33 5 = .ok (.invokespecial 137, 3) := by decide +kernel
theorem pd_13 : parseMethodDescriptor "(Ljava/lang/StringBuilder;)V" = some ⟨[(.object "java/lang/StringBuilder")], none⟩ := by decide +kernel
theorem d23_8 : decode B33 8 = .ok (.areturn, 1) := by decide +kernel
theorem d24_0 : decode B34 0 = .ok (.iload_n 1, 1) := by decide +kernel
theorem d24_1 : decode B34 1 = .ok (.ifCond .ge 12, 3) := by decide +kernel
theorem d24_13 : decode B34 13 = .ok (.aload_n 0, 1) := by decide +kernel
theorem d24_14 : decode B34 14 = .ok (.iload_n 1, 1) := by decide +kernel
theorem d24_15 : decode B34 15 = .ok (.invokevirtual 100, 3) := by decide +kernel
theorem d24_18 : decode B34 18 = .ok (.aload_n 0, 1) := by decide +kernel
theorem d24_19 : decode B34 19 = .ok (.getfield 79, 3) := by decide +kernel
theorem d24_22 : decode B34 22 = .ok (.iload_n 1, 1) := by decide +kernel
theorem d24_23 : decode B34 23 = .ok (.if_icmp .ge 40, 3) := by decide +kernel
theorem d24_63 : decode B34 63 = .ok (.aload_n 0, 1) := by decide +kernel
theorem d24_64 : decode B34 64 = .ok (.getfield 79, 3) := by decide +kernel
theorem d24_67 : decode B34 67 = .ok (.iload_n 1, 1) := by decide +kernel
theorem d24_68 : decode B34 68 = .ok (.if_icmp .le 8, 3) := by decide +kernel
theorem d24_71 : decode B34 71 = .ok (.aload_n 0, 1) := by decide +kernel
theorem d24_72 : decode B34 72 = .ok (.iconst 1, 1) := by decide +kernel
theorem d24_73 : decode B34 73 = .ok (.putfield 73, 3) := by decide +kernel
theorem d24_76 : decode B34 76 = .ok (.aload_n 0, 1) := by decide +kernel
theorem d24_77 : decode B34 77 = .ok (.iload_n 1, 1) := by decide +kernel
theorem d24_78 : decode B34 78 = .ok (.putfield 79, 3) := by decide +kernel
theorem d24_81 : decode B34 81 = .ok (.return_, 1) := by decide +kernel
theorem d25_0 : decode B35 0 = .ok (.aload_n 0, 1) := by decide +kernel
theorem d25_1 : decode B35 1 = .ok (.iload_n 1, 1) := by decide +kernel
theorem d25_2 : decode B35 2 = .ok (.invokespecial 333, 3) := by decide +kernel
theorem d25_5 : decode B35 5 = .ok (.return_, 1) := by decide +kernel
theorem d26_0 : decode B36 0 = .ok (.iconst 1, 1) := by decide +kernel
theorem d26_1 : decode B36 1 = .ok (.newarray .byte, 2) := by decide +kernel
theorem d26_3 : decode B36 3 = .ok (.dup, 1) := by decide +kernel
theorem d26_4 : decode B36 4 = .ok (.iconst 0, 1) := by decide +kernel
theorem d26_5 : decode B36 5 = .ok (.iload_n 0, 1) := by decide +kernel
theorem d26_6 : decode B36 6 = .ok (.i2b, 1) := by decide +kernel
theorem d26_7 : decode B36 7 = .ok (.bastore, 1) := by decide +kernel
theorem d26_8 : decode B36 8 = .ok (.areturn, 1) := by decide +kernel
theorem d27_0 : decode B37 0 = .ok (.aload_n 0, 1) := by decide +kernel
theorem d27_1 : decode B37 1 = .ok (.invokespecial 1, 3) := by decide +kernel
theorem d27_4 : decode B37 4 = .ok (.aload_n 0, 1) := by decide +kernel
theorem d27_5 : decode B37 5 = .ok (.aload_n 1, 1) := by decide +kernel
theorem d27_6 : decode B37 6 = .ok (.putfield 9, 3) := by decide +kernel
theorem d27_9 : decode B37 9 = .ok (.aload_n 0, 1) := by decide +kernel
theorem d27_10 : decode B37 10 = .ok (.iload_n 2, 1) := by decide +kernel
theorem d27_11 : decode B37 11 = .ok (.putfield 15, 3) := by decide +kernel
theorem d27_14 : decode B37 14 = .ok (.return_, 1) := by decide +kernel
theorem d28_0 : decode B38 0 = .ok (.getstatic 38, 3) := by decide +kernel
theorem d28_3 : decode B38 3 = .ok (.ifCond .eq 23, 3) := by decide +kernel
theorem d28_6 : decode B38 6 = .ok (.iload_n 0, 1) := by decide +kernel
theorem d28_7 : decode B38 7 = .ok (.invokestatic 1015, 3) := by decide +kernel
theorem d28_10 : decode B38 10 = .ok (.ifCond .eq 16, 3) := by decide +kernel
theorem d28_13 : decode B38 13 = .ok (.new 10, 3) := by decide +kernel
theorem d28_16 : decode B38 16 = .ok (.dup, 1) := by decide +kernel
theorem d28_17 : decode B38 17 = .ok (.iload_n 0, 1) := by decide +kernel
theorem d28_18 : decode B38 18 = .ok (.invokestatic 1018, 3) := by decide +kernel
theorem pd_14 : parseMethodDescriptor "(C)[B" = some ⟨[.char], some (.array .byte)⟩ := by decide +kernel
theorem d28_21 : decode B38 21 = .ok (.iconst 0, 1) := by decide +kernel
theorem d28_22 : decode B38 22 = .ok (.invokespecial 209, 3) := by decide +kernel
theorem pd_15 : parseMethodDescriptor "([BB)V" = some ⟨[(.array .byte), .byte], none⟩ := by decide +kernel
theorem d28_25 : decode B38 25 = .ok (.areturn, 1) := by decide +kernel
theorem d29_0 : decode B39 0 = .ok (.aload_n 0, 1) := by decide +kernel
theorem d29_1 : decode B39 1 = .ok (.invokespecial 1, 3) := by decide +kernel
theorem d29_4 : decode B39 4 = .ok (.return_, 1) := by decide +kernel
theorem pn_6 : plainName "java/util/AbstractCollection" = true := by first | (simp [plainName, overriddenIn]; done) | decide +kernel
theorem d30_0 : decode B40 0 = .ok (.aload_n 0, 1) := by decide +kernel
theorem d30_1 : decode B40 1 = .ok (.invokespecial 1, 3) := by decide +kernel
theorem pd_16 : parseMethodDescriptor "()V" = some ⟨[], none⟩ := by decide +kernel
theorem d30_4 : decode B40 4 = .ok (.aload_n 0, 1) := by decide +kernel
theorem d30_5 : decode B40 5 = .ok (.iconst 0, 1) := by decide +kernel
theorem d30_6 : decode B40 6 = .ok (.putfield 7, 3) := by decide +kernel
theorem d30_9 : decode B40 9 = .ok (.return_, 1) := by decide +kernel
theorem pn_7 : plainName "java/util/AbstractList" = true := by first | (simp [plainName, overriddenIn]; done) | decide +kernel
theorem d31_0 : decode B41 0 = .ok (.aload_n 0, 1) := by decide +kernel
theorem d31_1 : decode B41 1 = .ok (.invokespecial 1, 3) := by decide +kernel
theorem d31_4 : decode B41 4 = .ok (.aload_n 0, 1) := by decide +kernel
theorem d31_5 : decode B41 5 = .ok (.getstatic 39, 3) := by decide +kernel
theorem d31_8 : decode B41 8 = .ok (.putfield 9, 3) := by decide +kernel
theorem d31_11 : decode B41 11 = .ok (.return_, 1) := by decide +kernel
theorem pn_8 : plainName "java/util/ArrayList" = true := by first | (simp [plainName, overriddenIn]; done) | decide +kernel
theorem d32_0 : decode B43 0 = .ok (.aload_n 0, 1) := by decide +kernel
theorem d32_1 : decode B43 1 = .ok (.getfield 9, 3) := by decide +kernel
theorem d32_4 : decode B43 4 = .ok (.arraylength, 1) := by decide +kernel
theorem d32_5 : decode B43 5 = .ok (.istore_n 2, 1) := by decide +kernel
theorem d32_6 : decode B43 6 = .ok (.iload_n 2, 1) := by decide +kernel
theorem d32_7 : decode B43 7 = .ok (.ifCond .gt 13, 3) := by decide +kernel
theorem d32_10 : decode B43 10 = .ok (.aload_n 0, 1) := by decide +kernel
theorem d32_11 : decode B43 11 = .ok (.getfield 9, 3) := by decide +kernel
theorem d32_14 : decode B43 14 = .ok (.getstatic 39, 3) := by decide +kernel
theorem d32_17 : decode B43 17 = .ok (.if_acmp .eq 28, 3) := by decide +kernel
theorem d32_45 : decode B43 45 = .ok (.aload_n 0, 1) := by decide +kernel
theorem d32_46 : decode B43 46 = .ok (.bipush 10, 2) := by decide +kernel
theorem d32_48 : decode B43 48 = .ok (.iload_n 1, 1) := by decide +kernel
theorem d32_49 : decode B43 49 = .ok (.invokestatic 79, 3) := by decide +kernel
theorem d33_0 : decode B42 0 = .ok (.iload_n 0, 1) := by decide +kernel
theorem d33_1 : decode B42 1 = .ok (.iload_n 1, 1) := by decide +kernel
theorem d33_2 : decode B42 2 = .ok (.if_icmp .lt 7, 3) := by decide +kernel
theorem d33_5 : decode B42 5 = .ok (.iload_n 0, 1) := by decide +kernel
theorem d33_6 : decode B42 6 = .ok (.goto 4, 3) := by decide +kernel
theorem d33_10 : decode B42 10 = .ok (.ireturn, 1) := by decide +kernel
theorem d32_52 : decode B43 52 = .ok (.anewarray 7, 3) := by decide +kernel
theorem d32_55 : decode B43 55 = .ok (.dup_x1, 1) := by decide +kernel
theorem d32_56 : decode B43 56 = .ok (.putfield 9, 3) := by decide +kernel
theorem d32_59 : decode B43 59 = .ok (.areturn, 1) := by decide +kernel
theorem d34_0 : decode B44 0 = .ok (.aload_n 0, 1) := by decide +kernel
theorem d34_1 : decode B44 1 = .ok (.aload_n 0, 1) := by decide +kernel
theorem d34_2 : decode B44 2 = .ok (.getfield 48, 3) := by decide +kernel
theorem d34_5 : decode B44 5 = .ok (.iconst 1, 1) := by decide +kernel
theorem d34_6 : decode B44 6 = .ok (.iadd, 1) := by decide +kernel
theorem d34_7 : decode B44 7 = .ok (.invokevirtual 69, 3) := by decide +kernel
theorem pd_17 : parseMethodDescriptor "(I)[Ljava/lang/Object;" = some ⟨[.int], some (.array (.object "java/lang/Object"))⟩ := by decide +kernel
theorem d34_10 : decode B44 10 = .ok (.areturn, 1) := by decide +kernel
theorem d35_0 : decode B45 0 = .ok (.iload_n 3, 1) := by decide +kernel
theorem d35_1 : decode B45 1 = .ok (.aload_n 2, 1) := by decide +kernel
theorem d35_2 : decode B45 2 = .ok (.arraylength, 1) := by decide +kernel
theorem d35_3 : decode B45 3 = .ok (.if_icmp .ne 8, 3) := by decide +kernel
theorem d35_6 : decode B45 6 = .ok (.aload_n 0, 1) := by decide +kernel
theorem d35_7 : decode B45 7 = .ok (.invokevirtual 129, 3) := by decide +kernel
theorem pd_18 : parseMethodDescriptor "()[Ljava/lang/Object;" = some ⟨[], some (.array (.object "java/lang/Object"))⟩ := by decide +kernel
theorem d35_10 : decode B45 10 = .ok (.astore_n 2, 1) := by decide +kernel
theorem d35_11 : decode B45 11 = .ok (.aload_n 2, 1) := by decide +kernel
theorem d35_12 : decode B45 12 = .ok (.iload_n 3, 1) := by decide +kernel
theorem d35_13 : decode B45 13 = .ok (.aload_n 1, 1) := by decide +kernel
theorem d35_14 : decode B45 14 = .ok (.aastore, 1) := by decide +kernel
theorem d35_15 : decode B45 15 = .ok (.aload_n 0, 1) := by decide +kernel
theorem d35_16 : decode B45 16 = .ok (.iload_n 3, 1) := by decide +kernel
theorem d35_17 : decode B45 17 = .ok (.iconst 1, 1) := by decide +kernel
theorem d35_18 : decode B45 18 = .ok (.iadd, 1) := by decide +kernel
theorem d35_19 : decode B45 19 = .ok (.putfield 48, 3) := by decide +kernel
theorem d35_22 : decode B45 22 = .ok (.return_, 1) := by decide +kernel
theorem d36_0 : decode B46 0 = .ok (.aload_n 0, 1) := by decide +kernel
theorem d36_1 : decode B46 1 = .ok (.dup, 1) := by decide +kernel
theorem d36_2 : decode B46 2 = .ok (.getfield 63, 3) := by decide +kernel
theorem d36_5 : decode B46 5 = .ok (.iconst 1, 1) := by decide +kernel
theorem d36_6 : decode B46 6 = .ok (.iadd, 1) := by decide +kernel
theorem d36_7 : decode B46 7 = .ok (.putfield 63, 3) := by decide +kernel
theorem d36_10 : decode B46 10 = .ok (.aload_n 0, 1) := by decide +kernel
theorem d36_11 : decode B46 11 = .ok (.aload_n 1, 1) := by decide +kernel
theorem d36_12 : decode B46 12 = .ok (.aload_n 0, 1) := by decide +kernel
theorem d36_13 : decode B46 13 = .ok (.getfield 9, 3) := by decide +kernel
theorem d36_16 : decode B46 16 = .ok (.aload_n 0, 1) := by decide +kernel
theorem d36_17 : decode B46 17 = .ok (.getfield 48, 3) := by decide +kernel
theorem d36_20 : decode B46 20 = .ok (.invokevirtual 131, 3) := by decide +kernel
theorem pd_19 : parseMethodDescriptor "(Ljava/lang/Object;[Ljava/lang/Object;I)V" = some ⟨[(.object "java/lang/Object"), (.array (.object "java/lang/Object")), .int], none⟩ := by decide +kernel
theorem d36_23 : decode B46 23 = .ok (.iconst 1, 1) := by decide +kernel
theorem d36_24 : decode B46 24 = .ok (.ireturn, 1) := by decide +kernel
theorem d37_0 : decode B47 0 = .ok (.aload_n 0, 1) := by decide +kernel
theorem d37_1 : decode B47 1 = .ok (.getfield 48, 3) := by decide +kernel
theorem d37_4 : decode B47 4 = .ok (.ireturn, 1) := by decide +kernel
theorem d38_0 : decode B48 0 = .ok (.iload_n 0, 1) := by decide +kernel
theorem d38_1 : decode B48 1 = .ok (.iload_n 1, 1) := by decide +kernel
theorem d38_2 : decode B48 2 = .ok (.aconst_null, 1) := by decide +kernel
theorem d38_3 : decode B48 3 = .ok (.invokestatic 105, 3) := by decide +kernel
theorem d38_6 : decode B48 6 = .ok (.ireturn, 1) := by decide +kernel
theorem pn_9 : plainName "java/util/Objects" = true := by first | (simp [plainName, overriddenIn]; done) | decide +kernel
theorem d39_0 : decode B49 0 = .ok (.aload_n 0, 1) := by decide +kernel
theorem d39_1 : decode B49 1 = .ok (.getfield 9, 3) := by decide +kernel
theorem d39_4 : decode B49 4 = .ok (.iload_n 1, 1) := by decide +kernel
theorem d39_5 : decode B49 5 = .ok (.aaload, 1) := by decide +kernel
theorem d39_6 : decode B49 6 = .ok (.areturn, 1) := by decide +kernel
theorem d40_0 : decode B50 0 = .ok (.iload_n 1, 1) := by decide +kernel
theorem d40_1 : decode B50 1 = .ok (.aload_n 0, 1) := by decide +kernel
theorem d40_2 : decode B50 2 = .ok (.getfield 48, 3) := by decide +kernel
theorem d40_5 : decode B50 5 = .ok (.invokestatic 118, 3) := by decide +kernel
theorem d40_8 : decode B50 8 = .ok (.pop, 1) := by decide +kernel
theorem d40_9 : decode B50 9 = .ok (.aload_n 0, 1) := by decide +kernel
theorem d40_10 : decode B50 10 = .ok (.iload_n 1, 1) := by decide +kernel
theorem d40_11 : decode B50 11 = .ok (.invokevirtual 123, 3) := by decide +kernel
theorem pd_20 : parseMethodDescriptor "(I)Ljava/lang/Object;" = some ⟨[.int], some (.object "java/lang/Object")⟩ := by decide +kernel
theorem d40_14 : decode B50 14 = .ok (.areturn, 1) := by decide +kernel
theorem d41_0 : decode B51 0 = .ok (.aload_n 1, 1) := by decide +kernel
theorem d41_1 : decode B51 1 = .ok (.invokevirtual 46, 3) := by decide +kernel
theorem d41_4 : decode B51 4 = .ok (.ifCond .le 22, 3) := by decide +kernel
theorem d41_26 : decode B51 26 = .ok (.return_, 1) := by decide +kernel
theorem pn_10 : plainName "com/example/typicalc/typicalc/Tokens" = true := by first | (simp [plainName, overriddenIn]; done) | decide +kernel
theorem d41_7 : decode B51 7 = .ok (.aload_n 0, 1) := by decide +kernel
theorem d41_8 : decode B51 8 = .ok (.getfield 10, 3) := by decide +kernel
theorem d41_11 : decode B51 11 = .ok (.aload_n 1, 1) := by decide +kernel
theorem d41_12 : decode B51 12 = .ok (.invokevirtual 47, 3) := by decide +kernel
theorem pd_21 : parseMethodDescriptor "()Ljava/lang/String;" = some ⟨[], some (.object "java/lang/String")⟩ := by decide +kernel
theorem d41_15 : decode B51 15 = .ok (.invokeinterface 37 2, 5) := by decide +kernel
theorem pd_22 : parseMethodDescriptor "(Ljava/lang/Object;)Z" = some ⟨[(.object "java/lang/Object")], some .boolean⟩ := by decide +kernel
theorem d41_20 : decode B51 20 = .ok (.pop, 1) := by decide +kernel
theorem d41_21 : decode B51 21 = .ok (.aload_n 1, 1) := by decide +kernel
theorem d41_22 : decode B51 22 = .ok (.iconst 0, 1) := by decide +kernel
theorem d41_23 : decode B51 23 = .ok (.invokevirtual 51, 3) := by decide +kernel
theorem d42_25 : decode B52 25 = .ok (.iload_n 3, 1) := by decide +kernel
theorem d42_26 : decode B52 26 = .ok (.aload_n 1, 1) := by decide +kernel
theorem d42_27 : decode B52 27 = .ok (.invokevirtual 19, 3) := by decide +kernel
theorem d42_30 : decode B52 30 = .ok (.if_icmp .ge 88, 3) := by decide +kernel
theorem d42_33 : decode B52 33 = .ok (.aload_n 1, 1) := by decide +kernel
theorem d42_34 : decode B52 34 = .ok (.iload_n 3, 1) := by decide +kernel
theorem d42_35 : decode B52 35 = .ok (.invokevirtual 25, 3) := by decide +kernel
theorem pd_23 : parseMethodDescriptor "(I)C" = some ⟨[.int], some .char⟩ := by decide +kernel
theorem d42_38 : decode B52 38 = .ok (.istore 4, 2) := by decide +kernel
theorem d42_40 : decode B52 40 = .ok (.iload 4, 2) := by decide +kernel
theorem d42_42 : decode B52 42 = .ok (.bipush 32, 2) := by decide +kernel
theorem d42_44 : decode B52 44 = .ok (.if_icmp .eq 24, 3) := by decide +kernel
theorem d42_47 : decode B52 47 = .ok (.iload 4, 2) := by decide +kernel
theorem d42_49 : decode B52 49 = .ok (.bipush 9, 2) := by decide +kernel
theorem d42_51 : decode B52 51 = .ok (.if_icmp .eq 17, 3) := by decide +kernel
theorem d42_68 : decode B52 68 = .ok (.aload_n 0, 1) := by decide +kernel
theorem d42_69 : decode B52 69 = .ok (.aload_n 2, 1) := by decide +kernel
theorem d42_70 : decode B52 70 = .ok (.invokevirtual 29, 3) := by decide +kernel
theorem d42_73 : decode B52 73 = .ok (.iload 4, 2) := by decide +kernel
theorem d42_75 : decode B52 75 = .ok (.bipush 40, 2) := by decide +kernel
theorem d42_77 : decode B52 77 = .ok (.if_icmp .eq 10, 3) := by decide +kernel
theorem d42_80 : decode B52 80 = .ok (.iload 4, 2) := by decide +kernel
theorem d42_82 : decode B52 82 = .ok (.bipush 41, 2) := by decide +kernel
theorem d42_84 : decode B52 84 = .ok (.if_icmp .ne 28, 3) := by decide +kernel
theorem d42_112 : decode B52 112 = .ok (.iinc 3 1, 3) := by decide +kernel
theorem d42_115 : decode B52 115 = .ok (.goto (-90), 3) := by decide +kernel
theorem d42_118 : decode B52 118 = .ok (.aload_n 0, 1) := by decide +kernel
theorem d42_119 : decode B52 119 = .ok (.aload_n 2, 1) := by decide +kernel
theorem d42_120 : decode B52 120 = .ok (.invokevirtual 29, 3) := by decide +kernel
theorem d42_123 : decode B52 123 = .ok (.return_, 1) := by decide +kernel
theorem d42_54 : decode B52 54 = .ok (.iload 4, 2) := by decide +kernel
theorem d42_56 : decode B52 56 = .ok (.bipush 40, 2) := by decide +kernel
theorem d42_58 : decode B52 58 = .ok (.if_icmp .eq 10, 3) := by decide +kernel
theorem d42_61 : decode B52 61 = .ok (.iload 4, 2) := by decide +kernel
theorem d42_63 : decode B52 63 = .ok (.bipush 41, 2) := by decide +kernel
theorem d42_65 : decode B52 65 = .ok (.if_icmp .ne 40, 3) := by decide +kernel
theorem d42_87 : decode B52 87 = .ok (.aload_n 0, 1) := by decide +kernel
theorem d42_88 : decode B52 88 = .ok (.getfield 10, 3) := by decide +kernel
theorem d42_91 : decode B52 91 = .ok (.iload 4, 2) := by decide +kernel
theorem d42_93 : decode B52 93 = .ok (.invokestatic 33, 3) := by decide +kernel
theorem pd_24 : parseMethodDescriptor "(C)Ljava/lang/String;" = some ⟨[.char], some (.object "java/lang/String")⟩ := by decide +kernel
theorem d42_96 : decode B52 96 = .ok (.invokeinterface 37 2, 5) := by decide +kernel
theorem d42_101 : decode B52 101 = .ok (.pop, 1) := by decide +kernel
theorem d42_102 : decode B52 102 = .ok (.goto 10, 3) := by decide +kernel
theorem d42_105 : decode B52 105 = .ok (.aload_n 2, 1) := by decide +kernel
theorem d42_106 : decode B52 106 = .ok (.iload 4, 2) := by decide +kernel
theorem d42_108 : decode B52 108 = .ok (.invokevirtual 42, 3) := by decide +kernel
theorem pd_25 : parseMethodDescriptor "(C)Ljava/lang/StringBuilder;" = some ⟨[.char], some (.object "java/lang/StringBuilder")⟩ := by decide +kernel
theorem d42_111 : decode B52 111 = .ok (.pop, 1) := by decide +kernel
theorem d42_0 : decode B52 0 = .ok (.aload_n 0, 1) := by decide +kernel
theorem d42_1 : decode B52 1 = .ok (.invokespecial 1, 3) := by decide +kernel
theorem d42_4 : decode B52 4 = .ok (.aload_n 0, 1) := by decide +kernel
theorem d42_5 : decode B52 5 = .ok (.new 7, 3) := by decide +kernel
theorem d42_8 : decode B52 8 = .ok (.dup, 1) := by decide +kernel
theorem d42_9 : decode B52 9 = .ok (.invokespecial 9, 3) := by decide +kernel
theorem d42_12 : decode B52 12 = .ok (.putfield 10, 3) := by decide +kernel
theorem d42_15 : decode B52 15 = .ok (.new 16, 3) := by decide +kernel
theorem d42_18 : decode B52 18 = .ok (.dup, 1) := by decide +kernel
theorem d42_19 : decode B52 19 = .ok (.invokespecial 18, 3) := by decide +kernel
theorem d42_22 : decode B52 22 = .ok (.astore_n 2, 1) := by decide +kernel
theorem d42_23 : decode B52 23 = .ok (.iconst 0, 1) := by decide +kernel
theorem d42_24 : decode B52 24 = .ok (.istore_n 3, 1) := by decide +kernel
theorem d43_0 : decode B53 0 = .ok (.aload_n 0, 1) := by decide +kernel
theorem d43_1 : decode B53 1 = .ok (.getfield 55, 3) := by decide +kernel
theorem d43_4 : decode B53 4 = .ok (.aload_n 0, 1) := by decide +kernel
theorem d43_5 : decode B53 5 = .ok (.getfield 10, 3) := by decide +kernel
theorem d43_8 : decode B53 8 = .ok (.invokeinterface 59 1, 5) := by decide +kernel
theorem d43_13 : decode B53 13 = .ok (.if_icmp .ne 7, 3) := by decide +kernel
theorem d43_20 : decode B53 20 = .ok (.iconst 0, 1) := by decide +kernel
theorem d43_21 : decode B53 21 = .ok (.ireturn, 1) := by decide +kernel
theorem d43_16 : decode B53 16 = .ok (.iconst 1, 1) := by decide +kernel
theorem d43_17 : decode B53 17 = .ok (.goto 4, 3) := by decide +kernel
theorem d44_0 : decode B54 0 = .ok (.aload_n 0, 1) := by decide +kernel
theorem d44_1 : decode B54 1 = .ok (.invokevirtual 76, 3) := by decide +kernel
theorem d44_4 : decode B54 4 = .ok (.ifCond .eq 13, 3) := by decide +kernel
theorem d44_17 : decode B54 17 = .ok (.aload_n 0, 1) := by decide +kernel
theorem d44_18 : decode B54 18 = .ok (.getfield 10, 3) := by decide +kernel
theorem d44_21 : decode B54 21 = .ok (.aload_n 0, 1) := by decide +kernel
theorem d44_22 : decode B54 22 = .ok (.dup, 1) := by decide +kernel
theorem d44_23 : decode B54 23 = .ok (.getfield 55, 3) := by decide +kernel
theorem d44_26 : decode B54 26 = .ok (.dup_x1, 1) := by decide +kernel
theorem d44_27 : decode B54 27 = .ok (.iconst 1, 1) := by decide +kernel
theorem d44_28 : decode B54 28 = .ok (.iadd, 1) := by decide +kernel
theorem d44_29 : decode B54 29 = .ok (.putfield 55, 3) := by decide +kernel
theorem d44_32 : decode B54 32 = .ok (.invokeinterface 62 2, 5) := by decide +kernel
theorem d44_37 : decode B54 37 = .ok (.checkcast 20, 3) := by decide +kernel
theorem d44_40 : decode B54 40 = .ok (.areturn, 1) := by decide +kernel
theorem d45_0 : decode B55 0 = .ok (.aload_n 0, 1) := by decide +kernel
theorem d45_1 : decode B55 1 = .ok (.getfield 55, 3) := by decide +kernel
theorem d45_4 : decode B55 4 = .ok (.ireturn, 1) := by decide +kernel
theorem d46_0 : decode B56 0 = .ok (.aload_n 0, 1) := by decide +kernel
theorem d46_1 : decode B56 1 = .ok (.getfield 55, 3) := by decide +kernel
theorem d46_4 : decode B56 4 = .ok (.iload_n 1, 1) := by decide +kernel
theorem d46_5 : decode B56 5 = .ok (.iadd, 1) := by decide +kernel
theorem d46_6 : decode B56 6 = .ok (.istore_n 2, 1) := by decide +kernel
theorem d46_7 : decode B56 7 = .ok (.iload_n 2, 1) := by decide +kernel
theorem d46_8 : decode B56 8 = .ok (.aload_n 0, 1) := by decide +kernel
theorem d46_9 : decode B56 9 = .ok (.getfield 10, 3) := by decide +kernel
theorem d46_12 : decode B56 12 = .ok (.invokeinterface 59 1, 5) := by decide +kernel
theorem d46_17 : decode B56 17 = .ok (.if_icmp .ge 19, 3) := by decide +kernel
theorem d46_36 : decode B56 36 = .ok (.aconst_null, 1) := by decide +kernel
theorem d46_37 : decode B56 37 = .ok (.areturn, 1) := by decide +kernel
theorem d46_20 : decode B56 20 = .ok (.aload_n 0, 1) := by decide +kernel
theorem d46_21 : decode B56 21 = .ok (.getfield 10, 3) := by decide +kernel
theorem d46_24 : decode B56 24 = .ok (.iload_n 2, 1) := by decide +kernel
theorem d46_25 : decode B56 25 = .ok (.invokeinterface 62 2, 5) := by decide +kernel
theorem d46_30 : decode B56 30 = .ok (.checkcast 20, 3) := by decide +kernel
theorem d46_33 : decode B56 33 = .ok (.goto 4, 3) := by decide +kernel
theorem d47_0 : decode B57 0 = .ok (.aload_n 0, 1) := by decide +kernel
theorem d47_1 : decode B57 1 = .ok (.arraylength, 1) := by decide +kernel
theorem d47_2 : decode B57 2 = .ok (.aload_n 1, 1) := by decide +kernel
theorem d47_3 : decode B57 3 = .ok (.arraylength, 1) := by decide +kernel
theorem d47_4 : decode B57 4 = .ok (.if_icmp .ne 30, 3) := by decide +kernel
theorem d47_7 : decode B57 7 = .ok (.iconst 0, 1) := by decide +kernel
theorem d47_8 : decode B57 8 = .ok (.istore_n 2, 1) := by decide +kernel
theorem d47_9 : decode B57 9 = .ok (.iload_n 2, 1) := by decide +kernel
theorem d47_10 : decode B57 10 = .ok (.aload_n 0, 1) := by decide +kernel
theorem d47_11 : decode B57 11 = .ok (.arraylength, 1) := by decide +kernel
theorem d47_12 : decode B57 12 = .ok (.if_icmp .ge 20, 3) := by decide +kernel
theorem d47_15 : decode B57 15 = .ok (.aload_n 0, 1) := by decide +kernel
theorem d47_16 : decode B57 16 = .ok (.iload_n 2, 1) := by decide +kernel
theorem d47_17 : decode B57 17 = .ok (.baload, 1) := by decide +kernel
theorem d47_18 : decode B57 18 = .ok (.aload_n 1, 1) := by decide +kernel
theorem d47_19 : decode B57 19 = .ok (.iload_n 2, 1) := by decide +kernel
theorem d47_20 : decode B57 20 = .ok (.baload, 1) := by decide +kernel
theorem d47_21 : decode B57 21 = .ok (.if_icmp .eq 5, 3) := by decide +kernel
theorem d47_26 : decode B57 26 = .ok (.iinc 2 1, 3) := by decide +kernel
theorem d47_29 : decode B57 29 = .ok (.goto (-20), 3) := by decide +kernel
theorem d47_32 : decode B57 32 = .ok (.iconst 1, 1) := by decide +kernel
theorem d47_33 : decode B57 33 = .ok (.ireturn, 1) := by decide +kernel
theorem d48_0 : decode B58 0 = .ok (.aload_n 0, 1) := by decide +kernel
theorem d48_1 : decode B58 1 = .ok (.aload_n 1, 1) := by decide +kernel
theorem d48_2 : decode B58 2 = .ok (.if_acmp .ne 5, 3) := by decide +kernel
theorem d48_7 : decode B58 7 = .ok (.aload_n 1, 1) := by decide +kernel
theorem d48_8 : decode B58 8 = .ok (.instanceof 10, 3) := by decide +kernel
theorem d48_11 : decode B58 11 = .ok (.ifCond .eq 43, 3) := by decide +kernel
theorem d48_14 : decode B58 14 = .ok (.aload_n 1, 1) := by decide +kernel
theorem d48_15 : decode B58 15 = .ok (.checkcast 10, 3) := by decide +kernel
theorem d48_18 : decode B58 18 = .ok (.astore_n 2, 1) := by decide +kernel
theorem d48_19 : decode B58 19 = .ok (.getstatic 38, 3) := by decide +kernel
theorem d48_22 : decode B58 22 = .ok (.ifCond .eq 14, 3) := by decide +kernel
theorem d48_25 : decode B58 25 = .ok (.aload_n 0, 1) := by decide +kernel
theorem d48_26 : decode B58 26 = .ok (.getfield 15, 3) := by decide +kernel
theorem d48_29 : decode B58 29 = .ok (.aload_n 2, 1) := by decide +kernel
theorem d48_30 : decode B58 30 = .ok (.getfield 15, 3) := by decide +kernel
theorem d48_33 : decode B58 33 = .ok (.if_icmp .ne 21, 3) := by decide +kernel
theorem d48_36 : decode B58 36 = .ok (.aload_n 0, 1) := by decide +kernel
theorem d48_37 : decode B58 37 = .ok (.getfield 9, 3) := by decide +kernel
theorem d48_40 : decode B58 40 = .ok (.aload_n 2, 1) := by decide +kernel
theorem d48_41 : decode B58 41 = .ok (.getfield 9, 3) := by decide +kernel
theorem d48_44 : decode B58 44 = .ok (.invokestatic 541, 3) := by decide +kernel
theorem pd_26 : parseMethodDescriptor "([B[B)Z" = some ⟨[(.array .byte), (.array .byte)], some .boolean⟩ := by decide +kernel
theorem d48_47 : decode B58 47 = .ok (.ifCond .eq 7, 3) := by decide +kernel
theorem d48_50 : decode B58 50 = .ok (.iconst 1, 1) := by decide +kernel
theorem d48_51 : decode B58 51 = .ok (.goto 4, 3) := by decide +kernel
theorem d48_55 : decode B58 55 = .ok (.ireturn, 1) := by decide +kernel
theorem d49_0 : decode B59 0 = .ok (.iload_n 0, 1) := by decide +kernel
theorem d49_1 : decode B59 1 = .ok (.bipush 32, 2) := by decide +kernel
theorem d49_3 : decode B59 3 = .ok (.if_icmp .eq 9, 3) := by decide +kernel
theorem d49_12 : decode B59 12 = .ok (.iconst 1, 1) := by decide +kernel
theorem d49_13 : decode B59 13 = .ok (.goto 4, 3) := by decide +kernel
theorem d49_17 : decode B59 17 = .ok (.ireturn, 1) := by decide +kernel
theorem d49_6 : decode B59 6 = .ok (.iload_n 0, 1) := by decide +kernel
theorem d49_7 : decode B59 7 = .ok (.bipush 9, 2) := by decide +kernel
theorem d49_9 : decode B59 9 = .ok (.if_icmp .ne 7, 3) := by decide +kernel
theorem d49_16 : decode B59 16 = .ok (.iconst 0, 1) := by decide +kernel
theorem pn_11 : plainName "com/example/typicalc/typicalc/TokensPeekPinLaw" = true := by first | (simp [plainName, overriddenIn]; done) | decide +kernel
theorem pd_27 : parseMethodDescriptor "(I)Ljava/lang/String;" = some ⟨[.int], some (.object "java/lang/String")⟩ := by decide +kernel
theorem pd_28 : parseMethodDescriptor "([C)V" = some ⟨[(.array .char)], none⟩ := by decide +kernel
theorem pd_29 : parseMethodDescriptor "(Ljava/lang/String;)V" = some ⟨[(.object "java/lang/String")], none⟩ := by decide +kernel
theorem d19_5 : decode B28 5 = .ok (.iload_n 0, 1) := by decide +kernel
theorem d19_6 : decode B28 6 = .ok (.goto 4, 3) := by decide +kernel
theorem own_efck (m : MethodId) (i : Int32) (n : Int32) (v2 : Value) (hv2 : v2.isRef = true) : entryFrame m #[(.int i), (.int n), v2] 3 = mkF m 0 #[vI i, vI n, .val v2] [] := by
 rcases ref_cases hv2 with rfl | ⟨_, rfl⟩ <;>
 first | (simp [entryFrame, mkF, argsToLocals, Value.category]; done) | rfl
def Qck (Z : State) (i : Int32) (n : Int32) (v2 : Value) (h0 : Heap) (n0 : Nat) (v : Option Value) (h : Heap) (L : List Loc) : Prop := v = some (.int i) ∧ Fr n0 L ∧ h = h0
set_option maxRecDepth 65536 in
set_option maxHeartbeats 40000000 in
theorem rmck (l : Launch) (Z : State) (a0 : Array Value) (G : OwnG Z a0) (ws : List Jvm.Cond) (i : Int32) (n : Int32) (v2 : Value) (h0 : Heap) (n0 : Nat) (O0 : Old Z n0 h0) (P0 : ¬ i < (0 : Int32)) (P1 : i < n) (P2 : v2.isRef = true) :
  MetFree l own_m0 (head1 (Jvm.Cond.code own_m0 B10 3 (some .int) :: ws) (rR 0 0 0 0)) (fun a U => a = #[(.int i), (.int n), v2] ∧ Z.Warmed39 U.vm ∧ U.heap = h0) (fun _ _ _ _ _ => True) (fun _ U o U' => ∃ v L, o = .returned v ∧ Qck Z i n v2 h0 n0 v U'.heap L ∧ FrameEnd U o U' L (rR 0 0 0 0).cells (rR 0 0 0 0).slots) := by
 refine MetFree.of_bodySF (plainFor_of_name pn_0) hisR ?_
 intro p e s m args below meth cD s₁ Bd hml0 hP hK
 obtain ⟨rfl, hZ, hh⟩ := hP
 have hml : cD.maxLocals = 3 := hml0
 obtain ⟨hx, hby, (hown : s.vm.findClass "jdk/internal/util/Preconditions" = some m.cls), hlk, X0, e0⟩ := own_st Bd hh
 have Z0 := own_old_le O0
 have N0 := Fr.nil n0
 refine OwnEnd.start (g' := (mkF m 0 #[vI i, vI n, .val v2] [])) (own_efck m i n v2 P2) ?_
 refine oo (S' := s₁.setTop (mkF m 17 #[vI i, vI n, .val v2] [(.int i)])) (fun _ kK => XS.iloadN X0.here hx rfl (hb hby d0_0) rfl (XS.ifNo X0.here hx rfl (hb hby d0_1) rfl ((if0 _ _).trans (flt (P0)).1) (XS.iloadN X0.here hx rfl (hb hby d0_4) rfl (XS.iloadN X0.here hx rfl (hb hby d0_5) rfl (XS.icmpYes X0.here hx rfl (pc0 := 6) (pc' := 16) rfl (hb hby d0_6) rfl (tlt (P1)).1 (by decide) (by decide) (XS.iloadN X0.here hx rfl (hb hby d0_16) rfl kK)))))) ?_
 refine OwnEnd.ret X0 (v := (some (.int i))) (fun h => by rw [Bd.returns] at h; cases h) hlk (fun fs hr => retOut X0 hx Bd.returns rfl (Or.inl ⟨rfl, Or.inl rfl, _, rfl⟩) (hb hby d0_17) hr) (by decide) (by decide) (Q := Qck Z i n v2 h0 n0) e0 ?_
 exact ⟨rfl, N0, rfl⟩

theorem own_efsk (m : MethodId) (i : Int32) (n : Int32) : entryFrame m #[(.int i), (.int n)] 2 = mkF m 0 #[vI i, vI n] [] := by first | (simp [entryFrame, mkF, argsToLocals, Value.category]; done) | rfl
def Qsk (Z : State) (i : Int32) (n : Int32) (h0 : Heap) (n0 : Nat) (v : Option Value) (h : Heap) (L : List Loc) : Prop := v = none ∧ Fr n0 L ∧ h = h0
set_option maxRecDepth 65536 in
set_option maxHeartbeats 40000000 in
theorem rmsk (l : Launch) (Z : State) (a0 : Array Value) (G : OwnG Z a0) (ws : List Jvm.Cond) (i : Int32) (n : Int32) (h0 : Heap) (n0 : Nat) (O0 : Old Z n0 h0) (P0 : ¬ i < (0 : Int32)) (P1 : i < n) :
  MetFree l own_m1 (head1 (Jvm.Cond.code own_m1 B11 2 none :: ws) (rR 1 0 0 14)) (fun a U => a = #[(.int i), (.int n)] ∧ Z.Warmed39 U.vm ∧ U.heap = h0) (fun _ _ _ _ _ => True) (fun _ U o U' => ∃ v L, o = .returned v ∧ Qsk Z i n h0 n0 v U'.heap L ∧ FrameEnd U o U' L (rR 1 0 0 14).cells (rR 1 0 0 14).slots) := by
 refine MetFree.of_bodySF (plainFor_of_name pn_1) hisR ?_
 intro p e s m args below meth cD s₁ Bd hml0 hP hK
 obtain ⟨rfl, hZ, hh⟩ := hP
 have hml : cD.maxLocals = 2 := hml0
 obtain ⟨hx, hby, (hown : s.vm.findClass j1 = some m.cls), hlk, X0, e0⟩ := own_st Bd hh
 have Z0 := own_old_le O0
 have N0 := Fr.nil n0
 obtain ⟨vFM, SFM, PFM⟩ := own_fm G
 refine OwnEnd.start (g' := (mkF m 0 #[vI i, vI n] [])) (own_efsk m i n) ?_
 refine oo (S' := s₁.setTop (mkF m 2 #[vI i, vI n] [(.int n), (.int i)])) (fun _ kK => XS.iloadN X0.here hx rfl (hb hby d1_0) rfl (XS.iloadN X0.here hx rfl (hb hby d1_1) rfl kK)) ?_
 obtain ⟨T1, X1, e1, st1⟩ := getS2 X0 hx hZ hown (host := "") (Or.inl (w_ G 126 rfl)) Via.refl e0 (SFM.ext O0.2) (g := (mkF m 2 #[vI i, vI n] [(.int n), (.int i)])) rfl (hb hby d1_2)
 refine oo (S' := T1.setTop (mkF m 5 #[vI i, vI n] [vFM, (.int n), (.int i)])) st1 ?_
 obtain ⟨_, _, ⟨T2, L2, k2, n2⟩, -, X2, ⟨Lc2, hQ2, l2, y2, z2⟩, st2⟩ := Jvm.LawKit.callS X1 hx (y := own_m0) hown (mvT hZ (w_ G 128 rfl)) (mvT hZ (w_ G 129 rfl)) (mvT hZ (w_ G 127 rfl)) (mvT hZ (w_ G 130 rfl)) (by decide) (backOf (W := 0) (rmck l Z a0 G [] i n vFM h0 n0 O0 P0 P1 (PFM)) hZ (w_ G 130 rfl) (w_ G 127 rfl) (by decide) (by decide)) (g := (mkF m 5 #[vI i, vI n] [vFM, (.int n), (.int i)])) rfl (by rw [hml]; rfl) (argsL := [(.int i), (.int n), vFM]) (rest := []) (lenOf pd_0 rfl) rfl (own_z rfl) (hb hby d1_5) (fun _ _ => ⟨rfl, e1, (ol rfl), (ol rfl)⟩)
 dsimp only [Pt.U, Pt.locs, Pt.cells, Pt.slots] at X2 l2 y2 z2 st2 hQ2
 subst l2 y2 z2
 obtain ⟨rfl, N2q, eh2⟩ := hQ2
 have N2 := Fr.app N0 N2q
 refine oo (S' := T2.setTop (mkF m 8 #[vI i, vI n] [(.int i)])) st2 ?_
 refine oo (S' := T2.setTop (mkF m 9 #[vI i, vI n] [])) (fun _ kK => XS.pop X2.here hx rfl (hb hby d1_8) rfl rfl kK) ?_
 refine OwnEnd.ret X2 (v := none) (fun _ => rfl) hlk (fun fs hr => X2.returnOut hx Bd.returns (hb hby d1_9) hr) (by decide) (by decide) (Q := Qsk Z i n h0 n0) eh2 ?_
 exact ⟨rfl, N2, rfl⟩

theorem own_efil0 (m : MethodId) (x0 : Addr) : entryFrame m #[(.ref x0)] 1 = mkF m 0 #[vR x0] [] := by first | (simp [entryFrame, mkF, argsToLocals, Value.category]; done) | rfl
set_option maxRecDepth 65536 in
set_option maxHeartbeats 40000000 in
theorem rmil0 (l : Launch) (Z : State) (a0 : Array Value) (G : OwnG Z a0) (ws : List Jvm.Cond) (x0 : Addr) (h0 : Heap) (n0 : Nat) (O0 : Old Z n0 h0) (P0 : Fld Z h0 x0 j1 "coder" "B" (.int 0)) :
  MetFree l own_m2 (head1 (Jvm.Cond.code own_m2 B12 1 (some .boolean) :: ws) (rR 0 0 0 0)) (fun a U => a = #[(.ref x0)] ∧ Z.Warmed39 U.vm ∧ U.heap = h0) (fun _ _ _ _ _ => True) (fun _ U o U' => ∃ v L, o = .returned v ∧ (own_Qint (1 : Int32)) h0 n0 v U'.heap L ∧ FrameEnd U o U' L (rR 0 0 0 0).cells (rR 0 0 0 0).slots) := by
 refine MetFree.of_bodySF (plainFor_of_name pn_1) hisR ?_
 intro p e s m args below meth cD s₁ Bd hml0 hP hK
 obtain ⟨rfl, hZ, hh⟩ := hP
 have hml : cD.maxLocals = 1 := hml0
 obtain ⟨hx, hby, (hown : s.vm.findClass j1 = some m.cls), hlk, X0, e0⟩ := own_st Bd hh
 have lt0 := lN P0.lt
 have Z0 := own_old_le O0
 have N0 := Fr.nil n0
 obtain ⟨zCS, SCS, PCS⟩ := own_cs G
 refine OwnEnd.start (g' := (mkF m 0 #[vR x0] [])) (own_efil0 m x0) ?_
 obtain ⟨T1, X1, e1, st1⟩ := getS2 X0 hx hZ hown (host := "") (Or.inl (w_ G 11 rfl)) Via.refl e0 (SCS.ext O0.2) (g := (mkF m 0 #[vR x0] [])) rfl (hb hby d2_0)
 refine oo (S' := T1.setTop (mkF m 3 #[vR x0] [(.int zCS)])) st1 ?_
 refine oo (S' := T1.setTop (mkF m 7 #[vR x0] [(.ref x0)])) (fun _ kK => XS.ifNo X1.here hx rfl (hb hby d2_3) rfl ((if0 _ _).trans (feq (PCS)).1) (XS.aloadN X1.here hx rfl (hb hby d2_6) rfl rfl kK)) ?_
 obtain ⟨T2, X2, e2, st2⟩ := getF X1 hx hZ hown (host := "") (Or.inl (w_ G 31 rfl)) Via.refl e1 P0 (g := (mkF m 7 #[vR x0] [(.ref x0)])) rfl rfl (hb hby d2_7)
 refine oo (S' := T2.setTop (mkF m 10 #[vR x0] [(.int 0)])) st2 ?_
 refine oo (S' := T2.setTop (mkF m 18 #[vR x0] [(.int 1)])) (fun _ kK => XS.ifNo X2.here hx rfl (hb hby d2_10) rfl ((if0 _ _).trans (teq ((by decide : (0 : Int32) = (0 : Int32)))).2) (XS.iconst X2.here hx rfl (hb hby d2_13) (XS.goto X2.here hx rfl (pc0 := 14) (pc' := 18) rfl (hb hby d2_14) (by decide) (by decide) kK))) ?_
 refine OwnEnd.ret X2 (v := (some (.int (nar .boolean (1 : Int32))))) (fun h => by rw [Bd.returns] at h; cases h) hlk (fun fs hr => retN X2 hx (t := .boolean) Bd.returns (by simp) (hb hby d2_18) hr) (by decide) (by decide) (Q := (own_Qint (1 : Int32)) h0 n0) e2 ?_
 exact ⟨rfl, N0, rfl⟩

theorem own_efcdr0 (m : MethodId) (x0 : Addr) : entryFrame m #[(.ref x0)] 1 = mkF m 0 #[vR x0] [] := by first | (simp [entryFrame, mkF, argsToLocals, Value.category]; done) | rfl
set_option maxRecDepth 65536 in
set_option maxHeartbeats 40000000 in
theorem rmcdr0 (l : Launch) (Z : State) (a0 : Array Value) (G : OwnG Z a0) (ws : List Jvm.Cond) (x0 : Addr) (h0 : Heap) (n0 : Nat) (O0 : Old Z n0 h0) (P0 : Fld Z h0 x0 j1 "coder" "B" (.int 0)) :
  MetFree l own_m3 (head1 (Jvm.Cond.code own_m3 B13 1 (some .byte) :: ws) (rR 0 0 0 0)) (fun a U => a = #[(.ref x0)] ∧ Z.Warmed39 U.vm ∧ U.heap = h0) (fun _ _ _ _ _ => True) (fun _ U o U' => ∃ v L, o = .returned v ∧ (own_Qint (0 : Int32)) h0 n0 v U'.heap L ∧ FrameEnd U o U' L (rR 0 0 0 0).cells (rR 0 0 0 0).slots) := by
 refine MetFree.of_bodySF (plainFor_of_name pn_1) hisR ?_
 intro p e s m args below meth cD s₁ Bd hml0 hP hK
 obtain ⟨rfl, hZ, hh⟩ := hP
 have hml : cD.maxLocals = 1 := hml0
 obtain ⟨hx, hby, (hown : s.vm.findClass j1 = some m.cls), hlk, X0, e0⟩ := own_st Bd hh
 have lt0 := lN P0.lt
 have Z0 := own_old_le O0
 have N0 := Fr.nil n0
 obtain ⟨zCS, SCS, PCS⟩ := own_cs G
 refine OwnEnd.start (g' := (mkF m 0 #[vR x0] [])) (own_efcdr0 m x0) ?_
 obtain ⟨T1, X1, e1, st1⟩ := getS2 X0 hx hZ hown (host := "") (Or.inl (w_ G 11 rfl)) Via.refl e0 (SCS.ext O0.2) (g := (mkF m 0 #[vR x0] [])) rfl (hb hby d3_0)
 refine oo (S' := T1.setTop (mkF m 3 #[vR x0] [(.int zCS)])) st1 ?_
 refine oo (S' := T1.setTop (mkF m 7 #[vR x0] [(.ref x0)])) (fun _ kK => XS.ifNo X1.here hx rfl (hb hby d3_3) rfl ((if0 _ _).trans (feq (PCS)).1) (XS.aloadN X1.here hx rfl (hb hby d3_6) rfl rfl kK)) ?_
 obtain ⟨T2, X2, e2, st2⟩ := getF X1 hx hZ hown (host := "") (Or.inl (w_ G 31 rfl)) Via.refl e1 P0 (g := (mkF m 7 #[vR x0] [(.ref x0)])) rfl rfl (hb hby d3_7)
 refine oo (S' := T2.setTop (mkF m 10 #[vR x0] [(.int 0)])) st2 ?_
 refine oo (S' := T2.setTop (mkF m 14 #[vR x0] [(.int 0)])) (fun _ kK => XS.goto X2.here hx rfl (pc0 := 10) (pc' := 14) rfl (hb hby d3_10) (by decide) (by decide) kK) ?_
 refine OwnEnd.ret X2 (v := (some (.int (nar .byte (0 : Int32))))) (fun h => by rw [Bd.returns] at h; cases h) hlk (fun fs hr => retN X2 hx (t := .byte) Bd.returns (by simp) (hb hby d3_14) hr) (by decide) (by decide) (Q := (own_Qint (0 : Int32)) h0 n0) e2 ?_
 exact ⟨rfl, N0, rfl⟩

theorem own_efln0 (m : MethodId) (x0 : Addr) : entryFrame m #[(.ref x0)] 1 = mkF m 0 #[vR x0] [] := by first | (simp [entryFrame, mkF, argsToLocals, Value.category]; done) | rfl
set_option maxRecDepth 65536 in
set_option maxHeartbeats 40000000 in
theorem rmln0 (l : Launch) (Z : State) (a0 : Array Value) (G : OwnG Z a0) (ws : List Jvm.Cond) (x0 : Addr) (t : Addr) (kb : ClassId) (N : Int32) (vs : List Value) (dv : Value) (h0 : Heap) (n0 : Nat) (O0 : Old Z n0 h0) (P0 : Exa Z h0 x0 j1) (P1 : Fld Z h0 x0 j1 "value" "[B" (.ref t)) (P2 : Fld Z h0 x0 j1 "coder" "B" (.int 0)) (P3 : Arv Z h0 t kb .byte N vs dv) :
  MetFree l own_m4 (head1 (Jvm.Cond.code own_m4 B14 1 (some .int) :: ws) (rR 1 0 0 13)) (fun a U => a = #[(.ref x0)] ∧ Z.Warmed39 U.vm ∧ U.heap = h0) (fun _ _ _ _ _ => True) (fun _ U o U' => ∃ v L, o = .returned v ∧ (own_Qint N) h0 n0 v U'.heap L ∧ FrameEnd U o U' L (rR 1 0 0 13).cells (rR 1 0 0 13).slots) := by
 refine MetFree.of_bodySF (plainFor_of_name pn_1) hisR ?_
 intro p e s m args below meth cD s₁ Bd hml0 hP hK
 obtain ⟨rfl, hZ, hh⟩ := hP
 have hml : cD.maxLocals = 1 := hml0
 obtain ⟨hx, hby, (hown : s.vm.findClass j1 = some m.cls), hlk, X0, e0⟩ := own_st Bd hh
 have lt0 := lN P0.lt
 have lt1 := lN P1.lt
 have lt2 := lN P2.lt
 have lt3 := lN P3.lt
 have Z0 := own_old_le O0
 have N0 := Fr.nil n0
 refine OwnEnd.start (g' := (mkF m 0 #[vR x0] [])) (own_efln0 m x0) ?_
 refine oo (S' := s₁.setTop (mkF m 1 #[vR x0] [(.ref x0)])) (fun _ kK => XS.aloadN X0.here hx rfl (hb hby d4_0) rfl rfl kK) ?_
 obtain ⟨T1, X1, e1, st1⟩ := getF X0 hx hZ hown (host := "") (Or.inl (w_ G 29 rfl)) Via.refl e0 P1 (g := (mkF m 1 #[vR x0] [(.ref x0)])) rfl rfl (hb hby d4_1)
 refine oo (S' := T1.setTop (mkF m 4 #[vR x0] [(.ref t)])) st1 ?_
 obtain ⟨cl2, Ar2, q2, S2, N2', H2, G2⟩ := id P3
 refine oo (S' := T1.setTop (mkF m 5 #[vR x0] [(.int N)])) (fun _ kK => X1.arraylength hx (by rw [e1]; exact Ar2.1) (State.isArrayOf_alike hZ.alike Ar2.2.1) (g := (mkF m 4 #[vR x0] [(.ref t)])) rfl rfl (hb hby d4_4) _ (by rw [len_of S2 N2']; exact kK)) ?_
 refine oo (S' := T1.setTop (mkF m 6 #[vR x0] [(.ref x0), (.int N)])) (fun _ kK => XS.aloadN X1.here hx rfl (hb hby d4_5) rfl rfl kK) ?_
 obtain ⟨cq3, kq3, q3a, q3b, q3c⟩ := isOf hZ e1 P0
 obtain ⟨_, _, ⟨T3, L3, k3, n3⟩, -, X3, ⟨Lc3, hQ3, l3, y3, z3⟩, st3⟩ := X1.virtualBack hx (y := own_m3) (z := own_m3) hown (mvT hZ (w_ G 105 rfl)) (mvT hZ (w_ G 106 rfl)) (notFace_of_selects (args := #[]) (mvT hZ (w_ G 108 rfl))) (mvT hZ (w_ G 108 rfl)) (mvT hZ (w_ G 107 rfl)) (by decide) (backOf (W := 1) (rmcdr0 l Z a0 G [] x0 h0 n0 O0 P2) hZ (w_ G 109 rfl) (w_ G 9 rfl) (by decide) (by decide)) q3a q3c (g := (mkF m 6 #[vR x0] [(.ref x0), (.int N)])) rfl (by rw [hml]; rfl) (Steps.refl _) (argsL := []) (rest := [(.int N)]) (lenOf pd_1 rfl) rfl (own_z rfl) (hb hby d4_6) (fun _ _ => ⟨rfl, e1, (ol rfl), (ol rfl)⟩)
 dsimp only [Pt.U, Pt.locs, Pt.cells, Pt.slots] at X3 l3 y3 z3 st3 hQ3
 subst l3 y3 z3
 obtain ⟨rfl, N3q, eh3⟩ := hQ3
 have N3 := Fr.app N0 N3q
 refine ot (S' := T3.setTop (mkF m 9 #[vR x0] [(.int 0), (.int N)])) st3 ?_
 refine oo (S' := T3.setTop (mkF m 10 #[vR x0] [(.int (N >>> ((0 : Int32) &&& 31)))])) (fun _ kK => XS.ishr X3.here hx rfl (hb hby d4_9) rfl kK) ?_
 refine OwnEnd.ret X3 (v := (some (.int (N >>> ((0 : Int32) &&& 31))))) (fun h => by rw [Bd.returns] at h; cases h) hlk (fun fs hr => retOut X3 hx Bd.returns rfl (Or.inl ⟨rfl, Or.inl rfl, _, rfl⟩) (hb hby d4_10) hr) (by decide) (by decide) (Q := (own_Qint N) h0 n0) eh3 ?_
 exact ⟨(congrArg (fun z => some (Value.int z)) (own_shr0 N)), N3, rfl⟩

theorem own_efcl (m : MethodId) (t : Addr) (i : Int32) : entryFrame m #[(.ref t), (.int i)] 2 = mkF m 0 #[vR t, vI i] [] := by first | (simp [entryFrame, mkF, argsToLocals, Value.category]; done) | rfl
set_option maxRecDepth 65536 in
set_option maxHeartbeats 40000000 in
theorem rmcl (l : Launch) (Z : State) (a0 : Array Value) (G : OwnG Z a0) (ws : List Jvm.Cond) (t : Addr) (kb : ClassId) (N : Int32) (vs : List Value) (dv : Value) (i : Int32) (c : Int32) (h0 : Heap) (n0 : Nat) (O0 : Old Z n0 h0) (P0 : Arv Z h0 t kb .byte N vs dv) (P1 : ¬ i < (0 : Int32)) (P2 : i < N) (P3 : vs.getD i.toNatClampNeg dv = (.int (StrChars.lo8 c))) (P4 : ¬ c < (0 : Int32) ∧ ¬ (255 : Int32) < c) :
  MetFree l own_m5 (head1 (Jvm.Cond.code own_m5 B15 2 (some .char) :: ws) (rR 2 0 0 27)) (fun a U => a = #[(.ref t), (.int i)] ∧ Z.Warmed39 U.vm ∧ U.heap = h0) (fun _ _ _ _ _ => True) (fun _ U o U' => ∃ v L, o = .returned v ∧ (own_Qint c) h0 n0 v U'.heap L ∧ FrameEnd U o U' L (rR 2 0 0 27).cells (rR 2 0 0 27).slots) := by
 refine MetFree.of_bodySF (plainFor_of_name pn_2) hisR ?_
 intro p e s m args below meth cD s₁ Bd hml0 hP hK
 obtain ⟨rfl, hZ, hh⟩ := hP
 have hml : cD.maxLocals = 2 := hml0
 obtain ⟨hx, hby, (hown : s.vm.findClass "java/lang/StringLatin1" = some m.cls), hlk, X0, e0⟩ := own_st Bd hh
 have lt0 := lN P0.lt
 have Z0 := own_old_le O0
 have N0 := Fr.nil n0
 refine OwnEnd.start (g' := (mkF m 0 #[vR t, vI i] [])) (own_efcl m t i) ?_
 refine oo (S' := s₁.setTop (mkF m 2 #[vR t, vI i] [(.ref t), (.int i)])) (fun _ kK => XS.iloadN X0.here hx rfl (hb hby d5_0) rfl (XS.aloadN X0.here hx rfl (hb hby d5_1) rfl rfl kK)) ?_
 obtain ⟨cl1, Ar1, q1, S1, N1', H1, G1⟩ := id P0
 refine oo (S' := s₁.setTop (mkF m 3 #[vR t, vI i] [(.int N), (.int i)])) (fun _ kK => X0.arraylength hx (by rw [e0]; exact Ar1.1) (State.isArrayOf_alike hZ.alike Ar1.2.1) (g := (mkF m 2 #[vR t, vI i] [(.ref t), (.int i)])) rfl rfl (hb hby d5_2) _ (by rw [len_of S1 N1']; exact kK)) ?_
 obtain ⟨_, _, ⟨T2, L2, k2, n2⟩, -, X2, ⟨Lc2, hQ2, l2, y2, z2⟩, st2⟩ := Jvm.LawKit.callS X0 hx (y := own_m1) hown (mvT hZ (w_ G 123 rfl)) (mvT hZ (w_ G 124 rfl)) (mvT hZ (w_ G 9 rfl)) (mvT hZ (w_ G 125 rfl)) (by decide) (backOf (W := 0) (rmsk l Z a0 G [] i N h0 n0 O0 P1 P2) hZ (w_ G 125 rfl) (w_ G 9 rfl) (by decide) (by decide)) (g := (mkF m 3 #[vR t, vI i] [(.int N), (.int i)])) rfl (by rw [hml]; rfl) (argsL := [(.int i), (.int N)]) (rest := []) (lenOf pd_2 rfl) rfl (own_z rfl) (hb hby d5_3) (fun _ _ => ⟨rfl, e0, (ol rfl), (ol rfl)⟩)
 dsimp only [Pt.U, Pt.locs, Pt.cells, Pt.slots] at X2 l2 y2 z2 st2 hQ2
 subst l2 y2 z2
 obtain ⟨rfl, N2q, eh2⟩ := hQ2
 have N2 := Fr.app N0 N2q
 refine oo (S' := T2.setTop (mkF m 6 #[vR t, vI i] [])) st2 ?_
 refine oo (S' := T2.setTop (mkF m 8 #[vR t, vI i] [(.int i), (.ref t)])) (fun _ kK => XS.aloadN X2.here hx rfl (hb hby d5_6) rfl rfl (XS.iloadN X2.here hx rfl (hb hby d5_7) rfl kK)) ?_
 obtain ⟨cl3, Ar3, q3, S3, N3', H3, G3⟩ := id P0
 have hin4 : ¬ (i < 0 ∨ cl3.slots.size ≤ (i).toNatClampNeg) := inb_of S3 ⟨P1, P2⟩
 refine oo (S' := T2.setTop (mkF m 9 #[vR t, vI i] [(.int (StrChars.lo8 c))])) (fun _ kK => X2.baloadBytes hx (j := i) (v := (.int (StrChars.lo8 c))) (by rw [eh2]; exact Ar3.1) (State.isArrayOf_alike hZ.alike Ar3.2.1) Ar3.2.2 hin4 (Has.at H3 hin4 (P3)) (g := (mkF m 8 #[vR t, vI i] [(.int i), (.ref t)])) rfl rfl (hb hby d5_8) _ kK) ?_
 refine oo (S' := T2.setTop (mkF m 14 #[vR t, vI i] [(.int (nar .char ((StrChars.lo8 c) &&& (255 : Int32))))])) (fun _ kK => XS.sipush X2.here hx rfl (hb hby d5_9) (XS.iand X2.here hx rfl (hb hby d5_12) rfl (XS.i2c X2.here hx rfl (hb hby d5_13) rfl kK))) ?_
 refine OwnEnd.ret X2 (v := (some (.int (nar .char (nar .char ((StrChars.lo8 c) &&& (255 : Int32))))))) (fun h => by rw [Bd.returns] at h; cases h) hlk (fun fs hr => retN X2 hx (t := .char) Bd.returns (by simp) (hb hby d5_14) hr) (by decide) (by decide) (Q := (own_Qint c) h0 n0) eh2 ?_
 exact ⟨(congrArg (fun z => some (Value.int z)) (own_lat P4.1 P4.2)), N2, rfl⟩

theorem own_efcA0 (m : MethodId) (x0 : Addr) (i : Int32) : entryFrame m #[(.ref x0), (.int i)] 2 = mkF m 0 #[vR x0, vI i] [] := by first | (simp [entryFrame, mkF, argsToLocals, Value.category]; done) | rfl
set_option maxRecDepth 65536 in
set_option maxHeartbeats 40000000 in
theorem rmcA0 (l : Launch) (Z : State) (a0 : Array Value) (G : OwnG Z a0) (ws : List Jvm.Cond) (x0 : Addr) (t : Addr) (kb : ClassId) (N : Int32) (vs : List Value) (dv : Value) (i : Int32) (c : Int32) (h0 : Heap) (n0 : Nat) (O0 : Old Z n0 h0) (P0 : Exa Z h0 x0 j1) (P1 : Fld Z h0 x0 j1 "value" "[B" (.ref t)) (P2 : Fld Z h0 x0 j1 "coder" "B" (.int 0)) (P3 : Arv Z h0 t kb .byte N vs dv) (P4 : ¬ i < (0 : Int32)) (P5 : i < N) (P6 : vs.getD i.toNatClampNeg dv = (.int (StrChars.lo8 c))) (P7 : ¬ c < (0 : Int32) ∧ ¬ (255 : Int32) < c) :
  MetFree l own_m6 (head1 (Jvm.Cond.code own_m6 B16 2 (some .char) :: ws) (rR 3 0 0 40)) (fun a U => a = #[(.ref x0), (.int i)] ∧ Z.Warmed39 U.vm ∧ U.heap = h0) (fun _ _ _ _ _ => True) (fun _ U o U' => ∃ v L, o = .returned v ∧ (own_Qint c) h0 n0 v U'.heap L ∧ FrameEnd U o U' L (rR 3 0 0 40).cells (rR 3 0 0 40).slots) := by
 refine MetFree.of_bodySF (plainFor_of_name pn_1) hisR ?_
 intro p e s m args below meth cD s₁ Bd hml0 hP hK
 obtain ⟨rfl, hZ, hh⟩ := hP
 have hml : cD.maxLocals = 2 := hml0
 obtain ⟨hx, hby, (hown : s.vm.findClass j1 = some m.cls), hlk, X0, e0⟩ := own_st Bd hh
 have lt0 := lN P0.lt
 have lt1 := lN P1.lt
 have lt2 := lN P2.lt
 have lt3 := lN P3.lt
 have Z0 := own_old_le O0
 have N0 := Fr.nil n0
 refine OwnEnd.start (g' := (mkF m 0 #[vR x0, vI i] [])) (own_efcA0 m x0 i) ?_
 refine oo (S' := s₁.setTop (mkF m 1 #[vR x0, vI i] [(.ref x0)])) (fun _ kK => XS.aloadN X0.here hx rfl (hb hby d6_0) rfl rfl kK) ?_
 obtain ⟨cq1, kq1, q1a, q1b, q1c⟩ := isOf hZ e0 P0
 obtain ⟨_, _, ⟨T1, L1, k1, n1⟩, -, X1, ⟨Lc1, hQ1, l1, y1, z1⟩, st1⟩ := X0.virtualBack hx (y := own_m2) (z := own_m2) hown (mvT hZ (w_ G 115 rfl)) (mvT hZ (w_ G 116 rfl)) (notFace_of_selects (args := #[]) (mvT hZ (w_ G 118 rfl))) (mvT hZ (w_ G 118 rfl)) (mvT hZ (w_ G 117 rfl)) (by decide) (backOf (W := 0) (rmil0 l Z a0 G [] x0 h0 n0 O0 P2) hZ (w_ G 119 rfl) (w_ G 9 rfl) (by decide) (by decide)) q1a q1c (g := (mkF m 1 #[vR x0, vI i] [(.ref x0)])) rfl (by rw [hml]; rfl) (Steps.refl _) (argsL := []) (rest := []) (lenOf pd_3 rfl) rfl (own_z rfl) (hb hby d6_1) (fun _ _ => ⟨rfl, e0, (ol rfl), (ol rfl)⟩)
 dsimp only [Pt.U, Pt.locs, Pt.cells, Pt.slots] at X1 l1 y1 z1 st1 hQ1
 subst l1 y1 z1
 obtain ⟨rfl, N1q, eh1⟩ := hQ1
 have N1 := Fr.app N0 N1q
 refine ot (S' := T1.setTop (mkF m 4 #[vR x0, vI i] [(.int 1)])) st1 ?_
 refine oo (S' := T1.setTop (mkF m 8 #[vR x0, vI i] [(.ref x0)])) (fun _ kK => XS.ifNo X1.here hx rfl (hb hby d6_4) rfl ((if0 _ _).trans (feq ((by decide : ¬ ((1 : Int32) = (0 : Int32))))).1) (XS.aloadN X1.here hx rfl (hb hby d6_7) rfl rfl kK)) ?_
 obtain ⟨T2, X2, e2, st2⟩ := getF X1 hx hZ hown (host := "") (Or.inl (w_ G 29 rfl)) Via.refl eh1 P1 (g := (mkF m 8 #[vR x0, vI i] [(.ref x0)])) rfl rfl (hb hby d6_8)
 refine oo (S' := T2.setTop (mkF m 11 #[vR x0, vI i] [(.ref t)])) st2 ?_
 refine oo (S' := T2.setTop (mkF m 12 #[vR x0, vI i] [(.int i), (.ref t)])) (fun _ kK => XS.iloadN X2.here hx rfl (hb hby d6_11) rfl kK) ?_
 obtain ⟨_, _, ⟨T3, L3, k3, n3⟩, -, X3, ⟨Lc3, hQ3, l3, y3, z3⟩, st3⟩ := Jvm.LawKit.callS X2 hx (y := own_m5) hown (mvT hZ (w_ G 120 rfl)) (mvT hZ (w_ G 121 rfl)) (mvT hZ (w_ G 14 rfl)) (mvT hZ (w_ G 122 rfl)) (by decide) (backOf (W := 0) (rmcl l Z a0 G [] t kb N vs dv i c h0 n0 O0 P3 P4 P5 P6 P7) hZ (w_ G 122 rfl) (w_ G 14 rfl) (by decide) (by decide)) (g := (mkF m 12 #[vR x0, vI i] [(.int i), (.ref t)])) rfl (by rw [hml]; rfl) (argsL := [(.ref t), (.int i)]) (rest := []) (lenOf pd_4 rfl) rfl (own_z rfl) (hb hby d6_12) (fun _ _ => ⟨rfl, e2, (ol rfl), (ol rfl)⟩)
 dsimp only [Pt.U, Pt.locs, Pt.cells, Pt.slots] at X3 l3 y3 z3 st3 hQ3
 subst l3 y3 z3
 obtain ⟨rfl, N3q, eh3⟩ := hQ3
 have N3 := Fr.app N1 N3q
 refine oo (S' := T3.setTop (mkF m 15 #[vR x0, vI i] [(.int c)])) st3 ?_
 refine OwnEnd.ret X3 (v := (some (.int (nar .char c)))) (fun h => by rw [Bd.returns] at h; cases h) hlk (fun fs hr => retN X3 hx (t := .char) Bd.returns (by simp) (hb hby d6_15) hr) (by decide) (by decide) (Q := (own_Qint c) h0 n0) eh3 ?_
 exact ⟨(congrArg (fun z => some (Value.int z)) (own_narc P7.1 (own_255 P7.2))), N3, rfl⟩

theorem own_efcec (m : MethodId) (c : Int32) : entryFrame m #[(.int c)] 1 = mkF m 0 #[vI c] [] := by first | (simp [entryFrame, mkF, argsToLocals, Value.category]; done) | rfl
set_option maxRecDepth 65536 in
set_option maxHeartbeats 40000000 in
theorem rmcec (l : Launch) (Z : State) (a0 : Array Value) (G : OwnG Z a0) (ws : List Jvm.Cond) (c : Int32) (h0 : Heap) (n0 : Nat) (O0 : Old Z n0 h0) (P0 : ¬ (255 : Int32) < c) :
  MetFree l own_m7 (head1 (Jvm.Cond.code own_m7 B17 1 (some .boolean) :: ws) (rR 0 0 0 0)) (fun a U => a = #[(.int c)] ∧ Z.Warmed39 U.vm ∧ U.heap = h0) (fun _ _ _ _ _ => True) (fun _ U o U' => ∃ v L, o = .returned v ∧ (own_Qint (1 : Int32)) h0 n0 v U'.heap L ∧ FrameEnd U o U' L (rR 0 0 0 0).cells (rR 0 0 0 0).slots) := by
 refine MetFree.of_bodySF (plainFor_of_name pn_2) hisR ?_
 intro p e s m args below meth cD s₁ Bd hml0 hP hK
 obtain ⟨rfl, hZ, hh⟩ := hP
 have hml : cD.maxLocals = 1 := hml0
 obtain ⟨hx, hby, (hown : s.vm.findClass "java/lang/StringLatin1" = some m.cls), hlk, X0, e0⟩ := own_st Bd hh
 have Z0 := own_old_le O0
 have N0 := Fr.nil n0
 refine OwnEnd.start (g' := (mkF m 0 #[vI c] [])) (own_efcec m c) ?_
 refine oo (S' := s₁.setTop (mkF m 12 #[vI c] [(.int 1)])) (fun _ kK => XS.iloadN X0.here hx rfl (hb hby d7_0) rfl (XS.sipush X0.here hx rfl (hb hby d7_1) (XS.icmpNo X0.here hx rfl (hb hby d7_4) rfl (flt (P0)).2.2.1 (XS.iconst X0.here hx rfl (hb hby d7_7) (XS.goto X0.here hx rfl (pc0 := 8) (pc' := 12) rfl (hb hby d7_8) (by decide) (by decide) kK))))) ?_
 refine OwnEnd.ret X0 (v := (some (.int (nar .boolean (1 : Int32))))) (fun h => by rw [Bd.returns] at h; cases h) hlk (fun fs hr => retN X0 hx (t := .boolean) Bd.returns (by simp) (hb hby d7_12) hr) (by decide) (by decide) (Q := (own_Qint (1 : Int32)) h0 n0) e0 ?_
 exact ⟨rfl, N0, rfl⟩

theorem own_efasl (m : MethodId) (sb : Addr) : entryFrame m #[(.ref sb)] 1 = mkF m 0 #[vR sb] [] := by first | (simp [entryFrame, mkF, argsToLocals, Value.category]; done) | rfl
set_option maxRecDepth 65536 in
set_option maxHeartbeats 40000000 in
theorem rmasl (l : Launch) (Z : State) (a0 : Array Value) (G : OwnG Z a0) (ws : List Jvm.Cond) (sb : Addr) (h0 : Heap) (n0 : Nat) (O0 : Old Z n0 h0) (P0 : Fld Z h0 sb j0 "coder" "B" (.int 0)) :
  MetFree l own_m8 (head1 (Jvm.Cond.code own_m8 B18 1 (some .boolean) :: ws) (rR 0 0 0 0)) (fun a U => a = #[(.ref sb)] ∧ Z.Warmed39 U.vm ∧ U.heap = h0) (fun _ _ _ _ _ => True) (fun _ U o U' => ∃ v L, o = .returned v ∧ (own_Qint (1 : Int32)) h0 n0 v U'.heap L ∧ FrameEnd U o U' L (rR 0 0 0 0).cells (rR 0 0 0 0).slots) := by
 refine MetFree.of_bodySF (plainFor_of_name pn_3) hisR ?_
 intro p e s m args below meth cD s₁ Bd hml0 hP hK
 obtain ⟨rfl, hZ, hh⟩ := hP
 have hml : cD.maxLocals = 1 := hml0
 obtain ⟨hx, hby, (hown : s.vm.findClass j0 = some m.cls), hlk, X0, e0⟩ := own_st Bd hh
 have lt0 := lN P0.lt
 have Z0 := own_old_le O0
 have N0 := Fr.nil n0
 obtain ⟨zCS, SCS, PCS⟩ := own_cs G
 refine OwnEnd.start (g' := (mkF m 0 #[vR sb] [])) (own_efasl m sb) ?_
 obtain ⟨T1, X1, e1, st1⟩ := getS2 X0 hx hZ hown (host := "") (Or.inl (w_ G 95 rfl)) Via.refl e0 (SCS.ext O0.2) (g := (mkF m 0 #[vR sb] [])) rfl (hb hby d8_0)
 refine oo (S' := T1.setTop (mkF m 3 #[vR sb] [(.int zCS)])) st1 ?_
 refine oo (S' := T1.setTop (mkF m 7 #[vR sb] [(.ref sb)])) (fun _ kK => XS.ifNo X1.here hx rfl (hb hby d8_3) rfl ((if0 _ _).trans (feq (PCS)).1) (XS.aloadN X1.here hx rfl (hb hby d8_6) rfl rfl kK)) ?_
 obtain ⟨T2, X2, e2, st2⟩ := getF X1 hx hZ hown (host := "") (Or.inl (w_ G 98 rfl)) Via.refl e1 P0 (g := (mkF m 7 #[vR sb] [(.ref sb)])) rfl rfl (hb hby d8_7)
 refine oo (S' := T2.setTop (mkF m 10 #[vR sb] [(.int 0)])) st2 ?_
 refine oo (S' := T2.setTop (mkF m 18 #[vR sb] [(.int 1)])) (fun _ kK => XS.ifNo X2.here hx rfl (hb hby d8_10) rfl ((if0 _ _).trans (teq ((by decide : (0 : Int32) = (0 : Int32)))).2) (XS.iconst X2.here hx rfl (hb hby d8_13) (XS.goto X2.here hx rfl (pc0 := 14) (pc' := 18) rfl (hb hby d8_14) (by decide) (by decide) kK))) ?_
 refine OwnEnd.ret X2 (v := (some (.int (nar .boolean (1 : Int32))))) (fun h => by rw [Bd.returns] at h; cases h) hlk (fun fs hr => retN X2 hx (t := .boolean) Bd.returns (by simp) (hb hby d8_18) hr) (by decide) (by decide) (Q := (own_Qint (1 : Int32)) h0 n0) e2 ?_
 exact ⟨rfl, N0, rfl⟩

theorem own_efasi (m : MethodId) (sb : Addr) : entryFrame m #[(.ref sb), (.int 16)] 2 = mkF m 0 #[vR sb, vI 16] [] := by first | (simp [entryFrame, mkF, argsToLocals, Value.category]; done) | rfl
def Qasi (Z : State) (sb : Addr) (v0 : Value) (c9 : Value) (ml : Value) (h0 : Heap) (n0 : Nat) (v : Option Value) (h : Heap) (L : List Loc) : Prop := ∃ (vb : Addr) (kv : ClassId), v = none ∧ Fr n0 L ∧ Keep h0 h [sb] ∧ (Exa Z h sb j5) ∧ (Fld Z h sb j0 "value" "[B" (.ref vb)) ∧ (Fld Z h sb j0 "coder" "B" (.int 0)) ∧ (Fld Z h sb j0 "count" "I" (.int 0)) ∧ (Fld Z h sb j0 "maybeLatin1" "Z" ml) ∧ (Arv Z h vb kv .byte (16 : Int32) [(.int 0), (.int 0), (.int 0), (.int 0), (.int 0), (.int 0), (.int 0), (.int 0), (.int 0), (.int 0), (.int 0), (.int 0), (.int 0), (.int 0), (.int 0), (.int 0)] (.int 0)) ∧ (Array.size h0 ≤ vb)
set_option maxRecDepth 65536 in
set_option maxHeartbeats 40000000 in
theorem rmasi (l : Launch) (Z : State) (a0 : Array Value) (G : OwnG Z a0) (ws : List Jvm.Cond) (sb : Addr) (v0 : Value) (c9 : Value) (ml : Value) (h0 : Heap) (n0 : Nat) (O0 : Old Z n0 h0) (P0 : Exa Z h0 sb j5) (P1 : Fld Z h0 sb j0 "value" "[B" v0) (P2 : Fld Z h0 sb j0 "coder" "B" c9) (P3 : Fld Z h0 sb j0 "count" "I" (.int 0)) (P4 : Fld Z h0 sb j0 "maybeLatin1" "Z" ml) (P5 : n0 ≤ sb) :
  MetFree l own_m9 (head1 (Jvm.Cond.code own_m9 B19 2 none :: ws) (rR 1 1 16 12)) (fun a U => a = #[(.ref sb), (.int 16)] ∧ Z.Warmed39 U.vm ∧ U.heap = h0) (fun _ _ _ _ _ => True) (fun _ U o U' => ∃ v L, o = .returned v ∧ Qasi Z sb v0 c9 ml h0 n0 v U'.heap L ∧ FrameEnd U o U' L (rR 1 1 16 12).cells (rR 1 1 16 12).slots) := by
 refine MetFree.of_bodySF (plainFor_of_name pn_3) hisR ?_
 intro p e s m args below meth cD s₁ Bd hml0 hP hK
 obtain ⟨rfl, hZ, hh⟩ := hP
 have hml : cD.maxLocals = 2 := hml0
 obtain ⟨hx, hby, (hown : s.vm.findClass j0 = some m.cls), hlk, X0, e0⟩ := own_st Bd hh
 have lt0 := lN P0.lt
 have lt1 := lN P1.lt
 have lt2 := lN P2.lt
 have lt3 := lN P3.lt
 have lt4 := lN P4.lt
 have K0 : Keep h0 h0 [sb] := Keep.refl h0 _
 have Z0 := own_old_le O0
 have N0 := Fr.nil n0
 obtain ⟨zCS, SCS, PCS⟩ := own_cs G
 refine OwnEnd.start (g' := (mkF m 0 #[vR sb, vI 16] [])) (own_efasi m sb) ?_
 refine oo (S' := s₁.setTop (mkF m 1 #[vR sb, vI 16] [(.ref sb)])) (fun _ kK => XS.aloadN X0.here hx rfl (hb hby d9_0) rfl rfl kK) ?_
 obtain ⟨T1, X1, e1, st1⟩ := initO X0 hx hZ hown (w_ G 94 rfl) (w_ G 27 rfl) (w_ G 28 rfl) e0 (g := (mkF m 1 #[vR sb, vI 16] [(.ref sb)])) rfl (by rw [hml]; rfl) rfl (hb hby d9_1) (by decide) (W := 0) (own_z rfl) (by decide)
 refine oo (S' := T1.setTop (mkF m 4 #[vR sb, vI 16] [])) st1 ?_
 obtain ⟨T2, X2, e2, st2⟩ := getS2 X1 hx hZ hown (host := "") (Or.inl (w_ G 95 rfl)) Via.refl e1 (SCS.ext O0.2) (g := (mkF m 4 #[vR sb, vI 16] [])) rfl (hb hby d9_4)
 refine oo (S' := T2.setTop (mkF m 7 #[vR sb, vI 16] [(.int zCS)])) st2 ?_
 refine oo (S' := T2.setTop (mkF m 12 #[vR sb, vI 16] [(.int 16), (.ref sb)])) (fun _ kK => XS.ifNo X2.here hx rfl (hb hby d9_7) rfl ((if0 _ _).trans (feq (PCS)).1) (XS.aloadN X2.here hx rfl (hb hby d9_10) rfl rfl (XS.iloadN X2.here hx rfl (hb hby d9_11) rfl kK))) ?_
 obtain ⟨T3, h3, k3, X3, e3, E3, A3, st3⟩ := newP X2 hx hZ (w_ G 21 rfl) e2 (g := (mkF m 12 #[vR sb, vI 16] [(.int 16), (.ref sb)])) rfl (hb hby d9_12) rfl (by decide) (cap := 16) (by decide) (by decide) (by decide) (by decide)
 obtain ⟨b3, g3⟩ : ∃ z, z = Array.size h0 := ⟨_, rfl⟩
 rw [← g3] at A3 st3
 have lt_b3 := lN A3.lt
 have sz4 := E3.1
 have K4 := K0.ext E3
 have V3 : Arv Z h3 b3 k3 .byte (16 : Int32) [(.int 0), (.int 0), (.int 0), (.int 0), (.int 0), (.int 0), (.int 0), (.int 0), (.int 0), (.int 0), (.int 0), (.int 0), (.int 0), (.int 0), (.int 0), (.int 0)] (.int 0) := (Arv.new A3 (by decide)).pad (pad_rep [] (.int 0) 16)
 refine oo (S' := T3.setTop (mkF m 14 #[vR sb, vI 16] [(.ref b3), (.ref sb)])) st3 ?_
 have f6 := (P1.ext E3)
 have f7 := (P0.ext E3)
 obtain ⟨T5, h5, X5, e5, W5, st5⟩ := putF X3 hx hZ hown (host := "") (Or.inl (w_ G 96 rfl)) Via.refl e3 f6 f7 (Or.inl (w_ G 97 rfl)) (w_ G 83 rfl) (ty := (.array .byte)) (by decide) rfl rfl (g := (mkF m 14 #[vR sb, vI 16] [(.ref b3), (.ref sb)])) rfl rfl (hb hby d9_14)
 have Fw5 := f6.same W5
 have N5 := Fr.snoc X5 N0 (by omega)
 have sz8 := own_wr_le W5
 have K8 := K4.wr W5 (Or.inl (by simp))
 refine oo (S' := T5.setTop (mkF m 17 #[vR sb, vI 16] [])) st5 ?_
 refine oo (S' := T5.setTop (mkF m 19 #[vR sb, vI 16] [(.int 0), (.ref sb)])) (fun _ kK => XS.aloadN X5.here hx rfl (hb hby d9_17) rfl rfl (XS.iconst X5.here hx rfl (hb hby d9_18) kK)) ?_
 have f10 := ((P2.ext E3).other W5 (Or.inr (slot_ne (Or.inl (w_ G 99 rfl)) (Or.inl (w_ G 97 rfl)) (by decide) (t := .byte) (t' := (.array .byte)) (by decide) (by decide))))
 have f11 := (f7.wr W5)
 obtain ⟨T9, h9, X9, e9, W9, st9⟩ := putFN X5 hx hZ hown (w_ G 98 rfl) Via.refl e5 f10 f11 (Or.inl (w_ G 99 rfl)) (w_ G 83 rfl) (ty := .byte) (v' := (.int 0)) (by decide) rfl rfl (g := (mkF m 19 #[vR sb, vI 16] [(.int 0), (.ref sb)])) rfl rfl (hb hby d9_19)
 have Fw9 := f10.same W9
 have N9 := Fr.snoc X9 N5 (by omega)
 have sz12 := own_wr_le W9
 have K12 := K8.wr W9 (Or.inl (by simp))
 refine oo (S' := T9.setTop (mkF m 22 #[vR sb, vI 16] [])) st9 ?_
 refine oo (S' := T9.setTop (mkF m 38 #[vR sb, vI 16] [])) (fun _ kK => XS.goto X9.here hx rfl (pc0 := 22) (pc' := 38) rfl (hb hby d9_22) (by decide) (by decide) kK) ?_
 have f13 := (f11.wr W9)
 have f14 := (Fw5.other W9 (Or.inr (slot_ne (Or.inl (w_ G 97 rfl)) (Or.inl (w_ G 99 rfl)) (by decide) (t := (.array .byte)) (t' := .byte) (by decide) (by decide))))
 have f15 := (((P3.ext E3).other W5 (Or.inr (slot_ne (Or.inl (w_ G 142 rfl)) (Or.inl (w_ G 97 rfl)) (by decide) (t := .int) (t' := (.array .byte)) (by decide) (by decide)))).other W9 (Or.inr (slot_ne (Or.inl (w_ G 142 rfl)) (Or.inl (w_ G 99 rfl)) (by decide) (t := .int) (t' := .byte) (by decide) (by decide))))
 have f16 := (((P4.ext E3).other W5 (Or.inr (slot_ne (Or.inl (w_ G 249 rfl)) (Or.inl (w_ G 97 rfl)) (by decide) (t := .boolean) (t' := (.array .byte)) (by decide) (by decide)))).other W9 (Or.inr (slot_ne (Or.inl (w_ G 249 rfl)) (Or.inl (w_ G 99 rfl)) (by decide) (t := .boolean) (t' := .byte) (by decide) (by decide))))
 have f17 := ((V3.other W5 (on (by omega))).other W9 (on (by omega)))
 refine OwnEnd.ret X9 (v := none) (fun _ => rfl) hlk (fun fs hr => X9.returnOut hx Bd.returns (hb hby d9_38) hr) (by decide) (by decide) (Q := Qasi Z sb v0 c9 ml h0 n0) e9 ?_
 exact ⟨b3, k3, rfl, N9, K12, f13, f14, Fw9, f15, f16, f17, (by omega)⟩

theorem own_efsbi (m : MethodId) (sb : Addr) : entryFrame m #[(.ref sb)] 1 = mkF m 0 #[vR sb] [] := by first | (simp [entryFrame, mkF, argsToLocals, Value.category]; done) | rfl
def Qsbi (Z : State) (sb : Addr) (v0 : Value) (c9 : Value) (ml : Value) (h0 : Heap) (n0 : Nat) (v : Option Value) (h : Heap) (L : List Loc) : Prop := ∃ (vb : Addr) (kv : ClassId), v = none ∧ Fr n0 L ∧ Keep h0 h [sb] ∧ (Exa Z h sb j5) ∧ (Fld Z h sb j0 "value" "[B" (.ref vb)) ∧ (Fld Z h sb j0 "coder" "B" (.int 0)) ∧ (Fld Z h sb j0 "count" "I" (.int 0)) ∧ (Fld Z h sb j0 "maybeLatin1" "Z" ml) ∧ (Arv Z h vb kv .byte (16 : Int32) [(.int 0), (.int 0), (.int 0), (.int 0), (.int 0), (.int 0), (.int 0), (.int 0), (.int 0), (.int 0), (.int 0), (.int 0), (.int 0), (.int 0), (.int 0), (.int 0)] (.int 0)) ∧ (Array.size h0 ≤ vb)
set_option maxRecDepth 65536 in
set_option maxHeartbeats 40000000 in
theorem rmsbi (l : Launch) (Z : State) (a0 : Array Value) (G : OwnG Z a0) (ws : List Jvm.Cond) (sb : Addr) (v0 : Value) (c9 : Value) (ml : Value) (h0 : Heap) (n0 : Nat) (O0 : Old Z n0 h0) (P0 : Exa Z h0 sb j5) (P1 : Fld Z h0 sb j0 "value" "[B" v0) (P2 : Fld Z h0 sb j0 "coder" "B" c9) (P3 : Fld Z h0 sb j0 "count" "I" (.int 0)) (P4 : Fld Z h0 sb j0 "maybeLatin1" "Z" ml) (P5 : n0 ≤ sb) :
  MetFree l own_m10 (head1 (Jvm.Cond.code own_m10 B20 1 none :: ws) (rR 2 1 16 25)) (fun a U => a = #[(.ref sb)] ∧ Z.Warmed39 U.vm ∧ U.heap = h0) (fun _ _ _ _ _ => True) (fun _ U o U' => ∃ v L, o = .returned v ∧ Qsbi Z sb v0 c9 ml h0 n0 v U'.heap L ∧ FrameEnd U o U' L (rR 2 1 16 25).cells (rR 2 1 16 25).slots) := by
 refine MetFree.of_bodySF (plainFor_of_name pn_4) hisR ?_
 intro p e s m args below meth cD s₁ Bd hml0 hP hK
 obtain ⟨rfl, hZ, hh⟩ := hP
 have hml : cD.maxLocals = 1 := hml0
 obtain ⟨hx, hby, (hown : s.vm.findClass j5 = some m.cls), hlk, X0, e0⟩ := own_st Bd hh
 have lt0 := lN P0.lt
 have lt1 := lN P1.lt
 have lt2 := lN P2.lt
 have lt3 := lN P3.lt
 have lt4 := lN P4.lt
 have K0 : Keep h0 h0 [sb] := Keep.refl h0 _
 have Z0 := own_old_le O0
 have N0 := Fr.nil n0
 obtain ⟨zCS, SCS, PCS⟩ := own_cs G
 refine OwnEnd.start (g' := (mkF m 0 #[vR sb] [])) (own_efsbi m sb) ?_
 refine oo (S' := s₁.setTop (mkF m 3 #[vR sb] [(.int 16), (.ref sb)])) (fun _ kK => XS.aloadN X0.here hx rfl (hb hby d10_0) rfl rfl (XS.bipush X0.here hx rfl (hb hby d10_1) kK)) ?_
 obtain ⟨_, _, ⟨T1, L1, k1, n1⟩, -, X1, ⟨Lc1, hQ1, l1, y1, z1⟩, st1⟩ := Jvm.Stand.specialBack X0 hx (y := own_m9) rfl hown (mvT hZ (w_ G 88 rfl)) (mvT hZ (w_ G 89 rfl)) (mvT hZ (w_ G 93 rfl)) (by decide) (backOf (W := 0) (rmasi l Z a0 G [] sb v0 c9 ml h0 n0 O0 P0 P1 P2 P3 P4 (by omega)) hZ (w_ G 93 rfl) (w_ G 92 rfl) (by decide) (by decide)) (g := (mkF m 3 #[vR sb] [(.int 16), (.ref sb)])) rfl (by rw [hml]; rfl) (Steps.refl _) (a := sb) (argsL := [(.int 16)]) (rest := []) (lenOf pd_5 rfl) rfl (own_z rfl) (hb hby d10_3) (fun _ _ => ⟨rfl, e0, (ol rfl), (ol rfl)⟩)
 dsimp only [Pt.U, Pt.locs, Pt.cells, Pt.slots] at X1 l1 y1 z1 st1 hQ1
 subst l1 y1 z1
 obtain ⟨vb_1, kv_1, rfl, N1q, Kq1, r1_0, r1_1, r1_2, r1_3, r1_4, r1_5, r1_6⟩ := hQ1
 have N1 := Fr.app N0 N1q
 have sz2 := Kq1.1
 have K2 := K0.trans Kq1 (own_all1 (Or.inl (by simp)))
 have ltr1_0 := lN r1_0.lt
 have ltr1_1 := lN r1_1.lt
 have ltr1_2 := lN r1_2.lt
 have ltr1_3 := lN r1_3.lt
 have ltr1_4 := lN r1_4.lt
 have ltr1_5 := lN r1_5.lt
 refine ot (S' := T1.setTop (mkF m 6 #[vR sb] [])) st1 ?_
 refine OwnEnd.ret X1 (v := none) (fun _ => rfl) hlk (fun fs hr => X1.returnOut hx Bd.returns (hb hby d10_6) hr) (by decide) (by decide) (Q := Qsbi Z sb v0 c9 ml h0 n0) rfl ?_
 exact ⟨vb_1, kv_1, rfl, N1, K2, r1_0, r1_1, r1_2, r1_3, r1_4, r1_5, (by omega)⟩

theorem own_efec0 (m : MethodId) (sb : Addr) : entryFrame m #[(.ref sb), (.int 0)] 3 = mkF m 0 #[vR sb, vI 0, .unset] [] := by first | (simp [entryFrame, mkF, argsToLocals, Value.category]; done) | rfl
def Qec0 (Z : State) (sb : Addr) (vb : Addr) (kv : ClassId) (g : Value) (h0 : Heap) (n0 : Nat) (v : Option Value) (h : Heap) (L : List Loc) : Prop := v = none ∧ Fr n0 L ∧ h = h0
set_option maxRecDepth 65536 in
set_option maxHeartbeats 40000000 in
theorem rmec0 (l : Launch) (Z : State) (a0 : Array Value) (G : OwnG Z a0) (ws : List Jvm.Cond) (sb : Addr) (vb : Addr) (kv : ClassId) (g : Value) (h0 : Heap) (n0 : Nat) (O0 : Old Z n0 h0) (P0 : Fld Z h0 sb j0 "value" "[B" (.ref vb)) (P1 : Fld Z h0 sb j0 "coder" "B" (.int 0)) (P2 : Arv Z h0 vb kv .byte (16 : Int32) [g, (.int 0), (.int 0), (.int 0), (.int 0), (.int 0), (.int 0), (.int 0), (.int 0), (.int 0), (.int 0), (.int 0), (.int 0), (.int 0), (.int 0), (.int 0)] (.int 0)) :
  MetFree l own_m11 (head1 (Jvm.Cond.code own_m11 B21 3 none :: ws) (rR 0 0 0 0)) (fun a U => a = #[(.ref sb), (.int 0)] ∧ Z.Warmed39 U.vm ∧ U.heap = h0) (fun _ _ _ _ _ => True) (fun _ U o U' => ∃ v L, o = .returned v ∧ Qec0 Z sb vb kv g h0 n0 v U'.heap L ∧ FrameEnd U o U' L (rR 0 0 0 0).cells (rR 0 0 0 0).slots) := by
 refine MetFree.of_bodySF (plainFor_of_name pn_3) hisR ?_
 intro p e s m args below meth cD s₁ Bd hml0 hP hK
 obtain ⟨rfl, hZ, hh⟩ := hP
 have hml : cD.maxLocals = 3 := hml0
 obtain ⟨hx, hby, (hown : s.vm.findClass j0 = some m.cls), hlk, X0, e0⟩ := own_st Bd hh
 have lt0 := lN P0.lt
 have lt1 := lN P1.lt
 have lt2 := lN P2.lt
 have Z0 := own_old_le O0
 have N0 := Fr.nil n0
 refine OwnEnd.start (g' := (mkF m 0 #[vR sb, vI 0, .unset] [])) (own_efec0 m sb) ?_
 refine oo (S' := s₁.setTop (mkF m 1 #[vR sb, vI 0, .unset] [(.ref sb)])) (fun _ kK => XS.aloadN X0.here hx rfl (hb hby d11_0) rfl rfl kK) ?_
 obtain ⟨T1, X1, e1, st1⟩ := getF X0 hx hZ hown (host := "") (Or.inl (w_ G 96 rfl)) Via.refl e0 P0 (g := (mkF m 1 #[vR sb, vI 0, .unset] [(.ref sb)])) rfl rfl (hb hby d11_1)
 refine oo (S' := T1.setTop (mkF m 4 #[vR sb, vI 0, .unset] [(.ref vb)])) st1 ?_
 obtain ⟨cl2, Ar2, q2, S2, N2', H2, G2⟩ := id P2
 refine oo (S' := T1.setTop (mkF m 5 #[vR sb, vI 0, .unset] [(.int 16)])) (fun _ kK => X1.arraylength hx (by rw [e1]; exact Ar2.1) (State.isArrayOf_alike hZ.alike Ar2.2.1) (g := (mkF m 4 #[vR sb, vI 0, .unset] [(.ref vb)])) rfl rfl (hb hby d11_4) _ (by rw [len_of S2 N2']; exact kK)) ?_
 refine oo (S' := T1.setTop (mkF m 6 #[vR sb, vI 0, .unset] [(.ref sb), (.int 16)])) (fun _ kK => XS.aloadN X1.here hx rfl (hb hby d11_5) rfl rfl kK) ?_
 obtain ⟨T3, X3, e3, st3⟩ := getF X1 hx hZ hown (host := "") (Or.inl (w_ G 98 rfl)) Via.refl e1 P1 (g := (mkF m 6 #[vR sb, vI 0, .unset] [(.ref sb), (.int 16)])) rfl rfl (hb hby d11_6)
 refine oo (S' := T3.setTop (mkF m 9 #[vR sb, vI 0, .unset] [(.int 0), (.int 16)])) st3 ?_
 let lv4 : Array Slot := #[vR sb, vI 0, vI 16]
 refine oo (S' := T3.setTop (mkF m 38 lv4 [])) (fun _ kK => XS.ishr X3.here hx rfl (hb hby d11_9) rfl (XS.istoreN X3.here hx rfl (hb hby d11_10) rfl (l' := lv4) rfl (XS.iloadN X3.here hx rfl (hb hby d11_11) rfl (XS.iloadN X3.here hx rfl (hb hby d11_12) rfl (XS.isub X3.here hx rfl (hb hby d11_13) rfl (XS.ifYes X3.here hx rfl (pc0 := 14) (pc' := 38) rfl (hb hby d11_14) rfl ((if0 _ _).trans (flt ((by decide : ¬ ((0 : Int32) < (-16 : Int32))))).2.2.2) (by decide) (by decide) kK)))))) ?_
 refine OwnEnd.ret X3 (v := none) (fun _ => rfl) hlk (fun fs hr => X3.returnOut hx Bd.returns (hb hby d11_38) hr) (by decide) (by decide) (Q := Qec0 Z sb vb kv g h0 n0) e3 ?_
 exact ⟨rfl, N0, rfl⟩

theorem own_efec1 (m : MethodId) (sb : Addr) : entryFrame m #[(.ref sb), (.int 1)] 3 = mkF m 0 #[vR sb, vI 1, .unset] [] := by first | (simp [entryFrame, mkF, argsToLocals, Value.category]; done) | rfl
def Qec1 (Z : State) (sb : Addr) (vb : Addr) (kv : ClassId) (g : Value) (h0 : Heap) (n0 : Nat) (v : Option Value) (h : Heap) (L : List Loc) : Prop := v = none ∧ Fr n0 L ∧ h = h0
set_option maxRecDepth 65536 in
set_option maxHeartbeats 40000000 in
theorem rmec1 (l : Launch) (Z : State) (a0 : Array Value) (G : OwnG Z a0) (ws : List Jvm.Cond) (sb : Addr) (vb : Addr) (kv : ClassId) (g : Value) (h0 : Heap) (n0 : Nat) (O0 : Old Z n0 h0) (P0 : Fld Z h0 sb j0 "value" "[B" (.ref vb)) (P1 : Fld Z h0 sb j0 "coder" "B" (.int 0)) (P2 : Arv Z h0 vb kv .byte (16 : Int32) [g, (.int 0), (.int 0), (.int 0), (.int 0), (.int 0), (.int 0), (.int 0), (.int 0), (.int 0), (.int 0), (.int 0), (.int 0), (.int 0), (.int 0), (.int 0)] (.int 0)) :
  MetFree l own_m11 (head1 (Jvm.Cond.code own_m11 B21 3 none :: ws) (rR 0 0 0 0)) (fun a U => a = #[(.ref sb), (.int 1)] ∧ Z.Warmed39 U.vm ∧ U.heap = h0) (fun _ _ _ _ _ => True) (fun _ U o U' => ∃ v L, o = .returned v ∧ Qec1 Z sb vb kv g h0 n0 v U'.heap L ∧ FrameEnd U o U' L (rR 0 0 0 0).cells (rR 0 0 0 0).slots) := by
 refine MetFree.of_bodySF (plainFor_of_name pn_3) hisR ?_
 intro p e s m args below meth cD s₁ Bd hml0 hP hK
 obtain ⟨rfl, hZ, hh⟩ := hP
 have hml : cD.maxLocals = 3 := hml0
 obtain ⟨hx, hby, (hown : s.vm.findClass j0 = some m.cls), hlk, X0, e0⟩ := own_st Bd hh
 have lt0 := lN P0.lt
 have lt1 := lN P1.lt
 have lt2 := lN P2.lt
 have Z0 := own_old_le O0
 have N0 := Fr.nil n0
 refine OwnEnd.start (g' := (mkF m 0 #[vR sb, vI 1, .unset] [])) (own_efec1 m sb) ?_
 refine oo (S' := s₁.setTop (mkF m 1 #[vR sb, vI 1, .unset] [(.ref sb)])) (fun _ kK => XS.aloadN X0.here hx rfl (hb hby d11_0) rfl rfl kK) ?_
 obtain ⟨T1, X1, e1, st1⟩ := getF X0 hx hZ hown (host := "") (Or.inl (w_ G 96 rfl)) Via.refl e0 P0 (g := (mkF m 1 #[vR sb, vI 1, .unset] [(.ref sb)])) rfl rfl (hb hby d11_1)
 refine oo (S' := T1.setTop (mkF m 4 #[vR sb, vI 1, .unset] [(.ref vb)])) st1 ?_
 obtain ⟨cl2, Ar2, q2, S2, N2', H2, G2⟩ := id P2
 refine oo (S' := T1.setTop (mkF m 5 #[vR sb, vI 1, .unset] [(.int 16)])) (fun _ kK => X1.arraylength hx (by rw [e1]; exact Ar2.1) (State.isArrayOf_alike hZ.alike Ar2.2.1) (g := (mkF m 4 #[vR sb, vI 1, .unset] [(.ref vb)])) rfl rfl (hb hby d11_4) _ (by rw [len_of S2 N2']; exact kK)) ?_
 refine oo (S' := T1.setTop (mkF m 6 #[vR sb, vI 1, .unset] [(.ref sb), (.int 16)])) (fun _ kK => XS.aloadN X1.here hx rfl (hb hby d11_5) rfl rfl kK) ?_
 obtain ⟨T3, X3, e3, st3⟩ := getF X1 hx hZ hown (host := "") (Or.inl (w_ G 98 rfl)) Via.refl e1 P1 (g := (mkF m 6 #[vR sb, vI 1, .unset] [(.ref sb), (.int 16)])) rfl rfl (hb hby d11_6)
 refine oo (S' := T3.setTop (mkF m 9 #[vR sb, vI 1, .unset] [(.int 0), (.int 16)])) st3 ?_
 let lv4 : Array Slot := #[vR sb, vI 1, vI 16]
 refine oo (S' := T3.setTop (mkF m 38 lv4 [])) (fun _ kK => XS.ishr X3.here hx rfl (hb hby d11_9) rfl (XS.istoreN X3.here hx rfl (hb hby d11_10) rfl (l' := lv4) rfl (XS.iloadN X3.here hx rfl (hb hby d11_11) rfl (XS.iloadN X3.here hx rfl (hb hby d11_12) rfl (XS.isub X3.here hx rfl (hb hby d11_13) rfl (XS.ifYes X3.here hx rfl (pc0 := 14) (pc' := 38) rfl (hb hby d11_14) rfl ((if0 _ _).trans (flt ((by decide : ¬ ((0 : Int32) < (-15 : Int32))))).2.2.2) (by decide) (by decide) kK)))))) ?_
 refine OwnEnd.ret X3 (v := none) (fun _ => rfl) hlk (fun fs hr => X3.returnOut hx Bd.returns (hb hby d11_38) hr) (by decide) (by decide) (Q := Qec1 Z sb vb kv g h0 n0) e3 ?_
 exact ⟨rfl, N0, rfl⟩

theorem own_efapc (m : MethodId) (sb : Addr) (c : Int32) : entryFrame m #[(.ref sb), (.int c)] 2 = mkF m 0 #[vR sb, vI c] [] := by first | (simp [entryFrame, mkF, argsToLocals, Value.category]; done) | rfl
def Qapc (Z : State) (sb : Addr) (vb : Addr) (kv : ClassId) (g : Value) (ml : Value) (c : Int32) (h0 : Heap) (n0 : Nat) (v : Option Value) (h : Heap) (L : List Loc) : Prop := v = some (.ref sb) ∧ Fr n0 L ∧ Keep h0 h [sb, vb] ∧ (Exa Z h sb j5) ∧ (Fld Z h sb j0 "value" "[B" (.ref vb)) ∧ (Fld Z h sb j0 "coder" "B" (.int 0)) ∧ (Fld Z h sb j0 "count" "I" (.int 1)) ∧ (Fld Z h sb j0 "maybeLatin1" "Z" ml) ∧ (Arv Z h vb kv .byte (16 : Int32) [(.int (StrChars.lo8 c)), (.int 0), (.int 0), (.int 0), (.int 0), (.int 0), (.int 0), (.int 0), (.int 0), (.int 0), (.int 0), (.int 0), (.int 0), (.int 0), (.int 0), (.int 0)] (.int 0))
set_option maxRecDepth 65536 in
set_option maxHeartbeats 40000000 in
theorem rmapc (l : Launch) (Z : State) (a0 : Array Value) (G : OwnG Z a0) (ws : List Jvm.Cond) (sb : Addr) (vb : Addr) (kv : ClassId) (g : Value) (ml : Value) (c : Int32) (h0 : Heap) (n0 : Nat) (O0 : Old Z n0 h0) (P0 : Exa Z h0 sb j5) (P1 : Fld Z h0 sb j0 "value" "[B" (.ref vb)) (P2 : Fld Z h0 sb j0 "coder" "B" (.int 0)) (P3 : Fld Z h0 sb j0 "count" "I" (.int 0)) (P4 : Fld Z h0 sb j0 "maybeLatin1" "Z" ml) (P5 : Arv Z h0 vb kv .byte (16 : Int32) [g, (.int 0), (.int 0), (.int 0), (.int 0), (.int 0), (.int 0), (.int 0), (.int 0), (.int 0), (.int 0), (.int 0), (.int 0), (.int 0), (.int 0), (.int 0)] (.int 0)) (P6 : ¬ c < (0 : Int32) ∧ ¬ (255 : Int32) < c) (P7 : n0 ≤ sb) (P8 : n0 ≤ vb) (P9 : sb ≠ vb) :
  MetFree l own_m12 (head1 (Jvm.Cond.code own_m12 B22 2 (some (.object j0)) :: ws) (rR 1 0 0 14)) (fun a U => a = #[(.ref sb), (.int c)] ∧ Z.Warmed39 U.vm ∧ U.heap = h0) (fun _ _ _ _ _ => True) (fun _ U o U' => ∃ v L, o = .returned v ∧ Qapc Z sb vb kv g ml c h0 n0 v U'.heap L ∧ FrameEnd U o U' L (rR 1 0 0 14).cells (rR 1 0 0 14).slots) := by
 refine MetFree.of_bodySF (plainFor_of_name pn_3) hisR ?_
 intro p e s m args below meth cD s₁ Bd hml0 hP hK
 obtain ⟨rfl, hZ, hh⟩ := hP
 have hml : cD.maxLocals = 2 := hml0
 obtain ⟨hx, hby, (hown : s.vm.findClass j0 = some m.cls), hlk, X0, e0⟩ := own_st Bd hh
 have lt0 := lN P0.lt
 have lt1 := lN P1.lt
 have lt2 := lN P2.lt
 have lt3 := lN P3.lt
 have lt4 := lN P4.lt
 have lt5 := lN P5.lt
 have nP9 := own_neN P9
 have K0 : Keep h0 h0 [sb, vb] := Keep.refl h0 _
 have Z0 := own_old_le O0
 have N0 := Fr.nil n0
 refine OwnEnd.start (g' := (mkF m 0 #[vR sb, vI c] [])) (own_efapc m sb c) ?_
 refine oo (S' := s₁.setTop (mkF m 2 #[vR sb, vI c] [(.ref sb), (.ref sb)])) (fun _ kK => XS.aloadN X0.here hx rfl (hb hby d12_0) rfl rfl (XS.aloadN X0.here hx rfl (hb hby d12_1) rfl rfl kK)) ?_
 obtain ⟨T1, X1, e1, st1⟩ := getF X0 hx hZ hown (host := "") (Or.inl (w_ G 141 rfl)) Via.refl e0 P3 (g := (mkF m 2 #[vR sb, vI c] [(.ref sb), (.ref sb)])) rfl rfl (hb hby d12_2)
 refine oo (S' := T1.setTop (mkF m 5 #[vR sb, vI c] [(.int 0), (.ref sb)])) st1 ?_
 refine oo (S' := T1.setTop (mkF m 7 #[vR sb, vI c] [(.int 1), (.ref sb)])) (fun _ kK => XS.iconst X1.here hx rfl (hb hby d12_5) (XS.iadd X1.here hx rfl (hb hby d12_6) rfl kK)) ?_
 obtain ⟨cq2, kq2, q2a, q2b, cc2, q2d, -, q2e⟩ := isOf hZ e1 P0
 obtain ⟨_, _, ⟨T2, L2, k2, n2⟩, -, X2, ⟨Lc2, hQ2, l2, y2, z2⟩, st2⟩ := X1.privateBack hx (y := own_m11) hown (mvT hZ (w_ G 143 rfl)) (mvT hZ (w_ G 144 rfl)) (own_selP (oI (mvT hZ (w_ G 146 rfl)) rfl) (mvT hZ (w_ G 144 rfl)) (Cond.privateMethod_at (args := #[]) (mvT hZ (w_ G 145 rfl))) (by decide)) (Cond.privateMethod_at (args := #[]) (mvT hZ (w_ G 145 rfl))) (mvT hZ (w_ G 147 rfl)) (by decide) (backOf (W := 0) (rmec1 l Z a0 G [] sb vb kv g h0 n0 O0 P1 P2 P5) hZ (w_ G 147 rfl) (w_ G 92 rfl) (by decide) (by decide)) (g := (mkF m 7 #[vR sb, vI c] [(.int 1), (.ref sb)])) rfl (by rw [hml]; rfl) (Steps.refl _) q2d (own_nost q2e) (argsL := [(.int 1)]) (rest := []) (lenOf pd_5 rfl) rfl (own_z rfl) (hb hby d12_7) (fun _ _ => ⟨rfl, e1, (ol rfl), (ol rfl)⟩)
 dsimp only [Pt.U, Pt.locs, Pt.cells, Pt.slots] at X2 l2 y2 z2 st2 hQ2
 subst l2 y2 z2
 obtain ⟨rfl, N2q, eh2⟩ := hQ2
 have N2 := Fr.app N0 N2q
 refine ot (S' := T2.setTop (mkF m 10 #[vR sb, vI c] [])) st2 ?_
 refine oo (S' := T2.setTop (mkF m 11 #[vR sb, vI c] [(.ref sb)])) (fun _ kK => XS.aloadN X2.here hx rfl (hb hby d12_10) rfl rfl kK) ?_
 obtain ⟨cq3, kq3, q3a, q3b, q3c⟩ := isOf hZ eh2 P0
 obtain ⟨_, _, ⟨T3, L3, k3, n3⟩, -, X3, ⟨Lc3, hQ3, l3, y3, z3⟩, st3⟩ := X2.virtualBack hx (y := own_m8) (z := own_m8) hown (mvT hZ (w_ G 148 rfl)) (mvT hZ (w_ G 149 rfl)) (notFace_of_selects (args := #[]) (mvT hZ (w_ G 151 rfl))) (mvT hZ (w_ G 151 rfl)) (mvT hZ (w_ G 150 rfl)) (by decide) (backOf (W := 0) (rmasl l Z a0 G [] sb h0 n0 O0 P2) hZ (w_ G 152 rfl) (w_ G 92 rfl) (by decide) (by decide)) q3a q3c (g := (mkF m 11 #[vR sb, vI c] [(.ref sb)])) rfl (by rw [hml]; rfl) (Steps.refl _) (argsL := []) (rest := []) (lenOf pd_3 rfl) rfl (own_z rfl) (hb hby d12_11) (fun _ _ => ⟨rfl, eh2, (ol rfl), (ol rfl)⟩)
 dsimp only [Pt.U, Pt.locs, Pt.cells, Pt.slots] at X3 l3 y3 z3 st3 hQ3
 subst l3 y3 z3
 obtain ⟨rfl, N3q, eh3⟩ := hQ3
 have N3 := Fr.app N2 N3q
 refine ot (S' := T3.setTop (mkF m 14 #[vR sb, vI c] [(.int 1)])) st3 ?_
 refine oo (S' := T3.setTop (mkF m 18 #[vR sb, vI c] [(.int c)])) (fun _ kK => XS.ifNo X3.here hx rfl (hb hby d12_14) rfl ((if0 _ _).trans (feq ((by decide : ¬ ((1 : Int32) = (0 : Int32))))).1) (XS.iloadN X3.here hx rfl (hb hby d12_17) rfl kK)) ?_
 obtain ⟨_, _, ⟨T4, L4, k4, n4⟩, -, X4, ⟨Lc4, hQ4, l4, y4, z4⟩, st4⟩ := Jvm.LawKit.callS X3 hx (y := own_m7) hown (mvT hZ (w_ G 153 rfl)) (mvT hZ (w_ G 13 rfl)) (mvT hZ (w_ G 14 rfl)) (mvT hZ (w_ G 15 rfl)) (by decide) (backOf (W := 0) (rmcec l Z a0 G [] c h0 n0 O0 P6.2) hZ (w_ G 15 rfl) (w_ G 14 rfl) (by decide) (by decide)) (g := (mkF m 18 #[vR sb, vI c] [(.int c)])) rfl (by rw [hml]; rfl) (argsL := [(.int c)]) (rest := []) (lenOf pd_6 rfl) rfl (own_z rfl) (hb hby d12_18) (fun _ _ => ⟨rfl, eh3, (ol rfl), (ol rfl)⟩)
 dsimp only [Pt.U, Pt.locs, Pt.cells, Pt.slots] at X4 l4 y4 z4 st4 hQ4
 subst l4 y4 z4
 obtain ⟨rfl, N4q, eh4⟩ := hQ4
 have N4 := Fr.app N3 N4q
 refine oo (S' := T4.setTop (mkF m 21 #[vR sb, vI c] [(.int 1)])) st4 ?_
 refine oo (S' := T4.setTop (mkF m 25 #[vR sb, vI c] [(.ref sb)])) (fun _ kK => XS.ifNo X4.here hx rfl (hb hby d12_21) rfl ((if0 _ _).trans (feq ((by decide : ¬ ((1 : Int32) = (0 : Int32))))).1) (XS.aloadN X4.here hx rfl (hb hby d12_24) rfl rfl kK)) ?_
 obtain ⟨T5, X5, e5, st5⟩ := getF X4 hx hZ hown (host := "") (Or.inl (w_ G 96 rfl)) Via.refl eh4 P1 (g := (mkF m 25 #[vR sb, vI c] [(.ref sb)])) rfl rfl (hb hby d12_25)
 refine oo (S' := T5.setTop (mkF m 28 #[vR sb, vI c] [(.ref vb)])) st5 ?_
 refine oo (S' := T5.setTop (mkF m 30 #[vR sb, vI c] [(.ref sb), (.ref sb), (.ref vb)])) (fun _ kK => XS.aloadN X5.here hx rfl (hb hby d12_28) rfl rfl (XS.dup X5.here hx rfl (hb hby d12_29) rfl rfl kK)) ?_
 obtain ⟨T6, X6, e6, st6⟩ := getF X5 hx hZ hown (host := "") (Or.inl (w_ G 141 rfl)) Via.refl e5 P3 (g := (mkF m 30 #[vR sb, vI c] [(.ref sb), (.ref sb), (.ref vb)])) rfl rfl (hb hby d12_30)
 refine oo (S' := T6.setTop (mkF m 33 #[vR sb, vI c] [(.int 0), (.ref sb), (.ref vb)])) st6 ?_
 refine oo (S' := T6.setTop (mkF m 36 #[vR sb, vI c] [(.int 1), (.ref sb), (.int 0), (.ref vb)])) (fun _ kK => XS.dupX1 X6.here hx rfl (hb hby d12_33) rfl rfl rfl (XS.iconst X6.here hx rfl (hb hby d12_34) (XS.iadd X6.here hx rfl (hb hby d12_35) rfl kK))) ?_
 obtain ⟨T7, h7, X7, e7, W7, st7⟩ := putF X6 hx hZ hown (host := "") (Or.inl (w_ G 141 rfl)) Via.refl e6 P3 P0 (Or.inl (w_ G 142 rfl)) (w_ G 83 rfl) (ty := .int) (by decide) rfl rfl (g := (mkF m 36 #[vR sb, vI c] [(.int 1), (.ref sb), (.int 0), (.ref vb)])) rfl rfl (hb hby d12_36)
 have Fw7 := P3.same W7
 have N7 := Fr.snoc X7 N4 (by omega)
 have sz8 := own_wr_le W7
 have K8 := K0.wr W7 (Or.inl (by simp))
 refine oo (S' := T7.setTop (mkF m 39 #[vR sb, vI c] [(.int 0), (.ref vb)])) st7 ?_
 refine oo (S' := T7.setTop (mkF m 41 #[vR sb, vI c] [(.int (nar .byte c)), (.int 0), (.ref vb)])) (fun _ kK => XS.iloadN X7.here hx rfl (hb hby d12_39) rfl (XS.i2b X7.here hx rfl (hb hby d12_40) rfl kK)) ?_
 have f9 := (P5.other W7 (on (by omega)))
 obtain ⟨cl10, Ar10, q10, S10, N10', H10, G10⟩ := id f9
 have hin11 : ¬ ((0 : Int32) < 0 ∨ cl10.slots.size ≤ ((0 : Int32)).toNatClampNeg) := inb_of S10 ⟨by decide, by decide⟩
 obtain ⟨T11, h11, X11, e11, W11, st11⟩ := stB X7 hx hZ e7 Ar10 (j := (0 : Int32)) hin11 (g := (mkF m 41 #[vR sb, vI c] [(.int (nar .byte c)), (.int 0), (.ref vb)])) rfl rfl (hb hby d12_41)
 have N11 := Fr.snoc X11 N7 (by omega)
 have sz12 := own_wr_le W11
 have K12 := K8.wr W11 (Or.inl (by simp))
 have V11 : Arv Z h11 vb kv .byte (16 : Int32) [(.int (nar .byte (nar .byte c))), (.int 0), (.int 0), (.int 0), (.int 0), (.int 0), (.int 0), (.int 0), (.int 0), (.int 0), (.int 0), (.int 0), (.int 0), (.int 0), (.int 0), (.int 0)] (.int 0) := Arv.set Ar10 q10 S10 N10' H10 G10 (fits_nar_byte _) W11 0 rfl (Nat.le_of_ble_eq_true rfl)
 refine oo (S' := T11.setTop (mkF m 42 #[vR sb, vI c] [])) st11 ?_
 refine oo (S' := T11.setTop (mkF m 76 #[vR sb, vI c] [(.ref sb)])) (fun _ kK => XS.goto X11.here hx rfl (pc0 := 42) (pc' := 75) rfl (hb hby d12_42) (by decide) (by decide) (XS.aloadN X11.here hx rfl (hb hby d12_75) rfl rfl kK)) ?_
 have V13 : Arv Z h11 vb kv .byte (16 : Int32) [(.int (StrChars.lo8 c)), (.int 0), (.int 0), (.int 0), (.int 0), (.int 0), (.int 0), (.int 0), (.int 0), (.int 0), (.int 0), (.int 0), (.int 0), (.int 0), (.int 0), (.int 0)] (.int 0) := by have q := V11; rw [own_lo2] at q; exact q
 have f14 := ((P0.wr W7).wr W11)
 have f15 := ((P1.other W7 (Or.inr (slot_ne (Or.inl (w_ G 97 rfl)) (Or.inl (w_ G 142 rfl)) (by decide) (t := (.array .byte)) (t' := .int) (by decide) (by decide)))).other W11 (Or.inl (on (by omega))))
 have f16 := ((P2.other W7 (Or.inr (slot_ne (Or.inl (w_ G 99 rfl)) (Or.inl (w_ G 142 rfl)) (by decide) (t := .byte) (t' := .int) (by decide) (by decide)))).other W11 (Or.inl (on (by omega))))
 have f17 := (Fw7.other W11 (Or.inl (on (by omega))))
 have f18 := ((P4.other W7 (Or.inr (slot_ne (Or.inl (w_ G 249 rfl)) (Or.inl (w_ G 142 rfl)) (by decide) (t := .boolean) (t' := .int) (by decide) (by decide)))).other W11 (Or.inl (on (by omega))))
 refine OwnEnd.ret X11 (v := (some (.ref sb))) (fun h => by rw [Bd.returns] at h; cases h) hlk (fun fs hr => retOut X11 hx Bd.returns rfl (Or.inr (Or.inr (Or.inr (Or.inr ⟨rfl, rfl, rfl⟩)))) (hb hby d12_76) hr) (by decide) (by decide) (Q := Qapc Z sb vb kv g ml c h0 n0) e11 ?_
 exact ⟨rfl, N11, K12, f14, f15, f16, f17, f18, V13⟩

theorem own_efsbc (m : MethodId) (sb : Addr) (c : Int32) : entryFrame m #[(.ref sb), (.int c)] 2 = mkF m 0 #[vR sb, vI c] [] := by first | (simp [entryFrame, mkF, argsToLocals, Value.category]; done) | rfl
def Qsbc (Z : State) (sb : Addr) (vb : Addr) (kv : ClassId) (g : Value) (ml : Value) (c : Int32) (h0 : Heap) (n0 : Nat) (v : Option Value) (h : Heap) (L : List Loc) : Prop := v = some (.ref sb) ∧ Fr n0 L ∧ Keep h0 h [sb, vb] ∧ (Exa Z h sb j5) ∧ (Fld Z h sb j0 "value" "[B" (.ref vb)) ∧ (Fld Z h sb j0 "coder" "B" (.int 0)) ∧ (Fld Z h sb j0 "count" "I" (.int 1)) ∧ (Fld Z h sb j0 "maybeLatin1" "Z" ml) ∧ (Arv Z h vb kv .byte (16 : Int32) [(.int (StrChars.lo8 c)), (.int 0), (.int 0), (.int 0), (.int 0), (.int 0), (.int 0), (.int 0), (.int 0), (.int 0), (.int 0), (.int 0), (.int 0), (.int 0), (.int 0), (.int 0)] (.int 0))
set_option maxRecDepth 65536 in
set_option maxHeartbeats 40000000 in
theorem rmsbc (l : Launch) (Z : State) (a0 : Array Value) (G : OwnG Z a0) (ws : List Jvm.Cond) (sb : Addr) (vb : Addr) (kv : ClassId) (g : Value) (ml : Value) (c : Int32) (h0 : Heap) (n0 : Nat) (O0 : Old Z n0 h0) (P0 : Exa Z h0 sb j5) (P1 : Fld Z h0 sb j0 "value" "[B" (.ref vb)) (P2 : Fld Z h0 sb j0 "coder" "B" (.int 0)) (P3 : Fld Z h0 sb j0 "count" "I" (.int 0)) (P4 : Fld Z h0 sb j0 "maybeLatin1" "Z" ml) (P5 : Arv Z h0 vb kv .byte (16 : Int32) [g, (.int 0), (.int 0), (.int 0), (.int 0), (.int 0), (.int 0), (.int 0), (.int 0), (.int 0), (.int 0), (.int 0), (.int 0), (.int 0), (.int 0), (.int 0)] (.int 0)) (P6 : ¬ c < (0 : Int32) ∧ ¬ (255 : Int32) < c) (P7 : n0 ≤ sb) (P8 : n0 ≤ vb) (P9 : sb ≠ vb) :
  MetFree l own_m13 (head1 (Jvm.Cond.code own_m13 B23 2 (some (.object j5)) :: ws) (rR 2 0 0 27)) (fun a U => a = #[(.ref sb), (.int c)] ∧ Z.Warmed39 U.vm ∧ U.heap = h0) (fun _ _ _ _ _ => True) (fun _ U o U' => ∃ v L, o = .returned v ∧ Qsbc Z sb vb kv g ml c h0 n0 v U'.heap L ∧ FrameEnd U o U' L (rR 2 0 0 27).cells (rR 2 0 0 27).slots) := by
 refine MetFree.of_bodySF (plainFor_of_name pn_4) hisR ?_
 intro p e s m args below meth cD s₁ Bd hml0 hP hK
 obtain ⟨rfl, hZ, hh⟩ := hP
 have hml : cD.maxLocals = 2 := hml0
 obtain ⟨hx, hby, (hown : s.vm.findClass j5 = some m.cls), hlk, X0, e0⟩ := own_st Bd hh
 have lt0 := lN P0.lt
 have lt1 := lN P1.lt
 have lt2 := lN P2.lt
 have lt3 := lN P3.lt
 have lt4 := lN P4.lt
 have lt5 := lN P5.lt
 have nP9 := own_neN P9
 have K0 : Keep h0 h0 [sb, vb] := Keep.refl h0 _
 have Z0 := own_old_le O0
 have N0 := Fr.nil n0
 refine OwnEnd.start (g' := (mkF m 0 #[vR sb, vI c] [])) (own_efsbc m sb c) ?_
 refine oo (S' := s₁.setTop (mkF m 2 #[vR sb, vI c] [(.int c), (.ref sb)])) (fun _ kK => XS.aloadN X0.here hx rfl (hb hby d13_0) rfl rfl (XS.iloadN X0.here hx rfl (hb hby d13_1) rfl kK)) ?_
 obtain ⟨_, _, ⟨T1, L1, k1, n1⟩, -, X1, ⟨Lc1, hQ1, l1, y1, z1⟩, st1⟩ := superBack X0 hx hZ hown (y := own_m12) (w_ G 136 rfl) (own_same (own_notI (w_ G 146 rfl) rfl) (w_ G 137 rfl) (by decide)) (w_ G 137 rfl) (w_ G 138 rfl) (by decide) (backOf (W := 0) (rmapc l Z a0 G [] sb vb kv g ml c h0 n0 O0 P0 P1 P2 P3 P4 P5 P6 (by omega) (by omega) (on (by omega))) hZ (w_ G 140 rfl) (w_ G 92 rfl) (by decide) (by decide)) e0 (Ins.self P0) (g := (mkF m 2 #[vR sb, vI c] [(.int c), (.ref sb)])) rfl (by rw [hml]; rfl) (w_ G 140 rfl) (argsL := [(.int c)]) (rest := []) (lenOf pd_7 rfl) rfl (own_z rfl) (hb hby d13_2) (fun _ _ => ⟨rfl, e0, (ol rfl), (ol rfl)⟩)
 dsimp only [Pt.U, Pt.locs, Pt.cells, Pt.slots] at X1 l1 y1 z1 st1 hQ1
 subst l1 y1 z1
 obtain ⟨rfl, N1q, Kq1, r1_0, r1_1, r1_2, r1_3, r1_4, r1_5⟩ := hQ1
 have N1 := Fr.app N0 N1q
 have sz2 := Kq1.1
 have K2 := K0.trans Kq1 (own_all2 (Or.inl (by simp)) (Or.inl (by simp)))
 have ltr1_0 := lN r1_0.lt
 have ltr1_1 := lN r1_1.lt
 have ltr1_2 := lN r1_2.lt
 have ltr1_3 := lN r1_3.lt
 have ltr1_4 := lN r1_4.lt
 have ltr1_5 := lN r1_5.lt
 refine ot (S' := T1.setTop (mkF m 5 #[vR sb, vI c] [(.ref sb)])) st1 ?_
 refine oo (S' := T1.setTop (mkF m 7 #[vR sb, vI c] [(.ref sb)])) (fun _ kK => XS.pop X1.here hx rfl (hb hby d13_5) rfl rfl (XS.aloadN X1.here hx rfl (hb hby d13_6) rfl rfl kK)) ?_
 refine OwnEnd.ret X1 (v := (some (.ref sb))) (fun h => by rw [Bd.returns] at h; cases h) hlk (fun fs hr => retOut X1 hx Bd.returns rfl (Or.inr (Or.inr (Or.inr (Or.inr ⟨rfl, rfl, rfl⟩)))) (hb hby d13_7) hr) (by decide) (by decide) (Q := Qsbc Z sb vb kv g ml c h0 n0) rfl ?_
 exact ⟨rfl, N1, K2, r1_0, r1_1, r1_2, r1_3, r1_4, r1_5⟩

theorem own_efaln (m : MethodId) (sb : Addr) : entryFrame m #[(.ref sb)] 1 = mkF m 0 #[vR sb] [] := by first | (simp [entryFrame, mkF, argsToLocals, Value.category]; done) | rfl
set_option maxRecDepth 65536 in
set_option maxHeartbeats 40000000 in
theorem rmaln (l : Launch) (Z : State) (a0 : Array Value) (G : OwnG Z a0) (ws : List Jvm.Cond) (sb : Addr) (k : Int32) (h0 : Heap) (n0 : Nat) (O0 : Old Z n0 h0) (P0 : Exa Z h0 sb j5) (P1 : Fld Z h0 sb j0 "count" "I" (.int k)) :
  MetFree l own_m14 (head1 (Jvm.Cond.code own_m14 B24 1 (some .int) :: ws) (rR 0 0 0 0)) (fun a U => a = #[(.ref sb)] ∧ Z.Warmed39 U.vm ∧ U.heap = h0) (fun _ _ _ _ _ => True) (fun _ U o U' => ∃ v L, o = .returned v ∧ (own_Qint k) h0 n0 v U'.heap L ∧ FrameEnd U o U' L (rR 0 0 0 0).cells (rR 0 0 0 0).slots) := by
 refine MetFree.of_bodySF (plainFor_of_name pn_3) hisR ?_
 intro p e s m args below meth cD s₁ Bd hml0 hP hK
 obtain ⟨rfl, hZ, hh⟩ := hP
 have hml : cD.maxLocals = 1 := hml0
 obtain ⟨hx, hby, (hown : s.vm.findClass j0 = some m.cls), hlk, X0, e0⟩ := own_st Bd hh
 have lt0 := lN P0.lt
 have lt1 := lN P1.lt
 have Z0 := own_old_le O0
 have N0 := Fr.nil n0
 refine OwnEnd.start (g' := (mkF m 0 #[vR sb] [])) (own_efaln m sb) ?_
 refine oo (S' := s₁.setTop (mkF m 1 #[vR sb] [(.ref sb)])) (fun _ kK => XS.aloadN X0.here hx rfl (hb hby d14_0) rfl rfl kK) ?_
 obtain ⟨T1, X1, e1, st1⟩ := getF X0 hx hZ hown (host := "") (Or.inl (w_ G 141 rfl)) Via.refl e0 P1 (g := (mkF m 1 #[vR sb] [(.ref sb)])) rfl rfl (hb hby d14_1)
 refine oo (S' := T1.setTop (mkF m 4 #[vR sb] [(.int k)])) st1 ?_
 refine OwnEnd.ret X1 (v := (some (.int k))) (fun h => by rw [Bd.returns] at h; cases h) hlk (fun fs hr => retOut X1 hx Bd.returns rfl (Or.inl ⟨rfl, Or.inl rfl, _, rfl⟩) (hb hby d14_4) hr) (by decide) (by decide) (Q := (own_Qint k) h0 n0) e1 ?_
 exact ⟨rfl, N0, rfl⟩

theorem own_efsln (m : MethodId) (sb : Addr) : entryFrame m #[(.ref sb)] 1 = mkF m 0 #[vR sb] [] := by first | (simp [entryFrame, mkF, argsToLocals, Value.category]; done) | rfl
set_option maxRecDepth 65536 in
set_option maxHeartbeats 40000000 in
theorem rmsln (l : Launch) (Z : State) (a0 : Array Value) (G : OwnG Z a0) (ws : List Jvm.Cond) (sb : Addr) (k : Int32) (h0 : Heap) (n0 : Nat) (O0 : Old Z n0 h0) (P0 : Exa Z h0 sb j5) (P1 : Fld Z h0 sb j0 "count" "I" (.int k)) :
  MetFree l own_m15 (head1 (Jvm.Cond.code own_m15 B25 1 (some .int) :: ws) (rR 1 0 0 12)) (fun a U => a = #[(.ref sb)] ∧ Z.Warmed39 U.vm ∧ U.heap = h0) (fun _ _ _ _ _ => True) (fun _ U o U' => ∃ v L, o = .returned v ∧ (own_Qint k) h0 n0 v U'.heap L ∧ FrameEnd U o U' L (rR 1 0 0 12).cells (rR 1 0 0 12).slots) := by
 refine MetFree.of_bodySF (plainFor_of_name pn_4) hisR ?_
 intro p e s m args below meth cD s₁ Bd hml0 hP hK
 obtain ⟨rfl, hZ, hh⟩ := hP
 have hml : cD.maxLocals = 1 := hml0
 obtain ⟨hx, hby, (hown : s.vm.findClass j5 = some m.cls), hlk, X0, e0⟩ := own_st Bd hh
 have lt0 := lN P0.lt
 have lt1 := lN P1.lt
 have Z0 := own_old_le O0
 have N0 := Fr.nil n0
 refine OwnEnd.start (g' := (mkF m 0 #[vR sb] [])) (own_efsln m sb) ?_
 refine oo (S' := s₁.setTop (mkF m 1 #[vR sb] [(.ref sb)])) (fun _ kK => XS.aloadN X0.here hx rfl (hb hby d15_0) rfl rfl kK) ?_
 obtain ⟨_, _, ⟨T1, L1, k1, n1⟩, -, X1, ⟨Lc1, hQ1, l1, y1, z1⟩, st1⟩ := superBack X0 hx hZ hown (y := own_m14) (w_ G 163 rfl) (own_same (own_notI (w_ G 146 rfl) rfl) (w_ G 164 rfl) (by decide)) (w_ G 164 rfl) (w_ G 138 rfl) (by decide) (backOf (W := 0) (rmaln l Z a0 G [] sb k h0 n0 O0 P0 P1) hZ (w_ G 166 rfl) (w_ G 92 rfl) (by decide) (by decide)) e0 (Ins.self P0) (g := (mkF m 1 #[vR sb] [(.ref sb)])) rfl (by rw [hml]; rfl) (w_ G 166 rfl) (argsL := []) (rest := []) (lenOf pd_8 rfl) rfl (own_z rfl) (hb hby d15_1) (fun _ _ => ⟨rfl, e0, (ol rfl), (ol rfl)⟩)
 dsimp only [Pt.U, Pt.locs, Pt.cells, Pt.slots] at X1 l1 y1 z1 st1 hQ1
 subst l1 y1 z1
 obtain ⟨rfl, N1q, eh1⟩ := hQ1
 have N1 := Fr.app N0 N1q
 refine ot (S' := T1.setTop (mkF m 4 #[vR sb] [(.int k)])) st1 ?_
 refine OwnEnd.ret X1 (v := (some (.int k))) (fun h => by rw [Bd.returns] at h; cases h) hlk (fun fs hr => retOut X1 hx Bd.returns rfl (Or.inl ⟨rfl, Or.inl rfl, _, rfl⟩) (hb hby d15_4) hr) (by decide) (by decide) (Q := (own_Qint k) h0 n0) eh1 ?_
 exact ⟨rfl, N1, rfl⟩

theorem own_efgv (m : MethodId) (sb : Addr) : entryFrame m #[(.ref sb)] 1 = mkF m 0 #[vR sb] [] := by first | (simp [entryFrame, mkF, argsToLocals, Value.category]; done) | rfl
def Qgv (Z : State) (sb : Addr) (vb : Addr) (h0 : Heap) (n0 : Nat) (v : Option Value) (h : Heap) (L : List Loc) : Prop := v = some (.ref vb) ∧ Fr n0 L ∧ h = h0
set_option maxRecDepth 65536 in
set_option maxHeartbeats 40000000 in
theorem rmgv (l : Launch) (Z : State) (a0 : Array Value) (G : OwnG Z a0) (ws : List Jvm.Cond) (sb : Addr) (vb : Addr) (h0 : Heap) (n0 : Nat) (O0 : Old Z n0 h0) (P0 : Fld Z h0 sb j0 "value" "[B" (.ref vb)) :
  MetFree l own_m16 (head1 (Jvm.Cond.code own_m16 B26 1 (some (.array .byte)) :: ws) (rR 0 0 0 0)) (fun a U => a = #[(.ref sb)] ∧ Z.Warmed39 U.vm ∧ U.heap = h0) (fun _ _ _ _ _ => True) (fun _ U o U' => ∃ v L, o = .returned v ∧ Qgv Z sb vb h0 n0 v U'.heap L ∧ FrameEnd U o U' L (rR 0 0 0 0).cells (rR 0 0 0 0).slots) := by
 refine MetFree.of_bodySF (plainFor_of_name pn_3) hisR ?_
 intro p e s m args below meth cD s₁ Bd hml0 hP hK
 obtain ⟨rfl, hZ, hh⟩ := hP
 have hml : cD.maxLocals = 1 := hml0
 obtain ⟨hx, hby, (hown : s.vm.findClass j0 = some m.cls), hlk, X0, e0⟩ := own_st Bd hh
 have lt0 := lN P0.lt
 have Z0 := own_old_le O0
 have N0 := Fr.nil n0
 refine OwnEnd.start (g' := (mkF m 0 #[vR sb] [])) (own_efgv m sb) ?_
 refine oo (S' := s₁.setTop (mkF m 1 #[vR sb] [(.ref sb)])) (fun _ kK => XS.aloadN X0.here hx rfl (hb hby d16_0) rfl rfl kK) ?_
 obtain ⟨T1, X1, e1, st1⟩ := getF X0 hx hZ hown (host := "") (Or.inl (w_ G 96 rfl)) Via.refl e0 P0 (g := (mkF m 1 #[vR sb] [(.ref sb)])) rfl rfl (hb hby d16_1)
 refine oo (S' := T1.setTop (mkF m 4 #[vR sb] [(.ref vb)])) st1 ?_
 refine OwnEnd.ret X1 (v := (some (.ref vb))) (fun h => by rw [Bd.returns] at h; cases h) hlk (fun fs hr => retOut X1 hx Bd.returns rfl (Or.inr (Or.inr (Or.inr (Or.inr ⟨rfl, rfl, rfl⟩)))) (hb hby d16_4) hr) (by decide) (by decide) (Q := Qgv Z sb vb h0 n0) e1 ?_
 exact ⟨rfl, N0, rfl⟩

theorem own_efckl (m : MethodId) : entryFrame m #[(.int 0), (.int 1)] 2 = mkF m 0 #[vI 0, vI 1] [] := by first | (simp [entryFrame, mkF, argsToLocals, Value.category]; done) | rfl
def Qckl (Z : State)  (h0 : Heap) (n0 : Nat) (v : Option Value) (h : Heap) (L : List Loc) : Prop := v = none ∧ Fr n0 L ∧ h = h0
set_option maxRecDepth 65536 in
set_option maxHeartbeats 40000000 in
theorem rmckl (l : Launch) (Z : State) (a0 : Array Value) (G : OwnG Z a0) (ws : List Jvm.Cond)  (h0 : Heap) (n0 : Nat) (O0 : Old Z n0 h0)  :
  MetFree l own_m17 (head1 (Jvm.Cond.code own_m17 B27 2 none :: ws) (rR 0 0 0 0)) (fun a U => a = #[(.int 0), (.int 1)] ∧ Z.Warmed39 U.vm ∧ U.heap = h0) (fun _ _ _ _ _ => True) (fun _ U o U' => ∃ v L, o = .returned v ∧ Qckl Z  h0 n0 v U'.heap L ∧ FrameEnd U o U' L (rR 0 0 0 0).cells (rR 0 0 0 0).slots) := by
 refine MetFree.of_bodySF (plainFor_of_name pn_5) hisR ?_
 intro p e s m args below meth cD s₁ Bd hml0 hP hK
 obtain ⟨rfl, hZ, hh⟩ := hP
 have hml : cD.maxLocals = 2 := hml0
 obtain ⟨hx, hby, (hown : s.vm.findClass "java/util/Arrays" = some m.cls), hlk, X0, e0⟩ := own_st Bd hh
 have Z0 := own_old_le O0
 have N0 := Fr.nil n0
 refine OwnEnd.start (g' := (mkF m 0 #[vI 0, vI 1] [])) (own_efckl m ) ?_
 refine oo (S' := s₁.setTop (mkF m 37 #[vI 0, vI 1] [])) (fun _ kK => XS.iloadN X0.here hx rfl (hb hby d17_0) rfl (XS.iloadN X0.here hx rfl (hb hby d17_1) rfl (XS.icmpYes X0.here hx rfl (pc0 := 2) (pc' := 37) rfl (hb hby d17_2) rfl (flt ((by decide : ¬ ((1 : Int32) < (0 : Int32))))).2.1 (by decide) (by decide) kK))) ?_
 refine OwnEnd.ret X0 (v := none) (fun _ => rfl) hlk (fun fs hr => X0.returnOut hx Bd.returns (hb hby d17_37) hr) (by decide) (by decide) (Q := Qckl Z  h0 n0) e0 ?_
 exact ⟨rfl, N0, rfl⟩

theorem own_efmin16_1 (m : MethodId) : entryFrame m #[(.int 16), (.int 1)] 2 = mkF m 0 #[vI 16, vI 1] [] := by first | (simp [entryFrame, mkF, argsToLocals, Value.category]; done) | rfl
set_option maxRecDepth 65536 in
set_option maxHeartbeats 40000000 in
theorem rmmin16_1 (l : Launch) (Z : State) (a0 : Array Value) (G : OwnG Z a0) (ws : List Jvm.Cond)  (h0 : Heap) (n0 : Nat) (O0 : Old Z n0 h0)  :
  MetFree l own_m18 (head1 (Jvm.Cond.code own_m18 B28 2 (some .int) :: ws) (rR 0 0 0 0)) (fun a U => a = #[(.int 16), (.int 1)] ∧ Z.Warmed39 U.vm ∧ U.heap = h0) (fun _ _ _ _ _ => True) (fun _ U o U' => ∃ v L, o = .returned v ∧ (own_Qint (1 : Int32)) h0 n0 v U'.heap L ∧ FrameEnd U o U' L (rR 0 0 0 0).cells (rR 0 0 0 0).slots) := by
 refine MetFree.of_bodySF (Jvm.Free.JP.mathPlain rfl (by decide +kernel)) hisR ?_
 intro p e s m args below meth cD s₁ Bd hml0 hP hK
 obtain ⟨rfl, hZ, hh⟩ := hP
 have hml : cD.maxLocals = 2 := hml0
 obtain ⟨hx, hby, (hown : s.vm.findClass j8 = some m.cls), hlk, X0, e0⟩ := own_st Bd hh
 have Z0 := own_old_le O0
 have N0 := Fr.nil n0
 refine OwnEnd.start (g' := (mkF m 0 #[vI 16, vI 1] [])) (own_efmin16_1 m ) ?_
 refine oo (S' := s₁.setTop (mkF m 10 #[vI 16, vI 1] [(.int 1)])) (fun _ kK => XS.iloadN X0.here hx rfl (hb hby d19_0) rfl (XS.iloadN X0.here hx rfl (hb hby d19_1) rfl (XS.icmpYes X0.here hx rfl (pc0 := 2) (pc' := 9) rfl (hb hby d19_2) rfl (tlt ((by decide : (1 : Int32) < (16 : Int32)))).2.2.1 (by decide) (by decide) (XS.iloadN X0.here hx rfl (hb hby d19_9) rfl kK)))) ?_
 refine OwnEnd.ret X0 (v := (some (.int 1))) (fun h => by rw [Bd.returns] at h; cases h) hlk (fun fs hr => retOut X0 hx Bd.returns rfl (Or.inl ⟨rfl, Or.inl rfl, _, rfl⟩) (hb hby d19_10) hr) (by decide) (by decide) (Q := (own_Qint (1 : Int32)) h0 n0) e0 ?_
 exact ⟨rfl, N0, rfl⟩

theorem own_efcpb (m : MethodId) (vb : Addr) : entryFrame m #[(.ref vb), (.int 0), (.int 1)] 5 = mkF m 0 #[vR vb, vI 0, vI 1, .unset, .unset] [] := by first | (simp [entryFrame, mkF, argsToLocals, Value.category]; done) | rfl
def Qcpb (Z : State) (vb : Addr) (kv : ClassId) (g : Value) (h0 : Heap) (n0 : Nat) (v : Option Value) (h : Heap) (L : List Loc) : Prop := ∃ (b : Addr) (kb : ClassId), v = some (.ref b) ∧ Fr n0 L ∧ Keep h0 h [] ∧ (Arv Z h b kb .byte (1 : Int32) [g] (.int 0)) ∧ (Array.size h0 ≤ b)
set_option maxRecDepth 65536 in
set_option maxHeartbeats 40000000 in
theorem rmcpb (l : Launch) (Z : State) (a0 : Array Value) (G : OwnG Z a0) (ws : List Jvm.Cond) (vb : Addr) (kv : ClassId) (g : Value) (h0 : Heap) (n0 : Nat) (O0 : Old Z n0 h0) (P0 : Arv Z h0 vb kv .byte (16 : Int32) [g, (.int 0), (.int 0), (.int 0), (.int 0), (.int 0), (.int 0), (.int 0), (.int 0), (.int 0), (.int 0), (.int 0), (.int 0), (.int 0), (.int 0), (.int 0)] (.int 0)) :
  MetFree l own_m19 (head1 (Jvm.Cond.code own_m19 B29 5 (some (.array .byte)) :: ws) (rR 1 1 1 18)) (fun a U => a = #[(.ref vb), (.int 0), (.int 1)] ∧ Z.Warmed39 U.vm ∧ U.heap = h0) (fun _ _ _ _ _ => True) (fun _ U o U' => ∃ v L, o = .returned v ∧ Qcpb Z vb kv g h0 n0 v U'.heap L ∧ FrameEnd U o U' L (rR 1 1 1 18).cells (rR 1 1 1 18).slots) := by
 refine MetFree.of_bodySF (plainFor_of_name pn_5) hisR ?_
 intro p e s m args below meth cD s₁ Bd hml0 hP hK
 obtain ⟨rfl, hZ, hh⟩ := hP
 have hml : cD.maxLocals = 5 := hml0
 obtain ⟨hx, hby, (hown : s.vm.findClass "java/util/Arrays" = some m.cls), hlk, X0, e0⟩ := own_st Bd hh
 have lt0 := lN P0.lt
 have K0 : Keep h0 h0 [] := Keep.refl h0 _
 have Z0 := own_old_le O0
 have N0 := Fr.nil n0
 let lv1 : Array Slot := #[vR vb, vI 0, vI 1, .unset, .unset]
 refine OwnEnd.start (g' := (mkF m 0 lv1 [])) (own_efcpb m vb) ?_
 refine oo (S' := s₁.setTop (mkF m 2 lv1 [(.int 1), (.int 0)])) (fun _ kK => XS.iloadN X0.here hx rfl (hb hby d18_0) rfl (XS.iloadN X0.here hx rfl (hb hby d18_1) rfl kK)) ?_
 obtain ⟨_, _, ⟨T2, L2, k2, n2⟩, -, X2, ⟨Lc2, hQ2, l2, y2, z2⟩, st2⟩ := Jvm.LawKit.callS X0 hx (y := own_m17) hown (mvT hZ (w_ G 194 rfl)) (mvT hZ (w_ G 195 rfl)) (mvT hZ (w_ G 189 rfl)) (mvT hZ (w_ G 196 rfl)) (by decide) (backOf (W := 0) (rmckl l Z a0 G []  h0 n0 O0 ) hZ (w_ G 196 rfl) (w_ G 189 rfl) (by decide) (by decide)) (g := (mkF m 2 lv1 [(.int 1), (.int 0)])) rfl (by rw [hml]; rfl) (argsL := [(.int 0), (.int 1)]) (rest := []) (lenOf pd_2 rfl) rfl (own_z rfl) (hb hby d18_2) (fun _ _ => ⟨rfl, e0, (ol rfl), (ol rfl)⟩)
 dsimp only [Pt.U, Pt.locs, Pt.cells, Pt.slots] at X2 l2 y2 z2 st2 hQ2
 subst l2 y2 z2
 obtain ⟨rfl, N2q, eh2⟩ := hQ2
 have N2 := Fr.app N0 N2q
 refine oo (S' := T2.setTop (mkF m 5 lv1 [])) st2 ?_
 let lv3 : Array Slot := #[vR vb, vI 0, vI 1, vI 1, .unset]
 refine oo (S' := T2.setTop (mkF m 10 lv3 [(.int 1)])) (fun _ kK => XS.iloadN X2.here hx rfl (hb hby d18_5) rfl (XS.iloadN X2.here hx rfl (hb hby d18_6) rfl (XS.isub X2.here hx rfl (hb hby d18_7) rfl (XS.istoreN X2.here hx rfl (hb hby d18_8) rfl (l' := lv3) rfl (XS.iloadN X2.here hx rfl (hb hby d18_9) rfl kK))))) ?_
 obtain ⟨T4, h4, k4, X4, e4, E4, A4, st4⟩ := newP X2 hx hZ (w_ G 21 rfl) eh2 (g := (mkF m 10 lv3 [(.int 1)])) rfl (hb hby d18_10) rfl (by decide) (cap := 1) (by decide) (by decide) (by decide) (by decide)
 obtain ⟨b4, g4⟩ : ∃ z, z = Array.size h0 := ⟨_, rfl⟩
 rw [← g4] at A4 st4
 have lt_b4 := lN A4.lt
 have sz5 := E4.1
 have K5 := K0.ext E4
 have O5 := O0.ext E4
 have V4 : Arv Z h4 b4 k4 .byte (1 : Int32) [(.int 0)] (.int 0) := (Arv.new A4 (by decide)).pad (pad_rep [] (.int 0) 1)
 refine oo (S' := T4.setTop (mkF m 12 lv3 [(.ref b4)])) st4 ?_
 let lv6 : Array Slot := #[vR vb, vI 0, vI 1, vI 1, vR b4]
 refine oo (S' := T4.setTop (mkF m 20 lv6 [(.ref vb), (.int 0), (.ref b4), (.int 0), (.ref vb)])) (fun _ kK => XS.astore X4.here hx rfl (hb hby d18_12) rfl rfl (l' := lv6) rfl (XS.aloadN X4.here hx rfl (hb hby d18_14) rfl rfl (XS.iloadN X4.here hx rfl (hb hby d18_15) rfl (XS.aload X4.here hx rfl (hb hby d18_16) rfl rfl (XS.iconst X4.here hx rfl (hb hby d18_18) (XS.aloadN X4.here hx rfl (hb hby d18_19) rfl rfl kK)))))) ?_
 have f7 := (P0.ext E4)
 obtain ⟨cl8, Ar8, q8, S8, N8', H8, G8⟩ := id f7
 refine oo (S' := T4.setTop (mkF m 21 lv6 [(.int 16), (.int 0), (.ref b4), (.int 0), (.ref vb)])) (fun _ kK => X4.arraylength hx (by rw [e4]; exact Ar8.1) (State.isArrayOf_alike hZ.alike Ar8.2.1) (g := (mkF m 20 lv6 [(.ref vb), (.int 0), (.ref b4), (.int 0), (.ref vb)])) rfl rfl (hb hby d18_20) _ (by rw [len_of S8 N8']; exact kK)) ?_
 refine oo (S' := T4.setTop (mkF m 24 lv6 [(.int 1), (.int 16), (.int 0), (.ref b4), (.int 0), (.ref vb)])) (fun _ kK => XS.iloadN X4.here hx rfl (hb hby d18_21) rfl (XS.isub X4.here hx rfl (hb hby d18_22) rfl (XS.iloadN X4.here hx rfl (hb hby d18_23) rfl kK))) ?_
 obtain ⟨_, _, ⟨T9, L9, k9, n9⟩, -, X9, ⟨Lc9, hQ9, l9, y9, z9⟩, st9⟩ := Jvm.LawKit.callS X4 hx (y := own_m18) hown (mvT hZ (w_ G 197 rfl)) (mvT hZ (w_ G 198 rfl)) (mvT hZ (w_ G 199 rfl)) (mvT hZ (w_ G 200 rfl)) (by decide) (backOf (W := 4) (rmmin16_1 l Z a0 G []  h4 n0 O5 ) hZ (w_ G 200 rfl) (w_ G 199 rfl) (by decide) (by decide)) (g := (mkF m 24 lv6 [(.int 1), (.int 16), (.int 0), (.ref b4), (.int 0), (.ref vb)])) rfl (by rw [hml]; rfl) (argsL := [(.int 16), (.int 1)]) (rest := [(.int 0), (.ref b4), (.int 0), (.ref vb)]) (lenOf pd_9 rfl) rfl (own_z rfl) (hb hby d18_24) (fun _ _ => ⟨rfl, e4, (ol rfl), (ol rfl)⟩)
 dsimp only [Pt.U, Pt.locs, Pt.cells, Pt.slots] at X9 l9 y9 z9 st9 hQ9
 subst l9 y9 z9
 obtain ⟨rfl, N9q, eh9⟩ := hQ9
 have N9 := Fr.app N2 N9q
 refine oo (S' := T9.setTop (mkF m 27 lv6 [(.int 1), (.int 0), (.ref b4), (.int 0), (.ref vb)])) st9 ?_
 obtain ⟨T10, h10, L10, X10, e10, N10, Kc10, Vc10, st10⟩ := cpA X9 hx hZ hown (w_ G 201 rfl) (w_ G 204 rfl) (w_ G 202 rfl) (w_ G 203 rfl) eh9 f7 V4 (us := [g]) (Or.inl ⟨rfl, rfl⟩) (sp := (0 : Int32)) (dp := (0 : Int32)) (nn := (1 : Int32)) (by decide) (by decide) (by decide) (by decide) (by decide) rfl (Nat.le_of_ble_eq_true rfl) N9 (by omega) (g := (mkF m 27 lv6 [(.int 1), (.int 0), (.ref b4), (.int 0), (.ref vb)])) rfl (by rw [hml]; rfl) rfl (hb hby d18_27) (by decide) (W := 0) (own_z rfl) (by decide)
 have sz11 := Kc10.1
 have K11 := K5.trans Kc10 (own_all1 (Or.inr (by omega)))
 have V10 : Arv Z h10 b4 k4 .byte (1 : Int32) [g] (.int 0) := Vc10
 refine oo (S' := T10.setTop (mkF m 30 lv6 [])) st10 ?_
 refine oo (S' := T10.setTop (mkF m 32 lv6 [(.ref b4)])) (fun _ kK => XS.aload X10.here hx rfl (hb hby d18_30) rfl rfl kK) ?_
 refine OwnEnd.ret X10 (v := (some (.ref b4))) (fun h => by rw [Bd.returns] at h; cases h) hlk (fun fs hr => retOut X10 hx Bd.returns rfl (Or.inr (Or.inr (Or.inr (Or.inr ⟨rfl, rfl, rfl⟩)))) (hb hby d18_32) hr) (by decide) (by decide) (Q := Qcpb Z vb kv g h0 n0) e10 ?_
 exact ⟨b4, k4, rfl, N10, K11, V10, (by omega)⟩

theorem own_efcor (m : MethodId) (vb : Addr) : entryFrame m #[(.ref vb), (.int 0), (.int 1)] 3 = mkF m 0 #[vR vb, vI 0, vI 1] [] := by first | (simp [entryFrame, mkF, argsToLocals, Value.category]; done) | rfl
def Qcor (Z : State) (vb : Addr) (kv : ClassId) (g : Value) (h0 : Heap) (n0 : Nat) (v : Option Value) (h : Heap) (L : List Loc) : Prop := ∃ (b : Addr) (kb : ClassId), v = some (.ref b) ∧ Fr n0 L ∧ Keep h0 h [] ∧ (Arv Z h b kb .byte (1 : Int32) [g] (.int 0)) ∧ (Array.size h0 ≤ b)
set_option maxRecDepth 65536 in
set_option maxHeartbeats 40000000 in
theorem rmcor (l : Launch) (Z : State) (a0 : Array Value) (G : OwnG Z a0) (ws : List Jvm.Cond) (vb : Addr) (kv : ClassId) (g : Value) (h0 : Heap) (n0 : Nat) (O0 : Old Z n0 h0) (P0 : Arv Z h0 vb kv .byte (16 : Int32) [g, (.int 0), (.int 0), (.int 0), (.int 0), (.int 0), (.int 0), (.int 0), (.int 0), (.int 0), (.int 0), (.int 0), (.int 0), (.int 0), (.int 0), (.int 0)] (.int 0)) :
  MetFree l own_m20 (head1 (Jvm.Cond.code own_m20 B30 3 (some (.array .byte)) :: ws) (rR 2 1 1 34)) (fun a U => a = #[(.ref vb), (.int 0), (.int 1)] ∧ Z.Warmed39 U.vm ∧ U.heap = h0) (fun _ _ _ _ _ => True) (fun _ U o U' => ∃ v L, o = .returned v ∧ Qcor Z vb kv g h0 n0 v U'.heap L ∧ FrameEnd U o U' L (rR 2 1 1 34).cells (rR 2 1 1 34).slots) := by
 refine MetFree.of_bodySF (plainFor_of_name pn_5) hisR ?_
 intro p e s m args below meth cD s₁ Bd hml0 hP hK
 obtain ⟨rfl, hZ, hh⟩ := hP
 have hml : cD.maxLocals = 3 := hml0
 obtain ⟨hx, hby, (hown : s.vm.findClass "java/util/Arrays" = some m.cls), hlk, X0, e0⟩ := own_st Bd hh
 have lt0 := lN P0.lt
 have K0 : Keep h0 h0 [] := Keep.refl h0 _
 have Z0 := own_old_le O0
 have N0 := Fr.nil n0
 let lv1 : Array Slot := #[vR vb, vI 0, vI 1]
 refine OwnEnd.start (g' := (mkF m 0 lv1 [])) (own_efcor m vb) ?_
 refine oo (S' := s₁.setTop (mkF m 6 lv1 [(.ref vb), (.int 1)])) (fun _ kK => XS.iloadN X0.here hx rfl (hb hby d20_0) rfl (XS.ifNo X0.here hx rfl (hb hby d20_1) rfl ((if0 _ _).trans (teq ((by decide : (0 : Int32) = (0 : Int32)))).2) (XS.iloadN X0.here hx rfl (hb hby d20_4) rfl (XS.aloadN X0.here hx rfl (hb hby d20_5) rfl rfl kK)))) ?_
 obtain ⟨cl2, Ar2, q2, S2, N2', H2, G2⟩ := id P0
 refine oo (S' := s₁.setTop (mkF m 7 lv1 [(.int 16), (.int 1)])) (fun _ kK => X0.arraylength hx (by rw [e0]; exact Ar2.1) (State.isArrayOf_alike hZ.alike Ar2.2.1) (g := (mkF m 6 lv1 [(.ref vb), (.int 1)])) rfl rfl (hb hby d20_6) _ (by rw [len_of S2 N2']; exact kK)) ?_
 refine oo (S' := s₁.setTop (mkF m 13 lv1 [(.int 1), (.int 0), (.ref vb)])) (fun _ kK => XS.icmpNo X0.here hx rfl (hb hby d20_7) rfl (feq ((by decide : ¬ ((1 : Int32) = (16 : Int32))))).1 (XS.aloadN X0.here hx rfl (hb hby d20_10) rfl rfl (XS.iloadN X0.here hx rfl (hb hby d20_11) rfl (XS.iloadN X0.here hx rfl (hb hby d20_12) rfl kK)))) ?_
 obtain ⟨_, _, ⟨T3, L3, k3, n3⟩, -, X3, ⟨Lc3, hQ3, l3, y3, z3⟩, st3⟩ := Jvm.LawKit.callS X0 hx (y := own_m19) hown (mvT hZ (w_ G 191 rfl)) (mvT hZ (w_ G 192 rfl)) (mvT hZ (w_ G 189 rfl)) (mvT hZ (w_ G 193 rfl)) (by decide) (backOf (W := 0) (rmcpb l Z a0 G [] vb kv g h0 n0 O0 P0) hZ (w_ G 193 rfl) (w_ G 189 rfl) (by decide) (by decide)) (g := (mkF m 13 lv1 [(.int 1), (.int 0), (.ref vb)])) rfl (by rw [hml]; rfl) (argsL := [(.ref vb), (.int 0), (.int 1)]) (rest := []) (lenOf pd_10 rfl) rfl (own_z rfl) (hb hby d20_13) (fun _ _ => ⟨rfl, e0, (ol rfl), (ol rfl)⟩)
 dsimp only [Pt.U, Pt.locs, Pt.cells, Pt.slots] at X3 l3 y3 z3 st3 hQ3
 subst l3 y3 z3
 obtain ⟨b_3, kb_3, rfl, N3q, Kq3, r3_0, r3_1⟩ := hQ3
 have N3 := Fr.app N0 N3q
 have sz4 := Kq3.1
 have K4 := K0.trans Kq3 (own_all0 )
 have ltr3_0 := lN r3_0.lt
 refine oo (S' := T3.setTop (mkF m 16 lv1 [(.ref b_3)])) st3 ?_
 refine OwnEnd.ret X3 (v := (some (.ref b_3))) (fun h => by rw [Bd.returns] at h; cases h) hlk (fun fs hr => retOut X3 hx Bd.returns rfl (Or.inr (Or.inr (Or.inr (Or.inr ⟨rfl, rfl, rfl⟩)))) (hb hby d20_16) hr) (by decide) (by decide) (Q := Qcor Z vb kv g h0 n0) rfl ?_
 exact ⟨b_3, kb_3, rfl, N3, K4, r3_0, (by omega)⟩

theorem own_efsi2 (m : MethodId) (x0 : Addr) (sb : Addr) : entryFrame m #[(.ref x0), (.ref sb), .null] 5 = mkF m 0 #[vR x0, vR sb, .val .null, .unset, .unset] [] := by first | (simp [entryFrame, mkF, argsToLocals, Value.category]; done) | rfl
def Qsi2 (Z : State) (x0 : Addr) (sb : Addr) (vb : Addr) (kv : ClassId) (g : Value) (ml : Value) (v0 : Value) (c9 : Value) (h0 : Heap) (n0 : Nat) (v : Option Value) (h : Heap) (L : List Loc) : Prop := ∃ (t : Addr) (kb : ClassId), v = none ∧ Fr n0 L ∧ Keep h0 h [x0] ∧ (Exa Z h x0 j1) ∧ (Fld Z h x0 j1 "value" "[B" (.ref t)) ∧ (Fld Z h x0 j1 "coder" "B" (.int 0)) ∧ (Arv Z h t kb .byte (1 : Int32) [g] (.int 0)) ∧ (Array.size h0 ≤ t)
set_option maxRecDepth 65536 in
set_option maxHeartbeats 40000000 in
theorem rmsi2 (l : Launch) (Z : State) (a0 : Array Value) (G : OwnG Z a0) (ws : List Jvm.Cond) (x0 : Addr) (sb : Addr) (vb : Addr) (kv : ClassId) (g : Value) (ml : Value) (v0 : Value) (c9 : Value) (h0 : Heap) (n0 : Nat) (O0 : Old Z n0 h0) (P0 : Exa Z h0 x0 j1) (P1 : Fld Z h0 x0 j1 "value" "[B" v0) (P2 : Fld Z h0 x0 j1 "coder" "B" c9) (P3 : n0 ≤ x0) (P4 : Exa Z h0 sb j5) (P5 : Fld Z h0 sb j0 "value" "[B" (.ref vb)) (P6 : Fld Z h0 sb j0 "coder" "B" (.int 0)) (P7 : Fld Z h0 sb j0 "count" "I" (.int 1)) (P8 : Fld Z h0 sb j0 "maybeLatin1" "Z" ml) (P9 : Arv Z h0 vb kv .byte (16 : Int32) [g, (.int 0), (.int 0), (.int 0), (.int 0), (.int 0), (.int 0), (.int 0), (.int 0), (.int 0), (.int 0), (.int 0), (.int 0), (.int 0), (.int 0), (.int 0)] (.int 0)) (P10 : x0 ≠ sb) (P11 : x0 ≠ vb) :
  MetFree l own_m21 (head1 (Jvm.Cond.code own_m21 B31 5 none :: ws) (rR 3 1 1 49)) (fun a U => a = #[(.ref x0), (.ref sb), .null] ∧ Z.Warmed39 U.vm ∧ U.heap = h0) (fun _ _ _ _ _ => True) (fun _ U o U' => ∃ v L, o = .returned v ∧ Qsi2 Z x0 sb vb kv g ml v0 c9 h0 n0 v U'.heap L ∧ FrameEnd U o U' L (rR 3 1 1 49).cells (rR 3 1 1 49).slots) := by
 refine MetFree.of_bodySF (plainFor_of_name pn_1) hisR ?_
 intro p e s m args below meth cD s₁ Bd hml0 hP hK
 obtain ⟨rfl, hZ, hh⟩ := hP
 have hml : cD.maxLocals = 5 := hml0
 have hnm := (name_of_methodNamed Bd.named Bd.method).1
 obtain ⟨hx, hby, (hown : s.vm.findClass j1 = some m.cls), hlk, X0, e0⟩ := own_st Bd hh
 have lt0 := lN P0.lt
 have lt1 := lN P1.lt
 have lt2 := lN P2.lt
 have lt4 := lN P4.lt
 have lt5 := lN P5.lt
 have lt6 := lN P6.lt
 have lt7 := lN P7.lt
 have lt8 := lN P8.lt
 have lt9 := lN P9.lt
 have nP10 := own_neN P10
 have nP11 := own_neN P11
 have K0 : Keep h0 h0 [x0] := Keep.refl h0 _
 have Z0 := own_old_le O0
 have N0 := Fr.nil n0
 let lv1 : Array Slot := #[vR x0, vR sb, .val .null, .unset, .unset]
 refine OwnEnd.start (g' := (mkF m 0 lv1 [])) (own_efsi2 m x0 sb) ?_
 refine oo (S' := s₁.setTop (mkF m 1 lv1 [(.ref x0)])) (fun _ kK => XS.aloadN X0.here hx rfl (hb hby d21_0) rfl rfl kK) ?_
 obtain ⟨T2, X2, e2, st2⟩ := initO X0 hx hZ hown (w_ G 26 rfl) (w_ G 27 rfl) (w_ G 28 rfl) e0 (g := (mkF m 1 lv1 [(.ref x0)])) rfl (by rw [hml]; rfl) rfl (hb hby d21_1) (by decide) (W := 0) (own_z rfl) (by decide)
 refine oo (S' := T2.setTop (mkF m 4 lv1 [])) st2 ?_
 refine oo (S' := T2.setTop (mkF m 5 lv1 [(.ref sb)])) (fun _ kK => XS.aloadN X2.here hx rfl (hb hby d21_4) rfl rfl kK) ?_
 obtain ⟨cq3, kq3, q3a, q3b, q3c⟩ := isOf hZ e2 P4
 obtain ⟨_, _, ⟨T3, L3, k3, n3⟩, -, X3, ⟨Lc3, hQ3, l3, y3, z3⟩, st3⟩ := X2.virtualBack hx (y := own_m16) (z := own_m16) hown (mvT hZ (w_ G 179 rfl)) (mvT hZ (w_ G 180 rfl)) (notFace_of_selects (args := #[]) (mvT hZ (w_ G 182 rfl))) (mvT hZ (w_ G 182 rfl)) (mvT hZ (w_ G 181 rfl)) (by decide) (backOf (W := 0) (rmgv l Z a0 G [] sb vb h0 n0 O0 P5) hZ (w_ G 183 rfl) (w_ G 92 rfl) (by decide) (by decide)) q3a q3c (g := (mkF m 5 lv1 [(.ref sb)])) rfl (by rw [hml]; rfl) (Steps.refl _) (argsL := []) (rest := []) (lenOf pd_11 rfl) rfl (own_z rfl) (hb hby d21_5) (fun _ _ => ⟨rfl, e2, (ol rfl), (ol rfl)⟩)
 dsimp only [Pt.U, Pt.locs, Pt.cells, Pt.slots] at X3 l3 y3 z3 st3 hQ3
 subst l3 y3 z3
 obtain ⟨rfl, N3q, eh3⟩ := hQ3
 have N3 := Fr.app N0 N3q
 refine ot (S' := T3.setTop (mkF m 8 lv1 [(.ref vb)])) st3 ?_
 let lv4 : Array Slot := #[vR x0, vR sb, .val .null, vR vb, .unset]
 refine oo (S' := T3.setTop (mkF m 10 lv4 [(.ref sb)])) (fun _ kK => XS.astoreN X3.here hx rfl (hb hby d21_8) rfl rfl (l' := lv4) rfl (XS.aloadN X3.here hx rfl (hb hby d21_9) rfl rfl kK)) ?_
 obtain ⟨cq5, kq5, q5a, q5b, q5c⟩ := isOf hZ eh3 P4
 obtain ⟨_, _, ⟨T5, L5, k5, n5⟩, -, X5, ⟨Lc5, hQ5, l5, y5, z5⟩, st5⟩ := X3.virtualBack hx (y := own_m14) (z := own_m15) hown (mvT hZ (w_ G 184 rfl)) (mvT hZ (w_ G 165 rfl)) (oI (mvT hZ (w_ G 146 rfl)) rfl) (mvT hZ (w_ G 185 rfl)) (mvT hZ (w_ G 160 rfl)) (by decide) (backOf (W := 0) (rmsln l Z a0 G [] sb (1 : Int32) h0 n0 O0 P4 P7) hZ (w_ G 162 rfl) (w_ G 84 rfl) (by decide) (by decide)) q5a q5c (g := (mkF m 10 lv4 [(.ref sb)])) rfl (by rw [hml]; rfl) (Steps.refl _) (argsL := []) (rest := []) (lenOf pd_8 rfl) rfl (own_z rfl) (hb hby d21_10) (fun _ _ => ⟨rfl, eh3, (ol rfl), (ol rfl)⟩)
 dsimp only [Pt.U, Pt.locs, Pt.cells, Pt.slots] at X5 l5 y5 z5 st5 hQ5
 subst l5 y5 z5
 obtain ⟨rfl, N5q, eh5⟩ := hQ5
 have N5 := Fr.app N3 N5q
 refine ot (S' := T5.setTop (mkF m 13 lv4 [(.int 1)])) st5 ?_
 let lv6 : Array Slot := #[vR x0, vR sb, .val .null, vR vb, vI 1]
 refine oo (S' := T5.setTop (mkF m 16 lv6 [(.ref sb)])) (fun _ kK => XS.istore X5.here hx rfl (hb hby d21_13) rfl (l' := lv6) rfl (XS.aloadN X5.here hx rfl (hb hby d21_15) rfl rfl kK)) ?_
 obtain ⟨cq7, kq7, q7a, q7b, q7c⟩ := isOf hZ eh5 P4
 obtain ⟨_, _, ⟨T7, L7, k7, n7⟩, -, X7, ⟨Lc7, hQ7, l7, y7, z7⟩, st7⟩ := X5.virtualBack hx (y := own_m8) (z := own_m8) hown (mvT hZ (w_ G 186 rfl)) (mvT hZ (w_ G 149 rfl)) (notFace_of_selects (args := #[]) (mvT hZ (w_ G 151 rfl))) (mvT hZ (w_ G 151 rfl)) (mvT hZ (w_ G 150 rfl)) (by decide) (backOf (W := 0) (rmasl l Z a0 G [] sb h0 n0 O0 P6) hZ (w_ G 152 rfl) (w_ G 92 rfl) (by decide) (by decide)) q7a q7c (g := (mkF m 16 lv6 [(.ref sb)])) rfl (by rw [hml]; rfl) (Steps.refl _) (argsL := []) (rest := []) (lenOf pd_3 rfl) rfl (own_z rfl) (hb hby d21_16) (fun _ _ => ⟨rfl, eh5, (ol rfl), (ol rfl)⟩)
 dsimp only [Pt.U, Pt.locs, Pt.cells, Pt.slots] at X7 l7 y7 z7 st7 hQ7
 subst l7 y7 z7
 obtain ⟨rfl, N7q, eh7⟩ := hQ7
 have N7 := Fr.app N5 N7q
 refine ot (S' := T7.setTop (mkF m 19 lv6 [(.int 1)])) st7 ?_
 refine oo (S' := T7.setTop (mkF m 24 lv6 [(.int 0), (.ref x0)])) (fun _ kK => XS.ifNo X7.here hx rfl (hb hby d21_19) rfl ((if0 _ _).trans (feq ((by decide : ¬ ((1 : Int32) = (0 : Int32))))).1) (XS.aloadN X7.here hx rfl (hb hby d21_22) rfl rfl (XS.iconst X7.here hx rfl (hb hby d21_23) kK))) ?_
 obtain ⟨T8, h8, X8, e8, W8, st8⟩ := putFN X7 hx hZ hown (w_ G 31 rfl) Via.refl eh7 P2 P0 (Or.inr ⟨(w_ G 32 rfl), rfl, hnm⟩) (w_ G 17 rfl) (ty := .byte) (v' := (.int 0)) (by decide) rfl rfl (g := (mkF m 24 lv6 [(.int 0), (.ref x0)])) rfl rfl (hb hby d21_24)
 have Fw8 := P2.same W8
 have N8 := Fr.snoc X8 N7 (by omega)
 have sz9 := own_wr_le W8
 have K9 := K0.wr W8 (Or.inl (by simp))
 have O9 := O0.wr W8 (by omega)
 refine oo (S' := T8.setTop (mkF m 27 lv6 [])) st8 ?_
 refine oo (S' := T8.setTop (mkF m 32 lv6 [(.int 1), (.int 0), (.ref vb), (.ref x0)])) (fun _ kK => XS.aloadN X8.here hx rfl (hb hby d21_27) rfl rfl (XS.aloadN X8.here hx rfl (hb hby d21_28) rfl rfl (XS.iconst X8.here hx rfl (hb hby d21_29) (XS.iload X8.here hx rfl (hb hby d21_30) rfl kK)))) ?_
 have f10 := (P9.other W8 (on (by omega)))
 obtain ⟨_, _, ⟨T11, L11, k11, n11⟩, -, X11, ⟨Lc11, hQ11, l11, y11, z11⟩, st11⟩ := Jvm.LawKit.callS X8 hx (y := own_m20) hown (mvT hZ (w_ G 187 rfl)) (mvT hZ (w_ G 188 rfl)) (mvT hZ (w_ G 189 rfl)) (mvT hZ (w_ G 190 rfl)) (by decide) (backOf (W := 1) (rmcor l Z a0 G [] vb kv g h8 n0 O9 f10) hZ (w_ G 190 rfl) (w_ G 189 rfl) (by decide) (by decide)) (g := (mkF m 32 lv6 [(.int 1), (.int 0), (.ref vb), (.ref x0)])) rfl (by rw [hml]; rfl) (argsL := [(.ref vb), (.int 0), (.int 1)]) (rest := [(.ref x0)]) (lenOf pd_10 rfl) rfl (own_z rfl) (hb hby d21_32) (fun _ _ => ⟨rfl, e8, (ol rfl), (ol rfl)⟩)
 dsimp only [Pt.U, Pt.locs, Pt.cells, Pt.slots] at X11 l11 y11 z11 st11 hQ11
 subst l11 y11 z11
 obtain ⟨b_11, kb_11, rfl, N11q, Kq11, r11_0, r11_1⟩ := hQ11
 have N11 := Fr.app N8 N11q
 have sz12 := Kq11.1
 have K12 := K9.trans Kq11 (own_all0 )
 have ltr11_0 := lN r11_0.lt
 refine oo (S' := T11.setTop (mkF m 35 lv6 [(.ref b_11), (.ref x0)])) st11 ?_
 have f14 := ((P1.other W8 (Or.inr (slot_ne (Or.inr (w_ G 30 rfl)) (Or.inr (w_ G 32 rfl)) (by decide) (t := (.array .byte)) (t' := .byte) (by decide) (by decide)))).keep Kq11 nin0)
 have f15 := ((P0.wr W8).keep Kq11)
 obtain ⟨T13, h13, X13, e13, W13, st13⟩ := putF X11 hx hZ hown (host := "") (Or.inl (w_ G 29 rfl)) Via.refl rfl f14 f15 (Or.inr ⟨(w_ G 30 rfl), rfl, hnm⟩) (w_ G 17 rfl) (ty := (.array .byte)) (by decide) rfl rfl (g := (mkF m 35 lv6 [(.ref b_11), (.ref x0)])) rfl rfl (hb hby d21_35)
 have Fw13 := f14.same W13
 have N13 := Fr.snoc X13 N11 (by omega)
 have sz16 := own_wr_le W13
 have K16 := K12.wr W13 (Or.inl (by simp))
 refine oo (S' := T13.setTop (mkF m 38 lv6 [])) st13 ?_
 refine oo (S' := T13.setTop (mkF m 97 lv6 [])) (fun _ kK => XS.goto X13.here hx rfl (pc0 := 38) (pc' := 97) rfl (hb hby d21_38) (by decide) (by decide) kK) ?_
 have f17 := (f15.wr W13)
 have f18 := ((Fw8.keep Kq11 nin0).other W13 (Or.inr (slot_ne (Or.inr (w_ G 32 rfl)) (Or.inr (w_ G 30 rfl)) (by decide) (t := .byte) (t' := (.array .byte)) (by decide) (by decide))))
 have f19 := (r11_0.other W13 (on (by omega)))
 refine OwnEnd.ret X13 (v := none) (fun _ => rfl) hlk (fun fs hr => X13.returnOut hx Bd.returns (hb hby d21_97) hr) (by decide) (by decide) (Q := Qsi2 Z x0 sb vb kv g ml v0 c9 h0 n0) e13 ?_
 exact ⟨b_11, kb_11, rfl, N13, K16, f17, Fw13, f18, f19, (by omega)⟩

theorem own_efsi1 (m : MethodId) (x0 : Addr) (sb : Addr) : entryFrame m #[(.ref x0), (.ref sb)] 2 = mkF m 0 #[vR x0, vR sb] [] := by first | (simp [entryFrame, mkF, argsToLocals, Value.category]; done) | rfl
def Qsi1 (Z : State) (x0 : Addr) (sb : Addr) (vb : Addr) (kv : ClassId) (g : Value) (ml : Value) (v0 : Value) (c9 : Value) (h0 : Heap) (n0 : Nat) (v : Option Value) (h : Heap) (L : List Loc) : Prop := ∃ (t : Addr) (kb : ClassId), v = none ∧ Fr n0 L ∧ Keep h0 h [x0] ∧ (Exa Z h x0 j1) ∧ (Fld Z h x0 j1 "value" "[B" (.ref t)) ∧ (Fld Z h x0 j1 "coder" "B" (.int 0)) ∧ (Arv Z h t kb .byte (1 : Int32) [g] (.int 0)) ∧ (Array.size h0 ≤ t)
set_option maxRecDepth 65536 in
set_option maxHeartbeats 40000000 in
theorem rmsi1 (l : Launch) (Z : State) (a0 : Array Value) (G : OwnG Z a0) (ws : List Jvm.Cond) (x0 : Addr) (sb : Addr) (vb : Addr) (kv : ClassId) (g : Value) (ml : Value) (v0 : Value) (c9 : Value) (h0 : Heap) (n0 : Nat) (O0 : Old Z n0 h0) (P0 : Exa Z h0 x0 j1) (P1 : Fld Z h0 x0 j1 "value" "[B" v0) (P2 : Fld Z h0 x0 j1 "coder" "B" c9) (P3 : n0 ≤ x0) (P4 : Exa Z h0 sb j5) (P5 : Fld Z h0 sb j0 "value" "[B" (.ref vb)) (P6 : Fld Z h0 sb j0 "coder" "B" (.int 0)) (P7 : Fld Z h0 sb j0 "count" "I" (.int 1)) (P8 : Fld Z h0 sb j0 "maybeLatin1" "Z" ml) (P9 : Arv Z h0 vb kv .byte (16 : Int32) [g, (.int 0), (.int 0), (.int 0), (.int 0), (.int 0), (.int 0), (.int 0), (.int 0), (.int 0), (.int 0), (.int 0), (.int 0), (.int 0), (.int 0), (.int 0)] (.int 0)) (P10 : x0 ≠ sb) (P11 : x0 ≠ vb) :
  MetFree l own_m22 (head1 (Jvm.Cond.code own_m22 B32 2 none :: ws) (rR 4 1 1 65)) (fun a U => a = #[(.ref x0), (.ref sb)] ∧ Z.Warmed39 U.vm ∧ U.heap = h0) (fun _ _ _ _ _ => True) (fun _ U o U' => ∃ v L, o = .returned v ∧ Qsi1 Z x0 sb vb kv g ml v0 c9 h0 n0 v U'.heap L ∧ FrameEnd U o U' L (rR 4 1 1 65).cells (rR 4 1 1 65).slots) := by
 refine MetFree.of_bodySF (plainFor_of_name pn_1) hisR ?_
 intro p e s m args below meth cD s₁ Bd hml0 hP hK
 obtain ⟨rfl, hZ, hh⟩ := hP
 have hml : cD.maxLocals = 2 := hml0
 obtain ⟨hx, hby, (hown : s.vm.findClass j1 = some m.cls), hlk, X0, e0⟩ := own_st Bd hh
 have lt0 := lN P0.lt
 have lt1 := lN P1.lt
 have lt2 := lN P2.lt
 have lt4 := lN P4.lt
 have lt5 := lN P5.lt
 have lt6 := lN P6.lt
 have lt7 := lN P7.lt
 have lt8 := lN P8.lt
 have lt9 := lN P9.lt
 have nP10 := own_neN P10
 have nP11 := own_neN P11
 have K0 : Keep h0 h0 [x0] := Keep.refl h0 _
 have Z0 := own_old_le O0
 have N0 := Fr.nil n0
 refine OwnEnd.start (g' := (mkF m 0 #[vR x0, vR sb] [])) (own_efsi1 m x0 sb) ?_
 refine oo (S' := s₁.setTop (mkF m 3 #[vR x0, vR sb] [.null, (.ref sb), (.ref x0)])) (fun _ kK => XS.aloadN X0.here hx rfl (hb hby d22_0) rfl rfl (XS.aloadN X0.here hx rfl (hb hby d22_1) rfl rfl (XS.aconstNull X0.here hx rfl (hb hby d22_2) kK))) ?_
 obtain ⟨_, _, ⟨T1, L1, k1, n1⟩, -, X1, ⟨Lc1, hQ1, l1, y1, z1⟩, st1⟩ := Jvm.Stand.specialBack X0 hx (y := own_m21) rfl hown (mvT hZ (w_ G 176 rfl)) (mvT hZ (w_ G 177 rfl)) (mvT hZ (w_ G 178 rfl)) (by decide) (backOf (W := 0) (rmsi2 l Z a0 G [] x0 sb vb kv g ml v0 c9 h0 n0 O0 P0 P1 P2 (by omega) P4 P5 P6 P7 P8 P9 (on (by omega)) (on (by omega))) hZ (w_ G 178 rfl) (w_ G 9 rfl) (by decide) (by decide)) (g := (mkF m 3 #[vR x0, vR sb] [.null, (.ref sb), (.ref x0)])) rfl (by rw [hml]; rfl) (Steps.refl _) (a := x0) (argsL := [(.ref sb), .null]) (rest := []) (lenOf pd_12 rfl) rfl (own_z rfl) (hb hby d22_3) (fun _ _ => ⟨rfl, e0, (ol rfl), (ol rfl)⟩)
 dsimp only [Pt.U, Pt.locs, Pt.cells, Pt.slots] at X1 l1 y1 z1 st1 hQ1
 subst l1 y1 z1
 obtain ⟨t_1, kb_1, rfl, N1q, Kq1, r1_0, r1_1, r1_2, r1_3, r1_4⟩ := hQ1
 have N1 := Fr.app N0 N1q
 have sz2 := Kq1.1
 have K2 := K0.trans Kq1 (own_all1 (Or.inl (by simp)))
 have ltr1_0 := lN r1_0.lt
 have ltr1_1 := lN r1_1.lt
 have ltr1_2 := lN r1_2.lt
 have ltr1_3 := lN r1_3.lt
 refine ot (S' := T1.setTop (mkF m 6 #[vR x0, vR sb] [])) st1 ?_
 refine OwnEnd.ret X1 (v := none) (fun _ => rfl) hlk (fun fs hr => X1.returnOut hx Bd.returns (hb hby d22_6) hr) (by decide) (by decide) (Q := Qsi1 Z x0 sb vb kv g ml v0 c9 h0 n0) rfl ?_
 exact ⟨t_1, kb_1, rfl, N1, K2, r1_0, r1_1, r1_2, r1_3, (by omega)⟩

theorem own_eftos (m : MethodId) (sb : Addr) : entryFrame m #[(.ref sb)] 1 = mkF m 0 #[vR sb] [] := by first | (simp [entryFrame, mkF, argsToLocals, Value.category]; done) | rfl
def Qtos (Z : State) (sb : Addr) (vb : Addr) (kv : ClassId) (g : Value) (ml : Value) (h0 : Heap) (n0 : Nat) (v : Option Value) (h : Heap) (L : List Loc) : Prop := ∃ (x : Addr) (t : Addr) (kb : ClassId), v = some (.ref x) ∧ Fr n0 L ∧ Keep h0 h [] ∧ (Exa Z h x j1) ∧ (Fld Z h x j1 "value" "[B" (.ref t)) ∧ (Fld Z h x j1 "coder" "B" (.int 0)) ∧ (Arv Z h t kb .byte (1 : Int32) [g] (.int 0)) ∧ (Array.size h0 ≤ t) ∧ (Array.size h0 ≤ x)
set_option maxRecDepth 65536 in
set_option maxHeartbeats 40000000 in
theorem rmtos (l : Launch) (Z : State) (a0 : Array Value) (G : OwnG Z a0) (ws : List Jvm.Cond) (sb : Addr) (vb : Addr) (kv : ClassId) (g : Value) (ml : Value) (h0 : Heap) (n0 : Nat) (O0 : Old Z n0 h0) (P0 : Exa Z h0 sb j5) (P1 : Fld Z h0 sb j0 "value" "[B" (.ref vb)) (P2 : Fld Z h0 sb j0 "coder" "B" (.int 0)) (P3 : Fld Z h0 sb j0 "count" "I" (.int 1)) (P4 : Fld Z h0 sb j0 "maybeLatin1" "Z" ml) (P5 : Arv Z h0 vb kv .byte (16 : Int32) [g, (.int 0), (.int 0), (.int 0), (.int 0), (.int 0), (.int 0), (.int 0), (.int 0), (.int 0), (.int 0), (.int 0), (.int 0), (.int 0), (.int 0), (.int 0)] (.int 0)) :
  MetFree l own_m23 (head1 (Jvm.Cond.code own_m23 B33 1 (some (.object j1)) :: ws) (rR 5 2 5 79)) (fun a U => a = #[(.ref sb)] ∧ Z.Warmed39 U.vm ∧ U.heap = h0) (fun _ _ _ _ _ => True) (fun _ U o U' => ∃ v L, o = .returned v ∧ Qtos Z sb vb kv g ml h0 n0 v U'.heap L ∧ FrameEnd U o U' L (rR 5 2 5 79).cells (rR 5 2 5 79).slots) := by
 refine MetFree.of_bodySF (plainFor_of_name pn_4) hisR ?_
 intro p e s m args below meth cD s₁ Bd hml0 hP hK
 obtain ⟨rfl, hZ, hh⟩ := hP
 have hml : cD.maxLocals = 1 := hml0
 obtain ⟨hx, hby, (hown : s.vm.findClass j5 = some m.cls), hlk, X0, e0⟩ := own_st Bd hh
 have lt0 := lN P0.lt
 have lt1 := lN P1.lt
 have lt2 := lN P2.lt
 have lt3 := lN P3.lt
 have lt4 := lN P4.lt
 have lt5 := lN P5.lt
 have K0 : Keep h0 h0 [] := Keep.refl h0 _
 have Z0 := own_old_le O0
 have N0 := Fr.nil n0
 refine OwnEnd.start (g' := (mkF m 0 #[vR sb] [])) (own_eftos m sb) ?_
 obtain ⟨T1, h1, X1, e1, E1, A1, D1, -, st1⟩ := newO X0 hx hZ hown (w_ G 172 rfl) (w_ G 17 rfl) (w_ G 9 rfl) e0 (g := (mkF m 0 #[vR sb] [])) rfl (hb hby d23_0) (by decide) (by decide)
 obtain ⟨b1, g1⟩ : ∃ z, z = Array.size h0 := ⟨_, rfl⟩
 rw [← g1] at A1 D1 st1
 have lt_b1 := lN A1.lt
 have sz2 := E1.1
 have K2 := K0.ext E1
 have O2 := O0.ext E1
 have F1_value : Fld Z h1 b1 j1 "value" "[B" .null := D1 (Or.inr (w_ G 30 rfl)) (ty := (.array .byte)) (by decide)
 have F1_coder : Fld Z h1 b1 j1 "coder" "B" (.int 0) := D1 (Or.inr (w_ G 32 rfl)) (ty := .byte) (by decide)
 refine oo (S' := T1.setTop (mkF m 3 #[vR sb] [(.ref b1)])) st1 ?_
 refine oo (S' := T1.setTop (mkF m 5 #[vR sb] [(.ref sb), (.ref b1), (.ref b1)])) (fun _ kK => XS.dup X1.here hx rfl (hb hby d23_3) rfl rfl (XS.aloadN X1.here hx rfl (hb hby d23_4) rfl rfl kK)) ?_
 have f3 := (P0.ext E1)
 have f4 := (P1.ext E1)
 have f5 := (P2.ext E1)
 have f6 := (P3.ext E1)
 have f7 := (P4.ext E1)
 have f8 := (P5.ext E1)
 obtain ⟨_, _, ⟨T9, L9, k9, n9⟩, -, X9, ⟨Lc9, hQ9, l9, y9, z9⟩, st9⟩ := Jvm.Stand.specialBack X1 hx (y := own_m22) rfl hown (mvT hZ (w_ G 173 rfl)) (mvT hZ (w_ G 174 rfl)) (mvT hZ (w_ G 175 rfl)) (by decide) (backOf (W := 1) (rmsi1 l Z a0 G [] b1 sb vb kv g ml .null (.int 0) h1 n0 O2 A1 F1_value F1_coder (by omega) f3 f4 f5 f6 f7 f8 (on (by omega)) (on (by omega))) hZ (w_ G 175 rfl) (w_ G 9 rfl) (by decide) (by decide)) (g := (mkF m 5 #[vR sb] [(.ref sb), (.ref b1), (.ref b1)])) rfl (by rw [hml]; rfl) (Steps.refl _) (a := b1) (argsL := [(.ref sb)]) (rest := [(.ref b1)]) (lenOf pd_13 rfl) rfl (own_z rfl) (hb hby d23_5) (fun _ _ => ⟨rfl, e1, (ol rfl), (ol rfl)⟩)
 dsimp only [Pt.U, Pt.locs, Pt.cells, Pt.slots] at X9 l9 y9 z9 st9 hQ9
 subst l9 y9 z9
 obtain ⟨t_9, kb_9, rfl, N9q, Kq9, r9_0, r9_1, r9_2, r9_3, r9_4⟩ := hQ9
 have N9 := Fr.app N0 N9q
 have sz10 := Kq9.1
 have K10 := K2.trans Kq9 (own_all1 (Or.inr (by omega)))
 have ltr9_0 := lN r9_0.lt
 have ltr9_1 := lN r9_1.lt
 have ltr9_2 := lN r9_2.lt
 have ltr9_3 := lN r9_3.lt
 refine ot (S' := T9.setTop (mkF m 8 #[vR sb] [(.ref b1)])) st9 ?_
 refine OwnEnd.ret X9 (v := (some (.ref b1))) (fun h => by rw [Bd.returns] at h; cases h) hlk (fun fs hr => retOut X9 hx Bd.returns rfl (Or.inr (Or.inr (Or.inr (Or.inr ⟨rfl, rfl, rfl⟩)))) (hb hby d23_8) hr) (by decide) (by decide) (Q := Qtos Z sb vb kv g ml h0 n0) rfl ?_
 exact ⟨b1, t_9, kb_9, rfl, N9, K10, r9_0, r9_1, r9_2, r9_3, (by omega), (by omega)⟩

theorem own_efasn (m : MethodId) (sb : Addr) : entryFrame m #[(.ref sb), (.int 0)] 2 = mkF m 0 #[vR sb, vI 0] [] := by first | (simp [entryFrame, mkF, argsToLocals, Value.category]; done) | rfl
def Qasn (Z : State) (sb : Addr) (vb : Addr) (kv : ClassId) (g : Value) (ml : Value) (h0 : Heap) (n0 : Nat) (v : Option Value) (h : Heap) (L : List Loc) : Prop := v = none ∧ Fr n0 L ∧ Keep h0 h [sb] ∧ (Exa Z h sb j5) ∧ (Fld Z h sb j0 "value" "[B" (.ref vb)) ∧ (Fld Z h sb j0 "coder" "B" (.int 0)) ∧ (Fld Z h sb j0 "count" "I" (.int 0)) ∧ (Fld Z h sb j0 "maybeLatin1" "Z" (.int 1)) ∧ (Arv Z h vb kv .byte (16 : Int32) [g, (.int 0), (.int 0), (.int 0), (.int 0), (.int 0), (.int 0), (.int 0), (.int 0), (.int 0), (.int 0), (.int 0), (.int 0), (.int 0), (.int 0), (.int 0)] (.int 0))
set_option maxRecDepth 65536 in
set_option maxHeartbeats 40000000 in
theorem rmasn (l : Launch) (Z : State) (a0 : Array Value) (G : OwnG Z a0) (ws : List Jvm.Cond) (sb : Addr) (vb : Addr) (kv : ClassId) (g : Value) (ml : Value) (h0 : Heap) (n0 : Nat) (O0 : Old Z n0 h0) (P0 : Exa Z h0 sb j5) (P1 : Fld Z h0 sb j0 "value" "[B" (.ref vb)) (P2 : Fld Z h0 sb j0 "coder" "B" (.int 0)) (P3 : Fld Z h0 sb j0 "count" "I" (.int 1)) (P4 : Fld Z h0 sb j0 "maybeLatin1" "Z" ml) (P5 : Arv Z h0 vb kv .byte (16 : Int32) [g, (.int 0), (.int 0), (.int 0), (.int 0), (.int 0), (.int 0), (.int 0), (.int 0), (.int 0), (.int 0), (.int 0), (.int 0), (.int 0), (.int 0), (.int 0)] (.int 0)) (P6 : n0 ≤ sb) (P7 : n0 ≤ vb) (P8 : sb ≠ vb) :
  MetFree l own_m24 (head1 (Jvm.Cond.code own_m24 B34 2 none :: ws) (rR 1 0 0 14)) (fun a U => a = #[(.ref sb), (.int 0)] ∧ Z.Warmed39 U.vm ∧ U.heap = h0) (fun _ _ _ _ _ => True) (fun _ U o U' => ∃ v L, o = .returned v ∧ Qasn Z sb vb kv g ml h0 n0 v U'.heap L ∧ FrameEnd U o U' L (rR 1 0 0 14).cells (rR 1 0 0 14).slots) := by
 refine MetFree.of_bodySF (plainFor_of_name pn_3) hisR ?_
 intro p e s m args below meth cD s₁ Bd hml0 hP hK
 obtain ⟨rfl, hZ, hh⟩ := hP
 have hml : cD.maxLocals = 2 := hml0
 obtain ⟨hx, hby, (hown : s.vm.findClass j0 = some m.cls), hlk, X0, e0⟩ := own_st Bd hh
 have lt0 := lN P0.lt
 have lt1 := lN P1.lt
 have lt2 := lN P2.lt
 have lt3 := lN P3.lt
 have lt4 := lN P4.lt
 have lt5 := lN P5.lt
 have nP8 := own_neN P8
 have K0 : Keep h0 h0 [sb] := Keep.refl h0 _
 have Z0 := own_old_le O0
 have N0 := Fr.nil n0
 refine OwnEnd.start (g' := (mkF m 0 #[vR sb, vI 0] [])) (own_efasn m sb) ?_
 refine oo (S' := s₁.setTop (mkF m 15 #[vR sb, vI 0] [(.int 0), (.ref sb)])) (fun _ kK => XS.iloadN X0.here hx rfl (hb hby d24_0) rfl (XS.ifYes X0.here hx rfl (pc0 := 1) (pc' := 13) rfl (hb hby d24_1) rfl ((if0 _ _).trans (flt ((by decide : ¬ ((0 : Int32) < (0 : Int32))))).2.1) (by decide) (by decide) (XS.aloadN X0.here hx rfl (hb hby d24_13) rfl rfl (XS.iloadN X0.here hx rfl (hb hby d24_14) rfl kK)))) ?_
 obtain ⟨cq1, kq1, q1a, q1b, cc1, q1d, -, q1e⟩ := isOf hZ e0 P0
 obtain ⟨_, _, ⟨T1, L1, k1, n1⟩, -, X1, ⟨Lc1, hQ1, l1, y1, z1⟩, st1⟩ := X0.privateBack hx (y := own_m11) hown (mvT hZ (w_ G 143 rfl)) (mvT hZ (w_ G 144 rfl)) (own_selP (oI (mvT hZ (w_ G 146 rfl)) rfl) (mvT hZ (w_ G 144 rfl)) (Cond.privateMethod_at (args := #[]) (mvT hZ (w_ G 145 rfl))) (by decide)) (Cond.privateMethod_at (args := #[]) (mvT hZ (w_ G 145 rfl))) (mvT hZ (w_ G 147 rfl)) (by decide) (backOf (W := 0) (rmec0 l Z a0 G [] sb vb kv g h0 n0 O0 P1 P2 P5) hZ (w_ G 147 rfl) (w_ G 92 rfl) (by decide) (by decide)) (g := (mkF m 15 #[vR sb, vI 0] [(.int 0), (.ref sb)])) rfl (by rw [hml]; rfl) (Steps.refl _) q1d (own_nost q1e) (argsL := [(.int 0)]) (rest := []) (lenOf pd_5 rfl) rfl (own_z rfl) (hb hby d24_15) (fun _ _ => ⟨rfl, e0, (ol rfl), (ol rfl)⟩)
 dsimp only [Pt.U, Pt.locs, Pt.cells, Pt.slots] at X1 l1 y1 z1 st1 hQ1
 subst l1 y1 z1
 obtain ⟨rfl, N1q, eh1⟩ := hQ1
 have N1 := Fr.app N0 N1q
 refine ot (S' := T1.setTop (mkF m 18 #[vR sb, vI 0] [])) st1 ?_
 refine oo (S' := T1.setTop (mkF m 19 #[vR sb, vI 0] [(.ref sb)])) (fun _ kK => XS.aloadN X1.here hx rfl (hb hby d24_18) rfl rfl kK) ?_
 obtain ⟨T2, X2, e2, st2⟩ := getF X1 hx hZ hown (host := "") (Or.inl (w_ G 141 rfl)) Via.refl eh1 P3 (g := (mkF m 19 #[vR sb, vI 0] [(.ref sb)])) rfl rfl (hb hby d24_19)
 refine oo (S' := T2.setTop (mkF m 22 #[vR sb, vI 0] [(.int 1)])) st2 ?_
 refine oo (S' := T2.setTop (mkF m 64 #[vR sb, vI 0] [(.ref sb)])) (fun _ kK => XS.iloadN X2.here hx rfl (hb hby d24_22) rfl (XS.icmpYes X2.here hx rfl (pc0 := 23) (pc' := 63) rfl (hb hby d24_23) rfl (flt ((by decide : ¬ ((1 : Int32) < (0 : Int32))))).2.1 (by decide) (by decide) (XS.aloadN X2.here hx rfl (hb hby d24_63) rfl rfl kK))) ?_
 obtain ⟨T3, X3, e3, st3⟩ := getF X2 hx hZ hown (host := "") (Or.inl (w_ G 141 rfl)) Via.refl e2 P3 (g := (mkF m 64 #[vR sb, vI 0] [(.ref sb)])) rfl rfl (hb hby d24_64)
 refine oo (S' := T3.setTop (mkF m 67 #[vR sb, vI 0] [(.int 1)])) st3 ?_
 refine oo (S' := T3.setTop (mkF m 73 #[vR sb, vI 0] [(.int 1), (.ref sb)])) (fun _ kK => XS.iloadN X3.here hx rfl (hb hby d24_67) rfl (XS.icmpNo X3.here hx rfl (hb hby d24_68) rfl (tlt ((by decide : (0 : Int32) < (1 : Int32)))).2.2.2 (XS.aloadN X3.here hx rfl (hb hby d24_71) rfl rfl (XS.iconst X3.here hx rfl (hb hby d24_72) kK)))) ?_
 obtain ⟨T4, h4, X4, e4, W4, st4⟩ := putFN X3 hx hZ hown (w_ G 248 rfl) Via.refl e3 P4 P0 (Or.inl (w_ G 249 rfl)) (w_ G 83 rfl) (ty := .boolean) (v' := (.int 1)) (by decide) rfl rfl (g := (mkF m 73 #[vR sb, vI 0] [(.int 1), (.ref sb)])) rfl rfl (hb hby d24_73)
 have Fw4 := P4.same W4
 have N4 := Fr.snoc X4 N1 (by omega)
 have sz5 := own_wr_le W4
 have K5 := K0.wr W4 (Or.inl (by simp))
 refine oo (S' := T4.setTop (mkF m 76 #[vR sb, vI 0] [])) st4 ?_
 refine oo (S' := T4.setTop (mkF m 78 #[vR sb, vI 0] [(.int 0), (.ref sb)])) (fun _ kK => XS.aloadN X4.here hx rfl (hb hby d24_76) rfl rfl (XS.iloadN X4.here hx rfl (hb hby d24_77) rfl kK)) ?_
 have f7 := (P3.other W4 (Or.inr (slot_ne (Or.inl (w_ G 142 rfl)) (Or.inl (w_ G 249 rfl)) (by decide) (t := .int) (t' := .boolean) (by decide) (by decide))))
 have f8 := (P0.wr W4)
 obtain ⟨T6, h6, X6, e6, W6, st6⟩ := putF X4 hx hZ hown (host := "") (Or.inl (w_ G 141 rfl)) Via.refl e4 f7 f8 (Or.inl (w_ G 142 rfl)) (w_ G 83 rfl) (ty := .int) (by decide) rfl rfl (g := (mkF m 78 #[vR sb, vI 0] [(.int 0), (.ref sb)])) rfl rfl (hb hby d24_78)
 have Fw6 := f7.same W6
 have N6 := Fr.snoc X6 N4 (by omega)
 have sz9 := own_wr_le W6
 have K9 := K5.wr W6 (Or.inl (by simp))
 refine oo (S' := T6.setTop (mkF m 81 #[vR sb, vI 0] [])) st6 ?_
 have f10 := (f8.wr W6)
 have f11 := ((P1.other W4 (Or.inr (slot_ne (Or.inl (w_ G 97 rfl)) (Or.inl (w_ G 249 rfl)) (by decide) (t := (.array .byte)) (t' := .boolean) (by decide) (by decide)))).other W6 (Or.inr (slot_ne (Or.inl (w_ G 97 rfl)) (Or.inl (w_ G 142 rfl)) (by decide) (t := (.array .byte)) (t' := .int) (by decide) (by decide))))
 have f12 := ((P2.other W4 (Or.inr (slot_ne (Or.inl (w_ G 99 rfl)) (Or.inl (w_ G 249 rfl)) (by decide) (t := .byte) (t' := .boolean) (by decide) (by decide)))).other W6 (Or.inr (slot_ne (Or.inl (w_ G 99 rfl)) (Or.inl (w_ G 142 rfl)) (by decide) (t := .byte) (t' := .int) (by decide) (by decide))))
 have f13 := (Fw4.other W6 (Or.inr (slot_ne (Or.inl (w_ G 249 rfl)) (Or.inl (w_ G 142 rfl)) (by decide) (t := .boolean) (t' := .int) (by decide) (by decide))))
 have f14 := ((P5.other W4 (on (by omega))).other W6 (on (by omega)))
 refine OwnEnd.ret X6 (v := none) (fun _ => rfl) hlk (fun fs hr => X6.returnOut hx Bd.returns (hb hby d24_81) hr) (by decide) (by decide) (Q := Qasn Z sb vb kv g ml h0 n0) e6 ?_
 exact ⟨rfl, N6, K9, f10, f11, f12, Fw6, f13, f14⟩

theorem own_efssn (m : MethodId) (sb : Addr) : entryFrame m #[(.ref sb), (.int 0)] 2 = mkF m 0 #[vR sb, vI 0] [] := by first | (simp [entryFrame, mkF, argsToLocals, Value.category]; done) | rfl
def Qssn (Z : State) (sb : Addr) (vb : Addr) (kv : ClassId) (g : Value) (ml : Value) (h0 : Heap) (n0 : Nat) (v : Option Value) (h : Heap) (L : List Loc) : Prop := v = none ∧ Fr n0 L ∧ Keep h0 h [sb] ∧ (Exa Z h sb j5) ∧ (Fld Z h sb j0 "value" "[B" (.ref vb)) ∧ (Fld Z h sb j0 "coder" "B" (.int 0)) ∧ (Fld Z h sb j0 "count" "I" (.int 0)) ∧ (Fld Z h sb j0 "maybeLatin1" "Z" (.int 1)) ∧ (Arv Z h vb kv .byte (16 : Int32) [g, (.int 0), (.int 0), (.int 0), (.int 0), (.int 0), (.int 0), (.int 0), (.int 0), (.int 0), (.int 0), (.int 0), (.int 0), (.int 0), (.int 0), (.int 0)] (.int 0))
set_option maxRecDepth 65536 in
set_option maxHeartbeats 40000000 in
theorem rmssn (l : Launch) (Z : State) (a0 : Array Value) (G : OwnG Z a0) (ws : List Jvm.Cond) (sb : Addr) (vb : Addr) (kv : ClassId) (g : Value) (ml : Value) (h0 : Heap) (n0 : Nat) (O0 : Old Z n0 h0) (P0 : Exa Z h0 sb j5) (P1 : Fld Z h0 sb j0 "value" "[B" (.ref vb)) (P2 : Fld Z h0 sb j0 "coder" "B" (.int 0)) (P3 : Fld Z h0 sb j0 "count" "I" (.int 1)) (P4 : Fld Z h0 sb j0 "maybeLatin1" "Z" ml) (P5 : Arv Z h0 vb kv .byte (16 : Int32) [g, (.int 0), (.int 0), (.int 0), (.int 0), (.int 0), (.int 0), (.int 0), (.int 0), (.int 0), (.int 0), (.int 0), (.int 0), (.int 0), (.int 0), (.int 0)] (.int 0)) (P6 : n0 ≤ sb) (P7 : n0 ≤ vb) (P8 : sb ≠ vb) :
  MetFree l own_m25 (head1 (Jvm.Cond.code own_m25 B35 2 none :: ws) (rR 2 0 0 27)) (fun a U => a = #[(.ref sb), (.int 0)] ∧ Z.Warmed39 U.vm ∧ U.heap = h0) (fun _ _ _ _ _ => True) (fun _ U o U' => ∃ v L, o = .returned v ∧ Qssn Z sb vb kv g ml h0 n0 v U'.heap L ∧ FrameEnd U o U' L (rR 2 0 0 27).cells (rR 2 0 0 27).slots) := by
 refine MetFree.of_bodySF (plainFor_of_name pn_4) hisR ?_
 intro p e s m args below meth cD s₁ Bd hml0 hP hK
 obtain ⟨rfl, hZ, hh⟩ := hP
 have hml : cD.maxLocals = 2 := hml0
 obtain ⟨hx, hby, (hown : s.vm.findClass j5 = some m.cls), hlk, X0, e0⟩ := own_st Bd hh
 have lt0 := lN P0.lt
 have lt1 := lN P1.lt
 have lt2 := lN P2.lt
 have lt3 := lN P3.lt
 have lt4 := lN P4.lt
 have lt5 := lN P5.lt
 have nP8 := own_neN P8
 have K0 : Keep h0 h0 [sb] := Keep.refl h0 _
 have Z0 := own_old_le O0
 have N0 := Fr.nil n0
 refine OwnEnd.start (g' := (mkF m 0 #[vR sb, vI 0] [])) (own_efssn m sb) ?_
 refine oo (S' := s₁.setTop (mkF m 2 #[vR sb, vI 0] [(.int 0), (.ref sb)])) (fun _ kK => XS.aloadN X0.here hx rfl (hb hby d25_0) rfl rfl (XS.iloadN X0.here hx rfl (hb hby d25_1) rfl kK)) ?_
 obtain ⟨_, _, ⟨T1, L1, k1, n1⟩, -, X1, ⟨Lc1, hQ1, l1, y1, z1⟩, st1⟩ := superBack X0 hx hZ hown (y := own_m24) (w_ G 244 rfl) (own_same (own_notI (w_ G 146 rfl) rfl) (w_ G 245 rfl) (by decide)) (w_ G 245 rfl) (w_ G 138 rfl) (by decide) (backOf (W := 0) (rmasn l Z a0 G [] sb vb kv g ml h0 n0 O0 P0 P1 P2 P3 P4 P5 (by omega) (by omega) (on (by omega))) hZ (w_ G 247 rfl) (w_ G 92 rfl) (by decide) (by decide)) e0 (Ins.self P0) (g := (mkF m 2 #[vR sb, vI 0] [(.int 0), (.ref sb)])) rfl (by rw [hml]; rfl) (w_ G 247 rfl) (argsL := [(.int 0)]) (rest := []) (lenOf pd_5 rfl) rfl (own_z rfl) (hb hby d25_2) (fun _ _ => ⟨rfl, e0, (ol rfl), (ol rfl)⟩)
 dsimp only [Pt.U, Pt.locs, Pt.cells, Pt.slots] at X1 l1 y1 z1 st1 hQ1
 subst l1 y1 z1
 obtain ⟨rfl, N1q, Kq1, r1_0, r1_1, r1_2, r1_3, r1_4, r1_5⟩ := hQ1
 have N1 := Fr.app N0 N1q
 have sz2 := Kq1.1
 have K2 := K0.trans Kq1 (own_all1 (Or.inl (by simp)))
 have ltr1_0 := lN r1_0.lt
 have ltr1_1 := lN r1_1.lt
 have ltr1_2 := lN r1_2.lt
 have ltr1_3 := lN r1_3.lt
 have ltr1_4 := lN r1_4.lt
 have ltr1_5 := lN r1_5.lt
 refine ot (S' := T1.setTop (mkF m 5 #[vR sb, vI 0] [])) st1 ?_
 refine OwnEnd.ret X1 (v := none) (fun _ => rfl) hlk (fun fs hr => X1.returnOut hx Bd.returns (hb hby d25_5) hr) (by decide) (by decide) (Q := Qssn Z sb vb kv g ml h0 n0) rfl ?_
 exact ⟨rfl, N1, K2, r1_0, r1_1, r1_2, r1_3, r1_4, r1_5⟩

theorem own_eftb (m : MethodId) (c : Int32) : entryFrame m #[(.int c)] 1 = mkF m 0 #[vI c] [] := by first | (simp [entryFrame, mkF, argsToLocals, Value.category]; done) | rfl
def Qtb (Z : State) (c : Int32) (h0 : Heap) (n0 : Nat) (v : Option Value) (h : Heap) (L : List Loc) : Prop := ∃ (t : Addr) (kb : ClassId), v = some (.ref t) ∧ Fr n0 L ∧ Keep h0 h [] ∧ (Arv Z h t kb .byte (1 : Int32) [(.int (StrChars.lo8 c))] (.int 0)) ∧ (Array.size h0 ≤ t)
set_option maxRecDepth 65536 in
set_option maxHeartbeats 40000000 in
theorem rmtb (l : Launch) (Z : State) (a0 : Array Value) (G : OwnG Z a0) (ws : List Jvm.Cond) (c : Int32) (h0 : Heap) (n0 : Nat) (O0 : Old Z n0 h0)  :
  MetFree l own_m26 (head1 (Jvm.Cond.code own_m26 B36 1 (some (.array .byte)) :: ws) (rR 0 1 1 0)) (fun a U => a = #[(.int c)] ∧ Z.Warmed39 U.vm ∧ U.heap = h0) (fun _ _ _ _ _ => True) (fun _ U o U' => ∃ v L, o = .returned v ∧ Qtb Z c h0 n0 v U'.heap L ∧ FrameEnd U o U' L (rR 0 1 1 0).cells (rR 0 1 1 0).slots) := by
 refine MetFree.of_bodySF (plainFor_of_name pn_2) hisR ?_
 intro p e s m args below meth cD s₁ Bd hml0 hP hK
 obtain ⟨rfl, hZ, hh⟩ := hP
 have hml : cD.maxLocals = 1 := hml0
 obtain ⟨hx, hby, (hown : s.vm.findClass "java/lang/StringLatin1" = some m.cls), hlk, X0, e0⟩ := own_st Bd hh
 have K0 : Keep h0 h0 [] := Keep.refl h0 _
 have Z0 := own_old_le O0
 have N0 := Fr.nil n0
 refine OwnEnd.start (g' := (mkF m 0 #[vI c] [])) (own_eftb m c) ?_
 refine oo (S' := s₁.setTop (mkF m 1 #[vI c] [(.int 1)])) (fun _ kK => XS.iconst X0.here hx rfl (hb hby d26_0) kK) ?_
 obtain ⟨T1, h1, k1, X1, e1, E1, A1, st1⟩ := newP X0 hx hZ (w_ G 21 rfl) e0 (g := (mkF m 1 #[vI c] [(.int 1)])) rfl (hb hby d26_1) rfl (by decide) (cap := 1) (by decide) (by decide) (by decide) (by decide)
 obtain ⟨b1, g1⟩ : ∃ z, z = Array.size h0 := ⟨_, rfl⟩
 rw [← g1] at A1 st1
 have lt_b1 := lN A1.lt
 have sz2 := E1.1
 have K2 := K0.ext E1
 have V1 : Arv Z h1 b1 k1 .byte (1 : Int32) [(.int 0)] (.int 0) := (Arv.new A1 (by decide)).pad (pad_rep [] (.int 0) 1)
 refine oo (S' := T1.setTop (mkF m 3 #[vI c] [(.ref b1)])) st1 ?_
 refine oo (S' := T1.setTop (mkF m 7 #[vI c] [(.int (nar .byte c)), (.int 0), (.ref b1), (.ref b1)])) (fun _ kK => XS.dup X1.here hx rfl (hb hby d26_3) rfl rfl (XS.iconst X1.here hx rfl (hb hby d26_4) (XS.iloadN X1.here hx rfl (hb hby d26_5) rfl (XS.i2b X1.here hx rfl (hb hby d26_6) rfl kK)))) ?_
 obtain ⟨cl3, Ar3, q3, S3, N3', H3, G3⟩ := id V1
 have hin4 : ¬ ((0 : Int32) < 0 ∨ cl3.slots.size ≤ ((0 : Int32)).toNatClampNeg) := inb_of S3 ⟨by decide, by decide⟩
 obtain ⟨T4, h4, X4, e4, W4, st4⟩ := stB X1 hx hZ e1 Ar3 (j := (0 : Int32)) hin4 (g := (mkF m 7 #[vI c] [(.int (nar .byte c)), (.int 0), (.ref b1), (.ref b1)])) rfl rfl (hb hby d26_7)
 have N4 := Fr.snoc X4 N0 (by omega)
 have sz5 := own_wr_le W4
 have K5 := K2.wr W4 (Or.inr (by omega))
 have V4 : Arv Z h4 b1 k1 .byte (1 : Int32) [(.int (nar .byte (nar .byte c)))] (.int 0) := Arv.set Ar3 q3 S3 N3' H3 G3 (fits_nar_byte _) W4 0 rfl (Nat.le_of_ble_eq_true rfl)
 refine oo (S' := T4.setTop (mkF m 8 #[vI c] [(.ref b1)])) st4 ?_
 have V6 : Arv Z h4 b1 k1 .byte (1 : Int32) [(.int (StrChars.lo8 c))] (.int 0) := by have q := V4; rw [own_lo2] at q; exact q
 refine OwnEnd.ret X4 (v := (some (.ref b1))) (fun h => by rw [Bd.returns] at h; cases h) hlk (fun fs hr => retOut X4 hx Bd.returns rfl (Or.inr (Or.inr (Or.inr (Or.inr ⟨rfl, rfl, rfl⟩)))) (hb hby d26_8) hr) (by decide) (by decide) (Q := Qtb Z c h0 n0) e4 ?_
 exact ⟨b1, k1, rfl, N4, K5, V6, (by omega)⟩

theorem own_efsbb (m : MethodId) (x0 : Addr) (t : Addr) : entryFrame m #[(.ref x0), (.ref t), (.int 0)] 3 = mkF m 0 #[vR x0, vR t, vI 0] [] := by first | (simp [entryFrame, mkF, argsToLocals, Value.category]; done) | rfl
def Qsbb (Z : State) (x0 : Addr) (t : Addr) (v0 : Value) (c9 : Value) (h0 : Heap) (n0 : Nat) (v : Option Value) (h : Heap) (L : List Loc) : Prop := v = none ∧ Fr n0 L ∧ Keep h0 h [x0] ∧ (Exa Z h x0 j1) ∧ (Fld Z h x0 j1 "value" "[B" (.ref t)) ∧ (Fld Z h x0 j1 "coder" "B" (.int 0))
set_option maxRecDepth 65536 in
set_option maxHeartbeats 40000000 in
theorem rmsbb (l : Launch) (Z : State) (a0 : Array Value) (G : OwnG Z a0) (ws : List Jvm.Cond) (x0 : Addr) (t : Addr) (v0 : Value) (c9 : Value) (h0 : Heap) (n0 : Nat) (O0 : Old Z n0 h0) (P0 : Exa Z h0 x0 j1) (P1 : Fld Z h0 x0 j1 "value" "[B" v0) (P2 : Fld Z h0 x0 j1 "coder" "B" c9) (P3 : n0 ≤ x0) :
  MetFree l own_m27 (head1 (Jvm.Cond.code own_m27 B37 3 none :: ws) (rR 1 0 0 12)) (fun a U => a = #[(.ref x0), (.ref t), (.int 0)] ∧ Z.Warmed39 U.vm ∧ U.heap = h0) (fun _ _ _ _ _ => True) (fun _ U o U' => ∃ v L, o = .returned v ∧ Qsbb Z x0 t v0 c9 h0 n0 v U'.heap L ∧ FrameEnd U o U' L (rR 1 0 0 12).cells (rR 1 0 0 12).slots) := by
 refine MetFree.of_bodySF (plainFor_of_name pn_1) hisR ?_
 intro p e s m args below meth cD s₁ Bd hml0 hP hK
 obtain ⟨rfl, hZ, hh⟩ := hP
 have hml : cD.maxLocals = 3 := hml0
 have hnm := (name_of_methodNamed Bd.named Bd.method).1
 obtain ⟨hx, hby, (hown : s.vm.findClass j1 = some m.cls), hlk, X0, e0⟩ := own_st Bd hh
 have lt0 := lN P0.lt
 have lt1 := lN P1.lt
 have lt2 := lN P2.lt
 have K0 : Keep h0 h0 [x0] := Keep.refl h0 _
 have Z0 := own_old_le O0
 have N0 := Fr.nil n0
 refine OwnEnd.start (g' := (mkF m 0 #[vR x0, vR t, vI 0] [])) (own_efsbb m x0 t) ?_
 refine oo (S' := s₁.setTop (mkF m 1 #[vR x0, vR t, vI 0] [(.ref x0)])) (fun _ kK => XS.aloadN X0.here hx rfl (hb hby d27_0) rfl rfl kK) ?_
 obtain ⟨T1, X1, e1, st1⟩ := initO X0 hx hZ hown (w_ G 26 rfl) (w_ G 27 rfl) (w_ G 28 rfl) e0 (g := (mkF m 1 #[vR x0, vR t, vI 0] [(.ref x0)])) rfl (by rw [hml]; rfl) rfl (hb hby d27_1) (by decide) (W := 0) (own_z rfl) (by decide)
 refine oo (S' := T1.setTop (mkF m 4 #[vR x0, vR t, vI 0] [])) st1 ?_
 refine oo (S' := T1.setTop (mkF m 6 #[vR x0, vR t, vI 0] [(.ref t), (.ref x0)])) (fun _ kK => XS.aloadN X1.here hx rfl (hb hby d27_4) rfl rfl (XS.aloadN X1.here hx rfl (hb hby d27_5) rfl rfl kK)) ?_
 obtain ⟨T2, h2, X2, e2, W2, st2⟩ := putF X1 hx hZ hown (host := "") (Or.inl (w_ G 29 rfl)) Via.refl e1 P1 P0 (Or.inr ⟨(w_ G 30 rfl), rfl, hnm⟩) (w_ G 17 rfl) (ty := (.array .byte)) (by decide) rfl rfl (g := (mkF m 6 #[vR x0, vR t, vI 0] [(.ref t), (.ref x0)])) rfl rfl (hb hby d27_6)
 have Fw2 := P1.same W2
 have N2 := Fr.snoc X2 N0 (by omega)
 have sz3 := own_wr_le W2
 have K3 := K0.wr W2 (Or.inl (by simp))
 refine oo (S' := T2.setTop (mkF m 9 #[vR x0, vR t, vI 0] [])) st2 ?_
 refine oo (S' := T2.setTop (mkF m 11 #[vR x0, vR t, vI 0] [(.int 0), (.ref x0)])) (fun _ kK => XS.aloadN X2.here hx rfl (hb hby d27_9) rfl rfl (XS.iloadN X2.here hx rfl (hb hby d27_10) rfl kK)) ?_
 have f5 := (P2.other W2 (Or.inr (slot_ne (Or.inr (w_ G 32 rfl)) (Or.inr (w_ G 30 rfl)) (by decide) (t := .byte) (t' := (.array .byte)) (by decide) (by decide))))
 have f6 := (P0.wr W2)
 obtain ⟨T4, h4, X4, e4, W4, st4⟩ := putFN X2 hx hZ hown (w_ G 31 rfl) Via.refl e2 f5 f6 (Or.inr ⟨(w_ G 32 rfl), rfl, hnm⟩) (w_ G 17 rfl) (ty := .byte) (v' := (.int 0)) (by decide) rfl rfl (g := (mkF m 11 #[vR x0, vR t, vI 0] [(.int 0), (.ref x0)])) rfl rfl (hb hby d27_11)
 have Fw4 := f5.same W4
 have N4 := Fr.snoc X4 N2 (by omega)
 have sz7 := own_wr_le W4
 have K7 := K3.wr W4 (Or.inl (by simp))
 refine oo (S' := T4.setTop (mkF m 14 #[vR x0, vR t, vI 0] [])) st4 ?_
 have f8 := (f6.wr W4)
 have f9 := (Fw2.other W4 (Or.inr (slot_ne (Or.inr (w_ G 30 rfl)) (Or.inr (w_ G 32 rfl)) (by decide) (t := (.array .byte)) (t' := .byte) (by decide) (by decide))))
 refine OwnEnd.ret X4 (v := none) (fun _ => rfl) hlk (fun fs hr => X4.returnOut hx Bd.returns (hb hby d27_14) hr) (by decide) (by decide) (Q := Qsbb Z x0 t v0 c9 h0 n0) e4 ?_
 exact ⟨rfl, N4, K7, f8, f9, Fw4⟩

theorem own_efvo (m : MethodId) (c : Int32) : entryFrame m #[(.int c)] 1 = mkF m 0 #[vI c] [] := by first | (simp [entryFrame, mkF, argsToLocals, Value.category]; done) | rfl
def Qvo (Z : State) (c : Int32) (h0 : Heap) (n0 : Nat) (v : Option Value) (h : Heap) (L : List Loc) : Prop := ∃ (x : Addr) (t : Addr) (kb : ClassId), v = some (.ref x) ∧ Fr n0 L ∧ Keep h0 h [] ∧ (Exa Z h x j1) ∧ (Fld Z h x j1 "value" "[B" (.ref t)) ∧ (Fld Z h x j1 "coder" "B" (.int 0)) ∧ (Arv Z h t kb .byte (1 : Int32) [(.int (StrChars.lo8 c))] (.int 0)) ∧ (Array.size h0 ≤ t) ∧ (Array.size h0 ≤ x)
set_option maxRecDepth 65536 in
set_option maxHeartbeats 40000000 in
theorem rmvo (l : Launch) (Z : State) (a0 : Array Value) (G : OwnG Z a0) (ws : List Jvm.Cond) (c : Int32) (h0 : Heap) (n0 : Nat) (O0 : Old Z n0 h0) (P0 : ¬ c < (0 : Int32) ∧ ¬ (255 : Int32) < c) :
  MetFree l own_m28 (head1 (Jvm.Cond.code own_m28 B38 1 (some (.object j1)) :: ws) (rR 2 2 5 27)) (fun a U => a = #[(.int c)] ∧ Z.Warmed39 U.vm ∧ U.heap = h0) (fun _ _ _ _ _ => True) (fun _ U o U' => ∃ v L, o = .returned v ∧ Qvo Z c h0 n0 v U'.heap L ∧ FrameEnd U o U' L (rR 2 2 5 27).cells (rR 2 2 5 27).slots) := by
 refine MetFree.of_bodySF (plainFor_of_name pn_1) hisR ?_
 intro p e s m args below meth cD s₁ Bd hml0 hP hK
 obtain ⟨rfl, hZ, hh⟩ := hP
 have hml : cD.maxLocals = 1 := hml0
 obtain ⟨hx, hby, (hown : s.vm.findClass j1 = some m.cls), hlk, X0, e0⟩ := own_st Bd hh
 have K0 : Keep h0 h0 [] := Keep.refl h0 _
 have Z0 := own_old_le O0
 have N0 := Fr.nil n0
 obtain ⟨zCS, SCS, PCS⟩ := own_cs G
 refine OwnEnd.start (g' := (mkF m 0 #[vI c] [])) (own_efvo m c) ?_
 obtain ⟨T1, X1, e1, st1⟩ := getS2 X0 hx hZ hown (host := "") (Or.inl (w_ G 11 rfl)) Via.refl e0 (SCS.ext O0.2) (g := (mkF m 0 #[vI c] [])) rfl (hb hby d28_0)
 refine oo (S' := T1.setTop (mkF m 3 #[vI c] [(.int zCS)])) st1 ?_
 refine oo (S' := T1.setTop (mkF m 7 #[vI c] [(.int c)])) (fun _ kK => XS.ifNo X1.here hx rfl (hb hby d28_3) rfl ((if0 _ _).trans (feq (PCS)).1) (XS.iloadN X1.here hx rfl (hb hby d28_6) rfl kK)) ?_
 obtain ⟨_, _, ⟨T2, L2, k2, n2⟩, -, X2, ⟨Lc2, hQ2, l2, y2, z2⟩, st2⟩ := Jvm.LawKit.callS X1 hx (y := own_m7) hown (mvT hZ (w_ G 12 rfl)) (mvT hZ (w_ G 13 rfl)) (mvT hZ (w_ G 14 rfl)) (mvT hZ (w_ G 15 rfl)) (by decide) (backOf (W := 0) (rmcec l Z a0 G [] c h0 n0 O0 P0.2) hZ (w_ G 15 rfl) (w_ G 14 rfl) (by decide) (by decide)) (g := (mkF m 7 #[vI c] [(.int c)])) rfl (by rw [hml]; rfl) (argsL := [(.int c)]) (rest := []) (lenOf pd_6 rfl) rfl (own_z rfl) (hb hby d28_7) (fun _ _ => ⟨rfl, e1, (ol rfl), (ol rfl)⟩)
 dsimp only [Pt.U, Pt.locs, Pt.cells, Pt.slots] at X2 l2 y2 z2 st2 hQ2
 subst l2 y2 z2
 obtain ⟨rfl, N2q, eh2⟩ := hQ2
 have N2 := Fr.app N0 N2q
 refine oo (S' := T2.setTop (mkF m 10 #[vI c] [(.int 1)])) st2 ?_
 refine oo (S' := T2.setTop (mkF m 13 #[vI c] [])) (fun _ kK => XS.ifNo X2.here hx rfl (hb hby d28_10) rfl ((if0 _ _).trans (feq ((by decide : ¬ ((1 : Int32) = (0 : Int32))))).1) kK) ?_
 obtain ⟨T3, h3, X3, e3, E3, A3, D3, -, st3⟩ := newO X2 hx hZ hown (w_ G 16 rfl) (w_ G 17 rfl) (w_ G 9 rfl) eh2 (g := (mkF m 13 #[vI c] [])) rfl (hb hby d28_13) (by decide) (by decide)
 obtain ⟨b3, g3⟩ : ∃ z, z = Array.size h0 := ⟨_, rfl⟩
 rw [← g3] at A3 D3 st3
 have lt_b3 := lN A3.lt
 have sz4 := E3.1
 have K4 := K0.ext E3
 have O4 := O0.ext E3
 have F3_value : Fld Z h3 b3 j1 "value" "[B" .null := D3 (Or.inr (w_ G 30 rfl)) (ty := (.array .byte)) (by decide)
 have F3_coder : Fld Z h3 b3 j1 "coder" "B" (.int 0) := D3 (Or.inr (w_ G 32 rfl)) (ty := .byte) (by decide)
 refine oo (S' := T3.setTop (mkF m 16 #[vI c] [(.ref b3)])) st3 ?_
 refine oo (S' := T3.setTop (mkF m 18 #[vI c] [(.int c), (.ref b3), (.ref b3)])) (fun _ kK => XS.dup X3.here hx rfl (hb hby d28_16) rfl rfl (XS.iloadN X3.here hx rfl (hb hby d28_17) rfl kK)) ?_
 obtain ⟨_, _, ⟨T5, L5, k5, n5⟩, -, X5, ⟨Lc5, hQ5, l5, y5, z5⟩, st5⟩ := Jvm.LawKit.callS X3 hx (y := own_m26) hown (mvT hZ (w_ G 18 rfl)) (mvT hZ (w_ G 19 rfl)) (mvT hZ (w_ G 14 rfl)) (mvT hZ (w_ G 20 rfl)) (by decide) (backOf (W := 2) (rmtb l Z a0 G [] c h3 n0 O4 ) hZ (w_ G 20 rfl) (w_ G 14 rfl) (by decide) (by decide)) (g := (mkF m 18 #[vI c] [(.int c), (.ref b3), (.ref b3)])) rfl (by rw [hml]; rfl) (argsL := [(.int c)]) (rest := [(.ref b3), (.ref b3)]) (lenOf pd_14 rfl) rfl (own_z rfl) (hb hby d28_18) (fun _ _ => ⟨rfl, e3, (ol rfl), (ol rfl)⟩)
 dsimp only [Pt.U, Pt.locs, Pt.cells, Pt.slots] at X5 l5 y5 z5 st5 hQ5
 subst l5 y5 z5
 obtain ⟨t_5, kb_5, rfl, N5q, Kq5, r5_0, r5_1⟩ := hQ5
 have N5 := Fr.app N2 N5q
 have sz6 := Kq5.1
 have K6 := K4.trans Kq5 (own_all0 )
 have O6 := O4.keep Kq5 (own_all0 )
 have ltr5_0 := lN r5_0.lt
 refine oo (S' := T5.setTop (mkF m 21 #[vI c] [(.ref t_5), (.ref b3), (.ref b3)])) st5 ?_
 refine oo (S' := T5.setTop (mkF m 22 #[vI c] [(.int 0), (.ref t_5), (.ref b3), (.ref b3)])) (fun _ kK => XS.iconst X5.here hx rfl (hb hby d28_21) kK) ?_
 have f7 := (A3.keep Kq5)
 have f8 := (F3_value.keep Kq5 nin0)
 have f9 := (F3_coder.keep Kq5 nin0)
 obtain ⟨_, _, ⟨T10, L10, k10, n10⟩, -, X10, ⟨Lc10, hQ10, l10, y10, z10⟩, st10⟩ := Jvm.Stand.specialBack X5 hx (y := own_m27) rfl hown (mvT hZ (w_ G 22 rfl)) (mvT hZ (w_ G 23 rfl)) (mvT hZ (w_ G 25 rfl)) (by decide) (backOf (W := 1) (rmsbb l Z a0 G [] b3 t_5 .null (.int 0) T5.heap n0 O6 f7 f8 f9 (by omega)) hZ (w_ G 25 rfl) (w_ G 9 rfl) (by decide) (by decide)) (g := (mkF m 22 #[vI c] [(.int 0), (.ref t_5), (.ref b3), (.ref b3)])) rfl (by rw [hml]; rfl) (Steps.refl _) (a := b3) (argsL := [(.ref t_5), (.int 0)]) (rest := [(.ref b3)]) (lenOf pd_15 rfl) rfl (own_z rfl) (hb hby d28_22) (fun _ _ => ⟨rfl, rfl, (ol rfl), (ol rfl)⟩)
 dsimp only [Pt.U, Pt.locs, Pt.cells, Pt.slots] at X10 l10 y10 z10 st10 hQ10
 subst l10 y10 z10
 obtain ⟨rfl, N10q, Kq10, r10_0, r10_1, r10_2⟩ := hQ10
 have N10 := Fr.app N5 N10q
 have sz11 := Kq10.1
 have K11 := K6.trans Kq10 (own_all1 (Or.inr (by omega)))
 have ltr10_0 := lN r10_0.lt
 have ltr10_1 := lN r10_1.lt
 have ltr10_2 := lN r10_2.lt
 refine ot (S' := T10.setTop (mkF m 25 #[vI c] [(.ref b3)])) st10 ?_
 have f12 := (r5_0.keep Kq10 (own_nin1 (on (by omega))))
 refine OwnEnd.ret X10 (v := (some (.ref b3))) (fun h => by rw [Bd.returns] at h; cases h) hlk (fun fs hr => retOut X10 hx Bd.returns rfl (Or.inr (Or.inr (Or.inr (Or.inr ⟨rfl, rfl, rfl⟩)))) (hb hby d28_25) hr) (by decide) (by decide) (Q := Qvo Z c h0 n0) rfl ?_
 exact ⟨b3, t_5, kb_5, rfl, N10, K11, r10_0, r10_1, r10_2, f12, (by omega), (by omega)⟩

theorem own_efaci (m : MethodId) (x0 : Addr) : entryFrame m #[(.ref x0)] 1 = mkF m 0 #[vR x0] [] := by first | (simp [entryFrame, mkF, argsToLocals, Value.category]; done) | rfl
def Qaci (Z : State) (x0 : Addr) (h0 : Heap) (n0 : Nat) (v : Option Value) (h : Heap) (L : List Loc) : Prop := v = none ∧ Fr n0 L ∧ h = h0
set_option maxRecDepth 65536 in
set_option maxHeartbeats 40000000 in
theorem rmaci (l : Launch) (Z : State) (a0 : Array Value) (G : OwnG Z a0) (ws : List Jvm.Cond) (x0 : Addr) (h0 : Heap) (n0 : Nat) (O0 : Old Z n0 h0)  :
  MetFree l own_m29 (head1 (Jvm.Cond.code own_m29 B39 1 none :: ws) (rR 1 0 0 12)) (fun a U => a = #[(.ref x0)] ∧ Z.Warmed39 U.vm ∧ U.heap = h0) (fun _ _ _ _ _ => True) (fun _ U o U' => ∃ v L, o = .returned v ∧ Qaci Z x0 h0 n0 v U'.heap L ∧ FrameEnd U o U' L (rR 1 0 0 12).cells (rR 1 0 0 12).slots) := by
 refine MetFree.of_bodySF (plainFor_of_name pn_6) hisR ?_
 intro p e s m args below meth cD s₁ Bd hml0 hP hK
 obtain ⟨rfl, hZ, hh⟩ := hP
 have hml : cD.maxLocals = 1 := hml0
 obtain ⟨hx, hby, (hown : s.vm.findClass "java/util/AbstractCollection" = some m.cls), hlk, X0, e0⟩ := own_st Bd hh
 have Z0 := own_old_le O0
 have N0 := Fr.nil n0
 refine OwnEnd.start (g' := (mkF m 0 #[vR x0] [])) (own_efaci m x0) ?_
 refine oo (S' := s₁.setTop (mkF m 1 #[vR x0] [(.ref x0)])) (fun _ kK => XS.aloadN X0.here hx rfl (hb hby d29_0) rfl rfl kK) ?_
 obtain ⟨T1, X1, e1, st1⟩ := initO X0 hx hZ hown (w_ G 74 rfl) (w_ G 27 rfl) (w_ G 28 rfl) e0 (g := (mkF m 1 #[vR x0] [(.ref x0)])) rfl (by rw [hml]; rfl) rfl (hb hby d29_1) (by decide) (W := 0) (own_z rfl) (by decide)
 refine oo (S' := T1.setTop (mkF m 4 #[vR x0] [])) st1 ?_
 refine OwnEnd.ret X1 (v := none) (fun _ => rfl) hlk (fun fs hr => X1.returnOut hx Bd.returns (hb hby d29_4) hr) (by decide) (by decide) (Q := Qaci Z x0 h0 n0) e1 ?_
 exact ⟨rfl, N0, rfl⟩

theorem own_efabj (m : MethodId) (lst : Addr) : entryFrame m #[(.ref lst)] 1 = mkF m 0 #[vR lst] [] := by first | (simp [entryFrame, mkF, argsToLocals, Value.category]; done) | rfl
def Qabj (Z : State) (lst : Addr) (mc : Int32) (dv : Value) (n : Int32) (h0 : Heap) (n0 : Nat) (v : Option Value) (h : Heap) (L : List Loc) : Prop := v = none ∧ Fr n0 L ∧ Keep h0 h [lst] ∧ (Exa Z h lst j2) ∧ (Fld Z h lst j6 "modCount" "I" (.int 0)) ∧ (Fld Z h lst j2 "elementData" "[Ljava/lang/Object;" dv) ∧ (Fld Z h lst j2 "size" "I" (.int n))
set_option maxRecDepth 65536 in
set_option maxHeartbeats 40000000 in
theorem rmabj (l : Launch) (Z : State) (a0 : Array Value) (G : OwnG Z a0) (ws : List Jvm.Cond) (lst : Addr) (mc : Int32) (dv : Value) (n : Int32) (h0 : Heap) (n0 : Nat) (O0 : Old Z n0 h0) (P0 : Exa Z h0 lst j2) (P1 : Fld Z h0 lst j6 "modCount" "I" (.int mc)) (P2 : Fld Z h0 lst j2 "elementData" "[Ljava/lang/Object;" dv) (P3 : Fld Z h0 lst j2 "size" "I" (.int n)) (P4 : n0 ≤ lst) :
  MetFree l own_m30 (head1 (Jvm.Cond.code own_m30 B40 1 none :: ws) (rR 2 0 0 24)) (fun a U => a = #[(.ref lst)] ∧ Z.Warmed39 U.vm ∧ U.heap = h0) (fun _ _ _ _ _ => True) (fun _ U o U' => ∃ v L, o = .returned v ∧ Qabj Z lst mc dv n h0 n0 v U'.heap L ∧ FrameEnd U o U' L (rR 2 0 0 24).cells (rR 2 0 0 24).slots) := by
 refine MetFree.of_bodySF (plainFor_of_name pn_7) hisR ?_
 intro p e s m args below meth cD s₁ Bd hml0 hP hK
 obtain ⟨rfl, hZ, hh⟩ := hP
 have hml : cD.maxLocals = 1 := hml0
 obtain ⟨hx, hby, (hown : s.vm.findClass j6 = some m.cls), hlk, X0, e0⟩ := own_st Bd hh
 have lt0 := lN P0.lt
 have lt1 := lN P1.lt
 have lt2 := lN P2.lt
 have lt3 := lN P3.lt
 have K0 : Keep h0 h0 [lst] := Keep.refl h0 _
 have Z0 := own_old_le O0
 have N0 := Fr.nil n0
 refine OwnEnd.start (g' := (mkF m 0 #[vR lst] [])) (own_efabj m lst) ?_
 refine oo (S' := s₁.setTop (mkF m 1 #[vR lst] [(.ref lst)])) (fun _ kK => XS.aloadN X0.here hx rfl (hb hby d30_0) rfl rfl kK) ?_
 obtain ⟨_, _, ⟨T1, L1, k1, n1⟩, -, X1, ⟨Lc1, hQ1, l1, y1, z1⟩, st1⟩ := Jvm.Stand.specialBack X0 hx (y := own_m29) rfl hown (mvT hZ (w_ G 68 rfl)) (mvT hZ (w_ G 69 rfl)) (mvT hZ (w_ G 73 rfl)) (by decide) (backOf (W := 0) (rmaci l Z a0 G [] lst h0 n0 O0 ) hZ (w_ G 73 rfl) (w_ G 72 rfl) (by decide) (by decide)) (g := (mkF m 1 #[vR lst] [(.ref lst)])) rfl (by rw [hml]; rfl) (Steps.refl _) (a := lst) (argsL := []) (rest := []) (lenOf pd_16 rfl) rfl (own_z rfl) (hb hby d30_1) (fun _ _ => ⟨rfl, e0, (ol rfl), (ol rfl)⟩)
 dsimp only [Pt.U, Pt.locs, Pt.cells, Pt.slots] at X1 l1 y1 z1 st1 hQ1
 subst l1 y1 z1
 obtain ⟨rfl, N1q, eh1⟩ := hQ1
 have N1 := Fr.app N0 N1q
 refine ot (S' := T1.setTop (mkF m 4 #[vR lst] [])) st1 ?_
 refine oo (S' := T1.setTop (mkF m 6 #[vR lst] [(.int 0), (.ref lst)])) (fun _ kK => XS.aloadN X1.here hx rfl (hb hby d30_4) rfl rfl (XS.iconst X1.here hx rfl (hb hby d30_5) kK)) ?_
 obtain ⟨T2, h2, X2, e2, W2, st2⟩ := putF X1 hx hZ hown (host := "") (Or.inl (w_ G 75 rfl)) Via.refl eh1 P1 P0 (Or.inl (w_ G 76 rfl)) (w_ G 57 rfl) (ty := .int) (by decide) rfl rfl (g := (mkF m 6 #[vR lst] [(.int 0), (.ref lst)])) rfl rfl (hb hby d30_6)
 have Fw2 := P1.same W2
 have N2 := Fr.snoc X2 N1 (by omega)
 have sz3 := own_wr_le W2
 have K3 := K0.wr W2 (Or.inl (by simp))
 refine oo (S' := T2.setTop (mkF m 9 #[vR lst] [])) st2 ?_
 have f4 := (P0.wr W2)
 have f5 := (P2.other W2 (Or.inr (slot_ne (Or.inl (w_ G 79 rfl)) (Or.inl (w_ G 76 rfl)) (by decide) (t := (.array (.object j4))) (t' := .int) (by decide) (by decide))))
 have f6 := (P3.other W2 (Or.inr (slot_ne (Or.inl (w_ G 217 rfl)) (Or.inl (w_ G 76 rfl)) (by decide) (t := .int) (t' := .int) (by decide) (by decide))))
 refine OwnEnd.ret X2 (v := none) (fun _ => rfl) hlk (fun fs hr => X2.returnOut hx Bd.returns (hb hby d30_9) hr) (by decide) (by decide) (Q := Qabj Z lst mc dv n h0 n0) e2 ?_
 exact ⟨rfl, N2, K3, f4, Fw2, f5, f6⟩

theorem own_efali (m : MethodId) (lst : Addr) : entryFrame m #[(.ref lst)] 1 = mkF m 0 #[vR lst] [] := by first | (simp [entryFrame, mkF, argsToLocals, Value.category]; done) | rfl
def Qali (Z : State) (lst : Addr) (mc : Int32) (dv : Value) (aD : Addr) (kD : ClassId) (h0 : Heap) (n0 : Nat) (v : Option Value) (h : Heap) (L : List Loc) : Prop := v = none ∧ Fr n0 L ∧ Keep h0 h [lst] ∧ (Exa Z h lst j2) ∧ (Fld Z h lst j6 "modCount" "I" (.int 0)) ∧ (Fld Z h lst j2 "elementData" "[Ljava/lang/Object;" (.ref aD)) ∧ (Fld Z h lst j2 "size" "I" (.int 0))
set_option maxRecDepth 65536 in
set_option maxHeartbeats 40000000 in
theorem rmali (l : Launch) (Z : State) (a0 : Array Value) (G : OwnG Z a0) (ws : List Jvm.Cond) (lst : Addr) (mc : Int32) (dv : Value) (aD : Addr) (kD : ClassId) (h0 : Heap) (n0 : Nat) (O0 : Old Z n0 h0) (P0 : Exa Z h0 lst j2) (P1 : Fld Z h0 lst j6 "modCount" "I" (.int mc)) (P2 : Fld Z h0 lst j2 "elementData" "[Ljava/lang/Object;" dv) (P3 : Fld Z h0 lst j2 "size" "I" (.int 0)) (P4 : n0 ≤ lst) (P5 : Sta Z Z.heap j2 "DEFAULTCAPACITY_EMPTY_ELEMENTDATA" "[Ljava/lang/Object;" (.ref aD)) (P6 : Arv Z Z.heap aD kD (.object j4) (0 : Int32) [] .null) :
  MetFree l own_m31 (head1 (Jvm.Cond.code own_m31 B41 1 none :: ws) (rR 3 0 0 36)) (fun a U => a = #[(.ref lst)] ∧ Z.Warmed39 U.vm ∧ U.heap = h0) (fun _ _ _ _ _ => True) (fun _ U o U' => ∃ v L, o = .returned v ∧ Qali Z lst mc dv aD kD h0 n0 v U'.heap L ∧ FrameEnd U o U' L (rR 3 0 0 36).cells (rR 3 0 0 36).slots) := by
 refine MetFree.of_bodySF (plainFor_of_name pn_8) hisR ?_
 intro p e s m args below meth cD s₁ Bd hml0 hP hK
 obtain ⟨rfl, hZ, hh⟩ := hP
 have hml : cD.maxLocals = 1 := hml0
 obtain ⟨hx, hby, (hown : s.vm.findClass j2 = some m.cls), hlk, X0, e0⟩ := own_st Bd hh
 have lt0 := lN P0.lt
 have lt1 := lN P1.lt
 have lt2 := lN P2.lt
 have lt3 := lN P3.lt
 have K0 : Keep h0 h0 [lst] := Keep.refl h0 _
 have Z0 := own_old_le O0
 have N0 := Fr.nil n0
 have ltD : @LT.lt Nat instLTNat aD n0 := lN (O0.1 ▸ P6.lt)
 refine OwnEnd.start (g' := (mkF m 0 #[vR lst] [])) (own_efali m lst) ?_
 refine oo (S' := s₁.setTop (mkF m 1 #[vR lst] [(.ref lst)])) (fun _ kK => XS.aloadN X0.here hx rfl (hb hby d31_0) rfl rfl kK) ?_
 obtain ⟨_, _, ⟨T1, L1, k1, n1⟩, -, X1, ⟨Lc1, hQ1, l1, y1, z1⟩, st1⟩ := Jvm.Stand.specialBack X0 hx (y := own_m30) rfl hown (mvT hZ (w_ G 62 rfl)) (mvT hZ (w_ G 63 rfl)) (mvT hZ (w_ G 67 rfl)) (by decide) (backOf (W := 0) (rmabj l Z a0 G [] lst mc dv (0 : Int32) h0 n0 O0 P0 P1 P2 P3 (by omega)) hZ (w_ G 67 rfl) (w_ G 66 rfl) (by decide) (by decide)) (g := (mkF m 1 #[vR lst] [(.ref lst)])) rfl (by rw [hml]; rfl) (Steps.refl _) (a := lst) (argsL := []) (rest := []) (lenOf pd_16 rfl) rfl (own_z rfl) (hb hby d31_1) (fun _ _ => ⟨rfl, e0, (ol rfl), (ol rfl)⟩)
 dsimp only [Pt.U, Pt.locs, Pt.cells, Pt.slots] at X1 l1 y1 z1 st1 hQ1
 subst l1 y1 z1
 obtain ⟨rfl, N1q, Kq1, r1_0, r1_1, r1_2, r1_3⟩ := hQ1
 have N1 := Fr.app N0 N1q
 have sz2 := Kq1.1
 have K2 := K0.trans Kq1 (own_all1 (Or.inl (by simp)))
 have O2 := O0.keep Kq1 (own_all1 (by omega))
 have ltr1_0 := lN r1_0.lt
 have ltr1_1 := lN r1_1.lt
 have ltr1_2 := lN r1_2.lt
 have ltr1_3 := lN r1_3.lt
 refine ot (S' := T1.setTop (mkF m 4 #[vR lst] [])) st1 ?_
 refine oo (S' := T1.setTop (mkF m 5 #[vR lst] [(.ref lst)])) (fun _ kK => XS.aloadN X1.here hx rfl (hb hby d31_4) rfl rfl kK) ?_
 obtain ⟨T3, X3, e3, st3⟩ := getS2 X1 hx hZ hown (host := "") (Or.inl (w_ G 77 rfl)) Via.refl rfl (P5.ext O2.2) (g := (mkF m 5 #[vR lst] [(.ref lst)])) rfl (hb hby d31_5)
 refine oo (S' := T3.setTop (mkF m 8 #[vR lst] [(.ref aD), (.ref lst)])) st3 ?_
 obtain ⟨T4, h4, X4, e4, W4, st4⟩ := putF X3 hx hZ hown (host := "") (Or.inl (w_ G 78 rfl)) Via.refl e3 r1_2 r1_0 (Or.inl (w_ G 79 rfl)) (w_ G 57 rfl) (ty := (.array (.object j4))) (by decide) rfl rfl (g := (mkF m 8 #[vR lst] [(.ref aD), (.ref lst)])) rfl rfl (hb hby d31_8)
 have Fw4 := r1_2.same W4
 have N4 := Fr.snoc X4 N1 (by omega)
 have sz5 := own_wr_le W4
 have K5 := K2.wr W4 (Or.inl (by simp))
 refine oo (S' := T4.setTop (mkF m 11 #[vR lst] [])) st4 ?_
 have f6 := (r1_0.wr W4)
 have f7 := (r1_1.other W4 (Or.inr (slot_ne (Or.inl (w_ G 76 rfl)) (Or.inl (w_ G 79 rfl)) (by decide) (t := .int) (t' := (.array (.object j4))) (by decide) (by decide))))
 have f8 := (r1_3.other W4 (Or.inr (slot_ne (Or.inl (w_ G 217 rfl)) (Or.inl (w_ G 79 rfl)) (by decide) (t := .int) (t' := (.array (.object j4))) (by decide) (by decide))))
 refine OwnEnd.ret X4 (v := none) (fun _ => rfl) hlk (fun fs hr => X4.returnOut hx Bd.returns (hb hby d31_11) hr) (by decide) (by decide) (Q := Qali Z lst mc dv aD kD h0 n0) e4 ?_
 exact ⟨rfl, N4, K5, f6, f7, Fw4, f8⟩

theorem own_efmax10_1 (m : MethodId) : entryFrame m #[(.int 10), (.int 1)] 2 = mkF m 0 #[vI 10, vI 1] [] := by first | (simp [entryFrame, mkF, argsToLocals, Value.category]; done) | rfl
set_option maxRecDepth 65536 in
set_option maxHeartbeats 40000000 in
theorem rmmax10_1 (l : Launch) (Z : State) (a0 : Array Value) (G : OwnG Z a0) (ws : List Jvm.Cond)  (h0 : Heap) (n0 : Nat) (O0 : Old Z n0 h0)  :
  MetFree l own_m32 (head1 (Jvm.Cond.code own_m32 B42 2 (some .int) :: ws) (rR 0 0 0 0)) (fun a U => a = #[(.int 10), (.int 1)] ∧ Z.Warmed39 U.vm ∧ U.heap = h0) (fun _ _ _ _ _ => True) (fun _ U o U' => ∃ v L, o = .returned v ∧ (own_Qint (10 : Int32)) h0 n0 v U'.heap L ∧ FrameEnd U o U' L (rR 0 0 0 0).cells (rR 0 0 0 0).slots) := by
 refine MetFree.of_bodySF (Jvm.Free.JP.mathPlain rfl (by decide +kernel)) hisR ?_
 intro p e s m args below meth cD s₁ Bd hml0 hP hK
 obtain ⟨rfl, hZ, hh⟩ := hP
 have hml : cD.maxLocals = 2 := hml0
 obtain ⟨hx, hby, (hown : s.vm.findClass j8 = some m.cls), hlk, X0, e0⟩ := own_st Bd hh
 have Z0 := own_old_le O0
 have N0 := Fr.nil n0
 refine OwnEnd.start (g' := (mkF m 0 #[vI 10, vI 1] [])) (own_efmax10_1 m ) ?_
 refine oo (S' := s₁.setTop (mkF m 10 #[vI 10, vI 1] [(.int 10)])) (fun _ kK => XS.iloadN X0.here hx rfl (hb hby d33_0) rfl (XS.iloadN X0.here hx rfl (hb hby d33_1) rfl (XS.icmpNo X0.here hx rfl (hb hby d33_2) rfl (flt ((by decide : ¬ ((10 : Int32) < (1 : Int32))))).1 (XS.iloadN X0.here hx rfl (hb hby d33_5) rfl (XS.goto X0.here hx rfl (pc0 := 6) (pc' := 10) rfl (hb hby d33_6) (by decide) (by decide) kK))))) ?_
 refine OwnEnd.ret X0 (v := (some (.int 10))) (fun h => by rw [Bd.returns] at h; cases h) hlk (fun fs hr => retOut X0 hx Bd.returns rfl (Or.inl ⟨rfl, Or.inl rfl, _, rfl⟩) (hb hby d33_10) hr) (by decide) (by decide) (Q := (own_Qint (10 : Int32)) h0 n0) e0 ?_
 exact ⟨rfl, N0, rfl⟩

theorem own_efgr1 (m : MethodId) (lst : Addr) : entryFrame m #[(.ref lst), (.int 1)] 4 = mkF m 0 #[vR lst, vI 1, .unset, .unset] [] := by first | (simp [entryFrame, mkF, argsToLocals, Value.category]; done) | rfl
def Qgr1 (Z : State) (lst : Addr) (mc : Int32) (aD : Addr) (kD : ClassId) (h0 : Heap) (n0 : Nat) (v : Option Value) (h : Heap) (L : List Loc) : Prop := ∃ (ar : Addr) (kA : ClassId), v = some (.ref ar) ∧ Fr n0 L ∧ Keep h0 h [lst] ∧ (Exa Z h lst j2) ∧ (Fld Z h lst j6 "modCount" "I" (.int mc)) ∧ (Fld Z h lst j2 "elementData" "[Ljava/lang/Object;" (.ref ar)) ∧ (Fld Z h lst j2 "size" "I" (.int 0)) ∧ (Arv Z h ar kA (.object j4) (10 : Int32) [.null, .null, .null, .null, .null, .null, .null, .null, .null, .null] .null) ∧ (Ovr Z kA j4) ∧ (Array.size h0 ≤ ar)
set_option maxRecDepth 65536 in
set_option maxHeartbeats 40000000 in
theorem rmgr1 (l : Launch) (Z : State) (a0 : Array Value) (G : OwnG Z a0) (ws : List Jvm.Cond) (lst : Addr) (mc : Int32) (aD : Addr) (kD : ClassId) (h0 : Heap) (n0 : Nat) (O0 : Old Z n0 h0) (P0 : Exa Z h0 lst j2) (P1 : Fld Z h0 lst j6 "modCount" "I" (.int mc)) (P2 : Fld Z h0 lst j2 "elementData" "[Ljava/lang/Object;" (.ref aD)) (P3 : Fld Z h0 lst j2 "size" "I" (.int 0)) (P4 : n0 ≤ lst) (P5 : Sta Z Z.heap j2 "DEFAULTCAPACITY_EMPTY_ELEMENTDATA" "[Ljava/lang/Object;" (.ref aD)) (P6 : Arv Z Z.heap aD kD (.object j4) (0 : Int32) [] .null) :
  MetFree l own_m33 (head1 (Jvm.Cond.code own_m33 B43 4 (some (.array (.object j4))) :: ws) (rR 1 1 10 14)) (fun a U => a = #[(.ref lst), (.int 1)] ∧ Z.Warmed39 U.vm ∧ U.heap = h0) (fun _ _ _ _ _ => True) (fun _ U o U' => ∃ v L, o = .returned v ∧ Qgr1 Z lst mc aD kD h0 n0 v U'.heap L ∧ FrameEnd U o U' L (rR 1 1 10 14).cells (rR 1 1 10 14).slots) := by
 refine MetFree.of_bodySF (plainFor_of_name pn_8) hisR ?_
 intro p e s m args below meth cD s₁ Bd hml0 hP hK
 obtain ⟨rfl, hZ, hh⟩ := hP
 have hml : cD.maxLocals = 4 := hml0
 obtain ⟨hx, hby, (hown : s.vm.findClass j2 = some m.cls), hlk, X0, e0⟩ := own_st Bd hh
 have lt0 := lN P0.lt
 have lt1 := lN P1.lt
 have lt2 := lN P2.lt
 have lt3 := lN P3.lt
 have K0 : Keep h0 h0 [lst] := Keep.refl h0 _
 have Z0 := own_old_le O0
 have N0 := Fr.nil n0
 have AD0 := P6.ext O0.2
 have ltD : @LT.lt Nat instLTNat aD n0 := lN (O0.1 ▸ P6.lt)
 refine OwnEnd.start (g' := (mkF m 0 #[vR lst, vI 1, .unset, .unset] [])) (own_efgr1 m lst) ?_
 refine oo (S' := s₁.setTop (mkF m 1 #[vR lst, vI 1, .unset, .unset] [(.ref lst)])) (fun _ kK => XS.aloadN X0.here hx rfl (hb hby d32_0) rfl rfl kK) ?_
 obtain ⟨T1, X1, e1, st1⟩ := getF X0 hx hZ hown (host := "") (Or.inl (w_ G 78 rfl)) Via.refl e0 P2 (g := (mkF m 1 #[vR lst, vI 1, .unset, .unset] [(.ref lst)])) rfl rfl (hb hby d32_1)
 refine oo (S' := T1.setTop (mkF m 4 #[vR lst, vI 1, .unset, .unset] [(.ref aD)])) st1 ?_
 obtain ⟨cl2, Ar2, q2, S2, N2', H2, G2⟩ := id AD0
 refine oo (S' := T1.setTop (mkF m 5 #[vR lst, vI 1, .unset, .unset] [(.int 0)])) (fun _ kK => X1.arraylength hx (by rw [e1]; exact Ar2.1) (State.isArrayOf_alike hZ.alike Ar2.2.1) (g := (mkF m 4 #[vR lst, vI 1, .unset, .unset] [(.ref aD)])) rfl rfl (hb hby d32_4) _ (by rw [len_of S2 N2']; exact kK)) ?_
 let lv3 : Array Slot := #[vR lst, vI 1, vI 0, .unset]
 refine oo (S' := T1.setTop (mkF m 11 lv3 [(.ref lst)])) (fun _ kK => XS.istoreN X1.here hx rfl (hb hby d32_5) rfl (l' := lv3) rfl (XS.iloadN X1.here hx rfl (hb hby d32_6) rfl (XS.ifNo X1.here hx rfl (hb hby d32_7) rfl ((if0 _ _).trans (flt ((by decide : ¬ ((0 : Int32) < (0 : Int32))))).2.2.1) (XS.aloadN X1.here hx rfl (hb hby d32_10) rfl rfl kK)))) ?_
 obtain ⟨T4, X4, e4, st4⟩ := getF X1 hx hZ hown (host := "") (Or.inl (w_ G 78 rfl)) Via.refl e1 P2 (g := (mkF m 11 lv3 [(.ref lst)])) rfl rfl (hb hby d32_11)
 refine oo (S' := T4.setTop (mkF m 14 lv3 [(.ref aD)])) st4 ?_
 obtain ⟨T5, X5, e5, st5⟩ := getS2 X4 hx hZ hown (host := "") (Or.inl (w_ G 77 rfl)) Via.refl e4 (P5.ext O0.2) (g := (mkF m 14 lv3 [(.ref aD)])) rfl (hb hby d32_14)
 refine oo (S' := T5.setTop (mkF m 17 lv3 [(.ref aD), (.ref aD)])) st5 ?_
 refine oo (S' := T5.setTop (mkF m 49 lv3 [(.int 1), (.int 10), (.ref lst)])) (fun _ kK => Jvm.RoadKit.acmp (g := (mkF m 17 lv3 [(.ref aD), (.ref aD)])) X5 hx rfl (x := (.ref aD)) (y := (.ref aD)) rfl rfl (pc0 := 17) (pc' := 45) (same := true) rfl (hb hby d32_17) rfl (decide_eq_true rfl) (by decide) (by decide) (XS.aloadN X5.here hx rfl (hb hby d32_45) rfl rfl (XS.bipush X5.here hx rfl (hb hby d32_46) (XS.iloadN X5.here hx rfl (hb hby d32_48) rfl kK)))) ?_
 obtain ⟨_, _, ⟨T6, L6, k6, n6⟩, -, X6, ⟨Lc6, hQ6, l6, y6, z6⟩, st6⟩ := Jvm.LawKit.callS X5 hx (y := own_m32) hown (mvT hZ (w_ G 233 rfl)) (mvT hZ (w_ G 234 rfl)) (mvT hZ (w_ G 199 rfl)) (mvT hZ (w_ G 235 rfl)) (by decide) (backOf (W := 1) (rmmax10_1 l Z a0 G []  h0 n0 O0 ) hZ (w_ G 235 rfl) (w_ G 199 rfl) (by decide) (by decide)) (g := (mkF m 49 lv3 [(.int 1), (.int 10), (.ref lst)])) rfl (by rw [hml]; rfl) (argsL := [(.int 10), (.int 1)]) (rest := [(.ref lst)]) (lenOf pd_9 rfl) rfl (own_z rfl) (hb hby d32_49) (fun _ _ => ⟨rfl, e5, (ol rfl), (ol rfl)⟩)
 dsimp only [Pt.U, Pt.locs, Pt.cells, Pt.slots] at X6 l6 y6 z6 st6 hQ6
 subst l6 y6 z6
 obtain ⟨rfl, N6q, eh6⟩ := hQ6
 have N6 := Fr.app N0 N6q
 refine oo (S' := T6.setTop (mkF m 52 lv3 [(.int 10), (.ref lst)])) st6 ?_
 obtain ⟨T7, h7, k7, X7, e7, E7, A7, Ov7, st7⟩ := newR X6 hx hZ hown (w_ G 236 rfl) (w_ G 237 rfl) eh6 (g := (mkF m 52 lv3 [(.int 10), (.ref lst)])) rfl (hb hby d32_52) rfl (by decide) (cap := 10) (by decide) (by decide) (by decide) (by decide)
 obtain ⟨b7, g7⟩ : ∃ z, z = Array.size h0 := ⟨_, rfl⟩
 rw [← g7] at A7 st7
 have lt_b7 := lN A7.lt
 have sz8 := E7.1
 have K8 := K0.ext E7
 have V7 : Arv Z h7 b7 k7 (.object j4) (10 : Int32) [.null, .null, .null, .null, .null, .null, .null, .null, .null, .null] .null := (Arv.new A7 (by decide)).pad (pad_rep [] .null 10)
 refine oo (S' := T7.setTop (mkF m 55 lv3 [(.ref b7), (.ref lst)])) st7 ?_
 refine oo (S' := T7.setTop (mkF m 56 lv3 [(.ref b7), (.ref lst), (.ref b7)])) (fun _ kK => XS.dupX1 X7.here hx rfl (hb hby d32_55) rfl rfl rfl kK) ?_
 have f10 := (P2.ext E7)
 have f11 := (P0.ext E7)
 obtain ⟨T9, h9, X9, e9, W9, st9⟩ := putF X7 hx hZ hown (host := "") (Or.inl (w_ G 78 rfl)) Via.refl e7 f10 f11 (Or.inl (w_ G 79 rfl)) (w_ G 57 rfl) (ty := (.array (.object j4))) (by decide) rfl rfl (g := (mkF m 56 lv3 [(.ref b7), (.ref lst), (.ref b7)])) rfl rfl (hb hby d32_56)
 have Fw9 := f10.same W9
 have N9 := Fr.snoc X9 N6 (by omega)
 have sz12 := own_wr_le W9
 have K12 := K8.wr W9 (Or.inl (by simp))
 refine oo (S' := T9.setTop (mkF m 59 lv3 [(.ref b7)])) st9 ?_
 have f13 := (f11.wr W9)
 have f14 := ((P1.ext E7).other W9 (Or.inr (slot_ne (Or.inl (w_ G 76 rfl)) (Or.inl (w_ G 79 rfl)) (by decide) (t := .int) (t' := (.array (.object j4))) (by decide) (by decide))))
 have f15 := ((P3.ext E7).other W9 (Or.inr (slot_ne (Or.inl (w_ G 217 rfl)) (Or.inl (w_ G 79 rfl)) (by decide) (t := .int) (t' := (.array (.object j4))) (by decide) (by decide))))
 have f16 := (V7.other W9 (on (by omega)))
 refine OwnEnd.ret X9 (v := (some (.ref b7))) (fun h => by rw [Bd.returns] at h; cases h) hlk (fun fs hr => retOut X9 hx Bd.returns rfl (Or.inr (Or.inr (Or.inr (Or.inr ⟨rfl, rfl, rfl⟩)))) (hb hby d32_59) hr) (by decide) (by decide) (Q := Qgr1 Z lst mc aD kD h0 n0) e9 ?_
 exact ⟨b7, k7, rfl, N9, K12, f13, f14, Fw9, f15, f16, (Ov7), (by omega)⟩

theorem own_efgr0 (m : MethodId) (lst : Addr) : entryFrame m #[(.ref lst)] 1 = mkF m 0 #[vR lst] [] := by first | (simp [entryFrame, mkF, argsToLocals, Value.category]; done) | rfl
def Qgr0 (Z : State) (lst : Addr) (mc : Int32) (aD : Addr) (kD : ClassId) (h0 : Heap) (n0 : Nat) (v : Option Value) (h : Heap) (L : List Loc) : Prop := ∃ (ar : Addr) (kA : ClassId), v = some (.ref ar) ∧ Fr n0 L ∧ Keep h0 h [lst] ∧ (Exa Z h lst j2) ∧ (Fld Z h lst j6 "modCount" "I" (.int mc)) ∧ (Fld Z h lst j2 "elementData" "[Ljava/lang/Object;" (.ref ar)) ∧ (Fld Z h lst j2 "size" "I" (.int 0)) ∧ (Arv Z h ar kA (.object j4) (10 : Int32) [.null, .null, .null, .null, .null, .null, .null, .null, .null, .null] .null) ∧ (Ovr Z kA j4) ∧ (Array.size h0 ≤ ar)
set_option maxRecDepth 65536 in
set_option maxHeartbeats 40000000 in
theorem rmgr0 (l : Launch) (Z : State) (a0 : Array Value) (G : OwnG Z a0) (ws : List Jvm.Cond) (lst : Addr) (mc : Int32) (aD : Addr) (kD : ClassId) (h0 : Heap) (n0 : Nat) (O0 : Old Z n0 h0) (P0 : Exa Z h0 lst j2) (P1 : Fld Z h0 lst j6 "modCount" "I" (.int mc)) (P2 : Fld Z h0 lst j2 "elementData" "[Ljava/lang/Object;" (.ref aD)) (P3 : Fld Z h0 lst j2 "size" "I" (.int 0)) (P4 : n0 ≤ lst) (P5 : Sta Z Z.heap j2 "DEFAULTCAPACITY_EMPTY_ELEMENTDATA" "[Ljava/lang/Object;" (.ref aD)) (P6 : Arv Z Z.heap aD kD (.object j4) (0 : Int32) [] .null) :
  MetFree l own_m34 (head1 (Jvm.Cond.code own_m34 B44 1 (some (.array (.object j4))) :: ws) (rR 2 1 10 29)) (fun a U => a = #[(.ref lst)] ∧ Z.Warmed39 U.vm ∧ U.heap = h0) (fun _ _ _ _ _ => True) (fun _ U o U' => ∃ v L, o = .returned v ∧ Qgr0 Z lst mc aD kD h0 n0 v U'.heap L ∧ FrameEnd U o U' L (rR 2 1 10 29).cells (rR 2 1 10 29).slots) := by
 refine MetFree.of_bodySF (plainFor_of_name pn_8) hisR ?_
 intro p e s m args below meth cD s₁ Bd hml0 hP hK
 obtain ⟨rfl, hZ, hh⟩ := hP
 have hml : cD.maxLocals = 1 := hml0
 obtain ⟨hx, hby, (hown : s.vm.findClass j2 = some m.cls), hlk, X0, e0⟩ := own_st Bd hh
 have lt0 := lN P0.lt
 have lt1 := lN P1.lt
 have lt2 := lN P2.lt
 have lt3 := lN P3.lt
 have K0 : Keep h0 h0 [lst] := Keep.refl h0 _
 have Z0 := own_old_le O0
 have N0 := Fr.nil n0
 have ltD : @LT.lt Nat instLTNat aD n0 := lN (O0.1 ▸ P6.lt)
 refine OwnEnd.start (g' := (mkF m 0 #[vR lst] [])) (own_efgr0 m lst) ?_
 refine oo (S' := s₁.setTop (mkF m 2 #[vR lst] [(.ref lst), (.ref lst)])) (fun _ kK => XS.aloadN X0.here hx rfl (hb hby d34_0) rfl rfl (XS.aloadN X0.here hx rfl (hb hby d34_1) rfl rfl kK)) ?_
 obtain ⟨T1, X1, e1, st1⟩ := getF X0 hx hZ hown (host := "") (Or.inl (w_ G 216 rfl)) Via.refl e0 P3 (g := (mkF m 2 #[vR lst] [(.ref lst), (.ref lst)])) rfl rfl (hb hby d34_2)
 refine oo (S' := T1.setTop (mkF m 5 #[vR lst] [(.int 0), (.ref lst)])) st1 ?_
 refine oo (S' := T1.setTop (mkF m 7 #[vR lst] [(.int 1), (.ref lst)])) (fun _ kK => XS.iconst X1.here hx rfl (hb hby d34_5) (XS.iadd X1.here hx rfl (hb hby d34_6) rfl kK)) ?_
 obtain ⟨cq2, kq2, q2a, q2b, cc2, q2d, -, q2e⟩ := isOf hZ e1 P0
 obtain ⟨_, _, ⟨T2, L2, k2, n2⟩, -, X2, ⟨Lc2, hQ2, l2, y2, z2⟩, st2⟩ := X1.privateBack hx (y := own_m33) hown (mvT hZ (w_ G 228 rfl)) (mvT hZ (w_ G 229 rfl)) (own_selP (oI (mvT hZ (w_ G 208 rfl)) rfl) (mvT hZ (w_ G 229 rfl)) (Cond.privateMethod_at (args := #[]) (mvT hZ (w_ G 230 rfl))) (by decide)) (Cond.privateMethod_at (args := #[]) (mvT hZ (w_ G 230 rfl))) (mvT hZ (w_ G 232 rfl)) (by decide) (backOf (W := 0) (rmgr1 l Z a0 G [] lst mc aD kD h0 n0 O0 P0 P1 P2 P3 (by omega) P5 P6) hZ (w_ G 232 rfl) (w_ G 58 rfl) (by decide) (by decide)) (g := (mkF m 7 #[vR lst] [(.int 1), (.ref lst)])) rfl (by rw [hml]; rfl) (Steps.refl _) q2d (own_nost q2e) (argsL := [(.int 1)]) (rest := []) (lenOf pd_17 rfl) rfl (own_z rfl) (hb hby d34_7) (fun _ _ => ⟨rfl, e1, (ol rfl), (ol rfl)⟩)
 dsimp only [Pt.U, Pt.locs, Pt.cells, Pt.slots] at X2 l2 y2 z2 st2 hQ2
 subst l2 y2 z2
 obtain ⟨ar_2, kA_2, rfl, N2q, Kq2, r2_0, r2_1, r2_2, r2_3, r2_4, r2_5, r2_6⟩ := hQ2
 have N2 := Fr.app N0 N2q
 have sz3 := Kq2.1
 have K3 := K0.trans Kq2 (own_all1 (Or.inl (by simp)))
 have ltr2_0 := lN r2_0.lt
 have ltr2_1 := lN r2_1.lt
 have ltr2_2 := lN r2_2.lt
 have ltr2_3 := lN r2_3.lt
 have ltr2_4 := lN r2_4.lt
 refine ot (S' := T2.setTop (mkF m 10 #[vR lst] [(.ref ar_2)])) st2 ?_
 refine OwnEnd.ret X2 (v := (some (.ref ar_2))) (fun h => by rw [Bd.returns] at h; cases h) hlk (fun fs hr => retOut X2 hx Bd.returns rfl (Or.inr (Or.inr (Or.inr (Or.inr ⟨rfl, rfl, rfl⟩)))) (hb hby d34_10) hr) (by decide) (by decide) (Q := Qgr0 Z lst mc aD kD h0 n0) rfl ?_
 exact ⟨ar_2, kA_2, rfl, N2, K3, r2_0, r2_1, r2_2, r2_3, r2_4, (r2_5), (by omega)⟩

theorem own_efad0 (m : MethodId) (lst : Addr) (y : Addr) (aD : Addr) : entryFrame m #[(.ref lst), (.ref y), (.ref aD), (.int 0)] 4 = mkF m 0 #[vR lst, vR y, vR aD, vI 0] [] := by first | (simp [entryFrame, mkF, argsToLocals, Value.category]; done) | rfl
def Qad0 (Z : State) (lst : Addr) (mc : Int32) (y : Addr) (aD : Addr) (kD : ClassId) (h0 : Heap) (n0 : Nat) (v : Option Value) (h : Heap) (L : List Loc) : Prop := ∃ (ar : Addr) (kA : ClassId), v = none ∧ Fr n0 L ∧ Keep h0 h [lst] ∧ (Exa Z h lst j2) ∧ (Fld Z h lst j6 "modCount" "I" (.int mc)) ∧ (Fld Z h lst j2 "elementData" "[Ljava/lang/Object;" (.ref ar)) ∧ (Fld Z h lst j2 "size" "I" (.int 1)) ∧ (Arv Z h ar kA (.object j4) (10 : Int32) [(.ref y), .null, .null, .null, .null, .null, .null, .null, .null, .null] .null) ∧ (Ovr Z kA j4) ∧ (Array.size h0 ≤ ar)
set_option maxRecDepth 65536 in
set_option maxHeartbeats 40000000 in
theorem rmad0 (l : Launch) (Z : State) (a0 : Array Value) (G : OwnG Z a0) (ws : List Jvm.Cond) (lst : Addr) (mc : Int32) (y : Addr) (aD : Addr) (kD : ClassId) (h0 : Heap) (n0 : Nat) (O0 : Old Z n0 h0) (P0 : Exa Z h0 lst j2) (P1 : Fld Z h0 lst j6 "modCount" "I" (.int mc)) (P2 : Fld Z h0 lst j2 "elementData" "[Ljava/lang/Object;" (.ref aD)) (P3 : Fld Z h0 lst j2 "size" "I" (.int 0)) (P4 : Exa Z h0 y j1) (P5 : n0 ≤ lst) (P6 : Sta Z Z.heap j2 "DEFAULTCAPACITY_EMPTY_ELEMENTDATA" "[Ljava/lang/Object;" (.ref aD)) (P7 : Arv Z Z.heap aD kD (.object j4) (0 : Int32) [] .null) :
  MetFree l own_m35 (head1 (Jvm.Cond.code own_m35 B45 4 none :: ws) (rR 3 1 10 41)) (fun a U => a = #[(.ref lst), (.ref y), (.ref aD), (.int 0)] ∧ Z.Warmed39 U.vm ∧ U.heap = h0) (fun _ _ _ _ _ => True) (fun _ U o U' => ∃ v L, o = .returned v ∧ Qad0 Z lst mc y aD kD h0 n0 v U'.heap L ∧ FrameEnd U o U' L (rR 3 1 10 41).cells (rR 3 1 10 41).slots) := by
 refine MetFree.of_bodySF (plainFor_of_name pn_8) hisR ?_
 intro p e s m args below meth cD s₁ Bd hml0 hP hK
 obtain ⟨rfl, hZ, hh⟩ := hP
 have hml : cD.maxLocals = 4 := hml0
 obtain ⟨hx, hby, (hown : s.vm.findClass j2 = some m.cls), hlk, X0, e0⟩ := own_st Bd hh
 have lt0 := lN P0.lt
 have lt1 := lN P1.lt
 have lt2 := lN P2.lt
 have lt3 := lN P3.lt
 have lt4 := lN P4.lt
 have K0 : Keep h0 h0 [lst] := Keep.refl h0 _
 have Z0 := own_old_le O0
 have N0 := Fr.nil n0
 have AD0 := P7.ext O0.2
 have ltD : @LT.lt Nat instLTNat aD n0 := lN (O0.1 ▸ P7.lt)
 let lv1 : Array Slot := #[vR lst, vR y, vR aD, vI 0]
 refine OwnEnd.start (g' := (mkF m 0 lv1 [])) (own_efad0 m lst y aD) ?_
 refine oo (S' := s₁.setTop (mkF m 2 lv1 [(.ref aD), (.int 0)])) (fun _ kK => XS.iloadN X0.here hx rfl (hb hby d35_0) rfl (XS.aloadN X0.here hx rfl (hb hby d35_1) rfl rfl kK)) ?_
 obtain ⟨cl2, Ar2, q2, S2, N2', H2, G2⟩ := id AD0
 refine oo (S' := s₁.setTop (mkF m 3 lv1 [(.int 0), (.int 0)])) (fun _ kK => X0.arraylength hx (by rw [e0]; exact Ar2.1) (State.isArrayOf_alike hZ.alike Ar2.2.1) (g := (mkF m 2 lv1 [(.ref aD), (.int 0)])) rfl rfl (hb hby d35_2) _ (by rw [len_of S2 N2']; exact kK)) ?_
 refine oo (S' := s₁.setTop (mkF m 7 lv1 [(.ref lst)])) (fun _ kK => XS.icmpNo X0.here hx rfl (hb hby d35_3) rfl (teq ((by decide : (0 : Int32) = (0 : Int32)))).2 (XS.aloadN X0.here hx rfl (hb hby d35_6) rfl rfl kK)) ?_
 obtain ⟨cq3, kq3, q3a, q3b, cc3, q3d, -, q3e⟩ := isOf hZ e0 P0
 obtain ⟨_, _, ⟨T3, L3, k3, n3⟩, -, X3, ⟨Lc3, hQ3, l3, y3, z3⟩, st3⟩ := X0.privateBack hx (y := own_m34) hown (mvT hZ (w_ G 223 rfl)) (mvT hZ (w_ G 224 rfl)) (own_selP (oI (mvT hZ (w_ G 208 rfl)) rfl) (mvT hZ (w_ G 224 rfl)) (Cond.privateMethod_at (args := #[]) (mvT hZ (w_ G 225 rfl))) (by decide)) (Cond.privateMethod_at (args := #[]) (mvT hZ (w_ G 225 rfl))) (mvT hZ (w_ G 227 rfl)) (by decide) (backOf (W := 0) (rmgr0 l Z a0 G [] lst mc aD kD h0 n0 O0 P0 P1 P2 P3 (by omega) P6 P7) hZ (w_ G 227 rfl) (w_ G 58 rfl) (by decide) (by decide)) (g := (mkF m 7 lv1 [(.ref lst)])) rfl (by rw [hml]; rfl) (Steps.refl _) q3d (own_nost q3e) (argsL := []) (rest := []) (lenOf pd_18 rfl) rfl (own_z rfl) (hb hby d35_7) (fun _ _ => ⟨rfl, e0, (ol rfl), (ol rfl)⟩)
 dsimp only [Pt.U, Pt.locs, Pt.cells, Pt.slots] at X3 l3 y3 z3 st3 hQ3
 subst l3 y3 z3
 obtain ⟨ar_3, kA_3, rfl, N3q, Kq3, r3_0, r3_1, r3_2, r3_3, r3_4, r3_5, r3_6⟩ := hQ3
 have N3 := Fr.app N0 N3q
 have sz4 := Kq3.1
 have K4 := K0.trans Kq3 (own_all1 (Or.inl (by simp)))
 have ltr3_0 := lN r3_0.lt
 have ltr3_1 := lN r3_1.lt
 have ltr3_2 := lN r3_2.lt
 have ltr3_3 := lN r3_3.lt
 have ltr3_4 := lN r3_4.lt
 refine ot (S' := T3.setTop (mkF m 10 lv1 [(.ref ar_3)])) st3 ?_
 let lv5 : Array Slot := #[vR lst, vR y, vR ar_3, vI 0]
 refine oo (S' := T3.setTop (mkF m 14 lv5 [(.ref y), (.int 0), (.ref ar_3)])) (fun _ kK => XS.astoreN X3.here hx rfl (hb hby d35_10) rfl rfl (l' := lv5) rfl (XS.aloadN X3.here hx rfl (hb hby d35_11) rfl rfl (XS.iloadN X3.here hx rfl (hb hby d35_12) rfl (XS.aloadN X3.here hx rfl (hb hby d35_13) rfl rfl kK)))) ?_
 have f6 := (P4.keep Kq3)
 obtain ⟨cl7, Ar7, q7, S7, N7', H7, G7⟩ := id r3_4
 have hin8 : ¬ ((0 : Int32) < 0 ∨ cl7.slots.size ≤ ((0 : Int32)).toNatClampNeg) := inb_of S7 ⟨by decide, by decide⟩
 obtain ⟨T8, h8, X8, e8, W8, st8⟩ := stR X3 hx hZ rfl Ar7 (j := (0 : Int32)) hin8 rfl (own_sto Ar7 q7 r3_5 (Ins.of_exa f6 (w_ G 238 rfl))) (g := (mkF m 14 lv5 [(.ref y), (.int 0), (.ref ar_3)])) rfl rfl (hb hby d35_14)
 have N8 := Fr.snoc X8 N3 (by omega)
 have sz9 := own_wr_le W8
 have K9 := K4.wr W8 (Or.inr (by omega))
 have V8 : Arv Z h8 ar_3 kA_3 (.object j4) (10 : Int32) [(.ref y), .null, .null, .null, .null, .null, .null, .null, .null, .null] .null := Arv.set Ar7 q7 S7 N7' H7 G7 rfl W8 0 rfl (Nat.le_of_ble_eq_true rfl)
 refine oo (S' := T8.setTop (mkF m 15 lv5 [])) st8 ?_
 refine oo (S' := T8.setTop (mkF m 19 lv5 [(.int 1), (.ref lst)])) (fun _ kK => XS.aloadN X8.here hx rfl (hb hby d35_15) rfl rfl (XS.iloadN X8.here hx rfl (hb hby d35_16) rfl (XS.iconst X8.here hx rfl (hb hby d35_17) (XS.iadd X8.here hx rfl (hb hby d35_18) rfl kK)))) ?_
 have f11 := (r3_3.other W8 (Or.inl (on (by omega))))
 have f12 := (r3_0.wr W8)
 obtain ⟨T10, h10, X10, e10, W10, st10⟩ := putF X8 hx hZ hown (host := "") (Or.inl (w_ G 216 rfl)) Via.refl e8 f11 f12 (Or.inl (w_ G 217 rfl)) (w_ G 57 rfl) (ty := .int) (by decide) rfl rfl (g := (mkF m 19 lv5 [(.int 1), (.ref lst)])) rfl rfl (hb hby d35_19)
 have Fw10 := f11.same W10
 have N10 := Fr.snoc X10 N8 (by omega)
 have sz13 := own_wr_le W10
 have K13 := K9.wr W10 (Or.inl (by simp))
 refine oo (S' := T10.setTop (mkF m 22 lv5 [])) st10 ?_
 have f14 := (f12.wr W10)
 have f15 := ((r3_1.other W8 (Or.inl (on (by omega)))).other W10 (Or.inr (slot_ne (Or.inl (w_ G 76 rfl)) (Or.inl (w_ G 217 rfl)) (by decide) (t := .int) (t' := .int) (by decide) (by decide))))
 have f16 := ((r3_2.other W8 (Or.inl (on (by omega)))).other W10 (Or.inr (slot_ne (Or.inl (w_ G 79 rfl)) (Or.inl (w_ G 217 rfl)) (by decide) (t := (.array (.object j4))) (t' := .int) (by decide) (by decide))))
 have f17 := (V8.other W10 (on (by omega)))
 refine OwnEnd.ret X10 (v := none) (fun _ => rfl) hlk (fun fs hr => X10.returnOut hx Bd.returns (hb hby d35_22) hr) (by decide) (by decide) (Q := Qad0 Z lst mc y aD kD h0 n0) e10 ?_
 exact ⟨ar_3, kA_3, rfl, N10, K13, f14, f15, f16, Fw10, f17, (r3_5), (by omega)⟩

theorem own_efal0 (m : MethodId) (lst : Addr) (y : Addr) : entryFrame m #[(.ref lst), (.ref y)] 2 = mkF m 0 #[vR lst, vR y] [] := by first | (simp [entryFrame, mkF, argsToLocals, Value.category]; done) | rfl
def Qal0 (Z : State) (lst : Addr) (mc : Int32) (y : Addr) (aD : Addr) (kD : ClassId) (h0 : Heap) (n0 : Nat) (v : Option Value) (h : Heap) (L : List Loc) : Prop := ∃ (ar : Addr) (kA : ClassId), v = some (.int 1) ∧ Fr n0 L ∧ Keep h0 h [lst] ∧ (Exa Z h lst j2) ∧ (Fld Z h lst j6 "modCount" "I" (.int (mc + (1 : Int32)))) ∧ (Fld Z h lst j2 "elementData" "[Ljava/lang/Object;" (.ref ar)) ∧ (Fld Z h lst j2 "size" "I" (.int 1)) ∧ (Arv Z h ar kA (.object j4) (10 : Int32) [(.ref y), .null, .null, .null, .null, .null, .null, .null, .null, .null] .null) ∧ (Ovr Z kA j4) ∧ (Array.size h0 ≤ ar)
set_option maxRecDepth 65536 in
set_option maxHeartbeats 40000000 in
theorem rmal0 (l : Launch) (Z : State) (a0 : Array Value) (G : OwnG Z a0) (ws : List Jvm.Cond) (lst : Addr) (mc : Int32) (y : Addr) (aD : Addr) (kD : ClassId) (h0 : Heap) (n0 : Nat) (O0 : Old Z n0 h0) (P0 : Exa Z h0 lst j2) (P1 : Fld Z h0 lst j6 "modCount" "I" (.int mc)) (P2 : Fld Z h0 lst j2 "elementData" "[Ljava/lang/Object;" (.ref aD)) (P3 : Fld Z h0 lst j2 "size" "I" (.int 0)) (P4 : Exa Z h0 y j1) (P5 : n0 ≤ lst) (P6 : Sta Z Z.heap j2 "DEFAULTCAPACITY_EMPTY_ELEMENTDATA" "[Ljava/lang/Object;" (.ref aD)) (P7 : Arv Z Z.heap aD kD (.object j4) (0 : Int32) [] .null) :
  MetFree l own_m36 (head1 (Jvm.Cond.code own_m36 B46 2 (some .boolean) :: ws) (rR 4 1 10 56)) (fun a U => a = #[(.ref lst), (.ref y)] ∧ Z.Warmed39 U.vm ∧ U.heap = h0) (fun _ _ _ _ _ => True) (fun _ U o U' => ∃ v L, o = .returned v ∧ Qal0 Z lst mc y aD kD h0 n0 v U'.heap L ∧ FrameEnd U o U' L (rR 4 1 10 56).cells (rR 4 1 10 56).slots) := by
 refine MetFree.of_bodySF (plainFor_of_name pn_8) hisR ?_
 intro p e s m args below meth cD s₁ Bd hml0 hP hK
 obtain ⟨rfl, hZ, hh⟩ := hP
 have hml : cD.maxLocals = 2 := hml0
 obtain ⟨hx, hby, (hown : s.vm.findClass j2 = some m.cls), hlk, X0, e0⟩ := own_st Bd hh
 have lt0 := lN P0.lt
 have lt1 := lN P1.lt
 have lt2 := lN P2.lt
 have lt3 := lN P3.lt
 have lt4 := lN P4.lt
 have K0 : Keep h0 h0 [lst] := Keep.refl h0 _
 have Z0 := own_old_le O0
 have N0 := Fr.nil n0
 have ltD : @LT.lt Nat instLTNat aD n0 := lN (O0.1 ▸ P7.lt)
 refine OwnEnd.start (g' := (mkF m 0 #[vR lst, vR y] [])) (own_efal0 m lst y) ?_
 refine oo (S' := s₁.setTop (mkF m 2 #[vR lst, vR y] [(.ref lst), (.ref lst)])) (fun _ kK => XS.aloadN X0.here hx rfl (hb hby d36_0) rfl rfl (XS.dup X0.here hx rfl (hb hby d36_1) rfl rfl kK)) ?_
 obtain ⟨T1, X1, e1, st1⟩ := getF X0 hx hZ hown (host := "") (Or.inl (w_ G 214 rfl)) (Via.of (w_ G 215 rfl)) e0 P1 (g := (mkF m 2 #[vR lst, vR y] [(.ref lst), (.ref lst)])) rfl rfl (hb hby d36_2)
 refine oo (S' := T1.setTop (mkF m 5 #[vR lst, vR y] [(.int mc), (.ref lst)])) st1 ?_
 refine oo (S' := T1.setTop (mkF m 7 #[vR lst, vR y] [(.int (mc + (1 : Int32))), (.ref lst)])) (fun _ kK => XS.iconst X1.here hx rfl (hb hby d36_5) (XS.iadd X1.here hx rfl (hb hby d36_6) rfl kK)) ?_
 obtain ⟨T2, h2, X2, e2, W2, st2⟩ := putF X1 hx hZ hown (host := "") (Or.inl (w_ G 214 rfl)) (Via.of (w_ G 215 rfl)) e1 P1 P0 (Or.inl (w_ G 76 rfl)) (w_ G 57 rfl) (ty := .int) (by decide) rfl rfl (g := (mkF m 7 #[vR lst, vR y] [(.int (mc + (1 : Int32))), (.ref lst)])) rfl rfl (hb hby d36_7)
 have Fw2 := P1.same W2
 have N2 := Fr.snoc X2 N0 (by omega)
 have sz3 := own_wr_le W2
 have K3 := K0.wr W2 (Or.inl (by simp))
 have O3 := O0.wr W2 (by omega)
 refine oo (S' := T2.setTop (mkF m 10 #[vR lst, vR y] [])) st2 ?_
 refine oo (S' := T2.setTop (mkF m 13 #[vR lst, vR y] [(.ref lst), (.ref y), (.ref lst)])) (fun _ kK => XS.aloadN X2.here hx rfl (hb hby d36_10) rfl rfl (XS.aloadN X2.here hx rfl (hb hby d36_11) rfl rfl (XS.aloadN X2.here hx rfl (hb hby d36_12) rfl rfl kK))) ?_
 have f5 := (P2.other W2 (Or.inr (slot_ne (Or.inl (w_ G 79 rfl)) (Or.inl (w_ G 76 rfl)) (by decide) (t := (.array (.object j4))) (t' := .int) (by decide) (by decide))))
 obtain ⟨T4, X4, e4, st4⟩ := getF X2 hx hZ hown (host := "") (Or.inl (w_ G 78 rfl)) Via.refl e2 f5 (g := (mkF m 13 #[vR lst, vR y] [(.ref lst), (.ref y), (.ref lst)])) rfl rfl (hb hby d36_13)
 refine oo (S' := T4.setTop (mkF m 16 #[vR lst, vR y] [(.ref aD), (.ref y), (.ref lst)])) st4 ?_
 refine oo (S' := T4.setTop (mkF m 17 #[vR lst, vR y] [(.ref lst), (.ref aD), (.ref y), (.ref lst)])) (fun _ kK => XS.aloadN X4.here hx rfl (hb hby d36_16) rfl rfl kK) ?_
 have f7 := (P3.other W2 (Or.inr (slot_ne (Or.inl (w_ G 217 rfl)) (Or.inl (w_ G 76 rfl)) (by decide) (t := .int) (t' := .int) (by decide) (by decide))))
 obtain ⟨T6, X6, e6, st6⟩ := getF X4 hx hZ hown (host := "") (Or.inl (w_ G 216 rfl)) Via.refl e4 f7 (g := (mkF m 17 #[vR lst, vR y] [(.ref lst), (.ref aD), (.ref y), (.ref lst)])) rfl rfl (hb hby d36_17)
 refine oo (S' := T6.setTop (mkF m 20 #[vR lst, vR y] [(.int 0), (.ref aD), (.ref y), (.ref lst)])) st6 ?_
 have f8 := (P0.wr W2)
 have f9 := (P4.wr W2)
 obtain ⟨cq10, kq10, q10a, q10b, cc10, q10d, -, q10e⟩ := isOf hZ e6 f8
 obtain ⟨_, _, ⟨T10, L10, k10, n10⟩, -, X10, ⟨Lc10, hQ10, l10, y10, z10⟩, st10⟩ := X6.privateBack hx (y := own_m35) hown (mvT hZ (w_ G 218 rfl)) (mvT hZ (w_ G 219 rfl)) (own_selP (oI (mvT hZ (w_ G 208 rfl)) rfl) (mvT hZ (w_ G 219 rfl)) (Cond.privateMethod_at (args := #[]) (mvT hZ (w_ G 220 rfl))) (by decide)) (Cond.privateMethod_at (args := #[]) (mvT hZ (w_ G 220 rfl))) (mvT hZ (w_ G 222 rfl)) (by decide) (backOf (W := 0) (rmad0 l Z a0 G [] lst (mc + (1 : Int32)) y aD kD h2 n0 O3 f8 Fw2 f5 f7 f9 (by omega) P6 P7) hZ (w_ G 222 rfl) (w_ G 58 rfl) (by decide) (by decide)) (g := (mkF m 20 #[vR lst, vR y] [(.int 0), (.ref aD), (.ref y), (.ref lst)])) rfl (by rw [hml]; rfl) (Steps.refl _) q10d (own_nost q10e) (argsL := [(.ref y), (.ref aD), (.int 0)]) (rest := []) (lenOf pd_19 rfl) rfl (own_z rfl) (hb hby d36_20) (fun _ _ => ⟨rfl, e6, (ol rfl), (ol rfl)⟩)
 dsimp only [Pt.U, Pt.locs, Pt.cells, Pt.slots] at X10 l10 y10 z10 st10 hQ10
 subst l10 y10 z10
 obtain ⟨ar_10, kA_10, rfl, N10q, Kq10, r10_0, r10_1, r10_2, r10_3, r10_4, r10_5, r10_6⟩ := hQ10
 have N10 := Fr.app N2 N10q
 have sz11 := Kq10.1
 have K11 := K3.trans Kq10 (own_all1 (Or.inl (by simp)))
 have ltr10_0 := lN r10_0.lt
 have ltr10_1 := lN r10_1.lt
 have ltr10_2 := lN r10_2.lt
 have ltr10_3 := lN r10_3.lt
 have ltr10_4 := lN r10_4.lt
 refine ot (S' := T10.setTop (mkF m 23 #[vR lst, vR y] [])) st10 ?_
 refine oo (S' := T10.setTop (mkF m 24 #[vR lst, vR y] [(.int 1)])) (fun _ kK => XS.iconst X10.here hx rfl (hb hby d36_23) kK) ?_
 refine OwnEnd.ret X10 (v := (some (.int (nar .boolean (1 : Int32))))) (fun h => by rw [Bd.returns] at h; cases h) hlk (fun fs hr => retN X10 hx (t := .boolean) Bd.returns (by simp) (hb hby d36_24) hr) (by decide) (by decide) (Q := Qal0 Z lst mc y aD kD h0 n0) rfl ?_
 exact ⟨ar_10, kA_10, rfl, N10, K11, r10_0, r10_1, r10_2, r10_3, r10_4, (r10_5), (by omega)⟩

theorem own_efad1 (m : MethodId) (lst : Addr) (y : Addr) (ar : Addr) : entryFrame m #[(.ref lst), (.ref y), (.ref ar), (.int 1)] 4 = mkF m 0 #[vR lst, vR y, vR ar, vI 1] [] := by first | (simp [entryFrame, mkF, argsToLocals, Value.category]; done) | rfl
def Qad1 (Z : State) (lst : Addr) (mc : Int32) (y : Addr) (ar : Addr) (kA : ClassId) (ea0 : Addr) (h0 : Heap) (n0 : Nat) (v : Option Value) (h : Heap) (L : List Loc) : Prop := v = none ∧ Fr n0 L ∧ Keep h0 h [lst, ar] ∧ (Exa Z h lst j2) ∧ (Fld Z h lst j6 "modCount" "I" (.int mc)) ∧ (Fld Z h lst j2 "elementData" "[Ljava/lang/Object;" (.ref ar)) ∧ (Fld Z h lst j2 "size" "I" (.int 2)) ∧ (Arv Z h ar kA (.object j4) (10 : Int32) [(.ref ea0), (.ref y), .null, .null, .null, .null, .null, .null, .null, .null] .null)
set_option maxRecDepth 65536 in
set_option maxHeartbeats 40000000 in
theorem rmad1 (l : Launch) (Z : State) (a0 : Array Value) (G : OwnG Z a0) (ws : List Jvm.Cond) (lst : Addr) (mc : Int32) (y : Addr) (ar : Addr) (kA : ClassId) (ea0 : Addr) (h0 : Heap) (n0 : Nat) (O0 : Old Z n0 h0) (P0 : Exa Z h0 lst j2) (P1 : Fld Z h0 lst j6 "modCount" "I" (.int mc)) (P2 : Fld Z h0 lst j2 "elementData" "[Ljava/lang/Object;" (.ref ar)) (P3 : Fld Z h0 lst j2 "size" "I" (.int 1)) (P4 : Exa Z h0 y j1) (P5 : n0 ≤ lst) (P6 : n0 ≤ ar) (P7 : lst ≠ ar) (P8 : Arv Z h0 ar kA (.object j4) (10 : Int32) [(.ref ea0), .null, .null, .null, .null, .null, .null, .null, .null, .null] .null) (P9 : Ovr Z kA j4) :
  MetFree l own_m35 (head1 (Jvm.Cond.code own_m35 B45 4 none :: ws) (rR 0 0 0 0)) (fun a U => a = #[(.ref lst), (.ref y), (.ref ar), (.int 1)] ∧ Z.Warmed39 U.vm ∧ U.heap = h0) (fun _ _ _ _ _ => True) (fun _ U o U' => ∃ v L, o = .returned v ∧ Qad1 Z lst mc y ar kA ea0 h0 n0 v U'.heap L ∧ FrameEnd U o U' L (rR 0 0 0 0).cells (rR 0 0 0 0).slots) := by
 refine MetFree.of_bodySF (plainFor_of_name pn_8) hisR ?_
 intro p e s m args below meth cD s₁ Bd hml0 hP hK
 obtain ⟨rfl, hZ, hh⟩ := hP
 have hml : cD.maxLocals = 4 := hml0
 obtain ⟨hx, hby, (hown : s.vm.findClass j2 = some m.cls), hlk, X0, e0⟩ := own_st Bd hh
 have lt0 := lN P0.lt
 have lt1 := lN P1.lt
 have lt2 := lN P2.lt
 have lt3 := lN P3.lt
 have lt4 := lN P4.lt
 have lt8 := lN P8.lt
 have nP7 := own_neN P7
 have K0 : Keep h0 h0 [lst, ar] := Keep.refl h0 _
 have Z0 := own_old_le O0
 have N0 := Fr.nil n0
 let lv1 : Array Slot := #[vR lst, vR y, vR ar, vI 1]
 refine OwnEnd.start (g' := (mkF m 0 lv1 [])) (own_efad1 m lst y ar) ?_
 refine oo (S' := s₁.setTop (mkF m 2 lv1 [(.ref ar), (.int 1)])) (fun _ kK => XS.iloadN X0.here hx rfl (hb hby d35_0) rfl (XS.aloadN X0.here hx rfl (hb hby d35_1) rfl rfl kK)) ?_
 obtain ⟨cl2, Ar2, q2, S2, N2', H2, G2⟩ := id P8
 refine oo (S' := s₁.setTop (mkF m 3 lv1 [(.int 10), (.int 1)])) (fun _ kK => X0.arraylength hx (by rw [e0]; exact Ar2.1) (State.isArrayOf_alike hZ.alike Ar2.2.1) (g := (mkF m 2 lv1 [(.ref ar), (.int 1)])) rfl rfl (hb hby d35_2) _ (by rw [len_of S2 N2']; exact kK)) ?_
 refine oo (S' := s₁.setTop (mkF m 14 lv1 [(.ref y), (.int 1), (.ref ar)])) (fun _ kK => XS.icmpYes X0.here hx rfl (pc0 := 3) (pc' := 11) rfl (hb hby d35_3) rfl (feq ((by decide : ¬ ((1 : Int32) = (10 : Int32))))).2 (by decide) (by decide) (XS.aloadN X0.here hx rfl (hb hby d35_11) rfl rfl (XS.iloadN X0.here hx rfl (hb hby d35_12) rfl (XS.aloadN X0.here hx rfl (hb hby d35_13) rfl rfl kK)))) ?_
 obtain ⟨cl3, Ar3, q3, S3, N3', H3, G3⟩ := id P8
 have hin4 : ¬ ((1 : Int32) < 0 ∨ cl3.slots.size ≤ ((1 : Int32)).toNatClampNeg) := inb_of S3 ⟨by decide, by decide⟩
 obtain ⟨T4, h4, X4, e4, W4, st4⟩ := stR X0 hx hZ e0 Ar3 (j := (1 : Int32)) hin4 rfl (own_sto Ar3 q3 P9 (Ins.of_exa P4 (w_ G 238 rfl))) (g := (mkF m 14 lv1 [(.ref y), (.int 1), (.ref ar)])) rfl rfl (hb hby d35_14)
 have N4 := Fr.snoc X4 N0 (by omega)
 have sz5 := own_wr_le W4
 have K5 := K0.wr W4 (Or.inl (by simp))
 have V4 : Arv Z h4 ar kA (.object j4) (10 : Int32) [(.ref ea0), (.ref y), .null, .null, .null, .null, .null, .null, .null, .null] .null := Arv.set Ar3 q3 S3 N3' H3 G3 rfl W4 1 rfl (Nat.le_of_ble_eq_true rfl)
 refine oo (S' := T4.setTop (mkF m 15 lv1 [])) st4 ?_
 refine oo (S' := T4.setTop (mkF m 19 lv1 [(.int 2), (.ref lst)])) (fun _ kK => XS.aloadN X4.here hx rfl (hb hby d35_15) rfl rfl (XS.iloadN X4.here hx rfl (hb hby d35_16) rfl (XS.iconst X4.here hx rfl (hb hby d35_17) (XS.iadd X4.here hx rfl (hb hby d35_18) rfl kK)))) ?_
 have f7 := (P3.other W4 (Or.inl (on (by omega))))
 have f8 := (P0.wr W4)
 obtain ⟨T6, h6, X6, e6, W6, st6⟩ := putF X4 hx hZ hown (host := "") (Or.inl (w_ G 216 rfl)) Via.refl e4 f7 f8 (Or.inl (w_ G 217 rfl)) (w_ G 57 rfl) (ty := .int) (by decide) rfl rfl (g := (mkF m 19 lv1 [(.int 2), (.ref lst)])) rfl rfl (hb hby d35_19)
 have Fw6 := f7.same W6
 have N6 := Fr.snoc X6 N4 (by omega)
 have sz9 := own_wr_le W6
 have K9 := K5.wr W6 (Or.inl (by simp))
 refine oo (S' := T6.setTop (mkF m 22 lv1 [])) st6 ?_
 have f10 := (f8.wr W6)
 have f11 := ((P1.other W4 (Or.inl (on (by omega)))).other W6 (Or.inr (slot_ne (Or.inl (w_ G 76 rfl)) (Or.inl (w_ G 217 rfl)) (by decide) (t := .int) (t' := .int) (by decide) (by decide))))
 have f12 := ((P2.other W4 (Or.inl (on (by omega)))).other W6 (Or.inr (slot_ne (Or.inl (w_ G 79 rfl)) (Or.inl (w_ G 217 rfl)) (by decide) (t := (.array (.object j4))) (t' := .int) (by decide) (by decide))))
 have f13 := (V4.other W6 (on (by omega)))
 refine OwnEnd.ret X6 (v := none) (fun _ => rfl) hlk (fun fs hr => X6.returnOut hx Bd.returns (hb hby d35_22) hr) (by decide) (by decide) (Q := Qad1 Z lst mc y ar kA ea0 h0 n0) e6 ?_
 exact ⟨rfl, N6, K9, f10, f11, f12, Fw6, f13⟩

theorem own_efal1 (m : MethodId) (lst : Addr) (y : Addr) : entryFrame m #[(.ref lst), (.ref y)] 2 = mkF m 0 #[vR lst, vR y] [] := by first | (simp [entryFrame, mkF, argsToLocals, Value.category]; done) | rfl
def Qal1 (Z : State) (lst : Addr) (mc : Int32) (y : Addr) (ar : Addr) (kA : ClassId) (ea0 : Addr) (h0 : Heap) (n0 : Nat) (v : Option Value) (h : Heap) (L : List Loc) : Prop := v = some (.int 1) ∧ Fr n0 L ∧ Keep h0 h [lst, ar] ∧ (Exa Z h lst j2) ∧ (Fld Z h lst j6 "modCount" "I" (.int (mc + (1 : Int32)))) ∧ (Fld Z h lst j2 "elementData" "[Ljava/lang/Object;" (.ref ar)) ∧ (Fld Z h lst j2 "size" "I" (.int 2)) ∧ (Arv Z h ar kA (.object j4) (10 : Int32) [(.ref ea0), (.ref y), .null, .null, .null, .null, .null, .null, .null, .null] .null)
set_option maxRecDepth 65536 in
set_option maxHeartbeats 40000000 in
theorem rmal1 (l : Launch) (Z : State) (a0 : Array Value) (G : OwnG Z a0) (ws : List Jvm.Cond) (lst : Addr) (mc : Int32) (y : Addr) (ar : Addr) (kA : ClassId) (ea0 : Addr) (h0 : Heap) (n0 : Nat) (O0 : Old Z n0 h0) (P0 : Exa Z h0 lst j2) (P1 : Fld Z h0 lst j6 "modCount" "I" (.int mc)) (P2 : Fld Z h0 lst j2 "elementData" "[Ljava/lang/Object;" (.ref ar)) (P3 : Fld Z h0 lst j2 "size" "I" (.int 1)) (P4 : Exa Z h0 y j1) (P5 : n0 ≤ lst) (P6 : n0 ≤ ar) (P7 : lst ≠ ar) (P8 : Arv Z h0 ar kA (.object j4) (10 : Int32) [(.ref ea0), .null, .null, .null, .null, .null, .null, .null, .null, .null] .null) (P9 : Ovr Z kA j4) :
  MetFree l own_m36 (head1 (Jvm.Cond.code own_m36 B46 2 (some .boolean) :: ws) (rR 1 0 0 15)) (fun a U => a = #[(.ref lst), (.ref y)] ∧ Z.Warmed39 U.vm ∧ U.heap = h0) (fun _ _ _ _ _ => True) (fun _ U o U' => ∃ v L, o = .returned v ∧ Qal1 Z lst mc y ar kA ea0 h0 n0 v U'.heap L ∧ FrameEnd U o U' L (rR 1 0 0 15).cells (rR 1 0 0 15).slots) := by
 refine MetFree.of_bodySF (plainFor_of_name pn_8) hisR ?_
 intro p e s m args below meth cD s₁ Bd hml0 hP hK
 obtain ⟨rfl, hZ, hh⟩ := hP
 have hml : cD.maxLocals = 2 := hml0
 obtain ⟨hx, hby, (hown : s.vm.findClass j2 = some m.cls), hlk, X0, e0⟩ := own_st Bd hh
 have lt0 := lN P0.lt
 have lt1 := lN P1.lt
 have lt2 := lN P2.lt
 have lt3 := lN P3.lt
 have lt4 := lN P4.lt
 have lt8 := lN P8.lt
 have nP7 := own_neN P7
 have K0 : Keep h0 h0 [lst, ar] := Keep.refl h0 _
 have Z0 := own_old_le O0
 have N0 := Fr.nil n0
 refine OwnEnd.start (g' := (mkF m 0 #[vR lst, vR y] [])) (own_efal1 m lst y) ?_
 refine oo (S' := s₁.setTop (mkF m 2 #[vR lst, vR y] [(.ref lst), (.ref lst)])) (fun _ kK => XS.aloadN X0.here hx rfl (hb hby d36_0) rfl rfl (XS.dup X0.here hx rfl (hb hby d36_1) rfl rfl kK)) ?_
 obtain ⟨T1, X1, e1, st1⟩ := getF X0 hx hZ hown (host := "") (Or.inl (w_ G 214 rfl)) (Via.of (w_ G 215 rfl)) e0 P1 (g := (mkF m 2 #[vR lst, vR y] [(.ref lst), (.ref lst)])) rfl rfl (hb hby d36_2)
 refine oo (S' := T1.setTop (mkF m 5 #[vR lst, vR y] [(.int mc), (.ref lst)])) st1 ?_
 refine oo (S' := T1.setTop (mkF m 7 #[vR lst, vR y] [(.int (mc + (1 : Int32))), (.ref lst)])) (fun _ kK => XS.iconst X1.here hx rfl (hb hby d36_5) (XS.iadd X1.here hx rfl (hb hby d36_6) rfl kK)) ?_
 obtain ⟨T2, h2, X2, e2, W2, st2⟩ := putF X1 hx hZ hown (host := "") (Or.inl (w_ G 214 rfl)) (Via.of (w_ G 215 rfl)) e1 P1 P0 (Or.inl (w_ G 76 rfl)) (w_ G 57 rfl) (ty := .int) (by decide) rfl rfl (g := (mkF m 7 #[vR lst, vR y] [(.int (mc + (1 : Int32))), (.ref lst)])) rfl rfl (hb hby d36_7)
 have Fw2 := P1.same W2
 have N2 := Fr.snoc X2 N0 (by omega)
 have sz3 := own_wr_le W2
 have K3 := K0.wr W2 (Or.inl (by simp))
 have O3 := O0.wr W2 (by omega)
 refine oo (S' := T2.setTop (mkF m 10 #[vR lst, vR y] [])) st2 ?_
 refine oo (S' := T2.setTop (mkF m 13 #[vR lst, vR y] [(.ref lst), (.ref y), (.ref lst)])) (fun _ kK => XS.aloadN X2.here hx rfl (hb hby d36_10) rfl rfl (XS.aloadN X2.here hx rfl (hb hby d36_11) rfl rfl (XS.aloadN X2.here hx rfl (hb hby d36_12) rfl rfl kK))) ?_
 have f5 := (P2.other W2 (Or.inr (slot_ne (Or.inl (w_ G 79 rfl)) (Or.inl (w_ G 76 rfl)) (by decide) (t := (.array (.object j4))) (t' := .int) (by decide) (by decide))))
 obtain ⟨T4, X4, e4, st4⟩ := getF X2 hx hZ hown (host := "") (Or.inl (w_ G 78 rfl)) Via.refl e2 f5 (g := (mkF m 13 #[vR lst, vR y] [(.ref lst), (.ref y), (.ref lst)])) rfl rfl (hb hby d36_13)
 refine oo (S' := T4.setTop (mkF m 16 #[vR lst, vR y] [(.ref ar), (.ref y), (.ref lst)])) st4 ?_
 refine oo (S' := T4.setTop (mkF m 17 #[vR lst, vR y] [(.ref lst), (.ref ar), (.ref y), (.ref lst)])) (fun _ kK => XS.aloadN X4.here hx rfl (hb hby d36_16) rfl rfl kK) ?_
 have f7 := (P3.other W2 (Or.inr (slot_ne (Or.inl (w_ G 217 rfl)) (Or.inl (w_ G 76 rfl)) (by decide) (t := .int) (t' := .int) (by decide) (by decide))))
 obtain ⟨T6, X6, e6, st6⟩ := getF X4 hx hZ hown (host := "") (Or.inl (w_ G 216 rfl)) Via.refl e4 f7 (g := (mkF m 17 #[vR lst, vR y] [(.ref lst), (.ref ar), (.ref y), (.ref lst)])) rfl rfl (hb hby d36_17)
 refine oo (S' := T6.setTop (mkF m 20 #[vR lst, vR y] [(.int 1), (.ref ar), (.ref y), (.ref lst)])) st6 ?_
 have f8 := (P0.wr W2)
 have f9 := (P4.wr W2)
 have f10 := (P8.other W2 (on (by omega)))
 obtain ⟨cq11, kq11, q11a, q11b, cc11, q11d, -, q11e⟩ := isOf hZ e6 f8
 obtain ⟨_, _, ⟨T11, L11, k11, n11⟩, -, X11, ⟨Lc11, hQ11, l11, y11, z11⟩, st11⟩ := X6.privateBack hx (y := own_m35) hown (mvT hZ (w_ G 218 rfl)) (mvT hZ (w_ G 219 rfl)) (own_selP (oI (mvT hZ (w_ G 208 rfl)) rfl) (mvT hZ (w_ G 219 rfl)) (Cond.privateMethod_at (args := #[]) (mvT hZ (w_ G 220 rfl))) (by decide)) (Cond.privateMethod_at (args := #[]) (mvT hZ (w_ G 220 rfl))) (mvT hZ (w_ G 222 rfl)) (by decide) (backOf (W := 0) (rmad1 l Z a0 G [] lst (mc + (1 : Int32)) y ar kA ea0 h2 n0 O3 f8 Fw2 f5 f7 f9 (by omega) (by omega) (on (by omega)) f10 P9) hZ (w_ G 222 rfl) (w_ G 58 rfl) (by decide) (by decide)) (g := (mkF m 20 #[vR lst, vR y] [(.int 1), (.ref ar), (.ref y), (.ref lst)])) rfl (by rw [hml]; rfl) (Steps.refl _) q11d (own_nost q11e) (argsL := [(.ref y), (.ref ar), (.int 1)]) (rest := []) (lenOf pd_19 rfl) rfl (own_z rfl) (hb hby d36_20) (fun _ _ => ⟨rfl, e6, (ol rfl), (ol rfl)⟩)
 dsimp only [Pt.U, Pt.locs, Pt.cells, Pt.slots] at X11 l11 y11 z11 st11 hQ11
 subst l11 y11 z11
 obtain ⟨rfl, N11q, Kq11, r11_0, r11_1, r11_2, r11_3, r11_4⟩ := hQ11
 have N11 := Fr.app N2 N11q
 have sz12 := Kq11.1
 have K12 := K3.trans Kq11 (own_all2 (Or.inl (by simp)) (Or.inl (by simp)))
 have ltr11_0 := lN r11_0.lt
 have ltr11_1 := lN r11_1.lt
 have ltr11_2 := lN r11_2.lt
 have ltr11_3 := lN r11_3.lt
 have ltr11_4 := lN r11_4.lt
 refine ot (S' := T11.setTop (mkF m 23 #[vR lst, vR y] [])) st11 ?_
 refine oo (S' := T11.setTop (mkF m 24 #[vR lst, vR y] [(.int 1)])) (fun _ kK => XS.iconst X11.here hx rfl (hb hby d36_23) kK) ?_
 refine OwnEnd.ret X11 (v := (some (.int (nar .boolean (1 : Int32))))) (fun h => by rw [Bd.returns] at h; cases h) hlk (fun fs hr => retN X11 hx (t := .boolean) Bd.returns (by simp) (hb hby d36_24) hr) (by decide) (by decide) (Q := Qal1 Z lst mc y ar kA ea0 h0 n0) rfl ?_
 exact ⟨rfl, N11, K12, r11_0, r11_1, r11_2, r11_3, r11_4⟩

theorem own_efad2 (m : MethodId) (lst : Addr) (y : Addr) (ar : Addr) : entryFrame m #[(.ref lst), (.ref y), (.ref ar), (.int 2)] 4 = mkF m 0 #[vR lst, vR y, vR ar, vI 2] [] := by first | (simp [entryFrame, mkF, argsToLocals, Value.category]; done) | rfl
def Qad2 (Z : State) (lst : Addr) (mc : Int32) (y : Addr) (ar : Addr) (kA : ClassId) (ea0 : Addr) (ea1 : Addr) (h0 : Heap) (n0 : Nat) (v : Option Value) (h : Heap) (L : List Loc) : Prop := v = none ∧ Fr n0 L ∧ Keep h0 h [lst, ar] ∧ (Exa Z h lst j2) ∧ (Fld Z h lst j6 "modCount" "I" (.int mc)) ∧ (Fld Z h lst j2 "elementData" "[Ljava/lang/Object;" (.ref ar)) ∧ (Fld Z h lst j2 "size" "I" (.int 3)) ∧ (Arv Z h ar kA (.object j4) (10 : Int32) [(.ref ea0), (.ref ea1), (.ref y), .null, .null, .null, .null, .null, .null, .null] .null)
set_option maxRecDepth 65536 in
set_option maxHeartbeats 40000000 in
theorem rmad2 (l : Launch) (Z : State) (a0 : Array Value) (G : OwnG Z a0) (ws : List Jvm.Cond) (lst : Addr) (mc : Int32) (y : Addr) (ar : Addr) (kA : ClassId) (ea0 : Addr) (ea1 : Addr) (h0 : Heap) (n0 : Nat) (O0 : Old Z n0 h0) (P0 : Exa Z h0 lst j2) (P1 : Fld Z h0 lst j6 "modCount" "I" (.int mc)) (P2 : Fld Z h0 lst j2 "elementData" "[Ljava/lang/Object;" (.ref ar)) (P3 : Fld Z h0 lst j2 "size" "I" (.int 2)) (P4 : Exa Z h0 y j1) (P5 : n0 ≤ lst) (P6 : n0 ≤ ar) (P7 : lst ≠ ar) (P8 : Arv Z h0 ar kA (.object j4) (10 : Int32) [(.ref ea0), (.ref ea1), .null, .null, .null, .null, .null, .null, .null, .null] .null) (P9 : Ovr Z kA j4) :
  MetFree l own_m35 (head1 (Jvm.Cond.code own_m35 B45 4 none :: ws) (rR 0 0 0 0)) (fun a U => a = #[(.ref lst), (.ref y), (.ref ar), (.int 2)] ∧ Z.Warmed39 U.vm ∧ U.heap = h0) (fun _ _ _ _ _ => True) (fun _ U o U' => ∃ v L, o = .returned v ∧ Qad2 Z lst mc y ar kA ea0 ea1 h0 n0 v U'.heap L ∧ FrameEnd U o U' L (rR 0 0 0 0).cells (rR 0 0 0 0).slots) := by
 refine MetFree.of_bodySF (plainFor_of_name pn_8) hisR ?_
 intro p e s m args below meth cD s₁ Bd hml0 hP hK
 obtain ⟨rfl, hZ, hh⟩ := hP
 have hml : cD.maxLocals = 4 := hml0
 obtain ⟨hx, hby, (hown : s.vm.findClass j2 = some m.cls), hlk, X0, e0⟩ := own_st Bd hh
 have lt0 := lN P0.lt
 have lt1 := lN P1.lt
 have lt2 := lN P2.lt
 have lt3 := lN P3.lt
 have lt4 := lN P4.lt
 have lt8 := lN P8.lt
 have nP7 := own_neN P7
 have K0 : Keep h0 h0 [lst, ar] := Keep.refl h0 _
 have Z0 := own_old_le O0
 have N0 := Fr.nil n0
 let lv1 : Array Slot := #[vR lst, vR y, vR ar, vI 2]
 refine OwnEnd.start (g' := (mkF m 0 lv1 [])) (own_efad2 m lst y ar) ?_
 refine oo (S' := s₁.setTop (mkF m 2 lv1 [(.ref ar), (.int 2)])) (fun _ kK => XS.iloadN X0.here hx rfl (hb hby d35_0) rfl (XS.aloadN X0.here hx rfl (hb hby d35_1) rfl rfl kK)) ?_
 obtain ⟨cl2, Ar2, q2, S2, N2', H2, G2⟩ := id P8
 refine oo (S' := s₁.setTop (mkF m 3 lv1 [(.int 10), (.int 2)])) (fun _ kK => X0.arraylength hx (by rw [e0]; exact Ar2.1) (State.isArrayOf_alike hZ.alike Ar2.2.1) (g := (mkF m 2 lv1 [(.ref ar), (.int 2)])) rfl rfl (hb hby d35_2) _ (by rw [len_of S2 N2']; exact kK)) ?_
 refine oo (S' := s₁.setTop (mkF m 14 lv1 [(.ref y), (.int 2), (.ref ar)])) (fun _ kK => XS.icmpYes X0.here hx rfl (pc0 := 3) (pc' := 11) rfl (hb hby d35_3) rfl (feq ((by decide : ¬ ((2 : Int32) = (10 : Int32))))).2 (by decide) (by decide) (XS.aloadN X0.here hx rfl (hb hby d35_11) rfl rfl (XS.iloadN X0.here hx rfl (hb hby d35_12) rfl (XS.aloadN X0.here hx rfl (hb hby d35_13) rfl rfl kK)))) ?_
 obtain ⟨cl3, Ar3, q3, S3, N3', H3, G3⟩ := id P8
 have hin4 : ¬ ((2 : Int32) < 0 ∨ cl3.slots.size ≤ ((2 : Int32)).toNatClampNeg) := inb_of S3 ⟨by decide, by decide⟩
 obtain ⟨T4, h4, X4, e4, W4, st4⟩ := stR X0 hx hZ e0 Ar3 (j := (2 : Int32)) hin4 rfl (own_sto Ar3 q3 P9 (Ins.of_exa P4 (w_ G 238 rfl))) (g := (mkF m 14 lv1 [(.ref y), (.int 2), (.ref ar)])) rfl rfl (hb hby d35_14)
 have N4 := Fr.snoc X4 N0 (by omega)
 have sz5 := own_wr_le W4
 have K5 := K0.wr W4 (Or.inl (by simp))
 have V4 : Arv Z h4 ar kA (.object j4) (10 : Int32) [(.ref ea0), (.ref ea1), (.ref y), .null, .null, .null, .null, .null, .null, .null] .null := Arv.set Ar3 q3 S3 N3' H3 G3 rfl W4 2 rfl (Nat.le_of_ble_eq_true rfl)
 refine oo (S' := T4.setTop (mkF m 15 lv1 [])) st4 ?_
 refine oo (S' := T4.setTop (mkF m 19 lv1 [(.int 3), (.ref lst)])) (fun _ kK => XS.aloadN X4.here hx rfl (hb hby d35_15) rfl rfl (XS.iloadN X4.here hx rfl (hb hby d35_16) rfl (XS.iconst X4.here hx rfl (hb hby d35_17) (XS.iadd X4.here hx rfl (hb hby d35_18) rfl kK)))) ?_
 have f7 := (P3.other W4 (Or.inl (on (by omega))))
 have f8 := (P0.wr W4)
 obtain ⟨T6, h6, X6, e6, W6, st6⟩ := putF X4 hx hZ hown (host := "") (Or.inl (w_ G 216 rfl)) Via.refl e4 f7 f8 (Or.inl (w_ G 217 rfl)) (w_ G 57 rfl) (ty := .int) (by decide) rfl rfl (g := (mkF m 19 lv1 [(.int 3), (.ref lst)])) rfl rfl (hb hby d35_19)
 have Fw6 := f7.same W6
 have N6 := Fr.snoc X6 N4 (by omega)
 have sz9 := own_wr_le W6
 have K9 := K5.wr W6 (Or.inl (by simp))
 refine oo (S' := T6.setTop (mkF m 22 lv1 [])) st6 ?_
 have f10 := (f8.wr W6)
 have f11 := ((P1.other W4 (Or.inl (on (by omega)))).other W6 (Or.inr (slot_ne (Or.inl (w_ G 76 rfl)) (Or.inl (w_ G 217 rfl)) (by decide) (t := .int) (t' := .int) (by decide) (by decide))))
 have f12 := ((P2.other W4 (Or.inl (on (by omega)))).other W6 (Or.inr (slot_ne (Or.inl (w_ G 79 rfl)) (Or.inl (w_ G 217 rfl)) (by decide) (t := (.array (.object j4))) (t' := .int) (by decide) (by decide))))
 have f13 := (V4.other W6 (on (by omega)))
 refine OwnEnd.ret X6 (v := none) (fun _ => rfl) hlk (fun fs hr => X6.returnOut hx Bd.returns (hb hby d35_22) hr) (by decide) (by decide) (Q := Qad2 Z lst mc y ar kA ea0 ea1 h0 n0) e6 ?_
 exact ⟨rfl, N6, K9, f10, f11, f12, Fw6, f13⟩

theorem own_efal2 (m : MethodId) (lst : Addr) (y : Addr) : entryFrame m #[(.ref lst), (.ref y)] 2 = mkF m 0 #[vR lst, vR y] [] := by first | (simp [entryFrame, mkF, argsToLocals, Value.category]; done) | rfl
def Qal2 (Z : State) (lst : Addr) (mc : Int32) (y : Addr) (ar : Addr) (kA : ClassId) (ea0 : Addr) (ea1 : Addr) (h0 : Heap) (n0 : Nat) (v : Option Value) (h : Heap) (L : List Loc) : Prop := v = some (.int 1) ∧ Fr n0 L ∧ Keep h0 h [lst, ar] ∧ (Exa Z h lst j2) ∧ (Fld Z h lst j6 "modCount" "I" (.int (mc + (1 : Int32)))) ∧ (Fld Z h lst j2 "elementData" "[Ljava/lang/Object;" (.ref ar)) ∧ (Fld Z h lst j2 "size" "I" (.int 3)) ∧ (Arv Z h ar kA (.object j4) (10 : Int32) [(.ref ea0), (.ref ea1), (.ref y), .null, .null, .null, .null, .null, .null, .null] .null)
set_option maxRecDepth 65536 in
set_option maxHeartbeats 40000000 in
theorem rmal2 (l : Launch) (Z : State) (a0 : Array Value) (G : OwnG Z a0) (ws : List Jvm.Cond) (lst : Addr) (mc : Int32) (y : Addr) (ar : Addr) (kA : ClassId) (ea0 : Addr) (ea1 : Addr) (h0 : Heap) (n0 : Nat) (O0 : Old Z n0 h0) (P0 : Exa Z h0 lst j2) (P1 : Fld Z h0 lst j6 "modCount" "I" (.int mc)) (P2 : Fld Z h0 lst j2 "elementData" "[Ljava/lang/Object;" (.ref ar)) (P3 : Fld Z h0 lst j2 "size" "I" (.int 2)) (P4 : Exa Z h0 y j1) (P5 : n0 ≤ lst) (P6 : n0 ≤ ar) (P7 : lst ≠ ar) (P8 : Arv Z h0 ar kA (.object j4) (10 : Int32) [(.ref ea0), (.ref ea1), .null, .null, .null, .null, .null, .null, .null, .null] .null) (P9 : Ovr Z kA j4) :
  MetFree l own_m36 (head1 (Jvm.Cond.code own_m36 B46 2 (some .boolean) :: ws) (rR 1 0 0 15)) (fun a U => a = #[(.ref lst), (.ref y)] ∧ Z.Warmed39 U.vm ∧ U.heap = h0) (fun _ _ _ _ _ => True) (fun _ U o U' => ∃ v L, o = .returned v ∧ Qal2 Z lst mc y ar kA ea0 ea1 h0 n0 v U'.heap L ∧ FrameEnd U o U' L (rR 1 0 0 15).cells (rR 1 0 0 15).slots) := by
 refine MetFree.of_bodySF (plainFor_of_name pn_8) hisR ?_
 intro p e s m args below meth cD s₁ Bd hml0 hP hK
 obtain ⟨rfl, hZ, hh⟩ := hP
 have hml : cD.maxLocals = 2 := hml0
 obtain ⟨hx, hby, (hown : s.vm.findClass j2 = some m.cls), hlk, X0, e0⟩ := own_st Bd hh
 have lt0 := lN P0.lt
 have lt1 := lN P1.lt
 have lt2 := lN P2.lt
 have lt3 := lN P3.lt
 have lt4 := lN P4.lt
 have lt8 := lN P8.lt
 have nP7 := own_neN P7
 have K0 : Keep h0 h0 [lst, ar] := Keep.refl h0 _
 have Z0 := own_old_le O0
 have N0 := Fr.nil n0
 refine OwnEnd.start (g' := (mkF m 0 #[vR lst, vR y] [])) (own_efal2 m lst y) ?_
 refine oo (S' := s₁.setTop (mkF m 2 #[vR lst, vR y] [(.ref lst), (.ref lst)])) (fun _ kK => XS.aloadN X0.here hx rfl (hb hby d36_0) rfl rfl (XS.dup X0.here hx rfl (hb hby d36_1) rfl rfl kK)) ?_
 obtain ⟨T1, X1, e1, st1⟩ := getF X0 hx hZ hown (host := "") (Or.inl (w_ G 214 rfl)) (Via.of (w_ G 215 rfl)) e0 P1 (g := (mkF m 2 #[vR lst, vR y] [(.ref lst), (.ref lst)])) rfl rfl (hb hby d36_2)
 refine oo (S' := T1.setTop (mkF m 5 #[vR lst, vR y] [(.int mc), (.ref lst)])) st1 ?_
 refine oo (S' := T1.setTop (mkF m 7 #[vR lst, vR y] [(.int (mc + (1 : Int32))), (.ref lst)])) (fun _ kK => XS.iconst X1.here hx rfl (hb hby d36_5) (XS.iadd X1.here hx rfl (hb hby d36_6) rfl kK)) ?_
 obtain ⟨T2, h2, X2, e2, W2, st2⟩ := putF X1 hx hZ hown (host := "") (Or.inl (w_ G 214 rfl)) (Via.of (w_ G 215 rfl)) e1 P1 P0 (Or.inl (w_ G 76 rfl)) (w_ G 57 rfl) (ty := .int) (by decide) rfl rfl (g := (mkF m 7 #[vR lst, vR y] [(.int (mc + (1 : Int32))), (.ref lst)])) rfl rfl (hb hby d36_7)
 have Fw2 := P1.same W2
 have N2 := Fr.snoc X2 N0 (by omega)
 have sz3 := own_wr_le W2
 have K3 := K0.wr W2 (Or.inl (by simp))
 have O3 := O0.wr W2 (by omega)
 refine oo (S' := T2.setTop (mkF m 10 #[vR lst, vR y] [])) st2 ?_
 refine oo (S' := T2.setTop (mkF m 13 #[vR lst, vR y] [(.ref lst), (.ref y), (.ref lst)])) (fun _ kK => XS.aloadN X2.here hx rfl (hb hby d36_10) rfl rfl (XS.aloadN X2.here hx rfl (hb hby d36_11) rfl rfl (XS.aloadN X2.here hx rfl (hb hby d36_12) rfl rfl kK))) ?_
 have f5 := (P2.other W2 (Or.inr (slot_ne (Or.inl (w_ G 79 rfl)) (Or.inl (w_ G 76 rfl)) (by decide) (t := (.array (.object j4))) (t' := .int) (by decide) (by decide))))
 obtain ⟨T4, X4, e4, st4⟩ := getF X2 hx hZ hown (host := "") (Or.inl (w_ G 78 rfl)) Via.refl e2 f5 (g := (mkF m 13 #[vR lst, vR y] [(.ref lst), (.ref y), (.ref lst)])) rfl rfl (hb hby d36_13)
 refine oo (S' := T4.setTop (mkF m 16 #[vR lst, vR y] [(.ref ar), (.ref y), (.ref lst)])) st4 ?_
 refine oo (S' := T4.setTop (mkF m 17 #[vR lst, vR y] [(.ref lst), (.ref ar), (.ref y), (.ref lst)])) (fun _ kK => XS.aloadN X4.here hx rfl (hb hby d36_16) rfl rfl kK) ?_
 have f7 := (P3.other W2 (Or.inr (slot_ne (Or.inl (w_ G 217 rfl)) (Or.inl (w_ G 76 rfl)) (by decide) (t := .int) (t' := .int) (by decide) (by decide))))
 obtain ⟨T6, X6, e6, st6⟩ := getF X4 hx hZ hown (host := "") (Or.inl (w_ G 216 rfl)) Via.refl e4 f7 (g := (mkF m 17 #[vR lst, vR y] [(.ref lst), (.ref ar), (.ref y), (.ref lst)])) rfl rfl (hb hby d36_17)
 refine oo (S' := T6.setTop (mkF m 20 #[vR lst, vR y] [(.int 2), (.ref ar), (.ref y), (.ref lst)])) st6 ?_
 have f8 := (P0.wr W2)
 have f9 := (P4.wr W2)
 have f10 := (P8.other W2 (on (by omega)))
 obtain ⟨cq11, kq11, q11a, q11b, cc11, q11d, -, q11e⟩ := isOf hZ e6 f8
 obtain ⟨_, _, ⟨T11, L11, k11, n11⟩, -, X11, ⟨Lc11, hQ11, l11, y11, z11⟩, st11⟩ := X6.privateBack hx (y := own_m35) hown (mvT hZ (w_ G 218 rfl)) (mvT hZ (w_ G 219 rfl)) (own_selP (oI (mvT hZ (w_ G 208 rfl)) rfl) (mvT hZ (w_ G 219 rfl)) (Cond.privateMethod_at (args := #[]) (mvT hZ (w_ G 220 rfl))) (by decide)) (Cond.privateMethod_at (args := #[]) (mvT hZ (w_ G 220 rfl))) (mvT hZ (w_ G 222 rfl)) (by decide) (backOf (W := 0) (rmad2 l Z a0 G [] lst (mc + (1 : Int32)) y ar kA ea0 ea1 h2 n0 O3 f8 Fw2 f5 f7 f9 (by omega) (by omega) (on (by omega)) f10 P9) hZ (w_ G 222 rfl) (w_ G 58 rfl) (by decide) (by decide)) (g := (mkF m 20 #[vR lst, vR y] [(.int 2), (.ref ar), (.ref y), (.ref lst)])) rfl (by rw [hml]; rfl) (Steps.refl _) q11d (own_nost q11e) (argsL := [(.ref y), (.ref ar), (.int 2)]) (rest := []) (lenOf pd_19 rfl) rfl (own_z rfl) (hb hby d36_20) (fun _ _ => ⟨rfl, e6, (ol rfl), (ol rfl)⟩)
 dsimp only [Pt.U, Pt.locs, Pt.cells, Pt.slots] at X11 l11 y11 z11 st11 hQ11
 subst l11 y11 z11
 obtain ⟨rfl, N11q, Kq11, r11_0, r11_1, r11_2, r11_3, r11_4⟩ := hQ11
 have N11 := Fr.app N2 N11q
 have sz12 := Kq11.1
 have K12 := K3.trans Kq11 (own_all2 (Or.inl (by simp)) (Or.inl (by simp)))
 have ltr11_0 := lN r11_0.lt
 have ltr11_1 := lN r11_1.lt
 have ltr11_2 := lN r11_2.lt
 have ltr11_3 := lN r11_3.lt
 have ltr11_4 := lN r11_4.lt
 refine ot (S' := T11.setTop (mkF m 23 #[vR lst, vR y] [])) st11 ?_
 refine oo (S' := T11.setTop (mkF m 24 #[vR lst, vR y] [(.int 1)])) (fun _ kK => XS.iconst X11.here hx rfl (hb hby d36_23) kK) ?_
 refine OwnEnd.ret X11 (v := (some (.int (nar .boolean (1 : Int32))))) (fun h => by rw [Bd.returns] at h; cases h) hlk (fun fs hr => retN X11 hx (t := .boolean) Bd.returns (by simp) (hb hby d36_24) hr) (by decide) (by decide) (Q := Qal2 Z lst mc y ar kA ea0 ea1 h0 n0) rfl ?_
 exact ⟨rfl, N11, K12, r11_0, r11_1, r11_2, r11_3, r11_4⟩

theorem own_efsz (m : MethodId) (lst : Addr) : entryFrame m #[(.ref lst)] 1 = mkF m 0 #[vR lst] [] := by first | (simp [entryFrame, mkF, argsToLocals, Value.category]; done) | rfl
set_option maxRecDepth 65536 in
set_option maxHeartbeats 40000000 in
theorem rmsz (l : Launch) (Z : State) (a0 : Array Value) (G : OwnG Z a0) (ws : List Jvm.Cond) (lst : Addr) (n : Int32) (h0 : Heap) (n0 : Nat) (O0 : Old Z n0 h0) (P0 : Fld Z h0 lst j2 "size" "I" (.int n)) :
  MetFree l own_m37 (head1 (Jvm.Cond.code own_m37 B47 1 (some .int) :: ws) (rR 0 0 0 0)) (fun a U => a = #[(.ref lst)] ∧ Z.Warmed39 U.vm ∧ U.heap = h0) (fun _ _ _ _ _ => True) (fun _ U o U' => ∃ v L, o = .returned v ∧ (own_Qint n) h0 n0 v U'.heap L ∧ FrameEnd U o U' L (rR 0 0 0 0).cells (rR 0 0 0 0).slots) := by
 refine MetFree.of_bodySF (plainFor_of_name pn_8) hisR ?_
 intro p e s m args below meth cD s₁ Bd hml0 hP hK
 obtain ⟨rfl, hZ, hh⟩ := hP
 have hml : cD.maxLocals = 1 := hml0
 obtain ⟨hx, hby, (hown : s.vm.findClass j2 = some m.cls), hlk, X0, e0⟩ := own_st Bd hh
 have lt0 := lN P0.lt
 have Z0 := own_old_le O0
 have N0 := Fr.nil n0
 refine OwnEnd.start (g' := (mkF m 0 #[vR lst] [])) (own_efsz m lst) ?_
 refine oo (S' := s₁.setTop (mkF m 1 #[vR lst] [(.ref lst)])) (fun _ kK => XS.aloadN X0.here hx rfl (hb hby d37_0) rfl rfl kK) ?_
 obtain ⟨T1, X1, e1, st1⟩ := getF X0 hx hZ hown (host := "") (Or.inl (w_ G 216 rfl)) Via.refl e0 P0 (g := (mkF m 1 #[vR lst] [(.ref lst)])) rfl rfl (hb hby d37_1)
 refine oo (S' := T1.setTop (mkF m 4 #[vR lst] [(.int n)])) st1 ?_
 refine OwnEnd.ret X1 (v := (some (.int n))) (fun h => by rw [Bd.returns] at h; cases h) hlk (fun fs hr => retOut X1 hx Bd.returns rfl (Or.inl ⟨rfl, Or.inl rfl, _, rfl⟩) (hb hby d37_4) hr) (by decide) (by decide) (Q := (own_Qint n) h0 n0) e1 ?_
 exact ⟨rfl, N0, rfl⟩

theorem own_efoc (m : MethodId) (i : Int32) (n : Int32) : entryFrame m #[(.int i), (.int n)] 2 = mkF m 0 #[vI i, vI n] [] := by first | (simp [entryFrame, mkF, argsToLocals, Value.category]; done) | rfl
def Qoc (Z : State) (i : Int32) (n : Int32) (h0 : Heap) (n0 : Nat) (v : Option Value) (h : Heap) (L : List Loc) : Prop := v = some (.int i) ∧ Fr n0 L ∧ h = h0
set_option maxRecDepth 65536 in
set_option maxHeartbeats 40000000 in
theorem rmoc (l : Launch) (Z : State) (a0 : Array Value) (G : OwnG Z a0) (ws : List Jvm.Cond) (i : Int32) (n : Int32) (h0 : Heap) (n0 : Nat) (O0 : Old Z n0 h0) (P0 : ¬ i < (0 : Int32)) (P1 : i < n) :
  MetFree l own_m38 (head1 (Jvm.Cond.code own_m38 B48 2 (some .int) :: ws) (rR 1 0 0 14)) (fun a U => a = #[(.int i), (.int n)] ∧ Z.Warmed39 U.vm ∧ U.heap = h0) (fun _ _ _ _ _ => True) (fun _ U o U' => ∃ v L, o = .returned v ∧ Qoc Z i n h0 n0 v U'.heap L ∧ FrameEnd U o U' L (rR 1 0 0 14).cells (rR 1 0 0 14).slots) := by
 refine MetFree.of_bodySF (plainFor_of_name pn_9) hisR ?_
 intro p e s m args below meth cD s₁ Bd hml0 hP hK
 obtain ⟨rfl, hZ, hh⟩ := hP
 have hml : cD.maxLocals = 2 := hml0
 obtain ⟨hx, hby, (hown : s.vm.findClass "java/util/Objects" = some m.cls), hlk, X0, e0⟩ := own_st Bd hh
 have Z0 := own_old_le O0
 have N0 := Fr.nil n0
 refine OwnEnd.start (g' := (mkF m 0 #[vI i, vI n] [])) (own_efoc m i n) ?_
 refine oo (S' := s₁.setTop (mkF m 3 #[vI i, vI n] [.null, (.int n), (.int i)])) (fun _ kK => XS.iloadN X0.here hx rfl (hb hby d38_0) rfl (XS.iloadN X0.here hx rfl (hb hby d38_1) rfl (XS.aconstNull X0.here hx rfl (hb hby d38_2) kK))) ?_
 obtain ⟨_, _, ⟨T1, L1, k1, n1⟩, -, X1, ⟨Lc1, hQ1, l1, y1, z1⟩, st1⟩ := Jvm.LawKit.callS X0 hx (y := own_m0) hown (mvT hZ (w_ G 283 rfl)) (mvT hZ (w_ G 129 rfl)) (mvT hZ (w_ G 127 rfl)) (mvT hZ (w_ G 130 rfl)) (by decide) (backOf (W := 0) (rmck l Z a0 G [] i n .null h0 n0 O0 P0 P1 (rfl)) hZ (w_ G 130 rfl) (w_ G 127 rfl) (by decide) (by decide)) (g := (mkF m 3 #[vI i, vI n] [.null, (.int n), (.int i)])) rfl (by rw [hml]; rfl) (argsL := [(.int i), (.int n), .null]) (rest := []) (lenOf pd_0 rfl) rfl (own_z rfl) (hb hby d38_3) (fun _ _ => ⟨rfl, e0, (ol rfl), (ol rfl)⟩)
 dsimp only [Pt.U, Pt.locs, Pt.cells, Pt.slots] at X1 l1 y1 z1 st1 hQ1
 subst l1 y1 z1
 obtain ⟨rfl, N1q, eh1⟩ := hQ1
 have N1 := Fr.app N0 N1q
 refine oo (S' := T1.setTop (mkF m 6 #[vI i, vI n] [(.int i)])) st1 ?_
 refine OwnEnd.ret X1 (v := (some (.int i))) (fun h => by rw [Bd.returns] at h; cases h) hlk (fun fs hr => retOut X1 hx Bd.returns rfl (Or.inl ⟨rfl, Or.inl rfl, _, rfl⟩) (hb hby d38_6) hr) (by decide) (by decide) (Q := Qoc Z i n h0 n0) eh1 ?_
 exact ⟨rfl, N1, rfl⟩

theorem own_efed (m : MethodId) (lst : Addr) (i : Int32) : entryFrame m #[(.ref lst), (.int i)] 2 = mkF m 0 #[vR lst, vI i] [] := by first | (simp [entryFrame, mkF, argsToLocals, Value.category]; done) | rfl
def Qed (Z : State) (lst : Addr) (ar : Addr) (kA : ClassId) (vs : List Value) (i : Int32) (y : Addr) (h0 : Heap) (n0 : Nat) (v : Option Value) (h : Heap) (L : List Loc) : Prop := v = some (.ref y) ∧ Fr n0 L ∧ h = h0
set_option maxRecDepth 65536 in
set_option maxHeartbeats 40000000 in
theorem rmed (l : Launch) (Z : State) (a0 : Array Value) (G : OwnG Z a0) (ws : List Jvm.Cond) (lst : Addr) (ar : Addr) (kA : ClassId) (vs : List Value) (i : Int32) (y : Addr) (h0 : Heap) (n0 : Nat) (O0 : Old Z n0 h0) (P0 : Fld Z h0 lst j2 "elementData" "[Ljava/lang/Object;" (.ref ar)) (P1 : Arv Z h0 ar kA (.object j4) (10 : Int32) vs .null) (P2 : ¬ i < (0 : Int32)) (P3 : i < (10 : Int32)) (P4 : vs.getD i.toNatClampNeg .null = (.ref y)) :
  MetFree l own_m39 (head1 (Jvm.Cond.code own_m39 B49 2 (some (.object j4)) :: ws) (rR 0 0 0 0)) (fun a U => a = #[(.ref lst), (.int i)] ∧ Z.Warmed39 U.vm ∧ U.heap = h0) (fun _ _ _ _ _ => True) (fun _ U o U' => ∃ v L, o = .returned v ∧ Qed Z lst ar kA vs i y h0 n0 v U'.heap L ∧ FrameEnd U o U' L (rR 0 0 0 0).cells (rR 0 0 0 0).slots) := by
 refine MetFree.of_bodySF (plainFor_of_name pn_8) hisR ?_
 intro p e s m args below meth cD s₁ Bd hml0 hP hK
 obtain ⟨rfl, hZ, hh⟩ := hP
 have hml : cD.maxLocals = 2 := hml0
 obtain ⟨hx, hby, (hown : s.vm.findClass j2 = some m.cls), hlk, X0, e0⟩ := own_st Bd hh
 have lt0 := lN P0.lt
 have lt1 := lN P1.lt
 have Z0 := own_old_le O0
 have N0 := Fr.nil n0
 refine OwnEnd.start (g' := (mkF m 0 #[vR lst, vI i] [])) (own_efed m lst i) ?_
 refine oo (S' := s₁.setTop (mkF m 1 #[vR lst, vI i] [(.ref lst)])) (fun _ kK => XS.aloadN X0.here hx rfl (hb hby d39_0) rfl rfl kK) ?_
 obtain ⟨T1, X1, e1, st1⟩ := getF X0 hx hZ hown (host := "") (Or.inl (w_ G 78 rfl)) Via.refl e0 P0 (g := (mkF m 1 #[vR lst, vI i] [(.ref lst)])) rfl rfl (hb hby d39_1)
 refine oo (S' := T1.setTop (mkF m 4 #[vR lst, vI i] [(.ref ar)])) st1 ?_
 refine oo (S' := T1.setTop (mkF m 5 #[vR lst, vI i] [(.int i), (.ref ar)])) (fun _ kK => XS.iloadN X1.here hx rfl (hb hby d39_4) rfl kK) ?_
 obtain ⟨cl2, Ar2, q2, S2, N2', H2, G2⟩ := id P1
 have hin3 : ¬ (i < 0 ∨ cl2.slots.size ≤ (i).toNatClampNeg) := inb_of S2 ⟨P2, P3⟩
 refine oo (S' := T1.setTop (mkF m 6 #[vR lst, vI i] [(.ref y)])) (fun _ kK => X1.aaload hx (j := i) (v := (.ref y)) (by rw [e1]; exact Ar2.1) (State.isArrayOf_alike hZ.alike Ar2.2.1) rfl Ar2.2.2 hin3 (Has.at H2 hin3 (P4)) (g := (mkF m 5 #[vR lst, vI i] [(.int i), (.ref ar)])) rfl rfl (hb hby d39_5) _ kK) ?_
 refine OwnEnd.ret X1 (v := (some (.ref y))) (fun h => by rw [Bd.returns] at h; cases h) hlk (fun fs hr => retOut X1 hx Bd.returns rfl (Or.inr (Or.inr (Or.inr (Or.inr ⟨rfl, rfl, rfl⟩)))) (hb hby d39_6) hr) (by decide) (by decide) (Q := Qed Z lst ar kA vs i y h0 n0) e1 ?_
 exact ⟨rfl, N0, rfl⟩

theorem own_efge (m : MethodId) (lst : Addr) (i : Int32) : entryFrame m #[(.ref lst), (.int i)] 2 = mkF m 0 #[vR lst, vI i] [] := by first | (simp [entryFrame, mkF, argsToLocals, Value.category]; done) | rfl
def Qge (Z : State) (lst : Addr) (ar : Addr) (kA : ClassId) (vs : List Value) (i : Int32) (y : Addr) (n : Int32) (h0 : Heap) (n0 : Nat) (v : Option Value) (h : Heap) (L : List Loc) : Prop := v = some (.ref y) ∧ Fr n0 L ∧ h = h0
set_option maxRecDepth 65536 in
set_option maxHeartbeats 40000000 in
theorem rmge (l : Launch) (Z : State) (a0 : Array Value) (G : OwnG Z a0) (ws : List Jvm.Cond) (lst : Addr) (ar : Addr) (kA : ClassId) (vs : List Value) (i : Int32) (y : Addr) (n : Int32) (h0 : Heap) (n0 : Nat) (O0 : Old Z n0 h0) (P0 : Fld Z h0 lst j2 "elementData" "[Ljava/lang/Object;" (.ref ar)) (P1 : Arv Z h0 ar kA (.object j4) (10 : Int32) vs .null) (P2 : ¬ i < (0 : Int32)) (P3 : i < (10 : Int32)) (P4 : vs.getD i.toNatClampNeg .null = (.ref y)) (P5 : Exa Z h0 lst j2) (P6 : Fld Z h0 lst j2 "size" "I" (.int n)) (P7 : i < n) :
  MetFree l own_m40 (head1 (Jvm.Cond.code own_m40 B50 2 (some (.object j4)) :: ws) (rR 2 0 0 27)) (fun a U => a = #[(.ref lst), (.int i)] ∧ Z.Warmed39 U.vm ∧ U.heap = h0) (fun _ _ _ _ _ => True) (fun _ U o U' => ∃ v L, o = .returned v ∧ Qge Z lst ar kA vs i y n h0 n0 v U'.heap L ∧ FrameEnd U o U' L (rR 2 0 0 27).cells (rR 2 0 0 27).slots) := by
 refine MetFree.of_bodySF (plainFor_of_name pn_8) hisR ?_
 intro p e s m args below meth cD s₁ Bd hml0 hP hK
 obtain ⟨rfl, hZ, hh⟩ := hP
 have hml : cD.maxLocals = 2 := hml0
 obtain ⟨hx, hby, (hown : s.vm.findClass j2 = some m.cls), hlk, X0, e0⟩ := own_st Bd hh
 have lt0 := lN P0.lt
 have lt1 := lN P1.lt
 have lt5 := lN P5.lt
 have lt6 := lN P6.lt
 have Z0 := own_old_le O0
 have N0 := Fr.nil n0
 refine OwnEnd.start (g' := (mkF m 0 #[vR lst, vI i] [])) (own_efge m lst i) ?_
 refine oo (S' := s₁.setTop (mkF m 2 #[vR lst, vI i] [(.ref lst), (.int i)])) (fun _ kK => XS.iloadN X0.here hx rfl (hb hby d40_0) rfl (XS.aloadN X0.here hx rfl (hb hby d40_1) rfl rfl kK)) ?_
 obtain ⟨T1, X1, e1, st1⟩ := getF X0 hx hZ hown (host := "") (Or.inl (w_ G 216 rfl)) Via.refl e0 P6 (g := (mkF m 2 #[vR lst, vI i] [(.ref lst), (.int i)])) rfl rfl (hb hby d40_2)
 refine oo (S' := T1.setTop (mkF m 5 #[vR lst, vI i] [(.int n), (.int i)])) st1 ?_
 obtain ⟨_, _, ⟨T2, L2, k2, n2⟩, -, X2, ⟨Lc2, hQ2, l2, y2, z2⟩, st2⟩ := Jvm.LawKit.callS X1 hx (y := own_m38) hown (mvT hZ (w_ G 279 rfl)) (mvT hZ (w_ G 280 rfl)) (mvT hZ (w_ G 281 rfl)) (mvT hZ (w_ G 282 rfl)) (by decide) (backOf (W := 0) (rmoc l Z a0 G [] i n h0 n0 O0 P2 P7) hZ (w_ G 282 rfl) (w_ G 281 rfl) (by decide) (by decide)) (g := (mkF m 5 #[vR lst, vI i] [(.int n), (.int i)])) rfl (by rw [hml]; rfl) (argsL := [(.int i), (.int n)]) (rest := []) (lenOf pd_9 rfl) rfl (own_z rfl) (hb hby d40_5) (fun _ _ => ⟨rfl, e1, (ol rfl), (ol rfl)⟩)
 dsimp only [Pt.U, Pt.locs, Pt.cells, Pt.slots] at X2 l2 y2 z2 st2 hQ2
 subst l2 y2 z2
 obtain ⟨rfl, N2q, eh2⟩ := hQ2
 have N2 := Fr.app N0 N2q
 refine oo (S' := T2.setTop (mkF m 8 #[vR lst, vI i] [(.int i)])) st2 ?_
 refine oo (S' := T2.setTop (mkF m 11 #[vR lst, vI i] [(.int i), (.ref lst)])) (fun _ kK => XS.pop X2.here hx rfl (hb hby d40_8) rfl rfl (XS.aloadN X2.here hx rfl (hb hby d40_9) rfl rfl (XS.iloadN X2.here hx rfl (hb hby d40_10) rfl kK))) ?_
 obtain ⟨cq3, kq3, q3a, q3b, q3c⟩ := isOf hZ eh2 P5
 obtain ⟨_, _, ⟨T3, L3, k3, n3⟩, -, X3, ⟨Lc3, hQ3, l3, y3, z3⟩, st3⟩ := X2.virtualBack hx (y := own_m39) (z := own_m39) hown (mvT hZ (w_ G 284 rfl)) (mvT hZ (w_ G 285 rfl)) (notFace_of_selects (args := #[]) (mvT hZ (w_ G 287 rfl))) (mvT hZ (w_ G 287 rfl)) (mvT hZ (w_ G 286 rfl)) (by decide) (backOf (W := 0) (rmed l Z a0 G [] lst ar kA vs i y h0 n0 O0 P0 P1 P2 P3 P4) hZ (w_ G 288 rfl) (w_ G 58 rfl) (by decide) (by decide)) q3a q3c (g := (mkF m 11 #[vR lst, vI i] [(.int i), (.ref lst)])) rfl (by rw [hml]; rfl) (Steps.refl _) (argsL := [(.int i)]) (rest := []) (lenOf pd_20 rfl) rfl (own_z rfl) (hb hby d40_11) (fun _ _ => ⟨rfl, eh2, (ol rfl), (ol rfl)⟩)
 dsimp only [Pt.U, Pt.locs, Pt.cells, Pt.slots] at X3 l3 y3 z3 st3 hQ3
 subst l3 y3 z3
 obtain ⟨rfl, N3q, eh3⟩ := hQ3
 have N3 := Fr.app N2 N3q
 refine ot (S' := T3.setTop (mkF m 14 #[vR lst, vI i] [(.ref y)])) st3 ?_
 refine OwnEnd.ret X3 (v := (some (.ref y))) (fun h => by rw [Bd.returns] at h; cases h) hlk (fun fs hr => retOut X3 hx Bd.returns rfl (Or.inr (Or.inr (Or.inr (Or.inr ⟨rfl, rfl, rfl⟩)))) (hb hby d40_14) hr) (by decide) (by decide) (Q := Qge Z lst ar kA vs i y n h0 n0) eh3 ?_
 exact ⟨rfl, N3, rfl⟩

theorem own_eftan (m : MethodId) (x0 : Addr) (sb : Addr) : entryFrame m #[(.ref x0), (.ref sb)] 2 = mkF m 0 #[vR x0, vR sb] [] := by first | (simp [entryFrame, mkF, argsToLocals, Value.category]; done) | rfl
def Qtan (Z : State) (x0 : Addr) (sb : Addr) (h0 : Heap) (n0 : Nat) (v : Option Value) (h : Heap) (L : List Loc) : Prop := v = none ∧ Fr n0 L ∧ h = h0
set_option maxRecDepth 65536 in
set_option maxHeartbeats 40000000 in
theorem rmtan (l : Launch) (Z : State) (a0 : Array Value) (G : OwnG Z a0) (ws : List Jvm.Cond) (x0 : Addr) (sb : Addr) (h0 : Heap) (n0 : Nat) (O0 : Old Z n0 h0) (P0 : Exa Z h0 sb j5) (P1 : Fld Z h0 sb j0 "count" "I" (.int 0)) :
  MetFree l own_m41 (head1 (Jvm.Cond.code own_m41 B51 2 none :: ws) (rR 2 0 0 24)) (fun a U => a = #[(.ref x0), (.ref sb)] ∧ Z.Warmed39 U.vm ∧ U.heap = h0) (fun _ _ _ _ _ => True) (fun _ U o U' => ∃ v L, o = .returned v ∧ Qtan Z x0 sb h0 n0 v U'.heap L ∧ FrameEnd U o U' L (rR 2 0 0 24).cells (rR 2 0 0 24).slots) := by
 refine MetFree.of_bodySF (plainFor_of_name pn_10) hisR ?_
 intro p e s m args below meth cD s₁ Bd hml0 hP hK
 obtain ⟨rfl, hZ, hh⟩ := hP
 have hml : cD.maxLocals = 2 := hml0
 obtain ⟨hx, hby, (hown : s.vm.findClass j3 = some m.cls), hlk, X0, e0⟩ := own_st Bd hh
 have lt0 := lN P0.lt
 have lt1 := lN P1.lt
 have Z0 := own_old_le O0
 have N0 := Fr.nil n0
 refine OwnEnd.start (g' := (mkF m 0 #[vR x0, vR sb] [])) (own_eftan m x0 sb) ?_
 refine oo (S' := s₁.setTop (mkF m 1 #[vR x0, vR sb] [(.ref sb)])) (fun _ kK => XS.aloadN X0.here hx rfl (hb hby d41_0) rfl rfl kK) ?_
 obtain ⟨cq1, kq1, q1a, q1b, q1c⟩ := isOf hZ e0 P0
 obtain ⟨_, _, ⟨T1, L1, k1, n1⟩, -, X1, ⟨Lc1, hQ1, l1, y1, z1⟩, st1⟩ := X0.virtualBack hx (y := own_m15) (z := own_m15) hown (mvT hZ (w_ G 158 rfl)) (mvT hZ (w_ G 159 rfl)) (notFace_of_selects (args := #[]) (mvT hZ (w_ G 161 rfl))) (mvT hZ (w_ G 161 rfl)) (mvT hZ (w_ G 160 rfl)) (by decide) (backOf (W := 0) (rmsln l Z a0 G [] sb (0 : Int32) h0 n0 O0 P0 P1) hZ (w_ G 162 rfl) (w_ G 84 rfl) (by decide) (by decide)) q1a q1c (g := (mkF m 1 #[vR x0, vR sb] [(.ref sb)])) rfl (by rw [hml]; rfl) (Steps.refl _) (argsL := []) (rest := []) (lenOf pd_8 rfl) rfl (own_z rfl) (hb hby d41_1) (fun _ _ => ⟨rfl, e0, (ol rfl), (ol rfl)⟩)
 dsimp only [Pt.U, Pt.locs, Pt.cells, Pt.slots] at X1 l1 y1 z1 st1 hQ1
 subst l1 y1 z1
 obtain ⟨rfl, N1q, eh1⟩ := hQ1
 have N1 := Fr.app N0 N1q
 refine ot (S' := T1.setTop (mkF m 4 #[vR x0, vR sb] [(.int 0)])) st1 ?_
 refine oo (S' := T1.setTop (mkF m 26 #[vR x0, vR sb] [])) (fun _ kK => XS.ifYes X1.here hx rfl (pc0 := 4) (pc' := 26) rfl (hb hby d41_4) rfl ((if0 _ _).trans (flt ((by decide : ¬ ((0 : Int32) < (0 : Int32))))).2.2.2) (by decide) (by decide) kK) ?_
 refine OwnEnd.ret X1 (v := none) (fun _ => rfl) hlk (fun fs hr => X1.returnOut hx Bd.returns (hb hby d41_26) hr) (by decide) (by decide) (Q := Qtan Z x0 sb h0 n0) eh1 ?_
 exact ⟨rfl, N1, rfl⟩

theorem own_efta0 (m : MethodId) (x0 : Addr) (sb : Addr) : entryFrame m #[(.ref x0), (.ref sb)] 2 = mkF m 0 #[vR x0, vR sb] [] := by first | (simp [entryFrame, mkF, argsToLocals, Value.category]; done) | rfl
def Qta0 (Z : State) (x0 : Addr) (lst : Addr) (mc : Int32) (sb : Addr) (vb : Addr) (kv : ClassId) (g : Value) (ml : Value) (aD : Addr) (kD : ClassId) (h0 : Heap) (n0 : Nat) (v : Option Value) (h : Heap) (L : List Loc) : Prop := ∃ (y : Addr) (t : Addr) (kb : ClassId) (ar : Addr) (kA : ClassId), v = none ∧ Fr n0 L ∧ Keep h0 h [lst, sb] ∧ (Exa Z h y j1) ∧ (Fld Z h y j1 "value" "[B" (.ref t)) ∧ (Fld Z h y j1 "coder" "B" (.int 0)) ∧ (Arv Z h t kb .byte (1 : Int32) [g] (.int 0)) ∧ (Array.size h0 ≤ t) ∧ (Array.size h0 ≤ y) ∧ (Exa Z h lst j2) ∧ (Fld Z h lst j6 "modCount" "I" (.int (mc + (1 : Int32)))) ∧ (Fld Z h lst j2 "elementData" "[Ljava/lang/Object;" (.ref ar)) ∧ (Fld Z h lst j2 "size" "I" (.int 1)) ∧ (Arv Z h ar kA (.object j4) (10 : Int32) [(.ref y), .null, .null, .null, .null, .null, .null, .null, .null, .null] .null) ∧ (Ovr Z kA j4) ∧ (Array.size h0 ≤ ar) ∧ (@LT.lt Nat instLTNat y ar) ∧ (@LT.lt Nat instLTNat t ar) ∧ (Exa Z h sb j5) ∧ (Fld Z h sb j0 "value" "[B" (.ref vb)) ∧ (Fld Z h sb j0 "coder" "B" (.int 0)) ∧ (Fld Z h sb j0 "count" "I" (.int 0)) ∧ (Fld Z h sb j0 "maybeLatin1" "Z" (.int 1)) ∧ (Arv Z h vb kv .byte (16 : Int32) [g, (.int 0), (.int 0), (.int 0), (.int 0), (.int 0), (.int 0), (.int 0), (.int 0), (.int 0), (.int 0), (.int 0), (.int 0), (.int 0), (.int 0), (.int 0)] (.int 0))
set_option maxRecDepth 65536 in
set_option maxHeartbeats 40000000 in
theorem rmta0 (l : Launch) (Z : State) (a0 : Array Value) (G : OwnG Z a0) (ws : List Jvm.Cond) (x0 : Addr) (lst : Addr) (mc : Int32) (sb : Addr) (vb : Addr) (kv : ClassId) (g : Value) (ml : Value) (aD : Addr) (kD : ClassId) (h0 : Heap) (n0 : Nat) (O0 : Old Z n0 h0) (P0 : Fld Z h0 x0 j3 "tokens" "Ljava/util/List;" (.ref lst)) (P1 : Exa Z h0 sb j5) (P2 : Fld Z h0 sb j0 "value" "[B" (.ref vb)) (P3 : Fld Z h0 sb j0 "coder" "B" (.int 0)) (P4 : Fld Z h0 sb j0 "count" "I" (.int 1)) (P5 : Fld Z h0 sb j0 "maybeLatin1" "Z" ml) (P6 : Arv Z h0 vb kv .byte (16 : Int32) [g, (.int 0), (.int 0), (.int 0), (.int 0), (.int 0), (.int 0), (.int 0), (.int 0), (.int 0), (.int 0), (.int 0), (.int 0), (.int 0), (.int 0), (.int 0)] (.int 0)) (P7 : Exa Z h0 lst j2) (P8 : Fld Z h0 lst j6 "modCount" "I" (.int mc)) (P9 : Fld Z h0 lst j2 "elementData" "[Ljava/lang/Object;" (.ref aD)) (P10 : Fld Z h0 lst j2 "size" "I" (.int 0)) (P11 : n0 ≤ lst) (P12 : n0 ≤ sb) (P13 : n0 ≤ vb) (P14 : Sta Z Z.heap j2 "DEFAULTCAPACITY_EMPTY_ELEMENTDATA" "[Ljava/lang/Object;" (.ref aD)) (P15 : Arv Z Z.heap aD kD (.object j4) (0 : Int32) [] .null) (P16 : lst ≠ sb) (P17 : lst ≠ vb) (P18 : sb ≠ vb) :
  MetFree l own_m41 (head1 (Jvm.Cond.code own_m41 B51 2 none :: ws) (rR 6 3 15 92)) (fun a U => a = #[(.ref x0), (.ref sb)] ∧ Z.Warmed39 U.vm ∧ U.heap = h0) (fun _ _ _ _ _ => True) (fun _ U o U' => ∃ v L, o = .returned v ∧ Qta0 Z x0 lst mc sb vb kv g ml aD kD h0 n0 v U'.heap L ∧ FrameEnd U o U' L (rR 6 3 15 92).cells (rR 6 3 15 92).slots) := by
 refine MetFree.of_bodySF (plainFor_of_name pn_10) hisR ?_
 intro p e s m args below meth cD s₁ Bd hml0 hP hK
 obtain ⟨rfl, hZ, hh⟩ := hP
 have hml : cD.maxLocals = 2 := hml0
 obtain ⟨hx, hby, (hown : s.vm.findClass j3 = some m.cls), hlk, X0, e0⟩ := own_st Bd hh
 have lt0 := lN P0.lt
 have lt1 := lN P1.lt
 have lt2 := lN P2.lt
 have lt3 := lN P3.lt
 have lt4 := lN P4.lt
 have lt5 := lN P5.lt
 have lt6 := lN P6.lt
 have lt7 := lN P7.lt
 have lt8 := lN P8.lt
 have lt9 := lN P9.lt
 have lt10 := lN P10.lt
 have nP16 := own_neN P16
 have nP17 := own_neN P17
 have nP18 := own_neN P18
 have K0 : Keep h0 h0 [lst, sb] := Keep.refl h0 _
 have Z0 := own_old_le O0
 have N0 := Fr.nil n0
 have ltD : @LT.lt Nat instLTNat aD n0 := lN (O0.1 ▸ P15.lt)
 refine OwnEnd.start (g' := (mkF m 0 #[vR x0, vR sb] [])) (own_efta0 m x0 sb) ?_
 refine oo (S' := s₁.setTop (mkF m 1 #[vR x0, vR sb] [(.ref sb)])) (fun _ kK => XS.aloadN X0.here hx rfl (hb hby d41_0) rfl rfl kK) ?_
 obtain ⟨cq1, kq1, q1a, q1b, q1c⟩ := isOf hZ e0 P1
 obtain ⟨_, _, ⟨T1, L1, k1, n1⟩, -, X1, ⟨Lc1, hQ1, l1, y1, z1⟩, st1⟩ := X0.virtualBack hx (y := own_m15) (z := own_m15) hown (mvT hZ (w_ G 158 rfl)) (mvT hZ (w_ G 159 rfl)) (notFace_of_selects (args := #[]) (mvT hZ (w_ G 161 rfl))) (mvT hZ (w_ G 161 rfl)) (mvT hZ (w_ G 160 rfl)) (by decide) (backOf (W := 0) (rmsln l Z a0 G [] sb (1 : Int32) h0 n0 O0 P1 P4) hZ (w_ G 162 rfl) (w_ G 84 rfl) (by decide) (by decide)) q1a q1c (g := (mkF m 1 #[vR x0, vR sb] [(.ref sb)])) rfl (by rw [hml]; rfl) (Steps.refl _) (argsL := []) (rest := []) (lenOf pd_8 rfl) rfl (own_z rfl) (hb hby d41_1) (fun _ _ => ⟨rfl, e0, (ol rfl), (ol rfl)⟩)
 dsimp only [Pt.U, Pt.locs, Pt.cells, Pt.slots] at X1 l1 y1 z1 st1 hQ1
 subst l1 y1 z1
 obtain ⟨rfl, N1q, eh1⟩ := hQ1
 have N1 := Fr.app N0 N1q
 refine ot (S' := T1.setTop (mkF m 4 #[vR x0, vR sb] [(.int 1)])) st1 ?_
 refine oo (S' := T1.setTop (mkF m 8 #[vR x0, vR sb] [(.ref x0)])) (fun _ kK => XS.ifNo X1.here hx rfl (hb hby d41_4) rfl ((if0 _ _).trans (tlt ((by decide : (0 : Int32) < (1 : Int32)))).2.2.2) (XS.aloadN X1.here hx rfl (hb hby d41_7) rfl rfl kK)) ?_
 obtain ⟨T2, X2, e2, st2⟩ := getF X1 hx hZ hown (host := "") (Or.inl (w_ G 80 rfl)) Via.refl eh1 P0 (g := (mkF m 8 #[vR x0, vR sb] [(.ref x0)])) rfl rfl (hb hby d41_8)
 refine oo (S' := T2.setTop (mkF m 11 #[vR x0, vR sb] [(.ref lst)])) st2 ?_
 refine oo (S' := T2.setTop (mkF m 12 #[vR x0, vR sb] [(.ref sb), (.ref lst)])) (fun _ kK => XS.aloadN X2.here hx rfl (hb hby d41_11) rfl rfl kK) ?_
 obtain ⟨cq3, kq3, q3a, q3b, q3c⟩ := isOf hZ e2 P1
 obtain ⟨_, _, ⟨T3, L3, k3, n3⟩, -, X3, ⟨Lc3, hQ3, l3, y3, z3⟩, st3⟩ := X2.virtualBack hx (y := own_m23) (z := own_m23) hown (mvT hZ (w_ G 167 rfl)) (mvT hZ (w_ G 168 rfl)) (notFace_of_selects (args := #[]) (mvT hZ (w_ G 170 rfl))) (mvT hZ (w_ G 170 rfl)) (mvT hZ (w_ G 169 rfl)) (by decide) (backOf (W := 1) (rmtos l Z a0 G [] sb vb kv g ml h0 n0 O0 P1 P2 P3 P4 P5 P6) hZ (w_ G 171 rfl) (w_ G 84 rfl) (by decide) (by decide)) q3a q3c (g := (mkF m 12 #[vR x0, vR sb] [(.ref sb), (.ref lst)])) rfl (by rw [hml]; rfl) (Steps.refl _) (argsL := []) (rest := [(.ref lst)]) (lenOf pd_21 rfl) rfl (own_z rfl) (hb hby d41_12) (fun _ _ => ⟨rfl, e2, (ol rfl), (ol rfl)⟩)
 dsimp only [Pt.U, Pt.locs, Pt.cells, Pt.slots] at X3 l3 y3 z3 st3 hQ3
 subst l3 y3 z3
 obtain ⟨x_3, t_3, kb_3, rfl, N3q, Kq3, r3_0, r3_1, r3_2, r3_3, r3_4, r3_5⟩ := hQ3
 have N3 := Fr.app N1 N3q
 have sz4 := Kq3.1
 have K4 := K0.trans Kq3 (own_all0 )
 have O4 := O0.keep Kq3 (own_all0 )
 have ltr3_0 := lN r3_0.lt
 have ltr3_1 := lN r3_1.lt
 have ltr3_2 := lN r3_2.lt
 have ltr3_3 := lN r3_3.lt
 refine ot (S' := T3.setTop (mkF m 15 #[vR x0, vR sb] [(.ref x_3), (.ref lst)])) st3 ?_
 have f5 := (P7.keep Kq3)
 have f6 := (P8.keep Kq3 nin0)
 have f7 := (P9.keep Kq3 nin0)
 have f8 := (P10.keep Kq3 nin0)
 obtain ⟨cq9, kq9, q9a, q9b, q9c⟩ := isOf hZ rfl f5
 obtain ⟨_, _, ⟨T9, L9, k9, n9⟩, -, X9, ⟨Lc9, hQ9, l9, y9, z9⟩, st9⟩ := X3.interfaceBack hx (xi := own_m42) (y := own_m36) hown (mvT hZ (w_ G 205 rfl)) (mvT hZ (w_ G 206 rfl)) (mvT hZ (w_ G 207 rfl)) (mvT hZ (w_ G 208 rfl)) (mvT hZ (w_ G 209 rfl)) (mvT hZ (w_ G 210 rfl)) (mvT hZ (w_ G 211 rfl)) (mvT hZ (w_ G 212 rfl)) (by decide) (backOf (W := 0) (rmal0 l Z a0 G [] lst mc x_3 aD kD T3.heap n0 O4 f5 f6 f7 f8 r3_0 (by omega) P14 P15) hZ (w_ G 213 rfl) (w_ G 58 rfl) (by decide) (by decide)) q9a q9b q9c (g := (mkF m 15 #[vR x0, vR sb] [(.ref x_3), (.ref lst)])) rfl (by rw [hml]; rfl) (Steps.refl _) (argsL := [(.ref x_3)]) (rest := []) (lenOf pd_22 rfl) rfl (own_z rfl) (hb hby d41_15) (fun _ _ => ⟨rfl, rfl, (ol rfl), (ol rfl)⟩)
 dsimp only [Pt.U, Pt.locs, Pt.cells, Pt.slots] at X9 l9 y9 z9 st9 hQ9
 subst l9 y9 z9
 obtain ⟨ar_9, kA_9, rfl, N9q, Kq9, r9_0, r9_1, r9_2, r9_3, r9_4, r9_5, r9_6⟩ := hQ9
 have N9 := Fr.app N3 N9q
 have sz10 := Kq9.1
 have K10 := K4.trans Kq9 (own_all1 (Or.inl (by simp)))
 have O10 := O4.keep Kq9 (own_all1 (by omega))
 have ltr9_0 := lN r9_0.lt
 have ltr9_1 := lN r9_1.lt
 have ltr9_2 := lN r9_2.lt
 have ltr9_3 := lN r9_3.lt
 have ltr9_4 := lN r9_4.lt
 refine ot (S' := T9.setTop (mkF m 20 #[vR x0, vR sb] [(.int 1)])) st9 ?_
 refine oo (S' := T9.setTop (mkF m 23 #[vR x0, vR sb] [(.int 0), (.ref sb)])) (fun _ kK => XS.pop X9.here hx rfl (hb hby d41_20) rfl rfl (XS.aloadN X9.here hx rfl (hb hby d41_21) rfl rfl (XS.iconst X9.here hx rfl (hb hby d41_22) kK))) ?_
 have f11 := ((P1.keep Kq3).keep Kq9)
 have f12 := ((P2.keep Kq3 nin0).keep Kq9 (own_nin1 (on (by omega))))
 have f13 := ((P3.keep Kq3 nin0).keep Kq9 (own_nin1 (on (by omega))))
 have f14 := ((P4.keep Kq3 nin0).keep Kq9 (own_nin1 (on (by omega))))
 have f15 := ((P5.keep Kq3 nin0).keep Kq9 (own_nin1 (on (by omega))))
 have f16 := ((P6.keep Kq3 nin0).keep Kq9 (own_nin1 (on (by omega))))
 obtain ⟨cq17, kq17, q17a, q17b, q17c⟩ := isOf hZ rfl f11
 obtain ⟨_, _, ⟨T17, L17, k17, n17⟩, -, X17, ⟨Lc17, hQ17, l17, y17, z17⟩, st17⟩ := X9.virtualBack hx (y := own_m25) (z := own_m25) hown (mvT hZ (w_ G 239 rfl)) (mvT hZ (w_ G 240 rfl)) (notFace_of_selects (args := #[]) (mvT hZ (w_ G 242 rfl))) (mvT hZ (w_ G 242 rfl)) (mvT hZ (w_ G 241 rfl)) (by decide) (backOf (W := 0) (rmssn l Z a0 G [] sb vb kv g ml T9.heap n0 O10 f11 f12 f13 f14 f15 f16 (by omega) (by omega) (on (by omega))) hZ (w_ G 243 rfl) (w_ G 84 rfl) (by decide) (by decide)) q17a q17c (g := (mkF m 23 #[vR x0, vR sb] [(.int 0), (.ref sb)])) rfl (by rw [hml]; rfl) (Steps.refl _) (argsL := [(.int 0)]) (rest := []) (lenOf pd_5 rfl) rfl (own_z rfl) (hb hby d41_23) (fun _ _ => ⟨rfl, rfl, (ol rfl), (ol rfl)⟩)
 dsimp only [Pt.U, Pt.locs, Pt.cells, Pt.slots] at X17 l17 y17 z17 st17 hQ17
 subst l17 y17 z17
 obtain ⟨rfl, N17q, Kq17, r17_0, r17_1, r17_2, r17_3, r17_4, r17_5⟩ := hQ17
 have N17 := Fr.app N9 N17q
 have sz18 := Kq17.1
 have K18 := K10.trans Kq17 (own_all1 (Or.inl (by simp)))
 have ltr17_0 := lN r17_0.lt
 have ltr17_1 := lN r17_1.lt
 have ltr17_2 := lN r17_2.lt
 have ltr17_3 := lN r17_3.lt
 have ltr17_4 := lN r17_4.lt
 have ltr17_5 := lN r17_5.lt
 refine ot (S' := T17.setTop (mkF m 26 #[vR x0, vR sb] [])) st17 ?_
 have f19 := ((r3_0.keep Kq9).keep Kq17)
 have f20 := ((r3_1.keep Kq9 (own_nin1 (on (by omega)))).keep Kq17 (own_nin1 (on (by omega))))
 have f21 := ((r3_2.keep Kq9 (own_nin1 (on (by omega)))).keep Kq17 (own_nin1 (on (by omega))))
 have f22 := ((r3_3.keep Kq9 (own_nin1 (on (by omega)))).keep Kq17 (own_nin1 (on (by omega))))
 have f23 := (r9_0.keep Kq17)
 have f24 := (r9_1.keep Kq17 (own_nin1 (on (by omega))))
 have f25 := (r9_2.keep Kq17 (own_nin1 (on (by omega))))
 have f26 := (r9_3.keep Kq17 (own_nin1 (on (by omega))))
 have f27 := (r9_4.keep Kq17 (own_nin1 (on (by omega))))
 refine OwnEnd.ret X17 (v := none) (fun _ => rfl) hlk (fun fs hr => X17.returnOut hx Bd.returns (hb hby d41_26) hr) (by decide) (by decide) (Q := Qta0 Z x0 lst mc sb vb kv g ml aD kD h0 n0) rfl ?_
 exact ⟨x_3, t_3, kb_3, ar_9, kA_9, rfl, N17, K18, f19, f20, f21, f22, (by omega), (by omega), f23, f24, f25, f26, f27, (r9_5), (by omega), (by omega), (by omega), r17_0, r17_1, r17_2, r17_3, r17_4, r17_5⟩

theorem own_efta1 (m : MethodId) (x0 : Addr) (sb : Addr) : entryFrame m #[(.ref x0), (.ref sb)] 2 = mkF m 0 #[vR x0, vR sb] [] := by first | (simp [entryFrame, mkF, argsToLocals, Value.category]; done) | rfl
def Qta1 (Z : State) (x0 : Addr) (lst : Addr) (mc : Int32) (sb : Addr) (vb : Addr) (kv : ClassId) (g : Value) (ml : Value) (ar : Addr) (kA : ClassId) (ea0 : Addr) (h0 : Heap) (n0 : Nat) (v : Option Value) (h : Heap) (L : List Loc) : Prop := ∃ (y : Addr) (t : Addr) (kb : ClassId), v = none ∧ Fr n0 L ∧ Keep h0 h [lst, sb, ar] ∧ (Exa Z h y j1) ∧ (Fld Z h y j1 "value" "[B" (.ref t)) ∧ (Fld Z h y j1 "coder" "B" (.int 0)) ∧ (Arv Z h t kb .byte (1 : Int32) [g] (.int 0)) ∧ (Array.size h0 ≤ t) ∧ (Array.size h0 ≤ y) ∧ (Exa Z h lst j2) ∧ (Fld Z h lst j6 "modCount" "I" (.int (mc + (1 : Int32)))) ∧ (Fld Z h lst j2 "elementData" "[Ljava/lang/Object;" (.ref ar)) ∧ (Fld Z h lst j2 "size" "I" (.int 2)) ∧ (Arv Z h ar kA (.object j4) (10 : Int32) [(.ref ea0), (.ref y), .null, .null, .null, .null, .null, .null, .null, .null] .null) ∧ (Exa Z h sb j5) ∧ (Fld Z h sb j0 "value" "[B" (.ref vb)) ∧ (Fld Z h sb j0 "coder" "B" (.int 0)) ∧ (Fld Z h sb j0 "count" "I" (.int 0)) ∧ (Fld Z h sb j0 "maybeLatin1" "Z" (.int 1)) ∧ (Arv Z h vb kv .byte (16 : Int32) [g, (.int 0), (.int 0), (.int 0), (.int 0), (.int 0), (.int 0), (.int 0), (.int 0), (.int 0), (.int 0), (.int 0), (.int 0), (.int 0), (.int 0), (.int 0)] (.int 0))
set_option maxRecDepth 65536 in
set_option maxHeartbeats 40000000 in
theorem rmta1 (l : Launch) (Z : State) (a0 : Array Value) (G : OwnG Z a0) (ws : List Jvm.Cond) (x0 : Addr) (lst : Addr) (mc : Int32) (sb : Addr) (vb : Addr) (kv : ClassId) (g : Value) (ml : Value) (ar : Addr) (kA : ClassId) (ea0 : Addr) (h0 : Heap) (n0 : Nat) (O0 : Old Z n0 h0) (P0 : Fld Z h0 x0 j3 "tokens" "Ljava/util/List;" (.ref lst)) (P1 : Exa Z h0 sb j5) (P2 : Fld Z h0 sb j0 "value" "[B" (.ref vb)) (P3 : Fld Z h0 sb j0 "coder" "B" (.int 0)) (P4 : Fld Z h0 sb j0 "count" "I" (.int 1)) (P5 : Fld Z h0 sb j0 "maybeLatin1" "Z" ml) (P6 : Arv Z h0 vb kv .byte (16 : Int32) [g, (.int 0), (.int 0), (.int 0), (.int 0), (.int 0), (.int 0), (.int 0), (.int 0), (.int 0), (.int 0), (.int 0), (.int 0), (.int 0), (.int 0), (.int 0)] (.int 0)) (P7 : Exa Z h0 lst j2) (P8 : Fld Z h0 lst j6 "modCount" "I" (.int mc)) (P9 : Fld Z h0 lst j2 "elementData" "[Ljava/lang/Object;" (.ref ar)) (P10 : Fld Z h0 lst j2 "size" "I" (.int 1)) (P11 : n0 ≤ lst) (P12 : n0 ≤ sb) (P13 : n0 ≤ vb) (P14 : n0 ≤ ar) (P15 : Arv Z h0 ar kA (.object j4) (10 : Int32) [(.ref ea0), .null, .null, .null, .null, .null, .null, .null, .null, .null] .null) (P16 : Ovr Z kA j4) (P17 : lst ≠ sb) (P18 : lst ≠ vb) (P19 : lst ≠ ar) (P20 : sb ≠ vb) (P21 : sb ≠ ar) (P22 : vb ≠ ar) :
  MetFree l own_m41 (head1 (Jvm.Cond.code own_m41 B51 2 none :: ws) (rR 6 2 5 92)) (fun a U => a = #[(.ref x0), (.ref sb)] ∧ Z.Warmed39 U.vm ∧ U.heap = h0) (fun _ _ _ _ _ => True) (fun _ U o U' => ∃ v L, o = .returned v ∧ Qta1 Z x0 lst mc sb vb kv g ml ar kA ea0 h0 n0 v U'.heap L ∧ FrameEnd U o U' L (rR 6 2 5 92).cells (rR 6 2 5 92).slots) := by
 refine MetFree.of_bodySF (plainFor_of_name pn_10) hisR ?_
 intro p e s m args below meth cD s₁ Bd hml0 hP hK
 obtain ⟨rfl, hZ, hh⟩ := hP
 have hml : cD.maxLocals = 2 := hml0
 obtain ⟨hx, hby, (hown : s.vm.findClass j3 = some m.cls), hlk, X0, e0⟩ := own_st Bd hh
 have lt0 := lN P0.lt
 have lt1 := lN P1.lt
 have lt2 := lN P2.lt
 have lt3 := lN P3.lt
 have lt4 := lN P4.lt
 have lt5 := lN P5.lt
 have lt6 := lN P6.lt
 have lt7 := lN P7.lt
 have lt8 := lN P8.lt
 have lt9 := lN P9.lt
 have lt10 := lN P10.lt
 have lt15 := lN P15.lt
 have nP17 := own_neN P17
 have nP18 := own_neN P18
 have nP19 := own_neN P19
 have nP20 := own_neN P20
 have nP21 := own_neN P21
 have nP22 := own_neN P22
 have K0 : Keep h0 h0 [lst, sb, ar] := Keep.refl h0 _
 have Z0 := own_old_le O0
 have N0 := Fr.nil n0
 refine OwnEnd.start (g' := (mkF m 0 #[vR x0, vR sb] [])) (own_efta1 m x0 sb) ?_
 refine oo (S' := s₁.setTop (mkF m 1 #[vR x0, vR sb] [(.ref sb)])) (fun _ kK => XS.aloadN X0.here hx rfl (hb hby d41_0) rfl rfl kK) ?_
 obtain ⟨cq1, kq1, q1a, q1b, q1c⟩ := isOf hZ e0 P1
 obtain ⟨_, _, ⟨T1, L1, k1, n1⟩, -, X1, ⟨Lc1, hQ1, l1, y1, z1⟩, st1⟩ := X0.virtualBack hx (y := own_m15) (z := own_m15) hown (mvT hZ (w_ G 158 rfl)) (mvT hZ (w_ G 159 rfl)) (notFace_of_selects (args := #[]) (mvT hZ (w_ G 161 rfl))) (mvT hZ (w_ G 161 rfl)) (mvT hZ (w_ G 160 rfl)) (by decide) (backOf (W := 0) (rmsln l Z a0 G [] sb (1 : Int32) h0 n0 O0 P1 P4) hZ (w_ G 162 rfl) (w_ G 84 rfl) (by decide) (by decide)) q1a q1c (g := (mkF m 1 #[vR x0, vR sb] [(.ref sb)])) rfl (by rw [hml]; rfl) (Steps.refl _) (argsL := []) (rest := []) (lenOf pd_8 rfl) rfl (own_z rfl) (hb hby d41_1) (fun _ _ => ⟨rfl, e0, (ol rfl), (ol rfl)⟩)
 dsimp only [Pt.U, Pt.locs, Pt.cells, Pt.slots] at X1 l1 y1 z1 st1 hQ1
 subst l1 y1 z1
 obtain ⟨rfl, N1q, eh1⟩ := hQ1
 have N1 := Fr.app N0 N1q
 refine ot (S' := T1.setTop (mkF m 4 #[vR x0, vR sb] [(.int 1)])) st1 ?_
 refine oo (S' := T1.setTop (mkF m 8 #[vR x0, vR sb] [(.ref x0)])) (fun _ kK => XS.ifNo X1.here hx rfl (hb hby d41_4) rfl ((if0 _ _).trans (tlt ((by decide : (0 : Int32) < (1 : Int32)))).2.2.2) (XS.aloadN X1.here hx rfl (hb hby d41_7) rfl rfl kK)) ?_
 obtain ⟨T2, X2, e2, st2⟩ := getF X1 hx hZ hown (host := "") (Or.inl (w_ G 80 rfl)) Via.refl eh1 P0 (g := (mkF m 8 #[vR x0, vR sb] [(.ref x0)])) rfl rfl (hb hby d41_8)
 refine oo (S' := T2.setTop (mkF m 11 #[vR x0, vR sb] [(.ref lst)])) st2 ?_
 refine oo (S' := T2.setTop (mkF m 12 #[vR x0, vR sb] [(.ref sb), (.ref lst)])) (fun _ kK => XS.aloadN X2.here hx rfl (hb hby d41_11) rfl rfl kK) ?_
 obtain ⟨cq3, kq3, q3a, q3b, q3c⟩ := isOf hZ e2 P1
 obtain ⟨_, _, ⟨T3, L3, k3, n3⟩, -, X3, ⟨Lc3, hQ3, l3, y3, z3⟩, st3⟩ := X2.virtualBack hx (y := own_m23) (z := own_m23) hown (mvT hZ (w_ G 167 rfl)) (mvT hZ (w_ G 168 rfl)) (notFace_of_selects (args := #[]) (mvT hZ (w_ G 170 rfl))) (mvT hZ (w_ G 170 rfl)) (mvT hZ (w_ G 169 rfl)) (by decide) (backOf (W := 1) (rmtos l Z a0 G [] sb vb kv g ml h0 n0 O0 P1 P2 P3 P4 P5 P6) hZ (w_ G 171 rfl) (w_ G 84 rfl) (by decide) (by decide)) q3a q3c (g := (mkF m 12 #[vR x0, vR sb] [(.ref sb), (.ref lst)])) rfl (by rw [hml]; rfl) (Steps.refl _) (argsL := []) (rest := [(.ref lst)]) (lenOf pd_21 rfl) rfl (own_z rfl) (hb hby d41_12) (fun _ _ => ⟨rfl, e2, (ol rfl), (ol rfl)⟩)
 dsimp only [Pt.U, Pt.locs, Pt.cells, Pt.slots] at X3 l3 y3 z3 st3 hQ3
 subst l3 y3 z3
 obtain ⟨x_3, t_3, kb_3, rfl, N3q, Kq3, r3_0, r3_1, r3_2, r3_3, r3_4, r3_5⟩ := hQ3
 have N3 := Fr.app N1 N3q
 have sz4 := Kq3.1
 have K4 := K0.trans Kq3 (own_all0 )
 have O4 := O0.keep Kq3 (own_all0 )
 have ltr3_0 := lN r3_0.lt
 have ltr3_1 := lN r3_1.lt
 have ltr3_2 := lN r3_2.lt
 have ltr3_3 := lN r3_3.lt
 refine ot (S' := T3.setTop (mkF m 15 #[vR x0, vR sb] [(.ref x_3), (.ref lst)])) st3 ?_
 have f5 := (P7.keep Kq3)
 have f6 := (P8.keep Kq3 nin0)
 have f7 := (P9.keep Kq3 nin0)
 have f8 := (P10.keep Kq3 nin0)
 have f9 := (P15.keep Kq3 nin0)
 obtain ⟨cq10, kq10, q10a, q10b, q10c⟩ := isOf hZ rfl f5
 obtain ⟨_, _, ⟨T10, L10, k10, n10⟩, -, X10, ⟨Lc10, hQ10, l10, y10, z10⟩, st10⟩ := X3.interfaceBack hx (xi := own_m42) (y := own_m36) hown (mvT hZ (w_ G 205 rfl)) (mvT hZ (w_ G 206 rfl)) (mvT hZ (w_ G 207 rfl)) (mvT hZ (w_ G 208 rfl)) (mvT hZ (w_ G 209 rfl)) (mvT hZ (w_ G 210 rfl)) (mvT hZ (w_ G 211 rfl)) (mvT hZ (w_ G 212 rfl)) (by decide) (backOf (W := 0) (rmal1 l Z a0 G [] lst mc x_3 ar kA ea0 T3.heap n0 O4 f5 f6 f7 f8 r3_0 (by omega) (by omega) (on (by omega)) f9 P16) hZ (w_ G 213 rfl) (w_ G 58 rfl) (by decide) (by decide)) q10a q10b q10c (g := (mkF m 15 #[vR x0, vR sb] [(.ref x_3), (.ref lst)])) rfl (by rw [hml]; rfl) (Steps.refl _) (argsL := [(.ref x_3)]) (rest := []) (lenOf pd_22 rfl) rfl (own_z rfl) (hb hby d41_15) (fun _ _ => ⟨rfl, rfl, (ol rfl), (ol rfl)⟩)
 dsimp only [Pt.U, Pt.locs, Pt.cells, Pt.slots] at X10 l10 y10 z10 st10 hQ10
 subst l10 y10 z10
 obtain ⟨rfl, N10q, Kq10, r10_0, r10_1, r10_2, r10_3, r10_4⟩ := hQ10
 have N10 := Fr.app N3 N10q
 have sz11 := Kq10.1
 have K11 := K4.trans Kq10 (own_all2 (Or.inl (by simp)) (Or.inl (by simp)))
 have O11 := O4.keep Kq10 (own_all2 (by omega) (by omega))
 have ltr10_0 := lN r10_0.lt
 have ltr10_1 := lN r10_1.lt
 have ltr10_2 := lN r10_2.lt
 have ltr10_3 := lN r10_3.lt
 have ltr10_4 := lN r10_4.lt
 refine ot (S' := T10.setTop (mkF m 20 #[vR x0, vR sb] [(.int 1)])) st10 ?_
 refine oo (S' := T10.setTop (mkF m 23 #[vR x0, vR sb] [(.int 0), (.ref sb)])) (fun _ kK => XS.pop X10.here hx rfl (hb hby d41_20) rfl rfl (XS.aloadN X10.here hx rfl (hb hby d41_21) rfl rfl (XS.iconst X10.here hx rfl (hb hby d41_22) kK))) ?_
 have f12 := ((P1.keep Kq3).keep Kq10)
 have f13 := ((P2.keep Kq3 nin0).keep Kq10 (own_nin2 (on (by omega)) (on (by omega))))
 have f14 := ((P3.keep Kq3 nin0).keep Kq10 (own_nin2 (on (by omega)) (on (by omega))))
 have f15 := ((P4.keep Kq3 nin0).keep Kq10 (own_nin2 (on (by omega)) (on (by omega))))
 have f16 := ((P5.keep Kq3 nin0).keep Kq10 (own_nin2 (on (by omega)) (on (by omega))))
 have f17 := ((P6.keep Kq3 nin0).keep Kq10 (own_nin2 (on (by omega)) (on (by omega))))
 obtain ⟨cq18, kq18, q18a, q18b, q18c⟩ := isOf hZ rfl f12
 obtain ⟨_, _, ⟨T18, L18, k18, n18⟩, -, X18, ⟨Lc18, hQ18, l18, y18, z18⟩, st18⟩ := X10.virtualBack hx (y := own_m25) (z := own_m25) hown (mvT hZ (w_ G 239 rfl)) (mvT hZ (w_ G 240 rfl)) (notFace_of_selects (args := #[]) (mvT hZ (w_ G 242 rfl))) (mvT hZ (w_ G 242 rfl)) (mvT hZ (w_ G 241 rfl)) (by decide) (backOf (W := 0) (rmssn l Z a0 G [] sb vb kv g ml T10.heap n0 O11 f12 f13 f14 f15 f16 f17 (by omega) (by omega) (on (by omega))) hZ (w_ G 243 rfl) (w_ G 84 rfl) (by decide) (by decide)) q18a q18c (g := (mkF m 23 #[vR x0, vR sb] [(.int 0), (.ref sb)])) rfl (by rw [hml]; rfl) (Steps.refl _) (argsL := [(.int 0)]) (rest := []) (lenOf pd_5 rfl) rfl (own_z rfl) (hb hby d41_23) (fun _ _ => ⟨rfl, rfl, (ol rfl), (ol rfl)⟩)
 dsimp only [Pt.U, Pt.locs, Pt.cells, Pt.slots] at X18 l18 y18 z18 st18 hQ18
 subst l18 y18 z18
 obtain ⟨rfl, N18q, Kq18, r18_0, r18_1, r18_2, r18_3, r18_4, r18_5⟩ := hQ18
 have N18 := Fr.app N10 N18q
 have sz19 := Kq18.1
 have K19 := K11.trans Kq18 (own_all1 (Or.inl (by simp)))
 have ltr18_0 := lN r18_0.lt
 have ltr18_1 := lN r18_1.lt
 have ltr18_2 := lN r18_2.lt
 have ltr18_3 := lN r18_3.lt
 have ltr18_4 := lN r18_4.lt
 have ltr18_5 := lN r18_5.lt
 refine ot (S' := T18.setTop (mkF m 26 #[vR x0, vR sb] [])) st18 ?_
 have f20 := ((r3_0.keep Kq10).keep Kq18)
 have f21 := ((r3_1.keep Kq10 (own_nin2 (on (by omega)) (on (by omega)))).keep Kq18 (own_nin1 (on (by omega))))
 have f22 := ((r3_2.keep Kq10 (own_nin2 (on (by omega)) (on (by omega)))).keep Kq18 (own_nin1 (on (by omega))))
 have f23 := ((r3_3.keep Kq10 (own_nin2 (on (by omega)) (on (by omega)))).keep Kq18 (own_nin1 (on (by omega))))
 have f24 := (r10_0.keep Kq18)
 have f25 := (r10_1.keep Kq18 (own_nin1 (on (by omega))))
 have f26 := (r10_2.keep Kq18 (own_nin1 (on (by omega))))
 have f27 := (r10_3.keep Kq18 (own_nin1 (on (by omega))))
 have f28 := (r10_4.keep Kq18 (own_nin1 (on (by omega))))
 refine OwnEnd.ret X18 (v := none) (fun _ => rfl) hlk (fun fs hr => X18.returnOut hx Bd.returns (hb hby d41_26) hr) (by decide) (by decide) (Q := Qta1 Z x0 lst mc sb vb kv g ml ar kA ea0 h0 n0) rfl ?_
 exact ⟨x_3, t_3, kb_3, rfl, N18, K19, f20, f21, f22, f23, (by omega), (by omega), f24, f25, f26, f27, f28, r18_0, r18_1, r18_2, r18_3, r18_4, r18_5⟩

theorem own_efta2 (m : MethodId) (x0 : Addr) (sb : Addr) : entryFrame m #[(.ref x0), (.ref sb)] 2 = mkF m 0 #[vR x0, vR sb] [] := by first | (simp [entryFrame, mkF, argsToLocals, Value.category]; done) | rfl
def Qta2 (Z : State) (x0 : Addr) (lst : Addr) (mc : Int32) (sb : Addr) (vb : Addr) (kv : ClassId) (g : Value) (ml : Value) (ar : Addr) (kA : ClassId) (ea0 : Addr) (ea1 : Addr) (h0 : Heap) (n0 : Nat) (v : Option Value) (h : Heap) (L : List Loc) : Prop := ∃ (y : Addr) (t : Addr) (kb : ClassId), v = none ∧ Fr n0 L ∧ Keep h0 h [lst, sb, ar] ∧ (Exa Z h y j1) ∧ (Fld Z h y j1 "value" "[B" (.ref t)) ∧ (Fld Z h y j1 "coder" "B" (.int 0)) ∧ (Arv Z h t kb .byte (1 : Int32) [g] (.int 0)) ∧ (Array.size h0 ≤ t) ∧ (Array.size h0 ≤ y) ∧ (Exa Z h lst j2) ∧ (Fld Z h lst j6 "modCount" "I" (.int (mc + (1 : Int32)))) ∧ (Fld Z h lst j2 "elementData" "[Ljava/lang/Object;" (.ref ar)) ∧ (Fld Z h lst j2 "size" "I" (.int 3)) ∧ (Arv Z h ar kA (.object j4) (10 : Int32) [(.ref ea0), (.ref ea1), (.ref y), .null, .null, .null, .null, .null, .null, .null] .null) ∧ (Exa Z h sb j5) ∧ (Fld Z h sb j0 "value" "[B" (.ref vb)) ∧ (Fld Z h sb j0 "coder" "B" (.int 0)) ∧ (Fld Z h sb j0 "count" "I" (.int 0)) ∧ (Fld Z h sb j0 "maybeLatin1" "Z" (.int 1)) ∧ (Arv Z h vb kv .byte (16 : Int32) [g, (.int 0), (.int 0), (.int 0), (.int 0), (.int 0), (.int 0), (.int 0), (.int 0), (.int 0), (.int 0), (.int 0), (.int 0), (.int 0), (.int 0), (.int 0)] (.int 0))
set_option maxRecDepth 65536 in
set_option maxHeartbeats 40000000 in
theorem rmta2 (l : Launch) (Z : State) (a0 : Array Value) (G : OwnG Z a0) (ws : List Jvm.Cond) (x0 : Addr) (lst : Addr) (mc : Int32) (sb : Addr) (vb : Addr) (kv : ClassId) (g : Value) (ml : Value) (ar : Addr) (kA : ClassId) (ea0 : Addr) (ea1 : Addr) (h0 : Heap) (n0 : Nat) (O0 : Old Z n0 h0) (P0 : Fld Z h0 x0 j3 "tokens" "Ljava/util/List;" (.ref lst)) (P1 : Exa Z h0 sb j5) (P2 : Fld Z h0 sb j0 "value" "[B" (.ref vb)) (P3 : Fld Z h0 sb j0 "coder" "B" (.int 0)) (P4 : Fld Z h0 sb j0 "count" "I" (.int 1)) (P5 : Fld Z h0 sb j0 "maybeLatin1" "Z" ml) (P6 : Arv Z h0 vb kv .byte (16 : Int32) [g, (.int 0), (.int 0), (.int 0), (.int 0), (.int 0), (.int 0), (.int 0), (.int 0), (.int 0), (.int 0), (.int 0), (.int 0), (.int 0), (.int 0), (.int 0)] (.int 0)) (P7 : Exa Z h0 lst j2) (P8 : Fld Z h0 lst j6 "modCount" "I" (.int mc)) (P9 : Fld Z h0 lst j2 "elementData" "[Ljava/lang/Object;" (.ref ar)) (P10 : Fld Z h0 lst j2 "size" "I" (.int 2)) (P11 : n0 ≤ lst) (P12 : n0 ≤ sb) (P13 : n0 ≤ vb) (P14 : n0 ≤ ar) (P15 : Arv Z h0 ar kA (.object j4) (10 : Int32) [(.ref ea0), (.ref ea1), .null, .null, .null, .null, .null, .null, .null, .null] .null) (P16 : Ovr Z kA j4) (P17 : lst ≠ sb) (P18 : lst ≠ vb) (P19 : lst ≠ ar) (P20 : sb ≠ vb) (P21 : sb ≠ ar) (P22 : vb ≠ ar) :
  MetFree l own_m41 (head1 (Jvm.Cond.code own_m41 B51 2 none :: ws) (rR 6 2 5 92)) (fun a U => a = #[(.ref x0), (.ref sb)] ∧ Z.Warmed39 U.vm ∧ U.heap = h0) (fun _ _ _ _ _ => True) (fun _ U o U' => ∃ v L, o = .returned v ∧ Qta2 Z x0 lst mc sb vb kv g ml ar kA ea0 ea1 h0 n0 v U'.heap L ∧ FrameEnd U o U' L (rR 6 2 5 92).cells (rR 6 2 5 92).slots) := by
 refine MetFree.of_bodySF (plainFor_of_name pn_10) hisR ?_
 intro p e s m args below meth cD s₁ Bd hml0 hP hK
 obtain ⟨rfl, hZ, hh⟩ := hP
 have hml : cD.maxLocals = 2 := hml0
 obtain ⟨hx, hby, (hown : s.vm.findClass j3 = some m.cls), hlk, X0, e0⟩ := own_st Bd hh
 have lt0 := lN P0.lt
 have lt1 := lN P1.lt
 have lt2 := lN P2.lt
 have lt3 := lN P3.lt
 have lt4 := lN P4.lt
 have lt5 := lN P5.lt
 have lt6 := lN P6.lt
 have lt7 := lN P7.lt
 have lt8 := lN P8.lt
 have lt9 := lN P9.lt
 have lt10 := lN P10.lt
 have lt15 := lN P15.lt
 have nP17 := own_neN P17
 have nP18 := own_neN P18
 have nP19 := own_neN P19
 have nP20 := own_neN P20
 have nP21 := own_neN P21
 have nP22 := own_neN P22
 have K0 : Keep h0 h0 [lst, sb, ar] := Keep.refl h0 _
 have Z0 := own_old_le O0
 have N0 := Fr.nil n0
 refine OwnEnd.start (g' := (mkF m 0 #[vR x0, vR sb] [])) (own_efta2 m x0 sb) ?_
 refine oo (S' := s₁.setTop (mkF m 1 #[vR x0, vR sb] [(.ref sb)])) (fun _ kK => XS.aloadN X0.here hx rfl (hb hby d41_0) rfl rfl kK) ?_
 obtain ⟨cq1, kq1, q1a, q1b, q1c⟩ := isOf hZ e0 P1
 obtain ⟨_, _, ⟨T1, L1, k1, n1⟩, -, X1, ⟨Lc1, hQ1, l1, y1, z1⟩, st1⟩ := X0.virtualBack hx (y := own_m15) (z := own_m15) hown (mvT hZ (w_ G 158 rfl)) (mvT hZ (w_ G 159 rfl)) (notFace_of_selects (args := #[]) (mvT hZ (w_ G 161 rfl))) (mvT hZ (w_ G 161 rfl)) (mvT hZ (w_ G 160 rfl)) (by decide) (backOf (W := 0) (rmsln l Z a0 G [] sb (1 : Int32) h0 n0 O0 P1 P4) hZ (w_ G 162 rfl) (w_ G 84 rfl) (by decide) (by decide)) q1a q1c (g := (mkF m 1 #[vR x0, vR sb] [(.ref sb)])) rfl (by rw [hml]; rfl) (Steps.refl _) (argsL := []) (rest := []) (lenOf pd_8 rfl) rfl (own_z rfl) (hb hby d41_1) (fun _ _ => ⟨rfl, e0, (ol rfl), (ol rfl)⟩)
 dsimp only [Pt.U, Pt.locs, Pt.cells, Pt.slots] at X1 l1 y1 z1 st1 hQ1
 subst l1 y1 z1
 obtain ⟨rfl, N1q, eh1⟩ := hQ1
 have N1 := Fr.app N0 N1q
 refine ot (S' := T1.setTop (mkF m 4 #[vR x0, vR sb] [(.int 1)])) st1 ?_
 refine oo (S' := T1.setTop (mkF m 8 #[vR x0, vR sb] [(.ref x0)])) (fun _ kK => XS.ifNo X1.here hx rfl (hb hby d41_4) rfl ((if0 _ _).trans (tlt ((by decide : (0 : Int32) < (1 : Int32)))).2.2.2) (XS.aloadN X1.here hx rfl (hb hby d41_7) rfl rfl kK)) ?_
 obtain ⟨T2, X2, e2, st2⟩ := getF X1 hx hZ hown (host := "") (Or.inl (w_ G 80 rfl)) Via.refl eh1 P0 (g := (mkF m 8 #[vR x0, vR sb] [(.ref x0)])) rfl rfl (hb hby d41_8)
 refine oo (S' := T2.setTop (mkF m 11 #[vR x0, vR sb] [(.ref lst)])) st2 ?_
 refine oo (S' := T2.setTop (mkF m 12 #[vR x0, vR sb] [(.ref sb), (.ref lst)])) (fun _ kK => XS.aloadN X2.here hx rfl (hb hby d41_11) rfl rfl kK) ?_
 obtain ⟨cq3, kq3, q3a, q3b, q3c⟩ := isOf hZ e2 P1
 obtain ⟨_, _, ⟨T3, L3, k3, n3⟩, -, X3, ⟨Lc3, hQ3, l3, y3, z3⟩, st3⟩ := X2.virtualBack hx (y := own_m23) (z := own_m23) hown (mvT hZ (w_ G 167 rfl)) (mvT hZ (w_ G 168 rfl)) (notFace_of_selects (args := #[]) (mvT hZ (w_ G 170 rfl))) (mvT hZ (w_ G 170 rfl)) (mvT hZ (w_ G 169 rfl)) (by decide) (backOf (W := 1) (rmtos l Z a0 G [] sb vb kv g ml h0 n0 O0 P1 P2 P3 P4 P5 P6) hZ (w_ G 171 rfl) (w_ G 84 rfl) (by decide) (by decide)) q3a q3c (g := (mkF m 12 #[vR x0, vR sb] [(.ref sb), (.ref lst)])) rfl (by rw [hml]; rfl) (Steps.refl _) (argsL := []) (rest := [(.ref lst)]) (lenOf pd_21 rfl) rfl (own_z rfl) (hb hby d41_12) (fun _ _ => ⟨rfl, e2, (ol rfl), (ol rfl)⟩)
 dsimp only [Pt.U, Pt.locs, Pt.cells, Pt.slots] at X3 l3 y3 z3 st3 hQ3
 subst l3 y3 z3
 obtain ⟨x_3, t_3, kb_3, rfl, N3q, Kq3, r3_0, r3_1, r3_2, r3_3, r3_4, r3_5⟩ := hQ3
 have N3 := Fr.app N1 N3q
 have sz4 := Kq3.1
 have K4 := K0.trans Kq3 (own_all0 )
 have O4 := O0.keep Kq3 (own_all0 )
 have ltr3_0 := lN r3_0.lt
 have ltr3_1 := lN r3_1.lt
 have ltr3_2 := lN r3_2.lt
 have ltr3_3 := lN r3_3.lt
 refine ot (S' := T3.setTop (mkF m 15 #[vR x0, vR sb] [(.ref x_3), (.ref lst)])) st3 ?_
 have f5 := (P7.keep Kq3)
 have f6 := (P8.keep Kq3 nin0)
 have f7 := (P9.keep Kq3 nin0)
 have f8 := (P10.keep Kq3 nin0)
 have f9 := (P15.keep Kq3 nin0)
 obtain ⟨cq10, kq10, q10a, q10b, q10c⟩ := isOf hZ rfl f5
 obtain ⟨_, _, ⟨T10, L10, k10, n10⟩, -, X10, ⟨Lc10, hQ10, l10, y10, z10⟩, st10⟩ := X3.interfaceBack hx (xi := own_m42) (y := own_m36) hown (mvT hZ (w_ G 205 rfl)) (mvT hZ (w_ G 206 rfl)) (mvT hZ (w_ G 207 rfl)) (mvT hZ (w_ G 208 rfl)) (mvT hZ (w_ G 209 rfl)) (mvT hZ (w_ G 210 rfl)) (mvT hZ (w_ G 211 rfl)) (mvT hZ (w_ G 212 rfl)) (by decide) (backOf (W := 0) (rmal2 l Z a0 G [] lst mc x_3 ar kA ea0 ea1 T3.heap n0 O4 f5 f6 f7 f8 r3_0 (by omega) (by omega) (on (by omega)) f9 P16) hZ (w_ G 213 rfl) (w_ G 58 rfl) (by decide) (by decide)) q10a q10b q10c (g := (mkF m 15 #[vR x0, vR sb] [(.ref x_3), (.ref lst)])) rfl (by rw [hml]; rfl) (Steps.refl _) (argsL := [(.ref x_3)]) (rest := []) (lenOf pd_22 rfl) rfl (own_z rfl) (hb hby d41_15) (fun _ _ => ⟨rfl, rfl, (ol rfl), (ol rfl)⟩)
 dsimp only [Pt.U, Pt.locs, Pt.cells, Pt.slots] at X10 l10 y10 z10 st10 hQ10
 subst l10 y10 z10
 obtain ⟨rfl, N10q, Kq10, r10_0, r10_1, r10_2, r10_3, r10_4⟩ := hQ10
 have N10 := Fr.app N3 N10q
 have sz11 := Kq10.1
 have K11 := K4.trans Kq10 (own_all2 (Or.inl (by simp)) (Or.inl (by simp)))
 have O11 := O4.keep Kq10 (own_all2 (by omega) (by omega))
 have ltr10_0 := lN r10_0.lt
 have ltr10_1 := lN r10_1.lt
 have ltr10_2 := lN r10_2.lt
 have ltr10_3 := lN r10_3.lt
 have ltr10_4 := lN r10_4.lt
 refine ot (S' := T10.setTop (mkF m 20 #[vR x0, vR sb] [(.int 1)])) st10 ?_
 refine oo (S' := T10.setTop (mkF m 23 #[vR x0, vR sb] [(.int 0), (.ref sb)])) (fun _ kK => XS.pop X10.here hx rfl (hb hby d41_20) rfl rfl (XS.aloadN X10.here hx rfl (hb hby d41_21) rfl rfl (XS.iconst X10.here hx rfl (hb hby d41_22) kK))) ?_
 have f12 := ((P1.keep Kq3).keep Kq10)
 have f13 := ((P2.keep Kq3 nin0).keep Kq10 (own_nin2 (on (by omega)) (on (by omega))))
 have f14 := ((P3.keep Kq3 nin0).keep Kq10 (own_nin2 (on (by omega)) (on (by omega))))
 have f15 := ((P4.keep Kq3 nin0).keep Kq10 (own_nin2 (on (by omega)) (on (by omega))))
 have f16 := ((P5.keep Kq3 nin0).keep Kq10 (own_nin2 (on (by omega)) (on (by omega))))
 have f17 := ((P6.keep Kq3 nin0).keep Kq10 (own_nin2 (on (by omega)) (on (by omega))))
 obtain ⟨cq18, kq18, q18a, q18b, q18c⟩ := isOf hZ rfl f12
 obtain ⟨_, _, ⟨T18, L18, k18, n18⟩, -, X18, ⟨Lc18, hQ18, l18, y18, z18⟩, st18⟩ := X10.virtualBack hx (y := own_m25) (z := own_m25) hown (mvT hZ (w_ G 239 rfl)) (mvT hZ (w_ G 240 rfl)) (notFace_of_selects (args := #[]) (mvT hZ (w_ G 242 rfl))) (mvT hZ (w_ G 242 rfl)) (mvT hZ (w_ G 241 rfl)) (by decide) (backOf (W := 0) (rmssn l Z a0 G [] sb vb kv g ml T10.heap n0 O11 f12 f13 f14 f15 f16 f17 (by omega) (by omega) (on (by omega))) hZ (w_ G 243 rfl) (w_ G 84 rfl) (by decide) (by decide)) q18a q18c (g := (mkF m 23 #[vR x0, vR sb] [(.int 0), (.ref sb)])) rfl (by rw [hml]; rfl) (Steps.refl _) (argsL := [(.int 0)]) (rest := []) (lenOf pd_5 rfl) rfl (own_z rfl) (hb hby d41_23) (fun _ _ => ⟨rfl, rfl, (ol rfl), (ol rfl)⟩)
 dsimp only [Pt.U, Pt.locs, Pt.cells, Pt.slots] at X18 l18 y18 z18 st18 hQ18
 subst l18 y18 z18
 obtain ⟨rfl, N18q, Kq18, r18_0, r18_1, r18_2, r18_3, r18_4, r18_5⟩ := hQ18
 have N18 := Fr.app N10 N18q
 have sz19 := Kq18.1
 have K19 := K11.trans Kq18 (own_all1 (Or.inl (by simp)))
 have ltr18_0 := lN r18_0.lt
 have ltr18_1 := lN r18_1.lt
 have ltr18_2 := lN r18_2.lt
 have ltr18_3 := lN r18_3.lt
 have ltr18_4 := lN r18_4.lt
 have ltr18_5 := lN r18_5.lt
 refine ot (S' := T18.setTop (mkF m 26 #[vR x0, vR sb] [])) st18 ?_
 have f20 := ((r3_0.keep Kq10).keep Kq18)
 have f21 := ((r3_1.keep Kq10 (own_nin2 (on (by omega)) (on (by omega)))).keep Kq18 (own_nin1 (on (by omega))))
 have f22 := ((r3_2.keep Kq10 (own_nin2 (on (by omega)) (on (by omega)))).keep Kq18 (own_nin1 (on (by omega))))
 have f23 := ((r3_3.keep Kq10 (own_nin2 (on (by omega)) (on (by omega)))).keep Kq18 (own_nin1 (on (by omega))))
 have f24 := (r10_0.keep Kq18)
 have f25 := (r10_1.keep Kq18 (own_nin1 (on (by omega))))
 have f26 := (r10_2.keep Kq18 (own_nin1 (on (by omega))))
 have f27 := (r10_3.keep Kq18 (own_nin1 (on (by omega))))
 have f28 := (r10_4.keep Kq18 (own_nin1 (on (by omega))))
 refine OwnEnd.ret X18 (v := none) (fun _ => rfl) hlk (fun fs hr => X18.returnOut hx Bd.returns (hb hby d41_26) hr) (by decide) (by decide) (Q := Qta2 Z x0 lst mc sb vb kv g ml ar kA ea0 ea1 h0 n0) rfl ?_
 exact ⟨x_3, t_3, kb_3, rfl, N18, K19, f20, f21, f22, f23, (by omega), (by omega), f24, f25, f26, f27, f28, r18_0, r18_1, r18_2, r18_3, r18_4, r18_5⟩

def own_Alts (Z : State) (c0 c1 c2 : Int32) (aD lst : Addr) (h0 h : Heap) : Prop := (own_nb [c0, c1, c2] = [] ∧ Fld Z h lst j2 "elementData" "[Ljava/lang/Object;" (.ref aD) ∧ Fld Z h lst j2 "size" "I" (.int 0)) ∨ (∃ (tk0 : Int32) (ar : Addr) (kA : ClassId) (y0 : Addr) (yt0 : Addr) (yk0 : ClassId), own_nb [c0, c1, c2] = [tk0] ∧ Fld Z h lst j2 "elementData" "[Ljava/lang/Object;" (.ref ar) ∧ Fld Z h lst j2 "size" "I" (.int 1) ∧ Arv Z h ar kA (.object j4) (10 : Int32) [(.ref y0), .null, .null, .null, .null, .null, .null, .null, .null, .null] .null ∧ Array.size h0 ≤ ar ∧ Exa Z h y0 j1 ∧ Fld Z h y0 j1 "value" "[B" (.ref yt0) ∧ Fld Z h y0 j1 "coder" "B" (.int 0) ∧ Arv Z h yt0 yk0 .byte (1 : Int32) [(.int (StrChars.lo8 tk0))] (.int 0) ∧ Array.size h0 ≤ y0 ∧ Array.size h0 ≤ yt0) ∨ (∃ (tk0 : Int32) (tk1 : Int32) (ar : Addr) (kA : ClassId) (y0 : Addr) (yt0 : Addr) (yk0 : ClassId) (y1 : Addr) (yt1 : Addr) (yk1 : ClassId), own_nb [c0, c1, c2] = [tk0, tk1] ∧ Fld Z h lst j2 "elementData" "[Ljava/lang/Object;" (.ref ar) ∧ Fld Z h lst j2 "size" "I" (.int 2) ∧ Arv Z h ar kA (.object j4) (10 : Int32) [(.ref y0), (.ref y1), .null, .null, .null, .null, .null, .null, .null, .null] .null ∧ Array.size h0 ≤ ar ∧ Exa Z h y0 j1 ∧ Fld Z h y0 j1 "value" "[B" (.ref yt0) ∧ Fld Z h y0 j1 "coder" "B" (.int 0) ∧ Arv Z h yt0 yk0 .byte (1 : Int32) [(.int (StrChars.lo8 tk0))] (.int 0) ∧ Array.size h0 ≤ y0 ∧ Array.size h0 ≤ yt0 ∧ Exa Z h y1 j1 ∧ Fld Z h y1 j1 "value" "[B" (.ref yt1) ∧ Fld Z h y1 j1 "coder" "B" (.int 0) ∧ Arv Z h yt1 yk1 .byte (1 : Int32) [(.int (StrChars.lo8 tk1))] (.int 0) ∧ Array.size h0 ≤ y1 ∧ Array.size h0 ≤ yt1) ∨ (∃ (tk0 : Int32) (tk1 : Int32) (tk2 : Int32) (ar : Addr) (kA : ClassId) (y0 : Addr) (yt0 : Addr) (yk0 : ClassId) (y1 : Addr) (yt1 : Addr) (yk1 : ClassId) (y2 : Addr) (yt2 : Addr) (yk2 : ClassId), own_nb [c0, c1, c2] = [tk0, tk1, tk2] ∧ Fld Z h lst j2 "elementData" "[Ljava/lang/Object;" (.ref ar) ∧ Fld Z h lst j2 "size" "I" (.int 3) ∧ Arv Z h ar kA (.object j4) (10 : Int32) [(.ref y0), (.ref y1), (.ref y2), .null, .null, .null, .null, .null, .null, .null] .null ∧ Array.size h0 ≤ ar ∧ Exa Z h y0 j1 ∧ Fld Z h y0 j1 "value" "[B" (.ref yt0) ∧ Fld Z h y0 j1 "coder" "B" (.int 0) ∧ Arv Z h yt0 yk0 .byte (1 : Int32) [(.int (StrChars.lo8 tk0))] (.int 0) ∧ Array.size h0 ≤ y0 ∧ Array.size h0 ≤ yt0 ∧ Exa Z h y1 j1 ∧ Fld Z h y1 j1 "value" "[B" (.ref yt1) ∧ Fld Z h y1 j1 "coder" "B" (.int 0) ∧ Arv Z h yt1 yk1 .byte (1 : Int32) [(.int (StrChars.lo8 tk1))] (.int 0) ∧ Array.size h0 ≤ y1 ∧ Array.size h0 ≤ yt1 ∧ Exa Z h y2 j1 ∧ Fld Z h y2 j1 "value" "[B" (.ref yt2) ∧ Fld Z h y2 j1 "coder" "B" (.int 0) ∧ Arv Z h yt2 yk2 .byte (1 : Int32) [(.int (StrChars.lo8 tk2))] (.int 0) ∧ Array.size h0 ≤ y2 ∧ Array.size h0 ≤ yt2)
def own_Qtok (Z : State) (x0 : Addr) (c0 c1 c2 : Int32) (aD : Addr) (h0 : Heap) (n0 : Nat) (v : Option Value) (h : Heap) (L : List Loc) : Prop := v = none ∧ Fr n0 L ∧ Keep h0 h [x0] ∧ Exa Z h x0 j3 ∧ ∃ (lst : Addr) (mc : Int32), Fld Z h x0 j3 "tokens" "Ljava/util/List;" (.ref lst) ∧ Fld Z h x0 j3 "next" "I" (.int 0) ∧ Exa Z h lst j2 ∧ Array.size h0 ≤ lst ∧ Fld Z h lst j6 "modCount" "I" (.int mc) ∧ own_Alts Z c0 c1 c2 aD lst h0 h
theorem own_pk0 {Z : State} {c0 c1 c2 : Int32} {aD lst : Addr} {h0 h : Heap} (D : own_Alts Z c0 c1 c2 aD lst h0 h) (n : own_nb [c0, c1, c2] = []) : Fld Z h lst j2 "elementData" "[Ljava/lang/Object;" (.ref aD) ∧ Fld Z h lst j2 "size" "I" (.int 0) := by
 rcases D with ⟨nb, r⟩ | ⟨s0, ar, kA, y0, yt0, yk0, nb, r⟩ | ⟨s0, s1, ar, kA, y0, yt0, yk0, y1, yt1, yk1, nb, r⟩ | ⟨s0, s1, s2, ar, kA, y0, yt0, yk0, y1, yt1, yk1, y2, yt2, yk2, nb, r⟩
 ·exact r
 ·exact absurd (nb.symm.trans n) (by simp)
 ·exact absurd (nb.symm.trans n) (by simp)
 ·exact absurd (nb.symm.trans n) (by simp)
theorem own_pk1 {Z : State} {c0 c1 c2 : Int32} {aD lst : Addr} {h0 h : Heap} {tk0 : Int32} (D : own_Alts Z c0 c1 c2 aD lst h0 h) (n : own_nb [c0, c1, c2] = [tk0]) : ∃ (ar : Addr) (kA : ClassId) (y0 : Addr) (yt0 : Addr) (yk0 : ClassId), Fld Z h lst j2 "elementData" "[Ljava/lang/Object;" (.ref ar) ∧ Fld Z h lst j2 "size" "I" (.int 1) ∧ Arv Z h ar kA (.object j4) (10 : Int32) [(.ref y0), .null, .null, .null, .null, .null, .null, .null, .null, .null] .null ∧ Array.size h0 ≤ ar ∧ Exa Z h y0 j1 ∧ Fld Z h y0 j1 "value" "[B" (.ref yt0) ∧ Fld Z h y0 j1 "coder" "B" (.int 0) ∧ Arv Z h yt0 yk0 .byte (1 : Int32) [(.int (StrChars.lo8 tk0))] (.int 0) ∧ Array.size h0 ≤ y0 ∧ Array.size h0 ≤ yt0 := by
 rcases D with ⟨nb, r⟩ | ⟨s0, ar, kA, y0, yt0, yk0, nb, r⟩ | ⟨s0, s1, ar, kA, y0, yt0, yk0, y1, yt1, yk1, nb, r⟩ | ⟨s0, s1, s2, ar, kA, y0, yt0, yk0, y1, yt1, yk1, y2, yt2, yk2, nb, r⟩
 ·exact absurd (nb.symm.trans n) (by simp)
 ·have q := nb.symm.trans n
  simp only [List.cons.injEq, and_true] at q
  obtain rfl := q
  exact ⟨ar, kA, y0, yt0, yk0, r⟩
 ·exact absurd (nb.symm.trans n) (by simp)
 ·exact absurd (nb.symm.trans n) (by simp)
theorem own_pk2 {Z : State} {c0 c1 c2 : Int32} {aD lst : Addr} {h0 h : Heap} {tk0 : Int32} {tk1 : Int32} (D : own_Alts Z c0 c1 c2 aD lst h0 h) (n : own_nb [c0, c1, c2] = [tk0, tk1]) : ∃ (ar : Addr) (kA : ClassId) (y0 : Addr) (yt0 : Addr) (yk0 : ClassId) (y1 : Addr) (yt1 : Addr) (yk1 : ClassId), Fld Z h lst j2 "elementData" "[Ljava/lang/Object;" (.ref ar) ∧ Fld Z h lst j2 "size" "I" (.int 2) ∧ Arv Z h ar kA (.object j4) (10 : Int32) [(.ref y0), (.ref y1), .null, .null, .null, .null, .null, .null, .null, .null] .null ∧ Array.size h0 ≤ ar ∧ Exa Z h y0 j1 ∧ Fld Z h y0 j1 "value" "[B" (.ref yt0) ∧ Fld Z h y0 j1 "coder" "B" (.int 0) ∧ Arv Z h yt0 yk0 .byte (1 : Int32) [(.int (StrChars.lo8 tk0))] (.int 0) ∧ Array.size h0 ≤ y0 ∧ Array.size h0 ≤ yt0 ∧ Exa Z h y1 j1 ∧ Fld Z h y1 j1 "value" "[B" (.ref yt1) ∧ Fld Z h y1 j1 "coder" "B" (.int 0) ∧ Arv Z h yt1 yk1 .byte (1 : Int32) [(.int (StrChars.lo8 tk1))] (.int 0) ∧ Array.size h0 ≤ y1 ∧ Array.size h0 ≤ yt1 := by
 rcases D with ⟨nb, r⟩ | ⟨s0, ar, kA, y0, yt0, yk0, nb, r⟩ | ⟨s0, s1, ar, kA, y0, yt0, yk0, y1, yt1, yk1, nb, r⟩ | ⟨s0, s1, s2, ar, kA, y0, yt0, yk0, y1, yt1, yk1, y2, yt2, yk2, nb, r⟩
 ·exact absurd (nb.symm.trans n) (by simp)
 ·exact absurd (nb.symm.trans n) (by simp)
 ·have q := nb.symm.trans n
  simp only [List.cons.injEq, and_true] at q
  obtain ⟨rfl, rfl⟩ := q
  exact ⟨ar, kA, y0, yt0, yk0, y1, yt1, yk1, r⟩
 ·exact absurd (nb.symm.trans n) (by simp)
theorem own_pk3 {Z : State} {c0 c1 c2 : Int32} {aD lst : Addr} {h0 h : Heap} {tk0 : Int32} {tk1 : Int32} {tk2 : Int32} (D : own_Alts Z c0 c1 c2 aD lst h0 h) (n : own_nb [c0, c1, c2] = [tk0, tk1, tk2]) : ∃ (ar : Addr) (kA : ClassId) (y0 : Addr) (yt0 : Addr) (yk0 : ClassId) (y1 : Addr) (yt1 : Addr) (yk1 : ClassId) (y2 : Addr) (yt2 : Addr) (yk2 : ClassId), Fld Z h lst j2 "elementData" "[Ljava/lang/Object;" (.ref ar) ∧ Fld Z h lst j2 "size" "I" (.int 3) ∧ Arv Z h ar kA (.object j4) (10 : Int32) [(.ref y0), (.ref y1), (.ref y2), .null, .null, .null, .null, .null, .null, .null] .null ∧ Array.size h0 ≤ ar ∧ Exa Z h y0 j1 ∧ Fld Z h y0 j1 "value" "[B" (.ref yt0) ∧ Fld Z h y0 j1 "coder" "B" (.int 0) ∧ Arv Z h yt0 yk0 .byte (1 : Int32) [(.int (StrChars.lo8 tk0))] (.int 0) ∧ Array.size h0 ≤ y0 ∧ Array.size h0 ≤ yt0 ∧ Exa Z h y1 j1 ∧ Fld Z h y1 j1 "value" "[B" (.ref yt1) ∧ Fld Z h y1 j1 "coder" "B" (.int 0) ∧ Arv Z h yt1 yk1 .byte (1 : Int32) [(.int (StrChars.lo8 tk1))] (.int 0) ∧ Array.size h0 ≤ y1 ∧ Array.size h0 ≤ yt1 ∧ Exa Z h y2 j1 ∧ Fld Z h y2 j1 "value" "[B" (.ref yt2) ∧ Fld Z h y2 j1 "coder" "B" (.int 0) ∧ Arv Z h yt2 yk2 .byte (1 : Int32) [(.int (StrChars.lo8 tk2))] (.int 0) ∧ Array.size h0 ≤ y2 ∧ Array.size h0 ≤ yt2 := by
 rcases D with ⟨nb, r⟩ | ⟨s0, ar, kA, y0, yt0, yk0, nb, r⟩ | ⟨s0, s1, ar, kA, y0, yt0, yk0, y1, yt1, yk1, nb, r⟩ | ⟨s0, s1, s2, ar, kA, y0, yt0, yk0, y1, yt1, yk1, y2, yt2, yk2, nb, r⟩
 ·exact absurd (nb.symm.trans n) (by simp)
 ·exact absurd (nb.symm.trans n) (by simp)
 ·exact absurd (nb.symm.trans n) (by simp)
 ·have q := nb.symm.trans n
  simp only [List.cons.injEq, and_true] at q
  obtain ⟨rfl, rfl, rfl⟩ := q
  exact ⟨ar, kA, y0, yt0, yk0, y1, yt1, yk1, y2, yt2, yk2, r⟩

set_option maxRecDepth 65536 in
set_option maxHeartbeats 40000000 in
theorem sft2_0 (l : Launch) (Z : State) (a0 : Array Value) (G : OwnG Z a0) (x0 : Addr) (ln : Addr) (lt : Addr) (kl : ClassId) (tv : Value) (c0 : Int32) (s0 : Int32) (c1 : Int32) (s1 : Int32) (c2 : Int32) (aD : Addr) (kD : ClassId) (h0 : Heap) (n0 : Nat) (O0 : Old Z n0 h0) (P3 : n0 ≤ x0) (P8 : x0 ≠ ln) (P9 : x0 ≠ lt) (P10 : ∀ c ∈ ([c0, s0, c1, s1, c2] : List Int32), ¬ c < (0 : Int32) ∧ ¬ (255 : Int32) < c) (P11 : s0 = (32 : Int32) ∨ s0 = (9 : Int32)) (P12 : s1 = (32 : Int32) ∨ s1 = (9 : Int32)) (P13 : Sta Z Z.heap j2 "DEFAULTCAPACITY_EMPTY_ELEMENTDATA" "[Ljava/lang/Object;" (.ref aD)) (P14 : Arv Z Z.heap aD kD (.object j4) (0 : Int32) [] .null) {p : Program} {e : Env} {s : State} {m : MethodId} {below : List Frame} {meth : Method} {cD : Code} {s₁ : State} {Sp : Spec} (Bd : BodyLoose p l own_m43 Sp B52 5 none e s m #[(.ref x0), (.ref ln)] below meth cD s₁) (hml0 : cD.maxLocals = 5) (hZ : Z.Warmed39 s.vm) {TJ : State} {locs : List Loc} (XJ : Stand p l e (rR 7 33 125 105) s m #[(.ref x0), (.ref ln)] below meth cD TJ locs 30 110) (hJ : Heap) (eJ : TJ.heap = hJ) (KJ : Keep h0 hJ [x0]) (OJ : Old Z n0 hJ) (NJ : Fr n0 locs) (szJ : Array.size h0 ≤ Array.size hJ) (lst : Addr) (mc : Int32) (sb : Addr) (vb : Addr) (kv : ClassId) (g : Value) (ml : Value) (J0 : Exa Z hJ x0 j3) (J1 : Fld Z hJ x0 j3 "tokens" "Ljava/util/List;" (.ref lst)) (J2 : Fld Z hJ x0 j3 "next" "I" (.int 0)) (J3 : Exa Z hJ ln j1) (J4 : Fld Z hJ ln j1 "value" "[B" (.ref lt)) (J5 : Fld Z hJ ln j1 "coder" "B" (.int 0)) (J6 : Arv Z hJ lt kl .byte (5 : Int32) ((([c0, s0, c1, s1, c2] : List Int32).map (fun c => c.toInt8.toInt32)).map Value.int) (.int 0)) (J7 : Exa Z hJ sb j5) (J8 : Fld Z hJ sb j0 "value" "[B" (.ref vb)) (J9 : Fld Z hJ sb j0 "coder" "B" (.int 0)) (J10 : Fld Z hJ sb j0 "count" "I" (.int 0)) (J11 : Fld Z hJ sb j0 "maybeLatin1" "Z" ml) (J12 : Arv Z hJ vb kv .byte (16 : Int32) [g, (.int 0), (.int 0), (.int 0), (.int 0), (.int 0), (.int 0), (.int 0), (.int 0), (.int 0), (.int 0), (.int 0), (.int 0), (.int 0), (.int 0), (.int 0)] (.int 0)) (J13 : Exa Z hJ lst j2) (J14 : Fld Z hJ lst j6 "modCount" "I" (.int mc)) (J15 : Fld Z hJ lst j2 "elementData" "[Ljava/lang/Object;" (.ref aD)) (J16 : Fld Z hJ lst j2 "size" "I" (.int 0)) (J17 : n0 ≤ lst) (J18 : n0 ≤ sb) (J19 : n0 ≤ vb) (J20 : Array.size h0 ≤ lst) (J21 : own_ord [lst, sb, vb]) (J22 : @LT.lt Nat instLTNat x0 (Array.size h0)) (J23 : @LT.lt Nat instLTNat ln (Array.size h0)) (J24 : @LT.lt Nat instLTNat lt (Array.size h0)) (J25 : own_nb [c0, c1, c2] = own_nb [c2]) :
  OwnEnd p e below (fun o t => ∃ v L, o = .returned v ∧ (own_Qtok Z x0 c0 c1 c2 aD) h0 n0 v t.heap L ∧ FrameEnd s o t L (rR 7 33 125 105).cells (rR 7 33 125 105).slots) (TJ.setTop (mkF m 25 #[vR x0, vR ln, vR sb, vI 4, vI s1] [])) := by
 have hx := Bd.exec
 have hby := Bd.bytes
 have hml : cD.maxLocals = 5 := hml0
 have hown : s.vm.findClass j3 = some m.cls := findClass_of_methodNamed Bd.named
 have hlk := Bd.notSynchronized
 have ltJ0 := lN J0.lt
 have ltJ1 := lN J1.lt
 have ltJ2 := lN J2.lt
 have ltJ3 := lN J3.lt
 have ltJ4 := lN J4.lt
 have ltJ5 := lN J5.lt
 have ltJ6 := lN J6.lt
 have ltJ7 := lN J7.lt
 have ltJ8 := lN J8.lt
 have ltJ9 := lN J9.lt
 have ltJ10 := lN J10.lt
 have ltJ11 := lN J11.lt
 have ltJ12 := lN J12.lt
 have ltJ13 := lN J13.lt
 have ltJ14 := lN J14.lt
 have ltJ15 := lN J15.lt
 have ltJ16 := lN J16.lt
 have Z0 := own_old_le O0
 have hord := J21
 simp only [own_ord, and_true] at hord
 have ltD : @LT.lt Nat instLTNat aD n0 := lN (O0.1 ▸ P14.lt)
 let lv1 : Array Slot := #[vR x0, vR ln, vR sb, vI 4, vI s1]
 refine oo (S' := TJ.setTop (mkF m 27 lv1 [(.ref ln), (.int 4)])) (fun _ kK => XS.iloadN XJ.here hx rfl (hb hby d42_25) rfl (XS.aloadN XJ.here hx rfl (hb hby d42_26) rfl rfl kK)) ?_
 obtain ⟨cq2, kq2, q2a, q2b, q2c⟩ := isOf hZ eJ J3
 obtain ⟨_, _, ⟨T2, L2, k2, n2⟩, -, X2, ⟨Lc2, hQ2, l2, y2, z2⟩, st2⟩ := XJ.virtualBack hx (y := own_m4) (z := own_m4) hown (mvT hZ (w_ G 100 rfl)) (mvT hZ (w_ G 101 rfl)) (notFace_of_selects (args := #[]) (mvT hZ (w_ G 103 rfl))) (mvT hZ (w_ G 103 rfl)) (mvT hZ (w_ G 102 rfl)) (by decide) (backOf (W := 1) (rmln0 l Z a0 G [] ln lt kl (5 : Int32) ((([c0, s0, c1, s1, c2] : List Int32).map (fun c => c.toInt8.toInt32)).map Value.int) (.int 0) hJ n0 OJ J3 J4 J5 J6) hZ (w_ G 104 rfl) (w_ G 9 rfl) (by decide) (by decide)) q2a q2c (g := (mkF m 27 lv1 [(.ref ln), (.int 4)])) rfl (by rw [hml]; rfl) (Steps.refl _) (argsL := []) (rest := [(.int 4)]) (lenOf pd_8 rfl) rfl (own_z rfl) (hb hby d42_27) (fun _ _ => ⟨rfl, eJ, (ol rfl), (ol rfl)⟩)
 dsimp only [Pt.U, Pt.locs, Pt.cells, Pt.slots] at X2 l2 y2 z2 st2 hQ2
 subst l2 y2 z2
 obtain ⟨rfl, N2q, eh2⟩ := hQ2
 have N2 := Fr.app NJ N2q
 refine ot (S' := T2.setTop (mkF m 30 lv1 [(.int 5), (.int 4)])) st2 ?_
 refine oo (S' := T2.setTop (mkF m 35 lv1 [(.int 4), (.ref ln)])) (fun _ kK => XS.icmpNo X2.here hx rfl (hb hby d42_30) rfl (tlt ((by decide : (4 : Int32) < (5 : Int32)))).2.1 (XS.aloadN X2.here hx rfl (hb hby d42_33) rfl rfl (XS.iloadN X2.here hx rfl (hb hby d42_34) rfl kK))) ?_
 obtain ⟨cq3, kq3, q3a, q3b, q3c⟩ := isOf hZ eh2 J3
 obtain ⟨_, _, ⟨T3, L3, k3, n3⟩, -, X3, ⟨Lc3, hQ3, l3, y3, z3⟩, st3⟩ := X2.virtualBack hx (y := own_m6) (z := own_m6) hown (mvT hZ (w_ G 110 rfl)) (mvT hZ (w_ G 111 rfl)) (notFace_of_selects (args := #[]) (mvT hZ (w_ G 113 rfl))) (mvT hZ (w_ G 113 rfl)) (mvT hZ (w_ G 112 rfl)) (by decide) (backOf (W := 0) (rmcA0 l Z a0 G [] ln lt kl (5 : Int32) ((([c0, s0, c1, s1, c2] : List Int32).map (fun c => c.toInt8.toInt32)).map Value.int) (.int 0) (4 : Int32) c2 hJ n0 OJ J3 J4 J5 J6 (by decide) (by decide) (by rfl) (P10 c2 (by simp))) hZ (w_ G 114 rfl) (w_ G 9 rfl) (by decide) (by decide)) q3a q3c (g := (mkF m 35 lv1 [(.int 4), (.ref ln)])) rfl (by rw [hml]; rfl) (Steps.refl _) (argsL := [(.int 4)]) (rest := []) (lenOf pd_23 rfl) rfl (own_z rfl) (hb hby d42_35) (fun _ _ => ⟨rfl, eh2, (ol rfl), (ol rfl)⟩)
 dsimp only [Pt.U, Pt.locs, Pt.cells, Pt.slots] at X3 l3 y3 z3 st3 hQ3
 subst l3 y3 z3
 obtain ⟨rfl, N3q, eh3⟩ := hQ3
 have N3 := Fr.app N2 N3q
 refine ot (S' := T3.setTop (mkF m 38 lv1 [(.int c2)])) st3 ?_
 let lv4 : Array Slot := #[vR x0, vR ln, vR sb, vI 4, vI c2]
 refine oo (S' := T3.setTop (mkF m 40 lv4 [])) (fun _ kK => XS.istore X3.here hx rfl (hb hby d42_38) rfl (l' := lv4) rfl kK) ?_
 rcases own_kind c2 with hbl | hpa | hot
 ·refine oo (S' := T3.setTop (mkF m 68 lv4 [])) (fun _ kK => Or.elim hbl (fun hz => XS.iload X3.here hx rfl (hb hby d42_40) rfl (XS.bipush X3.here hx rfl (hb hby d42_42) (XS.icmpYes X3.here hx rfl (pc0 := 44) (pc' := 68) rfl (hb hby d42_44) rfl (teq (hz)).1 (by decide) (by decide) kK))) (fun hz => XS.iload X3.here hx rfl (hb hby d42_40) rfl (XS.bipush X3.here hx rfl (hb hby d42_42) (XS.icmpNo X3.here hx rfl (hb hby d42_44) rfl (feq ((fun q => absurd (hz.symm.trans q) (by decide)))).1 (XS.iload X3.here hx rfl (hb hby d42_47) rfl (XS.bipush X3.here hx rfl (hb hby d42_49) (XS.icmpYes X3.here hx rfl (pc0 := 51) (pc' := 68) rfl (hb hby d42_51) rfl (teq (hz)).1 (by decide) (by decide) kK))))))) ?_
  refine oo (S' := T3.setTop (mkF m 70 lv4 [(.ref sb), (.ref x0)])) (fun _ kK => XS.aloadN X3.here hx rfl (hb hby d42_68) rfl rfl (XS.aloadN X3.here hx rfl (hb hby d42_69) rfl rfl kK)) ?_
  obtain ⟨cq5, kq5, q5a, q5b, cc5, q5d, -, q5e⟩ := isOf hZ eh3 J0
  obtain ⟨_, _, ⟨T5, L5, k5, n5⟩, -, X5, ⟨Lc5, hQ5, l5, y5, z5⟩, st5⟩ := X3.privateBack hx (y := own_m41) hown (mvT hZ (w_ G 154 rfl)) (mvT hZ (w_ G 155 rfl)) (own_selP (oI (mvT hZ (w_ G 254 rfl)) rfl) (mvT hZ (w_ G 155 rfl)) (Cond.privateMethod_at (args := #[]) (mvT hZ (w_ G 156 rfl))) (by decide)) (Cond.privateMethod_at (args := #[]) (mvT hZ (w_ G 156 rfl))) (mvT hZ (w_ G 157 rfl)) (by decide) (backOf (W := 0) (rmtan l Z a0 G [] x0 sb hJ n0 OJ J7 J10) hZ (w_ G 157 rfl) (w_ G 35 rfl) (by decide) (by decide)) (g := (mkF m 70 lv4 [(.ref sb), (.ref x0)])) rfl (by rw [hml]; rfl) (Steps.refl _) q5d (own_nost q5e) (argsL := [(.ref sb)]) (rest := []) (lenOf pd_13 rfl) rfl (own_z rfl) (hb hby d42_70) (fun _ _ => ⟨rfl, eh3, (ol rfl), (ol rfl)⟩)
  dsimp only [Pt.U, Pt.locs, Pt.cells, Pt.slots] at X5 l5 y5 z5 st5 hQ5
  subst l5 y5 z5
  obtain ⟨rfl, N5q, eh5⟩ := hQ5
  have N5 := Fr.app N3 N5q
  refine ot (S' := T5.setTop (mkF m 73 lv4 [])) st5 ?_
  let lv6 : Array Slot := #[vR x0, vR ln, vR sb, vI 5, vI c2]
  refine oo (S' := T5.setTop (mkF m 27 lv6 [(.ref ln), (.int 5)])) (fun _ kK => XS.iload X5.here hx rfl (hb hby d42_73) rfl (XS.bipush X5.here hx rfl (hb hby d42_75) (XS.icmpNo X5.here hx rfl (hb hby d42_77) rfl (feq ((own_b40 hbl))).1 (XS.iload X5.here hx rfl (hb hby d42_80) rfl (XS.bipush X5.here hx rfl (hb hby d42_82) (XS.icmpYes X5.here hx rfl (pc0 := 84) (pc' := 112) rfl (hb hby d42_84) rfl (feq ((own_b41 hbl))).2 (by decide) (by decide) (XS.iinc X5.here hx rfl (hb hby d42_112) rfl (l' := lv6) rfl (XS.goto X5.here hx rfl (pc0 := 115) (pc' := 25) rfl (hb hby d42_115) (by decide) (by decide) (XS.iloadN X5.here hx rfl (hb hby d42_25) rfl (XS.aloadN X5.here hx rfl (hb hby d42_26) rfl rfl kK)))))))))) ?_
  obtain ⟨cq7, kq7, q7a, q7b, q7c⟩ := isOf hZ eh5 J3
  obtain ⟨_, _, ⟨T7, L7, k7, n7⟩, -, X7, ⟨Lc7, hQ7, l7, y7, z7⟩, st7⟩ := X5.virtualBack hx (y := own_m4) (z := own_m4) hown (mvT hZ (w_ G 100 rfl)) (mvT hZ (w_ G 101 rfl)) (notFace_of_selects (args := #[]) (mvT hZ (w_ G 103 rfl))) (mvT hZ (w_ G 103 rfl)) (mvT hZ (w_ G 102 rfl)) (by decide) (backOf (W := 1) (rmln0 l Z a0 G [] ln lt kl (5 : Int32) ((([c0, s0, c1, s1, c2] : List Int32).map (fun c => c.toInt8.toInt32)).map Value.int) (.int 0) hJ n0 OJ J3 J4 J5 J6) hZ (w_ G 104 rfl) (w_ G 9 rfl) (by decide) (by decide)) q7a q7c (g := (mkF m 27 lv6 [(.ref ln), (.int 5)])) rfl (by rw [hml]; rfl) (Steps.refl _) (argsL := []) (rest := [(.int 5)]) (lenOf pd_8 rfl) rfl (own_z rfl) (hb hby d42_27) (fun _ _ => ⟨rfl, eh5, (ol rfl), (ol rfl)⟩)
  dsimp only [Pt.U, Pt.locs, Pt.cells, Pt.slots] at X7 l7 y7 z7 st7 hQ7
  subst l7 y7 z7
  obtain ⟨rfl, N7q, eh7⟩ := hQ7
  have N7 := Fr.app N5 N7q
  refine ot (S' := T7.setTop (mkF m 30 lv6 [(.int 5), (.int 5)])) st7 ?_
  refine oo (S' := T7.setTop (mkF m 120 lv6 [(.ref sb), (.ref x0)])) (fun _ kK => XS.icmpYes X7.here hx rfl (pc0 := 30) (pc' := 118) rfl (hb hby d42_30) rfl (flt ((by decide : ¬ ((5 : Int32) < (5 : Int32))))).2.1 (by decide) (by decide) (XS.aloadN X7.here hx rfl (hb hby d42_118) rfl rfl (XS.aloadN X7.here hx rfl (hb hby d42_119) rfl rfl kK))) ?_
  obtain ⟨cq8, kq8, q8a, q8b, cc8, q8d, -, q8e⟩ := isOf hZ eh7 J0
  obtain ⟨_, _, ⟨T8, L8, k8, n8⟩, -, X8, ⟨Lc8, hQ8, l8, y8, z8⟩, st8⟩ := X7.privateBack hx (y := own_m41) hown (mvT hZ (w_ G 154 rfl)) (mvT hZ (w_ G 155 rfl)) (own_selP (oI (mvT hZ (w_ G 254 rfl)) rfl) (mvT hZ (w_ G 155 rfl)) (Cond.privateMethod_at (args := #[]) (mvT hZ (w_ G 156 rfl))) (by decide)) (Cond.privateMethod_at (args := #[]) (mvT hZ (w_ G 156 rfl))) (mvT hZ (w_ G 157 rfl)) (by decide) (backOf (W := 0) (rmtan l Z a0 G [] x0 sb hJ n0 OJ J7 J10) hZ (w_ G 157 rfl) (w_ G 35 rfl) (by decide) (by decide)) (g := (mkF m 120 lv6 [(.ref sb), (.ref x0)])) rfl (by rw [hml]; rfl) (Steps.refl _) q8d (own_nost q8e) (argsL := [(.ref sb)]) (rest := []) (lenOf pd_13 rfl) rfl (own_z rfl) (hb hby d42_120) (fun _ _ => ⟨rfl, eh7, (ol rfl), (ol rfl)⟩)
  dsimp only [Pt.U, Pt.locs, Pt.cells, Pt.slots] at X8 l8 y8 z8 st8 hQ8
  subst l8 y8 z8
  obtain ⟨rfl, N8q, eh8⟩ := hQ8
  have N8 := Fr.app N7 N8q
  refine ot (S' := T8.setTop (mkF m 123 lv6 [])) st8 ?_
  refine OwnEnd.ret X8 (v := none) (fun _ => rfl) hlk (fun fs hr => X8.returnOut hx Bd.returns (hb hby d42_123) hr) (by decide) (by decide) (Q := (own_Qtok Z x0 c0 c1 c2 aD) h0 n0) eh8 ?_
  exact ⟨rfl, N8, KJ, J0, lst, mc, J1, J2, J13, (by omega), J14, Or.inl ⟨(J25).trans (by rw [own_nb_b hbl]; rfl), J15, J16⟩⟩
 ·refine oo (S' := T3.setTop (mkF m 68 lv4 [])) (fun _ kK => Or.elim hpa (fun hz => XS.iload X3.here hx rfl (hb hby d42_40) rfl (XS.bipush X3.here hx rfl (hb hby d42_42) (XS.icmpNo X3.here hx rfl (hb hby d42_44) rfl (feq ((fun q => absurd (hz.symm.trans q) (by decide)))).1 (XS.iload X3.here hx rfl (hb hby d42_47) rfl (XS.bipush X3.here hx rfl (hb hby d42_49) (XS.icmpNo X3.here hx rfl (hb hby d42_51) rfl (feq ((fun q => absurd (hz.symm.trans q) (by decide)))).1 (XS.iload X3.here hx rfl (hb hby d42_54) rfl (XS.bipush X3.here hx rfl (hb hby d42_56) (XS.icmpYes X3.here hx rfl (pc0 := 58) (pc' := 68) rfl (hb hby d42_58) rfl (teq (hz)).1 (by decide) (by decide) kK))))))))) (fun hz => XS.iload X3.here hx rfl (hb hby d42_40) rfl (XS.bipush X3.here hx rfl (hb hby d42_42) (XS.icmpNo X3.here hx rfl (hb hby d42_44) rfl (feq ((fun q => absurd (hz.symm.trans q) (by decide)))).1 (XS.iload X3.here hx rfl (hb hby d42_47) rfl (XS.bipush X3.here hx rfl (hb hby d42_49) (XS.icmpNo X3.here hx rfl (hb hby d42_51) rfl (feq ((fun q => absurd (hz.symm.trans q) (by decide)))).1 (XS.iload X3.here hx rfl (hb hby d42_54) rfl (XS.bipush X3.here hx rfl (hb hby d42_56) (XS.icmpNo X3.here hx rfl (hb hby d42_58) rfl (feq ((fun q => absurd (hz.symm.trans q) (by decide)))).1 (XS.iload X3.here hx rfl (hb hby d42_61) rfl (XS.bipush X3.here hx rfl (hb hby d42_63) (XS.icmpNo X3.here hx rfl (hb hby d42_65) rfl (teq (hz)).2 kK))))))))))))) ?_
  refine oo (S' := T3.setTop (mkF m 70 lv4 [(.ref sb), (.ref x0)])) (fun _ kK => XS.aloadN X3.here hx rfl (hb hby d42_68) rfl rfl (XS.aloadN X3.here hx rfl (hb hby d42_69) rfl rfl kK)) ?_
  obtain ⟨cq9, kq9, q9a, q9b, cc9, q9d, -, q9e⟩ := isOf hZ eh3 J0
  obtain ⟨_, _, ⟨T9, L9, k9, n9⟩, -, X9, ⟨Lc9, hQ9, l9, y9, z9⟩, st9⟩ := X3.privateBack hx (y := own_m41) hown (mvT hZ (w_ G 154 rfl)) (mvT hZ (w_ G 155 rfl)) (own_selP (oI (mvT hZ (w_ G 254 rfl)) rfl) (mvT hZ (w_ G 155 rfl)) (Cond.privateMethod_at (args := #[]) (mvT hZ (w_ G 156 rfl))) (by decide)) (Cond.privateMethod_at (args := #[]) (mvT hZ (w_ G 156 rfl))) (mvT hZ (w_ G 157 rfl)) (by decide) (backOf (W := 0) (rmtan l Z a0 G [] x0 sb hJ n0 OJ J7 J10) hZ (w_ G 157 rfl) (w_ G 35 rfl) (by decide) (by decide)) (g := (mkF m 70 lv4 [(.ref sb), (.ref x0)])) rfl (by rw [hml]; rfl) (Steps.refl _) q9d (own_nost q9e) (argsL := [(.ref sb)]) (rest := []) (lenOf pd_13 rfl) rfl (own_z rfl) (hb hby d42_70) (fun _ _ => ⟨rfl, eh3, (ol rfl), (ol rfl)⟩)
  dsimp only [Pt.U, Pt.locs, Pt.cells, Pt.slots] at X9 l9 y9 z9 st9 hQ9
  subst l9 y9 z9
  obtain ⟨rfl, N9q, eh9⟩ := hQ9
  have N9 := Fr.app N3 N9q
  refine ot (S' := T9.setTop (mkF m 73 lv4 [])) st9 ?_
  refine oo (S' := T9.setTop (mkF m 87 lv4 [])) (fun _ kK => Or.elim hpa (fun hz => XS.iload X9.here hx rfl (hb hby d42_73) rfl (XS.bipush X9.here hx rfl (hb hby d42_75) (XS.icmpYes X9.here hx rfl (pc0 := 77) (pc' := 87) rfl (hb hby d42_77) rfl (teq (hz)).1 (by decide) (by decide) kK))) (fun hz => XS.iload X9.here hx rfl (hb hby d42_73) rfl (XS.bipush X9.here hx rfl (hb hby d42_75) (XS.icmpNo X9.here hx rfl (hb hby d42_77) rfl (feq ((fun q => absurd (hz.symm.trans q) (by decide)))).1 (XS.iload X9.here hx rfl (hb hby d42_80) rfl (XS.bipush X9.here hx rfl (hb hby d42_82) (XS.icmpNo X9.here hx rfl (hb hby d42_84) rfl (teq (hz)).2 kK))))))) ?_
  refine oo (S' := T9.setTop (mkF m 88 lv4 [(.ref x0)])) (fun _ kK => XS.aloadN X9.here hx rfl (hb hby d42_87) rfl rfl kK) ?_
  obtain ⟨T10, X10, e10, st10⟩ := getF X9 hx hZ hown (host := "") (Or.inl (w_ G 80 rfl)) Via.refl eh9 J1 (g := (mkF m 88 lv4 [(.ref x0)])) rfl rfl (hb hby d42_88)
  refine oo (S' := T10.setTop (mkF m 91 lv4 [(.ref lst)])) st10 ?_
  refine oo (S' := T10.setTop (mkF m 93 lv4 [(.int c2), (.ref lst)])) (fun _ kK => XS.iload X10.here hx rfl (hb hby d42_91) rfl kK) ?_
  obtain ⟨_, _, ⟨T11, L11, k11, n11⟩, -, X11, ⟨Lc11, hQ11, l11, y11, z11⟩, st11⟩ := Jvm.LawKit.callS X10 hx (y := own_m28) hown (mvT hZ (w_ G 298 rfl)) (mvT hZ (w_ G 8 rfl)) (mvT hZ (w_ G 9 rfl)) (mvT hZ (w_ G 10 rfl)) (by decide) (backOf (W := 1) (rmvo l Z a0 G [] c2 hJ n0 OJ (P10 c2 (by simp))) hZ (w_ G 10 rfl) (w_ G 9 rfl) (by decide) (by decide)) (g := (mkF m 93 lv4 [(.int c2), (.ref lst)])) rfl (by rw [hml]; rfl) (argsL := [(.int c2)]) (rest := [(.ref lst)]) (lenOf pd_24 rfl) rfl (own_z rfl) (hb hby d42_93) (fun _ _ => ⟨rfl, e10, (ol rfl), (ol rfl)⟩)
  dsimp only [Pt.U, Pt.locs, Pt.cells, Pt.slots] at X11 l11 y11 z11 st11 hQ11
  subst l11 y11 z11
  obtain ⟨x_11, t_11, kb_11, rfl, N11q, Kq11, r11_0, r11_1, r11_2, r11_3, r11_4, r11_5⟩ := hQ11
  have N11 := Fr.app N9 N11q
  have sz12 := Kq11.1
  have K12 := KJ.trans Kq11 (own_all0 )
  have O12 := OJ.keep Kq11 (own_all0 )
  have ltr11_0 := lN r11_0.lt
  have ltr11_1 := lN r11_1.lt
  have ltr11_2 := lN r11_2.lt
  have ltr11_3 := lN r11_3.lt
  refine oo (S' := T11.setTop (mkF m 96 lv4 [(.ref x_11), (.ref lst)])) st11 ?_
  have f13 := (J13.keep Kq11)
  have f14 := (J14.keep Kq11 nin0)
  have f15 := (J15.keep Kq11 nin0)
  have f16 := (J16.keep Kq11 nin0)
  obtain ⟨cq17, kq17, q17a, q17b, q17c⟩ := isOf hZ rfl f13
  obtain ⟨_, _, ⟨T17, L17, k17, n17⟩, -, X17, ⟨Lc17, hQ17, l17, y17, z17⟩, st17⟩ := X11.interfaceBack hx (xi := own_m42) (y := own_m36) hown (mvT hZ (w_ G 205 rfl)) (mvT hZ (w_ G 206 rfl)) (mvT hZ (w_ G 207 rfl)) (mvT hZ (w_ G 208 rfl)) (mvT hZ (w_ G 209 rfl)) (mvT hZ (w_ G 210 rfl)) (mvT hZ (w_ G 211 rfl)) (mvT hZ (w_ G 212 rfl)) (by decide) (backOf (W := 0) (rmal0 l Z a0 G [] lst mc x_11 aD kD T11.heap n0 O12 f13 f14 f15 f16 r11_0 (by omega) P13 P14) hZ (w_ G 213 rfl) (w_ G 58 rfl) (by decide) (by decide)) q17a q17b q17c (g := (mkF m 96 lv4 [(.ref x_11), (.ref lst)])) rfl (by rw [hml]; rfl) (Steps.refl _) (argsL := [(.ref x_11)]) (rest := []) (lenOf pd_22 rfl) rfl (own_z rfl) (hb hby d42_96) (fun _ _ => ⟨rfl, rfl, (ol rfl), (ol rfl)⟩)
  dsimp only [Pt.U, Pt.locs, Pt.cells, Pt.slots] at X17 l17 y17 z17 st17 hQ17
  subst l17 y17 z17
  obtain ⟨ar_17, kA_17, rfl, N17q, Kq17, r17_0, r17_1, r17_2, r17_3, r17_4, r17_5, r17_6⟩ := hQ17
  have N17 := Fr.app N11 N17q
  have sz18 := Kq17.1
  have K18 := K12.trans Kq17 (own_all1 (Or.inr (by omega)))
  have O18 := O12.keep Kq17 (own_all1 (by omega))
  have ltr17_0 := lN r17_0.lt
  have ltr17_1 := lN r17_1.lt
  have ltr17_2 := lN r17_2.lt
  have ltr17_3 := lN r17_3.lt
  have ltr17_4 := lN r17_4.lt
  refine ot (S' := T17.setTop (mkF m 101 lv4 [(.int 1)])) st17 ?_
  let lv19 : Array Slot := #[vR x0, vR ln, vR sb, vI 5, vI c2]
  refine oo (S' := T17.setTop (mkF m 27 lv19 [(.ref ln), (.int 5)])) (fun _ kK => XS.pop X17.here hx rfl (hb hby d42_101) rfl rfl (XS.goto X17.here hx rfl (pc0 := 102) (pc' := 112) rfl (hb hby d42_102) (by decide) (by decide) (XS.iinc X17.here hx rfl (hb hby d42_112) rfl (l' := lv19) rfl (XS.goto X17.here hx rfl (pc0 := 115) (pc' := 25) rfl (hb hby d42_115) (by decide) (by decide) (XS.iloadN X17.here hx rfl (hb hby d42_25) rfl (XS.aloadN X17.here hx rfl (hb hby d42_26) rfl rfl kK)))))) ?_
  have f20 := ((J3.keep Kq11).keep Kq17)
  have f21 := ((J4.keep Kq11 nin0).keep Kq17 (own_nin1 (on (by omega))))
  have f22 := ((J5.keep Kq11 nin0).keep Kq17 (own_nin1 (on (by omega))))
  have f23 := ((J6.keep Kq11 nin0).keep Kq17 (own_nin1 (on (by omega))))
  obtain ⟨cq24, kq24, q24a, q24b, q24c⟩ := isOf hZ rfl f20
  obtain ⟨_, _, ⟨T24, L24, k24, n24⟩, -, X24, ⟨Lc24, hQ24, l24, y24, z24⟩, st24⟩ := X17.virtualBack hx (y := own_m4) (z := own_m4) hown (mvT hZ (w_ G 100 rfl)) (mvT hZ (w_ G 101 rfl)) (notFace_of_selects (args := #[]) (mvT hZ (w_ G 103 rfl))) (mvT hZ (w_ G 103 rfl)) (mvT hZ (w_ G 102 rfl)) (by decide) (backOf (W := 1) (rmln0 l Z a0 G [] ln lt kl (5 : Int32) ((([c0, s0, c1, s1, c2] : List Int32).map (fun c => c.toInt8.toInt32)).map Value.int) (.int 0) T17.heap n0 O18 f20 f21 f22 f23) hZ (w_ G 104 rfl) (w_ G 9 rfl) (by decide) (by decide)) q24a q24c (g := (mkF m 27 lv19 [(.ref ln), (.int 5)])) rfl (by rw [hml]; rfl) (Steps.refl _) (argsL := []) (rest := [(.int 5)]) (lenOf pd_8 rfl) rfl (own_z rfl) (hb hby d42_27) (fun _ _ => ⟨rfl, rfl, (ol rfl), (ol rfl)⟩)
  dsimp only [Pt.U, Pt.locs, Pt.cells, Pt.slots] at X24 l24 y24 z24 st24 hQ24
  subst l24 y24 z24
  obtain ⟨rfl, N24q, eh24⟩ := hQ24
  have N24 := Fr.app N17 N24q
  refine ot (S' := T24.setTop (mkF m 30 lv19 [(.int 5), (.int 5)])) st24 ?_
  refine oo (S' := T24.setTop (mkF m 120 lv19 [(.ref sb), (.ref x0)])) (fun _ kK => XS.icmpYes X24.here hx rfl (pc0 := 30) (pc' := 118) rfl (hb hby d42_30) rfl (flt ((by decide : ¬ ((5 : Int32) < (5 : Int32))))).2.1 (by decide) (by decide) (XS.aloadN X24.here hx rfl (hb hby d42_118) rfl rfl (XS.aloadN X24.here hx rfl (hb hby d42_119) rfl rfl kK))) ?_
  have f25 := ((J7.keep Kq11).keep Kq17)
  have f26 := ((J10.keep Kq11 nin0).keep Kq17 (own_nin1 (on (by omega))))
  have f28 := ((J0.keep Kq11).keep Kq17)
  obtain ⟨cq27, kq27, q27a, q27b, cc27, q27d, -, q27e⟩ := isOf hZ eh24 f28
  obtain ⟨_, _, ⟨T27, L27, k27, n27⟩, -, X27, ⟨Lc27, hQ27, l27, y27, z27⟩, st27⟩ := X24.privateBack hx (y := own_m41) hown (mvT hZ (w_ G 154 rfl)) (mvT hZ (w_ G 155 rfl)) (own_selP (oI (mvT hZ (w_ G 254 rfl)) rfl) (mvT hZ (w_ G 155 rfl)) (Cond.privateMethod_at (args := #[]) (mvT hZ (w_ G 156 rfl))) (by decide)) (Cond.privateMethod_at (args := #[]) (mvT hZ (w_ G 156 rfl))) (mvT hZ (w_ G 157 rfl)) (by decide) (backOf (W := 0) (rmtan l Z a0 G [] x0 sb T17.heap n0 O18 f25 f26) hZ (w_ G 157 rfl) (w_ G 35 rfl) (by decide) (by decide)) (g := (mkF m 120 lv19 [(.ref sb), (.ref x0)])) rfl (by rw [hml]; rfl) (Steps.refl _) q27d (own_nost q27e) (argsL := [(.ref sb)]) (rest := []) (lenOf pd_13 rfl) rfl (own_z rfl) (hb hby d42_120) (fun _ _ => ⟨rfl, eh24, (ol rfl), (ol rfl)⟩)
  dsimp only [Pt.U, Pt.locs, Pt.cells, Pt.slots] at X27 l27 y27 z27 st27 hQ27
  subst l27 y27 z27
  obtain ⟨rfl, N27q, eh27⟩ := hQ27
  have N27 := Fr.app N24 N27q
  refine ot (S' := T27.setTop (mkF m 123 lv19 [])) st27 ?_
  have f29 := ((J1.keep Kq11 nin0).keep Kq17 (own_nin1 (on (by omega))))
  have f30 := ((J2.keep Kq11 nin0).keep Kq17 (own_nin1 (on (by omega))))
  have f31 := (r11_0.keep Kq17)
  have f32 := (r11_1.keep Kq17 (own_nin1 (on (by omega))))
  have f33 := (r11_2.keep Kq17 (own_nin1 (on (by omega))))
  have f34 := (r11_3.keep Kq17 (own_nin1 (on (by omega))))
  refine OwnEnd.ret X27 (v := none) (fun _ => rfl) hlk (fun fs hr => X27.returnOut hx Bd.returns (hb hby d42_123) hr) (by decide) (by decide) (Q := (own_Qtok Z x0 c0 c1 c2 aD) h0 n0) eh27 ?_
  exact ⟨rfl, N27, K18, f28, lst, (mc + (1 : Int32)), f29, f30, r17_0, (by omega), r17_1, Or.inr (Or.inl ⟨c2, ar_17, kA_17, x_11, t_11, kb_11, (J25).trans (by rw [own_nb_n (own_p32 hpa) (own_p9 hpa)]; rfl), r17_2, r17_3, r17_4, (by omega), f31, f32, f33, f34, (by omega), (by omega)⟩)⟩
 ·refine oo (S' := T3.setTop (mkF m 108 lv4 [(.int c2), (.ref sb)])) (fun _ kK => XS.iload X3.here hx rfl (hb hby d42_40) rfl (XS.bipush X3.here hx rfl (hb hby d42_42) (XS.icmpNo X3.here hx rfl (hb hby d42_44) rfl (feq (hot.1)).1 (XS.iload X3.here hx rfl (hb hby d42_47) rfl (XS.bipush X3.here hx rfl (hb hby d42_49) (XS.icmpNo X3.here hx rfl (hb hby d42_51) rfl (feq (hot.2.1)).1 (XS.iload X3.here hx rfl (hb hby d42_54) rfl (XS.bipush X3.here hx rfl (hb hby d42_56) (XS.icmpNo X3.here hx rfl (hb hby d42_58) rfl (feq (hot.2.2.1)).1 (XS.iload X3.here hx rfl (hb hby d42_61) rfl (XS.bipush X3.here hx rfl (hb hby d42_63) (XS.icmpYes X3.here hx rfl (pc0 := 65) (pc' := 105) rfl (hb hby d42_65) rfl (feq (hot.2.2.2)).2 (by decide) (by decide) (XS.aloadN X3.here hx rfl (hb hby d42_105) rfl rfl (XS.iload X3.here hx rfl (hb hby d42_106) rfl kK)))))))))))))) ?_
  obtain ⟨cq35, kq35, q35a, q35b, q35c⟩ := isOf hZ eh3 J7
  obtain ⟨_, _, ⟨T35, L35, k35, n35⟩, -, X35, ⟨Lc35, hQ35, l35, y35, z35⟩, st35⟩ := X3.virtualBack hx (y := own_m13) (z := own_m13) hown (mvT hZ (w_ G 131 rfl)) (mvT hZ (w_ G 132 rfl)) (notFace_of_selects (args := #[]) (mvT hZ (w_ G 134 rfl))) (mvT hZ (w_ G 134 rfl)) (mvT hZ (w_ G 133 rfl)) (by decide) (backOf (W := 0) (rmsbc l Z a0 G [] sb vb kv g ml c2 hJ n0 OJ J7 J8 J9 J10 J11 J12 (P10 c2 (by simp)) (by omega) (by omega) (on (by omega))) hZ (w_ G 135 rfl) (w_ G 84 rfl) (by decide) (by decide)) q35a q35c (g := (mkF m 108 lv4 [(.int c2), (.ref sb)])) rfl (by rw [hml]; rfl) (Steps.refl _) (argsL := [(.int c2)]) (rest := []) (lenOf pd_25 rfl) rfl (own_z rfl) (hb hby d42_108) (fun _ _ => ⟨rfl, eh3, (ol rfl), (ol rfl)⟩)
  dsimp only [Pt.U, Pt.locs, Pt.cells, Pt.slots] at X35 l35 y35 z35 st35 hQ35
  subst l35 y35 z35
  obtain ⟨rfl, N35q, Kq35, r35_0, r35_1, r35_2, r35_3, r35_4, r35_5⟩ := hQ35
  have N35 := Fr.app N3 N35q
  have sz36 := Kq35.1
  have K36 := KJ.trans Kq35 (own_all2 (Or.inr (by omega)) (Or.inr (by omega)))
  have O36 := OJ.keep Kq35 (own_all2 (by omega) (by omega))
  have ltr35_0 := lN r35_0.lt
  have ltr35_1 := lN r35_1.lt
  have ltr35_2 := lN r35_2.lt
  have ltr35_3 := lN r35_3.lt
  have ltr35_4 := lN r35_4.lt
  have ltr35_5 := lN r35_5.lt
  refine ot (S' := T35.setTop (mkF m 111 lv4 [(.ref sb)])) st35 ?_
  let lv37 : Array Slot := #[vR x0, vR ln, vR sb, vI 5, vI c2]
  refine oo (S' := T35.setTop (mkF m 27 lv37 [(.ref ln), (.int 5)])) (fun _ kK => XS.pop X35.here hx rfl (hb hby d42_111) rfl rfl (XS.iinc X35.here hx rfl (hb hby d42_112) rfl (l' := lv37) rfl (XS.goto X35.here hx rfl (pc0 := 115) (pc' := 25) rfl (hb hby d42_115) (by decide) (by decide) (XS.iloadN X35.here hx rfl (hb hby d42_25) rfl (XS.aloadN X35.here hx rfl (hb hby d42_26) rfl rfl kK))))) ?_
  have f38 := (J3.keep Kq35)
  have f39 := (J4.keep Kq35 (own_nin2 (on (by omega)) (on (by omega))))
  have f40 := (J5.keep Kq35 (own_nin2 (on (by omega)) (on (by omega))))
  have f41 := (J6.keep Kq35 (own_nin2 (on (by omega)) (on (by omega))))
  obtain ⟨cq42, kq42, q42a, q42b, q42c⟩ := isOf hZ rfl f38
  obtain ⟨_, _, ⟨T42, L42, k42, n42⟩, -, X42, ⟨Lc42, hQ42, l42, y42, z42⟩, st42⟩ := X35.virtualBack hx (y := own_m4) (z := own_m4) hown (mvT hZ (w_ G 100 rfl)) (mvT hZ (w_ G 101 rfl)) (notFace_of_selects (args := #[]) (mvT hZ (w_ G 103 rfl))) (mvT hZ (w_ G 103 rfl)) (mvT hZ (w_ G 102 rfl)) (by decide) (backOf (W := 1) (rmln0 l Z a0 G [] ln lt kl (5 : Int32) ((([c0, s0, c1, s1, c2] : List Int32).map (fun c => c.toInt8.toInt32)).map Value.int) (.int 0) T35.heap n0 O36 f38 f39 f40 f41) hZ (w_ G 104 rfl) (w_ G 9 rfl) (by decide) (by decide)) q42a q42c (g := (mkF m 27 lv37 [(.ref ln), (.int 5)])) rfl (by rw [hml]; rfl) (Steps.refl _) (argsL := []) (rest := [(.int 5)]) (lenOf pd_8 rfl) rfl (own_z rfl) (hb hby d42_27) (fun _ _ => ⟨rfl, rfl, (ol rfl), (ol rfl)⟩)
  dsimp only [Pt.U, Pt.locs, Pt.cells, Pt.slots] at X42 l42 y42 z42 st42 hQ42
  subst l42 y42 z42
  obtain ⟨rfl, N42q, eh42⟩ := hQ42
  have N42 := Fr.app N35 N42q
  refine ot (S' := T42.setTop (mkF m 30 lv37 [(.int 5), (.int 5)])) st42 ?_
  refine oo (S' := T42.setTop (mkF m 120 lv37 [(.ref sb), (.ref x0)])) (fun _ kK => XS.icmpYes X42.here hx rfl (pc0 := 30) (pc' := 118) rfl (hb hby d42_30) rfl (flt ((by decide : ¬ ((5 : Int32) < (5 : Int32))))).2.1 (by decide) (by decide) (XS.aloadN X42.here hx rfl (hb hby d42_118) rfl rfl (XS.aloadN X42.here hx rfl (hb hby d42_119) rfl rfl kK))) ?_
  have f43 := (J1.keep Kq35 (own_nin2 (on (by omega)) (on (by omega))))
  have f44 := (J13.keep Kq35)
  have f45 := (J14.keep Kq35 (own_nin2 (on (by omega)) (on (by omega))))
  have f46 := (J15.keep Kq35 (own_nin2 (on (by omega)) (on (by omega))))
  have f47 := (J16.keep Kq35 (own_nin2 (on (by omega)) (on (by omega))))
  have f49 := (J0.keep Kq35)
  obtain ⟨cq48, kq48, q48a, q48b, cc48, q48d, -, q48e⟩ := isOf hZ eh42 f49
  obtain ⟨_, _, ⟨T48, L48, k48, n48⟩, -, X48, ⟨Lc48, hQ48, l48, y48, z48⟩, st48⟩ := X42.privateBack hx (y := own_m41) hown (mvT hZ (w_ G 154 rfl)) (mvT hZ (w_ G 155 rfl)) (own_selP (oI (mvT hZ (w_ G 254 rfl)) rfl) (mvT hZ (w_ G 155 rfl)) (Cond.privateMethod_at (args := #[]) (mvT hZ (w_ G 156 rfl))) (by decide)) (Cond.privateMethod_at (args := #[]) (mvT hZ (w_ G 156 rfl))) (mvT hZ (w_ G 157 rfl)) (by decide) (backOf (W := 0) (rmta0 l Z a0 G [] x0 lst mc sb vb kv (.int (StrChars.lo8 c2)) ml aD kD T35.heap n0 O36 f43 r35_0 r35_1 r35_2 r35_3 r35_4 r35_5 f44 f45 f46 f47 (by omega) (by omega) (by omega) P13 P14 (on (by omega)) (on (by omega)) (on (by omega))) hZ (w_ G 157 rfl) (w_ G 35 rfl) (by decide) (by decide)) (g := (mkF m 120 lv37 [(.ref sb), (.ref x0)])) rfl (by rw [hml]; rfl) (Steps.refl _) q48d (own_nost q48e) (argsL := [(.ref sb)]) (rest := []) (lenOf pd_13 rfl) rfl (own_z rfl) (hb hby d42_120) (fun _ _ => ⟨rfl, eh42, (ol rfl), (ol rfl)⟩)
  dsimp only [Pt.U, Pt.locs, Pt.cells, Pt.slots] at X48 l48 y48 z48 st48 hQ48
  subst l48 y48 z48
  obtain ⟨y_48, t_48, kb_48, ar_48, kA_48, rfl, N48q, Kq48, r48_0, r48_1, r48_2, r48_3, r48_4, r48_5, r48_6, r48_7, r48_8, r48_9, r48_10, r48_11, r48_12, r48_13, r48_14, r48_15, r48_16, r48_17, r48_18, r48_19, r48_20⟩ := hQ48
  have N48 := Fr.app N42 N48q
  have sz50 := Kq48.1
  have K50 := K36.trans Kq48 (own_all2 (Or.inr (by omega)) (Or.inr (by omega)))
  have ltr48_0 := lN r48_0.lt
  have ltr48_1 := lN r48_1.lt
  have ltr48_2 := lN r48_2.lt
  have ltr48_3 := lN r48_3.lt
  have ltr48_6 := lN r48_6.lt
  have ltr48_7 := lN r48_7.lt
  have ltr48_8 := lN r48_8.lt
  have ltr48_9 := lN r48_9.lt
  have ltr48_10 := lN r48_10.lt
  have ltr48_15 := lN r48_15.lt
  have ltr48_16 := lN r48_16.lt
  have ltr48_17 := lN r48_17.lt
  have ltr48_18 := lN r48_18.lt
  have ltr48_19 := lN r48_19.lt
  have ltr48_20 := lN r48_20.lt
  refine ot (S' := T48.setTop (mkF m 123 lv37 [])) st48 ?_
  have f51 := (f49.keep Kq48)
  have f52 := (f43.keep Kq48 (own_nin2 (on (by omega)) (on (by omega))))
  have f53 := ((J2.keep Kq35 (own_nin2 (on (by omega)) (on (by omega)))).keep Kq48 (own_nin2 (on (by omega)) (on (by omega))))
  refine OwnEnd.ret X48 (v := none) (fun _ => rfl) hlk (fun fs hr => X48.returnOut hx Bd.returns (hb hby d42_123) hr) (by decide) (by decide) (Q := (own_Qtok Z x0 c0 c1 c2 aD) h0 n0) rfl ?_
  exact ⟨rfl, N48, K50, f51, lst, (mc + (1 : Int32)), f52, f53, r48_6, (by omega), r48_7, Or.inr (Or.inl ⟨c2, ar_48, kA_48, y_48, t_48, kb_48, (J25).trans (by rw [own_nb_n hot.1 hot.2.1]; rfl), r48_8, r48_9, r48_10, (by omega), r48_0, r48_1, r48_2, r48_3, (by omega), (by omega)⟩)⟩

set_option maxRecDepth 65536 in
set_option maxHeartbeats 40000000 in
theorem sft2_1 (l : Launch) (Z : State) (a0 : Array Value) (G : OwnG Z a0) (x0 : Addr) (ln : Addr) (lt : Addr) (kl : ClassId) (tv : Value) (c0 : Int32) (s0 : Int32) (c1 : Int32) (s1 : Int32) (c2 : Int32) (aD : Addr) (kD : ClassId) (h0 : Heap) (n0 : Nat) (O0 : Old Z n0 h0) (P3 : n0 ≤ x0) (P8 : x0 ≠ ln) (P9 : x0 ≠ lt) (P10 : ∀ c ∈ ([c0, s0, c1, s1, c2] : List Int32), ¬ c < (0 : Int32) ∧ ¬ (255 : Int32) < c) (P11 : s0 = (32 : Int32) ∨ s0 = (9 : Int32)) (P12 : s1 = (32 : Int32) ∨ s1 = (9 : Int32)) (P13 : Sta Z Z.heap j2 "DEFAULTCAPACITY_EMPTY_ELEMENTDATA" "[Ljava/lang/Object;" (.ref aD)) (P14 : Arv Z Z.heap aD kD (.object j4) (0 : Int32) [] .null) {p : Program} {e : Env} {s : State} {m : MethodId} {below : List Frame} {meth : Method} {cD : Code} {s₁ : State} {Sp : Spec} (Bd : BodyLoose p l own_m43 Sp B52 5 none e s m #[(.ref x0), (.ref ln)] below meth cD s₁) (hml0 : cD.maxLocals = 5) (hZ : Z.Warmed39 s.vm) {TJ : State} {locs : List Loc} (XJ : Stand p l e (rR 7 33 125 105) s m #[(.ref x0), (.ref ln)] below meth cD TJ locs 30 110) (hJ : Heap) (eJ : TJ.heap = hJ) (KJ : Keep h0 hJ [x0]) (OJ : Old Z n0 hJ) (NJ : Fr n0 locs) (szJ : Array.size h0 ≤ Array.size hJ) (lst : Addr) (mc : Int32) (sb : Addr) (vb : Addr) (kv : ClassId) (g : Value) (ml : Value) (ar : Addr) (kA : ClassId) (tk0 : Int32) (y0 : Addr) (yt0 : Addr) (yk0 : ClassId) (J0 : Exa Z hJ x0 j3) (J1 : Fld Z hJ x0 j3 "tokens" "Ljava/util/List;" (.ref lst)) (J2 : Fld Z hJ x0 j3 "next" "I" (.int 0)) (J3 : Exa Z hJ ln j1) (J4 : Fld Z hJ ln j1 "value" "[B" (.ref lt)) (J5 : Fld Z hJ ln j1 "coder" "B" (.int 0)) (J6 : Arv Z hJ lt kl .byte (5 : Int32) ((([c0, s0, c1, s1, c2] : List Int32).map (fun c => c.toInt8.toInt32)).map Value.int) (.int 0)) (J7 : Exa Z hJ sb j5) (J8 : Fld Z hJ sb j0 "value" "[B" (.ref vb)) (J9 : Fld Z hJ sb j0 "coder" "B" (.int 0)) (J10 : Fld Z hJ sb j0 "count" "I" (.int 0)) (J11 : Fld Z hJ sb j0 "maybeLatin1" "Z" ml) (J12 : Arv Z hJ vb kv .byte (16 : Int32) [g, (.int 0), (.int 0), (.int 0), (.int 0), (.int 0), (.int 0), (.int 0), (.int 0), (.int 0), (.int 0), (.int 0), (.int 0), (.int 0), (.int 0), (.int 0)] (.int 0)) (J13 : Exa Z hJ lst j2) (J14 : Fld Z hJ lst j6 "modCount" "I" (.int mc)) (J15 : Fld Z hJ lst j2 "elementData" "[Ljava/lang/Object;" (.ref ar)) (J16 : Fld Z hJ lst j2 "size" "I" (.int 1)) (J17 : n0 ≤ lst) (J18 : n0 ≤ sb) (J19 : n0 ≤ vb) (J20 : n0 ≤ ar) (J21 : Arv Z hJ ar kA (.object j4) (10 : Int32) [(.ref y0), .null, .null, .null, .null, .null, .null, .null, .null, .null] .null) (J22 : Ovr Z kA j4) (J23 : Exa Z hJ y0 j1) (J24 : Fld Z hJ y0 j1 "value" "[B" (.ref yt0)) (J25 : Fld Z hJ y0 j1 "coder" "B" (.int 0)) (J26 : Arv Z hJ yt0 yk0 .byte (1 : Int32) [(.int (StrChars.lo8 tk0))] (.int 0)) (J27 : Array.size h0 ≤ lst) (J28 : own_ord [lst, sb, vb]) (J29 : own_ord [vb, y0, ar]) (J30 : own_ord [vb, yt0, ar]) (J31 : @LT.lt Nat instLTNat x0 (Array.size h0)) (J32 : @LT.lt Nat instLTNat ln (Array.size h0)) (J33 : @LT.lt Nat instLTNat lt (Array.size h0)) (J34 : own_nb [c0, c1, c2] = tk0 :: own_nb [c2]) :
  OwnEnd p e below (fun o t => ∃ v L, o = .returned v ∧ (own_Qtok Z x0 c0 c1 c2 aD) h0 n0 v t.heap L ∧ FrameEnd s o t L (rR 7 33 125 105).cells (rR 7 33 125 105).slots) (TJ.setTop (mkF m 25 #[vR x0, vR ln, vR sb, vI 4, vI s1] [])) := by
 have hx := Bd.exec
 have hby := Bd.bytes
 have hml : cD.maxLocals = 5 := hml0
 have hown : s.vm.findClass j3 = some m.cls := findClass_of_methodNamed Bd.named
 have hlk := Bd.notSynchronized
 have ltJ0 := lN J0.lt
 have ltJ1 := lN J1.lt
 have ltJ2 := lN J2.lt
 have ltJ3 := lN J3.lt
 have ltJ4 := lN J4.lt
 have ltJ5 := lN J5.lt
 have ltJ6 := lN J6.lt
 have ltJ7 := lN J7.lt
 have ltJ8 := lN J8.lt
 have ltJ9 := lN J9.lt
 have ltJ10 := lN J10.lt
 have ltJ11 := lN J11.lt
 have ltJ12 := lN J12.lt
 have ltJ13 := lN J13.lt
 have ltJ14 := lN J14.lt
 have ltJ15 := lN J15.lt
 have ltJ16 := lN J16.lt
 have ltJ21 := lN J21.lt
 have ltJ23 := lN J23.lt
 have ltJ24 := lN J24.lt
 have ltJ25 := lN J25.lt
 have ltJ26 := lN J26.lt
 have Z0 := own_old_le O0
 have hord := And.intro J28 (And.intro J29 J30)
 simp only [own_ord, and_true] at hord
 have ltD : @LT.lt Nat instLTNat aD n0 := lN (O0.1 ▸ P14.lt)
 let lv1 : Array Slot := #[vR x0, vR ln, vR sb, vI 4, vI s1]
 refine oo (S' := TJ.setTop (mkF m 27 lv1 [(.ref ln), (.int 4)])) (fun _ kK => XS.iloadN XJ.here hx rfl (hb hby d42_25) rfl (XS.aloadN XJ.here hx rfl (hb hby d42_26) rfl rfl kK)) ?_
 obtain ⟨cq2, kq2, q2a, q2b, q2c⟩ := isOf hZ eJ J3
 obtain ⟨_, _, ⟨T2, L2, k2, n2⟩, -, X2, ⟨Lc2, hQ2, l2, y2, z2⟩, st2⟩ := XJ.virtualBack hx (y := own_m4) (z := own_m4) hown (mvT hZ (w_ G 100 rfl)) (mvT hZ (w_ G 101 rfl)) (notFace_of_selects (args := #[]) (mvT hZ (w_ G 103 rfl))) (mvT hZ (w_ G 103 rfl)) (mvT hZ (w_ G 102 rfl)) (by decide) (backOf (W := 1) (rmln0 l Z a0 G [] ln lt kl (5 : Int32) ((([c0, s0, c1, s1, c2] : List Int32).map (fun c => c.toInt8.toInt32)).map Value.int) (.int 0) hJ n0 OJ J3 J4 J5 J6) hZ (w_ G 104 rfl) (w_ G 9 rfl) (by decide) (by decide)) q2a q2c (g := (mkF m 27 lv1 [(.ref ln), (.int 4)])) rfl (by rw [hml]; rfl) (Steps.refl _) (argsL := []) (rest := [(.int 4)]) (lenOf pd_8 rfl) rfl (own_z rfl) (hb hby d42_27) (fun _ _ => ⟨rfl, eJ, (ol rfl), (ol rfl)⟩)
 dsimp only [Pt.U, Pt.locs, Pt.cells, Pt.slots] at X2 l2 y2 z2 st2 hQ2
 subst l2 y2 z2
 obtain ⟨rfl, N2q, eh2⟩ := hQ2
 have N2 := Fr.app NJ N2q
 refine ot (S' := T2.setTop (mkF m 30 lv1 [(.int 5), (.int 4)])) st2 ?_
 refine oo (S' := T2.setTop (mkF m 35 lv1 [(.int 4), (.ref ln)])) (fun _ kK => XS.icmpNo X2.here hx rfl (hb hby d42_30) rfl (tlt ((by decide : (4 : Int32) < (5 : Int32)))).2.1 (XS.aloadN X2.here hx rfl (hb hby d42_33) rfl rfl (XS.iloadN X2.here hx rfl (hb hby d42_34) rfl kK))) ?_
 obtain ⟨cq3, kq3, q3a, q3b, q3c⟩ := isOf hZ eh2 J3
 obtain ⟨_, _, ⟨T3, L3, k3, n3⟩, -, X3, ⟨Lc3, hQ3, l3, y3, z3⟩, st3⟩ := X2.virtualBack hx (y := own_m6) (z := own_m6) hown (mvT hZ (w_ G 110 rfl)) (mvT hZ (w_ G 111 rfl)) (notFace_of_selects (args := #[]) (mvT hZ (w_ G 113 rfl))) (mvT hZ (w_ G 113 rfl)) (mvT hZ (w_ G 112 rfl)) (by decide) (backOf (W := 0) (rmcA0 l Z a0 G [] ln lt kl (5 : Int32) ((([c0, s0, c1, s1, c2] : List Int32).map (fun c => c.toInt8.toInt32)).map Value.int) (.int 0) (4 : Int32) c2 hJ n0 OJ J3 J4 J5 J6 (by decide) (by decide) (by rfl) (P10 c2 (by simp))) hZ (w_ G 114 rfl) (w_ G 9 rfl) (by decide) (by decide)) q3a q3c (g := (mkF m 35 lv1 [(.int 4), (.ref ln)])) rfl (by rw [hml]; rfl) (Steps.refl _) (argsL := [(.int 4)]) (rest := []) (lenOf pd_23 rfl) rfl (own_z rfl) (hb hby d42_35) (fun _ _ => ⟨rfl, eh2, (ol rfl), (ol rfl)⟩)
 dsimp only [Pt.U, Pt.locs, Pt.cells, Pt.slots] at X3 l3 y3 z3 st3 hQ3
 subst l3 y3 z3
 obtain ⟨rfl, N3q, eh3⟩ := hQ3
 have N3 := Fr.app N2 N3q
 refine ot (S' := T3.setTop (mkF m 38 lv1 [(.int c2)])) st3 ?_
 let lv4 : Array Slot := #[vR x0, vR ln, vR sb, vI 4, vI c2]
 refine oo (S' := T3.setTop (mkF m 40 lv4 [])) (fun _ kK => XS.istore X3.here hx rfl (hb hby d42_38) rfl (l' := lv4) rfl kK) ?_
 rcases own_kind c2 with hbl | hpa | hot
 ·refine oo (S' := T3.setTop (mkF m 68 lv4 [])) (fun _ kK => Or.elim hbl (fun hz => XS.iload X3.here hx rfl (hb hby d42_40) rfl (XS.bipush X3.here hx rfl (hb hby d42_42) (XS.icmpYes X3.here hx rfl (pc0 := 44) (pc' := 68) rfl (hb hby d42_44) rfl (teq (hz)).1 (by decide) (by decide) kK))) (fun hz => XS.iload X3.here hx rfl (hb hby d42_40) rfl (XS.bipush X3.here hx rfl (hb hby d42_42) (XS.icmpNo X3.here hx rfl (hb hby d42_44) rfl (feq ((fun q => absurd (hz.symm.trans q) (by decide)))).1 (XS.iload X3.here hx rfl (hb hby d42_47) rfl (XS.bipush X3.here hx rfl (hb hby d42_49) (XS.icmpYes X3.here hx rfl (pc0 := 51) (pc' := 68) rfl (hb hby d42_51) rfl (teq (hz)).1 (by decide) (by decide) kK))))))) ?_
  refine oo (S' := T3.setTop (mkF m 70 lv4 [(.ref sb), (.ref x0)])) (fun _ kK => XS.aloadN X3.here hx rfl (hb hby d42_68) rfl rfl (XS.aloadN X3.here hx rfl (hb hby d42_69) rfl rfl kK)) ?_
  obtain ⟨cq5, kq5, q5a, q5b, cc5, q5d, -, q5e⟩ := isOf hZ eh3 J0
  obtain ⟨_, _, ⟨T5, L5, k5, n5⟩, -, X5, ⟨Lc5, hQ5, l5, y5, z5⟩, st5⟩ := X3.privateBack hx (y := own_m41) hown (mvT hZ (w_ G 154 rfl)) (mvT hZ (w_ G 155 rfl)) (own_selP (oI (mvT hZ (w_ G 254 rfl)) rfl) (mvT hZ (w_ G 155 rfl)) (Cond.privateMethod_at (args := #[]) (mvT hZ (w_ G 156 rfl))) (by decide)) (Cond.privateMethod_at (args := #[]) (mvT hZ (w_ G 156 rfl))) (mvT hZ (w_ G 157 rfl)) (by decide) (backOf (W := 0) (rmtan l Z a0 G [] x0 sb hJ n0 OJ J7 J10) hZ (w_ G 157 rfl) (w_ G 35 rfl) (by decide) (by decide)) (g := (mkF m 70 lv4 [(.ref sb), (.ref x0)])) rfl (by rw [hml]; rfl) (Steps.refl _) q5d (own_nost q5e) (argsL := [(.ref sb)]) (rest := []) (lenOf pd_13 rfl) rfl (own_z rfl) (hb hby d42_70) (fun _ _ => ⟨rfl, eh3, (ol rfl), (ol rfl)⟩)
  dsimp only [Pt.U, Pt.locs, Pt.cells, Pt.slots] at X5 l5 y5 z5 st5 hQ5
  subst l5 y5 z5
  obtain ⟨rfl, N5q, eh5⟩ := hQ5
  have N5 := Fr.app N3 N5q
  refine ot (S' := T5.setTop (mkF m 73 lv4 [])) st5 ?_
  let lv6 : Array Slot := #[vR x0, vR ln, vR sb, vI 5, vI c2]
  refine oo (S' := T5.setTop (mkF m 27 lv6 [(.ref ln), (.int 5)])) (fun _ kK => XS.iload X5.here hx rfl (hb hby d42_73) rfl (XS.bipush X5.here hx rfl (hb hby d42_75) (XS.icmpNo X5.here hx rfl (hb hby d42_77) rfl (feq ((own_b40 hbl))).1 (XS.iload X5.here hx rfl (hb hby d42_80) rfl (XS.bipush X5.here hx rfl (hb hby d42_82) (XS.icmpYes X5.here hx rfl (pc0 := 84) (pc' := 112) rfl (hb hby d42_84) rfl (feq ((own_b41 hbl))).2 (by decide) (by decide) (XS.iinc X5.here hx rfl (hb hby d42_112) rfl (l' := lv6) rfl (XS.goto X5.here hx rfl (pc0 := 115) (pc' := 25) rfl (hb hby d42_115) (by decide) (by decide) (XS.iloadN X5.here hx rfl (hb hby d42_25) rfl (XS.aloadN X5.here hx rfl (hb hby d42_26) rfl rfl kK)))))))))) ?_
  obtain ⟨cq7, kq7, q7a, q7b, q7c⟩ := isOf hZ eh5 J3
  obtain ⟨_, _, ⟨T7, L7, k7, n7⟩, -, X7, ⟨Lc7, hQ7, l7, y7, z7⟩, st7⟩ := X5.virtualBack hx (y := own_m4) (z := own_m4) hown (mvT hZ (w_ G 100 rfl)) (mvT hZ (w_ G 101 rfl)) (notFace_of_selects (args := #[]) (mvT hZ (w_ G 103 rfl))) (mvT hZ (w_ G 103 rfl)) (mvT hZ (w_ G 102 rfl)) (by decide) (backOf (W := 1) (rmln0 l Z a0 G [] ln lt kl (5 : Int32) ((([c0, s0, c1, s1, c2] : List Int32).map (fun c => c.toInt8.toInt32)).map Value.int) (.int 0) hJ n0 OJ J3 J4 J5 J6) hZ (w_ G 104 rfl) (w_ G 9 rfl) (by decide) (by decide)) q7a q7c (g := (mkF m 27 lv6 [(.ref ln), (.int 5)])) rfl (by rw [hml]; rfl) (Steps.refl _) (argsL := []) (rest := [(.int 5)]) (lenOf pd_8 rfl) rfl (own_z rfl) (hb hby d42_27) (fun _ _ => ⟨rfl, eh5, (ol rfl), (ol rfl)⟩)
  dsimp only [Pt.U, Pt.locs, Pt.cells, Pt.slots] at X7 l7 y7 z7 st7 hQ7
  subst l7 y7 z7
  obtain ⟨rfl, N7q, eh7⟩ := hQ7
  have N7 := Fr.app N5 N7q
  refine ot (S' := T7.setTop (mkF m 30 lv6 [(.int 5), (.int 5)])) st7 ?_
  refine oo (S' := T7.setTop (mkF m 120 lv6 [(.ref sb), (.ref x0)])) (fun _ kK => XS.icmpYes X7.here hx rfl (pc0 := 30) (pc' := 118) rfl (hb hby d42_30) rfl (flt ((by decide : ¬ ((5 : Int32) < (5 : Int32))))).2.1 (by decide) (by decide) (XS.aloadN X7.here hx rfl (hb hby d42_118) rfl rfl (XS.aloadN X7.here hx rfl (hb hby d42_119) rfl rfl kK))) ?_
  obtain ⟨cq8, kq8, q8a, q8b, cc8, q8d, -, q8e⟩ := isOf hZ eh7 J0
  obtain ⟨_, _, ⟨T8, L8, k8, n8⟩, -, X8, ⟨Lc8, hQ8, l8, y8, z8⟩, st8⟩ := X7.privateBack hx (y := own_m41) hown (mvT hZ (w_ G 154 rfl)) (mvT hZ (w_ G 155 rfl)) (own_selP (oI (mvT hZ (w_ G 254 rfl)) rfl) (mvT hZ (w_ G 155 rfl)) (Cond.privateMethod_at (args := #[]) (mvT hZ (w_ G 156 rfl))) (by decide)) (Cond.privateMethod_at (args := #[]) (mvT hZ (w_ G 156 rfl))) (mvT hZ (w_ G 157 rfl)) (by decide) (backOf (W := 0) (rmtan l Z a0 G [] x0 sb hJ n0 OJ J7 J10) hZ (w_ G 157 rfl) (w_ G 35 rfl) (by decide) (by decide)) (g := (mkF m 120 lv6 [(.ref sb), (.ref x0)])) rfl (by rw [hml]; rfl) (Steps.refl _) q8d (own_nost q8e) (argsL := [(.ref sb)]) (rest := []) (lenOf pd_13 rfl) rfl (own_z rfl) (hb hby d42_120) (fun _ _ => ⟨rfl, eh7, (ol rfl), (ol rfl)⟩)
  dsimp only [Pt.U, Pt.locs, Pt.cells, Pt.slots] at X8 l8 y8 z8 st8 hQ8
  subst l8 y8 z8
  obtain ⟨rfl, N8q, eh8⟩ := hQ8
  have N8 := Fr.app N7 N8q
  refine ot (S' := T8.setTop (mkF m 123 lv6 [])) st8 ?_
  refine OwnEnd.ret X8 (v := none) (fun _ => rfl) hlk (fun fs hr => X8.returnOut hx Bd.returns (hb hby d42_123) hr) (by decide) (by decide) (Q := (own_Qtok Z x0 c0 c1 c2 aD) h0 n0) eh8 ?_
  exact ⟨rfl, N8, KJ, J0, lst, mc, J1, J2, J13, (by omega), J14, Or.inr (Or.inl ⟨tk0, ar, kA, y0, yt0, yk0, (J34).trans (by rw [own_nb_b hbl]; rfl), J15, J16, J21, (by omega), J23, J24, J25, J26, (by omega), (by omega)⟩)⟩
 ·refine oo (S' := T3.setTop (mkF m 68 lv4 [])) (fun _ kK => Or.elim hpa (fun hz => XS.iload X3.here hx rfl (hb hby d42_40) rfl (XS.bipush X3.here hx rfl (hb hby d42_42) (XS.icmpNo X3.here hx rfl (hb hby d42_44) rfl (feq ((fun q => absurd (hz.symm.trans q) (by decide)))).1 (XS.iload X3.here hx rfl (hb hby d42_47) rfl (XS.bipush X3.here hx rfl (hb hby d42_49) (XS.icmpNo X3.here hx rfl (hb hby d42_51) rfl (feq ((fun q => absurd (hz.symm.trans q) (by decide)))).1 (XS.iload X3.here hx rfl (hb hby d42_54) rfl (XS.bipush X3.here hx rfl (hb hby d42_56) (XS.icmpYes X3.here hx rfl (pc0 := 58) (pc' := 68) rfl (hb hby d42_58) rfl (teq (hz)).1 (by decide) (by decide) kK))))))))) (fun hz => XS.iload X3.here hx rfl (hb hby d42_40) rfl (XS.bipush X3.here hx rfl (hb hby d42_42) (XS.icmpNo X3.here hx rfl (hb hby d42_44) rfl (feq ((fun q => absurd (hz.symm.trans q) (by decide)))).1 (XS.iload X3.here hx rfl (hb hby d42_47) rfl (XS.bipush X3.here hx rfl (hb hby d42_49) (XS.icmpNo X3.here hx rfl (hb hby d42_51) rfl (feq ((fun q => absurd (hz.symm.trans q) (by decide)))).1 (XS.iload X3.here hx rfl (hb hby d42_54) rfl (XS.bipush X3.here hx rfl (hb hby d42_56) (XS.icmpNo X3.here hx rfl (hb hby d42_58) rfl (feq ((fun q => absurd (hz.symm.trans q) (by decide)))).1 (XS.iload X3.here hx rfl (hb hby d42_61) rfl (XS.bipush X3.here hx rfl (hb hby d42_63) (XS.icmpNo X3.here hx rfl (hb hby d42_65) rfl (teq (hz)).2 kK))))))))))))) ?_
  refine oo (S' := T3.setTop (mkF m 70 lv4 [(.ref sb), (.ref x0)])) (fun _ kK => XS.aloadN X3.here hx rfl (hb hby d42_68) rfl rfl (XS.aloadN X3.here hx rfl (hb hby d42_69) rfl rfl kK)) ?_
  obtain ⟨cq9, kq9, q9a, q9b, cc9, q9d, -, q9e⟩ := isOf hZ eh3 J0
  obtain ⟨_, _, ⟨T9, L9, k9, n9⟩, -, X9, ⟨Lc9, hQ9, l9, y9, z9⟩, st9⟩ := X3.privateBack hx (y := own_m41) hown (mvT hZ (w_ G 154 rfl)) (mvT hZ (w_ G 155 rfl)) (own_selP (oI (mvT hZ (w_ G 254 rfl)) rfl) (mvT hZ (w_ G 155 rfl)) (Cond.privateMethod_at (args := #[]) (mvT hZ (w_ G 156 rfl))) (by decide)) (Cond.privateMethod_at (args := #[]) (mvT hZ (w_ G 156 rfl))) (mvT hZ (w_ G 157 rfl)) (by decide) (backOf (W := 0) (rmtan l Z a0 G [] x0 sb hJ n0 OJ J7 J10) hZ (w_ G 157 rfl) (w_ G 35 rfl) (by decide) (by decide)) (g := (mkF m 70 lv4 [(.ref sb), (.ref x0)])) rfl (by rw [hml]; rfl) (Steps.refl _) q9d (own_nost q9e) (argsL := [(.ref sb)]) (rest := []) (lenOf pd_13 rfl) rfl (own_z rfl) (hb hby d42_70) (fun _ _ => ⟨rfl, eh3, (ol rfl), (ol rfl)⟩)
  dsimp only [Pt.U, Pt.locs, Pt.cells, Pt.slots] at X9 l9 y9 z9 st9 hQ9
  subst l9 y9 z9
  obtain ⟨rfl, N9q, eh9⟩ := hQ9
  have N9 := Fr.app N3 N9q
  refine ot (S' := T9.setTop (mkF m 73 lv4 [])) st9 ?_
  refine oo (S' := T9.setTop (mkF m 87 lv4 [])) (fun _ kK => Or.elim hpa (fun hz => XS.iload X9.here hx rfl (hb hby d42_73) rfl (XS.bipush X9.here hx rfl (hb hby d42_75) (XS.icmpYes X9.here hx rfl (pc0 := 77) (pc' := 87) rfl (hb hby d42_77) rfl (teq (hz)).1 (by decide) (by decide) kK))) (fun hz => XS.iload X9.here hx rfl (hb hby d42_73) rfl (XS.bipush X9.here hx rfl (hb hby d42_75) (XS.icmpNo X9.here hx rfl (hb hby d42_77) rfl (feq ((fun q => absurd (hz.symm.trans q) (by decide)))).1 (XS.iload X9.here hx rfl (hb hby d42_80) rfl (XS.bipush X9.here hx rfl (hb hby d42_82) (XS.icmpNo X9.here hx rfl (hb hby d42_84) rfl (teq (hz)).2 kK))))))) ?_
  refine oo (S' := T9.setTop (mkF m 88 lv4 [(.ref x0)])) (fun _ kK => XS.aloadN X9.here hx rfl (hb hby d42_87) rfl rfl kK) ?_
  obtain ⟨T10, X10, e10, st10⟩ := getF X9 hx hZ hown (host := "") (Or.inl (w_ G 80 rfl)) Via.refl eh9 J1 (g := (mkF m 88 lv4 [(.ref x0)])) rfl rfl (hb hby d42_88)
  refine oo (S' := T10.setTop (mkF m 91 lv4 [(.ref lst)])) st10 ?_
  refine oo (S' := T10.setTop (mkF m 93 lv4 [(.int c2), (.ref lst)])) (fun _ kK => XS.iload X10.here hx rfl (hb hby d42_91) rfl kK) ?_
  obtain ⟨_, _, ⟨T11, L11, k11, n11⟩, -, X11, ⟨Lc11, hQ11, l11, y11, z11⟩, st11⟩ := Jvm.LawKit.callS X10 hx (y := own_m28) hown (mvT hZ (w_ G 298 rfl)) (mvT hZ (w_ G 8 rfl)) (mvT hZ (w_ G 9 rfl)) (mvT hZ (w_ G 10 rfl)) (by decide) (backOf (W := 1) (rmvo l Z a0 G [] c2 hJ n0 OJ (P10 c2 (by simp))) hZ (w_ G 10 rfl) (w_ G 9 rfl) (by decide) (by decide)) (g := (mkF m 93 lv4 [(.int c2), (.ref lst)])) rfl (by rw [hml]; rfl) (argsL := [(.int c2)]) (rest := [(.ref lst)]) (lenOf pd_24 rfl) rfl (own_z rfl) (hb hby d42_93) (fun _ _ => ⟨rfl, e10, (ol rfl), (ol rfl)⟩)
  dsimp only [Pt.U, Pt.locs, Pt.cells, Pt.slots] at X11 l11 y11 z11 st11 hQ11
  subst l11 y11 z11
  obtain ⟨x_11, t_11, kb_11, rfl, N11q, Kq11, r11_0, r11_1, r11_2, r11_3, r11_4, r11_5⟩ := hQ11
  have N11 := Fr.app N9 N11q
  have sz12 := Kq11.1
  have K12 := KJ.trans Kq11 (own_all0 )
  have O12 := OJ.keep Kq11 (own_all0 )
  have ltr11_0 := lN r11_0.lt
  have ltr11_1 := lN r11_1.lt
  have ltr11_2 := lN r11_2.lt
  have ltr11_3 := lN r11_3.lt
  refine oo (S' := T11.setTop (mkF m 96 lv4 [(.ref x_11), (.ref lst)])) st11 ?_
  have f13 := (J13.keep Kq11)
  have f14 := (J14.keep Kq11 nin0)
  have f15 := (J15.keep Kq11 nin0)
  have f16 := (J16.keep Kq11 nin0)
  have f17 := (J21.keep Kq11 nin0)
  obtain ⟨cq18, kq18, q18a, q18b, q18c⟩ := isOf hZ rfl f13
  obtain ⟨_, _, ⟨T18, L18, k18, n18⟩, -, X18, ⟨Lc18, hQ18, l18, y18, z18⟩, st18⟩ := X11.interfaceBack hx (xi := own_m42) (y := own_m36) hown (mvT hZ (w_ G 205 rfl)) (mvT hZ (w_ G 206 rfl)) (mvT hZ (w_ G 207 rfl)) (mvT hZ (w_ G 208 rfl)) (mvT hZ (w_ G 209 rfl)) (mvT hZ (w_ G 210 rfl)) (mvT hZ (w_ G 211 rfl)) (mvT hZ (w_ G 212 rfl)) (by decide) (backOf (W := 0) (rmal1 l Z a0 G [] lst mc x_11 ar kA y0 T11.heap n0 O12 f13 f14 f15 f16 r11_0 (by omega) (by omega) (on (by omega)) f17 J22) hZ (w_ G 213 rfl) (w_ G 58 rfl) (by decide) (by decide)) q18a q18b q18c (g := (mkF m 96 lv4 [(.ref x_11), (.ref lst)])) rfl (by rw [hml]; rfl) (Steps.refl _) (argsL := [(.ref x_11)]) (rest := []) (lenOf pd_22 rfl) rfl (own_z rfl) (hb hby d42_96) (fun _ _ => ⟨rfl, rfl, (ol rfl), (ol rfl)⟩)
  dsimp only [Pt.U, Pt.locs, Pt.cells, Pt.slots] at X18 l18 y18 z18 st18 hQ18
  subst l18 y18 z18
  obtain ⟨rfl, N18q, Kq18, r18_0, r18_1, r18_2, r18_3, r18_4⟩ := hQ18
  have N18 := Fr.app N11 N18q
  have sz19 := Kq18.1
  have K19 := K12.trans Kq18 (own_all2 (Or.inr (by omega)) (Or.inr (by omega)))
  have O19 := O12.keep Kq18 (own_all2 (by omega) (by omega))
  have ltr18_0 := lN r18_0.lt
  have ltr18_1 := lN r18_1.lt
  have ltr18_2 := lN r18_2.lt
  have ltr18_3 := lN r18_3.lt
  have ltr18_4 := lN r18_4.lt
  refine ot (S' := T18.setTop (mkF m 101 lv4 [(.int 1)])) st18 ?_
  let lv20 : Array Slot := #[vR x0, vR ln, vR sb, vI 5, vI c2]
  refine oo (S' := T18.setTop (mkF m 27 lv20 [(.ref ln), (.int 5)])) (fun _ kK => XS.pop X18.here hx rfl (hb hby d42_101) rfl rfl (XS.goto X18.here hx rfl (pc0 := 102) (pc' := 112) rfl (hb hby d42_102) (by decide) (by decide) (XS.iinc X18.here hx rfl (hb hby d42_112) rfl (l' := lv20) rfl (XS.goto X18.here hx rfl (pc0 := 115) (pc' := 25) rfl (hb hby d42_115) (by decide) (by decide) (XS.iloadN X18.here hx rfl (hb hby d42_25) rfl (XS.aloadN X18.here hx rfl (hb hby d42_26) rfl rfl kK)))))) ?_
  have f21 := ((J3.keep Kq11).keep Kq18)
  have f22 := ((J4.keep Kq11 nin0).keep Kq18 (own_nin2 (on (by omega)) (on (by omega))))
  have f23 := ((J5.keep Kq11 nin0).keep Kq18 (own_nin2 (on (by omega)) (on (by omega))))
  have f24 := ((J6.keep Kq11 nin0).keep Kq18 (own_nin2 (on (by omega)) (on (by omega))))
  obtain ⟨cq25, kq25, q25a, q25b, q25c⟩ := isOf hZ rfl f21
  obtain ⟨_, _, ⟨T25, L25, k25, n25⟩, -, X25, ⟨Lc25, hQ25, l25, y25, z25⟩, st25⟩ := X18.virtualBack hx (y := own_m4) (z := own_m4) hown (mvT hZ (w_ G 100 rfl)) (mvT hZ (w_ G 101 rfl)) (notFace_of_selects (args := #[]) (mvT hZ (w_ G 103 rfl))) (mvT hZ (w_ G 103 rfl)) (mvT hZ (w_ G 102 rfl)) (by decide) (backOf (W := 1) (rmln0 l Z a0 G [] ln lt kl (5 : Int32) ((([c0, s0, c1, s1, c2] : List Int32).map (fun c => c.toInt8.toInt32)).map Value.int) (.int 0) T18.heap n0 O19 f21 f22 f23 f24) hZ (w_ G 104 rfl) (w_ G 9 rfl) (by decide) (by decide)) q25a q25c (g := (mkF m 27 lv20 [(.ref ln), (.int 5)])) rfl (by rw [hml]; rfl) (Steps.refl _) (argsL := []) (rest := [(.int 5)]) (lenOf pd_8 rfl) rfl (own_z rfl) (hb hby d42_27) (fun _ _ => ⟨rfl, rfl, (ol rfl), (ol rfl)⟩)
  dsimp only [Pt.U, Pt.locs, Pt.cells, Pt.slots] at X25 l25 y25 z25 st25 hQ25
  subst l25 y25 z25
  obtain ⟨rfl, N25q, eh25⟩ := hQ25
  have N25 := Fr.app N18 N25q
  refine ot (S' := T25.setTop (mkF m 30 lv20 [(.int 5), (.int 5)])) st25 ?_
  refine oo (S' := T25.setTop (mkF m 120 lv20 [(.ref sb), (.ref x0)])) (fun _ kK => XS.icmpYes X25.here hx rfl (pc0 := 30) (pc' := 118) rfl (hb hby d42_30) rfl (flt ((by decide : ¬ ((5 : Int32) < (5 : Int32))))).2.1 (by decide) (by decide) (XS.aloadN X25.here hx rfl (hb hby d42_118) rfl rfl (XS.aloadN X25.here hx rfl (hb hby d42_119) rfl rfl kK))) ?_
  have f26 := ((J7.keep Kq11).keep Kq18)
  have f27 := ((J10.keep Kq11 nin0).keep Kq18 (own_nin2 (on (by omega)) (on (by omega))))
  have f29 := ((J0.keep Kq11).keep Kq18)
  obtain ⟨cq28, kq28, q28a, q28b, cc28, q28d, -, q28e⟩ := isOf hZ eh25 f29
  obtain ⟨_, _, ⟨T28, L28, k28, n28⟩, -, X28, ⟨Lc28, hQ28, l28, y28, z28⟩, st28⟩ := X25.privateBack hx (y := own_m41) hown (mvT hZ (w_ G 154 rfl)) (mvT hZ (w_ G 155 rfl)) (own_selP (oI (mvT hZ (w_ G 254 rfl)) rfl) (mvT hZ (w_ G 155 rfl)) (Cond.privateMethod_at (args := #[]) (mvT hZ (w_ G 156 rfl))) (by decide)) (Cond.privateMethod_at (args := #[]) (mvT hZ (w_ G 156 rfl))) (mvT hZ (w_ G 157 rfl)) (by decide) (backOf (W := 0) (rmtan l Z a0 G [] x0 sb T18.heap n0 O19 f26 f27) hZ (w_ G 157 rfl) (w_ G 35 rfl) (by decide) (by decide)) (g := (mkF m 120 lv20 [(.ref sb), (.ref x0)])) rfl (by rw [hml]; rfl) (Steps.refl _) q28d (own_nost q28e) (argsL := [(.ref sb)]) (rest := []) (lenOf pd_13 rfl) rfl (own_z rfl) (hb hby d42_120) (fun _ _ => ⟨rfl, eh25, (ol rfl), (ol rfl)⟩)
  dsimp only [Pt.U, Pt.locs, Pt.cells, Pt.slots] at X28 l28 y28 z28 st28 hQ28
  subst l28 y28 z28
  obtain ⟨rfl, N28q, eh28⟩ := hQ28
  have N28 := Fr.app N25 N28q
  refine ot (S' := T28.setTop (mkF m 123 lv20 [])) st28 ?_
  have f30 := ((J1.keep Kq11 nin0).keep Kq18 (own_nin2 (on (by omega)) (on (by omega))))
  have f31 := ((J2.keep Kq11 nin0).keep Kq18 (own_nin2 (on (by omega)) (on (by omega))))
  have f32 := ((J23.keep Kq11).keep Kq18)
  have f33 := ((J24.keep Kq11 nin0).keep Kq18 (own_nin2 (on (by omega)) (on (by omega))))
  have f34 := ((J25.keep Kq11 nin0).keep Kq18 (own_nin2 (on (by omega)) (on (by omega))))
  have f35 := ((J26.keep Kq11 nin0).keep Kq18 (own_nin2 (on (by omega)) (on (by omega))))
  have f36 := (r11_0.keep Kq18)
  have f37 := (r11_1.keep Kq18 (own_nin2 (on (by omega)) (on (by omega))))
  have f38 := (r11_2.keep Kq18 (own_nin2 (on (by omega)) (on (by omega))))
  have f39 := (r11_3.keep Kq18 (own_nin2 (on (by omega)) (on (by omega))))
  refine OwnEnd.ret X28 (v := none) (fun _ => rfl) hlk (fun fs hr => X28.returnOut hx Bd.returns (hb hby d42_123) hr) (by decide) (by decide) (Q := (own_Qtok Z x0 c0 c1 c2 aD) h0 n0) eh28 ?_
  exact ⟨rfl, N28, K19, f29, lst, (mc + (1 : Int32)), f30, f31, r18_0, (by omega), r18_1, Or.inr (Or.inr (Or.inl ⟨tk0, c2, ar, kA, y0, yt0, yk0, x_11, t_11, kb_11, (J34).trans (by rw [own_nb_n (own_p32 hpa) (own_p9 hpa)]; rfl), r18_2, r18_3, r18_4, (by omega), f32, f33, f34, f35, (by omega), (by omega), f36, f37, f38, f39, (by omega), (by omega)⟩))⟩
 ·refine oo (S' := T3.setTop (mkF m 108 lv4 [(.int c2), (.ref sb)])) (fun _ kK => XS.iload X3.here hx rfl (hb hby d42_40) rfl (XS.bipush X3.here hx rfl (hb hby d42_42) (XS.icmpNo X3.here hx rfl (hb hby d42_44) rfl (feq (hot.1)).1 (XS.iload X3.here hx rfl (hb hby d42_47) rfl (XS.bipush X3.here hx rfl (hb hby d42_49) (XS.icmpNo X3.here hx rfl (hb hby d42_51) rfl (feq (hot.2.1)).1 (XS.iload X3.here hx rfl (hb hby d42_54) rfl (XS.bipush X3.here hx rfl (hb hby d42_56) (XS.icmpNo X3.here hx rfl (hb hby d42_58) rfl (feq (hot.2.2.1)).1 (XS.iload X3.here hx rfl (hb hby d42_61) rfl (XS.bipush X3.here hx rfl (hb hby d42_63) (XS.icmpYes X3.here hx rfl (pc0 := 65) (pc' := 105) rfl (hb hby d42_65) rfl (feq (hot.2.2.2)).2 (by decide) (by decide) (XS.aloadN X3.here hx rfl (hb hby d42_105) rfl rfl (XS.iload X3.here hx rfl (hb hby d42_106) rfl kK)))))))))))))) ?_
  obtain ⟨cq40, kq40, q40a, q40b, q40c⟩ := isOf hZ eh3 J7
  obtain ⟨_, _, ⟨T40, L40, k40, n40⟩, -, X40, ⟨Lc40, hQ40, l40, y40, z40⟩, st40⟩ := X3.virtualBack hx (y := own_m13) (z := own_m13) hown (mvT hZ (w_ G 131 rfl)) (mvT hZ (w_ G 132 rfl)) (notFace_of_selects (args := #[]) (mvT hZ (w_ G 134 rfl))) (mvT hZ (w_ G 134 rfl)) (mvT hZ (w_ G 133 rfl)) (by decide) (backOf (W := 0) (rmsbc l Z a0 G [] sb vb kv g ml c2 hJ n0 OJ J7 J8 J9 J10 J11 J12 (P10 c2 (by simp)) (by omega) (by omega) (on (by omega))) hZ (w_ G 135 rfl) (w_ G 84 rfl) (by decide) (by decide)) q40a q40c (g := (mkF m 108 lv4 [(.int c2), (.ref sb)])) rfl (by rw [hml]; rfl) (Steps.refl _) (argsL := [(.int c2)]) (rest := []) (lenOf pd_25 rfl) rfl (own_z rfl) (hb hby d42_108) (fun _ _ => ⟨rfl, eh3, (ol rfl), (ol rfl)⟩)
  dsimp only [Pt.U, Pt.locs, Pt.cells, Pt.slots] at X40 l40 y40 z40 st40 hQ40
  subst l40 y40 z40
  obtain ⟨rfl, N40q, Kq40, r40_0, r40_1, r40_2, r40_3, r40_4, r40_5⟩ := hQ40
  have N40 := Fr.app N3 N40q
  have sz41 := Kq40.1
  have K41 := KJ.trans Kq40 (own_all2 (Or.inr (by omega)) (Or.inr (by omega)))
  have O41 := OJ.keep Kq40 (own_all2 (by omega) (by omega))
  have ltr40_0 := lN r40_0.lt
  have ltr40_1 := lN r40_1.lt
  have ltr40_2 := lN r40_2.lt
  have ltr40_3 := lN r40_3.lt
  have ltr40_4 := lN r40_4.lt
  have ltr40_5 := lN r40_5.lt
  refine ot (S' := T40.setTop (mkF m 111 lv4 [(.ref sb)])) st40 ?_
  let lv42 : Array Slot := #[vR x0, vR ln, vR sb, vI 5, vI c2]
  refine oo (S' := T40.setTop (mkF m 27 lv42 [(.ref ln), (.int 5)])) (fun _ kK => XS.pop X40.here hx rfl (hb hby d42_111) rfl rfl (XS.iinc X40.here hx rfl (hb hby d42_112) rfl (l' := lv42) rfl (XS.goto X40.here hx rfl (pc0 := 115) (pc' := 25) rfl (hb hby d42_115) (by decide) (by decide) (XS.iloadN X40.here hx rfl (hb hby d42_25) rfl (XS.aloadN X40.here hx rfl (hb hby d42_26) rfl rfl kK))))) ?_
  have f43 := (J3.keep Kq40)
  have f44 := (J4.keep Kq40 (own_nin2 (on (by omega)) (on (by omega))))
  have f45 := (J5.keep Kq40 (own_nin2 (on (by omega)) (on (by omega))))
  have f46 := (J6.keep Kq40 (own_nin2 (on (by omega)) (on (by omega))))
  obtain ⟨cq47, kq47, q47a, q47b, q47c⟩ := isOf hZ rfl f43
  obtain ⟨_, _, ⟨T47, L47, k47, n47⟩, -, X47, ⟨Lc47, hQ47, l47, y47, z47⟩, st47⟩ := X40.virtualBack hx (y := own_m4) (z := own_m4) hown (mvT hZ (w_ G 100 rfl)) (mvT hZ (w_ G 101 rfl)) (notFace_of_selects (args := #[]) (mvT hZ (w_ G 103 rfl))) (mvT hZ (w_ G 103 rfl)) (mvT hZ (w_ G 102 rfl)) (by decide) (backOf (W := 1) (rmln0 l Z a0 G [] ln lt kl (5 : Int32) ((([c0, s0, c1, s1, c2] : List Int32).map (fun c => c.toInt8.toInt32)).map Value.int) (.int 0) T40.heap n0 O41 f43 f44 f45 f46) hZ (w_ G 104 rfl) (w_ G 9 rfl) (by decide) (by decide)) q47a q47c (g := (mkF m 27 lv42 [(.ref ln), (.int 5)])) rfl (by rw [hml]; rfl) (Steps.refl _) (argsL := []) (rest := [(.int 5)]) (lenOf pd_8 rfl) rfl (own_z rfl) (hb hby d42_27) (fun _ _ => ⟨rfl, rfl, (ol rfl), (ol rfl)⟩)
  dsimp only [Pt.U, Pt.locs, Pt.cells, Pt.slots] at X47 l47 y47 z47 st47 hQ47
  subst l47 y47 z47
  obtain ⟨rfl, N47q, eh47⟩ := hQ47
  have N47 := Fr.app N40 N47q
  refine ot (S' := T47.setTop (mkF m 30 lv42 [(.int 5), (.int 5)])) st47 ?_
  refine oo (S' := T47.setTop (mkF m 120 lv42 [(.ref sb), (.ref x0)])) (fun _ kK => XS.icmpYes X47.here hx rfl (pc0 := 30) (pc' := 118) rfl (hb hby d42_30) rfl (flt ((by decide : ¬ ((5 : Int32) < (5 : Int32))))).2.1 (by decide) (by decide) (XS.aloadN X47.here hx rfl (hb hby d42_118) rfl rfl (XS.aloadN X47.here hx rfl (hb hby d42_119) rfl rfl kK))) ?_
  have f48 := (J1.keep Kq40 (own_nin2 (on (by omega)) (on (by omega))))
  have f49 := (J13.keep Kq40)
  have f50 := (J14.keep Kq40 (own_nin2 (on (by omega)) (on (by omega))))
  have f51 := (J15.keep Kq40 (own_nin2 (on (by omega)) (on (by omega))))
  have f52 := (J16.keep Kq40 (own_nin2 (on (by omega)) (on (by omega))))
  have f53 := (J21.keep Kq40 (own_nin2 (on (by omega)) (on (by omega))))
  have f55 := (J0.keep Kq40)
  obtain ⟨cq54, kq54, q54a, q54b, cc54, q54d, -, q54e⟩ := isOf hZ eh47 f55
  obtain ⟨_, _, ⟨T54, L54, k54, n54⟩, -, X54, ⟨Lc54, hQ54, l54, y54, z54⟩, st54⟩ := X47.privateBack hx (y := own_m41) hown (mvT hZ (w_ G 154 rfl)) (mvT hZ (w_ G 155 rfl)) (own_selP (oI (mvT hZ (w_ G 254 rfl)) rfl) (mvT hZ (w_ G 155 rfl)) (Cond.privateMethod_at (args := #[]) (mvT hZ (w_ G 156 rfl))) (by decide)) (Cond.privateMethod_at (args := #[]) (mvT hZ (w_ G 156 rfl))) (mvT hZ (w_ G 157 rfl)) (by decide) (backOf (W := 0) (rmta1 l Z a0 G [] x0 lst mc sb vb kv (.int (StrChars.lo8 c2)) ml ar kA y0 T40.heap n0 O41 f48 r40_0 r40_1 r40_2 r40_3 r40_4 r40_5 f49 f50 f51 f52 (by omega) (by omega) (by omega) (by omega) f53 J22 (on (by omega)) (on (by omega)) (on (by omega)) (on (by omega)) (on (by omega)) (on (by omega))) hZ (w_ G 157 rfl) (w_ G 35 rfl) (by decide) (by decide)) (g := (mkF m 120 lv42 [(.ref sb), (.ref x0)])) rfl (by rw [hml]; rfl) (Steps.refl _) q54d (own_nost q54e) (argsL := [(.ref sb)]) (rest := []) (lenOf pd_13 rfl) rfl (own_z rfl) (hb hby d42_120) (fun _ _ => ⟨rfl, eh47, (ol rfl), (ol rfl)⟩)
  dsimp only [Pt.U, Pt.locs, Pt.cells, Pt.slots] at X54 l54 y54 z54 st54 hQ54
  subst l54 y54 z54
  obtain ⟨y_54, t_54, kb_54, rfl, N54q, Kq54, r54_0, r54_1, r54_2, r54_3, r54_4, r54_5, r54_6, r54_7, r54_8, r54_9, r54_10, r54_11, r54_12, r54_13, r54_14, r54_15, r54_16⟩ := hQ54
  have N54 := Fr.app N47 N54q
  have sz56 := Kq54.1
  have K56 := K41.trans Kq54 (own_all3 (Or.inr (by omega)) (Or.inr (by omega)) (Or.inr (by omega)))
  have ltr54_0 := lN r54_0.lt
  have ltr54_1 := lN r54_1.lt
  have ltr54_2 := lN r54_2.lt
  have ltr54_3 := lN r54_3.lt
  have ltr54_6 := lN r54_6.lt
  have ltr54_7 := lN r54_7.lt
  have ltr54_8 := lN r54_8.lt
  have ltr54_9 := lN r54_9.lt
  have ltr54_10 := lN r54_10.lt
  have ltr54_11 := lN r54_11.lt
  have ltr54_12 := lN r54_12.lt
  have ltr54_13 := lN r54_13.lt
  have ltr54_14 := lN r54_14.lt
  have ltr54_15 := lN r54_15.lt
  have ltr54_16 := lN r54_16.lt
  refine ot (S' := T54.setTop (mkF m 123 lv42 [])) st54 ?_
  have f57 := (f55.keep Kq54)
  have f58 := (f48.keep Kq54 (own_nin3 (on (by omega)) (on (by omega)) (on (by omega))))
  have f59 := ((J2.keep Kq40 (own_nin2 (on (by omega)) (on (by omega)))).keep Kq54 (own_nin3 (on (by omega)) (on (by omega)) (on (by omega))))
  have f60 := ((J23.keep Kq40).keep Kq54)
  have f61 := ((J24.keep Kq40 (own_nin2 (on (by omega)) (on (by omega)))).keep Kq54 (own_nin3 (on (by omega)) (on (by omega)) (on (by omega))))
  have f62 := ((J25.keep Kq40 (own_nin2 (on (by omega)) (on (by omega)))).keep Kq54 (own_nin3 (on (by omega)) (on (by omega)) (on (by omega))))
  have f63 := ((J26.keep Kq40 (own_nin2 (on (by omega)) (on (by omega)))).keep Kq54 (own_nin3 (on (by omega)) (on (by omega)) (on (by omega))))
  refine OwnEnd.ret X54 (v := none) (fun _ => rfl) hlk (fun fs hr => X54.returnOut hx Bd.returns (hb hby d42_123) hr) (by decide) (by decide) (Q := (own_Qtok Z x0 c0 c1 c2 aD) h0 n0) rfl ?_
  exact ⟨rfl, N54, K56, f57, lst, (mc + (1 : Int32)), f58, f59, r54_6, (by omega), r54_7, Or.inr (Or.inr (Or.inl ⟨tk0, c2, ar, kA, y0, yt0, yk0, y_54, t_54, kb_54, (J34).trans (by rw [own_nb_n hot.1 hot.2.1]; rfl), r54_8, r54_9, r54_10, (by omega), f60, f61, f62, f63, (by omega), (by omega), r54_0, r54_1, r54_2, r54_3, (by omega), (by omega)⟩))⟩

set_option maxRecDepth 65536 in
set_option maxHeartbeats 40000000 in
theorem sft2_2 (l : Launch) (Z : State) (a0 : Array Value) (G : OwnG Z a0) (x0 : Addr) (ln : Addr) (lt : Addr) (kl : ClassId) (tv : Value) (c0 : Int32) (s0 : Int32) (c1 : Int32) (s1 : Int32) (c2 : Int32) (aD : Addr) (kD : ClassId) (h0 : Heap) (n0 : Nat) (O0 : Old Z n0 h0) (P3 : n0 ≤ x0) (P8 : x0 ≠ ln) (P9 : x0 ≠ lt) (P10 : ∀ c ∈ ([c0, s0, c1, s1, c2] : List Int32), ¬ c < (0 : Int32) ∧ ¬ (255 : Int32) < c) (P11 : s0 = (32 : Int32) ∨ s0 = (9 : Int32)) (P12 : s1 = (32 : Int32) ∨ s1 = (9 : Int32)) (P13 : Sta Z Z.heap j2 "DEFAULTCAPACITY_EMPTY_ELEMENTDATA" "[Ljava/lang/Object;" (.ref aD)) (P14 : Arv Z Z.heap aD kD (.object j4) (0 : Int32) [] .null) {p : Program} {e : Env} {s : State} {m : MethodId} {below : List Frame} {meth : Method} {cD : Code} {s₁ : State} {Sp : Spec} (Bd : BodyLoose p l own_m43 Sp B52 5 none e s m #[(.ref x0), (.ref ln)] below meth cD s₁) (hml0 : cD.maxLocals = 5) (hZ : Z.Warmed39 s.vm) {TJ : State} {locs : List Loc} (XJ : Stand p l e (rR 7 33 125 105) s m #[(.ref x0), (.ref ln)] below meth cD TJ locs 30 110) (hJ : Heap) (eJ : TJ.heap = hJ) (KJ : Keep h0 hJ [x0]) (OJ : Old Z n0 hJ) (NJ : Fr n0 locs) (szJ : Array.size h0 ≤ Array.size hJ) (lst : Addr) (mc : Int32) (sb : Addr) (vb : Addr) (kv : ClassId) (g : Value) (ml : Value) (ar : Addr) (kA : ClassId) (tk0 : Int32) (y0 : Addr) (yt0 : Addr) (yk0 : ClassId) (tk1 : Int32) (y1 : Addr) (yt1 : Addr) (yk1 : ClassId) (J0 : Exa Z hJ x0 j3) (J1 : Fld Z hJ x0 j3 "tokens" "Ljava/util/List;" (.ref lst)) (J2 : Fld Z hJ x0 j3 "next" "I" (.int 0)) (J3 : Exa Z hJ ln j1) (J4 : Fld Z hJ ln j1 "value" "[B" (.ref lt)) (J5 : Fld Z hJ ln j1 "coder" "B" (.int 0)) (J6 : Arv Z hJ lt kl .byte (5 : Int32) ((([c0, s0, c1, s1, c2] : List Int32).map (fun c => c.toInt8.toInt32)).map Value.int) (.int 0)) (J7 : Exa Z hJ sb j5) (J8 : Fld Z hJ sb j0 "value" "[B" (.ref vb)) (J9 : Fld Z hJ sb j0 "coder" "B" (.int 0)) (J10 : Fld Z hJ sb j0 "count" "I" (.int 0)) (J11 : Fld Z hJ sb j0 "maybeLatin1" "Z" ml) (J12 : Arv Z hJ vb kv .byte (16 : Int32) [g, (.int 0), (.int 0), (.int 0), (.int 0), (.int 0), (.int 0), (.int 0), (.int 0), (.int 0), (.int 0), (.int 0), (.int 0), (.int 0), (.int 0), (.int 0)] (.int 0)) (J13 : Exa Z hJ lst j2) (J14 : Fld Z hJ lst j6 "modCount" "I" (.int mc)) (J15 : Fld Z hJ lst j2 "elementData" "[Ljava/lang/Object;" (.ref ar)) (J16 : Fld Z hJ lst j2 "size" "I" (.int 2)) (J17 : n0 ≤ lst) (J18 : n0 ≤ sb) (J19 : n0 ≤ vb) (J20 : n0 ≤ ar) (J21 : Arv Z hJ ar kA (.object j4) (10 : Int32) [(.ref y0), (.ref y1), .null, .null, .null, .null, .null, .null, .null, .null] .null) (J22 : Ovr Z kA j4) (J23 : Exa Z hJ y0 j1) (J24 : Fld Z hJ y0 j1 "value" "[B" (.ref yt0)) (J25 : Fld Z hJ y0 j1 "coder" "B" (.int 0)) (J26 : Arv Z hJ yt0 yk0 .byte (1 : Int32) [(.int (StrChars.lo8 tk0))] (.int 0)) (J27 : Exa Z hJ y1 j1) (J28 : Fld Z hJ y1 j1 "value" "[B" (.ref yt1)) (J29 : Fld Z hJ y1 j1 "coder" "B" (.int 0)) (J30 : Arv Z hJ yt1 yk1 .byte (1 : Int32) [(.int (StrChars.lo8 tk1))] (.int 0)) (J31 : Array.size h0 ≤ lst) (J32 : own_ord [lst, sb, vb]) (J33 : own_ord [vb, y0, ar, y1]) (J34 : own_ord [vb, yt0, ar, yt1]) (J35 : @LT.lt Nat instLTNat x0 (Array.size h0)) (J36 : @LT.lt Nat instLTNat ln (Array.size h0)) (J37 : @LT.lt Nat instLTNat lt (Array.size h0)) (J38 : own_nb [c0, c1, c2] = tk0 :: tk1 :: own_nb [c2]) :
  OwnEnd p e below (fun o t => ∃ v L, o = .returned v ∧ (own_Qtok Z x0 c0 c1 c2 aD) h0 n0 v t.heap L ∧ FrameEnd s o t L (rR 7 33 125 105).cells (rR 7 33 125 105).slots) (TJ.setTop (mkF m 25 #[vR x0, vR ln, vR sb, vI 4, vI s1] [])) := by
 have hx := Bd.exec
 have hby := Bd.bytes
 have hml : cD.maxLocals = 5 := hml0
 have hown : s.vm.findClass j3 = some m.cls := findClass_of_methodNamed Bd.named
 have hlk := Bd.notSynchronized
 have ltJ0 := lN J0.lt
 have ltJ1 := lN J1.lt
 have ltJ2 := lN J2.lt
 have ltJ3 := lN J3.lt
 have ltJ4 := lN J4.lt
 have ltJ5 := lN J5.lt
 have ltJ6 := lN J6.lt
 have ltJ7 := lN J7.lt
 have ltJ8 := lN J8.lt
 have ltJ9 := lN J9.lt
 have ltJ10 := lN J10.lt
 have ltJ11 := lN J11.lt
 have ltJ12 := lN J12.lt
 have ltJ13 := lN J13.lt
 have ltJ14 := lN J14.lt
 have ltJ15 := lN J15.lt
 have ltJ16 := lN J16.lt
 have ltJ21 := lN J21.lt
 have ltJ23 := lN J23.lt
 have ltJ24 := lN J24.lt
 have ltJ25 := lN J25.lt
 have ltJ26 := lN J26.lt
 have ltJ27 := lN J27.lt
 have ltJ28 := lN J28.lt
 have ltJ29 := lN J29.lt
 have ltJ30 := lN J30.lt
 have Z0 := own_old_le O0
 have hord := And.intro J32 (And.intro J33 J34)
 simp only [own_ord, and_true] at hord
 have ltD : @LT.lt Nat instLTNat aD n0 := lN (O0.1 ▸ P14.lt)
 let lv1 : Array Slot := #[vR x0, vR ln, vR sb, vI 4, vI s1]
 refine oo (S' := TJ.setTop (mkF m 27 lv1 [(.ref ln), (.int 4)])) (fun _ kK => XS.iloadN XJ.here hx rfl (hb hby d42_25) rfl (XS.aloadN XJ.here hx rfl (hb hby d42_26) rfl rfl kK)) ?_
 obtain ⟨cq2, kq2, q2a, q2b, q2c⟩ := isOf hZ eJ J3
 obtain ⟨_, _, ⟨T2, L2, k2, n2⟩, -, X2, ⟨Lc2, hQ2, l2, y2, z2⟩, st2⟩ := XJ.virtualBack hx (y := own_m4) (z := own_m4) hown (mvT hZ (w_ G 100 rfl)) (mvT hZ (w_ G 101 rfl)) (notFace_of_selects (args := #[]) (mvT hZ (w_ G 103 rfl))) (mvT hZ (w_ G 103 rfl)) (mvT hZ (w_ G 102 rfl)) (by decide) (backOf (W := 1) (rmln0 l Z a0 G [] ln lt kl (5 : Int32) ((([c0, s0, c1, s1, c2] : List Int32).map (fun c => c.toInt8.toInt32)).map Value.int) (.int 0) hJ n0 OJ J3 J4 J5 J6) hZ (w_ G 104 rfl) (w_ G 9 rfl) (by decide) (by decide)) q2a q2c (g := (mkF m 27 lv1 [(.ref ln), (.int 4)])) rfl (by rw [hml]; rfl) (Steps.refl _) (argsL := []) (rest := [(.int 4)]) (lenOf pd_8 rfl) rfl (own_z rfl) (hb hby d42_27) (fun _ _ => ⟨rfl, eJ, (ol rfl), (ol rfl)⟩)
 dsimp only [Pt.U, Pt.locs, Pt.cells, Pt.slots] at X2 l2 y2 z2 st2 hQ2
 subst l2 y2 z2
 obtain ⟨rfl, N2q, eh2⟩ := hQ2
 have N2 := Fr.app NJ N2q
 refine ot (S' := T2.setTop (mkF m 30 lv1 [(.int 5), (.int 4)])) st2 ?_
 refine oo (S' := T2.setTop (mkF m 35 lv1 [(.int 4), (.ref ln)])) (fun _ kK => XS.icmpNo X2.here hx rfl (hb hby d42_30) rfl (tlt ((by decide : (4 : Int32) < (5 : Int32)))).2.1 (XS.aloadN X2.here hx rfl (hb hby d42_33) rfl rfl (XS.iloadN X2.here hx rfl (hb hby d42_34) rfl kK))) ?_
 obtain ⟨cq3, kq3, q3a, q3b, q3c⟩ := isOf hZ eh2 J3
 obtain ⟨_, _, ⟨T3, L3, k3, n3⟩, -, X3, ⟨Lc3, hQ3, l3, y3, z3⟩, st3⟩ := X2.virtualBack hx (y := own_m6) (z := own_m6) hown (mvT hZ (w_ G 110 rfl)) (mvT hZ (w_ G 111 rfl)) (notFace_of_selects (args := #[]) (mvT hZ (w_ G 113 rfl))) (mvT hZ (w_ G 113 rfl)) (mvT hZ (w_ G 112 rfl)) (by decide) (backOf (W := 0) (rmcA0 l Z a0 G [] ln lt kl (5 : Int32) ((([c0, s0, c1, s1, c2] : List Int32).map (fun c => c.toInt8.toInt32)).map Value.int) (.int 0) (4 : Int32) c2 hJ n0 OJ J3 J4 J5 J6 (by decide) (by decide) (by rfl) (P10 c2 (by simp))) hZ (w_ G 114 rfl) (w_ G 9 rfl) (by decide) (by decide)) q3a q3c (g := (mkF m 35 lv1 [(.int 4), (.ref ln)])) rfl (by rw [hml]; rfl) (Steps.refl _) (argsL := [(.int 4)]) (rest := []) (lenOf pd_23 rfl) rfl (own_z rfl) (hb hby d42_35) (fun _ _ => ⟨rfl, eh2, (ol rfl), (ol rfl)⟩)
 dsimp only [Pt.U, Pt.locs, Pt.cells, Pt.slots] at X3 l3 y3 z3 st3 hQ3
 subst l3 y3 z3
 obtain ⟨rfl, N3q, eh3⟩ := hQ3
 have N3 := Fr.app N2 N3q
 refine ot (S' := T3.setTop (mkF m 38 lv1 [(.int c2)])) st3 ?_
 let lv4 : Array Slot := #[vR x0, vR ln, vR sb, vI 4, vI c2]
 refine oo (S' := T3.setTop (mkF m 40 lv4 [])) (fun _ kK => XS.istore X3.here hx rfl (hb hby d42_38) rfl (l' := lv4) rfl kK) ?_
 rcases own_kind c2 with hbl | hpa | hot
 ·refine oo (S' := T3.setTop (mkF m 68 lv4 [])) (fun _ kK => Or.elim hbl (fun hz => XS.iload X3.here hx rfl (hb hby d42_40) rfl (XS.bipush X3.here hx rfl (hb hby d42_42) (XS.icmpYes X3.here hx rfl (pc0 := 44) (pc' := 68) rfl (hb hby d42_44) rfl (teq (hz)).1 (by decide) (by decide) kK))) (fun hz => XS.iload X3.here hx rfl (hb hby d42_40) rfl (XS.bipush X3.here hx rfl (hb hby d42_42) (XS.icmpNo X3.here hx rfl (hb hby d42_44) rfl (feq ((fun q => absurd (hz.symm.trans q) (by decide)))).1 (XS.iload X3.here hx rfl (hb hby d42_47) rfl (XS.bipush X3.here hx rfl (hb hby d42_49) (XS.icmpYes X3.here hx rfl (pc0 := 51) (pc' := 68) rfl (hb hby d42_51) rfl (teq (hz)).1 (by decide) (by decide) kK))))))) ?_
  refine oo (S' := T3.setTop (mkF m 70 lv4 [(.ref sb), (.ref x0)])) (fun _ kK => XS.aloadN X3.here hx rfl (hb hby d42_68) rfl rfl (XS.aloadN X3.here hx rfl (hb hby d42_69) rfl rfl kK)) ?_
  obtain ⟨cq5, kq5, q5a, q5b, cc5, q5d, -, q5e⟩ := isOf hZ eh3 J0
  obtain ⟨_, _, ⟨T5, L5, k5, n5⟩, -, X5, ⟨Lc5, hQ5, l5, y5, z5⟩, st5⟩ := X3.privateBack hx (y := own_m41) hown (mvT hZ (w_ G 154 rfl)) (mvT hZ (w_ G 155 rfl)) (own_selP (oI (mvT hZ (w_ G 254 rfl)) rfl) (mvT hZ (w_ G 155 rfl)) (Cond.privateMethod_at (args := #[]) (mvT hZ (w_ G 156 rfl))) (by decide)) (Cond.privateMethod_at (args := #[]) (mvT hZ (w_ G 156 rfl))) (mvT hZ (w_ G 157 rfl)) (by decide) (backOf (W := 0) (rmtan l Z a0 G [] x0 sb hJ n0 OJ J7 J10) hZ (w_ G 157 rfl) (w_ G 35 rfl) (by decide) (by decide)) (g := (mkF m 70 lv4 [(.ref sb), (.ref x0)])) rfl (by rw [hml]; rfl) (Steps.refl _) q5d (own_nost q5e) (argsL := [(.ref sb)]) (rest := []) (lenOf pd_13 rfl) rfl (own_z rfl) (hb hby d42_70) (fun _ _ => ⟨rfl, eh3, (ol rfl), (ol rfl)⟩)
  dsimp only [Pt.U, Pt.locs, Pt.cells, Pt.slots] at X5 l5 y5 z5 st5 hQ5
  subst l5 y5 z5
  obtain ⟨rfl, N5q, eh5⟩ := hQ5
  have N5 := Fr.app N3 N5q
  refine ot (S' := T5.setTop (mkF m 73 lv4 [])) st5 ?_
  let lv6 : Array Slot := #[vR x0, vR ln, vR sb, vI 5, vI c2]
  refine oo (S' := T5.setTop (mkF m 27 lv6 [(.ref ln), (.int 5)])) (fun _ kK => XS.iload X5.here hx rfl (hb hby d42_73) rfl (XS.bipush X5.here hx rfl (hb hby d42_75) (XS.icmpNo X5.here hx rfl (hb hby d42_77) rfl (feq ((own_b40 hbl))).1 (XS.iload X5.here hx rfl (hb hby d42_80) rfl (XS.bipush X5.here hx rfl (hb hby d42_82) (XS.icmpYes X5.here hx rfl (pc0 := 84) (pc' := 112) rfl (hb hby d42_84) rfl (feq ((own_b41 hbl))).2 (by decide) (by decide) (XS.iinc X5.here hx rfl (hb hby d42_112) rfl (l' := lv6) rfl (XS.goto X5.here hx rfl (pc0 := 115) (pc' := 25) rfl (hb hby d42_115) (by decide) (by decide) (XS.iloadN X5.here hx rfl (hb hby d42_25) rfl (XS.aloadN X5.here hx rfl (hb hby d42_26) rfl rfl kK)))))))))) ?_
  obtain ⟨cq7, kq7, q7a, q7b, q7c⟩ := isOf hZ eh5 J3
  obtain ⟨_, _, ⟨T7, L7, k7, n7⟩, -, X7, ⟨Lc7, hQ7, l7, y7, z7⟩, st7⟩ := X5.virtualBack hx (y := own_m4) (z := own_m4) hown (mvT hZ (w_ G 100 rfl)) (mvT hZ (w_ G 101 rfl)) (notFace_of_selects (args := #[]) (mvT hZ (w_ G 103 rfl))) (mvT hZ (w_ G 103 rfl)) (mvT hZ (w_ G 102 rfl)) (by decide) (backOf (W := 1) (rmln0 l Z a0 G [] ln lt kl (5 : Int32) ((([c0, s0, c1, s1, c2] : List Int32).map (fun c => c.toInt8.toInt32)).map Value.int) (.int 0) hJ n0 OJ J3 J4 J5 J6) hZ (w_ G 104 rfl) (w_ G 9 rfl) (by decide) (by decide)) q7a q7c (g := (mkF m 27 lv6 [(.ref ln), (.int 5)])) rfl (by rw [hml]; rfl) (Steps.refl _) (argsL := []) (rest := [(.int 5)]) (lenOf pd_8 rfl) rfl (own_z rfl) (hb hby d42_27) (fun _ _ => ⟨rfl, eh5, (ol rfl), (ol rfl)⟩)
  dsimp only [Pt.U, Pt.locs, Pt.cells, Pt.slots] at X7 l7 y7 z7 st7 hQ7
  subst l7 y7 z7
  obtain ⟨rfl, N7q, eh7⟩ := hQ7
  have N7 := Fr.app N5 N7q
  refine ot (S' := T7.setTop (mkF m 30 lv6 [(.int 5), (.int 5)])) st7 ?_
  refine oo (S' := T7.setTop (mkF m 120 lv6 [(.ref sb), (.ref x0)])) (fun _ kK => XS.icmpYes X7.here hx rfl (pc0 := 30) (pc' := 118) rfl (hb hby d42_30) rfl (flt ((by decide : ¬ ((5 : Int32) < (5 : Int32))))).2.1 (by decide) (by decide) (XS.aloadN X7.here hx rfl (hb hby d42_118) rfl rfl (XS.aloadN X7.here hx rfl (hb hby d42_119) rfl rfl kK))) ?_
  obtain ⟨cq8, kq8, q8a, q8b, cc8, q8d, -, q8e⟩ := isOf hZ eh7 J0
  obtain ⟨_, _, ⟨T8, L8, k8, n8⟩, -, X8, ⟨Lc8, hQ8, l8, y8, z8⟩, st8⟩ := X7.privateBack hx (y := own_m41) hown (mvT hZ (w_ G 154 rfl)) (mvT hZ (w_ G 155 rfl)) (own_selP (oI (mvT hZ (w_ G 254 rfl)) rfl) (mvT hZ (w_ G 155 rfl)) (Cond.privateMethod_at (args := #[]) (mvT hZ (w_ G 156 rfl))) (by decide)) (Cond.privateMethod_at (args := #[]) (mvT hZ (w_ G 156 rfl))) (mvT hZ (w_ G 157 rfl)) (by decide) (backOf (W := 0) (rmtan l Z a0 G [] x0 sb hJ n0 OJ J7 J10) hZ (w_ G 157 rfl) (w_ G 35 rfl) (by decide) (by decide)) (g := (mkF m 120 lv6 [(.ref sb), (.ref x0)])) rfl (by rw [hml]; rfl) (Steps.refl _) q8d (own_nost q8e) (argsL := [(.ref sb)]) (rest := []) (lenOf pd_13 rfl) rfl (own_z rfl) (hb hby d42_120) (fun _ _ => ⟨rfl, eh7, (ol rfl), (ol rfl)⟩)
  dsimp only [Pt.U, Pt.locs, Pt.cells, Pt.slots] at X8 l8 y8 z8 st8 hQ8
  subst l8 y8 z8
  obtain ⟨rfl, N8q, eh8⟩ := hQ8
  have N8 := Fr.app N7 N8q
  refine ot (S' := T8.setTop (mkF m 123 lv6 [])) st8 ?_
  refine OwnEnd.ret X8 (v := none) (fun _ => rfl) hlk (fun fs hr => X8.returnOut hx Bd.returns (hb hby d42_123) hr) (by decide) (by decide) (Q := (own_Qtok Z x0 c0 c1 c2 aD) h0 n0) eh8 ?_
  exact ⟨rfl, N8, KJ, J0, lst, mc, J1, J2, J13, (by omega), J14, Or.inr (Or.inr (Or.inl ⟨tk0, tk1, ar, kA, y0, yt0, yk0, y1, yt1, yk1, (J38).trans (by rw [own_nb_b hbl]; rfl), J15, J16, J21, (by omega), J23, J24, J25, J26, (by omega), (by omega), J27, J28, J29, J30, (by omega), (by omega)⟩))⟩
 ·refine oo (S' := T3.setTop (mkF m 68 lv4 [])) (fun _ kK => Or.elim hpa (fun hz => XS.iload X3.here hx rfl (hb hby d42_40) rfl (XS.bipush X3.here hx rfl (hb hby d42_42) (XS.icmpNo X3.here hx rfl (hb hby d42_44) rfl (feq ((fun q => absurd (hz.symm.trans q) (by decide)))).1 (XS.iload X3.here hx rfl (hb hby d42_47) rfl (XS.bipush X3.here hx rfl (hb hby d42_49) (XS.icmpNo X3.here hx rfl (hb hby d42_51) rfl (feq ((fun q => absurd (hz.symm.trans q) (by decide)))).1 (XS.iload X3.here hx rfl (hb hby d42_54) rfl (XS.bipush X3.here hx rfl (hb hby d42_56) (XS.icmpYes X3.here hx rfl (pc0 := 58) (pc' := 68) rfl (hb hby d42_58) rfl (teq (hz)).1 (by decide) (by decide) kK))))))))) (fun hz => XS.iload X3.here hx rfl (hb hby d42_40) rfl (XS.bipush X3.here hx rfl (hb hby d42_42) (XS.icmpNo X3.here hx rfl (hb hby d42_44) rfl (feq ((fun q => absurd (hz.symm.trans q) (by decide)))).1 (XS.iload X3.here hx rfl (hb hby d42_47) rfl (XS.bipush X3.here hx rfl (hb hby d42_49) (XS.icmpNo X3.here hx rfl (hb hby d42_51) rfl (feq ((fun q => absurd (hz.symm.trans q) (by decide)))).1 (XS.iload X3.here hx rfl (hb hby d42_54) rfl (XS.bipush X3.here hx rfl (hb hby d42_56) (XS.icmpNo X3.here hx rfl (hb hby d42_58) rfl (feq ((fun q => absurd (hz.symm.trans q) (by decide)))).1 (XS.iload X3.here hx rfl (hb hby d42_61) rfl (XS.bipush X3.here hx rfl (hb hby d42_63) (XS.icmpNo X3.here hx rfl (hb hby d42_65) rfl (teq (hz)).2 kK))))))))))))) ?_
  refine oo (S' := T3.setTop (mkF m 70 lv4 [(.ref sb), (.ref x0)])) (fun _ kK => XS.aloadN X3.here hx rfl (hb hby d42_68) rfl rfl (XS.aloadN X3.here hx rfl (hb hby d42_69) rfl rfl kK)) ?_
  obtain ⟨cq9, kq9, q9a, q9b, cc9, q9d, -, q9e⟩ := isOf hZ eh3 J0
  obtain ⟨_, _, ⟨T9, L9, k9, n9⟩, -, X9, ⟨Lc9, hQ9, l9, y9, z9⟩, st9⟩ := X3.privateBack hx (y := own_m41) hown (mvT hZ (w_ G 154 rfl)) (mvT hZ (w_ G 155 rfl)) (own_selP (oI (mvT hZ (w_ G 254 rfl)) rfl) (mvT hZ (w_ G 155 rfl)) (Cond.privateMethod_at (args := #[]) (mvT hZ (w_ G 156 rfl))) (by decide)) (Cond.privateMethod_at (args := #[]) (mvT hZ (w_ G 156 rfl))) (mvT hZ (w_ G 157 rfl)) (by decide) (backOf (W := 0) (rmtan l Z a0 G [] x0 sb hJ n0 OJ J7 J10) hZ (w_ G 157 rfl) (w_ G 35 rfl) (by decide) (by decide)) (g := (mkF m 70 lv4 [(.ref sb), (.ref x0)])) rfl (by rw [hml]; rfl) (Steps.refl _) q9d (own_nost q9e) (argsL := [(.ref sb)]) (rest := []) (lenOf pd_13 rfl) rfl (own_z rfl) (hb hby d42_70) (fun _ _ => ⟨rfl, eh3, (ol rfl), (ol rfl)⟩)
  dsimp only [Pt.U, Pt.locs, Pt.cells, Pt.slots] at X9 l9 y9 z9 st9 hQ9
  subst l9 y9 z9
  obtain ⟨rfl, N9q, eh9⟩ := hQ9
  have N9 := Fr.app N3 N9q
  refine ot (S' := T9.setTop (mkF m 73 lv4 [])) st9 ?_
  refine oo (S' := T9.setTop (mkF m 87 lv4 [])) (fun _ kK => Or.elim hpa (fun hz => XS.iload X9.here hx rfl (hb hby d42_73) rfl (XS.bipush X9.here hx rfl (hb hby d42_75) (XS.icmpYes X9.here hx rfl (pc0 := 77) (pc' := 87) rfl (hb hby d42_77) rfl (teq (hz)).1 (by decide) (by decide) kK))) (fun hz => XS.iload X9.here hx rfl (hb hby d42_73) rfl (XS.bipush X9.here hx rfl (hb hby d42_75) (XS.icmpNo X9.here hx rfl (hb hby d42_77) rfl (feq ((fun q => absurd (hz.symm.trans q) (by decide)))).1 (XS.iload X9.here hx rfl (hb hby d42_80) rfl (XS.bipush X9.here hx rfl (hb hby d42_82) (XS.icmpNo X9.here hx rfl (hb hby d42_84) rfl (teq (hz)).2 kK))))))) ?_
  refine oo (S' := T9.setTop (mkF m 88 lv4 [(.ref x0)])) (fun _ kK => XS.aloadN X9.here hx rfl (hb hby d42_87) rfl rfl kK) ?_
  obtain ⟨T10, X10, e10, st10⟩ := getF X9 hx hZ hown (host := "") (Or.inl (w_ G 80 rfl)) Via.refl eh9 J1 (g := (mkF m 88 lv4 [(.ref x0)])) rfl rfl (hb hby d42_88)
  refine oo (S' := T10.setTop (mkF m 91 lv4 [(.ref lst)])) st10 ?_
  refine oo (S' := T10.setTop (mkF m 93 lv4 [(.int c2), (.ref lst)])) (fun _ kK => XS.iload X10.here hx rfl (hb hby d42_91) rfl kK) ?_
  obtain ⟨_, _, ⟨T11, L11, k11, n11⟩, -, X11, ⟨Lc11, hQ11, l11, y11, z11⟩, st11⟩ := Jvm.LawKit.callS X10 hx (y := own_m28) hown (mvT hZ (w_ G 298 rfl)) (mvT hZ (w_ G 8 rfl)) (mvT hZ (w_ G 9 rfl)) (mvT hZ (w_ G 10 rfl)) (by decide) (backOf (W := 1) (rmvo l Z a0 G [] c2 hJ n0 OJ (P10 c2 (by simp))) hZ (w_ G 10 rfl) (w_ G 9 rfl) (by decide) (by decide)) (g := (mkF m 93 lv4 [(.int c2), (.ref lst)])) rfl (by rw [hml]; rfl) (argsL := [(.int c2)]) (rest := [(.ref lst)]) (lenOf pd_24 rfl) rfl (own_z rfl) (hb hby d42_93) (fun _ _ => ⟨rfl, e10, (ol rfl), (ol rfl)⟩)
  dsimp only [Pt.U, Pt.locs, Pt.cells, Pt.slots] at X11 l11 y11 z11 st11 hQ11
  subst l11 y11 z11
  obtain ⟨x_11, t_11, kb_11, rfl, N11q, Kq11, r11_0, r11_1, r11_2, r11_3, r11_4, r11_5⟩ := hQ11
  have N11 := Fr.app N9 N11q
  have sz12 := Kq11.1
  have K12 := KJ.trans Kq11 (own_all0 )
  have O12 := OJ.keep Kq11 (own_all0 )
  have ltr11_0 := lN r11_0.lt
  have ltr11_1 := lN r11_1.lt
  have ltr11_2 := lN r11_2.lt
  have ltr11_3 := lN r11_3.lt
  refine oo (S' := T11.setTop (mkF m 96 lv4 [(.ref x_11), (.ref lst)])) st11 ?_
  have f13 := (J13.keep Kq11)
  have f14 := (J14.keep Kq11 nin0)
  have f15 := (J15.keep Kq11 nin0)
  have f16 := (J16.keep Kq11 nin0)
  have f17 := (J21.keep Kq11 nin0)
  obtain ⟨cq18, kq18, q18a, q18b, q18c⟩ := isOf hZ rfl f13
  obtain ⟨_, _, ⟨T18, L18, k18, n18⟩, -, X18, ⟨Lc18, hQ18, l18, y18, z18⟩, st18⟩ := X11.interfaceBack hx (xi := own_m42) (y := own_m36) hown (mvT hZ (w_ G 205 rfl)) (mvT hZ (w_ G 206 rfl)) (mvT hZ (w_ G 207 rfl)) (mvT hZ (w_ G 208 rfl)) (mvT hZ (w_ G 209 rfl)) (mvT hZ (w_ G 210 rfl)) (mvT hZ (w_ G 211 rfl)) (mvT hZ (w_ G 212 rfl)) (by decide) (backOf (W := 0) (rmal2 l Z a0 G [] lst mc x_11 ar kA y0 y1 T11.heap n0 O12 f13 f14 f15 f16 r11_0 (by omega) (by omega) (on (by omega)) f17 J22) hZ (w_ G 213 rfl) (w_ G 58 rfl) (by decide) (by decide)) q18a q18b q18c (g := (mkF m 96 lv4 [(.ref x_11), (.ref lst)])) rfl (by rw [hml]; rfl) (Steps.refl _) (argsL := [(.ref x_11)]) (rest := []) (lenOf pd_22 rfl) rfl (own_z rfl) (hb hby d42_96) (fun _ _ => ⟨rfl, rfl, (ol rfl), (ol rfl)⟩)
  dsimp only [Pt.U, Pt.locs, Pt.cells, Pt.slots] at X18 l18 y18 z18 st18 hQ18
  subst l18 y18 z18
  obtain ⟨rfl, N18q, Kq18, r18_0, r18_1, r18_2, r18_3, r18_4⟩ := hQ18
  have N18 := Fr.app N11 N18q
  have sz19 := Kq18.1
  have K19 := K12.trans Kq18 (own_all2 (Or.inr (by omega)) (Or.inr (by omega)))
  have O19 := O12.keep Kq18 (own_all2 (by omega) (by omega))
  have ltr18_0 := lN r18_0.lt
  have ltr18_1 := lN r18_1.lt
  have ltr18_2 := lN r18_2.lt
  have ltr18_3 := lN r18_3.lt
  have ltr18_4 := lN r18_4.lt
  refine ot (S' := T18.setTop (mkF m 101 lv4 [(.int 1)])) st18 ?_
  let lv20 : Array Slot := #[vR x0, vR ln, vR sb, vI 5, vI c2]
  refine oo (S' := T18.setTop (mkF m 27 lv20 [(.ref ln), (.int 5)])) (fun _ kK => XS.pop X18.here hx rfl (hb hby d42_101) rfl rfl (XS.goto X18.here hx rfl (pc0 := 102) (pc' := 112) rfl (hb hby d42_102) (by decide) (by decide) (XS.iinc X18.here hx rfl (hb hby d42_112) rfl (l' := lv20) rfl (XS.goto X18.here hx rfl (pc0 := 115) (pc' := 25) rfl (hb hby d42_115) (by decide) (by decide) (XS.iloadN X18.here hx rfl (hb hby d42_25) rfl (XS.aloadN X18.here hx rfl (hb hby d42_26) rfl rfl kK)))))) ?_
  have f21 := ((J3.keep Kq11).keep Kq18)
  have f22 := ((J4.keep Kq11 nin0).keep Kq18 (own_nin2 (on (by omega)) (on (by omega))))
  have f23 := ((J5.keep Kq11 nin0).keep Kq18 (own_nin2 (on (by omega)) (on (by omega))))
  have f24 := ((J6.keep Kq11 nin0).keep Kq18 (own_nin2 (on (by omega)) (on (by omega))))
  obtain ⟨cq25, kq25, q25a, q25b, q25c⟩ := isOf hZ rfl f21
  obtain ⟨_, _, ⟨T25, L25, k25, n25⟩, -, X25, ⟨Lc25, hQ25, l25, y25, z25⟩, st25⟩ := X18.virtualBack hx (y := own_m4) (z := own_m4) hown (mvT hZ (w_ G 100 rfl)) (mvT hZ (w_ G 101 rfl)) (notFace_of_selects (args := #[]) (mvT hZ (w_ G 103 rfl))) (mvT hZ (w_ G 103 rfl)) (mvT hZ (w_ G 102 rfl)) (by decide) (backOf (W := 1) (rmln0 l Z a0 G [] ln lt kl (5 : Int32) ((([c0, s0, c1, s1, c2] : List Int32).map (fun c => c.toInt8.toInt32)).map Value.int) (.int 0) T18.heap n0 O19 f21 f22 f23 f24) hZ (w_ G 104 rfl) (w_ G 9 rfl) (by decide) (by decide)) q25a q25c (g := (mkF m 27 lv20 [(.ref ln), (.int 5)])) rfl (by rw [hml]; rfl) (Steps.refl _) (argsL := []) (rest := [(.int 5)]) (lenOf pd_8 rfl) rfl (own_z rfl) (hb hby d42_27) (fun _ _ => ⟨rfl, rfl, (ol rfl), (ol rfl)⟩)
  dsimp only [Pt.U, Pt.locs, Pt.cells, Pt.slots] at X25 l25 y25 z25 st25 hQ25
  subst l25 y25 z25
  obtain ⟨rfl, N25q, eh25⟩ := hQ25
  have N25 := Fr.app N18 N25q
  refine ot (S' := T25.setTop (mkF m 30 lv20 [(.int 5), (.int 5)])) st25 ?_
  refine oo (S' := T25.setTop (mkF m 120 lv20 [(.ref sb), (.ref x0)])) (fun _ kK => XS.icmpYes X25.here hx rfl (pc0 := 30) (pc' := 118) rfl (hb hby d42_30) rfl (flt ((by decide : ¬ ((5 : Int32) < (5 : Int32))))).2.1 (by decide) (by decide) (XS.aloadN X25.here hx rfl (hb hby d42_118) rfl rfl (XS.aloadN X25.here hx rfl (hb hby d42_119) rfl rfl kK))) ?_
  have f26 := ((J7.keep Kq11).keep Kq18)
  have f27 := ((J10.keep Kq11 nin0).keep Kq18 (own_nin2 (on (by omega)) (on (by omega))))
  have f29 := ((J0.keep Kq11).keep Kq18)
  obtain ⟨cq28, kq28, q28a, q28b, cc28, q28d, -, q28e⟩ := isOf hZ eh25 f29
  obtain ⟨_, _, ⟨T28, L28, k28, n28⟩, -, X28, ⟨Lc28, hQ28, l28, y28, z28⟩, st28⟩ := X25.privateBack hx (y := own_m41) hown (mvT hZ (w_ G 154 rfl)) (mvT hZ (w_ G 155 rfl)) (own_selP (oI (mvT hZ (w_ G 254 rfl)) rfl) (mvT hZ (w_ G 155 rfl)) (Cond.privateMethod_at (args := #[]) (mvT hZ (w_ G 156 rfl))) (by decide)) (Cond.privateMethod_at (args := #[]) (mvT hZ (w_ G 156 rfl))) (mvT hZ (w_ G 157 rfl)) (by decide) (backOf (W := 0) (rmtan l Z a0 G [] x0 sb T18.heap n0 O19 f26 f27) hZ (w_ G 157 rfl) (w_ G 35 rfl) (by decide) (by decide)) (g := (mkF m 120 lv20 [(.ref sb), (.ref x0)])) rfl (by rw [hml]; rfl) (Steps.refl _) q28d (own_nost q28e) (argsL := [(.ref sb)]) (rest := []) (lenOf pd_13 rfl) rfl (own_z rfl) (hb hby d42_120) (fun _ _ => ⟨rfl, eh25, (ol rfl), (ol rfl)⟩)
  dsimp only [Pt.U, Pt.locs, Pt.cells, Pt.slots] at X28 l28 y28 z28 st28 hQ28
  subst l28 y28 z28
  obtain ⟨rfl, N28q, eh28⟩ := hQ28
  have N28 := Fr.app N25 N28q
  refine ot (S' := T28.setTop (mkF m 123 lv20 [])) st28 ?_
  have f30 := ((J1.keep Kq11 nin0).keep Kq18 (own_nin2 (on (by omega)) (on (by omega))))
  have f31 := ((J2.keep Kq11 nin0).keep Kq18 (own_nin2 (on (by omega)) (on (by omega))))
  have f32 := ((J23.keep Kq11).keep Kq18)
  have f33 := ((J24.keep Kq11 nin0).keep Kq18 (own_nin2 (on (by omega)) (on (by omega))))
  have f34 := ((J25.keep Kq11 nin0).keep Kq18 (own_nin2 (on (by omega)) (on (by omega))))
  have f35 := ((J26.keep Kq11 nin0).keep Kq18 (own_nin2 (on (by omega)) (on (by omega))))
  have f36 := ((J27.keep Kq11).keep Kq18)
  have f37 := ((J28.keep Kq11 nin0).keep Kq18 (own_nin2 (on (by omega)) (on (by omega))))
  have f38 := ((J29.keep Kq11 nin0).keep Kq18 (own_nin2 (on (by omega)) (on (by omega))))
  have f39 := ((J30.keep Kq11 nin0).keep Kq18 (own_nin2 (on (by omega)) (on (by omega))))
  have f40 := (r11_0.keep Kq18)
  have f41 := (r11_1.keep Kq18 (own_nin2 (on (by omega)) (on (by omega))))
  have f42 := (r11_2.keep Kq18 (own_nin2 (on (by omega)) (on (by omega))))
  have f43 := (r11_3.keep Kq18 (own_nin2 (on (by omega)) (on (by omega))))
  refine OwnEnd.ret X28 (v := none) (fun _ => rfl) hlk (fun fs hr => X28.returnOut hx Bd.returns (hb hby d42_123) hr) (by decide) (by decide) (Q := (own_Qtok Z x0 c0 c1 c2 aD) h0 n0) eh28 ?_
  exact ⟨rfl, N28, K19, f29, lst, (mc + (1 : Int32)), f30, f31, r18_0, (by omega), r18_1, Or.inr (Or.inr (Or.inr (⟨tk0, tk1, c2, ar, kA, y0, yt0, yk0, y1, yt1, yk1, x_11, t_11, kb_11, (J38).trans (by rw [own_nb_n (own_p32 hpa) (own_p9 hpa)]; rfl), r18_2, r18_3, r18_4, (by omega), f32, f33, f34, f35, (by omega), (by omega), f36, f37, f38, f39, (by omega), (by omega), f40, f41, f42, f43, (by omega), (by omega)⟩)))⟩
 ·refine oo (S' := T3.setTop (mkF m 108 lv4 [(.int c2), (.ref sb)])) (fun _ kK => XS.iload X3.here hx rfl (hb hby d42_40) rfl (XS.bipush X3.here hx rfl (hb hby d42_42) (XS.icmpNo X3.here hx rfl (hb hby d42_44) rfl (feq (hot.1)).1 (XS.iload X3.here hx rfl (hb hby d42_47) rfl (XS.bipush X3.here hx rfl (hb hby d42_49) (XS.icmpNo X3.here hx rfl (hb hby d42_51) rfl (feq (hot.2.1)).1 (XS.iload X3.here hx rfl (hb hby d42_54) rfl (XS.bipush X3.here hx rfl (hb hby d42_56) (XS.icmpNo X3.here hx rfl (hb hby d42_58) rfl (feq (hot.2.2.1)).1 (XS.iload X3.here hx rfl (hb hby d42_61) rfl (XS.bipush X3.here hx rfl (hb hby d42_63) (XS.icmpYes X3.here hx rfl (pc0 := 65) (pc' := 105) rfl (hb hby d42_65) rfl (feq (hot.2.2.2)).2 (by decide) (by decide) (XS.aloadN X3.here hx rfl (hb hby d42_105) rfl rfl (XS.iload X3.here hx rfl (hb hby d42_106) rfl kK)))))))))))))) ?_
  obtain ⟨cq44, kq44, q44a, q44b, q44c⟩ := isOf hZ eh3 J7
  obtain ⟨_, _, ⟨T44, L44, k44, n44⟩, -, X44, ⟨Lc44, hQ44, l44, y44, z44⟩, st44⟩ := X3.virtualBack hx (y := own_m13) (z := own_m13) hown (mvT hZ (w_ G 131 rfl)) (mvT hZ (w_ G 132 rfl)) (notFace_of_selects (args := #[]) (mvT hZ (w_ G 134 rfl))) (mvT hZ (w_ G 134 rfl)) (mvT hZ (w_ G 133 rfl)) (by decide) (backOf (W := 0) (rmsbc l Z a0 G [] sb vb kv g ml c2 hJ n0 OJ J7 J8 J9 J10 J11 J12 (P10 c2 (by simp)) (by omega) (by omega) (on (by omega))) hZ (w_ G 135 rfl) (w_ G 84 rfl) (by decide) (by decide)) q44a q44c (g := (mkF m 108 lv4 [(.int c2), (.ref sb)])) rfl (by rw [hml]; rfl) (Steps.refl _) (argsL := [(.int c2)]) (rest := []) (lenOf pd_25 rfl) rfl (own_z rfl) (hb hby d42_108) (fun _ _ => ⟨rfl, eh3, (ol rfl), (ol rfl)⟩)
  dsimp only [Pt.U, Pt.locs, Pt.cells, Pt.slots] at X44 l44 y44 z44 st44 hQ44
  subst l44 y44 z44
  obtain ⟨rfl, N44q, Kq44, r44_0, r44_1, r44_2, r44_3, r44_4, r44_5⟩ := hQ44
  have N44 := Fr.app N3 N44q
  have sz45 := Kq44.1
  have K45 := KJ.trans Kq44 (own_all2 (Or.inr (by omega)) (Or.inr (by omega)))
  have O45 := OJ.keep Kq44 (own_all2 (by omega) (by omega))
  have ltr44_0 := lN r44_0.lt
  have ltr44_1 := lN r44_1.lt
  have ltr44_2 := lN r44_2.lt
  have ltr44_3 := lN r44_3.lt
  have ltr44_4 := lN r44_4.lt
  have ltr44_5 := lN r44_5.lt
  refine ot (S' := T44.setTop (mkF m 111 lv4 [(.ref sb)])) st44 ?_
  let lv46 : Array Slot := #[vR x0, vR ln, vR sb, vI 5, vI c2]
  refine oo (S' := T44.setTop (mkF m 27 lv46 [(.ref ln), (.int 5)])) (fun _ kK => XS.pop X44.here hx rfl (hb hby d42_111) rfl rfl (XS.iinc X44.here hx rfl (hb hby d42_112) rfl (l' := lv46) rfl (XS.goto X44.here hx rfl (pc0 := 115) (pc' := 25) rfl (hb hby d42_115) (by decide) (by decide) (XS.iloadN X44.here hx rfl (hb hby d42_25) rfl (XS.aloadN X44.here hx rfl (hb hby d42_26) rfl rfl kK))))) ?_
  have f47 := (J3.keep Kq44)
  have f48 := (J4.keep Kq44 (own_nin2 (on (by omega)) (on (by omega))))
  have f49 := (J5.keep Kq44 (own_nin2 (on (by omega)) (on (by omega))))
  have f50 := (J6.keep Kq44 (own_nin2 (on (by omega)) (on (by omega))))
  obtain ⟨cq51, kq51, q51a, q51b, q51c⟩ := isOf hZ rfl f47
  obtain ⟨_, _, ⟨T51, L51, k51, n51⟩, -, X51, ⟨Lc51, hQ51, l51, y51, z51⟩, st51⟩ := X44.virtualBack hx (y := own_m4) (z := own_m4) hown (mvT hZ (w_ G 100 rfl)) (mvT hZ (w_ G 101 rfl)) (notFace_of_selects (args := #[]) (mvT hZ (w_ G 103 rfl))) (mvT hZ (w_ G 103 rfl)) (mvT hZ (w_ G 102 rfl)) (by decide) (backOf (W := 1) (rmln0 l Z a0 G [] ln lt kl (5 : Int32) ((([c0, s0, c1, s1, c2] : List Int32).map (fun c => c.toInt8.toInt32)).map Value.int) (.int 0) T44.heap n0 O45 f47 f48 f49 f50) hZ (w_ G 104 rfl) (w_ G 9 rfl) (by decide) (by decide)) q51a q51c (g := (mkF m 27 lv46 [(.ref ln), (.int 5)])) rfl (by rw [hml]; rfl) (Steps.refl _) (argsL := []) (rest := [(.int 5)]) (lenOf pd_8 rfl) rfl (own_z rfl) (hb hby d42_27) (fun _ _ => ⟨rfl, rfl, (ol rfl), (ol rfl)⟩)
  dsimp only [Pt.U, Pt.locs, Pt.cells, Pt.slots] at X51 l51 y51 z51 st51 hQ51
  subst l51 y51 z51
  obtain ⟨rfl, N51q, eh51⟩ := hQ51
  have N51 := Fr.app N44 N51q
  refine ot (S' := T51.setTop (mkF m 30 lv46 [(.int 5), (.int 5)])) st51 ?_
  refine oo (S' := T51.setTop (mkF m 120 lv46 [(.ref sb), (.ref x0)])) (fun _ kK => XS.icmpYes X51.here hx rfl (pc0 := 30) (pc' := 118) rfl (hb hby d42_30) rfl (flt ((by decide : ¬ ((5 : Int32) < (5 : Int32))))).2.1 (by decide) (by decide) (XS.aloadN X51.here hx rfl (hb hby d42_118) rfl rfl (XS.aloadN X51.here hx rfl (hb hby d42_119) rfl rfl kK))) ?_
  have f52 := (J1.keep Kq44 (own_nin2 (on (by omega)) (on (by omega))))
  have f53 := (J13.keep Kq44)
  have f54 := (J14.keep Kq44 (own_nin2 (on (by omega)) (on (by omega))))
  have f55 := (J15.keep Kq44 (own_nin2 (on (by omega)) (on (by omega))))
  have f56 := (J16.keep Kq44 (own_nin2 (on (by omega)) (on (by omega))))
  have f57 := (J21.keep Kq44 (own_nin2 (on (by omega)) (on (by omega))))
  have f59 := (J0.keep Kq44)
  obtain ⟨cq58, kq58, q58a, q58b, cc58, q58d, -, q58e⟩ := isOf hZ eh51 f59
  obtain ⟨_, _, ⟨T58, L58, k58, n58⟩, -, X58, ⟨Lc58, hQ58, l58, y58, z58⟩, st58⟩ := X51.privateBack hx (y := own_m41) hown (mvT hZ (w_ G 154 rfl)) (mvT hZ (w_ G 155 rfl)) (own_selP (oI (mvT hZ (w_ G 254 rfl)) rfl) (mvT hZ (w_ G 155 rfl)) (Cond.privateMethod_at (args := #[]) (mvT hZ (w_ G 156 rfl))) (by decide)) (Cond.privateMethod_at (args := #[]) (mvT hZ (w_ G 156 rfl))) (mvT hZ (w_ G 157 rfl)) (by decide) (backOf (W := 0) (rmta2 l Z a0 G [] x0 lst mc sb vb kv (.int (StrChars.lo8 c2)) ml ar kA y0 y1 T44.heap n0 O45 f52 r44_0 r44_1 r44_2 r44_3 r44_4 r44_5 f53 f54 f55 f56 (by omega) (by omega) (by omega) (by omega) f57 J22 (on (by omega)) (on (by omega)) (on (by omega)) (on (by omega)) (on (by omega)) (on (by omega))) hZ (w_ G 157 rfl) (w_ G 35 rfl) (by decide) (by decide)) (g := (mkF m 120 lv46 [(.ref sb), (.ref x0)])) rfl (by rw [hml]; rfl) (Steps.refl _) q58d (own_nost q58e) (argsL := [(.ref sb)]) (rest := []) (lenOf pd_13 rfl) rfl (own_z rfl) (hb hby d42_120) (fun _ _ => ⟨rfl, eh51, (ol rfl), (ol rfl)⟩)
  dsimp only [Pt.U, Pt.locs, Pt.cells, Pt.slots] at X58 l58 y58 z58 st58 hQ58
  subst l58 y58 z58
  obtain ⟨y_58, t_58, kb_58, rfl, N58q, Kq58, r58_0, r58_1, r58_2, r58_3, r58_4, r58_5, r58_6, r58_7, r58_8, r58_9, r58_10, r58_11, r58_12, r58_13, r58_14, r58_15, r58_16⟩ := hQ58
  have N58 := Fr.app N51 N58q
  have sz60 := Kq58.1
  have K60 := K45.trans Kq58 (own_all3 (Or.inr (by omega)) (Or.inr (by omega)) (Or.inr (by omega)))
  have ltr58_0 := lN r58_0.lt
  have ltr58_1 := lN r58_1.lt
  have ltr58_2 := lN r58_2.lt
  have ltr58_3 := lN r58_3.lt
  have ltr58_6 := lN r58_6.lt
  have ltr58_7 := lN r58_7.lt
  have ltr58_8 := lN r58_8.lt
  have ltr58_9 := lN r58_9.lt
  have ltr58_10 := lN r58_10.lt
  have ltr58_11 := lN r58_11.lt
  have ltr58_12 := lN r58_12.lt
  have ltr58_13 := lN r58_13.lt
  have ltr58_14 := lN r58_14.lt
  have ltr58_15 := lN r58_15.lt
  have ltr58_16 := lN r58_16.lt
  refine ot (S' := T58.setTop (mkF m 123 lv46 [])) st58 ?_
  have f61 := (f59.keep Kq58)
  have f62 := (f52.keep Kq58 (own_nin3 (on (by omega)) (on (by omega)) (on (by omega))))
  have f63 := ((J2.keep Kq44 (own_nin2 (on (by omega)) (on (by omega)))).keep Kq58 (own_nin3 (on (by omega)) (on (by omega)) (on (by omega))))
  have f64 := ((J23.keep Kq44).keep Kq58)
  have f65 := ((J24.keep Kq44 (own_nin2 (on (by omega)) (on (by omega)))).keep Kq58 (own_nin3 (on (by omega)) (on (by omega)) (on (by omega))))
  have f66 := ((J25.keep Kq44 (own_nin2 (on (by omega)) (on (by omega)))).keep Kq58 (own_nin3 (on (by omega)) (on (by omega)) (on (by omega))))
  have f67 := ((J26.keep Kq44 (own_nin2 (on (by omega)) (on (by omega)))).keep Kq58 (own_nin3 (on (by omega)) (on (by omega)) (on (by omega))))
  have f68 := ((J27.keep Kq44).keep Kq58)
  have f69 := ((J28.keep Kq44 (own_nin2 (on (by omega)) (on (by omega)))).keep Kq58 (own_nin3 (on (by omega)) (on (by omega)) (on (by omega))))
  have f70 := ((J29.keep Kq44 (own_nin2 (on (by omega)) (on (by omega)))).keep Kq58 (own_nin3 (on (by omega)) (on (by omega)) (on (by omega))))
  have f71 := ((J30.keep Kq44 (own_nin2 (on (by omega)) (on (by omega)))).keep Kq58 (own_nin3 (on (by omega)) (on (by omega)) (on (by omega))))
  refine OwnEnd.ret X58 (v := none) (fun _ => rfl) hlk (fun fs hr => X58.returnOut hx Bd.returns (hb hby d42_123) hr) (by decide) (by decide) (Q := (own_Qtok Z x0 c0 c1 c2 aD) h0 n0) rfl ?_
  exact ⟨rfl, N58, K60, f61, lst, (mc + (1 : Int32)), f62, f63, r58_6, (by omega), r58_7, Or.inr (Or.inr (Or.inr (⟨tk0, tk1, c2, ar, kA, y0, yt0, yk0, y1, yt1, yk1, y_58, t_58, kb_58, (J38).trans (by rw [own_nb_n hot.1 hot.2.1]; rfl), r58_8, r58_9, r58_10, (by omega), f64, f65, f66, f67, (by omega), (by omega), f68, f69, f70, f71, (by omega), (by omega), r58_0, r58_1, r58_2, r58_3, (by omega), (by omega)⟩)))⟩

set_option maxRecDepth 65536 in
set_option maxHeartbeats 40000000 in
theorem sft1_0 (l : Launch) (Z : State) (a0 : Array Value) (G : OwnG Z a0) (x0 : Addr) (ln : Addr) (lt : Addr) (kl : ClassId) (tv : Value) (c0 : Int32) (s0 : Int32) (c1 : Int32) (s1 : Int32) (c2 : Int32) (aD : Addr) (kD : ClassId) (h0 : Heap) (n0 : Nat) (O0 : Old Z n0 h0) (P3 : n0 ≤ x0) (P8 : x0 ≠ ln) (P9 : x0 ≠ lt) (P10 : ∀ c ∈ ([c0, s0, c1, s1, c2] : List Int32), ¬ c < (0 : Int32) ∧ ¬ (255 : Int32) < c) (P11 : s0 = (32 : Int32) ∨ s0 = (9 : Int32)) (P12 : s1 = (32 : Int32) ∨ s1 = (9 : Int32)) (P13 : Sta Z Z.heap j2 "DEFAULTCAPACITY_EMPTY_ELEMENTDATA" "[Ljava/lang/Object;" (.ref aD)) (P14 : Arv Z Z.heap aD kD (.object j4) (0 : Int32) [] .null) {p : Program} {e : Env} {s : State} {m : MethodId} {below : List Frame} {meth : Method} {cD : Code} {s₁ : State} {Sp : Spec} (Bd : BodyLoose p l own_m43 Sp B52 5 none e s m #[(.ref x0), (.ref ln)] below meth cD s₁) (hml0 : cD.maxLocals = 5) (hZ : Z.Warmed39 s.vm) {TJ : State} {locs : List Loc} (XJ : Stand p l e (rR 7 33 125 105) s m #[(.ref x0), (.ref ln)] below meth cD TJ locs 24 90) (hJ : Heap) (eJ : TJ.heap = hJ) (KJ : Keep h0 hJ [x0]) (OJ : Old Z n0 hJ) (NJ : Fr n0 locs) (szJ : Array.size h0 ≤ Array.size hJ) (lst : Addr) (mc : Int32) (sb : Addr) (vb : Addr) (kv : ClassId) (g : Value) (ml : Value) (J0 : Exa Z hJ x0 j3) (J1 : Fld Z hJ x0 j3 "tokens" "Ljava/util/List;" (.ref lst)) (J2 : Fld Z hJ x0 j3 "next" "I" (.int 0)) (J3 : Exa Z hJ ln j1) (J4 : Fld Z hJ ln j1 "value" "[B" (.ref lt)) (J5 : Fld Z hJ ln j1 "coder" "B" (.int 0)) (J6 : Arv Z hJ lt kl .byte (5 : Int32) ((([c0, s0, c1, s1, c2] : List Int32).map (fun c => c.toInt8.toInt32)).map Value.int) (.int 0)) (J7 : Exa Z hJ sb j5) (J8 : Fld Z hJ sb j0 "value" "[B" (.ref vb)) (J9 : Fld Z hJ sb j0 "coder" "B" (.int 0)) (J10 : Fld Z hJ sb j0 "count" "I" (.int 0)) (J11 : Fld Z hJ sb j0 "maybeLatin1" "Z" ml) (J12 : Arv Z hJ vb kv .byte (16 : Int32) [g, (.int 0), (.int 0), (.int 0), (.int 0), (.int 0), (.int 0), (.int 0), (.int 0), (.int 0), (.int 0), (.int 0), (.int 0), (.int 0), (.int 0), (.int 0)] (.int 0)) (J13 : Exa Z hJ lst j2) (J14 : Fld Z hJ lst j6 "modCount" "I" (.int mc)) (J15 : Fld Z hJ lst j2 "elementData" "[Ljava/lang/Object;" (.ref aD)) (J16 : Fld Z hJ lst j2 "size" "I" (.int 0)) (J17 : n0 ≤ lst) (J18 : n0 ≤ sb) (J19 : n0 ≤ vb) (J20 : Array.size h0 ≤ lst) (J21 : own_ord [lst, sb, vb]) (J22 : @LT.lt Nat instLTNat x0 (Array.size h0)) (J23 : @LT.lt Nat instLTNat ln (Array.size h0)) (J24 : @LT.lt Nat instLTNat lt (Array.size h0)) (J25 : own_nb [c0, c1, c2] = own_nb [c1, c2]) :
  OwnEnd p e below (fun o t => ∃ v L, o = .returned v ∧ (own_Qtok Z x0 c0 c1 c2 aD) h0 n0 v t.heap L ∧ FrameEnd s o t L (rR 7 33 125 105).cells (rR 7 33 125 105).slots) (TJ.setTop (mkF m 25 #[vR x0, vR ln, vR sb, vI 2, vI s0] [])) := by
 have hx := Bd.exec
 have hby := Bd.bytes
 have hml : cD.maxLocals = 5 := hml0
 have hown : s.vm.findClass j3 = some m.cls := findClass_of_methodNamed Bd.named
 have hlk := Bd.notSynchronized
 have ltJ0 := lN J0.lt
 have ltJ1 := lN J1.lt
 have ltJ2 := lN J2.lt
 have ltJ3 := lN J3.lt
 have ltJ4 := lN J4.lt
 have ltJ5 := lN J5.lt
 have ltJ6 := lN J6.lt
 have ltJ7 := lN J7.lt
 have ltJ8 := lN J8.lt
 have ltJ9 := lN J9.lt
 have ltJ10 := lN J10.lt
 have ltJ11 := lN J11.lt
 have ltJ12 := lN J12.lt
 have ltJ13 := lN J13.lt
 have ltJ14 := lN J14.lt
 have ltJ15 := lN J15.lt
 have ltJ16 := lN J16.lt
 have Z0 := own_old_le O0
 have hord := J21
 simp only [own_ord, and_true] at hord
 have ltD : @LT.lt Nat instLTNat aD n0 := lN (O0.1 ▸ P14.lt)
 let lv1 : Array Slot := #[vR x0, vR ln, vR sb, vI 2, vI s0]
 refine oo (S' := TJ.setTop (mkF m 27 lv1 [(.ref ln), (.int 2)])) (fun _ kK => XS.iloadN XJ.here hx rfl (hb hby d42_25) rfl (XS.aloadN XJ.here hx rfl (hb hby d42_26) rfl rfl kK)) ?_
 obtain ⟨cq2, kq2, q2a, q2b, q2c⟩ := isOf hZ eJ J3
 obtain ⟨_, _, ⟨T2, L2, k2, n2⟩, -, X2, ⟨Lc2, hQ2, l2, y2, z2⟩, st2⟩ := XJ.virtualBack hx (y := own_m4) (z := own_m4) hown (mvT hZ (w_ G 100 rfl)) (mvT hZ (w_ G 101 rfl)) (notFace_of_selects (args := #[]) (mvT hZ (w_ G 103 rfl))) (mvT hZ (w_ G 103 rfl)) (mvT hZ (w_ G 102 rfl)) (by decide) (backOf (W := 1) (rmln0 l Z a0 G [] ln lt kl (5 : Int32) ((([c0, s0, c1, s1, c2] : List Int32).map (fun c => c.toInt8.toInt32)).map Value.int) (.int 0) hJ n0 OJ J3 J4 J5 J6) hZ (w_ G 104 rfl) (w_ G 9 rfl) (by decide) (by decide)) q2a q2c (g := (mkF m 27 lv1 [(.ref ln), (.int 2)])) rfl (by rw [hml]; rfl) (Steps.refl _) (argsL := []) (rest := [(.int 2)]) (lenOf pd_8 rfl) rfl (own_z rfl) (hb hby d42_27) (fun _ _ => ⟨rfl, eJ, (ol rfl), (ol rfl)⟩)
 dsimp only [Pt.U, Pt.locs, Pt.cells, Pt.slots] at X2 l2 y2 z2 st2 hQ2
 subst l2 y2 z2
 obtain ⟨rfl, N2q, eh2⟩ := hQ2
 have N2 := Fr.app NJ N2q
 refine ot (S' := T2.setTop (mkF m 30 lv1 [(.int 5), (.int 2)])) st2 ?_
 refine oo (S' := T2.setTop (mkF m 35 lv1 [(.int 2), (.ref ln)])) (fun _ kK => XS.icmpNo X2.here hx rfl (hb hby d42_30) rfl (tlt ((by decide : (2 : Int32) < (5 : Int32)))).2.1 (XS.aloadN X2.here hx rfl (hb hby d42_33) rfl rfl (XS.iloadN X2.here hx rfl (hb hby d42_34) rfl kK))) ?_
 obtain ⟨cq3, kq3, q3a, q3b, q3c⟩ := isOf hZ eh2 J3
 obtain ⟨_, _, ⟨T3, L3, k3, n3⟩, -, X3, ⟨Lc3, hQ3, l3, y3, z3⟩, st3⟩ := X2.virtualBack hx (y := own_m6) (z := own_m6) hown (mvT hZ (w_ G 110 rfl)) (mvT hZ (w_ G 111 rfl)) (notFace_of_selects (args := #[]) (mvT hZ (w_ G 113 rfl))) (mvT hZ (w_ G 113 rfl)) (mvT hZ (w_ G 112 rfl)) (by decide) (backOf (W := 0) (rmcA0 l Z a0 G [] ln lt kl (5 : Int32) ((([c0, s0, c1, s1, c2] : List Int32).map (fun c => c.toInt8.toInt32)).map Value.int) (.int 0) (2 : Int32) c1 hJ n0 OJ J3 J4 J5 J6 (by decide) (by decide) (by rfl) (P10 c1 (by simp))) hZ (w_ G 114 rfl) (w_ G 9 rfl) (by decide) (by decide)) q3a q3c (g := (mkF m 35 lv1 [(.int 2), (.ref ln)])) rfl (by rw [hml]; rfl) (Steps.refl _) (argsL := [(.int 2)]) (rest := []) (lenOf pd_23 rfl) rfl (own_z rfl) (hb hby d42_35) (fun _ _ => ⟨rfl, eh2, (ol rfl), (ol rfl)⟩)
 dsimp only [Pt.U, Pt.locs, Pt.cells, Pt.slots] at X3 l3 y3 z3 st3 hQ3
 subst l3 y3 z3
 obtain ⟨rfl, N3q, eh3⟩ := hQ3
 have N3 := Fr.app N2 N3q
 refine ot (S' := T3.setTop (mkF m 38 lv1 [(.int c1)])) st3 ?_
 let lv4 : Array Slot := #[vR x0, vR ln, vR sb, vI 2, vI c1]
 refine oo (S' := T3.setTop (mkF m 40 lv4 [])) (fun _ kK => XS.istore X3.here hx rfl (hb hby d42_38) rfl (l' := lv4) rfl kK) ?_
 rcases own_kind c1 with hbl | hpa | hot
 ·refine oo (S' := T3.setTop (mkF m 68 lv4 [])) (fun _ kK => Or.elim hbl (fun hz => XS.iload X3.here hx rfl (hb hby d42_40) rfl (XS.bipush X3.here hx rfl (hb hby d42_42) (XS.icmpYes X3.here hx rfl (pc0 := 44) (pc' := 68) rfl (hb hby d42_44) rfl (teq (hz)).1 (by decide) (by decide) kK))) (fun hz => XS.iload X3.here hx rfl (hb hby d42_40) rfl (XS.bipush X3.here hx rfl (hb hby d42_42) (XS.icmpNo X3.here hx rfl (hb hby d42_44) rfl (feq ((fun q => absurd (hz.symm.trans q) (by decide)))).1 (XS.iload X3.here hx rfl (hb hby d42_47) rfl (XS.bipush X3.here hx rfl (hb hby d42_49) (XS.icmpYes X3.here hx rfl (pc0 := 51) (pc' := 68) rfl (hb hby d42_51) rfl (teq (hz)).1 (by decide) (by decide) kK))))))) ?_
  refine oo (S' := T3.setTop (mkF m 70 lv4 [(.ref sb), (.ref x0)])) (fun _ kK => XS.aloadN X3.here hx rfl (hb hby d42_68) rfl rfl (XS.aloadN X3.here hx rfl (hb hby d42_69) rfl rfl kK)) ?_
  obtain ⟨cq5, kq5, q5a, q5b, cc5, q5d, -, q5e⟩ := isOf hZ eh3 J0
  obtain ⟨_, _, ⟨T5, L5, k5, n5⟩, -, X5, ⟨Lc5, hQ5, l5, y5, z5⟩, st5⟩ := X3.privateBack hx (y := own_m41) hown (mvT hZ (w_ G 154 rfl)) (mvT hZ (w_ G 155 rfl)) (own_selP (oI (mvT hZ (w_ G 254 rfl)) rfl) (mvT hZ (w_ G 155 rfl)) (Cond.privateMethod_at (args := #[]) (mvT hZ (w_ G 156 rfl))) (by decide)) (Cond.privateMethod_at (args := #[]) (mvT hZ (w_ G 156 rfl))) (mvT hZ (w_ G 157 rfl)) (by decide) (backOf (W := 0) (rmtan l Z a0 G [] x0 sb hJ n0 OJ J7 J10) hZ (w_ G 157 rfl) (w_ G 35 rfl) (by decide) (by decide)) (g := (mkF m 70 lv4 [(.ref sb), (.ref x0)])) rfl (by rw [hml]; rfl) (Steps.refl _) q5d (own_nost q5e) (argsL := [(.ref sb)]) (rest := []) (lenOf pd_13 rfl) rfl (own_z rfl) (hb hby d42_70) (fun _ _ => ⟨rfl, eh3, (ol rfl), (ol rfl)⟩)
  dsimp only [Pt.U, Pt.locs, Pt.cells, Pt.slots] at X5 l5 y5 z5 st5 hQ5
  subst l5 y5 z5
  obtain ⟨rfl, N5q, eh5⟩ := hQ5
  have N5 := Fr.app N3 N5q
  refine ot (S' := T5.setTop (mkF m 73 lv4 [])) st5 ?_
  let lv6 : Array Slot := #[vR x0, vR ln, vR sb, vI 3, vI c1]
  refine oo (S' := T5.setTop (mkF m 27 lv6 [(.ref ln), (.int 3)])) (fun _ kK => XS.iload X5.here hx rfl (hb hby d42_73) rfl (XS.bipush X5.here hx rfl (hb hby d42_75) (XS.icmpNo X5.here hx rfl (hb hby d42_77) rfl (feq ((own_b40 hbl))).1 (XS.iload X5.here hx rfl (hb hby d42_80) rfl (XS.bipush X5.here hx rfl (hb hby d42_82) (XS.icmpYes X5.here hx rfl (pc0 := 84) (pc' := 112) rfl (hb hby d42_84) rfl (feq ((own_b41 hbl))).2 (by decide) (by decide) (XS.iinc X5.here hx rfl (hb hby d42_112) rfl (l' := lv6) rfl (XS.goto X5.here hx rfl (pc0 := 115) (pc' := 25) rfl (hb hby d42_115) (by decide) (by decide) (XS.iloadN X5.here hx rfl (hb hby d42_25) rfl (XS.aloadN X5.here hx rfl (hb hby d42_26) rfl rfl kK)))))))))) ?_
  obtain ⟨cq7, kq7, q7a, q7b, q7c⟩ := isOf hZ eh5 J3
  obtain ⟨_, _, ⟨T7, L7, k7, n7⟩, -, X7, ⟨Lc7, hQ7, l7, y7, z7⟩, st7⟩ := X5.virtualBack hx (y := own_m4) (z := own_m4) hown (mvT hZ (w_ G 100 rfl)) (mvT hZ (w_ G 101 rfl)) (notFace_of_selects (args := #[]) (mvT hZ (w_ G 103 rfl))) (mvT hZ (w_ G 103 rfl)) (mvT hZ (w_ G 102 rfl)) (by decide) (backOf (W := 1) (rmln0 l Z a0 G [] ln lt kl (5 : Int32) ((([c0, s0, c1, s1, c2] : List Int32).map (fun c => c.toInt8.toInt32)).map Value.int) (.int 0) hJ n0 OJ J3 J4 J5 J6) hZ (w_ G 104 rfl) (w_ G 9 rfl) (by decide) (by decide)) q7a q7c (g := (mkF m 27 lv6 [(.ref ln), (.int 3)])) rfl (by rw [hml]; rfl) (Steps.refl _) (argsL := []) (rest := [(.int 3)]) (lenOf pd_8 rfl) rfl (own_z rfl) (hb hby d42_27) (fun _ _ => ⟨rfl, eh5, (ol rfl), (ol rfl)⟩)
  dsimp only [Pt.U, Pt.locs, Pt.cells, Pt.slots] at X7 l7 y7 z7 st7 hQ7
  subst l7 y7 z7
  obtain ⟨rfl, N7q, eh7⟩ := hQ7
  have N7 := Fr.app N5 N7q
  refine ot (S' := T7.setTop (mkF m 30 lv6 [(.int 5), (.int 3)])) st7 ?_
  refine oo (S' := T7.setTop (mkF m 35 lv6 [(.int 3), (.ref ln)])) (fun _ kK => XS.icmpNo X7.here hx rfl (hb hby d42_30) rfl (tlt ((by decide : (3 : Int32) < (5 : Int32)))).2.1 (XS.aloadN X7.here hx rfl (hb hby d42_33) rfl rfl (XS.iloadN X7.here hx rfl (hb hby d42_34) rfl kK))) ?_
  obtain ⟨cq8, kq8, q8a, q8b, q8c⟩ := isOf hZ eh7 J3
  obtain ⟨_, _, ⟨T8, L8, k8, n8⟩, -, X8, ⟨Lc8, hQ8, l8, y8, z8⟩, st8⟩ := X7.virtualBack hx (y := own_m6) (z := own_m6) hown (mvT hZ (w_ G 110 rfl)) (mvT hZ (w_ G 111 rfl)) (notFace_of_selects (args := #[]) (mvT hZ (w_ G 113 rfl))) (mvT hZ (w_ G 113 rfl)) (mvT hZ (w_ G 112 rfl)) (by decide) (backOf (W := 0) (rmcA0 l Z a0 G [] ln lt kl (5 : Int32) ((([c0, s0, c1, s1, c2] : List Int32).map (fun c => c.toInt8.toInt32)).map Value.int) (.int 0) (3 : Int32) s1 hJ n0 OJ J3 J4 J5 J6 (by decide) (by decide) (by rfl) (P10 s1 (by simp))) hZ (w_ G 114 rfl) (w_ G 9 rfl) (by decide) (by decide)) q8a q8c (g := (mkF m 35 lv6 [(.int 3), (.ref ln)])) rfl (by rw [hml]; rfl) (Steps.refl _) (argsL := [(.int 3)]) (rest := []) (lenOf pd_23 rfl) rfl (own_z rfl) (hb hby d42_35) (fun _ _ => ⟨rfl, eh7, (ol rfl), (ol rfl)⟩)
  dsimp only [Pt.U, Pt.locs, Pt.cells, Pt.slots] at X8 l8 y8 z8 st8 hQ8
  subst l8 y8 z8
  obtain ⟨rfl, N8q, eh8⟩ := hQ8
  have N8 := Fr.app N7 N8q
  refine ot (S' := T8.setTop (mkF m 38 lv6 [(.int s1)])) st8 ?_
  let lv9 : Array Slot := #[vR x0, vR ln, vR sb, vI 3, vI s1]
  refine oo (S' := T8.setTop (mkF m 40 lv9 [])) (fun _ kK => XS.istore X8.here hx rfl (hb hby d42_38) rfl (l' := lv9) rfl kK) ?_
  refine oo (S' := T8.setTop (mkF m 68 lv9 [])) (fun _ kK => Or.elim P12 (fun hz => XS.iload X8.here hx rfl (hb hby d42_40) rfl (XS.bipush X8.here hx rfl (hb hby d42_42) (XS.icmpYes X8.here hx rfl (pc0 := 44) (pc' := 68) rfl (hb hby d42_44) rfl (teq (hz)).1 (by decide) (by decide) kK))) (fun hz => XS.iload X8.here hx rfl (hb hby d42_40) rfl (XS.bipush X8.here hx rfl (hb hby d42_42) (XS.icmpNo X8.here hx rfl (hb hby d42_44) rfl (feq ((fun q => absurd (hz.symm.trans q) (by decide)))).1 (XS.iload X8.here hx rfl (hb hby d42_47) rfl (XS.bipush X8.here hx rfl (hb hby d42_49) (XS.icmpYes X8.here hx rfl (pc0 := 51) (pc' := 68) rfl (hb hby d42_51) rfl (teq (hz)).1 (by decide) (by decide) kK))))))) ?_
  refine oo (S' := T8.setTop (mkF m 70 lv9 [(.ref sb), (.ref x0)])) (fun _ kK => XS.aloadN X8.here hx rfl (hb hby d42_68) rfl rfl (XS.aloadN X8.here hx rfl (hb hby d42_69) rfl rfl kK)) ?_
  obtain ⟨cq10, kq10, q10a, q10b, cc10, q10d, -, q10e⟩ := isOf hZ eh8 J0
  obtain ⟨_, _, ⟨T10, L10, k10, n10⟩, -, X10, ⟨Lc10, hQ10, l10, y10, z10⟩, st10⟩ := X8.privateBack hx (y := own_m41) hown (mvT hZ (w_ G 154 rfl)) (mvT hZ (w_ G 155 rfl)) (own_selP (oI (mvT hZ (w_ G 254 rfl)) rfl) (mvT hZ (w_ G 155 rfl)) (Cond.privateMethod_at (args := #[]) (mvT hZ (w_ G 156 rfl))) (by decide)) (Cond.privateMethod_at (args := #[]) (mvT hZ (w_ G 156 rfl))) (mvT hZ (w_ G 157 rfl)) (by decide) (backOf (W := 0) (rmtan l Z a0 G [] x0 sb hJ n0 OJ J7 J10) hZ (w_ G 157 rfl) (w_ G 35 rfl) (by decide) (by decide)) (g := (mkF m 70 lv9 [(.ref sb), (.ref x0)])) rfl (by rw [hml]; rfl) (Steps.refl _) q10d (own_nost q10e) (argsL := [(.ref sb)]) (rest := []) (lenOf pd_13 rfl) rfl (own_z rfl) (hb hby d42_70) (fun _ _ => ⟨rfl, eh8, (ol rfl), (ol rfl)⟩)
  dsimp only [Pt.U, Pt.locs, Pt.cells, Pt.slots] at X10 l10 y10 z10 st10 hQ10
  subst l10 y10 z10
  obtain ⟨rfl, N10q, eh10⟩ := hQ10
  have N10 := Fr.app N8 N10q
  refine ot (S' := T10.setTop (mkF m 73 lv9 [])) st10 ?_
  let lv11 : Array Slot := #[vR x0, vR ln, vR sb, vI 4, vI s1]
  refine oo (S' := T10.setTop (mkF m 25 lv11 [])) (fun _ kK => XS.iload X10.here hx rfl (hb hby d42_73) rfl (XS.bipush X10.here hx rfl (hb hby d42_75) (XS.icmpNo X10.here hx rfl (hb hby d42_77) rfl (feq ((own_b40 P12))).1 (XS.iload X10.here hx rfl (hb hby d42_80) rfl (XS.bipush X10.here hx rfl (hb hby d42_82) (XS.icmpYes X10.here hx rfl (pc0 := 84) (pc' := 112) rfl (hb hby d42_84) rfl (feq ((own_b41 P12))).2 (by decide) (by decide) (XS.iinc X10.here hx rfl (hb hby d42_112) rfl (l' := lv11) rfl (XS.goto X10.here hx rfl (pc0 := 115) (pc' := 25) rfl (hb hby d42_115) (by decide) (by decide) kK)))))))) ?_
  exact sft2_0 l Z a0 G x0 ln lt kl tv c0 s0 c1 s1 c2 aD kD h0 n0 O0 P3 P8 P9 P10 P11 P12 P13 P14 Bd hml0 hZ (X10.more (by decide) (by decide)) hJ eh10 KJ OJ N10 (by omega) lst mc sb vb kv g ml J0 J1 J2 J3 J4 J5 J6 J7 J8 J9 J10 J11 J12 J13 J14 J15 J16 (by omega) (by omega) (by omega) (by omega) (by simp only [own_ord, and_true]; omega) (by omega) (by omega) (by omega) ((J25).trans (by rw [own_nb_b hbl]))
 ·refine oo (S' := T3.setTop (mkF m 68 lv4 [])) (fun _ kK => Or.elim hpa (fun hz => XS.iload X3.here hx rfl (hb hby d42_40) rfl (XS.bipush X3.here hx rfl (hb hby d42_42) (XS.icmpNo X3.here hx rfl (hb hby d42_44) rfl (feq ((fun q => absurd (hz.symm.trans q) (by decide)))).1 (XS.iload X3.here hx rfl (hb hby d42_47) rfl (XS.bipush X3.here hx rfl (hb hby d42_49) (XS.icmpNo X3.here hx rfl (hb hby d42_51) rfl (feq ((fun q => absurd (hz.symm.trans q) (by decide)))).1 (XS.iload X3.here hx rfl (hb hby d42_54) rfl (XS.bipush X3.here hx rfl (hb hby d42_56) (XS.icmpYes X3.here hx rfl (pc0 := 58) (pc' := 68) rfl (hb hby d42_58) rfl (teq (hz)).1 (by decide) (by decide) kK))))))))) (fun hz => XS.iload X3.here hx rfl (hb hby d42_40) rfl (XS.bipush X3.here hx rfl (hb hby d42_42) (XS.icmpNo X3.here hx rfl (hb hby d42_44) rfl (feq ((fun q => absurd (hz.symm.trans q) (by decide)))).1 (XS.iload X3.here hx rfl (hb hby d42_47) rfl (XS.bipush X3.here hx rfl (hb hby d42_49) (XS.icmpNo X3.here hx rfl (hb hby d42_51) rfl (feq ((fun q => absurd (hz.symm.trans q) (by decide)))).1 (XS.iload X3.here hx rfl (hb hby d42_54) rfl (XS.bipush X3.here hx rfl (hb hby d42_56) (XS.icmpNo X3.here hx rfl (hb hby d42_58) rfl (feq ((fun q => absurd (hz.symm.trans q) (by decide)))).1 (XS.iload X3.here hx rfl (hb hby d42_61) rfl (XS.bipush X3.here hx rfl (hb hby d42_63) (XS.icmpNo X3.here hx rfl (hb hby d42_65) rfl (teq (hz)).2 kK))))))))))))) ?_
  refine oo (S' := T3.setTop (mkF m 70 lv4 [(.ref sb), (.ref x0)])) (fun _ kK => XS.aloadN X3.here hx rfl (hb hby d42_68) rfl rfl (XS.aloadN X3.here hx rfl (hb hby d42_69) rfl rfl kK)) ?_
  obtain ⟨cq12, kq12, q12a, q12b, cc12, q12d, -, q12e⟩ := isOf hZ eh3 J0
  obtain ⟨_, _, ⟨T12, L12, k12, n12⟩, -, X12, ⟨Lc12, hQ12, l12, y12, z12⟩, st12⟩ := X3.privateBack hx (y := own_m41) hown (mvT hZ (w_ G 154 rfl)) (mvT hZ (w_ G 155 rfl)) (own_selP (oI (mvT hZ (w_ G 254 rfl)) rfl) (mvT hZ (w_ G 155 rfl)) (Cond.privateMethod_at (args := #[]) (mvT hZ (w_ G 156 rfl))) (by decide)) (Cond.privateMethod_at (args := #[]) (mvT hZ (w_ G 156 rfl))) (mvT hZ (w_ G 157 rfl)) (by decide) (backOf (W := 0) (rmtan l Z a0 G [] x0 sb hJ n0 OJ J7 J10) hZ (w_ G 157 rfl) (w_ G 35 rfl) (by decide) (by decide)) (g := (mkF m 70 lv4 [(.ref sb), (.ref x0)])) rfl (by rw [hml]; rfl) (Steps.refl _) q12d (own_nost q12e) (argsL := [(.ref sb)]) (rest := []) (lenOf pd_13 rfl) rfl (own_z rfl) (hb hby d42_70) (fun _ _ => ⟨rfl, eh3, (ol rfl), (ol rfl)⟩)
  dsimp only [Pt.U, Pt.locs, Pt.cells, Pt.slots] at X12 l12 y12 z12 st12 hQ12
  subst l12 y12 z12
  obtain ⟨rfl, N12q, eh12⟩ := hQ12
  have N12 := Fr.app N3 N12q
  refine ot (S' := T12.setTop (mkF m 73 lv4 [])) st12 ?_
  refine oo (S' := T12.setTop (mkF m 87 lv4 [])) (fun _ kK => Or.elim hpa (fun hz => XS.iload X12.here hx rfl (hb hby d42_73) rfl (XS.bipush X12.here hx rfl (hb hby d42_75) (XS.icmpYes X12.here hx rfl (pc0 := 77) (pc' := 87) rfl (hb hby d42_77) rfl (teq (hz)).1 (by decide) (by decide) kK))) (fun hz => XS.iload X12.here hx rfl (hb hby d42_73) rfl (XS.bipush X12.here hx rfl (hb hby d42_75) (XS.icmpNo X12.here hx rfl (hb hby d42_77) rfl (feq ((fun q => absurd (hz.symm.trans q) (by decide)))).1 (XS.iload X12.here hx rfl (hb hby d42_80) rfl (XS.bipush X12.here hx rfl (hb hby d42_82) (XS.icmpNo X12.here hx rfl (hb hby d42_84) rfl (teq (hz)).2 kK))))))) ?_
  refine oo (S' := T12.setTop (mkF m 88 lv4 [(.ref x0)])) (fun _ kK => XS.aloadN X12.here hx rfl (hb hby d42_87) rfl rfl kK) ?_
  obtain ⟨T13, X13, e13, st13⟩ := getF X12 hx hZ hown (host := "") (Or.inl (w_ G 80 rfl)) Via.refl eh12 J1 (g := (mkF m 88 lv4 [(.ref x0)])) rfl rfl (hb hby d42_88)
  refine oo (S' := T13.setTop (mkF m 91 lv4 [(.ref lst)])) st13 ?_
  refine oo (S' := T13.setTop (mkF m 93 lv4 [(.int c1), (.ref lst)])) (fun _ kK => XS.iload X13.here hx rfl (hb hby d42_91) rfl kK) ?_
  obtain ⟨_, _, ⟨T14, L14, k14, n14⟩, -, X14, ⟨Lc14, hQ14, l14, y14, z14⟩, st14⟩ := Jvm.LawKit.callS X13 hx (y := own_m28) hown (mvT hZ (w_ G 298 rfl)) (mvT hZ (w_ G 8 rfl)) (mvT hZ (w_ G 9 rfl)) (mvT hZ (w_ G 10 rfl)) (by decide) (backOf (W := 1) (rmvo l Z a0 G [] c1 hJ n0 OJ (P10 c1 (by simp))) hZ (w_ G 10 rfl) (w_ G 9 rfl) (by decide) (by decide)) (g := (mkF m 93 lv4 [(.int c1), (.ref lst)])) rfl (by rw [hml]; rfl) (argsL := [(.int c1)]) (rest := [(.ref lst)]) (lenOf pd_24 rfl) rfl (own_z rfl) (hb hby d42_93) (fun _ _ => ⟨rfl, e13, (ol rfl), (ol rfl)⟩)
  dsimp only [Pt.U, Pt.locs, Pt.cells, Pt.slots] at X14 l14 y14 z14 st14 hQ14
  subst l14 y14 z14
  obtain ⟨x_14, t_14, kb_14, rfl, N14q, Kq14, r14_0, r14_1, r14_2, r14_3, r14_4, r14_5⟩ := hQ14
  have N14 := Fr.app N12 N14q
  have sz15 := Kq14.1
  have K15 := KJ.trans Kq14 (own_all0 )
  have O15 := OJ.keep Kq14 (own_all0 )
  have ltr14_0 := lN r14_0.lt
  have ltr14_1 := lN r14_1.lt
  have ltr14_2 := lN r14_2.lt
  have ltr14_3 := lN r14_3.lt
  refine oo (S' := T14.setTop (mkF m 96 lv4 [(.ref x_14), (.ref lst)])) st14 ?_
  have f16 := (J13.keep Kq14)
  have f17 := (J14.keep Kq14 nin0)
  have f18 := (J15.keep Kq14 nin0)
  have f19 := (J16.keep Kq14 nin0)
  obtain ⟨cq20, kq20, q20a, q20b, q20c⟩ := isOf hZ rfl f16
  obtain ⟨_, _, ⟨T20, L20, k20, n20⟩, -, X20, ⟨Lc20, hQ20, l20, y20, z20⟩, st20⟩ := X14.interfaceBack hx (xi := own_m42) (y := own_m36) hown (mvT hZ (w_ G 205 rfl)) (mvT hZ (w_ G 206 rfl)) (mvT hZ (w_ G 207 rfl)) (mvT hZ (w_ G 208 rfl)) (mvT hZ (w_ G 209 rfl)) (mvT hZ (w_ G 210 rfl)) (mvT hZ (w_ G 211 rfl)) (mvT hZ (w_ G 212 rfl)) (by decide) (backOf (W := 0) (rmal0 l Z a0 G [] lst mc x_14 aD kD T14.heap n0 O15 f16 f17 f18 f19 r14_0 (by omega) P13 P14) hZ (w_ G 213 rfl) (w_ G 58 rfl) (by decide) (by decide)) q20a q20b q20c (g := (mkF m 96 lv4 [(.ref x_14), (.ref lst)])) rfl (by rw [hml]; rfl) (Steps.refl _) (argsL := [(.ref x_14)]) (rest := []) (lenOf pd_22 rfl) rfl (own_z rfl) (hb hby d42_96) (fun _ _ => ⟨rfl, rfl, (ol rfl), (ol rfl)⟩)
  dsimp only [Pt.U, Pt.locs, Pt.cells, Pt.slots] at X20 l20 y20 z20 st20 hQ20
  subst l20 y20 z20
  obtain ⟨ar_20, kA_20, rfl, N20q, Kq20, r20_0, r20_1, r20_2, r20_3, r20_4, r20_5, r20_6⟩ := hQ20
  have N20 := Fr.app N14 N20q
  have sz21 := Kq20.1
  have K21 := K15.trans Kq20 (own_all1 (Or.inr (by omega)))
  have O21 := O15.keep Kq20 (own_all1 (by omega))
  have ltr20_0 := lN r20_0.lt
  have ltr20_1 := lN r20_1.lt
  have ltr20_2 := lN r20_2.lt
  have ltr20_3 := lN r20_3.lt
  have ltr20_4 := lN r20_4.lt
  refine ot (S' := T20.setTop (mkF m 101 lv4 [(.int 1)])) st20 ?_
  let lv22 : Array Slot := #[vR x0, vR ln, vR sb, vI 3, vI c1]
  refine oo (S' := T20.setTop (mkF m 27 lv22 [(.ref ln), (.int 3)])) (fun _ kK => XS.pop X20.here hx rfl (hb hby d42_101) rfl rfl (XS.goto X20.here hx rfl (pc0 := 102) (pc' := 112) rfl (hb hby d42_102) (by decide) (by decide) (XS.iinc X20.here hx rfl (hb hby d42_112) rfl (l' := lv22) rfl (XS.goto X20.here hx rfl (pc0 := 115) (pc' := 25) rfl (hb hby d42_115) (by decide) (by decide) (XS.iloadN X20.here hx rfl (hb hby d42_25) rfl (XS.aloadN X20.here hx rfl (hb hby d42_26) rfl rfl kK)))))) ?_
  have f23 := ((J3.keep Kq14).keep Kq20)
  have f24 := ((J4.keep Kq14 nin0).keep Kq20 (own_nin1 (on (by omega))))
  have f25 := ((J5.keep Kq14 nin0).keep Kq20 (own_nin1 (on (by omega))))
  have f26 := ((J6.keep Kq14 nin0).keep Kq20 (own_nin1 (on (by omega))))
  obtain ⟨cq27, kq27, q27a, q27b, q27c⟩ := isOf hZ rfl f23
  obtain ⟨_, _, ⟨T27, L27, k27, n27⟩, -, X27, ⟨Lc27, hQ27, l27, y27, z27⟩, st27⟩ := X20.virtualBack hx (y := own_m4) (z := own_m4) hown (mvT hZ (w_ G 100 rfl)) (mvT hZ (w_ G 101 rfl)) (notFace_of_selects (args := #[]) (mvT hZ (w_ G 103 rfl))) (mvT hZ (w_ G 103 rfl)) (mvT hZ (w_ G 102 rfl)) (by decide) (backOf (W := 1) (rmln0 l Z a0 G [] ln lt kl (5 : Int32) ((([c0, s0, c1, s1, c2] : List Int32).map (fun c => c.toInt8.toInt32)).map Value.int) (.int 0) T20.heap n0 O21 f23 f24 f25 f26) hZ (w_ G 104 rfl) (w_ G 9 rfl) (by decide) (by decide)) q27a q27c (g := (mkF m 27 lv22 [(.ref ln), (.int 3)])) rfl (by rw [hml]; rfl) (Steps.refl _) (argsL := []) (rest := [(.int 3)]) (lenOf pd_8 rfl) rfl (own_z rfl) (hb hby d42_27) (fun _ _ => ⟨rfl, rfl, (ol rfl), (ol rfl)⟩)
  dsimp only [Pt.U, Pt.locs, Pt.cells, Pt.slots] at X27 l27 y27 z27 st27 hQ27
  subst l27 y27 z27
  obtain ⟨rfl, N27q, eh27⟩ := hQ27
  have N27 := Fr.app N20 N27q
  refine ot (S' := T27.setTop (mkF m 30 lv22 [(.int 5), (.int 3)])) st27 ?_
  refine oo (S' := T27.setTop (mkF m 35 lv22 [(.int 3), (.ref ln)])) (fun _ kK => XS.icmpNo X27.here hx rfl (hb hby d42_30) rfl (tlt ((by decide : (3 : Int32) < (5 : Int32)))).2.1 (XS.aloadN X27.here hx rfl (hb hby d42_33) rfl rfl (XS.iloadN X27.here hx rfl (hb hby d42_34) rfl kK))) ?_
  obtain ⟨cq28, kq28, q28a, q28b, q28c⟩ := isOf hZ eh27 f23
  obtain ⟨_, _, ⟨T28, L28, k28, n28⟩, -, X28, ⟨Lc28, hQ28, l28, y28, z28⟩, st28⟩ := X27.virtualBack hx (y := own_m6) (z := own_m6) hown (mvT hZ (w_ G 110 rfl)) (mvT hZ (w_ G 111 rfl)) (notFace_of_selects (args := #[]) (mvT hZ (w_ G 113 rfl))) (mvT hZ (w_ G 113 rfl)) (mvT hZ (w_ G 112 rfl)) (by decide) (backOf (W := 0) (rmcA0 l Z a0 G [] ln lt kl (5 : Int32) ((([c0, s0, c1, s1, c2] : List Int32).map (fun c => c.toInt8.toInt32)).map Value.int) (.int 0) (3 : Int32) s1 T20.heap n0 O21 f23 f24 f25 f26 (by decide) (by decide) (by rfl) (P10 s1 (by simp))) hZ (w_ G 114 rfl) (w_ G 9 rfl) (by decide) (by decide)) q28a q28c (g := (mkF m 35 lv22 [(.int 3), (.ref ln)])) rfl (by rw [hml]; rfl) (Steps.refl _) (argsL := [(.int 3)]) (rest := []) (lenOf pd_23 rfl) rfl (own_z rfl) (hb hby d42_35) (fun _ _ => ⟨rfl, eh27, (ol rfl), (ol rfl)⟩)
  dsimp only [Pt.U, Pt.locs, Pt.cells, Pt.slots] at X28 l28 y28 z28 st28 hQ28
  subst l28 y28 z28
  obtain ⟨rfl, N28q, eh28⟩ := hQ28
  have N28 := Fr.app N27 N28q
  refine ot (S' := T28.setTop (mkF m 38 lv22 [(.int s1)])) st28 ?_
  let lv29 : Array Slot := #[vR x0, vR ln, vR sb, vI 3, vI s1]
  refine oo (S' := T28.setTop (mkF m 40 lv29 [])) (fun _ kK => XS.istore X28.here hx rfl (hb hby d42_38) rfl (l' := lv29) rfl kK) ?_
  refine oo (S' := T28.setTop (mkF m 68 lv29 [])) (fun _ kK => Or.elim P12 (fun hz => XS.iload X28.here hx rfl (hb hby d42_40) rfl (XS.bipush X28.here hx rfl (hb hby d42_42) (XS.icmpYes X28.here hx rfl (pc0 := 44) (pc' := 68) rfl (hb hby d42_44) rfl (teq (hz)).1 (by decide) (by decide) kK))) (fun hz => XS.iload X28.here hx rfl (hb hby d42_40) rfl (XS.bipush X28.here hx rfl (hb hby d42_42) (XS.icmpNo X28.here hx rfl (hb hby d42_44) rfl (feq ((fun q => absurd (hz.symm.trans q) (by decide)))).1 (XS.iload X28.here hx rfl (hb hby d42_47) rfl (XS.bipush X28.here hx rfl (hb hby d42_49) (XS.icmpYes X28.here hx rfl (pc0 := 51) (pc' := 68) rfl (hb hby d42_51) rfl (teq (hz)).1 (by decide) (by decide) kK))))))) ?_
  refine oo (S' := T28.setTop (mkF m 70 lv29 [(.ref sb), (.ref x0)])) (fun _ kK => XS.aloadN X28.here hx rfl (hb hby d42_68) rfl rfl (XS.aloadN X28.here hx rfl (hb hby d42_69) rfl rfl kK)) ?_
  have f30 := ((J7.keep Kq14).keep Kq20)
  have f31 := ((J10.keep Kq14 nin0).keep Kq20 (own_nin1 (on (by omega))))
  have f33 := ((J0.keep Kq14).keep Kq20)
  obtain ⟨cq32, kq32, q32a, q32b, cc32, q32d, -, q32e⟩ := isOf hZ eh28 f33
  obtain ⟨_, _, ⟨T32, L32, k32, n32⟩, -, X32, ⟨Lc32, hQ32, l32, y32, z32⟩, st32⟩ := X28.privateBack hx (y := own_m41) hown (mvT hZ (w_ G 154 rfl)) (mvT hZ (w_ G 155 rfl)) (own_selP (oI (mvT hZ (w_ G 254 rfl)) rfl) (mvT hZ (w_ G 155 rfl)) (Cond.privateMethod_at (args := #[]) (mvT hZ (w_ G 156 rfl))) (by decide)) (Cond.privateMethod_at (args := #[]) (mvT hZ (w_ G 156 rfl))) (mvT hZ (w_ G 157 rfl)) (by decide) (backOf (W := 0) (rmtan l Z a0 G [] x0 sb T20.heap n0 O21 f30 f31) hZ (w_ G 157 rfl) (w_ G 35 rfl) (by decide) (by decide)) (g := (mkF m 70 lv29 [(.ref sb), (.ref x0)])) rfl (by rw [hml]; rfl) (Steps.refl _) q32d (own_nost q32e) (argsL := [(.ref sb)]) (rest := []) (lenOf pd_13 rfl) rfl (own_z rfl) (hb hby d42_70) (fun _ _ => ⟨rfl, eh28, (ol rfl), (ol rfl)⟩)
  dsimp only [Pt.U, Pt.locs, Pt.cells, Pt.slots] at X32 l32 y32 z32 st32 hQ32
  subst l32 y32 z32
  obtain ⟨rfl, N32q, eh32⟩ := hQ32
  have N32 := Fr.app N28 N32q
  refine ot (S' := T32.setTop (mkF m 73 lv29 [])) st32 ?_
  let lv34 : Array Slot := #[vR x0, vR ln, vR sb, vI 4, vI s1]
  refine oo (S' := T32.setTop (mkF m 25 lv34 [])) (fun _ kK => XS.iload X32.here hx rfl (hb hby d42_73) rfl (XS.bipush X32.here hx rfl (hb hby d42_75) (XS.icmpNo X32.here hx rfl (hb hby d42_77) rfl (feq ((own_b40 P12))).1 (XS.iload X32.here hx rfl (hb hby d42_80) rfl (XS.bipush X32.here hx rfl (hb hby d42_82) (XS.icmpYes X32.here hx rfl (pc0 := 84) (pc' := 112) rfl (hb hby d42_84) rfl (feq ((own_b41 P12))).2 (by decide) (by decide) (XS.iinc X32.here hx rfl (hb hby d42_112) rfl (l' := lv34) rfl (XS.goto X32.here hx rfl (pc0 := 115) (pc' := 25) rfl (hb hby d42_115) (by decide) (by decide) kK)))))))) ?_
  have f35 := ((J1.keep Kq14 nin0).keep Kq20 (own_nin1 (on (by omega))))
  have f36 := ((J2.keep Kq14 nin0).keep Kq20 (own_nin1 (on (by omega))))
  have f37 := ((J8.keep Kq14 nin0).keep Kq20 (own_nin1 (on (by omega))))
  have f38 := ((J9.keep Kq14 nin0).keep Kq20 (own_nin1 (on (by omega))))
  have f39 := ((J11.keep Kq14 nin0).keep Kq20 (own_nin1 (on (by omega))))
  have f40 := ((J12.keep Kq14 nin0).keep Kq20 (own_nin1 (on (by omega))))
  have f41 := (r14_0.keep Kq20)
  have f42 := (r14_1.keep Kq20 (own_nin1 (on (by omega))))
  have f43 := (r14_2.keep Kq20 (own_nin1 (on (by omega))))
  have f44 := (r14_3.keep Kq20 (own_nin1 (on (by omega))))
  exact sft2_1 l Z a0 G x0 ln lt kl tv c0 s0 c1 s1 c2 aD kD h0 n0 O0 P3 P8 P9 P10 P11 P12 P13 P14 Bd hml0 hZ (X32.more (by decide) (by decide)) T20.heap eh32 K21 O21 N32 (by omega) lst (mc + (1 : Int32)) sb vb kv g ml ar_20 kA_20 c1 x_14 t_14 kb_14 f33 f35 f36 f23 f24 f25 f26 f30 f37 f38 f31 f39 f40 r20_0 r20_1 r20_2 r20_3 (by omega) (by omega) (by omega) (by omega) r20_4 (r20_5) f41 f42 f43 f44 (by omega) (by simp only [own_ord, and_true]; omega) (by simp only [own_ord, and_true]; omega) (by simp only [own_ord, and_true]; omega) (by omega) (by omega) (by omega) ((J25).trans (by rw [own_nb_n (own_p32 hpa) (own_p9 hpa)]))
 ·refine oo (S' := T3.setTop (mkF m 108 lv4 [(.int c1), (.ref sb)])) (fun _ kK => XS.iload X3.here hx rfl (hb hby d42_40) rfl (XS.bipush X3.here hx rfl (hb hby d42_42) (XS.icmpNo X3.here hx rfl (hb hby d42_44) rfl (feq (hot.1)).1 (XS.iload X3.here hx rfl (hb hby d42_47) rfl (XS.bipush X3.here hx rfl (hb hby d42_49) (XS.icmpNo X3.here hx rfl (hb hby d42_51) rfl (feq (hot.2.1)).1 (XS.iload X3.here hx rfl (hb hby d42_54) rfl (XS.bipush X3.here hx rfl (hb hby d42_56) (XS.icmpNo X3.here hx rfl (hb hby d42_58) rfl (feq (hot.2.2.1)).1 (XS.iload X3.here hx rfl (hb hby d42_61) rfl (XS.bipush X3.here hx rfl (hb hby d42_63) (XS.icmpYes X3.here hx rfl (pc0 := 65) (pc' := 105) rfl (hb hby d42_65) rfl (feq (hot.2.2.2)).2 (by decide) (by decide) (XS.aloadN X3.here hx rfl (hb hby d42_105) rfl rfl (XS.iload X3.here hx rfl (hb hby d42_106) rfl kK)))))))))))))) ?_
  obtain ⟨cq45, kq45, q45a, q45b, q45c⟩ := isOf hZ eh3 J7
  obtain ⟨_, _, ⟨T45, L45, k45, n45⟩, -, X45, ⟨Lc45, hQ45, l45, y45, z45⟩, st45⟩ := X3.virtualBack hx (y := own_m13) (z := own_m13) hown (mvT hZ (w_ G 131 rfl)) (mvT hZ (w_ G 132 rfl)) (notFace_of_selects (args := #[]) (mvT hZ (w_ G 134 rfl))) (mvT hZ (w_ G 134 rfl)) (mvT hZ (w_ G 133 rfl)) (by decide) (backOf (W := 0) (rmsbc l Z a0 G [] sb vb kv g ml c1 hJ n0 OJ J7 J8 J9 J10 J11 J12 (P10 c1 (by simp)) (by omega) (by omega) (on (by omega))) hZ (w_ G 135 rfl) (w_ G 84 rfl) (by decide) (by decide)) q45a q45c (g := (mkF m 108 lv4 [(.int c1), (.ref sb)])) rfl (by rw [hml]; rfl) (Steps.refl _) (argsL := [(.int c1)]) (rest := []) (lenOf pd_25 rfl) rfl (own_z rfl) (hb hby d42_108) (fun _ _ => ⟨rfl, eh3, (ol rfl), (ol rfl)⟩)
  dsimp only [Pt.U, Pt.locs, Pt.cells, Pt.slots] at X45 l45 y45 z45 st45 hQ45
  subst l45 y45 z45
  obtain ⟨rfl, N45q, Kq45, r45_0, r45_1, r45_2, r45_3, r45_4, r45_5⟩ := hQ45
  have N45 := Fr.app N3 N45q
  have sz46 := Kq45.1
  have K46 := KJ.trans Kq45 (own_all2 (Or.inr (by omega)) (Or.inr (by omega)))
  have O46 := OJ.keep Kq45 (own_all2 (by omega) (by omega))
  have ltr45_0 := lN r45_0.lt
  have ltr45_1 := lN r45_1.lt
  have ltr45_2 := lN r45_2.lt
  have ltr45_3 := lN r45_3.lt
  have ltr45_4 := lN r45_4.lt
  have ltr45_5 := lN r45_5.lt
  refine ot (S' := T45.setTop (mkF m 111 lv4 [(.ref sb)])) st45 ?_
  let lv47 : Array Slot := #[vR x0, vR ln, vR sb, vI 3, vI c1]
  refine oo (S' := T45.setTop (mkF m 27 lv47 [(.ref ln), (.int 3)])) (fun _ kK => XS.pop X45.here hx rfl (hb hby d42_111) rfl rfl (XS.iinc X45.here hx rfl (hb hby d42_112) rfl (l' := lv47) rfl (XS.goto X45.here hx rfl (pc0 := 115) (pc' := 25) rfl (hb hby d42_115) (by decide) (by decide) (XS.iloadN X45.here hx rfl (hb hby d42_25) rfl (XS.aloadN X45.here hx rfl (hb hby d42_26) rfl rfl kK))))) ?_
  have f48 := (J3.keep Kq45)
  have f49 := (J4.keep Kq45 (own_nin2 (on (by omega)) (on (by omega))))
  have f50 := (J5.keep Kq45 (own_nin2 (on (by omega)) (on (by omega))))
  have f51 := (J6.keep Kq45 (own_nin2 (on (by omega)) (on (by omega))))
  obtain ⟨cq52, kq52, q52a, q52b, q52c⟩ := isOf hZ rfl f48
  obtain ⟨_, _, ⟨T52, L52, k52, n52⟩, -, X52, ⟨Lc52, hQ52, l52, y52, z52⟩, st52⟩ := X45.virtualBack hx (y := own_m4) (z := own_m4) hown (mvT hZ (w_ G 100 rfl)) (mvT hZ (w_ G 101 rfl)) (notFace_of_selects (args := #[]) (mvT hZ (w_ G 103 rfl))) (mvT hZ (w_ G 103 rfl)) (mvT hZ (w_ G 102 rfl)) (by decide) (backOf (W := 1) (rmln0 l Z a0 G [] ln lt kl (5 : Int32) ((([c0, s0, c1, s1, c2] : List Int32).map (fun c => c.toInt8.toInt32)).map Value.int) (.int 0) T45.heap n0 O46 f48 f49 f50 f51) hZ (w_ G 104 rfl) (w_ G 9 rfl) (by decide) (by decide)) q52a q52c (g := (mkF m 27 lv47 [(.ref ln), (.int 3)])) rfl (by rw [hml]; rfl) (Steps.refl _) (argsL := []) (rest := [(.int 3)]) (lenOf pd_8 rfl) rfl (own_z rfl) (hb hby d42_27) (fun _ _ => ⟨rfl, rfl, (ol rfl), (ol rfl)⟩)
  dsimp only [Pt.U, Pt.locs, Pt.cells, Pt.slots] at X52 l52 y52 z52 st52 hQ52
  subst l52 y52 z52
  obtain ⟨rfl, N52q, eh52⟩ := hQ52
  have N52 := Fr.app N45 N52q
  refine ot (S' := T52.setTop (mkF m 30 lv47 [(.int 5), (.int 3)])) st52 ?_
  refine oo (S' := T52.setTop (mkF m 35 lv47 [(.int 3), (.ref ln)])) (fun _ kK => XS.icmpNo X52.here hx rfl (hb hby d42_30) rfl (tlt ((by decide : (3 : Int32) < (5 : Int32)))).2.1 (XS.aloadN X52.here hx rfl (hb hby d42_33) rfl rfl (XS.iloadN X52.here hx rfl (hb hby d42_34) rfl kK))) ?_
  obtain ⟨cq53, kq53, q53a, q53b, q53c⟩ := isOf hZ eh52 f48
  obtain ⟨_, _, ⟨T53, L53, k53, n53⟩, -, X53, ⟨Lc53, hQ53, l53, y53, z53⟩, st53⟩ := X52.virtualBack hx (y := own_m6) (z := own_m6) hown (mvT hZ (w_ G 110 rfl)) (mvT hZ (w_ G 111 rfl)) (notFace_of_selects (args := #[]) (mvT hZ (w_ G 113 rfl))) (mvT hZ (w_ G 113 rfl)) (mvT hZ (w_ G 112 rfl)) (by decide) (backOf (W := 0) (rmcA0 l Z a0 G [] ln lt kl (5 : Int32) ((([c0, s0, c1, s1, c2] : List Int32).map (fun c => c.toInt8.toInt32)).map Value.int) (.int 0) (3 : Int32) s1 T45.heap n0 O46 f48 f49 f50 f51 (by decide) (by decide) (by rfl) (P10 s1 (by simp))) hZ (w_ G 114 rfl) (w_ G 9 rfl) (by decide) (by decide)) q53a q53c (g := (mkF m 35 lv47 [(.int 3), (.ref ln)])) rfl (by rw [hml]; rfl) (Steps.refl _) (argsL := [(.int 3)]) (rest := []) (lenOf pd_23 rfl) rfl (own_z rfl) (hb hby d42_35) (fun _ _ => ⟨rfl, eh52, (ol rfl), (ol rfl)⟩)
  dsimp only [Pt.U, Pt.locs, Pt.cells, Pt.slots] at X53 l53 y53 z53 st53 hQ53
  subst l53 y53 z53
  obtain ⟨rfl, N53q, eh53⟩ := hQ53
  have N53 := Fr.app N52 N53q
  refine ot (S' := T53.setTop (mkF m 38 lv47 [(.int s1)])) st53 ?_
  let lv54 : Array Slot := #[vR x0, vR ln, vR sb, vI 3, vI s1]
  refine oo (S' := T53.setTop (mkF m 40 lv54 [])) (fun _ kK => XS.istore X53.here hx rfl (hb hby d42_38) rfl (l' := lv54) rfl kK) ?_
  refine oo (S' := T53.setTop (mkF m 68 lv54 [])) (fun _ kK => Or.elim P12 (fun hz => XS.iload X53.here hx rfl (hb hby d42_40) rfl (XS.bipush X53.here hx rfl (hb hby d42_42) (XS.icmpYes X53.here hx rfl (pc0 := 44) (pc' := 68) rfl (hb hby d42_44) rfl (teq (hz)).1 (by decide) (by decide) kK))) (fun hz => XS.iload X53.here hx rfl (hb hby d42_40) rfl (XS.bipush X53.here hx rfl (hb hby d42_42) (XS.icmpNo X53.here hx rfl (hb hby d42_44) rfl (feq ((fun q => absurd (hz.symm.trans q) (by decide)))).1 (XS.iload X53.here hx rfl (hb hby d42_47) rfl (XS.bipush X53.here hx rfl (hb hby d42_49) (XS.icmpYes X53.here hx rfl (pc0 := 51) (pc' := 68) rfl (hb hby d42_51) rfl (teq (hz)).1 (by decide) (by decide) kK))))))) ?_
  refine oo (S' := T53.setTop (mkF m 70 lv54 [(.ref sb), (.ref x0)])) (fun _ kK => XS.aloadN X53.here hx rfl (hb hby d42_68) rfl rfl (XS.aloadN X53.here hx rfl (hb hby d42_69) rfl rfl kK)) ?_
  have f55 := (J1.keep Kq45 (own_nin2 (on (by omega)) (on (by omega))))
  have f56 := (J13.keep Kq45)
  have f57 := (J14.keep Kq45 (own_nin2 (on (by omega)) (on (by omega))))
  have f58 := (J15.keep Kq45 (own_nin2 (on (by omega)) (on (by omega))))
  have f59 := (J16.keep Kq45 (own_nin2 (on (by omega)) (on (by omega))))
  have f61 := (J0.keep Kq45)
  obtain ⟨cq60, kq60, q60a, q60b, cc60, q60d, -, q60e⟩ := isOf hZ eh53 f61
  obtain ⟨_, _, ⟨T60, L60, k60, n60⟩, -, X60, ⟨Lc60, hQ60, l60, y60, z60⟩, st60⟩ := X53.privateBack hx (y := own_m41) hown (mvT hZ (w_ G 154 rfl)) (mvT hZ (w_ G 155 rfl)) (own_selP (oI (mvT hZ (w_ G 254 rfl)) rfl) (mvT hZ (w_ G 155 rfl)) (Cond.privateMethod_at (args := #[]) (mvT hZ (w_ G 156 rfl))) (by decide)) (Cond.privateMethod_at (args := #[]) (mvT hZ (w_ G 156 rfl))) (mvT hZ (w_ G 157 rfl)) (by decide) (backOf (W := 0) (rmta0 l Z a0 G [] x0 lst mc sb vb kv (.int (StrChars.lo8 c1)) ml aD kD T45.heap n0 O46 f55 r45_0 r45_1 r45_2 r45_3 r45_4 r45_5 f56 f57 f58 f59 (by omega) (by omega) (by omega) P13 P14 (on (by omega)) (on (by omega)) (on (by omega))) hZ (w_ G 157 rfl) (w_ G 35 rfl) (by decide) (by decide)) (g := (mkF m 70 lv54 [(.ref sb), (.ref x0)])) rfl (by rw [hml]; rfl) (Steps.refl _) q60d (own_nost q60e) (argsL := [(.ref sb)]) (rest := []) (lenOf pd_13 rfl) rfl (own_z rfl) (hb hby d42_70) (fun _ _ => ⟨rfl, eh53, (ol rfl), (ol rfl)⟩)
  dsimp only [Pt.U, Pt.locs, Pt.cells, Pt.slots] at X60 l60 y60 z60 st60 hQ60
  subst l60 y60 z60
  obtain ⟨y_60, t_60, kb_60, ar_60, kA_60, rfl, N60q, Kq60, r60_0, r60_1, r60_2, r60_3, r60_4, r60_5, r60_6, r60_7, r60_8, r60_9, r60_10, r60_11, r60_12, r60_13, r60_14, r60_15, r60_16, r60_17, r60_18, r60_19, r60_20⟩ := hQ60
  have N60 := Fr.app N53 N60q
  have sz62 := Kq60.1
  have K62 := K46.trans Kq60 (own_all2 (Or.inr (by omega)) (Or.inr (by omega)))
  have O62 := O46.keep Kq60 (own_all2 (by omega) (by omega))
  have ltr60_0 := lN r60_0.lt
  have ltr60_1 := lN r60_1.lt
  have ltr60_2 := lN r60_2.lt
  have ltr60_3 := lN r60_3.lt
  have ltr60_6 := lN r60_6.lt
  have ltr60_7 := lN r60_7.lt
  have ltr60_8 := lN r60_8.lt
  have ltr60_9 := lN r60_9.lt
  have ltr60_10 := lN r60_10.lt
  have ltr60_15 := lN r60_15.lt
  have ltr60_16 := lN r60_16.lt
  have ltr60_17 := lN r60_17.lt
  have ltr60_18 := lN r60_18.lt
  have ltr60_19 := lN r60_19.lt
  have ltr60_20 := lN r60_20.lt
  refine ot (S' := T60.setTop (mkF m 73 lv54 [])) st60 ?_
  let lv63 : Array Slot := #[vR x0, vR ln, vR sb, vI 4, vI s1]
  refine oo (S' := T60.setTop (mkF m 25 lv63 [])) (fun _ kK => XS.iload X60.here hx rfl (hb hby d42_73) rfl (XS.bipush X60.here hx rfl (hb hby d42_75) (XS.icmpNo X60.here hx rfl (hb hby d42_77) rfl (feq ((own_b40 P12))).1 (XS.iload X60.here hx rfl (hb hby d42_80) rfl (XS.bipush X60.here hx rfl (hb hby d42_82) (XS.icmpYes X60.here hx rfl (pc0 := 84) (pc' := 112) rfl (hb hby d42_84) rfl (feq ((own_b41 P12))).2 (by decide) (by decide) (XS.iinc X60.here hx rfl (hb hby d42_112) rfl (l' := lv63) rfl (XS.goto X60.here hx rfl (pc0 := 115) (pc' := 25) rfl (hb hby d42_115) (by decide) (by decide) kK)))))))) ?_
  have f64 := (f61.keep Kq60)
  have f65 := (f55.keep Kq60 (own_nin2 (on (by omega)) (on (by omega))))
  have f66 := ((J2.keep Kq45 (own_nin2 (on (by omega)) (on (by omega)))).keep Kq60 (own_nin2 (on (by omega)) (on (by omega))))
  have f67 := (f48.keep Kq60)
  have f68 := (f49.keep Kq60 (own_nin2 (on (by omega)) (on (by omega))))
  have f69 := (f50.keep Kq60 (own_nin2 (on (by omega)) (on (by omega))))
  have f70 := (f51.keep Kq60 (own_nin2 (on (by omega)) (on (by omega))))
  exact sft2_1 l Z a0 G x0 ln lt kl tv c0 s0 c1 s1 c2 aD kD h0 n0 O0 P3 P8 P9 P10 P11 P12 P13 P14 Bd hml0 hZ (X60.more (by decide) (by decide)) T60.heap rfl K62 O62 N60 (by omega) lst (mc + (1 : Int32)) sb vb kv (.int (StrChars.lo8 c1)) (.int 1) ar_60 kA_60 c1 y_60 t_60 kb_60 f64 f65 f66 f67 f68 f69 f70 r60_15 r60_16 r60_17 r60_18 r60_19 r60_20 r60_6 r60_7 r60_8 r60_9 (by omega) (by omega) (by omega) (by omega) r60_10 (r60_11) r60_0 r60_1 r60_2 r60_3 (by omega) (by simp only [own_ord, and_true]; omega) (by simp only [own_ord, and_true]; omega) (by simp only [own_ord, and_true]; omega) (by omega) (by omega) (by omega) ((J25).trans (by rw [own_nb_n hot.1 hot.2.1]))

set_option maxRecDepth 65536 in
set_option maxHeartbeats 40000000 in
theorem sft1_1 (l : Launch) (Z : State) (a0 : Array Value) (G : OwnG Z a0) (x0 : Addr) (ln : Addr) (lt : Addr) (kl : ClassId) (tv : Value) (c0 : Int32) (s0 : Int32) (c1 : Int32) (s1 : Int32) (c2 : Int32) (aD : Addr) (kD : ClassId) (h0 : Heap) (n0 : Nat) (O0 : Old Z n0 h0) (P3 : n0 ≤ x0) (P8 : x0 ≠ ln) (P9 : x0 ≠ lt) (P10 : ∀ c ∈ ([c0, s0, c1, s1, c2] : List Int32), ¬ c < (0 : Int32) ∧ ¬ (255 : Int32) < c) (P11 : s0 = (32 : Int32) ∨ s0 = (9 : Int32)) (P12 : s1 = (32 : Int32) ∨ s1 = (9 : Int32)) (P13 : Sta Z Z.heap j2 "DEFAULTCAPACITY_EMPTY_ELEMENTDATA" "[Ljava/lang/Object;" (.ref aD)) (P14 : Arv Z Z.heap aD kD (.object j4) (0 : Int32) [] .null) {p : Program} {e : Env} {s : State} {m : MethodId} {below : List Frame} {meth : Method} {cD : Code} {s₁ : State} {Sp : Spec} (Bd : BodyLoose p l own_m43 Sp B52 5 none e s m #[(.ref x0), (.ref ln)] below meth cD s₁) (hml0 : cD.maxLocals = 5) (hZ : Z.Warmed39 s.vm) {TJ : State} {locs : List Loc} (XJ : Stand p l e (rR 7 33 125 105) s m #[(.ref x0), (.ref ln)] below meth cD TJ locs 24 90) (hJ : Heap) (eJ : TJ.heap = hJ) (KJ : Keep h0 hJ [x0]) (OJ : Old Z n0 hJ) (NJ : Fr n0 locs) (szJ : Array.size h0 ≤ Array.size hJ) (lst : Addr) (mc : Int32) (sb : Addr) (vb : Addr) (kv : ClassId) (g : Value) (ml : Value) (ar : Addr) (kA : ClassId) (tk0 : Int32) (y0 : Addr) (yt0 : Addr) (yk0 : ClassId) (J0 : Exa Z hJ x0 j3) (J1 : Fld Z hJ x0 j3 "tokens" "Ljava/util/List;" (.ref lst)) (J2 : Fld Z hJ x0 j3 "next" "I" (.int 0)) (J3 : Exa Z hJ ln j1) (J4 : Fld Z hJ ln j1 "value" "[B" (.ref lt)) (J5 : Fld Z hJ ln j1 "coder" "B" (.int 0)) (J6 : Arv Z hJ lt kl .byte (5 : Int32) ((([c0, s0, c1, s1, c2] : List Int32).map (fun c => c.toInt8.toInt32)).map Value.int) (.int 0)) (J7 : Exa Z hJ sb j5) (J8 : Fld Z hJ sb j0 "value" "[B" (.ref vb)) (J9 : Fld Z hJ sb j0 "coder" "B" (.int 0)) (J10 : Fld Z hJ sb j0 "count" "I" (.int 0)) (J11 : Fld Z hJ sb j0 "maybeLatin1" "Z" ml) (J12 : Arv Z hJ vb kv .byte (16 : Int32) [g, (.int 0), (.int 0), (.int 0), (.int 0), (.int 0), (.int 0), (.int 0), (.int 0), (.int 0), (.int 0), (.int 0), (.int 0), (.int 0), (.int 0), (.int 0)] (.int 0)) (J13 : Exa Z hJ lst j2) (J14 : Fld Z hJ lst j6 "modCount" "I" (.int mc)) (J15 : Fld Z hJ lst j2 "elementData" "[Ljava/lang/Object;" (.ref ar)) (J16 : Fld Z hJ lst j2 "size" "I" (.int 1)) (J17 : n0 ≤ lst) (J18 : n0 ≤ sb) (J19 : n0 ≤ vb) (J20 : n0 ≤ ar) (J21 : Arv Z hJ ar kA (.object j4) (10 : Int32) [(.ref y0), .null, .null, .null, .null, .null, .null, .null, .null, .null] .null) (J22 : Ovr Z kA j4) (J23 : Exa Z hJ y0 j1) (J24 : Fld Z hJ y0 j1 "value" "[B" (.ref yt0)) (J25 : Fld Z hJ y0 j1 "coder" "B" (.int 0)) (J26 : Arv Z hJ yt0 yk0 .byte (1 : Int32) [(.int (StrChars.lo8 tk0))] (.int 0)) (J27 : Array.size h0 ≤ lst) (J28 : own_ord [lst, sb, vb]) (J29 : own_ord [vb, y0, ar]) (J30 : own_ord [vb, yt0, ar]) (J31 : @LT.lt Nat instLTNat x0 (Array.size h0)) (J32 : @LT.lt Nat instLTNat ln (Array.size h0)) (J33 : @LT.lt Nat instLTNat lt (Array.size h0)) (J34 : own_nb [c0, c1, c2] = tk0 :: own_nb [c1, c2]) :
  OwnEnd p e below (fun o t => ∃ v L, o = .returned v ∧ (own_Qtok Z x0 c0 c1 c2 aD) h0 n0 v t.heap L ∧ FrameEnd s o t L (rR 7 33 125 105).cells (rR 7 33 125 105).slots) (TJ.setTop (mkF m 25 #[vR x0, vR ln, vR sb, vI 2, vI s0] [])) := by
 have hx := Bd.exec
 have hby := Bd.bytes
 have hml : cD.maxLocals = 5 := hml0
 have hown : s.vm.findClass j3 = some m.cls := findClass_of_methodNamed Bd.named
 have hlk := Bd.notSynchronized
 have ltJ0 := lN J0.lt
 have ltJ1 := lN J1.lt
 have ltJ2 := lN J2.lt
 have ltJ3 := lN J3.lt
 have ltJ4 := lN J4.lt
 have ltJ5 := lN J5.lt
 have ltJ6 := lN J6.lt
 have ltJ7 := lN J7.lt
 have ltJ8 := lN J8.lt
 have ltJ9 := lN J9.lt
 have ltJ10 := lN J10.lt
 have ltJ11 := lN J11.lt
 have ltJ12 := lN J12.lt
 have ltJ13 := lN J13.lt
 have ltJ14 := lN J14.lt
 have ltJ15 := lN J15.lt
 have ltJ16 := lN J16.lt
 have ltJ21 := lN J21.lt
 have ltJ23 := lN J23.lt
 have ltJ24 := lN J24.lt
 have ltJ25 := lN J25.lt
 have ltJ26 := lN J26.lt
 have Z0 := own_old_le O0
 have hord := And.intro J28 (And.intro J29 J30)
 simp only [own_ord, and_true] at hord
 have ltD : @LT.lt Nat instLTNat aD n0 := lN (O0.1 ▸ P14.lt)
 let lv1 : Array Slot := #[vR x0, vR ln, vR sb, vI 2, vI s0]
 refine oo (S' := TJ.setTop (mkF m 27 lv1 [(.ref ln), (.int 2)])) (fun _ kK => XS.iloadN XJ.here hx rfl (hb hby d42_25) rfl (XS.aloadN XJ.here hx rfl (hb hby d42_26) rfl rfl kK)) ?_
 obtain ⟨cq2, kq2, q2a, q2b, q2c⟩ := isOf hZ eJ J3
 obtain ⟨_, _, ⟨T2, L2, k2, n2⟩, -, X2, ⟨Lc2, hQ2, l2, y2, z2⟩, st2⟩ := XJ.virtualBack hx (y := own_m4) (z := own_m4) hown (mvT hZ (w_ G 100 rfl)) (mvT hZ (w_ G 101 rfl)) (notFace_of_selects (args := #[]) (mvT hZ (w_ G 103 rfl))) (mvT hZ (w_ G 103 rfl)) (mvT hZ (w_ G 102 rfl)) (by decide) (backOf (W := 1) (rmln0 l Z a0 G [] ln lt kl (5 : Int32) ((([c0, s0, c1, s1, c2] : List Int32).map (fun c => c.toInt8.toInt32)).map Value.int) (.int 0) hJ n0 OJ J3 J4 J5 J6) hZ (w_ G 104 rfl) (w_ G 9 rfl) (by decide) (by decide)) q2a q2c (g := (mkF m 27 lv1 [(.ref ln), (.int 2)])) rfl (by rw [hml]; rfl) (Steps.refl _) (argsL := []) (rest := [(.int 2)]) (lenOf pd_8 rfl) rfl (own_z rfl) (hb hby d42_27) (fun _ _ => ⟨rfl, eJ, (ol rfl), (ol rfl)⟩)
 dsimp only [Pt.U, Pt.locs, Pt.cells, Pt.slots] at X2 l2 y2 z2 st2 hQ2
 subst l2 y2 z2
 obtain ⟨rfl, N2q, eh2⟩ := hQ2
 have N2 := Fr.app NJ N2q
 refine ot (S' := T2.setTop (mkF m 30 lv1 [(.int 5), (.int 2)])) st2 ?_
 refine oo (S' := T2.setTop (mkF m 35 lv1 [(.int 2), (.ref ln)])) (fun _ kK => XS.icmpNo X2.here hx rfl (hb hby d42_30) rfl (tlt ((by decide : (2 : Int32) < (5 : Int32)))).2.1 (XS.aloadN X2.here hx rfl (hb hby d42_33) rfl rfl (XS.iloadN X2.here hx rfl (hb hby d42_34) rfl kK))) ?_
 obtain ⟨cq3, kq3, q3a, q3b, q3c⟩ := isOf hZ eh2 J3
 obtain ⟨_, _, ⟨T3, L3, k3, n3⟩, -, X3, ⟨Lc3, hQ3, l3, y3, z3⟩, st3⟩ := X2.virtualBack hx (y := own_m6) (z := own_m6) hown (mvT hZ (w_ G 110 rfl)) (mvT hZ (w_ G 111 rfl)) (notFace_of_selects (args := #[]) (mvT hZ (w_ G 113 rfl))) (mvT hZ (w_ G 113 rfl)) (mvT hZ (w_ G 112 rfl)) (by decide) (backOf (W := 0) (rmcA0 l Z a0 G [] ln lt kl (5 : Int32) ((([c0, s0, c1, s1, c2] : List Int32).map (fun c => c.toInt8.toInt32)).map Value.int) (.int 0) (2 : Int32) c1 hJ n0 OJ J3 J4 J5 J6 (by decide) (by decide) (by rfl) (P10 c1 (by simp))) hZ (w_ G 114 rfl) (w_ G 9 rfl) (by decide) (by decide)) q3a q3c (g := (mkF m 35 lv1 [(.int 2), (.ref ln)])) rfl (by rw [hml]; rfl) (Steps.refl _) (argsL := [(.int 2)]) (rest := []) (lenOf pd_23 rfl) rfl (own_z rfl) (hb hby d42_35) (fun _ _ => ⟨rfl, eh2, (ol rfl), (ol rfl)⟩)
 dsimp only [Pt.U, Pt.locs, Pt.cells, Pt.slots] at X3 l3 y3 z3 st3 hQ3
 subst l3 y3 z3
 obtain ⟨rfl, N3q, eh3⟩ := hQ3
 have N3 := Fr.app N2 N3q
 refine ot (S' := T3.setTop (mkF m 38 lv1 [(.int c1)])) st3 ?_
 let lv4 : Array Slot := #[vR x0, vR ln, vR sb, vI 2, vI c1]
 refine oo (S' := T3.setTop (mkF m 40 lv4 [])) (fun _ kK => XS.istore X3.here hx rfl (hb hby d42_38) rfl (l' := lv4) rfl kK) ?_
 rcases own_kind c1 with hbl | hpa | hot
 ·refine oo (S' := T3.setTop (mkF m 68 lv4 [])) (fun _ kK => Or.elim hbl (fun hz => XS.iload X3.here hx rfl (hb hby d42_40) rfl (XS.bipush X3.here hx rfl (hb hby d42_42) (XS.icmpYes X3.here hx rfl (pc0 := 44) (pc' := 68) rfl (hb hby d42_44) rfl (teq (hz)).1 (by decide) (by decide) kK))) (fun hz => XS.iload X3.here hx rfl (hb hby d42_40) rfl (XS.bipush X3.here hx rfl (hb hby d42_42) (XS.icmpNo X3.here hx rfl (hb hby d42_44) rfl (feq ((fun q => absurd (hz.symm.trans q) (by decide)))).1 (XS.iload X3.here hx rfl (hb hby d42_47) rfl (XS.bipush X3.here hx rfl (hb hby d42_49) (XS.icmpYes X3.here hx rfl (pc0 := 51) (pc' := 68) rfl (hb hby d42_51) rfl (teq (hz)).1 (by decide) (by decide) kK))))))) ?_
  refine oo (S' := T3.setTop (mkF m 70 lv4 [(.ref sb), (.ref x0)])) (fun _ kK => XS.aloadN X3.here hx rfl (hb hby d42_68) rfl rfl (XS.aloadN X3.here hx rfl (hb hby d42_69) rfl rfl kK)) ?_
  obtain ⟨cq5, kq5, q5a, q5b, cc5, q5d, -, q5e⟩ := isOf hZ eh3 J0
  obtain ⟨_, _, ⟨T5, L5, k5, n5⟩, -, X5, ⟨Lc5, hQ5, l5, y5, z5⟩, st5⟩ := X3.privateBack hx (y := own_m41) hown (mvT hZ (w_ G 154 rfl)) (mvT hZ (w_ G 155 rfl)) (own_selP (oI (mvT hZ (w_ G 254 rfl)) rfl) (mvT hZ (w_ G 155 rfl)) (Cond.privateMethod_at (args := #[]) (mvT hZ (w_ G 156 rfl))) (by decide)) (Cond.privateMethod_at (args := #[]) (mvT hZ (w_ G 156 rfl))) (mvT hZ (w_ G 157 rfl)) (by decide) (backOf (W := 0) (rmtan l Z a0 G [] x0 sb hJ n0 OJ J7 J10) hZ (w_ G 157 rfl) (w_ G 35 rfl) (by decide) (by decide)) (g := (mkF m 70 lv4 [(.ref sb), (.ref x0)])) rfl (by rw [hml]; rfl) (Steps.refl _) q5d (own_nost q5e) (argsL := [(.ref sb)]) (rest := []) (lenOf pd_13 rfl) rfl (own_z rfl) (hb hby d42_70) (fun _ _ => ⟨rfl, eh3, (ol rfl), (ol rfl)⟩)
  dsimp only [Pt.U, Pt.locs, Pt.cells, Pt.slots] at X5 l5 y5 z5 st5 hQ5
  subst l5 y5 z5
  obtain ⟨rfl, N5q, eh5⟩ := hQ5
  have N5 := Fr.app N3 N5q
  refine ot (S' := T5.setTop (mkF m 73 lv4 [])) st5 ?_
  let lv6 : Array Slot := #[vR x0, vR ln, vR sb, vI 3, vI c1]
  refine oo (S' := T5.setTop (mkF m 27 lv6 [(.ref ln), (.int 3)])) (fun _ kK => XS.iload X5.here hx rfl (hb hby d42_73) rfl (XS.bipush X5.here hx rfl (hb hby d42_75) (XS.icmpNo X5.here hx rfl (hb hby d42_77) rfl (feq ((own_b40 hbl))).1 (XS.iload X5.here hx rfl (hb hby d42_80) rfl (XS.bipush X5.here hx rfl (hb hby d42_82) (XS.icmpYes X5.here hx rfl (pc0 := 84) (pc' := 112) rfl (hb hby d42_84) rfl (feq ((own_b41 hbl))).2 (by decide) (by decide) (XS.iinc X5.here hx rfl (hb hby d42_112) rfl (l' := lv6) rfl (XS.goto X5.here hx rfl (pc0 := 115) (pc' := 25) rfl (hb hby d42_115) (by decide) (by decide) (XS.iloadN X5.here hx rfl (hb hby d42_25) rfl (XS.aloadN X5.here hx rfl (hb hby d42_26) rfl rfl kK)))))))))) ?_
  obtain ⟨cq7, kq7, q7a, q7b, q7c⟩ := isOf hZ eh5 J3
  obtain ⟨_, _, ⟨T7, L7, k7, n7⟩, -, X7, ⟨Lc7, hQ7, l7, y7, z7⟩, st7⟩ := X5.virtualBack hx (y := own_m4) (z := own_m4) hown (mvT hZ (w_ G 100 rfl)) (mvT hZ (w_ G 101 rfl)) (notFace_of_selects (args := #[]) (mvT hZ (w_ G 103 rfl))) (mvT hZ (w_ G 103 rfl)) (mvT hZ (w_ G 102 rfl)) (by decide) (backOf (W := 1) (rmln0 l Z a0 G [] ln lt kl (5 : Int32) ((([c0, s0, c1, s1, c2] : List Int32).map (fun c => c.toInt8.toInt32)).map Value.int) (.int 0) hJ n0 OJ J3 J4 J5 J6) hZ (w_ G 104 rfl) (w_ G 9 rfl) (by decide) (by decide)) q7a q7c (g := (mkF m 27 lv6 [(.ref ln), (.int 3)])) rfl (by rw [hml]; rfl) (Steps.refl _) (argsL := []) (rest := [(.int 3)]) (lenOf pd_8 rfl) rfl (own_z rfl) (hb hby d42_27) (fun _ _ => ⟨rfl, eh5, (ol rfl), (ol rfl)⟩)
  dsimp only [Pt.U, Pt.locs, Pt.cells, Pt.slots] at X7 l7 y7 z7 st7 hQ7
  subst l7 y7 z7
  obtain ⟨rfl, N7q, eh7⟩ := hQ7
  have N7 := Fr.app N5 N7q
  refine ot (S' := T7.setTop (mkF m 30 lv6 [(.int 5), (.int 3)])) st7 ?_
  refine oo (S' := T7.setTop (mkF m 35 lv6 [(.int 3), (.ref ln)])) (fun _ kK => XS.icmpNo X7.here hx rfl (hb hby d42_30) rfl (tlt ((by decide : (3 : Int32) < (5 : Int32)))).2.1 (XS.aloadN X7.here hx rfl (hb hby d42_33) rfl rfl (XS.iloadN X7.here hx rfl (hb hby d42_34) rfl kK))) ?_
  obtain ⟨cq8, kq8, q8a, q8b, q8c⟩ := isOf hZ eh7 J3
  obtain ⟨_, _, ⟨T8, L8, k8, n8⟩, -, X8, ⟨Lc8, hQ8, l8, y8, z8⟩, st8⟩ := X7.virtualBack hx (y := own_m6) (z := own_m6) hown (mvT hZ (w_ G 110 rfl)) (mvT hZ (w_ G 111 rfl)) (notFace_of_selects (args := #[]) (mvT hZ (w_ G 113 rfl))) (mvT hZ (w_ G 113 rfl)) (mvT hZ (w_ G 112 rfl)) (by decide) (backOf (W := 0) (rmcA0 l Z a0 G [] ln lt kl (5 : Int32) ((([c0, s0, c1, s1, c2] : List Int32).map (fun c => c.toInt8.toInt32)).map Value.int) (.int 0) (3 : Int32) s1 hJ n0 OJ J3 J4 J5 J6 (by decide) (by decide) (by rfl) (P10 s1 (by simp))) hZ (w_ G 114 rfl) (w_ G 9 rfl) (by decide) (by decide)) q8a q8c (g := (mkF m 35 lv6 [(.int 3), (.ref ln)])) rfl (by rw [hml]; rfl) (Steps.refl _) (argsL := [(.int 3)]) (rest := []) (lenOf pd_23 rfl) rfl (own_z rfl) (hb hby d42_35) (fun _ _ => ⟨rfl, eh7, (ol rfl), (ol rfl)⟩)
  dsimp only [Pt.U, Pt.locs, Pt.cells, Pt.slots] at X8 l8 y8 z8 st8 hQ8
  subst l8 y8 z8
  obtain ⟨rfl, N8q, eh8⟩ := hQ8
  have N8 := Fr.app N7 N8q
  refine ot (S' := T8.setTop (mkF m 38 lv6 [(.int s1)])) st8 ?_
  let lv9 : Array Slot := #[vR x0, vR ln, vR sb, vI 3, vI s1]
  refine oo (S' := T8.setTop (mkF m 40 lv9 [])) (fun _ kK => XS.istore X8.here hx rfl (hb hby d42_38) rfl (l' := lv9) rfl kK) ?_
  refine oo (S' := T8.setTop (mkF m 68 lv9 [])) (fun _ kK => Or.elim P12 (fun hz => XS.iload X8.here hx rfl (hb hby d42_40) rfl (XS.bipush X8.here hx rfl (hb hby d42_42) (XS.icmpYes X8.here hx rfl (pc0 := 44) (pc' := 68) rfl (hb hby d42_44) rfl (teq (hz)).1 (by decide) (by decide) kK))) (fun hz => XS.iload X8.here hx rfl (hb hby d42_40) rfl (XS.bipush X8.here hx rfl (hb hby d42_42) (XS.icmpNo X8.here hx rfl (hb hby d42_44) rfl (feq ((fun q => absurd (hz.symm.trans q) (by decide)))).1 (XS.iload X8.here hx rfl (hb hby d42_47) rfl (XS.bipush X8.here hx rfl (hb hby d42_49) (XS.icmpYes X8.here hx rfl (pc0 := 51) (pc' := 68) rfl (hb hby d42_51) rfl (teq (hz)).1 (by decide) (by decide) kK))))))) ?_
  refine oo (S' := T8.setTop (mkF m 70 lv9 [(.ref sb), (.ref x0)])) (fun _ kK => XS.aloadN X8.here hx rfl (hb hby d42_68) rfl rfl (XS.aloadN X8.here hx rfl (hb hby d42_69) rfl rfl kK)) ?_
  obtain ⟨cq10, kq10, q10a, q10b, cc10, q10d, -, q10e⟩ := isOf hZ eh8 J0
  obtain ⟨_, _, ⟨T10, L10, k10, n10⟩, -, X10, ⟨Lc10, hQ10, l10, y10, z10⟩, st10⟩ := X8.privateBack hx (y := own_m41) hown (mvT hZ (w_ G 154 rfl)) (mvT hZ (w_ G 155 rfl)) (own_selP (oI (mvT hZ (w_ G 254 rfl)) rfl) (mvT hZ (w_ G 155 rfl)) (Cond.privateMethod_at (args := #[]) (mvT hZ (w_ G 156 rfl))) (by decide)) (Cond.privateMethod_at (args := #[]) (mvT hZ (w_ G 156 rfl))) (mvT hZ (w_ G 157 rfl)) (by decide) (backOf (W := 0) (rmtan l Z a0 G [] x0 sb hJ n0 OJ J7 J10) hZ (w_ G 157 rfl) (w_ G 35 rfl) (by decide) (by decide)) (g := (mkF m 70 lv9 [(.ref sb), (.ref x0)])) rfl (by rw [hml]; rfl) (Steps.refl _) q10d (own_nost q10e) (argsL := [(.ref sb)]) (rest := []) (lenOf pd_13 rfl) rfl (own_z rfl) (hb hby d42_70) (fun _ _ => ⟨rfl, eh8, (ol rfl), (ol rfl)⟩)
  dsimp only [Pt.U, Pt.locs, Pt.cells, Pt.slots] at X10 l10 y10 z10 st10 hQ10
  subst l10 y10 z10
  obtain ⟨rfl, N10q, eh10⟩ := hQ10
  have N10 := Fr.app N8 N10q
  refine ot (S' := T10.setTop (mkF m 73 lv9 [])) st10 ?_
  let lv11 : Array Slot := #[vR x0, vR ln, vR sb, vI 4, vI s1]
  refine oo (S' := T10.setTop (mkF m 25 lv11 [])) (fun _ kK => XS.iload X10.here hx rfl (hb hby d42_73) rfl (XS.bipush X10.here hx rfl (hb hby d42_75) (XS.icmpNo X10.here hx rfl (hb hby d42_77) rfl (feq ((own_b40 P12))).1 (XS.iload X10.here hx rfl (hb hby d42_80) rfl (XS.bipush X10.here hx rfl (hb hby d42_82) (XS.icmpYes X10.here hx rfl (pc0 := 84) (pc' := 112) rfl (hb hby d42_84) rfl (feq ((own_b41 P12))).2 (by decide) (by decide) (XS.iinc X10.here hx rfl (hb hby d42_112) rfl (l' := lv11) rfl (XS.goto X10.here hx rfl (pc0 := 115) (pc' := 25) rfl (hb hby d42_115) (by decide) (by decide) kK)))))))) ?_
  exact sft2_1 l Z a0 G x0 ln lt kl tv c0 s0 c1 s1 c2 aD kD h0 n0 O0 P3 P8 P9 P10 P11 P12 P13 P14 Bd hml0 hZ (X10.more (by decide) (by decide)) hJ eh10 KJ OJ N10 (by omega) lst mc sb vb kv g ml ar kA tk0 y0 yt0 yk0 J0 J1 J2 J3 J4 J5 J6 J7 J8 J9 J10 J11 J12 J13 J14 J15 J16 (by omega) (by omega) (by omega) (by omega) J21 (J22) J23 J24 J25 J26 (by omega) (by simp only [own_ord, and_true]; omega) (by simp only [own_ord, and_true]; omega) (by simp only [own_ord, and_true]; omega) (by omega) (by omega) (by omega) ((J34).trans (by rw [own_nb_b hbl]))
 ·refine oo (S' := T3.setTop (mkF m 68 lv4 [])) (fun _ kK => Or.elim hpa (fun hz => XS.iload X3.here hx rfl (hb hby d42_40) rfl (XS.bipush X3.here hx rfl (hb hby d42_42) (XS.icmpNo X3.here hx rfl (hb hby d42_44) rfl (feq ((fun q => absurd (hz.symm.trans q) (by decide)))).1 (XS.iload X3.here hx rfl (hb hby d42_47) rfl (XS.bipush X3.here hx rfl (hb hby d42_49) (XS.icmpNo X3.here hx rfl (hb hby d42_51) rfl (feq ((fun q => absurd (hz.symm.trans q) (by decide)))).1 (XS.iload X3.here hx rfl (hb hby d42_54) rfl (XS.bipush X3.here hx rfl (hb hby d42_56) (XS.icmpYes X3.here hx rfl (pc0 := 58) (pc' := 68) rfl (hb hby d42_58) rfl (teq (hz)).1 (by decide) (by decide) kK))))))))) (fun hz => XS.iload X3.here hx rfl (hb hby d42_40) rfl (XS.bipush X3.here hx rfl (hb hby d42_42) (XS.icmpNo X3.here hx rfl (hb hby d42_44) rfl (feq ((fun q => absurd (hz.symm.trans q) (by decide)))).1 (XS.iload X3.here hx rfl (hb hby d42_47) rfl (XS.bipush X3.here hx rfl (hb hby d42_49) (XS.icmpNo X3.here hx rfl (hb hby d42_51) rfl (feq ((fun q => absurd (hz.symm.trans q) (by decide)))).1 (XS.iload X3.here hx rfl (hb hby d42_54) rfl (XS.bipush X3.here hx rfl (hb hby d42_56) (XS.icmpNo X3.here hx rfl (hb hby d42_58) rfl (feq ((fun q => absurd (hz.symm.trans q) (by decide)))).1 (XS.iload X3.here hx rfl (hb hby d42_61) rfl (XS.bipush X3.here hx rfl (hb hby d42_63) (XS.icmpNo X3.here hx rfl (hb hby d42_65) rfl (teq (hz)).2 kK))))))))))))) ?_
  refine oo (S' := T3.setTop (mkF m 70 lv4 [(.ref sb), (.ref x0)])) (fun _ kK => XS.aloadN X3.here hx rfl (hb hby d42_68) rfl rfl (XS.aloadN X3.here hx rfl (hb hby d42_69) rfl rfl kK)) ?_
  obtain ⟨cq12, kq12, q12a, q12b, cc12, q12d, -, q12e⟩ := isOf hZ eh3 J0
  obtain ⟨_, _, ⟨T12, L12, k12, n12⟩, -, X12, ⟨Lc12, hQ12, l12, y12, z12⟩, st12⟩ := X3.privateBack hx (y := own_m41) hown (mvT hZ (w_ G 154 rfl)) (mvT hZ (w_ G 155 rfl)) (own_selP (oI (mvT hZ (w_ G 254 rfl)) rfl) (mvT hZ (w_ G 155 rfl)) (Cond.privateMethod_at (args := #[]) (mvT hZ (w_ G 156 rfl))) (by decide)) (Cond.privateMethod_at (args := #[]) (mvT hZ (w_ G 156 rfl))) (mvT hZ (w_ G 157 rfl)) (by decide) (backOf (W := 0) (rmtan l Z a0 G [] x0 sb hJ n0 OJ J7 J10) hZ (w_ G 157 rfl) (w_ G 35 rfl) (by decide) (by decide)) (g := (mkF m 70 lv4 [(.ref sb), (.ref x0)])) rfl (by rw [hml]; rfl) (Steps.refl _) q12d (own_nost q12e) (argsL := [(.ref sb)]) (rest := []) (lenOf pd_13 rfl) rfl (own_z rfl) (hb hby d42_70) (fun _ _ => ⟨rfl, eh3, (ol rfl), (ol rfl)⟩)
  dsimp only [Pt.U, Pt.locs, Pt.cells, Pt.slots] at X12 l12 y12 z12 st12 hQ12
  subst l12 y12 z12
  obtain ⟨rfl, N12q, eh12⟩ := hQ12
  have N12 := Fr.app N3 N12q
  refine ot (S' := T12.setTop (mkF m 73 lv4 [])) st12 ?_
  refine oo (S' := T12.setTop (mkF m 87 lv4 [])) (fun _ kK => Or.elim hpa (fun hz => XS.iload X12.here hx rfl (hb hby d42_73) rfl (XS.bipush X12.here hx rfl (hb hby d42_75) (XS.icmpYes X12.here hx rfl (pc0 := 77) (pc' := 87) rfl (hb hby d42_77) rfl (teq (hz)).1 (by decide) (by decide) kK))) (fun hz => XS.iload X12.here hx rfl (hb hby d42_73) rfl (XS.bipush X12.here hx rfl (hb hby d42_75) (XS.icmpNo X12.here hx rfl (hb hby d42_77) rfl (feq ((fun q => absurd (hz.symm.trans q) (by decide)))).1 (XS.iload X12.here hx rfl (hb hby d42_80) rfl (XS.bipush X12.here hx rfl (hb hby d42_82) (XS.icmpNo X12.here hx rfl (hb hby d42_84) rfl (teq (hz)).2 kK))))))) ?_
  refine oo (S' := T12.setTop (mkF m 88 lv4 [(.ref x0)])) (fun _ kK => XS.aloadN X12.here hx rfl (hb hby d42_87) rfl rfl kK) ?_
  obtain ⟨T13, X13, e13, st13⟩ := getF X12 hx hZ hown (host := "") (Or.inl (w_ G 80 rfl)) Via.refl eh12 J1 (g := (mkF m 88 lv4 [(.ref x0)])) rfl rfl (hb hby d42_88)
  refine oo (S' := T13.setTop (mkF m 91 lv4 [(.ref lst)])) st13 ?_
  refine oo (S' := T13.setTop (mkF m 93 lv4 [(.int c1), (.ref lst)])) (fun _ kK => XS.iload X13.here hx rfl (hb hby d42_91) rfl kK) ?_
  obtain ⟨_, _, ⟨T14, L14, k14, n14⟩, -, X14, ⟨Lc14, hQ14, l14, y14, z14⟩, st14⟩ := Jvm.LawKit.callS X13 hx (y := own_m28) hown (mvT hZ (w_ G 298 rfl)) (mvT hZ (w_ G 8 rfl)) (mvT hZ (w_ G 9 rfl)) (mvT hZ (w_ G 10 rfl)) (by decide) (backOf (W := 1) (rmvo l Z a0 G [] c1 hJ n0 OJ (P10 c1 (by simp))) hZ (w_ G 10 rfl) (w_ G 9 rfl) (by decide) (by decide)) (g := (mkF m 93 lv4 [(.int c1), (.ref lst)])) rfl (by rw [hml]; rfl) (argsL := [(.int c1)]) (rest := [(.ref lst)]) (lenOf pd_24 rfl) rfl (own_z rfl) (hb hby d42_93) (fun _ _ => ⟨rfl, e13, (ol rfl), (ol rfl)⟩)
  dsimp only [Pt.U, Pt.locs, Pt.cells, Pt.slots] at X14 l14 y14 z14 st14 hQ14
  subst l14 y14 z14
  obtain ⟨x_14, t_14, kb_14, rfl, N14q, Kq14, r14_0, r14_1, r14_2, r14_3, r14_4, r14_5⟩ := hQ14
  have N14 := Fr.app N12 N14q
  have sz15 := Kq14.1
  have K15 := KJ.trans Kq14 (own_all0 )
  have O15 := OJ.keep Kq14 (own_all0 )
  have ltr14_0 := lN r14_0.lt
  have ltr14_1 := lN r14_1.lt
  have ltr14_2 := lN r14_2.lt
  have ltr14_3 := lN r14_3.lt
  refine oo (S' := T14.setTop (mkF m 96 lv4 [(.ref x_14), (.ref lst)])) st14 ?_
  have f16 := (J13.keep Kq14)
  have f17 := (J14.keep Kq14 nin0)
  have f18 := (J15.keep Kq14 nin0)
  have f19 := (J16.keep Kq14 nin0)
  have f20 := (J21.keep Kq14 nin0)
  obtain ⟨cq21, kq21, q21a, q21b, q21c⟩ := isOf hZ rfl f16
  obtain ⟨_, _, ⟨T21, L21, k21, n21⟩, -, X21, ⟨Lc21, hQ21, l21, y21, z21⟩, st21⟩ := X14.interfaceBack hx (xi := own_m42) (y := own_m36) hown (mvT hZ (w_ G 205 rfl)) (mvT hZ (w_ G 206 rfl)) (mvT hZ (w_ G 207 rfl)) (mvT hZ (w_ G 208 rfl)) (mvT hZ (w_ G 209 rfl)) (mvT hZ (w_ G 210 rfl)) (mvT hZ (w_ G 211 rfl)) (mvT hZ (w_ G 212 rfl)) (by decide) (backOf (W := 0) (rmal1 l Z a0 G [] lst mc x_14 ar kA y0 T14.heap n0 O15 f16 f17 f18 f19 r14_0 (by omega) (by omega) (on (by omega)) f20 J22) hZ (w_ G 213 rfl) (w_ G 58 rfl) (by decide) (by decide)) q21a q21b q21c (g := (mkF m 96 lv4 [(.ref x_14), (.ref lst)])) rfl (by rw [hml]; rfl) (Steps.refl _) (argsL := [(.ref x_14)]) (rest := []) (lenOf pd_22 rfl) rfl (own_z rfl) (hb hby d42_96) (fun _ _ => ⟨rfl, rfl, (ol rfl), (ol rfl)⟩)
  dsimp only [Pt.U, Pt.locs, Pt.cells, Pt.slots] at X21 l21 y21 z21 st21 hQ21
  subst l21 y21 z21
  obtain ⟨rfl, N21q, Kq21, r21_0, r21_1, r21_2, r21_3, r21_4⟩ := hQ21
  have N21 := Fr.app N14 N21q
  have sz22 := Kq21.1
  have K22 := K15.trans Kq21 (own_all2 (Or.inr (by omega)) (Or.inr (by omega)))
  have O22 := O15.keep Kq21 (own_all2 (by omega) (by omega))
  have ltr21_0 := lN r21_0.lt
  have ltr21_1 := lN r21_1.lt
  have ltr21_2 := lN r21_2.lt
  have ltr21_3 := lN r21_3.lt
  have ltr21_4 := lN r21_4.lt
  refine ot (S' := T21.setTop (mkF m 101 lv4 [(.int 1)])) st21 ?_
  let lv23 : Array Slot := #[vR x0, vR ln, vR sb, vI 3, vI c1]
  refine oo (S' := T21.setTop (mkF m 27 lv23 [(.ref ln), (.int 3)])) (fun _ kK => XS.pop X21.here hx rfl (hb hby d42_101) rfl rfl (XS.goto X21.here hx rfl (pc0 := 102) (pc' := 112) rfl (hb hby d42_102) (by decide) (by decide) (XS.iinc X21.here hx rfl (hb hby d42_112) rfl (l' := lv23) rfl (XS.goto X21.here hx rfl (pc0 := 115) (pc' := 25) rfl (hb hby d42_115) (by decide) (by decide) (XS.iloadN X21.here hx rfl (hb hby d42_25) rfl (XS.aloadN X21.here hx rfl (hb hby d42_26) rfl rfl kK)))))) ?_
  have f24 := ((J3.keep Kq14).keep Kq21)
  have f25 := ((J4.keep Kq14 nin0).keep Kq21 (own_nin2 (on (by omega)) (on (by omega))))
  have f26 := ((J5.keep Kq14 nin0).keep Kq21 (own_nin2 (on (by omega)) (on (by omega))))
  have f27 := ((J6.keep Kq14 nin0).keep Kq21 (own_nin2 (on (by omega)) (on (by omega))))
  obtain ⟨cq28, kq28, q28a, q28b, q28c⟩ := isOf hZ rfl f24
  obtain ⟨_, _, ⟨T28, L28, k28, n28⟩, -, X28, ⟨Lc28, hQ28, l28, y28, z28⟩, st28⟩ := X21.virtualBack hx (y := own_m4) (z := own_m4) hown (mvT hZ (w_ G 100 rfl)) (mvT hZ (w_ G 101 rfl)) (notFace_of_selects (args := #[]) (mvT hZ (w_ G 103 rfl))) (mvT hZ (w_ G 103 rfl)) (mvT hZ (w_ G 102 rfl)) (by decide) (backOf (W := 1) (rmln0 l Z a0 G [] ln lt kl (5 : Int32) ((([c0, s0, c1, s1, c2] : List Int32).map (fun c => c.toInt8.toInt32)).map Value.int) (.int 0) T21.heap n0 O22 f24 f25 f26 f27) hZ (w_ G 104 rfl) (w_ G 9 rfl) (by decide) (by decide)) q28a q28c (g := (mkF m 27 lv23 [(.ref ln), (.int 3)])) rfl (by rw [hml]; rfl) (Steps.refl _) (argsL := []) (rest := [(.int 3)]) (lenOf pd_8 rfl) rfl (own_z rfl) (hb hby d42_27) (fun _ _ => ⟨rfl, rfl, (ol rfl), (ol rfl)⟩)
  dsimp only [Pt.U, Pt.locs, Pt.cells, Pt.slots] at X28 l28 y28 z28 st28 hQ28
  subst l28 y28 z28
  obtain ⟨rfl, N28q, eh28⟩ := hQ28
  have N28 := Fr.app N21 N28q
  refine ot (S' := T28.setTop (mkF m 30 lv23 [(.int 5), (.int 3)])) st28 ?_
  refine oo (S' := T28.setTop (mkF m 35 lv23 [(.int 3), (.ref ln)])) (fun _ kK => XS.icmpNo X28.here hx rfl (hb hby d42_30) rfl (tlt ((by decide : (3 : Int32) < (5 : Int32)))).2.1 (XS.aloadN X28.here hx rfl (hb hby d42_33) rfl rfl (XS.iloadN X28.here hx rfl (hb hby d42_34) rfl kK))) ?_
  obtain ⟨cq29, kq29, q29a, q29b, q29c⟩ := isOf hZ eh28 f24
  obtain ⟨_, _, ⟨T29, L29, k29, n29⟩, -, X29, ⟨Lc29, hQ29, l29, y29, z29⟩, st29⟩ := X28.virtualBack hx (y := own_m6) (z := own_m6) hown (mvT hZ (w_ G 110 rfl)) (mvT hZ (w_ G 111 rfl)) (notFace_of_selects (args := #[]) (mvT hZ (w_ G 113 rfl))) (mvT hZ (w_ G 113 rfl)) (mvT hZ (w_ G 112 rfl)) (by decide) (backOf (W := 0) (rmcA0 l Z a0 G [] ln lt kl (5 : Int32) ((([c0, s0, c1, s1, c2] : List Int32).map (fun c => c.toInt8.toInt32)).map Value.int) (.int 0) (3 : Int32) s1 T21.heap n0 O22 f24 f25 f26 f27 (by decide) (by decide) (by rfl) (P10 s1 (by simp))) hZ (w_ G 114 rfl) (w_ G 9 rfl) (by decide) (by decide)) q29a q29c (g := (mkF m 35 lv23 [(.int 3), (.ref ln)])) rfl (by rw [hml]; rfl) (Steps.refl _) (argsL := [(.int 3)]) (rest := []) (lenOf pd_23 rfl) rfl (own_z rfl) (hb hby d42_35) (fun _ _ => ⟨rfl, eh28, (ol rfl), (ol rfl)⟩)
  dsimp only [Pt.U, Pt.locs, Pt.cells, Pt.slots] at X29 l29 y29 z29 st29 hQ29
  subst l29 y29 z29
  obtain ⟨rfl, N29q, eh29⟩ := hQ29
  have N29 := Fr.app N28 N29q
  refine ot (S' := T29.setTop (mkF m 38 lv23 [(.int s1)])) st29 ?_
  let lv30 : Array Slot := #[vR x0, vR ln, vR sb, vI 3, vI s1]
  refine oo (S' := T29.setTop (mkF m 40 lv30 [])) (fun _ kK => XS.istore X29.here hx rfl (hb hby d42_38) rfl (l' := lv30) rfl kK) ?_
  refine oo (S' := T29.setTop (mkF m 68 lv30 [])) (fun _ kK => Or.elim P12 (fun hz => XS.iload X29.here hx rfl (hb hby d42_40) rfl (XS.bipush X29.here hx rfl (hb hby d42_42) (XS.icmpYes X29.here hx rfl (pc0 := 44) (pc' := 68) rfl (hb hby d42_44) rfl (teq (hz)).1 (by decide) (by decide) kK))) (fun hz => XS.iload X29.here hx rfl (hb hby d42_40) rfl (XS.bipush X29.here hx rfl (hb hby d42_42) (XS.icmpNo X29.here hx rfl (hb hby d42_44) rfl (feq ((fun q => absurd (hz.symm.trans q) (by decide)))).1 (XS.iload X29.here hx rfl (hb hby d42_47) rfl (XS.bipush X29.here hx rfl (hb hby d42_49) (XS.icmpYes X29.here hx rfl (pc0 := 51) (pc' := 68) rfl (hb hby d42_51) rfl (teq (hz)).1 (by decide) (by decide) kK))))))) ?_
  refine oo (S' := T29.setTop (mkF m 70 lv30 [(.ref sb), (.ref x0)])) (fun _ kK => XS.aloadN X29.here hx rfl (hb hby d42_68) rfl rfl (XS.aloadN X29.here hx rfl (hb hby d42_69) rfl rfl kK)) ?_
  have f31 := ((J7.keep Kq14).keep Kq21)
  have f32 := ((J10.keep Kq14 nin0).keep Kq21 (own_nin2 (on (by omega)) (on (by omega))))
  have f34 := ((J0.keep Kq14).keep Kq21)
  obtain ⟨cq33, kq33, q33a, q33b, cc33, q33d, -, q33e⟩ := isOf hZ eh29 f34
  obtain ⟨_, _, ⟨T33, L33, k33, n33⟩, -, X33, ⟨Lc33, hQ33, l33, y33, z33⟩, st33⟩ := X29.privateBack hx (y := own_m41) hown (mvT hZ (w_ G 154 rfl)) (mvT hZ (w_ G 155 rfl)) (own_selP (oI (mvT hZ (w_ G 254 rfl)) rfl) (mvT hZ (w_ G 155 rfl)) (Cond.privateMethod_at (args := #[]) (mvT hZ (w_ G 156 rfl))) (by decide)) (Cond.privateMethod_at (args := #[]) (mvT hZ (w_ G 156 rfl))) (mvT hZ (w_ G 157 rfl)) (by decide) (backOf (W := 0) (rmtan l Z a0 G [] x0 sb T21.heap n0 O22 f31 f32) hZ (w_ G 157 rfl) (w_ G 35 rfl) (by decide) (by decide)) (g := (mkF m 70 lv30 [(.ref sb), (.ref x0)])) rfl (by rw [hml]; rfl) (Steps.refl _) q33d (own_nost q33e) (argsL := [(.ref sb)]) (rest := []) (lenOf pd_13 rfl) rfl (own_z rfl) (hb hby d42_70) (fun _ _ => ⟨rfl, eh29, (ol rfl), (ol rfl)⟩)
  dsimp only [Pt.U, Pt.locs, Pt.cells, Pt.slots] at X33 l33 y33 z33 st33 hQ33
  subst l33 y33 z33
  obtain ⟨rfl, N33q, eh33⟩ := hQ33
  have N33 := Fr.app N29 N33q
  refine ot (S' := T33.setTop (mkF m 73 lv30 [])) st33 ?_
  let lv35 : Array Slot := #[vR x0, vR ln, vR sb, vI 4, vI s1]
  refine oo (S' := T33.setTop (mkF m 25 lv35 [])) (fun _ kK => XS.iload X33.here hx rfl (hb hby d42_73) rfl (XS.bipush X33.here hx rfl (hb hby d42_75) (XS.icmpNo X33.here hx rfl (hb hby d42_77) rfl (feq ((own_b40 P12))).1 (XS.iload X33.here hx rfl (hb hby d42_80) rfl (XS.bipush X33.here hx rfl (hb hby d42_82) (XS.icmpYes X33.here hx rfl (pc0 := 84) (pc' := 112) rfl (hb hby d42_84) rfl (feq ((own_b41 P12))).2 (by decide) (by decide) (XS.iinc X33.here hx rfl (hb hby d42_112) rfl (l' := lv35) rfl (XS.goto X33.here hx rfl (pc0 := 115) (pc' := 25) rfl (hb hby d42_115) (by decide) (by decide) kK)))))))) ?_
  have f36 := ((J1.keep Kq14 nin0).keep Kq21 (own_nin2 (on (by omega)) (on (by omega))))
  have f37 := ((J2.keep Kq14 nin0).keep Kq21 (own_nin2 (on (by omega)) (on (by omega))))
  have f38 := ((J8.keep Kq14 nin0).keep Kq21 (own_nin2 (on (by omega)) (on (by omega))))
  have f39 := ((J9.keep Kq14 nin0).keep Kq21 (own_nin2 (on (by omega)) (on (by omega))))
  have f40 := ((J11.keep Kq14 nin0).keep Kq21 (own_nin2 (on (by omega)) (on (by omega))))
  have f41 := ((J12.keep Kq14 nin0).keep Kq21 (own_nin2 (on (by omega)) (on (by omega))))
  have f42 := ((J23.keep Kq14).keep Kq21)
  have f43 := ((J24.keep Kq14 nin0).keep Kq21 (own_nin2 (on (by omega)) (on (by omega))))
  have f44 := ((J25.keep Kq14 nin0).keep Kq21 (own_nin2 (on (by omega)) (on (by omega))))
  have f45 := ((J26.keep Kq14 nin0).keep Kq21 (own_nin2 (on (by omega)) (on (by omega))))
  have f46 := (r14_0.keep Kq21)
  have f47 := (r14_1.keep Kq21 (own_nin2 (on (by omega)) (on (by omega))))
  have f48 := (r14_2.keep Kq21 (own_nin2 (on (by omega)) (on (by omega))))
  have f49 := (r14_3.keep Kq21 (own_nin2 (on (by omega)) (on (by omega))))
  exact sft2_2 l Z a0 G x0 ln lt kl tv c0 s0 c1 s1 c2 aD kD h0 n0 O0 P3 P8 P9 P10 P11 P12 P13 P14 Bd hml0 hZ (X33.more (by decide) (by decide)) T21.heap eh33 K22 O22 N33 (by omega) lst (mc + (1 : Int32)) sb vb kv g ml ar kA tk0 y0 yt0 yk0 c1 x_14 t_14 kb_14 f34 f36 f37 f24 f25 f26 f27 f31 f38 f39 f32 f40 f41 r21_0 r21_1 r21_2 r21_3 (by omega) (by omega) (by omega) (by omega) r21_4 (J22) f42 f43 f44 f45 f46 f47 f48 f49 (by omega) (by simp only [own_ord, and_true]; omega) (by simp only [own_ord, and_true]; omega) (by simp only [own_ord, and_true]; omega) (by omega) (by omega) (by omega) ((J34).trans (by rw [own_nb_n (own_p32 hpa) (own_p9 hpa)]))
 ·refine oo (S' := T3.setTop (mkF m 108 lv4 [(.int c1), (.ref sb)])) (fun _ kK => XS.iload X3.here hx rfl (hb hby d42_40) rfl (XS.bipush X3.here hx rfl (hb hby d42_42) (XS.icmpNo X3.here hx rfl (hb hby d42_44) rfl (feq (hot.1)).1 (XS.iload X3.here hx rfl (hb hby d42_47) rfl (XS.bipush X3.here hx rfl (hb hby d42_49) (XS.icmpNo X3.here hx rfl (hb hby d42_51) rfl (feq (hot.2.1)).1 (XS.iload X3.here hx rfl (hb hby d42_54) rfl (XS.bipush X3.here hx rfl (hb hby d42_56) (XS.icmpNo X3.here hx rfl (hb hby d42_58) rfl (feq (hot.2.2.1)).1 (XS.iload X3.here hx rfl (hb hby d42_61) rfl (XS.bipush X3.here hx rfl (hb hby d42_63) (XS.icmpYes X3.here hx rfl (pc0 := 65) (pc' := 105) rfl (hb hby d42_65) rfl (feq (hot.2.2.2)).2 (by decide) (by decide) (XS.aloadN X3.here hx rfl (hb hby d42_105) rfl rfl (XS.iload X3.here hx rfl (hb hby d42_106) rfl kK)))))))))))))) ?_
  obtain ⟨cq50, kq50, q50a, q50b, q50c⟩ := isOf hZ eh3 J7
  obtain ⟨_, _, ⟨T50, L50, k50, n50⟩, -, X50, ⟨Lc50, hQ50, l50, y50, z50⟩, st50⟩ := X3.virtualBack hx (y := own_m13) (z := own_m13) hown (mvT hZ (w_ G 131 rfl)) (mvT hZ (w_ G 132 rfl)) (notFace_of_selects (args := #[]) (mvT hZ (w_ G 134 rfl))) (mvT hZ (w_ G 134 rfl)) (mvT hZ (w_ G 133 rfl)) (by decide) (backOf (W := 0) (rmsbc l Z a0 G [] sb vb kv g ml c1 hJ n0 OJ J7 J8 J9 J10 J11 J12 (P10 c1 (by simp)) (by omega) (by omega) (on (by omega))) hZ (w_ G 135 rfl) (w_ G 84 rfl) (by decide) (by decide)) q50a q50c (g := (mkF m 108 lv4 [(.int c1), (.ref sb)])) rfl (by rw [hml]; rfl) (Steps.refl _) (argsL := [(.int c1)]) (rest := []) (lenOf pd_25 rfl) rfl (own_z rfl) (hb hby d42_108) (fun _ _ => ⟨rfl, eh3, (ol rfl), (ol rfl)⟩)
  dsimp only [Pt.U, Pt.locs, Pt.cells, Pt.slots] at X50 l50 y50 z50 st50 hQ50
  subst l50 y50 z50
  obtain ⟨rfl, N50q, Kq50, r50_0, r50_1, r50_2, r50_3, r50_4, r50_5⟩ := hQ50
  have N50 := Fr.app N3 N50q
  have sz51 := Kq50.1
  have K51 := KJ.trans Kq50 (own_all2 (Or.inr (by omega)) (Or.inr (by omega)))
  have O51 := OJ.keep Kq50 (own_all2 (by omega) (by omega))
  have ltr50_0 := lN r50_0.lt
  have ltr50_1 := lN r50_1.lt
  have ltr50_2 := lN r50_2.lt
  have ltr50_3 := lN r50_3.lt
  have ltr50_4 := lN r50_4.lt
  have ltr50_5 := lN r50_5.lt
  refine ot (S' := T50.setTop (mkF m 111 lv4 [(.ref sb)])) st50 ?_
  let lv52 : Array Slot := #[vR x0, vR ln, vR sb, vI 3, vI c1]
  refine oo (S' := T50.setTop (mkF m 27 lv52 [(.ref ln), (.int 3)])) (fun _ kK => XS.pop X50.here hx rfl (hb hby d42_111) rfl rfl (XS.iinc X50.here hx rfl (hb hby d42_112) rfl (l' := lv52) rfl (XS.goto X50.here hx rfl (pc0 := 115) (pc' := 25) rfl (hb hby d42_115) (by decide) (by decide) (XS.iloadN X50.here hx rfl (hb hby d42_25) rfl (XS.aloadN X50.here hx rfl (hb hby d42_26) rfl rfl kK))))) ?_
  have f53 := (J3.keep Kq50)
  have f54 := (J4.keep Kq50 (own_nin2 (on (by omega)) (on (by omega))))
  have f55 := (J5.keep Kq50 (own_nin2 (on (by omega)) (on (by omega))))
  have f56 := (J6.keep Kq50 (own_nin2 (on (by omega)) (on (by omega))))
  obtain ⟨cq57, kq57, q57a, q57b, q57c⟩ := isOf hZ rfl f53
  obtain ⟨_, _, ⟨T57, L57, k57, n57⟩, -, X57, ⟨Lc57, hQ57, l57, y57, z57⟩, st57⟩ := X50.virtualBack hx (y := own_m4) (z := own_m4) hown (mvT hZ (w_ G 100 rfl)) (mvT hZ (w_ G 101 rfl)) (notFace_of_selects (args := #[]) (mvT hZ (w_ G 103 rfl))) (mvT hZ (w_ G 103 rfl)) (mvT hZ (w_ G 102 rfl)) (by decide) (backOf (W := 1) (rmln0 l Z a0 G [] ln lt kl (5 : Int32) ((([c0, s0, c1, s1, c2] : List Int32).map (fun c => c.toInt8.toInt32)).map Value.int) (.int 0) T50.heap n0 O51 f53 f54 f55 f56) hZ (w_ G 104 rfl) (w_ G 9 rfl) (by decide) (by decide)) q57a q57c (g := (mkF m 27 lv52 [(.ref ln), (.int 3)])) rfl (by rw [hml]; rfl) (Steps.refl _) (argsL := []) (rest := [(.int 3)]) (lenOf pd_8 rfl) rfl (own_z rfl) (hb hby d42_27) (fun _ _ => ⟨rfl, rfl, (ol rfl), (ol rfl)⟩)
  dsimp only [Pt.U, Pt.locs, Pt.cells, Pt.slots] at X57 l57 y57 z57 st57 hQ57
  subst l57 y57 z57
  obtain ⟨rfl, N57q, eh57⟩ := hQ57
  have N57 := Fr.app N50 N57q
  refine ot (S' := T57.setTop (mkF m 30 lv52 [(.int 5), (.int 3)])) st57 ?_
  refine oo (S' := T57.setTop (mkF m 35 lv52 [(.int 3), (.ref ln)])) (fun _ kK => XS.icmpNo X57.here hx rfl (hb hby d42_30) rfl (tlt ((by decide : (3 : Int32) < (5 : Int32)))).2.1 (XS.aloadN X57.here hx rfl (hb hby d42_33) rfl rfl (XS.iloadN X57.here hx rfl (hb hby d42_34) rfl kK))) ?_
  obtain ⟨cq58, kq58, q58a, q58b, q58c⟩ := isOf hZ eh57 f53
  obtain ⟨_, _, ⟨T58, L58, k58, n58⟩, -, X58, ⟨Lc58, hQ58, l58, y58, z58⟩, st58⟩ := X57.virtualBack hx (y := own_m6) (z := own_m6) hown (mvT hZ (w_ G 110 rfl)) (mvT hZ (w_ G 111 rfl)) (notFace_of_selects (args := #[]) (mvT hZ (w_ G 113 rfl))) (mvT hZ (w_ G 113 rfl)) (mvT hZ (w_ G 112 rfl)) (by decide) (backOf (W := 0) (rmcA0 l Z a0 G [] ln lt kl (5 : Int32) ((([c0, s0, c1, s1, c2] : List Int32).map (fun c => c.toInt8.toInt32)).map Value.int) (.int 0) (3 : Int32) s1 T50.heap n0 O51 f53 f54 f55 f56 (by decide) (by decide) (by rfl) (P10 s1 (by simp))) hZ (w_ G 114 rfl) (w_ G 9 rfl) (by decide) (by decide)) q58a q58c (g := (mkF m 35 lv52 [(.int 3), (.ref ln)])) rfl (by rw [hml]; rfl) (Steps.refl _) (argsL := [(.int 3)]) (rest := []) (lenOf pd_23 rfl) rfl (own_z rfl) (hb hby d42_35) (fun _ _ => ⟨rfl, eh57, (ol rfl), (ol rfl)⟩)
  dsimp only [Pt.U, Pt.locs, Pt.cells, Pt.slots] at X58 l58 y58 z58 st58 hQ58
  subst l58 y58 z58
  obtain ⟨rfl, N58q, eh58⟩ := hQ58
  have N58 := Fr.app N57 N58q
  refine ot (S' := T58.setTop (mkF m 38 lv52 [(.int s1)])) st58 ?_
  let lv59 : Array Slot := #[vR x0, vR ln, vR sb, vI 3, vI s1]
  refine oo (S' := T58.setTop (mkF m 40 lv59 [])) (fun _ kK => XS.istore X58.here hx rfl (hb hby d42_38) rfl (l' := lv59) rfl kK) ?_
  refine oo (S' := T58.setTop (mkF m 68 lv59 [])) (fun _ kK => Or.elim P12 (fun hz => XS.iload X58.here hx rfl (hb hby d42_40) rfl (XS.bipush X58.here hx rfl (hb hby d42_42) (XS.icmpYes X58.here hx rfl (pc0 := 44) (pc' := 68) rfl (hb hby d42_44) rfl (teq (hz)).1 (by decide) (by decide) kK))) (fun hz => XS.iload X58.here hx rfl (hb hby d42_40) rfl (XS.bipush X58.here hx rfl (hb hby d42_42) (XS.icmpNo X58.here hx rfl (hb hby d42_44) rfl (feq ((fun q => absurd (hz.symm.trans q) (by decide)))).1 (XS.iload X58.here hx rfl (hb hby d42_47) rfl (XS.bipush X58.here hx rfl (hb hby d42_49) (XS.icmpYes X58.here hx rfl (pc0 := 51) (pc' := 68) rfl (hb hby d42_51) rfl (teq (hz)).1 (by decide) (by decide) kK))))))) ?_
  refine oo (S' := T58.setTop (mkF m 70 lv59 [(.ref sb), (.ref x0)])) (fun _ kK => XS.aloadN X58.here hx rfl (hb hby d42_68) rfl rfl (XS.aloadN X58.here hx rfl (hb hby d42_69) rfl rfl kK)) ?_
  have f60 := (J1.keep Kq50 (own_nin2 (on (by omega)) (on (by omega))))
  have f61 := (J13.keep Kq50)
  have f62 := (J14.keep Kq50 (own_nin2 (on (by omega)) (on (by omega))))
  have f63 := (J15.keep Kq50 (own_nin2 (on (by omega)) (on (by omega))))
  have f64 := (J16.keep Kq50 (own_nin2 (on (by omega)) (on (by omega))))
  have f65 := (J21.keep Kq50 (own_nin2 (on (by omega)) (on (by omega))))
  have f67 := (J0.keep Kq50)
  obtain ⟨cq66, kq66, q66a, q66b, cc66, q66d, -, q66e⟩ := isOf hZ eh58 f67
  obtain ⟨_, _, ⟨T66, L66, k66, n66⟩, -, X66, ⟨Lc66, hQ66, l66, y66, z66⟩, st66⟩ := X58.privateBack hx (y := own_m41) hown (mvT hZ (w_ G 154 rfl)) (mvT hZ (w_ G 155 rfl)) (own_selP (oI (mvT hZ (w_ G 254 rfl)) rfl) (mvT hZ (w_ G 155 rfl)) (Cond.privateMethod_at (args := #[]) (mvT hZ (w_ G 156 rfl))) (by decide)) (Cond.privateMethod_at (args := #[]) (mvT hZ (w_ G 156 rfl))) (mvT hZ (w_ G 157 rfl)) (by decide) (backOf (W := 0) (rmta1 l Z a0 G [] x0 lst mc sb vb kv (.int (StrChars.lo8 c1)) ml ar kA y0 T50.heap n0 O51 f60 r50_0 r50_1 r50_2 r50_3 r50_4 r50_5 f61 f62 f63 f64 (by omega) (by omega) (by omega) (by omega) f65 J22 (on (by omega)) (on (by omega)) (on (by omega)) (on (by omega)) (on (by omega)) (on (by omega))) hZ (w_ G 157 rfl) (w_ G 35 rfl) (by decide) (by decide)) (g := (mkF m 70 lv59 [(.ref sb), (.ref x0)])) rfl (by rw [hml]; rfl) (Steps.refl _) q66d (own_nost q66e) (argsL := [(.ref sb)]) (rest := []) (lenOf pd_13 rfl) rfl (own_z rfl) (hb hby d42_70) (fun _ _ => ⟨rfl, eh58, (ol rfl), (ol rfl)⟩)
  dsimp only [Pt.U, Pt.locs, Pt.cells, Pt.slots] at X66 l66 y66 z66 st66 hQ66
  subst l66 y66 z66
  obtain ⟨y_66, t_66, kb_66, rfl, N66q, Kq66, r66_0, r66_1, r66_2, r66_3, r66_4, r66_5, r66_6, r66_7, r66_8, r66_9, r66_10, r66_11, r66_12, r66_13, r66_14, r66_15, r66_16⟩ := hQ66
  have N66 := Fr.app N58 N66q
  have sz68 := Kq66.1
  have K68 := K51.trans Kq66 (own_all3 (Or.inr (by omega)) (Or.inr (by omega)) (Or.inr (by omega)))
  have O68 := O51.keep Kq66 (own_all3 (by omega) (by omega) (by omega))
  have ltr66_0 := lN r66_0.lt
  have ltr66_1 := lN r66_1.lt
  have ltr66_2 := lN r66_2.lt
  have ltr66_3 := lN r66_3.lt
  have ltr66_6 := lN r66_6.lt
  have ltr66_7 := lN r66_7.lt
  have ltr66_8 := lN r66_8.lt
  have ltr66_9 := lN r66_9.lt
  have ltr66_10 := lN r66_10.lt
  have ltr66_11 := lN r66_11.lt
  have ltr66_12 := lN r66_12.lt
  have ltr66_13 := lN r66_13.lt
  have ltr66_14 := lN r66_14.lt
  have ltr66_15 := lN r66_15.lt
  have ltr66_16 := lN r66_16.lt
  refine ot (S' := T66.setTop (mkF m 73 lv59 [])) st66 ?_
  let lv69 : Array Slot := #[vR x0, vR ln, vR sb, vI 4, vI s1]
  refine oo (S' := T66.setTop (mkF m 25 lv69 [])) (fun _ kK => XS.iload X66.here hx rfl (hb hby d42_73) rfl (XS.bipush X66.here hx rfl (hb hby d42_75) (XS.icmpNo X66.here hx rfl (hb hby d42_77) rfl (feq ((own_b40 P12))).1 (XS.iload X66.here hx rfl (hb hby d42_80) rfl (XS.bipush X66.here hx rfl (hb hby d42_82) (XS.icmpYes X66.here hx rfl (pc0 := 84) (pc' := 112) rfl (hb hby d42_84) rfl (feq ((own_b41 P12))).2 (by decide) (by decide) (XS.iinc X66.here hx rfl (hb hby d42_112) rfl (l' := lv69) rfl (XS.goto X66.here hx rfl (pc0 := 115) (pc' := 25) rfl (hb hby d42_115) (by decide) (by decide) kK)))))))) ?_
  have f70 := (f67.keep Kq66)
  have f71 := (f60.keep Kq66 (own_nin3 (on (by omega)) (on (by omega)) (on (by omega))))
  have f72 := ((J2.keep Kq50 (own_nin2 (on (by omega)) (on (by omega)))).keep Kq66 (own_nin3 (on (by omega)) (on (by omega)) (on (by omega))))
  have f73 := (f53.keep Kq66)
  have f74 := (f54.keep Kq66 (own_nin3 (on (by omega)) (on (by omega)) (on (by omega))))
  have f75 := (f55.keep Kq66 (own_nin3 (on (by omega)) (on (by omega)) (on (by omega))))
  have f76 := (f56.keep Kq66 (own_nin3 (on (by omega)) (on (by omega)) (on (by omega))))
  have f77 := ((J23.keep Kq50).keep Kq66)
  have f78 := ((J24.keep Kq50 (own_nin2 (on (by omega)) (on (by omega)))).keep Kq66 (own_nin3 (on (by omega)) (on (by omega)) (on (by omega))))
  have f79 := ((J25.keep Kq50 (own_nin2 (on (by omega)) (on (by omega)))).keep Kq66 (own_nin3 (on (by omega)) (on (by omega)) (on (by omega))))
  have f80 := ((J26.keep Kq50 (own_nin2 (on (by omega)) (on (by omega)))).keep Kq66 (own_nin3 (on (by omega)) (on (by omega)) (on (by omega))))
  exact sft2_2 l Z a0 G x0 ln lt kl tv c0 s0 c1 s1 c2 aD kD h0 n0 O0 P3 P8 P9 P10 P11 P12 P13 P14 Bd hml0 hZ (X66.more (by decide) (by decide)) T66.heap rfl K68 O68 N66 (by omega) lst (mc + (1 : Int32)) sb vb kv (.int (StrChars.lo8 c1)) (.int 1) ar kA tk0 y0 yt0 yk0 c1 y_66 t_66 kb_66 f70 f71 f72 f73 f74 f75 f76 r66_11 r66_12 r66_13 r66_14 r66_15 r66_16 r66_6 r66_7 r66_8 r66_9 (by omega) (by omega) (by omega) (by omega) r66_10 (J22) f77 f78 f79 f80 r66_0 r66_1 r66_2 r66_3 (by omega) (by simp only [own_ord, and_true]; omega) (by simp only [own_ord, and_true]; omega) (by simp only [own_ord, and_true]; omega) (by omega) (by omega) (by omega) ((J34).trans (by rw [own_nb_n hot.1 hot.2.1]))

theorem own_efti (m : MethodId) (x0 : Addr) (ln : Addr) : entryFrame m #[(.ref x0), (.ref ln)] 5 = mkF m 0 #[vR x0, vR ln, .unset, .unset, .unset] [] := by first | (simp [entryFrame, mkF, argsToLocals, Value.category]; done) | rfl
set_option maxRecDepth 65536 in
set_option maxHeartbeats 40000000 in
theorem rmti (l : Launch) (Z : State) (a0 : Array Value) (G : OwnG Z a0) (ws : List Jvm.Cond) (x0 : Addr) (ln : Addr) (lt : Addr) (kl : ClassId) (tv : Value) (c0 : Int32) (s0 : Int32) (c1 : Int32) (s1 : Int32) (c2 : Int32) (aD : Addr) (kD : ClassId) (h0 : Heap) (n0 : Nat) (O0 : Old Z n0 h0) (P0 : Exa Z h0 x0 j3) (P1 : Fld Z h0 x0 j3 "tokens" "Ljava/util/List;" tv) (P2 : Fld Z h0 x0 j3 "next" "I" (.int 0)) (P3 : n0 ≤ x0) (P4 : Exa Z h0 ln j1) (P5 : Fld Z h0 ln j1 "value" "[B" (.ref lt)) (P6 : Fld Z h0 ln j1 "coder" "B" (.int 0)) (P7 : Arv Z h0 lt kl .byte (5 : Int32) ((([c0, s0, c1, s1, c2] : List Int32).map (fun c => c.toInt8.toInt32)).map Value.int) (.int 0)) (P8 : x0 ≠ ln) (P9 : x0 ≠ lt) (P10 : ∀ c ∈ ([c0, s0, c1, s1, c2] : List Int32), ¬ c < (0 : Int32) ∧ ¬ (255 : Int32) < c) (P11 : s0 = (32 : Int32) ∨ s0 = (9 : Int32)) (P12 : s1 = (32 : Int32) ∨ s1 = (9 : Int32)) (P13 : Sta Z Z.heap j2 "DEFAULTCAPACITY_EMPTY_ELEMENTDATA" "[Ljava/lang/Object;" (.ref aD)) (P14 : Arv Z Z.heap aD kD (.object j4) (0 : Int32) [] .null) :
  MetFree l own_m43 (head1 (Jvm.Cond.code own_m43 B52 5 none :: ws) (rR 7 33 125 105)) (fun a U => a = #[(.ref x0), (.ref ln)] ∧ Z.Warmed39 U.vm ∧ U.heap = h0) (fun _ _ _ _ _ => True) (fun _ U o U' => ∃ v L, o = .returned v ∧ (own_Qtok Z x0 c0 c1 c2 aD) h0 n0 v U'.heap L ∧ FrameEnd U o U' L (rR 7 33 125 105).cells (rR 7 33 125 105).slots) := by
 refine MetFree.of_bodySF (plainFor_of_name pn_10) hisR ?_
 intro p e s m args below meth cD s₁ Bd hml0 hP hK
 obtain ⟨rfl, hZ, hh⟩ := hP
 have hml : cD.maxLocals = 5 := hml0
 have hnm := (name_of_methodNamed Bd.named Bd.method).1
 obtain ⟨hx, hby, (hown : s.vm.findClass j3 = some m.cls), hlk, X0, e0⟩ := own_st Bd hh
 have lt0 := lN P0.lt
 have lt1 := lN P1.lt
 have lt2 := lN P2.lt
 have lt4 := lN P4.lt
 have lt5 := lN P5.lt
 have lt6 := lN P6.lt
 have lt7 := lN P7.lt
 have nP8 := own_neN P8
 have nP9 := own_neN P9
 have K0 : Keep h0 h0 [x0] := Keep.refl h0 _
 have Z0 := own_old_le O0
 have N0 := Fr.nil n0
 have ltD : @LT.lt Nat instLTNat aD n0 := lN (O0.1 ▸ P14.lt)
 refine OwnEnd.start (g' := (mkF m 0 #[vR x0, vR ln, .unset, .unset, .unset] [])) (own_efti m x0 ln) ?_
 refine oo (S' := s₁.setTop (mkF m 1 #[vR x0, vR ln, .unset, .unset, .unset] [(.ref x0)])) (fun _ kK => XS.aloadN X0.here hx rfl (hb hby d42_0) rfl rfl kK) ?_
 obtain ⟨T1, X1, e1, st1⟩ := initO X0 hx hZ hown (w_ G 55 rfl) (w_ G 27 rfl) (w_ G 28 rfl) e0 (g := (mkF m 1 #[vR x0, vR ln, .unset, .unset, .unset] [(.ref x0)])) rfl (by rw [hml]; rfl) rfl (hb hby d42_1) (by decide) (W := 0) (own_z rfl) (by decide)
 refine oo (S' := T1.setTop (mkF m 4 #[vR x0, vR ln, .unset, .unset, .unset] [])) st1 ?_
 refine oo (S' := T1.setTop (mkF m 5 #[vR x0, vR ln, .unset, .unset, .unset] [(.ref x0)])) (fun _ kK => XS.aloadN X1.here hx rfl (hb hby d42_4) rfl rfl kK) ?_
 obtain ⟨T2, h2, X2, e2, E2, A2, D2, -, st2⟩ := newO X1 hx hZ hown (w_ G 56 rfl) (w_ G 57 rfl) (w_ G 58 rfl) e1 (g := (mkF m 5 #[vR x0, vR ln, .unset, .unset, .unset] [(.ref x0)])) rfl (hb hby d42_5) (by decide) (by decide)
 obtain ⟨b2, g2⟩ : ∃ z, z = Array.size h0 := ⟨_, rfl⟩
 rw [← g2] at A2 D2 st2
 have lt_b2 := lN A2.lt
 have sz3 := E2.1
 have K3 := K0.ext E2
 have O3 := O0.ext E2
 have F2_modCount : Fld Z h2 b2 j6 "modCount" "I" (.int 0) := D2 (Or.inl (w_ G 76 rfl)) (ty := .int) (by decide)
 have F2_elementData : Fld Z h2 b2 j2 "elementData" "[Ljava/lang/Object;" .null := D2 (Or.inl (w_ G 79 rfl)) (ty := (.array (.object j4))) (by decide)
 have F2_size : Fld Z h2 b2 j2 "size" "I" (.int 0) := D2 (Or.inl (w_ G 217 rfl)) (ty := .int) (by decide)
 refine oo (S' := T2.setTop (mkF m 8 #[vR x0, vR ln, .unset, .unset, .unset] [(.ref b2), (.ref x0)])) st2 ?_
 refine oo (S' := T2.setTop (mkF m 9 #[vR x0, vR ln, .unset, .unset, .unset] [(.ref b2), (.ref b2), (.ref x0)])) (fun _ kK => XS.dup X2.here hx rfl (hb hby d42_8) rfl rfl kK) ?_
 obtain ⟨_, _, ⟨T4, L4, k4, n4⟩, -, X4, ⟨Lc4, hQ4, l4, y4, z4⟩, st4⟩ := Jvm.Stand.specialBack X2 hx (y := own_m31) rfl hown (mvT hZ (w_ G 59 rfl)) (mvT hZ (w_ G 60 rfl)) (mvT hZ (w_ G 61 rfl)) (by decide) (backOf (W := 2) (rmali l Z a0 G [] b2 (0 : Int32) .null aD kD h2 n0 O3 A2 F2_modCount F2_elementData F2_size (by omega) P13 P14) hZ (w_ G 61 rfl) (w_ G 58 rfl) (by decide) (by decide)) (g := (mkF m 9 #[vR x0, vR ln, .unset, .unset, .unset] [(.ref b2), (.ref b2), (.ref x0)])) rfl (by rw [hml]; rfl) (Steps.refl _) (a := b2) (argsL := []) (rest := [(.ref b2), (.ref x0)]) (lenOf pd_16 rfl) rfl (own_z rfl) (hb hby d42_9) (fun _ _ => ⟨rfl, e2, (ol rfl), (ol rfl)⟩)
 dsimp only [Pt.U, Pt.locs, Pt.cells, Pt.slots] at X4 l4 y4 z4 st4 hQ4
 subst l4 y4 z4
 obtain ⟨rfl, N4q, Kq4, r4_0, r4_1, r4_2, r4_3⟩ := hQ4
 have N4 := Fr.app N0 N4q
 have sz5 := Kq4.1
 have K5 := K3.trans Kq4 (own_all1 (Or.inr (by omega)))
 have O5 := O3.keep Kq4 (own_all1 (by omega))
 have ltr4_0 := lN r4_0.lt
 have ltr4_1 := lN r4_1.lt
 have ltr4_2 := lN r4_2.lt
 have ltr4_3 := lN r4_3.lt
 refine ot (S' := T4.setTop (mkF m 12 #[vR x0, vR ln, .unset, .unset, .unset] [(.ref b2), (.ref x0)])) st4 ?_
 have f7 := ((P1.ext E2).keep Kq4 (own_nin1 (on (by omega))))
 have f8 := ((P0.ext E2).keep Kq4)
 obtain ⟨T6, h6, X6, e6, W6, st6⟩ := putF X4 hx hZ hown (host := "") (Or.inl (w_ G 80 rfl)) Via.refl rfl f7 f8 (Or.inr ⟨(w_ G 81 rfl), rfl, hnm⟩) (w_ G 34 rfl) (ty := (.object j9)) (by decide) rfl rfl (g := (mkF m 12 #[vR x0, vR ln, .unset, .unset, .unset] [(.ref b2), (.ref x0)])) rfl rfl (hb hby d42_12)
 have Fw6 := f7.same W6
 have N6 := Fr.snoc X6 N4 (by omega)
 have sz9 := own_wr_le W6
 have K9 := K5.wr W6 (Or.inl (by simp))
 have O9 := O5.wr W6 (by omega)
 refine oo (S' := T6.setTop (mkF m 15 #[vR x0, vR ln, .unset, .unset, .unset] [])) st6 ?_
 obtain ⟨T10, h10, X10, e10, E10, A10, D10, -, st10⟩ := newO X6 hx hZ hown (w_ G 82 rfl) (w_ G 83 rfl) (w_ G 84 rfl) e6 (g := (mkF m 15 #[vR x0, vR ln, .unset, .unset, .unset] [])) rfl (hb hby d42_15) (by decide) (by decide)
 obtain ⟨b10, g10⟩ : ∃ z, z = Array.size h6 := ⟨_, rfl⟩
 rw [← g10] at A10 D10 st10
 have lt_b10 := lN A10.lt
 have sz11 := E10.1
 have K11 := K9.ext E10
 have O11 := O9.ext E10
 have F10_value : Fld Z h10 b10 j0 "value" "[B" .null := D10 (Or.inl (w_ G 97 rfl)) (ty := (.array .byte)) (by decide)
 have F10_coder : Fld Z h10 b10 j0 "coder" "B" (.int 0) := D10 (Or.inl (w_ G 99 rfl)) (ty := .byte) (by decide)
 have F10_count : Fld Z h10 b10 j0 "count" "I" (.int 0) := D10 (Or.inl (w_ G 142 rfl)) (ty := .int) (by decide)
 have F10_maybeLatin1 : Fld Z h10 b10 j0 "maybeLatin1" "Z" (.int 0) := D10 (Or.inl (w_ G 249 rfl)) (ty := .boolean) (by decide)
 refine oo (S' := T10.setTop (mkF m 18 #[vR x0, vR ln, .unset, .unset, .unset] [(.ref b10)])) st10 ?_
 refine oo (S' := T10.setTop (mkF m 19 #[vR x0, vR ln, .unset, .unset, .unset] [(.ref b10), (.ref b10)])) (fun _ kK => XS.dup X10.here hx rfl (hb hby d42_18) rfl rfl kK) ?_
 obtain ⟨_, _, ⟨T12, L12, k12, n12⟩, -, X12, ⟨Lc12, hQ12, l12, y12, z12⟩, st12⟩ := Jvm.Stand.specialBack X10 hx (y := own_m10) rfl hown (mvT hZ (w_ G 85 rfl)) (mvT hZ (w_ G 86 rfl)) (mvT hZ (w_ G 87 rfl)) (by decide) (backOf (W := 1) (rmsbi l Z a0 G [] b10 .null (.int 0) (.int 0) h10 n0 O11 A10 F10_value F10_coder F10_count F10_maybeLatin1 (by omega)) hZ (w_ G 87 rfl) (w_ G 84 rfl) (by decide) (by decide)) (g := (mkF m 19 #[vR x0, vR ln, .unset, .unset, .unset] [(.ref b10), (.ref b10)])) rfl (by rw [hml]; rfl) (Steps.refl _) (a := b10) (argsL := []) (rest := [(.ref b10)]) (lenOf pd_16 rfl) rfl (own_z rfl) (hb hby d42_19) (fun _ _ => ⟨rfl, e10, (ol rfl), (ol rfl)⟩)
 dsimp only [Pt.U, Pt.locs, Pt.cells, Pt.slots] at X12 l12 y12 z12 st12 hQ12
 subst l12 y12 z12
 obtain ⟨vb_12, kv_12, rfl, N12q, Kq12, r12_0, r12_1, r12_2, r12_3, r12_4, r12_5, r12_6⟩ := hQ12
 have N12 := Fr.app N6 N12q
 have sz13 := Kq12.1
 have K13 := K11.trans Kq12 (own_all1 (Or.inr (by omega)))
 have O13 := O11.keep Kq12 (own_all1 (by omega))
 have ltr12_0 := lN r12_0.lt
 have ltr12_1 := lN r12_1.lt
 have ltr12_2 := lN r12_2.lt
 have ltr12_3 := lN r12_3.lt
 have ltr12_4 := lN r12_4.lt
 have ltr12_5 := lN r12_5.lt
 refine ot (S' := T12.setTop (mkF m 22 #[vR x0, vR ln, .unset, .unset, .unset] [(.ref b10)])) st12 ?_
 let lv14 : Array Slot := #[vR x0, vR ln, vR b10, .unset, .unset]
 let lv15 : Array Slot := #[vR x0, vR ln, vR b10, vI 0, .unset]
 refine oo (S' := T12.setTop (mkF m 27 lv15 [(.ref ln), (.int 0)])) (fun _ kK => XS.astoreN X12.here hx rfl (hb hby d42_22) rfl rfl (l' := lv14) rfl (XS.iconst X12.here hx rfl (hb hby d42_23) (XS.istoreN X12.here hx rfl (hb hby d42_24) rfl (l' := lv15) rfl (XS.iloadN X12.here hx rfl (hb hby d42_25) rfl (XS.aloadN X12.here hx rfl (hb hby d42_26) rfl rfl kK))))) ?_
 have f16 := (((((P4.ext E2).keep Kq4).wr W6).ext E10).keep Kq12)
 have f17 := (((((P5.ext E2).keep Kq4 (own_nin1 (on (by omega)))).other W6 (Or.inl (on (by omega)))).ext E10).keep Kq12 (own_nin1 (on (by omega))))
 have f18 := (((((P6.ext E2).keep Kq4 (own_nin1 (on (by omega)))).other W6 (Or.inl (on (by omega)))).ext E10).keep Kq12 (own_nin1 (on (by omega))))
 have f19 := (((((P7.ext E2).keep Kq4 (own_nin1 (on (by omega)))).other W6 (on (by omega))).ext E10).keep Kq12 (own_nin1 (on (by omega))))
 obtain ⟨cq20, kq20, q20a, q20b, q20c⟩ := isOf hZ rfl f16
 obtain ⟨_, _, ⟨T20, L20, k20, n20⟩, -, X20, ⟨Lc20, hQ20, l20, y20, z20⟩, st20⟩ := X12.virtualBack hx (y := own_m4) (z := own_m4) hown (mvT hZ (w_ G 100 rfl)) (mvT hZ (w_ G 101 rfl)) (notFace_of_selects (args := #[]) (mvT hZ (w_ G 103 rfl))) (mvT hZ (w_ G 103 rfl)) (mvT hZ (w_ G 102 rfl)) (by decide) (backOf (W := 1) (rmln0 l Z a0 G [] ln lt kl (5 : Int32) ((([c0, s0, c1, s1, c2] : List Int32).map (fun c => c.toInt8.toInt32)).map Value.int) (.int 0) T12.heap n0 O13 f16 f17 f18 f19) hZ (w_ G 104 rfl) (w_ G 9 rfl) (by decide) (by decide)) q20a q20c (g := (mkF m 27 lv15 [(.ref ln), (.int 0)])) rfl (by rw [hml]; rfl) (Steps.refl _) (argsL := []) (rest := [(.int 0)]) (lenOf pd_8 rfl) rfl (own_z rfl) (hb hby d42_27) (fun _ _ => ⟨rfl, rfl, (ol rfl), (ol rfl)⟩)
 dsimp only [Pt.U, Pt.locs, Pt.cells, Pt.slots] at X20 l20 y20 z20 st20 hQ20
 subst l20 y20 z20
 obtain ⟨rfl, N20q, eh20⟩ := hQ20
 have N20 := Fr.app N12 N20q
 refine ot (S' := T20.setTop (mkF m 30 lv15 [(.int 5), (.int 0)])) st20 ?_
 refine oo (S' := T20.setTop (mkF m 35 lv15 [(.int 0), (.ref ln)])) (fun _ kK => XS.icmpNo X20.here hx rfl (hb hby d42_30) rfl (tlt ((by decide : (0 : Int32) < (5 : Int32)))).2.1 (XS.aloadN X20.here hx rfl (hb hby d42_33) rfl rfl (XS.iloadN X20.here hx rfl (hb hby d42_34) rfl kK))) ?_
 obtain ⟨cq21, kq21, q21a, q21b, q21c⟩ := isOf hZ eh20 f16
 obtain ⟨_, _, ⟨T21, L21, k21, n21⟩, -, X21, ⟨Lc21, hQ21, l21, y21, z21⟩, st21⟩ := X20.virtualBack hx (y := own_m6) (z := own_m6) hown (mvT hZ (w_ G 110 rfl)) (mvT hZ (w_ G 111 rfl)) (notFace_of_selects (args := #[]) (mvT hZ (w_ G 113 rfl))) (mvT hZ (w_ G 113 rfl)) (mvT hZ (w_ G 112 rfl)) (by decide) (backOf (W := 0) (rmcA0 l Z a0 G [] ln lt kl (5 : Int32) ((([c0, s0, c1, s1, c2] : List Int32).map (fun c => c.toInt8.toInt32)).map Value.int) (.int 0) (0 : Int32) c0 T12.heap n0 O13 f16 f17 f18 f19 (by decide) (by decide) (by rfl) (P10 c0 (by simp))) hZ (w_ G 114 rfl) (w_ G 9 rfl) (by decide) (by decide)) q21a q21c (g := (mkF m 35 lv15 [(.int 0), (.ref ln)])) rfl (by rw [hml]; rfl) (Steps.refl _) (argsL := [(.int 0)]) (rest := []) (lenOf pd_23 rfl) rfl (own_z rfl) (hb hby d42_35) (fun _ _ => ⟨rfl, eh20, (ol rfl), (ol rfl)⟩)
 dsimp only [Pt.U, Pt.locs, Pt.cells, Pt.slots] at X21 l21 y21 z21 st21 hQ21
 subst l21 y21 z21
 obtain ⟨rfl, N21q, eh21⟩ := hQ21
 have N21 := Fr.app N20 N21q
 refine ot (S' := T21.setTop (mkF m 38 lv15 [(.int c0)])) st21 ?_
 let lv22 : Array Slot := #[vR x0, vR ln, vR b10, vI 0, vI c0]
 refine oo (S' := T21.setTop (mkF m 40 lv22 [])) (fun _ kK => XS.istore X21.here hx rfl (hb hby d42_38) rfl (l' := lv22) rfl kK) ?_
 rcases own_kind c0 with hbl | hpa | hot
 ·refine oo (S' := T21.setTop (mkF m 68 lv22 [])) (fun _ kK => Or.elim hbl (fun hz => XS.iload X21.here hx rfl (hb hby d42_40) rfl (XS.bipush X21.here hx rfl (hb hby d42_42) (XS.icmpYes X21.here hx rfl (pc0 := 44) (pc' := 68) rfl (hb hby d42_44) rfl (teq (hz)).1 (by decide) (by decide) kK))) (fun hz => XS.iload X21.here hx rfl (hb hby d42_40) rfl (XS.bipush X21.here hx rfl (hb hby d42_42) (XS.icmpNo X21.here hx rfl (hb hby d42_44) rfl (feq ((fun q => absurd (hz.symm.trans q) (by decide)))).1 (XS.iload X21.here hx rfl (hb hby d42_47) rfl (XS.bipush X21.here hx rfl (hb hby d42_49) (XS.icmpYes X21.here hx rfl (pc0 := 51) (pc' := 68) rfl (hb hby d42_51) rfl (teq (hz)).1 (by decide) (by decide) kK))))))) ?_
  refine oo (S' := T21.setTop (mkF m 70 lv22 [(.ref b10), (.ref x0)])) (fun _ kK => XS.aloadN X21.here hx rfl (hb hby d42_68) rfl rfl (XS.aloadN X21.here hx rfl (hb hby d42_69) rfl rfl kK)) ?_
  have f24 := (((f8.wr W6).ext E10).keep Kq12)
  obtain ⟨cq23, kq23, q23a, q23b, cc23, q23d, -, q23e⟩ := isOf hZ eh21 f24
  obtain ⟨_, _, ⟨T23, L23, k23, n23⟩, -, X23, ⟨Lc23, hQ23, l23, y23, z23⟩, st23⟩ := X21.privateBack hx (y := own_m41) hown (mvT hZ (w_ G 154 rfl)) (mvT hZ (w_ G 155 rfl)) (own_selP (oI (mvT hZ (w_ G 254 rfl)) rfl) (mvT hZ (w_ G 155 rfl)) (Cond.privateMethod_at (args := #[]) (mvT hZ (w_ G 156 rfl))) (by decide)) (Cond.privateMethod_at (args := #[]) (mvT hZ (w_ G 156 rfl))) (mvT hZ (w_ G 157 rfl)) (by decide) (backOf (W := 0) (rmtan l Z a0 G [] x0 b10 T12.heap n0 O13 r12_0 r12_3) hZ (w_ G 157 rfl) (w_ G 35 rfl) (by decide) (by decide)) (g := (mkF m 70 lv22 [(.ref b10), (.ref x0)])) rfl (by rw [hml]; rfl) (Steps.refl _) q23d (own_nost q23e) (argsL := [(.ref b10)]) (rest := []) (lenOf pd_13 rfl) rfl (own_z rfl) (hb hby d42_70) (fun _ _ => ⟨rfl, eh21, (ol rfl), (ol rfl)⟩)
  dsimp only [Pt.U, Pt.locs, Pt.cells, Pt.slots] at X23 l23 y23 z23 st23 hQ23
  subst l23 y23 z23
  obtain ⟨rfl, N23q, eh23⟩ := hQ23
  have N23 := Fr.app N21 N23q
  refine ot (S' := T23.setTop (mkF m 73 lv22 [])) st23 ?_
  let lv25 : Array Slot := #[vR x0, vR ln, vR b10, vI 1, vI c0]
  refine oo (S' := T23.setTop (mkF m 27 lv25 [(.ref ln), (.int 1)])) (fun _ kK => XS.iload X23.here hx rfl (hb hby d42_73) rfl (XS.bipush X23.here hx rfl (hb hby d42_75) (XS.icmpNo X23.here hx rfl (hb hby d42_77) rfl (feq ((own_b40 hbl))).1 (XS.iload X23.here hx rfl (hb hby d42_80) rfl (XS.bipush X23.here hx rfl (hb hby d42_82) (XS.icmpYes X23.here hx rfl (pc0 := 84) (pc' := 112) rfl (hb hby d42_84) rfl (feq ((own_b41 hbl))).2 (by decide) (by decide) (XS.iinc X23.here hx rfl (hb hby d42_112) rfl (l' := lv25) rfl (XS.goto X23.here hx rfl (pc0 := 115) (pc' := 25) rfl (hb hby d42_115) (by decide) (by decide) (XS.iloadN X23.here hx rfl (hb hby d42_25) rfl (XS.aloadN X23.here hx rfl (hb hby d42_26) rfl rfl kK)))))))))) ?_
  obtain ⟨cq26, kq26, q26a, q26b, q26c⟩ := isOf hZ eh23 f16
  obtain ⟨_, _, ⟨T26, L26, k26, n26⟩, -, X26, ⟨Lc26, hQ26, l26, y26, z26⟩, st26⟩ := X23.virtualBack hx (y := own_m4) (z := own_m4) hown (mvT hZ (w_ G 100 rfl)) (mvT hZ (w_ G 101 rfl)) (notFace_of_selects (args := #[]) (mvT hZ (w_ G 103 rfl))) (mvT hZ (w_ G 103 rfl)) (mvT hZ (w_ G 102 rfl)) (by decide) (backOf (W := 1) (rmln0 l Z a0 G [] ln lt kl (5 : Int32) ((([c0, s0, c1, s1, c2] : List Int32).map (fun c => c.toInt8.toInt32)).map Value.int) (.int 0) T12.heap n0 O13 f16 f17 f18 f19) hZ (w_ G 104 rfl) (w_ G 9 rfl) (by decide) (by decide)) q26a q26c (g := (mkF m 27 lv25 [(.ref ln), (.int 1)])) rfl (by rw [hml]; rfl) (Steps.refl _) (argsL := []) (rest := [(.int 1)]) (lenOf pd_8 rfl) rfl (own_z rfl) (hb hby d42_27) (fun _ _ => ⟨rfl, eh23, (ol rfl), (ol rfl)⟩)
  dsimp only [Pt.U, Pt.locs, Pt.cells, Pt.slots] at X26 l26 y26 z26 st26 hQ26
  subst l26 y26 z26
  obtain ⟨rfl, N26q, eh26⟩ := hQ26
  have N26 := Fr.app N23 N26q
  refine ot (S' := T26.setTop (mkF m 30 lv25 [(.int 5), (.int 1)])) st26 ?_
  refine oo (S' := T26.setTop (mkF m 35 lv25 [(.int 1), (.ref ln)])) (fun _ kK => XS.icmpNo X26.here hx rfl (hb hby d42_30) rfl (tlt ((by decide : (1 : Int32) < (5 : Int32)))).2.1 (XS.aloadN X26.here hx rfl (hb hby d42_33) rfl rfl (XS.iloadN X26.here hx rfl (hb hby d42_34) rfl kK))) ?_
  obtain ⟨cq27, kq27, q27a, q27b, q27c⟩ := isOf hZ eh26 f16
  obtain ⟨_, _, ⟨T27, L27, k27, n27⟩, -, X27, ⟨Lc27, hQ27, l27, y27, z27⟩, st27⟩ := X26.virtualBack hx (y := own_m6) (z := own_m6) hown (mvT hZ (w_ G 110 rfl)) (mvT hZ (w_ G 111 rfl)) (notFace_of_selects (args := #[]) (mvT hZ (w_ G 113 rfl))) (mvT hZ (w_ G 113 rfl)) (mvT hZ (w_ G 112 rfl)) (by decide) (backOf (W := 0) (rmcA0 l Z a0 G [] ln lt kl (5 : Int32) ((([c0, s0, c1, s1, c2] : List Int32).map (fun c => c.toInt8.toInt32)).map Value.int) (.int 0) (1 : Int32) s0 T12.heap n0 O13 f16 f17 f18 f19 (by decide) (by decide) (by rfl) (P10 s0 (by simp))) hZ (w_ G 114 rfl) (w_ G 9 rfl) (by decide) (by decide)) q27a q27c (g := (mkF m 35 lv25 [(.int 1), (.ref ln)])) rfl (by rw [hml]; rfl) (Steps.refl _) (argsL := [(.int 1)]) (rest := []) (lenOf pd_23 rfl) rfl (own_z rfl) (hb hby d42_35) (fun _ _ => ⟨rfl, eh26, (ol rfl), (ol rfl)⟩)
  dsimp only [Pt.U, Pt.locs, Pt.cells, Pt.slots] at X27 l27 y27 z27 st27 hQ27
  subst l27 y27 z27
  obtain ⟨rfl, N27q, eh27⟩ := hQ27
  have N27 := Fr.app N26 N27q
  refine ot (S' := T27.setTop (mkF m 38 lv25 [(.int s0)])) st27 ?_
  let lv28 : Array Slot := #[vR x0, vR ln, vR b10, vI 1, vI s0]
  refine oo (S' := T27.setTop (mkF m 40 lv28 [])) (fun _ kK => XS.istore X27.here hx rfl (hb hby d42_38) rfl (l' := lv28) rfl kK) ?_
  refine oo (S' := T27.setTop (mkF m 68 lv28 [])) (fun _ kK => Or.elim P11 (fun hz => XS.iload X27.here hx rfl (hb hby d42_40) rfl (XS.bipush X27.here hx rfl (hb hby d42_42) (XS.icmpYes X27.here hx rfl (pc0 := 44) (pc' := 68) rfl (hb hby d42_44) rfl (teq (hz)).1 (by decide) (by decide) kK))) (fun hz => XS.iload X27.here hx rfl (hb hby d42_40) rfl (XS.bipush X27.here hx rfl (hb hby d42_42) (XS.icmpNo X27.here hx rfl (hb hby d42_44) rfl (feq ((fun q => absurd (hz.symm.trans q) (by decide)))).1 (XS.iload X27.here hx rfl (hb hby d42_47) rfl (XS.bipush X27.here hx rfl (hb hby d42_49) (XS.icmpYes X27.here hx rfl (pc0 := 51) (pc' := 68) rfl (hb hby d42_51) rfl (teq (hz)).1 (by decide) (by decide) kK))))))) ?_
  refine oo (S' := T27.setTop (mkF m 70 lv28 [(.ref b10), (.ref x0)])) (fun _ kK => XS.aloadN X27.here hx rfl (hb hby d42_68) rfl rfl (XS.aloadN X27.here hx rfl (hb hby d42_69) rfl rfl kK)) ?_
  obtain ⟨cq29, kq29, q29a, q29b, cc29, q29d, -, q29e⟩ := isOf hZ eh27 f24
  obtain ⟨_, _, ⟨T29, L29, k29, n29⟩, -, X29, ⟨Lc29, hQ29, l29, y29, z29⟩, st29⟩ := X27.privateBack hx (y := own_m41) hown (mvT hZ (w_ G 154 rfl)) (mvT hZ (w_ G 155 rfl)) (own_selP (oI (mvT hZ (w_ G 254 rfl)) rfl) (mvT hZ (w_ G 155 rfl)) (Cond.privateMethod_at (args := #[]) (mvT hZ (w_ G 156 rfl))) (by decide)) (Cond.privateMethod_at (args := #[]) (mvT hZ (w_ G 156 rfl))) (mvT hZ (w_ G 157 rfl)) (by decide) (backOf (W := 0) (rmtan l Z a0 G [] x0 b10 T12.heap n0 O13 r12_0 r12_3) hZ (w_ G 157 rfl) (w_ G 35 rfl) (by decide) (by decide)) (g := (mkF m 70 lv28 [(.ref b10), (.ref x0)])) rfl (by rw [hml]; rfl) (Steps.refl _) q29d (own_nost q29e) (argsL := [(.ref b10)]) (rest := []) (lenOf pd_13 rfl) rfl (own_z rfl) (hb hby d42_70) (fun _ _ => ⟨rfl, eh27, (ol rfl), (ol rfl)⟩)
  dsimp only [Pt.U, Pt.locs, Pt.cells, Pt.slots] at X29 l29 y29 z29 st29 hQ29
  subst l29 y29 z29
  obtain ⟨rfl, N29q, eh29⟩ := hQ29
  have N29 := Fr.app N27 N29q
  refine ot (S' := T29.setTop (mkF m 73 lv28 [])) st29 ?_
  let lv30 : Array Slot := #[vR x0, vR ln, vR b10, vI 2, vI s0]
  refine oo (S' := T29.setTop (mkF m 25 lv30 [])) (fun _ kK => XS.iload X29.here hx rfl (hb hby d42_73) rfl (XS.bipush X29.here hx rfl (hb hby d42_75) (XS.icmpNo X29.here hx rfl (hb hby d42_77) rfl (feq ((own_b40 P11))).1 (XS.iload X29.here hx rfl (hb hby d42_80) rfl (XS.bipush X29.here hx rfl (hb hby d42_82) (XS.icmpYes X29.here hx rfl (pc0 := 84) (pc' := 112) rfl (hb hby d42_84) rfl (feq ((own_b41 P11))).2 (by decide) (by decide) (XS.iinc X29.here hx rfl (hb hby d42_112) rfl (l' := lv30) rfl (XS.goto X29.here hx rfl (pc0 := 115) (pc' := 25) rfl (hb hby d42_115) (by decide) (by decide) kK)))))))) ?_
  have f31 := ((Fw6.ext E10).keep Kq12 (own_nin1 (on (by omega))))
  have f32 := (((((P2.ext E2).keep Kq4 (own_nin1 (on (by omega)))).other W6 (Or.inr (slot_ne (Or.inl (w_ G 257 rfl)) (Or.inr (w_ G 81 rfl)) (by decide) (t := .int) (t' := (.object j9)) (by decide) (by decide)))).ext E10).keep Kq12 (own_nin1 (on (by omega))))
  have f33 := (((r4_0.wr W6).ext E10).keep Kq12)
  have f34 := (((r4_1.other W6 (Or.inl (on (by omega)))).ext E10).keep Kq12 (own_nin1 (on (by omega))))
  have f35 := (((r4_2.other W6 (Or.inl (on (by omega)))).ext E10).keep Kq12 (own_nin1 (on (by omega))))
  have f36 := (((r4_3.other W6 (Or.inl (on (by omega)))).ext E10).keep Kq12 (own_nin1 (on (by omega))))
  exact sft1_0 l Z a0 G x0 ln lt kl tv c0 s0 c1 s1 c2 aD kD h0 n0 O0 P3 P8 P9 P10 P11 P12 P13 P14 Bd hml0 hZ (X29.more (by decide) (by decide)) T12.heap eh29 K13 O13 N29 (by omega) b2 (0 : Int32) b10 vb_12 kv_12 (.int 0) (.int 0) f24 f31 f32 f16 f17 f18 f19 r12_0 r12_1 r12_2 r12_3 r12_4 r12_5 f33 f34 f35 f36 (by omega) (by omega) (by omega) (by omega) (by simp only [own_ord, and_true]; omega) (by omega) (by omega) (by omega) (own_nb_b hbl)
 ·refine oo (S' := T21.setTop (mkF m 68 lv22 [])) (fun _ kK => Or.elim hpa (fun hz => XS.iload X21.here hx rfl (hb hby d42_40) rfl (XS.bipush X21.here hx rfl (hb hby d42_42) (XS.icmpNo X21.here hx rfl (hb hby d42_44) rfl (feq ((fun q => absurd (hz.symm.trans q) (by decide)))).1 (XS.iload X21.here hx rfl (hb hby d42_47) rfl (XS.bipush X21.here hx rfl (hb hby d42_49) (XS.icmpNo X21.here hx rfl (hb hby d42_51) rfl (feq ((fun q => absurd (hz.symm.trans q) (by decide)))).1 (XS.iload X21.here hx rfl (hb hby d42_54) rfl (XS.bipush X21.here hx rfl (hb hby d42_56) (XS.icmpYes X21.here hx rfl (pc0 := 58) (pc' := 68) rfl (hb hby d42_58) rfl (teq (hz)).1 (by decide) (by decide) kK))))))))) (fun hz => XS.iload X21.here hx rfl (hb hby d42_40) rfl (XS.bipush X21.here hx rfl (hb hby d42_42) (XS.icmpNo X21.here hx rfl (hb hby d42_44) rfl (feq ((fun q => absurd (hz.symm.trans q) (by decide)))).1 (XS.iload X21.here hx rfl (hb hby d42_47) rfl (XS.bipush X21.here hx rfl (hb hby d42_49) (XS.icmpNo X21.here hx rfl (hb hby d42_51) rfl (feq ((fun q => absurd (hz.symm.trans q) (by decide)))).1 (XS.iload X21.here hx rfl (hb hby d42_54) rfl (XS.bipush X21.here hx rfl (hb hby d42_56) (XS.icmpNo X21.here hx rfl (hb hby d42_58) rfl (feq ((fun q => absurd (hz.symm.trans q) (by decide)))).1 (XS.iload X21.here hx rfl (hb hby d42_61) rfl (XS.bipush X21.here hx rfl (hb hby d42_63) (XS.icmpNo X21.here hx rfl (hb hby d42_65) rfl (teq (hz)).2 kK))))))))))))) ?_
  refine oo (S' := T21.setTop (mkF m 70 lv22 [(.ref b10), (.ref x0)])) (fun _ kK => XS.aloadN X21.here hx rfl (hb hby d42_68) rfl rfl (XS.aloadN X21.here hx rfl (hb hby d42_69) rfl rfl kK)) ?_
  have f38 := (((f8.wr W6).ext E10).keep Kq12)
  obtain ⟨cq37, kq37, q37a, q37b, cc37, q37d, -, q37e⟩ := isOf hZ eh21 f38
  obtain ⟨_, _, ⟨T37, L37, k37, n37⟩, -, X37, ⟨Lc37, hQ37, l37, y37, z37⟩, st37⟩ := X21.privateBack hx (y := own_m41) hown (mvT hZ (w_ G 154 rfl)) (mvT hZ (w_ G 155 rfl)) (own_selP (oI (mvT hZ (w_ G 254 rfl)) rfl) (mvT hZ (w_ G 155 rfl)) (Cond.privateMethod_at (args := #[]) (mvT hZ (w_ G 156 rfl))) (by decide)) (Cond.privateMethod_at (args := #[]) (mvT hZ (w_ G 156 rfl))) (mvT hZ (w_ G 157 rfl)) (by decide) (backOf (W := 0) (rmtan l Z a0 G [] x0 b10 T12.heap n0 O13 r12_0 r12_3) hZ (w_ G 157 rfl) (w_ G 35 rfl) (by decide) (by decide)) (g := (mkF m 70 lv22 [(.ref b10), (.ref x0)])) rfl (by rw [hml]; rfl) (Steps.refl _) q37d (own_nost q37e) (argsL := [(.ref b10)]) (rest := []) (lenOf pd_13 rfl) rfl (own_z rfl) (hb hby d42_70) (fun _ _ => ⟨rfl, eh21, (ol rfl), (ol rfl)⟩)
  dsimp only [Pt.U, Pt.locs, Pt.cells, Pt.slots] at X37 l37 y37 z37 st37 hQ37
  subst l37 y37 z37
  obtain ⟨rfl, N37q, eh37⟩ := hQ37
  have N37 := Fr.app N21 N37q
  refine ot (S' := T37.setTop (mkF m 73 lv22 [])) st37 ?_
  refine oo (S' := T37.setTop (mkF m 87 lv22 [])) (fun _ kK => Or.elim hpa (fun hz => XS.iload X37.here hx rfl (hb hby d42_73) rfl (XS.bipush X37.here hx rfl (hb hby d42_75) (XS.icmpYes X37.here hx rfl (pc0 := 77) (pc' := 87) rfl (hb hby d42_77) rfl (teq (hz)).1 (by decide) (by decide) kK))) (fun hz => XS.iload X37.here hx rfl (hb hby d42_73) rfl (XS.bipush X37.here hx rfl (hb hby d42_75) (XS.icmpNo X37.here hx rfl (hb hby d42_77) rfl (feq ((fun q => absurd (hz.symm.trans q) (by decide)))).1 (XS.iload X37.here hx rfl (hb hby d42_80) rfl (XS.bipush X37.here hx rfl (hb hby d42_82) (XS.icmpNo X37.here hx rfl (hb hby d42_84) rfl (teq (hz)).2 kK))))))) ?_
  refine oo (S' := T37.setTop (mkF m 88 lv22 [(.ref x0)])) (fun _ kK => XS.aloadN X37.here hx rfl (hb hby d42_87) rfl rfl kK) ?_
  have f40 := ((Fw6.ext E10).keep Kq12 (own_nin1 (on (by omega))))
  obtain ⟨T39, X39, e39, st39⟩ := getF X37 hx hZ hown (host := "") (Or.inl (w_ G 80 rfl)) Via.refl eh37 f40 (g := (mkF m 88 lv22 [(.ref x0)])) rfl rfl (hb hby d42_88)
  refine oo (S' := T39.setTop (mkF m 91 lv22 [(.ref b2)])) st39 ?_
  refine oo (S' := T39.setTop (mkF m 93 lv22 [(.int c0), (.ref b2)])) (fun _ kK => XS.iload X39.here hx rfl (hb hby d42_91) rfl kK) ?_
  obtain ⟨_, _, ⟨T41, L41, k41, n41⟩, -, X41, ⟨Lc41, hQ41, l41, y41, z41⟩, st41⟩ := Jvm.LawKit.callS X39 hx (y := own_m28) hown (mvT hZ (w_ G 298 rfl)) (mvT hZ (w_ G 8 rfl)) (mvT hZ (w_ G 9 rfl)) (mvT hZ (w_ G 10 rfl)) (by decide) (backOf (W := 1) (rmvo l Z a0 G [] c0 T12.heap n0 O13 (P10 c0 (by simp))) hZ (w_ G 10 rfl) (w_ G 9 rfl) (by decide) (by decide)) (g := (mkF m 93 lv22 [(.int c0), (.ref b2)])) rfl (by rw [hml]; rfl) (argsL := [(.int c0)]) (rest := [(.ref b2)]) (lenOf pd_24 rfl) rfl (own_z rfl) (hb hby d42_93) (fun _ _ => ⟨rfl, e39, (ol rfl), (ol rfl)⟩)
  dsimp only [Pt.U, Pt.locs, Pt.cells, Pt.slots] at X41 l41 y41 z41 st41 hQ41
  subst l41 y41 z41
  obtain ⟨x_41, t_41, kb_41, rfl, N41q, Kq41, r41_0, r41_1, r41_2, r41_3, r41_4, r41_5⟩ := hQ41
  have N41 := Fr.app N37 N41q
  have sz42 := Kq41.1
  have K42 := K13.trans Kq41 (own_all0 )
  have O42 := O13.keep Kq41 (own_all0 )
  have ltr41_0 := lN r41_0.lt
  have ltr41_1 := lN r41_1.lt
  have ltr41_2 := lN r41_2.lt
  have ltr41_3 := lN r41_3.lt
  refine oo (S' := T41.setTop (mkF m 96 lv22 [(.ref x_41), (.ref b2)])) st41 ?_
  have f43 := ((((r4_0.wr W6).ext E10).keep Kq12).keep Kq41)
  have f44 := ((((r4_1.other W6 (Or.inl (on (by omega)))).ext E10).keep Kq12 (own_nin1 (on (by omega)))).keep Kq41 nin0)
  have f45 := ((((r4_2.other W6 (Or.inl (on (by omega)))).ext E10).keep Kq12 (own_nin1 (on (by omega)))).keep Kq41 nin0)
  have f46 := ((((r4_3.other W6 (Or.inl (on (by omega)))).ext E10).keep Kq12 (own_nin1 (on (by omega)))).keep Kq41 nin0)
  obtain ⟨cq47, kq47, q47a, q47b, q47c⟩ := isOf hZ rfl f43
  obtain ⟨_, _, ⟨T47, L47, k47, n47⟩, -, X47, ⟨Lc47, hQ47, l47, y47, z47⟩, st47⟩ := X41.interfaceBack hx (xi := own_m42) (y := own_m36) hown (mvT hZ (w_ G 205 rfl)) (mvT hZ (w_ G 206 rfl)) (mvT hZ (w_ G 207 rfl)) (mvT hZ (w_ G 208 rfl)) (mvT hZ (w_ G 209 rfl)) (mvT hZ (w_ G 210 rfl)) (mvT hZ (w_ G 211 rfl)) (mvT hZ (w_ G 212 rfl)) (by decide) (backOf (W := 0) (rmal0 l Z a0 G [] b2 (0 : Int32) x_41 aD kD T41.heap n0 O42 f43 f44 f45 f46 r41_0 (by omega) P13 P14) hZ (w_ G 213 rfl) (w_ G 58 rfl) (by decide) (by decide)) q47a q47b q47c (g := (mkF m 96 lv22 [(.ref x_41), (.ref b2)])) rfl (by rw [hml]; rfl) (Steps.refl _) (argsL := [(.ref x_41)]) (rest := []) (lenOf pd_22 rfl) rfl (own_z rfl) (hb hby d42_96) (fun _ _ => ⟨rfl, rfl, (ol rfl), (ol rfl)⟩)
  dsimp only [Pt.U, Pt.locs, Pt.cells, Pt.slots] at X47 l47 y47 z47 st47 hQ47
  subst l47 y47 z47
  obtain ⟨ar_47, kA_47, rfl, N47q, Kq47, r47_0, r47_1, r47_2, r47_3, r47_4, r47_5, r47_6⟩ := hQ47
  have N47 := Fr.app N41 N47q
  have sz48 := Kq47.1
  have K48 := K42.trans Kq47 (own_all1 (Or.inr (by omega)))
  have O48 := O42.keep Kq47 (own_all1 (by omega))
  have ltr47_0 := lN r47_0.lt
  have ltr47_1 := lN r47_1.lt
  have ltr47_2 := lN r47_2.lt
  have ltr47_3 := lN r47_3.lt
  have ltr47_4 := lN r47_4.lt
  refine ot (S' := T47.setTop (mkF m 101 lv22 [(.int 1)])) st47 ?_
  let lv49 : Array Slot := #[vR x0, vR ln, vR b10, vI 1, vI c0]
  refine oo (S' := T47.setTop (mkF m 27 lv49 [(.ref ln), (.int 1)])) (fun _ kK => XS.pop X47.here hx rfl (hb hby d42_101) rfl rfl (XS.goto X47.here hx rfl (pc0 := 102) (pc' := 112) rfl (hb hby d42_102) (by decide) (by decide) (XS.iinc X47.here hx rfl (hb hby d42_112) rfl (l' := lv49) rfl (XS.goto X47.here hx rfl (pc0 := 115) (pc' := 25) rfl (hb hby d42_115) (by decide) (by decide) (XS.iloadN X47.here hx rfl (hb hby d42_25) rfl (XS.aloadN X47.here hx rfl (hb hby d42_26) rfl rfl kK)))))) ?_
  have f50 := ((f16.keep Kq41).keep Kq47)
  have f51 := ((f17.keep Kq41 nin0).keep Kq47 (own_nin1 (on (by omega))))
  have f52 := ((f18.keep Kq41 nin0).keep Kq47 (own_nin1 (on (by omega))))
  have f53 := ((f19.keep Kq41 nin0).keep Kq47 (own_nin1 (on (by omega))))
  obtain ⟨cq54, kq54, q54a, q54b, q54c⟩ := isOf hZ rfl f50
  obtain ⟨_, _, ⟨T54, L54, k54, n54⟩, -, X54, ⟨Lc54, hQ54, l54, y54, z54⟩, st54⟩ := X47.virtualBack hx (y := own_m4) (z := own_m4) hown (mvT hZ (w_ G 100 rfl)) (mvT hZ (w_ G 101 rfl)) (notFace_of_selects (args := #[]) (mvT hZ (w_ G 103 rfl))) (mvT hZ (w_ G 103 rfl)) (mvT hZ (w_ G 102 rfl)) (by decide) (backOf (W := 1) (rmln0 l Z a0 G [] ln lt kl (5 : Int32) ((([c0, s0, c1, s1, c2] : List Int32).map (fun c => c.toInt8.toInt32)).map Value.int) (.int 0) T47.heap n0 O48 f50 f51 f52 f53) hZ (w_ G 104 rfl) (w_ G 9 rfl) (by decide) (by decide)) q54a q54c (g := (mkF m 27 lv49 [(.ref ln), (.int 1)])) rfl (by rw [hml]; rfl) (Steps.refl _) (argsL := []) (rest := [(.int 1)]) (lenOf pd_8 rfl) rfl (own_z rfl) (hb hby d42_27) (fun _ _ => ⟨rfl, rfl, (ol rfl), (ol rfl)⟩)
  dsimp only [Pt.U, Pt.locs, Pt.cells, Pt.slots] at X54 l54 y54 z54 st54 hQ54
  subst l54 y54 z54
  obtain ⟨rfl, N54q, eh54⟩ := hQ54
  have N54 := Fr.app N47 N54q
  refine ot (S' := T54.setTop (mkF m 30 lv49 [(.int 5), (.int 1)])) st54 ?_
  refine oo (S' := T54.setTop (mkF m 35 lv49 [(.int 1), (.ref ln)])) (fun _ kK => XS.icmpNo X54.here hx rfl (hb hby d42_30) rfl (tlt ((by decide : (1 : Int32) < (5 : Int32)))).2.1 (XS.aloadN X54.here hx rfl (hb hby d42_33) rfl rfl (XS.iloadN X54.here hx rfl (hb hby d42_34) rfl kK))) ?_
  obtain ⟨cq55, kq55, q55a, q55b, q55c⟩ := isOf hZ eh54 f50
  obtain ⟨_, _, ⟨T55, L55, k55, n55⟩, -, X55, ⟨Lc55, hQ55, l55, y55, z55⟩, st55⟩ := X54.virtualBack hx (y := own_m6) (z := own_m6) hown (mvT hZ (w_ G 110 rfl)) (mvT hZ (w_ G 111 rfl)) (notFace_of_selects (args := #[]) (mvT hZ (w_ G 113 rfl))) (mvT hZ (w_ G 113 rfl)) (mvT hZ (w_ G 112 rfl)) (by decide) (backOf (W := 0) (rmcA0 l Z a0 G [] ln lt kl (5 : Int32) ((([c0, s0, c1, s1, c2] : List Int32).map (fun c => c.toInt8.toInt32)).map Value.int) (.int 0) (1 : Int32) s0 T47.heap n0 O48 f50 f51 f52 f53 (by decide) (by decide) (by rfl) (P10 s0 (by simp))) hZ (w_ G 114 rfl) (w_ G 9 rfl) (by decide) (by decide)) q55a q55c (g := (mkF m 35 lv49 [(.int 1), (.ref ln)])) rfl (by rw [hml]; rfl) (Steps.refl _) (argsL := [(.int 1)]) (rest := []) (lenOf pd_23 rfl) rfl (own_z rfl) (hb hby d42_35) (fun _ _ => ⟨rfl, eh54, (ol rfl), (ol rfl)⟩)
  dsimp only [Pt.U, Pt.locs, Pt.cells, Pt.slots] at X55 l55 y55 z55 st55 hQ55
  subst l55 y55 z55
  obtain ⟨rfl, N55q, eh55⟩ := hQ55
  have N55 := Fr.app N54 N55q
  refine ot (S' := T55.setTop (mkF m 38 lv49 [(.int s0)])) st55 ?_
  let lv56 : Array Slot := #[vR x0, vR ln, vR b10, vI 1, vI s0]
  refine oo (S' := T55.setTop (mkF m 40 lv56 [])) (fun _ kK => XS.istore X55.here hx rfl (hb hby d42_38) rfl (l' := lv56) rfl kK) ?_
  refine oo (S' := T55.setTop (mkF m 68 lv56 [])) (fun _ kK => Or.elim P11 (fun hz => XS.iload X55.here hx rfl (hb hby d42_40) rfl (XS.bipush X55.here hx rfl (hb hby d42_42) (XS.icmpYes X55.here hx rfl (pc0 := 44) (pc' := 68) rfl (hb hby d42_44) rfl (teq (hz)).1 (by decide) (by decide) kK))) (fun hz => XS.iload X55.here hx rfl (hb hby d42_40) rfl (XS.bipush X55.here hx rfl (hb hby d42_42) (XS.icmpNo X55.here hx rfl (hb hby d42_44) rfl (feq ((fun q => absurd (hz.symm.trans q) (by decide)))).1 (XS.iload X55.here hx rfl (hb hby d42_47) rfl (XS.bipush X55.here hx rfl (hb hby d42_49) (XS.icmpYes X55.here hx rfl (pc0 := 51) (pc' := 68) rfl (hb hby d42_51) rfl (teq (hz)).1 (by decide) (by decide) kK))))))) ?_
  refine oo (S' := T55.setTop (mkF m 70 lv56 [(.ref b10), (.ref x0)])) (fun _ kK => XS.aloadN X55.here hx rfl (hb hby d42_68) rfl rfl (XS.aloadN X55.here hx rfl (hb hby d42_69) rfl rfl kK)) ?_
  have f57 := ((r12_0.keep Kq41).keep Kq47)
  have f58 := ((r12_3.keep Kq41 nin0).keep Kq47 (own_nin1 (on (by omega))))
  have f60 := ((f38.keep Kq41).keep Kq47)
  obtain ⟨cq59, kq59, q59a, q59b, cc59, q59d, -, q59e⟩ := isOf hZ eh55 f60
  obtain ⟨_, _, ⟨T59, L59, k59, n59⟩, -, X59, ⟨Lc59, hQ59, l59, y59, z59⟩, st59⟩ := X55.privateBack hx (y := own_m41) hown (mvT hZ (w_ G 154 rfl)) (mvT hZ (w_ G 155 rfl)) (own_selP (oI (mvT hZ (w_ G 254 rfl)) rfl) (mvT hZ (w_ G 155 rfl)) (Cond.privateMethod_at (args := #[]) (mvT hZ (w_ G 156 rfl))) (by decide)) (Cond.privateMethod_at (args := #[]) (mvT hZ (w_ G 156 rfl))) (mvT hZ (w_ G 157 rfl)) (by decide) (backOf (W := 0) (rmtan l Z a0 G [] x0 b10 T47.heap n0 O48 f57 f58) hZ (w_ G 157 rfl) (w_ G 35 rfl) (by decide) (by decide)) (g := (mkF m 70 lv56 [(.ref b10), (.ref x0)])) rfl (by rw [hml]; rfl) (Steps.refl _) q59d (own_nost q59e) (argsL := [(.ref b10)]) (rest := []) (lenOf pd_13 rfl) rfl (own_z rfl) (hb hby d42_70) (fun _ _ => ⟨rfl, eh55, (ol rfl), (ol rfl)⟩)
  dsimp only [Pt.U, Pt.locs, Pt.cells, Pt.slots] at X59 l59 y59 z59 st59 hQ59
  subst l59 y59 z59
  obtain ⟨rfl, N59q, eh59⟩ := hQ59
  have N59 := Fr.app N55 N59q
  refine ot (S' := T59.setTop (mkF m 73 lv56 [])) st59 ?_
  let lv61 : Array Slot := #[vR x0, vR ln, vR b10, vI 2, vI s0]
  refine oo (S' := T59.setTop (mkF m 25 lv61 [])) (fun _ kK => XS.iload X59.here hx rfl (hb hby d42_73) rfl (XS.bipush X59.here hx rfl (hb hby d42_75) (XS.icmpNo X59.here hx rfl (hb hby d42_77) rfl (feq ((own_b40 P11))).1 (XS.iload X59.here hx rfl (hb hby d42_80) rfl (XS.bipush X59.here hx rfl (hb hby d42_82) (XS.icmpYes X59.here hx rfl (pc0 := 84) (pc' := 112) rfl (hb hby d42_84) rfl (feq ((own_b41 P11))).2 (by decide) (by decide) (XS.iinc X59.here hx rfl (hb hby d42_112) rfl (l' := lv61) rfl (XS.goto X59.here hx rfl (pc0 := 115) (pc' := 25) rfl (hb hby d42_115) (by decide) (by decide) kK)))))))) ?_
  have f62 := ((f40.keep Kq41 nin0).keep Kq47 (own_nin1 (on (by omega))))
  have f63 := (((((((P2.ext E2).keep Kq4 (own_nin1 (on (by omega)))).other W6 (Or.inr (slot_ne (Or.inl (w_ G 257 rfl)) (Or.inr (w_ G 81 rfl)) (by decide) (t := .int) (t' := (.object j9)) (by decide) (by decide)))).ext E10).keep Kq12 (own_nin1 (on (by omega)))).keep Kq41 nin0).keep Kq47 (own_nin1 (on (by omega))))
  have f64 := ((r12_1.keep Kq41 nin0).keep Kq47 (own_nin1 (on (by omega))))
  have f65 := ((r12_2.keep Kq41 nin0).keep Kq47 (own_nin1 (on (by omega))))
  have f66 := ((r12_4.keep Kq41 nin0).keep Kq47 (own_nin1 (on (by omega))))
  have f67 := ((r12_5.keep Kq41 nin0).keep Kq47 (own_nin1 (on (by omega))))
  have f68 := (r41_0.keep Kq47)
  have f69 := (r41_1.keep Kq47 (own_nin1 (on (by omega))))
  have f70 := (r41_2.keep Kq47 (own_nin1 (on (by omega))))
  have f71 := (r41_3.keep Kq47 (own_nin1 (on (by omega))))
  exact sft1_1 l Z a0 G x0 ln lt kl tv c0 s0 c1 s1 c2 aD kD h0 n0 O0 P3 P8 P9 P10 P11 P12 P13 P14 Bd hml0 hZ (X59.more (by decide) (by decide)) T47.heap eh59 K48 O48 N59 (by omega) b2 ((0 : Int32) + (1 : Int32)) b10 vb_12 kv_12 (.int 0) (.int 0) ar_47 kA_47 c0 x_41 t_41 kb_41 f60 f62 f63 f50 f51 f52 f53 f57 f64 f65 f58 f66 f67 r47_0 r47_1 r47_2 r47_3 (by omega) (by omega) (by omega) (by omega) r47_4 (r47_5) f68 f69 f70 f71 (by omega) (by simp only [own_ord, and_true]; omega) (by simp only [own_ord, and_true]; omega) (by simp only [own_ord, and_true]; omega) (by omega) (by omega) (by omega) (own_nb_n (own_p32 hpa) (own_p9 hpa))
 ·refine oo (S' := T21.setTop (mkF m 108 lv22 [(.int c0), (.ref b10)])) (fun _ kK => XS.iload X21.here hx rfl (hb hby d42_40) rfl (XS.bipush X21.here hx rfl (hb hby d42_42) (XS.icmpNo X21.here hx rfl (hb hby d42_44) rfl (feq (hot.1)).1 (XS.iload X21.here hx rfl (hb hby d42_47) rfl (XS.bipush X21.here hx rfl (hb hby d42_49) (XS.icmpNo X21.here hx rfl (hb hby d42_51) rfl (feq (hot.2.1)).1 (XS.iload X21.here hx rfl (hb hby d42_54) rfl (XS.bipush X21.here hx rfl (hb hby d42_56) (XS.icmpNo X21.here hx rfl (hb hby d42_58) rfl (feq (hot.2.2.1)).1 (XS.iload X21.here hx rfl (hb hby d42_61) rfl (XS.bipush X21.here hx rfl (hb hby d42_63) (XS.icmpYes X21.here hx rfl (pc0 := 65) (pc' := 105) rfl (hb hby d42_65) rfl (feq (hot.2.2.2)).2 (by decide) (by decide) (XS.aloadN X21.here hx rfl (hb hby d42_105) rfl rfl (XS.iload X21.here hx rfl (hb hby d42_106) rfl kK)))))))))))))) ?_
  obtain ⟨cq72, kq72, q72a, q72b, q72c⟩ := isOf hZ eh21 r12_0
  obtain ⟨_, _, ⟨T72, L72, k72, n72⟩, -, X72, ⟨Lc72, hQ72, l72, y72, z72⟩, st72⟩ := X21.virtualBack hx (y := own_m13) (z := own_m13) hown (mvT hZ (w_ G 131 rfl)) (mvT hZ (w_ G 132 rfl)) (notFace_of_selects (args := #[]) (mvT hZ (w_ G 134 rfl))) (mvT hZ (w_ G 134 rfl)) (mvT hZ (w_ G 133 rfl)) (by decide) (backOf (W := 0) (rmsbc l Z a0 G [] b10 vb_12 kv_12 (.int 0) (.int 0) c0 T12.heap n0 O13 r12_0 r12_1 r12_2 r12_3 r12_4 r12_5 (P10 c0 (by simp)) (by omega) (by omega) (on (by omega))) hZ (w_ G 135 rfl) (w_ G 84 rfl) (by decide) (by decide)) q72a q72c (g := (mkF m 108 lv22 [(.int c0), (.ref b10)])) rfl (by rw [hml]; rfl) (Steps.refl _) (argsL := [(.int c0)]) (rest := []) (lenOf pd_25 rfl) rfl (own_z rfl) (hb hby d42_108) (fun _ _ => ⟨rfl, eh21, (ol rfl), (ol rfl)⟩)
  dsimp only [Pt.U, Pt.locs, Pt.cells, Pt.slots] at X72 l72 y72 z72 st72 hQ72
  subst l72 y72 z72
  obtain ⟨rfl, N72q, Kq72, r72_0, r72_1, r72_2, r72_3, r72_4, r72_5⟩ := hQ72
  have N72 := Fr.app N21 N72q
  have sz73 := Kq72.1
  have K73 := K13.trans Kq72 (own_all2 (Or.inr (by omega)) (Or.inr (by omega)))
  have O73 := O13.keep Kq72 (own_all2 (by omega) (by omega))
  have ltr72_0 := lN r72_0.lt
  have ltr72_1 := lN r72_1.lt
  have ltr72_2 := lN r72_2.lt
  have ltr72_3 := lN r72_3.lt
  have ltr72_4 := lN r72_4.lt
  have ltr72_5 := lN r72_5.lt
  refine ot (S' := T72.setTop (mkF m 111 lv22 [(.ref b10)])) st72 ?_
  let lv74 : Array Slot := #[vR x0, vR ln, vR b10, vI 1, vI c0]
  refine oo (S' := T72.setTop (mkF m 27 lv74 [(.ref ln), (.int 1)])) (fun _ kK => XS.pop X72.here hx rfl (hb hby d42_111) rfl rfl (XS.iinc X72.here hx rfl (hb hby d42_112) rfl (l' := lv74) rfl (XS.goto X72.here hx rfl (pc0 := 115) (pc' := 25) rfl (hb hby d42_115) (by decide) (by decide) (XS.iloadN X72.here hx rfl (hb hby d42_25) rfl (XS.aloadN X72.here hx rfl (hb hby d42_26) rfl rfl kK))))) ?_
  have f75 := (f16.keep Kq72)
  have f76 := (f17.keep Kq72 (own_nin2 (on (by omega)) (on (by omega))))
  have f77 := (f18.keep Kq72 (own_nin2 (on (by omega)) (on (by omega))))
  have f78 := (f19.keep Kq72 (own_nin2 (on (by omega)) (on (by omega))))
  obtain ⟨cq79, kq79, q79a, q79b, q79c⟩ := isOf hZ rfl f75
  obtain ⟨_, _, ⟨T79, L79, k79, n79⟩, -, X79, ⟨Lc79, hQ79, l79, y79, z79⟩, st79⟩ := X72.virtualBack hx (y := own_m4) (z := own_m4) hown (mvT hZ (w_ G 100 rfl)) (mvT hZ (w_ G 101 rfl)) (notFace_of_selects (args := #[]) (mvT hZ (w_ G 103 rfl))) (mvT hZ (w_ G 103 rfl)) (mvT hZ (w_ G 102 rfl)) (by decide) (backOf (W := 1) (rmln0 l Z a0 G [] ln lt kl (5 : Int32) ((([c0, s0, c1, s1, c2] : List Int32).map (fun c => c.toInt8.toInt32)).map Value.int) (.int 0) T72.heap n0 O73 f75 f76 f77 f78) hZ (w_ G 104 rfl) (w_ G 9 rfl) (by decide) (by decide)) q79a q79c (g := (mkF m 27 lv74 [(.ref ln), (.int 1)])) rfl (by rw [hml]; rfl) (Steps.refl _) (argsL := []) (rest := [(.int 1)]) (lenOf pd_8 rfl) rfl (own_z rfl) (hb hby d42_27) (fun _ _ => ⟨rfl, rfl, (ol rfl), (ol rfl)⟩)
  dsimp only [Pt.U, Pt.locs, Pt.cells, Pt.slots] at X79 l79 y79 z79 st79 hQ79
  subst l79 y79 z79
  obtain ⟨rfl, N79q, eh79⟩ := hQ79
  have N79 := Fr.app N72 N79q
  refine ot (S' := T79.setTop (mkF m 30 lv74 [(.int 5), (.int 1)])) st79 ?_
  refine oo (S' := T79.setTop (mkF m 35 lv74 [(.int 1), (.ref ln)])) (fun _ kK => XS.icmpNo X79.here hx rfl (hb hby d42_30) rfl (tlt ((by decide : (1 : Int32) < (5 : Int32)))).2.1 (XS.aloadN X79.here hx rfl (hb hby d42_33) rfl rfl (XS.iloadN X79.here hx rfl (hb hby d42_34) rfl kK))) ?_
  obtain ⟨cq80, kq80, q80a, q80b, q80c⟩ := isOf hZ eh79 f75
  obtain ⟨_, _, ⟨T80, L80, k80, n80⟩, -, X80, ⟨Lc80, hQ80, l80, y80, z80⟩, st80⟩ := X79.virtualBack hx (y := own_m6) (z := own_m6) hown (mvT hZ (w_ G 110 rfl)) (mvT hZ (w_ G 111 rfl)) (notFace_of_selects (args := #[]) (mvT hZ (w_ G 113 rfl))) (mvT hZ (w_ G 113 rfl)) (mvT hZ (w_ G 112 rfl)) (by decide) (backOf (W := 0) (rmcA0 l Z a0 G [] ln lt kl (5 : Int32) ((([c0, s0, c1, s1, c2] : List Int32).map (fun c => c.toInt8.toInt32)).map Value.int) (.int 0) (1 : Int32) s0 T72.heap n0 O73 f75 f76 f77 f78 (by decide) (by decide) (by rfl) (P10 s0 (by simp))) hZ (w_ G 114 rfl) (w_ G 9 rfl) (by decide) (by decide)) q80a q80c (g := (mkF m 35 lv74 [(.int 1), (.ref ln)])) rfl (by rw [hml]; rfl) (Steps.refl _) (argsL := [(.int 1)]) (rest := []) (lenOf pd_23 rfl) rfl (own_z rfl) (hb hby d42_35) (fun _ _ => ⟨rfl, eh79, (ol rfl), (ol rfl)⟩)
  dsimp only [Pt.U, Pt.locs, Pt.cells, Pt.slots] at X80 l80 y80 z80 st80 hQ80
  subst l80 y80 z80
  obtain ⟨rfl, N80q, eh80⟩ := hQ80
  have N80 := Fr.app N79 N80q
  refine ot (S' := T80.setTop (mkF m 38 lv74 [(.int s0)])) st80 ?_
  let lv81 : Array Slot := #[vR x0, vR ln, vR b10, vI 1, vI s0]
  refine oo (S' := T80.setTop (mkF m 40 lv81 [])) (fun _ kK => XS.istore X80.here hx rfl (hb hby d42_38) rfl (l' := lv81) rfl kK) ?_
  refine oo (S' := T80.setTop (mkF m 68 lv81 [])) (fun _ kK => Or.elim P11 (fun hz => XS.iload X80.here hx rfl (hb hby d42_40) rfl (XS.bipush X80.here hx rfl (hb hby d42_42) (XS.icmpYes X80.here hx rfl (pc0 := 44) (pc' := 68) rfl (hb hby d42_44) rfl (teq (hz)).1 (by decide) (by decide) kK))) (fun hz => XS.iload X80.here hx rfl (hb hby d42_40) rfl (XS.bipush X80.here hx rfl (hb hby d42_42) (XS.icmpNo X80.here hx rfl (hb hby d42_44) rfl (feq ((fun q => absurd (hz.symm.trans q) (by decide)))).1 (XS.iload X80.here hx rfl (hb hby d42_47) rfl (XS.bipush X80.here hx rfl (hb hby d42_49) (XS.icmpYes X80.here hx rfl (pc0 := 51) (pc' := 68) rfl (hb hby d42_51) rfl (teq (hz)).1 (by decide) (by decide) kK))))))) ?_
  refine oo (S' := T80.setTop (mkF m 70 lv81 [(.ref b10), (.ref x0)])) (fun _ kK => XS.aloadN X80.here hx rfl (hb hby d42_68) rfl rfl (XS.aloadN X80.here hx rfl (hb hby d42_69) rfl rfl kK)) ?_
  have f82 := (((Fw6.ext E10).keep Kq12 (own_nin1 (on (by omega)))).keep Kq72 (own_nin2 (on (by omega)) (on (by omega))))
  have f83 := ((((r4_0.wr W6).ext E10).keep Kq12).keep Kq72)
  have f84 := ((((r4_1.other W6 (Or.inl (on (by omega)))).ext E10).keep Kq12 (own_nin1 (on (by omega)))).keep Kq72 (own_nin2 (on (by omega)) (on (by omega))))
  have f85 := ((((r4_2.other W6 (Or.inl (on (by omega)))).ext E10).keep Kq12 (own_nin1 (on (by omega)))).keep Kq72 (own_nin2 (on (by omega)) (on (by omega))))
  have f86 := ((((r4_3.other W6 (Or.inl (on (by omega)))).ext E10).keep Kq12 (own_nin1 (on (by omega)))).keep Kq72 (own_nin2 (on (by omega)) (on (by omega))))
  have f88 := ((((f8.wr W6).ext E10).keep Kq12).keep Kq72)
  obtain ⟨cq87, kq87, q87a, q87b, cc87, q87d, -, q87e⟩ := isOf hZ eh80 f88
  obtain ⟨_, _, ⟨T87, L87, k87, n87⟩, -, X87, ⟨Lc87, hQ87, l87, y87, z87⟩, st87⟩ := X80.privateBack hx (y := own_m41) hown (mvT hZ (w_ G 154 rfl)) (mvT hZ (w_ G 155 rfl)) (own_selP (oI (mvT hZ (w_ G 254 rfl)) rfl) (mvT hZ (w_ G 155 rfl)) (Cond.privateMethod_at (args := #[]) (mvT hZ (w_ G 156 rfl))) (by decide)) (Cond.privateMethod_at (args := #[]) (mvT hZ (w_ G 156 rfl))) (mvT hZ (w_ G 157 rfl)) (by decide) (backOf (W := 0) (rmta0 l Z a0 G [] x0 b2 (0 : Int32) b10 vb_12 kv_12 (.int (StrChars.lo8 c0)) (.int 0) aD kD T72.heap n0 O73 f82 r72_0 r72_1 r72_2 r72_3 r72_4 r72_5 f83 f84 f85 f86 (by omega) (by omega) (by omega) P13 P14 (on (by omega)) (on (by omega)) (on (by omega))) hZ (w_ G 157 rfl) (w_ G 35 rfl) (by decide) (by decide)) (g := (mkF m 70 lv81 [(.ref b10), (.ref x0)])) rfl (by rw [hml]; rfl) (Steps.refl _) q87d (own_nost q87e) (argsL := [(.ref b10)]) (rest := []) (lenOf pd_13 rfl) rfl (own_z rfl) (hb hby d42_70) (fun _ _ => ⟨rfl, eh80, (ol rfl), (ol rfl)⟩)
  dsimp only [Pt.U, Pt.locs, Pt.cells, Pt.slots] at X87 l87 y87 z87 st87 hQ87
  subst l87 y87 z87
  obtain ⟨y_87, t_87, kb_87, ar_87, kA_87, rfl, N87q, Kq87, r87_0, r87_1, r87_2, r87_3, r87_4, r87_5, r87_6, r87_7, r87_8, r87_9, r87_10, r87_11, r87_12, r87_13, r87_14, r87_15, r87_16, r87_17, r87_18, r87_19, r87_20⟩ := hQ87
  have N87 := Fr.app N80 N87q
  have sz89 := Kq87.1
  have K89 := K73.trans Kq87 (own_all2 (Or.inr (by omega)) (Or.inr (by omega)))
  have O89 := O73.keep Kq87 (own_all2 (by omega) (by omega))
  have ltr87_0 := lN r87_0.lt
  have ltr87_1 := lN r87_1.lt
  have ltr87_2 := lN r87_2.lt
  have ltr87_3 := lN r87_3.lt
  have ltr87_6 := lN r87_6.lt
  have ltr87_7 := lN r87_7.lt
  have ltr87_8 := lN r87_8.lt
  have ltr87_9 := lN r87_9.lt
  have ltr87_10 := lN r87_10.lt
  have ltr87_15 := lN r87_15.lt
  have ltr87_16 := lN r87_16.lt
  have ltr87_17 := lN r87_17.lt
  have ltr87_18 := lN r87_18.lt
  have ltr87_19 := lN r87_19.lt
  have ltr87_20 := lN r87_20.lt
  refine ot (S' := T87.setTop (mkF m 73 lv81 [])) st87 ?_
  let lv90 : Array Slot := #[vR x0, vR ln, vR b10, vI 2, vI s0]
  refine oo (S' := T87.setTop (mkF m 25 lv90 [])) (fun _ kK => XS.iload X87.here hx rfl (hb hby d42_73) rfl (XS.bipush X87.here hx rfl (hb hby d42_75) (XS.icmpNo X87.here hx rfl (hb hby d42_77) rfl (feq ((own_b40 P11))).1 (XS.iload X87.here hx rfl (hb hby d42_80) rfl (XS.bipush X87.here hx rfl (hb hby d42_82) (XS.icmpYes X87.here hx rfl (pc0 := 84) (pc' := 112) rfl (hb hby d42_84) rfl (feq ((own_b41 P11))).2 (by decide) (by decide) (XS.iinc X87.here hx rfl (hb hby d42_112) rfl (l' := lv90) rfl (XS.goto X87.here hx rfl (pc0 := 115) (pc' := 25) rfl (hb hby d42_115) (by decide) (by decide) kK)))))))) ?_
  have f91 := (f88.keep Kq87)
  have f92 := (f82.keep Kq87 (own_nin2 (on (by omega)) (on (by omega))))
  have f93 := (((((((P2.ext E2).keep Kq4 (own_nin1 (on (by omega)))).other W6 (Or.inr (slot_ne (Or.inl (w_ G 257 rfl)) (Or.inr (w_ G 81 rfl)) (by decide) (t := .int) (t' := (.object j9)) (by decide) (by decide)))).ext E10).keep Kq12 (own_nin1 (on (by omega)))).keep Kq72 (own_nin2 (on (by omega)) (on (by omega)))).keep Kq87 (own_nin2 (on (by omega)) (on (by omega))))
  have f94 := (f75.keep Kq87)
  have f95 := (f76.keep Kq87 (own_nin2 (on (by omega)) (on (by omega))))
  have f96 := (f77.keep Kq87 (own_nin2 (on (by omega)) (on (by omega))))
  have f97 := (f78.keep Kq87 (own_nin2 (on (by omega)) (on (by omega))))
  exact sft1_1 l Z a0 G x0 ln lt kl tv c0 s0 c1 s1 c2 aD kD h0 n0 O0 P3 P8 P9 P10 P11 P12 P13 P14 Bd hml0 hZ (X87.more (by decide) (by decide)) T87.heap rfl K89 O89 N87 (by omega) b2 ((0 : Int32) + (1 : Int32)) b10 vb_12 kv_12 (.int (StrChars.lo8 c0)) (.int 1) ar_87 kA_87 c0 y_87 t_87 kb_87 f91 f92 f93 f94 f95 f96 f97 r87_15 r87_16 r87_17 r87_18 r87_19 r87_20 r87_6 r87_7 r87_8 r87_9 (by omega) (by omega) (by omega) (by omega) r87_10 (r87_11) r87_0 r87_1 r87_2 r87_3 (by omega) (by simp only [own_ord, and_true]; omega) (by simp only [own_ord, and_true]; omega) (by simp only [own_ord, and_true]; omega) (by omega) (by omega) (by omega) (own_nb_n hot.1 hot.2.1)

theorem own_efae0 (m : MethodId) (x0 : Addr) : entryFrame m #[(.ref x0)] 1 = mkF m 0 #[vR x0] [] := by first | (simp [entryFrame, mkF, argsToLocals, Value.category]; done) | rfl
set_option maxRecDepth 65536 in
set_option maxHeartbeats 40000000 in
theorem rmae0 (l : Launch) (Z : State) (a0 : Array Value) (G : OwnG Z a0) (ws : List Jvm.Cond) (x0 : Addr) (lst : Addr) (ps : Int32) (n : Int32) (h0 : Heap) (n0 : Nat) (O0 : Old Z n0 h0) (P0 : Fld Z h0 x0 j3 "next" "I" (.int ps)) (P1 : Fld Z h0 x0 j3 "tokens" "Ljava/util/List;" (.ref lst)) (P2 : Exa Z h0 lst j2) (P3 : Fld Z h0 lst j2 "size" "I" (.int n)) (P4 : ¬ ps = n) :
  MetFree l own_m45 (head1 (Jvm.Cond.code own_m45 B53 1 (some .boolean) :: ws) (rR 1 0 0 13)) (fun a U => a = #[(.ref x0)] ∧ Z.Warmed39 U.vm ∧ U.heap = h0) (fun _ _ _ _ _ => True) (fun _ U o U' => ∃ v L, o = .returned v ∧ (own_Qint (0 : Int32)) h0 n0 v U'.heap L ∧ FrameEnd U o U' L (rR 1 0 0 13).cells (rR 1 0 0 13).slots) := by
 refine MetFree.of_bodySF (plainFor_of_name pn_10) hisR ?_
 intro p e s m args below meth cD s₁ Bd hml0 hP hK
 obtain ⟨rfl, hZ, hh⟩ := hP
 have hml : cD.maxLocals = 1 := hml0
 obtain ⟨hx, hby, (hown : s.vm.findClass j3 = some m.cls), hlk, X0, e0⟩ := own_st Bd hh
 have lt0 := lN P0.lt
 have lt1 := lN P1.lt
 have lt2 := lN P2.lt
 have lt3 := lN P3.lt
 have Z0 := own_old_le O0
 have N0 := Fr.nil n0
 refine OwnEnd.start (g' := (mkF m 0 #[vR x0] [])) (own_efae0 m x0) ?_
 refine oo (S' := s₁.setTop (mkF m 1 #[vR x0] [(.ref x0)])) (fun _ kK => XS.aloadN X0.here hx rfl (hb hby d43_0) rfl rfl kK) ?_
 obtain ⟨T1, X1, e1, st1⟩ := getF X0 hx hZ hown (host := "") (Or.inl (w_ G 256 rfl)) Via.refl e0 P0 (g := (mkF m 1 #[vR x0] [(.ref x0)])) rfl rfl (hb hby d43_1)
 refine oo (S' := T1.setTop (mkF m 4 #[vR x0] [(.int ps)])) st1 ?_
 refine oo (S' := T1.setTop (mkF m 5 #[vR x0] [(.ref x0), (.int ps)])) (fun _ kK => XS.aloadN X1.here hx rfl (hb hby d43_4) rfl rfl kK) ?_
 obtain ⟨T2, X2, e2, st2⟩ := getF X1 hx hZ hown (host := "") (Or.inl (w_ G 80 rfl)) Via.refl e1 P1 (g := (mkF m 5 #[vR x0] [(.ref x0), (.int ps)])) rfl rfl (hb hby d43_5)
 refine oo (S' := T2.setTop (mkF m 8 #[vR x0] [(.ref lst), (.int ps)])) st2 ?_
 obtain ⟨cq3, kq3, q3a, q3b, q3c⟩ := isOf hZ e2 P2
 obtain ⟨_, _, ⟨T3, L3, k3, n3⟩, -, X3, ⟨Lc3, hQ3, l3, y3, z3⟩, st3⟩ := X2.interfaceBack hx (xi := own_m44) (y := own_m37) hown (mvT hZ (w_ G 258 rfl)) (mvT hZ (w_ G 259 rfl)) (mvT hZ (w_ G 260 rfl)) (mvT hZ (w_ G 261 rfl)) (mvT hZ (w_ G 262 rfl)) (mvT hZ (w_ G 263 rfl)) (mvT hZ (w_ G 264 rfl)) (mvT hZ (w_ G 212 rfl)) (by decide) (backOf (W := 1) (rmsz l Z a0 G [] lst n h0 n0 O0 P3) hZ (w_ G 265 rfl) (w_ G 58 rfl) (by decide) (by decide)) q3a q3b q3c (g := (mkF m 8 #[vR x0] [(.ref lst), (.int ps)])) rfl (by rw [hml]; rfl) (Steps.refl _) (argsL := []) (rest := [(.int ps)]) (lenOf pd_8 rfl) rfl (own_z rfl) (hb hby d43_8) (fun _ _ => ⟨rfl, e2, (ol rfl), (ol rfl)⟩)
 dsimp only [Pt.U, Pt.locs, Pt.cells, Pt.slots] at X3 l3 y3 z3 st3 hQ3
 subst l3 y3 z3
 obtain ⟨rfl, N3q, eh3⟩ := hQ3
 have N3 := Fr.app N0 N3q
 refine ot (S' := T3.setTop (mkF m 13 #[vR x0] [(.int n), (.int ps)])) st3 ?_
 refine oo (S' := T3.setTop (mkF m 21 #[vR x0] [(.int 0)])) (fun _ kK => XS.icmpYes X3.here hx rfl (pc0 := 13) (pc' := 20) rfl (hb hby d43_13) rfl (feq (P4)).2 (by decide) (by decide) (XS.iconst X3.here hx rfl (hb hby d43_20) kK)) ?_
 refine OwnEnd.ret X3 (v := (some (.int (nar .boolean (0 : Int32))))) (fun h => by rw [Bd.returns] at h; cases h) hlk (fun fs hr => retN X3 hx (t := .boolean) Bd.returns (by simp) (hb hby d43_21) hr) (by decide) (by decide) (Q := (own_Qint (0 : Int32)) h0 n0) eh3 ?_
 exact ⟨rfl, N3, rfl⟩

theorem own_efae1 (m : MethodId) (x0 : Addr) : entryFrame m #[(.ref x0)] 1 = mkF m 0 #[vR x0] [] := by first | (simp [entryFrame, mkF, argsToLocals, Value.category]; done) | rfl
set_option maxRecDepth 65536 in
set_option maxHeartbeats 40000000 in
theorem rmae1 (l : Launch) (Z : State) (a0 : Array Value) (G : OwnG Z a0) (ws : List Jvm.Cond) (x0 : Addr) (lst : Addr) (ps : Int32) (n : Int32) (h0 : Heap) (n0 : Nat) (O0 : Old Z n0 h0) (P0 : Fld Z h0 x0 j3 "next" "I" (.int ps)) (P1 : Fld Z h0 x0 j3 "tokens" "Ljava/util/List;" (.ref lst)) (P2 : Exa Z h0 lst j2) (P3 : Fld Z h0 lst j2 "size" "I" (.int n)) (P4 : ps = n) :
  MetFree l own_m45 (head1 (Jvm.Cond.code own_m45 B53 1 (some .boolean) :: ws) (rR 1 0 0 13)) (fun a U => a = #[(.ref x0)] ∧ Z.Warmed39 U.vm ∧ U.heap = h0) (fun _ _ _ _ _ => True) (fun _ U o U' => ∃ v L, o = .returned v ∧ (own_Qint (1 : Int32)) h0 n0 v U'.heap L ∧ FrameEnd U o U' L (rR 1 0 0 13).cells (rR 1 0 0 13).slots) := by
 refine MetFree.of_bodySF (plainFor_of_name pn_10) hisR ?_
 intro p e s m args below meth cD s₁ Bd hml0 hP hK
 obtain ⟨rfl, hZ, hh⟩ := hP
 have hml : cD.maxLocals = 1 := hml0
 obtain ⟨hx, hby, (hown : s.vm.findClass j3 = some m.cls), hlk, X0, e0⟩ := own_st Bd hh
 have lt0 := lN P0.lt
 have lt1 := lN P1.lt
 have lt2 := lN P2.lt
 have lt3 := lN P3.lt
 have Z0 := own_old_le O0
 have N0 := Fr.nil n0
 refine OwnEnd.start (g' := (mkF m 0 #[vR x0] [])) (own_efae1 m x0) ?_
 refine oo (S' := s₁.setTop (mkF m 1 #[vR x0] [(.ref x0)])) (fun _ kK => XS.aloadN X0.here hx rfl (hb hby d43_0) rfl rfl kK) ?_
 obtain ⟨T1, X1, e1, st1⟩ := getF X0 hx hZ hown (host := "") (Or.inl (w_ G 256 rfl)) Via.refl e0 P0 (g := (mkF m 1 #[vR x0] [(.ref x0)])) rfl rfl (hb hby d43_1)
 refine oo (S' := T1.setTop (mkF m 4 #[vR x0] [(.int ps)])) st1 ?_
 refine oo (S' := T1.setTop (mkF m 5 #[vR x0] [(.ref x0), (.int ps)])) (fun _ kK => XS.aloadN X1.here hx rfl (hb hby d43_4) rfl rfl kK) ?_
 obtain ⟨T2, X2, e2, st2⟩ := getF X1 hx hZ hown (host := "") (Or.inl (w_ G 80 rfl)) Via.refl e1 P1 (g := (mkF m 5 #[vR x0] [(.ref x0), (.int ps)])) rfl rfl (hb hby d43_5)
 refine oo (S' := T2.setTop (mkF m 8 #[vR x0] [(.ref lst), (.int ps)])) st2 ?_
 obtain ⟨cq3, kq3, q3a, q3b, q3c⟩ := isOf hZ e2 P2
 obtain ⟨_, _, ⟨T3, L3, k3, n3⟩, -, X3, ⟨Lc3, hQ3, l3, y3, z3⟩, st3⟩ := X2.interfaceBack hx (xi := own_m44) (y := own_m37) hown (mvT hZ (w_ G 258 rfl)) (mvT hZ (w_ G 259 rfl)) (mvT hZ (w_ G 260 rfl)) (mvT hZ (w_ G 261 rfl)) (mvT hZ (w_ G 262 rfl)) (mvT hZ (w_ G 263 rfl)) (mvT hZ (w_ G 264 rfl)) (mvT hZ (w_ G 212 rfl)) (by decide) (backOf (W := 1) (rmsz l Z a0 G [] lst n h0 n0 O0 P3) hZ (w_ G 265 rfl) (w_ G 58 rfl) (by decide) (by decide)) q3a q3b q3c (g := (mkF m 8 #[vR x0] [(.ref lst), (.int ps)])) rfl (by rw [hml]; rfl) (Steps.refl _) (argsL := []) (rest := [(.int ps)]) (lenOf pd_8 rfl) rfl (own_z rfl) (hb hby d43_8) (fun _ _ => ⟨rfl, e2, (ol rfl), (ol rfl)⟩)
 dsimp only [Pt.U, Pt.locs, Pt.cells, Pt.slots] at X3 l3 y3 z3 st3 hQ3
 subst l3 y3 z3
 obtain ⟨rfl, N3q, eh3⟩ := hQ3
 have N3 := Fr.app N0 N3q
 refine ot (S' := T3.setTop (mkF m 13 #[vR x0] [(.int n), (.int ps)])) st3 ?_
 refine oo (S' := T3.setTop (mkF m 21 #[vR x0] [(.int 1)])) (fun _ kK => XS.icmpNo X3.here hx rfl (hb hby d43_13) rfl (teq (P4)).2 (XS.iconst X3.here hx rfl (hb hby d43_16) (XS.goto X3.here hx rfl (pc0 := 17) (pc' := 21) rfl (hb hby d43_17) (by decide) (by decide) kK))) ?_
 refine OwnEnd.ret X3 (v := (some (.int (nar .boolean (1 : Int32))))) (fun h => by rw [Bd.returns] at h; cases h) hlk (fun fs hr => retN X3 hx (t := .boolean) Bd.returns (by simp) (hb hby d43_21) hr) (by decide) (by decide) (Q := (own_Qint (1 : Int32)) h0 n0) eh3 ?_
 exact ⟨rfl, N3, rfl⟩

theorem own_efnx (m : MethodId) (x0 : Addr) : entryFrame m #[(.ref x0)] 1 = mkF m 0 #[vR x0] [] := by first | (simp [entryFrame, mkF, argsToLocals, Value.category]; done) | rfl
def Qnx (Z : State) (x0 : Addr) (lst : Addr) (ps : Int32) (n : Int32) (ar : Addr) (kA : ClassId) (vs : List Value) (y : Addr) (ps1 : Int32) (h0 : Heap) (n0 : Nat) (v : Option Value) (h : Heap) (L : List Loc) : Prop := v = some (.ref y) ∧ Fr n0 L ∧ Keep h0 h [x0] ∧ (Exa Z h x0 j3) ∧ (Fld Z h x0 j3 "tokens" "Ljava/util/List;" (.ref lst)) ∧ (Fld Z h x0 j3 "next" "I" (.int ps1))
set_option maxRecDepth 65536 in
set_option maxHeartbeats 40000000 in
theorem rmnx (l : Launch) (Z : State) (a0 : Array Value) (G : OwnG Z a0) (ws : List Jvm.Cond) (x0 : Addr) (lst : Addr) (ps : Int32) (n : Int32) (ar : Addr) (kA : ClassId) (vs : List Value) (y : Addr) (ps1 : Int32) (h0 : Heap) (n0 : Nat) (O0 : Old Z n0 h0) (P0 : Exa Z h0 x0 j3) (P1 : Fld Z h0 x0 j3 "next" "I" (.int ps)) (P2 : Fld Z h0 x0 j3 "tokens" "Ljava/util/List;" (.ref lst)) (P3 : Exa Z h0 lst j2) (P4 : Fld Z h0 lst j2 "size" "I" (.int n)) (P5 : Fld Z h0 lst j2 "elementData" "[Ljava/lang/Object;" (.ref ar)) (P6 : Arv Z h0 ar kA (.object j4) (10 : Int32) vs .null) (P7 : ¬ ps = n) (P8 : ¬ ps < (0 : Int32)) (P9 : ps < n) (P10 : ps < (10 : Int32)) (P11 : vs.getD ps.toNatClampNeg .null = (.ref y)) (P12 : ps + (1 : Int32) = ps1) (P13 : n0 ≤ x0) (P14 : x0 ≠ lst) (P15 : x0 ≠ ar) (P16 : Exa Z h0 y j1) :
  MetFree l own_m47 (head1 (Jvm.Cond.code own_m47 B54 1 (some (.object j1)) :: ws) (rR 3 0 0 40)) (fun a U => a = #[(.ref x0)] ∧ Z.Warmed39 U.vm ∧ U.heap = h0) (fun _ _ _ _ _ => True) (fun _ U o U' => ∃ v L, o = .returned v ∧ Qnx Z x0 lst ps n ar kA vs y ps1 h0 n0 v U'.heap L ∧ FrameEnd U o U' L (rR 3 0 0 40).cells (rR 3 0 0 40).slots) := by
 refine MetFree.of_bodySF (plainFor_of_name pn_10) hisR ?_
 intro p e s m args below meth cD s₁ Bd hml0 hP hK
 obtain ⟨rfl, hZ, hh⟩ := hP
 have hml : cD.maxLocals = 1 := hml0
 obtain ⟨hx, hby, (hown : s.vm.findClass j3 = some m.cls), hlk, X0, e0⟩ := own_st Bd hh
 have lt0 := lN P0.lt
 have lt1 := lN P1.lt
 have lt2 := lN P2.lt
 have lt3 := lN P3.lt
 have lt4 := lN P4.lt
 have lt5 := lN P5.lt
 have lt6 := lN P6.lt
 have lt16 := lN P16.lt
 have nP14 := own_neN P14
 have nP15 := own_neN P15
 have K0 : Keep h0 h0 [x0] := Keep.refl h0 _
 have Z0 := own_old_le O0
 have N0 := Fr.nil n0
 refine OwnEnd.start (g' := (mkF m 0 #[vR x0] [])) (own_efnx m x0) ?_
 refine oo (S' := s₁.setTop (mkF m 1 #[vR x0] [(.ref x0)])) (fun _ kK => XS.aloadN X0.here hx rfl (hb hby d44_0) rfl rfl kK) ?_
 obtain ⟨cq1, kq1, q1a, q1b, q1c⟩ := isOf hZ e0 P0
 obtain ⟨_, _, ⟨T1, L1, k1, n1⟩, -, X1, ⟨Lc1, hQ1, l1, y1, z1⟩, st1⟩ := X0.virtualBack hx (y := own_m45) (z := own_m45) hown (mvT hZ (w_ G 309 rfl)) (mvT hZ (w_ G 300 rfl)) (notFace_of_selects (args := #[]) (mvT hZ (w_ G 302 rfl))) (mvT hZ (w_ G 302 rfl)) (mvT hZ (w_ G 301 rfl)) (by decide) (backOf (W := 0) (rmae0 l Z a0 G [] x0 lst ps n h0 n0 O0 P1 P2 P3 P4 P7) hZ (w_ G 303 rfl) (w_ G 35 rfl) (by decide) (by decide)) q1a q1c (g := (mkF m 1 #[vR x0] [(.ref x0)])) rfl (by rw [hml]; rfl) (Steps.refl _) (argsL := []) (rest := []) (lenOf pd_3 rfl) rfl (own_z rfl) (hb hby d44_1) (fun _ _ => ⟨rfl, e0, (ol rfl), (ol rfl)⟩)
 dsimp only [Pt.U, Pt.locs, Pt.cells, Pt.slots] at X1 l1 y1 z1 st1 hQ1
 subst l1 y1 z1
 obtain ⟨rfl, N1q, eh1⟩ := hQ1
 have N1 := Fr.app N0 N1q
 refine ot (S' := T1.setTop (mkF m 4 #[vR x0] [(.int 0)])) st1 ?_
 refine oo (S' := T1.setTop (mkF m 18 #[vR x0] [(.ref x0)])) (fun _ kK => XS.ifYes X1.here hx rfl (pc0 := 4) (pc' := 17) rfl (hb hby d44_4) rfl ((if0 _ _).trans (teq ((by decide : (0 : Int32) = (0 : Int32)))).1) (by decide) (by decide) (XS.aloadN X1.here hx rfl (hb hby d44_17) rfl rfl kK)) ?_
 obtain ⟨T2, X2, e2, st2⟩ := getF X1 hx hZ hown (host := "") (Or.inl (w_ G 80 rfl)) Via.refl eh1 P2 (g := (mkF m 18 #[vR x0] [(.ref x0)])) rfl rfl (hb hby d44_18)
 refine oo (S' := T2.setTop (mkF m 21 #[vR x0] [(.ref lst)])) st2 ?_
 refine oo (S' := T2.setTop (mkF m 23 #[vR x0] [(.ref x0), (.ref x0), (.ref lst)])) (fun _ kK => XS.aloadN X2.here hx rfl (hb hby d44_21) rfl rfl (XS.dup X2.here hx rfl (hb hby d44_22) rfl rfl kK)) ?_
 obtain ⟨T3, X3, e3, st3⟩ := getF X2 hx hZ hown (host := "") (Or.inl (w_ G 256 rfl)) Via.refl e2 P1 (g := (mkF m 23 #[vR x0] [(.ref x0), (.ref x0), (.ref lst)])) rfl rfl (hb hby d44_23)
 refine oo (S' := T3.setTop (mkF m 26 #[vR x0] [(.int ps), (.ref x0), (.ref lst)])) st3 ?_
 refine oo (S' := T3.setTop (mkF m 29 #[vR x0] [(.int (ps + (1 : Int32))), (.ref x0), (.int ps), (.ref lst)])) (fun _ kK => XS.dupX1 X3.here hx rfl (hb hby d44_26) rfl rfl rfl (XS.iconst X3.here hx rfl (hb hby d44_27) (XS.iadd X3.here hx rfl (hb hby d44_28) rfl kK))) ?_
 rw [P12]
 obtain ⟨T4, h4, X4, e4, W4, st4⟩ := putF X3 hx hZ hown (host := "") (Or.inl (w_ G 256 rfl)) Via.refl e3 P1 P0 (Or.inl (w_ G 257 rfl)) (w_ G 34 rfl) (ty := .int) (by decide) rfl rfl (g := (mkF m 29 #[vR x0] [(.int ps1), (.ref x0), (.int ps), (.ref lst)])) rfl rfl (hb hby d44_29)
 have Fw4 := P1.same W4
 have N4 := Fr.snoc X4 N1 (by omega)
 have sz5 := own_wr_le W4
 have K5 := K0.wr W4 (Or.inl (by simp))
 have O5 := O0.wr W4 (by omega)
 refine oo (S' := T4.setTop (mkF m 32 #[vR x0] [(.int ps), (.ref lst)])) st4 ?_
 have f6 := (P5.other W4 (Or.inl (on (by omega))))
 have f7 := (P6.other W4 (on (by omega)))
 have f8 := (P3.wr W4)
 have f9 := (P4.other W4 (Or.inl (on (by omega))))
 obtain ⟨cq10, kq10, q10a, q10b, q10c⟩ := isOf hZ e4 f8
 obtain ⟨_, _, ⟨T10, L10, k10, n10⟩, -, X10, ⟨Lc10, hQ10, l10, y10, z10⟩, st10⟩ := X4.interfaceBack hx (xi := own_m46) (y := own_m40) hown (mvT hZ (w_ G 271 rfl)) (mvT hZ (w_ G 272 rfl)) (mvT hZ (w_ G 273 rfl)) (mvT hZ (w_ G 274 rfl)) (mvT hZ (w_ G 275 rfl)) (mvT hZ (w_ G 276 rfl)) (mvT hZ (w_ G 277 rfl)) (mvT hZ (w_ G 212 rfl)) (by decide) (backOf (W := 0) (rmge l Z a0 G [] lst ar kA vs ps y n h4 n0 O5 f6 f7 P8 P10 P11 f8 f9 P9) hZ (w_ G 278 rfl) (w_ G 58 rfl) (by decide) (by decide)) q10a q10b q10c (g := (mkF m 32 #[vR x0] [(.int ps), (.ref lst)])) rfl (by rw [hml]; rfl) (Steps.refl _) (argsL := [(.int ps)]) (rest := []) (lenOf pd_20 rfl) rfl (own_z rfl) (hb hby d44_32) (fun _ _ => ⟨rfl, e4, (ol rfl), (ol rfl)⟩)
 dsimp only [Pt.U, Pt.locs, Pt.cells, Pt.slots] at X10 l10 y10 z10 st10 hQ10
 subst l10 y10 z10
 obtain ⟨rfl, N10q, eh10⟩ := hQ10
 have N10 := Fr.app N4 N10q
 refine ot (S' := T10.setTop (mkF m 37 #[vR x0] [(.ref y)])) st10 ?_
 have f12 := (P16.wr W4)
 obtain ⟨T11, X11, e11, st11⟩ := castY X10 hx hZ hown (w_ G 289 rfl) eh10 (Ins.self f12) (g := (mkF m 37 #[vR x0] [(.ref y)])) rfl rfl (hb hby d44_37)
 refine oo (S' := T11.setTop (mkF m 40 #[vR x0] [(.ref y)])) st11 ?_
 have f13 := (P0.wr W4)
 have f14 := (P2.other W4 (Or.inr (slot_ne (Or.inr (w_ G 81 rfl)) (Or.inl (w_ G 257 rfl)) (by decide) (t := (.object j9)) (t' := .int) (by decide) (by decide))))
 refine OwnEnd.ret X11 (v := (some (.ref y))) (fun h => by rw [Bd.returns] at h; cases h) hlk (fun fs hr => retOut X11 hx Bd.returns rfl (Or.inr (Or.inr (Or.inr (Or.inr ⟨rfl, rfl, rfl⟩)))) (hb hby d44_40) hr) (by decide) (by decide) (Q := Qnx Z x0 lst ps n ar kA vs y ps1 h0 n0) e11 ?_
 exact ⟨rfl, N10, K5, f13, f14, Fw4⟩

theorem own_efpo (m : MethodId) (x0 : Addr) : entryFrame m #[(.ref x0)] 1 = mkF m 0 #[vR x0] [] := by first | (simp [entryFrame, mkF, argsToLocals, Value.category]; done) | rfl
set_option maxRecDepth 65536 in
set_option maxHeartbeats 40000000 in
theorem rmpo (l : Launch) (Z : State) (a0 : Array Value) (G : OwnG Z a0) (ws : List Jvm.Cond) (x0 : Addr) (ps : Int32) (h0 : Heap) (n0 : Nat) (O0 : Old Z n0 h0) (P0 : Fld Z h0 x0 j3 "next" "I" (.int ps)) :
  MetFree l own_m48 (head1 (Jvm.Cond.code own_m48 B55 1 (some .int) :: ws) (rR 0 0 0 0)) (fun a U => a = #[(.ref x0)] ∧ Z.Warmed39 U.vm ∧ U.heap = h0) (fun _ _ _ _ _ => True) (fun _ U o U' => ∃ v L, o = .returned v ∧ (own_Qint ps) h0 n0 v U'.heap L ∧ FrameEnd U o U' L (rR 0 0 0 0).cells (rR 0 0 0 0).slots) := by
 refine MetFree.of_bodySF (plainFor_of_name pn_10) hisR ?_
 intro p e s m args below meth cD s₁ Bd hml0 hP hK
 obtain ⟨rfl, hZ, hh⟩ := hP
 have hml : cD.maxLocals = 1 := hml0
 obtain ⟨hx, hby, (hown : s.vm.findClass j3 = some m.cls), hlk, X0, e0⟩ := own_st Bd hh
 have lt0 := lN P0.lt
 have Z0 := own_old_le O0
 have N0 := Fr.nil n0
 refine OwnEnd.start (g' := (mkF m 0 #[vR x0] [])) (own_efpo m x0) ?_
 refine oo (S' := s₁.setTop (mkF m 1 #[vR x0] [(.ref x0)])) (fun _ kK => XS.aloadN X0.here hx rfl (hb hby d45_0) rfl rfl kK) ?_
 obtain ⟨T1, X1, e1, st1⟩ := getF X0 hx hZ hown (host := "") (Or.inl (w_ G 256 rfl)) Via.refl e0 P0 (g := (mkF m 1 #[vR x0] [(.ref x0)])) rfl rfl (hb hby d45_1)
 refine oo (S' := T1.setTop (mkF m 4 #[vR x0] [(.int ps)])) st1 ?_
 refine OwnEnd.ret X1 (v := (some (.int ps))) (fun h => by rw [Bd.returns] at h; cases h) hlk (fun fs hr => retOut X1 hx Bd.returns rfl (Or.inl ⟨rfl, Or.inl rfl, _, rfl⟩) (hb hby d45_4) hr) (by decide) (by decide) (Q := (own_Qint ps) h0 n0) e1 ?_
 exact ⟨rfl, N0, rfl⟩

theorem own_efpkn (m : MethodId) (x0 : Addr) (d : Int32) : entryFrame m #[(.ref x0), (.int d)] 3 = mkF m 0 #[vR x0, vI d, .unset] [] := by first | (simp [entryFrame, mkF, argsToLocals, Value.category]; done) | rfl
def Qpkn (Z : State) (x0 : Addr) (lst : Addr) (ps : Int32) (n : Int32) (d : Int32) (h0 : Heap) (n0 : Nat) (v : Option Value) (h : Heap) (L : List Loc) : Prop := v = some .null ∧ Fr n0 L ∧ h = h0
set_option maxRecDepth 65536 in
set_option maxHeartbeats 40000000 in
theorem rmpkn (l : Launch) (Z : State) (a0 : Array Value) (G : OwnG Z a0) (ws : List Jvm.Cond) (x0 : Addr) (lst : Addr) (ps : Int32) (n : Int32) (d : Int32) (h0 : Heap) (n0 : Nat) (O0 : Old Z n0 h0) (P0 : Fld Z h0 x0 j3 "next" "I" (.int ps)) (P1 : Fld Z h0 x0 j3 "tokens" "Ljava/util/List;" (.ref lst)) (P2 : Exa Z h0 lst j2) (P3 : Fld Z h0 lst j2 "size" "I" (.int n)) (P4 : ¬ (ps + d) < n) :
  MetFree l own_m49 (head1 (Jvm.Cond.code own_m49 B56 3 (some (.object j1)) :: ws) (rR 1 0 0 13)) (fun a U => a = #[(.ref x0), (.int d)] ∧ Z.Warmed39 U.vm ∧ U.heap = h0) (fun _ _ _ _ _ => True) (fun _ U o U' => ∃ v L, o = .returned v ∧ Qpkn Z x0 lst ps n d h0 n0 v U'.heap L ∧ FrameEnd U o U' L (rR 1 0 0 13).cells (rR 1 0 0 13).slots) := by
 refine MetFree.of_bodySF (plainFor_of_name pn_10) hisR ?_
 intro p e s m args below meth cD s₁ Bd hml0 hP hK
 obtain ⟨rfl, hZ, hh⟩ := hP
 have hml : cD.maxLocals = 3 := hml0
 obtain ⟨hx, hby, (hown : s.vm.findClass j3 = some m.cls), hlk, X0, e0⟩ := own_st Bd hh
 have lt0 := lN P0.lt
 have lt1 := lN P1.lt
 have lt2 := lN P2.lt
 have lt3 := lN P3.lt
 have Z0 := own_old_le O0
 have N0 := Fr.nil n0
 refine OwnEnd.start (g' := (mkF m 0 #[vR x0, vI d, .unset] [])) (own_efpkn m x0 d) ?_
 refine oo (S' := s₁.setTop (mkF m 1 #[vR x0, vI d, .unset] [(.ref x0)])) (fun _ kK => XS.aloadN X0.here hx rfl (hb hby d46_0) rfl rfl kK) ?_
 obtain ⟨T1, X1, e1, st1⟩ := getF X0 hx hZ hown (host := "") (Or.inl (w_ G 256 rfl)) Via.refl e0 P0 (g := (mkF m 1 #[vR x0, vI d, .unset] [(.ref x0)])) rfl rfl (hb hby d46_1)
 refine oo (S' := T1.setTop (mkF m 4 #[vR x0, vI d, .unset] [(.int ps)])) st1 ?_
 refine oo (S' := T1.setTop (mkF m 9 #[vR x0, vI d, vI (ps + d)] [(.ref x0), (.int (ps + d))])) (fun _ kK => XS.iloadN X1.here hx rfl (hb hby d46_4) rfl (XS.iadd X1.here hx rfl (hb hby d46_5) rfl (XS.istoreN X1.here hx rfl (hb hby d46_6) rfl (l' := #[vR x0, vI d, vI (ps + d)]) rfl (XS.iloadN X1.here hx rfl (hb hby d46_7) rfl (XS.aloadN X1.here hx rfl (hb hby d46_8) rfl rfl kK))))) ?_
 obtain ⟨T2, X2, e2, st2⟩ := getF X1 hx hZ hown (host := "") (Or.inl (w_ G 80 rfl)) Via.refl e1 P1 (g := (mkF m 9 #[vR x0, vI d, vI (ps + d)] [(.ref x0), (.int (ps + d))])) rfl rfl (hb hby d46_9)
 refine oo (S' := T2.setTop (mkF m 12 #[vR x0, vI d, vI (ps + d)] [(.ref lst), (.int (ps + d))])) st2 ?_
 obtain ⟨cq3, kq3, q3a, q3b, q3c⟩ := isOf hZ e2 P2
 obtain ⟨_, _, ⟨T3, L3, k3, n3⟩, -, X3, ⟨Lc3, hQ3, l3, y3, z3⟩, st3⟩ := X2.interfaceBack hx (xi := own_m44) (y := own_m37) hown (mvT hZ (w_ G 258 rfl)) (mvT hZ (w_ G 259 rfl)) (mvT hZ (w_ G 260 rfl)) (mvT hZ (w_ G 261 rfl)) (mvT hZ (w_ G 262 rfl)) (mvT hZ (w_ G 263 rfl)) (mvT hZ (w_ G 264 rfl)) (mvT hZ (w_ G 212 rfl)) (by decide) (backOf (W := 1) (rmsz l Z a0 G [] lst n h0 n0 O0 P3) hZ (w_ G 265 rfl) (w_ G 58 rfl) (by decide) (by decide)) q3a q3b q3c (g := (mkF m 12 #[vR x0, vI d, vI (ps + d)] [(.ref lst), (.int (ps + d))])) rfl (by rw [hml]; rfl) (Steps.refl _) (argsL := []) (rest := [(.int (ps + d))]) (lenOf pd_8 rfl) rfl (own_z rfl) (hb hby d46_12) (fun _ _ => ⟨rfl, e2, (ol rfl), (ol rfl)⟩)
 dsimp only [Pt.U, Pt.locs, Pt.cells, Pt.slots] at X3 l3 y3 z3 st3 hQ3
 subst l3 y3 z3
 obtain ⟨rfl, N3q, eh3⟩ := hQ3
 have N3 := Fr.app N0 N3q
 refine ot (S' := T3.setTop (mkF m 17 #[vR x0, vI d, vI (ps + d)] [(.int n), (.int (ps + d))])) st3 ?_
 refine oo (S' := T3.setTop (mkF m 37 #[vR x0, vI d, vI (ps + d)] [.null])) (fun _ kK => XS.icmpYes X3.here hx rfl (pc0 := 17) (pc' := 36) rfl (hb hby d46_17) rfl (flt (P4)).2.1 (by decide) (by decide) (XS.aconstNull X3.here hx rfl (hb hby d46_36) kK)) ?_
 refine OwnEnd.ret X3 (v := (some .null)) (fun h => by rw [Bd.returns] at h; cases h) hlk (fun fs hr => retOut X3 hx Bd.returns rfl (Or.inr (Or.inr (Or.inr (Or.inr ⟨rfl, rfl, rfl⟩)))) (hb hby d46_37) hr) (by decide) (by decide) (Q := Qpkn Z x0 lst ps n d h0 n0) eh3 ?_
 exact ⟨rfl, N3, rfl⟩

theorem own_efpke (m : MethodId) (x0 : Addr) (d : Int32) : entryFrame m #[(.ref x0), (.int d)] 3 = mkF m 0 #[vR x0, vI d, .unset] [] := by first | (simp [entryFrame, mkF, argsToLocals, Value.category]; done) | rfl
def Qpke (Z : State) (x0 : Addr) (lst : Addr) (ps : Int32) (n : Int32) (d : Int32) (ar : Addr) (kA : ClassId) (vs : List Value) (y : Addr) (h0 : Heap) (n0 : Nat) (v : Option Value) (h : Heap) (L : List Loc) : Prop := v = some (.ref y) ∧ Fr n0 L ∧ h = h0
set_option maxRecDepth 65536 in
set_option maxHeartbeats 40000000 in
theorem rmpke (l : Launch) (Z : State) (a0 : Array Value) (G : OwnG Z a0) (ws : List Jvm.Cond) (x0 : Addr) (lst : Addr) (ps : Int32) (n : Int32) (d : Int32) (ar : Addr) (kA : ClassId) (vs : List Value) (y : Addr) (h0 : Heap) (n0 : Nat) (O0 : Old Z n0 h0) (P0 : Fld Z h0 x0 j3 "next" "I" (.int ps)) (P1 : Fld Z h0 x0 j3 "tokens" "Ljava/util/List;" (.ref lst)) (P2 : Exa Z h0 lst j2) (P3 : Fld Z h0 lst j2 "size" "I" (.int n)) (P4 : Fld Z h0 lst j2 "elementData" "[Ljava/lang/Object;" (.ref ar)) (P5 : Arv Z h0 ar kA (.object j4) (10 : Int32) vs .null) (P6 : ¬ (ps + d) < (0 : Int32)) (P7 : (ps + d) < n) (P8 : (ps + d) < (10 : Int32)) (P9 : vs.getD (ps + d).toNatClampNeg .null = (.ref y)) (P10 : Exa Z h0 y j1) :
  MetFree l own_m49 (head1 (Jvm.Cond.code own_m49 B56 3 (some (.object j1)) :: ws) (rR 3 0 0 40)) (fun a U => a = #[(.ref x0), (.int d)] ∧ Z.Warmed39 U.vm ∧ U.heap = h0) (fun _ _ _ _ _ => True) (fun _ U o U' => ∃ v L, o = .returned v ∧ Qpke Z x0 lst ps n d ar kA vs y h0 n0 v U'.heap L ∧ FrameEnd U o U' L (rR 3 0 0 40).cells (rR 3 0 0 40).slots) := by
 refine MetFree.of_bodySF (plainFor_of_name pn_10) hisR ?_
 intro p e s m args below meth cD s₁ Bd hml0 hP hK
 obtain ⟨rfl, hZ, hh⟩ := hP
 have hml : cD.maxLocals = 3 := hml0
 obtain ⟨hx, hby, (hown : s.vm.findClass j3 = some m.cls), hlk, X0, e0⟩ := own_st Bd hh
 have lt0 := lN P0.lt
 have lt1 := lN P1.lt
 have lt2 := lN P2.lt
 have lt3 := lN P3.lt
 have lt4 := lN P4.lt
 have lt5 := lN P5.lt
 have lt10 := lN P10.lt
 have Z0 := own_old_le O0
 have N0 := Fr.nil n0
 refine OwnEnd.start (g' := (mkF m 0 #[vR x0, vI d, .unset] [])) (own_efpke m x0 d) ?_
 refine oo (S' := s₁.setTop (mkF m 1 #[vR x0, vI d, .unset] [(.ref x0)])) (fun _ kK => XS.aloadN X0.here hx rfl (hb hby d46_0) rfl rfl kK) ?_
 obtain ⟨T1, X1, e1, st1⟩ := getF X0 hx hZ hown (host := "") (Or.inl (w_ G 256 rfl)) Via.refl e0 P0 (g := (mkF m 1 #[vR x0, vI d, .unset] [(.ref x0)])) rfl rfl (hb hby d46_1)
 refine oo (S' := T1.setTop (mkF m 4 #[vR x0, vI d, .unset] [(.int ps)])) st1 ?_
 refine oo (S' := T1.setTop (mkF m 9 #[vR x0, vI d, vI (ps + d)] [(.ref x0), (.int (ps + d))])) (fun _ kK => XS.iloadN X1.here hx rfl (hb hby d46_4) rfl (XS.iadd X1.here hx rfl (hb hby d46_5) rfl (XS.istoreN X1.here hx rfl (hb hby d46_6) rfl (l' := #[vR x0, vI d, vI (ps + d)]) rfl (XS.iloadN X1.here hx rfl (hb hby d46_7) rfl (XS.aloadN X1.here hx rfl (hb hby d46_8) rfl rfl kK))))) ?_
 obtain ⟨T2, X2, e2, st2⟩ := getF X1 hx hZ hown (host := "") (Or.inl (w_ G 80 rfl)) Via.refl e1 P1 (g := (mkF m 9 #[vR x0, vI d, vI (ps + d)] [(.ref x0), (.int (ps + d))])) rfl rfl (hb hby d46_9)
 refine oo (S' := T2.setTop (mkF m 12 #[vR x0, vI d, vI (ps + d)] [(.ref lst), (.int (ps + d))])) st2 ?_
 obtain ⟨cq3, kq3, q3a, q3b, q3c⟩ := isOf hZ e2 P2
 obtain ⟨_, _, ⟨T3, L3, k3, n3⟩, -, X3, ⟨Lc3, hQ3, l3, y3, z3⟩, st3⟩ := X2.interfaceBack hx (xi := own_m44) (y := own_m37) hown (mvT hZ (w_ G 258 rfl)) (mvT hZ (w_ G 259 rfl)) (mvT hZ (w_ G 260 rfl)) (mvT hZ (w_ G 261 rfl)) (mvT hZ (w_ G 262 rfl)) (mvT hZ (w_ G 263 rfl)) (mvT hZ (w_ G 264 rfl)) (mvT hZ (w_ G 212 rfl)) (by decide) (backOf (W := 1) (rmsz l Z a0 G [] lst n h0 n0 O0 P3) hZ (w_ G 265 rfl) (w_ G 58 rfl) (by decide) (by decide)) q3a q3b q3c (g := (mkF m 12 #[vR x0, vI d, vI (ps + d)] [(.ref lst), (.int (ps + d))])) rfl (by rw [hml]; rfl) (Steps.refl _) (argsL := []) (rest := [(.int (ps + d))]) (lenOf pd_8 rfl) rfl (own_z rfl) (hb hby d46_12) (fun _ _ => ⟨rfl, e2, (ol rfl), (ol rfl)⟩)
 dsimp only [Pt.U, Pt.locs, Pt.cells, Pt.slots] at X3 l3 y3 z3 st3 hQ3
 subst l3 y3 z3
 obtain ⟨rfl, N3q, eh3⟩ := hQ3
 have N3 := Fr.app N0 N3q
 refine ot (S' := T3.setTop (mkF m 17 #[vR x0, vI d, vI (ps + d)] [(.int n), (.int (ps + d))])) st3 ?_
 refine oo (S' := T3.setTop (mkF m 21 #[vR x0, vI d, vI (ps + d)] [(.ref x0)])) (fun _ kK => XS.icmpNo X3.here hx rfl (hb hby d46_17) rfl (tlt (P7)).2.1 (XS.aloadN X3.here hx rfl (hb hby d46_20) rfl rfl kK)) ?_
 obtain ⟨T4, X4, e4, st4⟩ := getF X3 hx hZ hown (host := "") (Or.inl (w_ G 80 rfl)) Via.refl eh3 P1 (g := (mkF m 21 #[vR x0, vI d, vI (ps + d)] [(.ref x0)])) rfl rfl (hb hby d46_21)
 refine oo (S' := T4.setTop (mkF m 24 #[vR x0, vI d, vI (ps + d)] [(.ref lst)])) st4 ?_
 refine oo (S' := T4.setTop (mkF m 25 #[vR x0, vI d, vI (ps + d)] [(.int (ps + d)), (.ref lst)])) (fun _ kK => XS.iloadN X4.here hx rfl (hb hby d46_24) rfl kK) ?_
 obtain ⟨cq5, kq5, q5a, q5b, q5c⟩ := isOf hZ e4 P2
 obtain ⟨_, _, ⟨T5, L5, k5, n5⟩, -, X5, ⟨Lc5, hQ5, l5, y5, z5⟩, st5⟩ := X4.interfaceBack hx (xi := own_m46) (y := own_m40) hown (mvT hZ (w_ G 271 rfl)) (mvT hZ (w_ G 272 rfl)) (mvT hZ (w_ G 273 rfl)) (mvT hZ (w_ G 274 rfl)) (mvT hZ (w_ G 275 rfl)) (mvT hZ (w_ G 276 rfl)) (mvT hZ (w_ G 277 rfl)) (mvT hZ (w_ G 212 rfl)) (by decide) (backOf (W := 0) (rmge l Z a0 G [] lst ar kA vs (ps + d) y n h0 n0 O0 P4 P5 P6 P8 P9 P2 P3 P7) hZ (w_ G 278 rfl) (w_ G 58 rfl) (by decide) (by decide)) q5a q5b q5c (g := (mkF m 25 #[vR x0, vI d, vI (ps + d)] [(.int (ps + d)), (.ref lst)])) rfl (by rw [hml]; rfl) (Steps.refl _) (argsL := [(.int (ps + d))]) (rest := []) (lenOf pd_20 rfl) rfl (own_z rfl) (hb hby d46_25) (fun _ _ => ⟨rfl, e4, (ol rfl), (ol rfl)⟩)
 dsimp only [Pt.U, Pt.locs, Pt.cells, Pt.slots] at X5 l5 y5 z5 st5 hQ5
 subst l5 y5 z5
 obtain ⟨rfl, N5q, eh5⟩ := hQ5
 have N5 := Fr.app N3 N5q
 refine ot (S' := T5.setTop (mkF m 30 #[vR x0, vI d, vI (ps + d)] [(.ref y)])) st5 ?_
 obtain ⟨T6, X6, e6, st6⟩ := castY X5 hx hZ hown (w_ G 289 rfl) eh5 (Ins.self P10) (g := (mkF m 30 #[vR x0, vI d, vI (ps + d)] [(.ref y)])) rfl rfl (hb hby d46_30)
 refine oo (S' := T6.setTop (mkF m 33 #[vR x0, vI d, vI (ps + d)] [(.ref y)])) st6 ?_
 refine oo (S' := T6.setTop (mkF m 37 #[vR x0, vI d, vI (ps + d)] [(.ref y)])) (fun _ kK => XS.goto X6.here hx rfl (pc0 := 33) (pc' := 37) rfl (hb hby d46_33) (by decide) (by decide) kK) ?_
 refine OwnEnd.ret X6 (v := (some (.ref y))) (fun h => by rw [Bd.returns] at h; cases h) hlk (fun fs hr => retOut X6 hx Bd.returns rfl (Or.inr (Or.inr (Or.inr (Or.inr ⟨rfl, rfl, rfl⟩)))) (hb hby d46_37) hr) (by decide) (by decide) (Q := Qpke Z x0 lst ps n d ar kA vs y h0 n0) e6 ?_
 exact ⟨rfl, N5, rfl⟩

theorem own_efeqb (m : MethodId) (t : Addr) (u : Addr) : entryFrame m #[(.ref t), (.ref u)] 3 = mkF m 0 #[vR t, vR u, .unset] [] := by first | (simp [entryFrame, mkF, argsToLocals, Value.category]; done) | rfl
set_option maxRecDepth 65536 in
set_option maxHeartbeats 40000000 in
theorem rmeqb (l : Launch) (Z : State) (a0 : Array Value) (G : OwnG Z a0) (ws : List Jvm.Cond) (t : Addr) (kt : ClassId) (u : Addr) (ku : ClassId) (c : Int32) (h0 : Heap) (n0 : Nat) (O0 : Old Z n0 h0) (P0 : Arv Z h0 t kt .byte (1 : Int32) [(.int c)] (.int 0)) (P1 : Arv Z h0 u ku .byte (1 : Int32) [(.int c)] (.int 0)) :
  MetFree l own_m50 (head1 (Jvm.Cond.code own_m50 B57 3 (some .boolean) :: ws) (rR 0 0 0 0)) (fun a U => a = #[(.ref t), (.ref u)] ∧ Z.Warmed39 U.vm ∧ U.heap = h0) (fun _ _ _ _ _ => True) (fun _ U o U' => ∃ v L, o = .returned v ∧ (own_Qint (1 : Int32)) h0 n0 v U'.heap L ∧ FrameEnd U o U' L (rR 0 0 0 0).cells (rR 0 0 0 0).slots) := by
 refine MetFree.of_bodySF (plainFor_of_name pn_2) hisR ?_
 intro p e s m args below meth cD s₁ Bd hml0 hP hK
 obtain ⟨rfl, hZ, hh⟩ := hP
 have hml : cD.maxLocals = 3 := hml0
 obtain ⟨hx, hby, (hown : s.vm.findClass "java/lang/StringLatin1" = some m.cls), hlk, X0, e0⟩ := own_st Bd hh
 have lt0 := lN P0.lt
 have lt1 := lN P1.lt
 have Z0 := own_old_le O0
 have N0 := Fr.nil n0
 refine OwnEnd.start (g' := (mkF m 0 #[vR t, vR u, .unset] [])) (own_efeqb m t u) ?_
 refine oo (S' := s₁.setTop (mkF m 1 #[vR t, vR u, .unset] [(.ref t)])) (fun _ kK => XS.aloadN X0.here hx rfl (hb hby d47_0) rfl rfl kK) ?_
 obtain ⟨cl1, Ar1, q1, S1, N1', H1, G1⟩ := id P0
 refine oo (S' := s₁.setTop (mkF m 2 #[vR t, vR u, .unset] [(.int 1)])) (fun _ kK => X0.arraylength hx (by rw [e0]; exact Ar1.1) (State.isArrayOf_alike hZ.alike Ar1.2.1) (g := (mkF m 1 #[vR t, vR u, .unset] [(.ref t)])) rfl rfl (hb hby d47_1) _ (by rw [len_of S1 N1']; exact kK)) ?_
 refine oo (S' := s₁.setTop (mkF m 3 #[vR t, vR u, .unset] [(.ref u), (.int 1)])) (fun _ kK => XS.aloadN X0.here hx rfl (hb hby d47_2) rfl rfl kK) ?_
 obtain ⟨cl2, Ar2, q2, S2, N2', H2, G2⟩ := id P1
 refine oo (S' := s₁.setTop (mkF m 4 #[vR t, vR u, .unset] [(.int 1), (.int 1)])) (fun _ kK => X0.arraylength hx (by rw [e0]; exact Ar2.1) (State.isArrayOf_alike hZ.alike Ar2.2.1) (g := (mkF m 3 #[vR t, vR u, .unset] [(.ref u), (.int 1)])) rfl rfl (hb hby d47_3) _ (by rw [len_of S2 N2']; exact kK)) ?_
 refine oo (S' := s₁.setTop (mkF m 11 #[vR t, vR u, vI 0] [(.ref t), (.int 0)])) (fun _ kK => XS.icmpNo X0.here hx rfl (hb hby d47_4) rfl (teq ((by decide : (1 : Int32) = (1 : Int32)))).2 (XS.iconst X0.here hx rfl (hb hby d47_7) (XS.istoreN X0.here hx rfl (hb hby d47_8) rfl (l' := #[vR t, vR u, vI 0]) rfl (XS.iloadN X0.here hx rfl (hb hby d47_9) rfl (XS.aloadN X0.here hx rfl (hb hby d47_10) rfl rfl kK))))) ?_
 obtain ⟨cl3, Ar3, q3, S3, N3', H3, G3⟩ := id P0
 refine oo (S' := s₁.setTop (mkF m 12 #[vR t, vR u, vI 0] [(.int 1), (.int 0)])) (fun _ kK => X0.arraylength hx (by rw [e0]; exact Ar3.1) (State.isArrayOf_alike hZ.alike Ar3.2.1) (g := (mkF m 11 #[vR t, vR u, vI 0] [(.ref t), (.int 0)])) rfl rfl (hb hby d47_11) _ (by rw [len_of S3 N3']; exact kK)) ?_
 refine oo (S' := s₁.setTop (mkF m 17 #[vR t, vR u, vI 0] [(.int 0), (.ref t)])) (fun _ kK => XS.icmpNo X0.here hx rfl (hb hby d47_12) rfl (tlt ((by decide : (0 : Int32) < (1 : Int32)))).2.1 (XS.aloadN X0.here hx rfl (hb hby d47_15) rfl rfl (XS.iloadN X0.here hx rfl (hb hby d47_16) rfl kK))) ?_
 obtain ⟨cl4, Ar4, q4, S4, N4', H4, G4⟩ := id P0
 have hin5 : ¬ ((0 : Int32) < 0 ∨ cl4.slots.size ≤ ((0 : Int32)).toNatClampNeg) := inb_of S4 ⟨by decide, by decide⟩
 refine oo (S' := s₁.setTop (mkF m 18 #[vR t, vR u, vI 0] [(.int c)])) (fun _ kK => X0.baloadBytes hx (j := (0 : Int32)) (v := (.int c)) (by rw [e0]; exact Ar4.1) (State.isArrayOf_alike hZ.alike Ar4.2.1) Ar4.2.2 hin5 (Has.at H4 hin5 (rfl)) (g := (mkF m 17 #[vR t, vR u, vI 0] [(.int 0), (.ref t)])) rfl rfl (hb hby d47_17) _ kK) ?_
 refine oo (S' := s₁.setTop (mkF m 20 #[vR t, vR u, vI 0] [(.int 0), (.ref u), (.int c)])) (fun _ kK => XS.aloadN X0.here hx rfl (hb hby d47_18) rfl rfl (XS.iloadN X0.here hx rfl (hb hby d47_19) rfl kK)) ?_
 obtain ⟨cl6, Ar6, q6, S6, N6', H6, G6⟩ := id P1
 have hin7 : ¬ ((0 : Int32) < 0 ∨ cl6.slots.size ≤ ((0 : Int32)).toNatClampNeg) := inb_of S6 ⟨by decide, by decide⟩
 refine oo (S' := s₁.setTop (mkF m 21 #[vR t, vR u, vI 0] [(.int c), (.int c)])) (fun _ kK => X0.baloadBytes hx (j := (0 : Int32)) (v := (.int c)) (by rw [e0]; exact Ar6.1) (State.isArrayOf_alike hZ.alike Ar6.2.1) Ar6.2.2 hin7 (Has.at H6 hin7 (rfl)) (g := (mkF m 20 #[vR t, vR u, vI 0] [(.int 0), (.ref u), (.int c)])) rfl rfl (hb hby d47_20) _ kK) ?_
 refine oo (S' := s₁.setTop (mkF m 11 #[vR t, vR u, vI 1] [(.ref t), (.int 1)])) (fun _ kK => XS.icmpYes X0.here hx rfl (pc0 := 21) (pc' := 26) rfl (hb hby d47_21) rfl (teq (rfl)).1 (by decide) (by decide) (XS.iinc X0.here hx rfl (hb hby d47_26) rfl (l' := #[vR t, vR u, vI 1]) rfl (XS.goto X0.here hx rfl (pc0 := 29) (pc' := 9) rfl (hb hby d47_29) (by decide) (by decide) (XS.iloadN X0.here hx rfl (hb hby d47_9) rfl (XS.aloadN X0.here hx rfl (hb hby d47_10) rfl rfl kK))))) ?_
 obtain ⟨cl8, Ar8, q8, S8, N8', H8, G8⟩ := id P0
 refine oo (S' := s₁.setTop (mkF m 12 #[vR t, vR u, vI 1] [(.int 1), (.int 1)])) (fun _ kK => X0.arraylength hx (by rw [e0]; exact Ar8.1) (State.isArrayOf_alike hZ.alike Ar8.2.1) (g := (mkF m 11 #[vR t, vR u, vI 1] [(.ref t), (.int 1)])) rfl rfl (hb hby d47_11) _ (by rw [len_of S8 N8']; exact kK)) ?_
 refine oo (S' := s₁.setTop (mkF m 33 #[vR t, vR u, vI 1] [(.int 1)])) (fun _ kK => XS.icmpYes X0.here hx rfl (pc0 := 12) (pc' := 32) rfl (hb hby d47_12) rfl (flt ((by decide : ¬ ((1 : Int32) < (1 : Int32))))).2.1 (by decide) (by decide) (XS.iconst X0.here hx rfl (hb hby d47_32) kK)) ?_
 refine OwnEnd.ret X0 (v := (some (.int (nar .boolean (1 : Int32))))) (fun h => by rw [Bd.returns] at h; cases h) hlk (fun fs hr => retN X0 hx (t := .boolean) Bd.returns (by simp) (hb hby d47_33) hr) (by decide) (by decide) (Q := (own_Qint (1 : Int32)) h0 n0) e0 ?_
 exact ⟨rfl, N0, rfl⟩

theorem own_efeqs (m : MethodId) (x0 : Addr) (x1 : Addr) : entryFrame m #[(.ref x0), (.ref x1)] 3 = mkF m 0 #[vR x0, vR x1, .unset] [] := by first | (simp [entryFrame, mkF, argsToLocals, Value.category]; done) | rfl
set_option maxRecDepth 65536 in
set_option maxHeartbeats 40000000 in
theorem rmeqs (l : Launch) (Z : State) (a0 : Array Value) (G : OwnG Z a0) (ws : List Jvm.Cond) (x0 : Addr) (t : Addr) (kt : ClassId) (x1 : Addr) (u : Addr) (ku : ClassId) (c : Int32) (h0 : Heap) (n0 : Nat) (O0 : Old Z n0 h0) (P0 : Exa Z h0 x0 j1) (P1 : Fld Z h0 x0 j1 "value" "[B" (.ref t)) (P2 : Fld Z h0 x0 j1 "coder" "B" (.int 0)) (P3 : Arv Z h0 t kt .byte (1 : Int32) [(.int c)] (.int 0)) (P4 : Exa Z h0 x1 j1) (P5 : Fld Z h0 x1 j1 "value" "[B" (.ref u)) (P6 : Fld Z h0 x1 j1 "coder" "B" (.int 0)) (P7 : Arv Z h0 u ku .byte (1 : Int32) [(.int c)] (.int 0)) (P8 : x0 ≠ x1) :
  MetFree l own_m51 (head1 (Jvm.Cond.code own_m51 B58 3 (some .boolean) :: ws) (rR 1 0 0 14)) (fun a U => a = #[(.ref x0), (.ref x1)] ∧ Z.Warmed39 U.vm ∧ U.heap = h0) (fun _ _ _ _ _ => True) (fun _ U o U' => ∃ v L, o = .returned v ∧ (own_Qint (1 : Int32)) h0 n0 v U'.heap L ∧ FrameEnd U o U' L (rR 1 0 0 14).cells (rR 1 0 0 14).slots) := by
 refine MetFree.of_bodySF (plainFor_of_name pn_1) hisR ?_
 intro p e s m args below meth cD s₁ Bd hml0 hP hK
 obtain ⟨rfl, hZ, hh⟩ := hP
 have hml : cD.maxLocals = 3 := hml0
 obtain ⟨hx, hby, (hown : s.vm.findClass j1 = some m.cls), hlk, X0, e0⟩ := own_st Bd hh
 have lt0 := lN P0.lt
 have lt1 := lN P1.lt
 have lt2 := lN P2.lt
 have lt3 := lN P3.lt
 have lt4 := lN P4.lt
 have lt5 := lN P5.lt
 have lt6 := lN P6.lt
 have lt7 := lN P7.lt
 have nP8 := own_neN P8
 have Z0 := own_old_le O0
 have N0 := Fr.nil n0
 obtain ⟨zCS, SCS, PCS⟩ := own_cs G
 refine OwnEnd.start (g' := (mkF m 0 #[vR x0, vR x1, .unset] [])) (own_efeqs m x0 x1) ?_
 refine oo (S' := s₁.setTop (mkF m 8 #[vR x0, vR x1, .unset] [(.ref x1)])) (fun _ kK => XS.aloadN X0.here hx rfl (hb hby d48_0) rfl rfl (XS.aloadN X0.here hx rfl (hb hby d48_1) rfl rfl (Jvm.RoadKit.acmp (g := (mkF m 2 #[vR x0, vR x1, .unset] [(.ref x1), (.ref x0)])) X0 hx rfl (x := (.ref x0)) (y := (.ref x1)) rfl rfl (pc0 := 2) (pc' := 7) (same := false) rfl (hb hby d48_2) rfl (decide_eq_false (fun q => P8 (Value.ref.inj q))) (by decide) (by decide) (XS.aloadN X0.here hx rfl (hb hby d48_7) rfl rfl kK)))) ?_
 obtain ⟨T1, X1, e1, st1⟩ := instY X0 hx hZ hown (w_ G 16 rfl) e0 (Ins.self P4) (g := (mkF m 8 #[vR x0, vR x1, .unset] [(.ref x1)])) rfl rfl (hb hby d48_8)
 refine oo (S' := T1.setTop (mkF m 11 #[vR x0, vR x1, .unset] [(.int 1)])) st1 ?_
 refine oo (S' := T1.setTop (mkF m 15 #[vR x0, vR x1, .unset] [(.ref x1)])) (fun _ kK => XS.ifNo X1.here hx rfl (hb hby d48_11) rfl ((if0 _ _).trans (feq ((by decide : ¬ ((1 : Int32) = (0 : Int32))))).1) (XS.aloadN X1.here hx rfl (hb hby d48_14) rfl rfl kK)) ?_
 obtain ⟨T2, X2, e2, st2⟩ := castY X1 hx hZ hown (w_ G 16 rfl) e1 (Ins.self P4) (g := (mkF m 15 #[vR x0, vR x1, .unset] [(.ref x1)])) rfl rfl (hb hby d48_15)
 refine oo (S' := T2.setTop (mkF m 18 #[vR x0, vR x1, .unset] [(.ref x1)])) st2 ?_
 refine oo (S' := T2.setTop (mkF m 19 #[vR x0, vR x1, vR x1] [])) (fun _ kK => XS.astoreN X2.here hx rfl (hb hby d48_18) rfl rfl (l' := #[vR x0, vR x1, vR x1]) rfl kK) ?_
 obtain ⟨T3, X3, e3, st3⟩ := getS2 X2 hx hZ hown (host := "") (Or.inl (w_ G 11 rfl)) Via.refl e2 (SCS.ext O0.2) (g := (mkF m 19 #[vR x0, vR x1, vR x1] [])) rfl (hb hby d48_19)
 refine oo (S' := T3.setTop (mkF m 22 #[vR x0, vR x1, vR x1] [(.int zCS)])) st3 ?_
 refine oo (S' := T3.setTop (mkF m 26 #[vR x0, vR x1, vR x1] [(.ref x0)])) (fun _ kK => XS.ifNo X3.here hx rfl (hb hby d48_22) rfl ((if0 _ _).trans (feq (PCS)).1) (XS.aloadN X3.here hx rfl (hb hby d48_25) rfl rfl kK)) ?_
 obtain ⟨T4, X4, e4, st4⟩ := getF X3 hx hZ hown (host := "") (Or.inl (w_ G 31 rfl)) Via.refl e3 P2 (g := (mkF m 26 #[vR x0, vR x1, vR x1] [(.ref x0)])) rfl rfl (hb hby d48_26)
 refine oo (S' := T4.setTop (mkF m 29 #[vR x0, vR x1, vR x1] [(.int 0)])) st4 ?_
 refine oo (S' := T4.setTop (mkF m 30 #[vR x0, vR x1, vR x1] [(.ref x1), (.int 0)])) (fun _ kK => XS.aloadN X4.here hx rfl (hb hby d48_29) rfl rfl kK) ?_
 obtain ⟨T5, X5, e5, st5⟩ := getF X4 hx hZ hown (host := "") (Or.inl (w_ G 31 rfl)) Via.refl e4 P6 (g := (mkF m 30 #[vR x0, vR x1, vR x1] [(.ref x1), (.int 0)])) rfl rfl (hb hby d48_30)
 refine oo (S' := T5.setTop (mkF m 33 #[vR x0, vR x1, vR x1] [(.int 0), (.int 0)])) st5 ?_
 refine oo (S' := T5.setTop (mkF m 37 #[vR x0, vR x1, vR x1] [(.ref x0)])) (fun _ kK => XS.icmpNo X5.here hx rfl (hb hby d48_33) rfl (teq ((by decide : (0 : Int32) = (0 : Int32)))).2 (XS.aloadN X5.here hx rfl (hb hby d48_36) rfl rfl kK)) ?_
 obtain ⟨T6, X6, e6, st6⟩ := getF X5 hx hZ hown (host := "") (Or.inl (w_ G 29 rfl)) Via.refl e5 P1 (g := (mkF m 37 #[vR x0, vR x1, vR x1] [(.ref x0)])) rfl rfl (hb hby d48_37)
 refine oo (S' := T6.setTop (mkF m 40 #[vR x0, vR x1, vR x1] [(.ref t)])) st6 ?_
 refine oo (S' := T6.setTop (mkF m 41 #[vR x0, vR x1, vR x1] [(.ref x1), (.ref t)])) (fun _ kK => XS.aloadN X6.here hx rfl (hb hby d48_40) rfl rfl kK) ?_
 obtain ⟨T7, X7, e7, st7⟩ := getF X6 hx hZ hown (host := "") (Or.inl (w_ G 29 rfl)) Via.refl e6 P5 (g := (mkF m 41 #[vR x0, vR x1, vR x1] [(.ref x1), (.ref t)])) rfl rfl (hb hby d48_41)
 refine oo (S' := T7.setTop (mkF m 44 #[vR x0, vR x1, vR x1] [(.ref u), (.ref t)])) st7 ?_
 obtain ⟨_, _, ⟨T8, L8, k8, n8⟩, -, X8, ⟨Lc8, hQ8, l8, y8, z8⟩, st8⟩ := Jvm.LawKit.callS X7 hx (y := own_m50) hown (mvT hZ (w_ G 295 rfl)) (mvT hZ (w_ G 296 rfl)) (mvT hZ (w_ G 14 rfl)) (mvT hZ (w_ G 297 rfl)) (by decide) (backOf (W := 0) (rmeqb l Z a0 G [] t kt u ku c h0 n0 O0 P3 P7) hZ (w_ G 297 rfl) (w_ G 14 rfl) (by decide) (by decide)) (g := (mkF m 44 #[vR x0, vR x1, vR x1] [(.ref u), (.ref t)])) rfl (by rw [hml]; rfl) (argsL := [(.ref t), (.ref u)]) (rest := []) (lenOf pd_26 rfl) rfl (own_z rfl) (hb hby d48_44) (fun _ _ => ⟨rfl, e7, (ol rfl), (ol rfl)⟩)
 dsimp only [Pt.U, Pt.locs, Pt.cells, Pt.slots] at X8 l8 y8 z8 st8 hQ8
 subst l8 y8 z8
 obtain ⟨rfl, N8q, eh8⟩ := hQ8
 have N8 := Fr.app N0 N8q
 refine oo (S' := T8.setTop (mkF m 47 #[vR x0, vR x1, vR x1] [(.int 1)])) st8 ?_
 refine oo (S' := T8.setTop (mkF m 55 #[vR x0, vR x1, vR x1] [(.int 1)])) (fun _ kK => XS.ifNo X8.here hx rfl (hb hby d48_47) rfl ((if0 _ _).trans (feq ((by decide : ¬ ((1 : Int32) = (0 : Int32))))).1) (XS.iconst X8.here hx rfl (hb hby d48_50) (XS.goto X8.here hx rfl (pc0 := 51) (pc' := 55) rfl (hb hby d48_51) (by decide) (by decide) kK))) ?_
 refine OwnEnd.ret X8 (v := (some (.int (nar .boolean (1 : Int32))))) (fun h => by rw [Bd.returns] at h; cases h) hlk (fun fs hr => retN X8 hx (t := .boolean) Bd.returns (by simp) (hb hby d48_55) hr) (by decide) (by decide) (Q := (own_Qint (1 : Int32)) h0 n0) eh8 ?_
 exact ⟨rfl, N8, rfl⟩

theorem own_efbk (m : MethodId) (c : Int32) : entryFrame m #[(.int c)] 1 = mkF m 0 #[vI c] [] := by first | (simp [entryFrame, mkF, argsToLocals, Value.category]; done) | rfl
set_option maxRecDepth 65536 in
set_option maxHeartbeats 40000000 in
theorem rmbk (l : Launch) (Z : State) (a0 : Array Value) (G : OwnG Z a0) (ws : List Jvm.Cond) (c : Int32) (h0 : Heap) (n0 : Nat) (O0 : Old Z n0 h0)  :
  MetFree l own_m52 (head1 (Jvm.Cond.code own_m52 B59 1 (some .boolean) :: ws) (rR 0 0 0 0)) (fun a U => a = #[(.int c)] ∧ Z.Warmed39 U.vm ∧ U.heap = h0) (fun _ _ _ _ _ => True) (fun _ U o U' => ∃ v L, o = .returned v ∧ (own_Qint (own_blank c)) h0 n0 v U'.heap L ∧ FrameEnd U o U' L (rR 0 0 0 0).cells (rR 0 0 0 0).slots) := by
 refine MetFree.of_bodySF (plainFor_of_name pn_11) hisR ?_
 intro p e s m args below meth cD s₁ Bd hml0 hP hK
 obtain ⟨rfl, hZ, hh⟩ := hP
 have hml : cD.maxLocals = 1 := hml0
 obtain ⟨hx, hby, (hown : s.vm.findClass j7 = some m.cls), hlk, X0, e0⟩ := own_st Bd hh
 have Z0 := own_old_le O0
 have N0 := Fr.nil n0
 refine OwnEnd.start (g' := (mkF m 0 #[vI c] [])) (own_efbk m c) ?_
 refine oo (S' := s₁.setTop (mkF m 3 #[vI c] [(.int 32), (.int c)])) (fun _ kK => XS.iloadN X0.here hx rfl (hb hby d49_0) rfl (XS.bipush X0.here hx rfl (hb hby d49_1) kK)) ?_
 rcases Decidable.em (c = (32 : Int32)) with hc1 | hc1
 ·refine oo (S' := s₁.setTop (mkF m 17 #[vI c] [(.int 1)])) (fun _ kK => XS.icmpYes X0.here hx rfl (pc0 := 3) (pc' := 12) rfl (hb hby d49_3) rfl (teq (hc1)).1 (by decide) (by decide) (XS.iconst X0.here hx rfl (hb hby d49_12) (XS.goto X0.here hx rfl (pc0 := 13) (pc' := 17) rfl (hb hby d49_13) (by decide) (by decide) kK))) ?_
  refine OwnEnd.ret X0 (v := (some (.int (nar .boolean (1 : Int32))))) (fun h => by rw [Bd.returns] at h; cases h) hlk (fun fs hr => retN X0 hx (t := .boolean) Bd.returns (by simp) (hb hby d49_17) hr) (by decide) (by decide) (Q := (own_Qint (own_blank c)) h0 n0) e0 ?_
  exact ⟨(by show some (Value.int (nar .boolean (1 : Int32))) = _; simp [own_blank, nar, hc1]), N0, rfl⟩
 ·refine oo (S' := s₁.setTop (mkF m 9 #[vI c] [(.int 9), (.int c)])) (fun _ kK => XS.icmpNo X0.here hx rfl (hb hby d49_3) rfl (feq (hc1)).1 (XS.iloadN X0.here hx rfl (hb hby d49_6) rfl (XS.bipush X0.here hx rfl (hb hby d49_7) kK))) ?_
  rcases Decidable.em (c = (9 : Int32)) with hc2 | hc2
  ·refine oo (S' := s₁.setTop (mkF m 17 #[vI c] [(.int 1)])) (fun _ kK => XS.icmpNo X0.here hx rfl (hb hby d49_9) rfl (teq (hc2)).2 (XS.iconst X0.here hx rfl (hb hby d49_12) (XS.goto X0.here hx rfl (pc0 := 13) (pc' := 17) rfl (hb hby d49_13) (by decide) (by decide) kK))) ?_
   refine OwnEnd.ret X0 (v := (some (.int (nar .boolean (1 : Int32))))) (fun h => by rw [Bd.returns] at h; cases h) hlk (fun fs hr => retN X0 hx (t := .boolean) Bd.returns (by simp) (hb hby d49_17) hr) (by decide) (by decide) (Q := (own_Qint (own_blank c)) h0 n0) e0 ?_
   exact ⟨(by show some (Value.int (nar .boolean (1 : Int32))) = _; simp [own_blank, nar, hc1, hc2]), N0, rfl⟩
  ·refine oo (S' := s₁.setTop (mkF m 17 #[vI c] [(.int 0)])) (fun _ kK => XS.icmpYes X0.here hx rfl (pc0 := 9) (pc' := 16) rfl (hb hby d49_9) rfl (feq (hc2)).2 (by decide) (by decide) (XS.iconst X0.here hx rfl (hb hby d49_16) kK)) ?_
   refine OwnEnd.ret X0 (v := (some (.int (nar .boolean (0 : Int32))))) (fun h => by rw [Bd.returns] at h; cases h) hlk (fun fs hr => retN X0 hx (t := .boolean) Bd.returns (by simp) (hb hby d49_17) hr) (by decide) (by decide) (Q := (own_Qint (own_blank c)) h0 n0) e0 ?_
   exact ⟨(by show some (Value.int (nar .boolean (0 : Int32))) = _; simp [own_blank, nar, hc1, hc2]), N0, rfl⟩

def own_Qlaw (h0 : Heap) (n0 : Nat) (v : Option Value) (h : Heap) (L : List Loc) : Prop := v = some (.int 1) ∧ Fr n0 L ∧ Keep h0 h []

def own_pick (Z : State) (h : Heap) (lst : Addr) (vx : List Value) (ix n : Int32) : Prop := ¬ ix < n ∨ (¬ ix < (0 : Int32) ∧ ix < (3 : Int32) ∧ ix < n ∧ ∃ (ar : Addr) (kA : ClassId) (vs : List Value) (ea : Addr) (et : Addr) (ek : ClassId) (y : Addr) (yt : Addr) (yk : ClassId) (tc : Int32), Fld Z h lst j2 "elementData" "[Ljava/lang/Object;" (.ref ar) ∧ Arv Z h ar kA (.object j4) (10 : Int32) vs .null ∧ vx.getD ix.toNatClampNeg .null = .ref ea ∧ vs.getD ix.toNatClampNeg .null = .ref y ∧ Exa Z h ea j1 ∧ Fld Z h ea j1 "value" "[B" (.ref et) ∧ Fld Z h ea j1 "coder" "B" (.int 0) ∧ Arv Z h et ek .byte (1 : Int32) [(.int (StrChars.lo8 tc))] (.int 0) ∧ Exa Z h y j1 ∧ Fld Z h y j1 "value" "[B" (.ref yt) ∧ Fld Z h y j1 "coder" "B" (.int 0) ∧ Arv Z h yt yk .byte (1 : Int32) [(.int (StrChars.lo8 tc))] (.int 0) ∧ ea ≠ y)
theorem own_310 {x : Int32} (h : x < (3 : Int32)) : x < (10 : Int32) := by
 rw [Int32.lt_iff_toInt_lt] at h ⊢
 have e1 : (3 : Int32).toInt = 3 := rfl
 have e2 : (10 : Int32).toInt = 10 := rfl
 omega

set_option maxRecDepth 65536 in
set_option maxHeartbeats 40000000 in
theorem sfb (l : Launch) (Z : State) (a0 : Array Value) (G : OwnG Z a0) (p0 : Int32) (p1 : Int32) (p2 : Int32) (p3 : Int32) (p4 : Int32) (p5 : Int32) (h0 : Heap) (n0 : Nat) (O0 : Old Z n0 h0)  {p : Program} {e : Env} {s : State} {m : MethodId} {below : List Frame} {meth : Method} {cD : Code} {s₁ : State} {Sp : Spec} (Bd : BodyLoose p l x Sp code maxLocals ret e s m #[(.int p0), (.int p1), (.int p2), (.int p3), (.int p4), (.int p5)] below meth cD s₁) (hml0 : cD.maxLocals = maxLocals) (hZ : Z.Warmed39 s.vm) {TJ : State} {locs : List Loc} (XJ : Stand p l e room_1 s m #[(.int p0), (.int p1), (.int p2), (.int p3), (.int p4), (.int p5)] below meth cD TJ locs 50 200) (hJ : Heap) (eJ : TJ.heap = hJ) (KJ : Keep h0 hJ []) (OJ : Old Z n0 hJ) (NJ : Fr n0 locs) (szJ : Array.size h0 ≤ Array.size hJ) (xt : Addr) (lst : Addr) (cb : Addr) (xp : Addr) (kx : ClassId) (tkn : Int32) (n : Int32) (ps : Int32) (vx : List Value) (c0 : Int32) (c1 : Int32) (c2 : Int32) (s0 : Int32) (s1 : Int32) (J0 : Exa Z hJ xt j3) (J1 : Fld Z hJ xt j3 "tokens" "Ljava/util/List;" (.ref lst)) (J2 : Fld Z hJ xt j3 "next" "I" (.int ps)) (J3 : Exa Z hJ lst j2) (J4 : Fld Z hJ lst j2 "size" "I" (.int n)) (J5 : Arv Z hJ xp kx (.object j1) (3 : Int32) vx .null) (J6 : own_pick Z hJ lst vx (ps + (p5 &&& (7 : Int32))) n) :
  OwnEnd p e below (fun o t => ∃ v L, o = .returned v ∧ own_Qlaw h0 n0 v t.heap L ∧ FrameEnd s o t L room_1.cells room_1.slots) (TJ.setTop (mkF m 263 #[vI p0, vI p1, vI p2, vI p3, vI p4, vI p5, vI c0, vI c1, vI c2, vI s0, vI s1, vR cb, vR xp, vI n, vR xt, vI tkn, vI ps, .unset, .unset, .unset, .unset, .unset] [])) := by
 have hx := Bd.exec
 have hby := Bd.bytes
 have hml : cD.maxLocals = 22 := hml0
 have hown : s.vm.findClass j7 = some m.cls := findClass_of_methodNamed Bd.named
 have hlk := Bd.notSynchronized
 have ltJ0 := lN J0.lt
 have ltJ1 := lN J1.lt
 have ltJ2 := lN J2.lt
 have ltJ3 := lN J3.lt
 have ltJ4 := lN J4.lt
 have ltJ5 := lN J5.lt
 have Z0 := own_old_le O0
 rcases J6 with hr | ⟨g0, g3, hr, ar, kA, vs, ea, et, ek, y, yt, yk, tc, F0, F1, F2, F3, F4, F5, F6, F7, F8, F9, F10, F11, Fne⟩
 ·let lv1 : Array Slot := #[vI p0, vI p1, vI p2, vI p3, vI p4, vI p5, vI c0, vI c1, vI c2, vI s0, vI s1, vR cb, vR xp, vI n, vR xt, vI tkn, vI ps, .unset, .unset, .unset, .unset, .unset]
  let lv2 : Array Slot := #[vI p0, vI p1, vI p2, vI p3, vI p4, vI p5, vI c0, vI c1, vI c2, vI s0, vI s1, vR cb, vR xp, vI n, vR xt, vI tkn, vI ps, vI (p5 &&& (7 : Int32)), .unset, .unset, .unset, .unset]
  let lv3 : Array Slot := #[vI p0, vI p1, vI p2, vI p3, vI p4, vI p5, vI c0, vI c1, vI c2, vI s0, vI s1, vR cb, vR xp, vI n, vR xt, vI tkn, vI ps, vI (p5 &&& (7 : Int32)), vI (ps + (p5 &&& (7 : Int32))), .unset, .unset, .unset]
  let lv4 : Array Slot := #[vI p0, vI p1, vI p2, vI p3, vI p4, vI p5, vI c0, vI c1, vI c2, vI s0, vI s1, vR cb, vR xp, vI n, vR xt, vI tkn, vI ps, vI (p5 &&& (7 : Int32)), vI (ps + (p5 &&& (7 : Int32))), .val .null, .unset, .unset]
  refine oo (S' := TJ.setTop (mkF m 299 lv4 [(.int (p5 &&& (7 : Int32))), (.ref xt)])) (fun _ kK => XS.iload XJ.here hx rfl (hb hby at_263) rfl (XS.bipush XJ.here hx rfl (hb hby at_265) (XS.iand XJ.here hx rfl (hb hby at_267) rfl (XS.istore XJ.here hx rfl (hb hby at_268) rfl (l' := lv2) rfl (XS.iload XJ.here hx rfl (hb hby at_270) rfl (XS.iload XJ.here hx rfl (hb hby at_272) rfl (XS.iadd XJ.here hx rfl (hb hby at_274) rfl (XS.istore XJ.here hx rfl (hb hby at_275) rfl (l' := lv3) rfl (XS.iload XJ.here hx rfl (hb hby at_277) rfl (XS.iload XJ.here hx rfl (hb hby at_279) rfl (XS.icmpYes XJ.here hx rfl (pc0 := 281) (pc' := 292) rfl (hb hby at_281) rfl (flt (hr)).2.1 (by decide) (by decide) (XS.aconstNull XJ.here hx rfl (hb hby at_292) (XS.astore XJ.here hx rfl (hb hby at_293) rfl rfl (l' := lv4) rfl (XS.aload XJ.here hx rfl (hb hby at_295) rfl rfl (XS.iload XJ.here hx rfl (hb hby at_297) rfl kK))))))))))))))) ?_
  obtain ⟨cq5, kq5, q5a, q5b, q5c⟩ := isOf hZ eJ J0
  obtain ⟨_, _, ⟨T5, L5, k5, n5⟩, -, X5, ⟨Lc5, hQ5, l5, y5, z5⟩, st5⟩ := XJ.virtualBack hx (y := own_m49) (z := own_m49) hown (mvT hZ (w_ G 251 rfl)) (mvT hZ (w_ G 252 rfl)) (notFace_of_selects (args := #[]) (mvT hZ (w_ G 254 rfl))) (mvT hZ (w_ G 254 rfl)) (mvT hZ (w_ G 253 rfl)) (by decide) (backOf (W := 0) (rmpkn l Z a0 G [] xt lst ps n (p5 &&& (7 : Int32)) hJ n0 OJ J2 J1 J3 J4 hr) hZ (w_ G 255 rfl) (w_ G 35 rfl) (by decide) (by decide)) q5a q5c (g := (mkF m 299 lv4 [(.int (p5 &&& (7 : Int32))), (.ref xt)])) rfl (by rw [hml]; rfl) (Steps.refl _) (argsL := [(.int (p5 &&& (7 : Int32)))]) (rest := []) (lenOf pd_27 rfl) rfl (own_z rfl) (hb hby at_299) (fun _ _ => ⟨rfl, eJ, (ol rfl), (ol rfl)⟩)
  dsimp only [Pt.U, Pt.locs, Pt.cells, Pt.slots] at X5 l5 y5 z5 st5 hQ5
  subst l5 y5 z5
  obtain ⟨rfl, N5q, eh5⟩ := hQ5
  have N5 := Fr.app NJ N5q
  refine ot (S' := T5.setTop (mkF m 302 lv4 [.null])) st5 ?_
  let lv6 : Array Slot := #[vI p0, vI p1, vI p2, vI p3, vI p4, vI p5, vI c0, vI c1, vI c2, vI s0, vI s1, vR cb, vR xp, vI n, vR xt, vI tkn, vI ps, vI (p5 &&& (7 : Int32)), vI (ps + (p5 &&& (7 : Int32))), .val .null, .val .null, .unset]
  let lv7 : Array Slot := #[vI p0, vI p1, vI p2, vI p3, vI p4, vI p5, vI c0, vI c1, vI c2, vI s0, vI s1, vR cb, vR xp, vI n, vR xt, vI tkn, vI ps, vI (p5 &&& (7 : Int32)), vI (ps + (p5 &&& (7 : Int32))), .val .null, .val .null, vI 1]
  refine oo (S' := T5.setTop (mkF m 338 lv7 [(.ref xt)])) (fun _ kK => XS.astore X5.here hx rfl (hb hby at_302) rfl rfl (l' := lv6) rfl (XS.aload X5.here hx rfl (hb hby at_304) rfl rfl (XS.ifnonnullNo X5.here hx rfl (hb hby at_306) rfl (XS.aload X5.here hx rfl (hb hby at_309) rfl rfl (XS.ifnonnullNo X5.here hx rfl (hb hby at_311) rfl (XS.iconst X5.here hx rfl (hb hby at_314) (XS.goto X5.here hx rfl (pc0 := 315) (pc' := 329) rfl (hb hby at_315) (by decide) (by decide) (XS.istore X5.here hx rfl (hb hby at_329) rfl (l' := lv7) rfl (XS.iload X5.here hx rfl (hb hby at_331) rfl (XS.ifNo X5.here hx rfl (hb hby at_333) rfl ((if0 _ _).trans (feq ((by decide : ¬ ((1 : Int32) = (0 : Int32))))).1) (XS.aload X5.here hx rfl (hb hby at_336) rfl rfl kK))))))))))) ?_
  obtain ⟨cq8, kq8, q8a, q8b, q8c⟩ := isOf hZ eh5 J0
  obtain ⟨_, _, ⟨T8, L8, k8, n8⟩, -, X8, ⟨Lc8, hQ8, l8, y8, z8⟩, st8⟩ := X5.virtualBack hx (y := own_m48) (z := own_m48) hown (mvT hZ (w_ G 266 rfl)) (mvT hZ (w_ G 267 rfl)) (notFace_of_selects (args := #[]) (mvT hZ (w_ G 269 rfl))) (mvT hZ (w_ G 269 rfl)) (mvT hZ (w_ G 268 rfl)) (by decide) (backOf (W := 0) (rmpo l Z a0 G [] xt ps hJ n0 OJ J2) hZ (w_ G 270 rfl) (w_ G 35 rfl) (by decide) (by decide)) q8a q8c (g := (mkF m 338 lv7 [(.ref xt)])) rfl (by rw [hml]; rfl) (Steps.refl _) (argsL := []) (rest := []) (lenOf pd_8 rfl) rfl (own_z rfl) (hb hby at_338) (fun _ _ => ⟨rfl, eh5, (ol rfl), (ol rfl)⟩)
  dsimp only [Pt.U, Pt.locs, Pt.cells, Pt.slots] at X8 l8 y8 z8 st8 hQ8
  subst l8 y8 z8
  obtain ⟨rfl, N8q, eh8⟩ := hQ8
  have N8 := Fr.app N5 N8q
  refine ot (S' := T8.setTop (mkF m 341 lv7 [(.int ps)])) st8 ?_
  refine oo (S' := T8.setTop (mkF m 351 lv7 [(.int 1)])) (fun _ kK => XS.iload X8.here hx rfl (hb hby at_341) rfl (XS.icmpNo X8.here hx rfl (hb hby at_343) rfl (teq (rfl)).2 (XS.iconst X8.here hx rfl (hb hby at_346) (XS.goto X8.here hx rfl (pc0 := 347) (pc' := 351) rfl (hb hby at_347) (by decide) (by decide) kK)))) ?_
  refine OwnEnd.ret X8 (v := (some (.int (nar .boolean (1 : Int32))))) (fun h => by rw [Bd.returns] at h; cases h) hlk (fun fs hr => retN X8 hx (t := .boolean) Bd.returns (by simp) (hb hby at_351) hr) (by decide) (by decide) (Q := own_Qlaw h0 n0) eh8 ?_
  exact ⟨rfl, N8, KJ⟩
 ·let lv9 : Array Slot := #[vI p0, vI p1, vI p2, vI p3, vI p4, vI p5, vI c0, vI c1, vI c2, vI s0, vI s1, vR cb, vR xp, vI n, vR xt, vI tkn, vI ps, .unset, .unset, .unset, .unset, .unset]
  let lv10 : Array Slot := #[vI p0, vI p1, vI p2, vI p3, vI p4, vI p5, vI c0, vI c1, vI c2, vI s0, vI s1, vR cb, vR xp, vI n, vR xt, vI tkn, vI ps, vI (p5 &&& (7 : Int32)), .unset, .unset, .unset, .unset]
  let lv11 : Array Slot := #[vI p0, vI p1, vI p2, vI p3, vI p4, vI p5, vI c0, vI c1, vI c2, vI s0, vI s1, vR cb, vR xp, vI n, vR xt, vI tkn, vI ps, vI (p5 &&& (7 : Int32)), vI (ps + (p5 &&& (7 : Int32))), .unset, .unset, .unset]
  refine oo (S' := TJ.setTop (mkF m 288 lv11 [(.int (ps + (p5 &&& (7 : Int32)))), (.ref xp)])) (fun _ kK => XS.iload XJ.here hx rfl (hb hby at_263) rfl (XS.bipush XJ.here hx rfl (hb hby at_265) (XS.iand XJ.here hx rfl (hb hby at_267) rfl (XS.istore XJ.here hx rfl (hb hby at_268) rfl (l' := lv10) rfl (XS.iload XJ.here hx rfl (hb hby at_270) rfl (XS.iload XJ.here hx rfl (hb hby at_272) rfl (XS.iadd XJ.here hx rfl (hb hby at_274) rfl (XS.istore XJ.here hx rfl (hb hby at_275) rfl (l' := lv11) rfl (XS.iload XJ.here hx rfl (hb hby at_277) rfl (XS.iload XJ.here hx rfl (hb hby at_279) rfl (XS.icmpNo XJ.here hx rfl (hb hby at_281) rfl (tlt (hr)).2.1 (XS.aload XJ.here hx rfl (hb hby at_284) rfl rfl (XS.iload XJ.here hx rfl (hb hby at_286) rfl kK))))))))))))) ?_
  obtain ⟨cl12, Ar12, q12, S12, N12', H12, G12⟩ := id J5
  have hin13 : ¬ ((ps + (p5 &&& (7 : Int32))) < 0 ∨ cl12.slots.size ≤ ((ps + (p5 &&& (7 : Int32)))).toNatClampNeg) := inb_of S12 ⟨g0, g3⟩
  refine oo (S' := TJ.setTop (mkF m 289 lv11 [(.ref ea)])) (fun _ kK => XJ.aaload hx (j := (ps + (p5 &&& (7 : Int32)))) (v := (.ref ea)) (by rw [eJ]; exact Ar12.1) (State.isArrayOf_alike hZ.alike Ar12.2.1) rfl Ar12.2.2 hin13 (Has.at H12 hin13 (F2)) (g := (mkF m 288 lv11 [(.int (ps + (p5 &&& (7 : Int32)))), (.ref xp)])) rfl rfl (hb hby at_288) _ kK) ?_
  let lv14 : Array Slot := #[vI p0, vI p1, vI p2, vI p3, vI p4, vI p5, vI c0, vI c1, vI c2, vI s0, vI s1, vR cb, vR xp, vI n, vR xt, vI tkn, vI ps, vI (p5 &&& (7 : Int32)), vI (ps + (p5 &&& (7 : Int32))), vR ea, .unset, .unset]
  refine oo (S' := TJ.setTop (mkF m 299 lv14 [(.int (p5 &&& (7 : Int32))), (.ref xt)])) (fun _ kK => XS.goto XJ.here hx rfl (pc0 := 289) (pc' := 293) rfl (hb hby at_289) (by decide) (by decide) (XS.astore XJ.here hx rfl (hb hby at_293) rfl rfl (l' := lv14) rfl (XS.aload XJ.here hx rfl (hb hby at_295) rfl rfl (XS.iload XJ.here hx rfl (hb hby at_297) rfl kK)))) ?_
  obtain ⟨cq15, kq15, q15a, q15b, q15c⟩ := isOf hZ eJ J0
  obtain ⟨_, _, ⟨T15, L15, k15, n15⟩, -, X15, ⟨Lc15, hQ15, l15, y15, z15⟩, st15⟩ := XJ.virtualBack hx (y := own_m49) (z := own_m49) hown (mvT hZ (w_ G 251 rfl)) (mvT hZ (w_ G 252 rfl)) (notFace_of_selects (args := #[]) (mvT hZ (w_ G 254 rfl))) (mvT hZ (w_ G 254 rfl)) (mvT hZ (w_ G 253 rfl)) (by decide) (backOf (W := 0) (rmpke l Z a0 G [] xt lst ps n (p5 &&& (7 : Int32)) ar kA vs y hJ n0 OJ J2 J1 J3 J4 F0 F1 g0 hr (own_310 g3) F3 F8) hZ (w_ G 255 rfl) (w_ G 35 rfl) (by decide) (by decide)) q15a q15c (g := (mkF m 299 lv14 [(.int (p5 &&& (7 : Int32))), (.ref xt)])) rfl (by rw [hml]; rfl) (Steps.refl _) (argsL := [(.int (p5 &&& (7 : Int32)))]) (rest := []) (lenOf pd_27 rfl) rfl (own_z rfl) (hb hby at_299) (fun _ _ => ⟨rfl, eJ, (ol rfl), (ol rfl)⟩)
  dsimp only [Pt.U, Pt.locs, Pt.cells, Pt.slots] at X15 l15 y15 z15 st15 hQ15
  subst l15 y15 z15
  obtain ⟨rfl, N15q, eh15⟩ := hQ15
  have N15 := Fr.app NJ N15q
  refine ot (S' := T15.setTop (mkF m 302 lv14 [(.ref y)])) st15 ?_
  let lv16 : Array Slot := #[vI p0, vI p1, vI p2, vI p3, vI p4, vI p5, vI c0, vI c1, vI c2, vI s0, vI s1, vR cb, vR xp, vI n, vR xt, vI tkn, vI ps, vI (p5 &&& (7 : Int32)), vI (ps + (p5 &&& (7 : Int32))), vR ea, vR y, .unset]
  refine oo (S' := T15.setTop (mkF m 326 lv16 [(.ref y), (.ref ea)])) (fun _ kK => XS.astore X15.here hx rfl (hb hby at_302) rfl rfl (l' := lv16) rfl (XS.aload X15.here hx rfl (hb hby at_304) rfl rfl (XS.ifnonnullYes X15.here hx rfl (pc0 := 306) (pc' := 322) rfl (hb hby at_306) rfl (by decide) (by decide) (XS.aload X15.here hx rfl (hb hby at_322) rfl rfl (XS.aload X15.here hx rfl (hb hby at_324) rfl rfl kK))))) ?_
  obtain ⟨cq17, kq17, q17a, q17b, q17c⟩ := isOf hZ eh15 F4
  obtain ⟨_, _, ⟨T17, L17, k17, n17⟩, -, X17, ⟨Lc17, hQ17, l17, y17, z17⟩, st17⟩ := X15.virtualBack hx (y := own_m51) (z := own_m51) hown (mvT hZ (w_ G 290 rfl)) (mvT hZ (w_ G 291 rfl)) (notFace_of_selects (args := #[]) (mvT hZ (w_ G 293 rfl))) (mvT hZ (w_ G 293 rfl)) (mvT hZ (w_ G 292 rfl)) (by decide) (backOf (W := 0) (rmeqs l Z a0 G [] ea et ek y yt yk (StrChars.lo8 tc) hJ n0 OJ F4 F5 F6 F7 F8 F9 F10 F11 (Fne)) hZ (w_ G 294 rfl) (w_ G 9 rfl) (by decide) (by decide)) q17a q17c (g := (mkF m 326 lv16 [(.ref y), (.ref ea)])) rfl (by rw [hml]; rfl) (Steps.refl _) (argsL := [(.ref y)]) (rest := []) (lenOf pd_22 rfl) rfl (own_z rfl) (hb hby at_326) (fun _ _ => ⟨rfl, eh15, (ol rfl), (ol rfl)⟩)
  dsimp only [Pt.U, Pt.locs, Pt.cells, Pt.slots] at X17 l17 y17 z17 st17 hQ17
  subst l17 y17 z17
  obtain ⟨rfl, N17q, eh17⟩ := hQ17
  have N17 := Fr.app N15 N17q
  refine ot (S' := T17.setTop (mkF m 329 lv16 [(.int 1)])) st17 ?_
  let lv18 : Array Slot := #[vI p0, vI p1, vI p2, vI p3, vI p4, vI p5, vI c0, vI c1, vI c2, vI s0, vI s1, vR cb, vR xp, vI n, vR xt, vI tkn, vI ps, vI (p5 &&& (7 : Int32)), vI (ps + (p5 &&& (7 : Int32))), vR ea, vR y, vI 1]
  refine oo (S' := T17.setTop (mkF m 338 lv18 [(.ref xt)])) (fun _ kK => XS.istore X17.here hx rfl (hb hby at_329) rfl (l' := lv18) rfl (XS.iload X17.here hx rfl (hb hby at_331) rfl (XS.ifNo X17.here hx rfl (hb hby at_333) rfl ((if0 _ _).trans (feq ((by decide : ¬ ((1 : Int32) = (0 : Int32))))).1) (XS.aload X17.here hx rfl (hb hby at_336) rfl rfl kK)))) ?_
  obtain ⟨cq19, kq19, q19a, q19b, q19c⟩ := isOf hZ eh17 J0
  obtain ⟨_, _, ⟨T19, L19, k19, n19⟩, -, X19, ⟨Lc19, hQ19, l19, y19, z19⟩, st19⟩ := X17.virtualBack hx (y := own_m48) (z := own_m48) hown (mvT hZ (w_ G 266 rfl)) (mvT hZ (w_ G 267 rfl)) (notFace_of_selects (args := #[]) (mvT hZ (w_ G 269 rfl))) (mvT hZ (w_ G 269 rfl)) (mvT hZ (w_ G 268 rfl)) (by decide) (backOf (W := 0) (rmpo l Z a0 G [] xt ps hJ n0 OJ J2) hZ (w_ G 270 rfl) (w_ G 35 rfl) (by decide) (by decide)) q19a q19c (g := (mkF m 338 lv18 [(.ref xt)])) rfl (by rw [hml]; rfl) (Steps.refl _) (argsL := []) (rest := []) (lenOf pd_8 rfl) rfl (own_z rfl) (hb hby at_338) (fun _ _ => ⟨rfl, eh17, (ol rfl), (ol rfl)⟩)
  dsimp only [Pt.U, Pt.locs, Pt.cells, Pt.slots] at X19 l19 y19 z19 st19 hQ19
  subst l19 y19 z19
  obtain ⟨rfl, N19q, eh19⟩ := hQ19
  have N19 := Fr.app N17 N19q
  refine ot (S' := T19.setTop (mkF m 341 lv18 [(.int ps)])) st19 ?_
  refine oo (S' := T19.setTop (mkF m 351 lv18 [(.int 1)])) (fun _ kK => XS.iload X19.here hx rfl (hb hby at_341) rfl (XS.icmpNo X19.here hx rfl (hb hby at_343) rfl (teq (rfl)).2 (XS.iconst X19.here hx rfl (hb hby at_346) (XS.goto X19.here hx rfl (pc0 := 347) (pc' := 351) rfl (hb hby at_347) (by decide) (by decide) kK)))) ?_
  refine OwnEnd.ret X19 (v := (some (.int (nar .boolean (1 : Int32))))) (fun h => by rw [Bd.returns] at h; cases h) hlk (fun fs hr => retN X19 hx (t := .boolean) Bd.returns (by simp) (hb hby at_351) hr) (by decide) (by decide) (Q := own_Qlaw h0 n0) eh19 ?_
  exact ⟨rfl, N19, KJ⟩

theorem own_efmin0_0 (m : MethodId) : entryFrame m #[(.int 0), (.int 0)] 2 = mkF m 0 #[vI 0, vI 0] [] := by first | (simp [entryFrame, mkF, argsToLocals, Value.category]; done) | rfl
set_option maxRecDepth 65536 in
set_option maxHeartbeats 40000000 in
theorem rmmin0_0 (l : Launch) (Z : State) (a0 : Array Value) (G : OwnG Z a0) (ws : List Jvm.Cond)  (h0 : Heap) (n0 : Nat) (O0 : Old Z n0 h0)  :
  MetFree l own_m18 (head1 (Jvm.Cond.code own_m18 B28 2 (some .int) :: ws) (rR 0 0 0 0)) (fun a U => a = #[(.int 0), (.int 0)] ∧ Z.Warmed39 U.vm ∧ U.heap = h0) (fun _ _ _ _ _ => True) (fun _ U o U' => ∃ v L, o = .returned v ∧ (own_Qint (0 : Int32)) h0 n0 v U'.heap L ∧ FrameEnd U o U' L (rR 0 0 0 0).cells (rR 0 0 0 0).slots) := by
 refine MetFree.of_bodySF (Jvm.Free.JP.mathPlain rfl (by decide +kernel)) hisR ?_
 intro p e s m args below meth cD s₁ Bd hml0 hP hK
 obtain ⟨rfl, hZ, hh⟩ := hP
 have hml : cD.maxLocals = 2 := hml0
 obtain ⟨hx, hby, (hown : s.vm.findClass j8 = some m.cls), hlk, X0, e0⟩ := own_st Bd hh
 have Z0 := own_old_le O0
 have N0 := Fr.nil n0
 refine OwnEnd.start (g' := (mkF m 0 #[vI 0, vI 0] [])) (own_efmin0_0 m ) ?_
 refine oo (S' := s₁.setTop (mkF m 10 #[vI 0, vI 0] [(.int 0)])) (fun _ kK => XS.iloadN X0.here hx rfl (hb hby d19_0) rfl (XS.iloadN X0.here hx rfl (hb hby d19_1) rfl (XS.icmpNo X0.here hx rfl (hb hby d19_2) rfl (flt ((by decide : ¬ ((0 : Int32) < (0 : Int32))))).2.2.1 (XS.iloadN X0.here hx rfl (hb hby d19_5) rfl (XS.goto X0.here hx rfl (pc0 := 6) (pc' := 10) rfl (hb hby d19_6) (by decide) (by decide) kK))))) ?_
 refine OwnEnd.ret X0 (v := (some (.int 0))) (fun h => by rw [Bd.returns] at h; cases h) hlk (fun fs hr => retOut X0 hx Bd.returns rfl (Or.inl ⟨rfl, Or.inl rfl, _, rfl⟩) (hb hby d19_10) hr) (by decide) (by decide) (Q := (own_Qint (0 : Int32)) h0 n0) e0 ?_
 exact ⟨rfl, N0, rfl⟩

theorem own_efmin1_0 (m : MethodId) : entryFrame m #[(.int 1), (.int 0)] 2 = mkF m 0 #[vI 1, vI 0] [] := by first | (simp [entryFrame, mkF, argsToLocals, Value.category]; done) | rfl
set_option maxRecDepth 65536 in
set_option maxHeartbeats 40000000 in
theorem rmmin1_0 (l : Launch) (Z : State) (a0 : Array Value) (G : OwnG Z a0) (ws : List Jvm.Cond)  (h0 : Heap) (n0 : Nat) (O0 : Old Z n0 h0)  :
  MetFree l own_m18 (head1 (Jvm.Cond.code own_m18 B28 2 (some .int) :: ws) (rR 0 0 0 0)) (fun a U => a = #[(.int 1), (.int 0)] ∧ Z.Warmed39 U.vm ∧ U.heap = h0) (fun _ _ _ _ _ => True) (fun _ U o U' => ∃ v L, o = .returned v ∧ (own_Qint (0 : Int32)) h0 n0 v U'.heap L ∧ FrameEnd U o U' L (rR 0 0 0 0).cells (rR 0 0 0 0).slots) := by
 refine MetFree.of_bodySF (Jvm.Free.JP.mathPlain rfl (by decide +kernel)) hisR ?_
 intro p e s m args below meth cD s₁ Bd hml0 hP hK
 obtain ⟨rfl, hZ, hh⟩ := hP
 have hml : cD.maxLocals = 2 := hml0
 obtain ⟨hx, hby, (hown : s.vm.findClass j8 = some m.cls), hlk, X0, e0⟩ := own_st Bd hh
 have Z0 := own_old_le O0
 have N0 := Fr.nil n0
 refine OwnEnd.start (g' := (mkF m 0 #[vI 1, vI 0] [])) (own_efmin1_0 m ) ?_
 refine oo (S' := s₁.setTop (mkF m 10 #[vI 1, vI 0] [(.int 0)])) (fun _ kK => XS.iloadN X0.here hx rfl (hb hby d19_0) rfl (XS.iloadN X0.here hx rfl (hb hby d19_1) rfl (XS.icmpYes X0.here hx rfl (pc0 := 2) (pc' := 9) rfl (hb hby d19_2) rfl (tlt ((by decide : (0 : Int32) < (1 : Int32)))).2.2.1 (by decide) (by decide) (XS.iloadN X0.here hx rfl (hb hby d19_9) rfl kK)))) ?_
 refine OwnEnd.ret X0 (v := (some (.int 0))) (fun h => by rw [Bd.returns] at h; cases h) hlk (fun fs hr => retOut X0 hx Bd.returns rfl (Or.inl ⟨rfl, Or.inl rfl, _, rfl⟩) (hb hby d19_10) hr) (by decide) (by decide) (Q := (own_Qint (0 : Int32)) h0 n0) e0 ?_
 exact ⟨rfl, N0, rfl⟩

theorem own_efmin2_0 (m : MethodId) : entryFrame m #[(.int 2), (.int 0)] 2 = mkF m 0 #[vI 2, vI 0] [] := by first | (simp [entryFrame, mkF, argsToLocals, Value.category]; done) | rfl
set_option maxRecDepth 65536 in
set_option maxHeartbeats 40000000 in
theorem rmmin2_0 (l : Launch) (Z : State) (a0 : Array Value) (G : OwnG Z a0) (ws : List Jvm.Cond)  (h0 : Heap) (n0 : Nat) (O0 : Old Z n0 h0)  :
  MetFree l own_m18 (head1 (Jvm.Cond.code own_m18 B28 2 (some .int) :: ws) (rR 0 0 0 0)) (fun a U => a = #[(.int 2), (.int 0)] ∧ Z.Warmed39 U.vm ∧ U.heap = h0) (fun _ _ _ _ _ => True) (fun _ U o U' => ∃ v L, o = .returned v ∧ (own_Qint (0 : Int32)) h0 n0 v U'.heap L ∧ FrameEnd U o U' L (rR 0 0 0 0).cells (rR 0 0 0 0).slots) := by
 refine MetFree.of_bodySF (Jvm.Free.JP.mathPlain rfl (by decide +kernel)) hisR ?_
 intro p e s m args below meth cD s₁ Bd hml0 hP hK
 obtain ⟨rfl, hZ, hh⟩ := hP
 have hml : cD.maxLocals = 2 := hml0
 obtain ⟨hx, hby, (hown : s.vm.findClass j8 = some m.cls), hlk, X0, e0⟩ := own_st Bd hh
 have Z0 := own_old_le O0
 have N0 := Fr.nil n0
 refine OwnEnd.start (g' := (mkF m 0 #[vI 2, vI 0] [])) (own_efmin2_0 m ) ?_
 refine oo (S' := s₁.setTop (mkF m 10 #[vI 2, vI 0] [(.int 0)])) (fun _ kK => XS.iloadN X0.here hx rfl (hb hby d19_0) rfl (XS.iloadN X0.here hx rfl (hb hby d19_1) rfl (XS.icmpYes X0.here hx rfl (pc0 := 2) (pc' := 9) rfl (hb hby d19_2) rfl (tlt ((by decide : (0 : Int32) < (2 : Int32)))).2.2.1 (by decide) (by decide) (XS.iloadN X0.here hx rfl (hb hby d19_9) rfl kK)))) ?_
 refine OwnEnd.ret X0 (v := (some (.int 0))) (fun h => by rw [Bd.returns] at h; cases h) hlk (fun fs hr => retOut X0 hx Bd.returns rfl (Or.inl ⟨rfl, Or.inl rfl, _, rfl⟩) (hb hby d19_10) hr) (by decide) (by decide) (Q := (own_Qint (0 : Int32)) h0 n0) e0 ?_
 exact ⟨rfl, N0, rfl⟩

theorem own_efmin3_0 (m : MethodId) : entryFrame m #[(.int 3), (.int 0)] 2 = mkF m 0 #[vI 3, vI 0] [] := by first | (simp [entryFrame, mkF, argsToLocals, Value.category]; done) | rfl
set_option maxRecDepth 65536 in
set_option maxHeartbeats 40000000 in
theorem rmmin3_0 (l : Launch) (Z : State) (a0 : Array Value) (G : OwnG Z a0) (ws : List Jvm.Cond)  (h0 : Heap) (n0 : Nat) (O0 : Old Z n0 h0)  :
  MetFree l own_m18 (head1 (Jvm.Cond.code own_m18 B28 2 (some .int) :: ws) (rR 0 0 0 0)) (fun a U => a = #[(.int 3), (.int 0)] ∧ Z.Warmed39 U.vm ∧ U.heap = h0) (fun _ _ _ _ _ => True) (fun _ U o U' => ∃ v L, o = .returned v ∧ (own_Qint (0 : Int32)) h0 n0 v U'.heap L ∧ FrameEnd U o U' L (rR 0 0 0 0).cells (rR 0 0 0 0).slots) := by
 refine MetFree.of_bodySF (Jvm.Free.JP.mathPlain rfl (by decide +kernel)) hisR ?_
 intro p e s m args below meth cD s₁ Bd hml0 hP hK
 obtain ⟨rfl, hZ, hh⟩ := hP
 have hml : cD.maxLocals = 2 := hml0
 obtain ⟨hx, hby, (hown : s.vm.findClass j8 = some m.cls), hlk, X0, e0⟩ := own_st Bd hh
 have Z0 := own_old_le O0
 have N0 := Fr.nil n0
 refine OwnEnd.start (g' := (mkF m 0 #[vI 3, vI 0] [])) (own_efmin3_0 m ) ?_
 refine oo (S' := s₁.setTop (mkF m 10 #[vI 3, vI 0] [(.int 0)])) (fun _ kK => XS.iloadN X0.here hx rfl (hb hby d19_0) rfl (XS.iloadN X0.here hx rfl (hb hby d19_1) rfl (XS.icmpYes X0.here hx rfl (pc0 := 2) (pc' := 9) rfl (hb hby d19_2) rfl (tlt ((by decide : (0 : Int32) < (3 : Int32)))).2.2.1 (by decide) (by decide) (XS.iloadN X0.here hx rfl (hb hby d19_9) rfl kK)))) ?_
 refine OwnEnd.ret X0 (v := (some (.int 0))) (fun h => by rw [Bd.returns] at h; cases h) hlk (fun fs hr => retOut X0 hx Bd.returns rfl (Or.inl ⟨rfl, Or.inl rfl, _, rfl⟩) (hb hby d19_10) hr) (by decide) (by decide) (Q := (own_Qint (0 : Int32)) h0 n0) e0 ?_
 exact ⟨rfl, N0, rfl⟩

set_option maxRecDepth 65536 in
set_option maxHeartbeats 40000000 in
theorem sfa0 (l : Launch) (Z : State) (a0 : Array Value) (G : OwnG Z a0) (p0 : Int32) (p1 : Int32) (p2 : Int32) (p3 : Int32) (p4 : Int32) (p5 : Int32) (h0 : Heap) (n0 : Nat) (O0 : Old Z n0 h0)  {p : Program} {e : Env} {s : State} {m : MethodId} {below : List Frame} {meth : Method} {cD : Code} {s₁ : State} {Sp : Spec} (Bd : BodyLoose p l x Sp code maxLocals ret e s m #[(.int p0), (.int p1), (.int p2), (.int p3), (.int p4), (.int p5)] below meth cD s₁) (hml0 : cD.maxLocals = maxLocals) (hZ : Z.Warmed39 s.vm) {TJ : State} {locs : List Loc} (XJ : Stand p l e room_1 s m #[(.int p0), (.int p1), (.int p2), (.int p3), (.int p4), (.int p5)] below meth cD TJ locs 12 40) (hJ : Heap) (eJ : TJ.heap = hJ) (KJ : Keep h0 hJ []) (OJ : Old Z n0 hJ) (NJ : Fr n0 locs) (szJ : Array.size h0 ≤ Array.size hJ) (c0 : Int32) (c1 : Int32) (c2 : Int32) (s0 : Int32) (s1 : Int32) (cb : Addr) (kc : ClassId) (xp : Addr) (kx : ClassId) (J0 : Arv Z hJ cb kc .char (5 : Int32) [(.int c0), (.int s0), (.int c1), (.int s1), (.int c2)] (.int 0)) (J1 : Arv Z hJ xp kx (.object j1) (3 : Int32) [.null, .null, .null] .null) (J2 : ∀ c ∈ ([c0, s0, c1, s1, c2] : List Int32), ¬ c < (0 : Int32) ∧ ¬ (255 : Int32) < c) (J3 : s0 = (32 : Int32) ∨ s0 = (9 : Int32)) (J4 : s1 = (32 : Int32) ∨ s1 = (9 : Int32)) (J5 : own_nb [c0, c1, c2] = []) :
  OwnEnd p e below (fun o t => ∃ v L, o = .returned v ∧ own_Qlaw h0 n0 v t.heap L ∧ FrameEnd s o t L room_1.cells room_1.slots) (TJ.setTop (mkF m 170 #[vI p0, vI p1, vI p2, vI p3, vI p4, vI p5, vI c0, vI c1, vI c2, vI s0, vI s1, vR cb, vR xp, vI 0, .unset, .unset, .unset, .unset, .unset, .unset, .unset, .unset] [])) := by
 have hw := G.1
 have hx := Bd.exec
 have hby := Bd.bytes
 have hml : cD.maxLocals = 22 := hml0
 have hown : s.vm.findClass j7 = some m.cls := findClass_of_methodNamed Bd.named
 have hlk := Bd.notSynchronized
 have ltJ0 := lN J0.lt
 have ltJ1 := lN J1.lt
 have Z0 := own_old_le O0
 obtain ⟨zCS, SCS, PCS⟩ := own_cs G
 obtain ⟨aD, kD, SD, AD⟩ := own_dflt G
 have hlat := J2
 let lv2 : Array Slot := #[vI p0, vI p1, vI p2, vI p3, vI p4, vI p5, vI c0, vI c1, vI c2, vI s0, vI s1, vR cb, vR xp, vI 0, .unset, .unset, .unset, .unset, .unset, .unset, .unset, .unset]
 obtain ⟨T1, h1, X1, e1, E1, A1, D1, -, st1⟩ := newO XJ hx hZ hown (w_ G 33 rfl) (w_ G 34 rfl) (w_ G 35 rfl) eJ (g := (mkF m 170 lv2 [])) rfl (hb hby at_170) (by decide) (by decide)
 obtain ⟨b1, g1⟩ : ∃ z, z = Array.size hJ := ⟨_, rfl⟩
 rw [← g1] at A1 D1 st1
 have lt_b1 := lN A1.lt
 have sz3 := E1.1
 have K3 := KJ.ext E1
 have O3 := OJ.ext E1
 have F1_tokens : Fld Z h1 b1 j3 "tokens" "Ljava/util/List;" .null := D1 (Or.inr (w_ G 81 rfl)) (ty := (.object j9)) (by decide)
 have F1_next : Fld Z h1 b1 j3 "next" "I" (.int 0) := D1 (Or.inl (w_ G 257 rfl)) (ty := .int) (by decide)
 refine oo (S' := T1.setTop (mkF m 173 lv2 [(.ref b1)])) st1 ?_
 refine oo (S' := T1.setTop (mkF m 174 lv2 [(.ref b1), (.ref b1)])) (fun _ kK => XS.dup X1.here hx rfl (hb hby at_173) rfl rfl kK) ?_
 obtain ⟨T4, h4, X4, e4, E4, A4, D4, -, st4⟩ := newO X1 hx hZ hown (w_ G 1 rfl) (w_ G 17 rfl) (w_ G 9 rfl) e1 (g := (mkF m 174 lv2 [(.ref b1), (.ref b1)])) rfl (hb hby at_174) (by decide) (by decide)
 obtain ⟨b4, g4⟩ : ∃ z, z = Array.size h1 := ⟨_, rfl⟩
 rw [← g4] at A4 D4 st4
 have lt_b4 := lN A4.lt
 have sz5 := E4.1
 have K5 := K3.ext E4
 have O5 := O3.ext E4
 have F4_value : Fld Z h4 b4 j1 "value" "[B" .null := D4 (Or.inr (w_ G 30 rfl)) (ty := (.array .byte)) (by decide)
 have F4_coder : Fld Z h4 b4 j1 "coder" "B" (.int 0) := D4 (Or.inr (w_ G 32 rfl)) (ty := .byte) (by decide)
 refine oo (S' := T4.setTop (mkF m 177 lv2 [(.ref b4), (.ref b1), (.ref b1)])) st4 ?_
 refine oo (S' := T4.setTop (mkF m 180 lv2 [(.ref cb), (.ref b4), (.ref b4), (.ref b1), (.ref b1)])) (fun _ kK => XS.dup X4.here hx rfl (hb hby at_177) rfl rfl (XS.aload X4.here hx rfl (hb hby at_178) rfl rfl kK)) ?_
 have f6 := ((J0.ext E1).ext E4)
 have hws : ∀ d ∈ StrChars.Road.words, d.before a0 Z = true := fun d hd => hw d (own_words d hd)
 have hp7 : ∀ c ∈ ([c0, s0, c1, s1, c2] : List Int32), ¬ c < 0 ∧ ¬ (255 : Int32) < c := hlat
 obtain ⟨_, _, ⟨T8, L8, k8, n8⟩, -, X8, ⟨Lc8, hQ8, l8, y8, z8⟩, st8⟩ := Jvm.Stand.specialBack X4 hx (y := own_m53) rfl hown (mvT hZ (w_ G 36 rfl)) (mvT hZ (w_ G 37 rfl)) (mvT hZ (w_ G 38 rfl)) (by decide) (StrChars.Road.backV (W := 3) hZ hws (kI := 4) (w_ G 17 rfl) (cs := [c0, s0, c1, s1, c2]) (bs := ([c0, s0, c1, s1, c2] : List Int32).map (fun c => c.toInt8.toInt32)) (n := 5) (n0 := n0) (by omega) (by omega) A4 F4_value F4_coder f6 (SCS.ext O5.2) PCS rfl rfl (by decide) (by decide) hp7 rfl (by decide) (by decide)) (g := (mkF m 180 lv2 [(.ref cb), (.ref b4), (.ref b4), (.ref b1), (.ref b1)])) rfl (by rw [hml]; rfl) (Steps.refl _) (a := b4) (argsL := [(.ref cb)]) (rest := [(.ref b4), (.ref b1), (.ref b1)]) (lenOf pd_28 rfl) rfl (own_z rfl) (hb hby at_180) (fun _ _ => ⟨rfl, e4, (ol rfl), (ol rfl)⟩)
 dsimp only [Pt.U, Pt.locs, Pt.cells, Pt.slots] at X8 l8 y8 z8 st8 hQ8
 subst l8 y8 z8
 obtain ⟨rfl, N8q, Kq8, r8E, r8C, t8, kb8, u8, w8, x8, r8V, r8A⟩ := hQ8
 have N8 := Fr.app NJ N8q
 have sz9 := Kq8.1
 have K9 := K5.trans Kq8 (own_all1 (Or.inr (by omega)))
 have O9 := O5.keep Kq8 (own_all1 (by omega))
 have lt_t8 := lN r8A.lt
 refine ot (S' := T8.setTop (mkF m 183 lv2 [(.ref b4), (.ref b1), (.ref b1)])) st8 ?_
 have f10 := ((A1.ext E4).keep Kq8)
 have f11 := ((F1_tokens.ext E4).keep Kq8 (own_nin1 (on (by omega))))
 have f12 := ((F1_next.ext E4).keep Kq8 (own_nin1 (on (by omega))))
 obtain ⟨_, _, ⟨T13, L13, k13, n13⟩, -, X13, ⟨Lc13, hQ13, l13, y13, z13⟩, st13⟩ := Jvm.Stand.specialBack X8 hx (y := own_m43) rfl hown (mvT hZ (w_ G 52 rfl)) (mvT hZ (w_ G 53 rfl)) (mvT hZ (w_ G 54 rfl)) (by decide) (backOf (W := 1) (rmti l Z a0 G [] b1 b4 t8 kb8 .null c0 s0 c1 s1 c2 aD kD T8.heap n0 O9 f10 f11 f12 (by omega) r8E r8V r8C r8A (on (by omega)) (on (by omega)) J2 J3 J4 SD AD) hZ (w_ G 54 rfl) (w_ G 35 rfl) (by decide) (by decide)) (g := (mkF m 183 lv2 [(.ref b4), (.ref b1), (.ref b1)])) rfl (by rw [hml]; rfl) (Steps.refl _) (a := b1) (argsL := [(.ref b4)]) (rest := [(.ref b1)]) (lenOf pd_29 rfl) rfl (own_z rfl) (hb hby at_183) (fun _ _ => ⟨rfl, rfl, (ol rfl), (ol rfl)⟩)
 dsimp only [Pt.U, Pt.locs, Pt.cells, Pt.slots] at X13 l13 y13 z13 st13 hQ13
 subst l13 y13 z13
 obtain ⟨rfl, N13q, Kq13, r13E, ls13, mc13, r13T, r13N, r13L, r13S, r13M, r13D⟩ := hQ13
 have N13 := Fr.app N8 N13q
 have sz14 := Kq13.1
 have K14 := K9.trans Kq13 (own_all1 (Or.inr (by omega)))
 have O14 := O9.keep Kq13 (own_all1 (by omega))
 obtain ⟨r13A, r13Z⟩ := own_pk0 r13D J5
 have ltl13 := lN r13L.lt
 have lsz13 := r13S
 refine ot (S' := T13.setTop (mkF m 186 lv2 [(.ref b1)])) st13 ?_
 let lv15 : Array Slot := #[vI p0, vI p1, vI p2, vI p3, vI p4, vI p5, vI c0, vI c1, vI c2, vI s0, vI s1, vR cb, vR xp, vI 0, vR b1, .unset, .unset, .unset, .unset, .unset, .unset, .unset]
 let lv16 : Array Slot := #[vI p0, vI p1, vI p2, vI p3, vI p4, vI p5, vI c0, vI c1, vI c2, vI s0, vI s1, vR cb, vR xp, vI 0, vR b1, vI (p4 &&& (3 : Int32)), .unset, .unset, .unset, .unset, .unset, .unset]
 refine oo (S' := T13.setTop (mkF m 197 lv16 [(.int 1), (.int (p4 &&& (3 : Int32)))])) (fun _ kK => XS.astore X13.here hx rfl (hb hby at_186) rfl rfl (l' := lv15) rfl (XS.iload X13.here hx rfl (hb hby at_188) rfl (XS.iconst X13.here hx rfl (hb hby at_190) (XS.iand X13.here hx rfl (hb hby at_191) rfl (XS.istore X13.here hx rfl (hb hby at_192) rfl (l' := lv16) rfl (XS.iload X13.here hx rfl (hb hby at_194) rfl (XS.iconst X13.here hx rfl (hb hby at_196) kK))))))) ?_
 rcases own_t0 p4 with hr0 | hr0
 ·show OwnEnd _ _ _ _ (T13.setTop (mkF m 197 #[vI p0, vI p1, vI p2, vI p3, vI p4, vI p5, vI c0, vI c1, vI c2, vI s0, vI s1, vR cb, vR xp, vI 0, vR b1, vI (p4 &&& (3 : Int32)), .unset, .unset, .unset, .unset, .unset, .unset] [(.int 1), (.int (p4 &&& (3 : Int32)))]))
  rw [hr0]
  let lv17 : Array Slot := #[vI p0, vI p1, vI p2, vI p3, vI p4, vI p5, vI c0, vI c1, vI c2, vI s0, vI s1, vR cb, vR xp, vI 0, vR b1, vI 0, .unset, .unset, .unset, .unset, .unset, .unset]
  refine oo (S' := T13.setTop (mkF m 258 lv17 [(.int 0), (.int 0)])) (fun _ kK => XS.icmpYes X13.here hx rfl (pc0 := 197) (pc' := 214) rfl (hb hby at_197) rfl (tlt ((by decide : (0 : Int32) < (1 : Int32)))).1 (by decide) (by decide) (XS.iload X13.here hx rfl (hb hby at_214) rfl (XS.iconst X13.here hx rfl (hb hby at_216) (XS.icmpYes X13.here hx rfl (pc0 := 217) (pc' := 234) rfl (hb hby at_217) rfl (tlt ((by decide : (0 : Int32) < (2 : Int32)))).1 (by decide) (by decide) (XS.iload X13.here hx rfl (hb hby at_234) rfl (XS.iconst X13.here hx rfl (hb hby at_236) (XS.icmpYes X13.here hx rfl (pc0 := 237) (pc' := 254) rfl (hb hby at_237) rfl (tlt ((by decide : (0 : Int32) < (3 : Int32)))).1 (by decide) (by decide) (XS.iload X13.here hx rfl (hb hby at_254) rfl (XS.iload X13.here hx rfl (hb hby at_256) rfl kK))))))))) ?_
  obtain ⟨_, _, ⟨T18, L18, k18, n18⟩, -, X18, ⟨Lc18, hQ18, l18, y18, z18⟩, st18⟩ := Jvm.LawKit.callS X13 hx (y := own_m18) hown (mvT hZ (w_ G 250 rfl)) (mvT hZ (w_ G 198 rfl)) (mvT hZ (w_ G 199 rfl)) (mvT hZ (w_ G 200 rfl)) (by decide) (backOf (W := 0) (rmmin0_0 l Z a0 G []  T13.heap n0 O14 ) hZ (w_ G 200 rfl) (w_ G 199 rfl) (by decide) (by decide)) (g := (mkF m 258 lv17 [(.int 0), (.int 0)])) rfl (by rw [hml]; rfl) (argsL := [(.int 0), (.int 0)]) (rest := []) (lenOf pd_9 rfl) rfl (own_z rfl) (hb hby at_258) (fun _ _ => ⟨rfl, rfl, (ol rfl), (ol rfl)⟩)
  dsimp only [Pt.U, Pt.locs, Pt.cells, Pt.slots] at X18 l18 y18 z18 st18 hQ18
  subst l18 y18 z18
  obtain ⟨rfl, N18q, eh18⟩ := hQ18
  have N18 := Fr.app N13 N18q
  refine oo (S' := T18.setTop (mkF m 261 lv17 [(.int 0)])) st18 ?_
  let lv19 : Array Slot := #[vI p0, vI p1, vI p2, vI p3, vI p4, vI p5, vI c0, vI c1, vI c2, vI s0, vI s1, vR cb, vR xp, vI 0, vR b1, vI 0, vI 0, .unset, .unset, .unset, .unset, .unset]
  refine oo (S' := T18.setTop (mkF m 263 lv19 [])) (fun _ kK => XS.istore X18.here hx rfl (hb hby at_261) rfl (l' := lv19) rfl kK) ?_
  have HP : own_pick Z T13.heap ls13 [.null, .null, .null] ((0 : Int32) + (p5 &&& (7 : Int32))) (0 : Int32) := Or.inl (own_ah0_0 p5)
  have f20 := ((((J1.ext E1).ext E4).keep Kq8 (own_nin1 (on (by omega)))).keep Kq13 (own_nin1 (on (by omega))))
  exact sfb l Z a0 G p0 p1 p2 p3 p4 p5 h0 n0 O0  Bd hml0 hZ (X18.more (by decide) (by decide)) T13.heap eh18 K14 O14 N18 (by omega) b1 ls13 cb xp kx (0 : Int32) (0 : Int32) (0 : Int32) [.null, .null, .null] c0 c1 c2 s0 s1 r13E r13T r13N r13L r13Z f20 (HP)
 ·refine oo (S' := T13.setTop (mkF m 202 lv16 [(.ref b1)])) (fun _ kK => XS.icmpNo X13.here hx rfl (hb hby at_197) rfl (flt (hr0)).1 (XS.aload X13.here hx rfl (hb hby at_200) rfl rfl kK)) ?_
  obtain ⟨cq21, kq21, q21a, q21b, q21c⟩ := isOf hZ rfl r13E
  obtain ⟨_, _, ⟨T21, L21, k21, n21⟩, -, X21, ⟨Lc21, hQ21, l21, y21, z21⟩, st21⟩ := X13.virtualBack hx (y := own_m45) (z := own_m45) hown (mvT hZ (w_ G 299 rfl)) (mvT hZ (w_ G 300 rfl)) (notFace_of_selects (args := #[]) (mvT hZ (w_ G 302 rfl))) (mvT hZ (w_ G 302 rfl)) (mvT hZ (w_ G 301 rfl)) (by decide) (backOf (W := 0) (rmae1 l Z a0 G [] b1 ls13 (0 : Int32) (0 : Int32) T13.heap n0 O14 r13N r13T r13L r13Z (by decide)) hZ (w_ G 303 rfl) (w_ G 35 rfl) (by decide) (by decide)) q21a q21c (g := (mkF m 202 lv16 [(.ref b1)])) rfl (by rw [hml]; rfl) (Steps.refl _) (argsL := []) (rest := []) (lenOf pd_3 rfl) rfl (own_z rfl) (hb hby at_202) (fun _ _ => ⟨rfl, rfl, (ol rfl), (ol rfl)⟩)
  dsimp only [Pt.U, Pt.locs, Pt.cells, Pt.slots] at X21 l21 y21 z21 st21 hQ21
  subst l21 y21 z21
  obtain ⟨rfl, N21q, eh21⟩ := hQ21
  have N21 := Fr.app N13 N21q
  refine ot (S' := T21.setTop (mkF m 205 lv16 [(.int 1)])) st21 ?_
  refine oo (S' := T21.setTop (mkF m 217 lv16 [(.int 2), (.int (p4 &&& (3 : Int32)))])) (fun _ kK => XS.ifYes X21.here hx rfl (pc0 := 205) (pc' := 214) rfl (hb hby at_205) rfl ((if0 _ _).trans (feq ((by decide : ¬ ((1 : Int32) = (0 : Int32))))).2) (by decide) (by decide) (XS.iload X21.here hx rfl (hb hby at_214) rfl (XS.iconst X21.here hx rfl (hb hby at_216) kK))) ?_
  rcases own_t1 p4 hr0 with hr1 | hr1
  ·show OwnEnd _ _ _ _ (T21.setTop (mkF m 217 #[vI p0, vI p1, vI p2, vI p3, vI p4, vI p5, vI c0, vI c1, vI c2, vI s0, vI s1, vR cb, vR xp, vI 0, vR b1, vI (p4 &&& (3 : Int32)), .unset, .unset, .unset, .unset, .unset, .unset] [(.int 2), (.int (p4 &&& (3 : Int32)))]))
   rw [hr1]
   let lv22 : Array Slot := #[vI p0, vI p1, vI p2, vI p3, vI p4, vI p5, vI c0, vI c1, vI c2, vI s0, vI s1, vR cb, vR xp, vI 0, vR b1, vI 1, .unset, .unset, .unset, .unset, .unset, .unset]
   refine oo (S' := T21.setTop (mkF m 258 lv22 [(.int 0), (.int 1)])) (fun _ kK => XS.icmpYes X21.here hx rfl (pc0 := 217) (pc' := 234) rfl (hb hby at_217) rfl (tlt ((by decide : (1 : Int32) < (2 : Int32)))).1 (by decide) (by decide) (XS.iload X21.here hx rfl (hb hby at_234) rfl (XS.iconst X21.here hx rfl (hb hby at_236) (XS.icmpYes X21.here hx rfl (pc0 := 237) (pc' := 254) rfl (hb hby at_237) rfl (tlt ((by decide : (1 : Int32) < (3 : Int32)))).1 (by decide) (by decide) (XS.iload X21.here hx rfl (hb hby at_254) rfl (XS.iload X21.here hx rfl (hb hby at_256) rfl kK)))))) ?_
   obtain ⟨_, _, ⟨T23, L23, k23, n23⟩, -, X23, ⟨Lc23, hQ23, l23, y23, z23⟩, st23⟩ := Jvm.LawKit.callS X21 hx (y := own_m18) hown (mvT hZ (w_ G 250 rfl)) (mvT hZ (w_ G 198 rfl)) (mvT hZ (w_ G 199 rfl)) (mvT hZ (w_ G 200 rfl)) (by decide) (backOf (W := 0) (rmmin1_0 l Z a0 G []  T13.heap n0 O14 ) hZ (w_ G 200 rfl) (w_ G 199 rfl) (by decide) (by decide)) (g := (mkF m 258 lv22 [(.int 0), (.int 1)])) rfl (by rw [hml]; rfl) (argsL := [(.int 1), (.int 0)]) (rest := []) (lenOf pd_9 rfl) rfl (own_z rfl) (hb hby at_258) (fun _ _ => ⟨rfl, eh21, (ol rfl), (ol rfl)⟩)
   dsimp only [Pt.U, Pt.locs, Pt.cells, Pt.slots] at X23 l23 y23 z23 st23 hQ23
   subst l23 y23 z23
   obtain ⟨rfl, N23q, eh23⟩ := hQ23
   have N23 := Fr.app N21 N23q
   refine oo (S' := T23.setTop (mkF m 261 lv22 [(.int 0)])) st23 ?_
   let lv24 : Array Slot := #[vI p0, vI p1, vI p2, vI p3, vI p4, vI p5, vI c0, vI c1, vI c2, vI s0, vI s1, vR cb, vR xp, vI 0, vR b1, vI 1, vI 0, .unset, .unset, .unset, .unset, .unset]
   refine oo (S' := T23.setTop (mkF m 263 lv24 [])) (fun _ kK => XS.istore X23.here hx rfl (hb hby at_261) rfl (l' := lv24) rfl kK) ?_
   have HP : own_pick Z T13.heap ls13 [.null, .null, .null] ((0 : Int32) + (p5 &&& (7 : Int32))) (0 : Int32) := Or.inl (own_ah0_0 p5)
   have f25 := ((((J1.ext E1).ext E4).keep Kq8 (own_nin1 (on (by omega)))).keep Kq13 (own_nin1 (on (by omega))))
   exact sfb l Z a0 G p0 p1 p2 p3 p4 p5 h0 n0 O0  Bd hml0 hZ (X23.more (by decide) (by decide)) T13.heap eh23 K14 O14 N23 (by omega) b1 ls13 cb xp kx (1 : Int32) (0 : Int32) (0 : Int32) [.null, .null, .null] c0 c1 c2 s0 s1 r13E r13T r13N r13L r13Z f25 (HP)
  ·refine oo (S' := T21.setTop (mkF m 222 lv16 [(.ref b1)])) (fun _ kK => XS.icmpNo X21.here hx rfl (hb hby at_217) rfl (flt (hr1)).1 (XS.aload X21.here hx rfl (hb hby at_220) rfl rfl kK)) ?_
   obtain ⟨cq26, kq26, q26a, q26b, q26c⟩ := isOf hZ eh21 r13E
   obtain ⟨_, _, ⟨T26, L26, k26, n26⟩, -, X26, ⟨Lc26, hQ26, l26, y26, z26⟩, st26⟩ := X21.virtualBack hx (y := own_m45) (z := own_m45) hown (mvT hZ (w_ G 299 rfl)) (mvT hZ (w_ G 300 rfl)) (notFace_of_selects (args := #[]) (mvT hZ (w_ G 302 rfl))) (mvT hZ (w_ G 302 rfl)) (mvT hZ (w_ G 301 rfl)) (by decide) (backOf (W := 0) (rmae1 l Z a0 G [] b1 ls13 (0 : Int32) (0 : Int32) T13.heap n0 O14 r13N r13T r13L r13Z (by decide)) hZ (w_ G 303 rfl) (w_ G 35 rfl) (by decide) (by decide)) q26a q26c (g := (mkF m 222 lv16 [(.ref b1)])) rfl (by rw [hml]; rfl) (Steps.refl _) (argsL := []) (rest := []) (lenOf pd_3 rfl) rfl (own_z rfl) (hb hby at_222) (fun _ _ => ⟨rfl, eh21, (ol rfl), (ol rfl)⟩)
   dsimp only [Pt.U, Pt.locs, Pt.cells, Pt.slots] at X26 l26 y26 z26 st26 hQ26
   subst l26 y26 z26
   obtain ⟨rfl, N26q, eh26⟩ := hQ26
   have N26 := Fr.app N21 N26q
   refine ot (S' := T26.setTop (mkF m 225 lv16 [(.int 1)])) st26 ?_
   refine oo (S' := T26.setTop (mkF m 237 lv16 [(.int 3), (.int (p4 &&& (3 : Int32)))])) (fun _ kK => XS.ifYes X26.here hx rfl (pc0 := 225) (pc' := 234) rfl (hb hby at_225) rfl ((if0 _ _).trans (feq ((by decide : ¬ ((1 : Int32) = (0 : Int32))))).2) (by decide) (by decide) (XS.iload X26.here hx rfl (hb hby at_234) rfl (XS.iconst X26.here hx rfl (hb hby at_236) kK))) ?_
   rcases own_t2 p4 hr1 with hr2 | hr2
   ·show OwnEnd _ _ _ _ (T26.setTop (mkF m 237 #[vI p0, vI p1, vI p2, vI p3, vI p4, vI p5, vI c0, vI c1, vI c2, vI s0, vI s1, vR cb, vR xp, vI 0, vR b1, vI (p4 &&& (3 : Int32)), .unset, .unset, .unset, .unset, .unset, .unset] [(.int 3), (.int (p4 &&& (3 : Int32)))]))
    rw [hr2]
    let lv27 : Array Slot := #[vI p0, vI p1, vI p2, vI p3, vI p4, vI p5, vI c0, vI c1, vI c2, vI s0, vI s1, vR cb, vR xp, vI 0, vR b1, vI 2, .unset, .unset, .unset, .unset, .unset, .unset]
    refine oo (S' := T26.setTop (mkF m 258 lv27 [(.int 0), (.int 2)])) (fun _ kK => XS.icmpYes X26.here hx rfl (pc0 := 237) (pc' := 254) rfl (hb hby at_237) rfl (tlt ((by decide : (2 : Int32) < (3 : Int32)))).1 (by decide) (by decide) (XS.iload X26.here hx rfl (hb hby at_254) rfl (XS.iload X26.here hx rfl (hb hby at_256) rfl kK))) ?_
    obtain ⟨_, _, ⟨T28, L28, k28, n28⟩, -, X28, ⟨Lc28, hQ28, l28, y28, z28⟩, st28⟩ := Jvm.LawKit.callS X26 hx (y := own_m18) hown (mvT hZ (w_ G 250 rfl)) (mvT hZ (w_ G 198 rfl)) (mvT hZ (w_ G 199 rfl)) (mvT hZ (w_ G 200 rfl)) (by decide) (backOf (W := 0) (rmmin2_0 l Z a0 G []  T13.heap n0 O14 ) hZ (w_ G 200 rfl) (w_ G 199 rfl) (by decide) (by decide)) (g := (mkF m 258 lv27 [(.int 0), (.int 2)])) rfl (by rw [hml]; rfl) (argsL := [(.int 2), (.int 0)]) (rest := []) (lenOf pd_9 rfl) rfl (own_z rfl) (hb hby at_258) (fun _ _ => ⟨rfl, eh26, (ol rfl), (ol rfl)⟩)
    dsimp only [Pt.U, Pt.locs, Pt.cells, Pt.slots] at X28 l28 y28 z28 st28 hQ28
    subst l28 y28 z28
    obtain ⟨rfl, N28q, eh28⟩ := hQ28
    have N28 := Fr.app N26 N28q
    refine oo (S' := T28.setTop (mkF m 261 lv27 [(.int 0)])) st28 ?_
    let lv29 : Array Slot := #[vI p0, vI p1, vI p2, vI p3, vI p4, vI p5, vI c0, vI c1, vI c2, vI s0, vI s1, vR cb, vR xp, vI 0, vR b1, vI 2, vI 0, .unset, .unset, .unset, .unset, .unset]
    refine oo (S' := T28.setTop (mkF m 263 lv29 [])) (fun _ kK => XS.istore X28.here hx rfl (hb hby at_261) rfl (l' := lv29) rfl kK) ?_
    have HP : own_pick Z T13.heap ls13 [.null, .null, .null] ((0 : Int32) + (p5 &&& (7 : Int32))) (0 : Int32) := Or.inl (own_ah0_0 p5)
    have f30 := ((((J1.ext E1).ext E4).keep Kq8 (own_nin1 (on (by omega)))).keep Kq13 (own_nin1 (on (by omega))))
    exact sfb l Z a0 G p0 p1 p2 p3 p4 p5 h0 n0 O0  Bd hml0 hZ (X28.more (by decide) (by decide)) T13.heap eh28 K14 O14 N28 (by omega) b1 ls13 cb xp kx (2 : Int32) (0 : Int32) (0 : Int32) [.null, .null, .null] c0 c1 c2 s0 s1 r13E r13T r13N r13L r13Z f30 (HP)
   ·show OwnEnd _ _ _ _ (T26.setTop (mkF m 237 #[vI p0, vI p1, vI p2, vI p3, vI p4, vI p5, vI c0, vI c1, vI c2, vI s0, vI s1, vR cb, vR xp, vI 0, vR b1, vI (p4 &&& (3 : Int32)), .unset, .unset, .unset, .unset, .unset, .unset] [(.int 3), (.int (p4 &&& (3 : Int32)))]))
    rw [hr2]
    let lv31 : Array Slot := #[vI p0, vI p1, vI p2, vI p3, vI p4, vI p5, vI c0, vI c1, vI c2, vI s0, vI s1, vR cb, vR xp, vI 0, vR b1, vI 3, .unset, .unset, .unset, .unset, .unset, .unset]
    refine oo (S' := T26.setTop (mkF m 242 lv31 [(.ref b1)])) (fun _ kK => XS.icmpNo X26.here hx rfl (hb hby at_237) rfl (flt ((by decide : ¬ ((3 : Int32) < (3 : Int32))))).1 (XS.aload X26.here hx rfl (hb hby at_240) rfl rfl kK)) ?_
    obtain ⟨cq32, kq32, q32a, q32b, q32c⟩ := isOf hZ eh26 r13E
    obtain ⟨_, _, ⟨T32, L32, k32, n32⟩, -, X32, ⟨Lc32, hQ32, l32, y32, z32⟩, st32⟩ := X26.virtualBack hx (y := own_m45) (z := own_m45) hown (mvT hZ (w_ G 299 rfl)) (mvT hZ (w_ G 300 rfl)) (notFace_of_selects (args := #[]) (mvT hZ (w_ G 302 rfl))) (mvT hZ (w_ G 302 rfl)) (mvT hZ (w_ G 301 rfl)) (by decide) (backOf (W := 0) (rmae1 l Z a0 G [] b1 ls13 (0 : Int32) (0 : Int32) T13.heap n0 O14 r13N r13T r13L r13Z (by decide)) hZ (w_ G 303 rfl) (w_ G 35 rfl) (by decide) (by decide)) q32a q32c (g := (mkF m 242 lv31 [(.ref b1)])) rfl (by rw [hml]; rfl) (Steps.refl _) (argsL := []) (rest := []) (lenOf pd_3 rfl) rfl (own_z rfl) (hb hby at_242) (fun _ _ => ⟨rfl, eh26, (ol rfl), (ol rfl)⟩)
    dsimp only [Pt.U, Pt.locs, Pt.cells, Pt.slots] at X32 l32 y32 z32 st32 hQ32
    subst l32 y32 z32
    obtain ⟨rfl, N32q, eh32⟩ := hQ32
    have N32 := Fr.app N26 N32q
    refine ot (S' := T32.setTop (mkF m 245 lv31 [(.int 1)])) st32 ?_
    refine oo (S' := T32.setTop (mkF m 258 lv31 [(.int 0), (.int 3)])) (fun _ kK => XS.ifYes X32.here hx rfl (pc0 := 245) (pc' := 254) rfl (hb hby at_245) rfl ((if0 _ _).trans (feq ((by decide : ¬ ((1 : Int32) = (0 : Int32))))).2) (by decide) (by decide) (XS.iload X32.here hx rfl (hb hby at_254) rfl (XS.iload X32.here hx rfl (hb hby at_256) rfl kK))) ?_
    obtain ⟨_, _, ⟨T33, L33, k33, n33⟩, -, X33, ⟨Lc33, hQ33, l33, y33, z33⟩, st33⟩ := Jvm.LawKit.callS X32 hx (y := own_m18) hown (mvT hZ (w_ G 250 rfl)) (mvT hZ (w_ G 198 rfl)) (mvT hZ (w_ G 199 rfl)) (mvT hZ (w_ G 200 rfl)) (by decide) (backOf (W := 0) (rmmin3_0 l Z a0 G []  T13.heap n0 O14 ) hZ (w_ G 200 rfl) (w_ G 199 rfl) (by decide) (by decide)) (g := (mkF m 258 lv31 [(.int 0), (.int 3)])) rfl (by rw [hml]; rfl) (argsL := [(.int 3), (.int 0)]) (rest := []) (lenOf pd_9 rfl) rfl (own_z rfl) (hb hby at_258) (fun _ _ => ⟨rfl, eh32, (ol rfl), (ol rfl)⟩)
    dsimp only [Pt.U, Pt.locs, Pt.cells, Pt.slots] at X33 l33 y33 z33 st33 hQ33
    subst l33 y33 z33
    obtain ⟨rfl, N33q, eh33⟩ := hQ33
    have N33 := Fr.app N32 N33q
    refine oo (S' := T33.setTop (mkF m 261 lv31 [(.int 0)])) st33 ?_
    let lv34 : Array Slot := #[vI p0, vI p1, vI p2, vI p3, vI p4, vI p5, vI c0, vI c1, vI c2, vI s0, vI s1, vR cb, vR xp, vI 0, vR b1, vI 3, vI 0, .unset, .unset, .unset, .unset, .unset]
    refine oo (S' := T33.setTop (mkF m 263 lv34 [])) (fun _ kK => XS.istore X33.here hx rfl (hb hby at_261) rfl (l' := lv34) rfl kK) ?_
    have HP : own_pick Z T13.heap ls13 [.null, .null, .null] ((0 : Int32) + (p5 &&& (7 : Int32))) (0 : Int32) := Or.inl (own_ah0_0 p5)
    have f35 := ((((J1.ext E1).ext E4).keep Kq8 (own_nin1 (on (by omega)))).keep Kq13 (own_nin1 (on (by omega))))
    exact sfb l Z a0 G p0 p1 p2 p3 p4 p5 h0 n0 O0  Bd hml0 hZ (X33.more (by decide) (by decide)) T13.heap eh33 K14 O14 N33 (by omega) b1 ls13 cb xp kx (3 : Int32) (0 : Int32) (0 : Int32) [.null, .null, .null] c0 c1 c2 s0 s1 r13E r13T r13N r13L r13Z f35 (HP)

theorem own_efmin0_1 (m : MethodId) : entryFrame m #[(.int 0), (.int 1)] 2 = mkF m 0 #[vI 0, vI 1] [] := by first | (simp [entryFrame, mkF, argsToLocals, Value.category]; done) | rfl
set_option maxRecDepth 65536 in
set_option maxHeartbeats 40000000 in
theorem rmmin0_1 (l : Launch) (Z : State) (a0 : Array Value) (G : OwnG Z a0) (ws : List Jvm.Cond)  (h0 : Heap) (n0 : Nat) (O0 : Old Z n0 h0)  :
  MetFree l own_m18 (head1 (Jvm.Cond.code own_m18 B28 2 (some .int) :: ws) (rR 0 0 0 0)) (fun a U => a = #[(.int 0), (.int 1)] ∧ Z.Warmed39 U.vm ∧ U.heap = h0) (fun _ _ _ _ _ => True) (fun _ U o U' => ∃ v L, o = .returned v ∧ (own_Qint (0 : Int32)) h0 n0 v U'.heap L ∧ FrameEnd U o U' L (rR 0 0 0 0).cells (rR 0 0 0 0).slots) := by
 refine MetFree.of_bodySF (Jvm.Free.JP.mathPlain rfl (by decide +kernel)) hisR ?_
 intro p e s m args below meth cD s₁ Bd hml0 hP hK
 obtain ⟨rfl, hZ, hh⟩ := hP
 have hml : cD.maxLocals = 2 := hml0
 obtain ⟨hx, hby, (hown : s.vm.findClass j8 = some m.cls), hlk, X0, e0⟩ := own_st Bd hh
 have Z0 := own_old_le O0
 have N0 := Fr.nil n0
 refine OwnEnd.start (g' := (mkF m 0 #[vI 0, vI 1] [])) (own_efmin0_1 m ) ?_
 refine oo (S' := s₁.setTop (mkF m 10 #[vI 0, vI 1] [(.int 0)])) (fun _ kK => XS.iloadN X0.here hx rfl (hb hby d19_0) rfl (XS.iloadN X0.here hx rfl (hb hby d19_1) rfl (XS.icmpNo X0.here hx rfl (hb hby d19_2) rfl (flt ((by decide : ¬ ((1 : Int32) < (0 : Int32))))).2.2.1 (XS.iloadN X0.here hx rfl (hb hby d19_5) rfl (XS.goto X0.here hx rfl (pc0 := 6) (pc' := 10) rfl (hb hby d19_6) (by decide) (by decide) kK))))) ?_
 refine OwnEnd.ret X0 (v := (some (.int 0))) (fun h => by rw [Bd.returns] at h; cases h) hlk (fun fs hr => retOut X0 hx Bd.returns rfl (Or.inl ⟨rfl, Or.inl rfl, _, rfl⟩) (hb hby d19_10) hr) (by decide) (by decide) (Q := (own_Qint (0 : Int32)) h0 n0) e0 ?_
 exact ⟨rfl, N0, rfl⟩

theorem own_efmin1_1 (m : MethodId) : entryFrame m #[(.int 1), (.int 1)] 2 = mkF m 0 #[vI 1, vI 1] [] := by first | (simp [entryFrame, mkF, argsToLocals, Value.category]; done) | rfl
set_option maxRecDepth 65536 in
set_option maxHeartbeats 40000000 in
theorem rmmin1_1 (l : Launch) (Z : State) (a0 : Array Value) (G : OwnG Z a0) (ws : List Jvm.Cond)  (h0 : Heap) (n0 : Nat) (O0 : Old Z n0 h0)  :
  MetFree l own_m18 (head1 (Jvm.Cond.code own_m18 B28 2 (some .int) :: ws) (rR 0 0 0 0)) (fun a U => a = #[(.int 1), (.int 1)] ∧ Z.Warmed39 U.vm ∧ U.heap = h0) (fun _ _ _ _ _ => True) (fun _ U o U' => ∃ v L, o = .returned v ∧ (own_Qint (1 : Int32)) h0 n0 v U'.heap L ∧ FrameEnd U o U' L (rR 0 0 0 0).cells (rR 0 0 0 0).slots) := by
 refine MetFree.of_bodySF (Jvm.Free.JP.mathPlain rfl (by decide +kernel)) hisR ?_
 intro p e s m args below meth cD s₁ Bd hml0 hP hK
 obtain ⟨rfl, hZ, hh⟩ := hP
 have hml : cD.maxLocals = 2 := hml0
 obtain ⟨hx, hby, (hown : s.vm.findClass j8 = some m.cls), hlk, X0, e0⟩ := own_st Bd hh
 have Z0 := own_old_le O0
 have N0 := Fr.nil n0
 refine OwnEnd.start (g' := (mkF m 0 #[vI 1, vI 1] [])) (own_efmin1_1 m ) ?_
 refine oo (S' := s₁.setTop (mkF m 10 #[vI 1, vI 1] [(.int 1)])) (fun _ kK => XS.iloadN X0.here hx rfl (hb hby d19_0) rfl (XS.iloadN X0.here hx rfl (hb hby d19_1) rfl (XS.icmpNo X0.here hx rfl (hb hby d19_2) rfl (flt ((by decide : ¬ ((1 : Int32) < (1 : Int32))))).2.2.1 (XS.iloadN X0.here hx rfl (hb hby d19_5) rfl (XS.goto X0.here hx rfl (pc0 := 6) (pc' := 10) rfl (hb hby d19_6) (by decide) (by decide) kK))))) ?_
 refine OwnEnd.ret X0 (v := (some (.int 1))) (fun h => by rw [Bd.returns] at h; cases h) hlk (fun fs hr => retOut X0 hx Bd.returns rfl (Or.inl ⟨rfl, Or.inl rfl, _, rfl⟩) (hb hby d19_10) hr) (by decide) (by decide) (Q := (own_Qint (1 : Int32)) h0 n0) e0 ?_
 exact ⟨rfl, N0, rfl⟩

theorem own_efmin2_1 (m : MethodId) : entryFrame m #[(.int 2), (.int 1)] 2 = mkF m 0 #[vI 2, vI 1] [] := by first | (simp [entryFrame, mkF, argsToLocals, Value.category]; done) | rfl
set_option maxRecDepth 65536 in
set_option maxHeartbeats 40000000 in
theorem rmmin2_1 (l : Launch) (Z : State) (a0 : Array Value) (G : OwnG Z a0) (ws : List Jvm.Cond)  (h0 : Heap) (n0 : Nat) (O0 : Old Z n0 h0)  :
  MetFree l own_m18 (head1 (Jvm.Cond.code own_m18 B28 2 (some .int) :: ws) (rR 0 0 0 0)) (fun a U => a = #[(.int 2), (.int 1)] ∧ Z.Warmed39 U.vm ∧ U.heap = h0) (fun _ _ _ _ _ => True) (fun _ U o U' => ∃ v L, o = .returned v ∧ (own_Qint (1 : Int32)) h0 n0 v U'.heap L ∧ FrameEnd U o U' L (rR 0 0 0 0).cells (rR 0 0 0 0).slots) := by
 refine MetFree.of_bodySF (Jvm.Free.JP.mathPlain rfl (by decide +kernel)) hisR ?_
 intro p e s m args below meth cD s₁ Bd hml0 hP hK
 obtain ⟨rfl, hZ, hh⟩ := hP
 have hml : cD.maxLocals = 2 := hml0
 obtain ⟨hx, hby, (hown : s.vm.findClass j8 = some m.cls), hlk, X0, e0⟩ := own_st Bd hh
 have Z0 := own_old_le O0
 have N0 := Fr.nil n0
 refine OwnEnd.start (g' := (mkF m 0 #[vI 2, vI 1] [])) (own_efmin2_1 m ) ?_
 refine oo (S' := s₁.setTop (mkF m 10 #[vI 2, vI 1] [(.int 1)])) (fun _ kK => XS.iloadN X0.here hx rfl (hb hby d19_0) rfl (XS.iloadN X0.here hx rfl (hb hby d19_1) rfl (XS.icmpYes X0.here hx rfl (pc0 := 2) (pc' := 9) rfl (hb hby d19_2) rfl (tlt ((by decide : (1 : Int32) < (2 : Int32)))).2.2.1 (by decide) (by decide) (XS.iloadN X0.here hx rfl (hb hby d19_9) rfl kK)))) ?_
 refine OwnEnd.ret X0 (v := (some (.int 1))) (fun h => by rw [Bd.returns] at h; cases h) hlk (fun fs hr => retOut X0 hx Bd.returns rfl (Or.inl ⟨rfl, Or.inl rfl, _, rfl⟩) (hb hby d19_10) hr) (by decide) (by decide) (Q := (own_Qint (1 : Int32)) h0 n0) e0 ?_
 exact ⟨rfl, N0, rfl⟩

theorem own_efmin3_1 (m : MethodId) : entryFrame m #[(.int 3), (.int 1)] 2 = mkF m 0 #[vI 3, vI 1] [] := by first | (simp [entryFrame, mkF, argsToLocals, Value.category]; done) | rfl
set_option maxRecDepth 65536 in
set_option maxHeartbeats 40000000 in
theorem rmmin3_1 (l : Launch) (Z : State) (a0 : Array Value) (G : OwnG Z a0) (ws : List Jvm.Cond)  (h0 : Heap) (n0 : Nat) (O0 : Old Z n0 h0)  :
  MetFree l own_m18 (head1 (Jvm.Cond.code own_m18 B28 2 (some .int) :: ws) (rR 0 0 0 0)) (fun a U => a = #[(.int 3), (.int 1)] ∧ Z.Warmed39 U.vm ∧ U.heap = h0) (fun _ _ _ _ _ => True) (fun _ U o U' => ∃ v L, o = .returned v ∧ (own_Qint (1 : Int32)) h0 n0 v U'.heap L ∧ FrameEnd U o U' L (rR 0 0 0 0).cells (rR 0 0 0 0).slots) := by
 refine MetFree.of_bodySF (Jvm.Free.JP.mathPlain rfl (by decide +kernel)) hisR ?_
 intro p e s m args below meth cD s₁ Bd hml0 hP hK
 obtain ⟨rfl, hZ, hh⟩ := hP
 have hml : cD.maxLocals = 2 := hml0
 obtain ⟨hx, hby, (hown : s.vm.findClass j8 = some m.cls), hlk, X0, e0⟩ := own_st Bd hh
 have Z0 := own_old_le O0
 have N0 := Fr.nil n0
 refine OwnEnd.start (g' := (mkF m 0 #[vI 3, vI 1] [])) (own_efmin3_1 m ) ?_
 refine oo (S' := s₁.setTop (mkF m 10 #[vI 3, vI 1] [(.int 1)])) (fun _ kK => XS.iloadN X0.here hx rfl (hb hby d19_0) rfl (XS.iloadN X0.here hx rfl (hb hby d19_1) rfl (XS.icmpYes X0.here hx rfl (pc0 := 2) (pc' := 9) rfl (hb hby d19_2) rfl (tlt ((by decide : (1 : Int32) < (3 : Int32)))).2.2.1 (by decide) (by decide) (XS.iloadN X0.here hx rfl (hb hby d19_9) rfl kK)))) ?_
 refine OwnEnd.ret X0 (v := (some (.int 1))) (fun h => by rw [Bd.returns] at h; cases h) hlk (fun fs hr => retOut X0 hx Bd.returns rfl (Or.inl ⟨rfl, Or.inl rfl, _, rfl⟩) (hb hby d19_10) hr) (by decide) (by decide) (Q := (own_Qint (1 : Int32)) h0 n0) e0 ?_
 exact ⟨rfl, N0, rfl⟩

set_option maxRecDepth 65536 in
set_option maxHeartbeats 40000000 in
theorem sfa1 (l : Launch) (Z : State) (a0 : Array Value) (G : OwnG Z a0) (p0 : Int32) (p1 : Int32) (p2 : Int32) (p3 : Int32) (p4 : Int32) (p5 : Int32) (h0 : Heap) (n0 : Nat) (O0 : Old Z n0 h0)  {p : Program} {e : Env} {s : State} {m : MethodId} {below : List Frame} {meth : Method} {cD : Code} {s₁ : State} {Sp : Spec} (Bd : BodyLoose p l x Sp code maxLocals ret e s m #[(.int p0), (.int p1), (.int p2), (.int p3), (.int p4), (.int p5)] below meth cD s₁) (hml0 : cD.maxLocals = maxLocals) (hZ : Z.Warmed39 s.vm) {TJ : State} {locs : List Loc} (XJ : Stand p l e room_1 s m #[(.int p0), (.int p1), (.int p2), (.int p3), (.int p4), (.int p5)] below meth cD TJ locs 12 40) (hJ : Heap) (eJ : TJ.heap = hJ) (KJ : Keep h0 hJ []) (OJ : Old Z n0 hJ) (NJ : Fr n0 locs) (szJ : Array.size h0 ≤ Array.size hJ) (c0 : Int32) (c1 : Int32) (c2 : Int32) (s0 : Int32) (s1 : Int32) (cb : Addr) (kc : ClassId) (xp : Addr) (kx : ClassId) (ea0 : Addr) (et0 : Addr) (ek0 : ClassId) (tk0 : Int32) (J0 : Arv Z hJ cb kc .char (5 : Int32) [(.int c0), (.int s0), (.int c1), (.int s1), (.int c2)] (.int 0)) (J1 : Arv Z hJ xp kx (.object j1) (3 : Int32) [(.ref ea0), .null, .null] .null) (J2 : Exa Z hJ ea0 j1) (J3 : Fld Z hJ ea0 j1 "value" "[B" (.ref et0)) (J4 : Fld Z hJ ea0 j1 "coder" "B" (.int 0)) (J5 : Arv Z hJ et0 ek0 .byte (1 : Int32) [(.int (StrChars.lo8 tk0))] (.int 0)) (J6 : ∀ c ∈ ([c0, s0, c1, s1, c2] : List Int32), ¬ c < (0 : Int32) ∧ ¬ (255 : Int32) < c) (J7 : s0 = (32 : Int32) ∨ s0 = (9 : Int32)) (J8 : s1 = (32 : Int32) ∨ s1 = (9 : Int32)) (J9 : own_nb [c0, c1, c2] = [tk0]) :
  OwnEnd p e below (fun o t => ∃ v L, o = .returned v ∧ own_Qlaw h0 n0 v t.heap L ∧ FrameEnd s o t L room_1.cells room_1.slots) (TJ.setTop (mkF m 170 #[vI p0, vI p1, vI p2, vI p3, vI p4, vI p5, vI c0, vI c1, vI c2, vI s0, vI s1, vR cb, vR xp, vI 1, .unset, .unset, .unset, .unset, .unset, .unset, .unset, .unset] [])) := by
 have hw := G.1
 have hx := Bd.exec
 have hby := Bd.bytes
 have hml : cD.maxLocals = 22 := hml0
 have hown : s.vm.findClass j7 = some m.cls := findClass_of_methodNamed Bd.named
 have hlk := Bd.notSynchronized
 have ltJ0 := lN J0.lt
 have ltJ1 := lN J1.lt
 have ltJ2 := lN J2.lt
 have ltJ3 := lN J3.lt
 have ltJ4 := lN J4.lt
 have ltJ5 := lN J5.lt
 have Z0 := own_old_le O0
 obtain ⟨zCS, SCS, PCS⟩ := own_cs G
 obtain ⟨aD, kD, SD, AD⟩ := own_dflt G
 have hlat := J6
 let lv2 : Array Slot := #[vI p0, vI p1, vI p2, vI p3, vI p4, vI p5, vI c0, vI c1, vI c2, vI s0, vI s1, vR cb, vR xp, vI 1, .unset, .unset, .unset, .unset, .unset, .unset, .unset, .unset]
 obtain ⟨T1, h1, X1, e1, E1, A1, D1, -, st1⟩ := newO XJ hx hZ hown (w_ G 33 rfl) (w_ G 34 rfl) (w_ G 35 rfl) eJ (g := (mkF m 170 lv2 [])) rfl (hb hby at_170) (by decide) (by decide)
 obtain ⟨b1, g1⟩ : ∃ z, z = Array.size hJ := ⟨_, rfl⟩
 rw [← g1] at A1 D1 st1
 have lt_b1 := lN A1.lt
 have sz3 := E1.1
 have K3 := KJ.ext E1
 have O3 := OJ.ext E1
 have F1_tokens : Fld Z h1 b1 j3 "tokens" "Ljava/util/List;" .null := D1 (Or.inr (w_ G 81 rfl)) (ty := (.object j9)) (by decide)
 have F1_next : Fld Z h1 b1 j3 "next" "I" (.int 0) := D1 (Or.inl (w_ G 257 rfl)) (ty := .int) (by decide)
 refine oo (S' := T1.setTop (mkF m 173 lv2 [(.ref b1)])) st1 ?_
 refine oo (S' := T1.setTop (mkF m 174 lv2 [(.ref b1), (.ref b1)])) (fun _ kK => XS.dup X1.here hx rfl (hb hby at_173) rfl rfl kK) ?_
 obtain ⟨T4, h4, X4, e4, E4, A4, D4, -, st4⟩ := newO X1 hx hZ hown (w_ G 1 rfl) (w_ G 17 rfl) (w_ G 9 rfl) e1 (g := (mkF m 174 lv2 [(.ref b1), (.ref b1)])) rfl (hb hby at_174) (by decide) (by decide)
 obtain ⟨b4, g4⟩ : ∃ z, z = Array.size h1 := ⟨_, rfl⟩
 rw [← g4] at A4 D4 st4
 have lt_b4 := lN A4.lt
 have sz5 := E4.1
 have K5 := K3.ext E4
 have O5 := O3.ext E4
 have F4_value : Fld Z h4 b4 j1 "value" "[B" .null := D4 (Or.inr (w_ G 30 rfl)) (ty := (.array .byte)) (by decide)
 have F4_coder : Fld Z h4 b4 j1 "coder" "B" (.int 0) := D4 (Or.inr (w_ G 32 rfl)) (ty := .byte) (by decide)
 refine oo (S' := T4.setTop (mkF m 177 lv2 [(.ref b4), (.ref b1), (.ref b1)])) st4 ?_
 refine oo (S' := T4.setTop (mkF m 180 lv2 [(.ref cb), (.ref b4), (.ref b4), (.ref b1), (.ref b1)])) (fun _ kK => XS.dup X4.here hx rfl (hb hby at_177) rfl rfl (XS.aload X4.here hx rfl (hb hby at_178) rfl rfl kK)) ?_
 have f6 := ((J0.ext E1).ext E4)
 have hws : ∀ d ∈ StrChars.Road.words, d.before a0 Z = true := fun d hd => hw d (own_words d hd)
 have hp7 : ∀ c ∈ ([c0, s0, c1, s1, c2] : List Int32), ¬ c < 0 ∧ ¬ (255 : Int32) < c := hlat
 obtain ⟨_, _, ⟨T8, L8, k8, n8⟩, -, X8, ⟨Lc8, hQ8, l8, y8, z8⟩, st8⟩ := Jvm.Stand.specialBack X4 hx (y := own_m53) rfl hown (mvT hZ (w_ G 36 rfl)) (mvT hZ (w_ G 37 rfl)) (mvT hZ (w_ G 38 rfl)) (by decide) (StrChars.Road.backV (W := 3) hZ hws (kI := 4) (w_ G 17 rfl) (cs := [c0, s0, c1, s1, c2]) (bs := ([c0, s0, c1, s1, c2] : List Int32).map (fun c => c.toInt8.toInt32)) (n := 5) (n0 := n0) (by omega) (by omega) A4 F4_value F4_coder f6 (SCS.ext O5.2) PCS rfl rfl (by decide) (by decide) hp7 rfl (by decide) (by decide)) (g := (mkF m 180 lv2 [(.ref cb), (.ref b4), (.ref b4), (.ref b1), (.ref b1)])) rfl (by rw [hml]; rfl) (Steps.refl _) (a := b4) (argsL := [(.ref cb)]) (rest := [(.ref b4), (.ref b1), (.ref b1)]) (lenOf pd_28 rfl) rfl (own_z rfl) (hb hby at_180) (fun _ _ => ⟨rfl, e4, (ol rfl), (ol rfl)⟩)
 dsimp only [Pt.U, Pt.locs, Pt.cells, Pt.slots] at X8 l8 y8 z8 st8 hQ8
 subst l8 y8 z8
 obtain ⟨rfl, N8q, Kq8, r8E, r8C, t8, kb8, u8, w8, x8, r8V, r8A⟩ := hQ8
 have N8 := Fr.app NJ N8q
 have sz9 := Kq8.1
 have K9 := K5.trans Kq8 (own_all1 (Or.inr (by omega)))
 have O9 := O5.keep Kq8 (own_all1 (by omega))
 have lt_t8 := lN r8A.lt
 refine ot (S' := T8.setTop (mkF m 183 lv2 [(.ref b4), (.ref b1), (.ref b1)])) st8 ?_
 have f10 := ((A1.ext E4).keep Kq8)
 have f11 := ((F1_tokens.ext E4).keep Kq8 (own_nin1 (on (by omega))))
 have f12 := ((F1_next.ext E4).keep Kq8 (own_nin1 (on (by omega))))
 obtain ⟨_, _, ⟨T13, L13, k13, n13⟩, -, X13, ⟨Lc13, hQ13, l13, y13, z13⟩, st13⟩ := Jvm.Stand.specialBack X8 hx (y := own_m43) rfl hown (mvT hZ (w_ G 52 rfl)) (mvT hZ (w_ G 53 rfl)) (mvT hZ (w_ G 54 rfl)) (by decide) (backOf (W := 1) (rmti l Z a0 G [] b1 b4 t8 kb8 .null c0 s0 c1 s1 c2 aD kD T8.heap n0 O9 f10 f11 f12 (by omega) r8E r8V r8C r8A (on (by omega)) (on (by omega)) J6 J7 J8 SD AD) hZ (w_ G 54 rfl) (w_ G 35 rfl) (by decide) (by decide)) (g := (mkF m 183 lv2 [(.ref b4), (.ref b1), (.ref b1)])) rfl (by rw [hml]; rfl) (Steps.refl _) (a := b1) (argsL := [(.ref b4)]) (rest := [(.ref b1)]) (lenOf pd_29 rfl) rfl (own_z rfl) (hb hby at_183) (fun _ _ => ⟨rfl, rfl, (ol rfl), (ol rfl)⟩)
 dsimp only [Pt.U, Pt.locs, Pt.cells, Pt.slots] at X13 l13 y13 z13 st13 hQ13
 subst l13 y13 z13
 obtain ⟨rfl, N13q, Kq13, r13E, ls13, mc13, r13T, r13N, r13L, r13S, r13M, r13D⟩ := hQ13
 have N13 := Fr.app N8 N13q
 have sz14 := Kq13.1
 have K14 := K9.trans Kq13 (own_all1 (Or.inr (by omega)))
 have O14 := O9.keep Kq13 (own_all1 (by omega))
 obtain ⟨ar13, kA13, y13_0, yt13_0, yk13_0, r13A, r13Z, r13V, r13o, r13_0a, r13_0b, r13_0c, r13_0d, r13_0e, r13_0f⟩ := own_pk1 r13D J9
 have ltl13 := lN r13L.lt
 have lsz13 := r13S
 have lta13 := lN r13V.lt
 have aso13 := r13o
 have lty13_0 := lN r13_0a.lt
 have ltt13_0 := lN r13_0d.lt
 have gy13_0 := r13_0e
 have gt13_0 := r13_0f
 refine ot (S' := T13.setTop (mkF m 186 lv2 [(.ref b1)])) st13 ?_
 let lv15 : Array Slot := #[vI p0, vI p1, vI p2, vI p3, vI p4, vI p5, vI c0, vI c1, vI c2, vI s0, vI s1, vR cb, vR xp, vI 1, vR b1, .unset, .unset, .unset, .unset, .unset, .unset, .unset]
 let lv16 : Array Slot := #[vI p0, vI p1, vI p2, vI p3, vI p4, vI p5, vI c0, vI c1, vI c2, vI s0, vI s1, vR cb, vR xp, vI 1, vR b1, vI (p4 &&& (3 : Int32)), .unset, .unset, .unset, .unset, .unset, .unset]
 refine oo (S' := T13.setTop (mkF m 197 lv16 [(.int 1), (.int (p4 &&& (3 : Int32)))])) (fun _ kK => XS.astore X13.here hx rfl (hb hby at_186) rfl rfl (l' := lv15) rfl (XS.iload X13.here hx rfl (hb hby at_188) rfl (XS.iconst X13.here hx rfl (hb hby at_190) (XS.iand X13.here hx rfl (hb hby at_191) rfl (XS.istore X13.here hx rfl (hb hby at_192) rfl (l' := lv16) rfl (XS.iload X13.here hx rfl (hb hby at_194) rfl (XS.iconst X13.here hx rfl (hb hby at_196) kK))))))) ?_
 rcases own_t0 p4 with hr0 | hr0
 ·show OwnEnd _ _ _ _ (T13.setTop (mkF m 197 #[vI p0, vI p1, vI p2, vI p3, vI p4, vI p5, vI c0, vI c1, vI c2, vI s0, vI s1, vR cb, vR xp, vI 1, vR b1, vI (p4 &&& (3 : Int32)), .unset, .unset, .unset, .unset, .unset, .unset] [(.int 1), (.int (p4 &&& (3 : Int32)))]))
  rw [hr0]
  let lv17 : Array Slot := #[vI p0, vI p1, vI p2, vI p3, vI p4, vI p5, vI c0, vI c1, vI c2, vI s0, vI s1, vR cb, vR xp, vI 1, vR b1, vI 0, .unset, .unset, .unset, .unset, .unset, .unset]
  refine oo (S' := T13.setTop (mkF m 258 lv17 [(.int 1), (.int 0)])) (fun _ kK => XS.icmpYes X13.here hx rfl (pc0 := 197) (pc' := 214) rfl (hb hby at_197) rfl (tlt ((by decide : (0 : Int32) < (1 : Int32)))).1 (by decide) (by decide) (XS.iload X13.here hx rfl (hb hby at_214) rfl (XS.iconst X13.here hx rfl (hb hby at_216) (XS.icmpYes X13.here hx rfl (pc0 := 217) (pc' := 234) rfl (hb hby at_217) rfl (tlt ((by decide : (0 : Int32) < (2 : Int32)))).1 (by decide) (by decide) (XS.iload X13.here hx rfl (hb hby at_234) rfl (XS.iconst X13.here hx rfl (hb hby at_236) (XS.icmpYes X13.here hx rfl (pc0 := 237) (pc' := 254) rfl (hb hby at_237) rfl (tlt ((by decide : (0 : Int32) < (3 : Int32)))).1 (by decide) (by decide) (XS.iload X13.here hx rfl (hb hby at_254) rfl (XS.iload X13.here hx rfl (hb hby at_256) rfl kK))))))))) ?_
  obtain ⟨_, _, ⟨T18, L18, k18, n18⟩, -, X18, ⟨Lc18, hQ18, l18, y18, z18⟩, st18⟩ := Jvm.LawKit.callS X13 hx (y := own_m18) hown (mvT hZ (w_ G 250 rfl)) (mvT hZ (w_ G 198 rfl)) (mvT hZ (w_ G 199 rfl)) (mvT hZ (w_ G 200 rfl)) (by decide) (backOf (W := 0) (rmmin0_1 l Z a0 G []  T13.heap n0 O14 ) hZ (w_ G 200 rfl) (w_ G 199 rfl) (by decide) (by decide)) (g := (mkF m 258 lv17 [(.int 1), (.int 0)])) rfl (by rw [hml]; rfl) (argsL := [(.int 0), (.int 1)]) (rest := []) (lenOf pd_9 rfl) rfl (own_z rfl) (hb hby at_258) (fun _ _ => ⟨rfl, rfl, (ol rfl), (ol rfl)⟩)
  dsimp only [Pt.U, Pt.locs, Pt.cells, Pt.slots] at X18 l18 y18 z18 st18 hQ18
  subst l18 y18 z18
  obtain ⟨rfl, N18q, eh18⟩ := hQ18
  have N18 := Fr.app N13 N18q
  refine oo (S' := T18.setTop (mkF m 261 lv17 [(.int 0)])) st18 ?_
  let lv19 : Array Slot := #[vI p0, vI p1, vI p2, vI p3, vI p4, vI p5, vI c0, vI c1, vI c2, vI s0, vI s1, vR cb, vR xp, vI 1, vR b1, vI 0, vI 0, .unset, .unset, .unset, .unset, .unset]
  refine oo (S' := T18.setTop (mkF m 263 lv19 [])) (fun _ kK => XS.istore X18.here hx rfl (hb hby at_261) rfl (l' := lv19) rfl kK) ?_
  have f20 := ((((J2.ext E1).ext E4).keep Kq8).keep Kq13)
  have f21 := ((((J3.ext E1).ext E4).keep Kq8 (own_nin1 (on (by omega)))).keep Kq13 (own_nin1 (on (by omega))))
  have f22 := ((((J4.ext E1).ext E4).keep Kq8 (own_nin1 (on (by omega)))).keep Kq13 (own_nin1 (on (by omega))))
  have f23 := ((((J5.ext E1).ext E4).keep Kq8 (own_nin1 (on (by omega)))).keep Kq13 (own_nin1 (on (by omega))))
  have HP : own_pick Z T13.heap ls13 [(.ref ea0), .null, .null] ((0 : Int32) + (p5 &&& (7 : Int32))) (1 : Int32) := by
   rcases own_ah0_1 p5 with hr | hr
   ·exact Or.inr (by rw [hr]; exact ⟨by decide, by decide, by decide, ar13, kA13, _, ea0, et0, ek0, y13_0, yt13_0, yk13_0, tk0, r13A, r13V, rfl, rfl, f20, f21, f22, f23, r13_0a, r13_0b, r13_0c, r13_0d, own_ne (by omega)⟩)
   ·exact Or.inl hr
  have f24 := ((((J1.ext E1).ext E4).keep Kq8 (own_nin1 (on (by omega)))).keep Kq13 (own_nin1 (on (by omega))))
  exact sfb l Z a0 G p0 p1 p2 p3 p4 p5 h0 n0 O0  Bd hml0 hZ (X18.more (by decide) (by decide)) T13.heap eh18 K14 O14 N18 (by omega) b1 ls13 cb xp kx (0 : Int32) (1 : Int32) (0 : Int32) [(.ref ea0), .null, .null] c0 c1 c2 s0 s1 r13E r13T r13N r13L r13Z f24 (HP)
 ·refine oo (S' := T13.setTop (mkF m 202 lv16 [(.ref b1)])) (fun _ kK => XS.icmpNo X13.here hx rfl (hb hby at_197) rfl (flt (hr0)).1 (XS.aload X13.here hx rfl (hb hby at_200) rfl rfl kK)) ?_
  obtain ⟨cq25, kq25, q25a, q25b, q25c⟩ := isOf hZ rfl r13E
  obtain ⟨_, _, ⟨T25, L25, k25, n25⟩, -, X25, ⟨Lc25, hQ25, l25, y25, z25⟩, st25⟩ := X13.virtualBack hx (y := own_m45) (z := own_m45) hown (mvT hZ (w_ G 299 rfl)) (mvT hZ (w_ G 300 rfl)) (notFace_of_selects (args := #[]) (mvT hZ (w_ G 302 rfl))) (mvT hZ (w_ G 302 rfl)) (mvT hZ (w_ G 301 rfl)) (by decide) (backOf (W := 0) (rmae0 l Z a0 G [] b1 ls13 (0 : Int32) (1 : Int32) T13.heap n0 O14 r13N r13T r13L r13Z (by decide)) hZ (w_ G 303 rfl) (w_ G 35 rfl) (by decide) (by decide)) q25a q25c (g := (mkF m 202 lv16 [(.ref b1)])) rfl (by rw [hml]; rfl) (Steps.refl _) (argsL := []) (rest := []) (lenOf pd_3 rfl) rfl (own_z rfl) (hb hby at_202) (fun _ _ => ⟨rfl, rfl, (ol rfl), (ol rfl)⟩)
  dsimp only [Pt.U, Pt.locs, Pt.cells, Pt.slots] at X25 l25 y25 z25 st25 hQ25
  subst l25 y25 z25
  obtain ⟨rfl, N25q, eh25⟩ := hQ25
  have N25 := Fr.app N13 N25q
  refine ot (S' := T25.setTop (mkF m 205 lv16 [(.int 0)])) st25 ?_
  refine oo (S' := T25.setTop (mkF m 210 lv16 [(.ref b1)])) (fun _ kK => XS.ifNo X25.here hx rfl (hb hby at_205) rfl ((if0 _ _).trans (teq ((by decide : (0 : Int32) = (0 : Int32)))).2) (XS.aload X25.here hx rfl (hb hby at_208) rfl rfl kK)) ?_
  obtain ⟨cq26, kq26, q26a, q26b, q26c⟩ := isOf hZ eh25 r13E
  obtain ⟨_, _, ⟨T26, L26, k26, n26⟩, -, X26, ⟨Lc26, hQ26, l26, y26, z26⟩, st26⟩ := X25.virtualBack hx (y := own_m47) (z := own_m47) hown (mvT hZ (w_ G 304 rfl)) (mvT hZ (w_ G 305 rfl)) (notFace_of_selects (args := #[]) (mvT hZ (w_ G 307 rfl))) (mvT hZ (w_ G 307 rfl)) (mvT hZ (w_ G 306 rfl)) (by decide) (backOf (W := 0) (rmnx l Z a0 G [] b1 ls13 (0 : Int32) (1 : Int32) ar13 kA13 [(.ref y13_0), .null, .null, .null, .null, .null, .null, .null, .null, .null] y13_0 (1 : Int32) T13.heap n0 O14 r13E r13N r13T r13L r13Z r13A r13V (by decide) (by decide) (by decide) (by decide) (by rfl) (by decide) (by omega) (on (by omega)) (on (by omega)) r13_0a) hZ (w_ G 308 rfl) (w_ G 35 rfl) (by decide) (by decide)) q26a q26c (g := (mkF m 210 lv16 [(.ref b1)])) rfl (by rw [hml]; rfl) (Steps.refl _) (argsL := []) (rest := []) (lenOf pd_21 rfl) rfl (own_z rfl) (hb hby at_210) (fun _ _ => ⟨rfl, eh25, (ol rfl), (ol rfl)⟩)
  dsimp only [Pt.U, Pt.locs, Pt.cells, Pt.slots] at X26 l26 y26 z26 st26 hQ26
  subst l26 y26 z26
  obtain ⟨rfl, N26q, Kq26, r26_0, r26_1, r26_2⟩ := hQ26
  have N26 := Fr.app N25 N26q
  have sz27 := Kq26.1
  have K27 := K14.trans Kq26 (own_all1 (Or.inr (by omega)))
  have O27 := O14.keep Kq26 (own_all1 (by omega))
  have ltr26_0 := lN r26_0.lt
  have ltr26_1 := lN r26_1.lt
  have ltr26_2 := lN r26_2.lt
  refine ot (S' := T26.setTop (mkF m 213 lv16 [(.ref y13_0)])) st26 ?_
  refine oo (S' := T26.setTop (mkF m 217 lv16 [(.int 2), (.int (p4 &&& (3 : Int32)))])) (fun _ kK => XS.pop X26.here hx rfl (hb hby at_213) rfl rfl (XS.iload X26.here hx rfl (hb hby at_214) rfl (XS.iconst X26.here hx rfl (hb hby at_216) kK))) ?_
  rcases own_t1 p4 hr0 with hr1 | hr1
  ·show OwnEnd _ _ _ _ (T26.setTop (mkF m 217 #[vI p0, vI p1, vI p2, vI p3, vI p4, vI p5, vI c0, vI c1, vI c2, vI s0, vI s1, vR cb, vR xp, vI 1, vR b1, vI (p4 &&& (3 : Int32)), .unset, .unset, .unset, .unset, .unset, .unset] [(.int 2), (.int (p4 &&& (3 : Int32)))]))
   rw [hr1]
   let lv28 : Array Slot := #[vI p0, vI p1, vI p2, vI p3, vI p4, vI p5, vI c0, vI c1, vI c2, vI s0, vI s1, vR cb, vR xp, vI 1, vR b1, vI 1, .unset, .unset, .unset, .unset, .unset, .unset]
   refine oo (S' := T26.setTop (mkF m 258 lv28 [(.int 1), (.int 1)])) (fun _ kK => XS.icmpYes X26.here hx rfl (pc0 := 217) (pc' := 234) rfl (hb hby at_217) rfl (tlt ((by decide : (1 : Int32) < (2 : Int32)))).1 (by decide) (by decide) (XS.iload X26.here hx rfl (hb hby at_234) rfl (XS.iconst X26.here hx rfl (hb hby at_236) (XS.icmpYes X26.here hx rfl (pc0 := 237) (pc' := 254) rfl (hb hby at_237) rfl (tlt ((by decide : (1 : Int32) < (3 : Int32)))).1 (by decide) (by decide) (XS.iload X26.here hx rfl (hb hby at_254) rfl (XS.iload X26.here hx rfl (hb hby at_256) rfl kK)))))) ?_
   obtain ⟨_, _, ⟨T29, L29, k29, n29⟩, -, X29, ⟨Lc29, hQ29, l29, y29, z29⟩, st29⟩ := Jvm.LawKit.callS X26 hx (y := own_m18) hown (mvT hZ (w_ G 250 rfl)) (mvT hZ (w_ G 198 rfl)) (mvT hZ (w_ G 199 rfl)) (mvT hZ (w_ G 200 rfl)) (by decide) (backOf (W := 0) (rmmin1_1 l Z a0 G []  T26.heap n0 O27 ) hZ (w_ G 200 rfl) (w_ G 199 rfl) (by decide) (by decide)) (g := (mkF m 258 lv28 [(.int 1), (.int 1)])) rfl (by rw [hml]; rfl) (argsL := [(.int 1), (.int 1)]) (rest := []) (lenOf pd_9 rfl) rfl (own_z rfl) (hb hby at_258) (fun _ _ => ⟨rfl, rfl, (ol rfl), (ol rfl)⟩)
   dsimp only [Pt.U, Pt.locs, Pt.cells, Pt.slots] at X29 l29 y29 z29 st29 hQ29
   subst l29 y29 z29
   obtain ⟨rfl, N29q, eh29⟩ := hQ29
   have N29 := Fr.app N26 N29q
   refine oo (S' := T29.setTop (mkF m 261 lv28 [(.int 1)])) st29 ?_
   let lv30 : Array Slot := #[vI p0, vI p1, vI p2, vI p3, vI p4, vI p5, vI c0, vI c1, vI c2, vI s0, vI s1, vR cb, vR xp, vI 1, vR b1, vI 1, vI 1, .unset, .unset, .unset, .unset, .unset]
   refine oo (S' := T29.setTop (mkF m 263 lv30 [])) (fun _ kK => XS.istore X29.here hx rfl (hb hby at_261) rfl (l' := lv30) rfl kK) ?_
   have HP : own_pick Z T26.heap ls13 [(.ref ea0), .null, .null] ((1 : Int32) + (p5 &&& (7 : Int32))) (1 : Int32) := Or.inl (own_ah1_1 p5)
   have f31 := (r13L.keep Kq26)
   have f32 := (r13Z.keep Kq26 (own_nin1 (on (by omega))))
   have f33 := (((((J1.ext E1).ext E4).keep Kq8 (own_nin1 (on (by omega)))).keep Kq13 (own_nin1 (on (by omega)))).keep Kq26 (own_nin1 (on (by omega))))
   exact sfb l Z a0 G p0 p1 p2 p3 p4 p5 h0 n0 O0  Bd hml0 hZ (X29.more (by decide) (by decide)) T26.heap eh29 K27 O27 N29 (by omega) b1 ls13 cb xp kx (1 : Int32) (1 : Int32) (1 : Int32) [(.ref ea0), .null, .null] c0 c1 c2 s0 s1 r26_0 r26_1 r26_2 f31 f32 f33 (HP)
  ·refine oo (S' := T26.setTop (mkF m 222 lv16 [(.ref b1)])) (fun _ kK => XS.icmpNo X26.here hx rfl (hb hby at_217) rfl (flt (hr1)).1 (XS.aload X26.here hx rfl (hb hby at_220) rfl rfl kK)) ?_
   have f34 := (r13L.keep Kq26)
   have f35 := (r13Z.keep Kq26 (own_nin1 (on (by omega))))
   obtain ⟨cq36, kq36, q36a, q36b, q36c⟩ := isOf hZ rfl r26_0
   obtain ⟨_, _, ⟨T36, L36, k36, n36⟩, -, X36, ⟨Lc36, hQ36, l36, y36, z36⟩, st36⟩ := X26.virtualBack hx (y := own_m45) (z := own_m45) hown (mvT hZ (w_ G 299 rfl)) (mvT hZ (w_ G 300 rfl)) (notFace_of_selects (args := #[]) (mvT hZ (w_ G 302 rfl))) (mvT hZ (w_ G 302 rfl)) (mvT hZ (w_ G 301 rfl)) (by decide) (backOf (W := 0) (rmae1 l Z a0 G [] b1 ls13 (1 : Int32) (1 : Int32) T26.heap n0 O27 r26_2 r26_1 f34 f35 (by decide)) hZ (w_ G 303 rfl) (w_ G 35 rfl) (by decide) (by decide)) q36a q36c (g := (mkF m 222 lv16 [(.ref b1)])) rfl (by rw [hml]; rfl) (Steps.refl _) (argsL := []) (rest := []) (lenOf pd_3 rfl) rfl (own_z rfl) (hb hby at_222) (fun _ _ => ⟨rfl, rfl, (ol rfl), (ol rfl)⟩)
   dsimp only [Pt.U, Pt.locs, Pt.cells, Pt.slots] at X36 l36 y36 z36 st36 hQ36
   subst l36 y36 z36
   obtain ⟨rfl, N36q, eh36⟩ := hQ36
   have N36 := Fr.app N26 N36q
   refine ot (S' := T36.setTop (mkF m 225 lv16 [(.int 1)])) st36 ?_
   refine oo (S' := T36.setTop (mkF m 237 lv16 [(.int 3), (.int (p4 &&& (3 : Int32)))])) (fun _ kK => XS.ifYes X36.here hx rfl (pc0 := 225) (pc' := 234) rfl (hb hby at_225) rfl ((if0 _ _).trans (feq ((by decide : ¬ ((1 : Int32) = (0 : Int32))))).2) (by decide) (by decide) (XS.iload X36.here hx rfl (hb hby at_234) rfl (XS.iconst X36.here hx rfl (hb hby at_236) kK))) ?_
   rcases own_t2 p4 hr1 with hr2 | hr2
   ·show OwnEnd _ _ _ _ (T36.setTop (mkF m 237 #[vI p0, vI p1, vI p2, vI p3, vI p4, vI p5, vI c0, vI c1, vI c2, vI s0, vI s1, vR cb, vR xp, vI 1, vR b1, vI (p4 &&& (3 : Int32)), .unset, .unset, .unset, .unset, .unset, .unset] [(.int 3), (.int (p4 &&& (3 : Int32)))]))
    rw [hr2]
    let lv37 : Array Slot := #[vI p0, vI p1, vI p2, vI p3, vI p4, vI p5, vI c0, vI c1, vI c2, vI s0, vI s1, vR cb, vR xp, vI 1, vR b1, vI 2, .unset, .unset, .unset, .unset, .unset, .unset]
    refine oo (S' := T36.setTop (mkF m 258 lv37 [(.int 1), (.int 2)])) (fun _ kK => XS.icmpYes X36.here hx rfl (pc0 := 237) (pc' := 254) rfl (hb hby at_237) rfl (tlt ((by decide : (2 : Int32) < (3 : Int32)))).1 (by decide) (by decide) (XS.iload X36.here hx rfl (hb hby at_254) rfl (XS.iload X36.here hx rfl (hb hby at_256) rfl kK))) ?_
    obtain ⟨_, _, ⟨T38, L38, k38, n38⟩, -, X38, ⟨Lc38, hQ38, l38, y38, z38⟩, st38⟩ := Jvm.LawKit.callS X36 hx (y := own_m18) hown (mvT hZ (w_ G 250 rfl)) (mvT hZ (w_ G 198 rfl)) (mvT hZ (w_ G 199 rfl)) (mvT hZ (w_ G 200 rfl)) (by decide) (backOf (W := 0) (rmmin2_1 l Z a0 G []  T26.heap n0 O27 ) hZ (w_ G 200 rfl) (w_ G 199 rfl) (by decide) (by decide)) (g := (mkF m 258 lv37 [(.int 1), (.int 2)])) rfl (by rw [hml]; rfl) (argsL := [(.int 2), (.int 1)]) (rest := []) (lenOf pd_9 rfl) rfl (own_z rfl) (hb hby at_258) (fun _ _ => ⟨rfl, eh36, (ol rfl), (ol rfl)⟩)
    dsimp only [Pt.U, Pt.locs, Pt.cells, Pt.slots] at X38 l38 y38 z38 st38 hQ38
    subst l38 y38 z38
    obtain ⟨rfl, N38q, eh38⟩ := hQ38
    have N38 := Fr.app N36 N38q
    refine oo (S' := T38.setTop (mkF m 261 lv37 [(.int 1)])) st38 ?_
    let lv39 : Array Slot := #[vI p0, vI p1, vI p2, vI p3, vI p4, vI p5, vI c0, vI c1, vI c2, vI s0, vI s1, vR cb, vR xp, vI 1, vR b1, vI 2, vI 1, .unset, .unset, .unset, .unset, .unset]
    refine oo (S' := T38.setTop (mkF m 263 lv39 [])) (fun _ kK => XS.istore X38.here hx rfl (hb hby at_261) rfl (l' := lv39) rfl kK) ?_
    have HP : own_pick Z T26.heap ls13 [(.ref ea0), .null, .null] ((1 : Int32) + (p5 &&& (7 : Int32))) (1 : Int32) := Or.inl (own_ah1_1 p5)
    have f40 := (((((J1.ext E1).ext E4).keep Kq8 (own_nin1 (on (by omega)))).keep Kq13 (own_nin1 (on (by omega)))).keep Kq26 (own_nin1 (on (by omega))))
    exact sfb l Z a0 G p0 p1 p2 p3 p4 p5 h0 n0 O0  Bd hml0 hZ (X38.more (by decide) (by decide)) T26.heap eh38 K27 O27 N38 (by omega) b1 ls13 cb xp kx (2 : Int32) (1 : Int32) (1 : Int32) [(.ref ea0), .null, .null] c0 c1 c2 s0 s1 r26_0 r26_1 r26_2 f34 f35 f40 (HP)
   ·show OwnEnd _ _ _ _ (T36.setTop (mkF m 237 #[vI p0, vI p1, vI p2, vI p3, vI p4, vI p5, vI c0, vI c1, vI c2, vI s0, vI s1, vR cb, vR xp, vI 1, vR b1, vI (p4 &&& (3 : Int32)), .unset, .unset, .unset, .unset, .unset, .unset] [(.int 3), (.int (p4 &&& (3 : Int32)))]))
    rw [hr2]
    let lv41 : Array Slot := #[vI p0, vI p1, vI p2, vI p3, vI p4, vI p5, vI c0, vI c1, vI c2, vI s0, vI s1, vR cb, vR xp, vI 1, vR b1, vI 3, .unset, .unset, .unset, .unset, .unset, .unset]
    refine oo (S' := T36.setTop (mkF m 242 lv41 [(.ref b1)])) (fun _ kK => XS.icmpNo X36.here hx rfl (hb hby at_237) rfl (flt ((by decide : ¬ ((3 : Int32) < (3 : Int32))))).1 (XS.aload X36.here hx rfl (hb hby at_240) rfl rfl kK)) ?_
    obtain ⟨cq42, kq42, q42a, q42b, q42c⟩ := isOf hZ eh36 r26_0
    obtain ⟨_, _, ⟨T42, L42, k42, n42⟩, -, X42, ⟨Lc42, hQ42, l42, y42, z42⟩, st42⟩ := X36.virtualBack hx (y := own_m45) (z := own_m45) hown (mvT hZ (w_ G 299 rfl)) (mvT hZ (w_ G 300 rfl)) (notFace_of_selects (args := #[]) (mvT hZ (w_ G 302 rfl))) (mvT hZ (w_ G 302 rfl)) (mvT hZ (w_ G 301 rfl)) (by decide) (backOf (W := 0) (rmae1 l Z a0 G [] b1 ls13 (1 : Int32) (1 : Int32) T26.heap n0 O27 r26_2 r26_1 f34 f35 (by decide)) hZ (w_ G 303 rfl) (w_ G 35 rfl) (by decide) (by decide)) q42a q42c (g := (mkF m 242 lv41 [(.ref b1)])) rfl (by rw [hml]; rfl) (Steps.refl _) (argsL := []) (rest := []) (lenOf pd_3 rfl) rfl (own_z rfl) (hb hby at_242) (fun _ _ => ⟨rfl, eh36, (ol rfl), (ol rfl)⟩)
    dsimp only [Pt.U, Pt.locs, Pt.cells, Pt.slots] at X42 l42 y42 z42 st42 hQ42
    subst l42 y42 z42
    obtain ⟨rfl, N42q, eh42⟩ := hQ42
    have N42 := Fr.app N36 N42q
    refine ot (S' := T42.setTop (mkF m 245 lv41 [(.int 1)])) st42 ?_
    refine oo (S' := T42.setTop (mkF m 258 lv41 [(.int 1), (.int 3)])) (fun _ kK => XS.ifYes X42.here hx rfl (pc0 := 245) (pc' := 254) rfl (hb hby at_245) rfl ((if0 _ _).trans (feq ((by decide : ¬ ((1 : Int32) = (0 : Int32))))).2) (by decide) (by decide) (XS.iload X42.here hx rfl (hb hby at_254) rfl (XS.iload X42.here hx rfl (hb hby at_256) rfl kK))) ?_
    obtain ⟨_, _, ⟨T43, L43, k43, n43⟩, -, X43, ⟨Lc43, hQ43, l43, y43, z43⟩, st43⟩ := Jvm.LawKit.callS X42 hx (y := own_m18) hown (mvT hZ (w_ G 250 rfl)) (mvT hZ (w_ G 198 rfl)) (mvT hZ (w_ G 199 rfl)) (mvT hZ (w_ G 200 rfl)) (by decide) (backOf (W := 0) (rmmin3_1 l Z a0 G []  T26.heap n0 O27 ) hZ (w_ G 200 rfl) (w_ G 199 rfl) (by decide) (by decide)) (g := (mkF m 258 lv41 [(.int 1), (.int 3)])) rfl (by rw [hml]; rfl) (argsL := [(.int 3), (.int 1)]) (rest := []) (lenOf pd_9 rfl) rfl (own_z rfl) (hb hby at_258) (fun _ _ => ⟨rfl, eh42, (ol rfl), (ol rfl)⟩)
    dsimp only [Pt.U, Pt.locs, Pt.cells, Pt.slots] at X43 l43 y43 z43 st43 hQ43
    subst l43 y43 z43
    obtain ⟨rfl, N43q, eh43⟩ := hQ43
    have N43 := Fr.app N42 N43q
    refine oo (S' := T43.setTop (mkF m 261 lv41 [(.int 1)])) st43 ?_
    let lv44 : Array Slot := #[vI p0, vI p1, vI p2, vI p3, vI p4, vI p5, vI c0, vI c1, vI c2, vI s0, vI s1, vR cb, vR xp, vI 1, vR b1, vI 3, vI 1, .unset, .unset, .unset, .unset, .unset]
    refine oo (S' := T43.setTop (mkF m 263 lv44 [])) (fun _ kK => XS.istore X43.here hx rfl (hb hby at_261) rfl (l' := lv44) rfl kK) ?_
    have HP : own_pick Z T26.heap ls13 [(.ref ea0), .null, .null] ((1 : Int32) + (p5 &&& (7 : Int32))) (1 : Int32) := Or.inl (own_ah1_1 p5)
    have f45 := (((((J1.ext E1).ext E4).keep Kq8 (own_nin1 (on (by omega)))).keep Kq13 (own_nin1 (on (by omega)))).keep Kq26 (own_nin1 (on (by omega))))
    exact sfb l Z a0 G p0 p1 p2 p3 p4 p5 h0 n0 O0  Bd hml0 hZ (X43.more (by decide) (by decide)) T26.heap eh43 K27 O27 N43 (by omega) b1 ls13 cb xp kx (3 : Int32) (1 : Int32) (1 : Int32) [(.ref ea0), .null, .null] c0 c1 c2 s0 s1 r26_0 r26_1 r26_2 f34 f35 f45 (HP)

theorem own_efmin0_2 (m : MethodId) : entryFrame m #[(.int 0), (.int 2)] 2 = mkF m 0 #[vI 0, vI 2] [] := by first | (simp [entryFrame, mkF, argsToLocals, Value.category]; done) | rfl
set_option maxRecDepth 65536 in
set_option maxHeartbeats 40000000 in
theorem rmmin0_2 (l : Launch) (Z : State) (a0 : Array Value) (G : OwnG Z a0) (ws : List Jvm.Cond)  (h0 : Heap) (n0 : Nat) (O0 : Old Z n0 h0)  :
  MetFree l own_m18 (head1 (Jvm.Cond.code own_m18 B28 2 (some .int) :: ws) (rR 0 0 0 0)) (fun a U => a = #[(.int 0), (.int 2)] ∧ Z.Warmed39 U.vm ∧ U.heap = h0) (fun _ _ _ _ _ => True) (fun _ U o U' => ∃ v L, o = .returned v ∧ (own_Qint (0 : Int32)) h0 n0 v U'.heap L ∧ FrameEnd U o U' L (rR 0 0 0 0).cells (rR 0 0 0 0).slots) := by
 refine MetFree.of_bodySF (Jvm.Free.JP.mathPlain rfl (by decide +kernel)) hisR ?_
 intro p e s m args below meth cD s₁ Bd hml0 hP hK
 obtain ⟨rfl, hZ, hh⟩ := hP
 have hml : cD.maxLocals = 2 := hml0
 obtain ⟨hx, hby, (hown : s.vm.findClass j8 = some m.cls), hlk, X0, e0⟩ := own_st Bd hh
 have Z0 := own_old_le O0
 have N0 := Fr.nil n0
 refine OwnEnd.start (g' := (mkF m 0 #[vI 0, vI 2] [])) (own_efmin0_2 m ) ?_
 refine oo (S' := s₁.setTop (mkF m 10 #[vI 0, vI 2] [(.int 0)])) (fun _ kK => XS.iloadN X0.here hx rfl (hb hby d19_0) rfl (XS.iloadN X0.here hx rfl (hb hby d19_1) rfl (XS.icmpNo X0.here hx rfl (hb hby d19_2) rfl (flt ((by decide : ¬ ((2 : Int32) < (0 : Int32))))).2.2.1 (XS.iloadN X0.here hx rfl (hb hby d19_5) rfl (XS.goto X0.here hx rfl (pc0 := 6) (pc' := 10) rfl (hb hby d19_6) (by decide) (by decide) kK))))) ?_
 refine OwnEnd.ret X0 (v := (some (.int 0))) (fun h => by rw [Bd.returns] at h; cases h) hlk (fun fs hr => retOut X0 hx Bd.returns rfl (Or.inl ⟨rfl, Or.inl rfl, _, rfl⟩) (hb hby d19_10) hr) (by decide) (by decide) (Q := (own_Qint (0 : Int32)) h0 n0) e0 ?_
 exact ⟨rfl, N0, rfl⟩

theorem own_efmin1_2 (m : MethodId) : entryFrame m #[(.int 1), (.int 2)] 2 = mkF m 0 #[vI 1, vI 2] [] := by first | (simp [entryFrame, mkF, argsToLocals, Value.category]; done) | rfl
set_option maxRecDepth 65536 in
set_option maxHeartbeats 40000000 in
theorem rmmin1_2 (l : Launch) (Z : State) (a0 : Array Value) (G : OwnG Z a0) (ws : List Jvm.Cond)  (h0 : Heap) (n0 : Nat) (O0 : Old Z n0 h0)  :
  MetFree l own_m18 (head1 (Jvm.Cond.code own_m18 B28 2 (some .int) :: ws) (rR 0 0 0 0)) (fun a U => a = #[(.int 1), (.int 2)] ∧ Z.Warmed39 U.vm ∧ U.heap = h0) (fun _ _ _ _ _ => True) (fun _ U o U' => ∃ v L, o = .returned v ∧ (own_Qint (1 : Int32)) h0 n0 v U'.heap L ∧ FrameEnd U o U' L (rR 0 0 0 0).cells (rR 0 0 0 0).slots) := by
 refine MetFree.of_bodySF (Jvm.Free.JP.mathPlain rfl (by decide +kernel)) hisR ?_
 intro p e s m args below meth cD s₁ Bd hml0 hP hK
 obtain ⟨rfl, hZ, hh⟩ := hP
 have hml : cD.maxLocals = 2 := hml0
 obtain ⟨hx, hby, (hown : s.vm.findClass j8 = some m.cls), hlk, X0, e0⟩ := own_st Bd hh
 have Z0 := own_old_le O0
 have N0 := Fr.nil n0
 refine OwnEnd.start (g' := (mkF m 0 #[vI 1, vI 2] [])) (own_efmin1_2 m ) ?_
 refine oo (S' := s₁.setTop (mkF m 10 #[vI 1, vI 2] [(.int 1)])) (fun _ kK => XS.iloadN X0.here hx rfl (hb hby d19_0) rfl (XS.iloadN X0.here hx rfl (hb hby d19_1) rfl (XS.icmpNo X0.here hx rfl (hb hby d19_2) rfl (flt ((by decide : ¬ ((2 : Int32) < (1 : Int32))))).2.2.1 (XS.iloadN X0.here hx rfl (hb hby d19_5) rfl (XS.goto X0.here hx rfl (pc0 := 6) (pc' := 10) rfl (hb hby d19_6) (by decide) (by decide) kK))))) ?_
 refine OwnEnd.ret X0 (v := (some (.int 1))) (fun h => by rw [Bd.returns] at h; cases h) hlk (fun fs hr => retOut X0 hx Bd.returns rfl (Or.inl ⟨rfl, Or.inl rfl, _, rfl⟩) (hb hby d19_10) hr) (by decide) (by decide) (Q := (own_Qint (1 : Int32)) h0 n0) e0 ?_
 exact ⟨rfl, N0, rfl⟩

theorem own_efmin2_2 (m : MethodId) : entryFrame m #[(.int 2), (.int 2)] 2 = mkF m 0 #[vI 2, vI 2] [] := by first | (simp [entryFrame, mkF, argsToLocals, Value.category]; done) | rfl
set_option maxRecDepth 65536 in
set_option maxHeartbeats 40000000 in
theorem rmmin2_2 (l : Launch) (Z : State) (a0 : Array Value) (G : OwnG Z a0) (ws : List Jvm.Cond)  (h0 : Heap) (n0 : Nat) (O0 : Old Z n0 h0)  :
  MetFree l own_m18 (head1 (Jvm.Cond.code own_m18 B28 2 (some .int) :: ws) (rR 0 0 0 0)) (fun a U => a = #[(.int 2), (.int 2)] ∧ Z.Warmed39 U.vm ∧ U.heap = h0) (fun _ _ _ _ _ => True) (fun _ U o U' => ∃ v L, o = .returned v ∧ (own_Qint (2 : Int32)) h0 n0 v U'.heap L ∧ FrameEnd U o U' L (rR 0 0 0 0).cells (rR 0 0 0 0).slots) := by
 refine MetFree.of_bodySF (Jvm.Free.JP.mathPlain rfl (by decide +kernel)) hisR ?_
 intro p e s m args below meth cD s₁ Bd hml0 hP hK
 obtain ⟨rfl, hZ, hh⟩ := hP
 have hml : cD.maxLocals = 2 := hml0
 obtain ⟨hx, hby, (hown : s.vm.findClass j8 = some m.cls), hlk, X0, e0⟩ := own_st Bd hh
 have Z0 := own_old_le O0
 have N0 := Fr.nil n0
 refine OwnEnd.start (g' := (mkF m 0 #[vI 2, vI 2] [])) (own_efmin2_2 m ) ?_
 refine oo (S' := s₁.setTop (mkF m 10 #[vI 2, vI 2] [(.int 2)])) (fun _ kK => XS.iloadN X0.here hx rfl (hb hby d19_0) rfl (XS.iloadN X0.here hx rfl (hb hby d19_1) rfl (XS.icmpNo X0.here hx rfl (hb hby d19_2) rfl (flt ((by decide : ¬ ((2 : Int32) < (2 : Int32))))).2.2.1 (XS.iloadN X0.here hx rfl (hb hby d19_5) rfl (XS.goto X0.here hx rfl (pc0 := 6) (pc' := 10) rfl (hb hby d19_6) (by decide) (by decide) kK))))) ?_
 refine OwnEnd.ret X0 (v := (some (.int 2))) (fun h => by rw [Bd.returns] at h; cases h) hlk (fun fs hr => retOut X0 hx Bd.returns rfl (Or.inl ⟨rfl, Or.inl rfl, _, rfl⟩) (hb hby d19_10) hr) (by decide) (by decide) (Q := (own_Qint (2 : Int32)) h0 n0) e0 ?_
 exact ⟨rfl, N0, rfl⟩

theorem own_efmin3_2 (m : MethodId) : entryFrame m #[(.int 3), (.int 2)] 2 = mkF m 0 #[vI 3, vI 2] [] := by first | (simp [entryFrame, mkF, argsToLocals, Value.category]; done) | rfl
set_option maxRecDepth 65536 in
set_option maxHeartbeats 40000000 in
theorem rmmin3_2 (l : Launch) (Z : State) (a0 : Array Value) (G : OwnG Z a0) (ws : List Jvm.Cond)  (h0 : Heap) (n0 : Nat) (O0 : Old Z n0 h0)  :
  MetFree l own_m18 (head1 (Jvm.Cond.code own_m18 B28 2 (some .int) :: ws) (rR 0 0 0 0)) (fun a U => a = #[(.int 3), (.int 2)] ∧ Z.Warmed39 U.vm ∧ U.heap = h0) (fun _ _ _ _ _ => True) (fun _ U o U' => ∃ v L, o = .returned v ∧ (own_Qint (2 : Int32)) h0 n0 v U'.heap L ∧ FrameEnd U o U' L (rR 0 0 0 0).cells (rR 0 0 0 0).slots) := by
 refine MetFree.of_bodySF (Jvm.Free.JP.mathPlain rfl (by decide +kernel)) hisR ?_
 intro p e s m args below meth cD s₁ Bd hml0 hP hK
 obtain ⟨rfl, hZ, hh⟩ := hP
 have hml : cD.maxLocals = 2 := hml0
 obtain ⟨hx, hby, (hown : s.vm.findClass j8 = some m.cls), hlk, X0, e0⟩ := own_st Bd hh
 have Z0 := own_old_le O0
 have N0 := Fr.nil n0
 refine OwnEnd.start (g' := (mkF m 0 #[vI 3, vI 2] [])) (own_efmin3_2 m ) ?_
 refine oo (S' := s₁.setTop (mkF m 10 #[vI 3, vI 2] [(.int 2)])) (fun _ kK => XS.iloadN X0.here hx rfl (hb hby d19_0) rfl (XS.iloadN X0.here hx rfl (hb hby d19_1) rfl (XS.icmpYes X0.here hx rfl (pc0 := 2) (pc' := 9) rfl (hb hby d19_2) rfl (tlt ((by decide : (2 : Int32) < (3 : Int32)))).2.2.1 (by decide) (by decide) (XS.iloadN X0.here hx rfl (hb hby d19_9) rfl kK)))) ?_
 refine OwnEnd.ret X0 (v := (some (.int 2))) (fun h => by rw [Bd.returns] at h; cases h) hlk (fun fs hr => retOut X0 hx Bd.returns rfl (Or.inl ⟨rfl, Or.inl rfl, _, rfl⟩) (hb hby d19_10) hr) (by decide) (by decide) (Q := (own_Qint (2 : Int32)) h0 n0) e0 ?_
 exact ⟨rfl, N0, rfl⟩

set_option maxRecDepth 65536 in
set_option maxHeartbeats 40000000 in
theorem sfa2 (l : Launch) (Z : State) (a0 : Array Value) (G : OwnG Z a0) (p0 : Int32) (p1 : Int32) (p2 : Int32) (p3 : Int32) (p4 : Int32) (p5 : Int32) (h0 : Heap) (n0 : Nat) (O0 : Old Z n0 h0)  {p : Program} {e : Env} {s : State} {m : MethodId} {below : List Frame} {meth : Method} {cD : Code} {s₁ : State} {Sp : Spec} (Bd : BodyLoose p l x Sp code maxLocals ret e s m #[(.int p0), (.int p1), (.int p2), (.int p3), (.int p4), (.int p5)] below meth cD s₁) (hml0 : cD.maxLocals = maxLocals) (hZ : Z.Warmed39 s.vm) {TJ : State} {locs : List Loc} (XJ : Stand p l e room_1 s m #[(.int p0), (.int p1), (.int p2), (.int p3), (.int p4), (.int p5)] below meth cD TJ locs 12 40) (hJ : Heap) (eJ : TJ.heap = hJ) (KJ : Keep h0 hJ []) (OJ : Old Z n0 hJ) (NJ : Fr n0 locs) (szJ : Array.size h0 ≤ Array.size hJ) (c0 : Int32) (c1 : Int32) (c2 : Int32) (s0 : Int32) (s1 : Int32) (cb : Addr) (kc : ClassId) (xp : Addr) (kx : ClassId) (ea0 : Addr) (et0 : Addr) (ek0 : ClassId) (tk0 : Int32) (ea1 : Addr) (et1 : Addr) (ek1 : ClassId) (tk1 : Int32) (J0 : Arv Z hJ cb kc .char (5 : Int32) [(.int c0), (.int s0), (.int c1), (.int s1), (.int c2)] (.int 0)) (J1 : Arv Z hJ xp kx (.object j1) (3 : Int32) [(.ref ea0), (.ref ea1), .null] .null) (J2 : Exa Z hJ ea0 j1) (J3 : Fld Z hJ ea0 j1 "value" "[B" (.ref et0)) (J4 : Fld Z hJ ea0 j1 "coder" "B" (.int 0)) (J5 : Arv Z hJ et0 ek0 .byte (1 : Int32) [(.int (StrChars.lo8 tk0))] (.int 0)) (J6 : Exa Z hJ ea1 j1) (J7 : Fld Z hJ ea1 j1 "value" "[B" (.ref et1)) (J8 : Fld Z hJ ea1 j1 "coder" "B" (.int 0)) (J9 : Arv Z hJ et1 ek1 .byte (1 : Int32) [(.int (StrChars.lo8 tk1))] (.int 0)) (J10 : ∀ c ∈ ([c0, s0, c1, s1, c2] : List Int32), ¬ c < (0 : Int32) ∧ ¬ (255 : Int32) < c) (J11 : s0 = (32 : Int32) ∨ s0 = (9 : Int32)) (J12 : s1 = (32 : Int32) ∨ s1 = (9 : Int32)) (J13 : own_nb [c0, c1, c2] = [tk0, tk1]) :
  OwnEnd p e below (fun o t => ∃ v L, o = .returned v ∧ own_Qlaw h0 n0 v t.heap L ∧ FrameEnd s o t L room_1.cells room_1.slots) (TJ.setTop (mkF m 170 #[vI p0, vI p1, vI p2, vI p3, vI p4, vI p5, vI c0, vI c1, vI c2, vI s0, vI s1, vR cb, vR xp, vI 2, .unset, .unset, .unset, .unset, .unset, .unset, .unset, .unset] [])) := by
 have hw := G.1
 have hx := Bd.exec
 have hby := Bd.bytes
 have hml : cD.maxLocals = 22 := hml0
 have hown : s.vm.findClass j7 = some m.cls := findClass_of_methodNamed Bd.named
 have hlk := Bd.notSynchronized
 have ltJ0 := lN J0.lt
 have ltJ1 := lN J1.lt
 have ltJ2 := lN J2.lt
 have ltJ3 := lN J3.lt
 have ltJ4 := lN J4.lt
 have ltJ5 := lN J5.lt
 have ltJ6 := lN J6.lt
 have ltJ7 := lN J7.lt
 have ltJ8 := lN J8.lt
 have ltJ9 := lN J9.lt
 have Z0 := own_old_le O0
 obtain ⟨zCS, SCS, PCS⟩ := own_cs G
 obtain ⟨aD, kD, SD, AD⟩ := own_dflt G
 have hlat := J10
 let lv2 : Array Slot := #[vI p0, vI p1, vI p2, vI p3, vI p4, vI p5, vI c0, vI c1, vI c2, vI s0, vI s1, vR cb, vR xp, vI 2, .unset, .unset, .unset, .unset, .unset, .unset, .unset, .unset]
 obtain ⟨T1, h1, X1, e1, E1, A1, D1, -, st1⟩ := newO XJ hx hZ hown (w_ G 33 rfl) (w_ G 34 rfl) (w_ G 35 rfl) eJ (g := (mkF m 170 lv2 [])) rfl (hb hby at_170) (by decide) (by decide)
 obtain ⟨b1, g1⟩ : ∃ z, z = Array.size hJ := ⟨_, rfl⟩
 rw [← g1] at A1 D1 st1
 have lt_b1 := lN A1.lt
 have sz3 := E1.1
 have K3 := KJ.ext E1
 have O3 := OJ.ext E1
 have F1_tokens : Fld Z h1 b1 j3 "tokens" "Ljava/util/List;" .null := D1 (Or.inr (w_ G 81 rfl)) (ty := (.object j9)) (by decide)
 have F1_next : Fld Z h1 b1 j3 "next" "I" (.int 0) := D1 (Or.inl (w_ G 257 rfl)) (ty := .int) (by decide)
 refine oo (S' := T1.setTop (mkF m 173 lv2 [(.ref b1)])) st1 ?_
 refine oo (S' := T1.setTop (mkF m 174 lv2 [(.ref b1), (.ref b1)])) (fun _ kK => XS.dup X1.here hx rfl (hb hby at_173) rfl rfl kK) ?_
 obtain ⟨T4, h4, X4, e4, E4, A4, D4, -, st4⟩ := newO X1 hx hZ hown (w_ G 1 rfl) (w_ G 17 rfl) (w_ G 9 rfl) e1 (g := (mkF m 174 lv2 [(.ref b1), (.ref b1)])) rfl (hb hby at_174) (by decide) (by decide)
 obtain ⟨b4, g4⟩ : ∃ z, z = Array.size h1 := ⟨_, rfl⟩
 rw [← g4] at A4 D4 st4
 have lt_b4 := lN A4.lt
 have sz5 := E4.1
 have K5 := K3.ext E4
 have O5 := O3.ext E4
 have F4_value : Fld Z h4 b4 j1 "value" "[B" .null := D4 (Or.inr (w_ G 30 rfl)) (ty := (.array .byte)) (by decide)
 have F4_coder : Fld Z h4 b4 j1 "coder" "B" (.int 0) := D4 (Or.inr (w_ G 32 rfl)) (ty := .byte) (by decide)
 refine oo (S' := T4.setTop (mkF m 177 lv2 [(.ref b4), (.ref b1), (.ref b1)])) st4 ?_
 refine oo (S' := T4.setTop (mkF m 180 lv2 [(.ref cb), (.ref b4), (.ref b4), (.ref b1), (.ref b1)])) (fun _ kK => XS.dup X4.here hx rfl (hb hby at_177) rfl rfl (XS.aload X4.here hx rfl (hb hby at_178) rfl rfl kK)) ?_
 have f6 := ((J0.ext E1).ext E4)
 have hws : ∀ d ∈ StrChars.Road.words, d.before a0 Z = true := fun d hd => hw d (own_words d hd)
 have hp7 : ∀ c ∈ ([c0, s0, c1, s1, c2] : List Int32), ¬ c < 0 ∧ ¬ (255 : Int32) < c := hlat
 obtain ⟨_, _, ⟨T8, L8, k8, n8⟩, -, X8, ⟨Lc8, hQ8, l8, y8, z8⟩, st8⟩ := Jvm.Stand.specialBack X4 hx (y := own_m53) rfl hown (mvT hZ (w_ G 36 rfl)) (mvT hZ (w_ G 37 rfl)) (mvT hZ (w_ G 38 rfl)) (by decide) (StrChars.Road.backV (W := 3) hZ hws (kI := 4) (w_ G 17 rfl) (cs := [c0, s0, c1, s1, c2]) (bs := ([c0, s0, c1, s1, c2] : List Int32).map (fun c => c.toInt8.toInt32)) (n := 5) (n0 := n0) (by omega) (by omega) A4 F4_value F4_coder f6 (SCS.ext O5.2) PCS rfl rfl (by decide) (by decide) hp7 rfl (by decide) (by decide)) (g := (mkF m 180 lv2 [(.ref cb), (.ref b4), (.ref b4), (.ref b1), (.ref b1)])) rfl (by rw [hml]; rfl) (Steps.refl _) (a := b4) (argsL := [(.ref cb)]) (rest := [(.ref b4), (.ref b1), (.ref b1)]) (lenOf pd_28 rfl) rfl (own_z rfl) (hb hby at_180) (fun _ _ => ⟨rfl, e4, (ol rfl), (ol rfl)⟩)
 dsimp only [Pt.U, Pt.locs, Pt.cells, Pt.slots] at X8 l8 y8 z8 st8 hQ8
 subst l8 y8 z8
 obtain ⟨rfl, N8q, Kq8, r8E, r8C, t8, kb8, u8, w8, x8, r8V, r8A⟩ := hQ8
 have N8 := Fr.app NJ N8q
 have sz9 := Kq8.1
 have K9 := K5.trans Kq8 (own_all1 (Or.inr (by omega)))
 have O9 := O5.keep Kq8 (own_all1 (by omega))
 have lt_t8 := lN r8A.lt
 refine ot (S' := T8.setTop (mkF m 183 lv2 [(.ref b4), (.ref b1), (.ref b1)])) st8 ?_
 have f10 := ((A1.ext E4).keep Kq8)
 have f11 := ((F1_tokens.ext E4).keep Kq8 (own_nin1 (on (by omega))))
 have f12 := ((F1_next.ext E4).keep Kq8 (own_nin1 (on (by omega))))
 obtain ⟨_, _, ⟨T13, L13, k13, n13⟩, -, X13, ⟨Lc13, hQ13, l13, y13, z13⟩, st13⟩ := Jvm.Stand.specialBack X8 hx (y := own_m43) rfl hown (mvT hZ (w_ G 52 rfl)) (mvT hZ (w_ G 53 rfl)) (mvT hZ (w_ G 54 rfl)) (by decide) (backOf (W := 1) (rmti l Z a0 G [] b1 b4 t8 kb8 .null c0 s0 c1 s1 c2 aD kD T8.heap n0 O9 f10 f11 f12 (by omega) r8E r8V r8C r8A (on (by omega)) (on (by omega)) J10 J11 J12 SD AD) hZ (w_ G 54 rfl) (w_ G 35 rfl) (by decide) (by decide)) (g := (mkF m 183 lv2 [(.ref b4), (.ref b1), (.ref b1)])) rfl (by rw [hml]; rfl) (Steps.refl _) (a := b1) (argsL := [(.ref b4)]) (rest := [(.ref b1)]) (lenOf pd_29 rfl) rfl (own_z rfl) (hb hby at_183) (fun _ _ => ⟨rfl, rfl, (ol rfl), (ol rfl)⟩)
 dsimp only [Pt.U, Pt.locs, Pt.cells, Pt.slots] at X13 l13 y13 z13 st13 hQ13
 subst l13 y13 z13
 obtain ⟨rfl, N13q, Kq13, r13E, ls13, mc13, r13T, r13N, r13L, r13S, r13M, r13D⟩ := hQ13
 have N13 := Fr.app N8 N13q
 have sz14 := Kq13.1
 have K14 := K9.trans Kq13 (own_all1 (Or.inr (by omega)))
 have O14 := O9.keep Kq13 (own_all1 (by omega))
 obtain ⟨ar13, kA13, y13_0, yt13_0, yk13_0, y13_1, yt13_1, yk13_1, r13A, r13Z, r13V, r13o, r13_0a, r13_0b, r13_0c, r13_0d, r13_0e, r13_0f, r13_1a, r13_1b, r13_1c, r13_1d, r13_1e, r13_1f⟩ := own_pk2 r13D J13
 have ltl13 := lN r13L.lt
 have lsz13 := r13S
 have lta13 := lN r13V.lt
 have aso13 := r13o
 have lty13_0 := lN r13_0a.lt
 have ltt13_0 := lN r13_0d.lt
 have gy13_0 := r13_0e
 have gt13_0 := r13_0f
 have lty13_1 := lN r13_1a.lt
 have ltt13_1 := lN r13_1d.lt
 have gy13_1 := r13_1e
 have gt13_1 := r13_1f
 refine ot (S' := T13.setTop (mkF m 186 lv2 [(.ref b1)])) st13 ?_
 let lv15 : Array Slot := #[vI p0, vI p1, vI p2, vI p3, vI p4, vI p5, vI c0, vI c1, vI c2, vI s0, vI s1, vR cb, vR xp, vI 2, vR b1, .unset, .unset, .unset, .unset, .unset, .unset, .unset]
 let lv16 : Array Slot := #[vI p0, vI p1, vI p2, vI p3, vI p4, vI p5, vI c0, vI c1, vI c2, vI s0, vI s1, vR cb, vR xp, vI 2, vR b1, vI (p4 &&& (3 : Int32)), .unset, .unset, .unset, .unset, .unset, .unset]
 refine oo (S' := T13.setTop (mkF m 197 lv16 [(.int 1), (.int (p4 &&& (3 : Int32)))])) (fun _ kK => XS.astore X13.here hx rfl (hb hby at_186) rfl rfl (l' := lv15) rfl (XS.iload X13.here hx rfl (hb hby at_188) rfl (XS.iconst X13.here hx rfl (hb hby at_190) (XS.iand X13.here hx rfl (hb hby at_191) rfl (XS.istore X13.here hx rfl (hb hby at_192) rfl (l' := lv16) rfl (XS.iload X13.here hx rfl (hb hby at_194) rfl (XS.iconst X13.here hx rfl (hb hby at_196) kK))))))) ?_
 rcases own_t0 p4 with hr0 | hr0
 ·show OwnEnd _ _ _ _ (T13.setTop (mkF m 197 #[vI p0, vI p1, vI p2, vI p3, vI p4, vI p5, vI c0, vI c1, vI c2, vI s0, vI s1, vR cb, vR xp, vI 2, vR b1, vI (p4 &&& (3 : Int32)), .unset, .unset, .unset, .unset, .unset, .unset] [(.int 1), (.int (p4 &&& (3 : Int32)))]))
  rw [hr0]
  let lv17 : Array Slot := #[vI p0, vI p1, vI p2, vI p3, vI p4, vI p5, vI c0, vI c1, vI c2, vI s0, vI s1, vR cb, vR xp, vI 2, vR b1, vI 0, .unset, .unset, .unset, .unset, .unset, .unset]
  refine oo (S' := T13.setTop (mkF m 258 lv17 [(.int 2), (.int 0)])) (fun _ kK => XS.icmpYes X13.here hx rfl (pc0 := 197) (pc' := 214) rfl (hb hby at_197) rfl (tlt ((by decide : (0 : Int32) < (1 : Int32)))).1 (by decide) (by decide) (XS.iload X13.here hx rfl (hb hby at_214) rfl (XS.iconst X13.here hx rfl (hb hby at_216) (XS.icmpYes X13.here hx rfl (pc0 := 217) (pc' := 234) rfl (hb hby at_217) rfl (tlt ((by decide : (0 : Int32) < (2 : Int32)))).1 (by decide) (by decide) (XS.iload X13.here hx rfl (hb hby at_234) rfl (XS.iconst X13.here hx rfl (hb hby at_236) (XS.icmpYes X13.here hx rfl (pc0 := 237) (pc' := 254) rfl (hb hby at_237) rfl (tlt ((by decide : (0 : Int32) < (3 : Int32)))).1 (by decide) (by decide) (XS.iload X13.here hx rfl (hb hby at_254) rfl (XS.iload X13.here hx rfl (hb hby at_256) rfl kK))))))))) ?_
  obtain ⟨_, _, ⟨T18, L18, k18, n18⟩, -, X18, ⟨Lc18, hQ18, l18, y18, z18⟩, st18⟩ := Jvm.LawKit.callS X13 hx (y := own_m18) hown (mvT hZ (w_ G 250 rfl)) (mvT hZ (w_ G 198 rfl)) (mvT hZ (w_ G 199 rfl)) (mvT hZ (w_ G 200 rfl)) (by decide) (backOf (W := 0) (rmmin0_2 l Z a0 G []  T13.heap n0 O14 ) hZ (w_ G 200 rfl) (w_ G 199 rfl) (by decide) (by decide)) (g := (mkF m 258 lv17 [(.int 2), (.int 0)])) rfl (by rw [hml]; rfl) (argsL := [(.int 0), (.int 2)]) (rest := []) (lenOf pd_9 rfl) rfl (own_z rfl) (hb hby at_258) (fun _ _ => ⟨rfl, rfl, (ol rfl), (ol rfl)⟩)
  dsimp only [Pt.U, Pt.locs, Pt.cells, Pt.slots] at X18 l18 y18 z18 st18 hQ18
  subst l18 y18 z18
  obtain ⟨rfl, N18q, eh18⟩ := hQ18
  have N18 := Fr.app N13 N18q
  refine oo (S' := T18.setTop (mkF m 261 lv17 [(.int 0)])) st18 ?_
  let lv19 : Array Slot := #[vI p0, vI p1, vI p2, vI p3, vI p4, vI p5, vI c0, vI c1, vI c2, vI s0, vI s1, vR cb, vR xp, vI 2, vR b1, vI 0, vI 0, .unset, .unset, .unset, .unset, .unset]
  refine oo (S' := T18.setTop (mkF m 263 lv19 [])) (fun _ kK => XS.istore X18.here hx rfl (hb hby at_261) rfl (l' := lv19) rfl kK) ?_
  have f20 := ((((J2.ext E1).ext E4).keep Kq8).keep Kq13)
  have f21 := ((((J3.ext E1).ext E4).keep Kq8 (own_nin1 (on (by omega)))).keep Kq13 (own_nin1 (on (by omega))))
  have f22 := ((((J4.ext E1).ext E4).keep Kq8 (own_nin1 (on (by omega)))).keep Kq13 (own_nin1 (on (by omega))))
  have f23 := ((((J5.ext E1).ext E4).keep Kq8 (own_nin1 (on (by omega)))).keep Kq13 (own_nin1 (on (by omega))))
  have f24 := ((((J6.ext E1).ext E4).keep Kq8).keep Kq13)
  have f25 := ((((J7.ext E1).ext E4).keep Kq8 (own_nin1 (on (by omega)))).keep Kq13 (own_nin1 (on (by omega))))
  have f26 := ((((J8.ext E1).ext E4).keep Kq8 (own_nin1 (on (by omega)))).keep Kq13 (own_nin1 (on (by omega))))
  have f27 := ((((J9.ext E1).ext E4).keep Kq8 (own_nin1 (on (by omega)))).keep Kq13 (own_nin1 (on (by omega))))
  have HP : own_pick Z T13.heap ls13 [(.ref ea0), (.ref ea1), .null] ((0 : Int32) + (p5 &&& (7 : Int32))) (2 : Int32) := by
   rcases own_ah0_2 p5 with hr | hr | hr
   ·exact Or.inr (by rw [hr]; exact ⟨by decide, by decide, by decide, ar13, kA13, _, ea0, et0, ek0, y13_0, yt13_0, yk13_0, tk0, r13A, r13V, rfl, rfl, f20, f21, f22, f23, r13_0a, r13_0b, r13_0c, r13_0d, own_ne (by omega)⟩)
   ·exact Or.inr (by rw [hr]; exact ⟨by decide, by decide, by decide, ar13, kA13, _, ea1, et1, ek1, y13_1, yt13_1, yk13_1, tk1, r13A, r13V, rfl, rfl, f24, f25, f26, f27, r13_1a, r13_1b, r13_1c, r13_1d, own_ne (by omega)⟩)
   ·exact Or.inl hr
  have f28 := ((((J1.ext E1).ext E4).keep Kq8 (own_nin1 (on (by omega)))).keep Kq13 (own_nin1 (on (by omega))))
  exact sfb l Z a0 G p0 p1 p2 p3 p4 p5 h0 n0 O0  Bd hml0 hZ (X18.more (by decide) (by decide)) T13.heap eh18 K14 O14 N18 (by omega) b1 ls13 cb xp kx (0 : Int32) (2 : Int32) (0 : Int32) [(.ref ea0), (.ref ea1), .null] c0 c1 c2 s0 s1 r13E r13T r13N r13L r13Z f28 (HP)
 ·refine oo (S' := T13.setTop (mkF m 202 lv16 [(.ref b1)])) (fun _ kK => XS.icmpNo X13.here hx rfl (hb hby at_197) rfl (flt (hr0)).1 (XS.aload X13.here hx rfl (hb hby at_200) rfl rfl kK)) ?_
  obtain ⟨cq29, kq29, q29a, q29b, q29c⟩ := isOf hZ rfl r13E
  obtain ⟨_, _, ⟨T29, L29, k29, n29⟩, -, X29, ⟨Lc29, hQ29, l29, y29, z29⟩, st29⟩ := X13.virtualBack hx (y := own_m45) (z := own_m45) hown (mvT hZ (w_ G 299 rfl)) (mvT hZ (w_ G 300 rfl)) (notFace_of_selects (args := #[]) (mvT hZ (w_ G 302 rfl))) (mvT hZ (w_ G 302 rfl)) (mvT hZ (w_ G 301 rfl)) (by decide) (backOf (W := 0) (rmae0 l Z a0 G [] b1 ls13 (0 : Int32) (2 : Int32) T13.heap n0 O14 r13N r13T r13L r13Z (by decide)) hZ (w_ G 303 rfl) (w_ G 35 rfl) (by decide) (by decide)) q29a q29c (g := (mkF m 202 lv16 [(.ref b1)])) rfl (by rw [hml]; rfl) (Steps.refl _) (argsL := []) (rest := []) (lenOf pd_3 rfl) rfl (own_z rfl) (hb hby at_202) (fun _ _ => ⟨rfl, rfl, (ol rfl), (ol rfl)⟩)
  dsimp only [Pt.U, Pt.locs, Pt.cells, Pt.slots] at X29 l29 y29 z29 st29 hQ29
  subst l29 y29 z29
  obtain ⟨rfl, N29q, eh29⟩ := hQ29
  have N29 := Fr.app N13 N29q
  refine ot (S' := T29.setTop (mkF m 205 lv16 [(.int 0)])) st29 ?_
  refine oo (S' := T29.setTop (mkF m 210 lv16 [(.ref b1)])) (fun _ kK => XS.ifNo X29.here hx rfl (hb hby at_205) rfl ((if0 _ _).trans (teq ((by decide : (0 : Int32) = (0 : Int32)))).2) (XS.aload X29.here hx rfl (hb hby at_208) rfl rfl kK)) ?_
  obtain ⟨cq30, kq30, q30a, q30b, q30c⟩ := isOf hZ eh29 r13E
  obtain ⟨_, _, ⟨T30, L30, k30, n30⟩, -, X30, ⟨Lc30, hQ30, l30, y30, z30⟩, st30⟩ := X29.virtualBack hx (y := own_m47) (z := own_m47) hown (mvT hZ (w_ G 304 rfl)) (mvT hZ (w_ G 305 rfl)) (notFace_of_selects (args := #[]) (mvT hZ (w_ G 307 rfl))) (mvT hZ (w_ G 307 rfl)) (mvT hZ (w_ G 306 rfl)) (by decide) (backOf (W := 0) (rmnx l Z a0 G [] b1 ls13 (0 : Int32) (2 : Int32) ar13 kA13 [(.ref y13_0), (.ref y13_1), .null, .null, .null, .null, .null, .null, .null, .null] y13_0 (1 : Int32) T13.heap n0 O14 r13E r13N r13T r13L r13Z r13A r13V (by decide) (by decide) (by decide) (by decide) (by rfl) (by decide) (by omega) (on (by omega)) (on (by omega)) r13_0a) hZ (w_ G 308 rfl) (w_ G 35 rfl) (by decide) (by decide)) q30a q30c (g := (mkF m 210 lv16 [(.ref b1)])) rfl (by rw [hml]; rfl) (Steps.refl _) (argsL := []) (rest := []) (lenOf pd_21 rfl) rfl (own_z rfl) (hb hby at_210) (fun _ _ => ⟨rfl, eh29, (ol rfl), (ol rfl)⟩)
  dsimp only [Pt.U, Pt.locs, Pt.cells, Pt.slots] at X30 l30 y30 z30 st30 hQ30
  subst l30 y30 z30
  obtain ⟨rfl, N30q, Kq30, r30_0, r30_1, r30_2⟩ := hQ30
  have N30 := Fr.app N29 N30q
  have sz31 := Kq30.1
  have K31 := K14.trans Kq30 (own_all1 (Or.inr (by omega)))
  have O31 := O14.keep Kq30 (own_all1 (by omega))
  have ltr30_0 := lN r30_0.lt
  have ltr30_1 := lN r30_1.lt
  have ltr30_2 := lN r30_2.lt
  refine ot (S' := T30.setTop (mkF m 213 lv16 [(.ref y13_0)])) st30 ?_
  refine oo (S' := T30.setTop (mkF m 217 lv16 [(.int 2), (.int (p4 &&& (3 : Int32)))])) (fun _ kK => XS.pop X30.here hx rfl (hb hby at_213) rfl rfl (XS.iload X30.here hx rfl (hb hby at_214) rfl (XS.iconst X30.here hx rfl (hb hby at_216) kK))) ?_
  rcases own_t1 p4 hr0 with hr1 | hr1
  ·show OwnEnd _ _ _ _ (T30.setTop (mkF m 217 #[vI p0, vI p1, vI p2, vI p3, vI p4, vI p5, vI c0, vI c1, vI c2, vI s0, vI s1, vR cb, vR xp, vI 2, vR b1, vI (p4 &&& (3 : Int32)), .unset, .unset, .unset, .unset, .unset, .unset] [(.int 2), (.int (p4 &&& (3 : Int32)))]))
   rw [hr1]
   let lv32 : Array Slot := #[vI p0, vI p1, vI p2, vI p3, vI p4, vI p5, vI c0, vI c1, vI c2, vI s0, vI s1, vR cb, vR xp, vI 2, vR b1, vI 1, .unset, .unset, .unset, .unset, .unset, .unset]
   refine oo (S' := T30.setTop (mkF m 258 lv32 [(.int 2), (.int 1)])) (fun _ kK => XS.icmpYes X30.here hx rfl (pc0 := 217) (pc' := 234) rfl (hb hby at_217) rfl (tlt ((by decide : (1 : Int32) < (2 : Int32)))).1 (by decide) (by decide) (XS.iload X30.here hx rfl (hb hby at_234) rfl (XS.iconst X30.here hx rfl (hb hby at_236) (XS.icmpYes X30.here hx rfl (pc0 := 237) (pc' := 254) rfl (hb hby at_237) rfl (tlt ((by decide : (1 : Int32) < (3 : Int32)))).1 (by decide) (by decide) (XS.iload X30.here hx rfl (hb hby at_254) rfl (XS.iload X30.here hx rfl (hb hby at_256) rfl kK)))))) ?_
   obtain ⟨_, _, ⟨T33, L33, k33, n33⟩, -, X33, ⟨Lc33, hQ33, l33, y33, z33⟩, st33⟩ := Jvm.LawKit.callS X30 hx (y := own_m18) hown (mvT hZ (w_ G 250 rfl)) (mvT hZ (w_ G 198 rfl)) (mvT hZ (w_ G 199 rfl)) (mvT hZ (w_ G 200 rfl)) (by decide) (backOf (W := 0) (rmmin1_2 l Z a0 G []  T30.heap n0 O31 ) hZ (w_ G 200 rfl) (w_ G 199 rfl) (by decide) (by decide)) (g := (mkF m 258 lv32 [(.int 2), (.int 1)])) rfl (by rw [hml]; rfl) (argsL := [(.int 1), (.int 2)]) (rest := []) (lenOf pd_9 rfl) rfl (own_z rfl) (hb hby at_258) (fun _ _ => ⟨rfl, rfl, (ol rfl), (ol rfl)⟩)
   dsimp only [Pt.U, Pt.locs, Pt.cells, Pt.slots] at X33 l33 y33 z33 st33 hQ33
   subst l33 y33 z33
   obtain ⟨rfl, N33q, eh33⟩ := hQ33
   have N33 := Fr.app N30 N33q
   refine oo (S' := T33.setTop (mkF m 261 lv32 [(.int 1)])) st33 ?_
   let lv34 : Array Slot := #[vI p0, vI p1, vI p2, vI p3, vI p4, vI p5, vI c0, vI c1, vI c2, vI s0, vI s1, vR cb, vR xp, vI 2, vR b1, vI 1, vI 1, .unset, .unset, .unset, .unset, .unset]
   refine oo (S' := T33.setTop (mkF m 263 lv34 [])) (fun _ kK => XS.istore X33.here hx rfl (hb hby at_261) rfl (l' := lv34) rfl kK) ?_
   have f35 := (r13A.keep Kq30 (own_nin1 (on (by omega))))
   have f36 := (r13V.keep Kq30 (own_nin1 (on (by omega))))
   have f37 := (((((J6.ext E1).ext E4).keep Kq8).keep Kq13).keep Kq30)
   have f38 := (((((J7.ext E1).ext E4).keep Kq8 (own_nin1 (on (by omega)))).keep Kq13 (own_nin1 (on (by omega)))).keep Kq30 (own_nin1 (on (by omega))))
   have f39 := (((((J8.ext E1).ext E4).keep Kq8 (own_nin1 (on (by omega)))).keep Kq13 (own_nin1 (on (by omega)))).keep Kq30 (own_nin1 (on (by omega))))
   have f40 := (((((J9.ext E1).ext E4).keep Kq8 (own_nin1 (on (by omega)))).keep Kq13 (own_nin1 (on (by omega)))).keep Kq30 (own_nin1 (on (by omega))))
   have f41 := (r13_1a.keep Kq30)
   have f42 := (r13_1b.keep Kq30 (own_nin1 (on (by omega))))
   have f43 := (r13_1c.keep Kq30 (own_nin1 (on (by omega))))
   have f44 := (r13_1d.keep Kq30 (own_nin1 (on (by omega))))
   have HP : own_pick Z T30.heap ls13 [(.ref ea0), (.ref ea1), .null] ((1 : Int32) + (p5 &&& (7 : Int32))) (2 : Int32) := by
    rcases own_ah1_2 p5 with hr | hr
    ·exact Or.inr (by rw [hr]; exact ⟨by decide, by decide, by decide, ar13, kA13, _, ea1, et1, ek1, y13_1, yt13_1, yk13_1, tk1, f35, f36, rfl, rfl, f37, f38, f39, f40, f41, f42, f43, f44, own_ne (by omega)⟩)
    ·exact Or.inl hr
   have f45 := (r13L.keep Kq30)
   have f46 := (r13Z.keep Kq30 (own_nin1 (on (by omega))))
   have f47 := (((((J1.ext E1).ext E4).keep Kq8 (own_nin1 (on (by omega)))).keep Kq13 (own_nin1 (on (by omega)))).keep Kq30 (own_nin1 (on (by omega))))
   exact sfb l Z a0 G p0 p1 p2 p3 p4 p5 h0 n0 O0  Bd hml0 hZ (X33.more (by decide) (by decide)) T30.heap eh33 K31 O31 N33 (by omega) b1 ls13 cb xp kx (1 : Int32) (2 : Int32) (1 : Int32) [(.ref ea0), (.ref ea1), .null] c0 c1 c2 s0 s1 r30_0 r30_1 r30_2 f45 f46 f47 (HP)
  ·refine oo (S' := T30.setTop (mkF m 222 lv16 [(.ref b1)])) (fun _ kK => XS.icmpNo X30.here hx rfl (hb hby at_217) rfl (flt (hr1)).1 (XS.aload X30.here hx rfl (hb hby at_220) rfl rfl kK)) ?_
   have f48 := (r13L.keep Kq30)
   have f49 := (r13Z.keep Kq30 (own_nin1 (on (by omega))))
   obtain ⟨cq50, kq50, q50a, q50b, q50c⟩ := isOf hZ rfl r30_0
   obtain ⟨_, _, ⟨T50, L50, k50, n50⟩, -, X50, ⟨Lc50, hQ50, l50, y50, z50⟩, st50⟩ := X30.virtualBack hx (y := own_m45) (z := own_m45) hown (mvT hZ (w_ G 299 rfl)) (mvT hZ (w_ G 300 rfl)) (notFace_of_selects (args := #[]) (mvT hZ (w_ G 302 rfl))) (mvT hZ (w_ G 302 rfl)) (mvT hZ (w_ G 301 rfl)) (by decide) (backOf (W := 0) (rmae0 l Z a0 G [] b1 ls13 (1 : Int32) (2 : Int32) T30.heap n0 O31 r30_2 r30_1 f48 f49 (by decide)) hZ (w_ G 303 rfl) (w_ G 35 rfl) (by decide) (by decide)) q50a q50c (g := (mkF m 222 lv16 [(.ref b1)])) rfl (by rw [hml]; rfl) (Steps.refl _) (argsL := []) (rest := []) (lenOf pd_3 rfl) rfl (own_z rfl) (hb hby at_222) (fun _ _ => ⟨rfl, rfl, (ol rfl), (ol rfl)⟩)
   dsimp only [Pt.U, Pt.locs, Pt.cells, Pt.slots] at X50 l50 y50 z50 st50 hQ50
   subst l50 y50 z50
   obtain ⟨rfl, N50q, eh50⟩ := hQ50
   have N50 := Fr.app N30 N50q
   refine ot (S' := T50.setTop (mkF m 225 lv16 [(.int 0)])) st50 ?_
   refine oo (S' := T50.setTop (mkF m 230 lv16 [(.ref b1)])) (fun _ kK => XS.ifNo X50.here hx rfl (hb hby at_225) rfl ((if0 _ _).trans (teq ((by decide : (0 : Int32) = (0 : Int32)))).2) (XS.aload X50.here hx rfl (hb hby at_228) rfl rfl kK)) ?_
   have f51 := (r13A.keep Kq30 (own_nin1 (on (by omega))))
   have f52 := (r13V.keep Kq30 (own_nin1 (on (by omega))))
   have f53 := (r13_1a.keep Kq30)
   obtain ⟨cq54, kq54, q54a, q54b, q54c⟩ := isOf hZ eh50 r30_0
   obtain ⟨_, _, ⟨T54, L54, k54, n54⟩, -, X54, ⟨Lc54, hQ54, l54, y54, z54⟩, st54⟩ := X50.virtualBack hx (y := own_m47) (z := own_m47) hown (mvT hZ (w_ G 304 rfl)) (mvT hZ (w_ G 305 rfl)) (notFace_of_selects (args := #[]) (mvT hZ (w_ G 307 rfl))) (mvT hZ (w_ G 307 rfl)) (mvT hZ (w_ G 306 rfl)) (by decide) (backOf (W := 0) (rmnx l Z a0 G [] b1 ls13 (1 : Int32) (2 : Int32) ar13 kA13 [(.ref y13_0), (.ref y13_1), .null, .null, .null, .null, .null, .null, .null, .null] y13_1 (2 : Int32) T30.heap n0 O31 r30_0 r30_2 r30_1 f48 f49 f51 f52 (by decide) (by decide) (by decide) (by decide) (by rfl) (by decide) (by omega) (on (by omega)) (on (by omega)) f53) hZ (w_ G 308 rfl) (w_ G 35 rfl) (by decide) (by decide)) q54a q54c (g := (mkF m 230 lv16 [(.ref b1)])) rfl (by rw [hml]; rfl) (Steps.refl _) (argsL := []) (rest := []) (lenOf pd_21 rfl) rfl (own_z rfl) (hb hby at_230) (fun _ _ => ⟨rfl, eh50, (ol rfl), (ol rfl)⟩)
   dsimp only [Pt.U, Pt.locs, Pt.cells, Pt.slots] at X54 l54 y54 z54 st54 hQ54
   subst l54 y54 z54
   obtain ⟨rfl, N54q, Kq54, r54_0, r54_1, r54_2⟩ := hQ54
   have N54 := Fr.app N50 N54q
   have sz55 := Kq54.1
   have K55 := K31.trans Kq54 (own_all1 (Or.inr (by omega)))
   have O55 := O31.keep Kq54 (own_all1 (by omega))
   have ltr54_0 := lN r54_0.lt
   have ltr54_1 := lN r54_1.lt
   have ltr54_2 := lN r54_2.lt
   refine ot (S' := T54.setTop (mkF m 233 lv16 [(.ref y13_1)])) st54 ?_
   refine oo (S' := T54.setTop (mkF m 237 lv16 [(.int 3), (.int (p4 &&& (3 : Int32)))])) (fun _ kK => XS.pop X54.here hx rfl (hb hby at_233) rfl rfl (XS.iload X54.here hx rfl (hb hby at_234) rfl (XS.iconst X54.here hx rfl (hb hby at_236) kK))) ?_
   rcases own_t2 p4 hr1 with hr2 | hr2
   ·show OwnEnd _ _ _ _ (T54.setTop (mkF m 237 #[vI p0, vI p1, vI p2, vI p3, vI p4, vI p5, vI c0, vI c1, vI c2, vI s0, vI s1, vR cb, vR xp, vI 2, vR b1, vI (p4 &&& (3 : Int32)), .unset, .unset, .unset, .unset, .unset, .unset] [(.int 3), (.int (p4 &&& (3 : Int32)))]))
    rw [hr2]
    let lv56 : Array Slot := #[vI p0, vI p1, vI p2, vI p3, vI p4, vI p5, vI c0, vI c1, vI c2, vI s0, vI s1, vR cb, vR xp, vI 2, vR b1, vI 2, .unset, .unset, .unset, .unset, .unset, .unset]
    refine oo (S' := T54.setTop (mkF m 258 lv56 [(.int 2), (.int 2)])) (fun _ kK => XS.icmpYes X54.here hx rfl (pc0 := 237) (pc' := 254) rfl (hb hby at_237) rfl (tlt ((by decide : (2 : Int32) < (3 : Int32)))).1 (by decide) (by decide) (XS.iload X54.here hx rfl (hb hby at_254) rfl (XS.iload X54.here hx rfl (hb hby at_256) rfl kK))) ?_
    obtain ⟨_, _, ⟨T57, L57, k57, n57⟩, -, X57, ⟨Lc57, hQ57, l57, y57, z57⟩, st57⟩ := Jvm.LawKit.callS X54 hx (y := own_m18) hown (mvT hZ (w_ G 250 rfl)) (mvT hZ (w_ G 198 rfl)) (mvT hZ (w_ G 199 rfl)) (mvT hZ (w_ G 200 rfl)) (by decide) (backOf (W := 0) (rmmin2_2 l Z a0 G []  T54.heap n0 O55 ) hZ (w_ G 200 rfl) (w_ G 199 rfl) (by decide) (by decide)) (g := (mkF m 258 lv56 [(.int 2), (.int 2)])) rfl (by rw [hml]; rfl) (argsL := [(.int 2), (.int 2)]) (rest := []) (lenOf pd_9 rfl) rfl (own_z rfl) (hb hby at_258) (fun _ _ => ⟨rfl, rfl, (ol rfl), (ol rfl)⟩)
    dsimp only [Pt.U, Pt.locs, Pt.cells, Pt.slots] at X57 l57 y57 z57 st57 hQ57
    subst l57 y57 z57
    obtain ⟨rfl, N57q, eh57⟩ := hQ57
    have N57 := Fr.app N54 N57q
    refine oo (S' := T57.setTop (mkF m 261 lv56 [(.int 2)])) st57 ?_
    let lv58 : Array Slot := #[vI p0, vI p1, vI p2, vI p3, vI p4, vI p5, vI c0, vI c1, vI c2, vI s0, vI s1, vR cb, vR xp, vI 2, vR b1, vI 2, vI 2, .unset, .unset, .unset, .unset, .unset]
    refine oo (S' := T57.setTop (mkF m 263 lv58 [])) (fun _ kK => XS.istore X57.here hx rfl (hb hby at_261) rfl (l' := lv58) rfl kK) ?_
    have HP : own_pick Z T54.heap ls13 [(.ref ea0), (.ref ea1), .null] ((2 : Int32) + (p5 &&& (7 : Int32))) (2 : Int32) := Or.inl (own_ah2_2 p5)
    have f59 := (f48.keep Kq54)
    have f60 := (f49.keep Kq54 (own_nin1 (on (by omega))))
    have f61 := ((((((J1.ext E1).ext E4).keep Kq8 (own_nin1 (on (by omega)))).keep Kq13 (own_nin1 (on (by omega)))).keep Kq30 (own_nin1 (on (by omega)))).keep Kq54 (own_nin1 (on (by omega))))
    exact sfb l Z a0 G p0 p1 p2 p3 p4 p5 h0 n0 O0  Bd hml0 hZ (X57.more (by decide) (by decide)) T54.heap eh57 K55 O55 N57 (by omega) b1 ls13 cb xp kx (2 : Int32) (2 : Int32) (2 : Int32) [(.ref ea0), (.ref ea1), .null] c0 c1 c2 s0 s1 r54_0 r54_1 r54_2 f59 f60 f61 (HP)
   ·show OwnEnd _ _ _ _ (T54.setTop (mkF m 237 #[vI p0, vI p1, vI p2, vI p3, vI p4, vI p5, vI c0, vI c1, vI c2, vI s0, vI s1, vR cb, vR xp, vI 2, vR b1, vI (p4 &&& (3 : Int32)), .unset, .unset, .unset, .unset, .unset, .unset] [(.int 3), (.int (p4 &&& (3 : Int32)))]))
    rw [hr2]
    let lv62 : Array Slot := #[vI p0, vI p1, vI p2, vI p3, vI p4, vI p5, vI c0, vI c1, vI c2, vI s0, vI s1, vR cb, vR xp, vI 2, vR b1, vI 3, .unset, .unset, .unset, .unset, .unset, .unset]
    refine oo (S' := T54.setTop (mkF m 242 lv62 [(.ref b1)])) (fun _ kK => XS.icmpNo X54.here hx rfl (hb hby at_237) rfl (flt ((by decide : ¬ ((3 : Int32) < (3 : Int32))))).1 (XS.aload X54.here hx rfl (hb hby at_240) rfl rfl kK)) ?_
    have f63 := (f48.keep Kq54)
    have f64 := (f49.keep Kq54 (own_nin1 (on (by omega))))
    obtain ⟨cq65, kq65, q65a, q65b, q65c⟩ := isOf hZ rfl r54_0
    obtain ⟨_, _, ⟨T65, L65, k65, n65⟩, -, X65, ⟨Lc65, hQ65, l65, y65, z65⟩, st65⟩ := X54.virtualBack hx (y := own_m45) (z := own_m45) hown (mvT hZ (w_ G 299 rfl)) (mvT hZ (w_ G 300 rfl)) (notFace_of_selects (args := #[]) (mvT hZ (w_ G 302 rfl))) (mvT hZ (w_ G 302 rfl)) (mvT hZ (w_ G 301 rfl)) (by decide) (backOf (W := 0) (rmae1 l Z a0 G [] b1 ls13 (2 : Int32) (2 : Int32) T54.heap n0 O55 r54_2 r54_1 f63 f64 (by decide)) hZ (w_ G 303 rfl) (w_ G 35 rfl) (by decide) (by decide)) q65a q65c (g := (mkF m 242 lv62 [(.ref b1)])) rfl (by rw [hml]; rfl) (Steps.refl _) (argsL := []) (rest := []) (lenOf pd_3 rfl) rfl (own_z rfl) (hb hby at_242) (fun _ _ => ⟨rfl, rfl, (ol rfl), (ol rfl)⟩)
    dsimp only [Pt.U, Pt.locs, Pt.cells, Pt.slots] at X65 l65 y65 z65 st65 hQ65
    subst l65 y65 z65
    obtain ⟨rfl, N65q, eh65⟩ := hQ65
    have N65 := Fr.app N54 N65q
    refine ot (S' := T65.setTop (mkF m 245 lv62 [(.int 1)])) st65 ?_
    refine oo (S' := T65.setTop (mkF m 258 lv62 [(.int 2), (.int 3)])) (fun _ kK => XS.ifYes X65.here hx rfl (pc0 := 245) (pc' := 254) rfl (hb hby at_245) rfl ((if0 _ _).trans (feq ((by decide : ¬ ((1 : Int32) = (0 : Int32))))).2) (by decide) (by decide) (XS.iload X65.here hx rfl (hb hby at_254) rfl (XS.iload X65.here hx rfl (hb hby at_256) rfl kK))) ?_
    obtain ⟨_, _, ⟨T66, L66, k66, n66⟩, -, X66, ⟨Lc66, hQ66, l66, y66, z66⟩, st66⟩ := Jvm.LawKit.callS X65 hx (y := own_m18) hown (mvT hZ (w_ G 250 rfl)) (mvT hZ (w_ G 198 rfl)) (mvT hZ (w_ G 199 rfl)) (mvT hZ (w_ G 200 rfl)) (by decide) (backOf (W := 0) (rmmin3_2 l Z a0 G []  T54.heap n0 O55 ) hZ (w_ G 200 rfl) (w_ G 199 rfl) (by decide) (by decide)) (g := (mkF m 258 lv62 [(.int 2), (.int 3)])) rfl (by rw [hml]; rfl) (argsL := [(.int 3), (.int 2)]) (rest := []) (lenOf pd_9 rfl) rfl (own_z rfl) (hb hby at_258) (fun _ _ => ⟨rfl, eh65, (ol rfl), (ol rfl)⟩)
    dsimp only [Pt.U, Pt.locs, Pt.cells, Pt.slots] at X66 l66 y66 z66 st66 hQ66
    subst l66 y66 z66
    obtain ⟨rfl, N66q, eh66⟩ := hQ66
    have N66 := Fr.app N65 N66q
    refine oo (S' := T66.setTop (mkF m 261 lv62 [(.int 2)])) st66 ?_
    let lv67 : Array Slot := #[vI p0, vI p1, vI p2, vI p3, vI p4, vI p5, vI c0, vI c1, vI c2, vI s0, vI s1, vR cb, vR xp, vI 2, vR b1, vI 3, vI 2, .unset, .unset, .unset, .unset, .unset]
    refine oo (S' := T66.setTop (mkF m 263 lv67 [])) (fun _ kK => XS.istore X66.here hx rfl (hb hby at_261) rfl (l' := lv67) rfl kK) ?_
    have HP : own_pick Z T54.heap ls13 [(.ref ea0), (.ref ea1), .null] ((2 : Int32) + (p5 &&& (7 : Int32))) (2 : Int32) := Or.inl (own_ah2_2 p5)
    have f68 := ((((((J1.ext E1).ext E4).keep Kq8 (own_nin1 (on (by omega)))).keep Kq13 (own_nin1 (on (by omega)))).keep Kq30 (own_nin1 (on (by omega)))).keep Kq54 (own_nin1 (on (by omega))))
    exact sfb l Z a0 G p0 p1 p2 p3 p4 p5 h0 n0 O0  Bd hml0 hZ (X66.more (by decide) (by decide)) T54.heap eh66 K55 O55 N66 (by omega) b1 ls13 cb xp kx (3 : Int32) (2 : Int32) (2 : Int32) [(.ref ea0), (.ref ea1), .null] c0 c1 c2 s0 s1 r54_0 r54_1 r54_2 f63 f64 f68 (HP)

theorem own_efmin0_3 (m : MethodId) : entryFrame m #[(.int 0), (.int 3)] 2 = mkF m 0 #[vI 0, vI 3] [] := by first | (simp [entryFrame, mkF, argsToLocals, Value.category]; done) | rfl
set_option maxRecDepth 65536 in
set_option maxHeartbeats 40000000 in
theorem rmmin0_3 (l : Launch) (Z : State) (a0 : Array Value) (G : OwnG Z a0) (ws : List Jvm.Cond)  (h0 : Heap) (n0 : Nat) (O0 : Old Z n0 h0)  :
  MetFree l own_m18 (head1 (Jvm.Cond.code own_m18 B28 2 (some .int) :: ws) (rR 0 0 0 0)) (fun a U => a = #[(.int 0), (.int 3)] ∧ Z.Warmed39 U.vm ∧ U.heap = h0) (fun _ _ _ _ _ => True) (fun _ U o U' => ∃ v L, o = .returned v ∧ (own_Qint (0 : Int32)) h0 n0 v U'.heap L ∧ FrameEnd U o U' L (rR 0 0 0 0).cells (rR 0 0 0 0).slots) := by
 refine MetFree.of_bodySF (Jvm.Free.JP.mathPlain rfl (by decide +kernel)) hisR ?_
 intro p e s m args below meth cD s₁ Bd hml0 hP hK
 obtain ⟨rfl, hZ, hh⟩ := hP
 have hml : cD.maxLocals = 2 := hml0
 obtain ⟨hx, hby, (hown : s.vm.findClass j8 = some m.cls), hlk, X0, e0⟩ := own_st Bd hh
 have Z0 := own_old_le O0
 have N0 := Fr.nil n0
 refine OwnEnd.start (g' := (mkF m 0 #[vI 0, vI 3] [])) (own_efmin0_3 m ) ?_
 refine oo (S' := s₁.setTop (mkF m 10 #[vI 0, vI 3] [(.int 0)])) (fun _ kK => XS.iloadN X0.here hx rfl (hb hby d19_0) rfl (XS.iloadN X0.here hx rfl (hb hby d19_1) rfl (XS.icmpNo X0.here hx rfl (hb hby d19_2) rfl (flt ((by decide : ¬ ((3 : Int32) < (0 : Int32))))).2.2.1 (XS.iloadN X0.here hx rfl (hb hby d19_5) rfl (XS.goto X0.here hx rfl (pc0 := 6) (pc' := 10) rfl (hb hby d19_6) (by decide) (by decide) kK))))) ?_
 refine OwnEnd.ret X0 (v := (some (.int 0))) (fun h => by rw [Bd.returns] at h; cases h) hlk (fun fs hr => retOut X0 hx Bd.returns rfl (Or.inl ⟨rfl, Or.inl rfl, _, rfl⟩) (hb hby d19_10) hr) (by decide) (by decide) (Q := (own_Qint (0 : Int32)) h0 n0) e0 ?_
 exact ⟨rfl, N0, rfl⟩

theorem own_efmin1_3 (m : MethodId) : entryFrame m #[(.int 1), (.int 3)] 2 = mkF m 0 #[vI 1, vI 3] [] := by first | (simp [entryFrame, mkF, argsToLocals, Value.category]; done) | rfl
set_option maxRecDepth 65536 in
set_option maxHeartbeats 40000000 in
theorem rmmin1_3 (l : Launch) (Z : State) (a0 : Array Value) (G : OwnG Z a0) (ws : List Jvm.Cond)  (h0 : Heap) (n0 : Nat) (O0 : Old Z n0 h0)  :
  MetFree l own_m18 (head1 (Jvm.Cond.code own_m18 B28 2 (some .int) :: ws) (rR 0 0 0 0)) (fun a U => a = #[(.int 1), (.int 3)] ∧ Z.Warmed39 U.vm ∧ U.heap = h0) (fun _ _ _ _ _ => True) (fun _ U o U' => ∃ v L, o = .returned v ∧ (own_Qint (1 : Int32)) h0 n0 v U'.heap L ∧ FrameEnd U o U' L (rR 0 0 0 0).cells (rR 0 0 0 0).slots) := by
 refine MetFree.of_bodySF (Jvm.Free.JP.mathPlain rfl (by decide +kernel)) hisR ?_
 intro p e s m args below meth cD s₁ Bd hml0 hP hK
 obtain ⟨rfl, hZ, hh⟩ := hP
 have hml : cD.maxLocals = 2 := hml0
 obtain ⟨hx, hby, (hown : s.vm.findClass j8 = some m.cls), hlk, X0, e0⟩ := own_st Bd hh
 have Z0 := own_old_le O0
 have N0 := Fr.nil n0
 refine OwnEnd.start (g' := (mkF m 0 #[vI 1, vI 3] [])) (own_efmin1_3 m ) ?_
 refine oo (S' := s₁.setTop (mkF m 10 #[vI 1, vI 3] [(.int 1)])) (fun _ kK => XS.iloadN X0.here hx rfl (hb hby d19_0) rfl (XS.iloadN X0.here hx rfl (hb hby d19_1) rfl (XS.icmpNo X0.here hx rfl (hb hby d19_2) rfl (flt ((by decide : ¬ ((3 : Int32) < (1 : Int32))))).2.2.1 (XS.iloadN X0.here hx rfl (hb hby d19_5) rfl (XS.goto X0.here hx rfl (pc0 := 6) (pc' := 10) rfl (hb hby d19_6) (by decide) (by decide) kK))))) ?_
 refine OwnEnd.ret X0 (v := (some (.int 1))) (fun h => by rw [Bd.returns] at h; cases h) hlk (fun fs hr => retOut X0 hx Bd.returns rfl (Or.inl ⟨rfl, Or.inl rfl, _, rfl⟩) (hb hby d19_10) hr) (by decide) (by decide) (Q := (own_Qint (1 : Int32)) h0 n0) e0 ?_
 exact ⟨rfl, N0, rfl⟩

theorem own_efmin2_3 (m : MethodId) : entryFrame m #[(.int 2), (.int 3)] 2 = mkF m 0 #[vI 2, vI 3] [] := by first | (simp [entryFrame, mkF, argsToLocals, Value.category]; done) | rfl
set_option maxRecDepth 65536 in
set_option maxHeartbeats 40000000 in
theorem rmmin2_3 (l : Launch) (Z : State) (a0 : Array Value) (G : OwnG Z a0) (ws : List Jvm.Cond)  (h0 : Heap) (n0 : Nat) (O0 : Old Z n0 h0)  :
  MetFree l own_m18 (head1 (Jvm.Cond.code own_m18 B28 2 (some .int) :: ws) (rR 0 0 0 0)) (fun a U => a = #[(.int 2), (.int 3)] ∧ Z.Warmed39 U.vm ∧ U.heap = h0) (fun _ _ _ _ _ => True) (fun _ U o U' => ∃ v L, o = .returned v ∧ (own_Qint (2 : Int32)) h0 n0 v U'.heap L ∧ FrameEnd U o U' L (rR 0 0 0 0).cells (rR 0 0 0 0).slots) := by
 refine MetFree.of_bodySF (Jvm.Free.JP.mathPlain rfl (by decide +kernel)) hisR ?_
 intro p e s m args below meth cD s₁ Bd hml0 hP hK
 obtain ⟨rfl, hZ, hh⟩ := hP
 have hml : cD.maxLocals = 2 := hml0
 obtain ⟨hx, hby, (hown : s.vm.findClass j8 = some m.cls), hlk, X0, e0⟩ := own_st Bd hh
 have Z0 := own_old_le O0
 have N0 := Fr.nil n0
 refine OwnEnd.start (g' := (mkF m 0 #[vI 2, vI 3] [])) (own_efmin2_3 m ) ?_
 refine oo (S' := s₁.setTop (mkF m 10 #[vI 2, vI 3] [(.int 2)])) (fun _ kK => XS.iloadN X0.here hx rfl (hb hby d19_0) rfl (XS.iloadN X0.here hx rfl (hb hby d19_1) rfl (XS.icmpNo X0.here hx rfl (hb hby d19_2) rfl (flt ((by decide : ¬ ((3 : Int32) < (2 : Int32))))).2.2.1 (XS.iloadN X0.here hx rfl (hb hby d19_5) rfl (XS.goto X0.here hx rfl (pc0 := 6) (pc' := 10) rfl (hb hby d19_6) (by decide) (by decide) kK))))) ?_
 refine OwnEnd.ret X0 (v := (some (.int 2))) (fun h => by rw [Bd.returns] at h; cases h) hlk (fun fs hr => retOut X0 hx Bd.returns rfl (Or.inl ⟨rfl, Or.inl rfl, _, rfl⟩) (hb hby d19_10) hr) (by decide) (by decide) (Q := (own_Qint (2 : Int32)) h0 n0) e0 ?_
 exact ⟨rfl, N0, rfl⟩

theorem own_efmin3_3 (m : MethodId) : entryFrame m #[(.int 3), (.int 3)] 2 = mkF m 0 #[vI 3, vI 3] [] := by first | (simp [entryFrame, mkF, argsToLocals, Value.category]; done) | rfl
set_option maxRecDepth 65536 in
set_option maxHeartbeats 40000000 in
theorem rmmin3_3 (l : Launch) (Z : State) (a0 : Array Value) (G : OwnG Z a0) (ws : List Jvm.Cond)  (h0 : Heap) (n0 : Nat) (O0 : Old Z n0 h0)  :
  MetFree l own_m18 (head1 (Jvm.Cond.code own_m18 B28 2 (some .int) :: ws) (rR 0 0 0 0)) (fun a U => a = #[(.int 3), (.int 3)] ∧ Z.Warmed39 U.vm ∧ U.heap = h0) (fun _ _ _ _ _ => True) (fun _ U o U' => ∃ v L, o = .returned v ∧ (own_Qint (3 : Int32)) h0 n0 v U'.heap L ∧ FrameEnd U o U' L (rR 0 0 0 0).cells (rR 0 0 0 0).slots) := by
 refine MetFree.of_bodySF (Jvm.Free.JP.mathPlain rfl (by decide +kernel)) hisR ?_
 intro p e s m args below meth cD s₁ Bd hml0 hP hK
 obtain ⟨rfl, hZ, hh⟩ := hP
 have hml : cD.maxLocals = 2 := hml0
 obtain ⟨hx, hby, (hown : s.vm.findClass j8 = some m.cls), hlk, X0, e0⟩ := own_st Bd hh
 have Z0 := own_old_le O0
 have N0 := Fr.nil n0
 refine OwnEnd.start (g' := (mkF m 0 #[vI 3, vI 3] [])) (own_efmin3_3 m ) ?_
 refine oo (S' := s₁.setTop (mkF m 10 #[vI 3, vI 3] [(.int 3)])) (fun _ kK => XS.iloadN X0.here hx rfl (hb hby d19_0) rfl (XS.iloadN X0.here hx rfl (hb hby d19_1) rfl (XS.icmpNo X0.here hx rfl (hb hby d19_2) rfl (flt ((by decide : ¬ ((3 : Int32) < (3 : Int32))))).2.2.1 (XS.iloadN X0.here hx rfl (hb hby d19_5) rfl (XS.goto X0.here hx rfl (pc0 := 6) (pc' := 10) rfl (hb hby d19_6) (by decide) (by decide) kK))))) ?_
 refine OwnEnd.ret X0 (v := (some (.int 3))) (fun h => by rw [Bd.returns] at h; cases h) hlk (fun fs hr => retOut X0 hx Bd.returns rfl (Or.inl ⟨rfl, Or.inl rfl, _, rfl⟩) (hb hby d19_10) hr) (by decide) (by decide) (Q := (own_Qint (3 : Int32)) h0 n0) e0 ?_
 exact ⟨rfl, N0, rfl⟩

set_option maxRecDepth 65536 in
set_option maxHeartbeats 40000000 in
theorem sfa3 (l : Launch) (Z : State) (a0 : Array Value) (G : OwnG Z a0) (p0 : Int32) (p1 : Int32) (p2 : Int32) (p3 : Int32) (p4 : Int32) (p5 : Int32) (h0 : Heap) (n0 : Nat) (O0 : Old Z n0 h0)  {p : Program} {e : Env} {s : State} {m : MethodId} {below : List Frame} {meth : Method} {cD : Code} {s₁ : State} {Sp : Spec} (Bd : BodyLoose p l x Sp code maxLocals ret e s m #[(.int p0), (.int p1), (.int p2), (.int p3), (.int p4), (.int p5)] below meth cD s₁) (hml0 : cD.maxLocals = maxLocals) (hZ : Z.Warmed39 s.vm) {TJ : State} {locs : List Loc} (XJ : Stand p l e room_1 s m #[(.int p0), (.int p1), (.int p2), (.int p3), (.int p4), (.int p5)] below meth cD TJ locs 12 40) (hJ : Heap) (eJ : TJ.heap = hJ) (KJ : Keep h0 hJ []) (OJ : Old Z n0 hJ) (NJ : Fr n0 locs) (szJ : Array.size h0 ≤ Array.size hJ) (c0 : Int32) (c1 : Int32) (c2 : Int32) (s0 : Int32) (s1 : Int32) (cb : Addr) (kc : ClassId) (xp : Addr) (kx : ClassId) (ea0 : Addr) (et0 : Addr) (ek0 : ClassId) (tk0 : Int32) (ea1 : Addr) (et1 : Addr) (ek1 : ClassId) (tk1 : Int32) (ea2 : Addr) (et2 : Addr) (ek2 : ClassId) (tk2 : Int32) (J0 : Arv Z hJ cb kc .char (5 : Int32) [(.int c0), (.int s0), (.int c1), (.int s1), (.int c2)] (.int 0)) (J1 : Arv Z hJ xp kx (.object j1) (3 : Int32) [(.ref ea0), (.ref ea1), (.ref ea2)] .null) (J2 : Exa Z hJ ea0 j1) (J3 : Fld Z hJ ea0 j1 "value" "[B" (.ref et0)) (J4 : Fld Z hJ ea0 j1 "coder" "B" (.int 0)) (J5 : Arv Z hJ et0 ek0 .byte (1 : Int32) [(.int (StrChars.lo8 tk0))] (.int 0)) (J6 : Exa Z hJ ea1 j1) (J7 : Fld Z hJ ea1 j1 "value" "[B" (.ref et1)) (J8 : Fld Z hJ ea1 j1 "coder" "B" (.int 0)) (J9 : Arv Z hJ et1 ek1 .byte (1 : Int32) [(.int (StrChars.lo8 tk1))] (.int 0)) (J10 : Exa Z hJ ea2 j1) (J11 : Fld Z hJ ea2 j1 "value" "[B" (.ref et2)) (J12 : Fld Z hJ ea2 j1 "coder" "B" (.int 0)) (J13 : Arv Z hJ et2 ek2 .byte (1 : Int32) [(.int (StrChars.lo8 tk2))] (.int 0)) (J14 : ∀ c ∈ ([c0, s0, c1, s1, c2] : List Int32), ¬ c < (0 : Int32) ∧ ¬ (255 : Int32) < c) (J15 : s0 = (32 : Int32) ∨ s0 = (9 : Int32)) (J16 : s1 = (32 : Int32) ∨ s1 = (9 : Int32)) (J17 : own_nb [c0, c1, c2] = [tk0, tk1, tk2]) :
  OwnEnd p e below (fun o t => ∃ v L, o = .returned v ∧ own_Qlaw h0 n0 v t.heap L ∧ FrameEnd s o t L room_1.cells room_1.slots) (TJ.setTop (mkF m 170 #[vI p0, vI p1, vI p2, vI p3, vI p4, vI p5, vI c0, vI c1, vI c2, vI s0, vI s1, vR cb, vR xp, vI 3, .unset, .unset, .unset, .unset, .unset, .unset, .unset, .unset] [])) := by
 have hw := G.1
 have hx := Bd.exec
 have hby := Bd.bytes
 have hml : cD.maxLocals = 22 := hml0
 have hown : s.vm.findClass j7 = some m.cls := findClass_of_methodNamed Bd.named
 have hlk := Bd.notSynchronized
 have ltJ0 := lN J0.lt
 have ltJ1 := lN J1.lt
 have ltJ2 := lN J2.lt
 have ltJ3 := lN J3.lt
 have ltJ4 := lN J4.lt
 have ltJ5 := lN J5.lt
 have ltJ6 := lN J6.lt
 have ltJ7 := lN J7.lt
 have ltJ8 := lN J8.lt
 have ltJ9 := lN J9.lt
 have ltJ10 := lN J10.lt
 have ltJ11 := lN J11.lt
 have ltJ12 := lN J12.lt
 have ltJ13 := lN J13.lt
 have Z0 := own_old_le O0
 obtain ⟨zCS, SCS, PCS⟩ := own_cs G
 obtain ⟨aD, kD, SD, AD⟩ := own_dflt G
 have hlat := J14
 let lv2 : Array Slot := #[vI p0, vI p1, vI p2, vI p3, vI p4, vI p5, vI c0, vI c1, vI c2, vI s0, vI s1, vR cb, vR xp, vI 3, .unset, .unset, .unset, .unset, .unset, .unset, .unset, .unset]
 obtain ⟨T1, h1, X1, e1, E1, A1, D1, -, st1⟩ := newO XJ hx hZ hown (w_ G 33 rfl) (w_ G 34 rfl) (w_ G 35 rfl) eJ (g := (mkF m 170 lv2 [])) rfl (hb hby at_170) (by decide) (by decide)
 obtain ⟨b1, g1⟩ : ∃ z, z = Array.size hJ := ⟨_, rfl⟩
 rw [← g1] at A1 D1 st1
 have lt_b1 := lN A1.lt
 have sz3 := E1.1
 have K3 := KJ.ext E1
 have O3 := OJ.ext E1
 have F1_tokens : Fld Z h1 b1 j3 "tokens" "Ljava/util/List;" .null := D1 (Or.inr (w_ G 81 rfl)) (ty := (.object j9)) (by decide)
 have F1_next : Fld Z h1 b1 j3 "next" "I" (.int 0) := D1 (Or.inl (w_ G 257 rfl)) (ty := .int) (by decide)
 refine oo (S' := T1.setTop (mkF m 173 lv2 [(.ref b1)])) st1 ?_
 refine oo (S' := T1.setTop (mkF m 174 lv2 [(.ref b1), (.ref b1)])) (fun _ kK => XS.dup X1.here hx rfl (hb hby at_173) rfl rfl kK) ?_
 obtain ⟨T4, h4, X4, e4, E4, A4, D4, -, st4⟩ := newO X1 hx hZ hown (w_ G 1 rfl) (w_ G 17 rfl) (w_ G 9 rfl) e1 (g := (mkF m 174 lv2 [(.ref b1), (.ref b1)])) rfl (hb hby at_174) (by decide) (by decide)
 obtain ⟨b4, g4⟩ : ∃ z, z = Array.size h1 := ⟨_, rfl⟩
 rw [← g4] at A4 D4 st4
 have lt_b4 := lN A4.lt
 have sz5 := E4.1
 have K5 := K3.ext E4
 have O5 := O3.ext E4
 have F4_value : Fld Z h4 b4 j1 "value" "[B" .null := D4 (Or.inr (w_ G 30 rfl)) (ty := (.array .byte)) (by decide)
 have F4_coder : Fld Z h4 b4 j1 "coder" "B" (.int 0) := D4 (Or.inr (w_ G 32 rfl)) (ty := .byte) (by decide)
 refine oo (S' := T4.setTop (mkF m 177 lv2 [(.ref b4), (.ref b1), (.ref b1)])) st4 ?_
 refine oo (S' := T4.setTop (mkF m 180 lv2 [(.ref cb), (.ref b4), (.ref b4), (.ref b1), (.ref b1)])) (fun _ kK => XS.dup X4.here hx rfl (hb hby at_177) rfl rfl (XS.aload X4.here hx rfl (hb hby at_178) rfl rfl kK)) ?_
 have f6 := ((J0.ext E1).ext E4)
 have hws : ∀ d ∈ StrChars.Road.words, d.before a0 Z = true := fun d hd => hw d (own_words d hd)
 have hp7 : ∀ c ∈ ([c0, s0, c1, s1, c2] : List Int32), ¬ c < 0 ∧ ¬ (255 : Int32) < c := hlat
 obtain ⟨_, _, ⟨T8, L8, k8, n8⟩, -, X8, ⟨Lc8, hQ8, l8, y8, z8⟩, st8⟩ := Jvm.Stand.specialBack X4 hx (y := own_m53) rfl hown (mvT hZ (w_ G 36 rfl)) (mvT hZ (w_ G 37 rfl)) (mvT hZ (w_ G 38 rfl)) (by decide) (StrChars.Road.backV (W := 3) hZ hws (kI := 4) (w_ G 17 rfl) (cs := [c0, s0, c1, s1, c2]) (bs := ([c0, s0, c1, s1, c2] : List Int32).map (fun c => c.toInt8.toInt32)) (n := 5) (n0 := n0) (by omega) (by omega) A4 F4_value F4_coder f6 (SCS.ext O5.2) PCS rfl rfl (by decide) (by decide) hp7 rfl (by decide) (by decide)) (g := (mkF m 180 lv2 [(.ref cb), (.ref b4), (.ref b4), (.ref b1), (.ref b1)])) rfl (by rw [hml]; rfl) (Steps.refl _) (a := b4) (argsL := [(.ref cb)]) (rest := [(.ref b4), (.ref b1), (.ref b1)]) (lenOf pd_28 rfl) rfl (own_z rfl) (hb hby at_180) (fun _ _ => ⟨rfl, e4, (ol rfl), (ol rfl)⟩)
 dsimp only [Pt.U, Pt.locs, Pt.cells, Pt.slots] at X8 l8 y8 z8 st8 hQ8
 subst l8 y8 z8
 obtain ⟨rfl, N8q, Kq8, r8E, r8C, t8, kb8, u8, w8, x8, r8V, r8A⟩ := hQ8
 have N8 := Fr.app NJ N8q
 have sz9 := Kq8.1
 have K9 := K5.trans Kq8 (own_all1 (Or.inr (by omega)))
 have O9 := O5.keep Kq8 (own_all1 (by omega))
 have lt_t8 := lN r8A.lt
 refine ot (S' := T8.setTop (mkF m 183 lv2 [(.ref b4), (.ref b1), (.ref b1)])) st8 ?_
 have f10 := ((A1.ext E4).keep Kq8)
 have f11 := ((F1_tokens.ext E4).keep Kq8 (own_nin1 (on (by omega))))
 have f12 := ((F1_next.ext E4).keep Kq8 (own_nin1 (on (by omega))))
 obtain ⟨_, _, ⟨T13, L13, k13, n13⟩, -, X13, ⟨Lc13, hQ13, l13, y13, z13⟩, st13⟩ := Jvm.Stand.specialBack X8 hx (y := own_m43) rfl hown (mvT hZ (w_ G 52 rfl)) (mvT hZ (w_ G 53 rfl)) (mvT hZ (w_ G 54 rfl)) (by decide) (backOf (W := 1) (rmti l Z a0 G [] b1 b4 t8 kb8 .null c0 s0 c1 s1 c2 aD kD T8.heap n0 O9 f10 f11 f12 (by omega) r8E r8V r8C r8A (on (by omega)) (on (by omega)) J14 J15 J16 SD AD) hZ (w_ G 54 rfl) (w_ G 35 rfl) (by decide) (by decide)) (g := (mkF m 183 lv2 [(.ref b4), (.ref b1), (.ref b1)])) rfl (by rw [hml]; rfl) (Steps.refl _) (a := b1) (argsL := [(.ref b4)]) (rest := [(.ref b1)]) (lenOf pd_29 rfl) rfl (own_z rfl) (hb hby at_183) (fun _ _ => ⟨rfl, rfl, (ol rfl), (ol rfl)⟩)
 dsimp only [Pt.U, Pt.locs, Pt.cells, Pt.slots] at X13 l13 y13 z13 st13 hQ13
 subst l13 y13 z13
 obtain ⟨rfl, N13q, Kq13, r13E, ls13, mc13, r13T, r13N, r13L, r13S, r13M, r13D⟩ := hQ13
 have N13 := Fr.app N8 N13q
 have sz14 := Kq13.1
 have K14 := K9.trans Kq13 (own_all1 (Or.inr (by omega)))
 have O14 := O9.keep Kq13 (own_all1 (by omega))
 obtain ⟨ar13, kA13, y13_0, yt13_0, yk13_0, y13_1, yt13_1, yk13_1, y13_2, yt13_2, yk13_2, r13A, r13Z, r13V, r13o, r13_0a, r13_0b, r13_0c, r13_0d, r13_0e, r13_0f, r13_1a, r13_1b, r13_1c, r13_1d, r13_1e, r13_1f, r13_2a, r13_2b, r13_2c, r13_2d, r13_2e, r13_2f⟩ := own_pk3 r13D J17
 have ltl13 := lN r13L.lt
 have lsz13 := r13S
 have lta13 := lN r13V.lt
 have aso13 := r13o
 have lty13_0 := lN r13_0a.lt
 have ltt13_0 := lN r13_0d.lt
 have gy13_0 := r13_0e
 have gt13_0 := r13_0f
 have lty13_1 := lN r13_1a.lt
 have ltt13_1 := lN r13_1d.lt
 have gy13_1 := r13_1e
 have gt13_1 := r13_1f
 have lty13_2 := lN r13_2a.lt
 have ltt13_2 := lN r13_2d.lt
 have gy13_2 := r13_2e
 have gt13_2 := r13_2f
 refine ot (S' := T13.setTop (mkF m 186 lv2 [(.ref b1)])) st13 ?_
 let lv15 : Array Slot := #[vI p0, vI p1, vI p2, vI p3, vI p4, vI p5, vI c0, vI c1, vI c2, vI s0, vI s1, vR cb, vR xp, vI 3, vR b1, .unset, .unset, .unset, .unset, .unset, .unset, .unset]
 let lv16 : Array Slot := #[vI p0, vI p1, vI p2, vI p3, vI p4, vI p5, vI c0, vI c1, vI c2, vI s0, vI s1, vR cb, vR xp, vI 3, vR b1, vI (p4 &&& (3 : Int32)), .unset, .unset, .unset, .unset, .unset, .unset]
 refine oo (S' := T13.setTop (mkF m 197 lv16 [(.int 1), (.int (p4 &&& (3 : Int32)))])) (fun _ kK => XS.astore X13.here hx rfl (hb hby at_186) rfl rfl (l' := lv15) rfl (XS.iload X13.here hx rfl (hb hby at_188) rfl (XS.iconst X13.here hx rfl (hb hby at_190) (XS.iand X13.here hx rfl (hb hby at_191) rfl (XS.istore X13.here hx rfl (hb hby at_192) rfl (l' := lv16) rfl (XS.iload X13.here hx rfl (hb hby at_194) rfl (XS.iconst X13.here hx rfl (hb hby at_196) kK))))))) ?_
 rcases own_t0 p4 with hr0 | hr0
 ·show OwnEnd _ _ _ _ (T13.setTop (mkF m 197 #[vI p0, vI p1, vI p2, vI p3, vI p4, vI p5, vI c0, vI c1, vI c2, vI s0, vI s1, vR cb, vR xp, vI 3, vR b1, vI (p4 &&& (3 : Int32)), .unset, .unset, .unset, .unset, .unset, .unset] [(.int 1), (.int (p4 &&& (3 : Int32)))]))
  rw [hr0]
  let lv17 : Array Slot := #[vI p0, vI p1, vI p2, vI p3, vI p4, vI p5, vI c0, vI c1, vI c2, vI s0, vI s1, vR cb, vR xp, vI 3, vR b1, vI 0, .unset, .unset, .unset, .unset, .unset, .unset]
  refine oo (S' := T13.setTop (mkF m 258 lv17 [(.int 3), (.int 0)])) (fun _ kK => XS.icmpYes X13.here hx rfl (pc0 := 197) (pc' := 214) rfl (hb hby at_197) rfl (tlt ((by decide : (0 : Int32) < (1 : Int32)))).1 (by decide) (by decide) (XS.iload X13.here hx rfl (hb hby at_214) rfl (XS.iconst X13.here hx rfl (hb hby at_216) (XS.icmpYes X13.here hx rfl (pc0 := 217) (pc' := 234) rfl (hb hby at_217) rfl (tlt ((by decide : (0 : Int32) < (2 : Int32)))).1 (by decide) (by decide) (XS.iload X13.here hx rfl (hb hby at_234) rfl (XS.iconst X13.here hx rfl (hb hby at_236) (XS.icmpYes X13.here hx rfl (pc0 := 237) (pc' := 254) rfl (hb hby at_237) rfl (tlt ((by decide : (0 : Int32) < (3 : Int32)))).1 (by decide) (by decide) (XS.iload X13.here hx rfl (hb hby at_254) rfl (XS.iload X13.here hx rfl (hb hby at_256) rfl kK))))))))) ?_
  obtain ⟨_, _, ⟨T18, L18, k18, n18⟩, -, X18, ⟨Lc18, hQ18, l18, y18, z18⟩, st18⟩ := Jvm.LawKit.callS X13 hx (y := own_m18) hown (mvT hZ (w_ G 250 rfl)) (mvT hZ (w_ G 198 rfl)) (mvT hZ (w_ G 199 rfl)) (mvT hZ (w_ G 200 rfl)) (by decide) (backOf (W := 0) (rmmin0_3 l Z a0 G []  T13.heap n0 O14 ) hZ (w_ G 200 rfl) (w_ G 199 rfl) (by decide) (by decide)) (g := (mkF m 258 lv17 [(.int 3), (.int 0)])) rfl (by rw [hml]; rfl) (argsL := [(.int 0), (.int 3)]) (rest := []) (lenOf pd_9 rfl) rfl (own_z rfl) (hb hby at_258) (fun _ _ => ⟨rfl, rfl, (ol rfl), (ol rfl)⟩)
  dsimp only [Pt.U, Pt.locs, Pt.cells, Pt.slots] at X18 l18 y18 z18 st18 hQ18
  subst l18 y18 z18
  obtain ⟨rfl, N18q, eh18⟩ := hQ18
  have N18 := Fr.app N13 N18q
  refine oo (S' := T18.setTop (mkF m 261 lv17 [(.int 0)])) st18 ?_
  let lv19 : Array Slot := #[vI p0, vI p1, vI p2, vI p3, vI p4, vI p5, vI c0, vI c1, vI c2, vI s0, vI s1, vR cb, vR xp, vI 3, vR b1, vI 0, vI 0, .unset, .unset, .unset, .unset, .unset]
  refine oo (S' := T18.setTop (mkF m 263 lv19 [])) (fun _ kK => XS.istore X18.here hx rfl (hb hby at_261) rfl (l' := lv19) rfl kK) ?_
  have f20 := ((((J2.ext E1).ext E4).keep Kq8).keep Kq13)
  have f21 := ((((J3.ext E1).ext E4).keep Kq8 (own_nin1 (on (by omega)))).keep Kq13 (own_nin1 (on (by omega))))
  have f22 := ((((J4.ext E1).ext E4).keep Kq8 (own_nin1 (on (by omega)))).keep Kq13 (own_nin1 (on (by omega))))
  have f23 := ((((J5.ext E1).ext E4).keep Kq8 (own_nin1 (on (by omega)))).keep Kq13 (own_nin1 (on (by omega))))
  have f24 := ((((J6.ext E1).ext E4).keep Kq8).keep Kq13)
  have f25 := ((((J7.ext E1).ext E4).keep Kq8 (own_nin1 (on (by omega)))).keep Kq13 (own_nin1 (on (by omega))))
  have f26 := ((((J8.ext E1).ext E4).keep Kq8 (own_nin1 (on (by omega)))).keep Kq13 (own_nin1 (on (by omega))))
  have f27 := ((((J9.ext E1).ext E4).keep Kq8 (own_nin1 (on (by omega)))).keep Kq13 (own_nin1 (on (by omega))))
  have f28 := ((((J10.ext E1).ext E4).keep Kq8).keep Kq13)
  have f29 := ((((J11.ext E1).ext E4).keep Kq8 (own_nin1 (on (by omega)))).keep Kq13 (own_nin1 (on (by omega))))
  have f30 := ((((J12.ext E1).ext E4).keep Kq8 (own_nin1 (on (by omega)))).keep Kq13 (own_nin1 (on (by omega))))
  have f31 := ((((J13.ext E1).ext E4).keep Kq8 (own_nin1 (on (by omega)))).keep Kq13 (own_nin1 (on (by omega))))
  have HP : own_pick Z T13.heap ls13 [(.ref ea0), (.ref ea1), (.ref ea2)] ((0 : Int32) + (p5 &&& (7 : Int32))) (3 : Int32) := by
   rcases own_ah0_3 p5 with hr | hr | hr | hr
   ·exact Or.inr (by rw [hr]; exact ⟨by decide, by decide, by decide, ar13, kA13, _, ea0, et0, ek0, y13_0, yt13_0, yk13_0, tk0, r13A, r13V, rfl, rfl, f20, f21, f22, f23, r13_0a, r13_0b, r13_0c, r13_0d, own_ne (by omega)⟩)
   ·exact Or.inr (by rw [hr]; exact ⟨by decide, by decide, by decide, ar13, kA13, _, ea1, et1, ek1, y13_1, yt13_1, yk13_1, tk1, r13A, r13V, rfl, rfl, f24, f25, f26, f27, r13_1a, r13_1b, r13_1c, r13_1d, own_ne (by omega)⟩)
   ·exact Or.inr (by rw [hr]; exact ⟨by decide, by decide, by decide, ar13, kA13, _, ea2, et2, ek2, y13_2, yt13_2, yk13_2, tk2, r13A, r13V, rfl, rfl, f28, f29, f30, f31, r13_2a, r13_2b, r13_2c, r13_2d, own_ne (by omega)⟩)
   ·exact Or.inl hr
  have f32 := ((((J1.ext E1).ext E4).keep Kq8 (own_nin1 (on (by omega)))).keep Kq13 (own_nin1 (on (by omega))))
  exact sfb l Z a0 G p0 p1 p2 p3 p4 p5 h0 n0 O0  Bd hml0 hZ (X18.more (by decide) (by decide)) T13.heap eh18 K14 O14 N18 (by omega) b1 ls13 cb xp kx (0 : Int32) (3 : Int32) (0 : Int32) [(.ref ea0), (.ref ea1), (.ref ea2)] c0 c1 c2 s0 s1 r13E r13T r13N r13L r13Z f32 (HP)
 ·refine oo (S' := T13.setTop (mkF m 202 lv16 [(.ref b1)])) (fun _ kK => XS.icmpNo X13.here hx rfl (hb hby at_197) rfl (flt (hr0)).1 (XS.aload X13.here hx rfl (hb hby at_200) rfl rfl kK)) ?_
  obtain ⟨cq33, kq33, q33a, q33b, q33c⟩ := isOf hZ rfl r13E
  obtain ⟨_, _, ⟨T33, L33, k33, n33⟩, -, X33, ⟨Lc33, hQ33, l33, y33, z33⟩, st33⟩ := X13.virtualBack hx (y := own_m45) (z := own_m45) hown (mvT hZ (w_ G 299 rfl)) (mvT hZ (w_ G 300 rfl)) (notFace_of_selects (args := #[]) (mvT hZ (w_ G 302 rfl))) (mvT hZ (w_ G 302 rfl)) (mvT hZ (w_ G 301 rfl)) (by decide) (backOf (W := 0) (rmae0 l Z a0 G [] b1 ls13 (0 : Int32) (3 : Int32) T13.heap n0 O14 r13N r13T r13L r13Z (by decide)) hZ (w_ G 303 rfl) (w_ G 35 rfl) (by decide) (by decide)) q33a q33c (g := (mkF m 202 lv16 [(.ref b1)])) rfl (by rw [hml]; rfl) (Steps.refl _) (argsL := []) (rest := []) (lenOf pd_3 rfl) rfl (own_z rfl) (hb hby at_202) (fun _ _ => ⟨rfl, rfl, (ol rfl), (ol rfl)⟩)
  dsimp only [Pt.U, Pt.locs, Pt.cells, Pt.slots] at X33 l33 y33 z33 st33 hQ33
  subst l33 y33 z33
  obtain ⟨rfl, N33q, eh33⟩ := hQ33
  have N33 := Fr.app N13 N33q
  refine ot (S' := T33.setTop (mkF m 205 lv16 [(.int 0)])) st33 ?_
  refine oo (S' := T33.setTop (mkF m 210 lv16 [(.ref b1)])) (fun _ kK => XS.ifNo X33.here hx rfl (hb hby at_205) rfl ((if0 _ _).trans (teq ((by decide : (0 : Int32) = (0 : Int32)))).2) (XS.aload X33.here hx rfl (hb hby at_208) rfl rfl kK)) ?_
  obtain ⟨cq34, kq34, q34a, q34b, q34c⟩ := isOf hZ eh33 r13E
  obtain ⟨_, _, ⟨T34, L34, k34, n34⟩, -, X34, ⟨Lc34, hQ34, l34, y34, z34⟩, st34⟩ := X33.virtualBack hx (y := own_m47) (z := own_m47) hown (mvT hZ (w_ G 304 rfl)) (mvT hZ (w_ G 305 rfl)) (notFace_of_selects (args := #[]) (mvT hZ (w_ G 307 rfl))) (mvT hZ (w_ G 307 rfl)) (mvT hZ (w_ G 306 rfl)) (by decide) (backOf (W := 0) (rmnx l Z a0 G [] b1 ls13 (0 : Int32) (3 : Int32) ar13 kA13 [(.ref y13_0), (.ref y13_1), (.ref y13_2), .null, .null, .null, .null, .null, .null, .null] y13_0 (1 : Int32) T13.heap n0 O14 r13E r13N r13T r13L r13Z r13A r13V (by decide) (by decide) (by decide) (by decide) (by rfl) (by decide) (by omega) (on (by omega)) (on (by omega)) r13_0a) hZ (w_ G 308 rfl) (w_ G 35 rfl) (by decide) (by decide)) q34a q34c (g := (mkF m 210 lv16 [(.ref b1)])) rfl (by rw [hml]; rfl) (Steps.refl _) (argsL := []) (rest := []) (lenOf pd_21 rfl) rfl (own_z rfl) (hb hby at_210) (fun _ _ => ⟨rfl, eh33, (ol rfl), (ol rfl)⟩)
  dsimp only [Pt.U, Pt.locs, Pt.cells, Pt.slots] at X34 l34 y34 z34 st34 hQ34
  subst l34 y34 z34
  obtain ⟨rfl, N34q, Kq34, r34_0, r34_1, r34_2⟩ := hQ34
  have N34 := Fr.app N33 N34q
  have sz35 := Kq34.1
  have K35 := K14.trans Kq34 (own_all1 (Or.inr (by omega)))
  have O35 := O14.keep Kq34 (own_all1 (by omega))
  have ltr34_0 := lN r34_0.lt
  have ltr34_1 := lN r34_1.lt
  have ltr34_2 := lN r34_2.lt
  refine ot (S' := T34.setTop (mkF m 213 lv16 [(.ref y13_0)])) st34 ?_
  refine oo (S' := T34.setTop (mkF m 217 lv16 [(.int 2), (.int (p4 &&& (3 : Int32)))])) (fun _ kK => XS.pop X34.here hx rfl (hb hby at_213) rfl rfl (XS.iload X34.here hx rfl (hb hby at_214) rfl (XS.iconst X34.here hx rfl (hb hby at_216) kK))) ?_
  rcases own_t1 p4 hr0 with hr1 | hr1
  ·show OwnEnd _ _ _ _ (T34.setTop (mkF m 217 #[vI p0, vI p1, vI p2, vI p3, vI p4, vI p5, vI c0, vI c1, vI c2, vI s0, vI s1, vR cb, vR xp, vI 3, vR b1, vI (p4 &&& (3 : Int32)), .unset, .unset, .unset, .unset, .unset, .unset] [(.int 2), (.int (p4 &&& (3 : Int32)))]))
   rw [hr1]
   let lv36 : Array Slot := #[vI p0, vI p1, vI p2, vI p3, vI p4, vI p5, vI c0, vI c1, vI c2, vI s0, vI s1, vR cb, vR xp, vI 3, vR b1, vI 1, .unset, .unset, .unset, .unset, .unset, .unset]
   refine oo (S' := T34.setTop (mkF m 258 lv36 [(.int 3), (.int 1)])) (fun _ kK => XS.icmpYes X34.here hx rfl (pc0 := 217) (pc' := 234) rfl (hb hby at_217) rfl (tlt ((by decide : (1 : Int32) < (2 : Int32)))).1 (by decide) (by decide) (XS.iload X34.here hx rfl (hb hby at_234) rfl (XS.iconst X34.here hx rfl (hb hby at_236) (XS.icmpYes X34.here hx rfl (pc0 := 237) (pc' := 254) rfl (hb hby at_237) rfl (tlt ((by decide : (1 : Int32) < (3 : Int32)))).1 (by decide) (by decide) (XS.iload X34.here hx rfl (hb hby at_254) rfl (XS.iload X34.here hx rfl (hb hby at_256) rfl kK)))))) ?_
   obtain ⟨_, _, ⟨T37, L37, k37, n37⟩, -, X37, ⟨Lc37, hQ37, l37, y37, z37⟩, st37⟩ := Jvm.LawKit.callS X34 hx (y := own_m18) hown (mvT hZ (w_ G 250 rfl)) (mvT hZ (w_ G 198 rfl)) (mvT hZ (w_ G 199 rfl)) (mvT hZ (w_ G 200 rfl)) (by decide) (backOf (W := 0) (rmmin1_3 l Z a0 G []  T34.heap n0 O35 ) hZ (w_ G 200 rfl) (w_ G 199 rfl) (by decide) (by decide)) (g := (mkF m 258 lv36 [(.int 3), (.int 1)])) rfl (by rw [hml]; rfl) (argsL := [(.int 1), (.int 3)]) (rest := []) (lenOf pd_9 rfl) rfl (own_z rfl) (hb hby at_258) (fun _ _ => ⟨rfl, rfl, (ol rfl), (ol rfl)⟩)
   dsimp only [Pt.U, Pt.locs, Pt.cells, Pt.slots] at X37 l37 y37 z37 st37 hQ37
   subst l37 y37 z37
   obtain ⟨rfl, N37q, eh37⟩ := hQ37
   have N37 := Fr.app N34 N37q
   refine oo (S' := T37.setTop (mkF m 261 lv36 [(.int 1)])) st37 ?_
   let lv38 : Array Slot := #[vI p0, vI p1, vI p2, vI p3, vI p4, vI p5, vI c0, vI c1, vI c2, vI s0, vI s1, vR cb, vR xp, vI 3, vR b1, vI 1, vI 1, .unset, .unset, .unset, .unset, .unset]
   refine oo (S' := T37.setTop (mkF m 263 lv38 [])) (fun _ kK => XS.istore X37.here hx rfl (hb hby at_261) rfl (l' := lv38) rfl kK) ?_
   have f39 := (r13A.keep Kq34 (own_nin1 (on (by omega))))
   have f40 := (r13V.keep Kq34 (own_nin1 (on (by omega))))
   have f41 := (((((J6.ext E1).ext E4).keep Kq8).keep Kq13).keep Kq34)
   have f42 := (((((J7.ext E1).ext E4).keep Kq8 (own_nin1 (on (by omega)))).keep Kq13 (own_nin1 (on (by omega)))).keep Kq34 (own_nin1 (on (by omega))))
   have f43 := (((((J8.ext E1).ext E4).keep Kq8 (own_nin1 (on (by omega)))).keep Kq13 (own_nin1 (on (by omega)))).keep Kq34 (own_nin1 (on (by omega))))
   have f44 := (((((J9.ext E1).ext E4).keep Kq8 (own_nin1 (on (by omega)))).keep Kq13 (own_nin1 (on (by omega)))).keep Kq34 (own_nin1 (on (by omega))))
   have f45 := (r13_1a.keep Kq34)
   have f46 := (r13_1b.keep Kq34 (own_nin1 (on (by omega))))
   have f47 := (r13_1c.keep Kq34 (own_nin1 (on (by omega))))
   have f48 := (r13_1d.keep Kq34 (own_nin1 (on (by omega))))
   have f49 := (((((J10.ext E1).ext E4).keep Kq8).keep Kq13).keep Kq34)
   have f50 := (((((J11.ext E1).ext E4).keep Kq8 (own_nin1 (on (by omega)))).keep Kq13 (own_nin1 (on (by omega)))).keep Kq34 (own_nin1 (on (by omega))))
   have f51 := (((((J12.ext E1).ext E4).keep Kq8 (own_nin1 (on (by omega)))).keep Kq13 (own_nin1 (on (by omega)))).keep Kq34 (own_nin1 (on (by omega))))
   have f52 := (((((J13.ext E1).ext E4).keep Kq8 (own_nin1 (on (by omega)))).keep Kq13 (own_nin1 (on (by omega)))).keep Kq34 (own_nin1 (on (by omega))))
   have f53 := (r13_2a.keep Kq34)
   have f54 := (r13_2b.keep Kq34 (own_nin1 (on (by omega))))
   have f55 := (r13_2c.keep Kq34 (own_nin1 (on (by omega))))
   have f56 := (r13_2d.keep Kq34 (own_nin1 (on (by omega))))
   have HP : own_pick Z T34.heap ls13 [(.ref ea0), (.ref ea1), (.ref ea2)] ((1 : Int32) + (p5 &&& (7 : Int32))) (3 : Int32) := by
    rcases own_ah1_3 p5 with hr | hr | hr
    ·exact Or.inr (by rw [hr]; exact ⟨by decide, by decide, by decide, ar13, kA13, _, ea1, et1, ek1, y13_1, yt13_1, yk13_1, tk1, f39, f40, rfl, rfl, f41, f42, f43, f44, f45, f46, f47, f48, own_ne (by omega)⟩)
    ·exact Or.inr (by rw [hr]; exact ⟨by decide, by decide, by decide, ar13, kA13, _, ea2, et2, ek2, y13_2, yt13_2, yk13_2, tk2, f39, f40, rfl, rfl, f49, f50, f51, f52, f53, f54, f55, f56, own_ne (by omega)⟩)
    ·exact Or.inl hr
   have f57 := (r13L.keep Kq34)
   have f58 := (r13Z.keep Kq34 (own_nin1 (on (by omega))))
   have f59 := (((((J1.ext E1).ext E4).keep Kq8 (own_nin1 (on (by omega)))).keep Kq13 (own_nin1 (on (by omega)))).keep Kq34 (own_nin1 (on (by omega))))
   exact sfb l Z a0 G p0 p1 p2 p3 p4 p5 h0 n0 O0  Bd hml0 hZ (X37.more (by decide) (by decide)) T34.heap eh37 K35 O35 N37 (by omega) b1 ls13 cb xp kx (1 : Int32) (3 : Int32) (1 : Int32) [(.ref ea0), (.ref ea1), (.ref ea2)] c0 c1 c2 s0 s1 r34_0 r34_1 r34_2 f57 f58 f59 (HP)
  ·refine oo (S' := T34.setTop (mkF m 222 lv16 [(.ref b1)])) (fun _ kK => XS.icmpNo X34.here hx rfl (hb hby at_217) rfl (flt (hr1)).1 (XS.aload X34.here hx rfl (hb hby at_220) rfl rfl kK)) ?_
   have f60 := (r13L.keep Kq34)
   have f61 := (r13Z.keep Kq34 (own_nin1 (on (by omega))))
   obtain ⟨cq62, kq62, q62a, q62b, q62c⟩ := isOf hZ rfl r34_0
   obtain ⟨_, _, ⟨T62, L62, k62, n62⟩, -, X62, ⟨Lc62, hQ62, l62, y62, z62⟩, st62⟩ := X34.virtualBack hx (y := own_m45) (z := own_m45) hown (mvT hZ (w_ G 299 rfl)) (mvT hZ (w_ G 300 rfl)) (notFace_of_selects (args := #[]) (mvT hZ (w_ G 302 rfl))) (mvT hZ (w_ G 302 rfl)) (mvT hZ (w_ G 301 rfl)) (by decide) (backOf (W := 0) (rmae0 l Z a0 G [] b1 ls13 (1 : Int32) (3 : Int32) T34.heap n0 O35 r34_2 r34_1 f60 f61 (by decide)) hZ (w_ G 303 rfl) (w_ G 35 rfl) (by decide) (by decide)) q62a q62c (g := (mkF m 222 lv16 [(.ref b1)])) rfl (by rw [hml]; rfl) (Steps.refl _) (argsL := []) (rest := []) (lenOf pd_3 rfl) rfl (own_z rfl) (hb hby at_222) (fun _ _ => ⟨rfl, rfl, (ol rfl), (ol rfl)⟩)
   dsimp only [Pt.U, Pt.locs, Pt.cells, Pt.slots] at X62 l62 y62 z62 st62 hQ62
   subst l62 y62 z62
   obtain ⟨rfl, N62q, eh62⟩ := hQ62
   have N62 := Fr.app N34 N62q
   refine ot (S' := T62.setTop (mkF m 225 lv16 [(.int 0)])) st62 ?_
   refine oo (S' := T62.setTop (mkF m 230 lv16 [(.ref b1)])) (fun _ kK => XS.ifNo X62.here hx rfl (hb hby at_225) rfl ((if0 _ _).trans (teq ((by decide : (0 : Int32) = (0 : Int32)))).2) (XS.aload X62.here hx rfl (hb hby at_228) rfl rfl kK)) ?_
   have f63 := (r13A.keep Kq34 (own_nin1 (on (by omega))))
   have f64 := (r13V.keep Kq34 (own_nin1 (on (by omega))))
   have f65 := (r13_1a.keep Kq34)
   obtain ⟨cq66, kq66, q66a, q66b, q66c⟩ := isOf hZ eh62 r34_0
   obtain ⟨_, _, ⟨T66, L66, k66, n66⟩, -, X66, ⟨Lc66, hQ66, l66, y66, z66⟩, st66⟩ := X62.virtualBack hx (y := own_m47) (z := own_m47) hown (mvT hZ (w_ G 304 rfl)) (mvT hZ (w_ G 305 rfl)) (notFace_of_selects (args := #[]) (mvT hZ (w_ G 307 rfl))) (mvT hZ (w_ G 307 rfl)) (mvT hZ (w_ G 306 rfl)) (by decide) (backOf (W := 0) (rmnx l Z a0 G [] b1 ls13 (1 : Int32) (3 : Int32) ar13 kA13 [(.ref y13_0), (.ref y13_1), (.ref y13_2), .null, .null, .null, .null, .null, .null, .null] y13_1 (2 : Int32) T34.heap n0 O35 r34_0 r34_2 r34_1 f60 f61 f63 f64 (by decide) (by decide) (by decide) (by decide) (by rfl) (by decide) (by omega) (on (by omega)) (on (by omega)) f65) hZ (w_ G 308 rfl) (w_ G 35 rfl) (by decide) (by decide)) q66a q66c (g := (mkF m 230 lv16 [(.ref b1)])) rfl (by rw [hml]; rfl) (Steps.refl _) (argsL := []) (rest := []) (lenOf pd_21 rfl) rfl (own_z rfl) (hb hby at_230) (fun _ _ => ⟨rfl, eh62, (ol rfl), (ol rfl)⟩)
   dsimp only [Pt.U, Pt.locs, Pt.cells, Pt.slots] at X66 l66 y66 z66 st66 hQ66
   subst l66 y66 z66
   obtain ⟨rfl, N66q, Kq66, r66_0, r66_1, r66_2⟩ := hQ66
   have N66 := Fr.app N62 N66q
   have sz67 := Kq66.1
   have K67 := K35.trans Kq66 (own_all1 (Or.inr (by omega)))
   have O67 := O35.keep Kq66 (own_all1 (by omega))
   have ltr66_0 := lN r66_0.lt
   have ltr66_1 := lN r66_1.lt
   have ltr66_2 := lN r66_2.lt
   refine ot (S' := T66.setTop (mkF m 233 lv16 [(.ref y13_1)])) st66 ?_
   refine oo (S' := T66.setTop (mkF m 237 lv16 [(.int 3), (.int (p4 &&& (3 : Int32)))])) (fun _ kK => XS.pop X66.here hx rfl (hb hby at_233) rfl rfl (XS.iload X66.here hx rfl (hb hby at_234) rfl (XS.iconst X66.here hx rfl (hb hby at_236) kK))) ?_
   rcases own_t2 p4 hr1 with hr2 | hr2
   ·show OwnEnd _ _ _ _ (T66.setTop (mkF m 237 #[vI p0, vI p1, vI p2, vI p3, vI p4, vI p5, vI c0, vI c1, vI c2, vI s0, vI s1, vR cb, vR xp, vI 3, vR b1, vI (p4 &&& (3 : Int32)), .unset, .unset, .unset, .unset, .unset, .unset] [(.int 3), (.int (p4 &&& (3 : Int32)))]))
    rw [hr2]
    let lv68 : Array Slot := #[vI p0, vI p1, vI p2, vI p3, vI p4, vI p5, vI c0, vI c1, vI c2, vI s0, vI s1, vR cb, vR xp, vI 3, vR b1, vI 2, .unset, .unset, .unset, .unset, .unset, .unset]
    refine oo (S' := T66.setTop (mkF m 258 lv68 [(.int 3), (.int 2)])) (fun _ kK => XS.icmpYes X66.here hx rfl (pc0 := 237) (pc' := 254) rfl (hb hby at_237) rfl (tlt ((by decide : (2 : Int32) < (3 : Int32)))).1 (by decide) (by decide) (XS.iload X66.here hx rfl (hb hby at_254) rfl (XS.iload X66.here hx rfl (hb hby at_256) rfl kK))) ?_
    obtain ⟨_, _, ⟨T69, L69, k69, n69⟩, -, X69, ⟨Lc69, hQ69, l69, y69, z69⟩, st69⟩ := Jvm.LawKit.callS X66 hx (y := own_m18) hown (mvT hZ (w_ G 250 rfl)) (mvT hZ (w_ G 198 rfl)) (mvT hZ (w_ G 199 rfl)) (mvT hZ (w_ G 200 rfl)) (by decide) (backOf (W := 0) (rmmin2_3 l Z a0 G []  T66.heap n0 O67 ) hZ (w_ G 200 rfl) (w_ G 199 rfl) (by decide) (by decide)) (g := (mkF m 258 lv68 [(.int 3), (.int 2)])) rfl (by rw [hml]; rfl) (argsL := [(.int 2), (.int 3)]) (rest := []) (lenOf pd_9 rfl) rfl (own_z rfl) (hb hby at_258) (fun _ _ => ⟨rfl, rfl, (ol rfl), (ol rfl)⟩)
    dsimp only [Pt.U, Pt.locs, Pt.cells, Pt.slots] at X69 l69 y69 z69 st69 hQ69
    subst l69 y69 z69
    obtain ⟨rfl, N69q, eh69⟩ := hQ69
    have N69 := Fr.app N66 N69q
    refine oo (S' := T69.setTop (mkF m 261 lv68 [(.int 2)])) st69 ?_
    let lv70 : Array Slot := #[vI p0, vI p1, vI p2, vI p3, vI p4, vI p5, vI c0, vI c1, vI c2, vI s0, vI s1, vR cb, vR xp, vI 3, vR b1, vI 2, vI 2, .unset, .unset, .unset, .unset, .unset]
    refine oo (S' := T69.setTop (mkF m 263 lv70 [])) (fun _ kK => XS.istore X69.here hx rfl (hb hby at_261) rfl (l' := lv70) rfl kK) ?_
    have f71 := (f63.keep Kq66 (own_nin1 (on (by omega))))
    have f72 := (f64.keep Kq66 (own_nin1 (on (by omega))))
    have f73 := ((((((J10.ext E1).ext E4).keep Kq8).keep Kq13).keep Kq34).keep Kq66)
    have f74 := ((((((J11.ext E1).ext E4).keep Kq8 (own_nin1 (on (by omega)))).keep Kq13 (own_nin1 (on (by omega)))).keep Kq34 (own_nin1 (on (by omega)))).keep Kq66 (own_nin1 (on (by omega))))
    have f75 := ((((((J12.ext E1).ext E4).keep Kq8 (own_nin1 (on (by omega)))).keep Kq13 (own_nin1 (on (by omega)))).keep Kq34 (own_nin1 (on (by omega)))).keep Kq66 (own_nin1 (on (by omega))))
    have f76 := ((((((J13.ext E1).ext E4).keep Kq8 (own_nin1 (on (by omega)))).keep Kq13 (own_nin1 (on (by omega)))).keep Kq34 (own_nin1 (on (by omega)))).keep Kq66 (own_nin1 (on (by omega))))
    have f77 := ((r13_2a.keep Kq34).keep Kq66)
    have f78 := ((r13_2b.keep Kq34 (own_nin1 (on (by omega)))).keep Kq66 (own_nin1 (on (by omega))))
    have f79 := ((r13_2c.keep Kq34 (own_nin1 (on (by omega)))).keep Kq66 (own_nin1 (on (by omega))))
    have f80 := ((r13_2d.keep Kq34 (own_nin1 (on (by omega)))).keep Kq66 (own_nin1 (on (by omega))))
    have HP : own_pick Z T66.heap ls13 [(.ref ea0), (.ref ea1), (.ref ea2)] ((2 : Int32) + (p5 &&& (7 : Int32))) (3 : Int32) := by
     rcases own_ah2_3 p5 with hr | hr
     ·exact Or.inr (by rw [hr]; exact ⟨by decide, by decide, by decide, ar13, kA13, _, ea2, et2, ek2, y13_2, yt13_2, yk13_2, tk2, f71, f72, rfl, rfl, f73, f74, f75, f76, f77, f78, f79, f80, own_ne (by omega)⟩)
     ·exact Or.inl hr
    have f81 := (f60.keep Kq66)
    have f82 := (f61.keep Kq66 (own_nin1 (on (by omega))))
    have f83 := ((((((J1.ext E1).ext E4).keep Kq8 (own_nin1 (on (by omega)))).keep Kq13 (own_nin1 (on (by omega)))).keep Kq34 (own_nin1 (on (by omega)))).keep Kq66 (own_nin1 (on (by omega))))
    exact sfb l Z a0 G p0 p1 p2 p3 p4 p5 h0 n0 O0  Bd hml0 hZ (X69.more (by decide) (by decide)) T66.heap eh69 K67 O67 N69 (by omega) b1 ls13 cb xp kx (2 : Int32) (3 : Int32) (2 : Int32) [(.ref ea0), (.ref ea1), (.ref ea2)] c0 c1 c2 s0 s1 r66_0 r66_1 r66_2 f81 f82 f83 (HP)
   ·show OwnEnd _ _ _ _ (T66.setTop (mkF m 237 #[vI p0, vI p1, vI p2, vI p3, vI p4, vI p5, vI c0, vI c1, vI c2, vI s0, vI s1, vR cb, vR xp, vI 3, vR b1, vI (p4 &&& (3 : Int32)), .unset, .unset, .unset, .unset, .unset, .unset] [(.int 3), (.int (p4 &&& (3 : Int32)))]))
    rw [hr2]
    let lv84 : Array Slot := #[vI p0, vI p1, vI p2, vI p3, vI p4, vI p5, vI c0, vI c1, vI c2, vI s0, vI s1, vR cb, vR xp, vI 3, vR b1, vI 3, .unset, .unset, .unset, .unset, .unset, .unset]
    refine oo (S' := T66.setTop (mkF m 242 lv84 [(.ref b1)])) (fun _ kK => XS.icmpNo X66.here hx rfl (hb hby at_237) rfl (flt ((by decide : ¬ ((3 : Int32) < (3 : Int32))))).1 (XS.aload X66.here hx rfl (hb hby at_240) rfl rfl kK)) ?_
    have f85 := (f60.keep Kq66)
    have f86 := (f61.keep Kq66 (own_nin1 (on (by omega))))
    obtain ⟨cq87, kq87, q87a, q87b, q87c⟩ := isOf hZ rfl r66_0
    obtain ⟨_, _, ⟨T87, L87, k87, n87⟩, -, X87, ⟨Lc87, hQ87, l87, y87, z87⟩, st87⟩ := X66.virtualBack hx (y := own_m45) (z := own_m45) hown (mvT hZ (w_ G 299 rfl)) (mvT hZ (w_ G 300 rfl)) (notFace_of_selects (args := #[]) (mvT hZ (w_ G 302 rfl))) (mvT hZ (w_ G 302 rfl)) (mvT hZ (w_ G 301 rfl)) (by decide) (backOf (W := 0) (rmae0 l Z a0 G [] b1 ls13 (2 : Int32) (3 : Int32) T66.heap n0 O67 r66_2 r66_1 f85 f86 (by decide)) hZ (w_ G 303 rfl) (w_ G 35 rfl) (by decide) (by decide)) q87a q87c (g := (mkF m 242 lv84 [(.ref b1)])) rfl (by rw [hml]; rfl) (Steps.refl _) (argsL := []) (rest := []) (lenOf pd_3 rfl) rfl (own_z rfl) (hb hby at_242) (fun _ _ => ⟨rfl, rfl, (ol rfl), (ol rfl)⟩)
    dsimp only [Pt.U, Pt.locs, Pt.cells, Pt.slots] at X87 l87 y87 z87 st87 hQ87
    subst l87 y87 z87
    obtain ⟨rfl, N87q, eh87⟩ := hQ87
    have N87 := Fr.app N66 N87q
    refine ot (S' := T87.setTop (mkF m 245 lv84 [(.int 0)])) st87 ?_
    refine oo (S' := T87.setTop (mkF m 250 lv84 [(.ref b1)])) (fun _ kK => XS.ifNo X87.here hx rfl (hb hby at_245) rfl ((if0 _ _).trans (teq ((by decide : (0 : Int32) = (0 : Int32)))).2) (XS.aload X87.here hx rfl (hb hby at_248) rfl rfl kK)) ?_
    have f88 := (f63.keep Kq66 (own_nin1 (on (by omega))))
    have f89 := (f64.keep Kq66 (own_nin1 (on (by omega))))
    have f90 := ((r13_2a.keep Kq34).keep Kq66)
    obtain ⟨cq91, kq91, q91a, q91b, q91c⟩ := isOf hZ eh87 r66_0
    obtain ⟨_, _, ⟨T91, L91, k91, n91⟩, -, X91, ⟨Lc91, hQ91, l91, y91, z91⟩, st91⟩ := X87.virtualBack hx (y := own_m47) (z := own_m47) hown (mvT hZ (w_ G 304 rfl)) (mvT hZ (w_ G 305 rfl)) (notFace_of_selects (args := #[]) (mvT hZ (w_ G 307 rfl))) (mvT hZ (w_ G 307 rfl)) (mvT hZ (w_ G 306 rfl)) (by decide) (backOf (W := 0) (rmnx l Z a0 G [] b1 ls13 (2 : Int32) (3 : Int32) ar13 kA13 [(.ref y13_0), (.ref y13_1), (.ref y13_2), .null, .null, .null, .null, .null, .null, .null] y13_2 (3 : Int32) T66.heap n0 O67 r66_0 r66_2 r66_1 f85 f86 f88 f89 (by decide) (by decide) (by decide) (by decide) (by rfl) (by decide) (by omega) (on (by omega)) (on (by omega)) f90) hZ (w_ G 308 rfl) (w_ G 35 rfl) (by decide) (by decide)) q91a q91c (g := (mkF m 250 lv84 [(.ref b1)])) rfl (by rw [hml]; rfl) (Steps.refl _) (argsL := []) (rest := []) (lenOf pd_21 rfl) rfl (own_z rfl) (hb hby at_250) (fun _ _ => ⟨rfl, eh87, (ol rfl), (ol rfl)⟩)
    dsimp only [Pt.U, Pt.locs, Pt.cells, Pt.slots] at X91 l91 y91 z91 st91 hQ91
    subst l91 y91 z91
    obtain ⟨rfl, N91q, Kq91, r91_0, r91_1, r91_2⟩ := hQ91
    have N91 := Fr.app N87 N91q
    have sz92 := Kq91.1
    have K92 := K67.trans Kq91 (own_all1 (Or.inr (by omega)))
    have O92 := O67.keep Kq91 (own_all1 (by omega))
    have ltr91_0 := lN r91_0.lt
    have ltr91_1 := lN r91_1.lt
    have ltr91_2 := lN r91_2.lt
    refine ot (S' := T91.setTop (mkF m 253 lv84 [(.ref y13_2)])) st91 ?_
    refine oo (S' := T91.setTop (mkF m 258 lv84 [(.int 3), (.int 3)])) (fun _ kK => XS.pop X91.here hx rfl (hb hby at_253) rfl rfl (XS.iload X91.here hx rfl (hb hby at_254) rfl (XS.iload X91.here hx rfl (hb hby at_256) rfl kK))) ?_
    obtain ⟨_, _, ⟨T93, L93, k93, n93⟩, -, X93, ⟨Lc93, hQ93, l93, y93, z93⟩, st93⟩ := Jvm.LawKit.callS X91 hx (y := own_m18) hown (mvT hZ (w_ G 250 rfl)) (mvT hZ (w_ G 198 rfl)) (mvT hZ (w_ G 199 rfl)) (mvT hZ (w_ G 200 rfl)) (by decide) (backOf (W := 0) (rmmin3_3 l Z a0 G []  T91.heap n0 O92 ) hZ (w_ G 200 rfl) (w_ G 199 rfl) (by decide) (by decide)) (g := (mkF m 258 lv84 [(.int 3), (.int 3)])) rfl (by rw [hml]; rfl) (argsL := [(.int 3), (.int 3)]) (rest := []) (lenOf pd_9 rfl) rfl (own_z rfl) (hb hby at_258) (fun _ _ => ⟨rfl, rfl, (ol rfl), (ol rfl)⟩)
    dsimp only [Pt.U, Pt.locs, Pt.cells, Pt.slots] at X93 l93 y93 z93 st93 hQ93
    subst l93 y93 z93
    obtain ⟨rfl, N93q, eh93⟩ := hQ93
    have N93 := Fr.app N91 N93q
    refine oo (S' := T93.setTop (mkF m 261 lv84 [(.int 3)])) st93 ?_
    let lv94 : Array Slot := #[vI p0, vI p1, vI p2, vI p3, vI p4, vI p5, vI c0, vI c1, vI c2, vI s0, vI s1, vR cb, vR xp, vI 3, vR b1, vI 3, vI 3, .unset, .unset, .unset, .unset, .unset]
    refine oo (S' := T93.setTop (mkF m 263 lv94 [])) (fun _ kK => XS.istore X93.here hx rfl (hb hby at_261) rfl (l' := lv94) rfl kK) ?_
    have HP : own_pick Z T91.heap ls13 [(.ref ea0), (.ref ea1), (.ref ea2)] ((3 : Int32) + (p5 &&& (7 : Int32))) (3 : Int32) := Or.inl (own_ah3_3 p5)
    have f95 := (f85.keep Kq91)
    have f96 := (f86.keep Kq91 (own_nin1 (on (by omega))))
    have f97 := (((((((J1.ext E1).ext E4).keep Kq8 (own_nin1 (on (by omega)))).keep Kq13 (own_nin1 (on (by omega)))).keep Kq34 (own_nin1 (on (by omega)))).keep Kq66 (own_nin1 (on (by omega)))).keep Kq91 (own_nin1 (on (by omega))))
    exact sfb l Z a0 G p0 p1 p2 p3 p4 p5 h0 n0 O0  Bd hml0 hZ (X93.more (by decide) (by decide)) T91.heap eh93 K92 O92 N93 (by omega) b1 ls13 cb xp kx (3 : Int32) (3 : Int32) (3 : Int32) [(.ref ea0), (.ref ea1), (.ref ea2)] c0 c1 c2 s0 s1 r91_0 r91_1 r91_2 f95 f96 f97 (HP)

set_option maxRecDepth 65536 in
set_option maxHeartbeats 40000000 in
theorem sfc (l : Launch) (Z : State) (a0 : Array Value) (G : OwnG Z a0) (p0 : Int32) (p1 : Int32) (p2 : Int32) (p3 : Int32) (p4 : Int32) (p5 : Int32) (h0 : Heap) (n0 : Nat) (O0 : Old Z n0 h0)  {p : Program} {e : Env} {s : State} {m : MethodId} {below : List Frame} {meth : Method} {cD : Code} {s₁ : State} {Sp : Spec} (Bd : BodyLoose p l x Sp code maxLocals ret e s m #[(.int p0), (.int p1), (.int p2), (.int p3), (.int p4), (.int p5)] below meth cD s₁) (hml0 : cD.maxLocals = maxLocals) (hZ : Z.Warmed39 s.vm) {TJ : State} {locs : List Loc} (XJ : Stand p l e room_1 s m #[(.int p0), (.int p1), (.int p2), (.int p3), (.int p4), (.int p5)] below meth cD TJ locs 0 0) (hJ : Heap) (eJ : TJ.heap = hJ) (KJ : Keep h0 hJ []) (OJ : Old Z n0 hJ) (NJ : Fr n0 locs) (szJ : Array.size h0 ≤ Array.size hJ) (c0 : Int32) (c1 : Int32) (c2 : Int32) (s0 : Int32) (s1 : Int32) (J0 : ¬ c0 < (0 : Int32) ∧ ¬ (255 : Int32) < c0) (J1 : ¬ c1 < (0 : Int32) ∧ ¬ (255 : Int32) < c1) (J2 : ¬ c2 < (0 : Int32) ∧ ¬ (255 : Int32) < c2) (J3 : s0 = (32 : Int32) ∨ s0 = (9 : Int32)) (J4 : s1 = (32 : Int32) ∨ s1 = (9 : Int32)) :
  OwnEnd p e below (fun o t => ∃ v L, o = .returned v ∧ own_Qlaw h0 n0 v t.heap L ∧ FrameEnd s o t L room_1.cells room_1.slots) (TJ.setTop (mkF m 54 #[vI p0, vI p1, vI p2, vI p3, vI p4, vI p5, vI c0, vI c1, vI c2, vI s0, vI s1, .unset, .unset, .unset, .unset, .unset, .unset, .unset, .unset, .unset, .unset, .unset] [])) := by
 have hx := Bd.exec
 have hby := Bd.bytes
 have hml : cD.maxLocals = 22 := hml0
 have hown : s.vm.findClass j7 = some m.cls := findClass_of_methodNamed Bd.named
 have hlk := Bd.notSynchronized
 have Z0 := own_old_le O0
 let lv1 : Array Slot := #[vI p0, vI p1, vI p2, vI p3, vI p4, vI p5, vI c0, vI c1, vI c2, vI s0, vI s1, .unset, .unset, .unset, .unset, .unset, .unset, .unset, .unset, .unset, .unset, .unset]
 refine oo (S' := TJ.setTop (mkF m 55 lv1 [(.int 5)])) (fun _ kK => XS.iconst XJ.here hx rfl (hb hby at_54) kK) ?_
 obtain ⟨T2, h2, k2, X2, e2, E2, A2, st2⟩ := newP XJ hx hZ (w_ G 0 rfl) eJ (g := (mkF m 55 lv1 [(.int 5)])) rfl (hb hby at_55) rfl (by decide) (cap := 5) (by decide) (by decide) (by decide) (by decide)
 obtain ⟨b2, g2⟩ : ∃ z, z = Array.size hJ := ⟨_, rfl⟩
 rw [← g2] at A2 st2
 have lt_b2 := lN A2.lt
 have sz3 := E2.1
 have K3 := KJ.ext E2
 have O3 := OJ.ext E2
 have V2 : Arv Z h2 b2 k2 .char (5 : Int32) [(.int 0), (.int 0), (.int 0), (.int 0), (.int 0)] (.int 0) := (Arv.new A2 (by decide)).pad (pad_rep [] (.int 0) 5)
 refine oo (S' := T2.setTop (mkF m 57 lv1 [(.ref b2)])) st2 ?_
 let lv4 : Array Slot := #[vI p0, vI p1, vI p2, vI p3, vI p4, vI p5, vI c0, vI c1, vI c2, vI s0, vI s1, vR b2, .unset, .unset, .unset, .unset, .unset, .unset, .unset, .unset, .unset, .unset]
 refine oo (S' := T2.setTop (mkF m 64 lv4 [(.int c0), (.int 0), (.ref b2)])) (fun _ kK => XS.astore X2.here hx rfl (hb hby at_57) rfl rfl (l' := lv4) rfl (XS.aload X2.here hx rfl (hb hby at_59) rfl rfl (XS.iconst X2.here hx rfl (hb hby at_61) (XS.iload X2.here hx rfl (hb hby at_62) rfl kK)))) ?_
 obtain ⟨cl5, Ar5, q5, S5, N5', H5, G5⟩ := id V2
 have hin6 : ¬ ((0 : Int32) < 0 ∨ cl5.slots.size ≤ ((0 : Int32)).toNatClampNeg) := inb_of S5 ⟨by decide, by decide⟩
 obtain ⟨T6, h6, X6, e6, W6, st6⟩ := stC X2 hx hZ e2 Ar5 (j := (0 : Int32)) hin6 (g := (mkF m 64 lv4 [(.int c0), (.int 0), (.ref b2)])) rfl rfl (hb hby at_64)
 have N6 := Fr.snoc X6 NJ (by omega)
 have sz7 := own_wr_le W6
 have K7 := K3.wr W6 (Or.inr (by omega))
 have O7 := O3.wr W6 (by omega)
 have V6 : Arv Z h6 b2 k2 .char (5 : Int32) [(.int (nar .char c0)), (.int 0), (.int 0), (.int 0), (.int 0)] (.int 0) := Arv.set Ar5 q5 S5 N5' H5 G5 (fits_nar_char _) W6 0 rfl (Nat.le_of_ble_eq_true rfl)
 refine oo (S' := T6.setTop (mkF m 65 lv4 [])) st6 ?_
 refine oo (S' := T6.setTop (mkF m 70 lv4 [(.int s0), (.int 1), (.ref b2)])) (fun _ kK => XS.aload X6.here hx rfl (hb hby at_65) rfl rfl (XS.iconst X6.here hx rfl (hb hby at_67) (XS.iload X6.here hx rfl (hb hby at_68) rfl kK))) ?_
 obtain ⟨cl8, Ar8, q8, S8, N8', H8, G8⟩ := id V6
 have hin9 : ¬ ((1 : Int32) < 0 ∨ cl8.slots.size ≤ ((1 : Int32)).toNatClampNeg) := inb_of S8 ⟨by decide, by decide⟩
 obtain ⟨T9, h9, X9, e9, W9, st9⟩ := stC X6 hx hZ e6 Ar8 (j := (1 : Int32)) hin9 (g := (mkF m 70 lv4 [(.int s0), (.int 1), (.ref b2)])) rfl rfl (hb hby at_70)
 have N9 := Fr.snoc X9 N6 (by omega)
 have sz10 := own_wr_le W9
 have K10 := K7.wr W9 (Or.inr (by omega))
 have O10 := O7.wr W9 (by omega)
 have V9 : Arv Z h9 b2 k2 .char (5 : Int32) [(.int (nar .char c0)), (.int (nar .char s0)), (.int 0), (.int 0), (.int 0)] (.int 0) := Arv.set Ar8 q8 S8 N8' H8 G8 (fits_nar_char _) W9 1 rfl (Nat.le_of_ble_eq_true rfl)
 refine oo (S' := T9.setTop (mkF m 71 lv4 [])) st9 ?_
 refine oo (S' := T9.setTop (mkF m 76 lv4 [(.int c1), (.int 2), (.ref b2)])) (fun _ kK => XS.aload X9.here hx rfl (hb hby at_71) rfl rfl (XS.iconst X9.here hx rfl (hb hby at_73) (XS.iload X9.here hx rfl (hb hby at_74) rfl kK))) ?_
 obtain ⟨cl11, Ar11, q11, S11, N11', H11, G11⟩ := id V9
 have hin12 : ¬ ((2 : Int32) < 0 ∨ cl11.slots.size ≤ ((2 : Int32)).toNatClampNeg) := inb_of S11 ⟨by decide, by decide⟩
 obtain ⟨T12, h12, X12, e12, W12, st12⟩ := stC X9 hx hZ e9 Ar11 (j := (2 : Int32)) hin12 (g := (mkF m 76 lv4 [(.int c1), (.int 2), (.ref b2)])) rfl rfl (hb hby at_76)
 have N12 := Fr.snoc X12 N9 (by omega)
 have sz13 := own_wr_le W12
 have K13 := K10.wr W12 (Or.inr (by omega))
 have O13 := O10.wr W12 (by omega)
 have V12 : Arv Z h12 b2 k2 .char (5 : Int32) [(.int (nar .char c0)), (.int (nar .char s0)), (.int (nar .char c1)), (.int 0), (.int 0)] (.int 0) := Arv.set Ar11 q11 S11 N11' H11 G11 (fits_nar_char _) W12 2 rfl (Nat.le_of_ble_eq_true rfl)
 refine oo (S' := T12.setTop (mkF m 77 lv4 [])) st12 ?_
 refine oo (S' := T12.setTop (mkF m 82 lv4 [(.int s1), (.int 3), (.ref b2)])) (fun _ kK => XS.aload X12.here hx rfl (hb hby at_77) rfl rfl (XS.iconst X12.here hx rfl (hb hby at_79) (XS.iload X12.here hx rfl (hb hby at_80) rfl kK))) ?_
 obtain ⟨cl14, Ar14, q14, S14, N14', H14, G14⟩ := id V12
 have hin15 : ¬ ((3 : Int32) < 0 ∨ cl14.slots.size ≤ ((3 : Int32)).toNatClampNeg) := inb_of S14 ⟨by decide, by decide⟩
 obtain ⟨T15, h15, X15, e15, W15, st15⟩ := stC X12 hx hZ e12 Ar14 (j := (3 : Int32)) hin15 (g := (mkF m 82 lv4 [(.int s1), (.int 3), (.ref b2)])) rfl rfl (hb hby at_82)
 have N15 := Fr.snoc X15 N12 (by omega)
 have sz16 := own_wr_le W15
 have K16 := K13.wr W15 (Or.inr (by omega))
 have O16 := O13.wr W15 (by omega)
 have V15 : Arv Z h15 b2 k2 .char (5 : Int32) [(.int (nar .char c0)), (.int (nar .char s0)), (.int (nar .char c1)), (.int (nar .char s1)), (.int 0)] (.int 0) := Arv.set Ar14 q14 S14 N14' H14 G14 (fits_nar_char _) W15 3 rfl (Nat.le_of_ble_eq_true rfl)
 refine oo (S' := T15.setTop (mkF m 83 lv4 [])) st15 ?_
 refine oo (S' := T15.setTop (mkF m 88 lv4 [(.int c2), (.int 4), (.ref b2)])) (fun _ kK => XS.aload X15.here hx rfl (hb hby at_83) rfl rfl (XS.iconst X15.here hx rfl (hb hby at_85) (XS.iload X15.here hx rfl (hb hby at_86) rfl kK))) ?_
 obtain ⟨cl17, Ar17, q17, S17, N17', H17, G17⟩ := id V15
 have hin18 : ¬ ((4 : Int32) < 0 ∨ cl17.slots.size ≤ ((4 : Int32)).toNatClampNeg) := inb_of S17 ⟨by decide, by decide⟩
 obtain ⟨T18, h18, X18, e18, W18, st18⟩ := stC X15 hx hZ e15 Ar17 (j := (4 : Int32)) hin18 (g := (mkF m 88 lv4 [(.int c2), (.int 4), (.ref b2)])) rfl rfl (hb hby at_88)
 have N18 := Fr.snoc X18 N15 (by omega)
 have sz19 := own_wr_le W18
 have K19 := K16.wr W18 (Or.inr (by omega))
 have O19 := O16.wr W18 (by omega)
 have V18 : Arv Z h18 b2 k2 .char (5 : Int32) [(.int (nar .char c0)), (.int (nar .char s0)), (.int (nar .char c1)), (.int (nar .char s1)), (.int (nar .char c2))] (.int 0) := Arv.set Ar17 q17 S17 N17' H17 G17 (fits_nar_char _) W18 4 rfl (Nat.le_of_ble_eq_true rfl)
 refine oo (S' := T18.setTop (mkF m 89 lv4 [])) st18 ?_
 have V20 : Arv Z h18 b2 k2 .char (5 : Int32) [(.int c0), (.int s0), (.int c1), (.int s1), (.int c2)] (.int 0) := by have q := V18; rw [own_narc J0.1 (own_255 J0.2), own_narc (own_blr J3).1 (own_255 (own_blr J3).2), own_narc J1.1 (own_255 J1.2), own_narc (own_blr J4).1 (own_255 (own_blr J4).2), own_narc J2.1 (own_255 J2.2)] at q; exact q
 refine oo (S' := T18.setTop (mkF m 90 lv4 [(.int 3)])) (fun _ kK => XS.iconst X18.here hx rfl (hb hby at_89) kK) ?_
 obtain ⟨T21, h21, k21, X21, e21, E21, A21, Ov21, st21⟩ := newR X18 hx hZ hown (w_ G 1 rfl) (w_ G 2 rfl) e18 (g := (mkF m 90 lv4 [(.int 3)])) rfl (hb hby at_90) rfl (by decide) (cap := 3) (by decide) (by decide) (by decide) (by decide)
 obtain ⟨b21, g21⟩ : ∃ z, z = Array.size h18 := ⟨_, rfl⟩
 rw [← g21] at A21 st21
 have lt_b21 := lN A21.lt
 have sz22 := E21.1
 have K22 := K19.ext E21
 have O22 := O19.ext E21
 have V21 : Arv Z h21 b21 k21 (.object j1) (3 : Int32) [.null, .null, .null] .null := (Arv.new A21 (by decide)).pad (pad_rep [] .null 3)
 refine oo (S' := T21.setTop (mkF m 93 lv4 [(.ref b21)])) st21 ?_
 let lv23 : Array Slot := #[vI p0, vI p1, vI p2, vI p3, vI p4, vI p5, vI c0, vI c1, vI c2, vI s0, vI s1, vR b2, vR b21, .unset, .unset, .unset, .unset, .unset, .unset, .unset, .unset, .unset]
 let lv24 : Array Slot := #[vI p0, vI p1, vI p2, vI p3, vI p4, vI p5, vI c0, vI c1, vI c2, vI s0, vI s1, vR b2, vR b21, vI 0, .unset, .unset, .unset, .unset, .unset, .unset, .unset, .unset]
 refine oo (S' := T21.setTop (mkF m 100 lv24 [(.int c0)])) (fun _ kK => XS.astore X21.here hx rfl (hb hby at_93) rfl rfl (l' := lv23) rfl (XS.iconst X21.here hx rfl (hb hby at_95) (XS.istore X21.here hx rfl (hb hby at_96) rfl (l' := lv24) rfl (XS.iload X21.here hx rfl (hb hby at_98) rfl kK)))) ?_
 obtain ⟨_, _, ⟨T25, L25, k25, n25⟩, -, X25, ⟨Lc25, hQ25, l25, y25, z25⟩, st25⟩ := Jvm.LawKit.callS X21 hx (y := own_m52) hown (mvT hZ (w_ G 3 rfl)) (mvT hZ (w_ G 4 rfl)) (mvT hZ (w_ G 5 rfl)) (mvT hZ (w_ G 6 rfl)) (by decide) (backOf (W := 0) (rmbk l Z a0 G [] c0 h21 n0 O22 ) hZ (w_ G 6 rfl) (w_ G 5 rfl) (by decide) (by decide)) (g := (mkF m 100 lv24 [(.int c0)])) rfl (by rw [hml]; rfl) (argsL := [(.int c0)]) (rest := []) (lenOf pd_6 rfl) rfl (own_z rfl) (hb hby at_100) (fun _ _ => ⟨rfl, e21, (ol rfl), (ol rfl)⟩)
 dsimp only [Pt.U, Pt.locs, Pt.cells, Pt.slots] at X25 l25 y25 z25 st25 hQ25
 subst l25 y25 z25
 obtain ⟨rfl, N25q, eh25⟩ := hQ25
 have N25 := Fr.app N18 N25q
 refine oo (S' := T25.setTop (mkF m 103 lv24 [(.int (own_blank c0))])) st25 ?_
 rcases own_blank01 c0 with hk0 | hk0
 ·rw [hk0.1]
  refine oo (S' := T25.setTop (mkF m 112 lv24 [(.int c0), (.int 0), (.ref b21)])) (fun _ kK => XS.ifNo X25.here hx rfl (hb hby at_103) rfl ((if0 _ _).trans (teq ((by decide : (0 : Int32) = (0 : Int32)))).2) (XS.aload X25.here hx rfl (hb hby at_106) rfl rfl (XS.iload X25.here hx rfl (hb hby at_108) rfl (XS.iload X25.here hx rfl (hb hby at_110) rfl kK)))) ?_
  obtain ⟨_, _, ⟨T26, L26, k26, n26⟩, -, X26, ⟨Lc26, hQ26, l26, y26, z26⟩, st26⟩ := Jvm.LawKit.callS X25 hx (y := own_m28) hown (mvT hZ (w_ G 7 rfl)) (mvT hZ (w_ G 8 rfl)) (mvT hZ (w_ G 9 rfl)) (mvT hZ (w_ G 10 rfl)) (by decide) (backOf (W := 2) (rmvo l Z a0 G [] c0 h21 n0 O22 J0) hZ (w_ G 10 rfl) (w_ G 9 rfl) (by decide) (by decide)) (g := (mkF m 112 lv24 [(.int c0), (.int 0), (.ref b21)])) rfl (by rw [hml]; rfl) (argsL := [(.int c0)]) (rest := [(.int 0), (.ref b21)]) (lenOf pd_24 rfl) rfl (own_z rfl) (hb hby at_112) (fun _ _ => ⟨rfl, eh25, (ol rfl), (ol rfl)⟩)
  dsimp only [Pt.U, Pt.locs, Pt.cells, Pt.slots] at X26 l26 y26 z26 st26 hQ26
  subst l26 y26 z26
  obtain ⟨x_26, t_26, kb_26, rfl, N26q, Kq26, r26_0, r26_1, r26_2, r26_3, r26_4, r26_5⟩ := hQ26
  have N26 := Fr.app N25 N26q
  have sz27 := Kq26.1
  have K27 := K22.trans Kq26 (own_all0 )
  have O27 := O22.keep Kq26 (own_all0 )
  have ltr26_0 := lN r26_0.lt
  have ltr26_1 := lN r26_1.lt
  have ltr26_2 := lN r26_2.lt
  have ltr26_3 := lN r26_3.lt
  refine oo (S' := T26.setTop (mkF m 115 lv24 [(.ref x_26), (.int 0), (.ref b21)])) st26 ?_
  have f28 := (V21.keep Kq26 nin0)
  obtain ⟨cl29, Ar29, q29, S29, N29', H29, G29⟩ := id f28
  have hin30 : ¬ ((0 : Int32) < 0 ∨ cl29.slots.size ≤ ((0 : Int32)).toNatClampNeg) := inb_of S29 ⟨by decide, by decide⟩
  obtain ⟨T30, h30, X30, e30, W30, st30⟩ := stR X26 hx hZ rfl Ar29 (j := (0 : Int32)) hin30 rfl (own_sto Ar29 q29 Ov21 (Ins.self r26_0)) (g := (mkF m 115 lv24 [(.ref x_26), (.int 0), (.ref b21)])) rfl rfl (hb hby at_115)
  have N30 := Fr.snoc X30 N26 (by omega)
  have sz31 := own_wr_le W30
  have K31 := K27.wr W30 (Or.inr (by omega))
  have O31 := O27.wr W30 (by omega)
  have V30 : Arv Z h30 b21 k21 (.object j1) (3 : Int32) [(.ref x_26), .null, .null] .null := Arv.set Ar29 q29 S29 N29' H29 G29 rfl W30 0 rfl (Nat.le_of_ble_eq_true rfl)
  refine oo (S' := T30.setTop (mkF m 116 lv24 [])) st30 ?_
  let lv32 : Array Slot := #[vI p0, vI p1, vI p2, vI p3, vI p4, vI p5, vI c0, vI c1, vI c2, vI s0, vI s1, vR b2, vR b21, vI 1, .unset, .unset, .unset, .unset, .unset, .unset, .unset, .unset]
  refine oo (S' := T30.setTop (mkF m 124 lv32 [(.int c1)])) (fun _ kK => XS.iload X30.here hx rfl (hb hby at_116) rfl (XS.iconst X30.here hx rfl (hb hby at_118) (XS.iadd X30.here hx rfl (hb hby at_119) rfl (XS.istore X30.here hx rfl (hb hby at_120) rfl (l' := lv32) rfl (XS.iload X30.here hx rfl (hb hby at_122) rfl kK))))) ?_
  obtain ⟨_, _, ⟨T33, L33, k33, n33⟩, -, X33, ⟨Lc33, hQ33, l33, y33, z33⟩, st33⟩ := Jvm.LawKit.callS X30 hx (y := own_m52) hown (mvT hZ (w_ G 3 rfl)) (mvT hZ (w_ G 4 rfl)) (mvT hZ (w_ G 5 rfl)) (mvT hZ (w_ G 6 rfl)) (by decide) (backOf (W := 0) (rmbk l Z a0 G [] c1 h30 n0 O31 ) hZ (w_ G 6 rfl) (w_ G 5 rfl) (by decide) (by decide)) (g := (mkF m 124 lv32 [(.int c1)])) rfl (by rw [hml]; rfl) (argsL := [(.int c1)]) (rest := []) (lenOf pd_6 rfl) rfl (own_z rfl) (hb hby at_124) (fun _ _ => ⟨rfl, e30, (ol rfl), (ol rfl)⟩)
  dsimp only [Pt.U, Pt.locs, Pt.cells, Pt.slots] at X33 l33 y33 z33 st33 hQ33
  subst l33 y33 z33
  obtain ⟨rfl, N33q, eh33⟩ := hQ33
  have N33 := Fr.app N30 N33q
  refine oo (S' := T33.setTop (mkF m 127 lv32 [(.int (own_blank c1))])) st33 ?_
  rcases own_blank01 c1 with hk1 | hk1
  ·rw [hk1.1]
   refine oo (S' := T33.setTop (mkF m 136 lv32 [(.int c1), (.int 1), (.ref b21)])) (fun _ kK => XS.ifNo X33.here hx rfl (hb hby at_127) rfl ((if0 _ _).trans (teq ((by decide : (0 : Int32) = (0 : Int32)))).2) (XS.aload X33.here hx rfl (hb hby at_130) rfl rfl (XS.iload X33.here hx rfl (hb hby at_132) rfl (XS.iload X33.here hx rfl (hb hby at_134) rfl kK)))) ?_
   obtain ⟨_, _, ⟨T34, L34, k34, n34⟩, -, X34, ⟨Lc34, hQ34, l34, y34, z34⟩, st34⟩ := Jvm.LawKit.callS X33 hx (y := own_m28) hown (mvT hZ (w_ G 7 rfl)) (mvT hZ (w_ G 8 rfl)) (mvT hZ (w_ G 9 rfl)) (mvT hZ (w_ G 10 rfl)) (by decide) (backOf (W := 2) (rmvo l Z a0 G [] c1 h30 n0 O31 J1) hZ (w_ G 10 rfl) (w_ G 9 rfl) (by decide) (by decide)) (g := (mkF m 136 lv32 [(.int c1), (.int 1), (.ref b21)])) rfl (by rw [hml]; rfl) (argsL := [(.int c1)]) (rest := [(.int 1), (.ref b21)]) (lenOf pd_24 rfl) rfl (own_z rfl) (hb hby at_136) (fun _ _ => ⟨rfl, eh33, (ol rfl), (ol rfl)⟩)
   dsimp only [Pt.U, Pt.locs, Pt.cells, Pt.slots] at X34 l34 y34 z34 st34 hQ34
   subst l34 y34 z34
   obtain ⟨x_34, t_34, kb_34, rfl, N34q, Kq34, r34_0, r34_1, r34_2, r34_3, r34_4, r34_5⟩ := hQ34
   have N34 := Fr.app N33 N34q
   have sz35 := Kq34.1
   have K35 := K31.trans Kq34 (own_all0 )
   have O35 := O31.keep Kq34 (own_all0 )
   have ltr34_0 := lN r34_0.lt
   have ltr34_1 := lN r34_1.lt
   have ltr34_2 := lN r34_2.lt
   have ltr34_3 := lN r34_3.lt
   refine oo (S' := T34.setTop (mkF m 139 lv32 [(.ref x_34), (.int 1), (.ref b21)])) st34 ?_
   have f36 := (V30.keep Kq34 nin0)
   obtain ⟨cl37, Ar37, q37, S37, N37', H37, G37⟩ := id f36
   have hin38 : ¬ ((1 : Int32) < 0 ∨ cl37.slots.size ≤ ((1 : Int32)).toNatClampNeg) := inb_of S37 ⟨by decide, by decide⟩
   obtain ⟨T38, h38, X38, e38, W38, st38⟩ := stR X34 hx hZ rfl Ar37 (j := (1 : Int32)) hin38 rfl (own_sto Ar37 q37 Ov21 (Ins.self r34_0)) (g := (mkF m 139 lv32 [(.ref x_34), (.int 1), (.ref b21)])) rfl rfl (hb hby at_139)
   have N38 := Fr.snoc X38 N34 (by omega)
   have sz39 := own_wr_le W38
   have K39 := K35.wr W38 (Or.inr (by omega))
   have O39 := O35.wr W38 (by omega)
   have V38 : Arv Z h38 b21 k21 (.object j1) (3 : Int32) [(.ref x_26), (.ref x_34), .null] .null := Arv.set Ar37 q37 S37 N37' H37 G37 rfl W38 1 rfl (Nat.le_of_ble_eq_true rfl)
   refine oo (S' := T38.setTop (mkF m 140 lv32 [])) st38 ?_
   let lv40 : Array Slot := #[vI p0, vI p1, vI p2, vI p3, vI p4, vI p5, vI c0, vI c1, vI c2, vI s0, vI s1, vR b2, vR b21, vI 2, .unset, .unset, .unset, .unset, .unset, .unset, .unset, .unset]
   refine oo (S' := T38.setTop (mkF m 148 lv40 [(.int c2)])) (fun _ kK => XS.iload X38.here hx rfl (hb hby at_140) rfl (XS.iconst X38.here hx rfl (hb hby at_142) (XS.iadd X38.here hx rfl (hb hby at_143) rfl (XS.istore X38.here hx rfl (hb hby at_144) rfl (l' := lv40) rfl (XS.iload X38.here hx rfl (hb hby at_146) rfl kK))))) ?_
   obtain ⟨_, _, ⟨T41, L41, k41, n41⟩, -, X41, ⟨Lc41, hQ41, l41, y41, z41⟩, st41⟩ := Jvm.LawKit.callS X38 hx (y := own_m52) hown (mvT hZ (w_ G 3 rfl)) (mvT hZ (w_ G 4 rfl)) (mvT hZ (w_ G 5 rfl)) (mvT hZ (w_ G 6 rfl)) (by decide) (backOf (W := 0) (rmbk l Z a0 G [] c2 h38 n0 O39 ) hZ (w_ G 6 rfl) (w_ G 5 rfl) (by decide) (by decide)) (g := (mkF m 148 lv40 [(.int c2)])) rfl (by rw [hml]; rfl) (argsL := [(.int c2)]) (rest := []) (lenOf pd_6 rfl) rfl (own_z rfl) (hb hby at_148) (fun _ _ => ⟨rfl, e38, (ol rfl), (ol rfl)⟩)
   dsimp only [Pt.U, Pt.locs, Pt.cells, Pt.slots] at X41 l41 y41 z41 st41 hQ41
   subst l41 y41 z41
   obtain ⟨rfl, N41q, eh41⟩ := hQ41
   have N41 := Fr.app N38 N41q
   refine oo (S' := T41.setTop (mkF m 151 lv40 [(.int (own_blank c2))])) st41 ?_
   rcases own_blank01 c2 with hk2 | hk2
   ·rw [hk2.1]
    refine oo (S' := T41.setTop (mkF m 160 lv40 [(.int c2), (.int 2), (.ref b21)])) (fun _ kK => XS.ifNo X41.here hx rfl (hb hby at_151) rfl ((if0 _ _).trans (teq ((by decide : (0 : Int32) = (0 : Int32)))).2) (XS.aload X41.here hx rfl (hb hby at_154) rfl rfl (XS.iload X41.here hx rfl (hb hby at_156) rfl (XS.iload X41.here hx rfl (hb hby at_158) rfl kK)))) ?_
    obtain ⟨_, _, ⟨T42, L42, k42, n42⟩, -, X42, ⟨Lc42, hQ42, l42, y42, z42⟩, st42⟩ := Jvm.LawKit.callS X41 hx (y := own_m28) hown (mvT hZ (w_ G 7 rfl)) (mvT hZ (w_ G 8 rfl)) (mvT hZ (w_ G 9 rfl)) (mvT hZ (w_ G 10 rfl)) (by decide) (backOf (W := 2) (rmvo l Z a0 G [] c2 h38 n0 O39 J2) hZ (w_ G 10 rfl) (w_ G 9 rfl) (by decide) (by decide)) (g := (mkF m 160 lv40 [(.int c2), (.int 2), (.ref b21)])) rfl (by rw [hml]; rfl) (argsL := [(.int c2)]) (rest := [(.int 2), (.ref b21)]) (lenOf pd_24 rfl) rfl (own_z rfl) (hb hby at_160) (fun _ _ => ⟨rfl, eh41, (ol rfl), (ol rfl)⟩)
    dsimp only [Pt.U, Pt.locs, Pt.cells, Pt.slots] at X42 l42 y42 z42 st42 hQ42
    subst l42 y42 z42
    obtain ⟨x_42, t_42, kb_42, rfl, N42q, Kq42, r42_0, r42_1, r42_2, r42_3, r42_4, r42_5⟩ := hQ42
    have N42 := Fr.app N41 N42q
    have sz43 := Kq42.1
    have K43 := K39.trans Kq42 (own_all0 )
    have O43 := O39.keep Kq42 (own_all0 )
    have ltr42_0 := lN r42_0.lt
    have ltr42_1 := lN r42_1.lt
    have ltr42_2 := lN r42_2.lt
    have ltr42_3 := lN r42_3.lt
    refine oo (S' := T42.setTop (mkF m 163 lv40 [(.ref x_42), (.int 2), (.ref b21)])) st42 ?_
    have f44 := (V38.keep Kq42 nin0)
    obtain ⟨cl45, Ar45, q45, S45, N45', H45, G45⟩ := id f44
    have hin46 : ¬ ((2 : Int32) < 0 ∨ cl45.slots.size ≤ ((2 : Int32)).toNatClampNeg) := inb_of S45 ⟨by decide, by decide⟩
    obtain ⟨T46, h46, X46, e46, W46, st46⟩ := stR X42 hx hZ rfl Ar45 (j := (2 : Int32)) hin46 rfl (own_sto Ar45 q45 Ov21 (Ins.self r42_0)) (g := (mkF m 163 lv40 [(.ref x_42), (.int 2), (.ref b21)])) rfl rfl (hb hby at_163)
    have N46 := Fr.snoc X46 N42 (by omega)
    have sz47 := own_wr_le W46
    have K47 := K43.wr W46 (Or.inr (by omega))
    have O47 := O43.wr W46 (by omega)
    have V46 : Arv Z h46 b21 k21 (.object j1) (3 : Int32) [(.ref x_26), (.ref x_34), (.ref x_42)] .null := Arv.set Ar45 q45 S45 N45' H45 G45 rfl W46 2 rfl (Nat.le_of_ble_eq_true rfl)
    refine oo (S' := T46.setTop (mkF m 164 lv40 [])) st46 ?_
    let lv48 : Array Slot := #[vI p0, vI p1, vI p2, vI p3, vI p4, vI p5, vI c0, vI c1, vI c2, vI s0, vI s1, vR b2, vR b21, vI 3, .unset, .unset, .unset, .unset, .unset, .unset, .unset, .unset]
    refine oo (S' := T46.setTop (mkF m 170 lv48 [])) (fun _ kK => XS.iload X46.here hx rfl (hb hby at_164) rfl (XS.iconst X46.here hx rfl (hb hby at_166) (XS.iadd X46.here hx rfl (hb hby at_167) rfl (XS.istore X46.here hx rfl (hb hby at_168) rfl (l' := lv48) rfl kK)))) ?_
    have f49 := (((((((V20.ext E21).keep Kq26 nin0).other W30 (on (by omega))).keep Kq34 nin0).other W38 (on (by omega))).keep Kq42 nin0).other W46 (on (by omega)))
    have f50 := (((((r26_0.wr W30).keep Kq34).wr W38).keep Kq42).wr W46)
    have f51 := (((((r26_1.other W30 (Or.inl (on (by omega)))).keep Kq34 nin0).other W38 (Or.inl (on (by omega)))).keep Kq42 nin0).other W46 (Or.inl (on (by omega))))
    have f52 := (((((r26_2.other W30 (Or.inl (on (by omega)))).keep Kq34 nin0).other W38 (Or.inl (on (by omega)))).keep Kq42 nin0).other W46 (Or.inl (on (by omega))))
    have f53 := (((((r26_3.other W30 (on (by omega))).keep Kq34 nin0).other W38 (on (by omega))).keep Kq42 nin0).other W46 (on (by omega)))
    have f54 := (((r34_0.wr W38).keep Kq42).wr W46)
    have f55 := (((r34_1.other W38 (Or.inl (on (by omega)))).keep Kq42 nin0).other W46 (Or.inl (on (by omega))))
    have f56 := (((r34_2.other W38 (Or.inl (on (by omega)))).keep Kq42 nin0).other W46 (Or.inl (on (by omega))))
    have f57 := (((r34_3.other W38 (on (by omega))).keep Kq42 nin0).other W46 (on (by omega)))
    have f58 := (r42_0.wr W46)
    have f59 := (r42_1.other W46 (Or.inl (on (by omega))))
    have f60 := (r42_2.other W46 (Or.inl (on (by omega))))
    have f61 := (r42_3.other W46 (on (by omega)))
    exact sfa3 l Z a0 G p0 p1 p2 p3 p4 p5 h0 n0 O0  Bd hml0 hZ (X46.more (by decide) (by decide)) h46 e46 K47 O47 N46 (by omega) c0 c1 c2 s0 s1 b2 k2 b21 k21 x_26 t_26 kb_26 c0 x_34 t_34 kb_34 c1 x_42 t_42 kb_42 c2 f49 V46 f50 f51 f52 f53 f54 f55 f56 f57 f58 f59 f60 f61 (own_all5 J0 (own_blr J3) J1 (own_blr J4) J2) (J3) (J4) (by rw [own_nb_n hk0.2.1 hk0.2.2, own_nb_n hk1.2.1 hk1.2.2, own_nb_n hk2.2.1 hk2.2.2] <;> rfl)
   ·rw [hk2.1]
    refine oo (S' := T41.setTop (mkF m 170 lv40 [])) (fun _ kK => XS.ifYes X41.here hx rfl (pc0 := 151) (pc' := 170) rfl (hb hby at_151) rfl ((if0 _ _).trans (feq ((by decide : ¬ ((1 : Int32) = (0 : Int32))))).2) (by decide) (by decide) kK) ?_
    have f62 := (((((V20.ext E21).keep Kq26 nin0).other W30 (on (by omega))).keep Kq34 nin0).other W38 (on (by omega)))
    have f63 := (((r26_0.wr W30).keep Kq34).wr W38)
    have f64 := (((r26_1.other W30 (Or.inl (on (by omega)))).keep Kq34 nin0).other W38 (Or.inl (on (by omega))))
    have f65 := (((r26_2.other W30 (Or.inl (on (by omega)))).keep Kq34 nin0).other W38 (Or.inl (on (by omega))))
    have f66 := (((r26_3.other W30 (on (by omega))).keep Kq34 nin0).other W38 (on (by omega)))
    have f67 := (r34_0.wr W38)
    have f68 := (r34_1.other W38 (Or.inl (on (by omega))))
    have f69 := (r34_2.other W38 (Or.inl (on (by omega))))
    have f70 := (r34_3.other W38 (on (by omega)))
    exact sfa2 l Z a0 G p0 p1 p2 p3 p4 p5 h0 n0 O0  Bd hml0 hZ (X41.more (by decide) (by decide)) h38 eh41 K39 O39 N41 (by omega) c0 c1 c2 s0 s1 b2 k2 b21 k21 x_26 t_26 kb_26 c0 x_34 t_34 kb_34 c1 f62 V38 f63 f64 f65 f66 f67 f68 f69 f70 (own_all5 J0 (own_blr J3) J1 (own_blr J4) J2) (J3) (J4) (by rw [own_nb_n hk0.2.1 hk0.2.2, own_nb_n hk1.2.1 hk1.2.2, own_nb_b hk2.2] <;> rfl)
  ·rw [hk1.1]
   refine oo (S' := T33.setTop (mkF m 148 lv32 [(.int c2)])) (fun _ kK => XS.ifYes X33.here hx rfl (pc0 := 127) (pc' := 146) rfl (hb hby at_127) rfl ((if0 _ _).trans (feq ((by decide : ¬ ((1 : Int32) = (0 : Int32))))).2) (by decide) (by decide) (XS.iload X33.here hx rfl (hb hby at_146) rfl kK)) ?_
   obtain ⟨_, _, ⟨T71, L71, k71, n71⟩, -, X71, ⟨Lc71, hQ71, l71, y71, z71⟩, st71⟩ := Jvm.LawKit.callS X33 hx (y := own_m52) hown (mvT hZ (w_ G 3 rfl)) (mvT hZ (w_ G 4 rfl)) (mvT hZ (w_ G 5 rfl)) (mvT hZ (w_ G 6 rfl)) (by decide) (backOf (W := 0) (rmbk l Z a0 G [] c2 h30 n0 O31 ) hZ (w_ G 6 rfl) (w_ G 5 rfl) (by decide) (by decide)) (g := (mkF m 148 lv32 [(.int c2)])) rfl (by rw [hml]; rfl) (argsL := [(.int c2)]) (rest := []) (lenOf pd_6 rfl) rfl (own_z rfl) (hb hby at_148) (fun _ _ => ⟨rfl, eh33, (ol rfl), (ol rfl)⟩)
   dsimp only [Pt.U, Pt.locs, Pt.cells, Pt.slots] at X71 l71 y71 z71 st71 hQ71
   subst l71 y71 z71
   obtain ⟨rfl, N71q, eh71⟩ := hQ71
   have N71 := Fr.app N33 N71q
   refine oo (S' := T71.setTop (mkF m 151 lv32 [(.int (own_blank c2))])) st71 ?_
   rcases own_blank01 c2 with hk2 | hk2
   ·rw [hk2.1]
    refine oo (S' := T71.setTop (mkF m 160 lv32 [(.int c2), (.int 1), (.ref b21)])) (fun _ kK => XS.ifNo X71.here hx rfl (hb hby at_151) rfl ((if0 _ _).trans (teq ((by decide : (0 : Int32) = (0 : Int32)))).2) (XS.aload X71.here hx rfl (hb hby at_154) rfl rfl (XS.iload X71.here hx rfl (hb hby at_156) rfl (XS.iload X71.here hx rfl (hb hby at_158) rfl kK)))) ?_
    obtain ⟨_, _, ⟨T72, L72, k72, n72⟩, -, X72, ⟨Lc72, hQ72, l72, y72, z72⟩, st72⟩ := Jvm.LawKit.callS X71 hx (y := own_m28) hown (mvT hZ (w_ G 7 rfl)) (mvT hZ (w_ G 8 rfl)) (mvT hZ (w_ G 9 rfl)) (mvT hZ (w_ G 10 rfl)) (by decide) (backOf (W := 2) (rmvo l Z a0 G [] c2 h30 n0 O31 J2) hZ (w_ G 10 rfl) (w_ G 9 rfl) (by decide) (by decide)) (g := (mkF m 160 lv32 [(.int c2), (.int 1), (.ref b21)])) rfl (by rw [hml]; rfl) (argsL := [(.int c2)]) (rest := [(.int 1), (.ref b21)]) (lenOf pd_24 rfl) rfl (own_z rfl) (hb hby at_160) (fun _ _ => ⟨rfl, eh71, (ol rfl), (ol rfl)⟩)
    dsimp only [Pt.U, Pt.locs, Pt.cells, Pt.slots] at X72 l72 y72 z72 st72 hQ72
    subst l72 y72 z72
    obtain ⟨x_72, t_72, kb_72, rfl, N72q, Kq72, r72_0, r72_1, r72_2, r72_3, r72_4, r72_5⟩ := hQ72
    have N72 := Fr.app N71 N72q
    have sz73 := Kq72.1
    have K73 := K31.trans Kq72 (own_all0 )
    have O73 := O31.keep Kq72 (own_all0 )
    have ltr72_0 := lN r72_0.lt
    have ltr72_1 := lN r72_1.lt
    have ltr72_2 := lN r72_2.lt
    have ltr72_3 := lN r72_3.lt
    refine oo (S' := T72.setTop (mkF m 163 lv32 [(.ref x_72), (.int 1), (.ref b21)])) st72 ?_
    have f74 := (V30.keep Kq72 nin0)
    obtain ⟨cl75, Ar75, q75, S75, N75', H75, G75⟩ := id f74
    have hin76 : ¬ ((1 : Int32) < 0 ∨ cl75.slots.size ≤ ((1 : Int32)).toNatClampNeg) := inb_of S75 ⟨by decide, by decide⟩
    obtain ⟨T76, h76, X76, e76, W76, st76⟩ := stR X72 hx hZ rfl Ar75 (j := (1 : Int32)) hin76 rfl (own_sto Ar75 q75 Ov21 (Ins.self r72_0)) (g := (mkF m 163 lv32 [(.ref x_72), (.int 1), (.ref b21)])) rfl rfl (hb hby at_163)
    have N76 := Fr.snoc X76 N72 (by omega)
    have sz77 := own_wr_le W76
    have K77 := K73.wr W76 (Or.inr (by omega))
    have O77 := O73.wr W76 (by omega)
    have V76 : Arv Z h76 b21 k21 (.object j1) (3 : Int32) [(.ref x_26), (.ref x_72), .null] .null := Arv.set Ar75 q75 S75 N75' H75 G75 rfl W76 1 rfl (Nat.le_of_ble_eq_true rfl)
    refine oo (S' := T76.setTop (mkF m 164 lv32 [])) st76 ?_
    let lv78 : Array Slot := #[vI p0, vI p1, vI p2, vI p3, vI p4, vI p5, vI c0, vI c1, vI c2, vI s0, vI s1, vR b2, vR b21, vI 2, .unset, .unset, .unset, .unset, .unset, .unset, .unset, .unset]
    refine oo (S' := T76.setTop (mkF m 170 lv78 [])) (fun _ kK => XS.iload X76.here hx rfl (hb hby at_164) rfl (XS.iconst X76.here hx rfl (hb hby at_166) (XS.iadd X76.here hx rfl (hb hby at_167) rfl (XS.istore X76.here hx rfl (hb hby at_168) rfl (l' := lv78) rfl kK)))) ?_
    have f79 := (((((V20.ext E21).keep Kq26 nin0).other W30 (on (by omega))).keep Kq72 nin0).other W76 (on (by omega)))
    have f80 := (((r26_0.wr W30).keep Kq72).wr W76)
    have f81 := (((r26_1.other W30 (Or.inl (on (by omega)))).keep Kq72 nin0).other W76 (Or.inl (on (by omega))))
    have f82 := (((r26_2.other W30 (Or.inl (on (by omega)))).keep Kq72 nin0).other W76 (Or.inl (on (by omega))))
    have f83 := (((r26_3.other W30 (on (by omega))).keep Kq72 nin0).other W76 (on (by omega)))
    have f84 := (r72_0.wr W76)
    have f85 := (r72_1.other W76 (Or.inl (on (by omega))))
    have f86 := (r72_2.other W76 (Or.inl (on (by omega))))
    have f87 := (r72_3.other W76 (on (by omega)))
    exact sfa2 l Z a0 G p0 p1 p2 p3 p4 p5 h0 n0 O0  Bd hml0 hZ (X76.more (by decide) (by decide)) h76 e76 K77 O77 N76 (by omega) c0 c1 c2 s0 s1 b2 k2 b21 k21 x_26 t_26 kb_26 c0 x_72 t_72 kb_72 c2 f79 V76 f80 f81 f82 f83 f84 f85 f86 f87 (own_all5 J0 (own_blr J3) J1 (own_blr J4) J2) (J3) (J4) (by rw [own_nb_n hk0.2.1 hk0.2.2, own_nb_b hk1.2, own_nb_n hk2.2.1 hk2.2.2] <;> rfl)
   ·rw [hk2.1]
    refine oo (S' := T71.setTop (mkF m 170 lv32 [])) (fun _ kK => XS.ifYes X71.here hx rfl (pc0 := 151) (pc' := 170) rfl (hb hby at_151) rfl ((if0 _ _).trans (feq ((by decide : ¬ ((1 : Int32) = (0 : Int32))))).2) (by decide) (by decide) kK) ?_
    have f88 := (((V20.ext E21).keep Kq26 nin0).other W30 (on (by omega)))
    have f89 := (r26_0.wr W30)
    have f90 := (r26_1.other W30 (Or.inl (on (by omega))))
    have f91 := (r26_2.other W30 (Or.inl (on (by omega))))
    have f92 := (r26_3.other W30 (on (by omega)))
    exact sfa1 l Z a0 G p0 p1 p2 p3 p4 p5 h0 n0 O0  Bd hml0 hZ (X71.more (by decide) (by decide)) h30 eh71 K31 O31 N71 (by omega) c0 c1 c2 s0 s1 b2 k2 b21 k21 x_26 t_26 kb_26 c0 f88 V30 f89 f90 f91 f92 (own_all5 J0 (own_blr J3) J1 (own_blr J4) J2) (J3) (J4) (by rw [own_nb_n hk0.2.1 hk0.2.2, own_nb_b hk1.2, own_nb_b hk2.2] <;> rfl)
 ·rw [hk0.1]
  refine oo (S' := T25.setTop (mkF m 124 lv24 [(.int c1)])) (fun _ kK => XS.ifYes X25.here hx rfl (pc0 := 103) (pc' := 122) rfl (hb hby at_103) rfl ((if0 _ _).trans (feq ((by decide : ¬ ((1 : Int32) = (0 : Int32))))).2) (by decide) (by decide) (XS.iload X25.here hx rfl (hb hby at_122) rfl kK)) ?_
  obtain ⟨_, _, ⟨T93, L93, k93, n93⟩, -, X93, ⟨Lc93, hQ93, l93, y93, z93⟩, st93⟩ := Jvm.LawKit.callS X25 hx (y := own_m52) hown (mvT hZ (w_ G 3 rfl)) (mvT hZ (w_ G 4 rfl)) (mvT hZ (w_ G 5 rfl)) (mvT hZ (w_ G 6 rfl)) (by decide) (backOf (W := 0) (rmbk l Z a0 G [] c1 h21 n0 O22 ) hZ (w_ G 6 rfl) (w_ G 5 rfl) (by decide) (by decide)) (g := (mkF m 124 lv24 [(.int c1)])) rfl (by rw [hml]; rfl) (argsL := [(.int c1)]) (rest := []) (lenOf pd_6 rfl) rfl (own_z rfl) (hb hby at_124) (fun _ _ => ⟨rfl, eh25, (ol rfl), (ol rfl)⟩)
  dsimp only [Pt.U, Pt.locs, Pt.cells, Pt.slots] at X93 l93 y93 z93 st93 hQ93
  subst l93 y93 z93
  obtain ⟨rfl, N93q, eh93⟩ := hQ93
  have N93 := Fr.app N25 N93q
  refine oo (S' := T93.setTop (mkF m 127 lv24 [(.int (own_blank c1))])) st93 ?_
  rcases own_blank01 c1 with hk1 | hk1
  ·rw [hk1.1]
   refine oo (S' := T93.setTop (mkF m 136 lv24 [(.int c1), (.int 0), (.ref b21)])) (fun _ kK => XS.ifNo X93.here hx rfl (hb hby at_127) rfl ((if0 _ _).trans (teq ((by decide : (0 : Int32) = (0 : Int32)))).2) (XS.aload X93.here hx rfl (hb hby at_130) rfl rfl (XS.iload X93.here hx rfl (hb hby at_132) rfl (XS.iload X93.here hx rfl (hb hby at_134) rfl kK)))) ?_
   obtain ⟨_, _, ⟨T94, L94, k94, n94⟩, -, X94, ⟨Lc94, hQ94, l94, y94, z94⟩, st94⟩ := Jvm.LawKit.callS X93 hx (y := own_m28) hown (mvT hZ (w_ G 7 rfl)) (mvT hZ (w_ G 8 rfl)) (mvT hZ (w_ G 9 rfl)) (mvT hZ (w_ G 10 rfl)) (by decide) (backOf (W := 2) (rmvo l Z a0 G [] c1 h21 n0 O22 J1) hZ (w_ G 10 rfl) (w_ G 9 rfl) (by decide) (by decide)) (g := (mkF m 136 lv24 [(.int c1), (.int 0), (.ref b21)])) rfl (by rw [hml]; rfl) (argsL := [(.int c1)]) (rest := [(.int 0), (.ref b21)]) (lenOf pd_24 rfl) rfl (own_z rfl) (hb hby at_136) (fun _ _ => ⟨rfl, eh93, (ol rfl), (ol rfl)⟩)
   dsimp only [Pt.U, Pt.locs, Pt.cells, Pt.slots] at X94 l94 y94 z94 st94 hQ94
   subst l94 y94 z94
   obtain ⟨x_94, t_94, kb_94, rfl, N94q, Kq94, r94_0, r94_1, r94_2, r94_3, r94_4, r94_5⟩ := hQ94
   have N94 := Fr.app N93 N94q
   have sz95 := Kq94.1
   have K95 := K22.trans Kq94 (own_all0 )
   have O95 := O22.keep Kq94 (own_all0 )
   have ltr94_0 := lN r94_0.lt
   have ltr94_1 := lN r94_1.lt
   have ltr94_2 := lN r94_2.lt
   have ltr94_3 := lN r94_3.lt
   refine oo (S' := T94.setTop (mkF m 139 lv24 [(.ref x_94), (.int 0), (.ref b21)])) st94 ?_
   have f96 := (V21.keep Kq94 nin0)
   obtain ⟨cl97, Ar97, q97, S97, N97', H97, G97⟩ := id f96
   have hin98 : ¬ ((0 : Int32) < 0 ∨ cl97.slots.size ≤ ((0 : Int32)).toNatClampNeg) := inb_of S97 ⟨by decide, by decide⟩
   obtain ⟨T98, h98, X98, e98, W98, st98⟩ := stR X94 hx hZ rfl Ar97 (j := (0 : Int32)) hin98 rfl (own_sto Ar97 q97 Ov21 (Ins.self r94_0)) (g := (mkF m 139 lv24 [(.ref x_94), (.int 0), (.ref b21)])) rfl rfl (hb hby at_139)
   have N98 := Fr.snoc X98 N94 (by omega)
   have sz99 := own_wr_le W98
   have K99 := K95.wr W98 (Or.inr (by omega))
   have O99 := O95.wr W98 (by omega)
   have V98 : Arv Z h98 b21 k21 (.object j1) (3 : Int32) [(.ref x_94), .null, .null] .null := Arv.set Ar97 q97 S97 N97' H97 G97 rfl W98 0 rfl (Nat.le_of_ble_eq_true rfl)
   refine oo (S' := T98.setTop (mkF m 140 lv24 [])) st98 ?_
   let lv100 : Array Slot := #[vI p0, vI p1, vI p2, vI p3, vI p4, vI p5, vI c0, vI c1, vI c2, vI s0, vI s1, vR b2, vR b21, vI 1, .unset, .unset, .unset, .unset, .unset, .unset, .unset, .unset]
   refine oo (S' := T98.setTop (mkF m 148 lv100 [(.int c2)])) (fun _ kK => XS.iload X98.here hx rfl (hb hby at_140) rfl (XS.iconst X98.here hx rfl (hb hby at_142) (XS.iadd X98.here hx rfl (hb hby at_143) rfl (XS.istore X98.here hx rfl (hb hby at_144) rfl (l' := lv100) rfl (XS.iload X98.here hx rfl (hb hby at_146) rfl kK))))) ?_
   obtain ⟨_, _, ⟨T101, L101, k101, n101⟩, -, X101, ⟨Lc101, hQ101, l101, y101, z101⟩, st101⟩ := Jvm.LawKit.callS X98 hx (y := own_m52) hown (mvT hZ (w_ G 3 rfl)) (mvT hZ (w_ G 4 rfl)) (mvT hZ (w_ G 5 rfl)) (mvT hZ (w_ G 6 rfl)) (by decide) (backOf (W := 0) (rmbk l Z a0 G [] c2 h98 n0 O99 ) hZ (w_ G 6 rfl) (w_ G 5 rfl) (by decide) (by decide)) (g := (mkF m 148 lv100 [(.int c2)])) rfl (by rw [hml]; rfl) (argsL := [(.int c2)]) (rest := []) (lenOf pd_6 rfl) rfl (own_z rfl) (hb hby at_148) (fun _ _ => ⟨rfl, e98, (ol rfl), (ol rfl)⟩)
   dsimp only [Pt.U, Pt.locs, Pt.cells, Pt.slots] at X101 l101 y101 z101 st101 hQ101
   subst l101 y101 z101
   obtain ⟨rfl, N101q, eh101⟩ := hQ101
   have N101 := Fr.app N98 N101q
   refine oo (S' := T101.setTop (mkF m 151 lv100 [(.int (own_blank c2))])) st101 ?_
   rcases own_blank01 c2 with hk2 | hk2
   ·rw [hk2.1]
    refine oo (S' := T101.setTop (mkF m 160 lv100 [(.int c2), (.int 1), (.ref b21)])) (fun _ kK => XS.ifNo X101.here hx rfl (hb hby at_151) rfl ((if0 _ _).trans (teq ((by decide : (0 : Int32) = (0 : Int32)))).2) (XS.aload X101.here hx rfl (hb hby at_154) rfl rfl (XS.iload X101.here hx rfl (hb hby at_156) rfl (XS.iload X101.here hx rfl (hb hby at_158) rfl kK)))) ?_
    obtain ⟨_, _, ⟨T102, L102, k102, n102⟩, -, X102, ⟨Lc102, hQ102, l102, y102, z102⟩, st102⟩ := Jvm.LawKit.callS X101 hx (y := own_m28) hown (mvT hZ (w_ G 7 rfl)) (mvT hZ (w_ G 8 rfl)) (mvT hZ (w_ G 9 rfl)) (mvT hZ (w_ G 10 rfl)) (by decide) (backOf (W := 2) (rmvo l Z a0 G [] c2 h98 n0 O99 J2) hZ (w_ G 10 rfl) (w_ G 9 rfl) (by decide) (by decide)) (g := (mkF m 160 lv100 [(.int c2), (.int 1), (.ref b21)])) rfl (by rw [hml]; rfl) (argsL := [(.int c2)]) (rest := [(.int 1), (.ref b21)]) (lenOf pd_24 rfl) rfl (own_z rfl) (hb hby at_160) (fun _ _ => ⟨rfl, eh101, (ol rfl), (ol rfl)⟩)
    dsimp only [Pt.U, Pt.locs, Pt.cells, Pt.slots] at X102 l102 y102 z102 st102 hQ102
    subst l102 y102 z102
    obtain ⟨x_102, t_102, kb_102, rfl, N102q, Kq102, r102_0, r102_1, r102_2, r102_3, r102_4, r102_5⟩ := hQ102
    have N102 := Fr.app N101 N102q
    have sz103 := Kq102.1
    have K103 := K99.trans Kq102 (own_all0 )
    have O103 := O99.keep Kq102 (own_all0 )
    have ltr102_0 := lN r102_0.lt
    have ltr102_1 := lN r102_1.lt
    have ltr102_2 := lN r102_2.lt
    have ltr102_3 := lN r102_3.lt
    refine oo (S' := T102.setTop (mkF m 163 lv100 [(.ref x_102), (.int 1), (.ref b21)])) st102 ?_
    have f104 := (V98.keep Kq102 nin0)
    obtain ⟨cl105, Ar105, q105, S105, N105', H105, G105⟩ := id f104
    have hin106 : ¬ ((1 : Int32) < 0 ∨ cl105.slots.size ≤ ((1 : Int32)).toNatClampNeg) := inb_of S105 ⟨by decide, by decide⟩
    obtain ⟨T106, h106, X106, e106, W106, st106⟩ := stR X102 hx hZ rfl Ar105 (j := (1 : Int32)) hin106 rfl (own_sto Ar105 q105 Ov21 (Ins.self r102_0)) (g := (mkF m 163 lv100 [(.ref x_102), (.int 1), (.ref b21)])) rfl rfl (hb hby at_163)
    have N106 := Fr.snoc X106 N102 (by omega)
    have sz107 := own_wr_le W106
    have K107 := K103.wr W106 (Or.inr (by omega))
    have O107 := O103.wr W106 (by omega)
    have V106 : Arv Z h106 b21 k21 (.object j1) (3 : Int32) [(.ref x_94), (.ref x_102), .null] .null := Arv.set Ar105 q105 S105 N105' H105 G105 rfl W106 1 rfl (Nat.le_of_ble_eq_true rfl)
    refine oo (S' := T106.setTop (mkF m 164 lv100 [])) st106 ?_
    let lv108 : Array Slot := #[vI p0, vI p1, vI p2, vI p3, vI p4, vI p5, vI c0, vI c1, vI c2, vI s0, vI s1, vR b2, vR b21, vI 2, .unset, .unset, .unset, .unset, .unset, .unset, .unset, .unset]
    refine oo (S' := T106.setTop (mkF m 170 lv108 [])) (fun _ kK => XS.iload X106.here hx rfl (hb hby at_164) rfl (XS.iconst X106.here hx rfl (hb hby at_166) (XS.iadd X106.here hx rfl (hb hby at_167) rfl (XS.istore X106.here hx rfl (hb hby at_168) rfl (l' := lv108) rfl kK)))) ?_
    have f109 := (((((V20.ext E21).keep Kq94 nin0).other W98 (on (by omega))).keep Kq102 nin0).other W106 (on (by omega)))
    have f110 := (((r94_0.wr W98).keep Kq102).wr W106)
    have f111 := (((r94_1.other W98 (Or.inl (on (by omega)))).keep Kq102 nin0).other W106 (Or.inl (on (by omega))))
    have f112 := (((r94_2.other W98 (Or.inl (on (by omega)))).keep Kq102 nin0).other W106 (Or.inl (on (by omega))))
    have f113 := (((r94_3.other W98 (on (by omega))).keep Kq102 nin0).other W106 (on (by omega)))
    have f114 := (r102_0.wr W106)
    have f115 := (r102_1.other W106 (Or.inl (on (by omega))))
    have f116 := (r102_2.other W106 (Or.inl (on (by omega))))
    have f117 := (r102_3.other W106 (on (by omega)))
    exact sfa2 l Z a0 G p0 p1 p2 p3 p4 p5 h0 n0 O0  Bd hml0 hZ (X106.more (by decide) (by decide)) h106 e106 K107 O107 N106 (by omega) c0 c1 c2 s0 s1 b2 k2 b21 k21 x_94 t_94 kb_94 c1 x_102 t_102 kb_102 c2 f109 V106 f110 f111 f112 f113 f114 f115 f116 f117 (own_all5 J0 (own_blr J3) J1 (own_blr J4) J2) (J3) (J4) (by rw [own_nb_b hk0.2, own_nb_n hk1.2.1 hk1.2.2, own_nb_n hk2.2.1 hk2.2.2] <;> rfl)
   ·rw [hk2.1]
    refine oo (S' := T101.setTop (mkF m 170 lv100 [])) (fun _ kK => XS.ifYes X101.here hx rfl (pc0 := 151) (pc' := 170) rfl (hb hby at_151) rfl ((if0 _ _).trans (feq ((by decide : ¬ ((1 : Int32) = (0 : Int32))))).2) (by decide) (by decide) kK) ?_
    have f118 := (((V20.ext E21).keep Kq94 nin0).other W98 (on (by omega)))
    have f119 := (r94_0.wr W98)
    have f120 := (r94_1.other W98 (Or.inl (on (by omega))))
    have f121 := (r94_2.other W98 (Or.inl (on (by omega))))
    have f122 := (r94_3.other W98 (on (by omega)))
    exact sfa1 l Z a0 G p0 p1 p2 p3 p4 p5 h0 n0 O0  Bd hml0 hZ (X101.more (by decide) (by decide)) h98 eh101 K99 O99 N101 (by omega) c0 c1 c2 s0 s1 b2 k2 b21 k21 x_94 t_94 kb_94 c1 f118 V98 f119 f120 f121 f122 (own_all5 J0 (own_blr J3) J1 (own_blr J4) J2) (J3) (J4) (by rw [own_nb_b hk0.2, own_nb_n hk1.2.1 hk1.2.2, own_nb_b hk2.2] <;> rfl)
  ·rw [hk1.1]
   refine oo (S' := T93.setTop (mkF m 148 lv24 [(.int c2)])) (fun _ kK => XS.ifYes X93.here hx rfl (pc0 := 127) (pc' := 146) rfl (hb hby at_127) rfl ((if0 _ _).trans (feq ((by decide : ¬ ((1 : Int32) = (0 : Int32))))).2) (by decide) (by decide) (XS.iload X93.here hx rfl (hb hby at_146) rfl kK)) ?_
   obtain ⟨_, _, ⟨T123, L123, k123, n123⟩, -, X123, ⟨Lc123, hQ123, l123, y123, z123⟩, st123⟩ := Jvm.LawKit.callS X93 hx (y := own_m52) hown (mvT hZ (w_ G 3 rfl)) (mvT hZ (w_ G 4 rfl)) (mvT hZ (w_ G 5 rfl)) (mvT hZ (w_ G 6 rfl)) (by decide) (backOf (W := 0) (rmbk l Z a0 G [] c2 h21 n0 O22 ) hZ (w_ G 6 rfl) (w_ G 5 rfl) (by decide) (by decide)) (g := (mkF m 148 lv24 [(.int c2)])) rfl (by rw [hml]; rfl) (argsL := [(.int c2)]) (rest := []) (lenOf pd_6 rfl) rfl (own_z rfl) (hb hby at_148) (fun _ _ => ⟨rfl, eh93, (ol rfl), (ol rfl)⟩)
   dsimp only [Pt.U, Pt.locs, Pt.cells, Pt.slots] at X123 l123 y123 z123 st123 hQ123
   subst l123 y123 z123
   obtain ⟨rfl, N123q, eh123⟩ := hQ123
   have N123 := Fr.app N93 N123q
   refine oo (S' := T123.setTop (mkF m 151 lv24 [(.int (own_blank c2))])) st123 ?_
   rcases own_blank01 c2 with hk2 | hk2
   ·rw [hk2.1]
    refine oo (S' := T123.setTop (mkF m 160 lv24 [(.int c2), (.int 0), (.ref b21)])) (fun _ kK => XS.ifNo X123.here hx rfl (hb hby at_151) rfl ((if0 _ _).trans (teq ((by decide : (0 : Int32) = (0 : Int32)))).2) (XS.aload X123.here hx rfl (hb hby at_154) rfl rfl (XS.iload X123.here hx rfl (hb hby at_156) rfl (XS.iload X123.here hx rfl (hb hby at_158) rfl kK)))) ?_
    obtain ⟨_, _, ⟨T124, L124, k124, n124⟩, -, X124, ⟨Lc124, hQ124, l124, y124, z124⟩, st124⟩ := Jvm.LawKit.callS X123 hx (y := own_m28) hown (mvT hZ (w_ G 7 rfl)) (mvT hZ (w_ G 8 rfl)) (mvT hZ (w_ G 9 rfl)) (mvT hZ (w_ G 10 rfl)) (by decide) (backOf (W := 2) (rmvo l Z a0 G [] c2 h21 n0 O22 J2) hZ (w_ G 10 rfl) (w_ G 9 rfl) (by decide) (by decide)) (g := (mkF m 160 lv24 [(.int c2), (.int 0), (.ref b21)])) rfl (by rw [hml]; rfl) (argsL := [(.int c2)]) (rest := [(.int 0), (.ref b21)]) (lenOf pd_24 rfl) rfl (own_z rfl) (hb hby at_160) (fun _ _ => ⟨rfl, eh123, (ol rfl), (ol rfl)⟩)
    dsimp only [Pt.U, Pt.locs, Pt.cells, Pt.slots] at X124 l124 y124 z124 st124 hQ124
    subst l124 y124 z124
    obtain ⟨x_124, t_124, kb_124, rfl, N124q, Kq124, r124_0, r124_1, r124_2, r124_3, r124_4, r124_5⟩ := hQ124
    have N124 := Fr.app N123 N124q
    have sz125 := Kq124.1
    have K125 := K22.trans Kq124 (own_all0 )
    have O125 := O22.keep Kq124 (own_all0 )
    have ltr124_0 := lN r124_0.lt
    have ltr124_1 := lN r124_1.lt
    have ltr124_2 := lN r124_2.lt
    have ltr124_3 := lN r124_3.lt
    refine oo (S' := T124.setTop (mkF m 163 lv24 [(.ref x_124), (.int 0), (.ref b21)])) st124 ?_
    have f126 := (V21.keep Kq124 nin0)
    obtain ⟨cl127, Ar127, q127, S127, N127', H127, G127⟩ := id f126
    have hin128 : ¬ ((0 : Int32) < 0 ∨ cl127.slots.size ≤ ((0 : Int32)).toNatClampNeg) := inb_of S127 ⟨by decide, by decide⟩
    obtain ⟨T128, h128, X128, e128, W128, st128⟩ := stR X124 hx hZ rfl Ar127 (j := (0 : Int32)) hin128 rfl (own_sto Ar127 q127 Ov21 (Ins.self r124_0)) (g := (mkF m 163 lv24 [(.ref x_124), (.int 0), (.ref b21)])) rfl rfl (hb hby at_163)
    have N128 := Fr.snoc X128 N124 (by omega)
    have sz129 := own_wr_le W128
    have K129 := K125.wr W128 (Or.inr (by omega))
    have O129 := O125.wr W128 (by omega)
    have V128 : Arv Z h128 b21 k21 (.object j1) (3 : Int32) [(.ref x_124), .null, .null] .null := Arv.set Ar127 q127 S127 N127' H127 G127 rfl W128 0 rfl (Nat.le_of_ble_eq_true rfl)
    refine oo (S' := T128.setTop (mkF m 164 lv24 [])) st128 ?_
    let lv130 : Array Slot := #[vI p0, vI p1, vI p2, vI p3, vI p4, vI p5, vI c0, vI c1, vI c2, vI s0, vI s1, vR b2, vR b21, vI 1, .unset, .unset, .unset, .unset, .unset, .unset, .unset, .unset]
    refine oo (S' := T128.setTop (mkF m 170 lv130 [])) (fun _ kK => XS.iload X128.here hx rfl (hb hby at_164) rfl (XS.iconst X128.here hx rfl (hb hby at_166) (XS.iadd X128.here hx rfl (hb hby at_167) rfl (XS.istore X128.here hx rfl (hb hby at_168) rfl (l' := lv130) rfl kK)))) ?_
    have f131 := (((V20.ext E21).keep Kq124 nin0).other W128 (on (by omega)))
    have f132 := (r124_0.wr W128)
    have f133 := (r124_1.other W128 (Or.inl (on (by omega))))
    have f134 := (r124_2.other W128 (Or.inl (on (by omega))))
    have f135 := (r124_3.other W128 (on (by omega)))
    exact sfa1 l Z a0 G p0 p1 p2 p3 p4 p5 h0 n0 O0  Bd hml0 hZ (X128.more (by decide) (by decide)) h128 e128 K129 O129 N128 (by omega) c0 c1 c2 s0 s1 b2 k2 b21 k21 x_124 t_124 kb_124 c2 f131 V128 f132 f133 f134 f135 (own_all5 J0 (own_blr J3) J1 (own_blr J4) J2) (J3) (J4) (by rw [own_nb_b hk0.2, own_nb_b hk1.2, own_nb_n hk2.2.1 hk2.2.2] <;> rfl)
   ·rw [hk2.1]
    refine oo (S' := T123.setTop (mkF m 170 lv24 [])) (fun _ kK => XS.ifYes X123.here hx rfl (pc0 := 151) (pc' := 170) rfl (hb hby at_151) rfl ((if0 _ _).trans (feq ((by decide : ¬ ((1 : Int32) = (0 : Int32))))).2) (by decide) (by decide) kK) ?_
    have f136 := (V20.ext E21)
    exact sfa0 l Z a0 G p0 p1 p2 p3 p4 p5 h0 n0 O0  Bd hml0 hZ (X123.more (by decide) (by decide)) h21 eh123 K22 O22 N123 (by omega) c0 c1 c2 s0 s1 b2 k2 b21 k21 f136 V21 (own_all5 J0 (own_blr J3) J1 (own_blr J4) J2) (J3) (J4) (by rw [own_nb_b hk0.2, own_nb_b hk1.2, own_nb_b hk2.2] <;> rfl)

theorem own_eflaw (m : MethodId) (p0 : Int32) (p1 : Int32) (p2 : Int32) (p3 : Int32) (p4 : Int32) (p5 : Int32) : entryFrame m #[(.int p0), (.int p1), (.int p2), (.int p3), (.int p4), (.int p5)] maxLocals = mkF m 0 #[vI p0, vI p1, vI p2, vI p3, vI p4, vI p5, .unset, .unset, .unset, .unset, .unset, .unset, .unset, .unset, .unset, .unset, .unset, .unset, .unset, .unset, .unset, .unset] [] := by first | (simp [entryFrame, mkF, argsToLocals, Value.category, maxLocals]; done) | rfl
set_option maxRecDepth 65536 in
set_option maxHeartbeats 40000000 in
theorem rmlaw (l : Launch) (Z : State) (a0 : Array Value) (G : OwnG Z a0) (ws : List Jvm.Cond) (p0 : Int32) (p1 : Int32) (p2 : Int32) (p3 : Int32) (p4 : Int32) (p5 : Int32) (h0 : Heap) (n0 : Nat) (O0 : Old Z n0 h0)  :
  MetFree l x (head1 (Jvm.Cond.code x code maxLocals ret :: ws) room_1) (fun a U => a = #[(.int p0), (.int p1), (.int p2), (.int p3), (.int p4), (.int p5)] ∧ Z.Warmed39 U.vm ∧ U.heap = h0) (fun _ _ _ _ _ => True) (fun _ U o U' => ∃ v L, o = .returned v ∧ own_Qlaw h0 n0 v U'.heap L ∧ FrameEnd U o U' L room_1.cells room_1.slots) := by
 refine MetFree.of_bodySF (plainFor_of_name pn_11) hisR ?_
 intro p e s m args below meth cD s₁ Bd hml0 hP hK
 obtain ⟨rfl, hZ, hh⟩ := hP
 have hml : cD.maxLocals = 22 := hml0
 obtain ⟨hx, hby, (hown : s.vm.findClass j7 = some m.cls), hlk, X0, e0⟩ := own_st Bd hh
 have K0 : Keep h0 h0 [] := Keep.refl h0 _
 have Z0 := own_old_le O0
 have N0 := Fr.nil n0
 let lv1 : Array Slot := #[vI p0, vI p1, vI p2, vI p3, vI p4, vI p5, .unset, .unset, .unset, .unset, .unset, .unset, .unset, .unset, .unset, .unset, .unset, .unset, .unset, .unset, .unset, .unset]
 refine OwnEnd.start (g' := (mkF m 0 lv1 [])) (own_eflaw m p0 p1 p2 p3 p4 p5) ?_
 let lv2 : Array Slot := #[vI p0, vI p1, vI p2, vI p3, vI p4, vI p5, vI (nar .char (p0 &&& (255 : Int32))), .unset, .unset, .unset, .unset, .unset, .unset, .unset, .unset, .unset, .unset, .unset, .unset, .unset, .unset, .unset]
 let lv3 : Array Slot := #[vI p0, vI p1, vI p2, vI p3, vI p4, vI p5, vI (nar .char (p0 &&& (255 : Int32))), vI (nar .char (p1 &&& (255 : Int32))), .unset, .unset, .unset, .unset, .unset, .unset, .unset, .unset, .unset, .unset, .unset, .unset, .unset, .unset]
 let lv4 : Array Slot := #[vI p0, vI p1, vI p2, vI p3, vI p4, vI p5, vI (nar .char (p0 &&& (255 : Int32))), vI (nar .char (p1 &&& (255 : Int32))), vI (nar .char (p2 &&& (255 : Int32))), .unset, .unset, .unset, .unset, .unset, .unset, .unset, .unset, .unset, .unset, .unset, .unset, .unset]
 refine oo (S' := s₁.setTop (mkF m 27 lv4 [(.int (p3 &&& (1 : Int32)))])) (fun _ kK => XS.iloadN X0.here hx rfl (hb hby at_0) rfl (XS.sipush X0.here hx rfl (hb hby at_1) (XS.iand X0.here hx rfl (hb hby at_4) rfl (XS.i2c X0.here hx rfl (hb hby at_5) rfl (XS.istore X0.here hx rfl (hb hby at_6) rfl (l' := lv2) rfl (XS.iloadN X0.here hx rfl (hb hby at_8) rfl (XS.sipush X0.here hx rfl (hb hby at_9) (XS.iand X0.here hx rfl (hb hby at_12) rfl (XS.i2c X0.here hx rfl (hb hby at_13) rfl (XS.istore X0.here hx rfl (hb hby at_14) rfl (l' := lv3) rfl (XS.iloadN X0.here hx rfl (hb hby at_16) rfl (XS.sipush X0.here hx rfl (hb hby at_17) (XS.iand X0.here hx rfl (hb hby at_20) rfl (XS.i2c X0.here hx rfl (hb hby at_21) rfl (XS.istore X0.here hx rfl (hb hby at_22) rfl (l' := lv4) rfl (XS.iloadN X0.here hx rfl (hb hby at_24) rfl (XS.iconst X0.here hx rfl (hb hby at_25) (XS.iand X0.here hx rfl (hb hby at_26) rfl kK)))))))))))))))))) ?_
 rcases Decidable.em ((p3 &&& (1 : Int32)) = (0 : Int32)) with hc5 | hc5
 ·let lv6 : Array Slot := #[vI p0, vI p1, vI p2, vI p3, vI p4, vI p5, vI (nar .char (p0 &&& (255 : Int32))), vI (nar .char (p1 &&& (255 : Int32))), vI (nar .char (p2 &&& (255 : Int32))), vI 32, .unset, .unset, .unset, .unset, .unset, .unset, .unset, .unset, .unset, .unset, .unset, .unset]
  refine oo (S' := s₁.setTop (mkF m 42 lv6 [(.int (p3 &&& (2 : Int32)))])) (fun _ kK => XS.ifYes X0.here hx rfl (pc0 := 27) (pc' := 35) rfl (hb hby at_27) rfl ((if0 _ _).trans (teq (hc5)).1) (by decide) (by decide) (XS.bipush X0.here hx rfl (hb hby at_35) (XS.istore X0.here hx rfl (hb hby at_37) rfl (l' := lv6) rfl (XS.iloadN X0.here hx rfl (hb hby at_39) rfl (XS.iconst X0.here hx rfl (hb hby at_40) (XS.iand X0.here hx rfl (hb hby at_41) rfl kK)))))) ?_
  rcases Decidable.em ((p3 &&& (2 : Int32)) = (0 : Int32)) with hc7 | hc7
  ·let lv8 : Array Slot := #[vI p0, vI p1, vI p2, vI p3, vI p4, vI p5, vI (nar .char (p0 &&& (255 : Int32))), vI (nar .char (p1 &&& (255 : Int32))), vI (nar .char (p2 &&& (255 : Int32))), vI 32, vI 32, .unset, .unset, .unset, .unset, .unset, .unset, .unset, .unset, .unset, .unset, .unset]
   refine oo (S' := s₁.setTop (mkF m 54 lv8 [])) (fun _ kK => XS.ifYes X0.here hx rfl (pc0 := 42) (pc' := 50) rfl (hb hby at_42) rfl ((if0 _ _).trans (teq (hc7)).1) (by decide) (by decide) (XS.bipush X0.here hx rfl (hb hby at_50) (XS.istore X0.here hx rfl (hb hby at_52) rfl (l' := lv8) rfl kK))) ?_
   exact sfc l Z a0 G p0 p1 p2 p3 p4 p5 h0 n0 O0  Bd hml0 hZ (X0.more (by decide) (by decide)) h0 e0 K0 O0 N0 (by omega) (nar .char (p0 &&& (255 : Int32))) (nar .char (p1 &&& (255 : Int32))) (nar .char (p2 &&& (255 : Int32))) (32 : Int32) (32 : Int32) (own_c255 _) (own_c255 _) (own_c255 _) (Or.inl rfl) (Or.inl rfl)
  ·let lv9 : Array Slot := #[vI p0, vI p1, vI p2, vI p3, vI p4, vI p5, vI (nar .char (p0 &&& (255 : Int32))), vI (nar .char (p1 &&& (255 : Int32))), vI (nar .char (p2 &&& (255 : Int32))), vI 32, vI 9, .unset, .unset, .unset, .unset, .unset, .unset, .unset, .unset, .unset, .unset, .unset]
   refine oo (S' := s₁.setTop (mkF m 54 lv9 [])) (fun _ kK => XS.ifNo X0.here hx rfl (hb hby at_42) rfl ((if0 _ _).trans (feq (hc7)).1) (XS.bipush X0.here hx rfl (hb hby at_45) (XS.goto X0.here hx rfl (pc0 := 47) (pc' := 52) rfl (hb hby at_47) (by decide) (by decide) (XS.istore X0.here hx rfl (hb hby at_52) rfl (l' := lv9) rfl kK)))) ?_
   exact sfc l Z a0 G p0 p1 p2 p3 p4 p5 h0 n0 O0  Bd hml0 hZ (X0.more (by decide) (by decide)) h0 e0 K0 O0 N0 (by omega) (nar .char (p0 &&& (255 : Int32))) (nar .char (p1 &&& (255 : Int32))) (nar .char (p2 &&& (255 : Int32))) (32 : Int32) (9 : Int32) (own_c255 _) (own_c255 _) (own_c255 _) (Or.inl rfl) (Or.inr rfl)
 ·let lv10 : Array Slot := #[vI p0, vI p1, vI p2, vI p3, vI p4, vI p5, vI (nar .char (p0 &&& (255 : Int32))), vI (nar .char (p1 &&& (255 : Int32))), vI (nar .char (p2 &&& (255 : Int32))), vI 9, .unset, .unset, .unset, .unset, .unset, .unset, .unset, .unset, .unset, .unset, .unset, .unset]
  refine oo (S' := s₁.setTop (mkF m 42 lv10 [(.int (p3 &&& (2 : Int32)))])) (fun _ kK => XS.ifNo X0.here hx rfl (hb hby at_27) rfl ((if0 _ _).trans (feq (hc5)).1) (XS.bipush X0.here hx rfl (hb hby at_30) (XS.goto X0.here hx rfl (pc0 := 32) (pc' := 37) rfl (hb hby at_32) (by decide) (by decide) (XS.istore X0.here hx rfl (hb hby at_37) rfl (l' := lv10) rfl (XS.iloadN X0.here hx rfl (hb hby at_39) rfl (XS.iconst X0.here hx rfl (hb hby at_40) (XS.iand X0.here hx rfl (hb hby at_41) rfl kK))))))) ?_
  rcases Decidable.em ((p3 &&& (2 : Int32)) = (0 : Int32)) with hc11 | hc11
  ·let lv12 : Array Slot := #[vI p0, vI p1, vI p2, vI p3, vI p4, vI p5, vI (nar .char (p0 &&& (255 : Int32))), vI (nar .char (p1 &&& (255 : Int32))), vI (nar .char (p2 &&& (255 : Int32))), vI 9, vI 32, .unset, .unset, .unset, .unset, .unset, .unset, .unset, .unset, .unset, .unset, .unset]
   refine oo (S' := s₁.setTop (mkF m 54 lv12 [])) (fun _ kK => XS.ifYes X0.here hx rfl (pc0 := 42) (pc' := 50) rfl (hb hby at_42) rfl ((if0 _ _).trans (teq (hc11)).1) (by decide) (by decide) (XS.bipush X0.here hx rfl (hb hby at_50) (XS.istore X0.here hx rfl (hb hby at_52) rfl (l' := lv12) rfl kK))) ?_
   exact sfc l Z a0 G p0 p1 p2 p3 p4 p5 h0 n0 O0  Bd hml0 hZ (X0.more (by decide) (by decide)) h0 e0 K0 O0 N0 (by omega) (nar .char (p0 &&& (255 : Int32))) (nar .char (p1 &&& (255 : Int32))) (nar .char (p2 &&& (255 : Int32))) (9 : Int32) (32 : Int32) (own_c255 _) (own_c255 _) (own_c255 _) (Or.inr rfl) (Or.inl rfl)
  ·let lv13 : Array Slot := #[vI p0, vI p1, vI p2, vI p3, vI p4, vI p5, vI (nar .char (p0 &&& (255 : Int32))), vI (nar .char (p1 &&& (255 : Int32))), vI (nar .char (p2 &&& (255 : Int32))), vI 9, vI 9, .unset, .unset, .unset, .unset, .unset, .unset, .unset, .unset, .unset, .unset, .unset]
   refine oo (S' := s₁.setTop (mkF m 54 lv13 [])) (fun _ kK => XS.ifNo X0.here hx rfl (hb hby at_42) rfl ((if0 _ _).trans (feq (hc11)).1) (XS.bipush X0.here hx rfl (hb hby at_45) (XS.goto X0.here hx rfl (pc0 := 47) (pc' := 52) rfl (hb hby at_47) (by decide) (by decide) (XS.istore X0.here hx rfl (hb hby at_52) rfl (l' := lv13) rfl kK)))) ?_
   exact sfc l Z a0 G p0 p1 p2 p3 p4 p5 h0 n0 O0  Bd hml0 hZ (X0.more (by decide) (by decide)) h0 e0 K0 O0 N0 (by omega) (nar .char (p0 &&& (255 : Int32))) (nar .char (p1 &&& (255 : Int32))) (nar .char (p2 &&& (255 : Int32))) (9 : Int32) (9 : Int32) (own_c255 _) (own_c255 _) (own_c255 _) (Or.inr rfl) (Or.inr rfl)
set_option maxRecDepth 65536 in
set_option maxHeartbeats 40000000 in
theorem comes_1 {Post : Tables → Env → Array Value → State → Outcome → State → Prop} (hpost : ∀ tb e args s v u, (limb_1_1.after args s (.returned v) u = true ∧ limb_1_2.after args s (.returned v) u = true ∧ True) → FrameEnd s (.returned v) u (Jvm.fieldLocs frame_1_writes args s ++ Jvm.arrayLocs frame_1_arrays args s ++ Jvm.staticLocs frame_1_statics s) 56 256 → Post tb e args s (.returned v) u) :
    ArmFor flags0 classFile x code maxLocals ret World_1 tables_1 room_1 Calls_1 rest_1 Pre_1 Post := by
  intro l hfl _ _ p e ha hc hk s m args below hf hA hF happ hP
  obtain ⟨hcalls, hrest, hpre⟩ := hP
  obtain ⟨-, -, -, hnamed, -, -, -, hat⟩ := (Spec.applies_iff hf).mp happ
  obtain ⟨hg, hn⟩ := and_e (Cond.before_iff.mp (show (Jvm.Cond.and given_1 narrow_1).before args s = true from hpre))
  obtain ⟨h1, h2⟩ := and_e hg
  obtain ⟨g0, t0⟩ := and_e h2
  obtain ⟨g1, t1⟩ := and_e t0
  obtain ⟨g2, t2⟩ := and_e t1
  obtain ⟨g3, t3⟩ := and_e t2
  obtain ⟨g4, t4⟩ := and_e t3
  obtain ⟨w0, w1, w2, w3, w4, w5, rfl⟩ : ∃ w0 w1 w2 w3 w4 w5 : Value, args = #[w0, w1, w2, w3, w4, w5] := by
    have hs : args.size = 6 := by simpa [Cond.value, given_1] using h1
    obtain ⟨L⟩ := args
    match L, hs with
    | [w0, w1, w2, w3, w4, w5], _ => exact ⟨w0, w1, w2, w3, w4, w5, rfl⟩
  have hw := fun d (hd : d ∈ tables_1) => atoms_spec (ws := Jvm.Cond.code x code maxLocals ret :: tables_1) hat d (List.mem_cons_of_mem _ hd)
  obtain ⟨hsets, hown0⟩ := atoms_of _ (rest_1_c_eq ▸ (show rest_1_c.before _ s = true from hrest))
  obtain ⟨i0, ei0⟩ := is_v g0
  obtain rfl : w0 = (.int i0) := Option.some.inj ei0
  obtain ⟨i1, ei1⟩ := is_v g1
  obtain rfl : w1 = (.int i1) := Option.some.inj ei1
  obtain ⟨i2, ei2⟩ := is_v g2
  obtain rfl : w2 = (.int i2) := Option.some.inj ei2
  obtain ⟨i3, ei3⟩ := is_v g3
  obtain rfl : w3 = (.int i3) := Option.some.inj ei3
  obtain ⟨i4, ei4⟩ := is_v g4
  obtain rfl : w4 = (.int i4) := Option.some.inj ei4
  obtain ⟨i5, ei5⟩ := is_v t4
  obtain rfl : w5 = (.int i5) := Option.some.inj ei5
  have G : OwnG s #[(.int i0), (.int i1), (.int i2), (.int i3), (.int i4), (.int i5)] := ⟨hw, hsets⟩
  obtain ⟨n, o, h1, h2, h3, _, L, rfl, ⟨rfl, N, -⟩, hq⟩ := rmlaw l s _ G tables_1 i0 i1 i2 i3 i4 i5 s.heap s.heap.size (Old.start s) p e ha hc hk s m _ below hf ((Spec.applies_iff_loose hf).mp happ).1 ⟨rfl, State.Warmed39.refl s, rfl⟩ trivial
  refine ⟨n, _, h1, h2, h3, hpost _ _ _ _ _ _ ⟨Cond.after_iff.mpr rfl, Cond.after_iff.mpr (eq_i res_at (Term.int_eval (1)) rfl), trivial⟩ ⟨hq.1, hq.2.1, (hq.2.2.sift fun y hy => Or.inr (N y hy)).mono (by decide) (by decide)⟩⟩
theorem main_1_1 : Claimed_1_1 := comes_1 fun _ _ _ _ _ _ h hF => ⟨h.1, hF⟩
theorem main_1_2 : Claimed_1_2 := comes_1 fun _ _ _ _ _ _ h hF => ⟨h.2.1, hF⟩
end Jvm.Pilot.@@N@@
namespace Jvm.Pilot.@@N@@
open Jvm Jvm.ClassFile Sem Op Lib Jvm.Free Jvm.Stand Jvm.Pilot.@@N@@.Jvm.D
/-! MADE BY PROGRAM (witnessworld.py) out of the Statement's table words and the real class files: 37 classes; the members and pool entries that the words name. The judged class is class 1, her method 2. -/
namespace start1
open Jvm.ClassFile
def u (s : String) : CpInfo := .utf8 (stringToUtf16 s)
/-- a pool by its gaps: so many unusable entries, then the entry; so many at the end -/
def gap : Nat → List CpInfo → List CpInfo
  | 0, r => r
  | n + 1, r => .unusable :: gap n r
def poolList (es : List (Nat × CpInfo)) (last : Nat) : List CpInfo := es.foldr (fun e r => gap e.1 (e.2 :: r)) (gap last [])
def pool (es : List (Nat × CpInfo)) (last : Nat) : Array CpInfo := ⟨poolList es last⟩
def fileOf (pool : Array CpInfo) (this : Nat) (attrs : Array Attribute := #[]) (ms : Array MethodInfo := #[]) (fl : Nat := 33) (sup : Nat := 0) (ifs : Array Nat := #[]) (fds : Array FieldInfo := #[]) : ClassFile where
  minorVersion := 0
  majorVersion := 65
  constantPool := pool
  accessFlags := fl
  thisClass := this
  superClass := sup
  interfaces := ifs
  fields := fds
  methods := ms
  attributes := attrs
def plain (name : String) (sup : Option ClassId) : Class where
  name := name
  kind := .ordinary
  loader := none
  accessFlags := 33
  super := sup
  interfaces := #[]
  cf := none
  fields := #[]
  methods := #[]
  instanceTypes := #[]
  staticTypes := #[]
  resolved := #[]
  callSites := []
  init := .initialized
  statics := none
  mirror := none

def pool0 : Array CpInfo := pool [(5, u "<init>"), (0, u "()V"), (1, .class_ 10), (1, u "java/lang/Object")] 113

def k0c0 : Code := { maxStack := 0, maxLocals := 1, code := object_method_1_code, exceptionTable := #[], attributes := #[] }
def k0m0 : Method := { name := "<init>", desc := "()V", sig := { parameters := [], returnType := none }, accessFlags := 1, code := some k0c0 }
/-- java/lang/Object -/
def k0 : Class := { plain "java/lang/Object" none with
  accessFlags := 33
  interfaces := #[]
  cf := some (fileOf pool0 8 #[] #[{ accessFlags := 1, nameIndex := 5, descriptorIndex := 6, attributes := #[] }] 33 0 #[] #[])
  fields := #[]
  methods := #[k0m0]
  instanceTypes := #[]
  staticTypes := #[]
  resolved := Array.replicate 124 none
  statics := none }

def pool1 : Array CpInfo := pool [(2, .class_ 4), (1, u "java/lang/Object"), (0, u "<init>"), (0, u "()V"), (0, .class_ 8), (0, u "java/lang/String"), (0, .methodref 10 11), (0, .class_ 12), (0, .nameAndType 13 14), (0, u "com/example/typicalc/typicalc/TokensPeekPinLaw"), (0, u "blank"), (0, u "(C)Z"), (0, .methodref 7 16), (0, .nameAndType 17 18), (0, u "valueOf"), (0, u "(C)Ljava/lang/String;"), (0, .class_ 20), (0, u "com/example/typicalc/typicalc/Tokens"), (0, .methodref 7 22), (0, .nameAndType 5 23), (0, u "([C)V"), (0, .methodref 19 25), (0, .nameAndType 5 26), (0, u "(Ljava/lang/String;)V"), (0, .methodref 19 28), (0, .nameAndType 29 30), (0, u "atEnd"), (0, u "()Z"), (0, .methodref 19 32), (0, .nameAndType 33 34), (0, u "next"), (0, u "()Ljava/lang/String;"), (0, .methodref 36 37), (0, .class_ 38), (0, .nameAndType 39 40), (0, u "java/lang/Math"), (0, u "min"), (0, u "(II)I"), (0, .methodref 19 42), (0, .nameAndType 43 44), (0, u "peek"), (0, u "(I)Ljava/lang/String;"), (0, .methodref 7 46), (0, .nameAndType 47 48), (0, u "equals"), (0, u "(Ljava/lang/Object;)Z"), (0, .methodref 19 50), (0, .nameAndType 51 52), (0, u "position"), (0, u "()I"), (3, u "law"), (0, u "(IIIIII)Z")] 6

def k1m0 : Method := { name := "<init>", desc := "()V", sig := { parameters := [], returnType := none }, accessFlags := 2, code := none }
def k1c1 : Code := { maxStack := 2, maxLocals := 1, code := method_2_code, exceptionTable := #[], attributes := #[] }
def k1m1 : Method := { name := "blank", desc := "(C)Z", sig := { parameters := [.char], returnType := some .boolean }, accessFlags := 10, code := some k1c1 }
def k1c2 : Code := { maxStack := 5, maxLocals := 22, code := code, exceptionTable := #[], attributes := #[] }
def k1m2 : Method := { name := "law", desc := "(IIIIII)Z", sig := { parameters := [.int, .int, .int, .int, .int, .int], returnType := some .boolean }, accessFlags := 9, code := some k1c2 }
/-- com/example/typicalc/typicalc/TokensPeekPinLaw -/
def k1 : Class := { plain "com/example/typicalc/typicalc/TokensPeekPinLaw" (some 0) with
  accessFlags := 49
  interfaces := #[]
  cf := some (fileOf pool1 10 #[] #[{ accessFlags := 2, nameIndex := 5, descriptorIndex := 6, attributes := #[] }, { accessFlags := 10, nameIndex := 13, descriptorIndex := 14, attributes := #[] }, { accessFlags := 9, nameIndex := 56, descriptorIndex := 57, attributes := #[] }] 49 2 #[] #[])
  fields := #[]
  methods := #[k1m0, k1m1, k1m2]
  instanceTypes := #[]
  staticTypes := #[]
  resolved := Array.replicate 64 none
  statics := none }

def pool2 : Array CpInfo := pool [(1, .class_ 2), (0, u "java/io/Serializable"), (0, .class_ 4), (0, u "java/lang/Object")] 2

/-- java/io/Serializable -/
def k2 : Class := { plain "java/io/Serializable" (some 0) with
  accessFlags := 1537
  interfaces := #[]
  cf := some (fileOf pool2 1 #[] #[] 1537 3 #[] #[])
  fields := #[]
  methods := #[]
  instanceTypes := #[]
  staticTypes := #[]
  resolved := Array.replicate 7 none
  statics := none }

def pool3 : Array CpInfo := pool [(1, .class_ 2), (0, u "java/lang/Comparable"), (0, .class_ 4), (0, u "java/lang/Object")] 7

/-- java/lang/Comparable -/
def k3 : Class := { plain "java/lang/Comparable" (some 0) with
  accessFlags := 1537
  interfaces := #[]
  cf := some (fileOf pool3 1 #[] #[] 1537 3 #[] #[])
  fields := #[]
  methods := #[]
  instanceTypes := #[]
  staticTypes := #[]
  resolved := Array.replicate 12 none
  statics := none }

def pool4 : Array CpInfo := pool [(2, .class_ 4), (1, u "java/lang/CharSequence"), (42, .class_ 48), (0, u "java/lang/CharSequence$1CodePointIterator"), (10, .class_ 60), (0, u "java/lang/CharSequence$1CharIterator"), (5, .class_ 67), (0, u "java/lang/Object")] 63

/-- java/lang/CharSequence -/
def k4 : Class := { plain "java/lang/CharSequence" (some 0) with
  accessFlags := 1537
  interfaces := #[]
  cf := some (fileOf pool4 2 #[.nestMembers #[47, 59]] #[] 1537 66 #[] #[])
  fields := #[]
  methods := #[]
  instanceTypes := #[]
  staticTypes := #[]
  resolved := Array.replicate 131 none
  statics := none }

def pool5 : Array CpInfo := pool [(1, .class_ 2), (0, u "java/lang/constant/Constable"), (0, .class_ 4), (0, u "java/lang/Object")] 6

/-- java/lang/constant/Constable -/
def k5 : Class := { plain "java/lang/constant/Constable" (some 0) with
  accessFlags := 1537
  interfaces := #[]
  cf := some (fileOf pool5 1 #[] #[] 1537 3 #[] #[])
  fields := #[]
  methods := #[]
  instanceTypes := #[]
  staticTypes := #[]
  resolved := Array.replicate 11 none
  statics := none }

def pool6 : Array CpInfo := pool [(1, .class_ 2), (0, u "java/lang/constant/ConstantDesc"), (0, .class_ 4), (0, u "java/lang/Object")] 32

/-- java/lang/constant/ConstantDesc -/
def k6 : Class := { plain "java/lang/constant/ConstantDesc" (some 0) with
  accessFlags := 1537
  interfaces := #[]
  cf := some (fileOf pool6 1 #[] #[] 1537 3 #[] #[])
  fields := #[]
  methods := #[]
  instanceTypes := #[]
  staticTypes := #[]
  resolved := Array.replicate 37 none
  statics := none }

def pool7 : Array CpInfo := pool [(1, .methodref 2 3), (0, .class_ 4), (0, .nameAndType 5 6), (0, u "java/lang/Object"), (0, u "<init>"), (0, u "()V"), (2, .fieldref 10 11), (0, .class_ 12), (0, .nameAndType 13 14), (0, u "java/lang/String"), (0, u "value"), (0, u "[B"), (0, .fieldref 10 16), (0, .nameAndType 17 18), (0, u "coder"), (0, u "B"), (2, u "hash"), (0, u "I"), (2, u "hashIsZero"), (0, u "Z"), (0, .methodref 10 28), (0, .nameAndType 5 29), (0, u "([CIILjava/lang/Void;)V"), (8, .fieldref 10 39), (0, .nameAndType 40 26), (0, u "COMPACT_STRINGS"), (1, .class_ 44), (1, u "java/lang/StringUTF16"), (0, u "compress"), (1, .methodref 42 48), (0, .nameAndType 49 50), (0, u "coderFromArrayLen"), (0, u "([BI)B"), (2, u "toBytes"), (0, .methodref 55 56), (0, .class_ 57), (0, .nameAndType 58 59), (0, u "java/util/Arrays"), (0, u "copyOfRange"), (0, u "([BII)[B"), (47, .class_ 109), (1, u "java/lang/StringLatin1"), (32, u "()Z"), (34, .methodref 42 178), (0, .nameAndType 45 179), (0, u "([CII)[B"), (29, .methodref 10 210), (0, .nameAndType 5 211), (0, u "([BB)V"), (122, u "()I"), (0, .methodref 10 336), (0, .nameAndType 17 337), (0, u "()B"), (2, u "()[B"), (22, u "([BI)C"), (5, u "(C)Z"), (21, u "(II)V"), (35, u "(I)C"), (61, .methodref 10 490), (0, .nameAndType 5 491), (0, u "(Ljava/lang/AbstractStringBuilder;Ljava/lang/Void;)V"), (0, .methodref 10 493), (0, .nameAndType 494 142), (0, u "isLatin1"), (0, .methodref 107 496), (0, .nameAndType 497 363), (0, u "charAt"), (3, u "checkIndex"), (4, .nameAndType 507 334), (0, u "length"), (33, .methodref 107 542), (0, .nameAndType 543 544), (0, u "equals"), (0, u "([B[B)Z"), (4, .methodref 550 506), (0, .class_ 551), (0, u "java/lang/AbstractStringBuilder"), (0, .methodref 550 553), (0, .nameAndType 554 340), (0, u "getValue"), (18, u "(Ljava/lang/Object;)Z"), (1, .class_ 576), (0, u "java/lang/CharSequence"), (22, u "CASE_INSENSITIVE_ORDER"), (0, u "Ljava/util/Comparator;"), (181, u "valueOf"), (0, u "(C)Ljava/lang/String;"), (226, u "([C)V"), (4, .methodref 107 1016), (0, .nameAndType 1017 369), (0, u "canEncode"), (0, .methodref 107 1019), (0, .nameAndType 53 1020), (0, u "(C)[B"), (26, .methodref 550 493), (5, .fieldref 1054 1055), (0, .class_ 1056), (0, .nameAndType 1057 1058), (0, u "jdk/internal/util/Preconditions"), (0, u "SIOOBE_FORMATTER"), (0, u "Ljava/util/function/BiFunction;"), (0, .methodref 1054 1060), (0, .nameAndType 501 1061), (0, u "(IILjava/util/function/BiFunction;)I"), (39, u "serialPersistentFields"), (0, u "[Ljava/io/ObjectStreamField;"), (0, .class_ 1104), (0, u "java/lang/String$CaseInsensitiveComparator"), (1, .class_ 1107), (0, u "java/io/Serializable"), (0, .class_ 1109), (0, u "java/lang/Comparable"), (0, .class_ 1111), (0, u "java/lang/constant/Constable"), (0, .class_ 1113), (0, u "java/lang/constant/ConstantDesc"), (2, u "serialVersionUID"), (0, u "J"), (3, u "REPL"), (0, u "C"), (2, u "LATIN1"), (1, u "UTF16"), (105, u "(Ljava/lang/StringBuilder;)V")] 217

def k7m0 : Method := { name := "<init>", desc := "()V", sig := { parameters := [], returnType := none }, accessFlags := 1, code := none }
def k7c1 : Code := { maxStack := 5, maxLocals := 2, code := jdk_42_method_3_code, exceptionTable := #[], attributes := #[] }
def k7m1 : Method := { name := "<init>", desc := "([C)V", sig := { parameters := [(.array .char)], returnType := none }, accessFlags := 1, code := some k7c1 }
def k7c2 : Code := { maxStack := 3, maxLocals := 2, code := jdk_42_method_53_code, exceptionTable := #[], attributes := #[] }
def k7m2 : Method := { name := "<init>", desc := "(Ljava/lang/StringBuilder;)V", sig := { parameters := [(.object "java/lang/StringBuilder")], returnType := none }, accessFlags := 1, code := some k7c2 }
def k7c3 : Code := { maxStack := 2, maxLocals := 1, code := jdk_42_method_54_code, exceptionTable := #[], attributes := #[] }
def k7m3 : Method := { name := "length", desc := "()I", sig := { parameters := [], returnType := some .int }, accessFlags := 1, code := some k7c3 }
def k7c4 : Code := { maxStack := 2, maxLocals := 2, code := jdk_42_method_56_code, exceptionTable := #[], attributes := #[] }
def k7m4 : Method := { name := "charAt", desc := "(I)C", sig := { parameters := [.int], returnType := some .char }, accessFlags := 1, code := some k7c4 }
def k7c5 : Code := { maxStack := 2, maxLocals := 3, code := jdk_42_method_66_code, exceptionTable := #[], attributes := #[] }
def k7m5 : Method := { name := "equals", desc := "(Ljava/lang/Object;)Z", sig := { parameters := [(.object "java/lang/Object")], returnType := some .boolean }, accessFlags := 1, code := some k7c5 }
def k7c6 : Code := { maxStack := 4, maxLocals := 1, code := jdk_42_method_139_code, exceptionTable := #[], attributes := #[] }
def k7m6 : Method := { name := "valueOf", desc := "(C)Ljava/lang/String;", sig := { parameters := [.char], returnType := some (.object "java/lang/String") }, accessFlags := 9, code := some k7c6 }
def k7c7 : Code := { maxStack := 4, maxLocals := 6, code := jdk_42_method_149_code, exceptionTable := #[], attributes := #[] }
def k7m7 : Method := { name := "<init>", desc := "([CIILjava/lang/Void;)V", sig := { parameters := [(.array .char), .int, .int, (.object "java/lang/Void")], returnType := none }, accessFlags := 2, code := some k7c7 }
def k7c8 : Code := { maxStack := 5, maxLocals := 5, code := jdk_42_method_150_code, exceptionTable := #[], attributes := #[] }
def k7m8 : Method := { name := "<init>", desc := "(Ljava/lang/AbstractStringBuilder;Ljava/lang/Void;)V", sig := { parameters := [(.object "java/lang/AbstractStringBuilder"), (.object "java/lang/Void")], returnType := none }, accessFlags := 0, code := some k7c8 }
def k7c9 : Code := { maxStack := 2, maxLocals := 3, code := jdk_42_method_151_code, exceptionTable := #[], attributes := #[] }
def k7m9 : Method := { name := "<init>", desc := "([BB)V", sig := { parameters := [(.array .byte), .byte], returnType := none }, accessFlags := 0, code := some k7c9 }
def k7c10 : Code := { maxStack := 1, maxLocals := 1, code := jdk_42_method_152_code, exceptionTable := #[], attributes := #[] }
def k7m10 : Method := { name := "coder", desc := "()B", sig := { parameters := [], returnType := some .byte }, accessFlags := 0, code := some k7c10 }
def k7c11 : Code := { maxStack := 1, maxLocals := 1, code := jdk_42_method_154_code, exceptionTable := #[], attributes := #[] }
def k7m11 : Method := { name := "isLatin1", desc := "()Z", sig := { parameters := [], returnType := some .boolean }, accessFlags := 0, code := some k7c11 }
def k7c12 : Code := { maxStack := 3, maxLocals := 2, code := jdk_42_method_155_code, exceptionTable := #[], attributes := #[] }
def k7m12 : Method := { name := "checkIndex", desc := "(II)V", sig := { parameters := [.int, .int], returnType := none }, accessFlags := 8, code := some k7c12 }
/-- java/lang/String -/
def k7 : Class := { plain "java/lang/String" (some 0) with
  accessFlags := 49
  interfaces := #[2, 3, 4, 5, 6]
  cf := some (fileOf pool7 10 #[.nestMembers #[1103]] #[{ accessFlags := 1, nameIndex := 5, descriptorIndex := 6, attributes := #[] }, { accessFlags := 1, nameIndex := 5, descriptorIndex := 1010, attributes := #[] }, { accessFlags := 1, nameIndex := 5, descriptorIndex := 1233, attributes := #[] }, { accessFlags := 1, nameIndex := 507, descriptorIndex := 334, attributes := #[] }, { accessFlags := 1, nameIndex := 497, descriptorIndex := 427, attributes := #[] }, { accessFlags := 1, nameIndex := 543, descriptorIndex := 573, attributes := #[] }, { accessFlags := 9, nameIndex := 782, descriptorIndex := 783, attributes := #[] }, { accessFlags := 2, nameIndex := 5, descriptorIndex := 29, attributes := #[] }, { accessFlags := 0, nameIndex := 5, descriptorIndex := 491, attributes := #[] }, { accessFlags := 0, nameIndex := 5, descriptorIndex := 211, attributes := #[] }, { accessFlags := 0, nameIndex := 17, descriptorIndex := 337, attributes := #[] }, { accessFlags := 0, nameIndex := 494, descriptorIndex := 142, attributes := #[] }, { accessFlags := 8, nameIndex := 501, descriptorIndex := 391, attributes := #[] }] 49 2 #[1106, 1108, 575, 1110, 1112] #[{ accessFlags := 18, nameIndex := 13, descriptorIndex := 14, attributes := #[] }, { accessFlags := 18, nameIndex := 17, descriptorIndex := 18, attributes := #[] }, { accessFlags := 2, nameIndex := 21, descriptorIndex := 22, attributes := #[] }, { accessFlags := 2, nameIndex := 25, descriptorIndex := 26, attributes := #[] }, { accessFlags := 26, nameIndex := 1116, descriptorIndex := 1117, attributes := #[] }, { accessFlags := 24, nameIndex := 40, descriptorIndex := 26, attributes := #[] }, { accessFlags := 26, nameIndex := 1101, descriptorIndex := 1102, attributes := #[] }, { accessFlags := 26, nameIndex := 1121, descriptorIndex := 1122, attributes := #[] }, { accessFlags := 25, nameIndex := 599, descriptorIndex := 600, attributes := #[] }, { accessFlags := 24, nameIndex := 1125, descriptorIndex := 18, attributes := #[] }, { accessFlags := 24, nameIndex := 1127, descriptorIndex := 18, attributes := #[] }])
  fields := #[{ name := "value", type := (.array .byte), accessFlags := 18, slot := 0, constantValue := 0 }, { name := "coder", type := .byte, accessFlags := 18, slot := 1, constantValue := 0 }, { name := "hash", type := .int, accessFlags := 2, slot := 2, constantValue := 0 }, { name := "hashIsZero", type := .boolean, accessFlags := 2, slot := 3, constantValue := 0 }, { name := "serialVersionUID", type := .long, accessFlags := 26, slot := 0, constantValue := 0 }, { name := "COMPACT_STRINGS", type := .boolean, accessFlags := 24, slot := 1, constantValue := 0 }, { name := "serialPersistentFields", type := (.array (.object "java/io/ObjectStreamField")), accessFlags := 26, slot := 2, constantValue := 0 }, { name := "REPL", type := .char, accessFlags := 26, slot := 3, constantValue := 0 }, { name := "CASE_INSENSITIVE_ORDER", type := (.object "java/util/Comparator"), accessFlags := 25, slot := 4, constantValue := 0 }, { name := "LATIN1", type := .byte, accessFlags := 24, slot := 5, constantValue := 0 }, { name := "UTF16", type := .byte, accessFlags := 24, slot := 6, constantValue := 0 }]
  methods := #[k7m0, k7m1, k7m2, k7m3, k7m4, k7m5, k7m6, k7m7, k7m8, k7m9, k7m10, k7m11, k7m12]
  instanceTypes := #[(.array .byte), .byte, .int, .boolean]
  staticTypes := #[.long, .boolean, (.array (.object "java/io/ObjectStreamField")), .char, (.object "java/util/Comparator"), .byte, .byte]
  resolved := Array.replicate 1451 none
  statics := some 0 }

def pool8 : Array CpInfo := pool [(1, .class_ 2), (0, u "java/lang/String"), (1, .class_ 6), (1, u "java/lang/Object"), (0, u "<init>"), (0, u "()V"), (0, .methodref 1 10), (0, .nameAndType 11 12), (0, u "checkIndex"), (0, u "(II)V"), (1, .class_ 16), (1, u "java/lang/StringLatin1"), (36, u "([BI)C"), (36, u "canEncode"), (14, u "(C)Z"), (15, u "$assertionsDisabled"), (0, u "Z"), (98, .class_ 223), (1, u "java/lang/StringLatin1$LinesSpliterator"), (28, u "charAt"), (28, u "equals"), (0, u "([B[B)Z"), (97, u "toBytes"), (1, u "(C)[B"), (7, .class_ 391), (0, u "java/lang/StringLatin1$CharsSpliterator")] 3

def k8m0 : Method := { name := "<init>", desc := "()V", sig := { parameters := [], returnType := none }, accessFlags := 0, code := none }
def k8c1 : Code := { maxStack := 2, maxLocals := 2, code := jdk_43_method_2_code, exceptionTable := #[], attributes := #[] }
def k8m1 : Method := { name := "charAt", desc := "([BI)C", sig := { parameters := [(.array .byte), .int], returnType := some .char }, accessFlags := 9, code := some k8c1 }
def k8c2 : Code := { maxStack := 2, maxLocals := 1, code := jdk_43_method_3_code, exceptionTable := #[], attributes := #[] }
def k8m2 : Method := { name := "canEncode", desc := "(C)Z", sig := { parameters := [.char], returnType := some .boolean }, accessFlags := 9, code := some k8c2 }
def k8c3 : Code := { maxStack := 3, maxLocals := 3, code := jdk_43_method_13_code, exceptionTable := #[], attributes := #[] }
def k8m3 : Method := { name := "equals", desc := "([B[B)Z", sig := { parameters := [(.array .byte), (.array .byte)], returnType := some .boolean }, accessFlags := 9, code := some k8c3 }
def k8c4 : Code := { maxStack := 4, maxLocals := 1, code := jdk_43_method_46_code, exceptionTable := #[], attributes := #[] }
def k8m4 : Method := { name := "toBytes", desc := "(C)[B", sig := { parameters := [.char], returnType := some (.array .byte) }, accessFlags := 9, code := some k8c4 }
/-- java/lang/StringLatin1 -/
def k8 : Class := { plain "java/lang/StringLatin1" (some 0) with
  accessFlags := 48
  interfaces := #[]
  cf := some (fileOf pool8 14 #[.nestMembers #[390, 221]] #[{ accessFlags := 0, nameIndex := 7, descriptorIndex := 8, attributes := #[] }, { accessFlags := 9, nameIndex := 252, descriptorIndex := 53, attributes := #[] }, { accessFlags := 9, nameIndex := 90, descriptorIndex := 105, attributes := #[] }, { accessFlags := 9, nameIndex := 281, descriptorIndex := 282, attributes := #[] }, { accessFlags := 9, nameIndex := 380, descriptorIndex := 382, attributes := #[] }] 48 4 #[] #[{ accessFlags := 4120, nameIndex := 121, descriptorIndex := 122, attributes := #[] }])
  fields := #[{ name := "$assertionsDisabled", type := .boolean, accessFlags := 4120, slot := 0, constantValue := 0 }]
  methods := #[k8m0, k8m1, k8m2, k8m3, k8m4]
  instanceTypes := #[]
  staticTypes := #[.boolean]
  resolved := Array.replicate 395 none
  statics := none }

def pool9 : Array CpInfo := pool [(1, .methodref 2 3), (0, .class_ 4), (0, .nameAndType 5 6), (0, u "java/lang/Object"), (0, u "<init>"), (0, u "()V"), (0, .class_ 8), (0, u "java/util/ArrayList"), (0, .methodref 7 3), (0, .fieldref 11 12), (0, .class_ 13), (0, .nameAndType 14 15), (0, u "com/example/typicalc/typicalc/Tokens"), (0, u "tokens"), (0, u "Ljava/util/List;"), (0, .class_ 17), (0, u "java/lang/StringBuilder"), (0, .methodref 16 3), (0, .methodref 20 21), (0, .class_ 22), (0, .nameAndType 23 24), (0, u "java/lang/String"), (0, u "length"), (0, u "()I"), (0, .methodref 20 26), (0, .nameAndType 27 28), (0, u "charAt"), (0, u "(I)C"), (0, .methodref 11 30), (0, .nameAndType 31 32), (0, u "add"), (0, u "(Ljava/lang/StringBuilder;)V"), (0, .methodref 20 34), (0, .nameAndType 35 36), (0, u "valueOf"), (0, u "(C)Ljava/lang/String;"), (0, .interfaceMethodref 38 39), (0, .class_ 40), (0, .nameAndType 31 41), (0, u "java/util/List"), (0, u "(Ljava/lang/Object;)Z"), (0, .methodref 16 43), (0, .nameAndType 44 45), (0, u "append"), (0, u "(C)Ljava/lang/StringBuilder;"), (0, .methodref 16 21), (0, .methodref 16 48), (0, .nameAndType 49 50), (0, u "toString"), (0, u "()Ljava/lang/String;"), (0, .methodref 16 52), (0, .nameAndType 53 54), (0, u "setLength"), (0, u "(I)V"), (0, .fieldref 11 56), (0, .nameAndType 57 58), (0, u "next"), (0, u "I"), (0, .interfaceMethodref 38 60), (0, .nameAndType 61 24), (0, u "size"), (0, .interfaceMethodref 38 63), (0, .nameAndType 64 65), (0, u "get"), (0, u "(I)Ljava/lang/Object;"), (10, .methodref 11 77), (0, .nameAndType 78 79), (0, u "atEnd"), (0, u "()Z"), (6, u "(Ljava/lang/String;)V"), (2, u "peek"), (0, u "(I)Ljava/lang/String;"), (25, u "position")] 24

def k9c0 : Code := { maxStack := 3, maxLocals := 5, code := prog_4_method_1_code, exceptionTable := #[], attributes := #[] }
def k9m0 : Method := { name := "<init>", desc := "(Ljava/lang/String;)V", sig := { parameters := [(.object "java/lang/String")], returnType := none }, accessFlags := 0, code := some k9c0 }
def k9c1 : Code := { maxStack := 2, maxLocals := 2, code := prog_4_method_2_code, exceptionTable := #[], attributes := #[] }
def k9m1 : Method := { name := "add", desc := "(Ljava/lang/StringBuilder;)V", sig := { parameters := [(.object "java/lang/StringBuilder")], returnType := none }, accessFlags := 2, code := some k9c1 }
def k9c2 : Code := { maxStack := 2, maxLocals := 1, code := prog_4_method_3_code, exceptionTable := #[], attributes := #[] }
def k9m2 : Method := { name := "atEnd", desc := "()Z", sig := { parameters := [], returnType := some .boolean }, accessFlags := 0, code := some k9c2 }
def k9c3 : Code := { maxStack := 1, maxLocals := 1, code := prog_4_method_4_code, exceptionTable := #[], attributes := #[] }
def k9m3 : Method := { name := "position", desc := "()I", sig := { parameters := [], returnType := some .int }, accessFlags := 0, code := some k9c3 }
def k9c4 : Code := { maxStack := 2, maxLocals := 3, code := prog_4_method_6_code, exceptionTable := #[], attributes := #[] }
def k9m4 : Method := { name := "peek", desc := "(I)Ljava/lang/String;", sig := { parameters := [.int], returnType := some (.object "java/lang/String") }, accessFlags := 0, code := some k9c4 }
def k9c5 : Code := { maxStack := 5, maxLocals := 1, code := prog_4_method_7_code, exceptionTable := #[], attributes := #[] }
def k9m5 : Method := { name := "next", desc := "()Ljava/lang/String;", sig := { parameters := [], returnType := some (.object "java/lang/String") }, accessFlags := 0, code := some k9c5 }
/-- com/example/typicalc/typicalc/Tokens -/
def k9 : Class := { plain "com/example/typicalc/typicalc/Tokens" (some 0) with
  accessFlags := 48
  interfaces := #[]
  cf := some (fileOf pool9 11 #[] #[{ accessFlags := 0, nameIndex := 5, descriptorIndex := 86, attributes := #[] }, { accessFlags := 2, nameIndex := 31, descriptorIndex := 32, attributes := #[] }, { accessFlags := 0, nameIndex := 78, descriptorIndex := 79, attributes := #[] }, { accessFlags := 0, nameIndex := 116, descriptorIndex := 24, attributes := #[] }, { accessFlags := 0, nameIndex := 89, descriptorIndex := 90, attributes := #[] }, { accessFlags := 0, nameIndex := 57, descriptorIndex := 50, attributes := #[] }] 48 2 #[] #[{ accessFlags := 18, nameIndex := 14, descriptorIndex := 15, attributes := #[] }, { accessFlags := 2, nameIndex := 57, descriptorIndex := 58, attributes := #[] }])
  fields := #[{ name := "tokens", type := (.object "java/util/List"), accessFlags := 18, slot := 0, constantValue := 0 }, { name := "next", type := .int, accessFlags := 2, slot := 1, constantValue := 0 }]
  methods := #[k9m0, k9m1, k9m2, k9m3, k9m4, k9m5]
  instanceTypes := #[(.object "java/util/List"), .int]
  staticTypes := #[]
  resolved := Array.replicate 141 none
  statics := none }

def pool10 : Array CpInfo := pool [(6, .class_ 8), (1, u "java/lang/Object"), (0, u "<init>"), (0, u "()V"), (1, .class_ 14), (1, u "java/lang/StringUTF16"), (31, u "$assertionsDisabled"), (0, u "Z"), (13, u "HI_BYTE_SHIFT"), (0, u "I"), (2, u "LO_BYTE_SHIFT"), (49, .methodref 12 116), (0, .nameAndType 117 118), (0, u "compress"), (0, u "([CI[BII)I"), (3, u "([CII)[B"), (138, u "coderFromArrayLen"), (0, u "([BI)B"), (106, .class_ 371), (1, u "java/lang/StringUTF16$LinesSpliterator"), (58, u "MAX_LENGTH"), (196, .class_ 628), (0, u "java/lang/StringUTF16$CodePointsSpliterator"), (0, .class_ 630), (0, u "java/lang/StringUTF16$CharsSpliterator")] 4

def k10m0 : Method := { name := "<init>", desc := "()V", sig := { parameters := [], returnType := none }, accessFlags := 0, code := none }
def k10c1 : Code := { maxStack := 2, maxLocals := 2, code := jdk_52_method_15_code, exceptionTable := #[], attributes := #[] }
def k10m1 : Method := { name := "coderFromArrayLen", desc := "([BI)B", sig := { parameters := [(.array .byte), .int], returnType := some .byte }, accessFlags := 8, code := some k10c1 }
def k10c2 : Code := { maxStack := 5, maxLocals := 6, code := jdk_52_method_16_code, exceptionTable := #[], attributes := #[] }
def k10m2 : Method := { name := "compress", desc := "([CII)[B", sig := { parameters := [(.array .char), .int, .int], returnType := some (.array .byte) }, accessFlags := 9, code := some k10c2 }
def k10c3 : Code := { maxStack := 3, maxLocals := 7, code := jdk_52_method_21_code, exceptionTable := #[], attributes := #[] }
def k10m3 : Method := { name := "compress", desc := "([CI[BII)I", sig := { parameters := [(.array .char), .int, (.array .byte), .int, .int], returnType := some .int }, accessFlags := 9, code := some k10c3 }
/-- java/lang/StringUTF16 -/
def k10 : Class := { plain "java/lang/StringUTF16" (some 0) with
  accessFlags := 48
  interfaces := #[]
  cf := some (fileOf pool10 12 #[.nestMembers #[627, 629, 369]] #[{ accessFlags := 0, nameIndex := 9, descriptorIndex := 10, attributes := #[] }, { accessFlags := 8, nameIndex := 261, descriptorIndex := 262, attributes := #[] }, { accessFlags := 9, nameIndex := 117, descriptorIndex := 122, attributes := #[] }, { accessFlags := 9, nameIndex := 117, descriptorIndex := 118, attributes := #[] }] 48 6 #[] #[{ accessFlags := 26, nameIndex := 61, descriptorIndex := 62, attributes := #[] }, { accessFlags := 26, nameIndex := 65, descriptorIndex := 62, attributes := #[] }, { accessFlags := 24, nameIndex := 430, descriptorIndex := 62, attributes := #[] }, { accessFlags := 4120, nameIndex := 46, descriptorIndex := 47, attributes := #[] }])
  fields := #[{ name := "HI_BYTE_SHIFT", type := .int, accessFlags := 26, slot := 0, constantValue := 0 }, { name := "LO_BYTE_SHIFT", type := .int, accessFlags := 26, slot := 1, constantValue := 0 }, { name := "MAX_LENGTH", type := .int, accessFlags := 24, slot := 2, constantValue := 0 }, { name := "$assertionsDisabled", type := .boolean, accessFlags := 4120, slot := 3, constantValue := 0 }]
  methods := #[k10m0, k10m1, k10m2, k10m3]
  instanceTypes := #[]
  staticTypes := #[.int, .int, .int, .boolean]
  resolved := Array.replicate 635 none
  statics := none }

def pool11 : Array CpInfo := pool [(8, .class_ 10), (1, u "java/lang/Iterable"), (24, .class_ 36), (0, u "java/lang/Object")] 25

/-- java/lang/Iterable -/
def k11 : Class := { plain "java/lang/Iterable" (some 0) with
  accessFlags := 1537
  interfaces := #[]
  cf := some (fileOf pool11 8 #[] #[] 1537 35 #[] #[])
  fields := #[]
  methods := #[]
  instanceTypes := #[]
  staticTypes := #[]
  resolved := Array.replicate 62 none
  statics := none }

def pool12 : Array CpInfo := pool [(10, .class_ 12), (1, u "java/util/Collection"), (47, .class_ 61), (0, u "java/lang/Object"), (0, .class_ 63), (0, u "java/lang/Iterable")] 51

/-- java/util/Collection -/
def k12 : Class := { plain "java/util/Collection" (some 0) with
  accessFlags := 1537
  interfaces := #[11]
  cf := some (fileOf pool12 10 #[] #[] 1537 60 #[62] #[])
  fields := #[]
  methods := #[]
  instanceTypes := #[]
  staticTypes := #[]
  resolved := Array.replicate 115 none
  statics := none }

def pool13 : Array CpInfo := pool [(1, .methodref 2 3), (0, .class_ 4), (0, .nameAndType 5 6), (0, u "java/lang/Object"), (0, u "<init>"), (0, u "()V"), (1, .class_ 10), (1, u "java/util/AbstractCollection"), (66, .class_ 78), (0, u "java/util/Collection")] 81

def k13c0 : Code := { maxStack := 1, maxLocals := 1, code := jdk_22_method_1_code, exceptionTable := #[], attributes := #[] }
def k13m0 : Method := { name := "<init>", desc := "()V", sig := { parameters := [], returnType := none }, accessFlags := 4, code := some k13c0 }
/-- java/util/AbstractCollection -/
def k13 : Class := { plain "java/util/AbstractCollection" (some 0) with
  accessFlags := 1057
  interfaces := #[12]
  cf := some (fileOf pool13 8 #[] #[{ accessFlags := 4, nameIndex := 5, descriptorIndex := 6, attributes := #[] }] 1057 2 #[77] #[])
  fields := #[]
  methods := #[k13m0]
  instanceTypes := #[]
  staticTypes := #[]
  resolved := Array.replicate 160 none
  statics := none }

def pool14 : Array CpInfo := pool [(8, .class_ 10), (1, u "java/util/SequencedCollection"), (15, .class_ 27), (0, u "java/lang/Object"), (0, .class_ 29), (0, u "java/util/Collection")] 27

/-- java/util/SequencedCollection -/
def k14 : Class := { plain "java/util/SequencedCollection" (some 0) with
  accessFlags := 1537
  interfaces := #[12]
  cf := some (fileOf pool14 8 #[] #[] 1537 26 #[28] #[])
  fields := #[]
  methods := #[]
  instanceTypes := #[]
  staticTypes := #[]
  resolved := Array.replicate 57 none
  statics := none }

def pool15 : Array CpInfo := pool [(8, .class_ 10), (1, u "java/util/List"), (49, u "add"), (3, u "(Ljava/lang/Object;)Z"), (10, u "get"), (0, u "(I)Ljava/lang/Object;"), (2, u "size"), (0, u "()I"), (22, .class_ 104), (0, u "java/lang/Object"), (15, .class_ 121), (0, u "java/util/SequencedCollection")] 129

def k15m0 : Method := { name := "size", desc := "()I", sig := { parameters := [], returnType := some .int }, accessFlags := 1025, code := none }
def k15m1 : Method := { name := "add", desc := "(Ljava/lang/Object;)Z", sig := { parameters := [(.object "java/lang/Object")], returnType := some .boolean }, accessFlags := 1025, code := none }
def k15m2 : Method := { name := "get", desc := "(I)Ljava/lang/Object;", sig := { parameters := [.int], returnType := some (.object "java/lang/Object") }, accessFlags := 1025, code := none }
/-- java/util/List -/
def k15 : Class := { plain "java/util/List" (some 0) with
  accessFlags := 1537
  interfaces := #[14]
  cf := some (fileOf pool15 8 #[] #[{ accessFlags := 1025, nameIndex := 79, descriptorIndex := 80, attributes := #[] }, { accessFlags := 1025, nameIndex := 60, descriptorIndex := 64, attributes := #[] }, { accessFlags := 1025, nameIndex := 75, descriptorIndex := 76, attributes := #[] }] 1537 103 #[120] #[])
  fields := #[]
  methods := #[k15m0, k15m1, k15m2]
  instanceTypes := #[]
  staticTypes := #[]
  resolved := Array.replicate 251 none
  statics := none }

def pool16 : Array CpInfo := pool [(1, .methodref 2 3), (0, .class_ 4), (0, .nameAndType 5 6), (0, u "java/util/AbstractCollection"), (0, u "<init>"), (0, u "()V"), (0, .fieldref 8 9), (0, .class_ 10), (0, .nameAndType 11 12), (0, u "java/util/AbstractList"), (0, u "modCount"), (0, u "I"), (64, .class_ 78), (0, u "java/util/AbstractList$Itr"), (3, .class_ 83), (0, u "java/util/AbstractList$ListItr"), (9, .class_ 94), (0, u "java/util/AbstractList$RandomAccessSubList"), (3, .class_ 99), (0, u "java/util/AbstractList$SubList"), (33, .class_ 134), (0, u "java/util/List"), (73, .class_ 209), (0, u "java/util/AbstractList$SubList$1"), (0, .class_ 211), (0, u "java/util/AbstractList$RandomAccessSpliterator")] 6

def k16c0 : Code := { maxStack := 2, maxLocals := 1, code := jdk_39_method_1_code, exceptionTable := #[], attributes := #[] }
def k16m0 : Method := { name := "<init>", desc := "()V", sig := { parameters := [], returnType := none }, accessFlags := 4, code := some k16c0 }
/-- java/util/AbstractList -/
def k16 : Class := { plain "java/util/AbstractList" (some 13) with
  accessFlags := 1057
  interfaces := #[15]
  cf := some (fileOf pool16 8 #[.nestMembers #[93, 98, 208, 210, 82, 77]] #[{ accessFlags := 4, nameIndex := 5, descriptorIndex := 6, attributes := #[] }] 1057 2 #[133] #[{ accessFlags := 132, nameIndex := 11, descriptorIndex := 12, attributes := #[] }])
  fields := #[{ name := "modCount", type := .int, accessFlags := 132, slot := 0, constantValue := 0 }]
  methods := #[k16m0]
  instanceTypes := #[.int]
  staticTypes := #[]
  resolved := Array.replicate 218 none
  statics := none }

def pool17 : Array CpInfo := pool [(1, .class_ 2), (0, u "java/util/RandomAccess"), (0, .class_ 4), (0, u "java/lang/Object")] 2

/-- java/util/RandomAccess -/
def k17 : Class := { plain "java/util/RandomAccess" (some 0) with
  accessFlags := 1537
  interfaces := #[]
  cf := some (fileOf pool17 1 #[] #[] 1537 3 #[] #[])
  fields := #[]
  methods := #[]
  instanceTypes := #[]
  staticTypes := #[]
  resolved := Array.replicate 7 none
  statics := none }

def pool18 : Array CpInfo := pool [(1, .class_ 2), (0, u "java/lang/Cloneable"), (0, .class_ 4), (0, u "java/lang/Object")] 2

/-- java/lang/Cloneable -/
def k18 : Class := { plain "java/lang/Cloneable" (some 0) with
  accessFlags := 1537
  interfaces := #[]
  cf := some (fileOf pool18 1 #[] #[] 1537 3 #[] #[])
  fields := #[]
  methods := #[]
  instanceTypes := #[]
  staticTypes := #[]
  resolved := Array.replicate 7 none
  statics := none }

def pool19 : Array CpInfo := pool [(1, .methodref 2 3), (0, .class_ 4), (0, .nameAndType 5 6), (0, u "java/util/AbstractList"), (0, u "<init>"), (0, u "()V"), (0, .class_ 8), (0, u "java/lang/Object"), (0, .fieldref 10 11), (0, .class_ 12), (0, .nameAndType 13 14), (0, u "java/util/ArrayList"), (0, u "elementData"), (0, u "[Ljava/lang/Object;"), (2, u "EMPTY_ELEMENTDATA"), (21, .fieldref 10 40), (0, .nameAndType 41 14), (0, u "DEFAULTCAPACITY_EMPTY_ELEMENTDATA"), (5, u "()[Ljava/lang/Object;"), (0, .fieldref 10 49), (0, .nameAndType 50 51), (0, u "size"), (0, u "I"), (11, .fieldref 10 64), (0, .nameAndType 65 51), (0, u "modCount"), (3, .methodref 10 70), (0, .nameAndType 71 72), (0, u "grow"), (0, u "(I)[Ljava/lang/Object;"), (6, .methodref 80 81), (0, .class_ 82), (0, .nameAndType 83 84), (0, u "java/lang/Math"), (0, u "max"), (0, u "(II)I"), (11, u "(Ljava/lang/Object;)Z"), (21, .methodref 119 120), (0, .class_ 121), (0, .nameAndType 122 84), (0, u "java/util/Objects"), (0, u "checkIndex"), (0, .methodref 10 124), (0, .nameAndType 13 125), (0, u "(I)Ljava/lang/Object;"), (3, .methodref 10 130), (0, .nameAndType 71 47), (0, .methodref 10 132), (0, .nameAndType 133 134), (0, u "add"), (0, u "(Ljava/lang/Object;[Ljava/lang/Object;I)V"), (13, .class_ 149), (0, u "java/util/List"), (36, u "()I"), (75, .class_ 263), (0, u "java/util/ArrayList$ListItr"), (3, .class_ 268), (0, u "java/util/ArrayList$Itr"), (7, .class_ 277), (0, u "java/util/ArrayList$SubList"), (12, .class_ 291), (0, u "java/util/ArrayList$ArrayListSpliterator"), (37, .class_ 330), (0, u "java/util/RandomAccess"), (0, .class_ 332), (0, u "java/lang/Cloneable"), (0, .class_ 334), (0, u "java/io/Serializable"), (0, u "serialVersionUID"), (0, u "J"), (3, u "DEFAULT_CAPACITY"), (40, u "get"), (118, .class_ 501), (0, u "java/util/ArrayList$SubList$2"), (0, .class_ 503), (0, u "java/util/ArrayList$SubList$1")] 5

def k19c0 : Code := { maxStack := 2, maxLocals := 1, code := jdk_38_method_2_code, exceptionTable := #[], attributes := #[] }
def k19m0 : Method := { name := "<init>", desc := "()V", sig := { parameters := [], returnType := none }, accessFlags := 1, code := some k19c0 }
def k19c1 : Code := { maxStack := 4, maxLocals := 4, code := jdk_38_method_6_code, exceptionTable := #[], attributes := #[] }
def k19m1 : Method := { name := "grow", desc := "(I)[Ljava/lang/Object;", sig := { parameters := [.int], returnType := some (.array (.object "java/lang/Object")) }, accessFlags := 2, code := some k19c1 }
def k19c2 : Code := { maxStack := 3, maxLocals := 1, code := jdk_38_method_7_code, exceptionTable := #[], attributes := #[] }
def k19m2 : Method := { name := "grow", desc := "()[Ljava/lang/Object;", sig := { parameters := [], returnType := some (.array (.object "java/lang/Object")) }, accessFlags := 2, code := some k19c2 }
def k19c3 : Code := { maxStack := 1, maxLocals := 1, code := jdk_38_method_8_code, exceptionTable := #[], attributes := #[] }
def k19m3 : Method := { name := "size", desc := "()I", sig := { parameters := [], returnType := some .int }, accessFlags := 1, code := some k19c3 }
def k19c4 : Code := { maxStack := 2, maxLocals := 2, code := jdk_38_method_18_code, exceptionTable := #[], attributes := #[] }
def k19m4 : Method := { name := "elementData", desc := "(I)Ljava/lang/Object;", sig := { parameters := [.int], returnType := some (.object "java/lang/Object") }, accessFlags := 0, code := some k19c4 }
def k19c5 : Code := { maxStack := 2, maxLocals := 2, code := jdk_38_method_20_code, exceptionTable := #[], attributes := #[] }
def k19m5 : Method := { name := "get", desc := "(I)Ljava/lang/Object;", sig := { parameters := [.int], returnType := some (.object "java/lang/Object") }, accessFlags := 1, code := some k19c5 }
def k19c6 : Code := { maxStack := 3, maxLocals := 4, code := jdk_38_method_24_code, exceptionTable := #[], attributes := #[] }
def k19m6 : Method := { name := "add", desc := "(Ljava/lang/Object;[Ljava/lang/Object;I)V", sig := { parameters := [(.object "java/lang/Object"), (.array (.object "java/lang/Object")), .int], returnType := none }, accessFlags := 2, code := some k19c6 }
def k19c7 : Code := { maxStack := 4, maxLocals := 2, code := jdk_38_method_25_code, exceptionTable := #[], attributes := #[] }
def k19m7 : Method := { name := "add", desc := "(Ljava/lang/Object;)Z", sig := { parameters := [(.object "java/lang/Object")], returnType := some .boolean }, accessFlags := 1, code := some k19c7 }
/-- java/util/ArrayList -/
def k19 : Class := { plain "java/util/ArrayList" (some 16) with
  accessFlags := 33
  interfaces := #[15, 17, 18, 2]
  cf := some (fileOf pool19 10 #[.nestMembers #[290, 276, 500, 502, 262, 267]] #[{ accessFlags := 1, nameIndex := 5, descriptorIndex := 6, attributes := #[] }, { accessFlags := 2, nameIndex := 71, descriptorIndex := 72, attributes := #[] }, { accessFlags := 2, nameIndex := 71, descriptorIndex := 47, attributes := #[] }, { accessFlags := 1, nameIndex := 50, descriptorIndex := 186, attributes := #[] }, { accessFlags := 0, nameIndex := 13, descriptorIndex := 125, attributes := #[] }, { accessFlags := 1, nameIndex := 381, descriptorIndex := 125, attributes := #[] }, { accessFlags := 2, nameIndex := 133, descriptorIndex := 134, attributes := #[] }, { accessFlags := 1, nameIndex := 133, descriptorIndex := 96, attributes := #[] }] 33 2 #[148, 329, 331, 333] #[{ accessFlags := 26, nameIndex := 335, descriptorIndex := 336, attributes := #[] }, { accessFlags := 26, nameIndex := 340, descriptorIndex := 51, attributes := #[] }, { accessFlags := 26, nameIndex := 17, descriptorIndex := 14, attributes := #[] }, { accessFlags := 26, nameIndex := 41, descriptorIndex := 14, attributes := #[] }, { accessFlags := 128, nameIndex := 13, descriptorIndex := 14, attributes := #[] }, { accessFlags := 2, nameIndex := 50, descriptorIndex := 51, attributes := #[] }])
  fields := #[{ name := "serialVersionUID", type := .long, accessFlags := 26, slot := 0, constantValue := 0 }, { name := "DEFAULT_CAPACITY", type := .int, accessFlags := 26, slot := 1, constantValue := 0 }, { name := "EMPTY_ELEMENTDATA", type := (.array (.object "java/lang/Object")), accessFlags := 26, slot := 2, constantValue := 0 }, { name := "DEFAULTCAPACITY_EMPTY_ELEMENTDATA", type := (.array (.object "java/lang/Object")), accessFlags := 26, slot := 3, constantValue := 0 }, { name := "elementData", type := (.array (.object "java/lang/Object")), accessFlags := 128, slot := 1, constantValue := 0 }, { name := "size", type := .int, accessFlags := 2, slot := 2, constantValue := 0 }]
  methods := #[k19m0, k19m1, k19m2, k19m3, k19m4, k19m5, k19m6, k19m7]
  instanceTypes := #[.int, (.array (.object "java/lang/Object")), .int]
  staticTypes := #[.long, .int, (.array (.object "java/lang/Object")), (.array (.object "java/lang/Object"))]
  resolved := Array.replicate 509 none
  statics := some 1 }

def pool20 : Array CpInfo := pool [(1, .class_ 2), (0, u "java/lang/Appendable"), (0, .class_ 4), (0, u "java/lang/Object")] 9

/-- java/lang/Appendable -/
def k20 : Class := { plain "java/lang/Appendable" (some 0) with
  accessFlags := 1537
  interfaces := #[]
  cf := some (fileOf pool20 1 #[] #[] 1537 3 #[] #[])
  fields := #[]
  methods := #[]
  instanceTypes := #[]
  staticTypes := #[]
  resolved := Array.replicate 14 none
  statics := none }

def pool21 : Array CpInfo := pool [(1, .class_ 2), (0, u "java/lang/String"), (0, .methodref 4 5), (0, .class_ 6), (0, .nameAndType 7 8), (0, u "java/lang/Object"), (0, u "<init>"), (0, u "()V"), (1, .class_ 12), (1, u "java/lang/AbstractStringBuilder"), (0, u "EMPTYVALUE"), (0, u "[B"), (0, .fieldref 10 16), (0, .nameAndType 17 14), (0, u "value"), (0, .fieldref 1 19), (0, .nameAndType 20 21), (0, u "COMPACT_STRINGS"), (0, u "Z"), (0, .fieldref 10 23), (0, .nameAndType 24 25), (0, u "coder"), (0, u "B"), (8, u "length"), (0, u "()I"), (9, u "append"), (2, .class_ 49), (0, u "java/lang/CharSequence"), (23, .fieldref 10 74), (0, .nameAndType 75 21), (0, u "maybeLatin1"), (3, .fieldref 10 80), (0, .nameAndType 81 82), (0, u "count"), (0, u "I"), (0, .methodref 10 84), (0, .nameAndType 85 86), (0, u "isLatin1"), (0, u "()Z"), (1, .class_ 90), (1, u "java/lang/StringLatin1"), (9, .methodref 10 101), (0, .nameAndType 102 103), (0, u "ensureCapacityInternal"), (0, u "(I)V"), (87, .methodref 88 192), (0, .nameAndType 193 194), (0, u "canEncode"), (0, u "(C)Z"), (97, u "(C)Ljava/lang/AbstractStringBuilder;"), (110, u "()[B"), (40, .class_ 445), (0, u "java/lang/Appendable"), (30, u "setLength"), (75, u "getValue")] 56

def k21m0 : Method := { name := "<init>", desc := "()V", sig := { parameters := [], returnType := none }, accessFlags := 0, code := none }
def k21c1 : Code := { maxStack := 2, maxLocals := 2, code := jdk_68_method_2_code, exceptionTable := #[], attributes := #[] }
def k21m1 : Method := { name := "<init>", desc := "(I)V", sig := { parameters := [.int], returnType := none }, accessFlags := 0, code := some k21c1 }
def k21c2 : Code := { maxStack := 1, maxLocals := 1, code := jdk_68_method_6_code, exceptionTable := #[], attributes := #[] }
def k21m2 : Method := { name := "length", desc := "()I", sig := { parameters := [], returnType := some .int }, accessFlags := 1, code := some k21c2 }
def k21c3 : Code := { maxStack := 4, maxLocals := 3, code := jdk_68_method_9_code, exceptionTable := #[], attributes := #[] }
def k21m3 : Method := { name := "ensureCapacityInternal", desc := "(I)V", sig := { parameters := [.int], returnType := none }, accessFlags := 2, code := some k21c3 }
def k21c4 : Code := { maxStack := 3, maxLocals := 2, code := jdk_68_method_13_code, exceptionTable := #[], attributes := #[] }
def k21m4 : Method := { name := "setLength", desc := "(I)V", sig := { parameters := [.int], returnType := none }, accessFlags := 1, code := some k21c4 }
def k21c5 : Code := { maxStack := 5, maxLocals := 2, code := jdk_68_method_31_code, exceptionTable := #[], attributes := #[] }
def k21m5 : Method := { name := "append", desc := "(C)Ljava/lang/AbstractStringBuilder;", sig := { parameters := [.char], returnType := some (.object "java/lang/AbstractStringBuilder") }, accessFlags := 1, code := some k21c5 }
def k21c6 : Code := { maxStack := 1, maxLocals := 1, code := jdk_68_method_64_code, exceptionTable := #[], attributes := #[] }
def k21m6 : Method := { name := "getValue", desc := "()[B", sig := { parameters := [], returnType := some (.array .byte) }, accessFlags := 16, code := some k21c6 }
def k21c7 : Code := { maxStack := 1, maxLocals := 1, code := jdk_68_method_68_code, exceptionTable := #[], attributes := #[] }
def k21m7 : Method := { name := "isLatin1", desc := "()Z", sig := { parameters := [], returnType := some .boolean }, accessFlags := 16, code := some k21c7 }
/-- java/lang/AbstractStringBuilder -/
def k21 : Class := { plain "java/lang/AbstractStringBuilder" (some 0) with
  accessFlags := 1056
  interfaces := #[20, 4]
  cf := some (fileOf pool21 10 #[] #[{ accessFlags := 0, nameIndex := 7, descriptorIndex := 8, attributes := #[] }, { accessFlags := 0, nameIndex := 7, descriptorIndex := 103, attributes := #[] }, { accessFlags := 1, nameIndex := 34, descriptorIndex := 35, attributes := #[] }, { accessFlags := 2, nameIndex := 102, descriptorIndex := 103, attributes := #[] }, { accessFlags := 1, nameIndex := 476, descriptorIndex := 103, attributes := #[] }, { accessFlags := 1, nameIndex := 45, descriptorIndex := 292, attributes := #[] }, { accessFlags := 16, nameIndex := 552, descriptorIndex := 403, attributes := #[] }, { accessFlags := 16, nameIndex := 85, descriptorIndex := 86, attributes := #[] }] 1056 4 #[444, 48] #[{ accessFlags := 0, nameIndex := 17, descriptorIndex := 14, attributes := #[] }, { accessFlags := 0, nameIndex := 24, descriptorIndex := 25, attributes := #[] }, { accessFlags := 0, nameIndex := 75, descriptorIndex := 21, attributes := #[] }, { accessFlags := 0, nameIndex := 81, descriptorIndex := 82, attributes := #[] }, { accessFlags := 26, nameIndex := 13, descriptorIndex := 14, attributes := #[] }])
  fields := #[{ name := "value", type := (.array .byte), accessFlags := 0, slot := 0, constantValue := 0 }, { name := "coder", type := .byte, accessFlags := 0, slot := 1, constantValue := 0 }, { name := "maybeLatin1", type := .boolean, accessFlags := 0, slot := 2, constantValue := 0 }, { name := "count", type := .int, accessFlags := 0, slot := 3, constantValue := 0 }, { name := "EMPTYVALUE", type := (.array .byte), accessFlags := 26, slot := 0, constantValue := 0 }]
  methods := #[k21m0, k21m1, k21m2, k21m3, k21m4, k21m5, k21m6, k21m7]
  instanceTypes := #[(.array .byte), .byte, .boolean, .int]
  staticTypes := #[(.array .byte)]
  resolved := Array.replicate 609 none
  statics := none }

def pool22 : Array CpInfo := pool [(1, .methodref 2 3), (0, .class_ 4), (0, .nameAndType 5 6), (0, u "java/lang/AbstractStringBuilder"), (0, u "<init>"), (0, u "(I)V"), (11, .class_ 20), (1, u "java/lang/String"), (3, .class_ 26), (1, u "java/lang/StringBuilder"), (0, u "append"), (22, .methodref 2 51), (0, .nameAndType 27 52), (0, u "(C)Ljava/lang/AbstractStringBuilder;"), (84, .methodref 18 138), (0, .nameAndType 5 139), (0, u "(Ljava/lang/StringBuilder;)V"), (5, u "()V"), (10, u "()I"), (129, u "(C)Ljava/lang/StringBuilder;"), (46, .methodref 2 334), (0, .nameAndType 335 6), (0, u "setLength"), (7, .methodref 2 344), (0, .nameAndType 345 156), (0, u "length"), (3, .class_ 350), (0, u "java/lang/Appendable"), (0, .class_ 352), (0, u "java/io/Serializable"), (0, .class_ 354), (0, u "java/lang/Comparable"), (0, .class_ 356), (0, u "java/lang/CharSequence"), (0, u "serialVersionUID"), (0, u "J"), (40, u "toString"), (0, u "()Ljava/lang/String;")] 21

def k22c0 : Code := { maxStack := 2, maxLocals := 1, code := jdk_67_method_1_code, exceptionTable := #[], attributes := #[] }
def k22m0 : Method := { name := "<init>", desc := "()V", sig := { parameters := [], returnType := none }, accessFlags := 1, code := some k22c0 }
def k22c1 : Code := { maxStack := 2, maxLocals := 2, code := jdk_67_method_14_code, exceptionTable := #[], attributes := #[] }
def k22m1 : Method := { name := "append", desc := "(C)Ljava/lang/StringBuilder;", sig := { parameters := [.char], returnType := some (.object "java/lang/StringBuilder") }, accessFlags := 1, code := some k22c1 }
def k22c2 : Code := { maxStack := 3, maxLocals := 1, code := jdk_67_method_42_code, exceptionTable := #[], attributes := #[] }
def k22m2 : Method := { name := "toString", desc := "()Ljava/lang/String;", sig := { parameters := [], returnType := some (.object "java/lang/String") }, accessFlags := 1, code := some k22c2 }
def k22c3 : Code := { maxStack := 2, maxLocals := 2, code := jdk_67_method_89_code, exceptionTable := #[], attributes := #[] }
def k22m3 : Method := { name := "setLength", desc := "(I)V", sig := { parameters := [.int], returnType := none }, accessFlags := 4161, code := some k22c3 }
def k22c4 : Code := { maxStack := 1, maxLocals := 1, code := jdk_67_method_93_code, exceptionTable := #[], attributes := #[] }
def k22m4 : Method := { name := "length", desc := "()I", sig := { parameters := [], returnType := some .int }, accessFlags := 4161, code := some k22c4 }
/-- java/lang/StringBuilder -/
def k22 : Class := { plain "java/lang/StringBuilder" (some 21) with
  accessFlags := 49
  interfaces := #[20, 2, 3, 4]
  cf := some (fileOf pool22 24 #[] #[{ accessFlags := 1, nameIndex := 5, descriptorIndex := 145, attributes := #[] }, { accessFlags := 1, nameIndex := 27, descriptorIndex := 286, attributes := #[] }, { accessFlags := 1, nameIndex := 399, descriptorIndex := 400, attributes := #[] }, { accessFlags := 4161, nameIndex := 335, descriptorIndex := 6, attributes := #[] }, { accessFlags := 4161, nameIndex := 345, descriptorIndex := 156, attributes := #[] }] 49 2 #[349, 351, 353, 355] #[{ accessFlags := 24, nameIndex := 357, descriptorIndex := 358, attributes := #[] }])
  fields := #[{ name := "serialVersionUID", type := .long, accessFlags := 24, slot := 0, constantValue := 0 }]
  methods := #[k22m0, k22m1, k22m2, k22m3, k22m4]
  instanceTypes := #[(.array .byte), .byte, .boolean, .int]
  staticTypes := #[.long]
  resolved := Array.replicate 422 none
  statics := none }

def pool23 : Array CpInfo := pool [(2, .class_ 4), (1, u "java/lang/Object"), (0, u "<init>"), (0, u "()V"), (17, .class_ 26), (1, u "jdk/internal/util/Preconditions"), (6, u "checkIndex"), (21, .class_ 56), (0, u "jdk/internal/util/Preconditions$4"), (57, .class_ 115), (0, u "jdk/internal/util/Preconditions$1"), (7, u "SIOOBE_FORMATTER"), (0, u "Ljava/util/function/BiFunction;"), (0, .class_ 126), (0, u "jdk/internal/util/Preconditions$2"), (3, u "AIOOBE_FORMATTER"), (0, .class_ 132), (0, u "jdk/internal/util/Preconditions$3"), (3, u "IOOBE_FORMATTER"), (41, u "(IILjava/util/function/BiFunction;)I")] 15

def k23m0 : Method := { name := "<init>", desc := "()V", sig := { parameters := [], returnType := none }, accessFlags := 1, code := none }
def k23c1 : Code := { maxStack := 3, maxLocals := 3, code := jdk_41_method_11_code, exceptionTable := #[], attributes := #[] }
def k23m1 : Method := { name := "checkIndex", desc := "(IILjava/util/function/BiFunction;)I", sig := { parameters := [.int, .int, (.object "java/util/function/BiFunction")], returnType := some .int }, accessFlags := 9, code := some k23c1 }
/-- jdk/internal/util/Preconditions -/
def k23 : Class := { plain "jdk/internal/util/Preconditions" (some 0) with
  accessFlags := 33
  interfaces := #[]
  cf := some (fileOf pool23 24 #[.nestMembers #[55, 131, 125, 114]] #[{ accessFlags := 1, nameIndex := 5, descriptorIndex := 6, attributes := #[] }, { accessFlags := 9, nameIndex := 33, descriptorIndex := 178, attributes := #[] }] 33 2 #[] #[{ accessFlags := 25, nameIndex := 123, descriptorIndex := 124, attributes := #[] }, { accessFlags := 25, nameIndex := 130, descriptorIndex := 124, attributes := #[] }, { accessFlags := 25, nameIndex := 136, descriptorIndex := 124, attributes := #[] }])
  fields := #[{ name := "SIOOBE_FORMATTER", type := (.object "java/util/function/BiFunction"), accessFlags := 25, slot := 0, constantValue := 0 }, { name := "AIOOBE_FORMATTER", type := (.object "java/util/function/BiFunction"), accessFlags := 25, slot := 1, constantValue := 0 }, { name := "IOOBE_FORMATTER", type := (.object "java/util/function/BiFunction"), accessFlags := 25, slot := 2, constantValue := 0 }]
  methods := #[k23m0, k23m1]
  instanceTypes := #[]
  staticTypes := #[(.object "java/util/function/BiFunction"), (.object "java/util/function/BiFunction"), (.object "java/util/function/BiFunction")]
  resolved := Array.replicate 194 none
  statics := some 2 }

def pool24 : Array CpInfo := pool [(2, .class_ 4), (1, u "java/lang/Object"), (0, u "<init>"), (0, u "()V"), (7, .class_ 16), (1, u "java/util/Arrays"), (57, .class_ 76), (1, u "java/util/Arrays$NaturalOrder"), (36, .class_ 115), (1, u "java/util/Arrays$LegacyMergeSort"), (1, u "Z"), (21, u "copyOfRange"), (10, .methodref 151 152), (0, .class_ 153), (0, .nameAndType 154 155), (0, u "java/lang/System"), (0, u "arraycopy"), (0, u "(Ljava/lang/Object;ILjava/lang/Object;II)V"), (148, .methodref 305 306), (0, .class_ 307), (0, .nameAndType 308 309), (0, u "java/lang/Math"), (0, u "min"), (0, u "(II)I"), (29, .methodref 14 340), (0, .nameAndType 341 342), (0, u "copyOfRangeByte"), (0, u "([BII)[B"), (0, .methodref 14 344), (0, .nameAndType 345 346), (0, u "checkLength"), (0, u "(II)V"), (28, .class_ 376), (0, u "java/util/Arrays$ArrayList"), (68, u "$assertionsDisabled"), (269, u "MIN_ARRAY_SORT_GRAN"), (0, u "I"), (2, u "INSERTIONSORT_THRESHOLD"), (255, .class_ 976), (0, u "java/util/Arrays$ArrayItr")] 52

def k24m0 : Method := { name := "<init>", desc := "()V", sig := { parameters := [], returnType := none }, accessFlags := 2, code := none }
def k24c1 : Code := { maxStack := 4, maxLocals := 2, code := jdk_65_method_131_code, exceptionTable := #[], attributes := #[] }
def k24m1 : Method := { name := "checkLength", desc := "(II)V", sig := { parameters := [.int, .int], returnType := none }, accessFlags := 10, code := some k24c1 }
def k24c2 : Code := { maxStack := 3, maxLocals := 3, code := jdk_65_method_132_code, exceptionTable := #[], attributes := #[] }
def k24m2 : Method := { name := "copyOfRange", desc := "([BII)[B", sig := { parameters := [(.array .byte), .int, .int], returnType := some (.array .byte) }, accessFlags := 9, code := some k24c2 }
def k24c3 : Code := { maxStack := 6, maxLocals := 5, code := jdk_65_method_133_code, exceptionTable := #[], attributes := #[] }
def k24m3 : Method := { name := "copyOfRangeByte", desc := "([BII)[B", sig := { parameters := [(.array .byte), .int, .int], returnType := some (.array .byte) }, accessFlags := 10, code := some k24c3 }
/-- java/util/Arrays -/
def k24 : Class := { plain "java/util/Arrays" (some 0) with
  accessFlags := 49
  interfaces := #[]
  cf := some (fileOf pool24 14 #[.nestMembers #[975, 375, 113, 74]] #[{ accessFlags := 2, nameIndex := 5, descriptorIndex := 6, attributes := #[] }, { accessFlags := 10, nameIndex := 345, descriptorIndex := 346, attributes := #[] }, { accessFlags := 9, nameIndex := 139, descriptorIndex := 342, attributes := #[] }, { accessFlags := 10, nameIndex := 341, descriptorIndex := 342, attributes := #[] }] 49 2 #[] #[{ accessFlags := 26, nameIndex := 715, descriptorIndex := 716, attributes := #[] }, { accessFlags := 26, nameIndex := 719, descriptorIndex := 716, attributes := #[] }, { accessFlags := 4120, nameIndex := 445, descriptorIndex := 117, attributes := #[] }])
  fields := #[{ name := "MIN_ARRAY_SORT_GRAN", type := .int, accessFlags := 26, slot := 0, constantValue := 0 }, { name := "INSERTIONSORT_THRESHOLD", type := .int, accessFlags := 26, slot := 1, constantValue := 0 }, { name := "$assertionsDisabled", type := .boolean, accessFlags := 4120, slot := 2, constantValue := 0 }]
  methods := #[k24m0, k24m1, k24m2, k24m3]
  instanceTypes := #[]
  staticTypes := #[.int, .int, .boolean]
  resolved := Array.replicate 1029 none
  statics := none }

def pool25 : Array CpInfo := pool [(1, .class_ 2), (0, u "java/lang/Math"), (1, .class_ 6), (1, u "java/lang/Object"), (0, u "<init>"), (0, u "()V"), (89, .class_ 100), (1, u "java/lang/Math$RandomNumberGeneratorHolder"), (71, u "negativeZeroFloatBits"), (0, u "J"), (2, u "negativeZeroDoubleBits"), (21, u "max"), (2, u "min"), (43, u "$assertionsDisabled"), (0, u "Z"), (88, u "(II)I"), (2, u "twoToTheDoubleScaleDown"), (0, u "D"), (4, u "twoToTheDoubleScaleUp"), (9, u "E"), (3, u "PI"), (2, u "TAU"), (2, u "DEGREES_TO_RADIANS"), (0, u "RADIANS_TO_DEGREES")] 94

def k25m0 : Method := { name := "<init>", desc := "()V", sig := { parameters := [], returnType := none }, accessFlags := 2, code := none }
def k25c1 : Code := { maxStack := 2, maxLocals := 2, code := jdk_29_method_65_code, exceptionTable := #[], attributes := #[] }
def k25m1 : Method := { name := "max", desc := "(II)I", sig := { parameters := [.int, .int], returnType := some .int }, accessFlags := 9, code := some k25c1 }
def k25c2 : Code := { maxStack := 2, maxLocals := 2, code := jdk_29_method_69_code, exceptionTable := #[], attributes := #[] }
def k25m2 : Method := { name := "min", desc := "(II)I", sig := { parameters := [.int, .int], returnType := some .int }, accessFlags := 9, code := some k25c2 }
/-- java/lang/Math -/
def k25 : Class := { plain "java/lang/Math" (some 0) with
  accessFlags := 49
  interfaces := #[]
  cf := some (fileOf pool25 1 #[.nestMembers #[98]] #[{ accessFlags := 2, nameIndex := 7, descriptorIndex := 8, attributes := #[] }, { accessFlags := 9, nameIndex := 198, descriptorIndex := 335, attributes := #[] }, { accessFlags := 9, nameIndex := 201, descriptorIndex := 335, attributes := #[] }] 49 4 #[] #[{ accessFlags := 25, nameIndex := 354, descriptorIndex := 339, attributes := #[] }, { accessFlags := 25, nameIndex := 358, descriptorIndex := 339, attributes := #[] }, { accessFlags := 25, nameIndex := 361, descriptorIndex := 339, attributes := #[] }, { accessFlags := 26, nameIndex := 364, descriptorIndex := 339, attributes := #[] }, { accessFlags := 26, nameIndex := 365, descriptorIndex := 339, attributes := #[] }, { accessFlags := 26, nameIndex := 172, descriptorIndex := 173, attributes := #[] }, { accessFlags := 26, nameIndex := 176, descriptorIndex := 173, attributes := #[] }, { accessFlags := 8, nameIndex := 344, descriptorIndex := 339, attributes := #[] }, { accessFlags := 8, nameIndex := 338, descriptorIndex := 339, attributes := #[] }, { accessFlags := 4120, nameIndex := 245, descriptorIndex := 246, attributes := #[] }])
  fields := #[{ name := "E", type := .double, accessFlags := 25, slot := 0, constantValue := 0 }, { name := "PI", type := .double, accessFlags := 25, slot := 1, constantValue := 0 }, { name := "TAU", type := .double, accessFlags := 25, slot := 2, constantValue := 0 }, { name := "DEGREES_TO_RADIANS", type := .double, accessFlags := 26, slot := 3, constantValue := 0 }, { name := "RADIANS_TO_DEGREES", type := .double, accessFlags := 26, slot := 4, constantValue := 0 }, { name := "negativeZeroFloatBits", type := .long, accessFlags := 26, slot := 5, constantValue := 0 }, { name := "negativeZeroDoubleBits", type := .long, accessFlags := 26, slot := 6, constantValue := 0 }, { name := "twoToTheDoubleScaleUp", type := .double, accessFlags := 8, slot := 7, constantValue := 0 }, { name := "twoToTheDoubleScaleDown", type := .double, accessFlags := 8, slot := 8, constantValue := 0 }, { name := "$assertionsDisabled", type := .boolean, accessFlags := 4120, slot := 9, constantValue := 0 }]
  methods := #[k25m0, k25m1, k25m2]
  instanceTypes := #[]
  staticTypes := #[.double, .double, .double, .double, .double, .long, .long, .double, .double, .boolean]
  resolved := Array.replicate 460 none
  statics := none }

def pool26 : Array CpInfo := pool [(2, .class_ 4), (1, u "java/lang/Object"), (0, u "<init>"), (0, u "()V"), (1, .class_ 10), (1, u "java/lang/System"), (0, u "allowSecurityManager"), (0, u "I"), (16, u "cons"), (0, u "Ljava/io/Console;"), (77, .class_ 110), (1, u "java/lang/System$CallersHolder"), (43, u "initialErrStream"), (0, u "Ljava/io/PrintStream;"), (19, u "security"), (0, u "Ljava/lang/SecurityManager;"), (31, .class_ 209), (0, u "java/lang/System$1"), (7, u "props"), (0, u "Ljava/util/Properties;"), (2, u "lineSeparator"), (0, u "Ljava/lang/String;"), (96, .class_ 321), (1, u "java/lang/System$LoggerFinder"), (5, .class_ 328), (0, u "java/lang/System$Logger"), (67, u "err"), (2, u "out"), (91, u "notSupportedJnuEncoding"), (15, u "in"), (17, u "initialIn"), (0, u "Ljava/io/InputStream;"), (35, u "bootLayer"), (0, u "Ljava/lang/ModuleLayer;"), (99, .class_ 664), (0, u "java/lang/System$2"), (9, u "NEVER"), (2, u "MAYBE"), (49, u "arraycopy"), (0, u "(Ljava/lang/Object;ILjava/lang/Object;II)V"), (72, .class_ 802), (0, u "java/lang/System$Logger$Level")] 31

def k26m0 : Method := { name := "<init>", desc := "()V", sig := { parameters := [], returnType := none }, accessFlags := 2, code := none }
def k26m1 : Method := { name := "arraycopy", desc := "(Ljava/lang/Object;ILjava/lang/Object;II)V", sig := { parameters := [(.object "java/lang/Object"), .int, (.object "java/lang/Object"), .int, .int], returnType := none }, accessFlags := 265, code := none }
/-- java/lang/System -/
def k26 : Class := { plain "java/lang/System" (some 0) with
  accessFlags := 49
  interfaces := #[]
  cf := some (fileOf pool26 8 #[.nestMembers #[319, 327, 801, 108, 663, 208]] #[{ accessFlags := 2, nameIndex := 5, descriptorIndex := 6, attributes := #[] }, { accessFlags := 265, nameIndex := 727, descriptorIndex := 728, attributes := #[] }] 49 2 #[] #[{ accessFlags := 25, nameIndex := 507, descriptorIndex := 526, attributes := #[] }, { accessFlags := 25, nameIndex := 399, descriptorIndex := 155, attributes := #[] }, { accessFlags := 25, nameIndex := 396, descriptorIndex := 155, attributes := #[] }, { accessFlags := 10, nameIndex := 525, descriptorIndex := 526, attributes := #[] }, { accessFlags := 26, nameIndex := 674, descriptorIndex := 12, attributes := #[] }, { accessFlags := 26, nameIndex := 677, descriptorIndex := 12, attributes := #[] }, { accessFlags := 10, nameIndex := 11, descriptorIndex := 12, attributes := #[] }, { accessFlags := 74, nameIndex := 175, descriptorIndex := 176, attributes := #[] }, { accessFlags := 10, nameIndex := 491, descriptorIndex := 222, attributes := #[] }, { accessFlags := 74, nameIndex := 29, descriptorIndex := 30, attributes := #[] }, { accessFlags := 74, nameIndex := 154, descriptorIndex := 155, attributes := #[] }, { accessFlags := 10, nameIndex := 217, descriptorIndex := 218, attributes := #[] }, { accessFlags := 10, nameIndex := 221, descriptorIndex := 222, attributes := #[] }, { accessFlags := 8, nameIndex := 562, descriptorIndex := 563, attributes := #[] }])
  fields := #[{ name := "in", type := (.object "java/io/InputStream"), accessFlags := 25, slot := 0, constantValue := 0 }, { name := "out", type := (.object "java/io/PrintStream"), accessFlags := 25, slot := 1, constantValue := 0 }, { name := "err", type := (.object "java/io/PrintStream"), accessFlags := 25, slot := 2, constantValue := 0 }, { name := "initialIn", type := (.object "java/io/InputStream"), accessFlags := 10, slot := 3, constantValue := 0 }, { name := "NEVER", type := .int, accessFlags := 26, slot := 4, constantValue := 0 }, { name := "MAYBE", type := .int, accessFlags := 26, slot := 5, constantValue := 0 }, { name := "allowSecurityManager", type := .int, accessFlags := 10, slot := 6, constantValue := 0 }, { name := "security", type := (.object "java/lang/SecurityManager"), accessFlags := 74, slot := 7, constantValue := 0 }, { name := "notSupportedJnuEncoding", type := (.object "java/lang/String"), accessFlags := 10, slot := 8, constantValue := 0 }, { name := "cons", type := (.object "java/io/Console"), accessFlags := 74, slot := 9, constantValue := 0 }, { name := "initialErrStream", type := (.object "java/io/PrintStream"), accessFlags := 74, slot := 10, constantValue := 0 }, { name := "props", type := (.object "java/util/Properties"), accessFlags := 10, slot := 11, constantValue := 0 }, { name := "lineSeparator", type := (.object "java/lang/String"), accessFlags := 10, slot := 12, constantValue := 0 }, { name := "bootLayer", type := (.object "java/lang/ModuleLayer"), accessFlags := 8, slot := 13, constantValue := 0 }]
  methods := #[k26m0, k26m1]
  instanceTypes := #[]
  staticTypes := #[(.object "java/io/InputStream"), (.object "java/io/PrintStream"), (.object "java/io/PrintStream"), (.object "java/io/InputStream"), .int, .int, .int, (.object "java/lang/SecurityManager"), (.object "java/lang/String"), (.object "java/io/Console"), (.object "java/io/PrintStream"), (.object "java/util/Properties"), (.object "java/lang/String"), (.object "java/lang/ModuleLayer")]
  resolved := Array.replicate 834 none
  statics := none }

def pool27 : Array CpInfo := pool [(2, .class_ 4), (1, u "java/lang/Object"), (0, u "<init>"), (0, u "()V"), (35, .class_ 44), (1, u "java/util/Objects"), (60, .methodref 106 107), (0, .class_ 108), (0, .nameAndType 109 110), (0, u "jdk/internal/util/Preconditions"), (0, u "checkIndex"), (0, u "(IILjava/util/function/BiFunction;)I"), (60, u "(II)I")] 12

def k27m0 : Method := { name := "<init>", desc := "()V", sig := { parameters := [], returnType := none }, accessFlags := 2, code := none }
def k27c1 : Code := { maxStack := 3, maxLocals := 2, code := jdk_31_method_17_code, exceptionTable := #[], attributes := #[] }
def k27m1 : Method := { name := "checkIndex", desc := "(II)I", sig := { parameters := [.int, .int], returnType := some .int }, accessFlags := 9, code := some k27c1 }
/-- java/util/Objects -/
def k27 : Class := { plain "java/util/Objects" (some 0) with
  accessFlags := 49
  interfaces := #[]
  cf := some (fileOf pool27 42 #[] #[{ accessFlags := 2, nameIndex := 5, descriptorIndex := 6, attributes := #[] }, { accessFlags := 9, nameIndex := 109, descriptorIndex := 171, attributes := #[] }] 49 2 #[] #[])
  fields := #[]
  methods := #[k27m0, k27m1]
  instanceTypes := #[]
  staticTypes := #[]
  resolved := Array.replicate 184 none
  statics := none }

def pool28 : Array CpInfo := pool [(9, u "<init>"), (6, .class_ 18), (1, u "java/lang/Object"), (0, u "()V"), (1, .class_ 23), (1, u "jdk/internal/util/ArraysSupport"), (0, u "LOG2_ARRAY_LONG_INDEX_SCALE"), (0, u "I"), (2, u "U"), (0, u "Ljdk/internal/misc/Unsafe;"), (8, u "BIG_ENDIAN"), (0, u "Z"), (8, u "LOG2_BYTE_BIT_SIZE"), (4, u "LOG2_ARRAY_INT_INDEX_SCALE"), (54, u "JLA"), (0, u "Ljdk/internal/access/JavaLangAccess;"), (11, u "LOG2_ARRAY_BOOLEAN_INDEX_SCALE"), (9, u "LOG2_ARRAY_BYTE_INDEX_SCALE"), (5, u "LOG2_ARRAY_CHAR_INDEX_SCALE"), (5, u "LOG2_ARRAY_SHORT_INDEX_SCALE"), (18, u "LOG2_ARRAY_FLOAT_INDEX_SCALE"), (24, u "LOG2_ARRAY_DOUBLE_INDEX_SCALE"), (89, u "T_BOOLEAN"), (2, u "T_CHAR"), (1, u "T_FLOAT"), (1, u "T_DOUBLE"), (1, u "T_BYTE"), (1, u "T_SHORT"), (1, u "T_INT"), (1, u "T_LONG"), (1, u "SOFT_MAX_ARRAY_LENGTH")] 83

def k28m0 : Method := { name := "<init>", desc := "()V", sig := { parameters := [], returnType := none }, accessFlags := 2, code := none }
/-- jdk/internal/util/ArraysSupport -/
def k28 : Class := { plain "jdk/internal/util/ArraysSupport" (some 0) with
  accessFlags := 33
  interfaces := #[]
  cf := some (fileOf pool28 21 #[] #[{ accessFlags := 2, nameIndex := 9, descriptorIndex := 19, attributes := #[] }] 33 16 #[] #[{ accessFlags := 24, nameIndex := 28, descriptorIndex := 29, attributes := #[] }, { accessFlags := 26, nameIndex := 38, descriptorIndex := 39, attributes := #[] }, { accessFlags := 25, nameIndex := 121, descriptorIndex := 25, attributes := #[] }, { accessFlags := 25, nameIndex := 131, descriptorIndex := 25, attributes := #[] }, { accessFlags := 25, nameIndex := 137, descriptorIndex := 25, attributes := #[] }, { accessFlags := 25, nameIndex := 143, descriptorIndex := 25, attributes := #[] }, { accessFlags := 25, nameIndex := 53, descriptorIndex := 25, attributes := #[] }, { accessFlags := 25, nameIndex := 24, descriptorIndex := 25, attributes := #[] }, { accessFlags := 25, nameIndex := 162, descriptorIndex := 25, attributes := #[] }, { accessFlags := 25, nameIndex := 187, descriptorIndex := 25, attributes := #[] }, { accessFlags := 26, nameIndex := 48, descriptorIndex := 25, attributes := #[] }, { accessFlags := 25, nameIndex := 277, descriptorIndex := 25, attributes := #[] }, { accessFlags := 25, nameIndex := 280, descriptorIndex := 25, attributes := #[] }, { accessFlags := 25, nameIndex := 282, descriptorIndex := 25, attributes := #[] }, { accessFlags := 25, nameIndex := 284, descriptorIndex := 25, attributes := #[] }, { accessFlags := 25, nameIndex := 286, descriptorIndex := 25, attributes := #[] }, { accessFlags := 25, nameIndex := 288, descriptorIndex := 25, attributes := #[] }, { accessFlags := 25, nameIndex := 290, descriptorIndex := 25, attributes := #[] }, { accessFlags := 25, nameIndex := 292, descriptorIndex := 25, attributes := #[] }, { accessFlags := 26, nameIndex := 108, descriptorIndex := 109, attributes := #[] }, { accessFlags := 25, nameIndex := 294, descriptorIndex := 25, attributes := #[] }])
  fields := #[{ name := "U", type := (.object "jdk/internal/misc/Unsafe"), accessFlags := 24, slot := 0, constantValue := 0 }, { name := "BIG_ENDIAN", type := .boolean, accessFlags := 26, slot := 1, constantValue := 0 }, { name := "LOG2_ARRAY_BOOLEAN_INDEX_SCALE", type := .int, accessFlags := 25, slot := 2, constantValue := 0 }, { name := "LOG2_ARRAY_BYTE_INDEX_SCALE", type := .int, accessFlags := 25, slot := 3, constantValue := 0 }, { name := "LOG2_ARRAY_CHAR_INDEX_SCALE", type := .int, accessFlags := 25, slot := 4, constantValue := 0 }, { name := "LOG2_ARRAY_SHORT_INDEX_SCALE", type := .int, accessFlags := 25, slot := 5, constantValue := 0 }, { name := "LOG2_ARRAY_INT_INDEX_SCALE", type := .int, accessFlags := 25, slot := 6, constantValue := 0 }, { name := "LOG2_ARRAY_LONG_INDEX_SCALE", type := .int, accessFlags := 25, slot := 7, constantValue := 0 }, { name := "LOG2_ARRAY_FLOAT_INDEX_SCALE", type := .int, accessFlags := 25, slot := 8, constantValue := 0 }, { name := "LOG2_ARRAY_DOUBLE_INDEX_SCALE", type := .int, accessFlags := 25, slot := 9, constantValue := 0 }, { name := "LOG2_BYTE_BIT_SIZE", type := .int, accessFlags := 26, slot := 10, constantValue := 0 }, { name := "T_BOOLEAN", type := .int, accessFlags := 25, slot := 11, constantValue := 0 }, { name := "T_CHAR", type := .int, accessFlags := 25, slot := 12, constantValue := 0 }, { name := "T_FLOAT", type := .int, accessFlags := 25, slot := 13, constantValue := 0 }, { name := "T_DOUBLE", type := .int, accessFlags := 25, slot := 14, constantValue := 0 }, { name := "T_BYTE", type := .int, accessFlags := 25, slot := 15, constantValue := 0 }, { name := "T_SHORT", type := .int, accessFlags := 25, slot := 16, constantValue := 0 }, { name := "T_INT", type := .int, accessFlags := 25, slot := 17, constantValue := 0 }, { name := "T_LONG", type := .int, accessFlags := 25, slot := 18, constantValue := 0 }, { name := "JLA", type := (.object "jdk/internal/access/JavaLangAccess"), accessFlags := 26, slot := 19, constantValue := 0 }, { name := "SOFT_MAX_ARRAY_LENGTH", type := .int, accessFlags := 25, slot := 20, constantValue := 0 }]
  methods := #[k28m0]
  instanceTypes := #[]
  staticTypes := #[(.object "jdk/internal/misc/Unsafe"), .boolean, .int, .int, .int, .int, .int, .int, .int, .int, .int, .int, .int, .int, .int, .int, .int, .int, .int, (.object "jdk/internal/access/JavaLangAccess"), .int]
  resolved := Array.replicate 378 none
  statics := none }

/-- the primitive byte -/
def k29 : Class := { plain "byte" none with kind := .primitive 'B', accessFlags := 0x411 }
/-- [B -/
def k30 : Class := { plain "[B" (some 0) with kind := .array 29 .byte, interfaces := #[18, 2], accessFlags := 1041 }

/-- the primitive char -/
def k31 : Class := { plain "char" none with kind := .primitive 'C', accessFlags := 0x411 }
/-- [C -/
def k32 : Class := { plain "[C" (some 0) with kind := .array 31 .char, interfaces := #[18, 2], accessFlags := 1041 }

/-- the primitive int -/
def k33 : Class := { plain "int" none with kind := .primitive 'I', accessFlags := 0x411 }
/-- [I -/
def k34 : Class := { plain "[I" (some 0) with kind := .array 33 .int, interfaces := #[18, 2], accessFlags := 1041 }

/-- [Ljava/lang/Object; -/
def k35 : Class := { plain "[Ljava/lang/Object;" (some 0) with kind := .array 0 (.object "java/lang/Object"), interfaces := #[18, 2], accessFlags := 1041 }

/-- [Ljava/lang/String; -/
def k36 : Class := { plain "[Ljava/lang/String;" (some 0) with kind := .array 7 (.object "java/lang/String"), interfaces := #[18, 2], accessFlags := 1041 }

def heap : Heap := #[{ cls := 7, slots := #[.long 0, .int 1, .null, .int 0, .null, .int 0, .int 0], vm := .statics 7 },
  { cls := 19, slots := #[.long 0, .int 0, .ref 3, .ref 4], vm := .statics 19 },
  { cls := 23, slots := #[.null, .null, .null], vm := .statics 23 },
  { cls := 35, slots := #[], vm := .none },
  { cls := 35, slots := #[], vm := .none }]
def classes : Array Class := #[k0, k1, k2, k3, k4, k5, k6, k7, k8, k9, k10, k11, k12, k13, k14, k15, k16, k17, k18, k19, k20, k21, k22, k23, k24, k25, k26, k27, k28, k29, k30, k31, k32, k33, k34, k35, k36]
def interned : List (Array UInt16 × Addr) := []
def slotsUsed : Nat := 14
def theMethod : MethodId := ⟨1, 2⟩
def args0 : Array Value := #[.int 5, .int 5, .int 5, .int 5, .int 5, .int 5]
def aboutOver (below : List Frame) : State where
  vm := { classes := classes, interned := interned.toArray }
  heap := heap
  slotsUsed := slotsUsed
  threads := #[{ frames := .invoking theMethod args0 :: below }]
def below0 : List Frame := [.native { method := ⟨0, 0⟩, args := #[] }]
def about1 : State := aboutOver below0
def p0 : Program := .bare "" "" ""
def e0 : Env := launch0.env 0 0 0
theorem w_frames : about1.frames = Frame.invoking theMethod args0 :: below0 := rfl
set_option maxRecDepth 65536 in
theorem w_args : argsFit about1.vm theMethod args0 = true := by decide +kernel
set_option maxRecDepth 65536 in
theorem w_heap : heapFits about1 = true := by decide +kernel
set_option maxRecDepth 65536 in
theorem w_runnable : about1.curStatus? = some .runnable := by decide +kernel
set_option maxRecDepth 65536 in
theorem w_alone : about1.alone = true := by decide +kernel
set_option maxRecDepth 65536 in
theorem w_named : about1.methodNamed? x = some theMethod := by decide +kernel
set_option maxRecDepth 65536 in
theorem w_hears : about1.hears theMethod below0 = true := by decide +kernel
set_option maxRecDepth 65536 in
theorem w_ripe : about1.ripe theMethod args0 below0 = true := by decide +kernel
theorem w_running : about1.status = .running := rfl
set_option maxRecDepth 65536 in
theorem w_room : about1.hasRoom e0.platform room_1 = true :=
  launch0.hasRoom_least _ room_1 (by decide +kernel) (by decide +kernel) (by decide +kernel) (by decide +kernel) (by decide +kernel) (by decide +kernel)
theorem allAtoms_all (ts : List Jvm.Cond) (a : Array Jvm.Value) (st : Jvm.State) : (allAtoms ts).before a st = ts.all (fun c => c.before a st) := by
  induction ts with
  | nil => rfl
  | cons c t ih =>
    show (Jvm.Cond.and c (allAtoms t)).before a st = _
    rw [Jvm.Cond.before_and, ih, List.all_cons]
def words1 : List Jvm.Cond := Jvm.Cond.code x code maxLocals ret :: tables_1
/-- a 'code' word, met by the world's own term for the bytes: nothing is compared byte by byte -/
theorem code_word {y : MethodName} {bytes : ByteArray} {mx : Nat} {rt : Option FieldType} {a : Array Value} {s : State} {m : MethodId} {meth : Method} {c : Code} (h1 : s.methodNamed? y = some m) (h2 : s.vm.method? m = some meth) (h3 : meth.code = some c) (h4 : c.code = bytes)
    (h5 : (c.maxLocals == mx && c.exceptionTable.isEmpty && decide (c.maxStack ≤ mostOperands) && decide (meth.sig.returnType = rt) && !meth.locks && decide (parseMethodDescriptor y.desc = some meth.sig)) = true) : (Jvm.Cond.code y bytes mx rt).before a s = true := by
  simp only [Bool.and_eq_true, beq_iff_eq, Bool.not_eq_true', decide_eq_true_eq] at h5
  obtain ⟨⟨⟨⟨⟨g1, g2⟩, g3⟩, g4⟩, g5⟩, g6⟩ := h5
  simp [Cond.before, Cond.holds, Cond.value, h1, h2, h3, h4, g1, g2, g3, g4, g5, g6]
def isCode : Jvm.Cond → Bool
  | .code _ _ _ _ => true
  | _ => false
theorem all_split {L : List Jvm.Cond} {P : Jvm.Cond → Bool} (h1 : L.all (fun c => isCode c || P c) = true) (h2 : ∀ c ∈ L.filter isCode, P c = true) : L.all P = true := by
  refine List.all_eq_true.mpr fun c hc => ?_
  have h := List.all_eq_true.mp h1 c hc
  rcases Bool.eq_false_or_eq_true (isCode c) with hi | hi
  · exact h2 c (List.mem_filter.mpr ⟨hc, hi⟩)
  · simpa [hi] using h
set_option maxRecDepth 65536 in
theorem w_c0 : (Jvm.Cond.code x code maxLocals ret).before args0 about1 = true := code_word (m := ⟨1, 2⟩) (meth := k1m2) (c := k1c2) (by decide +kernel) rfl rfl rfl (by decide +kernel)
set_option maxRecDepth 65536 in
theorem w_c1 : (Jvm.Cond.code ({ cls := "com/example/typicalc/typicalc/TokensPeekPinLaw", name := "blank", desc := "(C)Z" } : Jvm.MethodName) method_2_code (1 : Nat) (Option.some Jvm.ClassFile.FieldType.boolean)).before args0 about1 = true := code_word (m := ⟨1, 1⟩) (meth := k1m1) (c := k1c1) (by decide +kernel) rfl rfl rfl (by decide +kernel)
set_option maxRecDepth 65536 in
theorem w_c2 : (Jvm.Cond.code ({ cls := "java/lang/String", name := "valueOf", desc := "(C)Ljava/lang/String;" } : Jvm.MethodName) jdk_42_method_139_code (1 : Nat) (Option.some (Jvm.ClassFile.FieldType.object "java/lang/String"))).before args0 about1 = true := code_word (m := ⟨7, 6⟩) (meth := k7m6) (c := k7c6) (by decide +kernel) rfl rfl rfl (by decide +kernel)
set_option maxRecDepth 65536 in
theorem w_c3 : (Jvm.Cond.code ({ cls := "java/lang/StringLatin1", name := "canEncode", desc := "(C)Z" } : Jvm.MethodName) jdk_43_method_3_code (1 : Nat) (Option.some Jvm.ClassFile.FieldType.boolean)).before args0 about1 = true := code_word (m := ⟨8, 2⟩) (meth := k8m2) (c := k8c2) (by decide +kernel) rfl rfl rfl (by decide +kernel)
set_option maxRecDepth 65536 in
theorem w_c4 : (Jvm.Cond.code ({ cls := "java/lang/StringLatin1", name := "toBytes", desc := "(C)[B" } : Jvm.MethodName) jdk_43_method_46_code (1 : Nat) (Option.some (Jvm.ClassFile.FieldType.array Jvm.ClassFile.FieldType.byte))).before args0 about1 = true := code_word (m := ⟨8, 4⟩) (meth := k8m4) (c := k8c4) (by decide +kernel) rfl rfl rfl (by decide +kernel)
set_option maxRecDepth 65536 in
theorem w_c5 : (Jvm.Cond.code ({ cls := "java/lang/String", name := "<init>", desc := "([BB)V" } : Jvm.MethodName) jdk_42_method_151_code (3 : Nat) (Option.none : Option Jvm.ClassFile.FieldType)).before args0 about1 = true := code_word (m := ⟨7, 9⟩) (meth := k7m9) (c := k7c9) (by decide +kernel) rfl rfl rfl (by decide +kernel)
set_option maxRecDepth 65536 in
theorem w_c6 : (Jvm.Cond.code ({ cls := "java/lang/Object", name := "<init>", desc := "()V" } : Jvm.MethodName) object_method_1_code (1 : Nat) (Option.none : Option Jvm.ClassFile.FieldType)).before args0 about1 = true := code_word (m := ⟨0, 0⟩) (meth := k0m0) (c := k0c0) (by decide +kernel) rfl rfl rfl (by decide +kernel)
set_option maxRecDepth 65536 in
theorem w_c7 : (Jvm.Cond.code ({ cls := "java/lang/String", name := "<init>", desc := "([C)V" } : Jvm.MethodName) jdk_42_method_3_code (2 : Nat) (Option.none : Option Jvm.ClassFile.FieldType)).before args0 about1 = true := code_word (m := ⟨7, 1⟩) (meth := k7m1) (c := k7c1) (by decide +kernel) rfl rfl rfl (by decide +kernel)
set_option maxRecDepth 65536 in
theorem w_c8 : (Jvm.Cond.code ({ cls := "java/lang/String", name := "<init>", desc := "([CIILjava/lang/Void;)V" } : Jvm.MethodName) jdk_42_method_149_code (6 : Nat) (Option.none : Option Jvm.ClassFile.FieldType)).before args0 about1 = true := code_word (m := ⟨7, 7⟩) (meth := k7m7) (c := k7c7) (by decide +kernel) rfl rfl rfl (by decide +kernel)
set_option maxRecDepth 65536 in
theorem w_c9 : (Jvm.Cond.code ({ cls := "java/lang/StringUTF16", name := "compress", desc := "([CII)[B" } : Jvm.MethodName) jdk_52_method_16_code (6 : Nat) (Option.some (Jvm.ClassFile.FieldType.array Jvm.ClassFile.FieldType.byte))).before args0 about1 = true := code_word (m := ⟨10, 2⟩) (meth := k10m2) (c := k10c2) (by decide +kernel) rfl rfl rfl (by decide +kernel)
set_option maxRecDepth 65536 in
theorem w_c10 : (Jvm.Cond.code ({ cls := "java/lang/StringUTF16", name := "compress", desc := "([CI[BII)I" } : Jvm.MethodName) jdk_52_method_21_code (7 : Nat) (Option.some Jvm.ClassFile.FieldType.int)).before args0 about1 = true := code_word (m := ⟨10, 3⟩) (meth := k10m3) (c := k10c3) (by decide +kernel) rfl rfl rfl (by decide +kernel)
set_option maxRecDepth 65536 in
theorem w_c11 : (Jvm.Cond.code ({ cls := "java/lang/StringUTF16", name := "coderFromArrayLen", desc := "([BI)B" } : Jvm.MethodName) jdk_52_method_15_code (2 : Nat) (Option.some Jvm.ClassFile.FieldType.byte)).before args0 about1 = true := code_word (m := ⟨10, 1⟩) (meth := k10m1) (c := k10c1) (by decide +kernel) rfl rfl rfl (by decide +kernel)
set_option maxRecDepth 65536 in
theorem w_c12 : (Jvm.Cond.code ({ cls := "com/example/typicalc/typicalc/Tokens", name := "<init>", desc := "(Ljava/lang/String;)V" } : Jvm.MethodName) prog_4_method_1_code (5 : Nat) (Option.none : Option Jvm.ClassFile.FieldType)).before args0 about1 = true := code_word (m := ⟨9, 0⟩) (meth := k9m0) (c := k9c0) (by decide +kernel) rfl rfl rfl (by decide +kernel)
set_option maxRecDepth 65536 in
theorem w_c13 : (Jvm.Cond.code ({ cls := "java/util/ArrayList", name := "<init>", desc := "()V" } : Jvm.MethodName) jdk_38_method_2_code (1 : Nat) (Option.none : Option Jvm.ClassFile.FieldType)).before args0 about1 = true := code_word (m := ⟨19, 0⟩) (meth := k19m0) (c := k19c0) (by decide +kernel) rfl rfl rfl (by decide +kernel)
set_option maxRecDepth 65536 in
theorem w_c14 : (Jvm.Cond.code ({ cls := "java/util/AbstractList", name := "<init>", desc := "()V" } : Jvm.MethodName) jdk_39_method_1_code (1 : Nat) (Option.none : Option Jvm.ClassFile.FieldType)).before args0 about1 = true := code_word (m := ⟨16, 0⟩) (meth := k16m0) (c := k16c0) (by decide +kernel) rfl rfl rfl (by decide +kernel)
set_option maxRecDepth 65536 in
theorem w_c15 : (Jvm.Cond.code ({ cls := "java/util/AbstractCollection", name := "<init>", desc := "()V" } : Jvm.MethodName) jdk_22_method_1_code (1 : Nat) (Option.none : Option Jvm.ClassFile.FieldType)).before args0 about1 = true := code_word (m := ⟨13, 0⟩) (meth := k13m0) (c := k13c0) (by decide +kernel) rfl rfl rfl (by decide +kernel)
set_option maxRecDepth 65536 in
theorem w_c16 : (Jvm.Cond.code ({ cls := "java/lang/StringBuilder", name := "<init>", desc := "()V" } : Jvm.MethodName) jdk_67_method_1_code (1 : Nat) (Option.none : Option Jvm.ClassFile.FieldType)).before args0 about1 = true := code_word (m := ⟨22, 0⟩) (meth := k22m0) (c := k22c0) (by decide +kernel) rfl rfl rfl (by decide +kernel)
set_option maxRecDepth 65536 in
theorem w_c17 : (Jvm.Cond.code ({ cls := "java/lang/AbstractStringBuilder", name := "<init>", desc := "(I)V" } : Jvm.MethodName) jdk_68_method_2_code (2 : Nat) (Option.none : Option Jvm.ClassFile.FieldType)).before args0 about1 = true := code_word (m := ⟨21, 1⟩) (meth := k21m1) (c := k21c1) (by decide +kernel) rfl rfl rfl (by decide +kernel)
set_option maxRecDepth 65536 in
theorem w_c18 : (Jvm.Cond.code ({ cls := "java/lang/String", name := "length", desc := "()I" } : Jvm.MethodName) jdk_42_method_54_code (1 : Nat) (Option.some Jvm.ClassFile.FieldType.int)).before args0 about1 = true := code_word (m := ⟨7, 3⟩) (meth := k7m3) (c := k7c3) (by decide +kernel) rfl rfl rfl (by decide +kernel)
set_option maxRecDepth 65536 in
theorem w_c19 : (Jvm.Cond.code ({ cls := "java/lang/String", name := "coder", desc := "()B" } : Jvm.MethodName) jdk_42_method_152_code (1 : Nat) (Option.some Jvm.ClassFile.FieldType.byte)).before args0 about1 = true := code_word (m := ⟨7, 10⟩) (meth := k7m10) (c := k7c10) (by decide +kernel) rfl rfl rfl (by decide +kernel)
set_option maxRecDepth 65536 in
theorem w_c20 : (Jvm.Cond.code ({ cls := "java/lang/String", name := "charAt", desc := "(I)C" } : Jvm.MethodName) jdk_42_method_56_code (2 : Nat) (Option.some Jvm.ClassFile.FieldType.char)).before args0 about1 = true := code_word (m := ⟨7, 4⟩) (meth := k7m4) (c := k7c4) (by decide +kernel) rfl rfl rfl (by decide +kernel)
set_option maxRecDepth 65536 in
theorem w_c21 : (Jvm.Cond.code ({ cls := "java/lang/String", name := "isLatin1", desc := "()Z" } : Jvm.MethodName) jdk_42_method_154_code (1 : Nat) (Option.some Jvm.ClassFile.FieldType.boolean)).before args0 about1 = true := code_word (m := ⟨7, 11⟩) (meth := k7m11) (c := k7c11) (by decide +kernel) rfl rfl rfl (by decide +kernel)
set_option maxRecDepth 65536 in
theorem w_c22 : (Jvm.Cond.code ({ cls := "java/lang/StringLatin1", name := "charAt", desc := "([BI)C" } : Jvm.MethodName) jdk_43_method_2_code (2 : Nat) (Option.some Jvm.ClassFile.FieldType.char)).before args0 about1 = true := code_word (m := ⟨8, 1⟩) (meth := k8m1) (c := k8c1) (by decide +kernel) rfl rfl rfl (by decide +kernel)
set_option maxRecDepth 65536 in
theorem w_c23 : (Jvm.Cond.code ({ cls := "java/lang/String", name := "checkIndex", desc := "(II)V" } : Jvm.MethodName) jdk_42_method_155_code (2 : Nat) (Option.none : Option Jvm.ClassFile.FieldType)).before args0 about1 = true := code_word (m := ⟨7, 12⟩) (meth := k7m12) (c := k7c12) (by decide +kernel) rfl rfl rfl (by decide +kernel)
set_option maxRecDepth 65536 in
theorem w_c24 : (Jvm.Cond.code ({ cls := "jdk/internal/util/Preconditions", name := "checkIndex", desc := "(IILjava/util/function/BiFunction;)I" } : Jvm.MethodName) jdk_41_method_11_code (3 : Nat) (Option.some Jvm.ClassFile.FieldType.int)).before args0 about1 = true := code_word (m := ⟨23, 1⟩) (meth := k23m1) (c := k23c1) (by decide +kernel) rfl rfl rfl (by decide +kernel)
set_option maxRecDepth 65536 in
theorem w_c25 : (Jvm.Cond.code ({ cls := "java/lang/StringBuilder", name := "append", desc := "(C)Ljava/lang/StringBuilder;" } : Jvm.MethodName) jdk_67_method_14_code (2 : Nat) (Option.some (Jvm.ClassFile.FieldType.object "java/lang/StringBuilder"))).before args0 about1 = true := code_word (m := ⟨22, 1⟩) (meth := k22m1) (c := k22c1) (by decide +kernel) rfl rfl rfl (by decide +kernel)
set_option maxRecDepth 65536 in
theorem w_c26 : (Jvm.Cond.code ({ cls := "java/lang/AbstractStringBuilder", name := "append", desc := "(C)Ljava/lang/AbstractStringBuilder;" } : Jvm.MethodName) jdk_68_method_31_code (2 : Nat) (Option.some (Jvm.ClassFile.FieldType.object "java/lang/AbstractStringBuilder"))).before args0 about1 = true := code_word (m := ⟨21, 5⟩) (meth := k21m5) (c := k21c5) (by decide +kernel) rfl rfl rfl (by decide +kernel)
set_option maxRecDepth 65536 in
theorem w_c27 : (Jvm.Cond.code ({ cls := "java/lang/AbstractStringBuilder", name := "ensureCapacityInternal", desc := "(I)V" } : Jvm.MethodName) jdk_68_method_9_code (3 : Nat) (Option.none : Option Jvm.ClassFile.FieldType)).before args0 about1 = true := code_word (m := ⟨21, 3⟩) (meth := k21m3) (c := k21c3) (by decide +kernel) rfl rfl rfl (by decide +kernel)
set_option maxRecDepth 65536 in
theorem w_c28 : (Jvm.Cond.code ({ cls := "java/lang/AbstractStringBuilder", name := "isLatin1", desc := "()Z" } : Jvm.MethodName) jdk_68_method_68_code (1 : Nat) (Option.some Jvm.ClassFile.FieldType.boolean)).before args0 about1 = true := code_word (m := ⟨21, 7⟩) (meth := k21m7) (c := k21c7) (by decide +kernel) rfl rfl rfl (by decide +kernel)
set_option maxRecDepth 65536 in
theorem w_c29 : (Jvm.Cond.code ({ cls := "com/example/typicalc/typicalc/Tokens", name := "add", desc := "(Ljava/lang/StringBuilder;)V" } : Jvm.MethodName) prog_4_method_2_code (2 : Nat) (Option.none : Option Jvm.ClassFile.FieldType)).before args0 about1 = true := code_word (m := ⟨9, 1⟩) (meth := k9m1) (c := k9c1) (by decide +kernel) rfl rfl rfl (by decide +kernel)
set_option maxRecDepth 65536 in
theorem w_c30 : (Jvm.Cond.code ({ cls := "java/lang/StringBuilder", name := "length", desc := "()I" } : Jvm.MethodName) jdk_67_method_93_code (1 : Nat) (Option.some Jvm.ClassFile.FieldType.int)).before args0 about1 = true := code_word (m := ⟨22, 4⟩) (meth := k22m4) (c := k22c4) (by decide +kernel) rfl rfl rfl (by decide +kernel)
set_option maxRecDepth 65536 in
theorem w_c31 : (Jvm.Cond.code ({ cls := "java/lang/AbstractStringBuilder", name := "length", desc := "()I" } : Jvm.MethodName) jdk_68_method_6_code (1 : Nat) (Option.some Jvm.ClassFile.FieldType.int)).before args0 about1 = true := code_word (m := ⟨21, 2⟩) (meth := k21m2) (c := k21c2) (by decide +kernel) rfl rfl rfl (by decide +kernel)
set_option maxRecDepth 65536 in
theorem w_c32 : (Jvm.Cond.code ({ cls := "java/lang/StringBuilder", name := "toString", desc := "()Ljava/lang/String;" } : Jvm.MethodName) jdk_67_method_42_code (1 : Nat) (Option.some (Jvm.ClassFile.FieldType.object "java/lang/String"))).before args0 about1 = true := code_word (m := ⟨22, 2⟩) (meth := k22m2) (c := k22c2) (by decide +kernel) rfl rfl rfl (by decide +kernel)
set_option maxRecDepth 65536 in
theorem w_c33 : (Jvm.Cond.code ({ cls := "java/lang/String", name := "<init>", desc := "(Ljava/lang/StringBuilder;)V" } : Jvm.MethodName) jdk_42_method_53_code (2 : Nat) (Option.none : Option Jvm.ClassFile.FieldType)).before args0 about1 = true := code_word (m := ⟨7, 2⟩) (meth := k7m2) (c := k7c2) (by decide +kernel) rfl rfl rfl (by decide +kernel)
set_option maxRecDepth 65536 in
theorem w_c34 : (Jvm.Cond.code ({ cls := "java/lang/String", name := "<init>", desc := "(Ljava/lang/AbstractStringBuilder;Ljava/lang/Void;)V" } : Jvm.MethodName) jdk_42_method_150_code (5 : Nat) (Option.none : Option Jvm.ClassFile.FieldType)).before args0 about1 = true := code_word (m := ⟨7, 8⟩) (meth := k7m8) (c := k7c8) (by decide +kernel) rfl rfl rfl (by decide +kernel)
set_option maxRecDepth 65536 in
theorem w_c35 : (Jvm.Cond.code ({ cls := "java/lang/AbstractStringBuilder", name := "getValue", desc := "()[B" } : Jvm.MethodName) jdk_68_method_64_code (1 : Nat) (Option.some (Jvm.ClassFile.FieldType.array Jvm.ClassFile.FieldType.byte))).before args0 about1 = true := code_word (m := ⟨21, 6⟩) (meth := k21m6) (c := k21c6) (by decide +kernel) rfl rfl rfl (by decide +kernel)
set_option maxRecDepth 65536 in
theorem w_c36 : (Jvm.Cond.code ({ cls := "java/util/Arrays", name := "copyOfRange", desc := "([BII)[B" } : Jvm.MethodName) jdk_65_method_132_code (3 : Nat) (Option.some (Jvm.ClassFile.FieldType.array Jvm.ClassFile.FieldType.byte))).before args0 about1 = true := code_word (m := ⟨24, 2⟩) (meth := k24m2) (c := k24c2) (by decide +kernel) rfl rfl rfl (by decide +kernel)
set_option maxRecDepth 65536 in
theorem w_c37 : (Jvm.Cond.code ({ cls := "java/util/Arrays", name := "copyOfRangeByte", desc := "([BII)[B" } : Jvm.MethodName) jdk_65_method_133_code (5 : Nat) (Option.some (Jvm.ClassFile.FieldType.array Jvm.ClassFile.FieldType.byte))).before args0 about1 = true := code_word (m := ⟨24, 3⟩) (meth := k24m3) (c := k24c3) (by decide +kernel) rfl rfl rfl (by decide +kernel)
set_option maxRecDepth 65536 in
theorem w_c38 : (Jvm.Cond.code ({ cls := "java/util/Arrays", name := "checkLength", desc := "(II)V" } : Jvm.MethodName) jdk_65_method_131_code (2 : Nat) (Option.none : Option Jvm.ClassFile.FieldType)).before args0 about1 = true := code_word (m := ⟨24, 1⟩) (meth := k24m1) (c := k24c1) (by decide +kernel) rfl rfl rfl (by decide +kernel)
set_option maxRecDepth 65536 in
theorem w_c39 : (Jvm.Cond.code ({ cls := "java/lang/Math", name := "min", desc := "(II)I" } : Jvm.MethodName) jdk_29_method_69_code (2 : Nat) (Option.some Jvm.ClassFile.FieldType.int)).before args0 about1 = true := code_word (m := ⟨25, 2⟩) (meth := k25m2) (c := k25c2) (by decide +kernel) rfl rfl rfl (by decide +kernel)
set_option maxRecDepth 65536 in
theorem w_c40 : (Jvm.Cond.code ({ cls := "java/util/ArrayList", name := "add", desc := "(Ljava/lang/Object;)Z" } : Jvm.MethodName) jdk_38_method_25_code (2 : Nat) (Option.some Jvm.ClassFile.FieldType.boolean)).before args0 about1 = true := code_word (m := ⟨19, 7⟩) (meth := k19m7) (c := k19c7) (by decide +kernel) rfl rfl rfl (by decide +kernel)
set_option maxRecDepth 65536 in
theorem w_c41 : (Jvm.Cond.code ({ cls := "java/util/ArrayList", name := "add", desc := "(Ljava/lang/Object;[Ljava/lang/Object;I)V" } : Jvm.MethodName) jdk_38_method_24_code (4 : Nat) (Option.none : Option Jvm.ClassFile.FieldType)).before args0 about1 = true := code_word (m := ⟨19, 6⟩) (meth := k19m6) (c := k19c6) (by decide +kernel) rfl rfl rfl (by decide +kernel)
set_option maxRecDepth 65536 in
theorem w_c42 : (Jvm.Cond.code ({ cls := "java/util/ArrayList", name := "grow", desc := "()[Ljava/lang/Object;" } : Jvm.MethodName) jdk_38_method_7_code (1 : Nat) (Option.some (Jvm.ClassFile.FieldType.array (Jvm.ClassFile.FieldType.object "java/lang/Object")))).before args0 about1 = true := code_word (m := ⟨19, 2⟩) (meth := k19m2) (c := k19c2) (by decide +kernel) rfl rfl rfl (by decide +kernel)
set_option maxRecDepth 65536 in
theorem w_c43 : (Jvm.Cond.code ({ cls := "java/util/ArrayList", name := "grow", desc := "(I)[Ljava/lang/Object;" } : Jvm.MethodName) jdk_38_method_6_code (4 : Nat) (Option.some (Jvm.ClassFile.FieldType.array (Jvm.ClassFile.FieldType.object "java/lang/Object")))).before args0 about1 = true := code_word (m := ⟨19, 1⟩) (meth := k19m1) (c := k19c1) (by decide +kernel) rfl rfl rfl (by decide +kernel)
set_option maxRecDepth 65536 in
theorem w_c44 : (Jvm.Cond.code ({ cls := "java/lang/Math", name := "max", desc := "(II)I" } : Jvm.MethodName) jdk_29_method_65_code (2 : Nat) (Option.some Jvm.ClassFile.FieldType.int)).before args0 about1 = true := code_word (m := ⟨25, 1⟩) (meth := k25m1) (c := k25c1) (by decide +kernel) rfl rfl rfl (by decide +kernel)
set_option maxRecDepth 65536 in
theorem w_c45 : (Jvm.Cond.code ({ cls := "java/lang/StringBuilder", name := "setLength", desc := "(I)V" } : Jvm.MethodName) jdk_67_method_89_code (2 : Nat) (Option.none : Option Jvm.ClassFile.FieldType)).before args0 about1 = true := code_word (m := ⟨22, 3⟩) (meth := k22m3) (c := k22c3) (by decide +kernel) rfl rfl rfl (by decide +kernel)
set_option maxRecDepth 65536 in
theorem w_c46 : (Jvm.Cond.code ({ cls := "java/lang/AbstractStringBuilder", name := "setLength", desc := "(I)V" } : Jvm.MethodName) jdk_68_method_13_code (2 : Nat) (Option.none : Option Jvm.ClassFile.FieldType)).before args0 about1 = true := code_word (m := ⟨21, 4⟩) (meth := k21m4) (c := k21c4) (by decide +kernel) rfl rfl rfl (by decide +kernel)
set_option maxRecDepth 65536 in
theorem w_c47 : (Jvm.Cond.code ({ cls := "com/example/typicalc/typicalc/Tokens", name := "peek", desc := "(I)Ljava/lang/String;" } : Jvm.MethodName) prog_4_method_6_code (3 : Nat) (Option.some (Jvm.ClassFile.FieldType.object "java/lang/String"))).before args0 about1 = true := code_word (m := ⟨9, 4⟩) (meth := k9m4) (c := k9c4) (by decide +kernel) rfl rfl rfl (by decide +kernel)
set_option maxRecDepth 65536 in
theorem w_c48 : (Jvm.Cond.code ({ cls := "java/util/ArrayList", name := "size", desc := "()I" } : Jvm.MethodName) jdk_38_method_8_code (1 : Nat) (Option.some Jvm.ClassFile.FieldType.int)).before args0 about1 = true := code_word (m := ⟨19, 3⟩) (meth := k19m3) (c := k19c3) (by decide +kernel) rfl rfl rfl (by decide +kernel)
set_option maxRecDepth 65536 in
theorem w_c49 : (Jvm.Cond.code ({ cls := "com/example/typicalc/typicalc/Tokens", name := "position", desc := "()I" } : Jvm.MethodName) prog_4_method_4_code (1 : Nat) (Option.some Jvm.ClassFile.FieldType.int)).before args0 about1 = true := code_word (m := ⟨9, 3⟩) (meth := k9m3) (c := k9c3) (by decide +kernel) rfl rfl rfl (by decide +kernel)
set_option maxRecDepth 65536 in
theorem w_c50 : (Jvm.Cond.code ({ cls := "java/util/ArrayList", name := "get", desc := "(I)Ljava/lang/Object;" } : Jvm.MethodName) jdk_38_method_20_code (2 : Nat) (Option.some (Jvm.ClassFile.FieldType.object "java/lang/Object"))).before args0 about1 = true := code_word (m := ⟨19, 5⟩) (meth := k19m5) (c := k19c5) (by decide +kernel) rfl rfl rfl (by decide +kernel)
set_option maxRecDepth 65536 in
theorem w_c51 : (Jvm.Cond.code ({ cls := "java/util/Objects", name := "checkIndex", desc := "(II)I" } : Jvm.MethodName) jdk_31_method_17_code (2 : Nat) (Option.some Jvm.ClassFile.FieldType.int)).before args0 about1 = true := code_word (m := ⟨27, 1⟩) (meth := k27m1) (c := k27c1) (by decide +kernel) rfl rfl rfl (by decide +kernel)
set_option maxRecDepth 65536 in
theorem w_c52 : (Jvm.Cond.code ({ cls := "java/util/ArrayList", name := "elementData", desc := "(I)Ljava/lang/Object;" } : Jvm.MethodName) jdk_38_method_18_code (2 : Nat) (Option.some (Jvm.ClassFile.FieldType.object "java/lang/Object"))).before args0 about1 = true := code_word (m := ⟨19, 4⟩) (meth := k19m4) (c := k19c4) (by decide +kernel) rfl rfl rfl (by decide +kernel)
set_option maxRecDepth 65536 in
theorem w_c53 : (Jvm.Cond.code ({ cls := "java/lang/String", name := "equals", desc := "(Ljava/lang/Object;)Z" } : Jvm.MethodName) jdk_42_method_66_code (3 : Nat) (Option.some Jvm.ClassFile.FieldType.boolean)).before args0 about1 = true := code_word (m := ⟨7, 5⟩) (meth := k7m5) (c := k7c5) (by decide +kernel) rfl rfl rfl (by decide +kernel)
set_option maxRecDepth 65536 in
theorem w_c54 : (Jvm.Cond.code ({ cls := "java/lang/StringLatin1", name := "equals", desc := "([B[B)Z" } : Jvm.MethodName) jdk_43_method_13_code (3 : Nat) (Option.some Jvm.ClassFile.FieldType.boolean)).before args0 about1 = true := code_word (m := ⟨8, 3⟩) (meth := k8m3) (c := k8c3) (by decide +kernel) rfl rfl rfl (by decide +kernel)
set_option maxRecDepth 65536 in
theorem w_c55 : (Jvm.Cond.code ({ cls := "com/example/typicalc/typicalc/Tokens", name := "atEnd", desc := "()Z" } : Jvm.MethodName) prog_4_method_3_code (1 : Nat) (Option.some Jvm.ClassFile.FieldType.boolean)).before args0 about1 = true := code_word (m := ⟨9, 2⟩) (meth := k9m2) (c := k9c2) (by decide +kernel) rfl rfl rfl (by decide +kernel)
set_option maxRecDepth 65536 in
theorem w_c56 : (Jvm.Cond.code ({ cls := "com/example/typicalc/typicalc/Tokens", name := "next", desc := "()Ljava/lang/String;" } : Jvm.MethodName) prog_4_method_7_code (1 : Nat) (Option.some (Jvm.ClassFile.FieldType.object "java/lang/String"))).before args0 about1 = true := code_word (m := ⟨9, 5⟩) (meth := k9m5) (c := k9c5) (by decide +kernel) rfl rfl rfl (by decide +kernel)
def codes1 : List Jvm.Cond := [Jvm.Cond.code x code maxLocals ret, Jvm.Cond.code ({ cls := "com/example/typicalc/typicalc/TokensPeekPinLaw", name := "blank", desc := "(C)Z" } : Jvm.MethodName) method_2_code (1 : Nat) (Option.some Jvm.ClassFile.FieldType.boolean), Jvm.Cond.code ({ cls := "java/lang/String", name := "valueOf", desc := "(C)Ljava/lang/String;" } : Jvm.MethodName) jdk_42_method_139_code (1 : Nat) (Option.some (Jvm.ClassFile.FieldType.object "java/lang/String")), Jvm.Cond.code ({ cls := "java/lang/StringLatin1", name := "canEncode", desc := "(C)Z" } : Jvm.MethodName) jdk_43_method_3_code (1 : Nat) (Option.some Jvm.ClassFile.FieldType.boolean), Jvm.Cond.code ({ cls := "java/lang/StringLatin1", name := "toBytes", desc := "(C)[B" } : Jvm.MethodName) jdk_43_method_46_code (1 : Nat) (Option.some (Jvm.ClassFile.FieldType.array Jvm.ClassFile.FieldType.byte)), Jvm.Cond.code ({ cls := "java/lang/String", name := "<init>", desc := "([BB)V" } : Jvm.MethodName) jdk_42_method_151_code (3 : Nat) (Option.none : Option Jvm.ClassFile.FieldType), Jvm.Cond.code ({ cls := "java/lang/Object", name := "<init>", desc := "()V" } : Jvm.MethodName) object_method_1_code (1 : Nat) (Option.none : Option Jvm.ClassFile.FieldType), Jvm.Cond.code ({ cls := "java/lang/String", name := "<init>", desc := "([C)V" } : Jvm.MethodName) jdk_42_method_3_code (2 : Nat) (Option.none : Option Jvm.ClassFile.FieldType), Jvm.Cond.code ({ cls := "java/lang/String", name := "<init>", desc := "([CIILjava/lang/Void;)V" } : Jvm.MethodName) jdk_42_method_149_code (6 : Nat) (Option.none : Option Jvm.ClassFile.FieldType), Jvm.Cond.code ({ cls := "java/lang/StringUTF16", name := "compress", desc := "([CII)[B" } : Jvm.MethodName) jdk_52_method_16_code (6 : Nat) (Option.some (Jvm.ClassFile.FieldType.array Jvm.ClassFile.FieldType.byte)), Jvm.Cond.code ({ cls := "java/lang/StringUTF16", name := "compress", desc := "([CI[BII)I" } : Jvm.MethodName) jdk_52_method_21_code (7 : Nat) (Option.some Jvm.ClassFile.FieldType.int), Jvm.Cond.code ({ cls := "java/lang/StringUTF16", name := "coderFromArrayLen", desc := "([BI)B" } : Jvm.MethodName) jdk_52_method_15_code (2 : Nat) (Option.some Jvm.ClassFile.FieldType.byte), Jvm.Cond.code ({ cls := "com/example/typicalc/typicalc/Tokens", name := "<init>", desc := "(Ljava/lang/String;)V" } : Jvm.MethodName) prog_4_method_1_code (5 : Nat) (Option.none : Option Jvm.ClassFile.FieldType), Jvm.Cond.code ({ cls := "java/util/ArrayList", name := "<init>", desc := "()V" } : Jvm.MethodName) jdk_38_method_2_code (1 : Nat) (Option.none : Option Jvm.ClassFile.FieldType), Jvm.Cond.code ({ cls := "java/util/AbstractList", name := "<init>", desc := "()V" } : Jvm.MethodName) jdk_39_method_1_code (1 : Nat) (Option.none : Option Jvm.ClassFile.FieldType), Jvm.Cond.code ({ cls := "java/util/AbstractCollection", name := "<init>", desc := "()V" } : Jvm.MethodName) jdk_22_method_1_code (1 : Nat) (Option.none : Option Jvm.ClassFile.FieldType), Jvm.Cond.code ({ cls := "java/lang/StringBuilder", name := "<init>", desc := "()V" } : Jvm.MethodName) jdk_67_method_1_code (1 : Nat) (Option.none : Option Jvm.ClassFile.FieldType), Jvm.Cond.code ({ cls := "java/lang/AbstractStringBuilder", name := "<init>", desc := "(I)V" } : Jvm.MethodName) jdk_68_method_2_code (2 : Nat) (Option.none : Option Jvm.ClassFile.FieldType), Jvm.Cond.code ({ cls := "java/lang/String", name := "length", desc := "()I" } : Jvm.MethodName) jdk_42_method_54_code (1 : Nat) (Option.some Jvm.ClassFile.FieldType.int), Jvm.Cond.code ({ cls := "java/lang/String", name := "coder", desc := "()B" } : Jvm.MethodName) jdk_42_method_152_code (1 : Nat) (Option.some Jvm.ClassFile.FieldType.byte), Jvm.Cond.code ({ cls := "java/lang/String", name := "charAt", desc := "(I)C" } : Jvm.MethodName) jdk_42_method_56_code (2 : Nat) (Option.some Jvm.ClassFile.FieldType.char), Jvm.Cond.code ({ cls := "java/lang/String", name := "isLatin1", desc := "()Z" } : Jvm.MethodName) jdk_42_method_154_code (1 : Nat) (Option.some Jvm.ClassFile.FieldType.boolean), Jvm.Cond.code ({ cls := "java/lang/StringLatin1", name := "charAt", desc := "([BI)C" } : Jvm.MethodName) jdk_43_method_2_code (2 : Nat) (Option.some Jvm.ClassFile.FieldType.char), Jvm.Cond.code ({ cls := "java/lang/String", name := "checkIndex", desc := "(II)V" } : Jvm.MethodName) jdk_42_method_155_code (2 : Nat) (Option.none : Option Jvm.ClassFile.FieldType), Jvm.Cond.code ({ cls := "jdk/internal/util/Preconditions", name := "checkIndex", desc := "(IILjava/util/function/BiFunction;)I" } : Jvm.MethodName) jdk_41_method_11_code (3 : Nat) (Option.some Jvm.ClassFile.FieldType.int), Jvm.Cond.code ({ cls := "java/lang/StringBuilder", name := "append", desc := "(C)Ljava/lang/StringBuilder;" } : Jvm.MethodName) jdk_67_method_14_code (2 : Nat) (Option.some (Jvm.ClassFile.FieldType.object "java/lang/StringBuilder")), Jvm.Cond.code ({ cls := "java/lang/AbstractStringBuilder", name := "append", desc := "(C)Ljava/lang/AbstractStringBuilder;" } : Jvm.MethodName) jdk_68_method_31_code (2 : Nat) (Option.some (Jvm.ClassFile.FieldType.object "java/lang/AbstractStringBuilder")), Jvm.Cond.code ({ cls := "java/lang/AbstractStringBuilder", name := "ensureCapacityInternal", desc := "(I)V" } : Jvm.MethodName) jdk_68_method_9_code (3 : Nat) (Option.none : Option Jvm.ClassFile.FieldType), Jvm.Cond.code ({ cls := "java/lang/AbstractStringBuilder", name := "isLatin1", desc := "()Z" } : Jvm.MethodName) jdk_68_method_68_code (1 : Nat) (Option.some Jvm.ClassFile.FieldType.boolean), Jvm.Cond.code ({ cls := "com/example/typicalc/typicalc/Tokens", name := "add", desc := "(Ljava/lang/StringBuilder;)V" } : Jvm.MethodName) prog_4_method_2_code (2 : Nat) (Option.none : Option Jvm.ClassFile.FieldType), Jvm.Cond.code ({ cls := "java/lang/StringBuilder", name := "length", desc := "()I" } : Jvm.MethodName) jdk_67_method_93_code (1 : Nat) (Option.some Jvm.ClassFile.FieldType.int), Jvm.Cond.code ({ cls := "java/lang/AbstractStringBuilder", name := "length", desc := "()I" } : Jvm.MethodName) jdk_68_method_6_code (1 : Nat) (Option.some Jvm.ClassFile.FieldType.int), Jvm.Cond.code ({ cls := "java/lang/StringBuilder", name := "toString", desc := "()Ljava/lang/String;" } : Jvm.MethodName) jdk_67_method_42_code (1 : Nat) (Option.some (Jvm.ClassFile.FieldType.object "java/lang/String")), Jvm.Cond.code ({ cls := "java/lang/String", name := "<init>", desc := "(Ljava/lang/StringBuilder;)V" } : Jvm.MethodName) jdk_42_method_53_code (2 : Nat) (Option.none : Option Jvm.ClassFile.FieldType), Jvm.Cond.code ({ cls := "java/lang/String", name := "<init>", desc := "(Ljava/lang/AbstractStringBuilder;Ljava/lang/Void;)V" } : Jvm.MethodName) jdk_42_method_150_code (5 : Nat) (Option.none : Option Jvm.ClassFile.FieldType), Jvm.Cond.code ({ cls := "java/lang/AbstractStringBuilder", name := "getValue", desc := "()[B" } : Jvm.MethodName) jdk_68_method_64_code (1 : Nat) (Option.some (Jvm.ClassFile.FieldType.array Jvm.ClassFile.FieldType.byte)), Jvm.Cond.code ({ cls := "java/util/Arrays", name := "copyOfRange", desc := "([BII)[B" } : Jvm.MethodName) jdk_65_method_132_code (3 : Nat) (Option.some (Jvm.ClassFile.FieldType.array Jvm.ClassFile.FieldType.byte)), Jvm.Cond.code ({ cls := "java/util/Arrays", name := "copyOfRangeByte", desc := "([BII)[B" } : Jvm.MethodName) jdk_65_method_133_code (5 : Nat) (Option.some (Jvm.ClassFile.FieldType.array Jvm.ClassFile.FieldType.byte)), Jvm.Cond.code ({ cls := "java/util/Arrays", name := "checkLength", desc := "(II)V" } : Jvm.MethodName) jdk_65_method_131_code (2 : Nat) (Option.none : Option Jvm.ClassFile.FieldType), Jvm.Cond.code ({ cls := "java/lang/Math", name := "min", desc := "(II)I" } : Jvm.MethodName) jdk_29_method_69_code (2 : Nat) (Option.some Jvm.ClassFile.FieldType.int), Jvm.Cond.code ({ cls := "java/util/ArrayList", name := "add", desc := "(Ljava/lang/Object;)Z" } : Jvm.MethodName) jdk_38_method_25_code (2 : Nat) (Option.some Jvm.ClassFile.FieldType.boolean), Jvm.Cond.code ({ cls := "java/util/ArrayList", name := "add", desc := "(Ljava/lang/Object;[Ljava/lang/Object;I)V" } : Jvm.MethodName) jdk_38_method_24_code (4 : Nat) (Option.none : Option Jvm.ClassFile.FieldType), Jvm.Cond.code ({ cls := "java/util/ArrayList", name := "grow", desc := "()[Ljava/lang/Object;" } : Jvm.MethodName) jdk_38_method_7_code (1 : Nat) (Option.some (Jvm.ClassFile.FieldType.array (Jvm.ClassFile.FieldType.object "java/lang/Object"))), Jvm.Cond.code ({ cls := "java/util/ArrayList", name := "grow", desc := "(I)[Ljava/lang/Object;" } : Jvm.MethodName) jdk_38_method_6_code (4 : Nat) (Option.some (Jvm.ClassFile.FieldType.array (Jvm.ClassFile.FieldType.object "java/lang/Object"))), Jvm.Cond.code ({ cls := "java/lang/Math", name := "max", desc := "(II)I" } : Jvm.MethodName) jdk_29_method_65_code (2 : Nat) (Option.some Jvm.ClassFile.FieldType.int), Jvm.Cond.code ({ cls := "java/lang/StringBuilder", name := "setLength", desc := "(I)V" } : Jvm.MethodName) jdk_67_method_89_code (2 : Nat) (Option.none : Option Jvm.ClassFile.FieldType), Jvm.Cond.code ({ cls := "java/lang/AbstractStringBuilder", name := "setLength", desc := "(I)V" } : Jvm.MethodName) jdk_68_method_13_code (2 : Nat) (Option.none : Option Jvm.ClassFile.FieldType), Jvm.Cond.code ({ cls := "com/example/typicalc/typicalc/Tokens", name := "peek", desc := "(I)Ljava/lang/String;" } : Jvm.MethodName) prog_4_method_6_code (3 : Nat) (Option.some (Jvm.ClassFile.FieldType.object "java/lang/String")), Jvm.Cond.code ({ cls := "java/util/ArrayList", name := "size", desc := "()I" } : Jvm.MethodName) jdk_38_method_8_code (1 : Nat) (Option.some Jvm.ClassFile.FieldType.int), Jvm.Cond.code ({ cls := "com/example/typicalc/typicalc/Tokens", name := "position", desc := "()I" } : Jvm.MethodName) prog_4_method_4_code (1 : Nat) (Option.some Jvm.ClassFile.FieldType.int), Jvm.Cond.code ({ cls := "java/util/ArrayList", name := "get", desc := "(I)Ljava/lang/Object;" } : Jvm.MethodName) jdk_38_method_20_code (2 : Nat) (Option.some (Jvm.ClassFile.FieldType.object "java/lang/Object")), Jvm.Cond.code ({ cls := "java/util/Objects", name := "checkIndex", desc := "(II)I" } : Jvm.MethodName) jdk_31_method_17_code (2 : Nat) (Option.some Jvm.ClassFile.FieldType.int), Jvm.Cond.code ({ cls := "java/util/ArrayList", name := "elementData", desc := "(I)Ljava/lang/Object;" } : Jvm.MethodName) jdk_38_method_18_code (2 : Nat) (Option.some (Jvm.ClassFile.FieldType.object "java/lang/Object")), Jvm.Cond.code ({ cls := "java/lang/String", name := "equals", desc := "(Ljava/lang/Object;)Z" } : Jvm.MethodName) jdk_42_method_66_code (3 : Nat) (Option.some Jvm.ClassFile.FieldType.boolean), Jvm.Cond.code ({ cls := "java/lang/StringLatin1", name := "equals", desc := "([B[B)Z" } : Jvm.MethodName) jdk_43_method_13_code (3 : Nat) (Option.some Jvm.ClassFile.FieldType.boolean), Jvm.Cond.code ({ cls := "com/example/typicalc/typicalc/Tokens", name := "atEnd", desc := "()Z" } : Jvm.MethodName) prog_4_method_3_code (1 : Nat) (Option.some Jvm.ClassFile.FieldType.boolean), Jvm.Cond.code ({ cls := "com/example/typicalc/typicalc/Tokens", name := "next", desc := "()Ljava/lang/String;" } : Jvm.MethodName) prog_4_method_7_code (1 : Nat) (Option.some (Jvm.ClassFile.FieldType.object "java/lang/String"))]
set_option maxRecDepth 65536 in
theorem codes_eq : words1.filter isCode = codes1 := rfl
theorem w_codes : ∀ c ∈ words1.filter isCode, c.before args0 about1 = true := by
  rw [codes_eq]
  intro c hc
  simp only [codes1, List.mem_cons, List.not_mem_nil, or_false] at hc
  rcases hc with rfl | rfl | rfl | rfl | rfl | rfl | rfl | rfl | rfl | rfl | rfl | rfl | rfl | rfl | rfl | rfl | rfl | rfl | rfl | rfl | rfl | rfl | rfl | rfl | rfl | rfl | rfl | rfl | rfl | rfl | rfl | rfl | rfl | rfl | rfl | rfl | rfl | rfl | rfl | rfl | rfl | rfl | rfl | rfl | rfl | rfl | rfl | rfl | rfl | rfl | rfl | rfl | rfl | rfl | rfl | rfl | rfl
  · exact w_c0
  · exact w_c1
  · exact w_c2
  · exact w_c3
  · exact w_c4
  · exact w_c5
  · exact w_c6
  · exact w_c7
  · exact w_c8
  · exact w_c9
  · exact w_c10
  · exact w_c11
  · exact w_c12
  · exact w_c13
  · exact w_c14
  · exact w_c15
  · exact w_c16
  · exact w_c17
  · exact w_c18
  · exact w_c19
  · exact w_c20
  · exact w_c21
  · exact w_c22
  · exact w_c23
  · exact w_c24
  · exact w_c25
  · exact w_c26
  · exact w_c27
  · exact w_c28
  · exact w_c29
  · exact w_c30
  · exact w_c31
  · exact w_c32
  · exact w_c33
  · exact w_c34
  · exact w_c35
  · exact w_c36
  · exact w_c37
  · exact w_c38
  · exact w_c39
  · exact w_c40
  · exact w_c41
  · exact w_c42
  · exact w_c43
  · exact w_c44
  · exact w_c45
  · exact w_c46
  · exact w_c47
  · exact w_c48
  · exact w_c49
  · exact w_c50
  · exact w_c51
  · exact w_c52
  · exact w_c53
  · exact w_c54
  · exact w_c55
  · exact w_c56
set_option maxRecDepth 65536 in
theorem w_t1 : (words1.take 24).all (fun c => isCode c || c.before args0 about1) = true := by decide +kernel
set_option maxRecDepth 65536 in
theorem w_t2 : ((words1.drop 24).take 24).all (fun c => isCode c || c.before args0 about1) = true := by decide +kernel
set_option maxRecDepth 65536 in
theorem w_t3 : (((words1.drop 24).drop 24).take 24).all (fun c => isCode c || c.before args0 about1) = true := by decide +kernel
set_option maxRecDepth 65536 in
theorem w_t4 : ((((words1.drop 24).drop 24).drop 24).take 24).all (fun c => isCode c || c.before args0 about1) = true := by decide +kernel
set_option maxRecDepth 65536 in
theorem w_t5 : (((((words1.drop 24).drop 24).drop 24).drop 24).take 24).all (fun c => isCode c || c.before args0 about1) = true := by decide +kernel
set_option maxRecDepth 65536 in
theorem w_t6 : ((((((words1.drop 24).drop 24).drop 24).drop 24).drop 24).take 24).all (fun c => isCode c || c.before args0 about1) = true := by decide +kernel
set_option maxRecDepth 65536 in
theorem w_t7 : (((((((words1.drop 24).drop 24).drop 24).drop 24).drop 24).drop 24).take 24).all (fun c => isCode c || c.before args0 about1) = true := by decide +kernel
set_option maxRecDepth 65536 in
theorem w_t8 : ((((((((words1.drop 24).drop 24).drop 24).drop 24).drop 24).drop 24).drop 24).take 24).all (fun c => isCode c || c.before args0 about1) = true := by decide +kernel
set_option maxRecDepth 65536 in
theorem w_t9 : (((((((((words1.drop 24).drop 24).drop 24).drop 24).drop 24).drop 24).drop 24).drop 24).take 24).all (fun c => isCode c || c.before args0 about1) = true := by decide +kernel
set_option maxRecDepth 65536 in
theorem w_t10 : ((((((((((words1.drop 24).drop 24).drop 24).drop 24).drop 24).drop 24).drop 24).drop 24).drop 24).take 24).all (fun c => isCode c || c.before args0 about1) = true := by decide +kernel
set_option maxRecDepth 65536 in
theorem w_t11 : (((((((((((words1.drop 24).drop 24).drop 24).drop 24).drop 24).drop 24).drop 24).drop 24).drop 24).drop 24).take 24).all (fun c => isCode c || c.before args0 about1) = true := by decide +kernel
set_option maxRecDepth 65536 in
theorem w_t12 : ((((((((((((words1.drop 24).drop 24).drop 24).drop 24).drop 24).drop 24).drop 24).drop 24).drop 24).drop 24).drop 24).take 24).all (fun c => isCode c || c.before args0 about1) = true := by decide +kernel
set_option maxRecDepth 65536 in
theorem w_t13 : ((((((((((((words1.drop 24).drop 24).drop 24).drop 24).drop 24).drop 24).drop 24).drop 24).drop 24).drop 24).drop 24).drop 24).all (fun c => isCode c || c.before args0 about1) = true := by decide +kernel
theorem w_tables : (allAtoms (Jvm.Cond.code x code maxLocals ret :: tables_1)).before args0 about1 = true := by
  rw [allAtoms_all]
  show words1.all (fun c => c.before args0 about1) = true
  refine all_split ?_ w_codes
  rw [← List.take_append_drop 24 words1, List.all_append, w_t1, ← List.take_append_drop 24 (words1.drop 24), List.all_append, w_t2, ← List.take_append_drop 24 ((words1.drop 24).drop 24), List.all_append, w_t3, ← List.take_append_drop 24 (((words1.drop 24).drop 24).drop 24), List.all_append, w_t4, ← List.take_append_drop 24 ((((words1.drop 24).drop 24).drop 24).drop 24), List.all_append, w_t5, ← List.take_append_drop 24 (((((words1.drop 24).drop 24).drop 24).drop 24).drop 24), List.all_append, w_t6, ← List.take_append_drop 24 ((((((words1.drop 24).drop 24).drop 24).drop 24).drop 24).drop 24), List.all_append, w_t7, ← List.take_append_drop 24 (((((((words1.drop 24).drop 24).drop 24).drop 24).drop 24).drop 24).drop 24), List.all_append, w_t8, ← List.take_append_drop 24 ((((((((words1.drop 24).drop 24).drop 24).drop 24).drop 24).drop 24).drop 24).drop 24), List.all_append, w_t9, ← List.take_append_drop 24 (((((((((words1.drop 24).drop 24).drop 24).drop 24).drop 24).drop 24).drop 24).drop 24).drop 24), List.all_append, w_t10, ← List.take_append_drop 24 ((((((((((words1.drop 24).drop 24).drop 24).drop 24).drop 24).drop 24).drop 24).drop 24).drop 24).drop 24), List.all_append, w_t11, ← List.take_append_drop 24 (((((((((((words1.drop 24).drop 24).drop 24).drop 24).drop 24).drop 24).drop 24).drop 24).drop 24).drop 24).drop 24), List.all_append, w_t12, w_t13]
  rfl
set_option maxRecDepth 65536 in
theorem w_rest : rest_1_c.before args0 about1 = true := by decide +kernel
set_option maxRecDepth 65536 in
theorem w_case : (Jvm.Cond.and given_1 narrow_1).before args0 about1 = true := by decide +kernel
theorem w_applies : (headSpec (Jvm.Cond.code x code maxLocals ret :: tables_1) room_1).applies x e0.platform about1 = true :=
  (Spec.applies_iff w_frames).mpr ⟨w_running, w_runnable, w_alone, w_named, w_hears, w_ripe, w_room, w_tables⟩
theorem atStart : AtStart classFile x code maxLocals ret World_1 tables_1 room_1 Calls_1 rest_1 Pre_1 launch0 p0 e0 about1 theMethod args0 below0 :=
  ⟨lists_1, trivial, launch0.admits_env _ _ _, launch0.least_env, fairChoices_fair.cas, fairChoices_fair.clock, w_frames, w_args, w_heap, w_applies, trivial, w_rest, w_case⟩
end start1
theorem witness_1 : WitnessClaimed_1 := ⟨start1.p0, start1.e0, start1.about1, start1.theMethod, start1.args0, start1.below0, start1.atStart⟩
end Jvm.Pilot.@@N@@
