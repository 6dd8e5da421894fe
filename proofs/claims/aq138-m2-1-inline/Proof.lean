import JvmDerived
import JvmDerived.Pilot.@@N@@Statement
import JvmDerived.Pilot.@@N@@Code
set_option linter.unusedVariables false
set_option linter.unusedSimpArgs false
/- laws to paste: Road.backV, lo8_mask, shr0 (cut by pick.py; bodies as the Statement names them) -/
namespace Jvm.Pilot.@@N@@
namespace StrChars
open Jvm Sem ClassFile Op Lib Jvm.Stand Jvm.Free.XT Jvm.Free.ALB Jvm.Free.JM Jvm.Free
open Jvm.Lib.Cold (StaticIs)
/-- a char array whose places are chars -/
def Ch (a : Addr) (A : Cell) (U : State) : Prop := Arr .char a A U ∧ Typed .char A
theorem Ch.mv {a : Addr} {A : Cell} {U U' : State} (h : Ch a A U) (hal : U.vm.Alike U'.vm) (hh : U'.heap = U.heap) : Ch a A U' := ⟨h.1.mv hal hh, h.2⟩
theorem Ch.keep {a : Addr} {A : Cell} {U U' : State} (h : Ch a A U) (hal : U.vm.Alike U'.vm) (hk : U'.heap[a]? = some A) : Ch a A U' := ⟨h.1.keep hal hk, h.2⟩
/-- what place i of a char[]'s cell holds -/
def cv (A : Cell) (i : Nat) : Int32 := match A.slots[i]? with | some (.int x) => x | _ => 0
theorem Ch.get {a : Addr} {A : Cell} {U : State} (h : Ch a A U) {i : Nat} (hi : i < A.slots.size) : A.slots[i]? = some (.int (cv A i)) := by
  have e := Array.getElem?_eq_getElem hi
  have f := h.2 i _ e
  unfold cv; rw [e]
  generalize A.slots[i] = v at f
  cases v <;> simp [fits] at f ⊢
/-- the byte that i2b leaves of a char -/
def lo8 (x : Int32) : Int32 := x.toInt8.toInt32
theorem fits_lo8 (y : Int32) : fits .byte (.int (lo8 y)) = true := by
  have h1 := y.toInt8.le_toInt
  have h2 := y.toInt8.toInt_lt
  simp only [lo8, fits, Bool.and_eq_true, decide_eq_true_eq, Int32.le_iff_toInt_le, Int8.toInt_toInt32, show (-128 : Int32).toInt = -128 from by decide, show (127 : Int32).toInt = 127 from by decide]
  omega
/-- A' is A but that each place j of lo .. hi - 1 holds f j -/
def Laid (A A' : Cell) (lo hi : Nat) (f : Nat → Value) : Prop := A'.cls = A.cls ∧ A'.vm = A.vm ∧ A'.slots.size = A.slots.size ∧ ∀ i, A'.slots[i]? = if lo ≤ i ∧ i < hi then some (f i) else A.slots[i]?
theorem Laid.zero (A : Cell) (lo : Nat) (f : Nat → Value) : Laid A A lo (lo + 0) f := ⟨rfl, rfl, rfl, fun i => by rw [if_neg (by omega)]⟩
theorem Laid.step {A Ak : Cell} {lo k : Nat} {f : Nat → Value} {v : Value} (h : Laid A Ak lo k f) (hlo : lo ≤ k) (hk : k < Ak.slots.size) (hv : v = f k) : Laid A (Ak.setSlot k v) lo (k + 1) f := by
  refine ⟨h.1, h.2.1, by simpa [Cell.setSlot] using h.2.2.1, fun i => ?_⟩
  by_cases e : k = i
  · subst e; rw [Cell.slots_setSlot_self v hk, if_pos (by omega), hv]
  · rw [Cell.slots_setSlot_ne v e, h.2.2.2 i]
    by_cases q : lo ≤ i ∧ i < k
    · rw [if_pos q, if_pos (by omega)]
    · rw [if_neg q, if_neg (by omega)]
def U16 : String := "java/lang/StringUTF16"
namespace Cmp5
def yN : MethodName := ⟨"java/lang/StringUTF16", "compress", "([CI[BII)I"⟩
abbrev yB : ByteArray := jdk_52_method_21_code
theorem d0 : decode yB 0 = .ok (.iconst 0, 1) := by decide +kernel
theorem d1 : decode yB 1 = .ok (.istore 5, 2) := by decide +kernel
theorem d3 : decode yB 3 = .ok (.iload 5, 2) := by decide +kernel
theorem d5 : decode yB 5 = .ok (.iload 4, 2) := by decide +kernel
theorem d7 : decode yB 7 = .ok (.if_icmp (.ge) 37, 3) := by decide +kernel
theorem d10 : decode yB 10 = .ok (.aload_n 0, 1) := by decide +kernel
theorem d11 : decode yB 11 = .ok (.iload_n 1, 1) := by decide +kernel
theorem d12 : decode yB 12 = .ok (.caload, 1) := by decide +kernel
theorem d13 : decode yB 13 = .ok (.istore 6, 2) := by decide +kernel
theorem d15 : decode yB 15 = .ok (.iload 6, 2) := by decide +kernel
theorem d17 : decode yB 17 = .ok (.sipush 255, 3) := by decide +kernel
theorem d20 : decode yB 20 = .ok (.if_icmp (.le) 6, 3) := by decide +kernel
theorem d26 : decode yB 26 = .ok (.aload_n 2, 1) := by decide +kernel
theorem d27 : decode yB 27 = .ok (.iload_n 3, 1) := by decide +kernel
theorem d28 : decode yB 28 = .ok (.iload 6, 2) := by decide +kernel
theorem d30 : decode yB 30 = .ok (.i2b, 1) := by decide +kernel
theorem d31 : decode yB 31 = .ok (.bastore, 1) := by decide +kernel
theorem d32 : decode yB 32 = .ok (.iinc 1 1, 3) := by decide +kernel
theorem d35 : decode yB 35 = .ok (.iinc 3 1, 3) := by decide +kernel
theorem d38 : decode yB 38 = .ok (.iinc 5 1, 3) := by decide +kernel
theorem d41 : decode yB 41 = .ok (.goto (-38), 3) := by decide +kernel
theorem d44 : decode yB 44 = .ok (.iload 4, 2) := by decide +kernel
theorem d46 : decode yB 46 = .ok (.ireturn, 1) := by decide +kernel
def site : List Cond := []
def tab : Cond := tabOf yN yB 7 (some .int) site
def P (b : Addr) (A : Cell) (d : Addr) (B : Cell) (o q len : Nat) (args : Array Value) (s : State) : Prop := args = #[.ref b, .int (Int32.ofNat o), .ref d, .int (Int32.ofNat q), .int (Int32.ofNat len)] ∧ Ch b A s ∧ Arr .byte d B s ∧ b ≠ d ∧ o + len ≤ A.slots.size ∧ q + len ≤ B.slots.size ∧ ∀ i, i < len → ¬ 255 < cv A (o + i)
def E (b : Addr) (A : Cell) (d : Addr) (B : Cell) (o q len : Nat) (r : Option Value) (s u : State) : Prop := r = some (.int (Int32.ofNat len)) ∧ ∃ B', Put d B' s u ∧ Laid B B' q (q + len) (fun j => Value.int (lo8 (cv A (o + (j - q)))))
/-- no char of the range above 255: len; the places written hold each char's low byte -/
theorem law (l : Launch) (b : Addr) (A : Cell) (d : Addr) (B : Cell) (o q len : Nat) : Law l yN 5 5 0 0 yB 7 (some .int) site (P b A d B o q len) (E b A d B o q len) (copyLocs d q len) 0 0 := by
  refine Law.of_walk (plainFor_of_name (by decide +kernel)) (by decide +kernel) (by decide +kernel) (by decide) (fun _ _ h => by rw [h.1]; rfl) (fun _ U U' hal hh h => ⟨h.1, h.2.1.mv hal hh, h.2.2.1.mv hal hh, h.2.2.2⟩) (fun r U U' V V' h1 hal h2 h => ⟨h.1, h.2.elim fun B' q => ⟨B', q.1.mv h1 h2, q.2⟩⟩) ?_
  intro p e s m args below meth c s₁ X0 hexec hbytes hml hret hlk hnm hown hh0 W hP
  obtain ⟨rfl, hA, hB, hne, l1, l2, hp⟩ := hP
  have c1 : Steps p.tables e below (s₁.setTop (entryFrame m #[.ref b, .int (Int32.ofNat o), .ref d, .int (Int32.ofNat q), .int (Int32.ofNat len)] 7)) (s₁.setTop (mkF m 0 #[.val (.ref b), .val (.int (Int32.ofNat o)), .val (.ref d), .val (.int (Int32.ofNat q)), .val (.int (Int32.ofNat len)), .unset, .unset] [])) := entry rfl
  have hA0 := hA.1.mv X0.warmed.alike hh0
  have hB0 := hB.mv X0.warmed.alike hh0
  have a31 := hA.1.2.2.2
  have c2 : Steps p.tables e below (s₁.setTop (entryFrame m #[.ref b, .int (Int32.ofNat o), .ref d, .int (Int32.ofNat q), .int (Int32.ofNat len)] 7)) (s₁.setTop (mkF m 3 #[.val (.ref b), .val (.int (Int32.ofNat o)), .val (.ref d), .val (.int (Int32.ofNat q)), .val (.int (Int32.ofNat len)), .val (.int 0), .unset] [])) := c1.trans (by
    refine iconstV X0.here hexec rfl 0 (hb hbytes d0) (by decide) ?_
    refine XS.istore X0.here hexec rfl (hb hbytes d1) rfl rfl ?_
    exact Steps.refl _)
  have loop : ∀ (r i : Nat), i + r = len → ∀ (z : Slot), (z = .unset ∨ ∃ w, z = .val w ∧ w.category = 1) → ∀ (Tl : State) (Bk : Cell), Stand p l e { frames := 0, locals := 0, cells := 0, slots := 0 } s m #[.ref b, .int (Int32.ofNat o), .ref d, .int (Int32.ofNat q), .int (Int32.ofNat len)] below meth c Tl ([] ++ copyLocs d q i) 0 0 → Put d Bk s₁ Tl → Laid B Bk q (q + i) (fun j => Value.int (lo8 (cv A (o + (j - q))))) →
      Steps p.tables e below (s₁.setTop (entryFrame m #[.ref b, .int (Int32.ofNat o), .ref d, .int (Int32.ofNat q), .int (Int32.ofNat len)] 7)) (Tl.setTop (mkF m 3 #[.val (.ref b), .val (.int (Int32.ofNat (o + i))), .val (.ref d), .val (.int (Int32.ofNat (q + i))), .val (.int (Int32.ofNat len)), .val (.int (Int32.ofNat i)), z] [])) → ∃ (T' : State) (B' : Cell) (z' : Slot), Stand p l e { frames := 0, locals := 0, cells := 0, slots := 0 } s m #[.ref b, .int (Int32.ofNat o), .ref d, .int (Int32.ofNat q), .int (Int32.ofNat len)] below meth c T' ([] ++ copyLocs d q len) 0 0 ∧ Put d B' s₁ T' ∧ Laid B B' q (q + len) (fun j => Value.int (lo8 (cv A (o + (j - q))))) ∧
      Steps p.tables e below (s₁.setTop (entryFrame m #[.ref b, .int (Int32.ofNat o), .ref d, .int (Int32.ofNat q), .int (Int32.ofNat len)] 7)) (T'.setTop (mkF m 3 #[.val (.ref b), .val (.int (Int32.ofNat (o + len))), .val (.ref d), .val (.int (Int32.ofNat (q + len))), .val (.int (Int32.ofNat len)), .val (.int (Int32.ofNat len)), z'] [])) := by
    intro r
    induction r with
    | zero =>
      intro i hi z hz Tl Bk Xl pl fl cl
      have hil : i = len := by omega
      rw [hil] at Xl fl cl
      exact ⟨Tl, Bk, z, Xl, pl, fl, cl⟩
    | succ r ih =>
      intro i hi z hz Tl Bk Xl pl fl cl
      have all := X0.warmed.alike.symm.trans Xl.warmed.alike
      have hAl := hA0.keep all (pl.other hne hA0.1)
      have hBk := hB0.like all pl.1 fl.1 fl.2.1 fl.2.2.1
      have hlt : q + i < Bk.slots.size := by rw [fl.2.2.1]; omega
      have c3 : Steps p.tables e below (s₁.setTop (entryFrame m #[.ref b, .int (Int32.ofNat o), .ref d, .int (Int32.ofNat q), .int (Int32.ofNat len)] 7)) (Tl.setTop (mkF m 12 #[.val (.ref b), .val (.int (Int32.ofNat (o + i))), .val (.ref d), .val (.int (Int32.ofNat (q + i))), .val (.int (Int32.ofNat len)), .val (.int (Int32.ofNat i)), z] [.int (Int32.ofNat (o + i)), .ref b])) := cl.trans (by
        refine XS.iload Xl.here hexec rfl (hb hbytes d3) rfl ?_
        refine XS.iload Xl.here hexec rfl (hb hbytes d5) rfl ?_
        refine XS.icmpNo Xl.here hexec rfl (hb hbytes d7) rfl (ii_ge_f (lt32 (by omega) (by omega))) ?_
        refine XS.aloadN Xl.here hexec rfl (hb hbytes d10) rfl rfl ?_
        refine XS.iloadN Xl.here hexec rfl (hb hbytes d11) rfl ?_
        exact Steps.refl _)
      have c4 : Steps p.tables e below (s₁.setTop (entryFrame m #[.ref b, .int (Int32.ofNat o), .ref d, .int (Int32.ofNat q), .int (Int32.ofNat len)] 7)) (Tl.setTop (mkF m 13 #[.val (.ref b), .val (.int (Int32.ofNat (o + i))), .val (.ref d), .val (.int (Int32.ofNat (q + i))), .val (.int (Int32.ofNat len)), .val (.int (Int32.ofNat i)), z] [.int (cv A (o + i))])) := c3.trans (by
        refine Xl.aget hexec hAl rfl (hA.get (i := o + i) (by omega)) rfl rfl (hb hbytes d12) ?_
        exact Steps.refl _)
      have c5 : Steps p.tables e below (s₁.setTop (entryFrame m #[.ref b, .int (Int32.ofNat o), .ref d, .int (Int32.ofNat q), .int (Int32.ofNat len)] 7)) (Tl.setTop (mkF m 15 #[.val (.ref b), .val (.int (Int32.ofNat (o + i))), .val (.ref d), .val (.int (Int32.ofNat (q + i))), .val (.int (Int32.ofNat len)), .val (.int (Int32.ofNat i)), .val (.int (cv A (o + i)))] [])) := c4.trans (by
        refine XS.istoreS Xl.here hexec rfl (hb hbytes d13) rfl rfl hz ?_
        exact Steps.refl _)
      have c6 : Steps p.tables e below (s₁.setTop (entryFrame m #[.ref b, .int (Int32.ofNat o), .ref d, .int (Int32.ofNat q), .int (Int32.ofNat len)] 7)) (Tl.setTop (mkF m 31 #[.val (.ref b), .val (.int (Int32.ofNat (o + i))), .val (.ref d), .val (.int (Int32.ofNat (q + i))), .val (.int (Int32.ofNat len)), .val (.int (Int32.ofNat i)), .val (.int (cv A (o + i)))] [.int (lo8 (cv A (o + i))), .int (Int32.ofNat (q + i)), .ref d])) := c5.trans (by
        refine XS.iload Xl.here hexec rfl (hb hbytes d15) rfl ?_
        refine sipushV Xl.here hexec rfl 255 (hb hbytes d17) (by decide) ?_
        refine XS.icmpYes Xl.here hexec rfl (pc0 := 20) rfl (hb hbytes d20) rfl (ii_le_t (hp i (by omega))) (by decide) rfl ?_
        refine XS.aloadN Xl.here hexec rfl (hb hbytes d26) rfl rfl ?_
        refine XS.iloadN Xl.here hexec rfl (hb hbytes d27) rfl ?_
        refine XS.iload Xl.here hexec rfl (hb hbytes d28) rfl ?_
        refine i2b Xl.here hexec rfl (hb hbytes d30) rfl ?_
        exact Steps.refl _)
      obtain ⟨T7, X7, p7, st7⟩ := Xl.aput hexec hBk rfl hlt rfl (fits_lo8 (cv A (o + i))) (g := (mkF m 31 #[.val (.ref b), .val (.int (Int32.ofNat (o + i))), .val (.ref d), .val (.int (Int32.ofNat (q + i))), .val (.int (Int32.ofNat len)), .val (.int (Int32.ofNat i)), .val (.int (cv A (o + i)))] [.int (lo8 (cv A (o + i))), .int (Int32.ofNat (q + i)), .ref d])) rfl (rest := []) rfl (hb hbytes d31)
      have c8 : Steps p.tables e below (s₁.setTop (entryFrame m #[.ref b, .int (Int32.ofNat o), .ref d, .int (Int32.ofNat q), .int (Int32.ofNat len)] 7)) (T7.setTop (mkF m 32 #[.val (.ref b), .val (.int (Int32.ofNat (o + i))), .val (.ref d), .val (.int (Int32.ofNat (q + i))), .val (.int (Int32.ofNat len)), .val (.int (Int32.ofNat i)), .val (.int (cv A (o + i)))] [])) := c6.trans (st7 _ (Steps.refl _))
      have c9 : Steps p.tables e below (s₁.setTop (entryFrame m #[.ref b, .int (Int32.ofNat o), .ref d, .int (Int32.ofNat q), .int (Int32.ofNat len)] 7)) (T7.setTop (mkF m 3 #[.val (.ref b), .val (.int (Int32.ofNat (o + i) + 1)), .val (.ref d), .val (.int (Int32.ofNat (q + i) + 1)), .val (.int (Int32.ofNat len)), .val (.int (Int32.ofNat i + 1)), .val (.int (cv A (o + i)))] [])) := c8.trans (by
        refine iincV X7.here hexec rfl 1 (hb hbytes d32) (by decide) rfl rfl ?_
        refine iincV X7.here hexec rfl 1 (hb hbytes d35) (by decide) rfl rfl ?_
        refine iincV X7.here hexec rfl 1 (hb hbytes d38) (by decide) rfl rfl ?_
        refine XS.goto X7.here hexec rfl (pc0 := 41) rfl (hb hbytes d41) (by decide) rfl ?_
        exact Steps.refl _)
      have c10 : Steps p.tables e below (s₁.setTop (entryFrame m #[.ref b, .int (Int32.ofNat o), .ref d, .int (Int32.ofNat q), .int (Int32.ofNat len)] 7)) (T7.setTop (mkF m 3 #[.val (.ref b), .val (.int (Int32.ofNat (o + (i + 1)))), .val (.ref d), .val (.int (Int32.ofNat (q + (i + 1)))), .val (.int (Int32.ofNat len)), .val (.int (Int32.ofNat (i + 1))), .val (.int (cv A (o + i)))] [])) := by
        have := c9
        rw [succ32, succ32, succ32] at this
        exact this
      exact ih (i + 1) (by omega) _ (Or.inr ⟨_, rfl, rfl⟩) T7 _ (by rw [copyLocs_step, ← List.append_assoc]; exact X7) (pl.trans p7) (fl.step (by omega) hlt (by simp)) c10
  obtain ⟨T9, B9, z9, X9, p9, f9, g9⟩ := loop len 0 (by omega) .unset (Or.inl rfl) s₁ B (by simpa [copyLocs] using X0) ⟨hB0.1, fun _ _ => rfl, rfl⟩ (Laid.zero _ _ _) c2
  have c11 : Steps p.tables e below (s₁.setTop (entryFrame m #[.ref b, .int (Int32.ofNat o), .ref d, .int (Int32.ofNat q), .int (Int32.ofNat len)] 7)) (T9.setTop (mkF m 46 #[.val (.ref b), .val (.int (Int32.ofNat (o + len))), .val (.ref d), .val (.int (Int32.ofNat (q + len))), .val (.int (Int32.ofNat len)), .val (.int (Int32.ofNat len)), z9] [.int (Int32.ofNat len)])) := g9.trans (by
    refine XS.iload X9.here hexec rfl (hb hbytes d3) rfl ?_
    refine XS.iload X9.here hexec rfl (hb hbytes d5) rfl ?_
    refine XS.icmpYes X9.here hexec rfl (pc0 := 7) rfl (hb hbytes d7) rfl (ii_ge_t (nlt32 (by omega) (Nat.le_refl _))) (by decide) rfl ?_
    refine XS.iload X9.here hexec rfl (hb hbytes d44) rfl ?_
    exact Steps.refl _)
  exact ⟨T9, some (.int (Int32.ofNat len)), _, _, _, X9, by simp, rfl, rfl, (fun h => by cases h), ⟨rfl, B9, p9.from hh0, f9⟩, fun fs hl => c11.trans (X9.ireturnOut hexec hret rfl (Or.inl rfl) (hb hbytes d46) hl)⟩
end Cmp5
namespace Cmp3
def yN : MethodName := ⟨"java/lang/StringUTF16", "compress", "([CII)[B"⟩
abbrev yB : ByteArray := jdk_52_method_16_code
theorem d0 : decode yB 0 = .ok (.iload_n 2, 1) := by decide +kernel
theorem d1 : decode yB 1 = .ok (.newarray .byte, 2) := by decide +kernel
theorem d3 : decode yB 3 = .ok (.astore_n 3, 1) := by decide +kernel
theorem d4 : decode yB 4 = .ok (.aload_n 0, 1) := by decide +kernel
theorem d5 : decode yB 5 = .ok (.iload_n 1, 1) := by decide +kernel
theorem d6 : decode yB 6 = .ok (.aload_n 3, 1) := by decide +kernel
theorem d7 : decode yB 7 = .ok (.iconst 0, 1) := by decide +kernel
theorem d8 : decode yB 8 = .ok (.iload_n 2, 1) := by decide +kernel
theorem d9 : decode yB 9 = .ok (.invokestatic 115, 3) := by decide +kernel
theorem d12 : decode yB 12 = .ok (.istore 4, 2) := by decide +kernel
theorem d14 : decode yB 14 = .ok (.iload 4, 2) := by decide +kernel
theorem d16 : decode yB 16 = .ok (.iload_n 2, 1) := by decide +kernel
theorem d17 : decode yB 17 = .ok (.if_icmp (.eq) 40, 3) := by decide +kernel
theorem d57 : decode yB 57 = .ok (.aload_n 3, 1) := by decide +kernel
theorem d58 : decode yB 58 = .ok (.areturn, 1) := by decide +kernel
def site : List Cond := [.arrayClass .byte, Cmp5.tab] ++ staticW U16 115 Cmp5.yN
def tab : Cond := tabOf yN yB 6 (some (.array .byte)) site
def P (b : Addr) (A : Cell) (o len : Nat) (args : Array Value) (s : State) : Prop := args = #[.ref b, .int (Int32.ofNat o), .int (Int32.ofNat len)] ∧ Ch b A s ∧ o + len ≤ A.slots.size ∧ len ≤ 536870912 ∧ ∀ i, i < len → ¬ 255 < cv A (o + i)
def E (b : Addr) (A : Cell) (o len : Nat) (r : Option Value) (s u : State) : Prop := NewArr .byte "[B" len (fun j => .int (lo8 (cv A (o + j)))) r s u ∧ u.heap.size = s.heap.size + 1
/-- no char of the range above 255: a new byte[] of their low bytes -/
theorem law (l : Launch) (b : Addr) (A : Cell) (o len : Nat) : Law l yN 3 3 1 18 yB 6 (some (.array .byte)) site (P b A o len) (E b A o len) [] 1 len := by
  refine Law.of_walk (plainFor_of_name (by decide +kernel)) (by decide +kernel) (by decide +kernel) (by decide) (fun _ _ h => by rw [h.1]; rfl) (fun _ U U' hal hh h => ⟨h.1, h.2.1.mv hal hh, h.2.2⟩) (fun r U U' V V' h1 hal h2 h => ⟨NewArr.mv r U U' V V' h1 hal h2 h.1, by rw [h1, h2]; exact h.2⟩) ?_
  intro p e s m args below meth c s₁ X0 hexec hbytes hml hret hlk hnm hown hh0 W hP
  obtain ⟨rfl, hA, l1, l2, hp⟩ := hP
  have a31 := hA.1.2.2.2
  have c1 : Steps p.tables e below (s₁.setTop (entryFrame m #[.ref b, .int (Int32.ofNat o), .int (Int32.ofNat len)] 6)) (s₁.setTop (mkF m 0 #[.val (.ref b), .val (.int (Int32.ofNat o)), .val (.int (Int32.ofNat len)), .unset, .unset, .unset] [])) := entry rfl
  have c2 : Steps p.tables e below (s₁.setTop (entryFrame m #[.ref b, .int (Int32.ofNat o), .int (Int32.ofNat len)] 6)) (s₁.setTop (mkF m 1 #[.val (.ref b), .val (.int (Int32.ofNat o)), .val (.int (Int32.ofNat len)), .unset, .unset, .unset] [.int (Int32.ofNat len)])) := c1.trans (by
    refine XS.iloadN X0.here hexec rfl (hb hbytes d0) rfl ?_
    exact Steps.refl _)
  obtain ⟨T3, B3, X3, ba3, bs3, bv3, bh3, bf3, st3⟩ := X0.anew hexec (atype := .byte) (wk W (.arrayClass .byte)) rfl (by show len * 1 ≤ _; omega) (by omega) (g := (mkF m 1 #[.val (.ref b), .val (.int (Int32.ofNat o)), .val (.int (Int32.ofNat len)), .unset, .unset, .unset] [.int (Int32.ofNat len)])) rfl (hb hbytes d1) (rest := []) rfl (Nat.le_refl _) (by show 0 + len ≤ len; omega)
  rw [hh0] at ba3 st3
  have kp3 : XT.Kept s T3 := (XT.Kept.of_eq hh0).push bh3
  have hA3 := hA.keep X3.warmed.alike (kp3 _ _ hA.1.1)
  have hne : b ≠ s.heap.size := hA.1.ne
  have c4 : Steps p.tables e below (s₁.setTop (entryFrame m #[.ref b, .int (Int32.ofNat o), .int (Int32.ofNat len)] 6)) (T3.setTop (mkF m 3 #[.val (.ref b), .val (.int (Int32.ofNat o)), .val (.int (Int32.ofNat len)), .unset, .unset, .unset] [.ref s.heap.size])) := c2.trans (st3 _ (Steps.refl _))
  have c5 : Steps p.tables e below (s₁.setTop (entryFrame m #[.ref b, .int (Int32.ofNat o), .int (Int32.ofNat len)] 6)) (T3.setTop (mkF m 9 #[.val (.ref b), .val (.int (Int32.ofNat o)), .val (.int (Int32.ofNat len)), .val (.ref s.heap.size), .unset, .unset] [.int (Int32.ofNat len), .int 0, .ref s.heap.size, .int (Int32.ofNat o), .ref b])) := c4.trans (by
    refine XS.astoreN X3.here hexec rfl (hb hbytes d3) rfl rfl rfl ?_
    refine XS.aloadN X3.here hexec rfl (hb hbytes d4) rfl rfl ?_
    refine XS.iloadN X3.here hexec rfl (hb hbytes d5) rfl ?_
    refine XS.aloadN X3.here hexec rfl (hb hbytes d6) rfl rfl ?_
    refine iconstV X3.here hexec rfl 0 (hb hbytes d7) (by decide) ?_
    refine XS.iloadN X3.here hexec rfl (hb hbytes d8) rfl ?_
    exact Steps.refl _)
  obtain ⟨v6, T6, X6, E6, g6⟩ := X3.callS hexec (Cmp5.law l b A s.heap.size B3 o 0 len) hown (wks W (staticW U16 115 Cmp5.yN)) (wk W Cmp5.tab) (W := 0) (Nat.le_of_ble_eq_true rfl) (Nat.le_of_ble_eq_true rfl) (Nat.le_refl _) (by show 0 + len + 0 ≤ len; omega) (g := (mkF m 9 #[.val (.ref b), .val (.int (Int32.ofNat o)), .val (.int (Int32.ofNat len)), .val (.ref s.heap.size), .unset, .unset] [.int (Int32.ofNat len), .int (Int32.ofNat 0), .ref s.heap.size, .int (Int32.ofNat o), .ref b])) rfl (by rw [hml]; rfl) c5 (argsL := [.ref b, .int (Int32.ofNat o), .ref s.heap.size, .int (Int32.ofNat 0), .int (Int32.ofNat len)]) (rest := []) rfl rfl (by show 2 * 0 + 0 ≤ _; decide) (hb hbytes d9) (⟨rfl, hA3, ba3, hne, l1, by rw [bs3]; simp, hp⟩)
  obtain ⟨rfl, B6, p6, f6⟩ := E6
  have c7 : Steps p.tables e below (s₁.setTop (entryFrame m #[.ref b, .int (Int32.ofNat o), .int (Int32.ofNat len)] 6)) (T6.setTop (mkF m 12 #[.val (.ref b), .val (.int (Int32.ofNat o)), .val (.int (Int32.ofNat len)), .val (.ref s.heap.size), .unset, .unset] [.int (Int32.ofNat len)])) := g6
  have c8 : Steps p.tables e below (s₁.setTop (entryFrame m #[.ref b, .int (Int32.ofNat o), .int (Int32.ofNat len)] 6)) (T6.setTop (mkF m 58 #[.val (.ref b), .val (.int (Int32.ofNat o)), .val (.int (Int32.ofNat len)), .val (.ref s.heap.size), .val (.int (Int32.ofNat len)), .unset] [.ref s.heap.size])) := c7.trans (by
    refine XS.istore X6.here hexec rfl (hb hbytes d12) rfl rfl ?_
    refine XS.iload X6.here hexec rfl (hb hbytes d14) rfl ?_
    refine XS.iloadN X6.here hexec rfl (hb hbytes d16) rfl ?_
    refine XS.icmpYes X6.here hexec rfl (pc0 := 17) rfl (hb hbytes d17) rfl (ii_eq_t rfl) (by decide) rfl ?_
    refine XS.aloadN X6.here hexec rfl (hb hbytes d57) rfl rfl ?_
    exact Steps.refl _)
  have X8 := X6.wide (L' := []) (cells' := 1) (slots' := len) (fun x hx hlt => by
    simp only [List.nil_append, copyLocs, List.mem_map, List.mem_range] at hx
    obtain ⟨i, -, rfl⟩ := hx
    exact absurd hlt (Nat.lt_irrefl _)) (Nat.le_refl _) (by omega)
  exact ⟨T6, some (.ref s.heap.size), _, _, _, X8, rfl, rfl, rfl, (fun h => by cases h), ⟨⟨rfl, B6, ba3.like (X3.warmed.alike.symm.trans X6.warmed.alike) p6.1 f6.1 f6.2.1 f6.2.2.1, f6.2.1.trans bv3, by rw [X6.warmed.alike.findClass, f6.1]; exact bf3, by rw [f6.2.2.1, bs3]; simp, fun j hj => by rw [f6.2.2.2 j, if_pos (by omega)]; rfl, kp3.put p6 (Nat.le_refl _)⟩, by rw [p6.2.2, bh3, hh0]; simp⟩, fun fs hl => c8.trans (X8.areturnOut hexec rfl hret rfl (hb hbytes d58) hl)⟩
end Cmp3
namespace CodL
def yN : MethodName := ⟨"java/lang/StringUTF16", "coderFromArrayLen", "([BI)B"⟩
abbrev yB : ByteArray := jdk_52_method_15_code
theorem d0 : decode yB 0 = .ok (.iload_n 1, 1) := by decide +kernel
theorem d1 : decode yB 1 = .ok (.aload_n 0, 1) := by decide +kernel
theorem d2 : decode yB 2 = .ok (.arraylength, 1) := by decide +kernel
theorem d3 : decode yB 3 = .ok (.isub, 1) := by decide +kernel
theorem d4 : decode yB 4 = .ok (.bipush 31, 2) := by decide +kernel
theorem d6 : decode yB 6 = .ok (.iushr, 1) := by decide +kernel
theorem d7 : decode yB 7 = .ok (.i2b, 1) := by decide +kernel
theorem d8 : decode yB 8 = .ok (.ireturn, 1) := by decide +kernel
def site : List Cond := []
def tab : Cond := tabOf yN yB 2 (some .byte) site
def P (d : Addr) (B : Cell) (args : Array Value) (s : State) : Prop := args = #[.ref d, .int (Int32.ofNat B.slots.size)] ∧ Arr .byte d B s
def E (r : Option Value) (s u : State) : Prop := XT.PureE (some (.int 0)) r s u
/-- an array as long as the number of chars: LATIN1 -/
theorem law (l : Launch) (d : Addr) (B : Cell) : Law l yN 2 2 0 0 yB 2 (some .byte) site (P d B) E [] 0 0 := by
  refine Law.of_walk (plainFor_of_name (by decide +kernel)) (by decide +kernel) (by decide +kernel) (by decide) (fun _ _ h => by rw [h.1]; rfl) (fun _ U U' hal hh h => ⟨h.1, h.2.mv hal hh⟩) (fun r U U' V V' h1 hal h2 h => XT.PureE.mv r U U' V V' h1 hal h2 h) ?_
  intro p e s m args below meth c s₁ X0 hexec hbytes hml hret hlk hnm hown hh0 W hP
  obtain ⟨rfl, hB⟩ := hP
  have hB0 := hB.mv X0.warmed.alike hh0
  have c1 : Steps p.tables e below (s₁.setTop (entryFrame m #[.ref d, .int (Int32.ofNat B.slots.size)] 2)) (s₁.setTop (mkF m 0 #[.val (.ref d), .val (.int (Int32.ofNat B.slots.size))] [])) := entry rfl
  have c2 : Steps p.tables e below (s₁.setTop (entryFrame m #[.ref d, .int (Int32.ofNat B.slots.size)] 2)) (s₁.setTop (mkF m 2 #[.val (.ref d), .val (.int (Int32.ofNat B.slots.size))] [.ref d, .int (Int32.ofNat B.slots.size)])) := c1.trans (by
    refine XS.iloadN X0.here hexec rfl (hb hbytes d0) rfl ?_
    refine XS.aloadN X0.here hexec rfl (hb hbytes d1) rfl rfl ?_
    exact Steps.refl _)
  have c3 : Steps p.tables e below (s₁.setTop (entryFrame m #[.ref d, .int (Int32.ofNat B.slots.size)] 2)) (s₁.setTop (mkF m 8 #[.val (.ref d), .val (.int (Int32.ofNat B.slots.size))] [.int (lo8 (ushr (Int32.ofNat B.slots.size - Int32.ofNat B.slots.size) 31))])) := c2.trans (by
    refine X0.alen hexec hB0 rfl rfl (hb hbytes d2) ?_
    refine XS.isub X0.here hexec rfl (hb hbytes d3) rfl ?_
    refine bipushV X0.here hexec rfl 31 (hb hbytes d4) (by decide) ?_
    refine iushr X0.here hexec rfl (hb hbytes d6) rfl ?_
    refine i2b X0.here hexec rfl (hb hbytes d7) rfl ?_
    exact Steps.refl _)
  have e0 : lo8 (ushr (Int32.ofNat B.slots.size - Int32.ofNat B.slots.size) 31) = 0 := by rw [Int32.sub_self]; decide
  rw [e0] at c3
  exact ⟨s₁, some (.int 0), _, _, _, X0, rfl, rfl, rfl, (fun h => by cases h), ⟨rfl, hh0⟩, fun fs hl => c3.trans (X0.ireturnOut hexec hret rfl (Or.inr (Or.inr (Or.inl rfl))) (hb hbytes d8) hl)⟩
end CodL
/-- the String at a is Latin-1 over a new byte[] (the heap's one new cell): the low bytes of the len chars of A from o on; every cell but a is kept -/
def Got (a : Addr) (D : Cell) (fV fC : Field) (A : Cell) (o len : Nat) (r : Option Value) (s u : State) : Prop := r = none ∧ ∃ D' V : Cell, Blank "java/lang/String" a D' u ∧ Same D D' [fV.slot, fC.slot] ∧ D'.slots[fV.slot]? = some (.ref s.heap.size) ∧ D'.slots[fC.slot]? = some (.int 0) ∧ Arr .byte s.heap.size V u ∧ V.vm = .none ∧ u.vm.findClass "[B" = some V.cls ∧ V.slots.size = len ∧ (∀ j, j < len → V.slots[j]? = some (.int (lo8 (cv A (o + j))))) ∧ (∀ (y : Addr) (c : Cell), y ≠ a → s.heap[y]? = some c → u.heap[y]? = some c) ∧ u.heap.size = s.heap.size + 1
theorem Got.mv {a : Addr} {D A : Cell} {fV fC : Field} {o len : Nat} : ∀ r (U U' V V' : State), U'.heap = U.heap → V.vm.Alike V'.vm → V'.heap = V.heap → Got a D fV fC A o len r U V → Got a D fV fC A o len r U' V' :=
  fun r U U' V V' h1 hal h2 ⟨e0, D', X, a1, a2, a3, a4, a5, a6, a7, a8, a9, a10, a11⟩ => ⟨e0, D', X, a1.mv hal h2, a2, by rw [h1]; exact a3, a4, by rw [h1]; exact a5.mv hal h2, a6, by rw [hal.findClass]; exact a7, a8, a9, by rw [h1, h2]; exact a10, by rw [h1, h2]; exact a11⟩
namespace New4
def yN : MethodName := ⟨"java/lang/String", "<init>", "([CIILjava/lang/Void;)V"⟩
abbrev yB : ByteArray := jdk_42_method_149_code
theorem d0 : decode yB 0 = .ok (.aload_n 0, 1) := by decide +kernel
theorem d1 : decode yB 1 = .ok (.invokespecial 1, 3) := by decide +kernel
theorem d4 : decode yB 4 = .ok (.iload_n 3, 1) := by decide +kernel
theorem d5 : decode yB 5 = .ok (.ifCond (.ne) 22, 3) := by decide +kernel
theorem d27 : decode yB 27 = .ok (.getstatic 38, 3) := by decide +kernel
theorem d30 : decode yB 30 = .ok (.ifCond (.eq) 28, 3) := by decide +kernel
theorem d33 : decode yB 33 = .ok (.aload_n 1, 1) := by decide +kernel
theorem d34 : decode yB 34 = .ok (.iload_n 2, 1) := by decide +kernel
theorem d35 : decode yB 35 = .ok (.iload_n 3, 1) := by decide +kernel
theorem d36 : decode yB 36 = .ok (.invokestatic 177, 3) := by decide +kernel
theorem d39 : decode yB 39 = .ok (.astore 5, 2) := by decide +kernel
theorem d41 : decode yB 41 = .ok (.aload_n 0, 1) := by decide +kernel
theorem d42 : decode yB 42 = .ok (.aload 5, 2) := by decide +kernel
theorem d44 : decode yB 44 = .ok (.iload_n 3, 1) := by decide +kernel
theorem d45 : decode yB 45 = .ok (.invokestatic 47, 3) := by decide +kernel
theorem d48 : decode yB 48 = .ok (.putfield 15, 3) := by decide +kernel
theorem d51 : decode yB 51 = .ok (.aload_n 0, 1) := by decide +kernel
theorem d52 : decode yB 52 = .ok (.aload 5, 2) := by decide +kernel
theorem d54 : decode yB 54 = .ok (.putfield 9, 3) := by decide +kernel
theorem d57 : decode yB 57 = .ok (.return_, 1) := by decide +kernel
def site : List Cond := [.fieldLink "java/lang/String" 38 "java/lang/String" "COMPACT_STRINGS" "Z", Cmp3.tab, CodL.tab, .laysFinal "java/lang/String" "java/lang/String" "value" "[B", .fieldLink "java/lang/String" 9 "java/lang/String" "value" "[B", .laysFinal "java/lang/String" "java/lang/String" "coder" "B", .fieldLink "java/lang/String" 15 "java/lang/String" "coder" "B"] ++ objW "java/lang/String" 1 ++ staticW "java/lang/String" 177 Cmp3.yN ++ staticW "java/lang/String" 47 CodL.yN
def tab : Cond := tabOf yN yB 6 none site
def P (a : Addr) (D : Cell) (fV fC : Field) (b : Addr) (A : Cell) (z : Int32) (o len : Nat) (args : Array Value) (s : State) : Prop := args = #[.ref a, .ref b, .int (Int32.ofNat o), .int (Int32.ofNat len), .null] ∧ Blank "java/lang/String" a D s ∧ Found "java/lang/String" "value" "[B" fV s ∧ Found "java/lang/String" "coder" "B" fC s ∧ Ch b A s ∧ StaticIs s "java/lang/String" "COMPACT_STRINGS" "Z" (.int z) ∧ ¬ z = 0 ∧ 0 < len ∧ o + len ≤ A.slots.size ∧ len ≤ 536870912 ∧ ∀ i, i < len → ¬ 255 < cv A (o + i)
def E (a : Addr) (D : Cell) (fV fC : Field) (A : Cell) (o len : Nat) (r : Option Value) (s u : State) : Prop := Got a D fV fC A o len r s u
/-- len > 0, no char of the range above 255: a Latin-1 String of their low bytes -/
theorem law (l : Launch) (a : Addr) (D : Cell) (fV fC : Field) (b : Addr) (A : Cell) (z : Int32) (o len : Nat) : Law l yN 5 4 2 35 yB 6 none site (P a D fV fC b A z o len) (E a D fV fC A o len) [⟨a, fC.slot⟩, ⟨a, fV.slot⟩] 1 len := by
  refine Law.of_walk (plainFor_of_name (by decide +kernel)) (by decide +kernel) (by decide +kernel) (by decide) (fun _ _ h => by rw [h.1]; rfl) (fun _ U U' hal hh h => ⟨h.1, h.2.1.mv hal hh, h.2.2.1.al hal, h.2.2.2.1.al hal, h.2.2.2.2.1.mv hal hh, h.2.2.2.2.2.1.there hal hh, h.2.2.2.2.2.2⟩) (fun r U U' V V' h1 hal h2 h => Got.mv r U U' V V' h1 hal h2 h) ?_
  intro p e s m args below meth c s₁ X0 hexec hbytes hml hret hlk hnm hown hh0 W hP
  obtain ⟨rfl, hB, f1, f2, hA, s1, hz, l0, l1, l2, hp⟩ := hP
  have a31 := hA.1.2.2.2
  have c1 : Steps p.tables e below (s₁.setTop (entryFrame m #[.ref a, .ref b, .int (Int32.ofNat o), .int (Int32.ofNat len), .null] 6)) (s₁.setTop (mkF m 0 #[.val (.ref a), .val (.ref b), .val (.int (Int32.ofNat o)), .val (.int (Int32.ofNat len)), .val .null, .unset] [])) := entry rfl
  have c2 : Steps p.tables e below (s₁.setTop (entryFrame m #[.ref a, .ref b, .int (Int32.ofNat o), .int (Int32.ofNat len), .null] 6)) (s₁.setTop (mkF m 1 #[.val (.ref a), .val (.ref b), .val (.int (Int32.ofNat o)), .val (.int (Int32.ofNat len)), .val .null, .unset] [.ref a])) := c1.trans (by
    refine XS.aloadN X0.here hexec rfl (hb hbytes d0) rfl rfl ?_
    exact Steps.refl _)
  obtain ⟨T3, X3, q3, st3⟩ := X0.oinit hexec hown (wks W (objW "java/lang/String" 1)) (g := (mkF m 1 #[.val (.ref a), .val (.ref b), .val (.int (Int32.ofNat o)), .val (.int (Int32.ofNat len)), .val .null, .unset] [.ref a])) rfl (by rw [hml]; rfl) (rest := []) rfl (hb hbytes d1) (W := 0) (by show 2 * 0 + 0 ≤ _; decide) (Nat.le_of_ble_eq_true rfl) (Nat.le_of_ble_eq_true rfl)
  have hh3 := q3.trans hh0
  have c4 : Steps p.tables e below (s₁.setTop (entryFrame m #[.ref a, .ref b, .int (Int32.ofNat o), .int (Int32.ofNat len), .null] 6)) (T3.setTop (mkF m 27 #[.val (.ref a), .val (.ref b), .val (.int (Int32.ofNat o)), .val (.int (Int32.ofNat len)), .val .null, .unset] [])) := (c2.trans (st3 _ (Steps.refl _))).trans (by
    refine XS.iloadN X3.here hexec rfl (hb hbytes d4) rfl ?_
    refine XS.ifYes X3.here hexec rfl (pc0 := 5) rfl (hb hbytes d5) rfl (i0_ne_t (nz32 (by omega) l0)) (by decide) rfl ?_
    exact Steps.refl _)
  obtain ⟨T5, X5, q5, st5⟩ := X3.sget hexec hown (wk W (.fieldLink "java/lang/String" 38 "java/lang/String" "COMPACT_STRINGS" "Z")) s1 (fun _ _ h => by rw [hh3]; exact h) (g := (mkF m 27 #[.val (.ref a), .val (.ref b), .val (.int (Int32.ofNat o)), .val (.int (Int32.ofNat len)), .val .null, .unset] [])) rfl (hb hbytes d27)
  have hh5 := q5.trans hh3
  have c6 : Steps p.tables e below (s₁.setTop (entryFrame m #[.ref a, .ref b, .int (Int32.ofNat o), .int (Int32.ofNat len), .null] 6)) (T5.setTop (mkF m 30 #[.val (.ref a), .val (.ref b), .val (.int (Int32.ofNat o)), .val (.int (Int32.ofNat len)), .val .null, .unset] [.int z])) := c4.trans (st5 _ (Steps.refl _))
  have c7 : Steps p.tables e below (s₁.setTop (entryFrame m #[.ref a, .ref b, .int (Int32.ofNat o), .int (Int32.ofNat len), .null] 6)) (T5.setTop (mkF m 36 #[.val (.ref a), .val (.ref b), .val (.int (Int32.ofNat o)), .val (.int (Int32.ofNat len)), .val .null, .unset] [.int (Int32.ofNat len), .int (Int32.ofNat o), .ref b])) := c6.trans (by
    refine XS.ifNo X5.here hexec rfl (hb hbytes d30) rfl (i0_eq_f hz) ?_
    refine XS.aloadN X5.here hexec rfl (hb hbytes d33) rfl rfl ?_
    refine XS.iloadN X5.here hexec rfl (hb hbytes d34) rfl ?_
    refine XS.iloadN X5.here hexec rfl (hb hbytes d35) rfl ?_
    exact Steps.refl _)
  obtain ⟨v8, T8, X8, E8, g8⟩ := X5.callS hexec (Cmp3.law l b A o len) hown (wks W (staticW "java/lang/String" 177 Cmp3.yN)) (wk W Cmp3.tab) (W := 0) (Nat.le_of_ble_eq_true rfl) (Nat.le_of_ble_eq_true rfl) (Nat.le_refl _) (by show 0 + len ≤ len; omega) (g := (mkF m 36 #[.val (.ref a), .val (.ref b), .val (.int (Int32.ofNat o)), .val (.int (Int32.ofNat len)), .val .null, .unset] [.int (Int32.ofNat len), .int (Int32.ofNat o), .ref b])) rfl (by rw [hml]; rfl) c7 (argsL := [.ref b, .int (Int32.ofNat o), .int (Int32.ofNat len)]) (rest := []) rfl rfl (by show 2 * 0 + 0 ≤ _; decide) (hb hbytes d36) (⟨rfl, hA.mv X5.warmed.alike hh5, l1, l2, hp⟩)
  obtain ⟨e8, z8⟩ := E8
  obtain ⟨rfl, N, n1, n2, n3, n4, n5, n6⟩ := NewArr.mv _ T5 s _ _ hh5.symm (Vm.Alike.refl _) rfl e8
  rw [hh5] at z8
  have hB1 := hB.keep X8.warmed.alike (n6 _ _ hB.1)
  have hne : s.heap.size ≠ a := (Nat.ne_of_lt (Array.getElem?_eq_some_iff.mp hB.1).1).symm
  have c9 : Steps p.tables e below (s₁.setTop (entryFrame m #[.ref a, .ref b, .int (Int32.ofNat o), .int (Int32.ofNat len), .null] 6)) (T8.setTop (mkF m 39 #[.val (.ref a), .val (.ref b), .val (.int (Int32.ofNat o)), .val (.int (Int32.ofNat len)), .val .null, .unset] [.ref s.heap.size])) := g8
  have c10 : Steps p.tables e below (s₁.setTop (entryFrame m #[.ref a, .ref b, .int (Int32.ofNat o), .int (Int32.ofNat len), .null] 6)) (T8.setTop (mkF m 45 #[.val (.ref a), .val (.ref b), .val (.int (Int32.ofNat o)), .val (.int (Int32.ofNat len)), .val .null, .val (.ref s.heap.size)] [.int (Int32.ofNat N.slots.size), .ref s.heap.size, .ref a])) := by
    have hc : Steps p.tables e below (s₁.setTop (entryFrame m #[.ref a, .ref b, .int (Int32.ofNat o), .int (Int32.ofNat len), .null] 6)) (T8.setTop (mkF m 45 #[.val (.ref a), .val (.ref b), .val (.int (Int32.ofNat o)), .val (.int (Int32.ofNat len)), .val .null, .val (.ref s.heap.size)] [.int (Int32.ofNat len), .ref s.heap.size, .ref a])) := c9.trans (by
      refine XS.astore X8.here hexec rfl (hb hbytes d39) rfl rfl rfl ?_
      refine XS.aloadN X8.here hexec rfl (hb hbytes d41) rfl rfl ?_
      refine XS.aload X8.here hexec rfl (hb hbytes d42) rfl rfl ?_
      refine XS.iloadN X8.here hexec rfl (hb hbytes d44) rfl ?_
      exact Steps.refl _)
    rw [n4]; exact hc
  obtain ⟨v11, T11, X11, E11, g11⟩ := X8.callS hexec (CodL.law l s.heap.size N) hown (wks W (staticW "java/lang/String" 47 CodL.yN)) (wk W CodL.tab) (W := 1) (Nat.le_of_ble_eq_true rfl) (Nat.le_of_ble_eq_true rfl) (Nat.le_refl _) (by show 0 + len + 0 ≤ len; omega) (g := (mkF m 45 #[.val (.ref a), .val (.ref b), .val (.int (Int32.ofNat o)), .val (.int (Int32.ofNat len)), .val .null, .val (.ref s.heap.size)] [.int (Int32.ofNat N.slots.size), .ref s.heap.size, .ref a])) rfl (by rw [hml]; rfl) c10 (argsL := [.ref s.heap.size, .int (Int32.ofNat N.slots.size)]) (rest := [.ref a]) rfl rfl (by show 2 * 0 + (1 + 0) ≤ _; decide) (hb hbytes d45) (⟨rfl, n1⟩)
  obtain ⟨rfl, q11⟩ := E11
  have hB11 := hB1.mv (X8.warmed.alike.symm.trans X11.warmed.alike) q11
  have c12 : Steps p.tables e below (s₁.setTop (entryFrame m #[.ref a, .ref b, .int (Int32.ofNat o), .int (Int32.ofNat len), .null] 6)) (T11.setTop (mkF m 48 #[.val (.ref a), .val (.ref b), .val (.int (Int32.ofNat o)), .val (.int (Int32.ofNat len)), .val .null, .val (.ref s.heap.size)] [.int 0, .ref a])) := g11
  obtain ⟨T13, X13, p13, bl13, sl13, st13⟩ := X11.finit hexec hown (wk W (.fieldLink "java/lang/String" 15 "java/lang/String" "coder" "B")) (Or.inr ⟨_, (wk W (.laysFinal "java/lang/String" "java/lang/String" "coder" "B"))⟩) (Or.inl ⟨rfl, hnm⟩) f2 (Or.inl rfl) hB11 (t := .byte) (by decide +kernel) rfl (g := (mkF m 48 #[.val (.ref a), .val (.ref b), .val (.int (Int32.ofNat o)), .val (.int (Int32.ofNat len)), .val .null, .val (.ref s.heap.size)] [.int 0, .ref a])) rfl (rest := []) rfl (hb hbytes d48)
  have c14 : Steps p.tables e below (s₁.setTop (entryFrame m #[.ref a, .ref b, .int (Int32.ofNat o), .int (Int32.ofNat len), .null] 6)) (T13.setTop (mkF m 54 #[.val (.ref a), .val (.ref b), .val (.int (Int32.ofNat o)), .val (.int (Int32.ofNat len)), .val .null, .val (.ref s.heap.size)] [.ref s.heap.size, .ref a])) := (c12.trans (st13 _ (Steps.refl _))).trans (by
    refine XS.aloadN X13.here hexec rfl (hb hbytes d51) rfl rfl ?_
    refine XS.aload X13.here hexec rfl (hb hbytes d52) rfl rfl ?_
    exact Steps.refl _)
  obtain ⟨T15, X15, p15, bl15, sl15, st15⟩ := X13.finit hexec hown (wk W (.fieldLink "java/lang/String" 9 "java/lang/String" "value" "[B")) (Or.inr ⟨_, (wk W (.laysFinal "java/lang/String" "java/lang/String" "value" "[B"))⟩) (Or.inl ⟨rfl, hnm⟩) f1 (Or.inl rfl) bl13 (t := (.array .byte)) (by decide +kernel) rfl (g := (mkF m 54 #[.val (.ref a), .val (.ref b), .val (.int (Int32.ofNat o)), .val (.int (Int32.ofNat len)), .val .null, .val (.ref s.heap.size)] [.ref s.heap.size, .ref a])) rfl (rest := []) rfl (hb hbytes d54)
  have c16 : Steps p.tables e below (s₁.setTop (entryFrame m #[.ref a, .ref b, .int (Int32.ofNat o), .int (Int32.ofNat len), .null] 6)) (T15.setTop (mkF m 57 #[.val (.ref a), .val (.ref b), .val (.int (Int32.ofNat o)), .val (.int (Int32.ofNat len)), .val .null, .val (.ref s.heap.size)] [])) := c14.trans (st15 _ (Steps.refl _))
  have ap := apart (Or.inr ⟨_, (wk W (.laysFinal "java/lang/String" "java/lang/String" "value" "[B"))⟩) (Or.inr ⟨_, (wk W (.laysFinal "java/lang/String" "java/lang/String" "coder" "B"))⟩) f1 f2 (t₁ := .array .byte) (t₂ := .byte) (by decide +kernel) (by decide +kernel) (by decide)
  have al := X8.warmed.alike.symm.trans X15.warmed.alike
  have n7 : T11.heap[s.heap.size]? = some N := by rw [q11]; exact n1.1
  exact ⟨T15, none, _, _, _, X15, by simp, rfl, by omega, (fun _ => rfl), ⟨rfl, _, N, bl15, ((Same.refl D _).set _ (by simp)).set _ (by simp), sl15, (Cell.slots_setSlot_ne _ ap).trans sl13, n1.keep al (p15.other hne (p13.other hne n7)), n2, by rw [al.findClass]; exact n3, n4, n5, fun y c h1 h2 => p15.other h1 (p13.other h1 (by rw [q11]; exact n6 y c h2)), by rw [p15.2.2, p13.2.2, q11]; exact z8⟩, fun fs hl => c16.trans (X15.returnOut hexec hret (hb hbytes d57) hl)⟩
end New4
namespace New1
def yN : MethodName := ⟨"java/lang/String", "<init>", "([C)V"⟩
abbrev yB : ByteArray := jdk_42_method_3_code
theorem d0 : decode yB 0 = .ok (.aload_n 0, 1) := by decide +kernel
theorem d1 : decode yB 1 = .ok (.aload_n 1, 1) := by decide +kernel
theorem d2 : decode yB 2 = .ok (.iconst 0, 1) := by decide +kernel
theorem d3 : decode yB 3 = .ok (.aload_n 1, 1) := by decide +kernel
theorem d4 : decode yB 4 = .ok (.arraylength, 1) := by decide +kernel
theorem d5 : decode yB 5 = .ok (.aconst_null, 1) := by decide +kernel
theorem d6 : decode yB 6 = .ok (.invokespecial 27, 3) := by decide +kernel
theorem d9 : decode yB 9 = .ok (.return_, 1) := by decide +kernel
def site : List Cond := [New4.tab] ++ initW "java/lang/String" 27 New4.yN
def tab : Cond := tabOf yN yB 2 none site
def P (a : Addr) (D : Cell) (fV fC : Field) (b : Addr) (A : Cell) (z : Int32) (args : Array Value) (s : State) : Prop := args = #[.ref a, .ref b] ∧ Blank "java/lang/String" a D s ∧ Found "java/lang/String" "value" "[B" fV s ∧ Found "java/lang/String" "coder" "B" fC s ∧ Ch b A s ∧ StaticIs s "java/lang/String" "COMPACT_STRINGS" "Z" (.int z) ∧ ¬ z = 0 ∧ 0 < A.slots.size ∧ A.slots.size ≤ 536870912 ∧ ∀ i, i < A.slots.size → ¬ 255 < cv A i
def E (a : Addr) (D : Cell) (fV fC : Field) (A : Cell) (r : Option Value) (s u : State) : Prop := Got a D fV fC A 0 A.slots.size r s u
/-- new String(chars), not empty, no char above 255: a Latin-1 String of their low bytes -/
theorem law (l : Launch) (a : Addr) (D : Cell) (fV fC : Field) (b : Addr) (A : Cell) (z : Int32) : Law l yN 2 1 3 52 yB 2 none site (P a D fV fC b A z) (E a D fV fC A) [⟨a, fC.slot⟩, ⟨a, fV.slot⟩] 1 A.slots.size := by
  refine Law.of_walk (plainFor_of_name (by decide +kernel)) (by decide +kernel) (by decide +kernel) (by decide) (fun _ _ h => by rw [h.1]; rfl) (fun _ U U' hal hh h => ⟨h.1, h.2.1.mv hal hh, h.2.2.1.al hal, h.2.2.2.1.al hal, h.2.2.2.2.1.mv hal hh, h.2.2.2.2.2.1.there hal hh, h.2.2.2.2.2.2⟩) (fun r U U' V V' h1 hal h2 h => Got.mv r U U' V V' h1 hal h2 h) ?_
  intro p e s m args below meth c s₁ X0 hexec hbytes hml hret hlk hnm hown hh0 W hP
  obtain ⟨rfl, hB, f1, f2, hA, s1, hz, l0, l2, hp⟩ := hP
  have c1 : Steps p.tables e below (s₁.setTop (entryFrame m #[.ref a, .ref b] 2)) (s₁.setTop (mkF m 0 #[.val (.ref a), .val (.ref b)] [])) := entry rfl
  have c2 : Steps p.tables e below (s₁.setTop (entryFrame m #[.ref a, .ref b] 2)) (s₁.setTop (mkF m 6 #[.val (.ref a), .val (.ref b)] [.null, .int (Int32.ofNat A.slots.size), .int 0, .ref b, .ref a])) := c1.trans (by
    refine XS.aloadN X0.here hexec rfl (hb hbytes d0) rfl rfl ?_
    refine XS.aloadN X0.here hexec rfl (hb hbytes d1) rfl rfl ?_
    refine iconstV X0.here hexec rfl 0 (hb hbytes d2) (by decide) ?_
    refine XS.aloadN X0.here hexec rfl (hb hbytes d3) rfl rfl ?_
    refine X0.alen hexec (hA.1.mv X0.warmed.alike hh0) rfl rfl (hb hbytes d4) ?_
    refine XS.aconstNull X0.here hexec rfl (hb hbytes d5) ?_
    exact Steps.refl _)
  obtain ⟨v3, T3, X3, E3, g3⟩ := X0.callN hexec (New4.law l a D fV fC b A z 0 A.slots.size) rfl hown (wks W (initW "java/lang/String" 27 New4.yN)) (W New4.tab (by simp only [site, List.mem_cons, List.mem_append, true_or, or_true])) (W := 0) (Nat.le_of_ble_eq_true rfl) (Nat.le_of_ble_eq_true rfl) (Nat.le_refl _) (by show 0 + A.slots.size ≤ A.slots.size; omega) (g := (mkF m 6 #[.val (.ref a), .val (.ref b)] [.null, .int (Int32.ofNat A.slots.size), .int (Int32.ofNat 0), .ref b, .ref a])) rfl (by rw [hml]; rfl) c2 (argsL := [.ref b, .int (Int32.ofNat 0), .int (Int32.ofNat A.slots.size), .null]) (rest := []) rfl rfl (by show 2 * 0 + 0 ≤ _; decide) (hb hbytes d6) (⟨rfl, hB.mv X0.warmed.alike hh0, f1.al X0.warmed.alike, f2.al X0.warmed.alike, hA.mv X0.warmed.alike hh0, s1.there X0.warmed.alike hh0, hz, l0, by omega, l2, fun i hi => by rw [Nat.zero_add]; exact hp i hi⟩)
  have e0 := Got.mv _ s₁ s _ _ hh0.symm (Vm.Alike.refl _) rfl E3
  obtain rfl := e0.1
  have c4 : Steps p.tables e below (s₁.setTop (entryFrame m #[.ref a, .ref b] 2)) (T3.setTop (mkF m 9 #[.val (.ref a), .val (.ref b)] [])) := g3
  exact ⟨T3, none, _, _, _, X3, by simp, rfl, by omega, (fun _ => rfl), e0, fun fs hl => c4.trans (X3.returnOut hexec hret (hb hbytes d9) hl)⟩
theorem pays {l : Launch} {R : Room} {p : Program} {e : Env} {below : List Frame} {s : State} {sargs : Array Value} {len W : Nat} (a : Addr) (D : Cell) (fV fC : Field) (b : Addr) (A : Cell) (z : Int32) (htab : tab.before sargs s = true) (hfr : 4 ≤ R.frames) (hlo : W + 65 ≤ R.locals) :
    Back l R p e below s sargs yN len W (fun A₁ a₁ => A₁.cells + 1 ≤ R.cells ∧ A₁.slots + A.slots.size ≤ R.slots ∧ P a D fV fC b A z a₁ A₁.U) (fun A₁ _ v₁ B₁ => E a D fV fC A v₁ A₁.U B₁.U ∧ B₁.locs = A₁.locs ++ [⟨a, fC.slot⟩, ⟨a, fV.slot⟩] ∧ B₁.cells = A₁.cells + 1 ∧ B₁.slots = A₁.slots + A.slots.size) :=
  (law l a D fV fC b A z).pays htab hfr (by omega)
end New1
/-- the byte, read back as charAt reads it, is the char -/
theorem lo8_mask {x : Int32} (h0 : ¬ x < 0) (h1 : ¬ 255 < x) : lo8 x &&& 255 = x := by
  have t : ∀ k : Fin 256, lo8 (Int32.ofNat k.val) &&& 255 = Int32.ofNat k.val := by decide +kernel
  rw [Int32.lt_iff_toInt_lt] at h0 h1
  have e0 : (0 : Int32).toInt = 0 := rfl
  have e1 : (255 : Int32).toInt = 255 := rfl
  obtain ⟨k, hk⟩ : ∃ k : Nat, x.toInt = k := ⟨x.toInt.toNat, by omega⟩
  have hx : x = Int32.ofNat k := Int32.toInt_inj.mp (by rw [hk, Int32.toInt_ofNat_small (by omega)])
  rw [hx]
  exact t ⟨k, by omega⟩
end StrChars
namespace StrChars.Road
open Jvm Sem ClassFile Op Lib Jvm.Stand Jvm.Free Jvm.Free.XT
open Jvm.Lib.Cold (StaticIs)
abbrev ST : String := "java/lang/String"
/-- every table word that New1's law asks, flat -/
abbrev words : List Jvm.Cond := [.code New1.yN New1.yB 2 none, .initialized ST, .methodLink ST 27 New4.yN, .instanceMethod New4.yN,
  .code New4.yN New4.yB 6 none, .fieldLink ST 38 ST "COMPACT_STRINGS" "Z", .laysFinal ST ST "value" "[B", .fieldLink ST 9 ST "value" "[B", .laysFinal ST ST "coder" "B", .fieldLink ST 15 ST "coder" "B",
  .methodLink ST 1 Lib.objectInit, .instanceMethod Lib.objectInit, .code Lib.objectInit ⟨#[0xb1]⟩ 1 none, .methodLink ST 177 Cmp3.yN, .static Cmp3.yN, .methodLink ST 47 CodL.yN, .static CodL.yN,
  .code Cmp3.yN Cmp3.yB 6 (some (.array .byte)), .initialized U16, .arrayClass .byte, .methodLink U16 115 Cmp5.yN, .static Cmp5.yN, .code Cmp5.yN Cmp5.yB 7 (some .int), .code CodL.yN CodL.yB 2 (some .byte)]
theorem tab_of {a : Array Value} {s : State} (h : ∀ w ∈ words, w.before a s = true) : New1.tab.before a s = true := by
  have h5 : Cmp5.tab.before a s = true := unparts (wk h (.code Cmp5.yN Cmp5.yB 7 (some .int))) (wks h (.initialized Cmp5.yN.cls :: Cmp5.site))
  have hc : CodL.tab.before a s = true := unparts (wk h (.code CodL.yN CodL.yB 2 (some .byte))) (wks h (.initialized CodL.yN.cls :: CodL.site))
  have q5 : ∀ w ∈ Cmp5.tab :: words, w.before a s = true := fun w hw => (List.mem_cons.mp hw).elim (fun e => e ▸ h5) (h w)
  have h3 : Cmp3.tab.before a s = true := unparts (wk q5 (.code Cmp3.yN Cmp3.yB 6 (some (.array .byte)))) (wks q5 (.initialized Cmp3.yN.cls :: Cmp3.site))
  have q3 : ∀ w ∈ Cmp3.tab :: CodL.tab :: words, w.before a s = true := fun w hw => (List.mem_cons.mp hw).elim (fun e => e ▸ h3) fun hw => (List.mem_cons.mp hw).elim (fun e => e ▸ hc) (h w)
  have h4 : New4.tab.before a s = true := unparts (wk q3 (.code New4.yN New4.yB 6 none)) (wks q3 (.initialized New4.yN.cls :: New4.site))
  have q4 : ∀ w ∈ New4.tab :: words, w.before a s = true := fun w hw => (List.mem_cons.mp hw).elim (fun e => e ▸ h4) (h w)
  exact unparts (wk q4 (.code New1.yN New1.yB 2 none)) (wks q4 (.initialized New1.yN.cls :: New1.site))
/-- the words ride from the start Z to the walk's own state -/
theorem moved {Z s : State} {a0 args : Array Value} (hZ : Z.Warmed39 s.vm) (hw : ∀ d ∈ words, d.before a0 Z = true) : ∀ d ∈ words, d.before args s = true := fun d hd => by
  have q := hw d hd
  have t : ∀ d ∈ words, d = .arrayClass .byte ∨ (d.onTables && d.keepsFace) = true := by decide +kernel
  rcases t d hd with rfl | t
  · exact RoadKit.mvA hZ q
  · exact RoadKit.mv hZ q t
/-- WHAT COMES BACK, over the tables of the start Z: h the heap at the call, h' behind it -/
def Q (Z : State) (x : Addr) (A : Cell) (h : Heap) (v : Option Value) (h' : Heap) (L : List Loc) : Prop := v = none ∧ (∀ y ∈ L, y.base = x) ∧ RoadKit.Keep h h' [x] ∧ h'.size = h.size + 1 ∧ RoadKit.Exa Z h' x ST ∧ RoadKit.Fld Z h' x ST "value" "[B" (.ref h.size) ∧ RoadKit.Fld Z h' x ST "coder" "B" (.int 0) ∧
  (∃ V : Cell, RoadKit.Arr Z h' h.size V .byte ∧ V.vm = .none ∧ Z.vm.findClass "[B" = some V.cls ∧ V.slots.size = A.slots.size ∧ ∀ j, j < A.slots.size → V.slots[j]? = some (.int (lo8 (cv A j)))) ∧
  ∀ (O n d : String) (w : Value), RoadKit.Fld Z h x O n d w → RoadKit.slotOf Z O n d ≠ RoadKit.slotOf Z ST "value" "[B" → RoadKit.slotOf Z O n d ≠ RoadKit.slotOf Z ST "coder" "B" → RoadKit.Fld Z h' x O n d w
/-- **new String(chars) AT A CALL, IN THE ROAD'S FORM**: for specialBack behind newO: x the fresh String, b the char[] with the cell A -/
theorem back {p : Program} {l : Launch} {e : Env} {R : Room} {s : State} {args : Array Value} {below : List Frame} {len W : Nat} {Z : State} {a0 : Array Value} {h : Heap} (hZ : Z.Warmed39 s.vm) (hw : ∀ d ∈ words, d.before a0 Z = true) {kI : Nat} (wi : (Jvm.Cond.instantiable ST kI).before a0 Z = true)
    {x b : Addr} {A : Cell} {z : Int32} {v0 c0 : Value} (E : RoadKit.Exa Z h x ST) (V : RoadKit.Fld Z h x ST "value" "[B" v0) (C : RoadKit.Fld Z h x ST "coder" "B" c0) (K : RoadKit.Arr Z h b A .char) (hty : Typed .char A) (S : RoadKit.Sta Z h ST "COMPACT_STRINGS" "Z" (.int z)) (hz : ¬ z = 0)
    (l0 : 0 < A.slots.size) (l2 : A.slots.size ≤ 536870912) (hp : ∀ i, i < A.slots.size → ¬ 255 < cv A i) (hfr : 4 ≤ R.frames) (hlo : W + 65 ≤ R.locals) :
    Back l R p e below s args New1.yN len W (fun P a => a = #[.ref x, .ref b] ∧ P.U.heap = h ∧ P.cells + 1 ≤ R.cells ∧ P.slots + A.slots.size ≤ R.slots)
      (fun P _ v B => ∃ L, Q Z x A h v B.U.heap L ∧ B.locs = P.locs ++ L ∧ B.cells = P.cells + 1 ∧ B.slots = P.slots + A.slots.size) := by
  intro m meth c P g ig mk a X hg hsize hdg hW hn hp'
  obtain ⟨rfl, rfl, r1, r2⟩ := hp'
  have al : Z.vm.Alike P.U.vm := hZ.alike.trans X.warmed.alike
  obtain ⟨D, cfV, kV, iV, fV, hD, gV, stV, knV, obV, asV, slV⟩ := id V
  obtain ⟨D', cfC, kC, iC, fC, hD', gC, stC, -, -, asC, slC⟩ := id C
  cases hD.symm.trans hD'
  obtain ⟨D2, kD, e1, e2, e3, e4, e5⟩ := id E
  cases hD.symm.trans e1
  obtain ⟨c2, k2, i1, i2, i3, -⟩ := Cond.instantiable_spec wi
  cases e2.symm.trans i1
  cases e3.symm.trans i2
  obtain ⟨kU, u1, u2⟩ := al.2.2 _ _ e3
  have hB : Blank ST x D P.U := ⟨hD, ⟨knV, fun q hq => by rw [hq] at obV; cases obV⟩, by rw [al.findClass]; exact e2, kU, u1, by rw [u2]; exact i3, by rw [u2]; exact e5 i3⟩
  have F1 : Found ST "value" "[B" fV P.U := ⟨SBG.found_only al ⟨cfV, kV, iV, gV⟩, stV⟩
  have F2 : Found ST "coder" "B" fC P.U := ⟨SBG.found_only al ⟨cfC, kC, iC, gC⟩, stC⟩
  have hA : Ch b A P.U := ⟨⟨K.1, State.isArrayOf_alike al K.2.1, K.2.2, by omega⟩, hty⟩
  have hS : StaticIs P.U ST "COMPACT_STRINGS" "Z" (.int z) := by
    obtain ⟨cfS, iS, kS, fS, st, cS, t1, t2, t3, t4, t5, t6, t7⟩ := S
    exact StaticIs.there (s := { Z with heap := P.U.heap }) ⟨cfS, iS, kS, fS, st, cS, t1, t2, t3, t4, t5, (fun q => by rw [q] at t6; cases t6), t7⟩ al rfl
  obtain ⟨v, B, X', ⟨⟨hv, E', V', q1, q2, q3, q4, q5, q6, q7, q8, q9, q10, q11⟩, hl, hc, hs⟩, st⟩ := New1.pays x D fV fC b A z (tab_of (moved hZ hw)) hfr hlo m meth c P g ig mk _ X hg hsize hdg hW hn ⟨r1, r2, rfl, hB, F1, F2, hA, hS, hz, l0, l2, hp⟩
  have al' : Z.vm.Alike B.U.vm := hZ.alike.trans X'.warmed.alike
  have hsz : E'.slots.size = D.slots.size := by
    obtain ⟨-, -, -, kB, w1, w2, w3⟩ := q1
    obtain ⟨kB', y1, y2⟩ := al'.2.2 _ _ e3
    rw [q2.2.1] at w1
    cases w1.symm.trans y1
    rw [w3, e5 i3, y2]
  refine ⟨v, B, X', ⟨_, ⟨hv, ?_, ⟨by omega, fun y cy hy hn' => q10 y cy (by simpa using hn') hy, fun y cy hy => ?_⟩, q11, ⟨E', _, q1.1, by rw [q2.2.1]; exact e2, by rw [q2.2.1]; exact e3, by rw [q2.1]; exact obV, fun _ => by rw [hsz]; exact e5 i3⟩,
    ⟨E', cfV, kV, iV, fV, q1.1, gV, stV, by rw [q2.1]; exact knV, by rw [q2.1]; exact obV, by rw [q2.2.1]; exact asV, q3⟩, ⟨E', cfC, kC, iC, fC, q1.1, gC, stC, by rw [q2.1]; exact knV, by rw [q2.1]; exact obV, by rw [q2.2.1]; exact asC, q4⟩,
    ⟨V', ⟨q5.1, State.isArrayOf_alike al'.symm q5.2.1, q5.2.2.1⟩, q6, by rw [← al'.findClass]; exact q7, q8, fun j hj => by have := q9 j hj; rwa [Nat.zero_add] at this⟩, fun O n d w F n1 n2 => ?_⟩, hl, hc, hs⟩, st⟩
  · intro y hy
    simp only [List.mem_cons, List.not_mem_nil, or_false] at hy
    rcases hy with rfl | rfl <;> rfl
  · by_cases q : y = x
    · subst q
      cases hD.symm.trans hy
      exact ⟨E', q1.1, q2.2.1, q2.1, hsz⟩
    · exact ⟨cy, q10 y cy q hy, rfl, rfl, rfl⟩
  · obtain ⟨D3, cf, k, i, f, g1, g2, g3, g4, g5, g6, g7⟩ := F
    cases hD.symm.trans g1
    simp only [RoadKit.slotOf, g2, gV, gC, Option.map_some, Option.getD_some] at n1 n2
    exact ⟨E', cf, k, i, f, q1.1, g2, g3, by rw [q2.1]; exact g4, by rw [q2.1]; exact g5, by rw [q2.2.1]; exact g6, by rw [q2.2.2 f.slot (by simp [n1, n2])]; exact g7⟩
end StrChars.Road
namespace StrChars.Road
open Jvm Sem ClassFile Op Lib Jvm.Stand Jvm.Free Jvm.Free.XT
/-- WHAT COMES BACK, the byte[] as a list of values -/
def QA (Z : State) (x : Addr) (zn : Int32) (cs : List Int32) (h : Heap) (v : Option Value) (h' : Heap) (L : List Loc) : Prop := v = none ∧ (∀ y ∈ L, y.base = x) ∧ RoadKit.Keep h h' [x] ∧ h'.size = h.size + 1 ∧ RoadKit.Exa Z h' x ST ∧ RoadKit.Fld Z h' x ST "value" "[B" (.ref h.size) ∧ RoadKit.Fld Z h' x ST "coder" "B" (.int 0) ∧
  (∃ kb, Z.vm.findClass "[B" = some kb ∧ RoadKit.Arv Z h' h.size kb .byte zn (cs.map fun c => .int (lo8 c)) (.int 0)) ∧
  ∀ (O n d : String) (w : Value), RoadKit.Fld Z h x O n d w → RoadKit.slotOf Z O n d ≠ RoadKit.slotOf Z ST "value" "[B" → RoadKit.slotOf Z O n d ≠ RoadKit.slotOf Z ST "coder" "B" → RoadKit.Fld Z h' x O n d w
/-- **new String(chars) AT A CALL, THE ARRAYS AS LISTS**: the char[] at b holds cs, not empty, no char above 255 -/
theorem backArv {p : Program} {l : Launch} {e : Env} {R : Room} {s : State} {args : Array Value} {below : List Frame} {len W : Nat} {Z : State} {a0 : Array Value} {h : Heap} (hZ : Z.Warmed39 s.vm) (hw : ∀ d ∈ words, d.before a0 Z = true) {kI : Nat} (wi : (Jvm.Cond.instantiable ST kI).before a0 Z = true)
    {x b : Addr} {k : ClassId} {zn z : Int32} {cs : List Int32} {dv v0 c0 : Value} (E : RoadKit.Exa Z h x ST) (V : RoadKit.Fld Z h x ST "value" "[B" v0) (C : RoadKit.Fld Z h x ST "coder" "B" c0) (K : RoadKit.Arv Z h b k .char zn (cs.map Value.int) dv) (S : RoadKit.Sta Z h ST "COMPACT_STRINGS" "Z" (.int z)) (hz : ¬ z = 0)
    (hlen : zn.toNatClampNeg = cs.length) (h0 : 0 < cs.length) (hbig : cs.length ≤ 536870912) (hall : ∀ c ∈ cs, ¬ 255 < c) (hfr : 4 ≤ R.frames) (hlo : W + 65 ≤ R.locals) :
    Back l R p e below s args New1.yN len W (fun P a => a = #[.ref x, .ref b] ∧ P.U.heap = h ∧ P.cells + 1 ≤ R.cells ∧ P.slots + cs.length ≤ R.slots)
      (fun P _ v B => ∃ L, QA Z x zn cs h v B.U.heap L ∧ B.locs = P.locs ++ L ∧ B.cells = P.cells + 1 ∧ B.slots = P.slots + cs.length) := by
  obtain ⟨A, K1, K2, K3, K4, K5, K6⟩ := K
  have e : A.slots.size = cs.length := K3.trans hlen
  have hat : ∀ (i : Nat) (hi : i < cs.length), A.slots[i]? = some (.int cs[i]) := fun i hi => by rw [K5 i (by omega)]; simp [List.getD_eq_getElem?_getD, hi]
  have hcv : ∀ (i : Nat) (hi : i < cs.length), cv A i = cs[i] := fun i hi => by unfold cv; rw [hat i hi]
  have hty : Typed .char A := fun i v hv => by
    have hi : i < A.slots.size := (Array.getElem?_eq_some_iff.mp hv).1
    have q := K5 i hi
    rw [hv] at q
    rw [Option.some.inj q]
    exact K6 i hi
  refine Back.mono (back hZ hw wi E V C K1 hty S hz (by omega) (by omega) (fun i hi => by rw [hcv i (by omega)]; exact hall _ (List.getElem_mem _)) hfr hlo) (fun P a hp => ⟨hp.1, hp.2.1, hp.2.2.1, by rw [e]; exact hp.2.2.2⟩) (fun P a v B hp hq => ?_)
  obtain ⟨L, ⟨q1, q2, q3, q4, q5, q6, q7, ⟨V', v1, v2, v3, v4, v5⟩, q9⟩, hl, hc, hs⟩ := hq
  refine ⟨L, ⟨q1, q2, q3, q4, q5, q6, q7, ⟨V'.cls, v3, V', v1, rfl, by rw [v4, e, hlen], K4, fun i hi => ?_, fun i hi => ?_⟩, q9⟩, hl, hc, by rw [hs, e]⟩
  · have hi' : i < cs.length := by omega
    rw [v5 i (by omega), hcv i hi']; simp [List.getD_eq_getElem?_getD, hi']
  · have hi' : i < cs.length := by omega
    simp only [List.getD_eq_getElem?_getD, List.getElem?_map, List.getElem?_eq_getElem hi', Option.map_some, Option.getD_some]
    exact fits_lo8 _
end StrChars.Road
namespace StrChars.Road
open Jvm Sem ClassFile Op Lib Jvm.Stand Jvm.Free Jvm.Free.XT
/-- WHAT COMES BACK, in the writer's own shape -/
def QV (Z : State) (x : Addr) (N : Int32) (bs : List Int32) (h : Heap) (n0 : Nat) (v : Option Value) (h' : Heap) (L : List Loc) : Prop := v = none ∧ RoadKit.Fr n0 L ∧ RoadKit.Keep h h' [x] ∧ RoadKit.Exa Z h' x ST ∧ RoadKit.Fld Z h' x ST "coder" "B" (.int 0) ∧
  ∃ (t : Addr) (kb : ClassId), n0 ≤ t ∧ h.size ≤ t ∧ ¬ t = x ∧ RoadKit.Fld Z h' x ST "value" "[B" (.ref t) ∧ RoadKit.Arv Z h' t kb .byte N (bs.map Value.int) (.int 0)
/-- **new String(chars) AT A CALL, FOR THE WRITER**: a char[] of n known ints, each 0 to 255 -/
theorem backV {p : Program} {l : Launch} {e : Env} {R : Room} {s : State} {args : Array Value} {below : List Frame} {len W : Nat} {Z : State} {a0 : Array Value} {h : Heap} (hZ : Z.Warmed39 s.vm) (hw : ∀ d ∈ words, d.before a0 Z = true) {kI : Nat} (wi : (Jvm.Cond.instantiable ST kI).before a0 Z = true)
    {x b : Addr} {kC : ClassId} {cs bs : List Int32} {d v0 c0 : Value} {z N : Int32} {n n0 : Nat} (hx0 : n0 ≤ x) (hh0 : n0 ≤ h.size) (E : RoadKit.Exa Z h x ST) (V : RoadKit.Fld Z h x ST "value" "[B" v0) (C : RoadKit.Fld Z h x ST "coder" "B" c0) (K : RoadKit.Arv Z h b kC .char N (cs.map Value.int) d) (S : RoadKit.Sta Z h ST "COMPACT_STRINGS" "Z" (.int z)) (hz : ¬ z = 0)
    (hn : cs.length = n) (hN : N = Int32.ofNat n) (l0 : 0 < n) (l2 : n ≤ 4000) (hp : ∀ c ∈ cs, ¬ c < 0 ∧ ¬ (255 : Int32) < c) (hb : bs = cs.map (fun c => c.toInt8.toInt32)) (hfr : 4 ≤ R.frames) (hlo : W + 65 ≤ R.locals) :
    Back l R p e below s args (⟨"java/lang/String", "<init>", "([C)V"⟩ : MethodName) len W (fun P a => a = #[.ref x, .ref b] ∧ P.U.heap = h ∧ P.cells + 1 ≤ R.cells ∧ P.slots + n ≤ R.slots)
      (fun P _ v B => ∃ L, QV Z x N bs h n0 v B.U.heap L ∧ B.locs = P.locs ++ L ∧ B.cells = P.cells + 1 ∧ B.slots = P.slots + n) := by
  subst hn hN hb
  refine Back.mono (backArv hZ hw wi E V C K S hz (n32 (by omega)) l0 (by omega) (fun c hc => (hp c hc).2) hfr hlo) (fun P a hp => hp) (fun P a v B hp hq => ?_)
  obtain ⟨L, ⟨q1, q2, q3, q4, q5, q6, q7, ⟨kb, v1, v2⟩, q9⟩, hl, hc, hs⟩ := hq
  exact ⟨L, ⟨q1, fun y hy => by rw [q2 y hy]; exact hx0, q3, q5, q7, h.size, kb, hh0, Nat.le_refl _, Nat.ne_of_gt E.lt, q6, by rw [List.map_map]; exact v2⟩, hl, hc, hs⟩
end StrChars.Road
namespace StrChars
open Jvm Sem ClassFile Op Lib Jvm.Stand Jvm.Free.XT Jvm.Free.ALB Jvm.Free.JM Jvm.Free
open Jvm.Lib.Cold (StaticIs)
theorem shr0 (c : Int32) : c >>> ((0 : Int32) &&& 31) = c := by
  have e : ((0 : Int32) &&& 31) = 0 := by decide
  rw [e]
  apply Int32.toBitVec_inj.mp
  rw [Int32.toBitVec_shiftRight]
  have e1 : ((0 : Int32).toBitVec.smod 32) = 0#32 := by decide
  rw [e1, BitVec.sshiftRight_eq']
  exact BitVec.sshiftRight_zero
end StrChars
end Jvm.Pilot.@@N@@
namespace Jvm.Pilot.@@N@@
open Jvm Jvm.ClassFile Sem Op Lib Jvm.Free Jvm.Stand Jvm.LawKit Jvm.RoadKit Bundle Jvm.Pilot.@@N@@.Jvm.D
section Own
variable {p : Program} {l : Launch} {e : Env} {R : Room} {s : State} {m : MethodId} {args : Array Value} {below : List Frame} {meth : Method} {c : Code} {T S S' : State} {locs : List Loc} {cells slots : Nat} {Z : State} {a0 : Array Value} {h h' : Heap}
/-- from S the walk comes to an end that P holds of -/
def OwnEnd (p : Program) (e : Env) (below : List Frame) (P : Outcome → State → Prop) (S : State) : Prop := ∃ s₂ o, Steps p.tables e below S s₂ ∧ s₂.status = .running ∧ Ended s₂ below o ∧ P o s₂
theorem OwnEnd.of {P : Outcome → State → Prop} (h : ∀ t, Steps p.tables e below S' t → Steps p.tables e below S t) (k : OwnEnd p e below P S') : OwnEnd p e below P S := by
  obtain ⟨s2, o, a, r⟩ := k; exact ⟨s2, o, h _ a, r⟩
theorem OwnEnd.tr {P : Outcome → State → Prop} (h : Steps p.tables e below S S') (k : OwnEnd p e below P S') : OwnEnd p e below P S := OwnEnd.of (fun _ q => h.trans q) k
theorem OwnEnd.start {P : Outcome → State → Prop} {n : Nat} {g' : JFrame} (h : entryFrame m args n = g') (k : OwnEnd p e below P (T.setTop g')) :
    ∃ s₂ o, Steps p.tables e below (T.setTop (entryFrame m args n)) s₂ ∧ s₂.status = .running ∧ Ended s₂ below o ∧ P o s₂ := by rw [h]; exact k
theorem OwnEnd.ret (X : Stand p l e R s m args below meth c T locs cells slots) {v : Option Value} (hv : meth.sig.returnType = none → v = none) (hlk : meth.locks = false)
    (st : ∀ fs, (∀ (f : JFrame) (acts : List Action), f.method = m → f.locked = none → f.entered = [] → (doReturn e (T.setTop f) acts v).1 = T.setFrames fs) → Steps p.tables e below S (T.setFrames fs))
    {k n : Nat} (hk : cells ≤ k) (hn : slots ≤ n) {Q : Option Value → Heap → List Loc → Prop} (eT : T.heap = h) (hq : Q v h locs) :
    OwnEnd p e below (fun o t => ∃ v L, o = .returned v ∧ Q v t.heap L ∧ FrameEnd s o t L k n) S := by
  obtain ⟨fs, hr, hrun, hended, hW, hsame⟩ := X.leave (v := v) hv hlk
  subst eT
  exact ⟨_, _, st fs hr, hrun, hended, v, locs, rfl, hq, ⟨_, rfl⟩, hW, hsame.mono hk hn⟩
theorem OwnEnd.retW {vm₁ : Vm} (X : Stand p l e R (s.setVm vm₁) m args below meth c T locs cells slots) {k0 : Nat} (hS : s.Since vm₁ k0) (hk0 : k0 ≤ Array.size h) {v : Option Value} (hv : meth.sig.returnType = none → v = none) (hlk : meth.locks = false)
    (st : ∀ fs, (∀ (f : JFrame) (acts : List Action), f.method = m → f.locked = none → f.entered = [] → (doReturn e (T.setTop f) acts v).1 = T.setFrames fs) → Steps p.tables e below S (T.setFrames fs))
    {k n : Nat} (hk : cells ≤ k) (hn : slots ≤ n) {Q : Option Value → Heap → List Loc → Prop} (eT : T.heap = h) (hq : Q v h locs) :
    OwnEnd p e below (fun o t => ∃ v L, o = .returned v ∧ Q v t.heap L ∧ ReturnedEndW s o t L k n) S := by
  subst eT
  obtain ⟨fs, hr, hrun, hended, hE⟩ := X.leaveW hS hk0 (v := v) hv hlk
  exact ⟨_, _, st fs hr, hrun, hended, v, locs, rfl, hq, hE.1, hE.2.1, hE.2.2.1, hE.2.2.2.mono hk hn⟩
theorem OwnEnd.retC {vm₁ : Vm} {EL : List (String × Nat)} {h0 : Heap} (hh : s.heap = h0) (hEL : EW Z a0 EL) (hZ : Z.Warmed39 vm₁) (X : Stand p l e R (s.setVm vm₁) m args below meth c T locs cells slots) {k0 : Nat} (hS : s.Since vm₁ k0) (hk0 : k0 ≤ Array.size h) {v : Option Value} (hv : meth.sig.returnType = none → v = none) (hlk : meth.locks = false)
    (st : ∀ fs, (∀ (f : JFrame) (acts : List Action), f.method = m → f.locked = none → f.entered = [] → (doReturn e (T.setTop f) acts v).1 = T.setFrames fs) → Steps p.tables e below S (T.setFrames fs))
    {k n : Nat} (hk : cells ≤ k) (hn : slots ≤ n) {Q : Option Value → Heap → List Loc → Prop} (eT : T.heap = h) (hR : CHr Z EL s.vm h0 vm₁ h) (hq : Q v h locs) :
    OwnEnd p e below (fun o t => ∃ v L, o = .returned v ∧ Q v t.heap L ∧ CHr Z EL s.vm s.heap t.vm t.heap ∧ ReturnedEndW s o t L k n) S := by
  subst eT hh
  obtain ⟨fs, hr, hrun, hended, hE⟩ := X.leaveW hS hk0 (v := v) hv hlk
  have q := CHv.at X hZ hEL hR.1
  exact ⟨_, _, st fs hr, hrun, hended, v, locs, rfl, hq, hR.trans q, hE.1, hE.2.1, hE.2.2.1, hE.2.2.2.mono hk hn⟩
theorem own_old_le {n0 : Nat} (O : Old Z n0 h) : n0 ≤ Array.size h := O.1 ▸ O.2.1
theorem own_wr_le {a : Addr} {sl : Nat} {v : Value} (W : Wr h h' a sl v) : Array.size h ≤ Array.size h' := Nat.le_of_eq W.size.symm
theorem own_ltN' {a n : Nat} (q : a < n) : @LT.lt Nat instLTNat a n := q
theorem own_ltB {a n : Nat} (q : @LT.lt Nat instLTNat a n) : a < n := q
theorem own_ne {a b : Nat} (q : @LT.lt Nat instLTNat a b ∨ @LT.lt Nat instLTNat b a) : a ≠ b := by rcases q with q | q <;> omega
theorem own_neN {a b : Nat} (q : a ≠ b) : @Ne Nat a b := q
theorem own_nin1 {a b : Addr} (h : a ≠ b) : a ∉ [b] := ninS h nin0
theorem own_nin2 {a b d : Addr} (h : a ≠ b) (h2 : a ≠ d) : a ∉ [b, d] := ninS h (own_nin1 h2)
theorem own_nin3 {a b d f : Addr} (h : a ≠ b) (h2 : a ≠ d) (h3 : a ≠ f) : a ∉ [b, d, f] := ninS h (own_nin2 h2 h3)
theorem own_all0 {P : Addr → Prop} : ∀ x ∈ ([] : List Addr), P x := all0
theorem own_all1 {P : Addr → Prop} {a : Addr} (h : P a) : ∀ x ∈ [a], P x := allS h all0
theorem own_all2 {P : Addr → Prop} {a b : Addr} (h : P a) (h2 : P b) : ∀ x ∈ [a, b], P x := allS h (own_all1 h2)
theorem own_all3 {P : Addr → Prop} {a b d : Addr} (h : P a) (h2 : P b) (h3 : P d) : ∀ x ∈ [a, b, d], P x := allS h (own_all2 h2 h3)
theorem own_cat1 {v : Value} (h : v.isRef = true) : v.category = 1 := by rcases ref_cases h with rfl | ⟨_, rfl⟩ <;> rfl
theorem own_fits_ref {v : Value} {t : FieldType} (h : v.isRef = true) (ht : t.isReference = true) : fits t v = true := by
  rcases ref_cases h with rfl | ⟨_, rfl⟩ <;> cases t <;> first | rfl | cases ht
theorem own_nar_ref {v : Value} {t : FieldType} (h : v.isRef = true) (ht : t.isReference = true) : narrow t v = v := by
  rcases ref_cases h with rfl | ⟨_, rfl⟩ <;> cases t <;> first | rfl | cases ht
theorem own_nar_cc (x : Int32) : nar .char (nar .char x) = nar .char x := by
  obtain ⟨h1, h2⟩ := rng_char (fits_nar_char x)
  have a := (c_i2c (nar .char x)); have b := c_i2c x
  have r := rng32 (nar .char x)
  apply Int32.toInt_inj.mp
  show (nar .char x).toUInt32.toUInt16.toUInt32.toInt32.toInt = (nar .char x).toInt
  have q1 : (nar .char x).toInt = x.toUInt32.toUInt16.toUInt32.toInt32.toInt := rfl
  omega
theorem own_c255 (x : Int32) : ¬ nar .char (x &&& (255 : Int32)) < 0 ∧ ¬ (255 : Int32) < nar .char (x &&& (255 : Int32)) := by
  have a := c_i2c (x &&& 255); have b := c_and x 255 (by decide)
  have q1 : (nar .char (x &&& 255)).toInt = (x &&& (255 : Int32)).toUInt32.toUInt16.toUInt32.toInt32.toInt := rfl
  have e0 : (0 : Int32).toInt = 0 := rfl
  have e2 : (255 : Int32).toInt = 255 := rfl
  rw [Int32.lt_iff_toInt_lt, Int32.lt_iff_toInt_lt]
  omega
theorem own_up (cs : List Int32) (h : ∀ c ∈ cs, ¬ c < 0 ∧ ¬ (255 : Int32) < c) : ∀ c ∈ cs, ¬ c < 0 ∧ ¬ (65535 : Int32) < c := fun c hc => ⟨(h c hc).1, fun q => (h c hc).2 (by rw [Int32.lt_iff_toInt_lt] at q ⊢; have e1 : (65535 : Int32).toInt = 65535 := rfl; have e2 : (255 : Int32).toInt = 255 := rfl; omega)⟩
end Own
section Own2
theorem own_notI {args : Array Value} {s : State} {C : String} {x z y : MethodName} (w : (Cond.selects C x z).before args s = true) (e : z.cls = y.cls) : NotFace s y := fun r0 h0 => by
  obtain ⟨c2, r2, m2, q1, q2, q3, q4, kP, hkP, hkPi⟩ := Cond.selects_spec w
  have a := findClass_of_methodNamed q3
  have b := findClass_of_methodNamed h0
  rw [e] at a
  have q : m2.cls = r0.cls := Option.some.inj (a.symm.trans b)
  exact ⟨kP, by rw [← q]; exact hkP, hkPi⟩
theorem own_same {args : Array Value} {s : State} {y : MethodName} (hn : NotFace s y) (hi : (Cond.instanceMethod y).before args s = true) (hy : y.cls ≠ "java/lang/invoke/MethodHandle" ∧ y.cls ≠ "java/lang/invoke/VarHandle") : (Cond.sameMethod y.cls y.cls y.name y.desc).before args s = true := by
  obtain ⟨mk, methM, hnamed, -⟩ := Cond.instanceMethod_spec hi
  obtain ⟨k, hk, hki⟩ := hn _ hnamed
  have hc := findClass_of_methodNamed hnamed
  have hf := State.methodFound?_of_named hnamed hy
  have hnm : s.methodNamed? ⟨y.cls, y.name, y.desc⟩ = some mk := hnamed
  simp [Cond.before, Cond.holds, Cond.value, hc, hf, hnm, hk, hki]
theorem own_selP {args : Array Value} {s : State} {y : MethodName} (hn : NotFace s y) (hi : (Cond.instanceMethod y).before args s = true) (hp : s.PrivateAt y) (hy : y.cls ≠ "java/lang/invoke/MethodHandle" ∧ y.cls ≠ "java/lang/invoke/VarHandle") : (Cond.selects y.cls y y).before args s = true := by
  obtain ⟨mk, methM, hnamed, -⟩ := Cond.instanceMethod_spec hi
  obtain ⟨k, hk, hki⟩ := hn _ hnamed
  exact selects_self_of_private (findClass_of_methodNamed hnamed) hk hki hp hi hy
theorem own_nost {cell : Cell} (h : cell.vm.isStatics = false) : ∀ q, cell.vm ≠ .statics q := fun q e => by rw [e] at h; cases h
theorem own_sto {Z : State} {h : Heap} {a y : Addr} {cl : Cell} {k : ClassId} {ty : FieldType} {C : String} (A : Arr Z h a cl ty) (q : cl.cls = k) (O : Ovr Z k C) (I : Ins Z h y C true) : Sto Z h a (.ref y) := Sto.of A (by rw [q]; exact O) I
end Own2
def OwnG (Z : State) (a0 : Array Value) : Prop := (∀ d ∈ tables_1, d.before a0 Z = true) ∧ (∀ d ∈ jdkStatics_1, d.before a0 Z = true) ∧ Jvm.Lit.constsHeld consts_1 Z
theorem own_w {Z : State} {a0 : Array Value} (G : OwnG Z a0) (i : Nat) {d : Jvm.Cond} (h : tables_1[i]? = some d) : d.before a0 Z = true := G.1 _ (List.mem_of_getElem? h)
abbrev own_m0 : MethodName := ⟨"java/lang/String", "<init>", "([CIILjava/lang/Void;)V"⟩
abbrev own_m1 : MethodName := ⟨"java/lang/String", "<init>", "([C)V"⟩
abbrev own_m2 : MethodName := ⟨"jdk/internal/util/Preconditions", "checkIndex", "(IILjava/util/function/BiFunction;)I"⟩
abbrev own_m3 : MethodName := ⟨"java/lang/String", "checkIndex", "(II)V"⟩
abbrev own_m4 : MethodName := ⟨"java/lang/String", "isLatin1", "()Z"⟩
abbrev own_m5 : MethodName := ⟨"java/lang/String", "coder", "()B"⟩
abbrev own_m6 : MethodName := ⟨"java/lang/String", "length", "()I"⟩
abbrev own_m7 : MethodName := ⟨"java/lang/StringLatin1", "charAt", "([BI)C"⟩
abbrev own_m8 : MethodName := ⟨"java/lang/String", "charAt", "(I)C"⟩
abbrev own_m9 : MethodName := ⟨"java/lang/AbstractStringBuilder", "isLatin1", "()Z"⟩
abbrev own_m10 : MethodName := ⟨"java/lang/AbstractStringBuilder", "<init>", "(I)V"⟩
abbrev own_m11 : MethodName := ⟨"java/lang/StringBuilder", "<init>", "()V"⟩
abbrev own_m12 : MethodName := ⟨"java/lang/AbstractStringBuilder", "ensureCapacityInternal", "(I)V"⟩
abbrev own_m13 : MethodName := ⟨"java/lang/AbstractStringBuilder", "length", "()I"⟩
abbrev own_m14 : MethodName := ⟨"java/lang/StringBuilder", "length", "()I"⟩
abbrev own_m15 : MethodName := ⟨"java/lang/AbstractStringBuilder", "getValue", "()[B"⟩
abbrev own_m16 : MethodName := ⟨"java/lang/AbstractStringBuilder", "inflateIfNeededFor", "(Ljava/lang/String;)V"⟩
abbrev own_m17 : MethodName := ⟨"java/lang/String", "getBytes", "([BIB)V"⟩
abbrev own_m18 : MethodName := ⟨"java/lang/AbstractStringBuilder", "putStringAt", "(ILjava/lang/String;)V"⟩
abbrev own_m19 : MethodName := ⟨"java/lang/AbstractStringBuilder", "append", "(Ljava/lang/String;)Ljava/lang/AbstractStringBuilder;"⟩
abbrev own_m20 : MethodName := ⟨"java/lang/StringBuilder", "append", "(Ljava/lang/String;)Ljava/lang/StringBuilder;"⟩
abbrev own_m21 : MethodName := ⟨"java/lang/Integer", "stringSize", "(I)I"⟩
abbrev own_m22 : MethodName := ⟨"java/lang/Integer", "getChars", "(II[B)I"⟩
abbrev own_m23 : MethodName := ⟨"java/lang/AbstractStringBuilder", "append", "(I)Ljava/lang/AbstractStringBuilder;"⟩
abbrev own_m24 : MethodName := ⟨"java/lang/StringBuilder", "append", "(I)Ljava/lang/StringBuilder;"⟩
abbrev own_m25 : MethodName := ⟨"java/util/Arrays", "checkLength", "(II)V"⟩
abbrev own_m26 : MethodName := ⟨"java/lang/Math", "min", "(II)I"⟩
abbrev own_m27 : MethodName := ⟨"java/util/Arrays", "copyOfRangeByte", "([BII)[B"⟩
abbrev own_m28 : MethodName := ⟨"java/util/Arrays", "copyOfRange", "([BII)[B"⟩
abbrev own_m29 : MethodName := ⟨"java/lang/String", "<init>", "(Ljava/lang/AbstractStringBuilder;Ljava/lang/Void;)V"⟩
abbrev own_m30 : MethodName := ⟨"java/lang/String", "<init>", "(Ljava/lang/StringBuilder;)V"⟩
abbrev own_m31 : MethodName := ⟨"java/lang/StringBuilder", "toString", "()Ljava/lang/String;"⟩
abbrev own_m32 : MethodName := ⟨"java/lang/Record", "<init>", "()V"⟩
abbrev own_m33 : MethodName := ⟨"com/example/tallystick/tallystick/cli/HostPort", "<init>", "(Ljava/lang/String;I)V"⟩
abbrev own_m34 : MethodName := ⟨"com/example/tallystick/tallystick/cli/HostPort", "toString", "()Ljava/lang/String;"⟩
abbrev own_m35 : MethodName := ⟨"java/lang/Math", "abs", "(J)J"⟩
abbrev own_m36 : MethodName := ⟨"com/example/tallystick/tallystick/cli/HostPortToStringPinLaw", "digits", "(J)I"⟩
abbrev own_m37 : MethodName := ⟨"com/example/tallystick/tallystick/cli/HostPortToStringPinLaw", "pow10", "(I)J"⟩
abbrev own_m38 : MethodName := ⟨"com/example/tallystick/tallystick/cli/HostPortToStringPinLaw", "digitOk", "(Ljava/lang/String;IJII)Z"⟩
theorem own_cs {Z : State} {a0 : Array Value} (G : OwnG Z a0) : ∃ z : Int32, Sta Z Z.heap "java/lang/String" "COMPACT_STRINGS" "Z" (.int z) ∧ ¬ z = (0 : Int32) := by
  have hs := G.2.1
  obtain ⟨i, e⟩ := is_v (Cond.before_iff.mp (hs _ (List.mem_of_getElem? (i := 1) rfl)))
  have n5 := not_v (Cond.before_iff.mp (hs _ (List.mem_of_getElem? (i := 2) rfl)))
  exact ⟨i, Sta.start e (Or.inl (hs _ (List.mem_of_getElem? (i := 0) rfl))), gotF (Cond.eq_ints e (Term.int_eval (0))) n5⟩
theorem own_atoms : ∀ d ∈ Bundle.stringAtoms, d ∈ tables_1 := by decide +kernel
theorem own_wS {Z : State} {a0 : Array Value} (G : OwnG Z a0) : ∀ d ∈ Bundle.stringAtoms, d.before a0 Z = true := fun d hd => G.1 d (own_atoms d hd)
theorem own_EW {Z : State} {a0 : Array Value} (G : OwnG Z a0) : EW Z a0 consts_1 := by
  have hw := G.1
  exact EW.cons (own_w G 109 rfl) (by decide) (EW.cons (own_w G 14 rfl) (by decide) EW.nil)
theorem own_CH {Z : State} {a0 : Array Value} (G : OwnG Z a0) : CHv Z consts_1 Z.vm Z.heap :=
  CHv.start (own_EW G) G.2.2 (G.2.1 _ (List.mem_of_getElem? (i := 2) rfl)) (own_wS G _ (by simp [Bundle.stringAtoms])) (own_wS G _ (by simp [Bundle.stringAtoms, Bundle.sN]))
/-- a String whose value is null yet is no constant that the JVM holds -/
theorem own_safe_null {Z : State} {h : Heap} {x : Addr} {vm : Vm} {EL : List (String × Nat)} (hal : Z.vm.Alike vm) (E : Exa Z h x "java/lang/String") (F : Fld Z h x "java/lang/String" "value" "[B" .null) : Safe Z EL vm h x := fun B => by
  obtain ⟨cell, k, e1, e2, e3, -, -⟩ := E
  obtain ⟨cell', cf, k', i, f, g1, g2, g3, -, -, -, g7⟩ := F
  cases e1.symm.trans g1
  obtain ⟨p, -, u, a, -, q, -, F', rfl | rfl⟩ := B
  · cases (show h[q.sa]? = some q.sC from F'.ha).symm.trans e1
    obtain ⟨cS, ⟨⟨-, -, -, ⟨c1, k1, i1, f1, -⟩, -, -, -, v1, -⟩, -⟩, -⟩ := F'
    obtain ⟨k3, q3, -⟩ := State.fieldFound?_setVm (s := Z) hal g2
    have e4 := (show (Wst Z vm h).fieldFound? "java/lang/String" "value" "[B" = some (cf, k3, i, f) from q3).symm.trans f1
    simp only [Option.some.injEq, Prod.mk.injEq] at e4
    rw [← e4.2.2.2, g7] at v1
    cases v1
  · cases (show h[q.sd]? = some q.SA from F'.hd).symm.trans e1
    obtain ⟨cS, -, -, fB, -⟩ := F'
    have fB' : Z.vm.findClass "[B" = some q.SA.cls := by rw [← hal.findClass]; exact fB
    obtain ⟨k1, q1, q2⟩ := Vm.findClass_spec fB'
    obtain ⟨k2, q3, q4⟩ := Vm.findClass_spec e2
    cases q1.symm.trans q3
    exact absurd (q2.symm.trans q4) (by decide)
theorem own_fm {Z : State} {a0 : Array Value} (G : OwnG Z a0) : ∃ v : Value, Sta Z Z.heap "jdk/internal/util/Preconditions" "SIOOBE_FORMATTER" "Ljava/util/function/BiFunction;" v ∧ v.isRef = true := by
  have hs := G.2.1
  obtain ⟨v, e, r⟩ := isR_v (Cond.before_iff.mp (hs _ (List.mem_of_getElem? (i := 8) rfl)))
  exact ⟨v, Sta.start e (Or.inl (hs _ (List.mem_of_getElem? (i := 7) rfl))), r⟩
def own_Qint (r : Int32) (h0 : Heap) (n0 : Nat) (v : Option Value) (h : Heap) (L : List Loc) : Prop := v = some (.int r) ∧ Fr n0 L ∧ h = h0
theorem own_255 {c : Int32} (h : ¬ (255 : Int32) < c) : ¬ (65535 : Int32) < c := fun q => h (by rw [Int32.lt_iff_toInt_lt] at q ⊢; have e1 : (65535 : Int32).toInt = 65535 := rfl; have e2 : (255 : Int32).toInt = 255 := rfl; omega)
theorem own_narc {c : Int32} (h0 : ¬ c < (0 : Int32)) (h1 : ¬ (65535 : Int32) < c) : nar .char c = c := by
  have a := c_i2c c
  have q1 : (nar .char c).toInt = c.toUInt32.toUInt16.toUInt32.toInt32.toInt := rfl
  rw [Int32.lt_iff_toInt_lt] at h0 h1
  have e1 : (65535 : Int32).toInt = 65535 := rfl
  have e0 : (0 : Int32).toInt = 0 := rfl
  apply Int32.toInt_inj.mp
  omega
theorem own_lat {c : Int32} (h0 : ¬ c < (0 : Int32)) (h1 : ¬ (255 : Int32) < c) : nar .char (nar .char (StrChars.lo8 c &&& (255 : Int32))) = c := by
  rw [own_nar_cc, StrChars.lo8_mask h0 h1, own_narc h0 (own_255 h1)]
theorem own_toInt {k : Nat} (h : k < 2 ^ 31) : (Int32.ofNat k).toInt = k := toInt_of rfl h
theorem own_clamp {k : Nat} (h : k < 2 ^ 31) : (Int32.ofNat k).toNatClampNeg = k := clamp_of rfl h
theorem own_nn {k : Nat} (h : k < 2 ^ 31) : ¬ Int32.ofNat k < (0 : Int32) := by
  rw [Int32.lt_iff_toInt_lt, own_toInt h]; have e0 : (0 : Int32).toInt = 0 := rfl; omega
theorem own_ltN {k n : Nat} (h : k < n) (hn : n < 2 ^ 31) : Int32.ofNat k < Int32.ofNat n := by
  rw [Int32.lt_iff_toInt_lt, own_toInt hn, own_toInt (by omega)]; omega
theorem own_dbl {k : Nat} (h : k < 2 ^ 29) : Int32.ofNat k <<< ((1 : Int32) &&& 31) = Int32.ofNat (2 * k) := by
  have a := c_ishl (Int32.ofNat k) 1 1 (by decide)
  have r := rng32 (Int32.ofNat k <<< ((1 : Int32) &&& 31))
  rw [own_toInt (by omega)] at a
  apply Int32.toInt_inj.mp
  rw [own_toInt (show 2 * k < 2 ^ 31 by omega)]
  omega
theorem own_inc {k : Nat} (h : k + 1 < 2 ^ 31) : Int32.ofNat k + (1 : Int32) = Int32.ofNat (k + 1) := (inc_ofNat k).symm
theorem own_half {cs : List Int32} (h : cs.length ≤ 4000) : Int32.ofNat (2 * cs.length) >>> ((1 : Int32) &&& 31) = Int32.ofNat cs.length := by
  have a := c_ishr (Int32.ofNat (2 * cs.length)) 1 1 (by decide)
  rw [own_toInt (by omega)] at a
  apply Int32.toInt_inj.mp
  rw [a, own_toInt (by omega)]
  omega
theorem own_shr0 (c : Int32) : c >>> ((0 : Int32) &&& 31) = c := StrChars.shr0 c
theorem own_getD_mem {cs : List Int32} {k : Nat} (h : k < cs.length) : cs.getD k 0 ∈ cs := by
  have e : cs.getD k 0 = cs[k] := by simp [List.getD_eq_getElem?_getD, h]
  rw [e]; exact List.getElem_mem _
theorem own_words : ∀ d ∈ StrChars.Road.words, d ∈ tables_1 := by decide +kernel
def OwnTab (Z : State) (a : Addr) (f : Int32 → Int32) : Prop := ∃ c : Cell, Arr Z Z.heap a c .byte ∧ c.slots.size = (100 : Int32).toNatClampNeg ∧ ∀ j : Int32, ¬ j < (0 : Int32) → j < (100 : Int32) → c.slots[j.toNatClampNeg]? = some (.int (f j))
def own_d1 (r : Int32) : Int32 := 48 + r % 10
def own_d2 (r : Int32) : Int32 := 48 + r / 10
theorem own_tabB {Z : State} {a0 : Array Value} {t F : Term} {f : Int32 → Int32} (et : ∀ idx, t.eval a0 Z none idx Z = t.eval a0 Z none [] Z) (we : (Cond.exactly t "[B").before a0 Z = true) (wl : (Cond.eq (Term.length t) (Term.int (100 : Int32))).before a0 Z = true)
    (wa : (Cond.all t (.eq (.elem t (.index 0)) F)).before a0 Z = true) (wb : (Cond.arrayClass .byte).before a0 Z = true) (hF : ∀ j : Int32, ¬ j < 0 → F.eval a0 Z none [j.toNatClampNeg] Z = some (.int (f j))) : ∃ a : Addr, t.eval a0 Z none [] Z = some (.ref a) ∧ OwnTab Z a f := by
  obtain ⟨a, c, cell, k, ev, hc, hcell, hk, hst, hcls, -⟩ := Cond.exactly_spec we
  have q := eqv_i (Term.int_eval (100 : Int32)) (Cond.before_iff.mp wl)
  obtain ⟨a', cell', e1, e2, e3⟩ := Term.length_spec q
  cases ev.symm.trans e1
  obtain ⟨g1, g2, -, -⟩ := State.arrayAt?_spec e2
  cases hcell.symm.trans g1
  obtain ⟨c2, k2, comp, f1, f2, f3⟩ := Cond.arrayClass_spec wb
  have fb : Z.vm.findClass "[B" = some c2 := f1
  cases hc.symm.trans fb
  have A : Arr Z Z.heap a cell .byte := ⟨hcell, ⟨(fun z h => by rw [h] at hst; cases hst), k2, (by rw [hcls]; exact f2), comp, f3⟩, g2⟩
  have zc : cell.slots.size = (100 : Int32).toNatClampNeg := by
    by_cases h31 : cell.slots.size < 2147483648
    · have e3' : (100 : Int32) = cell.slots.size.toInt32 := by simpa using e3
      have e4 := congrArg Int32.toInt e3'
      rw [len_toInt h31] at e4
      have e5 : (100 : Int32).toInt = 100 := rfl
      have e6 : (100 : Int32).toNatClampNeg = 100 := by decide
      omega
    · simp [Term.eval, ev, e2, h31] at q
  refine ⟨a, ev, cell, A, zc, fun j h0 h1 => ?_⟩
  have hin := inb_of zc ⟨h0, h1⟩
  have p := Cond.all_elim ev e2 (Cond.before_iff.mp wa) j.toNatClampNeg (Nat.lt_of_not_le fun x => hin (Or.inr x))
  have ei := idx_at (args := a0) (first := Z) (o := none) (s := Z) h0
  have r := eqv_i (hF j h0) p
  rw [elem_f ((et _).trans ev) ei e2 h0] at r
  exact r
theorem own_addf {Z : State} {a0 : Array Value} {idx : List Nat} {a b : Term} {x y : Int32} (ha : a.eval a0 Z none idx Z = some (.int x)) (hb : b.eval a0 Z none idx Z = some (.int y)) : (Term.add a b).eval a0 Z none idx Z = some (.int (x + y)) := by simp [Term.eval, ha, hb]
theorem own_f1 {Z : State} {a0 : Array Value} (j : Int32) (h : ¬ j < 0) : (Term.add (Term.int (48 : Int32)) (Term.rem (Term.index 0) (Term.int (10 : Int32)))).eval a0 Z none [j.toNatClampNeg] Z = some (.int (own_d1 j)) :=
  own_addf (Term.int_eval _) (rem_f (idx_at h) (Term.int_eval (10 : Int32)) (by decide))
theorem own_f2 {Z : State} {a0 : Array Value} (j : Int32) (h : ¬ j < 0) : (Term.add (Term.int (48 : Int32)) (Term.div (Term.index 0) (Term.int (10 : Int32)))).eval a0 Z none [j.toNatClampNeg] Z = some (.int (own_d2 j)) :=
  own_addf (Term.int_eval _) (div_f (idx_at h) (Term.int_eval (10 : Int32)) (by decide))
theorem own_tabs {Z : State} {a0 : Array Value} (G : OwnG Z a0) : ∃ aO aT : Addr, Sta Z Z.heap "java/lang/Integer" "DigitOnes" "[B" (.ref aO) ∧ Sta Z Z.heap "java/lang/Integer" "DigitTens" "[B" (.ref aT) ∧ OwnTab Z aO own_d1 ∧ OwnTab Z aT own_d2 := by
  have hs := G.2.1
  obtain ⟨a, ev, T1⟩ := own_tabB (t := .static "java/lang/Integer" "DigitOnes" "[B") (fun _ => rfl) (hs _ (List.mem_of_getElem? (i := 12) rfl)) (hs _ (List.mem_of_getElem? (i := 13) rfl)) (hs _ (List.mem_of_getElem? (i := 14) rfl)) (own_w G 15 rfl) own_f1
  obtain ⟨b, ew, T2⟩ := own_tabB (t := .static "java/lang/Integer" "DigitTens" "[B") (fun _ => rfl) (hs _ (List.mem_of_getElem? (i := 17) rfl)) (hs _ (List.mem_of_getElem? (i := 18) rfl)) (hs _ (List.mem_of_getElem? (i := 19) rfl)) (own_w G 15 rfl) own_f2
  exact ⟨a, b, Sta.start ev (Or.inl (hs _ (List.mem_of_getElem? (i := 11) rfl))), Sta.start ew (Or.inl (hs _ (List.mem_of_getElem? (i := 16) rfl))), T1, T2⟩
/-- the port's size, its sign, the count of its digits, its j-th digit as a char -/
def own_n (P : Int32) : Nat := P.toInt.natAbs
def own_sg (P : Int32) : Nat := if P < 0 then 1 else 0
def own_nd (n : Nat) : Nat := if n < 10 then 1 else if n < 100 then 2 else if n < 1000 then 3 else if n < 10000 then 4 else if n < 100000 then 5 else if n < 1000000 then 6 else if n < 10000000 then 7 else if n < 100000000 then 8 else if n < 1000000000 then 9 else 10
def own_dg (n j : Nat) : Int32 := Int32.ofNat (48 + n / 10 ^ j % 10)
theorem own_n_le (P : Int32) : own_n P ≤ 2147483648 := by
  have := rng32 P; unfold own_n; omega
theorem own_x_neg {P : Int32} (h : P < (0 : Int32)) : P.toInt = -(own_n P : Int) := by
  rw [Int32.lt_iff_toInt_lt] at h
  have e : (0 : Int32).toInt = 0 := rfl
  unfold own_n; omega
theorem own_x_pos {P : Int32} (h : ¬ P < (0 : Int32)) : (-P).toInt = -(own_n P : Int) := by
  rw [Int32.lt_iff_toInt_lt] at h
  have e : (0 : Int32).toInt = 0 := rfl
  have a := c_ineg P
  have r := rng32 P
  have r2 := rng32 (-P)
  unfold own_n; omega
theorem own_gs {w : List Value} {i j : Nat} {v d : Value} (hi : i < w.length) : (w.set i v).getD j d = if i = j then v else w.getD j d := by
  simp only [List.getD_eq_getElem?_getD, List.getElem?_set]
  by_cases h : i = j
  · subst h; simp [hi]
  · simp [h]
def own_inv (P : Int32) (m : Nat) (vs : List Value) (t : Nat) (x : Int32) (w : List Value) : Prop :=
  x.toInt = -((own_n P / 100 ^ t : Nat) : Int) ∧ w.length = 16 ∧ 2 * t ≤ m ∧ m ≤ 16 ∧ (t = 0 ∨ 100 ^ t ≤ own_n P) ∧ (∀ j, j < m - 2 * t → w.getD j (.int (0 : Int32)) = vs.getD j (.int (0 : Int32))) ∧ ∀ j, j < 2 * t → w.getD (m - 1 - j) (.int (0 : Int32)) = .int (own_dg (own_n P) j)
def own_ok (P : Int32) (m : Nat) (vs w : List Value) : Prop :=
  w.length = 16 ∧ (∀ j, j < m - (own_nd (own_n P) + own_sg P) → w.getD j (.int (0 : Int32)) = vs.getD j (.int (0 : Int32))) ∧ (∀ j, j < own_nd (own_n P) → w.getD (m - 1 - j) (.int (0 : Int32)) = .int (own_dg (own_n P) j)) ∧ (P < (0 : Int32) → w.getD (m - own_nd (own_n P) - 1) (.int (0 : Int32)) = .int (45 : Int32))
theorem own_inv0 {P : Int32} {m : Nat} {vs : List Value} {x : Int32} (hx : x.toInt = -(own_n P : Int)) (hl : vs.length = 16) (hm : m ≤ 16) : own_inv P m vs 0 x vs :=
  ⟨by simpa using hx, hl, by omega, hm, Or.inl rfl, fun _ _ => rfl, fun j hj => by omega⟩
/-- n / 100^t, for the five t, where omega sees it -/
theorem own_pw (n t : Nat) (h : t < 5) : (t = 0 ∧ n / 100 ^ t = n) ∨ (t = 1 ∧ n / 100 ^ t = n / 100) ∨ (t = 2 ∧ n / 100 ^ t = n / 10000) ∨ (t = 3 ∧ n / 100 ^ t = n / 1000000) ∨ (t = 4 ∧ n / 100 ^ t = n / 100000000) := by
  match t, h with
  | 0, _ => exact Or.inl ⟨rfl, by simp⟩
  | 1, _ => exact Or.inr (Or.inl ⟨rfl, rfl⟩)
  | 2, _ => exact Or.inr (Or.inr (Or.inl ⟨rfl, rfl⟩))
  | 3, _ => exact Or.inr (Or.inr (Or.inr (Or.inl ⟨rfl, rfl⟩)))
  | 4, _ => exact Or.inr (Or.inr (Or.inr (Or.inr ⟨rfl, rfl⟩)))
theorem own_nd_ge {n t : Nat} (ht : t < 5) (hn : n ≤ 2147483648) (h : 100 ≤ n / 100 ^ t) : 2 * t + 3 ≤ own_nd n ∧ t < 4 := by
  rcases own_pw n t ht with ⟨rfl, e⟩ | ⟨rfl, e⟩ | ⟨rfl, e⟩ | ⟨rfl, e⟩ | ⟨rfl, e⟩ <;> rw [e] at h <;> clear e <;> refine ⟨?_, by omega⟩ <;> unfold own_nd <;> repeat' split
  all_goals omega
theorem own_inv1 {P : Int32} {m : Nat} {vs w : List Value} {t : Nat} {x a b : Int32} (ht : t < 5) (I : own_inv P m vs t x w) (h : ¬ (-100 : Int32) < x) (hm : own_nd (own_n P) ≤ m) (ha : a = own_dg (own_n P) (2 * t)) (hb : b = own_dg (own_n P) (2 * t + 1)) :
    own_inv P m vs (t + 1) (x / (100 : Int32)) ((w.set (m - 2 * t - 1) (.int a)).set (m - 2 * t - 2) (.int b)) := by
  obtain ⟨hx, hl, h2, h16, hlo, hA, hB⟩ := I
  rw [Int32.lt_iff_toInt_lt] at h
  have e : (-100 : Int32).toInt = -100 := rfl
  have h100 : 100 ≤ own_n P / 100 ^ t := by omega
  obtain ⟨k1, k2⟩ := own_nd_ge ht (own_n_le P) h100
  have dv := (c_idiv x 100 100 rfl (by decide)).2 (by omega)
  have pw : own_n P / 100 ^ (t + 1) = own_n P / 100 ^ t / 100 := by rw [Nat.pow_succ, Nat.div_div_eq_div_mul]
  refine ⟨?_, by simp [hl], by omega, h16, Or.inr ?_, ?_, ?_⟩
  · rw [dv, hx, pw]; omega
  · have q := Nat.div_mul_le_self (own_n P) (100 ^ t)
    rw [Nat.pow_succ]
    calc 100 ^ t * 100 ≤ 100 ^ t * (own_n P / 100 ^ t) := Nat.mul_le_mul_left _ h100
      _ ≤ own_n P := by rw [Nat.mul_comm]; exact q
  · intro j hj
    rw [own_gs (by simp [hl]; omega), own_gs (by omega), if_neg (by omega), if_neg (by omega)]
    exact hA j (by omega)
  · intro j hj
    rw [own_gs (by simp [hl]; omega), own_gs (by omega)]
    by_cases j1 : j = 2 * t + 1
    · subst j1; rw [if_pos (by omega), hb]
    · by_cases j0 : j = 2 * t
      · subst j0; rw [if_neg (by omega), if_pos (by omega), ha]
      · rw [if_neg (by omega), if_neg (by omega)]; exact hB j (by omega)
theorem own_inv4 {P : Int32} {m : Nat} {vs w : List Value} {x : Int32} (I : own_inv P m vs 4 x w) : (-100 : Int32) < x := by
  rw [Int32.lt_iff_toInt_lt]
  have e : (-100 : Int32).toInt = -100 := rfl
  have := own_n_le P
  have q : own_n P / 100 ^ 4 = own_n P / 100000000 := rfl
  have hx := I.1
  rw [q] at hx
  omega
theorem own_nd1 {n t : Nat} (ht : t < 5) (hn : n ≤ 2147483648) (h : n / 100 ^ t < 10) (hlo : t = 0 ∨ 100 ^ t ≤ n) : own_nd n = 2 * t + 1 := by
  rcases own_pw n t ht with ⟨rfl, e⟩ | ⟨rfl, e⟩ | ⟨rfl, e⟩ | ⟨rfl, e⟩ | ⟨rfl, e⟩ <;> rw [e] at h <;> clear e <;> simp at hlo <;> unfold own_nd <;> repeat' split
  all_goals omega
theorem own_nd2 {n t : Nat} (ht : t < 5) (hn : n ≤ 2147483648) (h : n / 100 ^ t < 100) (h1 : 10 ≤ n / 100 ^ t) : own_nd n = 2 * t + 2 := by
  rcases own_pw n t ht with ⟨rfl, e⟩ | ⟨rfl, e⟩ | ⟨rfl, e⟩ | ⟨rfl, e⟩ | ⟨rfl, e⟩ <;> rw [e] at h h1 <;> clear e <;> unfold own_nd <;> repeat' split
  all_goals omega
section F
variable {P : Int32} {m : Nat} {vs w : List Value} {t : Nat} {x a b : Int32}
theorem own_fin1 (ht : t < 5) (I : own_inv P m vs t x w) (h9 : ¬ x < (-9 : Int32)) (hm : own_nd (own_n P) + own_sg P ≤ m) (ha : a = own_dg (own_n P) (2 * t)) (hp : ¬ P < (0 : Int32)) : own_ok P m vs (w.set (m - 2 * t - 1) (.int a)) := by
  obtain ⟨hx, hl, h2, h16, hlo, hA, hB⟩ := I
  rw [Int32.lt_iff_toInt_lt] at h9
  have e : (-9 : Int32).toInt = -9 := rfl
  have nd := own_nd1 ht (own_n_le P) (by omega) hlo
  have sg : own_sg P = 0 := by simp [own_sg, hp]
  refine ⟨by simp [hl], ?_, ?_, fun q => absurd q hp⟩
  · intro j hj; rw [own_gs (by omega), if_neg (by omega)]; exact hA j (by omega)
  · intro j hj; rw [own_gs (by omega)]
    by_cases j0 : j = 2 * t
    · subst j0; rw [if_pos (by omega), ha]
    · rw [if_neg (by omega)]; exact hB j (by omega)
theorem own_fin1n (ht : t < 5) (I : own_inv P m vs t x w) (h9 : ¬ x < (-9 : Int32)) (hm : own_nd (own_n P) + own_sg P ≤ m) (ha : a = own_dg (own_n P) (2 * t)) (hp : P < (0 : Int32)) : own_ok P m vs ((w.set (m - 2 * t - 1) (.int a)).set (m - 2 * t - 2) (.int (45 : Int32))) := by
  obtain ⟨hx, hl, h2, h16, hlo, hA, hB⟩ := I
  rw [Int32.lt_iff_toInt_lt] at h9
  have e : (-9 : Int32).toInt = -9 := rfl
  have nd := own_nd1 ht (own_n_le P) (by omega) hlo
  have sg : own_sg P = 1 := by simp [own_sg, hp]
  refine ⟨by simp [hl], ?_, ?_, ?_⟩
  · intro j hj; rw [own_gs (by simp [hl]; omega), own_gs (by omega), if_neg (by omega), if_neg (by omega)]; exact hA j (by omega)
  · intro j hj; rw [own_gs (by simp [hl]; omega), own_gs (by omega), if_neg (by omega)]
    by_cases j0 : j = 2 * t
    · subst j0; rw [if_pos (by omega), ha]
    · rw [if_neg (by omega)]; exact hB j (by omega)
  · intro _; rw [own_gs (by simp [hl]; omega), if_pos (by omega)]
theorem own_fin2 (ht : t < 5) (I : own_inv P m vs t x w) (h100 : (-100 : Int32) < x) (h9 : x < (-9 : Int32)) (hm : own_nd (own_n P) + own_sg P ≤ m) (ha : a = own_dg (own_n P) (2 * t)) (hb : b = own_dg (own_n P) (2 * t + 1)) (hp : ¬ P < (0 : Int32)) : own_ok P m vs ((w.set (m - 2 * t - 1) (.int a)).set (m - 2 * t - 2) (.int b)) := by
  obtain ⟨hx, hl, h2, h16, hlo, hA, hB⟩ := I
  rw [Int32.lt_iff_toInt_lt] at h9 h100
  have e : (-9 : Int32).toInt = -9 := rfl
  have e2 : (-100 : Int32).toInt = -100 := rfl
  have nd := own_nd2 ht (own_n_le P) (by omega) (by omega)
  have sg : own_sg P = 0 := by simp [own_sg, hp]
  refine ⟨by simp [hl], ?_, ?_, fun q => absurd q hp⟩
  · intro j hj; rw [own_gs (by simp [hl]; omega), own_gs (by omega), if_neg (by omega), if_neg (by omega)]; exact hA j (by omega)
  · intro j hj; rw [own_gs (by simp [hl]; omega), own_gs (by omega)]
    by_cases j1 : j = 2 * t + 1
    · subst j1; rw [if_pos (by omega), hb]
    · by_cases j0 : j = 2 * t
      · subst j0; rw [if_neg (by omega), if_pos (by omega), ha]
      · rw [if_neg (by omega), if_neg (by omega)]; exact hB j (by omega)
theorem own_fin2n (ht : t < 5) (I : own_inv P m vs t x w) (h100 : (-100 : Int32) < x) (h9 : x < (-9 : Int32)) (hm : own_nd (own_n P) + own_sg P ≤ m) (ha : a = own_dg (own_n P) (2 * t)) (hb : b = own_dg (own_n P) (2 * t + 1)) (hp : P < (0 : Int32)) : own_ok P m vs (((w.set (m - 2 * t - 1) (.int a)).set (m - 2 * t - 2) (.int b)).set (m - 2 * t - 3) (.int (45 : Int32))) := by
  obtain ⟨hx, hl, h2, h16, hlo, hA, hB⟩ := I
  rw [Int32.lt_iff_toInt_lt] at h9 h100
  have e : (-9 : Int32).toInt = -9 := rfl
  have e2 : (-100 : Int32).toInt = -100 := rfl
  have nd := own_nd2 ht (own_n_le P) (by omega) (by omega)
  have sg : own_sg P = 1 := by simp [own_sg, hp]
  refine ⟨by simp [hl], ?_, ?_, ?_⟩
  · intro j hj; rw [own_gs (by simp [hl]; omega), own_gs (by simp [hl]; omega), own_gs (by omega), if_neg (by omega), if_neg (by omega), if_neg (by omega)]; exact hA j (by omega)
  · intro j hj; rw [own_gs (by simp [hl]; omega), own_gs (by simp [hl]; omega), own_gs (by omega), if_neg (by omega)]
    by_cases j1 : j = 2 * t + 1
    · subst j1; rw [if_pos (by omega), hb]
    · by_cases j0 : j = 2 * t
      · subst j0; rw [if_neg (by omega), if_pos (by omega), ha]
      · rw [if_neg (by omega), if_neg (by omega)]; exact hB j (by omega)
  · intro _; rw [own_gs (by simp [hl]; omega), if_pos (by omega)]
end F
def own_ss (x s : Int32) : Int32 := if (-10 : Int32) < x then 1 + s else if (-100 : Int32) < x then 2 + s else if (-1000 : Int32) < x then 3 + s else if (-10000 : Int32) < x then 4 + s else if (-100000 : Int32) < x then 5 + s else if (-1000000 : Int32) < x then 6 + s else if (-10000000 : Int32) < x then 7 + s else if (-100000000 : Int32) < x then 8 + s else if (-1000000000 : Int32) < x then 9 + s else 10 + s
def own_ssz (P : Int32) : Int32 := if P < (0 : Int32) then own_ss P 1 else own_ss (-P) 0
theorem own_lt_lit {k x : Int32} {n c : Nat} (hx : x.toInt = -(n : Int)) (hk : k.toInt = -(c : Int)) : k < x ↔ n < c := by
  rw [Int32.lt_iff_toInt_lt, hx, hk]; omega
theorem own_ss_eq {x s : Int32} {n : Nat} (hx : x.toInt = -(n : Int)) : own_ss x s = Int32.ofNat (own_nd n) + s := by
  unfold own_ss own_nd
  simp only [own_lt_lit hx (show (-10 : Int32).toInt = -((10 : Nat) : Int) from rfl), own_lt_lit hx (show (-100 : Int32).toInt = -((100 : Nat) : Int) from rfl), own_lt_lit hx (show (-1000 : Int32).toInt = -((1000 : Nat) : Int) from rfl), own_lt_lit hx (show (-10000 : Int32).toInt = -((10000 : Nat) : Int) from rfl), own_lt_lit hx (show (-100000 : Int32).toInt = -((100000 : Nat) : Int) from rfl), own_lt_lit hx (show (-1000000 : Int32).toInt = -((1000000 : Nat) : Int) from rfl), own_lt_lit hx (show (-10000000 : Int32).toInt = -((10000000 : Nat) : Int) from rfl), own_lt_lit hx (show (-100000000 : Int32).toInt = -((100000000 : Nat) : Int) from rfl), own_lt_lit hx (show (-1000000000 : Int32).toInt = -((1000000000 : Nat) : Int) from rfl)]
  repeat' split
  all_goals rfl
theorem own_nd_le (n : Nat) : 1 ≤ own_nd n ∧ own_nd n ≤ 10 := by
  unfold own_nd; repeat' split
  all_goals omega
theorem own_sg_le (P : Int32) : own_sg P ≤ 1 := by unfold own_sg; split <;> omega
theorem own_ofNat_add (a b : Nat) : Int32.ofNat a + Int32.ofNat b = Int32.ofNat (a + b) := (Int32.ofNat_add a b).symm
theorem own_ssz_eq (P : Int32) : own_ssz P = Int32.ofNat (own_nd (own_n P) + own_sg P) := by
  unfold own_ssz own_sg
  by_cases h : P < (0 : Int32)
  · rw [if_pos h, own_ss_eq (own_x_neg h), if_pos (by exact h), ← own_ofNat_add]; rfl
  · rw [if_neg h, own_ss_eq (own_x_pos h), if_neg (by exact h), ← own_ofNat_add]; rfl
/-- the law's own count of digits -/
def own_dj (a : Int64) : Int32 := if lcmpW a 10 < (0 : Int32) then 1 else if lcmpW a 100 < (0 : Int32) then 2 else if lcmpW a 1000 < (0 : Int32) then 3 else if lcmpW a 10000 < (0 : Int32) then 4 else if lcmpW a 100000 < (0 : Int32) then 5 else if lcmpW a 1000000 < (0 : Int32) then 6 else if lcmpW a 10000000 < (0 : Int32) then 7 else if lcmpW a 100000000 < (0 : Int32) then 8 else if lcmpW a 1000000000 < (0 : Int32) then 9 else 10
theorem own_lc {a k : Int64} {n c : Nat} (ha : a.toInt = (n : Int)) (hk : k.toInt = (c : Int)) : lcmpW a k < (0 : Int32) ↔ n < c := by
  have q := c_lcmp a k
  rw [Int32.lt_iff_toInt_lt]
  have e : (0 : Int32).toInt = 0 := rfl
  rw [ha, hk] at q
  omega
theorem own_dj_eq {a : Int64} {n : Nat} (ha : a.toInt = (n : Int)) : own_dj a = Int32.ofNat (own_nd n) := by
  unfold own_dj own_nd
  simp only [own_lc ha (show (10 : Int64).toInt = ((10 : Nat) : Int) from rfl), own_lc ha (show (100 : Int64).toInt = ((100 : Nat) : Int) from rfl), own_lc ha (show (1000 : Int64).toInt = ((1000 : Nat) : Int) from rfl), own_lc ha (show (10000 : Int64).toInt = ((10000 : Nat) : Int) from rfl), own_lc ha (show (100000 : Int64).toInt = ((100000 : Nat) : Int) from rfl), own_lc ha (show (1000000 : Int64).toInt = ((1000000 : Nat) : Int) from rfl), own_lc ha (show (10000000 : Int64).toInt = ((10000000 : Nat) : Int) from rfl), own_lc ha (show (100000000 : Int64).toInt = ((100000000 : Nat) : Int) from rfl), own_lc ha (show (1000000000 : Int64).toInt = ((1000000000 : Nat) : Int) from rfl)]
  repeat' split
  all_goals rfl
/-- Math.abs of the port as a long -/
def own_ab (a : Int64) : Int64 := if lcmpW a 0 < (0 : Int32) then -a else a
theorem own_ab_eq (P : Int32) : (own_ab P.toInt64).toInt = (own_n P : Int) := by
  have e := c_i2l P
  have q := c_lcmp P.toInt64 0
  have e0 : (0 : Int64).toInt = 0 := rfl
  have f0 : (0 : Int32).toInt = 0 := rfl
  have ng := c_lneg P.toInt64
  have r := rng32 P
  have r2 := rng64 (-P.toInt64)
  unfold own_ab own_n
  split
  · rename_i h; rw [Int32.lt_iff_toInt_lt] at h; omega
  · rename_i h; rw [Int32.lt_iff_toInt_lt] at h; omega
def own_p10 (e : Int32) : Int64 := ([1, 10, 100, 1000, 10000, 100000, 1000000, 10000000, 100000000, 1000000000] : List Int64).getD e.toNatClampNeg 0
theorem own_p10_eq {k : Nat} (h : k < 10) : (own_p10 (Int32.ofNat k)).toInt = ((10 ^ k : Nat) : Int) := by
  match k, h with
  | 0, _ => decide
  | 1, _ => decide
  | 2, _ => decide
  | 3, _ => decide
  | 4, _ => decide
  | 5, _ => decide
  | 6, _ => decide
  | 7, _ => decide
  | 8, _ => decide
  | 9, _ => decide
theorem own_p10_v (e : Int32) : ([.long 1, .long 10, .long 100, .long 1000, .long 10000, .long 100000, .long 1000000, .long 10000000, .long 100000000, .long 1000000000] : List Value).getD e.toNatClampNeg (.long (0 : Int64)) = .long (own_p10 e) := by
  unfold own_p10
  generalize e.toNatClampNeg = k
  match k with
  | 0 | 1 | 2 | 3 | 4 | 5 | 6 | 7 | 8 | 9 => rfl
  | k + 10 => rfl
theorem own_dg_int {n j : Nat} : (own_dg n j).toInt = 48 + ((n / 10 ^ j % 10 : Nat) : Int) := by
  unfold own_dg
  rw [toInt_of rfl (by omega)]; omega
theorem own_dg_rng {n j : Nat} : ¬ own_dg n j < (0 : Int32) ∧ ¬ (255 : Int32) < own_dg n j := by
  have a := own_dg_int (n := n) (j := j)
  rw [Int32.lt_iff_toInt_lt, Int32.lt_iff_toInt_lt]
  have e0 : (0 : Int32).toInt = 0 := rfl
  have e1 : (255 : Int32).toInt = 255 := rfl
  omega
theorem own_dg_byte {n j : Nat} : nar .byte (own_dg n j) = own_dg n j := by
  have a := own_dg_int (n := n) (j := j)
  have b := c_i2b (own_dg n j)
  have q1 : (nar .byte (own_dg n j)).toInt = (own_dg n j).toInt8.toInt32.toInt := rfl
  apply Int32.toInt_inj.mp
  omega
/-- what digitOk computes -/
def own_dq (a : Int64) (e : Int32) : Int32 := nar .char (48 + ((a / own_p10 e) - (a / own_p10 e) / 10 * 10).toInt32)
theorem own_dq_eq {a : Int64} {n k : Nat} (ha : a.toInt = (n : Int)) (hk : k < 10) (hn : n ≤ 2147483648) : own_dq a (Int32.ofNat k) = own_dg n k := by
  have hp := own_p10_eq hk
  have pos : 0 < 10 ^ k := Nat.pow_pos (by omega)
  have ne : own_p10 (Int32.ofNat k) ≠ -1 := fun q => by
    rw [q] at hp
    have e : (-1 : Int64).toInt = -1 := rfl
    omega
  have d1 := (c_ldiv a (own_p10 (Int32.ofNat k)) _ hp ne).1 (by omega)
  have d2 : (a / own_p10 (Int32.ofNat k)).toInt = ((n / 10 ^ k : Nat) : Int) := by rw [d1, ha]; rfl
  have g := own_dg_int (n := n) (j := k)
  generalize n / 10 ^ k = z at d2 g
  have r1 := (c_lrem (a / own_p10 (Int32.ofNat k)) 10 10 rfl).1 (by omega)
  have l1 := c_l2i (a / own_p10 (Int32.ofNat k) - a / own_p10 (Int32.ofNat k) / 10 * 10)
  have rl := rng32 (a / own_p10 (Int32.ofNat k) - a / own_p10 (Int32.ofNat k) / 10 * 10).toInt32
  have s1 := c_iadd 48 (a / own_p10 (Int32.ofNat k) - a / own_p10 (Int32.ofNat k) / 10 * 10).toInt32
  have rs := rng32 (48 + (a / own_p10 (Int32.ofNat k) - a / own_p10 (Int32.ofNat k) / 10 * 10).toInt32)
  have cc := c_i2c (48 + (a / own_p10 (Int32.ofNat k) - a / own_p10 (Int32.ofNat k) / 10 * 10).toInt32)
  have e48 : (48 : Int32).toInt = 48 := rfl
  have q1 : (own_dq a (Int32.ofNat k)).toInt = (48 + (a / own_p10 (Int32.ofNat k) - a / own_p10 (Int32.ofNat k) / 10 * 10).toInt32).toUInt32.toUInt16.toUInt32.toInt32.toInt := rfl
  apply Int32.toInt_inj.mp
  rw [q1, g]
  omega
/-- the table's index -/
theorem own_r {x : Int32} {v : Nat} (hx : x.toInt = -(v : Int)) (hv : v ≤ 2147483648) : (x / (100 : Int32) * (100 : Int32) - x).toInt = ((v % 100 : Nat) : Int) := by
  have a1 : (x / (100 : Int32)).toInt = -((v / 100 : Nat) : Int) := by
    by_cases h : x.toInt < 0
    · rw [(c_idiv x 100 100 rfl (by decide)).2 h, hx]; omega
    · rw [(c_idiv x 100 100 rfl (by decide)).1 (by omega), hx]; omega
  have a2 := c_imul (x / (100 : Int32)) (100 : Int32)
  have a3 := c_isub (x / (100 : Int32) * (100 : Int32)) x
  have e : (100 : Int32).toInt = 100 := rfl
  have r1 := rng32 (x / (100 : Int32) * (100 : Int32))
  have r2 := rng32 (x / (100 : Int32) * (100 : Int32) - x)
  rw [a1, e] at a2
  omega
theorem own_d1_eq {r : Int32} {v n j : Nat} (hr : r.toInt = (v : Int)) (hv : v % 10 = n / 10 ^ j % 10) : own_d1 r = own_dg n j := by
  have a := own_dg_int (n := n) (j := j)
  have b := (c_irem r 10 10 rfl).1 (by omega)
  have c := c_iadd 48 (r % 10)
  have e : (48 : Int32).toInt = 48 := rfl
  have rr := rng32 (48 + r % 10)
  apply Int32.toInt_inj.mp
  rw [a]; unfold own_d1
  rw [hr] at b
  omega
theorem own_d2_eq {r : Int32} {v n j : Nat} (hr : r.toInt = (v : Int)) (hv : v / 10 = n / 10 ^ j % 10) : own_d2 r = own_dg n j := by
  have a := own_dg_int (n := n) (j := j)
  have b := (c_idiv r 10 10 rfl (by decide)).1 (by omega)
  have c := c_iadd 48 (r / 10)
  have e : (48 : Int32).toInt = 48 := rfl
  have rr := rng32 (48 + r / 10)
  apply Int32.toInt_inj.mp
  rw [a]; unfold own_d2
  rw [hr] at b
  omega
theorem own_dec {k : Nat} (h : 0 < k) : Int32.ofNat k + (-1 : Int32) = Int32.ofNat (k - 1) := by
  obtain ⟨k, rfl⟩ : ∃ z, k = z + 1 := ⟨k - 1, by omega⟩
  rw [Int32.ofNat_add, Int32.add_assoc]
  show Int32.ofNat k + 0 = _
  simp
section L
variable {P : Int32} {m : Nat} {vs w : List Value} {t : Nat} {x q : Int32}
theorem own_pw10 (n t : Nat) : n / 10 ^ (2 * t) = n / 100 ^ t ∧ n / 10 ^ (2 * t + 1) = n / 100 ^ t / 10 := by
  have e : 10 ^ (2 * t) = 100 ^ t := by rw [Nat.pow_mul]
  exact ⟨by rw [e], by rw [Nat.pow_succ, e, Nat.div_div_eq_div_mul]⟩
theorem own_nnL {r : Int32} {v : Nat} (h : r.toInt = (v : Int)) (hv : v < 100) : ¬ r < (0 : Int32) ∧ r < (100 : Int32) := by
  rw [Int32.lt_iff_toInt_lt, Int32.lt_iff_toInt_lt]
  have e0 : (0 : Int32).toInt = 0 := rfl
  have e1 : (100 : Int32).toInt = 100 := rfl
  omega
theorem own_lp (ht : t < 5) (I : own_inv P m vs t x w) (h : ¬ (-100 : Int32) < x) (hm : own_nd (own_n P) + own_sg P ≤ m) :
    2 * t + 3 ≤ m ∧ (¬ (x / (100 : Int32) * (100 : Int32) - x) < (0 : Int32) ∧ (x / (100 : Int32) * (100 : Int32) - x) < (100 : Int32)) ∧ nar .byte (own_d1 (x / (100 : Int32) * (100 : Int32) - x)) = own_dg (own_n P) (2 * t) ∧ nar .byte (own_d2 (x / (100 : Int32) * (100 : Int32) - x)) = own_dg (own_n P) (2 * t + 1) := by
  obtain ⟨hx, hl, h2, h16, hlo, hA, hB⟩ := I
  rw [Int32.lt_iff_toInt_lt] at h
  have e : (-100 : Int32).toInt = -100 := rfl
  obtain ⟨k1, k2⟩ := own_nd_ge ht (own_n_le P) (by omega)
  have le : own_n P / 100 ^ t ≤ 2147483648 := Nat.le_trans (Nat.div_le_self _ _) (own_n_le P)
  have r := own_r hx le
  obtain ⟨p1, p2⟩ := own_pw10 (own_n P) t
  refine ⟨by omega, own_nnL r (by omega), ?_, ?_⟩
  · rw [own_d1_eq (n := own_n P) (j := 2 * t) r (by rw [p1]; omega), own_dg_byte]
  · rw [own_d2_eq (n := own_n P) (j := 2 * t + 1) r (by rw [p2]; omega), own_dg_byte]
theorem own_ex (ht : t < 5) (I : own_inv P m vs t x w) (h : (-100 : Int32) < x) (hm : own_nd (own_n P) + own_sg P ≤ m) :
    2 * t + 1 ≤ m ∧ (¬ (-x) < (0 : Int32) ∧ (-x) < (100 : Int32)) ∧ nar .byte (own_d1 (-x)) = own_dg (own_n P) (2 * t) ∧ (x < (-9 : Int32) → 2 * t + 2 ≤ m ∧ nar .byte (own_d2 (-x)) = own_dg (own_n P) (2 * t + 1) ∧ (P < (0 : Int32) → 2 * t + 3 ≤ m)) ∧ (¬ x < (-9 : Int32) → P < (0 : Int32) → 2 * t + 2 ≤ m) := by
  obtain ⟨hx, hl, h2, h16, hlo, hA, hB⟩ := I
  rw [Int32.lt_iff_toInt_lt] at h
  have e : (-100 : Int32).toInt = -100 := rfl
  have e9 : (-9 : Int32).toInt = -9 := rfl
  have ng := c_ineg x
  have r1 := rng32 (-x)
  obtain ⟨v, hv⟩ : ∃ v, v = own_n P / 100 ^ t := ⟨_, rfl⟩
  rw [← hv] at hx
  have r : (-x).toInt = (v : Int) := by omega
  obtain ⟨p1, p2⟩ := own_pw10 (own_n P) t
  have n1 := own_nd_le (own_n P)
  have lo : ∀ k, own_nd (own_n P) = k → k ≤ m := fun k q => by omega
  have nd1 : ¬ x < (-9 : Int32) → own_nd (own_n P) = 2 * t + 1 := fun h9 => by
    rw [Int32.lt_iff_toInt_lt] at h9; exact own_nd1 ht (own_n_le P) (by rw [← hv]; omega) hlo
  have nd2 : x < (-9 : Int32) → own_nd (own_n P) = 2 * t + 2 := fun h9 => by
    rw [Int32.lt_iff_toInt_lt] at h9; exact own_nd2 ht (own_n_le P) (by rw [← hv]; omega) (by rw [← hv]; omega)
  have sg : P < (0 : Int32) → own_sg P = 1 := fun hp => by simp [own_sg, hp]
  refine ⟨?_, own_nnL r (by omega), ?_, ?_, ?_⟩
  · by_cases h9 : x < (-9 : Int32)
    · have := nd2 h9; omega
    · have := nd1 h9; omega
  · rw [own_d1_eq (n := own_n P) (j := 2 * t) r (by rw [p1, hv]), own_dg_byte]
  · intro h9
    have q := nd2 h9
    refine ⟨by omega, ?_, fun hp => by have := sg hp; omega⟩
    rw [Int32.lt_iff_toInt_lt] at h9
    rw [own_d2_eq (n := own_n P) (j := 2 * t + 1) r (by rw [p2, ← hv]; omega), own_dg_byte]
  · intro h9 hp
    have q := nd1 h9; have := sg hp; omega
theorem own_q1 (h : q = Int32.ofNat (m - 2 * t)) (h2 : 2 * t + 1 ≤ m) : q + (-1 : Int32) = Int32.ofNat (m - 2 * t - 1) := by rw [h]; exact own_dec (by omega)
theorem own_q2 (h : q = Int32.ofNat (m - 2 * t)) (h2 : 2 * t + 2 ≤ m) : q + (-1 : Int32) + (-1 : Int32) = Int32.ofNat (m - 2 * t - 2) := by rw [own_q1 h (by omega), own_dec (by omega)]; rfl
theorem own_q3 (h : q = Int32.ofNat (m - 2 * t)) (h2 : 2 * t + 3 ≤ m) : q + (-1 : Int32) + (-1 : Int32) + (-1 : Int32) = Int32.ofNat (m - 2 * t - 3) := by rw [own_q2 h (by omega), own_dec (by omega)]; rfl
theorem own_qn (h : q = Int32.ofNat (m - 2 * t)) (h2 : 2 * t + 2 ≤ m) : q + (-1 : Int32) + (-1 : Int32) = Int32.ofNat (m - 2 * (t + 1)) := by rw [own_q2 h h2]; congr 1
theorem own_ix {j : Int32} {k : Nat} (h : j = Int32.ofNat k) (hk : k < 16) : (¬ j < (0 : Int32) ∧ j < (16 : Int32)) ∧ j.toNatClampNeg = k := by
  subst h
  have e : (Int32.ofNat k).toInt = k := toInt_of rfl (by omega)
  have e0 : (0 : Int32).toInt = 0 := rfl
  have e1 : (16 : Int32).toInt = 16 := rfl
  refine ⟨⟨by rw [Int32.lt_iff_toInt_lt]; omega, by rw [Int32.lt_iff_toInt_lt]; omega⟩, clamp_of rfl (by omega)⟩
end L
theorem own_ct (P : Int32) (c : Nat) : Int32.ofNat c + own_ssz P = Int32.ofNat (c + (own_nd (own_n P) + own_sg P)) := by rw [own_ssz_eq, own_ofNat_add]
theorem own_le15 (P : Int32) {c : Nat} (h : c ≤ 4) : c + (own_nd (own_n P) + own_sg P) ≤ 15 := by
  have a := own_nd_le (own_n P); have b := own_sg_le P; omega
theorem own_le16 (P : Int32) {c : Nat} (h : c ≤ 4) : c + (own_nd (own_n P) + own_sg P) ≤ 16 := Nat.le_trans (own_le15 P h) (by decide)
theorem own_small {k : Nat} (h : k ≤ 15) : (Int32.ofNat k).toInt = k ∧ ¬ Int32.ofNat k < (0 : Int32) ∧ Int32.ofNat k < (16 : Int32) ∧ ¬ Int32.ofNat k = (16 : Int32) ∧ (Int32.ofNat k).toNatClampNeg = k ∧ ¬ (0 : Int32) < Int32.ofNat k - (16 : Int32) := by
  have e : (Int32.ofNat k).toInt = k := toInt_of rfl (by omega)
  have e0 : (0 : Int32).toInt = 0 := rfl
  have e1 : (16 : Int32).toInt = 16 := rfl
  have s := c_isub (Int32.ofNat k) 16
  have r := rng32 (Int32.ofNat k - 16)
  refine ⟨e, by rw [Int32.lt_iff_toInt_lt]; omega, by rw [Int32.lt_iff_toInt_lt]; omega, fun q => ?_, clamp_of rfl (by omega), by rw [Int32.lt_iff_toInt_lt]; omega⟩
  have := congrArg Int32.toInt q; omega
theorem own_ecp (P : Int32) {c : Nat} (h : c ≤ 4) : ¬ (0 : Int32) < (Int32.ofNat c + own_ssz P) - (16 : Int32) := by
  rw [own_ct]; exact (own_small (own_le15 P h)).2.2.2.2.2
theorem own_ctG (P : Int32) {cn : Int32} {c : Nat} (q : cn = Int32.ofNat c) : cn + own_ssz P = Int32.ofNat (c + (own_nd (own_n P) + own_sg P)) := by rw [q]; exact own_ct P c
theorem own_ecpG (P : Int32) {cn : Int32} {c : Nat} (q : cn = Int32.ofNat c) (h : c ≤ 4) : ¬ (0 : Int32) < (cn + own_ssz P) - (16 : Int32) := by rw [q]; exact own_ecp P h
theorem own_cpl {us : List Value} {d : Value} {m : Nat} : (([] ++ List.replicate m d : List Value).take (0 : Int32).toNatClampNeg ++ us ++ ([] ++ List.replicate m d : List Value).drop ((0 : Int32).toNatClampNeg + m)) = us := by
  have e : (0 : Int32).toNatClampNeg = 0 := by decide
  rw [e]; simp
theorem own_rg {w : List Value} {d : Value} {m k : Nat} (hm : m = k) : ∀ j, j < k → ((List.range m).map fun i => w.getD ((0 : Int32).toNatClampNeg + i) d).getD j d = w.getD j d := by
  subst hm
  intro j hj
  have e : (0 : Int32).toNatClampNeg = 0 := by decide
  rw [e]
  simp [List.getD_eq_getElem?_getD, hj]
/-- what toString's bytes are: the c bytes ahead, a minus, the digits -/
def own_res (P : Int32) (c : Nat) (B us : List Value) : Prop := (∀ j, j < c → us.getD j (.int (0 : Int32)) = B.getD j (.int (0 : Int32))) ∧ (P < (0 : Int32) → us.getD c (.int (0 : Int32)) = .int (45 : Int32)) ∧ ∀ j, j < own_nd (own_n P) → us.getD (c + (own_nd (own_n P) + own_sg P) - 1 - j) (.int (0 : Int32)) = .int (own_dg (own_n P) j)
theorem own_resG {P : Int32} {c : Nat} {B w us : List Value} (ok : own_ok P (c + (own_nd (own_n P) + own_sg P)) B w) (up : ∀ j, j < c + (own_nd (own_n P) + own_sg P) → us.getD j (.int (0 : Int32)) = w.getD j (.int (0 : Int32))) : own_res P c B us := by
  obtain ⟨-, h1, h2, h3⟩ := ok
  have n1 := own_nd_le (own_n P)
  refine ⟨fun j hj => ?_, fun hp => ?_, fun j hj => ?_⟩
  · rw [up j (by omega)]; exact h1 j (by omega)
  · have sg : own_sg P = 1 := by simp [own_sg, hp]
    have q := h3 hp
    rw [show c + (own_nd (own_n P) + own_sg P) - own_nd (own_n P) - 1 = c by omega] at q
    rw [up c (by omega)]; exact q
  · rw [up _ (by omega)]; exact h2 j hj
/-- what digitOk asks of the text -/
def own_dgp (vs : List Value) (N off d i : Int32) (z1 : Int64) : Prop := ¬ i < d ∨ (i < d ∧ ¬ ((d - (1 : Int32)) - i) < (0 : Int32) ∧ ((d - (1 : Int32)) - i) < (10 : Int32) ∧ ¬ (off + i) < (0 : Int32) ∧ (off + i) < N ∧ vs.getD (off + i).toNatClampNeg (.int (0 : Int32)) = .int (StrChars.lo8 (own_dq z1 ((d - (1 : Int32)) - i))) ∧ (¬ own_dq z1 ((d - (1 : Int32)) - i) < (0 : Int32) ∧ ¬ (255 : Int32) < own_dq z1 ((d - (1 : Int32)) - i)) ∧ own_p10 ((d - (1 : Int32)) - i) ≠ 0)
theorem own_leq {P dd : Int32} {c s : Nat} (hs : own_sg P = s) (hd : dd = Int32.ofNat (own_nd (own_n P))) : Int32.ofNat c + own_ssz P = Int32.ofNat (c + s) + dd := by
  rw [own_ct, hd, own_ofNat_add, hs]; congr 1; omega
theorem own_ltO {k n : Nat} (h : k < n) (hn : n < 2 ^ 31) : Int32.ofNat k < Int32.ofNat n := by
  rw [Int32.lt_iff_toInt_lt, toInt_of rfl hn, toInt_of rfl (by omega)]; omega
theorem own_jlt (P : Int32) {c j : Nat} (hc : c ≤ 4) (h : j < c + (own_nd (own_n P) + own_sg P)) : Int32.ofNat j < Int32.ofNat c + own_ssz P := by
  rw [own_ct]; exact own_ltO h (by have := own_le15 P hc; omega)
theorem own_sub (a b : Nat) (h : b ≤ a) (ha : a < 2 ^ 31) : Int32.ofNat a - Int32.ofNat b = Int32.ofNat (a - b) := by
  have s := c_isub (Int32.ofNat a) (Int32.ofNat b)
  have r := rng32 (Int32.ofNat a - Int32.ofNat b)
  rw [toInt_of rfl ha, toInt_of rfl (show b < 2 ^ 31 by omega)] at s
  apply Int32.toInt_inj.mp
  rw [toInt_of rfl (show a - b < 2 ^ 31 by omega)]
  omega
theorem own_lo_dg {n j : Nat} : StrChars.lo8 (own_dg n j) = own_dg n j := own_dg_byte
theorem own_H {P dd N off : Int32} {za : Int64} {c s : Nat} {B us : List Value} (res : own_res P c B us) (hc : c ≤ 4) (hs : own_sg P = s) (hd : dd = Int32.ofNat (own_nd (own_n P))) (hza : za.toInt = (own_n P : Int)) (hN : N = Int32.ofNat c + own_ssz P) (ho : off = Int32.ofNat (c + s)) : ∀ k : Nat, k < 10 → own_dgp us N off dd (Int32.ofNat k) za := by
  intro k hk
  have n1 := own_nd_le (own_n P)
  have m15 := own_le15 P hc
  subst hd ho hN
  by_cases h : k < own_nd (own_n P)
  · have e1 : Int32.ofNat (own_nd (own_n P)) - (1 : Int32) - Int32.ofNat k = Int32.ofNat (own_nd (own_n P) - 1 - k) := by
      rw [show (1 : Int32) = Int32.ofNat 1 from rfl, own_sub _ _ (by omega) (by omega), own_sub _ _ (by omega) (by omega)]
    have e2 : Int32.ofNat (c + s) + Int32.ofNat k = Int32.ofNat (c + s + k) := own_ofNat_add _ _
    have sm := own_small (k := own_nd (own_n P) - 1 - k) (by omega)
    have so := own_small (k := c + s + k) (by omega)
    have dq := own_dq_eq (k := own_nd (own_n P) - 1 - k) hza (by omega) (own_n_le P)
    have r := res.2.2 (own_nd (own_n P) - 1 - k) (by omega)
    rw [show c + (own_nd (own_n P) + own_sg P) - 1 - (own_nd (own_n P) - 1 - k) = c + s + k by omega] at r
    refine Or.inr ⟨own_ltO h (by omega), ?_⟩
    rw [e1, e2, dq, own_lo_dg, so.2.2.2.2.1]
    refine ⟨sm.2.1, ?_, so.2.1, own_jlt P hc (by omega), r, own_dg_rng, fun q => ?_⟩
    · rw [Int32.lt_iff_toInt_lt, sm.1]; have e : (10 : Int32).toInt = 10 := rfl; omega
    · have p := own_p10_eq (k := own_nd (own_n P) - 1 - k) (by omega)
      rw [q] at p
      have e0 : (0 : Int64).toInt = 0 := rfl
      have pos : 0 < 10 ^ (own_nd (own_n P) - 1 - k) := Nat.pow_pos (by omega)
      omega
  · refine Or.inl fun q => h ?_
    rw [Int32.lt_iff_toInt_lt, toInt_of rfl (show own_nd (own_n P) < 2 ^ 31 by omega), toInt_of rfl (show k < 2 ^ 31 by omega)] at q
    omega
theorem own_and3 (p : Int32) : (p &&& (3 : Int32)) = (0 : Int32) ∨ (p &&& (3 : Int32)) = (1 : Int32) ∨ (p &&& (3 : Int32)) = (2 : Int32) ∨ (p &&& (3 : Int32)) = (3 : Int32) := by
  have a := c_and p 3 (by decide)
  simp only [← Int32.toInt_inj]
  have e0 : (0 : Int32).toInt = 0 := rfl
  have e1 : (1 : Int32).toInt = 1 := rfl
  have e2 : (2 : Int32).toInt = 2 := rfl
  have e3 : (3 : Int32).toInt = 3 := rfl
  omega
theorem own_l58 : Value.int (58 : Int32) = .int (StrChars.lo8 (58 : Int32)) := congrArg Value.int (by first | rfl | decide | decide +kernel)
theorem own_l45 : Value.int (45 : Int32) = .int (StrChars.lo8 (45 : Int32)) := congrArg Value.int (by first | rfl | decide | decide +kernel)
theorem own_al1 {a : Int32} (ha : ¬ a < (0 : Int32) ∧ ¬ (255 : Int32) < a) : ∀ c ∈ ([a] : List Int32), ¬ c < (0 : Int32) ∧ ¬ (255 : Int32) < c := by
  intro c hc; simp only [List.mem_cons, List.not_mem_nil, or_false] at hc; rcases hc with rfl <;> assumption
theorem own_al2 {a b : Int32} (ha : ¬ a < (0 : Int32) ∧ ¬ (255 : Int32) < a) (hb : ¬ b < (0 : Int32) ∧ ¬ (255 : Int32) < b) : ∀ c ∈ ([a, b] : List Int32), ¬ c < (0 : Int32) ∧ ¬ (255 : Int32) < c := by
  intro c hc; simp only [List.mem_cons, List.not_mem_nil, or_false] at hc; rcases hc with rfl | rfl <;> assumption
theorem own_al3 {a b d : Int32} (ha : ¬ a < (0 : Int32) ∧ ¬ (255 : Int32) < a) (hb : ¬ b < (0 : Int32) ∧ ¬ (255 : Int32) < b) (hd : ¬ d < (0 : Int32) ∧ ¬ (255 : Int32) < d) : ∀ c ∈ ([a, b, d] : List Int32), ¬ c < (0 : Int32) ∧ ¬ (255 : Int32) < c := by
  intro c hc; simp only [List.mem_cons, List.not_mem_nil, or_false] at hc; rcases hc with rfl | rfl | rfl <;> assumption
abbrev rR (a b c d : Nat) : Room := { frames := a, cells := b, slots := c, locals := d }
theorem oo {p : Program} {e : Env} {below : List Frame} {P : Outcome → State → Prop} {S S' : State} (h : ∀ t, Steps p.tables e below S' t → Steps p.tables e below S t) (k : OwnEnd p e below P S') : OwnEnd p e below P S := OwnEnd.of h k
theorem ot {p : Program} {e : Env} {below : List Frame} {P : Outcome → State → Prop} {S S' : State} (h : Steps p.tables e below S S') (k : OwnEnd p e below P S') : OwnEnd p e below P S := OwnEnd.tr h k
theorem w_ {Z : State} {a0 : Array Value} (G : OwnG Z a0) (i : Nat) {d : Jvm.Cond} (h : tables_1[i]? = some d) : d.before a0 Z = true := own_w G i h
theorem ol {a b : Nat} (h : Nat.ble a b = true) : a ≤ b := Nat.le_of_ble_eq_true h
theorem lN {a n : Nat} (q : a < n) : @LT.lt Nat instLTNat a n := q
theorem on {a b : Nat} (q : @LT.lt Nat instLTNat a b ∨ @LT.lt Nat instLTNat b a) : a ≠ b := own_ne q
theorem oI {s : State} {C : String} {x z y : MethodName} (w : (Cond.selects C x z).before #[] s = true) (e : z.cls = y.cls) : NotFace s y := own_notI w e
abbrev vI (x : Int32) : Slot := .val (.int x)
abbrev vR (x : Addr) : Slot := .val (.ref x)
theorem own_z {m : MethodId} {pc : Nat} {Ls : Array Slot} {Ss rest : List Value} {W : Nat} (h : (rest.map fun v => v.category).sum = W) : 2 * (mkF m pc Ls Ss).monitorRoom + (rest.map fun v => v.category).sum ≤ W := by
  subst h; show 2 * 0 + _ ≤ _; omega
theorem own_st {p : Program} {l : Launch} {e : Env} {s : State} {m : MethodId} {args : Array Value} {below : List Frame} {meth : Method} {c : Code} {s₁ : State} {x : MethodName} {cd : ByteArray} {mx : Nat} {rt : Option FieldType} {ws : List Jvm.Cond} {R : Room} {h0 : Heap} (Bd : BodyLoose p l x (head1 ws R) cd mx rt e s m args below meth c s₁) (hh : s.heap = h0) :
    p.tables.exec = Jvm.exec ∧ c.code = cd ∧ s.vm.findClass x.cls = some m.cls ∧ meth.locks = false ∧ Stand p l e R s m args below meth c s₁ [] 0 0 ∧ s₁.heap = h0 :=
  ⟨Bd.exec, Bd.bytes, findClass_of_methodNamed Bd.named, Bd.notSynchronized, Stand.of_body Bd, by rw [← hh, Bd.state]; rfl⟩
theorem mw {Z s : State} {a0 args : Array Value} {d : Jvm.Cond} (hZ : Z.Warmed39 s.vm) (G : OwnG Z a0) (i : Nat) (h : tables_1[i]? = some d) (hd : (d.onTables && d.keepsFace) = true := by first | rfl | simp [Cond.onTables, Cond.keepsFace, Cond.keeps, Cond.steady]) : d.before args s = true := mvT hZ (own_w G i h) hd
abbrev j0 : String := "java/lang/AbstractStringBuilder"
abbrev j1 : String := "java/lang/String"
abbrev j2 : String := "java/lang/StringBuilder"
abbrev j3 : String := "com/example/tallystick/tallystick/cli/HostPort"
abbrev j4 : String := "com/example/tallystick/tallystick/cli/HostPortToStringPinLaw"
abbrev j5 : String := "java/lang/Integer"
abbrev B6 : ByteArray := jdk_42_method_149_code
abbrev B7 : ByteArray := jdk_42_method_3_code
abbrev B8 : ByteArray := jdk_41_method_11_code
abbrev B9 : ByteArray := jdk_42_method_155_code
abbrev B10 : ByteArray := jdk_42_method_154_code
abbrev B11 : ByteArray := jdk_42_method_152_code
abbrev B12 : ByteArray := jdk_42_method_54_code
abbrev B13 : ByteArray := jdk_43_method_2_code
abbrev B14 : ByteArray := jdk_42_method_56_code
abbrev B15 : ByteArray := jdk_68_method_68_code
abbrev B16 : ByteArray := jdk_68_method_2_code
abbrev B17 : ByteArray := jdk_67_method_1_code
abbrev B18 : ByteArray := jdk_68_method_9_code
abbrev B19 : ByteArray := jdk_68_method_6_code
abbrev B20 : ByteArray := jdk_67_method_93_code
abbrev B21 : ByteArray := jdk_68_method_64_code
abbrev B22 : ByteArray := jdk_68_method_71_code
abbrev B23 : ByteArray := jdk_42_method_147_code
abbrev B24 : ByteArray := jdk_68_method_73_code
abbrev B25 : ByteArray := jdk_68_method_22_code
abbrev B26 : ByteArray := jdk_67_method_7_code
abbrev B27 : ByteArray := jdk_33_method_13_code
abbrev B28 : ByteArray := jdk_33_method_12_code
abbrev B29 : ByteArray := jdk_68_method_32_code
abbrev B30 : ByteArray := jdk_67_method_15_code
abbrev B31 : ByteArray := jdk_65_method_131_code
abbrev B32 : ByteArray := jdk_29_method_69_code
abbrev B33 : ByteArray := jdk_65_method_133_code
abbrev B34 : ByteArray := jdk_65_method_132_code
abbrev B35 : ByteArray := jdk_42_method_150_code
abbrev B36 : ByteArray := jdk_42_method_53_code
abbrev B37 : ByteArray := jdk_67_method_42_code
abbrev B38 : ByteArray := jdk_30_method_1_code
abbrev B39 : ByteArray := prog_44_method_1_code
abbrev B40 : ByteArray := prog_44_method_6_code
abbrev B41 : ByteArray := jdk_29_method_61_code
abbrev B42 : ByteArray := method_3_code
abbrev B43 : ByteArray := method_4_code
abbrev B44 : ByteArray := method_5_code
theorem d0_0 : decode B6 0 = .ok (.aload_n 0, 1) := by decide +kernel
theorem d0_1 : decode B6 1 = .ok (.invokespecial 1, 3) := by decide +kernel
theorem d0_4 : decode B6 4 = .ok (.iload_n 3, 1) := by decide +kernel
theorem d0_5 : decode B6 5 = .ok (.ifCond .ne 22, 3) := by decide +kernel
theorem d0_8 : decode B6 8 = .ok (.aload_n 0, 1) := by decide +kernel
theorem d0_9 : decode B6 9 = .ok (.ldc 7, 2) := by decide +kernel
theorem d0_11 : decode B6 11 = .ok (.getfield 9, 3) := by decide +kernel
theorem d0_14 : decode B6 14 = .ok (.putfield 9, 3) := by decide +kernel
theorem d0_17 : decode B6 17 = .ok (.aload_n 0, 1) := by decide +kernel
theorem d0_18 : decode B6 18 = .ok (.ldc 7, 2) := by decide +kernel
theorem d0_20 : decode B6 20 = .ok (.getfield 15, 3) := by decide +kernel
theorem d0_23 : decode B6 23 = .ok (.putfield 15, 3) := by decide +kernel
theorem d0_26 : decode B6 26 = .ok (.return_, 1) := by decide +kernel
theorem pn_0 : plainName "java/lang/String" = true := by first | (simp [plainName, overriddenIn]; done) | decide +kernel
theorem d1_0 : decode B7 0 = .ok (.aload_n 0, 1) := by decide +kernel
theorem d1_1 : decode B7 1 = .ok (.aload_n 1, 1) := by decide +kernel
theorem d1_2 : decode B7 2 = .ok (.iconst 0, 1) := by decide +kernel
theorem d1_3 : decode B7 3 = .ok (.aload_n 1, 1) := by decide +kernel
theorem d1_4 : decode B7 4 = .ok (.arraylength, 1) := by decide +kernel
theorem d1_5 : decode B7 5 = .ok (.aconst_null, 1) := by decide +kernel
theorem d1_6 : decode B7 6 = .ok (.invokespecial 27, 3) := by decide +kernel
theorem pd_0 : parseMethodDescriptor "([CIILjava/lang/Void;)V" = some ⟨[(.array .char), .int, .int, (.object "java/lang/Void")], none⟩ := by decide +kernel
theorem d1_9 : decode B7 9 = .ok (.return_, 1) := by decide +kernel
theorem d2_0 : decode B8 0 = .ok (.iload_n 0, 1) := by decide +kernel
theorem d2_1 : decode B8 1 = .ok (.ifCond .lt 8, 3) := by decide +kernel
theorem d2_4 : decode B8 4 = .ok (.iload_n 0, 1) := by decide +kernel
theorem d2_5 : decode B8 5 = .ok (.iload_n 1, 1) := by decide +kernel
theorem d2_6 : decode B8 6 = .ok (.if_icmp .lt 10, 3) := by decide +kernel
theorem d2_16 : decode B8 16 = .ok (.iload_n 0, 1) := by decide +kernel
theorem d2_17 : decode B8 17 = .ok (.ireturn, 1) := by decide +kernel
theorem pn_1 : plainName "jdk/internal/util/Preconditions" = true := by first | (simp [plainName, overriddenIn]; done) | decide +kernel
theorem d3_0 : decode B9 0 = .ok (.iload_n 0, 1) := by decide +kernel
theorem d3_1 : decode B9 1 = .ok (.iload_n 1, 1) := by decide +kernel
theorem d3_2 : decode B9 2 = .ok (.getstatic 1053, 3) := by decide +kernel
theorem d3_5 : decode B9 5 = .ok (.invokestatic 1059, 3) := by decide +kernel
theorem pd_1 : parseMethodDescriptor "(IILjava/util/function/BiFunction;)I" = some ⟨[.int, .int, (.object "java/util/function/BiFunction")], some .int⟩ := by decide +kernel
theorem d3_8 : decode B9 8 = .ok (.pop, 1) := by decide +kernel
theorem d3_9 : decode B9 9 = .ok (.return_, 1) := by decide +kernel
theorem d4_0 : decode B10 0 = .ok (.getstatic 38, 3) := by decide +kernel
theorem d4_3 : decode B10 3 = .ok (.ifCond .eq 14, 3) := by decide +kernel
theorem d4_6 : decode B10 6 = .ok (.aload_n 0, 1) := by decide +kernel
theorem d4_7 : decode B10 7 = .ok (.getfield 15, 3) := by decide +kernel
theorem d4_10 : decode B10 10 = .ok (.ifCond .ne 7, 3) := by decide +kernel
theorem d4_13 : decode B10 13 = .ok (.iconst 1, 1) := by decide +kernel
theorem d4_14 : decode B10 14 = .ok (.goto 4, 3) := by decide +kernel
theorem d4_18 : decode B10 18 = .ok (.ireturn, 1) := by decide +kernel
theorem d5_0 : decode B11 0 = .ok (.getstatic 38, 3) := by decide +kernel
theorem d5_3 : decode B11 3 = .ok (.ifCond .eq 10, 3) := by decide +kernel
theorem d5_6 : decode B11 6 = .ok (.aload_n 0, 1) := by decide +kernel
theorem d5_7 : decode B11 7 = .ok (.getfield 15, 3) := by decide +kernel
theorem d5_10 : decode B11 10 = .ok (.goto 4, 3) := by decide +kernel
theorem d5_14 : decode B11 14 = .ok (.ireturn, 1) := by decide +kernel
theorem d6_0 : decode B12 0 = .ok (.aload_n 0, 1) := by decide +kernel
theorem d6_1 : decode B12 1 = .ok (.getfield 9, 3) := by decide +kernel
theorem d6_4 : decode B12 4 = .ok (.arraylength, 1) := by decide +kernel
theorem d6_5 : decode B12 5 = .ok (.aload_n 0, 1) := by decide +kernel
theorem d6_6 : decode B12 6 = .ok (.invokevirtual 335, 3) := by decide +kernel
theorem pd_2 : parseMethodDescriptor "()B" = some ⟨[], some .byte⟩ := by decide +kernel
theorem d6_9 : decode B12 9 = .ok (.ishr, 1) := by decide +kernel
theorem d6_10 : decode B12 10 = .ok (.ireturn, 1) := by decide +kernel
theorem d7_0 : decode B13 0 = .ok (.iload_n 1, 1) := by decide +kernel
theorem d7_1 : decode B13 1 = .ok (.aload_n 0, 1) := by decide +kernel
theorem d7_2 : decode B13 2 = .ok (.arraylength, 1) := by decide +kernel
theorem d7_3 : decode B13 3 = .ok (.invokestatic 9, 3) := by decide +kernel
theorem pd_3 : parseMethodDescriptor "(II)V" = some ⟨[.int, .int], none⟩ := by decide +kernel
theorem d7_6 : decode B13 6 = .ok (.aload_n 0, 1) := by decide +kernel
theorem d7_7 : decode B13 7 = .ok (.iload_n 1, 1) := by decide +kernel
theorem d7_8 : decode B13 8 = .ok (.baload, 1) := by decide +kernel
theorem d7_9 : decode B13 9 = .ok (.sipush 255, 3) := by decide +kernel
theorem d7_12 : decode B13 12 = .ok (.iand, 1) := by decide +kernel
theorem d7_13 : decode B13 13 = .ok (.i2c, 1) := by decide +kernel
theorem d7_14 : decode B13 14 = .ok (.ireturn, 1) := by decide +kernel
theorem pn_2 : plainName "java/lang/StringLatin1" = true := by first | (simp [plainName, overriddenIn]; done) | decide +kernel
theorem d8_0 : decode B14 0 = .ok (.aload_n 0, 1) := by decide +kernel
theorem d8_1 : decode B14 1 = .ok (.invokevirtual 492, 3) := by decide +kernel
theorem pd_4 : parseMethodDescriptor "()Z" = some ⟨[], some .boolean⟩ := by decide +kernel
theorem d8_4 : decode B14 4 = .ok (.ifCond .eq 12, 3) := by decide +kernel
theorem d8_7 : decode B14 7 = .ok (.aload_n 0, 1) := by decide +kernel
theorem d8_8 : decode B14 8 = .ok (.getfield 9, 3) := by decide +kernel
theorem d8_11 : decode B14 11 = .ok (.iload_n 1, 1) := by decide +kernel
theorem d8_12 : decode B14 12 = .ok (.invokestatic 495, 3) := by decide +kernel
theorem pd_5 : parseMethodDescriptor "([BI)C" = some ⟨[(.array .byte), .int], some .char⟩ := by decide +kernel
theorem d8_15 : decode B14 15 = .ok (.ireturn, 1) := by decide +kernel
theorem d9_0 : decode B15 0 = .ok (.getstatic 18, 3) := by decide +kernel
theorem d9_3 : decode B15 3 = .ok (.ifCond .eq 14, 3) := by decide +kernel
theorem d9_6 : decode B15 6 = .ok (.aload_n 0, 1) := by decide +kernel
theorem d9_7 : decode B15 7 = .ok (.getfield 22, 3) := by decide +kernel
theorem d9_10 : decode B15 10 = .ok (.ifCond .ne 7, 3) := by decide +kernel
theorem d9_13 : decode B15 13 = .ok (.iconst 1, 1) := by decide +kernel
theorem d9_14 : decode B15 14 = .ok (.goto 4, 3) := by decide +kernel
theorem d9_18 : decode B15 18 = .ok (.ireturn, 1) := by decide +kernel
theorem pn_3 : plainName "java/lang/AbstractStringBuilder" = true := by first | (simp [plainName, overriddenIn]; done) | decide +kernel
theorem d10_0 : decode B16 0 = .ok (.aload_n 0, 1) := by decide +kernel
theorem d10_1 : decode B16 1 = .ok (.invokespecial 3, 3) := by decide +kernel
theorem d10_4 : decode B16 4 = .ok (.getstatic 18, 3) := by decide +kernel
theorem d10_7 : decode B16 7 = .ok (.ifCond .eq 18, 3) := by decide +kernel
theorem d10_10 : decode B16 10 = .ok (.aload_n 0, 1) := by decide +kernel
theorem d10_11 : decode B16 11 = .ok (.iload_n 1, 1) := by decide +kernel
theorem d10_12 : decode B16 12 = .ok (.newarray .byte, 2) := by decide +kernel
theorem d10_14 : decode B16 14 = .ok (.putfield 15, 3) := by decide +kernel
theorem d10_17 : decode B16 17 = .ok (.aload_n 0, 1) := by decide +kernel
theorem d10_18 : decode B16 18 = .ok (.iconst 0, 1) := by decide +kernel
theorem d10_19 : decode B16 19 = .ok (.putfield 22, 3) := by decide +kernel
theorem d10_22 : decode B16 22 = .ok (.goto 16, 3) := by decide +kernel
theorem d10_38 : decode B16 38 = .ok (.return_, 1) := by decide +kernel
theorem d11_0 : decode B17 0 = .ok (.aload_n 0, 1) := by decide +kernel
theorem d11_1 : decode B17 1 = .ok (.bipush 16, 2) := by decide +kernel
theorem d11_3 : decode B17 3 = .ok (.invokespecial 1, 3) := by decide +kernel
theorem pd_6 : parseMethodDescriptor "(I)V" = some ⟨[.int], none⟩ := by decide +kernel
theorem d11_6 : decode B17 6 = .ok (.return_, 1) := by decide +kernel
theorem pn_4 : plainName "java/lang/StringBuilder" = true := by first | (simp [plainName, overriddenIn]; done) | decide +kernel
theorem d12_0 : decode B18 0 = .ok (.aload_n 0, 1) := by decide +kernel
theorem d12_1 : decode B18 1 = .ok (.getfield 15, 3) := by decide +kernel
theorem d12_4 : decode B18 4 = .ok (.arraylength, 1) := by decide +kernel
theorem d12_5 : decode B18 5 = .ok (.aload_n 0, 1) := by decide +kernel
theorem d12_6 : decode B18 6 = .ok (.getfield 22, 3) := by decide +kernel
theorem d12_9 : decode B18 9 = .ok (.ishr, 1) := by decide +kernel
theorem d12_10 : decode B18 10 = .ok (.istore_n 2, 1) := by decide +kernel
theorem d12_11 : decode B18 11 = .ok (.iload_n 1, 1) := by decide +kernel
theorem d12_12 : decode B18 12 = .ok (.iload_n 2, 1) := by decide +kernel
theorem d12_13 : decode B18 13 = .ok (.isub, 1) := by decide +kernel
theorem d12_14 : decode B18 14 = .ok (.ifCond .le 24, 3) := by decide +kernel
theorem d12_38 : decode B18 38 = .ok (.return_, 1) := by decide +kernel
theorem d13_0 : decode B19 0 = .ok (.aload_n 0, 1) := by decide +kernel
theorem d13_1 : decode B19 1 = .ok (.getfield 79, 3) := by decide +kernel
theorem d13_4 : decode B19 4 = .ok (.ireturn, 1) := by decide +kernel
theorem d14_0 : decode B20 0 = .ok (.aload_n 0, 1) := by decide +kernel
theorem d14_1 : decode B20 1 = .ok (.invokespecial 343, 3) := by decide +kernel
theorem pd_7 : parseMethodDescriptor "()I" = some ⟨[], some .int⟩ := by decide +kernel
theorem d14_4 : decode B20 4 = .ok (.ireturn, 1) := by decide +kernel
theorem d15_0 : decode B21 0 = .ok (.aload_n 0, 1) := by decide +kernel
theorem d15_1 : decode B21 1 = .ok (.getfield 15, 3) := by decide +kernel
theorem d15_4 : decode B21 4 = .ok (.areturn, 1) := by decide +kernel
theorem d16_0 : decode B22 0 = .ok (.getstatic 18, 3) := by decide +kernel
theorem d16_3 : decode B22 3 = .ok (.ifCond .eq 18, 3) := by decide +kernel
theorem d16_6 : decode B22 6 = .ok (.aload_n 0, 1) := by decide +kernel
theorem d16_7 : decode B22 7 = .ok (.getfield 22, 3) := by decide +kernel
theorem d16_10 : decode B22 10 = .ok (.aload_n 1, 1) := by decide +kernel
theorem d16_11 : decode B22 11 = .ok (.invokevirtual 40, 3) := by decide +kernel
theorem d16_14 : decode B22 14 = .ok (.if_icmp .eq 7, 3) := by decide +kernel
theorem d16_21 : decode B22 21 = .ok (.return_, 1) := by decide +kernel
theorem d17_0 : decode B23 0 = .ok (.aload_n 0, 1) := by decide +kernel
theorem d17_1 : decode B23 1 = .ok (.invokevirtual 335, 3) := by decide +kernel
theorem d17_4 : decode B23 4 = .ok (.iload_n 3, 1) := by decide +kernel
theorem d17_5 : decode B23 5 = .ok (.if_icmp .ne 23, 3) := by decide +kernel
theorem d17_8 : decode B23 8 = .ok (.aload_n 0, 1) := by decide +kernel
theorem d17_9 : decode B23 9 = .ok (.getfield 9, 3) := by decide +kernel
theorem d17_12 : decode B23 12 = .ok (.iconst 0, 1) := by decide +kernel
theorem d17_13 : decode B23 13 = .ok (.aload_n 1, 1) := by decide +kernel
theorem d17_14 : decode B23 14 = .ok (.iload_n 2, 1) := by decide +kernel
theorem d17_15 : decode B23 15 = .ok (.iload_n 3, 1) := by decide +kernel
theorem d17_16 : decode B23 16 = .ok (.ishl, 1) := by decide +kernel
theorem d17_17 : decode B23 17 = .ok (.aload_n 0, 1) := by decide +kernel
theorem d17_18 : decode B23 18 = .ok (.getfield 9, 3) := by decide +kernel
theorem d17_21 : decode B23 21 = .ok (.arraylength, 1) := by decide +kernel
theorem d17_22 : decode B23 22 = .ok (.invokestatic 212, 3) := by decide +kernel
theorem d17_25 : decode B23 25 = .ok (.goto 18, 3) := by decide +kernel
theorem d17_43 : decode B23 43 = .ok (.return_, 1) := by decide +kernel
theorem d18_0 : decode B24 0 = .ok (.aload_n 0, 1) := by decide +kernel
theorem d18_1 : decode B24 1 = .ok (.aload_n 2, 1) := by decide +kernel
theorem d18_2 : decode B24 2 = .ok (.invokevirtual 397, 3) := by decide +kernel
theorem pd_8 : parseMethodDescriptor "(Ljava/lang/String;)V" = some ⟨[(.object "java/lang/String")], none⟩ := by decide +kernel
theorem d18_5 : decode B24 5 = .ok (.aload_n 2, 1) := by decide +kernel
theorem d18_6 : decode B24 6 = .ok (.aload_n 0, 1) := by decide +kernel
theorem d18_7 : decode B24 7 = .ok (.getfield 15, 3) := by decide +kernel
theorem d18_10 : decode B24 10 = .ok (.iload_n 1, 1) := by decide +kernel
theorem d18_11 : decode B24 11 = .ok (.aload_n 0, 1) := by decide +kernel
theorem d18_12 : decode B24 12 = .ok (.getfield 22, 3) := by decide +kernel
theorem d18_15 : decode B24 15 = .ok (.invokevirtual 399, 3) := by decide +kernel
theorem pd_9 : parseMethodDescriptor "([BIB)V" = some ⟨[(.array .byte), .int, .byte], none⟩ := by decide +kernel
theorem d18_18 : decode B24 18 = .ok (.return_, 1) := by decide +kernel
theorem d19_0 : decode B25 0 = .ok (.aload_n 1, 1) := by decide +kernel
theorem d19_1 : decode B25 1 = .ok (.ifnonnull 8, 3) := by decide +kernel
theorem d19_9 : decode B25 9 = .ok (.aload_n 1, 1) := by decide +kernel
theorem d19_10 : decode B25 10 = .ok (.invokevirtual 32, 3) := by decide +kernel
theorem d19_13 : decode B25 13 = .ok (.istore_n 2, 1) := by decide +kernel
theorem d19_14 : decode B25 14 = .ok (.aload_n 0, 1) := by decide +kernel
theorem d19_15 : decode B25 15 = .ok (.aload_n 0, 1) := by decide +kernel
theorem d19_16 : decode B25 16 = .ok (.getfield 79, 3) := by decide +kernel
theorem d19_19 : decode B25 19 = .ok (.iload_n 2, 1) := by decide +kernel
theorem d19_20 : decode B25 20 = .ok (.iadd, 1) := by decide +kernel
theorem d19_21 : decode B25 21 = .ok (.invokevirtual 100, 3) := by decide +kernel
theorem d19_24 : decode B25 24 = .ok (.aload_n 0, 1) := by decide +kernel
theorem d19_25 : decode B25 25 = .ok (.aload_n 0, 1) := by decide +kernel
theorem d19_26 : decode B25 26 = .ok (.getfield 79, 3) := by decide +kernel
theorem d19_29 : decode B25 29 = .ok (.aload_n 1, 1) := by decide +kernel
theorem d19_30 : decode B25 30 = .ok (.invokevirtual 208, 3) := by decide +kernel
theorem pd_10 : parseMethodDescriptor "(ILjava/lang/String;)V" = some ⟨[.int, (.object "java/lang/String")], none⟩ := by decide +kernel
theorem d19_33 : decode B25 33 = .ok (.aload_n 0, 1) := by decide +kernel
theorem d19_34 : decode B25 34 = .ok (.dup, 1) := by decide +kernel
theorem d19_35 : decode B25 35 = .ok (.getfield 79, 3) := by decide +kernel
theorem d19_38 : decode B25 38 = .ok (.iload_n 2, 1) := by decide +kernel
theorem d19_39 : decode B25 39 = .ok (.iadd, 1) := by decide +kernel
theorem d19_40 : decode B25 40 = .ok (.putfield 79, 3) := by decide +kernel
theorem d19_43 : decode B25 43 = .ok (.aload_n 0, 1) := by decide +kernel
theorem d19_44 : decode B25 44 = .ok (.areturn, 1) := by decide +kernel
theorem d20_0 : decode B26 0 = .ok (.aload_n 0, 1) := by decide +kernel
theorem d20_1 : decode B26 1 = .ok (.aload_n 1, 1) := by decide +kernel
theorem d20_2 : decode B26 2 = .ok (.invokespecial 29, 3) := by decide +kernel
theorem pd_11 : parseMethodDescriptor "(Ljava/lang/String;)Ljava/lang/AbstractStringBuilder;" = some ⟨[(.object "java/lang/String")], some (.object "java/lang/AbstractStringBuilder")⟩ := by decide +kernel
theorem d20_5 : decode B26 5 = .ok (.pop, 1) := by decide +kernel
theorem d20_6 : decode B26 6 = .ok (.aload_n 0, 1) := by decide +kernel
theorem d20_7 : decode B26 7 = .ok (.areturn, 1) := by decide +kernel
theorem d21_0 : decode B27 0 = .ok (.iconst 1, 1) := by decide +kernel
theorem d21_1 : decode B27 1 = .ok (.istore_n 1, 1) := by decide +kernel
theorem d21_2 : decode B27 2 = .ok (.iload_n 0, 1) := by decide +kernel
theorem d21_3 : decode B27 3 = .ok (.ifCond .lt 8, 3) := by decide +kernel
theorem d21_11 : decode B27 11 = .ok (.bipush (-10), 2) := by decide +kernel
theorem d21_13 : decode B27 13 = .ok (.istore_n 2, 1) := by decide +kernel
theorem d21_14 : decode B27 14 = .ok (.iconst 1, 1) := by decide +kernel
theorem d21_15 : decode B27 15 = .ok (.istore_n 3, 1) := by decide +kernel
theorem d21_16 : decode B27 16 = .ok (.iload_n 3, 1) := by decide +kernel
theorem d21_17 : decode B27 17 = .ok (.bipush 10, 2) := by decide +kernel
theorem d21_19 : decode B27 19 = .ok (.if_icmp .ge 23, 3) := by decide +kernel
theorem d21_22 : decode B27 22 = .ok (.iload_n 0, 1) := by decide +kernel
theorem d21_23 : decode B27 23 = .ok (.iload_n 2, 1) := by decide +kernel
theorem d21_24 : decode B27 24 = .ok (.if_icmp .le 7, 3) := by decide +kernel
theorem d21_27 : decode B27 27 = .ok (.iload_n 3, 1) := by decide +kernel
theorem d21_28 : decode B27 28 = .ok (.iload_n 1, 1) := by decide +kernel
theorem d21_29 : decode B27 29 = .ok (.iadd, 1) := by decide +kernel
theorem d21_30 : decode B27 30 = .ok (.ireturn, 1) := by decide +kernel
theorem d21_31 : decode B27 31 = .ok (.bipush 10, 2) := by decide +kernel
theorem d21_33 : decode B27 33 = .ok (.iload_n 2, 1) := by decide +kernel
theorem d21_34 : decode B27 34 = .ok (.imul, 1) := by decide +kernel
theorem d21_35 : decode B27 35 = .ok (.istore_n 2, 1) := by decide +kernel
theorem d21_36 : decode B27 36 = .ok (.iinc 3 1, 3) := by decide +kernel
theorem d21_39 : decode B27 39 = .ok (.goto (-23), 3) := by decide +kernel
theorem d21_42 : decode B27 42 = .ok (.bipush 10, 2) := by decide +kernel
theorem d21_44 : decode B27 44 = .ok (.iload_n 1, 1) := by decide +kernel
theorem d21_45 : decode B27 45 = .ok (.iadd, 1) := by decide +kernel
theorem d21_46 : decode B27 46 = .ok (.ireturn, 1) := by decide +kernel
theorem d21_6 : decode B27 6 = .ok (.iconst 0, 1) := by decide +kernel
theorem d21_7 : decode B27 7 = .ok (.istore_n 1, 1) := by decide +kernel
theorem d21_8 : decode B27 8 = .ok (.iload_n 0, 1) := by decide +kernel
theorem d21_9 : decode B27 9 = .ok (.ineg, 1) := by decide +kernel
theorem d21_10 : decode B27 10 = .ok (.istore_n 0, 1) := by decide +kernel
theorem pn_5 : plainName "java/lang/Integer" = true := by first | (simp [plainName, overriddenIn]; done) | decide +kernel
theorem d22_22 : decode B28 22 = .ok (.iload_n 0, 1) := by decide +kernel
theorem d22_23 : decode B28 23 = .ok (.bipush (-100), 2) := by decide +kernel
theorem d22_25 : decode B28 25 = .ok (.if_icmp .gt 47, 3) := by decide +kernel
theorem d22_72 : decode B28 72 = .ok (.aload_n 2, 1) := by decide +kernel
theorem d22_73 : decode B28 73 = .ok (.iinc 5 (-1), 3) := by decide +kernel
theorem d22_76 : decode B28 76 = .ok (.iload 5, 2) := by decide +kernel
theorem d22_78 : decode B28 78 = .ok (.getstatic 83, 3) := by decide +kernel
theorem d22_81 : decode B28 81 = .ok (.iload_n 0, 1) := by decide +kernel
theorem d22_82 : decode B28 82 = .ok (.ineg, 1) := by decide +kernel
theorem d22_83 : decode B28 83 = .ok (.baload, 1) := by decide +kernel
theorem d22_84 : decode B28 84 = .ok (.bastore, 1) := by decide +kernel
theorem d22_85 : decode B28 85 = .ok (.iload_n 0, 1) := by decide +kernel
theorem d22_86 : decode B28 86 = .ok (.bipush (-9), 2) := by decide +kernel
theorem d22_88 : decode B28 88 = .ok (.if_icmp .ge 16, 3) := by decide +kernel
theorem d22_91 : decode B28 91 = .ok (.aload_n 2, 1) := by decide +kernel
theorem d22_92 : decode B28 92 = .ok (.iinc 5 (-1), 3) := by decide +kernel
theorem d22_95 : decode B28 95 = .ok (.iload 5, 2) := by decide +kernel
theorem d22_97 : decode B28 97 = .ok (.getstatic 87, 3) := by decide +kernel
theorem d22_100 : decode B28 100 = .ok (.iload_n 0, 1) := by decide +kernel
theorem d22_101 : decode B28 101 = .ok (.ineg, 1) := by decide +kernel
theorem d22_102 : decode B28 102 = .ok (.baload, 1) := by decide +kernel
theorem d22_103 : decode B28 103 = .ok (.bastore, 1) := by decide +kernel
theorem d22_104 : decode B28 104 = .ok (.iload 6, 2) := by decide +kernel
theorem d22_106 : decode B28 106 = .ok (.ifCond .eq 12, 3) := by decide +kernel
theorem d22_109 : decode B28 109 = .ok (.aload_n 2, 1) := by decide +kernel
theorem d22_110 : decode B28 110 = .ok (.iinc 5 (-1), 3) := by decide +kernel
theorem d22_113 : decode B28 113 = .ok (.iload 5, 2) := by decide +kernel
theorem d22_115 : decode B28 115 = .ok (.bipush 45, 2) := by decide +kernel
theorem d22_117 : decode B28 117 = .ok (.bastore, 1) := by decide +kernel
theorem d22_118 : decode B28 118 = .ok (.iload 5, 2) := by decide +kernel
theorem d22_120 : decode B28 120 = .ok (.ireturn, 1) := by decide +kernel
theorem d22_28 : decode B28 28 = .ok (.iload_n 0, 1) := by decide +kernel
theorem d22_29 : decode B28 29 = .ok (.bipush 100, 2) := by decide +kernel
theorem d22_31 : decode B28 31 = .ok (.idiv, 1) := by decide +kernel
theorem d22_32 : decode B28 32 = .ok (.istore_n 3, 1) := by decide +kernel
theorem d22_33 : decode B28 33 = .ok (.iload_n 3, 1) := by decide +kernel
theorem d22_34 : decode B28 34 = .ok (.bipush 100, 2) := by decide +kernel
theorem d22_36 : decode B28 36 = .ok (.imul, 1) := by decide +kernel
theorem d22_37 : decode B28 37 = .ok (.iload_n 0, 1) := by decide +kernel
theorem d22_38 : decode B28 38 = .ok (.isub, 1) := by decide +kernel
theorem d22_39 : decode B28 39 = .ok (.istore 4, 2) := by decide +kernel
theorem d22_41 : decode B28 41 = .ok (.iload_n 3, 1) := by decide +kernel
theorem d22_42 : decode B28 42 = .ok (.istore_n 0, 1) := by decide +kernel
theorem d22_43 : decode B28 43 = .ok (.aload_n 2, 1) := by decide +kernel
theorem d22_44 : decode B28 44 = .ok (.iinc 5 (-1), 3) := by decide +kernel
theorem d22_47 : decode B28 47 = .ok (.iload 5, 2) := by decide +kernel
theorem d22_49 : decode B28 49 = .ok (.getstatic 83, 3) := by decide +kernel
theorem d22_52 : decode B28 52 = .ok (.iload 4, 2) := by decide +kernel
theorem d22_54 : decode B28 54 = .ok (.baload, 1) := by decide +kernel
theorem d22_55 : decode B28 55 = .ok (.bastore, 1) := by decide +kernel
theorem d22_56 : decode B28 56 = .ok (.aload_n 2, 1) := by decide +kernel
theorem d22_57 : decode B28 57 = .ok (.iinc 5 (-1), 3) := by decide +kernel
theorem d22_60 : decode B28 60 = .ok (.iload 5, 2) := by decide +kernel
theorem d22_62 : decode B28 62 = .ok (.getstatic 87, 3) := by decide +kernel
theorem d22_65 : decode B28 65 = .ok (.iload 4, 2) := by decide +kernel
theorem d22_67 : decode B28 67 = .ok (.baload, 1) := by decide +kernel
theorem d22_68 : decode B28 68 = .ok (.bastore, 1) := by decide +kernel
theorem d22_69 : decode B28 69 = .ok (.goto (-47), 3) := by decide +kernel
theorem d22_0 : decode B28 0 = .ok (.iload_n 1, 1) := by decide +kernel
theorem d22_1 : decode B28 1 = .ok (.istore 5, 2) := by decide +kernel
theorem d22_3 : decode B28 3 = .ok (.iload_n 0, 1) := by decide +kernel
theorem d22_4 : decode B28 4 = .ok (.ifCond .ge 7, 3) := by decide +kernel
theorem d22_7 : decode B28 7 = .ok (.iconst 1, 1) := by decide +kernel
theorem d22_8 : decode B28 8 = .ok (.goto 4, 3) := by decide +kernel
theorem d22_12 : decode B28 12 = .ok (.istore 6, 2) := by decide +kernel
theorem d22_14 : decode B28 14 = .ok (.iload 6, 2) := by decide +kernel
theorem d22_16 : decode B28 16 = .ok (.ifCond .ne 6, 3) := by decide +kernel
theorem d22_11 : decode B28 11 = .ok (.iconst 0, 1) := by decide +kernel
theorem d22_19 : decode B28 19 = .ok (.iload_n 0, 1) := by decide +kernel
theorem d22_20 : decode B28 20 = .ok (.ineg, 1) := by decide +kernel
theorem d22_21 : decode B28 21 = .ok (.istore_n 0, 1) := by decide +kernel
theorem d23_0 : decode B29 0 = .ok (.aload_n 0, 1) := by decide +kernel
theorem d23_1 : decode B29 1 = .ok (.getfield 79, 3) := by decide +kernel
theorem d23_4 : decode B29 4 = .ok (.istore_n 2, 1) := by decide +kernel
theorem d23_5 : decode B29 5 = .ok (.iload_n 2, 1) := by decide +kernel
theorem d23_6 : decode B29 6 = .ok (.iload_n 1, 1) := by decide +kernel
theorem d23_7 : decode B29 7 = .ok (.invokestatic 245, 3) := by decide +kernel
theorem pd_12 : parseMethodDescriptor "(I)I" = some ⟨[.int], some .int⟩ := by decide +kernel
theorem d23_10 : decode B29 10 = .ok (.iadd, 1) := by decide +kernel
theorem d23_11 : decode B29 11 = .ok (.istore_n 3, 1) := by decide +kernel
theorem d23_12 : decode B29 12 = .ok (.aload_n 0, 1) := by decide +kernel
theorem d23_13 : decode B29 13 = .ok (.iload_n 3, 1) := by decide +kernel
theorem d23_14 : decode B29 14 = .ok (.invokevirtual 100, 3) := by decide +kernel
theorem d23_17 : decode B29 17 = .ok (.aload_n 0, 1) := by decide +kernel
theorem d23_18 : decode B29 18 = .ok (.invokevirtual 83, 3) := by decide +kernel
theorem d23_21 : decode B29 21 = .ok (.ifCond .eq 16, 3) := by decide +kernel
theorem d23_24 : decode B29 24 = .ok (.iload_n 1, 1) := by decide +kernel
theorem d23_25 : decode B29 25 = .ok (.iload_n 3, 1) := by decide +kernel
theorem d23_26 : decode B29 26 = .ok (.aload_n 0, 1) := by decide +kernel
theorem d23_27 : decode B29 27 = .ok (.getfield 15, 3) := by decide +kernel
theorem d23_30 : decode B29 30 = .ok (.invokestatic 248, 3) := by decide +kernel
theorem pd_13 : parseMethodDescriptor "(II[B)I" = some ⟨[.int, .int, (.array .byte)], some .int⟩ := by decide +kernel
theorem d23_33 : decode B29 33 = .ok (.pop, 1) := by decide +kernel
theorem d23_34 : decode B29 34 = .ok (.goto 14, 3) := by decide +kernel
theorem d23_48 : decode B29 48 = .ok (.aload_n 0, 1) := by decide +kernel
theorem d23_49 : decode B29 49 = .ok (.iload_n 3, 1) := by decide +kernel
theorem d23_50 : decode B29 50 = .ok (.putfield 79, 3) := by decide +kernel
theorem d23_53 : decode B29 53 = .ok (.aload_n 0, 1) := by decide +kernel
theorem d23_54 : decode B29 54 = .ok (.areturn, 1) := by decide +kernel
theorem d24_0 : decode B30 0 = .ok (.aload_n 0, 1) := by decide +kernel
theorem d24_1 : decode B30 1 = .ok (.iload_n 1, 1) := by decide +kernel
theorem d24_2 : decode B30 2 = .ok (.invokespecial 53, 3) := by decide +kernel
theorem pd_14 : parseMethodDescriptor "(I)Ljava/lang/AbstractStringBuilder;" = some ⟨[.int], some (.object "java/lang/AbstractStringBuilder")⟩ := by decide +kernel
theorem d24_5 : decode B30 5 = .ok (.pop, 1) := by decide +kernel
theorem d24_6 : decode B30 6 = .ok (.aload_n 0, 1) := by decide +kernel
theorem d24_7 : decode B30 7 = .ok (.areturn, 1) := by decide +kernel
theorem d25_0 : decode B31 0 = .ok (.iload_n 1, 1) := by decide +kernel
theorem d25_1 : decode B31 1 = .ok (.iload_n 0, 1) := by decide +kernel
theorem d25_2 : decode B31 2 = .ok (.if_icmp .ge 35, 3) := by decide +kernel
theorem d25_37 : decode B31 37 = .ok (.return_, 1) := by decide +kernel
theorem pn_6 : plainName "java/util/Arrays" = true := by first | (simp [plainName, overriddenIn]; done) | decide +kernel
theorem d26_0 : decode B32 0 = .ok (.iload_n 0, 1) := by decide +kernel
theorem d26_1 : decode B32 1 = .ok (.iload_n 1, 1) := by decide +kernel
theorem d26_2 : decode B32 2 = .ok (.if_icmp .gt 7, 3) := by decide +kernel
theorem d26_9 : decode B32 9 = .ok (.iload_n 1, 1) := by decide +kernel
theorem d26_10 : decode B32 10 = .ok (.ireturn, 1) := by decide +kernel
theorem d27_0 : decode B33 0 = .ok (.iload_n 1, 1) := by decide +kernel
theorem d27_1 : decode B33 1 = .ok (.iload_n 2, 1) := by decide +kernel
theorem d27_2 : decode B33 2 = .ok (.invokestatic 343, 3) := by decide +kernel
theorem d27_5 : decode B33 5 = .ok (.iload_n 2, 1) := by decide +kernel
theorem d27_6 : decode B33 6 = .ok (.iload_n 1, 1) := by decide +kernel
theorem d27_7 : decode B33 7 = .ok (.isub, 1) := by decide +kernel
theorem d27_8 : decode B33 8 = .ok (.istore_n 3, 1) := by decide +kernel
theorem d27_9 : decode B33 9 = .ok (.iload_n 3, 1) := by decide +kernel
theorem d27_10 : decode B33 10 = .ok (.newarray .byte, 2) := by decide +kernel
theorem d27_12 : decode B33 12 = .ok (.astore 4, 2) := by decide +kernel
theorem d27_14 : decode B33 14 = .ok (.aload_n 0, 1) := by decide +kernel
theorem d27_15 : decode B33 15 = .ok (.iload_n 1, 1) := by decide +kernel
theorem d27_16 : decode B33 16 = .ok (.aload 4, 2) := by decide +kernel
theorem d27_18 : decode B33 18 = .ok (.iconst 0, 1) := by decide +kernel
theorem d27_19 : decode B33 19 = .ok (.aload_n 0, 1) := by decide +kernel
theorem d27_20 : decode B33 20 = .ok (.arraylength, 1) := by decide +kernel
theorem d27_21 : decode B33 21 = .ok (.iload_n 1, 1) := by decide +kernel
theorem d27_22 : decode B33 22 = .ok (.isub, 1) := by decide +kernel
theorem d27_23 : decode B33 23 = .ok (.iload_n 3, 1) := by decide +kernel
theorem d27_24 : decode B33 24 = .ok (.invokestatic 304, 3) := by decide +kernel
theorem pd_15 : parseMethodDescriptor "(II)I" = some ⟨[.int, .int], some .int⟩ := by decide +kernel
theorem d27_27 : decode B33 27 = .ok (.invokestatic 150, 3) := by decide +kernel
theorem d27_30 : decode B33 30 = .ok (.aload 4, 2) := by decide +kernel
theorem d27_32 : decode B33 32 = .ok (.areturn, 1) := by decide +kernel
theorem d28_0 : decode B34 0 = .ok (.iload_n 1, 1) := by decide +kernel
theorem d28_1 : decode B34 1 = .ok (.ifCond .ne 9, 3) := by decide +kernel
theorem d28_4 : decode B34 4 = .ok (.iload_n 2, 1) := by decide +kernel
theorem d28_5 : decode B34 5 = .ok (.aload_n 0, 1) := by decide +kernel
theorem d28_6 : decode B34 6 = .ok (.arraylength, 1) := by decide +kernel
theorem d28_7 : decode B34 7 = .ok (.if_icmp .eq 10, 3) := by decide +kernel
theorem d28_10 : decode B34 10 = .ok (.aload_n 0, 1) := by decide +kernel
theorem d28_11 : decode B34 11 = .ok (.iload_n 1, 1) := by decide +kernel
theorem d28_12 : decode B34 12 = .ok (.iload_n 2, 1) := by decide +kernel
theorem d28_13 : decode B34 13 = .ok (.invokestatic 339, 3) := by decide +kernel
theorem pd_16 : parseMethodDescriptor "([BII)[B" = some ⟨[(.array .byte), .int, .int], some (.array .byte)⟩ := by decide +kernel
theorem d28_16 : decode B34 16 = .ok (.areturn, 1) := by decide +kernel
theorem d29_0 : decode B35 0 = .ok (.aload_n 0, 1) := by decide +kernel
theorem d29_1 : decode B35 1 = .ok (.invokespecial 1, 3) := by decide +kernel
theorem d29_4 : decode B35 4 = .ok (.aload_n 1, 1) := by decide +kernel
theorem d29_5 : decode B35 5 = .ok (.invokevirtual 552, 3) := by decide +kernel
theorem pd_17 : parseMethodDescriptor "()[B" = some ⟨[], some (.array .byte)⟩ := by decide +kernel
theorem d29_8 : decode B35 8 = .ok (.astore_n 3, 1) := by decide +kernel
theorem d29_9 : decode B35 9 = .ok (.aload_n 1, 1) := by decide +kernel
theorem d29_10 : decode B35 10 = .ok (.invokevirtual 549, 3) := by decide +kernel
theorem d29_13 : decode B35 13 = .ok (.istore 4, 2) := by decide +kernel
theorem d29_15 : decode B35 15 = .ok (.aload_n 1, 1) := by decide +kernel
theorem d29_16 : decode B35 16 = .ok (.invokevirtual 1047, 3) := by decide +kernel
theorem d29_19 : decode B35 19 = .ok (.ifCond .eq 22, 3) := by decide +kernel
theorem d29_22 : decode B35 22 = .ok (.aload_n 0, 1) := by decide +kernel
theorem d29_23 : decode B35 23 = .ok (.iconst 0, 1) := by decide +kernel
theorem d29_24 : decode B35 24 = .ok (.putfield 15, 3) := by decide +kernel
theorem d29_27 : decode B35 27 = .ok (.aload_n 0, 1) := by decide +kernel
theorem d29_28 : decode B35 28 = .ok (.aload_n 3, 1) := by decide +kernel
theorem d29_29 : decode B35 29 = .ok (.iconst 0, 1) := by decide +kernel
theorem d29_30 : decode B35 30 = .ok (.iload 4, 2) := by decide +kernel
theorem d29_32 : decode B35 32 = .ok (.invokestatic 54, 3) := by decide +kernel
theorem d29_35 : decode B35 35 = .ok (.putfield 9, 3) := by decide +kernel
theorem d29_38 : decode B35 38 = .ok (.goto 59, 3) := by decide +kernel
theorem d29_97 : decode B35 97 = .ok (.return_, 1) := by decide +kernel
theorem d30_0 : decode B36 0 = .ok (.aload_n 0, 1) := by decide +kernel
theorem d30_1 : decode B36 1 = .ok (.aload_n 1, 1) := by decide +kernel
theorem d30_2 : decode B36 2 = .ok (.aconst_null, 1) := by decide +kernel
theorem d30_3 : decode B36 3 = .ok (.invokespecial 489, 3) := by decide +kernel
theorem pd_18 : parseMethodDescriptor "(Ljava/lang/AbstractStringBuilder;Ljava/lang/Void;)V" = some ⟨[(.object "java/lang/AbstractStringBuilder"), (.object "java/lang/Void")], none⟩ := by decide +kernel
theorem d30_6 : decode B36 6 = .ok (.return_, 1) := by decide +kernel
theorem d31_0 : decode B37 0 = .ok (.new 18, 3) := by decide +kernel
theorem d31_3 : decode B37 3 = .ok (.dup, 1) := by decide +kernel
theorem d31_4 : decode B37 4 = .ok (.aload_n 0, 1) := by decide +kernel
theorem d31_5 : decode B37 5 = .ok (.invokespecial 137, 3) := by decide +kernel
theorem pd_19 : parseMethodDescriptor "(Ljava/lang/StringBuilder;)V" = some ⟨[(.object "java/lang/StringBuilder")], none⟩ := by decide +kernel
theorem d31_8 : decode B37 8 = .ok (.areturn, 1) := by decide +kernel
theorem d32_0 : decode B38 0 = .ok (.aload_n 0, 1) := by decide +kernel
theorem d32_1 : decode B38 1 = .ok (.invokespecial 1, 3) := by decide +kernel
theorem d32_4 : decode B38 4 = .ok (.return_, 1) := by decide +kernel
theorem pn_7 : plainName "java/lang/Record" = true := by first | (simp [plainName, overriddenIn]; done) | decide +kernel
theorem d33_0 : decode B39 0 = .ok (.aload_n 0, 1) := by decide +kernel
theorem d33_1 : decode B39 1 = .ok (.invokespecial 1, 3) := by decide +kernel
theorem pd_20 : parseMethodDescriptor "()V" = some ⟨[], none⟩ := by decide +kernel
theorem d33_4 : decode B39 4 = .ok (.aload_n 0, 1) := by decide +kernel
theorem d33_5 : decode B39 5 = .ok (.aload_n 1, 1) := by decide +kernel
theorem d33_6 : decode B39 6 = .ok (.putfield 7, 3) := by decide +kernel
theorem d33_9 : decode B39 9 = .ok (.aload_n 0, 1) := by decide +kernel
theorem d33_10 : decode B39 10 = .ok (.iload_n 2, 1) := by decide +kernel
theorem d33_11 : decode B39 11 = .ok (.putfield 13, 3) := by decide +kernel
theorem d33_14 : decode B39 14 = .ok (.return_, 1) := by decide +kernel
theorem pn_8 : plainName "com/example/tallystick/tallystick/cli/HostPort" = true := by first | (simp [plainName, overriddenIn]; done) | decide +kernel
theorem d34_0 : decode B40 0 = .ok (.new 46, 3) := by decide +kernel
theorem d34_3 : decode B40 3 = .ok (.dup, 1) := by decide +kernel
theorem d34_4 : decode B40 4 = .ok (.invokespecial 48, 3) := by decide +kernel
theorem d34_7 : decode B40 7 = .ok (.aload_n 0, 1) := by decide +kernel
theorem d34_8 : decode B40 8 = .ok (.getfield 7, 3) := by decide +kernel
theorem d34_11 : decode B40 11 = .ok (.invokevirtual 51, 3) := by decide +kernel
theorem pd_21 : parseMethodDescriptor "(Ljava/lang/String;)Ljava/lang/StringBuilder;" = some ⟨[(.object "java/lang/String")], some (.object "java/lang/StringBuilder")⟩ := by decide +kernel
theorem d34_14 : decode B40 14 = .ok (.ldc 91, 2) := by decide +kernel
theorem d34_16 : decode B40 16 = .ok (.invokevirtual 51, 3) := by decide +kernel
theorem d34_19 : decode B40 19 = .ok (.aload_n 0, 1) := by decide +kernel
theorem d34_20 : decode B40 20 = .ok (.getfield 13, 3) := by decide +kernel
theorem d34_23 : decode B40 23 = .ok (.invokevirtual 93, 3) := by decide +kernel
theorem pd_22 : parseMethodDescriptor "(I)Ljava/lang/StringBuilder;" = some ⟨[.int], some (.object "java/lang/StringBuilder")⟩ := by decide +kernel
theorem d34_26 : decode B40 26 = .ok (.invokevirtual 57, 3) := by decide +kernel
theorem pd_23 : parseMethodDescriptor "()Ljava/lang/String;" = some ⟨[], some (.object "java/lang/String")⟩ := by decide +kernel
theorem d34_29 : decode B40 29 = .ok (.areturn, 1) := by decide +kernel
theorem d35_0 : decode B41 0 = .ok (.lload_n 0, 1) := by decide +kernel
theorem d35_1 : decode B41 1 = .ok (.lconst 0, 1) := by decide +kernel
theorem d35_2 : decode B41 2 = .ok (.lcmp, 1) := by decide +kernel
theorem d35_3 : decode B41 3 = .ok (.ifCond .ge 8, 3) := by decide +kernel
theorem d35_6 : decode B41 6 = .ok (.lload_n 0, 1) := by decide +kernel
theorem d35_7 : decode B41 7 = .ok (.lneg, 1) := by decide +kernel
theorem d35_8 : decode B41 8 = .ok (.goto 4, 3) := by decide +kernel
theorem d35_12 : decode B41 12 = .ok (.lreturn, 1) := by decide +kernel
theorem d35_11 : decode B41 11 = .ok (.lload_n 0, 1) := by decide +kernel
theorem d36_0 : decode B42 0 = .ok (.lload_n 0, 1) := by decide +kernel
theorem d36_1 : decode B42 1 = .ok (.ldc2_w 45, 3) := by decide +kernel
theorem d36_4 : decode B42 4 = .ok (.lcmp, 1) := by decide +kernel
theorem d36_5 : decode B42 5 = .ok (.ifCond .ge 5, 3) := by decide +kernel
theorem d36_8 : decode B42 8 = .ok (.iconst 1, 1) := by decide +kernel
theorem d36_9 : decode B42 9 = .ok (.ireturn, 1) := by decide +kernel
theorem d36_10 : decode B42 10 = .ok (.lload_n 0, 1) := by decide +kernel
theorem d36_11 : decode B42 11 = .ok (.ldc2_w 47, 3) := by decide +kernel
theorem d36_14 : decode B42 14 = .ok (.lcmp, 1) := by decide +kernel
theorem d36_15 : decode B42 15 = .ok (.ifCond .ge 5, 3) := by decide +kernel
theorem d36_18 : decode B42 18 = .ok (.iconst 2, 1) := by decide +kernel
theorem d36_19 : decode B42 19 = .ok (.ireturn, 1) := by decide +kernel
theorem d36_20 : decode B42 20 = .ok (.lload_n 0, 1) := by decide +kernel
theorem d36_21 : decode B42 21 = .ok (.ldc2_w 49, 3) := by decide +kernel
theorem d36_24 : decode B42 24 = .ok (.lcmp, 1) := by decide +kernel
theorem d36_25 : decode B42 25 = .ok (.ifCond .ge 5, 3) := by decide +kernel
theorem d36_28 : decode B42 28 = .ok (.iconst 3, 1) := by decide +kernel
theorem d36_29 : decode B42 29 = .ok (.ireturn, 1) := by decide +kernel
theorem d36_30 : decode B42 30 = .ok (.lload_n 0, 1) := by decide +kernel
theorem d36_31 : decode B42 31 = .ok (.ldc2_w 51, 3) := by decide +kernel
theorem d36_34 : decode B42 34 = .ok (.lcmp, 1) := by decide +kernel
theorem d36_35 : decode B42 35 = .ok (.ifCond .ge 5, 3) := by decide +kernel
theorem d36_38 : decode B42 38 = .ok (.iconst 4, 1) := by decide +kernel
theorem d36_39 : decode B42 39 = .ok (.ireturn, 1) := by decide +kernel
theorem d36_40 : decode B42 40 = .ok (.lload_n 0, 1) := by decide +kernel
theorem d36_41 : decode B42 41 = .ok (.ldc2_w 53, 3) := by decide +kernel
theorem d36_44 : decode B42 44 = .ok (.lcmp, 1) := by decide +kernel
theorem d36_45 : decode B42 45 = .ok (.ifCond .ge 5, 3) := by decide +kernel
theorem d36_48 : decode B42 48 = .ok (.iconst 5, 1) := by decide +kernel
theorem d36_49 : decode B42 49 = .ok (.ireturn, 1) := by decide +kernel
theorem d36_50 : decode B42 50 = .ok (.lload_n 0, 1) := by decide +kernel
theorem d36_51 : decode B42 51 = .ok (.ldc2_w 55, 3) := by decide +kernel
theorem d36_54 : decode B42 54 = .ok (.lcmp, 1) := by decide +kernel
theorem d36_55 : decode B42 55 = .ok (.ifCond .ge 6, 3) := by decide +kernel
theorem d36_58 : decode B42 58 = .ok (.bipush 6, 2) := by decide +kernel
theorem d36_60 : decode B42 60 = .ok (.ireturn, 1) := by decide +kernel
theorem d36_61 : decode B42 61 = .ok (.lload_n 0, 1) := by decide +kernel
theorem d36_62 : decode B42 62 = .ok (.ldc2_w 57, 3) := by decide +kernel
theorem d36_65 : decode B42 65 = .ok (.lcmp, 1) := by decide +kernel
theorem d36_66 : decode B42 66 = .ok (.ifCond .ge 6, 3) := by decide +kernel
theorem d36_69 : decode B42 69 = .ok (.bipush 7, 2) := by decide +kernel
theorem d36_71 : decode B42 71 = .ok (.ireturn, 1) := by decide +kernel
theorem d36_72 : decode B42 72 = .ok (.lload_n 0, 1) := by decide +kernel
theorem d36_73 : decode B42 73 = .ok (.ldc2_w 59, 3) := by decide +kernel
theorem d36_76 : decode B42 76 = .ok (.lcmp, 1) := by decide +kernel
theorem d36_77 : decode B42 77 = .ok (.ifCond .ge 6, 3) := by decide +kernel
theorem d36_80 : decode B42 80 = .ok (.bipush 8, 2) := by decide +kernel
theorem d36_82 : decode B42 82 = .ok (.ireturn, 1) := by decide +kernel
theorem d36_83 : decode B42 83 = .ok (.lload_n 0, 1) := by decide +kernel
theorem d36_84 : decode B42 84 = .ok (.ldc2_w 61, 3) := by decide +kernel
theorem d36_87 : decode B42 87 = .ok (.lcmp, 1) := by decide +kernel
theorem d36_88 : decode B42 88 = .ok (.ifCond .ge 6, 3) := by decide +kernel
theorem d36_91 : decode B42 91 = .ok (.bipush 9, 2) := by decide +kernel
theorem d36_93 : decode B42 93 = .ok (.ireturn, 1) := by decide +kernel
theorem d36_94 : decode B42 94 = .ok (.bipush 10, 2) := by decide +kernel
theorem d36_96 : decode B42 96 = .ok (.ireturn, 1) := by decide +kernel
theorem pn_9 : plainName "com/example/tallystick/tallystick/cli/HostPortToStringPinLaw" = true := by first | (simp [plainName, overriddenIn]; done) | decide +kernel
theorem d37_0 : decode B43 0 = .ok (.bipush 10, 2) := by decide +kernel
theorem d37_2 : decode B43 2 = .ok (.newarray .long, 2) := by decide +kernel
theorem d37_4 : decode B43 4 = .ok (.dup, 1) := by decide +kernel
theorem d37_5 : decode B43 5 = .ok (.iconst 0, 1) := by decide +kernel
theorem d37_6 : decode B43 6 = .ok (.lconst 1, 1) := by decide +kernel
theorem d37_7 : decode B43 7 = .ok (.lastore, 1) := by decide +kernel
theorem d37_8 : decode B43 8 = .ok (.dup, 1) := by decide +kernel
theorem d37_9 : decode B43 9 = .ok (.iconst 1, 1) := by decide +kernel
theorem d37_10 : decode B43 10 = .ok (.ldc2_w 45, 3) := by decide +kernel
theorem d37_13 : decode B43 13 = .ok (.lastore, 1) := by decide +kernel
theorem d37_14 : decode B43 14 = .ok (.dup, 1) := by decide +kernel
theorem d37_15 : decode B43 15 = .ok (.iconst 2, 1) := by decide +kernel
theorem d37_16 : decode B43 16 = .ok (.ldc2_w 47, 3) := by decide +kernel
theorem d37_19 : decode B43 19 = .ok (.lastore, 1) := by decide +kernel
theorem d37_20 : decode B43 20 = .ok (.dup, 1) := by decide +kernel
theorem d37_21 : decode B43 21 = .ok (.iconst 3, 1) := by decide +kernel
theorem d37_22 : decode B43 22 = .ok (.ldc2_w 49, 3) := by decide +kernel
theorem d37_25 : decode B43 25 = .ok (.lastore, 1) := by decide +kernel
theorem d37_26 : decode B43 26 = .ok (.dup, 1) := by decide +kernel
theorem d37_27 : decode B43 27 = .ok (.iconst 4, 1) := by decide +kernel
theorem d37_28 : decode B43 28 = .ok (.ldc2_w 51, 3) := by decide +kernel
theorem d37_31 : decode B43 31 = .ok (.lastore, 1) := by decide +kernel
theorem d37_32 : decode B43 32 = .ok (.dup, 1) := by decide +kernel
theorem d37_33 : decode B43 33 = .ok (.iconst 5, 1) := by decide +kernel
theorem d37_34 : decode B43 34 = .ok (.ldc2_w 53, 3) := by decide +kernel
theorem d37_37 : decode B43 37 = .ok (.lastore, 1) := by decide +kernel
theorem d37_38 : decode B43 38 = .ok (.dup, 1) := by decide +kernel
theorem d37_39 : decode B43 39 = .ok (.bipush 6, 2) := by decide +kernel
theorem d37_41 : decode B43 41 = .ok (.ldc2_w 55, 3) := by decide +kernel
theorem d37_44 : decode B43 44 = .ok (.lastore, 1) := by decide +kernel
theorem d37_45 : decode B43 45 = .ok (.dup, 1) := by decide +kernel
theorem d37_46 : decode B43 46 = .ok (.bipush 7, 2) := by decide +kernel
theorem d37_48 : decode B43 48 = .ok (.ldc2_w 57, 3) := by decide +kernel
theorem d37_51 : decode B43 51 = .ok (.lastore, 1) := by decide +kernel
theorem d37_52 : decode B43 52 = .ok (.dup, 1) := by decide +kernel
theorem d37_53 : decode B43 53 = .ok (.bipush 8, 2) := by decide +kernel
theorem d37_55 : decode B43 55 = .ok (.ldc2_w 59, 3) := by decide +kernel
theorem d37_58 : decode B43 58 = .ok (.lastore, 1) := by decide +kernel
theorem d37_59 : decode B43 59 = .ok (.dup, 1) := by decide +kernel
theorem d37_60 : decode B43 60 = .ok (.bipush 9, 2) := by decide +kernel
theorem d37_62 : decode B43 62 = .ok (.ldc2_w 61, 3) := by decide +kernel
theorem d37_65 : decode B43 65 = .ok (.lastore, 1) := by decide +kernel
theorem d37_66 : decode B43 66 = .ok (.astore_n 1, 1) := by decide +kernel
theorem d37_67 : decode B43 67 = .ok (.aload_n 1, 1) := by decide +kernel
theorem d37_68 : decode B43 68 = .ok (.iload_n 0, 1) := by decide +kernel
theorem d37_69 : decode B43 69 = .ok (.laload, 1) := by decide +kernel
theorem d37_70 : decode B43 70 = .ok (.lreturn, 1) := by decide +kernel
theorem d38_0 : decode B44 0 = .ok (.iload 5, 2) := by decide +kernel
theorem d38_2 : decode B44 2 = .ok (.iload 4, 2) := by decide +kernel
theorem d38_4 : decode B44 4 = .ok (.if_icmp .lt 5, 3) := by decide +kernel
theorem d38_7 : decode B44 7 = .ok (.iconst 1, 1) := by decide +kernel
theorem d38_8 : decode B44 8 = .ok (.ireturn, 1) := by decide +kernel
theorem d38_9 : decode B44 9 = .ok (.lload_n 2, 1) := by decide +kernel
theorem d38_10 : decode B44 10 = .ok (.iload 4, 2) := by decide +kernel
theorem d38_12 : decode B44 12 = .ok (.iconst 1, 1) := by decide +kernel
theorem d38_13 : decode B44 13 = .ok (.isub, 1) := by decide +kernel
theorem d38_14 : decode B44 14 = .ok (.iload 5, 2) := by decide +kernel
theorem d38_16 : decode B44 16 = .ok (.isub, 1) := by decide +kernel
theorem d38_17 : decode B44 17 = .ok (.invokestatic 63, 3) := by decide +kernel
theorem pd_24 : parseMethodDescriptor "(I)J" = some ⟨[.int], some .long⟩ := by decide +kernel
theorem d38_20 : decode B44 20 = .ok (.ldiv, 1) := by decide +kernel
theorem d38_21 : decode B44 21 = .ok (.ldc2_w 45, 3) := by decide +kernel
theorem d38_24 : decode B44 24 = .ok (.lrem, 1) := by decide +kernel
theorem d38_25 : decode B44 25 = .ok (.lstore 6, 2) := by decide +kernel
theorem d38_27 : decode B44 27 = .ok (.aload_n 0, 1) := by decide +kernel
theorem d38_28 : decode B44 28 = .ok (.iload_n 1, 1) := by decide +kernel
theorem d38_29 : decode B44 29 = .ok (.iload 5, 2) := by decide +kernel
theorem d38_31 : decode B44 31 = .ok (.iadd, 1) := by decide +kernel
theorem d38_32 : decode B44 32 = .ok (.invokevirtual 37, 3) := by decide +kernel
theorem pd_25 : parseMethodDescriptor "(I)C" = some ⟨[.int], some .char⟩ := by decide +kernel
theorem d38_35 : decode B44 35 = .ok (.bipush 48, 2) := by decide +kernel
theorem d38_37 : decode B44 37 = .ok (.lload 6, 2) := by decide +kernel
theorem d38_39 : decode B44 39 = .ok (.l2i, 1) := by decide +kernel
theorem d38_40 : decode B44 40 = .ok (.iadd, 1) := by decide +kernel
theorem d38_41 : decode B44 41 = .ok (.i2c, 1) := by decide +kernel
theorem d38_42 : decode B44 42 = .ok (.if_icmp .ne 7, 3) := by decide +kernel
theorem d38_45 : decode B44 45 = .ok (.iconst 1, 1) := by decide +kernel
theorem d38_46 : decode B44 46 = .ok (.goto 4, 3) := by decide +kernel
theorem d38_50 : decode B44 50 = .ok (.ireturn, 1) := by decide +kernel
theorem pd_26 : parseMethodDescriptor "(Ljava/lang/String;IJII)Z" = some ⟨[(.object "java/lang/String"), .int, .long, .int, .int], some .boolean⟩ := by decide +kernel
theorem pd_27 : parseMethodDescriptor "([C)V" = some ⟨[(.array .char)], none⟩ := by decide +kernel
theorem pd_28 : parseMethodDescriptor "(Ljava/lang/String;I)V" = some ⟨[(.object "java/lang/String"), .int], none⟩ := by decide +kernel
theorem pd_29 : parseMethodDescriptor "(J)J" = some ⟨[.long], some .long⟩ := by decide +kernel
theorem pd_30 : parseMethodDescriptor "(J)I" = some ⟨[.long], some .int⟩ := by decide +kernel
theorem own_efn4e (m : MethodId) (x0 : Addr) (b : Addr) : entryFrame m #[(.ref x0), (.ref b), (.int 0), (.int 0), .null] 6 = mkF m 0 #[vR x0, vR b, vI 0, vI 0, .val .null, .unset] [] := by first | (simp [entryFrame, mkF, argsToLocals, Value.category]; done) | rfl
def Qn4e (Z : State) (x0 : Addr) (b : Addr) (c0 : Value) (h0 : Heap) (n0 : Nat) (v : Option Value) (h : Heap) (L : List Loc) : Prop := ∃ (t : Addr) (kb : ClassId), v = none ∧ Fr n0 L ∧ Keep h0 h [x0] ∧ (Exa Z h x0 j1) ∧ (Fld Z h x0 j1 "value" "[B" (.ref t)) ∧ (Fld Z h x0 j1 "coder" "B" (.int 0)) ∧ (Arv Z h t kb .byte (0 : Int32) [] (.int 0))
set_option maxRecDepth 65536 in
set_option maxHeartbeats 40000000 in
theorem rmn4e (l : Launch) (Z : State) (a0 : Array Value) (G : OwnG Z a0) (ws : List Jvm.Cond) (x0 : Addr) (b : Addr) (c0 : Value) (h0 : Heap) (n0 : Nat) (O0 : Old Z n0 h0) (P0 : Exa Z h0 x0 j1) (P1 : Fld Z h0 x0 j1 "value" "[B" .null) (P2 : Fld Z h0 x0 j1 "coder" "B" c0) (P3 : n0 ≤ x0) :
  MetFree l own_m0 (head1 (Jvm.Cond.code own_m0 B6 6 none :: ws) (rR 1 2 4 12)) (fun a U => a = #[(.ref x0), (.ref b), (.int 0), (.int 0), .null] ∧ Z.Warmed39 U.vm ∧ U.heap = h0 ∧ CHv Z consts_1 U.vm h0) (fun _ _ _ _ _ => True) (fun _ U o U' => ∃ v L, o = .returned v ∧ Qn4e Z x0 b c0 h0 n0 v U'.heap L ∧ CHr Z consts_1 U.vm U.heap U'.vm U'.heap ∧ ReturnedEndW U o U' L (rR 1 2 4 12).cells (rR 1 2 4 12).slots) := by
 refine MetFree.of_bodySF (plainFor_of_name pn_0) hisR ?_
 intro p e s m args below meth cD s₁ Bd hml0 hP hK
 obtain ⟨rfl, hZ, hh, hCH⟩ := hP
 have hml : cD.maxLocals = 6 := hml0
 have hnm := (name_of_methodNamed Bd.named Bd.method).1
 obtain ⟨hx, hby, (hown : s.vm.findClass j1 = some m.cls), hlk, X0, e0⟩ := own_st Bd hh
 have D := @hb _ _ hby
 have lt0 := lN P0.lt
 have lt1 := lN P1.lt
 have lt2 := lN P2.lt
 have K0 : Keep h0 h0 [x0] := Keep.refl h0 _
 have Z0 := own_old_le O0
 have N0 := Fr.nil n0
 have X0w : Stand p l e (rR 1 2 4 12) (s.setVm s.vm) m #[(.ref x0), (.ref b), (.int 0), (.int 0), .null] below meth cD s₁ [] 0 0 := X0
 have Si0 : s.Since s.vm (Array.size h0) := (State.WarmedH.refl s).since _
 have RR0 : CHr Z consts_1 s.vm h0 s.vm h0 := CHr.refl hCH
 let lv1 : Array Slot := #[vR x0, vR b, vI 0, vI 0, .val .null, .unset]
 refine OwnEnd.start (g' := (mkF m 0 lv1 [])) (own_efn4e m x0 b) ?_
 have Sf0 : Safe Z consts_1 s.vm h0 x0 := own_safe_null hZ.alike P0 P1
 refine oo (S' := s₁.setTop (mkF m 1 lv1 [(.ref x0)])) (fun _ kK => XS.aloadN X0w.here hx rfl (D d0_0) rfl rfl kK) ?_
 obtain ⟨T2, X2, e2, st2⟩ := initO X0w hx hZ hown (w_ G 11 rfl) (w_ G 12 rfl) (w_ G 13 rfl) e0 (g := (mkF m 1 lv1 [(.ref x0)])) rfl (by rw [hml]; rfl) rfl (D d0_1) (by decide) (W := 0) (own_z rfl) (by decide)
 refine oo (S' := T2.setTop (mkF m 4 lv1 [])) st2 ?_
 refine oo (S' := T2.setTop (mkF m 9 lv1 [(.ref x0)])) (fun _ kK => XS.iloadN X2.here hx rfl (D d0_4) rfl (XS.ifNo X2.here hx rfl (D d0_5) rfl ((if0 _ _).trans (teq ((by decide : (0 : Int32) = (0 : Int32)))).2) (XS.aloadN X2.here hx rfl (D d0_8) rfl rfl kK))) ?_
 obtain ⟨a3, T3, h3, k3, b3, c3, X3, e3, E3, Si3, gr3, hZ3, hown3, Ex3, Fc3, Fv3, Av3, la3, lb3, R3, Lt3, ne3, st3⟩ := ldcCH (vm0 := s.vm) X2 hx hZ hown (w_ G 14 rfl) (own_wS G) e2 Si0 (by omega) (own_EW G) (by simp [consts_1]) hCH (vs := []) (z := (0 : Int32)) (by decide) (by decide) (by decide) (g := (mkF m 9 lv1 [(.ref x0)])) rfl (D d0_9) (n := 0) (by first | decide | simp) (by decide) (by decide) (by decide)
 have sz4 := E3.1
 have K4 := K0.ext E3
 have RR3' := RR0.trans R3
 refine oo (S' := T3.setTop (mkF m 11 lv1 [(.ref a3), (.ref x0)])) st3 ?_
 have f5 : Safe Z consts_1 T3.vm h3 x0 := (R3.safe (own_ltB (by omega)) Sf0)
 obtain ⟨na3, nb3⟩ := ne3 x0 f5
 have na3' := own_neN na3
 have nb3' := own_neN nb3
 obtain ⟨T6, X6, e6, st6⟩ := getF X3 hx hZ3 hown3 (host := "") (Or.inl (w_ G 20 rfl)) Via.refl e3 Fv3 (g := (mkF m 11 lv1 [(.ref a3), (.ref x0)])) rfl rfl (D d0_11)
 refine oo (S' := T6.setTop (mkF m 14 lv1 [(.ref b3), (.ref x0)])) st6 ?_
 have f8 := (P1.ext E3)
 have f9 := (P0.ext E3)
 obtain ⟨T7, h7, X7, e7, W7, st7⟩ := putF X6 hx hZ3 hown3 (host := "") (Or.inl (w_ G 20 rfl)) Via.refl e6 f8 f9 (Or.inr ⟨(w_ G 16 rfl), rfl, hnm⟩) (w_ G 2 rfl) (ty := (.array .byte)) (by decide) rfl rfl (g := (mkF m 14 lv1 [(.ref b3), (.ref x0)])) rfl rfl (D d0_14)
 have Fw7 := f8.same W7
 have N7 := Fr.snoc X7 N0 (by omega)
 have sz10 := own_wr_le W7
 have K10 := K4.wr W7 (Or.inl (by simp))
 have R10 := CHr.wr W7 f5 R3.1
 have CH10 := R10.1
 have RR10 := RR3'.trans R10
 refine oo (S' := T7.setTop (mkF m 17 lv1 [])) st7 ?_
 refine oo (S' := T7.setTop (mkF m 18 lv1 [(.ref x0)])) (fun _ kK => XS.aloadN X7.here hx rfl (D d0_17) rfl rfl kK) ?_
 refine oo (S' := T7.setTop (mkF m 20 lv1 [(.ref a3), (.ref x0)])) (ldcAgain (vm0 := T3.vm) X7 hx hZ3 hown3 (w_ G 14 rfl) Lt3 (g := (mkF m 18 lv1 [(.ref x0)])) rfl (D d0_18)) ?_
 have f12 := (Fc3.other W7 (Or.inl (on (by omega))))
 obtain ⟨T11, X11, e11, st11⟩ := getF X7 hx hZ3 hown3 (host := "") (Or.inl (w_ G 21 rfl)) Via.refl e7 f12 (g := (mkF m 20 lv1 [(.ref a3), (.ref x0)])) rfl rfl (D d0_20)
 refine oo (S' := T11.setTop (mkF m 23 lv1 [(.int 0), (.ref x0)])) st11 ?_
 have f14 := ((P2.ext E3).other W7 (Or.inr (slot_ne (Or.inr (w_ G 17 rfl)) (Or.inr (w_ G 16 rfl)) (by decide) (t := .byte) (t' := (.array .byte)) (by decide) (by decide))))
 have f15 := (f9.wr W7)
 obtain ⟨T13, h13, X13, e13, W13, st13⟩ := putFN X11 hx hZ3 hown3 (w_ G 21 rfl) Via.refl e11 f14 f15 (Or.inr ⟨(w_ G 17 rfl), rfl, hnm⟩) (w_ G 2 rfl) (ty := .byte) (v' := (.int 0)) (by decide) rfl rfl (g := (mkF m 23 lv1 [(.int 0), (.ref x0)])) rfl rfl (D d0_23)
 have Fw13 := f14.same W13
 have N13 := Fr.snoc X13 N7 (by omega)
 have sz16 := own_wr_le W13
 have K16 := K10.wr W13 (Or.inl (by simp))
 have f17 : Safe Z consts_1 T3.vm h7 x0 := (Safe.wr W7 f5 R3.1 f5)
 have R16 := CHr.wr W13 f17 CH10
 have CH16 := R16.1
 have RR16 := RR10.trans R16
 refine oo (S' := T13.setTop (mkF m 26 lv1 [])) st13 ?_
 have f18 := (f15.wr W13)
 have f19 := (Fw7.other W13 (Or.inr (slot_ne (Or.inr (w_ G 16 rfl)) (Or.inr (w_ G 17 rfl)) (by decide) (t := (.array .byte)) (t' := .byte) (by decide) (by decide))))
 have f20 := ((Av3.other W7 (on (by omega))).other W13 (on (by omega)))
 refine OwnEnd.retC hh (own_EW G) hZ3 X13 Si3 (by omega) (v := none) (fun _ => rfl) hlk (fun fs hr => X13.returnOut hx Bd.returns (D d0_26) hr) (by decide) (by decide) (Q := Qn4e Z x0 b c0 h0 n0) e13 RR16 ?_
 exact ⟨b3, c3, rfl, N13, K16, f18, f19, Fw13, f20⟩

theorem own_efn1e (m : MethodId) (x0 : Addr) (b : Addr) : entryFrame m #[(.ref x0), (.ref b)] 2 = mkF m 0 #[vR x0, vR b] [] := by first | (simp [entryFrame, mkF, argsToLocals, Value.category]; done) | rfl
def Qn1e (Z : State) (x0 : Addr) (b : Addr) (c0 : Value) (kC : ClassId) (vs : List Value) (dv : Value) (h0 : Heap) (n0 : Nat) (v : Option Value) (h : Heap) (L : List Loc) : Prop := ∃ (t : Addr) (kb : ClassId), v = none ∧ Fr n0 L ∧ Keep h0 h [x0] ∧ (Exa Z h x0 j1) ∧ (Fld Z h x0 j1 "value" "[B" (.ref t)) ∧ (Fld Z h x0 j1 "coder" "B" (.int 0)) ∧ (Arv Z h t kb .byte (0 : Int32) [] (.int 0))
set_option maxRecDepth 65536 in
set_option maxHeartbeats 40000000 in
theorem rmn1e (l : Launch) (Z : State) (a0 : Array Value) (G : OwnG Z a0) (ws : List Jvm.Cond) (x0 : Addr) (b : Addr) (c0 : Value) (kC : ClassId) (vs : List Value) (dv : Value) (h0 : Heap) (n0 : Nat) (O0 : Old Z n0 h0) (P0 : Exa Z h0 x0 j1) (P1 : Fld Z h0 x0 j1 "value" "[B" .null) (P2 : Fld Z h0 x0 j1 "coder" "B" c0) (P3 : Arv Z h0 b kC .char (0 : Int32) vs dv) (P4 : n0 ≤ x0) :
  MetFree l own_m1 (head1 (Jvm.Cond.code own_m1 B7 2 none :: ws) (rR 2 2 4 29)) (fun a U => a = #[(.ref x0), (.ref b)] ∧ Z.Warmed39 U.vm ∧ U.heap = h0 ∧ CHv Z consts_1 U.vm h0) (fun _ _ _ _ _ => True) (fun _ U o U' => ∃ v L, o = .returned v ∧ Qn1e Z x0 b c0 kC vs dv h0 n0 v U'.heap L ∧ CHr Z consts_1 U.vm U.heap U'.vm U'.heap ∧ ReturnedEndW U o U' L (rR 2 2 4 29).cells (rR 2 2 4 29).slots) := by
 refine MetFree.of_bodySF (plainFor_of_name pn_0) hisR ?_
 intro p e s m args below meth cD s₁ Bd hml0 hP hK
 obtain ⟨rfl, hZ, hh, hCH⟩ := hP
 have hml : cD.maxLocals = 2 := hml0
 obtain ⟨hx, hby, (hown : s.vm.findClass j1 = some m.cls), hlk, X0, e0⟩ := own_st Bd hh
 have D := @hb _ _ hby
 have lt0 := lN P0.lt
 have lt1 := lN P1.lt
 have lt2 := lN P2.lt
 have lt3 := lN P3.lt
 have K0 : Keep h0 h0 [x0] := Keep.refl h0 _
 have Z0 := own_old_le O0
 have N0 := Fr.nil n0
 have X0w : Stand p l e (rR 2 2 4 29) (s.setVm s.vm) m #[(.ref x0), (.ref b)] below meth cD s₁ [] 0 0 := X0
 have Si0 : s.Since s.vm (Array.size h0) := (State.WarmedH.refl s).since _
 have RR0 : CHr Z consts_1 s.vm h0 s.vm h0 := CHr.refl hCH
 refine OwnEnd.start (g' := (mkF m 0 #[vR x0, vR b] [])) (own_efn1e m x0 b) ?_
 have Sf0 : Safe Z consts_1 s.vm h0 x0 := own_safe_null hZ.alike P0 P1
 refine oo (S' := s₁.setTop (mkF m 4 #[vR x0, vR b] [(.ref b), (.int 0), (.ref b), (.ref x0)])) (fun _ kK => XS.aloadN X0w.here hx rfl (D d1_0) rfl rfl (XS.aloadN X0w.here hx rfl (D d1_1) rfl rfl (XS.iconst X0w.here hx rfl (D d1_2) (XS.aloadN X0w.here hx rfl (D d1_3) rfl rfl kK)))) ?_
 obtain ⟨cl1, Ar1, q1, S1, N1', H1, G1⟩ := id P3
 refine oo (S' := s₁.setTop (mkF m 5 #[vR x0, vR b] [(.int 0), (.int 0), (.ref b), (.ref x0)])) (fun _ kK => X0w.arraylength hx (by rw [e0]; exact Ar1.1) (State.isArrayOf_alike hZ.alike Ar1.2.1) (g := (mkF m 4 #[vR x0, vR b] [(.ref b), (.int 0), (.ref b), (.ref x0)])) rfl rfl (D d1_4) _ (by rw [len_of S1 N1']; exact kK)) ?_
 refine oo (S' := s₁.setTop (mkF m 6 #[vR x0, vR b] [.null, (.int 0), (.int 0), (.ref b), (.ref x0)])) (fun _ kK => XS.aconstNull X0w.here hx rfl (D d1_5) kK) ?_
 obtain ⟨_, _, ⟨T2, L2, k2, n2⟩, -, X2', Si2, gr2, ⟨Lc2, hQ2, l2, y2, z2, CH2⟩, st2⟩ := Jvm.Stand.specialBackS X0w hx (y := own_m0) rfl hown (mw hZ G 7 rfl) (mw hZ G 8 rfl) (mw hZ G 10 rfl) (by decide) (backOfSH (W := 0) (rmn4e l Z a0 G [] x0 b c0 h0 n0 O0 P0 P1 P2 (by omega)) hZ (w_ G 10 rfl) (w_ G 3 rfl) (by decide) (by decide) (own_EW G) hCH) (g := (mkF m 6 #[vR x0, vR b] [.null, (.int 0), (.int 0), (.ref b), (.ref x0)])) rfl (by rw [hml]; rfl) (Steps.refl _) (a := x0) (argsL := [(.ref b), (.int 0), (.int 0), .null]) (rest := []) (lenOf pd_0 rfl) rfl (own_z rfl) (D d1_6) (fun _ _ => ⟨rfl, e0, (ol rfl), (ol rfl)⟩)
 dsimp only [Pt.U, Pt.locs, Pt.cells, Pt.slots] at X2' l2 y2 z2 st2 hQ2 CH2 Si2 gr2
 subst l2 y2 z2
 obtain ⟨X2, Sj2, hZ2, hown2⟩ := rebS (n1 := Array.size h0) Si0 (by omega) X2' Si2 (by rw [e0] at gr2; omega) hZ hown
 obtain ⟨t_2, kb_2, rfl, N2q, Kq2, r2_0, r2_1, r2_2, r2_3⟩ := hQ2
 have N2 := Fr.app N0 N2q
 have sz3 := Kq2.1
 have K3 := K0.trans Kq2 (own_all1 (Or.inl (by simp)))
 have RR2' := RR0.trans CH2
 have ltr2_0 := lN r2_0.lt
 have ltr2_1 := lN r2_1.lt
 have ltr2_2 := lN r2_2.lt
 have ltr2_3 := lN r2_3.lt
 refine ot (S' := T2.setTop (mkF m 9 #[vR x0, vR b] [])) st2 ?_
 refine OwnEnd.retC hh (own_EW G) hZ2 X2 Sj2 (by omega) (v := none) (fun _ => rfl) hlk (fun fs hr => X2.returnOut hx Bd.returns (D d1_9) hr) (by decide) (by decide) (Q := Qn1e Z x0 b c0 kC vs dv h0 n0) rfl RR2' ?_
 exact ⟨t_2, kb_2, rfl, N2, K3, r2_0, r2_1, r2_2, r2_3⟩

theorem own_efck (m : MethodId) (i : Int32) (n : Int32) (v2 : Value) (hv2 : v2.isRef = true) : entryFrame m #[(.int i), (.int n), v2] 3 = mkF m 0 #[vI i, vI n, .val v2] [] := by
 rcases ref_cases hv2 with rfl | ⟨_, rfl⟩ <;>
 first | (simp [entryFrame, mkF, argsToLocals, Value.category]; done) | rfl
def Qck (Z : State) (i : Int32) (n : Int32) (v2 : Value) (h0 : Heap) (n0 : Nat) (v : Option Value) (h : Heap) (L : List Loc) : Prop := v = some (.int i) ∧ Fr n0 L ∧ h = h0
set_option maxRecDepth 65536 in
set_option maxHeartbeats 40000000 in
theorem rmck (l : Launch) (Z : State) (a0 : Array Value) (G : OwnG Z a0) (ws : List Jvm.Cond) (i : Int32) (n : Int32) (v2 : Value) (h0 : Heap) (n0 : Nat) (O0 : Old Z n0 h0) (P0 : ¬ i < (0 : Int32)) (P1 : i < n) (P2 : v2.isRef = true) :
  MetFree l own_m2 (head1 (Jvm.Cond.code own_m2 B8 3 (some .int) :: ws) (rR 0 0 0 0)) (fun a U => a = #[(.int i), (.int n), v2] ∧ Z.Warmed39 U.vm ∧ U.heap = h0) (fun _ _ _ _ _ => True) (fun _ U o U' => ∃ v L, o = .returned v ∧ Qck Z i n v2 h0 n0 v U'.heap L ∧ FrameEnd U o U' L (rR 0 0 0 0).cells (rR 0 0 0 0).slots) := by
 refine MetFree.of_bodySF (plainFor_of_name pn_1) hisR ?_
 intro p e s m args below meth cD s₁ Bd hml0 hP hK
 obtain ⟨rfl, hZ, hh⟩ := hP
 have hml : cD.maxLocals = 3 := hml0
 obtain ⟨hx, hby, (hown : s.vm.findClass "jdk/internal/util/Preconditions" = some m.cls), hlk, X0, e0⟩ := own_st Bd hh
 have D := @hb _ _ hby
 have Z0 := own_old_le O0
 have N0 := Fr.nil n0
 refine OwnEnd.start (g' := (mkF m 0 #[vI i, vI n, .val v2] [])) (own_efck m i n v2 P2) ?_
 refine oo (S' := s₁.setTop (mkF m 17 #[vI i, vI n, .val v2] [(.int i)])) (fun _ kK => XS.iloadN X0.here hx rfl (D d2_0) rfl (XS.ifNo X0.here hx rfl (D d2_1) rfl ((if0 _ _).trans (flt (P0)).1) (XS.iloadN X0.here hx rfl (D d2_4) rfl (XS.iloadN X0.here hx rfl (D d2_5) rfl (XS.icmpYes X0.here hx rfl (pc0 := 6) (pc' := 16) rfl (D d2_6) rfl (tlt (P1)).1 (by decide) (by decide) (XS.iloadN X0.here hx rfl (D d2_16) rfl kK)))))) ?_
 refine OwnEnd.ret X0 (v := (some (.int i))) (fun h => by rw [Bd.returns] at h; cases h) hlk (fun fs hr => retOut X0 hx Bd.returns rfl (Or.inl ⟨rfl, Or.inl rfl, _, rfl⟩) (D d2_17) hr) (by decide) (by decide) (Q := Qck Z i n v2 h0 n0) e0 ?_
 exact ⟨rfl, N0, rfl⟩

theorem own_efsk (m : MethodId) (i : Int32) (n : Int32) : entryFrame m #[(.int i), (.int n)] 2 = mkF m 0 #[vI i, vI n] [] := by first | (simp [entryFrame, mkF, argsToLocals, Value.category]; done) | rfl
def Qsk (Z : State) (i : Int32) (n : Int32) (h0 : Heap) (n0 : Nat) (v : Option Value) (h : Heap) (L : List Loc) : Prop := v = none ∧ Fr n0 L ∧ h = h0
set_option maxRecDepth 65536 in
set_option maxHeartbeats 40000000 in
theorem rmsk (l : Launch) (Z : State) (a0 : Array Value) (G : OwnG Z a0) (ws : List Jvm.Cond) (i : Int32) (n : Int32) (h0 : Heap) (n0 : Nat) (O0 : Old Z n0 h0) (P0 : ¬ i < (0 : Int32)) (P1 : i < n) :
  MetFree l own_m3 (head1 (Jvm.Cond.code own_m3 B9 2 none :: ws) (rR 1 0 0 14)) (fun a U => a = #[(.int i), (.int n)] ∧ Z.Warmed39 U.vm ∧ U.heap = h0) (fun _ _ _ _ _ => True) (fun _ U o U' => ∃ v L, o = .returned v ∧ Qsk Z i n h0 n0 v U'.heap L ∧ FrameEnd U o U' L (rR 1 0 0 14).cells (rR 1 0 0 14).slots) := by
 refine MetFree.of_bodySF (plainFor_of_name pn_0) hisR ?_
 intro p e s m args below meth cD s₁ Bd hml0 hP hK
 obtain ⟨rfl, hZ, hh⟩ := hP
 have hml : cD.maxLocals = 2 := hml0
 obtain ⟨hx, hby, (hown : s.vm.findClass j1 = some m.cls), hlk, X0, e0⟩ := own_st Bd hh
 have D := @hb _ _ hby
 have Z0 := own_old_le O0
 have N0 := Fr.nil n0
 obtain ⟨vFM, SFM, PFM⟩ := own_fm G
 refine OwnEnd.start (g' := (mkF m 0 #[vI i, vI n] [])) (own_efsk m i n) ?_
 refine oo (S' := s₁.setTop (mkF m 2 #[vI i, vI n] [(.int n), (.int i)])) (fun _ kK => XS.iloadN X0.here hx rfl (D d3_0) rfl (XS.iloadN X0.here hx rfl (D d3_1) rfl kK)) ?_
 obtain ⟨T1, X1, e1, st1⟩ := getS2 X0 hx hZ hown (host := "") (Or.inl (w_ G 199 rfl)) Via.refl e0 (SFM.ext O0.2) (g := (mkF m 2 #[vI i, vI n] [(.int n), (.int i)])) rfl (D d3_2)
 refine oo (S' := T1.setTop (mkF m 5 #[vI i, vI n] [vFM, (.int n), (.int i)])) st1 ?_
 obtain ⟨_, _, ⟨T2, L2, k2, n2⟩, -, X2, ⟨Lc2, hQ2, l2, y2, z2⟩, st2⟩ := Jvm.LawKit.callS X1 hx (y := own_m2) hown (mw hZ G 201 rfl) (mw hZ G 202 rfl) (mw hZ G 200 rfl) (mw hZ G 203 rfl) (by decide) (backOf (W := 0) (rmck l Z a0 G [] i n vFM h0 n0 O0 P0 P1 (PFM)) hZ (w_ G 203 rfl) (w_ G 200 rfl) (by decide) (by decide)) (g := (mkF m 5 #[vI i, vI n] [vFM, (.int n), (.int i)])) rfl (by rw [hml]; rfl) (argsL := [(.int i), (.int n), vFM]) (rest := []) (lenOf pd_1 rfl) rfl (own_z rfl) (D d3_5) (fun _ _ => ⟨rfl, e1, (ol rfl), (ol rfl)⟩)
 dsimp only [Pt.U, Pt.locs, Pt.cells, Pt.slots] at X2 l2 y2 z2 st2 hQ2
 subst l2 y2 z2
 obtain ⟨rfl, N2q, eh2⟩ := hQ2
 have N2 := Fr.app N0 N2q
 refine oo (S' := T2.setTop (mkF m 8 #[vI i, vI n] [(.int i)])) st2 ?_
 refine oo (S' := T2.setTop (mkF m 9 #[vI i, vI n] [])) (fun _ kK => XS.pop X2.here hx rfl (D d3_8) rfl rfl kK) ?_
 refine OwnEnd.ret X2 (v := none) (fun _ => rfl) hlk (fun fs hr => X2.returnOut hx Bd.returns (D d3_9) hr) (by decide) (by decide) (Q := Qsk Z i n h0 n0) eh2 ?_
 exact ⟨rfl, N2, rfl⟩

theorem own_efil0 (m : MethodId) (x0 : Addr) : entryFrame m #[(.ref x0)] 1 = mkF m 0 #[vR x0] [] := by first | (simp [entryFrame, mkF, argsToLocals, Value.category]; done) | rfl
set_option maxRecDepth 65536 in
set_option maxHeartbeats 40000000 in
theorem rmil0 (l : Launch) (Z : State) (a0 : Array Value) (G : OwnG Z a0) (ws : List Jvm.Cond) (x0 : Addr) (h0 : Heap) (n0 : Nat) (O0 : Old Z n0 h0) (P0 : Fld Z h0 x0 j1 "coder" "B" (.int 0)) :
  MetFree l own_m4 (head1 (Jvm.Cond.code own_m4 B10 1 (some .boolean) :: ws) (rR 0 0 0 0)) (fun a U => a = #[(.ref x0)] ∧ Z.Warmed39 U.vm ∧ U.heap = h0) (fun _ _ _ _ _ => True) (fun _ U o U' => ∃ v L, o = .returned v ∧ (own_Qint (1 : Int32)) h0 n0 v U'.heap L ∧ FrameEnd U o U' L (rR 0 0 0 0).cells (rR 0 0 0 0).slots) := by
 refine MetFree.of_bodySF (plainFor_of_name pn_0) hisR ?_
 intro p e s m args below meth cD s₁ Bd hml0 hP hK
 obtain ⟨rfl, hZ, hh⟩ := hP
 have hml : cD.maxLocals = 1 := hml0
 obtain ⟨hx, hby, (hown : s.vm.findClass j1 = some m.cls), hlk, X0, e0⟩ := own_st Bd hh
 have D := @hb _ _ hby
 have lt0 := lN P0.lt
 have Z0 := own_old_le O0
 have N0 := Fr.nil n0
 obtain ⟨zCS, SCS, PCS⟩ := own_cs G
 refine OwnEnd.start (g' := (mkF m 0 #[vR x0] [])) (own_efil0 m x0) ?_
 obtain ⟨T1, X1, e1, st1⟩ := getS2 X0 hx hZ hown (host := "") (Or.inl (w_ G 81 rfl)) Via.refl e0 (SCS.ext O0.2) (g := (mkF m 0 #[vR x0] [])) rfl (D d4_0)
 refine oo (S' := T1.setTop (mkF m 3 #[vR x0] [(.int zCS)])) st1 ?_
 refine oo (S' := T1.setTop (mkF m 7 #[vR x0] [(.ref x0)])) (fun _ kK => XS.ifNo X1.here hx rfl (D d4_3) rfl ((if0 _ _).trans (feq (PCS)).1) (XS.aloadN X1.here hx rfl (D d4_6) rfl rfl kK)) ?_
 obtain ⟨T2, X2, e2, st2⟩ := getF X1 hx hZ hown (host := "") (Or.inl (w_ G 21 rfl)) Via.refl e1 P0 (g := (mkF m 7 #[vR x0] [(.ref x0)])) rfl rfl (D d4_7)
 refine oo (S' := T2.setTop (mkF m 10 #[vR x0] [(.int 0)])) st2 ?_
 refine oo (S' := T2.setTop (mkF m 18 #[vR x0] [(.int 1)])) (fun _ kK => XS.ifNo X2.here hx rfl (D d4_10) rfl ((if0 _ _).trans (teq ((by decide : (0 : Int32) = (0 : Int32)))).2) (XS.iconst X2.here hx rfl (D d4_13) (XS.goto X2.here hx rfl (pc0 := 14) (pc' := 18) rfl (D d4_14) (by decide) (by decide) kK))) ?_
 refine OwnEnd.ret X2 (v := (some (.int (nar .boolean (1 : Int32))))) (fun h => by rw [Bd.returns] at h; cases h) hlk (fun fs hr => retN X2 hx (t := .boolean) Bd.returns (by simp) (D d4_18) hr) (by decide) (by decide) (Q := (own_Qint (1 : Int32)) h0 n0) e2 ?_
 exact ⟨rfl, N0, rfl⟩

theorem own_efcdr0 (m : MethodId) (x0 : Addr) : entryFrame m #[(.ref x0)] 1 = mkF m 0 #[vR x0] [] := by first | (simp [entryFrame, mkF, argsToLocals, Value.category]; done) | rfl
set_option maxRecDepth 65536 in
set_option maxHeartbeats 40000000 in
theorem rmcdr0 (l : Launch) (Z : State) (a0 : Array Value) (G : OwnG Z a0) (ws : List Jvm.Cond) (x0 : Addr) (h0 : Heap) (n0 : Nat) (O0 : Old Z n0 h0) (P0 : Fld Z h0 x0 j1 "coder" "B" (.int 0)) :
  MetFree l own_m5 (head1 (Jvm.Cond.code own_m5 B11 1 (some .byte) :: ws) (rR 0 0 0 0)) (fun a U => a = #[(.ref x0)] ∧ Z.Warmed39 U.vm ∧ U.heap = h0) (fun _ _ _ _ _ => True) (fun _ U o U' => ∃ v L, o = .returned v ∧ (own_Qint (0 : Int32)) h0 n0 v U'.heap L ∧ FrameEnd U o U' L (rR 0 0 0 0).cells (rR 0 0 0 0).slots) := by
 refine MetFree.of_bodySF (plainFor_of_name pn_0) hisR ?_
 intro p e s m args below meth cD s₁ Bd hml0 hP hK
 obtain ⟨rfl, hZ, hh⟩ := hP
 have hml : cD.maxLocals = 1 := hml0
 obtain ⟨hx, hby, (hown : s.vm.findClass j1 = some m.cls), hlk, X0, e0⟩ := own_st Bd hh
 have D := @hb _ _ hby
 have lt0 := lN P0.lt
 have Z0 := own_old_le O0
 have N0 := Fr.nil n0
 obtain ⟨zCS, SCS, PCS⟩ := own_cs G
 refine OwnEnd.start (g' := (mkF m 0 #[vR x0] [])) (own_efcdr0 m x0) ?_
 obtain ⟨T1, X1, e1, st1⟩ := getS2 X0 hx hZ hown (host := "") (Or.inl (w_ G 81 rfl)) Via.refl e0 (SCS.ext O0.2) (g := (mkF m 0 #[vR x0] [])) rfl (D d5_0)
 refine oo (S' := T1.setTop (mkF m 3 #[vR x0] [(.int zCS)])) st1 ?_
 refine oo (S' := T1.setTop (mkF m 7 #[vR x0] [(.ref x0)])) (fun _ kK => XS.ifNo X1.here hx rfl (D d5_3) rfl ((if0 _ _).trans (feq (PCS)).1) (XS.aloadN X1.here hx rfl (D d5_6) rfl rfl kK)) ?_
 obtain ⟨T2, X2, e2, st2⟩ := getF X1 hx hZ hown (host := "") (Or.inl (w_ G 21 rfl)) Via.refl e1 P0 (g := (mkF m 7 #[vR x0] [(.ref x0)])) rfl rfl (D d5_7)
 refine oo (S' := T2.setTop (mkF m 10 #[vR x0] [(.int 0)])) st2 ?_
 refine oo (S' := T2.setTop (mkF m 14 #[vR x0] [(.int 0)])) (fun _ kK => XS.goto X2.here hx rfl (pc0 := 10) (pc' := 14) rfl (D d5_10) (by decide) (by decide) kK) ?_
 refine OwnEnd.ret X2 (v := (some (.int (nar .byte (0 : Int32))))) (fun h => by rw [Bd.returns] at h; cases h) hlk (fun fs hr => retN X2 hx (t := .byte) Bd.returns (by simp) (D d5_14) hr) (by decide) (by decide) (Q := (own_Qint (0 : Int32)) h0 n0) e2 ?_
 exact ⟨rfl, N0, rfl⟩

theorem own_efln0 (m : MethodId) (x0 : Addr) : entryFrame m #[(.ref x0)] 1 = mkF m 0 #[vR x0] [] := by first | (simp [entryFrame, mkF, argsToLocals, Value.category]; done) | rfl
set_option maxRecDepth 65536 in
set_option maxHeartbeats 40000000 in
theorem rmln0 (l : Launch) (Z : State) (a0 : Array Value) (G : OwnG Z a0) (ws : List Jvm.Cond) (x0 : Addr) (t : Addr) (kb : ClassId) (N : Int32) (vs : List Value) (dv : Value) (h0 : Heap) (n0 : Nat) (O0 : Old Z n0 h0) (P0 : Exa Z h0 x0 j1) (P1 : Fld Z h0 x0 j1 "value" "[B" (.ref t)) (P2 : Fld Z h0 x0 j1 "coder" "B" (.int 0)) (P3 : Arv Z h0 t kb .byte N vs dv) :
  MetFree l own_m6 (head1 (Jvm.Cond.code own_m6 B12 1 (some .int) :: ws) (rR 1 0 0 13)) (fun a U => a = #[(.ref x0)] ∧ Z.Warmed39 U.vm ∧ U.heap = h0) (fun _ _ _ _ _ => True) (fun _ U o U' => ∃ v L, o = .returned v ∧ (own_Qint N) h0 n0 v U'.heap L ∧ FrameEnd U o U' L (rR 1 0 0 13).cells (rR 1 0 0 13).slots) := by
 refine MetFree.of_bodySF (plainFor_of_name pn_0) hisR ?_
 intro p e s m args below meth cD s₁ Bd hml0 hP hK
 obtain ⟨rfl, hZ, hh⟩ := hP
 have hml : cD.maxLocals = 1 := hml0
 obtain ⟨hx, hby, (hown : s.vm.findClass j1 = some m.cls), hlk, X0, e0⟩ := own_st Bd hh
 have D := @hb _ _ hby
 have lt0 := lN P0.lt
 have lt1 := lN P1.lt
 have lt2 := lN P2.lt
 have lt3 := lN P3.lt
 have Z0 := own_old_le O0
 have N0 := Fr.nil n0
 refine OwnEnd.start (g' := (mkF m 0 #[vR x0] [])) (own_efln0 m x0) ?_
 refine oo (S' := s₁.setTop (mkF m 1 #[vR x0] [(.ref x0)])) (fun _ kK => XS.aloadN X0.here hx rfl (D d6_0) rfl rfl kK) ?_
 obtain ⟨T1, X1, e1, st1⟩ := getF X0 hx hZ hown (host := "") (Or.inl (w_ G 20 rfl)) Via.refl e0 P1 (g := (mkF m 1 #[vR x0] [(.ref x0)])) rfl rfl (D d6_1)
 refine oo (S' := T1.setTop (mkF m 4 #[vR x0] [(.ref t)])) st1 ?_
 obtain ⟨cl2, Ar2, q2, S2, N2', H2, G2⟩ := id P3
 refine oo (S' := T1.setTop (mkF m 5 #[vR x0] [(.int N)])) (fun _ kK => X1.arraylength hx (by rw [e1]; exact Ar2.1) (State.isArrayOf_alike hZ.alike Ar2.2.1) (g := (mkF m 4 #[vR x0] [(.ref t)])) rfl rfl (D d6_4) _ (by rw [len_of S2 N2']; exact kK)) ?_
 refine oo (S' := T1.setTop (mkF m 6 #[vR x0] [(.ref x0), (.int N)])) (fun _ kK => XS.aloadN X1.here hx rfl (D d6_5) rfl rfl kK) ?_
 obtain ⟨cq3, kq3, q3a, q3b, q3c⟩ := isOf hZ e1 P0
 obtain ⟨_, _, ⟨T3, L3, k3, n3⟩, -, X3, ⟨Lc3, hQ3, l3, y3, z3⟩, st3⟩ := X1.virtualBack hx (y := own_m5) (z := own_m5) hown (mw hZ G 76 rfl) (mw hZ G 77 rfl) (notFace_of_selects (args := #[]) (mw hZ G 79 rfl)) (mw hZ G 79 rfl) (mw hZ G 78 rfl) (by decide) (backOf (W := 1) (rmcdr0 l Z a0 G [] x0 h0 n0 O0 P2) hZ (w_ G 80 rfl) (w_ G 3 rfl) (by decide) (by decide)) q3a q3c (g := (mkF m 6 #[vR x0] [(.ref x0), (.int N)])) rfl (by rw [hml]; rfl) (Steps.refl _) (argsL := []) (rest := [(.int N)]) (lenOf pd_2 rfl) rfl (own_z rfl) (D d6_6) (fun _ _ => ⟨rfl, e1, (ol rfl), (ol rfl)⟩)
 dsimp only [Pt.U, Pt.locs, Pt.cells, Pt.slots] at X3 l3 y3 z3 st3 hQ3
 subst l3 y3 z3
 obtain ⟨rfl, N3q, eh3⟩ := hQ3
 have N3 := Fr.app N0 N3q
 refine ot (S' := T3.setTop (mkF m 9 #[vR x0] [(.int 0), (.int N)])) st3 ?_
 refine oo (S' := T3.setTop (mkF m 10 #[vR x0] [(.int (N >>> ((0 : Int32) &&& 31)))])) (fun _ kK => XS.ishr X3.here hx rfl (D d6_9) rfl kK) ?_
 refine OwnEnd.ret X3 (v := (some (.int (N >>> ((0 : Int32) &&& 31))))) (fun h => by rw [Bd.returns] at h; cases h) hlk (fun fs hr => retOut X3 hx Bd.returns rfl (Or.inl ⟨rfl, Or.inl rfl, _, rfl⟩) (D d6_10) hr) (by decide) (by decide) (Q := (own_Qint N) h0 n0) eh3 ?_
 exact ⟨(congrArg (fun z => some (Value.int z)) (own_shr0 N)), N3, rfl⟩

theorem own_efcl (m : MethodId) (t : Addr) (i : Int32) : entryFrame m #[(.ref t), (.int i)] 2 = mkF m 0 #[vR t, vI i] [] := by first | (simp [entryFrame, mkF, argsToLocals, Value.category]; done) | rfl
set_option maxRecDepth 65536 in
set_option maxHeartbeats 40000000 in
theorem rmcl (l : Launch) (Z : State) (a0 : Array Value) (G : OwnG Z a0) (ws : List Jvm.Cond) (t : Addr) (kb : ClassId) (N : Int32) (vs : List Value) (dv : Value) (i : Int32) (c : Int32) (h0 : Heap) (n0 : Nat) (O0 : Old Z n0 h0) (P0 : Arv Z h0 t kb .byte N vs dv) (P1 : ¬ i < (0 : Int32)) (P2 : i < N) (P3 : vs.getD i.toNatClampNeg dv = (.int (StrChars.lo8 c))) (P4 : ¬ c < (0 : Int32) ∧ ¬ (255 : Int32) < c) :
  MetFree l own_m7 (head1 (Jvm.Cond.code own_m7 B13 2 (some .char) :: ws) (rR 2 0 0 27)) (fun a U => a = #[(.ref t), (.int i)] ∧ Z.Warmed39 U.vm ∧ U.heap = h0) (fun _ _ _ _ _ => True) (fun _ U o U' => ∃ v L, o = .returned v ∧ (own_Qint c) h0 n0 v U'.heap L ∧ FrameEnd U o U' L (rR 2 0 0 27).cells (rR 2 0 0 27).slots) := by
 refine MetFree.of_bodySF (plainFor_of_name pn_2) hisR ?_
 intro p e s m args below meth cD s₁ Bd hml0 hP hK
 obtain ⟨rfl, hZ, hh⟩ := hP
 have hml : cD.maxLocals = 2 := hml0
 obtain ⟨hx, hby, (hown : s.vm.findClass "java/lang/StringLatin1" = some m.cls), hlk, X0, e0⟩ := own_st Bd hh
 have D := @hb _ _ hby
 have lt0 := lN P0.lt
 have Z0 := own_old_le O0
 have N0 := Fr.nil n0
 refine OwnEnd.start (g' := (mkF m 0 #[vR t, vI i] [])) (own_efcl m t i) ?_
 refine oo (S' := s₁.setTop (mkF m 2 #[vR t, vI i] [(.ref t), (.int i)])) (fun _ kK => XS.iloadN X0.here hx rfl (D d7_0) rfl (XS.aloadN X0.here hx rfl (D d7_1) rfl rfl kK)) ?_
 obtain ⟨cl1, Ar1, q1, S1, N1', H1, G1⟩ := id P0
 refine oo (S' := s₁.setTop (mkF m 3 #[vR t, vI i] [(.int N), (.int i)])) (fun _ kK => X0.arraylength hx (by rw [e0]; exact Ar1.1) (State.isArrayOf_alike hZ.alike Ar1.2.1) (g := (mkF m 2 #[vR t, vI i] [(.ref t), (.int i)])) rfl rfl (D d7_2) _ (by rw [len_of S1 N1']; exact kK)) ?_
 obtain ⟨_, _, ⟨T2, L2, k2, n2⟩, -, X2, ⟨Lc2, hQ2, l2, y2, z2⟩, st2⟩ := Jvm.LawKit.callS X0 hx (y := own_m3) hown (mw hZ G 196 rfl) (mw hZ G 197 rfl) (mw hZ G 3 rfl) (mw hZ G 198 rfl) (by decide) (backOf (W := 0) (rmsk l Z a0 G [] i N h0 n0 O0 P1 P2) hZ (w_ G 198 rfl) (w_ G 3 rfl) (by decide) (by decide)) (g := (mkF m 3 #[vR t, vI i] [(.int N), (.int i)])) rfl (by rw [hml]; rfl) (argsL := [(.int i), (.int N)]) (rest := []) (lenOf pd_3 rfl) rfl (own_z rfl) (D d7_3) (fun _ _ => ⟨rfl, e0, (ol rfl), (ol rfl)⟩)
 dsimp only [Pt.U, Pt.locs, Pt.cells, Pt.slots] at X2 l2 y2 z2 st2 hQ2
 subst l2 y2 z2
 obtain ⟨rfl, N2q, eh2⟩ := hQ2
 have N2 := Fr.app N0 N2q
 refine oo (S' := T2.setTop (mkF m 6 #[vR t, vI i] [])) st2 ?_
 refine oo (S' := T2.setTop (mkF m 8 #[vR t, vI i] [(.int i), (.ref t)])) (fun _ kK => XS.aloadN X2.here hx rfl (D d7_6) rfl rfl (XS.iloadN X2.here hx rfl (D d7_7) rfl kK)) ?_
 obtain ⟨cl3, Ar3, q3, S3, N3', H3, G3⟩ := id P0
 have hin4 : ¬ (i < 0 ∨ cl3.slots.size ≤ (i).toNatClampNeg) := inb_of S3 ⟨P1, P2⟩
 refine oo (S' := T2.setTop (mkF m 9 #[vR t, vI i] [(.int (StrChars.lo8 c))])) (fun _ kK => X2.baloadBytes hx (j := i) (v := (.int (StrChars.lo8 c))) (by rw [eh2]; exact Ar3.1) (State.isArrayOf_alike hZ.alike Ar3.2.1) Ar3.2.2 hin4 (Has.at H3 hin4 (P3)) (g := (mkF m 8 #[vR t, vI i] [(.int i), (.ref t)])) rfl rfl (D d7_8) _ kK) ?_
 refine oo (S' := T2.setTop (mkF m 14 #[vR t, vI i] [(.int (nar .char ((StrChars.lo8 c) &&& (255 : Int32))))])) (fun _ kK => XS.sipush X2.here hx rfl (D d7_9) (XS.iand X2.here hx rfl (D d7_12) rfl (XS.i2c X2.here hx rfl (D d7_13) rfl kK))) ?_
 refine OwnEnd.ret X2 (v := (some (.int (nar .char (nar .char ((StrChars.lo8 c) &&& (255 : Int32))))))) (fun h => by rw [Bd.returns] at h; cases h) hlk (fun fs hr => retN X2 hx (t := .char) Bd.returns (by simp) (D d7_14) hr) (by decide) (by decide) (Q := (own_Qint c) h0 n0) eh2 ?_
 exact ⟨(congrArg (fun z => some (Value.int z)) (own_lat P4.1 P4.2)), N2, rfl⟩

theorem own_efcA0 (m : MethodId) (x0 : Addr) (i : Int32) : entryFrame m #[(.ref x0), (.int i)] 2 = mkF m 0 #[vR x0, vI i] [] := by first | (simp [entryFrame, mkF, argsToLocals, Value.category]; done) | rfl
set_option maxRecDepth 65536 in
set_option maxHeartbeats 40000000 in
theorem rmcA0 (l : Launch) (Z : State) (a0 : Array Value) (G : OwnG Z a0) (ws : List Jvm.Cond) (x0 : Addr) (t : Addr) (kb : ClassId) (N : Int32) (vs : List Value) (dv : Value) (i : Int32) (c : Int32) (h0 : Heap) (n0 : Nat) (O0 : Old Z n0 h0) (P0 : Exa Z h0 x0 j1) (P1 : Fld Z h0 x0 j1 "value" "[B" (.ref t)) (P2 : Fld Z h0 x0 j1 "coder" "B" (.int 0)) (P3 : Arv Z h0 t kb .byte N vs dv) (P4 : ¬ i < (0 : Int32)) (P5 : i < N) (P6 : vs.getD i.toNatClampNeg dv = (.int (StrChars.lo8 c))) (P7 : ¬ c < (0 : Int32) ∧ ¬ (255 : Int32) < c) :
  MetFree l own_m8 (head1 (Jvm.Cond.code own_m8 B14 2 (some .char) :: ws) (rR 3 0 0 40)) (fun a U => a = #[(.ref x0), (.int i)] ∧ Z.Warmed39 U.vm ∧ U.heap = h0) (fun _ _ _ _ _ => True) (fun _ U o U' => ∃ v L, o = .returned v ∧ (own_Qint c) h0 n0 v U'.heap L ∧ FrameEnd U o U' L (rR 3 0 0 40).cells (rR 3 0 0 40).slots) := by
 refine MetFree.of_bodySF (plainFor_of_name pn_0) hisR ?_
 intro p e s m args below meth cD s₁ Bd hml0 hP hK
 obtain ⟨rfl, hZ, hh⟩ := hP
 have hml : cD.maxLocals = 2 := hml0
 obtain ⟨hx, hby, (hown : s.vm.findClass j1 = some m.cls), hlk, X0, e0⟩ := own_st Bd hh
 have D := @hb _ _ hby
 have lt0 := lN P0.lt
 have lt1 := lN P1.lt
 have lt2 := lN P2.lt
 have lt3 := lN P3.lt
 have Z0 := own_old_le O0
 have N0 := Fr.nil n0
 refine OwnEnd.start (g' := (mkF m 0 #[vR x0, vI i] [])) (own_efcA0 m x0 i) ?_
 refine oo (S' := s₁.setTop (mkF m 1 #[vR x0, vI i] [(.ref x0)])) (fun _ kK => XS.aloadN X0.here hx rfl (D d8_0) rfl rfl kK) ?_
 obtain ⟨cq1, kq1, q1a, q1b, q1c⟩ := isOf hZ e0 P0
 obtain ⟨_, _, ⟨T1, L1, k1, n1⟩, -, X1, ⟨Lc1, hQ1, l1, y1, z1⟩, st1⟩ := X0.virtualBack hx (y := own_m4) (z := own_m4) hown (mw hZ G 187 rfl) (mw hZ G 188 rfl) (notFace_of_selects (args := #[]) (mw hZ G 190 rfl)) (mw hZ G 190 rfl) (mw hZ G 189 rfl) (by decide) (backOf (W := 0) (rmil0 l Z a0 G [] x0 h0 n0 O0 P2) hZ (w_ G 191 rfl) (w_ G 3 rfl) (by decide) (by decide)) q1a q1c (g := (mkF m 1 #[vR x0, vI i] [(.ref x0)])) rfl (by rw [hml]; rfl) (Steps.refl _) (argsL := []) (rest := []) (lenOf pd_4 rfl) rfl (own_z rfl) (D d8_1) (fun _ _ => ⟨rfl, e0, (ol rfl), (ol rfl)⟩)
 dsimp only [Pt.U, Pt.locs, Pt.cells, Pt.slots] at X1 l1 y1 z1 st1 hQ1
 subst l1 y1 z1
 obtain ⟨rfl, N1q, eh1⟩ := hQ1
 have N1 := Fr.app N0 N1q
 refine ot (S' := T1.setTop (mkF m 4 #[vR x0, vI i] [(.int 1)])) st1 ?_
 refine oo (S' := T1.setTop (mkF m 8 #[vR x0, vI i] [(.ref x0)])) (fun _ kK => XS.ifNo X1.here hx rfl (D d8_4) rfl ((if0 _ _).trans (feq ((by decide : ¬ ((1 : Int32) = (0 : Int32))))).1) (XS.aloadN X1.here hx rfl (D d8_7) rfl rfl kK)) ?_
 obtain ⟨T2, X2, e2, st2⟩ := getF X1 hx hZ hown (host := "") (Or.inl (w_ G 20 rfl)) Via.refl eh1 P1 (g := (mkF m 8 #[vR x0, vI i] [(.ref x0)])) rfl rfl (D d8_8)
 refine oo (S' := T2.setTop (mkF m 11 #[vR x0, vI i] [(.ref t)])) st2 ?_
 refine oo (S' := T2.setTop (mkF m 12 #[vR x0, vI i] [(.int i), (.ref t)])) (fun _ kK => XS.iloadN X2.here hx rfl (D d8_11) rfl kK) ?_
 obtain ⟨_, _, ⟨T3, L3, k3, n3⟩, -, X3, ⟨Lc3, hQ3, l3, y3, z3⟩, st3⟩ := Jvm.LawKit.callS X2 hx (y := own_m7) hown (mw hZ G 192 rfl) (mw hZ G 193 rfl) (mw hZ G 194 rfl) (mw hZ G 195 rfl) (by decide) (backOf (W := 0) (rmcl l Z a0 G [] t kb N vs dv i c h0 n0 O0 P3 P4 P5 P6 P7) hZ (w_ G 195 rfl) (w_ G 194 rfl) (by decide) (by decide)) (g := (mkF m 12 #[vR x0, vI i] [(.int i), (.ref t)])) rfl (by rw [hml]; rfl) (argsL := [(.ref t), (.int i)]) (rest := []) (lenOf pd_5 rfl) rfl (own_z rfl) (D d8_12) (fun _ _ => ⟨rfl, e2, (ol rfl), (ol rfl)⟩)
 dsimp only [Pt.U, Pt.locs, Pt.cells, Pt.slots] at X3 l3 y3 z3 st3 hQ3
 subst l3 y3 z3
 obtain ⟨rfl, N3q, eh3⟩ := hQ3
 have N3 := Fr.app N1 N3q
 refine oo (S' := T3.setTop (mkF m 15 #[vR x0, vI i] [(.int c)])) st3 ?_
 refine OwnEnd.ret X3 (v := (some (.int (nar .char c)))) (fun h => by rw [Bd.returns] at h; cases h) hlk (fun fs hr => retN X3 hx (t := .char) Bd.returns (by simp) (D d8_15) hr) (by decide) (by decide) (Q := (own_Qint c) h0 n0) eh3 ?_
 exact ⟨(congrArg (fun z => some (Value.int z)) (own_narc P7.1 (own_255 P7.2))), N3, rfl⟩

theorem own_efasl (m : MethodId) (sb : Addr) : entryFrame m #[(.ref sb)] 1 = mkF m 0 #[vR sb] [] := by first | (simp [entryFrame, mkF, argsToLocals, Value.category]; done) | rfl
set_option maxRecDepth 65536 in
set_option maxHeartbeats 40000000 in
theorem rmasl (l : Launch) (Z : State) (a0 : Array Value) (G : OwnG Z a0) (ws : List Jvm.Cond) (sb : Addr) (h0 : Heap) (n0 : Nat) (O0 : Old Z n0 h0) (P0 : Fld Z h0 sb j0 "coder" "B" (.int 0)) :
  MetFree l own_m9 (head1 (Jvm.Cond.code own_m9 B15 1 (some .boolean) :: ws) (rR 0 0 0 0)) (fun a U => a = #[(.ref sb)] ∧ Z.Warmed39 U.vm ∧ U.heap = h0) (fun _ _ _ _ _ => True) (fun _ U o U' => ∃ v L, o = .returned v ∧ (own_Qint (1 : Int32)) h0 n0 v U'.heap L ∧ FrameEnd U o U' L (rR 0 0 0 0).cells (rR 0 0 0 0).slots) := by
 refine MetFree.of_bodySF (plainFor_of_name pn_3) hisR ?_
 intro p e s m args below meth cD s₁ Bd hml0 hP hK
 obtain ⟨rfl, hZ, hh⟩ := hP
 have hml : cD.maxLocals = 1 := hml0
 obtain ⟨hx, hby, (hown : s.vm.findClass j0 = some m.cls), hlk, X0, e0⟩ := own_st Bd hh
 have D := @hb _ _ hby
 have lt0 := lN P0.lt
 have Z0 := own_old_le O0
 have N0 := Fr.nil n0
 obtain ⟨zCS, SCS, PCS⟩ := own_cs G
 refine OwnEnd.start (g' := (mkF m 0 #[vR sb] [])) (own_efasl m sb) ?_
 obtain ⟨T1, X1, e1, st1⟩ := getS2 X0 hx hZ hown (host := "") (Or.inl (w_ G 56 rfl)) Via.refl e0 (SCS.ext O0.2) (g := (mkF m 0 #[vR sb] [])) rfl (D d9_0)
 refine oo (S' := T1.setTop (mkF m 3 #[vR sb] [(.int zCS)])) st1 ?_
 refine oo (S' := T1.setTop (mkF m 7 #[vR sb] [(.ref sb)])) (fun _ kK => XS.ifNo X1.here hx rfl (D d9_3) rfl ((if0 _ _).trans (feq (PCS)).1) (XS.aloadN X1.here hx rfl (D d9_6) rfl rfl kK)) ?_
 obtain ⟨T2, X2, e2, st2⟩ := getF X1 hx hZ hown (host := "") (Or.inl (w_ G 59 rfl)) Via.refl e1 P0 (g := (mkF m 7 #[vR sb] [(.ref sb)])) rfl rfl (D d9_7)
 refine oo (S' := T2.setTop (mkF m 10 #[vR sb] [(.int 0)])) st2 ?_
 refine oo (S' := T2.setTop (mkF m 18 #[vR sb] [(.int 1)])) (fun _ kK => XS.ifNo X2.here hx rfl (D d9_10) rfl ((if0 _ _).trans (teq ((by decide : (0 : Int32) = (0 : Int32)))).2) (XS.iconst X2.here hx rfl (D d9_13) (XS.goto X2.here hx rfl (pc0 := 14) (pc' := 18) rfl (D d9_14) (by decide) (by decide) kK))) ?_
 refine OwnEnd.ret X2 (v := (some (.int (nar .boolean (1 : Int32))))) (fun h => by rw [Bd.returns] at h; cases h) hlk (fun fs hr => retN X2 hx (t := .boolean) Bd.returns (by simp) (D d9_18) hr) (by decide) (by decide) (Q := (own_Qint (1 : Int32)) h0 n0) e2 ?_
 exact ⟨rfl, N0, rfl⟩

theorem own_efasi (m : MethodId) (sb : Addr) : entryFrame m #[(.ref sb), (.int 16)] 2 = mkF m 0 #[vR sb, vI 16] [] := by first | (simp [entryFrame, mkF, argsToLocals, Value.category]; done) | rfl
def Qasi (Z : State) (sb : Addr) (v0 : Value) (c9 : Value) (h0 : Heap) (n0 : Nat) (v : Option Value) (h : Heap) (L : List Loc) : Prop := ∃ (vb : Addr) (kv : ClassId), v = none ∧ Fr n0 L ∧ Keep h0 h [sb] ∧ (Exa Z h sb j2) ∧ (Fld Z h sb j0 "value" "[B" (.ref vb)) ∧ (Fld Z h sb j0 "coder" "B" (.int 0)) ∧ (Fld Z h sb j0 "count" "I" (.int 0)) ∧ (Arv Z h vb kv .byte (16 : Int32) [(.int 0), (.int 0), (.int 0), (.int 0), (.int 0), (.int 0), (.int 0), (.int 0), (.int 0), (.int 0), (.int 0), (.int 0), (.int 0), (.int 0), (.int 0), (.int 0)] (.int 0)) ∧ (Array.size h0 ≤ vb)
set_option maxRecDepth 65536 in
set_option maxHeartbeats 40000000 in
theorem rmasi (l : Launch) (Z : State) (a0 : Array Value) (G : OwnG Z a0) (ws : List Jvm.Cond) (sb : Addr) (v0 : Value) (c9 : Value) (h0 : Heap) (n0 : Nat) (O0 : Old Z n0 h0) (P0 : Exa Z h0 sb j2) (P1 : Fld Z h0 sb j0 "value" "[B" v0) (P2 : Fld Z h0 sb j0 "coder" "B" c9) (P3 : Fld Z h0 sb j0 "count" "I" (.int 0)) (P4 : n0 ≤ sb) :
  MetFree l own_m10 (head1 (Jvm.Cond.code own_m10 B16 2 none :: ws) (rR 1 1 16 12)) (fun a U => a = #[(.ref sb), (.int 16)] ∧ Z.Warmed39 U.vm ∧ U.heap = h0) (fun _ _ _ _ _ => True) (fun _ U o U' => ∃ v L, o = .returned v ∧ Qasi Z sb v0 c9 h0 n0 v U'.heap L ∧ FrameEnd U o U' L (rR 1 1 16 12).cells (rR 1 1 16 12).slots) := by
 refine MetFree.of_bodySF (plainFor_of_name pn_3) hisR ?_
 intro p e s m args below meth cD s₁ Bd hml0 hP hK
 obtain ⟨rfl, hZ, hh⟩ := hP
 have hml : cD.maxLocals = 2 := hml0
 obtain ⟨hx, hby, (hown : s.vm.findClass j0 = some m.cls), hlk, X0, e0⟩ := own_st Bd hh
 have D := @hb _ _ hby
 have lt0 := lN P0.lt
 have lt1 := lN P1.lt
 have lt2 := lN P2.lt
 have lt3 := lN P3.lt
 have K0 : Keep h0 h0 [sb] := Keep.refl h0 _
 have Z0 := own_old_le O0
 have N0 := Fr.nil n0
 obtain ⟨zCS, SCS, PCS⟩ := own_cs G
 refine OwnEnd.start (g' := (mkF m 0 #[vR sb, vI 16] [])) (own_efasi m sb) ?_
 refine oo (S' := s₁.setTop (mkF m 1 #[vR sb, vI 16] [(.ref sb)])) (fun _ kK => XS.aloadN X0.here hx rfl (D d10_0) rfl rfl kK) ?_
 obtain ⟨T1, X1, e1, st1⟩ := initO X0 hx hZ hown (w_ G 55 rfl) (w_ G 12 rfl) (w_ G 13 rfl) e0 (g := (mkF m 1 #[vR sb, vI 16] [(.ref sb)])) rfl (by rw [hml]; rfl) rfl (D d10_1) (by decide) (W := 0) (own_z rfl) (by decide)
 refine oo (S' := T1.setTop (mkF m 4 #[vR sb, vI 16] [])) st1 ?_
 obtain ⟨T2, X2, e2, st2⟩ := getS2 X1 hx hZ hown (host := "") (Or.inl (w_ G 56 rfl)) Via.refl e1 (SCS.ext O0.2) (g := (mkF m 4 #[vR sb, vI 16] [])) rfl (D d10_4)
 refine oo (S' := T2.setTop (mkF m 7 #[vR sb, vI 16] [(.int zCS)])) st2 ?_
 refine oo (S' := T2.setTop (mkF m 12 #[vR sb, vI 16] [(.int 16), (.ref sb)])) (fun _ kK => XS.ifNo X2.here hx rfl (D d10_7) rfl ((if0 _ _).trans (feq (PCS)).1) (XS.aloadN X2.here hx rfl (D d10_10) rfl rfl (XS.iloadN X2.here hx rfl (D d10_11) rfl kK))) ?_
 obtain ⟨T3, h3, k3, X3, e3, E3, A3, st3⟩ := newP X2 hx hZ (w_ G 15 rfl) e2 (g := (mkF m 12 #[vR sb, vI 16] [(.int 16), (.ref sb)])) rfl (D d10_12) rfl (by decide) (cap := 16) (by decide) (by decide) (by decide) (by decide)
 obtain ⟨b3, g3⟩ : ∃ z, z = Array.size h0 := ⟨_, rfl⟩
 rw [← g3] at A3 st3
 have lt_b3 := lN A3.lt
 have sz4 := E3.1
 have K4 := K0.ext E3
 have V3 : Arv Z h3 b3 k3 .byte (16 : Int32) [(.int 0), (.int 0), (.int 0), (.int 0), (.int 0), (.int 0), (.int 0), (.int 0), (.int 0), (.int 0), (.int 0), (.int 0), (.int 0), (.int 0), (.int 0), (.int 0)] (.int 0) := (Arv.new A3 (by decide)).pad (pad_rep [] (.int 0) 16)
 refine oo (S' := T3.setTop (mkF m 14 #[vR sb, vI 16] [(.ref b3), (.ref sb)])) st3 ?_
 have f6 := (P1.ext E3)
 have f7 := (P0.ext E3)
 obtain ⟨T5, h5, X5, e5, W5, st5⟩ := putF X3 hx hZ hown (host := "") (Or.inl (w_ G 57 rfl)) Via.refl e3 f6 f7 (Or.inl (w_ G 58 rfl)) (w_ G 44 rfl) (ty := (.array .byte)) (by decide) rfl rfl (g := (mkF m 14 #[vR sb, vI 16] [(.ref b3), (.ref sb)])) rfl rfl (D d10_14)
 have Fw5 := f6.same W5
 have N5 := Fr.snoc X5 N0 (by omega)
 have sz8 := own_wr_le W5
 have K8 := K4.wr W5 (Or.inl (by simp))
 refine oo (S' := T5.setTop (mkF m 17 #[vR sb, vI 16] [])) st5 ?_
 refine oo (S' := T5.setTop (mkF m 19 #[vR sb, vI 16] [(.int 0), (.ref sb)])) (fun _ kK => XS.aloadN X5.here hx rfl (D d10_17) rfl rfl (XS.iconst X5.here hx rfl (D d10_18) kK)) ?_
 have f10 := ((P2.ext E3).other W5 (Or.inr (slot_ne (Or.inl (w_ G 60 rfl)) (Or.inl (w_ G 58 rfl)) (by decide) (t := .byte) (t' := (.array .byte)) (by decide) (by decide))))
 have f11 := (f7.wr W5)
 obtain ⟨T9, h9, X9, e9, W9, st9⟩ := putFN X5 hx hZ hown (w_ G 59 rfl) Via.refl e5 f10 f11 (Or.inl (w_ G 60 rfl)) (w_ G 44 rfl) (ty := .byte) (v' := (.int 0)) (by decide) rfl rfl (g := (mkF m 19 #[vR sb, vI 16] [(.int 0), (.ref sb)])) rfl rfl (D d10_19)
 have Fw9 := f10.same W9
 have N9 := Fr.snoc X9 N5 (by omega)
 have sz12 := own_wr_le W9
 have K12 := K8.wr W9 (Or.inl (by simp))
 refine oo (S' := T9.setTop (mkF m 22 #[vR sb, vI 16] [])) st9 ?_
 refine oo (S' := T9.setTop (mkF m 38 #[vR sb, vI 16] [])) (fun _ kK => XS.goto X9.here hx rfl (pc0 := 22) (pc' := 38) rfl (D d10_22) (by decide) (by decide) kK) ?_
 have f13 := (f11.wr W9)
 have f14 := (Fw5.other W9 (Or.inr (slot_ne (Or.inl (w_ G 58 rfl)) (Or.inl (w_ G 60 rfl)) (by decide) (t := (.array .byte)) (t' := .byte) (by decide) (by decide))))
 have f15 := (((P3.ext E3).other W5 (Or.inr (slot_ne (Or.inl (w_ G 83 rfl)) (Or.inl (w_ G 58 rfl)) (by decide) (t := .int) (t' := (.array .byte)) (by decide) (by decide)))).other W9 (Or.inr (slot_ne (Or.inl (w_ G 83 rfl)) (Or.inl (w_ G 60 rfl)) (by decide) (t := .int) (t' := .byte) (by decide) (by decide))))
 have f16 := ((V3.other W5 (on (by omega))).other W9 (on (by omega)))
 refine OwnEnd.ret X9 (v := none) (fun _ => rfl) hlk (fun fs hr => X9.returnOut hx Bd.returns (D d10_38) hr) (by decide) (by decide) (Q := Qasi Z sb v0 c9 h0 n0) e9 ?_
 exact ⟨b3, k3, rfl, N9, K12, f13, f14, Fw9, f15, f16, (by omega)⟩

theorem own_efsbi (m : MethodId) (sb : Addr) : entryFrame m #[(.ref sb)] 1 = mkF m 0 #[vR sb] [] := by first | (simp [entryFrame, mkF, argsToLocals, Value.category]; done) | rfl
def Qsbi (Z : State) (sb : Addr) (v0 : Value) (c9 : Value) (h0 : Heap) (n0 : Nat) (v : Option Value) (h : Heap) (L : List Loc) : Prop := ∃ (vb : Addr) (kv : ClassId), v = none ∧ Fr n0 L ∧ Keep h0 h [sb] ∧ (Exa Z h sb j2) ∧ (Fld Z h sb j0 "value" "[B" (.ref vb)) ∧ (Fld Z h sb j0 "coder" "B" (.int 0)) ∧ (Fld Z h sb j0 "count" "I" (.int 0)) ∧ (Arv Z h vb kv .byte (16 : Int32) [(.int 0), (.int 0), (.int 0), (.int 0), (.int 0), (.int 0), (.int 0), (.int 0), (.int 0), (.int 0), (.int 0), (.int 0), (.int 0), (.int 0), (.int 0), (.int 0)] (.int 0)) ∧ (Array.size h0 ≤ vb)
set_option maxRecDepth 65536 in
set_option maxHeartbeats 40000000 in
theorem rmsbi (l : Launch) (Z : State) (a0 : Array Value) (G : OwnG Z a0) (ws : List Jvm.Cond) (sb : Addr) (v0 : Value) (c9 : Value) (h0 : Heap) (n0 : Nat) (O0 : Old Z n0 h0) (P0 : Exa Z h0 sb j2) (P1 : Fld Z h0 sb j0 "value" "[B" v0) (P2 : Fld Z h0 sb j0 "coder" "B" c9) (P3 : Fld Z h0 sb j0 "count" "I" (.int 0)) (P4 : n0 ≤ sb) :
  MetFree l own_m11 (head1 (Jvm.Cond.code own_m11 B17 1 none :: ws) (rR 2 1 16 25)) (fun a U => a = #[(.ref sb)] ∧ Z.Warmed39 U.vm ∧ U.heap = h0) (fun _ _ _ _ _ => True) (fun _ U o U' => ∃ v L, o = .returned v ∧ Qsbi Z sb v0 c9 h0 n0 v U'.heap L ∧ FrameEnd U o U' L (rR 2 1 16 25).cells (rR 2 1 16 25).slots) := by
 refine MetFree.of_bodySF (plainFor_of_name pn_4) hisR ?_
 intro p e s m args below meth cD s₁ Bd hml0 hP hK
 obtain ⟨rfl, hZ, hh⟩ := hP
 have hml : cD.maxLocals = 1 := hml0
 obtain ⟨hx, hby, (hown : s.vm.findClass j2 = some m.cls), hlk, X0, e0⟩ := own_st Bd hh
 have D := @hb _ _ hby
 have lt0 := lN P0.lt
 have lt1 := lN P1.lt
 have lt2 := lN P2.lt
 have lt3 := lN P3.lt
 have K0 : Keep h0 h0 [sb] := Keep.refl h0 _
 have Z0 := own_old_le O0
 have N0 := Fr.nil n0
 obtain ⟨zCS, SCS, PCS⟩ := own_cs G
 refine OwnEnd.start (g' := (mkF m 0 #[vR sb] [])) (own_efsbi m sb) ?_
 refine oo (S' := s₁.setTop (mkF m 3 #[vR sb] [(.int 16), (.ref sb)])) (fun _ kK => XS.aloadN X0.here hx rfl (D d11_0) rfl rfl (XS.bipush X0.here hx rfl (D d11_1) kK)) ?_
 obtain ⟨_, _, ⟨T1, L1, k1, n1⟩, -, X1, ⟨Lc1, hQ1, l1, y1, z1⟩, st1⟩ := Jvm.Stand.specialBack X0 hx (y := own_m10) rfl hown (mw hZ G 49 rfl) (mw hZ G 50 rfl) (mw hZ G 54 rfl) (by decide) (backOf (W := 0) (rmasi l Z a0 G [] sb v0 c9 h0 n0 O0 P0 P1 P2 P3 (by omega)) hZ (w_ G 54 rfl) (w_ G 53 rfl) (by decide) (by decide)) (g := (mkF m 3 #[vR sb] [(.int 16), (.ref sb)])) rfl (by rw [hml]; rfl) (Steps.refl _) (a := sb) (argsL := [(.int 16)]) (rest := []) (lenOf pd_6 rfl) rfl (own_z rfl) (D d11_3) (fun _ _ => ⟨rfl, e0, (ol rfl), (ol rfl)⟩)
 dsimp only [Pt.U, Pt.locs, Pt.cells, Pt.slots] at X1 l1 y1 z1 st1 hQ1
 subst l1 y1 z1
 obtain ⟨vb_1, kv_1, rfl, N1q, Kq1, r1_0, r1_1, r1_2, r1_3, r1_4, r1_5⟩ := hQ1
 have N1 := Fr.app N0 N1q
 have sz2 := Kq1.1
 have K2 := K0.trans Kq1 (own_all1 (Or.inl (by simp)))
 have ltr1_0 := lN r1_0.lt
 have ltr1_1 := lN r1_1.lt
 have ltr1_2 := lN r1_2.lt
 have ltr1_3 := lN r1_3.lt
 have ltr1_4 := lN r1_4.lt
 refine ot (S' := T1.setTop (mkF m 6 #[vR sb] [])) st1 ?_
 refine OwnEnd.ret X1 (v := none) (fun _ => rfl) hlk (fun fs hr => X1.returnOut hx Bd.returns (D d11_6) hr) (by decide) (by decide) (Q := Qsbi Z sb v0 c9 h0 n0) rfl ?_
 exact ⟨vb_1, kv_1, rfl, N1, K2, r1_0, r1_1, r1_2, r1_3, r1_4, (by omega)⟩

theorem own_efec (m : MethodId) (sb : Addr) (mm : Int32) : entryFrame m #[(.ref sb), (.int mm)] 3 = mkF m 0 #[vR sb, vI mm, .unset] [] := by first | (simp [entryFrame, mkF, argsToLocals, Value.category]; done) | rfl
def Qec (Z : State) (sb : Addr) (vb : Addr) (kv : ClassId) (vs : List Value) (mm : Int32) (h0 : Heap) (n0 : Nat) (v : Option Value) (h : Heap) (L : List Loc) : Prop := v = none ∧ Fr n0 L ∧ h = h0
set_option maxRecDepth 65536 in
set_option maxHeartbeats 40000000 in
theorem rmec (l : Launch) (Z : State) (a0 : Array Value) (G : OwnG Z a0) (ws : List Jvm.Cond) (sb : Addr) (vb : Addr) (kv : ClassId) (vs : List Value) (mm : Int32) (h0 : Heap) (n0 : Nat) (O0 : Old Z n0 h0) (P0 : Fld Z h0 sb j0 "value" "[B" (.ref vb)) (P1 : Fld Z h0 sb j0 "coder" "B" (.int 0)) (P2 : Arv Z h0 vb kv .byte (16 : Int32) vs (.int 0)) (P3 : ¬ (0 : Int32) < (mm - (16 : Int32))) :
  MetFree l own_m12 (head1 (Jvm.Cond.code own_m12 B18 3 none :: ws) (rR 0 0 0 0)) (fun a U => a = #[(.ref sb), (.int mm)] ∧ Z.Warmed39 U.vm ∧ U.heap = h0) (fun _ _ _ _ _ => True) (fun _ U o U' => ∃ v L, o = .returned v ∧ Qec Z sb vb kv vs mm h0 n0 v U'.heap L ∧ FrameEnd U o U' L (rR 0 0 0 0).cells (rR 0 0 0 0).slots) := by
 refine MetFree.of_bodySF (plainFor_of_name pn_3) hisR ?_
 intro p e s m args below meth cD s₁ Bd hml0 hP hK
 obtain ⟨rfl, hZ, hh⟩ := hP
 have hml : cD.maxLocals = 3 := hml0
 obtain ⟨hx, hby, (hown : s.vm.findClass j0 = some m.cls), hlk, X0, e0⟩ := own_st Bd hh
 have D := @hb _ _ hby
 have lt0 := lN P0.lt
 have lt1 := lN P1.lt
 have lt2 := lN P2.lt
 have Z0 := own_old_le O0
 have N0 := Fr.nil n0
 refine OwnEnd.start (g' := (mkF m 0 #[vR sb, vI mm, .unset] [])) (own_efec m sb mm) ?_
 refine oo (S' := s₁.setTop (mkF m 1 #[vR sb, vI mm, .unset] [(.ref sb)])) (fun _ kK => XS.aloadN X0.here hx rfl (D d12_0) rfl rfl kK) ?_
 obtain ⟨T1, X1, e1, st1⟩ := getF X0 hx hZ hown (host := "") (Or.inl (w_ G 57 rfl)) Via.refl e0 P0 (g := (mkF m 1 #[vR sb, vI mm, .unset] [(.ref sb)])) rfl rfl (D d12_1)
 refine oo (S' := T1.setTop (mkF m 4 #[vR sb, vI mm, .unset] [(.ref vb)])) st1 ?_
 obtain ⟨cl2, Ar2, q2, S2, N2', H2, G2⟩ := id P2
 refine oo (S' := T1.setTop (mkF m 5 #[vR sb, vI mm, .unset] [(.int 16)])) (fun _ kK => X1.arraylength hx (by rw [e1]; exact Ar2.1) (State.isArrayOf_alike hZ.alike Ar2.2.1) (g := (mkF m 4 #[vR sb, vI mm, .unset] [(.ref vb)])) rfl rfl (D d12_4) _ (by rw [len_of S2 N2']; exact kK)) ?_
 refine oo (S' := T1.setTop (mkF m 6 #[vR sb, vI mm, .unset] [(.ref sb), (.int 16)])) (fun _ kK => XS.aloadN X1.here hx rfl (D d12_5) rfl rfl kK) ?_
 obtain ⟨T3, X3, e3, st3⟩ := getF X1 hx hZ hown (host := "") (Or.inl (w_ G 59 rfl)) Via.refl e1 P1 (g := (mkF m 6 #[vR sb, vI mm, .unset] [(.ref sb), (.int 16)])) rfl rfl (D d12_6)
 refine oo (S' := T3.setTop (mkF m 9 #[vR sb, vI mm, .unset] [(.int 0), (.int 16)])) st3 ?_
 refine oo (S' := T3.setTop (mkF m 38 #[vR sb, vI mm, vI 16] [])) (fun _ kK => XS.ishr X3.here hx rfl (D d12_9) rfl (XS.istoreN X3.here hx rfl (D d12_10) rfl (l' := #[vR sb, vI mm, vI 16]) rfl (XS.iloadN X3.here hx rfl (D d12_11) rfl (XS.iloadN X3.here hx rfl (D d12_12) rfl (XS.isub X3.here hx rfl (D d12_13) rfl (XS.ifYes X3.here hx rfl (pc0 := 14) (pc' := 38) rfl (D d12_14) rfl ((if0 _ _).trans (flt (P3)).2.2.2) (by decide) (by decide) kK)))))) ?_
 refine OwnEnd.ret X3 (v := none) (fun _ => rfl) hlk (fun fs hr => X3.returnOut hx Bd.returns (D d12_38) hr) (by decide) (by decide) (Q := Qec Z sb vb kv vs mm h0 n0) e3 ?_
 exact ⟨rfl, N0, rfl⟩

theorem own_efaln (m : MethodId) (sb : Addr) : entryFrame m #[(.ref sb)] 1 = mkF m 0 #[vR sb] [] := by first | (simp [entryFrame, mkF, argsToLocals, Value.category]; done) | rfl
set_option maxRecDepth 65536 in
set_option maxHeartbeats 40000000 in
theorem rmaln (l : Launch) (Z : State) (a0 : Array Value) (G : OwnG Z a0) (ws : List Jvm.Cond) (sb : Addr) (k : Int32) (h0 : Heap) (n0 : Nat) (O0 : Old Z n0 h0) (P0 : Exa Z h0 sb j2) (P1 : Fld Z h0 sb j0 "count" "I" (.int k)) :
  MetFree l own_m13 (head1 (Jvm.Cond.code own_m13 B19 1 (some .int) :: ws) (rR 0 0 0 0)) (fun a U => a = #[(.ref sb)] ∧ Z.Warmed39 U.vm ∧ U.heap = h0) (fun _ _ _ _ _ => True) (fun _ U o U' => ∃ v L, o = .returned v ∧ (own_Qint k) h0 n0 v U'.heap L ∧ FrameEnd U o U' L (rR 0 0 0 0).cells (rR 0 0 0 0).slots) := by
 refine MetFree.of_bodySF (plainFor_of_name pn_3) hisR ?_
 intro p e s m args below meth cD s₁ Bd hml0 hP hK
 obtain ⟨rfl, hZ, hh⟩ := hP
 have hml : cD.maxLocals = 1 := hml0
 obtain ⟨hx, hby, (hown : s.vm.findClass j0 = some m.cls), hlk, X0, e0⟩ := own_st Bd hh
 have D := @hb _ _ hby
 have lt0 := lN P0.lt
 have lt1 := lN P1.lt
 have Z0 := own_old_le O0
 have N0 := Fr.nil n0
 refine OwnEnd.start (g' := (mkF m 0 #[vR sb] [])) (own_efaln m sb) ?_
 refine oo (S' := s₁.setTop (mkF m 1 #[vR sb] [(.ref sb)])) (fun _ kK => XS.aloadN X0.here hx rfl (D d13_0) rfl rfl kK) ?_
 obtain ⟨T1, X1, e1, st1⟩ := getF X0 hx hZ hown (host := "") (Or.inl (w_ G 82 rfl)) Via.refl e0 P1 (g := (mkF m 1 #[vR sb] [(.ref sb)])) rfl rfl (D d13_1)
 refine oo (S' := T1.setTop (mkF m 4 #[vR sb] [(.int k)])) st1 ?_
 refine OwnEnd.ret X1 (v := (some (.int k))) (fun h => by rw [Bd.returns] at h; cases h) hlk (fun fs hr => retOut X1 hx Bd.returns rfl (Or.inl ⟨rfl, Or.inl rfl, _, rfl⟩) (D d13_4) hr) (by decide) (by decide) (Q := (own_Qint k) h0 n0) e1 ?_
 exact ⟨rfl, N0, rfl⟩

theorem own_efsln (m : MethodId) (sb : Addr) : entryFrame m #[(.ref sb)] 1 = mkF m 0 #[vR sb] [] := by first | (simp [entryFrame, mkF, argsToLocals, Value.category]; done) | rfl
set_option maxRecDepth 65536 in
set_option maxHeartbeats 40000000 in
theorem rmsln (l : Launch) (Z : State) (a0 : Array Value) (G : OwnG Z a0) (ws : List Jvm.Cond) (sb : Addr) (k : Int32) (h0 : Heap) (n0 : Nat) (O0 : Old Z n0 h0) (P0 : Exa Z h0 sb j2) (P1 : Fld Z h0 sb j0 "count" "I" (.int k)) :
  MetFree l own_m14 (head1 (Jvm.Cond.code own_m14 B20 1 (some .int) :: ws) (rR 1 0 0 12)) (fun a U => a = #[(.ref sb)] ∧ Z.Warmed39 U.vm ∧ U.heap = h0) (fun _ _ _ _ _ => True) (fun _ U o U' => ∃ v L, o = .returned v ∧ (own_Qint k) h0 n0 v U'.heap L ∧ FrameEnd U o U' L (rR 1 0 0 12).cells (rR 1 0 0 12).slots) := by
 refine MetFree.of_bodySF (plainFor_of_name pn_4) hisR ?_
 intro p e s m args below meth cD s₁ Bd hml0 hP hK
 obtain ⟨rfl, hZ, hh⟩ := hP
 have hml : cD.maxLocals = 1 := hml0
 obtain ⟨hx, hby, (hown : s.vm.findClass j2 = some m.cls), hlk, X0, e0⟩ := own_st Bd hh
 have D := @hb _ _ hby
 have lt0 := lN P0.lt
 have lt1 := lN P1.lt
 have Z0 := own_old_le O0
 have N0 := Fr.nil n0
 refine OwnEnd.start (g' := (mkF m 0 #[vR sb] [])) (own_efsln m sb) ?_
 refine oo (S' := s₁.setTop (mkF m 1 #[vR sb] [(.ref sb)])) (fun _ kK => XS.aloadN X0.here hx rfl (D d14_0) rfl rfl kK) ?_
 obtain ⟨_, _, ⟨T1, L1, k1, n1⟩, -, X1, ⟨Lc1, hQ1, l1, y1, z1⟩, st1⟩ := superBack X0 hx hZ hown (y := own_m13) (w_ G 155 rfl) (own_same (own_notI (w_ G 87 rfl) rfl) (w_ G 151 rfl) (by decide)) (w_ G 151 rfl) (w_ G 68 rfl) (by decide) (backOf (W := 0) (rmaln l Z a0 G [] sb k h0 n0 O0 P0 P1) hZ (w_ G 156 rfl) (w_ G 53 rfl) (by decide) (by decide)) e0 (Ins.self P0) (g := (mkF m 1 #[vR sb] [(.ref sb)])) rfl (by rw [hml]; rfl) (w_ G 156 rfl) (argsL := []) (rest := []) (lenOf pd_7 rfl) rfl (own_z rfl) (D d14_1) (fun _ _ => ⟨rfl, e0, (ol rfl), (ol rfl)⟩)
 dsimp only [Pt.U, Pt.locs, Pt.cells, Pt.slots] at X1 l1 y1 z1 st1 hQ1
 subst l1 y1 z1
 obtain ⟨rfl, N1q, eh1⟩ := hQ1
 have N1 := Fr.app N0 N1q
 refine ot (S' := T1.setTop (mkF m 4 #[vR sb] [(.int k)])) st1 ?_
 refine OwnEnd.ret X1 (v := (some (.int k))) (fun h => by rw [Bd.returns] at h; cases h) hlk (fun fs hr => retOut X1 hx Bd.returns rfl (Or.inl ⟨rfl, Or.inl rfl, _, rfl⟩) (D d14_4) hr) (by decide) (by decide) (Q := (own_Qint k) h0 n0) eh1 ?_
 exact ⟨rfl, N1, rfl⟩

theorem own_efgv (m : MethodId) (sb : Addr) : entryFrame m #[(.ref sb)] 1 = mkF m 0 #[vR sb] [] := by first | (simp [entryFrame, mkF, argsToLocals, Value.category]; done) | rfl
def Qgv (Z : State) (sb : Addr) (vb : Addr) (h0 : Heap) (n0 : Nat) (v : Option Value) (h : Heap) (L : List Loc) : Prop := v = some (.ref vb) ∧ Fr n0 L ∧ h = h0
set_option maxRecDepth 65536 in
set_option maxHeartbeats 40000000 in
theorem rmgv (l : Launch) (Z : State) (a0 : Array Value) (G : OwnG Z a0) (ws : List Jvm.Cond) (sb : Addr) (vb : Addr) (h0 : Heap) (n0 : Nat) (O0 : Old Z n0 h0) (P0 : Fld Z h0 sb j0 "value" "[B" (.ref vb)) :
  MetFree l own_m15 (head1 (Jvm.Cond.code own_m15 B21 1 (some (.array .byte)) :: ws) (rR 0 0 0 0)) (fun a U => a = #[(.ref sb)] ∧ Z.Warmed39 U.vm ∧ U.heap = h0) (fun _ _ _ _ _ => True) (fun _ U o U' => ∃ v L, o = .returned v ∧ Qgv Z sb vb h0 n0 v U'.heap L ∧ FrameEnd U o U' L (rR 0 0 0 0).cells (rR 0 0 0 0).slots) := by
 refine MetFree.of_bodySF (plainFor_of_name pn_3) hisR ?_
 intro p e s m args below meth cD s₁ Bd hml0 hP hK
 obtain ⟨rfl, hZ, hh⟩ := hP
 have hml : cD.maxLocals = 1 := hml0
 obtain ⟨hx, hby, (hown : s.vm.findClass j0 = some m.cls), hlk, X0, e0⟩ := own_st Bd hh
 have D := @hb _ _ hby
 have lt0 := lN P0.lt
 have Z0 := own_old_le O0
 have N0 := Fr.nil n0
 refine OwnEnd.start (g' := (mkF m 0 #[vR sb] [])) (own_efgv m sb) ?_
 refine oo (S' := s₁.setTop (mkF m 1 #[vR sb] [(.ref sb)])) (fun _ kK => XS.aloadN X0.here hx rfl (D d15_0) rfl rfl kK) ?_
 obtain ⟨T1, X1, e1, st1⟩ := getF X0 hx hZ hown (host := "") (Or.inl (w_ G 57 rfl)) Via.refl e0 P0 (g := (mkF m 1 #[vR sb] [(.ref sb)])) rfl rfl (D d15_1)
 refine oo (S' := T1.setTop (mkF m 4 #[vR sb] [(.ref vb)])) st1 ?_
 refine OwnEnd.ret X1 (v := (some (.ref vb))) (fun h => by rw [Bd.returns] at h; cases h) hlk (fun fs hr => retOut X1 hx Bd.returns rfl (Or.inr (Or.inr (Or.inr (Or.inr ⟨rfl, rfl, rfl⟩)))) (D d15_4) hr) (by decide) (by decide) (Q := Qgv Z sb vb h0 n0) e1 ?_
 exact ⟨rfl, N0, rfl⟩

theorem own_efinf (m : MethodId) (sb : Addr) (x1 : Addr) : entryFrame m #[(.ref sb), (.ref x1)] 2 = mkF m 0 #[vR sb, vR x1] [] := by first | (simp [entryFrame, mkF, argsToLocals, Value.category]; done) | rfl
def Qinf (Z : State) (sb : Addr) (x1 : Addr) (h0 : Heap) (n0 : Nat) (v : Option Value) (h : Heap) (L : List Loc) : Prop := v = none ∧ Fr n0 L ∧ h = h0
set_option maxRecDepth 65536 in
set_option maxHeartbeats 40000000 in
theorem rminf (l : Launch) (Z : State) (a0 : Array Value) (G : OwnG Z a0) (ws : List Jvm.Cond) (sb : Addr) (x1 : Addr) (h0 : Heap) (n0 : Nat) (O0 : Old Z n0 h0) (P0 : Fld Z h0 sb j0 "coder" "B" (.int 0)) (P1 : Exa Z h0 x1 j1) (P2 : Fld Z h0 x1 j1 "coder" "B" (.int 0)) :
  MetFree l own_m16 (head1 (Jvm.Cond.code own_m16 B22 2 none :: ws) (rR 1 0 0 13)) (fun a U => a = #[(.ref sb), (.ref x1)] ∧ Z.Warmed39 U.vm ∧ U.heap = h0) (fun _ _ _ _ _ => True) (fun _ U o U' => ∃ v L, o = .returned v ∧ Qinf Z sb x1 h0 n0 v U'.heap L ∧ FrameEnd U o U' L (rR 1 0 0 13).cells (rR 1 0 0 13).slots) := by
 refine MetFree.of_bodySF (plainFor_of_name pn_3) hisR ?_
 intro p e s m args below meth cD s₁ Bd hml0 hP hK
 obtain ⟨rfl, hZ, hh⟩ := hP
 have hml : cD.maxLocals = 2 := hml0
 obtain ⟨hx, hby, (hown : s.vm.findClass j0 = some m.cls), hlk, X0, e0⟩ := own_st Bd hh
 have D := @hb _ _ hby
 have lt0 := lN P0.lt
 have lt1 := lN P1.lt
 have lt2 := lN P2.lt
 have Z0 := own_old_le O0
 have N0 := Fr.nil n0
 obtain ⟨zCS, SCS, PCS⟩ := own_cs G
 refine OwnEnd.start (g' := (mkF m 0 #[vR sb, vR x1] [])) (own_efinf m sb x1) ?_
 obtain ⟨T1, X1, e1, st1⟩ := getS2 X0 hx hZ hown (host := "") (Or.inl (w_ G 56 rfl)) Via.refl e0 (SCS.ext O0.2) (g := (mkF m 0 #[vR sb, vR x1] [])) rfl (D d16_0)
 refine oo (S' := T1.setTop (mkF m 3 #[vR sb, vR x1] [(.int zCS)])) st1 ?_
 refine oo (S' := T1.setTop (mkF m 7 #[vR sb, vR x1] [(.ref sb)])) (fun _ kK => XS.ifNo X1.here hx rfl (D d16_3) rfl ((if0 _ _).trans (feq (PCS)).1) (XS.aloadN X1.here hx rfl (D d16_6) rfl rfl kK)) ?_
 obtain ⟨T2, X2, e2, st2⟩ := getF X1 hx hZ hown (host := "") (Or.inl (w_ G 59 rfl)) Via.refl e1 P0 (g := (mkF m 7 #[vR sb, vR x1] [(.ref sb)])) rfl rfl (D d16_7)
 refine oo (S' := T2.setTop (mkF m 10 #[vR sb, vR x1] [(.int 0)])) st2 ?_
 refine oo (S' := T2.setTop (mkF m 11 #[vR sb, vR x1] [(.ref x1), (.int 0)])) (fun _ kK => XS.aloadN X2.here hx rfl (D d16_10) rfl rfl kK) ?_
 obtain ⟨cq3, kq3, q3a, q3b, q3c⟩ := isOf hZ e2 P1
 obtain ⟨_, _, ⟨T3, L3, k3, n3⟩, -, X3, ⟨Lc3, hQ3, l3, y3, z3⟩, st3⟩ := X2.virtualBack hx (y := own_m5) (z := own_m5) hown (mw hZ G 99 rfl) (mw hZ G 77 rfl) (notFace_of_selects (args := #[]) (mw hZ G 79 rfl)) (mw hZ G 79 rfl) (mw hZ G 78 rfl) (by decide) (backOf (W := 1) (rmcdr0 l Z a0 G [] x1 h0 n0 O0 P2) hZ (w_ G 80 rfl) (w_ G 3 rfl) (by decide) (by decide)) q3a q3c (g := (mkF m 11 #[vR sb, vR x1] [(.ref x1), (.int 0)])) rfl (by rw [hml]; rfl) (Steps.refl _) (argsL := []) (rest := [(.int 0)]) (lenOf pd_2 rfl) rfl (own_z rfl) (D d16_11) (fun _ _ => ⟨rfl, e2, (ol rfl), (ol rfl)⟩)
 dsimp only [Pt.U, Pt.locs, Pt.cells, Pt.slots] at X3 l3 y3 z3 st3 hQ3
 subst l3 y3 z3
 obtain ⟨rfl, N3q, eh3⟩ := hQ3
 have N3 := Fr.app N0 N3q
 refine ot (S' := T3.setTop (mkF m 14 #[vR sb, vR x1] [(.int 0), (.int 0)])) st3 ?_
 refine oo (S' := T3.setTop (mkF m 21 #[vR sb, vR x1] [])) (fun _ kK => XS.icmpYes X3.here hx rfl (pc0 := 14) (pc' := 21) rfl (D d16_14) rfl (teq ((by decide : (0 : Int32) = (0 : Int32)))).1 (by decide) (by decide) kK) ?_
 refine OwnEnd.ret X3 (v := none) (fun _ => rfl) hlk (fun fs hr => X3.returnOut hx Bd.returns (D d16_21) hr) (by decide) (by decide) (Q := Qinf Z sb x1 h0 n0) eh3 ?_
 exact ⟨rfl, N3, rfl⟩

theorem own_efgb00 (m : MethodId) (x1 : Addr) (vb : Addr) : entryFrame m #[(.ref x1), (.ref vb), (.int 0), (.int 0)] 4 = mkF m 0 #[vR x1, vR vb, vI 0, vI 0] [] := by first | (simp [entryFrame, mkF, argsToLocals, Value.category]; done) | rfl
def Qgb00 (Z : State) (x1 : Addr) (t1 : Addr) (k1 : ClassId) (vb : Addr) (kv : ClassId) (h0 : Heap) (n0 : Nat) (v : Option Value) (h : Heap) (L : List Loc) : Prop := v = none ∧ Fr n0 L ∧ Keep h0 h [vb] ∧ (Arv Z h vb kv .byte (16 : Int32) [(.int 0), (.int 0), (.int 0), (.int 0), (.int 0), (.int 0), (.int 0), (.int 0), (.int 0), (.int 0), (.int 0), (.int 0), (.int 0), (.int 0), (.int 0), (.int 0)] (.int 0))
set_option maxRecDepth 65536 in
set_option maxHeartbeats 40000000 in
theorem rmgb00 (l : Launch) (Z : State) (a0 : Array Value) (G : OwnG Z a0) (ws : List Jvm.Cond) (x1 : Addr) (t1 : Addr) (k1 : ClassId) (vb : Addr) (kv : ClassId) (h0 : Heap) (n0 : Nat) (O0 : Old Z n0 h0) (P0 : Exa Z h0 x1 j1) (P1 : Fld Z h0 x1 j1 "value" "[B" (.ref t1)) (P2 : Fld Z h0 x1 j1 "coder" "B" (.int 0)) (P3 : Arv Z h0 t1 k1 .byte (0 : Int32) [] (.int 0)) (P4 : Arv Z h0 vb kv .byte (16 : Int32) [(.int 0), (.int 0), (.int 0), (.int 0), (.int 0), (.int 0), (.int 0), (.int 0), (.int 0), (.int 0), (.int 0), (.int 0), (.int 0), (.int 0), (.int 0), (.int 0)] (.int 0)) (P5 : n0 ≤ vb) (P6 : t1 ≠ vb) :
  MetFree l own_m17 (head1 (Jvm.Cond.code own_m17 B23 4 none :: ws) (rR 1 0 0 18)) (fun a U => a = #[(.ref x1), (.ref vb), (.int 0), (.int 0)] ∧ Z.Warmed39 U.vm ∧ U.heap = h0) (fun _ _ _ _ _ => True) (fun _ U o U' => ∃ v L, o = .returned v ∧ Qgb00 Z x1 t1 k1 vb kv h0 n0 v U'.heap L ∧ FrameEnd U o U' L (rR 1 0 0 18).cells (rR 1 0 0 18).slots) := by
 refine MetFree.of_bodySF (plainFor_of_name pn_0) hisR ?_
 intro p e s m args below meth cD s₁ Bd hml0 hP hK
 obtain ⟨rfl, hZ, hh⟩ := hP
 have hml : cD.maxLocals = 4 := hml0
 obtain ⟨hx, hby, (hown : s.vm.findClass j1 = some m.cls), hlk, X0, e0⟩ := own_st Bd hh
 have D := @hb _ _ hby
 have lt0 := lN P0.lt
 have lt1 := lN P1.lt
 have lt2 := lN P2.lt
 have lt3 := lN P3.lt
 have lt4 := lN P4.lt
 have nP6 := own_neN P6
 have K0 : Keep h0 h0 [vb] := Keep.refl h0 _
 have Z0 := own_old_le O0
 have N0 := Fr.nil n0
 let lv1 : Array Slot := #[vR x1, vR vb, vI 0, vI 0]
 refine OwnEnd.start (g' := (mkF m 0 lv1 [])) (own_efgb00 m x1 vb) ?_
 refine oo (S' := s₁.setTop (mkF m 1 lv1 [(.ref x1)])) (fun _ kK => XS.aloadN X0.here hx rfl (D d17_0) rfl rfl kK) ?_
 obtain ⟨cq2, kq2, q2a, q2b, q2c⟩ := isOf hZ e0 P0
 obtain ⟨_, _, ⟨T2, L2, k2, n2⟩, -, X2, ⟨Lc2, hQ2, l2, y2, z2⟩, st2⟩ := X0.virtualBack hx (y := own_m5) (z := own_m5) hown (mw hZ G 76 rfl) (mw hZ G 77 rfl) (notFace_of_selects (args := #[]) (mw hZ G 79 rfl)) (mw hZ G 79 rfl) (mw hZ G 78 rfl) (by decide) (backOf (W := 0) (rmcdr0 l Z a0 G [] x1 h0 n0 O0 P2) hZ (w_ G 80 rfl) (w_ G 3 rfl) (by decide) (by decide)) q2a q2c (g := (mkF m 1 lv1 [(.ref x1)])) rfl (by rw [hml]; rfl) (Steps.refl _) (argsL := []) (rest := []) (lenOf pd_2 rfl) rfl (own_z rfl) (D d17_1) (fun _ _ => ⟨rfl, e0, (ol rfl), (ol rfl)⟩)
 dsimp only [Pt.U, Pt.locs, Pt.cells, Pt.slots] at X2 l2 y2 z2 st2 hQ2
 subst l2 y2 z2
 obtain ⟨rfl, N2q, eh2⟩ := hQ2
 have N2 := Fr.app N0 N2q
 refine ot (S' := T2.setTop (mkF m 4 lv1 [(.int 0)])) st2 ?_
 refine oo (S' := T2.setTop (mkF m 9 lv1 [(.ref x1)])) (fun _ kK => XS.iloadN X2.here hx rfl (D d17_4) rfl (XS.icmpNo X2.here hx rfl (D d17_5) rfl (teq ((by decide : (0 : Int32) = (0 : Int32)))).2 (XS.aloadN X2.here hx rfl (D d17_8) rfl rfl kK))) ?_
 obtain ⟨T3, X3, e3, st3⟩ := getF X2 hx hZ hown (host := "") (Or.inl (w_ G 20 rfl)) Via.refl eh2 P1 (g := (mkF m 9 lv1 [(.ref x1)])) rfl rfl (D d17_9)
 refine oo (S' := T3.setTop (mkF m 12 lv1 [(.ref t1)])) st3 ?_
 refine oo (S' := T3.setTop (mkF m 18 lv1 [(.ref x1), (.int 0), (.ref vb), (.int 0), (.ref t1)])) (fun _ kK => XS.iconst X3.here hx rfl (D d17_12) (XS.aloadN X3.here hx rfl (D d17_13) rfl rfl (XS.iloadN X3.here hx rfl (D d17_14) rfl (XS.iloadN X3.here hx rfl (D d17_15) rfl (XS.ishl X3.here hx rfl (D d17_16) rfl (XS.aloadN X3.here hx rfl (D d17_17) rfl rfl kK)))))) ?_
 obtain ⟨T4, X4, e4, st4⟩ := getF X3 hx hZ hown (host := "") (Or.inl (w_ G 20 rfl)) Via.refl e3 P1 (g := (mkF m 18 lv1 [(.ref x1), (.int 0), (.ref vb), (.int 0), (.ref t1)])) rfl rfl (D d17_18)
 refine oo (S' := T4.setTop (mkF m 21 lv1 [(.ref t1), (.int 0), (.ref vb), (.int 0), (.ref t1)])) st4 ?_
 obtain ⟨cl5, Ar5, q5, S5, N5', H5, G5⟩ := id P3
 refine oo (S' := T4.setTop (mkF m 22 lv1 [(.int 0), (.int 0), (.ref vb), (.int 0), (.ref t1)])) (fun _ kK => X4.arraylength hx (by rw [e4]; exact Ar5.1) (State.isArrayOf_alike hZ.alike Ar5.2.1) (g := (mkF m 21 lv1 [(.ref t1), (.int 0), (.ref vb), (.int 0), (.ref t1)])) rfl rfl (D d17_21) _ (by rw [len_of S5 N5']; exact kK)) ?_
 obtain ⟨T6, h6, L6, X6, e6, N6, Kc6, Vc6, st6⟩ := cpA X4 hx hZ hown (w_ G 105 rfl) (w_ G 108 rfl) (w_ G 106 rfl) (w_ G 107 rfl) e4 P3 P4 (us := []) (Or.inl ⟨rfl, rfl⟩) (sp := (0 : Int32)) (dp := (0 : Int32)) (nn := (0 : Int32)) (by decide) (by decide) (by decide) (by decide) (by decide) rfl (Nat.le_of_ble_eq_true rfl) N2 (by omega) (g := (mkF m 22 lv1 [(.int 0), (.int 0), (.ref vb), (.int 0), (.ref t1)])) rfl (by rw [hml]; rfl) rfl (D d17_22) (by decide) (W := 0) (own_z rfl) (by decide)
 have sz7 := Kc6.1
 have K7 := K0.trans Kc6 (own_all1 (Or.inl (by simp)))
 have V6 : Arv Z h6 vb kv .byte (16 : Int32) [(.int 0), (.int 0), (.int 0), (.int 0), (.int 0), (.int 0), (.int 0), (.int 0), (.int 0), (.int 0), (.int 0), (.int 0), (.int 0), (.int 0), (.int 0), (.int 0)] (.int 0) := Vc6
 refine oo (S' := T6.setTop (mkF m 25 lv1 [])) st6 ?_
 refine oo (S' := T6.setTop (mkF m 43 lv1 [])) (fun _ kK => XS.goto X6.here hx rfl (pc0 := 25) (pc' := 43) rfl (D d17_25) (by decide) (by decide) kK) ?_
 refine OwnEnd.ret X6 (v := none) (fun _ => rfl) hlk (fun fs hr => X6.returnOut hx Bd.returns (D d17_43) hr) (by decide) (by decide) (Q := Qgb00 Z x1 t1 k1 vb kv h0 n0) e6 ?_
 exact ⟨rfl, N6, K7, V6⟩

theorem own_efps00 (m : MethodId) (sb : Addr) (x1 : Addr) : entryFrame m #[(.ref sb), (.int 0), (.ref x1)] 3 = mkF m 0 #[vR sb, vI 0, vR x1] [] := by first | (simp [entryFrame, mkF, argsToLocals, Value.category]; done) | rfl
def Qps00 (Z : State) (sb : Addr) (vb : Addr) (kv : ClassId) (x1 : Addr) (t1 : Addr) (k1 : ClassId) (h0 : Heap) (n0 : Nat) (v : Option Value) (h : Heap) (L : List Loc) : Prop := v = none ∧ Fr n0 L ∧ Keep h0 h [vb] ∧ (Arv Z h vb kv .byte (16 : Int32) [(.int 0), (.int 0), (.int 0), (.int 0), (.int 0), (.int 0), (.int 0), (.int 0), (.int 0), (.int 0), (.int 0), (.int 0), (.int 0), (.int 0), (.int 0), (.int 0)] (.int 0))
set_option maxRecDepth 65536 in
set_option maxHeartbeats 40000000 in
theorem rmps00 (l : Launch) (Z : State) (a0 : Array Value) (G : OwnG Z a0) (ws : List Jvm.Cond) (sb : Addr) (vb : Addr) (kv : ClassId) (x1 : Addr) (t1 : Addr) (k1 : ClassId) (h0 : Heap) (n0 : Nat) (O0 : Old Z n0 h0) (P0 : Exa Z h0 sb j2) (P1 : Fld Z h0 sb j0 "value" "[B" (.ref vb)) (P2 : Fld Z h0 sb j0 "coder" "B" (.int 0)) (P3 : Fld Z h0 sb j0 "count" "I" (.int 0)) (P4 : Arv Z h0 vb kv .byte (16 : Int32) [(.int 0), (.int 0), (.int 0), (.int 0), (.int 0), (.int 0), (.int 0), (.int 0), (.int 0), (.int 0), (.int 0), (.int 0), (.int 0), (.int 0), (.int 0), (.int 0)] (.int 0)) (P5 : Exa Z h0 x1 j1) (P6 : Fld Z h0 x1 j1 "value" "[B" (.ref t1)) (P7 : Fld Z h0 x1 j1 "coder" "B" (.int 0)) (P8 : Arv Z h0 t1 k1 .byte (0 : Int32) [] (.int 0)) (P9 : n0 ≤ sb) (P10 : n0 ≤ vb) (P11 : sb ≠ vb) (P12 : t1 ≠ vb) (P13 : t1 ≠ sb) (P14 : x1 ≠ vb) (P15 : x1 ≠ sb) :
  MetFree l own_m18 (head1 (Jvm.Cond.code own_m18 B24 3 none :: ws) (rR 2 0 0 33)) (fun a U => a = #[(.ref sb), (.int 0), (.ref x1)] ∧ Z.Warmed39 U.vm ∧ U.heap = h0) (fun _ _ _ _ _ => True) (fun _ U o U' => ∃ v L, o = .returned v ∧ Qps00 Z sb vb kv x1 t1 k1 h0 n0 v U'.heap L ∧ FrameEnd U o U' L (rR 2 0 0 33).cells (rR 2 0 0 33).slots) := by
 refine MetFree.of_bodySF (plainFor_of_name pn_3) hisR ?_
 intro p e s m args below meth cD s₁ Bd hml0 hP hK
 obtain ⟨rfl, hZ, hh⟩ := hP
 have hml : cD.maxLocals = 3 := hml0
 obtain ⟨hx, hby, (hown : s.vm.findClass j0 = some m.cls), hlk, X0, e0⟩ := own_st Bd hh
 have D := @hb _ _ hby
 have lt0 := lN P0.lt
 have lt1 := lN P1.lt
 have lt2 := lN P2.lt
 have lt3 := lN P3.lt
 have lt4 := lN P4.lt
 have lt5 := lN P5.lt
 have lt6 := lN P6.lt
 have lt7 := lN P7.lt
 have lt8 := lN P8.lt
 have nP11 := own_neN P11
 have nP12 := own_neN P12
 have nP13 := own_neN P13
 have nP14 := own_neN P14
 have nP15 := own_neN P15
 have K0 : Keep h0 h0 [vb] := Keep.refl h0 _
 have Z0 := own_old_le O0
 have N0 := Fr.nil n0
 refine OwnEnd.start (g' := (mkF m 0 #[vR sb, vI 0, vR x1] [])) (own_efps00 m sb x1) ?_
 refine oo (S' := s₁.setTop (mkF m 2 #[vR sb, vI 0, vR x1] [(.ref x1), (.ref sb)])) (fun _ kK => XS.aloadN X0.here hx rfl (D d18_0) rfl rfl (XS.aloadN X0.here hx rfl (D d18_1) rfl rfl kK)) ?_
 obtain ⟨cq1, kq1, q1a, q1b, cc1, q1d, -, q1e⟩ := isOf hZ e0 P0
 obtain ⟨_, _, ⟨T1, L1, k1, n1⟩, -, X1, ⟨Lc1, hQ1, l1, y1, z1⟩, st1⟩ := X0.privateBack hx (y := own_m16) hown (mw hZ G 94 rfl) (mw hZ G 95 rfl) (own_selP (oI (mw hZ G 87 rfl) rfl) (mw hZ G 95 rfl) (Cond.privateMethod_at (args := #[]) (mw hZ G 96 rfl)) (by decide)) (Cond.privateMethod_at (args := #[]) (mw hZ G 96 rfl)) (mw hZ G 98 rfl) (by decide) (backOf (W := 0) (rminf l Z a0 G [] sb x1 h0 n0 O0 P2 P5 P7) hZ (w_ G 98 rfl) (w_ G 53 rfl) (by decide) (by decide)) (g := (mkF m 2 #[vR sb, vI 0, vR x1] [(.ref x1), (.ref sb)])) rfl (by rw [hml]; rfl) (Steps.refl _) q1d (own_nost q1e) (argsL := [(.ref x1)]) (rest := []) (lenOf pd_8 rfl) rfl (own_z rfl) (D d18_2) (fun _ _ => ⟨rfl, e0, (ol rfl), (ol rfl)⟩)
 dsimp only [Pt.U, Pt.locs, Pt.cells, Pt.slots] at X1 l1 y1 z1 st1 hQ1
 subst l1 y1 z1
 obtain ⟨rfl, N1q, eh1⟩ := hQ1
 have N1 := Fr.app N0 N1q
 refine ot (S' := T1.setTop (mkF m 5 #[vR sb, vI 0, vR x1] [])) st1 ?_
 refine oo (S' := T1.setTop (mkF m 7 #[vR sb, vI 0, vR x1] [(.ref sb), (.ref x1)])) (fun _ kK => XS.aloadN X1.here hx rfl (D d18_5) rfl rfl (XS.aloadN X1.here hx rfl (D d18_6) rfl rfl kK)) ?_
 obtain ⟨T2, X2, e2, st2⟩ := getF X1 hx hZ hown (host := "") (Or.inl (w_ G 57 rfl)) Via.refl eh1 P1 (g := (mkF m 7 #[vR sb, vI 0, vR x1] [(.ref sb), (.ref x1)])) rfl rfl (D d18_7)
 refine oo (S' := T2.setTop (mkF m 10 #[vR sb, vI 0, vR x1] [(.ref vb), (.ref x1)])) st2 ?_
 refine oo (S' := T2.setTop (mkF m 12 #[vR sb, vI 0, vR x1] [(.ref sb), (.int 0), (.ref vb), (.ref x1)])) (fun _ kK => XS.iloadN X2.here hx rfl (D d18_10) rfl (XS.aloadN X2.here hx rfl (D d18_11) rfl rfl kK)) ?_
 obtain ⟨T3, X3, e3, st3⟩ := getF X2 hx hZ hown (host := "") (Or.inl (w_ G 59 rfl)) Via.refl e2 P2 (g := (mkF m 12 #[vR sb, vI 0, vR x1] [(.ref sb), (.int 0), (.ref vb), (.ref x1)])) rfl rfl (D d18_12)
 refine oo (S' := T3.setTop (mkF m 15 #[vR sb, vI 0, vR x1] [(.int 0), (.int 0), (.ref vb), (.ref x1)])) st3 ?_
 obtain ⟨cq4, kq4, q4a, q4b, q4c⟩ := isOf hZ e3 P5
 obtain ⟨_, _, ⟨T4, L4, k4, n4⟩, -, X4, ⟨Lc4, hQ4, l4, y4, z4⟩, st4⟩ := X3.virtualBack hx (y := own_m17) (z := own_m17) hown (mw hZ G 100 rfl) (mw hZ G 101 rfl) (notFace_of_selects (args := #[]) (mw hZ G 103 rfl)) (mw hZ G 103 rfl) (mw hZ G 102 rfl) (by decide) (backOf (W := 0) (rmgb00 l Z a0 G [] x1 t1 k1 vb kv h0 n0 O0 P5 P6 P7 P8 P4 (by omega) (on (by omega))) hZ (w_ G 104 rfl) (w_ G 3 rfl) (by decide) (by decide)) q4a q4c (g := (mkF m 15 #[vR sb, vI 0, vR x1] [(.int 0), (.int 0), (.ref vb), (.ref x1)])) rfl (by rw [hml]; rfl) (Steps.refl _) (argsL := [(.ref vb), (.int 0), (.int 0)]) (rest := []) (lenOf pd_9 rfl) rfl (own_z rfl) (D d18_15) (fun _ _ => ⟨rfl, e3, (ol rfl), (ol rfl)⟩)
 dsimp only [Pt.U, Pt.locs, Pt.cells, Pt.slots] at X4 l4 y4 z4 st4 hQ4
 subst l4 y4 z4
 obtain ⟨rfl, N4q, Kq4, r4_0⟩ := hQ4
 have N4 := Fr.app N1 N4q
 have sz5 := Kq4.1
 have K5 := K0.trans Kq4 (own_all1 (Or.inl (by simp)))
 have ltr4_0 := lN r4_0.lt
 refine ot (S' := T4.setTop (mkF m 18 #[vR sb, vI 0, vR x1] [])) st4 ?_
 refine OwnEnd.ret X4 (v := none) (fun _ => rfl) hlk (fun fs hr => X4.returnOut hx Bd.returns (D d18_18) hr) (by decide) (by decide) (Q := Qps00 Z sb vb kv x1 t1 k1 h0 n0) rfl ?_
 exact ⟨rfl, N4, K5, r4_0⟩

theorem own_efaa00 (m : MethodId) (sb : Addr) (x1 : Addr) : entryFrame m #[(.ref sb), (.ref x1)] 3 = mkF m 0 #[vR sb, vR x1, .unset] [] := by first | (simp [entryFrame, mkF, argsToLocals, Value.category]; done) | rfl
def Qaa00 (Z : State) (sb : Addr) (vb : Addr) (kv : ClassId) (x1 : Addr) (t1 : Addr) (k1 : ClassId) (h0 : Heap) (n0 : Nat) (v : Option Value) (h : Heap) (L : List Loc) : Prop := v = some (.ref sb) ∧ Fr n0 L ∧ Keep h0 h [sb, vb] ∧ (Exa Z h sb j2) ∧ (Fld Z h sb j0 "value" "[B" (.ref vb)) ∧ (Fld Z h sb j0 "coder" "B" (.int 0)) ∧ (Fld Z h sb j0 "count" "I" (.int 0)) ∧ (Arv Z h vb kv .byte (16 : Int32) [(.int 0), (.int 0), (.int 0), (.int 0), (.int 0), (.int 0), (.int 0), (.int 0), (.int 0), (.int 0), (.int 0), (.int 0), (.int 0), (.int 0), (.int 0), (.int 0)] (.int 0))
set_option maxRecDepth 65536 in
set_option maxHeartbeats 40000000 in
theorem rmaa00 (l : Launch) (Z : State) (a0 : Array Value) (G : OwnG Z a0) (ws : List Jvm.Cond) (sb : Addr) (vb : Addr) (kv : ClassId) (x1 : Addr) (t1 : Addr) (k1 : ClassId) (h0 : Heap) (n0 : Nat) (O0 : Old Z n0 h0) (P0 : Exa Z h0 sb j2) (P1 : Fld Z h0 sb j0 "value" "[B" (.ref vb)) (P2 : Fld Z h0 sb j0 "coder" "B" (.int 0)) (P3 : Fld Z h0 sb j0 "count" "I" (.int 0)) (P4 : Arv Z h0 vb kv .byte (16 : Int32) [(.int 0), (.int 0), (.int 0), (.int 0), (.int 0), (.int 0), (.int 0), (.int 0), (.int 0), (.int 0), (.int 0), (.int 0), (.int 0), (.int 0), (.int 0), (.int 0)] (.int 0)) (P5 : Exa Z h0 x1 j1) (P6 : Fld Z h0 x1 j1 "value" "[B" (.ref t1)) (P7 : Fld Z h0 x1 j1 "coder" "B" (.int 0)) (P8 : Arv Z h0 t1 k1 .byte (0 : Int32) [] (.int 0)) (P9 : n0 ≤ sb) (P10 : n0 ≤ vb) (P11 : sb ≠ vb) (P12 : t1 ≠ vb) (P13 : t1 ≠ sb) (P14 : x1 ≠ vb) (P15 : x1 ≠ sb) :
  MetFree l own_m19 (head1 (Jvm.Cond.code own_m19 B25 3 (some (.object j0)) :: ws) (rR 3 0 0 47)) (fun a U => a = #[(.ref sb), (.ref x1)] ∧ Z.Warmed39 U.vm ∧ U.heap = h0) (fun _ _ _ _ _ => True) (fun _ U o U' => ∃ v L, o = .returned v ∧ Qaa00 Z sb vb kv x1 t1 k1 h0 n0 v U'.heap L ∧ FrameEnd U o U' L (rR 3 0 0 47).cells (rR 3 0 0 47).slots) := by
 refine MetFree.of_bodySF (plainFor_of_name pn_3) hisR ?_
 intro p e s m args below meth cD s₁ Bd hml0 hP hK
 obtain ⟨rfl, hZ, hh⟩ := hP
 have hml : cD.maxLocals = 3 := hml0
 obtain ⟨hx, hby, (hown : s.vm.findClass j0 = some m.cls), hlk, X0, e0⟩ := own_st Bd hh
 have D := @hb _ _ hby
 have lt0 := lN P0.lt
 have lt1 := lN P1.lt
 have lt2 := lN P2.lt
 have lt3 := lN P3.lt
 have lt4 := lN P4.lt
 have lt5 := lN P5.lt
 have lt6 := lN P6.lt
 have lt7 := lN P7.lt
 have lt8 := lN P8.lt
 have nP11 := own_neN P11
 have nP12 := own_neN P12
 have nP13 := own_neN P13
 have nP14 := own_neN P14
 have nP15 := own_neN P15
 have K0 : Keep h0 h0 [sb, vb] := Keep.refl h0 _
 have Z0 := own_old_le O0
 have N0 := Fr.nil n0
 refine OwnEnd.start (g' := (mkF m 0 #[vR sb, vR x1, .unset] [])) (own_efaa00 m sb x1) ?_
 refine oo (S' := s₁.setTop (mkF m 10 #[vR sb, vR x1, .unset] [(.ref x1)])) (fun _ kK => XS.aloadN X0.here hx rfl (D d19_0) rfl rfl (XS.ifnonnullYes X0.here hx rfl (pc0 := 1) (pc' := 9) rfl (D d19_1) rfl (by decide) (by decide) (XS.aloadN X0.here hx rfl (D d19_9) rfl rfl kK))) ?_
 obtain ⟨cq1, kq1, q1a, q1b, q1c⟩ := isOf hZ e0 P5
 obtain ⟨_, _, ⟨T1, L1, k1, n1⟩, -, X1, ⟨Lc1, hQ1, l1, y1, z1⟩, st1⟩ := X0.virtualBack hx (y := own_m6) (z := own_m6) hown (mw hZ G 71 rfl) (mw hZ G 72 rfl) (notFace_of_selects (args := #[]) (mw hZ G 74 rfl)) (mw hZ G 74 rfl) (mw hZ G 73 rfl) (by decide) (backOf (W := 0) (rmln0 l Z a0 G [] x1 t1 k1 (0 : Int32) [] (.int 0) h0 n0 O0 P5 P6 P7 P8) hZ (w_ G 75 rfl) (w_ G 3 rfl) (by decide) (by decide)) q1a q1c (g := (mkF m 10 #[vR sb, vR x1, .unset] [(.ref x1)])) rfl (by rw [hml]; rfl) (Steps.refl _) (argsL := []) (rest := []) (lenOf pd_7 rfl) rfl (own_z rfl) (D d19_10) (fun _ _ => ⟨rfl, e0, (ol rfl), (ol rfl)⟩)
 dsimp only [Pt.U, Pt.locs, Pt.cells, Pt.slots] at X1 l1 y1 z1 st1 hQ1
 subst l1 y1 z1
 obtain ⟨rfl, N1q, eh1⟩ := hQ1
 have N1 := Fr.app N0 N1q
 refine ot (S' := T1.setTop (mkF m 13 #[vR sb, vR x1, .unset] [(.int 0)])) st1 ?_
 refine oo (S' := T1.setTop (mkF m 16 #[vR sb, vR x1, vI 0] [(.ref sb), (.ref sb)])) (fun _ kK => XS.istoreN X1.here hx rfl (D d19_13) rfl (l' := #[vR sb, vR x1, vI 0]) rfl (XS.aloadN X1.here hx rfl (D d19_14) rfl rfl (XS.aloadN X1.here hx rfl (D d19_15) rfl rfl kK))) ?_
 obtain ⟨T2, X2, e2, st2⟩ := getF X1 hx hZ hown (host := "") (Or.inl (w_ G 82 rfl)) Via.refl eh1 P3 (g := (mkF m 16 #[vR sb, vR x1, vI 0] [(.ref sb), (.ref sb)])) rfl rfl (D d19_16)
 refine oo (S' := T2.setTop (mkF m 19 #[vR sb, vR x1, vI 0] [(.int 0), (.ref sb)])) st2 ?_
 refine oo (S' := T2.setTop (mkF m 21 #[vR sb, vR x1, vI 0] [(.int 0), (.ref sb)])) (fun _ kK => XS.iloadN X2.here hx rfl (D d19_19) rfl (XS.iadd X2.here hx rfl (D d19_20) rfl kK)) ?_
 obtain ⟨cq3, kq3, q3a, q3b, cc3, q3d, -, q3e⟩ := isOf hZ e2 P0
 obtain ⟨_, _, ⟨T3, L3, k3, n3⟩, -, X3, ⟨Lc3, hQ3, l3, y3, z3⟩, st3⟩ := X2.privateBack hx (y := own_m12) hown (mw hZ G 84 rfl) (mw hZ G 85 rfl) (own_selP (oI (mw hZ G 87 rfl) rfl) (mw hZ G 85 rfl) (Cond.privateMethod_at (args := #[]) (mw hZ G 86 rfl)) (by decide)) (Cond.privateMethod_at (args := #[]) (mw hZ G 86 rfl)) (mw hZ G 88 rfl) (by decide) (backOf (W := 0) (rmec l Z a0 G [] sb vb kv [(.int 0), (.int 0), (.int 0), (.int 0), (.int 0), (.int 0), (.int 0), (.int 0), (.int 0), (.int 0), (.int 0), (.int 0), (.int 0), (.int 0), (.int 0), (.int 0)] (0 : Int32) h0 n0 O0 P1 P2 P4 (by decide)) hZ (w_ G 88 rfl) (w_ G 53 rfl) (by decide) (by decide)) (g := (mkF m 21 #[vR sb, vR x1, vI 0] [(.int 0), (.ref sb)])) rfl (by rw [hml]; rfl) (Steps.refl _) q3d (own_nost q3e) (argsL := [(.int 0)]) (rest := []) (lenOf pd_6 rfl) rfl (own_z rfl) (D d19_21) (fun _ _ => ⟨rfl, e2, (ol rfl), (ol rfl)⟩)
 dsimp only [Pt.U, Pt.locs, Pt.cells, Pt.slots] at X3 l3 y3 z3 st3 hQ3
 subst l3 y3 z3
 obtain ⟨rfl, N3q, eh3⟩ := hQ3
 have N3 := Fr.app N1 N3q
 refine ot (S' := T3.setTop (mkF m 24 #[vR sb, vR x1, vI 0] [])) st3 ?_
 refine oo (S' := T3.setTop (mkF m 26 #[vR sb, vR x1, vI 0] [(.ref sb), (.ref sb)])) (fun _ kK => XS.aloadN X3.here hx rfl (D d19_24) rfl rfl (XS.aloadN X3.here hx rfl (D d19_25) rfl rfl kK)) ?_
 obtain ⟨T4, X4, e4, st4⟩ := getF X3 hx hZ hown (host := "") (Or.inl (w_ G 82 rfl)) Via.refl eh3 P3 (g := (mkF m 26 #[vR sb, vR x1, vI 0] [(.ref sb), (.ref sb)])) rfl rfl (D d19_26)
 refine oo (S' := T4.setTop (mkF m 29 #[vR sb, vR x1, vI 0] [(.int 0), (.ref sb)])) st4 ?_
 refine oo (S' := T4.setTop (mkF m 30 #[vR sb, vR x1, vI 0] [(.ref x1), (.int 0), (.ref sb)])) (fun _ kK => XS.aloadN X4.here hx rfl (D d19_29) rfl rfl kK) ?_
 obtain ⟨cq5, kq5, q5a, q5b, cc5, q5d, -, q5e⟩ := isOf hZ e4 P0
 obtain ⟨_, _, ⟨T5, L5, k5, n5⟩, -, X5, ⟨Lc5, hQ5, l5, y5, z5⟩, st5⟩ := X4.privateBack hx (y := own_m18) hown (mw hZ G 89 rfl) (mw hZ G 90 rfl) (own_selP (oI (mw hZ G 87 rfl) rfl) (mw hZ G 90 rfl) (Cond.privateMethod_at (args := #[]) (mw hZ G 91 rfl)) (by decide)) (Cond.privateMethod_at (args := #[]) (mw hZ G 91 rfl)) (mw hZ G 93 rfl) (by decide) (backOf (W := 0) (rmps00 l Z a0 G [] sb vb kv x1 t1 k1 h0 n0 O0 P0 P1 P2 P3 P4 P5 P6 P7 P8 (by omega) (by omega) (on (by omega)) (on (by omega)) (on (by omega)) (on (by omega)) (on (by omega))) hZ (w_ G 93 rfl) (w_ G 53 rfl) (by decide) (by decide)) (g := (mkF m 30 #[vR sb, vR x1, vI 0] [(.ref x1), (.int 0), (.ref sb)])) rfl (by rw [hml]; rfl) (Steps.refl _) q5d (own_nost q5e) (argsL := [(.int 0), (.ref x1)]) (rest := []) (lenOf pd_10 rfl) rfl (own_z rfl) (D d19_30) (fun _ _ => ⟨rfl, e4, (ol rfl), (ol rfl)⟩)
 dsimp only [Pt.U, Pt.locs, Pt.cells, Pt.slots] at X5 l5 y5 z5 st5 hQ5
 subst l5 y5 z5
 obtain ⟨rfl, N5q, Kq5, r5_0⟩ := hQ5
 have N5 := Fr.app N3 N5q
 have sz6 := Kq5.1
 have K6 := K0.trans Kq5 (own_all1 (Or.inl (by simp)))
 have ltr5_0 := lN r5_0.lt
 refine ot (S' := T5.setTop (mkF m 33 #[vR sb, vR x1, vI 0] [])) st5 ?_
 refine oo (S' := T5.setTop (mkF m 35 #[vR sb, vR x1, vI 0] [(.ref sb), (.ref sb)])) (fun _ kK => XS.aloadN X5.here hx rfl (D d19_33) rfl rfl (XS.dup X5.here hx rfl (D d19_34) rfl rfl kK)) ?_
 have f8 := (P3.keep Kq5 (own_nin1 (on (by omega))))
 obtain ⟨T7, X7, e7, st7⟩ := getF X5 hx hZ hown (host := "") (Or.inl (w_ G 82 rfl)) Via.refl rfl f8 (g := (mkF m 35 #[vR sb, vR x1, vI 0] [(.ref sb), (.ref sb)])) rfl rfl (D d19_35)
 refine oo (S' := T7.setTop (mkF m 38 #[vR sb, vR x1, vI 0] [(.int 0), (.ref sb)])) st7 ?_
 refine oo (S' := T7.setTop (mkF m 40 #[vR sb, vR x1, vI 0] [(.int 0), (.ref sb)])) (fun _ kK => XS.iloadN X7.here hx rfl (D d19_38) rfl (XS.iadd X7.here hx rfl (D d19_39) rfl kK)) ?_
 have f10 := (P0.keep Kq5)
 obtain ⟨T9, h9, X9, e9, W9, st9⟩ := putF X7 hx hZ hown (host := "") (Or.inl (w_ G 82 rfl)) Via.refl e7 f8 f10 (Or.inl (w_ G 83 rfl)) (w_ G 44 rfl) (ty := .int) (by decide) rfl rfl (g := (mkF m 40 #[vR sb, vR x1, vI 0] [(.int 0), (.ref sb)])) rfl rfl (D d19_40)
 have Fw9 := f8.same W9
 have N9 := Fr.snoc X9 N5 (by omega)
 have sz11 := own_wr_le W9
 have K11 := K6.wr W9 (Or.inl (by simp))
 refine oo (S' := T9.setTop (mkF m 43 #[vR sb, vR x1, vI 0] [])) st9 ?_
 refine oo (S' := T9.setTop (mkF m 44 #[vR sb, vR x1, vI 0] [(.ref sb)])) (fun _ kK => XS.aloadN X9.here hx rfl (D d19_43) rfl rfl kK) ?_
 have f12 := (f10.wr W9)
 have f13 := ((P1.keep Kq5 (own_nin1 (on (by omega)))).other W9 (Or.inr (slot_ne (Or.inl (w_ G 58 rfl)) (Or.inl (w_ G 83 rfl)) (by decide) (t := (.array .byte)) (t' := .int) (by decide) (by decide))))
 have f14 := ((P2.keep Kq5 (own_nin1 (on (by omega)))).other W9 (Or.inr (slot_ne (Or.inl (w_ G 60 rfl)) (Or.inl (w_ G 83 rfl)) (by decide) (t := .byte) (t' := .int) (by decide) (by decide))))
 have f15 := (r5_0.other W9 (on (by omega)))
 refine OwnEnd.ret X9 (v := (some (.ref sb))) (fun h => by rw [Bd.returns] at h; cases h) hlk (fun fs hr => retOut X9 hx Bd.returns rfl (Or.inr (Or.inr (Or.inr (Or.inr ⟨rfl, rfl, rfl⟩)))) (D d19_44) hr) (by decide) (by decide) (Q := Qaa00 Z sb vb kv x1 t1 k1 h0 n0) e9 ?_
 exact ⟨rfl, N9, K11, f12, f13, f14, Fw9, f15⟩

theorem own_efsa00 (m : MethodId) (sb : Addr) (x1 : Addr) : entryFrame m #[(.ref sb), (.ref x1)] 2 = mkF m 0 #[vR sb, vR x1] [] := by first | (simp [entryFrame, mkF, argsToLocals, Value.category]; done) | rfl
def Qsa00 (Z : State) (sb : Addr) (vb : Addr) (kv : ClassId) (x1 : Addr) (t1 : Addr) (k1 : ClassId) (h0 : Heap) (n0 : Nat) (v : Option Value) (h : Heap) (L : List Loc) : Prop := v = some (.ref sb) ∧ Fr n0 L ∧ Keep h0 h [sb, vb] ∧ (Exa Z h sb j2) ∧ (Fld Z h sb j0 "value" "[B" (.ref vb)) ∧ (Fld Z h sb j0 "coder" "B" (.int 0)) ∧ (Fld Z h sb j0 "count" "I" (.int 0)) ∧ (Arv Z h vb kv .byte (16 : Int32) [(.int 0), (.int 0), (.int 0), (.int 0), (.int 0), (.int 0), (.int 0), (.int 0), (.int 0), (.int 0), (.int 0), (.int 0), (.int 0), (.int 0), (.int 0), (.int 0)] (.int 0))
set_option maxRecDepth 65536 in
set_option maxHeartbeats 40000000 in
theorem rmsa00 (l : Launch) (Z : State) (a0 : Array Value) (G : OwnG Z a0) (ws : List Jvm.Cond) (sb : Addr) (vb : Addr) (kv : ClassId) (x1 : Addr) (t1 : Addr) (k1 : ClassId) (h0 : Heap) (n0 : Nat) (O0 : Old Z n0 h0) (P0 : Exa Z h0 sb j2) (P1 : Fld Z h0 sb j0 "value" "[B" (.ref vb)) (P2 : Fld Z h0 sb j0 "coder" "B" (.int 0)) (P3 : Fld Z h0 sb j0 "count" "I" (.int 0)) (P4 : Arv Z h0 vb kv .byte (16 : Int32) [(.int 0), (.int 0), (.int 0), (.int 0), (.int 0), (.int 0), (.int 0), (.int 0), (.int 0), (.int 0), (.int 0), (.int 0), (.int 0), (.int 0), (.int 0), (.int 0)] (.int 0)) (P5 : Exa Z h0 x1 j1) (P6 : Fld Z h0 x1 j1 "value" "[B" (.ref t1)) (P7 : Fld Z h0 x1 j1 "coder" "B" (.int 0)) (P8 : Arv Z h0 t1 k1 .byte (0 : Int32) [] (.int 0)) (P9 : n0 ≤ sb) (P10 : n0 ≤ vb) (P11 : sb ≠ vb) (P12 : t1 ≠ vb) (P13 : t1 ≠ sb) (P14 : x1 ≠ vb) (P15 : x1 ≠ sb) :
  MetFree l own_m20 (head1 (Jvm.Cond.code own_m20 B26 2 (some (.object j2)) :: ws) (rR 4 0 0 61)) (fun a U => a = #[(.ref sb), (.ref x1)] ∧ Z.Warmed39 U.vm ∧ U.heap = h0) (fun _ _ _ _ _ => True) (fun _ U o U' => ∃ v L, o = .returned v ∧ Qsa00 Z sb vb kv x1 t1 k1 h0 n0 v U'.heap L ∧ FrameEnd U o U' L (rR 4 0 0 61).cells (rR 4 0 0 61).slots) := by
 refine MetFree.of_bodySF (plainFor_of_name pn_4) hisR ?_
 intro p e s m args below meth cD s₁ Bd hml0 hP hK
 obtain ⟨rfl, hZ, hh⟩ := hP
 have hml : cD.maxLocals = 2 := hml0
 obtain ⟨hx, hby, (hown : s.vm.findClass j2 = some m.cls), hlk, X0, e0⟩ := own_st Bd hh
 have D := @hb _ _ hby
 have lt0 := lN P0.lt
 have lt1 := lN P1.lt
 have lt2 := lN P2.lt
 have lt3 := lN P3.lt
 have lt4 := lN P4.lt
 have lt5 := lN P5.lt
 have lt6 := lN P6.lt
 have lt7 := lN P7.lt
 have lt8 := lN P8.lt
 have nP11 := own_neN P11
 have nP12 := own_neN P12
 have nP13 := own_neN P13
 have nP14 := own_neN P14
 have nP15 := own_neN P15
 have K0 : Keep h0 h0 [sb, vb] := Keep.refl h0 _
 have Z0 := own_old_le O0
 have N0 := Fr.nil n0
 refine OwnEnd.start (g' := (mkF m 0 #[vR sb, vR x1] [])) (own_efsa00 m sb x1) ?_
 refine oo (S' := s₁.setTop (mkF m 2 #[vR sb, vR x1] [(.ref x1), (.ref sb)])) (fun _ kK => XS.aloadN X0.here hx rfl (D d20_0) rfl rfl (XS.aloadN X0.here hx rfl (D d20_1) rfl rfl kK)) ?_
 obtain ⟨_, _, ⟨T1, L1, k1, n1⟩, -, X1, ⟨Lc1, hQ1, l1, y1, z1⟩, st1⟩ := superBack X0 hx hZ hown (y := own_m19) (w_ G 66 rfl) (own_same (own_notI (w_ G 87 rfl) rfl) (w_ G 67 rfl) (by decide)) (w_ G 67 rfl) (w_ G 68 rfl) (by decide) (backOf (W := 0) (rmaa00 l Z a0 G [] sb vb kv x1 t1 k1 h0 n0 O0 P0 P1 P2 P3 P4 P5 P6 P7 P8 (by omega) (by omega) (on (by omega)) (on (by omega)) (on (by omega)) (on (by omega)) (on (by omega))) hZ (w_ G 70 rfl) (w_ G 53 rfl) (by decide) (by decide)) e0 (Ins.self P0) (g := (mkF m 2 #[vR sb, vR x1] [(.ref x1), (.ref sb)])) rfl (by rw [hml]; rfl) (w_ G 70 rfl) (argsL := [(.ref x1)]) (rest := []) (lenOf pd_11 rfl) rfl (own_z rfl) (D d20_2) (fun _ _ => ⟨rfl, e0, (ol rfl), (ol rfl)⟩)
 dsimp only [Pt.U, Pt.locs, Pt.cells, Pt.slots] at X1 l1 y1 z1 st1 hQ1
 subst l1 y1 z1
 obtain ⟨rfl, N1q, Kq1, r1_0, r1_1, r1_2, r1_3, r1_4⟩ := hQ1
 have N1 := Fr.app N0 N1q
 have sz2 := Kq1.1
 have K2 := K0.trans Kq1 (own_all2 (Or.inl (by simp)) (Or.inl (by simp)))
 have ltr1_0 := lN r1_0.lt
 have ltr1_1 := lN r1_1.lt
 have ltr1_2 := lN r1_2.lt
 have ltr1_3 := lN r1_3.lt
 have ltr1_4 := lN r1_4.lt
 refine ot (S' := T1.setTop (mkF m 5 #[vR sb, vR x1] [(.ref sb)])) st1 ?_
 refine oo (S' := T1.setTop (mkF m 7 #[vR sb, vR x1] [(.ref sb)])) (fun _ kK => XS.pop X1.here hx rfl (D d20_5) rfl rfl (XS.aloadN X1.here hx rfl (D d20_6) rfl rfl kK)) ?_
 refine OwnEnd.ret X1 (v := (some (.ref sb))) (fun h => by rw [Bd.returns] at h; cases h) hlk (fun fs hr => retOut X1 hx Bd.returns rfl (Or.inr (Or.inr (Or.inr (Or.inr ⟨rfl, rfl, rfl⟩)))) (D d20_7) hr) (by decide) (by decide) (Q := Qsa00 Z sb vb kv x1 t1 k1 h0 n0) rfl ?_
 exact ⟨rfl, N1, K2, r1_0, r1_1, r1_2, r1_3, r1_4⟩

theorem own_efgb01 (m : MethodId) (x1 : Addr) (vb : Addr) : entryFrame m #[(.ref x1), (.ref vb), (.int 0), (.int 0)] 4 = mkF m 0 #[vR x1, vR vb, vI 0, vI 0] [] := by first | (simp [entryFrame, mkF, argsToLocals, Value.category]; done) | rfl
def Qgb01 (Z : State) (x1 : Addr) (t1 : Addr) (k1 : ClassId) (w0 : Value) (vb : Addr) (kv : ClassId) (h0 : Heap) (n0 : Nat) (v : Option Value) (h : Heap) (L : List Loc) : Prop := v = none ∧ Fr n0 L ∧ Keep h0 h [vb] ∧ (Arv Z h vb kv .byte (16 : Int32) [w0, (.int 0), (.int 0), (.int 0), (.int 0), (.int 0), (.int 0), (.int 0), (.int 0), (.int 0), (.int 0), (.int 0), (.int 0), (.int 0), (.int 0), (.int 0)] (.int 0))
set_option maxRecDepth 65536 in
set_option maxHeartbeats 40000000 in
theorem rmgb01 (l : Launch) (Z : State) (a0 : Array Value) (G : OwnG Z a0) (ws : List Jvm.Cond) (x1 : Addr) (t1 : Addr) (k1 : ClassId) (w0 : Value) (vb : Addr) (kv : ClassId) (h0 : Heap) (n0 : Nat) (O0 : Old Z n0 h0) (P0 : Exa Z h0 x1 j1) (P1 : Fld Z h0 x1 j1 "value" "[B" (.ref t1)) (P2 : Fld Z h0 x1 j1 "coder" "B" (.int 0)) (P3 : Arv Z h0 t1 k1 .byte (1 : Int32) [w0] (.int 0)) (P4 : Arv Z h0 vb kv .byte (16 : Int32) [(.int 0), (.int 0), (.int 0), (.int 0), (.int 0), (.int 0), (.int 0), (.int 0), (.int 0), (.int 0), (.int 0), (.int 0), (.int 0), (.int 0), (.int 0), (.int 0)] (.int 0)) (P5 : n0 ≤ vb) (P6 : t1 ≠ vb) :
  MetFree l own_m17 (head1 (Jvm.Cond.code own_m17 B23 4 none :: ws) (rR 1 0 0 18)) (fun a U => a = #[(.ref x1), (.ref vb), (.int 0), (.int 0)] ∧ Z.Warmed39 U.vm ∧ U.heap = h0) (fun _ _ _ _ _ => True) (fun _ U o U' => ∃ v L, o = .returned v ∧ Qgb01 Z x1 t1 k1 w0 vb kv h0 n0 v U'.heap L ∧ FrameEnd U o U' L (rR 1 0 0 18).cells (rR 1 0 0 18).slots) := by
 refine MetFree.of_bodySF (plainFor_of_name pn_0) hisR ?_
 intro p e s m args below meth cD s₁ Bd hml0 hP hK
 obtain ⟨rfl, hZ, hh⟩ := hP
 have hml : cD.maxLocals = 4 := hml0
 obtain ⟨hx, hby, (hown : s.vm.findClass j1 = some m.cls), hlk, X0, e0⟩ := own_st Bd hh
 have D := @hb _ _ hby
 have lt0 := lN P0.lt
 have lt1 := lN P1.lt
 have lt2 := lN P2.lt
 have lt3 := lN P3.lt
 have lt4 := lN P4.lt
 have nP6 := own_neN P6
 have K0 : Keep h0 h0 [vb] := Keep.refl h0 _
 have Z0 := own_old_le O0
 have N0 := Fr.nil n0
 let lv1 : Array Slot := #[vR x1, vR vb, vI 0, vI 0]
 refine OwnEnd.start (g' := (mkF m 0 lv1 [])) (own_efgb01 m x1 vb) ?_
 refine oo (S' := s₁.setTop (mkF m 1 lv1 [(.ref x1)])) (fun _ kK => XS.aloadN X0.here hx rfl (D d17_0) rfl rfl kK) ?_
 obtain ⟨cq2, kq2, q2a, q2b, q2c⟩ := isOf hZ e0 P0
 obtain ⟨_, _, ⟨T2, L2, k2, n2⟩, -, X2, ⟨Lc2, hQ2, l2, y2, z2⟩, st2⟩ := X0.virtualBack hx (y := own_m5) (z := own_m5) hown (mw hZ G 76 rfl) (mw hZ G 77 rfl) (notFace_of_selects (args := #[]) (mw hZ G 79 rfl)) (mw hZ G 79 rfl) (mw hZ G 78 rfl) (by decide) (backOf (W := 0) (rmcdr0 l Z a0 G [] x1 h0 n0 O0 P2) hZ (w_ G 80 rfl) (w_ G 3 rfl) (by decide) (by decide)) q2a q2c (g := (mkF m 1 lv1 [(.ref x1)])) rfl (by rw [hml]; rfl) (Steps.refl _) (argsL := []) (rest := []) (lenOf pd_2 rfl) rfl (own_z rfl) (D d17_1) (fun _ _ => ⟨rfl, e0, (ol rfl), (ol rfl)⟩)
 dsimp only [Pt.U, Pt.locs, Pt.cells, Pt.slots] at X2 l2 y2 z2 st2 hQ2
 subst l2 y2 z2
 obtain ⟨rfl, N2q, eh2⟩ := hQ2
 have N2 := Fr.app N0 N2q
 refine ot (S' := T2.setTop (mkF m 4 lv1 [(.int 0)])) st2 ?_
 refine oo (S' := T2.setTop (mkF m 9 lv1 [(.ref x1)])) (fun _ kK => XS.iloadN X2.here hx rfl (D d17_4) rfl (XS.icmpNo X2.here hx rfl (D d17_5) rfl (teq ((by decide : (0 : Int32) = (0 : Int32)))).2 (XS.aloadN X2.here hx rfl (D d17_8) rfl rfl kK))) ?_
 obtain ⟨T3, X3, e3, st3⟩ := getF X2 hx hZ hown (host := "") (Or.inl (w_ G 20 rfl)) Via.refl eh2 P1 (g := (mkF m 9 lv1 [(.ref x1)])) rfl rfl (D d17_9)
 refine oo (S' := T3.setTop (mkF m 12 lv1 [(.ref t1)])) st3 ?_
 refine oo (S' := T3.setTop (mkF m 18 lv1 [(.ref x1), (.int 0), (.ref vb), (.int 0), (.ref t1)])) (fun _ kK => XS.iconst X3.here hx rfl (D d17_12) (XS.aloadN X3.here hx rfl (D d17_13) rfl rfl (XS.iloadN X3.here hx rfl (D d17_14) rfl (XS.iloadN X3.here hx rfl (D d17_15) rfl (XS.ishl X3.here hx rfl (D d17_16) rfl (XS.aloadN X3.here hx rfl (D d17_17) rfl rfl kK)))))) ?_
 obtain ⟨T4, X4, e4, st4⟩ := getF X3 hx hZ hown (host := "") (Or.inl (w_ G 20 rfl)) Via.refl e3 P1 (g := (mkF m 18 lv1 [(.ref x1), (.int 0), (.ref vb), (.int 0), (.ref t1)])) rfl rfl (D d17_18)
 refine oo (S' := T4.setTop (mkF m 21 lv1 [(.ref t1), (.int 0), (.ref vb), (.int 0), (.ref t1)])) st4 ?_
 obtain ⟨cl5, Ar5, q5, S5, N5', H5, G5⟩ := id P3
 refine oo (S' := T4.setTop (mkF m 22 lv1 [(.int 1), (.int 0), (.ref vb), (.int 0), (.ref t1)])) (fun _ kK => X4.arraylength hx (by rw [e4]; exact Ar5.1) (State.isArrayOf_alike hZ.alike Ar5.2.1) (g := (mkF m 21 lv1 [(.ref t1), (.int 0), (.ref vb), (.int 0), (.ref t1)])) rfl rfl (D d17_21) _ (by rw [len_of S5 N5']; exact kK)) ?_
 obtain ⟨T6, h6, L6, X6, e6, N6, Kc6, Vc6, st6⟩ := cpA X4 hx hZ hown (w_ G 105 rfl) (w_ G 108 rfl) (w_ G 106 rfl) (w_ G 107 rfl) e4 P3 P4 (us := [w0]) (Or.inl ⟨rfl, rfl⟩) (sp := (0 : Int32)) (dp := (0 : Int32)) (nn := (1 : Int32)) (by decide) (by decide) (by decide) (by decide) (by decide) rfl (Nat.le_of_ble_eq_true rfl) N2 (by omega) (g := (mkF m 22 lv1 [(.int 1), (.int 0), (.ref vb), (.int 0), (.ref t1)])) rfl (by rw [hml]; rfl) rfl (D d17_22) (by decide) (W := 0) (own_z rfl) (by decide)
 have sz7 := Kc6.1
 have K7 := K0.trans Kc6 (own_all1 (Or.inl (by simp)))
 have V6 : Arv Z h6 vb kv .byte (16 : Int32) [w0, (.int 0), (.int 0), (.int 0), (.int 0), (.int 0), (.int 0), (.int 0), (.int 0), (.int 0), (.int 0), (.int 0), (.int 0), (.int 0), (.int 0), (.int 0)] (.int 0) := Vc6
 refine oo (S' := T6.setTop (mkF m 25 lv1 [])) st6 ?_
 refine oo (S' := T6.setTop (mkF m 43 lv1 [])) (fun _ kK => XS.goto X6.here hx rfl (pc0 := 25) (pc' := 43) rfl (D d17_25) (by decide) (by decide) kK) ?_
 refine OwnEnd.ret X6 (v := none) (fun _ => rfl) hlk (fun fs hr => X6.returnOut hx Bd.returns (D d17_43) hr) (by decide) (by decide) (Q := Qgb01 Z x1 t1 k1 w0 vb kv h0 n0) e6 ?_
 exact ⟨rfl, N6, K7, V6⟩

theorem own_efps01 (m : MethodId) (sb : Addr) (x1 : Addr) : entryFrame m #[(.ref sb), (.int 0), (.ref x1)] 3 = mkF m 0 #[vR sb, vI 0, vR x1] [] := by first | (simp [entryFrame, mkF, argsToLocals, Value.category]; done) | rfl
def Qps01 (Z : State) (sb : Addr) (vb : Addr) (kv : ClassId) (x1 : Addr) (t1 : Addr) (k1 : ClassId) (w0 : Value) (h0 : Heap) (n0 : Nat) (v : Option Value) (h : Heap) (L : List Loc) : Prop := v = none ∧ Fr n0 L ∧ Keep h0 h [vb] ∧ (Arv Z h vb kv .byte (16 : Int32) [w0, (.int 0), (.int 0), (.int 0), (.int 0), (.int 0), (.int 0), (.int 0), (.int 0), (.int 0), (.int 0), (.int 0), (.int 0), (.int 0), (.int 0), (.int 0)] (.int 0))
set_option maxRecDepth 65536 in
set_option maxHeartbeats 40000000 in
theorem rmps01 (l : Launch) (Z : State) (a0 : Array Value) (G : OwnG Z a0) (ws : List Jvm.Cond) (sb : Addr) (vb : Addr) (kv : ClassId) (x1 : Addr) (t1 : Addr) (k1 : ClassId) (w0 : Value) (h0 : Heap) (n0 : Nat) (O0 : Old Z n0 h0) (P0 : Exa Z h0 sb j2) (P1 : Fld Z h0 sb j0 "value" "[B" (.ref vb)) (P2 : Fld Z h0 sb j0 "coder" "B" (.int 0)) (P3 : Fld Z h0 sb j0 "count" "I" (.int 0)) (P4 : Arv Z h0 vb kv .byte (16 : Int32) [(.int 0), (.int 0), (.int 0), (.int 0), (.int 0), (.int 0), (.int 0), (.int 0), (.int 0), (.int 0), (.int 0), (.int 0), (.int 0), (.int 0), (.int 0), (.int 0)] (.int 0)) (P5 : Exa Z h0 x1 j1) (P6 : Fld Z h0 x1 j1 "value" "[B" (.ref t1)) (P7 : Fld Z h0 x1 j1 "coder" "B" (.int 0)) (P8 : Arv Z h0 t1 k1 .byte (1 : Int32) [w0] (.int 0)) (P9 : n0 ≤ sb) (P10 : n0 ≤ vb) (P11 : sb ≠ vb) (P12 : t1 ≠ vb) (P13 : t1 ≠ sb) (P14 : x1 ≠ vb) (P15 : x1 ≠ sb) :
  MetFree l own_m18 (head1 (Jvm.Cond.code own_m18 B24 3 none :: ws) (rR 2 0 0 33)) (fun a U => a = #[(.ref sb), (.int 0), (.ref x1)] ∧ Z.Warmed39 U.vm ∧ U.heap = h0) (fun _ _ _ _ _ => True) (fun _ U o U' => ∃ v L, o = .returned v ∧ Qps01 Z sb vb kv x1 t1 k1 w0 h0 n0 v U'.heap L ∧ FrameEnd U o U' L (rR 2 0 0 33).cells (rR 2 0 0 33).slots) := by
 refine MetFree.of_bodySF (plainFor_of_name pn_3) hisR ?_
 intro p e s m args below meth cD s₁ Bd hml0 hP hK
 obtain ⟨rfl, hZ, hh⟩ := hP
 have hml : cD.maxLocals = 3 := hml0
 obtain ⟨hx, hby, (hown : s.vm.findClass j0 = some m.cls), hlk, X0, e0⟩ := own_st Bd hh
 have D := @hb _ _ hby
 have lt0 := lN P0.lt
 have lt1 := lN P1.lt
 have lt2 := lN P2.lt
 have lt3 := lN P3.lt
 have lt4 := lN P4.lt
 have lt5 := lN P5.lt
 have lt6 := lN P6.lt
 have lt7 := lN P7.lt
 have lt8 := lN P8.lt
 have nP11 := own_neN P11
 have nP12 := own_neN P12
 have nP13 := own_neN P13
 have nP14 := own_neN P14
 have nP15 := own_neN P15
 have K0 : Keep h0 h0 [vb] := Keep.refl h0 _
 have Z0 := own_old_le O0
 have N0 := Fr.nil n0
 refine OwnEnd.start (g' := (mkF m 0 #[vR sb, vI 0, vR x1] [])) (own_efps01 m sb x1) ?_
 refine oo (S' := s₁.setTop (mkF m 2 #[vR sb, vI 0, vR x1] [(.ref x1), (.ref sb)])) (fun _ kK => XS.aloadN X0.here hx rfl (D d18_0) rfl rfl (XS.aloadN X0.here hx rfl (D d18_1) rfl rfl kK)) ?_
 obtain ⟨cq1, kq1, q1a, q1b, cc1, q1d, -, q1e⟩ := isOf hZ e0 P0
 obtain ⟨_, _, ⟨T1, L1, k1, n1⟩, -, X1, ⟨Lc1, hQ1, l1, y1, z1⟩, st1⟩ := X0.privateBack hx (y := own_m16) hown (mw hZ G 94 rfl) (mw hZ G 95 rfl) (own_selP (oI (mw hZ G 87 rfl) rfl) (mw hZ G 95 rfl) (Cond.privateMethod_at (args := #[]) (mw hZ G 96 rfl)) (by decide)) (Cond.privateMethod_at (args := #[]) (mw hZ G 96 rfl)) (mw hZ G 98 rfl) (by decide) (backOf (W := 0) (rminf l Z a0 G [] sb x1 h0 n0 O0 P2 P5 P7) hZ (w_ G 98 rfl) (w_ G 53 rfl) (by decide) (by decide)) (g := (mkF m 2 #[vR sb, vI 0, vR x1] [(.ref x1), (.ref sb)])) rfl (by rw [hml]; rfl) (Steps.refl _) q1d (own_nost q1e) (argsL := [(.ref x1)]) (rest := []) (lenOf pd_8 rfl) rfl (own_z rfl) (D d18_2) (fun _ _ => ⟨rfl, e0, (ol rfl), (ol rfl)⟩)
 dsimp only [Pt.U, Pt.locs, Pt.cells, Pt.slots] at X1 l1 y1 z1 st1 hQ1
 subst l1 y1 z1
 obtain ⟨rfl, N1q, eh1⟩ := hQ1
 have N1 := Fr.app N0 N1q
 refine ot (S' := T1.setTop (mkF m 5 #[vR sb, vI 0, vR x1] [])) st1 ?_
 refine oo (S' := T1.setTop (mkF m 7 #[vR sb, vI 0, vR x1] [(.ref sb), (.ref x1)])) (fun _ kK => XS.aloadN X1.here hx rfl (D d18_5) rfl rfl (XS.aloadN X1.here hx rfl (D d18_6) rfl rfl kK)) ?_
 obtain ⟨T2, X2, e2, st2⟩ := getF X1 hx hZ hown (host := "") (Or.inl (w_ G 57 rfl)) Via.refl eh1 P1 (g := (mkF m 7 #[vR sb, vI 0, vR x1] [(.ref sb), (.ref x1)])) rfl rfl (D d18_7)
 refine oo (S' := T2.setTop (mkF m 10 #[vR sb, vI 0, vR x1] [(.ref vb), (.ref x1)])) st2 ?_
 refine oo (S' := T2.setTop (mkF m 12 #[vR sb, vI 0, vR x1] [(.ref sb), (.int 0), (.ref vb), (.ref x1)])) (fun _ kK => XS.iloadN X2.here hx rfl (D d18_10) rfl (XS.aloadN X2.here hx rfl (D d18_11) rfl rfl kK)) ?_
 obtain ⟨T3, X3, e3, st3⟩ := getF X2 hx hZ hown (host := "") (Or.inl (w_ G 59 rfl)) Via.refl e2 P2 (g := (mkF m 12 #[vR sb, vI 0, vR x1] [(.ref sb), (.int 0), (.ref vb), (.ref x1)])) rfl rfl (D d18_12)
 refine oo (S' := T3.setTop (mkF m 15 #[vR sb, vI 0, vR x1] [(.int 0), (.int 0), (.ref vb), (.ref x1)])) st3 ?_
 obtain ⟨cq4, kq4, q4a, q4b, q4c⟩ := isOf hZ e3 P5
 obtain ⟨_, _, ⟨T4, L4, k4, n4⟩, -, X4, ⟨Lc4, hQ4, l4, y4, z4⟩, st4⟩ := X3.virtualBack hx (y := own_m17) (z := own_m17) hown (mw hZ G 100 rfl) (mw hZ G 101 rfl) (notFace_of_selects (args := #[]) (mw hZ G 103 rfl)) (mw hZ G 103 rfl) (mw hZ G 102 rfl) (by decide) (backOf (W := 0) (rmgb01 l Z a0 G [] x1 t1 k1 w0 vb kv h0 n0 O0 P5 P6 P7 P8 P4 (by omega) (on (by omega))) hZ (w_ G 104 rfl) (w_ G 3 rfl) (by decide) (by decide)) q4a q4c (g := (mkF m 15 #[vR sb, vI 0, vR x1] [(.int 0), (.int 0), (.ref vb), (.ref x1)])) rfl (by rw [hml]; rfl) (Steps.refl _) (argsL := [(.ref vb), (.int 0), (.int 0)]) (rest := []) (lenOf pd_9 rfl) rfl (own_z rfl) (D d18_15) (fun _ _ => ⟨rfl, e3, (ol rfl), (ol rfl)⟩)
 dsimp only [Pt.U, Pt.locs, Pt.cells, Pt.slots] at X4 l4 y4 z4 st4 hQ4
 subst l4 y4 z4
 obtain ⟨rfl, N4q, Kq4, r4_0⟩ := hQ4
 have N4 := Fr.app N1 N4q
 have sz5 := Kq4.1
 have K5 := K0.trans Kq4 (own_all1 (Or.inl (by simp)))
 have ltr4_0 := lN r4_0.lt
 refine ot (S' := T4.setTop (mkF m 18 #[vR sb, vI 0, vR x1] [])) st4 ?_
 refine OwnEnd.ret X4 (v := none) (fun _ => rfl) hlk (fun fs hr => X4.returnOut hx Bd.returns (D d18_18) hr) (by decide) (by decide) (Q := Qps01 Z sb vb kv x1 t1 k1 w0 h0 n0) rfl ?_
 exact ⟨rfl, N4, K5, r4_0⟩

theorem own_efaa01 (m : MethodId) (sb : Addr) (x1 : Addr) : entryFrame m #[(.ref sb), (.ref x1)] 3 = mkF m 0 #[vR sb, vR x1, .unset] [] := by first | (simp [entryFrame, mkF, argsToLocals, Value.category]; done) | rfl
def Qaa01 (Z : State) (sb : Addr) (vb : Addr) (kv : ClassId) (x1 : Addr) (t1 : Addr) (k1 : ClassId) (w0 : Value) (h0 : Heap) (n0 : Nat) (v : Option Value) (h : Heap) (L : List Loc) : Prop := v = some (.ref sb) ∧ Fr n0 L ∧ Keep h0 h [sb, vb] ∧ (Exa Z h sb j2) ∧ (Fld Z h sb j0 "value" "[B" (.ref vb)) ∧ (Fld Z h sb j0 "coder" "B" (.int 0)) ∧ (Fld Z h sb j0 "count" "I" (.int 1)) ∧ (Arv Z h vb kv .byte (16 : Int32) [w0, (.int 0), (.int 0), (.int 0), (.int 0), (.int 0), (.int 0), (.int 0), (.int 0), (.int 0), (.int 0), (.int 0), (.int 0), (.int 0), (.int 0), (.int 0)] (.int 0))
set_option maxRecDepth 65536 in
set_option maxHeartbeats 40000000 in
theorem rmaa01 (l : Launch) (Z : State) (a0 : Array Value) (G : OwnG Z a0) (ws : List Jvm.Cond) (sb : Addr) (vb : Addr) (kv : ClassId) (x1 : Addr) (t1 : Addr) (k1 : ClassId) (w0 : Value) (h0 : Heap) (n0 : Nat) (O0 : Old Z n0 h0) (P0 : Exa Z h0 sb j2) (P1 : Fld Z h0 sb j0 "value" "[B" (.ref vb)) (P2 : Fld Z h0 sb j0 "coder" "B" (.int 0)) (P3 : Fld Z h0 sb j0 "count" "I" (.int 0)) (P4 : Arv Z h0 vb kv .byte (16 : Int32) [(.int 0), (.int 0), (.int 0), (.int 0), (.int 0), (.int 0), (.int 0), (.int 0), (.int 0), (.int 0), (.int 0), (.int 0), (.int 0), (.int 0), (.int 0), (.int 0)] (.int 0)) (P5 : Exa Z h0 x1 j1) (P6 : Fld Z h0 x1 j1 "value" "[B" (.ref t1)) (P7 : Fld Z h0 x1 j1 "coder" "B" (.int 0)) (P8 : Arv Z h0 t1 k1 .byte (1 : Int32) [w0] (.int 0)) (P9 : n0 ≤ sb) (P10 : n0 ≤ vb) (P11 : sb ≠ vb) (P12 : t1 ≠ vb) (P13 : t1 ≠ sb) (P14 : x1 ≠ vb) (P15 : x1 ≠ sb) :
  MetFree l own_m19 (head1 (Jvm.Cond.code own_m19 B25 3 (some (.object j0)) :: ws) (rR 3 0 0 47)) (fun a U => a = #[(.ref sb), (.ref x1)] ∧ Z.Warmed39 U.vm ∧ U.heap = h0) (fun _ _ _ _ _ => True) (fun _ U o U' => ∃ v L, o = .returned v ∧ Qaa01 Z sb vb kv x1 t1 k1 w0 h0 n0 v U'.heap L ∧ FrameEnd U o U' L (rR 3 0 0 47).cells (rR 3 0 0 47).slots) := by
 refine MetFree.of_bodySF (plainFor_of_name pn_3) hisR ?_
 intro p e s m args below meth cD s₁ Bd hml0 hP hK
 obtain ⟨rfl, hZ, hh⟩ := hP
 have hml : cD.maxLocals = 3 := hml0
 obtain ⟨hx, hby, (hown : s.vm.findClass j0 = some m.cls), hlk, X0, e0⟩ := own_st Bd hh
 have D := @hb _ _ hby
 have lt0 := lN P0.lt
 have lt1 := lN P1.lt
 have lt2 := lN P2.lt
 have lt3 := lN P3.lt
 have lt4 := lN P4.lt
 have lt5 := lN P5.lt
 have lt6 := lN P6.lt
 have lt7 := lN P7.lt
 have lt8 := lN P8.lt
 have nP11 := own_neN P11
 have nP12 := own_neN P12
 have nP13 := own_neN P13
 have nP14 := own_neN P14
 have nP15 := own_neN P15
 have K0 : Keep h0 h0 [sb, vb] := Keep.refl h0 _
 have Z0 := own_old_le O0
 have N0 := Fr.nil n0
 refine OwnEnd.start (g' := (mkF m 0 #[vR sb, vR x1, .unset] [])) (own_efaa01 m sb x1) ?_
 refine oo (S' := s₁.setTop (mkF m 10 #[vR sb, vR x1, .unset] [(.ref x1)])) (fun _ kK => XS.aloadN X0.here hx rfl (D d19_0) rfl rfl (XS.ifnonnullYes X0.here hx rfl (pc0 := 1) (pc' := 9) rfl (D d19_1) rfl (by decide) (by decide) (XS.aloadN X0.here hx rfl (D d19_9) rfl rfl kK))) ?_
 obtain ⟨cq1, kq1, q1a, q1b, q1c⟩ := isOf hZ e0 P5
 obtain ⟨_, _, ⟨T1, L1, k1, n1⟩, -, X1, ⟨Lc1, hQ1, l1, y1, z1⟩, st1⟩ := X0.virtualBack hx (y := own_m6) (z := own_m6) hown (mw hZ G 71 rfl) (mw hZ G 72 rfl) (notFace_of_selects (args := #[]) (mw hZ G 74 rfl)) (mw hZ G 74 rfl) (mw hZ G 73 rfl) (by decide) (backOf (W := 0) (rmln0 l Z a0 G [] x1 t1 k1 (1 : Int32) [w0] (.int 0) h0 n0 O0 P5 P6 P7 P8) hZ (w_ G 75 rfl) (w_ G 3 rfl) (by decide) (by decide)) q1a q1c (g := (mkF m 10 #[vR sb, vR x1, .unset] [(.ref x1)])) rfl (by rw [hml]; rfl) (Steps.refl _) (argsL := []) (rest := []) (lenOf pd_7 rfl) rfl (own_z rfl) (D d19_10) (fun _ _ => ⟨rfl, e0, (ol rfl), (ol rfl)⟩)
 dsimp only [Pt.U, Pt.locs, Pt.cells, Pt.slots] at X1 l1 y1 z1 st1 hQ1
 subst l1 y1 z1
 obtain ⟨rfl, N1q, eh1⟩ := hQ1
 have N1 := Fr.app N0 N1q
 refine ot (S' := T1.setTop (mkF m 13 #[vR sb, vR x1, .unset] [(.int 1)])) st1 ?_
 refine oo (S' := T1.setTop (mkF m 16 #[vR sb, vR x1, vI 1] [(.ref sb), (.ref sb)])) (fun _ kK => XS.istoreN X1.here hx rfl (D d19_13) rfl (l' := #[vR sb, vR x1, vI 1]) rfl (XS.aloadN X1.here hx rfl (D d19_14) rfl rfl (XS.aloadN X1.here hx rfl (D d19_15) rfl rfl kK))) ?_
 obtain ⟨T2, X2, e2, st2⟩ := getF X1 hx hZ hown (host := "") (Or.inl (w_ G 82 rfl)) Via.refl eh1 P3 (g := (mkF m 16 #[vR sb, vR x1, vI 1] [(.ref sb), (.ref sb)])) rfl rfl (D d19_16)
 refine oo (S' := T2.setTop (mkF m 19 #[vR sb, vR x1, vI 1] [(.int 0), (.ref sb)])) st2 ?_
 refine oo (S' := T2.setTop (mkF m 21 #[vR sb, vR x1, vI 1] [(.int 1), (.ref sb)])) (fun _ kK => XS.iloadN X2.here hx rfl (D d19_19) rfl (XS.iadd X2.here hx rfl (D d19_20) rfl kK)) ?_
 obtain ⟨cq3, kq3, q3a, q3b, cc3, q3d, -, q3e⟩ := isOf hZ e2 P0
 obtain ⟨_, _, ⟨T3, L3, k3, n3⟩, -, X3, ⟨Lc3, hQ3, l3, y3, z3⟩, st3⟩ := X2.privateBack hx (y := own_m12) hown (mw hZ G 84 rfl) (mw hZ G 85 rfl) (own_selP (oI (mw hZ G 87 rfl) rfl) (mw hZ G 85 rfl) (Cond.privateMethod_at (args := #[]) (mw hZ G 86 rfl)) (by decide)) (Cond.privateMethod_at (args := #[]) (mw hZ G 86 rfl)) (mw hZ G 88 rfl) (by decide) (backOf (W := 0) (rmec l Z a0 G [] sb vb kv [(.int 0), (.int 0), (.int 0), (.int 0), (.int 0), (.int 0), (.int 0), (.int 0), (.int 0), (.int 0), (.int 0), (.int 0), (.int 0), (.int 0), (.int 0), (.int 0)] (1 : Int32) h0 n0 O0 P1 P2 P4 (by decide)) hZ (w_ G 88 rfl) (w_ G 53 rfl) (by decide) (by decide)) (g := (mkF m 21 #[vR sb, vR x1, vI 1] [(.int 1), (.ref sb)])) rfl (by rw [hml]; rfl) (Steps.refl _) q3d (own_nost q3e) (argsL := [(.int 1)]) (rest := []) (lenOf pd_6 rfl) rfl (own_z rfl) (D d19_21) (fun _ _ => ⟨rfl, e2, (ol rfl), (ol rfl)⟩)
 dsimp only [Pt.U, Pt.locs, Pt.cells, Pt.slots] at X3 l3 y3 z3 st3 hQ3
 subst l3 y3 z3
 obtain ⟨rfl, N3q, eh3⟩ := hQ3
 have N3 := Fr.app N1 N3q
 refine ot (S' := T3.setTop (mkF m 24 #[vR sb, vR x1, vI 1] [])) st3 ?_
 refine oo (S' := T3.setTop (mkF m 26 #[vR sb, vR x1, vI 1] [(.ref sb), (.ref sb)])) (fun _ kK => XS.aloadN X3.here hx rfl (D d19_24) rfl rfl (XS.aloadN X3.here hx rfl (D d19_25) rfl rfl kK)) ?_
 obtain ⟨T4, X4, e4, st4⟩ := getF X3 hx hZ hown (host := "") (Or.inl (w_ G 82 rfl)) Via.refl eh3 P3 (g := (mkF m 26 #[vR sb, vR x1, vI 1] [(.ref sb), (.ref sb)])) rfl rfl (D d19_26)
 refine oo (S' := T4.setTop (mkF m 29 #[vR sb, vR x1, vI 1] [(.int 0), (.ref sb)])) st4 ?_
 refine oo (S' := T4.setTop (mkF m 30 #[vR sb, vR x1, vI 1] [(.ref x1), (.int 0), (.ref sb)])) (fun _ kK => XS.aloadN X4.here hx rfl (D d19_29) rfl rfl kK) ?_
 obtain ⟨cq5, kq5, q5a, q5b, cc5, q5d, -, q5e⟩ := isOf hZ e4 P0
 obtain ⟨_, _, ⟨T5, L5, k5, n5⟩, -, X5, ⟨Lc5, hQ5, l5, y5, z5⟩, st5⟩ := X4.privateBack hx (y := own_m18) hown (mw hZ G 89 rfl) (mw hZ G 90 rfl) (own_selP (oI (mw hZ G 87 rfl) rfl) (mw hZ G 90 rfl) (Cond.privateMethod_at (args := #[]) (mw hZ G 91 rfl)) (by decide)) (Cond.privateMethod_at (args := #[]) (mw hZ G 91 rfl)) (mw hZ G 93 rfl) (by decide) (backOf (W := 0) (rmps01 l Z a0 G [] sb vb kv x1 t1 k1 w0 h0 n0 O0 P0 P1 P2 P3 P4 P5 P6 P7 P8 (by omega) (by omega) (on (by omega)) (on (by omega)) (on (by omega)) (on (by omega)) (on (by omega))) hZ (w_ G 93 rfl) (w_ G 53 rfl) (by decide) (by decide)) (g := (mkF m 30 #[vR sb, vR x1, vI 1] [(.ref x1), (.int 0), (.ref sb)])) rfl (by rw [hml]; rfl) (Steps.refl _) q5d (own_nost q5e) (argsL := [(.int 0), (.ref x1)]) (rest := []) (lenOf pd_10 rfl) rfl (own_z rfl) (D d19_30) (fun _ _ => ⟨rfl, e4, (ol rfl), (ol rfl)⟩)
 dsimp only [Pt.U, Pt.locs, Pt.cells, Pt.slots] at X5 l5 y5 z5 st5 hQ5
 subst l5 y5 z5
 obtain ⟨rfl, N5q, Kq5, r5_0⟩ := hQ5
 have N5 := Fr.app N3 N5q
 have sz6 := Kq5.1
 have K6 := K0.trans Kq5 (own_all1 (Or.inl (by simp)))
 have ltr5_0 := lN r5_0.lt
 refine ot (S' := T5.setTop (mkF m 33 #[vR sb, vR x1, vI 1] [])) st5 ?_
 refine oo (S' := T5.setTop (mkF m 35 #[vR sb, vR x1, vI 1] [(.ref sb), (.ref sb)])) (fun _ kK => XS.aloadN X5.here hx rfl (D d19_33) rfl rfl (XS.dup X5.here hx rfl (D d19_34) rfl rfl kK)) ?_
 have f8 := (P3.keep Kq5 (own_nin1 (on (by omega))))
 obtain ⟨T7, X7, e7, st7⟩ := getF X5 hx hZ hown (host := "") (Or.inl (w_ G 82 rfl)) Via.refl rfl f8 (g := (mkF m 35 #[vR sb, vR x1, vI 1] [(.ref sb), (.ref sb)])) rfl rfl (D d19_35)
 refine oo (S' := T7.setTop (mkF m 38 #[vR sb, vR x1, vI 1] [(.int 0), (.ref sb)])) st7 ?_
 refine oo (S' := T7.setTop (mkF m 40 #[vR sb, vR x1, vI 1] [(.int 1), (.ref sb)])) (fun _ kK => XS.iloadN X7.here hx rfl (D d19_38) rfl (XS.iadd X7.here hx rfl (D d19_39) rfl kK)) ?_
 have f10 := (P0.keep Kq5)
 obtain ⟨T9, h9, X9, e9, W9, st9⟩ := putF X7 hx hZ hown (host := "") (Or.inl (w_ G 82 rfl)) Via.refl e7 f8 f10 (Or.inl (w_ G 83 rfl)) (w_ G 44 rfl) (ty := .int) (by decide) rfl rfl (g := (mkF m 40 #[vR sb, vR x1, vI 1] [(.int 1), (.ref sb)])) rfl rfl (D d19_40)
 have Fw9 := f8.same W9
 have N9 := Fr.snoc X9 N5 (by omega)
 have sz11 := own_wr_le W9
 have K11 := K6.wr W9 (Or.inl (by simp))
 refine oo (S' := T9.setTop (mkF m 43 #[vR sb, vR x1, vI 1] [])) st9 ?_
 refine oo (S' := T9.setTop (mkF m 44 #[vR sb, vR x1, vI 1] [(.ref sb)])) (fun _ kK => XS.aloadN X9.here hx rfl (D d19_43) rfl rfl kK) ?_
 have f12 := (f10.wr W9)
 have f13 := ((P1.keep Kq5 (own_nin1 (on (by omega)))).other W9 (Or.inr (slot_ne (Or.inl (w_ G 58 rfl)) (Or.inl (w_ G 83 rfl)) (by decide) (t := (.array .byte)) (t' := .int) (by decide) (by decide))))
 have f14 := ((P2.keep Kq5 (own_nin1 (on (by omega)))).other W9 (Or.inr (slot_ne (Or.inl (w_ G 60 rfl)) (Or.inl (w_ G 83 rfl)) (by decide) (t := .byte) (t' := .int) (by decide) (by decide))))
 have f15 := (r5_0.other W9 (on (by omega)))
 refine OwnEnd.ret X9 (v := (some (.ref sb))) (fun h => by rw [Bd.returns] at h; cases h) hlk (fun fs hr => retOut X9 hx Bd.returns rfl (Or.inr (Or.inr (Or.inr (Or.inr ⟨rfl, rfl, rfl⟩)))) (D d19_44) hr) (by decide) (by decide) (Q := Qaa01 Z sb vb kv x1 t1 k1 w0 h0 n0) e9 ?_
 exact ⟨rfl, N9, K11, f12, f13, f14, Fw9, f15⟩

theorem own_efsa01 (m : MethodId) (sb : Addr) (x1 : Addr) : entryFrame m #[(.ref sb), (.ref x1)] 2 = mkF m 0 #[vR sb, vR x1] [] := by first | (simp [entryFrame, mkF, argsToLocals, Value.category]; done) | rfl
def Qsa01 (Z : State) (sb : Addr) (vb : Addr) (kv : ClassId) (x1 : Addr) (t1 : Addr) (k1 : ClassId) (w0 : Value) (h0 : Heap) (n0 : Nat) (v : Option Value) (h : Heap) (L : List Loc) : Prop := v = some (.ref sb) ∧ Fr n0 L ∧ Keep h0 h [sb, vb] ∧ (Exa Z h sb j2) ∧ (Fld Z h sb j0 "value" "[B" (.ref vb)) ∧ (Fld Z h sb j0 "coder" "B" (.int 0)) ∧ (Fld Z h sb j0 "count" "I" (.int 1)) ∧ (Arv Z h vb kv .byte (16 : Int32) [w0, (.int 0), (.int 0), (.int 0), (.int 0), (.int 0), (.int 0), (.int 0), (.int 0), (.int 0), (.int 0), (.int 0), (.int 0), (.int 0), (.int 0), (.int 0)] (.int 0))
set_option maxRecDepth 65536 in
set_option maxHeartbeats 40000000 in
theorem rmsa01 (l : Launch) (Z : State) (a0 : Array Value) (G : OwnG Z a0) (ws : List Jvm.Cond) (sb : Addr) (vb : Addr) (kv : ClassId) (x1 : Addr) (t1 : Addr) (k1 : ClassId) (w0 : Value) (h0 : Heap) (n0 : Nat) (O0 : Old Z n0 h0) (P0 : Exa Z h0 sb j2) (P1 : Fld Z h0 sb j0 "value" "[B" (.ref vb)) (P2 : Fld Z h0 sb j0 "coder" "B" (.int 0)) (P3 : Fld Z h0 sb j0 "count" "I" (.int 0)) (P4 : Arv Z h0 vb kv .byte (16 : Int32) [(.int 0), (.int 0), (.int 0), (.int 0), (.int 0), (.int 0), (.int 0), (.int 0), (.int 0), (.int 0), (.int 0), (.int 0), (.int 0), (.int 0), (.int 0), (.int 0)] (.int 0)) (P5 : Exa Z h0 x1 j1) (P6 : Fld Z h0 x1 j1 "value" "[B" (.ref t1)) (P7 : Fld Z h0 x1 j1 "coder" "B" (.int 0)) (P8 : Arv Z h0 t1 k1 .byte (1 : Int32) [w0] (.int 0)) (P9 : n0 ≤ sb) (P10 : n0 ≤ vb) (P11 : sb ≠ vb) (P12 : t1 ≠ vb) (P13 : t1 ≠ sb) (P14 : x1 ≠ vb) (P15 : x1 ≠ sb) :
  MetFree l own_m20 (head1 (Jvm.Cond.code own_m20 B26 2 (some (.object j2)) :: ws) (rR 4 0 0 61)) (fun a U => a = #[(.ref sb), (.ref x1)] ∧ Z.Warmed39 U.vm ∧ U.heap = h0) (fun _ _ _ _ _ => True) (fun _ U o U' => ∃ v L, o = .returned v ∧ Qsa01 Z sb vb kv x1 t1 k1 w0 h0 n0 v U'.heap L ∧ FrameEnd U o U' L (rR 4 0 0 61).cells (rR 4 0 0 61).slots) := by
 refine MetFree.of_bodySF (plainFor_of_name pn_4) hisR ?_
 intro p e s m args below meth cD s₁ Bd hml0 hP hK
 obtain ⟨rfl, hZ, hh⟩ := hP
 have hml : cD.maxLocals = 2 := hml0
 obtain ⟨hx, hby, (hown : s.vm.findClass j2 = some m.cls), hlk, X0, e0⟩ := own_st Bd hh
 have D := @hb _ _ hby
 have lt0 := lN P0.lt
 have lt1 := lN P1.lt
 have lt2 := lN P2.lt
 have lt3 := lN P3.lt
 have lt4 := lN P4.lt
 have lt5 := lN P5.lt
 have lt6 := lN P6.lt
 have lt7 := lN P7.lt
 have lt8 := lN P8.lt
 have nP11 := own_neN P11
 have nP12 := own_neN P12
 have nP13 := own_neN P13
 have nP14 := own_neN P14
 have nP15 := own_neN P15
 have K0 : Keep h0 h0 [sb, vb] := Keep.refl h0 _
 have Z0 := own_old_le O0
 have N0 := Fr.nil n0
 refine OwnEnd.start (g' := (mkF m 0 #[vR sb, vR x1] [])) (own_efsa01 m sb x1) ?_
 refine oo (S' := s₁.setTop (mkF m 2 #[vR sb, vR x1] [(.ref x1), (.ref sb)])) (fun _ kK => XS.aloadN X0.here hx rfl (D d20_0) rfl rfl (XS.aloadN X0.here hx rfl (D d20_1) rfl rfl kK)) ?_
 obtain ⟨_, _, ⟨T1, L1, k1, n1⟩, -, X1, ⟨Lc1, hQ1, l1, y1, z1⟩, st1⟩ := superBack X0 hx hZ hown (y := own_m19) (w_ G 66 rfl) (own_same (own_notI (w_ G 87 rfl) rfl) (w_ G 67 rfl) (by decide)) (w_ G 67 rfl) (w_ G 68 rfl) (by decide) (backOf (W := 0) (rmaa01 l Z a0 G [] sb vb kv x1 t1 k1 w0 h0 n0 O0 P0 P1 P2 P3 P4 P5 P6 P7 P8 (by omega) (by omega) (on (by omega)) (on (by omega)) (on (by omega)) (on (by omega)) (on (by omega))) hZ (w_ G 70 rfl) (w_ G 53 rfl) (by decide) (by decide)) e0 (Ins.self P0) (g := (mkF m 2 #[vR sb, vR x1] [(.ref x1), (.ref sb)])) rfl (by rw [hml]; rfl) (w_ G 70 rfl) (argsL := [(.ref x1)]) (rest := []) (lenOf pd_11 rfl) rfl (own_z rfl) (D d20_2) (fun _ _ => ⟨rfl, e0, (ol rfl), (ol rfl)⟩)
 dsimp only [Pt.U, Pt.locs, Pt.cells, Pt.slots] at X1 l1 y1 z1 st1 hQ1
 subst l1 y1 z1
 obtain ⟨rfl, N1q, Kq1, r1_0, r1_1, r1_2, r1_3, r1_4⟩ := hQ1
 have N1 := Fr.app N0 N1q
 have sz2 := Kq1.1
 have K2 := K0.trans Kq1 (own_all2 (Or.inl (by simp)) (Or.inl (by simp)))
 have ltr1_0 := lN r1_0.lt
 have ltr1_1 := lN r1_1.lt
 have ltr1_2 := lN r1_2.lt
 have ltr1_3 := lN r1_3.lt
 have ltr1_4 := lN r1_4.lt
 refine ot (S' := T1.setTop (mkF m 5 #[vR sb, vR x1] [(.ref sb)])) st1 ?_
 refine oo (S' := T1.setTop (mkF m 7 #[vR sb, vR x1] [(.ref sb)])) (fun _ kK => XS.pop X1.here hx rfl (D d20_5) rfl rfl (XS.aloadN X1.here hx rfl (D d20_6) rfl rfl kK)) ?_
 refine OwnEnd.ret X1 (v := (some (.ref sb))) (fun h => by rw [Bd.returns] at h; cases h) hlk (fun fs hr => retOut X1 hx Bd.returns rfl (Or.inr (Or.inr (Or.inr (Or.inr ⟨rfl, rfl, rfl⟩)))) (D d20_7) hr) (by decide) (by decide) (Q := Qsa01 Z sb vb kv x1 t1 k1 w0 h0 n0) rfl ?_
 exact ⟨rfl, N1, K2, r1_0, r1_1, r1_2, r1_3, r1_4⟩

theorem own_efgb02 (m : MethodId) (x1 : Addr) (vb : Addr) : entryFrame m #[(.ref x1), (.ref vb), (.int 0), (.int 0)] 4 = mkF m 0 #[vR x1, vR vb, vI 0, vI 0] [] := by first | (simp [entryFrame, mkF, argsToLocals, Value.category]; done) | rfl
def Qgb02 (Z : State) (x1 : Addr) (t1 : Addr) (k1 : ClassId) (w0 : Value) (w1 : Value) (vb : Addr) (kv : ClassId) (h0 : Heap) (n0 : Nat) (v : Option Value) (h : Heap) (L : List Loc) : Prop := v = none ∧ Fr n0 L ∧ Keep h0 h [vb] ∧ (Arv Z h vb kv .byte (16 : Int32) [w0, w1, (.int 0), (.int 0), (.int 0), (.int 0), (.int 0), (.int 0), (.int 0), (.int 0), (.int 0), (.int 0), (.int 0), (.int 0), (.int 0), (.int 0)] (.int 0))
set_option maxRecDepth 65536 in
set_option maxHeartbeats 40000000 in
theorem rmgb02 (l : Launch) (Z : State) (a0 : Array Value) (G : OwnG Z a0) (ws : List Jvm.Cond) (x1 : Addr) (t1 : Addr) (k1 : ClassId) (w0 : Value) (w1 : Value) (vb : Addr) (kv : ClassId) (h0 : Heap) (n0 : Nat) (O0 : Old Z n0 h0) (P0 : Exa Z h0 x1 j1) (P1 : Fld Z h0 x1 j1 "value" "[B" (.ref t1)) (P2 : Fld Z h0 x1 j1 "coder" "B" (.int 0)) (P3 : Arv Z h0 t1 k1 .byte (2 : Int32) [w0, w1] (.int 0)) (P4 : Arv Z h0 vb kv .byte (16 : Int32) [(.int 0), (.int 0), (.int 0), (.int 0), (.int 0), (.int 0), (.int 0), (.int 0), (.int 0), (.int 0), (.int 0), (.int 0), (.int 0), (.int 0), (.int 0), (.int 0)] (.int 0)) (P5 : n0 ≤ vb) (P6 : t1 ≠ vb) :
  MetFree l own_m17 (head1 (Jvm.Cond.code own_m17 B23 4 none :: ws) (rR 1 0 0 18)) (fun a U => a = #[(.ref x1), (.ref vb), (.int 0), (.int 0)] ∧ Z.Warmed39 U.vm ∧ U.heap = h0) (fun _ _ _ _ _ => True) (fun _ U o U' => ∃ v L, o = .returned v ∧ Qgb02 Z x1 t1 k1 w0 w1 vb kv h0 n0 v U'.heap L ∧ FrameEnd U o U' L (rR 1 0 0 18).cells (rR 1 0 0 18).slots) := by
 refine MetFree.of_bodySF (plainFor_of_name pn_0) hisR ?_
 intro p e s m args below meth cD s₁ Bd hml0 hP hK
 obtain ⟨rfl, hZ, hh⟩ := hP
 have hml : cD.maxLocals = 4 := hml0
 obtain ⟨hx, hby, (hown : s.vm.findClass j1 = some m.cls), hlk, X0, e0⟩ := own_st Bd hh
 have D := @hb _ _ hby
 have lt0 := lN P0.lt
 have lt1 := lN P1.lt
 have lt2 := lN P2.lt
 have lt3 := lN P3.lt
 have lt4 := lN P4.lt
 have nP6 := own_neN P6
 have K0 : Keep h0 h0 [vb] := Keep.refl h0 _
 have Z0 := own_old_le O0
 have N0 := Fr.nil n0
 let lv1 : Array Slot := #[vR x1, vR vb, vI 0, vI 0]
 refine OwnEnd.start (g' := (mkF m 0 lv1 [])) (own_efgb02 m x1 vb) ?_
 refine oo (S' := s₁.setTop (mkF m 1 lv1 [(.ref x1)])) (fun _ kK => XS.aloadN X0.here hx rfl (D d17_0) rfl rfl kK) ?_
 obtain ⟨cq2, kq2, q2a, q2b, q2c⟩ := isOf hZ e0 P0
 obtain ⟨_, _, ⟨T2, L2, k2, n2⟩, -, X2, ⟨Lc2, hQ2, l2, y2, z2⟩, st2⟩ := X0.virtualBack hx (y := own_m5) (z := own_m5) hown (mw hZ G 76 rfl) (mw hZ G 77 rfl) (notFace_of_selects (args := #[]) (mw hZ G 79 rfl)) (mw hZ G 79 rfl) (mw hZ G 78 rfl) (by decide) (backOf (W := 0) (rmcdr0 l Z a0 G [] x1 h0 n0 O0 P2) hZ (w_ G 80 rfl) (w_ G 3 rfl) (by decide) (by decide)) q2a q2c (g := (mkF m 1 lv1 [(.ref x1)])) rfl (by rw [hml]; rfl) (Steps.refl _) (argsL := []) (rest := []) (lenOf pd_2 rfl) rfl (own_z rfl) (D d17_1) (fun _ _ => ⟨rfl, e0, (ol rfl), (ol rfl)⟩)
 dsimp only [Pt.U, Pt.locs, Pt.cells, Pt.slots] at X2 l2 y2 z2 st2 hQ2
 subst l2 y2 z2
 obtain ⟨rfl, N2q, eh2⟩ := hQ2
 have N2 := Fr.app N0 N2q
 refine ot (S' := T2.setTop (mkF m 4 lv1 [(.int 0)])) st2 ?_
 refine oo (S' := T2.setTop (mkF m 9 lv1 [(.ref x1)])) (fun _ kK => XS.iloadN X2.here hx rfl (D d17_4) rfl (XS.icmpNo X2.here hx rfl (D d17_5) rfl (teq ((by decide : (0 : Int32) = (0 : Int32)))).2 (XS.aloadN X2.here hx rfl (D d17_8) rfl rfl kK))) ?_
 obtain ⟨T3, X3, e3, st3⟩ := getF X2 hx hZ hown (host := "") (Or.inl (w_ G 20 rfl)) Via.refl eh2 P1 (g := (mkF m 9 lv1 [(.ref x1)])) rfl rfl (D d17_9)
 refine oo (S' := T3.setTop (mkF m 12 lv1 [(.ref t1)])) st3 ?_
 refine oo (S' := T3.setTop (mkF m 18 lv1 [(.ref x1), (.int 0), (.ref vb), (.int 0), (.ref t1)])) (fun _ kK => XS.iconst X3.here hx rfl (D d17_12) (XS.aloadN X3.here hx rfl (D d17_13) rfl rfl (XS.iloadN X3.here hx rfl (D d17_14) rfl (XS.iloadN X3.here hx rfl (D d17_15) rfl (XS.ishl X3.here hx rfl (D d17_16) rfl (XS.aloadN X3.here hx rfl (D d17_17) rfl rfl kK)))))) ?_
 obtain ⟨T4, X4, e4, st4⟩ := getF X3 hx hZ hown (host := "") (Or.inl (w_ G 20 rfl)) Via.refl e3 P1 (g := (mkF m 18 lv1 [(.ref x1), (.int 0), (.ref vb), (.int 0), (.ref t1)])) rfl rfl (D d17_18)
 refine oo (S' := T4.setTop (mkF m 21 lv1 [(.ref t1), (.int 0), (.ref vb), (.int 0), (.ref t1)])) st4 ?_
 obtain ⟨cl5, Ar5, q5, S5, N5', H5, G5⟩ := id P3
 refine oo (S' := T4.setTop (mkF m 22 lv1 [(.int 2), (.int 0), (.ref vb), (.int 0), (.ref t1)])) (fun _ kK => X4.arraylength hx (by rw [e4]; exact Ar5.1) (State.isArrayOf_alike hZ.alike Ar5.2.1) (g := (mkF m 21 lv1 [(.ref t1), (.int 0), (.ref vb), (.int 0), (.ref t1)])) rfl rfl (D d17_21) _ (by rw [len_of S5 N5']; exact kK)) ?_
 obtain ⟨T6, h6, L6, X6, e6, N6, Kc6, Vc6, st6⟩ := cpA X4 hx hZ hown (w_ G 105 rfl) (w_ G 108 rfl) (w_ G 106 rfl) (w_ G 107 rfl) e4 P3 P4 (us := [w0, w1]) (Or.inl ⟨rfl, rfl⟩) (sp := (0 : Int32)) (dp := (0 : Int32)) (nn := (2 : Int32)) (by decide) (by decide) (by decide) (by decide) (by decide) rfl (Nat.le_of_ble_eq_true rfl) N2 (by omega) (g := (mkF m 22 lv1 [(.int 2), (.int 0), (.ref vb), (.int 0), (.ref t1)])) rfl (by rw [hml]; rfl) rfl (D d17_22) (by decide) (W := 0) (own_z rfl) (by decide)
 have sz7 := Kc6.1
 have K7 := K0.trans Kc6 (own_all1 (Or.inl (by simp)))
 have V6 : Arv Z h6 vb kv .byte (16 : Int32) [w0, w1, (.int 0), (.int 0), (.int 0), (.int 0), (.int 0), (.int 0), (.int 0), (.int 0), (.int 0), (.int 0), (.int 0), (.int 0), (.int 0), (.int 0)] (.int 0) := Vc6
 refine oo (S' := T6.setTop (mkF m 25 lv1 [])) st6 ?_
 refine oo (S' := T6.setTop (mkF m 43 lv1 [])) (fun _ kK => XS.goto X6.here hx rfl (pc0 := 25) (pc' := 43) rfl (D d17_25) (by decide) (by decide) kK) ?_
 refine OwnEnd.ret X6 (v := none) (fun _ => rfl) hlk (fun fs hr => X6.returnOut hx Bd.returns (D d17_43) hr) (by decide) (by decide) (Q := Qgb02 Z x1 t1 k1 w0 w1 vb kv h0 n0) e6 ?_
 exact ⟨rfl, N6, K7, V6⟩

theorem own_efps02 (m : MethodId) (sb : Addr) (x1 : Addr) : entryFrame m #[(.ref sb), (.int 0), (.ref x1)] 3 = mkF m 0 #[vR sb, vI 0, vR x1] [] := by first | (simp [entryFrame, mkF, argsToLocals, Value.category]; done) | rfl
def Qps02 (Z : State) (sb : Addr) (vb : Addr) (kv : ClassId) (x1 : Addr) (t1 : Addr) (k1 : ClassId) (w0 : Value) (w1 : Value) (h0 : Heap) (n0 : Nat) (v : Option Value) (h : Heap) (L : List Loc) : Prop := v = none ∧ Fr n0 L ∧ Keep h0 h [vb] ∧ (Arv Z h vb kv .byte (16 : Int32) [w0, w1, (.int 0), (.int 0), (.int 0), (.int 0), (.int 0), (.int 0), (.int 0), (.int 0), (.int 0), (.int 0), (.int 0), (.int 0), (.int 0), (.int 0)] (.int 0))
set_option maxRecDepth 65536 in
set_option maxHeartbeats 40000000 in
theorem rmps02 (l : Launch) (Z : State) (a0 : Array Value) (G : OwnG Z a0) (ws : List Jvm.Cond) (sb : Addr) (vb : Addr) (kv : ClassId) (x1 : Addr) (t1 : Addr) (k1 : ClassId) (w0 : Value) (w1 : Value) (h0 : Heap) (n0 : Nat) (O0 : Old Z n0 h0) (P0 : Exa Z h0 sb j2) (P1 : Fld Z h0 sb j0 "value" "[B" (.ref vb)) (P2 : Fld Z h0 sb j0 "coder" "B" (.int 0)) (P3 : Fld Z h0 sb j0 "count" "I" (.int 0)) (P4 : Arv Z h0 vb kv .byte (16 : Int32) [(.int 0), (.int 0), (.int 0), (.int 0), (.int 0), (.int 0), (.int 0), (.int 0), (.int 0), (.int 0), (.int 0), (.int 0), (.int 0), (.int 0), (.int 0), (.int 0)] (.int 0)) (P5 : Exa Z h0 x1 j1) (P6 : Fld Z h0 x1 j1 "value" "[B" (.ref t1)) (P7 : Fld Z h0 x1 j1 "coder" "B" (.int 0)) (P8 : Arv Z h0 t1 k1 .byte (2 : Int32) [w0, w1] (.int 0)) (P9 : n0 ≤ sb) (P10 : n0 ≤ vb) (P11 : sb ≠ vb) (P12 : t1 ≠ vb) (P13 : t1 ≠ sb) (P14 : x1 ≠ vb) (P15 : x1 ≠ sb) :
  MetFree l own_m18 (head1 (Jvm.Cond.code own_m18 B24 3 none :: ws) (rR 2 0 0 33)) (fun a U => a = #[(.ref sb), (.int 0), (.ref x1)] ∧ Z.Warmed39 U.vm ∧ U.heap = h0) (fun _ _ _ _ _ => True) (fun _ U o U' => ∃ v L, o = .returned v ∧ Qps02 Z sb vb kv x1 t1 k1 w0 w1 h0 n0 v U'.heap L ∧ FrameEnd U o U' L (rR 2 0 0 33).cells (rR 2 0 0 33).slots) := by
 refine MetFree.of_bodySF (plainFor_of_name pn_3) hisR ?_
 intro p e s m args below meth cD s₁ Bd hml0 hP hK
 obtain ⟨rfl, hZ, hh⟩ := hP
 have hml : cD.maxLocals = 3 := hml0
 obtain ⟨hx, hby, (hown : s.vm.findClass j0 = some m.cls), hlk, X0, e0⟩ := own_st Bd hh
 have D := @hb _ _ hby
 have lt0 := lN P0.lt
 have lt1 := lN P1.lt
 have lt2 := lN P2.lt
 have lt3 := lN P3.lt
 have lt4 := lN P4.lt
 have lt5 := lN P5.lt
 have lt6 := lN P6.lt
 have lt7 := lN P7.lt
 have lt8 := lN P8.lt
 have nP11 := own_neN P11
 have nP12 := own_neN P12
 have nP13 := own_neN P13
 have nP14 := own_neN P14
 have nP15 := own_neN P15
 have K0 : Keep h0 h0 [vb] := Keep.refl h0 _
 have Z0 := own_old_le O0
 have N0 := Fr.nil n0
 refine OwnEnd.start (g' := (mkF m 0 #[vR sb, vI 0, vR x1] [])) (own_efps02 m sb x1) ?_
 refine oo (S' := s₁.setTop (mkF m 2 #[vR sb, vI 0, vR x1] [(.ref x1), (.ref sb)])) (fun _ kK => XS.aloadN X0.here hx rfl (D d18_0) rfl rfl (XS.aloadN X0.here hx rfl (D d18_1) rfl rfl kK)) ?_
 obtain ⟨cq1, kq1, q1a, q1b, cc1, q1d, -, q1e⟩ := isOf hZ e0 P0
 obtain ⟨_, _, ⟨T1, L1, k1, n1⟩, -, X1, ⟨Lc1, hQ1, l1, y1, z1⟩, st1⟩ := X0.privateBack hx (y := own_m16) hown (mw hZ G 94 rfl) (mw hZ G 95 rfl) (own_selP (oI (mw hZ G 87 rfl) rfl) (mw hZ G 95 rfl) (Cond.privateMethod_at (args := #[]) (mw hZ G 96 rfl)) (by decide)) (Cond.privateMethod_at (args := #[]) (mw hZ G 96 rfl)) (mw hZ G 98 rfl) (by decide) (backOf (W := 0) (rminf l Z a0 G [] sb x1 h0 n0 O0 P2 P5 P7) hZ (w_ G 98 rfl) (w_ G 53 rfl) (by decide) (by decide)) (g := (mkF m 2 #[vR sb, vI 0, vR x1] [(.ref x1), (.ref sb)])) rfl (by rw [hml]; rfl) (Steps.refl _) q1d (own_nost q1e) (argsL := [(.ref x1)]) (rest := []) (lenOf pd_8 rfl) rfl (own_z rfl) (D d18_2) (fun _ _ => ⟨rfl, e0, (ol rfl), (ol rfl)⟩)
 dsimp only [Pt.U, Pt.locs, Pt.cells, Pt.slots] at X1 l1 y1 z1 st1 hQ1
 subst l1 y1 z1
 obtain ⟨rfl, N1q, eh1⟩ := hQ1
 have N1 := Fr.app N0 N1q
 refine ot (S' := T1.setTop (mkF m 5 #[vR sb, vI 0, vR x1] [])) st1 ?_
 refine oo (S' := T1.setTop (mkF m 7 #[vR sb, vI 0, vR x1] [(.ref sb), (.ref x1)])) (fun _ kK => XS.aloadN X1.here hx rfl (D d18_5) rfl rfl (XS.aloadN X1.here hx rfl (D d18_6) rfl rfl kK)) ?_
 obtain ⟨T2, X2, e2, st2⟩ := getF X1 hx hZ hown (host := "") (Or.inl (w_ G 57 rfl)) Via.refl eh1 P1 (g := (mkF m 7 #[vR sb, vI 0, vR x1] [(.ref sb), (.ref x1)])) rfl rfl (D d18_7)
 refine oo (S' := T2.setTop (mkF m 10 #[vR sb, vI 0, vR x1] [(.ref vb), (.ref x1)])) st2 ?_
 refine oo (S' := T2.setTop (mkF m 12 #[vR sb, vI 0, vR x1] [(.ref sb), (.int 0), (.ref vb), (.ref x1)])) (fun _ kK => XS.iloadN X2.here hx rfl (D d18_10) rfl (XS.aloadN X2.here hx rfl (D d18_11) rfl rfl kK)) ?_
 obtain ⟨T3, X3, e3, st3⟩ := getF X2 hx hZ hown (host := "") (Or.inl (w_ G 59 rfl)) Via.refl e2 P2 (g := (mkF m 12 #[vR sb, vI 0, vR x1] [(.ref sb), (.int 0), (.ref vb), (.ref x1)])) rfl rfl (D d18_12)
 refine oo (S' := T3.setTop (mkF m 15 #[vR sb, vI 0, vR x1] [(.int 0), (.int 0), (.ref vb), (.ref x1)])) st3 ?_
 obtain ⟨cq4, kq4, q4a, q4b, q4c⟩ := isOf hZ e3 P5
 obtain ⟨_, _, ⟨T4, L4, k4, n4⟩, -, X4, ⟨Lc4, hQ4, l4, y4, z4⟩, st4⟩ := X3.virtualBack hx (y := own_m17) (z := own_m17) hown (mw hZ G 100 rfl) (mw hZ G 101 rfl) (notFace_of_selects (args := #[]) (mw hZ G 103 rfl)) (mw hZ G 103 rfl) (mw hZ G 102 rfl) (by decide) (backOf (W := 0) (rmgb02 l Z a0 G [] x1 t1 k1 w0 w1 vb kv h0 n0 O0 P5 P6 P7 P8 P4 (by omega) (on (by omega))) hZ (w_ G 104 rfl) (w_ G 3 rfl) (by decide) (by decide)) q4a q4c (g := (mkF m 15 #[vR sb, vI 0, vR x1] [(.int 0), (.int 0), (.ref vb), (.ref x1)])) rfl (by rw [hml]; rfl) (Steps.refl _) (argsL := [(.ref vb), (.int 0), (.int 0)]) (rest := []) (lenOf pd_9 rfl) rfl (own_z rfl) (D d18_15) (fun _ _ => ⟨rfl, e3, (ol rfl), (ol rfl)⟩)
 dsimp only [Pt.U, Pt.locs, Pt.cells, Pt.slots] at X4 l4 y4 z4 st4 hQ4
 subst l4 y4 z4
 obtain ⟨rfl, N4q, Kq4, r4_0⟩ := hQ4
 have N4 := Fr.app N1 N4q
 have sz5 := Kq4.1
 have K5 := K0.trans Kq4 (own_all1 (Or.inl (by simp)))
 have ltr4_0 := lN r4_0.lt
 refine ot (S' := T4.setTop (mkF m 18 #[vR sb, vI 0, vR x1] [])) st4 ?_
 refine OwnEnd.ret X4 (v := none) (fun _ => rfl) hlk (fun fs hr => X4.returnOut hx Bd.returns (D d18_18) hr) (by decide) (by decide) (Q := Qps02 Z sb vb kv x1 t1 k1 w0 w1 h0 n0) rfl ?_
 exact ⟨rfl, N4, K5, r4_0⟩

theorem own_efaa02 (m : MethodId) (sb : Addr) (x1 : Addr) : entryFrame m #[(.ref sb), (.ref x1)] 3 = mkF m 0 #[vR sb, vR x1, .unset] [] := by first | (simp [entryFrame, mkF, argsToLocals, Value.category]; done) | rfl
def Qaa02 (Z : State) (sb : Addr) (vb : Addr) (kv : ClassId) (x1 : Addr) (t1 : Addr) (k1 : ClassId) (w0 : Value) (w1 : Value) (h0 : Heap) (n0 : Nat) (v : Option Value) (h : Heap) (L : List Loc) : Prop := v = some (.ref sb) ∧ Fr n0 L ∧ Keep h0 h [sb, vb] ∧ (Exa Z h sb j2) ∧ (Fld Z h sb j0 "value" "[B" (.ref vb)) ∧ (Fld Z h sb j0 "coder" "B" (.int 0)) ∧ (Fld Z h sb j0 "count" "I" (.int 2)) ∧ (Arv Z h vb kv .byte (16 : Int32) [w0, w1, (.int 0), (.int 0), (.int 0), (.int 0), (.int 0), (.int 0), (.int 0), (.int 0), (.int 0), (.int 0), (.int 0), (.int 0), (.int 0), (.int 0)] (.int 0))
set_option maxRecDepth 65536 in
set_option maxHeartbeats 40000000 in
theorem rmaa02 (l : Launch) (Z : State) (a0 : Array Value) (G : OwnG Z a0) (ws : List Jvm.Cond) (sb : Addr) (vb : Addr) (kv : ClassId) (x1 : Addr) (t1 : Addr) (k1 : ClassId) (w0 : Value) (w1 : Value) (h0 : Heap) (n0 : Nat) (O0 : Old Z n0 h0) (P0 : Exa Z h0 sb j2) (P1 : Fld Z h0 sb j0 "value" "[B" (.ref vb)) (P2 : Fld Z h0 sb j0 "coder" "B" (.int 0)) (P3 : Fld Z h0 sb j0 "count" "I" (.int 0)) (P4 : Arv Z h0 vb kv .byte (16 : Int32) [(.int 0), (.int 0), (.int 0), (.int 0), (.int 0), (.int 0), (.int 0), (.int 0), (.int 0), (.int 0), (.int 0), (.int 0), (.int 0), (.int 0), (.int 0), (.int 0)] (.int 0)) (P5 : Exa Z h0 x1 j1) (P6 : Fld Z h0 x1 j1 "value" "[B" (.ref t1)) (P7 : Fld Z h0 x1 j1 "coder" "B" (.int 0)) (P8 : Arv Z h0 t1 k1 .byte (2 : Int32) [w0, w1] (.int 0)) (P9 : n0 ≤ sb) (P10 : n0 ≤ vb) (P11 : sb ≠ vb) (P12 : t1 ≠ vb) (P13 : t1 ≠ sb) (P14 : x1 ≠ vb) (P15 : x1 ≠ sb) :
  MetFree l own_m19 (head1 (Jvm.Cond.code own_m19 B25 3 (some (.object j0)) :: ws) (rR 3 0 0 47)) (fun a U => a = #[(.ref sb), (.ref x1)] ∧ Z.Warmed39 U.vm ∧ U.heap = h0) (fun _ _ _ _ _ => True) (fun _ U o U' => ∃ v L, o = .returned v ∧ Qaa02 Z sb vb kv x1 t1 k1 w0 w1 h0 n0 v U'.heap L ∧ FrameEnd U o U' L (rR 3 0 0 47).cells (rR 3 0 0 47).slots) := by
 refine MetFree.of_bodySF (plainFor_of_name pn_3) hisR ?_
 intro p e s m args below meth cD s₁ Bd hml0 hP hK
 obtain ⟨rfl, hZ, hh⟩ := hP
 have hml : cD.maxLocals = 3 := hml0
 obtain ⟨hx, hby, (hown : s.vm.findClass j0 = some m.cls), hlk, X0, e0⟩ := own_st Bd hh
 have D := @hb _ _ hby
 have lt0 := lN P0.lt
 have lt1 := lN P1.lt
 have lt2 := lN P2.lt
 have lt3 := lN P3.lt
 have lt4 := lN P4.lt
 have lt5 := lN P5.lt
 have lt6 := lN P6.lt
 have lt7 := lN P7.lt
 have lt8 := lN P8.lt
 have nP11 := own_neN P11
 have nP12 := own_neN P12
 have nP13 := own_neN P13
 have nP14 := own_neN P14
 have nP15 := own_neN P15
 have K0 : Keep h0 h0 [sb, vb] := Keep.refl h0 _
 have Z0 := own_old_le O0
 have N0 := Fr.nil n0
 refine OwnEnd.start (g' := (mkF m 0 #[vR sb, vR x1, .unset] [])) (own_efaa02 m sb x1) ?_
 refine oo (S' := s₁.setTop (mkF m 10 #[vR sb, vR x1, .unset] [(.ref x1)])) (fun _ kK => XS.aloadN X0.here hx rfl (D d19_0) rfl rfl (XS.ifnonnullYes X0.here hx rfl (pc0 := 1) (pc' := 9) rfl (D d19_1) rfl (by decide) (by decide) (XS.aloadN X0.here hx rfl (D d19_9) rfl rfl kK))) ?_
 obtain ⟨cq1, kq1, q1a, q1b, q1c⟩ := isOf hZ e0 P5
 obtain ⟨_, _, ⟨T1, L1, k1, n1⟩, -, X1, ⟨Lc1, hQ1, l1, y1, z1⟩, st1⟩ := X0.virtualBack hx (y := own_m6) (z := own_m6) hown (mw hZ G 71 rfl) (mw hZ G 72 rfl) (notFace_of_selects (args := #[]) (mw hZ G 74 rfl)) (mw hZ G 74 rfl) (mw hZ G 73 rfl) (by decide) (backOf (W := 0) (rmln0 l Z a0 G [] x1 t1 k1 (2 : Int32) [w0, w1] (.int 0) h0 n0 O0 P5 P6 P7 P8) hZ (w_ G 75 rfl) (w_ G 3 rfl) (by decide) (by decide)) q1a q1c (g := (mkF m 10 #[vR sb, vR x1, .unset] [(.ref x1)])) rfl (by rw [hml]; rfl) (Steps.refl _) (argsL := []) (rest := []) (lenOf pd_7 rfl) rfl (own_z rfl) (D d19_10) (fun _ _ => ⟨rfl, e0, (ol rfl), (ol rfl)⟩)
 dsimp only [Pt.U, Pt.locs, Pt.cells, Pt.slots] at X1 l1 y1 z1 st1 hQ1
 subst l1 y1 z1
 obtain ⟨rfl, N1q, eh1⟩ := hQ1
 have N1 := Fr.app N0 N1q
 refine ot (S' := T1.setTop (mkF m 13 #[vR sb, vR x1, .unset] [(.int 2)])) st1 ?_
 refine oo (S' := T1.setTop (mkF m 16 #[vR sb, vR x1, vI 2] [(.ref sb), (.ref sb)])) (fun _ kK => XS.istoreN X1.here hx rfl (D d19_13) rfl (l' := #[vR sb, vR x1, vI 2]) rfl (XS.aloadN X1.here hx rfl (D d19_14) rfl rfl (XS.aloadN X1.here hx rfl (D d19_15) rfl rfl kK))) ?_
 obtain ⟨T2, X2, e2, st2⟩ := getF X1 hx hZ hown (host := "") (Or.inl (w_ G 82 rfl)) Via.refl eh1 P3 (g := (mkF m 16 #[vR sb, vR x1, vI 2] [(.ref sb), (.ref sb)])) rfl rfl (D d19_16)
 refine oo (S' := T2.setTop (mkF m 19 #[vR sb, vR x1, vI 2] [(.int 0), (.ref sb)])) st2 ?_
 refine oo (S' := T2.setTop (mkF m 21 #[vR sb, vR x1, vI 2] [(.int 2), (.ref sb)])) (fun _ kK => XS.iloadN X2.here hx rfl (D d19_19) rfl (XS.iadd X2.here hx rfl (D d19_20) rfl kK)) ?_
 obtain ⟨cq3, kq3, q3a, q3b, cc3, q3d, -, q3e⟩ := isOf hZ e2 P0
 obtain ⟨_, _, ⟨T3, L3, k3, n3⟩, -, X3, ⟨Lc3, hQ3, l3, y3, z3⟩, st3⟩ := X2.privateBack hx (y := own_m12) hown (mw hZ G 84 rfl) (mw hZ G 85 rfl) (own_selP (oI (mw hZ G 87 rfl) rfl) (mw hZ G 85 rfl) (Cond.privateMethod_at (args := #[]) (mw hZ G 86 rfl)) (by decide)) (Cond.privateMethod_at (args := #[]) (mw hZ G 86 rfl)) (mw hZ G 88 rfl) (by decide) (backOf (W := 0) (rmec l Z a0 G [] sb vb kv [(.int 0), (.int 0), (.int 0), (.int 0), (.int 0), (.int 0), (.int 0), (.int 0), (.int 0), (.int 0), (.int 0), (.int 0), (.int 0), (.int 0), (.int 0), (.int 0)] (2 : Int32) h0 n0 O0 P1 P2 P4 (by decide)) hZ (w_ G 88 rfl) (w_ G 53 rfl) (by decide) (by decide)) (g := (mkF m 21 #[vR sb, vR x1, vI 2] [(.int 2), (.ref sb)])) rfl (by rw [hml]; rfl) (Steps.refl _) q3d (own_nost q3e) (argsL := [(.int 2)]) (rest := []) (lenOf pd_6 rfl) rfl (own_z rfl) (D d19_21) (fun _ _ => ⟨rfl, e2, (ol rfl), (ol rfl)⟩)
 dsimp only [Pt.U, Pt.locs, Pt.cells, Pt.slots] at X3 l3 y3 z3 st3 hQ3
 subst l3 y3 z3
 obtain ⟨rfl, N3q, eh3⟩ := hQ3
 have N3 := Fr.app N1 N3q
 refine ot (S' := T3.setTop (mkF m 24 #[vR sb, vR x1, vI 2] [])) st3 ?_
 refine oo (S' := T3.setTop (mkF m 26 #[vR sb, vR x1, vI 2] [(.ref sb), (.ref sb)])) (fun _ kK => XS.aloadN X3.here hx rfl (D d19_24) rfl rfl (XS.aloadN X3.here hx rfl (D d19_25) rfl rfl kK)) ?_
 obtain ⟨T4, X4, e4, st4⟩ := getF X3 hx hZ hown (host := "") (Or.inl (w_ G 82 rfl)) Via.refl eh3 P3 (g := (mkF m 26 #[vR sb, vR x1, vI 2] [(.ref sb), (.ref sb)])) rfl rfl (D d19_26)
 refine oo (S' := T4.setTop (mkF m 29 #[vR sb, vR x1, vI 2] [(.int 0), (.ref sb)])) st4 ?_
 refine oo (S' := T4.setTop (mkF m 30 #[vR sb, vR x1, vI 2] [(.ref x1), (.int 0), (.ref sb)])) (fun _ kK => XS.aloadN X4.here hx rfl (D d19_29) rfl rfl kK) ?_
 obtain ⟨cq5, kq5, q5a, q5b, cc5, q5d, -, q5e⟩ := isOf hZ e4 P0
 obtain ⟨_, _, ⟨T5, L5, k5, n5⟩, -, X5, ⟨Lc5, hQ5, l5, y5, z5⟩, st5⟩ := X4.privateBack hx (y := own_m18) hown (mw hZ G 89 rfl) (mw hZ G 90 rfl) (own_selP (oI (mw hZ G 87 rfl) rfl) (mw hZ G 90 rfl) (Cond.privateMethod_at (args := #[]) (mw hZ G 91 rfl)) (by decide)) (Cond.privateMethod_at (args := #[]) (mw hZ G 91 rfl)) (mw hZ G 93 rfl) (by decide) (backOf (W := 0) (rmps02 l Z a0 G [] sb vb kv x1 t1 k1 w0 w1 h0 n0 O0 P0 P1 P2 P3 P4 P5 P6 P7 P8 (by omega) (by omega) (on (by omega)) (on (by omega)) (on (by omega)) (on (by omega)) (on (by omega))) hZ (w_ G 93 rfl) (w_ G 53 rfl) (by decide) (by decide)) (g := (mkF m 30 #[vR sb, vR x1, vI 2] [(.ref x1), (.int 0), (.ref sb)])) rfl (by rw [hml]; rfl) (Steps.refl _) q5d (own_nost q5e) (argsL := [(.int 0), (.ref x1)]) (rest := []) (lenOf pd_10 rfl) rfl (own_z rfl) (D d19_30) (fun _ _ => ⟨rfl, e4, (ol rfl), (ol rfl)⟩)
 dsimp only [Pt.U, Pt.locs, Pt.cells, Pt.slots] at X5 l5 y5 z5 st5 hQ5
 subst l5 y5 z5
 obtain ⟨rfl, N5q, Kq5, r5_0⟩ := hQ5
 have N5 := Fr.app N3 N5q
 have sz6 := Kq5.1
 have K6 := K0.trans Kq5 (own_all1 (Or.inl (by simp)))
 have ltr5_0 := lN r5_0.lt
 refine ot (S' := T5.setTop (mkF m 33 #[vR sb, vR x1, vI 2] [])) st5 ?_
 refine oo (S' := T5.setTop (mkF m 35 #[vR sb, vR x1, vI 2] [(.ref sb), (.ref sb)])) (fun _ kK => XS.aloadN X5.here hx rfl (D d19_33) rfl rfl (XS.dup X5.here hx rfl (D d19_34) rfl rfl kK)) ?_
 have f8 := (P3.keep Kq5 (own_nin1 (on (by omega))))
 obtain ⟨T7, X7, e7, st7⟩ := getF X5 hx hZ hown (host := "") (Or.inl (w_ G 82 rfl)) Via.refl rfl f8 (g := (mkF m 35 #[vR sb, vR x1, vI 2] [(.ref sb), (.ref sb)])) rfl rfl (D d19_35)
 refine oo (S' := T7.setTop (mkF m 38 #[vR sb, vR x1, vI 2] [(.int 0), (.ref sb)])) st7 ?_
 refine oo (S' := T7.setTop (mkF m 40 #[vR sb, vR x1, vI 2] [(.int 2), (.ref sb)])) (fun _ kK => XS.iloadN X7.here hx rfl (D d19_38) rfl (XS.iadd X7.here hx rfl (D d19_39) rfl kK)) ?_
 have f10 := (P0.keep Kq5)
 obtain ⟨T9, h9, X9, e9, W9, st9⟩ := putF X7 hx hZ hown (host := "") (Or.inl (w_ G 82 rfl)) Via.refl e7 f8 f10 (Or.inl (w_ G 83 rfl)) (w_ G 44 rfl) (ty := .int) (by decide) rfl rfl (g := (mkF m 40 #[vR sb, vR x1, vI 2] [(.int 2), (.ref sb)])) rfl rfl (D d19_40)
 have Fw9 := f8.same W9
 have N9 := Fr.snoc X9 N5 (by omega)
 have sz11 := own_wr_le W9
 have K11 := K6.wr W9 (Or.inl (by simp))
 refine oo (S' := T9.setTop (mkF m 43 #[vR sb, vR x1, vI 2] [])) st9 ?_
 refine oo (S' := T9.setTop (mkF m 44 #[vR sb, vR x1, vI 2] [(.ref sb)])) (fun _ kK => XS.aloadN X9.here hx rfl (D d19_43) rfl rfl kK) ?_
 have f12 := (f10.wr W9)
 have f13 := ((P1.keep Kq5 (own_nin1 (on (by omega)))).other W9 (Or.inr (slot_ne (Or.inl (w_ G 58 rfl)) (Or.inl (w_ G 83 rfl)) (by decide) (t := (.array .byte)) (t' := .int) (by decide) (by decide))))
 have f14 := ((P2.keep Kq5 (own_nin1 (on (by omega)))).other W9 (Or.inr (slot_ne (Or.inl (w_ G 60 rfl)) (Or.inl (w_ G 83 rfl)) (by decide) (t := .byte) (t' := .int) (by decide) (by decide))))
 have f15 := (r5_0.other W9 (on (by omega)))
 refine OwnEnd.ret X9 (v := (some (.ref sb))) (fun h => by rw [Bd.returns] at h; cases h) hlk (fun fs hr => retOut X9 hx Bd.returns rfl (Or.inr (Or.inr (Or.inr (Or.inr ⟨rfl, rfl, rfl⟩)))) (D d19_44) hr) (by decide) (by decide) (Q := Qaa02 Z sb vb kv x1 t1 k1 w0 w1 h0 n0) e9 ?_
 exact ⟨rfl, N9, K11, f12, f13, f14, Fw9, f15⟩

theorem own_efsa02 (m : MethodId) (sb : Addr) (x1 : Addr) : entryFrame m #[(.ref sb), (.ref x1)] 2 = mkF m 0 #[vR sb, vR x1] [] := by first | (simp [entryFrame, mkF, argsToLocals, Value.category]; done) | rfl
def Qsa02 (Z : State) (sb : Addr) (vb : Addr) (kv : ClassId) (x1 : Addr) (t1 : Addr) (k1 : ClassId) (w0 : Value) (w1 : Value) (h0 : Heap) (n0 : Nat) (v : Option Value) (h : Heap) (L : List Loc) : Prop := v = some (.ref sb) ∧ Fr n0 L ∧ Keep h0 h [sb, vb] ∧ (Exa Z h sb j2) ∧ (Fld Z h sb j0 "value" "[B" (.ref vb)) ∧ (Fld Z h sb j0 "coder" "B" (.int 0)) ∧ (Fld Z h sb j0 "count" "I" (.int 2)) ∧ (Arv Z h vb kv .byte (16 : Int32) [w0, w1, (.int 0), (.int 0), (.int 0), (.int 0), (.int 0), (.int 0), (.int 0), (.int 0), (.int 0), (.int 0), (.int 0), (.int 0), (.int 0), (.int 0)] (.int 0))
set_option maxRecDepth 65536 in
set_option maxHeartbeats 40000000 in
theorem rmsa02 (l : Launch) (Z : State) (a0 : Array Value) (G : OwnG Z a0) (ws : List Jvm.Cond) (sb : Addr) (vb : Addr) (kv : ClassId) (x1 : Addr) (t1 : Addr) (k1 : ClassId) (w0 : Value) (w1 : Value) (h0 : Heap) (n0 : Nat) (O0 : Old Z n0 h0) (P0 : Exa Z h0 sb j2) (P1 : Fld Z h0 sb j0 "value" "[B" (.ref vb)) (P2 : Fld Z h0 sb j0 "coder" "B" (.int 0)) (P3 : Fld Z h0 sb j0 "count" "I" (.int 0)) (P4 : Arv Z h0 vb kv .byte (16 : Int32) [(.int 0), (.int 0), (.int 0), (.int 0), (.int 0), (.int 0), (.int 0), (.int 0), (.int 0), (.int 0), (.int 0), (.int 0), (.int 0), (.int 0), (.int 0), (.int 0)] (.int 0)) (P5 : Exa Z h0 x1 j1) (P6 : Fld Z h0 x1 j1 "value" "[B" (.ref t1)) (P7 : Fld Z h0 x1 j1 "coder" "B" (.int 0)) (P8 : Arv Z h0 t1 k1 .byte (2 : Int32) [w0, w1] (.int 0)) (P9 : n0 ≤ sb) (P10 : n0 ≤ vb) (P11 : sb ≠ vb) (P12 : t1 ≠ vb) (P13 : t1 ≠ sb) (P14 : x1 ≠ vb) (P15 : x1 ≠ sb) :
  MetFree l own_m20 (head1 (Jvm.Cond.code own_m20 B26 2 (some (.object j2)) :: ws) (rR 4 0 0 61)) (fun a U => a = #[(.ref sb), (.ref x1)] ∧ Z.Warmed39 U.vm ∧ U.heap = h0) (fun _ _ _ _ _ => True) (fun _ U o U' => ∃ v L, o = .returned v ∧ Qsa02 Z sb vb kv x1 t1 k1 w0 w1 h0 n0 v U'.heap L ∧ FrameEnd U o U' L (rR 4 0 0 61).cells (rR 4 0 0 61).slots) := by
 refine MetFree.of_bodySF (plainFor_of_name pn_4) hisR ?_
 intro p e s m args below meth cD s₁ Bd hml0 hP hK
 obtain ⟨rfl, hZ, hh⟩ := hP
 have hml : cD.maxLocals = 2 := hml0
 obtain ⟨hx, hby, (hown : s.vm.findClass j2 = some m.cls), hlk, X0, e0⟩ := own_st Bd hh
 have D := @hb _ _ hby
 have lt0 := lN P0.lt
 have lt1 := lN P1.lt
 have lt2 := lN P2.lt
 have lt3 := lN P3.lt
 have lt4 := lN P4.lt
 have lt5 := lN P5.lt
 have lt6 := lN P6.lt
 have lt7 := lN P7.lt
 have lt8 := lN P8.lt
 have nP11 := own_neN P11
 have nP12 := own_neN P12
 have nP13 := own_neN P13
 have nP14 := own_neN P14
 have nP15 := own_neN P15
 have K0 : Keep h0 h0 [sb, vb] := Keep.refl h0 _
 have Z0 := own_old_le O0
 have N0 := Fr.nil n0
 refine OwnEnd.start (g' := (mkF m 0 #[vR sb, vR x1] [])) (own_efsa02 m sb x1) ?_
 refine oo (S' := s₁.setTop (mkF m 2 #[vR sb, vR x1] [(.ref x1), (.ref sb)])) (fun _ kK => XS.aloadN X0.here hx rfl (D d20_0) rfl rfl (XS.aloadN X0.here hx rfl (D d20_1) rfl rfl kK)) ?_
 obtain ⟨_, _, ⟨T1, L1, k1, n1⟩, -, X1, ⟨Lc1, hQ1, l1, y1, z1⟩, st1⟩ := superBack X0 hx hZ hown (y := own_m19) (w_ G 66 rfl) (own_same (own_notI (w_ G 87 rfl) rfl) (w_ G 67 rfl) (by decide)) (w_ G 67 rfl) (w_ G 68 rfl) (by decide) (backOf (W := 0) (rmaa02 l Z a0 G [] sb vb kv x1 t1 k1 w0 w1 h0 n0 O0 P0 P1 P2 P3 P4 P5 P6 P7 P8 (by omega) (by omega) (on (by omega)) (on (by omega)) (on (by omega)) (on (by omega)) (on (by omega))) hZ (w_ G 70 rfl) (w_ G 53 rfl) (by decide) (by decide)) e0 (Ins.self P0) (g := (mkF m 2 #[vR sb, vR x1] [(.ref x1), (.ref sb)])) rfl (by rw [hml]; rfl) (w_ G 70 rfl) (argsL := [(.ref x1)]) (rest := []) (lenOf pd_11 rfl) rfl (own_z rfl) (D d20_2) (fun _ _ => ⟨rfl, e0, (ol rfl), (ol rfl)⟩)
 dsimp only [Pt.U, Pt.locs, Pt.cells, Pt.slots] at X1 l1 y1 z1 st1 hQ1
 subst l1 y1 z1
 obtain ⟨rfl, N1q, Kq1, r1_0, r1_1, r1_2, r1_3, r1_4⟩ := hQ1
 have N1 := Fr.app N0 N1q
 have sz2 := Kq1.1
 have K2 := K0.trans Kq1 (own_all2 (Or.inl (by simp)) (Or.inl (by simp)))
 have ltr1_0 := lN r1_0.lt
 have ltr1_1 := lN r1_1.lt
 have ltr1_2 := lN r1_2.lt
 have ltr1_3 := lN r1_3.lt
 have ltr1_4 := lN r1_4.lt
 refine ot (S' := T1.setTop (mkF m 5 #[vR sb, vR x1] [(.ref sb)])) st1 ?_
 refine oo (S' := T1.setTop (mkF m 7 #[vR sb, vR x1] [(.ref sb)])) (fun _ kK => XS.pop X1.here hx rfl (D d20_5) rfl rfl (XS.aloadN X1.here hx rfl (D d20_6) rfl rfl kK)) ?_
 refine OwnEnd.ret X1 (v := (some (.ref sb))) (fun h => by rw [Bd.returns] at h; cases h) hlk (fun fs hr => retOut X1 hx Bd.returns rfl (Or.inr (Or.inr (Or.inr (Or.inr ⟨rfl, rfl, rfl⟩)))) (D d20_7) hr) (by decide) (by decide) (Q := Qsa02 Z sb vb kv x1 t1 k1 w0 w1 h0 n0) rfl ?_
 exact ⟨rfl, N1, K2, r1_0, r1_1, r1_2, r1_3, r1_4⟩

theorem own_efgb03 (m : MethodId) (x1 : Addr) (vb : Addr) : entryFrame m #[(.ref x1), (.ref vb), (.int 0), (.int 0)] 4 = mkF m 0 #[vR x1, vR vb, vI 0, vI 0] [] := by first | (simp [entryFrame, mkF, argsToLocals, Value.category]; done) | rfl
def Qgb03 (Z : State) (x1 : Addr) (t1 : Addr) (k1 : ClassId) (w0 : Value) (w1 : Value) (w2 : Value) (vb : Addr) (kv : ClassId) (h0 : Heap) (n0 : Nat) (v : Option Value) (h : Heap) (L : List Loc) : Prop := v = none ∧ Fr n0 L ∧ Keep h0 h [vb] ∧ (Arv Z h vb kv .byte (16 : Int32) [w0, w1, w2, (.int 0), (.int 0), (.int 0), (.int 0), (.int 0), (.int 0), (.int 0), (.int 0), (.int 0), (.int 0), (.int 0), (.int 0), (.int 0)] (.int 0))
set_option maxRecDepth 65536 in
set_option maxHeartbeats 40000000 in
theorem rmgb03 (l : Launch) (Z : State) (a0 : Array Value) (G : OwnG Z a0) (ws : List Jvm.Cond) (x1 : Addr) (t1 : Addr) (k1 : ClassId) (w0 : Value) (w1 : Value) (w2 : Value) (vb : Addr) (kv : ClassId) (h0 : Heap) (n0 : Nat) (O0 : Old Z n0 h0) (P0 : Exa Z h0 x1 j1) (P1 : Fld Z h0 x1 j1 "value" "[B" (.ref t1)) (P2 : Fld Z h0 x1 j1 "coder" "B" (.int 0)) (P3 : Arv Z h0 t1 k1 .byte (3 : Int32) [w0, w1, w2] (.int 0)) (P4 : Arv Z h0 vb kv .byte (16 : Int32) [(.int 0), (.int 0), (.int 0), (.int 0), (.int 0), (.int 0), (.int 0), (.int 0), (.int 0), (.int 0), (.int 0), (.int 0), (.int 0), (.int 0), (.int 0), (.int 0)] (.int 0)) (P5 : n0 ≤ vb) (P6 : t1 ≠ vb) :
  MetFree l own_m17 (head1 (Jvm.Cond.code own_m17 B23 4 none :: ws) (rR 1 0 0 18)) (fun a U => a = #[(.ref x1), (.ref vb), (.int 0), (.int 0)] ∧ Z.Warmed39 U.vm ∧ U.heap = h0) (fun _ _ _ _ _ => True) (fun _ U o U' => ∃ v L, o = .returned v ∧ Qgb03 Z x1 t1 k1 w0 w1 w2 vb kv h0 n0 v U'.heap L ∧ FrameEnd U o U' L (rR 1 0 0 18).cells (rR 1 0 0 18).slots) := by
 refine MetFree.of_bodySF (plainFor_of_name pn_0) hisR ?_
 intro p e s m args below meth cD s₁ Bd hml0 hP hK
 obtain ⟨rfl, hZ, hh⟩ := hP
 have hml : cD.maxLocals = 4 := hml0
 obtain ⟨hx, hby, (hown : s.vm.findClass j1 = some m.cls), hlk, X0, e0⟩ := own_st Bd hh
 have D := @hb _ _ hby
 have lt0 := lN P0.lt
 have lt1 := lN P1.lt
 have lt2 := lN P2.lt
 have lt3 := lN P3.lt
 have lt4 := lN P4.lt
 have nP6 := own_neN P6
 have K0 : Keep h0 h0 [vb] := Keep.refl h0 _
 have Z0 := own_old_le O0
 have N0 := Fr.nil n0
 let lv1 : Array Slot := #[vR x1, vR vb, vI 0, vI 0]
 refine OwnEnd.start (g' := (mkF m 0 lv1 [])) (own_efgb03 m x1 vb) ?_
 refine oo (S' := s₁.setTop (mkF m 1 lv1 [(.ref x1)])) (fun _ kK => XS.aloadN X0.here hx rfl (D d17_0) rfl rfl kK) ?_
 obtain ⟨cq2, kq2, q2a, q2b, q2c⟩ := isOf hZ e0 P0
 obtain ⟨_, _, ⟨T2, L2, k2, n2⟩, -, X2, ⟨Lc2, hQ2, l2, y2, z2⟩, st2⟩ := X0.virtualBack hx (y := own_m5) (z := own_m5) hown (mw hZ G 76 rfl) (mw hZ G 77 rfl) (notFace_of_selects (args := #[]) (mw hZ G 79 rfl)) (mw hZ G 79 rfl) (mw hZ G 78 rfl) (by decide) (backOf (W := 0) (rmcdr0 l Z a0 G [] x1 h0 n0 O0 P2) hZ (w_ G 80 rfl) (w_ G 3 rfl) (by decide) (by decide)) q2a q2c (g := (mkF m 1 lv1 [(.ref x1)])) rfl (by rw [hml]; rfl) (Steps.refl _) (argsL := []) (rest := []) (lenOf pd_2 rfl) rfl (own_z rfl) (D d17_1) (fun _ _ => ⟨rfl, e0, (ol rfl), (ol rfl)⟩)
 dsimp only [Pt.U, Pt.locs, Pt.cells, Pt.slots] at X2 l2 y2 z2 st2 hQ2
 subst l2 y2 z2
 obtain ⟨rfl, N2q, eh2⟩ := hQ2
 have N2 := Fr.app N0 N2q
 refine ot (S' := T2.setTop (mkF m 4 lv1 [(.int 0)])) st2 ?_
 refine oo (S' := T2.setTop (mkF m 9 lv1 [(.ref x1)])) (fun _ kK => XS.iloadN X2.here hx rfl (D d17_4) rfl (XS.icmpNo X2.here hx rfl (D d17_5) rfl (teq ((by decide : (0 : Int32) = (0 : Int32)))).2 (XS.aloadN X2.here hx rfl (D d17_8) rfl rfl kK))) ?_
 obtain ⟨T3, X3, e3, st3⟩ := getF X2 hx hZ hown (host := "") (Or.inl (w_ G 20 rfl)) Via.refl eh2 P1 (g := (mkF m 9 lv1 [(.ref x1)])) rfl rfl (D d17_9)
 refine oo (S' := T3.setTop (mkF m 12 lv1 [(.ref t1)])) st3 ?_
 refine oo (S' := T3.setTop (mkF m 18 lv1 [(.ref x1), (.int 0), (.ref vb), (.int 0), (.ref t1)])) (fun _ kK => XS.iconst X3.here hx rfl (D d17_12) (XS.aloadN X3.here hx rfl (D d17_13) rfl rfl (XS.iloadN X3.here hx rfl (D d17_14) rfl (XS.iloadN X3.here hx rfl (D d17_15) rfl (XS.ishl X3.here hx rfl (D d17_16) rfl (XS.aloadN X3.here hx rfl (D d17_17) rfl rfl kK)))))) ?_
 obtain ⟨T4, X4, e4, st4⟩ := getF X3 hx hZ hown (host := "") (Or.inl (w_ G 20 rfl)) Via.refl e3 P1 (g := (mkF m 18 lv1 [(.ref x1), (.int 0), (.ref vb), (.int 0), (.ref t1)])) rfl rfl (D d17_18)
 refine oo (S' := T4.setTop (mkF m 21 lv1 [(.ref t1), (.int 0), (.ref vb), (.int 0), (.ref t1)])) st4 ?_
 obtain ⟨cl5, Ar5, q5, S5, N5', H5, G5⟩ := id P3
 refine oo (S' := T4.setTop (mkF m 22 lv1 [(.int 3), (.int 0), (.ref vb), (.int 0), (.ref t1)])) (fun _ kK => X4.arraylength hx (by rw [e4]; exact Ar5.1) (State.isArrayOf_alike hZ.alike Ar5.2.1) (g := (mkF m 21 lv1 [(.ref t1), (.int 0), (.ref vb), (.int 0), (.ref t1)])) rfl rfl (D d17_21) _ (by rw [len_of S5 N5']; exact kK)) ?_
 obtain ⟨T6, h6, L6, X6, e6, N6, Kc6, Vc6, st6⟩ := cpA X4 hx hZ hown (w_ G 105 rfl) (w_ G 108 rfl) (w_ G 106 rfl) (w_ G 107 rfl) e4 P3 P4 (us := [w0, w1, w2]) (Or.inl ⟨rfl, rfl⟩) (sp := (0 : Int32)) (dp := (0 : Int32)) (nn := (3 : Int32)) (by decide) (by decide) (by decide) (by decide) (by decide) rfl (Nat.le_of_ble_eq_true rfl) N2 (by omega) (g := (mkF m 22 lv1 [(.int 3), (.int 0), (.ref vb), (.int 0), (.ref t1)])) rfl (by rw [hml]; rfl) rfl (D d17_22) (by decide) (W := 0) (own_z rfl) (by decide)
 have sz7 := Kc6.1
 have K7 := K0.trans Kc6 (own_all1 (Or.inl (by simp)))
 have V6 : Arv Z h6 vb kv .byte (16 : Int32) [w0, w1, w2, (.int 0), (.int 0), (.int 0), (.int 0), (.int 0), (.int 0), (.int 0), (.int 0), (.int 0), (.int 0), (.int 0), (.int 0), (.int 0)] (.int 0) := Vc6
 refine oo (S' := T6.setTop (mkF m 25 lv1 [])) st6 ?_
 refine oo (S' := T6.setTop (mkF m 43 lv1 [])) (fun _ kK => XS.goto X6.here hx rfl (pc0 := 25) (pc' := 43) rfl (D d17_25) (by decide) (by decide) kK) ?_
 refine OwnEnd.ret X6 (v := none) (fun _ => rfl) hlk (fun fs hr => X6.returnOut hx Bd.returns (D d17_43) hr) (by decide) (by decide) (Q := Qgb03 Z x1 t1 k1 w0 w1 w2 vb kv h0 n0) e6 ?_
 exact ⟨rfl, N6, K7, V6⟩

theorem own_efps03 (m : MethodId) (sb : Addr) (x1 : Addr) : entryFrame m #[(.ref sb), (.int 0), (.ref x1)] 3 = mkF m 0 #[vR sb, vI 0, vR x1] [] := by first | (simp [entryFrame, mkF, argsToLocals, Value.category]; done) | rfl
def Qps03 (Z : State) (sb : Addr) (vb : Addr) (kv : ClassId) (x1 : Addr) (t1 : Addr) (k1 : ClassId) (w0 : Value) (w1 : Value) (w2 : Value) (h0 : Heap) (n0 : Nat) (v : Option Value) (h : Heap) (L : List Loc) : Prop := v = none ∧ Fr n0 L ∧ Keep h0 h [vb] ∧ (Arv Z h vb kv .byte (16 : Int32) [w0, w1, w2, (.int 0), (.int 0), (.int 0), (.int 0), (.int 0), (.int 0), (.int 0), (.int 0), (.int 0), (.int 0), (.int 0), (.int 0), (.int 0)] (.int 0))
set_option maxRecDepth 65536 in
set_option maxHeartbeats 40000000 in
theorem rmps03 (l : Launch) (Z : State) (a0 : Array Value) (G : OwnG Z a0) (ws : List Jvm.Cond) (sb : Addr) (vb : Addr) (kv : ClassId) (x1 : Addr) (t1 : Addr) (k1 : ClassId) (w0 : Value) (w1 : Value) (w2 : Value) (h0 : Heap) (n0 : Nat) (O0 : Old Z n0 h0) (P0 : Exa Z h0 sb j2) (P1 : Fld Z h0 sb j0 "value" "[B" (.ref vb)) (P2 : Fld Z h0 sb j0 "coder" "B" (.int 0)) (P3 : Fld Z h0 sb j0 "count" "I" (.int 0)) (P4 : Arv Z h0 vb kv .byte (16 : Int32) [(.int 0), (.int 0), (.int 0), (.int 0), (.int 0), (.int 0), (.int 0), (.int 0), (.int 0), (.int 0), (.int 0), (.int 0), (.int 0), (.int 0), (.int 0), (.int 0)] (.int 0)) (P5 : Exa Z h0 x1 j1) (P6 : Fld Z h0 x1 j1 "value" "[B" (.ref t1)) (P7 : Fld Z h0 x1 j1 "coder" "B" (.int 0)) (P8 : Arv Z h0 t1 k1 .byte (3 : Int32) [w0, w1, w2] (.int 0)) (P9 : n0 ≤ sb) (P10 : n0 ≤ vb) (P11 : sb ≠ vb) (P12 : t1 ≠ vb) (P13 : t1 ≠ sb) (P14 : x1 ≠ vb) (P15 : x1 ≠ sb) :
  MetFree l own_m18 (head1 (Jvm.Cond.code own_m18 B24 3 none :: ws) (rR 2 0 0 33)) (fun a U => a = #[(.ref sb), (.int 0), (.ref x1)] ∧ Z.Warmed39 U.vm ∧ U.heap = h0) (fun _ _ _ _ _ => True) (fun _ U o U' => ∃ v L, o = .returned v ∧ Qps03 Z sb vb kv x1 t1 k1 w0 w1 w2 h0 n0 v U'.heap L ∧ FrameEnd U o U' L (rR 2 0 0 33).cells (rR 2 0 0 33).slots) := by
 refine MetFree.of_bodySF (plainFor_of_name pn_3) hisR ?_
 intro p e s m args below meth cD s₁ Bd hml0 hP hK
 obtain ⟨rfl, hZ, hh⟩ := hP
 have hml : cD.maxLocals = 3 := hml0
 obtain ⟨hx, hby, (hown : s.vm.findClass j0 = some m.cls), hlk, X0, e0⟩ := own_st Bd hh
 have D := @hb _ _ hby
 have lt0 := lN P0.lt
 have lt1 := lN P1.lt
 have lt2 := lN P2.lt
 have lt3 := lN P3.lt
 have lt4 := lN P4.lt
 have lt5 := lN P5.lt
 have lt6 := lN P6.lt
 have lt7 := lN P7.lt
 have lt8 := lN P8.lt
 have nP11 := own_neN P11
 have nP12 := own_neN P12
 have nP13 := own_neN P13
 have nP14 := own_neN P14
 have nP15 := own_neN P15
 have K0 : Keep h0 h0 [vb] := Keep.refl h0 _
 have Z0 := own_old_le O0
 have N0 := Fr.nil n0
 refine OwnEnd.start (g' := (mkF m 0 #[vR sb, vI 0, vR x1] [])) (own_efps03 m sb x1) ?_
 refine oo (S' := s₁.setTop (mkF m 2 #[vR sb, vI 0, vR x1] [(.ref x1), (.ref sb)])) (fun _ kK => XS.aloadN X0.here hx rfl (D d18_0) rfl rfl (XS.aloadN X0.here hx rfl (D d18_1) rfl rfl kK)) ?_
 obtain ⟨cq1, kq1, q1a, q1b, cc1, q1d, -, q1e⟩ := isOf hZ e0 P0
 obtain ⟨_, _, ⟨T1, L1, k1, n1⟩, -, X1, ⟨Lc1, hQ1, l1, y1, z1⟩, st1⟩ := X0.privateBack hx (y := own_m16) hown (mw hZ G 94 rfl) (mw hZ G 95 rfl) (own_selP (oI (mw hZ G 87 rfl) rfl) (mw hZ G 95 rfl) (Cond.privateMethod_at (args := #[]) (mw hZ G 96 rfl)) (by decide)) (Cond.privateMethod_at (args := #[]) (mw hZ G 96 rfl)) (mw hZ G 98 rfl) (by decide) (backOf (W := 0) (rminf l Z a0 G [] sb x1 h0 n0 O0 P2 P5 P7) hZ (w_ G 98 rfl) (w_ G 53 rfl) (by decide) (by decide)) (g := (mkF m 2 #[vR sb, vI 0, vR x1] [(.ref x1), (.ref sb)])) rfl (by rw [hml]; rfl) (Steps.refl _) q1d (own_nost q1e) (argsL := [(.ref x1)]) (rest := []) (lenOf pd_8 rfl) rfl (own_z rfl) (D d18_2) (fun _ _ => ⟨rfl, e0, (ol rfl), (ol rfl)⟩)
 dsimp only [Pt.U, Pt.locs, Pt.cells, Pt.slots] at X1 l1 y1 z1 st1 hQ1
 subst l1 y1 z1
 obtain ⟨rfl, N1q, eh1⟩ := hQ1
 have N1 := Fr.app N0 N1q
 refine ot (S' := T1.setTop (mkF m 5 #[vR sb, vI 0, vR x1] [])) st1 ?_
 refine oo (S' := T1.setTop (mkF m 7 #[vR sb, vI 0, vR x1] [(.ref sb), (.ref x1)])) (fun _ kK => XS.aloadN X1.here hx rfl (D d18_5) rfl rfl (XS.aloadN X1.here hx rfl (D d18_6) rfl rfl kK)) ?_
 obtain ⟨T2, X2, e2, st2⟩ := getF X1 hx hZ hown (host := "") (Or.inl (w_ G 57 rfl)) Via.refl eh1 P1 (g := (mkF m 7 #[vR sb, vI 0, vR x1] [(.ref sb), (.ref x1)])) rfl rfl (D d18_7)
 refine oo (S' := T2.setTop (mkF m 10 #[vR sb, vI 0, vR x1] [(.ref vb), (.ref x1)])) st2 ?_
 refine oo (S' := T2.setTop (mkF m 12 #[vR sb, vI 0, vR x1] [(.ref sb), (.int 0), (.ref vb), (.ref x1)])) (fun _ kK => XS.iloadN X2.here hx rfl (D d18_10) rfl (XS.aloadN X2.here hx rfl (D d18_11) rfl rfl kK)) ?_
 obtain ⟨T3, X3, e3, st3⟩ := getF X2 hx hZ hown (host := "") (Or.inl (w_ G 59 rfl)) Via.refl e2 P2 (g := (mkF m 12 #[vR sb, vI 0, vR x1] [(.ref sb), (.int 0), (.ref vb), (.ref x1)])) rfl rfl (D d18_12)
 refine oo (S' := T3.setTop (mkF m 15 #[vR sb, vI 0, vR x1] [(.int 0), (.int 0), (.ref vb), (.ref x1)])) st3 ?_
 obtain ⟨cq4, kq4, q4a, q4b, q4c⟩ := isOf hZ e3 P5
 obtain ⟨_, _, ⟨T4, L4, k4, n4⟩, -, X4, ⟨Lc4, hQ4, l4, y4, z4⟩, st4⟩ := X3.virtualBack hx (y := own_m17) (z := own_m17) hown (mw hZ G 100 rfl) (mw hZ G 101 rfl) (notFace_of_selects (args := #[]) (mw hZ G 103 rfl)) (mw hZ G 103 rfl) (mw hZ G 102 rfl) (by decide) (backOf (W := 0) (rmgb03 l Z a0 G [] x1 t1 k1 w0 w1 w2 vb kv h0 n0 O0 P5 P6 P7 P8 P4 (by omega) (on (by omega))) hZ (w_ G 104 rfl) (w_ G 3 rfl) (by decide) (by decide)) q4a q4c (g := (mkF m 15 #[vR sb, vI 0, vR x1] [(.int 0), (.int 0), (.ref vb), (.ref x1)])) rfl (by rw [hml]; rfl) (Steps.refl _) (argsL := [(.ref vb), (.int 0), (.int 0)]) (rest := []) (lenOf pd_9 rfl) rfl (own_z rfl) (D d18_15) (fun _ _ => ⟨rfl, e3, (ol rfl), (ol rfl)⟩)
 dsimp only [Pt.U, Pt.locs, Pt.cells, Pt.slots] at X4 l4 y4 z4 st4 hQ4
 subst l4 y4 z4
 obtain ⟨rfl, N4q, Kq4, r4_0⟩ := hQ4
 have N4 := Fr.app N1 N4q
 have sz5 := Kq4.1
 have K5 := K0.trans Kq4 (own_all1 (Or.inl (by simp)))
 have ltr4_0 := lN r4_0.lt
 refine ot (S' := T4.setTop (mkF m 18 #[vR sb, vI 0, vR x1] [])) st4 ?_
 refine OwnEnd.ret X4 (v := none) (fun _ => rfl) hlk (fun fs hr => X4.returnOut hx Bd.returns (D d18_18) hr) (by decide) (by decide) (Q := Qps03 Z sb vb kv x1 t1 k1 w0 w1 w2 h0 n0) rfl ?_
 exact ⟨rfl, N4, K5, r4_0⟩

theorem own_efaa03 (m : MethodId) (sb : Addr) (x1 : Addr) : entryFrame m #[(.ref sb), (.ref x1)] 3 = mkF m 0 #[vR sb, vR x1, .unset] [] := by first | (simp [entryFrame, mkF, argsToLocals, Value.category]; done) | rfl
def Qaa03 (Z : State) (sb : Addr) (vb : Addr) (kv : ClassId) (x1 : Addr) (t1 : Addr) (k1 : ClassId) (w0 : Value) (w1 : Value) (w2 : Value) (h0 : Heap) (n0 : Nat) (v : Option Value) (h : Heap) (L : List Loc) : Prop := v = some (.ref sb) ∧ Fr n0 L ∧ Keep h0 h [sb, vb] ∧ (Exa Z h sb j2) ∧ (Fld Z h sb j0 "value" "[B" (.ref vb)) ∧ (Fld Z h sb j0 "coder" "B" (.int 0)) ∧ (Fld Z h sb j0 "count" "I" (.int 3)) ∧ (Arv Z h vb kv .byte (16 : Int32) [w0, w1, w2, (.int 0), (.int 0), (.int 0), (.int 0), (.int 0), (.int 0), (.int 0), (.int 0), (.int 0), (.int 0), (.int 0), (.int 0), (.int 0)] (.int 0))
set_option maxRecDepth 65536 in
set_option maxHeartbeats 40000000 in
theorem rmaa03 (l : Launch) (Z : State) (a0 : Array Value) (G : OwnG Z a0) (ws : List Jvm.Cond) (sb : Addr) (vb : Addr) (kv : ClassId) (x1 : Addr) (t1 : Addr) (k1 : ClassId) (w0 : Value) (w1 : Value) (w2 : Value) (h0 : Heap) (n0 : Nat) (O0 : Old Z n0 h0) (P0 : Exa Z h0 sb j2) (P1 : Fld Z h0 sb j0 "value" "[B" (.ref vb)) (P2 : Fld Z h0 sb j0 "coder" "B" (.int 0)) (P3 : Fld Z h0 sb j0 "count" "I" (.int 0)) (P4 : Arv Z h0 vb kv .byte (16 : Int32) [(.int 0), (.int 0), (.int 0), (.int 0), (.int 0), (.int 0), (.int 0), (.int 0), (.int 0), (.int 0), (.int 0), (.int 0), (.int 0), (.int 0), (.int 0), (.int 0)] (.int 0)) (P5 : Exa Z h0 x1 j1) (P6 : Fld Z h0 x1 j1 "value" "[B" (.ref t1)) (P7 : Fld Z h0 x1 j1 "coder" "B" (.int 0)) (P8 : Arv Z h0 t1 k1 .byte (3 : Int32) [w0, w1, w2] (.int 0)) (P9 : n0 ≤ sb) (P10 : n0 ≤ vb) (P11 : sb ≠ vb) (P12 : t1 ≠ vb) (P13 : t1 ≠ sb) (P14 : x1 ≠ vb) (P15 : x1 ≠ sb) :
  MetFree l own_m19 (head1 (Jvm.Cond.code own_m19 B25 3 (some (.object j0)) :: ws) (rR 3 0 0 47)) (fun a U => a = #[(.ref sb), (.ref x1)] ∧ Z.Warmed39 U.vm ∧ U.heap = h0) (fun _ _ _ _ _ => True) (fun _ U o U' => ∃ v L, o = .returned v ∧ Qaa03 Z sb vb kv x1 t1 k1 w0 w1 w2 h0 n0 v U'.heap L ∧ FrameEnd U o U' L (rR 3 0 0 47).cells (rR 3 0 0 47).slots) := by
 refine MetFree.of_bodySF (plainFor_of_name pn_3) hisR ?_
 intro p e s m args below meth cD s₁ Bd hml0 hP hK
 obtain ⟨rfl, hZ, hh⟩ := hP
 have hml : cD.maxLocals = 3 := hml0
 obtain ⟨hx, hby, (hown : s.vm.findClass j0 = some m.cls), hlk, X0, e0⟩ := own_st Bd hh
 have D := @hb _ _ hby
 have lt0 := lN P0.lt
 have lt1 := lN P1.lt
 have lt2 := lN P2.lt
 have lt3 := lN P3.lt
 have lt4 := lN P4.lt
 have lt5 := lN P5.lt
 have lt6 := lN P6.lt
 have lt7 := lN P7.lt
 have lt8 := lN P8.lt
 have nP11 := own_neN P11
 have nP12 := own_neN P12
 have nP13 := own_neN P13
 have nP14 := own_neN P14
 have nP15 := own_neN P15
 have K0 : Keep h0 h0 [sb, vb] := Keep.refl h0 _
 have Z0 := own_old_le O0
 have N0 := Fr.nil n0
 refine OwnEnd.start (g' := (mkF m 0 #[vR sb, vR x1, .unset] [])) (own_efaa03 m sb x1) ?_
 refine oo (S' := s₁.setTop (mkF m 10 #[vR sb, vR x1, .unset] [(.ref x1)])) (fun _ kK => XS.aloadN X0.here hx rfl (D d19_0) rfl rfl (XS.ifnonnullYes X0.here hx rfl (pc0 := 1) (pc' := 9) rfl (D d19_1) rfl (by decide) (by decide) (XS.aloadN X0.here hx rfl (D d19_9) rfl rfl kK))) ?_
 obtain ⟨cq1, kq1, q1a, q1b, q1c⟩ := isOf hZ e0 P5
 obtain ⟨_, _, ⟨T1, L1, k1, n1⟩, -, X1, ⟨Lc1, hQ1, l1, y1, z1⟩, st1⟩ := X0.virtualBack hx (y := own_m6) (z := own_m6) hown (mw hZ G 71 rfl) (mw hZ G 72 rfl) (notFace_of_selects (args := #[]) (mw hZ G 74 rfl)) (mw hZ G 74 rfl) (mw hZ G 73 rfl) (by decide) (backOf (W := 0) (rmln0 l Z a0 G [] x1 t1 k1 (3 : Int32) [w0, w1, w2] (.int 0) h0 n0 O0 P5 P6 P7 P8) hZ (w_ G 75 rfl) (w_ G 3 rfl) (by decide) (by decide)) q1a q1c (g := (mkF m 10 #[vR sb, vR x1, .unset] [(.ref x1)])) rfl (by rw [hml]; rfl) (Steps.refl _) (argsL := []) (rest := []) (lenOf pd_7 rfl) rfl (own_z rfl) (D d19_10) (fun _ _ => ⟨rfl, e0, (ol rfl), (ol rfl)⟩)
 dsimp only [Pt.U, Pt.locs, Pt.cells, Pt.slots] at X1 l1 y1 z1 st1 hQ1
 subst l1 y1 z1
 obtain ⟨rfl, N1q, eh1⟩ := hQ1
 have N1 := Fr.app N0 N1q
 refine ot (S' := T1.setTop (mkF m 13 #[vR sb, vR x1, .unset] [(.int 3)])) st1 ?_
 refine oo (S' := T1.setTop (mkF m 16 #[vR sb, vR x1, vI 3] [(.ref sb), (.ref sb)])) (fun _ kK => XS.istoreN X1.here hx rfl (D d19_13) rfl (l' := #[vR sb, vR x1, vI 3]) rfl (XS.aloadN X1.here hx rfl (D d19_14) rfl rfl (XS.aloadN X1.here hx rfl (D d19_15) rfl rfl kK))) ?_
 obtain ⟨T2, X2, e2, st2⟩ := getF X1 hx hZ hown (host := "") (Or.inl (w_ G 82 rfl)) Via.refl eh1 P3 (g := (mkF m 16 #[vR sb, vR x1, vI 3] [(.ref sb), (.ref sb)])) rfl rfl (D d19_16)
 refine oo (S' := T2.setTop (mkF m 19 #[vR sb, vR x1, vI 3] [(.int 0), (.ref sb)])) st2 ?_
 refine oo (S' := T2.setTop (mkF m 21 #[vR sb, vR x1, vI 3] [(.int 3), (.ref sb)])) (fun _ kK => XS.iloadN X2.here hx rfl (D d19_19) rfl (XS.iadd X2.here hx rfl (D d19_20) rfl kK)) ?_
 obtain ⟨cq3, kq3, q3a, q3b, cc3, q3d, -, q3e⟩ := isOf hZ e2 P0
 obtain ⟨_, _, ⟨T3, L3, k3, n3⟩, -, X3, ⟨Lc3, hQ3, l3, y3, z3⟩, st3⟩ := X2.privateBack hx (y := own_m12) hown (mw hZ G 84 rfl) (mw hZ G 85 rfl) (own_selP (oI (mw hZ G 87 rfl) rfl) (mw hZ G 85 rfl) (Cond.privateMethod_at (args := #[]) (mw hZ G 86 rfl)) (by decide)) (Cond.privateMethod_at (args := #[]) (mw hZ G 86 rfl)) (mw hZ G 88 rfl) (by decide) (backOf (W := 0) (rmec l Z a0 G [] sb vb kv [(.int 0), (.int 0), (.int 0), (.int 0), (.int 0), (.int 0), (.int 0), (.int 0), (.int 0), (.int 0), (.int 0), (.int 0), (.int 0), (.int 0), (.int 0), (.int 0)] (3 : Int32) h0 n0 O0 P1 P2 P4 (by decide)) hZ (w_ G 88 rfl) (w_ G 53 rfl) (by decide) (by decide)) (g := (mkF m 21 #[vR sb, vR x1, vI 3] [(.int 3), (.ref sb)])) rfl (by rw [hml]; rfl) (Steps.refl _) q3d (own_nost q3e) (argsL := [(.int 3)]) (rest := []) (lenOf pd_6 rfl) rfl (own_z rfl) (D d19_21) (fun _ _ => ⟨rfl, e2, (ol rfl), (ol rfl)⟩)
 dsimp only [Pt.U, Pt.locs, Pt.cells, Pt.slots] at X3 l3 y3 z3 st3 hQ3
 subst l3 y3 z3
 obtain ⟨rfl, N3q, eh3⟩ := hQ3
 have N3 := Fr.app N1 N3q
 refine ot (S' := T3.setTop (mkF m 24 #[vR sb, vR x1, vI 3] [])) st3 ?_
 refine oo (S' := T3.setTop (mkF m 26 #[vR sb, vR x1, vI 3] [(.ref sb), (.ref sb)])) (fun _ kK => XS.aloadN X3.here hx rfl (D d19_24) rfl rfl (XS.aloadN X3.here hx rfl (D d19_25) rfl rfl kK)) ?_
 obtain ⟨T4, X4, e4, st4⟩ := getF X3 hx hZ hown (host := "") (Or.inl (w_ G 82 rfl)) Via.refl eh3 P3 (g := (mkF m 26 #[vR sb, vR x1, vI 3] [(.ref sb), (.ref sb)])) rfl rfl (D d19_26)
 refine oo (S' := T4.setTop (mkF m 29 #[vR sb, vR x1, vI 3] [(.int 0), (.ref sb)])) st4 ?_
 refine oo (S' := T4.setTop (mkF m 30 #[vR sb, vR x1, vI 3] [(.ref x1), (.int 0), (.ref sb)])) (fun _ kK => XS.aloadN X4.here hx rfl (D d19_29) rfl rfl kK) ?_
 obtain ⟨cq5, kq5, q5a, q5b, cc5, q5d, -, q5e⟩ := isOf hZ e4 P0
 obtain ⟨_, _, ⟨T5, L5, k5, n5⟩, -, X5, ⟨Lc5, hQ5, l5, y5, z5⟩, st5⟩ := X4.privateBack hx (y := own_m18) hown (mw hZ G 89 rfl) (mw hZ G 90 rfl) (own_selP (oI (mw hZ G 87 rfl) rfl) (mw hZ G 90 rfl) (Cond.privateMethod_at (args := #[]) (mw hZ G 91 rfl)) (by decide)) (Cond.privateMethod_at (args := #[]) (mw hZ G 91 rfl)) (mw hZ G 93 rfl) (by decide) (backOf (W := 0) (rmps03 l Z a0 G [] sb vb kv x1 t1 k1 w0 w1 w2 h0 n0 O0 P0 P1 P2 P3 P4 P5 P6 P7 P8 (by omega) (by omega) (on (by omega)) (on (by omega)) (on (by omega)) (on (by omega)) (on (by omega))) hZ (w_ G 93 rfl) (w_ G 53 rfl) (by decide) (by decide)) (g := (mkF m 30 #[vR sb, vR x1, vI 3] [(.ref x1), (.int 0), (.ref sb)])) rfl (by rw [hml]; rfl) (Steps.refl _) q5d (own_nost q5e) (argsL := [(.int 0), (.ref x1)]) (rest := []) (lenOf pd_10 rfl) rfl (own_z rfl) (D d19_30) (fun _ _ => ⟨rfl, e4, (ol rfl), (ol rfl)⟩)
 dsimp only [Pt.U, Pt.locs, Pt.cells, Pt.slots] at X5 l5 y5 z5 st5 hQ5
 subst l5 y5 z5
 obtain ⟨rfl, N5q, Kq5, r5_0⟩ := hQ5
 have N5 := Fr.app N3 N5q
 have sz6 := Kq5.1
 have K6 := K0.trans Kq5 (own_all1 (Or.inl (by simp)))
 have ltr5_0 := lN r5_0.lt
 refine ot (S' := T5.setTop (mkF m 33 #[vR sb, vR x1, vI 3] [])) st5 ?_
 refine oo (S' := T5.setTop (mkF m 35 #[vR sb, vR x1, vI 3] [(.ref sb), (.ref sb)])) (fun _ kK => XS.aloadN X5.here hx rfl (D d19_33) rfl rfl (XS.dup X5.here hx rfl (D d19_34) rfl rfl kK)) ?_
 have f8 := (P3.keep Kq5 (own_nin1 (on (by omega))))
 obtain ⟨T7, X7, e7, st7⟩ := getF X5 hx hZ hown (host := "") (Or.inl (w_ G 82 rfl)) Via.refl rfl f8 (g := (mkF m 35 #[vR sb, vR x1, vI 3] [(.ref sb), (.ref sb)])) rfl rfl (D d19_35)
 refine oo (S' := T7.setTop (mkF m 38 #[vR sb, vR x1, vI 3] [(.int 0), (.ref sb)])) st7 ?_
 refine oo (S' := T7.setTop (mkF m 40 #[vR sb, vR x1, vI 3] [(.int 3), (.ref sb)])) (fun _ kK => XS.iloadN X7.here hx rfl (D d19_38) rfl (XS.iadd X7.here hx rfl (D d19_39) rfl kK)) ?_
 have f10 := (P0.keep Kq5)
 obtain ⟨T9, h9, X9, e9, W9, st9⟩ := putF X7 hx hZ hown (host := "") (Or.inl (w_ G 82 rfl)) Via.refl e7 f8 f10 (Or.inl (w_ G 83 rfl)) (w_ G 44 rfl) (ty := .int) (by decide) rfl rfl (g := (mkF m 40 #[vR sb, vR x1, vI 3] [(.int 3), (.ref sb)])) rfl rfl (D d19_40)
 have Fw9 := f8.same W9
 have N9 := Fr.snoc X9 N5 (by omega)
 have sz11 := own_wr_le W9
 have K11 := K6.wr W9 (Or.inl (by simp))
 refine oo (S' := T9.setTop (mkF m 43 #[vR sb, vR x1, vI 3] [])) st9 ?_
 refine oo (S' := T9.setTop (mkF m 44 #[vR sb, vR x1, vI 3] [(.ref sb)])) (fun _ kK => XS.aloadN X9.here hx rfl (D d19_43) rfl rfl kK) ?_
 have f12 := (f10.wr W9)
 have f13 := ((P1.keep Kq5 (own_nin1 (on (by omega)))).other W9 (Or.inr (slot_ne (Or.inl (w_ G 58 rfl)) (Or.inl (w_ G 83 rfl)) (by decide) (t := (.array .byte)) (t' := .int) (by decide) (by decide))))
 have f14 := ((P2.keep Kq5 (own_nin1 (on (by omega)))).other W9 (Or.inr (slot_ne (Or.inl (w_ G 60 rfl)) (Or.inl (w_ G 83 rfl)) (by decide) (t := .byte) (t' := .int) (by decide) (by decide))))
 have f15 := (r5_0.other W9 (on (by omega)))
 refine OwnEnd.ret X9 (v := (some (.ref sb))) (fun h => by rw [Bd.returns] at h; cases h) hlk (fun fs hr => retOut X9 hx Bd.returns rfl (Or.inr (Or.inr (Or.inr (Or.inr ⟨rfl, rfl, rfl⟩)))) (D d19_44) hr) (by decide) (by decide) (Q := Qaa03 Z sb vb kv x1 t1 k1 w0 w1 w2 h0 n0) e9 ?_
 exact ⟨rfl, N9, K11, f12, f13, f14, Fw9, f15⟩

theorem own_efsa03 (m : MethodId) (sb : Addr) (x1 : Addr) : entryFrame m #[(.ref sb), (.ref x1)] 2 = mkF m 0 #[vR sb, vR x1] [] := by first | (simp [entryFrame, mkF, argsToLocals, Value.category]; done) | rfl
def Qsa03 (Z : State) (sb : Addr) (vb : Addr) (kv : ClassId) (x1 : Addr) (t1 : Addr) (k1 : ClassId) (w0 : Value) (w1 : Value) (w2 : Value) (h0 : Heap) (n0 : Nat) (v : Option Value) (h : Heap) (L : List Loc) : Prop := v = some (.ref sb) ∧ Fr n0 L ∧ Keep h0 h [sb, vb] ∧ (Exa Z h sb j2) ∧ (Fld Z h sb j0 "value" "[B" (.ref vb)) ∧ (Fld Z h sb j0 "coder" "B" (.int 0)) ∧ (Fld Z h sb j0 "count" "I" (.int 3)) ∧ (Arv Z h vb kv .byte (16 : Int32) [w0, w1, w2, (.int 0), (.int 0), (.int 0), (.int 0), (.int 0), (.int 0), (.int 0), (.int 0), (.int 0), (.int 0), (.int 0), (.int 0), (.int 0)] (.int 0))
set_option maxRecDepth 65536 in
set_option maxHeartbeats 40000000 in
theorem rmsa03 (l : Launch) (Z : State) (a0 : Array Value) (G : OwnG Z a0) (ws : List Jvm.Cond) (sb : Addr) (vb : Addr) (kv : ClassId) (x1 : Addr) (t1 : Addr) (k1 : ClassId) (w0 : Value) (w1 : Value) (w2 : Value) (h0 : Heap) (n0 : Nat) (O0 : Old Z n0 h0) (P0 : Exa Z h0 sb j2) (P1 : Fld Z h0 sb j0 "value" "[B" (.ref vb)) (P2 : Fld Z h0 sb j0 "coder" "B" (.int 0)) (P3 : Fld Z h0 sb j0 "count" "I" (.int 0)) (P4 : Arv Z h0 vb kv .byte (16 : Int32) [(.int 0), (.int 0), (.int 0), (.int 0), (.int 0), (.int 0), (.int 0), (.int 0), (.int 0), (.int 0), (.int 0), (.int 0), (.int 0), (.int 0), (.int 0), (.int 0)] (.int 0)) (P5 : Exa Z h0 x1 j1) (P6 : Fld Z h0 x1 j1 "value" "[B" (.ref t1)) (P7 : Fld Z h0 x1 j1 "coder" "B" (.int 0)) (P8 : Arv Z h0 t1 k1 .byte (3 : Int32) [w0, w1, w2] (.int 0)) (P9 : n0 ≤ sb) (P10 : n0 ≤ vb) (P11 : sb ≠ vb) (P12 : t1 ≠ vb) (P13 : t1 ≠ sb) (P14 : x1 ≠ vb) (P15 : x1 ≠ sb) :
  MetFree l own_m20 (head1 (Jvm.Cond.code own_m20 B26 2 (some (.object j2)) :: ws) (rR 4 0 0 61)) (fun a U => a = #[(.ref sb), (.ref x1)] ∧ Z.Warmed39 U.vm ∧ U.heap = h0) (fun _ _ _ _ _ => True) (fun _ U o U' => ∃ v L, o = .returned v ∧ Qsa03 Z sb vb kv x1 t1 k1 w0 w1 w2 h0 n0 v U'.heap L ∧ FrameEnd U o U' L (rR 4 0 0 61).cells (rR 4 0 0 61).slots) := by
 refine MetFree.of_bodySF (plainFor_of_name pn_4) hisR ?_
 intro p e s m args below meth cD s₁ Bd hml0 hP hK
 obtain ⟨rfl, hZ, hh⟩ := hP
 have hml : cD.maxLocals = 2 := hml0
 obtain ⟨hx, hby, (hown : s.vm.findClass j2 = some m.cls), hlk, X0, e0⟩ := own_st Bd hh
 have D := @hb _ _ hby
 have lt0 := lN P0.lt
 have lt1 := lN P1.lt
 have lt2 := lN P2.lt
 have lt3 := lN P3.lt
 have lt4 := lN P4.lt
 have lt5 := lN P5.lt
 have lt6 := lN P6.lt
 have lt7 := lN P7.lt
 have lt8 := lN P8.lt
 have nP11 := own_neN P11
 have nP12 := own_neN P12
 have nP13 := own_neN P13
 have nP14 := own_neN P14
 have nP15 := own_neN P15
 have K0 : Keep h0 h0 [sb, vb] := Keep.refl h0 _
 have Z0 := own_old_le O0
 have N0 := Fr.nil n0
 refine OwnEnd.start (g' := (mkF m 0 #[vR sb, vR x1] [])) (own_efsa03 m sb x1) ?_
 refine oo (S' := s₁.setTop (mkF m 2 #[vR sb, vR x1] [(.ref x1), (.ref sb)])) (fun _ kK => XS.aloadN X0.here hx rfl (D d20_0) rfl rfl (XS.aloadN X0.here hx rfl (D d20_1) rfl rfl kK)) ?_
 obtain ⟨_, _, ⟨T1, L1, k1, n1⟩, -, X1, ⟨Lc1, hQ1, l1, y1, z1⟩, st1⟩ := superBack X0 hx hZ hown (y := own_m19) (w_ G 66 rfl) (own_same (own_notI (w_ G 87 rfl) rfl) (w_ G 67 rfl) (by decide)) (w_ G 67 rfl) (w_ G 68 rfl) (by decide) (backOf (W := 0) (rmaa03 l Z a0 G [] sb vb kv x1 t1 k1 w0 w1 w2 h0 n0 O0 P0 P1 P2 P3 P4 P5 P6 P7 P8 (by omega) (by omega) (on (by omega)) (on (by omega)) (on (by omega)) (on (by omega)) (on (by omega))) hZ (w_ G 70 rfl) (w_ G 53 rfl) (by decide) (by decide)) e0 (Ins.self P0) (g := (mkF m 2 #[vR sb, vR x1] [(.ref x1), (.ref sb)])) rfl (by rw [hml]; rfl) (w_ G 70 rfl) (argsL := [(.ref x1)]) (rest := []) (lenOf pd_11 rfl) rfl (own_z rfl) (D d20_2) (fun _ _ => ⟨rfl, e0, (ol rfl), (ol rfl)⟩)
 dsimp only [Pt.U, Pt.locs, Pt.cells, Pt.slots] at X1 l1 y1 z1 st1 hQ1
 subst l1 y1 z1
 obtain ⟨rfl, N1q, Kq1, r1_0, r1_1, r1_2, r1_3, r1_4⟩ := hQ1
 have N1 := Fr.app N0 N1q
 have sz2 := Kq1.1
 have K2 := K0.trans Kq1 (own_all2 (Or.inl (by simp)) (Or.inl (by simp)))
 have ltr1_0 := lN r1_0.lt
 have ltr1_1 := lN r1_1.lt
 have ltr1_2 := lN r1_2.lt
 have ltr1_3 := lN r1_3.lt
 have ltr1_4 := lN r1_4.lt
 refine ot (S' := T1.setTop (mkF m 5 #[vR sb, vR x1] [(.ref sb)])) st1 ?_
 refine oo (S' := T1.setTop (mkF m 7 #[vR sb, vR x1] [(.ref sb)])) (fun _ kK => XS.pop X1.here hx rfl (D d20_5) rfl rfl (XS.aloadN X1.here hx rfl (D d20_6) rfl rfl kK)) ?_
 refine OwnEnd.ret X1 (v := (some (.ref sb))) (fun h => by rw [Bd.returns] at h; cases h) hlk (fun fs hr => retOut X1 hx Bd.returns rfl (Or.inr (Or.inr (Or.inr (Or.inr ⟨rfl, rfl, rfl⟩)))) (D d20_7) hr) (by decide) (by decide) (Q := Qsa03 Z sb vb kv x1 t1 k1 w0 w1 w2 h0 n0) rfl ?_
 exact ⟨rfl, N1, K2, r1_0, r1_1, r1_2, r1_3, r1_4⟩

theorem own_efgb11 (m : MethodId) (x1 : Addr) (vb : Addr) : entryFrame m #[(.ref x1), (.ref vb), (.int 1), (.int 0)] 4 = mkF m 0 #[vR x1, vR vb, vI 1, vI 0] [] := by first | (simp [entryFrame, mkF, argsToLocals, Value.category]; done) | rfl
def Qgb11 (Z : State) (x1 : Addr) (t1 : Addr) (k1 : ClassId) (w0 : Value) (vb : Addr) (kv : ClassId) (u0 : Value) (h0 : Heap) (n0 : Nat) (v : Option Value) (h : Heap) (L : List Loc) : Prop := v = none ∧ Fr n0 L ∧ Keep h0 h [vb] ∧ (Arv Z h vb kv .byte (16 : Int32) [u0, w0, (.int 0), (.int 0), (.int 0), (.int 0), (.int 0), (.int 0), (.int 0), (.int 0), (.int 0), (.int 0), (.int 0), (.int 0), (.int 0), (.int 0)] (.int 0))
set_option maxRecDepth 65536 in
set_option maxHeartbeats 40000000 in
theorem rmgb11 (l : Launch) (Z : State) (a0 : Array Value) (G : OwnG Z a0) (ws : List Jvm.Cond) (x1 : Addr) (t1 : Addr) (k1 : ClassId) (w0 : Value) (vb : Addr) (kv : ClassId) (u0 : Value) (h0 : Heap) (n0 : Nat) (O0 : Old Z n0 h0) (P0 : Exa Z h0 x1 j1) (P1 : Fld Z h0 x1 j1 "value" "[B" (.ref t1)) (P2 : Fld Z h0 x1 j1 "coder" "B" (.int 0)) (P3 : Arv Z h0 t1 k1 .byte (1 : Int32) [w0] (.int 0)) (P4 : Arv Z h0 vb kv .byte (16 : Int32) [u0, (.int 0), (.int 0), (.int 0), (.int 0), (.int 0), (.int 0), (.int 0), (.int 0), (.int 0), (.int 0), (.int 0), (.int 0), (.int 0), (.int 0), (.int 0)] (.int 0)) (P5 : n0 ≤ vb) (P6 : t1 ≠ vb) :
  MetFree l own_m17 (head1 (Jvm.Cond.code own_m17 B23 4 none :: ws) (rR 1 0 0 18)) (fun a U => a = #[(.ref x1), (.ref vb), (.int 1), (.int 0)] ∧ Z.Warmed39 U.vm ∧ U.heap = h0) (fun _ _ _ _ _ => True) (fun _ U o U' => ∃ v L, o = .returned v ∧ Qgb11 Z x1 t1 k1 w0 vb kv u0 h0 n0 v U'.heap L ∧ FrameEnd U o U' L (rR 1 0 0 18).cells (rR 1 0 0 18).slots) := by
 refine MetFree.of_bodySF (plainFor_of_name pn_0) hisR ?_
 intro p e s m args below meth cD s₁ Bd hml0 hP hK
 obtain ⟨rfl, hZ, hh⟩ := hP
 have hml : cD.maxLocals = 4 := hml0
 obtain ⟨hx, hby, (hown : s.vm.findClass j1 = some m.cls), hlk, X0, e0⟩ := own_st Bd hh
 have D := @hb _ _ hby
 have lt0 := lN P0.lt
 have lt1 := lN P1.lt
 have lt2 := lN P2.lt
 have lt3 := lN P3.lt
 have lt4 := lN P4.lt
 have nP6 := own_neN P6
 have K0 : Keep h0 h0 [vb] := Keep.refl h0 _
 have Z0 := own_old_le O0
 have N0 := Fr.nil n0
 let lv1 : Array Slot := #[vR x1, vR vb, vI 1, vI 0]
 refine OwnEnd.start (g' := (mkF m 0 lv1 [])) (own_efgb11 m x1 vb) ?_
 refine oo (S' := s₁.setTop (mkF m 1 lv1 [(.ref x1)])) (fun _ kK => XS.aloadN X0.here hx rfl (D d17_0) rfl rfl kK) ?_
 obtain ⟨cq2, kq2, q2a, q2b, q2c⟩ := isOf hZ e0 P0
 obtain ⟨_, _, ⟨T2, L2, k2, n2⟩, -, X2, ⟨Lc2, hQ2, l2, y2, z2⟩, st2⟩ := X0.virtualBack hx (y := own_m5) (z := own_m5) hown (mw hZ G 76 rfl) (mw hZ G 77 rfl) (notFace_of_selects (args := #[]) (mw hZ G 79 rfl)) (mw hZ G 79 rfl) (mw hZ G 78 rfl) (by decide) (backOf (W := 0) (rmcdr0 l Z a0 G [] x1 h0 n0 O0 P2) hZ (w_ G 80 rfl) (w_ G 3 rfl) (by decide) (by decide)) q2a q2c (g := (mkF m 1 lv1 [(.ref x1)])) rfl (by rw [hml]; rfl) (Steps.refl _) (argsL := []) (rest := []) (lenOf pd_2 rfl) rfl (own_z rfl) (D d17_1) (fun _ _ => ⟨rfl, e0, (ol rfl), (ol rfl)⟩)
 dsimp only [Pt.U, Pt.locs, Pt.cells, Pt.slots] at X2 l2 y2 z2 st2 hQ2
 subst l2 y2 z2
 obtain ⟨rfl, N2q, eh2⟩ := hQ2
 have N2 := Fr.app N0 N2q
 refine ot (S' := T2.setTop (mkF m 4 lv1 [(.int 0)])) st2 ?_
 refine oo (S' := T2.setTop (mkF m 9 lv1 [(.ref x1)])) (fun _ kK => XS.iloadN X2.here hx rfl (D d17_4) rfl (XS.icmpNo X2.here hx rfl (D d17_5) rfl (teq ((by decide : (0 : Int32) = (0 : Int32)))).2 (XS.aloadN X2.here hx rfl (D d17_8) rfl rfl kK))) ?_
 obtain ⟨T3, X3, e3, st3⟩ := getF X2 hx hZ hown (host := "") (Or.inl (w_ G 20 rfl)) Via.refl eh2 P1 (g := (mkF m 9 lv1 [(.ref x1)])) rfl rfl (D d17_9)
 refine oo (S' := T3.setTop (mkF m 12 lv1 [(.ref t1)])) st3 ?_
 refine oo (S' := T3.setTop (mkF m 18 lv1 [(.ref x1), (.int 1), (.ref vb), (.int 0), (.ref t1)])) (fun _ kK => XS.iconst X3.here hx rfl (D d17_12) (XS.aloadN X3.here hx rfl (D d17_13) rfl rfl (XS.iloadN X3.here hx rfl (D d17_14) rfl (XS.iloadN X3.here hx rfl (D d17_15) rfl (XS.ishl X3.here hx rfl (D d17_16) rfl (XS.aloadN X3.here hx rfl (D d17_17) rfl rfl kK)))))) ?_
 obtain ⟨T4, X4, e4, st4⟩ := getF X3 hx hZ hown (host := "") (Or.inl (w_ G 20 rfl)) Via.refl e3 P1 (g := (mkF m 18 lv1 [(.ref x1), (.int 1), (.ref vb), (.int 0), (.ref t1)])) rfl rfl (D d17_18)
 refine oo (S' := T4.setTop (mkF m 21 lv1 [(.ref t1), (.int 1), (.ref vb), (.int 0), (.ref t1)])) st4 ?_
 obtain ⟨cl5, Ar5, q5, S5, N5', H5, G5⟩ := id P3
 refine oo (S' := T4.setTop (mkF m 22 lv1 [(.int 1), (.int 1), (.ref vb), (.int 0), (.ref t1)])) (fun _ kK => X4.arraylength hx (by rw [e4]; exact Ar5.1) (State.isArrayOf_alike hZ.alike Ar5.2.1) (g := (mkF m 21 lv1 [(.ref t1), (.int 1), (.ref vb), (.int 0), (.ref t1)])) rfl rfl (D d17_21) _ (by rw [len_of S5 N5']; exact kK)) ?_
 obtain ⟨T6, h6, L6, X6, e6, N6, Kc6, Vc6, st6⟩ := cpA X4 hx hZ hown (w_ G 105 rfl) (w_ G 108 rfl) (w_ G 106 rfl) (w_ G 107 rfl) e4 P3 P4 (us := [w0]) (Or.inl ⟨rfl, rfl⟩) (sp := (0 : Int32)) (dp := (1 : Int32)) (nn := (1 : Int32)) (by decide) (by decide) (by decide) (by decide) (by decide) rfl (Nat.le_of_ble_eq_true rfl) N2 (by omega) (g := (mkF m 22 lv1 [(.int 1), (.int 1), (.ref vb), (.int 0), (.ref t1)])) rfl (by rw [hml]; rfl) rfl (D d17_22) (by decide) (W := 0) (own_z rfl) (by decide)
 have sz7 := Kc6.1
 have K7 := K0.trans Kc6 (own_all1 (Or.inl (by simp)))
 have V6 : Arv Z h6 vb kv .byte (16 : Int32) [u0, w0, (.int 0), (.int 0), (.int 0), (.int 0), (.int 0), (.int 0), (.int 0), (.int 0), (.int 0), (.int 0), (.int 0), (.int 0), (.int 0), (.int 0)] (.int 0) := Vc6
 refine oo (S' := T6.setTop (mkF m 25 lv1 [])) st6 ?_
 refine oo (S' := T6.setTop (mkF m 43 lv1 [])) (fun _ kK => XS.goto X6.here hx rfl (pc0 := 25) (pc' := 43) rfl (D d17_25) (by decide) (by decide) kK) ?_
 refine OwnEnd.ret X6 (v := none) (fun _ => rfl) hlk (fun fs hr => X6.returnOut hx Bd.returns (D d17_43) hr) (by decide) (by decide) (Q := Qgb11 Z x1 t1 k1 w0 vb kv u0 h0 n0) e6 ?_
 exact ⟨rfl, N6, K7, V6⟩

theorem own_efps11 (m : MethodId) (sb : Addr) (x1 : Addr) : entryFrame m #[(.ref sb), (.int 1), (.ref x1)] 3 = mkF m 0 #[vR sb, vI 1, vR x1] [] := by first | (simp [entryFrame, mkF, argsToLocals, Value.category]; done) | rfl
def Qps11 (Z : State) (sb : Addr) (vb : Addr) (kv : ClassId) (u0 : Value) (x1 : Addr) (t1 : Addr) (k1 : ClassId) (w0 : Value) (h0 : Heap) (n0 : Nat) (v : Option Value) (h : Heap) (L : List Loc) : Prop := v = none ∧ Fr n0 L ∧ Keep h0 h [vb] ∧ (Arv Z h vb kv .byte (16 : Int32) [u0, w0, (.int 0), (.int 0), (.int 0), (.int 0), (.int 0), (.int 0), (.int 0), (.int 0), (.int 0), (.int 0), (.int 0), (.int 0), (.int 0), (.int 0)] (.int 0))
set_option maxRecDepth 65536 in
set_option maxHeartbeats 40000000 in
theorem rmps11 (l : Launch) (Z : State) (a0 : Array Value) (G : OwnG Z a0) (ws : List Jvm.Cond) (sb : Addr) (vb : Addr) (kv : ClassId) (u0 : Value) (x1 : Addr) (t1 : Addr) (k1 : ClassId) (w0 : Value) (h0 : Heap) (n0 : Nat) (O0 : Old Z n0 h0) (P0 : Exa Z h0 sb j2) (P1 : Fld Z h0 sb j0 "value" "[B" (.ref vb)) (P2 : Fld Z h0 sb j0 "coder" "B" (.int 0)) (P3 : Fld Z h0 sb j0 "count" "I" (.int 1)) (P4 : Arv Z h0 vb kv .byte (16 : Int32) [u0, (.int 0), (.int 0), (.int 0), (.int 0), (.int 0), (.int 0), (.int 0), (.int 0), (.int 0), (.int 0), (.int 0), (.int 0), (.int 0), (.int 0), (.int 0)] (.int 0)) (P5 : Exa Z h0 x1 j1) (P6 : Fld Z h0 x1 j1 "value" "[B" (.ref t1)) (P7 : Fld Z h0 x1 j1 "coder" "B" (.int 0)) (P8 : Arv Z h0 t1 k1 .byte (1 : Int32) [w0] (.int 0)) (P9 : n0 ≤ sb) (P10 : n0 ≤ vb) (P11 : sb ≠ vb) (P12 : t1 ≠ vb) (P13 : t1 ≠ sb) (P14 : x1 ≠ vb) (P15 : x1 ≠ sb) :
  MetFree l own_m18 (head1 (Jvm.Cond.code own_m18 B24 3 none :: ws) (rR 2 0 0 33)) (fun a U => a = #[(.ref sb), (.int 1), (.ref x1)] ∧ Z.Warmed39 U.vm ∧ U.heap = h0) (fun _ _ _ _ _ => True) (fun _ U o U' => ∃ v L, o = .returned v ∧ Qps11 Z sb vb kv u0 x1 t1 k1 w0 h0 n0 v U'.heap L ∧ FrameEnd U o U' L (rR 2 0 0 33).cells (rR 2 0 0 33).slots) := by
 refine MetFree.of_bodySF (plainFor_of_name pn_3) hisR ?_
 intro p e s m args below meth cD s₁ Bd hml0 hP hK
 obtain ⟨rfl, hZ, hh⟩ := hP
 have hml : cD.maxLocals = 3 := hml0
 obtain ⟨hx, hby, (hown : s.vm.findClass j0 = some m.cls), hlk, X0, e0⟩ := own_st Bd hh
 have D := @hb _ _ hby
 have lt0 := lN P0.lt
 have lt1 := lN P1.lt
 have lt2 := lN P2.lt
 have lt3 := lN P3.lt
 have lt4 := lN P4.lt
 have lt5 := lN P5.lt
 have lt6 := lN P6.lt
 have lt7 := lN P7.lt
 have lt8 := lN P8.lt
 have nP11 := own_neN P11
 have nP12 := own_neN P12
 have nP13 := own_neN P13
 have nP14 := own_neN P14
 have nP15 := own_neN P15
 have K0 : Keep h0 h0 [vb] := Keep.refl h0 _
 have Z0 := own_old_le O0
 have N0 := Fr.nil n0
 refine OwnEnd.start (g' := (mkF m 0 #[vR sb, vI 1, vR x1] [])) (own_efps11 m sb x1) ?_
 refine oo (S' := s₁.setTop (mkF m 2 #[vR sb, vI 1, vR x1] [(.ref x1), (.ref sb)])) (fun _ kK => XS.aloadN X0.here hx rfl (D d18_0) rfl rfl (XS.aloadN X0.here hx rfl (D d18_1) rfl rfl kK)) ?_
 obtain ⟨cq1, kq1, q1a, q1b, cc1, q1d, -, q1e⟩ := isOf hZ e0 P0
 obtain ⟨_, _, ⟨T1, L1, k1, n1⟩, -, X1, ⟨Lc1, hQ1, l1, y1, z1⟩, st1⟩ := X0.privateBack hx (y := own_m16) hown (mw hZ G 94 rfl) (mw hZ G 95 rfl) (own_selP (oI (mw hZ G 87 rfl) rfl) (mw hZ G 95 rfl) (Cond.privateMethod_at (args := #[]) (mw hZ G 96 rfl)) (by decide)) (Cond.privateMethod_at (args := #[]) (mw hZ G 96 rfl)) (mw hZ G 98 rfl) (by decide) (backOf (W := 0) (rminf l Z a0 G [] sb x1 h0 n0 O0 P2 P5 P7) hZ (w_ G 98 rfl) (w_ G 53 rfl) (by decide) (by decide)) (g := (mkF m 2 #[vR sb, vI 1, vR x1] [(.ref x1), (.ref sb)])) rfl (by rw [hml]; rfl) (Steps.refl _) q1d (own_nost q1e) (argsL := [(.ref x1)]) (rest := []) (lenOf pd_8 rfl) rfl (own_z rfl) (D d18_2) (fun _ _ => ⟨rfl, e0, (ol rfl), (ol rfl)⟩)
 dsimp only [Pt.U, Pt.locs, Pt.cells, Pt.slots] at X1 l1 y1 z1 st1 hQ1
 subst l1 y1 z1
 obtain ⟨rfl, N1q, eh1⟩ := hQ1
 have N1 := Fr.app N0 N1q
 refine ot (S' := T1.setTop (mkF m 5 #[vR sb, vI 1, vR x1] [])) st1 ?_
 refine oo (S' := T1.setTop (mkF m 7 #[vR sb, vI 1, vR x1] [(.ref sb), (.ref x1)])) (fun _ kK => XS.aloadN X1.here hx rfl (D d18_5) rfl rfl (XS.aloadN X1.here hx rfl (D d18_6) rfl rfl kK)) ?_
 obtain ⟨T2, X2, e2, st2⟩ := getF X1 hx hZ hown (host := "") (Or.inl (w_ G 57 rfl)) Via.refl eh1 P1 (g := (mkF m 7 #[vR sb, vI 1, vR x1] [(.ref sb), (.ref x1)])) rfl rfl (D d18_7)
 refine oo (S' := T2.setTop (mkF m 10 #[vR sb, vI 1, vR x1] [(.ref vb), (.ref x1)])) st2 ?_
 refine oo (S' := T2.setTop (mkF m 12 #[vR sb, vI 1, vR x1] [(.ref sb), (.int 1), (.ref vb), (.ref x1)])) (fun _ kK => XS.iloadN X2.here hx rfl (D d18_10) rfl (XS.aloadN X2.here hx rfl (D d18_11) rfl rfl kK)) ?_
 obtain ⟨T3, X3, e3, st3⟩ := getF X2 hx hZ hown (host := "") (Or.inl (w_ G 59 rfl)) Via.refl e2 P2 (g := (mkF m 12 #[vR sb, vI 1, vR x1] [(.ref sb), (.int 1), (.ref vb), (.ref x1)])) rfl rfl (D d18_12)
 refine oo (S' := T3.setTop (mkF m 15 #[vR sb, vI 1, vR x1] [(.int 0), (.int 1), (.ref vb), (.ref x1)])) st3 ?_
 obtain ⟨cq4, kq4, q4a, q4b, q4c⟩ := isOf hZ e3 P5
 obtain ⟨_, _, ⟨T4, L4, k4, n4⟩, -, X4, ⟨Lc4, hQ4, l4, y4, z4⟩, st4⟩ := X3.virtualBack hx (y := own_m17) (z := own_m17) hown (mw hZ G 100 rfl) (mw hZ G 101 rfl) (notFace_of_selects (args := #[]) (mw hZ G 103 rfl)) (mw hZ G 103 rfl) (mw hZ G 102 rfl) (by decide) (backOf (W := 0) (rmgb11 l Z a0 G [] x1 t1 k1 w0 vb kv u0 h0 n0 O0 P5 P6 P7 P8 P4 (by omega) (on (by omega))) hZ (w_ G 104 rfl) (w_ G 3 rfl) (by decide) (by decide)) q4a q4c (g := (mkF m 15 #[vR sb, vI 1, vR x1] [(.int 0), (.int 1), (.ref vb), (.ref x1)])) rfl (by rw [hml]; rfl) (Steps.refl _) (argsL := [(.ref vb), (.int 1), (.int 0)]) (rest := []) (lenOf pd_9 rfl) rfl (own_z rfl) (D d18_15) (fun _ _ => ⟨rfl, e3, (ol rfl), (ol rfl)⟩)
 dsimp only [Pt.U, Pt.locs, Pt.cells, Pt.slots] at X4 l4 y4 z4 st4 hQ4
 subst l4 y4 z4
 obtain ⟨rfl, N4q, Kq4, r4_0⟩ := hQ4
 have N4 := Fr.app N1 N4q
 have sz5 := Kq4.1
 have K5 := K0.trans Kq4 (own_all1 (Or.inl (by simp)))
 have ltr4_0 := lN r4_0.lt
 refine ot (S' := T4.setTop (mkF m 18 #[vR sb, vI 1, vR x1] [])) st4 ?_
 refine OwnEnd.ret X4 (v := none) (fun _ => rfl) hlk (fun fs hr => X4.returnOut hx Bd.returns (D d18_18) hr) (by decide) (by decide) (Q := Qps11 Z sb vb kv u0 x1 t1 k1 w0 h0 n0) rfl ?_
 exact ⟨rfl, N4, K5, r4_0⟩

theorem own_efaa11 (m : MethodId) (sb : Addr) (x1 : Addr) : entryFrame m #[(.ref sb), (.ref x1)] 3 = mkF m 0 #[vR sb, vR x1, .unset] [] := by first | (simp [entryFrame, mkF, argsToLocals, Value.category]; done) | rfl
def Qaa11 (Z : State) (sb : Addr) (vb : Addr) (kv : ClassId) (u0 : Value) (x1 : Addr) (t1 : Addr) (k1 : ClassId) (w0 : Value) (h0 : Heap) (n0 : Nat) (v : Option Value) (h : Heap) (L : List Loc) : Prop := v = some (.ref sb) ∧ Fr n0 L ∧ Keep h0 h [sb, vb] ∧ (Exa Z h sb j2) ∧ (Fld Z h sb j0 "value" "[B" (.ref vb)) ∧ (Fld Z h sb j0 "coder" "B" (.int 0)) ∧ (Fld Z h sb j0 "count" "I" (.int 2)) ∧ (Arv Z h vb kv .byte (16 : Int32) [u0, w0, (.int 0), (.int 0), (.int 0), (.int 0), (.int 0), (.int 0), (.int 0), (.int 0), (.int 0), (.int 0), (.int 0), (.int 0), (.int 0), (.int 0)] (.int 0))
set_option maxRecDepth 65536 in
set_option maxHeartbeats 40000000 in
theorem rmaa11 (l : Launch) (Z : State) (a0 : Array Value) (G : OwnG Z a0) (ws : List Jvm.Cond) (sb : Addr) (vb : Addr) (kv : ClassId) (u0 : Value) (x1 : Addr) (t1 : Addr) (k1 : ClassId) (w0 : Value) (h0 : Heap) (n0 : Nat) (O0 : Old Z n0 h0) (P0 : Exa Z h0 sb j2) (P1 : Fld Z h0 sb j0 "value" "[B" (.ref vb)) (P2 : Fld Z h0 sb j0 "coder" "B" (.int 0)) (P3 : Fld Z h0 sb j0 "count" "I" (.int 1)) (P4 : Arv Z h0 vb kv .byte (16 : Int32) [u0, (.int 0), (.int 0), (.int 0), (.int 0), (.int 0), (.int 0), (.int 0), (.int 0), (.int 0), (.int 0), (.int 0), (.int 0), (.int 0), (.int 0), (.int 0)] (.int 0)) (P5 : Exa Z h0 x1 j1) (P6 : Fld Z h0 x1 j1 "value" "[B" (.ref t1)) (P7 : Fld Z h0 x1 j1 "coder" "B" (.int 0)) (P8 : Arv Z h0 t1 k1 .byte (1 : Int32) [w0] (.int 0)) (P9 : n0 ≤ sb) (P10 : n0 ≤ vb) (P11 : sb ≠ vb) (P12 : t1 ≠ vb) (P13 : t1 ≠ sb) (P14 : x1 ≠ vb) (P15 : x1 ≠ sb) :
  MetFree l own_m19 (head1 (Jvm.Cond.code own_m19 B25 3 (some (.object j0)) :: ws) (rR 3 0 0 47)) (fun a U => a = #[(.ref sb), (.ref x1)] ∧ Z.Warmed39 U.vm ∧ U.heap = h0) (fun _ _ _ _ _ => True) (fun _ U o U' => ∃ v L, o = .returned v ∧ Qaa11 Z sb vb kv u0 x1 t1 k1 w0 h0 n0 v U'.heap L ∧ FrameEnd U o U' L (rR 3 0 0 47).cells (rR 3 0 0 47).slots) := by
 refine MetFree.of_bodySF (plainFor_of_name pn_3) hisR ?_
 intro p e s m args below meth cD s₁ Bd hml0 hP hK
 obtain ⟨rfl, hZ, hh⟩ := hP
 have hml : cD.maxLocals = 3 := hml0
 obtain ⟨hx, hby, (hown : s.vm.findClass j0 = some m.cls), hlk, X0, e0⟩ := own_st Bd hh
 have D := @hb _ _ hby
 have lt0 := lN P0.lt
 have lt1 := lN P1.lt
 have lt2 := lN P2.lt
 have lt3 := lN P3.lt
 have lt4 := lN P4.lt
 have lt5 := lN P5.lt
 have lt6 := lN P6.lt
 have lt7 := lN P7.lt
 have lt8 := lN P8.lt
 have nP11 := own_neN P11
 have nP12 := own_neN P12
 have nP13 := own_neN P13
 have nP14 := own_neN P14
 have nP15 := own_neN P15
 have K0 : Keep h0 h0 [sb, vb] := Keep.refl h0 _
 have Z0 := own_old_le O0
 have N0 := Fr.nil n0
 refine OwnEnd.start (g' := (mkF m 0 #[vR sb, vR x1, .unset] [])) (own_efaa11 m sb x1) ?_
 refine oo (S' := s₁.setTop (mkF m 10 #[vR sb, vR x1, .unset] [(.ref x1)])) (fun _ kK => XS.aloadN X0.here hx rfl (D d19_0) rfl rfl (XS.ifnonnullYes X0.here hx rfl (pc0 := 1) (pc' := 9) rfl (D d19_1) rfl (by decide) (by decide) (XS.aloadN X0.here hx rfl (D d19_9) rfl rfl kK))) ?_
 obtain ⟨cq1, kq1, q1a, q1b, q1c⟩ := isOf hZ e0 P5
 obtain ⟨_, _, ⟨T1, L1, k1, n1⟩, -, X1, ⟨Lc1, hQ1, l1, y1, z1⟩, st1⟩ := X0.virtualBack hx (y := own_m6) (z := own_m6) hown (mw hZ G 71 rfl) (mw hZ G 72 rfl) (notFace_of_selects (args := #[]) (mw hZ G 74 rfl)) (mw hZ G 74 rfl) (mw hZ G 73 rfl) (by decide) (backOf (W := 0) (rmln0 l Z a0 G [] x1 t1 k1 (1 : Int32) [w0] (.int 0) h0 n0 O0 P5 P6 P7 P8) hZ (w_ G 75 rfl) (w_ G 3 rfl) (by decide) (by decide)) q1a q1c (g := (mkF m 10 #[vR sb, vR x1, .unset] [(.ref x1)])) rfl (by rw [hml]; rfl) (Steps.refl _) (argsL := []) (rest := []) (lenOf pd_7 rfl) rfl (own_z rfl) (D d19_10) (fun _ _ => ⟨rfl, e0, (ol rfl), (ol rfl)⟩)
 dsimp only [Pt.U, Pt.locs, Pt.cells, Pt.slots] at X1 l1 y1 z1 st1 hQ1
 subst l1 y1 z1
 obtain ⟨rfl, N1q, eh1⟩ := hQ1
 have N1 := Fr.app N0 N1q
 refine ot (S' := T1.setTop (mkF m 13 #[vR sb, vR x1, .unset] [(.int 1)])) st1 ?_
 refine oo (S' := T1.setTop (mkF m 16 #[vR sb, vR x1, vI 1] [(.ref sb), (.ref sb)])) (fun _ kK => XS.istoreN X1.here hx rfl (D d19_13) rfl (l' := #[vR sb, vR x1, vI 1]) rfl (XS.aloadN X1.here hx rfl (D d19_14) rfl rfl (XS.aloadN X1.here hx rfl (D d19_15) rfl rfl kK))) ?_
 obtain ⟨T2, X2, e2, st2⟩ := getF X1 hx hZ hown (host := "") (Or.inl (w_ G 82 rfl)) Via.refl eh1 P3 (g := (mkF m 16 #[vR sb, vR x1, vI 1] [(.ref sb), (.ref sb)])) rfl rfl (D d19_16)
 refine oo (S' := T2.setTop (mkF m 19 #[vR sb, vR x1, vI 1] [(.int 1), (.ref sb)])) st2 ?_
 refine oo (S' := T2.setTop (mkF m 21 #[vR sb, vR x1, vI 1] [(.int 2), (.ref sb)])) (fun _ kK => XS.iloadN X2.here hx rfl (D d19_19) rfl (XS.iadd X2.here hx rfl (D d19_20) rfl kK)) ?_
 obtain ⟨cq3, kq3, q3a, q3b, cc3, q3d, -, q3e⟩ := isOf hZ e2 P0
 obtain ⟨_, _, ⟨T3, L3, k3, n3⟩, -, X3, ⟨Lc3, hQ3, l3, y3, z3⟩, st3⟩ := X2.privateBack hx (y := own_m12) hown (mw hZ G 84 rfl) (mw hZ G 85 rfl) (own_selP (oI (mw hZ G 87 rfl) rfl) (mw hZ G 85 rfl) (Cond.privateMethod_at (args := #[]) (mw hZ G 86 rfl)) (by decide)) (Cond.privateMethod_at (args := #[]) (mw hZ G 86 rfl)) (mw hZ G 88 rfl) (by decide) (backOf (W := 0) (rmec l Z a0 G [] sb vb kv [u0, (.int 0), (.int 0), (.int 0), (.int 0), (.int 0), (.int 0), (.int 0), (.int 0), (.int 0), (.int 0), (.int 0), (.int 0), (.int 0), (.int 0), (.int 0)] (2 : Int32) h0 n0 O0 P1 P2 P4 (by decide)) hZ (w_ G 88 rfl) (w_ G 53 rfl) (by decide) (by decide)) (g := (mkF m 21 #[vR sb, vR x1, vI 1] [(.int 2), (.ref sb)])) rfl (by rw [hml]; rfl) (Steps.refl _) q3d (own_nost q3e) (argsL := [(.int 2)]) (rest := []) (lenOf pd_6 rfl) rfl (own_z rfl) (D d19_21) (fun _ _ => ⟨rfl, e2, (ol rfl), (ol rfl)⟩)
 dsimp only [Pt.U, Pt.locs, Pt.cells, Pt.slots] at X3 l3 y3 z3 st3 hQ3
 subst l3 y3 z3
 obtain ⟨rfl, N3q, eh3⟩ := hQ3
 have N3 := Fr.app N1 N3q
 refine ot (S' := T3.setTop (mkF m 24 #[vR sb, vR x1, vI 1] [])) st3 ?_
 refine oo (S' := T3.setTop (mkF m 26 #[vR sb, vR x1, vI 1] [(.ref sb), (.ref sb)])) (fun _ kK => XS.aloadN X3.here hx rfl (D d19_24) rfl rfl (XS.aloadN X3.here hx rfl (D d19_25) rfl rfl kK)) ?_
 obtain ⟨T4, X4, e4, st4⟩ := getF X3 hx hZ hown (host := "") (Or.inl (w_ G 82 rfl)) Via.refl eh3 P3 (g := (mkF m 26 #[vR sb, vR x1, vI 1] [(.ref sb), (.ref sb)])) rfl rfl (D d19_26)
 refine oo (S' := T4.setTop (mkF m 29 #[vR sb, vR x1, vI 1] [(.int 1), (.ref sb)])) st4 ?_
 refine oo (S' := T4.setTop (mkF m 30 #[vR sb, vR x1, vI 1] [(.ref x1), (.int 1), (.ref sb)])) (fun _ kK => XS.aloadN X4.here hx rfl (D d19_29) rfl rfl kK) ?_
 obtain ⟨cq5, kq5, q5a, q5b, cc5, q5d, -, q5e⟩ := isOf hZ e4 P0
 obtain ⟨_, _, ⟨T5, L5, k5, n5⟩, -, X5, ⟨Lc5, hQ5, l5, y5, z5⟩, st5⟩ := X4.privateBack hx (y := own_m18) hown (mw hZ G 89 rfl) (mw hZ G 90 rfl) (own_selP (oI (mw hZ G 87 rfl) rfl) (mw hZ G 90 rfl) (Cond.privateMethod_at (args := #[]) (mw hZ G 91 rfl)) (by decide)) (Cond.privateMethod_at (args := #[]) (mw hZ G 91 rfl)) (mw hZ G 93 rfl) (by decide) (backOf (W := 0) (rmps11 l Z a0 G [] sb vb kv u0 x1 t1 k1 w0 h0 n0 O0 P0 P1 P2 P3 P4 P5 P6 P7 P8 (by omega) (by omega) (on (by omega)) (on (by omega)) (on (by omega)) (on (by omega)) (on (by omega))) hZ (w_ G 93 rfl) (w_ G 53 rfl) (by decide) (by decide)) (g := (mkF m 30 #[vR sb, vR x1, vI 1] [(.ref x1), (.int 1), (.ref sb)])) rfl (by rw [hml]; rfl) (Steps.refl _) q5d (own_nost q5e) (argsL := [(.int 1), (.ref x1)]) (rest := []) (lenOf pd_10 rfl) rfl (own_z rfl) (D d19_30) (fun _ _ => ⟨rfl, e4, (ol rfl), (ol rfl)⟩)
 dsimp only [Pt.U, Pt.locs, Pt.cells, Pt.slots] at X5 l5 y5 z5 st5 hQ5
 subst l5 y5 z5
 obtain ⟨rfl, N5q, Kq5, r5_0⟩ := hQ5
 have N5 := Fr.app N3 N5q
 have sz6 := Kq5.1
 have K6 := K0.trans Kq5 (own_all1 (Or.inl (by simp)))
 have ltr5_0 := lN r5_0.lt
 refine ot (S' := T5.setTop (mkF m 33 #[vR sb, vR x1, vI 1] [])) st5 ?_
 refine oo (S' := T5.setTop (mkF m 35 #[vR sb, vR x1, vI 1] [(.ref sb), (.ref sb)])) (fun _ kK => XS.aloadN X5.here hx rfl (D d19_33) rfl rfl (XS.dup X5.here hx rfl (D d19_34) rfl rfl kK)) ?_
 have f8 := (P3.keep Kq5 (own_nin1 (on (by omega))))
 obtain ⟨T7, X7, e7, st7⟩ := getF X5 hx hZ hown (host := "") (Or.inl (w_ G 82 rfl)) Via.refl rfl f8 (g := (mkF m 35 #[vR sb, vR x1, vI 1] [(.ref sb), (.ref sb)])) rfl rfl (D d19_35)
 refine oo (S' := T7.setTop (mkF m 38 #[vR sb, vR x1, vI 1] [(.int 1), (.ref sb)])) st7 ?_
 refine oo (S' := T7.setTop (mkF m 40 #[vR sb, vR x1, vI 1] [(.int 2), (.ref sb)])) (fun _ kK => XS.iloadN X7.here hx rfl (D d19_38) rfl (XS.iadd X7.here hx rfl (D d19_39) rfl kK)) ?_
 have f10 := (P0.keep Kq5)
 obtain ⟨T9, h9, X9, e9, W9, st9⟩ := putF X7 hx hZ hown (host := "") (Or.inl (w_ G 82 rfl)) Via.refl e7 f8 f10 (Or.inl (w_ G 83 rfl)) (w_ G 44 rfl) (ty := .int) (by decide) rfl rfl (g := (mkF m 40 #[vR sb, vR x1, vI 1] [(.int 2), (.ref sb)])) rfl rfl (D d19_40)
 have Fw9 := f8.same W9
 have N9 := Fr.snoc X9 N5 (by omega)
 have sz11 := own_wr_le W9
 have K11 := K6.wr W9 (Or.inl (by simp))
 refine oo (S' := T9.setTop (mkF m 43 #[vR sb, vR x1, vI 1] [])) st9 ?_
 refine oo (S' := T9.setTop (mkF m 44 #[vR sb, vR x1, vI 1] [(.ref sb)])) (fun _ kK => XS.aloadN X9.here hx rfl (D d19_43) rfl rfl kK) ?_
 have f12 := (f10.wr W9)
 have f13 := ((P1.keep Kq5 (own_nin1 (on (by omega)))).other W9 (Or.inr (slot_ne (Or.inl (w_ G 58 rfl)) (Or.inl (w_ G 83 rfl)) (by decide) (t := (.array .byte)) (t' := .int) (by decide) (by decide))))
 have f14 := ((P2.keep Kq5 (own_nin1 (on (by omega)))).other W9 (Or.inr (slot_ne (Or.inl (w_ G 60 rfl)) (Or.inl (w_ G 83 rfl)) (by decide) (t := .byte) (t' := .int) (by decide) (by decide))))
 have f15 := (r5_0.other W9 (on (by omega)))
 refine OwnEnd.ret X9 (v := (some (.ref sb))) (fun h => by rw [Bd.returns] at h; cases h) hlk (fun fs hr => retOut X9 hx Bd.returns rfl (Or.inr (Or.inr (Or.inr (Or.inr ⟨rfl, rfl, rfl⟩)))) (D d19_44) hr) (by decide) (by decide) (Q := Qaa11 Z sb vb kv u0 x1 t1 k1 w0 h0 n0) e9 ?_
 exact ⟨rfl, N9, K11, f12, f13, f14, Fw9, f15⟩

theorem own_efsa11 (m : MethodId) (sb : Addr) (x1 : Addr) : entryFrame m #[(.ref sb), (.ref x1)] 2 = mkF m 0 #[vR sb, vR x1] [] := by first | (simp [entryFrame, mkF, argsToLocals, Value.category]; done) | rfl
def Qsa11 (Z : State) (sb : Addr) (vb : Addr) (kv : ClassId) (u0 : Value) (x1 : Addr) (t1 : Addr) (k1 : ClassId) (w0 : Value) (h0 : Heap) (n0 : Nat) (v : Option Value) (h : Heap) (L : List Loc) : Prop := v = some (.ref sb) ∧ Fr n0 L ∧ Keep h0 h [sb, vb] ∧ (Exa Z h sb j2) ∧ (Fld Z h sb j0 "value" "[B" (.ref vb)) ∧ (Fld Z h sb j0 "coder" "B" (.int 0)) ∧ (Fld Z h sb j0 "count" "I" (.int 2)) ∧ (Arv Z h vb kv .byte (16 : Int32) [u0, w0, (.int 0), (.int 0), (.int 0), (.int 0), (.int 0), (.int 0), (.int 0), (.int 0), (.int 0), (.int 0), (.int 0), (.int 0), (.int 0), (.int 0)] (.int 0))
set_option maxRecDepth 65536 in
set_option maxHeartbeats 40000000 in
theorem rmsa11 (l : Launch) (Z : State) (a0 : Array Value) (G : OwnG Z a0) (ws : List Jvm.Cond) (sb : Addr) (vb : Addr) (kv : ClassId) (u0 : Value) (x1 : Addr) (t1 : Addr) (k1 : ClassId) (w0 : Value) (h0 : Heap) (n0 : Nat) (O0 : Old Z n0 h0) (P0 : Exa Z h0 sb j2) (P1 : Fld Z h0 sb j0 "value" "[B" (.ref vb)) (P2 : Fld Z h0 sb j0 "coder" "B" (.int 0)) (P3 : Fld Z h0 sb j0 "count" "I" (.int 1)) (P4 : Arv Z h0 vb kv .byte (16 : Int32) [u0, (.int 0), (.int 0), (.int 0), (.int 0), (.int 0), (.int 0), (.int 0), (.int 0), (.int 0), (.int 0), (.int 0), (.int 0), (.int 0), (.int 0), (.int 0)] (.int 0)) (P5 : Exa Z h0 x1 j1) (P6 : Fld Z h0 x1 j1 "value" "[B" (.ref t1)) (P7 : Fld Z h0 x1 j1 "coder" "B" (.int 0)) (P8 : Arv Z h0 t1 k1 .byte (1 : Int32) [w0] (.int 0)) (P9 : n0 ≤ sb) (P10 : n0 ≤ vb) (P11 : sb ≠ vb) (P12 : t1 ≠ vb) (P13 : t1 ≠ sb) (P14 : x1 ≠ vb) (P15 : x1 ≠ sb) :
  MetFree l own_m20 (head1 (Jvm.Cond.code own_m20 B26 2 (some (.object j2)) :: ws) (rR 4 0 0 61)) (fun a U => a = #[(.ref sb), (.ref x1)] ∧ Z.Warmed39 U.vm ∧ U.heap = h0) (fun _ _ _ _ _ => True) (fun _ U o U' => ∃ v L, o = .returned v ∧ Qsa11 Z sb vb kv u0 x1 t1 k1 w0 h0 n0 v U'.heap L ∧ FrameEnd U o U' L (rR 4 0 0 61).cells (rR 4 0 0 61).slots) := by
 refine MetFree.of_bodySF (plainFor_of_name pn_4) hisR ?_
 intro p e s m args below meth cD s₁ Bd hml0 hP hK
 obtain ⟨rfl, hZ, hh⟩ := hP
 have hml : cD.maxLocals = 2 := hml0
 obtain ⟨hx, hby, (hown : s.vm.findClass j2 = some m.cls), hlk, X0, e0⟩ := own_st Bd hh
 have D := @hb _ _ hby
 have lt0 := lN P0.lt
 have lt1 := lN P1.lt
 have lt2 := lN P2.lt
 have lt3 := lN P3.lt
 have lt4 := lN P4.lt
 have lt5 := lN P5.lt
 have lt6 := lN P6.lt
 have lt7 := lN P7.lt
 have lt8 := lN P8.lt
 have nP11 := own_neN P11
 have nP12 := own_neN P12
 have nP13 := own_neN P13
 have nP14 := own_neN P14
 have nP15 := own_neN P15
 have K0 : Keep h0 h0 [sb, vb] := Keep.refl h0 _
 have Z0 := own_old_le O0
 have N0 := Fr.nil n0
 refine OwnEnd.start (g' := (mkF m 0 #[vR sb, vR x1] [])) (own_efsa11 m sb x1) ?_
 refine oo (S' := s₁.setTop (mkF m 2 #[vR sb, vR x1] [(.ref x1), (.ref sb)])) (fun _ kK => XS.aloadN X0.here hx rfl (D d20_0) rfl rfl (XS.aloadN X0.here hx rfl (D d20_1) rfl rfl kK)) ?_
 obtain ⟨_, _, ⟨T1, L1, k1, n1⟩, -, X1, ⟨Lc1, hQ1, l1, y1, z1⟩, st1⟩ := superBack X0 hx hZ hown (y := own_m19) (w_ G 66 rfl) (own_same (own_notI (w_ G 87 rfl) rfl) (w_ G 67 rfl) (by decide)) (w_ G 67 rfl) (w_ G 68 rfl) (by decide) (backOf (W := 0) (rmaa11 l Z a0 G [] sb vb kv u0 x1 t1 k1 w0 h0 n0 O0 P0 P1 P2 P3 P4 P5 P6 P7 P8 (by omega) (by omega) (on (by omega)) (on (by omega)) (on (by omega)) (on (by omega)) (on (by omega))) hZ (w_ G 70 rfl) (w_ G 53 rfl) (by decide) (by decide)) e0 (Ins.self P0) (g := (mkF m 2 #[vR sb, vR x1] [(.ref x1), (.ref sb)])) rfl (by rw [hml]; rfl) (w_ G 70 rfl) (argsL := [(.ref x1)]) (rest := []) (lenOf pd_11 rfl) rfl (own_z rfl) (D d20_2) (fun _ _ => ⟨rfl, e0, (ol rfl), (ol rfl)⟩)
 dsimp only [Pt.U, Pt.locs, Pt.cells, Pt.slots] at X1 l1 y1 z1 st1 hQ1
 subst l1 y1 z1
 obtain ⟨rfl, N1q, Kq1, r1_0, r1_1, r1_2, r1_3, r1_4⟩ := hQ1
 have N1 := Fr.app N0 N1q
 have sz2 := Kq1.1
 have K2 := K0.trans Kq1 (own_all2 (Or.inl (by simp)) (Or.inl (by simp)))
 have ltr1_0 := lN r1_0.lt
 have ltr1_1 := lN r1_1.lt
 have ltr1_2 := lN r1_2.lt
 have ltr1_3 := lN r1_3.lt
 have ltr1_4 := lN r1_4.lt
 refine ot (S' := T1.setTop (mkF m 5 #[vR sb, vR x1] [(.ref sb)])) st1 ?_
 refine oo (S' := T1.setTop (mkF m 7 #[vR sb, vR x1] [(.ref sb)])) (fun _ kK => XS.pop X1.here hx rfl (D d20_5) rfl rfl (XS.aloadN X1.here hx rfl (D d20_6) rfl rfl kK)) ?_
 refine OwnEnd.ret X1 (v := (some (.ref sb))) (fun h => by rw [Bd.returns] at h; cases h) hlk (fun fs hr => retOut X1 hx Bd.returns rfl (Or.inr (Or.inr (Or.inr (Or.inr ⟨rfl, rfl, rfl⟩)))) (D d20_7) hr) (by decide) (by decide) (Q := Qsa11 Z sb vb kv u0 x1 t1 k1 w0 h0 n0) rfl ?_
 exact ⟨rfl, N1, K2, r1_0, r1_1, r1_2, r1_3, r1_4⟩

theorem own_efgb21 (m : MethodId) (x1 : Addr) (vb : Addr) : entryFrame m #[(.ref x1), (.ref vb), (.int 2), (.int 0)] 4 = mkF m 0 #[vR x1, vR vb, vI 2, vI 0] [] := by first | (simp [entryFrame, mkF, argsToLocals, Value.category]; done) | rfl
def Qgb21 (Z : State) (x1 : Addr) (t1 : Addr) (k1 : ClassId) (w0 : Value) (vb : Addr) (kv : ClassId) (u0 : Value) (u1 : Value) (h0 : Heap) (n0 : Nat) (v : Option Value) (h : Heap) (L : List Loc) : Prop := v = none ∧ Fr n0 L ∧ Keep h0 h [vb] ∧ (Arv Z h vb kv .byte (16 : Int32) [u0, u1, w0, (.int 0), (.int 0), (.int 0), (.int 0), (.int 0), (.int 0), (.int 0), (.int 0), (.int 0), (.int 0), (.int 0), (.int 0), (.int 0)] (.int 0))
set_option maxRecDepth 65536 in
set_option maxHeartbeats 40000000 in
theorem rmgb21 (l : Launch) (Z : State) (a0 : Array Value) (G : OwnG Z a0) (ws : List Jvm.Cond) (x1 : Addr) (t1 : Addr) (k1 : ClassId) (w0 : Value) (vb : Addr) (kv : ClassId) (u0 : Value) (u1 : Value) (h0 : Heap) (n0 : Nat) (O0 : Old Z n0 h0) (P0 : Exa Z h0 x1 j1) (P1 : Fld Z h0 x1 j1 "value" "[B" (.ref t1)) (P2 : Fld Z h0 x1 j1 "coder" "B" (.int 0)) (P3 : Arv Z h0 t1 k1 .byte (1 : Int32) [w0] (.int 0)) (P4 : Arv Z h0 vb kv .byte (16 : Int32) [u0, u1, (.int 0), (.int 0), (.int 0), (.int 0), (.int 0), (.int 0), (.int 0), (.int 0), (.int 0), (.int 0), (.int 0), (.int 0), (.int 0), (.int 0)] (.int 0)) (P5 : n0 ≤ vb) (P6 : t1 ≠ vb) :
  MetFree l own_m17 (head1 (Jvm.Cond.code own_m17 B23 4 none :: ws) (rR 1 0 0 18)) (fun a U => a = #[(.ref x1), (.ref vb), (.int 2), (.int 0)] ∧ Z.Warmed39 U.vm ∧ U.heap = h0) (fun _ _ _ _ _ => True) (fun _ U o U' => ∃ v L, o = .returned v ∧ Qgb21 Z x1 t1 k1 w0 vb kv u0 u1 h0 n0 v U'.heap L ∧ FrameEnd U o U' L (rR 1 0 0 18).cells (rR 1 0 0 18).slots) := by
 refine MetFree.of_bodySF (plainFor_of_name pn_0) hisR ?_
 intro p e s m args below meth cD s₁ Bd hml0 hP hK
 obtain ⟨rfl, hZ, hh⟩ := hP
 have hml : cD.maxLocals = 4 := hml0
 obtain ⟨hx, hby, (hown : s.vm.findClass j1 = some m.cls), hlk, X0, e0⟩ := own_st Bd hh
 have D := @hb _ _ hby
 have lt0 := lN P0.lt
 have lt1 := lN P1.lt
 have lt2 := lN P2.lt
 have lt3 := lN P3.lt
 have lt4 := lN P4.lt
 have nP6 := own_neN P6
 have K0 : Keep h0 h0 [vb] := Keep.refl h0 _
 have Z0 := own_old_le O0
 have N0 := Fr.nil n0
 let lv1 : Array Slot := #[vR x1, vR vb, vI 2, vI 0]
 refine OwnEnd.start (g' := (mkF m 0 lv1 [])) (own_efgb21 m x1 vb) ?_
 refine oo (S' := s₁.setTop (mkF m 1 lv1 [(.ref x1)])) (fun _ kK => XS.aloadN X0.here hx rfl (D d17_0) rfl rfl kK) ?_
 obtain ⟨cq2, kq2, q2a, q2b, q2c⟩ := isOf hZ e0 P0
 obtain ⟨_, _, ⟨T2, L2, k2, n2⟩, -, X2, ⟨Lc2, hQ2, l2, y2, z2⟩, st2⟩ := X0.virtualBack hx (y := own_m5) (z := own_m5) hown (mw hZ G 76 rfl) (mw hZ G 77 rfl) (notFace_of_selects (args := #[]) (mw hZ G 79 rfl)) (mw hZ G 79 rfl) (mw hZ G 78 rfl) (by decide) (backOf (W := 0) (rmcdr0 l Z a0 G [] x1 h0 n0 O0 P2) hZ (w_ G 80 rfl) (w_ G 3 rfl) (by decide) (by decide)) q2a q2c (g := (mkF m 1 lv1 [(.ref x1)])) rfl (by rw [hml]; rfl) (Steps.refl _) (argsL := []) (rest := []) (lenOf pd_2 rfl) rfl (own_z rfl) (D d17_1) (fun _ _ => ⟨rfl, e0, (ol rfl), (ol rfl)⟩)
 dsimp only [Pt.U, Pt.locs, Pt.cells, Pt.slots] at X2 l2 y2 z2 st2 hQ2
 subst l2 y2 z2
 obtain ⟨rfl, N2q, eh2⟩ := hQ2
 have N2 := Fr.app N0 N2q
 refine ot (S' := T2.setTop (mkF m 4 lv1 [(.int 0)])) st2 ?_
 refine oo (S' := T2.setTop (mkF m 9 lv1 [(.ref x1)])) (fun _ kK => XS.iloadN X2.here hx rfl (D d17_4) rfl (XS.icmpNo X2.here hx rfl (D d17_5) rfl (teq ((by decide : (0 : Int32) = (0 : Int32)))).2 (XS.aloadN X2.here hx rfl (D d17_8) rfl rfl kK))) ?_
 obtain ⟨T3, X3, e3, st3⟩ := getF X2 hx hZ hown (host := "") (Or.inl (w_ G 20 rfl)) Via.refl eh2 P1 (g := (mkF m 9 lv1 [(.ref x1)])) rfl rfl (D d17_9)
 refine oo (S' := T3.setTop (mkF m 12 lv1 [(.ref t1)])) st3 ?_
 refine oo (S' := T3.setTop (mkF m 18 lv1 [(.ref x1), (.int 2), (.ref vb), (.int 0), (.ref t1)])) (fun _ kK => XS.iconst X3.here hx rfl (D d17_12) (XS.aloadN X3.here hx rfl (D d17_13) rfl rfl (XS.iloadN X3.here hx rfl (D d17_14) rfl (XS.iloadN X3.here hx rfl (D d17_15) rfl (XS.ishl X3.here hx rfl (D d17_16) rfl (XS.aloadN X3.here hx rfl (D d17_17) rfl rfl kK)))))) ?_
 obtain ⟨T4, X4, e4, st4⟩ := getF X3 hx hZ hown (host := "") (Or.inl (w_ G 20 rfl)) Via.refl e3 P1 (g := (mkF m 18 lv1 [(.ref x1), (.int 2), (.ref vb), (.int 0), (.ref t1)])) rfl rfl (D d17_18)
 refine oo (S' := T4.setTop (mkF m 21 lv1 [(.ref t1), (.int 2), (.ref vb), (.int 0), (.ref t1)])) st4 ?_
 obtain ⟨cl5, Ar5, q5, S5, N5', H5, G5⟩ := id P3
 refine oo (S' := T4.setTop (mkF m 22 lv1 [(.int 1), (.int 2), (.ref vb), (.int 0), (.ref t1)])) (fun _ kK => X4.arraylength hx (by rw [e4]; exact Ar5.1) (State.isArrayOf_alike hZ.alike Ar5.2.1) (g := (mkF m 21 lv1 [(.ref t1), (.int 2), (.ref vb), (.int 0), (.ref t1)])) rfl rfl (D d17_21) _ (by rw [len_of S5 N5']; exact kK)) ?_
 obtain ⟨T6, h6, L6, X6, e6, N6, Kc6, Vc6, st6⟩ := cpA X4 hx hZ hown (w_ G 105 rfl) (w_ G 108 rfl) (w_ G 106 rfl) (w_ G 107 rfl) e4 P3 P4 (us := [w0]) (Or.inl ⟨rfl, rfl⟩) (sp := (0 : Int32)) (dp := (2 : Int32)) (nn := (1 : Int32)) (by decide) (by decide) (by decide) (by decide) (by decide) rfl (Nat.le_of_ble_eq_true rfl) N2 (by omega) (g := (mkF m 22 lv1 [(.int 1), (.int 2), (.ref vb), (.int 0), (.ref t1)])) rfl (by rw [hml]; rfl) rfl (D d17_22) (by decide) (W := 0) (own_z rfl) (by decide)
 have sz7 := Kc6.1
 have K7 := K0.trans Kc6 (own_all1 (Or.inl (by simp)))
 have V6 : Arv Z h6 vb kv .byte (16 : Int32) [u0, u1, w0, (.int 0), (.int 0), (.int 0), (.int 0), (.int 0), (.int 0), (.int 0), (.int 0), (.int 0), (.int 0), (.int 0), (.int 0), (.int 0)] (.int 0) := Vc6
 refine oo (S' := T6.setTop (mkF m 25 lv1 [])) st6 ?_
 refine oo (S' := T6.setTop (mkF m 43 lv1 [])) (fun _ kK => XS.goto X6.here hx rfl (pc0 := 25) (pc' := 43) rfl (D d17_25) (by decide) (by decide) kK) ?_
 refine OwnEnd.ret X6 (v := none) (fun _ => rfl) hlk (fun fs hr => X6.returnOut hx Bd.returns (D d17_43) hr) (by decide) (by decide) (Q := Qgb21 Z x1 t1 k1 w0 vb kv u0 u1 h0 n0) e6 ?_
 exact ⟨rfl, N6, K7, V6⟩

theorem own_efps21 (m : MethodId) (sb : Addr) (x1 : Addr) : entryFrame m #[(.ref sb), (.int 2), (.ref x1)] 3 = mkF m 0 #[vR sb, vI 2, vR x1] [] := by first | (simp [entryFrame, mkF, argsToLocals, Value.category]; done) | rfl
def Qps21 (Z : State) (sb : Addr) (vb : Addr) (kv : ClassId) (u0 : Value) (u1 : Value) (x1 : Addr) (t1 : Addr) (k1 : ClassId) (w0 : Value) (h0 : Heap) (n0 : Nat) (v : Option Value) (h : Heap) (L : List Loc) : Prop := v = none ∧ Fr n0 L ∧ Keep h0 h [vb] ∧ (Arv Z h vb kv .byte (16 : Int32) [u0, u1, w0, (.int 0), (.int 0), (.int 0), (.int 0), (.int 0), (.int 0), (.int 0), (.int 0), (.int 0), (.int 0), (.int 0), (.int 0), (.int 0)] (.int 0))
set_option maxRecDepth 65536 in
set_option maxHeartbeats 40000000 in
theorem rmps21 (l : Launch) (Z : State) (a0 : Array Value) (G : OwnG Z a0) (ws : List Jvm.Cond) (sb : Addr) (vb : Addr) (kv : ClassId) (u0 : Value) (u1 : Value) (x1 : Addr) (t1 : Addr) (k1 : ClassId) (w0 : Value) (h0 : Heap) (n0 : Nat) (O0 : Old Z n0 h0) (P0 : Exa Z h0 sb j2) (P1 : Fld Z h0 sb j0 "value" "[B" (.ref vb)) (P2 : Fld Z h0 sb j0 "coder" "B" (.int 0)) (P3 : Fld Z h0 sb j0 "count" "I" (.int 2)) (P4 : Arv Z h0 vb kv .byte (16 : Int32) [u0, u1, (.int 0), (.int 0), (.int 0), (.int 0), (.int 0), (.int 0), (.int 0), (.int 0), (.int 0), (.int 0), (.int 0), (.int 0), (.int 0), (.int 0)] (.int 0)) (P5 : Exa Z h0 x1 j1) (P6 : Fld Z h0 x1 j1 "value" "[B" (.ref t1)) (P7 : Fld Z h0 x1 j1 "coder" "B" (.int 0)) (P8 : Arv Z h0 t1 k1 .byte (1 : Int32) [w0] (.int 0)) (P9 : n0 ≤ sb) (P10 : n0 ≤ vb) (P11 : sb ≠ vb) (P12 : t1 ≠ vb) (P13 : t1 ≠ sb) (P14 : x1 ≠ vb) (P15 : x1 ≠ sb) :
  MetFree l own_m18 (head1 (Jvm.Cond.code own_m18 B24 3 none :: ws) (rR 2 0 0 33)) (fun a U => a = #[(.ref sb), (.int 2), (.ref x1)] ∧ Z.Warmed39 U.vm ∧ U.heap = h0) (fun _ _ _ _ _ => True) (fun _ U o U' => ∃ v L, o = .returned v ∧ Qps21 Z sb vb kv u0 u1 x1 t1 k1 w0 h0 n0 v U'.heap L ∧ FrameEnd U o U' L (rR 2 0 0 33).cells (rR 2 0 0 33).slots) := by
 refine MetFree.of_bodySF (plainFor_of_name pn_3) hisR ?_
 intro p e s m args below meth cD s₁ Bd hml0 hP hK
 obtain ⟨rfl, hZ, hh⟩ := hP
 have hml : cD.maxLocals = 3 := hml0
 obtain ⟨hx, hby, (hown : s.vm.findClass j0 = some m.cls), hlk, X0, e0⟩ := own_st Bd hh
 have D := @hb _ _ hby
 have lt0 := lN P0.lt
 have lt1 := lN P1.lt
 have lt2 := lN P2.lt
 have lt3 := lN P3.lt
 have lt4 := lN P4.lt
 have lt5 := lN P5.lt
 have lt6 := lN P6.lt
 have lt7 := lN P7.lt
 have lt8 := lN P8.lt
 have nP11 := own_neN P11
 have nP12 := own_neN P12
 have nP13 := own_neN P13
 have nP14 := own_neN P14
 have nP15 := own_neN P15
 have K0 : Keep h0 h0 [vb] := Keep.refl h0 _
 have Z0 := own_old_le O0
 have N0 := Fr.nil n0
 refine OwnEnd.start (g' := (mkF m 0 #[vR sb, vI 2, vR x1] [])) (own_efps21 m sb x1) ?_
 refine oo (S' := s₁.setTop (mkF m 2 #[vR sb, vI 2, vR x1] [(.ref x1), (.ref sb)])) (fun _ kK => XS.aloadN X0.here hx rfl (D d18_0) rfl rfl (XS.aloadN X0.here hx rfl (D d18_1) rfl rfl kK)) ?_
 obtain ⟨cq1, kq1, q1a, q1b, cc1, q1d, -, q1e⟩ := isOf hZ e0 P0
 obtain ⟨_, _, ⟨T1, L1, k1, n1⟩, -, X1, ⟨Lc1, hQ1, l1, y1, z1⟩, st1⟩ := X0.privateBack hx (y := own_m16) hown (mw hZ G 94 rfl) (mw hZ G 95 rfl) (own_selP (oI (mw hZ G 87 rfl) rfl) (mw hZ G 95 rfl) (Cond.privateMethod_at (args := #[]) (mw hZ G 96 rfl)) (by decide)) (Cond.privateMethod_at (args := #[]) (mw hZ G 96 rfl)) (mw hZ G 98 rfl) (by decide) (backOf (W := 0) (rminf l Z a0 G [] sb x1 h0 n0 O0 P2 P5 P7) hZ (w_ G 98 rfl) (w_ G 53 rfl) (by decide) (by decide)) (g := (mkF m 2 #[vR sb, vI 2, vR x1] [(.ref x1), (.ref sb)])) rfl (by rw [hml]; rfl) (Steps.refl _) q1d (own_nost q1e) (argsL := [(.ref x1)]) (rest := []) (lenOf pd_8 rfl) rfl (own_z rfl) (D d18_2) (fun _ _ => ⟨rfl, e0, (ol rfl), (ol rfl)⟩)
 dsimp only [Pt.U, Pt.locs, Pt.cells, Pt.slots] at X1 l1 y1 z1 st1 hQ1
 subst l1 y1 z1
 obtain ⟨rfl, N1q, eh1⟩ := hQ1
 have N1 := Fr.app N0 N1q
 refine ot (S' := T1.setTop (mkF m 5 #[vR sb, vI 2, vR x1] [])) st1 ?_
 refine oo (S' := T1.setTop (mkF m 7 #[vR sb, vI 2, vR x1] [(.ref sb), (.ref x1)])) (fun _ kK => XS.aloadN X1.here hx rfl (D d18_5) rfl rfl (XS.aloadN X1.here hx rfl (D d18_6) rfl rfl kK)) ?_
 obtain ⟨T2, X2, e2, st2⟩ := getF X1 hx hZ hown (host := "") (Or.inl (w_ G 57 rfl)) Via.refl eh1 P1 (g := (mkF m 7 #[vR sb, vI 2, vR x1] [(.ref sb), (.ref x1)])) rfl rfl (D d18_7)
 refine oo (S' := T2.setTop (mkF m 10 #[vR sb, vI 2, vR x1] [(.ref vb), (.ref x1)])) st2 ?_
 refine oo (S' := T2.setTop (mkF m 12 #[vR sb, vI 2, vR x1] [(.ref sb), (.int 2), (.ref vb), (.ref x1)])) (fun _ kK => XS.iloadN X2.here hx rfl (D d18_10) rfl (XS.aloadN X2.here hx rfl (D d18_11) rfl rfl kK)) ?_
 obtain ⟨T3, X3, e3, st3⟩ := getF X2 hx hZ hown (host := "") (Or.inl (w_ G 59 rfl)) Via.refl e2 P2 (g := (mkF m 12 #[vR sb, vI 2, vR x1] [(.ref sb), (.int 2), (.ref vb), (.ref x1)])) rfl rfl (D d18_12)
 refine oo (S' := T3.setTop (mkF m 15 #[vR sb, vI 2, vR x1] [(.int 0), (.int 2), (.ref vb), (.ref x1)])) st3 ?_
 obtain ⟨cq4, kq4, q4a, q4b, q4c⟩ := isOf hZ e3 P5
 obtain ⟨_, _, ⟨T4, L4, k4, n4⟩, -, X4, ⟨Lc4, hQ4, l4, y4, z4⟩, st4⟩ := X3.virtualBack hx (y := own_m17) (z := own_m17) hown (mw hZ G 100 rfl) (mw hZ G 101 rfl) (notFace_of_selects (args := #[]) (mw hZ G 103 rfl)) (mw hZ G 103 rfl) (mw hZ G 102 rfl) (by decide) (backOf (W := 0) (rmgb21 l Z a0 G [] x1 t1 k1 w0 vb kv u0 u1 h0 n0 O0 P5 P6 P7 P8 P4 (by omega) (on (by omega))) hZ (w_ G 104 rfl) (w_ G 3 rfl) (by decide) (by decide)) q4a q4c (g := (mkF m 15 #[vR sb, vI 2, vR x1] [(.int 0), (.int 2), (.ref vb), (.ref x1)])) rfl (by rw [hml]; rfl) (Steps.refl _) (argsL := [(.ref vb), (.int 2), (.int 0)]) (rest := []) (lenOf pd_9 rfl) rfl (own_z rfl) (D d18_15) (fun _ _ => ⟨rfl, e3, (ol rfl), (ol rfl)⟩)
 dsimp only [Pt.U, Pt.locs, Pt.cells, Pt.slots] at X4 l4 y4 z4 st4 hQ4
 subst l4 y4 z4
 obtain ⟨rfl, N4q, Kq4, r4_0⟩ := hQ4
 have N4 := Fr.app N1 N4q
 have sz5 := Kq4.1
 have K5 := K0.trans Kq4 (own_all1 (Or.inl (by simp)))
 have ltr4_0 := lN r4_0.lt
 refine ot (S' := T4.setTop (mkF m 18 #[vR sb, vI 2, vR x1] [])) st4 ?_
 refine OwnEnd.ret X4 (v := none) (fun _ => rfl) hlk (fun fs hr => X4.returnOut hx Bd.returns (D d18_18) hr) (by decide) (by decide) (Q := Qps21 Z sb vb kv u0 u1 x1 t1 k1 w0 h0 n0) rfl ?_
 exact ⟨rfl, N4, K5, r4_0⟩

theorem own_efaa21 (m : MethodId) (sb : Addr) (x1 : Addr) : entryFrame m #[(.ref sb), (.ref x1)] 3 = mkF m 0 #[vR sb, vR x1, .unset] [] := by first | (simp [entryFrame, mkF, argsToLocals, Value.category]; done) | rfl
def Qaa21 (Z : State) (sb : Addr) (vb : Addr) (kv : ClassId) (u0 : Value) (u1 : Value) (x1 : Addr) (t1 : Addr) (k1 : ClassId) (w0 : Value) (h0 : Heap) (n0 : Nat) (v : Option Value) (h : Heap) (L : List Loc) : Prop := v = some (.ref sb) ∧ Fr n0 L ∧ Keep h0 h [sb, vb] ∧ (Exa Z h sb j2) ∧ (Fld Z h sb j0 "value" "[B" (.ref vb)) ∧ (Fld Z h sb j0 "coder" "B" (.int 0)) ∧ (Fld Z h sb j0 "count" "I" (.int 3)) ∧ (Arv Z h vb kv .byte (16 : Int32) [u0, u1, w0, (.int 0), (.int 0), (.int 0), (.int 0), (.int 0), (.int 0), (.int 0), (.int 0), (.int 0), (.int 0), (.int 0), (.int 0), (.int 0)] (.int 0))
set_option maxRecDepth 65536 in
set_option maxHeartbeats 40000000 in
theorem rmaa21 (l : Launch) (Z : State) (a0 : Array Value) (G : OwnG Z a0) (ws : List Jvm.Cond) (sb : Addr) (vb : Addr) (kv : ClassId) (u0 : Value) (u1 : Value) (x1 : Addr) (t1 : Addr) (k1 : ClassId) (w0 : Value) (h0 : Heap) (n0 : Nat) (O0 : Old Z n0 h0) (P0 : Exa Z h0 sb j2) (P1 : Fld Z h0 sb j0 "value" "[B" (.ref vb)) (P2 : Fld Z h0 sb j0 "coder" "B" (.int 0)) (P3 : Fld Z h0 sb j0 "count" "I" (.int 2)) (P4 : Arv Z h0 vb kv .byte (16 : Int32) [u0, u1, (.int 0), (.int 0), (.int 0), (.int 0), (.int 0), (.int 0), (.int 0), (.int 0), (.int 0), (.int 0), (.int 0), (.int 0), (.int 0), (.int 0)] (.int 0)) (P5 : Exa Z h0 x1 j1) (P6 : Fld Z h0 x1 j1 "value" "[B" (.ref t1)) (P7 : Fld Z h0 x1 j1 "coder" "B" (.int 0)) (P8 : Arv Z h0 t1 k1 .byte (1 : Int32) [w0] (.int 0)) (P9 : n0 ≤ sb) (P10 : n0 ≤ vb) (P11 : sb ≠ vb) (P12 : t1 ≠ vb) (P13 : t1 ≠ sb) (P14 : x1 ≠ vb) (P15 : x1 ≠ sb) :
  MetFree l own_m19 (head1 (Jvm.Cond.code own_m19 B25 3 (some (.object j0)) :: ws) (rR 3 0 0 47)) (fun a U => a = #[(.ref sb), (.ref x1)] ∧ Z.Warmed39 U.vm ∧ U.heap = h0) (fun _ _ _ _ _ => True) (fun _ U o U' => ∃ v L, o = .returned v ∧ Qaa21 Z sb vb kv u0 u1 x1 t1 k1 w0 h0 n0 v U'.heap L ∧ FrameEnd U o U' L (rR 3 0 0 47).cells (rR 3 0 0 47).slots) := by
 refine MetFree.of_bodySF (plainFor_of_name pn_3) hisR ?_
 intro p e s m args below meth cD s₁ Bd hml0 hP hK
 obtain ⟨rfl, hZ, hh⟩ := hP
 have hml : cD.maxLocals = 3 := hml0
 obtain ⟨hx, hby, (hown : s.vm.findClass j0 = some m.cls), hlk, X0, e0⟩ := own_st Bd hh
 have D := @hb _ _ hby
 have lt0 := lN P0.lt
 have lt1 := lN P1.lt
 have lt2 := lN P2.lt
 have lt3 := lN P3.lt
 have lt4 := lN P4.lt
 have lt5 := lN P5.lt
 have lt6 := lN P6.lt
 have lt7 := lN P7.lt
 have lt8 := lN P8.lt
 have nP11 := own_neN P11
 have nP12 := own_neN P12
 have nP13 := own_neN P13
 have nP14 := own_neN P14
 have nP15 := own_neN P15
 have K0 : Keep h0 h0 [sb, vb] := Keep.refl h0 _
 have Z0 := own_old_le O0
 have N0 := Fr.nil n0
 refine OwnEnd.start (g' := (mkF m 0 #[vR sb, vR x1, .unset] [])) (own_efaa21 m sb x1) ?_
 refine oo (S' := s₁.setTop (mkF m 10 #[vR sb, vR x1, .unset] [(.ref x1)])) (fun _ kK => XS.aloadN X0.here hx rfl (D d19_0) rfl rfl (XS.ifnonnullYes X0.here hx rfl (pc0 := 1) (pc' := 9) rfl (D d19_1) rfl (by decide) (by decide) (XS.aloadN X0.here hx rfl (D d19_9) rfl rfl kK))) ?_
 obtain ⟨cq1, kq1, q1a, q1b, q1c⟩ := isOf hZ e0 P5
 obtain ⟨_, _, ⟨T1, L1, k1, n1⟩, -, X1, ⟨Lc1, hQ1, l1, y1, z1⟩, st1⟩ := X0.virtualBack hx (y := own_m6) (z := own_m6) hown (mw hZ G 71 rfl) (mw hZ G 72 rfl) (notFace_of_selects (args := #[]) (mw hZ G 74 rfl)) (mw hZ G 74 rfl) (mw hZ G 73 rfl) (by decide) (backOf (W := 0) (rmln0 l Z a0 G [] x1 t1 k1 (1 : Int32) [w0] (.int 0) h0 n0 O0 P5 P6 P7 P8) hZ (w_ G 75 rfl) (w_ G 3 rfl) (by decide) (by decide)) q1a q1c (g := (mkF m 10 #[vR sb, vR x1, .unset] [(.ref x1)])) rfl (by rw [hml]; rfl) (Steps.refl _) (argsL := []) (rest := []) (lenOf pd_7 rfl) rfl (own_z rfl) (D d19_10) (fun _ _ => ⟨rfl, e0, (ol rfl), (ol rfl)⟩)
 dsimp only [Pt.U, Pt.locs, Pt.cells, Pt.slots] at X1 l1 y1 z1 st1 hQ1
 subst l1 y1 z1
 obtain ⟨rfl, N1q, eh1⟩ := hQ1
 have N1 := Fr.app N0 N1q
 refine ot (S' := T1.setTop (mkF m 13 #[vR sb, vR x1, .unset] [(.int 1)])) st1 ?_
 refine oo (S' := T1.setTop (mkF m 16 #[vR sb, vR x1, vI 1] [(.ref sb), (.ref sb)])) (fun _ kK => XS.istoreN X1.here hx rfl (D d19_13) rfl (l' := #[vR sb, vR x1, vI 1]) rfl (XS.aloadN X1.here hx rfl (D d19_14) rfl rfl (XS.aloadN X1.here hx rfl (D d19_15) rfl rfl kK))) ?_
 obtain ⟨T2, X2, e2, st2⟩ := getF X1 hx hZ hown (host := "") (Or.inl (w_ G 82 rfl)) Via.refl eh1 P3 (g := (mkF m 16 #[vR sb, vR x1, vI 1] [(.ref sb), (.ref sb)])) rfl rfl (D d19_16)
 refine oo (S' := T2.setTop (mkF m 19 #[vR sb, vR x1, vI 1] [(.int 2), (.ref sb)])) st2 ?_
 refine oo (S' := T2.setTop (mkF m 21 #[vR sb, vR x1, vI 1] [(.int 3), (.ref sb)])) (fun _ kK => XS.iloadN X2.here hx rfl (D d19_19) rfl (XS.iadd X2.here hx rfl (D d19_20) rfl kK)) ?_
 obtain ⟨cq3, kq3, q3a, q3b, cc3, q3d, -, q3e⟩ := isOf hZ e2 P0
 obtain ⟨_, _, ⟨T3, L3, k3, n3⟩, -, X3, ⟨Lc3, hQ3, l3, y3, z3⟩, st3⟩ := X2.privateBack hx (y := own_m12) hown (mw hZ G 84 rfl) (mw hZ G 85 rfl) (own_selP (oI (mw hZ G 87 rfl) rfl) (mw hZ G 85 rfl) (Cond.privateMethod_at (args := #[]) (mw hZ G 86 rfl)) (by decide)) (Cond.privateMethod_at (args := #[]) (mw hZ G 86 rfl)) (mw hZ G 88 rfl) (by decide) (backOf (W := 0) (rmec l Z a0 G [] sb vb kv [u0, u1, (.int 0), (.int 0), (.int 0), (.int 0), (.int 0), (.int 0), (.int 0), (.int 0), (.int 0), (.int 0), (.int 0), (.int 0), (.int 0), (.int 0)] (3 : Int32) h0 n0 O0 P1 P2 P4 (by decide)) hZ (w_ G 88 rfl) (w_ G 53 rfl) (by decide) (by decide)) (g := (mkF m 21 #[vR sb, vR x1, vI 1] [(.int 3), (.ref sb)])) rfl (by rw [hml]; rfl) (Steps.refl _) q3d (own_nost q3e) (argsL := [(.int 3)]) (rest := []) (lenOf pd_6 rfl) rfl (own_z rfl) (D d19_21) (fun _ _ => ⟨rfl, e2, (ol rfl), (ol rfl)⟩)
 dsimp only [Pt.U, Pt.locs, Pt.cells, Pt.slots] at X3 l3 y3 z3 st3 hQ3
 subst l3 y3 z3
 obtain ⟨rfl, N3q, eh3⟩ := hQ3
 have N3 := Fr.app N1 N3q
 refine ot (S' := T3.setTop (mkF m 24 #[vR sb, vR x1, vI 1] [])) st3 ?_
 refine oo (S' := T3.setTop (mkF m 26 #[vR sb, vR x1, vI 1] [(.ref sb), (.ref sb)])) (fun _ kK => XS.aloadN X3.here hx rfl (D d19_24) rfl rfl (XS.aloadN X3.here hx rfl (D d19_25) rfl rfl kK)) ?_
 obtain ⟨T4, X4, e4, st4⟩ := getF X3 hx hZ hown (host := "") (Or.inl (w_ G 82 rfl)) Via.refl eh3 P3 (g := (mkF m 26 #[vR sb, vR x1, vI 1] [(.ref sb), (.ref sb)])) rfl rfl (D d19_26)
 refine oo (S' := T4.setTop (mkF m 29 #[vR sb, vR x1, vI 1] [(.int 2), (.ref sb)])) st4 ?_
 refine oo (S' := T4.setTop (mkF m 30 #[vR sb, vR x1, vI 1] [(.ref x1), (.int 2), (.ref sb)])) (fun _ kK => XS.aloadN X4.here hx rfl (D d19_29) rfl rfl kK) ?_
 obtain ⟨cq5, kq5, q5a, q5b, cc5, q5d, -, q5e⟩ := isOf hZ e4 P0
 obtain ⟨_, _, ⟨T5, L5, k5, n5⟩, -, X5, ⟨Lc5, hQ5, l5, y5, z5⟩, st5⟩ := X4.privateBack hx (y := own_m18) hown (mw hZ G 89 rfl) (mw hZ G 90 rfl) (own_selP (oI (mw hZ G 87 rfl) rfl) (mw hZ G 90 rfl) (Cond.privateMethod_at (args := #[]) (mw hZ G 91 rfl)) (by decide)) (Cond.privateMethod_at (args := #[]) (mw hZ G 91 rfl)) (mw hZ G 93 rfl) (by decide) (backOf (W := 0) (rmps21 l Z a0 G [] sb vb kv u0 u1 x1 t1 k1 w0 h0 n0 O0 P0 P1 P2 P3 P4 P5 P6 P7 P8 (by omega) (by omega) (on (by omega)) (on (by omega)) (on (by omega)) (on (by omega)) (on (by omega))) hZ (w_ G 93 rfl) (w_ G 53 rfl) (by decide) (by decide)) (g := (mkF m 30 #[vR sb, vR x1, vI 1] [(.ref x1), (.int 2), (.ref sb)])) rfl (by rw [hml]; rfl) (Steps.refl _) q5d (own_nost q5e) (argsL := [(.int 2), (.ref x1)]) (rest := []) (lenOf pd_10 rfl) rfl (own_z rfl) (D d19_30) (fun _ _ => ⟨rfl, e4, (ol rfl), (ol rfl)⟩)
 dsimp only [Pt.U, Pt.locs, Pt.cells, Pt.slots] at X5 l5 y5 z5 st5 hQ5
 subst l5 y5 z5
 obtain ⟨rfl, N5q, Kq5, r5_0⟩ := hQ5
 have N5 := Fr.app N3 N5q
 have sz6 := Kq5.1
 have K6 := K0.trans Kq5 (own_all1 (Or.inl (by simp)))
 have ltr5_0 := lN r5_0.lt
 refine ot (S' := T5.setTop (mkF m 33 #[vR sb, vR x1, vI 1] [])) st5 ?_
 refine oo (S' := T5.setTop (mkF m 35 #[vR sb, vR x1, vI 1] [(.ref sb), (.ref sb)])) (fun _ kK => XS.aloadN X5.here hx rfl (D d19_33) rfl rfl (XS.dup X5.here hx rfl (D d19_34) rfl rfl kK)) ?_
 have f8 := (P3.keep Kq5 (own_nin1 (on (by omega))))
 obtain ⟨T7, X7, e7, st7⟩ := getF X5 hx hZ hown (host := "") (Or.inl (w_ G 82 rfl)) Via.refl rfl f8 (g := (mkF m 35 #[vR sb, vR x1, vI 1] [(.ref sb), (.ref sb)])) rfl rfl (D d19_35)
 refine oo (S' := T7.setTop (mkF m 38 #[vR sb, vR x1, vI 1] [(.int 2), (.ref sb)])) st7 ?_
 refine oo (S' := T7.setTop (mkF m 40 #[vR sb, vR x1, vI 1] [(.int 3), (.ref sb)])) (fun _ kK => XS.iloadN X7.here hx rfl (D d19_38) rfl (XS.iadd X7.here hx rfl (D d19_39) rfl kK)) ?_
 have f10 := (P0.keep Kq5)
 obtain ⟨T9, h9, X9, e9, W9, st9⟩ := putF X7 hx hZ hown (host := "") (Or.inl (w_ G 82 rfl)) Via.refl e7 f8 f10 (Or.inl (w_ G 83 rfl)) (w_ G 44 rfl) (ty := .int) (by decide) rfl rfl (g := (mkF m 40 #[vR sb, vR x1, vI 1] [(.int 3), (.ref sb)])) rfl rfl (D d19_40)
 have Fw9 := f8.same W9
 have N9 := Fr.snoc X9 N5 (by omega)
 have sz11 := own_wr_le W9
 have K11 := K6.wr W9 (Or.inl (by simp))
 refine oo (S' := T9.setTop (mkF m 43 #[vR sb, vR x1, vI 1] [])) st9 ?_
 refine oo (S' := T9.setTop (mkF m 44 #[vR sb, vR x1, vI 1] [(.ref sb)])) (fun _ kK => XS.aloadN X9.here hx rfl (D d19_43) rfl rfl kK) ?_
 have f12 := (f10.wr W9)
 have f13 := ((P1.keep Kq5 (own_nin1 (on (by omega)))).other W9 (Or.inr (slot_ne (Or.inl (w_ G 58 rfl)) (Or.inl (w_ G 83 rfl)) (by decide) (t := (.array .byte)) (t' := .int) (by decide) (by decide))))
 have f14 := ((P2.keep Kq5 (own_nin1 (on (by omega)))).other W9 (Or.inr (slot_ne (Or.inl (w_ G 60 rfl)) (Or.inl (w_ G 83 rfl)) (by decide) (t := .byte) (t' := .int) (by decide) (by decide))))
 have f15 := (r5_0.other W9 (on (by omega)))
 refine OwnEnd.ret X9 (v := (some (.ref sb))) (fun h => by rw [Bd.returns] at h; cases h) hlk (fun fs hr => retOut X9 hx Bd.returns rfl (Or.inr (Or.inr (Or.inr (Or.inr ⟨rfl, rfl, rfl⟩)))) (D d19_44) hr) (by decide) (by decide) (Q := Qaa21 Z sb vb kv u0 u1 x1 t1 k1 w0 h0 n0) e9 ?_
 exact ⟨rfl, N9, K11, f12, f13, f14, Fw9, f15⟩

theorem own_efsa21 (m : MethodId) (sb : Addr) (x1 : Addr) : entryFrame m #[(.ref sb), (.ref x1)] 2 = mkF m 0 #[vR sb, vR x1] [] := by first | (simp [entryFrame, mkF, argsToLocals, Value.category]; done) | rfl
def Qsa21 (Z : State) (sb : Addr) (vb : Addr) (kv : ClassId) (u0 : Value) (u1 : Value) (x1 : Addr) (t1 : Addr) (k1 : ClassId) (w0 : Value) (h0 : Heap) (n0 : Nat) (v : Option Value) (h : Heap) (L : List Loc) : Prop := v = some (.ref sb) ∧ Fr n0 L ∧ Keep h0 h [sb, vb] ∧ (Exa Z h sb j2) ∧ (Fld Z h sb j0 "value" "[B" (.ref vb)) ∧ (Fld Z h sb j0 "coder" "B" (.int 0)) ∧ (Fld Z h sb j0 "count" "I" (.int 3)) ∧ (Arv Z h vb kv .byte (16 : Int32) [u0, u1, w0, (.int 0), (.int 0), (.int 0), (.int 0), (.int 0), (.int 0), (.int 0), (.int 0), (.int 0), (.int 0), (.int 0), (.int 0), (.int 0)] (.int 0))
set_option maxRecDepth 65536 in
set_option maxHeartbeats 40000000 in
theorem rmsa21 (l : Launch) (Z : State) (a0 : Array Value) (G : OwnG Z a0) (ws : List Jvm.Cond) (sb : Addr) (vb : Addr) (kv : ClassId) (u0 : Value) (u1 : Value) (x1 : Addr) (t1 : Addr) (k1 : ClassId) (w0 : Value) (h0 : Heap) (n0 : Nat) (O0 : Old Z n0 h0) (P0 : Exa Z h0 sb j2) (P1 : Fld Z h0 sb j0 "value" "[B" (.ref vb)) (P2 : Fld Z h0 sb j0 "coder" "B" (.int 0)) (P3 : Fld Z h0 sb j0 "count" "I" (.int 2)) (P4 : Arv Z h0 vb kv .byte (16 : Int32) [u0, u1, (.int 0), (.int 0), (.int 0), (.int 0), (.int 0), (.int 0), (.int 0), (.int 0), (.int 0), (.int 0), (.int 0), (.int 0), (.int 0), (.int 0)] (.int 0)) (P5 : Exa Z h0 x1 j1) (P6 : Fld Z h0 x1 j1 "value" "[B" (.ref t1)) (P7 : Fld Z h0 x1 j1 "coder" "B" (.int 0)) (P8 : Arv Z h0 t1 k1 .byte (1 : Int32) [w0] (.int 0)) (P9 : n0 ≤ sb) (P10 : n0 ≤ vb) (P11 : sb ≠ vb) (P12 : t1 ≠ vb) (P13 : t1 ≠ sb) (P14 : x1 ≠ vb) (P15 : x1 ≠ sb) :
  MetFree l own_m20 (head1 (Jvm.Cond.code own_m20 B26 2 (some (.object j2)) :: ws) (rR 4 0 0 61)) (fun a U => a = #[(.ref sb), (.ref x1)] ∧ Z.Warmed39 U.vm ∧ U.heap = h0) (fun _ _ _ _ _ => True) (fun _ U o U' => ∃ v L, o = .returned v ∧ Qsa21 Z sb vb kv u0 u1 x1 t1 k1 w0 h0 n0 v U'.heap L ∧ FrameEnd U o U' L (rR 4 0 0 61).cells (rR 4 0 0 61).slots) := by
 refine MetFree.of_bodySF (plainFor_of_name pn_4) hisR ?_
 intro p e s m args below meth cD s₁ Bd hml0 hP hK
 obtain ⟨rfl, hZ, hh⟩ := hP
 have hml : cD.maxLocals = 2 := hml0
 obtain ⟨hx, hby, (hown : s.vm.findClass j2 = some m.cls), hlk, X0, e0⟩ := own_st Bd hh
 have D := @hb _ _ hby
 have lt0 := lN P0.lt
 have lt1 := lN P1.lt
 have lt2 := lN P2.lt
 have lt3 := lN P3.lt
 have lt4 := lN P4.lt
 have lt5 := lN P5.lt
 have lt6 := lN P6.lt
 have lt7 := lN P7.lt
 have lt8 := lN P8.lt
 have nP11 := own_neN P11
 have nP12 := own_neN P12
 have nP13 := own_neN P13
 have nP14 := own_neN P14
 have nP15 := own_neN P15
 have K0 : Keep h0 h0 [sb, vb] := Keep.refl h0 _
 have Z0 := own_old_le O0
 have N0 := Fr.nil n0
 refine OwnEnd.start (g' := (mkF m 0 #[vR sb, vR x1] [])) (own_efsa21 m sb x1) ?_
 refine oo (S' := s₁.setTop (mkF m 2 #[vR sb, vR x1] [(.ref x1), (.ref sb)])) (fun _ kK => XS.aloadN X0.here hx rfl (D d20_0) rfl rfl (XS.aloadN X0.here hx rfl (D d20_1) rfl rfl kK)) ?_
 obtain ⟨_, _, ⟨T1, L1, k1, n1⟩, -, X1, ⟨Lc1, hQ1, l1, y1, z1⟩, st1⟩ := superBack X0 hx hZ hown (y := own_m19) (w_ G 66 rfl) (own_same (own_notI (w_ G 87 rfl) rfl) (w_ G 67 rfl) (by decide)) (w_ G 67 rfl) (w_ G 68 rfl) (by decide) (backOf (W := 0) (rmaa21 l Z a0 G [] sb vb kv u0 u1 x1 t1 k1 w0 h0 n0 O0 P0 P1 P2 P3 P4 P5 P6 P7 P8 (by omega) (by omega) (on (by omega)) (on (by omega)) (on (by omega)) (on (by omega)) (on (by omega))) hZ (w_ G 70 rfl) (w_ G 53 rfl) (by decide) (by decide)) e0 (Ins.self P0) (g := (mkF m 2 #[vR sb, vR x1] [(.ref x1), (.ref sb)])) rfl (by rw [hml]; rfl) (w_ G 70 rfl) (argsL := [(.ref x1)]) (rest := []) (lenOf pd_11 rfl) rfl (own_z rfl) (D d20_2) (fun _ _ => ⟨rfl, e0, (ol rfl), (ol rfl)⟩)
 dsimp only [Pt.U, Pt.locs, Pt.cells, Pt.slots] at X1 l1 y1 z1 st1 hQ1
 subst l1 y1 z1
 obtain ⟨rfl, N1q, Kq1, r1_0, r1_1, r1_2, r1_3, r1_4⟩ := hQ1
 have N1 := Fr.app N0 N1q
 have sz2 := Kq1.1
 have K2 := K0.trans Kq1 (own_all2 (Or.inl (by simp)) (Or.inl (by simp)))
 have ltr1_0 := lN r1_0.lt
 have ltr1_1 := lN r1_1.lt
 have ltr1_2 := lN r1_2.lt
 have ltr1_3 := lN r1_3.lt
 have ltr1_4 := lN r1_4.lt
 refine ot (S' := T1.setTop (mkF m 5 #[vR sb, vR x1] [(.ref sb)])) st1 ?_
 refine oo (S' := T1.setTop (mkF m 7 #[vR sb, vR x1] [(.ref sb)])) (fun _ kK => XS.pop X1.here hx rfl (D d20_5) rfl rfl (XS.aloadN X1.here hx rfl (D d20_6) rfl rfl kK)) ?_
 refine OwnEnd.ret X1 (v := (some (.ref sb))) (fun h => by rw [Bd.returns] at h; cases h) hlk (fun fs hr => retOut X1 hx Bd.returns rfl (Or.inr (Or.inr (Or.inr (Or.inr ⟨rfl, rfl, rfl⟩)))) (D d20_7) hr) (by decide) (by decide) (Q := Qsa21 Z sb vb kv u0 u1 x1 t1 k1 w0 h0 n0) rfl ?_
 exact ⟨rfl, N1, K2, r1_0, r1_1, r1_2, r1_3, r1_4⟩

theorem own_efgb31 (m : MethodId) (x1 : Addr) (vb : Addr) : entryFrame m #[(.ref x1), (.ref vb), (.int 3), (.int 0)] 4 = mkF m 0 #[vR x1, vR vb, vI 3, vI 0] [] := by first | (simp [entryFrame, mkF, argsToLocals, Value.category]; done) | rfl
def Qgb31 (Z : State) (x1 : Addr) (t1 : Addr) (k1 : ClassId) (w0 : Value) (vb : Addr) (kv : ClassId) (u0 : Value) (u1 : Value) (u2 : Value) (h0 : Heap) (n0 : Nat) (v : Option Value) (h : Heap) (L : List Loc) : Prop := v = none ∧ Fr n0 L ∧ Keep h0 h [vb] ∧ (Arv Z h vb kv .byte (16 : Int32) [u0, u1, u2, w0, (.int 0), (.int 0), (.int 0), (.int 0), (.int 0), (.int 0), (.int 0), (.int 0), (.int 0), (.int 0), (.int 0), (.int 0)] (.int 0))
set_option maxRecDepth 65536 in
set_option maxHeartbeats 40000000 in
theorem rmgb31 (l : Launch) (Z : State) (a0 : Array Value) (G : OwnG Z a0) (ws : List Jvm.Cond) (x1 : Addr) (t1 : Addr) (k1 : ClassId) (w0 : Value) (vb : Addr) (kv : ClassId) (u0 : Value) (u1 : Value) (u2 : Value) (h0 : Heap) (n0 : Nat) (O0 : Old Z n0 h0) (P0 : Exa Z h0 x1 j1) (P1 : Fld Z h0 x1 j1 "value" "[B" (.ref t1)) (P2 : Fld Z h0 x1 j1 "coder" "B" (.int 0)) (P3 : Arv Z h0 t1 k1 .byte (1 : Int32) [w0] (.int 0)) (P4 : Arv Z h0 vb kv .byte (16 : Int32) [u0, u1, u2, (.int 0), (.int 0), (.int 0), (.int 0), (.int 0), (.int 0), (.int 0), (.int 0), (.int 0), (.int 0), (.int 0), (.int 0), (.int 0)] (.int 0)) (P5 : n0 ≤ vb) (P6 : t1 ≠ vb) :
  MetFree l own_m17 (head1 (Jvm.Cond.code own_m17 B23 4 none :: ws) (rR 1 0 0 18)) (fun a U => a = #[(.ref x1), (.ref vb), (.int 3), (.int 0)] ∧ Z.Warmed39 U.vm ∧ U.heap = h0) (fun _ _ _ _ _ => True) (fun _ U o U' => ∃ v L, o = .returned v ∧ Qgb31 Z x1 t1 k1 w0 vb kv u0 u1 u2 h0 n0 v U'.heap L ∧ FrameEnd U o U' L (rR 1 0 0 18).cells (rR 1 0 0 18).slots) := by
 refine MetFree.of_bodySF (plainFor_of_name pn_0) hisR ?_
 intro p e s m args below meth cD s₁ Bd hml0 hP hK
 obtain ⟨rfl, hZ, hh⟩ := hP
 have hml : cD.maxLocals = 4 := hml0
 obtain ⟨hx, hby, (hown : s.vm.findClass j1 = some m.cls), hlk, X0, e0⟩ := own_st Bd hh
 have D := @hb _ _ hby
 have lt0 := lN P0.lt
 have lt1 := lN P1.lt
 have lt2 := lN P2.lt
 have lt3 := lN P3.lt
 have lt4 := lN P4.lt
 have nP6 := own_neN P6
 have K0 : Keep h0 h0 [vb] := Keep.refl h0 _
 have Z0 := own_old_le O0
 have N0 := Fr.nil n0
 let lv1 : Array Slot := #[vR x1, vR vb, vI 3, vI 0]
 refine OwnEnd.start (g' := (mkF m 0 lv1 [])) (own_efgb31 m x1 vb) ?_
 refine oo (S' := s₁.setTop (mkF m 1 lv1 [(.ref x1)])) (fun _ kK => XS.aloadN X0.here hx rfl (D d17_0) rfl rfl kK) ?_
 obtain ⟨cq2, kq2, q2a, q2b, q2c⟩ := isOf hZ e0 P0
 obtain ⟨_, _, ⟨T2, L2, k2, n2⟩, -, X2, ⟨Lc2, hQ2, l2, y2, z2⟩, st2⟩ := X0.virtualBack hx (y := own_m5) (z := own_m5) hown (mw hZ G 76 rfl) (mw hZ G 77 rfl) (notFace_of_selects (args := #[]) (mw hZ G 79 rfl)) (mw hZ G 79 rfl) (mw hZ G 78 rfl) (by decide) (backOf (W := 0) (rmcdr0 l Z a0 G [] x1 h0 n0 O0 P2) hZ (w_ G 80 rfl) (w_ G 3 rfl) (by decide) (by decide)) q2a q2c (g := (mkF m 1 lv1 [(.ref x1)])) rfl (by rw [hml]; rfl) (Steps.refl _) (argsL := []) (rest := []) (lenOf pd_2 rfl) rfl (own_z rfl) (D d17_1) (fun _ _ => ⟨rfl, e0, (ol rfl), (ol rfl)⟩)
 dsimp only [Pt.U, Pt.locs, Pt.cells, Pt.slots] at X2 l2 y2 z2 st2 hQ2
 subst l2 y2 z2
 obtain ⟨rfl, N2q, eh2⟩ := hQ2
 have N2 := Fr.app N0 N2q
 refine ot (S' := T2.setTop (mkF m 4 lv1 [(.int 0)])) st2 ?_
 refine oo (S' := T2.setTop (mkF m 9 lv1 [(.ref x1)])) (fun _ kK => XS.iloadN X2.here hx rfl (D d17_4) rfl (XS.icmpNo X2.here hx rfl (D d17_5) rfl (teq ((by decide : (0 : Int32) = (0 : Int32)))).2 (XS.aloadN X2.here hx rfl (D d17_8) rfl rfl kK))) ?_
 obtain ⟨T3, X3, e3, st3⟩ := getF X2 hx hZ hown (host := "") (Or.inl (w_ G 20 rfl)) Via.refl eh2 P1 (g := (mkF m 9 lv1 [(.ref x1)])) rfl rfl (D d17_9)
 refine oo (S' := T3.setTop (mkF m 12 lv1 [(.ref t1)])) st3 ?_
 refine oo (S' := T3.setTop (mkF m 18 lv1 [(.ref x1), (.int 3), (.ref vb), (.int 0), (.ref t1)])) (fun _ kK => XS.iconst X3.here hx rfl (D d17_12) (XS.aloadN X3.here hx rfl (D d17_13) rfl rfl (XS.iloadN X3.here hx rfl (D d17_14) rfl (XS.iloadN X3.here hx rfl (D d17_15) rfl (XS.ishl X3.here hx rfl (D d17_16) rfl (XS.aloadN X3.here hx rfl (D d17_17) rfl rfl kK)))))) ?_
 obtain ⟨T4, X4, e4, st4⟩ := getF X3 hx hZ hown (host := "") (Or.inl (w_ G 20 rfl)) Via.refl e3 P1 (g := (mkF m 18 lv1 [(.ref x1), (.int 3), (.ref vb), (.int 0), (.ref t1)])) rfl rfl (D d17_18)
 refine oo (S' := T4.setTop (mkF m 21 lv1 [(.ref t1), (.int 3), (.ref vb), (.int 0), (.ref t1)])) st4 ?_
 obtain ⟨cl5, Ar5, q5, S5, N5', H5, G5⟩ := id P3
 refine oo (S' := T4.setTop (mkF m 22 lv1 [(.int 1), (.int 3), (.ref vb), (.int 0), (.ref t1)])) (fun _ kK => X4.arraylength hx (by rw [e4]; exact Ar5.1) (State.isArrayOf_alike hZ.alike Ar5.2.1) (g := (mkF m 21 lv1 [(.ref t1), (.int 3), (.ref vb), (.int 0), (.ref t1)])) rfl rfl (D d17_21) _ (by rw [len_of S5 N5']; exact kK)) ?_
 obtain ⟨T6, h6, L6, X6, e6, N6, Kc6, Vc6, st6⟩ := cpA X4 hx hZ hown (w_ G 105 rfl) (w_ G 108 rfl) (w_ G 106 rfl) (w_ G 107 rfl) e4 P3 P4 (us := [w0]) (Or.inl ⟨rfl, rfl⟩) (sp := (0 : Int32)) (dp := (3 : Int32)) (nn := (1 : Int32)) (by decide) (by decide) (by decide) (by decide) (by decide) rfl (Nat.le_of_ble_eq_true rfl) N2 (by omega) (g := (mkF m 22 lv1 [(.int 1), (.int 3), (.ref vb), (.int 0), (.ref t1)])) rfl (by rw [hml]; rfl) rfl (D d17_22) (by decide) (W := 0) (own_z rfl) (by decide)
 have sz7 := Kc6.1
 have K7 := K0.trans Kc6 (own_all1 (Or.inl (by simp)))
 have V6 : Arv Z h6 vb kv .byte (16 : Int32) [u0, u1, u2, w0, (.int 0), (.int 0), (.int 0), (.int 0), (.int 0), (.int 0), (.int 0), (.int 0), (.int 0), (.int 0), (.int 0), (.int 0)] (.int 0) := Vc6
 refine oo (S' := T6.setTop (mkF m 25 lv1 [])) st6 ?_
 refine oo (S' := T6.setTop (mkF m 43 lv1 [])) (fun _ kK => XS.goto X6.here hx rfl (pc0 := 25) (pc' := 43) rfl (D d17_25) (by decide) (by decide) kK) ?_
 refine OwnEnd.ret X6 (v := none) (fun _ => rfl) hlk (fun fs hr => X6.returnOut hx Bd.returns (D d17_43) hr) (by decide) (by decide) (Q := Qgb31 Z x1 t1 k1 w0 vb kv u0 u1 u2 h0 n0) e6 ?_
 exact ⟨rfl, N6, K7, V6⟩

theorem own_efps31 (m : MethodId) (sb : Addr) (x1 : Addr) : entryFrame m #[(.ref sb), (.int 3), (.ref x1)] 3 = mkF m 0 #[vR sb, vI 3, vR x1] [] := by first | (simp [entryFrame, mkF, argsToLocals, Value.category]; done) | rfl
def Qps31 (Z : State) (sb : Addr) (vb : Addr) (kv : ClassId) (u0 : Value) (u1 : Value) (u2 : Value) (x1 : Addr) (t1 : Addr) (k1 : ClassId) (w0 : Value) (h0 : Heap) (n0 : Nat) (v : Option Value) (h : Heap) (L : List Loc) : Prop := v = none ∧ Fr n0 L ∧ Keep h0 h [vb] ∧ (Arv Z h vb kv .byte (16 : Int32) [u0, u1, u2, w0, (.int 0), (.int 0), (.int 0), (.int 0), (.int 0), (.int 0), (.int 0), (.int 0), (.int 0), (.int 0), (.int 0), (.int 0)] (.int 0))
set_option maxRecDepth 65536 in
set_option maxHeartbeats 40000000 in
theorem rmps31 (l : Launch) (Z : State) (a0 : Array Value) (G : OwnG Z a0) (ws : List Jvm.Cond) (sb : Addr) (vb : Addr) (kv : ClassId) (u0 : Value) (u1 : Value) (u2 : Value) (x1 : Addr) (t1 : Addr) (k1 : ClassId) (w0 : Value) (h0 : Heap) (n0 : Nat) (O0 : Old Z n0 h0) (P0 : Exa Z h0 sb j2) (P1 : Fld Z h0 sb j0 "value" "[B" (.ref vb)) (P2 : Fld Z h0 sb j0 "coder" "B" (.int 0)) (P3 : Fld Z h0 sb j0 "count" "I" (.int 3)) (P4 : Arv Z h0 vb kv .byte (16 : Int32) [u0, u1, u2, (.int 0), (.int 0), (.int 0), (.int 0), (.int 0), (.int 0), (.int 0), (.int 0), (.int 0), (.int 0), (.int 0), (.int 0), (.int 0)] (.int 0)) (P5 : Exa Z h0 x1 j1) (P6 : Fld Z h0 x1 j1 "value" "[B" (.ref t1)) (P7 : Fld Z h0 x1 j1 "coder" "B" (.int 0)) (P8 : Arv Z h0 t1 k1 .byte (1 : Int32) [w0] (.int 0)) (P9 : n0 ≤ sb) (P10 : n0 ≤ vb) (P11 : sb ≠ vb) (P12 : t1 ≠ vb) (P13 : t1 ≠ sb) (P14 : x1 ≠ vb) (P15 : x1 ≠ sb) :
  MetFree l own_m18 (head1 (Jvm.Cond.code own_m18 B24 3 none :: ws) (rR 2 0 0 33)) (fun a U => a = #[(.ref sb), (.int 3), (.ref x1)] ∧ Z.Warmed39 U.vm ∧ U.heap = h0) (fun _ _ _ _ _ => True) (fun _ U o U' => ∃ v L, o = .returned v ∧ Qps31 Z sb vb kv u0 u1 u2 x1 t1 k1 w0 h0 n0 v U'.heap L ∧ FrameEnd U o U' L (rR 2 0 0 33).cells (rR 2 0 0 33).slots) := by
 refine MetFree.of_bodySF (plainFor_of_name pn_3) hisR ?_
 intro p e s m args below meth cD s₁ Bd hml0 hP hK
 obtain ⟨rfl, hZ, hh⟩ := hP
 have hml : cD.maxLocals = 3 := hml0
 obtain ⟨hx, hby, (hown : s.vm.findClass j0 = some m.cls), hlk, X0, e0⟩ := own_st Bd hh
 have D := @hb _ _ hby
 have lt0 := lN P0.lt
 have lt1 := lN P1.lt
 have lt2 := lN P2.lt
 have lt3 := lN P3.lt
 have lt4 := lN P4.lt
 have lt5 := lN P5.lt
 have lt6 := lN P6.lt
 have lt7 := lN P7.lt
 have lt8 := lN P8.lt
 have nP11 := own_neN P11
 have nP12 := own_neN P12
 have nP13 := own_neN P13
 have nP14 := own_neN P14
 have nP15 := own_neN P15
 have K0 : Keep h0 h0 [vb] := Keep.refl h0 _
 have Z0 := own_old_le O0
 have N0 := Fr.nil n0
 refine OwnEnd.start (g' := (mkF m 0 #[vR sb, vI 3, vR x1] [])) (own_efps31 m sb x1) ?_
 refine oo (S' := s₁.setTop (mkF m 2 #[vR sb, vI 3, vR x1] [(.ref x1), (.ref sb)])) (fun _ kK => XS.aloadN X0.here hx rfl (D d18_0) rfl rfl (XS.aloadN X0.here hx rfl (D d18_1) rfl rfl kK)) ?_
 obtain ⟨cq1, kq1, q1a, q1b, cc1, q1d, -, q1e⟩ := isOf hZ e0 P0
 obtain ⟨_, _, ⟨T1, L1, k1, n1⟩, -, X1, ⟨Lc1, hQ1, l1, y1, z1⟩, st1⟩ := X0.privateBack hx (y := own_m16) hown (mw hZ G 94 rfl) (mw hZ G 95 rfl) (own_selP (oI (mw hZ G 87 rfl) rfl) (mw hZ G 95 rfl) (Cond.privateMethod_at (args := #[]) (mw hZ G 96 rfl)) (by decide)) (Cond.privateMethod_at (args := #[]) (mw hZ G 96 rfl)) (mw hZ G 98 rfl) (by decide) (backOf (W := 0) (rminf l Z a0 G [] sb x1 h0 n0 O0 P2 P5 P7) hZ (w_ G 98 rfl) (w_ G 53 rfl) (by decide) (by decide)) (g := (mkF m 2 #[vR sb, vI 3, vR x1] [(.ref x1), (.ref sb)])) rfl (by rw [hml]; rfl) (Steps.refl _) q1d (own_nost q1e) (argsL := [(.ref x1)]) (rest := []) (lenOf pd_8 rfl) rfl (own_z rfl) (D d18_2) (fun _ _ => ⟨rfl, e0, (ol rfl), (ol rfl)⟩)
 dsimp only [Pt.U, Pt.locs, Pt.cells, Pt.slots] at X1 l1 y1 z1 st1 hQ1
 subst l1 y1 z1
 obtain ⟨rfl, N1q, eh1⟩ := hQ1
 have N1 := Fr.app N0 N1q
 refine ot (S' := T1.setTop (mkF m 5 #[vR sb, vI 3, vR x1] [])) st1 ?_
 refine oo (S' := T1.setTop (mkF m 7 #[vR sb, vI 3, vR x1] [(.ref sb), (.ref x1)])) (fun _ kK => XS.aloadN X1.here hx rfl (D d18_5) rfl rfl (XS.aloadN X1.here hx rfl (D d18_6) rfl rfl kK)) ?_
 obtain ⟨T2, X2, e2, st2⟩ := getF X1 hx hZ hown (host := "") (Or.inl (w_ G 57 rfl)) Via.refl eh1 P1 (g := (mkF m 7 #[vR sb, vI 3, vR x1] [(.ref sb), (.ref x1)])) rfl rfl (D d18_7)
 refine oo (S' := T2.setTop (mkF m 10 #[vR sb, vI 3, vR x1] [(.ref vb), (.ref x1)])) st2 ?_
 refine oo (S' := T2.setTop (mkF m 12 #[vR sb, vI 3, vR x1] [(.ref sb), (.int 3), (.ref vb), (.ref x1)])) (fun _ kK => XS.iloadN X2.here hx rfl (D d18_10) rfl (XS.aloadN X2.here hx rfl (D d18_11) rfl rfl kK)) ?_
 obtain ⟨T3, X3, e3, st3⟩ := getF X2 hx hZ hown (host := "") (Or.inl (w_ G 59 rfl)) Via.refl e2 P2 (g := (mkF m 12 #[vR sb, vI 3, vR x1] [(.ref sb), (.int 3), (.ref vb), (.ref x1)])) rfl rfl (D d18_12)
 refine oo (S' := T3.setTop (mkF m 15 #[vR sb, vI 3, vR x1] [(.int 0), (.int 3), (.ref vb), (.ref x1)])) st3 ?_
 obtain ⟨cq4, kq4, q4a, q4b, q4c⟩ := isOf hZ e3 P5
 obtain ⟨_, _, ⟨T4, L4, k4, n4⟩, -, X4, ⟨Lc4, hQ4, l4, y4, z4⟩, st4⟩ := X3.virtualBack hx (y := own_m17) (z := own_m17) hown (mw hZ G 100 rfl) (mw hZ G 101 rfl) (notFace_of_selects (args := #[]) (mw hZ G 103 rfl)) (mw hZ G 103 rfl) (mw hZ G 102 rfl) (by decide) (backOf (W := 0) (rmgb31 l Z a0 G [] x1 t1 k1 w0 vb kv u0 u1 u2 h0 n0 O0 P5 P6 P7 P8 P4 (by omega) (on (by omega))) hZ (w_ G 104 rfl) (w_ G 3 rfl) (by decide) (by decide)) q4a q4c (g := (mkF m 15 #[vR sb, vI 3, vR x1] [(.int 0), (.int 3), (.ref vb), (.ref x1)])) rfl (by rw [hml]; rfl) (Steps.refl _) (argsL := [(.ref vb), (.int 3), (.int 0)]) (rest := []) (lenOf pd_9 rfl) rfl (own_z rfl) (D d18_15) (fun _ _ => ⟨rfl, e3, (ol rfl), (ol rfl)⟩)
 dsimp only [Pt.U, Pt.locs, Pt.cells, Pt.slots] at X4 l4 y4 z4 st4 hQ4
 subst l4 y4 z4
 obtain ⟨rfl, N4q, Kq4, r4_0⟩ := hQ4
 have N4 := Fr.app N1 N4q
 have sz5 := Kq4.1
 have K5 := K0.trans Kq4 (own_all1 (Or.inl (by simp)))
 have ltr4_0 := lN r4_0.lt
 refine ot (S' := T4.setTop (mkF m 18 #[vR sb, vI 3, vR x1] [])) st4 ?_
 refine OwnEnd.ret X4 (v := none) (fun _ => rfl) hlk (fun fs hr => X4.returnOut hx Bd.returns (D d18_18) hr) (by decide) (by decide) (Q := Qps31 Z sb vb kv u0 u1 u2 x1 t1 k1 w0 h0 n0) rfl ?_
 exact ⟨rfl, N4, K5, r4_0⟩

theorem own_efaa31 (m : MethodId) (sb : Addr) (x1 : Addr) : entryFrame m #[(.ref sb), (.ref x1)] 3 = mkF m 0 #[vR sb, vR x1, .unset] [] := by first | (simp [entryFrame, mkF, argsToLocals, Value.category]; done) | rfl
def Qaa31 (Z : State) (sb : Addr) (vb : Addr) (kv : ClassId) (u0 : Value) (u1 : Value) (u2 : Value) (x1 : Addr) (t1 : Addr) (k1 : ClassId) (w0 : Value) (h0 : Heap) (n0 : Nat) (v : Option Value) (h : Heap) (L : List Loc) : Prop := v = some (.ref sb) ∧ Fr n0 L ∧ Keep h0 h [sb, vb] ∧ (Exa Z h sb j2) ∧ (Fld Z h sb j0 "value" "[B" (.ref vb)) ∧ (Fld Z h sb j0 "coder" "B" (.int 0)) ∧ (Fld Z h sb j0 "count" "I" (.int 4)) ∧ (Arv Z h vb kv .byte (16 : Int32) [u0, u1, u2, w0, (.int 0), (.int 0), (.int 0), (.int 0), (.int 0), (.int 0), (.int 0), (.int 0), (.int 0), (.int 0), (.int 0), (.int 0)] (.int 0))
set_option maxRecDepth 65536 in
set_option maxHeartbeats 40000000 in
theorem rmaa31 (l : Launch) (Z : State) (a0 : Array Value) (G : OwnG Z a0) (ws : List Jvm.Cond) (sb : Addr) (vb : Addr) (kv : ClassId) (u0 : Value) (u1 : Value) (u2 : Value) (x1 : Addr) (t1 : Addr) (k1 : ClassId) (w0 : Value) (h0 : Heap) (n0 : Nat) (O0 : Old Z n0 h0) (P0 : Exa Z h0 sb j2) (P1 : Fld Z h0 sb j0 "value" "[B" (.ref vb)) (P2 : Fld Z h0 sb j0 "coder" "B" (.int 0)) (P3 : Fld Z h0 sb j0 "count" "I" (.int 3)) (P4 : Arv Z h0 vb kv .byte (16 : Int32) [u0, u1, u2, (.int 0), (.int 0), (.int 0), (.int 0), (.int 0), (.int 0), (.int 0), (.int 0), (.int 0), (.int 0), (.int 0), (.int 0), (.int 0)] (.int 0)) (P5 : Exa Z h0 x1 j1) (P6 : Fld Z h0 x1 j1 "value" "[B" (.ref t1)) (P7 : Fld Z h0 x1 j1 "coder" "B" (.int 0)) (P8 : Arv Z h0 t1 k1 .byte (1 : Int32) [w0] (.int 0)) (P9 : n0 ≤ sb) (P10 : n0 ≤ vb) (P11 : sb ≠ vb) (P12 : t1 ≠ vb) (P13 : t1 ≠ sb) (P14 : x1 ≠ vb) (P15 : x1 ≠ sb) :
  MetFree l own_m19 (head1 (Jvm.Cond.code own_m19 B25 3 (some (.object j0)) :: ws) (rR 3 0 0 47)) (fun a U => a = #[(.ref sb), (.ref x1)] ∧ Z.Warmed39 U.vm ∧ U.heap = h0) (fun _ _ _ _ _ => True) (fun _ U o U' => ∃ v L, o = .returned v ∧ Qaa31 Z sb vb kv u0 u1 u2 x1 t1 k1 w0 h0 n0 v U'.heap L ∧ FrameEnd U o U' L (rR 3 0 0 47).cells (rR 3 0 0 47).slots) := by
 refine MetFree.of_bodySF (plainFor_of_name pn_3) hisR ?_
 intro p e s m args below meth cD s₁ Bd hml0 hP hK
 obtain ⟨rfl, hZ, hh⟩ := hP
 have hml : cD.maxLocals = 3 := hml0
 obtain ⟨hx, hby, (hown : s.vm.findClass j0 = some m.cls), hlk, X0, e0⟩ := own_st Bd hh
 have D := @hb _ _ hby
 have lt0 := lN P0.lt
 have lt1 := lN P1.lt
 have lt2 := lN P2.lt
 have lt3 := lN P3.lt
 have lt4 := lN P4.lt
 have lt5 := lN P5.lt
 have lt6 := lN P6.lt
 have lt7 := lN P7.lt
 have lt8 := lN P8.lt
 have nP11 := own_neN P11
 have nP12 := own_neN P12
 have nP13 := own_neN P13
 have nP14 := own_neN P14
 have nP15 := own_neN P15
 have K0 : Keep h0 h0 [sb, vb] := Keep.refl h0 _
 have Z0 := own_old_le O0
 have N0 := Fr.nil n0
 refine OwnEnd.start (g' := (mkF m 0 #[vR sb, vR x1, .unset] [])) (own_efaa31 m sb x1) ?_
 refine oo (S' := s₁.setTop (mkF m 10 #[vR sb, vR x1, .unset] [(.ref x1)])) (fun _ kK => XS.aloadN X0.here hx rfl (D d19_0) rfl rfl (XS.ifnonnullYes X0.here hx rfl (pc0 := 1) (pc' := 9) rfl (D d19_1) rfl (by decide) (by decide) (XS.aloadN X0.here hx rfl (D d19_9) rfl rfl kK))) ?_
 obtain ⟨cq1, kq1, q1a, q1b, q1c⟩ := isOf hZ e0 P5
 obtain ⟨_, _, ⟨T1, L1, k1, n1⟩, -, X1, ⟨Lc1, hQ1, l1, y1, z1⟩, st1⟩ := X0.virtualBack hx (y := own_m6) (z := own_m6) hown (mw hZ G 71 rfl) (mw hZ G 72 rfl) (notFace_of_selects (args := #[]) (mw hZ G 74 rfl)) (mw hZ G 74 rfl) (mw hZ G 73 rfl) (by decide) (backOf (W := 0) (rmln0 l Z a0 G [] x1 t1 k1 (1 : Int32) [w0] (.int 0) h0 n0 O0 P5 P6 P7 P8) hZ (w_ G 75 rfl) (w_ G 3 rfl) (by decide) (by decide)) q1a q1c (g := (mkF m 10 #[vR sb, vR x1, .unset] [(.ref x1)])) rfl (by rw [hml]; rfl) (Steps.refl _) (argsL := []) (rest := []) (lenOf pd_7 rfl) rfl (own_z rfl) (D d19_10) (fun _ _ => ⟨rfl, e0, (ol rfl), (ol rfl)⟩)
 dsimp only [Pt.U, Pt.locs, Pt.cells, Pt.slots] at X1 l1 y1 z1 st1 hQ1
 subst l1 y1 z1
 obtain ⟨rfl, N1q, eh1⟩ := hQ1
 have N1 := Fr.app N0 N1q
 refine ot (S' := T1.setTop (mkF m 13 #[vR sb, vR x1, .unset] [(.int 1)])) st1 ?_
 refine oo (S' := T1.setTop (mkF m 16 #[vR sb, vR x1, vI 1] [(.ref sb), (.ref sb)])) (fun _ kK => XS.istoreN X1.here hx rfl (D d19_13) rfl (l' := #[vR sb, vR x1, vI 1]) rfl (XS.aloadN X1.here hx rfl (D d19_14) rfl rfl (XS.aloadN X1.here hx rfl (D d19_15) rfl rfl kK))) ?_
 obtain ⟨T2, X2, e2, st2⟩ := getF X1 hx hZ hown (host := "") (Or.inl (w_ G 82 rfl)) Via.refl eh1 P3 (g := (mkF m 16 #[vR sb, vR x1, vI 1] [(.ref sb), (.ref sb)])) rfl rfl (D d19_16)
 refine oo (S' := T2.setTop (mkF m 19 #[vR sb, vR x1, vI 1] [(.int 3), (.ref sb)])) st2 ?_
 refine oo (S' := T2.setTop (mkF m 21 #[vR sb, vR x1, vI 1] [(.int 4), (.ref sb)])) (fun _ kK => XS.iloadN X2.here hx rfl (D d19_19) rfl (XS.iadd X2.here hx rfl (D d19_20) rfl kK)) ?_
 obtain ⟨cq3, kq3, q3a, q3b, cc3, q3d, -, q3e⟩ := isOf hZ e2 P0
 obtain ⟨_, _, ⟨T3, L3, k3, n3⟩, -, X3, ⟨Lc3, hQ3, l3, y3, z3⟩, st3⟩ := X2.privateBack hx (y := own_m12) hown (mw hZ G 84 rfl) (mw hZ G 85 rfl) (own_selP (oI (mw hZ G 87 rfl) rfl) (mw hZ G 85 rfl) (Cond.privateMethod_at (args := #[]) (mw hZ G 86 rfl)) (by decide)) (Cond.privateMethod_at (args := #[]) (mw hZ G 86 rfl)) (mw hZ G 88 rfl) (by decide) (backOf (W := 0) (rmec l Z a0 G [] sb vb kv [u0, u1, u2, (.int 0), (.int 0), (.int 0), (.int 0), (.int 0), (.int 0), (.int 0), (.int 0), (.int 0), (.int 0), (.int 0), (.int 0), (.int 0)] (4 : Int32) h0 n0 O0 P1 P2 P4 (by decide)) hZ (w_ G 88 rfl) (w_ G 53 rfl) (by decide) (by decide)) (g := (mkF m 21 #[vR sb, vR x1, vI 1] [(.int 4), (.ref sb)])) rfl (by rw [hml]; rfl) (Steps.refl _) q3d (own_nost q3e) (argsL := [(.int 4)]) (rest := []) (lenOf pd_6 rfl) rfl (own_z rfl) (D d19_21) (fun _ _ => ⟨rfl, e2, (ol rfl), (ol rfl)⟩)
 dsimp only [Pt.U, Pt.locs, Pt.cells, Pt.slots] at X3 l3 y3 z3 st3 hQ3
 subst l3 y3 z3
 obtain ⟨rfl, N3q, eh3⟩ := hQ3
 have N3 := Fr.app N1 N3q
 refine ot (S' := T3.setTop (mkF m 24 #[vR sb, vR x1, vI 1] [])) st3 ?_
 refine oo (S' := T3.setTop (mkF m 26 #[vR sb, vR x1, vI 1] [(.ref sb), (.ref sb)])) (fun _ kK => XS.aloadN X3.here hx rfl (D d19_24) rfl rfl (XS.aloadN X3.here hx rfl (D d19_25) rfl rfl kK)) ?_
 obtain ⟨T4, X4, e4, st4⟩ := getF X3 hx hZ hown (host := "") (Or.inl (w_ G 82 rfl)) Via.refl eh3 P3 (g := (mkF m 26 #[vR sb, vR x1, vI 1] [(.ref sb), (.ref sb)])) rfl rfl (D d19_26)
 refine oo (S' := T4.setTop (mkF m 29 #[vR sb, vR x1, vI 1] [(.int 3), (.ref sb)])) st4 ?_
 refine oo (S' := T4.setTop (mkF m 30 #[vR sb, vR x1, vI 1] [(.ref x1), (.int 3), (.ref sb)])) (fun _ kK => XS.aloadN X4.here hx rfl (D d19_29) rfl rfl kK) ?_
 obtain ⟨cq5, kq5, q5a, q5b, cc5, q5d, -, q5e⟩ := isOf hZ e4 P0
 obtain ⟨_, _, ⟨T5, L5, k5, n5⟩, -, X5, ⟨Lc5, hQ5, l5, y5, z5⟩, st5⟩ := X4.privateBack hx (y := own_m18) hown (mw hZ G 89 rfl) (mw hZ G 90 rfl) (own_selP (oI (mw hZ G 87 rfl) rfl) (mw hZ G 90 rfl) (Cond.privateMethod_at (args := #[]) (mw hZ G 91 rfl)) (by decide)) (Cond.privateMethod_at (args := #[]) (mw hZ G 91 rfl)) (mw hZ G 93 rfl) (by decide) (backOf (W := 0) (rmps31 l Z a0 G [] sb vb kv u0 u1 u2 x1 t1 k1 w0 h0 n0 O0 P0 P1 P2 P3 P4 P5 P6 P7 P8 (by omega) (by omega) (on (by omega)) (on (by omega)) (on (by omega)) (on (by omega)) (on (by omega))) hZ (w_ G 93 rfl) (w_ G 53 rfl) (by decide) (by decide)) (g := (mkF m 30 #[vR sb, vR x1, vI 1] [(.ref x1), (.int 3), (.ref sb)])) rfl (by rw [hml]; rfl) (Steps.refl _) q5d (own_nost q5e) (argsL := [(.int 3), (.ref x1)]) (rest := []) (lenOf pd_10 rfl) rfl (own_z rfl) (D d19_30) (fun _ _ => ⟨rfl, e4, (ol rfl), (ol rfl)⟩)
 dsimp only [Pt.U, Pt.locs, Pt.cells, Pt.slots] at X5 l5 y5 z5 st5 hQ5
 subst l5 y5 z5
 obtain ⟨rfl, N5q, Kq5, r5_0⟩ := hQ5
 have N5 := Fr.app N3 N5q
 have sz6 := Kq5.1
 have K6 := K0.trans Kq5 (own_all1 (Or.inl (by simp)))
 have ltr5_0 := lN r5_0.lt
 refine ot (S' := T5.setTop (mkF m 33 #[vR sb, vR x1, vI 1] [])) st5 ?_
 refine oo (S' := T5.setTop (mkF m 35 #[vR sb, vR x1, vI 1] [(.ref sb), (.ref sb)])) (fun _ kK => XS.aloadN X5.here hx rfl (D d19_33) rfl rfl (XS.dup X5.here hx rfl (D d19_34) rfl rfl kK)) ?_
 have f8 := (P3.keep Kq5 (own_nin1 (on (by omega))))
 obtain ⟨T7, X7, e7, st7⟩ := getF X5 hx hZ hown (host := "") (Or.inl (w_ G 82 rfl)) Via.refl rfl f8 (g := (mkF m 35 #[vR sb, vR x1, vI 1] [(.ref sb), (.ref sb)])) rfl rfl (D d19_35)
 refine oo (S' := T7.setTop (mkF m 38 #[vR sb, vR x1, vI 1] [(.int 3), (.ref sb)])) st7 ?_
 refine oo (S' := T7.setTop (mkF m 40 #[vR sb, vR x1, vI 1] [(.int 4), (.ref sb)])) (fun _ kK => XS.iloadN X7.here hx rfl (D d19_38) rfl (XS.iadd X7.here hx rfl (D d19_39) rfl kK)) ?_
 have f10 := (P0.keep Kq5)
 obtain ⟨T9, h9, X9, e9, W9, st9⟩ := putF X7 hx hZ hown (host := "") (Or.inl (w_ G 82 rfl)) Via.refl e7 f8 f10 (Or.inl (w_ G 83 rfl)) (w_ G 44 rfl) (ty := .int) (by decide) rfl rfl (g := (mkF m 40 #[vR sb, vR x1, vI 1] [(.int 4), (.ref sb)])) rfl rfl (D d19_40)
 have Fw9 := f8.same W9
 have N9 := Fr.snoc X9 N5 (by omega)
 have sz11 := own_wr_le W9
 have K11 := K6.wr W9 (Or.inl (by simp))
 refine oo (S' := T9.setTop (mkF m 43 #[vR sb, vR x1, vI 1] [])) st9 ?_
 refine oo (S' := T9.setTop (mkF m 44 #[vR sb, vR x1, vI 1] [(.ref sb)])) (fun _ kK => XS.aloadN X9.here hx rfl (D d19_43) rfl rfl kK) ?_
 have f12 := (f10.wr W9)
 have f13 := ((P1.keep Kq5 (own_nin1 (on (by omega)))).other W9 (Or.inr (slot_ne (Or.inl (w_ G 58 rfl)) (Or.inl (w_ G 83 rfl)) (by decide) (t := (.array .byte)) (t' := .int) (by decide) (by decide))))
 have f14 := ((P2.keep Kq5 (own_nin1 (on (by omega)))).other W9 (Or.inr (slot_ne (Or.inl (w_ G 60 rfl)) (Or.inl (w_ G 83 rfl)) (by decide) (t := .byte) (t' := .int) (by decide) (by decide))))
 have f15 := (r5_0.other W9 (on (by omega)))
 refine OwnEnd.ret X9 (v := (some (.ref sb))) (fun h => by rw [Bd.returns] at h; cases h) hlk (fun fs hr => retOut X9 hx Bd.returns rfl (Or.inr (Or.inr (Or.inr (Or.inr ⟨rfl, rfl, rfl⟩)))) (D d19_44) hr) (by decide) (by decide) (Q := Qaa31 Z sb vb kv u0 u1 u2 x1 t1 k1 w0 h0 n0) e9 ?_
 exact ⟨rfl, N9, K11, f12, f13, f14, Fw9, f15⟩

theorem own_efsa31 (m : MethodId) (sb : Addr) (x1 : Addr) : entryFrame m #[(.ref sb), (.ref x1)] 2 = mkF m 0 #[vR sb, vR x1] [] := by first | (simp [entryFrame, mkF, argsToLocals, Value.category]; done) | rfl
def Qsa31 (Z : State) (sb : Addr) (vb : Addr) (kv : ClassId) (u0 : Value) (u1 : Value) (u2 : Value) (x1 : Addr) (t1 : Addr) (k1 : ClassId) (w0 : Value) (h0 : Heap) (n0 : Nat) (v : Option Value) (h : Heap) (L : List Loc) : Prop := v = some (.ref sb) ∧ Fr n0 L ∧ Keep h0 h [sb, vb] ∧ (Exa Z h sb j2) ∧ (Fld Z h sb j0 "value" "[B" (.ref vb)) ∧ (Fld Z h sb j0 "coder" "B" (.int 0)) ∧ (Fld Z h sb j0 "count" "I" (.int 4)) ∧ (Arv Z h vb kv .byte (16 : Int32) [u0, u1, u2, w0, (.int 0), (.int 0), (.int 0), (.int 0), (.int 0), (.int 0), (.int 0), (.int 0), (.int 0), (.int 0), (.int 0), (.int 0)] (.int 0))
set_option maxRecDepth 65536 in
set_option maxHeartbeats 40000000 in
theorem rmsa31 (l : Launch) (Z : State) (a0 : Array Value) (G : OwnG Z a0) (ws : List Jvm.Cond) (sb : Addr) (vb : Addr) (kv : ClassId) (u0 : Value) (u1 : Value) (u2 : Value) (x1 : Addr) (t1 : Addr) (k1 : ClassId) (w0 : Value) (h0 : Heap) (n0 : Nat) (O0 : Old Z n0 h0) (P0 : Exa Z h0 sb j2) (P1 : Fld Z h0 sb j0 "value" "[B" (.ref vb)) (P2 : Fld Z h0 sb j0 "coder" "B" (.int 0)) (P3 : Fld Z h0 sb j0 "count" "I" (.int 3)) (P4 : Arv Z h0 vb kv .byte (16 : Int32) [u0, u1, u2, (.int 0), (.int 0), (.int 0), (.int 0), (.int 0), (.int 0), (.int 0), (.int 0), (.int 0), (.int 0), (.int 0), (.int 0), (.int 0)] (.int 0)) (P5 : Exa Z h0 x1 j1) (P6 : Fld Z h0 x1 j1 "value" "[B" (.ref t1)) (P7 : Fld Z h0 x1 j1 "coder" "B" (.int 0)) (P8 : Arv Z h0 t1 k1 .byte (1 : Int32) [w0] (.int 0)) (P9 : n0 ≤ sb) (P10 : n0 ≤ vb) (P11 : sb ≠ vb) (P12 : t1 ≠ vb) (P13 : t1 ≠ sb) (P14 : x1 ≠ vb) (P15 : x1 ≠ sb) :
  MetFree l own_m20 (head1 (Jvm.Cond.code own_m20 B26 2 (some (.object j2)) :: ws) (rR 4 0 0 61)) (fun a U => a = #[(.ref sb), (.ref x1)] ∧ Z.Warmed39 U.vm ∧ U.heap = h0) (fun _ _ _ _ _ => True) (fun _ U o U' => ∃ v L, o = .returned v ∧ Qsa31 Z sb vb kv u0 u1 u2 x1 t1 k1 w0 h0 n0 v U'.heap L ∧ FrameEnd U o U' L (rR 4 0 0 61).cells (rR 4 0 0 61).slots) := by
 refine MetFree.of_bodySF (plainFor_of_name pn_4) hisR ?_
 intro p e s m args below meth cD s₁ Bd hml0 hP hK
 obtain ⟨rfl, hZ, hh⟩ := hP
 have hml : cD.maxLocals = 2 := hml0
 obtain ⟨hx, hby, (hown : s.vm.findClass j2 = some m.cls), hlk, X0, e0⟩ := own_st Bd hh
 have D := @hb _ _ hby
 have lt0 := lN P0.lt
 have lt1 := lN P1.lt
 have lt2 := lN P2.lt
 have lt3 := lN P3.lt
 have lt4 := lN P4.lt
 have lt5 := lN P5.lt
 have lt6 := lN P6.lt
 have lt7 := lN P7.lt
 have lt8 := lN P8.lt
 have nP11 := own_neN P11
 have nP12 := own_neN P12
 have nP13 := own_neN P13
 have nP14 := own_neN P14
 have nP15 := own_neN P15
 have K0 : Keep h0 h0 [sb, vb] := Keep.refl h0 _
 have Z0 := own_old_le O0
 have N0 := Fr.nil n0
 refine OwnEnd.start (g' := (mkF m 0 #[vR sb, vR x1] [])) (own_efsa31 m sb x1) ?_
 refine oo (S' := s₁.setTop (mkF m 2 #[vR sb, vR x1] [(.ref x1), (.ref sb)])) (fun _ kK => XS.aloadN X0.here hx rfl (D d20_0) rfl rfl (XS.aloadN X0.here hx rfl (D d20_1) rfl rfl kK)) ?_
 obtain ⟨_, _, ⟨T1, L1, k1, n1⟩, -, X1, ⟨Lc1, hQ1, l1, y1, z1⟩, st1⟩ := superBack X0 hx hZ hown (y := own_m19) (w_ G 66 rfl) (own_same (own_notI (w_ G 87 rfl) rfl) (w_ G 67 rfl) (by decide)) (w_ G 67 rfl) (w_ G 68 rfl) (by decide) (backOf (W := 0) (rmaa31 l Z a0 G [] sb vb kv u0 u1 u2 x1 t1 k1 w0 h0 n0 O0 P0 P1 P2 P3 P4 P5 P6 P7 P8 (by omega) (by omega) (on (by omega)) (on (by omega)) (on (by omega)) (on (by omega)) (on (by omega))) hZ (w_ G 70 rfl) (w_ G 53 rfl) (by decide) (by decide)) e0 (Ins.self P0) (g := (mkF m 2 #[vR sb, vR x1] [(.ref x1), (.ref sb)])) rfl (by rw [hml]; rfl) (w_ G 70 rfl) (argsL := [(.ref x1)]) (rest := []) (lenOf pd_11 rfl) rfl (own_z rfl) (D d20_2) (fun _ _ => ⟨rfl, e0, (ol rfl), (ol rfl)⟩)
 dsimp only [Pt.U, Pt.locs, Pt.cells, Pt.slots] at X1 l1 y1 z1 st1 hQ1
 subst l1 y1 z1
 obtain ⟨rfl, N1q, Kq1, r1_0, r1_1, r1_2, r1_3, r1_4⟩ := hQ1
 have N1 := Fr.app N0 N1q
 have sz2 := Kq1.1
 have K2 := K0.trans Kq1 (own_all2 (Or.inl (by simp)) (Or.inl (by simp)))
 have ltr1_0 := lN r1_0.lt
 have ltr1_1 := lN r1_1.lt
 have ltr1_2 := lN r1_2.lt
 have ltr1_3 := lN r1_3.lt
 have ltr1_4 := lN r1_4.lt
 refine ot (S' := T1.setTop (mkF m 5 #[vR sb, vR x1] [(.ref sb)])) st1 ?_
 refine oo (S' := T1.setTop (mkF m 7 #[vR sb, vR x1] [(.ref sb)])) (fun _ kK => XS.pop X1.here hx rfl (D d20_5) rfl rfl (XS.aloadN X1.here hx rfl (D d20_6) rfl rfl kK)) ?_
 refine OwnEnd.ret X1 (v := (some (.ref sb))) (fun h => by rw [Bd.returns] at h; cases h) hlk (fun fs hr => retOut X1 hx Bd.returns rfl (Or.inr (Or.inr (Or.inr (Or.inr ⟨rfl, rfl, rfl⟩)))) (D d20_7) hr) (by decide) (by decide) (Q := Qsa31 Z sb vb kv u0 u1 u2 x1 t1 k1 w0 h0 n0) rfl ?_
 exact ⟨rfl, N1, K2, r1_0, r1_1, r1_2, r1_3, r1_4⟩

theorem own_efss (m : MethodId) (P : Int32) : entryFrame m #[(.int P)] 4 = mkF m 0 #[vI P, .unset, .unset, .unset] [] := by first | (simp [entryFrame, mkF, argsToLocals, Value.category]; done) | rfl
set_option maxRecDepth 65536 in
set_option maxHeartbeats 40000000 in
theorem rmss (l : Launch) (Z : State) (a0 : Array Value) (G : OwnG Z a0) (ws : List Jvm.Cond) (P : Int32) (h0 : Heap) (n0 : Nat) (O0 : Old Z n0 h0)  :
  MetFree l own_m21 (head1 (Jvm.Cond.code own_m21 B27 4 (some .int) :: ws) (rR 0 0 0 0)) (fun a U => a = #[(.int P)] ∧ Z.Warmed39 U.vm ∧ U.heap = h0) (fun _ _ _ _ _ => True) (fun _ U o U' => ∃ v L, o = .returned v ∧ (own_Qint (own_ssz P)) h0 n0 v U'.heap L ∧ FrameEnd U o U' L (rR 0 0 0 0).cells (rR 0 0 0 0).slots) := by
 refine MetFree.of_bodySF (plainFor_of_name pn_5) hisR ?_
 intro p e s m args below meth cD s₁ Bd hml0 hP hK
 obtain ⟨rfl, hZ, hh⟩ := hP
 have hml : cD.maxLocals = 4 := hml0
 obtain ⟨hx, hby, (hown : s.vm.findClass j5 = some m.cls), hlk, X0, e0⟩ := own_st Bd hh
 have D := @hb _ _ hby
 have Z0 := own_old_le O0
 have N0 := Fr.nil n0
 refine OwnEnd.start (g' := (mkF m 0 #[vI P, .unset, .unset, .unset] [])) (own_efss m P) ?_
 refine oo (S' := s₁.setTop (mkF m 3 #[vI P, vI 1, .unset, .unset] [(.int P)])) (fun _ kK => XS.iconst X0.here hx rfl (D d21_0) (XS.istoreN X0.here hx rfl (D d21_1) rfl (l' := #[vI P, vI 1, .unset, .unset]) rfl (XS.iloadN X0.here hx rfl (D d21_2) rfl kK))) ?_
 rcases Decidable.em (P < (0 : Int32)) with hc1 | hc1
 ·let lv2 : Array Slot := #[vI P, vI 1, vI (-10 : Int32), .unset]
  let lv3 : Array Slot := #[vI P, vI 1, vI (-10 : Int32), vI 1]
  refine oo (S' := s₁.setTop (mkF m 24 lv3 [(.int (-10 : Int32)), (.int P)])) (fun _ kK => XS.ifYes X0.here hx rfl (pc0 := 3) (pc' := 11) rfl (D d21_3) rfl ((if0 _ _).trans (tlt (hc1)).1) (by decide) (by decide) (XS.bipush X0.here hx rfl (D d21_11) (XS.istoreN X0.here hx rfl (D d21_13) rfl (l' := lv2) rfl (XS.iconst X0.here hx rfl (D d21_14) (XS.istoreN X0.here hx rfl (D d21_15) rfl (l' := lv3) rfl (XS.iloadN X0.here hx rfl (D d21_16) rfl (XS.bipush X0.here hx rfl (D d21_17) (XS.icmpNo X0.here hx rfl (D d21_19) rfl (tlt ((by decide : (1 : Int32) < (10 : Int32)))).2.1 (XS.iloadN X0.here hx rfl (D d21_22) rfl (XS.iloadN X0.here hx rfl (D d21_23) rfl kK)))))))))) ?_
  rcases Decidable.em ((-10 : Int32) < P) with hc4 | hc4
  ·refine oo (S' := s₁.setTop (mkF m 30 lv3 [(.int 2)])) (fun _ kK => XS.icmpNo X0.here hx rfl (D d21_24) rfl (tlt (hc4)).2.2.2 (XS.iloadN X0.here hx rfl (D d21_27) rfl (XS.iloadN X0.here hx rfl (D d21_28) rfl (XS.iadd X0.here hx rfl (D d21_29) rfl kK)))) ?_
   refine OwnEnd.ret X0 (v := (some (.int 2))) (fun h => by rw [Bd.returns] at h; cases h) hlk (fun fs hr => retOut X0 hx Bd.returns rfl (Or.inl ⟨rfl, Or.inl rfl, _, rfl⟩) (D d21_30) hr) (by decide) (by decide) (Q := (own_Qint (own_ssz P)) h0 n0) e0 ?_
   exact ⟨(by simp [own_ssz, own_ss, hc1, hc4]), N0, rfl⟩
  ·let lv5 : Array Slot := #[vI P, vI 1, vI (-100 : Int32), vI 1]
   let lv6 : Array Slot := #[vI P, vI 1, vI (-100 : Int32), vI 2]
   refine oo (S' := s₁.setTop (mkF m 24 lv6 [(.int (-100 : Int32)), (.int P)])) (fun _ kK => XS.icmpYes X0.here hx rfl (pc0 := 24) (pc' := 31) rfl (D d21_24) rfl (flt (hc4)).2.2.2 (by decide) (by decide) (XS.bipush X0.here hx rfl (D d21_31) (XS.iloadN X0.here hx rfl (D d21_33) rfl (XS.imul X0.here hx rfl (D d21_34) rfl (XS.istoreN X0.here hx rfl (D d21_35) rfl (l' := lv5) rfl (XS.iinc X0.here hx rfl (D d21_36) rfl (l' := lv6) rfl (XS.goto X0.here hx rfl (pc0 := 39) (pc' := 16) rfl (D d21_39) (by decide) (by decide) (XS.iloadN X0.here hx rfl (D d21_16) rfl (XS.bipush X0.here hx rfl (D d21_17) (XS.icmpNo X0.here hx rfl (D d21_19) rfl (tlt ((by decide : (2 : Int32) < (10 : Int32)))).2.1 (XS.iloadN X0.here hx rfl (D d21_22) rfl (XS.iloadN X0.here hx rfl (D d21_23) rfl kK)))))))))))) ?_
   rcases Decidable.em ((-100 : Int32) < P) with hc7 | hc7
   ·refine oo (S' := s₁.setTop (mkF m 30 lv6 [(.int 3)])) (fun _ kK => XS.icmpNo X0.here hx rfl (D d21_24) rfl (tlt (hc7)).2.2.2 (XS.iloadN X0.here hx rfl (D d21_27) rfl (XS.iloadN X0.here hx rfl (D d21_28) rfl (XS.iadd X0.here hx rfl (D d21_29) rfl kK)))) ?_
    refine OwnEnd.ret X0 (v := (some (.int 3))) (fun h => by rw [Bd.returns] at h; cases h) hlk (fun fs hr => retOut X0 hx Bd.returns rfl (Or.inl ⟨rfl, Or.inl rfl, _, rfl⟩) (D d21_30) hr) (by decide) (by decide) (Q := (own_Qint (own_ssz P)) h0 n0) e0 ?_
    exact ⟨(by simp [own_ssz, own_ss, hc1, hc4, hc7]), N0, rfl⟩
   ·let lv8 : Array Slot := #[vI P, vI 1, vI (-1000 : Int32), vI 2]
    let lv9 : Array Slot := #[vI P, vI 1, vI (-1000 : Int32), vI 3]
    refine oo (S' := s₁.setTop (mkF m 24 lv9 [(.int (-1000 : Int32)), (.int P)])) (fun _ kK => XS.icmpYes X0.here hx rfl (pc0 := 24) (pc' := 31) rfl (D d21_24) rfl (flt (hc7)).2.2.2 (by decide) (by decide) (XS.bipush X0.here hx rfl (D d21_31) (XS.iloadN X0.here hx rfl (D d21_33) rfl (XS.imul X0.here hx rfl (D d21_34) rfl (XS.istoreN X0.here hx rfl (D d21_35) rfl (l' := lv8) rfl (XS.iinc X0.here hx rfl (D d21_36) rfl (l' := lv9) rfl (XS.goto X0.here hx rfl (pc0 := 39) (pc' := 16) rfl (D d21_39) (by decide) (by decide) (XS.iloadN X0.here hx rfl (D d21_16) rfl (XS.bipush X0.here hx rfl (D d21_17) (XS.icmpNo X0.here hx rfl (D d21_19) rfl (tlt ((by decide : (3 : Int32) < (10 : Int32)))).2.1 (XS.iloadN X0.here hx rfl (D d21_22) rfl (XS.iloadN X0.here hx rfl (D d21_23) rfl kK)))))))))))) ?_
    rcases Decidable.em ((-1000 : Int32) < P) with hc10 | hc10
    ·refine oo (S' := s₁.setTop (mkF m 30 lv9 [(.int 4)])) (fun _ kK => XS.icmpNo X0.here hx rfl (D d21_24) rfl (tlt (hc10)).2.2.2 (XS.iloadN X0.here hx rfl (D d21_27) rfl (XS.iloadN X0.here hx rfl (D d21_28) rfl (XS.iadd X0.here hx rfl (D d21_29) rfl kK)))) ?_
     refine OwnEnd.ret X0 (v := (some (.int 4))) (fun h => by rw [Bd.returns] at h; cases h) hlk (fun fs hr => retOut X0 hx Bd.returns rfl (Or.inl ⟨rfl, Or.inl rfl, _, rfl⟩) (D d21_30) hr) (by decide) (by decide) (Q := (own_Qint (own_ssz P)) h0 n0) e0 ?_
     exact ⟨(by simp [own_ssz, own_ss, hc1, hc4, hc7, hc10]), N0, rfl⟩
    ·let lv11 : Array Slot := #[vI P, vI 1, vI (-10000 : Int32), vI 3]
     let lv12 : Array Slot := #[vI P, vI 1, vI (-10000 : Int32), vI 4]
     refine oo (S' := s₁.setTop (mkF m 24 lv12 [(.int (-10000 : Int32)), (.int P)])) (fun _ kK => XS.icmpYes X0.here hx rfl (pc0 := 24) (pc' := 31) rfl (D d21_24) rfl (flt (hc10)).2.2.2 (by decide) (by decide) (XS.bipush X0.here hx rfl (D d21_31) (XS.iloadN X0.here hx rfl (D d21_33) rfl (XS.imul X0.here hx rfl (D d21_34) rfl (XS.istoreN X0.here hx rfl (D d21_35) rfl (l' := lv11) rfl (XS.iinc X0.here hx rfl (D d21_36) rfl (l' := lv12) rfl (XS.goto X0.here hx rfl (pc0 := 39) (pc' := 16) rfl (D d21_39) (by decide) (by decide) (XS.iloadN X0.here hx rfl (D d21_16) rfl (XS.bipush X0.here hx rfl (D d21_17) (XS.icmpNo X0.here hx rfl (D d21_19) rfl (tlt ((by decide : (4 : Int32) < (10 : Int32)))).2.1 (XS.iloadN X0.here hx rfl (D d21_22) rfl (XS.iloadN X0.here hx rfl (D d21_23) rfl kK)))))))))))) ?_
     rcases Decidable.em ((-10000 : Int32) < P) with hc13 | hc13
     ·refine oo (S' := s₁.setTop (mkF m 30 lv12 [(.int 5)])) (fun _ kK => XS.icmpNo X0.here hx rfl (D d21_24) rfl (tlt (hc13)).2.2.2 (XS.iloadN X0.here hx rfl (D d21_27) rfl (XS.iloadN X0.here hx rfl (D d21_28) rfl (XS.iadd X0.here hx rfl (D d21_29) rfl kK)))) ?_
      refine OwnEnd.ret X0 (v := (some (.int 5))) (fun h => by rw [Bd.returns] at h; cases h) hlk (fun fs hr => retOut X0 hx Bd.returns rfl (Or.inl ⟨rfl, Or.inl rfl, _, rfl⟩) (D d21_30) hr) (by decide) (by decide) (Q := (own_Qint (own_ssz P)) h0 n0) e0 ?_
      exact ⟨(by simp [own_ssz, own_ss, hc1, hc4, hc7, hc10, hc13]), N0, rfl⟩
     ·let lv14 : Array Slot := #[vI P, vI 1, vI (-100000 : Int32), vI 4]
      let lv15 : Array Slot := #[vI P, vI 1, vI (-100000 : Int32), vI 5]
      refine oo (S' := s₁.setTop (mkF m 24 lv15 [(.int (-100000 : Int32)), (.int P)])) (fun _ kK => XS.icmpYes X0.here hx rfl (pc0 := 24) (pc' := 31) rfl (D d21_24) rfl (flt (hc13)).2.2.2 (by decide) (by decide) (XS.bipush X0.here hx rfl (D d21_31) (XS.iloadN X0.here hx rfl (D d21_33) rfl (XS.imul X0.here hx rfl (D d21_34) rfl (XS.istoreN X0.here hx rfl (D d21_35) rfl (l' := lv14) rfl (XS.iinc X0.here hx rfl (D d21_36) rfl (l' := lv15) rfl (XS.goto X0.here hx rfl (pc0 := 39) (pc' := 16) rfl (D d21_39) (by decide) (by decide) (XS.iloadN X0.here hx rfl (D d21_16) rfl (XS.bipush X0.here hx rfl (D d21_17) (XS.icmpNo X0.here hx rfl (D d21_19) rfl (tlt ((by decide : (5 : Int32) < (10 : Int32)))).2.1 (XS.iloadN X0.here hx rfl (D d21_22) rfl (XS.iloadN X0.here hx rfl (D d21_23) rfl kK)))))))))))) ?_
      rcases Decidable.em ((-100000 : Int32) < P) with hc16 | hc16
      ·refine oo (S' := s₁.setTop (mkF m 30 lv15 [(.int 6)])) (fun _ kK => XS.icmpNo X0.here hx rfl (D d21_24) rfl (tlt (hc16)).2.2.2 (XS.iloadN X0.here hx rfl (D d21_27) rfl (XS.iloadN X0.here hx rfl (D d21_28) rfl (XS.iadd X0.here hx rfl (D d21_29) rfl kK)))) ?_
       refine OwnEnd.ret X0 (v := (some (.int 6))) (fun h => by rw [Bd.returns] at h; cases h) hlk (fun fs hr => retOut X0 hx Bd.returns rfl (Or.inl ⟨rfl, Or.inl rfl, _, rfl⟩) (D d21_30) hr) (by decide) (by decide) (Q := (own_Qint (own_ssz P)) h0 n0) e0 ?_
       exact ⟨(by simp [own_ssz, own_ss, hc1, hc4, hc7, hc10, hc13, hc16]), N0, rfl⟩
      ·let lv17 : Array Slot := #[vI P, vI 1, vI (-1000000 : Int32), vI 5]
       let lv18 : Array Slot := #[vI P, vI 1, vI (-1000000 : Int32), vI 6]
       refine oo (S' := s₁.setTop (mkF m 24 lv18 [(.int (-1000000 : Int32)), (.int P)])) (fun _ kK => XS.icmpYes X0.here hx rfl (pc0 := 24) (pc' := 31) rfl (D d21_24) rfl (flt (hc16)).2.2.2 (by decide) (by decide) (XS.bipush X0.here hx rfl (D d21_31) (XS.iloadN X0.here hx rfl (D d21_33) rfl (XS.imul X0.here hx rfl (D d21_34) rfl (XS.istoreN X0.here hx rfl (D d21_35) rfl (l' := lv17) rfl (XS.iinc X0.here hx rfl (D d21_36) rfl (l' := lv18) rfl (XS.goto X0.here hx rfl (pc0 := 39) (pc' := 16) rfl (D d21_39) (by decide) (by decide) (XS.iloadN X0.here hx rfl (D d21_16) rfl (XS.bipush X0.here hx rfl (D d21_17) (XS.icmpNo X0.here hx rfl (D d21_19) rfl (tlt ((by decide : (6 : Int32) < (10 : Int32)))).2.1 (XS.iloadN X0.here hx rfl (D d21_22) rfl (XS.iloadN X0.here hx rfl (D d21_23) rfl kK)))))))))))) ?_
       rcases Decidable.em ((-1000000 : Int32) < P) with hc19 | hc19
       ·refine oo (S' := s₁.setTop (mkF m 30 lv18 [(.int 7)])) (fun _ kK => XS.icmpNo X0.here hx rfl (D d21_24) rfl (tlt (hc19)).2.2.2 (XS.iloadN X0.here hx rfl (D d21_27) rfl (XS.iloadN X0.here hx rfl (D d21_28) rfl (XS.iadd X0.here hx rfl (D d21_29) rfl kK)))) ?_
        refine OwnEnd.ret X0 (v := (some (.int 7))) (fun h => by rw [Bd.returns] at h; cases h) hlk (fun fs hr => retOut X0 hx Bd.returns rfl (Or.inl ⟨rfl, Or.inl rfl, _, rfl⟩) (D d21_30) hr) (by decide) (by decide) (Q := (own_Qint (own_ssz P)) h0 n0) e0 ?_
        exact ⟨(by simp [own_ssz, own_ss, hc1, hc4, hc7, hc10, hc13, hc16, hc19]), N0, rfl⟩
       ·let lv20 : Array Slot := #[vI P, vI 1, vI (-10000000 : Int32), vI 6]
        let lv21 : Array Slot := #[vI P, vI 1, vI (-10000000 : Int32), vI 7]
        refine oo (S' := s₁.setTop (mkF m 24 lv21 [(.int (-10000000 : Int32)), (.int P)])) (fun _ kK => XS.icmpYes X0.here hx rfl (pc0 := 24) (pc' := 31) rfl (D d21_24) rfl (flt (hc19)).2.2.2 (by decide) (by decide) (XS.bipush X0.here hx rfl (D d21_31) (XS.iloadN X0.here hx rfl (D d21_33) rfl (XS.imul X0.here hx rfl (D d21_34) rfl (XS.istoreN X0.here hx rfl (D d21_35) rfl (l' := lv20) rfl (XS.iinc X0.here hx rfl (D d21_36) rfl (l' := lv21) rfl (XS.goto X0.here hx rfl (pc0 := 39) (pc' := 16) rfl (D d21_39) (by decide) (by decide) (XS.iloadN X0.here hx rfl (D d21_16) rfl (XS.bipush X0.here hx rfl (D d21_17) (XS.icmpNo X0.here hx rfl (D d21_19) rfl (tlt ((by decide : (7 : Int32) < (10 : Int32)))).2.1 (XS.iloadN X0.here hx rfl (D d21_22) rfl (XS.iloadN X0.here hx rfl (D d21_23) rfl kK)))))))))))) ?_
        rcases Decidable.em ((-10000000 : Int32) < P) with hc22 | hc22
        ·refine oo (S' := s₁.setTop (mkF m 30 lv21 [(.int 8)])) (fun _ kK => XS.icmpNo X0.here hx rfl (D d21_24) rfl (tlt (hc22)).2.2.2 (XS.iloadN X0.here hx rfl (D d21_27) rfl (XS.iloadN X0.here hx rfl (D d21_28) rfl (XS.iadd X0.here hx rfl (D d21_29) rfl kK)))) ?_
         refine OwnEnd.ret X0 (v := (some (.int 8))) (fun h => by rw [Bd.returns] at h; cases h) hlk (fun fs hr => retOut X0 hx Bd.returns rfl (Or.inl ⟨rfl, Or.inl rfl, _, rfl⟩) (D d21_30) hr) (by decide) (by decide) (Q := (own_Qint (own_ssz P)) h0 n0) e0 ?_
         exact ⟨(by simp [own_ssz, own_ss, hc1, hc4, hc7, hc10, hc13, hc16, hc19, hc22]), N0, rfl⟩
        ·let lv23 : Array Slot := #[vI P, vI 1, vI (-100000000 : Int32), vI 7]
         let lv24 : Array Slot := #[vI P, vI 1, vI (-100000000 : Int32), vI 8]
         refine oo (S' := s₁.setTop (mkF m 24 lv24 [(.int (-100000000 : Int32)), (.int P)])) (fun _ kK => XS.icmpYes X0.here hx rfl (pc0 := 24) (pc' := 31) rfl (D d21_24) rfl (flt (hc22)).2.2.2 (by decide) (by decide) (XS.bipush X0.here hx rfl (D d21_31) (XS.iloadN X0.here hx rfl (D d21_33) rfl (XS.imul X0.here hx rfl (D d21_34) rfl (XS.istoreN X0.here hx rfl (D d21_35) rfl (l' := lv23) rfl (XS.iinc X0.here hx rfl (D d21_36) rfl (l' := lv24) rfl (XS.goto X0.here hx rfl (pc0 := 39) (pc' := 16) rfl (D d21_39) (by decide) (by decide) (XS.iloadN X0.here hx rfl (D d21_16) rfl (XS.bipush X0.here hx rfl (D d21_17) (XS.icmpNo X0.here hx rfl (D d21_19) rfl (tlt ((by decide : (8 : Int32) < (10 : Int32)))).2.1 (XS.iloadN X0.here hx rfl (D d21_22) rfl (XS.iloadN X0.here hx rfl (D d21_23) rfl kK)))))))))))) ?_
         rcases Decidable.em ((-100000000 : Int32) < P) with hc25 | hc25
         ·refine oo (S' := s₁.setTop (mkF m 30 lv24 [(.int 9)])) (fun _ kK => XS.icmpNo X0.here hx rfl (D d21_24) rfl (tlt (hc25)).2.2.2 (XS.iloadN X0.here hx rfl (D d21_27) rfl (XS.iloadN X0.here hx rfl (D d21_28) rfl (XS.iadd X0.here hx rfl (D d21_29) rfl kK)))) ?_
          refine OwnEnd.ret X0 (v := (some (.int 9))) (fun h => by rw [Bd.returns] at h; cases h) hlk (fun fs hr => retOut X0 hx Bd.returns rfl (Or.inl ⟨rfl, Or.inl rfl, _, rfl⟩) (D d21_30) hr) (by decide) (by decide) (Q := (own_Qint (own_ssz P)) h0 n0) e0 ?_
          exact ⟨(by simp [own_ssz, own_ss, hc1, hc4, hc7, hc10, hc13, hc16, hc19, hc22, hc25]), N0, rfl⟩
         ·let lv26 : Array Slot := #[vI P, vI 1, vI (-1000000000 : Int32), vI 8]
          let lv27 : Array Slot := #[vI P, vI 1, vI (-1000000000 : Int32), vI 9]
          refine oo (S' := s₁.setTop (mkF m 24 lv27 [(.int (-1000000000 : Int32)), (.int P)])) (fun _ kK => XS.icmpYes X0.here hx rfl (pc0 := 24) (pc' := 31) rfl (D d21_24) rfl (flt (hc25)).2.2.2 (by decide) (by decide) (XS.bipush X0.here hx rfl (D d21_31) (XS.iloadN X0.here hx rfl (D d21_33) rfl (XS.imul X0.here hx rfl (D d21_34) rfl (XS.istoreN X0.here hx rfl (D d21_35) rfl (l' := lv26) rfl (XS.iinc X0.here hx rfl (D d21_36) rfl (l' := lv27) rfl (XS.goto X0.here hx rfl (pc0 := 39) (pc' := 16) rfl (D d21_39) (by decide) (by decide) (XS.iloadN X0.here hx rfl (D d21_16) rfl (XS.bipush X0.here hx rfl (D d21_17) (XS.icmpNo X0.here hx rfl (D d21_19) rfl (tlt ((by decide : (9 : Int32) < (10 : Int32)))).2.1 (XS.iloadN X0.here hx rfl (D d21_22) rfl (XS.iloadN X0.here hx rfl (D d21_23) rfl kK)))))))))))) ?_
          rcases Decidable.em ((-1000000000 : Int32) < P) with hc28 | hc28
          ·refine oo (S' := s₁.setTop (mkF m 30 lv27 [(.int 10)])) (fun _ kK => XS.icmpNo X0.here hx rfl (D d21_24) rfl (tlt (hc28)).2.2.2 (XS.iloadN X0.here hx rfl (D d21_27) rfl (XS.iloadN X0.here hx rfl (D d21_28) rfl (XS.iadd X0.here hx rfl (D d21_29) rfl kK)))) ?_
           refine OwnEnd.ret X0 (v := (some (.int 10))) (fun h => by rw [Bd.returns] at h; cases h) hlk (fun fs hr => retOut X0 hx Bd.returns rfl (Or.inl ⟨rfl, Or.inl rfl, _, rfl⟩) (D d21_30) hr) (by decide) (by decide) (Q := (own_Qint (own_ssz P)) h0 n0) e0 ?_
           exact ⟨(by simp [own_ssz, own_ss, hc1, hc4, hc7, hc10, hc13, hc16, hc19, hc22, hc25, hc28]), N0, rfl⟩
          ·let lv29 : Array Slot := #[vI P, vI 1, vI (-1410065408 : Int32), vI 9]
           let lv30 : Array Slot := #[vI P, vI 1, vI (-1410065408 : Int32), vI 10]
           refine oo (S' := s₁.setTop (mkF m 46 lv30 [(.int 11)])) (fun _ kK => XS.icmpYes X0.here hx rfl (pc0 := 24) (pc' := 31) rfl (D d21_24) rfl (flt (hc28)).2.2.2 (by decide) (by decide) (XS.bipush X0.here hx rfl (D d21_31) (XS.iloadN X0.here hx rfl (D d21_33) rfl (XS.imul X0.here hx rfl (D d21_34) rfl (XS.istoreN X0.here hx rfl (D d21_35) rfl (l' := lv29) rfl (XS.iinc X0.here hx rfl (D d21_36) rfl (l' := lv30) rfl (XS.goto X0.here hx rfl (pc0 := 39) (pc' := 16) rfl (D d21_39) (by decide) (by decide) (XS.iloadN X0.here hx rfl (D d21_16) rfl (XS.bipush X0.here hx rfl (D d21_17) (XS.icmpYes X0.here hx rfl (pc0 := 19) (pc' := 42) rfl (D d21_19) rfl (flt ((by decide : ¬ ((10 : Int32) < (10 : Int32))))).2.1 (by decide) (by decide) (XS.bipush X0.here hx rfl (D d21_42) (XS.iloadN X0.here hx rfl (D d21_44) rfl (XS.iadd X0.here hx rfl (D d21_45) rfl kK))))))))))))) ?_
           refine OwnEnd.ret X0 (v := (some (.int 11))) (fun h => by rw [Bd.returns] at h; cases h) hlk (fun fs hr => retOut X0 hx Bd.returns rfl (Or.inl ⟨rfl, Or.inl rfl, _, rfl⟩) (D d21_46) hr) (by decide) (by decide) (Q := (own_Qint (own_ssz P)) h0 n0) e0 ?_
           exact ⟨(by simp [own_ssz, own_ss, hc1, hc4, hc7, hc10, hc13, hc16, hc19, hc22, hc25, hc28]), N0, rfl⟩
 ·let lv31 : Array Slot := #[vI (-P), vI 0, .unset, .unset]
  let lv32 : Array Slot := #[vI (-P), vI 0, vI (-10 : Int32), .unset]
  let lv33 : Array Slot := #[vI (-P), vI 0, vI (-10 : Int32), vI 1]
  refine oo (S' := s₁.setTop (mkF m 24 lv33 [(.int (-10 : Int32)), (.int (-P))])) (fun _ kK => XS.ifNo X0.here hx rfl (D d21_3) rfl ((if0 _ _).trans (flt (hc1)).1) (XS.iconst X0.here hx rfl (D d21_6) (XS.istoreN X0.here hx rfl (D d21_7) rfl (l' := #[vI P, vI 0, .unset, .unset]) rfl (XS.iloadN X0.here hx rfl (D d21_8) rfl (XS.ineg X0.here hx rfl (D d21_9) rfl (XS.istoreN X0.here hx rfl (D d21_10) rfl (l' := lv31) rfl (XS.bipush X0.here hx rfl (D d21_11) (XS.istoreN X0.here hx rfl (D d21_13) rfl (l' := lv32) rfl (XS.iconst X0.here hx rfl (D d21_14) (XS.istoreN X0.here hx rfl (D d21_15) rfl (l' := lv33) rfl (XS.iloadN X0.here hx rfl (D d21_16) rfl (XS.bipush X0.here hx rfl (D d21_17) (XS.icmpNo X0.here hx rfl (D d21_19) rfl (tlt ((by decide : (1 : Int32) < (10 : Int32)))).2.1 (XS.iloadN X0.here hx rfl (D d21_22) rfl (XS.iloadN X0.here hx rfl (D d21_23) rfl kK))))))))))))))) ?_
  rcases Decidable.em ((-10 : Int32) < (-P)) with hc34 | hc34
  ·refine oo (S' := s₁.setTop (mkF m 30 lv33 [(.int 1)])) (fun _ kK => XS.icmpNo X0.here hx rfl (D d21_24) rfl (tlt (hc34)).2.2.2 (XS.iloadN X0.here hx rfl (D d21_27) rfl (XS.iloadN X0.here hx rfl (D d21_28) rfl (XS.iadd X0.here hx rfl (D d21_29) rfl kK)))) ?_
   refine OwnEnd.ret X0 (v := (some (.int 1))) (fun h => by rw [Bd.returns] at h; cases h) hlk (fun fs hr => retOut X0 hx Bd.returns rfl (Or.inl ⟨rfl, Or.inl rfl, _, rfl⟩) (D d21_30) hr) (by decide) (by decide) (Q := (own_Qint (own_ssz P)) h0 n0) e0 ?_
   exact ⟨(by simp [own_ssz, own_ss, hc1, hc34]), N0, rfl⟩
  ·let lv35 : Array Slot := #[vI (-P), vI 0, vI (-100 : Int32), vI 1]
   let lv36 : Array Slot := #[vI (-P), vI 0, vI (-100 : Int32), vI 2]
   refine oo (S' := s₁.setTop (mkF m 24 lv36 [(.int (-100 : Int32)), (.int (-P))])) (fun _ kK => XS.icmpYes X0.here hx rfl (pc0 := 24) (pc' := 31) rfl (D d21_24) rfl (flt (hc34)).2.2.2 (by decide) (by decide) (XS.bipush X0.here hx rfl (D d21_31) (XS.iloadN X0.here hx rfl (D d21_33) rfl (XS.imul X0.here hx rfl (D d21_34) rfl (XS.istoreN X0.here hx rfl (D d21_35) rfl (l' := lv35) rfl (XS.iinc X0.here hx rfl (D d21_36) rfl (l' := lv36) rfl (XS.goto X0.here hx rfl (pc0 := 39) (pc' := 16) rfl (D d21_39) (by decide) (by decide) (XS.iloadN X0.here hx rfl (D d21_16) rfl (XS.bipush X0.here hx rfl (D d21_17) (XS.icmpNo X0.here hx rfl (D d21_19) rfl (tlt ((by decide : (2 : Int32) < (10 : Int32)))).2.1 (XS.iloadN X0.here hx rfl (D d21_22) rfl (XS.iloadN X0.here hx rfl (D d21_23) rfl kK)))))))))))) ?_
   rcases Decidable.em ((-100 : Int32) < (-P)) with hc37 | hc37
   ·refine oo (S' := s₁.setTop (mkF m 30 lv36 [(.int 2)])) (fun _ kK => XS.icmpNo X0.here hx rfl (D d21_24) rfl (tlt (hc37)).2.2.2 (XS.iloadN X0.here hx rfl (D d21_27) rfl (XS.iloadN X0.here hx rfl (D d21_28) rfl (XS.iadd X0.here hx rfl (D d21_29) rfl kK)))) ?_
    refine OwnEnd.ret X0 (v := (some (.int 2))) (fun h => by rw [Bd.returns] at h; cases h) hlk (fun fs hr => retOut X0 hx Bd.returns rfl (Or.inl ⟨rfl, Or.inl rfl, _, rfl⟩) (D d21_30) hr) (by decide) (by decide) (Q := (own_Qint (own_ssz P)) h0 n0) e0 ?_
    exact ⟨(by simp [own_ssz, own_ss, hc1, hc34, hc37]), N0, rfl⟩
   ·let lv38 : Array Slot := #[vI (-P), vI 0, vI (-1000 : Int32), vI 2]
    let lv39 : Array Slot := #[vI (-P), vI 0, vI (-1000 : Int32), vI 3]
    refine oo (S' := s₁.setTop (mkF m 24 lv39 [(.int (-1000 : Int32)), (.int (-P))])) (fun _ kK => XS.icmpYes X0.here hx rfl (pc0 := 24) (pc' := 31) rfl (D d21_24) rfl (flt (hc37)).2.2.2 (by decide) (by decide) (XS.bipush X0.here hx rfl (D d21_31) (XS.iloadN X0.here hx rfl (D d21_33) rfl (XS.imul X0.here hx rfl (D d21_34) rfl (XS.istoreN X0.here hx rfl (D d21_35) rfl (l' := lv38) rfl (XS.iinc X0.here hx rfl (D d21_36) rfl (l' := lv39) rfl (XS.goto X0.here hx rfl (pc0 := 39) (pc' := 16) rfl (D d21_39) (by decide) (by decide) (XS.iloadN X0.here hx rfl (D d21_16) rfl (XS.bipush X0.here hx rfl (D d21_17) (XS.icmpNo X0.here hx rfl (D d21_19) rfl (tlt ((by decide : (3 : Int32) < (10 : Int32)))).2.1 (XS.iloadN X0.here hx rfl (D d21_22) rfl (XS.iloadN X0.here hx rfl (D d21_23) rfl kK)))))))))))) ?_
    rcases Decidable.em ((-1000 : Int32) < (-P)) with hc40 | hc40
    ·refine oo (S' := s₁.setTop (mkF m 30 lv39 [(.int 3)])) (fun _ kK => XS.icmpNo X0.here hx rfl (D d21_24) rfl (tlt (hc40)).2.2.2 (XS.iloadN X0.here hx rfl (D d21_27) rfl (XS.iloadN X0.here hx rfl (D d21_28) rfl (XS.iadd X0.here hx rfl (D d21_29) rfl kK)))) ?_
     refine OwnEnd.ret X0 (v := (some (.int 3))) (fun h => by rw [Bd.returns] at h; cases h) hlk (fun fs hr => retOut X0 hx Bd.returns rfl (Or.inl ⟨rfl, Or.inl rfl, _, rfl⟩) (D d21_30) hr) (by decide) (by decide) (Q := (own_Qint (own_ssz P)) h0 n0) e0 ?_
     exact ⟨(by simp [own_ssz, own_ss, hc1, hc34, hc37, hc40]), N0, rfl⟩
    ·let lv41 : Array Slot := #[vI (-P), vI 0, vI (-10000 : Int32), vI 3]
     let lv42 : Array Slot := #[vI (-P), vI 0, vI (-10000 : Int32), vI 4]
     refine oo (S' := s₁.setTop (mkF m 24 lv42 [(.int (-10000 : Int32)), (.int (-P))])) (fun _ kK => XS.icmpYes X0.here hx rfl (pc0 := 24) (pc' := 31) rfl (D d21_24) rfl (flt (hc40)).2.2.2 (by decide) (by decide) (XS.bipush X0.here hx rfl (D d21_31) (XS.iloadN X0.here hx rfl (D d21_33) rfl (XS.imul X0.here hx rfl (D d21_34) rfl (XS.istoreN X0.here hx rfl (D d21_35) rfl (l' := lv41) rfl (XS.iinc X0.here hx rfl (D d21_36) rfl (l' := lv42) rfl (XS.goto X0.here hx rfl (pc0 := 39) (pc' := 16) rfl (D d21_39) (by decide) (by decide) (XS.iloadN X0.here hx rfl (D d21_16) rfl (XS.bipush X0.here hx rfl (D d21_17) (XS.icmpNo X0.here hx rfl (D d21_19) rfl (tlt ((by decide : (4 : Int32) < (10 : Int32)))).2.1 (XS.iloadN X0.here hx rfl (D d21_22) rfl (XS.iloadN X0.here hx rfl (D d21_23) rfl kK)))))))))))) ?_
     rcases Decidable.em ((-10000 : Int32) < (-P)) with hc43 | hc43
     ·refine oo (S' := s₁.setTop (mkF m 30 lv42 [(.int 4)])) (fun _ kK => XS.icmpNo X0.here hx rfl (D d21_24) rfl (tlt (hc43)).2.2.2 (XS.iloadN X0.here hx rfl (D d21_27) rfl (XS.iloadN X0.here hx rfl (D d21_28) rfl (XS.iadd X0.here hx rfl (D d21_29) rfl kK)))) ?_
      refine OwnEnd.ret X0 (v := (some (.int 4))) (fun h => by rw [Bd.returns] at h; cases h) hlk (fun fs hr => retOut X0 hx Bd.returns rfl (Or.inl ⟨rfl, Or.inl rfl, _, rfl⟩) (D d21_30) hr) (by decide) (by decide) (Q := (own_Qint (own_ssz P)) h0 n0) e0 ?_
      exact ⟨(by simp [own_ssz, own_ss, hc1, hc34, hc37, hc40, hc43]), N0, rfl⟩
     ·let lv44 : Array Slot := #[vI (-P), vI 0, vI (-100000 : Int32), vI 4]
      let lv45 : Array Slot := #[vI (-P), vI 0, vI (-100000 : Int32), vI 5]
      refine oo (S' := s₁.setTop (mkF m 24 lv45 [(.int (-100000 : Int32)), (.int (-P))])) (fun _ kK => XS.icmpYes X0.here hx rfl (pc0 := 24) (pc' := 31) rfl (D d21_24) rfl (flt (hc43)).2.2.2 (by decide) (by decide) (XS.bipush X0.here hx rfl (D d21_31) (XS.iloadN X0.here hx rfl (D d21_33) rfl (XS.imul X0.here hx rfl (D d21_34) rfl (XS.istoreN X0.here hx rfl (D d21_35) rfl (l' := lv44) rfl (XS.iinc X0.here hx rfl (D d21_36) rfl (l' := lv45) rfl (XS.goto X0.here hx rfl (pc0 := 39) (pc' := 16) rfl (D d21_39) (by decide) (by decide) (XS.iloadN X0.here hx rfl (D d21_16) rfl (XS.bipush X0.here hx rfl (D d21_17) (XS.icmpNo X0.here hx rfl (D d21_19) rfl (tlt ((by decide : (5 : Int32) < (10 : Int32)))).2.1 (XS.iloadN X0.here hx rfl (D d21_22) rfl (XS.iloadN X0.here hx rfl (D d21_23) rfl kK)))))))))))) ?_
      rcases Decidable.em ((-100000 : Int32) < (-P)) with hc46 | hc46
      ·refine oo (S' := s₁.setTop (mkF m 30 lv45 [(.int 5)])) (fun _ kK => XS.icmpNo X0.here hx rfl (D d21_24) rfl (tlt (hc46)).2.2.2 (XS.iloadN X0.here hx rfl (D d21_27) rfl (XS.iloadN X0.here hx rfl (D d21_28) rfl (XS.iadd X0.here hx rfl (D d21_29) rfl kK)))) ?_
       refine OwnEnd.ret X0 (v := (some (.int 5))) (fun h => by rw [Bd.returns] at h; cases h) hlk (fun fs hr => retOut X0 hx Bd.returns rfl (Or.inl ⟨rfl, Or.inl rfl, _, rfl⟩) (D d21_30) hr) (by decide) (by decide) (Q := (own_Qint (own_ssz P)) h0 n0) e0 ?_
       exact ⟨(by simp [own_ssz, own_ss, hc1, hc34, hc37, hc40, hc43, hc46]), N0, rfl⟩
      ·let lv47 : Array Slot := #[vI (-P), vI 0, vI (-1000000 : Int32), vI 5]
       let lv48 : Array Slot := #[vI (-P), vI 0, vI (-1000000 : Int32), vI 6]
       refine oo (S' := s₁.setTop (mkF m 24 lv48 [(.int (-1000000 : Int32)), (.int (-P))])) (fun _ kK => XS.icmpYes X0.here hx rfl (pc0 := 24) (pc' := 31) rfl (D d21_24) rfl (flt (hc46)).2.2.2 (by decide) (by decide) (XS.bipush X0.here hx rfl (D d21_31) (XS.iloadN X0.here hx rfl (D d21_33) rfl (XS.imul X0.here hx rfl (D d21_34) rfl (XS.istoreN X0.here hx rfl (D d21_35) rfl (l' := lv47) rfl (XS.iinc X0.here hx rfl (D d21_36) rfl (l' := lv48) rfl (XS.goto X0.here hx rfl (pc0 := 39) (pc' := 16) rfl (D d21_39) (by decide) (by decide) (XS.iloadN X0.here hx rfl (D d21_16) rfl (XS.bipush X0.here hx rfl (D d21_17) (XS.icmpNo X0.here hx rfl (D d21_19) rfl (tlt ((by decide : (6 : Int32) < (10 : Int32)))).2.1 (XS.iloadN X0.here hx rfl (D d21_22) rfl (XS.iloadN X0.here hx rfl (D d21_23) rfl kK)))))))))))) ?_
       rcases Decidable.em ((-1000000 : Int32) < (-P)) with hc49 | hc49
       ·refine oo (S' := s₁.setTop (mkF m 30 lv48 [(.int 6)])) (fun _ kK => XS.icmpNo X0.here hx rfl (D d21_24) rfl (tlt (hc49)).2.2.2 (XS.iloadN X0.here hx rfl (D d21_27) rfl (XS.iloadN X0.here hx rfl (D d21_28) rfl (XS.iadd X0.here hx rfl (D d21_29) rfl kK)))) ?_
        refine OwnEnd.ret X0 (v := (some (.int 6))) (fun h => by rw [Bd.returns] at h; cases h) hlk (fun fs hr => retOut X0 hx Bd.returns rfl (Or.inl ⟨rfl, Or.inl rfl, _, rfl⟩) (D d21_30) hr) (by decide) (by decide) (Q := (own_Qint (own_ssz P)) h0 n0) e0 ?_
        exact ⟨(by simp [own_ssz, own_ss, hc1, hc34, hc37, hc40, hc43, hc46, hc49]), N0, rfl⟩
       ·let lv50 : Array Slot := #[vI (-P), vI 0, vI (-10000000 : Int32), vI 6]
        let lv51 : Array Slot := #[vI (-P), vI 0, vI (-10000000 : Int32), vI 7]
        refine oo (S' := s₁.setTop (mkF m 24 lv51 [(.int (-10000000 : Int32)), (.int (-P))])) (fun _ kK => XS.icmpYes X0.here hx rfl (pc0 := 24) (pc' := 31) rfl (D d21_24) rfl (flt (hc49)).2.2.2 (by decide) (by decide) (XS.bipush X0.here hx rfl (D d21_31) (XS.iloadN X0.here hx rfl (D d21_33) rfl (XS.imul X0.here hx rfl (D d21_34) rfl (XS.istoreN X0.here hx rfl (D d21_35) rfl (l' := lv50) rfl (XS.iinc X0.here hx rfl (D d21_36) rfl (l' := lv51) rfl (XS.goto X0.here hx rfl (pc0 := 39) (pc' := 16) rfl (D d21_39) (by decide) (by decide) (XS.iloadN X0.here hx rfl (D d21_16) rfl (XS.bipush X0.here hx rfl (D d21_17) (XS.icmpNo X0.here hx rfl (D d21_19) rfl (tlt ((by decide : (7 : Int32) < (10 : Int32)))).2.1 (XS.iloadN X0.here hx rfl (D d21_22) rfl (XS.iloadN X0.here hx rfl (D d21_23) rfl kK)))))))))))) ?_
        rcases Decidable.em ((-10000000 : Int32) < (-P)) with hc52 | hc52
        ·refine oo (S' := s₁.setTop (mkF m 30 lv51 [(.int 7)])) (fun _ kK => XS.icmpNo X0.here hx rfl (D d21_24) rfl (tlt (hc52)).2.2.2 (XS.iloadN X0.here hx rfl (D d21_27) rfl (XS.iloadN X0.here hx rfl (D d21_28) rfl (XS.iadd X0.here hx rfl (D d21_29) rfl kK)))) ?_
         refine OwnEnd.ret X0 (v := (some (.int 7))) (fun h => by rw [Bd.returns] at h; cases h) hlk (fun fs hr => retOut X0 hx Bd.returns rfl (Or.inl ⟨rfl, Or.inl rfl, _, rfl⟩) (D d21_30) hr) (by decide) (by decide) (Q := (own_Qint (own_ssz P)) h0 n0) e0 ?_
         exact ⟨(by simp [own_ssz, own_ss, hc1, hc34, hc37, hc40, hc43, hc46, hc49, hc52]), N0, rfl⟩
        ·let lv53 : Array Slot := #[vI (-P), vI 0, vI (-100000000 : Int32), vI 7]
         let lv54 : Array Slot := #[vI (-P), vI 0, vI (-100000000 : Int32), vI 8]
         refine oo (S' := s₁.setTop (mkF m 24 lv54 [(.int (-100000000 : Int32)), (.int (-P))])) (fun _ kK => XS.icmpYes X0.here hx rfl (pc0 := 24) (pc' := 31) rfl (D d21_24) rfl (flt (hc52)).2.2.2 (by decide) (by decide) (XS.bipush X0.here hx rfl (D d21_31) (XS.iloadN X0.here hx rfl (D d21_33) rfl (XS.imul X0.here hx rfl (D d21_34) rfl (XS.istoreN X0.here hx rfl (D d21_35) rfl (l' := lv53) rfl (XS.iinc X0.here hx rfl (D d21_36) rfl (l' := lv54) rfl (XS.goto X0.here hx rfl (pc0 := 39) (pc' := 16) rfl (D d21_39) (by decide) (by decide) (XS.iloadN X0.here hx rfl (D d21_16) rfl (XS.bipush X0.here hx rfl (D d21_17) (XS.icmpNo X0.here hx rfl (D d21_19) rfl (tlt ((by decide : (8 : Int32) < (10 : Int32)))).2.1 (XS.iloadN X0.here hx rfl (D d21_22) rfl (XS.iloadN X0.here hx rfl (D d21_23) rfl kK)))))))))))) ?_
         rcases Decidable.em ((-100000000 : Int32) < (-P)) with hc55 | hc55
         ·refine oo (S' := s₁.setTop (mkF m 30 lv54 [(.int 8)])) (fun _ kK => XS.icmpNo X0.here hx rfl (D d21_24) rfl (tlt (hc55)).2.2.2 (XS.iloadN X0.here hx rfl (D d21_27) rfl (XS.iloadN X0.here hx rfl (D d21_28) rfl (XS.iadd X0.here hx rfl (D d21_29) rfl kK)))) ?_
          refine OwnEnd.ret X0 (v := (some (.int 8))) (fun h => by rw [Bd.returns] at h; cases h) hlk (fun fs hr => retOut X0 hx Bd.returns rfl (Or.inl ⟨rfl, Or.inl rfl, _, rfl⟩) (D d21_30) hr) (by decide) (by decide) (Q := (own_Qint (own_ssz P)) h0 n0) e0 ?_
          exact ⟨(by simp [own_ssz, own_ss, hc1, hc34, hc37, hc40, hc43, hc46, hc49, hc52, hc55]), N0, rfl⟩
         ·let lv56 : Array Slot := #[vI (-P), vI 0, vI (-1000000000 : Int32), vI 8]
          let lv57 : Array Slot := #[vI (-P), vI 0, vI (-1000000000 : Int32), vI 9]
          refine oo (S' := s₁.setTop (mkF m 24 lv57 [(.int (-1000000000 : Int32)), (.int (-P))])) (fun _ kK => XS.icmpYes X0.here hx rfl (pc0 := 24) (pc' := 31) rfl (D d21_24) rfl (flt (hc55)).2.2.2 (by decide) (by decide) (XS.bipush X0.here hx rfl (D d21_31) (XS.iloadN X0.here hx rfl (D d21_33) rfl (XS.imul X0.here hx rfl (D d21_34) rfl (XS.istoreN X0.here hx rfl (D d21_35) rfl (l' := lv56) rfl (XS.iinc X0.here hx rfl (D d21_36) rfl (l' := lv57) rfl (XS.goto X0.here hx rfl (pc0 := 39) (pc' := 16) rfl (D d21_39) (by decide) (by decide) (XS.iloadN X0.here hx rfl (D d21_16) rfl (XS.bipush X0.here hx rfl (D d21_17) (XS.icmpNo X0.here hx rfl (D d21_19) rfl (tlt ((by decide : (9 : Int32) < (10 : Int32)))).2.1 (XS.iloadN X0.here hx rfl (D d21_22) rfl (XS.iloadN X0.here hx rfl (D d21_23) rfl kK)))))))))))) ?_
          rcases Decidable.em ((-1000000000 : Int32) < (-P)) with hc58 | hc58
          ·refine oo (S' := s₁.setTop (mkF m 30 lv57 [(.int 9)])) (fun _ kK => XS.icmpNo X0.here hx rfl (D d21_24) rfl (tlt (hc58)).2.2.2 (XS.iloadN X0.here hx rfl (D d21_27) rfl (XS.iloadN X0.here hx rfl (D d21_28) rfl (XS.iadd X0.here hx rfl (D d21_29) rfl kK)))) ?_
           refine OwnEnd.ret X0 (v := (some (.int 9))) (fun h => by rw [Bd.returns] at h; cases h) hlk (fun fs hr => retOut X0 hx Bd.returns rfl (Or.inl ⟨rfl, Or.inl rfl, _, rfl⟩) (D d21_30) hr) (by decide) (by decide) (Q := (own_Qint (own_ssz P)) h0 n0) e0 ?_
           exact ⟨(by simp [own_ssz, own_ss, hc1, hc34, hc37, hc40, hc43, hc46, hc49, hc52, hc55, hc58]), N0, rfl⟩
          ·let lv59 : Array Slot := #[vI (-P), vI 0, vI (-1410065408 : Int32), vI 9]
           let lv60 : Array Slot := #[vI (-P), vI 0, vI (-1410065408 : Int32), vI 10]
           refine oo (S' := s₁.setTop (mkF m 46 lv60 [(.int 10)])) (fun _ kK => XS.icmpYes X0.here hx rfl (pc0 := 24) (pc' := 31) rfl (D d21_24) rfl (flt (hc58)).2.2.2 (by decide) (by decide) (XS.bipush X0.here hx rfl (D d21_31) (XS.iloadN X0.here hx rfl (D d21_33) rfl (XS.imul X0.here hx rfl (D d21_34) rfl (XS.istoreN X0.here hx rfl (D d21_35) rfl (l' := lv59) rfl (XS.iinc X0.here hx rfl (D d21_36) rfl (l' := lv60) rfl (XS.goto X0.here hx rfl (pc0 := 39) (pc' := 16) rfl (D d21_39) (by decide) (by decide) (XS.iloadN X0.here hx rfl (D d21_16) rfl (XS.bipush X0.here hx rfl (D d21_17) (XS.icmpYes X0.here hx rfl (pc0 := 19) (pc' := 42) rfl (D d21_19) rfl (flt ((by decide : ¬ ((10 : Int32) < (10 : Int32))))).2.1 (by decide) (by decide) (XS.bipush X0.here hx rfl (D d21_42) (XS.iloadN X0.here hx rfl (D d21_44) rfl (XS.iadd X0.here hx rfl (D d21_45) rfl kK))))))))))))) ?_
           refine OwnEnd.ret X0 (v := (some (.int 10))) (fun h => by rw [Bd.returns] at h; cases h) hlk (fun fs hr => retOut X0 hx Bd.returns rfl (Or.inl ⟨rfl, Or.inl rfl, _, rfl⟩) (D d21_46) hr) (by decide) (by decide) (Q := (own_Qint (own_ssz P)) h0 n0) e0 ?_
           exact ⟨(by simp [own_ssz, own_ss, hc1, hc34, hc37, hc40, hc43, hc46, hc49, hc52, hc55, hc58]), N0, rfl⟩

def Qgc (Z : State) (P : Int32) (q0 : Int32) (vb : Addr) (kv : ClassId) (vs : List Value) (mu : Nat) (h0 : Heap) (n0 : Nat) (v : Option Value) (h : Heap) (L : List Loc) : Prop := ∃ (rv : Int32) (w : List Value), v = some (.int rv) ∧ Fr n0 L ∧ Keep h0 h [vb] ∧ (Arv Z h vb kv .byte (16 : Int32) w (.int 0)) ∧ (own_ok P mu vs w)

set_option maxRecDepth 65536 in
set_option maxHeartbeats 40000000 in
theorem sfg4 (l : Launch) (Z : State) (a0 : Array Value) (G : OwnG Z a0) (P : Int32) (q0 : Int32) (vb : Addr) (kv : ClassId) (vs : List Value) (mu : Nat) (h0 : Heap) (n0 : Nat) (O0 : Old Z n0 h0) (P1 : n0 ≤ vb) (P2 : vs.length = 16) (P3 : own_nd (own_n P) + own_sg P ≤ mu) (P4 : mu ≤ 16) (P5 : q0 = Int32.ofNat mu) {p : Program} {e : Env} {s : State} {m : MethodId} {below : List Frame} {meth : Method} {cD : Code} {s₁ : State} {Sp : Spec} (Bd : BodyLoose p l own_m22 Sp B28 7 (some .int) e s m #[(.int P), (.int q0), (.ref vb)] below meth cD s₁) (hml0 : cD.maxLocals = 7) (hZ : Z.Warmed39 s.vm) {TJ : State} {locs : List Loc} (XJ : Stand p l e (rR 0 0 0 0) s m #[(.int P), (.int q0), (.ref vb)] below meth cD TJ locs 0 0) (hJ : Heap) (eJ : TJ.heap = hJ) (KJ : Keep h0 hJ [vb]) (OJ : Old Z n0 hJ) (NJ : Fr n0 locs) (szJ : Array.size h0 ≤ Array.size hJ) (x : Int32) (q : Int32) (w : List Value) (sgn : Int32) (r4 : Int32) (J0 : Arv Z hJ vb kv .byte (16 : Int32) w (.int 0)) (J1 : own_inv P mu vs 4 x w) (J2 : q = Int32.ofNat (mu - 2 * 4)) (J3 : (sgn = (1 : Int32) ∧ P < (0 : Int32)) ∨ (sgn = (0 : Int32) ∧ ¬ P < (0 : Int32))) :
  OwnEnd p e below (fun o t => ∃ v L, o = .returned v ∧ (Qgc Z P q0 vb kv vs mu) h0 n0 v t.heap L ∧ FrameEnd s o t L (rR 0 0 0 0).cells (rR 0 0 0 0).slots) (TJ.setTop (mkF m 22 #[vI x, vI q0, vR vb, vI x, vI r4, vI q, vI sgn] [])) := by
 have hx := Bd.exec
 have hby := Bd.bytes
 have D := @hb _ _ hby
 have hml : cD.maxLocals = 7 := hml0
 have hown : s.vm.findClass j5 = some m.cls := findClass_of_methodNamed Bd.named
 have hlk := Bd.notSynchronized
 have ltJ0 := lN J0.lt
 have Z0 := own_old_le O0
 obtain ⟨aO, aT, S1, S2, TB1, TB2⟩ := own_tabs G
 let lv1 : Array Slot := #[vI x, vI q0, vR vb, vI x, vI r4, vI q, vI sgn]
 refine oo (S' := TJ.setTop (mkF m 72 lv1 [])) (fun _ kK => XS.iloadN XJ.here hx rfl (D d22_22) rfl (XS.bipush XJ.here hx rfl (D d22_23) (XS.icmpYes XJ.here hx rfl (pc0 := 25) (pc' := 72) rfl (D d22_25) rfl (tlt ((own_inv4 J1))).2.2.1 (by decide) (by decide) kK))) ?_
 have hhi := (own_inv4 J1)
 have Ep := own_ex (by decide) J1 hhi P3
 have epm := Ep.1
 have wl := J1.2.1
 have ix1 := own_ix (own_q1 J2 (by omega)) (by omega)
 let lv2 : Array Slot := #[vI x, vI q0, vR vb, vI x, vI r4, vI (q + (-1 : Int32)), vI sgn]
 refine oo (S' := TJ.setTop (mkF m 78 lv2 [(.int (q + (-1 : Int32))), (.ref vb)])) (fun _ kK => XS.aloadN XJ.here hx rfl (D d22_72) rfl rfl (XS.iinc XJ.here hx rfl (D d22_73) rfl (l' := lv2) rfl (XS.iload XJ.here hx rfl (D d22_76) rfl kK))) ?_
 obtain ⟨T3, X3, e3, st3⟩ := getS2 XJ hx hZ hown (host := "") (Or.inl (w_ G 131 rfl)) Via.refl eJ (S1.ext OJ.2) (g := (mkF m 78 lv2 [(.int (q + (-1 : Int32))), (.ref vb)])) rfl (D d22_78)
 refine oo (S' := T3.setTop (mkF m 81 lv2 [(.ref aO), (.int (q + (-1 : Int32))), (.ref vb)])) st3 ?_
 refine oo (S' := T3.setTop (mkF m 83 lv2 [(.int (-x)), (.ref aO), (.int (q + (-1 : Int32))), (.ref vb)])) (fun _ kK => XS.iloadN X3.here hx rfl (D d22_81) rfl (XS.ineg X3.here hx rfl (D d22_82) rfl kK)) ?_
 obtain ⟨cT4, At4, zT4, Ht4⟩ := id TB1
 have At4 := At4.ext OJ.2
 refine oo (S' := T3.setTop (mkF m 84 lv2 [(.int (own_d1 (-x))), (.int (q + (-1 : Int32))), (.ref vb)])) (fun _ kK => X3.baloadBytes hx (j := (-x)) (v := .int (own_d1 (-x))) (by rw [e3]; exact At4.1) (State.isArrayOf_alike hZ.alike At4.2.1) At4.2.2 (inb_of zT4 Ep.2.1) (Ht4 _ Ep.2.1.1 Ep.2.1.2) (g := (mkF m 83 lv2 [(.int (-x)), (.ref aO), (.int (q + (-1 : Int32))), (.ref vb)])) rfl rfl (D d22_83) _ kK) ?_
 obtain ⟨cl5, Ar5, q5, S5, N5', H5, G5⟩ := id J0
 have hin6 : ¬ ((q + (-1 : Int32)) < 0 ∨ cl5.slots.size ≤ ((q + (-1 : Int32))).toNatClampNeg) := inb_of S5 ix1.1
 obtain ⟨T6, h6, X6, e6, W6, st6⟩ := stB X3 hx hZ e3 Ar5 (j := (q + (-1 : Int32))) hin6 (g := (mkF m 84 lv2 [(.int (own_d1 (-x))), (.int (q + (-1 : Int32))), (.ref vb)])) rfl rfl (D d22_84)
 have N6 := Fr.snoc X6 NJ (by omega)
 have sz7 := own_wr_le W6
 have K7 := KJ.wr W6 (Or.inl (by simp))
 have O7 := OJ.wr W6 (by omega)
 have V6 : Arv Z h6 vb kv .byte (16 : Int32) (w.set (mu - 2 * 4 - 1) (.int (nar .byte (own_d1 (-x))))) (.int 0) := Arv.set Ar5 q5 S5 N5' H5 G5 (fits_nar_byte _) W6 (mu - 2 * 4 - 1) ix1.2 (by rw [wl]; omega)
 refine oo (S' := T6.setTop (mkF m 85 lv2 [])) st6 ?_
 refine oo (S' := T6.setTop (mkF m 88 lv2 [(.int (-9 : Int32)), (.int x)])) (fun _ kK => XS.iloadN X6.here hx rfl (D d22_85) rfl (XS.bipush X6.here hx rfl (D d22_86) kK)) ?_
 rcases Decidable.em (x < (-9 : Int32)) with hc8 | hc8
 ·refine oo (S' := T6.setTop (mkF m 91 lv2 [])) (fun _ kK => XS.icmpNo X6.here hx rfl (D d22_88) rfl (tlt (hc8)).2.1 kK) ?_
  have E2 := Ep.2.2.2.1 hc8
  have e2m := E2.1
  have ix2 := own_ix (own_q2 J2 (by omega)) (by omega)
  let lv9 : Array Slot := #[vI x, vI q0, vR vb, vI x, vI r4, vI ((q + (-1 : Int32)) + (-1 : Int32)), vI sgn]
  refine oo (S' := T6.setTop (mkF m 97 lv9 [(.int ((q + (-1 : Int32)) + (-1 : Int32))), (.ref vb)])) (fun _ kK => XS.aloadN X6.here hx rfl (D d22_91) rfl rfl (XS.iinc X6.here hx rfl (D d22_92) rfl (l' := lv9) rfl (XS.iload X6.here hx rfl (D d22_95) rfl kK))) ?_
  obtain ⟨T10, X10, e10, st10⟩ := getS2 X6 hx hZ hown (host := "") (Or.inl (w_ G 229 rfl)) Via.refl e6 (S2.ext O7.2) (g := (mkF m 97 lv9 [(.int ((q + (-1 : Int32)) + (-1 : Int32))), (.ref vb)])) rfl (D d22_97)
  refine oo (S' := T10.setTop (mkF m 100 lv9 [(.ref aT), (.int ((q + (-1 : Int32)) + (-1 : Int32))), (.ref vb)])) st10 ?_
  refine oo (S' := T10.setTop (mkF m 102 lv9 [(.int (-x)), (.ref aT), (.int ((q + (-1 : Int32)) + (-1 : Int32))), (.ref vb)])) (fun _ kK => XS.iloadN X10.here hx rfl (D d22_100) rfl (XS.ineg X10.here hx rfl (D d22_101) rfl kK)) ?_
  obtain ⟨cT11, At11, zT11, Ht11⟩ := id TB2
  have At11 := At11.ext O7.2
  refine oo (S' := T10.setTop (mkF m 103 lv9 [(.int (own_d2 (-x))), (.int ((q + (-1 : Int32)) + (-1 : Int32))), (.ref vb)])) (fun _ kK => X10.baloadBytes hx (j := (-x)) (v := .int (own_d2 (-x))) (by rw [e10]; exact At11.1) (State.isArrayOf_alike hZ.alike At11.2.1) At11.2.2 (inb_of zT11 Ep.2.1) (Ht11 _ Ep.2.1.1 Ep.2.1.2) (g := (mkF m 102 lv9 [(.int (-x)), (.ref aT), (.int ((q + (-1 : Int32)) + (-1 : Int32))), (.ref vb)])) rfl rfl (D d22_102) _ kK) ?_
  obtain ⟨cl12, Ar12, q12, S12, N12', H12, G12⟩ := id V6
  have hin13 : ¬ (((q + (-1 : Int32)) + (-1 : Int32)) < 0 ∨ cl12.slots.size ≤ (((q + (-1 : Int32)) + (-1 : Int32))).toNatClampNeg) := inb_of S12 ix2.1
  obtain ⟨T13, h13, X13, e13, W13, st13⟩ := stB X10 hx hZ e10 Ar12 (j := ((q + (-1 : Int32)) + (-1 : Int32))) hin13 (g := (mkF m 103 lv9 [(.int (own_d2 (-x))), (.int ((q + (-1 : Int32)) + (-1 : Int32))), (.ref vb)])) rfl rfl (D d22_103)
  have N13 := Fr.snoc X13 N6 (by omega)
  have sz14 := own_wr_le W13
  have K14 := K7.wr W13 (Or.inl (by simp))
  have V13 : Arv Z h13 vb kv .byte (16 : Int32) ((w.set (mu - 2 * 4 - 1) (.int (nar .byte (own_d1 (-x))))).set (mu - 2 * 4 - 2) (.int (nar .byte (own_d2 (-x))))) (.int 0) := Arv.set Ar12 q12 S12 N12' H12 G12 (fits_nar_byte _) W13 (mu - 2 * 4 - 2) ix2.2 (by rw [List.length_set, wl]; omega)
  refine oo (S' := T13.setTop (mkF m 104 lv9 [])) st13 ?_
  rcases J3 with hs | hs
  ·let lv15 : Array Slot := #[vI x, vI q0, vR vb, vI x, vI r4, vI (((q + (-1 : Int32)) + (-1 : Int32)) + (-1 : Int32)), vI sgn]
   refine oo (S' := T13.setTop (mkF m 117 lv15 [(.int 45), (.int (((q + (-1 : Int32)) + (-1 : Int32)) + (-1 : Int32))), (.ref vb)])) (fun _ kK => XS.iload X13.here hx rfl (D d22_104) rfl (XS.ifNo X13.here hx rfl (D d22_106) rfl ((if0 _ _).trans (feq ((by rw [hs.1]; decide))).1) (XS.aloadN X13.here hx rfl (D d22_109) rfl rfl (XS.iinc X13.here hx rfl (D d22_110) rfl (l' := lv15) rfl (XS.iload X13.here hx rfl (D d22_113) rfl (XS.bipush X13.here hx rfl (D d22_115) kK)))))) ?_
   have e3m := E2.2.2 hs.2
   have ix3 := own_ix (own_q3 J2 (by omega)) (by omega)
   obtain ⟨cl16, Ar16, q16, S16, N16', H16, G16⟩ := id V13
   have hin17 : ¬ ((((q + (-1 : Int32)) + (-1 : Int32)) + (-1 : Int32)) < 0 ∨ cl16.slots.size ≤ ((((q + (-1 : Int32)) + (-1 : Int32)) + (-1 : Int32))).toNatClampNeg) := inb_of S16 ix3.1
   obtain ⟨T17, h17, X17, e17, W17, st17⟩ := stB X13 hx hZ e13 Ar16 (j := (((q + (-1 : Int32)) + (-1 : Int32)) + (-1 : Int32))) hin17 (g := (mkF m 117 lv15 [(.int 45), (.int (((q + (-1 : Int32)) + (-1 : Int32)) + (-1 : Int32))), (.ref vb)])) rfl rfl (D d22_117)
   have N17 := Fr.snoc X17 N13 (by omega)
   have sz18 := own_wr_le W17
   have K18 := K14.wr W17 (Or.inl (by simp))
   have V17 : Arv Z h17 vb kv .byte (16 : Int32) (((w.set (mu - 2 * 4 - 1) (.int (nar .byte (own_d1 (-x))))).set (mu - 2 * 4 - 2) (.int (nar .byte (own_d2 (-x))))).set (mu - 2 * 4 - 3) (.int 45)) (.int 0) := Arv.set Ar16 q16 S16 N16' H16 G16 (fits_nar_byte _) W17 (mu - 2 * 4 - 3) ix3.2 (by simp only [List.length_set]; rw [wl]; omega)
   refine oo (S' := T17.setTop (mkF m 118 lv15 [])) st17 ?_
   refine oo (S' := T17.setTop (mkF m 120 lv15 [(.int (((q + (-1 : Int32)) + (-1 : Int32)) + (-1 : Int32)))])) (fun _ kK => XS.iload X17.here hx rfl (D d22_118) rfl kK) ?_
   refine OwnEnd.ret X17 (v := (some (.int (((q + (-1 : Int32)) + (-1 : Int32)) + (-1 : Int32))))) (fun h => by rw [Bd.returns] at h; cases h) hlk (fun fs hr => retOut X17 hx Bd.returns rfl (Or.inl ⟨rfl, Or.inl rfl, _, rfl⟩) (D d22_120) hr) (by decide) (by decide) (Q := (Qgc Z P q0 vb kv vs mu) h0 n0) e17 ?_
   exact ⟨(((q + (-1 : Int32)) + (-1 : Int32)) + (-1 : Int32)), (((w.set (mu - 2 * 4 - 1) (.int (nar .byte (own_d1 (-x))))).set (mu - 2 * 4 - 2) (.int (nar .byte (own_d2 (-x))))).set (mu - 2 * 4 - 3) (.int 45)), rfl, N17, K18, V17, (own_fin2n (by decide) J1 hhi hc8 P3 Ep.2.2.1 E2.2.1 hs.2)⟩
  ·refine oo (S' := T13.setTop (mkF m 120 lv9 [(.int ((q + (-1 : Int32)) + (-1 : Int32)))])) (fun _ kK => XS.iload X13.here hx rfl (D d22_104) rfl (XS.ifYes X13.here hx rfl (pc0 := 106) (pc' := 118) rfl (D d22_106) rfl ((if0 _ _).trans (teq (hs.1)).1) (by decide) (by decide) (XS.iload X13.here hx rfl (D d22_118) rfl kK))) ?_
   refine OwnEnd.ret X13 (v := (some (.int ((q + (-1 : Int32)) + (-1 : Int32))))) (fun h => by rw [Bd.returns] at h; cases h) hlk (fun fs hr => retOut X13 hx Bd.returns rfl (Or.inl ⟨rfl, Or.inl rfl, _, rfl⟩) (D d22_120) hr) (by decide) (by decide) (Q := (Qgc Z P q0 vb kv vs mu) h0 n0) e13 ?_
   exact ⟨((q + (-1 : Int32)) + (-1 : Int32)), ((w.set (mu - 2 * 4 - 1) (.int (nar .byte (own_d1 (-x))))).set (mu - 2 * 4 - 2) (.int (nar .byte (own_d2 (-x))))), rfl, N13, K14, V13, (own_fin2 (by decide) J1 hhi hc8 P3 Ep.2.2.1 E2.2.1 hs.2)⟩
 ·refine oo (S' := T6.setTop (mkF m 104 lv2 [])) (fun _ kK => XS.icmpYes X6.here hx rfl (pc0 := 88) (pc' := 104) rfl (D d22_88) rfl (flt (hc8)).2.1 (by decide) (by decide) kK) ?_
  rcases J3 with hs | hs
  ·let lv19 : Array Slot := #[vI x, vI q0, vR vb, vI x, vI r4, vI ((q + (-1 : Int32)) + (-1 : Int32)), vI sgn]
   refine oo (S' := T6.setTop (mkF m 117 lv19 [(.int 45), (.int ((q + (-1 : Int32)) + (-1 : Int32))), (.ref vb)])) (fun _ kK => XS.iload X6.here hx rfl (D d22_104) rfl (XS.ifNo X6.here hx rfl (D d22_106) rfl ((if0 _ _).trans (feq ((by rw [hs.1]; decide))).1) (XS.aloadN X6.here hx rfl (D d22_109) rfl rfl (XS.iinc X6.here hx rfl (D d22_110) rfl (l' := lv19) rfl (XS.iload X6.here hx rfl (D d22_113) rfl (XS.bipush X6.here hx rfl (D d22_115) kK)))))) ?_
   have e3m := Ep.2.2.2.2 hc8 hs.2
   have ix3 := own_ix (own_q2 J2 (by omega)) (by omega)
   obtain ⟨cl20, Ar20, q20, S20, N20', H20, G20⟩ := id V6
   have hin21 : ¬ (((q + (-1 : Int32)) + (-1 : Int32)) < 0 ∨ cl20.slots.size ≤ (((q + (-1 : Int32)) + (-1 : Int32))).toNatClampNeg) := inb_of S20 ix3.1
   obtain ⟨T21, h21, X21, e21, W21, st21⟩ := stB X6 hx hZ e6 Ar20 (j := ((q + (-1 : Int32)) + (-1 : Int32))) hin21 (g := (mkF m 117 lv19 [(.int 45), (.int ((q + (-1 : Int32)) + (-1 : Int32))), (.ref vb)])) rfl rfl (D d22_117)
   have N21 := Fr.snoc X21 N6 (by omega)
   have sz22 := own_wr_le W21
   have K22 := K7.wr W21 (Or.inl (by simp))
   have V21 : Arv Z h21 vb kv .byte (16 : Int32) ((w.set (mu - 2 * 4 - 1) (.int (nar .byte (own_d1 (-x))))).set (mu - 2 * 4 - 2) (.int 45)) (.int 0) := Arv.set Ar20 q20 S20 N20' H20 G20 (fits_nar_byte _) W21 (mu - 2 * 4 - 2) ix3.2 (by simp only [List.length_set]; rw [wl]; omega)
   refine oo (S' := T21.setTop (mkF m 118 lv19 [])) st21 ?_
   refine oo (S' := T21.setTop (mkF m 120 lv19 [(.int ((q + (-1 : Int32)) + (-1 : Int32)))])) (fun _ kK => XS.iload X21.here hx rfl (D d22_118) rfl kK) ?_
   refine OwnEnd.ret X21 (v := (some (.int ((q + (-1 : Int32)) + (-1 : Int32))))) (fun h => by rw [Bd.returns] at h; cases h) hlk (fun fs hr => retOut X21 hx Bd.returns rfl (Or.inl ⟨rfl, Or.inl rfl, _, rfl⟩) (D d22_120) hr) (by decide) (by decide) (Q := (Qgc Z P q0 vb kv vs mu) h0 n0) e21 ?_
   exact ⟨((q + (-1 : Int32)) + (-1 : Int32)), ((w.set (mu - 2 * 4 - 1) (.int (nar .byte (own_d1 (-x))))).set (mu - 2 * 4 - 2) (.int 45)), rfl, N21, K22, V21, (own_fin1n (by decide) J1 hc8 P3 Ep.2.2.1 hs.2)⟩
  ·refine oo (S' := T6.setTop (mkF m 120 lv2 [(.int (q + (-1 : Int32)))])) (fun _ kK => XS.iload X6.here hx rfl (D d22_104) rfl (XS.ifYes X6.here hx rfl (pc0 := 106) (pc' := 118) rfl (D d22_106) rfl ((if0 _ _).trans (teq (hs.1)).1) (by decide) (by decide) (XS.iload X6.here hx rfl (D d22_118) rfl kK))) ?_
   refine OwnEnd.ret X6 (v := (some (.int (q + (-1 : Int32))))) (fun h => by rw [Bd.returns] at h; cases h) hlk (fun fs hr => retOut X6 hx Bd.returns rfl (Or.inl ⟨rfl, Or.inl rfl, _, rfl⟩) (D d22_120) hr) (by decide) (by decide) (Q := (Qgc Z P q0 vb kv vs mu) h0 n0) e6 ?_
   exact ⟨(q + (-1 : Int32)), (w.set (mu - 2 * 4 - 1) (.int (nar .byte (own_d1 (-x))))), rfl, N6, K7, V6, (own_fin1 (by decide) J1 hc8 P3 Ep.2.2.1 hs.2)⟩

set_option maxRecDepth 65536 in
set_option maxHeartbeats 40000000 in
theorem sfg3 (l : Launch) (Z : State) (a0 : Array Value) (G : OwnG Z a0) (P : Int32) (q0 : Int32) (vb : Addr) (kv : ClassId) (vs : List Value) (mu : Nat) (h0 : Heap) (n0 : Nat) (O0 : Old Z n0 h0) (P1 : n0 ≤ vb) (P2 : vs.length = 16) (P3 : own_nd (own_n P) + own_sg P ≤ mu) (P4 : mu ≤ 16) (P5 : q0 = Int32.ofNat mu) {p : Program} {e : Env} {s : State} {m : MethodId} {below : List Frame} {meth : Method} {cD : Code} {s₁ : State} {Sp : Spec} (Bd : BodyLoose p l own_m22 Sp B28 7 (some .int) e s m #[(.int P), (.int q0), (.ref vb)] below meth cD s₁) (hml0 : cD.maxLocals = 7) (hZ : Z.Warmed39 s.vm) {TJ : State} {locs : List Loc} (XJ : Stand p l e (rR 0 0 0 0) s m #[(.int P), (.int q0), (.ref vb)] below meth cD TJ locs 0 0) (hJ : Heap) (eJ : TJ.heap = hJ) (KJ : Keep h0 hJ [vb]) (OJ : Old Z n0 hJ) (NJ : Fr n0 locs) (szJ : Array.size h0 ≤ Array.size hJ) (x : Int32) (q : Int32) (w : List Value) (sgn : Int32) (r4 : Int32) (J0 : Arv Z hJ vb kv .byte (16 : Int32) w (.int 0)) (J1 : own_inv P mu vs 3 x w) (J2 : q = Int32.ofNat (mu - 2 * 3)) (J3 : (sgn = (1 : Int32) ∧ P < (0 : Int32)) ∨ (sgn = (0 : Int32) ∧ ¬ P < (0 : Int32))) :
  OwnEnd p e below (fun o t => ∃ v L, o = .returned v ∧ (Qgc Z P q0 vb kv vs mu) h0 n0 v t.heap L ∧ FrameEnd s o t L (rR 0 0 0 0).cells (rR 0 0 0 0).slots) (TJ.setTop (mkF m 22 #[vI x, vI q0, vR vb, vI x, vI r4, vI q, vI sgn] [])) := by
 have hx := Bd.exec
 have hby := Bd.bytes
 have D := @hb _ _ hby
 have hml : cD.maxLocals = 7 := hml0
 have hown : s.vm.findClass j5 = some m.cls := findClass_of_methodNamed Bd.named
 have hlk := Bd.notSynchronized
 have ltJ0 := lN J0.lt
 have Z0 := own_old_le O0
 obtain ⟨aO, aT, S1, S2, TB1, TB2⟩ := own_tabs G
 let lv1 : Array Slot := #[vI x, vI q0, vR vb, vI x, vI r4, vI q, vI sgn]
 refine oo (S' := TJ.setTop (mkF m 25 lv1 [(.int (-100 : Int32)), (.int x)])) (fun _ kK => XS.iloadN XJ.here hx rfl (D d22_22) rfl (XS.bipush XJ.here hx rfl (D d22_23) kK)) ?_
 rcases Decidable.em ((-100 : Int32) < x) with hc2 | hc2
 ·refine oo (S' := TJ.setTop (mkF m 72 lv1 [])) (fun _ kK => XS.icmpYes XJ.here hx rfl (pc0 := 25) (pc' := 72) rfl (D d22_25) rfl (tlt (hc2)).2.2.1 (by decide) (by decide) kK) ?_
  have hhi := hc2
  have Ep := own_ex (by decide) J1 hhi P3
  have epm := Ep.1
  have wl := J1.2.1
  have ix1 := own_ix (own_q1 J2 (by omega)) (by omega)
  let lv3 : Array Slot := #[vI x, vI q0, vR vb, vI x, vI r4, vI (q + (-1 : Int32)), vI sgn]
  refine oo (S' := TJ.setTop (mkF m 78 lv3 [(.int (q + (-1 : Int32))), (.ref vb)])) (fun _ kK => XS.aloadN XJ.here hx rfl (D d22_72) rfl rfl (XS.iinc XJ.here hx rfl (D d22_73) rfl (l' := lv3) rfl (XS.iload XJ.here hx rfl (D d22_76) rfl kK))) ?_
  obtain ⟨T4, X4, e4, st4⟩ := getS2 XJ hx hZ hown (host := "") (Or.inl (w_ G 131 rfl)) Via.refl eJ (S1.ext OJ.2) (g := (mkF m 78 lv3 [(.int (q + (-1 : Int32))), (.ref vb)])) rfl (D d22_78)
  refine oo (S' := T4.setTop (mkF m 81 lv3 [(.ref aO), (.int (q + (-1 : Int32))), (.ref vb)])) st4 ?_
  refine oo (S' := T4.setTop (mkF m 83 lv3 [(.int (-x)), (.ref aO), (.int (q + (-1 : Int32))), (.ref vb)])) (fun _ kK => XS.iloadN X4.here hx rfl (D d22_81) rfl (XS.ineg X4.here hx rfl (D d22_82) rfl kK)) ?_
  obtain ⟨cT5, At5, zT5, Ht5⟩ := id TB1
  have At5 := At5.ext OJ.2
  refine oo (S' := T4.setTop (mkF m 84 lv3 [(.int (own_d1 (-x))), (.int (q + (-1 : Int32))), (.ref vb)])) (fun _ kK => X4.baloadBytes hx (j := (-x)) (v := .int (own_d1 (-x))) (by rw [e4]; exact At5.1) (State.isArrayOf_alike hZ.alike At5.2.1) At5.2.2 (inb_of zT5 Ep.2.1) (Ht5 _ Ep.2.1.1 Ep.2.1.2) (g := (mkF m 83 lv3 [(.int (-x)), (.ref aO), (.int (q + (-1 : Int32))), (.ref vb)])) rfl rfl (D d22_83) _ kK) ?_
  obtain ⟨cl6, Ar6, q6, S6, N6', H6, G6⟩ := id J0
  have hin7 : ¬ ((q + (-1 : Int32)) < 0 ∨ cl6.slots.size ≤ ((q + (-1 : Int32))).toNatClampNeg) := inb_of S6 ix1.1
  obtain ⟨T7, h7, X7, e7, W7, st7⟩ := stB X4 hx hZ e4 Ar6 (j := (q + (-1 : Int32))) hin7 (g := (mkF m 84 lv3 [(.int (own_d1 (-x))), (.int (q + (-1 : Int32))), (.ref vb)])) rfl rfl (D d22_84)
  have N7 := Fr.snoc X7 NJ (by omega)
  have sz8 := own_wr_le W7
  have K8 := KJ.wr W7 (Or.inl (by simp))
  have O8 := OJ.wr W7 (by omega)
  have V7 : Arv Z h7 vb kv .byte (16 : Int32) (w.set (mu - 2 * 3 - 1) (.int (nar .byte (own_d1 (-x))))) (.int 0) := Arv.set Ar6 q6 S6 N6' H6 G6 (fits_nar_byte _) W7 (mu - 2 * 3 - 1) ix1.2 (by rw [wl]; omega)
  refine oo (S' := T7.setTop (mkF m 85 lv3 [])) st7 ?_
  refine oo (S' := T7.setTop (mkF m 88 lv3 [(.int (-9 : Int32)), (.int x)])) (fun _ kK => XS.iloadN X7.here hx rfl (D d22_85) rfl (XS.bipush X7.here hx rfl (D d22_86) kK)) ?_
  rcases Decidable.em (x < (-9 : Int32)) with hc9 | hc9
  ·refine oo (S' := T7.setTop (mkF m 91 lv3 [])) (fun _ kK => XS.icmpNo X7.here hx rfl (D d22_88) rfl (tlt (hc9)).2.1 kK) ?_
   have E2 := Ep.2.2.2.1 hc9
   have e2m := E2.1
   have ix2 := own_ix (own_q2 J2 (by omega)) (by omega)
   let lv10 : Array Slot := #[vI x, vI q0, vR vb, vI x, vI r4, vI ((q + (-1 : Int32)) + (-1 : Int32)), vI sgn]
   refine oo (S' := T7.setTop (mkF m 97 lv10 [(.int ((q + (-1 : Int32)) + (-1 : Int32))), (.ref vb)])) (fun _ kK => XS.aloadN X7.here hx rfl (D d22_91) rfl rfl (XS.iinc X7.here hx rfl (D d22_92) rfl (l' := lv10) rfl (XS.iload X7.here hx rfl (D d22_95) rfl kK))) ?_
   obtain ⟨T11, X11, e11, st11⟩ := getS2 X7 hx hZ hown (host := "") (Or.inl (w_ G 229 rfl)) Via.refl e7 (S2.ext O8.2) (g := (mkF m 97 lv10 [(.int ((q + (-1 : Int32)) + (-1 : Int32))), (.ref vb)])) rfl (D d22_97)
   refine oo (S' := T11.setTop (mkF m 100 lv10 [(.ref aT), (.int ((q + (-1 : Int32)) + (-1 : Int32))), (.ref vb)])) st11 ?_
   refine oo (S' := T11.setTop (mkF m 102 lv10 [(.int (-x)), (.ref aT), (.int ((q + (-1 : Int32)) + (-1 : Int32))), (.ref vb)])) (fun _ kK => XS.iloadN X11.here hx rfl (D d22_100) rfl (XS.ineg X11.here hx rfl (D d22_101) rfl kK)) ?_
   obtain ⟨cT12, At12, zT12, Ht12⟩ := id TB2
   have At12 := At12.ext O8.2
   refine oo (S' := T11.setTop (mkF m 103 lv10 [(.int (own_d2 (-x))), (.int ((q + (-1 : Int32)) + (-1 : Int32))), (.ref vb)])) (fun _ kK => X11.baloadBytes hx (j := (-x)) (v := .int (own_d2 (-x))) (by rw [e11]; exact At12.1) (State.isArrayOf_alike hZ.alike At12.2.1) At12.2.2 (inb_of zT12 Ep.2.1) (Ht12 _ Ep.2.1.1 Ep.2.1.2) (g := (mkF m 102 lv10 [(.int (-x)), (.ref aT), (.int ((q + (-1 : Int32)) + (-1 : Int32))), (.ref vb)])) rfl rfl (D d22_102) _ kK) ?_
   obtain ⟨cl13, Ar13, q13, S13, N13', H13, G13⟩ := id V7
   have hin14 : ¬ (((q + (-1 : Int32)) + (-1 : Int32)) < 0 ∨ cl13.slots.size ≤ (((q + (-1 : Int32)) + (-1 : Int32))).toNatClampNeg) := inb_of S13 ix2.1
   obtain ⟨T14, h14, X14, e14, W14, st14⟩ := stB X11 hx hZ e11 Ar13 (j := ((q + (-1 : Int32)) + (-1 : Int32))) hin14 (g := (mkF m 103 lv10 [(.int (own_d2 (-x))), (.int ((q + (-1 : Int32)) + (-1 : Int32))), (.ref vb)])) rfl rfl (D d22_103)
   have N14 := Fr.snoc X14 N7 (by omega)
   have sz15 := own_wr_le W14
   have K15 := K8.wr W14 (Or.inl (by simp))
   have V14 : Arv Z h14 vb kv .byte (16 : Int32) ((w.set (mu - 2 * 3 - 1) (.int (nar .byte (own_d1 (-x))))).set (mu - 2 * 3 - 2) (.int (nar .byte (own_d2 (-x))))) (.int 0) := Arv.set Ar13 q13 S13 N13' H13 G13 (fits_nar_byte _) W14 (mu - 2 * 3 - 2) ix2.2 (by rw [List.length_set, wl]; omega)
   refine oo (S' := T14.setTop (mkF m 104 lv10 [])) st14 ?_
   rcases J3 with hs | hs
   ·let lv16 : Array Slot := #[vI x, vI q0, vR vb, vI x, vI r4, vI (((q + (-1 : Int32)) + (-1 : Int32)) + (-1 : Int32)), vI sgn]
    refine oo (S' := T14.setTop (mkF m 117 lv16 [(.int 45), (.int (((q + (-1 : Int32)) + (-1 : Int32)) + (-1 : Int32))), (.ref vb)])) (fun _ kK => XS.iload X14.here hx rfl (D d22_104) rfl (XS.ifNo X14.here hx rfl (D d22_106) rfl ((if0 _ _).trans (feq ((by rw [hs.1]; decide))).1) (XS.aloadN X14.here hx rfl (D d22_109) rfl rfl (XS.iinc X14.here hx rfl (D d22_110) rfl (l' := lv16) rfl (XS.iload X14.here hx rfl (D d22_113) rfl (XS.bipush X14.here hx rfl (D d22_115) kK)))))) ?_
    have e3m := E2.2.2 hs.2
    have ix3 := own_ix (own_q3 J2 (by omega)) (by omega)
    obtain ⟨cl17, Ar17, q17, S17, N17', H17, G17⟩ := id V14
    have hin18 : ¬ ((((q + (-1 : Int32)) + (-1 : Int32)) + (-1 : Int32)) < 0 ∨ cl17.slots.size ≤ ((((q + (-1 : Int32)) + (-1 : Int32)) + (-1 : Int32))).toNatClampNeg) := inb_of S17 ix3.1
    obtain ⟨T18, h18, X18, e18, W18, st18⟩ := stB X14 hx hZ e14 Ar17 (j := (((q + (-1 : Int32)) + (-1 : Int32)) + (-1 : Int32))) hin18 (g := (mkF m 117 lv16 [(.int 45), (.int (((q + (-1 : Int32)) + (-1 : Int32)) + (-1 : Int32))), (.ref vb)])) rfl rfl (D d22_117)
    have N18 := Fr.snoc X18 N14 (by omega)
    have sz19 := own_wr_le W18
    have K19 := K15.wr W18 (Or.inl (by simp))
    have V18 : Arv Z h18 vb kv .byte (16 : Int32) (((w.set (mu - 2 * 3 - 1) (.int (nar .byte (own_d1 (-x))))).set (mu - 2 * 3 - 2) (.int (nar .byte (own_d2 (-x))))).set (mu - 2 * 3 - 3) (.int 45)) (.int 0) := Arv.set Ar17 q17 S17 N17' H17 G17 (fits_nar_byte _) W18 (mu - 2 * 3 - 3) ix3.2 (by simp only [List.length_set]; rw [wl]; omega)
    refine oo (S' := T18.setTop (mkF m 118 lv16 [])) st18 ?_
    refine oo (S' := T18.setTop (mkF m 120 lv16 [(.int (((q + (-1 : Int32)) + (-1 : Int32)) + (-1 : Int32)))])) (fun _ kK => XS.iload X18.here hx rfl (D d22_118) rfl kK) ?_
    refine OwnEnd.ret X18 (v := (some (.int (((q + (-1 : Int32)) + (-1 : Int32)) + (-1 : Int32))))) (fun h => by rw [Bd.returns] at h; cases h) hlk (fun fs hr => retOut X18 hx Bd.returns rfl (Or.inl ⟨rfl, Or.inl rfl, _, rfl⟩) (D d22_120) hr) (by decide) (by decide) (Q := (Qgc Z P q0 vb kv vs mu) h0 n0) e18 ?_
    exact ⟨(((q + (-1 : Int32)) + (-1 : Int32)) + (-1 : Int32)), (((w.set (mu - 2 * 3 - 1) (.int (nar .byte (own_d1 (-x))))).set (mu - 2 * 3 - 2) (.int (nar .byte (own_d2 (-x))))).set (mu - 2 * 3 - 3) (.int 45)), rfl, N18, K19, V18, (own_fin2n (by decide) J1 hhi hc9 P3 Ep.2.2.1 E2.2.1 hs.2)⟩
   ·refine oo (S' := T14.setTop (mkF m 120 lv10 [(.int ((q + (-1 : Int32)) + (-1 : Int32)))])) (fun _ kK => XS.iload X14.here hx rfl (D d22_104) rfl (XS.ifYes X14.here hx rfl (pc0 := 106) (pc' := 118) rfl (D d22_106) rfl ((if0 _ _).trans (teq (hs.1)).1) (by decide) (by decide) (XS.iload X14.here hx rfl (D d22_118) rfl kK))) ?_
    refine OwnEnd.ret X14 (v := (some (.int ((q + (-1 : Int32)) + (-1 : Int32))))) (fun h => by rw [Bd.returns] at h; cases h) hlk (fun fs hr => retOut X14 hx Bd.returns rfl (Or.inl ⟨rfl, Or.inl rfl, _, rfl⟩) (D d22_120) hr) (by decide) (by decide) (Q := (Qgc Z P q0 vb kv vs mu) h0 n0) e14 ?_
    exact ⟨((q + (-1 : Int32)) + (-1 : Int32)), ((w.set (mu - 2 * 3 - 1) (.int (nar .byte (own_d1 (-x))))).set (mu - 2 * 3 - 2) (.int (nar .byte (own_d2 (-x))))), rfl, N14, K15, V14, (own_fin2 (by decide) J1 hhi hc9 P3 Ep.2.2.1 E2.2.1 hs.2)⟩
  ·refine oo (S' := T7.setTop (mkF m 104 lv3 [])) (fun _ kK => XS.icmpYes X7.here hx rfl (pc0 := 88) (pc' := 104) rfl (D d22_88) rfl (flt (hc9)).2.1 (by decide) (by decide) kK) ?_
   rcases J3 with hs | hs
   ·let lv20 : Array Slot := #[vI x, vI q0, vR vb, vI x, vI r4, vI ((q + (-1 : Int32)) + (-1 : Int32)), vI sgn]
    refine oo (S' := T7.setTop (mkF m 117 lv20 [(.int 45), (.int ((q + (-1 : Int32)) + (-1 : Int32))), (.ref vb)])) (fun _ kK => XS.iload X7.here hx rfl (D d22_104) rfl (XS.ifNo X7.here hx rfl (D d22_106) rfl ((if0 _ _).trans (feq ((by rw [hs.1]; decide))).1) (XS.aloadN X7.here hx rfl (D d22_109) rfl rfl (XS.iinc X7.here hx rfl (D d22_110) rfl (l' := lv20) rfl (XS.iload X7.here hx rfl (D d22_113) rfl (XS.bipush X7.here hx rfl (D d22_115) kK)))))) ?_
    have e3m := Ep.2.2.2.2 hc9 hs.2
    have ix3 := own_ix (own_q2 J2 (by omega)) (by omega)
    obtain ⟨cl21, Ar21, q21, S21, N21', H21, G21⟩ := id V7
    have hin22 : ¬ (((q + (-1 : Int32)) + (-1 : Int32)) < 0 ∨ cl21.slots.size ≤ (((q + (-1 : Int32)) + (-1 : Int32))).toNatClampNeg) := inb_of S21 ix3.1
    obtain ⟨T22, h22, X22, e22, W22, st22⟩ := stB X7 hx hZ e7 Ar21 (j := ((q + (-1 : Int32)) + (-1 : Int32))) hin22 (g := (mkF m 117 lv20 [(.int 45), (.int ((q + (-1 : Int32)) + (-1 : Int32))), (.ref vb)])) rfl rfl (D d22_117)
    have N22 := Fr.snoc X22 N7 (by omega)
    have sz23 := own_wr_le W22
    have K23 := K8.wr W22 (Or.inl (by simp))
    have V22 : Arv Z h22 vb kv .byte (16 : Int32) ((w.set (mu - 2 * 3 - 1) (.int (nar .byte (own_d1 (-x))))).set (mu - 2 * 3 - 2) (.int 45)) (.int 0) := Arv.set Ar21 q21 S21 N21' H21 G21 (fits_nar_byte _) W22 (mu - 2 * 3 - 2) ix3.2 (by simp only [List.length_set]; rw [wl]; omega)
    refine oo (S' := T22.setTop (mkF m 118 lv20 [])) st22 ?_
    refine oo (S' := T22.setTop (mkF m 120 lv20 [(.int ((q + (-1 : Int32)) + (-1 : Int32)))])) (fun _ kK => XS.iload X22.here hx rfl (D d22_118) rfl kK) ?_
    refine OwnEnd.ret X22 (v := (some (.int ((q + (-1 : Int32)) + (-1 : Int32))))) (fun h => by rw [Bd.returns] at h; cases h) hlk (fun fs hr => retOut X22 hx Bd.returns rfl (Or.inl ⟨rfl, Or.inl rfl, _, rfl⟩) (D d22_120) hr) (by decide) (by decide) (Q := (Qgc Z P q0 vb kv vs mu) h0 n0) e22 ?_
    exact ⟨((q + (-1 : Int32)) + (-1 : Int32)), ((w.set (mu - 2 * 3 - 1) (.int (nar .byte (own_d1 (-x))))).set (mu - 2 * 3 - 2) (.int 45)), rfl, N22, K23, V22, (own_fin1n (by decide) J1 hc9 P3 Ep.2.2.1 hs.2)⟩
   ·refine oo (S' := T7.setTop (mkF m 120 lv3 [(.int (q + (-1 : Int32)))])) (fun _ kK => XS.iload X7.here hx rfl (D d22_104) rfl (XS.ifYes X7.here hx rfl (pc0 := 106) (pc' := 118) rfl (D d22_106) rfl ((if0 _ _).trans (teq (hs.1)).1) (by decide) (by decide) (XS.iload X7.here hx rfl (D d22_118) rfl kK))) ?_
    refine OwnEnd.ret X7 (v := (some (.int (q + (-1 : Int32))))) (fun h => by rw [Bd.returns] at h; cases h) hlk (fun fs hr => retOut X7 hx Bd.returns rfl (Or.inl ⟨rfl, Or.inl rfl, _, rfl⟩) (D d22_120) hr) (by decide) (by decide) (Q := (Qgc Z P q0 vb kv vs mu) h0 n0) e7 ?_
    exact ⟨(q + (-1 : Int32)), (w.set (mu - 2 * 3 - 1) (.int (nar .byte (own_d1 (-x))))), rfl, N7, K8, V7, (own_fin1 (by decide) J1 hc9 P3 Ep.2.2.1 hs.2)⟩
 ·refine oo (S' := TJ.setTop (mkF m 28 lv1 [])) (fun _ kK => XS.icmpNo XJ.here hx rfl (D d22_25) rfl (flt (hc2)).2.2.1 kK) ?_
  have hlo := hc2
  have Lp := own_lp (by decide) J1 hlo P3
  have lpm := Lp.1
  have wl := J1.2.1
  have ix1 := own_ix (own_q1 J2 (by omega)) (by omega)
  have ix2 := own_ix (own_q2 J2 (by omega)) (by omega)
  let lv24 : Array Slot := #[vI x, vI q0, vR vb, vI (x / (100 : Int32)), vI r4, vI q, vI sgn]
  let lv25 : Array Slot := #[vI x, vI q0, vR vb, vI (x / (100 : Int32)), vI (((x / (100 : Int32)) * (100 : Int32)) - x), vI q, vI sgn]
  let lv26 : Array Slot := #[vI (x / (100 : Int32)), vI q0, vR vb, vI (x / (100 : Int32)), vI (((x / (100 : Int32)) * (100 : Int32)) - x), vI q, vI sgn]
  let lv27 : Array Slot := #[vI (x / (100 : Int32)), vI q0, vR vb, vI (x / (100 : Int32)), vI (((x / (100 : Int32)) * (100 : Int32)) - x), vI (q + (-1 : Int32)), vI sgn]
  refine oo (S' := TJ.setTop (mkF m 49 lv27 [(.int (q + (-1 : Int32))), (.ref vb)])) (fun _ kK => XS.iloadN XJ.here hx rfl (D d22_28) rfl (XS.bipush XJ.here hx rfl (D d22_29) (XS.idiv XJ.here hx rfl (D d22_31) rfl (by decide) (XS.istoreN XJ.here hx rfl (D d22_32) rfl (l' := lv24) rfl (XS.iloadN XJ.here hx rfl (D d22_33) rfl (XS.bipush XJ.here hx rfl (D d22_34) (XS.imul XJ.here hx rfl (D d22_36) rfl (XS.iloadN XJ.here hx rfl (D d22_37) rfl (XS.isub XJ.here hx rfl (D d22_38) rfl (XS.istore XJ.here hx rfl (D d22_39) rfl (l' := lv25) rfl (XS.iloadN XJ.here hx rfl (D d22_41) rfl (XS.istoreN XJ.here hx rfl (D d22_42) rfl (l' := lv26) rfl (XS.aloadN XJ.here hx rfl (D d22_43) rfl rfl (XS.iinc XJ.here hx rfl (D d22_44) rfl (l' := lv27) rfl (XS.iload XJ.here hx rfl (D d22_47) rfl kK))))))))))))))) ?_
  obtain ⟨T28, X28, e28, st28⟩ := getS2 XJ hx hZ hown (host := "") (Or.inl (w_ G 131 rfl)) Via.refl eJ (S1.ext OJ.2) (g := (mkF m 49 lv27 [(.int (q + (-1 : Int32))), (.ref vb)])) rfl (D d22_49)
  refine oo (S' := T28.setTop (mkF m 52 lv27 [(.ref aO), (.int (q + (-1 : Int32))), (.ref vb)])) st28 ?_
  refine oo (S' := T28.setTop (mkF m 54 lv27 [(.int (((x / (100 : Int32)) * (100 : Int32)) - x)), (.ref aO), (.int (q + (-1 : Int32))), (.ref vb)])) (fun _ kK => XS.iload X28.here hx rfl (D d22_52) rfl kK) ?_
  obtain ⟨cT29, At29, zT29, Ht29⟩ := id TB1
  have At29 := At29.ext OJ.2
  refine oo (S' := T28.setTop (mkF m 55 lv27 [(.int (own_d1 (((x / (100 : Int32)) * (100 : Int32)) - x))), (.int (q + (-1 : Int32))), (.ref vb)])) (fun _ kK => X28.baloadBytes hx (j := (((x / (100 : Int32)) * (100 : Int32)) - x)) (v := .int (own_d1 (((x / (100 : Int32)) * (100 : Int32)) - x))) (by rw [e28]; exact At29.1) (State.isArrayOf_alike hZ.alike At29.2.1) At29.2.2 (inb_of zT29 Lp.2.1) (Ht29 _ Lp.2.1.1 Lp.2.1.2) (g := (mkF m 54 lv27 [(.int (((x / (100 : Int32)) * (100 : Int32)) - x)), (.ref aO), (.int (q + (-1 : Int32))), (.ref vb)])) rfl rfl (D d22_54) _ kK) ?_
  obtain ⟨cl30, Ar30, q30, S30, N30', H30, G30⟩ := id J0
  have hin31 : ¬ ((q + (-1 : Int32)) < 0 ∨ cl30.slots.size ≤ ((q + (-1 : Int32))).toNatClampNeg) := inb_of S30 ix1.1
  obtain ⟨T31, h31, X31, e31, W31, st31⟩ := stB X28 hx hZ e28 Ar30 (j := (q + (-1 : Int32))) hin31 (g := (mkF m 55 lv27 [(.int (own_d1 (((x / (100 : Int32)) * (100 : Int32)) - x))), (.int (q + (-1 : Int32))), (.ref vb)])) rfl rfl (D d22_55)
  have N31 := Fr.snoc X31 NJ (by omega)
  have sz32 := own_wr_le W31
  have K32 := KJ.wr W31 (Or.inl (by simp))
  have O32 := OJ.wr W31 (by omega)
  have V31 : Arv Z h31 vb kv .byte (16 : Int32) (w.set (mu - 2 * 3 - 1) (.int (nar .byte (own_d1 (((x / (100 : Int32)) * (100 : Int32)) - x))))) (.int 0) := Arv.set Ar30 q30 S30 N30' H30 G30 (fits_nar_byte _) W31 (mu - 2 * 3 - 1) ix1.2 (by rw [wl]; omega)
  refine oo (S' := T31.setTop (mkF m 56 lv27 [])) st31 ?_
  let lv33 : Array Slot := #[vI (x / (100 : Int32)), vI q0, vR vb, vI (x / (100 : Int32)), vI (((x / (100 : Int32)) * (100 : Int32)) - x), vI ((q + (-1 : Int32)) + (-1 : Int32)), vI sgn]
  refine oo (S' := T31.setTop (mkF m 62 lv33 [(.int ((q + (-1 : Int32)) + (-1 : Int32))), (.ref vb)])) (fun _ kK => XS.aloadN X31.here hx rfl (D d22_56) rfl rfl (XS.iinc X31.here hx rfl (D d22_57) rfl (l' := lv33) rfl (XS.iload X31.here hx rfl (D d22_60) rfl kK))) ?_
  obtain ⟨T34, X34, e34, st34⟩ := getS2 X31 hx hZ hown (host := "") (Or.inl (w_ G 229 rfl)) Via.refl e31 (S2.ext O32.2) (g := (mkF m 62 lv33 [(.int ((q + (-1 : Int32)) + (-1 : Int32))), (.ref vb)])) rfl (D d22_62)
  refine oo (S' := T34.setTop (mkF m 65 lv33 [(.ref aT), (.int ((q + (-1 : Int32)) + (-1 : Int32))), (.ref vb)])) st34 ?_
  refine oo (S' := T34.setTop (mkF m 67 lv33 [(.int (((x / (100 : Int32)) * (100 : Int32)) - x)), (.ref aT), (.int ((q + (-1 : Int32)) + (-1 : Int32))), (.ref vb)])) (fun _ kK => XS.iload X34.here hx rfl (D d22_65) rfl kK) ?_
  obtain ⟨cT35, At35, zT35, Ht35⟩ := id TB2
  have At35 := At35.ext O32.2
  refine oo (S' := T34.setTop (mkF m 68 lv33 [(.int (own_d2 (((x / (100 : Int32)) * (100 : Int32)) - x))), (.int ((q + (-1 : Int32)) + (-1 : Int32))), (.ref vb)])) (fun _ kK => X34.baloadBytes hx (j := (((x / (100 : Int32)) * (100 : Int32)) - x)) (v := .int (own_d2 (((x / (100 : Int32)) * (100 : Int32)) - x))) (by rw [e34]; exact At35.1) (State.isArrayOf_alike hZ.alike At35.2.1) At35.2.2 (inb_of zT35 Lp.2.1) (Ht35 _ Lp.2.1.1 Lp.2.1.2) (g := (mkF m 67 lv33 [(.int (((x / (100 : Int32)) * (100 : Int32)) - x)), (.ref aT), (.int ((q + (-1 : Int32)) + (-1 : Int32))), (.ref vb)])) rfl rfl (D d22_67) _ kK) ?_
  obtain ⟨cl36, Ar36, q36, S36, N36', H36, G36⟩ := id V31
  have hin37 : ¬ (((q + (-1 : Int32)) + (-1 : Int32)) < 0 ∨ cl36.slots.size ≤ (((q + (-1 : Int32)) + (-1 : Int32))).toNatClampNeg) := inb_of S36 ix2.1
  obtain ⟨T37, h37, X37, e37, W37, st37⟩ := stB X34 hx hZ e34 Ar36 (j := ((q + (-1 : Int32)) + (-1 : Int32))) hin37 (g := (mkF m 68 lv33 [(.int (own_d2 (((x / (100 : Int32)) * (100 : Int32)) - x))), (.int ((q + (-1 : Int32)) + (-1 : Int32))), (.ref vb)])) rfl rfl (D d22_68)
  have N37 := Fr.snoc X37 N31 (by omega)
  have sz38 := own_wr_le W37
  have K38 := K32.wr W37 (Or.inl (by simp))
  have O38 := O32.wr W37 (by omega)
  have V37 : Arv Z h37 vb kv .byte (16 : Int32) ((w.set (mu - 2 * 3 - 1) (.int (nar .byte (own_d1 (((x / (100 : Int32)) * (100 : Int32)) - x))))).set (mu - 2 * 3 - 2) (.int (nar .byte (own_d2 (((x / (100 : Int32)) * (100 : Int32)) - x))))) (.int 0) := Arv.set Ar36 q36 S36 N36' H36 G36 (fits_nar_byte _) W37 (mu - 2 * 3 - 2) ix2.2 (by rw [List.length_set, wl]; omega)
  refine oo (S' := T37.setTop (mkF m 69 lv33 [])) st37 ?_
  refine oo (S' := T37.setTop (mkF m 22 lv33 [])) (fun _ kK => XS.goto X37.here hx rfl (pc0 := 69) (pc' := 22) rfl (D d22_69) (by decide) (by decide) kK) ?_
  exact sfg4 l Z a0 G P q0 vb kv vs mu h0 n0 O0 P1 P2 P3 P4 P5 Bd hml0 hZ (X37.more (by decide) (by decide)) h37 e37 K38 O38 N37 (by omega) (x / (100 : Int32)) ((q + (-1 : Int32)) + (-1 : Int32)) ((w.set (mu - 2 * 3 - 1) (.int (nar .byte (own_d1 (((x / (100 : Int32)) * (100 : Int32)) - x))))).set (mu - 2 * 3 - 2) (.int (nar .byte (own_d2 (((x / (100 : Int32)) * (100 : Int32)) - x))))) sgn (((x / (100 : Int32)) * (100 : Int32)) - x) V37 (own_inv1 (by decide) J1 hlo (by omega) Lp.2.2.1 Lp.2.2.2) (own_qn J2 (by omega)) (J3)

set_option maxRecDepth 65536 in
set_option maxHeartbeats 40000000 in
theorem sfg2 (l : Launch) (Z : State) (a0 : Array Value) (G : OwnG Z a0) (P : Int32) (q0 : Int32) (vb : Addr) (kv : ClassId) (vs : List Value) (mu : Nat) (h0 : Heap) (n0 : Nat) (O0 : Old Z n0 h0) (P1 : n0 ≤ vb) (P2 : vs.length = 16) (P3 : own_nd (own_n P) + own_sg P ≤ mu) (P4 : mu ≤ 16) (P5 : q0 = Int32.ofNat mu) {p : Program} {e : Env} {s : State} {m : MethodId} {below : List Frame} {meth : Method} {cD : Code} {s₁ : State} {Sp : Spec} (Bd : BodyLoose p l own_m22 Sp B28 7 (some .int) e s m #[(.int P), (.int q0), (.ref vb)] below meth cD s₁) (hml0 : cD.maxLocals = 7) (hZ : Z.Warmed39 s.vm) {TJ : State} {locs : List Loc} (XJ : Stand p l e (rR 0 0 0 0) s m #[(.int P), (.int q0), (.ref vb)] below meth cD TJ locs 0 0) (hJ : Heap) (eJ : TJ.heap = hJ) (KJ : Keep h0 hJ [vb]) (OJ : Old Z n0 hJ) (NJ : Fr n0 locs) (szJ : Array.size h0 ≤ Array.size hJ) (x : Int32) (q : Int32) (w : List Value) (sgn : Int32) (r4 : Int32) (J0 : Arv Z hJ vb kv .byte (16 : Int32) w (.int 0)) (J1 : own_inv P mu vs 2 x w) (J2 : q = Int32.ofNat (mu - 2 * 2)) (J3 : (sgn = (1 : Int32) ∧ P < (0 : Int32)) ∨ (sgn = (0 : Int32) ∧ ¬ P < (0 : Int32))) :
  OwnEnd p e below (fun o t => ∃ v L, o = .returned v ∧ (Qgc Z P q0 vb kv vs mu) h0 n0 v t.heap L ∧ FrameEnd s o t L (rR 0 0 0 0).cells (rR 0 0 0 0).slots) (TJ.setTop (mkF m 22 #[vI x, vI q0, vR vb, vI x, vI r4, vI q, vI sgn] [])) := by
 have hx := Bd.exec
 have hby := Bd.bytes
 have D := @hb _ _ hby
 have hml : cD.maxLocals = 7 := hml0
 have hown : s.vm.findClass j5 = some m.cls := findClass_of_methodNamed Bd.named
 have hlk := Bd.notSynchronized
 have ltJ0 := lN J0.lt
 have Z0 := own_old_le O0
 obtain ⟨aO, aT, S1, S2, TB1, TB2⟩ := own_tabs G
 let lv1 : Array Slot := #[vI x, vI q0, vR vb, vI x, vI r4, vI q, vI sgn]
 refine oo (S' := TJ.setTop (mkF m 25 lv1 [(.int (-100 : Int32)), (.int x)])) (fun _ kK => XS.iloadN XJ.here hx rfl (D d22_22) rfl (XS.bipush XJ.here hx rfl (D d22_23) kK)) ?_
 rcases Decidable.em ((-100 : Int32) < x) with hc2 | hc2
 ·refine oo (S' := TJ.setTop (mkF m 72 lv1 [])) (fun _ kK => XS.icmpYes XJ.here hx rfl (pc0 := 25) (pc' := 72) rfl (D d22_25) rfl (tlt (hc2)).2.2.1 (by decide) (by decide) kK) ?_
  have hhi := hc2
  have Ep := own_ex (by decide) J1 hhi P3
  have epm := Ep.1
  have wl := J1.2.1
  have ix1 := own_ix (own_q1 J2 (by omega)) (by omega)
  let lv3 : Array Slot := #[vI x, vI q0, vR vb, vI x, vI r4, vI (q + (-1 : Int32)), vI sgn]
  refine oo (S' := TJ.setTop (mkF m 78 lv3 [(.int (q + (-1 : Int32))), (.ref vb)])) (fun _ kK => XS.aloadN XJ.here hx rfl (D d22_72) rfl rfl (XS.iinc XJ.here hx rfl (D d22_73) rfl (l' := lv3) rfl (XS.iload XJ.here hx rfl (D d22_76) rfl kK))) ?_
  obtain ⟨T4, X4, e4, st4⟩ := getS2 XJ hx hZ hown (host := "") (Or.inl (w_ G 131 rfl)) Via.refl eJ (S1.ext OJ.2) (g := (mkF m 78 lv3 [(.int (q + (-1 : Int32))), (.ref vb)])) rfl (D d22_78)
  refine oo (S' := T4.setTop (mkF m 81 lv3 [(.ref aO), (.int (q + (-1 : Int32))), (.ref vb)])) st4 ?_
  refine oo (S' := T4.setTop (mkF m 83 lv3 [(.int (-x)), (.ref aO), (.int (q + (-1 : Int32))), (.ref vb)])) (fun _ kK => XS.iloadN X4.here hx rfl (D d22_81) rfl (XS.ineg X4.here hx rfl (D d22_82) rfl kK)) ?_
  obtain ⟨cT5, At5, zT5, Ht5⟩ := id TB1
  have At5 := At5.ext OJ.2
  refine oo (S' := T4.setTop (mkF m 84 lv3 [(.int (own_d1 (-x))), (.int (q + (-1 : Int32))), (.ref vb)])) (fun _ kK => X4.baloadBytes hx (j := (-x)) (v := .int (own_d1 (-x))) (by rw [e4]; exact At5.1) (State.isArrayOf_alike hZ.alike At5.2.1) At5.2.2 (inb_of zT5 Ep.2.1) (Ht5 _ Ep.2.1.1 Ep.2.1.2) (g := (mkF m 83 lv3 [(.int (-x)), (.ref aO), (.int (q + (-1 : Int32))), (.ref vb)])) rfl rfl (D d22_83) _ kK) ?_
  obtain ⟨cl6, Ar6, q6, S6, N6', H6, G6⟩ := id J0
  have hin7 : ¬ ((q + (-1 : Int32)) < 0 ∨ cl6.slots.size ≤ ((q + (-1 : Int32))).toNatClampNeg) := inb_of S6 ix1.1
  obtain ⟨T7, h7, X7, e7, W7, st7⟩ := stB X4 hx hZ e4 Ar6 (j := (q + (-1 : Int32))) hin7 (g := (mkF m 84 lv3 [(.int (own_d1 (-x))), (.int (q + (-1 : Int32))), (.ref vb)])) rfl rfl (D d22_84)
  have N7 := Fr.snoc X7 NJ (by omega)
  have sz8 := own_wr_le W7
  have K8 := KJ.wr W7 (Or.inl (by simp))
  have O8 := OJ.wr W7 (by omega)
  have V7 : Arv Z h7 vb kv .byte (16 : Int32) (w.set (mu - 2 * 2 - 1) (.int (nar .byte (own_d1 (-x))))) (.int 0) := Arv.set Ar6 q6 S6 N6' H6 G6 (fits_nar_byte _) W7 (mu - 2 * 2 - 1) ix1.2 (by rw [wl]; omega)
  refine oo (S' := T7.setTop (mkF m 85 lv3 [])) st7 ?_
  refine oo (S' := T7.setTop (mkF m 88 lv3 [(.int (-9 : Int32)), (.int x)])) (fun _ kK => XS.iloadN X7.here hx rfl (D d22_85) rfl (XS.bipush X7.here hx rfl (D d22_86) kK)) ?_
  rcases Decidable.em (x < (-9 : Int32)) with hc9 | hc9
  ·refine oo (S' := T7.setTop (mkF m 91 lv3 [])) (fun _ kK => XS.icmpNo X7.here hx rfl (D d22_88) rfl (tlt (hc9)).2.1 kK) ?_
   have E2 := Ep.2.2.2.1 hc9
   have e2m := E2.1
   have ix2 := own_ix (own_q2 J2 (by omega)) (by omega)
   let lv10 : Array Slot := #[vI x, vI q0, vR vb, vI x, vI r4, vI ((q + (-1 : Int32)) + (-1 : Int32)), vI sgn]
   refine oo (S' := T7.setTop (mkF m 97 lv10 [(.int ((q + (-1 : Int32)) + (-1 : Int32))), (.ref vb)])) (fun _ kK => XS.aloadN X7.here hx rfl (D d22_91) rfl rfl (XS.iinc X7.here hx rfl (D d22_92) rfl (l' := lv10) rfl (XS.iload X7.here hx rfl (D d22_95) rfl kK))) ?_
   obtain ⟨T11, X11, e11, st11⟩ := getS2 X7 hx hZ hown (host := "") (Or.inl (w_ G 229 rfl)) Via.refl e7 (S2.ext O8.2) (g := (mkF m 97 lv10 [(.int ((q + (-1 : Int32)) + (-1 : Int32))), (.ref vb)])) rfl (D d22_97)
   refine oo (S' := T11.setTop (mkF m 100 lv10 [(.ref aT), (.int ((q + (-1 : Int32)) + (-1 : Int32))), (.ref vb)])) st11 ?_
   refine oo (S' := T11.setTop (mkF m 102 lv10 [(.int (-x)), (.ref aT), (.int ((q + (-1 : Int32)) + (-1 : Int32))), (.ref vb)])) (fun _ kK => XS.iloadN X11.here hx rfl (D d22_100) rfl (XS.ineg X11.here hx rfl (D d22_101) rfl kK)) ?_
   obtain ⟨cT12, At12, zT12, Ht12⟩ := id TB2
   have At12 := At12.ext O8.2
   refine oo (S' := T11.setTop (mkF m 103 lv10 [(.int (own_d2 (-x))), (.int ((q + (-1 : Int32)) + (-1 : Int32))), (.ref vb)])) (fun _ kK => X11.baloadBytes hx (j := (-x)) (v := .int (own_d2 (-x))) (by rw [e11]; exact At12.1) (State.isArrayOf_alike hZ.alike At12.2.1) At12.2.2 (inb_of zT12 Ep.2.1) (Ht12 _ Ep.2.1.1 Ep.2.1.2) (g := (mkF m 102 lv10 [(.int (-x)), (.ref aT), (.int ((q + (-1 : Int32)) + (-1 : Int32))), (.ref vb)])) rfl rfl (D d22_102) _ kK) ?_
   obtain ⟨cl13, Ar13, q13, S13, N13', H13, G13⟩ := id V7
   have hin14 : ¬ (((q + (-1 : Int32)) + (-1 : Int32)) < 0 ∨ cl13.slots.size ≤ (((q + (-1 : Int32)) + (-1 : Int32))).toNatClampNeg) := inb_of S13 ix2.1
   obtain ⟨T14, h14, X14, e14, W14, st14⟩ := stB X11 hx hZ e11 Ar13 (j := ((q + (-1 : Int32)) + (-1 : Int32))) hin14 (g := (mkF m 103 lv10 [(.int (own_d2 (-x))), (.int ((q + (-1 : Int32)) + (-1 : Int32))), (.ref vb)])) rfl rfl (D d22_103)
   have N14 := Fr.snoc X14 N7 (by omega)
   have sz15 := own_wr_le W14
   have K15 := K8.wr W14 (Or.inl (by simp))
   have V14 : Arv Z h14 vb kv .byte (16 : Int32) ((w.set (mu - 2 * 2 - 1) (.int (nar .byte (own_d1 (-x))))).set (mu - 2 * 2 - 2) (.int (nar .byte (own_d2 (-x))))) (.int 0) := Arv.set Ar13 q13 S13 N13' H13 G13 (fits_nar_byte _) W14 (mu - 2 * 2 - 2) ix2.2 (by rw [List.length_set, wl]; omega)
   refine oo (S' := T14.setTop (mkF m 104 lv10 [])) st14 ?_
   rcases J3 with hs | hs
   ·let lv16 : Array Slot := #[vI x, vI q0, vR vb, vI x, vI r4, vI (((q + (-1 : Int32)) + (-1 : Int32)) + (-1 : Int32)), vI sgn]
    refine oo (S' := T14.setTop (mkF m 117 lv16 [(.int 45), (.int (((q + (-1 : Int32)) + (-1 : Int32)) + (-1 : Int32))), (.ref vb)])) (fun _ kK => XS.iload X14.here hx rfl (D d22_104) rfl (XS.ifNo X14.here hx rfl (D d22_106) rfl ((if0 _ _).trans (feq ((by rw [hs.1]; decide))).1) (XS.aloadN X14.here hx rfl (D d22_109) rfl rfl (XS.iinc X14.here hx rfl (D d22_110) rfl (l' := lv16) rfl (XS.iload X14.here hx rfl (D d22_113) rfl (XS.bipush X14.here hx rfl (D d22_115) kK)))))) ?_
    have e3m := E2.2.2 hs.2
    have ix3 := own_ix (own_q3 J2 (by omega)) (by omega)
    obtain ⟨cl17, Ar17, q17, S17, N17', H17, G17⟩ := id V14
    have hin18 : ¬ ((((q + (-1 : Int32)) + (-1 : Int32)) + (-1 : Int32)) < 0 ∨ cl17.slots.size ≤ ((((q + (-1 : Int32)) + (-1 : Int32)) + (-1 : Int32))).toNatClampNeg) := inb_of S17 ix3.1
    obtain ⟨T18, h18, X18, e18, W18, st18⟩ := stB X14 hx hZ e14 Ar17 (j := (((q + (-1 : Int32)) + (-1 : Int32)) + (-1 : Int32))) hin18 (g := (mkF m 117 lv16 [(.int 45), (.int (((q + (-1 : Int32)) + (-1 : Int32)) + (-1 : Int32))), (.ref vb)])) rfl rfl (D d22_117)
    have N18 := Fr.snoc X18 N14 (by omega)
    have sz19 := own_wr_le W18
    have K19 := K15.wr W18 (Or.inl (by simp))
    have V18 : Arv Z h18 vb kv .byte (16 : Int32) (((w.set (mu - 2 * 2 - 1) (.int (nar .byte (own_d1 (-x))))).set (mu - 2 * 2 - 2) (.int (nar .byte (own_d2 (-x))))).set (mu - 2 * 2 - 3) (.int 45)) (.int 0) := Arv.set Ar17 q17 S17 N17' H17 G17 (fits_nar_byte _) W18 (mu - 2 * 2 - 3) ix3.2 (by simp only [List.length_set]; rw [wl]; omega)
    refine oo (S' := T18.setTop (mkF m 118 lv16 [])) st18 ?_
    refine oo (S' := T18.setTop (mkF m 120 lv16 [(.int (((q + (-1 : Int32)) + (-1 : Int32)) + (-1 : Int32)))])) (fun _ kK => XS.iload X18.here hx rfl (D d22_118) rfl kK) ?_
    refine OwnEnd.ret X18 (v := (some (.int (((q + (-1 : Int32)) + (-1 : Int32)) + (-1 : Int32))))) (fun h => by rw [Bd.returns] at h; cases h) hlk (fun fs hr => retOut X18 hx Bd.returns rfl (Or.inl ⟨rfl, Or.inl rfl, _, rfl⟩) (D d22_120) hr) (by decide) (by decide) (Q := (Qgc Z P q0 vb kv vs mu) h0 n0) e18 ?_
    exact ⟨(((q + (-1 : Int32)) + (-1 : Int32)) + (-1 : Int32)), (((w.set (mu - 2 * 2 - 1) (.int (nar .byte (own_d1 (-x))))).set (mu - 2 * 2 - 2) (.int (nar .byte (own_d2 (-x))))).set (mu - 2 * 2 - 3) (.int 45)), rfl, N18, K19, V18, (own_fin2n (by decide) J1 hhi hc9 P3 Ep.2.2.1 E2.2.1 hs.2)⟩
   ·refine oo (S' := T14.setTop (mkF m 120 lv10 [(.int ((q + (-1 : Int32)) + (-1 : Int32)))])) (fun _ kK => XS.iload X14.here hx rfl (D d22_104) rfl (XS.ifYes X14.here hx rfl (pc0 := 106) (pc' := 118) rfl (D d22_106) rfl ((if0 _ _).trans (teq (hs.1)).1) (by decide) (by decide) (XS.iload X14.here hx rfl (D d22_118) rfl kK))) ?_
    refine OwnEnd.ret X14 (v := (some (.int ((q + (-1 : Int32)) + (-1 : Int32))))) (fun h => by rw [Bd.returns] at h; cases h) hlk (fun fs hr => retOut X14 hx Bd.returns rfl (Or.inl ⟨rfl, Or.inl rfl, _, rfl⟩) (D d22_120) hr) (by decide) (by decide) (Q := (Qgc Z P q0 vb kv vs mu) h0 n0) e14 ?_
    exact ⟨((q + (-1 : Int32)) + (-1 : Int32)), ((w.set (mu - 2 * 2 - 1) (.int (nar .byte (own_d1 (-x))))).set (mu - 2 * 2 - 2) (.int (nar .byte (own_d2 (-x))))), rfl, N14, K15, V14, (own_fin2 (by decide) J1 hhi hc9 P3 Ep.2.2.1 E2.2.1 hs.2)⟩
  ·refine oo (S' := T7.setTop (mkF m 104 lv3 [])) (fun _ kK => XS.icmpYes X7.here hx rfl (pc0 := 88) (pc' := 104) rfl (D d22_88) rfl (flt (hc9)).2.1 (by decide) (by decide) kK) ?_
   rcases J3 with hs | hs
   ·let lv20 : Array Slot := #[vI x, vI q0, vR vb, vI x, vI r4, vI ((q + (-1 : Int32)) + (-1 : Int32)), vI sgn]
    refine oo (S' := T7.setTop (mkF m 117 lv20 [(.int 45), (.int ((q + (-1 : Int32)) + (-1 : Int32))), (.ref vb)])) (fun _ kK => XS.iload X7.here hx rfl (D d22_104) rfl (XS.ifNo X7.here hx rfl (D d22_106) rfl ((if0 _ _).trans (feq ((by rw [hs.1]; decide))).1) (XS.aloadN X7.here hx rfl (D d22_109) rfl rfl (XS.iinc X7.here hx rfl (D d22_110) rfl (l' := lv20) rfl (XS.iload X7.here hx rfl (D d22_113) rfl (XS.bipush X7.here hx rfl (D d22_115) kK)))))) ?_
    have e3m := Ep.2.2.2.2 hc9 hs.2
    have ix3 := own_ix (own_q2 J2 (by omega)) (by omega)
    obtain ⟨cl21, Ar21, q21, S21, N21', H21, G21⟩ := id V7
    have hin22 : ¬ (((q + (-1 : Int32)) + (-1 : Int32)) < 0 ∨ cl21.slots.size ≤ (((q + (-1 : Int32)) + (-1 : Int32))).toNatClampNeg) := inb_of S21 ix3.1
    obtain ⟨T22, h22, X22, e22, W22, st22⟩ := stB X7 hx hZ e7 Ar21 (j := ((q + (-1 : Int32)) + (-1 : Int32))) hin22 (g := (mkF m 117 lv20 [(.int 45), (.int ((q + (-1 : Int32)) + (-1 : Int32))), (.ref vb)])) rfl rfl (D d22_117)
    have N22 := Fr.snoc X22 N7 (by omega)
    have sz23 := own_wr_le W22
    have K23 := K8.wr W22 (Or.inl (by simp))
    have V22 : Arv Z h22 vb kv .byte (16 : Int32) ((w.set (mu - 2 * 2 - 1) (.int (nar .byte (own_d1 (-x))))).set (mu - 2 * 2 - 2) (.int 45)) (.int 0) := Arv.set Ar21 q21 S21 N21' H21 G21 (fits_nar_byte _) W22 (mu - 2 * 2 - 2) ix3.2 (by simp only [List.length_set]; rw [wl]; omega)
    refine oo (S' := T22.setTop (mkF m 118 lv20 [])) st22 ?_
    refine oo (S' := T22.setTop (mkF m 120 lv20 [(.int ((q + (-1 : Int32)) + (-1 : Int32)))])) (fun _ kK => XS.iload X22.here hx rfl (D d22_118) rfl kK) ?_
    refine OwnEnd.ret X22 (v := (some (.int ((q + (-1 : Int32)) + (-1 : Int32))))) (fun h => by rw [Bd.returns] at h; cases h) hlk (fun fs hr => retOut X22 hx Bd.returns rfl (Or.inl ⟨rfl, Or.inl rfl, _, rfl⟩) (D d22_120) hr) (by decide) (by decide) (Q := (Qgc Z P q0 vb kv vs mu) h0 n0) e22 ?_
    exact ⟨((q + (-1 : Int32)) + (-1 : Int32)), ((w.set (mu - 2 * 2 - 1) (.int (nar .byte (own_d1 (-x))))).set (mu - 2 * 2 - 2) (.int 45)), rfl, N22, K23, V22, (own_fin1n (by decide) J1 hc9 P3 Ep.2.2.1 hs.2)⟩
   ·refine oo (S' := T7.setTop (mkF m 120 lv3 [(.int (q + (-1 : Int32)))])) (fun _ kK => XS.iload X7.here hx rfl (D d22_104) rfl (XS.ifYes X7.here hx rfl (pc0 := 106) (pc' := 118) rfl (D d22_106) rfl ((if0 _ _).trans (teq (hs.1)).1) (by decide) (by decide) (XS.iload X7.here hx rfl (D d22_118) rfl kK))) ?_
    refine OwnEnd.ret X7 (v := (some (.int (q + (-1 : Int32))))) (fun h => by rw [Bd.returns] at h; cases h) hlk (fun fs hr => retOut X7 hx Bd.returns rfl (Or.inl ⟨rfl, Or.inl rfl, _, rfl⟩) (D d22_120) hr) (by decide) (by decide) (Q := (Qgc Z P q0 vb kv vs mu) h0 n0) e7 ?_
    exact ⟨(q + (-1 : Int32)), (w.set (mu - 2 * 2 - 1) (.int (nar .byte (own_d1 (-x))))), rfl, N7, K8, V7, (own_fin1 (by decide) J1 hc9 P3 Ep.2.2.1 hs.2)⟩
 ·refine oo (S' := TJ.setTop (mkF m 28 lv1 [])) (fun _ kK => XS.icmpNo XJ.here hx rfl (D d22_25) rfl (flt (hc2)).2.2.1 kK) ?_
  have hlo := hc2
  have Lp := own_lp (by decide) J1 hlo P3
  have lpm := Lp.1
  have wl := J1.2.1
  have ix1 := own_ix (own_q1 J2 (by omega)) (by omega)
  have ix2 := own_ix (own_q2 J2 (by omega)) (by omega)
  let lv24 : Array Slot := #[vI x, vI q0, vR vb, vI (x / (100 : Int32)), vI r4, vI q, vI sgn]
  let lv25 : Array Slot := #[vI x, vI q0, vR vb, vI (x / (100 : Int32)), vI (((x / (100 : Int32)) * (100 : Int32)) - x), vI q, vI sgn]
  let lv26 : Array Slot := #[vI (x / (100 : Int32)), vI q0, vR vb, vI (x / (100 : Int32)), vI (((x / (100 : Int32)) * (100 : Int32)) - x), vI q, vI sgn]
  let lv27 : Array Slot := #[vI (x / (100 : Int32)), vI q0, vR vb, vI (x / (100 : Int32)), vI (((x / (100 : Int32)) * (100 : Int32)) - x), vI (q + (-1 : Int32)), vI sgn]
  refine oo (S' := TJ.setTop (mkF m 49 lv27 [(.int (q + (-1 : Int32))), (.ref vb)])) (fun _ kK => XS.iloadN XJ.here hx rfl (D d22_28) rfl (XS.bipush XJ.here hx rfl (D d22_29) (XS.idiv XJ.here hx rfl (D d22_31) rfl (by decide) (XS.istoreN XJ.here hx rfl (D d22_32) rfl (l' := lv24) rfl (XS.iloadN XJ.here hx rfl (D d22_33) rfl (XS.bipush XJ.here hx rfl (D d22_34) (XS.imul XJ.here hx rfl (D d22_36) rfl (XS.iloadN XJ.here hx rfl (D d22_37) rfl (XS.isub XJ.here hx rfl (D d22_38) rfl (XS.istore XJ.here hx rfl (D d22_39) rfl (l' := lv25) rfl (XS.iloadN XJ.here hx rfl (D d22_41) rfl (XS.istoreN XJ.here hx rfl (D d22_42) rfl (l' := lv26) rfl (XS.aloadN XJ.here hx rfl (D d22_43) rfl rfl (XS.iinc XJ.here hx rfl (D d22_44) rfl (l' := lv27) rfl (XS.iload XJ.here hx rfl (D d22_47) rfl kK))))))))))))))) ?_
  obtain ⟨T28, X28, e28, st28⟩ := getS2 XJ hx hZ hown (host := "") (Or.inl (w_ G 131 rfl)) Via.refl eJ (S1.ext OJ.2) (g := (mkF m 49 lv27 [(.int (q + (-1 : Int32))), (.ref vb)])) rfl (D d22_49)
  refine oo (S' := T28.setTop (mkF m 52 lv27 [(.ref aO), (.int (q + (-1 : Int32))), (.ref vb)])) st28 ?_
  refine oo (S' := T28.setTop (mkF m 54 lv27 [(.int (((x / (100 : Int32)) * (100 : Int32)) - x)), (.ref aO), (.int (q + (-1 : Int32))), (.ref vb)])) (fun _ kK => XS.iload X28.here hx rfl (D d22_52) rfl kK) ?_
  obtain ⟨cT29, At29, zT29, Ht29⟩ := id TB1
  have At29 := At29.ext OJ.2
  refine oo (S' := T28.setTop (mkF m 55 lv27 [(.int (own_d1 (((x / (100 : Int32)) * (100 : Int32)) - x))), (.int (q + (-1 : Int32))), (.ref vb)])) (fun _ kK => X28.baloadBytes hx (j := (((x / (100 : Int32)) * (100 : Int32)) - x)) (v := .int (own_d1 (((x / (100 : Int32)) * (100 : Int32)) - x))) (by rw [e28]; exact At29.1) (State.isArrayOf_alike hZ.alike At29.2.1) At29.2.2 (inb_of zT29 Lp.2.1) (Ht29 _ Lp.2.1.1 Lp.2.1.2) (g := (mkF m 54 lv27 [(.int (((x / (100 : Int32)) * (100 : Int32)) - x)), (.ref aO), (.int (q + (-1 : Int32))), (.ref vb)])) rfl rfl (D d22_54) _ kK) ?_
  obtain ⟨cl30, Ar30, q30, S30, N30', H30, G30⟩ := id J0
  have hin31 : ¬ ((q + (-1 : Int32)) < 0 ∨ cl30.slots.size ≤ ((q + (-1 : Int32))).toNatClampNeg) := inb_of S30 ix1.1
  obtain ⟨T31, h31, X31, e31, W31, st31⟩ := stB X28 hx hZ e28 Ar30 (j := (q + (-1 : Int32))) hin31 (g := (mkF m 55 lv27 [(.int (own_d1 (((x / (100 : Int32)) * (100 : Int32)) - x))), (.int (q + (-1 : Int32))), (.ref vb)])) rfl rfl (D d22_55)
  have N31 := Fr.snoc X31 NJ (by omega)
  have sz32 := own_wr_le W31
  have K32 := KJ.wr W31 (Or.inl (by simp))
  have O32 := OJ.wr W31 (by omega)
  have V31 : Arv Z h31 vb kv .byte (16 : Int32) (w.set (mu - 2 * 2 - 1) (.int (nar .byte (own_d1 (((x / (100 : Int32)) * (100 : Int32)) - x))))) (.int 0) := Arv.set Ar30 q30 S30 N30' H30 G30 (fits_nar_byte _) W31 (mu - 2 * 2 - 1) ix1.2 (by rw [wl]; omega)
  refine oo (S' := T31.setTop (mkF m 56 lv27 [])) st31 ?_
  let lv33 : Array Slot := #[vI (x / (100 : Int32)), vI q0, vR vb, vI (x / (100 : Int32)), vI (((x / (100 : Int32)) * (100 : Int32)) - x), vI ((q + (-1 : Int32)) + (-1 : Int32)), vI sgn]
  refine oo (S' := T31.setTop (mkF m 62 lv33 [(.int ((q + (-1 : Int32)) + (-1 : Int32))), (.ref vb)])) (fun _ kK => XS.aloadN X31.here hx rfl (D d22_56) rfl rfl (XS.iinc X31.here hx rfl (D d22_57) rfl (l' := lv33) rfl (XS.iload X31.here hx rfl (D d22_60) rfl kK))) ?_
  obtain ⟨T34, X34, e34, st34⟩ := getS2 X31 hx hZ hown (host := "") (Or.inl (w_ G 229 rfl)) Via.refl e31 (S2.ext O32.2) (g := (mkF m 62 lv33 [(.int ((q + (-1 : Int32)) + (-1 : Int32))), (.ref vb)])) rfl (D d22_62)
  refine oo (S' := T34.setTop (mkF m 65 lv33 [(.ref aT), (.int ((q + (-1 : Int32)) + (-1 : Int32))), (.ref vb)])) st34 ?_
  refine oo (S' := T34.setTop (mkF m 67 lv33 [(.int (((x / (100 : Int32)) * (100 : Int32)) - x)), (.ref aT), (.int ((q + (-1 : Int32)) + (-1 : Int32))), (.ref vb)])) (fun _ kK => XS.iload X34.here hx rfl (D d22_65) rfl kK) ?_
  obtain ⟨cT35, At35, zT35, Ht35⟩ := id TB2
  have At35 := At35.ext O32.2
  refine oo (S' := T34.setTop (mkF m 68 lv33 [(.int (own_d2 (((x / (100 : Int32)) * (100 : Int32)) - x))), (.int ((q + (-1 : Int32)) + (-1 : Int32))), (.ref vb)])) (fun _ kK => X34.baloadBytes hx (j := (((x / (100 : Int32)) * (100 : Int32)) - x)) (v := .int (own_d2 (((x / (100 : Int32)) * (100 : Int32)) - x))) (by rw [e34]; exact At35.1) (State.isArrayOf_alike hZ.alike At35.2.1) At35.2.2 (inb_of zT35 Lp.2.1) (Ht35 _ Lp.2.1.1 Lp.2.1.2) (g := (mkF m 67 lv33 [(.int (((x / (100 : Int32)) * (100 : Int32)) - x)), (.ref aT), (.int ((q + (-1 : Int32)) + (-1 : Int32))), (.ref vb)])) rfl rfl (D d22_67) _ kK) ?_
  obtain ⟨cl36, Ar36, q36, S36, N36', H36, G36⟩ := id V31
  have hin37 : ¬ (((q + (-1 : Int32)) + (-1 : Int32)) < 0 ∨ cl36.slots.size ≤ (((q + (-1 : Int32)) + (-1 : Int32))).toNatClampNeg) := inb_of S36 ix2.1
  obtain ⟨T37, h37, X37, e37, W37, st37⟩ := stB X34 hx hZ e34 Ar36 (j := ((q + (-1 : Int32)) + (-1 : Int32))) hin37 (g := (mkF m 68 lv33 [(.int (own_d2 (((x / (100 : Int32)) * (100 : Int32)) - x))), (.int ((q + (-1 : Int32)) + (-1 : Int32))), (.ref vb)])) rfl rfl (D d22_68)
  have N37 := Fr.snoc X37 N31 (by omega)
  have sz38 := own_wr_le W37
  have K38 := K32.wr W37 (Or.inl (by simp))
  have O38 := O32.wr W37 (by omega)
  have V37 : Arv Z h37 vb kv .byte (16 : Int32) ((w.set (mu - 2 * 2 - 1) (.int (nar .byte (own_d1 (((x / (100 : Int32)) * (100 : Int32)) - x))))).set (mu - 2 * 2 - 2) (.int (nar .byte (own_d2 (((x / (100 : Int32)) * (100 : Int32)) - x))))) (.int 0) := Arv.set Ar36 q36 S36 N36' H36 G36 (fits_nar_byte _) W37 (mu - 2 * 2 - 2) ix2.2 (by rw [List.length_set, wl]; omega)
  refine oo (S' := T37.setTop (mkF m 69 lv33 [])) st37 ?_
  refine oo (S' := T37.setTop (mkF m 22 lv33 [])) (fun _ kK => XS.goto X37.here hx rfl (pc0 := 69) (pc' := 22) rfl (D d22_69) (by decide) (by decide) kK) ?_
  exact sfg3 l Z a0 G P q0 vb kv vs mu h0 n0 O0 P1 P2 P3 P4 P5 Bd hml0 hZ (X37.more (by decide) (by decide)) h37 e37 K38 O38 N37 (by omega) (x / (100 : Int32)) ((q + (-1 : Int32)) + (-1 : Int32)) ((w.set (mu - 2 * 2 - 1) (.int (nar .byte (own_d1 (((x / (100 : Int32)) * (100 : Int32)) - x))))).set (mu - 2 * 2 - 2) (.int (nar .byte (own_d2 (((x / (100 : Int32)) * (100 : Int32)) - x))))) sgn (((x / (100 : Int32)) * (100 : Int32)) - x) V37 (own_inv1 (by decide) J1 hlo (by omega) Lp.2.2.1 Lp.2.2.2) (own_qn J2 (by omega)) (J3)

set_option maxRecDepth 65536 in
set_option maxHeartbeats 40000000 in
theorem sfg1 (l : Launch) (Z : State) (a0 : Array Value) (G : OwnG Z a0) (P : Int32) (q0 : Int32) (vb : Addr) (kv : ClassId) (vs : List Value) (mu : Nat) (h0 : Heap) (n0 : Nat) (O0 : Old Z n0 h0) (P1 : n0 ≤ vb) (P2 : vs.length = 16) (P3 : own_nd (own_n P) + own_sg P ≤ mu) (P4 : mu ≤ 16) (P5 : q0 = Int32.ofNat mu) {p : Program} {e : Env} {s : State} {m : MethodId} {below : List Frame} {meth : Method} {cD : Code} {s₁ : State} {Sp : Spec} (Bd : BodyLoose p l own_m22 Sp B28 7 (some .int) e s m #[(.int P), (.int q0), (.ref vb)] below meth cD s₁) (hml0 : cD.maxLocals = 7) (hZ : Z.Warmed39 s.vm) {TJ : State} {locs : List Loc} (XJ : Stand p l e (rR 0 0 0 0) s m #[(.int P), (.int q0), (.ref vb)] below meth cD TJ locs 0 0) (hJ : Heap) (eJ : TJ.heap = hJ) (KJ : Keep h0 hJ [vb]) (OJ : Old Z n0 hJ) (NJ : Fr n0 locs) (szJ : Array.size h0 ≤ Array.size hJ) (x : Int32) (q : Int32) (w : List Value) (sgn : Int32) (r4 : Int32) (J0 : Arv Z hJ vb kv .byte (16 : Int32) w (.int 0)) (J1 : own_inv P mu vs 1 x w) (J2 : q = Int32.ofNat (mu - 2 * 1)) (J3 : (sgn = (1 : Int32) ∧ P < (0 : Int32)) ∨ (sgn = (0 : Int32) ∧ ¬ P < (0 : Int32))) :
  OwnEnd p e below (fun o t => ∃ v L, o = .returned v ∧ (Qgc Z P q0 vb kv vs mu) h0 n0 v t.heap L ∧ FrameEnd s o t L (rR 0 0 0 0).cells (rR 0 0 0 0).slots) (TJ.setTop (mkF m 22 #[vI x, vI q0, vR vb, vI x, vI r4, vI q, vI sgn] [])) := by
 have hx := Bd.exec
 have hby := Bd.bytes
 have D := @hb _ _ hby
 have hml : cD.maxLocals = 7 := hml0
 have hown : s.vm.findClass j5 = some m.cls := findClass_of_methodNamed Bd.named
 have hlk := Bd.notSynchronized
 have ltJ0 := lN J0.lt
 have Z0 := own_old_le O0
 obtain ⟨aO, aT, S1, S2, TB1, TB2⟩ := own_tabs G
 let lv1 : Array Slot := #[vI x, vI q0, vR vb, vI x, vI r4, vI q, vI sgn]
 refine oo (S' := TJ.setTop (mkF m 25 lv1 [(.int (-100 : Int32)), (.int x)])) (fun _ kK => XS.iloadN XJ.here hx rfl (D d22_22) rfl (XS.bipush XJ.here hx rfl (D d22_23) kK)) ?_
 rcases Decidable.em ((-100 : Int32) < x) with hc2 | hc2
 ·refine oo (S' := TJ.setTop (mkF m 72 lv1 [])) (fun _ kK => XS.icmpYes XJ.here hx rfl (pc0 := 25) (pc' := 72) rfl (D d22_25) rfl (tlt (hc2)).2.2.1 (by decide) (by decide) kK) ?_
  have hhi := hc2
  have Ep := own_ex (by decide) J1 hhi P3
  have epm := Ep.1
  have wl := J1.2.1
  have ix1 := own_ix (own_q1 J2 (by omega)) (by omega)
  let lv3 : Array Slot := #[vI x, vI q0, vR vb, vI x, vI r4, vI (q + (-1 : Int32)), vI sgn]
  refine oo (S' := TJ.setTop (mkF m 78 lv3 [(.int (q + (-1 : Int32))), (.ref vb)])) (fun _ kK => XS.aloadN XJ.here hx rfl (D d22_72) rfl rfl (XS.iinc XJ.here hx rfl (D d22_73) rfl (l' := lv3) rfl (XS.iload XJ.here hx rfl (D d22_76) rfl kK))) ?_
  obtain ⟨T4, X4, e4, st4⟩ := getS2 XJ hx hZ hown (host := "") (Or.inl (w_ G 131 rfl)) Via.refl eJ (S1.ext OJ.2) (g := (mkF m 78 lv3 [(.int (q + (-1 : Int32))), (.ref vb)])) rfl (D d22_78)
  refine oo (S' := T4.setTop (mkF m 81 lv3 [(.ref aO), (.int (q + (-1 : Int32))), (.ref vb)])) st4 ?_
  refine oo (S' := T4.setTop (mkF m 83 lv3 [(.int (-x)), (.ref aO), (.int (q + (-1 : Int32))), (.ref vb)])) (fun _ kK => XS.iloadN X4.here hx rfl (D d22_81) rfl (XS.ineg X4.here hx rfl (D d22_82) rfl kK)) ?_
  obtain ⟨cT5, At5, zT5, Ht5⟩ := id TB1
  have At5 := At5.ext OJ.2
  refine oo (S' := T4.setTop (mkF m 84 lv3 [(.int (own_d1 (-x))), (.int (q + (-1 : Int32))), (.ref vb)])) (fun _ kK => X4.baloadBytes hx (j := (-x)) (v := .int (own_d1 (-x))) (by rw [e4]; exact At5.1) (State.isArrayOf_alike hZ.alike At5.2.1) At5.2.2 (inb_of zT5 Ep.2.1) (Ht5 _ Ep.2.1.1 Ep.2.1.2) (g := (mkF m 83 lv3 [(.int (-x)), (.ref aO), (.int (q + (-1 : Int32))), (.ref vb)])) rfl rfl (D d22_83) _ kK) ?_
  obtain ⟨cl6, Ar6, q6, S6, N6', H6, G6⟩ := id J0
  have hin7 : ¬ ((q + (-1 : Int32)) < 0 ∨ cl6.slots.size ≤ ((q + (-1 : Int32))).toNatClampNeg) := inb_of S6 ix1.1
  obtain ⟨T7, h7, X7, e7, W7, st7⟩ := stB X4 hx hZ e4 Ar6 (j := (q + (-1 : Int32))) hin7 (g := (mkF m 84 lv3 [(.int (own_d1 (-x))), (.int (q + (-1 : Int32))), (.ref vb)])) rfl rfl (D d22_84)
  have N7 := Fr.snoc X7 NJ (by omega)
  have sz8 := own_wr_le W7
  have K8 := KJ.wr W7 (Or.inl (by simp))
  have O8 := OJ.wr W7 (by omega)
  have V7 : Arv Z h7 vb kv .byte (16 : Int32) (w.set (mu - 2 * 1 - 1) (.int (nar .byte (own_d1 (-x))))) (.int 0) := Arv.set Ar6 q6 S6 N6' H6 G6 (fits_nar_byte _) W7 (mu - 2 * 1 - 1) ix1.2 (by rw [wl]; omega)
  refine oo (S' := T7.setTop (mkF m 85 lv3 [])) st7 ?_
  refine oo (S' := T7.setTop (mkF m 88 lv3 [(.int (-9 : Int32)), (.int x)])) (fun _ kK => XS.iloadN X7.here hx rfl (D d22_85) rfl (XS.bipush X7.here hx rfl (D d22_86) kK)) ?_
  rcases Decidable.em (x < (-9 : Int32)) with hc9 | hc9
  ·refine oo (S' := T7.setTop (mkF m 91 lv3 [])) (fun _ kK => XS.icmpNo X7.here hx rfl (D d22_88) rfl (tlt (hc9)).2.1 kK) ?_
   have E2 := Ep.2.2.2.1 hc9
   have e2m := E2.1
   have ix2 := own_ix (own_q2 J2 (by omega)) (by omega)
   let lv10 : Array Slot := #[vI x, vI q0, vR vb, vI x, vI r4, vI ((q + (-1 : Int32)) + (-1 : Int32)), vI sgn]
   refine oo (S' := T7.setTop (mkF m 97 lv10 [(.int ((q + (-1 : Int32)) + (-1 : Int32))), (.ref vb)])) (fun _ kK => XS.aloadN X7.here hx rfl (D d22_91) rfl rfl (XS.iinc X7.here hx rfl (D d22_92) rfl (l' := lv10) rfl (XS.iload X7.here hx rfl (D d22_95) rfl kK))) ?_
   obtain ⟨T11, X11, e11, st11⟩ := getS2 X7 hx hZ hown (host := "") (Or.inl (w_ G 229 rfl)) Via.refl e7 (S2.ext O8.2) (g := (mkF m 97 lv10 [(.int ((q + (-1 : Int32)) + (-1 : Int32))), (.ref vb)])) rfl (D d22_97)
   refine oo (S' := T11.setTop (mkF m 100 lv10 [(.ref aT), (.int ((q + (-1 : Int32)) + (-1 : Int32))), (.ref vb)])) st11 ?_
   refine oo (S' := T11.setTop (mkF m 102 lv10 [(.int (-x)), (.ref aT), (.int ((q + (-1 : Int32)) + (-1 : Int32))), (.ref vb)])) (fun _ kK => XS.iloadN X11.here hx rfl (D d22_100) rfl (XS.ineg X11.here hx rfl (D d22_101) rfl kK)) ?_
   obtain ⟨cT12, At12, zT12, Ht12⟩ := id TB2
   have At12 := At12.ext O8.2
   refine oo (S' := T11.setTop (mkF m 103 lv10 [(.int (own_d2 (-x))), (.int ((q + (-1 : Int32)) + (-1 : Int32))), (.ref vb)])) (fun _ kK => X11.baloadBytes hx (j := (-x)) (v := .int (own_d2 (-x))) (by rw [e11]; exact At12.1) (State.isArrayOf_alike hZ.alike At12.2.1) At12.2.2 (inb_of zT12 Ep.2.1) (Ht12 _ Ep.2.1.1 Ep.2.1.2) (g := (mkF m 102 lv10 [(.int (-x)), (.ref aT), (.int ((q + (-1 : Int32)) + (-1 : Int32))), (.ref vb)])) rfl rfl (D d22_102) _ kK) ?_
   obtain ⟨cl13, Ar13, q13, S13, N13', H13, G13⟩ := id V7
   have hin14 : ¬ (((q + (-1 : Int32)) + (-1 : Int32)) < 0 ∨ cl13.slots.size ≤ (((q + (-1 : Int32)) + (-1 : Int32))).toNatClampNeg) := inb_of S13 ix2.1
   obtain ⟨T14, h14, X14, e14, W14, st14⟩ := stB X11 hx hZ e11 Ar13 (j := ((q + (-1 : Int32)) + (-1 : Int32))) hin14 (g := (mkF m 103 lv10 [(.int (own_d2 (-x))), (.int ((q + (-1 : Int32)) + (-1 : Int32))), (.ref vb)])) rfl rfl (D d22_103)
   have N14 := Fr.snoc X14 N7 (by omega)
   have sz15 := own_wr_le W14
   have K15 := K8.wr W14 (Or.inl (by simp))
   have V14 : Arv Z h14 vb kv .byte (16 : Int32) ((w.set (mu - 2 * 1 - 1) (.int (nar .byte (own_d1 (-x))))).set (mu - 2 * 1 - 2) (.int (nar .byte (own_d2 (-x))))) (.int 0) := Arv.set Ar13 q13 S13 N13' H13 G13 (fits_nar_byte _) W14 (mu - 2 * 1 - 2) ix2.2 (by rw [List.length_set, wl]; omega)
   refine oo (S' := T14.setTop (mkF m 104 lv10 [])) st14 ?_
   rcases J3 with hs | hs
   ·let lv16 : Array Slot := #[vI x, vI q0, vR vb, vI x, vI r4, vI (((q + (-1 : Int32)) + (-1 : Int32)) + (-1 : Int32)), vI sgn]
    refine oo (S' := T14.setTop (mkF m 117 lv16 [(.int 45), (.int (((q + (-1 : Int32)) + (-1 : Int32)) + (-1 : Int32))), (.ref vb)])) (fun _ kK => XS.iload X14.here hx rfl (D d22_104) rfl (XS.ifNo X14.here hx rfl (D d22_106) rfl ((if0 _ _).trans (feq ((by rw [hs.1]; decide))).1) (XS.aloadN X14.here hx rfl (D d22_109) rfl rfl (XS.iinc X14.here hx rfl (D d22_110) rfl (l' := lv16) rfl (XS.iload X14.here hx rfl (D d22_113) rfl (XS.bipush X14.here hx rfl (D d22_115) kK)))))) ?_
    have e3m := E2.2.2 hs.2
    have ix3 := own_ix (own_q3 J2 (by omega)) (by omega)
    obtain ⟨cl17, Ar17, q17, S17, N17', H17, G17⟩ := id V14
    have hin18 : ¬ ((((q + (-1 : Int32)) + (-1 : Int32)) + (-1 : Int32)) < 0 ∨ cl17.slots.size ≤ ((((q + (-1 : Int32)) + (-1 : Int32)) + (-1 : Int32))).toNatClampNeg) := inb_of S17 ix3.1
    obtain ⟨T18, h18, X18, e18, W18, st18⟩ := stB X14 hx hZ e14 Ar17 (j := (((q + (-1 : Int32)) + (-1 : Int32)) + (-1 : Int32))) hin18 (g := (mkF m 117 lv16 [(.int 45), (.int (((q + (-1 : Int32)) + (-1 : Int32)) + (-1 : Int32))), (.ref vb)])) rfl rfl (D d22_117)
    have N18 := Fr.snoc X18 N14 (by omega)
    have sz19 := own_wr_le W18
    have K19 := K15.wr W18 (Or.inl (by simp))
    have V18 : Arv Z h18 vb kv .byte (16 : Int32) (((w.set (mu - 2 * 1 - 1) (.int (nar .byte (own_d1 (-x))))).set (mu - 2 * 1 - 2) (.int (nar .byte (own_d2 (-x))))).set (mu - 2 * 1 - 3) (.int 45)) (.int 0) := Arv.set Ar17 q17 S17 N17' H17 G17 (fits_nar_byte _) W18 (mu - 2 * 1 - 3) ix3.2 (by simp only [List.length_set]; rw [wl]; omega)
    refine oo (S' := T18.setTop (mkF m 118 lv16 [])) st18 ?_
    refine oo (S' := T18.setTop (mkF m 120 lv16 [(.int (((q + (-1 : Int32)) + (-1 : Int32)) + (-1 : Int32)))])) (fun _ kK => XS.iload X18.here hx rfl (D d22_118) rfl kK) ?_
    refine OwnEnd.ret X18 (v := (some (.int (((q + (-1 : Int32)) + (-1 : Int32)) + (-1 : Int32))))) (fun h => by rw [Bd.returns] at h; cases h) hlk (fun fs hr => retOut X18 hx Bd.returns rfl (Or.inl ⟨rfl, Or.inl rfl, _, rfl⟩) (D d22_120) hr) (by decide) (by decide) (Q := (Qgc Z P q0 vb kv vs mu) h0 n0) e18 ?_
    exact ⟨(((q + (-1 : Int32)) + (-1 : Int32)) + (-1 : Int32)), (((w.set (mu - 2 * 1 - 1) (.int (nar .byte (own_d1 (-x))))).set (mu - 2 * 1 - 2) (.int (nar .byte (own_d2 (-x))))).set (mu - 2 * 1 - 3) (.int 45)), rfl, N18, K19, V18, (own_fin2n (by decide) J1 hhi hc9 P3 Ep.2.2.1 E2.2.1 hs.2)⟩
   ·refine oo (S' := T14.setTop (mkF m 120 lv10 [(.int ((q + (-1 : Int32)) + (-1 : Int32)))])) (fun _ kK => XS.iload X14.here hx rfl (D d22_104) rfl (XS.ifYes X14.here hx rfl (pc0 := 106) (pc' := 118) rfl (D d22_106) rfl ((if0 _ _).trans (teq (hs.1)).1) (by decide) (by decide) (XS.iload X14.here hx rfl (D d22_118) rfl kK))) ?_
    refine OwnEnd.ret X14 (v := (some (.int ((q + (-1 : Int32)) + (-1 : Int32))))) (fun h => by rw [Bd.returns] at h; cases h) hlk (fun fs hr => retOut X14 hx Bd.returns rfl (Or.inl ⟨rfl, Or.inl rfl, _, rfl⟩) (D d22_120) hr) (by decide) (by decide) (Q := (Qgc Z P q0 vb kv vs mu) h0 n0) e14 ?_
    exact ⟨((q + (-1 : Int32)) + (-1 : Int32)), ((w.set (mu - 2 * 1 - 1) (.int (nar .byte (own_d1 (-x))))).set (mu - 2 * 1 - 2) (.int (nar .byte (own_d2 (-x))))), rfl, N14, K15, V14, (own_fin2 (by decide) J1 hhi hc9 P3 Ep.2.2.1 E2.2.1 hs.2)⟩
  ·refine oo (S' := T7.setTop (mkF m 104 lv3 [])) (fun _ kK => XS.icmpYes X7.here hx rfl (pc0 := 88) (pc' := 104) rfl (D d22_88) rfl (flt (hc9)).2.1 (by decide) (by decide) kK) ?_
   rcases J3 with hs | hs
   ·let lv20 : Array Slot := #[vI x, vI q0, vR vb, vI x, vI r4, vI ((q + (-1 : Int32)) + (-1 : Int32)), vI sgn]
    refine oo (S' := T7.setTop (mkF m 117 lv20 [(.int 45), (.int ((q + (-1 : Int32)) + (-1 : Int32))), (.ref vb)])) (fun _ kK => XS.iload X7.here hx rfl (D d22_104) rfl (XS.ifNo X7.here hx rfl (D d22_106) rfl ((if0 _ _).trans (feq ((by rw [hs.1]; decide))).1) (XS.aloadN X7.here hx rfl (D d22_109) rfl rfl (XS.iinc X7.here hx rfl (D d22_110) rfl (l' := lv20) rfl (XS.iload X7.here hx rfl (D d22_113) rfl (XS.bipush X7.here hx rfl (D d22_115) kK)))))) ?_
    have e3m := Ep.2.2.2.2 hc9 hs.2
    have ix3 := own_ix (own_q2 J2 (by omega)) (by omega)
    obtain ⟨cl21, Ar21, q21, S21, N21', H21, G21⟩ := id V7
    have hin22 : ¬ (((q + (-1 : Int32)) + (-1 : Int32)) < 0 ∨ cl21.slots.size ≤ (((q + (-1 : Int32)) + (-1 : Int32))).toNatClampNeg) := inb_of S21 ix3.1
    obtain ⟨T22, h22, X22, e22, W22, st22⟩ := stB X7 hx hZ e7 Ar21 (j := ((q + (-1 : Int32)) + (-1 : Int32))) hin22 (g := (mkF m 117 lv20 [(.int 45), (.int ((q + (-1 : Int32)) + (-1 : Int32))), (.ref vb)])) rfl rfl (D d22_117)
    have N22 := Fr.snoc X22 N7 (by omega)
    have sz23 := own_wr_le W22
    have K23 := K8.wr W22 (Or.inl (by simp))
    have V22 : Arv Z h22 vb kv .byte (16 : Int32) ((w.set (mu - 2 * 1 - 1) (.int (nar .byte (own_d1 (-x))))).set (mu - 2 * 1 - 2) (.int 45)) (.int 0) := Arv.set Ar21 q21 S21 N21' H21 G21 (fits_nar_byte _) W22 (mu - 2 * 1 - 2) ix3.2 (by simp only [List.length_set]; rw [wl]; omega)
    refine oo (S' := T22.setTop (mkF m 118 lv20 [])) st22 ?_
    refine oo (S' := T22.setTop (mkF m 120 lv20 [(.int ((q + (-1 : Int32)) + (-1 : Int32)))])) (fun _ kK => XS.iload X22.here hx rfl (D d22_118) rfl kK) ?_
    refine OwnEnd.ret X22 (v := (some (.int ((q + (-1 : Int32)) + (-1 : Int32))))) (fun h => by rw [Bd.returns] at h; cases h) hlk (fun fs hr => retOut X22 hx Bd.returns rfl (Or.inl ⟨rfl, Or.inl rfl, _, rfl⟩) (D d22_120) hr) (by decide) (by decide) (Q := (Qgc Z P q0 vb kv vs mu) h0 n0) e22 ?_
    exact ⟨((q + (-1 : Int32)) + (-1 : Int32)), ((w.set (mu - 2 * 1 - 1) (.int (nar .byte (own_d1 (-x))))).set (mu - 2 * 1 - 2) (.int 45)), rfl, N22, K23, V22, (own_fin1n (by decide) J1 hc9 P3 Ep.2.2.1 hs.2)⟩
   ·refine oo (S' := T7.setTop (mkF m 120 lv3 [(.int (q + (-1 : Int32)))])) (fun _ kK => XS.iload X7.here hx rfl (D d22_104) rfl (XS.ifYes X7.here hx rfl (pc0 := 106) (pc' := 118) rfl (D d22_106) rfl ((if0 _ _).trans (teq (hs.1)).1) (by decide) (by decide) (XS.iload X7.here hx rfl (D d22_118) rfl kK))) ?_
    refine OwnEnd.ret X7 (v := (some (.int (q + (-1 : Int32))))) (fun h => by rw [Bd.returns] at h; cases h) hlk (fun fs hr => retOut X7 hx Bd.returns rfl (Or.inl ⟨rfl, Or.inl rfl, _, rfl⟩) (D d22_120) hr) (by decide) (by decide) (Q := (Qgc Z P q0 vb kv vs mu) h0 n0) e7 ?_
    exact ⟨(q + (-1 : Int32)), (w.set (mu - 2 * 1 - 1) (.int (nar .byte (own_d1 (-x))))), rfl, N7, K8, V7, (own_fin1 (by decide) J1 hc9 P3 Ep.2.2.1 hs.2)⟩
 ·refine oo (S' := TJ.setTop (mkF m 28 lv1 [])) (fun _ kK => XS.icmpNo XJ.here hx rfl (D d22_25) rfl (flt (hc2)).2.2.1 kK) ?_
  have hlo := hc2
  have Lp := own_lp (by decide) J1 hlo P3
  have lpm := Lp.1
  have wl := J1.2.1
  have ix1 := own_ix (own_q1 J2 (by omega)) (by omega)
  have ix2 := own_ix (own_q2 J2 (by omega)) (by omega)
  let lv24 : Array Slot := #[vI x, vI q0, vR vb, vI (x / (100 : Int32)), vI r4, vI q, vI sgn]
  let lv25 : Array Slot := #[vI x, vI q0, vR vb, vI (x / (100 : Int32)), vI (((x / (100 : Int32)) * (100 : Int32)) - x), vI q, vI sgn]
  let lv26 : Array Slot := #[vI (x / (100 : Int32)), vI q0, vR vb, vI (x / (100 : Int32)), vI (((x / (100 : Int32)) * (100 : Int32)) - x), vI q, vI sgn]
  let lv27 : Array Slot := #[vI (x / (100 : Int32)), vI q0, vR vb, vI (x / (100 : Int32)), vI (((x / (100 : Int32)) * (100 : Int32)) - x), vI (q + (-1 : Int32)), vI sgn]
  refine oo (S' := TJ.setTop (mkF m 49 lv27 [(.int (q + (-1 : Int32))), (.ref vb)])) (fun _ kK => XS.iloadN XJ.here hx rfl (D d22_28) rfl (XS.bipush XJ.here hx rfl (D d22_29) (XS.idiv XJ.here hx rfl (D d22_31) rfl (by decide) (XS.istoreN XJ.here hx rfl (D d22_32) rfl (l' := lv24) rfl (XS.iloadN XJ.here hx rfl (D d22_33) rfl (XS.bipush XJ.here hx rfl (D d22_34) (XS.imul XJ.here hx rfl (D d22_36) rfl (XS.iloadN XJ.here hx rfl (D d22_37) rfl (XS.isub XJ.here hx rfl (D d22_38) rfl (XS.istore XJ.here hx rfl (D d22_39) rfl (l' := lv25) rfl (XS.iloadN XJ.here hx rfl (D d22_41) rfl (XS.istoreN XJ.here hx rfl (D d22_42) rfl (l' := lv26) rfl (XS.aloadN XJ.here hx rfl (D d22_43) rfl rfl (XS.iinc XJ.here hx rfl (D d22_44) rfl (l' := lv27) rfl (XS.iload XJ.here hx rfl (D d22_47) rfl kK))))))))))))))) ?_
  obtain ⟨T28, X28, e28, st28⟩ := getS2 XJ hx hZ hown (host := "") (Or.inl (w_ G 131 rfl)) Via.refl eJ (S1.ext OJ.2) (g := (mkF m 49 lv27 [(.int (q + (-1 : Int32))), (.ref vb)])) rfl (D d22_49)
  refine oo (S' := T28.setTop (mkF m 52 lv27 [(.ref aO), (.int (q + (-1 : Int32))), (.ref vb)])) st28 ?_
  refine oo (S' := T28.setTop (mkF m 54 lv27 [(.int (((x / (100 : Int32)) * (100 : Int32)) - x)), (.ref aO), (.int (q + (-1 : Int32))), (.ref vb)])) (fun _ kK => XS.iload X28.here hx rfl (D d22_52) rfl kK) ?_
  obtain ⟨cT29, At29, zT29, Ht29⟩ := id TB1
  have At29 := At29.ext OJ.2
  refine oo (S' := T28.setTop (mkF m 55 lv27 [(.int (own_d1 (((x / (100 : Int32)) * (100 : Int32)) - x))), (.int (q + (-1 : Int32))), (.ref vb)])) (fun _ kK => X28.baloadBytes hx (j := (((x / (100 : Int32)) * (100 : Int32)) - x)) (v := .int (own_d1 (((x / (100 : Int32)) * (100 : Int32)) - x))) (by rw [e28]; exact At29.1) (State.isArrayOf_alike hZ.alike At29.2.1) At29.2.2 (inb_of zT29 Lp.2.1) (Ht29 _ Lp.2.1.1 Lp.2.1.2) (g := (mkF m 54 lv27 [(.int (((x / (100 : Int32)) * (100 : Int32)) - x)), (.ref aO), (.int (q + (-1 : Int32))), (.ref vb)])) rfl rfl (D d22_54) _ kK) ?_
  obtain ⟨cl30, Ar30, q30, S30, N30', H30, G30⟩ := id J0
  have hin31 : ¬ ((q + (-1 : Int32)) < 0 ∨ cl30.slots.size ≤ ((q + (-1 : Int32))).toNatClampNeg) := inb_of S30 ix1.1
  obtain ⟨T31, h31, X31, e31, W31, st31⟩ := stB X28 hx hZ e28 Ar30 (j := (q + (-1 : Int32))) hin31 (g := (mkF m 55 lv27 [(.int (own_d1 (((x / (100 : Int32)) * (100 : Int32)) - x))), (.int (q + (-1 : Int32))), (.ref vb)])) rfl rfl (D d22_55)
  have N31 := Fr.snoc X31 NJ (by omega)
  have sz32 := own_wr_le W31
  have K32 := KJ.wr W31 (Or.inl (by simp))
  have O32 := OJ.wr W31 (by omega)
  have V31 : Arv Z h31 vb kv .byte (16 : Int32) (w.set (mu - 2 * 1 - 1) (.int (nar .byte (own_d1 (((x / (100 : Int32)) * (100 : Int32)) - x))))) (.int 0) := Arv.set Ar30 q30 S30 N30' H30 G30 (fits_nar_byte _) W31 (mu - 2 * 1 - 1) ix1.2 (by rw [wl]; omega)
  refine oo (S' := T31.setTop (mkF m 56 lv27 [])) st31 ?_
  let lv33 : Array Slot := #[vI (x / (100 : Int32)), vI q0, vR vb, vI (x / (100 : Int32)), vI (((x / (100 : Int32)) * (100 : Int32)) - x), vI ((q + (-1 : Int32)) + (-1 : Int32)), vI sgn]
  refine oo (S' := T31.setTop (mkF m 62 lv33 [(.int ((q + (-1 : Int32)) + (-1 : Int32))), (.ref vb)])) (fun _ kK => XS.aloadN X31.here hx rfl (D d22_56) rfl rfl (XS.iinc X31.here hx rfl (D d22_57) rfl (l' := lv33) rfl (XS.iload X31.here hx rfl (D d22_60) rfl kK))) ?_
  obtain ⟨T34, X34, e34, st34⟩ := getS2 X31 hx hZ hown (host := "") (Or.inl (w_ G 229 rfl)) Via.refl e31 (S2.ext O32.2) (g := (mkF m 62 lv33 [(.int ((q + (-1 : Int32)) + (-1 : Int32))), (.ref vb)])) rfl (D d22_62)
  refine oo (S' := T34.setTop (mkF m 65 lv33 [(.ref aT), (.int ((q + (-1 : Int32)) + (-1 : Int32))), (.ref vb)])) st34 ?_
  refine oo (S' := T34.setTop (mkF m 67 lv33 [(.int (((x / (100 : Int32)) * (100 : Int32)) - x)), (.ref aT), (.int ((q + (-1 : Int32)) + (-1 : Int32))), (.ref vb)])) (fun _ kK => XS.iload X34.here hx rfl (D d22_65) rfl kK) ?_
  obtain ⟨cT35, At35, zT35, Ht35⟩ := id TB2
  have At35 := At35.ext O32.2
  refine oo (S' := T34.setTop (mkF m 68 lv33 [(.int (own_d2 (((x / (100 : Int32)) * (100 : Int32)) - x))), (.int ((q + (-1 : Int32)) + (-1 : Int32))), (.ref vb)])) (fun _ kK => X34.baloadBytes hx (j := (((x / (100 : Int32)) * (100 : Int32)) - x)) (v := .int (own_d2 (((x / (100 : Int32)) * (100 : Int32)) - x))) (by rw [e34]; exact At35.1) (State.isArrayOf_alike hZ.alike At35.2.1) At35.2.2 (inb_of zT35 Lp.2.1) (Ht35 _ Lp.2.1.1 Lp.2.1.2) (g := (mkF m 67 lv33 [(.int (((x / (100 : Int32)) * (100 : Int32)) - x)), (.ref aT), (.int ((q + (-1 : Int32)) + (-1 : Int32))), (.ref vb)])) rfl rfl (D d22_67) _ kK) ?_
  obtain ⟨cl36, Ar36, q36, S36, N36', H36, G36⟩ := id V31
  have hin37 : ¬ (((q + (-1 : Int32)) + (-1 : Int32)) < 0 ∨ cl36.slots.size ≤ (((q + (-1 : Int32)) + (-1 : Int32))).toNatClampNeg) := inb_of S36 ix2.1
  obtain ⟨T37, h37, X37, e37, W37, st37⟩ := stB X34 hx hZ e34 Ar36 (j := ((q + (-1 : Int32)) + (-1 : Int32))) hin37 (g := (mkF m 68 lv33 [(.int (own_d2 (((x / (100 : Int32)) * (100 : Int32)) - x))), (.int ((q + (-1 : Int32)) + (-1 : Int32))), (.ref vb)])) rfl rfl (D d22_68)
  have N37 := Fr.snoc X37 N31 (by omega)
  have sz38 := own_wr_le W37
  have K38 := K32.wr W37 (Or.inl (by simp))
  have O38 := O32.wr W37 (by omega)
  have V37 : Arv Z h37 vb kv .byte (16 : Int32) ((w.set (mu - 2 * 1 - 1) (.int (nar .byte (own_d1 (((x / (100 : Int32)) * (100 : Int32)) - x))))).set (mu - 2 * 1 - 2) (.int (nar .byte (own_d2 (((x / (100 : Int32)) * (100 : Int32)) - x))))) (.int 0) := Arv.set Ar36 q36 S36 N36' H36 G36 (fits_nar_byte _) W37 (mu - 2 * 1 - 2) ix2.2 (by rw [List.length_set, wl]; omega)
  refine oo (S' := T37.setTop (mkF m 69 lv33 [])) st37 ?_
  refine oo (S' := T37.setTop (mkF m 22 lv33 [])) (fun _ kK => XS.goto X37.here hx rfl (pc0 := 69) (pc' := 22) rfl (D d22_69) (by decide) (by decide) kK) ?_
  exact sfg2 l Z a0 G P q0 vb kv vs mu h0 n0 O0 P1 P2 P3 P4 P5 Bd hml0 hZ (X37.more (by decide) (by decide)) h37 e37 K38 O38 N37 (by omega) (x / (100 : Int32)) ((q + (-1 : Int32)) + (-1 : Int32)) ((w.set (mu - 2 * 1 - 1) (.int (nar .byte (own_d1 (((x / (100 : Int32)) * (100 : Int32)) - x))))).set (mu - 2 * 1 - 2) (.int (nar .byte (own_d2 (((x / (100 : Int32)) * (100 : Int32)) - x))))) sgn (((x / (100 : Int32)) * (100 : Int32)) - x) V37 (own_inv1 (by decide) J1 hlo (by omega) Lp.2.2.1 Lp.2.2.2) (own_qn J2 (by omega)) (J3)

set_option maxRecDepth 65536 in
set_option maxHeartbeats 40000000 in
theorem sfg0 (l : Launch) (Z : State) (a0 : Array Value) (G : OwnG Z a0) (P : Int32) (q0 : Int32) (vb : Addr) (kv : ClassId) (vs : List Value) (mu : Nat) (h0 : Heap) (n0 : Nat) (O0 : Old Z n0 h0) (P1 : n0 ≤ vb) (P2 : vs.length = 16) (P3 : own_nd (own_n P) + own_sg P ≤ mu) (P4 : mu ≤ 16) (P5 : q0 = Int32.ofNat mu) {p : Program} {e : Env} {s : State} {m : MethodId} {below : List Frame} {meth : Method} {cD : Code} {s₁ : State} {Sp : Spec} (Bd : BodyLoose p l own_m22 Sp B28 7 (some .int) e s m #[(.int P), (.int q0), (.ref vb)] below meth cD s₁) (hml0 : cD.maxLocals = 7) (hZ : Z.Warmed39 s.vm) {TJ : State} {locs : List Loc} (XJ : Stand p l e (rR 0 0 0 0) s m #[(.int P), (.int q0), (.ref vb)] below meth cD TJ locs 0 0) (hJ : Heap) (eJ : TJ.heap = hJ) (KJ : Keep h0 hJ [vb]) (OJ : Old Z n0 hJ) (NJ : Fr n0 locs) (szJ : Array.size h0 ≤ Array.size hJ) (x : Int32) (q : Int32) (w : List Value) (sgn : Int32) (J0 : Arv Z hJ vb kv .byte (16 : Int32) w (.int 0)) (J1 : own_inv P mu vs 0 x w) (J2 : q = Int32.ofNat (mu - 2 * 0)) (J3 : (sgn = (1 : Int32) ∧ P < (0 : Int32)) ∨ (sgn = (0 : Int32) ∧ ¬ P < (0 : Int32))) :
  OwnEnd p e below (fun o t => ∃ v L, o = .returned v ∧ (Qgc Z P q0 vb kv vs mu) h0 n0 v t.heap L ∧ FrameEnd s o t L (rR 0 0 0 0).cells (rR 0 0 0 0).slots) (TJ.setTop (mkF m 22 #[vI x, vI q0, vR vb, .unset, .unset, vI q, vI sgn] [])) := by
 have hx := Bd.exec
 have hby := Bd.bytes
 have D := @hb _ _ hby
 have hml : cD.maxLocals = 7 := hml0
 have hown : s.vm.findClass j5 = some m.cls := findClass_of_methodNamed Bd.named
 have hlk := Bd.notSynchronized
 have ltJ0 := lN J0.lt
 have Z0 := own_old_le O0
 obtain ⟨aO, aT, S1, S2, TB1, TB2⟩ := own_tabs G
 let lv1 : Array Slot := #[vI x, vI q0, vR vb, .unset, .unset, vI q, vI sgn]
 refine oo (S' := TJ.setTop (mkF m 25 lv1 [(.int (-100 : Int32)), (.int x)])) (fun _ kK => XS.iloadN XJ.here hx rfl (D d22_22) rfl (XS.bipush XJ.here hx rfl (D d22_23) kK)) ?_
 rcases Decidable.em ((-100 : Int32) < x) with hc2 | hc2
 ·refine oo (S' := TJ.setTop (mkF m 72 lv1 [])) (fun _ kK => XS.icmpYes XJ.here hx rfl (pc0 := 25) (pc' := 72) rfl (D d22_25) rfl (tlt (hc2)).2.2.1 (by decide) (by decide) kK) ?_
  have hhi := hc2
  have Ep := own_ex (by decide) J1 hhi P3
  have epm := Ep.1
  have wl := J1.2.1
  have ix1 := own_ix (own_q1 J2 (by omega)) (by omega)
  let lv3 : Array Slot := #[vI x, vI q0, vR vb, .unset, .unset, vI (q + (-1 : Int32)), vI sgn]
  refine oo (S' := TJ.setTop (mkF m 78 lv3 [(.int (q + (-1 : Int32))), (.ref vb)])) (fun _ kK => XS.aloadN XJ.here hx rfl (D d22_72) rfl rfl (XS.iinc XJ.here hx rfl (D d22_73) rfl (l' := lv3) rfl (XS.iload XJ.here hx rfl (D d22_76) rfl kK))) ?_
  obtain ⟨T4, X4, e4, st4⟩ := getS2 XJ hx hZ hown (host := "") (Or.inl (w_ G 131 rfl)) Via.refl eJ (S1.ext OJ.2) (g := (mkF m 78 lv3 [(.int (q + (-1 : Int32))), (.ref vb)])) rfl (D d22_78)
  refine oo (S' := T4.setTop (mkF m 81 lv3 [(.ref aO), (.int (q + (-1 : Int32))), (.ref vb)])) st4 ?_
  refine oo (S' := T4.setTop (mkF m 83 lv3 [(.int (-x)), (.ref aO), (.int (q + (-1 : Int32))), (.ref vb)])) (fun _ kK => XS.iloadN X4.here hx rfl (D d22_81) rfl (XS.ineg X4.here hx rfl (D d22_82) rfl kK)) ?_
  obtain ⟨cT5, At5, zT5, Ht5⟩ := id TB1
  have At5 := At5.ext OJ.2
  refine oo (S' := T4.setTop (mkF m 84 lv3 [(.int (own_d1 (-x))), (.int (q + (-1 : Int32))), (.ref vb)])) (fun _ kK => X4.baloadBytes hx (j := (-x)) (v := .int (own_d1 (-x))) (by rw [e4]; exact At5.1) (State.isArrayOf_alike hZ.alike At5.2.1) At5.2.2 (inb_of zT5 Ep.2.1) (Ht5 _ Ep.2.1.1 Ep.2.1.2) (g := (mkF m 83 lv3 [(.int (-x)), (.ref aO), (.int (q + (-1 : Int32))), (.ref vb)])) rfl rfl (D d22_83) _ kK) ?_
  obtain ⟨cl6, Ar6, q6, S6, N6', H6, G6⟩ := id J0
  have hin7 : ¬ ((q + (-1 : Int32)) < 0 ∨ cl6.slots.size ≤ ((q + (-1 : Int32))).toNatClampNeg) := inb_of S6 ix1.1
  obtain ⟨T7, h7, X7, e7, W7, st7⟩ := stB X4 hx hZ e4 Ar6 (j := (q + (-1 : Int32))) hin7 (g := (mkF m 84 lv3 [(.int (own_d1 (-x))), (.int (q + (-1 : Int32))), (.ref vb)])) rfl rfl (D d22_84)
  have N7 := Fr.snoc X7 NJ (by omega)
  have sz8 := own_wr_le W7
  have K8 := KJ.wr W7 (Or.inl (by simp))
  have O8 := OJ.wr W7 (by omega)
  have V7 : Arv Z h7 vb kv .byte (16 : Int32) (w.set (mu - 2 * 0 - 1) (.int (nar .byte (own_d1 (-x))))) (.int 0) := Arv.set Ar6 q6 S6 N6' H6 G6 (fits_nar_byte _) W7 (mu - 2 * 0 - 1) ix1.2 (by rw [wl]; omega)
  refine oo (S' := T7.setTop (mkF m 85 lv3 [])) st7 ?_
  refine oo (S' := T7.setTop (mkF m 88 lv3 [(.int (-9 : Int32)), (.int x)])) (fun _ kK => XS.iloadN X7.here hx rfl (D d22_85) rfl (XS.bipush X7.here hx rfl (D d22_86) kK)) ?_
  rcases Decidable.em (x < (-9 : Int32)) with hc9 | hc9
  ·refine oo (S' := T7.setTop (mkF m 91 lv3 [])) (fun _ kK => XS.icmpNo X7.here hx rfl (D d22_88) rfl (tlt (hc9)).2.1 kK) ?_
   have E2 := Ep.2.2.2.1 hc9
   have e2m := E2.1
   have ix2 := own_ix (own_q2 J2 (by omega)) (by omega)
   let lv10 : Array Slot := #[vI x, vI q0, vR vb, .unset, .unset, vI ((q + (-1 : Int32)) + (-1 : Int32)), vI sgn]
   refine oo (S' := T7.setTop (mkF m 97 lv10 [(.int ((q + (-1 : Int32)) + (-1 : Int32))), (.ref vb)])) (fun _ kK => XS.aloadN X7.here hx rfl (D d22_91) rfl rfl (XS.iinc X7.here hx rfl (D d22_92) rfl (l' := lv10) rfl (XS.iload X7.here hx rfl (D d22_95) rfl kK))) ?_
   obtain ⟨T11, X11, e11, st11⟩ := getS2 X7 hx hZ hown (host := "") (Or.inl (w_ G 229 rfl)) Via.refl e7 (S2.ext O8.2) (g := (mkF m 97 lv10 [(.int ((q + (-1 : Int32)) + (-1 : Int32))), (.ref vb)])) rfl (D d22_97)
   refine oo (S' := T11.setTop (mkF m 100 lv10 [(.ref aT), (.int ((q + (-1 : Int32)) + (-1 : Int32))), (.ref vb)])) st11 ?_
   refine oo (S' := T11.setTop (mkF m 102 lv10 [(.int (-x)), (.ref aT), (.int ((q + (-1 : Int32)) + (-1 : Int32))), (.ref vb)])) (fun _ kK => XS.iloadN X11.here hx rfl (D d22_100) rfl (XS.ineg X11.here hx rfl (D d22_101) rfl kK)) ?_
   obtain ⟨cT12, At12, zT12, Ht12⟩ := id TB2
   have At12 := At12.ext O8.2
   refine oo (S' := T11.setTop (mkF m 103 lv10 [(.int (own_d2 (-x))), (.int ((q + (-1 : Int32)) + (-1 : Int32))), (.ref vb)])) (fun _ kK => X11.baloadBytes hx (j := (-x)) (v := .int (own_d2 (-x))) (by rw [e11]; exact At12.1) (State.isArrayOf_alike hZ.alike At12.2.1) At12.2.2 (inb_of zT12 Ep.2.1) (Ht12 _ Ep.2.1.1 Ep.2.1.2) (g := (mkF m 102 lv10 [(.int (-x)), (.ref aT), (.int ((q + (-1 : Int32)) + (-1 : Int32))), (.ref vb)])) rfl rfl (D d22_102) _ kK) ?_
   obtain ⟨cl13, Ar13, q13, S13, N13', H13, G13⟩ := id V7
   have hin14 : ¬ (((q + (-1 : Int32)) + (-1 : Int32)) < 0 ∨ cl13.slots.size ≤ (((q + (-1 : Int32)) + (-1 : Int32))).toNatClampNeg) := inb_of S13 ix2.1
   obtain ⟨T14, h14, X14, e14, W14, st14⟩ := stB X11 hx hZ e11 Ar13 (j := ((q + (-1 : Int32)) + (-1 : Int32))) hin14 (g := (mkF m 103 lv10 [(.int (own_d2 (-x))), (.int ((q + (-1 : Int32)) + (-1 : Int32))), (.ref vb)])) rfl rfl (D d22_103)
   have N14 := Fr.snoc X14 N7 (by omega)
   have sz15 := own_wr_le W14
   have K15 := K8.wr W14 (Or.inl (by simp))
   have V14 : Arv Z h14 vb kv .byte (16 : Int32) ((w.set (mu - 2 * 0 - 1) (.int (nar .byte (own_d1 (-x))))).set (mu - 2 * 0 - 2) (.int (nar .byte (own_d2 (-x))))) (.int 0) := Arv.set Ar13 q13 S13 N13' H13 G13 (fits_nar_byte _) W14 (mu - 2 * 0 - 2) ix2.2 (by rw [List.length_set, wl]; omega)
   refine oo (S' := T14.setTop (mkF m 104 lv10 [])) st14 ?_
   rcases J3 with hs | hs
   ·let lv16 : Array Slot := #[vI x, vI q0, vR vb, .unset, .unset, vI (((q + (-1 : Int32)) + (-1 : Int32)) + (-1 : Int32)), vI sgn]
    refine oo (S' := T14.setTop (mkF m 117 lv16 [(.int 45), (.int (((q + (-1 : Int32)) + (-1 : Int32)) + (-1 : Int32))), (.ref vb)])) (fun _ kK => XS.iload X14.here hx rfl (D d22_104) rfl (XS.ifNo X14.here hx rfl (D d22_106) rfl ((if0 _ _).trans (feq ((by rw [hs.1]; decide))).1) (XS.aloadN X14.here hx rfl (D d22_109) rfl rfl (XS.iinc X14.here hx rfl (D d22_110) rfl (l' := lv16) rfl (XS.iload X14.here hx rfl (D d22_113) rfl (XS.bipush X14.here hx rfl (D d22_115) kK)))))) ?_
    have e3m := E2.2.2 hs.2
    have ix3 := own_ix (own_q3 J2 (by omega)) (by omega)
    obtain ⟨cl17, Ar17, q17, S17, N17', H17, G17⟩ := id V14
    have hin18 : ¬ ((((q + (-1 : Int32)) + (-1 : Int32)) + (-1 : Int32)) < 0 ∨ cl17.slots.size ≤ ((((q + (-1 : Int32)) + (-1 : Int32)) + (-1 : Int32))).toNatClampNeg) := inb_of S17 ix3.1
    obtain ⟨T18, h18, X18, e18, W18, st18⟩ := stB X14 hx hZ e14 Ar17 (j := (((q + (-1 : Int32)) + (-1 : Int32)) + (-1 : Int32))) hin18 (g := (mkF m 117 lv16 [(.int 45), (.int (((q + (-1 : Int32)) + (-1 : Int32)) + (-1 : Int32))), (.ref vb)])) rfl rfl (D d22_117)
    have N18 := Fr.snoc X18 N14 (by omega)
    have sz19 := own_wr_le W18
    have K19 := K15.wr W18 (Or.inl (by simp))
    have V18 : Arv Z h18 vb kv .byte (16 : Int32) (((w.set (mu - 2 * 0 - 1) (.int (nar .byte (own_d1 (-x))))).set (mu - 2 * 0 - 2) (.int (nar .byte (own_d2 (-x))))).set (mu - 2 * 0 - 3) (.int 45)) (.int 0) := Arv.set Ar17 q17 S17 N17' H17 G17 (fits_nar_byte _) W18 (mu - 2 * 0 - 3) ix3.2 (by simp only [List.length_set]; rw [wl]; omega)
    refine oo (S' := T18.setTop (mkF m 118 lv16 [])) st18 ?_
    refine oo (S' := T18.setTop (mkF m 120 lv16 [(.int (((q + (-1 : Int32)) + (-1 : Int32)) + (-1 : Int32)))])) (fun _ kK => XS.iload X18.here hx rfl (D d22_118) rfl kK) ?_
    refine OwnEnd.ret X18 (v := (some (.int (((q + (-1 : Int32)) + (-1 : Int32)) + (-1 : Int32))))) (fun h => by rw [Bd.returns] at h; cases h) hlk (fun fs hr => retOut X18 hx Bd.returns rfl (Or.inl ⟨rfl, Or.inl rfl, _, rfl⟩) (D d22_120) hr) (by decide) (by decide) (Q := (Qgc Z P q0 vb kv vs mu) h0 n0) e18 ?_
    exact ⟨(((q + (-1 : Int32)) + (-1 : Int32)) + (-1 : Int32)), (((w.set (mu - 2 * 0 - 1) (.int (nar .byte (own_d1 (-x))))).set (mu - 2 * 0 - 2) (.int (nar .byte (own_d2 (-x))))).set (mu - 2 * 0 - 3) (.int 45)), rfl, N18, K19, V18, (own_fin2n (by decide) J1 hhi hc9 P3 Ep.2.2.1 E2.2.1 hs.2)⟩
   ·refine oo (S' := T14.setTop (mkF m 120 lv10 [(.int ((q + (-1 : Int32)) + (-1 : Int32)))])) (fun _ kK => XS.iload X14.here hx rfl (D d22_104) rfl (XS.ifYes X14.here hx rfl (pc0 := 106) (pc' := 118) rfl (D d22_106) rfl ((if0 _ _).trans (teq (hs.1)).1) (by decide) (by decide) (XS.iload X14.here hx rfl (D d22_118) rfl kK))) ?_
    refine OwnEnd.ret X14 (v := (some (.int ((q + (-1 : Int32)) + (-1 : Int32))))) (fun h => by rw [Bd.returns] at h; cases h) hlk (fun fs hr => retOut X14 hx Bd.returns rfl (Or.inl ⟨rfl, Or.inl rfl, _, rfl⟩) (D d22_120) hr) (by decide) (by decide) (Q := (Qgc Z P q0 vb kv vs mu) h0 n0) e14 ?_
    exact ⟨((q + (-1 : Int32)) + (-1 : Int32)), ((w.set (mu - 2 * 0 - 1) (.int (nar .byte (own_d1 (-x))))).set (mu - 2 * 0 - 2) (.int (nar .byte (own_d2 (-x))))), rfl, N14, K15, V14, (own_fin2 (by decide) J1 hhi hc9 P3 Ep.2.2.1 E2.2.1 hs.2)⟩
  ·refine oo (S' := T7.setTop (mkF m 104 lv3 [])) (fun _ kK => XS.icmpYes X7.here hx rfl (pc0 := 88) (pc' := 104) rfl (D d22_88) rfl (flt (hc9)).2.1 (by decide) (by decide) kK) ?_
   rcases J3 with hs | hs
   ·let lv20 : Array Slot := #[vI x, vI q0, vR vb, .unset, .unset, vI ((q + (-1 : Int32)) + (-1 : Int32)), vI sgn]
    refine oo (S' := T7.setTop (mkF m 117 lv20 [(.int 45), (.int ((q + (-1 : Int32)) + (-1 : Int32))), (.ref vb)])) (fun _ kK => XS.iload X7.here hx rfl (D d22_104) rfl (XS.ifNo X7.here hx rfl (D d22_106) rfl ((if0 _ _).trans (feq ((by rw [hs.1]; decide))).1) (XS.aloadN X7.here hx rfl (D d22_109) rfl rfl (XS.iinc X7.here hx rfl (D d22_110) rfl (l' := lv20) rfl (XS.iload X7.here hx rfl (D d22_113) rfl (XS.bipush X7.here hx rfl (D d22_115) kK)))))) ?_
    have e3m := Ep.2.2.2.2 hc9 hs.2
    have ix3 := own_ix (own_q2 J2 (by omega)) (by omega)
    obtain ⟨cl21, Ar21, q21, S21, N21', H21, G21⟩ := id V7
    have hin22 : ¬ (((q + (-1 : Int32)) + (-1 : Int32)) < 0 ∨ cl21.slots.size ≤ (((q + (-1 : Int32)) + (-1 : Int32))).toNatClampNeg) := inb_of S21 ix3.1
    obtain ⟨T22, h22, X22, e22, W22, st22⟩ := stB X7 hx hZ e7 Ar21 (j := ((q + (-1 : Int32)) + (-1 : Int32))) hin22 (g := (mkF m 117 lv20 [(.int 45), (.int ((q + (-1 : Int32)) + (-1 : Int32))), (.ref vb)])) rfl rfl (D d22_117)
    have N22 := Fr.snoc X22 N7 (by omega)
    have sz23 := own_wr_le W22
    have K23 := K8.wr W22 (Or.inl (by simp))
    have V22 : Arv Z h22 vb kv .byte (16 : Int32) ((w.set (mu - 2 * 0 - 1) (.int (nar .byte (own_d1 (-x))))).set (mu - 2 * 0 - 2) (.int 45)) (.int 0) := Arv.set Ar21 q21 S21 N21' H21 G21 (fits_nar_byte _) W22 (mu - 2 * 0 - 2) ix3.2 (by simp only [List.length_set]; rw [wl]; omega)
    refine oo (S' := T22.setTop (mkF m 118 lv20 [])) st22 ?_
    refine oo (S' := T22.setTop (mkF m 120 lv20 [(.int ((q + (-1 : Int32)) + (-1 : Int32)))])) (fun _ kK => XS.iload X22.here hx rfl (D d22_118) rfl kK) ?_
    refine OwnEnd.ret X22 (v := (some (.int ((q + (-1 : Int32)) + (-1 : Int32))))) (fun h => by rw [Bd.returns] at h; cases h) hlk (fun fs hr => retOut X22 hx Bd.returns rfl (Or.inl ⟨rfl, Or.inl rfl, _, rfl⟩) (D d22_120) hr) (by decide) (by decide) (Q := (Qgc Z P q0 vb kv vs mu) h0 n0) e22 ?_
    exact ⟨((q + (-1 : Int32)) + (-1 : Int32)), ((w.set (mu - 2 * 0 - 1) (.int (nar .byte (own_d1 (-x))))).set (mu - 2 * 0 - 2) (.int 45)), rfl, N22, K23, V22, (own_fin1n (by decide) J1 hc9 P3 Ep.2.2.1 hs.2)⟩
   ·refine oo (S' := T7.setTop (mkF m 120 lv3 [(.int (q + (-1 : Int32)))])) (fun _ kK => XS.iload X7.here hx rfl (D d22_104) rfl (XS.ifYes X7.here hx rfl (pc0 := 106) (pc' := 118) rfl (D d22_106) rfl ((if0 _ _).trans (teq (hs.1)).1) (by decide) (by decide) (XS.iload X7.here hx rfl (D d22_118) rfl kK))) ?_
    refine OwnEnd.ret X7 (v := (some (.int (q + (-1 : Int32))))) (fun h => by rw [Bd.returns] at h; cases h) hlk (fun fs hr => retOut X7 hx Bd.returns rfl (Or.inl ⟨rfl, Or.inl rfl, _, rfl⟩) (D d22_120) hr) (by decide) (by decide) (Q := (Qgc Z P q0 vb kv vs mu) h0 n0) e7 ?_
    exact ⟨(q + (-1 : Int32)), (w.set (mu - 2 * 0 - 1) (.int (nar .byte (own_d1 (-x))))), rfl, N7, K8, V7, (own_fin1 (by decide) J1 hc9 P3 Ep.2.2.1 hs.2)⟩
 ·refine oo (S' := TJ.setTop (mkF m 28 lv1 [])) (fun _ kK => XS.icmpNo XJ.here hx rfl (D d22_25) rfl (flt (hc2)).2.2.1 kK) ?_
  have hlo := hc2
  have Lp := own_lp (by decide) J1 hlo P3
  have lpm := Lp.1
  have wl := J1.2.1
  have ix1 := own_ix (own_q1 J2 (by omega)) (by omega)
  have ix2 := own_ix (own_q2 J2 (by omega)) (by omega)
  let lv24 : Array Slot := #[vI x, vI q0, vR vb, vI (x / (100 : Int32)), .unset, vI q, vI sgn]
  let lv25 : Array Slot := #[vI x, vI q0, vR vb, vI (x / (100 : Int32)), vI (((x / (100 : Int32)) * (100 : Int32)) - x), vI q, vI sgn]
  let lv26 : Array Slot := #[vI (x / (100 : Int32)), vI q0, vR vb, vI (x / (100 : Int32)), vI (((x / (100 : Int32)) * (100 : Int32)) - x), vI q, vI sgn]
  let lv27 : Array Slot := #[vI (x / (100 : Int32)), vI q0, vR vb, vI (x / (100 : Int32)), vI (((x / (100 : Int32)) * (100 : Int32)) - x), vI (q + (-1 : Int32)), vI sgn]
  refine oo (S' := TJ.setTop (mkF m 49 lv27 [(.int (q + (-1 : Int32))), (.ref vb)])) (fun _ kK => XS.iloadN XJ.here hx rfl (D d22_28) rfl (XS.bipush XJ.here hx rfl (D d22_29) (XS.idiv XJ.here hx rfl (D d22_31) rfl (by decide) (XS.istoreN XJ.here hx rfl (D d22_32) rfl (l' := lv24) rfl (XS.iloadN XJ.here hx rfl (D d22_33) rfl (XS.bipush XJ.here hx rfl (D d22_34) (XS.imul XJ.here hx rfl (D d22_36) rfl (XS.iloadN XJ.here hx rfl (D d22_37) rfl (XS.isub XJ.here hx rfl (D d22_38) rfl (XS.istore XJ.here hx rfl (D d22_39) rfl (l' := lv25) rfl (XS.iloadN XJ.here hx rfl (D d22_41) rfl (XS.istoreN XJ.here hx rfl (D d22_42) rfl (l' := lv26) rfl (XS.aloadN XJ.here hx rfl (D d22_43) rfl rfl (XS.iinc XJ.here hx rfl (D d22_44) rfl (l' := lv27) rfl (XS.iload XJ.here hx rfl (D d22_47) rfl kK))))))))))))))) ?_
  obtain ⟨T28, X28, e28, st28⟩ := getS2 XJ hx hZ hown (host := "") (Or.inl (w_ G 131 rfl)) Via.refl eJ (S1.ext OJ.2) (g := (mkF m 49 lv27 [(.int (q + (-1 : Int32))), (.ref vb)])) rfl (D d22_49)
  refine oo (S' := T28.setTop (mkF m 52 lv27 [(.ref aO), (.int (q + (-1 : Int32))), (.ref vb)])) st28 ?_
  refine oo (S' := T28.setTop (mkF m 54 lv27 [(.int (((x / (100 : Int32)) * (100 : Int32)) - x)), (.ref aO), (.int (q + (-1 : Int32))), (.ref vb)])) (fun _ kK => XS.iload X28.here hx rfl (D d22_52) rfl kK) ?_
  obtain ⟨cT29, At29, zT29, Ht29⟩ := id TB1
  have At29 := At29.ext OJ.2
  refine oo (S' := T28.setTop (mkF m 55 lv27 [(.int (own_d1 (((x / (100 : Int32)) * (100 : Int32)) - x))), (.int (q + (-1 : Int32))), (.ref vb)])) (fun _ kK => X28.baloadBytes hx (j := (((x / (100 : Int32)) * (100 : Int32)) - x)) (v := .int (own_d1 (((x / (100 : Int32)) * (100 : Int32)) - x))) (by rw [e28]; exact At29.1) (State.isArrayOf_alike hZ.alike At29.2.1) At29.2.2 (inb_of zT29 Lp.2.1) (Ht29 _ Lp.2.1.1 Lp.2.1.2) (g := (mkF m 54 lv27 [(.int (((x / (100 : Int32)) * (100 : Int32)) - x)), (.ref aO), (.int (q + (-1 : Int32))), (.ref vb)])) rfl rfl (D d22_54) _ kK) ?_
  obtain ⟨cl30, Ar30, q30, S30, N30', H30, G30⟩ := id J0
  have hin31 : ¬ ((q + (-1 : Int32)) < 0 ∨ cl30.slots.size ≤ ((q + (-1 : Int32))).toNatClampNeg) := inb_of S30 ix1.1
  obtain ⟨T31, h31, X31, e31, W31, st31⟩ := stB X28 hx hZ e28 Ar30 (j := (q + (-1 : Int32))) hin31 (g := (mkF m 55 lv27 [(.int (own_d1 (((x / (100 : Int32)) * (100 : Int32)) - x))), (.int (q + (-1 : Int32))), (.ref vb)])) rfl rfl (D d22_55)
  have N31 := Fr.snoc X31 NJ (by omega)
  have sz32 := own_wr_le W31
  have K32 := KJ.wr W31 (Or.inl (by simp))
  have O32 := OJ.wr W31 (by omega)
  have V31 : Arv Z h31 vb kv .byte (16 : Int32) (w.set (mu - 2 * 0 - 1) (.int (nar .byte (own_d1 (((x / (100 : Int32)) * (100 : Int32)) - x))))) (.int 0) := Arv.set Ar30 q30 S30 N30' H30 G30 (fits_nar_byte _) W31 (mu - 2 * 0 - 1) ix1.2 (by rw [wl]; omega)
  refine oo (S' := T31.setTop (mkF m 56 lv27 [])) st31 ?_
  let lv33 : Array Slot := #[vI (x / (100 : Int32)), vI q0, vR vb, vI (x / (100 : Int32)), vI (((x / (100 : Int32)) * (100 : Int32)) - x), vI ((q + (-1 : Int32)) + (-1 : Int32)), vI sgn]
  refine oo (S' := T31.setTop (mkF m 62 lv33 [(.int ((q + (-1 : Int32)) + (-1 : Int32))), (.ref vb)])) (fun _ kK => XS.aloadN X31.here hx rfl (D d22_56) rfl rfl (XS.iinc X31.here hx rfl (D d22_57) rfl (l' := lv33) rfl (XS.iload X31.here hx rfl (D d22_60) rfl kK))) ?_
  obtain ⟨T34, X34, e34, st34⟩ := getS2 X31 hx hZ hown (host := "") (Or.inl (w_ G 229 rfl)) Via.refl e31 (S2.ext O32.2) (g := (mkF m 62 lv33 [(.int ((q + (-1 : Int32)) + (-1 : Int32))), (.ref vb)])) rfl (D d22_62)
  refine oo (S' := T34.setTop (mkF m 65 lv33 [(.ref aT), (.int ((q + (-1 : Int32)) + (-1 : Int32))), (.ref vb)])) st34 ?_
  refine oo (S' := T34.setTop (mkF m 67 lv33 [(.int (((x / (100 : Int32)) * (100 : Int32)) - x)), (.ref aT), (.int ((q + (-1 : Int32)) + (-1 : Int32))), (.ref vb)])) (fun _ kK => XS.iload X34.here hx rfl (D d22_65) rfl kK) ?_
  obtain ⟨cT35, At35, zT35, Ht35⟩ := id TB2
  have At35 := At35.ext O32.2
  refine oo (S' := T34.setTop (mkF m 68 lv33 [(.int (own_d2 (((x / (100 : Int32)) * (100 : Int32)) - x))), (.int ((q + (-1 : Int32)) + (-1 : Int32))), (.ref vb)])) (fun _ kK => X34.baloadBytes hx (j := (((x / (100 : Int32)) * (100 : Int32)) - x)) (v := .int (own_d2 (((x / (100 : Int32)) * (100 : Int32)) - x))) (by rw [e34]; exact At35.1) (State.isArrayOf_alike hZ.alike At35.2.1) At35.2.2 (inb_of zT35 Lp.2.1) (Ht35 _ Lp.2.1.1 Lp.2.1.2) (g := (mkF m 67 lv33 [(.int (((x / (100 : Int32)) * (100 : Int32)) - x)), (.ref aT), (.int ((q + (-1 : Int32)) + (-1 : Int32))), (.ref vb)])) rfl rfl (D d22_67) _ kK) ?_
  obtain ⟨cl36, Ar36, q36, S36, N36', H36, G36⟩ := id V31
  have hin37 : ¬ (((q + (-1 : Int32)) + (-1 : Int32)) < 0 ∨ cl36.slots.size ≤ (((q + (-1 : Int32)) + (-1 : Int32))).toNatClampNeg) := inb_of S36 ix2.1
  obtain ⟨T37, h37, X37, e37, W37, st37⟩ := stB X34 hx hZ e34 Ar36 (j := ((q + (-1 : Int32)) + (-1 : Int32))) hin37 (g := (mkF m 68 lv33 [(.int (own_d2 (((x / (100 : Int32)) * (100 : Int32)) - x))), (.int ((q + (-1 : Int32)) + (-1 : Int32))), (.ref vb)])) rfl rfl (D d22_68)
  have N37 := Fr.snoc X37 N31 (by omega)
  have sz38 := own_wr_le W37
  have K38 := K32.wr W37 (Or.inl (by simp))
  have O38 := O32.wr W37 (by omega)
  have V37 : Arv Z h37 vb kv .byte (16 : Int32) ((w.set (mu - 2 * 0 - 1) (.int (nar .byte (own_d1 (((x / (100 : Int32)) * (100 : Int32)) - x))))).set (mu - 2 * 0 - 2) (.int (nar .byte (own_d2 (((x / (100 : Int32)) * (100 : Int32)) - x))))) (.int 0) := Arv.set Ar36 q36 S36 N36' H36 G36 (fits_nar_byte _) W37 (mu - 2 * 0 - 2) ix2.2 (by rw [List.length_set, wl]; omega)
  refine oo (S' := T37.setTop (mkF m 69 lv33 [])) st37 ?_
  refine oo (S' := T37.setTop (mkF m 22 lv33 [])) (fun _ kK => XS.goto X37.here hx rfl (pc0 := 69) (pc' := 22) rfl (D d22_69) (by decide) (by decide) kK) ?_
  exact sfg1 l Z a0 G P q0 vb kv vs mu h0 n0 O0 P1 P2 P3 P4 P5 Bd hml0 hZ (X37.more (by decide) (by decide)) h37 e37 K38 O38 N37 (by omega) (x / (100 : Int32)) ((q + (-1 : Int32)) + (-1 : Int32)) ((w.set (mu - 2 * 0 - 1) (.int (nar .byte (own_d1 (((x / (100 : Int32)) * (100 : Int32)) - x))))).set (mu - 2 * 0 - 2) (.int (nar .byte (own_d2 (((x / (100 : Int32)) * (100 : Int32)) - x))))) sgn (((x / (100 : Int32)) * (100 : Int32)) - x) V37 (own_inv1 (by decide) J1 hlo (by omega) Lp.2.2.1 Lp.2.2.2) (own_qn J2 (by omega)) (J3)

theorem own_efgc (m : MethodId) (P : Int32) (q0 : Int32) (vb : Addr) : entryFrame m #[(.int P), (.int q0), (.ref vb)] 7 = mkF m 0 #[vI P, vI q0, vR vb, .unset, .unset, .unset, .unset] [] := by first | (simp [entryFrame, mkF, argsToLocals, Value.category]; done) | rfl
set_option maxRecDepth 65536 in
set_option maxHeartbeats 40000000 in
theorem rmgc (l : Launch) (Z : State) (a0 : Array Value) (G : OwnG Z a0) (ws : List Jvm.Cond) (P : Int32) (q0 : Int32) (vb : Addr) (kv : ClassId) (vs : List Value) (mu : Nat) (h0 : Heap) (n0 : Nat) (O0 : Old Z n0 h0) (P0 : Arv Z h0 vb kv .byte (16 : Int32) vs (.int 0)) (P1 : n0 ≤ vb) (P2 : vs.length = 16) (P3 : own_nd (own_n P) + own_sg P ≤ mu) (P4 : mu ≤ 16) (P5 : q0 = Int32.ofNat mu) :
  MetFree l own_m22 (head1 (Jvm.Cond.code own_m22 B28 7 (some .int) :: ws) (rR 0 0 0 0)) (fun a U => a = #[(.int P), (.int q0), (.ref vb)] ∧ Z.Warmed39 U.vm ∧ U.heap = h0) (fun _ _ _ _ _ => True) (fun _ U o U' => ∃ v L, o = .returned v ∧ (Qgc Z P q0 vb kv vs mu) h0 n0 v U'.heap L ∧ FrameEnd U o U' L (rR 0 0 0 0).cells (rR 0 0 0 0).slots) := by
 refine MetFree.of_bodySF (plainFor_of_name pn_5) hisR ?_
 intro p e s m args below meth cD s₁ Bd hml0 hP hK
 obtain ⟨rfl, hZ, hh⟩ := hP
 have hml : cD.maxLocals = 7 := hml0
 obtain ⟨hx, hby, (hown : s.vm.findClass j5 = some m.cls), hlk, X0, e0⟩ := own_st Bd hh
 have D := @hb _ _ hby
 have lt0 := lN P0.lt
 have K0 : Keep h0 h0 [vb] := Keep.refl h0 _
 have Z0 := own_old_le O0
 have N0 := Fr.nil n0
 let lv1 : Array Slot := #[vI P, vI q0, vR vb, .unset, .unset, .unset, .unset]
 refine OwnEnd.start (g' := (mkF m 0 lv1 [])) (own_efgc m P q0 vb) ?_
 let lv2 : Array Slot := #[vI P, vI q0, vR vb, .unset, .unset, vI q0, .unset]
 refine oo (S' := s₁.setTop (mkF m 4 lv2 [(.int P)])) (fun _ kK => XS.iloadN X0.here hx rfl (D d22_0) rfl (XS.istore X0.here hx rfl (D d22_1) rfl (l' := lv2) rfl (XS.iloadN X0.here hx rfl (D d22_3) rfl kK))) ?_
 rcases Decidable.em (P < (0 : Int32)) with hc3 | hc3
 ·let lv4 : Array Slot := #[vI P, vI q0, vR vb, .unset, .unset, vI q0, vI 1]
  refine oo (S' := s₁.setTop (mkF m 22 lv4 [])) (fun _ kK => XS.ifNo X0.here hx rfl (D d22_4) rfl ((if0 _ _).trans (tlt (hc3)).2.1) (XS.iconst X0.here hx rfl (D d22_7) (XS.goto X0.here hx rfl (pc0 := 8) (pc' := 12) rfl (D d22_8) (by decide) (by decide) (XS.istore X0.here hx rfl (D d22_12) rfl (l' := lv4) rfl (XS.iload X0.here hx rfl (D d22_14) rfl (XS.ifYes X0.here hx rfl (pc0 := 16) (pc' := 22) rfl (D d22_16) rfl ((if0 _ _).trans (feq ((by decide : ¬ ((1 : Int32) = (0 : Int32))))).2) (by decide) (by decide) kK)))))) ?_
  exact sfg0 l Z a0 G P q0 vb kv vs mu h0 n0 O0 P1 P2 P3 P4 P5 Bd hml0 hZ (X0.more (by decide) (by decide)) h0 e0 K0 O0 N0 (by omega) P q0 vs (1 : Int32) P0 (own_inv0 (own_x_neg hc3) P2 P4) (P5) (Or.inl ⟨rfl, hc3⟩)
 ·let lv5 : Array Slot := #[vI P, vI q0, vR vb, .unset, .unset, vI q0, vI 0]
  let lv6 : Array Slot := #[vI (-P), vI q0, vR vb, .unset, .unset, vI q0, vI 0]
  refine oo (S' := s₁.setTop (mkF m 22 lv6 [])) (fun _ kK => XS.ifYes X0.here hx rfl (pc0 := 4) (pc' := 11) rfl (D d22_4) rfl ((if0 _ _).trans (flt (hc3)).2.1) (by decide) (by decide) (XS.iconst X0.here hx rfl (D d22_11) (XS.istore X0.here hx rfl (D d22_12) rfl (l' := lv5) rfl (XS.iload X0.here hx rfl (D d22_14) rfl (XS.ifNo X0.here hx rfl (D d22_16) rfl ((if0 _ _).trans (teq ((by decide : (0 : Int32) = (0 : Int32)))).2) (XS.iloadN X0.here hx rfl (D d22_19) rfl (XS.ineg X0.here hx rfl (D d22_20) rfl (XS.istoreN X0.here hx rfl (D d22_21) rfl (l' := lv6) rfl kK)))))))) ?_
  exact sfg0 l Z a0 G P q0 vb kv vs mu h0 n0 O0 P1 P2 P3 P4 P5 Bd hml0 hZ (X0.more (by decide) (by decide)) h0 e0 K0 O0 N0 (by omega) (-P) q0 vs (0 : Int32) P0 (own_inv0 (own_x_pos hc3) P2 P4) (P5) (Or.inr ⟨rfl, hc3⟩)

theorem own_efai (m : MethodId) (sb : Addr) (P : Int32) : entryFrame m #[(.ref sb), (.int P)] 4 = mkF m 0 #[vR sb, vI P, .unset, .unset] [] := by first | (simp [entryFrame, mkF, argsToLocals, Value.category]; done) | rfl
def Qai (Z : State) (sb : Addr) (vb : Addr) (kv : ClassId) (P : Int32) (cn : Int32) (vs0 : List Value) (cu : Nat) (h0 : Heap) (n0 : Nat) (v : Option Value) (h : Heap) (L : List Loc) : Prop := ∃ (w : List Value), v = some (.ref sb) ∧ Fr n0 L ∧ Keep h0 h [sb, vb] ∧ (Exa Z h sb j2) ∧ (Fld Z h sb j0 "value" "[B" (.ref vb)) ∧ (Fld Z h sb j0 "coder" "B" (.int 0)) ∧ (Fld Z h sb j0 "count" "I" (.int (cn + (own_ssz P)))) ∧ (Arv Z h vb kv .byte (16 : Int32) w (.int 0)) ∧ (own_ok P (cu + (own_nd (own_n P) + own_sg P)) vs0 w)
set_option maxRecDepth 65536 in
set_option maxHeartbeats 40000000 in
theorem rmai (l : Launch) (Z : State) (a0 : Array Value) (G : OwnG Z a0) (ws : List Jvm.Cond) (sb : Addr) (vb : Addr) (kv : ClassId) (P : Int32) (cn : Int32) (vs0 : List Value) (cu : Nat) (h0 : Heap) (n0 : Nat) (O0 : Old Z n0 h0) (P0 : Exa Z h0 sb j2) (P1 : Fld Z h0 sb j0 "value" "[B" (.ref vb)) (P2 : Fld Z h0 sb j0 "coder" "B" (.int 0)) (P3 : Fld Z h0 sb j0 "count" "I" (.int cn)) (P4 : Arv Z h0 vb kv .byte (16 : Int32) vs0 (.int 0)) (P5 : n0 ≤ sb) (P6 : n0 ≤ vb) (P7 : sb ≠ vb) (P8 : vs0.length = 16) (P9 : cn = Int32.ofNat cu) (P10 : cu ≤ 4) :
  MetFree l own_m23 (head1 (Jvm.Cond.code own_m23 B29 4 (some (.object j0)) :: ws) (rR 1 0 0 18)) (fun a U => a = #[(.ref sb), (.int P)] ∧ Z.Warmed39 U.vm ∧ U.heap = h0) (fun _ _ _ _ _ => True) (fun _ U o U' => ∃ v L, o = .returned v ∧ Qai Z sb vb kv P cn vs0 cu h0 n0 v U'.heap L ∧ FrameEnd U o U' L (rR 1 0 0 18).cells (rR 1 0 0 18).slots) := by
 refine MetFree.of_bodySF (plainFor_of_name pn_3) hisR ?_
 intro p e s m args below meth cD s₁ Bd hml0 hP hK
 obtain ⟨rfl, hZ, hh⟩ := hP
 have hml : cD.maxLocals = 4 := hml0
 obtain ⟨hx, hby, (hown : s.vm.findClass j0 = some m.cls), hlk, X0, e0⟩ := own_st Bd hh
 have D := @hb _ _ hby
 have lt0 := lN P0.lt
 have lt1 := lN P1.lt
 have lt2 := lN P2.lt
 have lt3 := lN P3.lt
 have lt4 := lN P4.lt
 have nP7 := own_neN P7
 have K0 : Keep h0 h0 [sb, vb] := Keep.refl h0 _
 have Z0 := own_old_le O0
 have N0 := Fr.nil n0
 refine OwnEnd.start (g' := (mkF m 0 #[vR sb, vI P, .unset, .unset] [])) (own_efai m sb P) ?_
 refine oo (S' := s₁.setTop (mkF m 1 #[vR sb, vI P, .unset, .unset] [(.ref sb)])) (fun _ kK => XS.aloadN X0.here hx rfl (D d23_0) rfl rfl kK) ?_
 obtain ⟨T1, X1, e1, st1⟩ := getF X0 hx hZ hown (host := "") (Or.inl (w_ G 82 rfl)) Via.refl e0 P3 (g := (mkF m 1 #[vR sb, vI P, .unset, .unset] [(.ref sb)])) rfl rfl (D d23_1)
 refine oo (S' := T1.setTop (mkF m 4 #[vR sb, vI P, .unset, .unset] [(.int cn)])) st1 ?_
 refine oo (S' := T1.setTop (mkF m 7 #[vR sb, vI P, vI cn, .unset] [(.int P), (.int cn)])) (fun _ kK => XS.istoreN X1.here hx rfl (D d23_4) rfl (l' := #[vR sb, vI P, vI cn, .unset]) rfl (XS.iloadN X1.here hx rfl (D d23_5) rfl (XS.iloadN X1.here hx rfl (D d23_6) rfl kK))) ?_
 obtain ⟨_, _, ⟨T2, L2, k2, n2⟩, -, X2, ⟨Lc2, hQ2, l2, y2, z2⟩, st2⟩ := Jvm.LawKit.callS X1 hx (y := own_m21) hown (mw hZ G 119 rfl) (mw hZ G 120 rfl) (mw hZ G 121 rfl) (mw hZ G 122 rfl) (by decide) (backOf (W := 1) (rmss l Z a0 G [] P h0 n0 O0 ) hZ (w_ G 122 rfl) (w_ G 121 rfl) (by decide) (by decide)) (g := (mkF m 7 #[vR sb, vI P, vI cn, .unset] [(.int P), (.int cn)])) rfl (by rw [hml]; rfl) (argsL := [(.int P)]) (rest := [(.int cn)]) (lenOf pd_12 rfl) rfl (own_z rfl) (D d23_7) (fun _ _ => ⟨rfl, e1, (ol rfl), (ol rfl)⟩)
 dsimp only [Pt.U, Pt.locs, Pt.cells, Pt.slots] at X2 l2 y2 z2 st2 hQ2
 subst l2 y2 z2
 obtain ⟨rfl, N2q, eh2⟩ := hQ2
 have N2 := Fr.app N0 N2q
 refine oo (S' := T2.setTop (mkF m 10 #[vR sb, vI P, vI cn, .unset] [(.int (own_ssz P)), (.int cn)])) st2 ?_
 let lv3 : Array Slot := #[vR sb, vI P, vI cn, vI (cn + (own_ssz P))]
 refine oo (S' := T2.setTop (mkF m 14 lv3 [(.int (cn + (own_ssz P))), (.ref sb)])) (fun _ kK => XS.iadd X2.here hx rfl (D d23_10) rfl (XS.istoreN X2.here hx rfl (D d23_11) rfl (l' := lv3) rfl (XS.aloadN X2.here hx rfl (D d23_12) rfl rfl (XS.iloadN X2.here hx rfl (D d23_13) rfl kK)))) ?_
 obtain ⟨cq4, kq4, q4a, q4b, cc4, q4d, -, q4e⟩ := isOf hZ eh2 P0
 obtain ⟨_, _, ⟨T4, L4, k4, n4⟩, -, X4, ⟨Lc4, hQ4, l4, y4, z4⟩, st4⟩ := X2.privateBack hx (y := own_m12) hown (mw hZ G 84 rfl) (mw hZ G 85 rfl) (own_selP (oI (mw hZ G 87 rfl) rfl) (mw hZ G 85 rfl) (Cond.privateMethod_at (args := #[]) (mw hZ G 86 rfl)) (by decide)) (Cond.privateMethod_at (args := #[]) (mw hZ G 86 rfl)) (mw hZ G 88 rfl) (by decide) (backOf (W := 0) (rmec l Z a0 G [] sb vb kv vs0 (cn + (own_ssz P)) h0 n0 O0 P1 P2 P4 (own_ecpG P P9 P10)) hZ (w_ G 88 rfl) (w_ G 53 rfl) (by decide) (by decide)) (g := (mkF m 14 lv3 [(.int (cn + (own_ssz P))), (.ref sb)])) rfl (by rw [hml]; rfl) (Steps.refl _) q4d (own_nost q4e) (argsL := [(.int (cn + (own_ssz P)))]) (rest := []) (lenOf pd_6 rfl) rfl (own_z rfl) (D d23_14) (fun _ _ => ⟨rfl, eh2, (ol rfl), (ol rfl)⟩)
 dsimp only [Pt.U, Pt.locs, Pt.cells, Pt.slots] at X4 l4 y4 z4 st4 hQ4
 subst l4 y4 z4
 obtain ⟨rfl, N4q, eh4⟩ := hQ4
 have N4 := Fr.app N2 N4q
 refine ot (S' := T4.setTop (mkF m 17 lv3 [])) st4 ?_
 refine oo (S' := T4.setTop (mkF m 18 lv3 [(.ref sb)])) (fun _ kK => XS.aloadN X4.here hx rfl (D d23_17) rfl rfl kK) ?_
 obtain ⟨cq5, kq5, q5a, q5b, q5c⟩ := isOf hZ eh4 P0
 obtain ⟨_, _, ⟨T5, L5, k5, n5⟩, -, X5, ⟨Lc5, hQ5, l5, y5, z5⟩, st5⟩ := X4.virtualBack hx (y := own_m9) (z := own_m9) hown (mw hZ G 123 rfl) (mw hZ G 124 rfl) (notFace_of_selects (args := #[]) (mw hZ G 126 rfl)) (mw hZ G 126 rfl) (mw hZ G 125 rfl) (by decide) (backOf (W := 0) (rmasl l Z a0 G [] sb h0 n0 O0 P2) hZ (w_ G 127 rfl) (w_ G 53 rfl) (by decide) (by decide)) q5a q5c (g := (mkF m 18 lv3 [(.ref sb)])) rfl (by rw [hml]; rfl) (Steps.refl _) (argsL := []) (rest := []) (lenOf pd_4 rfl) rfl (own_z rfl) (D d23_18) (fun _ _ => ⟨rfl, eh4, (ol rfl), (ol rfl)⟩)
 dsimp only [Pt.U, Pt.locs, Pt.cells, Pt.slots] at X5 l5 y5 z5 st5 hQ5
 subst l5 y5 z5
 obtain ⟨rfl, N5q, eh5⟩ := hQ5
 have N5 := Fr.app N4 N5q
 refine ot (S' := T5.setTop (mkF m 21 lv3 [(.int 1)])) st5 ?_
 refine oo (S' := T5.setTop (mkF m 27 lv3 [(.ref sb), (.int (cn + (own_ssz P))), (.int P)])) (fun _ kK => XS.ifNo X5.here hx rfl (D d23_21) rfl ((if0 _ _).trans (feq ((by decide : ¬ ((1 : Int32) = (0 : Int32))))).1) (XS.iloadN X5.here hx rfl (D d23_24) rfl (XS.iloadN X5.here hx rfl (D d23_25) rfl (XS.aloadN X5.here hx rfl (D d23_26) rfl rfl kK)))) ?_
 obtain ⟨T6, X6, e6, st6⟩ := getF X5 hx hZ hown (host := "") (Or.inl (w_ G 57 rfl)) Via.refl eh5 P1 (g := (mkF m 27 lv3 [(.ref sb), (.int (cn + (own_ssz P))), (.int P)])) rfl rfl (D d23_27)
 refine oo (S' := T6.setTop (mkF m 30 lv3 [(.ref vb), (.int (cn + (own_ssz P))), (.int P)])) st6 ?_
 obtain ⟨_, _, ⟨T7, L7, k7, n7⟩, -, X7, ⟨Lc7, hQ7, l7, y7, z7⟩, st7⟩ := Jvm.LawKit.callS X6 hx (y := own_m22) hown (mw hZ G 128 rfl) (mw hZ G 129 rfl) (mw hZ G 121 rfl) (mw hZ G 130 rfl) (by decide) (backOf (W := 0) (rmgc l Z a0 G [] P (cn + (own_ssz P)) vb kv vs0 (cu + (own_nd (own_n P) + own_sg P)) h0 n0 O0 P4 (by omega) P8 (Nat.le_add_left _ _) (own_le16 P P10) (own_ctG P P9)) hZ (w_ G 130 rfl) (w_ G 121 rfl) (by decide) (by decide)) (g := (mkF m 30 lv3 [(.ref vb), (.int (cn + (own_ssz P))), (.int P)])) rfl (by rw [hml]; rfl) (argsL := [(.int P), (.int (cn + (own_ssz P))), (.ref vb)]) (rest := []) (lenOf pd_13 rfl) rfl (own_z rfl) (D d23_30) (fun _ _ => ⟨rfl, e6, (ol rfl), (ol rfl)⟩)
 dsimp only [Pt.U, Pt.locs, Pt.cells, Pt.slots] at X7 l7 y7 z7 st7 hQ7
 subst l7 y7 z7
 obtain ⟨rv_7, w_7, rfl, N7q, Kq7, r7_0, r7_1⟩ := hQ7
 have N7 := Fr.app N5 N7q
 have sz8 := Kq7.1
 have K8 := K0.trans Kq7 (own_all1 (Or.inl (by simp)))
 have ltr7_0 := lN r7_0.lt
 refine oo (S' := T7.setTop (mkF m 33 lv3 [(.int rv_7)])) st7 ?_
 refine oo (S' := T7.setTop (mkF m 50 lv3 [(.int (cn + (own_ssz P))), (.ref sb)])) (fun _ kK => XS.pop X7.here hx rfl (D d23_33) rfl rfl (XS.goto X7.here hx rfl (pc0 := 34) (pc' := 48) rfl (D d23_34) (by decide) (by decide) (XS.aloadN X7.here hx rfl (D d23_48) rfl rfl (XS.iloadN X7.here hx rfl (D d23_49) rfl kK)))) ?_
 have f10 := (P3.keep Kq7 (own_nin1 (on (by omega))))
 have f11 := (P0.keep Kq7)
 obtain ⟨T9, h9, X9, e9, W9, st9⟩ := putF X7 hx hZ hown (host := "") (Or.inl (w_ G 82 rfl)) Via.refl rfl f10 f11 (Or.inl (w_ G 83 rfl)) (w_ G 44 rfl) (ty := .int) (by decide) rfl rfl (g := (mkF m 50 lv3 [(.int (cn + (own_ssz P))), (.ref sb)])) rfl rfl (D d23_50)
 have Fw9 := f10.same W9
 have N9 := Fr.snoc X9 N7 (by omega)
 have sz12 := own_wr_le W9
 have K12 := K8.wr W9 (Or.inl (by simp))
 refine oo (S' := T9.setTop (mkF m 53 lv3 [])) st9 ?_
 refine oo (S' := T9.setTop (mkF m 54 lv3 [(.ref sb)])) (fun _ kK => XS.aloadN X9.here hx rfl (D d23_53) rfl rfl kK) ?_
 have f13 := (f11.wr W9)
 have f14 := ((P1.keep Kq7 (own_nin1 (on (by omega)))).other W9 (Or.inr (slot_ne (Or.inl (w_ G 58 rfl)) (Or.inl (w_ G 83 rfl)) (by decide) (t := (.array .byte)) (t' := .int) (by decide) (by decide))))
 have f15 := ((P2.keep Kq7 (own_nin1 (on (by omega)))).other W9 (Or.inr (slot_ne (Or.inl (w_ G 60 rfl)) (Or.inl (w_ G 83 rfl)) (by decide) (t := .byte) (t' := .int) (by decide) (by decide))))
 have f16 := (r7_0.other W9 (on (by omega)))
 refine OwnEnd.ret X9 (v := (some (.ref sb))) (fun h => by rw [Bd.returns] at h; cases h) hlk (fun fs hr => retOut X9 hx Bd.returns rfl (Or.inr (Or.inr (Or.inr (Or.inr ⟨rfl, rfl, rfl⟩)))) (D d23_54) hr) (by decide) (by decide) (Q := Qai Z sb vb kv P cn vs0 cu h0 n0) e9 ?_
 exact ⟨w_7, rfl, N9, K12, f13, f14, f15, Fw9, f16, (r7_1)⟩

theorem own_efsi (m : MethodId) (sb : Addr) (P : Int32) : entryFrame m #[(.ref sb), (.int P)] 2 = mkF m 0 #[vR sb, vI P] [] := by first | (simp [entryFrame, mkF, argsToLocals, Value.category]; done) | rfl
def Qsi (Z : State) (sb : Addr) (vb : Addr) (kv : ClassId) (P : Int32) (cn : Int32) (vs0 : List Value) (cu : Nat) (h0 : Heap) (n0 : Nat) (v : Option Value) (h : Heap) (L : List Loc) : Prop := ∃ (w : List Value), v = some (.ref sb) ∧ Fr n0 L ∧ Keep h0 h [sb, vb] ∧ (Exa Z h sb j2) ∧ (Fld Z h sb j0 "value" "[B" (.ref vb)) ∧ (Fld Z h sb j0 "coder" "B" (.int 0)) ∧ (Fld Z h sb j0 "count" "I" (.int (cn + (own_ssz P)))) ∧ (Arv Z h vb kv .byte (16 : Int32) w (.int 0)) ∧ (own_ok P (cu + (own_nd (own_n P) + own_sg P)) vs0 w)
set_option maxRecDepth 65536 in
set_option maxHeartbeats 40000000 in
theorem rmsi (l : Launch) (Z : State) (a0 : Array Value) (G : OwnG Z a0) (ws : List Jvm.Cond) (sb : Addr) (vb : Addr) (kv : ClassId) (P : Int32) (cn : Int32) (vs0 : List Value) (cu : Nat) (h0 : Heap) (n0 : Nat) (O0 : Old Z n0 h0) (P0 : Exa Z h0 sb j2) (P1 : Fld Z h0 sb j0 "value" "[B" (.ref vb)) (P2 : Fld Z h0 sb j0 "coder" "B" (.int 0)) (P3 : Fld Z h0 sb j0 "count" "I" (.int cn)) (P4 : Arv Z h0 vb kv .byte (16 : Int32) vs0 (.int 0)) (P5 : n0 ≤ sb) (P6 : n0 ≤ vb) (P7 : sb ≠ vb) (P8 : vs0.length = 16) (P9 : cn = Int32.ofNat cu) (P10 : cu ≤ 4) :
  MetFree l own_m24 (head1 (Jvm.Cond.code own_m24 B30 2 (some (.object j2)) :: ws) (rR 2 0 0 33)) (fun a U => a = #[(.ref sb), (.int P)] ∧ Z.Warmed39 U.vm ∧ U.heap = h0) (fun _ _ _ _ _ => True) (fun _ U o U' => ∃ v L, o = .returned v ∧ Qsi Z sb vb kv P cn vs0 cu h0 n0 v U'.heap L ∧ FrameEnd U o U' L (rR 2 0 0 33).cells (rR 2 0 0 33).slots) := by
 refine MetFree.of_bodySF (plainFor_of_name pn_4) hisR ?_
 intro p e s m args below meth cD s₁ Bd hml0 hP hK
 obtain ⟨rfl, hZ, hh⟩ := hP
 have hml : cD.maxLocals = 2 := hml0
 obtain ⟨hx, hby, (hown : s.vm.findClass j2 = some m.cls), hlk, X0, e0⟩ := own_st Bd hh
 have D := @hb _ _ hby
 have lt0 := lN P0.lt
 have lt1 := lN P1.lt
 have lt2 := lN P2.lt
 have lt3 := lN P3.lt
 have lt4 := lN P4.lt
 have nP7 := own_neN P7
 have K0 : Keep h0 h0 [sb, vb] := Keep.refl h0 _
 have Z0 := own_old_le O0
 have N0 := Fr.nil n0
 refine OwnEnd.start (g' := (mkF m 0 #[vR sb, vI P] [])) (own_efsi m sb P) ?_
 refine oo (S' := s₁.setTop (mkF m 2 #[vR sb, vI P] [(.int P), (.ref sb)])) (fun _ kK => XS.aloadN X0.here hx rfl (D d24_0) rfl rfl (XS.iloadN X0.here hx rfl (D d24_1) rfl kK)) ?_
 obtain ⟨_, _, ⟨T1, L1, k1, n1⟩, -, X1, ⟨Lc1, hQ1, l1, y1, z1⟩, st1⟩ := superBack X0 hx hZ hown (y := own_m23) (w_ G 115 rfl) (own_same (own_notI (w_ G 87 rfl) rfl) (w_ G 116 rfl) (by decide)) (w_ G 116 rfl) (w_ G 68 rfl) (by decide) (backOf (W := 0) (rmai l Z a0 G [] sb vb kv P cn vs0 cu h0 n0 O0 P0 P1 P2 P3 P4 (by omega) (by omega) (on (by omega)) P8 P9 P10) hZ (w_ G 118 rfl) (w_ G 53 rfl) (by decide) (by decide)) e0 (Ins.self P0) (g := (mkF m 2 #[vR sb, vI P] [(.int P), (.ref sb)])) rfl (by rw [hml]; rfl) (w_ G 118 rfl) (argsL := [(.int P)]) (rest := []) (lenOf pd_14 rfl) rfl (own_z rfl) (D d24_2) (fun _ _ => ⟨rfl, e0, (ol rfl), (ol rfl)⟩)
 dsimp only [Pt.U, Pt.locs, Pt.cells, Pt.slots] at X1 l1 y1 z1 st1 hQ1
 subst l1 y1 z1
 obtain ⟨w_1, rfl, N1q, Kq1, r1_0, r1_1, r1_2, r1_3, r1_4, r1_5⟩ := hQ1
 have N1 := Fr.app N0 N1q
 have sz2 := Kq1.1
 have K2 := K0.trans Kq1 (own_all2 (Or.inl (by simp)) (Or.inl (by simp)))
 have ltr1_0 := lN r1_0.lt
 have ltr1_1 := lN r1_1.lt
 have ltr1_2 := lN r1_2.lt
 have ltr1_3 := lN r1_3.lt
 have ltr1_4 := lN r1_4.lt
 refine ot (S' := T1.setTop (mkF m 5 #[vR sb, vI P] [(.ref sb)])) st1 ?_
 refine oo (S' := T1.setTop (mkF m 7 #[vR sb, vI P] [(.ref sb)])) (fun _ kK => XS.pop X1.here hx rfl (D d24_5) rfl rfl (XS.aloadN X1.here hx rfl (D d24_6) rfl rfl kK)) ?_
 refine OwnEnd.ret X1 (v := (some (.ref sb))) (fun h => by rw [Bd.returns] at h; cases h) hlk (fun fs hr => retOut X1 hx Bd.returns rfl (Or.inr (Or.inr (Or.inr (Or.inr ⟨rfl, rfl, rfl⟩)))) (D d24_7) hr) (by decide) (by decide) (Q := Qsi Z sb vb kv P cn vs0 cu h0 n0) rfl ?_
 exact ⟨w_1, rfl, N1, K2, r1_0, r1_1, r1_2, r1_3, r1_4, (r1_5)⟩

theorem own_efckl (m : MethodId) (ct : Int32) : entryFrame m #[(.int 0), (.int ct)] 2 = mkF m 0 #[vI 0, vI ct] [] := by first | (simp [entryFrame, mkF, argsToLocals, Value.category]; done) | rfl
def Qckl (Z : State) (ct : Int32) (h0 : Heap) (n0 : Nat) (v : Option Value) (h : Heap) (L : List Loc) : Prop := v = none ∧ Fr n0 L ∧ h = h0
set_option maxRecDepth 65536 in
set_option maxHeartbeats 40000000 in
theorem rmckl (l : Launch) (Z : State) (a0 : Array Value) (G : OwnG Z a0) (ws : List Jvm.Cond) (ct : Int32) (h0 : Heap) (n0 : Nat) (O0 : Old Z n0 h0) (P0 : ¬ ct < (0 : Int32)) :
  MetFree l own_m25 (head1 (Jvm.Cond.code own_m25 B31 2 none :: ws) (rR 0 0 0 0)) (fun a U => a = #[(.int 0), (.int ct)] ∧ Z.Warmed39 U.vm ∧ U.heap = h0) (fun _ _ _ _ _ => True) (fun _ U o U' => ∃ v L, o = .returned v ∧ Qckl Z ct h0 n0 v U'.heap L ∧ FrameEnd U o U' L (rR 0 0 0 0).cells (rR 0 0 0 0).slots) := by
 refine MetFree.of_bodySF (plainFor_of_name pn_6) hisR ?_
 intro p e s m args below meth cD s₁ Bd hml0 hP hK
 obtain ⟨rfl, hZ, hh⟩ := hP
 have hml : cD.maxLocals = 2 := hml0
 obtain ⟨hx, hby, (hown : s.vm.findClass "java/util/Arrays" = some m.cls), hlk, X0, e0⟩ := own_st Bd hh
 have D := @hb _ _ hby
 have Z0 := own_old_le O0
 have N0 := Fr.nil n0
 refine OwnEnd.start (g' := (mkF m 0 #[vI 0, vI ct] [])) (own_efckl m ct) ?_
 refine oo (S' := s₁.setTop (mkF m 37 #[vI 0, vI ct] [])) (fun _ kK => XS.iloadN X0.here hx rfl (D d25_0) rfl (XS.iloadN X0.here hx rfl (D d25_1) rfl (XS.icmpYes X0.here hx rfl (pc0 := 2) (pc' := 37) rfl (D d25_2) rfl (flt (P0)).2.1 (by decide) (by decide) kK))) ?_
 refine OwnEnd.ret X0 (v := none) (fun _ => rfl) hlk (fun fs hr => X0.returnOut hx Bd.returns (D d25_37) hr) (by decide) (by decide) (Q := Qckl Z ct h0 n0) e0 ?_
 exact ⟨rfl, N0, rfl⟩

theorem own_efmn (m : MethodId) (a1 : Int32) (b1 : Int32) : entryFrame m #[(.int a1), (.int b1)] 2 = mkF m 0 #[vI a1, vI b1] [] := by first | (simp [entryFrame, mkF, argsToLocals, Value.category]; done) | rfl
set_option maxRecDepth 65536 in
set_option maxHeartbeats 40000000 in
theorem rmmn (l : Launch) (Z : State) (a0 : Array Value) (G : OwnG Z a0) (ws : List Jvm.Cond) (a1 : Int32) (b1 : Int32) (h0 : Heap) (n0 : Nat) (O0 : Old Z n0 h0) (P0 : b1 < a1) :
  MetFree l own_m26 (head1 (Jvm.Cond.code own_m26 B32 2 (some .int) :: ws) (rR 0 0 0 0)) (fun a U => a = #[(.int a1), (.int b1)] ∧ Z.Warmed39 U.vm ∧ U.heap = h0) (fun _ _ _ _ _ => True) (fun _ U o U' => ∃ v L, o = .returned v ∧ (own_Qint b1) h0 n0 v U'.heap L ∧ FrameEnd U o U' L (rR 0 0 0 0).cells (rR 0 0 0 0).slots) := by
 refine MetFree.of_bodySF (Jvm.Free.JP.mathPlain rfl (by decide +kernel)) hisR ?_
 intro p e s m args below meth cD s₁ Bd hml0 hP hK
 obtain ⟨rfl, hZ, hh⟩ := hP
 have hml : cD.maxLocals = 2 := hml0
 obtain ⟨hx, hby, (hown : s.vm.findClass "java/lang/Math" = some m.cls), hlk, X0, e0⟩ := own_st Bd hh
 have D := @hb _ _ hby
 have Z0 := own_old_le O0
 have N0 := Fr.nil n0
 refine OwnEnd.start (g' := (mkF m 0 #[vI a1, vI b1] [])) (own_efmn m a1 b1) ?_
 refine oo (S' := s₁.setTop (mkF m 10 #[vI a1, vI b1] [(.int b1)])) (fun _ kK => XS.iloadN X0.here hx rfl (D d26_0) rfl (XS.iloadN X0.here hx rfl (D d26_1) rfl (XS.icmpYes X0.here hx rfl (pc0 := 2) (pc' := 9) rfl (D d26_2) rfl (tlt (P0)).2.2.1 (by decide) (by decide) (XS.iloadN X0.here hx rfl (D d26_9) rfl kK)))) ?_
 refine OwnEnd.ret X0 (v := (some (.int b1))) (fun h => by rw [Bd.returns] at h; cases h) hlk (fun fs hr => retOut X0 hx Bd.returns rfl (Or.inl ⟨rfl, Or.inl rfl, _, rfl⟩) (D d26_10) hr) (by decide) (by decide) (Q := (own_Qint b1) h0 n0) e0 ?_
 exact ⟨rfl, N0, rfl⟩

theorem own_efcpb (m : MethodId) (vb : Addr) (ct : Int32) : entryFrame m #[(.ref vb), (.int 0), (.int ct)] 5 = mkF m 0 #[vR vb, vI 0, vI ct, .unset, .unset] [] := by first | (simp [entryFrame, mkF, argsToLocals, Value.category]; done) | rfl
def Qcpb (Z : State) (vb : Addr) (kv : ClassId) (w : List Value) (ct : Int32) (mu : Nat) (h0 : Heap) (n0 : Nat) (v : Option Value) (h : Heap) (L : List Loc) : Prop := ∃ (b : Addr) (kb : ClassId) (us : List Value), v = some (.ref b) ∧ Fr n0 L ∧ Keep h0 h [] ∧ (Arv Z h b kb .byte ct us (.int 0)) ∧ (∀ j, j < mu → us.getD j (.int 0) = w.getD j (.int 0)) ∧ (Array.size h0 ≤ b)
set_option maxRecDepth 65536 in
set_option maxHeartbeats 40000000 in
theorem rmcpb (l : Launch) (Z : State) (a0 : Array Value) (G : OwnG Z a0) (ws : List Jvm.Cond) (vb : Addr) (kv : ClassId) (w : List Value) (ct : Int32) (mu : Nat) (h0 : Heap) (n0 : Nat) (O0 : Old Z n0 h0) (P0 : Arv Z h0 vb kv .byte (16 : Int32) w (.int 0)) (P1 : w.length = 16) (P2 : ct = Int32.ofNat mu) (P3 : mu ≤ 15) :
  MetFree l own_m27 (head1 (Jvm.Cond.code own_m27 B33 5 (some (.array .byte)) :: ws) (rR 1 1 16 18)) (fun a U => a = #[(.ref vb), (.int 0), (.int ct)] ∧ Z.Warmed39 U.vm ∧ U.heap = h0) (fun _ _ _ _ _ => True) (fun _ U o U' => ∃ v L, o = .returned v ∧ Qcpb Z vb kv w ct mu h0 n0 v U'.heap L ∧ FrameEnd U o U' L (rR 1 1 16 18).cells (rR 1 1 16 18).slots) := by
 refine MetFree.of_bodySF (plainFor_of_name pn_6) hisR ?_
 intro p e s m args below meth cD s₁ Bd hml0 hP hK
 obtain ⟨rfl, hZ, hh⟩ := hP
 have hml : cD.maxLocals = 5 := hml0
 obtain ⟨hx, hby, (hown : s.vm.findClass "java/util/Arrays" = some m.cls), hlk, X0, e0⟩ := own_st Bd hh
 have D := @hb _ _ hby
 have lt0 := lN P0.lt
 have K0 : Keep h0 h0 [] := Keep.refl h0 _
 have Z0 := own_old_le O0
 have N0 := Fr.nil n0
 let lv1 : Array Slot := #[vR vb, vI 0, vI ct, .unset, .unset]
 refine OwnEnd.start (g' := (mkF m 0 lv1 [])) (own_efcpb m vb ct) ?_
 have sm := own_small P3
 rw [← P2] at sm
 refine oo (S' := s₁.setTop (mkF m 2 lv1 [(.int ct), (.int 0)])) (fun _ kK => XS.iloadN X0.here hx rfl (D d27_0) rfl (XS.iloadN X0.here hx rfl (D d27_1) rfl kK)) ?_
 obtain ⟨_, _, ⟨T2, L2, k2, n2⟩, -, X2, ⟨Lc2, hQ2, l2, y2, z2⟩, st2⟩ := Jvm.LawKit.callS X0 hx (y := own_m25) hown (mw hZ G 165 rfl) (mw hZ G 166 rfl) (mw hZ G 160 rfl) (mw hZ G 167 rfl) (by decide) (backOf (W := 0) (rmckl l Z a0 G [] ct h0 n0 O0 sm.2.1) hZ (w_ G 167 rfl) (w_ G 160 rfl) (by decide) (by decide)) (g := (mkF m 2 lv1 [(.int ct), (.int 0)])) rfl (by rw [hml]; rfl) (argsL := [(.int 0), (.int ct)]) (rest := []) (lenOf pd_3 rfl) rfl (own_z rfl) (D d27_2) (fun _ _ => ⟨rfl, e0, (ol rfl), (ol rfl)⟩)
 dsimp only [Pt.U, Pt.locs, Pt.cells, Pt.slots] at X2 l2 y2 z2 st2 hQ2
 subst l2 y2 z2
 obtain ⟨rfl, N2q, eh2⟩ := hQ2
 have N2 := Fr.app N0 N2q
 refine oo (S' := T2.setTop (mkF m 5 lv1 [])) st2 ?_
 refine oo (S' := T2.setTop (mkF m 8 lv1 [(.int (ct - (0 : Int32)))])) (fun _ kK => XS.iloadN X2.here hx rfl (D d27_5) rfl (XS.iloadN X2.here hx rfl (D d27_6) rfl (XS.isub X2.here hx rfl (D d27_7) rfl kK))) ?_
 rw [Int32.sub_zero]
 let lv3 : Array Slot := #[vR vb, vI 0, vI ct, vI ct, .unset]
 refine oo (S' := T2.setTop (mkF m 10 lv3 [(.int ct)])) (fun _ kK => XS.istoreN X2.here hx rfl (D d27_8) rfl (l' := lv3) rfl (XS.iloadN X2.here hx rfl (D d27_9) rfl kK)) ?_
 obtain ⟨T4, h4, k4, X4, e4, E4, A4, st4⟩ := newP X2 hx hZ (w_ G 15 rfl) eh2 (g := (mkF m 10 lv3 [(.int ct)])) rfl (D d27_10) rfl sm.2.1 (cap := 16) (by rw [sm.2.2.2.2.1]; exact Nat.le_trans P3 (by decide)) (by decide) (by decide) (by decide)
 obtain ⟨b4, g4⟩ : ∃ z, z = Array.size h0 := ⟨_, rfl⟩
 rw [← g4] at A4 st4
 have lt_b4 := lN A4.lt
 have sz5 := E4.1
 have K5 := K0.ext E4
 have O5 := O0.ext E4
 have V4 : Arv Z h4 b4 k4 .byte ct [] (.int 0) := Arv.new A4 sm.2.1
 refine oo (S' := T4.setTop (mkF m 12 lv3 [(.ref b4)])) st4 ?_
 let lv6 : Array Slot := #[vR vb, vI 0, vI ct, vI ct, vR b4]
 refine oo (S' := T4.setTop (mkF m 20 lv6 [(.ref vb), (.int 0), (.ref b4), (.int 0), (.ref vb)])) (fun _ kK => XS.astore X4.here hx rfl (D d27_12) rfl rfl (l' := lv6) rfl (XS.aloadN X4.here hx rfl (D d27_14) rfl rfl (XS.iloadN X4.here hx rfl (D d27_15) rfl (XS.aload X4.here hx rfl (D d27_16) rfl rfl (XS.iconst X4.here hx rfl (D d27_18) (XS.aloadN X4.here hx rfl (D d27_19) rfl rfl kK)))))) ?_
 have f7 := (P0.ext E4)
 obtain ⟨cl8, Ar8, q8, S8, N8', H8, G8⟩ := id f7
 refine oo (S' := T4.setTop (mkF m 21 lv6 [(.int 16), (.int 0), (.ref b4), (.int 0), (.ref vb)])) (fun _ kK => X4.arraylength hx (by rw [e4]; exact Ar8.1) (State.isArrayOf_alike hZ.alike Ar8.2.1) (g := (mkF m 20 lv6 [(.ref vb), (.int 0), (.ref b4), (.int 0), (.ref vb)])) rfl rfl (D d27_20) _ (by rw [len_of S8 N8']; exact kK)) ?_
 refine oo (S' := T4.setTop (mkF m 24 lv6 [(.int ct), (.int 16), (.int 0), (.ref b4), (.int 0), (.ref vb)])) (fun _ kK => XS.iloadN X4.here hx rfl (D d27_21) rfl (XS.isub X4.here hx rfl (D d27_22) rfl (XS.iloadN X4.here hx rfl (D d27_23) rfl kK))) ?_
 obtain ⟨_, _, ⟨T9, L9, k9, n9⟩, -, X9, ⟨Lc9, hQ9, l9, y9, z9⟩, st9⟩ := Jvm.LawKit.callS X4 hx (y := own_m26) hown (mw hZ G 168 rfl) (mw hZ G 169 rfl) (mw hZ G 170 rfl) (mw hZ G 171 rfl) (by decide) (backOf (W := 4) (rmmn l Z a0 G [] (16 : Int32) ct h4 n0 O5 sm.2.2.1) hZ (w_ G 171 rfl) (w_ G 170 rfl) (by decide) (by decide)) (g := (mkF m 24 lv6 [(.int ct), (.int 16), (.int 0), (.ref b4), (.int 0), (.ref vb)])) rfl (by rw [hml]; rfl) (argsL := [(.int 16), (.int ct)]) (rest := [(.int 0), (.ref b4), (.int 0), (.ref vb)]) (lenOf pd_15 rfl) rfl (own_z rfl) (D d27_24) (fun _ _ => ⟨rfl, e4, (ol rfl), (ol rfl)⟩)
 dsimp only [Pt.U, Pt.locs, Pt.cells, Pt.slots] at X9 l9 y9 z9 st9 hQ9
 subst l9 y9 z9
 obtain ⟨rfl, N9q, eh9⟩ := hQ9
 have N9 := Fr.app N2 N9q
 refine oo (S' := T9.setTop (mkF m 27 lv6 [(.int ct), (.int 0), (.ref b4), (.int 0), (.ref vb)])) st9 ?_
 have Vp10 := V4.pad (pad_rep [] (.int 0) mu)
 obtain ⟨T10, h10, L10, X10, e10, N10, Kc10, Vc10, st10⟩ := cpA X9 hx hZ hown (w_ G 172 rfl) (w_ G 108 rfl) (w_ G 106 rfl) (w_ G 107 rfl) eh9 f7 Vp10 (us := ((List.range ct.toNatClampNeg).map fun i => w.getD ((0 : Int32).toNatClampNeg + i) (.int 0))) (Or.inl ⟨rfl, rfl⟩) (sp := (0 : Int32)) (dp := (0 : Int32)) (nn := ct) (by decide) (by decide) sm.2.1 (by rw [sm.2.2.2.2.1]; show 0 + mu ≤ 16; omega) (by show 0 + ct.toNatClampNeg ≤ ct.toNatClampNeg; omega) rfl (by rw [sm.2.2.2.2.1]; simp) N9 (by omega) (g := (mkF m 27 lv6 [(.int ct), (.int 0), (.ref b4), (.int 0), (.ref vb)])) rfl (by rw [hml]; rfl) rfl (D d27_27) (by decide) (W := 0) (own_z rfl) (by decide)
 have sz11 := Kc10.1
 have K11 := K5.trans Kc10 (own_all1 (Or.inr (by omega)))
 have V10 : Arv Z h10 b4 k4 .byte ct ((List.range ct.toNatClampNeg).map fun i => w.getD ((0 : Int32).toNatClampNeg + i) (.int 0)) (.int 0) := by have q := Vc10; rw [sm.2.2.2.2.1, own_cpl] at q; rw [sm.2.2.2.2.1]; exact q
 refine oo (S' := T10.setTop (mkF m 30 lv6 [])) st10 ?_
 refine oo (S' := T10.setTop (mkF m 32 lv6 [(.ref b4)])) (fun _ kK => XS.aload X10.here hx rfl (D d27_30) rfl rfl kK) ?_
 refine OwnEnd.ret X10 (v := (some (.ref b4))) (fun h => by rw [Bd.returns] at h; cases h) hlk (fun fs hr => retOut X10 hx Bd.returns rfl (Or.inr (Or.inr (Or.inr (Or.inr ⟨rfl, rfl, rfl⟩)))) (D d27_32) hr) (by decide) (by decide) (Q := Qcpb Z vb kv w ct mu h0 n0) e10 ?_
 exact ⟨b4, k4, ((List.range ct.toNatClampNeg).map fun i => w.getD ((0 : Int32).toNatClampNeg + i) (.int 0)), rfl, N10, K11, V10, (own_rg sm.2.2.2.2.1), (by omega)⟩

theorem own_efcor (m : MethodId) (vb : Addr) (ct : Int32) : entryFrame m #[(.ref vb), (.int 0), (.int ct)] 3 = mkF m 0 #[vR vb, vI 0, vI ct] [] := by first | (simp [entryFrame, mkF, argsToLocals, Value.category]; done) | rfl
def Qcor (Z : State) (vb : Addr) (kv : ClassId) (w : List Value) (ct : Int32) (mu : Nat) (h0 : Heap) (n0 : Nat) (v : Option Value) (h : Heap) (L : List Loc) : Prop := ∃ (b : Addr) (kb : ClassId) (us : List Value), v = some (.ref b) ∧ Fr n0 L ∧ Keep h0 h [] ∧ (Arv Z h b kb .byte ct us (.int 0)) ∧ (∀ j, j < mu → us.getD j (.int 0) = w.getD j (.int 0)) ∧ (Array.size h0 ≤ b)
set_option maxRecDepth 65536 in
set_option maxHeartbeats 40000000 in
theorem rmcor (l : Launch) (Z : State) (a0 : Array Value) (G : OwnG Z a0) (ws : List Jvm.Cond) (vb : Addr) (kv : ClassId) (w : List Value) (ct : Int32) (mu : Nat) (h0 : Heap) (n0 : Nat) (O0 : Old Z n0 h0) (P0 : Arv Z h0 vb kv .byte (16 : Int32) w (.int 0)) (P1 : w.length = 16) (P2 : ct = Int32.ofNat mu) (P3 : mu ≤ 15) :
  MetFree l own_m28 (head1 (Jvm.Cond.code own_m28 B34 3 (some (.array .byte)) :: ws) (rR 2 1 16 34)) (fun a U => a = #[(.ref vb), (.int 0), (.int ct)] ∧ Z.Warmed39 U.vm ∧ U.heap = h0) (fun _ _ _ _ _ => True) (fun _ U o U' => ∃ v L, o = .returned v ∧ Qcor Z vb kv w ct mu h0 n0 v U'.heap L ∧ FrameEnd U o U' L (rR 2 1 16 34).cells (rR 2 1 16 34).slots) := by
 refine MetFree.of_bodySF (plainFor_of_name pn_6) hisR ?_
 intro p e s m args below meth cD s₁ Bd hml0 hP hK
 obtain ⟨rfl, hZ, hh⟩ := hP
 have hml : cD.maxLocals = 3 := hml0
 obtain ⟨hx, hby, (hown : s.vm.findClass "java/util/Arrays" = some m.cls), hlk, X0, e0⟩ := own_st Bd hh
 have D := @hb _ _ hby
 have lt0 := lN P0.lt
 have K0 : Keep h0 h0 [] := Keep.refl h0 _
 have Z0 := own_old_le O0
 have N0 := Fr.nil n0
 refine OwnEnd.start (g' := (mkF m 0 #[vR vb, vI 0, vI ct] [])) (own_efcor m vb ct) ?_
 have sm := own_small P3
 rw [← P2] at sm
 refine oo (S' := s₁.setTop (mkF m 6 #[vR vb, vI 0, vI ct] [(.ref vb), (.int ct)])) (fun _ kK => XS.iloadN X0.here hx rfl (D d28_0) rfl (XS.ifNo X0.here hx rfl (D d28_1) rfl ((if0 _ _).trans (teq ((by decide : (0 : Int32) = (0 : Int32)))).2) (XS.iloadN X0.here hx rfl (D d28_4) rfl (XS.aloadN X0.here hx rfl (D d28_5) rfl rfl kK)))) ?_
 obtain ⟨cl1, Ar1, q1, S1, N1', H1, G1⟩ := id P0
 refine oo (S' := s₁.setTop (mkF m 7 #[vR vb, vI 0, vI ct] [(.int 16), (.int ct)])) (fun _ kK => X0.arraylength hx (by rw [e0]; exact Ar1.1) (State.isArrayOf_alike hZ.alike Ar1.2.1) (g := (mkF m 6 #[vR vb, vI 0, vI ct] [(.ref vb), (.int ct)])) rfl rfl (D d28_6) _ (by rw [len_of S1 N1']; exact kK)) ?_
 refine oo (S' := s₁.setTop (mkF m 13 #[vR vb, vI 0, vI ct] [(.int ct), (.int 0), (.ref vb)])) (fun _ kK => XS.icmpNo X0.here hx rfl (D d28_7) rfl (feq (sm.2.2.2.1)).1 (XS.aloadN X0.here hx rfl (D d28_10) rfl rfl (XS.iloadN X0.here hx rfl (D d28_11) rfl (XS.iloadN X0.here hx rfl (D d28_12) rfl kK)))) ?_
 obtain ⟨_, _, ⟨T2, L2, k2, n2⟩, -, X2, ⟨Lc2, hQ2, l2, y2, z2⟩, st2⟩ := Jvm.LawKit.callS X0 hx (y := own_m27) hown (mw hZ G 162 rfl) (mw hZ G 163 rfl) (mw hZ G 160 rfl) (mw hZ G 164 rfl) (by decide) (backOf (W := 0) (rmcpb l Z a0 G [] vb kv w ct mu h0 n0 O0 P0 P1 P2 P3) hZ (w_ G 164 rfl) (w_ G 160 rfl) (by decide) (by decide)) (g := (mkF m 13 #[vR vb, vI 0, vI ct] [(.int ct), (.int 0), (.ref vb)])) rfl (by rw [hml]; rfl) (argsL := [(.ref vb), (.int 0), (.int ct)]) (rest := []) (lenOf pd_16 rfl) rfl (own_z rfl) (D d28_13) (fun _ _ => ⟨rfl, e0, (ol rfl), (ol rfl)⟩)
 dsimp only [Pt.U, Pt.locs, Pt.cells, Pt.slots] at X2 l2 y2 z2 st2 hQ2
 subst l2 y2 z2
 obtain ⟨b_2, kb_2, us_2, rfl, N2q, Kq2, r2_0, r2_1, r2_2⟩ := hQ2
 have N2 := Fr.app N0 N2q
 have sz3 := Kq2.1
 have K3 := K0.trans Kq2 (own_all0 )
 have ltr2_0 := lN r2_0.lt
 refine oo (S' := T2.setTop (mkF m 16 #[vR vb, vI 0, vI ct] [(.ref b_2)])) st2 ?_
 refine OwnEnd.ret X2 (v := (some (.ref b_2))) (fun h => by rw [Bd.returns] at h; cases h) hlk (fun fs hr => retOut X2 hx Bd.returns rfl (Or.inr (Or.inr (Or.inr (Or.inr ⟨rfl, rfl, rfl⟩)))) (D d28_16) hr) (by decide) (by decide) (Q := Qcor Z vb kv w ct mu h0 n0) rfl ?_
 exact ⟨b_2, kb_2, us_2, rfl, N2, K3, r2_0, (r2_1), (by omega)⟩

theorem own_efst2 (m : MethodId) (x0 : Addr) (sb : Addr) : entryFrame m #[(.ref x0), (.ref sb), .null] 5 = mkF m 0 #[vR x0, vR sb, .val .null, .unset, .unset] [] := by first | (simp [entryFrame, mkF, argsToLocals, Value.category]; done) | rfl
def Qst2 (Z : State) (x0 : Addr) (v0 : Value) (c9 : Value) (sb : Addr) (vb : Addr) (kv : ClassId) (w : List Value) (ct : Int32) (mu : Nat) (h0 : Heap) (n0 : Nat) (v : Option Value) (h : Heap) (L : List Loc) : Prop := ∃ (t : Addr) (kb : ClassId) (us : List Value), v = none ∧ Fr n0 L ∧ Keep h0 h [x0] ∧ (Exa Z h x0 j1) ∧ (Fld Z h x0 j1 "value" "[B" (.ref t)) ∧ (Fld Z h x0 j1 "coder" "B" (.int 0)) ∧ (Arv Z h t kb .byte ct us (.int 0)) ∧ (∀ j, j < mu → us.getD j (.int 0) = w.getD j (.int 0)) ∧ (Array.size h0 ≤ t)
set_option maxRecDepth 65536 in
set_option maxHeartbeats 40000000 in
theorem rmst2 (l : Launch) (Z : State) (a0 : Array Value) (G : OwnG Z a0) (ws : List Jvm.Cond) (x0 : Addr) (v0 : Value) (c9 : Value) (sb : Addr) (vb : Addr) (kv : ClassId) (w : List Value) (ct : Int32) (mu : Nat) (h0 : Heap) (n0 : Nat) (O0 : Old Z n0 h0) (P0 : Exa Z h0 x0 j1) (P1 : Fld Z h0 x0 j1 "value" "[B" v0) (P2 : Fld Z h0 x0 j1 "coder" "B" c9) (P3 : n0 ≤ x0) (P4 : Exa Z h0 sb j2) (P5 : Fld Z h0 sb j0 "value" "[B" (.ref vb)) (P6 : Fld Z h0 sb j0 "coder" "B" (.int 0)) (P7 : Fld Z h0 sb j0 "count" "I" (.int ct)) (P8 : Arv Z h0 vb kv .byte (16 : Int32) w (.int 0)) (P9 : w.length = 16) (P10 : ct = Int32.ofNat mu) (P11 : mu ≤ 15) (P12 : x0 ≠ sb) (P13 : x0 ≠ vb) :
  MetFree l own_m29 (head1 (Jvm.Cond.code own_m29 B35 5 none :: ws) (rR 3 1 16 49)) (fun a U => a = #[(.ref x0), (.ref sb), .null] ∧ Z.Warmed39 U.vm ∧ U.heap = h0) (fun _ _ _ _ _ => True) (fun _ U o U' => ∃ v L, o = .returned v ∧ Qst2 Z x0 v0 c9 sb vb kv w ct mu h0 n0 v U'.heap L ∧ FrameEnd U o U' L (rR 3 1 16 49).cells (rR 3 1 16 49).slots) := by
 refine MetFree.of_bodySF (plainFor_of_name pn_0) hisR ?_
 intro p e s m args below meth cD s₁ Bd hml0 hP hK
 obtain ⟨rfl, hZ, hh⟩ := hP
 have hml : cD.maxLocals = 5 := hml0
 have hnm := (name_of_methodNamed Bd.named Bd.method).1
 obtain ⟨hx, hby, (hown : s.vm.findClass j1 = some m.cls), hlk, X0, e0⟩ := own_st Bd hh
 have D := @hb _ _ hby
 have lt0 := lN P0.lt
 have lt1 := lN P1.lt
 have lt2 := lN P2.lt
 have lt4 := lN P4.lt
 have lt5 := lN P5.lt
 have lt6 := lN P6.lt
 have lt7 := lN P7.lt
 have lt8 := lN P8.lt
 have nP12 := own_neN P12
 have nP13 := own_neN P13
 have K0 : Keep h0 h0 [x0] := Keep.refl h0 _
 have Z0 := own_old_le O0
 have N0 := Fr.nil n0
 let lv1 : Array Slot := #[vR x0, vR sb, .val .null, .unset, .unset]
 refine OwnEnd.start (g' := (mkF m 0 lv1 [])) (own_efst2 m x0 sb) ?_
 have sm := own_small P11
 rw [← P10] at sm
 refine oo (S' := s₁.setTop (mkF m 1 lv1 [(.ref x0)])) (fun _ kK => XS.aloadN X0.here hx rfl (D d29_0) rfl rfl kK) ?_
 obtain ⟨T2, X2, e2, st2⟩ := initO X0 hx hZ hown (w_ G 11 rfl) (w_ G 12 rfl) (w_ G 13 rfl) e0 (g := (mkF m 1 lv1 [(.ref x0)])) rfl (by rw [hml]; rfl) rfl (D d29_1) (by decide) (W := 0) (own_z rfl) (by decide)
 refine oo (S' := T2.setTop (mkF m 4 lv1 [])) st2 ?_
 refine oo (S' := T2.setTop (mkF m 5 lv1 [(.ref sb)])) (fun _ kK => XS.aloadN X2.here hx rfl (D d29_4) rfl rfl kK) ?_
 obtain ⟨cq3, kq3, q3a, q3b, q3c⟩ := isOf hZ e2 P4
 obtain ⟨_, _, ⟨T3, L3, k3, n3⟩, -, X3, ⟨Lc3, hQ3, l3, y3, z3⟩, st3⟩ := X2.virtualBack hx (y := own_m15) (z := own_m15) hown (mw hZ G 144 rfl) (mw hZ G 145 rfl) (notFace_of_selects (args := #[]) (mw hZ G 147 rfl)) (mw hZ G 147 rfl) (mw hZ G 146 rfl) (by decide) (backOf (W := 0) (rmgv l Z a0 G [] sb vb h0 n0 O0 P5) hZ (w_ G 148 rfl) (w_ G 53 rfl) (by decide) (by decide)) q3a q3c (g := (mkF m 5 lv1 [(.ref sb)])) rfl (by rw [hml]; rfl) (Steps.refl _) (argsL := []) (rest := []) (lenOf pd_17 rfl) rfl (own_z rfl) (D d29_5) (fun _ _ => ⟨rfl, e2, (ol rfl), (ol rfl)⟩)
 dsimp only [Pt.U, Pt.locs, Pt.cells, Pt.slots] at X3 l3 y3 z3 st3 hQ3
 subst l3 y3 z3
 obtain ⟨rfl, N3q, eh3⟩ := hQ3
 have N3 := Fr.app N0 N3q
 refine ot (S' := T3.setTop (mkF m 8 lv1 [(.ref vb)])) st3 ?_
 let lv4 : Array Slot := #[vR x0, vR sb, .val .null, vR vb, .unset]
 refine oo (S' := T3.setTop (mkF m 10 lv4 [(.ref sb)])) (fun _ kK => XS.astoreN X3.here hx rfl (D d29_8) rfl rfl (l' := lv4) rfl (XS.aloadN X3.here hx rfl (D d29_9) rfl rfl kK)) ?_
 obtain ⟨cq5, kq5, q5a, q5b, q5c⟩ := isOf hZ eh3 P4
 obtain ⟨_, _, ⟨T5, L5, k5, n5⟩, -, X5, ⟨Lc5, hQ5, l5, y5, z5⟩, st5⟩ := X3.virtualBack hx (y := own_m13) (z := own_m14) hown (mw hZ G 149 rfl) (mw hZ G 150 rfl) (oI (mw hZ G 87 rfl) rfl) (mw hZ G 152 rfl) (mw hZ G 153 rfl) (by decide) (backOf (W := 0) (rmsln l Z a0 G [] sb ct h0 n0 O0 P4 P7) hZ (w_ G 154 rfl) (w_ G 45 rfl) (by decide) (by decide)) q5a q5c (g := (mkF m 10 lv4 [(.ref sb)])) rfl (by rw [hml]; rfl) (Steps.refl _) (argsL := []) (rest := []) (lenOf pd_7 rfl) rfl (own_z rfl) (D d29_10) (fun _ _ => ⟨rfl, eh3, (ol rfl), (ol rfl)⟩)
 dsimp only [Pt.U, Pt.locs, Pt.cells, Pt.slots] at X5 l5 y5 z5 st5 hQ5
 subst l5 y5 z5
 obtain ⟨rfl, N5q, eh5⟩ := hQ5
 have N5 := Fr.app N3 N5q
 refine ot (S' := T5.setTop (mkF m 13 lv4 [(.int ct)])) st5 ?_
 let lv6 : Array Slot := #[vR x0, vR sb, .val .null, vR vb, vI ct]
 refine oo (S' := T5.setTop (mkF m 16 lv6 [(.ref sb)])) (fun _ kK => XS.istore X5.here hx rfl (D d29_13) rfl (l' := lv6) rfl (XS.aloadN X5.here hx rfl (D d29_15) rfl rfl kK)) ?_
 obtain ⟨cq7, kq7, q7a, q7b, q7c⟩ := isOf hZ eh5 P4
 obtain ⟨_, _, ⟨T7, L7, k7, n7⟩, -, X7, ⟨Lc7, hQ7, l7, y7, z7⟩, st7⟩ := X5.virtualBack hx (y := own_m9) (z := own_m9) hown (mw hZ G 157 rfl) (mw hZ G 124 rfl) (notFace_of_selects (args := #[]) (mw hZ G 126 rfl)) (mw hZ G 126 rfl) (mw hZ G 125 rfl) (by decide) (backOf (W := 0) (rmasl l Z a0 G [] sb h0 n0 O0 P6) hZ (w_ G 127 rfl) (w_ G 53 rfl) (by decide) (by decide)) q7a q7c (g := (mkF m 16 lv6 [(.ref sb)])) rfl (by rw [hml]; rfl) (Steps.refl _) (argsL := []) (rest := []) (lenOf pd_4 rfl) rfl (own_z rfl) (D d29_16) (fun _ _ => ⟨rfl, eh5, (ol rfl), (ol rfl)⟩)
 dsimp only [Pt.U, Pt.locs, Pt.cells, Pt.slots] at X7 l7 y7 z7 st7 hQ7
 subst l7 y7 z7
 obtain ⟨rfl, N7q, eh7⟩ := hQ7
 have N7 := Fr.app N5 N7q
 refine ot (S' := T7.setTop (mkF m 19 lv6 [(.int 1)])) st7 ?_
 refine oo (S' := T7.setTop (mkF m 24 lv6 [(.int 0), (.ref x0)])) (fun _ kK => XS.ifNo X7.here hx rfl (D d29_19) rfl ((if0 _ _).trans (feq ((by decide : ¬ ((1 : Int32) = (0 : Int32))))).1) (XS.aloadN X7.here hx rfl (D d29_22) rfl rfl (XS.iconst X7.here hx rfl (D d29_23) kK))) ?_
 obtain ⟨T8, h8, X8, e8, W8, st8⟩ := putFN X7 hx hZ hown (w_ G 21 rfl) Via.refl eh7 P2 P0 (Or.inr ⟨(w_ G 17 rfl), rfl, hnm⟩) (w_ G 2 rfl) (ty := .byte) (v' := (.int 0)) (by decide) rfl rfl (g := (mkF m 24 lv6 [(.int 0), (.ref x0)])) rfl rfl (D d29_24)
 have Fw8 := P2.same W8
 have N8 := Fr.snoc X8 N7 (by omega)
 have sz9 := own_wr_le W8
 have K9 := K0.wr W8 (Or.inl (by simp))
 have O9 := O0.wr W8 (by omega)
 refine oo (S' := T8.setTop (mkF m 27 lv6 [])) st8 ?_
 refine oo (S' := T8.setTop (mkF m 32 lv6 [(.int ct), (.int 0), (.ref vb), (.ref x0)])) (fun _ kK => XS.aloadN X8.here hx rfl (D d29_27) rfl rfl (XS.aloadN X8.here hx rfl (D d29_28) rfl rfl (XS.iconst X8.here hx rfl (D d29_29) (XS.iload X8.here hx rfl (D d29_30) rfl kK)))) ?_
 have f10 := (P8.other W8 (on (by omega)))
 obtain ⟨_, _, ⟨T11, L11, k11, n11⟩, -, X11, ⟨Lc11, hQ11, l11, y11, z11⟩, st11⟩ := Jvm.LawKit.callS X8 hx (y := own_m28) hown (mw hZ G 158 rfl) (mw hZ G 159 rfl) (mw hZ G 160 rfl) (mw hZ G 161 rfl) (by decide) (backOf (W := 1) (rmcor l Z a0 G [] vb kv w ct mu h8 n0 O9 f10 P9 P10 P11) hZ (w_ G 161 rfl) (w_ G 160 rfl) (by decide) (by decide)) (g := (mkF m 32 lv6 [(.int ct), (.int 0), (.ref vb), (.ref x0)])) rfl (by rw [hml]; rfl) (argsL := [(.ref vb), (.int 0), (.int ct)]) (rest := [(.ref x0)]) (lenOf pd_16 rfl) rfl (own_z rfl) (D d29_32) (fun _ _ => ⟨rfl, e8, (ol rfl), (ol rfl)⟩)
 dsimp only [Pt.U, Pt.locs, Pt.cells, Pt.slots] at X11 l11 y11 z11 st11 hQ11
 subst l11 y11 z11
 obtain ⟨b_11, kb_11, us_11, rfl, N11q, Kq11, r11_0, r11_1, r11_2⟩ := hQ11
 have N11 := Fr.app N8 N11q
 have sz12 := Kq11.1
 have K12 := K9.trans Kq11 (own_all0 )
 have ltr11_0 := lN r11_0.lt
 refine oo (S' := T11.setTop (mkF m 35 lv6 [(.ref b_11), (.ref x0)])) st11 ?_
 have f14 := ((P1.other W8 (Or.inr (slot_ne (Or.inr (w_ G 16 rfl)) (Or.inr (w_ G 17 rfl)) (by decide) (t := (.array .byte)) (t' := .byte) (by decide) (by decide)))).keep Kq11 nin0)
 have f15 := ((P0.wr W8).keep Kq11)
 obtain ⟨T13, h13, X13, e13, W13, st13⟩ := putF X11 hx hZ hown (host := "") (Or.inl (w_ G 20 rfl)) Via.refl rfl f14 f15 (Or.inr ⟨(w_ G 16 rfl), rfl, hnm⟩) (w_ G 2 rfl) (ty := (.array .byte)) (by decide) rfl rfl (g := (mkF m 35 lv6 [(.ref b_11), (.ref x0)])) rfl rfl (D d29_35)
 have Fw13 := f14.same W13
 have N13 := Fr.snoc X13 N11 (by omega)
 have sz16 := own_wr_le W13
 have K16 := K12.wr W13 (Or.inl (by simp))
 refine oo (S' := T13.setTop (mkF m 38 lv6 [])) st13 ?_
 refine oo (S' := T13.setTop (mkF m 97 lv6 [])) (fun _ kK => XS.goto X13.here hx rfl (pc0 := 38) (pc' := 97) rfl (D d29_38) (by decide) (by decide) kK) ?_
 have f17 := (f15.wr W13)
 have f18 := ((Fw8.keep Kq11 nin0).other W13 (Or.inr (slot_ne (Or.inr (w_ G 17 rfl)) (Or.inr (w_ G 16 rfl)) (by decide) (t := .byte) (t' := (.array .byte)) (by decide) (by decide))))
 have f19 := (r11_0.other W13 (on (by omega)))
 refine OwnEnd.ret X13 (v := none) (fun _ => rfl) hlk (fun fs hr => X13.returnOut hx Bd.returns (D d29_97) hr) (by decide) (by decide) (Q := Qst2 Z x0 v0 c9 sb vb kv w ct mu h0 n0) e13 ?_
 exact ⟨b_11, kb_11, us_11, rfl, N13, K16, f17, Fw13, f18, f19, (r11_1), (by omega)⟩

theorem own_efst1 (m : MethodId) (x0 : Addr) (sb : Addr) : entryFrame m #[(.ref x0), (.ref sb)] 2 = mkF m 0 #[vR x0, vR sb] [] := by first | (simp [entryFrame, mkF, argsToLocals, Value.category]; done) | rfl
def Qst1 (Z : State) (x0 : Addr) (v0 : Value) (c9 : Value) (sb : Addr) (vb : Addr) (kv : ClassId) (w : List Value) (ct : Int32) (mu : Nat) (h0 : Heap) (n0 : Nat) (v : Option Value) (h : Heap) (L : List Loc) : Prop := ∃ (t : Addr) (kb : ClassId) (us : List Value), v = none ∧ Fr n0 L ∧ Keep h0 h [x0] ∧ (Exa Z h x0 j1) ∧ (Fld Z h x0 j1 "value" "[B" (.ref t)) ∧ (Fld Z h x0 j1 "coder" "B" (.int 0)) ∧ (Arv Z h t kb .byte ct us (.int 0)) ∧ (∀ j, j < mu → us.getD j (.int 0) = w.getD j (.int 0)) ∧ (Array.size h0 ≤ t)
set_option maxRecDepth 65536 in
set_option maxHeartbeats 40000000 in
theorem rmst1 (l : Launch) (Z : State) (a0 : Array Value) (G : OwnG Z a0) (ws : List Jvm.Cond) (x0 : Addr) (v0 : Value) (c9 : Value) (sb : Addr) (vb : Addr) (kv : ClassId) (w : List Value) (ct : Int32) (mu : Nat) (h0 : Heap) (n0 : Nat) (O0 : Old Z n0 h0) (P0 : Exa Z h0 x0 j1) (P1 : Fld Z h0 x0 j1 "value" "[B" v0) (P2 : Fld Z h0 x0 j1 "coder" "B" c9) (P3 : n0 ≤ x0) (P4 : Exa Z h0 sb j2) (P5 : Fld Z h0 sb j0 "value" "[B" (.ref vb)) (P6 : Fld Z h0 sb j0 "coder" "B" (.int 0)) (P7 : Fld Z h0 sb j0 "count" "I" (.int ct)) (P8 : Arv Z h0 vb kv .byte (16 : Int32) w (.int 0)) (P9 : w.length = 16) (P10 : ct = Int32.ofNat mu) (P11 : mu ≤ 15) (P12 : x0 ≠ sb) (P13 : x0 ≠ vb) :
  MetFree l own_m30 (head1 (Jvm.Cond.code own_m30 B36 2 none :: ws) (rR 4 1 16 65)) (fun a U => a = #[(.ref x0), (.ref sb)] ∧ Z.Warmed39 U.vm ∧ U.heap = h0) (fun _ _ _ _ _ => True) (fun _ U o U' => ∃ v L, o = .returned v ∧ Qst1 Z x0 v0 c9 sb vb kv w ct mu h0 n0 v U'.heap L ∧ FrameEnd U o U' L (rR 4 1 16 65).cells (rR 4 1 16 65).slots) := by
 refine MetFree.of_bodySF (plainFor_of_name pn_0) hisR ?_
 intro p e s m args below meth cD s₁ Bd hml0 hP hK
 obtain ⟨rfl, hZ, hh⟩ := hP
 have hml : cD.maxLocals = 2 := hml0
 obtain ⟨hx, hby, (hown : s.vm.findClass j1 = some m.cls), hlk, X0, e0⟩ := own_st Bd hh
 have D := @hb _ _ hby
 have lt0 := lN P0.lt
 have lt1 := lN P1.lt
 have lt2 := lN P2.lt
 have lt4 := lN P4.lt
 have lt5 := lN P5.lt
 have lt6 := lN P6.lt
 have lt7 := lN P7.lt
 have lt8 := lN P8.lt
 have nP12 := own_neN P12
 have nP13 := own_neN P13
 have K0 : Keep h0 h0 [x0] := Keep.refl h0 _
 have Z0 := own_old_le O0
 have N0 := Fr.nil n0
 refine OwnEnd.start (g' := (mkF m 0 #[vR x0, vR sb] [])) (own_efst1 m x0 sb) ?_
 have sm := own_small P11
 rw [← P10] at sm
 refine oo (S' := s₁.setTop (mkF m 3 #[vR x0, vR sb] [.null, (.ref sb), (.ref x0)])) (fun _ kK => XS.aloadN X0.here hx rfl (D d30_0) rfl rfl (XS.aloadN X0.here hx rfl (D d30_1) rfl rfl (XS.aconstNull X0.here hx rfl (D d30_2) kK))) ?_
 obtain ⟨_, _, ⟨T1, L1, k1, n1⟩, -, X1, ⟨Lc1, hQ1, l1, y1, z1⟩, st1⟩ := Jvm.Stand.specialBack X0 hx (y := own_m29) rfl hown (mw hZ G 141 rfl) (mw hZ G 142 rfl) (mw hZ G 143 rfl) (by decide) (backOf (W := 0) (rmst2 l Z a0 G [] x0 v0 c9 sb vb kv w ct mu h0 n0 O0 P0 P1 P2 (by omega) P4 P5 P6 P7 P8 P9 P10 P11 (on (by omega)) (on (by omega))) hZ (w_ G 143 rfl) (w_ G 3 rfl) (by decide) (by decide)) (g := (mkF m 3 #[vR x0, vR sb] [.null, (.ref sb), (.ref x0)])) rfl (by rw [hml]; rfl) (Steps.refl _) (a := x0) (argsL := [(.ref sb), .null]) (rest := []) (lenOf pd_18 rfl) rfl (own_z rfl) (D d30_3) (fun _ _ => ⟨rfl, e0, (ol rfl), (ol rfl)⟩)
 dsimp only [Pt.U, Pt.locs, Pt.cells, Pt.slots] at X1 l1 y1 z1 st1 hQ1
 subst l1 y1 z1
 obtain ⟨t_1, kb_1, us_1, rfl, N1q, Kq1, r1_0, r1_1, r1_2, r1_3, r1_4, r1_5⟩ := hQ1
 have N1 := Fr.app N0 N1q
 have sz2 := Kq1.1
 have K2 := K0.trans Kq1 (own_all1 (Or.inl (by simp)))
 have ltr1_0 := lN r1_0.lt
 have ltr1_1 := lN r1_1.lt
 have ltr1_2 := lN r1_2.lt
 have ltr1_3 := lN r1_3.lt
 refine ot (S' := T1.setTop (mkF m 6 #[vR x0, vR sb] [])) st1 ?_
 refine OwnEnd.ret X1 (v := none) (fun _ => rfl) hlk (fun fs hr => X1.returnOut hx Bd.returns (D d30_6) hr) (by decide) (by decide) (Q := Qst1 Z x0 v0 c9 sb vb kv w ct mu h0 n0) rfl ?_
 exact ⟨t_1, kb_1, us_1, rfl, N1, K2, r1_0, r1_1, r1_2, r1_3, (r1_4), (by omega)⟩

theorem own_eftos (m : MethodId) (sb : Addr) : entryFrame m #[(.ref sb)] 1 = mkF m 0 #[vR sb] [] := by first | (simp [entryFrame, mkF, argsToLocals, Value.category]; done) | rfl
def Qtos (Z : State) (sb : Addr) (vb : Addr) (kv : ClassId) (w : List Value) (ct : Int32) (mu : Nat) (h0 : Heap) (n0 : Nat) (v : Option Value) (h : Heap) (L : List Loc) : Prop := ∃ (x : Addr) (t : Addr) (kb : ClassId) (us : List Value), v = some (.ref x) ∧ Fr n0 L ∧ Keep h0 h [] ∧ (Exa Z h x j1) ∧ (Fld Z h x j1 "value" "[B" (.ref t)) ∧ (Fld Z h x j1 "coder" "B" (.int 0)) ∧ (Arv Z h t kb .byte ct us (.int 0)) ∧ (∀ j, j < mu → us.getD j (.int 0) = w.getD j (.int 0)) ∧ (Array.size h0 ≤ t) ∧ (Array.size h0 ≤ x)
set_option maxRecDepth 65536 in
set_option maxHeartbeats 40000000 in
theorem rmtos (l : Launch) (Z : State) (a0 : Array Value) (G : OwnG Z a0) (ws : List Jvm.Cond) (sb : Addr) (vb : Addr) (kv : ClassId) (w : List Value) (ct : Int32) (mu : Nat) (h0 : Heap) (n0 : Nat) (O0 : Old Z n0 h0) (P0 : Exa Z h0 sb j2) (P1 : Fld Z h0 sb j0 "value" "[B" (.ref vb)) (P2 : Fld Z h0 sb j0 "coder" "B" (.int 0)) (P3 : Fld Z h0 sb j0 "count" "I" (.int ct)) (P4 : Arv Z h0 vb kv .byte (16 : Int32) w (.int 0)) (P5 : w.length = 16) (P6 : ct = Int32.ofNat mu) (P7 : mu ≤ 15) :
  MetFree l own_m31 (head1 (Jvm.Cond.code own_m31 B37 1 (some (.object j1)) :: ws) (rR 5 2 20 79)) (fun a U => a = #[(.ref sb)] ∧ Z.Warmed39 U.vm ∧ U.heap = h0) (fun _ _ _ _ _ => True) (fun _ U o U' => ∃ v L, o = .returned v ∧ Qtos Z sb vb kv w ct mu h0 n0 v U'.heap L ∧ FrameEnd U o U' L (rR 5 2 20 79).cells (rR 5 2 20 79).slots) := by
 refine MetFree.of_bodySF (plainFor_of_name pn_4) hisR ?_
 intro p e s m args below meth cD s₁ Bd hml0 hP hK
 obtain ⟨rfl, hZ, hh⟩ := hP
 have hml : cD.maxLocals = 1 := hml0
 obtain ⟨hx, hby, (hown : s.vm.findClass j2 = some m.cls), hlk, X0, e0⟩ := own_st Bd hh
 have D := @hb _ _ hby
 have lt0 := lN P0.lt
 have lt1 := lN P1.lt
 have lt2 := lN P2.lt
 have lt3 := lN P3.lt
 have lt4 := lN P4.lt
 have K0 : Keep h0 h0 [] := Keep.refl h0 _
 have Z0 := own_old_le O0
 have N0 := Fr.nil n0
 refine OwnEnd.start (g' := (mkF m 0 #[vR sb] [])) (own_eftos m sb) ?_
 have sm := own_small P7
 rw [← P6] at sm
 obtain ⟨T1, h1, X1, e1, E1, A1, D1, -, st1⟩ := newO X0 hx hZ hown (w_ G 137 rfl) (w_ G 2 rfl) (w_ G 3 rfl) e0 (g := (mkF m 0 #[vR sb] [])) rfl (D d31_0) (by decide) (by decide)
 obtain ⟨b1, g1⟩ : ∃ z, z = Array.size h0 := ⟨_, rfl⟩
 rw [← g1] at A1 D1 st1
 have lt_b1 := lN A1.lt
 have sz2 := E1.1
 have K2 := K0.ext E1
 have O2 := O0.ext E1
 have F1_value : Fld Z h1 b1 j1 "value" "[B" .null := D1 (Or.inr (w_ G 16 rfl)) (ty := (.array .byte)) (by decide)
 have F1_coder : Fld Z h1 b1 j1 "coder" "B" (.int 0) := D1 (Or.inr (w_ G 17 rfl)) (ty := .byte) (by decide)
 refine oo (S' := T1.setTop (mkF m 3 #[vR sb] [(.ref b1)])) st1 ?_
 refine oo (S' := T1.setTop (mkF m 5 #[vR sb] [(.ref sb), (.ref b1), (.ref b1)])) (fun _ kK => XS.dup X1.here hx rfl (D d31_3) rfl rfl (XS.aloadN X1.here hx rfl (D d31_4) rfl rfl kK)) ?_
 have f3 := (P0.ext E1)
 have f4 := (P1.ext E1)
 have f5 := (P2.ext E1)
 have f6 := (P3.ext E1)
 have f7 := (P4.ext E1)
 obtain ⟨_, _, ⟨T8, L8, k8, n8⟩, -, X8, ⟨Lc8, hQ8, l8, y8, z8⟩, st8⟩ := Jvm.Stand.specialBack X1 hx (y := own_m30) rfl hown (mw hZ G 138 rfl) (mw hZ G 139 rfl) (mw hZ G 140 rfl) (by decide) (backOf (W := 1) (rmst1 l Z a0 G [] b1 .null (.int 0) sb vb kv w ct mu h1 n0 O2 A1 F1_value F1_coder (by omega) f3 f4 f5 f6 f7 P5 P6 P7 (on (by omega)) (on (by omega))) hZ (w_ G 140 rfl) (w_ G 3 rfl) (by decide) (by decide)) (g := (mkF m 5 #[vR sb] [(.ref sb), (.ref b1), (.ref b1)])) rfl (by rw [hml]; rfl) (Steps.refl _) (a := b1) (argsL := [(.ref sb)]) (rest := [(.ref b1)]) (lenOf pd_19 rfl) rfl (own_z rfl) (D d31_5) (fun _ _ => ⟨rfl, e1, (ol rfl), (ol rfl)⟩)
 dsimp only [Pt.U, Pt.locs, Pt.cells, Pt.slots] at X8 l8 y8 z8 st8 hQ8
 subst l8 y8 z8
 obtain ⟨t_8, kb_8, us_8, rfl, N8q, Kq8, r8_0, r8_1, r8_2, r8_3, r8_4, r8_5⟩ := hQ8
 have N8 := Fr.app N0 N8q
 have sz9 := Kq8.1
 have K9 := K2.trans Kq8 (own_all1 (Or.inr (by omega)))
 have ltr8_0 := lN r8_0.lt
 have ltr8_1 := lN r8_1.lt
 have ltr8_2 := lN r8_2.lt
 have ltr8_3 := lN r8_3.lt
 refine ot (S' := T8.setTop (mkF m 8 #[vR sb] [(.ref b1)])) st8 ?_
 refine OwnEnd.ret X8 (v := (some (.ref b1))) (fun h => by rw [Bd.returns] at h; cases h) hlk (fun fs hr => retOut X8 hx Bd.returns rfl (Or.inr (Or.inr (Or.inr (Or.inr ⟨rfl, rfl, rfl⟩)))) (D d31_8) hr) (by decide) (by decide) (Q := Qtos Z sb vb kv w ct mu h0 n0) rfl ?_
 exact ⟨b1, t_8, kb_8, us_8, rfl, N8, K9, r8_0, r8_1, r8_2, r8_3, (r8_4), (by omega), (by omega)⟩

theorem own_efrec (m : MethodId) (x0 : Addr) : entryFrame m #[(.ref x0)] 1 = mkF m 0 #[vR x0] [] := by first | (simp [entryFrame, mkF, argsToLocals, Value.category]; done) | rfl
def Qrec (Z : State) (x0 : Addr) (h0 : Heap) (n0 : Nat) (v : Option Value) (h : Heap) (L : List Loc) : Prop := v = none ∧ Fr n0 L ∧ h = h0
set_option maxRecDepth 65536 in
set_option maxHeartbeats 40000000 in
theorem rmrec (l : Launch) (Z : State) (a0 : Array Value) (G : OwnG Z a0) (ws : List Jvm.Cond) (x0 : Addr) (h0 : Heap) (n0 : Nat) (O0 : Old Z n0 h0)  :
  MetFree l own_m32 (head1 (Jvm.Cond.code own_m32 B38 1 none :: ws) (rR 1 0 0 12)) (fun a U => a = #[(.ref x0)] ∧ Z.Warmed39 U.vm ∧ U.heap = h0) (fun _ _ _ _ _ => True) (fun _ U o U' => ∃ v L, o = .returned v ∧ Qrec Z x0 h0 n0 v U'.heap L ∧ FrameEnd U o U' L (rR 1 0 0 12).cells (rR 1 0 0 12).slots) := by
 refine MetFree.of_bodySF (plainFor_of_name pn_7) hisR ?_
 intro p e s m args below meth cD s₁ Bd hml0 hP hK
 obtain ⟨rfl, hZ, hh⟩ := hP
 have hml : cD.maxLocals = 1 := hml0
 obtain ⟨hx, hby, (hown : s.vm.findClass "java/lang/Record" = some m.cls), hlk, X0, e0⟩ := own_st Bd hh
 have D := @hb _ _ hby
 have Z0 := own_old_le O0
 have N0 := Fr.nil n0
 refine OwnEnd.start (g' := (mkF m 0 #[vR x0] [])) (own_efrec m x0) ?_
 refine oo (S' := s₁.setTop (mkF m 1 #[vR x0] [(.ref x0)])) (fun _ kK => XS.aloadN X0.here hx rfl (D d32_0) rfl rfl kK) ?_
 obtain ⟨T1, X1, e1, st1⟩ := initO X0 hx hZ hown (w_ G 33 rfl) (w_ G 12 rfl) (w_ G 13 rfl) e0 (g := (mkF m 1 #[vR x0] [(.ref x0)])) rfl (by rw [hml]; rfl) rfl (D d32_1) (by decide) (W := 0) (own_z rfl) (by decide)
 refine oo (S' := T1.setTop (mkF m 4 #[vR x0] [])) st1 ?_
 refine OwnEnd.ret X1 (v := none) (fun _ => rfl) hlk (fun fs hr => X1.returnOut hx Bd.returns (D d32_4) hr) (by decide) (by decide) (Q := Qrec Z x0 h0 n0) e1 ?_
 exact ⟨rfl, N0, rfl⟩

theorem own_efhpi (m : MethodId) (x0 : Addr) (x1 : Addr) (P : Int32) : entryFrame m #[(.ref x0), (.ref x1), (.int P)] 3 = mkF m 0 #[vR x0, vR x1, vI P] [] := by first | (simp [entryFrame, mkF, argsToLocals, Value.category]; done) | rfl
def Qhpi (Z : State) (x0 : Addr) (x1 : Addr) (P : Int32) (u1 : Value) (u2 : Value) (h0 : Heap) (n0 : Nat) (v : Option Value) (h : Heap) (L : List Loc) : Prop := v = none ∧ Fr n0 L ∧ Keep h0 h [x0] ∧ (Exa Z h x0 j3) ∧ (Fld Z h x0 j3 "host" "Ljava/lang/String;" (.ref x1)) ∧ (Fld Z h x0 j3 "port" "I" (.int P))
set_option maxRecDepth 65536 in
set_option maxHeartbeats 40000000 in
theorem rmhpi (l : Launch) (Z : State) (a0 : Array Value) (G : OwnG Z a0) (ws : List Jvm.Cond) (x0 : Addr) (x1 : Addr) (P : Int32) (u1 : Value) (u2 : Value) (h0 : Heap) (n0 : Nat) (O0 : Old Z n0 h0) (P0 : Exa Z h0 x0 j3) (P1 : Fld Z h0 x0 j3 "host" "Ljava/lang/String;" u1) (P2 : Fld Z h0 x0 j3 "port" "I" u2) (P3 : n0 ≤ x0) :
  MetFree l own_m33 (head1 (Jvm.Cond.code own_m33 B39 3 none :: ws) (rR 2 0 0 24)) (fun a U => a = #[(.ref x0), (.ref x1), (.int P)] ∧ Z.Warmed39 U.vm ∧ U.heap = h0) (fun _ _ _ _ _ => True) (fun _ U o U' => ∃ v L, o = .returned v ∧ Qhpi Z x0 x1 P u1 u2 h0 n0 v U'.heap L ∧ FrameEnd U o U' L (rR 2 0 0 24).cells (rR 2 0 0 24).slots) := by
 refine MetFree.of_bodySF (plainFor_of_name pn_8) hisR ?_
 intro p e s m args below meth cD s₁ Bd hml0 hP hK
 obtain ⟨rfl, hZ, hh⟩ := hP
 have hml : cD.maxLocals = 3 := hml0
 have hnm := (name_of_methodNamed Bd.named Bd.method).1
 obtain ⟨hx, hby, (hown : s.vm.findClass j3 = some m.cls), hlk, X0, e0⟩ := own_st Bd hh
 have D := @hb _ _ hby
 have lt0 := lN P0.lt
 have lt1 := lN P1.lt
 have lt2 := lN P2.lt
 have K0 : Keep h0 h0 [x0] := Keep.refl h0 _
 have Z0 := own_old_le O0
 have N0 := Fr.nil n0
 refine OwnEnd.start (g' := (mkF m 0 #[vR x0, vR x1, vI P] [])) (own_efhpi m x0 x1 P) ?_
 refine oo (S' := s₁.setTop (mkF m 1 #[vR x0, vR x1, vI P] [(.ref x0)])) (fun _ kK => XS.aloadN X0.here hx rfl (D d33_0) rfl rfl kK) ?_
 obtain ⟨_, _, ⟨T1, L1, k1, n1⟩, -, X1, ⟨Lc1, hQ1, l1, y1, z1⟩, st1⟩ := Jvm.Stand.specialBack X0 hx (y := own_m32) rfl hown (mw hZ G 28 rfl) (mw hZ G 29 rfl) (mw hZ G 32 rfl) (by decide) (backOf (W := 0) (rmrec l Z a0 G [] x0 h0 n0 O0 ) hZ (w_ G 32 rfl) (w_ G 31 rfl) (by decide) (by decide)) (g := (mkF m 1 #[vR x0, vR x1, vI P] [(.ref x0)])) rfl (by rw [hml]; rfl) (Steps.refl _) (a := x0) (argsL := []) (rest := []) (lenOf pd_20 rfl) rfl (own_z rfl) (D d33_1) (fun _ _ => ⟨rfl, e0, (ol rfl), (ol rfl)⟩)
 dsimp only [Pt.U, Pt.locs, Pt.cells, Pt.slots] at X1 l1 y1 z1 st1 hQ1
 subst l1 y1 z1
 obtain ⟨rfl, N1q, eh1⟩ := hQ1
 have N1 := Fr.app N0 N1q
 refine ot (S' := T1.setTop (mkF m 4 #[vR x0, vR x1, vI P] [])) st1 ?_
 refine oo (S' := T1.setTop (mkF m 6 #[vR x0, vR x1, vI P] [(.ref x1), (.ref x0)])) (fun _ kK => XS.aloadN X1.here hx rfl (D d33_4) rfl rfl (XS.aloadN X1.here hx rfl (D d33_5) rfl rfl kK)) ?_
 obtain ⟨T2, h2, X2, e2, W2, st2⟩ := putF X1 hx hZ hown (host := "") (Or.inl (w_ G 34 rfl)) Via.refl eh1 P1 P0 (Or.inr ⟨(w_ G 35 rfl), rfl, hnm⟩) (w_ G 23 rfl) (ty := (.object j1)) (by decide) rfl rfl (g := (mkF m 6 #[vR x0, vR x1, vI P] [(.ref x1), (.ref x0)])) rfl rfl (D d33_6)
 have Fw2 := P1.same W2
 have N2 := Fr.snoc X2 N1 (by omega)
 have sz3 := own_wr_le W2
 have K3 := K0.wr W2 (Or.inl (by simp))
 refine oo (S' := T2.setTop (mkF m 9 #[vR x0, vR x1, vI P] [])) st2 ?_
 refine oo (S' := T2.setTop (mkF m 11 #[vR x0, vR x1, vI P] [(.int P), (.ref x0)])) (fun _ kK => XS.aloadN X2.here hx rfl (D d33_9) rfl rfl (XS.iloadN X2.here hx rfl (D d33_10) rfl kK)) ?_
 have f5 := (P2.other W2 (Or.inr (slot_ne (Or.inr (w_ G 37 rfl)) (Or.inr (w_ G 35 rfl)) (by decide) (t := .int) (t' := (.object j1)) (by decide) (by decide))))
 have f6 := (P0.wr W2)
 obtain ⟨T4, h4, X4, e4, W4, st4⟩ := putF X2 hx hZ hown (host := "") (Or.inl (w_ G 36 rfl)) Via.refl e2 f5 f6 (Or.inr ⟨(w_ G 37 rfl), rfl, hnm⟩) (w_ G 23 rfl) (ty := .int) (by decide) rfl rfl (g := (mkF m 11 #[vR x0, vR x1, vI P] [(.int P), (.ref x0)])) rfl rfl (D d33_11)
 have Fw4 := f5.same W4
 have N4 := Fr.snoc X4 N2 (by omega)
 have sz7 := own_wr_le W4
 have K7 := K3.wr W4 (Or.inl (by simp))
 refine oo (S' := T4.setTop (mkF m 14 #[vR x0, vR x1, vI P] [])) st4 ?_
 have f8 := (f6.wr W4)
 have f9 := (Fw2.other W4 (Or.inr (slot_ne (Or.inr (w_ G 35 rfl)) (Or.inr (w_ G 37 rfl)) (by decide) (t := (.object j1)) (t' := .int) (by decide) (by decide))))
 refine OwnEnd.ret X4 (v := none) (fun _ => rfl) hlk (fun fs hr => X4.returnOut hx Bd.returns (D d33_14) hr) (by decide) (by decide) (Q := Qhpi Z x0 x1 P u1 u2 h0 n0) e4 ?_
 exact ⟨rfl, N4, K7, f8, f9, Fw4⟩

theorem own_efht0 (m : MethodId) (hp : Addr) : entryFrame m #[(.ref hp)] 1 = mkF m 0 #[vR hp] [] := by first | (simp [entryFrame, mkF, argsToLocals, Value.category]; done) | rfl
def Qht0 (Z : State) (hp : Addr) (P : Int32) (x1 : Addr) (t1 : Addr) (k1 : ClassId) (h0 : Heap) (n0 : Nat) (v : Option Value) (h : Heap) (L : List Loc) : Prop := ∃ (x : Addr) (t : Addr) (kb : ClassId) (us : List Value), v = some (.ref x) ∧ Fr n0 L ∧ Keep h0 h [] ∧ (Exa Z h x j1) ∧ (Fld Z h x j1 "value" "[B" (.ref t)) ∧ (Fld Z h x j1 "coder" "B" (.int 0)) ∧ (Arv Z h t kb .byte ((1 : Int32) + (own_ssz P)) us (.int 0)) ∧ (own_res P 1 [(.int 58), (.int 0), (.int 0), (.int 0), (.int 0), (.int 0), (.int 0), (.int 0), (.int 0), (.int 0), (.int 0), (.int 0), (.int 0), (.int 0), (.int 0), (.int 0)] us)
set_option maxRecDepth 65536 in
set_option maxHeartbeats 40000000 in
theorem rmht0 (l : Launch) (Z : State) (a0 : Array Value) (G : OwnG Z a0) (ws : List Jvm.Cond) (hp : Addr) (P : Int32) (x1 : Addr) (t1 : Addr) (k1 : ClassId) (h0 : Heap) (n0 : Nat) (O0 : Old Z n0 h0) (P0 : Fld Z h0 hp j3 "host" "Ljava/lang/String;" (.ref x1)) (P1 : Fld Z h0 hp j3 "port" "I" (.int P)) (P2 : Exa Z h0 x1 j1) (P3 : Fld Z h0 x1 j1 "value" "[B" (.ref t1)) (P4 : Fld Z h0 x1 j1 "coder" "B" (.int 0)) (P5 : Arv Z h0 t1 k1 .byte (0 : Int32) [] (.int 0)) :
  MetFree l own_m34 (head1 (Jvm.Cond.code own_m34 B40 1 (some (.object j1)) :: ws) (rR 6 6 48 91)) (fun a U => a = #[(.ref hp)] ∧ Z.Warmed39 U.vm ∧ U.heap = h0 ∧ CHv Z consts_1 U.vm h0) (fun _ _ _ _ _ => True) (fun _ U o U' => ∃ v L, o = .returned v ∧ Qht0 Z hp P x1 t1 k1 h0 n0 v U'.heap L ∧ CHr Z consts_1 U.vm U.heap U'.vm U'.heap ∧ ReturnedEndW U o U' L (rR 6 6 48 91).cells (rR 6 6 48 91).slots) := by
 refine MetFree.of_bodySF (plainFor_of_name pn_8) hisR ?_
 intro p e s m args below meth cD s₁ Bd hml0 hP hK
 obtain ⟨rfl, hZ, hh, hCH⟩ := hP
 have hml : cD.maxLocals = 1 := hml0
 obtain ⟨hx, hby, (hown : s.vm.findClass j3 = some m.cls), hlk, X0, e0⟩ := own_st Bd hh
 have D := @hb _ _ hby
 have lt0 := lN P0.lt
 have lt1 := lN P1.lt
 have lt2 := lN P2.lt
 have lt3 := lN P3.lt
 have lt4 := lN P4.lt
 have lt5 := lN P5.lt
 have K0 : Keep h0 h0 [] := Keep.refl h0 _
 have Z0 := own_old_le O0
 have N0 := Fr.nil n0
 have X0w : Stand p l e (rR 6 6 48 91) (s.setVm s.vm) m #[(.ref hp)] below meth cD s₁ [] 0 0 := X0
 have Si0 : s.Since s.vm (Array.size h0) := (State.WarmedH.refl s).since _
 have RR0 : CHr Z consts_1 s.vm h0 s.vm h0 := CHr.refl hCH
 refine OwnEnd.start (g' := (mkF m 0 #[vR hp] [])) (own_efht0 m hp) ?_
 obtain ⟨T1, h1, X1, e1, E1, A1, D1, -, st1⟩ := newO X0w hx hZ hown (w_ G 43 rfl) (w_ G 44 rfl) (w_ G 45 rfl) e0 (g := (mkF m 0 #[vR hp] [])) rfl (D d34_0) (by decide) (by decide)
 obtain ⟨b1, g1⟩ : ∃ z, z = Array.size h0 := ⟨_, rfl⟩
 rw [← g1] at A1 D1 st1
 have lt_b1 := lN A1.lt
 have sz2 := E1.1
 have K2 := K0.ext E1
 have O2 := O0.ext E1
 have R2 := CHr.ext E1 hCH
 have CH2 := R2.1
 have RR2 := RR0.trans R2
 have Sf1 : Safe Z consts_1 s.vm h1 b1 := Safe.ext E1 hCH (Safe.new (by omega))
 have F1_value : Fld Z h1 b1 j0 "value" "[B" .null := D1 (Or.inl (w_ G 58 rfl)) (ty := (.array .byte)) (by decide)
 have F1_coder : Fld Z h1 b1 j0 "coder" "B" (.int 0) := D1 (Or.inl (w_ G 60 rfl)) (ty := .byte) (by decide)
 have F1_count : Fld Z h1 b1 j0 "count" "I" (.int 0) := D1 (Or.inl (w_ G 83 rfl)) (ty := .int) (by decide)
 refine oo (S' := T1.setTop (mkF m 3 #[vR hp] [(.ref b1)])) st1 ?_
 refine oo (S' := T1.setTop (mkF m 4 #[vR hp] [(.ref b1), (.ref b1)])) (fun _ kK => XS.dup X1.here hx rfl (D d34_3) rfl rfl kK) ?_
 obtain ⟨_, _, ⟨T3, L3, k3, n3⟩, -, X3, ⟨Lc3, hQ3, l3, y3, z3⟩, st3⟩ := Jvm.Stand.specialBack X1 hx (y := own_m11) rfl hown (mw hZ G 46 rfl) (mw hZ G 47 rfl) (mw hZ G 48 rfl) (by decide) (backOf (W := 1) (rmsbi l Z a0 G [] b1 .null (.int 0) h1 n0 O2 A1 F1_value F1_coder F1_count (by omega)) hZ (w_ G 48 rfl) (w_ G 45 rfl) (by decide) (by decide)) (g := (mkF m 4 #[vR hp] [(.ref b1), (.ref b1)])) rfl (by rw [hml]; rfl) (Steps.refl _) (a := b1) (argsL := []) (rest := [(.ref b1)]) (lenOf pd_20 rfl) rfl (own_z rfl) (D d34_4) (fun _ _ => ⟨rfl, e1, (ol rfl), (ol rfl)⟩)
 dsimp only [Pt.U, Pt.locs, Pt.cells, Pt.slots] at X3 l3 y3 z3 st3 hQ3
 subst l3 y3 z3
 obtain ⟨vb_3, kv_3, rfl, N3q, Kq3, r3_0, r3_1, r3_2, r3_3, r3_4, r3_5⟩ := hQ3
 have N3 := Fr.app N0 N3q
 have sz4 := Kq3.1
 have K4 := K2.trans Kq3 (own_all1 (Or.inr (by omega)))
 have O4 := O2.keep Kq3 (own_all1 (by omega))
 have R4 := CHr.keep Kq3 (sfS (Safe.exa hZ.alike A1 (by decide) (by decide)) sf0) CH2
 have CH4 := R4.1
 have RR4 := RR2.trans R4
 have ltr3_0 := lN r3_0.lt
 have ltr3_1 := lN r3_1.lt
 have ltr3_2 := lN r3_2.lt
 have ltr3_3 := lN r3_3.lt
 have ltr3_4 := lN r3_4.lt
 refine ot (S' := T3.setTop (mkF m 7 #[vR hp] [(.ref b1)])) st3 ?_
 refine oo (S' := T3.setTop (mkF m 8 #[vR hp] [(.ref hp), (.ref b1)])) (fun _ kK => XS.aloadN X3.here hx rfl (D d34_7) rfl rfl kK) ?_
 have f6 := ((P0.ext E1).keep Kq3 (own_nin1 (on (by omega))))
 obtain ⟨T5, X5, e5, st5⟩ := getF X3 hx hZ hown (host := "") (Or.inl (w_ G 34 rfl)) Via.refl rfl f6 (g := (mkF m 8 #[vR hp] [(.ref hp), (.ref b1)])) rfl rfl (D d34_8)
 refine oo (S' := T5.setTop (mkF m 11 #[vR hp] [(.ref x1), (.ref b1)])) st5 ?_
 have f7 := ((P2.ext E1).keep Kq3)
 have f8 := ((P3.ext E1).keep Kq3 (own_nin1 (on (by omega))))
 have f9 := ((P4.ext E1).keep Kq3 (own_nin1 (on (by omega))))
 have f10 := ((P5.ext E1).keep Kq3 (own_nin1 (on (by omega))))
 obtain ⟨cq11, kq11, q11a, q11b, q11c⟩ := isOf hZ e5 r3_0
 obtain ⟨_, _, ⟨T11, L11, k11, n11⟩, -, X11, ⟨Lc11, hQ11, l11, y11, z11⟩, st11⟩ := X5.virtualBack hx (y := own_m20) (z := own_m20) hown (mw hZ G 61 rfl) (mw hZ G 62 rfl) (notFace_of_selects (args := #[]) (mw hZ G 64 rfl)) (mw hZ G 64 rfl) (mw hZ G 63 rfl) (by decide) (backOf (W := 0) (rmsa00 l Z a0 G [] b1 vb_3 kv_3 x1 t1 k1 T3.heap n0 O4 r3_0 r3_1 r3_2 r3_3 r3_4 f7 f8 f9 f10 (by omega) (by omega) (on (by omega)) (on (by omega)) (on (by omega)) (on (by omega)) (on (by omega))) hZ (w_ G 65 rfl) (w_ G 45 rfl) (by decide) (by decide)) q11a q11c (g := (mkF m 11 #[vR hp] [(.ref x1), (.ref b1)])) rfl (by rw [hml]; rfl) (Steps.refl _) (argsL := [(.ref x1)]) (rest := []) (lenOf pd_21 rfl) rfl (own_z rfl) (D d34_11) (fun _ _ => ⟨rfl, e5, (ol rfl), (ol rfl)⟩)
 dsimp only [Pt.U, Pt.locs, Pt.cells, Pt.slots] at X11 l11 y11 z11 st11 hQ11
 subst l11 y11 z11
 obtain ⟨rfl, N11q, Kq11, r11_0, r11_1, r11_2, r11_3, r11_4⟩ := hQ11
 have N11 := Fr.app N3 N11q
 have sz12 := Kq11.1
 have K12 := K4.trans Kq11 (own_all2 (Or.inr (by omega)) (Or.inr (by omega)))
 have O12 := O4.keep Kq11 (own_all2 (by omega) (by omega))
 have f13 : Safe Z consts_1 s.vm T3.heap vb_3 := (Safe.keep Kq3 (sfS (Safe.exa hZ.alike A1 (by decide) (by decide)) sf0) CH2 (Safe.new (by omega)))
 have R12 := CHr.keep Kq11 (sfS (Safe.exa hZ.alike r3_0 (by decide) (by decide)) (sfS f13 sf0)) CH4
 have CH12 := R12.1
 have RR12 := RR4.trans R12
 have ltr11_0 := lN r11_0.lt
 have ltr11_1 := lN r11_1.lt
 have ltr11_2 := lN r11_2.lt
 have ltr11_3 := lN r11_3.lt
 have ltr11_4 := lN r11_4.lt
 refine ot (S' := T11.setTop (mkF m 14 #[vR hp] [(.ref b1)])) st11 ?_
 obtain ⟨a14, T14, h14, k14, b14, c14, X14, e14, E14, Si14, gr14, hZ14, hown14, Ex14, Fc14, Fv14, Av14, la14, lb14, R14, Lt14, ne14, st14⟩ := ldcCH (vm0 := s.vm) X11 hx hZ hown (w_ G 109 rfl) (own_wS G) rfl Si0 (by omega) (own_EW G) (by simp [consts_1]) CH12 (vs := [(.int 58)]) (z := (1 : Int32)) (by decide) (by decide) (by decide) (g := (mkF m 14 #[vR hp] [(.ref b1)])) rfl (D d34_14) (n := 4) (by first | decide | simp) (by decide) (by decide) (by decide)
 have sz15 := E14.1
 have K15 := K12.ext E14
 have O15 := O12.ext E14
 have RR14' := RR12.trans R14
 refine oo (S' := T14.setTop (mkF m 16 #[vR hp] [(.ref a14), (.ref b1)])) st14 ?_
 have f16 := (r11_0.ext E14)
 obtain ⟨na0, nb0⟩ := ne14 b1 (Safe.exa hZ14.alike f16 (by decide) (by decide))
 have na0' := own_neN na0
 have nb0' := own_neN nb0
 have f17 : Safe Z consts_1 T14.vm h14 vb_3 := (R14.safe (own_ltB (by omega)) (Safe.keep Kq11 (sfS (Safe.exa hZ.alike r3_0 (by decide) (by decide)) (sfS f13 sf0)) CH4 f13))
 obtain ⟨na1, nb1⟩ := ne14 vb_3 f17
 have na1' := own_neN na1
 have nb1' := own_neN nb1
 have f18 := (r11_1.ext E14)
 have f19 := (r11_2.ext E14)
 have f20 := (r11_3.ext E14)
 have f21 := (r11_4.ext E14)
 obtain ⟨cq22, kq22, q22a, q22b, q22c⟩ := isOf hZ14 e14 f16
 obtain ⟨_, _, ⟨T22, L22, k22, n22⟩, -, X22, ⟨Lc22, hQ22, l22, y22, z22⟩, st22⟩ := X14.virtualBack hx (y := own_m20) (z := own_m20) hown14 (mw hZ14 G 61 rfl) (mw hZ14 G 62 rfl) (notFace_of_selects (args := #[]) (mw hZ14 G 64 rfl)) (mw hZ14 G 64 rfl) (mw hZ14 G 63 rfl) (by decide) (backOf (W := 0) (rmsa01 l Z a0 G [] b1 vb_3 kv_3 a14 b14 c14 (.int 58) h14 n0 O15 f16 f18 f19 f20 f21 Ex14 Fv14 Fc14 Av14 (by omega) (by omega) (on (by omega)) (on (by omega)) (on (by omega)) (on (by omega)) (on (by omega))) hZ14 (w_ G 65 rfl) (w_ G 45 rfl) (by decide) (by decide)) q22a q22c (g := (mkF m 16 #[vR hp] [(.ref a14), (.ref b1)])) rfl (by rw [hml]; rfl) (Steps.refl _) (argsL := [(.ref a14)]) (rest := []) (lenOf pd_21 rfl) rfl (own_z rfl) (D d34_16) (fun _ _ => ⟨rfl, e14, (ol rfl), (ol rfl)⟩)
 dsimp only [Pt.U, Pt.locs, Pt.cells, Pt.slots] at X22 l22 y22 z22 st22 hQ22
 subst l22 y22 z22
 obtain ⟨rfl, N22q, Kq22, r22_0, r22_1, r22_2, r22_3, r22_4⟩ := hQ22
 have N22 := Fr.app N11 N22q
 have sz23 := Kq22.1
 have K23 := K15.trans Kq22 (own_all2 (Or.inr (by omega)) (Or.inr (by omega)))
 have O23 := O15.keep Kq22 (own_all2 (by omega) (by omega))
 have R23 := CHr.keep Kq22 (sfS (Safe.exa hZ14.alike f16 (by decide) (by decide)) (sfS f17 sf0)) R14.1
 have CH23 := R23.1
 have RR23 := RR14'.trans R23
 have ltr22_0 := lN r22_0.lt
 have ltr22_1 := lN r22_1.lt
 have ltr22_2 := lN r22_2.lt
 have ltr22_3 := lN r22_3.lt
 have ltr22_4 := lN r22_4.lt
 refine ot (S' := T22.setTop (mkF m 19 #[vR hp] [(.ref b1)])) st22 ?_
 refine oo (S' := T22.setTop (mkF m 20 #[vR hp] [(.ref hp), (.ref b1)])) (fun _ kK => XS.aloadN X22.here hx rfl (D d34_19) rfl rfl kK) ?_
 have f25 := (((((P1.ext E1).keep Kq3 (own_nin1 (on (by omega)))).keep Kq11 (own_nin2 (on (by omega)) (on (by omega)))).ext E14).keep Kq22 (own_nin2 (on (by omega)) (on (by omega))))
 obtain ⟨T24, X24, e24, st24⟩ := getF X22 hx hZ14 hown14 (host := "") (Or.inl (w_ G 36 rfl)) Via.refl rfl f25 (g := (mkF m 20 #[vR hp] [(.ref hp), (.ref b1)])) rfl rfl (D d34_20)
 refine oo (S' := T24.setTop (mkF m 23 #[vR hp] [(.int P), (.ref b1)])) st24 ?_
 obtain ⟨cq26, kq26, q26a, q26b, q26c⟩ := isOf hZ14 e24 r22_0
 obtain ⟨_, _, ⟨T26, L26, k26, n26⟩, -, X26, ⟨Lc26, hQ26, l26, y26, z26⟩, st26⟩ := X24.virtualBack hx (y := own_m24) (z := own_m24) hown14 (mw hZ14 G 110 rfl) (mw hZ14 G 111 rfl) (notFace_of_selects (args := #[]) (mw hZ14 G 113 rfl)) (mw hZ14 G 113 rfl) (mw hZ14 G 112 rfl) (by decide) (backOf (W := 0) (rmsi l Z a0 G [] b1 vb_3 kv_3 P (1 : Int32) [(.int 58), (.int 0), (.int 0), (.int 0), (.int 0), (.int 0), (.int 0), (.int 0), (.int 0), (.int 0), (.int 0), (.int 0), (.int 0), (.int 0), (.int 0), (.int 0)] 1 T22.heap n0 O23 r22_0 r22_1 r22_2 r22_3 r22_4 (by omega) (by omega) (on (by omega)) rfl (by decide) (by decide)) hZ14 (w_ G 114 rfl) (w_ G 45 rfl) (by decide) (by decide)) q26a q26c (g := (mkF m 23 #[vR hp] [(.int P), (.ref b1)])) rfl (by rw [hml]; rfl) (Steps.refl _) (argsL := [(.int P)]) (rest := []) (lenOf pd_22 rfl) rfl (own_z rfl) (D d34_23) (fun _ _ => ⟨rfl, e24, (ol rfl), (ol rfl)⟩)
 dsimp only [Pt.U, Pt.locs, Pt.cells, Pt.slots] at X26 l26 y26 z26 st26 hQ26
 subst l26 y26 z26
 obtain ⟨w_26, rfl, N26q, Kq26, r26_0, r26_1, r26_2, r26_3, r26_4, r26_5⟩ := hQ26
 have N26 := Fr.app N22 N26q
 have sz27 := Kq26.1
 have K27 := K23.trans Kq26 (own_all2 (Or.inr (by omega)) (Or.inr (by omega)))
 have O27 := O23.keep Kq26 (own_all2 (by omega) (by omega))
 have f28 : Safe Z consts_1 T14.vm T22.heap vb_3 := (Safe.keep Kq22 (sfS (Safe.exa hZ14.alike f16 (by decide) (by decide)) (sfS f17 sf0)) R14.1 f17)
 have R27 := CHr.keep Kq26 (sfS (Safe.exa hZ14.alike r22_0 (by decide) (by decide)) (sfS f28 sf0)) CH23
 have CH27 := R27.1
 have RR27 := RR23.trans R27
 have ltr26_0 := lN r26_0.lt
 have ltr26_1 := lN r26_1.lt
 have ltr26_2 := lN r26_2.lt
 have ltr26_3 := lN r26_3.lt
 have ltr26_4 := lN r26_4.lt
 refine ot (S' := T26.setTop (mkF m 26 #[vR hp] [(.ref b1)])) st26 ?_
 obtain ⟨cq29, kq29, q29a, q29b, q29c⟩ := isOf hZ14 rfl r26_0
 obtain ⟨_, _, ⟨T29, L29, k29, n29⟩, -, X29, ⟨Lc29, hQ29, l29, y29, z29⟩, st29⟩ := X26.virtualBack hx (y := own_m31) (z := own_m31) hown14 (mw hZ14 G 132 rfl) (mw hZ14 G 133 rfl) (notFace_of_selects (args := #[]) (mw hZ14 G 135 rfl)) (mw hZ14 G 135 rfl) (mw hZ14 G 134 rfl) (by decide) (backOf (W := 0) (rmtos l Z a0 G [] b1 vb_3 kv_3 w_26 ((1 : Int32) + (own_ssz P)) (1 + (own_nd (own_n P) + own_sg P)) T26.heap n0 O27 r26_0 r26_1 r26_2 r26_3 r26_4 r26_5.1 (own_ct P 1) (own_le15 P (c := 1) (by decide))) hZ14 (w_ G 136 rfl) (w_ G 45 rfl) (by decide) (by decide)) q29a q29c (g := (mkF m 26 #[vR hp] [(.ref b1)])) rfl (by rw [hml]; rfl) (Steps.refl _) (argsL := []) (rest := []) (lenOf pd_23 rfl) rfl (own_z rfl) (D d34_26) (fun _ _ => ⟨rfl, rfl, (ol rfl), (ol rfl)⟩)
 dsimp only [Pt.U, Pt.locs, Pt.cells, Pt.slots] at X29 l29 y29 z29 st29 hQ29
 subst l29 y29 z29
 obtain ⟨x_29, t_29, kb_29, us_29, rfl, N29q, Kq29, r29_0, r29_1, r29_2, r29_3, r29_4, r29_5, r29_6⟩ := hQ29
 have N29 := Fr.app N26 N29q
 have sz30 := Kq29.1
 have K30 := K27.trans Kq29 (own_all0 )
 have R30 := CHr.keep Kq29 (sf0) CH27
 have CH30 := R30.1
 have RR30 := RR27.trans R30
 have ltr29_0 := lN r29_0.lt
 have ltr29_1 := lN r29_1.lt
 have ltr29_2 := lN r29_2.lt
 have ltr29_3 := lN r29_3.lt
 refine ot (S' := T29.setTop (mkF m 29 #[vR hp] [(.ref x_29)])) st29 ?_
 refine OwnEnd.retC hh (own_EW G) hZ14 X29 Si14 (by omega) (v := (some (.ref x_29))) (fun h => by rw [Bd.returns] at h; cases h) hlk (fun fs hr => retOut X29 hx Bd.returns rfl (Or.inr (Or.inr (Or.inr (Or.inr ⟨rfl, rfl, rfl⟩)))) (D d34_29) hr) (by decide) (by decide) (Q := Qht0 Z hp P x1 t1 k1 h0 n0) rfl RR30 ?_
 exact ⟨x_29, t_29, kb_29, us_29, rfl, N29, K30, r29_0, r29_1, r29_2, r29_3, (own_resG r26_5 r29_4)⟩

theorem own_efht1 (m : MethodId) (hp : Addr) : entryFrame m #[(.ref hp)] 1 = mkF m 0 #[vR hp] [] := by first | (simp [entryFrame, mkF, argsToLocals, Value.category]; done) | rfl
def Qht1 (Z : State) (hp : Addr) (P : Int32) (x1 : Addr) (t1 : Addr) (k1 : ClassId) (w0 : Value) (h0 : Heap) (n0 : Nat) (v : Option Value) (h : Heap) (L : List Loc) : Prop := ∃ (x : Addr) (t : Addr) (kb : ClassId) (us : List Value), v = some (.ref x) ∧ Fr n0 L ∧ Keep h0 h [] ∧ (Exa Z h x j1) ∧ (Fld Z h x j1 "value" "[B" (.ref t)) ∧ (Fld Z h x j1 "coder" "B" (.int 0)) ∧ (Arv Z h t kb .byte ((2 : Int32) + (own_ssz P)) us (.int 0)) ∧ (own_res P 2 [w0, (.int 58), (.int 0), (.int 0), (.int 0), (.int 0), (.int 0), (.int 0), (.int 0), (.int 0), (.int 0), (.int 0), (.int 0), (.int 0), (.int 0), (.int 0)] us)
set_option maxRecDepth 65536 in
set_option maxHeartbeats 40000000 in
theorem rmht1 (l : Launch) (Z : State) (a0 : Array Value) (G : OwnG Z a0) (ws : List Jvm.Cond) (hp : Addr) (P : Int32) (x1 : Addr) (t1 : Addr) (k1 : ClassId) (w0 : Value) (h0 : Heap) (n0 : Nat) (O0 : Old Z n0 h0) (P0 : Fld Z h0 hp j3 "host" "Ljava/lang/String;" (.ref x1)) (P1 : Fld Z h0 hp j3 "port" "I" (.int P)) (P2 : Exa Z h0 x1 j1) (P3 : Fld Z h0 x1 j1 "value" "[B" (.ref t1)) (P4 : Fld Z h0 x1 j1 "coder" "B" (.int 0)) (P5 : Arv Z h0 t1 k1 .byte (1 : Int32) [w0] (.int 0)) :
  MetFree l own_m34 (head1 (Jvm.Cond.code own_m34 B40 1 (some (.object j1)) :: ws) (rR 6 6 48 91)) (fun a U => a = #[(.ref hp)] ∧ Z.Warmed39 U.vm ∧ U.heap = h0 ∧ CHv Z consts_1 U.vm h0) (fun _ _ _ _ _ => True) (fun _ U o U' => ∃ v L, o = .returned v ∧ Qht1 Z hp P x1 t1 k1 w0 h0 n0 v U'.heap L ∧ CHr Z consts_1 U.vm U.heap U'.vm U'.heap ∧ ReturnedEndW U o U' L (rR 6 6 48 91).cells (rR 6 6 48 91).slots) := by
 refine MetFree.of_bodySF (plainFor_of_name pn_8) hisR ?_
 intro p e s m args below meth cD s₁ Bd hml0 hP hK
 obtain ⟨rfl, hZ, hh, hCH⟩ := hP
 have hml : cD.maxLocals = 1 := hml0
 obtain ⟨hx, hby, (hown : s.vm.findClass j3 = some m.cls), hlk, X0, e0⟩ := own_st Bd hh
 have D := @hb _ _ hby
 have lt0 := lN P0.lt
 have lt1 := lN P1.lt
 have lt2 := lN P2.lt
 have lt3 := lN P3.lt
 have lt4 := lN P4.lt
 have lt5 := lN P5.lt
 have K0 : Keep h0 h0 [] := Keep.refl h0 _
 have Z0 := own_old_le O0
 have N0 := Fr.nil n0
 have X0w : Stand p l e (rR 6 6 48 91) (s.setVm s.vm) m #[(.ref hp)] below meth cD s₁ [] 0 0 := X0
 have Si0 : s.Since s.vm (Array.size h0) := (State.WarmedH.refl s).since _
 have RR0 : CHr Z consts_1 s.vm h0 s.vm h0 := CHr.refl hCH
 refine OwnEnd.start (g' := (mkF m 0 #[vR hp] [])) (own_efht1 m hp) ?_
 obtain ⟨T1, h1, X1, e1, E1, A1, D1, -, st1⟩ := newO X0w hx hZ hown (w_ G 43 rfl) (w_ G 44 rfl) (w_ G 45 rfl) e0 (g := (mkF m 0 #[vR hp] [])) rfl (D d34_0) (by decide) (by decide)
 obtain ⟨b1, g1⟩ : ∃ z, z = Array.size h0 := ⟨_, rfl⟩
 rw [← g1] at A1 D1 st1
 have lt_b1 := lN A1.lt
 have sz2 := E1.1
 have K2 := K0.ext E1
 have O2 := O0.ext E1
 have R2 := CHr.ext E1 hCH
 have CH2 := R2.1
 have RR2 := RR0.trans R2
 have Sf1 : Safe Z consts_1 s.vm h1 b1 := Safe.ext E1 hCH (Safe.new (by omega))
 have F1_value : Fld Z h1 b1 j0 "value" "[B" .null := D1 (Or.inl (w_ G 58 rfl)) (ty := (.array .byte)) (by decide)
 have F1_coder : Fld Z h1 b1 j0 "coder" "B" (.int 0) := D1 (Or.inl (w_ G 60 rfl)) (ty := .byte) (by decide)
 have F1_count : Fld Z h1 b1 j0 "count" "I" (.int 0) := D1 (Or.inl (w_ G 83 rfl)) (ty := .int) (by decide)
 refine oo (S' := T1.setTop (mkF m 3 #[vR hp] [(.ref b1)])) st1 ?_
 refine oo (S' := T1.setTop (mkF m 4 #[vR hp] [(.ref b1), (.ref b1)])) (fun _ kK => XS.dup X1.here hx rfl (D d34_3) rfl rfl kK) ?_
 obtain ⟨_, _, ⟨T3, L3, k3, n3⟩, -, X3, ⟨Lc3, hQ3, l3, y3, z3⟩, st3⟩ := Jvm.Stand.specialBack X1 hx (y := own_m11) rfl hown (mw hZ G 46 rfl) (mw hZ G 47 rfl) (mw hZ G 48 rfl) (by decide) (backOf (W := 1) (rmsbi l Z a0 G [] b1 .null (.int 0) h1 n0 O2 A1 F1_value F1_coder F1_count (by omega)) hZ (w_ G 48 rfl) (w_ G 45 rfl) (by decide) (by decide)) (g := (mkF m 4 #[vR hp] [(.ref b1), (.ref b1)])) rfl (by rw [hml]; rfl) (Steps.refl _) (a := b1) (argsL := []) (rest := [(.ref b1)]) (lenOf pd_20 rfl) rfl (own_z rfl) (D d34_4) (fun _ _ => ⟨rfl, e1, (ol rfl), (ol rfl)⟩)
 dsimp only [Pt.U, Pt.locs, Pt.cells, Pt.slots] at X3 l3 y3 z3 st3 hQ3
 subst l3 y3 z3
 obtain ⟨vb_3, kv_3, rfl, N3q, Kq3, r3_0, r3_1, r3_2, r3_3, r3_4, r3_5⟩ := hQ3
 have N3 := Fr.app N0 N3q
 have sz4 := Kq3.1
 have K4 := K2.trans Kq3 (own_all1 (Or.inr (by omega)))
 have O4 := O2.keep Kq3 (own_all1 (by omega))
 have R4 := CHr.keep Kq3 (sfS (Safe.exa hZ.alike A1 (by decide) (by decide)) sf0) CH2
 have CH4 := R4.1
 have RR4 := RR2.trans R4
 have ltr3_0 := lN r3_0.lt
 have ltr3_1 := lN r3_1.lt
 have ltr3_2 := lN r3_2.lt
 have ltr3_3 := lN r3_3.lt
 have ltr3_4 := lN r3_4.lt
 refine ot (S' := T3.setTop (mkF m 7 #[vR hp] [(.ref b1)])) st3 ?_
 refine oo (S' := T3.setTop (mkF m 8 #[vR hp] [(.ref hp), (.ref b1)])) (fun _ kK => XS.aloadN X3.here hx rfl (D d34_7) rfl rfl kK) ?_
 have f6 := ((P0.ext E1).keep Kq3 (own_nin1 (on (by omega))))
 obtain ⟨T5, X5, e5, st5⟩ := getF X3 hx hZ hown (host := "") (Or.inl (w_ G 34 rfl)) Via.refl rfl f6 (g := (mkF m 8 #[vR hp] [(.ref hp), (.ref b1)])) rfl rfl (D d34_8)
 refine oo (S' := T5.setTop (mkF m 11 #[vR hp] [(.ref x1), (.ref b1)])) st5 ?_
 have f7 := ((P2.ext E1).keep Kq3)
 have f8 := ((P3.ext E1).keep Kq3 (own_nin1 (on (by omega))))
 have f9 := ((P4.ext E1).keep Kq3 (own_nin1 (on (by omega))))
 have f10 := ((P5.ext E1).keep Kq3 (own_nin1 (on (by omega))))
 obtain ⟨cq11, kq11, q11a, q11b, q11c⟩ := isOf hZ e5 r3_0
 obtain ⟨_, _, ⟨T11, L11, k11, n11⟩, -, X11, ⟨Lc11, hQ11, l11, y11, z11⟩, st11⟩ := X5.virtualBack hx (y := own_m20) (z := own_m20) hown (mw hZ G 61 rfl) (mw hZ G 62 rfl) (notFace_of_selects (args := #[]) (mw hZ G 64 rfl)) (mw hZ G 64 rfl) (mw hZ G 63 rfl) (by decide) (backOf (W := 0) (rmsa01 l Z a0 G [] b1 vb_3 kv_3 x1 t1 k1 w0 T3.heap n0 O4 r3_0 r3_1 r3_2 r3_3 r3_4 f7 f8 f9 f10 (by omega) (by omega) (on (by omega)) (on (by omega)) (on (by omega)) (on (by omega)) (on (by omega))) hZ (w_ G 65 rfl) (w_ G 45 rfl) (by decide) (by decide)) q11a q11c (g := (mkF m 11 #[vR hp] [(.ref x1), (.ref b1)])) rfl (by rw [hml]; rfl) (Steps.refl _) (argsL := [(.ref x1)]) (rest := []) (lenOf pd_21 rfl) rfl (own_z rfl) (D d34_11) (fun _ _ => ⟨rfl, e5, (ol rfl), (ol rfl)⟩)
 dsimp only [Pt.U, Pt.locs, Pt.cells, Pt.slots] at X11 l11 y11 z11 st11 hQ11
 subst l11 y11 z11
 obtain ⟨rfl, N11q, Kq11, r11_0, r11_1, r11_2, r11_3, r11_4⟩ := hQ11
 have N11 := Fr.app N3 N11q
 have sz12 := Kq11.1
 have K12 := K4.trans Kq11 (own_all2 (Or.inr (by omega)) (Or.inr (by omega)))
 have O12 := O4.keep Kq11 (own_all2 (by omega) (by omega))
 have f13 : Safe Z consts_1 s.vm T3.heap vb_3 := (Safe.keep Kq3 (sfS (Safe.exa hZ.alike A1 (by decide) (by decide)) sf0) CH2 (Safe.new (by omega)))
 have R12 := CHr.keep Kq11 (sfS (Safe.exa hZ.alike r3_0 (by decide) (by decide)) (sfS f13 sf0)) CH4
 have CH12 := R12.1
 have RR12 := RR4.trans R12
 have ltr11_0 := lN r11_0.lt
 have ltr11_1 := lN r11_1.lt
 have ltr11_2 := lN r11_2.lt
 have ltr11_3 := lN r11_3.lt
 have ltr11_4 := lN r11_4.lt
 refine ot (S' := T11.setTop (mkF m 14 #[vR hp] [(.ref b1)])) st11 ?_
 obtain ⟨a14, T14, h14, k14, b14, c14, X14, e14, E14, Si14, gr14, hZ14, hown14, Ex14, Fc14, Fv14, Av14, la14, lb14, R14, Lt14, ne14, st14⟩ := ldcCH (vm0 := s.vm) X11 hx hZ hown (w_ G 109 rfl) (own_wS G) rfl Si0 (by omega) (own_EW G) (by simp [consts_1]) CH12 (vs := [(.int 58)]) (z := (1 : Int32)) (by decide) (by decide) (by decide) (g := (mkF m 14 #[vR hp] [(.ref b1)])) rfl (D d34_14) (n := 4) (by first | decide | simp) (by decide) (by decide) (by decide)
 have sz15 := E14.1
 have K15 := K12.ext E14
 have O15 := O12.ext E14
 have RR14' := RR12.trans R14
 refine oo (S' := T14.setTop (mkF m 16 #[vR hp] [(.ref a14), (.ref b1)])) st14 ?_
 have f16 := (r11_0.ext E14)
 obtain ⟨na0, nb0⟩ := ne14 b1 (Safe.exa hZ14.alike f16 (by decide) (by decide))
 have na0' := own_neN na0
 have nb0' := own_neN nb0
 have f17 : Safe Z consts_1 T14.vm h14 vb_3 := (R14.safe (own_ltB (by omega)) (Safe.keep Kq11 (sfS (Safe.exa hZ.alike r3_0 (by decide) (by decide)) (sfS f13 sf0)) CH4 f13))
 obtain ⟨na1, nb1⟩ := ne14 vb_3 f17
 have na1' := own_neN na1
 have nb1' := own_neN nb1
 have f18 := (r11_1.ext E14)
 have f19 := (r11_2.ext E14)
 have f20 := (r11_3.ext E14)
 have f21 := (r11_4.ext E14)
 obtain ⟨cq22, kq22, q22a, q22b, q22c⟩ := isOf hZ14 e14 f16
 obtain ⟨_, _, ⟨T22, L22, k22, n22⟩, -, X22, ⟨Lc22, hQ22, l22, y22, z22⟩, st22⟩ := X14.virtualBack hx (y := own_m20) (z := own_m20) hown14 (mw hZ14 G 61 rfl) (mw hZ14 G 62 rfl) (notFace_of_selects (args := #[]) (mw hZ14 G 64 rfl)) (mw hZ14 G 64 rfl) (mw hZ14 G 63 rfl) (by decide) (backOf (W := 0) (rmsa11 l Z a0 G [] b1 vb_3 kv_3 w0 a14 b14 c14 (.int 58) h14 n0 O15 f16 f18 f19 f20 f21 Ex14 Fv14 Fc14 Av14 (by omega) (by omega) (on (by omega)) (on (by omega)) (on (by omega)) (on (by omega)) (on (by omega))) hZ14 (w_ G 65 rfl) (w_ G 45 rfl) (by decide) (by decide)) q22a q22c (g := (mkF m 16 #[vR hp] [(.ref a14), (.ref b1)])) rfl (by rw [hml]; rfl) (Steps.refl _) (argsL := [(.ref a14)]) (rest := []) (lenOf pd_21 rfl) rfl (own_z rfl) (D d34_16) (fun _ _ => ⟨rfl, e14, (ol rfl), (ol rfl)⟩)
 dsimp only [Pt.U, Pt.locs, Pt.cells, Pt.slots] at X22 l22 y22 z22 st22 hQ22
 subst l22 y22 z22
 obtain ⟨rfl, N22q, Kq22, r22_0, r22_1, r22_2, r22_3, r22_4⟩ := hQ22
 have N22 := Fr.app N11 N22q
 have sz23 := Kq22.1
 have K23 := K15.trans Kq22 (own_all2 (Or.inr (by omega)) (Or.inr (by omega)))
 have O23 := O15.keep Kq22 (own_all2 (by omega) (by omega))
 have R23 := CHr.keep Kq22 (sfS (Safe.exa hZ14.alike f16 (by decide) (by decide)) (sfS f17 sf0)) R14.1
 have CH23 := R23.1
 have RR23 := RR14'.trans R23
 have ltr22_0 := lN r22_0.lt
 have ltr22_1 := lN r22_1.lt
 have ltr22_2 := lN r22_2.lt
 have ltr22_3 := lN r22_3.lt
 have ltr22_4 := lN r22_4.lt
 refine ot (S' := T22.setTop (mkF m 19 #[vR hp] [(.ref b1)])) st22 ?_
 refine oo (S' := T22.setTop (mkF m 20 #[vR hp] [(.ref hp), (.ref b1)])) (fun _ kK => XS.aloadN X22.here hx rfl (D d34_19) rfl rfl kK) ?_
 have f25 := (((((P1.ext E1).keep Kq3 (own_nin1 (on (by omega)))).keep Kq11 (own_nin2 (on (by omega)) (on (by omega)))).ext E14).keep Kq22 (own_nin2 (on (by omega)) (on (by omega))))
 obtain ⟨T24, X24, e24, st24⟩ := getF X22 hx hZ14 hown14 (host := "") (Or.inl (w_ G 36 rfl)) Via.refl rfl f25 (g := (mkF m 20 #[vR hp] [(.ref hp), (.ref b1)])) rfl rfl (D d34_20)
 refine oo (S' := T24.setTop (mkF m 23 #[vR hp] [(.int P), (.ref b1)])) st24 ?_
 obtain ⟨cq26, kq26, q26a, q26b, q26c⟩ := isOf hZ14 e24 r22_0
 obtain ⟨_, _, ⟨T26, L26, k26, n26⟩, -, X26, ⟨Lc26, hQ26, l26, y26, z26⟩, st26⟩ := X24.virtualBack hx (y := own_m24) (z := own_m24) hown14 (mw hZ14 G 110 rfl) (mw hZ14 G 111 rfl) (notFace_of_selects (args := #[]) (mw hZ14 G 113 rfl)) (mw hZ14 G 113 rfl) (mw hZ14 G 112 rfl) (by decide) (backOf (W := 0) (rmsi l Z a0 G [] b1 vb_3 kv_3 P (2 : Int32) [w0, (.int 58), (.int 0), (.int 0), (.int 0), (.int 0), (.int 0), (.int 0), (.int 0), (.int 0), (.int 0), (.int 0), (.int 0), (.int 0), (.int 0), (.int 0)] 2 T22.heap n0 O23 r22_0 r22_1 r22_2 r22_3 r22_4 (by omega) (by omega) (on (by omega)) rfl (by decide) (by decide)) hZ14 (w_ G 114 rfl) (w_ G 45 rfl) (by decide) (by decide)) q26a q26c (g := (mkF m 23 #[vR hp] [(.int P), (.ref b1)])) rfl (by rw [hml]; rfl) (Steps.refl _) (argsL := [(.int P)]) (rest := []) (lenOf pd_22 rfl) rfl (own_z rfl) (D d34_23) (fun _ _ => ⟨rfl, e24, (ol rfl), (ol rfl)⟩)
 dsimp only [Pt.U, Pt.locs, Pt.cells, Pt.slots] at X26 l26 y26 z26 st26 hQ26
 subst l26 y26 z26
 obtain ⟨w_26, rfl, N26q, Kq26, r26_0, r26_1, r26_2, r26_3, r26_4, r26_5⟩ := hQ26
 have N26 := Fr.app N22 N26q
 have sz27 := Kq26.1
 have K27 := K23.trans Kq26 (own_all2 (Or.inr (by omega)) (Or.inr (by omega)))
 have O27 := O23.keep Kq26 (own_all2 (by omega) (by omega))
 have f28 : Safe Z consts_1 T14.vm T22.heap vb_3 := (Safe.keep Kq22 (sfS (Safe.exa hZ14.alike f16 (by decide) (by decide)) (sfS f17 sf0)) R14.1 f17)
 have R27 := CHr.keep Kq26 (sfS (Safe.exa hZ14.alike r22_0 (by decide) (by decide)) (sfS f28 sf0)) CH23
 have CH27 := R27.1
 have RR27 := RR23.trans R27
 have ltr26_0 := lN r26_0.lt
 have ltr26_1 := lN r26_1.lt
 have ltr26_2 := lN r26_2.lt
 have ltr26_3 := lN r26_3.lt
 have ltr26_4 := lN r26_4.lt
 refine ot (S' := T26.setTop (mkF m 26 #[vR hp] [(.ref b1)])) st26 ?_
 obtain ⟨cq29, kq29, q29a, q29b, q29c⟩ := isOf hZ14 rfl r26_0
 obtain ⟨_, _, ⟨T29, L29, k29, n29⟩, -, X29, ⟨Lc29, hQ29, l29, y29, z29⟩, st29⟩ := X26.virtualBack hx (y := own_m31) (z := own_m31) hown14 (mw hZ14 G 132 rfl) (mw hZ14 G 133 rfl) (notFace_of_selects (args := #[]) (mw hZ14 G 135 rfl)) (mw hZ14 G 135 rfl) (mw hZ14 G 134 rfl) (by decide) (backOf (W := 0) (rmtos l Z a0 G [] b1 vb_3 kv_3 w_26 ((2 : Int32) + (own_ssz P)) (2 + (own_nd (own_n P) + own_sg P)) T26.heap n0 O27 r26_0 r26_1 r26_2 r26_3 r26_4 r26_5.1 (own_ct P 2) (own_le15 P (c := 2) (by decide))) hZ14 (w_ G 136 rfl) (w_ G 45 rfl) (by decide) (by decide)) q29a q29c (g := (mkF m 26 #[vR hp] [(.ref b1)])) rfl (by rw [hml]; rfl) (Steps.refl _) (argsL := []) (rest := []) (lenOf pd_23 rfl) rfl (own_z rfl) (D d34_26) (fun _ _ => ⟨rfl, rfl, (ol rfl), (ol rfl)⟩)
 dsimp only [Pt.U, Pt.locs, Pt.cells, Pt.slots] at X29 l29 y29 z29 st29 hQ29
 subst l29 y29 z29
 obtain ⟨x_29, t_29, kb_29, us_29, rfl, N29q, Kq29, r29_0, r29_1, r29_2, r29_3, r29_4, r29_5, r29_6⟩ := hQ29
 have N29 := Fr.app N26 N29q
 have sz30 := Kq29.1
 have K30 := K27.trans Kq29 (own_all0 )
 have R30 := CHr.keep Kq29 (sf0) CH27
 have CH30 := R30.1
 have RR30 := RR27.trans R30
 have ltr29_0 := lN r29_0.lt
 have ltr29_1 := lN r29_1.lt
 have ltr29_2 := lN r29_2.lt
 have ltr29_3 := lN r29_3.lt
 refine ot (S' := T29.setTop (mkF m 29 #[vR hp] [(.ref x_29)])) st29 ?_
 refine OwnEnd.retC hh (own_EW G) hZ14 X29 Si14 (by omega) (v := (some (.ref x_29))) (fun h => by rw [Bd.returns] at h; cases h) hlk (fun fs hr => retOut X29 hx Bd.returns rfl (Or.inr (Or.inr (Or.inr (Or.inr ⟨rfl, rfl, rfl⟩)))) (D d34_29) hr) (by decide) (by decide) (Q := Qht1 Z hp P x1 t1 k1 w0 h0 n0) rfl RR30 ?_
 exact ⟨x_29, t_29, kb_29, us_29, rfl, N29, K30, r29_0, r29_1, r29_2, r29_3, (own_resG r26_5 r29_4)⟩

theorem own_efht2 (m : MethodId) (hp : Addr) : entryFrame m #[(.ref hp)] 1 = mkF m 0 #[vR hp] [] := by first | (simp [entryFrame, mkF, argsToLocals, Value.category]; done) | rfl
def Qht2 (Z : State) (hp : Addr) (P : Int32) (x1 : Addr) (t1 : Addr) (k1 : ClassId) (w0 : Value) (w1 : Value) (h0 : Heap) (n0 : Nat) (v : Option Value) (h : Heap) (L : List Loc) : Prop := ∃ (x : Addr) (t : Addr) (kb : ClassId) (us : List Value), v = some (.ref x) ∧ Fr n0 L ∧ Keep h0 h [] ∧ (Exa Z h x j1) ∧ (Fld Z h x j1 "value" "[B" (.ref t)) ∧ (Fld Z h x j1 "coder" "B" (.int 0)) ∧ (Arv Z h t kb .byte ((3 : Int32) + (own_ssz P)) us (.int 0)) ∧ (own_res P 3 [w0, w1, (.int 58), (.int 0), (.int 0), (.int 0), (.int 0), (.int 0), (.int 0), (.int 0), (.int 0), (.int 0), (.int 0), (.int 0), (.int 0), (.int 0)] us)
set_option maxRecDepth 65536 in
set_option maxHeartbeats 40000000 in
theorem rmht2 (l : Launch) (Z : State) (a0 : Array Value) (G : OwnG Z a0) (ws : List Jvm.Cond) (hp : Addr) (P : Int32) (x1 : Addr) (t1 : Addr) (k1 : ClassId) (w0 : Value) (w1 : Value) (h0 : Heap) (n0 : Nat) (O0 : Old Z n0 h0) (P0 : Fld Z h0 hp j3 "host" "Ljava/lang/String;" (.ref x1)) (P1 : Fld Z h0 hp j3 "port" "I" (.int P)) (P2 : Exa Z h0 x1 j1) (P3 : Fld Z h0 x1 j1 "value" "[B" (.ref t1)) (P4 : Fld Z h0 x1 j1 "coder" "B" (.int 0)) (P5 : Arv Z h0 t1 k1 .byte (2 : Int32) [w0, w1] (.int 0)) :
  MetFree l own_m34 (head1 (Jvm.Cond.code own_m34 B40 1 (some (.object j1)) :: ws) (rR 6 6 48 91)) (fun a U => a = #[(.ref hp)] ∧ Z.Warmed39 U.vm ∧ U.heap = h0 ∧ CHv Z consts_1 U.vm h0) (fun _ _ _ _ _ => True) (fun _ U o U' => ∃ v L, o = .returned v ∧ Qht2 Z hp P x1 t1 k1 w0 w1 h0 n0 v U'.heap L ∧ CHr Z consts_1 U.vm U.heap U'.vm U'.heap ∧ ReturnedEndW U o U' L (rR 6 6 48 91).cells (rR 6 6 48 91).slots) := by
 refine MetFree.of_bodySF (plainFor_of_name pn_8) hisR ?_
 intro p e s m args below meth cD s₁ Bd hml0 hP hK
 obtain ⟨rfl, hZ, hh, hCH⟩ := hP
 have hml : cD.maxLocals = 1 := hml0
 obtain ⟨hx, hby, (hown : s.vm.findClass j3 = some m.cls), hlk, X0, e0⟩ := own_st Bd hh
 have D := @hb _ _ hby
 have lt0 := lN P0.lt
 have lt1 := lN P1.lt
 have lt2 := lN P2.lt
 have lt3 := lN P3.lt
 have lt4 := lN P4.lt
 have lt5 := lN P5.lt
 have K0 : Keep h0 h0 [] := Keep.refl h0 _
 have Z0 := own_old_le O0
 have N0 := Fr.nil n0
 have X0w : Stand p l e (rR 6 6 48 91) (s.setVm s.vm) m #[(.ref hp)] below meth cD s₁ [] 0 0 := X0
 have Si0 : s.Since s.vm (Array.size h0) := (State.WarmedH.refl s).since _
 have RR0 : CHr Z consts_1 s.vm h0 s.vm h0 := CHr.refl hCH
 refine OwnEnd.start (g' := (mkF m 0 #[vR hp] [])) (own_efht2 m hp) ?_
 obtain ⟨T1, h1, X1, e1, E1, A1, D1, -, st1⟩ := newO X0w hx hZ hown (w_ G 43 rfl) (w_ G 44 rfl) (w_ G 45 rfl) e0 (g := (mkF m 0 #[vR hp] [])) rfl (D d34_0) (by decide) (by decide)
 obtain ⟨b1, g1⟩ : ∃ z, z = Array.size h0 := ⟨_, rfl⟩
 rw [← g1] at A1 D1 st1
 have lt_b1 := lN A1.lt
 have sz2 := E1.1
 have K2 := K0.ext E1
 have O2 := O0.ext E1
 have R2 := CHr.ext E1 hCH
 have CH2 := R2.1
 have RR2 := RR0.trans R2
 have Sf1 : Safe Z consts_1 s.vm h1 b1 := Safe.ext E1 hCH (Safe.new (by omega))
 have F1_value : Fld Z h1 b1 j0 "value" "[B" .null := D1 (Or.inl (w_ G 58 rfl)) (ty := (.array .byte)) (by decide)
 have F1_coder : Fld Z h1 b1 j0 "coder" "B" (.int 0) := D1 (Or.inl (w_ G 60 rfl)) (ty := .byte) (by decide)
 have F1_count : Fld Z h1 b1 j0 "count" "I" (.int 0) := D1 (Or.inl (w_ G 83 rfl)) (ty := .int) (by decide)
 refine oo (S' := T1.setTop (mkF m 3 #[vR hp] [(.ref b1)])) st1 ?_
 refine oo (S' := T1.setTop (mkF m 4 #[vR hp] [(.ref b1), (.ref b1)])) (fun _ kK => XS.dup X1.here hx rfl (D d34_3) rfl rfl kK) ?_
 obtain ⟨_, _, ⟨T3, L3, k3, n3⟩, -, X3, ⟨Lc3, hQ3, l3, y3, z3⟩, st3⟩ := Jvm.Stand.specialBack X1 hx (y := own_m11) rfl hown (mw hZ G 46 rfl) (mw hZ G 47 rfl) (mw hZ G 48 rfl) (by decide) (backOf (W := 1) (rmsbi l Z a0 G [] b1 .null (.int 0) h1 n0 O2 A1 F1_value F1_coder F1_count (by omega)) hZ (w_ G 48 rfl) (w_ G 45 rfl) (by decide) (by decide)) (g := (mkF m 4 #[vR hp] [(.ref b1), (.ref b1)])) rfl (by rw [hml]; rfl) (Steps.refl _) (a := b1) (argsL := []) (rest := [(.ref b1)]) (lenOf pd_20 rfl) rfl (own_z rfl) (D d34_4) (fun _ _ => ⟨rfl, e1, (ol rfl), (ol rfl)⟩)
 dsimp only [Pt.U, Pt.locs, Pt.cells, Pt.slots] at X3 l3 y3 z3 st3 hQ3
 subst l3 y3 z3
 obtain ⟨vb_3, kv_3, rfl, N3q, Kq3, r3_0, r3_1, r3_2, r3_3, r3_4, r3_5⟩ := hQ3
 have N3 := Fr.app N0 N3q
 have sz4 := Kq3.1
 have K4 := K2.trans Kq3 (own_all1 (Or.inr (by omega)))
 have O4 := O2.keep Kq3 (own_all1 (by omega))
 have R4 := CHr.keep Kq3 (sfS (Safe.exa hZ.alike A1 (by decide) (by decide)) sf0) CH2
 have CH4 := R4.1
 have RR4 := RR2.trans R4
 have ltr3_0 := lN r3_0.lt
 have ltr3_1 := lN r3_1.lt
 have ltr3_2 := lN r3_2.lt
 have ltr3_3 := lN r3_3.lt
 have ltr3_4 := lN r3_4.lt
 refine ot (S' := T3.setTop (mkF m 7 #[vR hp] [(.ref b1)])) st3 ?_
 refine oo (S' := T3.setTop (mkF m 8 #[vR hp] [(.ref hp), (.ref b1)])) (fun _ kK => XS.aloadN X3.here hx rfl (D d34_7) rfl rfl kK) ?_
 have f6 := ((P0.ext E1).keep Kq3 (own_nin1 (on (by omega))))
 obtain ⟨T5, X5, e5, st5⟩ := getF X3 hx hZ hown (host := "") (Or.inl (w_ G 34 rfl)) Via.refl rfl f6 (g := (mkF m 8 #[vR hp] [(.ref hp), (.ref b1)])) rfl rfl (D d34_8)
 refine oo (S' := T5.setTop (mkF m 11 #[vR hp] [(.ref x1), (.ref b1)])) st5 ?_
 have f7 := ((P2.ext E1).keep Kq3)
 have f8 := ((P3.ext E1).keep Kq3 (own_nin1 (on (by omega))))
 have f9 := ((P4.ext E1).keep Kq3 (own_nin1 (on (by omega))))
 have f10 := ((P5.ext E1).keep Kq3 (own_nin1 (on (by omega))))
 obtain ⟨cq11, kq11, q11a, q11b, q11c⟩ := isOf hZ e5 r3_0
 obtain ⟨_, _, ⟨T11, L11, k11, n11⟩, -, X11, ⟨Lc11, hQ11, l11, y11, z11⟩, st11⟩ := X5.virtualBack hx (y := own_m20) (z := own_m20) hown (mw hZ G 61 rfl) (mw hZ G 62 rfl) (notFace_of_selects (args := #[]) (mw hZ G 64 rfl)) (mw hZ G 64 rfl) (mw hZ G 63 rfl) (by decide) (backOf (W := 0) (rmsa02 l Z a0 G [] b1 vb_3 kv_3 x1 t1 k1 w0 w1 T3.heap n0 O4 r3_0 r3_1 r3_2 r3_3 r3_4 f7 f8 f9 f10 (by omega) (by omega) (on (by omega)) (on (by omega)) (on (by omega)) (on (by omega)) (on (by omega))) hZ (w_ G 65 rfl) (w_ G 45 rfl) (by decide) (by decide)) q11a q11c (g := (mkF m 11 #[vR hp] [(.ref x1), (.ref b1)])) rfl (by rw [hml]; rfl) (Steps.refl _) (argsL := [(.ref x1)]) (rest := []) (lenOf pd_21 rfl) rfl (own_z rfl) (D d34_11) (fun _ _ => ⟨rfl, e5, (ol rfl), (ol rfl)⟩)
 dsimp only [Pt.U, Pt.locs, Pt.cells, Pt.slots] at X11 l11 y11 z11 st11 hQ11
 subst l11 y11 z11
 obtain ⟨rfl, N11q, Kq11, r11_0, r11_1, r11_2, r11_3, r11_4⟩ := hQ11
 have N11 := Fr.app N3 N11q
 have sz12 := Kq11.1
 have K12 := K4.trans Kq11 (own_all2 (Or.inr (by omega)) (Or.inr (by omega)))
 have O12 := O4.keep Kq11 (own_all2 (by omega) (by omega))
 have f13 : Safe Z consts_1 s.vm T3.heap vb_3 := (Safe.keep Kq3 (sfS (Safe.exa hZ.alike A1 (by decide) (by decide)) sf0) CH2 (Safe.new (by omega)))
 have R12 := CHr.keep Kq11 (sfS (Safe.exa hZ.alike r3_0 (by decide) (by decide)) (sfS f13 sf0)) CH4
 have CH12 := R12.1
 have RR12 := RR4.trans R12
 have ltr11_0 := lN r11_0.lt
 have ltr11_1 := lN r11_1.lt
 have ltr11_2 := lN r11_2.lt
 have ltr11_3 := lN r11_3.lt
 have ltr11_4 := lN r11_4.lt
 refine ot (S' := T11.setTop (mkF m 14 #[vR hp] [(.ref b1)])) st11 ?_
 obtain ⟨a14, T14, h14, k14, b14, c14, X14, e14, E14, Si14, gr14, hZ14, hown14, Ex14, Fc14, Fv14, Av14, la14, lb14, R14, Lt14, ne14, st14⟩ := ldcCH (vm0 := s.vm) X11 hx hZ hown (w_ G 109 rfl) (own_wS G) rfl Si0 (by omega) (own_EW G) (by simp [consts_1]) CH12 (vs := [(.int 58)]) (z := (1 : Int32)) (by decide) (by decide) (by decide) (g := (mkF m 14 #[vR hp] [(.ref b1)])) rfl (D d34_14) (n := 4) (by first | decide | simp) (by decide) (by decide) (by decide)
 have sz15 := E14.1
 have K15 := K12.ext E14
 have O15 := O12.ext E14
 have RR14' := RR12.trans R14
 refine oo (S' := T14.setTop (mkF m 16 #[vR hp] [(.ref a14), (.ref b1)])) st14 ?_
 have f16 := (r11_0.ext E14)
 obtain ⟨na0, nb0⟩ := ne14 b1 (Safe.exa hZ14.alike f16 (by decide) (by decide))
 have na0' := own_neN na0
 have nb0' := own_neN nb0
 have f17 : Safe Z consts_1 T14.vm h14 vb_3 := (R14.safe (own_ltB (by omega)) (Safe.keep Kq11 (sfS (Safe.exa hZ.alike r3_0 (by decide) (by decide)) (sfS f13 sf0)) CH4 f13))
 obtain ⟨na1, nb1⟩ := ne14 vb_3 f17
 have na1' := own_neN na1
 have nb1' := own_neN nb1
 have f18 := (r11_1.ext E14)
 have f19 := (r11_2.ext E14)
 have f20 := (r11_3.ext E14)
 have f21 := (r11_4.ext E14)
 obtain ⟨cq22, kq22, q22a, q22b, q22c⟩ := isOf hZ14 e14 f16
 obtain ⟨_, _, ⟨T22, L22, k22, n22⟩, -, X22, ⟨Lc22, hQ22, l22, y22, z22⟩, st22⟩ := X14.virtualBack hx (y := own_m20) (z := own_m20) hown14 (mw hZ14 G 61 rfl) (mw hZ14 G 62 rfl) (notFace_of_selects (args := #[]) (mw hZ14 G 64 rfl)) (mw hZ14 G 64 rfl) (mw hZ14 G 63 rfl) (by decide) (backOf (W := 0) (rmsa21 l Z a0 G [] b1 vb_3 kv_3 w0 w1 a14 b14 c14 (.int 58) h14 n0 O15 f16 f18 f19 f20 f21 Ex14 Fv14 Fc14 Av14 (by omega) (by omega) (on (by omega)) (on (by omega)) (on (by omega)) (on (by omega)) (on (by omega))) hZ14 (w_ G 65 rfl) (w_ G 45 rfl) (by decide) (by decide)) q22a q22c (g := (mkF m 16 #[vR hp] [(.ref a14), (.ref b1)])) rfl (by rw [hml]; rfl) (Steps.refl _) (argsL := [(.ref a14)]) (rest := []) (lenOf pd_21 rfl) rfl (own_z rfl) (D d34_16) (fun _ _ => ⟨rfl, e14, (ol rfl), (ol rfl)⟩)
 dsimp only [Pt.U, Pt.locs, Pt.cells, Pt.slots] at X22 l22 y22 z22 st22 hQ22
 subst l22 y22 z22
 obtain ⟨rfl, N22q, Kq22, r22_0, r22_1, r22_2, r22_3, r22_4⟩ := hQ22
 have N22 := Fr.app N11 N22q
 have sz23 := Kq22.1
 have K23 := K15.trans Kq22 (own_all2 (Or.inr (by omega)) (Or.inr (by omega)))
 have O23 := O15.keep Kq22 (own_all2 (by omega) (by omega))
 have R23 := CHr.keep Kq22 (sfS (Safe.exa hZ14.alike f16 (by decide) (by decide)) (sfS f17 sf0)) R14.1
 have CH23 := R23.1
 have RR23 := RR14'.trans R23
 have ltr22_0 := lN r22_0.lt
 have ltr22_1 := lN r22_1.lt
 have ltr22_2 := lN r22_2.lt
 have ltr22_3 := lN r22_3.lt
 have ltr22_4 := lN r22_4.lt
 refine ot (S' := T22.setTop (mkF m 19 #[vR hp] [(.ref b1)])) st22 ?_
 refine oo (S' := T22.setTop (mkF m 20 #[vR hp] [(.ref hp), (.ref b1)])) (fun _ kK => XS.aloadN X22.here hx rfl (D d34_19) rfl rfl kK) ?_
 have f25 := (((((P1.ext E1).keep Kq3 (own_nin1 (on (by omega)))).keep Kq11 (own_nin2 (on (by omega)) (on (by omega)))).ext E14).keep Kq22 (own_nin2 (on (by omega)) (on (by omega))))
 obtain ⟨T24, X24, e24, st24⟩ := getF X22 hx hZ14 hown14 (host := "") (Or.inl (w_ G 36 rfl)) Via.refl rfl f25 (g := (mkF m 20 #[vR hp] [(.ref hp), (.ref b1)])) rfl rfl (D d34_20)
 refine oo (S' := T24.setTop (mkF m 23 #[vR hp] [(.int P), (.ref b1)])) st24 ?_
 obtain ⟨cq26, kq26, q26a, q26b, q26c⟩ := isOf hZ14 e24 r22_0
 obtain ⟨_, _, ⟨T26, L26, k26, n26⟩, -, X26, ⟨Lc26, hQ26, l26, y26, z26⟩, st26⟩ := X24.virtualBack hx (y := own_m24) (z := own_m24) hown14 (mw hZ14 G 110 rfl) (mw hZ14 G 111 rfl) (notFace_of_selects (args := #[]) (mw hZ14 G 113 rfl)) (mw hZ14 G 113 rfl) (mw hZ14 G 112 rfl) (by decide) (backOf (W := 0) (rmsi l Z a0 G [] b1 vb_3 kv_3 P (3 : Int32) [w0, w1, (.int 58), (.int 0), (.int 0), (.int 0), (.int 0), (.int 0), (.int 0), (.int 0), (.int 0), (.int 0), (.int 0), (.int 0), (.int 0), (.int 0)] 3 T22.heap n0 O23 r22_0 r22_1 r22_2 r22_3 r22_4 (by omega) (by omega) (on (by omega)) rfl (by decide) (by decide)) hZ14 (w_ G 114 rfl) (w_ G 45 rfl) (by decide) (by decide)) q26a q26c (g := (mkF m 23 #[vR hp] [(.int P), (.ref b1)])) rfl (by rw [hml]; rfl) (Steps.refl _) (argsL := [(.int P)]) (rest := []) (lenOf pd_22 rfl) rfl (own_z rfl) (D d34_23) (fun _ _ => ⟨rfl, e24, (ol rfl), (ol rfl)⟩)
 dsimp only [Pt.U, Pt.locs, Pt.cells, Pt.slots] at X26 l26 y26 z26 st26 hQ26
 subst l26 y26 z26
 obtain ⟨w_26, rfl, N26q, Kq26, r26_0, r26_1, r26_2, r26_3, r26_4, r26_5⟩ := hQ26
 have N26 := Fr.app N22 N26q
 have sz27 := Kq26.1
 have K27 := K23.trans Kq26 (own_all2 (Or.inr (by omega)) (Or.inr (by omega)))
 have O27 := O23.keep Kq26 (own_all2 (by omega) (by omega))
 have f28 : Safe Z consts_1 T14.vm T22.heap vb_3 := (Safe.keep Kq22 (sfS (Safe.exa hZ14.alike f16 (by decide) (by decide)) (sfS f17 sf0)) R14.1 f17)
 have R27 := CHr.keep Kq26 (sfS (Safe.exa hZ14.alike r22_0 (by decide) (by decide)) (sfS f28 sf0)) CH23
 have CH27 := R27.1
 have RR27 := RR23.trans R27
 have ltr26_0 := lN r26_0.lt
 have ltr26_1 := lN r26_1.lt
 have ltr26_2 := lN r26_2.lt
 have ltr26_3 := lN r26_3.lt
 have ltr26_4 := lN r26_4.lt
 refine ot (S' := T26.setTop (mkF m 26 #[vR hp] [(.ref b1)])) st26 ?_
 obtain ⟨cq29, kq29, q29a, q29b, q29c⟩ := isOf hZ14 rfl r26_0
 obtain ⟨_, _, ⟨T29, L29, k29, n29⟩, -, X29, ⟨Lc29, hQ29, l29, y29, z29⟩, st29⟩ := X26.virtualBack hx (y := own_m31) (z := own_m31) hown14 (mw hZ14 G 132 rfl) (mw hZ14 G 133 rfl) (notFace_of_selects (args := #[]) (mw hZ14 G 135 rfl)) (mw hZ14 G 135 rfl) (mw hZ14 G 134 rfl) (by decide) (backOf (W := 0) (rmtos l Z a0 G [] b1 vb_3 kv_3 w_26 ((3 : Int32) + (own_ssz P)) (3 + (own_nd (own_n P) + own_sg P)) T26.heap n0 O27 r26_0 r26_1 r26_2 r26_3 r26_4 r26_5.1 (own_ct P 3) (own_le15 P (c := 3) (by decide))) hZ14 (w_ G 136 rfl) (w_ G 45 rfl) (by decide) (by decide)) q29a q29c (g := (mkF m 26 #[vR hp] [(.ref b1)])) rfl (by rw [hml]; rfl) (Steps.refl _) (argsL := []) (rest := []) (lenOf pd_23 rfl) rfl (own_z rfl) (D d34_26) (fun _ _ => ⟨rfl, rfl, (ol rfl), (ol rfl)⟩)
 dsimp only [Pt.U, Pt.locs, Pt.cells, Pt.slots] at X29 l29 y29 z29 st29 hQ29
 subst l29 y29 z29
 obtain ⟨x_29, t_29, kb_29, us_29, rfl, N29q, Kq29, r29_0, r29_1, r29_2, r29_3, r29_4, r29_5, r29_6⟩ := hQ29
 have N29 := Fr.app N26 N29q
 have sz30 := Kq29.1
 have K30 := K27.trans Kq29 (own_all0 )
 have R30 := CHr.keep Kq29 (sf0) CH27
 have CH30 := R30.1
 have RR30 := RR27.trans R30
 have ltr29_0 := lN r29_0.lt
 have ltr29_1 := lN r29_1.lt
 have ltr29_2 := lN r29_2.lt
 have ltr29_3 := lN r29_3.lt
 refine ot (S' := T29.setTop (mkF m 29 #[vR hp] [(.ref x_29)])) st29 ?_
 refine OwnEnd.retC hh (own_EW G) hZ14 X29 Si14 (by omega) (v := (some (.ref x_29))) (fun h => by rw [Bd.returns] at h; cases h) hlk (fun fs hr => retOut X29 hx Bd.returns rfl (Or.inr (Or.inr (Or.inr (Or.inr ⟨rfl, rfl, rfl⟩)))) (D d34_29) hr) (by decide) (by decide) (Q := Qht2 Z hp P x1 t1 k1 w0 w1 h0 n0) rfl RR30 ?_
 exact ⟨x_29, t_29, kb_29, us_29, rfl, N29, K30, r29_0, r29_1, r29_2, r29_3, (own_resG r26_5 r29_4)⟩

theorem own_efht3 (m : MethodId) (hp : Addr) : entryFrame m #[(.ref hp)] 1 = mkF m 0 #[vR hp] [] := by first | (simp [entryFrame, mkF, argsToLocals, Value.category]; done) | rfl
def Qht3 (Z : State) (hp : Addr) (P : Int32) (x1 : Addr) (t1 : Addr) (k1 : ClassId) (w0 : Value) (w1 : Value) (w2 : Value) (h0 : Heap) (n0 : Nat) (v : Option Value) (h : Heap) (L : List Loc) : Prop := ∃ (x : Addr) (t : Addr) (kb : ClassId) (us : List Value), v = some (.ref x) ∧ Fr n0 L ∧ Keep h0 h [] ∧ (Exa Z h x j1) ∧ (Fld Z h x j1 "value" "[B" (.ref t)) ∧ (Fld Z h x j1 "coder" "B" (.int 0)) ∧ (Arv Z h t kb .byte ((4 : Int32) + (own_ssz P)) us (.int 0)) ∧ (own_res P 4 [w0, w1, w2, (.int 58), (.int 0), (.int 0), (.int 0), (.int 0), (.int 0), (.int 0), (.int 0), (.int 0), (.int 0), (.int 0), (.int 0), (.int 0)] us)
set_option maxRecDepth 65536 in
set_option maxHeartbeats 40000000 in
theorem rmht3 (l : Launch) (Z : State) (a0 : Array Value) (G : OwnG Z a0) (ws : List Jvm.Cond) (hp : Addr) (P : Int32) (x1 : Addr) (t1 : Addr) (k1 : ClassId) (w0 : Value) (w1 : Value) (w2 : Value) (h0 : Heap) (n0 : Nat) (O0 : Old Z n0 h0) (P0 : Fld Z h0 hp j3 "host" "Ljava/lang/String;" (.ref x1)) (P1 : Fld Z h0 hp j3 "port" "I" (.int P)) (P2 : Exa Z h0 x1 j1) (P3 : Fld Z h0 x1 j1 "value" "[B" (.ref t1)) (P4 : Fld Z h0 x1 j1 "coder" "B" (.int 0)) (P5 : Arv Z h0 t1 k1 .byte (3 : Int32) [w0, w1, w2] (.int 0)) :
  MetFree l own_m34 (head1 (Jvm.Cond.code own_m34 B40 1 (some (.object j1)) :: ws) (rR 6 6 48 91)) (fun a U => a = #[(.ref hp)] ∧ Z.Warmed39 U.vm ∧ U.heap = h0 ∧ CHv Z consts_1 U.vm h0) (fun _ _ _ _ _ => True) (fun _ U o U' => ∃ v L, o = .returned v ∧ Qht3 Z hp P x1 t1 k1 w0 w1 w2 h0 n0 v U'.heap L ∧ CHr Z consts_1 U.vm U.heap U'.vm U'.heap ∧ ReturnedEndW U o U' L (rR 6 6 48 91).cells (rR 6 6 48 91).slots) := by
 refine MetFree.of_bodySF (plainFor_of_name pn_8) hisR ?_
 intro p e s m args below meth cD s₁ Bd hml0 hP hK
 obtain ⟨rfl, hZ, hh, hCH⟩ := hP
 have hml : cD.maxLocals = 1 := hml0
 obtain ⟨hx, hby, (hown : s.vm.findClass j3 = some m.cls), hlk, X0, e0⟩ := own_st Bd hh
 have D := @hb _ _ hby
 have lt0 := lN P0.lt
 have lt1 := lN P1.lt
 have lt2 := lN P2.lt
 have lt3 := lN P3.lt
 have lt4 := lN P4.lt
 have lt5 := lN P5.lt
 have K0 : Keep h0 h0 [] := Keep.refl h0 _
 have Z0 := own_old_le O0
 have N0 := Fr.nil n0
 have X0w : Stand p l e (rR 6 6 48 91) (s.setVm s.vm) m #[(.ref hp)] below meth cD s₁ [] 0 0 := X0
 have Si0 : s.Since s.vm (Array.size h0) := (State.WarmedH.refl s).since _
 have RR0 : CHr Z consts_1 s.vm h0 s.vm h0 := CHr.refl hCH
 refine OwnEnd.start (g' := (mkF m 0 #[vR hp] [])) (own_efht3 m hp) ?_
 obtain ⟨T1, h1, X1, e1, E1, A1, D1, -, st1⟩ := newO X0w hx hZ hown (w_ G 43 rfl) (w_ G 44 rfl) (w_ G 45 rfl) e0 (g := (mkF m 0 #[vR hp] [])) rfl (D d34_0) (by decide) (by decide)
 obtain ⟨b1, g1⟩ : ∃ z, z = Array.size h0 := ⟨_, rfl⟩
 rw [← g1] at A1 D1 st1
 have lt_b1 := lN A1.lt
 have sz2 := E1.1
 have K2 := K0.ext E1
 have O2 := O0.ext E1
 have R2 := CHr.ext E1 hCH
 have CH2 := R2.1
 have RR2 := RR0.trans R2
 have Sf1 : Safe Z consts_1 s.vm h1 b1 := Safe.ext E1 hCH (Safe.new (by omega))
 have F1_value : Fld Z h1 b1 j0 "value" "[B" .null := D1 (Or.inl (w_ G 58 rfl)) (ty := (.array .byte)) (by decide)
 have F1_coder : Fld Z h1 b1 j0 "coder" "B" (.int 0) := D1 (Or.inl (w_ G 60 rfl)) (ty := .byte) (by decide)
 have F1_count : Fld Z h1 b1 j0 "count" "I" (.int 0) := D1 (Or.inl (w_ G 83 rfl)) (ty := .int) (by decide)
 refine oo (S' := T1.setTop (mkF m 3 #[vR hp] [(.ref b1)])) st1 ?_
 refine oo (S' := T1.setTop (mkF m 4 #[vR hp] [(.ref b1), (.ref b1)])) (fun _ kK => XS.dup X1.here hx rfl (D d34_3) rfl rfl kK) ?_
 obtain ⟨_, _, ⟨T3, L3, k3, n3⟩, -, X3, ⟨Lc3, hQ3, l3, y3, z3⟩, st3⟩ := Jvm.Stand.specialBack X1 hx (y := own_m11) rfl hown (mw hZ G 46 rfl) (mw hZ G 47 rfl) (mw hZ G 48 rfl) (by decide) (backOf (W := 1) (rmsbi l Z a0 G [] b1 .null (.int 0) h1 n0 O2 A1 F1_value F1_coder F1_count (by omega)) hZ (w_ G 48 rfl) (w_ G 45 rfl) (by decide) (by decide)) (g := (mkF m 4 #[vR hp] [(.ref b1), (.ref b1)])) rfl (by rw [hml]; rfl) (Steps.refl _) (a := b1) (argsL := []) (rest := [(.ref b1)]) (lenOf pd_20 rfl) rfl (own_z rfl) (D d34_4) (fun _ _ => ⟨rfl, e1, (ol rfl), (ol rfl)⟩)
 dsimp only [Pt.U, Pt.locs, Pt.cells, Pt.slots] at X3 l3 y3 z3 st3 hQ3
 subst l3 y3 z3
 obtain ⟨vb_3, kv_3, rfl, N3q, Kq3, r3_0, r3_1, r3_2, r3_3, r3_4, r3_5⟩ := hQ3
 have N3 := Fr.app N0 N3q
 have sz4 := Kq3.1
 have K4 := K2.trans Kq3 (own_all1 (Or.inr (by omega)))
 have O4 := O2.keep Kq3 (own_all1 (by omega))
 have R4 := CHr.keep Kq3 (sfS (Safe.exa hZ.alike A1 (by decide) (by decide)) sf0) CH2
 have CH4 := R4.1
 have RR4 := RR2.trans R4
 have ltr3_0 := lN r3_0.lt
 have ltr3_1 := lN r3_1.lt
 have ltr3_2 := lN r3_2.lt
 have ltr3_3 := lN r3_3.lt
 have ltr3_4 := lN r3_4.lt
 refine ot (S' := T3.setTop (mkF m 7 #[vR hp] [(.ref b1)])) st3 ?_
 refine oo (S' := T3.setTop (mkF m 8 #[vR hp] [(.ref hp), (.ref b1)])) (fun _ kK => XS.aloadN X3.here hx rfl (D d34_7) rfl rfl kK) ?_
 have f6 := ((P0.ext E1).keep Kq3 (own_nin1 (on (by omega))))
 obtain ⟨T5, X5, e5, st5⟩ := getF X3 hx hZ hown (host := "") (Or.inl (w_ G 34 rfl)) Via.refl rfl f6 (g := (mkF m 8 #[vR hp] [(.ref hp), (.ref b1)])) rfl rfl (D d34_8)
 refine oo (S' := T5.setTop (mkF m 11 #[vR hp] [(.ref x1), (.ref b1)])) st5 ?_
 have f7 := ((P2.ext E1).keep Kq3)
 have f8 := ((P3.ext E1).keep Kq3 (own_nin1 (on (by omega))))
 have f9 := ((P4.ext E1).keep Kq3 (own_nin1 (on (by omega))))
 have f10 := ((P5.ext E1).keep Kq3 (own_nin1 (on (by omega))))
 obtain ⟨cq11, kq11, q11a, q11b, q11c⟩ := isOf hZ e5 r3_0
 obtain ⟨_, _, ⟨T11, L11, k11, n11⟩, -, X11, ⟨Lc11, hQ11, l11, y11, z11⟩, st11⟩ := X5.virtualBack hx (y := own_m20) (z := own_m20) hown (mw hZ G 61 rfl) (mw hZ G 62 rfl) (notFace_of_selects (args := #[]) (mw hZ G 64 rfl)) (mw hZ G 64 rfl) (mw hZ G 63 rfl) (by decide) (backOf (W := 0) (rmsa03 l Z a0 G [] b1 vb_3 kv_3 x1 t1 k1 w0 w1 w2 T3.heap n0 O4 r3_0 r3_1 r3_2 r3_3 r3_4 f7 f8 f9 f10 (by omega) (by omega) (on (by omega)) (on (by omega)) (on (by omega)) (on (by omega)) (on (by omega))) hZ (w_ G 65 rfl) (w_ G 45 rfl) (by decide) (by decide)) q11a q11c (g := (mkF m 11 #[vR hp] [(.ref x1), (.ref b1)])) rfl (by rw [hml]; rfl) (Steps.refl _) (argsL := [(.ref x1)]) (rest := []) (lenOf pd_21 rfl) rfl (own_z rfl) (D d34_11) (fun _ _ => ⟨rfl, e5, (ol rfl), (ol rfl)⟩)
 dsimp only [Pt.U, Pt.locs, Pt.cells, Pt.slots] at X11 l11 y11 z11 st11 hQ11
 subst l11 y11 z11
 obtain ⟨rfl, N11q, Kq11, r11_0, r11_1, r11_2, r11_3, r11_4⟩ := hQ11
 have N11 := Fr.app N3 N11q
 have sz12 := Kq11.1
 have K12 := K4.trans Kq11 (own_all2 (Or.inr (by omega)) (Or.inr (by omega)))
 have O12 := O4.keep Kq11 (own_all2 (by omega) (by omega))
 have f13 : Safe Z consts_1 s.vm T3.heap vb_3 := (Safe.keep Kq3 (sfS (Safe.exa hZ.alike A1 (by decide) (by decide)) sf0) CH2 (Safe.new (by omega)))
 have R12 := CHr.keep Kq11 (sfS (Safe.exa hZ.alike r3_0 (by decide) (by decide)) (sfS f13 sf0)) CH4
 have CH12 := R12.1
 have RR12 := RR4.trans R12
 have ltr11_0 := lN r11_0.lt
 have ltr11_1 := lN r11_1.lt
 have ltr11_2 := lN r11_2.lt
 have ltr11_3 := lN r11_3.lt
 have ltr11_4 := lN r11_4.lt
 refine ot (S' := T11.setTop (mkF m 14 #[vR hp] [(.ref b1)])) st11 ?_
 obtain ⟨a14, T14, h14, k14, b14, c14, X14, e14, E14, Si14, gr14, hZ14, hown14, Ex14, Fc14, Fv14, Av14, la14, lb14, R14, Lt14, ne14, st14⟩ := ldcCH (vm0 := s.vm) X11 hx hZ hown (w_ G 109 rfl) (own_wS G) rfl Si0 (by omega) (own_EW G) (by simp [consts_1]) CH12 (vs := [(.int 58)]) (z := (1 : Int32)) (by decide) (by decide) (by decide) (g := (mkF m 14 #[vR hp] [(.ref b1)])) rfl (D d34_14) (n := 4) (by first | decide | simp) (by decide) (by decide) (by decide)
 have sz15 := E14.1
 have K15 := K12.ext E14
 have O15 := O12.ext E14
 have RR14' := RR12.trans R14
 refine oo (S' := T14.setTop (mkF m 16 #[vR hp] [(.ref a14), (.ref b1)])) st14 ?_
 have f16 := (r11_0.ext E14)
 obtain ⟨na0, nb0⟩ := ne14 b1 (Safe.exa hZ14.alike f16 (by decide) (by decide))
 have na0' := own_neN na0
 have nb0' := own_neN nb0
 have f17 : Safe Z consts_1 T14.vm h14 vb_3 := (R14.safe (own_ltB (by omega)) (Safe.keep Kq11 (sfS (Safe.exa hZ.alike r3_0 (by decide) (by decide)) (sfS f13 sf0)) CH4 f13))
 obtain ⟨na1, nb1⟩ := ne14 vb_3 f17
 have na1' := own_neN na1
 have nb1' := own_neN nb1
 have f18 := (r11_1.ext E14)
 have f19 := (r11_2.ext E14)
 have f20 := (r11_3.ext E14)
 have f21 := (r11_4.ext E14)
 obtain ⟨cq22, kq22, q22a, q22b, q22c⟩ := isOf hZ14 e14 f16
 obtain ⟨_, _, ⟨T22, L22, k22, n22⟩, -, X22, ⟨Lc22, hQ22, l22, y22, z22⟩, st22⟩ := X14.virtualBack hx (y := own_m20) (z := own_m20) hown14 (mw hZ14 G 61 rfl) (mw hZ14 G 62 rfl) (notFace_of_selects (args := #[]) (mw hZ14 G 64 rfl)) (mw hZ14 G 64 rfl) (mw hZ14 G 63 rfl) (by decide) (backOf (W := 0) (rmsa31 l Z a0 G [] b1 vb_3 kv_3 w0 w1 w2 a14 b14 c14 (.int 58) h14 n0 O15 f16 f18 f19 f20 f21 Ex14 Fv14 Fc14 Av14 (by omega) (by omega) (on (by omega)) (on (by omega)) (on (by omega)) (on (by omega)) (on (by omega))) hZ14 (w_ G 65 rfl) (w_ G 45 rfl) (by decide) (by decide)) q22a q22c (g := (mkF m 16 #[vR hp] [(.ref a14), (.ref b1)])) rfl (by rw [hml]; rfl) (Steps.refl _) (argsL := [(.ref a14)]) (rest := []) (lenOf pd_21 rfl) rfl (own_z rfl) (D d34_16) (fun _ _ => ⟨rfl, e14, (ol rfl), (ol rfl)⟩)
 dsimp only [Pt.U, Pt.locs, Pt.cells, Pt.slots] at X22 l22 y22 z22 st22 hQ22
 subst l22 y22 z22
 obtain ⟨rfl, N22q, Kq22, r22_0, r22_1, r22_2, r22_3, r22_4⟩ := hQ22
 have N22 := Fr.app N11 N22q
 have sz23 := Kq22.1
 have K23 := K15.trans Kq22 (own_all2 (Or.inr (by omega)) (Or.inr (by omega)))
 have O23 := O15.keep Kq22 (own_all2 (by omega) (by omega))
 have R23 := CHr.keep Kq22 (sfS (Safe.exa hZ14.alike f16 (by decide) (by decide)) (sfS f17 sf0)) R14.1
 have CH23 := R23.1
 have RR23 := RR14'.trans R23
 have ltr22_0 := lN r22_0.lt
 have ltr22_1 := lN r22_1.lt
 have ltr22_2 := lN r22_2.lt
 have ltr22_3 := lN r22_3.lt
 have ltr22_4 := lN r22_4.lt
 refine ot (S' := T22.setTop (mkF m 19 #[vR hp] [(.ref b1)])) st22 ?_
 refine oo (S' := T22.setTop (mkF m 20 #[vR hp] [(.ref hp), (.ref b1)])) (fun _ kK => XS.aloadN X22.here hx rfl (D d34_19) rfl rfl kK) ?_
 have f25 := (((((P1.ext E1).keep Kq3 (own_nin1 (on (by omega)))).keep Kq11 (own_nin2 (on (by omega)) (on (by omega)))).ext E14).keep Kq22 (own_nin2 (on (by omega)) (on (by omega))))
 obtain ⟨T24, X24, e24, st24⟩ := getF X22 hx hZ14 hown14 (host := "") (Or.inl (w_ G 36 rfl)) Via.refl rfl f25 (g := (mkF m 20 #[vR hp] [(.ref hp), (.ref b1)])) rfl rfl (D d34_20)
 refine oo (S' := T24.setTop (mkF m 23 #[vR hp] [(.int P), (.ref b1)])) st24 ?_
 obtain ⟨cq26, kq26, q26a, q26b, q26c⟩ := isOf hZ14 e24 r22_0
 obtain ⟨_, _, ⟨T26, L26, k26, n26⟩, -, X26, ⟨Lc26, hQ26, l26, y26, z26⟩, st26⟩ := X24.virtualBack hx (y := own_m24) (z := own_m24) hown14 (mw hZ14 G 110 rfl) (mw hZ14 G 111 rfl) (notFace_of_selects (args := #[]) (mw hZ14 G 113 rfl)) (mw hZ14 G 113 rfl) (mw hZ14 G 112 rfl) (by decide) (backOf (W := 0) (rmsi l Z a0 G [] b1 vb_3 kv_3 P (4 : Int32) [w0, w1, w2, (.int 58), (.int 0), (.int 0), (.int 0), (.int 0), (.int 0), (.int 0), (.int 0), (.int 0), (.int 0), (.int 0), (.int 0), (.int 0)] 4 T22.heap n0 O23 r22_0 r22_1 r22_2 r22_3 r22_4 (by omega) (by omega) (on (by omega)) rfl (by decide) (by decide)) hZ14 (w_ G 114 rfl) (w_ G 45 rfl) (by decide) (by decide)) q26a q26c (g := (mkF m 23 #[vR hp] [(.int P), (.ref b1)])) rfl (by rw [hml]; rfl) (Steps.refl _) (argsL := [(.int P)]) (rest := []) (lenOf pd_22 rfl) rfl (own_z rfl) (D d34_23) (fun _ _ => ⟨rfl, e24, (ol rfl), (ol rfl)⟩)
 dsimp only [Pt.U, Pt.locs, Pt.cells, Pt.slots] at X26 l26 y26 z26 st26 hQ26
 subst l26 y26 z26
 obtain ⟨w_26, rfl, N26q, Kq26, r26_0, r26_1, r26_2, r26_3, r26_4, r26_5⟩ := hQ26
 have N26 := Fr.app N22 N26q
 have sz27 := Kq26.1
 have K27 := K23.trans Kq26 (own_all2 (Or.inr (by omega)) (Or.inr (by omega)))
 have O27 := O23.keep Kq26 (own_all2 (by omega) (by omega))
 have f28 : Safe Z consts_1 T14.vm T22.heap vb_3 := (Safe.keep Kq22 (sfS (Safe.exa hZ14.alike f16 (by decide) (by decide)) (sfS f17 sf0)) R14.1 f17)
 have R27 := CHr.keep Kq26 (sfS (Safe.exa hZ14.alike r22_0 (by decide) (by decide)) (sfS f28 sf0)) CH23
 have CH27 := R27.1
 have RR27 := RR23.trans R27
 have ltr26_0 := lN r26_0.lt
 have ltr26_1 := lN r26_1.lt
 have ltr26_2 := lN r26_2.lt
 have ltr26_3 := lN r26_3.lt
 have ltr26_4 := lN r26_4.lt
 refine ot (S' := T26.setTop (mkF m 26 #[vR hp] [(.ref b1)])) st26 ?_
 obtain ⟨cq29, kq29, q29a, q29b, q29c⟩ := isOf hZ14 rfl r26_0
 obtain ⟨_, _, ⟨T29, L29, k29, n29⟩, -, X29, ⟨Lc29, hQ29, l29, y29, z29⟩, st29⟩ := X26.virtualBack hx (y := own_m31) (z := own_m31) hown14 (mw hZ14 G 132 rfl) (mw hZ14 G 133 rfl) (notFace_of_selects (args := #[]) (mw hZ14 G 135 rfl)) (mw hZ14 G 135 rfl) (mw hZ14 G 134 rfl) (by decide) (backOf (W := 0) (rmtos l Z a0 G [] b1 vb_3 kv_3 w_26 ((4 : Int32) + (own_ssz P)) (4 + (own_nd (own_n P) + own_sg P)) T26.heap n0 O27 r26_0 r26_1 r26_2 r26_3 r26_4 r26_5.1 (own_ct P 4) (own_le15 P (c := 4) (by decide))) hZ14 (w_ G 136 rfl) (w_ G 45 rfl) (by decide) (by decide)) q29a q29c (g := (mkF m 26 #[vR hp] [(.ref b1)])) rfl (by rw [hml]; rfl) (Steps.refl _) (argsL := []) (rest := []) (lenOf pd_23 rfl) rfl (own_z rfl) (D d34_26) (fun _ _ => ⟨rfl, rfl, (ol rfl), (ol rfl)⟩)
 dsimp only [Pt.U, Pt.locs, Pt.cells, Pt.slots] at X29 l29 y29 z29 st29 hQ29
 subst l29 y29 z29
 obtain ⟨x_29, t_29, kb_29, us_29, rfl, N29q, Kq29, r29_0, r29_1, r29_2, r29_3, r29_4, r29_5, r29_6⟩ := hQ29
 have N29 := Fr.app N26 N29q
 have sz30 := Kq29.1
 have K30 := K27.trans Kq29 (own_all0 )
 have R30 := CHr.keep Kq29 (sf0) CH27
 have CH30 := R30.1
 have RR30 := RR27.trans R30
 have ltr29_0 := lN r29_0.lt
 have ltr29_1 := lN r29_1.lt
 have ltr29_2 := lN r29_2.lt
 have ltr29_3 := lN r29_3.lt
 refine ot (S' := T29.setTop (mkF m 29 #[vR hp] [(.ref x_29)])) st29 ?_
 refine OwnEnd.retC hh (own_EW G) hZ14 X29 Si14 (by omega) (v := (some (.ref x_29))) (fun h => by rw [Bd.returns] at h; cases h) hlk (fun fs hr => retOut X29 hx Bd.returns rfl (Or.inr (Or.inr (Or.inr (Or.inr ⟨rfl, rfl, rfl⟩)))) (D d34_29) hr) (by decide) (by decide) (Q := Qht3 Z hp P x1 t1 k1 w0 w1 w2 h0 n0) rfl RR30 ?_
 exact ⟨x_29, t_29, kb_29, us_29, rfl, N29, K30, r29_0, r29_1, r29_2, r29_3, (own_resG r26_5 r29_4)⟩

theorem own_efab (m : MethodId) (z1 : Int64) : entryFrame m #[(.long z1)] 2 = mkF m 0 #[.val (.long z1), .second] [] := by first | (simp [entryFrame, mkF, argsToLocals, Value.category]; done) | rfl
def Qab (Z : State) (z1 : Int64) (h0 : Heap) (n0 : Nat) (v : Option Value) (h : Heap) (L : List Loc) : Prop := v = some (.long (own_ab z1)) ∧ Fr n0 L ∧ h = h0
set_option maxRecDepth 65536 in
set_option maxHeartbeats 40000000 in
theorem rmab (l : Launch) (Z : State) (a0 : Array Value) (G : OwnG Z a0) (ws : List Jvm.Cond) (z1 : Int64) (h0 : Heap) (n0 : Nat) (O0 : Old Z n0 h0)  :
  MetFree l own_m35 (head1 (Jvm.Cond.code own_m35 B41 2 (some .long) :: ws) (rR 0 0 0 0)) (fun a U => a = #[(.long z1)] ∧ Z.Warmed39 U.vm ∧ U.heap = h0) (fun _ _ _ _ _ => True) (fun _ U o U' => ∃ v L, o = .returned v ∧ Qab Z z1 h0 n0 v U'.heap L ∧ FrameEnd U o U' L (rR 0 0 0 0).cells (rR 0 0 0 0).slots) := by
 refine MetFree.of_bodySF (Jvm.Free.JP.mathPlain rfl (by decide +kernel)) hisR ?_
 intro p e s m args below meth cD s₁ Bd hml0 hP hK
 obtain ⟨rfl, hZ, hh⟩ := hP
 have hml : cD.maxLocals = 2 := hml0
 obtain ⟨hx, hby, (hown : s.vm.findClass "java/lang/Math" = some m.cls), hlk, X0, e0⟩ := own_st Bd hh
 have D := @hb _ _ hby
 have Z0 := own_old_le O0
 have N0 := Fr.nil n0
 refine OwnEnd.start (g' := (mkF m 0 #[.val (.long z1), .second] [])) (own_efab m z1) ?_
 refine oo (S' := s₁.setTop (mkF m 3 #[.val (.long z1), .second] [(.int (lcmpW z1 (0 : Int64)))])) (fun _ kK => XS.lloadN X0.here hx rfl (D d35_0) rfl (XS.lconst X0.here hx rfl (D d35_1) (XS.lcmp X0.here hx rfl (D d35_2) rfl kK))) ?_
 rcases Decidable.em ((lcmpW z1 (0 : Int64)) < (0 : Int32)) with hc1 | hc1
 ·refine oo (S' := s₁.setTop (mkF m 12 #[.val (.long z1), .second] [(.long (-z1))])) (fun _ kK => XS.ifNo X0.here hx rfl (D d35_3) rfl ((if0 _ _).trans (tlt (hc1)).2.1) (XS.lloadN X0.here hx rfl (D d35_6) rfl (XS.lneg X0.here hx rfl (D d35_7) rfl (XS.goto X0.here hx rfl (pc0 := 8) (pc' := 12) rfl (D d35_8) (by decide) (by decide) kK)))) ?_
  refine OwnEnd.ret X0 (v := (some (.long (-z1)))) (fun h => by rw [Bd.returns] at h; cases h) hlk (fun fs hr => retOut X0 hx Bd.returns rfl (Or.inr (Or.inl ⟨rfl, rfl, _, rfl⟩)) (D d35_12) hr) (by decide) (by decide) (Q := Qab Z z1 h0 n0) e0 ?_
  exact ⟨(by simp [own_ab, hc1]), N0, rfl⟩
 ·refine oo (S' := s₁.setTop (mkF m 12 #[.val (.long z1), .second] [(.long z1)])) (fun _ kK => XS.ifYes X0.here hx rfl (pc0 := 3) (pc' := 11) rfl (D d35_3) rfl ((if0 _ _).trans (flt (hc1)).2.1) (by decide) (by decide) (XS.lloadN X0.here hx rfl (D d35_11) rfl kK)) ?_
  refine OwnEnd.ret X0 (v := (some (.long z1))) (fun h => by rw [Bd.returns] at h; cases h) hlk (fun fs hr => retOut X0 hx Bd.returns rfl (Or.inr (Or.inl ⟨rfl, rfl, _, rfl⟩)) (D d35_12) hr) (by decide) (by decide) (Q := Qab Z z1 h0 n0) e0 ?_
  exact ⟨(by simp [own_ab, hc1]), N0, rfl⟩

theorem own_efdj (m : MethodId) (z1 : Int64) : entryFrame m #[(.long z1)] 2 = mkF m 0 #[.val (.long z1), .second] [] := by first | (simp [entryFrame, mkF, argsToLocals, Value.category]; done) | rfl
set_option maxRecDepth 65536 in
set_option maxHeartbeats 40000000 in
theorem rmdj (l : Launch) (Z : State) (a0 : Array Value) (G : OwnG Z a0) (ws : List Jvm.Cond) (z1 : Int64) (h0 : Heap) (n0 : Nat) (O0 : Old Z n0 h0)  :
  MetFree l own_m36 (head1 (Jvm.Cond.code own_m36 B42 2 (some .int) :: ws) (rR 0 0 0 0)) (fun a U => a = #[(.long z1)] ∧ Z.Warmed39 U.vm ∧ U.heap = h0) (fun _ _ _ _ _ => True) (fun _ U o U' => ∃ v L, o = .returned v ∧ (own_Qint (own_dj z1)) h0 n0 v U'.heap L ∧ FrameEnd U o U' L (rR 0 0 0 0).cells (rR 0 0 0 0).slots) := by
 refine MetFree.of_bodySF (plainFor_of_name pn_9) hisR ?_
 intro p e s m args below meth cD s₁ Bd hml0 hP hK
 obtain ⟨rfl, hZ, hh⟩ := hP
 have hml : cD.maxLocals = 2 := hml0
 obtain ⟨hx, hby, (hown : s.vm.findClass j4 = some m.cls), hlk, X0, e0⟩ := own_st Bd hh
 have D := @hb _ _ hby
 have Z0 := own_old_le O0
 have N0 := Fr.nil n0
 refine OwnEnd.start (g' := (mkF m 0 #[.val (.long z1), .second] [])) (own_efdj m z1) ?_
 refine oo (S' := s₁.setTop (mkF m 1 #[.val (.long z1), .second] [(.long z1)])) (fun _ kK => XS.lloadN X0.here hx rfl (D d36_0) rfl kK) ?_
 refine oo (S' := s₁.setTop (mkF m 4 #[.val (.long z1), .second] [(.long (10 : Int64)), (.long z1)])) (fun _ kK => X0.ldc2Long hx hown (mw hZ G 180 rfl) (g := (mkF m 1 #[.val (.long z1), .second] [(.long z1)])) rfl (D d36_1) _ kK) ?_
 refine oo (S' := s₁.setTop (mkF m 5 #[.val (.long z1), .second] [(.int (lcmpW z1 (10 : Int64)))])) (fun _ kK => XS.lcmp X0.here hx rfl (D d36_4) rfl kK) ?_
 rcases Decidable.em ((lcmpW z1 (10 : Int64)) < (0 : Int32)) with hc1 | hc1
 ·refine oo (S' := s₁.setTop (mkF m 9 #[.val (.long z1), .second] [(.int 1)])) (fun _ kK => XS.ifNo X0.here hx rfl (D d36_5) rfl ((if0 _ _).trans (tlt (hc1)).2.1) (XS.iconst X0.here hx rfl (D d36_8) kK)) ?_
  refine OwnEnd.ret X0 (v := (some (.int 1))) (fun h => by rw [Bd.returns] at h; cases h) hlk (fun fs hr => retOut X0 hx Bd.returns rfl (Or.inl ⟨rfl, Or.inl rfl, _, rfl⟩) (D d36_9) hr) (by decide) (by decide) (Q := (own_Qint (own_dj z1)) h0 n0) e0 ?_
  exact ⟨(by simp [own_dj, hc1]), N0, rfl⟩
 ·refine oo (S' := s₁.setTop (mkF m 11 #[.val (.long z1), .second] [(.long z1)])) (fun _ kK => XS.ifYes X0.here hx rfl (pc0 := 5) (pc' := 10) rfl (D d36_5) rfl ((if0 _ _).trans (flt (hc1)).2.1) (by decide) (by decide) (XS.lloadN X0.here hx rfl (D d36_10) rfl kK)) ?_
  refine oo (S' := s₁.setTop (mkF m 14 #[.val (.long z1), .second] [(.long (100 : Int64)), (.long z1)])) (fun _ kK => X0.ldc2Long hx hown (mw hZ G 211 rfl) (g := (mkF m 11 #[.val (.long z1), .second] [(.long z1)])) rfl (D d36_11) _ kK) ?_
  refine oo (S' := s₁.setTop (mkF m 15 #[.val (.long z1), .second] [(.int (lcmpW z1 (100 : Int64)))])) (fun _ kK => XS.lcmp X0.here hx rfl (D d36_14) rfl kK) ?_
  rcases Decidable.em ((lcmpW z1 (100 : Int64)) < (0 : Int32)) with hc2 | hc2
  ·refine oo (S' := s₁.setTop (mkF m 19 #[.val (.long z1), .second] [(.int 2)])) (fun _ kK => XS.ifNo X0.here hx rfl (D d36_15) rfl ((if0 _ _).trans (tlt (hc2)).2.1) (XS.iconst X0.here hx rfl (D d36_18) kK)) ?_
   refine OwnEnd.ret X0 (v := (some (.int 2))) (fun h => by rw [Bd.returns] at h; cases h) hlk (fun fs hr => retOut X0 hx Bd.returns rfl (Or.inl ⟨rfl, Or.inl rfl, _, rfl⟩) (D d36_19) hr) (by decide) (by decide) (Q := (own_Qint (own_dj z1)) h0 n0) e0 ?_
   exact ⟨(by simp [own_dj, hc1, hc2]), N0, rfl⟩
  ·refine oo (S' := s₁.setTop (mkF m 21 #[.val (.long z1), .second] [(.long z1)])) (fun _ kK => XS.ifYes X0.here hx rfl (pc0 := 15) (pc' := 20) rfl (D d36_15) rfl ((if0 _ _).trans (flt (hc2)).2.1) (by decide) (by decide) (XS.lloadN X0.here hx rfl (D d36_20) rfl kK)) ?_
   refine oo (S' := s₁.setTop (mkF m 24 #[.val (.long z1), .second] [(.long (1000 : Int64)), (.long z1)])) (fun _ kK => X0.ldc2Long hx hown (mw hZ G 212 rfl) (g := (mkF m 21 #[.val (.long z1), .second] [(.long z1)])) rfl (D d36_21) _ kK) ?_
   refine oo (S' := s₁.setTop (mkF m 25 #[.val (.long z1), .second] [(.int (lcmpW z1 (1000 : Int64)))])) (fun _ kK => XS.lcmp X0.here hx rfl (D d36_24) rfl kK) ?_
   rcases Decidable.em ((lcmpW z1 (1000 : Int64)) < (0 : Int32)) with hc3 | hc3
   ·refine oo (S' := s₁.setTop (mkF m 29 #[.val (.long z1), .second] [(.int 3)])) (fun _ kK => XS.ifNo X0.here hx rfl (D d36_25) rfl ((if0 _ _).trans (tlt (hc3)).2.1) (XS.iconst X0.here hx rfl (D d36_28) kK)) ?_
    refine OwnEnd.ret X0 (v := (some (.int 3))) (fun h => by rw [Bd.returns] at h; cases h) hlk (fun fs hr => retOut X0 hx Bd.returns rfl (Or.inl ⟨rfl, Or.inl rfl, _, rfl⟩) (D d36_29) hr) (by decide) (by decide) (Q := (own_Qint (own_dj z1)) h0 n0) e0 ?_
    exact ⟨(by simp [own_dj, hc1, hc2, hc3]), N0, rfl⟩
   ·refine oo (S' := s₁.setTop (mkF m 31 #[.val (.long z1), .second] [(.long z1)])) (fun _ kK => XS.ifYes X0.here hx rfl (pc0 := 25) (pc' := 30) rfl (D d36_25) rfl ((if0 _ _).trans (flt (hc3)).2.1) (by decide) (by decide) (XS.lloadN X0.here hx rfl (D d36_30) rfl kK)) ?_
    refine oo (S' := s₁.setTop (mkF m 34 #[.val (.long z1), .second] [(.long (10000 : Int64)), (.long z1)])) (fun _ kK => X0.ldc2Long hx hown (mw hZ G 213 rfl) (g := (mkF m 31 #[.val (.long z1), .second] [(.long z1)])) rfl (D d36_31) _ kK) ?_
    refine oo (S' := s₁.setTop (mkF m 35 #[.val (.long z1), .second] [(.int (lcmpW z1 (10000 : Int64)))])) (fun _ kK => XS.lcmp X0.here hx rfl (D d36_34) rfl kK) ?_
    rcases Decidable.em ((lcmpW z1 (10000 : Int64)) < (0 : Int32)) with hc4 | hc4
    ·refine oo (S' := s₁.setTop (mkF m 39 #[.val (.long z1), .second] [(.int 4)])) (fun _ kK => XS.ifNo X0.here hx rfl (D d36_35) rfl ((if0 _ _).trans (tlt (hc4)).2.1) (XS.iconst X0.here hx rfl (D d36_38) kK)) ?_
     refine OwnEnd.ret X0 (v := (some (.int 4))) (fun h => by rw [Bd.returns] at h; cases h) hlk (fun fs hr => retOut X0 hx Bd.returns rfl (Or.inl ⟨rfl, Or.inl rfl, _, rfl⟩) (D d36_39) hr) (by decide) (by decide) (Q := (own_Qint (own_dj z1)) h0 n0) e0 ?_
     exact ⟨(by simp [own_dj, hc1, hc2, hc3, hc4]), N0, rfl⟩
    ·refine oo (S' := s₁.setTop (mkF m 41 #[.val (.long z1), .second] [(.long z1)])) (fun _ kK => XS.ifYes X0.here hx rfl (pc0 := 35) (pc' := 40) rfl (D d36_35) rfl ((if0 _ _).trans (flt (hc4)).2.1) (by decide) (by decide) (XS.lloadN X0.here hx rfl (D d36_40) rfl kK)) ?_
     refine oo (S' := s₁.setTop (mkF m 44 #[.val (.long z1), .second] [(.long (100000 : Int64)), (.long z1)])) (fun _ kK => X0.ldc2Long hx hown (mw hZ G 214 rfl) (g := (mkF m 41 #[.val (.long z1), .second] [(.long z1)])) rfl (D d36_41) _ kK) ?_
     refine oo (S' := s₁.setTop (mkF m 45 #[.val (.long z1), .second] [(.int (lcmpW z1 (100000 : Int64)))])) (fun _ kK => XS.lcmp X0.here hx rfl (D d36_44) rfl kK) ?_
     rcases Decidable.em ((lcmpW z1 (100000 : Int64)) < (0 : Int32)) with hc5 | hc5
     ·refine oo (S' := s₁.setTop (mkF m 49 #[.val (.long z1), .second] [(.int 5)])) (fun _ kK => XS.ifNo X0.here hx rfl (D d36_45) rfl ((if0 _ _).trans (tlt (hc5)).2.1) (XS.iconst X0.here hx rfl (D d36_48) kK)) ?_
      refine OwnEnd.ret X0 (v := (some (.int 5))) (fun h => by rw [Bd.returns] at h; cases h) hlk (fun fs hr => retOut X0 hx Bd.returns rfl (Or.inl ⟨rfl, Or.inl rfl, _, rfl⟩) (D d36_49) hr) (by decide) (by decide) (Q := (own_Qint (own_dj z1)) h0 n0) e0 ?_
      exact ⟨(by simp [own_dj, hc1, hc2, hc3, hc4, hc5]), N0, rfl⟩
     ·refine oo (S' := s₁.setTop (mkF m 51 #[.val (.long z1), .second] [(.long z1)])) (fun _ kK => XS.ifYes X0.here hx rfl (pc0 := 45) (pc' := 50) rfl (D d36_45) rfl ((if0 _ _).trans (flt (hc5)).2.1) (by decide) (by decide) (XS.lloadN X0.here hx rfl (D d36_50) rfl kK)) ?_
      refine oo (S' := s₁.setTop (mkF m 54 #[.val (.long z1), .second] [(.long (1000000 : Int64)), (.long z1)])) (fun _ kK => X0.ldc2Long hx hown (mw hZ G 215 rfl) (g := (mkF m 51 #[.val (.long z1), .second] [(.long z1)])) rfl (D d36_51) _ kK) ?_
      refine oo (S' := s₁.setTop (mkF m 55 #[.val (.long z1), .second] [(.int (lcmpW z1 (1000000 : Int64)))])) (fun _ kK => XS.lcmp X0.here hx rfl (D d36_54) rfl kK) ?_
      rcases Decidable.em ((lcmpW z1 (1000000 : Int64)) < (0 : Int32)) with hc6 | hc6
      ·refine oo (S' := s₁.setTop (mkF m 60 #[.val (.long z1), .second] [(.int 6)])) (fun _ kK => XS.ifNo X0.here hx rfl (D d36_55) rfl ((if0 _ _).trans (tlt (hc6)).2.1) (XS.bipush X0.here hx rfl (D d36_58) kK)) ?_
       refine OwnEnd.ret X0 (v := (some (.int 6))) (fun h => by rw [Bd.returns] at h; cases h) hlk (fun fs hr => retOut X0 hx Bd.returns rfl (Or.inl ⟨rfl, Or.inl rfl, _, rfl⟩) (D d36_60) hr) (by decide) (by decide) (Q := (own_Qint (own_dj z1)) h0 n0) e0 ?_
       exact ⟨(by simp [own_dj, hc1, hc2, hc3, hc4, hc5, hc6]), N0, rfl⟩
      ·refine oo (S' := s₁.setTop (mkF m 62 #[.val (.long z1), .second] [(.long z1)])) (fun _ kK => XS.ifYes X0.here hx rfl (pc0 := 55) (pc' := 61) rfl (D d36_55) rfl ((if0 _ _).trans (flt (hc6)).2.1) (by decide) (by decide) (XS.lloadN X0.here hx rfl (D d36_61) rfl kK)) ?_
       refine oo (S' := s₁.setTop (mkF m 65 #[.val (.long z1), .second] [(.long (10000000 : Int64)), (.long z1)])) (fun _ kK => X0.ldc2Long hx hown (mw hZ G 216 rfl) (g := (mkF m 62 #[.val (.long z1), .second] [(.long z1)])) rfl (D d36_62) _ kK) ?_
       refine oo (S' := s₁.setTop (mkF m 66 #[.val (.long z1), .second] [(.int (lcmpW z1 (10000000 : Int64)))])) (fun _ kK => XS.lcmp X0.here hx rfl (D d36_65) rfl kK) ?_
       rcases Decidable.em ((lcmpW z1 (10000000 : Int64)) < (0 : Int32)) with hc7 | hc7
       ·refine oo (S' := s₁.setTop (mkF m 71 #[.val (.long z1), .second] [(.int 7)])) (fun _ kK => XS.ifNo X0.here hx rfl (D d36_66) rfl ((if0 _ _).trans (tlt (hc7)).2.1) (XS.bipush X0.here hx rfl (D d36_69) kK)) ?_
        refine OwnEnd.ret X0 (v := (some (.int 7))) (fun h => by rw [Bd.returns] at h; cases h) hlk (fun fs hr => retOut X0 hx Bd.returns rfl (Or.inl ⟨rfl, Or.inl rfl, _, rfl⟩) (D d36_71) hr) (by decide) (by decide) (Q := (own_Qint (own_dj z1)) h0 n0) e0 ?_
        exact ⟨(by simp [own_dj, hc1, hc2, hc3, hc4, hc5, hc6, hc7]), N0, rfl⟩
       ·refine oo (S' := s₁.setTop (mkF m 73 #[.val (.long z1), .second] [(.long z1)])) (fun _ kK => XS.ifYes X0.here hx rfl (pc0 := 66) (pc' := 72) rfl (D d36_66) rfl ((if0 _ _).trans (flt (hc7)).2.1) (by decide) (by decide) (XS.lloadN X0.here hx rfl (D d36_72) rfl kK)) ?_
        refine oo (S' := s₁.setTop (mkF m 76 #[.val (.long z1), .second] [(.long (100000000 : Int64)), (.long z1)])) (fun _ kK => X0.ldc2Long hx hown (mw hZ G 217 rfl) (g := (mkF m 73 #[.val (.long z1), .second] [(.long z1)])) rfl (D d36_73) _ kK) ?_
        refine oo (S' := s₁.setTop (mkF m 77 #[.val (.long z1), .second] [(.int (lcmpW z1 (100000000 : Int64)))])) (fun _ kK => XS.lcmp X0.here hx rfl (D d36_76) rfl kK) ?_
        rcases Decidable.em ((lcmpW z1 (100000000 : Int64)) < (0 : Int32)) with hc8 | hc8
        ·refine oo (S' := s₁.setTop (mkF m 82 #[.val (.long z1), .second] [(.int 8)])) (fun _ kK => XS.ifNo X0.here hx rfl (D d36_77) rfl ((if0 _ _).trans (tlt (hc8)).2.1) (XS.bipush X0.here hx rfl (D d36_80) kK)) ?_
         refine OwnEnd.ret X0 (v := (some (.int 8))) (fun h => by rw [Bd.returns] at h; cases h) hlk (fun fs hr => retOut X0 hx Bd.returns rfl (Or.inl ⟨rfl, Or.inl rfl, _, rfl⟩) (D d36_82) hr) (by decide) (by decide) (Q := (own_Qint (own_dj z1)) h0 n0) e0 ?_
         exact ⟨(by simp [own_dj, hc1, hc2, hc3, hc4, hc5, hc6, hc7, hc8]), N0, rfl⟩
        ·refine oo (S' := s₁.setTop (mkF m 84 #[.val (.long z1), .second] [(.long z1)])) (fun _ kK => XS.ifYes X0.here hx rfl (pc0 := 77) (pc' := 83) rfl (D d36_77) rfl ((if0 _ _).trans (flt (hc8)).2.1) (by decide) (by decide) (XS.lloadN X0.here hx rfl (D d36_83) rfl kK)) ?_
         refine oo (S' := s₁.setTop (mkF m 87 #[.val (.long z1), .second] [(.long (1000000000 : Int64)), (.long z1)])) (fun _ kK => X0.ldc2Long hx hown (mw hZ G 218 rfl) (g := (mkF m 84 #[.val (.long z1), .second] [(.long z1)])) rfl (D d36_84) _ kK) ?_
         refine oo (S' := s₁.setTop (mkF m 88 #[.val (.long z1), .second] [(.int (lcmpW z1 (1000000000 : Int64)))])) (fun _ kK => XS.lcmp X0.here hx rfl (D d36_87) rfl kK) ?_
         rcases Decidable.em ((lcmpW z1 (1000000000 : Int64)) < (0 : Int32)) with hc9 | hc9
         ·refine oo (S' := s₁.setTop (mkF m 93 #[.val (.long z1), .second] [(.int 9)])) (fun _ kK => XS.ifNo X0.here hx rfl (D d36_88) rfl ((if0 _ _).trans (tlt (hc9)).2.1) (XS.bipush X0.here hx rfl (D d36_91) kK)) ?_
          refine OwnEnd.ret X0 (v := (some (.int 9))) (fun h => by rw [Bd.returns] at h; cases h) hlk (fun fs hr => retOut X0 hx Bd.returns rfl (Or.inl ⟨rfl, Or.inl rfl, _, rfl⟩) (D d36_93) hr) (by decide) (by decide) (Q := (own_Qint (own_dj z1)) h0 n0) e0 ?_
          exact ⟨(by simp [own_dj, hc1, hc2, hc3, hc4, hc5, hc6, hc7, hc8, hc9]), N0, rfl⟩
         ·refine oo (S' := s₁.setTop (mkF m 96 #[.val (.long z1), .second] [(.int 10)])) (fun _ kK => XS.ifYes X0.here hx rfl (pc0 := 88) (pc' := 94) rfl (D d36_88) rfl ((if0 _ _).trans (flt (hc9)).2.1) (by decide) (by decide) (XS.bipush X0.here hx rfl (D d36_94) kK)) ?_
          refine OwnEnd.ret X0 (v := (some (.int 10))) (fun h => by rw [Bd.returns] at h; cases h) hlk (fun fs hr => retOut X0 hx Bd.returns rfl (Or.inl ⟨rfl, Or.inl rfl, _, rfl⟩) (D d36_96) hr) (by decide) (by decide) (Q := (own_Qint (own_dj z1)) h0 n0) e0 ?_
          exact ⟨(by simp [own_dj, hc1, hc2, hc3, hc4, hc5, hc6, hc7, hc8, hc9]), N0, rfl⟩

theorem own_efpw (m : MethodId) (ee : Int32) : entryFrame m #[(.int ee)] 2 = mkF m 0 #[vI ee, .unset] [] := by first | (simp [entryFrame, mkF, argsToLocals, Value.category]; done) | rfl
def Qpw (Z : State) (ee : Int32) (h0 : Heap) (n0 : Nat) (v : Option Value) (h : Heap) (L : List Loc) : Prop := v = some (.long (own_p10 ee)) ∧ Fr n0 L ∧ Keep h0 h []
set_option maxRecDepth 65536 in
set_option maxHeartbeats 40000000 in
theorem rmpw (l : Launch) (Z : State) (a0 : Array Value) (G : OwnG Z a0) (ws : List Jvm.Cond) (ee : Int32) (h0 : Heap) (n0 : Nat) (O0 : Old Z n0 h0) (P0 : ¬ ee < (0 : Int32)) (P1 : ee < (10 : Int32)) :
  MetFree l own_m37 (head1 (Jvm.Cond.code own_m37 B43 2 (some .long) :: ws) (rR 0 1 10 0)) (fun a U => a = #[(.int ee)] ∧ Z.Warmed39 U.vm ∧ U.heap = h0) (fun _ _ _ _ _ => True) (fun _ U o U' => ∃ v L, o = .returned v ∧ Qpw Z ee h0 n0 v U'.heap L ∧ FrameEnd U o U' L (rR 0 1 10 0).cells (rR 0 1 10 0).slots) := by
 refine MetFree.of_bodySF (plainFor_of_name pn_9) hisR ?_
 intro p e s m args below meth cD s₁ Bd hml0 hP hK
 obtain ⟨rfl, hZ, hh⟩ := hP
 have hml : cD.maxLocals = 2 := hml0
 obtain ⟨hx, hby, (hown : s.vm.findClass j4 = some m.cls), hlk, X0, e0⟩ := own_st Bd hh
 have D := @hb _ _ hby
 have K0 : Keep h0 h0 [] := Keep.refl h0 _
 have Z0 := own_old_le O0
 have N0 := Fr.nil n0
 refine OwnEnd.start (g' := (mkF m 0 #[vI ee, .unset] [])) (own_efpw m ee) ?_
 refine oo (S' := s₁.setTop (mkF m 2 #[vI ee, .unset] [(.int 10)])) (fun _ kK => XS.bipush X0.here hx rfl (D d37_0) kK) ?_
 obtain ⟨T1, h1, k1, X1, e1, E1, A1, st1⟩ := newP X0 hx hZ (w_ G 210 rfl) e0 (g := (mkF m 2 #[vI ee, .unset] [(.int 10)])) rfl (D d37_2) rfl (by decide) (cap := 10) (by decide) (by decide) (by decide) (by decide)
 obtain ⟨b1, g1⟩ : ∃ z, z = Array.size h0 := ⟨_, rfl⟩
 rw [← g1] at A1 st1
 have lt_b1 := lN A1.lt
 have sz2 := E1.1
 have K2 := K0.ext E1
 have V1 : Arv Z h1 b1 k1 .long (10 : Int32) [(.long (0 : Int64)), (.long (0 : Int64)), (.long (0 : Int64)), (.long (0 : Int64)), (.long (0 : Int64)), (.long (0 : Int64)), (.long (0 : Int64)), (.long (0 : Int64)), (.long (0 : Int64)), (.long (0 : Int64))] (.long (0 : Int64)) := (Arv.new A1 (by decide)).pad (pad_rep [] (.long (0 : Int64)) 10)
 refine oo (S' := T1.setTop (mkF m 4 #[vI ee, .unset] [(.ref b1)])) st1 ?_
 refine oo (S' := T1.setTop (mkF m 7 #[vI ee, .unset] [(.long (1 : Int64)), (.int 0), (.ref b1), (.ref b1)])) (fun _ kK => XS.dup X1.here hx rfl (D d37_4) rfl rfl (XS.iconst X1.here hx rfl (D d37_5) (XS.lconst X1.here hx rfl (D d37_6) kK))) ?_
 obtain ⟨cl3, Ar3, q3, S3, N3', H3, G3⟩ := id V1
 have hin4 : ¬ ((0 : Int32) < 0 ∨ cl3.slots.size ≤ ((0 : Int32)).toNatClampNeg) := inb_of S3 ⟨by decide, by decide⟩
 obtain ⟨T4, h4, X4, e4, W4, st4⟩ := stJ X1 hx hZ e1 Ar3 (j := (0 : Int32)) hin4 (g := (mkF m 7 #[vI ee, .unset] [(.long (1 : Int64)), (.int 0), (.ref b1), (.ref b1)])) rfl rfl (D d37_7)
 have N4 := Fr.snoc X4 N0 (by omega)
 have sz5 := own_wr_le W4
 have K5 := K2.wr W4 (Or.inr (by omega))
 have V4 : Arv Z h4 b1 k1 .long (10 : Int32) [(.long (1 : Int64)), (.long (0 : Int64)), (.long (0 : Int64)), (.long (0 : Int64)), (.long (0 : Int64)), (.long (0 : Int64)), (.long (0 : Int64)), (.long (0 : Int64)), (.long (0 : Int64)), (.long (0 : Int64))] (.long (0 : Int64)) := Arv.set Ar3 q3 S3 N3' H3 G3 rfl W4 0 rfl (Nat.le_of_ble_eq_true rfl)
 refine oo (S' := T4.setTop (mkF m 8 #[vI ee, .unset] [(.ref b1)])) st4 ?_
 refine oo (S' := T4.setTop (mkF m 10 #[vI ee, .unset] [(.int 1), (.ref b1), (.ref b1)])) (fun _ kK => XS.dup X4.here hx rfl (D d37_8) rfl rfl (XS.iconst X4.here hx rfl (D d37_9) kK)) ?_
 refine oo (S' := T4.setTop (mkF m 13 #[vI ee, .unset] [(.long (10 : Int64)), (.int 1), (.ref b1), (.ref b1)])) (fun _ kK => X4.ldc2Long hx hown (mw hZ G 180 rfl) (g := (mkF m 10 #[vI ee, .unset] [(.int 1), (.ref b1), (.ref b1)])) rfl (D d37_10) _ kK) ?_
 obtain ⟨cl6, Ar6, q6, S6, N6', H6, G6⟩ := id V4
 have hin7 : ¬ ((1 : Int32) < 0 ∨ cl6.slots.size ≤ ((1 : Int32)).toNatClampNeg) := inb_of S6 ⟨by decide, by decide⟩
 obtain ⟨T7, h7, X7, e7, W7, st7⟩ := stJ X4 hx hZ e4 Ar6 (j := (1 : Int32)) hin7 (g := (mkF m 13 #[vI ee, .unset] [(.long (10 : Int64)), (.int 1), (.ref b1), (.ref b1)])) rfl rfl (D d37_13)
 have N7 := Fr.snoc X7 N4 (by omega)
 have sz8 := own_wr_le W7
 have K8 := K5.wr W7 (Or.inr (by omega))
 have V7 : Arv Z h7 b1 k1 .long (10 : Int32) [(.long (1 : Int64)), (.long (10 : Int64)), (.long (0 : Int64)), (.long (0 : Int64)), (.long (0 : Int64)), (.long (0 : Int64)), (.long (0 : Int64)), (.long (0 : Int64)), (.long (0 : Int64)), (.long (0 : Int64))] (.long (0 : Int64)) := Arv.set Ar6 q6 S6 N6' H6 G6 rfl W7 1 rfl (Nat.le_of_ble_eq_true rfl)
 refine oo (S' := T7.setTop (mkF m 14 #[vI ee, .unset] [(.ref b1)])) st7 ?_
 refine oo (S' := T7.setTop (mkF m 16 #[vI ee, .unset] [(.int 2), (.ref b1), (.ref b1)])) (fun _ kK => XS.dup X7.here hx rfl (D d37_14) rfl rfl (XS.iconst X7.here hx rfl (D d37_15) kK)) ?_
 refine oo (S' := T7.setTop (mkF m 19 #[vI ee, .unset] [(.long (100 : Int64)), (.int 2), (.ref b1), (.ref b1)])) (fun _ kK => X7.ldc2Long hx hown (mw hZ G 211 rfl) (g := (mkF m 16 #[vI ee, .unset] [(.int 2), (.ref b1), (.ref b1)])) rfl (D d37_16) _ kK) ?_
 obtain ⟨cl9, Ar9, q9, S9, N9', H9, G9⟩ := id V7
 have hin10 : ¬ ((2 : Int32) < 0 ∨ cl9.slots.size ≤ ((2 : Int32)).toNatClampNeg) := inb_of S9 ⟨by decide, by decide⟩
 obtain ⟨T10, h10, X10, e10, W10, st10⟩ := stJ X7 hx hZ e7 Ar9 (j := (2 : Int32)) hin10 (g := (mkF m 19 #[vI ee, .unset] [(.long (100 : Int64)), (.int 2), (.ref b1), (.ref b1)])) rfl rfl (D d37_19)
 have N10 := Fr.snoc X10 N7 (by omega)
 have sz11 := own_wr_le W10
 have K11 := K8.wr W10 (Or.inr (by omega))
 have V10 : Arv Z h10 b1 k1 .long (10 : Int32) [(.long (1 : Int64)), (.long (10 : Int64)), (.long (100 : Int64)), (.long (0 : Int64)), (.long (0 : Int64)), (.long (0 : Int64)), (.long (0 : Int64)), (.long (0 : Int64)), (.long (0 : Int64)), (.long (0 : Int64))] (.long (0 : Int64)) := Arv.set Ar9 q9 S9 N9' H9 G9 rfl W10 2 rfl (Nat.le_of_ble_eq_true rfl)
 refine oo (S' := T10.setTop (mkF m 20 #[vI ee, .unset] [(.ref b1)])) st10 ?_
 refine oo (S' := T10.setTop (mkF m 22 #[vI ee, .unset] [(.int 3), (.ref b1), (.ref b1)])) (fun _ kK => XS.dup X10.here hx rfl (D d37_20) rfl rfl (XS.iconst X10.here hx rfl (D d37_21) kK)) ?_
 refine oo (S' := T10.setTop (mkF m 25 #[vI ee, .unset] [(.long (1000 : Int64)), (.int 3), (.ref b1), (.ref b1)])) (fun _ kK => X10.ldc2Long hx hown (mw hZ G 212 rfl) (g := (mkF m 22 #[vI ee, .unset] [(.int 3), (.ref b1), (.ref b1)])) rfl (D d37_22) _ kK) ?_
 obtain ⟨cl12, Ar12, q12, S12, N12', H12, G12⟩ := id V10
 have hin13 : ¬ ((3 : Int32) < 0 ∨ cl12.slots.size ≤ ((3 : Int32)).toNatClampNeg) := inb_of S12 ⟨by decide, by decide⟩
 obtain ⟨T13, h13, X13, e13, W13, st13⟩ := stJ X10 hx hZ e10 Ar12 (j := (3 : Int32)) hin13 (g := (mkF m 25 #[vI ee, .unset] [(.long (1000 : Int64)), (.int 3), (.ref b1), (.ref b1)])) rfl rfl (D d37_25)
 have N13 := Fr.snoc X13 N10 (by omega)
 have sz14 := own_wr_le W13
 have K14 := K11.wr W13 (Or.inr (by omega))
 have V13 : Arv Z h13 b1 k1 .long (10 : Int32) [(.long (1 : Int64)), (.long (10 : Int64)), (.long (100 : Int64)), (.long (1000 : Int64)), (.long (0 : Int64)), (.long (0 : Int64)), (.long (0 : Int64)), (.long (0 : Int64)), (.long (0 : Int64)), (.long (0 : Int64))] (.long (0 : Int64)) := Arv.set Ar12 q12 S12 N12' H12 G12 rfl W13 3 rfl (Nat.le_of_ble_eq_true rfl)
 refine oo (S' := T13.setTop (mkF m 26 #[vI ee, .unset] [(.ref b1)])) st13 ?_
 refine oo (S' := T13.setTop (mkF m 28 #[vI ee, .unset] [(.int 4), (.ref b1), (.ref b1)])) (fun _ kK => XS.dup X13.here hx rfl (D d37_26) rfl rfl (XS.iconst X13.here hx rfl (D d37_27) kK)) ?_
 refine oo (S' := T13.setTop (mkF m 31 #[vI ee, .unset] [(.long (10000 : Int64)), (.int 4), (.ref b1), (.ref b1)])) (fun _ kK => X13.ldc2Long hx hown (mw hZ G 213 rfl) (g := (mkF m 28 #[vI ee, .unset] [(.int 4), (.ref b1), (.ref b1)])) rfl (D d37_28) _ kK) ?_
 obtain ⟨cl15, Ar15, q15, S15, N15', H15, G15⟩ := id V13
 have hin16 : ¬ ((4 : Int32) < 0 ∨ cl15.slots.size ≤ ((4 : Int32)).toNatClampNeg) := inb_of S15 ⟨by decide, by decide⟩
 obtain ⟨T16, h16, X16, e16, W16, st16⟩ := stJ X13 hx hZ e13 Ar15 (j := (4 : Int32)) hin16 (g := (mkF m 31 #[vI ee, .unset] [(.long (10000 : Int64)), (.int 4), (.ref b1), (.ref b1)])) rfl rfl (D d37_31)
 have N16 := Fr.snoc X16 N13 (by omega)
 have sz17 := own_wr_le W16
 have K17 := K14.wr W16 (Or.inr (by omega))
 have V16 : Arv Z h16 b1 k1 .long (10 : Int32) [(.long (1 : Int64)), (.long (10 : Int64)), (.long (100 : Int64)), (.long (1000 : Int64)), (.long (10000 : Int64)), (.long (0 : Int64)), (.long (0 : Int64)), (.long (0 : Int64)), (.long (0 : Int64)), (.long (0 : Int64))] (.long (0 : Int64)) := Arv.set Ar15 q15 S15 N15' H15 G15 rfl W16 4 rfl (Nat.le_of_ble_eq_true rfl)
 refine oo (S' := T16.setTop (mkF m 32 #[vI ee, .unset] [(.ref b1)])) st16 ?_
 refine oo (S' := T16.setTop (mkF m 34 #[vI ee, .unset] [(.int 5), (.ref b1), (.ref b1)])) (fun _ kK => XS.dup X16.here hx rfl (D d37_32) rfl rfl (XS.iconst X16.here hx rfl (D d37_33) kK)) ?_
 refine oo (S' := T16.setTop (mkF m 37 #[vI ee, .unset] [(.long (100000 : Int64)), (.int 5), (.ref b1), (.ref b1)])) (fun _ kK => X16.ldc2Long hx hown (mw hZ G 214 rfl) (g := (mkF m 34 #[vI ee, .unset] [(.int 5), (.ref b1), (.ref b1)])) rfl (D d37_34) _ kK) ?_
 obtain ⟨cl18, Ar18, q18, S18, N18', H18, G18⟩ := id V16
 have hin19 : ¬ ((5 : Int32) < 0 ∨ cl18.slots.size ≤ ((5 : Int32)).toNatClampNeg) := inb_of S18 ⟨by decide, by decide⟩
 obtain ⟨T19, h19, X19, e19, W19, st19⟩ := stJ X16 hx hZ e16 Ar18 (j := (5 : Int32)) hin19 (g := (mkF m 37 #[vI ee, .unset] [(.long (100000 : Int64)), (.int 5), (.ref b1), (.ref b1)])) rfl rfl (D d37_37)
 have N19 := Fr.snoc X19 N16 (by omega)
 have sz20 := own_wr_le W19
 have K20 := K17.wr W19 (Or.inr (by omega))
 have V19 : Arv Z h19 b1 k1 .long (10 : Int32) [(.long (1 : Int64)), (.long (10 : Int64)), (.long (100 : Int64)), (.long (1000 : Int64)), (.long (10000 : Int64)), (.long (100000 : Int64)), (.long (0 : Int64)), (.long (0 : Int64)), (.long (0 : Int64)), (.long (0 : Int64))] (.long (0 : Int64)) := Arv.set Ar18 q18 S18 N18' H18 G18 rfl W19 5 rfl (Nat.le_of_ble_eq_true rfl)
 refine oo (S' := T19.setTop (mkF m 38 #[vI ee, .unset] [(.ref b1)])) st19 ?_
 refine oo (S' := T19.setTop (mkF m 41 #[vI ee, .unset] [(.int 6), (.ref b1), (.ref b1)])) (fun _ kK => XS.dup X19.here hx rfl (D d37_38) rfl rfl (XS.bipush X19.here hx rfl (D d37_39) kK)) ?_
 refine oo (S' := T19.setTop (mkF m 44 #[vI ee, .unset] [(.long (1000000 : Int64)), (.int 6), (.ref b1), (.ref b1)])) (fun _ kK => X19.ldc2Long hx hown (mw hZ G 215 rfl) (g := (mkF m 41 #[vI ee, .unset] [(.int 6), (.ref b1), (.ref b1)])) rfl (D d37_41) _ kK) ?_
 obtain ⟨cl21, Ar21, q21, S21, N21', H21, G21⟩ := id V19
 have hin22 : ¬ ((6 : Int32) < 0 ∨ cl21.slots.size ≤ ((6 : Int32)).toNatClampNeg) := inb_of S21 ⟨by decide, by decide⟩
 obtain ⟨T22, h22, X22, e22, W22, st22⟩ := stJ X19 hx hZ e19 Ar21 (j := (6 : Int32)) hin22 (g := (mkF m 44 #[vI ee, .unset] [(.long (1000000 : Int64)), (.int 6), (.ref b1), (.ref b1)])) rfl rfl (D d37_44)
 have N22 := Fr.snoc X22 N19 (by omega)
 have sz23 := own_wr_le W22
 have K23 := K20.wr W22 (Or.inr (by omega))
 have V22 : Arv Z h22 b1 k1 .long (10 : Int32) [(.long (1 : Int64)), (.long (10 : Int64)), (.long (100 : Int64)), (.long (1000 : Int64)), (.long (10000 : Int64)), (.long (100000 : Int64)), (.long (1000000 : Int64)), (.long (0 : Int64)), (.long (0 : Int64)), (.long (0 : Int64))] (.long (0 : Int64)) := Arv.set Ar21 q21 S21 N21' H21 G21 rfl W22 6 rfl (Nat.le_of_ble_eq_true rfl)
 refine oo (S' := T22.setTop (mkF m 45 #[vI ee, .unset] [(.ref b1)])) st22 ?_
 refine oo (S' := T22.setTop (mkF m 48 #[vI ee, .unset] [(.int 7), (.ref b1), (.ref b1)])) (fun _ kK => XS.dup X22.here hx rfl (D d37_45) rfl rfl (XS.bipush X22.here hx rfl (D d37_46) kK)) ?_
 refine oo (S' := T22.setTop (mkF m 51 #[vI ee, .unset] [(.long (10000000 : Int64)), (.int 7), (.ref b1), (.ref b1)])) (fun _ kK => X22.ldc2Long hx hown (mw hZ G 216 rfl) (g := (mkF m 48 #[vI ee, .unset] [(.int 7), (.ref b1), (.ref b1)])) rfl (D d37_48) _ kK) ?_
 obtain ⟨cl24, Ar24, q24, S24, N24', H24, G24⟩ := id V22
 have hin25 : ¬ ((7 : Int32) < 0 ∨ cl24.slots.size ≤ ((7 : Int32)).toNatClampNeg) := inb_of S24 ⟨by decide, by decide⟩
 obtain ⟨T25, h25, X25, e25, W25, st25⟩ := stJ X22 hx hZ e22 Ar24 (j := (7 : Int32)) hin25 (g := (mkF m 51 #[vI ee, .unset] [(.long (10000000 : Int64)), (.int 7), (.ref b1), (.ref b1)])) rfl rfl (D d37_51)
 have N25 := Fr.snoc X25 N22 (by omega)
 have sz26 := own_wr_le W25
 have K26 := K23.wr W25 (Or.inr (by omega))
 have V25 : Arv Z h25 b1 k1 .long (10 : Int32) [(.long (1 : Int64)), (.long (10 : Int64)), (.long (100 : Int64)), (.long (1000 : Int64)), (.long (10000 : Int64)), (.long (100000 : Int64)), (.long (1000000 : Int64)), (.long (10000000 : Int64)), (.long (0 : Int64)), (.long (0 : Int64))] (.long (0 : Int64)) := Arv.set Ar24 q24 S24 N24' H24 G24 rfl W25 7 rfl (Nat.le_of_ble_eq_true rfl)
 refine oo (S' := T25.setTop (mkF m 52 #[vI ee, .unset] [(.ref b1)])) st25 ?_
 refine oo (S' := T25.setTop (mkF m 55 #[vI ee, .unset] [(.int 8), (.ref b1), (.ref b1)])) (fun _ kK => XS.dup X25.here hx rfl (D d37_52) rfl rfl (XS.bipush X25.here hx rfl (D d37_53) kK)) ?_
 refine oo (S' := T25.setTop (mkF m 58 #[vI ee, .unset] [(.long (100000000 : Int64)), (.int 8), (.ref b1), (.ref b1)])) (fun _ kK => X25.ldc2Long hx hown (mw hZ G 217 rfl) (g := (mkF m 55 #[vI ee, .unset] [(.int 8), (.ref b1), (.ref b1)])) rfl (D d37_55) _ kK) ?_
 obtain ⟨cl27, Ar27, q27, S27, N27', H27, G27⟩ := id V25
 have hin28 : ¬ ((8 : Int32) < 0 ∨ cl27.slots.size ≤ ((8 : Int32)).toNatClampNeg) := inb_of S27 ⟨by decide, by decide⟩
 obtain ⟨T28, h28, X28, e28, W28, st28⟩ := stJ X25 hx hZ e25 Ar27 (j := (8 : Int32)) hin28 (g := (mkF m 58 #[vI ee, .unset] [(.long (100000000 : Int64)), (.int 8), (.ref b1), (.ref b1)])) rfl rfl (D d37_58)
 have N28 := Fr.snoc X28 N25 (by omega)
 have sz29 := own_wr_le W28
 have K29 := K26.wr W28 (Or.inr (by omega))
 have V28 : Arv Z h28 b1 k1 .long (10 : Int32) [(.long (1 : Int64)), (.long (10 : Int64)), (.long (100 : Int64)), (.long (1000 : Int64)), (.long (10000 : Int64)), (.long (100000 : Int64)), (.long (1000000 : Int64)), (.long (10000000 : Int64)), (.long (100000000 : Int64)), (.long (0 : Int64))] (.long (0 : Int64)) := Arv.set Ar27 q27 S27 N27' H27 G27 rfl W28 8 rfl (Nat.le_of_ble_eq_true rfl)
 refine oo (S' := T28.setTop (mkF m 59 #[vI ee, .unset] [(.ref b1)])) st28 ?_
 refine oo (S' := T28.setTop (mkF m 62 #[vI ee, .unset] [(.int 9), (.ref b1), (.ref b1)])) (fun _ kK => XS.dup X28.here hx rfl (D d37_59) rfl rfl (XS.bipush X28.here hx rfl (D d37_60) kK)) ?_
 refine oo (S' := T28.setTop (mkF m 65 #[vI ee, .unset] [(.long (1000000000 : Int64)), (.int 9), (.ref b1), (.ref b1)])) (fun _ kK => X28.ldc2Long hx hown (mw hZ G 218 rfl) (g := (mkF m 62 #[vI ee, .unset] [(.int 9), (.ref b1), (.ref b1)])) rfl (D d37_62) _ kK) ?_
 obtain ⟨cl30, Ar30, q30, S30, N30', H30, G30⟩ := id V28
 have hin31 : ¬ ((9 : Int32) < 0 ∨ cl30.slots.size ≤ ((9 : Int32)).toNatClampNeg) := inb_of S30 ⟨by decide, by decide⟩
 obtain ⟨T31, h31, X31, e31, W31, st31⟩ := stJ X28 hx hZ e28 Ar30 (j := (9 : Int32)) hin31 (g := (mkF m 65 #[vI ee, .unset] [(.long (1000000000 : Int64)), (.int 9), (.ref b1), (.ref b1)])) rfl rfl (D d37_65)
 have N31 := Fr.snoc X31 N28 (by omega)
 have sz32 := own_wr_le W31
 have K32 := K29.wr W31 (Or.inr (by omega))
 have V31 : Arv Z h31 b1 k1 .long (10 : Int32) [(.long (1 : Int64)), (.long (10 : Int64)), (.long (100 : Int64)), (.long (1000 : Int64)), (.long (10000 : Int64)), (.long (100000 : Int64)), (.long (1000000 : Int64)), (.long (10000000 : Int64)), (.long (100000000 : Int64)), (.long (1000000000 : Int64))] (.long (0 : Int64)) := Arv.set Ar30 q30 S30 N30' H30 G30 rfl W31 9 rfl (Nat.le_of_ble_eq_true rfl)
 refine oo (S' := T31.setTop (mkF m 66 #[vI ee, .unset] [(.ref b1)])) st31 ?_
 refine oo (S' := T31.setTop (mkF m 69 #[vI ee, vR b1] [(.int ee), (.ref b1)])) (fun _ kK => XS.astoreN X31.here hx rfl (D d37_66) rfl rfl (l' := #[vI ee, vR b1]) rfl (XS.aloadN X31.here hx rfl (D d37_67) rfl rfl (XS.iloadN X31.here hx rfl (D d37_68) rfl kK))) ?_
 obtain ⟨cl33, Ar33, q33, S33, N33', H33, G33⟩ := id V31
 have hin34 : ¬ (ee < 0 ∨ cl33.slots.size ≤ (ee).toNatClampNeg) := inb_of S33 ⟨P0, P1⟩
 refine oo (S' := T31.setTop (mkF m 70 #[vI ee, vR b1] [(.long (own_p10 ee))])) (fun _ kK => X31.laload hx (j := ee) (v := (.long (own_p10 ee))) (by rw [e31]; exact Ar33.1) (State.isArrayOf_alike hZ.alike Ar33.2.1) Ar33.2.2 hin34 (Has.at H33 hin34 (own_p10_v ee)) (g := (mkF m 69 #[vI ee, vR b1] [(.int ee), (.ref b1)])) rfl rfl (D d37_69) _ kK) ?_
 refine OwnEnd.ret X31 (v := (some (.long (own_p10 ee)))) (fun h => by rw [Bd.returns] at h; cases h) hlk (fun fs hr => retOut X31 hx Bd.returns rfl (Or.inr (Or.inl ⟨rfl, rfl, _, rfl⟩)) (D d37_70) hr) (by decide) (by decide) (Q := Qpw Z ee h0 n0) e31 ?_
 exact ⟨rfl, N31, K32⟩

theorem own_efdk (m : MethodId) (x1 : Addr) (off : Int32) (z1 : Int64) (d : Int32) (i : Int32) : entryFrame m #[(.ref x1), (.int off), (.long z1), (.int d), (.int i)] 8 = mkF m 0 #[vR x1, vI off, .val (.long z1), .second, vI d, vI i, .unset, .unset] [] := by first | (simp [entryFrame, mkF, argsToLocals, Value.category]; done) | rfl
def Qdk (Z : State) (x1 : Addr) (t1 : Addr) (k1 : ClassId) (N : Int32) (vs : List Value) (off : Int32) (z1 : Int64) (d : Int32) (i : Int32) (h0 : Heap) (n0 : Nat) (v : Option Value) (h : Heap) (L : List Loc) : Prop := v = some (.int 1) ∧ Fr n0 L ∧ Keep h0 h []
set_option maxRecDepth 65536 in
set_option maxHeartbeats 40000000 in
theorem rmdk (l : Launch) (Z : State) (a0 : Array Value) (G : OwnG Z a0) (ws : List Jvm.Cond) (x1 : Addr) (t1 : Addr) (k1 : ClassId) (N : Int32) (vs : List Value) (off : Int32) (z1 : Int64) (d : Int32) (i : Int32) (h0 : Heap) (n0 : Nat) (O0 : Old Z n0 h0) (P0 : Exa Z h0 x1 j1) (P1 : Fld Z h0 x1 j1 "value" "[B" (.ref t1)) (P2 : Fld Z h0 x1 j1 "coder" "B" (.int 0)) (P3 : Arv Z h0 t1 k1 .byte N vs (.int 0)) (P4 : own_dgp vs N off d i z1) :
  MetFree l own_m38 (head1 (Jvm.Cond.code own_m38 B44 8 (some .boolean) :: ws) (rR 4 1 10 53)) (fun a U => a = #[(.ref x1), (.int off), (.long z1), (.int d), (.int i)] ∧ Z.Warmed39 U.vm ∧ U.heap = h0) (fun _ _ _ _ _ => True) (fun _ U o U' => ∃ v L, o = .returned v ∧ Qdk Z x1 t1 k1 N vs off z1 d i h0 n0 v U'.heap L ∧ FrameEnd U o U' L (rR 4 1 10 53).cells (rR 4 1 10 53).slots) := by
 refine MetFree.of_bodySF (plainFor_of_name pn_9) hisR ?_
 intro p e s m args below meth cD s₁ Bd hml0 hP hK
 obtain ⟨rfl, hZ, hh⟩ := hP
 have hml : cD.maxLocals = 8 := hml0
 obtain ⟨hx, hby, (hown : s.vm.findClass j4 = some m.cls), hlk, X0, e0⟩ := own_st Bd hh
 have D := @hb _ _ hby
 have lt0 := lN P0.lt
 have lt1 := lN P1.lt
 have lt2 := lN P2.lt
 have lt3 := lN P3.lt
 have K0 : Keep h0 h0 [] := Keep.refl h0 _
 have Z0 := own_old_le O0
 have N0 := Fr.nil n0
 let lv1 : Array Slot := #[vR x1, vI off, .val (.long z1), .second, vI d, vI i, .unset, .unset]
 refine OwnEnd.start (g' := (mkF m 0 lv1 [])) (own_efdk m x1 off z1 d i) ?_
 rcases P4 with hr | hr
 ·refine oo (S' := s₁.setTop (mkF m 8 lv1 [(.int 1)])) (fun _ kK => XS.iload X0.here hx rfl (D d38_0) rfl (XS.iload X0.here hx rfl (D d38_2) rfl (XS.icmpNo X0.here hx rfl (D d38_4) rfl (flt (hr)).1 (XS.iconst X0.here hx rfl (D d38_7) kK)))) ?_
  refine OwnEnd.ret X0 (v := (some (.int (nar .boolean (1 : Int32))))) (fun h => by rw [Bd.returns] at h; cases h) hlk (fun fs hr => retN X0 hx (t := .boolean) Bd.returns (by simp) (D d38_8) hr) (by decide) (by decide) (Q := Qdk Z x1 t1 k1 N vs off z1 d i h0 n0) e0 ?_
  exact ⟨rfl, N0, K0⟩
 ·refine oo (S' := s₁.setTop (mkF m 17 lv1 [(.int ((d - (1 : Int32)) - i)), (.long z1)])) (fun _ kK => XS.iload X0.here hx rfl (D d38_0) rfl (XS.iload X0.here hx rfl (D d38_2) rfl (XS.icmpYes X0.here hx rfl (pc0 := 4) (pc' := 9) rfl (D d38_4) rfl (tlt (hr.1)).1 (by decide) (by decide) (XS.lloadN X0.here hx rfl (D d38_9) rfl (XS.iload X0.here hx rfl (D d38_10) rfl (XS.iconst X0.here hx rfl (D d38_12) (XS.isub X0.here hx rfl (D d38_13) rfl (XS.iload X0.here hx rfl (D d38_14) rfl (XS.isub X0.here hx rfl (D d38_16) rfl kK))))))))) ?_
  obtain ⟨_, _, ⟨T2, L2, k2, n2⟩, -, X2, ⟨Lc2, hQ2, l2, y2, z2⟩, st2⟩ := Jvm.LawKit.callS X0 hx (y := own_m37) hown (mw hZ G 207 rfl) (mw hZ G 208 rfl) (mw hZ G 178 rfl) (mw hZ G 209 rfl) (by decide) (backOf (W := 2) (rmpw l Z a0 G [] ((d - (1 : Int32)) - i) h0 n0 O0 hr.2.1 hr.2.2.1) hZ (w_ G 209 rfl) (w_ G 178 rfl) (by decide) (by decide)) (g := (mkF m 17 lv1 [(.int ((d - (1 : Int32)) - i)), (.long z1)])) rfl (by rw [hml]; rfl) (argsL := [(.int ((d - (1 : Int32)) - i))]) (rest := [(.long z1)]) (lenOf pd_24 rfl) rfl (own_z rfl) (D d38_17) (fun _ _ => ⟨rfl, e0, (ol rfl), (ol rfl)⟩)
  dsimp only [Pt.U, Pt.locs, Pt.cells, Pt.slots] at X2 l2 y2 z2 st2 hQ2
  subst l2 y2 z2
  obtain ⟨rfl, N2q, Kq2⟩ := hQ2
  have N2 := Fr.app N0 N2q
  have sz3 := Kq2.1
  have K3 := K0.trans Kq2 (own_all0 )
  have O3 := O0.keep Kq2 (own_all0 )
  refine oo (S' := T2.setTop (mkF m 20 lv1 [(.long (own_p10 ((d - (1 : Int32)) - i))), (.long z1)])) st2 ?_
  refine oo (S' := T2.setTop (mkF m 21 lv1 [(.long (z1 / (own_p10 ((d - (1 : Int32)) - i))))])) (fun _ kK => XS.ldiv X2.here hx rfl (D d38_20) rfl hr.2.2.2.2.2.2.2 kK) ?_
  refine oo (S' := T2.setTop (mkF m 24 lv1 [(.long (10 : Int64)), (.long (z1 / (own_p10 ((d - (1 : Int32)) - i))))])) (fun _ kK => X2.ldc2Long hx hown (mw hZ G 180 rfl) (g := (mkF m 21 lv1 [(.long (z1 / (own_p10 ((d - (1 : Int32)) - i))))])) rfl (D d38_21) _ kK) ?_
  let lv4 : Array Slot := #[vR x1, vI off, .val (.long z1), .second, vI d, vI i, .val (.long ((z1 / (own_p10 ((d - (1 : Int32)) - i))) - ((z1 / (own_p10 ((d - (1 : Int32)) - i))) / (10 : Int64)) * (10 : Int64))), .second]
  refine oo (S' := T2.setTop (mkF m 32 lv4 [(.int (off + i)), (.ref x1)])) (fun _ kK => XS.lrem X2.here hx rfl (D d38_24) rfl (by decide) (XS.lstore X2.here hx rfl (D d38_25) rfl (l' := lv4) rfl (XS.aloadN X2.here hx rfl (D d38_27) rfl rfl (XS.iloadN X2.here hx rfl (D d38_28) rfl (XS.iload X2.here hx rfl (D d38_29) rfl (XS.iadd X2.here hx rfl (D d38_31) rfl kK)))))) ?_
  have f5 := (P0.keep Kq2)
  have f6 := (P1.keep Kq2 nin0)
  have f7 := (P2.keep Kq2 nin0)
  have f8 := (P3.keep Kq2 nin0)
  obtain ⟨cq9, kq9, q9a, q9b, q9c⟩ := isOf hZ rfl f5
  obtain ⟨_, _, ⟨T9, L9, k9, n9⟩, -, X9, ⟨Lc9, hQ9, l9, y9, z9⟩, st9⟩ := X2.virtualBack hx (y := own_m8) (z := own_m8) hown (mw hZ G 182 rfl) (mw hZ G 183 rfl) (notFace_of_selects (args := #[]) (mw hZ G 185 rfl)) (mw hZ G 185 rfl) (mw hZ G 184 rfl) (by decide) (backOf (W := 0) (rmcA0 l Z a0 G [] x1 t1 k1 N vs (.int 0) (off + i) (own_dq z1 ((d - (1 : Int32)) - i)) T2.heap n0 O3 f5 f6 f7 f8 hr.2.2.2.1 hr.2.2.2.2.1 hr.2.2.2.2.2.1 hr.2.2.2.2.2.2.1) hZ (w_ G 186 rfl) (w_ G 3 rfl) (by decide) (by decide)) q9a q9c (g := (mkF m 32 lv4 [(.int (off + i)), (.ref x1)])) rfl (by rw [hml]; rfl) (Steps.refl _) (argsL := [(.int (off + i))]) (rest := []) (lenOf pd_25 rfl) rfl (own_z rfl) (D d38_32) (fun _ _ => ⟨rfl, rfl, (ol rfl), (ol rfl)⟩)
  dsimp only [Pt.U, Pt.locs, Pt.cells, Pt.slots] at X9 l9 y9 z9 st9 hQ9
  subst l9 y9 z9
  obtain ⟨rfl, N9q, eh9⟩ := hQ9
  have N9 := Fr.app N2 N9q
  refine ot (S' := T9.setTop (mkF m 35 lv4 [(.int (own_dq z1 ((d - (1 : Int32)) - i)))])) st9 ?_
  refine oo (S' := T9.setTop (mkF m 50 lv4 [(.int 1)])) (fun _ kK => XS.bipush X9.here hx rfl (D d38_35) (XS.lload X9.here hx rfl (D d38_37) rfl (XS.l2i X9.here hx rfl (D d38_39) rfl (XS.iadd X9.here hx rfl (D d38_40) rfl (XS.i2c X9.here hx rfl (D d38_41) rfl (XS.icmpNo X9.here hx rfl (D d38_42) rfl (teq ((rfl : (own_dq z1 ((d - (1 : Int32)) - i)) = (nar .char ((48 : Int32) + (((z1 / (own_p10 ((d - (1 : Int32)) - i))) - ((z1 / (own_p10 ((d - (1 : Int32)) - i))) / (10 : Int64)) * (10 : Int64))).toInt32))))).2 (XS.iconst X9.here hx rfl (D d38_45) (XS.goto X9.here hx rfl (pc0 := 46) (pc' := 50) rfl (D d38_46) (by decide) (by decide) kK)))))))) ?_
  refine OwnEnd.ret X9 (v := (some (.int (nar .boolean (1 : Int32))))) (fun h => by rw [Bd.returns] at h; cases h) hlk (fun fs hr => retN X9 hx (t := .boolean) Bd.returns (by simp) (D d38_50) hr) (by decide) (by decide) (Q := Qdk Z x1 t1 k1 N vs off z1 d i h0 n0) eh9 ?_
  exact ⟨rfl, N9, K3⟩

def own_Qlaw (h0 : Heap) (n0 : Nat) (v : Option Value) (h : Heap) (L : List Loc) : Prop := v = some (.int 1) ∧ Fr n0 L ∧ Keep h0 h []

set_option maxRecDepth 65536 in
set_option maxHeartbeats 40000000 in
theorem sfk (l : Launch) (Z : State) (a0 : Array Value) (G : OwnG Z a0) (p0 : Int32) (p1 : Int32) (p2 : Int32) (h0 : Heap) (n0 : Nat) (O0 : Old Z n0 h0)  {p : Program} {e : Env} {s : State} {m : MethodId} {below : List Frame} {meth : Method} {cD : Code} {s₁ : State} {Sp : Spec} (Bd : BodyLoose p l x Sp code maxLocals ret e s m #[(.int p0), (.int p1), (.int p2)] below meth cD s₁) (hml0 : cD.maxLocals = maxLocals) (hZ : Z.Warmed39 s.vm) {vmJ : Vm} {kJ : Nat} {TJ : State} {locs : List Loc} (SiJ : s.Since vmJ kJ) (hZJ : Z.Warmed39 (s.setVm vmJ).vm) (hownJ : (s.setVm vmJ).vm.findClass j4 = some m.cls) (XJ : Stand p l e room_1 (s.setVm vmJ) m #[(.int p0), (.int p1), (.int p2)] below meth cD TJ locs 30 2000) (hJ : Heap) (eJ : TJ.heap = hJ) (KJ : Keep h0 hJ []) (OJ : Old Z n0 hJ) (NJ : Fr n0 locs) (szJ : Array.size h0 ≤ Array.size hJ) (hkJ : kJ ≤ Array.size hJ) (x1 : Addr) (t1 : Addr) (k1 : ClassId) (N : Int32) (us : List Value) (off : Int32) (dd : Int32) (za : Int64) (nn : Int32) (ca : Addr) (hs : Addr) (g7 : Int32) (g11 : Int32) (J0 : Exa Z hJ x1 j1) (J1 : Fld Z hJ x1 j1 "value" "[B" (.ref t1)) (J2 : Fld Z hJ x1 j1 "coder" "B" (.int 0)) (J3 : Arv Z hJ t1 k1 .byte N us (.int 0)) (J4 : ∀ k : Nat, k < 10 → own_dgp us N off dd (Int32.ofNat k) za) :
  OwnEnd p e below (fun o t => ∃ v L, o = .returned v ∧ own_Qlaw h0 n0 v t.heap L ∧ ReturnedEndW s o t L room_1.cells room_1.slots) (TJ.setTop (mkF m 241 #[vI p0, vI p1, vI p2, vI nn, vR ca, vR hs, vR x1, vI g7, .val (.long za), .second, vI dd, vI g11, vI off] [])) := by
 have hx := Bd.exec
 have hby := Bd.bytes
 have D := @hb _ _ hby
 have hml : cD.maxLocals = 13 := hml0
 have hown : s.vm.findClass j4 = some m.cls := findClass_of_methodNamed Bd.named
 have hlk := Bd.notSynchronized
 have ltJ0 := lN J0.lt
 have ltJ1 := lN J1.lt
 have ltJ2 := lN J2.lt
 have ltJ3 := lN J3.lt
 have Z0 := own_old_le O0
 let lv1 : Array Slot := #[vI p0, vI p1, vI p2, vI nn, vR ca, vR hs, vR x1, vI g7, .val (.long za), .second, vI dd, vI g11, vI off]
 refine oo (S' := TJ.setTop (mkF m 250 lv1 [(.int 0), (.int dd), (.long za), (.int off), (.ref x1)])) (fun _ kK => XS.aload XJ.here hx rfl (D at_241) rfl rfl (XS.iload XJ.here hx rfl (D at_243) rfl (XS.lload XJ.here hx rfl (D at_245) rfl (XS.iload XJ.here hx rfl (D at_247) rfl (XS.iconst XJ.here hx rfl (D at_249) kK))))) ?_
 obtain ⟨_, _, ⟨T2, L2, k2, n2⟩, -, X2, ⟨Lc2, hQ2, l2, y2, z2⟩, st2⟩ := Jvm.LawKit.callS XJ hx (y := own_m38) hownJ (mw hZJ G 204 rfl) (mw hZJ G 205 rfl) (mw hZJ G 178 rfl) (mw hZJ G 206 rfl) (by decide) (backOf (W := 0) (rmdk l Z a0 G [] x1 t1 k1 N us off za dd (0 : Int32) hJ n0 OJ J0 J1 J2 J3 (J4 0 (by decide))) hZJ (w_ G 206 rfl) (w_ G 178 rfl) (by decide) (by decide)) (g := (mkF m 250 lv1 [(.int 0), (.int dd), (.long za), (.int off), (.ref x1)])) rfl (by rw [hml]; rfl) (argsL := [(.ref x1), (.int off), (.long za), (.int dd), (.int 0)]) (rest := []) (lenOf pd_26 rfl) rfl (own_z rfl) (D at_250) (fun _ _ => ⟨rfl, eJ, (ol rfl), (ol rfl)⟩)
 dsimp only [Pt.U, Pt.locs, Pt.cells, Pt.slots] at X2 l2 y2 z2 st2 hQ2
 subst l2 y2 z2
 obtain ⟨rfl, N2q, Kq2⟩ := hQ2
 have N2 := Fr.app NJ N2q
 have sz3 := Kq2.1
 have K3 := KJ.trans Kq2 (own_all0 )
 have O3 := OJ.keep Kq2 (own_all0 )
 refine oo (S' := T2.setTop (mkF m 253 lv1 [(.int 1)])) st2 ?_
 refine oo (S' := T2.setTop (mkF m 265 lv1 [(.int 1), (.int dd), (.long za), (.int off), (.ref x1)])) (fun _ kK => XS.ifNo X2.here hx rfl (D at_253) rfl ((if0 _ _).trans (feq ((by decide : ¬ ((1 : Int32) = (0 : Int32))))).1) (XS.aload X2.here hx rfl (D at_256) rfl rfl (XS.iload X2.here hx rfl (D at_258) rfl (XS.lload X2.here hx rfl (D at_260) rfl (XS.iload X2.here hx rfl (D at_262) rfl (XS.iconst X2.here hx rfl (D at_264) kK)))))) ?_
 have f4 := (J0.keep Kq2)
 have f5 := (J1.keep Kq2 nin0)
 have f6 := (J2.keep Kq2 nin0)
 have f7 := (J3.keep Kq2 nin0)
 obtain ⟨_, _, ⟨T8, L8, k8, n8⟩, -, X8, ⟨Lc8, hQ8, l8, y8, z8⟩, st8⟩ := Jvm.LawKit.callS X2 hx (y := own_m38) hownJ (mw hZJ G 204 rfl) (mw hZJ G 205 rfl) (mw hZJ G 178 rfl) (mw hZJ G 206 rfl) (by decide) (backOf (W := 0) (rmdk l Z a0 G [] x1 t1 k1 N us off za dd (1 : Int32) T2.heap n0 O3 f4 f5 f6 f7 (J4 1 (by decide))) hZJ (w_ G 206 rfl) (w_ G 178 rfl) (by decide) (by decide)) (g := (mkF m 265 lv1 [(.int 1), (.int dd), (.long za), (.int off), (.ref x1)])) rfl (by rw [hml]; rfl) (argsL := [(.ref x1), (.int off), (.long za), (.int dd), (.int 1)]) (rest := []) (lenOf pd_26 rfl) rfl (own_z rfl) (D at_265) (fun _ _ => ⟨rfl, rfl, (ol rfl), (ol rfl)⟩)
 dsimp only [Pt.U, Pt.locs, Pt.cells, Pt.slots] at X8 l8 y8 z8 st8 hQ8
 subst l8 y8 z8
 obtain ⟨rfl, N8q, Kq8⟩ := hQ8
 have N8 := Fr.app N2 N8q
 have sz9 := Kq8.1
 have K9 := K3.trans Kq8 (own_all0 )
 have O9 := O3.keep Kq8 (own_all0 )
 refine oo (S' := T8.setTop (mkF m 268 lv1 [(.int 1)])) st8 ?_
 refine oo (S' := T8.setTop (mkF m 280 lv1 [(.int 2), (.int dd), (.long za), (.int off), (.ref x1)])) (fun _ kK => XS.ifNo X8.here hx rfl (D at_268) rfl ((if0 _ _).trans (feq ((by decide : ¬ ((1 : Int32) = (0 : Int32))))).1) (XS.aload X8.here hx rfl (D at_271) rfl rfl (XS.iload X8.here hx rfl (D at_273) rfl (XS.lload X8.here hx rfl (D at_275) rfl (XS.iload X8.here hx rfl (D at_277) rfl (XS.iconst X8.here hx rfl (D at_279) kK)))))) ?_
 have f10 := (f4.keep Kq8)
 have f11 := (f5.keep Kq8 nin0)
 have f12 := (f6.keep Kq8 nin0)
 have f13 := (f7.keep Kq8 nin0)
 obtain ⟨_, _, ⟨T14, L14, k14, n14⟩, -, X14, ⟨Lc14, hQ14, l14, y14, z14⟩, st14⟩ := Jvm.LawKit.callS X8 hx (y := own_m38) hownJ (mw hZJ G 204 rfl) (mw hZJ G 205 rfl) (mw hZJ G 178 rfl) (mw hZJ G 206 rfl) (by decide) (backOf (W := 0) (rmdk l Z a0 G [] x1 t1 k1 N us off za dd (2 : Int32) T8.heap n0 O9 f10 f11 f12 f13 (J4 2 (by decide))) hZJ (w_ G 206 rfl) (w_ G 178 rfl) (by decide) (by decide)) (g := (mkF m 280 lv1 [(.int 2), (.int dd), (.long za), (.int off), (.ref x1)])) rfl (by rw [hml]; rfl) (argsL := [(.ref x1), (.int off), (.long za), (.int dd), (.int 2)]) (rest := []) (lenOf pd_26 rfl) rfl (own_z rfl) (D at_280) (fun _ _ => ⟨rfl, rfl, (ol rfl), (ol rfl)⟩)
 dsimp only [Pt.U, Pt.locs, Pt.cells, Pt.slots] at X14 l14 y14 z14 st14 hQ14
 subst l14 y14 z14
 obtain ⟨rfl, N14q, Kq14⟩ := hQ14
 have N14 := Fr.app N8 N14q
 have sz15 := Kq14.1
 have K15 := K9.trans Kq14 (own_all0 )
 have O15 := O9.keep Kq14 (own_all0 )
 refine oo (S' := T14.setTop (mkF m 283 lv1 [(.int 1)])) st14 ?_
 refine oo (S' := T14.setTop (mkF m 295 lv1 [(.int 3), (.int dd), (.long za), (.int off), (.ref x1)])) (fun _ kK => XS.ifNo X14.here hx rfl (D at_283) rfl ((if0 _ _).trans (feq ((by decide : ¬ ((1 : Int32) = (0 : Int32))))).1) (XS.aload X14.here hx rfl (D at_286) rfl rfl (XS.iload X14.here hx rfl (D at_288) rfl (XS.lload X14.here hx rfl (D at_290) rfl (XS.iload X14.here hx rfl (D at_292) rfl (XS.iconst X14.here hx rfl (D at_294) kK)))))) ?_
 have f16 := (f10.keep Kq14)
 have f17 := (f11.keep Kq14 nin0)
 have f18 := (f12.keep Kq14 nin0)
 have f19 := (f13.keep Kq14 nin0)
 obtain ⟨_, _, ⟨T20, L20, k20, n20⟩, -, X20, ⟨Lc20, hQ20, l20, y20, z20⟩, st20⟩ := Jvm.LawKit.callS X14 hx (y := own_m38) hownJ (mw hZJ G 204 rfl) (mw hZJ G 205 rfl) (mw hZJ G 178 rfl) (mw hZJ G 206 rfl) (by decide) (backOf (W := 0) (rmdk l Z a0 G [] x1 t1 k1 N us off za dd (3 : Int32) T14.heap n0 O15 f16 f17 f18 f19 (J4 3 (by decide))) hZJ (w_ G 206 rfl) (w_ G 178 rfl) (by decide) (by decide)) (g := (mkF m 295 lv1 [(.int 3), (.int dd), (.long za), (.int off), (.ref x1)])) rfl (by rw [hml]; rfl) (argsL := [(.ref x1), (.int off), (.long za), (.int dd), (.int 3)]) (rest := []) (lenOf pd_26 rfl) rfl (own_z rfl) (D at_295) (fun _ _ => ⟨rfl, rfl, (ol rfl), (ol rfl)⟩)
 dsimp only [Pt.U, Pt.locs, Pt.cells, Pt.slots] at X20 l20 y20 z20 st20 hQ20
 subst l20 y20 z20
 obtain ⟨rfl, N20q, Kq20⟩ := hQ20
 have N20 := Fr.app N14 N20q
 have sz21 := Kq20.1
 have K21 := K15.trans Kq20 (own_all0 )
 have O21 := O15.keep Kq20 (own_all0 )
 refine oo (S' := T20.setTop (mkF m 298 lv1 [(.int 1)])) st20 ?_
 refine oo (S' := T20.setTop (mkF m 310 lv1 [(.int 4), (.int dd), (.long za), (.int off), (.ref x1)])) (fun _ kK => XS.ifNo X20.here hx rfl (D at_298) rfl ((if0 _ _).trans (feq ((by decide : ¬ ((1 : Int32) = (0 : Int32))))).1) (XS.aload X20.here hx rfl (D at_301) rfl rfl (XS.iload X20.here hx rfl (D at_303) rfl (XS.lload X20.here hx rfl (D at_305) rfl (XS.iload X20.here hx rfl (D at_307) rfl (XS.iconst X20.here hx rfl (D at_309) kK)))))) ?_
 have f22 := (f16.keep Kq20)
 have f23 := (f17.keep Kq20 nin0)
 have f24 := (f18.keep Kq20 nin0)
 have f25 := (f19.keep Kq20 nin0)
 obtain ⟨_, _, ⟨T26, L26, k26, n26⟩, -, X26, ⟨Lc26, hQ26, l26, y26, z26⟩, st26⟩ := Jvm.LawKit.callS X20 hx (y := own_m38) hownJ (mw hZJ G 204 rfl) (mw hZJ G 205 rfl) (mw hZJ G 178 rfl) (mw hZJ G 206 rfl) (by decide) (backOf (W := 0) (rmdk l Z a0 G [] x1 t1 k1 N us off za dd (4 : Int32) T20.heap n0 O21 f22 f23 f24 f25 (J4 4 (by decide))) hZJ (w_ G 206 rfl) (w_ G 178 rfl) (by decide) (by decide)) (g := (mkF m 310 lv1 [(.int 4), (.int dd), (.long za), (.int off), (.ref x1)])) rfl (by rw [hml]; rfl) (argsL := [(.ref x1), (.int off), (.long za), (.int dd), (.int 4)]) (rest := []) (lenOf pd_26 rfl) rfl (own_z rfl) (D at_310) (fun _ _ => ⟨rfl, rfl, (ol rfl), (ol rfl)⟩)
 dsimp only [Pt.U, Pt.locs, Pt.cells, Pt.slots] at X26 l26 y26 z26 st26 hQ26
 subst l26 y26 z26
 obtain ⟨rfl, N26q, Kq26⟩ := hQ26
 have N26 := Fr.app N20 N26q
 have sz27 := Kq26.1
 have K27 := K21.trans Kq26 (own_all0 )
 have O27 := O21.keep Kq26 (own_all0 )
 refine oo (S' := T26.setTop (mkF m 313 lv1 [(.int 1)])) st26 ?_
 refine oo (S' := T26.setTop (mkF m 325 lv1 [(.int 5), (.int dd), (.long za), (.int off), (.ref x1)])) (fun _ kK => XS.ifNo X26.here hx rfl (D at_313) rfl ((if0 _ _).trans (feq ((by decide : ¬ ((1 : Int32) = (0 : Int32))))).1) (XS.aload X26.here hx rfl (D at_316) rfl rfl (XS.iload X26.here hx rfl (D at_318) rfl (XS.lload X26.here hx rfl (D at_320) rfl (XS.iload X26.here hx rfl (D at_322) rfl (XS.iconst X26.here hx rfl (D at_324) kK)))))) ?_
 have f28 := (f22.keep Kq26)
 have f29 := (f23.keep Kq26 nin0)
 have f30 := (f24.keep Kq26 nin0)
 have f31 := (f25.keep Kq26 nin0)
 obtain ⟨_, _, ⟨T32, L32, k32, n32⟩, -, X32, ⟨Lc32, hQ32, l32, y32, z32⟩, st32⟩ := Jvm.LawKit.callS X26 hx (y := own_m38) hownJ (mw hZJ G 204 rfl) (mw hZJ G 205 rfl) (mw hZJ G 178 rfl) (mw hZJ G 206 rfl) (by decide) (backOf (W := 0) (rmdk l Z a0 G [] x1 t1 k1 N us off za dd (5 : Int32) T26.heap n0 O27 f28 f29 f30 f31 (J4 5 (by decide))) hZJ (w_ G 206 rfl) (w_ G 178 rfl) (by decide) (by decide)) (g := (mkF m 325 lv1 [(.int 5), (.int dd), (.long za), (.int off), (.ref x1)])) rfl (by rw [hml]; rfl) (argsL := [(.ref x1), (.int off), (.long za), (.int dd), (.int 5)]) (rest := []) (lenOf pd_26 rfl) rfl (own_z rfl) (D at_325) (fun _ _ => ⟨rfl, rfl, (ol rfl), (ol rfl)⟩)
 dsimp only [Pt.U, Pt.locs, Pt.cells, Pt.slots] at X32 l32 y32 z32 st32 hQ32
 subst l32 y32 z32
 obtain ⟨rfl, N32q, Kq32⟩ := hQ32
 have N32 := Fr.app N26 N32q
 have sz33 := Kq32.1
 have K33 := K27.trans Kq32 (own_all0 )
 have O33 := O27.keep Kq32 (own_all0 )
 refine oo (S' := T32.setTop (mkF m 328 lv1 [(.int 1)])) st32 ?_
 refine oo (S' := T32.setTop (mkF m 341 lv1 [(.int 6), (.int dd), (.long za), (.int off), (.ref x1)])) (fun _ kK => XS.ifNo X32.here hx rfl (D at_328) rfl ((if0 _ _).trans (feq ((by decide : ¬ ((1 : Int32) = (0 : Int32))))).1) (XS.aload X32.here hx rfl (D at_331) rfl rfl (XS.iload X32.here hx rfl (D at_333) rfl (XS.lload X32.here hx rfl (D at_335) rfl (XS.iload X32.here hx rfl (D at_337) rfl (XS.bipush X32.here hx rfl (D at_339) kK)))))) ?_
 have f34 := (f28.keep Kq32)
 have f35 := (f29.keep Kq32 nin0)
 have f36 := (f30.keep Kq32 nin0)
 have f37 := (f31.keep Kq32 nin0)
 obtain ⟨_, _, ⟨T38, L38, k38, n38⟩, -, X38, ⟨Lc38, hQ38, l38, y38, z38⟩, st38⟩ := Jvm.LawKit.callS X32 hx (y := own_m38) hownJ (mw hZJ G 204 rfl) (mw hZJ G 205 rfl) (mw hZJ G 178 rfl) (mw hZJ G 206 rfl) (by decide) (backOf (W := 0) (rmdk l Z a0 G [] x1 t1 k1 N us off za dd (6 : Int32) T32.heap n0 O33 f34 f35 f36 f37 (J4 6 (by decide))) hZJ (w_ G 206 rfl) (w_ G 178 rfl) (by decide) (by decide)) (g := (mkF m 341 lv1 [(.int 6), (.int dd), (.long za), (.int off), (.ref x1)])) rfl (by rw [hml]; rfl) (argsL := [(.ref x1), (.int off), (.long za), (.int dd), (.int 6)]) (rest := []) (lenOf pd_26 rfl) rfl (own_z rfl) (D at_341) (fun _ _ => ⟨rfl, rfl, (ol rfl), (ol rfl)⟩)
 dsimp only [Pt.U, Pt.locs, Pt.cells, Pt.slots] at X38 l38 y38 z38 st38 hQ38
 subst l38 y38 z38
 obtain ⟨rfl, N38q, Kq38⟩ := hQ38
 have N38 := Fr.app N32 N38q
 have sz39 := Kq38.1
 have K39 := K33.trans Kq38 (own_all0 )
 have O39 := O33.keep Kq38 (own_all0 )
 refine oo (S' := T38.setTop (mkF m 344 lv1 [(.int 1)])) st38 ?_
 refine oo (S' := T38.setTop (mkF m 357 lv1 [(.int 7), (.int dd), (.long za), (.int off), (.ref x1)])) (fun _ kK => XS.ifNo X38.here hx rfl (D at_344) rfl ((if0 _ _).trans (feq ((by decide : ¬ ((1 : Int32) = (0 : Int32))))).1) (XS.aload X38.here hx rfl (D at_347) rfl rfl (XS.iload X38.here hx rfl (D at_349) rfl (XS.lload X38.here hx rfl (D at_351) rfl (XS.iload X38.here hx rfl (D at_353) rfl (XS.bipush X38.here hx rfl (D at_355) kK)))))) ?_
 have f40 := (f34.keep Kq38)
 have f41 := (f35.keep Kq38 nin0)
 have f42 := (f36.keep Kq38 nin0)
 have f43 := (f37.keep Kq38 nin0)
 obtain ⟨_, _, ⟨T44, L44, k44, n44⟩, -, X44, ⟨Lc44, hQ44, l44, y44, z44⟩, st44⟩ := Jvm.LawKit.callS X38 hx (y := own_m38) hownJ (mw hZJ G 204 rfl) (mw hZJ G 205 rfl) (mw hZJ G 178 rfl) (mw hZJ G 206 rfl) (by decide) (backOf (W := 0) (rmdk l Z a0 G [] x1 t1 k1 N us off za dd (7 : Int32) T38.heap n0 O39 f40 f41 f42 f43 (J4 7 (by decide))) hZJ (w_ G 206 rfl) (w_ G 178 rfl) (by decide) (by decide)) (g := (mkF m 357 lv1 [(.int 7), (.int dd), (.long za), (.int off), (.ref x1)])) rfl (by rw [hml]; rfl) (argsL := [(.ref x1), (.int off), (.long za), (.int dd), (.int 7)]) (rest := []) (lenOf pd_26 rfl) rfl (own_z rfl) (D at_357) (fun _ _ => ⟨rfl, rfl, (ol rfl), (ol rfl)⟩)
 dsimp only [Pt.U, Pt.locs, Pt.cells, Pt.slots] at X44 l44 y44 z44 st44 hQ44
 subst l44 y44 z44
 obtain ⟨rfl, N44q, Kq44⟩ := hQ44
 have N44 := Fr.app N38 N44q
 have sz45 := Kq44.1
 have K45 := K39.trans Kq44 (own_all0 )
 have O45 := O39.keep Kq44 (own_all0 )
 refine oo (S' := T44.setTop (mkF m 360 lv1 [(.int 1)])) st44 ?_
 refine oo (S' := T44.setTop (mkF m 373 lv1 [(.int 8), (.int dd), (.long za), (.int off), (.ref x1)])) (fun _ kK => XS.ifNo X44.here hx rfl (D at_360) rfl ((if0 _ _).trans (feq ((by decide : ¬ ((1 : Int32) = (0 : Int32))))).1) (XS.aload X44.here hx rfl (D at_363) rfl rfl (XS.iload X44.here hx rfl (D at_365) rfl (XS.lload X44.here hx rfl (D at_367) rfl (XS.iload X44.here hx rfl (D at_369) rfl (XS.bipush X44.here hx rfl (D at_371) kK)))))) ?_
 have f46 := (f40.keep Kq44)
 have f47 := (f41.keep Kq44 nin0)
 have f48 := (f42.keep Kq44 nin0)
 have f49 := (f43.keep Kq44 nin0)
 obtain ⟨_, _, ⟨T50, L50, k50, n50⟩, -, X50, ⟨Lc50, hQ50, l50, y50, z50⟩, st50⟩ := Jvm.LawKit.callS X44 hx (y := own_m38) hownJ (mw hZJ G 204 rfl) (mw hZJ G 205 rfl) (mw hZJ G 178 rfl) (mw hZJ G 206 rfl) (by decide) (backOf (W := 0) (rmdk l Z a0 G [] x1 t1 k1 N us off za dd (8 : Int32) T44.heap n0 O45 f46 f47 f48 f49 (J4 8 (by decide))) hZJ (w_ G 206 rfl) (w_ G 178 rfl) (by decide) (by decide)) (g := (mkF m 373 lv1 [(.int 8), (.int dd), (.long za), (.int off), (.ref x1)])) rfl (by rw [hml]; rfl) (argsL := [(.ref x1), (.int off), (.long za), (.int dd), (.int 8)]) (rest := []) (lenOf pd_26 rfl) rfl (own_z rfl) (D at_373) (fun _ _ => ⟨rfl, rfl, (ol rfl), (ol rfl)⟩)
 dsimp only [Pt.U, Pt.locs, Pt.cells, Pt.slots] at X50 l50 y50 z50 st50 hQ50
 subst l50 y50 z50
 obtain ⟨rfl, N50q, Kq50⟩ := hQ50
 have N50 := Fr.app N44 N50q
 have sz51 := Kq50.1
 have K51 := K45.trans Kq50 (own_all0 )
 have O51 := O45.keep Kq50 (own_all0 )
 refine oo (S' := T50.setTop (mkF m 376 lv1 [(.int 1)])) st50 ?_
 refine oo (S' := T50.setTop (mkF m 389 lv1 [(.int 9), (.int dd), (.long za), (.int off), (.ref x1)])) (fun _ kK => XS.ifNo X50.here hx rfl (D at_376) rfl ((if0 _ _).trans (feq ((by decide : ¬ ((1 : Int32) = (0 : Int32))))).1) (XS.aload X50.here hx rfl (D at_379) rfl rfl (XS.iload X50.here hx rfl (D at_381) rfl (XS.lload X50.here hx rfl (D at_383) rfl (XS.iload X50.here hx rfl (D at_385) rfl (XS.bipush X50.here hx rfl (D at_387) kK)))))) ?_
 have f52 := (f46.keep Kq50)
 have f53 := (f47.keep Kq50 nin0)
 have f54 := (f48.keep Kq50 nin0)
 have f55 := (f49.keep Kq50 nin0)
 obtain ⟨_, _, ⟨T56, L56, k56, n56⟩, -, X56, ⟨Lc56, hQ56, l56, y56, z56⟩, st56⟩ := Jvm.LawKit.callS X50 hx (y := own_m38) hownJ (mw hZJ G 204 rfl) (mw hZJ G 205 rfl) (mw hZJ G 178 rfl) (mw hZJ G 206 rfl) (by decide) (backOf (W := 0) (rmdk l Z a0 G [] x1 t1 k1 N us off za dd (9 : Int32) T50.heap n0 O51 f52 f53 f54 f55 (J4 9 (by decide))) hZJ (w_ G 206 rfl) (w_ G 178 rfl) (by decide) (by decide)) (g := (mkF m 389 lv1 [(.int 9), (.int dd), (.long za), (.int off), (.ref x1)])) rfl (by rw [hml]; rfl) (argsL := [(.ref x1), (.int off), (.long za), (.int dd), (.int 9)]) (rest := []) (lenOf pd_26 rfl) rfl (own_z rfl) (D at_389) (fun _ _ => ⟨rfl, rfl, (ol rfl), (ol rfl)⟩)
 dsimp only [Pt.U, Pt.locs, Pt.cells, Pt.slots] at X56 l56 y56 z56 st56 hQ56
 subst l56 y56 z56
 obtain ⟨rfl, N56q, Kq56⟩ := hQ56
 have N56 := Fr.app N50 N56q
 have sz57 := Kq56.1
 have K57 := K51.trans Kq56 (own_all0 )
 refine oo (S' := T56.setTop (mkF m 392 lv1 [(.int 1)])) st56 ?_
 refine oo (S' := T56.setTop (mkF m 400 lv1 [(.int 1)])) (fun _ kK => XS.ifNo X56.here hx rfl (D at_392) rfl ((if0 _ _).trans (feq ((by decide : ¬ ((1 : Int32) = (0 : Int32))))).1) (XS.iconst X56.here hx rfl (D at_395) (XS.goto X56.here hx rfl (pc0 := 396) (pc' := 400) rfl (D at_396) (by decide) (by decide) kK))) ?_
 refine OwnEnd.retW X56 SiJ (by omega) (v := (some (.int (nar .boolean (1 : Int32))))) (fun h => by rw [Bd.returns] at h; cases h) hlk (fun fs hr => retN X56 hx (t := .boolean) Bd.returns (by simp) (D at_400) hr) (by decide) (by decide) (Q := own_Qlaw h0 n0) rfl ?_
 exact ⟨rfl, N56, K57⟩

theorem own_eflaw (m : MethodId) (p0 : Int32) (p1 : Int32) (p2 : Int32) : entryFrame m #[(.int p0), (.int p1), (.int p2)] maxLocals = mkF m 0 #[vI p0, vI p1, vI p2, .unset, .unset, .unset, .unset, .unset, .unset, .unset, .unset, .unset, .unset] [] := by first | (simp [entryFrame, mkF, argsToLocals, Value.category, maxLocals]; done) | rfl
set_option maxRecDepth 65536 in
set_option maxHeartbeats 40000000 in
theorem rmlaw (l : Launch) (Z : State) (a0 : Array Value) (G : OwnG Z a0) (ws : List Jvm.Cond) (p0 : Int32) (p1 : Int32) (p2 : Int32) (h0 : Heap) (n0 : Nat) (O0 : Old Z n0 h0)  :
  MetFree l x (head1 (Jvm.Cond.code x code maxLocals ret :: ws) room_1) (fun a U => a = #[(.int p0), (.int p1), (.int p2)] ∧ Z.Warmed39 U.vm ∧ U.heap = h0 ∧ CHv Z consts_1 U.vm h0) (fun _ _ _ _ _ => True) (fun _ U o U' => ∃ v L, o = .returned v ∧ own_Qlaw h0 n0 v U'.heap L ∧ ReturnedEndW U o U' L room_1.cells room_1.slots) := by
 refine MetFree.of_bodySF (plainFor_of_name pn_9) hisR ?_
 intro p e s m args below meth cD s₁ Bd hml0 hP hK
 obtain ⟨rfl, hZ, hh, hCH⟩ := hP
 have hw := G.1
 have hml : cD.maxLocals = 13 := hml0
 obtain ⟨hx, hby, (hown : s.vm.findClass j4 = some m.cls), hlk, X0, e0⟩ := own_st Bd hh
 have D := @hb _ _ hby
 have K0 : Keep h0 h0 [] := Keep.refl h0 _
 have Z0 := own_old_le O0
 have N0 := Fr.nil n0
 have X0w : Stand p l e room_1 (s.setVm s.vm) m #[(.int p0), (.int p1), (.int p2)] below meth cD s₁ [] 0 0 := X0
 have Si0 : s.Since s.vm (Array.size h0) := (State.WarmedH.refl s).since _
 obtain ⟨zCS, SCS, PCS⟩ := own_cs G
 let lv1 : Array Slot := #[vI p0, vI p1, vI p2, .unset, .unset, .unset, .unset, .unset, .unset, .unset, .unset, .unset, .unset]
 refine OwnEnd.start (g' := (mkF m 0 lv1 [])) (own_eflaw m p0 p1 p2) ?_
 refine oo (S' := s₁.setTop (mkF m 3 lv1 [(.int (p0 &&& (3 : Int32)))])) (fun _ kK => XS.iloadN X0w.here hx rfl (D at_0) rfl (XS.iconst X0w.here hx rfl (D at_1) (XS.iand X0w.here hx rfl (D at_2) rfl kK))) ?_
 rcases own_and3 p0 with hr | hr | hr | hr
 ·rw [hr]
  let lv2 : Array Slot := #[vI p0, vI p1, vI p2, vI 0, .unset, .unset, .unset, .unset, .unset, .unset, .unset, .unset, .unset]
  refine oo (S' := s₁.setTop (mkF m 5 lv2 [(.int 0)])) (fun _ kK => XS.istoreN X0w.here hx rfl (D at_3) rfl (l' := lv2) rfl (XS.iloadN X0w.here hx rfl (D at_4) rfl kK)) ?_
  obtain ⟨T3, h3, k3, X3, e3, E3, A3, st3⟩ := newP X0w hx hZ (w_ G 0 rfl) e0 (g := (mkF m 5 lv2 [(.int 0)])) rfl (D at_5) rfl (by decide) (cap := 0) (by decide) (by decide) (by decide) (by decide)
  obtain ⟨b3, g3⟩ : ∃ z, z = Array.size h0 := ⟨_, rfl⟩
  rw [← g3] at A3 st3
  have lt_b3 := lN A3.lt
  have sz4 := E3.1
  have K4 := K0.ext E3
  have O4 := O0.ext E3
  have R4 := CHr.ext E3 hCH
  have CH4 := R4.1
  have V3 : Arv Z h3 b3 k3 .char (0 : Int32) [] (.int 0) := (Arv.new A3 (by decide)).pad (pad_rep [] (.int 0) 0)
  refine oo (S' := T3.setTop (mkF m 7 lv2 [(.ref b3)])) st3 ?_
  let lv5 : Array Slot := #[vI p0, vI p1, vI p2, vI 0, vR b3, .unset, .unset, .unset, .unset, .unset, .unset, .unset, .unset]
  refine oo (S' := T3.setTop (mkF m 59 lv5 [])) (fun _ kK => XS.astore X3.here hx rfl (D at_7) rfl rfl (l' := lv5) rfl (XS.iloadN X3.here hx rfl (D at_9) rfl (XS.ifYes X3.here hx rfl (pc0 := 10) (pc' := 23) rfl (D at_10) rfl ((if0 _ _).trans (flt ((by decide : ¬ ((0 : Int32) < (0 : Int32))))).2.2.2) (by decide) (by decide) (XS.iloadN X3.here hx rfl (D at_23) rfl (XS.iconst X3.here hx rfl (D at_24) (XS.icmpYes X3.here hx rfl (pc0 := 25) (pc' := 41) rfl (D at_25) rfl (flt ((by decide : ¬ ((1 : Int32) < (0 : Int32))))).2.2.2 (by decide) (by decide) (XS.iloadN X3.here hx rfl (D at_41) rfl (XS.iconst X3.here hx rfl (D at_42) (XS.icmpYes X3.here hx rfl (pc0 := 43) (pc' := 59) rfl (D at_43) rfl (flt ((by decide : ¬ ((2 : Int32) < (0 : Int32))))).2.2.2 (by decide) (by decide) kK))))))))) ?_
  obtain ⟨T6, h6, X6, e6, E6, A6, D6, -, st6⟩ := newO X3 hx hZ hown (w_ G 1 rfl) (w_ G 2 rfl) (w_ G 3 rfl) e3 (g := (mkF m 59 lv5 [])) rfl (D at_59) (by decide) (by decide)
  obtain ⟨b6, g6⟩ : ∃ z, z = Array.size h3 := ⟨_, rfl⟩
  rw [← g6] at A6 D6 st6
  have lt_b6 := lN A6.lt
  have sz7 := E6.1
  have K7 := K4.ext E6
  have O7 := O4.ext E6
  have R7 := CHr.ext E6 CH4
  have CH7 := R7.1
  have Sf6 : Safe Z consts_1 s.vm h6 b6 := Safe.ext E6 CH4 (Safe.new (by omega))
  have F6_value : Fld Z h6 b6 j1 "value" "[B" .null := D6 (Or.inr (w_ G 16 rfl)) (ty := (.array .byte)) (by decide)
  have F6_coder : Fld Z h6 b6 j1 "coder" "B" (.int 0) := D6 (Or.inr (w_ G 17 rfl)) (ty := .byte) (by decide)
  refine oo (S' := T6.setTop (mkF m 62 lv5 [(.ref b6)])) st6 ?_
  refine oo (S' := T6.setTop (mkF m 65 lv5 [(.ref b3), (.ref b6), (.ref b6)])) (fun _ kK => XS.dup X6.here hx rfl (D at_62) rfl rfl (XS.aload X6.here hx rfl (D at_63) rfl rfl kK)) ?_
  have f8 := (V3.ext E6)
  obtain ⟨_, _, ⟨T9, L9, k9, n9⟩, -, X9', Si9, gr9, ⟨Lc9, hQ9, l9, y9, z9, CH9⟩, st9⟩ := Jvm.Stand.specialBackS X6 hx (y := own_m1) rfl hown (mw hZ G 4 rfl) (mw hZ G 5 rfl) (mw hZ G 6 rfl) (by decide) (backOfSH (W := 1) (rmn1e l Z a0 G [] b6 b3 (.int 0) k3 [] (.int 0) h6 n0 O7 A6 F6_value F6_coder f8 (by omega)) hZ (w_ G 6 rfl) (w_ G 3 rfl) (by decide) (by decide) (own_EW G) CH7) (g := (mkF m 65 lv5 [(.ref b3), (.ref b6), (.ref b6)])) rfl (by rw [hml]; rfl) (Steps.refl _) (a := b6) (argsL := [(.ref b3)]) (rest := [(.ref b6)]) (lenOf pd_27 rfl) rfl (own_z rfl) (D at_65) (fun _ _ => ⟨rfl, e6, (ol rfl), (ol rfl)⟩)
  dsimp only [Pt.U, Pt.locs, Pt.cells, Pt.slots] at X9' l9 y9 z9 st9 hQ9 CH9 Si9 gr9
  subst l9 y9 z9
  obtain ⟨X9, Sj9, hZ9, hown9⟩ := rebS (n1 := Array.size h6) Si0 (by omega) X9' Si9 (by rw [e6] at gr9; omega) hZ hown
  obtain ⟨t_9, kb_9, rfl, N9q, Kq9, r9_0, r9_1, r9_2, r9_3⟩ := hQ9
  have N9 := Fr.app N0 N9q
  have sz10 := Kq9.1
  have K10 := K7.trans Kq9 (own_all1 (Or.inr (by omega)))
  have O10 := O7.keep Kq9 (own_all1 (by omega))
  have ltr9_0 := lN r9_0.lt
  have ltr9_1 := lN r9_1.lt
  have ltr9_2 := lN r9_2.lt
  have ltr9_3 := lN r9_3.lt
  refine ot (S' := T9.setTop (mkF m 68 lv5 [(.ref b6)])) st9 ?_
  let lv11 : Array Slot := #[vI p0, vI p1, vI p2, vI 0, vR b3, vR b6, .unset, .unset, .unset, .unset, .unset, .unset, .unset]
  refine oo (S' := T9.setTop (mkF m 70 lv11 [])) (fun _ kK => XS.astore X9.here hx rfl (D at_68) rfl rfl (l' := lv11) rfl kK) ?_
  obtain ⟨T12, h12, X12, e12, E12, A12, D12, -, st12⟩ := newO X9 hx hZ9 hown9 (w_ G 22 rfl) (w_ G 23 rfl) (w_ G 24 rfl) rfl (g := (mkF m 70 lv11 [])) rfl (D at_70) (by decide) (by decide)
  obtain ⟨b12, g12⟩ : ∃ z, z = Array.size T9.heap := ⟨_, rfl⟩
  rw [← g12] at A12 D12 st12
  have lt_b12 := lN A12.lt
  have sz13 := E12.1
  have K13 := K10.ext E12
  have O13 := O10.ext E12
  have R13 := CHr.ext E12 CH9.1
  have CH13 := R13.1
  have Sf12 : Safe Z consts_1 T9.vm h12 b12 := Safe.ext E12 CH9.1 (Safe.new (by omega))
  have F12_host : Fld Z h12 b12 j3 "host" "Ljava/lang/String;" .null := D12 (Or.inr (w_ G 35 rfl)) (ty := (.object j1)) (by decide)
  have F12_port : Fld Z h12 b12 j3 "port" "I" (.int 0) := D12 (Or.inr (w_ G 37 rfl)) (ty := .int) (by decide)
  refine oo (S' := T12.setTop (mkF m 73 lv11 [(.ref b12)])) st12 ?_
  refine oo (S' := T12.setTop (mkF m 77 lv11 [(.int p2), (.ref b6), (.ref b12), (.ref b12)])) (fun _ kK => XS.dup X12.here hx rfl (D at_73) rfl rfl (XS.aload X12.here hx rfl (D at_74) rfl rfl (XS.iloadN X12.here hx rfl (D at_76) rfl kK))) ?_
  obtain ⟨_, _, ⟨T14, L14, k14, n14⟩, -, X14, ⟨Lc14, hQ14, l14, y14, z14⟩, st14⟩ := Jvm.Stand.specialBack X12 hx (y := own_m33) rfl hown9 (mw hZ9 G 25 rfl) (mw hZ9 G 26 rfl) (mw hZ9 G 27 rfl) (by decide) (backOf (W := 1) (rmhpi l Z a0 G [] b12 b6 p2 .null (.int 0) h12 n0 O13 A12 F12_host F12_port (by omega)) hZ9 (w_ G 27 rfl) (w_ G 24 rfl) (by decide) (by decide)) (g := (mkF m 77 lv11 [(.int p2), (.ref b6), (.ref b12), (.ref b12)])) rfl (by rw [hml]; rfl) (Steps.refl _) (a := b12) (argsL := [(.ref b6), (.int p2)]) (rest := [(.ref b12)]) (lenOf pd_28 rfl) rfl (own_z rfl) (D at_77) (fun _ _ => ⟨rfl, e12, (ol rfl), (ol rfl)⟩)
  dsimp only [Pt.U, Pt.locs, Pt.cells, Pt.slots] at X14 l14 y14 z14 st14 hQ14
  subst l14 y14 z14
  obtain ⟨rfl, N14q, Kq14, r14_0, r14_1, r14_2⟩ := hQ14
  have N14 := Fr.app N9 N14q
  have sz15 := Kq14.1
  have K15 := K13.trans Kq14 (own_all1 (Or.inr (by omega)))
  have O15 := O13.keep Kq14 (own_all1 (by omega))
  have R15 := CHr.keep Kq14 (sfS (Safe.exa hZ9.alike A12 (by decide) (by decide)) sf0) CH13
  have CH15 := R15.1
  have ltr14_0 := lN r14_0.lt
  have ltr14_1 := lN r14_1.lt
  have ltr14_2 := lN r14_2.lt
  refine ot (S' := T14.setTop (mkF m 80 lv11 [(.ref b12)])) st14 ?_
  have f16 := ((r9_0.ext E12).keep Kq14)
  have f17 := ((r9_1.ext E12).keep Kq14 (own_nin1 (on (by omega))))
  have f18 := ((r9_2.ext E12).keep Kq14 (own_nin1 (on (by omega))))
  have f19 := ((r9_3.ext E12).keep Kq14 (own_nin1 (on (by omega))))
  obtain ⟨cq20, kq20, q20a, q20b, q20c⟩ := isOf hZ9 rfl r14_0
  obtain ⟨_, _, ⟨T20, L20, k20, n20⟩, -, X20', Si20, gr20, ⟨Lc20, hQ20, l20, y20, z20, CH20⟩, st20⟩ := X14.virtualBackS hx (y := own_m34) (z := own_m34) hown9 (mw hZ9 G 38 rfl) (mw hZ9 G 39 rfl) (notFace_of_selects (args := #[]) (mw hZ9 G 41 rfl)) (mw hZ9 G 41 rfl) (mw hZ9 G 40 rfl) (by decide) (backOfSH (W := 0) (rmht0 l Z a0 G [] b12 p2 b6 t_9 kb_9 T14.heap n0 O15 r14_1 r14_2 f16 f17 f18 f19) hZ9 (w_ G 42 rfl) (w_ G 24 rfl) (by decide) (by decide) (own_EW G) CH15) q20a q20c (g := (mkF m 80 lv11 [(.ref b12)])) rfl (by rw [hml]; rfl) (Steps.refl _) (argsL := []) (rest := []) (lenOf pd_23 rfl) rfl (own_z rfl) (D at_80) (fun _ _ => ⟨rfl, rfl, (ol rfl), (ol rfl)⟩)
  dsimp only [Pt.U, Pt.locs, Pt.cells, Pt.slots] at X20' l20 y20 z20 st20 hQ20 CH20 Si20 gr20
  subst l20 y20 z20
  obtain ⟨X20, Sj20, hZ20, hown20⟩ := rebS Sj9 (by omega : _ ≤ Array.size T14.heap) X20' Si20 (by omega) hZ9 hown9
  obtain ⟨x_20, t_20, kb_20, us_20, rfl, N20q, Kq20, r20_0, r20_1, r20_2, r20_3, r20_4⟩ := hQ20
  have N20 := Fr.app N14 N20q
  have sz21 := Kq20.1
  have K21 := K15.trans Kq20 (own_all0 )
  have O21 := O15.keep Kq20 (own_all0 )
  have ltr20_0 := lN r20_0.lt
  have ltr20_1 := lN r20_1.lt
  have ltr20_2 := lN r20_2.lt
  have ltr20_3 := lN r20_3.lt
  refine ot (S' := T20.setTop (mkF m 83 lv11 [(.ref x_20)])) st20 ?_
  let lv22 : Array Slot := #[vI p0, vI p1, vI p2, vI 0, vR b3, vR b6, vR x_20, .unset, .unset, .unset, .unset, .unset, .unset]
  refine oo (S' := T20.setTop (mkF m 86 lv22 [(.int p2)])) (fun _ kK => XS.astore X20.here hx rfl (D at_83) rfl rfl (l' := lv22) rfl (XS.iloadN X20.here hx rfl (D at_85) rfl kK)) ?_
  rcases Decidable.em (p2 < (0 : Int32)) with hc23 | hc23
  ·let lv24 : Array Slot := #[vI p0, vI p1, vI p2, vI 0, vR b3, vR b6, vR x_20, vI 1, .unset, .unset, .unset, .unset, .unset]
   refine oo (S' := T20.setTop (mkF m 98 lv24 [(.long (p2).toInt64)])) (fun _ kK => XS.ifNo X20.here hx rfl (D at_86) rfl ((if0 _ _).trans (tlt (hc23)).2.1) (XS.iconst X20.here hx rfl (D at_89) (XS.goto X20.here hx rfl (pc0 := 90) (pc' := 94) rfl (D at_90) (by decide) (by decide) (XS.istore X20.here hx rfl (D at_94) rfl (l' := lv24) rfl (XS.iloadN X20.here hx rfl (D at_96) rfl (XS.i2l X20.here hx rfl (D at_97) rfl kK)))))) ?_
   obtain ⟨_, _, ⟨T25, L25, k25, n25⟩, -, X25, ⟨Lc25, hQ25, l25, y25, z25⟩, st25⟩ := Jvm.LawKit.callS X20 hx (y := own_m35) hown20 (mw hZ20 G 173 rfl) (mw hZ20 G 174 rfl) (mw hZ20 G 170 rfl) (mw hZ20 G 175 rfl) (by decide) (backOf (W := 0) (rmab l Z a0 G [] (p2).toInt64 T20.heap n0 O21 ) hZ20 (w_ G 175 rfl) (w_ G 170 rfl) (by decide) (by decide)) (g := (mkF m 98 lv24 [(.long (p2).toInt64)])) rfl (by rw [hml]; rfl) (argsL := [(.long (p2).toInt64)]) (rest := []) (lenOf pd_29 rfl) rfl (own_z rfl) (D at_98) (fun _ _ => ⟨rfl, rfl, (ol rfl), (ol rfl)⟩)
   dsimp only [Pt.U, Pt.locs, Pt.cells, Pt.slots] at X25 l25 y25 z25 st25 hQ25
   subst l25 y25 z25
   obtain ⟨rfl, N25q, eh25⟩ := hQ25
   have N25 := Fr.app N20 N25q
   refine oo (S' := T25.setTop (mkF m 101 lv24 [(.long (own_ab (p2).toInt64))])) st25 ?_
   obtain ⟨za, gza⟩ : ∃ z, z = (own_ab (p2).toInt64) := ⟨_, rfl⟩
   rw [← gza]
   have hza : za.toInt = (own_n p2 : Int) := by rw [gza]; exact own_ab_eq p2
   let lv26 : Array Slot := #[vI p0, vI p1, vI p2, vI 0, vR b3, vR b6, vR x_20, vI 1, .val (.long za), .second, .unset, .unset, .unset]
   refine oo (S' := T25.setTop (mkF m 105 lv26 [(.long za)])) (fun _ kK => XS.lstore X25.here hx rfl (D at_101) rfl (l' := lv26) rfl (XS.lload X25.here hx rfl (D at_103) rfl kK)) ?_
   obtain ⟨_, _, ⟨T27, L27, k27, n27⟩, -, X27, ⟨Lc27, hQ27, l27, y27, z27⟩, st27⟩ := Jvm.LawKit.callS X25 hx (y := own_m36) hown20 (mw hZ20 G 176 rfl) (mw hZ20 G 177 rfl) (mw hZ20 G 178 rfl) (mw hZ20 G 179 rfl) (by decide) (backOf (W := 0) (rmdj l Z a0 G [] za T20.heap n0 O21 ) hZ20 (w_ G 179 rfl) (w_ G 178 rfl) (by decide) (by decide)) (g := (mkF m 105 lv26 [(.long za)])) rfl (by rw [hml]; rfl) (argsL := [(.long za)]) (rest := []) (lenOf pd_30 rfl) rfl (own_z rfl) (D at_105) (fun _ _ => ⟨rfl, eh25, (ol rfl), (ol rfl)⟩)
   dsimp only [Pt.U, Pt.locs, Pt.cells, Pt.slots] at X27 l27 y27 z27 st27 hQ27
   subst l27 y27 z27
   obtain ⟨rfl, N27q, eh27⟩ := hQ27
   have N27 := Fr.app N25 N27q
   refine oo (S' := T27.setTop (mkF m 108 lv26 [(.int (own_dj za))])) st27 ?_
   obtain ⟨dd, gdd⟩ : ∃ z, z = (own_dj za) := ⟨_, rfl⟩
   rw [← gdd]
   have hdd : dd = Int32.ofNat (own_nd (own_n p2)) := by rw [gdd]; exact own_dj_eq hza
   let lv28 : Array Slot := #[vI p0, vI p1, vI p2, vI 0, vR b3, vR b6, vR x_20, vI 1, .val (.long za), .second, vI dd, .unset, .unset]
   let lv29 : Array Slot := #[vI p0, vI p1, vI p2, vI 0, vR b3, vR b6, vR x_20, vI 1, .val (.long za), .second, vI dd, vI 1, .unset]
   refine oo (S' := T27.setTop (mkF m 124 lv29 [(.ref x_20)])) (fun _ kK => XS.istore X27.here hx rfl (D at_108) rfl (l' := lv28) rfl (XS.iload X27.here hx rfl (D at_110) rfl (XS.ifNo X27.here hx rfl (D at_112) rfl ((if0 _ _).trans (feq ((by decide : ¬ ((1 : Int32) = (0 : Int32))))).1) (XS.iconst X27.here hx rfl (D at_115) (XS.goto X27.here hx rfl (pc0 := 116) (pc' := 120) rfl (D at_116) (by decide) (by decide) (XS.istore X27.here hx rfl (D at_120) rfl (l' := lv29) rfl (XS.aload X27.here hx rfl (D at_122) rfl rfl kK))))))) ?_
   obtain ⟨cq30, kq30, q30a, q30b, q30c⟩ := isOf hZ20 eh27 r20_0
   obtain ⟨_, _, ⟨T30, L30, k30, n30⟩, -, X30, ⟨Lc30, hQ30, l30, y30, z30⟩, st30⟩ := X27.virtualBack hx (y := own_m6) (z := own_m6) hown20 (mw hZ20 G 181 rfl) (mw hZ20 G 72 rfl) (notFace_of_selects (args := #[]) (mw hZ20 G 74 rfl)) (mw hZ20 G 74 rfl) (mw hZ20 G 73 rfl) (by decide) (backOf (W := 0) (rmln0 l Z a0 G [] x_20 t_20 kb_20 ((1 : Int32) + (own_ssz p2)) us_20 (.int 0) T20.heap n0 O21 r20_0 r20_1 r20_2 r20_3) hZ20 (w_ G 75 rfl) (w_ G 3 rfl) (by decide) (by decide)) q30a q30c (g := (mkF m 124 lv29 [(.ref x_20)])) rfl (by rw [hml]; rfl) (Steps.refl _) (argsL := []) (rest := []) (lenOf pd_7 rfl) rfl (own_z rfl) (D at_124) (fun _ _ => ⟨rfl, eh27, (ol rfl), (ol rfl)⟩)
   dsimp only [Pt.U, Pt.locs, Pt.cells, Pt.slots] at X30 l30 y30 z30 st30 hQ30
   subst l30 y30 z30
   obtain ⟨rfl, N30q, eh30⟩ := hQ30
   have N30 := Fr.app N27 N30q
   refine ot (S' := T30.setTop (mkF m 127 lv29 [(.int ((1 : Int32) + (own_ssz p2)))])) st30 ?_
   refine oo (S' := T30.setTop (mkF m 136 lv29 [(.int ((2 : Int32) + dd)), (.int ((1 : Int32) + (own_ssz p2)))])) (fun _ kK => XS.iloadN X30.here hx rfl (D at_127) rfl (XS.iconst X30.here hx rfl (D at_128) (XS.iadd X30.here hx rfl (D at_129) rfl (XS.iload X30.here hx rfl (D at_130) rfl (XS.iadd X30.here hx rfl (D at_132) rfl (XS.iload X30.here hx rfl (D at_133) rfl (XS.iadd X30.here hx rfl (D at_135) rfl kK))))))) ?_
   have hsg : own_sg p2 = 1 := by simp [own_sg, hc23]
   refine oo (S' := T30.setTop (mkF m 203 lv29 [(.int 0), (.ref x_20)])) (fun _ kK => XS.icmpYes X30.here hx rfl (pc0 := 136) (pc' := 141) rfl (D at_136) rfl (teq ((own_leq (c := 1) hsg hdd))).1 (by decide) (by decide) (XS.iloadN X30.here hx rfl (D at_141) rfl (XS.ifYes X30.here hx rfl (pc0 := 142) (pc' := 160) rfl (D at_142) rfl ((if0 _ _).trans (flt ((by decide : ¬ ((0 : Int32) < (0 : Int32))))).2.2.2) (by decide) (by decide) (XS.iloadN X30.here hx rfl (D at_160) rfl (XS.iconst X30.here hx rfl (D at_161) (XS.icmpYes X30.here hx rfl (pc0 := 162) (pc' := 180) rfl (D at_162) rfl (flt ((by decide : ¬ ((1 : Int32) < (0 : Int32))))).2.2.2 (by decide) (by decide) (XS.iloadN X30.here hx rfl (D at_180) rfl (XS.iconst X30.here hx rfl (D at_181) (XS.icmpYes X30.here hx rfl (pc0 := 182) (pc' := 200) rfl (D at_182) rfl (flt ((by decide : ¬ ((2 : Int32) < (0 : Int32))))).2.2.2 (by decide) (by decide) (XS.aload X30.here hx rfl (D at_200) rfl rfl (XS.iloadN X30.here hx rfl (D at_202) rfl kK))))))))))) ?_
   obtain ⟨cq31, kq31, q31a, q31b, q31c⟩ := isOf hZ20 eh30 r20_0
   obtain ⟨_, _, ⟨T31, L31, k31, n31⟩, -, X31, ⟨Lc31, hQ31, l31, y31, z31⟩, st31⟩ := X30.virtualBack hx (y := own_m8) (z := own_m8) hown20 (mw hZ20 G 182 rfl) (mw hZ20 G 183 rfl) (notFace_of_selects (args := #[]) (mw hZ20 G 185 rfl)) (mw hZ20 G 185 rfl) (mw hZ20 G 184 rfl) (by decide) (backOf (W := 0) (rmcA0 l Z a0 G [] x_20 t_20 kb_20 ((1 : Int32) + (own_ssz p2)) us_20 (.int 0) (0 : Int32) (58 : Int32) T20.heap n0 O21 r20_0 r20_1 r20_2 r20_3 (by decide) (own_jlt p2 (c := 1) (j := 0) (by decide) (by have := own_nd_le (own_n p2); omega)) ((r20_4.1 0 (by decide)).trans own_l58) (by decide)) hZ20 (w_ G 186 rfl) (w_ G 3 rfl) (by decide) (by decide)) q31a q31c (g := (mkF m 203 lv29 [(.int 0), (.ref x_20)])) rfl (by rw [hml]; rfl) (Steps.refl _) (argsL := [(.int 0)]) (rest := []) (lenOf pd_25 rfl) rfl (own_z rfl) (D at_203) (fun _ _ => ⟨rfl, eh30, (ol rfl), (ol rfl)⟩)
   dsimp only [Pt.U, Pt.locs, Pt.cells, Pt.slots] at X31 l31 y31 z31 st31 hQ31
   subst l31 y31 z31
   obtain ⟨rfl, N31q, eh31⟩ := hQ31
   have N31 := Fr.app N30 N31q
   refine ot (S' := T31.setTop (mkF m 206 lv29 [(.int 58)])) st31 ?_
   refine oo (S' := T31.setTop (mkF m 223 lv29 [(.int 1), (.ref x_20)])) (fun _ kK => XS.bipush X31.here hx rfl (D at_206) (XS.icmpYes X31.here hx rfl (pc0 := 208) (pc' := 213) rfl (D at_208) rfl (teq ((by decide : (58 : Int32) = (58 : Int32)))).1 (by decide) (by decide) (XS.iload X31.here hx rfl (D at_213) rfl (XS.ifNo X31.here hx rfl (D at_215) rfl ((if0 _ _).trans (feq ((by decide : ¬ ((1 : Int32) = (0 : Int32))))).1) (XS.aload X31.here hx rfl (D at_218) rfl rfl (XS.iloadN X31.here hx rfl (D at_220) rfl (XS.iconst X31.here hx rfl (D at_221) (XS.iadd X31.here hx rfl (D at_222) rfl kK)))))))) ?_
   obtain ⟨cq32, kq32, q32a, q32b, q32c⟩ := isOf hZ20 eh31 r20_0
   obtain ⟨_, _, ⟨T32, L32, k32, n32⟩, -, X32, ⟨Lc32, hQ32, l32, y32, z32⟩, st32⟩ := X31.virtualBack hx (y := own_m8) (z := own_m8) hown20 (mw hZ20 G 182 rfl) (mw hZ20 G 183 rfl) (notFace_of_selects (args := #[]) (mw hZ20 G 185 rfl)) (mw hZ20 G 185 rfl) (mw hZ20 G 184 rfl) (by decide) (backOf (W := 0) (rmcA0 l Z a0 G [] x_20 t_20 kb_20 ((1 : Int32) + (own_ssz p2)) us_20 (.int 0) (1 : Int32) (45 : Int32) T20.heap n0 O21 r20_0 r20_1 r20_2 r20_3 (by decide) (own_jlt p2 (c := 1) (j := 1) (by decide) (by have := own_nd_le (own_n p2); omega)) ((r20_4.2.1 hc23).trans own_l45) (by decide)) hZ20 (w_ G 186 rfl) (w_ G 3 rfl) (by decide) (by decide)) q32a q32c (g := (mkF m 223 lv29 [(.int 1), (.ref x_20)])) rfl (by rw [hml]; rfl) (Steps.refl _) (argsL := [(.int 1)]) (rest := []) (lenOf pd_25 rfl) rfl (own_z rfl) (D at_223) (fun _ _ => ⟨rfl, eh31, (ol rfl), (ol rfl)⟩)
   dsimp only [Pt.U, Pt.locs, Pt.cells, Pt.slots] at X32 l32 y32 z32 st32 hQ32
   subst l32 y32 z32
   obtain ⟨rfl, N32q, eh32⟩ := hQ32
   have N32 := Fr.app N31 N32q
   refine ot (S' := T32.setTop (mkF m 226 lv29 [(.int 45)])) st32 ?_
   let lv33 : Array Slot := #[vI p0, vI p1, vI p2, vI 0, vR b3, vR b6, vR x_20, vI 1, .val (.long za), .second, vI dd, vI 1, vI 2]
   refine oo (S' := T32.setTop (mkF m 241 lv33 [])) (fun _ kK => XS.bipush X32.here hx rfl (D at_226) (XS.icmpYes X32.here hx rfl (pc0 := 228) (pc' := 233) rfl (D at_228) rfl (teq ((by decide : (45 : Int32) = (45 : Int32)))).1 (by decide) (by decide) (XS.iloadN X32.here hx rfl (D at_233) rfl (XS.iconst X32.here hx rfl (D at_234) (XS.iadd X32.here hx rfl (D at_235) rfl (XS.iload X32.here hx rfl (D at_236) rfl (XS.iadd X32.here hx rfl (D at_238) rfl (XS.istore X32.here hx rfl (D at_239) rfl (l' := lv33) rfl kK)))))))) ?_
   exact sfk l Z a0 G p0 p1 p2 h0 n0 O0  Bd hml0 hZ Sj20 hZ20 hown20 (X32.more (by decide) (by decide)) T20.heap eh32 K21 O21 N32 (by omega) (by omega) x_20 t_20 kb_20 ((1 : Int32) + (own_ssz p2)) us_20 (2 : Int32) dd za (0 : Int32) b3 b6 (1 : Int32) (1 : Int32) r20_0 r20_1 r20_2 r20_3 (own_H (c := 1) r20_4 (by decide) hsg hdd hza rfl rfl)
  ·let lv34 : Array Slot := #[vI p0, vI p1, vI p2, vI 0, vR b3, vR b6, vR x_20, vI 0, .unset, .unset, .unset, .unset, .unset]
   refine oo (S' := T20.setTop (mkF m 98 lv34 [(.long (p2).toInt64)])) (fun _ kK => XS.ifYes X20.here hx rfl (pc0 := 86) (pc' := 93) rfl (D at_86) rfl ((if0 _ _).trans (flt (hc23)).2.1) (by decide) (by decide) (XS.iconst X20.here hx rfl (D at_93) (XS.istore X20.here hx rfl (D at_94) rfl (l' := lv34) rfl (XS.iloadN X20.here hx rfl (D at_96) rfl (XS.i2l X20.here hx rfl (D at_97) rfl kK))))) ?_
   obtain ⟨_, _, ⟨T35, L35, k35, n35⟩, -, X35, ⟨Lc35, hQ35, l35, y35, z35⟩, st35⟩ := Jvm.LawKit.callS X20 hx (y := own_m35) hown20 (mw hZ20 G 173 rfl) (mw hZ20 G 174 rfl) (mw hZ20 G 170 rfl) (mw hZ20 G 175 rfl) (by decide) (backOf (W := 0) (rmab l Z a0 G [] (p2).toInt64 T20.heap n0 O21 ) hZ20 (w_ G 175 rfl) (w_ G 170 rfl) (by decide) (by decide)) (g := (mkF m 98 lv34 [(.long (p2).toInt64)])) rfl (by rw [hml]; rfl) (argsL := [(.long (p2).toInt64)]) (rest := []) (lenOf pd_29 rfl) rfl (own_z rfl) (D at_98) (fun _ _ => ⟨rfl, rfl, (ol rfl), (ol rfl)⟩)
   dsimp only [Pt.U, Pt.locs, Pt.cells, Pt.slots] at X35 l35 y35 z35 st35 hQ35
   subst l35 y35 z35
   obtain ⟨rfl, N35q, eh35⟩ := hQ35
   have N35 := Fr.app N20 N35q
   refine oo (S' := T35.setTop (mkF m 101 lv34 [(.long (own_ab (p2).toInt64))])) st35 ?_
   obtain ⟨za, gza⟩ : ∃ z, z = (own_ab (p2).toInt64) := ⟨_, rfl⟩
   rw [← gza]
   have hza : za.toInt = (own_n p2 : Int) := by rw [gza]; exact own_ab_eq p2
   let lv36 : Array Slot := #[vI p0, vI p1, vI p2, vI 0, vR b3, vR b6, vR x_20, vI 0, .val (.long za), .second, .unset, .unset, .unset]
   refine oo (S' := T35.setTop (mkF m 105 lv36 [(.long za)])) (fun _ kK => XS.lstore X35.here hx rfl (D at_101) rfl (l' := lv36) rfl (XS.lload X35.here hx rfl (D at_103) rfl kK)) ?_
   obtain ⟨_, _, ⟨T37, L37, k37, n37⟩, -, X37, ⟨Lc37, hQ37, l37, y37, z37⟩, st37⟩ := Jvm.LawKit.callS X35 hx (y := own_m36) hown20 (mw hZ20 G 176 rfl) (mw hZ20 G 177 rfl) (mw hZ20 G 178 rfl) (mw hZ20 G 179 rfl) (by decide) (backOf (W := 0) (rmdj l Z a0 G [] za T20.heap n0 O21 ) hZ20 (w_ G 179 rfl) (w_ G 178 rfl) (by decide) (by decide)) (g := (mkF m 105 lv36 [(.long za)])) rfl (by rw [hml]; rfl) (argsL := [(.long za)]) (rest := []) (lenOf pd_30 rfl) rfl (own_z rfl) (D at_105) (fun _ _ => ⟨rfl, eh35, (ol rfl), (ol rfl)⟩)
   dsimp only [Pt.U, Pt.locs, Pt.cells, Pt.slots] at X37 l37 y37 z37 st37 hQ37
   subst l37 y37 z37
   obtain ⟨rfl, N37q, eh37⟩ := hQ37
   have N37 := Fr.app N35 N37q
   refine oo (S' := T37.setTop (mkF m 108 lv36 [(.int (own_dj za))])) st37 ?_
   obtain ⟨dd, gdd⟩ : ∃ z, z = (own_dj za) := ⟨_, rfl⟩
   rw [← gdd]
   have hdd : dd = Int32.ofNat (own_nd (own_n p2)) := by rw [gdd]; exact own_dj_eq hza
   let lv38 : Array Slot := #[vI p0, vI p1, vI p2, vI 0, vR b3, vR b6, vR x_20, vI 0, .val (.long za), .second, vI dd, .unset, .unset]
   let lv39 : Array Slot := #[vI p0, vI p1, vI p2, vI 0, vR b3, vR b6, vR x_20, vI 0, .val (.long za), .second, vI dd, vI 0, .unset]
   refine oo (S' := T37.setTop (mkF m 124 lv39 [(.ref x_20)])) (fun _ kK => XS.istore X37.here hx rfl (D at_108) rfl (l' := lv38) rfl (XS.iload X37.here hx rfl (D at_110) rfl (XS.ifYes X37.here hx rfl (pc0 := 112) (pc' := 119) rfl (D at_112) rfl ((if0 _ _).trans (teq ((by decide : (0 : Int32) = (0 : Int32)))).1) (by decide) (by decide) (XS.iconst X37.here hx rfl (D at_119) (XS.istore X37.here hx rfl (D at_120) rfl (l' := lv39) rfl (XS.aload X37.here hx rfl (D at_122) rfl rfl kK)))))) ?_
   obtain ⟨cq40, kq40, q40a, q40b, q40c⟩ := isOf hZ20 eh37 r20_0
   obtain ⟨_, _, ⟨T40, L40, k40, n40⟩, -, X40, ⟨Lc40, hQ40, l40, y40, z40⟩, st40⟩ := X37.virtualBack hx (y := own_m6) (z := own_m6) hown20 (mw hZ20 G 181 rfl) (mw hZ20 G 72 rfl) (notFace_of_selects (args := #[]) (mw hZ20 G 74 rfl)) (mw hZ20 G 74 rfl) (mw hZ20 G 73 rfl) (by decide) (backOf (W := 0) (rmln0 l Z a0 G [] x_20 t_20 kb_20 ((1 : Int32) + (own_ssz p2)) us_20 (.int 0) T20.heap n0 O21 r20_0 r20_1 r20_2 r20_3) hZ20 (w_ G 75 rfl) (w_ G 3 rfl) (by decide) (by decide)) q40a q40c (g := (mkF m 124 lv39 [(.ref x_20)])) rfl (by rw [hml]; rfl) (Steps.refl _) (argsL := []) (rest := []) (lenOf pd_7 rfl) rfl (own_z rfl) (D at_124) (fun _ _ => ⟨rfl, eh37, (ol rfl), (ol rfl)⟩)
   dsimp only [Pt.U, Pt.locs, Pt.cells, Pt.slots] at X40 l40 y40 z40 st40 hQ40
   subst l40 y40 z40
   obtain ⟨rfl, N40q, eh40⟩ := hQ40
   have N40 := Fr.app N37 N40q
   refine ot (S' := T40.setTop (mkF m 127 lv39 [(.int ((1 : Int32) + (own_ssz p2)))])) st40 ?_
   refine oo (S' := T40.setTop (mkF m 136 lv39 [(.int ((1 : Int32) + dd)), (.int ((1 : Int32) + (own_ssz p2)))])) (fun _ kK => XS.iloadN X40.here hx rfl (D at_127) rfl (XS.iconst X40.here hx rfl (D at_128) (XS.iadd X40.here hx rfl (D at_129) rfl (XS.iload X40.here hx rfl (D at_130) rfl (XS.iadd X40.here hx rfl (D at_132) rfl (XS.iload X40.here hx rfl (D at_133) rfl (XS.iadd X40.here hx rfl (D at_135) rfl kK))))))) ?_
   have hsg : own_sg p2 = 0 := by simp [own_sg, hc23]
   refine oo (S' := T40.setTop (mkF m 203 lv39 [(.int 0), (.ref x_20)])) (fun _ kK => XS.icmpYes X40.here hx rfl (pc0 := 136) (pc' := 141) rfl (D at_136) rfl (teq ((own_leq (c := 1) hsg hdd))).1 (by decide) (by decide) (XS.iloadN X40.here hx rfl (D at_141) rfl (XS.ifYes X40.here hx rfl (pc0 := 142) (pc' := 160) rfl (D at_142) rfl ((if0 _ _).trans (flt ((by decide : ¬ ((0 : Int32) < (0 : Int32))))).2.2.2) (by decide) (by decide) (XS.iloadN X40.here hx rfl (D at_160) rfl (XS.iconst X40.here hx rfl (D at_161) (XS.icmpYes X40.here hx rfl (pc0 := 162) (pc' := 180) rfl (D at_162) rfl (flt ((by decide : ¬ ((1 : Int32) < (0 : Int32))))).2.2.2 (by decide) (by decide) (XS.iloadN X40.here hx rfl (D at_180) rfl (XS.iconst X40.here hx rfl (D at_181) (XS.icmpYes X40.here hx rfl (pc0 := 182) (pc' := 200) rfl (D at_182) rfl (flt ((by decide : ¬ ((2 : Int32) < (0 : Int32))))).2.2.2 (by decide) (by decide) (XS.aload X40.here hx rfl (D at_200) rfl rfl (XS.iloadN X40.here hx rfl (D at_202) rfl kK))))))))))) ?_
   obtain ⟨cq41, kq41, q41a, q41b, q41c⟩ := isOf hZ20 eh40 r20_0
   obtain ⟨_, _, ⟨T41, L41, k41, n41⟩, -, X41, ⟨Lc41, hQ41, l41, y41, z41⟩, st41⟩ := X40.virtualBack hx (y := own_m8) (z := own_m8) hown20 (mw hZ20 G 182 rfl) (mw hZ20 G 183 rfl) (notFace_of_selects (args := #[]) (mw hZ20 G 185 rfl)) (mw hZ20 G 185 rfl) (mw hZ20 G 184 rfl) (by decide) (backOf (W := 0) (rmcA0 l Z a0 G [] x_20 t_20 kb_20 ((1 : Int32) + (own_ssz p2)) us_20 (.int 0) (0 : Int32) (58 : Int32) T20.heap n0 O21 r20_0 r20_1 r20_2 r20_3 (by decide) (own_jlt p2 (c := 1) (j := 0) (by decide) (by have := own_nd_le (own_n p2); omega)) ((r20_4.1 0 (by decide)).trans own_l58) (by decide)) hZ20 (w_ G 186 rfl) (w_ G 3 rfl) (by decide) (by decide)) q41a q41c (g := (mkF m 203 lv39 [(.int 0), (.ref x_20)])) rfl (by rw [hml]; rfl) (Steps.refl _) (argsL := [(.int 0)]) (rest := []) (lenOf pd_25 rfl) rfl (own_z rfl) (D at_203) (fun _ _ => ⟨rfl, eh40, (ol rfl), (ol rfl)⟩)
   dsimp only [Pt.U, Pt.locs, Pt.cells, Pt.slots] at X41 l41 y41 z41 st41 hQ41
   subst l41 y41 z41
   obtain ⟨rfl, N41q, eh41⟩ := hQ41
   have N41 := Fr.app N40 N41q
   refine ot (S' := T41.setTop (mkF m 206 lv39 [(.int 58)])) st41 ?_
   let lv42 : Array Slot := #[vI p0, vI p1, vI p2, vI 0, vR b3, vR b6, vR x_20, vI 0, .val (.long za), .second, vI dd, vI 0, vI 1]
   refine oo (S' := T41.setTop (mkF m 241 lv42 [])) (fun _ kK => XS.bipush X41.here hx rfl (D at_206) (XS.icmpYes X41.here hx rfl (pc0 := 208) (pc' := 213) rfl (D at_208) rfl (teq ((by decide : (58 : Int32) = (58 : Int32)))).1 (by decide) (by decide) (XS.iload X41.here hx rfl (D at_213) rfl (XS.ifYes X41.here hx rfl (pc0 := 215) (pc' := 233) rfl (D at_215) rfl ((if0 _ _).trans (teq ((by decide : (0 : Int32) = (0 : Int32)))).1) (by decide) (by decide) (XS.iloadN X41.here hx rfl (D at_233) rfl (XS.iconst X41.here hx rfl (D at_234) (XS.iadd X41.here hx rfl (D at_235) rfl (XS.iload X41.here hx rfl (D at_236) rfl (XS.iadd X41.here hx rfl (D at_238) rfl (XS.istore X41.here hx rfl (D at_239) rfl (l' := lv42) rfl kK)))))))))) ?_
   exact sfk l Z a0 G p0 p1 p2 h0 n0 O0  Bd hml0 hZ Sj20 hZ20 hown20 (X41.more (by decide) (by decide)) T20.heap eh41 K21 O21 N41 (by omega) (by omega) x_20 t_20 kb_20 ((1 : Int32) + (own_ssz p2)) us_20 (1 : Int32) dd za (0 : Int32) b3 b6 (0 : Int32) (0 : Int32) r20_0 r20_1 r20_2 r20_3 (own_H (c := 1) r20_4 (by decide) hsg hdd hza rfl rfl)
 ·rw [hr]
  let lv43 : Array Slot := #[vI p0, vI p1, vI p2, vI 1, .unset, .unset, .unset, .unset, .unset, .unset, .unset, .unset, .unset]
  refine oo (S' := s₁.setTop (mkF m 5 lv43 [(.int 1)])) (fun _ kK => XS.istoreN X0w.here hx rfl (D at_3) rfl (l' := lv43) rfl (XS.iloadN X0w.here hx rfl (D at_4) rfl kK)) ?_
  obtain ⟨T44, h44, k44, X44, e44, E44, A44, st44⟩ := newP X0w hx hZ (w_ G 0 rfl) e0 (g := (mkF m 5 lv43 [(.int 1)])) rfl (D at_5) rfl (by decide) (cap := 1) (by decide) (by decide) (by decide) (by decide)
  obtain ⟨b44, g44⟩ : ∃ z, z = Array.size h0 := ⟨_, rfl⟩
  rw [← g44] at A44 st44
  have lt_b44 := lN A44.lt
  have sz45 := E44.1
  have K45 := K0.ext E44
  have O45 := O0.ext E44
  have R45 := CHr.ext E44 hCH
  have CH45 := R45.1
  have V44 : Arv Z h44 b44 k44 .char (1 : Int32) [(.int 0)] (.int 0) := (Arv.new A44 (by decide)).pad (pad_rep [] (.int 0) 1)
  refine oo (S' := T44.setTop (mkF m 7 lv43 [(.ref b44)])) st44 ?_
  let lv46 : Array Slot := #[vI p0, vI p1, vI p2, vI 1, vR b44, .unset, .unset, .unset, .unset, .unset, .unset, .unset, .unset]
  refine oo (S' := T44.setTop (mkF m 22 lv46 [(.int (nar .char (p1 &&& (255 : Int32)))), (.int 0), (.ref b44)])) (fun _ kK => XS.astore X44.here hx rfl (D at_7) rfl rfl (l' := lv46) rfl (XS.iloadN X44.here hx rfl (D at_9) rfl (XS.ifNo X44.here hx rfl (D at_10) rfl ((if0 _ _).trans (tlt ((by decide : (0 : Int32) < (1 : Int32)))).2.2.2) (XS.aload X44.here hx rfl (D at_13) rfl rfl (XS.iconst X44.here hx rfl (D at_15) (XS.iloadN X44.here hx rfl (D at_16) rfl (XS.sipush X44.here hx rfl (D at_17) (XS.iand X44.here hx rfl (D at_20) rfl (XS.i2c X44.here hx rfl (D at_21) rfl kK))))))))) ?_
  obtain ⟨cl47, Ar47, q47, S47, N47', H47, G47⟩ := id V44
  have hin48 : ¬ ((0 : Int32) < 0 ∨ cl47.slots.size ≤ ((0 : Int32)).toNatClampNeg) := inb_of S47 ⟨by decide, by decide⟩
  obtain ⟨T48, h48, X48, e48, W48, st48⟩ := stC X44 hx hZ e44 Ar47 (j := (0 : Int32)) hin48 (g := (mkF m 22 lv46 [(.int (nar .char (p1 &&& (255 : Int32)))), (.int 0), (.ref b44)])) rfl rfl (D at_22)
  have N48 := Fr.snoc X48 N0 (by omega)
  have sz49 := own_wr_le W48
  have K49 := K45.wr W48 (Or.inr (by omega))
  have O49 := O45.wr W48 (by omega)
  have R49 := CHr.wr W48 (Safe.arv hZ.alike V44 (by decide)) CH45
  have CH49 := R49.1
  have V48 : Arv Z h48 b44 k44 .char (1 : Int32) [(.int (nar .char (nar .char (p1 &&& (255 : Int32)))))] (.int 0) := Arv.set Ar47 q47 S47 N47' H47 G47 (fits_nar_char _) W48 0 rfl (Nat.le_of_ble_eq_true rfl)
  refine oo (S' := T48.setTop (mkF m 23 lv46 [])) st48 ?_
  refine oo (S' := T48.setTop (mkF m 59 lv46 [])) (fun _ kK => XS.iloadN X48.here hx rfl (D at_23) rfl (XS.iconst X48.here hx rfl (D at_24) (XS.icmpYes X48.here hx rfl (pc0 := 25) (pc' := 41) rfl (D at_25) rfl (flt ((by decide : ¬ ((1 : Int32) < (1 : Int32))))).2.2.2 (by decide) (by decide) (XS.iloadN X48.here hx rfl (D at_41) rfl (XS.iconst X48.here hx rfl (D at_42) (XS.icmpYes X48.here hx rfl (pc0 := 43) (pc' := 59) rfl (D at_43) rfl (flt ((by decide : ¬ ((2 : Int32) < (1 : Int32))))).2.2.2 (by decide) (by decide) kK)))))) ?_
  obtain ⟨ch0, gc0⟩ : ∃ z, z = (nar .char (p1 &&& (255 : Int32))) := ⟨_, rfl⟩
  have rg0 : ¬ ch0 < (0 : Int32) ∧ ¬ (255 : Int32) < ch0 := by rw [gc0]; exact own_c255 _
  have V50 : Arv Z h48 b44 k44 .char (1 : Int32) [(.int ch0)] (.int 0) := by have q := V48; rw [own_nar_cc, ← gc0] at q; exact q
  have hlat := own_al1 rg0
  obtain ⟨T51, h51, X51, e51, E51, A51, D51, -, st51⟩ := newO X48 hx hZ hown (w_ G 1 rfl) (w_ G 2 rfl) (w_ G 3 rfl) e48 (g := (mkF m 59 lv46 [])) rfl (D at_59) (by decide) (by decide)
  obtain ⟨b51, g51⟩ : ∃ z, z = Array.size h48 := ⟨_, rfl⟩
  rw [← g51] at A51 D51 st51
  have lt_b51 := lN A51.lt
  have sz52 := E51.1
  have K52 := K49.ext E51
  have O52 := O49.ext E51
  have R52 := CHr.ext E51 CH49
  have CH52 := R52.1
  have Sf51 : Safe Z consts_1 s.vm h51 b51 := Safe.ext E51 CH49 (Safe.new (by omega))
  have F51_value : Fld Z h51 b51 j1 "value" "[B" .null := D51 (Or.inr (w_ G 16 rfl)) (ty := (.array .byte)) (by decide)
  have F51_coder : Fld Z h51 b51 j1 "coder" "B" (.int 0) := D51 (Or.inr (w_ G 17 rfl)) (ty := .byte) (by decide)
  refine oo (S' := T51.setTop (mkF m 62 lv46 [(.ref b51)])) st51 ?_
  refine oo (S' := T51.setTop (mkF m 65 lv46 [(.ref b44), (.ref b51), (.ref b51)])) (fun _ kK => XS.dup X51.here hx rfl (D at_62) rfl rfl (XS.aload X51.here hx rfl (D at_63) rfl rfl kK)) ?_
  have f53 := (V50.ext E51)
  have hws : ∀ d ∈ StrChars.Road.words, d.before a0 Z = true := fun d hd => hw d (own_words d hd)
  have hp54 : ∀ c ∈ ([ch0] : List Int32), ¬ c < 0 ∧ ¬ (255 : Int32) < c := hlat
  obtain ⟨_, _, ⟨T55, L55, k55, n55⟩, -, X55, ⟨Lc55, hQ55, l55, y55, z55⟩, st55⟩ := Jvm.Stand.specialBack X51 hx (y := own_m1) rfl hown (mw hZ G 4 rfl) (mw hZ G 5 rfl) (mw hZ G 6 rfl) (by decide) (StrChars.Road.backV (W := 1) hZ hws (kI := 4) (w_ G 2 rfl) (cs := [ch0]) (bs := ([ch0] : List Int32).map (fun c => c.toInt8.toInt32)) (n := 1) (n0 := n0) (by omega) (by omega) A51 F51_value F51_coder f53 (SCS.ext O52.2) PCS rfl rfl (by decide) (by decide) hp54 rfl (by decide) (by decide)) (g := (mkF m 65 lv46 [(.ref b44), (.ref b51), (.ref b51)])) rfl (by rw [hml]; rfl) (Steps.refl _) (a := b51) (argsL := [(.ref b44)]) (rest := [(.ref b51)]) (lenOf pd_27 rfl) rfl (own_z rfl) (D at_65) (fun _ _ => ⟨rfl, e51, (ol rfl), (ol rfl)⟩)
  dsimp only [Pt.U, Pt.locs, Pt.cells, Pt.slots] at X55 l55 y55 z55 st55 hQ55
  subst l55 y55 z55
  obtain ⟨rfl, N55q, Kq55, r55E, r55C, t55, kb55, u55, w55, x55, r55V, r55A⟩ := hQ55
  have N55 := Fr.app N48 N55q
  have sz56 := Kq55.1
  have K56 := K52.trans Kq55 (own_all1 (Or.inr (by omega)))
  have O56 := O52.keep Kq55 (own_all1 (by omega))
  have R56 := CHr.keep Kq55 (sfS Sf51 sf0) CH52
  have CH56 := R56.1
  have lt_t55 := lN r55A.lt
  refine ot (S' := T55.setTop (mkF m 68 lv46 [(.ref b51)])) st55 ?_
  have V57 : Arv Z T55.heap t55 kb55 .byte (1 : Int32) [(.int (StrChars.lo8 ch0))] (.int 0) := by have q := r55A; exact q
  let lv58 : Array Slot := #[vI p0, vI p1, vI p2, vI 1, vR b44, vR b51, .unset, .unset, .unset, .unset, .unset, .unset, .unset]
  refine oo (S' := T55.setTop (mkF m 70 lv58 [])) (fun _ kK => XS.astore X55.here hx rfl (D at_68) rfl rfl (l' := lv58) rfl kK) ?_
  obtain ⟨T59, h59, X59, e59, E59, A59, D59, -, st59⟩ := newO X55 hx hZ hown (w_ G 22 rfl) (w_ G 23 rfl) (w_ G 24 rfl) rfl (g := (mkF m 70 lv58 [])) rfl (D at_70) (by decide) (by decide)
  obtain ⟨b59, g59⟩ : ∃ z, z = Array.size T55.heap := ⟨_, rfl⟩
  rw [← g59] at A59 D59 st59
  have lt_b59 := lN A59.lt
  have sz60 := E59.1
  have K60 := K56.ext E59
  have O60 := O56.ext E59
  have R60 := CHr.ext E59 CH56
  have CH60 := R60.1
  have Sf59 : Safe Z consts_1 s.vm h59 b59 := Safe.ext E59 CH56 (Safe.new (by omega))
  have F59_host : Fld Z h59 b59 j3 "host" "Ljava/lang/String;" .null := D59 (Or.inr (w_ G 35 rfl)) (ty := (.object j1)) (by decide)
  have F59_port : Fld Z h59 b59 j3 "port" "I" (.int 0) := D59 (Or.inr (w_ G 37 rfl)) (ty := .int) (by decide)
  refine oo (S' := T59.setTop (mkF m 73 lv58 [(.ref b59)])) st59 ?_
  refine oo (S' := T59.setTop (mkF m 77 lv58 [(.int p2), (.ref b51), (.ref b59), (.ref b59)])) (fun _ kK => XS.dup X59.here hx rfl (D at_73) rfl rfl (XS.aload X59.here hx rfl (D at_74) rfl rfl (XS.iloadN X59.here hx rfl (D at_76) rfl kK))) ?_
  obtain ⟨_, _, ⟨T61, L61, k61, n61⟩, -, X61, ⟨Lc61, hQ61, l61, y61, z61⟩, st61⟩ := Jvm.Stand.specialBack X59 hx (y := own_m33) rfl hown (mw hZ G 25 rfl) (mw hZ G 26 rfl) (mw hZ G 27 rfl) (by decide) (backOf (W := 1) (rmhpi l Z a0 G [] b59 b51 p2 .null (.int 0) h59 n0 O60 A59 F59_host F59_port (by omega)) hZ (w_ G 27 rfl) (w_ G 24 rfl) (by decide) (by decide)) (g := (mkF m 77 lv58 [(.int p2), (.ref b51), (.ref b59), (.ref b59)])) rfl (by rw [hml]; rfl) (Steps.refl _) (a := b59) (argsL := [(.ref b51), (.int p2)]) (rest := [(.ref b59)]) (lenOf pd_28 rfl) rfl (own_z rfl) (D at_77) (fun _ _ => ⟨rfl, e59, (ol rfl), (ol rfl)⟩)
  dsimp only [Pt.U, Pt.locs, Pt.cells, Pt.slots] at X61 l61 y61 z61 st61 hQ61
  subst l61 y61 z61
  obtain ⟨rfl, N61q, Kq61, r61_0, r61_1, r61_2⟩ := hQ61
  have N61 := Fr.app N55 N61q
  have sz62 := Kq61.1
  have K62 := K60.trans Kq61 (own_all1 (Or.inr (by omega)))
  have O62 := O60.keep Kq61 (own_all1 (by omega))
  have R62 := CHr.keep Kq61 (sfS (Safe.exa hZ.alike A59 (by decide) (by decide)) sf0) CH60
  have CH62 := R62.1
  have ltr61_0 := lN r61_0.lt
  have ltr61_1 := lN r61_1.lt
  have ltr61_2 := lN r61_2.lt
  refine ot (S' := T61.setTop (mkF m 80 lv58 [(.ref b59)])) st61 ?_
  have f63 := ((r55E.ext E59).keep Kq61)
  have f64 := ((r55V.ext E59).keep Kq61 (own_nin1 (on (by omega))))
  have f65 := ((r55C.ext E59).keep Kq61 (own_nin1 (on (by omega))))
  have f66 := ((V57.ext E59).keep Kq61 (own_nin1 (on (by omega))))
  obtain ⟨cq67, kq67, q67a, q67b, q67c⟩ := isOf hZ rfl r61_0
  obtain ⟨_, _, ⟨T67, L67, k67, n67⟩, -, X67', Si67, gr67, ⟨Lc67, hQ67, l67, y67, z67, CH67⟩, st67⟩ := X61.virtualBackS hx (y := own_m34) (z := own_m34) hown (mw hZ G 38 rfl) (mw hZ G 39 rfl) (notFace_of_selects (args := #[]) (mw hZ G 41 rfl)) (mw hZ G 41 rfl) (mw hZ G 40 rfl) (by decide) (backOfSH (W := 0) (rmht1 l Z a0 G [] b59 p2 b51 t55 kb55 (.int (StrChars.lo8 ch0)) T61.heap n0 O62 r61_1 r61_2 f63 f64 f65 f66) hZ (w_ G 42 rfl) (w_ G 24 rfl) (by decide) (by decide) (own_EW G) CH62) q67a q67c (g := (mkF m 80 lv58 [(.ref b59)])) rfl (by rw [hml]; rfl) (Steps.refl _) (argsL := []) (rest := []) (lenOf pd_23 rfl) rfl (own_z rfl) (D at_80) (fun _ _ => ⟨rfl, rfl, (ol rfl), (ol rfl)⟩)
  dsimp only [Pt.U, Pt.locs, Pt.cells, Pt.slots] at X67' l67 y67 z67 st67 hQ67 CH67 Si67 gr67
  subst l67 y67 z67
  obtain ⟨X67, Sj67, hZ67, hown67⟩ := rebS Si0 (by omega : _ ≤ Array.size T61.heap) X67' Si67 (by omega) hZ hown
  obtain ⟨x_67, t_67, kb_67, us_67, rfl, N67q, Kq67, r67_0, r67_1, r67_2, r67_3, r67_4⟩ := hQ67
  have N67 := Fr.app N61 N67q
  have sz68 := Kq67.1
  have K68 := K62.trans Kq67 (own_all0 )
  have O68 := O62.keep Kq67 (own_all0 )
  have ltr67_0 := lN r67_0.lt
  have ltr67_1 := lN r67_1.lt
  have ltr67_2 := lN r67_2.lt
  have ltr67_3 := lN r67_3.lt
  refine ot (S' := T67.setTop (mkF m 83 lv58 [(.ref x_67)])) st67 ?_
  let lv69 : Array Slot := #[vI p0, vI p1, vI p2, vI 1, vR b44, vR b51, vR x_67, .unset, .unset, .unset, .unset, .unset, .unset]
  refine oo (S' := T67.setTop (mkF m 86 lv69 [(.int p2)])) (fun _ kK => XS.astore X67.here hx rfl (D at_83) rfl rfl (l' := lv69) rfl (XS.iloadN X67.here hx rfl (D at_85) rfl kK)) ?_
  rcases Decidable.em (p2 < (0 : Int32)) with hc70 | hc70
  ·let lv71 : Array Slot := #[vI p0, vI p1, vI p2, vI 1, vR b44, vR b51, vR x_67, vI 1, .unset, .unset, .unset, .unset, .unset]
   refine oo (S' := T67.setTop (mkF m 98 lv71 [(.long (p2).toInt64)])) (fun _ kK => XS.ifNo X67.here hx rfl (D at_86) rfl ((if0 _ _).trans (tlt (hc70)).2.1) (XS.iconst X67.here hx rfl (D at_89) (XS.goto X67.here hx rfl (pc0 := 90) (pc' := 94) rfl (D at_90) (by decide) (by decide) (XS.istore X67.here hx rfl (D at_94) rfl (l' := lv71) rfl (XS.iloadN X67.here hx rfl (D at_96) rfl (XS.i2l X67.here hx rfl (D at_97) rfl kK)))))) ?_
   obtain ⟨_, _, ⟨T72, L72, k72, n72⟩, -, X72, ⟨Lc72, hQ72, l72, y72, z72⟩, st72⟩ := Jvm.LawKit.callS X67 hx (y := own_m35) hown67 (mw hZ67 G 173 rfl) (mw hZ67 G 174 rfl) (mw hZ67 G 170 rfl) (mw hZ67 G 175 rfl) (by decide) (backOf (W := 0) (rmab l Z a0 G [] (p2).toInt64 T67.heap n0 O68 ) hZ67 (w_ G 175 rfl) (w_ G 170 rfl) (by decide) (by decide)) (g := (mkF m 98 lv71 [(.long (p2).toInt64)])) rfl (by rw [hml]; rfl) (argsL := [(.long (p2).toInt64)]) (rest := []) (lenOf pd_29 rfl) rfl (own_z rfl) (D at_98) (fun _ _ => ⟨rfl, rfl, (ol rfl), (ol rfl)⟩)
   dsimp only [Pt.U, Pt.locs, Pt.cells, Pt.slots] at X72 l72 y72 z72 st72 hQ72
   subst l72 y72 z72
   obtain ⟨rfl, N72q, eh72⟩ := hQ72
   have N72 := Fr.app N67 N72q
   refine oo (S' := T72.setTop (mkF m 101 lv71 [(.long (own_ab (p2).toInt64))])) st72 ?_
   obtain ⟨za, gza⟩ : ∃ z, z = (own_ab (p2).toInt64) := ⟨_, rfl⟩
   rw [← gza]
   have hza : za.toInt = (own_n p2 : Int) := by rw [gza]; exact own_ab_eq p2
   let lv73 : Array Slot := #[vI p0, vI p1, vI p2, vI 1, vR b44, vR b51, vR x_67, vI 1, .val (.long za), .second, .unset, .unset, .unset]
   refine oo (S' := T72.setTop (mkF m 105 lv73 [(.long za)])) (fun _ kK => XS.lstore X72.here hx rfl (D at_101) rfl (l' := lv73) rfl (XS.lload X72.here hx rfl (D at_103) rfl kK)) ?_
   obtain ⟨_, _, ⟨T74, L74, k74, n74⟩, -, X74, ⟨Lc74, hQ74, l74, y74, z74⟩, st74⟩ := Jvm.LawKit.callS X72 hx (y := own_m36) hown67 (mw hZ67 G 176 rfl) (mw hZ67 G 177 rfl) (mw hZ67 G 178 rfl) (mw hZ67 G 179 rfl) (by decide) (backOf (W := 0) (rmdj l Z a0 G [] za T67.heap n0 O68 ) hZ67 (w_ G 179 rfl) (w_ G 178 rfl) (by decide) (by decide)) (g := (mkF m 105 lv73 [(.long za)])) rfl (by rw [hml]; rfl) (argsL := [(.long za)]) (rest := []) (lenOf pd_30 rfl) rfl (own_z rfl) (D at_105) (fun _ _ => ⟨rfl, eh72, (ol rfl), (ol rfl)⟩)
   dsimp only [Pt.U, Pt.locs, Pt.cells, Pt.slots] at X74 l74 y74 z74 st74 hQ74
   subst l74 y74 z74
   obtain ⟨rfl, N74q, eh74⟩ := hQ74
   have N74 := Fr.app N72 N74q
   refine oo (S' := T74.setTop (mkF m 108 lv73 [(.int (own_dj za))])) st74 ?_
   obtain ⟨dd, gdd⟩ : ∃ z, z = (own_dj za) := ⟨_, rfl⟩
   rw [← gdd]
   have hdd : dd = Int32.ofNat (own_nd (own_n p2)) := by rw [gdd]; exact own_dj_eq hza
   let lv75 : Array Slot := #[vI p0, vI p1, vI p2, vI 1, vR b44, vR b51, vR x_67, vI 1, .val (.long za), .second, vI dd, .unset, .unset]
   let lv76 : Array Slot := #[vI p0, vI p1, vI p2, vI 1, vR b44, vR b51, vR x_67, vI 1, .val (.long za), .second, vI dd, vI 1, .unset]
   refine oo (S' := T74.setTop (mkF m 124 lv76 [(.ref x_67)])) (fun _ kK => XS.istore X74.here hx rfl (D at_108) rfl (l' := lv75) rfl (XS.iload X74.here hx rfl (D at_110) rfl (XS.ifNo X74.here hx rfl (D at_112) rfl ((if0 _ _).trans (feq ((by decide : ¬ ((1 : Int32) = (0 : Int32))))).1) (XS.iconst X74.here hx rfl (D at_115) (XS.goto X74.here hx rfl (pc0 := 116) (pc' := 120) rfl (D at_116) (by decide) (by decide) (XS.istore X74.here hx rfl (D at_120) rfl (l' := lv76) rfl (XS.aload X74.here hx rfl (D at_122) rfl rfl kK))))))) ?_
   obtain ⟨cq77, kq77, q77a, q77b, q77c⟩ := isOf hZ67 eh74 r67_0
   obtain ⟨_, _, ⟨T77, L77, k77, n77⟩, -, X77, ⟨Lc77, hQ77, l77, y77, z77⟩, st77⟩ := X74.virtualBack hx (y := own_m6) (z := own_m6) hown67 (mw hZ67 G 181 rfl) (mw hZ67 G 72 rfl) (notFace_of_selects (args := #[]) (mw hZ67 G 74 rfl)) (mw hZ67 G 74 rfl) (mw hZ67 G 73 rfl) (by decide) (backOf (W := 0) (rmln0 l Z a0 G [] x_67 t_67 kb_67 ((2 : Int32) + (own_ssz p2)) us_67 (.int 0) T67.heap n0 O68 r67_0 r67_1 r67_2 r67_3) hZ67 (w_ G 75 rfl) (w_ G 3 rfl) (by decide) (by decide)) q77a q77c (g := (mkF m 124 lv76 [(.ref x_67)])) rfl (by rw [hml]; rfl) (Steps.refl _) (argsL := []) (rest := []) (lenOf pd_7 rfl) rfl (own_z rfl) (D at_124) (fun _ _ => ⟨rfl, eh74, (ol rfl), (ol rfl)⟩)
   dsimp only [Pt.U, Pt.locs, Pt.cells, Pt.slots] at X77 l77 y77 z77 st77 hQ77
   subst l77 y77 z77
   obtain ⟨rfl, N77q, eh77⟩ := hQ77
   have N77 := Fr.app N74 N77q
   refine ot (S' := T77.setTop (mkF m 127 lv76 [(.int ((2 : Int32) + (own_ssz p2)))])) st77 ?_
   refine oo (S' := T77.setTop (mkF m 136 lv76 [(.int ((3 : Int32) + dd)), (.int ((2 : Int32) + (own_ssz p2)))])) (fun _ kK => XS.iloadN X77.here hx rfl (D at_127) rfl (XS.iconst X77.here hx rfl (D at_128) (XS.iadd X77.here hx rfl (D at_129) rfl (XS.iload X77.here hx rfl (D at_130) rfl (XS.iadd X77.here hx rfl (D at_132) rfl (XS.iload X77.here hx rfl (D at_133) rfl (XS.iadd X77.here hx rfl (D at_135) rfl kK))))))) ?_
   have hsg : own_sg p2 = 1 := by simp [own_sg, hc70]
   refine oo (S' := T77.setTop (mkF m 148 lv76 [(.int 0), (.ref x_67)])) (fun _ kK => XS.icmpYes X77.here hx rfl (pc0 := 136) (pc' := 141) rfl (D at_136) rfl (teq ((own_leq (c := 2) hsg hdd))).1 (by decide) (by decide) (XS.iloadN X77.here hx rfl (D at_141) rfl (XS.ifNo X77.here hx rfl (D at_142) rfl ((if0 _ _).trans (tlt ((by decide : (0 : Int32) < (1 : Int32)))).2.2.2) (XS.aload X77.here hx rfl (D at_145) rfl rfl (XS.iconst X77.here hx rfl (D at_147) kK))))) ?_
   obtain ⟨cq78, kq78, q78a, q78b, q78c⟩ := isOf hZ67 eh77 r67_0
   obtain ⟨_, _, ⟨T78, L78, k78, n78⟩, -, X78, ⟨Lc78, hQ78, l78, y78, z78⟩, st78⟩ := X77.virtualBack hx (y := own_m8) (z := own_m8) hown67 (mw hZ67 G 182 rfl) (mw hZ67 G 183 rfl) (notFace_of_selects (args := #[]) (mw hZ67 G 185 rfl)) (mw hZ67 G 185 rfl) (mw hZ67 G 184 rfl) (by decide) (backOf (W := 0) (rmcA0 l Z a0 G [] x_67 t_67 kb_67 ((2 : Int32) + (own_ssz p2)) us_67 (.int 0) (0 : Int32) ch0 T67.heap n0 O68 r67_0 r67_1 r67_2 r67_3 (by decide) (own_jlt p2 (c := 2) (j := 0) (by decide) (by have := own_nd_le (own_n p2); omega)) (r67_4.1 0 (by decide)) rg0) hZ67 (w_ G 186 rfl) (w_ G 3 rfl) (by decide) (by decide)) q78a q78c (g := (mkF m 148 lv76 [(.int 0), (.ref x_67)])) rfl (by rw [hml]; rfl) (Steps.refl _) (argsL := [(.int 0)]) (rest := []) (lenOf pd_25 rfl) rfl (own_z rfl) (D at_148) (fun _ _ => ⟨rfl, eh77, (ol rfl), (ol rfl)⟩)
   dsimp only [Pt.U, Pt.locs, Pt.cells, Pt.slots] at X78 l78 y78 z78 st78 hQ78
   subst l78 y78 z78
   obtain ⟨rfl, N78q, eh78⟩ := hQ78
   have N78 := Fr.app N77 N78q
   refine ot (S' := T78.setTop (mkF m 151 lv76 [(.int ch0)])) st78 ?_
   refine oo (S' := T78.setTop (mkF m 154 lv76 [(.int 0), (.ref b44), (.int ch0)])) (fun _ kK => XS.aload X78.here hx rfl (D at_151) rfl rfl (XS.iconst X78.here hx rfl (D at_153) kK)) ?_
   have f79 := ((((f53.keep Kq55 (own_nin1 (on (by omega)))).ext E59).keep Kq61 (own_nin1 (on (by omega)))).keep Kq67 nin0)
   obtain ⟨cl80, Ar80, q80, S80, N80', H80, G80⟩ := id f79
   have hin81 : ¬ ((0 : Int32) < 0 ∨ cl80.slots.size ≤ ((0 : Int32)).toNatClampNeg) := inb_of S80 ⟨by decide, by decide⟩
   refine oo (S' := T78.setTop (mkF m 155 lv76 [(.int ch0), (.int ch0)])) (fun _ kK => X78.caload hx (j := (0 : Int32)) (v := (.int ch0)) (by rw [eh78]; exact Ar80.1) (State.isArrayOf_alike hZ67.alike Ar80.2.1) Ar80.2.2 hin81 (Has.at H80 hin81 (rfl)) (g := (mkF m 154 lv76 [(.int 0), (.ref b44), (.int ch0)])) rfl rfl (D at_154) _ kK) ?_
   refine oo (S' := T78.setTop (mkF m 203 lv76 [(.int 1), (.ref x_67)])) (fun _ kK => XS.icmpYes X78.here hx rfl (pc0 := 155) (pc' := 160) rfl (D at_155) rfl (teq (rfl)).1 (by decide) (by decide) (XS.iloadN X78.here hx rfl (D at_160) rfl (XS.iconst X78.here hx rfl (D at_161) (XS.icmpYes X78.here hx rfl (pc0 := 162) (pc' := 180) rfl (D at_162) rfl (flt ((by decide : ¬ ((1 : Int32) < (1 : Int32))))).2.2.2 (by decide) (by decide) (XS.iloadN X78.here hx rfl (D at_180) rfl (XS.iconst X78.here hx rfl (D at_181) (XS.icmpYes X78.here hx rfl (pc0 := 182) (pc' := 200) rfl (D at_182) rfl (flt ((by decide : ¬ ((2 : Int32) < (1 : Int32))))).2.2.2 (by decide) (by decide) (XS.aload X78.here hx rfl (D at_200) rfl rfl (XS.iloadN X78.here hx rfl (D at_202) rfl kK))))))))) ?_
   obtain ⟨cq82, kq82, q82a, q82b, q82c⟩ := isOf hZ67 eh78 r67_0
   obtain ⟨_, _, ⟨T82, L82, k82, n82⟩, -, X82, ⟨Lc82, hQ82, l82, y82, z82⟩, st82⟩ := X78.virtualBack hx (y := own_m8) (z := own_m8) hown67 (mw hZ67 G 182 rfl) (mw hZ67 G 183 rfl) (notFace_of_selects (args := #[]) (mw hZ67 G 185 rfl)) (mw hZ67 G 185 rfl) (mw hZ67 G 184 rfl) (by decide) (backOf (W := 0) (rmcA0 l Z a0 G [] x_67 t_67 kb_67 ((2 : Int32) + (own_ssz p2)) us_67 (.int 0) (1 : Int32) (58 : Int32) T67.heap n0 O68 r67_0 r67_1 r67_2 r67_3 (by decide) (own_jlt p2 (c := 2) (j := 1) (by decide) (by have := own_nd_le (own_n p2); omega)) ((r67_4.1 1 (by decide)).trans own_l58) (by decide)) hZ67 (w_ G 186 rfl) (w_ G 3 rfl) (by decide) (by decide)) q82a q82c (g := (mkF m 203 lv76 [(.int 1), (.ref x_67)])) rfl (by rw [hml]; rfl) (Steps.refl _) (argsL := [(.int 1)]) (rest := []) (lenOf pd_25 rfl) rfl (own_z rfl) (D at_203) (fun _ _ => ⟨rfl, eh78, (ol rfl), (ol rfl)⟩)
   dsimp only [Pt.U, Pt.locs, Pt.cells, Pt.slots] at X82 l82 y82 z82 st82 hQ82
   subst l82 y82 z82
   obtain ⟨rfl, N82q, eh82⟩ := hQ82
   have N82 := Fr.app N78 N82q
   refine ot (S' := T82.setTop (mkF m 206 lv76 [(.int 58)])) st82 ?_
   refine oo (S' := T82.setTop (mkF m 223 lv76 [(.int 2), (.ref x_67)])) (fun _ kK => XS.bipush X82.here hx rfl (D at_206) (XS.icmpYes X82.here hx rfl (pc0 := 208) (pc' := 213) rfl (D at_208) rfl (teq ((by decide : (58 : Int32) = (58 : Int32)))).1 (by decide) (by decide) (XS.iload X82.here hx rfl (D at_213) rfl (XS.ifNo X82.here hx rfl (D at_215) rfl ((if0 _ _).trans (feq ((by decide : ¬ ((1 : Int32) = (0 : Int32))))).1) (XS.aload X82.here hx rfl (D at_218) rfl rfl (XS.iloadN X82.here hx rfl (D at_220) rfl (XS.iconst X82.here hx rfl (D at_221) (XS.iadd X82.here hx rfl (D at_222) rfl kK)))))))) ?_
   obtain ⟨cq83, kq83, q83a, q83b, q83c⟩ := isOf hZ67 eh82 r67_0
   obtain ⟨_, _, ⟨T83, L83, k83, n83⟩, -, X83, ⟨Lc83, hQ83, l83, y83, z83⟩, st83⟩ := X82.virtualBack hx (y := own_m8) (z := own_m8) hown67 (mw hZ67 G 182 rfl) (mw hZ67 G 183 rfl) (notFace_of_selects (args := #[]) (mw hZ67 G 185 rfl)) (mw hZ67 G 185 rfl) (mw hZ67 G 184 rfl) (by decide) (backOf (W := 0) (rmcA0 l Z a0 G [] x_67 t_67 kb_67 ((2 : Int32) + (own_ssz p2)) us_67 (.int 0) (2 : Int32) (45 : Int32) T67.heap n0 O68 r67_0 r67_1 r67_2 r67_3 (by decide) (own_jlt p2 (c := 2) (j := 2) (by decide) (by have := own_nd_le (own_n p2); omega)) ((r67_4.2.1 hc70).trans own_l45) (by decide)) hZ67 (w_ G 186 rfl) (w_ G 3 rfl) (by decide) (by decide)) q83a q83c (g := (mkF m 223 lv76 [(.int 2), (.ref x_67)])) rfl (by rw [hml]; rfl) (Steps.refl _) (argsL := [(.int 2)]) (rest := []) (lenOf pd_25 rfl) rfl (own_z rfl) (D at_223) (fun _ _ => ⟨rfl, eh82, (ol rfl), (ol rfl)⟩)
   dsimp only [Pt.U, Pt.locs, Pt.cells, Pt.slots] at X83 l83 y83 z83 st83 hQ83
   subst l83 y83 z83
   obtain ⟨rfl, N83q, eh83⟩ := hQ83
   have N83 := Fr.app N82 N83q
   refine ot (S' := T83.setTop (mkF m 226 lv76 [(.int 45)])) st83 ?_
   let lv84 : Array Slot := #[vI p0, vI p1, vI p2, vI 1, vR b44, vR b51, vR x_67, vI 1, .val (.long za), .second, vI dd, vI 1, vI 3]
   refine oo (S' := T83.setTop (mkF m 241 lv84 [])) (fun _ kK => XS.bipush X83.here hx rfl (D at_226) (XS.icmpYes X83.here hx rfl (pc0 := 228) (pc' := 233) rfl (D at_228) rfl (teq ((by decide : (45 : Int32) = (45 : Int32)))).1 (by decide) (by decide) (XS.iloadN X83.here hx rfl (D at_233) rfl (XS.iconst X83.here hx rfl (D at_234) (XS.iadd X83.here hx rfl (D at_235) rfl (XS.iload X83.here hx rfl (D at_236) rfl (XS.iadd X83.here hx rfl (D at_238) rfl (XS.istore X83.here hx rfl (D at_239) rfl (l' := lv84) rfl kK)))))))) ?_
   exact sfk l Z a0 G p0 p1 p2 h0 n0 O0  Bd hml0 hZ Sj67 hZ67 hown67 (X83.more (by decide) (by decide)) T67.heap eh83 K68 O68 N83 (by omega) (by omega) x_67 t_67 kb_67 ((2 : Int32) + (own_ssz p2)) us_67 (3 : Int32) dd za (1 : Int32) b44 b51 (1 : Int32) (1 : Int32) r67_0 r67_1 r67_2 r67_3 (own_H (c := 2) r67_4 (by decide) hsg hdd hza rfl rfl)
  ·let lv85 : Array Slot := #[vI p0, vI p1, vI p2, vI 1, vR b44, vR b51, vR x_67, vI 0, .unset, .unset, .unset, .unset, .unset]
   refine oo (S' := T67.setTop (mkF m 98 lv85 [(.long (p2).toInt64)])) (fun _ kK => XS.ifYes X67.here hx rfl (pc0 := 86) (pc' := 93) rfl (D at_86) rfl ((if0 _ _).trans (flt (hc70)).2.1) (by decide) (by decide) (XS.iconst X67.here hx rfl (D at_93) (XS.istore X67.here hx rfl (D at_94) rfl (l' := lv85) rfl (XS.iloadN X67.here hx rfl (D at_96) rfl (XS.i2l X67.here hx rfl (D at_97) rfl kK))))) ?_
   obtain ⟨_, _, ⟨T86, L86, k86, n86⟩, -, X86, ⟨Lc86, hQ86, l86, y86, z86⟩, st86⟩ := Jvm.LawKit.callS X67 hx (y := own_m35) hown67 (mw hZ67 G 173 rfl) (mw hZ67 G 174 rfl) (mw hZ67 G 170 rfl) (mw hZ67 G 175 rfl) (by decide) (backOf (W := 0) (rmab l Z a0 G [] (p2).toInt64 T67.heap n0 O68 ) hZ67 (w_ G 175 rfl) (w_ G 170 rfl) (by decide) (by decide)) (g := (mkF m 98 lv85 [(.long (p2).toInt64)])) rfl (by rw [hml]; rfl) (argsL := [(.long (p2).toInt64)]) (rest := []) (lenOf pd_29 rfl) rfl (own_z rfl) (D at_98) (fun _ _ => ⟨rfl, rfl, (ol rfl), (ol rfl)⟩)
   dsimp only [Pt.U, Pt.locs, Pt.cells, Pt.slots] at X86 l86 y86 z86 st86 hQ86
   subst l86 y86 z86
   obtain ⟨rfl, N86q, eh86⟩ := hQ86
   have N86 := Fr.app N67 N86q
   refine oo (S' := T86.setTop (mkF m 101 lv85 [(.long (own_ab (p2).toInt64))])) st86 ?_
   obtain ⟨za, gza⟩ : ∃ z, z = (own_ab (p2).toInt64) := ⟨_, rfl⟩
   rw [← gza]
   have hza : za.toInt = (own_n p2 : Int) := by rw [gza]; exact own_ab_eq p2
   let lv87 : Array Slot := #[vI p0, vI p1, vI p2, vI 1, vR b44, vR b51, vR x_67, vI 0, .val (.long za), .second, .unset, .unset, .unset]
   refine oo (S' := T86.setTop (mkF m 105 lv87 [(.long za)])) (fun _ kK => XS.lstore X86.here hx rfl (D at_101) rfl (l' := lv87) rfl (XS.lload X86.here hx rfl (D at_103) rfl kK)) ?_
   obtain ⟨_, _, ⟨T88, L88, k88, n88⟩, -, X88, ⟨Lc88, hQ88, l88, y88, z88⟩, st88⟩ := Jvm.LawKit.callS X86 hx (y := own_m36) hown67 (mw hZ67 G 176 rfl) (mw hZ67 G 177 rfl) (mw hZ67 G 178 rfl) (mw hZ67 G 179 rfl) (by decide) (backOf (W := 0) (rmdj l Z a0 G [] za T67.heap n0 O68 ) hZ67 (w_ G 179 rfl) (w_ G 178 rfl) (by decide) (by decide)) (g := (mkF m 105 lv87 [(.long za)])) rfl (by rw [hml]; rfl) (argsL := [(.long za)]) (rest := []) (lenOf pd_30 rfl) rfl (own_z rfl) (D at_105) (fun _ _ => ⟨rfl, eh86, (ol rfl), (ol rfl)⟩)
   dsimp only [Pt.U, Pt.locs, Pt.cells, Pt.slots] at X88 l88 y88 z88 st88 hQ88
   subst l88 y88 z88
   obtain ⟨rfl, N88q, eh88⟩ := hQ88
   have N88 := Fr.app N86 N88q
   refine oo (S' := T88.setTop (mkF m 108 lv87 [(.int (own_dj za))])) st88 ?_
   obtain ⟨dd, gdd⟩ : ∃ z, z = (own_dj za) := ⟨_, rfl⟩
   rw [← gdd]
   have hdd : dd = Int32.ofNat (own_nd (own_n p2)) := by rw [gdd]; exact own_dj_eq hza
   let lv89 : Array Slot := #[vI p0, vI p1, vI p2, vI 1, vR b44, vR b51, vR x_67, vI 0, .val (.long za), .second, vI dd, .unset, .unset]
   let lv90 : Array Slot := #[vI p0, vI p1, vI p2, vI 1, vR b44, vR b51, vR x_67, vI 0, .val (.long za), .second, vI dd, vI 0, .unset]
   refine oo (S' := T88.setTop (mkF m 124 lv90 [(.ref x_67)])) (fun _ kK => XS.istore X88.here hx rfl (D at_108) rfl (l' := lv89) rfl (XS.iload X88.here hx rfl (D at_110) rfl (XS.ifYes X88.here hx rfl (pc0 := 112) (pc' := 119) rfl (D at_112) rfl ((if0 _ _).trans (teq ((by decide : (0 : Int32) = (0 : Int32)))).1) (by decide) (by decide) (XS.iconst X88.here hx rfl (D at_119) (XS.istore X88.here hx rfl (D at_120) rfl (l' := lv90) rfl (XS.aload X88.here hx rfl (D at_122) rfl rfl kK)))))) ?_
   obtain ⟨cq91, kq91, q91a, q91b, q91c⟩ := isOf hZ67 eh88 r67_0
   obtain ⟨_, _, ⟨T91, L91, k91, n91⟩, -, X91, ⟨Lc91, hQ91, l91, y91, z91⟩, st91⟩ := X88.virtualBack hx (y := own_m6) (z := own_m6) hown67 (mw hZ67 G 181 rfl) (mw hZ67 G 72 rfl) (notFace_of_selects (args := #[]) (mw hZ67 G 74 rfl)) (mw hZ67 G 74 rfl) (mw hZ67 G 73 rfl) (by decide) (backOf (W := 0) (rmln0 l Z a0 G [] x_67 t_67 kb_67 ((2 : Int32) + (own_ssz p2)) us_67 (.int 0) T67.heap n0 O68 r67_0 r67_1 r67_2 r67_3) hZ67 (w_ G 75 rfl) (w_ G 3 rfl) (by decide) (by decide)) q91a q91c (g := (mkF m 124 lv90 [(.ref x_67)])) rfl (by rw [hml]; rfl) (Steps.refl _) (argsL := []) (rest := []) (lenOf pd_7 rfl) rfl (own_z rfl) (D at_124) (fun _ _ => ⟨rfl, eh88, (ol rfl), (ol rfl)⟩)
   dsimp only [Pt.U, Pt.locs, Pt.cells, Pt.slots] at X91 l91 y91 z91 st91 hQ91
   subst l91 y91 z91
   obtain ⟨rfl, N91q, eh91⟩ := hQ91
   have N91 := Fr.app N88 N91q
   refine ot (S' := T91.setTop (mkF m 127 lv90 [(.int ((2 : Int32) + (own_ssz p2)))])) st91 ?_
   refine oo (S' := T91.setTop (mkF m 136 lv90 [(.int ((2 : Int32) + dd)), (.int ((2 : Int32) + (own_ssz p2)))])) (fun _ kK => XS.iloadN X91.here hx rfl (D at_127) rfl (XS.iconst X91.here hx rfl (D at_128) (XS.iadd X91.here hx rfl (D at_129) rfl (XS.iload X91.here hx rfl (D at_130) rfl (XS.iadd X91.here hx rfl (D at_132) rfl (XS.iload X91.here hx rfl (D at_133) rfl (XS.iadd X91.here hx rfl (D at_135) rfl kK))))))) ?_
   have hsg : own_sg p2 = 0 := by simp [own_sg, hc70]
   refine oo (S' := T91.setTop (mkF m 148 lv90 [(.int 0), (.ref x_67)])) (fun _ kK => XS.icmpYes X91.here hx rfl (pc0 := 136) (pc' := 141) rfl (D at_136) rfl (teq ((own_leq (c := 2) hsg hdd))).1 (by decide) (by decide) (XS.iloadN X91.here hx rfl (D at_141) rfl (XS.ifNo X91.here hx rfl (D at_142) rfl ((if0 _ _).trans (tlt ((by decide : (0 : Int32) < (1 : Int32)))).2.2.2) (XS.aload X91.here hx rfl (D at_145) rfl rfl (XS.iconst X91.here hx rfl (D at_147) kK))))) ?_
   obtain ⟨cq92, kq92, q92a, q92b, q92c⟩ := isOf hZ67 eh91 r67_0
   obtain ⟨_, _, ⟨T92, L92, k92, n92⟩, -, X92, ⟨Lc92, hQ92, l92, y92, z92⟩, st92⟩ := X91.virtualBack hx (y := own_m8) (z := own_m8) hown67 (mw hZ67 G 182 rfl) (mw hZ67 G 183 rfl) (notFace_of_selects (args := #[]) (mw hZ67 G 185 rfl)) (mw hZ67 G 185 rfl) (mw hZ67 G 184 rfl) (by decide) (backOf (W := 0) (rmcA0 l Z a0 G [] x_67 t_67 kb_67 ((2 : Int32) + (own_ssz p2)) us_67 (.int 0) (0 : Int32) ch0 T67.heap n0 O68 r67_0 r67_1 r67_2 r67_3 (by decide) (own_jlt p2 (c := 2) (j := 0) (by decide) (by have := own_nd_le (own_n p2); omega)) (r67_4.1 0 (by decide)) rg0) hZ67 (w_ G 186 rfl) (w_ G 3 rfl) (by decide) (by decide)) q92a q92c (g := (mkF m 148 lv90 [(.int 0), (.ref x_67)])) rfl (by rw [hml]; rfl) (Steps.refl _) (argsL := [(.int 0)]) (rest := []) (lenOf pd_25 rfl) rfl (own_z rfl) (D at_148) (fun _ _ => ⟨rfl, eh91, (ol rfl), (ol rfl)⟩)
   dsimp only [Pt.U, Pt.locs, Pt.cells, Pt.slots] at X92 l92 y92 z92 st92 hQ92
   subst l92 y92 z92
   obtain ⟨rfl, N92q, eh92⟩ := hQ92
   have N92 := Fr.app N91 N92q
   refine ot (S' := T92.setTop (mkF m 151 lv90 [(.int ch0)])) st92 ?_
   refine oo (S' := T92.setTop (mkF m 154 lv90 [(.int 0), (.ref b44), (.int ch0)])) (fun _ kK => XS.aload X92.here hx rfl (D at_151) rfl rfl (XS.iconst X92.here hx rfl (D at_153) kK)) ?_
   have f93 := ((((f53.keep Kq55 (own_nin1 (on (by omega)))).ext E59).keep Kq61 (own_nin1 (on (by omega)))).keep Kq67 nin0)
   obtain ⟨cl94, Ar94, q94, S94, N94', H94, G94⟩ := id f93
   have hin95 : ¬ ((0 : Int32) < 0 ∨ cl94.slots.size ≤ ((0 : Int32)).toNatClampNeg) := inb_of S94 ⟨by decide, by decide⟩
   refine oo (S' := T92.setTop (mkF m 155 lv90 [(.int ch0), (.int ch0)])) (fun _ kK => X92.caload hx (j := (0 : Int32)) (v := (.int ch0)) (by rw [eh92]; exact Ar94.1) (State.isArrayOf_alike hZ67.alike Ar94.2.1) Ar94.2.2 hin95 (Has.at H94 hin95 (rfl)) (g := (mkF m 154 lv90 [(.int 0), (.ref b44), (.int ch0)])) rfl rfl (D at_154) _ kK) ?_
   refine oo (S' := T92.setTop (mkF m 203 lv90 [(.int 1), (.ref x_67)])) (fun _ kK => XS.icmpYes X92.here hx rfl (pc0 := 155) (pc' := 160) rfl (D at_155) rfl (teq (rfl)).1 (by decide) (by decide) (XS.iloadN X92.here hx rfl (D at_160) rfl (XS.iconst X92.here hx rfl (D at_161) (XS.icmpYes X92.here hx rfl (pc0 := 162) (pc' := 180) rfl (D at_162) rfl (flt ((by decide : ¬ ((1 : Int32) < (1 : Int32))))).2.2.2 (by decide) (by decide) (XS.iloadN X92.here hx rfl (D at_180) rfl (XS.iconst X92.here hx rfl (D at_181) (XS.icmpYes X92.here hx rfl (pc0 := 182) (pc' := 200) rfl (D at_182) rfl (flt ((by decide : ¬ ((2 : Int32) < (1 : Int32))))).2.2.2 (by decide) (by decide) (XS.aload X92.here hx rfl (D at_200) rfl rfl (XS.iloadN X92.here hx rfl (D at_202) rfl kK))))))))) ?_
   obtain ⟨cq96, kq96, q96a, q96b, q96c⟩ := isOf hZ67 eh92 r67_0
   obtain ⟨_, _, ⟨T96, L96, k96, n96⟩, -, X96, ⟨Lc96, hQ96, l96, y96, z96⟩, st96⟩ := X92.virtualBack hx (y := own_m8) (z := own_m8) hown67 (mw hZ67 G 182 rfl) (mw hZ67 G 183 rfl) (notFace_of_selects (args := #[]) (mw hZ67 G 185 rfl)) (mw hZ67 G 185 rfl) (mw hZ67 G 184 rfl) (by decide) (backOf (W := 0) (rmcA0 l Z a0 G [] x_67 t_67 kb_67 ((2 : Int32) + (own_ssz p2)) us_67 (.int 0) (1 : Int32) (58 : Int32) T67.heap n0 O68 r67_0 r67_1 r67_2 r67_3 (by decide) (own_jlt p2 (c := 2) (j := 1) (by decide) (by have := own_nd_le (own_n p2); omega)) ((r67_4.1 1 (by decide)).trans own_l58) (by decide)) hZ67 (w_ G 186 rfl) (w_ G 3 rfl) (by decide) (by decide)) q96a q96c (g := (mkF m 203 lv90 [(.int 1), (.ref x_67)])) rfl (by rw [hml]; rfl) (Steps.refl _) (argsL := [(.int 1)]) (rest := []) (lenOf pd_25 rfl) rfl (own_z rfl) (D at_203) (fun _ _ => ⟨rfl, eh92, (ol rfl), (ol rfl)⟩)
   dsimp only [Pt.U, Pt.locs, Pt.cells, Pt.slots] at X96 l96 y96 z96 st96 hQ96
   subst l96 y96 z96
   obtain ⟨rfl, N96q, eh96⟩ := hQ96
   have N96 := Fr.app N92 N96q
   refine ot (S' := T96.setTop (mkF m 206 lv90 [(.int 58)])) st96 ?_
   let lv97 : Array Slot := #[vI p0, vI p1, vI p2, vI 1, vR b44, vR b51, vR x_67, vI 0, .val (.long za), .second, vI dd, vI 0, vI 2]
   refine oo (S' := T96.setTop (mkF m 241 lv97 [])) (fun _ kK => XS.bipush X96.here hx rfl (D at_206) (XS.icmpYes X96.here hx rfl (pc0 := 208) (pc' := 213) rfl (D at_208) rfl (teq ((by decide : (58 : Int32) = (58 : Int32)))).1 (by decide) (by decide) (XS.iload X96.here hx rfl (D at_213) rfl (XS.ifYes X96.here hx rfl (pc0 := 215) (pc' := 233) rfl (D at_215) rfl ((if0 _ _).trans (teq ((by decide : (0 : Int32) = (0 : Int32)))).1) (by decide) (by decide) (XS.iloadN X96.here hx rfl (D at_233) rfl (XS.iconst X96.here hx rfl (D at_234) (XS.iadd X96.here hx rfl (D at_235) rfl (XS.iload X96.here hx rfl (D at_236) rfl (XS.iadd X96.here hx rfl (D at_238) rfl (XS.istore X96.here hx rfl (D at_239) rfl (l' := lv97) rfl kK)))))))))) ?_
   exact sfk l Z a0 G p0 p1 p2 h0 n0 O0  Bd hml0 hZ Sj67 hZ67 hown67 (X96.more (by decide) (by decide)) T67.heap eh96 K68 O68 N96 (by omega) (by omega) x_67 t_67 kb_67 ((2 : Int32) + (own_ssz p2)) us_67 (2 : Int32) dd za (1 : Int32) b44 b51 (0 : Int32) (0 : Int32) r67_0 r67_1 r67_2 r67_3 (own_H (c := 2) r67_4 (by decide) hsg hdd hza rfl rfl)
 ·rw [hr]
  let lv98 : Array Slot := #[vI p0, vI p1, vI p2, vI 2, .unset, .unset, .unset, .unset, .unset, .unset, .unset, .unset, .unset]
  refine oo (S' := s₁.setTop (mkF m 5 lv98 [(.int 2)])) (fun _ kK => XS.istoreN X0w.here hx rfl (D at_3) rfl (l' := lv98) rfl (XS.iloadN X0w.here hx rfl (D at_4) rfl kK)) ?_
  obtain ⟨T99, h99, k99, X99, e99, E99, A99, st99⟩ := newP X0w hx hZ (w_ G 0 rfl) e0 (g := (mkF m 5 lv98 [(.int 2)])) rfl (D at_5) rfl (by decide) (cap := 2) (by decide) (by decide) (by decide) (by decide)
  obtain ⟨b99, g99⟩ : ∃ z, z = Array.size h0 := ⟨_, rfl⟩
  rw [← g99] at A99 st99
  have lt_b99 := lN A99.lt
  have sz100 := E99.1
  have K100 := K0.ext E99
  have O100 := O0.ext E99
  have R100 := CHr.ext E99 hCH
  have CH100 := R100.1
  have V99 : Arv Z h99 b99 k99 .char (2 : Int32) [(.int 0), (.int 0)] (.int 0) := (Arv.new A99 (by decide)).pad (pad_rep [] (.int 0) 2)
  refine oo (S' := T99.setTop (mkF m 7 lv98 [(.ref b99)])) st99 ?_
  let lv101 : Array Slot := #[vI p0, vI p1, vI p2, vI 2, vR b99, .unset, .unset, .unset, .unset, .unset, .unset, .unset, .unset]
  refine oo (S' := T99.setTop (mkF m 22 lv101 [(.int (nar .char (p1 &&& (255 : Int32)))), (.int 0), (.ref b99)])) (fun _ kK => XS.astore X99.here hx rfl (D at_7) rfl rfl (l' := lv101) rfl (XS.iloadN X99.here hx rfl (D at_9) rfl (XS.ifNo X99.here hx rfl (D at_10) rfl ((if0 _ _).trans (tlt ((by decide : (0 : Int32) < (2 : Int32)))).2.2.2) (XS.aload X99.here hx rfl (D at_13) rfl rfl (XS.iconst X99.here hx rfl (D at_15) (XS.iloadN X99.here hx rfl (D at_16) rfl (XS.sipush X99.here hx rfl (D at_17) (XS.iand X99.here hx rfl (D at_20) rfl (XS.i2c X99.here hx rfl (D at_21) rfl kK))))))))) ?_
  obtain ⟨cl102, Ar102, q102, S102, N102', H102, G102⟩ := id V99
  have hin103 : ¬ ((0 : Int32) < 0 ∨ cl102.slots.size ≤ ((0 : Int32)).toNatClampNeg) := inb_of S102 ⟨by decide, by decide⟩
  obtain ⟨T103, h103, X103, e103, W103, st103⟩ := stC X99 hx hZ e99 Ar102 (j := (0 : Int32)) hin103 (g := (mkF m 22 lv101 [(.int (nar .char (p1 &&& (255 : Int32)))), (.int 0), (.ref b99)])) rfl rfl (D at_22)
  have N103 := Fr.snoc X103 N0 (by omega)
  have sz104 := own_wr_le W103
  have K104 := K100.wr W103 (Or.inr (by omega))
  have O104 := O100.wr W103 (by omega)
  have R104 := CHr.wr W103 (Safe.arv hZ.alike V99 (by decide)) CH100
  have CH104 := R104.1
  have V103 : Arv Z h103 b99 k99 .char (2 : Int32) [(.int (nar .char (nar .char (p1 &&& (255 : Int32))))), (.int 0)] (.int 0) := Arv.set Ar102 q102 S102 N102' H102 G102 (fits_nar_char _) W103 0 rfl (Nat.le_of_ble_eq_true rfl)
  refine oo (S' := T103.setTop (mkF m 23 lv101 [])) st103 ?_
  refine oo (S' := T103.setTop (mkF m 40 lv101 [(.int (nar .char (((p1).toUInt32 >>> ((8 : Int32) &&& 31).toUInt32).toInt32 &&& (255 : Int32)))), (.int 1), (.ref b99)])) (fun _ kK => XS.iloadN X103.here hx rfl (D at_23) rfl (XS.iconst X103.here hx rfl (D at_24) (XS.icmpNo X103.here hx rfl (D at_25) rfl (tlt ((by decide : (1 : Int32) < (2 : Int32)))).2.2.2 (XS.aload X103.here hx rfl (D at_28) rfl rfl (XS.iconst X103.here hx rfl (D at_30) (XS.iloadN X103.here hx rfl (D at_31) rfl (XS.bipush X103.here hx rfl (D at_32) (XS.iushr X103.here hx rfl (D at_34) rfl (XS.sipush X103.here hx rfl (D at_35) (XS.iand X103.here hx rfl (D at_38) rfl (XS.i2c X103.here hx rfl (D at_39) rfl kK))))))))))) ?_
  obtain ⟨cl105, Ar105, q105, S105, N105', H105, G105⟩ := id V103
  have hin106 : ¬ ((1 : Int32) < 0 ∨ cl105.slots.size ≤ ((1 : Int32)).toNatClampNeg) := inb_of S105 ⟨by decide, by decide⟩
  obtain ⟨T106, h106, X106, e106, W106, st106⟩ := stC X103 hx hZ e103 Ar105 (j := (1 : Int32)) hin106 (g := (mkF m 40 lv101 [(.int (nar .char (((p1).toUInt32 >>> ((8 : Int32) &&& 31).toUInt32).toInt32 &&& (255 : Int32)))), (.int 1), (.ref b99)])) rfl rfl (D at_40)
  have N106 := Fr.snoc X106 N103 (by omega)
  have sz107 := own_wr_le W106
  have K107 := K104.wr W106 (Or.inr (by omega))
  have O107 := O104.wr W106 (by omega)
  have R107 := CHr.wr W106 (Safe.arv hZ.alike V103 (by decide)) CH104
  have CH107 := R107.1
  have V106 : Arv Z h106 b99 k99 .char (2 : Int32) [(.int (nar .char (nar .char (p1 &&& (255 : Int32))))), (.int (nar .char (nar .char (((p1).toUInt32 >>> ((8 : Int32) &&& 31).toUInt32).toInt32 &&& (255 : Int32)))))] (.int 0) := Arv.set Ar105 q105 S105 N105' H105 G105 (fits_nar_char _) W106 1 rfl (Nat.le_of_ble_eq_true rfl)
  refine oo (S' := T106.setTop (mkF m 41 lv101 [])) st106 ?_
  refine oo (S' := T106.setTop (mkF m 59 lv101 [])) (fun _ kK => XS.iloadN X106.here hx rfl (D at_41) rfl (XS.iconst X106.here hx rfl (D at_42) (XS.icmpYes X106.here hx rfl (pc0 := 43) (pc' := 59) rfl (D at_43) rfl (flt ((by decide : ¬ ((2 : Int32) < (2 : Int32))))).2.2.2 (by decide) (by decide) kK))) ?_
  obtain ⟨ch0, gc0⟩ : ∃ z, z = (nar .char (p1 &&& (255 : Int32))) := ⟨_, rfl⟩
  have rg0 : ¬ ch0 < (0 : Int32) ∧ ¬ (255 : Int32) < ch0 := by rw [gc0]; exact own_c255 _
  obtain ⟨ch1, gc1⟩ : ∃ z, z = (nar .char (((p1).toUInt32 >>> ((8 : Int32) &&& 31).toUInt32).toInt32 &&& (255 : Int32))) := ⟨_, rfl⟩
  have rg1 : ¬ ch1 < (0 : Int32) ∧ ¬ (255 : Int32) < ch1 := by rw [gc1]; exact own_c255 _
  have V108 : Arv Z h106 b99 k99 .char (2 : Int32) [(.int ch0), (.int ch1)] (.int 0) := by have q := V106; rw [own_nar_cc, own_nar_cc, ← gc0, ← gc1] at q; exact q
  have hlat := own_al2 rg0 rg1
  obtain ⟨T109, h109, X109, e109, E109, A109, D109, -, st109⟩ := newO X106 hx hZ hown (w_ G 1 rfl) (w_ G 2 rfl) (w_ G 3 rfl) e106 (g := (mkF m 59 lv101 [])) rfl (D at_59) (by decide) (by decide)
  obtain ⟨b109, g109⟩ : ∃ z, z = Array.size h106 := ⟨_, rfl⟩
  rw [← g109] at A109 D109 st109
  have lt_b109 := lN A109.lt
  have sz110 := E109.1
  have K110 := K107.ext E109
  have O110 := O107.ext E109
  have R110 := CHr.ext E109 CH107
  have CH110 := R110.1
  have Sf109 : Safe Z consts_1 s.vm h109 b109 := Safe.ext E109 CH107 (Safe.new (by omega))
  have F109_value : Fld Z h109 b109 j1 "value" "[B" .null := D109 (Or.inr (w_ G 16 rfl)) (ty := (.array .byte)) (by decide)
  have F109_coder : Fld Z h109 b109 j1 "coder" "B" (.int 0) := D109 (Or.inr (w_ G 17 rfl)) (ty := .byte) (by decide)
  refine oo (S' := T109.setTop (mkF m 62 lv101 [(.ref b109)])) st109 ?_
  refine oo (S' := T109.setTop (mkF m 65 lv101 [(.ref b99), (.ref b109), (.ref b109)])) (fun _ kK => XS.dup X109.here hx rfl (D at_62) rfl rfl (XS.aload X109.here hx rfl (D at_63) rfl rfl kK)) ?_
  have f111 := (V108.ext E109)
  have hws : ∀ d ∈ StrChars.Road.words, d.before a0 Z = true := fun d hd => hw d (own_words d hd)
  have hp112 : ∀ c ∈ ([ch0, ch1] : List Int32), ¬ c < 0 ∧ ¬ (255 : Int32) < c := hlat
  obtain ⟨_, _, ⟨T113, L113, k113, n113⟩, -, X113, ⟨Lc113, hQ113, l113, y113, z113⟩, st113⟩ := Jvm.Stand.specialBack X109 hx (y := own_m1) rfl hown (mw hZ G 4 rfl) (mw hZ G 5 rfl) (mw hZ G 6 rfl) (by decide) (StrChars.Road.backV (W := 1) hZ hws (kI := 4) (w_ G 2 rfl) (cs := [ch0, ch1]) (bs := ([ch0, ch1] : List Int32).map (fun c => c.toInt8.toInt32)) (n := 2) (n0 := n0) (by omega) (by omega) A109 F109_value F109_coder f111 (SCS.ext O110.2) PCS rfl rfl (by decide) (by decide) hp112 rfl (by decide) (by decide)) (g := (mkF m 65 lv101 [(.ref b99), (.ref b109), (.ref b109)])) rfl (by rw [hml]; rfl) (Steps.refl _) (a := b109) (argsL := [(.ref b99)]) (rest := [(.ref b109)]) (lenOf pd_27 rfl) rfl (own_z rfl) (D at_65) (fun _ _ => ⟨rfl, e109, (ol rfl), (ol rfl)⟩)
  dsimp only [Pt.U, Pt.locs, Pt.cells, Pt.slots] at X113 l113 y113 z113 st113 hQ113
  subst l113 y113 z113
  obtain ⟨rfl, N113q, Kq113, r113E, r113C, t113, kb113, u113, w113, x113, r113V, r113A⟩ := hQ113
  have N113 := Fr.app N106 N113q
  have sz114 := Kq113.1
  have K114 := K110.trans Kq113 (own_all1 (Or.inr (by omega)))
  have O114 := O110.keep Kq113 (own_all1 (by omega))
  have R114 := CHr.keep Kq113 (sfS Sf109 sf0) CH110
  have CH114 := R114.1
  have lt_t113 := lN r113A.lt
  refine ot (S' := T113.setTop (mkF m 68 lv101 [(.ref b109)])) st113 ?_
  have V115 : Arv Z T113.heap t113 kb113 .byte (2 : Int32) [(.int (StrChars.lo8 ch0)), (.int (StrChars.lo8 ch1))] (.int 0) := by have q := r113A; exact q
  let lv116 : Array Slot := #[vI p0, vI p1, vI p2, vI 2, vR b99, vR b109, .unset, .unset, .unset, .unset, .unset, .unset, .unset]
  refine oo (S' := T113.setTop (mkF m 70 lv116 [])) (fun _ kK => XS.astore X113.here hx rfl (D at_68) rfl rfl (l' := lv116) rfl kK) ?_
  obtain ⟨T117, h117, X117, e117, E117, A117, D117, -, st117⟩ := newO X113 hx hZ hown (w_ G 22 rfl) (w_ G 23 rfl) (w_ G 24 rfl) rfl (g := (mkF m 70 lv116 [])) rfl (D at_70) (by decide) (by decide)
  obtain ⟨b117, g117⟩ : ∃ z, z = Array.size T113.heap := ⟨_, rfl⟩
  rw [← g117] at A117 D117 st117
  have lt_b117 := lN A117.lt
  have sz118 := E117.1
  have K118 := K114.ext E117
  have O118 := O114.ext E117
  have R118 := CHr.ext E117 CH114
  have CH118 := R118.1
  have Sf117 : Safe Z consts_1 s.vm h117 b117 := Safe.ext E117 CH114 (Safe.new (by omega))
  have F117_host : Fld Z h117 b117 j3 "host" "Ljava/lang/String;" .null := D117 (Or.inr (w_ G 35 rfl)) (ty := (.object j1)) (by decide)
  have F117_port : Fld Z h117 b117 j3 "port" "I" (.int 0) := D117 (Or.inr (w_ G 37 rfl)) (ty := .int) (by decide)
  refine oo (S' := T117.setTop (mkF m 73 lv116 [(.ref b117)])) st117 ?_
  refine oo (S' := T117.setTop (mkF m 77 lv116 [(.int p2), (.ref b109), (.ref b117), (.ref b117)])) (fun _ kK => XS.dup X117.here hx rfl (D at_73) rfl rfl (XS.aload X117.here hx rfl (D at_74) rfl rfl (XS.iloadN X117.here hx rfl (D at_76) rfl kK))) ?_
  obtain ⟨_, _, ⟨T119, L119, k119, n119⟩, -, X119, ⟨Lc119, hQ119, l119, y119, z119⟩, st119⟩ := Jvm.Stand.specialBack X117 hx (y := own_m33) rfl hown (mw hZ G 25 rfl) (mw hZ G 26 rfl) (mw hZ G 27 rfl) (by decide) (backOf (W := 1) (rmhpi l Z a0 G [] b117 b109 p2 .null (.int 0) h117 n0 O118 A117 F117_host F117_port (by omega)) hZ (w_ G 27 rfl) (w_ G 24 rfl) (by decide) (by decide)) (g := (mkF m 77 lv116 [(.int p2), (.ref b109), (.ref b117), (.ref b117)])) rfl (by rw [hml]; rfl) (Steps.refl _) (a := b117) (argsL := [(.ref b109), (.int p2)]) (rest := [(.ref b117)]) (lenOf pd_28 rfl) rfl (own_z rfl) (D at_77) (fun _ _ => ⟨rfl, e117, (ol rfl), (ol rfl)⟩)
  dsimp only [Pt.U, Pt.locs, Pt.cells, Pt.slots] at X119 l119 y119 z119 st119 hQ119
  subst l119 y119 z119
  obtain ⟨rfl, N119q, Kq119, r119_0, r119_1, r119_2⟩ := hQ119
  have N119 := Fr.app N113 N119q
  have sz120 := Kq119.1
  have K120 := K118.trans Kq119 (own_all1 (Or.inr (by omega)))
  have O120 := O118.keep Kq119 (own_all1 (by omega))
  have R120 := CHr.keep Kq119 (sfS (Safe.exa hZ.alike A117 (by decide) (by decide)) sf0) CH118
  have CH120 := R120.1
  have ltr119_0 := lN r119_0.lt
  have ltr119_1 := lN r119_1.lt
  have ltr119_2 := lN r119_2.lt
  refine ot (S' := T119.setTop (mkF m 80 lv116 [(.ref b117)])) st119 ?_
  have f121 := ((r113E.ext E117).keep Kq119)
  have f122 := ((r113V.ext E117).keep Kq119 (own_nin1 (on (by omega))))
  have f123 := ((r113C.ext E117).keep Kq119 (own_nin1 (on (by omega))))
  have f124 := ((V115.ext E117).keep Kq119 (own_nin1 (on (by omega))))
  obtain ⟨cq125, kq125, q125a, q125b, q125c⟩ := isOf hZ rfl r119_0
  obtain ⟨_, _, ⟨T125, L125, k125, n125⟩, -, X125', Si125, gr125, ⟨Lc125, hQ125, l125, y125, z125, CH125⟩, st125⟩ := X119.virtualBackS hx (y := own_m34) (z := own_m34) hown (mw hZ G 38 rfl) (mw hZ G 39 rfl) (notFace_of_selects (args := #[]) (mw hZ G 41 rfl)) (mw hZ G 41 rfl) (mw hZ G 40 rfl) (by decide) (backOfSH (W := 0) (rmht2 l Z a0 G [] b117 p2 b109 t113 kb113 (.int (StrChars.lo8 ch0)) (.int (StrChars.lo8 ch1)) T119.heap n0 O120 r119_1 r119_2 f121 f122 f123 f124) hZ (w_ G 42 rfl) (w_ G 24 rfl) (by decide) (by decide) (own_EW G) CH120) q125a q125c (g := (mkF m 80 lv116 [(.ref b117)])) rfl (by rw [hml]; rfl) (Steps.refl _) (argsL := []) (rest := []) (lenOf pd_23 rfl) rfl (own_z rfl) (D at_80) (fun _ _ => ⟨rfl, rfl, (ol rfl), (ol rfl)⟩)
  dsimp only [Pt.U, Pt.locs, Pt.cells, Pt.slots] at X125' l125 y125 z125 st125 hQ125 CH125 Si125 gr125
  subst l125 y125 z125
  obtain ⟨X125, Sj125, hZ125, hown125⟩ := rebS Si0 (by omega : _ ≤ Array.size T119.heap) X125' Si125 (by omega) hZ hown
  obtain ⟨x_125, t_125, kb_125, us_125, rfl, N125q, Kq125, r125_0, r125_1, r125_2, r125_3, r125_4⟩ := hQ125
  have N125 := Fr.app N119 N125q
  have sz126 := Kq125.1
  have K126 := K120.trans Kq125 (own_all0 )
  have O126 := O120.keep Kq125 (own_all0 )
  have ltr125_0 := lN r125_0.lt
  have ltr125_1 := lN r125_1.lt
  have ltr125_2 := lN r125_2.lt
  have ltr125_3 := lN r125_3.lt
  refine ot (S' := T125.setTop (mkF m 83 lv116 [(.ref x_125)])) st125 ?_
  let lv127 : Array Slot := #[vI p0, vI p1, vI p2, vI 2, vR b99, vR b109, vR x_125, .unset, .unset, .unset, .unset, .unset, .unset]
  refine oo (S' := T125.setTop (mkF m 86 lv127 [(.int p2)])) (fun _ kK => XS.astore X125.here hx rfl (D at_83) rfl rfl (l' := lv127) rfl (XS.iloadN X125.here hx rfl (D at_85) rfl kK)) ?_
  rcases Decidable.em (p2 < (0 : Int32)) with hc128 | hc128
  ·let lv129 : Array Slot := #[vI p0, vI p1, vI p2, vI 2, vR b99, vR b109, vR x_125, vI 1, .unset, .unset, .unset, .unset, .unset]
   refine oo (S' := T125.setTop (mkF m 98 lv129 [(.long (p2).toInt64)])) (fun _ kK => XS.ifNo X125.here hx rfl (D at_86) rfl ((if0 _ _).trans (tlt (hc128)).2.1) (XS.iconst X125.here hx rfl (D at_89) (XS.goto X125.here hx rfl (pc0 := 90) (pc' := 94) rfl (D at_90) (by decide) (by decide) (XS.istore X125.here hx rfl (D at_94) rfl (l' := lv129) rfl (XS.iloadN X125.here hx rfl (D at_96) rfl (XS.i2l X125.here hx rfl (D at_97) rfl kK)))))) ?_
   obtain ⟨_, _, ⟨T130, L130, k130, n130⟩, -, X130, ⟨Lc130, hQ130, l130, y130, z130⟩, st130⟩ := Jvm.LawKit.callS X125 hx (y := own_m35) hown125 (mw hZ125 G 173 rfl) (mw hZ125 G 174 rfl) (mw hZ125 G 170 rfl) (mw hZ125 G 175 rfl) (by decide) (backOf (W := 0) (rmab l Z a0 G [] (p2).toInt64 T125.heap n0 O126 ) hZ125 (w_ G 175 rfl) (w_ G 170 rfl) (by decide) (by decide)) (g := (mkF m 98 lv129 [(.long (p2).toInt64)])) rfl (by rw [hml]; rfl) (argsL := [(.long (p2).toInt64)]) (rest := []) (lenOf pd_29 rfl) rfl (own_z rfl) (D at_98) (fun _ _ => ⟨rfl, rfl, (ol rfl), (ol rfl)⟩)
   dsimp only [Pt.U, Pt.locs, Pt.cells, Pt.slots] at X130 l130 y130 z130 st130 hQ130
   subst l130 y130 z130
   obtain ⟨rfl, N130q, eh130⟩ := hQ130
   have N130 := Fr.app N125 N130q
   refine oo (S' := T130.setTop (mkF m 101 lv129 [(.long (own_ab (p2).toInt64))])) st130 ?_
   obtain ⟨za, gza⟩ : ∃ z, z = (own_ab (p2).toInt64) := ⟨_, rfl⟩
   rw [← gza]
   have hza : za.toInt = (own_n p2 : Int) := by rw [gza]; exact own_ab_eq p2
   let lv131 : Array Slot := #[vI p0, vI p1, vI p2, vI 2, vR b99, vR b109, vR x_125, vI 1, .val (.long za), .second, .unset, .unset, .unset]
   refine oo (S' := T130.setTop (mkF m 105 lv131 [(.long za)])) (fun _ kK => XS.lstore X130.here hx rfl (D at_101) rfl (l' := lv131) rfl (XS.lload X130.here hx rfl (D at_103) rfl kK)) ?_
   obtain ⟨_, _, ⟨T132, L132, k132, n132⟩, -, X132, ⟨Lc132, hQ132, l132, y132, z132⟩, st132⟩ := Jvm.LawKit.callS X130 hx (y := own_m36) hown125 (mw hZ125 G 176 rfl) (mw hZ125 G 177 rfl) (mw hZ125 G 178 rfl) (mw hZ125 G 179 rfl) (by decide) (backOf (W := 0) (rmdj l Z a0 G [] za T125.heap n0 O126 ) hZ125 (w_ G 179 rfl) (w_ G 178 rfl) (by decide) (by decide)) (g := (mkF m 105 lv131 [(.long za)])) rfl (by rw [hml]; rfl) (argsL := [(.long za)]) (rest := []) (lenOf pd_30 rfl) rfl (own_z rfl) (D at_105) (fun _ _ => ⟨rfl, eh130, (ol rfl), (ol rfl)⟩)
   dsimp only [Pt.U, Pt.locs, Pt.cells, Pt.slots] at X132 l132 y132 z132 st132 hQ132
   subst l132 y132 z132
   obtain ⟨rfl, N132q, eh132⟩ := hQ132
   have N132 := Fr.app N130 N132q
   refine oo (S' := T132.setTop (mkF m 108 lv131 [(.int (own_dj za))])) st132 ?_
   obtain ⟨dd, gdd⟩ : ∃ z, z = (own_dj za) := ⟨_, rfl⟩
   rw [← gdd]
   have hdd : dd = Int32.ofNat (own_nd (own_n p2)) := by rw [gdd]; exact own_dj_eq hza
   let lv133 : Array Slot := #[vI p0, vI p1, vI p2, vI 2, vR b99, vR b109, vR x_125, vI 1, .val (.long za), .second, vI dd, .unset, .unset]
   let lv134 : Array Slot := #[vI p0, vI p1, vI p2, vI 2, vR b99, vR b109, vR x_125, vI 1, .val (.long za), .second, vI dd, vI 1, .unset]
   refine oo (S' := T132.setTop (mkF m 124 lv134 [(.ref x_125)])) (fun _ kK => XS.istore X132.here hx rfl (D at_108) rfl (l' := lv133) rfl (XS.iload X132.here hx rfl (D at_110) rfl (XS.ifNo X132.here hx rfl (D at_112) rfl ((if0 _ _).trans (feq ((by decide : ¬ ((1 : Int32) = (0 : Int32))))).1) (XS.iconst X132.here hx rfl (D at_115) (XS.goto X132.here hx rfl (pc0 := 116) (pc' := 120) rfl (D at_116) (by decide) (by decide) (XS.istore X132.here hx rfl (D at_120) rfl (l' := lv134) rfl (XS.aload X132.here hx rfl (D at_122) rfl rfl kK))))))) ?_
   obtain ⟨cq135, kq135, q135a, q135b, q135c⟩ := isOf hZ125 eh132 r125_0
   obtain ⟨_, _, ⟨T135, L135, k135, n135⟩, -, X135, ⟨Lc135, hQ135, l135, y135, z135⟩, st135⟩ := X132.virtualBack hx (y := own_m6) (z := own_m6) hown125 (mw hZ125 G 181 rfl) (mw hZ125 G 72 rfl) (notFace_of_selects (args := #[]) (mw hZ125 G 74 rfl)) (mw hZ125 G 74 rfl) (mw hZ125 G 73 rfl) (by decide) (backOf (W := 0) (rmln0 l Z a0 G [] x_125 t_125 kb_125 ((3 : Int32) + (own_ssz p2)) us_125 (.int 0) T125.heap n0 O126 r125_0 r125_1 r125_2 r125_3) hZ125 (w_ G 75 rfl) (w_ G 3 rfl) (by decide) (by decide)) q135a q135c (g := (mkF m 124 lv134 [(.ref x_125)])) rfl (by rw [hml]; rfl) (Steps.refl _) (argsL := []) (rest := []) (lenOf pd_7 rfl) rfl (own_z rfl) (D at_124) (fun _ _ => ⟨rfl, eh132, (ol rfl), (ol rfl)⟩)
   dsimp only [Pt.U, Pt.locs, Pt.cells, Pt.slots] at X135 l135 y135 z135 st135 hQ135
   subst l135 y135 z135
   obtain ⟨rfl, N135q, eh135⟩ := hQ135
   have N135 := Fr.app N132 N135q
   refine ot (S' := T135.setTop (mkF m 127 lv134 [(.int ((3 : Int32) + (own_ssz p2)))])) st135 ?_
   refine oo (S' := T135.setTop (mkF m 136 lv134 [(.int ((4 : Int32) + dd)), (.int ((3 : Int32) + (own_ssz p2)))])) (fun _ kK => XS.iloadN X135.here hx rfl (D at_127) rfl (XS.iconst X135.here hx rfl (D at_128) (XS.iadd X135.here hx rfl (D at_129) rfl (XS.iload X135.here hx rfl (D at_130) rfl (XS.iadd X135.here hx rfl (D at_132) rfl (XS.iload X135.here hx rfl (D at_133) rfl (XS.iadd X135.here hx rfl (D at_135) rfl kK))))))) ?_
   have hsg : own_sg p2 = 1 := by simp [own_sg, hc128]
   refine oo (S' := T135.setTop (mkF m 148 lv134 [(.int 0), (.ref x_125)])) (fun _ kK => XS.icmpYes X135.here hx rfl (pc0 := 136) (pc' := 141) rfl (D at_136) rfl (teq ((own_leq (c := 3) hsg hdd))).1 (by decide) (by decide) (XS.iloadN X135.here hx rfl (D at_141) rfl (XS.ifNo X135.here hx rfl (D at_142) rfl ((if0 _ _).trans (tlt ((by decide : (0 : Int32) < (2 : Int32)))).2.2.2) (XS.aload X135.here hx rfl (D at_145) rfl rfl (XS.iconst X135.here hx rfl (D at_147) kK))))) ?_
   obtain ⟨cq136, kq136, q136a, q136b, q136c⟩ := isOf hZ125 eh135 r125_0
   obtain ⟨_, _, ⟨T136, L136, k136, n136⟩, -, X136, ⟨Lc136, hQ136, l136, y136, z136⟩, st136⟩ := X135.virtualBack hx (y := own_m8) (z := own_m8) hown125 (mw hZ125 G 182 rfl) (mw hZ125 G 183 rfl) (notFace_of_selects (args := #[]) (mw hZ125 G 185 rfl)) (mw hZ125 G 185 rfl) (mw hZ125 G 184 rfl) (by decide) (backOf (W := 0) (rmcA0 l Z a0 G [] x_125 t_125 kb_125 ((3 : Int32) + (own_ssz p2)) us_125 (.int 0) (0 : Int32) ch0 T125.heap n0 O126 r125_0 r125_1 r125_2 r125_3 (by decide) (own_jlt p2 (c := 3) (j := 0) (by decide) (by have := own_nd_le (own_n p2); omega)) (r125_4.1 0 (by decide)) rg0) hZ125 (w_ G 186 rfl) (w_ G 3 rfl) (by decide) (by decide)) q136a q136c (g := (mkF m 148 lv134 [(.int 0), (.ref x_125)])) rfl (by rw [hml]; rfl) (Steps.refl _) (argsL := [(.int 0)]) (rest := []) (lenOf pd_25 rfl) rfl (own_z rfl) (D at_148) (fun _ _ => ⟨rfl, eh135, (ol rfl), (ol rfl)⟩)
   dsimp only [Pt.U, Pt.locs, Pt.cells, Pt.slots] at X136 l136 y136 z136 st136 hQ136
   subst l136 y136 z136
   obtain ⟨rfl, N136q, eh136⟩ := hQ136
   have N136 := Fr.app N135 N136q
   refine ot (S' := T136.setTop (mkF m 151 lv134 [(.int ch0)])) st136 ?_
   refine oo (S' := T136.setTop (mkF m 154 lv134 [(.int 0), (.ref b99), (.int ch0)])) (fun _ kK => XS.aload X136.here hx rfl (D at_151) rfl rfl (XS.iconst X136.here hx rfl (D at_153) kK)) ?_
   have f137 := ((((f111.keep Kq113 (own_nin1 (on (by omega)))).ext E117).keep Kq119 (own_nin1 (on (by omega)))).keep Kq125 nin0)
   obtain ⟨cl138, Ar138, q138, S138, N138', H138, G138⟩ := id f137
   have hin139 : ¬ ((0 : Int32) < 0 ∨ cl138.slots.size ≤ ((0 : Int32)).toNatClampNeg) := inb_of S138 ⟨by decide, by decide⟩
   refine oo (S' := T136.setTop (mkF m 155 lv134 [(.int ch0), (.int ch0)])) (fun _ kK => X136.caload hx (j := (0 : Int32)) (v := (.int ch0)) (by rw [eh136]; exact Ar138.1) (State.isArrayOf_alike hZ125.alike Ar138.2.1) Ar138.2.2 hin139 (Has.at H138 hin139 (rfl)) (g := (mkF m 154 lv134 [(.int 0), (.ref b99), (.int ch0)])) rfl rfl (D at_154) _ kK) ?_
   refine oo (S' := T136.setTop (mkF m 168 lv134 [(.int 1), (.ref x_125)])) (fun _ kK => XS.icmpYes X136.here hx rfl (pc0 := 155) (pc' := 160) rfl (D at_155) rfl (teq (rfl)).1 (by decide) (by decide) (XS.iloadN X136.here hx rfl (D at_160) rfl (XS.iconst X136.here hx rfl (D at_161) (XS.icmpNo X136.here hx rfl (D at_162) rfl (tlt ((by decide : (1 : Int32) < (2 : Int32)))).2.2.2 (XS.aload X136.here hx rfl (D at_165) rfl rfl (XS.iconst X136.here hx rfl (D at_167) kK)))))) ?_
   obtain ⟨cq140, kq140, q140a, q140b, q140c⟩ := isOf hZ125 eh136 r125_0
   obtain ⟨_, _, ⟨T140, L140, k140, n140⟩, -, X140, ⟨Lc140, hQ140, l140, y140, z140⟩, st140⟩ := X136.virtualBack hx (y := own_m8) (z := own_m8) hown125 (mw hZ125 G 182 rfl) (mw hZ125 G 183 rfl) (notFace_of_selects (args := #[]) (mw hZ125 G 185 rfl)) (mw hZ125 G 185 rfl) (mw hZ125 G 184 rfl) (by decide) (backOf (W := 0) (rmcA0 l Z a0 G [] x_125 t_125 kb_125 ((3 : Int32) + (own_ssz p2)) us_125 (.int 0) (1 : Int32) ch1 T125.heap n0 O126 r125_0 r125_1 r125_2 r125_3 (by decide) (own_jlt p2 (c := 3) (j := 1) (by decide) (by have := own_nd_le (own_n p2); omega)) (r125_4.1 1 (by decide)) rg1) hZ125 (w_ G 186 rfl) (w_ G 3 rfl) (by decide) (by decide)) q140a q140c (g := (mkF m 168 lv134 [(.int 1), (.ref x_125)])) rfl (by rw [hml]; rfl) (Steps.refl _) (argsL := [(.int 1)]) (rest := []) (lenOf pd_25 rfl) rfl (own_z rfl) (D at_168) (fun _ _ => ⟨rfl, eh136, (ol rfl), (ol rfl)⟩)
   dsimp only [Pt.U, Pt.locs, Pt.cells, Pt.slots] at X140 l140 y140 z140 st140 hQ140
   subst l140 y140 z140
   obtain ⟨rfl, N140q, eh140⟩ := hQ140
   have N140 := Fr.app N136 N140q
   refine ot (S' := T140.setTop (mkF m 171 lv134 [(.int ch1)])) st140 ?_
   refine oo (S' := T140.setTop (mkF m 174 lv134 [(.int 1), (.ref b99), (.int ch1)])) (fun _ kK => XS.aload X140.here hx rfl (D at_171) rfl rfl (XS.iconst X140.here hx rfl (D at_173) kK)) ?_
   obtain ⟨cl141, Ar141, q141, S141, N141', H141, G141⟩ := id f137
   have hin142 : ¬ ((1 : Int32) < 0 ∨ cl141.slots.size ≤ ((1 : Int32)).toNatClampNeg) := inb_of S141 ⟨by decide, by decide⟩
   refine oo (S' := T140.setTop (mkF m 175 lv134 [(.int ch1), (.int ch1)])) (fun _ kK => X140.caload hx (j := (1 : Int32)) (v := (.int ch1)) (by rw [eh140]; exact Ar141.1) (State.isArrayOf_alike hZ125.alike Ar141.2.1) Ar141.2.2 hin142 (Has.at H141 hin142 (rfl)) (g := (mkF m 174 lv134 [(.int 1), (.ref b99), (.int ch1)])) rfl rfl (D at_174) _ kK) ?_
   refine oo (S' := T140.setTop (mkF m 203 lv134 [(.int 2), (.ref x_125)])) (fun _ kK => XS.icmpYes X140.here hx rfl (pc0 := 175) (pc' := 180) rfl (D at_175) rfl (teq (rfl)).1 (by decide) (by decide) (XS.iloadN X140.here hx rfl (D at_180) rfl (XS.iconst X140.here hx rfl (D at_181) (XS.icmpYes X140.here hx rfl (pc0 := 182) (pc' := 200) rfl (D at_182) rfl (flt ((by decide : ¬ ((2 : Int32) < (2 : Int32))))).2.2.2 (by decide) (by decide) (XS.aload X140.here hx rfl (D at_200) rfl rfl (XS.iloadN X140.here hx rfl (D at_202) rfl kK)))))) ?_
   obtain ⟨cq143, kq143, q143a, q143b, q143c⟩ := isOf hZ125 eh140 r125_0
   obtain ⟨_, _, ⟨T143, L143, k143, n143⟩, -, X143, ⟨Lc143, hQ143, l143, y143, z143⟩, st143⟩ := X140.virtualBack hx (y := own_m8) (z := own_m8) hown125 (mw hZ125 G 182 rfl) (mw hZ125 G 183 rfl) (notFace_of_selects (args := #[]) (mw hZ125 G 185 rfl)) (mw hZ125 G 185 rfl) (mw hZ125 G 184 rfl) (by decide) (backOf (W := 0) (rmcA0 l Z a0 G [] x_125 t_125 kb_125 ((3 : Int32) + (own_ssz p2)) us_125 (.int 0) (2 : Int32) (58 : Int32) T125.heap n0 O126 r125_0 r125_1 r125_2 r125_3 (by decide) (own_jlt p2 (c := 3) (j := 2) (by decide) (by have := own_nd_le (own_n p2); omega)) ((r125_4.1 2 (by decide)).trans own_l58) (by decide)) hZ125 (w_ G 186 rfl) (w_ G 3 rfl) (by decide) (by decide)) q143a q143c (g := (mkF m 203 lv134 [(.int 2), (.ref x_125)])) rfl (by rw [hml]; rfl) (Steps.refl _) (argsL := [(.int 2)]) (rest := []) (lenOf pd_25 rfl) rfl (own_z rfl) (D at_203) (fun _ _ => ⟨rfl, eh140, (ol rfl), (ol rfl)⟩)
   dsimp only [Pt.U, Pt.locs, Pt.cells, Pt.slots] at X143 l143 y143 z143 st143 hQ143
   subst l143 y143 z143
   obtain ⟨rfl, N143q, eh143⟩ := hQ143
   have N143 := Fr.app N140 N143q
   refine ot (S' := T143.setTop (mkF m 206 lv134 [(.int 58)])) st143 ?_
   refine oo (S' := T143.setTop (mkF m 223 lv134 [(.int 3), (.ref x_125)])) (fun _ kK => XS.bipush X143.here hx rfl (D at_206) (XS.icmpYes X143.here hx rfl (pc0 := 208) (pc' := 213) rfl (D at_208) rfl (teq ((by decide : (58 : Int32) = (58 : Int32)))).1 (by decide) (by decide) (XS.iload X143.here hx rfl (D at_213) rfl (XS.ifNo X143.here hx rfl (D at_215) rfl ((if0 _ _).trans (feq ((by decide : ¬ ((1 : Int32) = (0 : Int32))))).1) (XS.aload X143.here hx rfl (D at_218) rfl rfl (XS.iloadN X143.here hx rfl (D at_220) rfl (XS.iconst X143.here hx rfl (D at_221) (XS.iadd X143.here hx rfl (D at_222) rfl kK)))))))) ?_
   obtain ⟨cq144, kq144, q144a, q144b, q144c⟩ := isOf hZ125 eh143 r125_0
   obtain ⟨_, _, ⟨T144, L144, k144, n144⟩, -, X144, ⟨Lc144, hQ144, l144, y144, z144⟩, st144⟩ := X143.virtualBack hx (y := own_m8) (z := own_m8) hown125 (mw hZ125 G 182 rfl) (mw hZ125 G 183 rfl) (notFace_of_selects (args := #[]) (mw hZ125 G 185 rfl)) (mw hZ125 G 185 rfl) (mw hZ125 G 184 rfl) (by decide) (backOf (W := 0) (rmcA0 l Z a0 G [] x_125 t_125 kb_125 ((3 : Int32) + (own_ssz p2)) us_125 (.int 0) (3 : Int32) (45 : Int32) T125.heap n0 O126 r125_0 r125_1 r125_2 r125_3 (by decide) (own_jlt p2 (c := 3) (j := 3) (by decide) (by have := own_nd_le (own_n p2); omega)) ((r125_4.2.1 hc128).trans own_l45) (by decide)) hZ125 (w_ G 186 rfl) (w_ G 3 rfl) (by decide) (by decide)) q144a q144c (g := (mkF m 223 lv134 [(.int 3), (.ref x_125)])) rfl (by rw [hml]; rfl) (Steps.refl _) (argsL := [(.int 3)]) (rest := []) (lenOf pd_25 rfl) rfl (own_z rfl) (D at_223) (fun _ _ => ⟨rfl, eh143, (ol rfl), (ol rfl)⟩)
   dsimp only [Pt.U, Pt.locs, Pt.cells, Pt.slots] at X144 l144 y144 z144 st144 hQ144
   subst l144 y144 z144
   obtain ⟨rfl, N144q, eh144⟩ := hQ144
   have N144 := Fr.app N143 N144q
   refine ot (S' := T144.setTop (mkF m 226 lv134 [(.int 45)])) st144 ?_
   let lv145 : Array Slot := #[vI p0, vI p1, vI p2, vI 2, vR b99, vR b109, vR x_125, vI 1, .val (.long za), .second, vI dd, vI 1, vI 4]
   refine oo (S' := T144.setTop (mkF m 241 lv145 [])) (fun _ kK => XS.bipush X144.here hx rfl (D at_226) (XS.icmpYes X144.here hx rfl (pc0 := 228) (pc' := 233) rfl (D at_228) rfl (teq ((by decide : (45 : Int32) = (45 : Int32)))).1 (by decide) (by decide) (XS.iloadN X144.here hx rfl (D at_233) rfl (XS.iconst X144.here hx rfl (D at_234) (XS.iadd X144.here hx rfl (D at_235) rfl (XS.iload X144.here hx rfl (D at_236) rfl (XS.iadd X144.here hx rfl (D at_238) rfl (XS.istore X144.here hx rfl (D at_239) rfl (l' := lv145) rfl kK)))))))) ?_
   exact sfk l Z a0 G p0 p1 p2 h0 n0 O0  Bd hml0 hZ Sj125 hZ125 hown125 (X144.more (by decide) (by decide)) T125.heap eh144 K126 O126 N144 (by omega) (by omega) x_125 t_125 kb_125 ((3 : Int32) + (own_ssz p2)) us_125 (4 : Int32) dd za (2 : Int32) b99 b109 (1 : Int32) (1 : Int32) r125_0 r125_1 r125_2 r125_3 (own_H (c := 3) r125_4 (by decide) hsg hdd hza rfl rfl)
  ·let lv146 : Array Slot := #[vI p0, vI p1, vI p2, vI 2, vR b99, vR b109, vR x_125, vI 0, .unset, .unset, .unset, .unset, .unset]
   refine oo (S' := T125.setTop (mkF m 98 lv146 [(.long (p2).toInt64)])) (fun _ kK => XS.ifYes X125.here hx rfl (pc0 := 86) (pc' := 93) rfl (D at_86) rfl ((if0 _ _).trans (flt (hc128)).2.1) (by decide) (by decide) (XS.iconst X125.here hx rfl (D at_93) (XS.istore X125.here hx rfl (D at_94) rfl (l' := lv146) rfl (XS.iloadN X125.here hx rfl (D at_96) rfl (XS.i2l X125.here hx rfl (D at_97) rfl kK))))) ?_
   obtain ⟨_, _, ⟨T147, L147, k147, n147⟩, -, X147, ⟨Lc147, hQ147, l147, y147, z147⟩, st147⟩ := Jvm.LawKit.callS X125 hx (y := own_m35) hown125 (mw hZ125 G 173 rfl) (mw hZ125 G 174 rfl) (mw hZ125 G 170 rfl) (mw hZ125 G 175 rfl) (by decide) (backOf (W := 0) (rmab l Z a0 G [] (p2).toInt64 T125.heap n0 O126 ) hZ125 (w_ G 175 rfl) (w_ G 170 rfl) (by decide) (by decide)) (g := (mkF m 98 lv146 [(.long (p2).toInt64)])) rfl (by rw [hml]; rfl) (argsL := [(.long (p2).toInt64)]) (rest := []) (lenOf pd_29 rfl) rfl (own_z rfl) (D at_98) (fun _ _ => ⟨rfl, rfl, (ol rfl), (ol rfl)⟩)
   dsimp only [Pt.U, Pt.locs, Pt.cells, Pt.slots] at X147 l147 y147 z147 st147 hQ147
   subst l147 y147 z147
   obtain ⟨rfl, N147q, eh147⟩ := hQ147
   have N147 := Fr.app N125 N147q
   refine oo (S' := T147.setTop (mkF m 101 lv146 [(.long (own_ab (p2).toInt64))])) st147 ?_
   obtain ⟨za, gza⟩ : ∃ z, z = (own_ab (p2).toInt64) := ⟨_, rfl⟩
   rw [← gza]
   have hza : za.toInt = (own_n p2 : Int) := by rw [gza]; exact own_ab_eq p2
   let lv148 : Array Slot := #[vI p0, vI p1, vI p2, vI 2, vR b99, vR b109, vR x_125, vI 0, .val (.long za), .second, .unset, .unset, .unset]
   refine oo (S' := T147.setTop (mkF m 105 lv148 [(.long za)])) (fun _ kK => XS.lstore X147.here hx rfl (D at_101) rfl (l' := lv148) rfl (XS.lload X147.here hx rfl (D at_103) rfl kK)) ?_
   obtain ⟨_, _, ⟨T149, L149, k149, n149⟩, -, X149, ⟨Lc149, hQ149, l149, y149, z149⟩, st149⟩ := Jvm.LawKit.callS X147 hx (y := own_m36) hown125 (mw hZ125 G 176 rfl) (mw hZ125 G 177 rfl) (mw hZ125 G 178 rfl) (mw hZ125 G 179 rfl) (by decide) (backOf (W := 0) (rmdj l Z a0 G [] za T125.heap n0 O126 ) hZ125 (w_ G 179 rfl) (w_ G 178 rfl) (by decide) (by decide)) (g := (mkF m 105 lv148 [(.long za)])) rfl (by rw [hml]; rfl) (argsL := [(.long za)]) (rest := []) (lenOf pd_30 rfl) rfl (own_z rfl) (D at_105) (fun _ _ => ⟨rfl, eh147, (ol rfl), (ol rfl)⟩)
   dsimp only [Pt.U, Pt.locs, Pt.cells, Pt.slots] at X149 l149 y149 z149 st149 hQ149
   subst l149 y149 z149
   obtain ⟨rfl, N149q, eh149⟩ := hQ149
   have N149 := Fr.app N147 N149q
   refine oo (S' := T149.setTop (mkF m 108 lv148 [(.int (own_dj za))])) st149 ?_
   obtain ⟨dd, gdd⟩ : ∃ z, z = (own_dj za) := ⟨_, rfl⟩
   rw [← gdd]
   have hdd : dd = Int32.ofNat (own_nd (own_n p2)) := by rw [gdd]; exact own_dj_eq hza
   let lv150 : Array Slot := #[vI p0, vI p1, vI p2, vI 2, vR b99, vR b109, vR x_125, vI 0, .val (.long za), .second, vI dd, .unset, .unset]
   let lv151 : Array Slot := #[vI p0, vI p1, vI p2, vI 2, vR b99, vR b109, vR x_125, vI 0, .val (.long za), .second, vI dd, vI 0, .unset]
   refine oo (S' := T149.setTop (mkF m 124 lv151 [(.ref x_125)])) (fun _ kK => XS.istore X149.here hx rfl (D at_108) rfl (l' := lv150) rfl (XS.iload X149.here hx rfl (D at_110) rfl (XS.ifYes X149.here hx rfl (pc0 := 112) (pc' := 119) rfl (D at_112) rfl ((if0 _ _).trans (teq ((by decide : (0 : Int32) = (0 : Int32)))).1) (by decide) (by decide) (XS.iconst X149.here hx rfl (D at_119) (XS.istore X149.here hx rfl (D at_120) rfl (l' := lv151) rfl (XS.aload X149.here hx rfl (D at_122) rfl rfl kK)))))) ?_
   obtain ⟨cq152, kq152, q152a, q152b, q152c⟩ := isOf hZ125 eh149 r125_0
   obtain ⟨_, _, ⟨T152, L152, k152, n152⟩, -, X152, ⟨Lc152, hQ152, l152, y152, z152⟩, st152⟩ := X149.virtualBack hx (y := own_m6) (z := own_m6) hown125 (mw hZ125 G 181 rfl) (mw hZ125 G 72 rfl) (notFace_of_selects (args := #[]) (mw hZ125 G 74 rfl)) (mw hZ125 G 74 rfl) (mw hZ125 G 73 rfl) (by decide) (backOf (W := 0) (rmln0 l Z a0 G [] x_125 t_125 kb_125 ((3 : Int32) + (own_ssz p2)) us_125 (.int 0) T125.heap n0 O126 r125_0 r125_1 r125_2 r125_3) hZ125 (w_ G 75 rfl) (w_ G 3 rfl) (by decide) (by decide)) q152a q152c (g := (mkF m 124 lv151 [(.ref x_125)])) rfl (by rw [hml]; rfl) (Steps.refl _) (argsL := []) (rest := []) (lenOf pd_7 rfl) rfl (own_z rfl) (D at_124) (fun _ _ => ⟨rfl, eh149, (ol rfl), (ol rfl)⟩)
   dsimp only [Pt.U, Pt.locs, Pt.cells, Pt.slots] at X152 l152 y152 z152 st152 hQ152
   subst l152 y152 z152
   obtain ⟨rfl, N152q, eh152⟩ := hQ152
   have N152 := Fr.app N149 N152q
   refine ot (S' := T152.setTop (mkF m 127 lv151 [(.int ((3 : Int32) + (own_ssz p2)))])) st152 ?_
   refine oo (S' := T152.setTop (mkF m 136 lv151 [(.int ((3 : Int32) + dd)), (.int ((3 : Int32) + (own_ssz p2)))])) (fun _ kK => XS.iloadN X152.here hx rfl (D at_127) rfl (XS.iconst X152.here hx rfl (D at_128) (XS.iadd X152.here hx rfl (D at_129) rfl (XS.iload X152.here hx rfl (D at_130) rfl (XS.iadd X152.here hx rfl (D at_132) rfl (XS.iload X152.here hx rfl (D at_133) rfl (XS.iadd X152.here hx rfl (D at_135) rfl kK))))))) ?_
   have hsg : own_sg p2 = 0 := by simp [own_sg, hc128]
   refine oo (S' := T152.setTop (mkF m 148 lv151 [(.int 0), (.ref x_125)])) (fun _ kK => XS.icmpYes X152.here hx rfl (pc0 := 136) (pc' := 141) rfl (D at_136) rfl (teq ((own_leq (c := 3) hsg hdd))).1 (by decide) (by decide) (XS.iloadN X152.here hx rfl (D at_141) rfl (XS.ifNo X152.here hx rfl (D at_142) rfl ((if0 _ _).trans (tlt ((by decide : (0 : Int32) < (2 : Int32)))).2.2.2) (XS.aload X152.here hx rfl (D at_145) rfl rfl (XS.iconst X152.here hx rfl (D at_147) kK))))) ?_
   obtain ⟨cq153, kq153, q153a, q153b, q153c⟩ := isOf hZ125 eh152 r125_0
   obtain ⟨_, _, ⟨T153, L153, k153, n153⟩, -, X153, ⟨Lc153, hQ153, l153, y153, z153⟩, st153⟩ := X152.virtualBack hx (y := own_m8) (z := own_m8) hown125 (mw hZ125 G 182 rfl) (mw hZ125 G 183 rfl) (notFace_of_selects (args := #[]) (mw hZ125 G 185 rfl)) (mw hZ125 G 185 rfl) (mw hZ125 G 184 rfl) (by decide) (backOf (W := 0) (rmcA0 l Z a0 G [] x_125 t_125 kb_125 ((3 : Int32) + (own_ssz p2)) us_125 (.int 0) (0 : Int32) ch0 T125.heap n0 O126 r125_0 r125_1 r125_2 r125_3 (by decide) (own_jlt p2 (c := 3) (j := 0) (by decide) (by have := own_nd_le (own_n p2); omega)) (r125_4.1 0 (by decide)) rg0) hZ125 (w_ G 186 rfl) (w_ G 3 rfl) (by decide) (by decide)) q153a q153c (g := (mkF m 148 lv151 [(.int 0), (.ref x_125)])) rfl (by rw [hml]; rfl) (Steps.refl _) (argsL := [(.int 0)]) (rest := []) (lenOf pd_25 rfl) rfl (own_z rfl) (D at_148) (fun _ _ => ⟨rfl, eh152, (ol rfl), (ol rfl)⟩)
   dsimp only [Pt.U, Pt.locs, Pt.cells, Pt.slots] at X153 l153 y153 z153 st153 hQ153
   subst l153 y153 z153
   obtain ⟨rfl, N153q, eh153⟩ := hQ153
   have N153 := Fr.app N152 N153q
   refine ot (S' := T153.setTop (mkF m 151 lv151 [(.int ch0)])) st153 ?_
   refine oo (S' := T153.setTop (mkF m 154 lv151 [(.int 0), (.ref b99), (.int ch0)])) (fun _ kK => XS.aload X153.here hx rfl (D at_151) rfl rfl (XS.iconst X153.here hx rfl (D at_153) kK)) ?_
   have f154 := ((((f111.keep Kq113 (own_nin1 (on (by omega)))).ext E117).keep Kq119 (own_nin1 (on (by omega)))).keep Kq125 nin0)
   obtain ⟨cl155, Ar155, q155, S155, N155', H155, G155⟩ := id f154
   have hin156 : ¬ ((0 : Int32) < 0 ∨ cl155.slots.size ≤ ((0 : Int32)).toNatClampNeg) := inb_of S155 ⟨by decide, by decide⟩
   refine oo (S' := T153.setTop (mkF m 155 lv151 [(.int ch0), (.int ch0)])) (fun _ kK => X153.caload hx (j := (0 : Int32)) (v := (.int ch0)) (by rw [eh153]; exact Ar155.1) (State.isArrayOf_alike hZ125.alike Ar155.2.1) Ar155.2.2 hin156 (Has.at H155 hin156 (rfl)) (g := (mkF m 154 lv151 [(.int 0), (.ref b99), (.int ch0)])) rfl rfl (D at_154) _ kK) ?_
   refine oo (S' := T153.setTop (mkF m 168 lv151 [(.int 1), (.ref x_125)])) (fun _ kK => XS.icmpYes X153.here hx rfl (pc0 := 155) (pc' := 160) rfl (D at_155) rfl (teq (rfl)).1 (by decide) (by decide) (XS.iloadN X153.here hx rfl (D at_160) rfl (XS.iconst X153.here hx rfl (D at_161) (XS.icmpNo X153.here hx rfl (D at_162) rfl (tlt ((by decide : (1 : Int32) < (2 : Int32)))).2.2.2 (XS.aload X153.here hx rfl (D at_165) rfl rfl (XS.iconst X153.here hx rfl (D at_167) kK)))))) ?_
   obtain ⟨cq157, kq157, q157a, q157b, q157c⟩ := isOf hZ125 eh153 r125_0
   obtain ⟨_, _, ⟨T157, L157, k157, n157⟩, -, X157, ⟨Lc157, hQ157, l157, y157, z157⟩, st157⟩ := X153.virtualBack hx (y := own_m8) (z := own_m8) hown125 (mw hZ125 G 182 rfl) (mw hZ125 G 183 rfl) (notFace_of_selects (args := #[]) (mw hZ125 G 185 rfl)) (mw hZ125 G 185 rfl) (mw hZ125 G 184 rfl) (by decide) (backOf (W := 0) (rmcA0 l Z a0 G [] x_125 t_125 kb_125 ((3 : Int32) + (own_ssz p2)) us_125 (.int 0) (1 : Int32) ch1 T125.heap n0 O126 r125_0 r125_1 r125_2 r125_3 (by decide) (own_jlt p2 (c := 3) (j := 1) (by decide) (by have := own_nd_le (own_n p2); omega)) (r125_4.1 1 (by decide)) rg1) hZ125 (w_ G 186 rfl) (w_ G 3 rfl) (by decide) (by decide)) q157a q157c (g := (mkF m 168 lv151 [(.int 1), (.ref x_125)])) rfl (by rw [hml]; rfl) (Steps.refl _) (argsL := [(.int 1)]) (rest := []) (lenOf pd_25 rfl) rfl (own_z rfl) (D at_168) (fun _ _ => ⟨rfl, eh153, (ol rfl), (ol rfl)⟩)
   dsimp only [Pt.U, Pt.locs, Pt.cells, Pt.slots] at X157 l157 y157 z157 st157 hQ157
   subst l157 y157 z157
   obtain ⟨rfl, N157q, eh157⟩ := hQ157
   have N157 := Fr.app N153 N157q
   refine ot (S' := T157.setTop (mkF m 171 lv151 [(.int ch1)])) st157 ?_
   refine oo (S' := T157.setTop (mkF m 174 lv151 [(.int 1), (.ref b99), (.int ch1)])) (fun _ kK => XS.aload X157.here hx rfl (D at_171) rfl rfl (XS.iconst X157.here hx rfl (D at_173) kK)) ?_
   obtain ⟨cl158, Ar158, q158, S158, N158', H158, G158⟩ := id f154
   have hin159 : ¬ ((1 : Int32) < 0 ∨ cl158.slots.size ≤ ((1 : Int32)).toNatClampNeg) := inb_of S158 ⟨by decide, by decide⟩
   refine oo (S' := T157.setTop (mkF m 175 lv151 [(.int ch1), (.int ch1)])) (fun _ kK => X157.caload hx (j := (1 : Int32)) (v := (.int ch1)) (by rw [eh157]; exact Ar158.1) (State.isArrayOf_alike hZ125.alike Ar158.2.1) Ar158.2.2 hin159 (Has.at H158 hin159 (rfl)) (g := (mkF m 174 lv151 [(.int 1), (.ref b99), (.int ch1)])) rfl rfl (D at_174) _ kK) ?_
   refine oo (S' := T157.setTop (mkF m 203 lv151 [(.int 2), (.ref x_125)])) (fun _ kK => XS.icmpYes X157.here hx rfl (pc0 := 175) (pc' := 180) rfl (D at_175) rfl (teq (rfl)).1 (by decide) (by decide) (XS.iloadN X157.here hx rfl (D at_180) rfl (XS.iconst X157.here hx rfl (D at_181) (XS.icmpYes X157.here hx rfl (pc0 := 182) (pc' := 200) rfl (D at_182) rfl (flt ((by decide : ¬ ((2 : Int32) < (2 : Int32))))).2.2.2 (by decide) (by decide) (XS.aload X157.here hx rfl (D at_200) rfl rfl (XS.iloadN X157.here hx rfl (D at_202) rfl kK)))))) ?_
   obtain ⟨cq160, kq160, q160a, q160b, q160c⟩ := isOf hZ125 eh157 r125_0
   obtain ⟨_, _, ⟨T160, L160, k160, n160⟩, -, X160, ⟨Lc160, hQ160, l160, y160, z160⟩, st160⟩ := X157.virtualBack hx (y := own_m8) (z := own_m8) hown125 (mw hZ125 G 182 rfl) (mw hZ125 G 183 rfl) (notFace_of_selects (args := #[]) (mw hZ125 G 185 rfl)) (mw hZ125 G 185 rfl) (mw hZ125 G 184 rfl) (by decide) (backOf (W := 0) (rmcA0 l Z a0 G [] x_125 t_125 kb_125 ((3 : Int32) + (own_ssz p2)) us_125 (.int 0) (2 : Int32) (58 : Int32) T125.heap n0 O126 r125_0 r125_1 r125_2 r125_3 (by decide) (own_jlt p2 (c := 3) (j := 2) (by decide) (by have := own_nd_le (own_n p2); omega)) ((r125_4.1 2 (by decide)).trans own_l58) (by decide)) hZ125 (w_ G 186 rfl) (w_ G 3 rfl) (by decide) (by decide)) q160a q160c (g := (mkF m 203 lv151 [(.int 2), (.ref x_125)])) rfl (by rw [hml]; rfl) (Steps.refl _) (argsL := [(.int 2)]) (rest := []) (lenOf pd_25 rfl) rfl (own_z rfl) (D at_203) (fun _ _ => ⟨rfl, eh157, (ol rfl), (ol rfl)⟩)
   dsimp only [Pt.U, Pt.locs, Pt.cells, Pt.slots] at X160 l160 y160 z160 st160 hQ160
   subst l160 y160 z160
   obtain ⟨rfl, N160q, eh160⟩ := hQ160
   have N160 := Fr.app N157 N160q
   refine ot (S' := T160.setTop (mkF m 206 lv151 [(.int 58)])) st160 ?_
   let lv161 : Array Slot := #[vI p0, vI p1, vI p2, vI 2, vR b99, vR b109, vR x_125, vI 0, .val (.long za), .second, vI dd, vI 0, vI 3]
   refine oo (S' := T160.setTop (mkF m 241 lv161 [])) (fun _ kK => XS.bipush X160.here hx rfl (D at_206) (XS.icmpYes X160.here hx rfl (pc0 := 208) (pc' := 213) rfl (D at_208) rfl (teq ((by decide : (58 : Int32) = (58 : Int32)))).1 (by decide) (by decide) (XS.iload X160.here hx rfl (D at_213) rfl (XS.ifYes X160.here hx rfl (pc0 := 215) (pc' := 233) rfl (D at_215) rfl ((if0 _ _).trans (teq ((by decide : (0 : Int32) = (0 : Int32)))).1) (by decide) (by decide) (XS.iloadN X160.here hx rfl (D at_233) rfl (XS.iconst X160.here hx rfl (D at_234) (XS.iadd X160.here hx rfl (D at_235) rfl (XS.iload X160.here hx rfl (D at_236) rfl (XS.iadd X160.here hx rfl (D at_238) rfl (XS.istore X160.here hx rfl (D at_239) rfl (l' := lv161) rfl kK)))))))))) ?_
   exact sfk l Z a0 G p0 p1 p2 h0 n0 O0  Bd hml0 hZ Sj125 hZ125 hown125 (X160.more (by decide) (by decide)) T125.heap eh160 K126 O126 N160 (by omega) (by omega) x_125 t_125 kb_125 ((3 : Int32) + (own_ssz p2)) us_125 (3 : Int32) dd za (2 : Int32) b99 b109 (0 : Int32) (0 : Int32) r125_0 r125_1 r125_2 r125_3 (own_H (c := 3) r125_4 (by decide) hsg hdd hza rfl rfl)
 ·rw [hr]
  let lv162 : Array Slot := #[vI p0, vI p1, vI p2, vI 3, .unset, .unset, .unset, .unset, .unset, .unset, .unset, .unset, .unset]
  refine oo (S' := s₁.setTop (mkF m 5 lv162 [(.int 3)])) (fun _ kK => XS.istoreN X0w.here hx rfl (D at_3) rfl (l' := lv162) rfl (XS.iloadN X0w.here hx rfl (D at_4) rfl kK)) ?_
  obtain ⟨T163, h163, k163, X163, e163, E163, A163, st163⟩ := newP X0w hx hZ (w_ G 0 rfl) e0 (g := (mkF m 5 lv162 [(.int 3)])) rfl (D at_5) rfl (by decide) (cap := 3) (by decide) (by decide) (by decide) (by decide)
  obtain ⟨b163, g163⟩ : ∃ z, z = Array.size h0 := ⟨_, rfl⟩
  rw [← g163] at A163 st163
  have lt_b163 := lN A163.lt
  have sz164 := E163.1
  have K164 := K0.ext E163
  have O164 := O0.ext E163
  have R164 := CHr.ext E163 hCH
  have CH164 := R164.1
  have V163 : Arv Z h163 b163 k163 .char (3 : Int32) [(.int 0), (.int 0), (.int 0)] (.int 0) := (Arv.new A163 (by decide)).pad (pad_rep [] (.int 0) 3)
  refine oo (S' := T163.setTop (mkF m 7 lv162 [(.ref b163)])) st163 ?_
  let lv165 : Array Slot := #[vI p0, vI p1, vI p2, vI 3, vR b163, .unset, .unset, .unset, .unset, .unset, .unset, .unset, .unset]
  refine oo (S' := T163.setTop (mkF m 22 lv165 [(.int (nar .char (p1 &&& (255 : Int32)))), (.int 0), (.ref b163)])) (fun _ kK => XS.astore X163.here hx rfl (D at_7) rfl rfl (l' := lv165) rfl (XS.iloadN X163.here hx rfl (D at_9) rfl (XS.ifNo X163.here hx rfl (D at_10) rfl ((if0 _ _).trans (tlt ((by decide : (0 : Int32) < (3 : Int32)))).2.2.2) (XS.aload X163.here hx rfl (D at_13) rfl rfl (XS.iconst X163.here hx rfl (D at_15) (XS.iloadN X163.here hx rfl (D at_16) rfl (XS.sipush X163.here hx rfl (D at_17) (XS.iand X163.here hx rfl (D at_20) rfl (XS.i2c X163.here hx rfl (D at_21) rfl kK))))))))) ?_
  obtain ⟨cl166, Ar166, q166, S166, N166', H166, G166⟩ := id V163
  have hin167 : ¬ ((0 : Int32) < 0 ∨ cl166.slots.size ≤ ((0 : Int32)).toNatClampNeg) := inb_of S166 ⟨by decide, by decide⟩
  obtain ⟨T167, h167, X167, e167, W167, st167⟩ := stC X163 hx hZ e163 Ar166 (j := (0 : Int32)) hin167 (g := (mkF m 22 lv165 [(.int (nar .char (p1 &&& (255 : Int32)))), (.int 0), (.ref b163)])) rfl rfl (D at_22)
  have N167 := Fr.snoc X167 N0 (by omega)
  have sz168 := own_wr_le W167
  have K168 := K164.wr W167 (Or.inr (by omega))
  have O168 := O164.wr W167 (by omega)
  have R168 := CHr.wr W167 (Safe.arv hZ.alike V163 (by decide)) CH164
  have CH168 := R168.1
  have V167 : Arv Z h167 b163 k163 .char (3 : Int32) [(.int (nar .char (nar .char (p1 &&& (255 : Int32))))), (.int 0), (.int 0)] (.int 0) := Arv.set Ar166 q166 S166 N166' H166 G166 (fits_nar_char _) W167 0 rfl (Nat.le_of_ble_eq_true rfl)
  refine oo (S' := T167.setTop (mkF m 23 lv165 [])) st167 ?_
  refine oo (S' := T167.setTop (mkF m 40 lv165 [(.int (nar .char (((p1).toUInt32 >>> ((8 : Int32) &&& 31).toUInt32).toInt32 &&& (255 : Int32)))), (.int 1), (.ref b163)])) (fun _ kK => XS.iloadN X167.here hx rfl (D at_23) rfl (XS.iconst X167.here hx rfl (D at_24) (XS.icmpNo X167.here hx rfl (D at_25) rfl (tlt ((by decide : (1 : Int32) < (3 : Int32)))).2.2.2 (XS.aload X167.here hx rfl (D at_28) rfl rfl (XS.iconst X167.here hx rfl (D at_30) (XS.iloadN X167.here hx rfl (D at_31) rfl (XS.bipush X167.here hx rfl (D at_32) (XS.iushr X167.here hx rfl (D at_34) rfl (XS.sipush X167.here hx rfl (D at_35) (XS.iand X167.here hx rfl (D at_38) rfl (XS.i2c X167.here hx rfl (D at_39) rfl kK))))))))))) ?_
  obtain ⟨cl169, Ar169, q169, S169, N169', H169, G169⟩ := id V167
  have hin170 : ¬ ((1 : Int32) < 0 ∨ cl169.slots.size ≤ ((1 : Int32)).toNatClampNeg) := inb_of S169 ⟨by decide, by decide⟩
  obtain ⟨T170, h170, X170, e170, W170, st170⟩ := stC X167 hx hZ e167 Ar169 (j := (1 : Int32)) hin170 (g := (mkF m 40 lv165 [(.int (nar .char (((p1).toUInt32 >>> ((8 : Int32) &&& 31).toUInt32).toInt32 &&& (255 : Int32)))), (.int 1), (.ref b163)])) rfl rfl (D at_40)
  have N170 := Fr.snoc X170 N167 (by omega)
  have sz171 := own_wr_le W170
  have K171 := K168.wr W170 (Or.inr (by omega))
  have O171 := O168.wr W170 (by omega)
  have R171 := CHr.wr W170 (Safe.arv hZ.alike V167 (by decide)) CH168
  have CH171 := R171.1
  have V170 : Arv Z h170 b163 k163 .char (3 : Int32) [(.int (nar .char (nar .char (p1 &&& (255 : Int32))))), (.int (nar .char (nar .char (((p1).toUInt32 >>> ((8 : Int32) &&& 31).toUInt32).toInt32 &&& (255 : Int32))))), (.int 0)] (.int 0) := Arv.set Ar169 q169 S169 N169' H169 G169 (fits_nar_char _) W170 1 rfl (Nat.le_of_ble_eq_true rfl)
  refine oo (S' := T170.setTop (mkF m 41 lv165 [])) st170 ?_
  refine oo (S' := T170.setTop (mkF m 58 lv165 [(.int (nar .char (((p1).toUInt32 >>> ((16 : Int32) &&& 31).toUInt32).toInt32 &&& (255 : Int32)))), (.int 2), (.ref b163)])) (fun _ kK => XS.iloadN X170.here hx rfl (D at_41) rfl (XS.iconst X170.here hx rfl (D at_42) (XS.icmpNo X170.here hx rfl (D at_43) rfl (tlt ((by decide : (2 : Int32) < (3 : Int32)))).2.2.2 (XS.aload X170.here hx rfl (D at_46) rfl rfl (XS.iconst X170.here hx rfl (D at_48) (XS.iloadN X170.here hx rfl (D at_49) rfl (XS.bipush X170.here hx rfl (D at_50) (XS.iushr X170.here hx rfl (D at_52) rfl (XS.sipush X170.here hx rfl (D at_53) (XS.iand X170.here hx rfl (D at_56) rfl (XS.i2c X170.here hx rfl (D at_57) rfl kK))))))))))) ?_
  obtain ⟨cl172, Ar172, q172, S172, N172', H172, G172⟩ := id V170
  have hin173 : ¬ ((2 : Int32) < 0 ∨ cl172.slots.size ≤ ((2 : Int32)).toNatClampNeg) := inb_of S172 ⟨by decide, by decide⟩
  obtain ⟨T173, h173, X173, e173, W173, st173⟩ := stC X170 hx hZ e170 Ar172 (j := (2 : Int32)) hin173 (g := (mkF m 58 lv165 [(.int (nar .char (((p1).toUInt32 >>> ((16 : Int32) &&& 31).toUInt32).toInt32 &&& (255 : Int32)))), (.int 2), (.ref b163)])) rfl rfl (D at_58)
  have N173 := Fr.snoc X173 N170 (by omega)
  have sz174 := own_wr_le W173
  have K174 := K171.wr W173 (Or.inr (by omega))
  have O174 := O171.wr W173 (by omega)
  have R174 := CHr.wr W173 (Safe.arv hZ.alike V170 (by decide)) CH171
  have CH174 := R174.1
  have V173 : Arv Z h173 b163 k163 .char (3 : Int32) [(.int (nar .char (nar .char (p1 &&& (255 : Int32))))), (.int (nar .char (nar .char (((p1).toUInt32 >>> ((8 : Int32) &&& 31).toUInt32).toInt32 &&& (255 : Int32))))), (.int (nar .char (nar .char (((p1).toUInt32 >>> ((16 : Int32) &&& 31).toUInt32).toInt32 &&& (255 : Int32)))))] (.int 0) := Arv.set Ar172 q172 S172 N172' H172 G172 (fits_nar_char _) W173 2 rfl (Nat.le_of_ble_eq_true rfl)
  refine oo (S' := T173.setTop (mkF m 59 lv165 [])) st173 ?_
  obtain ⟨ch0, gc0⟩ : ∃ z, z = (nar .char (p1 &&& (255 : Int32))) := ⟨_, rfl⟩
  have rg0 : ¬ ch0 < (0 : Int32) ∧ ¬ (255 : Int32) < ch0 := by rw [gc0]; exact own_c255 _
  obtain ⟨ch1, gc1⟩ : ∃ z, z = (nar .char (((p1).toUInt32 >>> ((8 : Int32) &&& 31).toUInt32).toInt32 &&& (255 : Int32))) := ⟨_, rfl⟩
  have rg1 : ¬ ch1 < (0 : Int32) ∧ ¬ (255 : Int32) < ch1 := by rw [gc1]; exact own_c255 _
  obtain ⟨ch2, gc2⟩ : ∃ z, z = (nar .char (((p1).toUInt32 >>> ((16 : Int32) &&& 31).toUInt32).toInt32 &&& (255 : Int32))) := ⟨_, rfl⟩
  have rg2 : ¬ ch2 < (0 : Int32) ∧ ¬ (255 : Int32) < ch2 := by rw [gc2]; exact own_c255 _
  have V175 : Arv Z h173 b163 k163 .char (3 : Int32) [(.int ch0), (.int ch1), (.int ch2)] (.int 0) := by have q := V173; rw [own_nar_cc, own_nar_cc, own_nar_cc, ← gc0, ← gc1, ← gc2] at q; exact q
  have hlat := own_al3 rg0 rg1 rg2
  obtain ⟨T176, h176, X176, e176, E176, A176, D176, -, st176⟩ := newO X173 hx hZ hown (w_ G 1 rfl) (w_ G 2 rfl) (w_ G 3 rfl) e173 (g := (mkF m 59 lv165 [])) rfl (D at_59) (by decide) (by decide)
  obtain ⟨b176, g176⟩ : ∃ z, z = Array.size h173 := ⟨_, rfl⟩
  rw [← g176] at A176 D176 st176
  have lt_b176 := lN A176.lt
  have sz177 := E176.1
  have K177 := K174.ext E176
  have O177 := O174.ext E176
  have R177 := CHr.ext E176 CH174
  have CH177 := R177.1
  have Sf176 : Safe Z consts_1 s.vm h176 b176 := Safe.ext E176 CH174 (Safe.new (by omega))
  have F176_value : Fld Z h176 b176 j1 "value" "[B" .null := D176 (Or.inr (w_ G 16 rfl)) (ty := (.array .byte)) (by decide)
  have F176_coder : Fld Z h176 b176 j1 "coder" "B" (.int 0) := D176 (Or.inr (w_ G 17 rfl)) (ty := .byte) (by decide)
  refine oo (S' := T176.setTop (mkF m 62 lv165 [(.ref b176)])) st176 ?_
  refine oo (S' := T176.setTop (mkF m 65 lv165 [(.ref b163), (.ref b176), (.ref b176)])) (fun _ kK => XS.dup X176.here hx rfl (D at_62) rfl rfl (XS.aload X176.here hx rfl (D at_63) rfl rfl kK)) ?_
  have f178 := (V175.ext E176)
  have hws : ∀ d ∈ StrChars.Road.words, d.before a0 Z = true := fun d hd => hw d (own_words d hd)
  have hp179 : ∀ c ∈ ([ch0, ch1, ch2] : List Int32), ¬ c < 0 ∧ ¬ (255 : Int32) < c := hlat
  obtain ⟨_, _, ⟨T180, L180, k180, n180⟩, -, X180, ⟨Lc180, hQ180, l180, y180, z180⟩, st180⟩ := Jvm.Stand.specialBack X176 hx (y := own_m1) rfl hown (mw hZ G 4 rfl) (mw hZ G 5 rfl) (mw hZ G 6 rfl) (by decide) (StrChars.Road.backV (W := 1) hZ hws (kI := 4) (w_ G 2 rfl) (cs := [ch0, ch1, ch2]) (bs := ([ch0, ch1, ch2] : List Int32).map (fun c => c.toInt8.toInt32)) (n := 3) (n0 := n0) (by omega) (by omega) A176 F176_value F176_coder f178 (SCS.ext O177.2) PCS rfl rfl (by decide) (by decide) hp179 rfl (by decide) (by decide)) (g := (mkF m 65 lv165 [(.ref b163), (.ref b176), (.ref b176)])) rfl (by rw [hml]; rfl) (Steps.refl _) (a := b176) (argsL := [(.ref b163)]) (rest := [(.ref b176)]) (lenOf pd_27 rfl) rfl (own_z rfl) (D at_65) (fun _ _ => ⟨rfl, e176, (ol rfl), (ol rfl)⟩)
  dsimp only [Pt.U, Pt.locs, Pt.cells, Pt.slots] at X180 l180 y180 z180 st180 hQ180
  subst l180 y180 z180
  obtain ⟨rfl, N180q, Kq180, r180E, r180C, t180, kb180, u180, w180, x180, r180V, r180A⟩ := hQ180
  have N180 := Fr.app N173 N180q
  have sz181 := Kq180.1
  have K181 := K177.trans Kq180 (own_all1 (Or.inr (by omega)))
  have O181 := O177.keep Kq180 (own_all1 (by omega))
  have R181 := CHr.keep Kq180 (sfS Sf176 sf0) CH177
  have CH181 := R181.1
  have lt_t180 := lN r180A.lt
  refine ot (S' := T180.setTop (mkF m 68 lv165 [(.ref b176)])) st180 ?_
  have V182 : Arv Z T180.heap t180 kb180 .byte (3 : Int32) [(.int (StrChars.lo8 ch0)), (.int (StrChars.lo8 ch1)), (.int (StrChars.lo8 ch2))] (.int 0) := by have q := r180A; exact q
  let lv183 : Array Slot := #[vI p0, vI p1, vI p2, vI 3, vR b163, vR b176, .unset, .unset, .unset, .unset, .unset, .unset, .unset]
  refine oo (S' := T180.setTop (mkF m 70 lv183 [])) (fun _ kK => XS.astore X180.here hx rfl (D at_68) rfl rfl (l' := lv183) rfl kK) ?_
  obtain ⟨T184, h184, X184, e184, E184, A184, D184, -, st184⟩ := newO X180 hx hZ hown (w_ G 22 rfl) (w_ G 23 rfl) (w_ G 24 rfl) rfl (g := (mkF m 70 lv183 [])) rfl (D at_70) (by decide) (by decide)
  obtain ⟨b184, g184⟩ : ∃ z, z = Array.size T180.heap := ⟨_, rfl⟩
  rw [← g184] at A184 D184 st184
  have lt_b184 := lN A184.lt
  have sz185 := E184.1
  have K185 := K181.ext E184
  have O185 := O181.ext E184
  have R185 := CHr.ext E184 CH181
  have CH185 := R185.1
  have Sf184 : Safe Z consts_1 s.vm h184 b184 := Safe.ext E184 CH181 (Safe.new (by omega))
  have F184_host : Fld Z h184 b184 j3 "host" "Ljava/lang/String;" .null := D184 (Or.inr (w_ G 35 rfl)) (ty := (.object j1)) (by decide)
  have F184_port : Fld Z h184 b184 j3 "port" "I" (.int 0) := D184 (Or.inr (w_ G 37 rfl)) (ty := .int) (by decide)
  refine oo (S' := T184.setTop (mkF m 73 lv183 [(.ref b184)])) st184 ?_
  refine oo (S' := T184.setTop (mkF m 77 lv183 [(.int p2), (.ref b176), (.ref b184), (.ref b184)])) (fun _ kK => XS.dup X184.here hx rfl (D at_73) rfl rfl (XS.aload X184.here hx rfl (D at_74) rfl rfl (XS.iloadN X184.here hx rfl (D at_76) rfl kK))) ?_
  obtain ⟨_, _, ⟨T186, L186, k186, n186⟩, -, X186, ⟨Lc186, hQ186, l186, y186, z186⟩, st186⟩ := Jvm.Stand.specialBack X184 hx (y := own_m33) rfl hown (mw hZ G 25 rfl) (mw hZ G 26 rfl) (mw hZ G 27 rfl) (by decide) (backOf (W := 1) (rmhpi l Z a0 G [] b184 b176 p2 .null (.int 0) h184 n0 O185 A184 F184_host F184_port (by omega)) hZ (w_ G 27 rfl) (w_ G 24 rfl) (by decide) (by decide)) (g := (mkF m 77 lv183 [(.int p2), (.ref b176), (.ref b184), (.ref b184)])) rfl (by rw [hml]; rfl) (Steps.refl _) (a := b184) (argsL := [(.ref b176), (.int p2)]) (rest := [(.ref b184)]) (lenOf pd_28 rfl) rfl (own_z rfl) (D at_77) (fun _ _ => ⟨rfl, e184, (ol rfl), (ol rfl)⟩)
  dsimp only [Pt.U, Pt.locs, Pt.cells, Pt.slots] at X186 l186 y186 z186 st186 hQ186
  subst l186 y186 z186
  obtain ⟨rfl, N186q, Kq186, r186_0, r186_1, r186_2⟩ := hQ186
  have N186 := Fr.app N180 N186q
  have sz187 := Kq186.1
  have K187 := K185.trans Kq186 (own_all1 (Or.inr (by omega)))
  have O187 := O185.keep Kq186 (own_all1 (by omega))
  have R187 := CHr.keep Kq186 (sfS (Safe.exa hZ.alike A184 (by decide) (by decide)) sf0) CH185
  have CH187 := R187.1
  have ltr186_0 := lN r186_0.lt
  have ltr186_1 := lN r186_1.lt
  have ltr186_2 := lN r186_2.lt
  refine ot (S' := T186.setTop (mkF m 80 lv183 [(.ref b184)])) st186 ?_
  have f188 := ((r180E.ext E184).keep Kq186)
  have f189 := ((r180V.ext E184).keep Kq186 (own_nin1 (on (by omega))))
  have f190 := ((r180C.ext E184).keep Kq186 (own_nin1 (on (by omega))))
  have f191 := ((V182.ext E184).keep Kq186 (own_nin1 (on (by omega))))
  obtain ⟨cq192, kq192, q192a, q192b, q192c⟩ := isOf hZ rfl r186_0
  obtain ⟨_, _, ⟨T192, L192, k192, n192⟩, -, X192', Si192, gr192, ⟨Lc192, hQ192, l192, y192, z192, CH192⟩, st192⟩ := X186.virtualBackS hx (y := own_m34) (z := own_m34) hown (mw hZ G 38 rfl) (mw hZ G 39 rfl) (notFace_of_selects (args := #[]) (mw hZ G 41 rfl)) (mw hZ G 41 rfl) (mw hZ G 40 rfl) (by decide) (backOfSH (W := 0) (rmht3 l Z a0 G [] b184 p2 b176 t180 kb180 (.int (StrChars.lo8 ch0)) (.int (StrChars.lo8 ch1)) (.int (StrChars.lo8 ch2)) T186.heap n0 O187 r186_1 r186_2 f188 f189 f190 f191) hZ (w_ G 42 rfl) (w_ G 24 rfl) (by decide) (by decide) (own_EW G) CH187) q192a q192c (g := (mkF m 80 lv183 [(.ref b184)])) rfl (by rw [hml]; rfl) (Steps.refl _) (argsL := []) (rest := []) (lenOf pd_23 rfl) rfl (own_z rfl) (D at_80) (fun _ _ => ⟨rfl, rfl, (ol rfl), (ol rfl)⟩)
  dsimp only [Pt.U, Pt.locs, Pt.cells, Pt.slots] at X192' l192 y192 z192 st192 hQ192 CH192 Si192 gr192
  subst l192 y192 z192
  obtain ⟨X192, Sj192, hZ192, hown192⟩ := rebS Si0 (by omega : _ ≤ Array.size T186.heap) X192' Si192 (by omega) hZ hown
  obtain ⟨x_192, t_192, kb_192, us_192, rfl, N192q, Kq192, r192_0, r192_1, r192_2, r192_3, r192_4⟩ := hQ192
  have N192 := Fr.app N186 N192q
  have sz193 := Kq192.1
  have K193 := K187.trans Kq192 (own_all0 )
  have O193 := O187.keep Kq192 (own_all0 )
  have ltr192_0 := lN r192_0.lt
  have ltr192_1 := lN r192_1.lt
  have ltr192_2 := lN r192_2.lt
  have ltr192_3 := lN r192_3.lt
  refine ot (S' := T192.setTop (mkF m 83 lv183 [(.ref x_192)])) st192 ?_
  let lv194 : Array Slot := #[vI p0, vI p1, vI p2, vI 3, vR b163, vR b176, vR x_192, .unset, .unset, .unset, .unset, .unset, .unset]
  refine oo (S' := T192.setTop (mkF m 86 lv194 [(.int p2)])) (fun _ kK => XS.astore X192.here hx rfl (D at_83) rfl rfl (l' := lv194) rfl (XS.iloadN X192.here hx rfl (D at_85) rfl kK)) ?_
  rcases Decidable.em (p2 < (0 : Int32)) with hc195 | hc195
  ·let lv196 : Array Slot := #[vI p0, vI p1, vI p2, vI 3, vR b163, vR b176, vR x_192, vI 1, .unset, .unset, .unset, .unset, .unset]
   refine oo (S' := T192.setTop (mkF m 98 lv196 [(.long (p2).toInt64)])) (fun _ kK => XS.ifNo X192.here hx rfl (D at_86) rfl ((if0 _ _).trans (tlt (hc195)).2.1) (XS.iconst X192.here hx rfl (D at_89) (XS.goto X192.here hx rfl (pc0 := 90) (pc' := 94) rfl (D at_90) (by decide) (by decide) (XS.istore X192.here hx rfl (D at_94) rfl (l' := lv196) rfl (XS.iloadN X192.here hx rfl (D at_96) rfl (XS.i2l X192.here hx rfl (D at_97) rfl kK)))))) ?_
   obtain ⟨_, _, ⟨T197, L197, k197, n197⟩, -, X197, ⟨Lc197, hQ197, l197, y197, z197⟩, st197⟩ := Jvm.LawKit.callS X192 hx (y := own_m35) hown192 (mw hZ192 G 173 rfl) (mw hZ192 G 174 rfl) (mw hZ192 G 170 rfl) (mw hZ192 G 175 rfl) (by decide) (backOf (W := 0) (rmab l Z a0 G [] (p2).toInt64 T192.heap n0 O193 ) hZ192 (w_ G 175 rfl) (w_ G 170 rfl) (by decide) (by decide)) (g := (mkF m 98 lv196 [(.long (p2).toInt64)])) rfl (by rw [hml]; rfl) (argsL := [(.long (p2).toInt64)]) (rest := []) (lenOf pd_29 rfl) rfl (own_z rfl) (D at_98) (fun _ _ => ⟨rfl, rfl, (ol rfl), (ol rfl)⟩)
   dsimp only [Pt.U, Pt.locs, Pt.cells, Pt.slots] at X197 l197 y197 z197 st197 hQ197
   subst l197 y197 z197
   obtain ⟨rfl, N197q, eh197⟩ := hQ197
   have N197 := Fr.app N192 N197q
   refine oo (S' := T197.setTop (mkF m 101 lv196 [(.long (own_ab (p2).toInt64))])) st197 ?_
   obtain ⟨za, gza⟩ : ∃ z, z = (own_ab (p2).toInt64) := ⟨_, rfl⟩
   rw [← gza]
   have hza : za.toInt = (own_n p2 : Int) := by rw [gza]; exact own_ab_eq p2
   let lv198 : Array Slot := #[vI p0, vI p1, vI p2, vI 3, vR b163, vR b176, vR x_192, vI 1, .val (.long za), .second, .unset, .unset, .unset]
   refine oo (S' := T197.setTop (mkF m 105 lv198 [(.long za)])) (fun _ kK => XS.lstore X197.here hx rfl (D at_101) rfl (l' := lv198) rfl (XS.lload X197.here hx rfl (D at_103) rfl kK)) ?_
   obtain ⟨_, _, ⟨T199, L199, k199, n199⟩, -, X199, ⟨Lc199, hQ199, l199, y199, z199⟩, st199⟩ := Jvm.LawKit.callS X197 hx (y := own_m36) hown192 (mw hZ192 G 176 rfl) (mw hZ192 G 177 rfl) (mw hZ192 G 178 rfl) (mw hZ192 G 179 rfl) (by decide) (backOf (W := 0) (rmdj l Z a0 G [] za T192.heap n0 O193 ) hZ192 (w_ G 179 rfl) (w_ G 178 rfl) (by decide) (by decide)) (g := (mkF m 105 lv198 [(.long za)])) rfl (by rw [hml]; rfl) (argsL := [(.long za)]) (rest := []) (lenOf pd_30 rfl) rfl (own_z rfl) (D at_105) (fun _ _ => ⟨rfl, eh197, (ol rfl), (ol rfl)⟩)
   dsimp only [Pt.U, Pt.locs, Pt.cells, Pt.slots] at X199 l199 y199 z199 st199 hQ199
   subst l199 y199 z199
   obtain ⟨rfl, N199q, eh199⟩ := hQ199
   have N199 := Fr.app N197 N199q
   refine oo (S' := T199.setTop (mkF m 108 lv198 [(.int (own_dj za))])) st199 ?_
   obtain ⟨dd, gdd⟩ : ∃ z, z = (own_dj za) := ⟨_, rfl⟩
   rw [← gdd]
   have hdd : dd = Int32.ofNat (own_nd (own_n p2)) := by rw [gdd]; exact own_dj_eq hza
   let lv200 : Array Slot := #[vI p0, vI p1, vI p2, vI 3, vR b163, vR b176, vR x_192, vI 1, .val (.long za), .second, vI dd, .unset, .unset]
   let lv201 : Array Slot := #[vI p0, vI p1, vI p2, vI 3, vR b163, vR b176, vR x_192, vI 1, .val (.long za), .second, vI dd, vI 1, .unset]
   refine oo (S' := T199.setTop (mkF m 124 lv201 [(.ref x_192)])) (fun _ kK => XS.istore X199.here hx rfl (D at_108) rfl (l' := lv200) rfl (XS.iload X199.here hx rfl (D at_110) rfl (XS.ifNo X199.here hx rfl (D at_112) rfl ((if0 _ _).trans (feq ((by decide : ¬ ((1 : Int32) = (0 : Int32))))).1) (XS.iconst X199.here hx rfl (D at_115) (XS.goto X199.here hx rfl (pc0 := 116) (pc' := 120) rfl (D at_116) (by decide) (by decide) (XS.istore X199.here hx rfl (D at_120) rfl (l' := lv201) rfl (XS.aload X199.here hx rfl (D at_122) rfl rfl kK))))))) ?_
   obtain ⟨cq202, kq202, q202a, q202b, q202c⟩ := isOf hZ192 eh199 r192_0
   obtain ⟨_, _, ⟨T202, L202, k202, n202⟩, -, X202, ⟨Lc202, hQ202, l202, y202, z202⟩, st202⟩ := X199.virtualBack hx (y := own_m6) (z := own_m6) hown192 (mw hZ192 G 181 rfl) (mw hZ192 G 72 rfl) (notFace_of_selects (args := #[]) (mw hZ192 G 74 rfl)) (mw hZ192 G 74 rfl) (mw hZ192 G 73 rfl) (by decide) (backOf (W := 0) (rmln0 l Z a0 G [] x_192 t_192 kb_192 ((4 : Int32) + (own_ssz p2)) us_192 (.int 0) T192.heap n0 O193 r192_0 r192_1 r192_2 r192_3) hZ192 (w_ G 75 rfl) (w_ G 3 rfl) (by decide) (by decide)) q202a q202c (g := (mkF m 124 lv201 [(.ref x_192)])) rfl (by rw [hml]; rfl) (Steps.refl _) (argsL := []) (rest := []) (lenOf pd_7 rfl) rfl (own_z rfl) (D at_124) (fun _ _ => ⟨rfl, eh199, (ol rfl), (ol rfl)⟩)
   dsimp only [Pt.U, Pt.locs, Pt.cells, Pt.slots] at X202 l202 y202 z202 st202 hQ202
   subst l202 y202 z202
   obtain ⟨rfl, N202q, eh202⟩ := hQ202
   have N202 := Fr.app N199 N202q
   refine ot (S' := T202.setTop (mkF m 127 lv201 [(.int ((4 : Int32) + (own_ssz p2)))])) st202 ?_
   refine oo (S' := T202.setTop (mkF m 136 lv201 [(.int ((5 : Int32) + dd)), (.int ((4 : Int32) + (own_ssz p2)))])) (fun _ kK => XS.iloadN X202.here hx rfl (D at_127) rfl (XS.iconst X202.here hx rfl (D at_128) (XS.iadd X202.here hx rfl (D at_129) rfl (XS.iload X202.here hx rfl (D at_130) rfl (XS.iadd X202.here hx rfl (D at_132) rfl (XS.iload X202.here hx rfl (D at_133) rfl (XS.iadd X202.here hx rfl (D at_135) rfl kK))))))) ?_
   have hsg : own_sg p2 = 1 := by simp [own_sg, hc195]
   refine oo (S' := T202.setTop (mkF m 148 lv201 [(.int 0), (.ref x_192)])) (fun _ kK => XS.icmpYes X202.here hx rfl (pc0 := 136) (pc' := 141) rfl (D at_136) rfl (teq ((own_leq (c := 4) hsg hdd))).1 (by decide) (by decide) (XS.iloadN X202.here hx rfl (D at_141) rfl (XS.ifNo X202.here hx rfl (D at_142) rfl ((if0 _ _).trans (tlt ((by decide : (0 : Int32) < (3 : Int32)))).2.2.2) (XS.aload X202.here hx rfl (D at_145) rfl rfl (XS.iconst X202.here hx rfl (D at_147) kK))))) ?_
   obtain ⟨cq203, kq203, q203a, q203b, q203c⟩ := isOf hZ192 eh202 r192_0
   obtain ⟨_, _, ⟨T203, L203, k203, n203⟩, -, X203, ⟨Lc203, hQ203, l203, y203, z203⟩, st203⟩ := X202.virtualBack hx (y := own_m8) (z := own_m8) hown192 (mw hZ192 G 182 rfl) (mw hZ192 G 183 rfl) (notFace_of_selects (args := #[]) (mw hZ192 G 185 rfl)) (mw hZ192 G 185 rfl) (mw hZ192 G 184 rfl) (by decide) (backOf (W := 0) (rmcA0 l Z a0 G [] x_192 t_192 kb_192 ((4 : Int32) + (own_ssz p2)) us_192 (.int 0) (0 : Int32) ch0 T192.heap n0 O193 r192_0 r192_1 r192_2 r192_3 (by decide) (own_jlt p2 (c := 4) (j := 0) (by decide) (by have := own_nd_le (own_n p2); omega)) (r192_4.1 0 (by decide)) rg0) hZ192 (w_ G 186 rfl) (w_ G 3 rfl) (by decide) (by decide)) q203a q203c (g := (mkF m 148 lv201 [(.int 0), (.ref x_192)])) rfl (by rw [hml]; rfl) (Steps.refl _) (argsL := [(.int 0)]) (rest := []) (lenOf pd_25 rfl) rfl (own_z rfl) (D at_148) (fun _ _ => ⟨rfl, eh202, (ol rfl), (ol rfl)⟩)
   dsimp only [Pt.U, Pt.locs, Pt.cells, Pt.slots] at X203 l203 y203 z203 st203 hQ203
   subst l203 y203 z203
   obtain ⟨rfl, N203q, eh203⟩ := hQ203
   have N203 := Fr.app N202 N203q
   refine ot (S' := T203.setTop (mkF m 151 lv201 [(.int ch0)])) st203 ?_
   refine oo (S' := T203.setTop (mkF m 154 lv201 [(.int 0), (.ref b163), (.int ch0)])) (fun _ kK => XS.aload X203.here hx rfl (D at_151) rfl rfl (XS.iconst X203.here hx rfl (D at_153) kK)) ?_
   have f204 := ((((f178.keep Kq180 (own_nin1 (on (by omega)))).ext E184).keep Kq186 (own_nin1 (on (by omega)))).keep Kq192 nin0)
   obtain ⟨cl205, Ar205, q205, S205, N205', H205, G205⟩ := id f204
   have hin206 : ¬ ((0 : Int32) < 0 ∨ cl205.slots.size ≤ ((0 : Int32)).toNatClampNeg) := inb_of S205 ⟨by decide, by decide⟩
   refine oo (S' := T203.setTop (mkF m 155 lv201 [(.int ch0), (.int ch0)])) (fun _ kK => X203.caload hx (j := (0 : Int32)) (v := (.int ch0)) (by rw [eh203]; exact Ar205.1) (State.isArrayOf_alike hZ192.alike Ar205.2.1) Ar205.2.2 hin206 (Has.at H205 hin206 (rfl)) (g := (mkF m 154 lv201 [(.int 0), (.ref b163), (.int ch0)])) rfl rfl (D at_154) _ kK) ?_
   refine oo (S' := T203.setTop (mkF m 168 lv201 [(.int 1), (.ref x_192)])) (fun _ kK => XS.icmpYes X203.here hx rfl (pc0 := 155) (pc' := 160) rfl (D at_155) rfl (teq (rfl)).1 (by decide) (by decide) (XS.iloadN X203.here hx rfl (D at_160) rfl (XS.iconst X203.here hx rfl (D at_161) (XS.icmpNo X203.here hx rfl (D at_162) rfl (tlt ((by decide : (1 : Int32) < (3 : Int32)))).2.2.2 (XS.aload X203.here hx rfl (D at_165) rfl rfl (XS.iconst X203.here hx rfl (D at_167) kK)))))) ?_
   obtain ⟨cq207, kq207, q207a, q207b, q207c⟩ := isOf hZ192 eh203 r192_0
   obtain ⟨_, _, ⟨T207, L207, k207, n207⟩, -, X207, ⟨Lc207, hQ207, l207, y207, z207⟩, st207⟩ := X203.virtualBack hx (y := own_m8) (z := own_m8) hown192 (mw hZ192 G 182 rfl) (mw hZ192 G 183 rfl) (notFace_of_selects (args := #[]) (mw hZ192 G 185 rfl)) (mw hZ192 G 185 rfl) (mw hZ192 G 184 rfl) (by decide) (backOf (W := 0) (rmcA0 l Z a0 G [] x_192 t_192 kb_192 ((4 : Int32) + (own_ssz p2)) us_192 (.int 0) (1 : Int32) ch1 T192.heap n0 O193 r192_0 r192_1 r192_2 r192_3 (by decide) (own_jlt p2 (c := 4) (j := 1) (by decide) (by have := own_nd_le (own_n p2); omega)) (r192_4.1 1 (by decide)) rg1) hZ192 (w_ G 186 rfl) (w_ G 3 rfl) (by decide) (by decide)) q207a q207c (g := (mkF m 168 lv201 [(.int 1), (.ref x_192)])) rfl (by rw [hml]; rfl) (Steps.refl _) (argsL := [(.int 1)]) (rest := []) (lenOf pd_25 rfl) rfl (own_z rfl) (D at_168) (fun _ _ => ⟨rfl, eh203, (ol rfl), (ol rfl)⟩)
   dsimp only [Pt.U, Pt.locs, Pt.cells, Pt.slots] at X207 l207 y207 z207 st207 hQ207
   subst l207 y207 z207
   obtain ⟨rfl, N207q, eh207⟩ := hQ207
   have N207 := Fr.app N203 N207q
   refine ot (S' := T207.setTop (mkF m 171 lv201 [(.int ch1)])) st207 ?_
   refine oo (S' := T207.setTop (mkF m 174 lv201 [(.int 1), (.ref b163), (.int ch1)])) (fun _ kK => XS.aload X207.here hx rfl (D at_171) rfl rfl (XS.iconst X207.here hx rfl (D at_173) kK)) ?_
   obtain ⟨cl208, Ar208, q208, S208, N208', H208, G208⟩ := id f204
   have hin209 : ¬ ((1 : Int32) < 0 ∨ cl208.slots.size ≤ ((1 : Int32)).toNatClampNeg) := inb_of S208 ⟨by decide, by decide⟩
   refine oo (S' := T207.setTop (mkF m 175 lv201 [(.int ch1), (.int ch1)])) (fun _ kK => X207.caload hx (j := (1 : Int32)) (v := (.int ch1)) (by rw [eh207]; exact Ar208.1) (State.isArrayOf_alike hZ192.alike Ar208.2.1) Ar208.2.2 hin209 (Has.at H208 hin209 (rfl)) (g := (mkF m 174 lv201 [(.int 1), (.ref b163), (.int ch1)])) rfl rfl (D at_174) _ kK) ?_
   refine oo (S' := T207.setTop (mkF m 188 lv201 [(.int 2), (.ref x_192)])) (fun _ kK => XS.icmpYes X207.here hx rfl (pc0 := 175) (pc' := 180) rfl (D at_175) rfl (teq (rfl)).1 (by decide) (by decide) (XS.iloadN X207.here hx rfl (D at_180) rfl (XS.iconst X207.here hx rfl (D at_181) (XS.icmpNo X207.here hx rfl (D at_182) rfl (tlt ((by decide : (2 : Int32) < (3 : Int32)))).2.2.2 (XS.aload X207.here hx rfl (D at_185) rfl rfl (XS.iconst X207.here hx rfl (D at_187) kK)))))) ?_
   obtain ⟨cq210, kq210, q210a, q210b, q210c⟩ := isOf hZ192 eh207 r192_0
   obtain ⟨_, _, ⟨T210, L210, k210, n210⟩, -, X210, ⟨Lc210, hQ210, l210, y210, z210⟩, st210⟩ := X207.virtualBack hx (y := own_m8) (z := own_m8) hown192 (mw hZ192 G 182 rfl) (mw hZ192 G 183 rfl) (notFace_of_selects (args := #[]) (mw hZ192 G 185 rfl)) (mw hZ192 G 185 rfl) (mw hZ192 G 184 rfl) (by decide) (backOf (W := 0) (rmcA0 l Z a0 G [] x_192 t_192 kb_192 ((4 : Int32) + (own_ssz p2)) us_192 (.int 0) (2 : Int32) ch2 T192.heap n0 O193 r192_0 r192_1 r192_2 r192_3 (by decide) (own_jlt p2 (c := 4) (j := 2) (by decide) (by have := own_nd_le (own_n p2); omega)) (r192_4.1 2 (by decide)) rg2) hZ192 (w_ G 186 rfl) (w_ G 3 rfl) (by decide) (by decide)) q210a q210c (g := (mkF m 188 lv201 [(.int 2), (.ref x_192)])) rfl (by rw [hml]; rfl) (Steps.refl _) (argsL := [(.int 2)]) (rest := []) (lenOf pd_25 rfl) rfl (own_z rfl) (D at_188) (fun _ _ => ⟨rfl, eh207, (ol rfl), (ol rfl)⟩)
   dsimp only [Pt.U, Pt.locs, Pt.cells, Pt.slots] at X210 l210 y210 z210 st210 hQ210
   subst l210 y210 z210
   obtain ⟨rfl, N210q, eh210⟩ := hQ210
   have N210 := Fr.app N207 N210q
   refine ot (S' := T210.setTop (mkF m 191 lv201 [(.int ch2)])) st210 ?_
   refine oo (S' := T210.setTop (mkF m 194 lv201 [(.int 2), (.ref b163), (.int ch2)])) (fun _ kK => XS.aload X210.here hx rfl (D at_191) rfl rfl (XS.iconst X210.here hx rfl (D at_193) kK)) ?_
   obtain ⟨cl211, Ar211, q211, S211, N211', H211, G211⟩ := id f204
   have hin212 : ¬ ((2 : Int32) < 0 ∨ cl211.slots.size ≤ ((2 : Int32)).toNatClampNeg) := inb_of S211 ⟨by decide, by decide⟩
   refine oo (S' := T210.setTop (mkF m 195 lv201 [(.int ch2), (.int ch2)])) (fun _ kK => X210.caload hx (j := (2 : Int32)) (v := (.int ch2)) (by rw [eh210]; exact Ar211.1) (State.isArrayOf_alike hZ192.alike Ar211.2.1) Ar211.2.2 hin212 (Has.at H211 hin212 (rfl)) (g := (mkF m 194 lv201 [(.int 2), (.ref b163), (.int ch2)])) rfl rfl (D at_194) _ kK) ?_
   refine oo (S' := T210.setTop (mkF m 203 lv201 [(.int 3), (.ref x_192)])) (fun _ kK => XS.icmpYes X210.here hx rfl (pc0 := 195) (pc' := 200) rfl (D at_195) rfl (teq (rfl)).1 (by decide) (by decide) (XS.aload X210.here hx rfl (D at_200) rfl rfl (XS.iloadN X210.here hx rfl (D at_202) rfl kK))) ?_
   obtain ⟨cq213, kq213, q213a, q213b, q213c⟩ := isOf hZ192 eh210 r192_0
   obtain ⟨_, _, ⟨T213, L213, k213, n213⟩, -, X213, ⟨Lc213, hQ213, l213, y213, z213⟩, st213⟩ := X210.virtualBack hx (y := own_m8) (z := own_m8) hown192 (mw hZ192 G 182 rfl) (mw hZ192 G 183 rfl) (notFace_of_selects (args := #[]) (mw hZ192 G 185 rfl)) (mw hZ192 G 185 rfl) (mw hZ192 G 184 rfl) (by decide) (backOf (W := 0) (rmcA0 l Z a0 G [] x_192 t_192 kb_192 ((4 : Int32) + (own_ssz p2)) us_192 (.int 0) (3 : Int32) (58 : Int32) T192.heap n0 O193 r192_0 r192_1 r192_2 r192_3 (by decide) (own_jlt p2 (c := 4) (j := 3) (by decide) (by have := own_nd_le (own_n p2); omega)) ((r192_4.1 3 (by decide)).trans own_l58) (by decide)) hZ192 (w_ G 186 rfl) (w_ G 3 rfl) (by decide) (by decide)) q213a q213c (g := (mkF m 203 lv201 [(.int 3), (.ref x_192)])) rfl (by rw [hml]; rfl) (Steps.refl _) (argsL := [(.int 3)]) (rest := []) (lenOf pd_25 rfl) rfl (own_z rfl) (D at_203) (fun _ _ => ⟨rfl, eh210, (ol rfl), (ol rfl)⟩)
   dsimp only [Pt.U, Pt.locs, Pt.cells, Pt.slots] at X213 l213 y213 z213 st213 hQ213
   subst l213 y213 z213
   obtain ⟨rfl, N213q, eh213⟩ := hQ213
   have N213 := Fr.app N210 N213q
   refine ot (S' := T213.setTop (mkF m 206 lv201 [(.int 58)])) st213 ?_
   refine oo (S' := T213.setTop (mkF m 223 lv201 [(.int 4), (.ref x_192)])) (fun _ kK => XS.bipush X213.here hx rfl (D at_206) (XS.icmpYes X213.here hx rfl (pc0 := 208) (pc' := 213) rfl (D at_208) rfl (teq ((by decide : (58 : Int32) = (58 : Int32)))).1 (by decide) (by decide) (XS.iload X213.here hx rfl (D at_213) rfl (XS.ifNo X213.here hx rfl (D at_215) rfl ((if0 _ _).trans (feq ((by decide : ¬ ((1 : Int32) = (0 : Int32))))).1) (XS.aload X213.here hx rfl (D at_218) rfl rfl (XS.iloadN X213.here hx rfl (D at_220) rfl (XS.iconst X213.here hx rfl (D at_221) (XS.iadd X213.here hx rfl (D at_222) rfl kK)))))))) ?_
   obtain ⟨cq214, kq214, q214a, q214b, q214c⟩ := isOf hZ192 eh213 r192_0
   obtain ⟨_, _, ⟨T214, L214, k214, n214⟩, -, X214, ⟨Lc214, hQ214, l214, y214, z214⟩, st214⟩ := X213.virtualBack hx (y := own_m8) (z := own_m8) hown192 (mw hZ192 G 182 rfl) (mw hZ192 G 183 rfl) (notFace_of_selects (args := #[]) (mw hZ192 G 185 rfl)) (mw hZ192 G 185 rfl) (mw hZ192 G 184 rfl) (by decide) (backOf (W := 0) (rmcA0 l Z a0 G [] x_192 t_192 kb_192 ((4 : Int32) + (own_ssz p2)) us_192 (.int 0) (4 : Int32) (45 : Int32) T192.heap n0 O193 r192_0 r192_1 r192_2 r192_3 (by decide) (own_jlt p2 (c := 4) (j := 4) (by decide) (by have := own_nd_le (own_n p2); omega)) ((r192_4.2.1 hc195).trans own_l45) (by decide)) hZ192 (w_ G 186 rfl) (w_ G 3 rfl) (by decide) (by decide)) q214a q214c (g := (mkF m 223 lv201 [(.int 4), (.ref x_192)])) rfl (by rw [hml]; rfl) (Steps.refl _) (argsL := [(.int 4)]) (rest := []) (lenOf pd_25 rfl) rfl (own_z rfl) (D at_223) (fun _ _ => ⟨rfl, eh213, (ol rfl), (ol rfl)⟩)
   dsimp only [Pt.U, Pt.locs, Pt.cells, Pt.slots] at X214 l214 y214 z214 st214 hQ214
   subst l214 y214 z214
   obtain ⟨rfl, N214q, eh214⟩ := hQ214
   have N214 := Fr.app N213 N214q
   refine ot (S' := T214.setTop (mkF m 226 lv201 [(.int 45)])) st214 ?_
   let lv215 : Array Slot := #[vI p0, vI p1, vI p2, vI 3, vR b163, vR b176, vR x_192, vI 1, .val (.long za), .second, vI dd, vI 1, vI 5]
   refine oo (S' := T214.setTop (mkF m 241 lv215 [])) (fun _ kK => XS.bipush X214.here hx rfl (D at_226) (XS.icmpYes X214.here hx rfl (pc0 := 228) (pc' := 233) rfl (D at_228) rfl (teq ((by decide : (45 : Int32) = (45 : Int32)))).1 (by decide) (by decide) (XS.iloadN X214.here hx rfl (D at_233) rfl (XS.iconst X214.here hx rfl (D at_234) (XS.iadd X214.here hx rfl (D at_235) rfl (XS.iload X214.here hx rfl (D at_236) rfl (XS.iadd X214.here hx rfl (D at_238) rfl (XS.istore X214.here hx rfl (D at_239) rfl (l' := lv215) rfl kK)))))))) ?_
   exact sfk l Z a0 G p0 p1 p2 h0 n0 O0  Bd hml0 hZ Sj192 hZ192 hown192 (X214.more (by decide) (by decide)) T192.heap eh214 K193 O193 N214 (by omega) (by omega) x_192 t_192 kb_192 ((4 : Int32) + (own_ssz p2)) us_192 (5 : Int32) dd za (3 : Int32) b163 b176 (1 : Int32) (1 : Int32) r192_0 r192_1 r192_2 r192_3 (own_H (c := 4) r192_4 (by decide) hsg hdd hza rfl rfl)
  ·let lv216 : Array Slot := #[vI p0, vI p1, vI p2, vI 3, vR b163, vR b176, vR x_192, vI 0, .unset, .unset, .unset, .unset, .unset]
   refine oo (S' := T192.setTop (mkF m 98 lv216 [(.long (p2).toInt64)])) (fun _ kK => XS.ifYes X192.here hx rfl (pc0 := 86) (pc' := 93) rfl (D at_86) rfl ((if0 _ _).trans (flt (hc195)).2.1) (by decide) (by decide) (XS.iconst X192.here hx rfl (D at_93) (XS.istore X192.here hx rfl (D at_94) rfl (l' := lv216) rfl (XS.iloadN X192.here hx rfl (D at_96) rfl (XS.i2l X192.here hx rfl (D at_97) rfl kK))))) ?_
   obtain ⟨_, _, ⟨T217, L217, k217, n217⟩, -, X217, ⟨Lc217, hQ217, l217, y217, z217⟩, st217⟩ := Jvm.LawKit.callS X192 hx (y := own_m35) hown192 (mw hZ192 G 173 rfl) (mw hZ192 G 174 rfl) (mw hZ192 G 170 rfl) (mw hZ192 G 175 rfl) (by decide) (backOf (W := 0) (rmab l Z a0 G [] (p2).toInt64 T192.heap n0 O193 ) hZ192 (w_ G 175 rfl) (w_ G 170 rfl) (by decide) (by decide)) (g := (mkF m 98 lv216 [(.long (p2).toInt64)])) rfl (by rw [hml]; rfl) (argsL := [(.long (p2).toInt64)]) (rest := []) (lenOf pd_29 rfl) rfl (own_z rfl) (D at_98) (fun _ _ => ⟨rfl, rfl, (ol rfl), (ol rfl)⟩)
   dsimp only [Pt.U, Pt.locs, Pt.cells, Pt.slots] at X217 l217 y217 z217 st217 hQ217
   subst l217 y217 z217
   obtain ⟨rfl, N217q, eh217⟩ := hQ217
   have N217 := Fr.app N192 N217q
   refine oo (S' := T217.setTop (mkF m 101 lv216 [(.long (own_ab (p2).toInt64))])) st217 ?_
   obtain ⟨za, gza⟩ : ∃ z, z = (own_ab (p2).toInt64) := ⟨_, rfl⟩
   rw [← gza]
   have hza : za.toInt = (own_n p2 : Int) := by rw [gza]; exact own_ab_eq p2
   let lv218 : Array Slot := #[vI p0, vI p1, vI p2, vI 3, vR b163, vR b176, vR x_192, vI 0, .val (.long za), .second, .unset, .unset, .unset]
   refine oo (S' := T217.setTop (mkF m 105 lv218 [(.long za)])) (fun _ kK => XS.lstore X217.here hx rfl (D at_101) rfl (l' := lv218) rfl (XS.lload X217.here hx rfl (D at_103) rfl kK)) ?_
   obtain ⟨_, _, ⟨T219, L219, k219, n219⟩, -, X219, ⟨Lc219, hQ219, l219, y219, z219⟩, st219⟩ := Jvm.LawKit.callS X217 hx (y := own_m36) hown192 (mw hZ192 G 176 rfl) (mw hZ192 G 177 rfl) (mw hZ192 G 178 rfl) (mw hZ192 G 179 rfl) (by decide) (backOf (W := 0) (rmdj l Z a0 G [] za T192.heap n0 O193 ) hZ192 (w_ G 179 rfl) (w_ G 178 rfl) (by decide) (by decide)) (g := (mkF m 105 lv218 [(.long za)])) rfl (by rw [hml]; rfl) (argsL := [(.long za)]) (rest := []) (lenOf pd_30 rfl) rfl (own_z rfl) (D at_105) (fun _ _ => ⟨rfl, eh217, (ol rfl), (ol rfl)⟩)
   dsimp only [Pt.U, Pt.locs, Pt.cells, Pt.slots] at X219 l219 y219 z219 st219 hQ219
   subst l219 y219 z219
   obtain ⟨rfl, N219q, eh219⟩ := hQ219
   have N219 := Fr.app N217 N219q
   refine oo (S' := T219.setTop (mkF m 108 lv218 [(.int (own_dj za))])) st219 ?_
   obtain ⟨dd, gdd⟩ : ∃ z, z = (own_dj za) := ⟨_, rfl⟩
   rw [← gdd]
   have hdd : dd = Int32.ofNat (own_nd (own_n p2)) := by rw [gdd]; exact own_dj_eq hza
   let lv220 : Array Slot := #[vI p0, vI p1, vI p2, vI 3, vR b163, vR b176, vR x_192, vI 0, .val (.long za), .second, vI dd, .unset, .unset]
   let lv221 : Array Slot := #[vI p0, vI p1, vI p2, vI 3, vR b163, vR b176, vR x_192, vI 0, .val (.long za), .second, vI dd, vI 0, .unset]
   refine oo (S' := T219.setTop (mkF m 124 lv221 [(.ref x_192)])) (fun _ kK => XS.istore X219.here hx rfl (D at_108) rfl (l' := lv220) rfl (XS.iload X219.here hx rfl (D at_110) rfl (XS.ifYes X219.here hx rfl (pc0 := 112) (pc' := 119) rfl (D at_112) rfl ((if0 _ _).trans (teq ((by decide : (0 : Int32) = (0 : Int32)))).1) (by decide) (by decide) (XS.iconst X219.here hx rfl (D at_119) (XS.istore X219.here hx rfl (D at_120) rfl (l' := lv221) rfl (XS.aload X219.here hx rfl (D at_122) rfl rfl kK)))))) ?_
   obtain ⟨cq222, kq222, q222a, q222b, q222c⟩ := isOf hZ192 eh219 r192_0
   obtain ⟨_, _, ⟨T222, L222, k222, n222⟩, -, X222, ⟨Lc222, hQ222, l222, y222, z222⟩, st222⟩ := X219.virtualBack hx (y := own_m6) (z := own_m6) hown192 (mw hZ192 G 181 rfl) (mw hZ192 G 72 rfl) (notFace_of_selects (args := #[]) (mw hZ192 G 74 rfl)) (mw hZ192 G 74 rfl) (mw hZ192 G 73 rfl) (by decide) (backOf (W := 0) (rmln0 l Z a0 G [] x_192 t_192 kb_192 ((4 : Int32) + (own_ssz p2)) us_192 (.int 0) T192.heap n0 O193 r192_0 r192_1 r192_2 r192_3) hZ192 (w_ G 75 rfl) (w_ G 3 rfl) (by decide) (by decide)) q222a q222c (g := (mkF m 124 lv221 [(.ref x_192)])) rfl (by rw [hml]; rfl) (Steps.refl _) (argsL := []) (rest := []) (lenOf pd_7 rfl) rfl (own_z rfl) (D at_124) (fun _ _ => ⟨rfl, eh219, (ol rfl), (ol rfl)⟩)
   dsimp only [Pt.U, Pt.locs, Pt.cells, Pt.slots] at X222 l222 y222 z222 st222 hQ222
   subst l222 y222 z222
   obtain ⟨rfl, N222q, eh222⟩ := hQ222
   have N222 := Fr.app N219 N222q
   refine ot (S' := T222.setTop (mkF m 127 lv221 [(.int ((4 : Int32) + (own_ssz p2)))])) st222 ?_
   refine oo (S' := T222.setTop (mkF m 136 lv221 [(.int ((4 : Int32) + dd)), (.int ((4 : Int32) + (own_ssz p2)))])) (fun _ kK => XS.iloadN X222.here hx rfl (D at_127) rfl (XS.iconst X222.here hx rfl (D at_128) (XS.iadd X222.here hx rfl (D at_129) rfl (XS.iload X222.here hx rfl (D at_130) rfl (XS.iadd X222.here hx rfl (D at_132) rfl (XS.iload X222.here hx rfl (D at_133) rfl (XS.iadd X222.here hx rfl (D at_135) rfl kK))))))) ?_
   have hsg : own_sg p2 = 0 := by simp [own_sg, hc195]
   refine oo (S' := T222.setTop (mkF m 148 lv221 [(.int 0), (.ref x_192)])) (fun _ kK => XS.icmpYes X222.here hx rfl (pc0 := 136) (pc' := 141) rfl (D at_136) rfl (teq ((own_leq (c := 4) hsg hdd))).1 (by decide) (by decide) (XS.iloadN X222.here hx rfl (D at_141) rfl (XS.ifNo X222.here hx rfl (D at_142) rfl ((if0 _ _).trans (tlt ((by decide : (0 : Int32) < (3 : Int32)))).2.2.2) (XS.aload X222.here hx rfl (D at_145) rfl rfl (XS.iconst X222.here hx rfl (D at_147) kK))))) ?_
   obtain ⟨cq223, kq223, q223a, q223b, q223c⟩ := isOf hZ192 eh222 r192_0
   obtain ⟨_, _, ⟨T223, L223, k223, n223⟩, -, X223, ⟨Lc223, hQ223, l223, y223, z223⟩, st223⟩ := X222.virtualBack hx (y := own_m8) (z := own_m8) hown192 (mw hZ192 G 182 rfl) (mw hZ192 G 183 rfl) (notFace_of_selects (args := #[]) (mw hZ192 G 185 rfl)) (mw hZ192 G 185 rfl) (mw hZ192 G 184 rfl) (by decide) (backOf (W := 0) (rmcA0 l Z a0 G [] x_192 t_192 kb_192 ((4 : Int32) + (own_ssz p2)) us_192 (.int 0) (0 : Int32) ch0 T192.heap n0 O193 r192_0 r192_1 r192_2 r192_3 (by decide) (own_jlt p2 (c := 4) (j := 0) (by decide) (by have := own_nd_le (own_n p2); omega)) (r192_4.1 0 (by decide)) rg0) hZ192 (w_ G 186 rfl) (w_ G 3 rfl) (by decide) (by decide)) q223a q223c (g := (mkF m 148 lv221 [(.int 0), (.ref x_192)])) rfl (by rw [hml]; rfl) (Steps.refl _) (argsL := [(.int 0)]) (rest := []) (lenOf pd_25 rfl) rfl (own_z rfl) (D at_148) (fun _ _ => ⟨rfl, eh222, (ol rfl), (ol rfl)⟩)
   dsimp only [Pt.U, Pt.locs, Pt.cells, Pt.slots] at X223 l223 y223 z223 st223 hQ223
   subst l223 y223 z223
   obtain ⟨rfl, N223q, eh223⟩ := hQ223
   have N223 := Fr.app N222 N223q
   refine ot (S' := T223.setTop (mkF m 151 lv221 [(.int ch0)])) st223 ?_
   refine oo (S' := T223.setTop (mkF m 154 lv221 [(.int 0), (.ref b163), (.int ch0)])) (fun _ kK => XS.aload X223.here hx rfl (D at_151) rfl rfl (XS.iconst X223.here hx rfl (D at_153) kK)) ?_
   have f224 := ((((f178.keep Kq180 (own_nin1 (on (by omega)))).ext E184).keep Kq186 (own_nin1 (on (by omega)))).keep Kq192 nin0)
   obtain ⟨cl225, Ar225, q225, S225, N225', H225, G225⟩ := id f224
   have hin226 : ¬ ((0 : Int32) < 0 ∨ cl225.slots.size ≤ ((0 : Int32)).toNatClampNeg) := inb_of S225 ⟨by decide, by decide⟩
   refine oo (S' := T223.setTop (mkF m 155 lv221 [(.int ch0), (.int ch0)])) (fun _ kK => X223.caload hx (j := (0 : Int32)) (v := (.int ch0)) (by rw [eh223]; exact Ar225.1) (State.isArrayOf_alike hZ192.alike Ar225.2.1) Ar225.2.2 hin226 (Has.at H225 hin226 (rfl)) (g := (mkF m 154 lv221 [(.int 0), (.ref b163), (.int ch0)])) rfl rfl (D at_154) _ kK) ?_
   refine oo (S' := T223.setTop (mkF m 168 lv221 [(.int 1), (.ref x_192)])) (fun _ kK => XS.icmpYes X223.here hx rfl (pc0 := 155) (pc' := 160) rfl (D at_155) rfl (teq (rfl)).1 (by decide) (by decide) (XS.iloadN X223.here hx rfl (D at_160) rfl (XS.iconst X223.here hx rfl (D at_161) (XS.icmpNo X223.here hx rfl (D at_162) rfl (tlt ((by decide : (1 : Int32) < (3 : Int32)))).2.2.2 (XS.aload X223.here hx rfl (D at_165) rfl rfl (XS.iconst X223.here hx rfl (D at_167) kK)))))) ?_
   obtain ⟨cq227, kq227, q227a, q227b, q227c⟩ := isOf hZ192 eh223 r192_0
   obtain ⟨_, _, ⟨T227, L227, k227, n227⟩, -, X227, ⟨Lc227, hQ227, l227, y227, z227⟩, st227⟩ := X223.virtualBack hx (y := own_m8) (z := own_m8) hown192 (mw hZ192 G 182 rfl) (mw hZ192 G 183 rfl) (notFace_of_selects (args := #[]) (mw hZ192 G 185 rfl)) (mw hZ192 G 185 rfl) (mw hZ192 G 184 rfl) (by decide) (backOf (W := 0) (rmcA0 l Z a0 G [] x_192 t_192 kb_192 ((4 : Int32) + (own_ssz p2)) us_192 (.int 0) (1 : Int32) ch1 T192.heap n0 O193 r192_0 r192_1 r192_2 r192_3 (by decide) (own_jlt p2 (c := 4) (j := 1) (by decide) (by have := own_nd_le (own_n p2); omega)) (r192_4.1 1 (by decide)) rg1) hZ192 (w_ G 186 rfl) (w_ G 3 rfl) (by decide) (by decide)) q227a q227c (g := (mkF m 168 lv221 [(.int 1), (.ref x_192)])) rfl (by rw [hml]; rfl) (Steps.refl _) (argsL := [(.int 1)]) (rest := []) (lenOf pd_25 rfl) rfl (own_z rfl) (D at_168) (fun _ _ => ⟨rfl, eh223, (ol rfl), (ol rfl)⟩)
   dsimp only [Pt.U, Pt.locs, Pt.cells, Pt.slots] at X227 l227 y227 z227 st227 hQ227
   subst l227 y227 z227
   obtain ⟨rfl, N227q, eh227⟩ := hQ227
   have N227 := Fr.app N223 N227q
   refine ot (S' := T227.setTop (mkF m 171 lv221 [(.int ch1)])) st227 ?_
   refine oo (S' := T227.setTop (mkF m 174 lv221 [(.int 1), (.ref b163), (.int ch1)])) (fun _ kK => XS.aload X227.here hx rfl (D at_171) rfl rfl (XS.iconst X227.here hx rfl (D at_173) kK)) ?_
   obtain ⟨cl228, Ar228, q228, S228, N228', H228, G228⟩ := id f224
   have hin229 : ¬ ((1 : Int32) < 0 ∨ cl228.slots.size ≤ ((1 : Int32)).toNatClampNeg) := inb_of S228 ⟨by decide, by decide⟩
   refine oo (S' := T227.setTop (mkF m 175 lv221 [(.int ch1), (.int ch1)])) (fun _ kK => X227.caload hx (j := (1 : Int32)) (v := (.int ch1)) (by rw [eh227]; exact Ar228.1) (State.isArrayOf_alike hZ192.alike Ar228.2.1) Ar228.2.2 hin229 (Has.at H228 hin229 (rfl)) (g := (mkF m 174 lv221 [(.int 1), (.ref b163), (.int ch1)])) rfl rfl (D at_174) _ kK) ?_
   refine oo (S' := T227.setTop (mkF m 188 lv221 [(.int 2), (.ref x_192)])) (fun _ kK => XS.icmpYes X227.here hx rfl (pc0 := 175) (pc' := 180) rfl (D at_175) rfl (teq (rfl)).1 (by decide) (by decide) (XS.iloadN X227.here hx rfl (D at_180) rfl (XS.iconst X227.here hx rfl (D at_181) (XS.icmpNo X227.here hx rfl (D at_182) rfl (tlt ((by decide : (2 : Int32) < (3 : Int32)))).2.2.2 (XS.aload X227.here hx rfl (D at_185) rfl rfl (XS.iconst X227.here hx rfl (D at_187) kK)))))) ?_
   obtain ⟨cq230, kq230, q230a, q230b, q230c⟩ := isOf hZ192 eh227 r192_0
   obtain ⟨_, _, ⟨T230, L230, k230, n230⟩, -, X230, ⟨Lc230, hQ230, l230, y230, z230⟩, st230⟩ := X227.virtualBack hx (y := own_m8) (z := own_m8) hown192 (mw hZ192 G 182 rfl) (mw hZ192 G 183 rfl) (notFace_of_selects (args := #[]) (mw hZ192 G 185 rfl)) (mw hZ192 G 185 rfl) (mw hZ192 G 184 rfl) (by decide) (backOf (W := 0) (rmcA0 l Z a0 G [] x_192 t_192 kb_192 ((4 : Int32) + (own_ssz p2)) us_192 (.int 0) (2 : Int32) ch2 T192.heap n0 O193 r192_0 r192_1 r192_2 r192_3 (by decide) (own_jlt p2 (c := 4) (j := 2) (by decide) (by have := own_nd_le (own_n p2); omega)) (r192_4.1 2 (by decide)) rg2) hZ192 (w_ G 186 rfl) (w_ G 3 rfl) (by decide) (by decide)) q230a q230c (g := (mkF m 188 lv221 [(.int 2), (.ref x_192)])) rfl (by rw [hml]; rfl) (Steps.refl _) (argsL := [(.int 2)]) (rest := []) (lenOf pd_25 rfl) rfl (own_z rfl) (D at_188) (fun _ _ => ⟨rfl, eh227, (ol rfl), (ol rfl)⟩)
   dsimp only [Pt.U, Pt.locs, Pt.cells, Pt.slots] at X230 l230 y230 z230 st230 hQ230
   subst l230 y230 z230
   obtain ⟨rfl, N230q, eh230⟩ := hQ230
   have N230 := Fr.app N227 N230q
   refine ot (S' := T230.setTop (mkF m 191 lv221 [(.int ch2)])) st230 ?_
   refine oo (S' := T230.setTop (mkF m 194 lv221 [(.int 2), (.ref b163), (.int ch2)])) (fun _ kK => XS.aload X230.here hx rfl (D at_191) rfl rfl (XS.iconst X230.here hx rfl (D at_193) kK)) ?_
   obtain ⟨cl231, Ar231, q231, S231, N231', H231, G231⟩ := id f224
   have hin232 : ¬ ((2 : Int32) < 0 ∨ cl231.slots.size ≤ ((2 : Int32)).toNatClampNeg) := inb_of S231 ⟨by decide, by decide⟩
   refine oo (S' := T230.setTop (mkF m 195 lv221 [(.int ch2), (.int ch2)])) (fun _ kK => X230.caload hx (j := (2 : Int32)) (v := (.int ch2)) (by rw [eh230]; exact Ar231.1) (State.isArrayOf_alike hZ192.alike Ar231.2.1) Ar231.2.2 hin232 (Has.at H231 hin232 (rfl)) (g := (mkF m 194 lv221 [(.int 2), (.ref b163), (.int ch2)])) rfl rfl (D at_194) _ kK) ?_
   refine oo (S' := T230.setTop (mkF m 203 lv221 [(.int 3), (.ref x_192)])) (fun _ kK => XS.icmpYes X230.here hx rfl (pc0 := 195) (pc' := 200) rfl (D at_195) rfl (teq (rfl)).1 (by decide) (by decide) (XS.aload X230.here hx rfl (D at_200) rfl rfl (XS.iloadN X230.here hx rfl (D at_202) rfl kK))) ?_
   obtain ⟨cq233, kq233, q233a, q233b, q233c⟩ := isOf hZ192 eh230 r192_0
   obtain ⟨_, _, ⟨T233, L233, k233, n233⟩, -, X233, ⟨Lc233, hQ233, l233, y233, z233⟩, st233⟩ := X230.virtualBack hx (y := own_m8) (z := own_m8) hown192 (mw hZ192 G 182 rfl) (mw hZ192 G 183 rfl) (notFace_of_selects (args := #[]) (mw hZ192 G 185 rfl)) (mw hZ192 G 185 rfl) (mw hZ192 G 184 rfl) (by decide) (backOf (W := 0) (rmcA0 l Z a0 G [] x_192 t_192 kb_192 ((4 : Int32) + (own_ssz p2)) us_192 (.int 0) (3 : Int32) (58 : Int32) T192.heap n0 O193 r192_0 r192_1 r192_2 r192_3 (by decide) (own_jlt p2 (c := 4) (j := 3) (by decide) (by have := own_nd_le (own_n p2); omega)) ((r192_4.1 3 (by decide)).trans own_l58) (by decide)) hZ192 (w_ G 186 rfl) (w_ G 3 rfl) (by decide) (by decide)) q233a q233c (g := (mkF m 203 lv221 [(.int 3), (.ref x_192)])) rfl (by rw [hml]; rfl) (Steps.refl _) (argsL := [(.int 3)]) (rest := []) (lenOf pd_25 rfl) rfl (own_z rfl) (D at_203) (fun _ _ => ⟨rfl, eh230, (ol rfl), (ol rfl)⟩)
   dsimp only [Pt.U, Pt.locs, Pt.cells, Pt.slots] at X233 l233 y233 z233 st233 hQ233
   subst l233 y233 z233
   obtain ⟨rfl, N233q, eh233⟩ := hQ233
   have N233 := Fr.app N230 N233q
   refine ot (S' := T233.setTop (mkF m 206 lv221 [(.int 58)])) st233 ?_
   let lv234 : Array Slot := #[vI p0, vI p1, vI p2, vI 3, vR b163, vR b176, vR x_192, vI 0, .val (.long za), .second, vI dd, vI 0, vI 4]
   refine oo (S' := T233.setTop (mkF m 241 lv234 [])) (fun _ kK => XS.bipush X233.here hx rfl (D at_206) (XS.icmpYes X233.here hx rfl (pc0 := 208) (pc' := 213) rfl (D at_208) rfl (teq ((by decide : (58 : Int32) = (58 : Int32)))).1 (by decide) (by decide) (XS.iload X233.here hx rfl (D at_213) rfl (XS.ifYes X233.here hx rfl (pc0 := 215) (pc' := 233) rfl (D at_215) rfl ((if0 _ _).trans (teq ((by decide : (0 : Int32) = (0 : Int32)))).1) (by decide) (by decide) (XS.iloadN X233.here hx rfl (D at_233) rfl (XS.iconst X233.here hx rfl (D at_234) (XS.iadd X233.here hx rfl (D at_235) rfl (XS.iload X233.here hx rfl (D at_236) rfl (XS.iadd X233.here hx rfl (D at_238) rfl (XS.istore X233.here hx rfl (D at_239) rfl (l' := lv234) rfl kK)))))))))) ?_
   exact sfk l Z a0 G p0 p1 p2 h0 n0 O0  Bd hml0 hZ Sj192 hZ192 hown192 (X233.more (by decide) (by decide)) T192.heap eh233 K193 O193 N233 (by omega) (by omega) x_192 t_192 kb_192 ((4 : Int32) + (own_ssz p2)) us_192 (4 : Int32) dd za (3 : Int32) b163 b176 (0 : Int32) (0 : Int32) r192_0 r192_1 r192_2 r192_3 (own_H (c := 4) r192_4 (by decide) hsg hdd hza rfl rfl)
set_option maxRecDepth 65536 in
set_option maxHeartbeats 40000000 in
theorem comes_1 {Post : Tables → Env → Array Value → State → Outcome → State → Prop} (hpost : ∀ tb e args s v u, (limb_1_1.after args s (.returned v) u = true ∧ limb_1_2.after args s (.returned v) u = true ∧ True) → ReturnedEndW s (.returned v) u (Jvm.fieldLocs frame_1_writes args s ++ Jvm.arrayLocs frame_1_arrays args s ++ Jvm.staticLocs frame_1_statics s) 48 2432 → Post tb e args s (.returned v) u) :
    ArmFor flags0 classFile x code maxLocals ret World_1 tables_1 room_1 Calls_1 rest_1 Pre_1 Post := by
  intro l hfl _ _ p e ha hc hk s m args below hf hA hF happ hP
  obtain ⟨hcalls, hrest, hpre⟩ := hP
  obtain ⟨-, -, -, hnamed, -, -, -, hat⟩ := (Spec.applies_iff hf).mp happ
  obtain ⟨hg, hn⟩ := and_e (Cond.before_iff.mp (show (Jvm.Cond.and given_1 narrow_1).before args s = true from hpre))
  obtain ⟨h1, h2⟩ := and_e hg
  obtain ⟨g0, t0⟩ := and_e h2
  obtain ⟨g1, t1⟩ := and_e t0
  obtain ⟨w0, w1, w2, rfl⟩ : ∃ w0 w1 w2 : Value, args = #[w0, w1, w2] := by
    have hs : args.size = 3 := by simpa [Cond.value, given_1] using h1
    obtain ⟨L⟩ := args
    match L, hs with
    | [w0, w1, w2], _ => exact ⟨w0, w1, w2, rfl⟩
  have hw := fun d (hd : d ∈ tables_1) => atoms_spec (ws := Jvm.Cond.code x code maxLocals ret :: tables_1) hat d (List.mem_cons_of_mem _ hd)
  obtain ⟨hsets, hown0⟩ := atoms_of _ (rest_1_c_eq ▸ (show rest_1_c.before _ s = true from hrest))
  obtain ⟨i0, ei0⟩ := is_v g0
  obtain rfl : w0 = (.int i0) := Option.some.inj ei0
  obtain ⟨i1, ei1⟩ := is_v g1
  obtain rfl : w1 = (.int i1) := Option.some.inj ei1
  obtain ⟨i2, ei2⟩ := is_v t1
  obtain rfl : w2 = (.int i2) := Option.some.inj ei2
  have G : OwnG s #[(.int i0), (.int i1), (.int i2)] := ⟨hw, hsets, fun p hp => hcalls.1 p hp⟩
  obtain ⟨n, o, h1, h2, h3, _, L, rfl, ⟨rfl, N, -⟩, hq⟩ := rmlaw l s _ G tables_1 i0 i1 i2 s.heap s.heap.size (Old.start s) p e ha hc hk s m _ below hf ((Spec.applies_iff_loose hf).mp happ).1 ⟨rfl, State.Warmed39.refl s, rfl, own_CH G⟩ trivial
  refine ⟨n, _, h1, h2, h3, hpost _ _ _ _ _ _ ⟨Cond.after_iff.mpr rfl, Cond.after_iff.mpr (eq_i res_at (Term.int_eval (1)) rfl), trivial⟩ ⟨hq.1, hq.2.1, hq.2.2.1, (hq.2.2.2.sift fun y hy => Or.inr (N y hy)).mono (by decide) (by decide)⟩⟩
theorem main_1_1 : Claimed_1_1 := comes_1 fun _ _ _ _ _ _ h hF => ⟨h.1, hF⟩
theorem main_1_2 : Claimed_1_2 := comes_1 fun _ _ _ _ _ _ h hF => ⟨h.2.1, hF⟩
end Jvm.Pilot.@@N@@
namespace Jvm.Pilot.@@N@@
open Jvm Jvm.ClassFile Sem Op Lib Jvm.Free Jvm.Stand Jvm.Pilot.@@N@@.Jvm.D
/-! MADE BY PROGRAM (witnessworld.py) out of the Statement's table words and the real class files: 31 classes; the members and pool entries that the words name. The judged class is class 1, her method 1. -/
namespace start1
open Jvm.ClassFile
def u (s : String) : CpInfo := .utf8 (stringToUtf16 s)
/-- a pool by its gaps: so many unusable entries, then the entry; so many at the end -/
def gap : Nat → List CpInfo → List CpInfo
  | 0, r => r
  | n + 1, r => .unusable :: gap n r
def poolList (es : List (Nat × CpInfo)) (last : Nat) : List CpInfo := es.foldr (fun e r => gap e.1 (e.2 :: r)) (gap last [])
def pool (es : List (Nat × CpInfo)) (last : Nat) : Array CpInfo := ⟨poolList es last⟩
def fileOf (pool : Array CpInfo) (this : Nat) (attrs : Array Attribute := #[]) (ms : Array MethodInfo := #[]) (fl : Nat := 33) (sup : Nat := 0) (ifs : Array Nat := #[]) (fds : Array FieldInfo := #[]) : ClassFile where
  minorVersion := 0
  majorVersion := 65
  constantPool := pool
  accessFlags := fl
  thisClass := this
  superClass := sup
  interfaces := ifs
  fields := fds
  methods := ms
  attributes := attrs
def plain (name : String) (sup : Option ClassId) : Class where
  name := name
  kind := .ordinary
  loader := none
  accessFlags := 33
  super := sup
  interfaces := #[]
  cf := none
  fields := #[]
  methods := #[]
  instanceTypes := #[]
  staticTypes := #[]
  resolved := #[]
  callSites := []
  init := .initialized
  statics := none
  mirror := none

def pool0 : Array CpInfo := pool [(5, u "<init>"), (0, u "()V"), (1, .class_ 10), (1, u "java/lang/Object")] 113

def k0c0 : Code := { maxStack := 0, maxLocals := 1, code := object_method_1_code, exceptionTable := #[], attributes := #[] }
def k0m0 : Method := { name := "<init>", desc := "()V", sig := { parameters := [], returnType := none }, accessFlags := 1, code := some k0c0 }
/-- java/lang/Object -/
def k0 : Class := { plain "java/lang/Object" none with
  accessFlags := 33
  interfaces := #[]
  cf := some (fileOf pool0 8 #[] #[{ accessFlags := 1, nameIndex := 5, descriptorIndex := 6, attributes := #[] }] 33 0 #[] #[])
  fields := #[]
  methods := #[k0m0]
  instanceTypes := #[]
  staticTypes := #[]
  resolved := Array.replicate 124 none
  statics := none }

def pool1 : Array CpInfo := pool [(2, .class_ 4), (1, u "java/lang/Object"), (0, u "<init>"), (0, u "()V"), (0, .class_ 8), (0, u "java/lang/String"), (0, .methodref 7 10), (0, .nameAndType 5 11), (0, u "([C)V"), (0, .class_ 13), (0, u "com/example/tallystick/tallystick/cli/HostPort"), (0, .methodref 12 15), (0, .nameAndType 5 16), (0, u "(Ljava/lang/String;I)V"), (0, .methodref 12 18), (0, .nameAndType 19 20), (0, u "toString"), (0, u "()Ljava/lang/String;"), (0, .methodref 22 23), (0, .class_ 24), (0, .nameAndType 25 26), (0, u "java/lang/Math"), (0, u "abs"), (0, u "(J)J"), (0, .methodref 28 29), (0, .class_ 30), (0, .nameAndType 31 32), (0, u "com/example/tallystick/tallystick/cli/HostPortToStringPinLaw"), (0, u "digits"), (0, u "(J)I"), (0, .methodref 7 34), (0, .nameAndType 35 36), (0, u "length"), (0, u "()I"), (0, .methodref 7 38), (0, .nameAndType 39 40), (0, u "charAt"), (0, u "(I)C"), (0, .methodref 28 42), (0, .nameAndType 43 44), (0, u "digitOk"), (0, u "(Ljava/lang/String;IJII)Z"), (0, .long 10), (1, .long 100), (1, .long 1000), (1, .long 10000), (1, .long 100000), (1, .long 1000000), (1, .long 10000000), (1, .long 100000000), (1, .long 1000000000), (1, .methodref 28 64), (0, .nameAndType 65 66), (0, u "pow10"), (0, u "(I)J"), (2, u "law"), (0, u "(III)Z")] 5

def k1m0 : Method := { name := "<init>", desc := "()V", sig := { parameters := [], returnType := none }, accessFlags := 1, code := none }
def k1c1 : Code := { maxStack := 6, maxLocals := 13, code := code, exceptionTable := #[], attributes := #[] }
def k1m1 : Method := { name := "law", desc := "(III)Z", sig := { parameters := [.int, .int, .int], returnType := some .boolean }, accessFlags := 9, code := some k1c1 }
def k1c2 : Code := { maxStack := 4, maxLocals := 2, code := method_3_code, exceptionTable := #[], attributes := #[] }
def k1m2 : Method := { name := "digits", desc := "(J)I", sig := { parameters := [.long], returnType := some .int }, accessFlags := 10, code := some k1c2 }
def k1c3 : Code := { maxStack := 5, maxLocals := 2, code := method_4_code, exceptionTable := #[], attributes := #[] }
def k1m3 : Method := { name := "pow10", desc := "(I)J", sig := { parameters := [.int], returnType := some .long }, accessFlags := 10, code := some k1c3 }
def k1c4 : Code := { maxStack := 4, maxLocals := 8, code := method_5_code, exceptionTable := #[], attributes := #[] }
def k1m4 : Method := { name := "digitOk", desc := "(Ljava/lang/String;IJII)Z", sig := { parameters := [(.object "java/lang/String"), .int, .long, .int, .int], returnType := some .boolean }, accessFlags := 10, code := some k1c4 }
/-- com/example/tallystick/tallystick/cli/HostPortToStringPinLaw -/
def k1 : Class := { plain "com/example/tallystick/tallystick/cli/HostPortToStringPinLaw" (some 0) with
  accessFlags := 49
  interfaces := #[]
  cf := some (fileOf pool1 28 #[] #[{ accessFlags := 1, nameIndex := 5, descriptorIndex := 6, attributes := #[] }, { accessFlags := 9, nameIndex := 69, descriptorIndex := 70, attributes := #[] }, { accessFlags := 10, nameIndex := 31, descriptorIndex := 32, attributes := #[] }, { accessFlags := 10, nameIndex := 65, descriptorIndex := 66, attributes := #[] }, { accessFlags := 10, nameIndex := 43, descriptorIndex := 44, attributes := #[] }] 49 2 #[] #[])
  fields := #[]
  methods := #[k1m0, k1m1, k1m2, k1m3, k1m4]
  instanceTypes := #[]
  staticTypes := #[]
  resolved := Array.replicate 76 none
  statics := none }

def pool2 : Array CpInfo := pool [(1, .class_ 2), (0, u "java/io/Serializable"), (0, .class_ 4), (0, u "java/lang/Object")] 2

/-- java/io/Serializable -/
def k2 : Class := { plain "java/io/Serializable" (some 0) with
  accessFlags := 1537
  interfaces := #[]
  cf := some (fileOf pool2 1 #[] #[] 1537 3 #[] #[])
  fields := #[]
  methods := #[]
  instanceTypes := #[]
  staticTypes := #[]
  resolved := Array.replicate 7 none
  statics := none }

def pool3 : Array CpInfo := pool [(1, .class_ 2), (0, u "java/lang/Comparable"), (0, .class_ 4), (0, u "java/lang/Object")] 7

/-- java/lang/Comparable -/
def k3 : Class := { plain "java/lang/Comparable" (some 0) with
  accessFlags := 1537
  interfaces := #[]
  cf := some (fileOf pool3 1 #[] #[] 1537 3 #[] #[])
  fields := #[]
  methods := #[]
  instanceTypes := #[]
  staticTypes := #[]
  resolved := Array.replicate 12 none
  statics := none }

def pool4 : Array CpInfo := pool [(2, .class_ 4), (1, u "java/lang/CharSequence"), (42, .class_ 48), (0, u "java/lang/CharSequence$1CodePointIterator"), (10, .class_ 60), (0, u "java/lang/CharSequence$1CharIterator"), (5, .class_ 67), (0, u "java/lang/Object")] 63

/-- java/lang/CharSequence -/
def k4 : Class := { plain "java/lang/CharSequence" (some 0) with
  accessFlags := 1537
  interfaces := #[]
  cf := some (fileOf pool4 2 #[.nestMembers #[47, 59]] #[] 1537 66 #[] #[])
  fields := #[]
  methods := #[]
  instanceTypes := #[]
  staticTypes := #[]
  resolved := Array.replicate 131 none
  statics := none }

def pool5 : Array CpInfo := pool [(1, .class_ 2), (0, u "java/lang/constant/Constable"), (0, .class_ 4), (0, u "java/lang/Object")] 6

/-- java/lang/constant/Constable -/
def k5 : Class := { plain "java/lang/constant/Constable" (some 0) with
  accessFlags := 1537
  interfaces := #[]
  cf := some (fileOf pool5 1 #[] #[] 1537 3 #[] #[])
  fields := #[]
  methods := #[]
  instanceTypes := #[]
  staticTypes := #[]
  resolved := Array.replicate 11 none
  statics := none }

def pool6 : Array CpInfo := pool [(1, .class_ 2), (0, u "java/lang/constant/ConstantDesc"), (0, .class_ 4), (0, u "java/lang/Object")] 32

/-- java/lang/constant/ConstantDesc -/
def k6 : Class := { plain "java/lang/constant/ConstantDesc" (some 0) with
  accessFlags := 1537
  interfaces := #[]
  cf := some (fileOf pool6 1 #[] #[] 1537 3 #[] #[])
  fields := #[]
  methods := #[]
  instanceTypes := #[]
  staticTypes := #[]
  resolved := Array.replicate 37 none
  statics := none }

def pool7 : Array CpInfo := pool [(1, .methodref 2 3), (0, .class_ 4), (0, .nameAndType 5 6), (0, u "java/lang/Object"), (0, u "<init>"), (0, u "()V"), (0, .string 8), (0, u ""), (0, .fieldref 10 11), (0, .class_ 12), (0, .nameAndType 13 14), (0, u "java/lang/String"), (0, u "value"), (0, u "[B"), (0, .fieldref 10 16), (0, .nameAndType 17 18), (0, u "coder"), (0, u "B"), (2, u "hash"), (0, u "I"), (2, u "hashIsZero"), (0, u "Z"), (0, .methodref 10 28), (0, .nameAndType 5 29), (0, u "([CIILjava/lang/Void;)V"), (8, .fieldref 10 39), (0, .nameAndType 40 26), (0, u "COMPACT_STRINGS"), (1, .class_ 44), (1, u "java/lang/StringUTF16"), (0, u "compress"), (1, .methodref 42 48), (0, .nameAndType 49 50), (0, u "coderFromArrayLen"), (0, u "([BI)B"), (3, .methodref 55 56), (0, .class_ 57), (0, .nameAndType 58 59), (0, u "java/util/Arrays"), (0, u "copyOfRange"), (0, u "([BII)[B"), (47, .class_ 109), (1, u "java/lang/StringLatin1"), (32, u "()Z"), (34, .methodref 42 178), (0, .nameAndType 45 179), (0, u "([CII)[B"), (13, .class_ 195), (1, u "java/lang/System"), (16, .methodref 193 213), (0, .nameAndType 214 215), (0, u "arraycopy"), (0, u "(Ljava/lang/Object;ILjava/lang/Object;II)V"), (118, u "()I"), (0, .methodref 10 336), (0, .nameAndType 17 337), (0, u "()B"), (2, u "()[B"), (22, u "([BI)C"), (27, u "(II)V"), (35, u "(I)C"), (61, .methodref 10 490), (0, .nameAndType 5 491), (0, u "(Ljava/lang/AbstractStringBuilder;Ljava/lang/Void;)V"), (0, .methodref 10 493), (0, .nameAndType 494 142), (0, u "isLatin1"), (0, .methodref 107 496), (0, .nameAndType 497 363), (0, u "charAt"), (3, u "checkIndex"), (4, .nameAndType 507 334), (0, u "length"), (24, u "getBytes"), (16, .methodref 550 506), (0, .class_ 551), (0, u "java/lang/AbstractStringBuilder"), (0, .methodref 550 553), (0, .nameAndType 554 340), (0, u "getValue"), (20, .class_ 576), (0, u "java/lang/CharSequence"), (22, u "CASE_INSENSITIVE_ORDER"), (0, u "Ljava/util/Comparator;"), (220, u "([BIB)V"), (188, u "([C)V"), (36, .methodref 550 493), (5, .fieldref 1054 1055), (0, .class_ 1056), (0, .nameAndType 1057 1058), (0, u "jdk/internal/util/Preconditions"), (0, u "SIOOBE_FORMATTER"), (0, u "Ljava/util/function/BiFunction;"), (0, .methodref 1054 1060), (0, .nameAndType 501 1061), (0, u "(IILjava/util/function/BiFunction;)I"), (39, u "serialPersistentFields"), (0, u "[Ljava/io/ObjectStreamField;"), (0, .class_ 1104), (0, u "java/lang/String$CaseInsensitiveComparator"), (1, .class_ 1107), (0, u "java/io/Serializable"), (0, .class_ 1109), (0, u "java/lang/Comparable"), (0, .class_ 1111), (0, u "java/lang/constant/Constable"), (0, .class_ 1113), (0, u "java/lang/constant/ConstantDesc"), (2, u "serialVersionUID"), (0, u "J"), (3, u "REPL"), (0, u "C"), (2, u "LATIN1"), (1, u "UTF16"), (105, u "(Ljava/lang/StringBuilder;)V")] 217

def k7m0 : Method := { name := "<init>", desc := "()V", sig := { parameters := [], returnType := none }, accessFlags := 1, code := none }
def k7c1 : Code := { maxStack := 5, maxLocals := 2, code := jdk_42_method_3_code, exceptionTable := #[], attributes := #[] }
def k7m1 : Method := { name := "<init>", desc := "([C)V", sig := { parameters := [(.array .char)], returnType := none }, accessFlags := 1, code := some k7c1 }
def k7c2 : Code := { maxStack := 3, maxLocals := 2, code := jdk_42_method_53_code, exceptionTable := #[], attributes := #[] }
def k7m2 : Method := { name := "<init>", desc := "(Ljava/lang/StringBuilder;)V", sig := { parameters := [(.object "java/lang/StringBuilder")], returnType := none }, accessFlags := 1, code := some k7c2 }
def k7c3 : Code := { maxStack := 2, maxLocals := 1, code := jdk_42_method_54_code, exceptionTable := #[], attributes := #[] }
def k7m3 : Method := { name := "length", desc := "()I", sig := { parameters := [], returnType := some .int }, accessFlags := 1, code := some k7c3 }
def k7c4 : Code := { maxStack := 2, maxLocals := 2, code := jdk_42_method_56_code, exceptionTable := #[], attributes := #[] }
def k7m4 : Method := { name := "charAt", desc := "(I)C", sig := { parameters := [.int], returnType := some .char }, accessFlags := 1, code := some k7c4 }
def k7c5 : Code := { maxStack := 5, maxLocals := 4, code := jdk_42_method_147_code, exceptionTable := #[], attributes := #[] }
def k7m5 : Method := { name := "getBytes", desc := "([BIB)V", sig := { parameters := [(.array .byte), .int, .byte], returnType := none }, accessFlags := 0, code := some k7c5 }
def k7c6 : Code := { maxStack := 4, maxLocals := 6, code := jdk_42_method_149_code, exceptionTable := #[], attributes := #[] }
def k7m6 : Method := { name := "<init>", desc := "([CIILjava/lang/Void;)V", sig := { parameters := [(.array .char), .int, .int, (.object "java/lang/Void")], returnType := none }, accessFlags := 2, code := some k7c6 }
def k7c7 : Code := { maxStack := 5, maxLocals := 5, code := jdk_42_method_150_code, exceptionTable := #[], attributes := #[] }
def k7m7 : Method := { name := "<init>", desc := "(Ljava/lang/AbstractStringBuilder;Ljava/lang/Void;)V", sig := { parameters := [(.object "java/lang/AbstractStringBuilder"), (.object "java/lang/Void")], returnType := none }, accessFlags := 0, code := some k7c7 }
def k7c8 : Code := { maxStack := 1, maxLocals := 1, code := jdk_42_method_152_code, exceptionTable := #[], attributes := #[] }
def k7m8 : Method := { name := "coder", desc := "()B", sig := { parameters := [], returnType := some .byte }, accessFlags := 0, code := some k7c8 }
def k7c9 : Code := { maxStack := 1, maxLocals := 1, code := jdk_42_method_154_code, exceptionTable := #[], attributes := #[] }
def k7m9 : Method := { name := "isLatin1", desc := "()Z", sig := { parameters := [], returnType := some .boolean }, accessFlags := 0, code := some k7c9 }
def k7c10 : Code := { maxStack := 3, maxLocals := 2, code := jdk_42_method_155_code, exceptionTable := #[], attributes := #[] }
def k7m10 : Method := { name := "checkIndex", desc := "(II)V", sig := { parameters := [.int, .int], returnType := none }, accessFlags := 8, code := some k7c10 }
/-- java/lang/String -/
def k7 : Class := { plain "java/lang/String" (some 0) with
  accessFlags := 49
  interfaces := #[2, 3, 4, 5, 6]
  cf := some (fileOf pool7 10 #[.nestMembers #[1103]] #[{ accessFlags := 1, nameIndex := 5, descriptorIndex := 6, attributes := #[] }, { accessFlags := 1, nameIndex := 5, descriptorIndex := 1010, attributes := #[] }, { accessFlags := 1, nameIndex := 5, descriptorIndex := 1233, attributes := #[] }, { accessFlags := 1, nameIndex := 507, descriptorIndex := 334, attributes := #[] }, { accessFlags := 1, nameIndex := 497, descriptorIndex := 427, attributes := #[] }, { accessFlags := 0, nameIndex := 532, descriptorIndex := 821, attributes := #[] }, { accessFlags := 2, nameIndex := 5, descriptorIndex := 29, attributes := #[] }, { accessFlags := 0, nameIndex := 5, descriptorIndex := 491, attributes := #[] }, { accessFlags := 0, nameIndex := 17, descriptorIndex := 337, attributes := #[] }, { accessFlags := 0, nameIndex := 494, descriptorIndex := 142, attributes := #[] }, { accessFlags := 8, nameIndex := 501, descriptorIndex := 391, attributes := #[] }] 49 2 #[1106, 1108, 575, 1110, 1112] #[{ accessFlags := 18, nameIndex := 13, descriptorIndex := 14, attributes := #[] }, { accessFlags := 18, nameIndex := 17, descriptorIndex := 18, attributes := #[] }, { accessFlags := 2, nameIndex := 21, descriptorIndex := 22, attributes := #[] }, { accessFlags := 2, nameIndex := 25, descriptorIndex := 26, attributes := #[] }, { accessFlags := 26, nameIndex := 1116, descriptorIndex := 1117, attributes := #[] }, { accessFlags := 24, nameIndex := 40, descriptorIndex := 26, attributes := #[] }, { accessFlags := 26, nameIndex := 1101, descriptorIndex := 1102, attributes := #[] }, { accessFlags := 26, nameIndex := 1121, descriptorIndex := 1122, attributes := #[] }, { accessFlags := 25, nameIndex := 599, descriptorIndex := 600, attributes := #[] }, { accessFlags := 24, nameIndex := 1125, descriptorIndex := 18, attributes := #[] }, { accessFlags := 24, nameIndex := 1127, descriptorIndex := 18, attributes := #[] }])
  fields := #[{ name := "value", type := (.array .byte), accessFlags := 18, slot := 0, constantValue := 0 }, { name := "coder", type := .byte, accessFlags := 18, slot := 1, constantValue := 0 }, { name := "hash", type := .int, accessFlags := 2, slot := 2, constantValue := 0 }, { name := "hashIsZero", type := .boolean, accessFlags := 2, slot := 3, constantValue := 0 }, { name := "serialVersionUID", type := .long, accessFlags := 26, slot := 0, constantValue := 0 }, { name := "COMPACT_STRINGS", type := .boolean, accessFlags := 24, slot := 1, constantValue := 0 }, { name := "serialPersistentFields", type := (.array (.object "java/io/ObjectStreamField")), accessFlags := 26, slot := 2, constantValue := 0 }, { name := "REPL", type := .char, accessFlags := 26, slot := 3, constantValue := 0 }, { name := "CASE_INSENSITIVE_ORDER", type := (.object "java/util/Comparator"), accessFlags := 25, slot := 4, constantValue := 0 }, { name := "LATIN1", type := .byte, accessFlags := 24, slot := 5, constantValue := 0 }, { name := "UTF16", type := .byte, accessFlags := 24, slot := 6, constantValue := 0 }]
  methods := #[k7m0, k7m1, k7m2, k7m3, k7m4, k7m5, k7m6, k7m7, k7m8, k7m9, k7m10]
  instanceTypes := #[(.array .byte), .byte, .int, .boolean]
  staticTypes := #[.long, .boolean, (.array (.object "java/io/ObjectStreamField")), .char, (.object "java/util/Comparator"), .byte, .byte]
  resolved := Array.replicate 1451 none
  statics := some 0 }

def pool8 : Array CpInfo := pool [(1, .methodref 2 3), (0, .class_ 4), (0, .nameAndType 5 6), (0, u "java/lang/Object"), (0, u "<init>"), (0, u "()V"), (0, .class_ 8), (0, u "java/lang/Record")] 13

def k8c0 : Code := { maxStack := 1, maxLocals := 1, code := jdk_30_method_1_code, exceptionTable := #[], attributes := #[] }
def k8m0 : Method := { name := "<init>", desc := "()V", sig := { parameters := [], returnType := none }, accessFlags := 4, code := some k8c0 }
/-- java/lang/Record -/
def k8 : Class := { plain "java/lang/Record" (some 0) with
  accessFlags := 1057
  interfaces := #[]
  cf := some (fileOf pool8 7 #[] #[{ accessFlags := 4, nameIndex := 5, descriptorIndex := 6, attributes := #[] }] 1057 2 #[] #[])
  fields := #[]
  methods := #[k8m0]
  instanceTypes := #[]
  staticTypes := #[]
  resolved := Array.replicate 22 none
  statics := none }

def pool9 : Array CpInfo := pool [(1, .methodref 2 3), (0, .class_ 4), (0, .nameAndType 5 6), (0, u "java/lang/Record"), (0, u "<init>"), (0, u "()V"), (0, .fieldref 8 9), (0, .class_ 10), (0, .nameAndType 11 12), (0, u "com/example/tallystick/tallystick/cli/HostPort"), (0, u "host"), (0, u "Ljava/lang/String;"), (0, .fieldref 8 14), (0, .nameAndType 15 16), (0, u "port"), (0, u "I"), (2, u "FORM"), (0, u "Ljava/util/regex/Pattern;"), (25, .class_ 47), (0, u "java/lang/StringBuilder"), (0, .methodref 46 3), (2, .methodref 46 52), (0, .nameAndType 53 54), (0, u "append"), (0, u "(Ljava/lang/String;)Ljava/lang/StringBuilder;"), (2, .methodref 46 58), (0, .nameAndType 59 60), (0, u "toString"), (0, u "()Ljava/lang/String;"), (5, u "(Ljava/lang/String;I)V"), (24, .string 92), (0, u ":"), (0, .methodref 46 94), (0, .nameAndType 53 95), (0, u "(I)Ljava/lang/StringBuilder;"), (13, u "MAX_PORT")] 33

def k9c0 : Code := { maxStack := 2, maxLocals := 3, code := prog_44_method_1_code, exceptionTable := #[], attributes := #[] }
def k9m0 : Method := { name := "<init>", desc := "(Ljava/lang/String;I)V", sig := { parameters := [(.object "java/lang/String"), .int], returnType := none }, accessFlags := 0, code := some k9c0 }
def k9c1 : Code := { maxStack := 2, maxLocals := 1, code := prog_44_method_6_code, exceptionTable := #[], attributes := #[] }
def k9m1 : Method := { name := "toString", desc := "()Ljava/lang/String;", sig := { parameters := [], returnType := some (.object "java/lang/String") }, accessFlags := 1, code := some k9c1 }
/-- com/example/tallystick/tallystick/cli/HostPort -/
def k9 : Class := { plain "com/example/tallystick/tallystick/cli/HostPort" (some 8) with
  accessFlags := 48
  interfaces := #[]
  cf := some (fileOf pool9 8 #[] #[{ accessFlags := 0, nameIndex := 5, descriptorIndex := 66, attributes := #[] }, { accessFlags := 1, nameIndex := 59, descriptorIndex := 60, attributes := #[] }] 48 2 #[] #[{ accessFlags := 18, nameIndex := 11, descriptorIndex := 12, attributes := #[] }, { accessFlags := 18, nameIndex := 15, descriptorIndex := 16, attributes := #[] }, { accessFlags := 26, nameIndex := 19, descriptorIndex := 20, attributes := #[] }, { accessFlags := 26, nameIndex := 109, descriptorIndex := 16, attributes := #[] }])
  fields := #[{ name := "host", type := (.object "java/lang/String"), accessFlags := 18, slot := 0, constantValue := 0 }, { name := "port", type := .int, accessFlags := 18, slot := 1, constantValue := 0 }, { name := "FORM", type := (.object "java/util/regex/Pattern"), accessFlags := 26, slot := 0, constantValue := 0 }, { name := "MAX_PORT", type := .int, accessFlags := 26, slot := 1, constantValue := 0 }]
  methods := #[k9m0, k9m1]
  instanceTypes := #[(.object "java/lang/String"), .int]
  staticTypes := #[(.object "java/util/regex/Pattern"), .int]
  resolved := Array.replicate 143 none
  statics := none }

def pool10 : Array CpInfo := pool [(1, .class_ 2), (0, u "java/lang/Appendable"), (0, .class_ 4), (0, u "java/lang/Object")] 9

/-- java/lang/Appendable -/
def k10 : Class := { plain "java/lang/Appendable" (some 0) with
  accessFlags := 1537
  interfaces := #[]
  cf := some (fileOf pool10 1 #[] #[] 1537 3 #[] #[])
  fields := #[]
  methods := #[]
  instanceTypes := #[]
  staticTypes := #[]
  resolved := Array.replicate 14 none
  statics := none }

def pool11 : Array CpInfo := pool [(1, .class_ 2), (0, u "java/lang/String"), (0, .methodref 4 5), (0, .class_ 6), (0, .nameAndType 7 8), (0, u "java/lang/Object"), (0, u "<init>"), (0, u "()V"), (1, .class_ 12), (1, u "java/lang/AbstractStringBuilder"), (0, u "EMPTYVALUE"), (0, u "[B"), (0, .fieldref 10 16), (0, .nameAndType 17 14), (0, u "value"), (0, .fieldref 1 19), (0, .nameAndType 20 21), (0, u "COMPACT_STRINGS"), (0, u "Z"), (0, .fieldref 10 23), (0, .nameAndType 24 25), (0, u "coder"), (0, u "B"), (6, .methodref 1 33), (0, .nameAndType 34 35), (0, u "length"), (0, u "()I"), (0, .class_ 37), (0, u "java/lang/Integer"), (2, .methodref 1 41), (0, .nameAndType 24 42), (0, u "()B"), (2, u "append"), (0, u "(Ljava/lang/String;)Ljava/lang/AbstractStringBuilder;"), (1, .class_ 49), (0, u "java/lang/CharSequence"), (19, u "(Ljava/lang/String;)V"), (5, u "maybeLatin1"), (3, .fieldref 10 80), (0, .nameAndType 81 82), (0, u "count"), (0, u "I"), (0, .methodref 10 84), (0, .nameAndType 85 86), (0, u "isLatin1"), (0, u "()Z"), (13, .methodref 10 101), (0, .nameAndType 102 103), (0, u "ensureCapacityInternal"), (0, u "(I)V"), (3, u "(I)I"), (80, u "getChars"), (19, .methodref 10 209), (0, .nameAndType 210 211), (0, u "putStringAt"), (0, u "(ILjava/lang/String;)V"), (5, u "inflateIfNeededFor"), (2, .nameAndType 221 222), (0, u "getBytes"), (0, u "([BIB)V"), (22, .methodref 36 246), (0, .nameAndType 247 107), (0, u "stringSize"), (0, .methodref 36 249), (0, .nameAndType 188 250), (0, u "(II[B)I"), (146, .methodref 10 398), (0, .nameAndType 217 69), (0, .methodref 1 220), (3, u "()[B"), (40, .class_ 445), (0, u "java/lang/Appendable"), (65, u "(I)Ljava/lang/AbstractStringBuilder;"), (40, u "getValue")] 56

def k11m0 : Method := { name := "<init>", desc := "()V", sig := { parameters := [], returnType := none }, accessFlags := 0, code := none }
def k11c1 : Code := { maxStack := 2, maxLocals := 2, code := jdk_68_method_2_code, exceptionTable := #[], attributes := #[] }
def k11m1 : Method := { name := "<init>", desc := "(I)V", sig := { parameters := [.int], returnType := none }, accessFlags := 0, code := some k11c1 }
def k11c2 : Code := { maxStack := 1, maxLocals := 1, code := jdk_68_method_6_code, exceptionTable := #[], attributes := #[] }
def k11m2 : Method := { name := "length", desc := "()I", sig := { parameters := [], returnType := some .int }, accessFlags := 1, code := some k11c2 }
def k11c3 : Code := { maxStack := 4, maxLocals := 3, code := jdk_68_method_9_code, exceptionTable := #[], attributes := #[] }
def k11m3 : Method := { name := "ensureCapacityInternal", desc := "(I)V", sig := { parameters := [.int], returnType := none }, accessFlags := 2, code := some k11c3 }
def k11c4 : Code := { maxStack := 3, maxLocals := 3, code := jdk_68_method_22_code, exceptionTable := #[], attributes := #[] }
def k11m4 : Method := { name := "append", desc := "(Ljava/lang/String;)Ljava/lang/AbstractStringBuilder;", sig := { parameters := [(.object "java/lang/String")], returnType := some (.object "java/lang/AbstractStringBuilder") }, accessFlags := 1, code := some k11c4 }
def k11c5 : Code := { maxStack := 4, maxLocals := 4, code := jdk_68_method_32_code, exceptionTable := #[], attributes := #[] }
def k11m5 : Method := { name := "append", desc := "(I)Ljava/lang/AbstractStringBuilder;", sig := { parameters := [.int], returnType := some (.object "java/lang/AbstractStringBuilder") }, accessFlags := 1, code := some k11c5 }
def k11c6 : Code := { maxStack := 1, maxLocals := 1, code := jdk_68_method_64_code, exceptionTable := #[], attributes := #[] }
def k11m6 : Method := { name := "getValue", desc := "()[B", sig := { parameters := [], returnType := some (.array .byte) }, accessFlags := 16, code := some k11c6 }
def k11c7 : Code := { maxStack := 1, maxLocals := 1, code := jdk_68_method_68_code, exceptionTable := #[], attributes := #[] }
def k11m7 : Method := { name := "isLatin1", desc := "()Z", sig := { parameters := [], returnType := some .boolean }, accessFlags := 16, code := some k11c7 }
def k11c8 : Code := { maxStack := 2, maxLocals := 2, code := jdk_68_method_71_code, exceptionTable := #[], attributes := #[] }
def k11m8 : Method := { name := "inflateIfNeededFor", desc := "(Ljava/lang/String;)V", sig := { parameters := [(.object "java/lang/String")], returnType := none }, accessFlags := 2, code := some k11c8 }
def k11c9 : Code := { maxStack := 4, maxLocals := 3, code := jdk_68_method_73_code, exceptionTable := #[], attributes := #[] }
def k11m9 : Method := { name := "putStringAt", desc := "(ILjava/lang/String;)V", sig := { parameters := [.int, (.object "java/lang/String")], returnType := none }, accessFlags := 2, code := some k11c9 }
/-- java/lang/AbstractStringBuilder -/
def k11 : Class := { plain "java/lang/AbstractStringBuilder" (some 0) with
  accessFlags := 1056
  interfaces := #[10, 4]
  cf := some (fileOf pool11 10 #[] #[{ accessFlags := 0, nameIndex := 7, descriptorIndex := 8, attributes := #[] }, { accessFlags := 0, nameIndex := 7, descriptorIndex := 103, attributes := #[] }, { accessFlags := 1, nameIndex := 34, descriptorIndex := 35, attributes := #[] }, { accessFlags := 2, nameIndex := 102, descriptorIndex := 103, attributes := #[] }, { accessFlags := 1, nameIndex := 45, descriptorIndex := 46, attributes := #[] }, { accessFlags := 1, nameIndex := 45, descriptorIndex := 511, attributes := #[] }, { accessFlags := 16, nameIndex := 552, descriptorIndex := 403, attributes := #[] }, { accessFlags := 16, nameIndex := 85, descriptorIndex := 86, attributes := #[] }, { accessFlags := 2, nameIndex := 217, descriptorIndex := 69, attributes := #[] }, { accessFlags := 2, nameIndex := 210, descriptorIndex := 211, attributes := #[] }] 1056 4 #[444, 48] #[{ accessFlags := 0, nameIndex := 17, descriptorIndex := 14, attributes := #[] }, { accessFlags := 0, nameIndex := 24, descriptorIndex := 25, attributes := #[] }, { accessFlags := 0, nameIndex := 75, descriptorIndex := 21, attributes := #[] }, { accessFlags := 0, nameIndex := 81, descriptorIndex := 82, attributes := #[] }, { accessFlags := 26, nameIndex := 13, descriptorIndex := 14, attributes := #[] }])
  fields := #[{ name := "value", type := (.array .byte), accessFlags := 0, slot := 0, constantValue := 0 }, { name := "coder", type := .byte, accessFlags := 0, slot := 1, constantValue := 0 }, { name := "maybeLatin1", type := .boolean, accessFlags := 0, slot := 2, constantValue := 0 }, { name := "count", type := .int, accessFlags := 0, slot := 3, constantValue := 0 }, { name := "EMPTYVALUE", type := (.array .byte), accessFlags := 26, slot := 0, constantValue := 0 }]
  methods := #[k11m0, k11m1, k11m2, k11m3, k11m4, k11m5, k11m6, k11m7, k11m8, k11m9]
  instanceTypes := #[(.array .byte), .byte, .boolean, .int]
  staticTypes := #[(.array .byte)]
  resolved := Array.replicate 609 none
  statics := none }

def pool12 : Array CpInfo := pool [(1, .methodref 2 3), (0, .class_ 4), (0, .nameAndType 5 6), (0, u "java/lang/AbstractStringBuilder"), (0, u "<init>"), (0, u "(I)V"), (11, .class_ 20), (1, u "java/lang/String"), (3, .class_ 26), (1, u "java/lang/StringBuilder"), (0, u "append"), (0, u "(Ljava/lang/String;)Ljava/lang/StringBuilder;"), (0, .methodref 2 30), (0, .nameAndType 27 31), (0, u "(Ljava/lang/String;)Ljava/lang/AbstractStringBuilder;"), (21, .methodref 2 54), (0, .nameAndType 27 55), (0, u "(I)Ljava/lang/AbstractStringBuilder;"), (81, .methodref 18 138), (0, .nameAndType 5 139), (0, u "(Ljava/lang/StringBuilder;)V"), (5, u "()V"), (10, u "()I"), (111, u "(I)Ljava/lang/StringBuilder;"), (74, .methodref 2 344), (0, .nameAndType 345 156), (0, u "length"), (3, .class_ 350), (0, u "java/lang/Appendable"), (0, .class_ 352), (0, u "java/io/Serializable"), (0, .class_ 354), (0, u "java/lang/Comparable"), (0, .class_ 356), (0, u "java/lang/CharSequence"), (0, u "serialVersionUID"), (0, u "J"), (40, u "toString"), (0, u "()Ljava/lang/String;")] 21

def k12c0 : Code := { maxStack := 2, maxLocals := 1, code := jdk_67_method_1_code, exceptionTable := #[], attributes := #[] }
def k12m0 : Method := { name := "<init>", desc := "()V", sig := { parameters := [], returnType := none }, accessFlags := 1, code := some k12c0 }
def k12c1 : Code := { maxStack := 2, maxLocals := 2, code := jdk_67_method_7_code, exceptionTable := #[], attributes := #[] }
def k12m1 : Method := { name := "append", desc := "(Ljava/lang/String;)Ljava/lang/StringBuilder;", sig := { parameters := [(.object "java/lang/String")], returnType := some (.object "java/lang/StringBuilder") }, accessFlags := 1, code := some k12c1 }
def k12c2 : Code := { maxStack := 2, maxLocals := 2, code := jdk_67_method_15_code, exceptionTable := #[], attributes := #[] }
def k12m2 : Method := { name := "append", desc := "(I)Ljava/lang/StringBuilder;", sig := { parameters := [.int], returnType := some (.object "java/lang/StringBuilder") }, accessFlags := 1, code := some k12c2 }
def k12c3 : Code := { maxStack := 3, maxLocals := 1, code := jdk_67_method_42_code, exceptionTable := #[], attributes := #[] }
def k12m3 : Method := { name := "toString", desc := "()Ljava/lang/String;", sig := { parameters := [], returnType := some (.object "java/lang/String") }, accessFlags := 1, code := some k12c3 }
def k12c4 : Code := { maxStack := 1, maxLocals := 1, code := jdk_67_method_93_code, exceptionTable := #[], attributes := #[] }
def k12m4 : Method := { name := "length", desc := "()I", sig := { parameters := [], returnType := some .int }, accessFlags := 4161, code := some k12c4 }
/-- java/lang/StringBuilder -/
def k12 : Class := { plain "java/lang/StringBuilder" (some 11) with
  accessFlags := 49
  interfaces := #[10, 2, 3, 4]
  cf := some (fileOf pool12 24 #[] #[{ accessFlags := 1, nameIndex := 5, descriptorIndex := 145, attributes := #[] }, { accessFlags := 1, nameIndex := 27, descriptorIndex := 28, attributes := #[] }, { accessFlags := 1, nameIndex := 27, descriptorIndex := 268, attributes := #[] }, { accessFlags := 1, nameIndex := 399, descriptorIndex := 400, attributes := #[] }, { accessFlags := 4161, nameIndex := 345, descriptorIndex := 156, attributes := #[] }] 49 2 #[349, 351, 353, 355] #[{ accessFlags := 24, nameIndex := 357, descriptorIndex := 358, attributes := #[] }])
  fields := #[{ name := "serialVersionUID", type := .long, accessFlags := 24, slot := 0, constantValue := 0 }]
  methods := #[k12m0, k12m1, k12m2, k12m3, k12m4]
  instanceTypes := #[(.array .byte), .byte, .boolean, .int]
  staticTypes := #[.long]
  resolved := Array.replicate 422 none
  statics := none }

def pool13 : Array CpInfo := pool [(2, .class_ 4), (1, u "java/lang/Object"), (0, u "<init>"), (0, u "()V"), (1, .class_ 10), (1, u "java/lang/System"), (0, u "allowSecurityManager"), (0, u "I"), (16, u "cons"), (0, u "Ljava/io/Console;"), (77, .class_ 110), (1, u "java/lang/System$CallersHolder"), (43, u "initialErrStream"), (0, u "Ljava/io/PrintStream;"), (19, u "security"), (0, u "Ljava/lang/SecurityManager;"), (31, .class_ 209), (0, u "java/lang/System$1"), (7, u "props"), (0, u "Ljava/util/Properties;"), (2, u "lineSeparator"), (0, u "Ljava/lang/String;"), (96, .class_ 321), (1, u "java/lang/System$LoggerFinder"), (5, .class_ 328), (0, u "java/lang/System$Logger"), (67, u "err"), (2, u "out"), (91, u "notSupportedJnuEncoding"), (15, u "in"), (17, u "initialIn"), (0, u "Ljava/io/InputStream;"), (35, u "bootLayer"), (0, u "Ljava/lang/ModuleLayer;"), (99, .class_ 664), (0, u "java/lang/System$2"), (9, u "NEVER"), (2, u "MAYBE"), (49, u "arraycopy"), (0, u "(Ljava/lang/Object;ILjava/lang/Object;II)V"), (72, .class_ 802), (0, u "java/lang/System$Logger$Level")] 31

def k13m0 : Method := { name := "<init>", desc := "()V", sig := { parameters := [], returnType := none }, accessFlags := 2, code := none }
def k13m1 : Method := { name := "arraycopy", desc := "(Ljava/lang/Object;ILjava/lang/Object;II)V", sig := { parameters := [(.object "java/lang/Object"), .int, (.object "java/lang/Object"), .int, .int], returnType := none }, accessFlags := 265, code := none }
/-- java/lang/System -/
def k13 : Class := { plain "java/lang/System" (some 0) with
  accessFlags := 49
  interfaces := #[]
  cf := some (fileOf pool13 8 #[.nestMembers #[319, 327, 801, 108, 663, 208]] #[{ accessFlags := 2, nameIndex := 5, descriptorIndex := 6, attributes := #[] }, { accessFlags := 265, nameIndex := 727, descriptorIndex := 728, attributes := #[] }] 49 2 #[] #[{ accessFlags := 25, nameIndex := 507, descriptorIndex := 526, attributes := #[] }, { accessFlags := 25, nameIndex := 399, descriptorIndex := 155, attributes := #[] }, { accessFlags := 25, nameIndex := 396, descriptorIndex := 155, attributes := #[] }, { accessFlags := 10, nameIndex := 525, descriptorIndex := 526, attributes := #[] }, { accessFlags := 26, nameIndex := 674, descriptorIndex := 12, attributes := #[] }, { accessFlags := 26, nameIndex := 677, descriptorIndex := 12, attributes := #[] }, { accessFlags := 10, nameIndex := 11, descriptorIndex := 12, attributes := #[] }, { accessFlags := 74, nameIndex := 175, descriptorIndex := 176, attributes := #[] }, { accessFlags := 10, nameIndex := 491, descriptorIndex := 222, attributes := #[] }, { accessFlags := 74, nameIndex := 29, descriptorIndex := 30, attributes := #[] }, { accessFlags := 74, nameIndex := 154, descriptorIndex := 155, attributes := #[] }, { accessFlags := 10, nameIndex := 217, descriptorIndex := 218, attributes := #[] }, { accessFlags := 10, nameIndex := 221, descriptorIndex := 222, attributes := #[] }, { accessFlags := 8, nameIndex := 562, descriptorIndex := 563, attributes := #[] }])
  fields := #[{ name := "in", type := (.object "java/io/InputStream"), accessFlags := 25, slot := 0, constantValue := 0 }, { name := "out", type := (.object "java/io/PrintStream"), accessFlags := 25, slot := 1, constantValue := 0 }, { name := "err", type := (.object "java/io/PrintStream"), accessFlags := 25, slot := 2, constantValue := 0 }, { name := "initialIn", type := (.object "java/io/InputStream"), accessFlags := 10, slot := 3, constantValue := 0 }, { name := "NEVER", type := .int, accessFlags := 26, slot := 4, constantValue := 0 }, { name := "MAYBE", type := .int, accessFlags := 26, slot := 5, constantValue := 0 }, { name := "allowSecurityManager", type := .int, accessFlags := 10, slot := 6, constantValue := 0 }, { name := "security", type := (.object "java/lang/SecurityManager"), accessFlags := 74, slot := 7, constantValue := 0 }, { name := "notSupportedJnuEncoding", type := (.object "java/lang/String"), accessFlags := 10, slot := 8, constantValue := 0 }, { name := "cons", type := (.object "java/io/Console"), accessFlags := 74, slot := 9, constantValue := 0 }, { name := "initialErrStream", type := (.object "java/io/PrintStream"), accessFlags := 74, slot := 10, constantValue := 0 }, { name := "props", type := (.object "java/util/Properties"), accessFlags := 10, slot := 11, constantValue := 0 }, { name := "lineSeparator", type := (.object "java/lang/String"), accessFlags := 10, slot := 12, constantValue := 0 }, { name := "bootLayer", type := (.object "java/lang/ModuleLayer"), accessFlags := 8, slot := 13, constantValue := 0 }]
  methods := #[k13m0, k13m1]
  instanceTypes := #[]
  staticTypes := #[(.object "java/io/InputStream"), (.object "java/io/PrintStream"), (.object "java/io/PrintStream"), (.object "java/io/InputStream"), .int, .int, .int, (.object "java/lang/SecurityManager"), (.object "java/lang/String"), (.object "java/io/Console"), (.object "java/io/PrintStream"), (.object "java/util/Properties"), (.object "java/lang/String"), (.object "java/lang/ModuleLayer")]
  resolved := Array.replicate 834 none
  statics := none }

def pool14 : Array CpInfo := pool [(2, .class_ 4), (1, u "java/lang/Object"), (0, u "<init>"), (0, u "()V"), (1, .class_ 10), (1, u "java/lang/Number"), (2, .class_ 14), (0, u "java/io/Serializable"), (0, u "serialVersionUID"), (0, u "J")] 20

def k14m0 : Method := { name := "<init>", desc := "()V", sig := { parameters := [], returnType := none }, accessFlags := 1, code := none }
/-- java/lang/Number -/
def k14 : Class := { plain "java/lang/Number" (some 0) with
  accessFlags := 1057
  interfaces := #[2]
  cf := some (fileOf pool14 8 #[] #[{ accessFlags := 1, nameIndex := 5, descriptorIndex := 6, attributes := #[] }] 1057 2 #[13] #[{ accessFlags := 26, nameIndex := 15, descriptorIndex := 16, attributes := #[] }])
  fields := #[{ name := "serialVersionUID", type := .long, accessFlags := 26, slot := 0, constantValue := 0 }]
  methods := #[k14m0]
  instanceTypes := #[]
  staticTypes := #[.long]
  resolved := Array.replicate 37 none
  statics := none }

def pool15 : Array CpInfo := pool [(1, .class_ 2), (0, u "java/lang/Integer"), (16, u "digits"), (0, u "[C"), (33, u "(I)I"), (19, u "stringSize"), (2, u "getChars"), (0, u "(II[B)I"), (4, .fieldref 1 84), (0, .nameAndType 85 86), (0, u "DigitOnes"), (0, u "[B"), (0, .fieldref 1 88), (0, .nameAndType 89 86), (0, u "DigitTens"), (99, .class_ 190), (0, u "java/lang/Integer$IntegerCache"), (3, u "I"), (8, .class_ 204), (0, u "java/lang/Number"), (2, u "value"), (94, u "TYPE"), (0, u "Ljava/lang/Class;"), (0, .class_ 305), (0, u "java/lang/Comparable"), (0, .class_ 307), (0, u "java/lang/constant/Constable"), (0, .class_ 309), (0, u "java/lang/constant/ConstantDesc"), (0, u "MIN_VALUE"), (1, u "MAX_VALUE"), (3, u "SIZE"), (1, u "BYTES"), (1, u "serialVersionUID"), (0, u "J")] 131

def k15c0 : Code := { maxStack := 4, maxLocals := 7, code := jdk_33_method_12_code, exceptionTable := #[], attributes := #[] }
def k15m0 : Method := { name := "getChars", desc := "(II[B)I", sig := { parameters := [.int, .int, (.array .byte)], returnType := some .int }, accessFlags := 8, code := some k15c0 }
def k15c1 : Code := { maxStack := 2, maxLocals := 4, code := jdk_33_method_13_code, exceptionTable := #[], attributes := #[] }
def k15m1 : Method := { name := "stringSize", desc := "(I)I", sig := { parameters := [.int], returnType := some .int }, accessFlags := 8, code := some k15c1 }
/-- java/lang/Integer -/
def k15 : Class := { plain "java/lang/Integer" (some 14) with
  accessFlags := 49
  interfaces := #[3, 5, 6]
  cf := some (fileOf pool15 1 #[.nestMembers #[189]] #[{ accessFlags := 8, nameIndex := 77, descriptorIndex := 78, attributes := #[] }, { accessFlags := 8, nameIndex := 74, descriptorIndex := 54, attributes := #[] }] 49 203 #[304, 306, 308] #[{ accessFlags := 25, nameIndex := 310, descriptorIndex := 194, attributes := #[] }, { accessFlags := 25, nameIndex := 312, descriptorIndex := 194, attributes := #[] }, { accessFlags := 25, nameIndex := 302, descriptorIndex := 303, attributes := #[] }, { accessFlags := 24, nameIndex := 19, descriptorIndex := 20, attributes := #[] }, { accessFlags := 24, nameIndex := 89, descriptorIndex := 86, attributes := #[] }, { accessFlags := 24, nameIndex := 85, descriptorIndex := 86, attributes := #[] }, { accessFlags := 18, nameIndex := 207, descriptorIndex := 194, attributes := #[] }, { accessFlags := 25, nameIndex := 316, descriptorIndex := 194, attributes := #[] }, { accessFlags := 25, nameIndex := 318, descriptorIndex := 194, attributes := #[] }, { accessFlags := 26, nameIndex := 320, descriptorIndex := 321, attributes := #[] }])
  fields := #[{ name := "MIN_VALUE", type := .int, accessFlags := 25, slot := 0, constantValue := 0 }, { name := "MAX_VALUE", type := .int, accessFlags := 25, slot := 1, constantValue := 0 }, { name := "TYPE", type := (.object "java/lang/Class"), accessFlags := 25, slot := 2, constantValue := 0 }, { name := "digits", type := (.array .char), accessFlags := 24, slot := 3, constantValue := 0 }, { name := "DigitTens", type := (.array .byte), accessFlags := 24, slot := 4, constantValue := 0 }, { name := "DigitOnes", type := (.array .byte), accessFlags := 24, slot := 5, constantValue := 0 }, { name := "value", type := .int, accessFlags := 18, slot := 0, constantValue := 0 }, { name := "SIZE", type := .int, accessFlags := 25, slot := 6, constantValue := 0 }, { name := "BYTES", type := .int, accessFlags := 25, slot := 7, constantValue := 0 }, { name := "serialVersionUID", type := .long, accessFlags := 26, slot := 8, constantValue := 0 }]
  methods := #[k15m0, k15m1]
  instanceTypes := #[.int]
  staticTypes := #[.int, .int, (.object "java/lang/Class"), (.array .char), (.array .byte), (.array .byte), .int, .int, .long]
  resolved := Array.replicate 453 none
  statics := some 1 }

def pool16 : Array CpInfo := pool [(2, .class_ 4), (1, u "java/lang/Object"), (0, u "<init>"), (0, u "()V"), (7, .class_ 16), (1, u "java/util/Arrays"), (57, .class_ 76), (1, u "java/util/Arrays$NaturalOrder"), (36, .class_ 115), (1, u "java/util/Arrays$LegacyMergeSort"), (1, u "Z"), (21, u "copyOfRange"), (10, .methodref 151 152), (0, .class_ 153), (0, .nameAndType 154 155), (0, u "java/lang/System"), (0, u "arraycopy"), (0, u "(Ljava/lang/Object;ILjava/lang/Object;II)V"), (148, .methodref 305 306), (0, .class_ 307), (0, .nameAndType 308 309), (0, u "java/lang/Math"), (0, u "min"), (0, u "(II)I"), (29, .methodref 14 340), (0, .nameAndType 341 342), (0, u "copyOfRangeByte"), (0, u "([BII)[B"), (0, .methodref 14 344), (0, .nameAndType 345 346), (0, u "checkLength"), (0, u "(II)V"), (28, .class_ 376), (0, u "java/util/Arrays$ArrayList"), (68, u "$assertionsDisabled"), (269, u "MIN_ARRAY_SORT_GRAN"), (0, u "I"), (2, u "INSERTIONSORT_THRESHOLD"), (255, .class_ 976), (0, u "java/util/Arrays$ArrayItr")] 52

def k16m0 : Method := { name := "<init>", desc := "()V", sig := { parameters := [], returnType := none }, accessFlags := 2, code := none }
def k16c1 : Code := { maxStack := 4, maxLocals := 2, code := jdk_65_method_131_code, exceptionTable := #[], attributes := #[] }
def k16m1 : Method := { name := "checkLength", desc := "(II)V", sig := { parameters := [.int, .int], returnType := none }, accessFlags := 10, code := some k16c1 }
def k16c2 : Code := { maxStack := 3, maxLocals := 3, code := jdk_65_method_132_code, exceptionTable := #[], attributes := #[] }
def k16m2 : Method := { name := "copyOfRange", desc := "([BII)[B", sig := { parameters := [(.array .byte), .int, .int], returnType := some (.array .byte) }, accessFlags := 9, code := some k16c2 }
def k16c3 : Code := { maxStack := 6, maxLocals := 5, code := jdk_65_method_133_code, exceptionTable := #[], attributes := #[] }
def k16m3 : Method := { name := "copyOfRangeByte", desc := "([BII)[B", sig := { parameters := [(.array .byte), .int, .int], returnType := some (.array .byte) }, accessFlags := 10, code := some k16c3 }
/-- java/util/Arrays -/
def k16 : Class := { plain "java/util/Arrays" (some 0) with
  accessFlags := 49
  interfaces := #[]
  cf := some (fileOf pool16 14 #[.nestMembers #[975, 375, 113, 74]] #[{ accessFlags := 2, nameIndex := 5, descriptorIndex := 6, attributes := #[] }, { accessFlags := 10, nameIndex := 345, descriptorIndex := 346, attributes := #[] }, { accessFlags := 9, nameIndex := 139, descriptorIndex := 342, attributes := #[] }, { accessFlags := 10, nameIndex := 341, descriptorIndex := 342, attributes := #[] }] 49 2 #[] #[{ accessFlags := 26, nameIndex := 715, descriptorIndex := 716, attributes := #[] }, { accessFlags := 26, nameIndex := 719, descriptorIndex := 716, attributes := #[] }, { accessFlags := 4120, nameIndex := 445, descriptorIndex := 117, attributes := #[] }])
  fields := #[{ name := "MIN_ARRAY_SORT_GRAN", type := .int, accessFlags := 26, slot := 0, constantValue := 0 }, { name := "INSERTIONSORT_THRESHOLD", type := .int, accessFlags := 26, slot := 1, constantValue := 0 }, { name := "$assertionsDisabled", type := .boolean, accessFlags := 4120, slot := 2, constantValue := 0 }]
  methods := #[k16m0, k16m1, k16m2, k16m3]
  instanceTypes := #[]
  staticTypes := #[.int, .int, .boolean]
  resolved := Array.replicate 1029 none
  statics := none }

def pool17 : Array CpInfo := pool [(1, .class_ 2), (0, u "java/lang/Math"), (1, .class_ 6), (1, u "java/lang/Object"), (0, u "<init>"), (0, u "()V"), (89, .class_ 100), (1, u "java/lang/Math$RandomNumberGeneratorHolder"), (23, u "abs"), (0, u "(J)J"), (46, u "negativeZeroFloatBits"), (0, u "J"), (2, u "negativeZeroDoubleBits"), (24, u "min"), (43, u "$assertionsDisabled"), (0, u "Z"), (88, u "(II)I"), (2, u "twoToTheDoubleScaleDown"), (0, u "D"), (4, u "twoToTheDoubleScaleUp"), (9, u "E"), (3, u "PI"), (2, u "TAU"), (2, u "DEGREES_TO_RADIANS"), (0, u "RADIANS_TO_DEGREES")] 94

def k17m0 : Method := { name := "<init>", desc := "()V", sig := { parameters := [], returnType := none }, accessFlags := 2, code := none }
def k17c1 : Code := { maxStack := 4, maxLocals := 2, code := jdk_29_method_61_code, exceptionTable := #[], attributes := #[] }
def k17m1 : Method := { name := "abs", desc := "(J)J", sig := { parameters := [.long], returnType := some .long }, accessFlags := 9, code := some k17c1 }
def k17c2 : Code := { maxStack := 2, maxLocals := 2, code := jdk_29_method_69_code, exceptionTable := #[], attributes := #[] }
def k17m2 : Method := { name := "min", desc := "(II)I", sig := { parameters := [.int, .int], returnType := some .int }, accessFlags := 9, code := some k17c2 }
/-- java/lang/Math -/
def k17 : Class := { plain "java/lang/Math" (some 0) with
  accessFlags := 49
  interfaces := #[]
  cf := some (fileOf pool17 1 #[.nestMembers #[98]] #[{ accessFlags := 2, nameIndex := 7, descriptorIndex := 8, attributes := #[] }, { accessFlags := 9, nameIndex := 124, descriptorIndex := 125, attributes := #[] }, { accessFlags := 9, nameIndex := 201, descriptorIndex := 335, attributes := #[] }] 49 4 #[] #[{ accessFlags := 25, nameIndex := 354, descriptorIndex := 339, attributes := #[] }, { accessFlags := 25, nameIndex := 358, descriptorIndex := 339, attributes := #[] }, { accessFlags := 25, nameIndex := 361, descriptorIndex := 339, attributes := #[] }, { accessFlags := 26, nameIndex := 364, descriptorIndex := 339, attributes := #[] }, { accessFlags := 26, nameIndex := 365, descriptorIndex := 339, attributes := #[] }, { accessFlags := 26, nameIndex := 172, descriptorIndex := 173, attributes := #[] }, { accessFlags := 26, nameIndex := 176, descriptorIndex := 173, attributes := #[] }, { accessFlags := 8, nameIndex := 344, descriptorIndex := 339, attributes := #[] }, { accessFlags := 8, nameIndex := 338, descriptorIndex := 339, attributes := #[] }, { accessFlags := 4120, nameIndex := 245, descriptorIndex := 246, attributes := #[] }])
  fields := #[{ name := "E", type := .double, accessFlags := 25, slot := 0, constantValue := 0 }, { name := "PI", type := .double, accessFlags := 25, slot := 1, constantValue := 0 }, { name := "TAU", type := .double, accessFlags := 25, slot := 2, constantValue := 0 }, { name := "DEGREES_TO_RADIANS", type := .double, accessFlags := 26, slot := 3, constantValue := 0 }, { name := "RADIANS_TO_DEGREES", type := .double, accessFlags := 26, slot := 4, constantValue := 0 }, { name := "negativeZeroFloatBits", type := .long, accessFlags := 26, slot := 5, constantValue := 0 }, { name := "negativeZeroDoubleBits", type := .long, accessFlags := 26, slot := 6, constantValue := 0 }, { name := "twoToTheDoubleScaleUp", type := .double, accessFlags := 8, slot := 7, constantValue := 0 }, { name := "twoToTheDoubleScaleDown", type := .double, accessFlags := 8, slot := 8, constantValue := 0 }, { name := "$assertionsDisabled", type := .boolean, accessFlags := 4120, slot := 9, constantValue := 0 }]
  methods := #[k17m0, k17m1, k17m2]
  instanceTypes := #[]
  staticTypes := #[.double, .double, .double, .double, .double, .long, .long, .double, .double, .boolean]
  resolved := Array.replicate 460 none
  statics := none }

def pool18 : Array CpInfo := pool [(1, .class_ 2), (0, u "java/lang/String"), (1, .class_ 6), (1, u "java/lang/Object"), (0, u "<init>"), (0, u "()V"), (0, .methodref 1 10), (0, .nameAndType 11 12), (0, u "checkIndex"), (0, u "(II)V"), (1, .class_ 16), (1, u "java/lang/StringLatin1"), (36, u "([BI)C"), (67, u "$assertionsDisabled"), (0, u "Z"), (98, .class_ 223), (1, u "java/lang/StringLatin1$LinesSpliterator"), (28, u "charAt"), (137, .class_ 391), (0, u "java/lang/StringLatin1$CharsSpliterator")] 3

def k18m0 : Method := { name := "<init>", desc := "()V", sig := { parameters := [], returnType := none }, accessFlags := 0, code := none }
def k18c1 : Code := { maxStack := 2, maxLocals := 2, code := jdk_43_method_2_code, exceptionTable := #[], attributes := #[] }
def k18m1 : Method := { name := "charAt", desc := "([BI)C", sig := { parameters := [(.array .byte), .int], returnType := some .char }, accessFlags := 9, code := some k18c1 }
/-- java/lang/StringLatin1 -/
def k18 : Class := { plain "java/lang/StringLatin1" (some 0) with
  accessFlags := 48
  interfaces := #[]
  cf := some (fileOf pool18 14 #[.nestMembers #[390, 221]] #[{ accessFlags := 0, nameIndex := 7, descriptorIndex := 8, attributes := #[] }, { accessFlags := 9, nameIndex := 252, descriptorIndex := 53, attributes := #[] }] 48 4 #[] #[{ accessFlags := 4120, nameIndex := 121, descriptorIndex := 122, attributes := #[] }])
  fields := #[{ name := "$assertionsDisabled", type := .boolean, accessFlags := 4120, slot := 0, constantValue := 0 }]
  methods := #[k18m0, k18m1]
  instanceTypes := #[]
  staticTypes := #[.boolean]
  resolved := Array.replicate 395 none
  statics := none }

def pool19 : Array CpInfo := pool [(2, .class_ 4), (1, u "java/lang/Object"), (0, u "<init>"), (0, u "()V"), (17, .class_ 26), (1, u "jdk/internal/util/Preconditions"), (6, u "checkIndex"), (21, .class_ 56), (0, u "jdk/internal/util/Preconditions$4"), (57, .class_ 115), (0, u "jdk/internal/util/Preconditions$1"), (7, u "SIOOBE_FORMATTER"), (0, u "Ljava/util/function/BiFunction;"), (0, .class_ 126), (0, u "jdk/internal/util/Preconditions$2"), (3, u "AIOOBE_FORMATTER"), (0, .class_ 132), (0, u "jdk/internal/util/Preconditions$3"), (3, u "IOOBE_FORMATTER"), (41, u "(IILjava/util/function/BiFunction;)I")] 15

def k19m0 : Method := { name := "<init>", desc := "()V", sig := { parameters := [], returnType := none }, accessFlags := 1, code := none }
def k19c1 : Code := { maxStack := 3, maxLocals := 3, code := jdk_41_method_11_code, exceptionTable := #[], attributes := #[] }
def k19m1 : Method := { name := "checkIndex", desc := "(IILjava/util/function/BiFunction;)I", sig := { parameters := [.int, .int, (.object "java/util/function/BiFunction")], returnType := some .int }, accessFlags := 9, code := some k19c1 }
/-- jdk/internal/util/Preconditions -/
def k19 : Class := { plain "jdk/internal/util/Preconditions" (some 0) with
  accessFlags := 33
  interfaces := #[]
  cf := some (fileOf pool19 24 #[.nestMembers #[55, 131, 125, 114]] #[{ accessFlags := 1, nameIndex := 5, descriptorIndex := 6, attributes := #[] }, { accessFlags := 9, nameIndex := 33, descriptorIndex := 178, attributes := #[] }] 33 2 #[] #[{ accessFlags := 25, nameIndex := 123, descriptorIndex := 124, attributes := #[] }, { accessFlags := 25, nameIndex := 130, descriptorIndex := 124, attributes := #[] }, { accessFlags := 25, nameIndex := 136, descriptorIndex := 124, attributes := #[] }])
  fields := #[{ name := "SIOOBE_FORMATTER", type := (.object "java/util/function/BiFunction"), accessFlags := 25, slot := 0, constantValue := 0 }, { name := "AIOOBE_FORMATTER", type := (.object "java/util/function/BiFunction"), accessFlags := 25, slot := 1, constantValue := 0 }, { name := "IOOBE_FORMATTER", type := (.object "java/util/function/BiFunction"), accessFlags := 25, slot := 2, constantValue := 0 }]
  methods := #[k19m0, k19m1]
  instanceTypes := #[]
  staticTypes := #[(.object "java/util/function/BiFunction"), (.object "java/util/function/BiFunction"), (.object "java/util/function/BiFunction")]
  resolved := Array.replicate 194 none
  statics := some 2 }

def pool20 : Array CpInfo := pool [(6, .class_ 8), (1, u "java/lang/Object"), (0, u "<init>"), (0, u "()V"), (1, .class_ 14), (1, u "java/lang/StringUTF16"), (31, u "$assertionsDisabled"), (0, u "Z"), (13, u "HI_BYTE_SHIFT"), (0, u "I"), (2, u "LO_BYTE_SHIFT"), (49, .methodref 12 116), (0, .nameAndType 117 118), (0, u "compress"), (0, u "([CI[BII)I"), (3, u "([CII)[B"), (138, u "coderFromArrayLen"), (0, u "([BI)B"), (106, .class_ 371), (1, u "java/lang/StringUTF16$LinesSpliterator"), (58, u "MAX_LENGTH"), (196, .class_ 628), (0, u "java/lang/StringUTF16$CodePointsSpliterator"), (0, .class_ 630), (0, u "java/lang/StringUTF16$CharsSpliterator")] 4

def k20m0 : Method := { name := "<init>", desc := "()V", sig := { parameters := [], returnType := none }, accessFlags := 0, code := none }
def k20c1 : Code := { maxStack := 2, maxLocals := 2, code := jdk_52_method_15_code, exceptionTable := #[], attributes := #[] }
def k20m1 : Method := { name := "coderFromArrayLen", desc := "([BI)B", sig := { parameters := [(.array .byte), .int], returnType := some .byte }, accessFlags := 8, code := some k20c1 }
def k20c2 : Code := { maxStack := 5, maxLocals := 6, code := jdk_52_method_16_code, exceptionTable := #[], attributes := #[] }
def k20m2 : Method := { name := "compress", desc := "([CII)[B", sig := { parameters := [(.array .char), .int, .int], returnType := some (.array .byte) }, accessFlags := 9, code := some k20c2 }
def k20c3 : Code := { maxStack := 3, maxLocals := 7, code := jdk_52_method_21_code, exceptionTable := #[], attributes := #[] }
def k20m3 : Method := { name := "compress", desc := "([CI[BII)I", sig := { parameters := [(.array .char), .int, (.array .byte), .int, .int], returnType := some .int }, accessFlags := 9, code := some k20c3 }
/-- java/lang/StringUTF16 -/
def k20 : Class := { plain "java/lang/StringUTF16" (some 0) with
  accessFlags := 48
  interfaces := #[]
  cf := some (fileOf pool20 12 #[.nestMembers #[627, 629, 369]] #[{ accessFlags := 0, nameIndex := 9, descriptorIndex := 10, attributes := #[] }, { accessFlags := 8, nameIndex := 261, descriptorIndex := 262, attributes := #[] }, { accessFlags := 9, nameIndex := 117, descriptorIndex := 122, attributes := #[] }, { accessFlags := 9, nameIndex := 117, descriptorIndex := 118, attributes := #[] }] 48 6 #[] #[{ accessFlags := 26, nameIndex := 61, descriptorIndex := 62, attributes := #[] }, { accessFlags := 26, nameIndex := 65, descriptorIndex := 62, attributes := #[] }, { accessFlags := 24, nameIndex := 430, descriptorIndex := 62, attributes := #[] }, { accessFlags := 4120, nameIndex := 46, descriptorIndex := 47, attributes := #[] }])
  fields := #[{ name := "HI_BYTE_SHIFT", type := .int, accessFlags := 26, slot := 0, constantValue := 0 }, { name := "LO_BYTE_SHIFT", type := .int, accessFlags := 26, slot := 1, constantValue := 0 }, { name := "MAX_LENGTH", type := .int, accessFlags := 24, slot := 2, constantValue := 0 }, { name := "$assertionsDisabled", type := .boolean, accessFlags := 4120, slot := 3, constantValue := 0 }]
  methods := #[k20m0, k20m1, k20m2, k20m3]
  instanceTypes := #[]
  staticTypes := #[.int, .int, .int, .boolean]
  resolved := Array.replicate 635 none
  statics := none }

def pool21 : Array CpInfo := pool [(9, u "<init>"), (6, .class_ 18), (1, u "java/lang/Object"), (0, u "()V"), (1, .class_ 23), (1, u "jdk/internal/util/ArraysSupport"), (0, u "LOG2_ARRAY_LONG_INDEX_SCALE"), (0, u "I"), (2, u "U"), (0, u "Ljdk/internal/misc/Unsafe;"), (8, u "BIG_ENDIAN"), (0, u "Z"), (8, u "LOG2_BYTE_BIT_SIZE"), (4, u "LOG2_ARRAY_INT_INDEX_SCALE"), (54, u "JLA"), (0, u "Ljdk/internal/access/JavaLangAccess;"), (11, u "LOG2_ARRAY_BOOLEAN_INDEX_SCALE"), (9, u "LOG2_ARRAY_BYTE_INDEX_SCALE"), (5, u "LOG2_ARRAY_CHAR_INDEX_SCALE"), (5, u "LOG2_ARRAY_SHORT_INDEX_SCALE"), (18, u "LOG2_ARRAY_FLOAT_INDEX_SCALE"), (24, u "LOG2_ARRAY_DOUBLE_INDEX_SCALE"), (89, u "T_BOOLEAN"), (2, u "T_CHAR"), (1, u "T_FLOAT"), (1, u "T_DOUBLE"), (1, u "T_BYTE"), (1, u "T_SHORT"), (1, u "T_INT"), (1, u "T_LONG"), (1, u "SOFT_MAX_ARRAY_LENGTH")] 83

def k21m0 : Method := { name := "<init>", desc := "()V", sig := { parameters := [], returnType := none }, accessFlags := 2, code := none }
/-- jdk/internal/util/ArraysSupport -/
def k21 : Class := { plain "jdk/internal/util/ArraysSupport" (some 0) with
  accessFlags := 33
  interfaces := #[]
  cf := some (fileOf pool21 21 #[] #[{ accessFlags := 2, nameIndex := 9, descriptorIndex := 19, attributes := #[] }] 33 16 #[] #[{ accessFlags := 24, nameIndex := 28, descriptorIndex := 29, attributes := #[] }, { accessFlags := 26, nameIndex := 38, descriptorIndex := 39, attributes := #[] }, { accessFlags := 25, nameIndex := 121, descriptorIndex := 25, attributes := #[] }, { accessFlags := 25, nameIndex := 131, descriptorIndex := 25, attributes := #[] }, { accessFlags := 25, nameIndex := 137, descriptorIndex := 25, attributes := #[] }, { accessFlags := 25, nameIndex := 143, descriptorIndex := 25, attributes := #[] }, { accessFlags := 25, nameIndex := 53, descriptorIndex := 25, attributes := #[] }, { accessFlags := 25, nameIndex := 24, descriptorIndex := 25, attributes := #[] }, { accessFlags := 25, nameIndex := 162, descriptorIndex := 25, attributes := #[] }, { accessFlags := 25, nameIndex := 187, descriptorIndex := 25, attributes := #[] }, { accessFlags := 26, nameIndex := 48, descriptorIndex := 25, attributes := #[] }, { accessFlags := 25, nameIndex := 277, descriptorIndex := 25, attributes := #[] }, { accessFlags := 25, nameIndex := 280, descriptorIndex := 25, attributes := #[] }, { accessFlags := 25, nameIndex := 282, descriptorIndex := 25, attributes := #[] }, { accessFlags := 25, nameIndex := 284, descriptorIndex := 25, attributes := #[] }, { accessFlags := 25, nameIndex := 286, descriptorIndex := 25, attributes := #[] }, { accessFlags := 25, nameIndex := 288, descriptorIndex := 25, attributes := #[] }, { accessFlags := 25, nameIndex := 290, descriptorIndex := 25, attributes := #[] }, { accessFlags := 25, nameIndex := 292, descriptorIndex := 25, attributes := #[] }, { accessFlags := 26, nameIndex := 108, descriptorIndex := 109, attributes := #[] }, { accessFlags := 25, nameIndex := 294, descriptorIndex := 25, attributes := #[] }])
  fields := #[{ name := "U", type := (.object "jdk/internal/misc/Unsafe"), accessFlags := 24, slot := 0, constantValue := 0 }, { name := "BIG_ENDIAN", type := .boolean, accessFlags := 26, slot := 1, constantValue := 0 }, { name := "LOG2_ARRAY_BOOLEAN_INDEX_SCALE", type := .int, accessFlags := 25, slot := 2, constantValue := 0 }, { name := "LOG2_ARRAY_BYTE_INDEX_SCALE", type := .int, accessFlags := 25, slot := 3, constantValue := 0 }, { name := "LOG2_ARRAY_CHAR_INDEX_SCALE", type := .int, accessFlags := 25, slot := 4, constantValue := 0 }, { name := "LOG2_ARRAY_SHORT_INDEX_SCALE", type := .int, accessFlags := 25, slot := 5, constantValue := 0 }, { name := "LOG2_ARRAY_INT_INDEX_SCALE", type := .int, accessFlags := 25, slot := 6, constantValue := 0 }, { name := "LOG2_ARRAY_LONG_INDEX_SCALE", type := .int, accessFlags := 25, slot := 7, constantValue := 0 }, { name := "LOG2_ARRAY_FLOAT_INDEX_SCALE", type := .int, accessFlags := 25, slot := 8, constantValue := 0 }, { name := "LOG2_ARRAY_DOUBLE_INDEX_SCALE", type := .int, accessFlags := 25, slot := 9, constantValue := 0 }, { name := "LOG2_BYTE_BIT_SIZE", type := .int, accessFlags := 26, slot := 10, constantValue := 0 }, { name := "T_BOOLEAN", type := .int, accessFlags := 25, slot := 11, constantValue := 0 }, { name := "T_CHAR", type := .int, accessFlags := 25, slot := 12, constantValue := 0 }, { name := "T_FLOAT", type := .int, accessFlags := 25, slot := 13, constantValue := 0 }, { name := "T_DOUBLE", type := .int, accessFlags := 25, slot := 14, constantValue := 0 }, { name := "T_BYTE", type := .int, accessFlags := 25, slot := 15, constantValue := 0 }, { name := "T_SHORT", type := .int, accessFlags := 25, slot := 16, constantValue := 0 }, { name := "T_INT", type := .int, accessFlags := 25, slot := 17, constantValue := 0 }, { name := "T_LONG", type := .int, accessFlags := 25, slot := 18, constantValue := 0 }, { name := "JLA", type := (.object "jdk/internal/access/JavaLangAccess"), accessFlags := 26, slot := 19, constantValue := 0 }, { name := "SOFT_MAX_ARRAY_LENGTH", type := .int, accessFlags := 25, slot := 20, constantValue := 0 }]
  methods := #[k21m0]
  instanceTypes := #[]
  staticTypes := #[(.object "jdk/internal/misc/Unsafe"), .boolean, .int, .int, .int, .int, .int, .int, .int, .int, .int, .int, .int, .int, .int, .int, .int, .int, .int, (.object "jdk/internal/access/JavaLangAccess"), .int]
  resolved := Array.replicate 378 none
  statics := none }

def pool22 : Array CpInfo := pool [(1, u "java/lang/Cloneable"), (0, .class_ 1), (0, u "java/lang/Object"), (0, .class_ 3)] 3

/-- java/lang/Cloneable -/
def k22 : Class := { plain "java/lang/Cloneable" (some 0) with
  accessFlags := 1537
  interfaces := #[]
  cf := some (fileOf pool22 2 #[] #[] 1537 4 #[] #[])
  fields := #[]
  methods := #[]
  instanceTypes := #[]
  staticTypes := #[]
  resolved := Array.replicate 8 none
  statics := none }

/-- the primitive byte -/
def k23 : Class := { plain "byte" none with kind := .primitive 'B', accessFlags := 0x411 }
/-- [B -/
def k24 : Class := { plain "[B" (some 0) with kind := .array 23 .byte, interfaces := #[22, 2], accessFlags := 1041 }

/-- the primitive char -/
def k25 : Class := { plain "char" none with kind := .primitive 'C', accessFlags := 0x411 }
/-- [C -/
def k26 : Class := { plain "[C" (some 0) with kind := .array 25 .char, interfaces := #[22, 2], accessFlags := 1041 }

/-- the primitive int -/
def k27 : Class := { plain "int" none with kind := .primitive 'I', accessFlags := 0x411 }
/-- [I -/
def k28 : Class := { plain "[I" (some 0) with kind := .array 27 .int, interfaces := #[22, 2], accessFlags := 1041 }

/-- the primitive long -/
def k29 : Class := { plain "long" none with kind := .primitive 'J', accessFlags := 0x411 }
/-- [J -/
def k30 : Class := { plain "[J" (some 0) with kind := .array 29 .long, interfaces := #[22, 2], accessFlags := 1041 }

def heap : Heap := #[{ cls := 7, slots := #[.long 0, .int 1, .null, .int 0, .null, .int 0, .int 0], vm := .statics 7 },
  { cls := 15, slots := #[.int 0, .int 0, .null, .null, .ref 4, .ref 3, .int 0, .int 0, .long 0], vm := .statics 15 },
  { cls := 19, slots := #[.null, .null, .null], vm := .statics 19 },
  { cls := 24, slots := #[.int 48, .int 49, .int 50, .int 51, .int 52, .int 53, .int 54, .int 55, .int 56, .int 57, .int 48, .int 49, .int 50, .int 51, .int 52, .int 53, .int 54, .int 55, .int 56, .int 57, .int 48, .int 49, .int 50, .int 51, .int 52, .int 53, .int 54, .int 55, .int 56, .int 57, .int 48, .int 49, .int 50, .int 51, .int 52, .int 53, .int 54, .int 55, .int 56, .int 57, .int 48, .int 49, .int 50, .int 51, .int 52, .int 53, .int 54, .int 55, .int 56, .int 57, .int 48, .int 49, .int 50, .int 51, .int 52, .int 53, .int 54, .int 55, .int 56, .int 57, .int 48, .int 49, .int 50, .int 51, .int 52, .int 53, .int 54, .int 55, .int 56, .int 57, .int 48, .int 49, .int 50, .int 51, .int 52, .int 53, .int 54, .int 55, .int 56, .int 57, .int 48, .int 49, .int 50, .int 51, .int 52, .int 53, .int 54, .int 55, .int 56, .int 57, .int 48, .int 49, .int 50, .int 51, .int 52, .int 53, .int 54, .int 55, .int 56, .int 57], vm := .none },
  { cls := 24, slots := #[.int 48, .int 48, .int 48, .int 48, .int 48, .int 48, .int 48, .int 48, .int 48, .int 48, .int 49, .int 49, .int 49, .int 49, .int 49, .int 49, .int 49, .int 49, .int 49, .int 49, .int 50, .int 50, .int 50, .int 50, .int 50, .int 50, .int 50, .int 50, .int 50, .int 50, .int 51, .int 51, .int 51, .int 51, .int 51, .int 51, .int 51, .int 51, .int 51, .int 51, .int 52, .int 52, .int 52, .int 52, .int 52, .int 52, .int 52, .int 52, .int 52, .int 52, .int 53, .int 53, .int 53, .int 53, .int 53, .int 53, .int 53, .int 53, .int 53, .int 53, .int 54, .int 54, .int 54, .int 54, .int 54, .int 54, .int 54, .int 54, .int 54, .int 54, .int 55, .int 55, .int 55, .int 55, .int 55, .int 55, .int 55, .int 55, .int 55, .int 55, .int 56, .int 56, .int 56, .int 56, .int 56, .int 56, .int 56, .int 56, .int 56, .int 56, .int 57, .int 57, .int 57, .int 57, .int 57, .int 57, .int 57, .int 57, .int 57, .int 57], vm := .none }]
def classes : Array Class := #[k0, k1, k2, k3, k4, k5, k6, k7, k8, k9, k10, k11, k12, k13, k14, k15, k16, k17, k18, k19, k20, k21, k22, k23, k24, k25, k26, k27, k28, k29, k30]
def interned : List (Array UInt16 × Addr) := []
def slotsUsed : Nat := 219
def theMethod : MethodId := ⟨1, 1⟩
def args0 : Array Value := #[.int 5, .int 5, .int 5]
def aboutOver (below : List Frame) : State where
  vm := { classes := classes, interned := interned.toArray }
  heap := heap
  slotsUsed := slotsUsed
  threads := #[{ frames := .invoking theMethod args0 :: below }]
def below0 : List Frame := [.native { method := ⟨0, 0⟩, args := #[] }]
def about1 : State := aboutOver below0
def p0 : Program := .bare "" "" ""
def e0 : Env := launch0.env 0 0 0
theorem w_frames : about1.frames = Frame.invoking theMethod args0 :: below0 := rfl
set_option maxRecDepth 65536 in
theorem w_args : argsFit about1.vm theMethod args0 = true := by decide +kernel
set_option maxRecDepth 65536 in
theorem w_heap : heapFits about1 = true := by decide +kernel
set_option maxRecDepth 65536 in
theorem w_runnable : about1.curStatus? = some .runnable := by decide +kernel
set_option maxRecDepth 65536 in
theorem w_alone : about1.alone = true := by decide +kernel
set_option maxRecDepth 65536 in
theorem w_named : about1.methodNamed? x = some theMethod := by decide +kernel
set_option maxRecDepth 65536 in
theorem w_hears : about1.hears theMethod below0 = true := by decide +kernel
set_option maxRecDepth 65536 in
theorem w_ripe : about1.ripe theMethod args0 below0 = true := by decide +kernel
theorem w_running : about1.status = .running := rfl
set_option maxRecDepth 65536 in
theorem w_room : about1.hasRoom e0.platform room_1 = true :=
  launch0.hasRoom_least _ room_1 (by decide +kernel) (by decide +kernel) (by decide +kernel) (by decide +kernel) (by decide +kernel) (by decide +kernel)
theorem allAtoms_all (ts : List Jvm.Cond) (a : Array Jvm.Value) (st : Jvm.State) : (allAtoms ts).before a st = ts.all (fun c => c.before a st) := by
  induction ts with
  | nil => rfl
  | cons c t ih =>
    show (Jvm.Cond.and c (allAtoms t)).before a st = _
    rw [Jvm.Cond.before_and, ih, List.all_cons]
def words1 : List Jvm.Cond := Jvm.Cond.code x code maxLocals ret :: tables_1
/-- a 'code' word, met by the world's own term for the bytes: nothing is compared byte by byte -/
theorem code_word {y : MethodName} {bytes : ByteArray} {mx : Nat} {rt : Option FieldType} {a : Array Value} {s : State} {m : MethodId} {meth : Method} {c : Code} (h1 : s.methodNamed? y = some m) (h2 : s.vm.method? m = some meth) (h3 : meth.code = some c) (h4 : c.code = bytes)
    (h5 : (c.maxLocals == mx && c.exceptionTable.isEmpty && decide (c.maxStack ≤ mostOperands) && decide (meth.sig.returnType = rt) && !meth.locks && decide (parseMethodDescriptor y.desc = some meth.sig)) = true) : (Jvm.Cond.code y bytes mx rt).before a s = true := by
  simp only [Bool.and_eq_true, beq_iff_eq, Bool.not_eq_true', decide_eq_true_eq] at h5
  obtain ⟨⟨⟨⟨⟨g1, g2⟩, g3⟩, g4⟩, g5⟩, g6⟩ := h5
  simp [Cond.before, Cond.holds, Cond.value, h1, h2, h3, h4, g1, g2, g3, g4, g5, g6]
def isCode : Jvm.Cond → Bool
  | .code _ _ _ _ => true
  | _ => false
theorem all_split {L : List Jvm.Cond} {P : Jvm.Cond → Bool} (h1 : L.all (fun c => isCode c || P c) = true) (h2 : ∀ c ∈ L.filter isCode, P c = true) : L.all P = true := by
  refine List.all_eq_true.mpr fun c hc => ?_
  have h := List.all_eq_true.mp h1 c hc
  rcases Bool.eq_false_or_eq_true (isCode c) with hi | hi
  · exact h2 c (List.mem_filter.mpr ⟨hc, hi⟩)
  · simpa [hi] using h
set_option maxRecDepth 65536 in
theorem w_c0 : (Jvm.Cond.code x code maxLocals ret).before args0 about1 = true := code_word (m := ⟨1, 1⟩) (meth := k1m1) (c := k1c1) (by decide +kernel) rfl rfl rfl (by decide +kernel)
set_option maxRecDepth 65536 in
theorem w_c1 : (Jvm.Cond.code ({ cls := "java/lang/String", name := "<init>", desc := "([C)V" } : Jvm.MethodName) jdk_42_method_3_code (2 : Nat) (Option.none : Option Jvm.ClassFile.FieldType)).before args0 about1 = true := code_word (m := ⟨7, 1⟩) (meth := k7m1) (c := k7c1) (by decide +kernel) rfl rfl rfl (by decide +kernel)
set_option maxRecDepth 65536 in
theorem w_c2 : (Jvm.Cond.code ({ cls := "java/lang/String", name := "<init>", desc := "([CIILjava/lang/Void;)V" } : Jvm.MethodName) jdk_42_method_149_code (6 : Nat) (Option.none : Option Jvm.ClassFile.FieldType)).before args0 about1 = true := code_word (m := ⟨7, 6⟩) (meth := k7m6) (c := k7c6) (by decide +kernel) rfl rfl rfl (by decide +kernel)
set_option maxRecDepth 65536 in
theorem w_c3 : (Jvm.Cond.code ({ cls := "java/lang/Object", name := "<init>", desc := "()V" } : Jvm.MethodName) object_method_1_code (1 : Nat) (Option.none : Option Jvm.ClassFile.FieldType)).before args0 about1 = true := code_word (m := ⟨0, 0⟩) (meth := k0m0) (c := k0c0) (by decide +kernel) rfl rfl rfl (by decide +kernel)
set_option maxRecDepth 65536 in
theorem w_c4 : (Jvm.Cond.code ({ cls := "com/example/tallystick/tallystick/cli/HostPort", name := "<init>", desc := "(Ljava/lang/String;I)V" } : Jvm.MethodName) prog_44_method_1_code (3 : Nat) (Option.none : Option Jvm.ClassFile.FieldType)).before args0 about1 = true := code_word (m := ⟨9, 0⟩) (meth := k9m0) (c := k9c0) (by decide +kernel) rfl rfl rfl (by decide +kernel)
set_option maxRecDepth 65536 in
theorem w_c5 : (Jvm.Cond.code ({ cls := "java/lang/Record", name := "<init>", desc := "()V" } : Jvm.MethodName) jdk_30_method_1_code (1 : Nat) (Option.none : Option Jvm.ClassFile.FieldType)).before args0 about1 = true := code_word (m := ⟨8, 0⟩) (meth := k8m0) (c := k8c0) (by decide +kernel) rfl rfl rfl (by decide +kernel)
set_option maxRecDepth 65536 in
theorem w_c6 : (Jvm.Cond.code ({ cls := "com/example/tallystick/tallystick/cli/HostPort", name := "toString", desc := "()Ljava/lang/String;" } : Jvm.MethodName) prog_44_method_6_code (1 : Nat) (Option.some (Jvm.ClassFile.FieldType.object "java/lang/String"))).before args0 about1 = true := code_word (m := ⟨9, 1⟩) (meth := k9m1) (c := k9c1) (by decide +kernel) rfl rfl rfl (by decide +kernel)
set_option maxRecDepth 65536 in
theorem w_c7 : (Jvm.Cond.code ({ cls := "java/lang/StringBuilder", name := "<init>", desc := "()V" } : Jvm.MethodName) jdk_67_method_1_code (1 : Nat) (Option.none : Option Jvm.ClassFile.FieldType)).before args0 about1 = true := code_word (m := ⟨12, 0⟩) (meth := k12m0) (c := k12c0) (by decide +kernel) rfl rfl rfl (by decide +kernel)
set_option maxRecDepth 65536 in
theorem w_c8 : (Jvm.Cond.code ({ cls := "java/lang/AbstractStringBuilder", name := "<init>", desc := "(I)V" } : Jvm.MethodName) jdk_68_method_2_code (2 : Nat) (Option.none : Option Jvm.ClassFile.FieldType)).before args0 about1 = true := code_word (m := ⟨11, 1⟩) (meth := k11m1) (c := k11c1) (by decide +kernel) rfl rfl rfl (by decide +kernel)
set_option maxRecDepth 65536 in
theorem w_c9 : (Jvm.Cond.code ({ cls := "java/lang/StringBuilder", name := "append", desc := "(Ljava/lang/String;)Ljava/lang/StringBuilder;" } : Jvm.MethodName) jdk_67_method_7_code (2 : Nat) (Option.some (Jvm.ClassFile.FieldType.object "java/lang/StringBuilder"))).before args0 about1 = true := code_word (m := ⟨12, 1⟩) (meth := k12m1) (c := k12c1) (by decide +kernel) rfl rfl rfl (by decide +kernel)
set_option maxRecDepth 65536 in
theorem w_c10 : (Jvm.Cond.code ({ cls := "java/lang/AbstractStringBuilder", name := "append", desc := "(Ljava/lang/String;)Ljava/lang/AbstractStringBuilder;" } : Jvm.MethodName) jdk_68_method_22_code (3 : Nat) (Option.some (Jvm.ClassFile.FieldType.object "java/lang/AbstractStringBuilder"))).before args0 about1 = true := code_word (m := ⟨11, 4⟩) (meth := k11m4) (c := k11c4) (by decide +kernel) rfl rfl rfl (by decide +kernel)
set_option maxRecDepth 65536 in
theorem w_c11 : (Jvm.Cond.code ({ cls := "java/lang/String", name := "length", desc := "()I" } : Jvm.MethodName) jdk_42_method_54_code (1 : Nat) (Option.some Jvm.ClassFile.FieldType.int)).before args0 about1 = true := code_word (m := ⟨7, 3⟩) (meth := k7m3) (c := k7c3) (by decide +kernel) rfl rfl rfl (by decide +kernel)
set_option maxRecDepth 65536 in
theorem w_c12 : (Jvm.Cond.code ({ cls := "java/lang/String", name := "coder", desc := "()B" } : Jvm.MethodName) jdk_42_method_152_code (1 : Nat) (Option.some Jvm.ClassFile.FieldType.byte)).before args0 about1 = true := code_word (m := ⟨7, 8⟩) (meth := k7m8) (c := k7c8) (by decide +kernel) rfl rfl rfl (by decide +kernel)
set_option maxRecDepth 65536 in
theorem w_c13 : (Jvm.Cond.code ({ cls := "java/lang/AbstractStringBuilder", name := "ensureCapacityInternal", desc := "(I)V" } : Jvm.MethodName) jdk_68_method_9_code (3 : Nat) (Option.none : Option Jvm.ClassFile.FieldType)).before args0 about1 = true := code_word (m := ⟨11, 3⟩) (meth := k11m3) (c := k11c3) (by decide +kernel) rfl rfl rfl (by decide +kernel)
set_option maxRecDepth 65536 in
theorem w_c14 : (Jvm.Cond.code ({ cls := "java/lang/AbstractStringBuilder", name := "putStringAt", desc := "(ILjava/lang/String;)V" } : Jvm.MethodName) jdk_68_method_73_code (3 : Nat) (Option.none : Option Jvm.ClassFile.FieldType)).before args0 about1 = true := code_word (m := ⟨11, 9⟩) (meth := k11m9) (c := k11c9) (by decide +kernel) rfl rfl rfl (by decide +kernel)
set_option maxRecDepth 65536 in
theorem w_c15 : (Jvm.Cond.code ({ cls := "java/lang/AbstractStringBuilder", name := "inflateIfNeededFor", desc := "(Ljava/lang/String;)V" } : Jvm.MethodName) jdk_68_method_71_code (2 : Nat) (Option.none : Option Jvm.ClassFile.FieldType)).before args0 about1 = true := code_word (m := ⟨11, 8⟩) (meth := k11m8) (c := k11c8) (by decide +kernel) rfl rfl rfl (by decide +kernel)
set_option maxRecDepth 65536 in
theorem w_c16 : (Jvm.Cond.code ({ cls := "java/lang/String", name := "getBytes", desc := "([BIB)V" } : Jvm.MethodName) jdk_42_method_147_code (4 : Nat) (Option.none : Option Jvm.ClassFile.FieldType)).before args0 about1 = true := code_word (m := ⟨7, 5⟩) (meth := k7m5) (c := k7c5) (by decide +kernel) rfl rfl rfl (by decide +kernel)
set_option maxRecDepth 65536 in
theorem w_c17 : (Jvm.Cond.code ({ cls := "java/lang/StringBuilder", name := "append", desc := "(I)Ljava/lang/StringBuilder;" } : Jvm.MethodName) jdk_67_method_15_code (2 : Nat) (Option.some (Jvm.ClassFile.FieldType.object "java/lang/StringBuilder"))).before args0 about1 = true := code_word (m := ⟨12, 2⟩) (meth := k12m2) (c := k12c2) (by decide +kernel) rfl rfl rfl (by decide +kernel)
set_option maxRecDepth 65536 in
theorem w_c18 : (Jvm.Cond.code ({ cls := "java/lang/AbstractStringBuilder", name := "append", desc := "(I)Ljava/lang/AbstractStringBuilder;" } : Jvm.MethodName) jdk_68_method_32_code (4 : Nat) (Option.some (Jvm.ClassFile.FieldType.object "java/lang/AbstractStringBuilder"))).before args0 about1 = true := code_word (m := ⟨11, 5⟩) (meth := k11m5) (c := k11c5) (by decide +kernel) rfl rfl rfl (by decide +kernel)
set_option maxRecDepth 65536 in
theorem w_c19 : (Jvm.Cond.code ({ cls := "java/lang/Integer", name := "stringSize", desc := "(I)I" } : Jvm.MethodName) jdk_33_method_13_code (4 : Nat) (Option.some Jvm.ClassFile.FieldType.int)).before args0 about1 = true := code_word (m := ⟨15, 1⟩) (meth := k15m1) (c := k15c1) (by decide +kernel) rfl rfl rfl (by decide +kernel)
set_option maxRecDepth 65536 in
theorem w_c20 : (Jvm.Cond.code ({ cls := "java/lang/AbstractStringBuilder", name := "isLatin1", desc := "()Z" } : Jvm.MethodName) jdk_68_method_68_code (1 : Nat) (Option.some Jvm.ClassFile.FieldType.boolean)).before args0 about1 = true := code_word (m := ⟨11, 7⟩) (meth := k11m7) (c := k11c7) (by decide +kernel) rfl rfl rfl (by decide +kernel)
set_option maxRecDepth 65536 in
theorem w_c21 : (Jvm.Cond.code ({ cls := "java/lang/Integer", name := "getChars", desc := "(II[B)I" } : Jvm.MethodName) jdk_33_method_12_code (7 : Nat) (Option.some Jvm.ClassFile.FieldType.int)).before args0 about1 = true := code_word (m := ⟨15, 0⟩) (meth := k15m0) (c := k15c0) (by decide +kernel) rfl rfl rfl (by decide +kernel)
set_option maxRecDepth 65536 in
theorem w_c22 : (Jvm.Cond.code ({ cls := "java/lang/StringBuilder", name := "toString", desc := "()Ljava/lang/String;" } : Jvm.MethodName) jdk_67_method_42_code (1 : Nat) (Option.some (Jvm.ClassFile.FieldType.object "java/lang/String"))).before args0 about1 = true := code_word (m := ⟨12, 3⟩) (meth := k12m3) (c := k12c3) (by decide +kernel) rfl rfl rfl (by decide +kernel)
set_option maxRecDepth 65536 in
theorem w_c23 : (Jvm.Cond.code ({ cls := "java/lang/String", name := "<init>", desc := "(Ljava/lang/StringBuilder;)V" } : Jvm.MethodName) jdk_42_method_53_code (2 : Nat) (Option.none : Option Jvm.ClassFile.FieldType)).before args0 about1 = true := code_word (m := ⟨7, 2⟩) (meth := k7m2) (c := k7c2) (by decide +kernel) rfl rfl rfl (by decide +kernel)
set_option maxRecDepth 65536 in
theorem w_c24 : (Jvm.Cond.code ({ cls := "java/lang/String", name := "<init>", desc := "(Ljava/lang/AbstractStringBuilder;Ljava/lang/Void;)V" } : Jvm.MethodName) jdk_42_method_150_code (5 : Nat) (Option.none : Option Jvm.ClassFile.FieldType)).before args0 about1 = true := code_word (m := ⟨7, 7⟩) (meth := k7m7) (c := k7c7) (by decide +kernel) rfl rfl rfl (by decide +kernel)
set_option maxRecDepth 65536 in
theorem w_c25 : (Jvm.Cond.code ({ cls := "java/lang/AbstractStringBuilder", name := "getValue", desc := "()[B" } : Jvm.MethodName) jdk_68_method_64_code (1 : Nat) (Option.some (Jvm.ClassFile.FieldType.array Jvm.ClassFile.FieldType.byte))).before args0 about1 = true := code_word (m := ⟨11, 6⟩) (meth := k11m6) (c := k11c6) (by decide +kernel) rfl rfl rfl (by decide +kernel)
set_option maxRecDepth 65536 in
theorem w_c26 : (Jvm.Cond.code ({ cls := "java/lang/StringBuilder", name := "length", desc := "()I" } : Jvm.MethodName) jdk_67_method_93_code (1 : Nat) (Option.some Jvm.ClassFile.FieldType.int)).before args0 about1 = true := code_word (m := ⟨12, 4⟩) (meth := k12m4) (c := k12c4) (by decide +kernel) rfl rfl rfl (by decide +kernel)
set_option maxRecDepth 65536 in
theorem w_c27 : (Jvm.Cond.code ({ cls := "java/lang/AbstractStringBuilder", name := "length", desc := "()I" } : Jvm.MethodName) jdk_68_method_6_code (1 : Nat) (Option.some Jvm.ClassFile.FieldType.int)).before args0 about1 = true := code_word (m := ⟨11, 2⟩) (meth := k11m2) (c := k11c2) (by decide +kernel) rfl rfl rfl (by decide +kernel)
set_option maxRecDepth 65536 in
theorem w_c28 : (Jvm.Cond.code ({ cls := "java/util/Arrays", name := "copyOfRange", desc := "([BII)[B" } : Jvm.MethodName) jdk_65_method_132_code (3 : Nat) (Option.some (Jvm.ClassFile.FieldType.array Jvm.ClassFile.FieldType.byte))).before args0 about1 = true := code_word (m := ⟨16, 2⟩) (meth := k16m2) (c := k16c2) (by decide +kernel) rfl rfl rfl (by decide +kernel)
set_option maxRecDepth 65536 in
theorem w_c29 : (Jvm.Cond.code ({ cls := "java/util/Arrays", name := "copyOfRangeByte", desc := "([BII)[B" } : Jvm.MethodName) jdk_65_method_133_code (5 : Nat) (Option.some (Jvm.ClassFile.FieldType.array Jvm.ClassFile.FieldType.byte))).before args0 about1 = true := code_word (m := ⟨16, 3⟩) (meth := k16m3) (c := k16c3) (by decide +kernel) rfl rfl rfl (by decide +kernel)
set_option maxRecDepth 65536 in
theorem w_c30 : (Jvm.Cond.code ({ cls := "java/util/Arrays", name := "checkLength", desc := "(II)V" } : Jvm.MethodName) jdk_65_method_131_code (2 : Nat) (Option.none : Option Jvm.ClassFile.FieldType)).before args0 about1 = true := code_word (m := ⟨16, 1⟩) (meth := k16m1) (c := k16c1) (by decide +kernel) rfl rfl rfl (by decide +kernel)
set_option maxRecDepth 65536 in
theorem w_c31 : (Jvm.Cond.code ({ cls := "java/lang/Math", name := "min", desc := "(II)I" } : Jvm.MethodName) jdk_29_method_69_code (2 : Nat) (Option.some Jvm.ClassFile.FieldType.int)).before args0 about1 = true := code_word (m := ⟨17, 2⟩) (meth := k17m2) (c := k17c2) (by decide +kernel) rfl rfl rfl (by decide +kernel)
set_option maxRecDepth 65536 in
theorem w_c32 : (Jvm.Cond.code ({ cls := "java/lang/Math", name := "abs", desc := "(J)J" } : Jvm.MethodName) jdk_29_method_61_code (2 : Nat) (Option.some Jvm.ClassFile.FieldType.long)).before args0 about1 = true := code_word (m := ⟨17, 1⟩) (meth := k17m1) (c := k17c1) (by decide +kernel) rfl rfl rfl (by decide +kernel)
set_option maxRecDepth 65536 in
theorem w_c33 : (Jvm.Cond.code ({ cls := "com/example/tallystick/tallystick/cli/HostPortToStringPinLaw", name := "digits", desc := "(J)I" } : Jvm.MethodName) method_3_code (2 : Nat) (Option.some Jvm.ClassFile.FieldType.int)).before args0 about1 = true := code_word (m := ⟨1, 2⟩) (meth := k1m2) (c := k1c2) (by decide +kernel) rfl rfl rfl (by decide +kernel)
set_option maxRecDepth 65536 in
theorem w_c34 : (Jvm.Cond.code ({ cls := "java/lang/String", name := "charAt", desc := "(I)C" } : Jvm.MethodName) jdk_42_method_56_code (2 : Nat) (Option.some Jvm.ClassFile.FieldType.char)).before args0 about1 = true := code_word (m := ⟨7, 4⟩) (meth := k7m4) (c := k7c4) (by decide +kernel) rfl rfl rfl (by decide +kernel)
set_option maxRecDepth 65536 in
theorem w_c35 : (Jvm.Cond.code ({ cls := "java/lang/String", name := "isLatin1", desc := "()Z" } : Jvm.MethodName) jdk_42_method_154_code (1 : Nat) (Option.some Jvm.ClassFile.FieldType.boolean)).before args0 about1 = true := code_word (m := ⟨7, 9⟩) (meth := k7m9) (c := k7c9) (by decide +kernel) rfl rfl rfl (by decide +kernel)
set_option maxRecDepth 65536 in
theorem w_c36 : (Jvm.Cond.code ({ cls := "java/lang/StringLatin1", name := "charAt", desc := "([BI)C" } : Jvm.MethodName) jdk_43_method_2_code (2 : Nat) (Option.some Jvm.ClassFile.FieldType.char)).before args0 about1 = true := code_word (m := ⟨18, 1⟩) (meth := k18m1) (c := k18c1) (by decide +kernel) rfl rfl rfl (by decide +kernel)
set_option maxRecDepth 65536 in
theorem w_c37 : (Jvm.Cond.code ({ cls := "java/lang/String", name := "checkIndex", desc := "(II)V" } : Jvm.MethodName) jdk_42_method_155_code (2 : Nat) (Option.none : Option Jvm.ClassFile.FieldType)).before args0 about1 = true := code_word (m := ⟨7, 10⟩) (meth := k7m10) (c := k7c10) (by decide +kernel) rfl rfl rfl (by decide +kernel)
set_option maxRecDepth 65536 in
theorem w_c38 : (Jvm.Cond.code ({ cls := "jdk/internal/util/Preconditions", name := "checkIndex", desc := "(IILjava/util/function/BiFunction;)I" } : Jvm.MethodName) jdk_41_method_11_code (3 : Nat) (Option.some Jvm.ClassFile.FieldType.int)).before args0 about1 = true := code_word (m := ⟨19, 1⟩) (meth := k19m1) (c := k19c1) (by decide +kernel) rfl rfl rfl (by decide +kernel)
set_option maxRecDepth 65536 in
theorem w_c39 : (Jvm.Cond.code ({ cls := "com/example/tallystick/tallystick/cli/HostPortToStringPinLaw", name := "digitOk", desc := "(Ljava/lang/String;IJII)Z" } : Jvm.MethodName) method_5_code (8 : Nat) (Option.some Jvm.ClassFile.FieldType.boolean)).before args0 about1 = true := code_word (m := ⟨1, 4⟩) (meth := k1m4) (c := k1c4) (by decide +kernel) rfl rfl rfl (by decide +kernel)
set_option maxRecDepth 65536 in
theorem w_c40 : (Jvm.Cond.code ({ cls := "com/example/tallystick/tallystick/cli/HostPortToStringPinLaw", name := "pow10", desc := "(I)J" } : Jvm.MethodName) method_4_code (2 : Nat) (Option.some Jvm.ClassFile.FieldType.long)).before args0 about1 = true := code_word (m := ⟨1, 3⟩) (meth := k1m3) (c := k1c3) (by decide +kernel) rfl rfl rfl (by decide +kernel)
set_option maxRecDepth 65536 in
theorem w_c41 : (Jvm.Cond.code ({ cls := "java/lang/StringUTF16", name := "compress", desc := "([CII)[B" } : Jvm.MethodName) jdk_52_method_16_code (6 : Nat) (Option.some (Jvm.ClassFile.FieldType.array Jvm.ClassFile.FieldType.byte))).before args0 about1 = true := code_word (m := ⟨20, 2⟩) (meth := k20m2) (c := k20c2) (by decide +kernel) rfl rfl rfl (by decide +kernel)
set_option maxRecDepth 65536 in
theorem w_c42 : (Jvm.Cond.code ({ cls := "java/lang/StringUTF16", name := "compress", desc := "([CI[BII)I" } : Jvm.MethodName) jdk_52_method_21_code (7 : Nat) (Option.some Jvm.ClassFile.FieldType.int)).before args0 about1 = true := code_word (m := ⟨20, 3⟩) (meth := k20m3) (c := k20c3) (by decide +kernel) rfl rfl rfl (by decide +kernel)
set_option maxRecDepth 65536 in
theorem w_c43 : (Jvm.Cond.code ({ cls := "java/lang/StringUTF16", name := "coderFromArrayLen", desc := "([BI)B" } : Jvm.MethodName) jdk_52_method_15_code (2 : Nat) (Option.some Jvm.ClassFile.FieldType.byte)).before args0 about1 = true := code_word (m := ⟨20, 1⟩) (meth := k20m1) (c := k20c1) (by decide +kernel) rfl rfl rfl (by decide +kernel)
def codes1 : List Jvm.Cond := [Jvm.Cond.code x code maxLocals ret, Jvm.Cond.code ({ cls := "java/lang/String", name := "<init>", desc := "([C)V" } : Jvm.MethodName) jdk_42_method_3_code (2 : Nat) (Option.none : Option Jvm.ClassFile.FieldType), Jvm.Cond.code ({ cls := "java/lang/String", name := "<init>", desc := "([CIILjava/lang/Void;)V" } : Jvm.MethodName) jdk_42_method_149_code (6 : Nat) (Option.none : Option Jvm.ClassFile.FieldType), Jvm.Cond.code ({ cls := "java/lang/Object", name := "<init>", desc := "()V" } : Jvm.MethodName) object_method_1_code (1 : Nat) (Option.none : Option Jvm.ClassFile.FieldType), Jvm.Cond.code ({ cls := "com/example/tallystick/tallystick/cli/HostPort", name := "<init>", desc := "(Ljava/lang/String;I)V" } : Jvm.MethodName) prog_44_method_1_code (3 : Nat) (Option.none : Option Jvm.ClassFile.FieldType), Jvm.Cond.code ({ cls := "java/lang/Record", name := "<init>", desc := "()V" } : Jvm.MethodName) jdk_30_method_1_code (1 : Nat) (Option.none : Option Jvm.ClassFile.FieldType), Jvm.Cond.code ({ cls := "com/example/tallystick/tallystick/cli/HostPort", name := "toString", desc := "()Ljava/lang/String;" } : Jvm.MethodName) prog_44_method_6_code (1 : Nat) (Option.some (Jvm.ClassFile.FieldType.object "java/lang/String")), Jvm.Cond.code ({ cls := "java/lang/StringBuilder", name := "<init>", desc := "()V" } : Jvm.MethodName) jdk_67_method_1_code (1 : Nat) (Option.none : Option Jvm.ClassFile.FieldType), Jvm.Cond.code ({ cls := "java/lang/AbstractStringBuilder", name := "<init>", desc := "(I)V" } : Jvm.MethodName) jdk_68_method_2_code (2 : Nat) (Option.none : Option Jvm.ClassFile.FieldType), Jvm.Cond.code ({ cls := "java/lang/StringBuilder", name := "append", desc := "(Ljava/lang/String;)Ljava/lang/StringBuilder;" } : Jvm.MethodName) jdk_67_method_7_code (2 : Nat) (Option.some (Jvm.ClassFile.FieldType.object "java/lang/StringBuilder")), Jvm.Cond.code ({ cls := "java/lang/AbstractStringBuilder", name := "append", desc := "(Ljava/lang/String;)Ljava/lang/AbstractStringBuilder;" } : Jvm.MethodName) jdk_68_method_22_code (3 : Nat) (Option.some (Jvm.ClassFile.FieldType.object "java/lang/AbstractStringBuilder")), Jvm.Cond.code ({ cls := "java/lang/String", name := "length", desc := "()I" } : Jvm.MethodName) jdk_42_method_54_code (1 : Nat) (Option.some Jvm.ClassFile.FieldType.int), Jvm.Cond.code ({ cls := "java/lang/String", name := "coder", desc := "()B" } : Jvm.MethodName) jdk_42_method_152_code (1 : Nat) (Option.some Jvm.ClassFile.FieldType.byte), Jvm.Cond.code ({ cls := "java/lang/AbstractStringBuilder", name := "ensureCapacityInternal", desc := "(I)V" } : Jvm.MethodName) jdk_68_method_9_code (3 : Nat) (Option.none : Option Jvm.ClassFile.FieldType), Jvm.Cond.code ({ cls := "java/lang/AbstractStringBuilder", name := "putStringAt", desc := "(ILjava/lang/String;)V" } : Jvm.MethodName) jdk_68_method_73_code (3 : Nat) (Option.none : Option Jvm.ClassFile.FieldType), Jvm.Cond.code ({ cls := "java/lang/AbstractStringBuilder", name := "inflateIfNeededFor", desc := "(Ljava/lang/String;)V" } : Jvm.MethodName) jdk_68_method_71_code (2 : Nat) (Option.none : Option Jvm.ClassFile.FieldType), Jvm.Cond.code ({ cls := "java/lang/String", name := "getBytes", desc := "([BIB)V" } : Jvm.MethodName) jdk_42_method_147_code (4 : Nat) (Option.none : Option Jvm.ClassFile.FieldType), Jvm.Cond.code ({ cls := "java/lang/StringBuilder", name := "append", desc := "(I)Ljava/lang/StringBuilder;" } : Jvm.MethodName) jdk_67_method_15_code (2 : Nat) (Option.some (Jvm.ClassFile.FieldType.object "java/lang/StringBuilder")), Jvm.Cond.code ({ cls := "java/lang/AbstractStringBuilder", name := "append", desc := "(I)Ljava/lang/AbstractStringBuilder;" } : Jvm.MethodName) jdk_68_method_32_code (4 : Nat) (Option.some (Jvm.ClassFile.FieldType.object "java/lang/AbstractStringBuilder")), Jvm.Cond.code ({ cls := "java/lang/Integer", name := "stringSize", desc := "(I)I" } : Jvm.MethodName) jdk_33_method_13_code (4 : Nat) (Option.some Jvm.ClassFile.FieldType.int), Jvm.Cond.code ({ cls := "java/lang/AbstractStringBuilder", name := "isLatin1", desc := "()Z" } : Jvm.MethodName) jdk_68_method_68_code (1 : Nat) (Option.some Jvm.ClassFile.FieldType.boolean), Jvm.Cond.code ({ cls := "java/lang/Integer", name := "getChars", desc := "(II[B)I" } : Jvm.MethodName) jdk_33_method_12_code (7 : Nat) (Option.some Jvm.ClassFile.FieldType.int), Jvm.Cond.code ({ cls := "java/lang/StringBuilder", name := "toString", desc := "()Ljava/lang/String;" } : Jvm.MethodName) jdk_67_method_42_code (1 : Nat) (Option.some (Jvm.ClassFile.FieldType.object "java/lang/String")), Jvm.Cond.code ({ cls := "java/lang/String", name := "<init>", desc := "(Ljava/lang/StringBuilder;)V" } : Jvm.MethodName) jdk_42_method_53_code (2 : Nat) (Option.none : Option Jvm.ClassFile.FieldType), Jvm.Cond.code ({ cls := "java/lang/String", name := "<init>", desc := "(Ljava/lang/AbstractStringBuilder;Ljava/lang/Void;)V" } : Jvm.MethodName) jdk_42_method_150_code (5 : Nat) (Option.none : Option Jvm.ClassFile.FieldType), Jvm.Cond.code ({ cls := "java/lang/AbstractStringBuilder", name := "getValue", desc := "()[B" } : Jvm.MethodName) jdk_68_method_64_code (1 : Nat) (Option.some (Jvm.ClassFile.FieldType.array Jvm.ClassFile.FieldType.byte)), Jvm.Cond.code ({ cls := "java/lang/StringBuilder", name := "length", desc := "()I" } : Jvm.MethodName) jdk_67_method_93_code (1 : Nat) (Option.some Jvm.ClassFile.FieldType.int), Jvm.Cond.code ({ cls := "java/lang/AbstractStringBuilder", name := "length", desc := "()I" } : Jvm.MethodName) jdk_68_method_6_code (1 : Nat) (Option.some Jvm.ClassFile.FieldType.int), Jvm.Cond.code ({ cls := "java/util/Arrays", name := "copyOfRange", desc := "([BII)[B" } : Jvm.MethodName) jdk_65_method_132_code (3 : Nat) (Option.some (Jvm.ClassFile.FieldType.array Jvm.ClassFile.FieldType.byte)), Jvm.Cond.code ({ cls := "java/util/Arrays", name := "copyOfRangeByte", desc := "([BII)[B" } : Jvm.MethodName) jdk_65_method_133_code (5 : Nat) (Option.some (Jvm.ClassFile.FieldType.array Jvm.ClassFile.FieldType.byte)), Jvm.Cond.code ({ cls := "java/util/Arrays", name := "checkLength", desc := "(II)V" } : Jvm.MethodName) jdk_65_method_131_code (2 : Nat) (Option.none : Option Jvm.ClassFile.FieldType), Jvm.Cond.code ({ cls := "java/lang/Math", name := "min", desc := "(II)I" } : Jvm.MethodName) jdk_29_method_69_code (2 : Nat) (Option.some Jvm.ClassFile.FieldType.int), Jvm.Cond.code ({ cls := "java/lang/Math", name := "abs", desc := "(J)J" } : Jvm.MethodName) jdk_29_method_61_code (2 : Nat) (Option.some Jvm.ClassFile.FieldType.long), Jvm.Cond.code ({ cls := "com/example/tallystick/tallystick/cli/HostPortToStringPinLaw", name := "digits", desc := "(J)I" } : Jvm.MethodName) method_3_code (2 : Nat) (Option.some Jvm.ClassFile.FieldType.int), Jvm.Cond.code ({ cls := "java/lang/String", name := "charAt", desc := "(I)C" } : Jvm.MethodName) jdk_42_method_56_code (2 : Nat) (Option.some Jvm.ClassFile.FieldType.char), Jvm.Cond.code ({ cls := "java/lang/String", name := "isLatin1", desc := "()Z" } : Jvm.MethodName) jdk_42_method_154_code (1 : Nat) (Option.some Jvm.ClassFile.FieldType.boolean), Jvm.Cond.code ({ cls := "java/lang/StringLatin1", name := "charAt", desc := "([BI)C" } : Jvm.MethodName) jdk_43_method_2_code (2 : Nat) (Option.some Jvm.ClassFile.FieldType.char), Jvm.Cond.code ({ cls := "java/lang/String", name := "checkIndex", desc := "(II)V" } : Jvm.MethodName) jdk_42_method_155_code (2 : Nat) (Option.none : Option Jvm.ClassFile.FieldType), Jvm.Cond.code ({ cls := "jdk/internal/util/Preconditions", name := "checkIndex", desc := "(IILjava/util/function/BiFunction;)I" } : Jvm.MethodName) jdk_41_method_11_code (3 : Nat) (Option.some Jvm.ClassFile.FieldType.int), Jvm.Cond.code ({ cls := "com/example/tallystick/tallystick/cli/HostPortToStringPinLaw", name := "digitOk", desc := "(Ljava/lang/String;IJII)Z" } : Jvm.MethodName) method_5_code (8 : Nat) (Option.some Jvm.ClassFile.FieldType.boolean), Jvm.Cond.code ({ cls := "com/example/tallystick/tallystick/cli/HostPortToStringPinLaw", name := "pow10", desc := "(I)J" } : Jvm.MethodName) method_4_code (2 : Nat) (Option.some Jvm.ClassFile.FieldType.long), Jvm.Cond.code ({ cls := "java/lang/StringUTF16", name := "compress", desc := "([CII)[B" } : Jvm.MethodName) jdk_52_method_16_code (6 : Nat) (Option.some (Jvm.ClassFile.FieldType.array Jvm.ClassFile.FieldType.byte)), Jvm.Cond.code ({ cls := "java/lang/StringUTF16", name := "compress", desc := "([CI[BII)I" } : Jvm.MethodName) jdk_52_method_21_code (7 : Nat) (Option.some Jvm.ClassFile.FieldType.int), Jvm.Cond.code ({ cls := "java/lang/StringUTF16", name := "coderFromArrayLen", desc := "([BI)B" } : Jvm.MethodName) jdk_52_method_15_code (2 : Nat) (Option.some Jvm.ClassFile.FieldType.byte)]
set_option maxRecDepth 65536 in
theorem codes_eq : words1.filter isCode = codes1 := rfl
theorem w_codes : ∀ c ∈ words1.filter isCode, c.before args0 about1 = true := by
  rw [codes_eq]
  intro c hc
  simp only [codes1, List.mem_cons, List.not_mem_nil, or_false] at hc
  rcases hc with rfl | rfl | rfl | rfl | rfl | rfl | rfl | rfl | rfl | rfl | rfl | rfl | rfl | rfl | rfl | rfl | rfl | rfl | rfl | rfl | rfl | rfl | rfl | rfl | rfl | rfl | rfl | rfl | rfl | rfl | rfl | rfl | rfl | rfl | rfl | rfl | rfl | rfl | rfl | rfl | rfl | rfl | rfl | rfl
  · exact w_c0
  · exact w_c1
  · exact w_c2
  · exact w_c3
  · exact w_c4
  · exact w_c5
  · exact w_c6
  · exact w_c7
  · exact w_c8
  · exact w_c9
  · exact w_c10
  · exact w_c11
  · exact w_c12
  · exact w_c13
  · exact w_c14
  · exact w_c15
  · exact w_c16
  · exact w_c17
  · exact w_c18
  · exact w_c19
  · exact w_c20
  · exact w_c21
  · exact w_c22
  · exact w_c23
  · exact w_c24
  · exact w_c25
  · exact w_c26
  · exact w_c27
  · exact w_c28
  · exact w_c29
  · exact w_c30
  · exact w_c31
  · exact w_c32
  · exact w_c33
  · exact w_c34
  · exact w_c35
  · exact w_c36
  · exact w_c37
  · exact w_c38
  · exact w_c39
  · exact w_c40
  · exact w_c41
  · exact w_c42
  · exact w_c43
set_option maxRecDepth 65536 in
theorem w_t1 : (words1.take 24).all (fun c => isCode c || c.before args0 about1) = true := by decide +kernel
set_option maxRecDepth 65536 in
theorem w_t2 : ((words1.drop 24).take 24).all (fun c => isCode c || c.before args0 about1) = true := by decide +kernel
set_option maxRecDepth 65536 in
theorem w_t3 : (((words1.drop 24).drop 24).take 24).all (fun c => isCode c || c.before args0 about1) = true := by decide +kernel
set_option maxRecDepth 65536 in
theorem w_t4 : ((((words1.drop 24).drop 24).drop 24).take 24).all (fun c => isCode c || c.before args0 about1) = true := by decide +kernel
set_option maxRecDepth 65536 in
theorem w_t5 : (((((words1.drop 24).drop 24).drop 24).drop 24).take 24).all (fun c => isCode c || c.before args0 about1) = true := by decide +kernel
set_option maxRecDepth 65536 in
theorem w_t6 : ((((((words1.drop 24).drop 24).drop 24).drop 24).drop 24).take 24).all (fun c => isCode c || c.before args0 about1) = true := by decide +kernel
set_option maxRecDepth 65536 in
theorem w_t7 : (((((((words1.drop 24).drop 24).drop 24).drop 24).drop 24).drop 24).take 24).all (fun c => isCode c || c.before args0 about1) = true := by decide +kernel
set_option maxRecDepth 65536 in
theorem w_t8 : ((((((((words1.drop 24).drop 24).drop 24).drop 24).drop 24).drop 24).drop 24).take 24).all (fun c => isCode c || c.before args0 about1) = true := by decide +kernel
set_option maxRecDepth 65536 in
theorem w_t9 : (((((((((words1.drop 24).drop 24).drop 24).drop 24).drop 24).drop 24).drop 24).drop 24).take 24).all (fun c => isCode c || c.before args0 about1) = true := by decide +kernel
set_option maxRecDepth 65536 in
theorem w_t10 : (((((((((words1.drop 24).drop 24).drop 24).drop 24).drop 24).drop 24).drop 24).drop 24).drop 24).all (fun c => isCode c || c.before args0 about1) = true := by decide +kernel
theorem w_tables : (allAtoms (Jvm.Cond.code x code maxLocals ret :: tables_1)).before args0 about1 = true := by
  rw [allAtoms_all]
  show words1.all (fun c => c.before args0 about1) = true
  refine all_split ?_ w_codes
  rw [← List.take_append_drop 24 words1, List.all_append, w_t1, ← List.take_append_drop 24 (words1.drop 24), List.all_append, w_t2, ← List.take_append_drop 24 ((words1.drop 24).drop 24), List.all_append, w_t3, ← List.take_append_drop 24 (((words1.drop 24).drop 24).drop 24), List.all_append, w_t4, ← List.take_append_drop 24 ((((words1.drop 24).drop 24).drop 24).drop 24), List.all_append, w_t5, ← List.take_append_drop 24 (((((words1.drop 24).drop 24).drop 24).drop 24).drop 24), List.all_append, w_t6, ← List.take_append_drop 24 ((((((words1.drop 24).drop 24).drop 24).drop 24).drop 24).drop 24), List.all_append, w_t7, ← List.take_append_drop 24 (((((((words1.drop 24).drop 24).drop 24).drop 24).drop 24).drop 24).drop 24), List.all_append, w_t8, ← List.take_append_drop 24 ((((((((words1.drop 24).drop 24).drop 24).drop 24).drop 24).drop 24).drop 24).drop 24), List.all_append, w_t9, w_t10]
  rfl
set_option maxRecDepth 65536 in
theorem w_rest : rest_1_c.before args0 about1 = true := by decide +kernel
set_option maxRecDepth 65536 in
theorem w_case : (Jvm.Cond.and given_1 narrow_1).before args0 about1 = true := by decide +kernel
set_option maxRecDepth 65536 in
theorem w_consts : constsHeld consts_1 about1 := Jvm.Lit.constsHeldB_iff.mp (by decide +kernel)
theorem w_applies : (headSpec (Jvm.Cond.code x code maxLocals ret :: tables_1) room_1).applies x e0.platform about1 = true :=
  (Spec.applies_iff w_frames).mpr ⟨w_running, w_runnable, w_alone, w_named, w_hears, w_ripe, w_room, w_tables⟩
theorem atStart : AtStart classFile x code maxLocals ret World_1 tables_1 room_1 Calls_1 rest_1 Pre_1 launch0 p0 e0 about1 theMethod args0 below0 :=
  ⟨lists_1, trivial, launch0.admits_env _ _ _, launch0.least_env, fairChoices_fair.cas, fairChoices_fair.clock, w_frames, w_args, w_heap, w_applies, ⟨w_consts, trivial⟩, w_rest, w_case⟩
end start1
theorem witness_1 : WitnessClaimed_1 := ⟨start1.p0, start1.e0, start1.about1, start1.theMethod, start1.args0, start1.below0, start1.atStart⟩
end Jvm.Pilot.@@N@@
