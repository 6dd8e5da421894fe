import JvmDerived
import JvmDerived.Pilot.@@N@@Statement
import JvmDerived.Pilot.@@N@@Code
set_option linter.unusedVariables false
set_option linter.unusedSimpArgs false
/- laws to paste: Road.backV, lo8_mask, shr0, Road.CodA (cut by pick.py; bodies as the Statement names them) -/
namespace Jvm.Pilot.@@N@@
namespace StrChars
open Jvm Sem ClassFile Op Lib Jvm.Stand Jvm.Free.XT Jvm.Free.ALB Jvm.Free.JM Jvm.Free
open Jvm.Lib.Cold (StaticIs)
/-- a char array whose places are chars -/
def Ch (a : Addr) (A : Cell) (U : State) : Prop := Arr .char a A U ∧ Typed .char A
theorem Ch.mv {a : Addr} {A : Cell} {U U' : State} (h : Ch a A U) (hal : U.vm.Alike U'.vm) (hh : U'.heap = U.heap) : Ch a A U' := ⟨h.1.mv hal hh, h.2⟩
theorem Ch.keep {a : Addr} {A : Cell} {U U' : State} (h : Ch a A U) (hal : U.vm.Alike U'.vm) (hk : U'.heap[a]? = some A) : Ch a A U' := ⟨h.1.keep hal hk, h.2⟩
/-- what place i of a char[]'s cell holds -/
def cv (A : Cell) (i : Nat) : Int32 := match A.slots[i]? with | some (.int x) => x | _ => 0
theorem Ch.get {a : Addr} {A : Cell} {U : State} (h : Ch a A U) {i : Nat} (hi : i < A.slots.size) : A.slots[i]? = some (.int (cv A i)) := by
  have e := Array.getElem?_eq_getElem hi
  have f := h.2 i _ e
  unfold cv; rw [e]
  generalize A.slots[i] = v at f
  cases v <;> simp [fits] at f ⊢
/-- the byte that i2b leaves of a char -/
def lo8 (x : Int32) : Int32 := x.toInt8.toInt32
theorem fits_lo8 (y : Int32) : fits .byte (.int (lo8 y)) = true := by
  have h1 := y.toInt8.le_toInt
  have h2 := y.toInt8.toInt_lt
  simp only [lo8, fits, Bool.and_eq_true, decide_eq_true_eq, Int32.le_iff_toInt_le, Int8.toInt_toInt32, show (-128 : Int32).toInt = -128 from by decide, show (127 : Int32).toInt = 127 from by decide]
  omega
/-- A' is A but that each place j of lo .. hi - 1 holds f j -/
def Laid (A A' : Cell) (lo hi : Nat) (f : Nat → Value) : Prop := A'.cls = A.cls ∧ A'.vm = A.vm ∧ A'.slots.size = A.slots.size ∧ ∀ i, A'.slots[i]? = if lo ≤ i ∧ i < hi then some (f i) else A.slots[i]?
theorem Laid.zero (A : Cell) (lo : Nat) (f : Nat → Value) : Laid A A lo (lo + 0) f := ⟨rfl, rfl, rfl, fun i => by rw [if_neg (by omega)]⟩
theorem Laid.step {A Ak : Cell} {lo k : Nat} {f : Nat → Value} {v : Value} (h : Laid A Ak lo k f) (hlo : lo ≤ k) (hk : k < Ak.slots.size) (hv : v = f k) : Laid A (Ak.setSlot k v) lo (k + 1) f := by
  refine ⟨h.1, h.2.1, by simpa [Cell.setSlot] using h.2.2.1, fun i => ?_⟩
  by_cases e : k = i
  · subst e; rw [Cell.slots_setSlot_self v hk, if_pos (by omega), hv]
  · rw [Cell.slots_setSlot_ne v e, h.2.2.2 i]
    by_cases q : lo ≤ i ∧ i < k
    · rw [if_pos q, if_pos (by omega)]
    · rw [if_neg q, if_neg (by omega)]
def U16 : String := "java/lang/StringUTF16"
namespace Cmp5
def yN : MethodName := ⟨"java/lang/StringUTF16", "compress", "([CI[BII)I"⟩
abbrev yB : ByteArray := jdk_52_method_21_code
theorem d0 : decode yB 0 = .ok (.iconst 0, 1) := by decide +kernel
theorem d1 : decode yB 1 = .ok (.istore 5, 2) := by decide +kernel
theorem d3 : decode yB 3 = .ok (.iload 5, 2) := by decide +kernel
theorem d5 : decode yB 5 = .ok (.iload 4, 2) := by decide +kernel
theorem d7 : decode yB 7 = .ok (.if_icmp (.ge) 37, 3) := by decide +kernel
theorem d10 : decode yB 10 = .ok (.aload_n 0, 1) := by decide +kernel
theorem d11 : decode yB 11 = .ok (.iload_n 1, 1) := by decide +kernel
theorem d12 : decode yB 12 = .ok (.caload, 1) := by decide +kernel
theorem d13 : decode yB 13 = .ok (.istore 6, 2) := by decide +kernel
theorem d15 : decode yB 15 = .ok (.iload 6, 2) := by decide +kernel
theorem d17 : decode yB 17 = .ok (.sipush 255, 3) := by decide +kernel
theorem d20 : decode yB 20 = .ok (.if_icmp (.le) 6, 3) := by decide +kernel
theorem d26 : decode yB 26 = .ok (.aload_n 2, 1) := by decide +kernel
theorem d27 : decode yB 27 = .ok (.iload_n 3, 1) := by decide +kernel
theorem d28 : decode yB 28 = .ok (.iload 6, 2) := by decide +kernel
theorem d30 : decode yB 30 = .ok (.i2b, 1) := by decide +kernel
theorem d31 : decode yB 31 = .ok (.bastore, 1) := by decide +kernel
theorem d32 : decode yB 32 = .ok (.iinc 1 1, 3) := by decide +kernel
theorem d35 : decode yB 35 = .ok (.iinc 3 1, 3) := by decide +kernel
theorem d38 : decode yB 38 = .ok (.iinc 5 1, 3) := by decide +kernel
theorem d41 : decode yB 41 = .ok (.goto (-38), 3) := by decide +kernel
theorem d44 : decode yB 44 = .ok (.iload 4, 2) := by decide +kernel
theorem d46 : decode yB 46 = .ok (.ireturn, 1) := by decide +kernel
def site : List Cond := []
def tab : Cond := tabOf yN yB 7 (some .int) site
def P (b : Addr) (A : Cell) (d : Addr) (B : Cell) (o q len : Nat) (args : Array Value) (s : State) : Prop := args = #[.ref b, .int (Int32.ofNat o), .ref d, .int (Int32.ofNat q), .int (Int32.ofNat len)] ∧ Ch b A s ∧ Arr .byte d B s ∧ b ≠ d ∧ o + len ≤ A.slots.size ∧ q + len ≤ B.slots.size ∧ ∀ i, i < len → ¬ 255 < cv A (o + i)
def E (b : Addr) (A : Cell) (d : Addr) (B : Cell) (o q len : Nat) (r : Option Value) (s u : State) : Prop := r = some (.int (Int32.ofNat len)) ∧ ∃ B', Put d B' s u ∧ Laid B B' q (q + len) (fun j => Value.int (lo8 (cv A (o + (j - q)))))
/-- no char of the range above 255: len; the places written hold each char's low byte -/
theorem law (l : Launch) (b : Addr) (A : Cell) (d : Addr) (B : Cell) (o q len : Nat) : Law l yN 5 5 0 0 yB 7 (some .int) site (P b A d B o q len) (E b A d B o q len) (copyLocs d q len) 0 0 := by
  refine Law.of_walk (plainFor_of_name (by decide +kernel)) (by decide +kernel) (by decide +kernel) (by decide) (fun _ _ h => by rw [h.1]; rfl) (fun _ U U' hal hh h => ⟨h.1, h.2.1.mv hal hh, h.2.2.1.mv hal hh, h.2.2.2⟩) (fun r U U' V V' h1 hal h2 h => ⟨h.1, h.2.elim fun B' q => ⟨B', q.1.mv h1 h2, q.2⟩⟩) ?_
  intro p e s m args below meth c s₁ X0 hexec hbytes hml hret hlk hnm hown hh0 W hP
  obtain ⟨rfl, hA, hB, hne, l1, l2, hp⟩ := hP
  have c1 : Steps p.tables e below (s₁.setTop (entryFrame m #[.ref b, .int (Int32.ofNat o), .ref d, .int (Int32.ofNat q), .int (Int32.ofNat len)] 7)) (s₁.setTop (mkF m 0 #[.val (.ref b), .val (.int (Int32.ofNat o)), .val (.ref d), .val (.int (Int32.ofNat q)), .val (.int (Int32.ofNat len)), .unset, .unset] [])) := entry rfl
  have hA0 := hA.1.mv X0.warmed.alike hh0
  have hB0 := hB.mv X0.warmed.alike hh0
  have a31 := hA.1.2.2.2
  have c2 : Steps p.tables e below (s₁.setTop (entryFrame m #[.ref b, .int (Int32.ofNat o), .ref d, .int (Int32.ofNat q), .int (Int32.ofNat len)] 7)) (s₁.setTop (mkF m 3 #[.val (.ref b), .val (.int (Int32.ofNat o)), .val (.ref d), .val (.int (Int32.ofNat q)), .val (.int (Int32.ofNat len)), .val (.int 0), .unset] [])) := c1.trans (by
    refine iconstV X0.here hexec rfl 0 (hb hbytes d0) (by decide) ?_
    refine XS.istore X0.here hexec rfl (hb hbytes d1) rfl rfl ?_
    exact Steps.refl _)
  have loop : ∀ (r i : Nat), i + r = len → ∀ (z : Slot), (z = .unset ∨ ∃ w, z = .val w ∧ w.category = 1) → ∀ (Tl : State) (Bk : Cell), Stand p l e { frames := 0, locals := 0, cells := 0, slots := 0 } s m #[.ref b, .int (Int32.ofNat o), .ref d, .int (Int32.ofNat q), .int (Int32.ofNat len)] below meth c Tl ([] ++ copyLocs d q i) 0 0 → Put d Bk s₁ Tl → Laid B Bk q (q + i) (fun j => Value.int (lo8 (cv A (o + (j - q))))) →
      Steps p.tables e below (s₁.setTop (entryFrame m #[.ref b, .int (Int32.ofNat o), .ref d, .int (Int32.ofNat q), .int (Int32.ofNat len)] 7)) (Tl.setTop (mkF m 3 #[.val (.ref b), .val (.int (Int32.ofNat (o + i))), .val (.ref d), .val (.int (Int32.ofNat (q + i))), .val (.int (Int32.ofNat len)), .val (.int (Int32.ofNat i)), z] [])) → ∃ (T' : State) (B' : Cell) (z' : Slot), Stand p l e { frames := 0, locals := 0, cells := 0, slots := 0 } s m #[.ref b, .int (Int32.ofNat o), .ref d, .int (Int32.ofNat q), .int (Int32.ofNat len)] below meth c T' ([] ++ copyLocs d q len) 0 0 ∧ Put d B' s₁ T' ∧ Laid B B' q (q + len) (fun j => Value.int (lo8 (cv A (o + (j - q))))) ∧
      Steps p.tables e below (s₁.setTop (entryFrame m #[.ref b, .int (Int32.ofNat o), .ref d, .int (Int32.ofNat q), .int (Int32.ofNat len)] 7)) (T'.setTop (mkF m 3 #[.val (.ref b), .val (.int (Int32.ofNat (o + len))), .val (.ref d), .val (.int (Int32.ofNat (q + len))), .val (.int (Int32.ofNat len)), .val (.int (Int32.ofNat len)), z'] [])) := by
    intro r
    induction r with
    | zero =>
      intro i hi z hz Tl Bk Xl pl fl cl
      have hil : i = len := by omega
      rw [hil] at Xl fl cl
      exact ⟨Tl, Bk, z, Xl, pl, fl, cl⟩
    | succ r ih =>
      intro i hi z hz Tl Bk Xl pl fl cl
      have all := X0.warmed.alike.symm.trans Xl.warmed.alike
      have hAl := hA0.keep all (pl.other hne hA0.1)
      have hBk := hB0.like all pl.1 fl.1 fl.2.1 fl.2.2.1
      have hlt : q + i < Bk.slots.size := by rw [fl.2.2.1]; omega
      have c3 : Steps p.tables e below (s₁.setTop (entryFrame m #[.ref b, .int (Int32.ofNat o), .ref d, .int (Int32.ofNat q), .int (Int32.ofNat len)] 7)) (Tl.setTop (mkF m 12 #[.val (.ref b), .val (.int (Int32.ofNat (o + i))), .val (.ref d), .val (.int (Int32.ofNat (q + i))), .val (.int (Int32.ofNat len)), .val (.int (Int32.ofNat i)), z] [.int (Int32.ofNat (o + i)), .ref b])) := cl.trans (by
        refine XS.iload Xl.here hexec rfl (hb hbytes d3) rfl ?_
        refine XS.iload Xl.here hexec rfl (hb hbytes d5) rfl ?_
        refine XS.icmpNo Xl.here hexec rfl (hb hbytes d7) rfl (ii_ge_f (lt32 (by omega) (by omega))) ?_
        refine XS.aloadN Xl.here hexec rfl (hb hbytes d10) rfl rfl ?_
        refine XS.iloadN Xl.here hexec rfl (hb hbytes d11) rfl ?_
        exact Steps.refl _)
      have c4 : Steps p.tables e below (s₁.setTop (entryFrame m #[.ref b, .int (Int32.ofNat o), .ref d, .int (Int32.ofNat q), .int (Int32.ofNat len)] 7)) (Tl.setTop (mkF m 13 #[.val (.ref b), .val (.int (Int32.ofNat (o + i))), .val (.ref d), .val (.int (Int32.ofNat (q + i))), .val (.int (Int32.ofNat len)), .val (.int (Int32.ofNat i)), z] [.int (cv A (o + i))])) := c3.trans (by
        refine Xl.aget hexec hAl rfl (hA.get (i := o + i) (by omega)) rfl rfl (hb hbytes d12) ?_
        exact Steps.refl _)
      have c5 : Steps p.tables e below (s₁.setTop (entryFrame m #[.ref b, .int (Int32.ofNat o), .ref d, .int (Int32.ofNat q), .int (Int32.ofNat len)] 7)) (Tl.setTop (mkF m 15 #[.val (.ref b), .val (.int (Int32.ofNat (o + i))), .val (.ref d), .val (.int (Int32.ofNat (q + i))), .val (.int (Int32.ofNat len)), .val (.int (Int32.ofNat i)), .val (.int (cv A (o + i)))] [])) := c4.trans (by
        refine XS.istoreS Xl.here hexec rfl (hb hbytes d13) rfl rfl hz ?_
        exact Steps.refl _)
      have c6 : Steps p.tables e below (s₁.setTop (entryFrame m #[.ref b, .int (Int32.ofNat o), .ref d, .int (Int32.ofNat q), .int (Int32.ofNat len)] 7)) (Tl.setTop (mkF m 31 #[.val (.ref b), .val (.int (Int32.ofNat (o + i))), .val (.ref d), .val (.int (Int32.ofNat (q + i))), .val (.int (Int32.ofNat len)), .val (.int (Int32.ofNat i)), .val (.int (cv A (o + i)))] [.int (lo8 (cv A (o + i))), .int (Int32.ofNat (q + i)), .ref d])) := c5.trans (by
        refine XS.iload Xl.here hexec rfl (hb hbytes d15) rfl ?_
        refine sipushV Xl.here hexec rfl 255 (hb hbytes d17) (by decide) ?_
        refine XS.icmpYes Xl.here hexec rfl (pc0 := 20) rfl (hb hbytes d20) rfl (ii_le_t (hp i (by omega))) (by decide) rfl ?_
        refine XS.aloadN Xl.here hexec rfl (hb hbytes d26) rfl rfl ?_
        refine XS.iloadN Xl.here hexec rfl (hb hbytes d27) rfl ?_
        refine XS.iload Xl.here hexec rfl (hb hbytes d28) rfl ?_
        refine i2b Xl.here hexec rfl (hb hbytes d30) rfl ?_
        exact Steps.refl _)
      obtain ⟨T7, X7, p7, st7⟩ := Xl.aput hexec hBk rfl hlt rfl (fits_lo8 (cv A (o + i))) (g := (mkF m 31 #[.val (.ref b), .val (.int (Int32.ofNat (o + i))), .val (.ref d), .val (.int (Int32.ofNat (q + i))), .val (.int (Int32.ofNat len)), .val (.int (Int32.ofNat i)), .val (.int (cv A (o + i)))] [.int (lo8 (cv A (o + i))), .int (Int32.ofNat (q + i)), .ref d])) rfl (rest := []) rfl (hb hbytes d31)
      have c8 : Steps p.tables e below (s₁.setTop (entryFrame m #[.ref b, .int (Int32.ofNat o), .ref d, .int (Int32.ofNat q), .int (Int32.ofNat len)] 7)) (T7.setTop (mkF m 32 #[.val (.ref b), .val (.int (Int32.ofNat (o + i))), .val (.ref d), .val (.int (Int32.ofNat (q + i))), .val (.int (Int32.ofNat len)), .val (.int (Int32.ofNat i)), .val (.int (cv A (o + i)))] [])) := c6.trans (st7 _ (Steps.refl _))
      have c9 : Steps p.tables e below (s₁.setTop (entryFrame m #[.ref b, .int (Int32.ofNat o), .ref d, .int (Int32.ofNat q), .int (Int32.ofNat len)] 7)) (T7.setTop (mkF m 3 #[.val (.ref b), .val (.int (Int32.ofNat (o + i) + 1)), .val (.ref d), .val (.int (Int32.ofNat (q + i) + 1)), .val (.int (Int32.ofNat len)), .val (.int (Int32.ofNat i + 1)), .val (.int (cv A (o + i)))] [])) := c8.trans (by
        refine iincV X7.here hexec rfl 1 (hb hbytes d32) (by decide) rfl rfl ?_
        refine iincV X7.here hexec rfl 1 (hb hbytes d35) (by decide) rfl rfl ?_
        refine iincV X7.here hexec rfl 1 (hb hbytes d38) (by decide) rfl rfl ?_
        refine XS.goto X7.here hexec rfl (pc0 := 41) rfl (hb hbytes d41) (by decide) rfl ?_
        exact Steps.refl _)
      have c10 : Steps p.tables e below (s₁.setTop (entryFrame m #[.ref b, .int (Int32.ofNat o), .ref d, .int (Int32.ofNat q), .int (Int32.ofNat len)] 7)) (T7.setTop (mkF m 3 #[.val (.ref b), .val (.int (Int32.ofNat (o + (i + 1)))), .val (.ref d), .val (.int (Int32.ofNat (q + (i + 1)))), .val (.int (Int32.ofNat len)), .val (.int (Int32.ofNat (i + 1))), .val (.int (cv A (o + i)))] [])) := by
        have := c9
        rw [succ32, succ32, succ32] at this
        exact this
      exact ih (i + 1) (by omega) _ (Or.inr ⟨_, rfl, rfl⟩) T7 _ (by rw [copyLocs_step, ← List.append_assoc]; exact X7) (pl.trans p7) (fl.step (by omega) hlt (by simp)) c10
  obtain ⟨T9, B9, z9, X9, p9, f9, g9⟩ := loop len 0 (by omega) .unset (Or.inl rfl) s₁ B (by simpa [copyLocs] using X0) ⟨hB0.1, fun _ _ => rfl, rfl⟩ (Laid.zero _ _ _) c2
  have c11 : Steps p.tables e below (s₁.setTop (entryFrame m #[.ref b, .int (Int32.ofNat o), .ref d, .int (Int32.ofNat q), .int (Int32.ofNat len)] 7)) (T9.setTop (mkF m 46 #[.val (.ref b), .val (.int (Int32.ofNat (o + len))), .val (.ref d), .val (.int (Int32.ofNat (q + len))), .val (.int (Int32.ofNat len)), .val (.int (Int32.ofNat len)), z9] [.int (Int32.ofNat len)])) := g9.trans (by
    refine XS.iload X9.here hexec rfl (hb hbytes d3) rfl ?_
    refine XS.iload X9.here hexec rfl (hb hbytes d5) rfl ?_
    refine XS.icmpYes X9.here hexec rfl (pc0 := 7) rfl (hb hbytes d7) rfl (ii_ge_t (nlt32 (by omega) (Nat.le_refl _))) (by decide) rfl ?_
    refine XS.iload X9.here hexec rfl (hb hbytes d44) rfl ?_
    exact Steps.refl _)
  exact ⟨T9, some (.int (Int32.ofNat len)), _, _, _, X9, by simp, rfl, rfl, (fun h => by cases h), ⟨rfl, B9, p9.from hh0, f9⟩, fun fs hl => c11.trans (X9.ireturnOut hexec hret rfl (Or.inl rfl) (hb hbytes d46) hl)⟩
end Cmp5
namespace Cmp3
def yN : MethodName := ⟨"java/lang/StringUTF16", "compress", "([CII)[B"⟩
abbrev yB : ByteArray := jdk_52_method_16_code
theorem d0 : decode yB 0 = .ok (.iload_n 2, 1) := by decide +kernel
theorem d1 : decode yB 1 = .ok (.newarray .byte, 2) := by decide +kernel
theorem d3 : decode yB 3 = .ok (.astore_n 3, 1) := by decide +kernel
theorem d4 : decode yB 4 = .ok (.aload_n 0, 1) := by decide +kernel
theorem d5 : decode yB 5 = .ok (.iload_n 1, 1) := by decide +kernel
theorem d6 : decode yB 6 = .ok (.aload_n 3, 1) := by decide +kernel
theorem d7 : decode yB 7 = .ok (.iconst 0, 1) := by decide +kernel
theorem d8 : decode yB 8 = .ok (.iload_n 2, 1) := by decide +kernel
theorem d9 : decode yB 9 = .ok (.invokestatic 115, 3) := by decide +kernel
theorem d12 : decode yB 12 = .ok (.istore 4, 2) := by decide +kernel
theorem d14 : decode yB 14 = .ok (.iload 4, 2) := by decide +kernel
theorem d16 : decode yB 16 = .ok (.iload_n 2, 1) := by decide +kernel
theorem d17 : decode yB 17 = .ok (.if_icmp (.eq) 40, 3) := by decide +kernel
theorem d57 : decode yB 57 = .ok (.aload_n 3, 1) := by decide +kernel
theorem d58 : decode yB 58 = .ok (.areturn, 1) := by decide +kernel
def site : List Cond := [.arrayClass .byte, Cmp5.tab] ++ staticW U16 115 Cmp5.yN
def tab : Cond := tabOf yN yB 6 (some (.array .byte)) site
def P (b : Addr) (A : Cell) (o len : Nat) (args : Array Value) (s : State) : Prop := args = #[.ref b, .int (Int32.ofNat o), .int (Int32.ofNat len)] ∧ Ch b A s ∧ o + len ≤ A.slots.size ∧ len ≤ 536870912 ∧ ∀ i, i < len → ¬ 255 < cv A (o + i)
def E (b : Addr) (A : Cell) (o len : Nat) (r : Option Value) (s u : State) : Prop := NewArr .byte "[B" len (fun j => .int (lo8 (cv A (o + j)))) r s u ∧ u.heap.size = s.heap.size + 1
/-- no char of the range above 255: a new byte[] of their low bytes -/
theorem law (l : Launch) (b : Addr) (A : Cell) (o len : Nat) : Law l yN 3 3 1 18 yB 6 (some (.array .byte)) site (P b A o len) (E b A o len) [] 1 len := by
  refine Law.of_walk (plainFor_of_name (by decide +kernel)) (by decide +kernel) (by decide +kernel) (by decide) (fun _ _ h => by rw [h.1]; rfl) (fun _ U U' hal hh h => ⟨h.1, h.2.1.mv hal hh, h.2.2⟩) (fun r U U' V V' h1 hal h2 h => ⟨NewArr.mv r U U' V V' h1 hal h2 h.1, by rw [h1, h2]; exact h.2⟩) ?_
  intro p e s m args below meth c s₁ X0 hexec hbytes hml hret hlk hnm hown hh0 W hP
  obtain ⟨rfl, hA, l1, l2, hp⟩ := hP
  have a31 := hA.1.2.2.2
  have c1 : Steps p.tables e below (s₁.setTop (entryFrame m #[.ref b, .int (Int32.ofNat o), .int (Int32.ofNat len)] 6)) (s₁.setTop (mkF m 0 #[.val (.ref b), .val (.int (Int32.ofNat o)), .val (.int (Int32.ofNat len)), .unset, .unset, .unset] [])) := entry rfl
  have c2 : Steps p.tables e below (s₁.setTop (entryFrame m #[.ref b, .int (Int32.ofNat o), .int (Int32.ofNat len)] 6)) (s₁.setTop (mkF m 1 #[.val (.ref b), .val (.int (Int32.ofNat o)), .val (.int (Int32.ofNat len)), .unset, .unset, .unset] [.int (Int32.ofNat len)])) := c1.trans (by
    refine XS.iloadN X0.here hexec rfl (hb hbytes d0) rfl ?_
    exact Steps.refl _)
  obtain ⟨T3, B3, X3, ba3, bs3, bv3, bh3, bf3, st3⟩ := X0.anew hexec (atype := .byte) (wk W (.arrayClass .byte)) rfl (by show len * 1 ≤ _; omega) (by omega) (g := (mkF m 1 #[.val (.ref b), .val (.int (Int32.ofNat o)), .val (.int (Int32.ofNat len)), .unset, .unset, .unset] [.int (Int32.ofNat len)])) rfl (hb hbytes d1) (rest := []) rfl (Nat.le_refl _) (by show 0 + len ≤ len; omega)
  rw [hh0] at ba3 st3
  have kp3 : XT.Kept s T3 := (XT.Kept.of_eq hh0).push bh3
  have hA3 := hA.keep X3.warmed.alike (kp3 _ _ hA.1.1)
  have hne : b ≠ s.heap.size := hA.1.ne
  have c4 : Steps p.tables e below (s₁.setTop (entryFrame m #[.ref b, .int (Int32.ofNat o), .int (Int32.ofNat len)] 6)) (T3.setTop (mkF m 3 #[.val (.ref b), .val (.int (Int32.ofNat o)), .val (.int (Int32.ofNat len)), .unset, .unset, .unset] [.ref s.heap.size])) := c2.trans (st3 _ (Steps.refl _))
  have c5 : Steps p.tables e below (s₁.setTop (entryFrame m #[.ref b, .int (Int32.ofNat o), .int (Int32.ofNat len)] 6)) (T3.setTop (mkF m 9 #[.val (.ref b), .val (.int (Int32.ofNat o)), .val (.int (Int32.ofNat len)), .val (.ref s.heap.size), .unset, .unset] [.int (Int32.ofNat len), .int 0, .ref s.heap.size, .int (Int32.ofNat o), .ref b])) := c4.trans (by
    refine XS.astoreN X3.here hexec rfl (hb hbytes d3) rfl rfl rfl ?_
    refine XS.aloadN X3.here hexec rfl (hb hbytes d4) rfl rfl ?_
    refine XS.iloadN X3.here hexec rfl (hb hbytes d5) rfl ?_
    refine XS.aloadN X3.here hexec rfl (hb hbytes d6) rfl rfl ?_
    refine iconstV X3.here hexec rfl 0 (hb hbytes d7) (by decide) ?_
    refine XS.iloadN X3.here hexec rfl (hb hbytes d8) rfl ?_
    exact Steps.refl _)
  obtain ⟨v6, T6, X6, E6, g6⟩ := X3.callS hexec (Cmp5.law l b A s.heap.size B3 o 0 len) hown (wks W (staticW U16 115 Cmp5.yN)) (wk W Cmp5.tab) (W := 0) (Nat.le_of_ble_eq_true rfl) (Nat.le_of_ble_eq_true rfl) (Nat.le_refl _) (by show 0 + len + 0 ≤ len; omega) (g := (mkF m 9 #[.val (.ref b), .val (.int (Int32.ofNat o)), .val (.int (Int32.ofNat len)), .val (.ref s.heap.size), .unset, .unset] [.int (Int32.ofNat len), .int (Int32.ofNat 0), .ref s.heap.size, .int (Int32.ofNat o), .ref b])) rfl (by rw [hml]; rfl) c5 (argsL := [.ref b, .int (Int32.ofNat o), .ref s.heap.size, .int (Int32.ofNat 0), .int (Int32.ofNat len)]) (rest := []) rfl rfl (by show 2 * 0 + 0 ≤ _; decide) (hb hbytes d9) (⟨rfl, hA3, ba3, hne, l1, by rw [bs3]; simp, hp⟩)
  obtain ⟨rfl, B6, p6, f6⟩ := E6
  have c7 : Steps p.tables e below (s₁.setTop (entryFrame m #[.ref b, .int (Int32.ofNat o), .int (Int32.ofNat len)] 6)) (T6.setTop (mkF m 12 #[.val (.ref b), .val (.int (Int32.ofNat o)), .val (.int (Int32.ofNat len)), .val (.ref s.heap.size), .unset, .unset] [.int (Int32.ofNat len)])) := g6
  have c8 : Steps p.tables e below (s₁.setTop (entryFrame m #[.ref b, .int (Int32.ofNat o), .int (Int32.ofNat len)] 6)) (T6.setTop (mkF m 58 #[.val (.ref b), .val (.int (Int32.ofNat o)), .val (.int (Int32.ofNat len)), .val (.ref s.heap.size), .val (.int (Int32.ofNat len)), .unset] [.ref s.heap.size])) := c7.trans (by
    refine XS.istore X6.here hexec rfl (hb hbytes d12) rfl rfl ?_
    refine XS.iload X6.here hexec rfl (hb hbytes d14) rfl ?_
    refine XS.iloadN X6.here hexec rfl (hb hbytes d16) rfl ?_
    refine XS.icmpYes X6.here hexec rfl (pc0 := 17) rfl (hb hbytes d17) rfl (ii_eq_t rfl) (by decide) rfl ?_
    refine XS.aloadN X6.here hexec rfl (hb hbytes d57) rfl rfl ?_
    exact Steps.refl _)
  have X8 := X6.wide (L' := []) (cells' := 1) (slots' := len) (fun x hx hlt => by
    simp only [List.nil_append, copyLocs, List.mem_map, List.mem_range] at hx
    obtain ⟨i, -, rfl⟩ := hx
    exact absurd hlt (Nat.lt_irrefl _)) (Nat.le_refl _) (by omega)
  exact ⟨T6, some (.ref s.heap.size), _, _, _, X8, rfl, rfl, rfl, (fun h => by cases h), ⟨⟨rfl, B6, ba3.like (X3.warmed.alike.symm.trans X6.warmed.alike) p6.1 f6.1 f6.2.1 f6.2.2.1, f6.2.1.trans bv3, by rw [X6.warmed.alike.findClass, f6.1]; exact bf3, by rw [f6.2.2.1, bs3]; simp, fun j hj => by rw [f6.2.2.2 j, if_pos (by omega)]; rfl, kp3.put p6 (Nat.le_refl _)⟩, by rw [p6.2.2, bh3, hh0]; simp⟩, fun fs hl => c8.trans (X8.areturnOut hexec rfl hret rfl (hb hbytes d58) hl)⟩
end Cmp3
namespace CodL
def yN : MethodName := ⟨"java/lang/StringUTF16", "coderFromArrayLen", "([BI)B"⟩
abbrev yB : ByteArray := jdk_52_method_15_code
theorem d0 : decode yB 0 = .ok (.iload_n 1, 1) := by decide +kernel
theorem d1 : decode yB 1 = .ok (.aload_n 0, 1) := by decide +kernel
theorem d2 : decode yB 2 = .ok (.arraylength, 1) := by decide +kernel
theorem d3 : decode yB 3 = .ok (.isub, 1) := by decide +kernel
theorem d4 : decode yB 4 = .ok (.bipush 31, 2) := by decide +kernel
theorem d6 : decode yB 6 = .ok (.iushr, 1) := by decide +kernel
theorem d7 : decode yB 7 = .ok (.i2b, 1) := by decide +kernel
theorem d8 : decode yB 8 = .ok (.ireturn, 1) := by decide +kernel
def site : List Cond := []
def tab : Cond := tabOf yN yB 2 (some .byte) site
def P (d : Addr) (B : Cell) (args : Array Value) (s : State) : Prop := args = #[.ref d, .int (Int32.ofNat B.slots.size)] ∧ Arr .byte d B s
def E (r : Option Value) (s u : State) : Prop := XT.PureE (some (.int 0)) r s u
/-- an array as long as the number of chars: LATIN1 -/
theorem law (l : Launch) (d : Addr) (B : Cell) : Law l yN 2 2 0 0 yB 2 (some .byte) site (P d B) E [] 0 0 := by
  refine Law.of_walk (plainFor_of_name (by decide +kernel)) (by decide +kernel) (by decide +kernel) (by decide) (fun _ _ h => by rw [h.1]; rfl) (fun _ U U' hal hh h => ⟨h.1, h.2.mv hal hh⟩) (fun r U U' V V' h1 hal h2 h => XT.PureE.mv r U U' V V' h1 hal h2 h) ?_
  intro p e s m args below meth c s₁ X0 hexec hbytes hml hret hlk hnm hown hh0 W hP
  obtain ⟨rfl, hB⟩ := hP
  have hB0 := hB.mv X0.warmed.alike hh0
  have c1 : Steps p.tables e below (s₁.setTop (entryFrame m #[.ref d, .int (Int32.ofNat B.slots.size)] 2)) (s₁.setTop (mkF m 0 #[.val (.ref d), .val (.int (Int32.ofNat B.slots.size))] [])) := entry rfl
  have c2 : Steps p.tables e below (s₁.setTop (entryFrame m #[.ref d, .int (Int32.ofNat B.slots.size)] 2)) (s₁.setTop (mkF m 2 #[.val (.ref d), .val (.int (Int32.ofNat B.slots.size))] [.ref d, .int (Int32.ofNat B.slots.size)])) := c1.trans (by
    refine XS.iloadN X0.here hexec rfl (hb hbytes d0) rfl ?_
    refine XS.aloadN X0.here hexec rfl (hb hbytes d1) rfl rfl ?_
    exact Steps.refl _)
  have c3 : Steps p.tables e below (s₁.setTop (entryFrame m #[.ref d, .int (Int32.ofNat B.slots.size)] 2)) (s₁.setTop (mkF m 8 #[.val (.ref d), .val (.int (Int32.ofNat B.slots.size))] [.int (lo8 (ushr (Int32.ofNat B.slots.size - Int32.ofNat B.slots.size) 31))])) := c2.trans (by
    refine X0.alen hexec hB0 rfl rfl (hb hbytes d2) ?_
    refine XS.isub X0.here hexec rfl (hb hbytes d3) rfl ?_
    refine bipushV X0.here hexec rfl 31 (hb hbytes d4) (by decide) ?_
    refine iushr X0.here hexec rfl (hb hbytes d6) rfl ?_
    refine i2b X0.here hexec rfl (hb hbytes d7) rfl ?_
    exact Steps.refl _)
  have e0 : lo8 (ushr (Int32.ofNat B.slots.size - Int32.ofNat B.slots.size) 31) = 0 := by rw [Int32.sub_self]; decide
  rw [e0] at c3
  exact ⟨s₁, some (.int 0), _, _, _, X0, rfl, rfl, rfl, (fun h => by cases h), ⟨rfl, hh0⟩, fun fs hl => c3.trans (X0.ireturnOut hexec hret rfl (Or.inr (Or.inr (Or.inl rfl))) (hb hbytes d8) hl)⟩
end CodL
/-- the String at a is Latin-1 over a new byte[] (the heap's one new cell): the low bytes of the len chars of A from o on; every cell but a is kept -/
def Got (a : Addr) (D : Cell) (fV fC : Field) (A : Cell) (o len : Nat) (r : Option Value) (s u : State) : Prop := r = none ∧ ∃ D' V : Cell, Blank "java/lang/String" a D' u ∧ Same D D' [fV.slot, fC.slot] ∧ D'.slots[fV.slot]? = some (.ref s.heap.size) ∧ D'.slots[fC.slot]? = some (.int 0) ∧ Arr .byte s.heap.size V u ∧ V.vm = .none ∧ u.vm.findClass "[B" = some V.cls ∧ V.slots.size = len ∧ (∀ j, j < len → V.slots[j]? = some (.int (lo8 (cv A (o + j))))) ∧ (∀ (y : Addr) (c : Cell), y ≠ a → s.heap[y]? = some c → u.heap[y]? = some c) ∧ u.heap.size = s.heap.size + 1
theorem Got.mv {a : Addr} {D A : Cell} {fV fC : Field} {o len : Nat} : ∀ r (U U' V V' : State), U'.heap = U.heap → V.vm.Alike V'.vm → V'.heap = V.heap → Got a D fV fC A o len r U V → Got a D fV fC A o len r U' V' :=
  fun r U U' V V' h1 hal h2 ⟨e0, D', X, a1, a2, a3, a4, a5, a6, a7, a8, a9, a10, a11⟩ => ⟨e0, D', X, a1.mv hal h2, a2, by rw [h1]; exact a3, a4, by rw [h1]; exact a5.mv hal h2, a6, by rw [hal.findClass]; exact a7, a8, a9, by rw [h1, h2]; exact a10, by rw [h1, h2]; exact a11⟩
namespace New4
def yN : MethodName := ⟨"java/lang/String", "<init>", "([CIILjava/lang/Void;)V"⟩
abbrev yB : ByteArray := jdk_42_method_149_code
theorem d0 : decode yB 0 = .ok (.aload_n 0, 1) := by decide +kernel
theorem d1 : decode yB 1 = .ok (.invokespecial 1, 3) := by decide +kernel
theorem d4 : decode yB 4 = .ok (.iload_n 3, 1) := by decide +kernel
theorem d5 : decode yB 5 = .ok (.ifCond (.ne) 22, 3) := by decide +kernel
theorem d27 : decode yB 27 = .ok (.getstatic 38, 3) := by decide +kernel
theorem d30 : decode yB 30 = .ok (.ifCond (.eq) 28, 3) := by decide +kernel
theorem d33 : decode yB 33 = .ok (.aload_n 1, 1) := by decide +kernel
theorem d34 : decode yB 34 = .ok (.iload_n 2, 1) := by decide +kernel
theorem d35 : decode yB 35 = .ok (.iload_n 3, 1) := by decide +kernel
theorem d36 : decode yB 36 = .ok (.invokestatic 177, 3) := by decide +kernel
theorem d39 : decode yB 39 = .ok (.astore 5, 2) := by decide +kernel
theorem d41 : decode yB 41 = .ok (.aload_n 0, 1) := by decide +kernel
theorem d42 : decode yB 42 = .ok (.aload 5, 2) := by decide +kernel
theorem d44 : decode yB 44 = .ok (.iload_n 3, 1) := by decide +kernel
theorem d45 : decode yB 45 = .ok (.invokestatic 47, 3) := by decide +kernel
theorem d48 : decode yB 48 = .ok (.putfield 15, 3) := by decide +kernel
theorem d51 : decode yB 51 = .ok (.aload_n 0, 1) := by decide +kernel
theorem d52 : decode yB 52 = .ok (.aload 5, 2) := by decide +kernel
theorem d54 : decode yB 54 = .ok (.putfield 9, 3) := by decide +kernel
theorem d57 : decode yB 57 = .ok (.return_, 1) := by decide +kernel
def site : List Cond := [.fieldLink "java/lang/String" 38 "java/lang/String" "COMPACT_STRINGS" "Z", Cmp3.tab, CodL.tab, .laysFinal "java/lang/String" "java/lang/String" "value" "[B", .fieldLink "java/lang/String" 9 "java/lang/String" "value" "[B", .laysFinal "java/lang/String" "java/lang/String" "coder" "B", .fieldLink "java/lang/String" 15 "java/lang/String" "coder" "B"] ++ objW "java/lang/String" 1 ++ staticW "java/lang/String" 177 Cmp3.yN ++ staticW "java/lang/String" 47 CodL.yN
def tab : Cond := tabOf yN yB 6 none site
def P (a : Addr) (D : Cell) (fV fC : Field) (b : Addr) (A : Cell) (z : Int32) (o len : Nat) (args : Array Value) (s : State) : Prop := args = #[.ref a, .ref b, .int (Int32.ofNat o), .int (Int32.ofNat len), .null] ∧ Blank "java/lang/String" a D s ∧ Found "java/lang/String" "value" "[B" fV s ∧ Found "java/lang/String" "coder" "B" fC s ∧ Ch b A s ∧ StaticIs s "java/lang/String" "COMPACT_STRINGS" "Z" (.int z) ∧ ¬ z = 0 ∧ 0 < len ∧ o + len ≤ A.slots.size ∧ len ≤ 536870912 ∧ ∀ i, i < len → ¬ 255 < cv A (o + i)
def E (a : Addr) (D : Cell) (fV fC : Field) (A : Cell) (o len : Nat) (r : Option Value) (s u : State) : Prop := Got a D fV fC A o len r s u
/-- len > 0, no char of the range above 255: a Latin-1 String of their low bytes -/
theorem law (l : Launch) (a : Addr) (D : Cell) (fV fC : Field) (b : Addr) (A : Cell) (z : Int32) (o len : Nat) : Law l yN 5 4 2 35 yB 6 none site (P a D fV fC b A z o len) (E a D fV fC A o len) [⟨a, fC.slot⟩, ⟨a, fV.slot⟩] 1 len := by
  refine Law.of_walk (plainFor_of_name (by decide +kernel)) (by decide +kernel) (by decide +kernel) (by decide) (fun _ _ h => by rw [h.1]; rfl) (fun _ U U' hal hh h => ⟨h.1, h.2.1.mv hal hh, h.2.2.1.al hal, h.2.2.2.1.al hal, h.2.2.2.2.1.mv hal hh, h.2.2.2.2.2.1.there hal hh, h.2.2.2.2.2.2⟩) (fun r U U' V V' h1 hal h2 h => Got.mv r U U' V V' h1 hal h2 h) ?_
  intro p e s m args below meth c s₁ X0 hexec hbytes hml hret hlk hnm hown hh0 W hP
  obtain ⟨rfl, hB, f1, f2, hA, s1, hz, l0, l1, l2, hp⟩ := hP
  have a31 := hA.1.2.2.2
  have c1 : Steps p.tables e below (s₁.setTop (entryFrame m #[.ref a, .ref b, .int (Int32.ofNat o), .int (Int32.ofNat len), .null] 6)) (s₁.setTop (mkF m 0 #[.val (.ref a), .val (.ref b), .val (.int (Int32.ofNat o)), .val (.int (Int32.ofNat len)), .val .null, .unset] [])) := entry rfl
  have c2 : Steps p.tables e below (s₁.setTop (entryFrame m #[.ref a, .ref b, .int (Int32.ofNat o), .int (Int32.ofNat len), .null] 6)) (s₁.setTop (mkF m 1 #[.val (.ref a), .val (.ref b), .val (.int (Int32.ofNat o)), .val (.int (Int32.ofNat len)), .val .null, .unset] [.ref a])) := c1.trans (by
    refine XS.aloadN X0.here hexec rfl (hb hbytes d0) rfl rfl ?_
    exact Steps.refl _)
  obtain ⟨T3, X3, q3, st3⟩ := X0.oinit hexec hown (wks W (objW "java/lang/String" 1)) (g := (mkF m 1 #[.val (.ref a), .val (.ref b), .val (.int (Int32.ofNat o)), .val (.int (Int32.ofNat len)), .val .null, .unset] [.ref a])) rfl (by rw [hml]; rfl) (rest := []) rfl (hb hbytes d1) (W := 0) (by show 2 * 0 + 0 ≤ _; decide) (Nat.le_of_ble_eq_true rfl) (Nat.le_of_ble_eq_true rfl)
  have hh3 := q3.trans hh0
  have c4 : Steps p.tables e below (s₁.setTop (entryFrame m #[.ref a, .ref b, .int (Int32.ofNat o), .int (Int32.ofNat len), .null] 6)) (T3.setTop (mkF m 27 #[.val (.ref a), .val (.ref b), .val (.int (Int32.ofNat o)), .val (.int (Int32.ofNat len)), .val .null, .unset] [])) := (c2.trans (st3 _ (Steps.refl _))).trans (by
    refine XS.iloadN X3.here hexec rfl (hb hbytes d4) rfl ?_
    refine XS.ifYes X3.here hexec rfl (pc0 := 5) rfl (hb hbytes d5) rfl (i0_ne_t (nz32 (by omega) l0)) (by decide) rfl ?_
    exact Steps.refl _)
  obtain ⟨T5, X5, q5, st5⟩ := X3.sget hexec hown (wk W (.fieldLink "java/lang/String" 38 "java/lang/String" "COMPACT_STRINGS" "Z")) s1 (fun _ _ h => by rw [hh3]; exact h) (g := (mkF m 27 #[.val (.ref a), .val (.ref b), .val (.int (Int32.ofNat o)), .val (.int (Int32.ofNat len)), .val .null, .unset] [])) rfl (hb hbytes d27)
  have hh5 := q5.trans hh3
  have c6 : Steps p.tables e below (s₁.setTop (entryFrame m #[.ref a, .ref b, .int (Int32.ofNat o), .int (Int32.ofNat len), .null] 6)) (T5.setTop (mkF m 30 #[.val (.ref a), .val (.ref b), .val (.int (Int32.ofNat o)), .val (.int (Int32.ofNat len)), .val .null, .unset] [.int z])) := c4.trans (st5 _ (Steps.refl _))
  have c7 : Steps p.tables e below (s₁.setTop (entryFrame m #[.ref a, .ref b, .int (Int32.ofNat o), .int (Int32.ofNat len), .null] 6)) (T5.setTop (mkF m 36 #[.val (.ref a), .val (.ref b), .val (.int (Int32.ofNat o)), .val (.int (Int32.ofNat len)), .val .null, .unset] [.int (Int32.ofNat len), .int (Int32.ofNat o), .ref b])) := c6.trans (by
    refine XS.ifNo X5.here hexec rfl (hb hbytes d30) rfl (i0_eq_f hz) ?_
    refine XS.aloadN X5.here hexec rfl (hb hbytes d33) rfl rfl ?_
    refine XS.iloadN X5.here hexec rfl (hb hbytes d34) rfl ?_
    refine XS.iloadN X5.here hexec rfl (hb hbytes d35) rfl ?_
    exact Steps.refl _)
  obtain ⟨v8, T8, X8, E8, g8⟩ := X5.callS hexec (Cmp3.law l b A o len) hown (wks W (staticW "java/lang/String" 177 Cmp3.yN)) (wk W Cmp3.tab) (W := 0) (Nat.le_of_ble_eq_true rfl) (Nat.le_of_ble_eq_true rfl) (Nat.le_refl _) (by show 0 + len ≤ len; omega) (g := (mkF m 36 #[.val (.ref a), .val (.ref b), .val (.int (Int32.ofNat o)), .val (.int (Int32.ofNat len)), .val .null, .unset] [.int (Int32.ofNat len), .int (Int32.ofNat o), .ref b])) rfl (by rw [hml]; rfl) c7 (argsL := [.ref b, .int (Int32.ofNat o), .int (Int32.ofNat len)]) (rest := []) rfl rfl (by show 2 * 0 + 0 ≤ _; decide) (hb hbytes d36) (⟨rfl, hA.mv X5.warmed.alike hh5, l1, l2, hp⟩)
  obtain ⟨e8, z8⟩ := E8
  obtain ⟨rfl, N, n1, n2, n3, n4, n5, n6⟩ := NewArr.mv _ T5 s _ _ hh5.symm (Vm.Alike.refl _) rfl e8
  rw [hh5] at z8
  have hB1 := hB.keep X8.warmed.alike (n6 _ _ hB.1)
  have hne : s.heap.size ≠ a := (Nat.ne_of_lt (Array.getElem?_eq_some_iff.mp hB.1).1).symm
  have c9 : Steps p.tables e below (s₁.setTop (entryFrame m #[.ref a, .ref b, .int (Int32.ofNat o), .int (Int32.ofNat len), .null] 6)) (T8.setTop (mkF m 39 #[.val (.ref a), .val (.ref b), .val (.int (Int32.ofNat o)), .val (.int (Int32.ofNat len)), .val .null, .unset] [.ref s.heap.size])) := g8
  have c10 : Steps p.tables e below (s₁.setTop (entryFrame m #[.ref a, .ref b, .int (Int32.ofNat o), .int (Int32.ofNat len), .null] 6)) (T8.setTop (mkF m 45 #[.val (.ref a), .val (.ref b), .val (.int (Int32.ofNat o)), .val (.int (Int32.ofNat len)), .val .null, .val (.ref s.heap.size)] [.int (Int32.ofNat N.slots.size), .ref s.heap.size, .ref a])) := by
    have hc : Steps p.tables e below (s₁.setTop (entryFrame m #[.ref a, .ref b, .int (Int32.ofNat o), .int (Int32.ofNat len), .null] 6)) (T8.setTop (mkF m 45 #[.val (.ref a), .val (.ref b), .val (.int (Int32.ofNat o)), .val (.int (Int32.ofNat len)), .val .null, .val (.ref s.heap.size)] [.int (Int32.ofNat len), .ref s.heap.size, .ref a])) := c9.trans (by
      refine XS.astore X8.here hexec rfl (hb hbytes d39) rfl rfl rfl ?_
      refine XS.aloadN X8.here hexec rfl (hb hbytes d41) rfl rfl ?_
      refine XS.aload X8.here hexec rfl (hb hbytes d42) rfl rfl ?_
      refine XS.iloadN X8.here hexec rfl (hb hbytes d44) rfl ?_
      exact Steps.refl _)
    rw [n4]; exact hc
  obtain ⟨v11, T11, X11, E11, g11⟩ := X8.callS hexec (CodL.law l s.heap.size N) hown (wks W (staticW "java/lang/String" 47 CodL.yN)) (wk W CodL.tab) (W := 1) (Nat.le_of_ble_eq_true rfl) (Nat.le_of_ble_eq_true rfl) (Nat.le_refl _) (by show 0 + len + 0 ≤ len; omega) (g := (mkF m 45 #[.val (.ref a), .val (.ref b), .val (.int (Int32.ofNat o)), .val (.int (Int32.ofNat len)), .val .null, .val (.ref s.heap.size)] [.int (Int32.ofNat N.slots.size), .ref s.heap.size, .ref a])) rfl (by rw [hml]; rfl) c10 (argsL := [.ref s.heap.size, .int (Int32.ofNat N.slots.size)]) (rest := [.ref a]) rfl rfl (by show 2 * 0 + (1 + 0) ≤ _; decide) (hb hbytes d45) (⟨rfl, n1⟩)
  obtain ⟨rfl, q11⟩ := E11
  have hB11 := hB1.mv (X8.warmed.alike.symm.trans X11.warmed.alike) q11
  have c12 : Steps p.tables e below (s₁.setTop (entryFrame m #[.ref a, .ref b, .int (Int32.ofNat o), .int (Int32.ofNat len), .null] 6)) (T11.setTop (mkF m 48 #[.val (.ref a), .val (.ref b), .val (.int (Int32.ofNat o)), .val (.int (Int32.ofNat len)), .val .null, .val (.ref s.heap.size)] [.int 0, .ref a])) := g11
  obtain ⟨T13, X13, p13, bl13, sl13, st13⟩ := X11.finit hexec hown (wk W (.fieldLink "java/lang/String" 15 "java/lang/String" "coder" "B")) (Or.inr ⟨_, (wk W (.laysFinal "java/lang/String" "java/lang/String" "coder" "B"))⟩) (Or.inl ⟨rfl, hnm⟩) f2 (Or.inl rfl) hB11 (t := .byte) (by decide +kernel) rfl (g := (mkF m 48 #[.val (.ref a), .val (.ref b), .val (.int (Int32.ofNat o)), .val (.int (Int32.ofNat len)), .val .null, .val (.ref s.heap.size)] [.int 0, .ref a])) rfl (rest := []) rfl (hb hbytes d48)
  have c14 : Steps p.tables e below (s₁.setTop (entryFrame m #[.ref a, .ref b, .int (Int32.ofNat o), .int (Int32.ofNat len), .null] 6)) (T13.setTop (mkF m 54 #[.val (.ref a), .val (.ref b), .val (.int (Int32.ofNat o)), .val (.int (Int32.ofNat len)), .val .null, .val (.ref s.heap.size)] [.ref s.heap.size, .ref a])) := (c12.trans (st13 _ (Steps.refl _))).trans (by
    refine XS.aloadN X13.here hexec rfl (hb hbytes d51) rfl rfl ?_
    refine XS.aload X13.here hexec rfl (hb hbytes d52) rfl rfl ?_
    exact Steps.refl _)
  obtain ⟨T15, X15, p15, bl15, sl15, st15⟩ := X13.finit hexec hown (wk W (.fieldLink "java/lang/String" 9 "java/lang/String" "value" "[B")) (Or.inr ⟨_, (wk W (.laysFinal "java/lang/String" "java/lang/String" "value" "[B"))⟩) (Or.inl ⟨rfl, hnm⟩) f1 (Or.inl rfl) bl13 (t := (.array .byte)) (by decide +kernel) rfl (g := (mkF m 54 #[.val (.ref a), .val (.ref b), .val (.int (Int32.ofNat o)), .val (.int (Int32.ofNat len)), .val .null, .val (.ref s.heap.size)] [.ref s.heap.size, .ref a])) rfl (rest := []) rfl (hb hbytes d54)
  have c16 : Steps p.tables e below (s₁.setTop (entryFrame m #[.ref a, .ref b, .int (Int32.ofNat o), .int (Int32.ofNat len), .null] 6)) (T15.setTop (mkF m 57 #[.val (.ref a), .val (.ref b), .val (.int (Int32.ofNat o)), .val (.int (Int32.ofNat len)), .val .null, .val (.ref s.heap.size)] [])) := c14.trans (st15 _ (Steps.refl _))
  have ap := apart (Or.inr ⟨_, (wk W (.laysFinal "java/lang/String" "java/lang/String" "value" "[B"))⟩) (Or.inr ⟨_, (wk W (.laysFinal "java/lang/String" "java/lang/String" "coder" "B"))⟩) f1 f2 (t₁ := .array .byte) (t₂ := .byte) (by decide +kernel) (by decide +kernel) (by decide)
  have al := X8.warmed.alike.symm.trans X15.warmed.alike
  have n7 : T11.heap[s.heap.size]? = some N := by rw [q11]; exact n1.1
  exact ⟨T15, none, _, _, _, X15, by simp, rfl, by omega, (fun _ => rfl), ⟨rfl, _, N, bl15, ((Same.refl D _).set _ (by simp)).set _ (by simp), sl15, (Cell.slots_setSlot_ne _ ap).trans sl13, n1.keep al (p15.other hne (p13.other hne n7)), n2, by rw [al.findClass]; exact n3, n4, n5, fun y c h1 h2 => p15.other h1 (p13.other h1 (by rw [q11]; exact n6 y c h2)), by rw [p15.2.2, p13.2.2, q11]; exact z8⟩, fun fs hl => c16.trans (X15.returnOut hexec hret (hb hbytes d57) hl)⟩
end New4
namespace New1
def yN : MethodName := ⟨"java/lang/String", "<init>", "([C)V"⟩
abbrev yB : ByteArray := jdk_42_method_3_code
theorem d0 : decode yB 0 = .ok (.aload_n 0, 1) := by decide +kernel
theorem d1 : decode yB 1 = .ok (.aload_n 1, 1) := by decide +kernel
theorem d2 : decode yB 2 = .ok (.iconst 0, 1) := by decide +kernel
theorem d3 : decode yB 3 = .ok (.aload_n 1, 1) := by decide +kernel
theorem d4 : decode yB 4 = .ok (.arraylength, 1) := by decide +kernel
theorem d5 : decode yB 5 = .ok (.aconst_null, 1) := by decide +kernel
theorem d6 : decode yB 6 = .ok (.invokespecial 27, 3) := by decide +kernel
theorem d9 : decode yB 9 = .ok (.return_, 1) := by decide +kernel
def site : List Cond := [New4.tab] ++ initW "java/lang/String" 27 New4.yN
def tab : Cond := tabOf yN yB 2 none site
def P (a : Addr) (D : Cell) (fV fC : Field) (b : Addr) (A : Cell) (z : Int32) (args : Array Value) (s : State) : Prop := args = #[.ref a, .ref b] ∧ Blank "java/lang/String" a D s ∧ Found "java/lang/String" "value" "[B" fV s ∧ Found "java/lang/String" "coder" "B" fC s ∧ Ch b A s ∧ StaticIs s "java/lang/String" "COMPACT_STRINGS" "Z" (.int z) ∧ ¬ z = 0 ∧ 0 < A.slots.size ∧ A.slots.size ≤ 536870912 ∧ ∀ i, i < A.slots.size → ¬ 255 < cv A i
def E (a : Addr) (D : Cell) (fV fC : Field) (A : Cell) (r : Option Value) (s u : State) : Prop := Got a D fV fC A 0 A.slots.size r s u
/-- new String(chars), not empty, no char above 255: a Latin-1 String of their low bytes -/
theorem law (l : Launch) (a : Addr) (D : Cell) (fV fC : Field) (b : Addr) (A : Cell) (z : Int32) : Law l yN 2 1 3 52 yB 2 none site (P a D fV fC b A z) (E a D fV fC A) [⟨a, fC.slot⟩, ⟨a, fV.slot⟩] 1 A.slots.size := by
  refine Law.of_walk (plainFor_of_name (by decide +kernel)) (by decide +kernel) (by decide +kernel) (by decide) (fun _ _ h => by rw [h.1]; rfl) (fun _ U U' hal hh h => ⟨h.1, h.2.1.mv hal hh, h.2.2.1.al hal, h.2.2.2.1.al hal, h.2.2.2.2.1.mv hal hh, h.2.2.2.2.2.1.there hal hh, h.2.2.2.2.2.2⟩) (fun r U U' V V' h1 hal h2 h => Got.mv r U U' V V' h1 hal h2 h) ?_
  intro p e s m args below meth c s₁ X0 hexec hbytes hml hret hlk hnm hown hh0 W hP
  obtain ⟨rfl, hB, f1, f2, hA, s1, hz, l0, l2, hp⟩ := hP
  have c1 : Steps p.tables e below (s₁.setTop (entryFrame m #[.ref a, .ref b] 2)) (s₁.setTop (mkF m 0 #[.val (.ref a), .val (.ref b)] [])) := entry rfl
  have c2 : Steps p.tables e below (s₁.setTop (entryFrame m #[.ref a, .ref b] 2)) (s₁.setTop (mkF m 6 #[.val (.ref a), .val (.ref b)] [.null, .int (Int32.ofNat A.slots.size), .int 0, .ref b, .ref a])) := c1.trans (by
    refine XS.aloadN X0.here hexec rfl (hb hbytes d0) rfl rfl ?_
    refine XS.aloadN X0.here hexec rfl (hb hbytes d1) rfl rfl ?_
    refine iconstV X0.here hexec rfl 0 (hb hbytes d2) (by decide) ?_
    refine XS.aloadN X0.here hexec rfl (hb hbytes d3) rfl rfl ?_
    refine X0.alen hexec (hA.1.mv X0.warmed.alike hh0) rfl rfl (hb hbytes d4) ?_
    refine XS.aconstNull X0.here hexec rfl (hb hbytes d5) ?_
    exact Steps.refl _)
  obtain ⟨v3, T3, X3, E3, g3⟩ := X0.callN hexec (New4.law l a D fV fC b A z 0 A.slots.size) rfl hown (wks W (initW "java/lang/String" 27 New4.yN)) (W New4.tab (by simp only [site, List.mem_cons, List.mem_append, true_or, or_true])) (W := 0) (Nat.le_of_ble_eq_true rfl) (Nat.le_of_ble_eq_true rfl) (Nat.le_refl _) (by show 0 + A.slots.size ≤ A.slots.size; omega) (g := (mkF m 6 #[.val (.ref a), .val (.ref b)] [.null, .int (Int32.ofNat A.slots.size), .int (Int32.ofNat 0), .ref b, .ref a])) rfl (by rw [hml]; rfl) c2 (argsL := [.ref b, .int (Int32.ofNat 0), .int (Int32.ofNat A.slots.size), .null]) (rest := []) rfl rfl (by show 2 * 0 + 0 ≤ _; decide) (hb hbytes d6) (⟨rfl, hB.mv X0.warmed.alike hh0, f1.al X0.warmed.alike, f2.al X0.warmed.alike, hA.mv X0.warmed.alike hh0, s1.there X0.warmed.alike hh0, hz, l0, by omega, l2, fun i hi => by rw [Nat.zero_add]; exact hp i hi⟩)
  have e0 := Got.mv _ s₁ s _ _ hh0.symm (Vm.Alike.refl _) rfl E3
  obtain rfl := e0.1
  have c4 : Steps p.tables e below (s₁.setTop (entryFrame m #[.ref a, .ref b] 2)) (T3.setTop (mkF m 9 #[.val (.ref a), .val (.ref b)] [])) := g3
  exact ⟨T3, none, _, _, _, X3, by simp, rfl, by omega, (fun _ => rfl), e0, fun fs hl => c4.trans (X3.returnOut hexec hret (hb hbytes d9) hl)⟩
theorem pays {l : Launch} {R : Room} {p : Program} {e : Env} {below : List Frame} {s : State} {sargs : Array Value} {len W : Nat} (a : Addr) (D : Cell) (fV fC : Field) (b : Addr) (A : Cell) (z : Int32) (htab : tab.before sargs s = true) (hfr : 4 ≤ R.frames) (hlo : W + 65 ≤ R.locals) :
    Back l R p e below s sargs yN len W (fun A₁ a₁ => A₁.cells + 1 ≤ R.cells ∧ A₁.slots + A.slots.size ≤ R.slots ∧ P a D fV fC b A z a₁ A₁.U) (fun A₁ _ v₁ B₁ => E a D fV fC A v₁ A₁.U B₁.U ∧ B₁.locs = A₁.locs ++ [⟨a, fC.slot⟩, ⟨a, fV.slot⟩] ∧ B₁.cells = A₁.cells + 1 ∧ B₁.slots = A₁.slots + A.slots.size) :=
  (law l a D fV fC b A z).pays htab hfr (by omega)
end New1
/-- the byte, read back as charAt reads it, is the char -/
theorem lo8_mask {x : Int32} (h0 : ¬ x < 0) (h1 : ¬ 255 < x) : lo8 x &&& 255 = x := by
  have t : ∀ k : Fin 256, lo8 (Int32.ofNat k.val) &&& 255 = Int32.ofNat k.val := by decide +kernel
  rw [Int32.lt_iff_toInt_lt] at h0 h1
  have e0 : (0 : Int32).toInt = 0 := rfl
  have e1 : (255 : Int32).toInt = 255 := rfl
  obtain ⟨k, hk⟩ : ∃ k : Nat, x.toInt = k := ⟨x.toInt.toNat, by omega⟩
  have hx : x = Int32.ofNat k := Int32.toInt_inj.mp (by rw [hk, Int32.toInt_ofNat_small (by omega)])
  rw [hx]
  exact t ⟨k, by omega⟩
end StrChars
namespace StrChars.Road
open Jvm Sem ClassFile Op Lib Jvm.Stand Jvm.Free Jvm.Free.XT
open Jvm.Lib.Cold (StaticIs)
abbrev ST : String := "java/lang/String"
/-- every table word that New1's law asks, flat -/
abbrev words : List Jvm.Cond := [.code New1.yN New1.yB 2 none, .initialized ST, .methodLink ST 27 New4.yN, .instanceMethod New4.yN,
  .code New4.yN New4.yB 6 none, .fieldLink ST 38 ST "COMPACT_STRINGS" "Z", .laysFinal ST ST "value" "[B", .fieldLink ST 9 ST "value" "[B", .laysFinal ST ST "coder" "B", .fieldLink ST 15 ST "coder" "B",
  .methodLink ST 1 Lib.objectInit, .instanceMethod Lib.objectInit, .code Lib.objectInit ⟨#[0xb1]⟩ 1 none, .methodLink ST 177 Cmp3.yN, .static Cmp3.yN, .methodLink ST 47 CodL.yN, .static CodL.yN,
  .code Cmp3.yN Cmp3.yB 6 (some (.array .byte)), .initialized U16, .arrayClass .byte, .methodLink U16 115 Cmp5.yN, .static Cmp5.yN, .code Cmp5.yN Cmp5.yB 7 (some .int), .code CodL.yN CodL.yB 2 (some .byte)]
theorem tab_of {a : Array Value} {s : State} (h : ∀ w ∈ words, w.before a s = true) : New1.tab.before a s = true := by
  have h5 : Cmp5.tab.before a s = true := unparts (wk h (.code Cmp5.yN Cmp5.yB 7 (some .int))) (wks h (.initialized Cmp5.yN.cls :: Cmp5.site))
  have hc : CodL.tab.before a s = true := unparts (wk h (.code CodL.yN CodL.yB 2 (some .byte))) (wks h (.initialized CodL.yN.cls :: CodL.site))
  have q5 : ∀ w ∈ Cmp5.tab :: words, w.before a s = true := fun w hw => (List.mem_cons.mp hw).elim (fun e => e ▸ h5) (h w)
  have h3 : Cmp3.tab.before a s = true := unparts (wk q5 (.code Cmp3.yN Cmp3.yB 6 (some (.array .byte)))) (wks q5 (.initialized Cmp3.yN.cls :: Cmp3.site))
  have q3 : ∀ w ∈ Cmp3.tab :: CodL.tab :: words, w.before a s = true := fun w hw => (List.mem_cons.mp hw).elim (fun e => e ▸ h3) fun hw => (List.mem_cons.mp hw).elim (fun e => e ▸ hc) (h w)
  have h4 : New4.tab.before a s = true := unparts (wk q3 (.code New4.yN New4.yB 6 none)) (wks q3 (.initialized New4.yN.cls :: New4.site))
  have q4 : ∀ w ∈ New4.tab :: words, w.before a s = true := fun w hw => (List.mem_cons.mp hw).elim (fun e => e ▸ h4) (h w)
  exact unparts (wk q4 (.code New1.yN New1.yB 2 none)) (wks q4 (.initialized New1.yN.cls :: New1.site))
/-- the words ride from the start Z to the walk's own state -/
theorem moved {Z s : State} {a0 args : Array Value} (hZ : Z.Warmed39 s.vm) (hw : ∀ d ∈ words, d.before a0 Z = true) : ∀ d ∈ words, d.before args s = true := fun d hd => by
  have q := hw d hd
  have t : ∀ d ∈ words, d = .arrayClass .byte ∨ (d.onTables && d.keepsFace) = true := by decide +kernel
  rcases t d hd with rfl | t
  · exact RoadKit.mvA hZ q
  · exact RoadKit.mv hZ q t
/-- WHAT COMES BACK, over the tables of the start Z: h the heap at the call, h' behind it -/
def Q (Z : State) (x : Addr) (A : Cell) (h : Heap) (v : Option Value) (h' : Heap) (L : List Loc) : Prop := v = none ∧ (∀ y ∈ L, y.base = x) ∧ RoadKit.Keep h h' [x] ∧ h'.size = h.size + 1 ∧ RoadKit.Exa Z h' x ST ∧ RoadKit.Fld Z h' x ST "value" "[B" (.ref h.size) ∧ RoadKit.Fld Z h' x ST "coder" "B" (.int 0) ∧
  (∃ V : Cell, RoadKit.Arr Z h' h.size V .byte ∧ V.vm = .none ∧ Z.vm.findClass "[B" = some V.cls ∧ V.slots.size = A.slots.size ∧ ∀ j, j < A.slots.size → V.slots[j]? = some (.int (lo8 (cv A j)))) ∧
  ∀ (O n d : String) (w : Value), RoadKit.Fld Z h x O n d w → RoadKit.slotOf Z O n d ≠ RoadKit.slotOf Z ST "value" "[B" → RoadKit.slotOf Z O n d ≠ RoadKit.slotOf Z ST "coder" "B" → RoadKit.Fld Z h' x O n d w
/-- **new String(chars) AT A CALL, IN THE ROAD'S FORM**: for specialBack behind newO: x the fresh String, b the char[] with the cell A -/
theorem back {p : Program} {l : Launch} {e : Env} {R : Room} {s : State} {args : Array Value} {below : List Frame} {len W : Nat} {Z : State} {a0 : Array Value} {h : Heap} (hZ : Z.Warmed39 s.vm) (hw : ∀ d ∈ words, d.before a0 Z = true) {kI : Nat} (wi : (Jvm.Cond.instantiable ST kI).before a0 Z = true)
    {x b : Addr} {A : Cell} {z : Int32} {v0 c0 : Value} (E : RoadKit.Exa Z h x ST) (V : RoadKit.Fld Z h x ST "value" "[B" v0) (C : RoadKit.Fld Z h x ST "coder" "B" c0) (K : RoadKit.Arr Z h b A .char) (hty : Typed .char A) (S : RoadKit.Sta Z h ST "COMPACT_STRINGS" "Z" (.int z)) (hz : ¬ z = 0)
    (l0 : 0 < A.slots.size) (l2 : A.slots.size ≤ 536870912) (hp : ∀ i, i < A.slots.size → ¬ 255 < cv A i) (hfr : 4 ≤ R.frames) (hlo : W + 65 ≤ R.locals) :
    Back l R p e below s args New1.yN len W (fun P a => a = #[.ref x, .ref b] ∧ P.U.heap = h ∧ P.cells + 1 ≤ R.cells ∧ P.slots + A.slots.size ≤ R.slots)
      (fun P _ v B => ∃ L, Q Z x A h v B.U.heap L ∧ B.locs = P.locs ++ L ∧ B.cells = P.cells + 1 ∧ B.slots = P.slots + A.slots.size) := by
  intro m meth c P g ig mk a X hg hsize hdg hW hn hp'
  obtain ⟨rfl, rfl, r1, r2⟩ := hp'
  have al : Z.vm.Alike P.U.vm := hZ.alike.trans X.warmed.alike
  obtain ⟨D, cfV, kV, iV, fV, hD, gV, stV, knV, obV, asV, slV⟩ := id V
  obtain ⟨D', cfC, kC, iC, fC, hD', gC, stC, -, -, asC, slC⟩ := id C
  cases hD.symm.trans hD'
  obtain ⟨D2, kD, e1, e2, e3, e4, e5⟩ := id E
  cases hD.symm.trans e1
  obtain ⟨c2, k2, i1, i2, i3, -⟩ := Cond.instantiable_spec wi
  cases e2.symm.trans i1
  cases e3.symm.trans i2
  obtain ⟨kU, u1, u2⟩ := al.2.2 _ _ e3
  have hB : Blank ST x D P.U := ⟨hD, ⟨knV, fun q hq => by rw [hq] at obV; cases obV⟩, by rw [al.findClass]; exact e2, kU, u1, by rw [u2]; exact i3, by rw [u2]; exact e5 i3⟩
  have F1 : Found ST "value" "[B" fV P.U := ⟨SBG.found_only al ⟨cfV, kV, iV, gV⟩, stV⟩
  have F2 : Found ST "coder" "B" fC P.U := ⟨SBG.found_only al ⟨cfC, kC, iC, gC⟩, stC⟩
  have hA : Ch b A P.U := ⟨⟨K.1, State.isArrayOf_alike al K.2.1, K.2.2, by omega⟩, hty⟩
  have hS : StaticIs P.U ST "COMPACT_STRINGS" "Z" (.int z) := by
    obtain ⟨cfS, iS, kS, fS, st, cS, t1, t2, t3, t4, t5, t6, t7⟩ := S
    exact StaticIs.there (s := { Z with heap := P.U.heap }) ⟨cfS, iS, kS, fS, st, cS, t1, t2, t3, t4, t5, (fun q => by rw [q] at t6; cases t6), t7⟩ al rfl
  obtain ⟨v, B, X', ⟨⟨hv, E', V', q1, q2, q3, q4, q5, q6, q7, q8, q9, q10, q11⟩, hl, hc, hs⟩, st⟩ := New1.pays x D fV fC b A z (tab_of (moved hZ hw)) hfr hlo m meth c P g ig mk _ X hg hsize hdg hW hn ⟨r1, r2, rfl, hB, F1, F2, hA, hS, hz, l0, l2, hp⟩
  have al' : Z.vm.Alike B.U.vm := hZ.alike.trans X'.warmed.alike
  have hsz : E'.slots.size = D.slots.size := by
    obtain ⟨-, -, -, kB, w1, w2, w3⟩ := q1
    obtain ⟨kB', y1, y2⟩ := al'.2.2 _ _ e3
    rw [q2.2.1] at w1
    cases w1.symm.trans y1
    rw [w3, e5 i3, y2]
  refine ⟨v, B, X', ⟨_, ⟨hv, ?_, ⟨by omega, fun y cy hy hn' => q10 y cy (by simpa using hn') hy, fun y cy hy => ?_⟩, q11, ⟨E', _, q1.1, by rw [q2.2.1]; exact e2, by rw [q2.2.1]; exact e3, by rw [q2.1]; exact obV, fun _ => by rw [hsz]; exact e5 i3⟩,
    ⟨E', cfV, kV, iV, fV, q1.1, gV, stV, by rw [q2.1]; exact knV, by rw [q2.1]; exact obV, by rw [q2.2.1]; exact asV, q3⟩, ⟨E', cfC, kC, iC, fC, q1.1, gC, stC, by rw [q2.1]; exact knV, by rw [q2.1]; exact obV, by rw [q2.2.1]; exact asC, q4⟩,
    ⟨V', ⟨q5.1, State.isArrayOf_alike al'.symm q5.2.1, q5.2.2.1⟩, q6, by rw [← al'.findClass]; exact q7, q8, fun j hj => by have := q9 j hj; rwa [Nat.zero_add] at this⟩, fun O n d w F n1 n2 => ?_⟩, hl, hc, hs⟩, st⟩
  · intro y hy
    simp only [List.mem_cons, List.not_mem_nil, or_false] at hy
    rcases hy with rfl | rfl <;> rfl
  · by_cases q : y = x
    · subst q
      cases hD.symm.trans hy
      exact ⟨E', q1.1, q2.2.1, q2.1, hsz⟩
    · exact ⟨cy, q10 y cy q hy, rfl, rfl, rfl⟩
  · obtain ⟨D3, cf, k, i, f, g1, g2, g3, g4, g5, g6, g7⟩ := F
    cases hD.symm.trans g1
    simp only [RoadKit.slotOf, g2, gV, gC, Option.map_some, Option.getD_some] at n1 n2
    exact ⟨E', cf, k, i, f, q1.1, g2, g3, by rw [q2.1]; exact g4, by rw [q2.1]; exact g5, by rw [q2.2.1]; exact g6, by rw [q2.2.2 f.slot (by simp [n1, n2])]; exact g7⟩
end StrChars.Road
namespace StrChars.Road
open Jvm Sem ClassFile Op Lib Jvm.Stand Jvm.Free Jvm.Free.XT
/-- WHAT COMES BACK, the byte[] as a list of values -/
def QA (Z : State) (x : Addr) (zn : Int32) (cs : List Int32) (h : Heap) (v : Option Value) (h' : Heap) (L : List Loc) : Prop := v = none ∧ (∀ y ∈ L, y.base = x) ∧ RoadKit.Keep h h' [x] ∧ h'.size = h.size + 1 ∧ RoadKit.Exa Z h' x ST ∧ RoadKit.Fld Z h' x ST "value" "[B" (.ref h.size) ∧ RoadKit.Fld Z h' x ST "coder" "B" (.int 0) ∧
  (∃ kb, Z.vm.findClass "[B" = some kb ∧ RoadKit.Arv Z h' h.size kb .byte zn (cs.map fun c => .int (lo8 c)) (.int 0)) ∧
  ∀ (O n d : String) (w : Value), RoadKit.Fld Z h x O n d w → RoadKit.slotOf Z O n d ≠ RoadKit.slotOf Z ST "value" "[B" → RoadKit.slotOf Z O n d ≠ RoadKit.slotOf Z ST "coder" "B" → RoadKit.Fld Z h' x O n d w
/-- **new String(chars) AT A CALL, THE ARRAYS AS LISTS**: the char[] at b holds cs, not empty, no char above 255 -/
theorem backArv {p : Program} {l : Launch} {e : Env} {R : Room} {s : State} {args : Array Value} {below : List Frame} {len W : Nat} {Z : State} {a0 : Array Value} {h : Heap} (hZ : Z.Warmed39 s.vm) (hw : ∀ d ∈ words, d.before a0 Z = true) {kI : Nat} (wi : (Jvm.Cond.instantiable ST kI).before a0 Z = true)
    {x b : Addr} {k : ClassId} {zn z : Int32} {cs : List Int32} {dv v0 c0 : Value} (E : RoadKit.Exa Z h x ST) (V : RoadKit.Fld Z h x ST "value" "[B" v0) (C : RoadKit.Fld Z h x ST "coder" "B" c0) (K : RoadKit.Arv Z h b k .char zn (cs.map Value.int) dv) (S : RoadKit.Sta Z h ST "COMPACT_STRINGS" "Z" (.int z)) (hz : ¬ z = 0)
    (hlen : zn.toNatClampNeg = cs.length) (h0 : 0 < cs.length) (hbig : cs.length ≤ 536870912) (hall : ∀ c ∈ cs, ¬ 255 < c) (hfr : 4 ≤ R.frames) (hlo : W + 65 ≤ R.locals) :
    Back l R p e below s args New1.yN len W (fun P a => a = #[.ref x, .ref b] ∧ P.U.heap = h ∧ P.cells + 1 ≤ R.cells ∧ P.slots + cs.length ≤ R.slots)
      (fun P _ v B => ∃ L, QA Z x zn cs h v B.U.heap L ∧ B.locs = P.locs ++ L ∧ B.cells = P.cells + 1 ∧ B.slots = P.slots + cs.length) := by
  obtain ⟨A, K1, K2, K3, K4, K5, K6⟩ := K
  have e : A.slots.size = cs.length := K3.trans hlen
  have hat : ∀ (i : Nat) (hi : i < cs.length), A.slots[i]? = some (.int cs[i]) := fun i hi => by rw [K5 i (by omega)]; simp [List.getD_eq_getElem?_getD, hi]
  have hcv : ∀ (i : Nat) (hi : i < cs.length), cv A i = cs[i] := fun i hi => by unfold cv; rw [hat i hi]
  have hty : Typed .char A := fun i v hv => by
    have hi : i < A.slots.size := (Array.getElem?_eq_some_iff.mp hv).1
    have q := K5 i hi
    rw [hv] at q
    rw [Option.some.inj q]
    exact K6 i hi
  refine Back.mono (back hZ hw wi E V C K1 hty S hz (by omega) (by omega) (fun i hi => by rw [hcv i (by omega)]; exact hall _ (List.getElem_mem _)) hfr hlo) (fun P a hp => ⟨hp.1, hp.2.1, hp.2.2.1, by rw [e]; exact hp.2.2.2⟩) (fun P a v B hp hq => ?_)
  obtain ⟨L, ⟨q1, q2, q3, q4, q5, q6, q7, ⟨V', v1, v2, v3, v4, v5⟩, q9⟩, hl, hc, hs⟩ := hq
  refine ⟨L, ⟨q1, q2, q3, q4, q5, q6, q7, ⟨V'.cls, v3, V', v1, rfl, by rw [v4, e, hlen], K4, fun i hi => ?_, fun i hi => ?_⟩, q9⟩, hl, hc, by rw [hs, e]⟩
  · have hi' : i < cs.length := by omega
    rw [v5 i (by omega), hcv i hi']; simp [List.getD_eq_getElem?_getD, hi']
  · have hi' : i < cs.length := by omega
    simp only [List.getD_eq_getElem?_getD, List.getElem?_map, List.getElem?_eq_getElem hi', Option.map_some, Option.getD_some]
    exact fits_lo8 _
end StrChars.Road
namespace StrChars.Road
open Jvm Sem ClassFile Op Lib Jvm.Stand Jvm.Free Jvm.Free.XT
/-- WHAT COMES BACK, in the writer's own shape -/
def QV (Z : State) (x : Addr) (N : Int32) (bs : List Int32) (h : Heap) (n0 : Nat) (v : Option Value) (h' : Heap) (L : List Loc) : Prop := v = none ∧ RoadKit.Fr n0 L ∧ RoadKit.Keep h h' [x] ∧ RoadKit.Exa Z h' x ST ∧ RoadKit.Fld Z h' x ST "coder" "B" (.int 0) ∧
  ∃ (t : Addr) (kb : ClassId), n0 ≤ t ∧ h.size ≤ t ∧ ¬ t = x ∧ RoadKit.Fld Z h' x ST "value" "[B" (.ref t) ∧ RoadKit.Arv Z h' t kb .byte N (bs.map Value.int) (.int 0)
/-- **new String(chars) AT A CALL, FOR THE WRITER**: a char[] of n known ints, each 0 to 255 -/
theorem backV {p : Program} {l : Launch} {e : Env} {R : Room} {s : State} {args : Array Value} {below : List Frame} {len W : Nat} {Z : State} {a0 : Array Value} {h : Heap} (hZ : Z.Warmed39 s.vm) (hw : ∀ d ∈ words, d.before a0 Z = true) {kI : Nat} (wi : (Jvm.Cond.instantiable ST kI).before a0 Z = true)
    {x b : Addr} {kC : ClassId} {cs bs : List Int32} {d v0 c0 : Value} {z N : Int32} {n n0 : Nat} (hx0 : n0 ≤ x) (hh0 : n0 ≤ h.size) (E : RoadKit.Exa Z h x ST) (V : RoadKit.Fld Z h x ST "value" "[B" v0) (C : RoadKit.Fld Z h x ST "coder" "B" c0) (K : RoadKit.Arv Z h b kC .char N (cs.map Value.int) d) (S : RoadKit.Sta Z h ST "COMPACT_STRINGS" "Z" (.int z)) (hz : ¬ z = 0)
    (hn : cs.length = n) (hN : N = Int32.ofNat n) (l0 : 0 < n) (l2 : n ≤ 4000) (hp : ∀ c ∈ cs, ¬ c < 0 ∧ ¬ (255 : Int32) < c) (hb : bs = cs.map (fun c => c.toInt8.toInt32)) (hfr : 4 ≤ R.frames) (hlo : W + 65 ≤ R.locals) :
    Back l R p e below s args (⟨"java/lang/String", "<init>", "([C)V"⟩ : MethodName) len W (fun P a => a = #[.ref x, .ref b] ∧ P.U.heap = h ∧ P.cells + 1 ≤ R.cells ∧ P.slots + n ≤ R.slots)
      (fun P _ v B => ∃ L, QV Z x N bs h n0 v B.U.heap L ∧ B.locs = P.locs ++ L ∧ B.cells = P.cells + 1 ∧ B.slots = P.slots + n) := by
  subst hn hN hb
  refine Back.mono (backArv hZ hw wi E V C K S hz (n32 (by omega)) l0 (by omega) (fun c hc => (hp c hc).2) hfr hlo) (fun P a hp => hp) (fun P a v B hp hq => ?_)
  obtain ⟨L, ⟨q1, q2, q3, q4, q5, q6, q7, ⟨kb, v1, v2⟩, q9⟩, hl, hc, hs⟩ := hq
  exact ⟨L, ⟨q1, fun y hy => by rw [q2 y hy]; exact hx0, q3, q5, q7, h.size, kb, hh0, Nat.le_refl _, Nat.ne_of_gt E.lt, q6, by rw [List.map_map]; exact v2⟩, hl, hc, hs⟩
end StrChars.Road
namespace StrChars
open Jvm Sem ClassFile Op Lib Jvm.Stand Jvm.Free.XT Jvm.Free.ALB Jvm.Free.JM Jvm.Free
open Jvm.Lib.Cold (StaticIs)
def hi8 (x : Int32) : Int32 := lo8 (x >>> ((8 : Int32) &&& 31))
theorem shr0 (c : Int32) : c >>> ((0 : Int32) &&& 31) = c := by
  have e : ((0 : Int32) &&& 31) = 0 := by decide
  rw [e]
  apply Int32.toBitVec_inj.mp
  rw [Int32.toBitVec_shiftRight]
  have e1 : ((0 : Int32).toBitVec.smod 32) = 0#32 := by decide
  rw [e1, BitVec.sshiftRight_eq']
  exact BitVec.sshiftRight_zero
end StrChars
namespace StrChars.Road
open Jvm Sem ClassFile Op Lib Jvm.Stand Jvm.Free Jvm.Free.XT
open Jvm.Lib.Cold (StaticIs)
/-- the bytes of the chars cs, low before high -/
def wideBytes : List Int32 → List Value
  | [] => []
  | c :: cs => .int (lo8 c) :: .int (hi8 c) :: wideBytes cs
/-- an array of N2 bytes vs codes the chars cs by the coder cd -/
def CodA (cs : List Int32) (cd N2 : Int32) (vs : List Value) : Prop := (cd = 0 ∧ N2 = Int32.ofNat cs.length ∧ vs = (cs.map fun c => Value.int (lo8 c)) ∧ ∀ c ∈ cs, ¬ 255 < c) ∨ (cd = 1 ∧ N2 = Int32.ofNat (2 * cs.length) ∧ vs = wideBytes cs ∧ ∃ c ∈ cs, 255 < c)
end StrChars.Road
end Jvm.Pilot.@@N@@
namespace Jvm.Pilot.@@N@@
open Jvm Jvm.ClassFile Sem Op Lib Jvm.Free Jvm.Stand Jvm.LawKit Jvm.RoadKit Bundle Jvm.Pilot.@@N@@.Jvm.D
section Own
variable {p : Program} {l : Launch} {e : Env} {R : Room} {s : State} {m : MethodId} {args : Array Value} {below : List Frame} {meth : Method} {c : Code} {T S S' : State} {locs : List Loc} {cells slots : Nat} {Z : State} {a0 : Array Value} {h h' : Heap}
/-- from S the walk comes to an end that P holds of -/
def OwnEnd (p : Program) (e : Env) (below : List Frame) (P : Outcome → State → Prop) (S : State) : Prop := ∃ s₂ o, Steps p.tables e below S s₂ ∧ s₂.status = .running ∧ Ended s₂ below o ∧ P o s₂
theorem OwnEnd.of {P : Outcome → State → Prop} (h : ∀ t, Steps p.tables e below S' t → Steps p.tables e below S t) (k : OwnEnd p e below P S') : OwnEnd p e below P S := by
  obtain ⟨s2, o, a, r⟩ := k; exact ⟨s2, o, h _ a, r⟩
theorem OwnEnd.tr {P : Outcome → State → Prop} (h : Steps p.tables e below S S') (k : OwnEnd p e below P S') : OwnEnd p e below P S := OwnEnd.of (fun _ q => h.trans q) k
theorem OwnEnd.start {P : Outcome → State → Prop} {n : Nat} {g' : JFrame} (h : entryFrame m args n = g') (k : OwnEnd p e below P (T.setTop g')) :
    ∃ s₂ o, Steps p.tables e below (T.setTop (entryFrame m args n)) s₂ ∧ s₂.status = .running ∧ Ended s₂ below o ∧ P o s₂ := by rw [h]; exact k
theorem OwnEnd.ret (X : Stand p l e R s m args below meth c T locs cells slots) {v : Option Value} (hv : meth.sig.returnType = none → v = none) (hlk : meth.locks = false)
    (st : ∀ fs, (∀ (f : JFrame) (acts : List Action), f.method = m → f.locked = none → f.entered = [] → (doReturn e (T.setTop f) acts v).1 = T.setFrames fs) → Steps p.tables e below S (T.setFrames fs))
    {k n : Nat} (hk : cells ≤ k) (hn : slots ≤ n) {Q : Option Value → Heap → List Loc → Prop} (eT : T.heap = h) (hq : Q v h locs) :
    OwnEnd p e below (fun o t => ∃ v L, o = .returned v ∧ Q v t.heap L ∧ FrameEnd s o t L k n) S := by
  obtain ⟨fs, hr, hrun, hended, hW, hsame⟩ := X.leave (v := v) hv hlk
  subst eT
  exact ⟨_, _, st fs hr, hrun, hended, v, locs, rfl, hq, ⟨_, rfl⟩, hW, hsame.mono hk hn⟩
theorem OwnEnd.retW {vm₁ : Vm} (X : Stand p l e R (s.setVm vm₁) m args below meth c T locs cells slots) {k0 : Nat} (hS : s.Since vm₁ k0) (hk0 : k0 ≤ Array.size h) {v : Option Value} (hv : meth.sig.returnType = none → v = none) (hlk : meth.locks = false)
    (st : ∀ fs, (∀ (f : JFrame) (acts : List Action), f.method = m → f.locked = none → f.entered = [] → (doReturn e (T.setTop f) acts v).1 = T.setFrames fs) → Steps p.tables e below S (T.setFrames fs))
    {k n : Nat} (hk : cells ≤ k) (hn : slots ≤ n) {Q : Option Value → Heap → List Loc → Prop} (eT : T.heap = h) (hq : Q v h locs) :
    OwnEnd p e below (fun o t => ∃ v L, o = .returned v ∧ Q v t.heap L ∧ ReturnedEndW s o t L k n) S := by
  subst eT
  obtain ⟨fs, hr, hrun, hended, hE⟩ := X.leaveW hS hk0 (v := v) hv hlk
  exact ⟨_, _, st fs hr, hrun, hended, v, locs, rfl, hq, hE.1, hE.2.1, hE.2.2.1, hE.2.2.2.mono hk hn⟩
theorem OwnEnd.retC {vm₁ : Vm} {EL : List (String × Nat)} {h0 : Heap} (hh : s.heap = h0) (hEL : EW Z a0 EL) (hZ : Z.Warmed39 vm₁) (X : Stand p l e R (s.setVm vm₁) m args below meth c T locs cells slots) {k0 : Nat} (hS : s.Since vm₁ k0) (hk0 : k0 ≤ Array.size h) {v : Option Value} (hv : meth.sig.returnType = none → v = none) (hlk : meth.locks = false)
    (st : ∀ fs, (∀ (f : JFrame) (acts : List Action), f.method = m → f.locked = none → f.entered = [] → (doReturn e (T.setTop f) acts v).1 = T.setFrames fs) → Steps p.tables e below S (T.setFrames fs))
    {k n : Nat} (hk : cells ≤ k) (hn : slots ≤ n) {Q : Option Value → Heap → List Loc → Prop} (eT : T.heap = h) (hR : CHr Z EL s.vm h0 vm₁ h) (hq : Q v h locs) :
    OwnEnd p e below (fun o t => ∃ v L, o = .returned v ∧ Q v t.heap L ∧ CHr Z EL s.vm s.heap t.vm t.heap ∧ ReturnedEndW s o t L k n) S := by
  subst eT hh
  obtain ⟨fs, hr, hrun, hended, hE⟩ := X.leaveW hS hk0 (v := v) hv hlk
  have q := CHv.at X hZ hEL hR.1
  exact ⟨_, _, st fs hr, hrun, hended, v, locs, rfl, hq, hR.trans q, hE.1, hE.2.1, hE.2.2.1, hE.2.2.2.mono hk hn⟩
theorem own_old_le {n0 : Nat} (O : Old Z n0 h) : n0 ≤ Array.size h := O.1 ▸ O.2.1
theorem own_wr_le {a : Addr} {sl : Nat} {v : Value} (W : Wr h h' a sl v) : Array.size h ≤ Array.size h' := Nat.le_of_eq W.size.symm
theorem own_ltN' {a n : Nat} (q : a < n) : @LT.lt Nat instLTNat a n := q
theorem own_ltB {a n : Nat} (q : @LT.lt Nat instLTNat a n) : a < n := q
theorem own_ne {a b : Nat} (q : @LT.lt Nat instLTNat a b ∨ @LT.lt Nat instLTNat b a) : a ≠ b := by rcases q with q | q <;> omega
theorem own_neN {a b : Nat} (q : a ≠ b) : @Ne Nat a b := q
theorem own_nin1 {a b : Addr} (h : a ≠ b) : a ∉ [b] := ninS h nin0
theorem own_nin2 {a b d : Addr} (h : a ≠ b) (h2 : a ≠ d) : a ∉ [b, d] := ninS h (own_nin1 h2)
theorem own_nin3 {a b d f : Addr} (h : a ≠ b) (h2 : a ≠ d) (h3 : a ≠ f) : a ∉ [b, d, f] := ninS h (own_nin2 h2 h3)
theorem own_all0 {P : Addr → Prop} : ∀ x ∈ ([] : List Addr), P x := all0
theorem own_all1 {P : Addr → Prop} {a : Addr} (h : P a) : ∀ x ∈ [a], P x := allS h all0
theorem own_all2 {P : Addr → Prop} {a b : Addr} (h : P a) (h2 : P b) : ∀ x ∈ [a, b], P x := allS h (own_all1 h2)
theorem own_all3 {P : Addr → Prop} {a b d : Addr} (h : P a) (h2 : P b) (h3 : P d) : ∀ x ∈ [a, b, d], P x := allS h (own_all2 h2 h3)
theorem own_cat1 {v : Value} (h : v.isRef = true) : v.category = 1 := by rcases ref_cases h with rfl | ⟨_, rfl⟩ <;> rfl
theorem own_fits_ref {v : Value} {t : FieldType} (h : v.isRef = true) (ht : t.isReference = true) : fits t v = true := by
  rcases ref_cases h with rfl | ⟨_, rfl⟩ <;> cases t <;> first | rfl | cases ht
theorem own_nar_ref {v : Value} {t : FieldType} (h : v.isRef = true) (ht : t.isReference = true) : narrow t v = v := by
  rcases ref_cases h with rfl | ⟨_, rfl⟩ <;> cases t <;> first | rfl | cases ht
theorem own_nar_cc (x : Int32) : nar .char (nar .char x) = nar .char x := by
  obtain ⟨h1, h2⟩ := rng_char (fits_nar_char x)
  have a := (c_i2c (nar .char x)); have b := c_i2c x
  have r := rng32 (nar .char x)
  apply Int32.toInt_inj.mp
  show (nar .char x).toUInt32.toUInt16.toUInt32.toInt32.toInt = (nar .char x).toInt
  have q1 : (nar .char x).toInt = x.toUInt32.toUInt16.toUInt32.toInt32.toInt := rfl
  omega
theorem own_c255 (x : Int32) : ¬ nar .char (x &&& (255 : Int32)) < 0 ∧ ¬ (255 : Int32) < nar .char (x &&& (255 : Int32)) := by
  have a := c_i2c (x &&& 255); have b := c_and x 255 (by decide)
  have q1 : (nar .char (x &&& 255)).toInt = (x &&& (255 : Int32)).toUInt32.toUInt16.toUInt32.toInt32.toInt := rfl
  have e0 : (0 : Int32).toInt = 0 := rfl
  have e2 : (255 : Int32).toInt = 255 := rfl
  rw [Int32.lt_iff_toInt_lt, Int32.lt_iff_toInt_lt]
  omega
theorem own_up (cs : List Int32) (h : ∀ c ∈ cs, ¬ c < 0 ∧ ¬ (255 : Int32) < c) : ∀ c ∈ cs, ¬ c < 0 ∧ ¬ (65535 : Int32) < c := fun c hc => ⟨(h c hc).1, fun q => (h c hc).2 (by rw [Int32.lt_iff_toInt_lt] at q ⊢; have e1 : (65535 : Int32).toInt = 65535 := rfl; have e2 : (255 : Int32).toInt = 255 := rfl; omega)⟩
end Own
def OwnG (Z : State) (a0 : Array Value) : Prop := (∀ d ∈ tables_1, d.before a0 Z = true) ∧ (∀ d ∈ jdkStatics_1, d.before a0 Z = true) ∧ Jvm.Lit.constsHeld consts_1 Z ∧ narrow_1.before a0 Z = true ∧ Fit Z
theorem own_w {Z : State} {a0 : Array Value} (G : OwnG Z a0) (i : Nat) {d : Jvm.Cond} (h : tables_1[i]? = some d) : d.before a0 Z = true := G.1 _ (List.mem_of_getElem? h)
abbrev own_m0 : MethodName := ⟨"java/lang/String", "<init>", "([CIILjava/lang/Void;)V"⟩
abbrev own_m1 : MethodName := ⟨"java/lang/String", "<init>", "([C)V"⟩
abbrev own_m2 : MethodName := ⟨"jdk/internal/util/Preconditions", "checkIndex", "(IILjava/util/function/BiFunction;)I"⟩
abbrev own_m3 : MethodName := ⟨"java/lang/String", "checkIndex", "(II)V"⟩
abbrev own_m4 : MethodName := ⟨"java/lang/String", "isLatin1", "()Z"⟩
abbrev own_m5 : MethodName := ⟨"java/lang/String", "coder", "()B"⟩
abbrev own_m6 : MethodName := ⟨"java/lang/String", "length", "()I"⟩
abbrev own_m7 : MethodName := ⟨"java/lang/StringLatin1", "charAt", "([BI)C"⟩
abbrev own_m8 : MethodName := ⟨"java/lang/String", "charAt", "(I)C"⟩
abbrev own_m9 : MethodName := ⟨"com/example/vett/vett/model/IrisIsAbsolutePinLaw", "letter", "(C)Z"⟩
abbrev own_m10 : MethodName := ⟨"com/example/vett/vett/model/IrisIsAbsolutePinLaw", "mayHold", "(C)Z"⟩
abbrev own_m11 : MethodName := ⟨"com/example/vett/vett/model/IrisIsAbsolutePinLaw", "schemeChar", "(C)Z"⟩
abbrev own_m12 : MethodName := ⟨"com/example/vett/vett/model/IrisIsAbsolutePinLaw", "ok", "([CIII)Z"⟩
abbrev own_m13 : MethodName := ⟨"com/example/vett/vett/model/IrisIsAbsolutePinLaw", "firstColon", "([CI)I"⟩
abbrev own_m14 : MethodName := ⟨"com/example/vett/vett/model/IrisIsAbsolutePinLaw", "reference", "([CI)Z"⟩
abbrev own_m15 : MethodName := ⟨"java/lang/StringLatin1", "canEncode", "(I)Z"⟩
abbrev own_m16 : MethodName := ⟨"java/lang/Math", "max", "(II)I"⟩
abbrev own_m17 : MethodName := ⟨"com/example/vett/vett/model/Iris", "isIn", "([ZZC)Z"⟩
abbrev own_m18 : MethodName := ⟨"com/example/vett/vett/model/Iris", "mayHold", "(C)Z"⟩
abbrev own_m19 : MethodName := ⟨"java/lang/Math", "min", "(II)I"⟩
abbrev own_m20 : MethodName := ⟨"java/lang/StringLatin1", "indexOf", "([BIII)I"⟩
abbrev own_m21 : MethodName := ⟨"java/lang/String", "indexOf", "(II)I"⟩
abbrev own_m22 : MethodName := ⟨"java/lang/String", "indexOf", "(I)I"⟩
abbrev own_m23 : MethodName := ⟨"com/example/vett/vett/model/Iris", "isAbsolute", "(Ljava/lang/String;)Z"⟩
abbrev own_m24 : MethodName := ⟨"java/lang/StringLatin1", "indexOfChar", "([BIII)I"⟩
abbrev own_m25 : MethodName := ⟨"com/example/vett/vett/model/IrisIsAbsolutePinLaw", "draw", "(I)C"⟩
theorem own_cs {Z : State} {a0 : Array Value} (G : OwnG Z a0) : ∃ z : Int32, Sta Z Z.heap "java/lang/String" "COMPACT_STRINGS" "Z" (.int z) ∧ ¬ z = (0 : Int32) := by
  have hs := G.2.1
  obtain ⟨i, e⟩ := is_v (Cond.before_iff.mp (hs _ (List.mem_of_getElem? (i := 1) rfl)))
  have n5 := not_v (Cond.before_iff.mp (hs _ (List.mem_of_getElem? (i := 2) rfl)))
  exact ⟨i, Sta.start e (Or.inl (hs _ (List.mem_of_getElem? (i := 0) rfl))), gotF (Cond.eq_ints e (Term.int_eval (0))) n5⟩
theorem own_atoms : ∀ d ∈ Bundle.stringAtoms, d ∈ tables_1 := by decide +kernel
theorem own_wS {Z : State} {a0 : Array Value} (G : OwnG Z a0) : ∀ d ∈ Bundle.stringAtoms, d.before a0 Z = true := fun d hd => G.1 d (own_atoms d hd)
theorem own_EW {Z : State} {a0 : Array Value} (G : OwnG Z a0) : EW Z a0 consts_1 := by
  have hw := G.1
  exact EW.cons (own_w G 19 rfl) (by decide) EW.nil
theorem own_CH {Z : State} {a0 : Array Value} (G : OwnG Z a0) : CHv Z consts_1 Z.vm Z.heap :=
  CHv.start (own_EW G) G.2.2.1 (G.2.1 _ (List.mem_of_getElem? (i := 2) rfl)) (own_wS G _ (by simp [Bundle.stringAtoms])) (own_wS G _ (by simp [Bundle.stringAtoms, Bundle.sN]))
/-- a String whose value is null yet is no constant that the JVM holds -/
theorem own_safe_null {Z : State} {h : Heap} {x : Addr} {vm : Vm} {EL : List (String × Nat)} (hal : Z.vm.Alike vm) (E : Exa Z h x "java/lang/String") (F : Fld Z h x "java/lang/String" "value" "[B" .null) : Safe Z EL vm h x := fun B => by
  obtain ⟨cell, k, e1, e2, e3, -, -⟩ := E
  obtain ⟨cell', cf, k', i, f, g1, g2, g3, -, -, -, g7⟩ := F
  cases e1.symm.trans g1
  obtain ⟨p, -, u, a, -, q, -, F', rfl | rfl⟩ := B
  · cases (show h[q.sa]? = some q.sC from F'.ha).symm.trans e1
    obtain ⟨cS, ⟨⟨-, -, -, ⟨c1, k1, i1, f1, -⟩, -, -, -, v1, -⟩, -⟩, -⟩ := F'
    obtain ⟨k3, q3, -⟩ := State.fieldFound?_setVm (s := Z) hal g2
    have e4 := (show (Wst Z vm h).fieldFound? "java/lang/String" "value" "[B" = some (cf, k3, i, f) from q3).symm.trans f1
    simp only [Option.some.injEq, Prod.mk.injEq] at e4
    rw [← e4.2.2.2, g7] at v1
    cases v1
  · cases (show h[q.sd]? = some q.SA from F'.hd).symm.trans e1
    obtain ⟨cS, -, -, fB, -⟩ := F'
    have fB' : Z.vm.findClass "[B" = some q.SA.cls := by rw [← hal.findClass]; exact fB
    obtain ⟨k1, q1, q2⟩ := Vm.findClass_spec fB'
    obtain ⟨k2, q3, q4⟩ := Vm.findClass_spec e2
    cases q1.symm.trans q3
    exact absurd (q2.symm.trans q4) (by decide)
theorem own_fm {Z : State} {a0 : Array Value} (G : OwnG Z a0) : ∃ v : Value, Sta Z Z.heap "jdk/internal/util/Preconditions" "SIOOBE_FORMATTER" "Ljava/util/function/BiFunction;" v ∧ v.isRef = true := by
  have hs := G.2.1
  obtain ⟨v, e, r⟩ := isR_v (Cond.before_iff.mp (hs _ (List.mem_of_getElem? (i := 8) rfl)))
  exact ⟨v, Sta.start e (Or.inl (hs _ (List.mem_of_getElem? (i := 7) rfl))), r⟩
def own_Qint (r : Int32) (h0 : Heap) (n0 : Nat) (v : Option Value) (h : Heap) (L : List Loc) : Prop := v = some (.int r) ∧ Fr n0 L ∧ h = h0
theorem own_255 {c : Int32} (h : ¬ (255 : Int32) < c) : ¬ (65535 : Int32) < c := fun q => h (by rw [Int32.lt_iff_toInt_lt] at q ⊢; have e1 : (65535 : Int32).toInt = 65535 := rfl; have e2 : (255 : Int32).toInt = 255 := rfl; omega)
theorem own_narc {c : Int32} (h0 : ¬ c < (0 : Int32)) (h1 : ¬ (65535 : Int32) < c) : nar .char c = c := by
  have a := c_i2c c
  have q1 : (nar .char c).toInt = c.toUInt32.toUInt16.toUInt32.toInt32.toInt := rfl
  rw [Int32.lt_iff_toInt_lt] at h0 h1
  have e1 : (65535 : Int32).toInt = 65535 := rfl
  have e0 : (0 : Int32).toInt = 0 := rfl
  apply Int32.toInt_inj.mp
  omega
theorem own_lat {c : Int32} (h0 : ¬ c < (0 : Int32)) (h1 : ¬ (255 : Int32) < c) : nar .char (nar .char (StrChars.lo8 c &&& (255 : Int32))) = c := by
  rw [own_nar_cc, StrChars.lo8_mask h0 h1, own_narc h0 (own_255 h1)]
theorem own_toInt {k : Nat} (h : k < 2 ^ 31) : (Int32.ofNat k).toInt = k := toInt_of rfl h
theorem own_clamp {k : Nat} (h : k < 2 ^ 31) : (Int32.ofNat k).toNatClampNeg = k := clamp_of rfl h
theorem own_nn {k : Nat} (h : k < 2 ^ 31) : ¬ Int32.ofNat k < (0 : Int32) := by
  rw [Int32.lt_iff_toInt_lt, own_toInt h]; have e0 : (0 : Int32).toInt = 0 := rfl; omega
theorem own_ltN {k n : Nat} (h : k < n) (hn : n < 2 ^ 31) : Int32.ofNat k < Int32.ofNat n := by
  rw [Int32.lt_iff_toInt_lt, own_toInt hn, own_toInt (by omega)]; omega
theorem own_dbl {k : Nat} (h : k < 2 ^ 29) : Int32.ofNat k <<< ((1 : Int32) &&& 31) = Int32.ofNat (2 * k) := by
  have a := c_ishl (Int32.ofNat k) 1 1 (by decide)
  have r := rng32 (Int32.ofNat k <<< ((1 : Int32) &&& 31))
  rw [own_toInt (by omega)] at a
  apply Int32.toInt_inj.mp
  rw [own_toInt (show 2 * k < 2 ^ 31 by omega)]
  omega
theorem own_inc {k : Nat} (h : k + 1 < 2 ^ 31) : Int32.ofNat k + (1 : Int32) = Int32.ofNat (k + 1) := (inc_ofNat k).symm
theorem own_half {cs : List Int32} (h : cs.length ≤ 4000) : Int32.ofNat (2 * cs.length) >>> ((1 : Int32) &&& 31) = Int32.ofNat cs.length := by
  have a := c_ishr (Int32.ofNat (2 * cs.length)) 1 1 (by decide)
  rw [own_toInt (by omega)] at a
  apply Int32.toInt_inj.mp
  rw [a, own_toInt (by omega)]
  omega
theorem own_shr0 (c : Int32) : c >>> ((0 : Int32) &&& 31) = c := StrChars.shr0 c
theorem own_getD_mem {cs : List Int32} {k : Nat} (h : k < cs.length) : cs.getD k 0 ∈ cs := by
  have e : cs.getD k 0 = cs[k] := by simp [List.getD_eq_getElem?_getD, h]
  rw [e]; exact List.getElem_mem _
theorem own_cod_ne {cs : List Int32} {cd N : Int32} {vs : List Value} (H : StrChars.Road.CodA cs cd N vs) (h : 0 < cs.length) (h2 : cs.length ≤ 4000) : ¬ N = (0 : Int32) := fun q => by
  have e0 : (0 : Int32).toInt = 0 := rfl
  rcases H with ⟨-, rfl, -⟩ | ⟨-, rfl, -⟩
  · have := congrArg Int32.toInt q; rw [own_toInt (by omega), e0] at this; omega
  · have := congrArg Int32.toInt q; rw [own_toInt (by omega), e0] at this; omega
theorem own_cod_nar {cs : List Int32} {cd N : Int32} {vs : List Value} (H : StrChars.Road.CodA cs cd N vs) : narrow .byte (.int cd) = .int cd ∧ fits .byte (.int cd) = true := by
  rcases H with ⟨rfl, -⟩ | ⟨rfl, -⟩ <;> exact ⟨rfl, rfl⟩
theorem own_words : ∀ d ∈ StrChars.Road.words, d ∈ tables_1 := by decide +kernel
def own_letter (c : Int32) : Int32 := if c < 65 then (if c < 97 then 0 else if 122 < c then 0 else 1) else if 90 < c then (if c < 97 then 0 else if 122 < c then 0 else 1) else 1
def own_sx (c : Int32) : Int32 := if c = 43 then 1 else if c = 45 then 1 else if c = 46 then 1 else 0
def own_scheme (c : Int32) : Int32 := if own_letter c = 0 then (if c < 48 then (if c = 43 then 1 else if c = 45 then 1 else if c = 46 then 1 else 0) else if 57 < c then (if c = 43 then 1 else if c = 45 then 1 else if c = 46 then 1 else 0) else 1) else 1
def own_hold (c : Int32) : Int32 := if 32 < c then (if c = 60 then 0 else if c = 62 then 0 else if c = 34 then 0 else if c = 123 then 0 else if c = 125 then 0 else if c = 124 then 0 else if c = 94 then 0 else if c = 96 then 0 else if c = 92 then 0 else 1) else 0
theorem own_letter01 (c : Int32) : own_letter c = 0 ∨ own_letter c = 1 := by
  unfold own_letter; repeat' split
  all_goals simp
theorem own_scheme01 (c : Int32) : own_scheme c = 0 ∨ own_scheme c = 1 := by
  unfold own_scheme; repeat' split
  all_goals simp
theorem own_hold01 (c : Int32) : own_hold c = 0 ∨ own_hold c = 1 := by
  unfold own_hold; repeat' split
  all_goals simp
theorem own_nbl (c : Int32) : nar .boolean (own_letter c) = own_letter c := by rcases own_letter01 c with h | h <;> rw [h] <;> rfl
theorem own_nbs (c : Int32) : nar .boolean (own_scheme c) = own_scheme c := by rcases own_scheme01 c with h | h <;> rw [h] <;> rfl
theorem own_nbh (c : Int32) : nar .boolean (own_hold c) = own_hold c := by rcases own_hold01 c with h | h <;> rw [h] <;> rfl
def own_tail : List Int32 → Int32
  | [] => 1
  | c :: cs => if own_hold c = 0 then 0 else own_tail cs
def own_sch : List Int32 → Int32
  | [] => 0
  | c :: cs => if c = 58 then own_tail cs else if own_scheme c = 0 then 0 else own_sch cs
def own_abs : List Int32 → Int32
  | [] => 0
  | c :: cs => if c = 58 then 0 else if own_letter c = 0 then 0 else own_sch cs
def own_ix : Int32 → List Int32 → Int32
  | _, [] => -1
  | k, c :: cs => if c = 58 then k else own_ix (k + 1) cs
def own_okv (n k i c : Int32) : Int32 := if i < n then (if i < k then (if i = 0 then own_letter c else own_scheme c) else if i = k then 1 else own_hold c) else 1
theorem own_okv01 (n k i c : Int32) : own_okv n k i c = 0 ∨ own_okv n k i c = 1 := by
  unfold own_okv; repeat' split
  all_goals first | exact own_letter01 c | exact own_scheme01 c | exact own_hold01 c | exact Or.inr rfl
def own_rfv (n k a b d e f : Int32) : Int32 := if 0 < k then (if own_okv n k 0 a = 0 then 0 else if own_okv n k 1 b = 0 then 0 else if own_okv n k 2 d = 0 then 0 else if own_okv n k 3 e = 0 then 0 else if own_okv n k 4 f = 0 then 0 else 1) else 0
theorem own_ix0 : own_ix (0 : Int32) [] = (-1 : Int32) := rfl
theorem own_sch_no : ∀ {cs : List Int32}, (∀ c ∈ cs, ¬ c = (58 : Int32)) → own_sch cs = 0
  | [], _ => rfl
  | c :: cs, h => by
    have h1 : ¬ c = 58 := h c (by simp)
    have h2 := own_sch_no (cs := cs) fun d hd => h d (by simp [hd])
    simp [own_sch, h1, h2]
theorem own_abs_no {cs : List Int32} (h : ∀ c ∈ cs, ¬ c = (58 : Int32)) : own_abs cs = 0 := by
  match cs with
  | [] => rfl
  | c :: cs =>
    have h1 : ¬ c = 58 := h c (by simp)
    have h2 := own_sch_no (cs := cs) fun d hd => h d (by simp [hd])
    simp [own_abs, h1, h2]
theorem own_fin {c : Int32} (h : ¬ c < (0 : Int32) ∧ ¬ (255 : Int32) < c) : ∃ k : Fin 256, c = Int32.ofNat k.val := by
  obtain ⟨h0, h1⟩ := h
  rw [Int32.lt_iff_toInt_lt] at h0 h1
  have e0 : (0 : Int32).toInt = 0 := rfl
  have e1 : (255 : Int32).toInt = 255 := rfl
  refine ⟨⟨c.toInt.toNat, by omega⟩, Int32.toInt_inj.mp ?_⟩
  rw [own_toInt (by show c.toInt.toNat < 2 ^ 31; omega)]
  show c.toInt = (c.toInt.toNat : Int)
  omega
theorem own_letter_tab {c : Int32} (h : ¬ c < (0 : Int32) ∧ ¬ (255 : Int32) < c) : (if c < (128 : Int32) then own_letter c else (0 : Int32)) = own_letter c := by
  obtain ⟨k, rfl⟩ := own_fin h; revert k; decide +kernel
theorem own_scheme_tab {c : Int32} (h : ¬ c < (0 : Int32) ∧ ¬ (255 : Int32) < c) : (if c < (128 : Int32) then own_scheme c else (0 : Int32)) = own_scheme c := by
  obtain ⟨k, rfl⟩ := own_fin h; revert k; decide +kernel
theorem own_hold_tab {c : Int32} (h : ¬ c < (0 : Int32) ∧ ¬ (255 : Int32) < c) : (if c < (128 : Int32) then own_hold c else (1 : Int32)) = own_hold c := by
  obtain ⟨k, rfl⟩ := own_fin h; revert k; decide +kernel
theorem own_lo58 {c : Int32} (h : c = (58 : Int32)) : StrChars.lo8 c = (58 : Int32) := by subst h; decide +kernel
theorem own_lo58n {c : Int32} (h0 : ¬ c < (0 : Int32)) (h1 : ¬ (255 : Int32) < c) (h : ¬ c = (58 : Int32)) : ¬ StrChars.lo8 c = (58 : Int32) := by
  obtain ⟨k, rfl⟩ := own_fin ⟨h0, h1⟩; revert k; decide +kernel
/-- a boolean[128] of the start that holds f -/
def OwnTab (Z : State) (a : Addr) (f : Int32 → Int32) : Prop := ∃ c : Cell, Arr Z Z.heap a c .boolean ∧ c.slots.size = (128 : Int32).toNatClampNeg ∧ ∀ j : Int32, ¬ j < (0 : Int32) → j < (128 : Int32) → c.slots[j.toNatClampNeg]? = some (.int (f j))
theorem own_tin {c : Cell} {j : Int32} (z : c.slots.size = (128 : Int32).toNatClampNeg) (h0 : ¬ j < (0 : Int32)) (h : j < (128 : Int32)) : ¬ (j < 0 ∨ c.slots.size ≤ j.toNatClampNeg) := inb_of z ⟨h0, h⟩
theorem own_tat {c : Cell} {j : Int32} {f : Int32 → Int32} (H : ∀ j : Int32, ¬ j < (0 : Int32) → j < (128 : Int32) → c.slots[j.toNatClampNeg]? = some (.int (f j))) (h0 : ¬ j < (0 : Int32)) (h : j < (128 : Int32)) : c.slots[j.toNatClampNeg]? = some (.int (f j)) := H j h0 h
theorem own_arr_ref {Z : State} {a0 : Array Value} {t : Term} {ty : FieldType} (h : (Cond.arrayOf t ty).value a0 Z none Z [] = some true) : ∃ a : Addr, t.eval a0 Z none [] Z = some (.ref a) := by
  simp only [Cond.value] at h
  split at h
  · cases h
  · cases hv : t.eval a0 Z none [] Z with
    | none => rw [hv] at h; cases h
    | some v => cases v <;> first | exact ⟨_, rfl⟩ | (rw [hv] at h; simp at h)
theorem own_len {Z : State} {a0 : Array Value} {t : Term} {a : Addr} {cl : Cell} {ty : FieldType} (A : Arr Z Z.heap a cl ty) (ev : t.eval a0 Z none [] Z = some (.ref a)) (h : (Cond.eq (Term.length t) (Term.int (128 : Int32))).value a0 Z none Z [] = some true) : cl.slots.size = (128 : Int32).toNatClampNeg := by
  have q := eqv_i (Term.int_eval (128 : Int32)) h
  have hA := A.fin (U := Z) (Vm.Alike.refl _)
  by_cases h31 : cl.slots.size < 2147483648
  · have e2 := (len_f ev hA h31).symm.trans q
    have e3 : cl.slots.size.toInt32 = (128 : Int32) := by simpa using e2
    have e4 := congrArg Int32.toInt e3
    rw [len_toInt h31] at e4
    have e5 : (128 : Int32).toInt = 128 := rfl
    have e6 : (128 : Int32).toNatClampNeg = 128 := by decide
    omega
  · simp [Term.eval, ev, hA, h31] at q
theorem own_elems {Z : State} {a : Addr} {cl : Cell} (hf : Fit Z) (A : Arr Z Z.heap a cl .boolean) : ∃ E : Int32 → Int32, ∀ j : Int32, ¬ (j < 0 ∨ cl.slots.size ≤ j.toNatClampNeg) → cl.slots[j.toNatClampNeg]? = some (.int (E j)) := by
  refine ⟨fun j => atv cl j, fun j hj => ?_⟩
  obtain ⟨v, e, f⟩ := elem_fit hf A hj
  obtain ⟨x, rfl⟩ := fit_I f (Or.inr (Or.inl rfl))
  rw [e]
  show some (Value.int x) = some (Value.int (atv cl j))
  rw [atv_of e]
section T
variable {Z : State} {a0 : Array Value} {t : Term} {a : Addr} {cl : Cell} {E : Int32 → Int32} {j : Int32}
theorem own_t3 (hA : Z.arrayAt? a = some cl) (et : ∀ idx, t.eval a0 Z none idx Z = some (.ref a)) (zc : cl.slots.size = (128 : Int32).toNatClampNeg) (Ej : ∀ j : Int32, ¬ (j < 0 ∨ cl.slots.size ≤ j.toNatClampNeg) → cl.slots[j.toNatClampNeg]? = some (.int (E j))) (h0 : ¬ j < (0 : Int32)) (h1 : j < (128 : Int32)) {lo hi v : Int32}
    (h : (Cond.all t (.or (.lt (.index 0) (.int lo)) (.or (.le (.int hi) (.index 0)) (.eq (.elem t (.index 0)) (.int v))))).value a0 Z none Z [] = some true) : j < lo ∨ ¬ j < hi ∨ E j = v := by
  have hin := own_tin zc h0 h1
  have q := Cond.all_elim (et []) hA h j.toNatClampNeg (Nat.lt_of_not_le fun x => hin (Or.inr x))
  have ei := idx_at (args := a0) (first := Z) (o := none) (s := Z) h0
  have ee : (Term.elem t (.index 0)).eval a0 Z none [j.toNatClampNeg] Z = some (.int (E j)) := (elem_f (et _) ei hA h0).trans (Ej j hin)
  exact or3 q (Cond.lt_ints ei (Term.int_eval lo)) (Cond.le_ints (Term.int_eval hi) ei) (Cond.eq_ints ee (Term.int_eval v))
theorem own_t2l (hA : Z.arrayAt? a = some cl) (et : ∀ idx, t.eval a0 Z none idx Z = some (.ref a)) (zc : cl.slots.size = (128 : Int32).toNatClampNeg) (Ej : ∀ j : Int32, ¬ (j < 0 ∨ cl.slots.size ≤ j.toNatClampNeg) → cl.slots[j.toNatClampNeg]? = some (.int (E j))) (h0 : ¬ j < (0 : Int32)) (h1 : j < (128 : Int32)) {lo v : Int32}
    (h : (Cond.all t (.or (.lt (.index 0) (.int lo)) (.eq (.elem t (.index 0)) (.int v)))).value a0 Z none Z [] = some true) : j < lo ∨ E j = v := by
  have hin := own_tin zc h0 h1
  have q := Cond.all_elim (et []) hA h j.toNatClampNeg (Nat.lt_of_not_le fun x => hin (Or.inr x))
  have ei := idx_at (args := a0) (first := Z) (o := none) (s := Z) h0
  have ee : (Term.elem t (.index 0)).eval a0 Z none [j.toNatClampNeg] Z = some (.int (E j)) := (elem_f (et _) ei hA h0).trans (Ej j hin)
  exact or_e2 (Cond.lt_ints ei (Term.int_eval lo)) (Cond.eq_ints ee (Term.int_eval v)) q
theorem own_t2h (hA : Z.arrayAt? a = some cl) (et : ∀ idx, t.eval a0 Z none idx Z = some (.ref a)) (zc : cl.slots.size = (128 : Int32).toNatClampNeg) (Ej : ∀ j : Int32, ¬ (j < 0 ∨ cl.slots.size ≤ j.toNatClampNeg) → cl.slots[j.toNatClampNeg]? = some (.int (E j))) (h0 : ¬ j < (0 : Int32)) (h1 : j < (128 : Int32)) {hi v : Int32}
    (h : (Cond.all t (.or (.le (.int hi) (.index 0)) (.eq (.elem t (.index 0)) (.int v)))).value a0 Z none Z [] = some true) : ¬ j < hi ∨ E j = v := by
  have hin := own_tin zc h0 h1
  have q := Cond.all_elim (et []) hA h j.toNatClampNeg (Nat.lt_of_not_le fun x => hin (Or.inr x))
  have ei := idx_at (args := a0) (first := Z) (o := none) (s := Z) h0
  have ee : (Term.elem t (.index 0)).eval a0 Z none [j.toNatClampNeg] Z = some (.int (E j)) := (elem_f (et _) ei hA h0).trans (Ej j hin)
  rcases or_e2 (Cond.le_ints (Term.int_eval hi) ei) (Cond.eq_ints ee (Term.int_eval v)) q with h | h
  · exact Or.inl (Int32.not_lt.mpr h)
  · exact Or.inr h
theorem own_t1 (hA : Z.arrayAt? a = some cl) (et : ∀ idx, t.eval a0 Z none idx Z = some (.ref a)) (zc : cl.slots.size = (128 : Int32).toNatClampNeg) (Ej : ∀ j : Int32, ¬ (j < 0 ∨ cl.slots.size ≤ j.toNatClampNeg) → cl.slots[j.toNatClampNeg]? = some (.int (E j))) {k v : Int32} (h0 : ¬ k < (0 : Int32)) (h1 : k < (128 : Int32))
    (h : (Cond.eq (.elem t (.int k)) (.int v)).value a0 Z none Z [] = some true) : E k = v := by
  have hin := own_tin zc h0 h1
  have ee : (Term.elem t (.int k)).eval a0 Z none [] Z = some (.int (E k)) := (elem_f (et _) (Term.int_eval k) hA h0).trans (Ej k hin)
  exact gotT (Cond.eq_ints ee (Term.int_eval v)) h
end T
theorem own_lits : (0 : Int32).toInt = 0 ∧ (1 : Int32).toInt = 1 ∧ (32 : Int32).toInt = 32 ∧ (33 : Int32).toInt = 33 ∧ (34 : Int32).toInt = 34 ∧ (35 : Int32).toInt = 35 ∧ (43 : Int32).toInt = 43 ∧ (44 : Int32).toInt = 44 ∧ (45 : Int32).toInt = 45 ∧ (46 : Int32).toInt = 46 ∧ (47 : Int32).toInt = 47 ∧ (48 : Int32).toInt = 48 ∧ (57 : Int32).toInt = 57 ∧ (58 : Int32).toInt = 58 ∧ (60 : Int32).toInt = 60 ∧ (61 : Int32).toInt = 61 ∧ (62 : Int32).toInt = 62 ∧ (63 : Int32).toInt = 63 ∧ (65 : Int32).toInt = 65 ∧ (90 : Int32).toInt = 90 ∧ (91 : Int32).toInt = 91 ∧ (92 : Int32).toInt = 92 ∧ (93 : Int32).toInt = 93 ∧ (94 : Int32).toInt = 94 ∧ (95 : Int32).toInt = 95 ∧ (96 : Int32).toInt = 96 ∧ (97 : Int32).toInt = 97 ∧ (122 : Int32).toInt = 122 ∧ (123 : Int32).toInt = 123 ∧ (124 : Int32).toInt = 124 ∧ (125 : Int32).toInt = 125 ∧ (126 : Int32).toInt = 126 ∧ (127 : Int32).toInt = 127 ∧ (128 : Int32).toInt = 128 := by decide
theorem own_let_int (c : Int32) : (own_letter c = 0 ∧ (c.toInt < 65 ∨ (90 < c.toInt ∧ c.toInt < 97) ∨ 122 < c.toInt)) ∨ (own_letter c = 1 ∧ ((65 ≤ c.toInt ∧ c.toInt ≤ 90) ∨ (97 ≤ c.toInt ∧ c.toInt ≤ 122))) := by
  unfold own_letter
  repeat' split
  all_goals first | (refine Or.inl ⟨rfl, ?_⟩; simp only [Int32.lt_iff_toInt_lt, own_lits] at *; omega) | (refine Or.inr ⟨rfl, ?_⟩; simp only [Int32.lt_iff_toInt_lt, own_lits] at *; omega)
set_option maxHeartbeats 4000000 in
theorem own_fit_own_hold {E : Int32 → Int32} {j : Int32} (b0 : ¬ j < (0 : Int32)) (b1 : j < (128 : Int32)) (f0 : ¬ j < (33 : Int32) ∨ E j = (0 : Int32)) (f1 : E (33 : Int32) = (1 : Int32)) (f2 : E (34 : Int32) = (0 : Int32)) (f3 : j < (35 : Int32) ∨ ¬ j < (60 : Int32) ∨ E j = (1 : Int32)) (f4 : E (60 : Int32) = (0 : Int32)) (f5 : E (61 : Int32) = (1 : Int32)) (f6 : E (62 : Int32) = (0 : Int32)) (f7 : j < (63 : Int32) ∨ ¬ j < (92 : Int32) ∨ E j = (1 : Int32)) (f8 : E (92 : Int32) = (0 : Int32)) (f9 : E (93 : Int32) = (1 : Int32)) (f10 : E (94 : Int32) = (0 : Int32)) (f11 : E (95 : Int32) = (1 : Int32)) (f12 : E (96 : Int32) = (0 : Int32)) (f13 : j < (97 : Int32) ∨ ¬ j < (123 : Int32) ∨ E j = (1 : Int32)) (f14 : E (123 : Int32) = (0 : Int32)) (f15 : E (124 : Int32) = (0 : Int32)) (f16 : E (125 : Int32) = (0 : Int32)) (f17 : E (126 : Int32) = (1 : Int32)) (f18 : E (127 : Int32) = (1 : Int32)) : E j = own_hold j := by
  have k1 : j = (33 : Int32) → E j = (1 : Int32) := fun e => by rw [e]; exact f1
  clear f1
  have k2 : j = (34 : Int32) → E j = (0 : Int32) := fun e => by rw [e]; exact f2
  clear f2
  have k4 : j = (60 : Int32) → E j = (0 : Int32) := fun e => by rw [e]; exact f4
  clear f4
  have k5 : j = (61 : Int32) → E j = (1 : Int32) := fun e => by rw [e]; exact f5
  clear f5
  have k6 : j = (62 : Int32) → E j = (0 : Int32) := fun e => by rw [e]; exact f6
  clear f6
  have k8 : j = (92 : Int32) → E j = (0 : Int32) := fun e => by rw [e]; exact f8
  clear f8
  have k9 : j = (93 : Int32) → E j = (1 : Int32) := fun e => by rw [e]; exact f9
  clear f9
  have k10 : j = (94 : Int32) → E j = (0 : Int32) := fun e => by rw [e]; exact f10
  clear f10
  have k11 : j = (95 : Int32) → E j = (1 : Int32) := fun e => by rw [e]; exact f11
  clear f11
  have k12 : j = (96 : Int32) → E j = (0 : Int32) := fun e => by rw [e]; exact f12
  clear f12
  have k14 : j = (123 : Int32) → E j = (0 : Int32) := fun e => by rw [e]; exact f14
  clear f14
  have k15 : j = (124 : Int32) → E j = (0 : Int32) := fun e => by rw [e]; exact f15
  clear f15
  have k16 : j = (125 : Int32) → E j = (0 : Int32) := fun e => by rw [e]; exact f16
  clear f16
  have k17 : j = (126 : Int32) → E j = (1 : Int32) := fun e => by rw [e]; exact f17
  clear f17
  have k18 : j = (127 : Int32) → E j = (1 : Int32) := fun e => by rw [e]; exact f18
  clear f18
  generalize E j = X at *
  unfold own_hold
  repeat' split
  all_goals (simp only [Int32.lt_iff_toInt_lt, ← Int32.toInt_inj, own_lits] at *; omega)
set_option maxHeartbeats 4000000 in
theorem own_fit_own_scheme {E : Int32 → Int32} {j : Int32} (b0 : ¬ j < (0 : Int32)) (b1 : j < (128 : Int32)) (f0 : ¬ j < (43 : Int32) ∨ E j = (0 : Int32)) (f1 : E (43 : Int32) = (1 : Int32)) (f2 : E (44 : Int32) = (0 : Int32)) (f3 : E (45 : Int32) = (1 : Int32)) (f4 : E (46 : Int32) = (1 : Int32)) (f5 : E (47 : Int32) = (0 : Int32)) (f6 : j < (48 : Int32) ∨ ¬ j < (58 : Int32) ∨ E j = (1 : Int32)) (f7 : j < (58 : Int32) ∨ ¬ j < (65 : Int32) ∨ E j = (0 : Int32)) (f8 : j < (65 : Int32) ∨ ¬ j < (91 : Int32) ∨ E j = (1 : Int32)) (f9 : j < (91 : Int32) ∨ ¬ j < (97 : Int32) ∨ E j = (0 : Int32)) (f10 : j < (97 : Int32) ∨ ¬ j < (123 : Int32) ∨ E j = (1 : Int32)) (f11 : j < (123 : Int32) ∨ E j = (0 : Int32)) : E j = own_scheme j := by
  have k1 : j = (43 : Int32) → E j = (1 : Int32) := fun e => by rw [e]; exact f1
  clear f1
  have k2 : j = (44 : Int32) → E j = (0 : Int32) := fun e => by rw [e]; exact f2
  clear f2
  have k3 : j = (45 : Int32) → E j = (1 : Int32) := fun e => by rw [e]; exact f3
  clear f3
  have k4 : j = (46 : Int32) → E j = (1 : Int32) := fun e => by rw [e]; exact f4
  clear f4
  have k5 : j = (47 : Int32) → E j = (0 : Int32) := fun e => by rw [e]; exact f5
  clear f5
  generalize E j = X at *
  rcases own_let_int j with ⟨e, q⟩ | ⟨e, q⟩
  · rw [own_scheme, e, if_pos rfl]; clear e
    repeat' split
    all_goals (simp only [Int32.lt_iff_toInt_lt, ← Int32.toInt_inj, own_lits] at *; omega)
  · rw [own_scheme, e, if_neg (by decide)]; clear e
    simp only [Int32.lt_iff_toInt_lt, ← Int32.toInt_inj, own_lits] at *; omega
set_option maxHeartbeats 4000000 in
theorem own_fit_own_letter {E : Int32 → Int32} {j : Int32} (b0 : ¬ j < (0 : Int32)) (b1 : j < (128 : Int32)) (f0 : ¬ j < (65 : Int32) ∨ E j = (0 : Int32)) (f1 : j < (65 : Int32) ∨ ¬ j < (91 : Int32) ∨ E j = (1 : Int32)) (f2 : j < (91 : Int32) ∨ ¬ j < (97 : Int32) ∨ E j = (0 : Int32)) (f3 : j < (97 : Int32) ∨ ¬ j < (123 : Int32) ∨ E j = (1 : Int32)) (f4 : j < (123 : Int32) ∨ E j = (0 : Int32)) : E j = own_letter j := by
  generalize E j = X at *
  unfold own_letter
  repeat' split
  all_goals (simp only [Int32.lt_iff_toInt_lt, ← Int32.toInt_inj, own_lits] at *; omega)
theorem own_tab0 {Z : State} {a0 : Array Value} (G : OwnG Z a0) : ∃ a : Addr, Sta Z Z.heap "com/example/vett/vett/model/Iris" "IS_SCHEME_START" "[Z" (.ref a) ∧ OwnTab Z a own_letter := by
  have hn := Cond.before_iff.mp G.2.2.2.1
  obtain ⟨g0, hn⟩ := and_e hn
  obtain ⟨g1, hn⟩ := and_e hn
  obtain ⟨g2, hn⟩ := and_e hn
  obtain ⟨g3, hn⟩ := and_e hn
  obtain ⟨g4, hn⟩ := and_e hn
  obtain ⟨g5, hn⟩ := and_e hn
  obtain ⟨g6, hn⟩ := and_e hn
  obtain ⟨g7, hn⟩ := and_e hn
  obtain ⟨g8, hn⟩ := and_e hn
  obtain ⟨g9, hn⟩ := and_e hn
  obtain ⟨g10, hn⟩ := and_e hn
  obtain ⟨g11, hn⟩ := and_e hn
  obtain ⟨g12, hn⟩ := and_e hn
  obtain ⟨g13, hn⟩ := and_e hn
  obtain ⟨g14, hn⟩ := and_e hn
  obtain ⟨g15, hn⟩ := and_e hn
  obtain ⟨g16, hn⟩ := and_e hn
  obtain ⟨g17, hn⟩ := and_e hn
  obtain ⟨g18, hn⟩ := and_e hn
  obtain ⟨g19, hn⟩ := and_e hn
  obtain ⟨g20, hn⟩ := and_e hn
  obtain ⟨g21, hn⟩ := and_e hn
  obtain ⟨g22, hn⟩ := and_e hn
  obtain ⟨g23, hn⟩ := and_e hn
  obtain ⟨g24, hn⟩ := and_e hn
  obtain ⟨g25, hn⟩ := and_e hn
  obtain ⟨g26, hn⟩ := and_e hn
  obtain ⟨g27, hn⟩ := and_e hn
  obtain ⟨g28, hn⟩ := and_e hn
  obtain ⟨g29, hn⟩ := and_e hn
  obtain ⟨g30, hn⟩ := and_e hn
  obtain ⟨g31, hn⟩ := and_e hn
  obtain ⟨g32, hn⟩ := and_e hn
  obtain ⟨g33, hn⟩ := and_e hn
  obtain ⟨g34, hn⟩ := and_e hn
  obtain ⟨g35, hn⟩ := and_e hn
  obtain ⟨g36, hn⟩ := and_e hn
  obtain ⟨g37, hn⟩ := and_e hn
  obtain ⟨g38, hn⟩ := and_e hn
  obtain ⟨g39, hn⟩ := and_e hn
  obtain ⟨g40, hn⟩ := and_e hn
  have g41 := hn
  obtain ⟨a, ev⟩ := own_arr_ref g0
  obtain ⟨cl, A⟩ := Arr.start ev g0
  have et : ∀ idx, (Term.static "com/example/vett/vett/model/Iris" "IS_SCHEME_START" "[Z").eval a0 Z none idx Z = some (.ref a) := fun _ => ev
  have zc := own_len A ev g1
  obtain ⟨E, Ej⟩ := own_elems G.2.2.2.2 A
  have q6 : ∀ j : Int32, ¬ j < (0 : Int32) → j < (128 : Int32) → ¬ j < (65 : Int32) ∨ E j = (0 : Int32) := fun j h0 h1 => own_t2h (A.fin (Vm.Alike.refl _)) et zc Ej h0 h1 g6
  have q7 : ∀ j : Int32, ¬ j < (0 : Int32) → j < (128 : Int32) → j < (65 : Int32) ∨ ¬ j < (91 : Int32) ∨ E j = (1 : Int32) := fun j h0 h1 => own_t3 (A.fin (Vm.Alike.refl _)) et zc Ej h0 h1 g7
  have q8 : ∀ j : Int32, ¬ j < (0 : Int32) → j < (128 : Int32) → j < (91 : Int32) ∨ ¬ j < (97 : Int32) ∨ E j = (0 : Int32) := fun j h0 h1 => own_t3 (A.fin (Vm.Alike.refl _)) et zc Ej h0 h1 g8
  have q9 : ∀ j : Int32, ¬ j < (0 : Int32) → j < (128 : Int32) → j < (97 : Int32) ∨ ¬ j < (123 : Int32) ∨ E j = (1 : Int32) := fun j h0 h1 => own_t3 (A.fin (Vm.Alike.refl _)) et zc Ej h0 h1 g9
  have q10 : ∀ j : Int32, ¬ j < (0 : Int32) → j < (128 : Int32) → j < (123 : Int32) ∨ E j = (0 : Int32) := fun j h0 h1 => own_t2l (A.fin (Vm.Alike.refl _)) et zc Ej h0 h1 g10
  refine ⟨a, Sta.start ev (Or.inr ⟨(own_w G 35 rfl), (own_w G 97 rfl)⟩), cl, A, zc, fun j h0 h1 => ?_⟩
  rw [Ej j (own_tin zc h0 h1)]
  congr 2
  have hk := own_fin (c := j) ⟨h0, fun q => by rw [Int32.lt_iff_toInt_lt] at q h1; have e1 : (128 : Int32).toInt = 128 := rfl; have e2 : (255 : Int32).toInt = 255 := rfl; omega⟩
  exact own_fit_own_letter h0 h1 (q6 j h0 h1) (q7 j h0 h1) (q8 j h0 h1) (q9 j h0 h1) (q10 j h0 h1)
theorem own_tab1 {Z : State} {a0 : Array Value} (G : OwnG Z a0) : ∃ a : Addr, Sta Z Z.heap "com/example/vett/vett/model/Iris" "IS_SCHEME_CHARACTER" "[Z" (.ref a) ∧ OwnTab Z a own_scheme := by
  have hn := Cond.before_iff.mp G.2.2.2.1
  obtain ⟨g0, hn⟩ := and_e hn
  obtain ⟨g1, hn⟩ := and_e hn
  obtain ⟨g2, hn⟩ := and_e hn
  obtain ⟨g3, hn⟩ := and_e hn
  obtain ⟨g4, hn⟩ := and_e hn
  obtain ⟨g5, hn⟩ := and_e hn
  obtain ⟨g6, hn⟩ := and_e hn
  obtain ⟨g7, hn⟩ := and_e hn
  obtain ⟨g8, hn⟩ := and_e hn
  obtain ⟨g9, hn⟩ := and_e hn
  obtain ⟨g10, hn⟩ := and_e hn
  obtain ⟨g11, hn⟩ := and_e hn
  obtain ⟨g12, hn⟩ := and_e hn
  obtain ⟨g13, hn⟩ := and_e hn
  obtain ⟨g14, hn⟩ := and_e hn
  obtain ⟨g15, hn⟩ := and_e hn
  obtain ⟨g16, hn⟩ := and_e hn
  obtain ⟨g17, hn⟩ := and_e hn
  obtain ⟨g18, hn⟩ := and_e hn
  obtain ⟨g19, hn⟩ := and_e hn
  obtain ⟨g20, hn⟩ := and_e hn
  obtain ⟨g21, hn⟩ := and_e hn
  obtain ⟨g22, hn⟩ := and_e hn
  obtain ⟨g23, hn⟩ := and_e hn
  obtain ⟨g24, hn⟩ := and_e hn
  obtain ⟨g25, hn⟩ := and_e hn
  obtain ⟨g26, hn⟩ := and_e hn
  obtain ⟨g27, hn⟩ := and_e hn
  obtain ⟨g28, hn⟩ := and_e hn
  obtain ⟨g29, hn⟩ := and_e hn
  obtain ⟨g30, hn⟩ := and_e hn
  obtain ⟨g31, hn⟩ := and_e hn
  obtain ⟨g32, hn⟩ := and_e hn
  obtain ⟨g33, hn⟩ := and_e hn
  obtain ⟨g34, hn⟩ := and_e hn
  obtain ⟨g35, hn⟩ := and_e hn
  obtain ⟨g36, hn⟩ := and_e hn
  obtain ⟨g37, hn⟩ := and_e hn
  obtain ⟨g38, hn⟩ := and_e hn
  obtain ⟨g39, hn⟩ := and_e hn
  obtain ⟨g40, hn⟩ := and_e hn
  have g41 := hn
  obtain ⟨a, ev⟩ := own_arr_ref g4
  obtain ⟨cl, A⟩ := Arr.start ev g4
  have et : ∀ idx, (Term.static "com/example/vett/vett/model/Iris" "IS_SCHEME_CHARACTER" "[Z").eval a0 Z none idx Z = some (.ref a) := fun _ => ev
  have zc := own_len A ev g5
  obtain ⟨E, Ej⟩ := own_elems G.2.2.2.2 A
  have q30 : ∀ j : Int32, ¬ j < (0 : Int32) → j < (128 : Int32) → ¬ j < (43 : Int32) ∨ E j = (0 : Int32) := fun j h0 h1 => own_t2h (A.fin (Vm.Alike.refl _)) et zc Ej h0 h1 g30
  have q31 : E (43 : Int32) = (1 : Int32) := own_t1 (A.fin (Vm.Alike.refl _)) et zc Ej (by decide) (by decide) g31
  have q32 : E (44 : Int32) = (0 : Int32) := own_t1 (A.fin (Vm.Alike.refl _)) et zc Ej (by decide) (by decide) g32
  have q33 : E (45 : Int32) = (1 : Int32) := own_t1 (A.fin (Vm.Alike.refl _)) et zc Ej (by decide) (by decide) g33
  have q34 : E (46 : Int32) = (1 : Int32) := own_t1 (A.fin (Vm.Alike.refl _)) et zc Ej (by decide) (by decide) g34
  have q35 : E (47 : Int32) = (0 : Int32) := own_t1 (A.fin (Vm.Alike.refl _)) et zc Ej (by decide) (by decide) g35
  have q36 : ∀ j : Int32, ¬ j < (0 : Int32) → j < (128 : Int32) → j < (48 : Int32) ∨ ¬ j < (58 : Int32) ∨ E j = (1 : Int32) := fun j h0 h1 => own_t3 (A.fin (Vm.Alike.refl _)) et zc Ej h0 h1 g36
  have q37 : ∀ j : Int32, ¬ j < (0 : Int32) → j < (128 : Int32) → j < (58 : Int32) ∨ ¬ j < (65 : Int32) ∨ E j = (0 : Int32) := fun j h0 h1 => own_t3 (A.fin (Vm.Alike.refl _)) et zc Ej h0 h1 g37
  have q38 : ∀ j : Int32, ¬ j < (0 : Int32) → j < (128 : Int32) → j < (65 : Int32) ∨ ¬ j < (91 : Int32) ∨ E j = (1 : Int32) := fun j h0 h1 => own_t3 (A.fin (Vm.Alike.refl _)) et zc Ej h0 h1 g38
  have q39 : ∀ j : Int32, ¬ j < (0 : Int32) → j < (128 : Int32) → j < (91 : Int32) ∨ ¬ j < (97 : Int32) ∨ E j = (0 : Int32) := fun j h0 h1 => own_t3 (A.fin (Vm.Alike.refl _)) et zc Ej h0 h1 g39
  have q40 : ∀ j : Int32, ¬ j < (0 : Int32) → j < (128 : Int32) → j < (97 : Int32) ∨ ¬ j < (123 : Int32) ∨ E j = (1 : Int32) := fun j h0 h1 => own_t3 (A.fin (Vm.Alike.refl _)) et zc Ej h0 h1 g40
  have q41 : ∀ j : Int32, ¬ j < (0 : Int32) → j < (128 : Int32) → j < (123 : Int32) ∨ E j = (0 : Int32) := fun j h0 h1 => own_t2l (A.fin (Vm.Alike.refl _)) et zc Ej h0 h1 g41
  refine ⟨a, Sta.start ev (Or.inr ⟨(own_w G 35 rfl), (own_w G 130 rfl)⟩), cl, A, zc, fun j h0 h1 => ?_⟩
  rw [Ej j (own_tin zc h0 h1)]
  congr 2
  have hk := own_fin (c := j) ⟨h0, fun q => by rw [Int32.lt_iff_toInt_lt] at q h1; have e1 : (128 : Int32).toInt = 128 := rfl; have e2 : (255 : Int32).toInt = 255 := rfl; omega⟩
  exact own_fit_own_scheme h0 h1 (q30 j h0 h1) q31 q32 q33 q34 q35 (q36 j h0 h1) (q37 j h0 h1) (q38 j h0 h1) (q39 j h0 h1) (q40 j h0 h1) (q41 j h0 h1)
theorem own_tab2 {Z : State} {a0 : Array Value} (G : OwnG Z a0) : ∃ a : Addr, Sta Z Z.heap "com/example/vett/vett/model/Iris" "IS_IN_IRIREF" "[Z" (.ref a) ∧ OwnTab Z a own_hold := by
  have hn := Cond.before_iff.mp G.2.2.2.1
  obtain ⟨g0, hn⟩ := and_e hn
  obtain ⟨g1, hn⟩ := and_e hn
  obtain ⟨g2, hn⟩ := and_e hn
  obtain ⟨g3, hn⟩ := and_e hn
  obtain ⟨g4, hn⟩ := and_e hn
  obtain ⟨g5, hn⟩ := and_e hn
  obtain ⟨g6, hn⟩ := and_e hn
  obtain ⟨g7, hn⟩ := and_e hn
  obtain ⟨g8, hn⟩ := and_e hn
  obtain ⟨g9, hn⟩ := and_e hn
  obtain ⟨g10, hn⟩ := and_e hn
  obtain ⟨g11, hn⟩ := and_e hn
  obtain ⟨g12, hn⟩ := and_e hn
  obtain ⟨g13, hn⟩ := and_e hn
  obtain ⟨g14, hn⟩ := and_e hn
  obtain ⟨g15, hn⟩ := and_e hn
  obtain ⟨g16, hn⟩ := and_e hn
  obtain ⟨g17, hn⟩ := and_e hn
  obtain ⟨g18, hn⟩ := and_e hn
  obtain ⟨g19, hn⟩ := and_e hn
  obtain ⟨g20, hn⟩ := and_e hn
  obtain ⟨g21, hn⟩ := and_e hn
  obtain ⟨g22, hn⟩ := and_e hn
  obtain ⟨g23, hn⟩ := and_e hn
  obtain ⟨g24, hn⟩ := and_e hn
  obtain ⟨g25, hn⟩ := and_e hn
  obtain ⟨g26, hn⟩ := and_e hn
  obtain ⟨g27, hn⟩ := and_e hn
  obtain ⟨g28, hn⟩ := and_e hn
  obtain ⟨g29, hn⟩ := and_e hn
  obtain ⟨g30, hn⟩ := and_e hn
  obtain ⟨g31, hn⟩ := and_e hn
  obtain ⟨g32, hn⟩ := and_e hn
  obtain ⟨g33, hn⟩ := and_e hn
  obtain ⟨g34, hn⟩ := and_e hn
  obtain ⟨g35, hn⟩ := and_e hn
  obtain ⟨g36, hn⟩ := and_e hn
  obtain ⟨g37, hn⟩ := and_e hn
  obtain ⟨g38, hn⟩ := and_e hn
  obtain ⟨g39, hn⟩ := and_e hn
  obtain ⟨g40, hn⟩ := and_e hn
  have g41 := hn
  obtain ⟨a, ev⟩ := own_arr_ref g2
  obtain ⟨cl, A⟩ := Arr.start ev g2
  have et : ∀ idx, (Term.static "com/example/vett/vett/model/Iris" "IS_IN_IRIREF" "[Z").eval a0 Z none idx Z = some (.ref a) := fun _ => ev
  have zc := own_len A ev g3
  obtain ⟨E, Ej⟩ := own_elems G.2.2.2.2 A
  have q11 : ∀ j : Int32, ¬ j < (0 : Int32) → j < (128 : Int32) → ¬ j < (33 : Int32) ∨ E j = (0 : Int32) := fun j h0 h1 => own_t2h (A.fin (Vm.Alike.refl _)) et zc Ej h0 h1 g11
  have q12 : E (33 : Int32) = (1 : Int32) := own_t1 (A.fin (Vm.Alike.refl _)) et zc Ej (by decide) (by decide) g12
  have q13 : E (34 : Int32) = (0 : Int32) := own_t1 (A.fin (Vm.Alike.refl _)) et zc Ej (by decide) (by decide) g13
  have q14 : ∀ j : Int32, ¬ j < (0 : Int32) → j < (128 : Int32) → j < (35 : Int32) ∨ ¬ j < (60 : Int32) ∨ E j = (1 : Int32) := fun j h0 h1 => own_t3 (A.fin (Vm.Alike.refl _)) et zc Ej h0 h1 g14
  have q15 : E (60 : Int32) = (0 : Int32) := own_t1 (A.fin (Vm.Alike.refl _)) et zc Ej (by decide) (by decide) g15
  have q16 : E (61 : Int32) = (1 : Int32) := own_t1 (A.fin (Vm.Alike.refl _)) et zc Ej (by decide) (by decide) g16
  have q17 : E (62 : Int32) = (0 : Int32) := own_t1 (A.fin (Vm.Alike.refl _)) et zc Ej (by decide) (by decide) g17
  have q18 : ∀ j : Int32, ¬ j < (0 : Int32) → j < (128 : Int32) → j < (63 : Int32) ∨ ¬ j < (92 : Int32) ∨ E j = (1 : Int32) := fun j h0 h1 => own_t3 (A.fin (Vm.Alike.refl _)) et zc Ej h0 h1 g18
  have q19 : E (92 : Int32) = (0 : Int32) := own_t1 (A.fin (Vm.Alike.refl _)) et zc Ej (by decide) (by decide) g19
  have q20 : E (93 : Int32) = (1 : Int32) := own_t1 (A.fin (Vm.Alike.refl _)) et zc Ej (by decide) (by decide) g20
  have q21 : E (94 : Int32) = (0 : Int32) := own_t1 (A.fin (Vm.Alike.refl _)) et zc Ej (by decide) (by decide) g21
  have q22 : E (95 : Int32) = (1 : Int32) := own_t1 (A.fin (Vm.Alike.refl _)) et zc Ej (by decide) (by decide) g22
  have q23 : E (96 : Int32) = (0 : Int32) := own_t1 (A.fin (Vm.Alike.refl _)) et zc Ej (by decide) (by decide) g23
  have q24 : ∀ j : Int32, ¬ j < (0 : Int32) → j < (128 : Int32) → j < (97 : Int32) ∨ ¬ j < (123 : Int32) ∨ E j = (1 : Int32) := fun j h0 h1 => own_t3 (A.fin (Vm.Alike.refl _)) et zc Ej h0 h1 g24
  have q25 : E (123 : Int32) = (0 : Int32) := own_t1 (A.fin (Vm.Alike.refl _)) et zc Ej (by decide) (by decide) g25
  have q26 : E (124 : Int32) = (0 : Int32) := own_t1 (A.fin (Vm.Alike.refl _)) et zc Ej (by decide) (by decide) g26
  have q27 : E (125 : Int32) = (0 : Int32) := own_t1 (A.fin (Vm.Alike.refl _)) et zc Ej (by decide) (by decide) g27
  have q28 : E (126 : Int32) = (1 : Int32) := own_t1 (A.fin (Vm.Alike.refl _)) et zc Ej (by decide) (by decide) g28
  have q29 : E (127 : Int32) = (1 : Int32) := own_t1 (A.fin (Vm.Alike.refl _)) et zc Ej (by decide) (by decide) g29
  refine ⟨a, Sta.start ev (Or.inr ⟨(own_w G 35 rfl), (own_w G 125 rfl)⟩), cl, A, zc, fun j h0 h1 => ?_⟩
  rw [Ej j (own_tin zc h0 h1)]
  congr 2
  have hk := own_fin (c := j) ⟨h0, fun q => by rw [Int32.lt_iff_toInt_lt] at q h1; have e1 : (128 : Int32).toInt = 128 := rfl; have e2 : (255 : Int32).toInt = 255 := rfl; omega⟩
  exact own_fit_own_hold h0 h1 (q11 j h0 h1) q12 q13 (q14 j h0 h1) q15 q16 q17 (q18 j h0 h1) q19 q20 q21 q22 q23 (q24 j h0 h1) q25 q26 q27 q28 q29
theorem own_tabs {Z : State} {a0 : Array Value} (G : OwnG Z a0) : ∃ a b c : Addr, Sta Z Z.heap "com/example/vett/vett/model/Iris" "IS_SCHEME_START" "[Z" (.ref a) ∧ Sta Z Z.heap "com/example/vett/vett/model/Iris" "IS_SCHEME_CHARACTER" "[Z" (.ref b) ∧ Sta Z Z.heap "com/example/vett/vett/model/Iris" "IS_IN_IRIREF" "[Z" (.ref c) ∧ OwnTab Z a own_letter ∧ OwnTab Z b own_scheme ∧ OwnTab Z c own_hold := by
  obtain ⟨a, A, A'⟩ := own_tab0 G
  obtain ⟨b, B, B'⟩ := own_tab1 G
  obtain ⟨c, C, C'⟩ := own_tab2 G
  exact ⟨a, b, c, A, B, C, A', B', C'⟩

theorem own_rem6 (p0 : Int32) : ((p0 &&& (2147483647 : Int32)) % (6 : Int32)) = (0 : Int32) ∨ ((p0 &&& (2147483647 : Int32)) % (6 : Int32)) = (1 : Int32) ∨ ((p0 &&& (2147483647 : Int32)) % (6 : Int32)) = (2 : Int32) ∨ ((p0 &&& (2147483647 : Int32)) % (6 : Int32)) = (3 : Int32) ∨ ((p0 &&& (2147483647 : Int32)) % (6 : Int32)) = (4 : Int32) ∨ ((p0 &&& (2147483647 : Int32)) % (6 : Int32)) = (5 : Int32) := by
  have a := c_and p0 2147483647 (by decide)
  have b := (c_irem (p0 &&& 2147483647) 6 6 rfl).1 a.1
  simp only [← Int32.toInt_inj]
  rw [b]
  have e0 : (0 : Int32).toInt = 0 := rfl
  have e1 : (1 : Int32).toInt = 1 := rfl
  have e2 : (2 : Int32).toInt = 2 := rfl
  have e3 : (3 : Int32).toInt = 3 := rfl
  have e4 : (4 : Int32).toInt = 4 := rfl
  have e5 : (5 : Int32).toInt = 5 := rfl
  omega
theorem own_all_1 {a : Int32} (ha : ¬ a < (0 : Int32) ∧ ¬ (255 : Int32) < a) : ∀ c ∈ ([a] : List Int32), ¬ c < (0 : Int32) ∧ ¬ (255 : Int32) < c := by
  intro c hc; simp only [List.mem_cons, List.not_mem_nil, or_false] at hc; rcases hc with rfl <;> assumption
theorem own_all_2 {a b : Int32} (ha : ¬ a < (0 : Int32) ∧ ¬ (255 : Int32) < a) (hb : ¬ b < (0 : Int32) ∧ ¬ (255 : Int32) < b) : ∀ c ∈ ([a, b] : List Int32), ¬ c < (0 : Int32) ∧ ¬ (255 : Int32) < c := by
  intro c hc; simp only [List.mem_cons, List.not_mem_nil, or_false] at hc; rcases hc with rfl | rfl <;> assumption
theorem own_all_3 {a b d : Int32} (ha : ¬ a < (0 : Int32) ∧ ¬ (255 : Int32) < a) (hb : ¬ b < (0 : Int32) ∧ ¬ (255 : Int32) < b) (hd : ¬ d < (0 : Int32) ∧ ¬ (255 : Int32) < d) : ∀ c ∈ ([a, b, d] : List Int32), ¬ c < (0 : Int32) ∧ ¬ (255 : Int32) < c := by
  intro c hc; simp only [List.mem_cons, List.not_mem_nil, or_false] at hc; rcases hc with rfl | rfl | rfl <;> assumption
theorem own_all_4 {a b d e : Int32} (ha : ¬ a < (0 : Int32) ∧ ¬ (255 : Int32) < a) (hb : ¬ b < (0 : Int32) ∧ ¬ (255 : Int32) < b) (hd : ¬ d < (0 : Int32) ∧ ¬ (255 : Int32) < d) (he : ¬ e < (0 : Int32) ∧ ¬ (255 : Int32) < e) : ∀ c ∈ ([a, b, d, e] : List Int32), ¬ c < (0 : Int32) ∧ ¬ (255 : Int32) < c := by
  intro c hc; simp only [List.mem_cons, List.not_mem_nil, or_false] at hc; rcases hc with rfl | rfl | rfl | rfl <;> assumption
theorem own_all_5 {a b d e f : Int32} (ha : ¬ a < (0 : Int32) ∧ ¬ (255 : Int32) < a) (hb : ¬ b < (0 : Int32) ∧ ¬ (255 : Int32) < b) (hd : ¬ d < (0 : Int32) ∧ ¬ (255 : Int32) < d) (he : ¬ e < (0 : Int32) ∧ ¬ (255 : Int32) < e) (hf : ¬ f < (0 : Int32) ∧ ¬ (255 : Int32) < f) : ∀ c ∈ ([a, b, d, e, f] : List Int32), ¬ c < (0 : Int32) ∧ ¬ (255 : Int32) < c := by
  intro c hc; simp only [List.mem_cons, List.not_mem_nil, or_false] at hc; rcases hc with rfl | rfl | rfl | rfl | rfl <;> assumption
theorem own_ixc1 (c0 : Int32) : ((own_ix (0 : Int32) [c0]) = (0 : Int32) ∧ c0 = (58 : Int32)) ∨ ((own_ix (0 : Int32) [c0]) = (-1 : Int32) ∧ ∀ c ∈ ([c0] : List Int32), ¬ c = (58 : Int32)) := by
  by_cases h0 : c0 = (58 : Int32)
  · exact Or.inl ⟨by simp [own_ix, h0], h0⟩
  refine Or.inr (⟨by simp [own_ix, h0], ?_⟩)
  intro c hc
  simp only [List.mem_cons, List.not_mem_nil, or_false] at hc
  rcases hc with rfl
  · exact h0
theorem own_ixc2 (c0 c1 : Int32) : ((own_ix (0 : Int32) [c0, c1]) = (0 : Int32) ∧ c0 = (58 : Int32)) ∨ ((own_ix (0 : Int32) [c0, c1]) = (1 : Int32) ∧ ¬ c0 = (58 : Int32) ∧ c1 = (58 : Int32)) ∨ ((own_ix (0 : Int32) [c0, c1]) = (-1 : Int32) ∧ ∀ c ∈ ([c0, c1] : List Int32), ¬ c = (58 : Int32)) := by
  by_cases h0 : c0 = (58 : Int32)
  · exact Or.inl ⟨by simp [own_ix, h0], h0⟩
  by_cases h1 : c1 = (58 : Int32)
  · exact Or.inr (Or.inl ⟨by simp [own_ix, h0, h1], h0, h1⟩)
  refine Or.inr (Or.inr (⟨by simp [own_ix, h0, h1], ?_⟩))
  intro c hc
  simp only [List.mem_cons, List.not_mem_nil, or_false] at hc
  rcases hc with rfl | rfl
  · exact h0
  · exact h1
theorem own_ixc3 (c0 c1 c2 : Int32) : ((own_ix (0 : Int32) [c0, c1, c2]) = (0 : Int32) ∧ c0 = (58 : Int32)) ∨ ((own_ix (0 : Int32) [c0, c1, c2]) = (1 : Int32) ∧ ¬ c0 = (58 : Int32) ∧ c1 = (58 : Int32)) ∨ ((own_ix (0 : Int32) [c0, c1, c2]) = (2 : Int32) ∧ ¬ c0 = (58 : Int32) ∧ ¬ c1 = (58 : Int32) ∧ c2 = (58 : Int32)) ∨ ((own_ix (0 : Int32) [c0, c1, c2]) = (-1 : Int32) ∧ ∀ c ∈ ([c0, c1, c2] : List Int32), ¬ c = (58 : Int32)) := by
  by_cases h0 : c0 = (58 : Int32)
  · exact Or.inl ⟨by simp [own_ix, h0], h0⟩
  by_cases h1 : c1 = (58 : Int32)
  · exact Or.inr (Or.inl ⟨by simp [own_ix, h0, h1], h0, h1⟩)
  by_cases h2 : c2 = (58 : Int32)
  · exact Or.inr (Or.inr (Or.inl ⟨by simp [own_ix, h0, h1, h2], h0, h1, h2⟩))
  refine Or.inr (Or.inr (Or.inr (⟨by simp [own_ix, h0, h1, h2], ?_⟩)))
  intro c hc
  simp only [List.mem_cons, List.not_mem_nil, or_false] at hc
  rcases hc with rfl | rfl | rfl
  · exact h0
  · exact h1
  · exact h2
theorem own_ixc4 (c0 c1 c2 c3 : Int32) : ((own_ix (0 : Int32) [c0, c1, c2, c3]) = (0 : Int32) ∧ c0 = (58 : Int32)) ∨ ((own_ix (0 : Int32) [c0, c1, c2, c3]) = (1 : Int32) ∧ ¬ c0 = (58 : Int32) ∧ c1 = (58 : Int32)) ∨ ((own_ix (0 : Int32) [c0, c1, c2, c3]) = (2 : Int32) ∧ ¬ c0 = (58 : Int32) ∧ ¬ c1 = (58 : Int32) ∧ c2 = (58 : Int32)) ∨ ((own_ix (0 : Int32) [c0, c1, c2, c3]) = (3 : Int32) ∧ ¬ c0 = (58 : Int32) ∧ ¬ c1 = (58 : Int32) ∧ ¬ c2 = (58 : Int32) ∧ c3 = (58 : Int32)) ∨ ((own_ix (0 : Int32) [c0, c1, c2, c3]) = (-1 : Int32) ∧ ∀ c ∈ ([c0, c1, c2, c3] : List Int32), ¬ c = (58 : Int32)) := by
  by_cases h0 : c0 = (58 : Int32)
  · exact Or.inl ⟨by simp [own_ix, h0], h0⟩
  by_cases h1 : c1 = (58 : Int32)
  · exact Or.inr (Or.inl ⟨by simp [own_ix, h0, h1], h0, h1⟩)
  by_cases h2 : c2 = (58 : Int32)
  · exact Or.inr (Or.inr (Or.inl ⟨by simp [own_ix, h0, h1, h2], h0, h1, h2⟩))
  by_cases h3 : c3 = (58 : Int32)
  · exact Or.inr (Or.inr (Or.inr (Or.inl ⟨by simp [own_ix, h0, h1, h2, h3], h0, h1, h2, h3⟩)))
  refine Or.inr (Or.inr (Or.inr (Or.inr (⟨by simp [own_ix, h0, h1, h2, h3], ?_⟩))))
  intro c hc
  simp only [List.mem_cons, List.not_mem_nil, or_false] at hc
  rcases hc with rfl | rfl | rfl | rfl
  · exact h0
  · exact h1
  · exact h2
  · exact h3
theorem own_ixc5 (c0 c1 c2 c3 c4 : Int32) : ((own_ix (0 : Int32) [c0, c1, c2, c3, c4]) = (0 : Int32) ∧ c0 = (58 : Int32)) ∨ ((own_ix (0 : Int32) [c0, c1, c2, c3, c4]) = (1 : Int32) ∧ ¬ c0 = (58 : Int32) ∧ c1 = (58 : Int32)) ∨ ((own_ix (0 : Int32) [c0, c1, c2, c3, c4]) = (2 : Int32) ∧ ¬ c0 = (58 : Int32) ∧ ¬ c1 = (58 : Int32) ∧ c2 = (58 : Int32)) ∨ ((own_ix (0 : Int32) [c0, c1, c2, c3, c4]) = (3 : Int32) ∧ ¬ c0 = (58 : Int32) ∧ ¬ c1 = (58 : Int32) ∧ ¬ c2 = (58 : Int32) ∧ c3 = (58 : Int32)) ∨ ((own_ix (0 : Int32) [c0, c1, c2, c3, c4]) = (4 : Int32) ∧ ¬ c0 = (58 : Int32) ∧ ¬ c1 = (58 : Int32) ∧ ¬ c2 = (58 : Int32) ∧ ¬ c3 = (58 : Int32) ∧ c4 = (58 : Int32)) ∨ ((own_ix (0 : Int32) [c0, c1, c2, c3, c4]) = (-1 : Int32) ∧ ∀ c ∈ ([c0, c1, c2, c3, c4] : List Int32), ¬ c = (58 : Int32)) := by
  by_cases h0 : c0 = (58 : Int32)
  · exact Or.inl ⟨by simp [own_ix, h0], h0⟩
  by_cases h1 : c1 = (58 : Int32)
  · exact Or.inr (Or.inl ⟨by simp [own_ix, h0, h1], h0, h1⟩)
  by_cases h2 : c2 = (58 : Int32)
  · exact Or.inr (Or.inr (Or.inl ⟨by simp [own_ix, h0, h1, h2], h0, h1, h2⟩))
  by_cases h3 : c3 = (58 : Int32)
  · exact Or.inr (Or.inr (Or.inr (Or.inl ⟨by simp [own_ix, h0, h1, h2, h3], h0, h1, h2, h3⟩)))
  by_cases h4 : c4 = (58 : Int32)
  · exact Or.inr (Or.inr (Or.inr (Or.inr (Or.inl ⟨by simp [own_ix, h0, h1, h2, h3, h4], h0, h1, h2, h3, h4⟩))))
  refine Or.inr (Or.inr (Or.inr (Or.inr (Or.inr (⟨by simp [own_ix, h0, h1, h2, h3, h4], ?_⟩)))))
  intro c hc
  simp only [List.mem_cons, List.not_mem_nil, or_false] at hc
  rcases hc with rfl | rfl | rfl | rfl | rfl
  · exact h0
  · exact h1
  · exact h2
  · exact h3
  · exact h4
theorem own_rfa0 (c0 c1 c2 c3 c4 : Int32) : own_rfv (0 : Int32) (own_ix (0 : Int32) []) c0 c1 c2 c3 c4 = own_abs [] := by
  rfl
theorem own_rfa1 (c0 c1 c2 c3 c4 : Int32) : own_rfv (1 : Int32) (own_ix (0 : Int32) [c0]) c0 c1 c2 c3 c4 = own_abs [c0] := by
  rcases own_ixc1 c0 with h | h
  · rw [h.1]; simp [own_rfv, own_okv, own_abs, own_sch, own_tail, h]
  · rw [h.1, own_abs_no h.2]; rfl
theorem own_rfa2 (c0 c1 c2 c3 c4 : Int32) : own_rfv (2 : Int32) (own_ix (0 : Int32) [c0, c1]) c0 c1 c2 c3 c4 = own_abs [c0, c1] := by
  rcases own_ixc2 c0 c1 with h | h | h
  · rw [h.1]; simp [own_rfv, own_okv, own_abs, own_sch, own_tail, h]
  · rw [h.1]; simp [own_rfv, own_okv, own_abs, own_sch, own_tail, h]
  · rw [h.1, own_abs_no h.2]; rfl
theorem own_rfa3 (c0 c1 c2 c3 c4 : Int32) : own_rfv (3 : Int32) (own_ix (0 : Int32) [c0, c1, c2]) c0 c1 c2 c3 c4 = own_abs [c0, c1, c2] := by
  rcases own_ixc3 c0 c1 c2 with h | h | h | h
  · rw [h.1]; simp [own_rfv, own_okv, own_abs, own_sch, own_tail, h]
  · rw [h.1]; simp [own_rfv, own_okv, own_abs, own_sch, own_tail, h]
  · rw [h.1]; simp [own_rfv, own_okv, own_abs, own_sch, own_tail, h]
  · rw [h.1, own_abs_no h.2]; rfl
theorem own_rfa4 (c0 c1 c2 c3 c4 : Int32) : own_rfv (4 : Int32) (own_ix (0 : Int32) [c0, c1, c2, c3]) c0 c1 c2 c3 c4 = own_abs [c0, c1, c2, c3] := by
  rcases own_ixc4 c0 c1 c2 c3 with h | h | h | h | h
  · rw [h.1]; simp [own_rfv, own_okv, own_abs, own_sch, own_tail, h]
  · rw [h.1]; simp [own_rfv, own_okv, own_abs, own_sch, own_tail, h]
  · rw [h.1]; simp [own_rfv, own_okv, own_abs, own_sch, own_tail, h]
  · rw [h.1]; simp [own_rfv, own_okv, own_abs, own_sch, own_tail, h]
  · rw [h.1, own_abs_no h.2]; rfl
theorem own_rfa5 (c0 c1 c2 c3 c4 : Int32) : own_rfv (5 : Int32) (own_ix (0 : Int32) [c0, c1, c2, c3, c4]) c0 c1 c2 c3 c4 = own_abs [c0, c1, c2, c3, c4] := by
  rcases own_ixc5 c0 c1 c2 c3 c4 with h | h | h | h | h | h
  · rw [h.1]; simp [own_rfv, own_okv, own_abs, own_sch, own_tail, h]
  · rw [h.1]; simp [own_rfv, own_okv, own_abs, own_sch, own_tail, h]
  · rw [h.1]; simp [own_rfv, own_okv, own_abs, own_sch, own_tail, h]
  · rw [h.1]; simp [own_rfv, own_okv, own_abs, own_sch, own_tail, h]
  · rw [h.1]; simp [own_rfv, own_okv, own_abs, own_sch, own_tail, h]
  · rw [h.1, own_abs_no h.2]; rfl
theorem d0_0 : decode jdk_42_method_149_code 0 = .ok (.aload_n 0, 1) := by decide +kernel
theorem d0_1 : decode jdk_42_method_149_code 1 = .ok (.invokespecial 1, 3) := by decide +kernel
theorem d0_4 : decode jdk_42_method_149_code 4 = .ok (.iload_n 3, 1) := by decide +kernel
theorem d0_5 : decode jdk_42_method_149_code 5 = .ok (.ifCond .ne 22, 3) := by decide +kernel
theorem d0_8 : decode jdk_42_method_149_code 8 = .ok (.aload_n 0, 1) := by decide +kernel
theorem d0_9 : decode jdk_42_method_149_code 9 = .ok (.ldc 7, 2) := by decide +kernel
theorem d0_11 : decode jdk_42_method_149_code 11 = .ok (.getfield 9, 3) := by decide +kernel
theorem d0_14 : decode jdk_42_method_149_code 14 = .ok (.putfield 9, 3) := by decide +kernel
theorem d0_17 : decode jdk_42_method_149_code 17 = .ok (.aload_n 0, 1) := by decide +kernel
theorem d0_18 : decode jdk_42_method_149_code 18 = .ok (.ldc 7, 2) := by decide +kernel
theorem d0_20 : decode jdk_42_method_149_code 20 = .ok (.getfield 15, 3) := by decide +kernel
theorem d0_23 : decode jdk_42_method_149_code 23 = .ok (.putfield 15, 3) := by decide +kernel
theorem d0_26 : decode jdk_42_method_149_code 26 = .ok (.return_, 1) := by decide +kernel
theorem pn_0 : plainName "java/lang/String" = true := by first | (simp [plainName, overriddenIn]; done) | decide +kernel
theorem d1_0 : decode jdk_42_method_3_code 0 = .ok (.aload_n 0, 1) := by decide +kernel
theorem d1_1 : decode jdk_42_method_3_code 1 = .ok (.aload_n 1, 1) := by decide +kernel
theorem d1_2 : decode jdk_42_method_3_code 2 = .ok (.iconst 0, 1) := by decide +kernel
theorem d1_3 : decode jdk_42_method_3_code 3 = .ok (.aload_n 1, 1) := by decide +kernel
theorem d1_4 : decode jdk_42_method_3_code 4 = .ok (.arraylength, 1) := by decide +kernel
theorem d1_5 : decode jdk_42_method_3_code 5 = .ok (.aconst_null, 1) := by decide +kernel
theorem d1_6 : decode jdk_42_method_3_code 6 = .ok (.invokespecial 27, 3) := by decide +kernel
theorem pd_0 : parseMethodDescriptor "([CIILjava/lang/Void;)V" = some ⟨[(.array .char), .int, .int, (.object "java/lang/Void")], none⟩ := by decide +kernel
theorem d1_9 : decode jdk_42_method_3_code 9 = .ok (.return_, 1) := by decide +kernel
theorem d2_0 : decode jdk_41_method_11_code 0 = .ok (.iload_n 0, 1) := by decide +kernel
theorem d2_1 : decode jdk_41_method_11_code 1 = .ok (.ifCond .lt 8, 3) := by decide +kernel
theorem d2_4 : decode jdk_41_method_11_code 4 = .ok (.iload_n 0, 1) := by decide +kernel
theorem d2_5 : decode jdk_41_method_11_code 5 = .ok (.iload_n 1, 1) := by decide +kernel
theorem d2_6 : decode jdk_41_method_11_code 6 = .ok (.if_icmp .lt 10, 3) := by decide +kernel
theorem d2_16 : decode jdk_41_method_11_code 16 = .ok (.iload_n 0, 1) := by decide +kernel
theorem d2_17 : decode jdk_41_method_11_code 17 = .ok (.ireturn, 1) := by decide +kernel
theorem pn_1 : plainName "jdk/internal/util/Preconditions" = true := by first | (simp [plainName, overriddenIn]; done) | decide +kernel
theorem d3_0 : decode jdk_42_method_155_code 0 = .ok (.iload_n 0, 1) := by decide +kernel
theorem d3_1 : decode jdk_42_method_155_code 1 = .ok (.iload_n 1, 1) := by decide +kernel
theorem d3_2 : decode jdk_42_method_155_code 2 = .ok (.getstatic 1053, 3) := by decide +kernel
theorem d3_5 : decode jdk_42_method_155_code 5 = .ok (.invokestatic 1059, 3) := by decide +kernel
theorem pd_1 : parseMethodDescriptor "(IILjava/util/function/BiFunction;)I" = some ⟨[.int, .int, (.object "java/util/function/BiFunction")], some .int⟩ := by decide +kernel
theorem d3_8 : decode jdk_42_method_155_code 8 = .ok (.pop, 1) := by decide +kernel
theorem d3_9 : decode jdk_42_method_155_code 9 = .ok (.return_, 1) := by decide +kernel
theorem d4_0 : decode jdk_42_method_154_code 0 = .ok (.getstatic 38, 3) := by decide +kernel
theorem d4_3 : decode jdk_42_method_154_code 3 = .ok (.ifCond .eq 14, 3) := by decide +kernel
theorem d4_6 : decode jdk_42_method_154_code 6 = .ok (.aload_n 0, 1) := by decide +kernel
theorem d4_7 : decode jdk_42_method_154_code 7 = .ok (.getfield 15, 3) := by decide +kernel
theorem d4_10 : decode jdk_42_method_154_code 10 = .ok (.ifCond .ne 7, 3) := by decide +kernel
theorem d4_13 : decode jdk_42_method_154_code 13 = .ok (.iconst 1, 1) := by decide +kernel
theorem d4_14 : decode jdk_42_method_154_code 14 = .ok (.goto 4, 3) := by decide +kernel
theorem d4_18 : decode jdk_42_method_154_code 18 = .ok (.ireturn, 1) := by decide +kernel
theorem d5_0 : decode jdk_42_method_152_code 0 = .ok (.getstatic 38, 3) := by decide +kernel
theorem d5_3 : decode jdk_42_method_152_code 3 = .ok (.ifCond .eq 10, 3) := by decide +kernel
theorem d5_6 : decode jdk_42_method_152_code 6 = .ok (.aload_n 0, 1) := by decide +kernel
theorem d5_7 : decode jdk_42_method_152_code 7 = .ok (.getfield 15, 3) := by decide +kernel
theorem d5_10 : decode jdk_42_method_152_code 10 = .ok (.goto 4, 3) := by decide +kernel
theorem d5_14 : decode jdk_42_method_152_code 14 = .ok (.ireturn, 1) := by decide +kernel
theorem d6_0 : decode jdk_42_method_54_code 0 = .ok (.aload_n 0, 1) := by decide +kernel
theorem d6_1 : decode jdk_42_method_54_code 1 = .ok (.getfield 9, 3) := by decide +kernel
theorem d6_4 : decode jdk_42_method_54_code 4 = .ok (.arraylength, 1) := by decide +kernel
theorem d6_5 : decode jdk_42_method_54_code 5 = .ok (.aload_n 0, 1) := by decide +kernel
theorem d6_6 : decode jdk_42_method_54_code 6 = .ok (.invokevirtual 335, 3) := by decide +kernel
theorem pd_2 : parseMethodDescriptor "()B" = some ⟨[], some .byte⟩ := by decide +kernel
theorem d6_9 : decode jdk_42_method_54_code 9 = .ok (.ishr, 1) := by decide +kernel
theorem d6_10 : decode jdk_42_method_54_code 10 = .ok (.ireturn, 1) := by decide +kernel
theorem d7_0 : decode jdk_43_method_2_code 0 = .ok (.iload_n 1, 1) := by decide +kernel
theorem d7_1 : decode jdk_43_method_2_code 1 = .ok (.aload_n 0, 1) := by decide +kernel
theorem d7_2 : decode jdk_43_method_2_code 2 = .ok (.arraylength, 1) := by decide +kernel
theorem d7_3 : decode jdk_43_method_2_code 3 = .ok (.invokestatic 9, 3) := by decide +kernel
theorem pd_3 : parseMethodDescriptor "(II)V" = some ⟨[.int, .int], none⟩ := by decide +kernel
theorem d7_6 : decode jdk_43_method_2_code 6 = .ok (.aload_n 0, 1) := by decide +kernel
theorem d7_7 : decode jdk_43_method_2_code 7 = .ok (.iload_n 1, 1) := by decide +kernel
theorem d7_8 : decode jdk_43_method_2_code 8 = .ok (.baload, 1) := by decide +kernel
theorem d7_9 : decode jdk_43_method_2_code 9 = .ok (.sipush 255, 3) := by decide +kernel
theorem d7_12 : decode jdk_43_method_2_code 12 = .ok (.iand, 1) := by decide +kernel
theorem d7_13 : decode jdk_43_method_2_code 13 = .ok (.i2c, 1) := by decide +kernel
theorem d7_14 : decode jdk_43_method_2_code 14 = .ok (.ireturn, 1) := by decide +kernel
theorem pn_2 : plainName "java/lang/StringLatin1" = true := by first | (simp [plainName, overriddenIn]; done) | decide +kernel
theorem d8_0 : decode jdk_42_method_56_code 0 = .ok (.aload_n 0, 1) := by decide +kernel
theorem d8_1 : decode jdk_42_method_56_code 1 = .ok (.invokevirtual 492, 3) := by decide +kernel
theorem pd_4 : parseMethodDescriptor "()Z" = some ⟨[], some .boolean⟩ := by decide +kernel
theorem d8_4 : decode jdk_42_method_56_code 4 = .ok (.ifCond .eq 12, 3) := by decide +kernel
theorem d8_7 : decode jdk_42_method_56_code 7 = .ok (.aload_n 0, 1) := by decide +kernel
theorem d8_8 : decode jdk_42_method_56_code 8 = .ok (.getfield 9, 3) := by decide +kernel
theorem d8_11 : decode jdk_42_method_56_code 11 = .ok (.iload_n 1, 1) := by decide +kernel
theorem d8_12 : decode jdk_42_method_56_code 12 = .ok (.invokestatic 495, 3) := by decide +kernel
theorem pd_5 : parseMethodDescriptor "([BI)C" = some ⟨[(.array .byte), .int], some .char⟩ := by decide +kernel
theorem d8_15 : decode jdk_42_method_56_code 15 = .ok (.ireturn, 1) := by decide +kernel
theorem d9_0 : decode method_5_code 0 = .ok (.iload_n 0, 1) := by decide +kernel
theorem d9_1 : decode method_5_code 1 = .ok (.bipush 65, 2) := by decide +kernel
theorem d9_3 : decode method_5_code 3 = .ok (.if_icmp .lt 9, 3) := by decide +kernel
theorem d9_12 : decode method_5_code 12 = .ok (.iload_n 0, 1) := by decide +kernel
theorem d9_13 : decode method_5_code 13 = .ok (.bipush 97, 2) := by decide +kernel
theorem d9_15 : decode method_5_code 15 = .ok (.if_icmp .lt 13, 3) := by decide +kernel
theorem d9_28 : decode method_5_code 28 = .ok (.iconst 0, 1) := by decide +kernel
theorem d9_29 : decode method_5_code 29 = .ok (.ireturn, 1) := by decide +kernel
theorem d9_18 : decode method_5_code 18 = .ok (.iload_n 0, 1) := by decide +kernel
theorem d9_19 : decode method_5_code 19 = .ok (.bipush 122, 2) := by decide +kernel
theorem d9_21 : decode method_5_code 21 = .ok (.if_icmp .gt 7, 3) := by decide +kernel
theorem d9_24 : decode method_5_code 24 = .ok (.iconst 1, 1) := by decide +kernel
theorem d9_25 : decode method_5_code 25 = .ok (.goto 4, 3) := by decide +kernel
theorem d9_6 : decode method_5_code 6 = .ok (.iload_n 0, 1) := by decide +kernel
theorem d9_7 : decode method_5_code 7 = .ok (.bipush 90, 2) := by decide +kernel
theorem d9_9 : decode method_5_code 9 = .ok (.if_icmp .le 15, 3) := by decide +kernel
theorem pn_3 : plainName "com/example/vett/vett/model/IrisIsAbsolutePinLaw" = true := by first | (simp [plainName, overriddenIn]; done) | decide +kernel
theorem d10_0 : decode method_7_code 0 = .ok (.iload_n 0, 1) := by decide +kernel
theorem d10_1 : decode method_7_code 1 = .ok (.bipush 32, 2) := by decide +kernel
theorem d10_3 : decode method_7_code 3 = .ok (.if_icmp .le 61, 3) := by decide +kernel
theorem d10_6 : decode method_7_code 6 = .ok (.iload_n 0, 1) := by decide +kernel
theorem d10_7 : decode method_7_code 7 = .ok (.bipush 60, 2) := by decide +kernel
theorem d10_9 : decode method_7_code 9 = .ok (.if_icmp .eq 55, 3) := by decide +kernel
theorem d10_64 : decode method_7_code 64 = .ok (.iconst 0, 1) := by decide +kernel
theorem d10_65 : decode method_7_code 65 = .ok (.ireturn, 1) := by decide +kernel
theorem d10_12 : decode method_7_code 12 = .ok (.iload_n 0, 1) := by decide +kernel
theorem d10_13 : decode method_7_code 13 = .ok (.bipush 62, 2) := by decide +kernel
theorem d10_15 : decode method_7_code 15 = .ok (.if_icmp .eq 49, 3) := by decide +kernel
theorem d10_18 : decode method_7_code 18 = .ok (.iload_n 0, 1) := by decide +kernel
theorem d10_19 : decode method_7_code 19 = .ok (.bipush 34, 2) := by decide +kernel
theorem d10_21 : decode method_7_code 21 = .ok (.if_icmp .eq 43, 3) := by decide +kernel
theorem d10_24 : decode method_7_code 24 = .ok (.iload_n 0, 1) := by decide +kernel
theorem d10_25 : decode method_7_code 25 = .ok (.bipush 123, 2) := by decide +kernel
theorem d10_27 : decode method_7_code 27 = .ok (.if_icmp .eq 37, 3) := by decide +kernel
theorem d10_30 : decode method_7_code 30 = .ok (.iload_n 0, 1) := by decide +kernel
theorem d10_31 : decode method_7_code 31 = .ok (.bipush 125, 2) := by decide +kernel
theorem d10_33 : decode method_7_code 33 = .ok (.if_icmp .eq 31, 3) := by decide +kernel
theorem d10_36 : decode method_7_code 36 = .ok (.iload_n 0, 1) := by decide +kernel
theorem d10_37 : decode method_7_code 37 = .ok (.bipush 124, 2) := by decide +kernel
theorem d10_39 : decode method_7_code 39 = .ok (.if_icmp .eq 25, 3) := by decide +kernel
theorem d10_42 : decode method_7_code 42 = .ok (.iload_n 0, 1) := by decide +kernel
theorem d10_43 : decode method_7_code 43 = .ok (.bipush 94, 2) := by decide +kernel
theorem d10_45 : decode method_7_code 45 = .ok (.if_icmp .eq 19, 3) := by decide +kernel
theorem d10_48 : decode method_7_code 48 = .ok (.iload_n 0, 1) := by decide +kernel
theorem d10_49 : decode method_7_code 49 = .ok (.bipush 96, 2) := by decide +kernel
theorem d10_51 : decode method_7_code 51 = .ok (.if_icmp .eq 13, 3) := by decide +kernel
theorem d10_54 : decode method_7_code 54 = .ok (.iload_n 0, 1) := by decide +kernel
theorem d10_55 : decode method_7_code 55 = .ok (.bipush 92, 2) := by decide +kernel
theorem d10_57 : decode method_7_code 57 = .ok (.if_icmp .eq 7, 3) := by decide +kernel
theorem d10_60 : decode method_7_code 60 = .ok (.iconst 1, 1) := by decide +kernel
theorem d10_61 : decode method_7_code 61 = .ok (.goto 4, 3) := by decide +kernel
theorem d11_0 : decode method_6_code 0 = .ok (.iload_n 0, 1) := by decide +kernel
theorem d11_1 : decode method_6_code 1 = .ok (.invokestatic 29, 3) := by decide +kernel
theorem pd_6 : parseMethodDescriptor "(C)Z" = some ⟨[.char], some .boolean⟩ := by decide +kernel
theorem d11_4 : decode method_6_code 4 = .ok (.ifCond .ne 33, 3) := by decide +kernel
theorem d11_7 : decode method_6_code 7 = .ok (.iload_n 0, 1) := by decide +kernel
theorem d11_8 : decode method_6_code 8 = .ok (.bipush 48, 2) := by decide +kernel
theorem d11_10 : decode method_6_code 10 = .ok (.if_icmp .lt 9, 3) := by decide +kernel
theorem d11_19 : decode method_6_code 19 = .ok (.iload_n 0, 1) := by decide +kernel
theorem d11_20 : decode method_6_code 20 = .ok (.bipush 43, 2) := by decide +kernel
theorem d11_22 : decode method_6_code 22 = .ok (.if_icmp .eq 15, 3) := by decide +kernel
theorem d11_37 : decode method_6_code 37 = .ok (.iconst 1, 1) := by decide +kernel
theorem d11_38 : decode method_6_code 38 = .ok (.goto 4, 3) := by decide +kernel
theorem d11_42 : decode method_6_code 42 = .ok (.ireturn, 1) := by decide +kernel
theorem d11_25 : decode method_6_code 25 = .ok (.iload_n 0, 1) := by decide +kernel
theorem d11_26 : decode method_6_code 26 = .ok (.bipush 45, 2) := by decide +kernel
theorem d11_28 : decode method_6_code 28 = .ok (.if_icmp .eq 9, 3) := by decide +kernel
theorem d11_31 : decode method_6_code 31 = .ok (.iload_n 0, 1) := by decide +kernel
theorem d11_32 : decode method_6_code 32 = .ok (.bipush 46, 2) := by decide +kernel
theorem d11_34 : decode method_6_code 34 = .ok (.if_icmp .ne 7, 3) := by decide +kernel
theorem d11_41 : decode method_6_code 41 = .ok (.iconst 0, 1) := by decide +kernel
theorem d11_13 : decode method_6_code 13 = .ok (.iload_n 0, 1) := by decide +kernel
theorem d11_14 : decode method_6_code 14 = .ok (.bipush 57, 2) := by decide +kernel
theorem d11_16 : decode method_6_code 16 = .ok (.if_icmp .le 21, 3) := by decide +kernel
theorem d12_0 : decode method_8_code 0 = .ok (.iload_n 3, 1) := by decide +kernel
theorem d12_1 : decode method_8_code 1 = .ok (.iload_n 1, 1) := by decide +kernel
theorem d12_2 : decode method_8_code 2 = .ok (.if_icmp .lt 5, 3) := by decide +kernel
theorem d12_7 : decode method_8_code 7 = .ok (.aload_n 0, 1) := by decide +kernel
theorem d12_8 : decode method_8_code 8 = .ok (.iload_n 3, 1) := by decide +kernel
theorem d12_9 : decode method_8_code 9 = .ok (.caload, 1) := by decide +kernel
theorem d12_10 : decode method_8_code 10 = .ok (.istore 4, 2) := by decide +kernel
theorem d12_12 : decode method_8_code 12 = .ok (.iload_n 3, 1) := by decide +kernel
theorem d12_13 : decode method_8_code 13 = .ok (.iload_n 2, 1) := by decide +kernel
theorem d12_14 : decode method_8_code 14 = .ok (.if_icmp .ge 19, 3) := by decide +kernel
theorem d12_17 : decode method_8_code 17 = .ok (.iload_n 3, 1) := by decide +kernel
theorem d12_18 : decode method_8_code 18 = .ok (.ifCond .ne 9, 3) := by decide +kernel
theorem d12_21 : decode method_8_code 21 = .ok (.iload 4, 2) := by decide +kernel
theorem d12_23 : decode method_8_code 23 = .ok (.invokestatic 29, 3) := by decide +kernel
theorem d12_26 : decode method_8_code 26 = .ok (.ireturn, 1) := by decide +kernel
theorem d12_27 : decode method_8_code 27 = .ok (.iload 4, 2) := by decide +kernel
theorem d12_29 : decode method_8_code 29 = .ok (.invokestatic 33, 3) := by decide +kernel
theorem d12_32 : decode method_8_code 32 = .ok (.ireturn, 1) := by decide +kernel
theorem d12_33 : decode method_8_code 33 = .ok (.iload_n 3, 1) := by decide +kernel
theorem d12_34 : decode method_8_code 34 = .ok (.iload_n 2, 1) := by decide +kernel
theorem d12_35 : decode method_8_code 35 = .ok (.if_icmp .ne 5, 3) := by decide +kernel
theorem d12_38 : decode method_8_code 38 = .ok (.iconst 1, 1) := by decide +kernel
theorem d12_39 : decode method_8_code 39 = .ok (.ireturn, 1) := by decide +kernel
theorem d12_40 : decode method_8_code 40 = .ok (.iload 4, 2) := by decide +kernel
theorem d12_42 : decode method_8_code 42 = .ok (.invokestatic 36, 3) := by decide +kernel
theorem d12_45 : decode method_8_code 45 = .ok (.ireturn, 1) := by decide +kernel
theorem d12_5 : decode method_8_code 5 = .ok (.iconst 1, 1) := by decide +kernel
theorem d12_6 : decode method_8_code 6 = .ok (.ireturn, 1) := by decide +kernel
theorem d13_0 : decode method_4_code 0 = .ok (.iload_n 1, 1) := by decide +kernel
theorem d13_1 : decode method_4_code 1 = .ok (.ifCond .le 13, 3) := by decide +kernel
theorem d13_14 : decode method_4_code 14 = .ok (.iload_n 1, 1) := by decide +kernel
theorem d13_15 : decode method_4_code 15 = .ok (.iconst 1, 1) := by decide +kernel
theorem d13_16 : decode method_4_code 16 = .ok (.if_icmp .le 13, 3) := by decide +kernel
theorem d13_29 : decode method_4_code 29 = .ok (.iload_n 1, 1) := by decide +kernel
theorem d13_30 : decode method_4_code 30 = .ok (.iconst 2, 1) := by decide +kernel
theorem d13_31 : decode method_4_code 31 = .ok (.if_icmp .le 13, 3) := by decide +kernel
theorem d13_44 : decode method_4_code 44 = .ok (.iload_n 1, 1) := by decide +kernel
theorem d13_45 : decode method_4_code 45 = .ok (.iconst 3, 1) := by decide +kernel
theorem d13_46 : decode method_4_code 46 = .ok (.if_icmp .le 13, 3) := by decide +kernel
theorem d13_59 : decode method_4_code 59 = .ok (.iload_n 1, 1) := by decide +kernel
theorem d13_60 : decode method_4_code 60 = .ok (.iconst 4, 1) := by decide +kernel
theorem d13_61 : decode method_4_code 61 = .ok (.if_icmp .le 13, 3) := by decide +kernel
theorem d13_74 : decode method_4_code 74 = .ok (.iconst (-1), 1) := by decide +kernel
theorem d13_75 : decode method_4_code 75 = .ok (.ireturn, 1) := by decide +kernel
theorem d13_4 : decode method_4_code 4 = .ok (.aload_n 0, 1) := by decide +kernel
theorem d13_5 : decode method_4_code 5 = .ok (.iconst 0, 1) := by decide +kernel
theorem d13_6 : decode method_4_code 6 = .ok (.caload, 1) := by decide +kernel
theorem d13_7 : decode method_4_code 7 = .ok (.bipush 58, 2) := by decide +kernel
theorem d13_9 : decode method_4_code 9 = .ok (.if_icmp .ne 5, 3) := by decide +kernel
theorem d13_12 : decode method_4_code 12 = .ok (.iconst 0, 1) := by decide +kernel
theorem d13_13 : decode method_4_code 13 = .ok (.ireturn, 1) := by decide +kernel
theorem d13_19 : decode method_4_code 19 = .ok (.aload_n 0, 1) := by decide +kernel
theorem d13_20 : decode method_4_code 20 = .ok (.iconst 1, 1) := by decide +kernel
theorem d13_21 : decode method_4_code 21 = .ok (.caload, 1) := by decide +kernel
theorem d13_22 : decode method_4_code 22 = .ok (.bipush 58, 2) := by decide +kernel
theorem d13_24 : decode method_4_code 24 = .ok (.if_icmp .ne 5, 3) := by decide +kernel
theorem d13_27 : decode method_4_code 27 = .ok (.iconst 1, 1) := by decide +kernel
theorem d13_28 : decode method_4_code 28 = .ok (.ireturn, 1) := by decide +kernel
theorem d13_34 : decode method_4_code 34 = .ok (.aload_n 0, 1) := by decide +kernel
theorem d13_35 : decode method_4_code 35 = .ok (.iconst 2, 1) := by decide +kernel
theorem d13_36 : decode method_4_code 36 = .ok (.caload, 1) := by decide +kernel
theorem d13_37 : decode method_4_code 37 = .ok (.bipush 58, 2) := by decide +kernel
theorem d13_39 : decode method_4_code 39 = .ok (.if_icmp .ne 5, 3) := by decide +kernel
theorem d13_42 : decode method_4_code 42 = .ok (.iconst 2, 1) := by decide +kernel
theorem d13_43 : decode method_4_code 43 = .ok (.ireturn, 1) := by decide +kernel
theorem d13_49 : decode method_4_code 49 = .ok (.aload_n 0, 1) := by decide +kernel
theorem d13_50 : decode method_4_code 50 = .ok (.iconst 3, 1) := by decide +kernel
theorem d13_51 : decode method_4_code 51 = .ok (.caload, 1) := by decide +kernel
theorem d13_52 : decode method_4_code 52 = .ok (.bipush 58, 2) := by decide +kernel
theorem d13_54 : decode method_4_code 54 = .ok (.if_icmp .ne 5, 3) := by decide +kernel
theorem d13_57 : decode method_4_code 57 = .ok (.iconst 3, 1) := by decide +kernel
theorem d13_58 : decode method_4_code 58 = .ok (.ireturn, 1) := by decide +kernel
theorem d13_64 : decode method_4_code 64 = .ok (.aload_n 0, 1) := by decide +kernel
theorem d13_65 : decode method_4_code 65 = .ok (.iconst 4, 1) := by decide +kernel
theorem d13_66 : decode method_4_code 66 = .ok (.caload, 1) := by decide +kernel
theorem d13_67 : decode method_4_code 67 = .ok (.bipush 58, 2) := by decide +kernel
theorem d13_69 : decode method_4_code 69 = .ok (.if_icmp .ne 5, 3) := by decide +kernel
theorem d13_72 : decode method_4_code 72 = .ok (.iconst 4, 1) := by decide +kernel
theorem d13_73 : decode method_4_code 73 = .ok (.ireturn, 1) := by decide +kernel
theorem d14_0 : decode method_9_code 0 = .ok (.aload_n 0, 1) := by decide +kernel
theorem d14_1 : decode method_9_code 1 = .ok (.iload_n 1, 1) := by decide +kernel
theorem d14_2 : decode method_9_code 2 = .ok (.invokestatic 39, 3) := by decide +kernel
theorem pd_7 : parseMethodDescriptor "([CI)I" = some ⟨[(.array .char), .int], some .int⟩ := by decide +kernel
theorem d14_5 : decode method_9_code 5 = .ok (.istore_n 2, 1) := by decide +kernel
theorem d14_6 : decode method_9_code 6 = .ok (.iload_n 2, 1) := by decide +kernel
theorem d14_7 : decode method_9_code 7 = .ok (.ifCond .le 57, 3) := by decide +kernel
theorem d14_10 : decode method_9_code 10 = .ok (.aload_n 0, 1) := by decide +kernel
theorem d14_11 : decode method_9_code 11 = .ok (.iload_n 1, 1) := by decide +kernel
theorem d14_12 : decode method_9_code 12 = .ok (.iload_n 2, 1) := by decide +kernel
theorem d14_13 : decode method_9_code 13 = .ok (.iconst 0, 1) := by decide +kernel
theorem d14_14 : decode method_9_code 14 = .ok (.invokestatic 43, 3) := by decide +kernel
theorem pd_8 : parseMethodDescriptor "([CIII)Z" = some ⟨[(.array .char), .int, .int, .int], some .boolean⟩ := by decide +kernel
theorem d14_17 : decode method_9_code 17 = .ok (.ifCond .eq 47, 3) := by decide +kernel
theorem d14_64 : decode method_9_code 64 = .ok (.iconst 0, 1) := by decide +kernel
theorem d14_65 : decode method_9_code 65 = .ok (.ireturn, 1) := by decide +kernel
theorem d14_20 : decode method_9_code 20 = .ok (.aload_n 0, 1) := by decide +kernel
theorem d14_21 : decode method_9_code 21 = .ok (.iload_n 1, 1) := by decide +kernel
theorem d14_22 : decode method_9_code 22 = .ok (.iload_n 2, 1) := by decide +kernel
theorem d14_23 : decode method_9_code 23 = .ok (.iconst 1, 1) := by decide +kernel
theorem d14_24 : decode method_9_code 24 = .ok (.invokestatic 43, 3) := by decide +kernel
theorem d14_27 : decode method_9_code 27 = .ok (.ifCond .eq 37, 3) := by decide +kernel
theorem d14_30 : decode method_9_code 30 = .ok (.aload_n 0, 1) := by decide +kernel
theorem d14_31 : decode method_9_code 31 = .ok (.iload_n 1, 1) := by decide +kernel
theorem d14_32 : decode method_9_code 32 = .ok (.iload_n 2, 1) := by decide +kernel
theorem d14_33 : decode method_9_code 33 = .ok (.iconst 2, 1) := by decide +kernel
theorem d14_34 : decode method_9_code 34 = .ok (.invokestatic 43, 3) := by decide +kernel
theorem d14_37 : decode method_9_code 37 = .ok (.ifCond .eq 27, 3) := by decide +kernel
theorem d14_40 : decode method_9_code 40 = .ok (.aload_n 0, 1) := by decide +kernel
theorem d14_41 : decode method_9_code 41 = .ok (.iload_n 1, 1) := by decide +kernel
theorem d14_42 : decode method_9_code 42 = .ok (.iload_n 2, 1) := by decide +kernel
theorem d14_43 : decode method_9_code 43 = .ok (.iconst 3, 1) := by decide +kernel
theorem d14_44 : decode method_9_code 44 = .ok (.invokestatic 43, 3) := by decide +kernel
theorem d14_47 : decode method_9_code 47 = .ok (.ifCond .eq 17, 3) := by decide +kernel
theorem d14_50 : decode method_9_code 50 = .ok (.aload_n 0, 1) := by decide +kernel
theorem d14_51 : decode method_9_code 51 = .ok (.iload_n 1, 1) := by decide +kernel
theorem d14_52 : decode method_9_code 52 = .ok (.iload_n 2, 1) := by decide +kernel
theorem d14_53 : decode method_9_code 53 = .ok (.iconst 4, 1) := by decide +kernel
theorem d14_54 : decode method_9_code 54 = .ok (.invokestatic 43, 3) := by decide +kernel
theorem d14_57 : decode method_9_code 57 = .ok (.ifCond .eq 7, 3) := by decide +kernel
theorem d14_60 : decode method_9_code 60 = .ok (.iconst 1, 1) := by decide +kernel
theorem d14_61 : decode method_9_code 61 = .ok (.goto 4, 3) := by decide +kernel
theorem d15_0 : decode jdk_43_method_4_code 0 = .ok (.iload_n 0, 1) := by decide +kernel
theorem d15_1 : decode jdk_43_method_4_code 1 = .ok (.ifCond .lt 14, 3) := by decide +kernel
theorem d15_4 : decode jdk_43_method_4_code 4 = .ok (.iload_n 0, 1) := by decide +kernel
theorem d15_5 : decode jdk_43_method_4_code 5 = .ok (.sipush 255, 3) := by decide +kernel
theorem d15_8 : decode jdk_43_method_4_code 8 = .ok (.if_icmp .gt 7, 3) := by decide +kernel
theorem d15_11 : decode jdk_43_method_4_code 11 = .ok (.iconst 1, 1) := by decide +kernel
theorem d15_12 : decode jdk_43_method_4_code 12 = .ok (.goto 4, 3) := by decide +kernel
theorem d15_16 : decode jdk_43_method_4_code 16 = .ok (.ireturn, 1) := by decide +kernel
theorem d16_0 : decode jdk_29_method_65_code 0 = .ok (.iload_n 0, 1) := by decide +kernel
theorem d16_1 : decode jdk_29_method_65_code 1 = .ok (.iload_n 1, 1) := by decide +kernel
theorem d16_2 : decode jdk_29_method_65_code 2 = .ok (.if_icmp .lt 7, 3) := by decide +kernel
theorem d16_5 : decode jdk_29_method_65_code 5 = .ok (.iload_n 0, 1) := by decide +kernel
theorem d16_6 : decode jdk_29_method_65_code 6 = .ok (.goto 4, 3) := by decide +kernel
theorem d16_10 : decode jdk_29_method_65_code 10 = .ok (.ireturn, 1) := by decide +kernel
theorem d17_0 : decode prog_6_method_8_code 0 = .ok (.iload_n 2, 1) := by decide +kernel
theorem d17_1 : decode prog_6_method_8_code 1 = .ok (.aload_n 0, 1) := by decide +kernel
theorem d17_2 : decode prog_6_method_8_code 2 = .ok (.arraylength, 1) := by decide +kernel
theorem d17_3 : decode prog_6_method_8_code 3 = .ok (.if_icmp .ge 9, 3) := by decide +kernel
theorem d17_6 : decode prog_6_method_8_code 6 = .ok (.aload_n 0, 1) := by decide +kernel
theorem d17_7 : decode prog_6_method_8_code 7 = .ok (.iload_n 2, 1) := by decide +kernel
theorem d17_8 : decode prog_6_method_8_code 8 = .ok (.baload, 1) := by decide +kernel
theorem d17_9 : decode prog_6_method_8_code 9 = .ok (.goto 4, 3) := by decide +kernel
theorem d17_13 : decode prog_6_method_8_code 13 = .ok (.ireturn, 1) := by decide +kernel
theorem d17_12 : decode prog_6_method_8_code 12 = .ok (.iload_n 1, 1) := by decide +kernel
theorem pn_4 : plainName "com/example/vett/vett/model/Iris" = true := by first | (simp [plainName, overriddenIn]; done) | decide +kernel
theorem d18_0 : decode prog_6_method_3_code 0 = .ok (.getstatic 38, 3) := by decide +kernel
theorem d18_3 : decode prog_6_method_3_code 3 = .ok (.iconst 1, 1) := by decide +kernel
theorem d18_4 : decode prog_6_method_3_code 4 = .ok (.iload_n 0, 1) := by decide +kernel
theorem d18_5 : decode prog_6_method_3_code 5 = .ok (.invokestatic 23, 3) := by decide +kernel
theorem pd_9 : parseMethodDescriptor "([ZZC)Z" = some ⟨[(.array .boolean), .boolean, .char], some .boolean⟩ := by decide +kernel
theorem d18_8 : decode prog_6_method_3_code 8 = .ok (.ireturn, 1) := by decide +kernel
theorem d19_0 : decode jdk_29_method_69_code 0 = .ok (.iload_n 0, 1) := by decide +kernel
theorem d19_1 : decode jdk_29_method_69_code 1 = .ok (.iload_n 1, 1) := by decide +kernel
theorem d19_2 : decode jdk_29_method_69_code 2 = .ok (.if_icmp .gt 7, 3) := by decide +kernel
theorem d19_5 : decode jdk_29_method_69_code 5 = .ok (.iload_n 0, 1) := by decide +kernel
theorem d19_6 : decode jdk_29_method_69_code 6 = .ok (.goto 4, 3) := by decide +kernel
theorem d19_10 : decode jdk_29_method_69_code 10 = .ok (.ireturn, 1) := by decide +kernel
theorem d20_0 : decode jdk_43_method_22_code 0 = .ok (.iload_n 1, 1) := by decide +kernel
theorem d20_1 : decode jdk_43_method_22_code 1 = .ok (.invokestatic 88, 3) := by decide +kernel
theorem pd_10 : parseMethodDescriptor "(I)Z" = some ⟨[.int], some .boolean⟩ := by decide +kernel
theorem d20_4 : decode jdk_43_method_22_code 4 = .ok (.ifCond .ne 5, 3) := by decide +kernel
theorem d20_9 : decode jdk_43_method_22_code 9 = .ok (.iload_n 2, 1) := by decide +kernel
theorem d20_10 : decode jdk_43_method_22_code 10 = .ok (.iconst 0, 1) := by decide +kernel
theorem d20_11 : decode jdk_43_method_22_code 11 = .ok (.invokestatic 92, 3) := by decide +kernel
theorem pd_11 : parseMethodDescriptor "(II)I" = some ⟨[.int, .int], some .int⟩ := by decide +kernel
theorem d20_14 : decode jdk_43_method_22_code 14 = .ok (.istore_n 2, 1) := by decide +kernel
theorem d20_15 : decode jdk_43_method_22_code 15 = .ok (.iload_n 3, 1) := by decide +kernel
theorem d20_16 : decode jdk_43_method_22_code 16 = .ok (.aload_n 0, 1) := by decide +kernel
theorem d20_17 : decode jdk_43_method_22_code 17 = .ok (.arraylength, 1) := by decide +kernel
theorem d20_18 : decode jdk_43_method_22_code 18 = .ok (.invokestatic 38, 3) := by decide +kernel
theorem d20_21 : decode jdk_43_method_22_code 21 = .ok (.istore_n 3, 1) := by decide +kernel
theorem d20_22 : decode jdk_43_method_22_code 22 = .ok (.iload_n 2, 1) := by decide +kernel
theorem d20_23 : decode jdk_43_method_22_code 23 = .ok (.iload_n 3, 1) := by decide +kernel
theorem d20_24 : decode jdk_43_method_22_code 24 = .ok (.if_icmp .lt 5, 3) := by decide +kernel
theorem d20_27 : decode jdk_43_method_22_code 27 = .ok (.iconst (-1), 1) := by decide +kernel
theorem d20_28 : decode jdk_43_method_22_code 28 = .ok (.ireturn, 1) := by decide +kernel
theorem d21_0 : decode jdk_42_method_80_code 0 = .ok (.aload_n 0, 1) := by decide +kernel
theorem d21_1 : decode jdk_42_method_80_code 1 = .ok (.invokevirtual 492, 3) := by decide +kernel
theorem d21_4 : decode jdk_42_method_80_code 4 = .ok (.ifCond .eq 19, 3) := by decide +kernel
theorem d21_7 : decode jdk_42_method_80_code 7 = .ok (.aload_n 0, 1) := by decide +kernel
theorem d21_8 : decode jdk_42_method_80_code 8 = .ok (.getfield 9, 3) := by decide +kernel
theorem d21_11 : decode jdk_42_method_80_code 11 = .ok (.iload_n 1, 1) := by decide +kernel
theorem d21_12 : decode jdk_42_method_80_code 12 = .ok (.iload_n 2, 1) := by decide +kernel
theorem d21_13 : decode jdk_42_method_80_code 13 = .ok (.aload_n 0, 1) := by decide +kernel
theorem d21_14 : decode jdk_42_method_80_code 14 = .ok (.invokevirtual 505, 3) := by decide +kernel
theorem pd_12 : parseMethodDescriptor "()I" = some ⟨[], some .int⟩ := by decide +kernel
theorem d21_17 : decode jdk_42_method_80_code 17 = .ok (.invokestatic 637, 3) := by decide +kernel
theorem pd_13 : parseMethodDescriptor "([BIII)I" = some ⟨[(.array .byte), .int, .int, .int], some .int⟩ := by decide +kernel
theorem d21_20 : decode jdk_42_method_80_code 20 = .ok (.goto 16, 3) := by decide +kernel
theorem d21_36 : decode jdk_42_method_80_code 36 = .ok (.ireturn, 1) := by decide +kernel
theorem d22_0 : decode jdk_42_method_79_code 0 = .ok (.aload_n 0, 1) := by decide +kernel
theorem d22_1 : decode jdk_42_method_79_code 1 = .ok (.iload_n 1, 1) := by decide +kernel
theorem d22_2 : decode jdk_42_method_79_code 2 = .ok (.iconst 0, 1) := by decide +kernel
theorem d22_3 : decode jdk_42_method_79_code 3 = .ok (.invokevirtual 633, 3) := by decide +kernel
theorem d22_6 : decode jdk_42_method_79_code 6 = .ok (.ireturn, 1) := by decide +kernel
theorem d23_0 : decode prog_6_method_2_code 0 = .ok (.aload_n 0, 1) := by decide +kernel
theorem d23_1 : decode prog_6_method_2_code 1 = .ok (.bipush 58, 2) := by decide +kernel
theorem d23_3 : decode prog_6_method_2_code 3 = .ok (.invokevirtual 9, 3) := by decide +kernel
theorem pd_14 : parseMethodDescriptor "(I)I" = some ⟨[.int], some .int⟩ := by decide +kernel
theorem d23_6 : decode prog_6_method_2_code 6 = .ok (.istore_n 1, 1) := by decide +kernel
theorem d23_7 : decode prog_6_method_2_code 7 = .ok (.iload_n 1, 1) := by decide +kernel
theorem d23_8 : decode prog_6_method_2_code 8 = .ok (.ifCond .le 22, 3) := by decide +kernel
theorem d23_30 : decode prog_6_method_2_code 30 = .ok (.iconst 0, 1) := by decide +kernel
theorem d23_31 : decode prog_6_method_2_code 31 = .ok (.istore_n 2, 1) := by decide +kernel
theorem d23_32 : decode prog_6_method_2_code 32 = .ok (.iconst 1, 1) := by decide +kernel
theorem d23_33 : decode prog_6_method_2_code 33 = .ok (.istore_n 3, 1) := by decide +kernel
theorem d23_34 : decode prog_6_method_2_code 34 = .ok (.iload_n 2, 1) := by decide +kernel
theorem d23_35 : decode prog_6_method_2_code 35 = .ok (.ifCond .eq 27, 3) := by decide +kernel
theorem d23_62 : decode prog_6_method_2_code 62 = .ok (.iload_n 1, 1) := by decide +kernel
theorem d23_63 : decode prog_6_method_2_code 63 = .ok (.iconst 1, 1) := by decide +kernel
theorem d23_64 : decode prog_6_method_2_code 64 = .ok (.iadd, 1) := by decide +kernel
theorem d23_65 : decode prog_6_method_2_code 65 = .ok (.istore_n 3, 1) := by decide +kernel
theorem d23_66 : decode prog_6_method_2_code 66 = .ok (.iload_n 2, 1) := by decide +kernel
theorem d23_67 : decode prog_6_method_2_code 67 = .ok (.ifCond .eq 26, 3) := by decide +kernel
theorem d23_93 : decode prog_6_method_2_code 93 = .ok (.iload_n 2, 1) := by decide +kernel
theorem d23_94 : decode prog_6_method_2_code 94 = .ok (.ireturn, 1) := by decide +kernel
theorem d24_0 : decode jdk_43_method_23_code 0 = .ok (.iload_n 1, 1) := by decide +kernel
theorem d24_1 : decode jdk_43_method_23_code 1 = .ok (.i2b, 1) := by decide +kernel
theorem d24_2 : decode jdk_43_method_23_code 2 = .ok (.istore 4, 2) := by decide +kernel
theorem d24_4 : decode jdk_43_method_23_code 4 = .ok (.iload_n 2, 1) := by decide +kernel
theorem d24_5 : decode jdk_43_method_23_code 5 = .ok (.istore 5, 2) := by decide +kernel
theorem d24_7 : decode jdk_43_method_23_code 7 = .ok (.iload 5, 2) := by decide +kernel
theorem d24_9 : decode jdk_43_method_23_code 9 = .ok (.iload_n 3, 1) := by decide +kernel
theorem d24_10 : decode jdk_43_method_23_code 10 = .ok (.if_icmp .ge 21, 3) := by decide +kernel
theorem d24_13 : decode jdk_43_method_23_code 13 = .ok (.aload_n 0, 1) := by decide +kernel
theorem d24_14 : decode jdk_43_method_23_code 14 = .ok (.iload 5, 2) := by decide +kernel
theorem d24_16 : decode jdk_43_method_23_code 16 = .ok (.baload, 1) := by decide +kernel
theorem d24_17 : decode jdk_43_method_23_code 17 = .ok (.iload 4, 2) := by decide +kernel
theorem d24_19 : decode jdk_43_method_23_code 19 = .ok (.if_icmp .ne 6, 3) := by decide +kernel
theorem d24_22 : decode jdk_43_method_23_code 22 = .ok (.iload 5, 2) := by decide +kernel
theorem d24_24 : decode jdk_43_method_23_code 24 = .ok (.ireturn, 1) := by decide +kernel
theorem d24_25 : decode jdk_43_method_23_code 25 = .ok (.iinc 5 1, 3) := by decide +kernel
theorem d24_28 : decode jdk_43_method_23_code 28 = .ok (.goto (-21), 3) := by decide +kernel
theorem d24_31 : decode jdk_43_method_23_code 31 = .ok (.iconst (-1), 1) := by decide +kernel
theorem d24_32 : decode jdk_43_method_23_code 32 = .ok (.ireturn, 1) := by decide +kernel
theorem d20_29 : decode jdk_43_method_22_code 29 = .ok (.aload_n 0, 1) := by decide +kernel
theorem d20_30 : decode jdk_43_method_22_code 30 = .ok (.iload_n 1, 1) := by decide +kernel
theorem d20_31 : decode jdk_43_method_22_code 31 = .ok (.iload_n 2, 1) := by decide +kernel
theorem d20_32 : decode jdk_43_method_22_code 32 = .ok (.iload_n 3, 1) := by decide +kernel
theorem d20_33 : decode jdk_43_method_22_code 33 = .ok (.invokestatic 95, 3) := by decide +kernel
theorem d20_36 : decode jdk_43_method_22_code 36 = .ok (.ireturn, 1) := by decide +kernel
theorem d23_11 : decode prog_6_method_2_code 11 = .ok (.getstatic 15, 3) := by decide +kernel
theorem d23_14 : decode prog_6_method_2_code 14 = .ok (.iconst 0, 1) := by decide +kernel
theorem d23_15 : decode prog_6_method_2_code 15 = .ok (.aload_n 0, 1) := by decide +kernel
theorem d23_16 : decode prog_6_method_2_code 16 = .ok (.iconst 0, 1) := by decide +kernel
theorem d23_17 : decode prog_6_method_2_code 17 = .ok (.invokevirtual 19, 3) := by decide +kernel
theorem pd_15 : parseMethodDescriptor "(I)C" = some ⟨[.int], some .char⟩ := by decide +kernel
theorem d23_20 : decode prog_6_method_2_code 20 = .ok (.invokestatic 23, 3) := by decide +kernel
theorem d23_23 : decode prog_6_method_2_code 23 = .ok (.ifCond .eq 7, 3) := by decide +kernel
theorem d23_26 : decode prog_6_method_2_code 26 = .ok (.iconst 1, 1) := by decide +kernel
theorem d23_27 : decode prog_6_method_2_code 27 = .ok (.goto 4, 3) := by decide +kernel
theorem d23_38 : decode prog_6_method_2_code 38 = .ok (.iload_n 3, 1) := by decide +kernel
theorem d23_39 : decode prog_6_method_2_code 39 = .ok (.iload_n 1, 1) := by decide +kernel
theorem d23_40 : decode prog_6_method_2_code 40 = .ok (.if_icmp .ge 22, 3) := by decide +kernel
theorem d23_70 : decode prog_6_method_2_code 70 = .ok (.iload_n 3, 1) := by decide +kernel
theorem d23_71 : decode prog_6_method_2_code 71 = .ok (.aload_n 0, 1) := by decide +kernel
theorem d23_72 : decode prog_6_method_2_code 72 = .ok (.invokevirtual 30, 3) := by decide +kernel
theorem d23_75 : decode prog_6_method_2_code 75 = .ok (.if_icmp .ge 18, 3) := by decide +kernel
theorem d23_78 : decode prog_6_method_2_code 78 = .ok (.aload_n 0, 1) := by decide +kernel
theorem d23_79 : decode prog_6_method_2_code 79 = .ok (.iload_n 3, 1) := by decide +kernel
theorem d23_80 : decode prog_6_method_2_code 80 = .ok (.invokevirtual 19, 3) := by decide +kernel
theorem d23_83 : decode prog_6_method_2_code 83 = .ok (.invokestatic 34, 3) := by decide +kernel
theorem d23_86 : decode prog_6_method_2_code 86 = .ok (.istore_n 2, 1) := by decide +kernel
theorem d23_87 : decode prog_6_method_2_code 87 = .ok (.iinc 3 1, 3) := by decide +kernel
theorem d23_90 : decode prog_6_method_2_code 90 = .ok (.goto (-24), 3) := by decide +kernel
theorem d23_43 : decode prog_6_method_2_code 43 = .ok (.getstatic 27, 3) := by decide +kernel
theorem d23_46 : decode prog_6_method_2_code 46 = .ok (.iconst 0, 1) := by decide +kernel
theorem d23_47 : decode prog_6_method_2_code 47 = .ok (.aload_n 0, 1) := by decide +kernel
theorem d23_48 : decode prog_6_method_2_code 48 = .ok (.iload_n 3, 1) := by decide +kernel
theorem d23_49 : decode prog_6_method_2_code 49 = .ok (.invokevirtual 19, 3) := by decide +kernel
theorem d23_52 : decode prog_6_method_2_code 52 = .ok (.invokestatic 23, 3) := by decide +kernel
theorem d23_55 : decode prog_6_method_2_code 55 = .ok (.istore_n 2, 1) := by decide +kernel
theorem d23_56 : decode prog_6_method_2_code 56 = .ok (.iinc 3 1, 3) := by decide +kernel
theorem d23_59 : decode prog_6_method_2_code 59 = .ok (.goto (-25), 3) := by decide +kernel
theorem d25_0 : decode method_3_code 0 = .ok (.iload_n 0, 1) := by decide +kernel
theorem d25_1 : decode method_3_code 1 = .ok (.sipush 256, 3) := by decide +kernel
theorem d25_4 : decode method_3_code 4 = .ok (.iand, 1) := by decide +kernel
theorem d25_5 : decode method_3_code 5 = .ok (.ifCond .eq 6, 3) := by decide +kernel
theorem d25_11 : decode method_3_code 11 = .ok (.iload_n 0, 1) := by decide +kernel
theorem d25_12 : decode method_3_code 12 = .ok (.sipush 255, 3) := by decide +kernel
theorem d25_15 : decode method_3_code 15 = .ok (.iand, 1) := by decide +kernel
theorem d25_16 : decode method_3_code 16 = .ok (.i2c, 1) := by decide +kernel
theorem d25_17 : decode method_3_code 17 = .ok (.ireturn, 1) := by decide +kernel
theorem d25_8 : decode method_3_code 8 = .ok (.bipush 58, 2) := by decide +kernel
theorem d25_10 : decode method_3_code 10 = .ok (.ireturn, 1) := by decide +kernel
theorem pd_16 : parseMethodDescriptor "([C)V" = some ⟨[(.array .char)], none⟩ := by decide +kernel
theorem pd_17 : parseMethodDescriptor "([CI)Z" = some ⟨[(.array .char), .int], some .boolean⟩ := by decide +kernel
theorem pd_18 : parseMethodDescriptor "(Ljava/lang/String;)Z" = some ⟨[(.object "java/lang/String")], some .boolean⟩ := by decide +kernel
theorem own_efn4e (m : MethodId) (x0 : Addr) (b : Addr) : entryFrame m #[(.ref x0), (.ref b), (.int 0), (.int 0), .null] 6 = mkF m 0 #[.val (.ref x0), .val (.ref b), .val (.int 0), .val (.int 0), .val .null, .unset] [] := by first | (simp [entryFrame, mkF, argsToLocals, Value.category]; done) | rfl
def Qn4e (Z : State) (x0 : Addr) (b : Addr) (c0 : Value) (h0 : Heap) (n0 : Nat) (v : Option Value) (h : Heap) (L : List Loc) : Prop := ∃ (t : Addr) (kb : ClassId), v = none ∧ Fr n0 L ∧ Keep h0 h [x0] ∧ (Exa Z h x0 "java/lang/String") ∧ (Fld Z h x0 "java/lang/String" "value" "[B" (.ref t)) ∧ (Fld Z h x0 "java/lang/String" "coder" "B" (.int 0)) ∧ (Arv Z h t kb .byte (0 : Int32) [] (.int 0))
set_option maxRecDepth 65536 in
set_option maxHeartbeats 40000000 in
theorem rmn4e (l : Launch) (Z : State) (a0 : Array Value) (G : OwnG Z a0) (ws : List Jvm.Cond) (x0 : Addr) (b : Addr) (c0 : Value) (h0 : Heap) (n0 : Nat) (O0 : Old Z n0 h0) (P0 : Exa Z h0 x0 "java/lang/String") (P1 : Fld Z h0 x0 "java/lang/String" "value" "[B" .null) (P2 : Fld Z h0 x0 "java/lang/String" "coder" "B" c0) (P3 : n0 ≤ x0) :
    MetFree l own_m0 (head1 (Jvm.Cond.code own_m0 jdk_42_method_149_code 6 none :: ws) ({ frames := 1, cells := 2, slots := 4, locals := 12 } : Room)) (fun a U => a = #[(.ref x0), (.ref b), (.int 0), (.int 0), .null] ∧ Z.Warmed39 U.vm ∧ U.heap = h0 ∧ CHv Z consts_1 U.vm h0) (fun _ _ _ _ _ => True) (fun _ U o U' => ∃ v L, o = .returned v ∧ Qn4e Z x0 b c0 h0 n0 v U'.heap L ∧ CHr Z consts_1 U.vm U.heap U'.vm U'.heap ∧ ReturnedEndW U o U' L ({ frames := 1, cells := 2, slots := 4, locals := 12 } : Room).cells ({ frames := 1, cells := 2, slots := 4, locals := 12 } : Room).slots) := by
  refine MetFree.of_bodySF (plainFor_of_name pn_0) hisR ?_
  intro p e s m args below meth cD s₁ Bd hml0 hP hK
  obtain ⟨rfl, hZ, hh, hCH⟩ := hP
  have hw := G.1
  have hx := Bd.exec
  have hby := Bd.bytes
  have hml : cD.maxLocals = 6 := hml0
  have hown : s.vm.findClass "java/lang/String" = some m.cls := findClass_of_methodNamed Bd.named
  have hnm := (name_of_methodNamed Bd.named Bd.method).1
  have hlk := Bd.notSynchronized
  have X0 : Stand p l e ({ frames := 1, cells := 2, slots := 4, locals := 12 } : Room) s m #[(.ref x0), (.ref b), (.int 0), (.int 0), .null] below meth cD s₁ [] 0 0 := Stand.of_body Bd
  have e0 : s₁.heap = h0 := by rw [← hh, Bd.state]; rfl
  have lt0 := own_ltN' P0.lt
  have lt1 := own_ltN' P1.lt
  have lt2 := own_ltN' P2.lt
  have K0 : Keep h0 h0 [x0] := Keep.refl h0 _
  have Z0 := own_old_le O0
  have N0 := Fr.nil n0
  have X0w : Stand p l e ({ frames := 1, cells := 2, slots := 4, locals := 12 } : Room) (s.setVm s.vm) m #[(.ref x0), (.ref b), (.int 0), (.int 0), .null] below meth cD s₁ [] 0 0 := X0
  have Si0 : s.Since s.vm (Array.size h0) := (State.WarmedH.refl s).since _
  have RR0 : CHr Z consts_1 s.vm h0 s.vm h0 := CHr.refl hCH
  refine OwnEnd.start (g' := (mkF m 0 #[.val (.ref x0), .val (.ref b), .val (.int 0), .val (.int 0), .val .null, .unset] [])) (own_efn4e m x0 b) ?_
  have Sf0 : Safe Z consts_1 s.vm h0 x0 := own_safe_null hZ.alike P0 P1
  refine OwnEnd.of (S' := s₁.setTop (mkF m 1 #[.val (.ref x0), .val (.ref b), .val (.int 0), .val (.int 0), .val .null, .unset] [(.ref x0)])) (fun _ kK => XS.aloadN X0w.here hx rfl (hb hby d0_0) rfl rfl kK) ?_
  obtain ⟨T1, X1, e1, st1⟩ := initO X0w hx hZ hown (own_w G 16 rfl) (own_w G 17 rfl) (own_w G 18 rfl) e0 (g := (mkF m 1 #[.val (.ref x0), .val (.ref b), .val (.int 0), .val (.int 0), .val .null, .unset] [(.ref x0)])) rfl (by rw [hml]; rfl) rfl (hb hby d0_1) (by decide) (W := 0) (by show 2 * 0 + _ ≤ _; exact Nat.le_of_eq rfl) (by decide)
  refine OwnEnd.of (S' := T1.setTop (mkF m 4 #[.val (.ref x0), .val (.ref b), .val (.int 0), .val (.int 0), .val .null, .unset] [])) st1 ?_
  refine OwnEnd.of (S' := T1.setTop (mkF m 9 #[.val (.ref x0), .val (.ref b), .val (.int 0), .val (.int 0), .val .null, .unset] [(.ref x0)])) (fun _ kK => XS.iloadN X1.here hx rfl (hb hby d0_4) rfl (XS.ifNo X1.here hx rfl (hb hby d0_5) rfl ((if0 _ _).trans (teq ((by decide : (0 : Int32) = (0 : Int32)))).2) (XS.aloadN X1.here hx rfl (hb hby d0_8) rfl rfl kK))) ?_
  obtain ⟨a2, T2, h2, k2, b2, c2, X2, e2, E2, Si2, gr2, hZ2, hown2, Ex2, Fc2, Fv2, Av2, la2, lb2, R2, Lt2, ne2, st2⟩ := ldcCH (vm0 := s.vm) X1 hx hZ hown (own_w G 19 rfl) (own_wS G) e1 Si0 (by omega) (own_EW G) (by simp [consts_1]) hCH (vs := []) (z := (0 : Int32)) (by decide) (by decide) (by decide) (g := (mkF m 9 #[.val (.ref x0), .val (.ref b), .val (.int 0), .val (.int 0), .val .null, .unset] [(.ref x0)])) rfl (hb hby d0_9) (n := 0) (by first | decide | simp) (by decide) (by decide) (by decide)
  have sz3 := E2.1
  have K3 := K0.ext E2
  have O3 := O0.ext E2
  have RR2' := RR0.trans R2
  refine OwnEnd.of (S' := T2.setTop (mkF m 11 #[.val (.ref x0), .val (.ref b), .val (.int 0), .val (.int 0), .val .null, .unset] [(.ref a2), (.ref x0)])) st2 ?_
  have f4 : Safe Z consts_1 T2.vm h2 x0 := (R2.safe (own_ltB (by omega)) Sf0)
  obtain ⟨na2, nb2⟩ := ne2 x0 f4
  have na2' := own_neN na2
  have nb2' := own_neN nb2
  obtain ⟨T5, X5, e5, st5⟩ := getF X2 hx hZ2 hown2 (host := "") (Or.inl (own_w G 25 rfl)) Via.refl e2 Fv2 (g := (mkF m 11 #[.val (.ref x0), .val (.ref b), .val (.int 0), .val (.int 0), .val .null, .unset] [(.ref a2), (.ref x0)])) rfl rfl (hb hby d0_11)
  refine OwnEnd.of (S' := T5.setTop (mkF m 14 #[.val (.ref x0), .val (.ref b), .val (.int 0), .val (.int 0), .val .null, .unset] [(.ref b2), (.ref x0)])) st5 ?_
  have f7 : Fld Z h2 x0 "java/lang/String" "value" "[B" .null := (P1.ext E2)
  have f8 : Exa Z h2 x0 "java/lang/String" := (P0.ext E2)
  obtain ⟨T6, h6, X6, e6, W6, st6⟩ := putF X5 hx hZ2 hown2 (host := "") (Or.inl (own_w G 25 rfl)) Via.refl e5 f7 f8 (Or.inr ⟨(own_w G 21 rfl), rfl, hnm⟩) (own_w G 7 rfl) (ty := (.array .byte)) (by decide) rfl rfl (g := (mkF m 14 #[.val (.ref x0), .val (.ref b), .val (.int 0), .val (.int 0), .val .null, .unset] [(.ref b2), (.ref x0)])) rfl rfl (hb hby d0_14)
  have Fw6 := f7.same W6
  have N6 := Fr.snoc X6 N0 (by omega)
  have sz9 := own_wr_le W6
  have K9 := K3.wr W6 (Or.inl (by simp))
  have O9 := O3.wr W6 (by omega)
  have R9 := CHr.wr W6 f4 R2.1
  have CH9 := R9.1
  have RR9 := RR2'.trans R9
  refine OwnEnd.of (S' := T6.setTop (mkF m 17 #[.val (.ref x0), .val (.ref b), .val (.int 0), .val (.int 0), .val .null, .unset] [])) st6 ?_
  refine OwnEnd.of (S' := T6.setTop (mkF m 18 #[.val (.ref x0), .val (.ref b), .val (.int 0), .val (.int 0), .val .null, .unset] [(.ref x0)])) (fun _ kK => XS.aloadN X6.here hx rfl (hb hby d0_17) rfl rfl kK) ?_
  refine OwnEnd.of (S' := T6.setTop (mkF m 20 #[.val (.ref x0), .val (.ref b), .val (.int 0), .val (.int 0), .val .null, .unset] [(.ref a2), (.ref x0)])) (ldcAgain (vm0 := T2.vm) X6 hx hZ2 hown2 (own_w G 19 rfl) Lt2 (g := (mkF m 18 #[.val (.ref x0), .val (.ref b), .val (.int 0), .val (.int 0), .val .null, .unset] [(.ref x0)])) rfl (hb hby d0_18)) ?_
  have f11 : Fld Z h6 a2 "java/lang/String" "coder" "B" (.int 0) := (Fc2.other W6 (Or.inl (own_ne (by omega))))
  obtain ⟨T10, X10, e10, st10⟩ := getF X6 hx hZ2 hown2 (host := "") (Or.inl (own_w G 26 rfl)) Via.refl e6 f11 (g := (mkF m 20 #[.val (.ref x0), .val (.ref b), .val (.int 0), .val (.int 0), .val .null, .unset] [(.ref a2), (.ref x0)])) rfl rfl (hb hby d0_20)
  refine OwnEnd.of (S' := T10.setTop (mkF m 23 #[.val (.ref x0), .val (.ref b), .val (.int 0), .val (.int 0), .val .null, .unset] [(.int 0), (.ref x0)])) st10 ?_
  have f13 : Fld Z h6 x0 "java/lang/String" "coder" "B" c0 := ((P2.ext E2).other W6 (Or.inr (slot_ne (Or.inr (own_w G 22 rfl)) (Or.inr (own_w G 21 rfl)) (by decide) (t := .byte) (t' := (.array .byte)) (by decide) (by decide))))
  have f14 : Exa Z h6 x0 "java/lang/String" := (f8.wr W6)
  obtain ⟨T12, h12, X12, e12, W12, st12⟩ := putFN X10 hx hZ2 hown2 (own_w G 26 rfl) Via.refl e10 f13 f14 (Or.inr ⟨(own_w G 22 rfl), rfl, hnm⟩) (own_w G 7 rfl) (ty := .byte) (v' := (.int 0)) (by decide) rfl rfl (g := (mkF m 23 #[.val (.ref x0), .val (.ref b), .val (.int 0), .val (.int 0), .val .null, .unset] [(.int 0), (.ref x0)])) rfl rfl (hb hby d0_23)
  have Fw12 := f13.same W12
  have N12 := Fr.snoc X12 N6 (by omega)
  have sz15 := own_wr_le W12
  have K15 := K9.wr W12 (Or.inl (by simp))
  have O15 := O9.wr W12 (by omega)
  have f16 : Safe Z consts_1 T2.vm h6 x0 := (Safe.wr W6 f4 R2.1 f4)
  have R15 := CHr.wr W12 f16 CH9
  have CH15 := R15.1
  have RR15 := RR9.trans R15
  refine OwnEnd.of (S' := T12.setTop (mkF m 26 #[.val (.ref x0), .val (.ref b), .val (.int 0), .val (.int 0), .val .null, .unset] [])) st12 ?_
  have f17 : Exa Z h12 x0 "java/lang/String" := (f14.wr W12)
  have f18 : Fld Z h12 x0 "java/lang/String" "value" "[B" (.ref b2) := (Fw6.other W12 (Or.inr (slot_ne (Or.inr (own_w G 21 rfl)) (Or.inr (own_w G 22 rfl)) (by decide) (t := (.array .byte)) (t' := .byte) (by decide) (by decide))))
  have f19 : Arv Z h12 b2 c2 .byte (0 : Int32) [] (.int 0) := ((Av2.other W6 (own_ne (by omega))).other W12 (own_ne (by omega)))
  refine OwnEnd.retC hh (own_EW G) hZ2 X12 Si2 (by omega) (v := none) (fun _ => rfl) hlk (fun fs hr => X12.returnOut hx Bd.returns (hb hby d0_26) hr) (by decide) (by decide) (Q := Qn4e Z x0 b c0 h0 n0) e12 RR15 ?_
  exact ⟨b2, c2, rfl, N12, K15, f17, f18, Fw12, f19⟩

theorem own_efn1e (m : MethodId) (x0 : Addr) (b : Addr) : entryFrame m #[(.ref x0), (.ref b)] 2 = mkF m 0 #[.val (.ref x0), .val (.ref b)] [] := by first | (simp [entryFrame, mkF, argsToLocals, Value.category]; done) | rfl
def Qn1e (Z : State) (x0 : Addr) (b : Addr) (c0 : Value) (kC : ClassId) (vs : List Value) (dv : Value) (h0 : Heap) (n0 : Nat) (v : Option Value) (h : Heap) (L : List Loc) : Prop := ∃ (t : Addr) (kb : ClassId), v = none ∧ Fr n0 L ∧ Keep h0 h [x0] ∧ (Exa Z h x0 "java/lang/String") ∧ (Fld Z h x0 "java/lang/String" "value" "[B" (.ref t)) ∧ (Fld Z h x0 "java/lang/String" "coder" "B" (.int 0)) ∧ (Arv Z h t kb .byte (0 : Int32) [] (.int 0))
set_option maxRecDepth 65536 in
set_option maxHeartbeats 40000000 in
theorem rmn1e (l : Launch) (Z : State) (a0 : Array Value) (G : OwnG Z a0) (ws : List Jvm.Cond) (x0 : Addr) (b : Addr) (c0 : Value) (kC : ClassId) (vs : List Value) (dv : Value) (h0 : Heap) (n0 : Nat) (O0 : Old Z n0 h0) (P0 : Exa Z h0 x0 "java/lang/String") (P1 : Fld Z h0 x0 "java/lang/String" "value" "[B" .null) (P2 : Fld Z h0 x0 "java/lang/String" "coder" "B" c0) (P3 : Arv Z h0 b kC .char (0 : Int32) vs dv) (P4 : n0 ≤ x0) :
    MetFree l own_m1 (head1 (Jvm.Cond.code own_m1 jdk_42_method_3_code 2 none :: ws) ({ frames := 2, cells := 2, slots := 4, locals := 29 } : Room)) (fun a U => a = #[(.ref x0), (.ref b)] ∧ Z.Warmed39 U.vm ∧ U.heap = h0 ∧ CHv Z consts_1 U.vm h0) (fun _ _ _ _ _ => True) (fun _ U o U' => ∃ v L, o = .returned v ∧ Qn1e Z x0 b c0 kC vs dv h0 n0 v U'.heap L ∧ CHr Z consts_1 U.vm U.heap U'.vm U'.heap ∧ ReturnedEndW U o U' L ({ frames := 2, cells := 2, slots := 4, locals := 29 } : Room).cells ({ frames := 2, cells := 2, slots := 4, locals := 29 } : Room).slots) := by
  refine MetFree.of_bodySF (plainFor_of_name pn_0) hisR ?_
  intro p e s m args below meth cD s₁ Bd hml0 hP hK
  obtain ⟨rfl, hZ, hh, hCH⟩ := hP
  have hw := G.1
  have hx := Bd.exec
  have hby := Bd.bytes
  have hml : cD.maxLocals = 2 := hml0
  have hown : s.vm.findClass "java/lang/String" = some m.cls := findClass_of_methodNamed Bd.named
  have hnm := (name_of_methodNamed Bd.named Bd.method).1
  have hlk := Bd.notSynchronized
  have X0 : Stand p l e ({ frames := 2, cells := 2, slots := 4, locals := 29 } : Room) s m #[(.ref x0), (.ref b)] below meth cD s₁ [] 0 0 := Stand.of_body Bd
  have e0 : s₁.heap = h0 := by rw [← hh, Bd.state]; rfl
  have lt0 := own_ltN' P0.lt
  have lt1 := own_ltN' P1.lt
  have lt2 := own_ltN' P2.lt
  have lt3 := own_ltN' P3.lt
  have K0 : Keep h0 h0 [x0] := Keep.refl h0 _
  have Z0 := own_old_le O0
  have N0 := Fr.nil n0
  have X0w : Stand p l e ({ frames := 2, cells := 2, slots := 4, locals := 29 } : Room) (s.setVm s.vm) m #[(.ref x0), (.ref b)] below meth cD s₁ [] 0 0 := X0
  have Si0 : s.Since s.vm (Array.size h0) := (State.WarmedH.refl s).since _
  have RR0 : CHr Z consts_1 s.vm h0 s.vm h0 := CHr.refl hCH
  refine OwnEnd.start (g' := (mkF m 0 #[.val (.ref x0), .val (.ref b)] [])) (own_efn1e m x0 b) ?_
  have Sf0 : Safe Z consts_1 s.vm h0 x0 := own_safe_null hZ.alike P0 P1
  refine OwnEnd.of (S' := s₁.setTop (mkF m 4 #[.val (.ref x0), .val (.ref b)] [(.ref b), (.int 0), (.ref b), (.ref x0)])) (fun _ kK => XS.aloadN X0w.here hx rfl (hb hby d1_0) rfl rfl (XS.aloadN X0w.here hx rfl (hb hby d1_1) rfl rfl (XS.iconst X0w.here hx rfl (hb hby d1_2) (XS.aloadN X0w.here hx rfl (hb hby d1_3) rfl rfl kK)))) ?_
  obtain ⟨cl1, Ar1, q1, S1, N1', H1, G1⟩ := id P3
  refine OwnEnd.of (S' := s₁.setTop (mkF m 5 #[.val (.ref x0), .val (.ref b)] [(.int 0), (.int 0), (.ref b), (.ref x0)])) (fun _ kK => X0w.arraylength hx (by rw [e0]; exact Ar1.1) (State.isArrayOf_alike hZ.alike Ar1.2.1) (g := (mkF m 4 #[.val (.ref x0), .val (.ref b)] [(.ref b), (.int 0), (.ref b), (.ref x0)])) rfl rfl (hb hby d1_4) _ (by rw [len_of S1 N1']; exact kK)) ?_
  refine OwnEnd.of (S' := s₁.setTop (mkF m 6 #[.val (.ref x0), .val (.ref b)] [.null, (.int 0), (.int 0), (.ref b), (.ref x0)])) (fun _ kK => XS.aconstNull X0w.here hx rfl (hb hby d1_5) kK) ?_
  obtain ⟨_, _, ⟨T2, L2, k2, n2⟩, -, X2', Si2, gr2, ⟨Lc2, hQ2, l2, y2, z2, CH2⟩, st2⟩ := Jvm.Stand.specialBackS X0w hx (y := own_m0) rfl hown (mvT hZ (own_w G 12 rfl)) (mvT hZ (own_w G 13 rfl)) (mvT hZ (own_w G 15 rfl)) (by decide) (backOfSH (W := 0) (rmn4e l Z a0 G [] x0 b c0 h0 n0 O0 P0 P1 P2 (by omega)) hZ (own_w G 15 rfl) (own_w G 8 rfl) (by decide) (by decide) (own_EW G) hCH) (g := (mkF m 6 #[.val (.ref x0), .val (.ref b)] [.null, (.int 0), (.int 0), (.ref b), (.ref x0)])) rfl (by rw [hml]; rfl) (Steps.refl _) (a := x0) (argsL := [(.ref b), (.int 0), (.int 0), .null]) (rest := []) (lenOf pd_0 rfl) rfl (by show 2 * 0 + _ ≤ _; exact Nat.le_of_eq rfl) (hb hby d1_6) (fun _ _ => ⟨rfl, e0, (by decide : 0 + 2 ≤ _), (by decide : 0 + 4 ≤ _)⟩)
  dsimp only [Pt.U, Pt.locs, Pt.cells, Pt.slots] at X2' l2 y2 z2 st2 hQ2 CH2 Si2 gr2
  subst l2 y2 z2
  obtain ⟨X2, Sj2, hZ2, hown2⟩ := rebS (n1 := Array.size h0) Si0 (by omega) X2' Si2 (by rw [e0] at gr2; omega) hZ hown
  obtain ⟨t_2, kb_2, rfl, N2q, Kq2, r2_0, r2_1, r2_2, r2_3⟩ := hQ2
  have N2 := Fr.app N0 N2q
  have sz3 := Kq2.1
  have K3 := K0.trans Kq2 (own_all1 (Or.inl (by simp)))
  have O3 := O0.keep Kq2 (own_all1 (by omega))
  have RR2' := RR0.trans CH2
  have ltr2_0 := own_ltN' r2_0.lt
  have ltr2_1 := own_ltN' r2_1.lt
  have ltr2_2 := own_ltN' r2_2.lt
  have ltr2_3 := own_ltN' r2_3.lt
  refine OwnEnd.tr (S' := T2.setTop (mkF m 9 #[.val (.ref x0), .val (.ref b)] [])) st2 ?_
  refine OwnEnd.retC hh (own_EW G) hZ2 X2 Sj2 (by omega) (v := none) (fun _ => rfl) hlk (fun fs hr => X2.returnOut hx Bd.returns (hb hby d1_9) hr) (by decide) (by decide) (Q := Qn1e Z x0 b c0 kC vs dv h0 n0) rfl RR2' ?_
  exact ⟨t_2, kb_2, rfl, N2, K3, r2_0, r2_1, r2_2, r2_3⟩

theorem own_efck (m : MethodId) (i : Int32) (n : Int32) (v2 : Value) (hv2 : v2.isRef = true) : entryFrame m #[(.int i), (.int n), v2] 3 = mkF m 0 #[.val (.int i), .val (.int n), .val v2] [] := by
  rcases ref_cases hv2 with rfl | ⟨_, rfl⟩ <;>
  first | (simp [entryFrame, mkF, argsToLocals, Value.category]; done) | rfl
def Qck (Z : State) (i : Int32) (n : Int32) (v2 : Value) (h0 : Heap) (n0 : Nat) (v : Option Value) (h : Heap) (L : List Loc) : Prop := v = some (.int i) ∧ Fr n0 L ∧ h = h0
set_option maxRecDepth 65536 in
set_option maxHeartbeats 40000000 in
theorem rmck (l : Launch) (Z : State) (a0 : Array Value) (G : OwnG Z a0) (ws : List Jvm.Cond) (i : Int32) (n : Int32) (v2 : Value) (h0 : Heap) (n0 : Nat) (O0 : Old Z n0 h0) (P0 : ¬ i < (0 : Int32)) (P1 : i < n) (P2 : v2.isRef = true) :
    MetFree l own_m2 (head1 (Jvm.Cond.code own_m2 jdk_41_method_11_code 3 (some .int) :: ws) ({ frames := 0, cells := 0, slots := 0, locals := 0 } : Room)) (fun a U => a = #[(.int i), (.int n), v2] ∧ Z.Warmed39 U.vm ∧ U.heap = h0) (fun _ _ _ _ _ => True) (fun _ U o U' => ∃ v L, o = .returned v ∧ Qck Z i n v2 h0 n0 v U'.heap L ∧ FrameEnd U o U' L ({ frames := 0, cells := 0, slots := 0, locals := 0 } : Room).cells ({ frames := 0, cells := 0, slots := 0, locals := 0 } : Room).slots) := by
  refine MetFree.of_bodySF (plainFor_of_name pn_1) hisR ?_
  intro p e s m args below meth cD s₁ Bd hml0 hP hK
  obtain ⟨rfl, hZ, hh⟩ := hP
  have hw := G.1
  have hx := Bd.exec
  have hby := Bd.bytes
  have hml : cD.maxLocals = 3 := hml0
  have hown : s.vm.findClass "jdk/internal/util/Preconditions" = some m.cls := findClass_of_methodNamed Bd.named
  have hnm := (name_of_methodNamed Bd.named Bd.method).1
  have hlk := Bd.notSynchronized
  have X0 : Stand p l e ({ frames := 0, cells := 0, slots := 0, locals := 0 } : Room) s m #[(.int i), (.int n), v2] below meth cD s₁ [] 0 0 := Stand.of_body Bd
  have e0 : s₁.heap = h0 := by rw [← hh, Bd.state]; rfl
  have K0 : Keep h0 h0 [] := Keep.refl h0 _
  have Z0 := own_old_le O0
  have N0 := Fr.nil n0
  refine OwnEnd.start (g' := (mkF m 0 #[.val (.int i), .val (.int n), .val v2] [])) (own_efck m i n v2 P2) ?_
  refine OwnEnd.of (S' := s₁.setTop (mkF m 17 #[.val (.int i), .val (.int n), .val v2] [(.int i)])) (fun _ kK => XS.iloadN X0.here hx rfl (hb hby d2_0) rfl (XS.ifNo X0.here hx rfl (hb hby d2_1) rfl ((if0 _ _).trans (flt (P0)).1) (XS.iloadN X0.here hx rfl (hb hby d2_4) rfl (XS.iloadN X0.here hx rfl (hb hby d2_5) rfl (XS.icmpYes X0.here hx rfl (pc0 := 6) (pc' := 16) rfl (hb hby d2_6) rfl (tlt (P1)).1 (by decide) (by decide) (XS.iloadN X0.here hx rfl (hb hby d2_16) rfl kK)))))) ?_
  refine OwnEnd.ret X0 (v := (some (.int i))) (fun h => by rw [Bd.returns] at h; cases h) hlk (fun fs hr => retOut X0 hx Bd.returns rfl (Or.inl ⟨rfl, Or.inl rfl, _, rfl⟩) (hb hby d2_17) hr) (by decide) (by decide) (Q := Qck Z i n v2 h0 n0) e0 ?_
  exact ⟨rfl, N0, rfl⟩

theorem own_efsk (m : MethodId) (i : Int32) (n : Int32) : entryFrame m #[(.int i), (.int n)] 2 = mkF m 0 #[.val (.int i), .val (.int n)] [] := by first | (simp [entryFrame, mkF, argsToLocals, Value.category]; done) | rfl
def Qsk (Z : State) (i : Int32) (n : Int32) (h0 : Heap) (n0 : Nat) (v : Option Value) (h : Heap) (L : List Loc) : Prop := v = none ∧ Fr n0 L ∧ h = h0
set_option maxRecDepth 65536 in
set_option maxHeartbeats 40000000 in
theorem rmsk (l : Launch) (Z : State) (a0 : Array Value) (G : OwnG Z a0) (ws : List Jvm.Cond) (i : Int32) (n : Int32) (h0 : Heap) (n0 : Nat) (O0 : Old Z n0 h0) (P0 : ¬ i < (0 : Int32)) (P1 : i < n) :
    MetFree l own_m3 (head1 (Jvm.Cond.code own_m3 jdk_42_method_155_code 2 none :: ws) ({ frames := 1, cells := 0, slots := 0, locals := 14 } : Room)) (fun a U => a = #[(.int i), (.int n)] ∧ Z.Warmed39 U.vm ∧ U.heap = h0) (fun _ _ _ _ _ => True) (fun _ U o U' => ∃ v L, o = .returned v ∧ Qsk Z i n h0 n0 v U'.heap L ∧ FrameEnd U o U' L ({ frames := 1, cells := 0, slots := 0, locals := 14 } : Room).cells ({ frames := 1, cells := 0, slots := 0, locals := 14 } : Room).slots) := by
  refine MetFree.of_bodySF (plainFor_of_name pn_0) hisR ?_
  intro p e s m args below meth cD s₁ Bd hml0 hP hK
  obtain ⟨rfl, hZ, hh⟩ := hP
  have hw := G.1
  have hx := Bd.exec
  have hby := Bd.bytes
  have hml : cD.maxLocals = 2 := hml0
  have hown : s.vm.findClass "java/lang/String" = some m.cls := findClass_of_methodNamed Bd.named
  have hnm := (name_of_methodNamed Bd.named Bd.method).1
  have hlk := Bd.notSynchronized
  have X0 : Stand p l e ({ frames := 1, cells := 0, slots := 0, locals := 14 } : Room) s m #[(.int i), (.int n)] below meth cD s₁ [] 0 0 := Stand.of_body Bd
  have e0 : s₁.heap = h0 := by rw [← hh, Bd.state]; rfl
  have K0 : Keep h0 h0 [] := Keep.refl h0 _
  have Z0 := own_old_le O0
  have N0 := Fr.nil n0
  obtain ⟨vFM, SFM, PFM⟩ := own_fm G
  refine OwnEnd.start (g' := (mkF m 0 #[.val (.int i), .val (.int n)] [])) (own_efsk m i n) ?_
  refine OwnEnd.of (S' := s₁.setTop (mkF m 2 #[.val (.int i), .val (.int n)] [(.int n), (.int i)])) (fun _ kK => XS.iloadN X0.here hx rfl (hb hby d3_0) rfl (XS.iloadN X0.here hx rfl (hb hby d3_1) rfl kK)) ?_
  obtain ⟨T1, X1, e1, st1⟩ := getS2 X0 hx hZ hown (host := "") (Or.inl (own_w G 109 rfl)) Via.refl e0 (SFM.ext O0.2) (g := (mkF m 2 #[.val (.int i), .val (.int n)] [(.int n), (.int i)])) rfl (hb hby d3_2)
  refine OwnEnd.of (S' := T1.setTop (mkF m 5 #[.val (.int i), .val (.int n)] [vFM, (.int n), (.int i)])) st1 ?_
  obtain ⟨_, _, ⟨T2, L2, k2, n2⟩, -, X2, ⟨Lc2, hQ2, l2, y2, z2⟩, st2⟩ := Jvm.LawKit.callS X1 hx (y := own_m2) hown (mvT hZ (own_w G 111 rfl)) (mvT hZ (own_w G 112 rfl)) (mvT hZ (own_w G 110 rfl)) (mvT hZ (own_w G 113 rfl)) (by decide) (backOf (W := 0) (rmck l Z a0 G [] i n vFM h0 n0 O0 P0 P1 (PFM : vFM.isRef = true)) hZ (own_w G 113 rfl) (own_w G 110 rfl) (by decide) (by decide)) (g := (mkF m 5 #[.val (.int i), .val (.int n)] [vFM, (.int n), (.int i)])) rfl (by rw [hml]; rfl) (argsL := [(.int i), (.int n), vFM]) (rest := []) (lenOf pd_1 rfl) rfl (by show 2 * 0 + _ ≤ _; exact Nat.le_of_eq rfl) (hb hby d3_5) (fun _ _ => ⟨rfl, e1, (by decide : 0 + 0 ≤ _), (by decide : 0 + 0 ≤ _)⟩)
  dsimp only [Pt.U, Pt.locs, Pt.cells, Pt.slots] at X2 l2 y2 z2 st2 hQ2
  subst l2 y2 z2
  obtain ⟨rfl, N2q, eh2⟩ := hQ2
  have N2 := Fr.app N0 N2q
  refine OwnEnd.of (S' := T2.setTop (mkF m 8 #[.val (.int i), .val (.int n)] [(.int i)])) st2 ?_
  refine OwnEnd.of (S' := T2.setTop (mkF m 9 #[.val (.int i), .val (.int n)] [])) (fun _ kK => XS.pop X2.here hx rfl (hb hby d3_8) rfl rfl kK) ?_
  refine OwnEnd.ret X2 (v := none) (fun _ => rfl) hlk (fun fs hr => X2.returnOut hx Bd.returns (hb hby d3_9) hr) (by decide) (by decide) (Q := Qsk Z i n h0 n0) eh2 ?_
  exact ⟨rfl, N2, rfl⟩

theorem own_efil0 (m : MethodId) (x0 : Addr) : entryFrame m #[(.ref x0)] 1 = mkF m 0 #[.val (.ref x0)] [] := by first | (simp [entryFrame, mkF, argsToLocals, Value.category]; done) | rfl
set_option maxRecDepth 65536 in
set_option maxHeartbeats 40000000 in
theorem rmil0 (l : Launch) (Z : State) (a0 : Array Value) (G : OwnG Z a0) (ws : List Jvm.Cond) (x0 : Addr) (h0 : Heap) (n0 : Nat) (O0 : Old Z n0 h0) (P0 : Fld Z h0 x0 "java/lang/String" "coder" "B" (.int 0)) :
    MetFree l own_m4 (head1 (Jvm.Cond.code own_m4 jdk_42_method_154_code 1 (some .boolean) :: ws) ({ frames := 0, cells := 0, slots := 0, locals := 0 } : Room)) (fun a U => a = #[(.ref x0)] ∧ Z.Warmed39 U.vm ∧ U.heap = h0) (fun _ _ _ _ _ => True) (fun _ U o U' => ∃ v L, o = .returned v ∧ (own_Qint (1 : Int32)) h0 n0 v U'.heap L ∧ FrameEnd U o U' L ({ frames := 0, cells := 0, slots := 0, locals := 0 } : Room).cells ({ frames := 0, cells := 0, slots := 0, locals := 0 } : Room).slots) := by
  refine MetFree.of_bodySF (plainFor_of_name pn_0) hisR ?_
  intro p e s m args below meth cD s₁ Bd hml0 hP hK
  obtain ⟨rfl, hZ, hh⟩ := hP
  have hw := G.1
  have hx := Bd.exec
  have hby := Bd.bytes
  have hml : cD.maxLocals = 1 := hml0
  have hown : s.vm.findClass "java/lang/String" = some m.cls := findClass_of_methodNamed Bd.named
  have hnm := (name_of_methodNamed Bd.named Bd.method).1
  have hlk := Bd.notSynchronized
  have X0 : Stand p l e ({ frames := 0, cells := 0, slots := 0, locals := 0 } : Room) s m #[(.ref x0)] below meth cD s₁ [] 0 0 := Stand.of_body Bd
  have e0 : s₁.heap = h0 := by rw [← hh, Bd.state]; rfl
  have lt0 := own_ltN' P0.lt
  have K0 : Keep h0 h0 [] := Keep.refl h0 _
  have Z0 := own_old_le O0
  have N0 := Fr.nil n0
  obtain ⟨zCS, SCS, PCS⟩ := own_cs G
  refine OwnEnd.start (g' := (mkF m 0 #[.val (.ref x0)] [])) (own_efil0 m x0) ?_
  obtain ⟨T1, X1, e1, st1⟩ := getS2 X0 hx hZ hown (host := "") (Or.inl (own_w G 52 rfl)) Via.refl e0 (SCS.ext O0.2) (g := (mkF m 0 #[.val (.ref x0)] [])) rfl (hb hby d4_0)
  refine OwnEnd.of (S' := T1.setTop (mkF m 3 #[.val (.ref x0)] [(.int zCS)])) st1 ?_
  refine OwnEnd.of (S' := T1.setTop (mkF m 7 #[.val (.ref x0)] [(.ref x0)])) (fun _ kK => XS.ifNo X1.here hx rfl (hb hby d4_3) rfl ((if0 _ _).trans (feq (PCS)).1) (XS.aloadN X1.here hx rfl (hb hby d4_6) rfl rfl kK)) ?_
  obtain ⟨T2, X2, e2, st2⟩ := getF X1 hx hZ hown (host := "") (Or.inl (own_w G 26 rfl)) Via.refl e1 P0 (g := (mkF m 7 #[.val (.ref x0)] [(.ref x0)])) rfl rfl (hb hby d4_7)
  refine OwnEnd.of (S' := T2.setTop (mkF m 10 #[.val (.ref x0)] [(.int 0)])) st2 ?_
  refine OwnEnd.of (S' := T2.setTop (mkF m 18 #[.val (.ref x0)] [(.int 1)])) (fun _ kK => XS.ifNo X2.here hx rfl (hb hby d4_10) rfl ((if0 _ _).trans (teq ((by decide : (0 : Int32) = (0 : Int32)))).2) (XS.iconst X2.here hx rfl (hb hby d4_13) (XS.goto X2.here hx rfl (pc0 := 14) (pc' := 18) rfl (hb hby d4_14) (by decide) (by decide) kK))) ?_
  refine OwnEnd.ret X2 (v := (some (.int (nar .boolean (1 : Int32))))) (fun h => by rw [Bd.returns] at h; cases h) hlk (fun fs hr => retN X2 hx (t := .boolean) Bd.returns (by simp) (hb hby d4_18) hr) (by decide) (by decide) (Q := (own_Qint (1 : Int32)) h0 n0) e2 ?_
  exact ⟨rfl, N0, rfl⟩

theorem own_efcdr0 (m : MethodId) (x0 : Addr) : entryFrame m #[(.ref x0)] 1 = mkF m 0 #[.val (.ref x0)] [] := by first | (simp [entryFrame, mkF, argsToLocals, Value.category]; done) | rfl
set_option maxRecDepth 65536 in
set_option maxHeartbeats 40000000 in
theorem rmcdr0 (l : Launch) (Z : State) (a0 : Array Value) (G : OwnG Z a0) (ws : List Jvm.Cond) (x0 : Addr) (h0 : Heap) (n0 : Nat) (O0 : Old Z n0 h0) (P0 : Fld Z h0 x0 "java/lang/String" "coder" "B" (.int 0)) :
    MetFree l own_m5 (head1 (Jvm.Cond.code own_m5 jdk_42_method_152_code 1 (some .byte) :: ws) ({ frames := 0, cells := 0, slots := 0, locals := 0 } : Room)) (fun a U => a = #[(.ref x0)] ∧ Z.Warmed39 U.vm ∧ U.heap = h0) (fun _ _ _ _ _ => True) (fun _ U o U' => ∃ v L, o = .returned v ∧ (own_Qint (0 : Int32)) h0 n0 v U'.heap L ∧ FrameEnd U o U' L ({ frames := 0, cells := 0, slots := 0, locals := 0 } : Room).cells ({ frames := 0, cells := 0, slots := 0, locals := 0 } : Room).slots) := by
  refine MetFree.of_bodySF (plainFor_of_name pn_0) hisR ?_
  intro p e s m args below meth cD s₁ Bd hml0 hP hK
  obtain ⟨rfl, hZ, hh⟩ := hP
  have hw := G.1
  have hx := Bd.exec
  have hby := Bd.bytes
  have hml : cD.maxLocals = 1 := hml0
  have hown : s.vm.findClass "java/lang/String" = some m.cls := findClass_of_methodNamed Bd.named
  have hnm := (name_of_methodNamed Bd.named Bd.method).1
  have hlk := Bd.notSynchronized
  have X0 : Stand p l e ({ frames := 0, cells := 0, slots := 0, locals := 0 } : Room) s m #[(.ref x0)] below meth cD s₁ [] 0 0 := Stand.of_body Bd
  have e0 : s₁.heap = h0 := by rw [← hh, Bd.state]; rfl
  have lt0 := own_ltN' P0.lt
  have K0 : Keep h0 h0 [] := Keep.refl h0 _
  have Z0 := own_old_le O0
  have N0 := Fr.nil n0
  obtain ⟨zCS, SCS, PCS⟩ := own_cs G
  refine OwnEnd.start (g' := (mkF m 0 #[.val (.ref x0)] [])) (own_efcdr0 m x0) ?_
  obtain ⟨T1, X1, e1, st1⟩ := getS2 X0 hx hZ hown (host := "") (Or.inl (own_w G 52 rfl)) Via.refl e0 (SCS.ext O0.2) (g := (mkF m 0 #[.val (.ref x0)] [])) rfl (hb hby d5_0)
  refine OwnEnd.of (S' := T1.setTop (mkF m 3 #[.val (.ref x0)] [(.int zCS)])) st1 ?_
  refine OwnEnd.of (S' := T1.setTop (mkF m 7 #[.val (.ref x0)] [(.ref x0)])) (fun _ kK => XS.ifNo X1.here hx rfl (hb hby d5_3) rfl ((if0 _ _).trans (feq (PCS)).1) (XS.aloadN X1.here hx rfl (hb hby d5_6) rfl rfl kK)) ?_
  obtain ⟨T2, X2, e2, st2⟩ := getF X1 hx hZ hown (host := "") (Or.inl (own_w G 26 rfl)) Via.refl e1 P0 (g := (mkF m 7 #[.val (.ref x0)] [(.ref x0)])) rfl rfl (hb hby d5_7)
  refine OwnEnd.of (S' := T2.setTop (mkF m 10 #[.val (.ref x0)] [(.int 0)])) st2 ?_
  refine OwnEnd.of (S' := T2.setTop (mkF m 14 #[.val (.ref x0)] [(.int 0)])) (fun _ kK => XS.goto X2.here hx rfl (pc0 := 10) (pc' := 14) rfl (hb hby d5_10) (by decide) (by decide) kK) ?_
  refine OwnEnd.ret X2 (v := (some (.int (nar .byte (0 : Int32))))) (fun h => by rw [Bd.returns] at h; cases h) hlk (fun fs hr => retN X2 hx (t := .byte) Bd.returns (by simp) (hb hby d5_14) hr) (by decide) (by decide) (Q := (own_Qint (0 : Int32)) h0 n0) e2 ?_
  exact ⟨rfl, N0, rfl⟩

theorem own_efln0 (m : MethodId) (x0 : Addr) : entryFrame m #[(.ref x0)] 1 = mkF m 0 #[.val (.ref x0)] [] := by first | (simp [entryFrame, mkF, argsToLocals, Value.category]; done) | rfl
set_option maxRecDepth 65536 in
set_option maxHeartbeats 40000000 in
theorem rmln0 (l : Launch) (Z : State) (a0 : Array Value) (G : OwnG Z a0) (ws : List Jvm.Cond) (x0 : Addr) (t : Addr) (kb : ClassId) (N : Int32) (vs : List Value) (dv : Value) (h0 : Heap) (n0 : Nat) (O0 : Old Z n0 h0) (P0 : Exa Z h0 x0 "java/lang/String") (P1 : Fld Z h0 x0 "java/lang/String" "value" "[B" (.ref t)) (P2 : Fld Z h0 x0 "java/lang/String" "coder" "B" (.int 0)) (P3 : Arv Z h0 t kb .byte N vs dv) :
    MetFree l own_m6 (head1 (Jvm.Cond.code own_m6 jdk_42_method_54_code 1 (some .int) :: ws) ({ frames := 1, cells := 0, slots := 0, locals := 13 } : Room)) (fun a U => a = #[(.ref x0)] ∧ Z.Warmed39 U.vm ∧ U.heap = h0) (fun _ _ _ _ _ => True) (fun _ U o U' => ∃ v L, o = .returned v ∧ (own_Qint N) h0 n0 v U'.heap L ∧ FrameEnd U o U' L ({ frames := 1, cells := 0, slots := 0, locals := 13 } : Room).cells ({ frames := 1, cells := 0, slots := 0, locals := 13 } : Room).slots) := by
  refine MetFree.of_bodySF (plainFor_of_name pn_0) hisR ?_
  intro p e s m args below meth cD s₁ Bd hml0 hP hK
  obtain ⟨rfl, hZ, hh⟩ := hP
  have hw := G.1
  have hx := Bd.exec
  have hby := Bd.bytes
  have hml : cD.maxLocals = 1 := hml0
  have hown : s.vm.findClass "java/lang/String" = some m.cls := findClass_of_methodNamed Bd.named
  have hnm := (name_of_methodNamed Bd.named Bd.method).1
  have hlk := Bd.notSynchronized
  have X0 : Stand p l e ({ frames := 1, cells := 0, slots := 0, locals := 13 } : Room) s m #[(.ref x0)] below meth cD s₁ [] 0 0 := Stand.of_body Bd
  have e0 : s₁.heap = h0 := by rw [← hh, Bd.state]; rfl
  have lt0 := own_ltN' P0.lt
  have lt1 := own_ltN' P1.lt
  have lt2 := own_ltN' P2.lt
  have lt3 := own_ltN' P3.lt
  have K0 : Keep h0 h0 [] := Keep.refl h0 _
  have Z0 := own_old_le O0
  have N0 := Fr.nil n0
  refine OwnEnd.start (g' := (mkF m 0 #[.val (.ref x0)] [])) (own_efln0 m x0) ?_
  refine OwnEnd.of (S' := s₁.setTop (mkF m 1 #[.val (.ref x0)] [(.ref x0)])) (fun _ kK => XS.aloadN X0.here hx rfl (hb hby d6_0) rfl rfl kK) ?_
  obtain ⟨T1, X1, e1, st1⟩ := getF X0 hx hZ hown (host := "") (Or.inl (own_w G 25 rfl)) Via.refl e0 P1 (g := (mkF m 1 #[.val (.ref x0)] [(.ref x0)])) rfl rfl (hb hby d6_1)
  refine OwnEnd.of (S' := T1.setTop (mkF m 4 #[.val (.ref x0)] [(.ref t)])) st1 ?_
  obtain ⟨cl2, Ar2, q2, S2, N2', H2, G2⟩ := id P3
  refine OwnEnd.of (S' := T1.setTop (mkF m 5 #[.val (.ref x0)] [(.int N)])) (fun _ kK => X1.arraylength hx (by rw [e1]; exact Ar2.1) (State.isArrayOf_alike hZ.alike Ar2.2.1) (g := (mkF m 4 #[.val (.ref x0)] [(.ref t)])) rfl rfl (hb hby d6_4) _ (by rw [len_of S2 N2']; exact kK)) ?_
  refine OwnEnd.of (S' := T1.setTop (mkF m 6 #[.val (.ref x0)] [(.ref x0), (.int N)])) (fun _ kK => XS.aloadN X1.here hx rfl (hb hby d6_5) rfl rfl kK) ?_
  obtain ⟨cq3, kq3, q3a, q3b, q3c⟩ := isOf hZ e1 P0
  obtain ⟨_, _, ⟨T3, L3, k3, n3⟩, -, X3, ⟨Lc3, hQ3, l3, y3, z3⟩, st3⟩ := X1.virtualBack hx (y := own_m5) (z := own_m5) hown (mvT hZ (own_w G 58 rfl)) (mvT hZ (own_w G 59 rfl)) (notFace_of_selects (args := #[]) (mvT hZ (own_w G 61 rfl))) (mvT hZ (own_w G 61 rfl)) (mvT hZ (own_w G 60 rfl)) (by decide) (backOf (W := 1) (rmcdr0 l Z a0 G [] x0 h0 n0 O0 P2) hZ (own_w G 62 rfl) (own_w G 8 rfl) (by decide) (by decide)) q3a q3c (g := (mkF m 6 #[.val (.ref x0)] [(.ref x0), (.int N)])) rfl (by rw [hml]; rfl) (Steps.refl _) (argsL := []) (rest := [(.int N)]) (lenOf pd_2 rfl) rfl (by show 2 * 0 + _ ≤ _; exact Nat.le_of_eq rfl) (hb hby d6_6) (fun _ _ => ⟨rfl, e1, (by decide : 0 + 0 ≤ _), (by decide : 0 + 0 ≤ _)⟩)
  dsimp only [Pt.U, Pt.locs, Pt.cells, Pt.slots] at X3 l3 y3 z3 st3 hQ3
  subst l3 y3 z3
  obtain ⟨rfl, N3q, eh3⟩ := hQ3
  have N3 := Fr.app N0 N3q
  refine OwnEnd.tr (S' := T3.setTop (mkF m 9 #[.val (.ref x0)] [(.int 0), (.int N)])) st3 ?_
  refine OwnEnd.of (S' := T3.setTop (mkF m 10 #[.val (.ref x0)] [(.int (N >>> ((0 : Int32) &&& 31)))])) (fun _ kK => XS.ishr X3.here hx rfl (hb hby d6_9) rfl kK) ?_
  refine OwnEnd.ret X3 (v := (some (.int (N >>> ((0 : Int32) &&& 31))))) (fun h => by rw [Bd.returns] at h; cases h) hlk (fun fs hr => retOut X3 hx Bd.returns rfl (Or.inl ⟨rfl, Or.inl rfl, _, rfl⟩) (hb hby d6_10) hr) (by decide) (by decide) (Q := (own_Qint N) h0 n0) eh3 ?_
  exact ⟨(congrArg (fun z => some (Value.int z)) (own_shr0 N)), N3, rfl⟩

theorem own_efcl (m : MethodId) (t : Addr) (i : Int32) : entryFrame m #[(.ref t), (.int i)] 2 = mkF m 0 #[.val (.ref t), .val (.int i)] [] := by first | (simp [entryFrame, mkF, argsToLocals, Value.category]; done) | rfl
set_option maxRecDepth 65536 in
set_option maxHeartbeats 40000000 in
theorem rmcl (l : Launch) (Z : State) (a0 : Array Value) (G : OwnG Z a0) (ws : List Jvm.Cond) (t : Addr) (kb : ClassId) (N : Int32) (vs : List Value) (dv : Value) (i : Int32) (c : Int32) (h0 : Heap) (n0 : Nat) (O0 : Old Z n0 h0) (P0 : Arv Z h0 t kb .byte N vs dv) (P1 : ¬ i < (0 : Int32)) (P2 : i < N) (P3 : vs.getD i.toNatClampNeg dv = (.int (StrChars.lo8 c))) (P4 : ¬ c < (0 : Int32) ∧ ¬ (255 : Int32) < c) :
    MetFree l own_m7 (head1 (Jvm.Cond.code own_m7 jdk_43_method_2_code 2 (some .char) :: ws) ({ frames := 2, cells := 0, slots := 0, locals := 27 } : Room)) (fun a U => a = #[(.ref t), (.int i)] ∧ Z.Warmed39 U.vm ∧ U.heap = h0) (fun _ _ _ _ _ => True) (fun _ U o U' => ∃ v L, o = .returned v ∧ (own_Qint c) h0 n0 v U'.heap L ∧ FrameEnd U o U' L ({ frames := 2, cells := 0, slots := 0, locals := 27 } : Room).cells ({ frames := 2, cells := 0, slots := 0, locals := 27 } : Room).slots) := by
  refine MetFree.of_bodySF (plainFor_of_name pn_2) hisR ?_
  intro p e s m args below meth cD s₁ Bd hml0 hP hK
  obtain ⟨rfl, hZ, hh⟩ := hP
  have hw := G.1
  have hx := Bd.exec
  have hby := Bd.bytes
  have hml : cD.maxLocals = 2 := hml0
  have hown : s.vm.findClass "java/lang/StringLatin1" = some m.cls := findClass_of_methodNamed Bd.named
  have hnm := (name_of_methodNamed Bd.named Bd.method).1
  have hlk := Bd.notSynchronized
  have X0 : Stand p l e ({ frames := 2, cells := 0, slots := 0, locals := 27 } : Room) s m #[(.ref t), (.int i)] below meth cD s₁ [] 0 0 := Stand.of_body Bd
  have e0 : s₁.heap = h0 := by rw [← hh, Bd.state]; rfl
  have lt0 := own_ltN' P0.lt
  have K0 : Keep h0 h0 [] := Keep.refl h0 _
  have Z0 := own_old_le O0
  have N0 := Fr.nil n0
  refine OwnEnd.start (g' := (mkF m 0 #[.val (.ref t), .val (.int i)] [])) (own_efcl m t i) ?_
  refine OwnEnd.of (S' := s₁.setTop (mkF m 2 #[.val (.ref t), .val (.int i)] [(.ref t), (.int i)])) (fun _ kK => XS.iloadN X0.here hx rfl (hb hby d7_0) rfl (XS.aloadN X0.here hx rfl (hb hby d7_1) rfl rfl kK)) ?_
  obtain ⟨cl1, Ar1, q1, S1, N1', H1, G1⟩ := id P0
  refine OwnEnd.of (S' := s₁.setTop (mkF m 3 #[.val (.ref t), .val (.int i)] [(.int N), (.int i)])) (fun _ kK => X0.arraylength hx (by rw [e0]; exact Ar1.1) (State.isArrayOf_alike hZ.alike Ar1.2.1) (g := (mkF m 2 #[.val (.ref t), .val (.int i)] [(.ref t), (.int i)])) rfl rfl (hb hby d7_2) _ (by rw [len_of S1 N1']; exact kK)) ?_
  obtain ⟨_, _, ⟨T2, L2, k2, n2⟩, -, X2, ⟨Lc2, hQ2, l2, y2, z2⟩, st2⟩ := Jvm.LawKit.callS X0 hx (y := own_m3) hown (mvT hZ (own_w G 106 rfl)) (mvT hZ (own_w G 107 rfl)) (mvT hZ (own_w G 8 rfl)) (mvT hZ (own_w G 108 rfl)) (by decide) (backOf (W := 0) (rmsk l Z a0 G [] i N h0 n0 O0 P1 P2) hZ (own_w G 108 rfl) (own_w G 8 rfl) (by decide) (by decide)) (g := (mkF m 3 #[.val (.ref t), .val (.int i)] [(.int N), (.int i)])) rfl (by rw [hml]; rfl) (argsL := [(.int i), (.int N)]) (rest := []) (lenOf pd_3 rfl) rfl (by show 2 * 0 + _ ≤ _; exact Nat.le_of_eq rfl) (hb hby d7_3) (fun _ _ => ⟨rfl, e0, (by decide : 0 + 0 ≤ _), (by decide : 0 + 0 ≤ _)⟩)
  dsimp only [Pt.U, Pt.locs, Pt.cells, Pt.slots] at X2 l2 y2 z2 st2 hQ2
  subst l2 y2 z2
  obtain ⟨rfl, N2q, eh2⟩ := hQ2
  have N2 := Fr.app N0 N2q
  refine OwnEnd.of (S' := T2.setTop (mkF m 6 #[.val (.ref t), .val (.int i)] [])) st2 ?_
  refine OwnEnd.of (S' := T2.setTop (mkF m 8 #[.val (.ref t), .val (.int i)] [(.int i), (.ref t)])) (fun _ kK => XS.aloadN X2.here hx rfl (hb hby d7_6) rfl rfl (XS.iloadN X2.here hx rfl (hb hby d7_7) rfl kK)) ?_
  obtain ⟨cl3, Ar3, q3, S3, N3', H3, G3⟩ := id P0
  have hin4 : ¬ (i < 0 ∨ cl3.slots.size ≤ (i).toNatClampNeg) := inb_of S3 ⟨P1, P2⟩
  refine OwnEnd.of (S' := T2.setTop (mkF m 9 #[.val (.ref t), .val (.int i)] [(.int (StrChars.lo8 c))])) (fun _ kK => X2.baloadBytes hx (j := i) (v := (.int (StrChars.lo8 c))) (by rw [eh2]; exact Ar3.1) (State.isArrayOf_alike hZ.alike Ar3.2.1) Ar3.2.2 hin4 (Has.at H3 hin4 (P3)) (g := (mkF m 8 #[.val (.ref t), .val (.int i)] [(.int i), (.ref t)])) rfl rfl (hb hby d7_8) _ kK) ?_
  refine OwnEnd.of (S' := T2.setTop (mkF m 14 #[.val (.ref t), .val (.int i)] [(.int (nar .char ((StrChars.lo8 c) &&& (255 : Int32))))])) (fun _ kK => XS.sipush X2.here hx rfl (hb hby d7_9) (XS.iand X2.here hx rfl (hb hby d7_12) rfl (XS.i2c X2.here hx rfl (hb hby d7_13) rfl kK))) ?_
  refine OwnEnd.ret X2 (v := (some (.int (nar .char (nar .char ((StrChars.lo8 c) &&& (255 : Int32))))))) (fun h => by rw [Bd.returns] at h; cases h) hlk (fun fs hr => retN X2 hx (t := .char) Bd.returns (by simp) (hb hby d7_14) hr) (by decide) (by decide) (Q := (own_Qint c) h0 n0) eh2 ?_
  exact ⟨(congrArg (fun z => some (Value.int z)) (own_lat P4.1 P4.2)), N2, rfl⟩

theorem own_efcA0 (m : MethodId) (x0 : Addr) (i : Int32) : entryFrame m #[(.ref x0), (.int i)] 2 = mkF m 0 #[.val (.ref x0), .val (.int i)] [] := by first | (simp [entryFrame, mkF, argsToLocals, Value.category]; done) | rfl
set_option maxRecDepth 65536 in
set_option maxHeartbeats 40000000 in
theorem rmcA0 (l : Launch) (Z : State) (a0 : Array Value) (G : OwnG Z a0) (ws : List Jvm.Cond) (x0 : Addr) (t : Addr) (kb : ClassId) (N : Int32) (vs : List Value) (dv : Value) (i : Int32) (c : Int32) (h0 : Heap) (n0 : Nat) (O0 : Old Z n0 h0) (P0 : Exa Z h0 x0 "java/lang/String") (P1 : Fld Z h0 x0 "java/lang/String" "value" "[B" (.ref t)) (P2 : Fld Z h0 x0 "java/lang/String" "coder" "B" (.int 0)) (P3 : Arv Z h0 t kb .byte N vs dv) (P4 : ¬ i < (0 : Int32)) (P5 : i < N) (P6 : vs.getD i.toNatClampNeg dv = (.int (StrChars.lo8 c))) (P7 : ¬ c < (0 : Int32) ∧ ¬ (255 : Int32) < c) :
    MetFree l own_m8 (head1 (Jvm.Cond.code own_m8 jdk_42_method_56_code 2 (some .char) :: ws) ({ frames := 3, cells := 0, slots := 0, locals := 40 } : Room)) (fun a U => a = #[(.ref x0), (.int i)] ∧ Z.Warmed39 U.vm ∧ U.heap = h0) (fun _ _ _ _ _ => True) (fun _ U o U' => ∃ v L, o = .returned v ∧ (own_Qint c) h0 n0 v U'.heap L ∧ FrameEnd U o U' L ({ frames := 3, cells := 0, slots := 0, locals := 40 } : Room).cells ({ frames := 3, cells := 0, slots := 0, locals := 40 } : Room).slots) := by
  refine MetFree.of_bodySF (plainFor_of_name pn_0) hisR ?_
  intro p e s m args below meth cD s₁ Bd hml0 hP hK
  obtain ⟨rfl, hZ, hh⟩ := hP
  have hw := G.1
  have hx := Bd.exec
  have hby := Bd.bytes
  have hml : cD.maxLocals = 2 := hml0
  have hown : s.vm.findClass "java/lang/String" = some m.cls := findClass_of_methodNamed Bd.named
  have hnm := (name_of_methodNamed Bd.named Bd.method).1
  have hlk := Bd.notSynchronized
  have X0 : Stand p l e ({ frames := 3, cells := 0, slots := 0, locals := 40 } : Room) s m #[(.ref x0), (.int i)] below meth cD s₁ [] 0 0 := Stand.of_body Bd
  have e0 : s₁.heap = h0 := by rw [← hh, Bd.state]; rfl
  have lt0 := own_ltN' P0.lt
  have lt1 := own_ltN' P1.lt
  have lt2 := own_ltN' P2.lt
  have lt3 := own_ltN' P3.lt
  have K0 : Keep h0 h0 [] := Keep.refl h0 _
  have Z0 := own_old_le O0
  have N0 := Fr.nil n0
  refine OwnEnd.start (g' := (mkF m 0 #[.val (.ref x0), .val (.int i)] [])) (own_efcA0 m x0 i) ?_
  refine OwnEnd.of (S' := s₁.setTop (mkF m 1 #[.val (.ref x0), .val (.int i)] [(.ref x0)])) (fun _ kK => XS.aloadN X0.here hx rfl (hb hby d8_0) rfl rfl kK) ?_
  obtain ⟨cq1, kq1, q1a, q1b, q1c⟩ := isOf hZ e0 P0
  obtain ⟨_, _, ⟨T1, L1, k1, n1⟩, -, X1, ⟨Lc1, hQ1, l1, y1, z1⟩, st1⟩ := X0.virtualBack hx (y := own_m4) (z := own_m4) hown (mvT hZ (own_w G 47 rfl)) (mvT hZ (own_w G 48 rfl)) (notFace_of_selects (args := #[]) (mvT hZ (own_w G 50 rfl))) (mvT hZ (own_w G 50 rfl)) (mvT hZ (own_w G 49 rfl)) (by decide) (backOf (W := 0) (rmil0 l Z a0 G [] x0 h0 n0 O0 P2) hZ (own_w G 51 rfl) (own_w G 8 rfl) (by decide) (by decide)) q1a q1c (g := (mkF m 1 #[.val (.ref x0), .val (.int i)] [(.ref x0)])) rfl (by rw [hml]; rfl) (Steps.refl _) (argsL := []) (rest := []) (lenOf pd_4 rfl) rfl (by show 2 * 0 + _ ≤ _; exact Nat.le_of_eq rfl) (hb hby d8_1) (fun _ _ => ⟨rfl, e0, (by decide : 0 + 0 ≤ _), (by decide : 0 + 0 ≤ _)⟩)
  dsimp only [Pt.U, Pt.locs, Pt.cells, Pt.slots] at X1 l1 y1 z1 st1 hQ1
  subst l1 y1 z1
  obtain ⟨rfl, N1q, eh1⟩ := hQ1
  have N1 := Fr.app N0 N1q
  refine OwnEnd.tr (S' := T1.setTop (mkF m 4 #[.val (.ref x0), .val (.int i)] [(.int 1)])) st1 ?_
  refine OwnEnd.of (S' := T1.setTop (mkF m 8 #[.val (.ref x0), .val (.int i)] [(.ref x0)])) (fun _ kK => XS.ifNo X1.here hx rfl (hb hby d8_4) rfl ((if0 _ _).trans (feq ((by decide : ¬ ((1 : Int32) = (0 : Int32))))).1) (XS.aloadN X1.here hx rfl (hb hby d8_7) rfl rfl kK)) ?_
  obtain ⟨T2, X2, e2, st2⟩ := getF X1 hx hZ hown (host := "") (Or.inl (own_w G 25 rfl)) Via.refl eh1 P1 (g := (mkF m 8 #[.val (.ref x0), .val (.int i)] [(.ref x0)])) rfl rfl (hb hby d8_8)
  refine OwnEnd.of (S' := T2.setTop (mkF m 11 #[.val (.ref x0), .val (.int i)] [(.ref t)])) st2 ?_
  refine OwnEnd.of (S' := T2.setTop (mkF m 12 #[.val (.ref x0), .val (.int i)] [(.int i), (.ref t)])) (fun _ kK => XS.iloadN X2.here hx rfl (hb hby d8_11) rfl kK) ?_
  obtain ⟨_, _, ⟨T3, L3, k3, n3⟩, -, X3, ⟨Lc3, hQ3, l3, y3, z3⟩, st3⟩ := Jvm.LawKit.callS X2 hx (y := own_m7) hown (mvT hZ (own_w G 103 rfl)) (mvT hZ (own_w G 104 rfl)) (mvT hZ (own_w G 65 rfl)) (mvT hZ (own_w G 105 rfl)) (by decide) (backOf (W := 0) (rmcl l Z a0 G [] t kb N vs dv i c h0 n0 O0 P3 P4 P5 P6 P7) hZ (own_w G 105 rfl) (own_w G 65 rfl) (by decide) (by decide)) (g := (mkF m 12 #[.val (.ref x0), .val (.int i)] [(.int i), (.ref t)])) rfl (by rw [hml]; rfl) (argsL := [(.ref t), (.int i)]) (rest := []) (lenOf pd_5 rfl) rfl (by show 2 * 0 + _ ≤ _; exact Nat.le_of_eq rfl) (hb hby d8_12) (fun _ _ => ⟨rfl, e2, (by decide : 0 + 0 ≤ _), (by decide : 0 + 0 ≤ _)⟩)
  dsimp only [Pt.U, Pt.locs, Pt.cells, Pt.slots] at X3 l3 y3 z3 st3 hQ3
  subst l3 y3 z3
  obtain ⟨rfl, N3q, eh3⟩ := hQ3
  have N3 := Fr.app N1 N3q
  refine OwnEnd.of (S' := T3.setTop (mkF m 15 #[.val (.ref x0), .val (.int i)] [(.int c)])) st3 ?_
  refine OwnEnd.ret X3 (v := (some (.int (nar .char c)))) (fun h => by rw [Bd.returns] at h; cases h) hlk (fun fs hr => retN X3 hx (t := .char) Bd.returns (by simp) (hb hby d8_15) hr) (by decide) (by decide) (Q := (own_Qint c) h0 n0) eh3 ?_
  exact ⟨(congrArg (fun z => some (Value.int z)) (own_narc P7.1 (own_255 P7.2))), N3, rfl⟩

theorem own_efle (m : MethodId) (c : Int32) : entryFrame m #[(.int c)] 1 = mkF m 0 #[.val (.int c)] [] := by first | (simp [entryFrame, mkF, argsToLocals, Value.category]; done) | rfl
set_option maxRecDepth 65536 in
set_option maxHeartbeats 40000000 in
theorem rmle (l : Launch) (Z : State) (a0 : Array Value) (G : OwnG Z a0) (ws : List Jvm.Cond) (c : Int32) (h0 : Heap) (n0 : Nat) (O0 : Old Z n0 h0)  :
    MetFree l own_m9 (head1 (Jvm.Cond.code own_m9 method_5_code 1 (some .boolean) :: ws) ({ frames := 0, cells := 0, slots := 0, locals := 0 } : Room)) (fun a U => a = #[(.int c)] ∧ Z.Warmed39 U.vm ∧ U.heap = h0) (fun _ _ _ _ _ => True) (fun _ U o U' => ∃ v L, o = .returned v ∧ (own_Qint (own_letter c)) h0 n0 v U'.heap L ∧ FrameEnd U o U' L ({ frames := 0, cells := 0, slots := 0, locals := 0 } : Room).cells ({ frames := 0, cells := 0, slots := 0, locals := 0 } : Room).slots) := by
  refine MetFree.of_bodySF (plainFor_of_name pn_3) hisR ?_
  intro p e s m args below meth cD s₁ Bd hml0 hP hK
  obtain ⟨rfl, hZ, hh⟩ := hP
  have hw := G.1
  have hx := Bd.exec
  have hby := Bd.bytes
  have hml : cD.maxLocals = 1 := hml0
  have hown : s.vm.findClass "com/example/vett/vett/model/IrisIsAbsolutePinLaw" = some m.cls := findClass_of_methodNamed Bd.named
  have hnm := (name_of_methodNamed Bd.named Bd.method).1
  have hlk := Bd.notSynchronized
  have X0 : Stand p l e ({ frames := 0, cells := 0, slots := 0, locals := 0 } : Room) s m #[(.int c)] below meth cD s₁ [] 0 0 := Stand.of_body Bd
  have e0 : s₁.heap = h0 := by rw [← hh, Bd.state]; rfl
  have K0 : Keep h0 h0 [] := Keep.refl h0 _
  have Z0 := own_old_le O0
  have N0 := Fr.nil n0
  refine OwnEnd.start (g' := (mkF m 0 #[.val (.int c)] [])) (own_efle m c) ?_
  refine OwnEnd.of (S' := s₁.setTop (mkF m 3 #[.val (.int c)] [(.int 65), (.int c)])) (fun _ kK => XS.iloadN X0.here hx rfl (hb hby d9_0) rfl (XS.bipush X0.here hx rfl (hb hby d9_1) kK)) ?_
  rcases Decidable.em (c < (65 : Int32)) with hc1 | hc1
  · refine OwnEnd.of (S' := s₁.setTop (mkF m 15 #[.val (.int c)] [(.int 97), (.int c)])) (fun _ kK => XS.icmpYes X0.here hx rfl (pc0 := 3) (pc' := 12) rfl (hb hby d9_3) rfl (tlt (hc1)).1 (by decide) (by decide) (XS.iloadN X0.here hx rfl (hb hby d9_12) rfl (XS.bipush X0.here hx rfl (hb hby d9_13) kK))) ?_
    rcases Decidable.em (c < (97 : Int32)) with hc2 | hc2
    · refine OwnEnd.of (S' := s₁.setTop (mkF m 29 #[.val (.int c)] [(.int 0)])) (fun _ kK => XS.icmpYes X0.here hx rfl (pc0 := 15) (pc' := 28) rfl (hb hby d9_15) rfl (tlt (hc2)).1 (by decide) (by decide) (XS.iconst X0.here hx rfl (hb hby d9_28) kK)) ?_
      refine OwnEnd.ret X0 (v := (some (.int (nar .boolean (0 : Int32))))) (fun h => by rw [Bd.returns] at h; cases h) hlk (fun fs hr => retN X0 hx (t := .boolean) Bd.returns (by simp) (hb hby d9_29) hr) (by decide) (by decide) (Q := (own_Qint (own_letter c)) h0 n0) e0 ?_
      exact ⟨(by show some (Value.int (nar .boolean (0 : Int32))) = _; simp [own_letter, nar, hc1, hc2]), N0, rfl⟩
    · refine OwnEnd.of (S' := s₁.setTop (mkF m 21 #[.val (.int c)] [(.int 122), (.int c)])) (fun _ kK => XS.icmpNo X0.here hx rfl (hb hby d9_15) rfl (flt (hc2)).1 (XS.iloadN X0.here hx rfl (hb hby d9_18) rfl (XS.bipush X0.here hx rfl (hb hby d9_19) kK))) ?_
      rcases Decidable.em ((122 : Int32) < c) with hc3 | hc3
      · refine OwnEnd.of (S' := s₁.setTop (mkF m 29 #[.val (.int c)] [(.int 0)])) (fun _ kK => XS.icmpYes X0.here hx rfl (pc0 := 21) (pc' := 28) rfl (hb hby d9_21) rfl (tlt (hc3)).2.2.1 (by decide) (by decide) (XS.iconst X0.here hx rfl (hb hby d9_28) kK)) ?_
        refine OwnEnd.ret X0 (v := (some (.int (nar .boolean (0 : Int32))))) (fun h => by rw [Bd.returns] at h; cases h) hlk (fun fs hr => retN X0 hx (t := .boolean) Bd.returns (by simp) (hb hby d9_29) hr) (by decide) (by decide) (Q := (own_Qint (own_letter c)) h0 n0) e0 ?_
        exact ⟨(by show some (Value.int (nar .boolean (0 : Int32))) = _; simp [own_letter, nar, hc1, hc2, hc3]), N0, rfl⟩
      · refine OwnEnd.of (S' := s₁.setTop (mkF m 29 #[.val (.int c)] [(.int 1)])) (fun _ kK => XS.icmpNo X0.here hx rfl (hb hby d9_21) rfl (flt (hc3)).2.2.1 (XS.iconst X0.here hx rfl (hb hby d9_24) (XS.goto X0.here hx rfl (pc0 := 25) (pc' := 29) rfl (hb hby d9_25) (by decide) (by decide) kK))) ?_
        refine OwnEnd.ret X0 (v := (some (.int (nar .boolean (1 : Int32))))) (fun h => by rw [Bd.returns] at h; cases h) hlk (fun fs hr => retN X0 hx (t := .boolean) Bd.returns (by simp) (hb hby d9_29) hr) (by decide) (by decide) (Q := (own_Qint (own_letter c)) h0 n0) e0 ?_
        exact ⟨(by show some (Value.int (nar .boolean (1 : Int32))) = _; simp [own_letter, nar, hc1, hc2, hc3]), N0, rfl⟩
  · refine OwnEnd.of (S' := s₁.setTop (mkF m 9 #[.val (.int c)] [(.int 90), (.int c)])) (fun _ kK => XS.icmpNo X0.here hx rfl (hb hby d9_3) rfl (flt (hc1)).1 (XS.iloadN X0.here hx rfl (hb hby d9_6) rfl (XS.bipush X0.here hx rfl (hb hby d9_7) kK))) ?_
    rcases Decidable.em ((90 : Int32) < c) with hc4 | hc4
    · refine OwnEnd.of (S' := s₁.setTop (mkF m 15 #[.val (.int c)] [(.int 97), (.int c)])) (fun _ kK => XS.icmpNo X0.here hx rfl (hb hby d9_9) rfl (tlt (hc4)).2.2.2 (XS.iloadN X0.here hx rfl (hb hby d9_12) rfl (XS.bipush X0.here hx rfl (hb hby d9_13) kK))) ?_
      rcases Decidable.em (c < (97 : Int32)) with hc5 | hc5
      · refine OwnEnd.of (S' := s₁.setTop (mkF m 29 #[.val (.int c)] [(.int 0)])) (fun _ kK => XS.icmpYes X0.here hx rfl (pc0 := 15) (pc' := 28) rfl (hb hby d9_15) rfl (tlt (hc5)).1 (by decide) (by decide) (XS.iconst X0.here hx rfl (hb hby d9_28) kK)) ?_
        refine OwnEnd.ret X0 (v := (some (.int (nar .boolean (0 : Int32))))) (fun h => by rw [Bd.returns] at h; cases h) hlk (fun fs hr => retN X0 hx (t := .boolean) Bd.returns (by simp) (hb hby d9_29) hr) (by decide) (by decide) (Q := (own_Qint (own_letter c)) h0 n0) e0 ?_
        exact ⟨(by show some (Value.int (nar .boolean (0 : Int32))) = _; simp [own_letter, nar, hc1, hc4, hc5]), N0, rfl⟩
      · refine OwnEnd.of (S' := s₁.setTop (mkF m 21 #[.val (.int c)] [(.int 122), (.int c)])) (fun _ kK => XS.icmpNo X0.here hx rfl (hb hby d9_15) rfl (flt (hc5)).1 (XS.iloadN X0.here hx rfl (hb hby d9_18) rfl (XS.bipush X0.here hx rfl (hb hby d9_19) kK))) ?_
        rcases Decidable.em ((122 : Int32) < c) with hc6 | hc6
        · refine OwnEnd.of (S' := s₁.setTop (mkF m 29 #[.val (.int c)] [(.int 0)])) (fun _ kK => XS.icmpYes X0.here hx rfl (pc0 := 21) (pc' := 28) rfl (hb hby d9_21) rfl (tlt (hc6)).2.2.1 (by decide) (by decide) (XS.iconst X0.here hx rfl (hb hby d9_28) kK)) ?_
          refine OwnEnd.ret X0 (v := (some (.int (nar .boolean (0 : Int32))))) (fun h => by rw [Bd.returns] at h; cases h) hlk (fun fs hr => retN X0 hx (t := .boolean) Bd.returns (by simp) (hb hby d9_29) hr) (by decide) (by decide) (Q := (own_Qint (own_letter c)) h0 n0) e0 ?_
          exact ⟨(by show some (Value.int (nar .boolean (0 : Int32))) = _; simp [own_letter, nar, hc1, hc4, hc5, hc6]), N0, rfl⟩
        · refine OwnEnd.of (S' := s₁.setTop (mkF m 29 #[.val (.int c)] [(.int 1)])) (fun _ kK => XS.icmpNo X0.here hx rfl (hb hby d9_21) rfl (flt (hc6)).2.2.1 (XS.iconst X0.here hx rfl (hb hby d9_24) (XS.goto X0.here hx rfl (pc0 := 25) (pc' := 29) rfl (hb hby d9_25) (by decide) (by decide) kK))) ?_
          refine OwnEnd.ret X0 (v := (some (.int (nar .boolean (1 : Int32))))) (fun h => by rw [Bd.returns] at h; cases h) hlk (fun fs hr => retN X0 hx (t := .boolean) Bd.returns (by simp) (hb hby d9_29) hr) (by decide) (by decide) (Q := (own_Qint (own_letter c)) h0 n0) e0 ?_
          exact ⟨(by show some (Value.int (nar .boolean (1 : Int32))) = _; simp [own_letter, nar, hc1, hc4, hc5, hc6]), N0, rfl⟩
    · refine OwnEnd.of (S' := s₁.setTop (mkF m 29 #[.val (.int c)] [(.int 1)])) (fun _ kK => XS.icmpYes X0.here hx rfl (pc0 := 9) (pc' := 24) rfl (hb hby d9_9) rfl (flt (hc4)).2.2.2 (by decide) (by decide) (XS.iconst X0.here hx rfl (hb hby d9_24) (XS.goto X0.here hx rfl (pc0 := 25) (pc' := 29) rfl (hb hby d9_25) (by decide) (by decide) kK))) ?_
      refine OwnEnd.ret X0 (v := (some (.int (nar .boolean (1 : Int32))))) (fun h => by rw [Bd.returns] at h; cases h) hlk (fun fs hr => retN X0 hx (t := .boolean) Bd.returns (by simp) (hb hby d9_29) hr) (by decide) (by decide) (Q := (own_Qint (own_letter c)) h0 n0) e0 ?_
      exact ⟨(by show some (Value.int (nar .boolean (1 : Int32))) = _; simp [own_letter, nar, hc1, hc4]), N0, rfl⟩

theorem own_efmh (m : MethodId) (c : Int32) : entryFrame m #[(.int c)] 1 = mkF m 0 #[.val (.int c)] [] := by first | (simp [entryFrame, mkF, argsToLocals, Value.category]; done) | rfl
set_option maxRecDepth 65536 in
set_option maxHeartbeats 40000000 in
theorem rmmh (l : Launch) (Z : State) (a0 : Array Value) (G : OwnG Z a0) (ws : List Jvm.Cond) (c : Int32) (h0 : Heap) (n0 : Nat) (O0 : Old Z n0 h0)  :
    MetFree l own_m10 (head1 (Jvm.Cond.code own_m10 method_7_code 1 (some .boolean) :: ws) ({ frames := 0, cells := 0, slots := 0, locals := 0 } : Room)) (fun a U => a = #[(.int c)] ∧ Z.Warmed39 U.vm ∧ U.heap = h0) (fun _ _ _ _ _ => True) (fun _ U o U' => ∃ v L, o = .returned v ∧ (own_Qint (own_hold c)) h0 n0 v U'.heap L ∧ FrameEnd U o U' L ({ frames := 0, cells := 0, slots := 0, locals := 0 } : Room).cells ({ frames := 0, cells := 0, slots := 0, locals := 0 } : Room).slots) := by
  refine MetFree.of_bodySF (plainFor_of_name pn_3) hisR ?_
  intro p e s m args below meth cD s₁ Bd hml0 hP hK
  obtain ⟨rfl, hZ, hh⟩ := hP
  have hw := G.1
  have hx := Bd.exec
  have hby := Bd.bytes
  have hml : cD.maxLocals = 1 := hml0
  have hown : s.vm.findClass "com/example/vett/vett/model/IrisIsAbsolutePinLaw" = some m.cls := findClass_of_methodNamed Bd.named
  have hnm := (name_of_methodNamed Bd.named Bd.method).1
  have hlk := Bd.notSynchronized
  have X0 : Stand p l e ({ frames := 0, cells := 0, slots := 0, locals := 0 } : Room) s m #[(.int c)] below meth cD s₁ [] 0 0 := Stand.of_body Bd
  have e0 : s₁.heap = h0 := by rw [← hh, Bd.state]; rfl
  have K0 : Keep h0 h0 [] := Keep.refl h0 _
  have Z0 := own_old_le O0
  have N0 := Fr.nil n0
  refine OwnEnd.start (g' := (mkF m 0 #[.val (.int c)] [])) (own_efmh m c) ?_
  refine OwnEnd.of (S' := s₁.setTop (mkF m 3 #[.val (.int c)] [(.int 32), (.int c)])) (fun _ kK => XS.iloadN X0.here hx rfl (hb hby d10_0) rfl (XS.bipush X0.here hx rfl (hb hby d10_1) kK)) ?_
  rcases Decidable.em ((32 : Int32) < c) with hc1 | hc1
  · refine OwnEnd.of (S' := s₁.setTop (mkF m 9 #[.val (.int c)] [(.int 60), (.int c)])) (fun _ kK => XS.icmpNo X0.here hx rfl (hb hby d10_3) rfl (tlt (hc1)).2.2.2 (XS.iloadN X0.here hx rfl (hb hby d10_6) rfl (XS.bipush X0.here hx rfl (hb hby d10_7) kK))) ?_
    rcases Decidable.em (c = (60 : Int32)) with hc2 | hc2
    · refine OwnEnd.of (S' := s₁.setTop (mkF m 65 #[.val (.int c)] [(.int 0)])) (fun _ kK => XS.icmpYes X0.here hx rfl (pc0 := 9) (pc' := 64) rfl (hb hby d10_9) rfl (teq (hc2)).1 (by decide) (by decide) (XS.iconst X0.here hx rfl (hb hby d10_64) kK)) ?_
      refine OwnEnd.ret X0 (v := (some (.int (nar .boolean (0 : Int32))))) (fun h => by rw [Bd.returns] at h; cases h) hlk (fun fs hr => retN X0 hx (t := .boolean) Bd.returns (by simp) (hb hby d10_65) hr) (by decide) (by decide) (Q := (own_Qint (own_hold c)) h0 n0) e0 ?_
      exact ⟨(by show some (Value.int (nar .boolean (0 : Int32))) = _; simp [own_hold, nar, hc1, hc2]), N0, rfl⟩
    · refine OwnEnd.of (S' := s₁.setTop (mkF m 15 #[.val (.int c)] [(.int 62), (.int c)])) (fun _ kK => XS.icmpNo X0.here hx rfl (hb hby d10_9) rfl (feq (hc2)).1 (XS.iloadN X0.here hx rfl (hb hby d10_12) rfl (XS.bipush X0.here hx rfl (hb hby d10_13) kK))) ?_
      rcases Decidable.em (c = (62 : Int32)) with hc3 | hc3
      · refine OwnEnd.of (S' := s₁.setTop (mkF m 65 #[.val (.int c)] [(.int 0)])) (fun _ kK => XS.icmpYes X0.here hx rfl (pc0 := 15) (pc' := 64) rfl (hb hby d10_15) rfl (teq (hc3)).1 (by decide) (by decide) (XS.iconst X0.here hx rfl (hb hby d10_64) kK)) ?_
        refine OwnEnd.ret X0 (v := (some (.int (nar .boolean (0 : Int32))))) (fun h => by rw [Bd.returns] at h; cases h) hlk (fun fs hr => retN X0 hx (t := .boolean) Bd.returns (by simp) (hb hby d10_65) hr) (by decide) (by decide) (Q := (own_Qint (own_hold c)) h0 n0) e0 ?_
        exact ⟨(by show some (Value.int (nar .boolean (0 : Int32))) = _; simp [own_hold, nar, hc1, hc2, hc3]), N0, rfl⟩
      · refine OwnEnd.of (S' := s₁.setTop (mkF m 21 #[.val (.int c)] [(.int 34), (.int c)])) (fun _ kK => XS.icmpNo X0.here hx rfl (hb hby d10_15) rfl (feq (hc3)).1 (XS.iloadN X0.here hx rfl (hb hby d10_18) rfl (XS.bipush X0.here hx rfl (hb hby d10_19) kK))) ?_
        rcases Decidable.em (c = (34 : Int32)) with hc4 | hc4
        · refine OwnEnd.of (S' := s₁.setTop (mkF m 65 #[.val (.int c)] [(.int 0)])) (fun _ kK => XS.icmpYes X0.here hx rfl (pc0 := 21) (pc' := 64) rfl (hb hby d10_21) rfl (teq (hc4)).1 (by decide) (by decide) (XS.iconst X0.here hx rfl (hb hby d10_64) kK)) ?_
          refine OwnEnd.ret X0 (v := (some (.int (nar .boolean (0 : Int32))))) (fun h => by rw [Bd.returns] at h; cases h) hlk (fun fs hr => retN X0 hx (t := .boolean) Bd.returns (by simp) (hb hby d10_65) hr) (by decide) (by decide) (Q := (own_Qint (own_hold c)) h0 n0) e0 ?_
          exact ⟨(by show some (Value.int (nar .boolean (0 : Int32))) = _; simp [own_hold, nar, hc1, hc2, hc3, hc4]), N0, rfl⟩
        · refine OwnEnd.of (S' := s₁.setTop (mkF m 27 #[.val (.int c)] [(.int 123), (.int c)])) (fun _ kK => XS.icmpNo X0.here hx rfl (hb hby d10_21) rfl (feq (hc4)).1 (XS.iloadN X0.here hx rfl (hb hby d10_24) rfl (XS.bipush X0.here hx rfl (hb hby d10_25) kK))) ?_
          rcases Decidable.em (c = (123 : Int32)) with hc5 | hc5
          · refine OwnEnd.of (S' := s₁.setTop (mkF m 65 #[.val (.int c)] [(.int 0)])) (fun _ kK => XS.icmpYes X0.here hx rfl (pc0 := 27) (pc' := 64) rfl (hb hby d10_27) rfl (teq (hc5)).1 (by decide) (by decide) (XS.iconst X0.here hx rfl (hb hby d10_64) kK)) ?_
            refine OwnEnd.ret X0 (v := (some (.int (nar .boolean (0 : Int32))))) (fun h => by rw [Bd.returns] at h; cases h) hlk (fun fs hr => retN X0 hx (t := .boolean) Bd.returns (by simp) (hb hby d10_65) hr) (by decide) (by decide) (Q := (own_Qint (own_hold c)) h0 n0) e0 ?_
            exact ⟨(by show some (Value.int (nar .boolean (0 : Int32))) = _; simp [own_hold, nar, hc1, hc2, hc3, hc4, hc5]), N0, rfl⟩
          · refine OwnEnd.of (S' := s₁.setTop (mkF m 33 #[.val (.int c)] [(.int 125), (.int c)])) (fun _ kK => XS.icmpNo X0.here hx rfl (hb hby d10_27) rfl (feq (hc5)).1 (XS.iloadN X0.here hx rfl (hb hby d10_30) rfl (XS.bipush X0.here hx rfl (hb hby d10_31) kK))) ?_
            rcases Decidable.em (c = (125 : Int32)) with hc6 | hc6
            · refine OwnEnd.of (S' := s₁.setTop (mkF m 65 #[.val (.int c)] [(.int 0)])) (fun _ kK => XS.icmpYes X0.here hx rfl (pc0 := 33) (pc' := 64) rfl (hb hby d10_33) rfl (teq (hc6)).1 (by decide) (by decide) (XS.iconst X0.here hx rfl (hb hby d10_64) kK)) ?_
              refine OwnEnd.ret X0 (v := (some (.int (nar .boolean (0 : Int32))))) (fun h => by rw [Bd.returns] at h; cases h) hlk (fun fs hr => retN X0 hx (t := .boolean) Bd.returns (by simp) (hb hby d10_65) hr) (by decide) (by decide) (Q := (own_Qint (own_hold c)) h0 n0) e0 ?_
              exact ⟨(by show some (Value.int (nar .boolean (0 : Int32))) = _; simp [own_hold, nar, hc1, hc2, hc3, hc4, hc5, hc6]), N0, rfl⟩
            · refine OwnEnd.of (S' := s₁.setTop (mkF m 39 #[.val (.int c)] [(.int 124), (.int c)])) (fun _ kK => XS.icmpNo X0.here hx rfl (hb hby d10_33) rfl (feq (hc6)).1 (XS.iloadN X0.here hx rfl (hb hby d10_36) rfl (XS.bipush X0.here hx rfl (hb hby d10_37) kK))) ?_
              rcases Decidable.em (c = (124 : Int32)) with hc7 | hc7
              · refine OwnEnd.of (S' := s₁.setTop (mkF m 65 #[.val (.int c)] [(.int 0)])) (fun _ kK => XS.icmpYes X0.here hx rfl (pc0 := 39) (pc' := 64) rfl (hb hby d10_39) rfl (teq (hc7)).1 (by decide) (by decide) (XS.iconst X0.here hx rfl (hb hby d10_64) kK)) ?_
                refine OwnEnd.ret X0 (v := (some (.int (nar .boolean (0 : Int32))))) (fun h => by rw [Bd.returns] at h; cases h) hlk (fun fs hr => retN X0 hx (t := .boolean) Bd.returns (by simp) (hb hby d10_65) hr) (by decide) (by decide) (Q := (own_Qint (own_hold c)) h0 n0) e0 ?_
                exact ⟨(by show some (Value.int (nar .boolean (0 : Int32))) = _; simp [own_hold, nar, hc1, hc2, hc3, hc4, hc5, hc6, hc7]), N0, rfl⟩
              · refine OwnEnd.of (S' := s₁.setTop (mkF m 45 #[.val (.int c)] [(.int 94), (.int c)])) (fun _ kK => XS.icmpNo X0.here hx rfl (hb hby d10_39) rfl (feq (hc7)).1 (XS.iloadN X0.here hx rfl (hb hby d10_42) rfl (XS.bipush X0.here hx rfl (hb hby d10_43) kK))) ?_
                rcases Decidable.em (c = (94 : Int32)) with hc8 | hc8
                · refine OwnEnd.of (S' := s₁.setTop (mkF m 65 #[.val (.int c)] [(.int 0)])) (fun _ kK => XS.icmpYes X0.here hx rfl (pc0 := 45) (pc' := 64) rfl (hb hby d10_45) rfl (teq (hc8)).1 (by decide) (by decide) (XS.iconst X0.here hx rfl (hb hby d10_64) kK)) ?_
                  refine OwnEnd.ret X0 (v := (some (.int (nar .boolean (0 : Int32))))) (fun h => by rw [Bd.returns] at h; cases h) hlk (fun fs hr => retN X0 hx (t := .boolean) Bd.returns (by simp) (hb hby d10_65) hr) (by decide) (by decide) (Q := (own_Qint (own_hold c)) h0 n0) e0 ?_
                  exact ⟨(by show some (Value.int (nar .boolean (0 : Int32))) = _; simp [own_hold, nar, hc1, hc2, hc3, hc4, hc5, hc6, hc7, hc8]), N0, rfl⟩
                · refine OwnEnd.of (S' := s₁.setTop (mkF m 51 #[.val (.int c)] [(.int 96), (.int c)])) (fun _ kK => XS.icmpNo X0.here hx rfl (hb hby d10_45) rfl (feq (hc8)).1 (XS.iloadN X0.here hx rfl (hb hby d10_48) rfl (XS.bipush X0.here hx rfl (hb hby d10_49) kK))) ?_
                  rcases Decidable.em (c = (96 : Int32)) with hc9 | hc9
                  · refine OwnEnd.of (S' := s₁.setTop (mkF m 65 #[.val (.int c)] [(.int 0)])) (fun _ kK => XS.icmpYes X0.here hx rfl (pc0 := 51) (pc' := 64) rfl (hb hby d10_51) rfl (teq (hc9)).1 (by decide) (by decide) (XS.iconst X0.here hx rfl (hb hby d10_64) kK)) ?_
                    refine OwnEnd.ret X0 (v := (some (.int (nar .boolean (0 : Int32))))) (fun h => by rw [Bd.returns] at h; cases h) hlk (fun fs hr => retN X0 hx (t := .boolean) Bd.returns (by simp) (hb hby d10_65) hr) (by decide) (by decide) (Q := (own_Qint (own_hold c)) h0 n0) e0 ?_
                    exact ⟨(by show some (Value.int (nar .boolean (0 : Int32))) = _; simp [own_hold, nar, hc1, hc2, hc3, hc4, hc5, hc6, hc7, hc8, hc9]), N0, rfl⟩
                  · refine OwnEnd.of (S' := s₁.setTop (mkF m 57 #[.val (.int c)] [(.int 92), (.int c)])) (fun _ kK => XS.icmpNo X0.here hx rfl (hb hby d10_51) rfl (feq (hc9)).1 (XS.iloadN X0.here hx rfl (hb hby d10_54) rfl (XS.bipush X0.here hx rfl (hb hby d10_55) kK))) ?_
                    rcases Decidable.em (c = (92 : Int32)) with hc10 | hc10
                    · refine OwnEnd.of (S' := s₁.setTop (mkF m 65 #[.val (.int c)] [(.int 0)])) (fun _ kK => XS.icmpYes X0.here hx rfl (pc0 := 57) (pc' := 64) rfl (hb hby d10_57) rfl (teq (hc10)).1 (by decide) (by decide) (XS.iconst X0.here hx rfl (hb hby d10_64) kK)) ?_
                      refine OwnEnd.ret X0 (v := (some (.int (nar .boolean (0 : Int32))))) (fun h => by rw [Bd.returns] at h; cases h) hlk (fun fs hr => retN X0 hx (t := .boolean) Bd.returns (by simp) (hb hby d10_65) hr) (by decide) (by decide) (Q := (own_Qint (own_hold c)) h0 n0) e0 ?_
                      exact ⟨(by show some (Value.int (nar .boolean (0 : Int32))) = _; simp [own_hold, nar, hc1, hc2, hc3, hc4, hc5, hc6, hc7, hc8, hc9, hc10]), N0, rfl⟩
                    · refine OwnEnd.of (S' := s₁.setTop (mkF m 65 #[.val (.int c)] [(.int 1)])) (fun _ kK => XS.icmpNo X0.here hx rfl (hb hby d10_57) rfl (feq (hc10)).1 (XS.iconst X0.here hx rfl (hb hby d10_60) (XS.goto X0.here hx rfl (pc0 := 61) (pc' := 65) rfl (hb hby d10_61) (by decide) (by decide) kK))) ?_
                      refine OwnEnd.ret X0 (v := (some (.int (nar .boolean (1 : Int32))))) (fun h => by rw [Bd.returns] at h; cases h) hlk (fun fs hr => retN X0 hx (t := .boolean) Bd.returns (by simp) (hb hby d10_65) hr) (by decide) (by decide) (Q := (own_Qint (own_hold c)) h0 n0) e0 ?_
                      exact ⟨(by show some (Value.int (nar .boolean (1 : Int32))) = _; simp [own_hold, nar, hc1, hc2, hc3, hc4, hc5, hc6, hc7, hc8, hc9, hc10]), N0, rfl⟩
  · refine OwnEnd.of (S' := s₁.setTop (mkF m 65 #[.val (.int c)] [(.int 0)])) (fun _ kK => XS.icmpYes X0.here hx rfl (pc0 := 3) (pc' := 64) rfl (hb hby d10_3) rfl (flt (hc1)).2.2.2 (by decide) (by decide) (XS.iconst X0.here hx rfl (hb hby d10_64) kK)) ?_
    refine OwnEnd.ret X0 (v := (some (.int (nar .boolean (0 : Int32))))) (fun h => by rw [Bd.returns] at h; cases h) hlk (fun fs hr => retN X0 hx (t := .boolean) Bd.returns (by simp) (hb hby d10_65) hr) (by decide) (by decide) (Q := (own_Qint (own_hold c)) h0 n0) e0 ?_
    exact ⟨(by show some (Value.int (nar .boolean (0 : Int32))) = _; simp [own_hold, nar, hc1]), N0, rfl⟩

theorem own_efsc (m : MethodId) (c : Int32) : entryFrame m #[(.int c)] 1 = mkF m 0 #[.val (.int c)] [] := by first | (simp [entryFrame, mkF, argsToLocals, Value.category]; done) | rfl
set_option maxRecDepth 65536 in
set_option maxHeartbeats 40000000 in
theorem rmsc (l : Launch) (Z : State) (a0 : Array Value) (G : OwnG Z a0) (ws : List Jvm.Cond) (c : Int32) (h0 : Heap) (n0 : Nat) (O0 : Old Z n0 h0)  :
    MetFree l own_m11 (head1 (Jvm.Cond.code own_m11 method_6_code 1 (some .boolean) :: ws) ({ frames := 1, cells := 0, slots := 0, locals := 12 } : Room)) (fun a U => a = #[(.int c)] ∧ Z.Warmed39 U.vm ∧ U.heap = h0) (fun _ _ _ _ _ => True) (fun _ U o U' => ∃ v L, o = .returned v ∧ (own_Qint (own_scheme c)) h0 n0 v U'.heap L ∧ FrameEnd U o U' L ({ frames := 1, cells := 0, slots := 0, locals := 12 } : Room).cells ({ frames := 1, cells := 0, slots := 0, locals := 12 } : Room).slots) := by
  refine MetFree.of_bodySF (plainFor_of_name pn_3) hisR ?_
  intro p e s m args below meth cD s₁ Bd hml0 hP hK
  obtain ⟨rfl, hZ, hh⟩ := hP
  have hw := G.1
  have hx := Bd.exec
  have hby := Bd.bytes
  have hml : cD.maxLocals = 1 := hml0
  have hown : s.vm.findClass "com/example/vett/vett/model/IrisIsAbsolutePinLaw" = some m.cls := findClass_of_methodNamed Bd.named
  have hnm := (name_of_methodNamed Bd.named Bd.method).1
  have hlk := Bd.notSynchronized
  have X0 : Stand p l e ({ frames := 1, cells := 0, slots := 0, locals := 12 } : Room) s m #[(.int c)] below meth cD s₁ [] 0 0 := Stand.of_body Bd
  have e0 : s₁.heap = h0 := by rw [← hh, Bd.state]; rfl
  have K0 : Keep h0 h0 [] := Keep.refl h0 _
  have Z0 := own_old_le O0
  have N0 := Fr.nil n0
  refine OwnEnd.start (g' := (mkF m 0 #[.val (.int c)] [])) (own_efsc m c) ?_
  refine OwnEnd.of (S' := s₁.setTop (mkF m 1 #[.val (.int c)] [(.int c)])) (fun _ kK => XS.iloadN X0.here hx rfl (hb hby d11_0) rfl kK) ?_
  obtain ⟨_, _, ⟨T1, L1, k1, n1⟩, -, X1, ⟨Lc1, hQ1, l1, y1, z1⟩, st1⟩ := Jvm.LawKit.callS X0 hx (y := own_m9) hown (mvT hZ (own_w G 93 rfl)) (mvT hZ (own_w G 94 rfl)) (mvT hZ (own_w G 4 rfl)) (mvT hZ (own_w G 95 rfl)) (by decide) (backOf (W := 0) (rmle l Z a0 G [] c h0 n0 O0 ) hZ (own_w G 95 rfl) (own_w G 4 rfl) (by decide) (by decide)) (g := (mkF m 1 #[.val (.int c)] [(.int c)])) rfl (by rw [hml]; rfl) (argsL := [(.int c)]) (rest := []) (lenOf pd_6 rfl) rfl (by show 2 * 0 + _ ≤ _; exact Nat.le_of_eq rfl) (hb hby d11_1) (fun _ _ => ⟨rfl, e0, (by decide : 0 + 0 ≤ _), (by decide : 0 + 0 ≤ _)⟩)
  dsimp only [Pt.U, Pt.locs, Pt.cells, Pt.slots] at X1 l1 y1 z1 st1 hQ1
  subst l1 y1 z1
  obtain ⟨rfl, N1q, eh1⟩ := hQ1
  have N1 := Fr.app N0 N1q
  refine OwnEnd.of (S' := T1.setTop (mkF m 4 #[.val (.int c)] [(.int (own_letter c))])) st1 ?_
  rcases own_letter01 c with hb2 | hb2
  · rw [hb2]
    refine OwnEnd.of (S' := T1.setTop (mkF m 10 #[.val (.int c)] [(.int 48), (.int c)])) (fun _ kK => XS.ifNo X1.here hx rfl (hb hby d11_4) rfl ((if0 _ _).trans (teq ((by decide : (0 : Int32) = (0 : Int32)))).2) (XS.iloadN X1.here hx rfl (hb hby d11_7) rfl (XS.bipush X1.here hx rfl (hb hby d11_8) kK))) ?_
    rcases Decidable.em (c < (48 : Int32)) with hc3 | hc3
    · refine OwnEnd.of (S' := T1.setTop (mkF m 22 #[.val (.int c)] [(.int 43), (.int c)])) (fun _ kK => XS.icmpYes X1.here hx rfl (pc0 := 10) (pc' := 19) rfl (hb hby d11_10) rfl (tlt (hc3)).1 (by decide) (by decide) (XS.iloadN X1.here hx rfl (hb hby d11_19) rfl (XS.bipush X1.here hx rfl (hb hby d11_20) kK))) ?_
      rcases Decidable.em (c = (43 : Int32)) with hc4 | hc4
      · refine OwnEnd.of (S' := T1.setTop (mkF m 42 #[.val (.int c)] [(.int 1)])) (fun _ kK => XS.icmpYes X1.here hx rfl (pc0 := 22) (pc' := 37) rfl (hb hby d11_22) rfl (teq (hc4)).1 (by decide) (by decide) (XS.iconst X1.here hx rfl (hb hby d11_37) (XS.goto X1.here hx rfl (pc0 := 38) (pc' := 42) rfl (hb hby d11_38) (by decide) (by decide) kK))) ?_
        refine OwnEnd.ret X1 (v := (some (.int (nar .boolean (1 : Int32))))) (fun h => by rw [Bd.returns] at h; cases h) hlk (fun fs hr => retN X1 hx (t := .boolean) Bd.returns (by simp) (hb hby d11_42) hr) (by decide) (by decide) (Q := (own_Qint (own_scheme c)) h0 n0) eh1 ?_
        exact ⟨(by show some (Value.int (nar .boolean (1 : Int32))) = _; simp [own_scheme, nar, hb2, hc3, hc4]), N1, rfl⟩
      · refine OwnEnd.of (S' := T1.setTop (mkF m 28 #[.val (.int c)] [(.int 45), (.int c)])) (fun _ kK => XS.icmpNo X1.here hx rfl (hb hby d11_22) rfl (feq (hc4)).1 (XS.iloadN X1.here hx rfl (hb hby d11_25) rfl (XS.bipush X1.here hx rfl (hb hby d11_26) kK))) ?_
        rcases Decidable.em (c = (45 : Int32)) with hc5 | hc5
        · refine OwnEnd.of (S' := T1.setTop (mkF m 42 #[.val (.int c)] [(.int 1)])) (fun _ kK => XS.icmpYes X1.here hx rfl (pc0 := 28) (pc' := 37) rfl (hb hby d11_28) rfl (teq (hc5)).1 (by decide) (by decide) (XS.iconst X1.here hx rfl (hb hby d11_37) (XS.goto X1.here hx rfl (pc0 := 38) (pc' := 42) rfl (hb hby d11_38) (by decide) (by decide) kK))) ?_
          refine OwnEnd.ret X1 (v := (some (.int (nar .boolean (1 : Int32))))) (fun h => by rw [Bd.returns] at h; cases h) hlk (fun fs hr => retN X1 hx (t := .boolean) Bd.returns (by simp) (hb hby d11_42) hr) (by decide) (by decide) (Q := (own_Qint (own_scheme c)) h0 n0) eh1 ?_
          exact ⟨(by show some (Value.int (nar .boolean (1 : Int32))) = _; simp [own_scheme, nar, hb2, hc3, hc4, hc5]), N1, rfl⟩
        · refine OwnEnd.of (S' := T1.setTop (mkF m 34 #[.val (.int c)] [(.int 46), (.int c)])) (fun _ kK => XS.icmpNo X1.here hx rfl (hb hby d11_28) rfl (feq (hc5)).1 (XS.iloadN X1.here hx rfl (hb hby d11_31) rfl (XS.bipush X1.here hx rfl (hb hby d11_32) kK))) ?_
          rcases Decidable.em (c = (46 : Int32)) with hc6 | hc6
          · refine OwnEnd.of (S' := T1.setTop (mkF m 42 #[.val (.int c)] [(.int 1)])) (fun _ kK => XS.icmpNo X1.here hx rfl (hb hby d11_34) rfl (teq (hc6)).2 (XS.iconst X1.here hx rfl (hb hby d11_37) (XS.goto X1.here hx rfl (pc0 := 38) (pc' := 42) rfl (hb hby d11_38) (by decide) (by decide) kK))) ?_
            refine OwnEnd.ret X1 (v := (some (.int (nar .boolean (1 : Int32))))) (fun h => by rw [Bd.returns] at h; cases h) hlk (fun fs hr => retN X1 hx (t := .boolean) Bd.returns (by simp) (hb hby d11_42) hr) (by decide) (by decide) (Q := (own_Qint (own_scheme c)) h0 n0) eh1 ?_
            exact ⟨(by show some (Value.int (nar .boolean (1 : Int32))) = _; simp [own_scheme, nar, hb2, hc3, hc4, hc5, hc6]), N1, rfl⟩
          · refine OwnEnd.of (S' := T1.setTop (mkF m 42 #[.val (.int c)] [(.int 0)])) (fun _ kK => XS.icmpYes X1.here hx rfl (pc0 := 34) (pc' := 41) rfl (hb hby d11_34) rfl (feq (hc6)).2 (by decide) (by decide) (XS.iconst X1.here hx rfl (hb hby d11_41) kK)) ?_
            refine OwnEnd.ret X1 (v := (some (.int (nar .boolean (0 : Int32))))) (fun h => by rw [Bd.returns] at h; cases h) hlk (fun fs hr => retN X1 hx (t := .boolean) Bd.returns (by simp) (hb hby d11_42) hr) (by decide) (by decide) (Q := (own_Qint (own_scheme c)) h0 n0) eh1 ?_
            exact ⟨(by show some (Value.int (nar .boolean (0 : Int32))) = _; simp [own_scheme, nar, hb2, hc3, hc4, hc5, hc6]), N1, rfl⟩
    · refine OwnEnd.of (S' := T1.setTop (mkF m 16 #[.val (.int c)] [(.int 57), (.int c)])) (fun _ kK => XS.icmpNo X1.here hx rfl (hb hby d11_10) rfl (flt (hc3)).1 (XS.iloadN X1.here hx rfl (hb hby d11_13) rfl (XS.bipush X1.here hx rfl (hb hby d11_14) kK))) ?_
      rcases Decidable.em ((57 : Int32) < c) with hc7 | hc7
      · refine OwnEnd.of (S' := T1.setTop (mkF m 22 #[.val (.int c)] [(.int 43), (.int c)])) (fun _ kK => XS.icmpNo X1.here hx rfl (hb hby d11_16) rfl (tlt (hc7)).2.2.2 (XS.iloadN X1.here hx rfl (hb hby d11_19) rfl (XS.bipush X1.here hx rfl (hb hby d11_20) kK))) ?_
        rcases Decidable.em (c = (43 : Int32)) with hc8 | hc8
        · refine OwnEnd.of (S' := T1.setTop (mkF m 42 #[.val (.int c)] [(.int 1)])) (fun _ kK => XS.icmpYes X1.here hx rfl (pc0 := 22) (pc' := 37) rfl (hb hby d11_22) rfl (teq (hc8)).1 (by decide) (by decide) (XS.iconst X1.here hx rfl (hb hby d11_37) (XS.goto X1.here hx rfl (pc0 := 38) (pc' := 42) rfl (hb hby d11_38) (by decide) (by decide) kK))) ?_
          refine OwnEnd.ret X1 (v := (some (.int (nar .boolean (1 : Int32))))) (fun h => by rw [Bd.returns] at h; cases h) hlk (fun fs hr => retN X1 hx (t := .boolean) Bd.returns (by simp) (hb hby d11_42) hr) (by decide) (by decide) (Q := (own_Qint (own_scheme c)) h0 n0) eh1 ?_
          exact ⟨(by show some (Value.int (nar .boolean (1 : Int32))) = _; simp [own_scheme, nar, hb2, hc3, hc7, hc8]), N1, rfl⟩
        · refine OwnEnd.of (S' := T1.setTop (mkF m 28 #[.val (.int c)] [(.int 45), (.int c)])) (fun _ kK => XS.icmpNo X1.here hx rfl (hb hby d11_22) rfl (feq (hc8)).1 (XS.iloadN X1.here hx rfl (hb hby d11_25) rfl (XS.bipush X1.here hx rfl (hb hby d11_26) kK))) ?_
          rcases Decidable.em (c = (45 : Int32)) with hc9 | hc9
          · refine OwnEnd.of (S' := T1.setTop (mkF m 42 #[.val (.int c)] [(.int 1)])) (fun _ kK => XS.icmpYes X1.here hx rfl (pc0 := 28) (pc' := 37) rfl (hb hby d11_28) rfl (teq (hc9)).1 (by decide) (by decide) (XS.iconst X1.here hx rfl (hb hby d11_37) (XS.goto X1.here hx rfl (pc0 := 38) (pc' := 42) rfl (hb hby d11_38) (by decide) (by decide) kK))) ?_
            refine OwnEnd.ret X1 (v := (some (.int (nar .boolean (1 : Int32))))) (fun h => by rw [Bd.returns] at h; cases h) hlk (fun fs hr => retN X1 hx (t := .boolean) Bd.returns (by simp) (hb hby d11_42) hr) (by decide) (by decide) (Q := (own_Qint (own_scheme c)) h0 n0) eh1 ?_
            exact ⟨(by show some (Value.int (nar .boolean (1 : Int32))) = _; simp [own_scheme, nar, hb2, hc3, hc7, hc8, hc9]), N1, rfl⟩
          · refine OwnEnd.of (S' := T1.setTop (mkF m 34 #[.val (.int c)] [(.int 46), (.int c)])) (fun _ kK => XS.icmpNo X1.here hx rfl (hb hby d11_28) rfl (feq (hc9)).1 (XS.iloadN X1.here hx rfl (hb hby d11_31) rfl (XS.bipush X1.here hx rfl (hb hby d11_32) kK))) ?_
            rcases Decidable.em (c = (46 : Int32)) with hc10 | hc10
            · refine OwnEnd.of (S' := T1.setTop (mkF m 42 #[.val (.int c)] [(.int 1)])) (fun _ kK => XS.icmpNo X1.here hx rfl (hb hby d11_34) rfl (teq (hc10)).2 (XS.iconst X1.here hx rfl (hb hby d11_37) (XS.goto X1.here hx rfl (pc0 := 38) (pc' := 42) rfl (hb hby d11_38) (by decide) (by decide) kK))) ?_
              refine OwnEnd.ret X1 (v := (some (.int (nar .boolean (1 : Int32))))) (fun h => by rw [Bd.returns] at h; cases h) hlk (fun fs hr => retN X1 hx (t := .boolean) Bd.returns (by simp) (hb hby d11_42) hr) (by decide) (by decide) (Q := (own_Qint (own_scheme c)) h0 n0) eh1 ?_
              exact ⟨(by show some (Value.int (nar .boolean (1 : Int32))) = _; simp [own_scheme, nar, hb2, hc3, hc7, hc8, hc9, hc10]), N1, rfl⟩
            · refine OwnEnd.of (S' := T1.setTop (mkF m 42 #[.val (.int c)] [(.int 0)])) (fun _ kK => XS.icmpYes X1.here hx rfl (pc0 := 34) (pc' := 41) rfl (hb hby d11_34) rfl (feq (hc10)).2 (by decide) (by decide) (XS.iconst X1.here hx rfl (hb hby d11_41) kK)) ?_
              refine OwnEnd.ret X1 (v := (some (.int (nar .boolean (0 : Int32))))) (fun h => by rw [Bd.returns] at h; cases h) hlk (fun fs hr => retN X1 hx (t := .boolean) Bd.returns (by simp) (hb hby d11_42) hr) (by decide) (by decide) (Q := (own_Qint (own_scheme c)) h0 n0) eh1 ?_
              exact ⟨(by show some (Value.int (nar .boolean (0 : Int32))) = _; simp [own_scheme, nar, hb2, hc3, hc7, hc8, hc9, hc10]), N1, rfl⟩
      · refine OwnEnd.of (S' := T1.setTop (mkF m 42 #[.val (.int c)] [(.int 1)])) (fun _ kK => XS.icmpYes X1.here hx rfl (pc0 := 16) (pc' := 37) rfl (hb hby d11_16) rfl (flt (hc7)).2.2.2 (by decide) (by decide) (XS.iconst X1.here hx rfl (hb hby d11_37) (XS.goto X1.here hx rfl (pc0 := 38) (pc' := 42) rfl (hb hby d11_38) (by decide) (by decide) kK))) ?_
        refine OwnEnd.ret X1 (v := (some (.int (nar .boolean (1 : Int32))))) (fun h => by rw [Bd.returns] at h; cases h) hlk (fun fs hr => retN X1 hx (t := .boolean) Bd.returns (by simp) (hb hby d11_42) hr) (by decide) (by decide) (Q := (own_Qint (own_scheme c)) h0 n0) eh1 ?_
        exact ⟨(by show some (Value.int (nar .boolean (1 : Int32))) = _; simp [own_scheme, nar, hb2, hc3, hc7]), N1, rfl⟩
  · rw [hb2]
    refine OwnEnd.of (S' := T1.setTop (mkF m 42 #[.val (.int c)] [(.int 1)])) (fun _ kK => XS.ifYes X1.here hx rfl (pc0 := 4) (pc' := 37) rfl (hb hby d11_4) rfl ((if0 _ _).trans (feq ((by decide : ¬ ((1 : Int32) = (0 : Int32))))).2) (by decide) (by decide) (XS.iconst X1.here hx rfl (hb hby d11_37) (XS.goto X1.here hx rfl (pc0 := 38) (pc' := 42) rfl (hb hby d11_38) (by decide) (by decide) kK))) ?_
    refine OwnEnd.ret X1 (v := (some (.int (nar .boolean (1 : Int32))))) (fun h => by rw [Bd.returns] at h; cases h) hlk (fun fs hr => retN X1 hx (t := .boolean) Bd.returns (by simp) (hb hby d11_42) hr) (by decide) (by decide) (Q := (own_Qint (own_scheme c)) h0 n0) eh1 ?_
    exact ⟨(by show some (Value.int (nar .boolean (1 : Int32))) = _; simp [own_scheme, nar, hb2]), N1, rfl⟩

theorem own_efok (m : MethodId) (b : Addr) (n : Int32) (k : Int32) (i : Int32) : entryFrame m #[(.ref b), (.int n), (.int k), (.int i)] 5 = mkF m 0 #[.val (.ref b), .val (.int n), .val (.int k), .val (.int i), .unset] [] := by first | (simp [entryFrame, mkF, argsToLocals, Value.category]; done) | rfl
set_option maxRecDepth 65536 in
set_option maxHeartbeats 40000000 in
theorem rmok (l : Launch) (Z : State) (a0 : Array Value) (G : OwnG Z a0) (ws : List Jvm.Cond) (b : Addr) (kC : ClassId) (vs : List Value) (dC : Value) (n : Int32) (k : Int32) (i : Int32) (c : Int32) (h0 : Heap) (n0 : Nat) (O0 : Old Z n0 h0) (P0 : Arv Z h0 b kC .char (5 : Int32) vs dC) (P1 : ¬ i < (0 : Int32)) (P2 : i < (5 : Int32)) (P3 : vs.getD i.toNatClampNeg dC = (.int c)) :
    MetFree l own_m12 (head1 (Jvm.Cond.code own_m12 method_8_code 5 (some .boolean) :: ws) ({ frames := 2, cells := 0, slots := 0, locals := 24 } : Room)) (fun a U => a = #[(.ref b), (.int n), (.int k), (.int i)] ∧ Z.Warmed39 U.vm ∧ U.heap = h0) (fun _ _ _ _ _ => True) (fun _ U o U' => ∃ v L, o = .returned v ∧ (own_Qint (own_okv n k i c)) h0 n0 v U'.heap L ∧ FrameEnd U o U' L ({ frames := 2, cells := 0, slots := 0, locals := 24 } : Room).cells ({ frames := 2, cells := 0, slots := 0, locals := 24 } : Room).slots) := by
  refine MetFree.of_bodySF (plainFor_of_name pn_3) hisR ?_
  intro p e s m args below meth cD s₁ Bd hml0 hP hK
  obtain ⟨rfl, hZ, hh⟩ := hP
  have hw := G.1
  have hx := Bd.exec
  have hby := Bd.bytes
  have hml : cD.maxLocals = 5 := hml0
  have hown : s.vm.findClass "com/example/vett/vett/model/IrisIsAbsolutePinLaw" = some m.cls := findClass_of_methodNamed Bd.named
  have hnm := (name_of_methodNamed Bd.named Bd.method).1
  have hlk := Bd.notSynchronized
  have X0 : Stand p l e ({ frames := 2, cells := 0, slots := 0, locals := 24 } : Room) s m #[(.ref b), (.int n), (.int k), (.int i)] below meth cD s₁ [] 0 0 := Stand.of_body Bd
  have e0 : s₁.heap = h0 := by rw [← hh, Bd.state]; rfl
  have lt0 := own_ltN' P0.lt
  have K0 : Keep h0 h0 [] := Keep.refl h0 _
  have Z0 := own_old_le O0
  have N0 := Fr.nil n0
  refine OwnEnd.start (g' := (mkF m 0 #[.val (.ref b), .val (.int n), .val (.int k), .val (.int i), .unset] [])) (own_efok m b n k i) ?_
  refine OwnEnd.of (S' := s₁.setTop (mkF m 2 #[.val (.ref b), .val (.int n), .val (.int k), .val (.int i), .unset] [(.int n), (.int i)])) (fun _ kK => XS.iloadN X0.here hx rfl (hb hby d12_0) rfl (XS.iloadN X0.here hx rfl (hb hby d12_1) rfl kK)) ?_
  rcases Decidable.em (i < n) with hc1 | hc1
  · refine OwnEnd.of (S' := s₁.setTop (mkF m 9 #[.val (.ref b), .val (.int n), .val (.int k), .val (.int i), .unset] [(.int i), (.ref b)])) (fun _ kK => XS.icmpYes X0.here hx rfl (pc0 := 2) (pc' := 7) rfl (hb hby d12_2) rfl (tlt (hc1)).1 (by decide) (by decide) (XS.aloadN X0.here hx rfl (hb hby d12_7) rfl rfl (XS.iloadN X0.here hx rfl (hb hby d12_8) rfl kK))) ?_
    obtain ⟨cl2, Ar2, q2, S2, N2', H2, G2⟩ := id P0
    have hin3 : ¬ (i < 0 ∨ cl2.slots.size ≤ (i).toNatClampNeg) := inb_of S2 ⟨P1, P2⟩
    refine OwnEnd.of (S' := s₁.setTop (mkF m 10 #[.val (.ref b), .val (.int n), .val (.int k), .val (.int i), .unset] [(.int c)])) (fun _ kK => X0.caload hx (j := i) (v := (.int c)) (by rw [e0]; exact Ar2.1) (State.isArrayOf_alike hZ.alike Ar2.2.1) Ar2.2.2 hin3 (Has.at H2 hin3 (P3)) (g := (mkF m 9 #[.val (.ref b), .val (.int n), .val (.int k), .val (.int i), .unset] [(.int i), (.ref b)])) rfl rfl (hb hby d12_9) _ kK) ?_
    refine OwnEnd.of (S' := s₁.setTop (mkF m 14 #[.val (.ref b), .val (.int n), .val (.int k), .val (.int i), .val (.int c)] [(.int k), (.int i)])) (fun _ kK => XS.istore X0.here hx rfl (hb hby d12_10) rfl (l' := #[.val (.ref b), .val (.int n), .val (.int k), .val (.int i), .val (.int c)]) rfl (XS.iloadN X0.here hx rfl (hb hby d12_12) rfl (XS.iloadN X0.here hx rfl (hb hby d12_13) rfl kK))) ?_
    rcases Decidable.em (i < k) with hc4 | hc4
    · refine OwnEnd.of (S' := s₁.setTop (mkF m 18 #[.val (.ref b), .val (.int n), .val (.int k), .val (.int i), .val (.int c)] [(.int i)])) (fun _ kK => XS.icmpNo X0.here hx rfl (hb hby d12_14) rfl (tlt (hc4)).2.1 (XS.iloadN X0.here hx rfl (hb hby d12_17) rfl kK)) ?_
      rcases Decidable.em (i = (0 : Int32)) with hc5 | hc5
      · refine OwnEnd.of (S' := s₁.setTop (mkF m 23 #[.val (.ref b), .val (.int n), .val (.int k), .val (.int i), .val (.int c)] [(.int c)])) (fun _ kK => XS.ifNo X0.here hx rfl (hb hby d12_18) rfl ((if0 _ _).trans (teq (hc5)).2) (XS.iload X0.here hx rfl (hb hby d12_21) rfl kK)) ?_
        obtain ⟨_, _, ⟨T6, L6, k6, n6⟩, -, X6, ⟨Lc6, hQ6, l6, y6, z6⟩, st6⟩ := Jvm.LawKit.callS X0 hx (y := own_m9) hown (mvT hZ (own_w G 93 rfl)) (mvT hZ (own_w G 94 rfl)) (mvT hZ (own_w G 4 rfl)) (mvT hZ (own_w G 95 rfl)) (by decide) (backOf (W := 0) (rmle l Z a0 G [] c h0 n0 O0 ) hZ (own_w G 95 rfl) (own_w G 4 rfl) (by decide) (by decide)) (g := (mkF m 23 #[.val (.ref b), .val (.int n), .val (.int k), .val (.int i), .val (.int c)] [(.int c)])) rfl (by rw [hml]; rfl) (argsL := [(.int c)]) (rest := []) (lenOf pd_6 rfl) rfl (by show 2 * 0 + _ ≤ _; exact Nat.le_of_eq rfl) (hb hby d12_23) (fun _ _ => ⟨rfl, e0, (by decide : 0 + 0 ≤ _), (by decide : 0 + 0 ≤ _)⟩)
        dsimp only [Pt.U, Pt.locs, Pt.cells, Pt.slots] at X6 l6 y6 z6 st6 hQ6
        subst l6 y6 z6
        obtain ⟨rfl, N6q, eh6⟩ := hQ6
        have N6 := Fr.app N0 N6q
        refine OwnEnd.of (S' := T6.setTop (mkF m 26 #[.val (.ref b), .val (.int n), .val (.int k), .val (.int i), .val (.int c)] [(.int (own_letter c))])) st6 ?_
        refine OwnEnd.ret X6 (v := (some (.int (nar .boolean (own_letter c))))) (fun h => by rw [Bd.returns] at h; cases h) hlk (fun fs hr => retN X6 hx (t := .boolean) Bd.returns (by simp) (hb hby d12_26) hr) (by decide) (by decide) (Q := (own_Qint (own_okv n k i c)) h0 n0) eh6 ?_
        exact ⟨(by show some (Value.int (nar .boolean (own_letter c))) = _; rw [own_nbl]; first | (rw [own_okv, if_pos hc1, if_pos hc4, if_pos hc5]; done) | (rw [own_okv, if_pos hc1, if_pos hc4, if_pos hc5]; rfl)), N6, rfl⟩
      · refine OwnEnd.of (S' := s₁.setTop (mkF m 29 #[.val (.ref b), .val (.int n), .val (.int k), .val (.int i), .val (.int c)] [(.int c)])) (fun _ kK => XS.ifYes X0.here hx rfl (pc0 := 18) (pc' := 27) rfl (hb hby d12_18) rfl ((if0 _ _).trans (feq (hc5)).2) (by decide) (by decide) (XS.iload X0.here hx rfl (hb hby d12_27) rfl kK)) ?_
        obtain ⟨_, _, ⟨T7, L7, k7, n7⟩, -, X7, ⟨Lc7, hQ7, l7, y7, z7⟩, st7⟩ := Jvm.LawKit.callS X0 hx (y := own_m11) hown (mvT hZ (own_w G 126 rfl)) (mvT hZ (own_w G 127 rfl)) (mvT hZ (own_w G 4 rfl)) (mvT hZ (own_w G 128 rfl)) (by decide) (backOf (W := 0) (rmsc l Z a0 G [] c h0 n0 O0 ) hZ (own_w G 128 rfl) (own_w G 4 rfl) (by decide) (by decide)) (g := (mkF m 29 #[.val (.ref b), .val (.int n), .val (.int k), .val (.int i), .val (.int c)] [(.int c)])) rfl (by rw [hml]; rfl) (argsL := [(.int c)]) (rest := []) (lenOf pd_6 rfl) rfl (by show 2 * 0 + _ ≤ _; exact Nat.le_of_eq rfl) (hb hby d12_29) (fun _ _ => ⟨rfl, e0, (by decide : 0 + 0 ≤ _), (by decide : 0 + 0 ≤ _)⟩)
        dsimp only [Pt.U, Pt.locs, Pt.cells, Pt.slots] at X7 l7 y7 z7 st7 hQ7
        subst l7 y7 z7
        obtain ⟨rfl, N7q, eh7⟩ := hQ7
        have N7 := Fr.app N0 N7q
        refine OwnEnd.of (S' := T7.setTop (mkF m 32 #[.val (.ref b), .val (.int n), .val (.int k), .val (.int i), .val (.int c)] [(.int (own_scheme c))])) st7 ?_
        refine OwnEnd.ret X7 (v := (some (.int (nar .boolean (own_scheme c))))) (fun h => by rw [Bd.returns] at h; cases h) hlk (fun fs hr => retN X7 hx (t := .boolean) Bd.returns (by simp) (hb hby d12_32) hr) (by decide) (by decide) (Q := (own_Qint (own_okv n k i c)) h0 n0) eh7 ?_
        exact ⟨(by show some (Value.int (nar .boolean (own_scheme c))) = _; rw [own_nbs]; first | (rw [own_okv, if_pos hc1, if_pos hc4, if_neg hc5]; done) | (rw [own_okv, if_pos hc1, if_pos hc4, if_neg hc5]; rfl)), N7, rfl⟩
    · refine OwnEnd.of (S' := s₁.setTop (mkF m 35 #[.val (.ref b), .val (.int n), .val (.int k), .val (.int i), .val (.int c)] [(.int k), (.int i)])) (fun _ kK => XS.icmpYes X0.here hx rfl (pc0 := 14) (pc' := 33) rfl (hb hby d12_14) rfl (flt (hc4)).2.1 (by decide) (by decide) (XS.iloadN X0.here hx rfl (hb hby d12_33) rfl (XS.iloadN X0.here hx rfl (hb hby d12_34) rfl kK))) ?_
      rcases Decidable.em (i = k) with hc8 | hc8
      · refine OwnEnd.of (S' := s₁.setTop (mkF m 39 #[.val (.ref b), .val (.int n), .val (.int k), .val (.int i), .val (.int c)] [(.int 1)])) (fun _ kK => XS.icmpNo X0.here hx rfl (hb hby d12_35) rfl (teq (hc8)).2 (XS.iconst X0.here hx rfl (hb hby d12_38) kK)) ?_
        refine OwnEnd.ret X0 (v := (some (.int (nar .boolean (1 : Int32))))) (fun h => by rw [Bd.returns] at h; cases h) hlk (fun fs hr => retN X0 hx (t := .boolean) Bd.returns (by simp) (hb hby d12_39) hr) (by decide) (by decide) (Q := (own_Qint (own_okv n k i c)) h0 n0) e0 ?_
        exact ⟨(by show some (Value.int (nar .boolean (1 : Int32))) = _; first | (rw [own_okv, if_pos hc1, if_neg hc4, if_pos hc8]; done) | (rw [own_okv, if_pos hc1, if_neg hc4, if_pos hc8]; rfl)), N0, rfl⟩
      · refine OwnEnd.of (S' := s₁.setTop (mkF m 42 #[.val (.ref b), .val (.int n), .val (.int k), .val (.int i), .val (.int c)] [(.int c)])) (fun _ kK => XS.icmpYes X0.here hx rfl (pc0 := 35) (pc' := 40) rfl (hb hby d12_35) rfl (feq (hc8)).2 (by decide) (by decide) (XS.iload X0.here hx rfl (hb hby d12_40) rfl kK)) ?_
        obtain ⟨_, _, ⟨T9, L9, k9, n9⟩, -, X9, ⟨Lc9, hQ9, l9, y9, z9⟩, st9⟩ := Jvm.LawKit.callS X0 hx (y := own_m10) hown (mvT hZ (own_w G 117 rfl)) (mvT hZ (own_w G 118 rfl)) (mvT hZ (own_w G 4 rfl)) (mvT hZ (own_w G 119 rfl)) (by decide) (backOf (W := 0) (rmmh l Z a0 G [] c h0 n0 O0 ) hZ (own_w G 119 rfl) (own_w G 4 rfl) (by decide) (by decide)) (g := (mkF m 42 #[.val (.ref b), .val (.int n), .val (.int k), .val (.int i), .val (.int c)] [(.int c)])) rfl (by rw [hml]; rfl) (argsL := [(.int c)]) (rest := []) (lenOf pd_6 rfl) rfl (by show 2 * 0 + _ ≤ _; exact Nat.le_of_eq rfl) (hb hby d12_42) (fun _ _ => ⟨rfl, e0, (by decide : 0 + 0 ≤ _), (by decide : 0 + 0 ≤ _)⟩)
        dsimp only [Pt.U, Pt.locs, Pt.cells, Pt.slots] at X9 l9 y9 z9 st9 hQ9
        subst l9 y9 z9
        obtain ⟨rfl, N9q, eh9⟩ := hQ9
        have N9 := Fr.app N0 N9q
        refine OwnEnd.of (S' := T9.setTop (mkF m 45 #[.val (.ref b), .val (.int n), .val (.int k), .val (.int i), .val (.int c)] [(.int (own_hold c))])) st9 ?_
        refine OwnEnd.ret X9 (v := (some (.int (nar .boolean (own_hold c))))) (fun h => by rw [Bd.returns] at h; cases h) hlk (fun fs hr => retN X9 hx (t := .boolean) Bd.returns (by simp) (hb hby d12_45) hr) (by decide) (by decide) (Q := (own_Qint (own_okv n k i c)) h0 n0) eh9 ?_
        exact ⟨(by show some (Value.int (nar .boolean (own_hold c))) = _; rw [own_nbh]; first | (rw [own_okv, if_pos hc1, if_neg hc4, if_neg hc8]; done) | (rw [own_okv, if_pos hc1, if_neg hc4, if_neg hc8]; rfl)), N9, rfl⟩
  · refine OwnEnd.of (S' := s₁.setTop (mkF m 6 #[.val (.ref b), .val (.int n), .val (.int k), .val (.int i), .unset] [(.int 1)])) (fun _ kK => XS.icmpNo X0.here hx rfl (hb hby d12_2) rfl (flt (hc1)).1 (XS.iconst X0.here hx rfl (hb hby d12_5) kK)) ?_
    refine OwnEnd.ret X0 (v := (some (.int (nar .boolean (1 : Int32))))) (fun h => by rw [Bd.returns] at h; cases h) hlk (fun fs hr => retN X0 hx (t := .boolean) Bd.returns (by simp) (hb hby d12_6) hr) (by decide) (by decide) (Q := (own_Qint (own_okv n k i c)) h0 n0) e0 ?_
    exact ⟨(by show some (Value.int (nar .boolean (1 : Int32))) = _; first | (rw [own_okv, if_neg hc1]; done) | (rw [own_okv, if_neg hc1]; rfl)), N0, rfl⟩

theorem own_effc (m : MethodId) (b : Addr) (n : Int32) : entryFrame m #[(.ref b), (.int n)] 2 = mkF m 0 #[.val (.ref b), .val (.int n)] [] := by first | (simp [entryFrame, mkF, argsToLocals, Value.category]; done) | rfl
set_option maxRecDepth 65536 in
set_option maxHeartbeats 40000000 in
theorem rmfc (l : Launch) (Z : State) (a0 : Array Value) (G : OwnG Z a0) (ws : List Jvm.Cond) (b : Addr) (kC : ClassId) (dC : Value) (c0 : Int32) (c1 : Int32) (c2 : Int32) (c3 : Int32) (c4 : Int32) (n : Int32) (r : Int32) (h0 : Heap) (n0 : Nat) (O0 : Old Z n0 h0) (P0 : Arv Z h0 b kC .char (5 : Int32) [(.int c0), (.int c1), (.int c2), (.int c3), (.int c4)] dC) (P1 : (n = (0 : Int32) ∧ r = (own_ix (0 : Int32) [])) ∨ (n = (1 : Int32) ∧ r = (own_ix (0 : Int32) [c0])) ∨ (n = (2 : Int32) ∧ r = (own_ix (0 : Int32) [c0, c1])) ∨ (n = (3 : Int32) ∧ r = (own_ix (0 : Int32) [c0, c1, c2])) ∨ (n = (4 : Int32) ∧ r = (own_ix (0 : Int32) [c0, c1, c2, c3])) ∨ (n = (5 : Int32) ∧ r = (own_ix (0 : Int32) [c0, c1, c2, c3, c4]))) :
    MetFree l own_m13 (head1 (Jvm.Cond.code own_m13 method_4_code 2 (some .int) :: ws) ({ frames := 0, cells := 0, slots := 0, locals := 0 } : Room)) (fun a U => a = #[(.ref b), (.int n)] ∧ Z.Warmed39 U.vm ∧ U.heap = h0) (fun _ _ _ _ _ => True) (fun _ U o U' => ∃ v L, o = .returned v ∧ (own_Qint r) h0 n0 v U'.heap L ∧ FrameEnd U o U' L ({ frames := 0, cells := 0, slots := 0, locals := 0 } : Room).cells ({ frames := 0, cells := 0, slots := 0, locals := 0 } : Room).slots) := by
  refine MetFree.of_bodySF (plainFor_of_name pn_3) hisR ?_
  intro p e s m args below meth cD s₁ Bd hml0 hP hK
  obtain ⟨rfl, hZ, hh⟩ := hP
  have hw := G.1
  have hx := Bd.exec
  have hby := Bd.bytes
  have hml : cD.maxLocals = 2 := hml0
  have hown : s.vm.findClass "com/example/vett/vett/model/IrisIsAbsolutePinLaw" = some m.cls := findClass_of_methodNamed Bd.named
  have hnm := (name_of_methodNamed Bd.named Bd.method).1
  have hlk := Bd.notSynchronized
  have X0 : Stand p l e ({ frames := 0, cells := 0, slots := 0, locals := 0 } : Room) s m #[(.ref b), (.int n)] below meth cD s₁ [] 0 0 := Stand.of_body Bd
  have e0 : s₁.heap = h0 := by rw [← hh, Bd.state]; rfl
  have lt0 := own_ltN' P0.lt
  have K0 : Keep h0 h0 [] := Keep.refl h0 _
  have Z0 := own_old_le O0
  have N0 := Fr.nil n0
  refine OwnEnd.start (g' := (mkF m 0 #[.val (.ref b), .val (.int n)] [])) (own_effc m b n) ?_
  rcases P1 with hn | hn | hn | hn | hn | hn
  · rw [hn.1]
    refine OwnEnd.of (S' := s₁.setTop (mkF m 46 #[.val (.ref b), .val (.int 0)] [(.int 3), (.int 0)])) (fun _ kK => XS.iloadN X0.here hx rfl (hb hby d13_0) rfl (XS.ifYes X0.here hx rfl (pc0 := 1) (pc' := 14) rfl (hb hby d13_1) rfl ((if0 _ _).trans (flt ((by decide : ¬ ((0 : Int32) < (0 : Int32))))).2.2.2) (by decide) (by decide) (XS.iloadN X0.here hx rfl (hb hby d13_14) rfl (XS.iconst X0.here hx rfl (hb hby d13_15) (XS.icmpYes X0.here hx rfl (pc0 := 16) (pc' := 29) rfl (hb hby d13_16) rfl (flt ((by decide : ¬ ((1 : Int32) < (0 : Int32))))).2.2.2 (by decide) (by decide) (XS.iloadN X0.here hx rfl (hb hby d13_29) rfl (XS.iconst X0.here hx rfl (hb hby d13_30) (XS.icmpYes X0.here hx rfl (pc0 := 31) (pc' := 44) rfl (hb hby d13_31) rfl (flt ((by decide : ¬ ((2 : Int32) < (0 : Int32))))).2.2.2 (by decide) (by decide) (XS.iloadN X0.here hx rfl (hb hby d13_44) rfl (XS.iconst X0.here hx rfl (hb hby d13_45) kK)))))))))) ?_
    refine OwnEnd.of (S' := s₁.setTop (mkF m 75 #[.val (.ref b), .val (.int 0)] [(.int (-1 : Int32))])) (fun _ kK => XS.icmpYes X0.here hx rfl (pc0 := 46) (pc' := 59) rfl (hb hby d13_46) rfl (flt ((by decide : ¬ ((3 : Int32) < (0 : Int32))))).2.2.2 (by decide) (by decide) (XS.iloadN X0.here hx rfl (hb hby d13_59) rfl (XS.iconst X0.here hx rfl (hb hby d13_60) (XS.icmpYes X0.here hx rfl (pc0 := 61) (pc' := 74) rfl (hb hby d13_61) rfl (flt ((by decide : ¬ ((4 : Int32) < (0 : Int32))))).2.2.2 (by decide) (by decide) (XS.iconst X0.here hx rfl (hb hby d13_74) kK))))) ?_
    refine OwnEnd.ret X0 (v := (some (.int (-1 : Int32)))) (fun h => by rw [Bd.returns] at h; cases h) hlk (fun fs hr => retOut X0 hx Bd.returns rfl (Or.inl ⟨rfl, Or.inl rfl, _, rfl⟩) (hb hby d13_75) hr) (by decide) (by decide) (Q := (own_Qint r) h0 n0) e0 ?_
    exact ⟨(by rw [hn.2]; rfl), N0, rfl⟩
  · rw [hn.1]
    refine OwnEnd.of (S' := s₁.setTop (mkF m 6 #[.val (.ref b), .val (.int 1)] [(.int 0), (.ref b)])) (fun _ kK => XS.iloadN X0.here hx rfl (hb hby d13_0) rfl (XS.ifNo X0.here hx rfl (hb hby d13_1) rfl ((if0 _ _).trans (tlt ((by decide : (0 : Int32) < (1 : Int32)))).2.2.2) (XS.aloadN X0.here hx rfl (hb hby d13_4) rfl rfl (XS.iconst X0.here hx rfl (hb hby d13_5) kK)))) ?_
    obtain ⟨cl1, Ar1, q1, S1, N1', H1, G1⟩ := id P0
    have hin2 : ¬ ((0 : Int32) < 0 ∨ cl1.slots.size ≤ ((0 : Int32)).toNatClampNeg) := inb_of S1 ⟨by decide, by decide⟩
    refine OwnEnd.of (S' := s₁.setTop (mkF m 7 #[.val (.ref b), .val (.int 1)] [(.int c0)])) (fun _ kK => X0.caload hx (j := (0 : Int32)) (v := (.int c0)) (by rw [e0]; exact Ar1.1) (State.isArrayOf_alike hZ.alike Ar1.2.1) Ar1.2.2 hin2 (Has.at H1 hin2 (rfl)) (g := (mkF m 6 #[.val (.ref b), .val (.int 1)] [(.int 0), (.ref b)])) rfl rfl (hb hby d13_6) _ kK) ?_
    refine OwnEnd.of (S' := s₁.setTop (mkF m 9 #[.val (.ref b), .val (.int 1)] [(.int 58), (.int c0)])) (fun _ kK => XS.bipush X0.here hx rfl (hb hby d13_7) kK) ?_
    rcases Decidable.em (c0 = (58 : Int32)) with hc3 | hc3
    · refine OwnEnd.of (S' := s₁.setTop (mkF m 13 #[.val (.ref b), .val (.int 1)] [(.int 0)])) (fun _ kK => XS.icmpNo X0.here hx rfl (hb hby d13_9) rfl (teq (hc3)).2 (XS.iconst X0.here hx rfl (hb hby d13_12) kK)) ?_
      refine OwnEnd.ret X0 (v := (some (.int 0))) (fun h => by rw [Bd.returns] at h; cases h) hlk (fun fs hr => retOut X0 hx Bd.returns rfl (Or.inl ⟨rfl, Or.inl rfl, _, rfl⟩) (hb hby d13_13) hr) (by decide) (by decide) (Q := (own_Qint r) h0 n0) e0 ?_
      exact ⟨(by rw [hn.2]; simp [own_ix, hc3]), N0, rfl⟩
    · refine OwnEnd.of (S' := s₁.setTop (mkF m 59 #[.val (.ref b), .val (.int 1)] [])) (fun _ kK => XS.icmpYes X0.here hx rfl (pc0 := 9) (pc' := 14) rfl (hb hby d13_9) rfl (feq (hc3)).2 (by decide) (by decide) (XS.iloadN X0.here hx rfl (hb hby d13_14) rfl (XS.iconst X0.here hx rfl (hb hby d13_15) (XS.icmpYes X0.here hx rfl (pc0 := 16) (pc' := 29) rfl (hb hby d13_16) rfl (flt ((by decide : ¬ ((1 : Int32) < (1 : Int32))))).2.2.2 (by decide) (by decide) (XS.iloadN X0.here hx rfl (hb hby d13_29) rfl (XS.iconst X0.here hx rfl (hb hby d13_30) (XS.icmpYes X0.here hx rfl (pc0 := 31) (pc' := 44) rfl (hb hby d13_31) rfl (flt ((by decide : ¬ ((2 : Int32) < (1 : Int32))))).2.2.2 (by decide) (by decide) (XS.iloadN X0.here hx rfl (hb hby d13_44) rfl (XS.iconst X0.here hx rfl (hb hby d13_45) (XS.icmpYes X0.here hx rfl (pc0 := 46) (pc' := 59) rfl (hb hby d13_46) rfl (flt ((by decide : ¬ ((3 : Int32) < (1 : Int32))))).2.2.2 (by decide) (by decide) kK)))))))))) ?_
      refine OwnEnd.of (S' := s₁.setTop (mkF m 75 #[.val (.ref b), .val (.int 1)] [(.int (-1 : Int32))])) (fun _ kK => XS.iloadN X0.here hx rfl (hb hby d13_59) rfl (XS.iconst X0.here hx rfl (hb hby d13_60) (XS.icmpYes X0.here hx rfl (pc0 := 61) (pc' := 74) rfl (hb hby d13_61) rfl (flt ((by decide : ¬ ((4 : Int32) < (1 : Int32))))).2.2.2 (by decide) (by decide) (XS.iconst X0.here hx rfl (hb hby d13_74) kK)))) ?_
      refine OwnEnd.ret X0 (v := (some (.int (-1 : Int32)))) (fun h => by rw [Bd.returns] at h; cases h) hlk (fun fs hr => retOut X0 hx Bd.returns rfl (Or.inl ⟨rfl, Or.inl rfl, _, rfl⟩) (hb hby d13_75) hr) (by decide) (by decide) (Q := (own_Qint r) h0 n0) e0 ?_
      exact ⟨(by rw [hn.2]; simp [own_ix, hc3]), N0, rfl⟩
  · rw [hn.1]
    refine OwnEnd.of (S' := s₁.setTop (mkF m 6 #[.val (.ref b), .val (.int 2)] [(.int 0), (.ref b)])) (fun _ kK => XS.iloadN X0.here hx rfl (hb hby d13_0) rfl (XS.ifNo X0.here hx rfl (hb hby d13_1) rfl ((if0 _ _).trans (tlt ((by decide : (0 : Int32) < (2 : Int32)))).2.2.2) (XS.aloadN X0.here hx rfl (hb hby d13_4) rfl rfl (XS.iconst X0.here hx rfl (hb hby d13_5) kK)))) ?_
    obtain ⟨cl4, Ar4, q4, S4, N4', H4, G4⟩ := id P0
    have hin5 : ¬ ((0 : Int32) < 0 ∨ cl4.slots.size ≤ ((0 : Int32)).toNatClampNeg) := inb_of S4 ⟨by decide, by decide⟩
    refine OwnEnd.of (S' := s₁.setTop (mkF m 7 #[.val (.ref b), .val (.int 2)] [(.int c0)])) (fun _ kK => X0.caload hx (j := (0 : Int32)) (v := (.int c0)) (by rw [e0]; exact Ar4.1) (State.isArrayOf_alike hZ.alike Ar4.2.1) Ar4.2.2 hin5 (Has.at H4 hin5 (rfl)) (g := (mkF m 6 #[.val (.ref b), .val (.int 2)] [(.int 0), (.ref b)])) rfl rfl (hb hby d13_6) _ kK) ?_
    refine OwnEnd.of (S' := s₁.setTop (mkF m 9 #[.val (.ref b), .val (.int 2)] [(.int 58), (.int c0)])) (fun _ kK => XS.bipush X0.here hx rfl (hb hby d13_7) kK) ?_
    rcases Decidable.em (c0 = (58 : Int32)) with hc6 | hc6
    · refine OwnEnd.of (S' := s₁.setTop (mkF m 13 #[.val (.ref b), .val (.int 2)] [(.int 0)])) (fun _ kK => XS.icmpNo X0.here hx rfl (hb hby d13_9) rfl (teq (hc6)).2 (XS.iconst X0.here hx rfl (hb hby d13_12) kK)) ?_
      refine OwnEnd.ret X0 (v := (some (.int 0))) (fun h => by rw [Bd.returns] at h; cases h) hlk (fun fs hr => retOut X0 hx Bd.returns rfl (Or.inl ⟨rfl, Or.inl rfl, _, rfl⟩) (hb hby d13_13) hr) (by decide) (by decide) (Q := (own_Qint r) h0 n0) e0 ?_
      exact ⟨(by rw [hn.2]; simp [own_ix, hc6]), N0, rfl⟩
    · refine OwnEnd.of (S' := s₁.setTop (mkF m 21 #[.val (.ref b), .val (.int 2)] [(.int 1), (.ref b)])) (fun _ kK => XS.icmpYes X0.here hx rfl (pc0 := 9) (pc' := 14) rfl (hb hby d13_9) rfl (feq (hc6)).2 (by decide) (by decide) (XS.iloadN X0.here hx rfl (hb hby d13_14) rfl (XS.iconst X0.here hx rfl (hb hby d13_15) (XS.icmpNo X0.here hx rfl (hb hby d13_16) rfl (tlt ((by decide : (1 : Int32) < (2 : Int32)))).2.2.2 (XS.aloadN X0.here hx rfl (hb hby d13_19) rfl rfl (XS.iconst X0.here hx rfl (hb hby d13_20) kK)))))) ?_
      obtain ⟨cl7, Ar7, q7, S7, N7', H7, G7⟩ := id P0
      have hin8 : ¬ ((1 : Int32) < 0 ∨ cl7.slots.size ≤ ((1 : Int32)).toNatClampNeg) := inb_of S7 ⟨by decide, by decide⟩
      refine OwnEnd.of (S' := s₁.setTop (mkF m 22 #[.val (.ref b), .val (.int 2)] [(.int c1)])) (fun _ kK => X0.caload hx (j := (1 : Int32)) (v := (.int c1)) (by rw [e0]; exact Ar7.1) (State.isArrayOf_alike hZ.alike Ar7.2.1) Ar7.2.2 hin8 (Has.at H7 hin8 (rfl)) (g := (mkF m 21 #[.val (.ref b), .val (.int 2)] [(.int 1), (.ref b)])) rfl rfl (hb hby d13_21) _ kK) ?_
      refine OwnEnd.of (S' := s₁.setTop (mkF m 24 #[.val (.ref b), .val (.int 2)] [(.int 58), (.int c1)])) (fun _ kK => XS.bipush X0.here hx rfl (hb hby d13_22) kK) ?_
      rcases Decidable.em (c1 = (58 : Int32)) with hc9 | hc9
      · refine OwnEnd.of (S' := s₁.setTop (mkF m 28 #[.val (.ref b), .val (.int 2)] [(.int 1)])) (fun _ kK => XS.icmpNo X0.here hx rfl (hb hby d13_24) rfl (teq (hc9)).2 (XS.iconst X0.here hx rfl (hb hby d13_27) kK)) ?_
        refine OwnEnd.ret X0 (v := (some (.int 1))) (fun h => by rw [Bd.returns] at h; cases h) hlk (fun fs hr => retOut X0 hx Bd.returns rfl (Or.inl ⟨rfl, Or.inl rfl, _, rfl⟩) (hb hby d13_28) hr) (by decide) (by decide) (Q := (own_Qint r) h0 n0) e0 ?_
        exact ⟨(by rw [hn.2]; simp [own_ix, hc6, hc9]), N0, rfl⟩
      · refine OwnEnd.of (S' := s₁.setTop (mkF m 74 #[.val (.ref b), .val (.int 2)] [])) (fun _ kK => XS.icmpYes X0.here hx rfl (pc0 := 24) (pc' := 29) rfl (hb hby d13_24) rfl (feq (hc9)).2 (by decide) (by decide) (XS.iloadN X0.here hx rfl (hb hby d13_29) rfl (XS.iconst X0.here hx rfl (hb hby d13_30) (XS.icmpYes X0.here hx rfl (pc0 := 31) (pc' := 44) rfl (hb hby d13_31) rfl (flt ((by decide : ¬ ((2 : Int32) < (2 : Int32))))).2.2.2 (by decide) (by decide) (XS.iloadN X0.here hx rfl (hb hby d13_44) rfl (XS.iconst X0.here hx rfl (hb hby d13_45) (XS.icmpYes X0.here hx rfl (pc0 := 46) (pc' := 59) rfl (hb hby d13_46) rfl (flt ((by decide : ¬ ((3 : Int32) < (2 : Int32))))).2.2.2 (by decide) (by decide) (XS.iloadN X0.here hx rfl (hb hby d13_59) rfl (XS.iconst X0.here hx rfl (hb hby d13_60) (XS.icmpYes X0.here hx rfl (pc0 := 61) (pc' := 74) rfl (hb hby d13_61) rfl (flt ((by decide : ¬ ((4 : Int32) < (2 : Int32))))).2.2.2 (by decide) (by decide) kK)))))))))) ?_
        refine OwnEnd.of (S' := s₁.setTop (mkF m 75 #[.val (.ref b), .val (.int 2)] [(.int (-1 : Int32))])) (fun _ kK => XS.iconst X0.here hx rfl (hb hby d13_74) kK) ?_
        refine OwnEnd.ret X0 (v := (some (.int (-1 : Int32)))) (fun h => by rw [Bd.returns] at h; cases h) hlk (fun fs hr => retOut X0 hx Bd.returns rfl (Or.inl ⟨rfl, Or.inl rfl, _, rfl⟩) (hb hby d13_75) hr) (by decide) (by decide) (Q := (own_Qint r) h0 n0) e0 ?_
        exact ⟨(by rw [hn.2]; simp [own_ix, hc6, hc9]), N0, rfl⟩
  · rw [hn.1]
    refine OwnEnd.of (S' := s₁.setTop (mkF m 6 #[.val (.ref b), .val (.int 3)] [(.int 0), (.ref b)])) (fun _ kK => XS.iloadN X0.here hx rfl (hb hby d13_0) rfl (XS.ifNo X0.here hx rfl (hb hby d13_1) rfl ((if0 _ _).trans (tlt ((by decide : (0 : Int32) < (3 : Int32)))).2.2.2) (XS.aloadN X0.here hx rfl (hb hby d13_4) rfl rfl (XS.iconst X0.here hx rfl (hb hby d13_5) kK)))) ?_
    obtain ⟨cl10, Ar10, q10, S10, N10', H10, G10⟩ := id P0
    have hin11 : ¬ ((0 : Int32) < 0 ∨ cl10.slots.size ≤ ((0 : Int32)).toNatClampNeg) := inb_of S10 ⟨by decide, by decide⟩
    refine OwnEnd.of (S' := s₁.setTop (mkF m 7 #[.val (.ref b), .val (.int 3)] [(.int c0)])) (fun _ kK => X0.caload hx (j := (0 : Int32)) (v := (.int c0)) (by rw [e0]; exact Ar10.1) (State.isArrayOf_alike hZ.alike Ar10.2.1) Ar10.2.2 hin11 (Has.at H10 hin11 (rfl)) (g := (mkF m 6 #[.val (.ref b), .val (.int 3)] [(.int 0), (.ref b)])) rfl rfl (hb hby d13_6) _ kK) ?_
    refine OwnEnd.of (S' := s₁.setTop (mkF m 9 #[.val (.ref b), .val (.int 3)] [(.int 58), (.int c0)])) (fun _ kK => XS.bipush X0.here hx rfl (hb hby d13_7) kK) ?_
    rcases Decidable.em (c0 = (58 : Int32)) with hc12 | hc12
    · refine OwnEnd.of (S' := s₁.setTop (mkF m 13 #[.val (.ref b), .val (.int 3)] [(.int 0)])) (fun _ kK => XS.icmpNo X0.here hx rfl (hb hby d13_9) rfl (teq (hc12)).2 (XS.iconst X0.here hx rfl (hb hby d13_12) kK)) ?_
      refine OwnEnd.ret X0 (v := (some (.int 0))) (fun h => by rw [Bd.returns] at h; cases h) hlk (fun fs hr => retOut X0 hx Bd.returns rfl (Or.inl ⟨rfl, Or.inl rfl, _, rfl⟩) (hb hby d13_13) hr) (by decide) (by decide) (Q := (own_Qint r) h0 n0) e0 ?_
      exact ⟨(by rw [hn.2]; simp [own_ix, hc12]), N0, rfl⟩
    · refine OwnEnd.of (S' := s₁.setTop (mkF m 21 #[.val (.ref b), .val (.int 3)] [(.int 1), (.ref b)])) (fun _ kK => XS.icmpYes X0.here hx rfl (pc0 := 9) (pc' := 14) rfl (hb hby d13_9) rfl (feq (hc12)).2 (by decide) (by decide) (XS.iloadN X0.here hx rfl (hb hby d13_14) rfl (XS.iconst X0.here hx rfl (hb hby d13_15) (XS.icmpNo X0.here hx rfl (hb hby d13_16) rfl (tlt ((by decide : (1 : Int32) < (3 : Int32)))).2.2.2 (XS.aloadN X0.here hx rfl (hb hby d13_19) rfl rfl (XS.iconst X0.here hx rfl (hb hby d13_20) kK)))))) ?_
      obtain ⟨cl13, Ar13, q13, S13, N13', H13, G13⟩ := id P0
      have hin14 : ¬ ((1 : Int32) < 0 ∨ cl13.slots.size ≤ ((1 : Int32)).toNatClampNeg) := inb_of S13 ⟨by decide, by decide⟩
      refine OwnEnd.of (S' := s₁.setTop (mkF m 22 #[.val (.ref b), .val (.int 3)] [(.int c1)])) (fun _ kK => X0.caload hx (j := (1 : Int32)) (v := (.int c1)) (by rw [e0]; exact Ar13.1) (State.isArrayOf_alike hZ.alike Ar13.2.1) Ar13.2.2 hin14 (Has.at H13 hin14 (rfl)) (g := (mkF m 21 #[.val (.ref b), .val (.int 3)] [(.int 1), (.ref b)])) rfl rfl (hb hby d13_21) _ kK) ?_
      refine OwnEnd.of (S' := s₁.setTop (mkF m 24 #[.val (.ref b), .val (.int 3)] [(.int 58), (.int c1)])) (fun _ kK => XS.bipush X0.here hx rfl (hb hby d13_22) kK) ?_
      rcases Decidable.em (c1 = (58 : Int32)) with hc15 | hc15
      · refine OwnEnd.of (S' := s₁.setTop (mkF m 28 #[.val (.ref b), .val (.int 3)] [(.int 1)])) (fun _ kK => XS.icmpNo X0.here hx rfl (hb hby d13_24) rfl (teq (hc15)).2 (XS.iconst X0.here hx rfl (hb hby d13_27) kK)) ?_
        refine OwnEnd.ret X0 (v := (some (.int 1))) (fun h => by rw [Bd.returns] at h; cases h) hlk (fun fs hr => retOut X0 hx Bd.returns rfl (Or.inl ⟨rfl, Or.inl rfl, _, rfl⟩) (hb hby d13_28) hr) (by decide) (by decide) (Q := (own_Qint r) h0 n0) e0 ?_
        exact ⟨(by rw [hn.2]; simp [own_ix, hc12, hc15]), N0, rfl⟩
      · refine OwnEnd.of (S' := s₁.setTop (mkF m 36 #[.val (.ref b), .val (.int 3)] [(.int 2), (.ref b)])) (fun _ kK => XS.icmpYes X0.here hx rfl (pc0 := 24) (pc' := 29) rfl (hb hby d13_24) rfl (feq (hc15)).2 (by decide) (by decide) (XS.iloadN X0.here hx rfl (hb hby d13_29) rfl (XS.iconst X0.here hx rfl (hb hby d13_30) (XS.icmpNo X0.here hx rfl (hb hby d13_31) rfl (tlt ((by decide : (2 : Int32) < (3 : Int32)))).2.2.2 (XS.aloadN X0.here hx rfl (hb hby d13_34) rfl rfl (XS.iconst X0.here hx rfl (hb hby d13_35) kK)))))) ?_
        obtain ⟨cl16, Ar16, q16, S16, N16', H16, G16⟩ := id P0
        have hin17 : ¬ ((2 : Int32) < 0 ∨ cl16.slots.size ≤ ((2 : Int32)).toNatClampNeg) := inb_of S16 ⟨by decide, by decide⟩
        refine OwnEnd.of (S' := s₁.setTop (mkF m 37 #[.val (.ref b), .val (.int 3)] [(.int c2)])) (fun _ kK => X0.caload hx (j := (2 : Int32)) (v := (.int c2)) (by rw [e0]; exact Ar16.1) (State.isArrayOf_alike hZ.alike Ar16.2.1) Ar16.2.2 hin17 (Has.at H16 hin17 (rfl)) (g := (mkF m 36 #[.val (.ref b), .val (.int 3)] [(.int 2), (.ref b)])) rfl rfl (hb hby d13_36) _ kK) ?_
        refine OwnEnd.of (S' := s₁.setTop (mkF m 39 #[.val (.ref b), .val (.int 3)] [(.int 58), (.int c2)])) (fun _ kK => XS.bipush X0.here hx rfl (hb hby d13_37) kK) ?_
        rcases Decidable.em (c2 = (58 : Int32)) with hc18 | hc18
        · refine OwnEnd.of (S' := s₁.setTop (mkF m 43 #[.val (.ref b), .val (.int 3)] [(.int 2)])) (fun _ kK => XS.icmpNo X0.here hx rfl (hb hby d13_39) rfl (teq (hc18)).2 (XS.iconst X0.here hx rfl (hb hby d13_42) kK)) ?_
          refine OwnEnd.ret X0 (v := (some (.int 2))) (fun h => by rw [Bd.returns] at h; cases h) hlk (fun fs hr => retOut X0 hx Bd.returns rfl (Or.inl ⟨rfl, Or.inl rfl, _, rfl⟩) (hb hby d13_43) hr) (by decide) (by decide) (Q := (own_Qint r) h0 n0) e0 ?_
          exact ⟨(by rw [hn.2]; simp [own_ix, hc12, hc15, hc18]), N0, rfl⟩
        · refine OwnEnd.of (S' := s₁.setTop (mkF m 75 #[.val (.ref b), .val (.int 3)] [(.int (-1 : Int32))])) (fun _ kK => XS.icmpYes X0.here hx rfl (pc0 := 39) (pc' := 44) rfl (hb hby d13_39) rfl (feq (hc18)).2 (by decide) (by decide) (XS.iloadN X0.here hx rfl (hb hby d13_44) rfl (XS.iconst X0.here hx rfl (hb hby d13_45) (XS.icmpYes X0.here hx rfl (pc0 := 46) (pc' := 59) rfl (hb hby d13_46) rfl (flt ((by decide : ¬ ((3 : Int32) < (3 : Int32))))).2.2.2 (by decide) (by decide) (XS.iloadN X0.here hx rfl (hb hby d13_59) rfl (XS.iconst X0.here hx rfl (hb hby d13_60) (XS.icmpYes X0.here hx rfl (pc0 := 61) (pc' := 74) rfl (hb hby d13_61) rfl (flt ((by decide : ¬ ((4 : Int32) < (3 : Int32))))).2.2.2 (by decide) (by decide) (XS.iconst X0.here hx rfl (hb hby d13_74) kK)))))))) ?_
          refine OwnEnd.ret X0 (v := (some (.int (-1 : Int32)))) (fun h => by rw [Bd.returns] at h; cases h) hlk (fun fs hr => retOut X0 hx Bd.returns rfl (Or.inl ⟨rfl, Or.inl rfl, _, rfl⟩) (hb hby d13_75) hr) (by decide) (by decide) (Q := (own_Qint r) h0 n0) e0 ?_
          exact ⟨(by rw [hn.2]; simp [own_ix, hc12, hc15, hc18]), N0, rfl⟩
  · rw [hn.1]
    refine OwnEnd.of (S' := s₁.setTop (mkF m 6 #[.val (.ref b), .val (.int 4)] [(.int 0), (.ref b)])) (fun _ kK => XS.iloadN X0.here hx rfl (hb hby d13_0) rfl (XS.ifNo X0.here hx rfl (hb hby d13_1) rfl ((if0 _ _).trans (tlt ((by decide : (0 : Int32) < (4 : Int32)))).2.2.2) (XS.aloadN X0.here hx rfl (hb hby d13_4) rfl rfl (XS.iconst X0.here hx rfl (hb hby d13_5) kK)))) ?_
    obtain ⟨cl19, Ar19, q19, S19, N19', H19, G19⟩ := id P0
    have hin20 : ¬ ((0 : Int32) < 0 ∨ cl19.slots.size ≤ ((0 : Int32)).toNatClampNeg) := inb_of S19 ⟨by decide, by decide⟩
    refine OwnEnd.of (S' := s₁.setTop (mkF m 7 #[.val (.ref b), .val (.int 4)] [(.int c0)])) (fun _ kK => X0.caload hx (j := (0 : Int32)) (v := (.int c0)) (by rw [e0]; exact Ar19.1) (State.isArrayOf_alike hZ.alike Ar19.2.1) Ar19.2.2 hin20 (Has.at H19 hin20 (rfl)) (g := (mkF m 6 #[.val (.ref b), .val (.int 4)] [(.int 0), (.ref b)])) rfl rfl (hb hby d13_6) _ kK) ?_
    refine OwnEnd.of (S' := s₁.setTop (mkF m 9 #[.val (.ref b), .val (.int 4)] [(.int 58), (.int c0)])) (fun _ kK => XS.bipush X0.here hx rfl (hb hby d13_7) kK) ?_
    rcases Decidable.em (c0 = (58 : Int32)) with hc21 | hc21
    · refine OwnEnd.of (S' := s₁.setTop (mkF m 13 #[.val (.ref b), .val (.int 4)] [(.int 0)])) (fun _ kK => XS.icmpNo X0.here hx rfl (hb hby d13_9) rfl (teq (hc21)).2 (XS.iconst X0.here hx rfl (hb hby d13_12) kK)) ?_
      refine OwnEnd.ret X0 (v := (some (.int 0))) (fun h => by rw [Bd.returns] at h; cases h) hlk (fun fs hr => retOut X0 hx Bd.returns rfl (Or.inl ⟨rfl, Or.inl rfl, _, rfl⟩) (hb hby d13_13) hr) (by decide) (by decide) (Q := (own_Qint r) h0 n0) e0 ?_
      exact ⟨(by rw [hn.2]; simp [own_ix, hc21]), N0, rfl⟩
    · refine OwnEnd.of (S' := s₁.setTop (mkF m 21 #[.val (.ref b), .val (.int 4)] [(.int 1), (.ref b)])) (fun _ kK => XS.icmpYes X0.here hx rfl (pc0 := 9) (pc' := 14) rfl (hb hby d13_9) rfl (feq (hc21)).2 (by decide) (by decide) (XS.iloadN X0.here hx rfl (hb hby d13_14) rfl (XS.iconst X0.here hx rfl (hb hby d13_15) (XS.icmpNo X0.here hx rfl (hb hby d13_16) rfl (tlt ((by decide : (1 : Int32) < (4 : Int32)))).2.2.2 (XS.aloadN X0.here hx rfl (hb hby d13_19) rfl rfl (XS.iconst X0.here hx rfl (hb hby d13_20) kK)))))) ?_
      obtain ⟨cl22, Ar22, q22, S22, N22', H22, G22⟩ := id P0
      have hin23 : ¬ ((1 : Int32) < 0 ∨ cl22.slots.size ≤ ((1 : Int32)).toNatClampNeg) := inb_of S22 ⟨by decide, by decide⟩
      refine OwnEnd.of (S' := s₁.setTop (mkF m 22 #[.val (.ref b), .val (.int 4)] [(.int c1)])) (fun _ kK => X0.caload hx (j := (1 : Int32)) (v := (.int c1)) (by rw [e0]; exact Ar22.1) (State.isArrayOf_alike hZ.alike Ar22.2.1) Ar22.2.2 hin23 (Has.at H22 hin23 (rfl)) (g := (mkF m 21 #[.val (.ref b), .val (.int 4)] [(.int 1), (.ref b)])) rfl rfl (hb hby d13_21) _ kK) ?_
      refine OwnEnd.of (S' := s₁.setTop (mkF m 24 #[.val (.ref b), .val (.int 4)] [(.int 58), (.int c1)])) (fun _ kK => XS.bipush X0.here hx rfl (hb hby d13_22) kK) ?_
      rcases Decidable.em (c1 = (58 : Int32)) with hc24 | hc24
      · refine OwnEnd.of (S' := s₁.setTop (mkF m 28 #[.val (.ref b), .val (.int 4)] [(.int 1)])) (fun _ kK => XS.icmpNo X0.here hx rfl (hb hby d13_24) rfl (teq (hc24)).2 (XS.iconst X0.here hx rfl (hb hby d13_27) kK)) ?_
        refine OwnEnd.ret X0 (v := (some (.int 1))) (fun h => by rw [Bd.returns] at h; cases h) hlk (fun fs hr => retOut X0 hx Bd.returns rfl (Or.inl ⟨rfl, Or.inl rfl, _, rfl⟩) (hb hby d13_28) hr) (by decide) (by decide) (Q := (own_Qint r) h0 n0) e0 ?_
        exact ⟨(by rw [hn.2]; simp [own_ix, hc21, hc24]), N0, rfl⟩
      · refine OwnEnd.of (S' := s₁.setTop (mkF m 36 #[.val (.ref b), .val (.int 4)] [(.int 2), (.ref b)])) (fun _ kK => XS.icmpYes X0.here hx rfl (pc0 := 24) (pc' := 29) rfl (hb hby d13_24) rfl (feq (hc24)).2 (by decide) (by decide) (XS.iloadN X0.here hx rfl (hb hby d13_29) rfl (XS.iconst X0.here hx rfl (hb hby d13_30) (XS.icmpNo X0.here hx rfl (hb hby d13_31) rfl (tlt ((by decide : (2 : Int32) < (4 : Int32)))).2.2.2 (XS.aloadN X0.here hx rfl (hb hby d13_34) rfl rfl (XS.iconst X0.here hx rfl (hb hby d13_35) kK)))))) ?_
        obtain ⟨cl25, Ar25, q25, S25, N25', H25, G25⟩ := id P0
        have hin26 : ¬ ((2 : Int32) < 0 ∨ cl25.slots.size ≤ ((2 : Int32)).toNatClampNeg) := inb_of S25 ⟨by decide, by decide⟩
        refine OwnEnd.of (S' := s₁.setTop (mkF m 37 #[.val (.ref b), .val (.int 4)] [(.int c2)])) (fun _ kK => X0.caload hx (j := (2 : Int32)) (v := (.int c2)) (by rw [e0]; exact Ar25.1) (State.isArrayOf_alike hZ.alike Ar25.2.1) Ar25.2.2 hin26 (Has.at H25 hin26 (rfl)) (g := (mkF m 36 #[.val (.ref b), .val (.int 4)] [(.int 2), (.ref b)])) rfl rfl (hb hby d13_36) _ kK) ?_
        refine OwnEnd.of (S' := s₁.setTop (mkF m 39 #[.val (.ref b), .val (.int 4)] [(.int 58), (.int c2)])) (fun _ kK => XS.bipush X0.here hx rfl (hb hby d13_37) kK) ?_
        rcases Decidable.em (c2 = (58 : Int32)) with hc27 | hc27
        · refine OwnEnd.of (S' := s₁.setTop (mkF m 43 #[.val (.ref b), .val (.int 4)] [(.int 2)])) (fun _ kK => XS.icmpNo X0.here hx rfl (hb hby d13_39) rfl (teq (hc27)).2 (XS.iconst X0.here hx rfl (hb hby d13_42) kK)) ?_
          refine OwnEnd.ret X0 (v := (some (.int 2))) (fun h => by rw [Bd.returns] at h; cases h) hlk (fun fs hr => retOut X0 hx Bd.returns rfl (Or.inl ⟨rfl, Or.inl rfl, _, rfl⟩) (hb hby d13_43) hr) (by decide) (by decide) (Q := (own_Qint r) h0 n0) e0 ?_
          exact ⟨(by rw [hn.2]; simp [own_ix, hc21, hc24, hc27]), N0, rfl⟩
        · refine OwnEnd.of (S' := s₁.setTop (mkF m 51 #[.val (.ref b), .val (.int 4)] [(.int 3), (.ref b)])) (fun _ kK => XS.icmpYes X0.here hx rfl (pc0 := 39) (pc' := 44) rfl (hb hby d13_39) rfl (feq (hc27)).2 (by decide) (by decide) (XS.iloadN X0.here hx rfl (hb hby d13_44) rfl (XS.iconst X0.here hx rfl (hb hby d13_45) (XS.icmpNo X0.here hx rfl (hb hby d13_46) rfl (tlt ((by decide : (3 : Int32) < (4 : Int32)))).2.2.2 (XS.aloadN X0.here hx rfl (hb hby d13_49) rfl rfl (XS.iconst X0.here hx rfl (hb hby d13_50) kK)))))) ?_
          obtain ⟨cl28, Ar28, q28, S28, N28', H28, G28⟩ := id P0
          have hin29 : ¬ ((3 : Int32) < 0 ∨ cl28.slots.size ≤ ((3 : Int32)).toNatClampNeg) := inb_of S28 ⟨by decide, by decide⟩
          refine OwnEnd.of (S' := s₁.setTop (mkF m 52 #[.val (.ref b), .val (.int 4)] [(.int c3)])) (fun _ kK => X0.caload hx (j := (3 : Int32)) (v := (.int c3)) (by rw [e0]; exact Ar28.1) (State.isArrayOf_alike hZ.alike Ar28.2.1) Ar28.2.2 hin29 (Has.at H28 hin29 (rfl)) (g := (mkF m 51 #[.val (.ref b), .val (.int 4)] [(.int 3), (.ref b)])) rfl rfl (hb hby d13_51) _ kK) ?_
          refine OwnEnd.of (S' := s₁.setTop (mkF m 54 #[.val (.ref b), .val (.int 4)] [(.int 58), (.int c3)])) (fun _ kK => XS.bipush X0.here hx rfl (hb hby d13_52) kK) ?_
          rcases Decidable.em (c3 = (58 : Int32)) with hc30 | hc30
          · refine OwnEnd.of (S' := s₁.setTop (mkF m 58 #[.val (.ref b), .val (.int 4)] [(.int 3)])) (fun _ kK => XS.icmpNo X0.here hx rfl (hb hby d13_54) rfl (teq (hc30)).2 (XS.iconst X0.here hx rfl (hb hby d13_57) kK)) ?_
            refine OwnEnd.ret X0 (v := (some (.int 3))) (fun h => by rw [Bd.returns] at h; cases h) hlk (fun fs hr => retOut X0 hx Bd.returns rfl (Or.inl ⟨rfl, Or.inl rfl, _, rfl⟩) (hb hby d13_58) hr) (by decide) (by decide) (Q := (own_Qint r) h0 n0) e0 ?_
            exact ⟨(by rw [hn.2]; simp [own_ix, hc21, hc24, hc27, hc30]), N0, rfl⟩
          · refine OwnEnd.of (S' := s₁.setTop (mkF m 75 #[.val (.ref b), .val (.int 4)] [(.int (-1 : Int32))])) (fun _ kK => XS.icmpYes X0.here hx rfl (pc0 := 54) (pc' := 59) rfl (hb hby d13_54) rfl (feq (hc30)).2 (by decide) (by decide) (XS.iloadN X0.here hx rfl (hb hby d13_59) rfl (XS.iconst X0.here hx rfl (hb hby d13_60) (XS.icmpYes X0.here hx rfl (pc0 := 61) (pc' := 74) rfl (hb hby d13_61) rfl (flt ((by decide : ¬ ((4 : Int32) < (4 : Int32))))).2.2.2 (by decide) (by decide) (XS.iconst X0.here hx rfl (hb hby d13_74) kK))))) ?_
            refine OwnEnd.ret X0 (v := (some (.int (-1 : Int32)))) (fun h => by rw [Bd.returns] at h; cases h) hlk (fun fs hr => retOut X0 hx Bd.returns rfl (Or.inl ⟨rfl, Or.inl rfl, _, rfl⟩) (hb hby d13_75) hr) (by decide) (by decide) (Q := (own_Qint r) h0 n0) e0 ?_
            exact ⟨(by rw [hn.2]; simp [own_ix, hc21, hc24, hc27, hc30]), N0, rfl⟩
  · rw [hn.1]
    refine OwnEnd.of (S' := s₁.setTop (mkF m 6 #[.val (.ref b), .val (.int 5)] [(.int 0), (.ref b)])) (fun _ kK => XS.iloadN X0.here hx rfl (hb hby d13_0) rfl (XS.ifNo X0.here hx rfl (hb hby d13_1) rfl ((if0 _ _).trans (tlt ((by decide : (0 : Int32) < (5 : Int32)))).2.2.2) (XS.aloadN X0.here hx rfl (hb hby d13_4) rfl rfl (XS.iconst X0.here hx rfl (hb hby d13_5) kK)))) ?_
    obtain ⟨cl31, Ar31, q31, S31, N31', H31, G31⟩ := id P0
    have hin32 : ¬ ((0 : Int32) < 0 ∨ cl31.slots.size ≤ ((0 : Int32)).toNatClampNeg) := inb_of S31 ⟨by decide, by decide⟩
    refine OwnEnd.of (S' := s₁.setTop (mkF m 7 #[.val (.ref b), .val (.int 5)] [(.int c0)])) (fun _ kK => X0.caload hx (j := (0 : Int32)) (v := (.int c0)) (by rw [e0]; exact Ar31.1) (State.isArrayOf_alike hZ.alike Ar31.2.1) Ar31.2.2 hin32 (Has.at H31 hin32 (rfl)) (g := (mkF m 6 #[.val (.ref b), .val (.int 5)] [(.int 0), (.ref b)])) rfl rfl (hb hby d13_6) _ kK) ?_
    refine OwnEnd.of (S' := s₁.setTop (mkF m 9 #[.val (.ref b), .val (.int 5)] [(.int 58), (.int c0)])) (fun _ kK => XS.bipush X0.here hx rfl (hb hby d13_7) kK) ?_
    rcases Decidable.em (c0 = (58 : Int32)) with hc33 | hc33
    · refine OwnEnd.of (S' := s₁.setTop (mkF m 13 #[.val (.ref b), .val (.int 5)] [(.int 0)])) (fun _ kK => XS.icmpNo X0.here hx rfl (hb hby d13_9) rfl (teq (hc33)).2 (XS.iconst X0.here hx rfl (hb hby d13_12) kK)) ?_
      refine OwnEnd.ret X0 (v := (some (.int 0))) (fun h => by rw [Bd.returns] at h; cases h) hlk (fun fs hr => retOut X0 hx Bd.returns rfl (Or.inl ⟨rfl, Or.inl rfl, _, rfl⟩) (hb hby d13_13) hr) (by decide) (by decide) (Q := (own_Qint r) h0 n0) e0 ?_
      exact ⟨(by rw [hn.2]; simp [own_ix, hc33]), N0, rfl⟩
    · refine OwnEnd.of (S' := s₁.setTop (mkF m 21 #[.val (.ref b), .val (.int 5)] [(.int 1), (.ref b)])) (fun _ kK => XS.icmpYes X0.here hx rfl (pc0 := 9) (pc' := 14) rfl (hb hby d13_9) rfl (feq (hc33)).2 (by decide) (by decide) (XS.iloadN X0.here hx rfl (hb hby d13_14) rfl (XS.iconst X0.here hx rfl (hb hby d13_15) (XS.icmpNo X0.here hx rfl (hb hby d13_16) rfl (tlt ((by decide : (1 : Int32) < (5 : Int32)))).2.2.2 (XS.aloadN X0.here hx rfl (hb hby d13_19) rfl rfl (XS.iconst X0.here hx rfl (hb hby d13_20) kK)))))) ?_
      obtain ⟨cl34, Ar34, q34, S34, N34', H34, G34⟩ := id P0
      have hin35 : ¬ ((1 : Int32) < 0 ∨ cl34.slots.size ≤ ((1 : Int32)).toNatClampNeg) := inb_of S34 ⟨by decide, by decide⟩
      refine OwnEnd.of (S' := s₁.setTop (mkF m 22 #[.val (.ref b), .val (.int 5)] [(.int c1)])) (fun _ kK => X0.caload hx (j := (1 : Int32)) (v := (.int c1)) (by rw [e0]; exact Ar34.1) (State.isArrayOf_alike hZ.alike Ar34.2.1) Ar34.2.2 hin35 (Has.at H34 hin35 (rfl)) (g := (mkF m 21 #[.val (.ref b), .val (.int 5)] [(.int 1), (.ref b)])) rfl rfl (hb hby d13_21) _ kK) ?_
      refine OwnEnd.of (S' := s₁.setTop (mkF m 24 #[.val (.ref b), .val (.int 5)] [(.int 58), (.int c1)])) (fun _ kK => XS.bipush X0.here hx rfl (hb hby d13_22) kK) ?_
      rcases Decidable.em (c1 = (58 : Int32)) with hc36 | hc36
      · refine OwnEnd.of (S' := s₁.setTop (mkF m 28 #[.val (.ref b), .val (.int 5)] [(.int 1)])) (fun _ kK => XS.icmpNo X0.here hx rfl (hb hby d13_24) rfl (teq (hc36)).2 (XS.iconst X0.here hx rfl (hb hby d13_27) kK)) ?_
        refine OwnEnd.ret X0 (v := (some (.int 1))) (fun h => by rw [Bd.returns] at h; cases h) hlk (fun fs hr => retOut X0 hx Bd.returns rfl (Or.inl ⟨rfl, Or.inl rfl, _, rfl⟩) (hb hby d13_28) hr) (by decide) (by decide) (Q := (own_Qint r) h0 n0) e0 ?_
        exact ⟨(by rw [hn.2]; simp [own_ix, hc33, hc36]), N0, rfl⟩
      · refine OwnEnd.of (S' := s₁.setTop (mkF m 36 #[.val (.ref b), .val (.int 5)] [(.int 2), (.ref b)])) (fun _ kK => XS.icmpYes X0.here hx rfl (pc0 := 24) (pc' := 29) rfl (hb hby d13_24) rfl (feq (hc36)).2 (by decide) (by decide) (XS.iloadN X0.here hx rfl (hb hby d13_29) rfl (XS.iconst X0.here hx rfl (hb hby d13_30) (XS.icmpNo X0.here hx rfl (hb hby d13_31) rfl (tlt ((by decide : (2 : Int32) < (5 : Int32)))).2.2.2 (XS.aloadN X0.here hx rfl (hb hby d13_34) rfl rfl (XS.iconst X0.here hx rfl (hb hby d13_35) kK)))))) ?_
        obtain ⟨cl37, Ar37, q37, S37, N37', H37, G37⟩ := id P0
        have hin38 : ¬ ((2 : Int32) < 0 ∨ cl37.slots.size ≤ ((2 : Int32)).toNatClampNeg) := inb_of S37 ⟨by decide, by decide⟩
        refine OwnEnd.of (S' := s₁.setTop (mkF m 37 #[.val (.ref b), .val (.int 5)] [(.int c2)])) (fun _ kK => X0.caload hx (j := (2 : Int32)) (v := (.int c2)) (by rw [e0]; exact Ar37.1) (State.isArrayOf_alike hZ.alike Ar37.2.1) Ar37.2.2 hin38 (Has.at H37 hin38 (rfl)) (g := (mkF m 36 #[.val (.ref b), .val (.int 5)] [(.int 2), (.ref b)])) rfl rfl (hb hby d13_36) _ kK) ?_
        refine OwnEnd.of (S' := s₁.setTop (mkF m 39 #[.val (.ref b), .val (.int 5)] [(.int 58), (.int c2)])) (fun _ kK => XS.bipush X0.here hx rfl (hb hby d13_37) kK) ?_
        rcases Decidable.em (c2 = (58 : Int32)) with hc39 | hc39
        · refine OwnEnd.of (S' := s₁.setTop (mkF m 43 #[.val (.ref b), .val (.int 5)] [(.int 2)])) (fun _ kK => XS.icmpNo X0.here hx rfl (hb hby d13_39) rfl (teq (hc39)).2 (XS.iconst X0.here hx rfl (hb hby d13_42) kK)) ?_
          refine OwnEnd.ret X0 (v := (some (.int 2))) (fun h => by rw [Bd.returns] at h; cases h) hlk (fun fs hr => retOut X0 hx Bd.returns rfl (Or.inl ⟨rfl, Or.inl rfl, _, rfl⟩) (hb hby d13_43) hr) (by decide) (by decide) (Q := (own_Qint r) h0 n0) e0 ?_
          exact ⟨(by rw [hn.2]; simp [own_ix, hc33, hc36, hc39]), N0, rfl⟩
        · refine OwnEnd.of (S' := s₁.setTop (mkF m 51 #[.val (.ref b), .val (.int 5)] [(.int 3), (.ref b)])) (fun _ kK => XS.icmpYes X0.here hx rfl (pc0 := 39) (pc' := 44) rfl (hb hby d13_39) rfl (feq (hc39)).2 (by decide) (by decide) (XS.iloadN X0.here hx rfl (hb hby d13_44) rfl (XS.iconst X0.here hx rfl (hb hby d13_45) (XS.icmpNo X0.here hx rfl (hb hby d13_46) rfl (tlt ((by decide : (3 : Int32) < (5 : Int32)))).2.2.2 (XS.aloadN X0.here hx rfl (hb hby d13_49) rfl rfl (XS.iconst X0.here hx rfl (hb hby d13_50) kK)))))) ?_
          obtain ⟨cl40, Ar40, q40, S40, N40', H40, G40⟩ := id P0
          have hin41 : ¬ ((3 : Int32) < 0 ∨ cl40.slots.size ≤ ((3 : Int32)).toNatClampNeg) := inb_of S40 ⟨by decide, by decide⟩
          refine OwnEnd.of (S' := s₁.setTop (mkF m 52 #[.val (.ref b), .val (.int 5)] [(.int c3)])) (fun _ kK => X0.caload hx (j := (3 : Int32)) (v := (.int c3)) (by rw [e0]; exact Ar40.1) (State.isArrayOf_alike hZ.alike Ar40.2.1) Ar40.2.2 hin41 (Has.at H40 hin41 (rfl)) (g := (mkF m 51 #[.val (.ref b), .val (.int 5)] [(.int 3), (.ref b)])) rfl rfl (hb hby d13_51) _ kK) ?_
          refine OwnEnd.of (S' := s₁.setTop (mkF m 54 #[.val (.ref b), .val (.int 5)] [(.int 58), (.int c3)])) (fun _ kK => XS.bipush X0.here hx rfl (hb hby d13_52) kK) ?_
          rcases Decidable.em (c3 = (58 : Int32)) with hc42 | hc42
          · refine OwnEnd.of (S' := s₁.setTop (mkF m 58 #[.val (.ref b), .val (.int 5)] [(.int 3)])) (fun _ kK => XS.icmpNo X0.here hx rfl (hb hby d13_54) rfl (teq (hc42)).2 (XS.iconst X0.here hx rfl (hb hby d13_57) kK)) ?_
            refine OwnEnd.ret X0 (v := (some (.int 3))) (fun h => by rw [Bd.returns] at h; cases h) hlk (fun fs hr => retOut X0 hx Bd.returns rfl (Or.inl ⟨rfl, Or.inl rfl, _, rfl⟩) (hb hby d13_58) hr) (by decide) (by decide) (Q := (own_Qint r) h0 n0) e0 ?_
            exact ⟨(by rw [hn.2]; simp [own_ix, hc33, hc36, hc39, hc42]), N0, rfl⟩
          · refine OwnEnd.of (S' := s₁.setTop (mkF m 66 #[.val (.ref b), .val (.int 5)] [(.int 4), (.ref b)])) (fun _ kK => XS.icmpYes X0.here hx rfl (pc0 := 54) (pc' := 59) rfl (hb hby d13_54) rfl (feq (hc42)).2 (by decide) (by decide) (XS.iloadN X0.here hx rfl (hb hby d13_59) rfl (XS.iconst X0.here hx rfl (hb hby d13_60) (XS.icmpNo X0.here hx rfl (hb hby d13_61) rfl (tlt ((by decide : (4 : Int32) < (5 : Int32)))).2.2.2 (XS.aloadN X0.here hx rfl (hb hby d13_64) rfl rfl (XS.iconst X0.here hx rfl (hb hby d13_65) kK)))))) ?_
            obtain ⟨cl43, Ar43, q43, S43, N43', H43, G43⟩ := id P0
            have hin44 : ¬ ((4 : Int32) < 0 ∨ cl43.slots.size ≤ ((4 : Int32)).toNatClampNeg) := inb_of S43 ⟨by decide, by decide⟩
            refine OwnEnd.of (S' := s₁.setTop (mkF m 67 #[.val (.ref b), .val (.int 5)] [(.int c4)])) (fun _ kK => X0.caload hx (j := (4 : Int32)) (v := (.int c4)) (by rw [e0]; exact Ar43.1) (State.isArrayOf_alike hZ.alike Ar43.2.1) Ar43.2.2 hin44 (Has.at H43 hin44 (rfl)) (g := (mkF m 66 #[.val (.ref b), .val (.int 5)] [(.int 4), (.ref b)])) rfl rfl (hb hby d13_66) _ kK) ?_
            refine OwnEnd.of (S' := s₁.setTop (mkF m 69 #[.val (.ref b), .val (.int 5)] [(.int 58), (.int c4)])) (fun _ kK => XS.bipush X0.here hx rfl (hb hby d13_67) kK) ?_
            rcases Decidable.em (c4 = (58 : Int32)) with hc45 | hc45
            · refine OwnEnd.of (S' := s₁.setTop (mkF m 73 #[.val (.ref b), .val (.int 5)] [(.int 4)])) (fun _ kK => XS.icmpNo X0.here hx rfl (hb hby d13_69) rfl (teq (hc45)).2 (XS.iconst X0.here hx rfl (hb hby d13_72) kK)) ?_
              refine OwnEnd.ret X0 (v := (some (.int 4))) (fun h => by rw [Bd.returns] at h; cases h) hlk (fun fs hr => retOut X0 hx Bd.returns rfl (Or.inl ⟨rfl, Or.inl rfl, _, rfl⟩) (hb hby d13_73) hr) (by decide) (by decide) (Q := (own_Qint r) h0 n0) e0 ?_
              exact ⟨(by rw [hn.2]; simp [own_ix, hc33, hc36, hc39, hc42, hc45]), N0, rfl⟩
            · refine OwnEnd.of (S' := s₁.setTop (mkF m 75 #[.val (.ref b), .val (.int 5)] [(.int (-1 : Int32))])) (fun _ kK => XS.icmpYes X0.here hx rfl (pc0 := 69) (pc' := 74) rfl (hb hby d13_69) rfl (feq (hc45)).2 (by decide) (by decide) (XS.iconst X0.here hx rfl (hb hby d13_74) kK)) ?_
              refine OwnEnd.ret X0 (v := (some (.int (-1 : Int32)))) (fun h => by rw [Bd.returns] at h; cases h) hlk (fun fs hr => retOut X0 hx Bd.returns rfl (Or.inl ⟨rfl, Or.inl rfl, _, rfl⟩) (hb hby d13_75) hr) (by decide) (by decide) (Q := (own_Qint r) h0 n0) e0 ?_
              exact ⟨(by rw [hn.2]; simp [own_ix, hc33, hc36, hc39, hc42, hc45]), N0, rfl⟩

theorem own_efrf (m : MethodId) (b : Addr) (n : Int32) : entryFrame m #[(.ref b), (.int n)] 3 = mkF m 0 #[.val (.ref b), .val (.int n), .unset] [] := by first | (simp [entryFrame, mkF, argsToLocals, Value.category]; done) | rfl
set_option maxRecDepth 65536 in
set_option maxHeartbeats 40000000 in
theorem rmrf (l : Launch) (Z : State) (a0 : Array Value) (G : OwnG Z a0) (ws : List Jvm.Cond) (b : Addr) (kC : ClassId) (dC : Value) (c0 : Int32) (c1 : Int32) (c2 : Int32) (c3 : Int32) (c4 : Int32) (n : Int32) (r : Int32) (h0 : Heap) (n0 : Nat) (O0 : Old Z n0 h0) (P0 : Arv Z h0 b kC .char (5 : Int32) [(.int c0), (.int c1), (.int c2), (.int c3), (.int c4)] dC) (P1 : (n = (0 : Int32) ∧ r = (own_ix (0 : Int32) [])) ∨ (n = (1 : Int32) ∧ r = (own_ix (0 : Int32) [c0])) ∨ (n = (2 : Int32) ∧ r = (own_ix (0 : Int32) [c0, c1])) ∨ (n = (3 : Int32) ∧ r = (own_ix (0 : Int32) [c0, c1, c2])) ∨ (n = (4 : Int32) ∧ r = (own_ix (0 : Int32) [c0, c1, c2, c3])) ∨ (n = (5 : Int32) ∧ r = (own_ix (0 : Int32) [c0, c1, c2, c3, c4]))) :
    MetFree l own_m14 (head1 (Jvm.Cond.code own_m14 method_9_code 3 (some .boolean) :: ws) ({ frames := 3, cells := 0, slots := 0, locals := 40 } : Room)) (fun a U => a = #[(.ref b), (.int n)] ∧ Z.Warmed39 U.vm ∧ U.heap = h0) (fun _ _ _ _ _ => True) (fun _ U o U' => ∃ v L, o = .returned v ∧ (own_Qint (own_rfv n r c0 c1 c2 c3 c4)) h0 n0 v U'.heap L ∧ FrameEnd U o U' L ({ frames := 3, cells := 0, slots := 0, locals := 40 } : Room).cells ({ frames := 3, cells := 0, slots := 0, locals := 40 } : Room).slots) := by
  refine MetFree.of_bodySF (plainFor_of_name pn_3) hisR ?_
  intro p e s m args below meth cD s₁ Bd hml0 hP hK
  obtain ⟨rfl, hZ, hh⟩ := hP
  have hw := G.1
  have hx := Bd.exec
  have hby := Bd.bytes
  have hml : cD.maxLocals = 3 := hml0
  have hown : s.vm.findClass "com/example/vett/vett/model/IrisIsAbsolutePinLaw" = some m.cls := findClass_of_methodNamed Bd.named
  have hnm := (name_of_methodNamed Bd.named Bd.method).1
  have hlk := Bd.notSynchronized
  have X0 : Stand p l e ({ frames := 3, cells := 0, slots := 0, locals := 40 } : Room) s m #[(.ref b), (.int n)] below meth cD s₁ [] 0 0 := Stand.of_body Bd
  have e0 : s₁.heap = h0 := by rw [← hh, Bd.state]; rfl
  have lt0 := own_ltN' P0.lt
  have K0 : Keep h0 h0 [] := Keep.refl h0 _
  have Z0 := own_old_le O0
  have N0 := Fr.nil n0
  refine OwnEnd.start (g' := (mkF m 0 #[.val (.ref b), .val (.int n), .unset] [])) (own_efrf m b n) ?_
  refine OwnEnd.of (S' := s₁.setTop (mkF m 2 #[.val (.ref b), .val (.int n), .unset] [(.int n), (.ref b)])) (fun _ kK => XS.aloadN X0.here hx rfl (hb hby d14_0) rfl rfl (XS.iloadN X0.here hx rfl (hb hby d14_1) rfl kK)) ?_
  obtain ⟨_, _, ⟨T1, L1, k1, n1⟩, -, X1, ⟨Lc1, hQ1, l1, y1, z1⟩, st1⟩ := Jvm.LawKit.callS X0 hx (y := own_m13) hown (mvT hZ (own_w G 30 rfl)) (mvT hZ (own_w G 31 rfl)) (mvT hZ (own_w G 4 rfl)) (mvT hZ (own_w G 32 rfl)) (by decide) (backOf (W := 0) (rmfc l Z a0 G [] b kC dC c0 c1 c2 c3 c4 n r h0 n0 O0 P0 P1) hZ (own_w G 32 rfl) (own_w G 4 rfl) (by decide) (by decide)) (g := (mkF m 2 #[.val (.ref b), .val (.int n), .unset] [(.int n), (.ref b)])) rfl (by rw [hml]; rfl) (argsL := [(.ref b), (.int n)]) (rest := []) (lenOf pd_7 rfl) rfl (by show 2 * 0 + _ ≤ _; exact Nat.le_of_eq rfl) (hb hby d14_2) (fun _ _ => ⟨rfl, e0, (by decide : 0 + 0 ≤ _), (by decide : 0 + 0 ≤ _)⟩)
  dsimp only [Pt.U, Pt.locs, Pt.cells, Pt.slots] at X1 l1 y1 z1 st1 hQ1
  subst l1 y1 z1
  obtain ⟨rfl, N1q, eh1⟩ := hQ1
  have N1 := Fr.app N0 N1q
  refine OwnEnd.of (S' := T1.setTop (mkF m 5 #[.val (.ref b), .val (.int n), .unset] [(.int r)])) st1 ?_
  refine OwnEnd.of (S' := T1.setTop (mkF m 7 #[.val (.ref b), .val (.int n), .val (.int r)] [(.int r)])) (fun _ kK => XS.istoreN X1.here hx rfl (hb hby d14_5) rfl (l' := #[.val (.ref b), .val (.int n), .val (.int r)]) rfl (XS.iloadN X1.here hx rfl (hb hby d14_6) rfl kK)) ?_
  rcases Decidable.em ((0 : Int32) < r) with hc2 | hc2
  · refine OwnEnd.of (S' := T1.setTop (mkF m 14 #[.val (.ref b), .val (.int n), .val (.int r)] [(.int 0), (.int r), (.int n), (.ref b)])) (fun _ kK => XS.ifNo X1.here hx rfl (hb hby d14_7) rfl ((if0 _ _).trans (tlt (hc2)).2.2.2) (XS.aloadN X1.here hx rfl (hb hby d14_10) rfl rfl (XS.iloadN X1.here hx rfl (hb hby d14_11) rfl (XS.iloadN X1.here hx rfl (hb hby d14_12) rfl (XS.iconst X1.here hx rfl (hb hby d14_13) kK))))) ?_
    obtain ⟨_, _, ⟨T3, L3, k3, n3⟩, -, X3, ⟨Lc3, hQ3, l3, y3, z3⟩, st3⟩ := Jvm.LawKit.callS X1 hx (y := own_m12) hown (mvT hZ (own_w G 90 rfl)) (mvT hZ (own_w G 91 rfl)) (mvT hZ (own_w G 4 rfl)) (mvT hZ (own_w G 92 rfl)) (by decide) (backOf (W := 0) (rmok l Z a0 G [] b kC [(.int c0), (.int c1), (.int c2), (.int c3), (.int c4)] dC n r (0 : Int32) c0 h0 n0 O0 P0 (by decide : ¬ (0 : Int32) < (0 : Int32)) (by decide : (0 : Int32) < (5 : Int32)) (by rfl : [(.int c0), (.int c1), (.int c2), (.int c3), (.int c4)].getD (0 : Int32).toNatClampNeg dC = (.int c0))) hZ (own_w G 92 rfl) (own_w G 4 rfl) (by decide) (by decide)) (g := (mkF m 14 #[.val (.ref b), .val (.int n), .val (.int r)] [(.int 0), (.int r), (.int n), (.ref b)])) rfl (by rw [hml]; rfl) (argsL := [(.ref b), (.int n), (.int r), (.int 0)]) (rest := []) (lenOf pd_8 rfl) rfl (by show 2 * 0 + _ ≤ _; exact Nat.le_of_eq rfl) (hb hby d14_14) (fun _ _ => ⟨rfl, eh1, (by decide : 0 + 0 ≤ _), (by decide : 0 + 0 ≤ _)⟩)
    dsimp only [Pt.U, Pt.locs, Pt.cells, Pt.slots] at X3 l3 y3 z3 st3 hQ3
    subst l3 y3 z3
    obtain ⟨rfl, N3q, eh3⟩ := hQ3
    have N3 := Fr.app N1 N3q
    refine OwnEnd.of (S' := T3.setTop (mkF m 17 #[.val (.ref b), .val (.int n), .val (.int r)] [(.int (own_okv n r (0 : Int32) c0))])) st3 ?_
    rcases own_okv01 n r (0 : Int32) c0 with hb4 | hb4
    · rw [hb4]
      refine OwnEnd.of (S' := T3.setTop (mkF m 65 #[.val (.ref b), .val (.int n), .val (.int r)] [(.int 0)])) (fun _ kK => XS.ifYes X3.here hx rfl (pc0 := 17) (pc' := 64) rfl (hb hby d14_17) rfl ((if0 _ _).trans (teq ((by decide : (0 : Int32) = (0 : Int32)))).1) (by decide) (by decide) (XS.iconst X3.here hx rfl (hb hby d14_64) kK)) ?_
      refine OwnEnd.ret X3 (v := (some (.int (nar .boolean (0 : Int32))))) (fun h => by rw [Bd.returns] at h; cases h) hlk (fun fs hr => retN X3 hx (t := .boolean) Bd.returns (by simp) (hb hby d14_65) hr) (by decide) (by decide) (Q := (own_Qint (own_rfv n r c0 c1 c2 c3 c4)) h0 n0) eh3 ?_
      exact ⟨(by show some (Value.int (nar .boolean (0 : Int32))) = _; simp [own_rfv, nar, hc2, hb4]), N3, rfl⟩
    · rw [hb4]
      refine OwnEnd.of (S' := T3.setTop (mkF m 24 #[.val (.ref b), .val (.int n), .val (.int r)] [(.int 1), (.int r), (.int n), (.ref b)])) (fun _ kK => XS.ifNo X3.here hx rfl (hb hby d14_17) rfl ((if0 _ _).trans (feq ((by decide : ¬ ((1 : Int32) = (0 : Int32))))).1) (XS.aloadN X3.here hx rfl (hb hby d14_20) rfl rfl (XS.iloadN X3.here hx rfl (hb hby d14_21) rfl (XS.iloadN X3.here hx rfl (hb hby d14_22) rfl (XS.iconst X3.here hx rfl (hb hby d14_23) kK))))) ?_
      obtain ⟨_, _, ⟨T5, L5, k5, n5⟩, -, X5, ⟨Lc5, hQ5, l5, y5, z5⟩, st5⟩ := Jvm.LawKit.callS X3 hx (y := own_m12) hown (mvT hZ (own_w G 90 rfl)) (mvT hZ (own_w G 91 rfl)) (mvT hZ (own_w G 4 rfl)) (mvT hZ (own_w G 92 rfl)) (by decide) (backOf (W := 0) (rmok l Z a0 G [] b kC [(.int c0), (.int c1), (.int c2), (.int c3), (.int c4)] dC n r (1 : Int32) c1 h0 n0 O0 P0 (by decide : ¬ (1 : Int32) < (0 : Int32)) (by decide : (1 : Int32) < (5 : Int32)) (by rfl : [(.int c0), (.int c1), (.int c2), (.int c3), (.int c4)].getD (1 : Int32).toNatClampNeg dC = (.int c1))) hZ (own_w G 92 rfl) (own_w G 4 rfl) (by decide) (by decide)) (g := (mkF m 24 #[.val (.ref b), .val (.int n), .val (.int r)] [(.int 1), (.int r), (.int n), (.ref b)])) rfl (by rw [hml]; rfl) (argsL := [(.ref b), (.int n), (.int r), (.int 1)]) (rest := []) (lenOf pd_8 rfl) rfl (by show 2 * 0 + _ ≤ _; exact Nat.le_of_eq rfl) (hb hby d14_24) (fun _ _ => ⟨rfl, eh3, (by decide : 0 + 0 ≤ _), (by decide : 0 + 0 ≤ _)⟩)
      dsimp only [Pt.U, Pt.locs, Pt.cells, Pt.slots] at X5 l5 y5 z5 st5 hQ5
      subst l5 y5 z5
      obtain ⟨rfl, N5q, eh5⟩ := hQ5
      have N5 := Fr.app N3 N5q
      refine OwnEnd.of (S' := T5.setTop (mkF m 27 #[.val (.ref b), .val (.int n), .val (.int r)] [(.int (own_okv n r (1 : Int32) c1))])) st5 ?_
      rcases own_okv01 n r (1 : Int32) c1 with hb6 | hb6
      · rw [hb6]
        refine OwnEnd.of (S' := T5.setTop (mkF m 65 #[.val (.ref b), .val (.int n), .val (.int r)] [(.int 0)])) (fun _ kK => XS.ifYes X5.here hx rfl (pc0 := 27) (pc' := 64) rfl (hb hby d14_27) rfl ((if0 _ _).trans (teq ((by decide : (0 : Int32) = (0 : Int32)))).1) (by decide) (by decide) (XS.iconst X5.here hx rfl (hb hby d14_64) kK)) ?_
        refine OwnEnd.ret X5 (v := (some (.int (nar .boolean (0 : Int32))))) (fun h => by rw [Bd.returns] at h; cases h) hlk (fun fs hr => retN X5 hx (t := .boolean) Bd.returns (by simp) (hb hby d14_65) hr) (by decide) (by decide) (Q := (own_Qint (own_rfv n r c0 c1 c2 c3 c4)) h0 n0) eh5 ?_
        exact ⟨(by show some (Value.int (nar .boolean (0 : Int32))) = _; simp [own_rfv, nar, hc2, hb4, hb6]), N5, rfl⟩
      · rw [hb6]
        refine OwnEnd.of (S' := T5.setTop (mkF m 34 #[.val (.ref b), .val (.int n), .val (.int r)] [(.int 2), (.int r), (.int n), (.ref b)])) (fun _ kK => XS.ifNo X5.here hx rfl (hb hby d14_27) rfl ((if0 _ _).trans (feq ((by decide : ¬ ((1 : Int32) = (0 : Int32))))).1) (XS.aloadN X5.here hx rfl (hb hby d14_30) rfl rfl (XS.iloadN X5.here hx rfl (hb hby d14_31) rfl (XS.iloadN X5.here hx rfl (hb hby d14_32) rfl (XS.iconst X5.here hx rfl (hb hby d14_33) kK))))) ?_
        obtain ⟨_, _, ⟨T7, L7, k7, n7⟩, -, X7, ⟨Lc7, hQ7, l7, y7, z7⟩, st7⟩ := Jvm.LawKit.callS X5 hx (y := own_m12) hown (mvT hZ (own_w G 90 rfl)) (mvT hZ (own_w G 91 rfl)) (mvT hZ (own_w G 4 rfl)) (mvT hZ (own_w G 92 rfl)) (by decide) (backOf (W := 0) (rmok l Z a0 G [] b kC [(.int c0), (.int c1), (.int c2), (.int c3), (.int c4)] dC n r (2 : Int32) c2 h0 n0 O0 P0 (by decide : ¬ (2 : Int32) < (0 : Int32)) (by decide : (2 : Int32) < (5 : Int32)) (by rfl : [(.int c0), (.int c1), (.int c2), (.int c3), (.int c4)].getD (2 : Int32).toNatClampNeg dC = (.int c2))) hZ (own_w G 92 rfl) (own_w G 4 rfl) (by decide) (by decide)) (g := (mkF m 34 #[.val (.ref b), .val (.int n), .val (.int r)] [(.int 2), (.int r), (.int n), (.ref b)])) rfl (by rw [hml]; rfl) (argsL := [(.ref b), (.int n), (.int r), (.int 2)]) (rest := []) (lenOf pd_8 rfl) rfl (by show 2 * 0 + _ ≤ _; exact Nat.le_of_eq rfl) (hb hby d14_34) (fun _ _ => ⟨rfl, eh5, (by decide : 0 + 0 ≤ _), (by decide : 0 + 0 ≤ _)⟩)
        dsimp only [Pt.U, Pt.locs, Pt.cells, Pt.slots] at X7 l7 y7 z7 st7 hQ7
        subst l7 y7 z7
        obtain ⟨rfl, N7q, eh7⟩ := hQ7
        have N7 := Fr.app N5 N7q
        refine OwnEnd.of (S' := T7.setTop (mkF m 37 #[.val (.ref b), .val (.int n), .val (.int r)] [(.int (own_okv n r (2 : Int32) c2))])) st7 ?_
        rcases own_okv01 n r (2 : Int32) c2 with hb8 | hb8
        · rw [hb8]
          refine OwnEnd.of (S' := T7.setTop (mkF m 65 #[.val (.ref b), .val (.int n), .val (.int r)] [(.int 0)])) (fun _ kK => XS.ifYes X7.here hx rfl (pc0 := 37) (pc' := 64) rfl (hb hby d14_37) rfl ((if0 _ _).trans (teq ((by decide : (0 : Int32) = (0 : Int32)))).1) (by decide) (by decide) (XS.iconst X7.here hx rfl (hb hby d14_64) kK)) ?_
          refine OwnEnd.ret X7 (v := (some (.int (nar .boolean (0 : Int32))))) (fun h => by rw [Bd.returns] at h; cases h) hlk (fun fs hr => retN X7 hx (t := .boolean) Bd.returns (by simp) (hb hby d14_65) hr) (by decide) (by decide) (Q := (own_Qint (own_rfv n r c0 c1 c2 c3 c4)) h0 n0) eh7 ?_
          exact ⟨(by show some (Value.int (nar .boolean (0 : Int32))) = _; simp [own_rfv, nar, hc2, hb4, hb6, hb8]), N7, rfl⟩
        · rw [hb8]
          refine OwnEnd.of (S' := T7.setTop (mkF m 44 #[.val (.ref b), .val (.int n), .val (.int r)] [(.int 3), (.int r), (.int n), (.ref b)])) (fun _ kK => XS.ifNo X7.here hx rfl (hb hby d14_37) rfl ((if0 _ _).trans (feq ((by decide : ¬ ((1 : Int32) = (0 : Int32))))).1) (XS.aloadN X7.here hx rfl (hb hby d14_40) rfl rfl (XS.iloadN X7.here hx rfl (hb hby d14_41) rfl (XS.iloadN X7.here hx rfl (hb hby d14_42) rfl (XS.iconst X7.here hx rfl (hb hby d14_43) kK))))) ?_
          obtain ⟨_, _, ⟨T9, L9, k9, n9⟩, -, X9, ⟨Lc9, hQ9, l9, y9, z9⟩, st9⟩ := Jvm.LawKit.callS X7 hx (y := own_m12) hown (mvT hZ (own_w G 90 rfl)) (mvT hZ (own_w G 91 rfl)) (mvT hZ (own_w G 4 rfl)) (mvT hZ (own_w G 92 rfl)) (by decide) (backOf (W := 0) (rmok l Z a0 G [] b kC [(.int c0), (.int c1), (.int c2), (.int c3), (.int c4)] dC n r (3 : Int32) c3 h0 n0 O0 P0 (by decide : ¬ (3 : Int32) < (0 : Int32)) (by decide : (3 : Int32) < (5 : Int32)) (by rfl : [(.int c0), (.int c1), (.int c2), (.int c3), (.int c4)].getD (3 : Int32).toNatClampNeg dC = (.int c3))) hZ (own_w G 92 rfl) (own_w G 4 rfl) (by decide) (by decide)) (g := (mkF m 44 #[.val (.ref b), .val (.int n), .val (.int r)] [(.int 3), (.int r), (.int n), (.ref b)])) rfl (by rw [hml]; rfl) (argsL := [(.ref b), (.int n), (.int r), (.int 3)]) (rest := []) (lenOf pd_8 rfl) rfl (by show 2 * 0 + _ ≤ _; exact Nat.le_of_eq rfl) (hb hby d14_44) (fun _ _ => ⟨rfl, eh7, (by decide : 0 + 0 ≤ _), (by decide : 0 + 0 ≤ _)⟩)
          dsimp only [Pt.U, Pt.locs, Pt.cells, Pt.slots] at X9 l9 y9 z9 st9 hQ9
          subst l9 y9 z9
          obtain ⟨rfl, N9q, eh9⟩ := hQ9
          have N9 := Fr.app N7 N9q
          refine OwnEnd.of (S' := T9.setTop (mkF m 47 #[.val (.ref b), .val (.int n), .val (.int r)] [(.int (own_okv n r (3 : Int32) c3))])) st9 ?_
          rcases own_okv01 n r (3 : Int32) c3 with hb10 | hb10
          · rw [hb10]
            refine OwnEnd.of (S' := T9.setTop (mkF m 65 #[.val (.ref b), .val (.int n), .val (.int r)] [(.int 0)])) (fun _ kK => XS.ifYes X9.here hx rfl (pc0 := 47) (pc' := 64) rfl (hb hby d14_47) rfl ((if0 _ _).trans (teq ((by decide : (0 : Int32) = (0 : Int32)))).1) (by decide) (by decide) (XS.iconst X9.here hx rfl (hb hby d14_64) kK)) ?_
            refine OwnEnd.ret X9 (v := (some (.int (nar .boolean (0 : Int32))))) (fun h => by rw [Bd.returns] at h; cases h) hlk (fun fs hr => retN X9 hx (t := .boolean) Bd.returns (by simp) (hb hby d14_65) hr) (by decide) (by decide) (Q := (own_Qint (own_rfv n r c0 c1 c2 c3 c4)) h0 n0) eh9 ?_
            exact ⟨(by show some (Value.int (nar .boolean (0 : Int32))) = _; simp [own_rfv, nar, hc2, hb4, hb6, hb8, hb10]), N9, rfl⟩
          · rw [hb10]
            refine OwnEnd.of (S' := T9.setTop (mkF m 54 #[.val (.ref b), .val (.int n), .val (.int r)] [(.int 4), (.int r), (.int n), (.ref b)])) (fun _ kK => XS.ifNo X9.here hx rfl (hb hby d14_47) rfl ((if0 _ _).trans (feq ((by decide : ¬ ((1 : Int32) = (0 : Int32))))).1) (XS.aloadN X9.here hx rfl (hb hby d14_50) rfl rfl (XS.iloadN X9.here hx rfl (hb hby d14_51) rfl (XS.iloadN X9.here hx rfl (hb hby d14_52) rfl (XS.iconst X9.here hx rfl (hb hby d14_53) kK))))) ?_
            obtain ⟨_, _, ⟨T11, L11, k11, n11⟩, -, X11, ⟨Lc11, hQ11, l11, y11, z11⟩, st11⟩ := Jvm.LawKit.callS X9 hx (y := own_m12) hown (mvT hZ (own_w G 90 rfl)) (mvT hZ (own_w G 91 rfl)) (mvT hZ (own_w G 4 rfl)) (mvT hZ (own_w G 92 rfl)) (by decide) (backOf (W := 0) (rmok l Z a0 G [] b kC [(.int c0), (.int c1), (.int c2), (.int c3), (.int c4)] dC n r (4 : Int32) c4 h0 n0 O0 P0 (by decide : ¬ (4 : Int32) < (0 : Int32)) (by decide : (4 : Int32) < (5 : Int32)) (by rfl : [(.int c0), (.int c1), (.int c2), (.int c3), (.int c4)].getD (4 : Int32).toNatClampNeg dC = (.int c4))) hZ (own_w G 92 rfl) (own_w G 4 rfl) (by decide) (by decide)) (g := (mkF m 54 #[.val (.ref b), .val (.int n), .val (.int r)] [(.int 4), (.int r), (.int n), (.ref b)])) rfl (by rw [hml]; rfl) (argsL := [(.ref b), (.int n), (.int r), (.int 4)]) (rest := []) (lenOf pd_8 rfl) rfl (by show 2 * 0 + _ ≤ _; exact Nat.le_of_eq rfl) (hb hby d14_54) (fun _ _ => ⟨rfl, eh9, (by decide : 0 + 0 ≤ _), (by decide : 0 + 0 ≤ _)⟩)
            dsimp only [Pt.U, Pt.locs, Pt.cells, Pt.slots] at X11 l11 y11 z11 st11 hQ11
            subst l11 y11 z11
            obtain ⟨rfl, N11q, eh11⟩ := hQ11
            have N11 := Fr.app N9 N11q
            refine OwnEnd.of (S' := T11.setTop (mkF m 57 #[.val (.ref b), .val (.int n), .val (.int r)] [(.int (own_okv n r (4 : Int32) c4))])) st11 ?_
            rcases own_okv01 n r (4 : Int32) c4 with hb12 | hb12
            · rw [hb12]
              refine OwnEnd.of (S' := T11.setTop (mkF m 65 #[.val (.ref b), .val (.int n), .val (.int r)] [(.int 0)])) (fun _ kK => XS.ifYes X11.here hx rfl (pc0 := 57) (pc' := 64) rfl (hb hby d14_57) rfl ((if0 _ _).trans (teq ((by decide : (0 : Int32) = (0 : Int32)))).1) (by decide) (by decide) (XS.iconst X11.here hx rfl (hb hby d14_64) kK)) ?_
              refine OwnEnd.ret X11 (v := (some (.int (nar .boolean (0 : Int32))))) (fun h => by rw [Bd.returns] at h; cases h) hlk (fun fs hr => retN X11 hx (t := .boolean) Bd.returns (by simp) (hb hby d14_65) hr) (by decide) (by decide) (Q := (own_Qint (own_rfv n r c0 c1 c2 c3 c4)) h0 n0) eh11 ?_
              exact ⟨(by show some (Value.int (nar .boolean (0 : Int32))) = _; simp [own_rfv, nar, hc2, hb4, hb6, hb8, hb10, hb12]), N11, rfl⟩
            · rw [hb12]
              refine OwnEnd.of (S' := T11.setTop (mkF m 65 #[.val (.ref b), .val (.int n), .val (.int r)] [(.int 1)])) (fun _ kK => XS.ifNo X11.here hx rfl (hb hby d14_57) rfl ((if0 _ _).trans (feq ((by decide : ¬ ((1 : Int32) = (0 : Int32))))).1) (XS.iconst X11.here hx rfl (hb hby d14_60) (XS.goto X11.here hx rfl (pc0 := 61) (pc' := 65) rfl (hb hby d14_61) (by decide) (by decide) kK))) ?_
              refine OwnEnd.ret X11 (v := (some (.int (nar .boolean (1 : Int32))))) (fun h => by rw [Bd.returns] at h; cases h) hlk (fun fs hr => retN X11 hx (t := .boolean) Bd.returns (by simp) (hb hby d14_65) hr) (by decide) (by decide) (Q := (own_Qint (own_rfv n r c0 c1 c2 c3 c4)) h0 n0) eh11 ?_
              exact ⟨(by show some (Value.int (nar .boolean (1 : Int32))) = _; simp [own_rfv, nar, hc2, hb4, hb6, hb8, hb10, hb12]), N11, rfl⟩
  · refine OwnEnd.of (S' := T1.setTop (mkF m 65 #[.val (.ref b), .val (.int n), .val (.int r)] [(.int 0)])) (fun _ kK => XS.ifYes X1.here hx rfl (pc0 := 7) (pc' := 64) rfl (hb hby d14_7) rfl ((if0 _ _).trans (flt (hc2)).2.2.2) (by decide) (by decide) (XS.iconst X1.here hx rfl (hb hby d14_64) kK)) ?_
    refine OwnEnd.ret X1 (v := (some (.int (nar .boolean (0 : Int32))))) (fun h => by rw [Bd.returns] at h; cases h) hlk (fun fs hr => retN X1 hx (t := .boolean) Bd.returns (by simp) (hb hby d14_65) hr) (by decide) (by decide) (Q := (own_Qint (own_rfv n r c0 c1 c2 c3 c4)) h0 n0) eh1 ?_
    exact ⟨(by show some (Value.int (nar .boolean (0 : Int32))) = _; simp [own_rfv, nar, hc2]), N1, rfl⟩

theorem own_efce (m : MethodId) : entryFrame m #[(.int 58)] 1 = mkF m 0 #[.val (.int 58)] [] := by first | (simp [entryFrame, mkF, argsToLocals, Value.category]; done) | rfl
set_option maxRecDepth 65536 in
set_option maxHeartbeats 40000000 in
theorem rmce (l : Launch) (Z : State) (a0 : Array Value) (G : OwnG Z a0) (ws : List Jvm.Cond)  (h0 : Heap) (n0 : Nat) (O0 : Old Z n0 h0)  :
    MetFree l own_m15 (head1 (Jvm.Cond.code own_m15 jdk_43_method_4_code 1 (some .boolean) :: ws) ({ frames := 0, cells := 0, slots := 0, locals := 0 } : Room)) (fun a U => a = #[(.int 58)] ∧ Z.Warmed39 U.vm ∧ U.heap = h0) (fun _ _ _ _ _ => True) (fun _ U o U' => ∃ v L, o = .returned v ∧ (own_Qint (1 : Int32)) h0 n0 v U'.heap L ∧ FrameEnd U o U' L ({ frames := 0, cells := 0, slots := 0, locals := 0 } : Room).cells ({ frames := 0, cells := 0, slots := 0, locals := 0 } : Room).slots) := by
  refine MetFree.of_bodySF (plainFor_of_name pn_2) hisR ?_
  intro p e s m args below meth cD s₁ Bd hml0 hP hK
  obtain ⟨rfl, hZ, hh⟩ := hP
  have hw := G.1
  have hx := Bd.exec
  have hby := Bd.bytes
  have hml : cD.maxLocals = 1 := hml0
  have hown : s.vm.findClass "java/lang/StringLatin1" = some m.cls := findClass_of_methodNamed Bd.named
  have hnm := (name_of_methodNamed Bd.named Bd.method).1
  have hlk := Bd.notSynchronized
  have X0 : Stand p l e ({ frames := 0, cells := 0, slots := 0, locals := 0 } : Room) s m #[(.int 58)] below meth cD s₁ [] 0 0 := Stand.of_body Bd
  have e0 : s₁.heap = h0 := by rw [← hh, Bd.state]; rfl
  have K0 : Keep h0 h0 [] := Keep.refl h0 _
  have Z0 := own_old_le O0
  have N0 := Fr.nil n0
  refine OwnEnd.start (g' := (mkF m 0 #[.val (.int 58)] [])) (own_efce m ) ?_
  refine OwnEnd.of (S' := s₁.setTop (mkF m 16 #[.val (.int 58)] [(.int 1)])) (fun _ kK => XS.iloadN X0.here hx rfl (hb hby d15_0) rfl (XS.ifNo X0.here hx rfl (hb hby d15_1) rfl ((if0 _ _).trans (flt ((by decide : ¬ ((58 : Int32) < (0 : Int32))))).1) (XS.iloadN X0.here hx rfl (hb hby d15_4) rfl (XS.sipush X0.here hx rfl (hb hby d15_5) (XS.icmpNo X0.here hx rfl (hb hby d15_8) rfl (flt ((by decide : ¬ ((255 : Int32) < (58 : Int32))))).2.2.1 (XS.iconst X0.here hx rfl (hb hby d15_11) (XS.goto X0.here hx rfl (pc0 := 12) (pc' := 16) rfl (hb hby d15_12) (by decide) (by decide) kK))))))) ?_
  refine OwnEnd.ret X0 (v := (some (.int (nar .boolean (1 : Int32))))) (fun h => by rw [Bd.returns] at h; cases h) hlk (fun fs hr => retN X0 hx (t := .boolean) Bd.returns (by simp) (hb hby d15_16) hr) (by decide) (by decide) (Q := (own_Qint (1 : Int32)) h0 n0) e0 ?_
  exact ⟨rfl, N0, rfl⟩

theorem own_efmx (m : MethodId) : entryFrame m #[(.int 0), (.int 0)] 2 = mkF m 0 #[.val (.int 0), .val (.int 0)] [] := by first | (simp [entryFrame, mkF, argsToLocals, Value.category]; done) | rfl
set_option maxRecDepth 65536 in
set_option maxHeartbeats 40000000 in
theorem rmmx (l : Launch) (Z : State) (a0 : Array Value) (G : OwnG Z a0) (ws : List Jvm.Cond)  (h0 : Heap) (n0 : Nat) (O0 : Old Z n0 h0)  :
    MetFree l own_m16 (head1 (Jvm.Cond.code own_m16 jdk_29_method_65_code 2 (some .int) :: ws) ({ frames := 0, cells := 0, slots := 0, locals := 0 } : Room)) (fun a U => a = #[(.int 0), (.int 0)] ∧ Z.Warmed39 U.vm ∧ U.heap = h0) (fun _ _ _ _ _ => True) (fun _ U o U' => ∃ v L, o = .returned v ∧ (own_Qint (0 : Int32)) h0 n0 v U'.heap L ∧ FrameEnd U o U' L ({ frames := 0, cells := 0, slots := 0, locals := 0 } : Room).cells ({ frames := 0, cells := 0, slots := 0, locals := 0 } : Room).slots) := by
  refine MetFree.of_bodySF (Jvm.Free.JP.mathPlain rfl (by decide +kernel)) hisR ?_
  intro p e s m args below meth cD s₁ Bd hml0 hP hK
  obtain ⟨rfl, hZ, hh⟩ := hP
  have hw := G.1
  have hx := Bd.exec
  have hby := Bd.bytes
  have hml : cD.maxLocals = 2 := hml0
  have hown : s.vm.findClass "java/lang/Math" = some m.cls := findClass_of_methodNamed Bd.named
  have hnm := (name_of_methodNamed Bd.named Bd.method).1
  have hlk := Bd.notSynchronized
  have X0 : Stand p l e ({ frames := 0, cells := 0, slots := 0, locals := 0 } : Room) s m #[(.int 0), (.int 0)] below meth cD s₁ [] 0 0 := Stand.of_body Bd
  have e0 : s₁.heap = h0 := by rw [← hh, Bd.state]; rfl
  have K0 : Keep h0 h0 [] := Keep.refl h0 _
  have Z0 := own_old_le O0
  have N0 := Fr.nil n0
  refine OwnEnd.start (g' := (mkF m 0 #[.val (.int 0), .val (.int 0)] [])) (own_efmx m ) ?_
  refine OwnEnd.of (S' := s₁.setTop (mkF m 10 #[.val (.int 0), .val (.int 0)] [(.int 0)])) (fun _ kK => XS.iloadN X0.here hx rfl (hb hby d16_0) rfl (XS.iloadN X0.here hx rfl (hb hby d16_1) rfl (XS.icmpNo X0.here hx rfl (hb hby d16_2) rfl (flt ((by decide : ¬ ((0 : Int32) < (0 : Int32))))).1 (XS.iloadN X0.here hx rfl (hb hby d16_5) rfl (XS.goto X0.here hx rfl (pc0 := 6) (pc' := 10) rfl (hb hby d16_6) (by decide) (by decide) kK))))) ?_
  refine OwnEnd.ret X0 (v := (some (.int 0))) (fun h => by rw [Bd.returns] at h; cases h) hlk (fun fs hr => retOut X0 hx Bd.returns rfl (Or.inl ⟨rfl, Or.inl rfl, _, rfl⟩) (hb hby d16_10) hr) (by decide) (by decide) (Q := (own_Qint (0 : Int32)) h0 n0) e0 ?_
  exact ⟨rfl, N0, rfl⟩

theorem own_efii (m : MethodId) (aa : Addr) (d : Int32) (c : Int32) : entryFrame m #[(.ref aa), (.int d), (.int c)] 3 = mkF m 0 #[.val (.ref aa), .val (.int d), .val (.int c)] [] := by first | (simp [entryFrame, mkF, argsToLocals, Value.category]; done) | rfl
set_option maxRecDepth 65536 in
set_option maxHeartbeats 40000000 in
theorem rmii (l : Launch) (Z : State) (a0 : Array Value) (G : OwnG Z a0) (ws : List Jvm.Cond) (aa : Addr) (ft : Int32 → Int32) (d : Int32) (c : Int32) (h0 : Heap) (n0 : Nat) (O0 : Old Z n0 h0) (P0 : OwnTab Z aa ft) (P1 : ¬ c < (0 : Int32) ∧ ¬ (255 : Int32) < c) (P2 : ∀ x, nar .boolean (ft x) = ft x) (P3 : nar .boolean d = d) :
    MetFree l own_m17 (head1 (Jvm.Cond.code own_m17 prog_6_method_8_code 3 (some .boolean) :: ws) ({ frames := 0, cells := 0, slots := 0, locals := 0 } : Room)) (fun a U => a = #[(.ref aa), (.int d), (.int c)] ∧ Z.Warmed39 U.vm ∧ U.heap = h0) (fun _ _ _ _ _ => True) (fun _ U o U' => ∃ v L, o = .returned v ∧ (own_Qint (if c < (128 : Int32) then ft c else d)) h0 n0 v U'.heap L ∧ FrameEnd U o U' L ({ frames := 0, cells := 0, slots := 0, locals := 0 } : Room).cells ({ frames := 0, cells := 0, slots := 0, locals := 0 } : Room).slots) := by
  refine MetFree.of_bodySF (plainFor_of_name pn_4) hisR ?_
  intro p e s m args below meth cD s₁ Bd hml0 hP hK
  obtain ⟨rfl, hZ, hh⟩ := hP
  have hw := G.1
  have hx := Bd.exec
  have hby := Bd.bytes
  have hml : cD.maxLocals = 3 := hml0
  have hown : s.vm.findClass "com/example/vett/vett/model/Iris" = some m.cls := findClass_of_methodNamed Bd.named
  have hnm := (name_of_methodNamed Bd.named Bd.method).1
  have hlk := Bd.notSynchronized
  have X0 : Stand p l e ({ frames := 0, cells := 0, slots := 0, locals := 0 } : Room) s m #[(.ref aa), (.int d), (.int c)] below meth cD s₁ [] 0 0 := Stand.of_body Bd
  have e0 : s₁.heap = h0 := by rw [← hh, Bd.state]; rfl
  have K0 : Keep h0 h0 [] := Keep.refl h0 _
  have Z0 := own_old_le O0
  have N0 := Fr.nil n0
  refine OwnEnd.start (g' := (mkF m 0 #[.val (.ref aa), .val (.int d), .val (.int c)] [])) (own_efii m aa d c) ?_
  refine OwnEnd.of (S' := s₁.setTop (mkF m 2 #[.val (.ref aa), .val (.int d), .val (.int c)] [(.ref aa), (.int c)])) (fun _ kK => XS.iloadN X0.here hx rfl (hb hby d17_0) rfl (XS.aloadN X0.here hx rfl (hb hby d17_1) rfl rfl kK)) ?_
  obtain ⟨clT, At, zT, Ht⟩ := id P0
  have At := At.ext O0.2
  refine OwnEnd.of (S' := s₁.setTop (mkF m 3 #[.val (.ref aa), .val (.int d), .val (.int c)] [(.int 128), (.int c)])) (fun _ kK => X0.arraylength hx (by rw [e0]; exact At.1) (State.isArrayOf_alike hZ.alike At.2.1) (g := (mkF m 2 #[.val (.ref aa), .val (.int d), .val (.int c)] [(.ref aa), (.int c)])) rfl rfl (hb hby d17_2) _ (by rw [len_of (z := (128 : Int32)) zT (by decide)]; exact kK)) ?_
  rcases Decidable.em (c < (128 : Int32)) with hc1 | hc1
  · refine OwnEnd.of (S' := s₁.setTop (mkF m 8 #[.val (.ref aa), .val (.int d), .val (.int c)] [(.int c), (.ref aa)])) (fun _ kK => XS.icmpNo X0.here hx rfl (hb hby d17_3) rfl (tlt (hc1)).2.1 (XS.aloadN X0.here hx rfl (hb hby d17_6) rfl rfl (XS.iloadN X0.here hx rfl (hb hby d17_7) rfl kK))) ?_
    refine OwnEnd.of (S' := s₁.setTop (mkF m 9 #[.val (.ref aa), .val (.int d), .val (.int c)] [(.int (ft c))])) (fun _ kK => X0.baloadBooleans hx (j := c) (v := .int (ft c)) (by rw [e0]; exact At.1) (State.isArrayOf_alike hZ.alike At.2.1) At.2.2 (own_tin zT P1.1 hc1) (own_tat Ht P1.1 hc1) (g := (mkF m 8 #[.val (.ref aa), .val (.int d), .val (.int c)] [(.int c), (.ref aa)])) rfl rfl (hb hby d17_8) _ kK) ?_
    refine OwnEnd.of (S' := s₁.setTop (mkF m 13 #[.val (.ref aa), .val (.int d), .val (.int c)] [(.int (ft c))])) (fun _ kK => XS.goto X0.here hx rfl (pc0 := 9) (pc' := 13) rfl (hb hby d17_9) (by decide) (by decide) kK) ?_
    refine OwnEnd.ret X0 (v := (some (.int (nar .boolean (ft c))))) (fun h => by rw [Bd.returns] at h; cases h) hlk (fun fs hr => retN X0 hx (t := .boolean) Bd.returns (by simp) (hb hby d17_13) hr) (by decide) (by decide) (Q := (own_Qint (if c < (128 : Int32) then ft c else d)) h0 n0) e0 ?_
    exact ⟨(by show some (Value.int (nar .boolean (ft c))) = _; rw [if_pos hc1, P2]), N0, rfl⟩
  · refine OwnEnd.of (S' := s₁.setTop (mkF m 13 #[.val (.ref aa), .val (.int d), .val (.int c)] [(.int d)])) (fun _ kK => XS.icmpYes X0.here hx rfl (pc0 := 3) (pc' := 12) rfl (hb hby d17_3) rfl (flt (hc1)).2.1 (by decide) (by decide) (XS.iloadN X0.here hx rfl (hb hby d17_12) rfl kK)) ?_
    refine OwnEnd.ret X0 (v := (some (.int (nar .boolean d)))) (fun h => by rw [Bd.returns] at h; cases h) hlk (fun fs hr => retN X0 hx (t := .boolean) Bd.returns (by simp) (hb hby d17_13) hr) (by decide) (by decide) (Q := (own_Qint (if c < (128 : Int32) then ft c else d)) h0 n0) e0 ?_
    exact ⟨(by show some (Value.int (nar .boolean d)) = _; rw [if_neg hc1, P3]), N0, rfl⟩

theorem own_efim (m : MethodId) (c : Int32) : entryFrame m #[(.int c)] 1 = mkF m 0 #[.val (.int c)] [] := by first | (simp [entryFrame, mkF, argsToLocals, Value.category]; done) | rfl
set_option maxRecDepth 65536 in
set_option maxHeartbeats 40000000 in
theorem rmim (l : Launch) (Z : State) (a0 : Array Value) (G : OwnG Z a0) (ws : List Jvm.Cond) (c : Int32) (h0 : Heap) (n0 : Nat) (O0 : Old Z n0 h0) (P0 : ¬ c < (0 : Int32) ∧ ¬ (255 : Int32) < c) :
    MetFree l own_m18 (head1 (Jvm.Cond.code own_m18 prog_6_method_3_code 1 (some .boolean) :: ws) ({ frames := 1, cells := 0, slots := 0, locals := 14 } : Room)) (fun a U => a = #[(.int c)] ∧ Z.Warmed39 U.vm ∧ U.heap = h0) (fun _ _ _ _ _ => True) (fun _ U o U' => ∃ v L, o = .returned v ∧ (own_Qint (own_hold c)) h0 n0 v U'.heap L ∧ FrameEnd U o U' L ({ frames := 1, cells := 0, slots := 0, locals := 14 } : Room).cells ({ frames := 1, cells := 0, slots := 0, locals := 14 } : Room).slots) := by
  refine MetFree.of_bodySF (plainFor_of_name pn_4) hisR ?_
  intro p e s m args below meth cD s₁ Bd hml0 hP hK
  obtain ⟨rfl, hZ, hh⟩ := hP
  have hw := G.1
  have hx := Bd.exec
  have hby := Bd.bytes
  have hml : cD.maxLocals = 1 := hml0
  have hown : s.vm.findClass "com/example/vett/vett/model/Iris" = some m.cls := findClass_of_methodNamed Bd.named
  have hnm := (name_of_methodNamed Bd.named Bd.method).1
  have hlk := Bd.notSynchronized
  have X0 : Stand p l e ({ frames := 1, cells := 0, slots := 0, locals := 14 } : Room) s m #[(.int c)] below meth cD s₁ [] 0 0 := Stand.of_body Bd
  have e0 : s₁.heap = h0 := by rw [← hh, Bd.state]; rfl
  have K0 : Keep h0 h0 [] := Keep.refl h0 _
  have Z0 := own_old_le O0
  have N0 := Fr.nil n0
  obtain ⟨aT0, aT1, aT2, ST0, ST1, ST2, TB0, TB1, TB2⟩ := own_tabs G
  refine OwnEnd.start (g' := (mkF m 0 #[.val (.int c)] [])) (own_efim m c) ?_
  obtain ⟨T1, X1, e1, st1⟩ := getS2 X0 hx hZ hown (host := "") (Or.inl (own_w G 124 rfl)) Via.refl e0 (ST2.ext O0.2) (g := (mkF m 0 #[.val (.int c)] [])) rfl (hb hby d18_0)
  refine OwnEnd.of (S' := T1.setTop (mkF m 3 #[.val (.int c)] [(.ref aT2)])) st1 ?_
  refine OwnEnd.of (S' := T1.setTop (mkF m 5 #[.val (.int c)] [(.int c), (.int 1), (.ref aT2)])) (fun _ kK => XS.iconst X1.here hx rfl (hb hby d18_3) (XS.iloadN X1.here hx rfl (hb hby d18_4) rfl kK)) ?_
  obtain ⟨_, _, ⟨T2, L2, k2, n2⟩, -, X2, ⟨Lc2, hQ2, l2, y2, z2⟩, st2⟩ := Jvm.LawKit.callS X1 hx (y := own_m17) hown (mvT hZ (own_w G 114 rfl)) (mvT hZ (own_w G 115 rfl)) (mvT hZ (own_w G 35 rfl)) (mvT hZ (own_w G 116 rfl)) (by decide) (backOf (W := 0) (rmii l Z a0 G [] aT2 own_hold (1 : Int32) c h0 n0 O0 TB2 P0 own_nbh (by decide : nar .boolean (1 : Int32) = (1 : Int32))) hZ (own_w G 116 rfl) (own_w G 35 rfl) (by decide) (by decide)) (g := (mkF m 5 #[.val (.int c)] [(.int c), (.int 1), (.ref aT2)])) rfl (by rw [hml]; rfl) (argsL := [(.ref aT2), (.int 1), (.int c)]) (rest := []) (lenOf pd_9 rfl) rfl (by show 2 * 0 + _ ≤ _; exact Nat.le_of_eq rfl) (hb hby d18_5) (fun _ _ => ⟨rfl, e1, (by decide : 0 + 0 ≤ _), (by decide : 0 + 0 ≤ _)⟩)
  dsimp only [Pt.U, Pt.locs, Pt.cells, Pt.slots] at X2 l2 y2 z2 st2 hQ2
  subst l2 y2 z2
  obtain ⟨rfl, N2q, eh2⟩ := hQ2
  have N2 := Fr.app N0 N2q
  refine OwnEnd.of (S' := T2.setTop (mkF m 8 #[.val (.int c)] [(.int (if c < (128 : Int32) then own_hold c else (1 : Int32)))])) st2 ?_
  rw [own_hold_tab P0]
  refine OwnEnd.ret X2 (v := (some (.int (nar .boolean (own_hold c))))) (fun h => by rw [Bd.returns] at h; cases h) hlk (fun fs hr => retN X2 hx (t := .boolean) Bd.returns (by simp) (hb hby d18_8) hr) (by decide) (by decide) (Q := (own_Qint (own_hold c)) h0 n0) eh2 ?_
  exact ⟨(by show some (Value.int (nar .boolean (own_hold c))) = _; rw [own_nbh]), N2, rfl⟩

theorem own_efmn0 (m : MethodId) : entryFrame m #[(.int 0), (.int 0)] 2 = mkF m 0 #[.val (.int 0), .val (.int 0)] [] := by first | (simp [entryFrame, mkF, argsToLocals, Value.category]; done) | rfl
set_option maxRecDepth 65536 in
set_option maxHeartbeats 40000000 in
theorem rmmn0 (l : Launch) (Z : State) (a0 : Array Value) (G : OwnG Z a0) (ws : List Jvm.Cond)  (h0 : Heap) (n0 : Nat) (O0 : Old Z n0 h0)  :
    MetFree l own_m19 (head1 (Jvm.Cond.code own_m19 jdk_29_method_69_code 2 (some .int) :: ws) ({ frames := 0, cells := 0, slots := 0, locals := 0 } : Room)) (fun a U => a = #[(.int 0), (.int 0)] ∧ Z.Warmed39 U.vm ∧ U.heap = h0) (fun _ _ _ _ _ => True) (fun _ U o U' => ∃ v L, o = .returned v ∧ (own_Qint (0 : Int32)) h0 n0 v U'.heap L ∧ FrameEnd U o U' L ({ frames := 0, cells := 0, slots := 0, locals := 0 } : Room).cells ({ frames := 0, cells := 0, slots := 0, locals := 0 } : Room).slots) := by
  refine MetFree.of_bodySF (Jvm.Free.JP.mathPlain rfl (by decide +kernel)) hisR ?_
  intro p e s m args below meth cD s₁ Bd hml0 hP hK
  obtain ⟨rfl, hZ, hh⟩ := hP
  have hw := G.1
  have hx := Bd.exec
  have hby := Bd.bytes
  have hml : cD.maxLocals = 2 := hml0
  have hown : s.vm.findClass "java/lang/Math" = some m.cls := findClass_of_methodNamed Bd.named
  have hnm := (name_of_methodNamed Bd.named Bd.method).1
  have hlk := Bd.notSynchronized
  have X0 : Stand p l e ({ frames := 0, cells := 0, slots := 0, locals := 0 } : Room) s m #[(.int 0), (.int 0)] below meth cD s₁ [] 0 0 := Stand.of_body Bd
  have e0 : s₁.heap = h0 := by rw [← hh, Bd.state]; rfl
  have K0 : Keep h0 h0 [] := Keep.refl h0 _
  have Z0 := own_old_le O0
  have N0 := Fr.nil n0
  refine OwnEnd.start (g' := (mkF m 0 #[.val (.int 0), .val (.int 0)] [])) (own_efmn0 m ) ?_
  refine OwnEnd.of (S' := s₁.setTop (mkF m 10 #[.val (.int 0), .val (.int 0)] [(.int 0)])) (fun _ kK => XS.iloadN X0.here hx rfl (hb hby d19_0) rfl (XS.iloadN X0.here hx rfl (hb hby d19_1) rfl (XS.icmpNo X0.here hx rfl (hb hby d19_2) rfl (flt ((by decide : ¬ ((0 : Int32) < (0 : Int32))))).2.2.1 (XS.iloadN X0.here hx rfl (hb hby d19_5) rfl (XS.goto X0.here hx rfl (pc0 := 6) (pc' := 10) rfl (hb hby d19_6) (by decide) (by decide) kK))))) ?_
  refine OwnEnd.ret X0 (v := (some (.int 0))) (fun h => by rw [Bd.returns] at h; cases h) hlk (fun fs hr => retOut X0 hx Bd.returns rfl (Or.inl ⟨rfl, Or.inl rfl, _, rfl⟩) (hb hby d19_10) hr) (by decide) (by decide) (Q := (own_Qint (0 : Int32)) h0 n0) e0 ?_
  exact ⟨rfl, N0, rfl⟩

theorem own_efsi0 (m : MethodId) (t : Addr) : entryFrame m #[(.ref t), (.int 58), (.int 0), (.int 0)] 4 = mkF m 0 #[.val (.ref t), .val (.int 58), .val (.int 0), .val (.int 0)] [] := by first | (simp [entryFrame, mkF, argsToLocals, Value.category]; done) | rfl
set_option maxRecDepth 65536 in
set_option maxHeartbeats 40000000 in
theorem rmsi0 (l : Launch) (Z : State) (a0 : Array Value) (G : OwnG Z a0) (ws : List Jvm.Cond) (t : Addr) (kb : ClassId) (h0 : Heap) (n0 : Nat) (O0 : Old Z n0 h0) (P0 : Arv Z h0 t kb .byte (0 : Int32) [] (.int 0)) :
    MetFree l own_m20 (head1 (Jvm.Cond.code own_m20 jdk_43_method_22_code 4 (some .int) :: ws) ({ frames := 1, cells := 0, slots := 0, locals := 13 } : Room)) (fun a U => a = #[(.ref t), (.int 58), (.int 0), (.int 0)] ∧ Z.Warmed39 U.vm ∧ U.heap = h0) (fun _ _ _ _ _ => True) (fun _ U o U' => ∃ v L, o = .returned v ∧ (own_Qint (own_ix (0 : Int32) [])) h0 n0 v U'.heap L ∧ FrameEnd U o U' L ({ frames := 1, cells := 0, slots := 0, locals := 13 } : Room).cells ({ frames := 1, cells := 0, slots := 0, locals := 13 } : Room).slots) := by
  refine MetFree.of_bodySF (plainFor_of_name pn_2) hisR ?_
  intro p e s m args below meth cD s₁ Bd hml0 hP hK
  obtain ⟨rfl, hZ, hh⟩ := hP
  have hw := G.1
  have hx := Bd.exec
  have hby := Bd.bytes
  have hml : cD.maxLocals = 4 := hml0
  have hown : s.vm.findClass "java/lang/StringLatin1" = some m.cls := findClass_of_methodNamed Bd.named
  have hnm := (name_of_methodNamed Bd.named Bd.method).1
  have hlk := Bd.notSynchronized
  have X0 : Stand p l e ({ frames := 1, cells := 0, slots := 0, locals := 13 } : Room) s m #[(.ref t), (.int 58), (.int 0), (.int 0)] below meth cD s₁ [] 0 0 := Stand.of_body Bd
  have e0 : s₁.heap = h0 := by rw [← hh, Bd.state]; rfl
  have lt0 := own_ltN' P0.lt
  have K0 : Keep h0 h0 [] := Keep.refl h0 _
  have Z0 := own_old_le O0
  have N0 := Fr.nil n0
  refine OwnEnd.start (g' := (mkF m 0 #[.val (.ref t), .val (.int 58), .val (.int 0), .val (.int 0)] [])) (own_efsi0 m t) ?_
  refine OwnEnd.of (S' := s₁.setTop (mkF m 1 #[.val (.ref t), .val (.int 58), .val (.int 0), .val (.int 0)] [(.int 58)])) (fun _ kK => XS.iloadN X0.here hx rfl (hb hby d20_0) rfl kK) ?_
  obtain ⟨_, _, ⟨T1, L1, k1, n1⟩, -, X1, ⟨Lc1, hQ1, l1, y1, z1⟩, st1⟩ := Jvm.LawKit.callS X0 hx (y := own_m15) hown (mvT hZ (own_w G 67 rfl)) (mvT hZ (own_w G 68 rfl)) (mvT hZ (own_w G 65 rfl)) (mvT hZ (own_w G 69 rfl)) (by decide) (backOf (W := 0) (rmce l Z a0 G []  h0 n0 O0 ) hZ (own_w G 69 rfl) (own_w G 65 rfl) (by decide) (by decide)) (g := (mkF m 1 #[.val (.ref t), .val (.int 58), .val (.int 0), .val (.int 0)] [(.int 58)])) rfl (by rw [hml]; rfl) (argsL := [(.int 58)]) (rest := []) (lenOf pd_10 rfl) rfl (by show 2 * 0 + _ ≤ _; exact Nat.le_of_eq rfl) (hb hby d20_1) (fun _ _ => ⟨rfl, e0, (by decide : 0 + 0 ≤ _), (by decide : 0 + 0 ≤ _)⟩)
  dsimp only [Pt.U, Pt.locs, Pt.cells, Pt.slots] at X1 l1 y1 z1 st1 hQ1
  subst l1 y1 z1
  obtain ⟨rfl, N1q, eh1⟩ := hQ1
  have N1 := Fr.app N0 N1q
  refine OwnEnd.of (S' := T1.setTop (mkF m 4 #[.val (.ref t), .val (.int 58), .val (.int 0), .val (.int 0)] [(.int 1)])) st1 ?_
  refine OwnEnd.of (S' := T1.setTop (mkF m 11 #[.val (.ref t), .val (.int 58), .val (.int 0), .val (.int 0)] [(.int 0), (.int 0)])) (fun _ kK => XS.ifYes X1.here hx rfl (pc0 := 4) (pc' := 9) rfl (hb hby d20_4) rfl ((if0 _ _).trans (feq ((by decide : ¬ ((1 : Int32) = (0 : Int32))))).2) (by decide) (by decide) (XS.iloadN X1.here hx rfl (hb hby d20_9) rfl (XS.iconst X1.here hx rfl (hb hby d20_10) kK))) ?_
  obtain ⟨_, _, ⟨T2, L2, k2, n2⟩, -, X2, ⟨Lc2, hQ2, l2, y2, z2⟩, st2⟩ := Jvm.LawKit.callS X1 hx (y := own_m16) hown (mvT hZ (own_w G 70 rfl)) (mvT hZ (own_w G 71 rfl)) (mvT hZ (own_w G 72 rfl)) (mvT hZ (own_w G 73 rfl)) (by decide) (backOf (W := 0) (rmmx l Z a0 G []  h0 n0 O0 ) hZ (own_w G 73 rfl) (own_w G 72 rfl) (by decide) (by decide)) (g := (mkF m 11 #[.val (.ref t), .val (.int 58), .val (.int 0), .val (.int 0)] [(.int 0), (.int 0)])) rfl (by rw [hml]; rfl) (argsL := [(.int 0), (.int 0)]) (rest := []) (lenOf pd_11 rfl) rfl (by show 2 * 0 + _ ≤ _; exact Nat.le_of_eq rfl) (hb hby d20_11) (fun _ _ => ⟨rfl, eh1, (by decide : 0 + 0 ≤ _), (by decide : 0 + 0 ≤ _)⟩)
  dsimp only [Pt.U, Pt.locs, Pt.cells, Pt.slots] at X2 l2 y2 z2 st2 hQ2
  subst l2 y2 z2
  obtain ⟨rfl, N2q, eh2⟩ := hQ2
  have N2 := Fr.app N1 N2q
  refine OwnEnd.of (S' := T2.setTop (mkF m 14 #[.val (.ref t), .val (.int 58), .val (.int 0), .val (.int 0)] [(.int 0)])) st2 ?_
  refine OwnEnd.of (S' := T2.setTop (mkF m 17 #[.val (.ref t), .val (.int 58), .val (.int 0), .val (.int 0)] [(.ref t), (.int 0)])) (fun _ kK => XS.istoreN X2.here hx rfl (hb hby d20_14) rfl (l' := #[.val (.ref t), .val (.int 58), .val (.int 0), .val (.int 0)]) rfl (XS.iloadN X2.here hx rfl (hb hby d20_15) rfl (XS.aloadN X2.here hx rfl (hb hby d20_16) rfl rfl kK))) ?_
  obtain ⟨cl3, Ar3, q3, S3, N3', H3, G3⟩ := id P0
  refine OwnEnd.of (S' := T2.setTop (mkF m 18 #[.val (.ref t), .val (.int 58), .val (.int 0), .val (.int 0)] [(.int 0), (.int 0)])) (fun _ kK => X2.arraylength hx (by rw [eh2]; exact Ar3.1) (State.isArrayOf_alike hZ.alike Ar3.2.1) (g := (mkF m 17 #[.val (.ref t), .val (.int 58), .val (.int 0), .val (.int 0)] [(.ref t), (.int 0)])) rfl rfl (hb hby d20_17) _ (by rw [len_of S3 N3']; exact kK)) ?_
  obtain ⟨_, _, ⟨T4, L4, k4, n4⟩, -, X4, ⟨Lc4, hQ4, l4, y4, z4⟩, st4⟩ := Jvm.LawKit.callS X2 hx (y := own_m19) hown (mvT hZ (own_w G 74 rfl)) (mvT hZ (own_w G 75 rfl)) (mvT hZ (own_w G 72 rfl)) (mvT hZ (own_w G 76 rfl)) (by decide) (backOf (W := 0) (rmmn0 l Z a0 G []  h0 n0 O0 ) hZ (own_w G 76 rfl) (own_w G 72 rfl) (by decide) (by decide)) (g := (mkF m 18 #[.val (.ref t), .val (.int 58), .val (.int 0), .val (.int 0)] [(.int 0), (.int 0)])) rfl (by rw [hml]; rfl) (argsL := [(.int 0), (.int 0)]) (rest := []) (lenOf pd_11 rfl) rfl (by show 2 * 0 + _ ≤ _; exact Nat.le_of_eq rfl) (hb hby d20_18) (fun _ _ => ⟨rfl, eh2, (by decide : 0 + 0 ≤ _), (by decide : 0 + 0 ≤ _)⟩)
  dsimp only [Pt.U, Pt.locs, Pt.cells, Pt.slots] at X4 l4 y4 z4 st4 hQ4
  subst l4 y4 z4
  obtain ⟨rfl, N4q, eh4⟩ := hQ4
  have N4 := Fr.app N2 N4q
  refine OwnEnd.of (S' := T4.setTop (mkF m 21 #[.val (.ref t), .val (.int 58), .val (.int 0), .val (.int 0)] [(.int 0)])) st4 ?_
  refine OwnEnd.of (S' := T4.setTop (mkF m 28 #[.val (.ref t), .val (.int 58), .val (.int 0), .val (.int 0)] [(.int (-1 : Int32))])) (fun _ kK => XS.istoreN X4.here hx rfl (hb hby d20_21) rfl (l' := #[.val (.ref t), .val (.int 58), .val (.int 0), .val (.int 0)]) rfl (XS.iloadN X4.here hx rfl (hb hby d20_22) rfl (XS.iloadN X4.here hx rfl (hb hby d20_23) rfl (XS.icmpNo X4.here hx rfl (hb hby d20_24) rfl (flt ((by decide : ¬ ((0 : Int32) < (0 : Int32))))).1 (XS.iconst X4.here hx rfl (hb hby d20_27) kK))))) ?_
  refine OwnEnd.ret X4 (v := (some (.int (-1 : Int32)))) (fun h => by rw [Bd.returns] at h; cases h) hlk (fun fs hr => retOut X4 hx Bd.returns rfl (Or.inl ⟨rfl, Or.inl rfl, _, rfl⟩) (hb hby d20_28) hr) (by decide) (by decide) (Q := (own_Qint (own_ix (0 : Int32) [])) h0 n0) eh4 ?_
  exact ⟨rfl, N4, rfl⟩

theorem own_efsj0 (m : MethodId) (x0 : Addr) : entryFrame m #[(.ref x0), (.int 58), (.int 0)] 3 = mkF m 0 #[.val (.ref x0), .val (.int 58), .val (.int 0)] [] := by first | (simp [entryFrame, mkF, argsToLocals, Value.category]; done) | rfl
set_option maxRecDepth 65536 in
set_option maxHeartbeats 40000000 in
theorem rmsj0 (l : Launch) (Z : State) (a0 : Array Value) (G : OwnG Z a0) (ws : List Jvm.Cond) (x0 : Addr) (t : Addr) (kb : ClassId) (h0 : Heap) (n0 : Nat) (O0 : Old Z n0 h0) (P0 : Exa Z h0 x0 "java/lang/String") (P1 : Fld Z h0 x0 "java/lang/String" "value" "[B" (.ref t)) (P2 : Fld Z h0 x0 "java/lang/String" "coder" "B" (.int 0)) (P3 : Arv Z h0 t kb .byte (0 : Int32) [] (.int 0)) :
    MetFree l own_m21 (head1 (Jvm.Cond.code own_m21 jdk_42_method_80_code 3 (some .int) :: ws) ({ frames := 2, cells := 0, slots := 0, locals := 28 } : Room)) (fun a U => a = #[(.ref x0), (.int 58), (.int 0)] ∧ Z.Warmed39 U.vm ∧ U.heap = h0) (fun _ _ _ _ _ => True) (fun _ U o U' => ∃ v L, o = .returned v ∧ (own_Qint (own_ix (0 : Int32) [])) h0 n0 v U'.heap L ∧ FrameEnd U o U' L ({ frames := 2, cells := 0, slots := 0, locals := 28 } : Room).cells ({ frames := 2, cells := 0, slots := 0, locals := 28 } : Room).slots) := by
  refine MetFree.of_bodySF (plainFor_of_name pn_0) hisR ?_
  intro p e s m args below meth cD s₁ Bd hml0 hP hK
  obtain ⟨rfl, hZ, hh⟩ := hP
  have hw := G.1
  have hx := Bd.exec
  have hby := Bd.bytes
  have hml : cD.maxLocals = 3 := hml0
  have hown : s.vm.findClass "java/lang/String" = some m.cls := findClass_of_methodNamed Bd.named
  have hnm := (name_of_methodNamed Bd.named Bd.method).1
  have hlk := Bd.notSynchronized
  have X0 : Stand p l e ({ frames := 2, cells := 0, slots := 0, locals := 28 } : Room) s m #[(.ref x0), (.int 58), (.int 0)] below meth cD s₁ [] 0 0 := Stand.of_body Bd
  have e0 : s₁.heap = h0 := by rw [← hh, Bd.state]; rfl
  have lt0 := own_ltN' P0.lt
  have lt1 := own_ltN' P1.lt
  have lt2 := own_ltN' P2.lt
  have lt3 := own_ltN' P3.lt
  have K0 : Keep h0 h0 [] := Keep.refl h0 _
  have Z0 := own_old_le O0
  have N0 := Fr.nil n0
  refine OwnEnd.start (g' := (mkF m 0 #[.val (.ref x0), .val (.int 58), .val (.int 0)] [])) (own_efsj0 m x0) ?_
  refine OwnEnd.of (S' := s₁.setTop (mkF m 1 #[.val (.ref x0), .val (.int 58), .val (.int 0)] [(.ref x0)])) (fun _ kK => XS.aloadN X0.here hx rfl (hb hby d21_0) rfl rfl kK) ?_
  obtain ⟨cq1, kq1, q1a, q1b, q1c⟩ := isOf hZ e0 P0
  obtain ⟨_, _, ⟨T1, L1, k1, n1⟩, -, X1, ⟨Lc1, hQ1, l1, y1, z1⟩, st1⟩ := X0.virtualBack hx (y := own_m4) (z := own_m4) hown (mvT hZ (own_w G 47 rfl)) (mvT hZ (own_w G 48 rfl)) (notFace_of_selects (args := #[]) (mvT hZ (own_w G 50 rfl))) (mvT hZ (own_w G 50 rfl)) (mvT hZ (own_w G 49 rfl)) (by decide) (backOf (W := 0) (rmil0 l Z a0 G [] x0 h0 n0 O0 P2) hZ (own_w G 51 rfl) (own_w G 8 rfl) (by decide) (by decide)) q1a q1c (g := (mkF m 1 #[.val (.ref x0), .val (.int 58), .val (.int 0)] [(.ref x0)])) rfl (by rw [hml]; rfl) (Steps.refl _) (argsL := []) (rest := []) (lenOf pd_4 rfl) rfl (by show 2 * 0 + _ ≤ _; exact Nat.le_of_eq rfl) (hb hby d21_1) (fun _ _ => ⟨rfl, e0, (by decide : 0 + 0 ≤ _), (by decide : 0 + 0 ≤ _)⟩)
  dsimp only [Pt.U, Pt.locs, Pt.cells, Pt.slots] at X1 l1 y1 z1 st1 hQ1
  subst l1 y1 z1
  obtain ⟨rfl, N1q, eh1⟩ := hQ1
  have N1 := Fr.app N0 N1q
  refine OwnEnd.tr (S' := T1.setTop (mkF m 4 #[.val (.ref x0), .val (.int 58), .val (.int 0)] [(.int 1)])) st1 ?_
  refine OwnEnd.of (S' := T1.setTop (mkF m 8 #[.val (.ref x0), .val (.int 58), .val (.int 0)] [(.ref x0)])) (fun _ kK => XS.ifNo X1.here hx rfl (hb hby d21_4) rfl ((if0 _ _).trans (feq ((by decide : ¬ ((1 : Int32) = (0 : Int32))))).1) (XS.aloadN X1.here hx rfl (hb hby d21_7) rfl rfl kK)) ?_
  obtain ⟨T2, X2, e2, st2⟩ := getF X1 hx hZ hown (host := "") (Or.inl (own_w G 25 rfl)) Via.refl eh1 P1 (g := (mkF m 8 #[.val (.ref x0), .val (.int 58), .val (.int 0)] [(.ref x0)])) rfl rfl (hb hby d21_8)
  refine OwnEnd.of (S' := T2.setTop (mkF m 11 #[.val (.ref x0), .val (.int 58), .val (.int 0)] [(.ref t)])) st2 ?_
  refine OwnEnd.of (S' := T2.setTop (mkF m 14 #[.val (.ref x0), .val (.int 58), .val (.int 0)] [(.ref x0), (.int 0), (.int 58), (.ref t)])) (fun _ kK => XS.iloadN X2.here hx rfl (hb hby d21_11) rfl (XS.iloadN X2.here hx rfl (hb hby d21_12) rfl (XS.aloadN X2.here hx rfl (hb hby d21_13) rfl rfl kK))) ?_
  obtain ⟨cq3, kq3, q3a, q3b, q3c⟩ := isOf hZ e2 P0
  obtain ⟨_, _, ⟨T3, L3, k3, n3⟩, -, X3, ⟨Lc3, hQ3, l3, y3, z3⟩, st3⟩ := X2.virtualBack hx (y := own_m6) (z := own_m6) hown (mvT hZ (own_w G 53 rfl)) (mvT hZ (own_w G 54 rfl)) (notFace_of_selects (args := #[]) (mvT hZ (own_w G 56 rfl))) (mvT hZ (own_w G 56 rfl)) (mvT hZ (own_w G 55 rfl)) (by decide) (backOf (W := 3) (rmln0 l Z a0 G [] x0 t kb (0 : Int32) [] (.int 0) h0 n0 O0 P0 P1 P2 P3) hZ (own_w G 57 rfl) (own_w G 8 rfl) (by decide) (by decide)) q3a q3c (g := (mkF m 14 #[.val (.ref x0), .val (.int 58), .val (.int 0)] [(.ref x0), (.int 0), (.int 58), (.ref t)])) rfl (by rw [hml]; rfl) (Steps.refl _) (argsL := []) (rest := [(.int 0), (.int 58), (.ref t)]) (lenOf pd_12 rfl) rfl (by show 2 * 0 + _ ≤ _; exact Nat.le_of_eq rfl) (hb hby d21_14) (fun _ _ => ⟨rfl, e2, (by decide : 0 + 0 ≤ _), (by decide : 0 + 0 ≤ _)⟩)
  dsimp only [Pt.U, Pt.locs, Pt.cells, Pt.slots] at X3 l3 y3 z3 st3 hQ3
  subst l3 y3 z3
  obtain ⟨rfl, N3q, eh3⟩ := hQ3
  have N3 := Fr.app N1 N3q
  refine OwnEnd.tr (S' := T3.setTop (mkF m 17 #[.val (.ref x0), .val (.int 58), .val (.int 0)] [(.int 0), (.int 0), (.int 58), (.ref t)])) st3 ?_
  obtain ⟨_, _, ⟨T4, L4, k4, n4⟩, -, X4, ⟨Lc4, hQ4, l4, y4, z4⟩, st4⟩ := Jvm.LawKit.callS X3 hx (y := own_m20) hown (mvT hZ (own_w G 63 rfl)) (mvT hZ (own_w G 64 rfl)) (mvT hZ (own_w G 65 rfl)) (mvT hZ (own_w G 66 rfl)) (by decide) (backOf (W := 0) (rmsi0 l Z a0 G [] t kb h0 n0 O0 P3) hZ (own_w G 66 rfl) (own_w G 65 rfl) (by decide) (by decide)) (g := (mkF m 17 #[.val (.ref x0), .val (.int 58), .val (.int 0)] [(.int 0), (.int 0), (.int 58), (.ref t)])) rfl (by rw [hml]; rfl) (argsL := [(.ref t), (.int 58), (.int 0), (.int 0)]) (rest := []) (lenOf pd_13 rfl) rfl (by show 2 * 0 + _ ≤ _; exact Nat.le_of_eq rfl) (hb hby d21_17) (fun _ _ => ⟨rfl, eh3, (by decide : 0 + 0 ≤ _), (by decide : 0 + 0 ≤ _)⟩)
  dsimp only [Pt.U, Pt.locs, Pt.cells, Pt.slots] at X4 l4 y4 z4 st4 hQ4
  subst l4 y4 z4
  obtain ⟨rfl, N4q, eh4⟩ := hQ4
  have N4 := Fr.app N3 N4q
  refine OwnEnd.of (S' := T4.setTop (mkF m 20 #[.val (.ref x0), .val (.int 58), .val (.int 0)] [(.int (own_ix (0 : Int32) []))])) st4 ?_
  refine OwnEnd.of (S' := T4.setTop (mkF m 36 #[.val (.ref x0), .val (.int 58), .val (.int 0)] [(.int (own_ix (0 : Int32) []))])) (fun _ kK => XS.goto X4.here hx rfl (pc0 := 20) (pc' := 36) rfl (hb hby d21_20) (by decide) (by decide) kK) ?_
  refine OwnEnd.ret X4 (v := (some (.int (own_ix (0 : Int32) [])))) (fun h => by rw [Bd.returns] at h; cases h) hlk (fun fs hr => retOut X4 hx Bd.returns rfl (Or.inl ⟨rfl, Or.inl rfl, _, rfl⟩) (hb hby d21_36) hr) (by decide) (by decide) (Q := (own_Qint (own_ix (0 : Int32) [])) h0 n0) eh4 ?_
  exact ⟨rfl, N4, rfl⟩

theorem own_efsk0 (m : MethodId) (x0 : Addr) : entryFrame m #[(.ref x0), (.int 58)] 2 = mkF m 0 #[.val (.ref x0), .val (.int 58)] [] := by first | (simp [entryFrame, mkF, argsToLocals, Value.category]; done) | rfl
set_option maxRecDepth 65536 in
set_option maxHeartbeats 40000000 in
theorem rmsk0 (l : Launch) (Z : State) (a0 : Array Value) (G : OwnG Z a0) (ws : List Jvm.Cond) (x0 : Addr) (t : Addr) (kb : ClassId) (h0 : Heap) (n0 : Nat) (O0 : Old Z n0 h0) (P0 : Exa Z h0 x0 "java/lang/String") (P1 : Fld Z h0 x0 "java/lang/String" "value" "[B" (.ref t)) (P2 : Fld Z h0 x0 "java/lang/String" "coder" "B" (.int 0)) (P3 : Arv Z h0 t kb .byte (0 : Int32) [] (.int 0)) :
    MetFree l own_m22 (head1 (Jvm.Cond.code own_m22 jdk_42_method_79_code 2 (some .int) :: ws) ({ frames := 3, cells := 0, slots := 0, locals := 42 } : Room)) (fun a U => a = #[(.ref x0), (.int 58)] ∧ Z.Warmed39 U.vm ∧ U.heap = h0) (fun _ _ _ _ _ => True) (fun _ U o U' => ∃ v L, o = .returned v ∧ (own_Qint (own_ix (0 : Int32) [])) h0 n0 v U'.heap L ∧ FrameEnd U o U' L ({ frames := 3, cells := 0, slots := 0, locals := 42 } : Room).cells ({ frames := 3, cells := 0, slots := 0, locals := 42 } : Room).slots) := by
  refine MetFree.of_bodySF (plainFor_of_name pn_0) hisR ?_
  intro p e s m args below meth cD s₁ Bd hml0 hP hK
  obtain ⟨rfl, hZ, hh⟩ := hP
  have hw := G.1
  have hx := Bd.exec
  have hby := Bd.bytes
  have hml : cD.maxLocals = 2 := hml0
  have hown : s.vm.findClass "java/lang/String" = some m.cls := findClass_of_methodNamed Bd.named
  have hnm := (name_of_methodNamed Bd.named Bd.method).1
  have hlk := Bd.notSynchronized
  have X0 : Stand p l e ({ frames := 3, cells := 0, slots := 0, locals := 42 } : Room) s m #[(.ref x0), (.int 58)] below meth cD s₁ [] 0 0 := Stand.of_body Bd
  have e0 : s₁.heap = h0 := by rw [← hh, Bd.state]; rfl
  have lt0 := own_ltN' P0.lt
  have lt1 := own_ltN' P1.lt
  have lt2 := own_ltN' P2.lt
  have lt3 := own_ltN' P3.lt
  have K0 : Keep h0 h0 [] := Keep.refl h0 _
  have Z0 := own_old_le O0
  have N0 := Fr.nil n0
  refine OwnEnd.start (g' := (mkF m 0 #[.val (.ref x0), .val (.int 58)] [])) (own_efsk0 m x0) ?_
  refine OwnEnd.of (S' := s₁.setTop (mkF m 3 #[.val (.ref x0), .val (.int 58)] [(.int 0), (.int 58), (.ref x0)])) (fun _ kK => XS.aloadN X0.here hx rfl (hb hby d22_0) rfl rfl (XS.iloadN X0.here hx rfl (hb hby d22_1) rfl (XS.iconst X0.here hx rfl (hb hby d22_2) kK))) ?_
  obtain ⟨cq1, kq1, q1a, q1b, q1c⟩ := isOf hZ e0 P0
  obtain ⟨_, _, ⟨T1, L1, k1, n1⟩, -, X1, ⟨Lc1, hQ1, l1, y1, z1⟩, st1⟩ := X0.virtualBack hx (y := own_m21) (z := own_m21) hown (mvT hZ (own_w G 42 rfl)) (mvT hZ (own_w G 43 rfl)) (notFace_of_selects (args := #[]) (mvT hZ (own_w G 45 rfl))) (mvT hZ (own_w G 45 rfl)) (mvT hZ (own_w G 44 rfl)) (by decide) (backOf (W := 0) (rmsj0 l Z a0 G [] x0 t kb h0 n0 O0 P0 P1 P2 P3) hZ (own_w G 46 rfl) (own_w G 8 rfl) (by decide) (by decide)) q1a q1c (g := (mkF m 3 #[.val (.ref x0), .val (.int 58)] [(.int 0), (.int 58), (.ref x0)])) rfl (by rw [hml]; rfl) (Steps.refl _) (argsL := [(.int 58), (.int 0)]) (rest := []) (lenOf pd_11 rfl) rfl (by show 2 * 0 + _ ≤ _; exact Nat.le_of_eq rfl) (hb hby d22_3) (fun _ _ => ⟨rfl, e0, (by decide : 0 + 0 ≤ _), (by decide : 0 + 0 ≤ _)⟩)
  dsimp only [Pt.U, Pt.locs, Pt.cells, Pt.slots] at X1 l1 y1 z1 st1 hQ1
  subst l1 y1 z1
  obtain ⟨rfl, N1q, eh1⟩ := hQ1
  have N1 := Fr.app N0 N1q
  refine OwnEnd.tr (S' := T1.setTop (mkF m 6 #[.val (.ref x0), .val (.int 58)] [(.int (own_ix (0 : Int32) []))])) st1 ?_
  refine OwnEnd.ret X1 (v := (some (.int (own_ix (0 : Int32) [])))) (fun h => by rw [Bd.returns] at h; cases h) hlk (fun fs hr => retOut X1 hx Bd.returns rfl (Or.inl ⟨rfl, Or.inl rfl, _, rfl⟩) (hb hby d22_6) hr) (by decide) (by decide) (Q := (own_Qint (own_ix (0 : Int32) [])) h0 n0) eh1 ?_
  exact ⟨rfl, N1, rfl⟩

theorem own_efia0 (m : MethodId) (x0 : Addr) : entryFrame m #[(.ref x0)] 4 = mkF m 0 #[.val (.ref x0), .unset, .unset, .unset] [] := by first | (simp [entryFrame, mkF, argsToLocals, Value.category]; done) | rfl
set_option maxRecDepth 65536 in
set_option maxHeartbeats 40000000 in
theorem rmia0 (l : Launch) (Z : State) (a0 : Array Value) (G : OwnG Z a0) (ws : List Jvm.Cond) (x0 : Addr) (t : Addr) (kb : ClassId) (h0 : Heap) (n0 : Nat) (O0 : Old Z n0 h0) (P0 : Exa Z h0 x0 "java/lang/String") (P1 : Fld Z h0 x0 "java/lang/String" "value" "[B" (.ref t)) (P2 : Fld Z h0 x0 "java/lang/String" "coder" "B" (.int 0)) (P3 : Arv Z h0 t kb .byte (0 : Int32) [] (.int 0)) :
    MetFree l own_m23 (head1 (Jvm.Cond.code own_m23 prog_6_method_2_code 4 (some .boolean) :: ws) ({ frames := 4, cells := 0, slots := 0, locals := 55 } : Room)) (fun a U => a = #[(.ref x0)] ∧ Z.Warmed39 U.vm ∧ U.heap = h0) (fun _ _ _ _ _ => True) (fun _ U o U' => ∃ v L, o = .returned v ∧ (own_Qint (own_abs [])) h0 n0 v U'.heap L ∧ FrameEnd U o U' L ({ frames := 4, cells := 0, slots := 0, locals := 55 } : Room).cells ({ frames := 4, cells := 0, slots := 0, locals := 55 } : Room).slots) := by
  refine MetFree.of_bodySF (plainFor_of_name pn_4) hisR ?_
  intro p e s m args below meth cD s₁ Bd hml0 hP hK
  obtain ⟨rfl, hZ, hh⟩ := hP
  have hw := G.1
  have hx := Bd.exec
  have hby := Bd.bytes
  have hml : cD.maxLocals = 4 := hml0
  have hown : s.vm.findClass "com/example/vett/vett/model/Iris" = some m.cls := findClass_of_methodNamed Bd.named
  have hnm := (name_of_methodNamed Bd.named Bd.method).1
  have hlk := Bd.notSynchronized
  have X0 : Stand p l e ({ frames := 4, cells := 0, slots := 0, locals := 55 } : Room) s m #[(.ref x0)] below meth cD s₁ [] 0 0 := Stand.of_body Bd
  have e0 : s₁.heap = h0 := by rw [← hh, Bd.state]; rfl
  have lt0 := own_ltN' P0.lt
  have lt1 := own_ltN' P1.lt
  have lt2 := own_ltN' P2.lt
  have lt3 := own_ltN' P3.lt
  have K0 : Keep h0 h0 [] := Keep.refl h0 _
  have Z0 := own_old_le O0
  have N0 := Fr.nil n0
  obtain ⟨aT0, aT1, aT2, ST0, ST1, ST2, TB0, TB1, TB2⟩ := own_tabs G
  refine OwnEnd.start (g' := (mkF m 0 #[.val (.ref x0), .unset, .unset, .unset] [])) (own_efia0 m x0) ?_
  refine OwnEnd.of (S' := s₁.setTop (mkF m 3 #[.val (.ref x0), .unset, .unset, .unset] [(.int 58), (.ref x0)])) (fun _ kK => XS.aloadN X0.here hx rfl (hb hby d23_0) rfl rfl (XS.bipush X0.here hx rfl (hb hby d23_1) kK)) ?_
  obtain ⟨cq1, kq1, q1a, q1b, q1c⟩ := isOf hZ e0 P0
  obtain ⟨_, _, ⟨T1, L1, k1, n1⟩, -, X1, ⟨Lc1, hQ1, l1, y1, z1⟩, st1⟩ := X0.virtualBack hx (y := own_m22) (z := own_m22) hown (mvT hZ (own_w G 37 rfl)) (mvT hZ (own_w G 38 rfl)) (notFace_of_selects (args := #[]) (mvT hZ (own_w G 40 rfl))) (mvT hZ (own_w G 40 rfl)) (mvT hZ (own_w G 39 rfl)) (by decide) (backOf (W := 0) (rmsk0 l Z a0 G [] x0 t kb h0 n0 O0 P0 P1 P2 P3) hZ (own_w G 41 rfl) (own_w G 8 rfl) (by decide) (by decide)) q1a q1c (g := (mkF m 3 #[.val (.ref x0), .unset, .unset, .unset] [(.int 58), (.ref x0)])) rfl (by rw [hml]; rfl) (Steps.refl _) (argsL := [(.int 58)]) (rest := []) (lenOf pd_14 rfl) rfl (by show 2 * 0 + _ ≤ _; exact Nat.le_of_eq rfl) (hb hby d23_3) (fun _ _ => ⟨rfl, e0, (by decide : 0 + 0 ≤ _), (by decide : 0 + 0 ≤ _)⟩)
  dsimp only [Pt.U, Pt.locs, Pt.cells, Pt.slots] at X1 l1 y1 z1 st1 hQ1
  subst l1 y1 z1
  obtain ⟨rfl, N1q, eh1⟩ := hQ1
  have N1 := Fr.app N0 N1q
  refine OwnEnd.tr (S' := T1.setTop (mkF m 6 #[.val (.ref x0), .unset, .unset, .unset] [(.int (own_ix (0 : Int32) []))])) st1 ?_
  rw [own_ix0]
  refine OwnEnd.of (S' := T1.setTop (mkF m 63 #[.val (.ref x0), .val (.int (-1 : Int32)), .val (.int 0), .val (.int 1)] [(.int (-1 : Int32))])) (fun _ kK => XS.istoreN X1.here hx rfl (hb hby d23_6) rfl (l' := #[.val (.ref x0), .val (.int (-1 : Int32)), .unset, .unset]) rfl (XS.iloadN X1.here hx rfl (hb hby d23_7) rfl (XS.ifYes X1.here hx rfl (pc0 := 8) (pc' := 30) rfl (hb hby d23_8) rfl ((if0 _ _).trans (flt ((by decide : ¬ ((0 : Int32) < (-1 : Int32))))).2.2.2) (by decide) (by decide) (XS.iconst X1.here hx rfl (hb hby d23_30) (XS.istoreN X1.here hx rfl (hb hby d23_31) rfl (l' := #[.val (.ref x0), .val (.int (-1 : Int32)), .val (.int 0), .unset]) rfl (XS.iconst X1.here hx rfl (hb hby d23_32) (XS.istoreN X1.here hx rfl (hb hby d23_33) rfl (l' := #[.val (.ref x0), .val (.int (-1 : Int32)), .val (.int 0), .val (.int 1)]) rfl (XS.iloadN X1.here hx rfl (hb hby d23_34) rfl (XS.ifYes X1.here hx rfl (pc0 := 35) (pc' := 62) rfl (hb hby d23_35) rfl ((if0 _ _).trans (teq ((by decide : (0 : Int32) = (0 : Int32)))).1) (by decide) (by decide) (XS.iloadN X1.here hx rfl (hb hby d23_62) rfl kK)))))))))) ?_
  refine OwnEnd.of (S' := T1.setTop (mkF m 94 #[.val (.ref x0), .val (.int (-1 : Int32)), .val (.int 0), .val (.int 0)] [(.int 0)])) (fun _ kK => XS.iconst X1.here hx rfl (hb hby d23_63) (XS.iadd X1.here hx rfl (hb hby d23_64) rfl (XS.istoreN X1.here hx rfl (hb hby d23_65) rfl (l' := #[.val (.ref x0), .val (.int (-1 : Int32)), .val (.int 0), .val (.int 0)]) rfl (XS.iloadN X1.here hx rfl (hb hby d23_66) rfl (XS.ifYes X1.here hx rfl (pc0 := 67) (pc' := 93) rfl (hb hby d23_67) rfl ((if0 _ _).trans (teq ((by decide : (0 : Int32) = (0 : Int32)))).1) (by decide) (by decide) (XS.iloadN X1.here hx rfl (hb hby d23_93) rfl kK)))))) ?_
  refine OwnEnd.ret X1 (v := (some (.int (nar .boolean (0 : Int32))))) (fun h => by rw [Bd.returns] at h; cases h) hlk (fun fs hr => retN X1 hx (t := .boolean) Bd.returns (by simp) (hb hby d23_94) hr) (by decide) (by decide) (Q := (own_Qint (own_abs [])) h0 n0) eh1 ?_
  exact ⟨rfl, N1, rfl⟩

theorem own_efmn1 (m : MethodId) : entryFrame m #[(.int 1), (.int 1)] 2 = mkF m 0 #[.val (.int 1), .val (.int 1)] [] := by first | (simp [entryFrame, mkF, argsToLocals, Value.category]; done) | rfl
set_option maxRecDepth 65536 in
set_option maxHeartbeats 40000000 in
theorem rmmn1 (l : Launch) (Z : State) (a0 : Array Value) (G : OwnG Z a0) (ws : List Jvm.Cond)  (h0 : Heap) (n0 : Nat) (O0 : Old Z n0 h0)  :
    MetFree l own_m19 (head1 (Jvm.Cond.code own_m19 jdk_29_method_69_code 2 (some .int) :: ws) ({ frames := 0, cells := 0, slots := 0, locals := 0 } : Room)) (fun a U => a = #[(.int 1), (.int 1)] ∧ Z.Warmed39 U.vm ∧ U.heap = h0) (fun _ _ _ _ _ => True) (fun _ U o U' => ∃ v L, o = .returned v ∧ (own_Qint (1 : Int32)) h0 n0 v U'.heap L ∧ FrameEnd U o U' L ({ frames := 0, cells := 0, slots := 0, locals := 0 } : Room).cells ({ frames := 0, cells := 0, slots := 0, locals := 0 } : Room).slots) := by
  refine MetFree.of_bodySF (Jvm.Free.JP.mathPlain rfl (by decide +kernel)) hisR ?_
  intro p e s m args below meth cD s₁ Bd hml0 hP hK
  obtain ⟨rfl, hZ, hh⟩ := hP
  have hw := G.1
  have hx := Bd.exec
  have hby := Bd.bytes
  have hml : cD.maxLocals = 2 := hml0
  have hown : s.vm.findClass "java/lang/Math" = some m.cls := findClass_of_methodNamed Bd.named
  have hnm := (name_of_methodNamed Bd.named Bd.method).1
  have hlk := Bd.notSynchronized
  have X0 : Stand p l e ({ frames := 0, cells := 0, slots := 0, locals := 0 } : Room) s m #[(.int 1), (.int 1)] below meth cD s₁ [] 0 0 := Stand.of_body Bd
  have e0 : s₁.heap = h0 := by rw [← hh, Bd.state]; rfl
  have K0 : Keep h0 h0 [] := Keep.refl h0 _
  have Z0 := own_old_le O0
  have N0 := Fr.nil n0
  refine OwnEnd.start (g' := (mkF m 0 #[.val (.int 1), .val (.int 1)] [])) (own_efmn1 m ) ?_
  refine OwnEnd.of (S' := s₁.setTop (mkF m 10 #[.val (.int 1), .val (.int 1)] [(.int 1)])) (fun _ kK => XS.iloadN X0.here hx rfl (hb hby d19_0) rfl (XS.iloadN X0.here hx rfl (hb hby d19_1) rfl (XS.icmpNo X0.here hx rfl (hb hby d19_2) rfl (flt ((by decide : ¬ ((1 : Int32) < (1 : Int32))))).2.2.1 (XS.iloadN X0.here hx rfl (hb hby d19_5) rfl (XS.goto X0.here hx rfl (pc0 := 6) (pc' := 10) rfl (hb hby d19_6) (by decide) (by decide) kK))))) ?_
  refine OwnEnd.ret X0 (v := (some (.int 1))) (fun h => by rw [Bd.returns] at h; cases h) hlk (fun fs hr => retOut X0 hx Bd.returns rfl (Or.inl ⟨rfl, Or.inl rfl, _, rfl⟩) (hb hby d19_10) hr) (by decide) (by decide) (Q := (own_Qint (1 : Int32)) h0 n0) e0 ?_
  exact ⟨rfl, N0, rfl⟩

theorem own_efix1 (m : MethodId) (t : Addr) : entryFrame m #[(.ref t), (.int 58), (.int 0), (.int 1)] 6 = mkF m 0 #[.val (.ref t), .val (.int 58), .val (.int 0), .val (.int 1), .unset, .unset] [] := by first | (simp [entryFrame, mkF, argsToLocals, Value.category]; done) | rfl
set_option maxRecDepth 65536 in
set_option maxHeartbeats 40000000 in
theorem rmix1 (l : Launch) (Z : State) (a0 : Array Value) (G : OwnG Z a0) (ws : List Jvm.Cond) (t : Addr) (kb : ClassId) (c0 : Int32) (h0 : Heap) (n0 : Nat) (O0 : Old Z n0 h0) (P0 : Arv Z h0 t kb .byte (1 : Int32) ((([c0] : List Int32).map (fun c => c.toInt8.toInt32)).map Value.int) (.int 0)) (P1 : ∀ c ∈ ([c0] : List Int32), ¬ c < (0 : Int32) ∧ ¬ (255 : Int32) < c) :
    MetFree l own_m24 (head1 (Jvm.Cond.code own_m24 jdk_43_method_23_code 6 (some .int) :: ws) ({ frames := 0, cells := 0, slots := 0, locals := 0 } : Room)) (fun a U => a = #[(.ref t), (.int 58), (.int 0), (.int 1)] ∧ Z.Warmed39 U.vm ∧ U.heap = h0) (fun _ _ _ _ _ => True) (fun _ U o U' => ∃ v L, o = .returned v ∧ (own_Qint (own_ix (0 : Int32) [c0])) h0 n0 v U'.heap L ∧ FrameEnd U o U' L ({ frames := 0, cells := 0, slots := 0, locals := 0 } : Room).cells ({ frames := 0, cells := 0, slots := 0, locals := 0 } : Room).slots) := by
  refine MetFree.of_bodySF (plainFor_of_name pn_2) hisR ?_
  intro p e s m args below meth cD s₁ Bd hml0 hP hK
  obtain ⟨rfl, hZ, hh⟩ := hP
  have hw := G.1
  have hx := Bd.exec
  have hby := Bd.bytes
  have hml : cD.maxLocals = 6 := hml0
  have hown : s.vm.findClass "java/lang/StringLatin1" = some m.cls := findClass_of_methodNamed Bd.named
  have hnm := (name_of_methodNamed Bd.named Bd.method).1
  have hlk := Bd.notSynchronized
  have X0 : Stand p l e ({ frames := 0, cells := 0, slots := 0, locals := 0 } : Room) s m #[(.ref t), (.int 58), (.int 0), (.int 1)] below meth cD s₁ [] 0 0 := Stand.of_body Bd
  have e0 : s₁.heap = h0 := by rw [← hh, Bd.state]; rfl
  have lt0 := own_ltN' P0.lt
  have K0 : Keep h0 h0 [] := Keep.refl h0 _
  have Z0 := own_old_le O0
  have N0 := Fr.nil n0
  refine OwnEnd.start (g' := (mkF m 0 #[.val (.ref t), .val (.int 58), .val (.int 0), .val (.int 1), .unset, .unset] [])) (own_efix1 m t) ?_
  have V1 : Arv Z h0 t kb .byte (1 : Int32) [(.int (StrChars.lo8 c0))] (.int 0) := by have q := P0; exact q
  refine OwnEnd.of (S' := s₁.setTop (mkF m 16 #[.val (.ref t), .val (.int 58), .val (.int 0), .val (.int 1), .val (.int 58), .val (.int 0)] [(.int 0), (.ref t)])) (fun _ kK => XS.iloadN X0.here hx rfl (hb hby d24_0) rfl (XS.i2b X0.here hx rfl (hb hby d24_1) rfl (XS.istore X0.here hx rfl (hb hby d24_2) rfl (l' := #[.val (.ref t), .val (.int 58), .val (.int 0), .val (.int 1), .val (.int 58), .unset]) rfl (XS.iloadN X0.here hx rfl (hb hby d24_4) rfl (XS.istore X0.here hx rfl (hb hby d24_5) rfl (l' := #[.val (.ref t), .val (.int 58), .val (.int 0), .val (.int 1), .val (.int 58), .val (.int 0)]) rfl (XS.iload X0.here hx rfl (hb hby d24_7) rfl (XS.iloadN X0.here hx rfl (hb hby d24_9) rfl (XS.icmpNo X0.here hx rfl (hb hby d24_10) rfl (tlt ((by decide : (0 : Int32) < (1 : Int32)))).2.1 (XS.aloadN X0.here hx rfl (hb hby d24_13) rfl rfl (XS.iload X0.here hx rfl (hb hby d24_14) rfl kK)))))))))) ?_
  obtain ⟨cl2, Ar2, q2, S2, N2', H2, G2⟩ := id V1
  have hin3 : ¬ ((0 : Int32) < 0 ∨ cl2.slots.size ≤ ((0 : Int32)).toNatClampNeg) := inb_of S2 ⟨by decide, by decide⟩
  refine OwnEnd.of (S' := s₁.setTop (mkF m 17 #[.val (.ref t), .val (.int 58), .val (.int 0), .val (.int 1), .val (.int 58), .val (.int 0)] [(.int (StrChars.lo8 c0))])) (fun _ kK => X0.baloadBytes hx (j := (0 : Int32)) (v := (.int (StrChars.lo8 c0))) (by rw [e0]; exact Ar2.1) (State.isArrayOf_alike hZ.alike Ar2.2.1) Ar2.2.2 hin3 (Has.at H2 hin3 (rfl)) (g := (mkF m 16 #[.val (.ref t), .val (.int 58), .val (.int 0), .val (.int 1), .val (.int 58), .val (.int 0)] [(.int 0), (.ref t)])) rfl rfl (hb hby d24_16) _ kK) ?_
  refine OwnEnd.of (S' := s₁.setTop (mkF m 19 #[.val (.ref t), .val (.int 58), .val (.int 0), .val (.int 1), .val (.int 58), .val (.int 0)] [(.int 58), (.int (StrChars.lo8 c0))])) (fun _ kK => XS.iload X0.here hx rfl (hb hby d24_17) rfl kK) ?_
  rcases Decidable.em (c0 = (58 : Int32)) with hc4 | hc4
  · refine OwnEnd.of (S' := s₁.setTop (mkF m 24 #[.val (.ref t), .val (.int 58), .val (.int 0), .val (.int 1), .val (.int 58), .val (.int 0)] [(.int 0)])) (fun _ kK => XS.icmpNo X0.here hx rfl (hb hby d24_19) rfl (teq ((own_lo58 hc4))).2 (XS.iload X0.here hx rfl (hb hby d24_22) rfl kK)) ?_
    refine OwnEnd.ret X0 (v := (some (.int 0))) (fun h => by rw [Bd.returns] at h; cases h) hlk (fun fs hr => retOut X0 hx Bd.returns rfl (Or.inl ⟨rfl, Or.inl rfl, _, rfl⟩) (hb hby d24_24) hr) (by decide) (by decide) (Q := (own_Qint (own_ix (0 : Int32) [c0])) h0 n0) e0 ?_
    exact ⟨(by simp [own_ix, hc4]), N0, rfl⟩
  · refine OwnEnd.of (S' := s₁.setTop (mkF m 32 #[.val (.ref t), .val (.int 58), .val (.int 0), .val (.int 1), .val (.int 58), .val (.int 1)] [(.int (-1 : Int32))])) (fun _ kK => XS.icmpYes X0.here hx rfl (pc0 := 19) (pc' := 25) rfl (hb hby d24_19) rfl (feq ((own_lo58n (P1 c0 (by simp)).1 (P1 c0 (by simp)).2 hc4))).2 (by decide) (by decide) (XS.iinc X0.here hx rfl (hb hby d24_25) rfl (l' := #[.val (.ref t), .val (.int 58), .val (.int 0), .val (.int 1), .val (.int 58), .val (.int 1)]) rfl (XS.goto X0.here hx rfl (pc0 := 28) (pc' := 7) rfl (hb hby d24_28) (by decide) (by decide) (XS.iload X0.here hx rfl (hb hby d24_7) rfl (XS.iloadN X0.here hx rfl (hb hby d24_9) rfl (XS.icmpYes X0.here hx rfl (pc0 := 10) (pc' := 31) rfl (hb hby d24_10) rfl (flt ((by decide : ¬ ((1 : Int32) < (1 : Int32))))).2.1 (by decide) (by decide) (XS.iconst X0.here hx rfl (hb hby d24_31) kK))))))) ?_
    refine OwnEnd.ret X0 (v := (some (.int (-1 : Int32)))) (fun h => by rw [Bd.returns] at h; cases h) hlk (fun fs hr => retOut X0 hx Bd.returns rfl (Or.inl ⟨rfl, Or.inl rfl, _, rfl⟩) (hb hby d24_32) hr) (by decide) (by decide) (Q := (own_Qint (own_ix (0 : Int32) [c0])) h0 n0) e0 ?_
    exact ⟨(by simp [own_ix, hc4]), N0, rfl⟩

theorem own_efsi1 (m : MethodId) (t : Addr) : entryFrame m #[(.ref t), (.int 58), (.int 0), (.int 1)] 4 = mkF m 0 #[.val (.ref t), .val (.int 58), .val (.int 0), .val (.int 1)] [] := by first | (simp [entryFrame, mkF, argsToLocals, Value.category]; done) | rfl
set_option maxRecDepth 65536 in
set_option maxHeartbeats 40000000 in
theorem rmsi1 (l : Launch) (Z : State) (a0 : Array Value) (G : OwnG Z a0) (ws : List Jvm.Cond) (t : Addr) (kb : ClassId) (c0 : Int32) (h0 : Heap) (n0 : Nat) (O0 : Old Z n0 h0) (P0 : Arv Z h0 t kb .byte (1 : Int32) ((([c0] : List Int32).map (fun c => c.toInt8.toInt32)).map Value.int) (.int 0)) (P1 : ∀ c ∈ ([c0] : List Int32), ¬ c < (0 : Int32) ∧ ¬ (255 : Int32) < c) :
    MetFree l own_m20 (head1 (Jvm.Cond.code own_m20 jdk_43_method_22_code 4 (some .int) :: ws) ({ frames := 1, cells := 0, slots := 0, locals := 17 } : Room)) (fun a U => a = #[(.ref t), (.int 58), (.int 0), (.int 1)] ∧ Z.Warmed39 U.vm ∧ U.heap = h0) (fun _ _ _ _ _ => True) (fun _ U o U' => ∃ v L, o = .returned v ∧ (own_Qint (own_ix (0 : Int32) [c0])) h0 n0 v U'.heap L ∧ FrameEnd U o U' L ({ frames := 1, cells := 0, slots := 0, locals := 17 } : Room).cells ({ frames := 1, cells := 0, slots := 0, locals := 17 } : Room).slots) := by
  refine MetFree.of_bodySF (plainFor_of_name pn_2) hisR ?_
  intro p e s m args below meth cD s₁ Bd hml0 hP hK
  obtain ⟨rfl, hZ, hh⟩ := hP
  have hw := G.1
  have hx := Bd.exec
  have hby := Bd.bytes
  have hml : cD.maxLocals = 4 := hml0
  have hown : s.vm.findClass "java/lang/StringLatin1" = some m.cls := findClass_of_methodNamed Bd.named
  have hnm := (name_of_methodNamed Bd.named Bd.method).1
  have hlk := Bd.notSynchronized
  have X0 : Stand p l e ({ frames := 1, cells := 0, slots := 0, locals := 17 } : Room) s m #[(.ref t), (.int 58), (.int 0), (.int 1)] below meth cD s₁ [] 0 0 := Stand.of_body Bd
  have e0 : s₁.heap = h0 := by rw [← hh, Bd.state]; rfl
  have lt0 := own_ltN' P0.lt
  have K0 : Keep h0 h0 [] := Keep.refl h0 _
  have Z0 := own_old_le O0
  have N0 := Fr.nil n0
  refine OwnEnd.start (g' := (mkF m 0 #[.val (.ref t), .val (.int 58), .val (.int 0), .val (.int 1)] [])) (own_efsi1 m t) ?_
  refine OwnEnd.of (S' := s₁.setTop (mkF m 1 #[.val (.ref t), .val (.int 58), .val (.int 0), .val (.int 1)] [(.int 58)])) (fun _ kK => XS.iloadN X0.here hx rfl (hb hby d20_0) rfl kK) ?_
  obtain ⟨_, _, ⟨T1, L1, k1, n1⟩, -, X1, ⟨Lc1, hQ1, l1, y1, z1⟩, st1⟩ := Jvm.LawKit.callS X0 hx (y := own_m15) hown (mvT hZ (own_w G 67 rfl)) (mvT hZ (own_w G 68 rfl)) (mvT hZ (own_w G 65 rfl)) (mvT hZ (own_w G 69 rfl)) (by decide) (backOf (W := 0) (rmce l Z a0 G []  h0 n0 O0 ) hZ (own_w G 69 rfl) (own_w G 65 rfl) (by decide) (by decide)) (g := (mkF m 1 #[.val (.ref t), .val (.int 58), .val (.int 0), .val (.int 1)] [(.int 58)])) rfl (by rw [hml]; rfl) (argsL := [(.int 58)]) (rest := []) (lenOf pd_10 rfl) rfl (by show 2 * 0 + _ ≤ _; exact Nat.le_of_eq rfl) (hb hby d20_1) (fun _ _ => ⟨rfl, e0, (by decide : 0 + 0 ≤ _), (by decide : 0 + 0 ≤ _)⟩)
  dsimp only [Pt.U, Pt.locs, Pt.cells, Pt.slots] at X1 l1 y1 z1 st1 hQ1
  subst l1 y1 z1
  obtain ⟨rfl, N1q, eh1⟩ := hQ1
  have N1 := Fr.app N0 N1q
  refine OwnEnd.of (S' := T1.setTop (mkF m 4 #[.val (.ref t), .val (.int 58), .val (.int 0), .val (.int 1)] [(.int 1)])) st1 ?_
  refine OwnEnd.of (S' := T1.setTop (mkF m 11 #[.val (.ref t), .val (.int 58), .val (.int 0), .val (.int 1)] [(.int 0), (.int 0)])) (fun _ kK => XS.ifYes X1.here hx rfl (pc0 := 4) (pc' := 9) rfl (hb hby d20_4) rfl ((if0 _ _).trans (feq ((by decide : ¬ ((1 : Int32) = (0 : Int32))))).2) (by decide) (by decide) (XS.iloadN X1.here hx rfl (hb hby d20_9) rfl (XS.iconst X1.here hx rfl (hb hby d20_10) kK))) ?_
  obtain ⟨_, _, ⟨T2, L2, k2, n2⟩, -, X2, ⟨Lc2, hQ2, l2, y2, z2⟩, st2⟩ := Jvm.LawKit.callS X1 hx (y := own_m16) hown (mvT hZ (own_w G 70 rfl)) (mvT hZ (own_w G 71 rfl)) (mvT hZ (own_w G 72 rfl)) (mvT hZ (own_w G 73 rfl)) (by decide) (backOf (W := 0) (rmmx l Z a0 G []  h0 n0 O0 ) hZ (own_w G 73 rfl) (own_w G 72 rfl) (by decide) (by decide)) (g := (mkF m 11 #[.val (.ref t), .val (.int 58), .val (.int 0), .val (.int 1)] [(.int 0), (.int 0)])) rfl (by rw [hml]; rfl) (argsL := [(.int 0), (.int 0)]) (rest := []) (lenOf pd_11 rfl) rfl (by show 2 * 0 + _ ≤ _; exact Nat.le_of_eq rfl) (hb hby d20_11) (fun _ _ => ⟨rfl, eh1, (by decide : 0 + 0 ≤ _), (by decide : 0 + 0 ≤ _)⟩)
  dsimp only [Pt.U, Pt.locs, Pt.cells, Pt.slots] at X2 l2 y2 z2 st2 hQ2
  subst l2 y2 z2
  obtain ⟨rfl, N2q, eh2⟩ := hQ2
  have N2 := Fr.app N1 N2q
  refine OwnEnd.of (S' := T2.setTop (mkF m 14 #[.val (.ref t), .val (.int 58), .val (.int 0), .val (.int 1)] [(.int 0)])) st2 ?_
  refine OwnEnd.of (S' := T2.setTop (mkF m 17 #[.val (.ref t), .val (.int 58), .val (.int 0), .val (.int 1)] [(.ref t), (.int 1)])) (fun _ kK => XS.istoreN X2.here hx rfl (hb hby d20_14) rfl (l' := #[.val (.ref t), .val (.int 58), .val (.int 0), .val (.int 1)]) rfl (XS.iloadN X2.here hx rfl (hb hby d20_15) rfl (XS.aloadN X2.here hx rfl (hb hby d20_16) rfl rfl kK))) ?_
  obtain ⟨cl3, Ar3, q3, S3, N3', H3, G3⟩ := id P0
  refine OwnEnd.of (S' := T2.setTop (mkF m 18 #[.val (.ref t), .val (.int 58), .val (.int 0), .val (.int 1)] [(.int 1), (.int 1)])) (fun _ kK => X2.arraylength hx (by rw [eh2]; exact Ar3.1) (State.isArrayOf_alike hZ.alike Ar3.2.1) (g := (mkF m 17 #[.val (.ref t), .val (.int 58), .val (.int 0), .val (.int 1)] [(.ref t), (.int 1)])) rfl rfl (hb hby d20_17) _ (by rw [len_of S3 N3']; exact kK)) ?_
  obtain ⟨_, _, ⟨T4, L4, k4, n4⟩, -, X4, ⟨Lc4, hQ4, l4, y4, z4⟩, st4⟩ := Jvm.LawKit.callS X2 hx (y := own_m19) hown (mvT hZ (own_w G 74 rfl)) (mvT hZ (own_w G 75 rfl)) (mvT hZ (own_w G 72 rfl)) (mvT hZ (own_w G 76 rfl)) (by decide) (backOf (W := 0) (rmmn1 l Z a0 G []  h0 n0 O0 ) hZ (own_w G 76 rfl) (own_w G 72 rfl) (by decide) (by decide)) (g := (mkF m 18 #[.val (.ref t), .val (.int 58), .val (.int 0), .val (.int 1)] [(.int 1), (.int 1)])) rfl (by rw [hml]; rfl) (argsL := [(.int 1), (.int 1)]) (rest := []) (lenOf pd_11 rfl) rfl (by show 2 * 0 + _ ≤ _; exact Nat.le_of_eq rfl) (hb hby d20_18) (fun _ _ => ⟨rfl, eh2, (by decide : 0 + 0 ≤ _), (by decide : 0 + 0 ≤ _)⟩)
  dsimp only [Pt.U, Pt.locs, Pt.cells, Pt.slots] at X4 l4 y4 z4 st4 hQ4
  subst l4 y4 z4
  obtain ⟨rfl, N4q, eh4⟩ := hQ4
  have N4 := Fr.app N2 N4q
  refine OwnEnd.of (S' := T4.setTop (mkF m 21 #[.val (.ref t), .val (.int 58), .val (.int 0), .val (.int 1)] [(.int 1)])) st4 ?_
  refine OwnEnd.of (S' := T4.setTop (mkF m 33 #[.val (.ref t), .val (.int 58), .val (.int 0), .val (.int 1)] [(.int 1), (.int 0), (.int 58), (.ref t)])) (fun _ kK => XS.istoreN X4.here hx rfl (hb hby d20_21) rfl (l' := #[.val (.ref t), .val (.int 58), .val (.int 0), .val (.int 1)]) rfl (XS.iloadN X4.here hx rfl (hb hby d20_22) rfl (XS.iloadN X4.here hx rfl (hb hby d20_23) rfl (XS.icmpYes X4.here hx rfl (pc0 := 24) (pc' := 29) rfl (hb hby d20_24) rfl (tlt ((by decide : (0 : Int32) < (1 : Int32)))).1 (by decide) (by decide) (XS.aloadN X4.here hx rfl (hb hby d20_29) rfl rfl (XS.iloadN X4.here hx rfl (hb hby d20_30) rfl (XS.iloadN X4.here hx rfl (hb hby d20_31) rfl (XS.iloadN X4.here hx rfl (hb hby d20_32) rfl kK)))))))) ?_
  obtain ⟨_, _, ⟨T5, L5, k5, n5⟩, -, X5, ⟨Lc5, hQ5, l5, y5, z5⟩, st5⟩ := Jvm.LawKit.callS X4 hx (y := own_m24) hown (mvT hZ (own_w G 87 rfl)) (mvT hZ (own_w G 88 rfl)) (mvT hZ (own_w G 65 rfl)) (mvT hZ (own_w G 89 rfl)) (by decide) (backOf (W := 0) (rmix1 l Z a0 G [] t kb c0 h0 n0 O0 P0 P1) hZ (own_w G 89 rfl) (own_w G 65 rfl) (by decide) (by decide)) (g := (mkF m 33 #[.val (.ref t), .val (.int 58), .val (.int 0), .val (.int 1)] [(.int 1), (.int 0), (.int 58), (.ref t)])) rfl (by rw [hml]; rfl) (argsL := [(.ref t), (.int 58), (.int 0), (.int 1)]) (rest := []) (lenOf pd_13 rfl) rfl (by show 2 * 0 + _ ≤ _; exact Nat.le_of_eq rfl) (hb hby d20_33) (fun _ _ => ⟨rfl, eh4, (by decide : 0 + 0 ≤ _), (by decide : 0 + 0 ≤ _)⟩)
  dsimp only [Pt.U, Pt.locs, Pt.cells, Pt.slots] at X5 l5 y5 z5 st5 hQ5
  subst l5 y5 z5
  obtain ⟨rfl, N5q, eh5⟩ := hQ5
  have N5 := Fr.app N4 N5q
  refine OwnEnd.of (S' := T5.setTop (mkF m 36 #[.val (.ref t), .val (.int 58), .val (.int 0), .val (.int 1)] [(.int (own_ix (0 : Int32) [c0]))])) st5 ?_
  refine OwnEnd.ret X5 (v := (some (.int (own_ix (0 : Int32) [c0])))) (fun h => by rw [Bd.returns] at h; cases h) hlk (fun fs hr => retOut X5 hx Bd.returns rfl (Or.inl ⟨rfl, Or.inl rfl, _, rfl⟩) (hb hby d20_36) hr) (by decide) (by decide) (Q := (own_Qint (own_ix (0 : Int32) [c0])) h0 n0) eh5 ?_
  exact ⟨rfl, N5, rfl⟩

theorem own_efsj1 (m : MethodId) (x0 : Addr) : entryFrame m #[(.ref x0), (.int 58), (.int 0)] 3 = mkF m 0 #[.val (.ref x0), .val (.int 58), .val (.int 0)] [] := by first | (simp [entryFrame, mkF, argsToLocals, Value.category]; done) | rfl
set_option maxRecDepth 65536 in
set_option maxHeartbeats 40000000 in
theorem rmsj1 (l : Launch) (Z : State) (a0 : Array Value) (G : OwnG Z a0) (ws : List Jvm.Cond) (x0 : Addr) (t : Addr) (kb : ClassId) (c0 : Int32) (h0 : Heap) (n0 : Nat) (O0 : Old Z n0 h0) (P0 : Exa Z h0 x0 "java/lang/String") (P1 : Fld Z h0 x0 "java/lang/String" "value" "[B" (.ref t)) (P2 : Fld Z h0 x0 "java/lang/String" "coder" "B" (.int 0)) (P3 : Arv Z h0 t kb .byte (1 : Int32) ((([c0] : List Int32).map (fun c => c.toInt8.toInt32)).map Value.int) (.int 0)) (P4 : ∀ c ∈ ([c0] : List Int32), ¬ c < (0 : Int32) ∧ ¬ (255 : Int32) < c) :
    MetFree l own_m21 (head1 (Jvm.Cond.code own_m21 jdk_42_method_80_code 3 (some .int) :: ws) ({ frames := 2, cells := 0, slots := 0, locals := 32 } : Room)) (fun a U => a = #[(.ref x0), (.int 58), (.int 0)] ∧ Z.Warmed39 U.vm ∧ U.heap = h0) (fun _ _ _ _ _ => True) (fun _ U o U' => ∃ v L, o = .returned v ∧ (own_Qint (own_ix (0 : Int32) [c0])) h0 n0 v U'.heap L ∧ FrameEnd U o U' L ({ frames := 2, cells := 0, slots := 0, locals := 32 } : Room).cells ({ frames := 2, cells := 0, slots := 0, locals := 32 } : Room).slots) := by
  refine MetFree.of_bodySF (plainFor_of_name pn_0) hisR ?_
  intro p e s m args below meth cD s₁ Bd hml0 hP hK
  obtain ⟨rfl, hZ, hh⟩ := hP
  have hw := G.1
  have hx := Bd.exec
  have hby := Bd.bytes
  have hml : cD.maxLocals = 3 := hml0
  have hown : s.vm.findClass "java/lang/String" = some m.cls := findClass_of_methodNamed Bd.named
  have hnm := (name_of_methodNamed Bd.named Bd.method).1
  have hlk := Bd.notSynchronized
  have X0 : Stand p l e ({ frames := 2, cells := 0, slots := 0, locals := 32 } : Room) s m #[(.ref x0), (.int 58), (.int 0)] below meth cD s₁ [] 0 0 := Stand.of_body Bd
  have e0 : s₁.heap = h0 := by rw [← hh, Bd.state]; rfl
  have lt0 := own_ltN' P0.lt
  have lt1 := own_ltN' P1.lt
  have lt2 := own_ltN' P2.lt
  have lt3 := own_ltN' P3.lt
  have K0 : Keep h0 h0 [] := Keep.refl h0 _
  have Z0 := own_old_le O0
  have N0 := Fr.nil n0
  refine OwnEnd.start (g' := (mkF m 0 #[.val (.ref x0), .val (.int 58), .val (.int 0)] [])) (own_efsj1 m x0) ?_
  refine OwnEnd.of (S' := s₁.setTop (mkF m 1 #[.val (.ref x0), .val (.int 58), .val (.int 0)] [(.ref x0)])) (fun _ kK => XS.aloadN X0.here hx rfl (hb hby d21_0) rfl rfl kK) ?_
  obtain ⟨cq1, kq1, q1a, q1b, q1c⟩ := isOf hZ e0 P0
  obtain ⟨_, _, ⟨T1, L1, k1, n1⟩, -, X1, ⟨Lc1, hQ1, l1, y1, z1⟩, st1⟩ := X0.virtualBack hx (y := own_m4) (z := own_m4) hown (mvT hZ (own_w G 47 rfl)) (mvT hZ (own_w G 48 rfl)) (notFace_of_selects (args := #[]) (mvT hZ (own_w G 50 rfl))) (mvT hZ (own_w G 50 rfl)) (mvT hZ (own_w G 49 rfl)) (by decide) (backOf (W := 0) (rmil0 l Z a0 G [] x0 h0 n0 O0 P2) hZ (own_w G 51 rfl) (own_w G 8 rfl) (by decide) (by decide)) q1a q1c (g := (mkF m 1 #[.val (.ref x0), .val (.int 58), .val (.int 0)] [(.ref x0)])) rfl (by rw [hml]; rfl) (Steps.refl _) (argsL := []) (rest := []) (lenOf pd_4 rfl) rfl (by show 2 * 0 + _ ≤ _; exact Nat.le_of_eq rfl) (hb hby d21_1) (fun _ _ => ⟨rfl, e0, (by decide : 0 + 0 ≤ _), (by decide : 0 + 0 ≤ _)⟩)
  dsimp only [Pt.U, Pt.locs, Pt.cells, Pt.slots] at X1 l1 y1 z1 st1 hQ1
  subst l1 y1 z1
  obtain ⟨rfl, N1q, eh1⟩ := hQ1
  have N1 := Fr.app N0 N1q
  refine OwnEnd.tr (S' := T1.setTop (mkF m 4 #[.val (.ref x0), .val (.int 58), .val (.int 0)] [(.int 1)])) st1 ?_
  refine OwnEnd.of (S' := T1.setTop (mkF m 8 #[.val (.ref x0), .val (.int 58), .val (.int 0)] [(.ref x0)])) (fun _ kK => XS.ifNo X1.here hx rfl (hb hby d21_4) rfl ((if0 _ _).trans (feq ((by decide : ¬ ((1 : Int32) = (0 : Int32))))).1) (XS.aloadN X1.here hx rfl (hb hby d21_7) rfl rfl kK)) ?_
  obtain ⟨T2, X2, e2, st2⟩ := getF X1 hx hZ hown (host := "") (Or.inl (own_w G 25 rfl)) Via.refl eh1 P1 (g := (mkF m 8 #[.val (.ref x0), .val (.int 58), .val (.int 0)] [(.ref x0)])) rfl rfl (hb hby d21_8)
  refine OwnEnd.of (S' := T2.setTop (mkF m 11 #[.val (.ref x0), .val (.int 58), .val (.int 0)] [(.ref t)])) st2 ?_
  refine OwnEnd.of (S' := T2.setTop (mkF m 14 #[.val (.ref x0), .val (.int 58), .val (.int 0)] [(.ref x0), (.int 0), (.int 58), (.ref t)])) (fun _ kK => XS.iloadN X2.here hx rfl (hb hby d21_11) rfl (XS.iloadN X2.here hx rfl (hb hby d21_12) rfl (XS.aloadN X2.here hx rfl (hb hby d21_13) rfl rfl kK))) ?_
  obtain ⟨cq3, kq3, q3a, q3b, q3c⟩ := isOf hZ e2 P0
  obtain ⟨_, _, ⟨T3, L3, k3, n3⟩, -, X3, ⟨Lc3, hQ3, l3, y3, z3⟩, st3⟩ := X2.virtualBack hx (y := own_m6) (z := own_m6) hown (mvT hZ (own_w G 53 rfl)) (mvT hZ (own_w G 54 rfl)) (notFace_of_selects (args := #[]) (mvT hZ (own_w G 56 rfl))) (mvT hZ (own_w G 56 rfl)) (mvT hZ (own_w G 55 rfl)) (by decide) (backOf (W := 3) (rmln0 l Z a0 G [] x0 t kb (1 : Int32) ((([c0] : List Int32).map (fun c => c.toInt8.toInt32)).map Value.int) (.int 0) h0 n0 O0 P0 P1 P2 P3) hZ (own_w G 57 rfl) (own_w G 8 rfl) (by decide) (by decide)) q3a q3c (g := (mkF m 14 #[.val (.ref x0), .val (.int 58), .val (.int 0)] [(.ref x0), (.int 0), (.int 58), (.ref t)])) rfl (by rw [hml]; rfl) (Steps.refl _) (argsL := []) (rest := [(.int 0), (.int 58), (.ref t)]) (lenOf pd_12 rfl) rfl (by show 2 * 0 + _ ≤ _; exact Nat.le_of_eq rfl) (hb hby d21_14) (fun _ _ => ⟨rfl, e2, (by decide : 0 + 0 ≤ _), (by decide : 0 + 0 ≤ _)⟩)
  dsimp only [Pt.U, Pt.locs, Pt.cells, Pt.slots] at X3 l3 y3 z3 st3 hQ3
  subst l3 y3 z3
  obtain ⟨rfl, N3q, eh3⟩ := hQ3
  have N3 := Fr.app N1 N3q
  refine OwnEnd.tr (S' := T3.setTop (mkF m 17 #[.val (.ref x0), .val (.int 58), .val (.int 0)] [(.int 1), (.int 0), (.int 58), (.ref t)])) st3 ?_
  obtain ⟨_, _, ⟨T4, L4, k4, n4⟩, -, X4, ⟨Lc4, hQ4, l4, y4, z4⟩, st4⟩ := Jvm.LawKit.callS X3 hx (y := own_m20) hown (mvT hZ (own_w G 63 rfl)) (mvT hZ (own_w G 64 rfl)) (mvT hZ (own_w G 65 rfl)) (mvT hZ (own_w G 66 rfl)) (by decide) (backOf (W := 0) (rmsi1 l Z a0 G [] t kb c0 h0 n0 O0 P3 P4) hZ (own_w G 66 rfl) (own_w G 65 rfl) (by decide) (by decide)) (g := (mkF m 17 #[.val (.ref x0), .val (.int 58), .val (.int 0)] [(.int 1), (.int 0), (.int 58), (.ref t)])) rfl (by rw [hml]; rfl) (argsL := [(.ref t), (.int 58), (.int 0), (.int 1)]) (rest := []) (lenOf pd_13 rfl) rfl (by show 2 * 0 + _ ≤ _; exact Nat.le_of_eq rfl) (hb hby d21_17) (fun _ _ => ⟨rfl, eh3, (by decide : 0 + 0 ≤ _), (by decide : 0 + 0 ≤ _)⟩)
  dsimp only [Pt.U, Pt.locs, Pt.cells, Pt.slots] at X4 l4 y4 z4 st4 hQ4
  subst l4 y4 z4
  obtain ⟨rfl, N4q, eh4⟩ := hQ4
  have N4 := Fr.app N3 N4q
  refine OwnEnd.of (S' := T4.setTop (mkF m 20 #[.val (.ref x0), .val (.int 58), .val (.int 0)] [(.int (own_ix (0 : Int32) [c0]))])) st4 ?_
  refine OwnEnd.of (S' := T4.setTop (mkF m 36 #[.val (.ref x0), .val (.int 58), .val (.int 0)] [(.int (own_ix (0 : Int32) [c0]))])) (fun _ kK => XS.goto X4.here hx rfl (pc0 := 20) (pc' := 36) rfl (hb hby d21_20) (by decide) (by decide) kK) ?_
  refine OwnEnd.ret X4 (v := (some (.int (own_ix (0 : Int32) [c0])))) (fun h => by rw [Bd.returns] at h; cases h) hlk (fun fs hr => retOut X4 hx Bd.returns rfl (Or.inl ⟨rfl, Or.inl rfl, _, rfl⟩) (hb hby d21_36) hr) (by decide) (by decide) (Q := (own_Qint (own_ix (0 : Int32) [c0])) h0 n0) eh4 ?_
  exact ⟨rfl, N4, rfl⟩

theorem own_efsk1 (m : MethodId) (x0 : Addr) : entryFrame m #[(.ref x0), (.int 58)] 2 = mkF m 0 #[.val (.ref x0), .val (.int 58)] [] := by first | (simp [entryFrame, mkF, argsToLocals, Value.category]; done) | rfl
set_option maxRecDepth 65536 in
set_option maxHeartbeats 40000000 in
theorem rmsk1 (l : Launch) (Z : State) (a0 : Array Value) (G : OwnG Z a0) (ws : List Jvm.Cond) (x0 : Addr) (t : Addr) (kb : ClassId) (c0 : Int32) (h0 : Heap) (n0 : Nat) (O0 : Old Z n0 h0) (P0 : Exa Z h0 x0 "java/lang/String") (P1 : Fld Z h0 x0 "java/lang/String" "value" "[B" (.ref t)) (P2 : Fld Z h0 x0 "java/lang/String" "coder" "B" (.int 0)) (P3 : Arv Z h0 t kb .byte (1 : Int32) ((([c0] : List Int32).map (fun c => c.toInt8.toInt32)).map Value.int) (.int 0)) (P4 : ∀ c ∈ ([c0] : List Int32), ¬ c < (0 : Int32) ∧ ¬ (255 : Int32) < c) :
    MetFree l own_m22 (head1 (Jvm.Cond.code own_m22 jdk_42_method_79_code 2 (some .int) :: ws) ({ frames := 3, cells := 0, slots := 0, locals := 46 } : Room)) (fun a U => a = #[(.ref x0), (.int 58)] ∧ Z.Warmed39 U.vm ∧ U.heap = h0) (fun _ _ _ _ _ => True) (fun _ U o U' => ∃ v L, o = .returned v ∧ (own_Qint (own_ix (0 : Int32) [c0])) h0 n0 v U'.heap L ∧ FrameEnd U o U' L ({ frames := 3, cells := 0, slots := 0, locals := 46 } : Room).cells ({ frames := 3, cells := 0, slots := 0, locals := 46 } : Room).slots) := by
  refine MetFree.of_bodySF (plainFor_of_name pn_0) hisR ?_
  intro p e s m args below meth cD s₁ Bd hml0 hP hK
  obtain ⟨rfl, hZ, hh⟩ := hP
  have hw := G.1
  have hx := Bd.exec
  have hby := Bd.bytes
  have hml : cD.maxLocals = 2 := hml0
  have hown : s.vm.findClass "java/lang/String" = some m.cls := findClass_of_methodNamed Bd.named
  have hnm := (name_of_methodNamed Bd.named Bd.method).1
  have hlk := Bd.notSynchronized
  have X0 : Stand p l e ({ frames := 3, cells := 0, slots := 0, locals := 46 } : Room) s m #[(.ref x0), (.int 58)] below meth cD s₁ [] 0 0 := Stand.of_body Bd
  have e0 : s₁.heap = h0 := by rw [← hh, Bd.state]; rfl
  have lt0 := own_ltN' P0.lt
  have lt1 := own_ltN' P1.lt
  have lt2 := own_ltN' P2.lt
  have lt3 := own_ltN' P3.lt
  have K0 : Keep h0 h0 [] := Keep.refl h0 _
  have Z0 := own_old_le O0
  have N0 := Fr.nil n0
  refine OwnEnd.start (g' := (mkF m 0 #[.val (.ref x0), .val (.int 58)] [])) (own_efsk1 m x0) ?_
  refine OwnEnd.of (S' := s₁.setTop (mkF m 3 #[.val (.ref x0), .val (.int 58)] [(.int 0), (.int 58), (.ref x0)])) (fun _ kK => XS.aloadN X0.here hx rfl (hb hby d22_0) rfl rfl (XS.iloadN X0.here hx rfl (hb hby d22_1) rfl (XS.iconst X0.here hx rfl (hb hby d22_2) kK))) ?_
  obtain ⟨cq1, kq1, q1a, q1b, q1c⟩ := isOf hZ e0 P0
  obtain ⟨_, _, ⟨T1, L1, k1, n1⟩, -, X1, ⟨Lc1, hQ1, l1, y1, z1⟩, st1⟩ := X0.virtualBack hx (y := own_m21) (z := own_m21) hown (mvT hZ (own_w G 42 rfl)) (mvT hZ (own_w G 43 rfl)) (notFace_of_selects (args := #[]) (mvT hZ (own_w G 45 rfl))) (mvT hZ (own_w G 45 rfl)) (mvT hZ (own_w G 44 rfl)) (by decide) (backOf (W := 0) (rmsj1 l Z a0 G [] x0 t kb c0 h0 n0 O0 P0 P1 P2 P3 P4) hZ (own_w G 46 rfl) (own_w G 8 rfl) (by decide) (by decide)) q1a q1c (g := (mkF m 3 #[.val (.ref x0), .val (.int 58)] [(.int 0), (.int 58), (.ref x0)])) rfl (by rw [hml]; rfl) (Steps.refl _) (argsL := [(.int 58), (.int 0)]) (rest := []) (lenOf pd_11 rfl) rfl (by show 2 * 0 + _ ≤ _; exact Nat.le_of_eq rfl) (hb hby d22_3) (fun _ _ => ⟨rfl, e0, (by decide : 0 + 0 ≤ _), (by decide : 0 + 0 ≤ _)⟩)
  dsimp only [Pt.U, Pt.locs, Pt.cells, Pt.slots] at X1 l1 y1 z1 st1 hQ1
  subst l1 y1 z1
  obtain ⟨rfl, N1q, eh1⟩ := hQ1
  have N1 := Fr.app N0 N1q
  refine OwnEnd.tr (S' := T1.setTop (mkF m 6 #[.val (.ref x0), .val (.int 58)] [(.int (own_ix (0 : Int32) [c0]))])) st1 ?_
  refine OwnEnd.ret X1 (v := (some (.int (own_ix (0 : Int32) [c0])))) (fun h => by rw [Bd.returns] at h; cases h) hlk (fun fs hr => retOut X1 hx Bd.returns rfl (Or.inl ⟨rfl, Or.inl rfl, _, rfl⟩) (hb hby d22_6) hr) (by decide) (by decide) (Q := (own_Qint (own_ix (0 : Int32) [c0])) h0 n0) eh1 ?_
  exact ⟨rfl, N1, rfl⟩

theorem own_efia1 (m : MethodId) (x0 : Addr) : entryFrame m #[(.ref x0)] 4 = mkF m 0 #[.val (.ref x0), .unset, .unset, .unset] [] := by first | (simp [entryFrame, mkF, argsToLocals, Value.category]; done) | rfl
set_option maxRecDepth 65536 in
set_option maxHeartbeats 40000000 in
theorem rmia1 (l : Launch) (Z : State) (a0 : Array Value) (G : OwnG Z a0) (ws : List Jvm.Cond) (x0 : Addr) (t : Addr) (kb : ClassId) (c0 : Int32) (h0 : Heap) (n0 : Nat) (O0 : Old Z n0 h0) (P0 : Exa Z h0 x0 "java/lang/String") (P1 : Fld Z h0 x0 "java/lang/String" "value" "[B" (.ref t)) (P2 : Fld Z h0 x0 "java/lang/String" "coder" "B" (.int 0)) (P3 : Arv Z h0 t kb .byte (1 : Int32) ((([c0] : List Int32).map (fun c => c.toInt8.toInt32)).map Value.int) (.int 0)) (P4 : ∀ c ∈ ([c0] : List Int32), ¬ c < (0 : Int32) ∧ ¬ (255 : Int32) < c) :
    MetFree l own_m23 (head1 (Jvm.Cond.code own_m23 prog_6_method_2_code 4 (some .boolean) :: ws) ({ frames := 4, cells := 0, slots := 0, locals := 59 } : Room)) (fun a U => a = #[(.ref x0)] ∧ Z.Warmed39 U.vm ∧ U.heap = h0) (fun _ _ _ _ _ => True) (fun _ U o U' => ∃ v L, o = .returned v ∧ (own_Qint (own_abs [c0])) h0 n0 v U'.heap L ∧ FrameEnd U o U' L ({ frames := 4, cells := 0, slots := 0, locals := 59 } : Room).cells ({ frames := 4, cells := 0, slots := 0, locals := 59 } : Room).slots) := by
  refine MetFree.of_bodySF (plainFor_of_name pn_4) hisR ?_
  intro p e s m args below meth cD s₁ Bd hml0 hP hK
  obtain ⟨rfl, hZ, hh⟩ := hP
  have hw := G.1
  have hx := Bd.exec
  have hby := Bd.bytes
  have hml : cD.maxLocals = 4 := hml0
  have hown : s.vm.findClass "com/example/vett/vett/model/Iris" = some m.cls := findClass_of_methodNamed Bd.named
  have hnm := (name_of_methodNamed Bd.named Bd.method).1
  have hlk := Bd.notSynchronized
  have X0 : Stand p l e ({ frames := 4, cells := 0, slots := 0, locals := 59 } : Room) s m #[(.ref x0)] below meth cD s₁ [] 0 0 := Stand.of_body Bd
  have e0 : s₁.heap = h0 := by rw [← hh, Bd.state]; rfl
  have lt0 := own_ltN' P0.lt
  have lt1 := own_ltN' P1.lt
  have lt2 := own_ltN' P2.lt
  have lt3 := own_ltN' P3.lt
  have K0 : Keep h0 h0 [] := Keep.refl h0 _
  have Z0 := own_old_le O0
  have N0 := Fr.nil n0
  obtain ⟨aT0, aT1, aT2, ST0, ST1, ST2, TB0, TB1, TB2⟩ := own_tabs G
  refine OwnEnd.start (g' := (mkF m 0 #[.val (.ref x0), .unset, .unset, .unset] [])) (own_efia1 m x0) ?_
  refine OwnEnd.of (S' := s₁.setTop (mkF m 3 #[.val (.ref x0), .unset, .unset, .unset] [(.int 58), (.ref x0)])) (fun _ kK => XS.aloadN X0.here hx rfl (hb hby d23_0) rfl rfl (XS.bipush X0.here hx rfl (hb hby d23_1) kK)) ?_
  obtain ⟨cq1, kq1, q1a, q1b, q1c⟩ := isOf hZ e0 P0
  obtain ⟨_, _, ⟨T1, L1, k1, n1⟩, -, X1, ⟨Lc1, hQ1, l1, y1, z1⟩, st1⟩ := X0.virtualBack hx (y := own_m22) (z := own_m22) hown (mvT hZ (own_w G 37 rfl)) (mvT hZ (own_w G 38 rfl)) (notFace_of_selects (args := #[]) (mvT hZ (own_w G 40 rfl))) (mvT hZ (own_w G 40 rfl)) (mvT hZ (own_w G 39 rfl)) (by decide) (backOf (W := 0) (rmsk1 l Z a0 G [] x0 t kb c0 h0 n0 O0 P0 P1 P2 P3 P4) hZ (own_w G 41 rfl) (own_w G 8 rfl) (by decide) (by decide)) q1a q1c (g := (mkF m 3 #[.val (.ref x0), .unset, .unset, .unset] [(.int 58), (.ref x0)])) rfl (by rw [hml]; rfl) (Steps.refl _) (argsL := [(.int 58)]) (rest := []) (lenOf pd_14 rfl) rfl (by show 2 * 0 + _ ≤ _; exact Nat.le_of_eq rfl) (hb hby d23_3) (fun _ _ => ⟨rfl, e0, (by decide : 0 + 0 ≤ _), (by decide : 0 + 0 ≤ _)⟩)
  dsimp only [Pt.U, Pt.locs, Pt.cells, Pt.slots] at X1 l1 y1 z1 st1 hQ1
  subst l1 y1 z1
  obtain ⟨rfl, N1q, eh1⟩ := hQ1
  have N1 := Fr.app N0 N1q
  refine OwnEnd.tr (S' := T1.setTop (mkF m 6 #[.val (.ref x0), .unset, .unset, .unset] [(.int (own_ix (0 : Int32) [c0]))])) st1 ?_
  rcases own_ixc1 c0 with hxc | hxc
  · rw [hxc.1]
    refine OwnEnd.of (S' := T1.setTop (mkF m 63 #[.val (.ref x0), .val (.int 0), .val (.int 0), .val (.int 1)] [(.int 0)])) (fun _ kK => XS.istoreN X1.here hx rfl (hb hby d23_6) rfl (l' := #[.val (.ref x0), .val (.int 0), .unset, .unset]) rfl (XS.iloadN X1.here hx rfl (hb hby d23_7) rfl (XS.ifYes X1.here hx rfl (pc0 := 8) (pc' := 30) rfl (hb hby d23_8) rfl ((if0 _ _).trans (flt ((by decide : ¬ ((0 : Int32) < (0 : Int32))))).2.2.2) (by decide) (by decide) (XS.iconst X1.here hx rfl (hb hby d23_30) (XS.istoreN X1.here hx rfl (hb hby d23_31) rfl (l' := #[.val (.ref x0), .val (.int 0), .val (.int 0), .unset]) rfl (XS.iconst X1.here hx rfl (hb hby d23_32) (XS.istoreN X1.here hx rfl (hb hby d23_33) rfl (l' := #[.val (.ref x0), .val (.int 0), .val (.int 0), .val (.int 1)]) rfl (XS.iloadN X1.here hx rfl (hb hby d23_34) rfl (XS.ifYes X1.here hx rfl (pc0 := 35) (pc' := 62) rfl (hb hby d23_35) rfl ((if0 _ _).trans (teq ((by decide : (0 : Int32) = (0 : Int32)))).1) (by decide) (by decide) (XS.iloadN X1.here hx rfl (hb hby d23_62) rfl kK)))))))))) ?_
    refine OwnEnd.of (S' := T1.setTop (mkF m 94 #[.val (.ref x0), .val (.int 0), .val (.int 0), .val (.int 1)] [(.int 0)])) (fun _ kK => XS.iconst X1.here hx rfl (hb hby d23_63) (XS.iadd X1.here hx rfl (hb hby d23_64) rfl (XS.istoreN X1.here hx rfl (hb hby d23_65) rfl (l' := #[.val (.ref x0), .val (.int 0), .val (.int 0), .val (.int 1)]) rfl (XS.iloadN X1.here hx rfl (hb hby d23_66) rfl (XS.ifYes X1.here hx rfl (pc0 := 67) (pc' := 93) rfl (hb hby d23_67) rfl ((if0 _ _).trans (teq ((by decide : (0 : Int32) = (0 : Int32)))).1) (by decide) (by decide) (XS.iloadN X1.here hx rfl (hb hby d23_93) rfl kK)))))) ?_
    refine OwnEnd.ret X1 (v := (some (.int (nar .boolean (0 : Int32))))) (fun h => by rw [Bd.returns] at h; cases h) hlk (fun fs hr => retN X1 hx (t := .boolean) Bd.returns (by simp) (hb hby d23_94) hr) (by decide) (by decide) (Q := (own_Qint (own_abs [c0])) h0 n0) eh1 ?_
    exact ⟨(by show some (Value.int (nar .boolean (0 : Int32))) = _; simp [own_abs, own_sch, own_tail, nar, hxc]), N1, rfl⟩
  · rw [hxc.1]
    refine OwnEnd.of (S' := T1.setTop (mkF m 63 #[.val (.ref x0), .val (.int (-1 : Int32)), .val (.int 0), .val (.int 1)] [(.int (-1 : Int32))])) (fun _ kK => XS.istoreN X1.here hx rfl (hb hby d23_6) rfl (l' := #[.val (.ref x0), .val (.int (-1 : Int32)), .unset, .unset]) rfl (XS.iloadN X1.here hx rfl (hb hby d23_7) rfl (XS.ifYes X1.here hx rfl (pc0 := 8) (pc' := 30) rfl (hb hby d23_8) rfl ((if0 _ _).trans (flt ((by decide : ¬ ((0 : Int32) < (-1 : Int32))))).2.2.2) (by decide) (by decide) (XS.iconst X1.here hx rfl (hb hby d23_30) (XS.istoreN X1.here hx rfl (hb hby d23_31) rfl (l' := #[.val (.ref x0), .val (.int (-1 : Int32)), .val (.int 0), .unset]) rfl (XS.iconst X1.here hx rfl (hb hby d23_32) (XS.istoreN X1.here hx rfl (hb hby d23_33) rfl (l' := #[.val (.ref x0), .val (.int (-1 : Int32)), .val (.int 0), .val (.int 1)]) rfl (XS.iloadN X1.here hx rfl (hb hby d23_34) rfl (XS.ifYes X1.here hx rfl (pc0 := 35) (pc' := 62) rfl (hb hby d23_35) rfl ((if0 _ _).trans (teq ((by decide : (0 : Int32) = (0 : Int32)))).1) (by decide) (by decide) (XS.iloadN X1.here hx rfl (hb hby d23_62) rfl kK)))))))))) ?_
    refine OwnEnd.of (S' := T1.setTop (mkF m 94 #[.val (.ref x0), .val (.int (-1 : Int32)), .val (.int 0), .val (.int 0)] [(.int 0)])) (fun _ kK => XS.iconst X1.here hx rfl (hb hby d23_63) (XS.iadd X1.here hx rfl (hb hby d23_64) rfl (XS.istoreN X1.here hx rfl (hb hby d23_65) rfl (l' := #[.val (.ref x0), .val (.int (-1 : Int32)), .val (.int 0), .val (.int 0)]) rfl (XS.iloadN X1.here hx rfl (hb hby d23_66) rfl (XS.ifYes X1.here hx rfl (pc0 := 67) (pc' := 93) rfl (hb hby d23_67) rfl ((if0 _ _).trans (teq ((by decide : (0 : Int32) = (0 : Int32)))).1) (by decide) (by decide) (XS.iloadN X1.here hx rfl (hb hby d23_93) rfl kK)))))) ?_
    refine OwnEnd.ret X1 (v := (some (.int (nar .boolean (0 : Int32))))) (fun h => by rw [Bd.returns] at h; cases h) hlk (fun fs hr => retN X1 hx (t := .boolean) Bd.returns (by simp) (hb hby d23_94) hr) (by decide) (by decide) (Q := (own_Qint (own_abs [c0])) h0 n0) eh1 ?_
    exact ⟨(by show some (Value.int (nar .boolean (0 : Int32))) = _; rw [own_abs_no hxc.2]; rfl), N1, rfl⟩

theorem own_efmn2 (m : MethodId) : entryFrame m #[(.int 2), (.int 2)] 2 = mkF m 0 #[.val (.int 2), .val (.int 2)] [] := by first | (simp [entryFrame, mkF, argsToLocals, Value.category]; done) | rfl
set_option maxRecDepth 65536 in
set_option maxHeartbeats 40000000 in
theorem rmmn2 (l : Launch) (Z : State) (a0 : Array Value) (G : OwnG Z a0) (ws : List Jvm.Cond)  (h0 : Heap) (n0 : Nat) (O0 : Old Z n0 h0)  :
    MetFree l own_m19 (head1 (Jvm.Cond.code own_m19 jdk_29_method_69_code 2 (some .int) :: ws) ({ frames := 0, cells := 0, slots := 0, locals := 0 } : Room)) (fun a U => a = #[(.int 2), (.int 2)] ∧ Z.Warmed39 U.vm ∧ U.heap = h0) (fun _ _ _ _ _ => True) (fun _ U o U' => ∃ v L, o = .returned v ∧ (own_Qint (2 : Int32)) h0 n0 v U'.heap L ∧ FrameEnd U o U' L ({ frames := 0, cells := 0, slots := 0, locals := 0 } : Room).cells ({ frames := 0, cells := 0, slots := 0, locals := 0 } : Room).slots) := by
  refine MetFree.of_bodySF (Jvm.Free.JP.mathPlain rfl (by decide +kernel)) hisR ?_
  intro p e s m args below meth cD s₁ Bd hml0 hP hK
  obtain ⟨rfl, hZ, hh⟩ := hP
  have hw := G.1
  have hx := Bd.exec
  have hby := Bd.bytes
  have hml : cD.maxLocals = 2 := hml0
  have hown : s.vm.findClass "java/lang/Math" = some m.cls := findClass_of_methodNamed Bd.named
  have hnm := (name_of_methodNamed Bd.named Bd.method).1
  have hlk := Bd.notSynchronized
  have X0 : Stand p l e ({ frames := 0, cells := 0, slots := 0, locals := 0 } : Room) s m #[(.int 2), (.int 2)] below meth cD s₁ [] 0 0 := Stand.of_body Bd
  have e0 : s₁.heap = h0 := by rw [← hh, Bd.state]; rfl
  have K0 : Keep h0 h0 [] := Keep.refl h0 _
  have Z0 := own_old_le O0
  have N0 := Fr.nil n0
  refine OwnEnd.start (g' := (mkF m 0 #[.val (.int 2), .val (.int 2)] [])) (own_efmn2 m ) ?_
  refine OwnEnd.of (S' := s₁.setTop (mkF m 10 #[.val (.int 2), .val (.int 2)] [(.int 2)])) (fun _ kK => XS.iloadN X0.here hx rfl (hb hby d19_0) rfl (XS.iloadN X0.here hx rfl (hb hby d19_1) rfl (XS.icmpNo X0.here hx rfl (hb hby d19_2) rfl (flt ((by decide : ¬ ((2 : Int32) < (2 : Int32))))).2.2.1 (XS.iloadN X0.here hx rfl (hb hby d19_5) rfl (XS.goto X0.here hx rfl (pc0 := 6) (pc' := 10) rfl (hb hby d19_6) (by decide) (by decide) kK))))) ?_
  refine OwnEnd.ret X0 (v := (some (.int 2))) (fun h => by rw [Bd.returns] at h; cases h) hlk (fun fs hr => retOut X0 hx Bd.returns rfl (Or.inl ⟨rfl, Or.inl rfl, _, rfl⟩) (hb hby d19_10) hr) (by decide) (by decide) (Q := (own_Qint (2 : Int32)) h0 n0) e0 ?_
  exact ⟨rfl, N0, rfl⟩

theorem own_efix2 (m : MethodId) (t : Addr) : entryFrame m #[(.ref t), (.int 58), (.int 0), (.int 2)] 6 = mkF m 0 #[.val (.ref t), .val (.int 58), .val (.int 0), .val (.int 2), .unset, .unset] [] := by first | (simp [entryFrame, mkF, argsToLocals, Value.category]; done) | rfl
set_option maxRecDepth 65536 in
set_option maxHeartbeats 40000000 in
theorem rmix2 (l : Launch) (Z : State) (a0 : Array Value) (G : OwnG Z a0) (ws : List Jvm.Cond) (t : Addr) (kb : ClassId) (c0 : Int32) (c1 : Int32) (h0 : Heap) (n0 : Nat) (O0 : Old Z n0 h0) (P0 : Arv Z h0 t kb .byte (2 : Int32) ((([c0, c1] : List Int32).map (fun c => c.toInt8.toInt32)).map Value.int) (.int 0)) (P1 : ∀ c ∈ ([c0, c1] : List Int32), ¬ c < (0 : Int32) ∧ ¬ (255 : Int32) < c) :
    MetFree l own_m24 (head1 (Jvm.Cond.code own_m24 jdk_43_method_23_code 6 (some .int) :: ws) ({ frames := 0, cells := 0, slots := 0, locals := 0 } : Room)) (fun a U => a = #[(.ref t), (.int 58), (.int 0), (.int 2)] ∧ Z.Warmed39 U.vm ∧ U.heap = h0) (fun _ _ _ _ _ => True) (fun _ U o U' => ∃ v L, o = .returned v ∧ (own_Qint (own_ix (0 : Int32) [c0, c1])) h0 n0 v U'.heap L ∧ FrameEnd U o U' L ({ frames := 0, cells := 0, slots := 0, locals := 0 } : Room).cells ({ frames := 0, cells := 0, slots := 0, locals := 0 } : Room).slots) := by
  refine MetFree.of_bodySF (plainFor_of_name pn_2) hisR ?_
  intro p e s m args below meth cD s₁ Bd hml0 hP hK
  obtain ⟨rfl, hZ, hh⟩ := hP
  have hw := G.1
  have hx := Bd.exec
  have hby := Bd.bytes
  have hml : cD.maxLocals = 6 := hml0
  have hown : s.vm.findClass "java/lang/StringLatin1" = some m.cls := findClass_of_methodNamed Bd.named
  have hnm := (name_of_methodNamed Bd.named Bd.method).1
  have hlk := Bd.notSynchronized
  have X0 : Stand p l e ({ frames := 0, cells := 0, slots := 0, locals := 0 } : Room) s m #[(.ref t), (.int 58), (.int 0), (.int 2)] below meth cD s₁ [] 0 0 := Stand.of_body Bd
  have e0 : s₁.heap = h0 := by rw [← hh, Bd.state]; rfl
  have lt0 := own_ltN' P0.lt
  have K0 : Keep h0 h0 [] := Keep.refl h0 _
  have Z0 := own_old_le O0
  have N0 := Fr.nil n0
  refine OwnEnd.start (g' := (mkF m 0 #[.val (.ref t), .val (.int 58), .val (.int 0), .val (.int 2), .unset, .unset] [])) (own_efix2 m t) ?_
  have V1 : Arv Z h0 t kb .byte (2 : Int32) [(.int (StrChars.lo8 c0)), (.int (StrChars.lo8 c1))] (.int 0) := by have q := P0; exact q
  refine OwnEnd.of (S' := s₁.setTop (mkF m 16 #[.val (.ref t), .val (.int 58), .val (.int 0), .val (.int 2), .val (.int 58), .val (.int 0)] [(.int 0), (.ref t)])) (fun _ kK => XS.iloadN X0.here hx rfl (hb hby d24_0) rfl (XS.i2b X0.here hx rfl (hb hby d24_1) rfl (XS.istore X0.here hx rfl (hb hby d24_2) rfl (l' := #[.val (.ref t), .val (.int 58), .val (.int 0), .val (.int 2), .val (.int 58), .unset]) rfl (XS.iloadN X0.here hx rfl (hb hby d24_4) rfl (XS.istore X0.here hx rfl (hb hby d24_5) rfl (l' := #[.val (.ref t), .val (.int 58), .val (.int 0), .val (.int 2), .val (.int 58), .val (.int 0)]) rfl (XS.iload X0.here hx rfl (hb hby d24_7) rfl (XS.iloadN X0.here hx rfl (hb hby d24_9) rfl (XS.icmpNo X0.here hx rfl (hb hby d24_10) rfl (tlt ((by decide : (0 : Int32) < (2 : Int32)))).2.1 (XS.aloadN X0.here hx rfl (hb hby d24_13) rfl rfl (XS.iload X0.here hx rfl (hb hby d24_14) rfl kK)))))))))) ?_
  obtain ⟨cl2, Ar2, q2, S2, N2', H2, G2⟩ := id V1
  have hin3 : ¬ ((0 : Int32) < 0 ∨ cl2.slots.size ≤ ((0 : Int32)).toNatClampNeg) := inb_of S2 ⟨by decide, by decide⟩
  refine OwnEnd.of (S' := s₁.setTop (mkF m 17 #[.val (.ref t), .val (.int 58), .val (.int 0), .val (.int 2), .val (.int 58), .val (.int 0)] [(.int (StrChars.lo8 c0))])) (fun _ kK => X0.baloadBytes hx (j := (0 : Int32)) (v := (.int (StrChars.lo8 c0))) (by rw [e0]; exact Ar2.1) (State.isArrayOf_alike hZ.alike Ar2.2.1) Ar2.2.2 hin3 (Has.at H2 hin3 (rfl)) (g := (mkF m 16 #[.val (.ref t), .val (.int 58), .val (.int 0), .val (.int 2), .val (.int 58), .val (.int 0)] [(.int 0), (.ref t)])) rfl rfl (hb hby d24_16) _ kK) ?_
  refine OwnEnd.of (S' := s₁.setTop (mkF m 19 #[.val (.ref t), .val (.int 58), .val (.int 0), .val (.int 2), .val (.int 58), .val (.int 0)] [(.int 58), (.int (StrChars.lo8 c0))])) (fun _ kK => XS.iload X0.here hx rfl (hb hby d24_17) rfl kK) ?_
  rcases Decidable.em (c0 = (58 : Int32)) with hc4 | hc4
  · refine OwnEnd.of (S' := s₁.setTop (mkF m 24 #[.val (.ref t), .val (.int 58), .val (.int 0), .val (.int 2), .val (.int 58), .val (.int 0)] [(.int 0)])) (fun _ kK => XS.icmpNo X0.here hx rfl (hb hby d24_19) rfl (teq ((own_lo58 hc4))).2 (XS.iload X0.here hx rfl (hb hby d24_22) rfl kK)) ?_
    refine OwnEnd.ret X0 (v := (some (.int 0))) (fun h => by rw [Bd.returns] at h; cases h) hlk (fun fs hr => retOut X0 hx Bd.returns rfl (Or.inl ⟨rfl, Or.inl rfl, _, rfl⟩) (hb hby d24_24) hr) (by decide) (by decide) (Q := (own_Qint (own_ix (0 : Int32) [c0, c1])) h0 n0) e0 ?_
    exact ⟨(by simp [own_ix, hc4]), N0, rfl⟩
  · refine OwnEnd.of (S' := s₁.setTop (mkF m 16 #[.val (.ref t), .val (.int 58), .val (.int 0), .val (.int 2), .val (.int 58), .val (.int 1)] [(.int 1), (.ref t)])) (fun _ kK => XS.icmpYes X0.here hx rfl (pc0 := 19) (pc' := 25) rfl (hb hby d24_19) rfl (feq ((own_lo58n (P1 c0 (by simp)).1 (P1 c0 (by simp)).2 hc4))).2 (by decide) (by decide) (XS.iinc X0.here hx rfl (hb hby d24_25) rfl (l' := #[.val (.ref t), .val (.int 58), .val (.int 0), .val (.int 2), .val (.int 58), .val (.int 1)]) rfl (XS.goto X0.here hx rfl (pc0 := 28) (pc' := 7) rfl (hb hby d24_28) (by decide) (by decide) (XS.iload X0.here hx rfl (hb hby d24_7) rfl (XS.iloadN X0.here hx rfl (hb hby d24_9) rfl (XS.icmpNo X0.here hx rfl (hb hby d24_10) rfl (tlt ((by decide : (1 : Int32) < (2 : Int32)))).2.1 (XS.aloadN X0.here hx rfl (hb hby d24_13) rfl rfl (XS.iload X0.here hx rfl (hb hby d24_14) rfl kK)))))))) ?_
    obtain ⟨cl5, Ar5, q5, S5, N5', H5, G5⟩ := id V1
    have hin6 : ¬ ((1 : Int32) < 0 ∨ cl5.slots.size ≤ ((1 : Int32)).toNatClampNeg) := inb_of S5 ⟨by decide, by decide⟩
    refine OwnEnd.of (S' := s₁.setTop (mkF m 17 #[.val (.ref t), .val (.int 58), .val (.int 0), .val (.int 2), .val (.int 58), .val (.int 1)] [(.int (StrChars.lo8 c1))])) (fun _ kK => X0.baloadBytes hx (j := (1 : Int32)) (v := (.int (StrChars.lo8 c1))) (by rw [e0]; exact Ar5.1) (State.isArrayOf_alike hZ.alike Ar5.2.1) Ar5.2.2 hin6 (Has.at H5 hin6 (rfl)) (g := (mkF m 16 #[.val (.ref t), .val (.int 58), .val (.int 0), .val (.int 2), .val (.int 58), .val (.int 1)] [(.int 1), (.ref t)])) rfl rfl (hb hby d24_16) _ kK) ?_
    refine OwnEnd.of (S' := s₁.setTop (mkF m 19 #[.val (.ref t), .val (.int 58), .val (.int 0), .val (.int 2), .val (.int 58), .val (.int 1)] [(.int 58), (.int (StrChars.lo8 c1))])) (fun _ kK => XS.iload X0.here hx rfl (hb hby d24_17) rfl kK) ?_
    rcases Decidable.em (c1 = (58 : Int32)) with hc7 | hc7
    · refine OwnEnd.of (S' := s₁.setTop (mkF m 24 #[.val (.ref t), .val (.int 58), .val (.int 0), .val (.int 2), .val (.int 58), .val (.int 1)] [(.int 1)])) (fun _ kK => XS.icmpNo X0.here hx rfl (hb hby d24_19) rfl (teq ((own_lo58 hc7))).2 (XS.iload X0.here hx rfl (hb hby d24_22) rfl kK)) ?_
      refine OwnEnd.ret X0 (v := (some (.int 1))) (fun h => by rw [Bd.returns] at h; cases h) hlk (fun fs hr => retOut X0 hx Bd.returns rfl (Or.inl ⟨rfl, Or.inl rfl, _, rfl⟩) (hb hby d24_24) hr) (by decide) (by decide) (Q := (own_Qint (own_ix (0 : Int32) [c0, c1])) h0 n0) e0 ?_
      exact ⟨(by simp [own_ix, hc4, hc7]), N0, rfl⟩
    · refine OwnEnd.of (S' := s₁.setTop (mkF m 32 #[.val (.ref t), .val (.int 58), .val (.int 0), .val (.int 2), .val (.int 58), .val (.int 2)] [(.int (-1 : Int32))])) (fun _ kK => XS.icmpYes X0.here hx rfl (pc0 := 19) (pc' := 25) rfl (hb hby d24_19) rfl (feq ((own_lo58n (P1 c1 (by simp)).1 (P1 c1 (by simp)).2 hc7))).2 (by decide) (by decide) (XS.iinc X0.here hx rfl (hb hby d24_25) rfl (l' := #[.val (.ref t), .val (.int 58), .val (.int 0), .val (.int 2), .val (.int 58), .val (.int 2)]) rfl (XS.goto X0.here hx rfl (pc0 := 28) (pc' := 7) rfl (hb hby d24_28) (by decide) (by decide) (XS.iload X0.here hx rfl (hb hby d24_7) rfl (XS.iloadN X0.here hx rfl (hb hby d24_9) rfl (XS.icmpYes X0.here hx rfl (pc0 := 10) (pc' := 31) rfl (hb hby d24_10) rfl (flt ((by decide : ¬ ((2 : Int32) < (2 : Int32))))).2.1 (by decide) (by decide) (XS.iconst X0.here hx rfl (hb hby d24_31) kK))))))) ?_
      refine OwnEnd.ret X0 (v := (some (.int (-1 : Int32)))) (fun h => by rw [Bd.returns] at h; cases h) hlk (fun fs hr => retOut X0 hx Bd.returns rfl (Or.inl ⟨rfl, Or.inl rfl, _, rfl⟩) (hb hby d24_32) hr) (by decide) (by decide) (Q := (own_Qint (own_ix (0 : Int32) [c0, c1])) h0 n0) e0 ?_
      exact ⟨(by simp [own_ix, hc4, hc7]), N0, rfl⟩

theorem own_efsi2 (m : MethodId) (t : Addr) : entryFrame m #[(.ref t), (.int 58), (.int 0), (.int 2)] 4 = mkF m 0 #[.val (.ref t), .val (.int 58), .val (.int 0), .val (.int 2)] [] := by first | (simp [entryFrame, mkF, argsToLocals, Value.category]; done) | rfl
set_option maxRecDepth 65536 in
set_option maxHeartbeats 40000000 in
theorem rmsi2 (l : Launch) (Z : State) (a0 : Array Value) (G : OwnG Z a0) (ws : List Jvm.Cond) (t : Addr) (kb : ClassId) (c0 : Int32) (c1 : Int32) (h0 : Heap) (n0 : Nat) (O0 : Old Z n0 h0) (P0 : Arv Z h0 t kb .byte (2 : Int32) ((([c0, c1] : List Int32).map (fun c => c.toInt8.toInt32)).map Value.int) (.int 0)) (P1 : ∀ c ∈ ([c0, c1] : List Int32), ¬ c < (0 : Int32) ∧ ¬ (255 : Int32) < c) :
    MetFree l own_m20 (head1 (Jvm.Cond.code own_m20 jdk_43_method_22_code 4 (some .int) :: ws) ({ frames := 1, cells := 0, slots := 0, locals := 17 } : Room)) (fun a U => a = #[(.ref t), (.int 58), (.int 0), (.int 2)] ∧ Z.Warmed39 U.vm ∧ U.heap = h0) (fun _ _ _ _ _ => True) (fun _ U o U' => ∃ v L, o = .returned v ∧ (own_Qint (own_ix (0 : Int32) [c0, c1])) h0 n0 v U'.heap L ∧ FrameEnd U o U' L ({ frames := 1, cells := 0, slots := 0, locals := 17 } : Room).cells ({ frames := 1, cells := 0, slots := 0, locals := 17 } : Room).slots) := by
  refine MetFree.of_bodySF (plainFor_of_name pn_2) hisR ?_
  intro p e s m args below meth cD s₁ Bd hml0 hP hK
  obtain ⟨rfl, hZ, hh⟩ := hP
  have hw := G.1
  have hx := Bd.exec
  have hby := Bd.bytes
  have hml : cD.maxLocals = 4 := hml0
  have hown : s.vm.findClass "java/lang/StringLatin1" = some m.cls := findClass_of_methodNamed Bd.named
  have hnm := (name_of_methodNamed Bd.named Bd.method).1
  have hlk := Bd.notSynchronized
  have X0 : Stand p l e ({ frames := 1, cells := 0, slots := 0, locals := 17 } : Room) s m #[(.ref t), (.int 58), (.int 0), (.int 2)] below meth cD s₁ [] 0 0 := Stand.of_body Bd
  have e0 : s₁.heap = h0 := by rw [← hh, Bd.state]; rfl
  have lt0 := own_ltN' P0.lt
  have K0 : Keep h0 h0 [] := Keep.refl h0 _
  have Z0 := own_old_le O0
  have N0 := Fr.nil n0
  refine OwnEnd.start (g' := (mkF m 0 #[.val (.ref t), .val (.int 58), .val (.int 0), .val (.int 2)] [])) (own_efsi2 m t) ?_
  refine OwnEnd.of (S' := s₁.setTop (mkF m 1 #[.val (.ref t), .val (.int 58), .val (.int 0), .val (.int 2)] [(.int 58)])) (fun _ kK => XS.iloadN X0.here hx rfl (hb hby d20_0) rfl kK) ?_
  obtain ⟨_, _, ⟨T1, L1, k1, n1⟩, -, X1, ⟨Lc1, hQ1, l1, y1, z1⟩, st1⟩ := Jvm.LawKit.callS X0 hx (y := own_m15) hown (mvT hZ (own_w G 67 rfl)) (mvT hZ (own_w G 68 rfl)) (mvT hZ (own_w G 65 rfl)) (mvT hZ (own_w G 69 rfl)) (by decide) (backOf (W := 0) (rmce l Z a0 G []  h0 n0 O0 ) hZ (own_w G 69 rfl) (own_w G 65 rfl) (by decide) (by decide)) (g := (mkF m 1 #[.val (.ref t), .val (.int 58), .val (.int 0), .val (.int 2)] [(.int 58)])) rfl (by rw [hml]; rfl) (argsL := [(.int 58)]) (rest := []) (lenOf pd_10 rfl) rfl (by show 2 * 0 + _ ≤ _; exact Nat.le_of_eq rfl) (hb hby d20_1) (fun _ _ => ⟨rfl, e0, (by decide : 0 + 0 ≤ _), (by decide : 0 + 0 ≤ _)⟩)
  dsimp only [Pt.U, Pt.locs, Pt.cells, Pt.slots] at X1 l1 y1 z1 st1 hQ1
  subst l1 y1 z1
  obtain ⟨rfl, N1q, eh1⟩ := hQ1
  have N1 := Fr.app N0 N1q
  refine OwnEnd.of (S' := T1.setTop (mkF m 4 #[.val (.ref t), .val (.int 58), .val (.int 0), .val (.int 2)] [(.int 1)])) st1 ?_
  refine OwnEnd.of (S' := T1.setTop (mkF m 11 #[.val (.ref t), .val (.int 58), .val (.int 0), .val (.int 2)] [(.int 0), (.int 0)])) (fun _ kK => XS.ifYes X1.here hx rfl (pc0 := 4) (pc' := 9) rfl (hb hby d20_4) rfl ((if0 _ _).trans (feq ((by decide : ¬ ((1 : Int32) = (0 : Int32))))).2) (by decide) (by decide) (XS.iloadN X1.here hx rfl (hb hby d20_9) rfl (XS.iconst X1.here hx rfl (hb hby d20_10) kK))) ?_
  obtain ⟨_, _, ⟨T2, L2, k2, n2⟩, -, X2, ⟨Lc2, hQ2, l2, y2, z2⟩, st2⟩ := Jvm.LawKit.callS X1 hx (y := own_m16) hown (mvT hZ (own_w G 70 rfl)) (mvT hZ (own_w G 71 rfl)) (mvT hZ (own_w G 72 rfl)) (mvT hZ (own_w G 73 rfl)) (by decide) (backOf (W := 0) (rmmx l Z a0 G []  h0 n0 O0 ) hZ (own_w G 73 rfl) (own_w G 72 rfl) (by decide) (by decide)) (g := (mkF m 11 #[.val (.ref t), .val (.int 58), .val (.int 0), .val (.int 2)] [(.int 0), (.int 0)])) rfl (by rw [hml]; rfl) (argsL := [(.int 0), (.int 0)]) (rest := []) (lenOf pd_11 rfl) rfl (by show 2 * 0 + _ ≤ _; exact Nat.le_of_eq rfl) (hb hby d20_11) (fun _ _ => ⟨rfl, eh1, (by decide : 0 + 0 ≤ _), (by decide : 0 + 0 ≤ _)⟩)
  dsimp only [Pt.U, Pt.locs, Pt.cells, Pt.slots] at X2 l2 y2 z2 st2 hQ2
  subst l2 y2 z2
  obtain ⟨rfl, N2q, eh2⟩ := hQ2
  have N2 := Fr.app N1 N2q
  refine OwnEnd.of (S' := T2.setTop (mkF m 14 #[.val (.ref t), .val (.int 58), .val (.int 0), .val (.int 2)] [(.int 0)])) st2 ?_
  refine OwnEnd.of (S' := T2.setTop (mkF m 17 #[.val (.ref t), .val (.int 58), .val (.int 0), .val (.int 2)] [(.ref t), (.int 2)])) (fun _ kK => XS.istoreN X2.here hx rfl (hb hby d20_14) rfl (l' := #[.val (.ref t), .val (.int 58), .val (.int 0), .val (.int 2)]) rfl (XS.iloadN X2.here hx rfl (hb hby d20_15) rfl (XS.aloadN X2.here hx rfl (hb hby d20_16) rfl rfl kK))) ?_
  obtain ⟨cl3, Ar3, q3, S3, N3', H3, G3⟩ := id P0
  refine OwnEnd.of (S' := T2.setTop (mkF m 18 #[.val (.ref t), .val (.int 58), .val (.int 0), .val (.int 2)] [(.int 2), (.int 2)])) (fun _ kK => X2.arraylength hx (by rw [eh2]; exact Ar3.1) (State.isArrayOf_alike hZ.alike Ar3.2.1) (g := (mkF m 17 #[.val (.ref t), .val (.int 58), .val (.int 0), .val (.int 2)] [(.ref t), (.int 2)])) rfl rfl (hb hby d20_17) _ (by rw [len_of S3 N3']; exact kK)) ?_
  obtain ⟨_, _, ⟨T4, L4, k4, n4⟩, -, X4, ⟨Lc4, hQ4, l4, y4, z4⟩, st4⟩ := Jvm.LawKit.callS X2 hx (y := own_m19) hown (mvT hZ (own_w G 74 rfl)) (mvT hZ (own_w G 75 rfl)) (mvT hZ (own_w G 72 rfl)) (mvT hZ (own_w G 76 rfl)) (by decide) (backOf (W := 0) (rmmn2 l Z a0 G []  h0 n0 O0 ) hZ (own_w G 76 rfl) (own_w G 72 rfl) (by decide) (by decide)) (g := (mkF m 18 #[.val (.ref t), .val (.int 58), .val (.int 0), .val (.int 2)] [(.int 2), (.int 2)])) rfl (by rw [hml]; rfl) (argsL := [(.int 2), (.int 2)]) (rest := []) (lenOf pd_11 rfl) rfl (by show 2 * 0 + _ ≤ _; exact Nat.le_of_eq rfl) (hb hby d20_18) (fun _ _ => ⟨rfl, eh2, (by decide : 0 + 0 ≤ _), (by decide : 0 + 0 ≤ _)⟩)
  dsimp only [Pt.U, Pt.locs, Pt.cells, Pt.slots] at X4 l4 y4 z4 st4 hQ4
  subst l4 y4 z4
  obtain ⟨rfl, N4q, eh4⟩ := hQ4
  have N4 := Fr.app N2 N4q
  refine OwnEnd.of (S' := T4.setTop (mkF m 21 #[.val (.ref t), .val (.int 58), .val (.int 0), .val (.int 2)] [(.int 2)])) st4 ?_
  refine OwnEnd.of (S' := T4.setTop (mkF m 33 #[.val (.ref t), .val (.int 58), .val (.int 0), .val (.int 2)] [(.int 2), (.int 0), (.int 58), (.ref t)])) (fun _ kK => XS.istoreN X4.here hx rfl (hb hby d20_21) rfl (l' := #[.val (.ref t), .val (.int 58), .val (.int 0), .val (.int 2)]) rfl (XS.iloadN X4.here hx rfl (hb hby d20_22) rfl (XS.iloadN X4.here hx rfl (hb hby d20_23) rfl (XS.icmpYes X4.here hx rfl (pc0 := 24) (pc' := 29) rfl (hb hby d20_24) rfl (tlt ((by decide : (0 : Int32) < (2 : Int32)))).1 (by decide) (by decide) (XS.aloadN X4.here hx rfl (hb hby d20_29) rfl rfl (XS.iloadN X4.here hx rfl (hb hby d20_30) rfl (XS.iloadN X4.here hx rfl (hb hby d20_31) rfl (XS.iloadN X4.here hx rfl (hb hby d20_32) rfl kK)))))))) ?_
  obtain ⟨_, _, ⟨T5, L5, k5, n5⟩, -, X5, ⟨Lc5, hQ5, l5, y5, z5⟩, st5⟩ := Jvm.LawKit.callS X4 hx (y := own_m24) hown (mvT hZ (own_w G 87 rfl)) (mvT hZ (own_w G 88 rfl)) (mvT hZ (own_w G 65 rfl)) (mvT hZ (own_w G 89 rfl)) (by decide) (backOf (W := 0) (rmix2 l Z a0 G [] t kb c0 c1 h0 n0 O0 P0 P1) hZ (own_w G 89 rfl) (own_w G 65 rfl) (by decide) (by decide)) (g := (mkF m 33 #[.val (.ref t), .val (.int 58), .val (.int 0), .val (.int 2)] [(.int 2), (.int 0), (.int 58), (.ref t)])) rfl (by rw [hml]; rfl) (argsL := [(.ref t), (.int 58), (.int 0), (.int 2)]) (rest := []) (lenOf pd_13 rfl) rfl (by show 2 * 0 + _ ≤ _; exact Nat.le_of_eq rfl) (hb hby d20_33) (fun _ _ => ⟨rfl, eh4, (by decide : 0 + 0 ≤ _), (by decide : 0 + 0 ≤ _)⟩)
  dsimp only [Pt.U, Pt.locs, Pt.cells, Pt.slots] at X5 l5 y5 z5 st5 hQ5
  subst l5 y5 z5
  obtain ⟨rfl, N5q, eh5⟩ := hQ5
  have N5 := Fr.app N4 N5q
  refine OwnEnd.of (S' := T5.setTop (mkF m 36 #[.val (.ref t), .val (.int 58), .val (.int 0), .val (.int 2)] [(.int (own_ix (0 : Int32) [c0, c1]))])) st5 ?_
  refine OwnEnd.ret X5 (v := (some (.int (own_ix (0 : Int32) [c0, c1])))) (fun h => by rw [Bd.returns] at h; cases h) hlk (fun fs hr => retOut X5 hx Bd.returns rfl (Or.inl ⟨rfl, Or.inl rfl, _, rfl⟩) (hb hby d20_36) hr) (by decide) (by decide) (Q := (own_Qint (own_ix (0 : Int32) [c0, c1])) h0 n0) eh5 ?_
  exact ⟨rfl, N5, rfl⟩

theorem own_efsj2 (m : MethodId) (x0 : Addr) : entryFrame m #[(.ref x0), (.int 58), (.int 0)] 3 = mkF m 0 #[.val (.ref x0), .val (.int 58), .val (.int 0)] [] := by first | (simp [entryFrame, mkF, argsToLocals, Value.category]; done) | rfl
set_option maxRecDepth 65536 in
set_option maxHeartbeats 40000000 in
theorem rmsj2 (l : Launch) (Z : State) (a0 : Array Value) (G : OwnG Z a0) (ws : List Jvm.Cond) (x0 : Addr) (t : Addr) (kb : ClassId) (c0 : Int32) (c1 : Int32) (h0 : Heap) (n0 : Nat) (O0 : Old Z n0 h0) (P0 : Exa Z h0 x0 "java/lang/String") (P1 : Fld Z h0 x0 "java/lang/String" "value" "[B" (.ref t)) (P2 : Fld Z h0 x0 "java/lang/String" "coder" "B" (.int 0)) (P3 : Arv Z h0 t kb .byte (2 : Int32) ((([c0, c1] : List Int32).map (fun c => c.toInt8.toInt32)).map Value.int) (.int 0)) (P4 : ∀ c ∈ ([c0, c1] : List Int32), ¬ c < (0 : Int32) ∧ ¬ (255 : Int32) < c) :
    MetFree l own_m21 (head1 (Jvm.Cond.code own_m21 jdk_42_method_80_code 3 (some .int) :: ws) ({ frames := 2, cells := 0, slots := 0, locals := 32 } : Room)) (fun a U => a = #[(.ref x0), (.int 58), (.int 0)] ∧ Z.Warmed39 U.vm ∧ U.heap = h0) (fun _ _ _ _ _ => True) (fun _ U o U' => ∃ v L, o = .returned v ∧ (own_Qint (own_ix (0 : Int32) [c0, c1])) h0 n0 v U'.heap L ∧ FrameEnd U o U' L ({ frames := 2, cells := 0, slots := 0, locals := 32 } : Room).cells ({ frames := 2, cells := 0, slots := 0, locals := 32 } : Room).slots) := by
  refine MetFree.of_bodySF (plainFor_of_name pn_0) hisR ?_
  intro p e s m args below meth cD s₁ Bd hml0 hP hK
  obtain ⟨rfl, hZ, hh⟩ := hP
  have hw := G.1
  have hx := Bd.exec
  have hby := Bd.bytes
  have hml : cD.maxLocals = 3 := hml0
  have hown : s.vm.findClass "java/lang/String" = some m.cls := findClass_of_methodNamed Bd.named
  have hnm := (name_of_methodNamed Bd.named Bd.method).1
  have hlk := Bd.notSynchronized
  have X0 : Stand p l e ({ frames := 2, cells := 0, slots := 0, locals := 32 } : Room) s m #[(.ref x0), (.int 58), (.int 0)] below meth cD s₁ [] 0 0 := Stand.of_body Bd
  have e0 : s₁.heap = h0 := by rw [← hh, Bd.state]; rfl
  have lt0 := own_ltN' P0.lt
  have lt1 := own_ltN' P1.lt
  have lt2 := own_ltN' P2.lt
  have lt3 := own_ltN' P3.lt
  have K0 : Keep h0 h0 [] := Keep.refl h0 _
  have Z0 := own_old_le O0
  have N0 := Fr.nil n0
  refine OwnEnd.start (g' := (mkF m 0 #[.val (.ref x0), .val (.int 58), .val (.int 0)] [])) (own_efsj2 m x0) ?_
  refine OwnEnd.of (S' := s₁.setTop (mkF m 1 #[.val (.ref x0), .val (.int 58), .val (.int 0)] [(.ref x0)])) (fun _ kK => XS.aloadN X0.here hx rfl (hb hby d21_0) rfl rfl kK) ?_
  obtain ⟨cq1, kq1, q1a, q1b, q1c⟩ := isOf hZ e0 P0
  obtain ⟨_, _, ⟨T1, L1, k1, n1⟩, -, X1, ⟨Lc1, hQ1, l1, y1, z1⟩, st1⟩ := X0.virtualBack hx (y := own_m4) (z := own_m4) hown (mvT hZ (own_w G 47 rfl)) (mvT hZ (own_w G 48 rfl)) (notFace_of_selects (args := #[]) (mvT hZ (own_w G 50 rfl))) (mvT hZ (own_w G 50 rfl)) (mvT hZ (own_w G 49 rfl)) (by decide) (backOf (W := 0) (rmil0 l Z a0 G [] x0 h0 n0 O0 P2) hZ (own_w G 51 rfl) (own_w G 8 rfl) (by decide) (by decide)) q1a q1c (g := (mkF m 1 #[.val (.ref x0), .val (.int 58), .val (.int 0)] [(.ref x0)])) rfl (by rw [hml]; rfl) (Steps.refl _) (argsL := []) (rest := []) (lenOf pd_4 rfl) rfl (by show 2 * 0 + _ ≤ _; exact Nat.le_of_eq rfl) (hb hby d21_1) (fun _ _ => ⟨rfl, e0, (by decide : 0 + 0 ≤ _), (by decide : 0 + 0 ≤ _)⟩)
  dsimp only [Pt.U, Pt.locs, Pt.cells, Pt.slots] at X1 l1 y1 z1 st1 hQ1
  subst l1 y1 z1
  obtain ⟨rfl, N1q, eh1⟩ := hQ1
  have N1 := Fr.app N0 N1q
  refine OwnEnd.tr (S' := T1.setTop (mkF m 4 #[.val (.ref x0), .val (.int 58), .val (.int 0)] [(.int 1)])) st1 ?_
  refine OwnEnd.of (S' := T1.setTop (mkF m 8 #[.val (.ref x0), .val (.int 58), .val (.int 0)] [(.ref x0)])) (fun _ kK => XS.ifNo X1.here hx rfl (hb hby d21_4) rfl ((if0 _ _).trans (feq ((by decide : ¬ ((1 : Int32) = (0 : Int32))))).1) (XS.aloadN X1.here hx rfl (hb hby d21_7) rfl rfl kK)) ?_
  obtain ⟨T2, X2, e2, st2⟩ := getF X1 hx hZ hown (host := "") (Or.inl (own_w G 25 rfl)) Via.refl eh1 P1 (g := (mkF m 8 #[.val (.ref x0), .val (.int 58), .val (.int 0)] [(.ref x0)])) rfl rfl (hb hby d21_8)
  refine OwnEnd.of (S' := T2.setTop (mkF m 11 #[.val (.ref x0), .val (.int 58), .val (.int 0)] [(.ref t)])) st2 ?_
  refine OwnEnd.of (S' := T2.setTop (mkF m 14 #[.val (.ref x0), .val (.int 58), .val (.int 0)] [(.ref x0), (.int 0), (.int 58), (.ref t)])) (fun _ kK => XS.iloadN X2.here hx rfl (hb hby d21_11) rfl (XS.iloadN X2.here hx rfl (hb hby d21_12) rfl (XS.aloadN X2.here hx rfl (hb hby d21_13) rfl rfl kK))) ?_
  obtain ⟨cq3, kq3, q3a, q3b, q3c⟩ := isOf hZ e2 P0
  obtain ⟨_, _, ⟨T3, L3, k3, n3⟩, -, X3, ⟨Lc3, hQ3, l3, y3, z3⟩, st3⟩ := X2.virtualBack hx (y := own_m6) (z := own_m6) hown (mvT hZ (own_w G 53 rfl)) (mvT hZ (own_w G 54 rfl)) (notFace_of_selects (args := #[]) (mvT hZ (own_w G 56 rfl))) (mvT hZ (own_w G 56 rfl)) (mvT hZ (own_w G 55 rfl)) (by decide) (backOf (W := 3) (rmln0 l Z a0 G [] x0 t kb (2 : Int32) ((([c0, c1] : List Int32).map (fun c => c.toInt8.toInt32)).map Value.int) (.int 0) h0 n0 O0 P0 P1 P2 P3) hZ (own_w G 57 rfl) (own_w G 8 rfl) (by decide) (by decide)) q3a q3c (g := (mkF m 14 #[.val (.ref x0), .val (.int 58), .val (.int 0)] [(.ref x0), (.int 0), (.int 58), (.ref t)])) rfl (by rw [hml]; rfl) (Steps.refl _) (argsL := []) (rest := [(.int 0), (.int 58), (.ref t)]) (lenOf pd_12 rfl) rfl (by show 2 * 0 + _ ≤ _; exact Nat.le_of_eq rfl) (hb hby d21_14) (fun _ _ => ⟨rfl, e2, (by decide : 0 + 0 ≤ _), (by decide : 0 + 0 ≤ _)⟩)
  dsimp only [Pt.U, Pt.locs, Pt.cells, Pt.slots] at X3 l3 y3 z3 st3 hQ3
  subst l3 y3 z3
  obtain ⟨rfl, N3q, eh3⟩ := hQ3
  have N3 := Fr.app N1 N3q
  refine OwnEnd.tr (S' := T3.setTop (mkF m 17 #[.val (.ref x0), .val (.int 58), .val (.int 0)] [(.int 2), (.int 0), (.int 58), (.ref t)])) st3 ?_
  obtain ⟨_, _, ⟨T4, L4, k4, n4⟩, -, X4, ⟨Lc4, hQ4, l4, y4, z4⟩, st4⟩ := Jvm.LawKit.callS X3 hx (y := own_m20) hown (mvT hZ (own_w G 63 rfl)) (mvT hZ (own_w G 64 rfl)) (mvT hZ (own_w G 65 rfl)) (mvT hZ (own_w G 66 rfl)) (by decide) (backOf (W := 0) (rmsi2 l Z a0 G [] t kb c0 c1 h0 n0 O0 P3 P4) hZ (own_w G 66 rfl) (own_w G 65 rfl) (by decide) (by decide)) (g := (mkF m 17 #[.val (.ref x0), .val (.int 58), .val (.int 0)] [(.int 2), (.int 0), (.int 58), (.ref t)])) rfl (by rw [hml]; rfl) (argsL := [(.ref t), (.int 58), (.int 0), (.int 2)]) (rest := []) (lenOf pd_13 rfl) rfl (by show 2 * 0 + _ ≤ _; exact Nat.le_of_eq rfl) (hb hby d21_17) (fun _ _ => ⟨rfl, eh3, (by decide : 0 + 0 ≤ _), (by decide : 0 + 0 ≤ _)⟩)
  dsimp only [Pt.U, Pt.locs, Pt.cells, Pt.slots] at X4 l4 y4 z4 st4 hQ4
  subst l4 y4 z4
  obtain ⟨rfl, N4q, eh4⟩ := hQ4
  have N4 := Fr.app N3 N4q
  refine OwnEnd.of (S' := T4.setTop (mkF m 20 #[.val (.ref x0), .val (.int 58), .val (.int 0)] [(.int (own_ix (0 : Int32) [c0, c1]))])) st4 ?_
  refine OwnEnd.of (S' := T4.setTop (mkF m 36 #[.val (.ref x0), .val (.int 58), .val (.int 0)] [(.int (own_ix (0 : Int32) [c0, c1]))])) (fun _ kK => XS.goto X4.here hx rfl (pc0 := 20) (pc' := 36) rfl (hb hby d21_20) (by decide) (by decide) kK) ?_
  refine OwnEnd.ret X4 (v := (some (.int (own_ix (0 : Int32) [c0, c1])))) (fun h => by rw [Bd.returns] at h; cases h) hlk (fun fs hr => retOut X4 hx Bd.returns rfl (Or.inl ⟨rfl, Or.inl rfl, _, rfl⟩) (hb hby d21_36) hr) (by decide) (by decide) (Q := (own_Qint (own_ix (0 : Int32) [c0, c1])) h0 n0) eh4 ?_
  exact ⟨rfl, N4, rfl⟩

theorem own_efsk2 (m : MethodId) (x0 : Addr) : entryFrame m #[(.ref x0), (.int 58)] 2 = mkF m 0 #[.val (.ref x0), .val (.int 58)] [] := by first | (simp [entryFrame, mkF, argsToLocals, Value.category]; done) | rfl
set_option maxRecDepth 65536 in
set_option maxHeartbeats 40000000 in
theorem rmsk2 (l : Launch) (Z : State) (a0 : Array Value) (G : OwnG Z a0) (ws : List Jvm.Cond) (x0 : Addr) (t : Addr) (kb : ClassId) (c0 : Int32) (c1 : Int32) (h0 : Heap) (n0 : Nat) (O0 : Old Z n0 h0) (P0 : Exa Z h0 x0 "java/lang/String") (P1 : Fld Z h0 x0 "java/lang/String" "value" "[B" (.ref t)) (P2 : Fld Z h0 x0 "java/lang/String" "coder" "B" (.int 0)) (P3 : Arv Z h0 t kb .byte (2 : Int32) ((([c0, c1] : List Int32).map (fun c => c.toInt8.toInt32)).map Value.int) (.int 0)) (P4 : ∀ c ∈ ([c0, c1] : List Int32), ¬ c < (0 : Int32) ∧ ¬ (255 : Int32) < c) :
    MetFree l own_m22 (head1 (Jvm.Cond.code own_m22 jdk_42_method_79_code 2 (some .int) :: ws) ({ frames := 3, cells := 0, slots := 0, locals := 46 } : Room)) (fun a U => a = #[(.ref x0), (.int 58)] ∧ Z.Warmed39 U.vm ∧ U.heap = h0) (fun _ _ _ _ _ => True) (fun _ U o U' => ∃ v L, o = .returned v ∧ (own_Qint (own_ix (0 : Int32) [c0, c1])) h0 n0 v U'.heap L ∧ FrameEnd U o U' L ({ frames := 3, cells := 0, slots := 0, locals := 46 } : Room).cells ({ frames := 3, cells := 0, slots := 0, locals := 46 } : Room).slots) := by
  refine MetFree.of_bodySF (plainFor_of_name pn_0) hisR ?_
  intro p e s m args below meth cD s₁ Bd hml0 hP hK
  obtain ⟨rfl, hZ, hh⟩ := hP
  have hw := G.1
  have hx := Bd.exec
  have hby := Bd.bytes
  have hml : cD.maxLocals = 2 := hml0
  have hown : s.vm.findClass "java/lang/String" = some m.cls := findClass_of_methodNamed Bd.named
  have hnm := (name_of_methodNamed Bd.named Bd.method).1
  have hlk := Bd.notSynchronized
  have X0 : Stand p l e ({ frames := 3, cells := 0, slots := 0, locals := 46 } : Room) s m #[(.ref x0), (.int 58)] below meth cD s₁ [] 0 0 := Stand.of_body Bd
  have e0 : s₁.heap = h0 := by rw [← hh, Bd.state]; rfl
  have lt0 := own_ltN' P0.lt
  have lt1 := own_ltN' P1.lt
  have lt2 := own_ltN' P2.lt
  have lt3 := own_ltN' P3.lt
  have K0 : Keep h0 h0 [] := Keep.refl h0 _
  have Z0 := own_old_le O0
  have N0 := Fr.nil n0
  refine OwnEnd.start (g' := (mkF m 0 #[.val (.ref x0), .val (.int 58)] [])) (own_efsk2 m x0) ?_
  refine OwnEnd.of (S' := s₁.setTop (mkF m 3 #[.val (.ref x0), .val (.int 58)] [(.int 0), (.int 58), (.ref x0)])) (fun _ kK => XS.aloadN X0.here hx rfl (hb hby d22_0) rfl rfl (XS.iloadN X0.here hx rfl (hb hby d22_1) rfl (XS.iconst X0.here hx rfl (hb hby d22_2) kK))) ?_
  obtain ⟨cq1, kq1, q1a, q1b, q1c⟩ := isOf hZ e0 P0
  obtain ⟨_, _, ⟨T1, L1, k1, n1⟩, -, X1, ⟨Lc1, hQ1, l1, y1, z1⟩, st1⟩ := X0.virtualBack hx (y := own_m21) (z := own_m21) hown (mvT hZ (own_w G 42 rfl)) (mvT hZ (own_w G 43 rfl)) (notFace_of_selects (args := #[]) (mvT hZ (own_w G 45 rfl))) (mvT hZ (own_w G 45 rfl)) (mvT hZ (own_w G 44 rfl)) (by decide) (backOf (W := 0) (rmsj2 l Z a0 G [] x0 t kb c0 c1 h0 n0 O0 P0 P1 P2 P3 P4) hZ (own_w G 46 rfl) (own_w G 8 rfl) (by decide) (by decide)) q1a q1c (g := (mkF m 3 #[.val (.ref x0), .val (.int 58)] [(.int 0), (.int 58), (.ref x0)])) rfl (by rw [hml]; rfl) (Steps.refl _) (argsL := [(.int 58), (.int 0)]) (rest := []) (lenOf pd_11 rfl) rfl (by show 2 * 0 + _ ≤ _; exact Nat.le_of_eq rfl) (hb hby d22_3) (fun _ _ => ⟨rfl, e0, (by decide : 0 + 0 ≤ _), (by decide : 0 + 0 ≤ _)⟩)
  dsimp only [Pt.U, Pt.locs, Pt.cells, Pt.slots] at X1 l1 y1 z1 st1 hQ1
  subst l1 y1 z1
  obtain ⟨rfl, N1q, eh1⟩ := hQ1
  have N1 := Fr.app N0 N1q
  refine OwnEnd.tr (S' := T1.setTop (mkF m 6 #[.val (.ref x0), .val (.int 58)] [(.int (own_ix (0 : Int32) [c0, c1]))])) st1 ?_
  refine OwnEnd.ret X1 (v := (some (.int (own_ix (0 : Int32) [c0, c1])))) (fun h => by rw [Bd.returns] at h; cases h) hlk (fun fs hr => retOut X1 hx Bd.returns rfl (Or.inl ⟨rfl, Or.inl rfl, _, rfl⟩) (hb hby d22_6) hr) (by decide) (by decide) (Q := (own_Qint (own_ix (0 : Int32) [c0, c1])) h0 n0) eh1 ?_
  exact ⟨rfl, N1, rfl⟩

theorem own_efia2 (m : MethodId) (x0 : Addr) : entryFrame m #[(.ref x0)] 4 = mkF m 0 #[.val (.ref x0), .unset, .unset, .unset] [] := by first | (simp [entryFrame, mkF, argsToLocals, Value.category]; done) | rfl
set_option maxRecDepth 65536 in
set_option maxHeartbeats 40000000 in
theorem rmia2 (l : Launch) (Z : State) (a0 : Array Value) (G : OwnG Z a0) (ws : List Jvm.Cond) (x0 : Addr) (t : Addr) (kb : ClassId) (c0 : Int32) (c1 : Int32) (h0 : Heap) (n0 : Nat) (O0 : Old Z n0 h0) (P0 : Exa Z h0 x0 "java/lang/String") (P1 : Fld Z h0 x0 "java/lang/String" "value" "[B" (.ref t)) (P2 : Fld Z h0 x0 "java/lang/String" "coder" "B" (.int 0)) (P3 : Arv Z h0 t kb .byte (2 : Int32) ((([c0, c1] : List Int32).map (fun c => c.toInt8.toInt32)).map Value.int) (.int 0)) (P4 : ∀ c ∈ ([c0, c1] : List Int32), ¬ c < (0 : Int32) ∧ ¬ (255 : Int32) < c) :
    MetFree l own_m23 (head1 (Jvm.Cond.code own_m23 prog_6_method_2_code 4 (some .boolean) :: ws) ({ frames := 4, cells := 0, slots := 0, locals := 59 } : Room)) (fun a U => a = #[(.ref x0)] ∧ Z.Warmed39 U.vm ∧ U.heap = h0) (fun _ _ _ _ _ => True) (fun _ U o U' => ∃ v L, o = .returned v ∧ (own_Qint (own_abs [c0, c1])) h0 n0 v U'.heap L ∧ FrameEnd U o U' L ({ frames := 4, cells := 0, slots := 0, locals := 59 } : Room).cells ({ frames := 4, cells := 0, slots := 0, locals := 59 } : Room).slots) := by
  refine MetFree.of_bodySF (plainFor_of_name pn_4) hisR ?_
  intro p e s m args below meth cD s₁ Bd hml0 hP hK
  obtain ⟨rfl, hZ, hh⟩ := hP
  have hw := G.1
  have hx := Bd.exec
  have hby := Bd.bytes
  have hml : cD.maxLocals = 4 := hml0
  have hown : s.vm.findClass "com/example/vett/vett/model/Iris" = some m.cls := findClass_of_methodNamed Bd.named
  have hnm := (name_of_methodNamed Bd.named Bd.method).1
  have hlk := Bd.notSynchronized
  have X0 : Stand p l e ({ frames := 4, cells := 0, slots := 0, locals := 59 } : Room) s m #[(.ref x0)] below meth cD s₁ [] 0 0 := Stand.of_body Bd
  have e0 : s₁.heap = h0 := by rw [← hh, Bd.state]; rfl
  have lt0 := own_ltN' P0.lt
  have lt1 := own_ltN' P1.lt
  have lt2 := own_ltN' P2.lt
  have lt3 := own_ltN' P3.lt
  have K0 : Keep h0 h0 [] := Keep.refl h0 _
  have Z0 := own_old_le O0
  have N0 := Fr.nil n0
  obtain ⟨aT0, aT1, aT2, ST0, ST1, ST2, TB0, TB1, TB2⟩ := own_tabs G
  refine OwnEnd.start (g' := (mkF m 0 #[.val (.ref x0), .unset, .unset, .unset] [])) (own_efia2 m x0) ?_
  refine OwnEnd.of (S' := s₁.setTop (mkF m 3 #[.val (.ref x0), .unset, .unset, .unset] [(.int 58), (.ref x0)])) (fun _ kK => XS.aloadN X0.here hx rfl (hb hby d23_0) rfl rfl (XS.bipush X0.here hx rfl (hb hby d23_1) kK)) ?_
  obtain ⟨cq1, kq1, q1a, q1b, q1c⟩ := isOf hZ e0 P0
  obtain ⟨_, _, ⟨T1, L1, k1, n1⟩, -, X1, ⟨Lc1, hQ1, l1, y1, z1⟩, st1⟩ := X0.virtualBack hx (y := own_m22) (z := own_m22) hown (mvT hZ (own_w G 37 rfl)) (mvT hZ (own_w G 38 rfl)) (notFace_of_selects (args := #[]) (mvT hZ (own_w G 40 rfl))) (mvT hZ (own_w G 40 rfl)) (mvT hZ (own_w G 39 rfl)) (by decide) (backOf (W := 0) (rmsk2 l Z a0 G [] x0 t kb c0 c1 h0 n0 O0 P0 P1 P2 P3 P4) hZ (own_w G 41 rfl) (own_w G 8 rfl) (by decide) (by decide)) q1a q1c (g := (mkF m 3 #[.val (.ref x0), .unset, .unset, .unset] [(.int 58), (.ref x0)])) rfl (by rw [hml]; rfl) (Steps.refl _) (argsL := [(.int 58)]) (rest := []) (lenOf pd_14 rfl) rfl (by show 2 * 0 + _ ≤ _; exact Nat.le_of_eq rfl) (hb hby d23_3) (fun _ _ => ⟨rfl, e0, (by decide : 0 + 0 ≤ _), (by decide : 0 + 0 ≤ _)⟩)
  dsimp only [Pt.U, Pt.locs, Pt.cells, Pt.slots] at X1 l1 y1 z1 st1 hQ1
  subst l1 y1 z1
  obtain ⟨rfl, N1q, eh1⟩ := hQ1
  have N1 := Fr.app N0 N1q
  refine OwnEnd.tr (S' := T1.setTop (mkF m 6 #[.val (.ref x0), .unset, .unset, .unset] [(.int (own_ix (0 : Int32) [c0, c1]))])) st1 ?_
  rcases own_ixc2 c0 c1 with hxc | hxc | hxc
  · rw [hxc.1]
    refine OwnEnd.of (S' := T1.setTop (mkF m 63 #[.val (.ref x0), .val (.int 0), .val (.int 0), .val (.int 1)] [(.int 0)])) (fun _ kK => XS.istoreN X1.here hx rfl (hb hby d23_6) rfl (l' := #[.val (.ref x0), .val (.int 0), .unset, .unset]) rfl (XS.iloadN X1.here hx rfl (hb hby d23_7) rfl (XS.ifYes X1.here hx rfl (pc0 := 8) (pc' := 30) rfl (hb hby d23_8) rfl ((if0 _ _).trans (flt ((by decide : ¬ ((0 : Int32) < (0 : Int32))))).2.2.2) (by decide) (by decide) (XS.iconst X1.here hx rfl (hb hby d23_30) (XS.istoreN X1.here hx rfl (hb hby d23_31) rfl (l' := #[.val (.ref x0), .val (.int 0), .val (.int 0), .unset]) rfl (XS.iconst X1.here hx rfl (hb hby d23_32) (XS.istoreN X1.here hx rfl (hb hby d23_33) rfl (l' := #[.val (.ref x0), .val (.int 0), .val (.int 0), .val (.int 1)]) rfl (XS.iloadN X1.here hx rfl (hb hby d23_34) rfl (XS.ifYes X1.here hx rfl (pc0 := 35) (pc' := 62) rfl (hb hby d23_35) rfl ((if0 _ _).trans (teq ((by decide : (0 : Int32) = (0 : Int32)))).1) (by decide) (by decide) (XS.iloadN X1.here hx rfl (hb hby d23_62) rfl kK)))))))))) ?_
    refine OwnEnd.of (S' := T1.setTop (mkF m 94 #[.val (.ref x0), .val (.int 0), .val (.int 0), .val (.int 1)] [(.int 0)])) (fun _ kK => XS.iconst X1.here hx rfl (hb hby d23_63) (XS.iadd X1.here hx rfl (hb hby d23_64) rfl (XS.istoreN X1.here hx rfl (hb hby d23_65) rfl (l' := #[.val (.ref x0), .val (.int 0), .val (.int 0), .val (.int 1)]) rfl (XS.iloadN X1.here hx rfl (hb hby d23_66) rfl (XS.ifYes X1.here hx rfl (pc0 := 67) (pc' := 93) rfl (hb hby d23_67) rfl ((if0 _ _).trans (teq ((by decide : (0 : Int32) = (0 : Int32)))).1) (by decide) (by decide) (XS.iloadN X1.here hx rfl (hb hby d23_93) rfl kK)))))) ?_
    refine OwnEnd.ret X1 (v := (some (.int (nar .boolean (0 : Int32))))) (fun h => by rw [Bd.returns] at h; cases h) hlk (fun fs hr => retN X1 hx (t := .boolean) Bd.returns (by simp) (hb hby d23_94) hr) (by decide) (by decide) (Q := (own_Qint (own_abs [c0, c1])) h0 n0) eh1 ?_
    exact ⟨(by show some (Value.int (nar .boolean (0 : Int32))) = _; simp [own_abs, own_sch, own_tail, nar, hxc]), N1, rfl⟩
  · rw [hxc.1]
    refine OwnEnd.of (S' := T1.setTop (mkF m 11 #[.val (.ref x0), .val (.int 1), .unset, .unset] [])) (fun _ kK => XS.istoreN X1.here hx rfl (hb hby d23_6) rfl (l' := #[.val (.ref x0), .val (.int 1), .unset, .unset]) rfl (XS.iloadN X1.here hx rfl (hb hby d23_7) rfl (XS.ifNo X1.here hx rfl (hb hby d23_8) rfl ((if0 _ _).trans (tlt ((by decide : (0 : Int32) < (1 : Int32)))).2.2.2) kK))) ?_
    obtain ⟨T2, X2, e2, st2⟩ := getS2 X1 hx hZ hown (host := "") (Or.inl (own_w G 96 rfl)) Via.refl eh1 (ST0.ext O0.2) (g := (mkF m 11 #[.val (.ref x0), .val (.int 1), .unset, .unset] [])) rfl (hb hby d23_11)
    refine OwnEnd.of (S' := T2.setTop (mkF m 14 #[.val (.ref x0), .val (.int 1), .unset, .unset] [(.ref aT0)])) st2 ?_
    refine OwnEnd.of (S' := T2.setTop (mkF m 17 #[.val (.ref x0), .val (.int 1), .unset, .unset] [(.int 0), (.ref x0), (.int 0), (.ref aT0)])) (fun _ kK => XS.iconst X2.here hx rfl (hb hby d23_14) (XS.aloadN X2.here hx rfl (hb hby d23_15) rfl rfl (XS.iconst X2.here hx rfl (hb hby d23_16) kK))) ?_
    obtain ⟨cq3, kq3, q3a, q3b, q3c⟩ := isOf hZ e2 P0
    obtain ⟨_, _, ⟨T3, L3, k3, n3⟩, -, X3, ⟨Lc3, hQ3, l3, y3, z3⟩, st3⟩ := X2.virtualBack hx (y := own_m8) (z := own_m8) hown (mvT hZ (own_w G 98 rfl)) (mvT hZ (own_w G 99 rfl)) (notFace_of_selects (args := #[]) (mvT hZ (own_w G 101 rfl))) (mvT hZ (own_w G 101 rfl)) (mvT hZ (own_w G 100 rfl)) (by decide) (backOf (W := 2) (rmcA0 l Z a0 G [] x0 t kb (2 : Int32) ((([c0, c1] : List Int32).map (fun c => c.toInt8.toInt32)).map Value.int) (.int 0) (0 : Int32) c0 h0 n0 O0 P0 P1 P2 P3 (by decide : ¬ (0 : Int32) < (0 : Int32)) (by decide : (0 : Int32) < (2 : Int32)) (by rfl : ((([c0, c1] : List Int32).map (fun c => c.toInt8.toInt32)).map Value.int).getD (0 : Int32).toNatClampNeg (.int 0) = (.int (StrChars.lo8 c0))) (P4 c0 (by simp))) hZ (own_w G 102 rfl) (own_w G 8 rfl) (by decide) (by decide)) q3a q3c (g := (mkF m 17 #[.val (.ref x0), .val (.int 1), .unset, .unset] [(.int 0), (.ref x0), (.int 0), (.ref aT0)])) rfl (by rw [hml]; rfl) (Steps.refl _) (argsL := [(.int 0)]) (rest := [(.int 0), (.ref aT0)]) (lenOf pd_15 rfl) rfl (by show 2 * 0 + _ ≤ _; exact Nat.le_of_eq rfl) (hb hby d23_17) (fun _ _ => ⟨rfl, e2, (by decide : 0 + 0 ≤ _), (by decide : 0 + 0 ≤ _)⟩)
    dsimp only [Pt.U, Pt.locs, Pt.cells, Pt.slots] at X3 l3 y3 z3 st3 hQ3
    subst l3 y3 z3
    obtain ⟨rfl, N3q, eh3⟩ := hQ3
    have N3 := Fr.app N1 N3q
    refine OwnEnd.tr (S' := T3.setTop (mkF m 20 #[.val (.ref x0), .val (.int 1), .unset, .unset] [(.int c0), (.int 0), (.ref aT0)])) st3 ?_
    obtain ⟨_, _, ⟨T4, L4, k4, n4⟩, -, X4, ⟨Lc4, hQ4, l4, y4, z4⟩, st4⟩ := Jvm.LawKit.callS X3 hx (y := own_m17) hown (mvT hZ (own_w G 114 rfl)) (mvT hZ (own_w G 115 rfl)) (mvT hZ (own_w G 35 rfl)) (mvT hZ (own_w G 116 rfl)) (by decide) (backOf (W := 0) (rmii l Z a0 G [] aT0 own_letter (0 : Int32) c0 h0 n0 O0 TB0 (P4 c0 (by simp)) own_nbl (by decide : nar .boolean (0 : Int32) = (0 : Int32))) hZ (own_w G 116 rfl) (own_w G 35 rfl) (by decide) (by decide)) (g := (mkF m 20 #[.val (.ref x0), .val (.int 1), .unset, .unset] [(.int c0), (.int 0), (.ref aT0)])) rfl (by rw [hml]; rfl) (argsL := [(.ref aT0), (.int 0), (.int c0)]) (rest := []) (lenOf pd_9 rfl) rfl (by show 2 * 0 + _ ≤ _; exact Nat.le_of_eq rfl) (hb hby d23_20) (fun _ _ => ⟨rfl, eh3, (by decide : 0 + 0 ≤ _), (by decide : 0 + 0 ≤ _)⟩)
    dsimp only [Pt.U, Pt.locs, Pt.cells, Pt.slots] at X4 l4 y4 z4 st4 hQ4
    subst l4 y4 z4
    obtain ⟨rfl, N4q, eh4⟩ := hQ4
    have N4 := Fr.app N3 N4q
    refine OwnEnd.of (S' := T4.setTop (mkF m 23 #[.val (.ref x0), .val (.int 1), .unset, .unset] [(.int (if c0 < (128 : Int32) then own_letter c0 else (0 : Int32)))])) st4 ?_
    rw [own_letter_tab (P4 c0 (by simp))]
    rcases own_letter01 c0 with hb5 | hb5
    · rw [hb5]
      refine OwnEnd.of (S' := T4.setTop (mkF m 65 #[.val (.ref x0), .val (.int 1), .val (.int 0), .val (.int 1)] [(.int 2)])) (fun _ kK => XS.ifYes X4.here hx rfl (pc0 := 23) (pc' := 30) rfl (hb hby d23_23) rfl ((if0 _ _).trans (teq ((by decide : (0 : Int32) = (0 : Int32)))).1) (by decide) (by decide) (XS.iconst X4.here hx rfl (hb hby d23_30) (XS.istoreN X4.here hx rfl (hb hby d23_31) rfl (l' := #[.val (.ref x0), .val (.int 1), .val (.int 0), .unset]) rfl (XS.iconst X4.here hx rfl (hb hby d23_32) (XS.istoreN X4.here hx rfl (hb hby d23_33) rfl (l' := #[.val (.ref x0), .val (.int 1), .val (.int 0), .val (.int 1)]) rfl (XS.iloadN X4.here hx rfl (hb hby d23_34) rfl (XS.ifYes X4.here hx rfl (pc0 := 35) (pc' := 62) rfl (hb hby d23_35) rfl ((if0 _ _).trans (teq ((by decide : (0 : Int32) = (0 : Int32)))).1) (by decide) (by decide) (XS.iloadN X4.here hx rfl (hb hby d23_62) rfl (XS.iconst X4.here hx rfl (hb hby d23_63) (XS.iadd X4.here hx rfl (hb hby d23_64) rfl kK)))))))))) ?_
      refine OwnEnd.of (S' := T4.setTop (mkF m 94 #[.val (.ref x0), .val (.int 1), .val (.int 0), .val (.int 2)] [(.int 0)])) (fun _ kK => XS.istoreN X4.here hx rfl (hb hby d23_65) rfl (l' := #[.val (.ref x0), .val (.int 1), .val (.int 0), .val (.int 2)]) rfl (XS.iloadN X4.here hx rfl (hb hby d23_66) rfl (XS.ifYes X4.here hx rfl (pc0 := 67) (pc' := 93) rfl (hb hby d23_67) rfl ((if0 _ _).trans (teq ((by decide : (0 : Int32) = (0 : Int32)))).1) (by decide) (by decide) (XS.iloadN X4.here hx rfl (hb hby d23_93) rfl kK)))) ?_
      refine OwnEnd.ret X4 (v := (some (.int (nar .boolean (0 : Int32))))) (fun h => by rw [Bd.returns] at h; cases h) hlk (fun fs hr => retN X4 hx (t := .boolean) Bd.returns (by simp) (hb hby d23_94) hr) (by decide) (by decide) (Q := (own_Qint (own_abs [c0, c1])) h0 n0) eh4 ?_
      exact ⟨(by show some (Value.int (nar .boolean (0 : Int32))) = _; simp [own_abs, own_sch, own_tail, nar, hxc, hb5]), N4, rfl⟩
    · rw [hb5]
      refine OwnEnd.of (S' := T4.setTop (mkF m 40 #[.val (.ref x0), .val (.int 1), .val (.int 1), .val (.int 1)] [(.int 1), (.int 1)])) (fun _ kK => XS.ifNo X4.here hx rfl (hb hby d23_23) rfl ((if0 _ _).trans (feq ((by decide : ¬ ((1 : Int32) = (0 : Int32))))).1) (XS.iconst X4.here hx rfl (hb hby d23_26) (XS.goto X4.here hx rfl (pc0 := 27) (pc' := 31) rfl (hb hby d23_27) (by decide) (by decide) (XS.istoreN X4.here hx rfl (hb hby d23_31) rfl (l' := #[.val (.ref x0), .val (.int 1), .val (.int 1), .unset]) rfl (XS.iconst X4.here hx rfl (hb hby d23_32) (XS.istoreN X4.here hx rfl (hb hby d23_33) rfl (l' := #[.val (.ref x0), .val (.int 1), .val (.int 1), .val (.int 1)]) rfl (XS.iloadN X4.here hx rfl (hb hby d23_34) rfl (XS.ifNo X4.here hx rfl (hb hby d23_35) rfl ((if0 _ _).trans (feq ((by decide : ¬ ((1 : Int32) = (0 : Int32))))).1) (XS.iloadN X4.here hx rfl (hb hby d23_38) rfl (XS.iloadN X4.here hx rfl (hb hby d23_39) rfl kK)))))))))) ?_
      refine OwnEnd.of (S' := T4.setTop (mkF m 72 #[.val (.ref x0), .val (.int 1), .val (.int 1), .val (.int 2)] [(.ref x0), (.int 2)])) (fun _ kK => XS.icmpYes X4.here hx rfl (pc0 := 40) (pc' := 62) rfl (hb hby d23_40) rfl (flt ((by decide : ¬ ((1 : Int32) < (1 : Int32))))).2.1 (by decide) (by decide) (XS.iloadN X4.here hx rfl (hb hby d23_62) rfl (XS.iconst X4.here hx rfl (hb hby d23_63) (XS.iadd X4.here hx rfl (hb hby d23_64) rfl (XS.istoreN X4.here hx rfl (hb hby d23_65) rfl (l' := #[.val (.ref x0), .val (.int 1), .val (.int 1), .val (.int 2)]) rfl (XS.iloadN X4.here hx rfl (hb hby d23_66) rfl (XS.ifNo X4.here hx rfl (hb hby d23_67) rfl ((if0 _ _).trans (feq ((by decide : ¬ ((1 : Int32) = (0 : Int32))))).1) (XS.iloadN X4.here hx rfl (hb hby d23_70) rfl (XS.aloadN X4.here hx rfl (hb hby d23_71) rfl rfl kK))))))))) ?_
      obtain ⟨cq6, kq6, q6a, q6b, q6c⟩ := isOf hZ eh4 P0
      obtain ⟨_, _, ⟨T6, L6, k6, n6⟩, -, X6, ⟨Lc6, hQ6, l6, y6, z6⟩, st6⟩ := X4.virtualBack hx (y := own_m6) (z := own_m6) hown (mvT hZ (own_w G 120 rfl)) (mvT hZ (own_w G 54 rfl)) (notFace_of_selects (args := #[]) (mvT hZ (own_w G 56 rfl))) (mvT hZ (own_w G 56 rfl)) (mvT hZ (own_w G 55 rfl)) (by decide) (backOf (W := 1) (rmln0 l Z a0 G [] x0 t kb (2 : Int32) ((([c0, c1] : List Int32).map (fun c => c.toInt8.toInt32)).map Value.int) (.int 0) h0 n0 O0 P0 P1 P2 P3) hZ (own_w G 57 rfl) (own_w G 8 rfl) (by decide) (by decide)) q6a q6c (g := (mkF m 72 #[.val (.ref x0), .val (.int 1), .val (.int 1), .val (.int 2)] [(.ref x0), (.int 2)])) rfl (by rw [hml]; rfl) (Steps.refl _) (argsL := []) (rest := [(.int 2)]) (lenOf pd_12 rfl) rfl (by show 2 * 0 + _ ≤ _; exact Nat.le_of_eq rfl) (hb hby d23_72) (fun _ _ => ⟨rfl, eh4, (by decide : 0 + 0 ≤ _), (by decide : 0 + 0 ≤ _)⟩)
      dsimp only [Pt.U, Pt.locs, Pt.cells, Pt.slots] at X6 l6 y6 z6 st6 hQ6
      subst l6 y6 z6
      obtain ⟨rfl, N6q, eh6⟩ := hQ6
      have N6 := Fr.app N4 N6q
      refine OwnEnd.tr (S' := T6.setTop (mkF m 75 #[.val (.ref x0), .val (.int 1), .val (.int 1), .val (.int 2)] [(.int 2), (.int 2)])) st6 ?_
      refine OwnEnd.of (S' := T6.setTop (mkF m 94 #[.val (.ref x0), .val (.int 1), .val (.int 1), .val (.int 2)] [(.int 1)])) (fun _ kK => XS.icmpYes X6.here hx rfl (pc0 := 75) (pc' := 93) rfl (hb hby d23_75) rfl (flt ((by decide : ¬ ((2 : Int32) < (2 : Int32))))).2.1 (by decide) (by decide) (XS.iloadN X6.here hx rfl (hb hby d23_93) rfl kK)) ?_
      refine OwnEnd.ret X6 (v := (some (.int (nar .boolean (1 : Int32))))) (fun h => by rw [Bd.returns] at h; cases h) hlk (fun fs hr => retN X6 hx (t := .boolean) Bd.returns (by simp) (hb hby d23_94) hr) (by decide) (by decide) (Q := (own_Qint (own_abs [c0, c1])) h0 n0) eh6 ?_
      exact ⟨(by show some (Value.int (nar .boolean (1 : Int32))) = _; simp [own_abs, own_sch, own_tail, nar, hxc, hb5]), N6, rfl⟩
  · rw [hxc.1]
    refine OwnEnd.of (S' := T1.setTop (mkF m 63 #[.val (.ref x0), .val (.int (-1 : Int32)), .val (.int 0), .val (.int 1)] [(.int (-1 : Int32))])) (fun _ kK => XS.istoreN X1.here hx rfl (hb hby d23_6) rfl (l' := #[.val (.ref x0), .val (.int (-1 : Int32)), .unset, .unset]) rfl (XS.iloadN X1.here hx rfl (hb hby d23_7) rfl (XS.ifYes X1.here hx rfl (pc0 := 8) (pc' := 30) rfl (hb hby d23_8) rfl ((if0 _ _).trans (flt ((by decide : ¬ ((0 : Int32) < (-1 : Int32))))).2.2.2) (by decide) (by decide) (XS.iconst X1.here hx rfl (hb hby d23_30) (XS.istoreN X1.here hx rfl (hb hby d23_31) rfl (l' := #[.val (.ref x0), .val (.int (-1 : Int32)), .val (.int 0), .unset]) rfl (XS.iconst X1.here hx rfl (hb hby d23_32) (XS.istoreN X1.here hx rfl (hb hby d23_33) rfl (l' := #[.val (.ref x0), .val (.int (-1 : Int32)), .val (.int 0), .val (.int 1)]) rfl (XS.iloadN X1.here hx rfl (hb hby d23_34) rfl (XS.ifYes X1.here hx rfl (pc0 := 35) (pc' := 62) rfl (hb hby d23_35) rfl ((if0 _ _).trans (teq ((by decide : (0 : Int32) = (0 : Int32)))).1) (by decide) (by decide) (XS.iloadN X1.here hx rfl (hb hby d23_62) rfl kK)))))))))) ?_
    refine OwnEnd.of (S' := T1.setTop (mkF m 94 #[.val (.ref x0), .val (.int (-1 : Int32)), .val (.int 0), .val (.int 0)] [(.int 0)])) (fun _ kK => XS.iconst X1.here hx rfl (hb hby d23_63) (XS.iadd X1.here hx rfl (hb hby d23_64) rfl (XS.istoreN X1.here hx rfl (hb hby d23_65) rfl (l' := #[.val (.ref x0), .val (.int (-1 : Int32)), .val (.int 0), .val (.int 0)]) rfl (XS.iloadN X1.here hx rfl (hb hby d23_66) rfl (XS.ifYes X1.here hx rfl (pc0 := 67) (pc' := 93) rfl (hb hby d23_67) rfl ((if0 _ _).trans (teq ((by decide : (0 : Int32) = (0 : Int32)))).1) (by decide) (by decide) (XS.iloadN X1.here hx rfl (hb hby d23_93) rfl kK)))))) ?_
    refine OwnEnd.ret X1 (v := (some (.int (nar .boolean (0 : Int32))))) (fun h => by rw [Bd.returns] at h; cases h) hlk (fun fs hr => retN X1 hx (t := .boolean) Bd.returns (by simp) (hb hby d23_94) hr) (by decide) (by decide) (Q := (own_Qint (own_abs [c0, c1])) h0 n0) eh1 ?_
    exact ⟨(by show some (Value.int (nar .boolean (0 : Int32))) = _; rw [own_abs_no hxc.2]; rfl), N1, rfl⟩

theorem own_efmn3 (m : MethodId) : entryFrame m #[(.int 3), (.int 3)] 2 = mkF m 0 #[.val (.int 3), .val (.int 3)] [] := by first | (simp [entryFrame, mkF, argsToLocals, Value.category]; done) | rfl
set_option maxRecDepth 65536 in
set_option maxHeartbeats 40000000 in
theorem rmmn3 (l : Launch) (Z : State) (a0 : Array Value) (G : OwnG Z a0) (ws : List Jvm.Cond)  (h0 : Heap) (n0 : Nat) (O0 : Old Z n0 h0)  :
    MetFree l own_m19 (head1 (Jvm.Cond.code own_m19 jdk_29_method_69_code 2 (some .int) :: ws) ({ frames := 0, cells := 0, slots := 0, locals := 0 } : Room)) (fun a U => a = #[(.int 3), (.int 3)] ∧ Z.Warmed39 U.vm ∧ U.heap = h0) (fun _ _ _ _ _ => True) (fun _ U o U' => ∃ v L, o = .returned v ∧ (own_Qint (3 : Int32)) h0 n0 v U'.heap L ∧ FrameEnd U o U' L ({ frames := 0, cells := 0, slots := 0, locals := 0 } : Room).cells ({ frames := 0, cells := 0, slots := 0, locals := 0 } : Room).slots) := by
  refine MetFree.of_bodySF (Jvm.Free.JP.mathPlain rfl (by decide +kernel)) hisR ?_
  intro p e s m args below meth cD s₁ Bd hml0 hP hK
  obtain ⟨rfl, hZ, hh⟩ := hP
  have hw := G.1
  have hx := Bd.exec
  have hby := Bd.bytes
  have hml : cD.maxLocals = 2 := hml0
  have hown : s.vm.findClass "java/lang/Math" = some m.cls := findClass_of_methodNamed Bd.named
  have hnm := (name_of_methodNamed Bd.named Bd.method).1
  have hlk := Bd.notSynchronized
  have X0 : Stand p l e ({ frames := 0, cells := 0, slots := 0, locals := 0 } : Room) s m #[(.int 3), (.int 3)] below meth cD s₁ [] 0 0 := Stand.of_body Bd
  have e0 : s₁.heap = h0 := by rw [← hh, Bd.state]; rfl
  have K0 : Keep h0 h0 [] := Keep.refl h0 _
  have Z0 := own_old_le O0
  have N0 := Fr.nil n0
  refine OwnEnd.start (g' := (mkF m 0 #[.val (.int 3), .val (.int 3)] [])) (own_efmn3 m ) ?_
  refine OwnEnd.of (S' := s₁.setTop (mkF m 10 #[.val (.int 3), .val (.int 3)] [(.int 3)])) (fun _ kK => XS.iloadN X0.here hx rfl (hb hby d19_0) rfl (XS.iloadN X0.here hx rfl (hb hby d19_1) rfl (XS.icmpNo X0.here hx rfl (hb hby d19_2) rfl (flt ((by decide : ¬ ((3 : Int32) < (3 : Int32))))).2.2.1 (XS.iloadN X0.here hx rfl (hb hby d19_5) rfl (XS.goto X0.here hx rfl (pc0 := 6) (pc' := 10) rfl (hb hby d19_6) (by decide) (by decide) kK))))) ?_
  refine OwnEnd.ret X0 (v := (some (.int 3))) (fun h => by rw [Bd.returns] at h; cases h) hlk (fun fs hr => retOut X0 hx Bd.returns rfl (Or.inl ⟨rfl, Or.inl rfl, _, rfl⟩) (hb hby d19_10) hr) (by decide) (by decide) (Q := (own_Qint (3 : Int32)) h0 n0) e0 ?_
  exact ⟨rfl, N0, rfl⟩

theorem own_efix3 (m : MethodId) (t : Addr) : entryFrame m #[(.ref t), (.int 58), (.int 0), (.int 3)] 6 = mkF m 0 #[.val (.ref t), .val (.int 58), .val (.int 0), .val (.int 3), .unset, .unset] [] := by first | (simp [entryFrame, mkF, argsToLocals, Value.category]; done) | rfl
set_option maxRecDepth 65536 in
set_option maxHeartbeats 40000000 in
theorem rmix3 (l : Launch) (Z : State) (a0 : Array Value) (G : OwnG Z a0) (ws : List Jvm.Cond) (t : Addr) (kb : ClassId) (c0 : Int32) (c1 : Int32) (c2 : Int32) (h0 : Heap) (n0 : Nat) (O0 : Old Z n0 h0) (P0 : Arv Z h0 t kb .byte (3 : Int32) ((([c0, c1, c2] : List Int32).map (fun c => c.toInt8.toInt32)).map Value.int) (.int 0)) (P1 : ∀ c ∈ ([c0, c1, c2] : List Int32), ¬ c < (0 : Int32) ∧ ¬ (255 : Int32) < c) :
    MetFree l own_m24 (head1 (Jvm.Cond.code own_m24 jdk_43_method_23_code 6 (some .int) :: ws) ({ frames := 0, cells := 0, slots := 0, locals := 0 } : Room)) (fun a U => a = #[(.ref t), (.int 58), (.int 0), (.int 3)] ∧ Z.Warmed39 U.vm ∧ U.heap = h0) (fun _ _ _ _ _ => True) (fun _ U o U' => ∃ v L, o = .returned v ∧ (own_Qint (own_ix (0 : Int32) [c0, c1, c2])) h0 n0 v U'.heap L ∧ FrameEnd U o U' L ({ frames := 0, cells := 0, slots := 0, locals := 0 } : Room).cells ({ frames := 0, cells := 0, slots := 0, locals := 0 } : Room).slots) := by
  refine MetFree.of_bodySF (plainFor_of_name pn_2) hisR ?_
  intro p e s m args below meth cD s₁ Bd hml0 hP hK
  obtain ⟨rfl, hZ, hh⟩ := hP
  have hw := G.1
  have hx := Bd.exec
  have hby := Bd.bytes
  have hml : cD.maxLocals = 6 := hml0
  have hown : s.vm.findClass "java/lang/StringLatin1" = some m.cls := findClass_of_methodNamed Bd.named
  have hnm := (name_of_methodNamed Bd.named Bd.method).1
  have hlk := Bd.notSynchronized
  have X0 : Stand p l e ({ frames := 0, cells := 0, slots := 0, locals := 0 } : Room) s m #[(.ref t), (.int 58), (.int 0), (.int 3)] below meth cD s₁ [] 0 0 := Stand.of_body Bd
  have e0 : s₁.heap = h0 := by rw [← hh, Bd.state]; rfl
  have lt0 := own_ltN' P0.lt
  have K0 : Keep h0 h0 [] := Keep.refl h0 _
  have Z0 := own_old_le O0
  have N0 := Fr.nil n0
  refine OwnEnd.start (g' := (mkF m 0 #[.val (.ref t), .val (.int 58), .val (.int 0), .val (.int 3), .unset, .unset] [])) (own_efix3 m t) ?_
  have V1 : Arv Z h0 t kb .byte (3 : Int32) [(.int (StrChars.lo8 c0)), (.int (StrChars.lo8 c1)), (.int (StrChars.lo8 c2))] (.int 0) := by have q := P0; exact q
  refine OwnEnd.of (S' := s₁.setTop (mkF m 16 #[.val (.ref t), .val (.int 58), .val (.int 0), .val (.int 3), .val (.int 58), .val (.int 0)] [(.int 0), (.ref t)])) (fun _ kK => XS.iloadN X0.here hx rfl (hb hby d24_0) rfl (XS.i2b X0.here hx rfl (hb hby d24_1) rfl (XS.istore X0.here hx rfl (hb hby d24_2) rfl (l' := #[.val (.ref t), .val (.int 58), .val (.int 0), .val (.int 3), .val (.int 58), .unset]) rfl (XS.iloadN X0.here hx rfl (hb hby d24_4) rfl (XS.istore X0.here hx rfl (hb hby d24_5) rfl (l' := #[.val (.ref t), .val (.int 58), .val (.int 0), .val (.int 3), .val (.int 58), .val (.int 0)]) rfl (XS.iload X0.here hx rfl (hb hby d24_7) rfl (XS.iloadN X0.here hx rfl (hb hby d24_9) rfl (XS.icmpNo X0.here hx rfl (hb hby d24_10) rfl (tlt ((by decide : (0 : Int32) < (3 : Int32)))).2.1 (XS.aloadN X0.here hx rfl (hb hby d24_13) rfl rfl (XS.iload X0.here hx rfl (hb hby d24_14) rfl kK)))))))))) ?_
  obtain ⟨cl2, Ar2, q2, S2, N2', H2, G2⟩ := id V1
  have hin3 : ¬ ((0 : Int32) < 0 ∨ cl2.slots.size ≤ ((0 : Int32)).toNatClampNeg) := inb_of S2 ⟨by decide, by decide⟩
  refine OwnEnd.of (S' := s₁.setTop (mkF m 17 #[.val (.ref t), .val (.int 58), .val (.int 0), .val (.int 3), .val (.int 58), .val (.int 0)] [(.int (StrChars.lo8 c0))])) (fun _ kK => X0.baloadBytes hx (j := (0 : Int32)) (v := (.int (StrChars.lo8 c0))) (by rw [e0]; exact Ar2.1) (State.isArrayOf_alike hZ.alike Ar2.2.1) Ar2.2.2 hin3 (Has.at H2 hin3 (rfl)) (g := (mkF m 16 #[.val (.ref t), .val (.int 58), .val (.int 0), .val (.int 3), .val (.int 58), .val (.int 0)] [(.int 0), (.ref t)])) rfl rfl (hb hby d24_16) _ kK) ?_
  refine OwnEnd.of (S' := s₁.setTop (mkF m 19 #[.val (.ref t), .val (.int 58), .val (.int 0), .val (.int 3), .val (.int 58), .val (.int 0)] [(.int 58), (.int (StrChars.lo8 c0))])) (fun _ kK => XS.iload X0.here hx rfl (hb hby d24_17) rfl kK) ?_
  rcases Decidable.em (c0 = (58 : Int32)) with hc4 | hc4
  · refine OwnEnd.of (S' := s₁.setTop (mkF m 24 #[.val (.ref t), .val (.int 58), .val (.int 0), .val (.int 3), .val (.int 58), .val (.int 0)] [(.int 0)])) (fun _ kK => XS.icmpNo X0.here hx rfl (hb hby d24_19) rfl (teq ((own_lo58 hc4))).2 (XS.iload X0.here hx rfl (hb hby d24_22) rfl kK)) ?_
    refine OwnEnd.ret X0 (v := (some (.int 0))) (fun h => by rw [Bd.returns] at h; cases h) hlk (fun fs hr => retOut X0 hx Bd.returns rfl (Or.inl ⟨rfl, Or.inl rfl, _, rfl⟩) (hb hby d24_24) hr) (by decide) (by decide) (Q := (own_Qint (own_ix (0 : Int32) [c0, c1, c2])) h0 n0) e0 ?_
    exact ⟨(by simp [own_ix, hc4]), N0, rfl⟩
  · refine OwnEnd.of (S' := s₁.setTop (mkF m 16 #[.val (.ref t), .val (.int 58), .val (.int 0), .val (.int 3), .val (.int 58), .val (.int 1)] [(.int 1), (.ref t)])) (fun _ kK => XS.icmpYes X0.here hx rfl (pc0 := 19) (pc' := 25) rfl (hb hby d24_19) rfl (feq ((own_lo58n (P1 c0 (by simp)).1 (P1 c0 (by simp)).2 hc4))).2 (by decide) (by decide) (XS.iinc X0.here hx rfl (hb hby d24_25) rfl (l' := #[.val (.ref t), .val (.int 58), .val (.int 0), .val (.int 3), .val (.int 58), .val (.int 1)]) rfl (XS.goto X0.here hx rfl (pc0 := 28) (pc' := 7) rfl (hb hby d24_28) (by decide) (by decide) (XS.iload X0.here hx rfl (hb hby d24_7) rfl (XS.iloadN X0.here hx rfl (hb hby d24_9) rfl (XS.icmpNo X0.here hx rfl (hb hby d24_10) rfl (tlt ((by decide : (1 : Int32) < (3 : Int32)))).2.1 (XS.aloadN X0.here hx rfl (hb hby d24_13) rfl rfl (XS.iload X0.here hx rfl (hb hby d24_14) rfl kK)))))))) ?_
    obtain ⟨cl5, Ar5, q5, S5, N5', H5, G5⟩ := id V1
    have hin6 : ¬ ((1 : Int32) < 0 ∨ cl5.slots.size ≤ ((1 : Int32)).toNatClampNeg) := inb_of S5 ⟨by decide, by decide⟩
    refine OwnEnd.of (S' := s₁.setTop (mkF m 17 #[.val (.ref t), .val (.int 58), .val (.int 0), .val (.int 3), .val (.int 58), .val (.int 1)] [(.int (StrChars.lo8 c1))])) (fun _ kK => X0.baloadBytes hx (j := (1 : Int32)) (v := (.int (StrChars.lo8 c1))) (by rw [e0]; exact Ar5.1) (State.isArrayOf_alike hZ.alike Ar5.2.1) Ar5.2.2 hin6 (Has.at H5 hin6 (rfl)) (g := (mkF m 16 #[.val (.ref t), .val (.int 58), .val (.int 0), .val (.int 3), .val (.int 58), .val (.int 1)] [(.int 1), (.ref t)])) rfl rfl (hb hby d24_16) _ kK) ?_
    refine OwnEnd.of (S' := s₁.setTop (mkF m 19 #[.val (.ref t), .val (.int 58), .val (.int 0), .val (.int 3), .val (.int 58), .val (.int 1)] [(.int 58), (.int (StrChars.lo8 c1))])) (fun _ kK => XS.iload X0.here hx rfl (hb hby d24_17) rfl kK) ?_
    rcases Decidable.em (c1 = (58 : Int32)) with hc7 | hc7
    · refine OwnEnd.of (S' := s₁.setTop (mkF m 24 #[.val (.ref t), .val (.int 58), .val (.int 0), .val (.int 3), .val (.int 58), .val (.int 1)] [(.int 1)])) (fun _ kK => XS.icmpNo X0.here hx rfl (hb hby d24_19) rfl (teq ((own_lo58 hc7))).2 (XS.iload X0.here hx rfl (hb hby d24_22) rfl kK)) ?_
      refine OwnEnd.ret X0 (v := (some (.int 1))) (fun h => by rw [Bd.returns] at h; cases h) hlk (fun fs hr => retOut X0 hx Bd.returns rfl (Or.inl ⟨rfl, Or.inl rfl, _, rfl⟩) (hb hby d24_24) hr) (by decide) (by decide) (Q := (own_Qint (own_ix (0 : Int32) [c0, c1, c2])) h0 n0) e0 ?_
      exact ⟨(by simp [own_ix, hc4, hc7]), N0, rfl⟩
    · refine OwnEnd.of (S' := s₁.setTop (mkF m 16 #[.val (.ref t), .val (.int 58), .val (.int 0), .val (.int 3), .val (.int 58), .val (.int 2)] [(.int 2), (.ref t)])) (fun _ kK => XS.icmpYes X0.here hx rfl (pc0 := 19) (pc' := 25) rfl (hb hby d24_19) rfl (feq ((own_lo58n (P1 c1 (by simp)).1 (P1 c1 (by simp)).2 hc7))).2 (by decide) (by decide) (XS.iinc X0.here hx rfl (hb hby d24_25) rfl (l' := #[.val (.ref t), .val (.int 58), .val (.int 0), .val (.int 3), .val (.int 58), .val (.int 2)]) rfl (XS.goto X0.here hx rfl (pc0 := 28) (pc' := 7) rfl (hb hby d24_28) (by decide) (by decide) (XS.iload X0.here hx rfl (hb hby d24_7) rfl (XS.iloadN X0.here hx rfl (hb hby d24_9) rfl (XS.icmpNo X0.here hx rfl (hb hby d24_10) rfl (tlt ((by decide : (2 : Int32) < (3 : Int32)))).2.1 (XS.aloadN X0.here hx rfl (hb hby d24_13) rfl rfl (XS.iload X0.here hx rfl (hb hby d24_14) rfl kK)))))))) ?_
      obtain ⟨cl8, Ar8, q8, S8, N8', H8, G8⟩ := id V1
      have hin9 : ¬ ((2 : Int32) < 0 ∨ cl8.slots.size ≤ ((2 : Int32)).toNatClampNeg) := inb_of S8 ⟨by decide, by decide⟩
      refine OwnEnd.of (S' := s₁.setTop (mkF m 17 #[.val (.ref t), .val (.int 58), .val (.int 0), .val (.int 3), .val (.int 58), .val (.int 2)] [(.int (StrChars.lo8 c2))])) (fun _ kK => X0.baloadBytes hx (j := (2 : Int32)) (v := (.int (StrChars.lo8 c2))) (by rw [e0]; exact Ar8.1) (State.isArrayOf_alike hZ.alike Ar8.2.1) Ar8.2.2 hin9 (Has.at H8 hin9 (rfl)) (g := (mkF m 16 #[.val (.ref t), .val (.int 58), .val (.int 0), .val (.int 3), .val (.int 58), .val (.int 2)] [(.int 2), (.ref t)])) rfl rfl (hb hby d24_16) _ kK) ?_
      refine OwnEnd.of (S' := s₁.setTop (mkF m 19 #[.val (.ref t), .val (.int 58), .val (.int 0), .val (.int 3), .val (.int 58), .val (.int 2)] [(.int 58), (.int (StrChars.lo8 c2))])) (fun _ kK => XS.iload X0.here hx rfl (hb hby d24_17) rfl kK) ?_
      rcases Decidable.em (c2 = (58 : Int32)) with hc10 | hc10
      · refine OwnEnd.of (S' := s₁.setTop (mkF m 24 #[.val (.ref t), .val (.int 58), .val (.int 0), .val (.int 3), .val (.int 58), .val (.int 2)] [(.int 2)])) (fun _ kK => XS.icmpNo X0.here hx rfl (hb hby d24_19) rfl (teq ((own_lo58 hc10))).2 (XS.iload X0.here hx rfl (hb hby d24_22) rfl kK)) ?_
        refine OwnEnd.ret X0 (v := (some (.int 2))) (fun h => by rw [Bd.returns] at h; cases h) hlk (fun fs hr => retOut X0 hx Bd.returns rfl (Or.inl ⟨rfl, Or.inl rfl, _, rfl⟩) (hb hby d24_24) hr) (by decide) (by decide) (Q := (own_Qint (own_ix (0 : Int32) [c0, c1, c2])) h0 n0) e0 ?_
        exact ⟨(by simp [own_ix, hc4, hc7, hc10]), N0, rfl⟩
      · refine OwnEnd.of (S' := s₁.setTop (mkF m 32 #[.val (.ref t), .val (.int 58), .val (.int 0), .val (.int 3), .val (.int 58), .val (.int 3)] [(.int (-1 : Int32))])) (fun _ kK => XS.icmpYes X0.here hx rfl (pc0 := 19) (pc' := 25) rfl (hb hby d24_19) rfl (feq ((own_lo58n (P1 c2 (by simp)).1 (P1 c2 (by simp)).2 hc10))).2 (by decide) (by decide) (XS.iinc X0.here hx rfl (hb hby d24_25) rfl (l' := #[.val (.ref t), .val (.int 58), .val (.int 0), .val (.int 3), .val (.int 58), .val (.int 3)]) rfl (XS.goto X0.here hx rfl (pc0 := 28) (pc' := 7) rfl (hb hby d24_28) (by decide) (by decide) (XS.iload X0.here hx rfl (hb hby d24_7) rfl (XS.iloadN X0.here hx rfl (hb hby d24_9) rfl (XS.icmpYes X0.here hx rfl (pc0 := 10) (pc' := 31) rfl (hb hby d24_10) rfl (flt ((by decide : ¬ ((3 : Int32) < (3 : Int32))))).2.1 (by decide) (by decide) (XS.iconst X0.here hx rfl (hb hby d24_31) kK))))))) ?_
        refine OwnEnd.ret X0 (v := (some (.int (-1 : Int32)))) (fun h => by rw [Bd.returns] at h; cases h) hlk (fun fs hr => retOut X0 hx Bd.returns rfl (Or.inl ⟨rfl, Or.inl rfl, _, rfl⟩) (hb hby d24_32) hr) (by decide) (by decide) (Q := (own_Qint (own_ix (0 : Int32) [c0, c1, c2])) h0 n0) e0 ?_
        exact ⟨(by simp [own_ix, hc4, hc7, hc10]), N0, rfl⟩

theorem own_efsi3 (m : MethodId) (t : Addr) : entryFrame m #[(.ref t), (.int 58), (.int 0), (.int 3)] 4 = mkF m 0 #[.val (.ref t), .val (.int 58), .val (.int 0), .val (.int 3)] [] := by first | (simp [entryFrame, mkF, argsToLocals, Value.category]; done) | rfl
set_option maxRecDepth 65536 in
set_option maxHeartbeats 40000000 in
theorem rmsi3 (l : Launch) (Z : State) (a0 : Array Value) (G : OwnG Z a0) (ws : List Jvm.Cond) (t : Addr) (kb : ClassId) (c0 : Int32) (c1 : Int32) (c2 : Int32) (h0 : Heap) (n0 : Nat) (O0 : Old Z n0 h0) (P0 : Arv Z h0 t kb .byte (3 : Int32) ((([c0, c1, c2] : List Int32).map (fun c => c.toInt8.toInt32)).map Value.int) (.int 0)) (P1 : ∀ c ∈ ([c0, c1, c2] : List Int32), ¬ c < (0 : Int32) ∧ ¬ (255 : Int32) < c) :
    MetFree l own_m20 (head1 (Jvm.Cond.code own_m20 jdk_43_method_22_code 4 (some .int) :: ws) ({ frames := 1, cells := 0, slots := 0, locals := 17 } : Room)) (fun a U => a = #[(.ref t), (.int 58), (.int 0), (.int 3)] ∧ Z.Warmed39 U.vm ∧ U.heap = h0) (fun _ _ _ _ _ => True) (fun _ U o U' => ∃ v L, o = .returned v ∧ (own_Qint (own_ix (0 : Int32) [c0, c1, c2])) h0 n0 v U'.heap L ∧ FrameEnd U o U' L ({ frames := 1, cells := 0, slots := 0, locals := 17 } : Room).cells ({ frames := 1, cells := 0, slots := 0, locals := 17 } : Room).slots) := by
  refine MetFree.of_bodySF (plainFor_of_name pn_2) hisR ?_
  intro p e s m args below meth cD s₁ Bd hml0 hP hK
  obtain ⟨rfl, hZ, hh⟩ := hP
  have hw := G.1
  have hx := Bd.exec
  have hby := Bd.bytes
  have hml : cD.maxLocals = 4 := hml0
  have hown : s.vm.findClass "java/lang/StringLatin1" = some m.cls := findClass_of_methodNamed Bd.named
  have hnm := (name_of_methodNamed Bd.named Bd.method).1
  have hlk := Bd.notSynchronized
  have X0 : Stand p l e ({ frames := 1, cells := 0, slots := 0, locals := 17 } : Room) s m #[(.ref t), (.int 58), (.int 0), (.int 3)] below meth cD s₁ [] 0 0 := Stand.of_body Bd
  have e0 : s₁.heap = h0 := by rw [← hh, Bd.state]; rfl
  have lt0 := own_ltN' P0.lt
  have K0 : Keep h0 h0 [] := Keep.refl h0 _
  have Z0 := own_old_le O0
  have N0 := Fr.nil n0
  refine OwnEnd.start (g' := (mkF m 0 #[.val (.ref t), .val (.int 58), .val (.int 0), .val (.int 3)] [])) (own_efsi3 m t) ?_
  refine OwnEnd.of (S' := s₁.setTop (mkF m 1 #[.val (.ref t), .val (.int 58), .val (.int 0), .val (.int 3)] [(.int 58)])) (fun _ kK => XS.iloadN X0.here hx rfl (hb hby d20_0) rfl kK) ?_
  obtain ⟨_, _, ⟨T1, L1, k1, n1⟩, -, X1, ⟨Lc1, hQ1, l1, y1, z1⟩, st1⟩ := Jvm.LawKit.callS X0 hx (y := own_m15) hown (mvT hZ (own_w G 67 rfl)) (mvT hZ (own_w G 68 rfl)) (mvT hZ (own_w G 65 rfl)) (mvT hZ (own_w G 69 rfl)) (by decide) (backOf (W := 0) (rmce l Z a0 G []  h0 n0 O0 ) hZ (own_w G 69 rfl) (own_w G 65 rfl) (by decide) (by decide)) (g := (mkF m 1 #[.val (.ref t), .val (.int 58), .val (.int 0), .val (.int 3)] [(.int 58)])) rfl (by rw [hml]; rfl) (argsL := [(.int 58)]) (rest := []) (lenOf pd_10 rfl) rfl (by show 2 * 0 + _ ≤ _; exact Nat.le_of_eq rfl) (hb hby d20_1) (fun _ _ => ⟨rfl, e0, (by decide : 0 + 0 ≤ _), (by decide : 0 + 0 ≤ _)⟩)
  dsimp only [Pt.U, Pt.locs, Pt.cells, Pt.slots] at X1 l1 y1 z1 st1 hQ1
  subst l1 y1 z1
  obtain ⟨rfl, N1q, eh1⟩ := hQ1
  have N1 := Fr.app N0 N1q
  refine OwnEnd.of (S' := T1.setTop (mkF m 4 #[.val (.ref t), .val (.int 58), .val (.int 0), .val (.int 3)] [(.int 1)])) st1 ?_
  refine OwnEnd.of (S' := T1.setTop (mkF m 11 #[.val (.ref t), .val (.int 58), .val (.int 0), .val (.int 3)] [(.int 0), (.int 0)])) (fun _ kK => XS.ifYes X1.here hx rfl (pc0 := 4) (pc' := 9) rfl (hb hby d20_4) rfl ((if0 _ _).trans (feq ((by decide : ¬ ((1 : Int32) = (0 : Int32))))).2) (by decide) (by decide) (XS.iloadN X1.here hx rfl (hb hby d20_9) rfl (XS.iconst X1.here hx rfl (hb hby d20_10) kK))) ?_
  obtain ⟨_, _, ⟨T2, L2, k2, n2⟩, -, X2, ⟨Lc2, hQ2, l2, y2, z2⟩, st2⟩ := Jvm.LawKit.callS X1 hx (y := own_m16) hown (mvT hZ (own_w G 70 rfl)) (mvT hZ (own_w G 71 rfl)) (mvT hZ (own_w G 72 rfl)) (mvT hZ (own_w G 73 rfl)) (by decide) (backOf (W := 0) (rmmx l Z a0 G []  h0 n0 O0 ) hZ (own_w G 73 rfl) (own_w G 72 rfl) (by decide) (by decide)) (g := (mkF m 11 #[.val (.ref t), .val (.int 58), .val (.int 0), .val (.int 3)] [(.int 0), (.int 0)])) rfl (by rw [hml]; rfl) (argsL := [(.int 0), (.int 0)]) (rest := []) (lenOf pd_11 rfl) rfl (by show 2 * 0 + _ ≤ _; exact Nat.le_of_eq rfl) (hb hby d20_11) (fun _ _ => ⟨rfl, eh1, (by decide : 0 + 0 ≤ _), (by decide : 0 + 0 ≤ _)⟩)
  dsimp only [Pt.U, Pt.locs, Pt.cells, Pt.slots] at X2 l2 y2 z2 st2 hQ2
  subst l2 y2 z2
  obtain ⟨rfl, N2q, eh2⟩ := hQ2
  have N2 := Fr.app N1 N2q
  refine OwnEnd.of (S' := T2.setTop (mkF m 14 #[.val (.ref t), .val (.int 58), .val (.int 0), .val (.int 3)] [(.int 0)])) st2 ?_
  refine OwnEnd.of (S' := T2.setTop (mkF m 17 #[.val (.ref t), .val (.int 58), .val (.int 0), .val (.int 3)] [(.ref t), (.int 3)])) (fun _ kK => XS.istoreN X2.here hx rfl (hb hby d20_14) rfl (l' := #[.val (.ref t), .val (.int 58), .val (.int 0), .val (.int 3)]) rfl (XS.iloadN X2.here hx rfl (hb hby d20_15) rfl (XS.aloadN X2.here hx rfl (hb hby d20_16) rfl rfl kK))) ?_
  obtain ⟨cl3, Ar3, q3, S3, N3', H3, G3⟩ := id P0
  refine OwnEnd.of (S' := T2.setTop (mkF m 18 #[.val (.ref t), .val (.int 58), .val (.int 0), .val (.int 3)] [(.int 3), (.int 3)])) (fun _ kK => X2.arraylength hx (by rw [eh2]; exact Ar3.1) (State.isArrayOf_alike hZ.alike Ar3.2.1) (g := (mkF m 17 #[.val (.ref t), .val (.int 58), .val (.int 0), .val (.int 3)] [(.ref t), (.int 3)])) rfl rfl (hb hby d20_17) _ (by rw [len_of S3 N3']; exact kK)) ?_
  obtain ⟨_, _, ⟨T4, L4, k4, n4⟩, -, X4, ⟨Lc4, hQ4, l4, y4, z4⟩, st4⟩ := Jvm.LawKit.callS X2 hx (y := own_m19) hown (mvT hZ (own_w G 74 rfl)) (mvT hZ (own_w G 75 rfl)) (mvT hZ (own_w G 72 rfl)) (mvT hZ (own_w G 76 rfl)) (by decide) (backOf (W := 0) (rmmn3 l Z a0 G []  h0 n0 O0 ) hZ (own_w G 76 rfl) (own_w G 72 rfl) (by decide) (by decide)) (g := (mkF m 18 #[.val (.ref t), .val (.int 58), .val (.int 0), .val (.int 3)] [(.int 3), (.int 3)])) rfl (by rw [hml]; rfl) (argsL := [(.int 3), (.int 3)]) (rest := []) (lenOf pd_11 rfl) rfl (by show 2 * 0 + _ ≤ _; exact Nat.le_of_eq rfl) (hb hby d20_18) (fun _ _ => ⟨rfl, eh2, (by decide : 0 + 0 ≤ _), (by decide : 0 + 0 ≤ _)⟩)
  dsimp only [Pt.U, Pt.locs, Pt.cells, Pt.slots] at X4 l4 y4 z4 st4 hQ4
  subst l4 y4 z4
  obtain ⟨rfl, N4q, eh4⟩ := hQ4
  have N4 := Fr.app N2 N4q
  refine OwnEnd.of (S' := T4.setTop (mkF m 21 #[.val (.ref t), .val (.int 58), .val (.int 0), .val (.int 3)] [(.int 3)])) st4 ?_
  refine OwnEnd.of (S' := T4.setTop (mkF m 33 #[.val (.ref t), .val (.int 58), .val (.int 0), .val (.int 3)] [(.int 3), (.int 0), (.int 58), (.ref t)])) (fun _ kK => XS.istoreN X4.here hx rfl (hb hby d20_21) rfl (l' := #[.val (.ref t), .val (.int 58), .val (.int 0), .val (.int 3)]) rfl (XS.iloadN X4.here hx rfl (hb hby d20_22) rfl (XS.iloadN X4.here hx rfl (hb hby d20_23) rfl (XS.icmpYes X4.here hx rfl (pc0 := 24) (pc' := 29) rfl (hb hby d20_24) rfl (tlt ((by decide : (0 : Int32) < (3 : Int32)))).1 (by decide) (by decide) (XS.aloadN X4.here hx rfl (hb hby d20_29) rfl rfl (XS.iloadN X4.here hx rfl (hb hby d20_30) rfl (XS.iloadN X4.here hx rfl (hb hby d20_31) rfl (XS.iloadN X4.here hx rfl (hb hby d20_32) rfl kK)))))))) ?_
  obtain ⟨_, _, ⟨T5, L5, k5, n5⟩, -, X5, ⟨Lc5, hQ5, l5, y5, z5⟩, st5⟩ := Jvm.LawKit.callS X4 hx (y := own_m24) hown (mvT hZ (own_w G 87 rfl)) (mvT hZ (own_w G 88 rfl)) (mvT hZ (own_w G 65 rfl)) (mvT hZ (own_w G 89 rfl)) (by decide) (backOf (W := 0) (rmix3 l Z a0 G [] t kb c0 c1 c2 h0 n0 O0 P0 P1) hZ (own_w G 89 rfl) (own_w G 65 rfl) (by decide) (by decide)) (g := (mkF m 33 #[.val (.ref t), .val (.int 58), .val (.int 0), .val (.int 3)] [(.int 3), (.int 0), (.int 58), (.ref t)])) rfl (by rw [hml]; rfl) (argsL := [(.ref t), (.int 58), (.int 0), (.int 3)]) (rest := []) (lenOf pd_13 rfl) rfl (by show 2 * 0 + _ ≤ _; exact Nat.le_of_eq rfl) (hb hby d20_33) (fun _ _ => ⟨rfl, eh4, (by decide : 0 + 0 ≤ _), (by decide : 0 + 0 ≤ _)⟩)
  dsimp only [Pt.U, Pt.locs, Pt.cells, Pt.slots] at X5 l5 y5 z5 st5 hQ5
  subst l5 y5 z5
  obtain ⟨rfl, N5q, eh5⟩ := hQ5
  have N5 := Fr.app N4 N5q
  refine OwnEnd.of (S' := T5.setTop (mkF m 36 #[.val (.ref t), .val (.int 58), .val (.int 0), .val (.int 3)] [(.int (own_ix (0 : Int32) [c0, c1, c2]))])) st5 ?_
  refine OwnEnd.ret X5 (v := (some (.int (own_ix (0 : Int32) [c0, c1, c2])))) (fun h => by rw [Bd.returns] at h; cases h) hlk (fun fs hr => retOut X5 hx Bd.returns rfl (Or.inl ⟨rfl, Or.inl rfl, _, rfl⟩) (hb hby d20_36) hr) (by decide) (by decide) (Q := (own_Qint (own_ix (0 : Int32) [c0, c1, c2])) h0 n0) eh5 ?_
  exact ⟨rfl, N5, rfl⟩

theorem own_efsj3 (m : MethodId) (x0 : Addr) : entryFrame m #[(.ref x0), (.int 58), (.int 0)] 3 = mkF m 0 #[.val (.ref x0), .val (.int 58), .val (.int 0)] [] := by first | (simp [entryFrame, mkF, argsToLocals, Value.category]; done) | rfl
set_option maxRecDepth 65536 in
set_option maxHeartbeats 40000000 in
theorem rmsj3 (l : Launch) (Z : State) (a0 : Array Value) (G : OwnG Z a0) (ws : List Jvm.Cond) (x0 : Addr) (t : Addr) (kb : ClassId) (c0 : Int32) (c1 : Int32) (c2 : Int32) (h0 : Heap) (n0 : Nat) (O0 : Old Z n0 h0) (P0 : Exa Z h0 x0 "java/lang/String") (P1 : Fld Z h0 x0 "java/lang/String" "value" "[B" (.ref t)) (P2 : Fld Z h0 x0 "java/lang/String" "coder" "B" (.int 0)) (P3 : Arv Z h0 t kb .byte (3 : Int32) ((([c0, c1, c2] : List Int32).map (fun c => c.toInt8.toInt32)).map Value.int) (.int 0)) (P4 : ∀ c ∈ ([c0, c1, c2] : List Int32), ¬ c < (0 : Int32) ∧ ¬ (255 : Int32) < c) :
    MetFree l own_m21 (head1 (Jvm.Cond.code own_m21 jdk_42_method_80_code 3 (some .int) :: ws) ({ frames := 2, cells := 0, slots := 0, locals := 32 } : Room)) (fun a U => a = #[(.ref x0), (.int 58), (.int 0)] ∧ Z.Warmed39 U.vm ∧ U.heap = h0) (fun _ _ _ _ _ => True) (fun _ U o U' => ∃ v L, o = .returned v ∧ (own_Qint (own_ix (0 : Int32) [c0, c1, c2])) h0 n0 v U'.heap L ∧ FrameEnd U o U' L ({ frames := 2, cells := 0, slots := 0, locals := 32 } : Room).cells ({ frames := 2, cells := 0, slots := 0, locals := 32 } : Room).slots) := by
  refine MetFree.of_bodySF (plainFor_of_name pn_0) hisR ?_
  intro p e s m args below meth cD s₁ Bd hml0 hP hK
  obtain ⟨rfl, hZ, hh⟩ := hP
  have hw := G.1
  have hx := Bd.exec
  have hby := Bd.bytes
  have hml : cD.maxLocals = 3 := hml0
  have hown : s.vm.findClass "java/lang/String" = some m.cls := findClass_of_methodNamed Bd.named
  have hnm := (name_of_methodNamed Bd.named Bd.method).1
  have hlk := Bd.notSynchronized
  have X0 : Stand p l e ({ frames := 2, cells := 0, slots := 0, locals := 32 } : Room) s m #[(.ref x0), (.int 58), (.int 0)] below meth cD s₁ [] 0 0 := Stand.of_body Bd
  have e0 : s₁.heap = h0 := by rw [← hh, Bd.state]; rfl
  have lt0 := own_ltN' P0.lt
  have lt1 := own_ltN' P1.lt
  have lt2 := own_ltN' P2.lt
  have lt3 := own_ltN' P3.lt
  have K0 : Keep h0 h0 [] := Keep.refl h0 _
  have Z0 := own_old_le O0
  have N0 := Fr.nil n0
  refine OwnEnd.start (g' := (mkF m 0 #[.val (.ref x0), .val (.int 58), .val (.int 0)] [])) (own_efsj3 m x0) ?_
  refine OwnEnd.of (S' := s₁.setTop (mkF m 1 #[.val (.ref x0), .val (.int 58), .val (.int 0)] [(.ref x0)])) (fun _ kK => XS.aloadN X0.here hx rfl (hb hby d21_0) rfl rfl kK) ?_
  obtain ⟨cq1, kq1, q1a, q1b, q1c⟩ := isOf hZ e0 P0
  obtain ⟨_, _, ⟨T1, L1, k1, n1⟩, -, X1, ⟨Lc1, hQ1, l1, y1, z1⟩, st1⟩ := X0.virtualBack hx (y := own_m4) (z := own_m4) hown (mvT hZ (own_w G 47 rfl)) (mvT hZ (own_w G 48 rfl)) (notFace_of_selects (args := #[]) (mvT hZ (own_w G 50 rfl))) (mvT hZ (own_w G 50 rfl)) (mvT hZ (own_w G 49 rfl)) (by decide) (backOf (W := 0) (rmil0 l Z a0 G [] x0 h0 n0 O0 P2) hZ (own_w G 51 rfl) (own_w G 8 rfl) (by decide) (by decide)) q1a q1c (g := (mkF m 1 #[.val (.ref x0), .val (.int 58), .val (.int 0)] [(.ref x0)])) rfl (by rw [hml]; rfl) (Steps.refl _) (argsL := []) (rest := []) (lenOf pd_4 rfl) rfl (by show 2 * 0 + _ ≤ _; exact Nat.le_of_eq rfl) (hb hby d21_1) (fun _ _ => ⟨rfl, e0, (by decide : 0 + 0 ≤ _), (by decide : 0 + 0 ≤ _)⟩)
  dsimp only [Pt.U, Pt.locs, Pt.cells, Pt.slots] at X1 l1 y1 z1 st1 hQ1
  subst l1 y1 z1
  obtain ⟨rfl, N1q, eh1⟩ := hQ1
  have N1 := Fr.app N0 N1q
  refine OwnEnd.tr (S' := T1.setTop (mkF m 4 #[.val (.ref x0), .val (.int 58), .val (.int 0)] [(.int 1)])) st1 ?_
  refine OwnEnd.of (S' := T1.setTop (mkF m 8 #[.val (.ref x0), .val (.int 58), .val (.int 0)] [(.ref x0)])) (fun _ kK => XS.ifNo X1.here hx rfl (hb hby d21_4) rfl ((if0 _ _).trans (feq ((by decide : ¬ ((1 : Int32) = (0 : Int32))))).1) (XS.aloadN X1.here hx rfl (hb hby d21_7) rfl rfl kK)) ?_
  obtain ⟨T2, X2, e2, st2⟩ := getF X1 hx hZ hown (host := "") (Or.inl (own_w G 25 rfl)) Via.refl eh1 P1 (g := (mkF m 8 #[.val (.ref x0), .val (.int 58), .val (.int 0)] [(.ref x0)])) rfl rfl (hb hby d21_8)
  refine OwnEnd.of (S' := T2.setTop (mkF m 11 #[.val (.ref x0), .val (.int 58), .val (.int 0)] [(.ref t)])) st2 ?_
  refine OwnEnd.of (S' := T2.setTop (mkF m 14 #[.val (.ref x0), .val (.int 58), .val (.int 0)] [(.ref x0), (.int 0), (.int 58), (.ref t)])) (fun _ kK => XS.iloadN X2.here hx rfl (hb hby d21_11) rfl (XS.iloadN X2.here hx rfl (hb hby d21_12) rfl (XS.aloadN X2.here hx rfl (hb hby d21_13) rfl rfl kK))) ?_
  obtain ⟨cq3, kq3, q3a, q3b, q3c⟩ := isOf hZ e2 P0
  obtain ⟨_, _, ⟨T3, L3, k3, n3⟩, -, X3, ⟨Lc3, hQ3, l3, y3, z3⟩, st3⟩ := X2.virtualBack hx (y := own_m6) (z := own_m6) hown (mvT hZ (own_w G 53 rfl)) (mvT hZ (own_w G 54 rfl)) (notFace_of_selects (args := #[]) (mvT hZ (own_w G 56 rfl))) (mvT hZ (own_w G 56 rfl)) (mvT hZ (own_w G 55 rfl)) (by decide) (backOf (W := 3) (rmln0 l Z a0 G [] x0 t kb (3 : Int32) ((([c0, c1, c2] : List Int32).map (fun c => c.toInt8.toInt32)).map Value.int) (.int 0) h0 n0 O0 P0 P1 P2 P3) hZ (own_w G 57 rfl) (own_w G 8 rfl) (by decide) (by decide)) q3a q3c (g := (mkF m 14 #[.val (.ref x0), .val (.int 58), .val (.int 0)] [(.ref x0), (.int 0), (.int 58), (.ref t)])) rfl (by rw [hml]; rfl) (Steps.refl _) (argsL := []) (rest := [(.int 0), (.int 58), (.ref t)]) (lenOf pd_12 rfl) rfl (by show 2 * 0 + _ ≤ _; exact Nat.le_of_eq rfl) (hb hby d21_14) (fun _ _ => ⟨rfl, e2, (by decide : 0 + 0 ≤ _), (by decide : 0 + 0 ≤ _)⟩)
  dsimp only [Pt.U, Pt.locs, Pt.cells, Pt.slots] at X3 l3 y3 z3 st3 hQ3
  subst l3 y3 z3
  obtain ⟨rfl, N3q, eh3⟩ := hQ3
  have N3 := Fr.app N1 N3q
  refine OwnEnd.tr (S' := T3.setTop (mkF m 17 #[.val (.ref x0), .val (.int 58), .val (.int 0)] [(.int 3), (.int 0), (.int 58), (.ref t)])) st3 ?_
  obtain ⟨_, _, ⟨T4, L4, k4, n4⟩, -, X4, ⟨Lc4, hQ4, l4, y4, z4⟩, st4⟩ := Jvm.LawKit.callS X3 hx (y := own_m20) hown (mvT hZ (own_w G 63 rfl)) (mvT hZ (own_w G 64 rfl)) (mvT hZ (own_w G 65 rfl)) (mvT hZ (own_w G 66 rfl)) (by decide) (backOf (W := 0) (rmsi3 l Z a0 G [] t kb c0 c1 c2 h0 n0 O0 P3 P4) hZ (own_w G 66 rfl) (own_w G 65 rfl) (by decide) (by decide)) (g := (mkF m 17 #[.val (.ref x0), .val (.int 58), .val (.int 0)] [(.int 3), (.int 0), (.int 58), (.ref t)])) rfl (by rw [hml]; rfl) (argsL := [(.ref t), (.int 58), (.int 0), (.int 3)]) (rest := []) (lenOf pd_13 rfl) rfl (by show 2 * 0 + _ ≤ _; exact Nat.le_of_eq rfl) (hb hby d21_17) (fun _ _ => ⟨rfl, eh3, (by decide : 0 + 0 ≤ _), (by decide : 0 + 0 ≤ _)⟩)
  dsimp only [Pt.U, Pt.locs, Pt.cells, Pt.slots] at X4 l4 y4 z4 st4 hQ4
  subst l4 y4 z4
  obtain ⟨rfl, N4q, eh4⟩ := hQ4
  have N4 := Fr.app N3 N4q
  refine OwnEnd.of (S' := T4.setTop (mkF m 20 #[.val (.ref x0), .val (.int 58), .val (.int 0)] [(.int (own_ix (0 : Int32) [c0, c1, c2]))])) st4 ?_
  refine OwnEnd.of (S' := T4.setTop (mkF m 36 #[.val (.ref x0), .val (.int 58), .val (.int 0)] [(.int (own_ix (0 : Int32) [c0, c1, c2]))])) (fun _ kK => XS.goto X4.here hx rfl (pc0 := 20) (pc' := 36) rfl (hb hby d21_20) (by decide) (by decide) kK) ?_
  refine OwnEnd.ret X4 (v := (some (.int (own_ix (0 : Int32) [c0, c1, c2])))) (fun h => by rw [Bd.returns] at h; cases h) hlk (fun fs hr => retOut X4 hx Bd.returns rfl (Or.inl ⟨rfl, Or.inl rfl, _, rfl⟩) (hb hby d21_36) hr) (by decide) (by decide) (Q := (own_Qint (own_ix (0 : Int32) [c0, c1, c2])) h0 n0) eh4 ?_
  exact ⟨rfl, N4, rfl⟩

theorem own_efsk3 (m : MethodId) (x0 : Addr) : entryFrame m #[(.ref x0), (.int 58)] 2 = mkF m 0 #[.val (.ref x0), .val (.int 58)] [] := by first | (simp [entryFrame, mkF, argsToLocals, Value.category]; done) | rfl
set_option maxRecDepth 65536 in
set_option maxHeartbeats 40000000 in
theorem rmsk3 (l : Launch) (Z : State) (a0 : Array Value) (G : OwnG Z a0) (ws : List Jvm.Cond) (x0 : Addr) (t : Addr) (kb : ClassId) (c0 : Int32) (c1 : Int32) (c2 : Int32) (h0 : Heap) (n0 : Nat) (O0 : Old Z n0 h0) (P0 : Exa Z h0 x0 "java/lang/String") (P1 : Fld Z h0 x0 "java/lang/String" "value" "[B" (.ref t)) (P2 : Fld Z h0 x0 "java/lang/String" "coder" "B" (.int 0)) (P3 : Arv Z h0 t kb .byte (3 : Int32) ((([c0, c1, c2] : List Int32).map (fun c => c.toInt8.toInt32)).map Value.int) (.int 0)) (P4 : ∀ c ∈ ([c0, c1, c2] : List Int32), ¬ c < (0 : Int32) ∧ ¬ (255 : Int32) < c) :
    MetFree l own_m22 (head1 (Jvm.Cond.code own_m22 jdk_42_method_79_code 2 (some .int) :: ws) ({ frames := 3, cells := 0, slots := 0, locals := 46 } : Room)) (fun a U => a = #[(.ref x0), (.int 58)] ∧ Z.Warmed39 U.vm ∧ U.heap = h0) (fun _ _ _ _ _ => True) (fun _ U o U' => ∃ v L, o = .returned v ∧ (own_Qint (own_ix (0 : Int32) [c0, c1, c2])) h0 n0 v U'.heap L ∧ FrameEnd U o U' L ({ frames := 3, cells := 0, slots := 0, locals := 46 } : Room).cells ({ frames := 3, cells := 0, slots := 0, locals := 46 } : Room).slots) := by
  refine MetFree.of_bodySF (plainFor_of_name pn_0) hisR ?_
  intro p e s m args below meth cD s₁ Bd hml0 hP hK
  obtain ⟨rfl, hZ, hh⟩ := hP
  have hw := G.1
  have hx := Bd.exec
  have hby := Bd.bytes
  have hml : cD.maxLocals = 2 := hml0
  have hown : s.vm.findClass "java/lang/String" = some m.cls := findClass_of_methodNamed Bd.named
  have hnm := (name_of_methodNamed Bd.named Bd.method).1
  have hlk := Bd.notSynchronized
  have X0 : Stand p l e ({ frames := 3, cells := 0, slots := 0, locals := 46 } : Room) s m #[(.ref x0), (.int 58)] below meth cD s₁ [] 0 0 := Stand.of_body Bd
  have e0 : s₁.heap = h0 := by rw [← hh, Bd.state]; rfl
  have lt0 := own_ltN' P0.lt
  have lt1 := own_ltN' P1.lt
  have lt2 := own_ltN' P2.lt
  have lt3 := own_ltN' P3.lt
  have K0 : Keep h0 h0 [] := Keep.refl h0 _
  have Z0 := own_old_le O0
  have N0 := Fr.nil n0
  refine OwnEnd.start (g' := (mkF m 0 #[.val (.ref x0), .val (.int 58)] [])) (own_efsk3 m x0) ?_
  refine OwnEnd.of (S' := s₁.setTop (mkF m 3 #[.val (.ref x0), .val (.int 58)] [(.int 0), (.int 58), (.ref x0)])) (fun _ kK => XS.aloadN X0.here hx rfl (hb hby d22_0) rfl rfl (XS.iloadN X0.here hx rfl (hb hby d22_1) rfl (XS.iconst X0.here hx rfl (hb hby d22_2) kK))) ?_
  obtain ⟨cq1, kq1, q1a, q1b, q1c⟩ := isOf hZ e0 P0
  obtain ⟨_, _, ⟨T1, L1, k1, n1⟩, -, X1, ⟨Lc1, hQ1, l1, y1, z1⟩, st1⟩ := X0.virtualBack hx (y := own_m21) (z := own_m21) hown (mvT hZ (own_w G 42 rfl)) (mvT hZ (own_w G 43 rfl)) (notFace_of_selects (args := #[]) (mvT hZ (own_w G 45 rfl))) (mvT hZ (own_w G 45 rfl)) (mvT hZ (own_w G 44 rfl)) (by decide) (backOf (W := 0) (rmsj3 l Z a0 G [] x0 t kb c0 c1 c2 h0 n0 O0 P0 P1 P2 P3 P4) hZ (own_w G 46 rfl) (own_w G 8 rfl) (by decide) (by decide)) q1a q1c (g := (mkF m 3 #[.val (.ref x0), .val (.int 58)] [(.int 0), (.int 58), (.ref x0)])) rfl (by rw [hml]; rfl) (Steps.refl _) (argsL := [(.int 58), (.int 0)]) (rest := []) (lenOf pd_11 rfl) rfl (by show 2 * 0 + _ ≤ _; exact Nat.le_of_eq rfl) (hb hby d22_3) (fun _ _ => ⟨rfl, e0, (by decide : 0 + 0 ≤ _), (by decide : 0 + 0 ≤ _)⟩)
  dsimp only [Pt.U, Pt.locs, Pt.cells, Pt.slots] at X1 l1 y1 z1 st1 hQ1
  subst l1 y1 z1
  obtain ⟨rfl, N1q, eh1⟩ := hQ1
  have N1 := Fr.app N0 N1q
  refine OwnEnd.tr (S' := T1.setTop (mkF m 6 #[.val (.ref x0), .val (.int 58)] [(.int (own_ix (0 : Int32) [c0, c1, c2]))])) st1 ?_
  refine OwnEnd.ret X1 (v := (some (.int (own_ix (0 : Int32) [c0, c1, c2])))) (fun h => by rw [Bd.returns] at h; cases h) hlk (fun fs hr => retOut X1 hx Bd.returns rfl (Or.inl ⟨rfl, Or.inl rfl, _, rfl⟩) (hb hby d22_6) hr) (by decide) (by decide) (Q := (own_Qint (own_ix (0 : Int32) [c0, c1, c2])) h0 n0) eh1 ?_
  exact ⟨rfl, N1, rfl⟩

theorem own_efia3 (m : MethodId) (x0 : Addr) : entryFrame m #[(.ref x0)] 4 = mkF m 0 #[.val (.ref x0), .unset, .unset, .unset] [] := by first | (simp [entryFrame, mkF, argsToLocals, Value.category]; done) | rfl
set_option maxRecDepth 65536 in
set_option maxHeartbeats 40000000 in
theorem rmia3 (l : Launch) (Z : State) (a0 : Array Value) (G : OwnG Z a0) (ws : List Jvm.Cond) (x0 : Addr) (t : Addr) (kb : ClassId) (c0 : Int32) (c1 : Int32) (c2 : Int32) (h0 : Heap) (n0 : Nat) (O0 : Old Z n0 h0) (P0 : Exa Z h0 x0 "java/lang/String") (P1 : Fld Z h0 x0 "java/lang/String" "value" "[B" (.ref t)) (P2 : Fld Z h0 x0 "java/lang/String" "coder" "B" (.int 0)) (P3 : Arv Z h0 t kb .byte (3 : Int32) ((([c0, c1, c2] : List Int32).map (fun c => c.toInt8.toInt32)).map Value.int) (.int 0)) (P4 : ∀ c ∈ ([c0, c1, c2] : List Int32), ¬ c < (0 : Int32) ∧ ¬ (255 : Int32) < c) :
    MetFree l own_m23 (head1 (Jvm.Cond.code own_m23 prog_6_method_2_code 4 (some .boolean) :: ws) ({ frames := 4, cells := 0, slots := 0, locals := 59 } : Room)) (fun a U => a = #[(.ref x0)] ∧ Z.Warmed39 U.vm ∧ U.heap = h0) (fun _ _ _ _ _ => True) (fun _ U o U' => ∃ v L, o = .returned v ∧ (own_Qint (own_abs [c0, c1, c2])) h0 n0 v U'.heap L ∧ FrameEnd U o U' L ({ frames := 4, cells := 0, slots := 0, locals := 59 } : Room).cells ({ frames := 4, cells := 0, slots := 0, locals := 59 } : Room).slots) := by
  refine MetFree.of_bodySF (plainFor_of_name pn_4) hisR ?_
  intro p e s m args below meth cD s₁ Bd hml0 hP hK
  obtain ⟨rfl, hZ, hh⟩ := hP
  have hw := G.1
  have hx := Bd.exec
  have hby := Bd.bytes
  have hml : cD.maxLocals = 4 := hml0
  have hown : s.vm.findClass "com/example/vett/vett/model/Iris" = some m.cls := findClass_of_methodNamed Bd.named
  have hnm := (name_of_methodNamed Bd.named Bd.method).1
  have hlk := Bd.notSynchronized
  have X0 : Stand p l e ({ frames := 4, cells := 0, slots := 0, locals := 59 } : Room) s m #[(.ref x0)] below meth cD s₁ [] 0 0 := Stand.of_body Bd
  have e0 : s₁.heap = h0 := by rw [← hh, Bd.state]; rfl
  have lt0 := own_ltN' P0.lt
  have lt1 := own_ltN' P1.lt
  have lt2 := own_ltN' P2.lt
  have lt3 := own_ltN' P3.lt
  have K0 : Keep h0 h0 [] := Keep.refl h0 _
  have Z0 := own_old_le O0
  have N0 := Fr.nil n0
  obtain ⟨aT0, aT1, aT2, ST0, ST1, ST2, TB0, TB1, TB2⟩ := own_tabs G
  refine OwnEnd.start (g' := (mkF m 0 #[.val (.ref x0), .unset, .unset, .unset] [])) (own_efia3 m x0) ?_
  refine OwnEnd.of (S' := s₁.setTop (mkF m 3 #[.val (.ref x0), .unset, .unset, .unset] [(.int 58), (.ref x0)])) (fun _ kK => XS.aloadN X0.here hx rfl (hb hby d23_0) rfl rfl (XS.bipush X0.here hx rfl (hb hby d23_1) kK)) ?_
  obtain ⟨cq1, kq1, q1a, q1b, q1c⟩ := isOf hZ e0 P0
  obtain ⟨_, _, ⟨T1, L1, k1, n1⟩, -, X1, ⟨Lc1, hQ1, l1, y1, z1⟩, st1⟩ := X0.virtualBack hx (y := own_m22) (z := own_m22) hown (mvT hZ (own_w G 37 rfl)) (mvT hZ (own_w G 38 rfl)) (notFace_of_selects (args := #[]) (mvT hZ (own_w G 40 rfl))) (mvT hZ (own_w G 40 rfl)) (mvT hZ (own_w G 39 rfl)) (by decide) (backOf (W := 0) (rmsk3 l Z a0 G [] x0 t kb c0 c1 c2 h0 n0 O0 P0 P1 P2 P3 P4) hZ (own_w G 41 rfl) (own_w G 8 rfl) (by decide) (by decide)) q1a q1c (g := (mkF m 3 #[.val (.ref x0), .unset, .unset, .unset] [(.int 58), (.ref x0)])) rfl (by rw [hml]; rfl) (Steps.refl _) (argsL := [(.int 58)]) (rest := []) (lenOf pd_14 rfl) rfl (by show 2 * 0 + _ ≤ _; exact Nat.le_of_eq rfl) (hb hby d23_3) (fun _ _ => ⟨rfl, e0, (by decide : 0 + 0 ≤ _), (by decide : 0 + 0 ≤ _)⟩)
  dsimp only [Pt.U, Pt.locs, Pt.cells, Pt.slots] at X1 l1 y1 z1 st1 hQ1
  subst l1 y1 z1
  obtain ⟨rfl, N1q, eh1⟩ := hQ1
  have N1 := Fr.app N0 N1q
  refine OwnEnd.tr (S' := T1.setTop (mkF m 6 #[.val (.ref x0), .unset, .unset, .unset] [(.int (own_ix (0 : Int32) [c0, c1, c2]))])) st1 ?_
  rcases own_ixc3 c0 c1 c2 with hxc | hxc | hxc | hxc
  · rw [hxc.1]
    refine OwnEnd.of (S' := T1.setTop (mkF m 63 #[.val (.ref x0), .val (.int 0), .val (.int 0), .val (.int 1)] [(.int 0)])) (fun _ kK => XS.istoreN X1.here hx rfl (hb hby d23_6) rfl (l' := #[.val (.ref x0), .val (.int 0), .unset, .unset]) rfl (XS.iloadN X1.here hx rfl (hb hby d23_7) rfl (XS.ifYes X1.here hx rfl (pc0 := 8) (pc' := 30) rfl (hb hby d23_8) rfl ((if0 _ _).trans (flt ((by decide : ¬ ((0 : Int32) < (0 : Int32))))).2.2.2) (by decide) (by decide) (XS.iconst X1.here hx rfl (hb hby d23_30) (XS.istoreN X1.here hx rfl (hb hby d23_31) rfl (l' := #[.val (.ref x0), .val (.int 0), .val (.int 0), .unset]) rfl (XS.iconst X1.here hx rfl (hb hby d23_32) (XS.istoreN X1.here hx rfl (hb hby d23_33) rfl (l' := #[.val (.ref x0), .val (.int 0), .val (.int 0), .val (.int 1)]) rfl (XS.iloadN X1.here hx rfl (hb hby d23_34) rfl (XS.ifYes X1.here hx rfl (pc0 := 35) (pc' := 62) rfl (hb hby d23_35) rfl ((if0 _ _).trans (teq ((by decide : (0 : Int32) = (0 : Int32)))).1) (by decide) (by decide) (XS.iloadN X1.here hx rfl (hb hby d23_62) rfl kK)))))))))) ?_
    refine OwnEnd.of (S' := T1.setTop (mkF m 94 #[.val (.ref x0), .val (.int 0), .val (.int 0), .val (.int 1)] [(.int 0)])) (fun _ kK => XS.iconst X1.here hx rfl (hb hby d23_63) (XS.iadd X1.here hx rfl (hb hby d23_64) rfl (XS.istoreN X1.here hx rfl (hb hby d23_65) rfl (l' := #[.val (.ref x0), .val (.int 0), .val (.int 0), .val (.int 1)]) rfl (XS.iloadN X1.here hx rfl (hb hby d23_66) rfl (XS.ifYes X1.here hx rfl (pc0 := 67) (pc' := 93) rfl (hb hby d23_67) rfl ((if0 _ _).trans (teq ((by decide : (0 : Int32) = (0 : Int32)))).1) (by decide) (by decide) (XS.iloadN X1.here hx rfl (hb hby d23_93) rfl kK)))))) ?_
    refine OwnEnd.ret X1 (v := (some (.int (nar .boolean (0 : Int32))))) (fun h => by rw [Bd.returns] at h; cases h) hlk (fun fs hr => retN X1 hx (t := .boolean) Bd.returns (by simp) (hb hby d23_94) hr) (by decide) (by decide) (Q := (own_Qint (own_abs [c0, c1, c2])) h0 n0) eh1 ?_
    exact ⟨(by show some (Value.int (nar .boolean (0 : Int32))) = _; simp [own_abs, own_sch, own_tail, nar, hxc]), N1, rfl⟩
  · rw [hxc.1]
    refine OwnEnd.of (S' := T1.setTop (mkF m 11 #[.val (.ref x0), .val (.int 1), .unset, .unset] [])) (fun _ kK => XS.istoreN X1.here hx rfl (hb hby d23_6) rfl (l' := #[.val (.ref x0), .val (.int 1), .unset, .unset]) rfl (XS.iloadN X1.here hx rfl (hb hby d23_7) rfl (XS.ifNo X1.here hx rfl (hb hby d23_8) rfl ((if0 _ _).trans (tlt ((by decide : (0 : Int32) < (1 : Int32)))).2.2.2) kK))) ?_
    obtain ⟨T2, X2, e2, st2⟩ := getS2 X1 hx hZ hown (host := "") (Or.inl (own_w G 96 rfl)) Via.refl eh1 (ST0.ext O0.2) (g := (mkF m 11 #[.val (.ref x0), .val (.int 1), .unset, .unset] [])) rfl (hb hby d23_11)
    refine OwnEnd.of (S' := T2.setTop (mkF m 14 #[.val (.ref x0), .val (.int 1), .unset, .unset] [(.ref aT0)])) st2 ?_
    refine OwnEnd.of (S' := T2.setTop (mkF m 17 #[.val (.ref x0), .val (.int 1), .unset, .unset] [(.int 0), (.ref x0), (.int 0), (.ref aT0)])) (fun _ kK => XS.iconst X2.here hx rfl (hb hby d23_14) (XS.aloadN X2.here hx rfl (hb hby d23_15) rfl rfl (XS.iconst X2.here hx rfl (hb hby d23_16) kK))) ?_
    obtain ⟨cq3, kq3, q3a, q3b, q3c⟩ := isOf hZ e2 P0
    obtain ⟨_, _, ⟨T3, L3, k3, n3⟩, -, X3, ⟨Lc3, hQ3, l3, y3, z3⟩, st3⟩ := X2.virtualBack hx (y := own_m8) (z := own_m8) hown (mvT hZ (own_w G 98 rfl)) (mvT hZ (own_w G 99 rfl)) (notFace_of_selects (args := #[]) (mvT hZ (own_w G 101 rfl))) (mvT hZ (own_w G 101 rfl)) (mvT hZ (own_w G 100 rfl)) (by decide) (backOf (W := 2) (rmcA0 l Z a0 G [] x0 t kb (3 : Int32) ((([c0, c1, c2] : List Int32).map (fun c => c.toInt8.toInt32)).map Value.int) (.int 0) (0 : Int32) c0 h0 n0 O0 P0 P1 P2 P3 (by decide : ¬ (0 : Int32) < (0 : Int32)) (by decide : (0 : Int32) < (3 : Int32)) (by rfl : ((([c0, c1, c2] : List Int32).map (fun c => c.toInt8.toInt32)).map Value.int).getD (0 : Int32).toNatClampNeg (.int 0) = (.int (StrChars.lo8 c0))) (P4 c0 (by simp))) hZ (own_w G 102 rfl) (own_w G 8 rfl) (by decide) (by decide)) q3a q3c (g := (mkF m 17 #[.val (.ref x0), .val (.int 1), .unset, .unset] [(.int 0), (.ref x0), (.int 0), (.ref aT0)])) rfl (by rw [hml]; rfl) (Steps.refl _) (argsL := [(.int 0)]) (rest := [(.int 0), (.ref aT0)]) (lenOf pd_15 rfl) rfl (by show 2 * 0 + _ ≤ _; exact Nat.le_of_eq rfl) (hb hby d23_17) (fun _ _ => ⟨rfl, e2, (by decide : 0 + 0 ≤ _), (by decide : 0 + 0 ≤ _)⟩)
    dsimp only [Pt.U, Pt.locs, Pt.cells, Pt.slots] at X3 l3 y3 z3 st3 hQ3
    subst l3 y3 z3
    obtain ⟨rfl, N3q, eh3⟩ := hQ3
    have N3 := Fr.app N1 N3q
    refine OwnEnd.tr (S' := T3.setTop (mkF m 20 #[.val (.ref x0), .val (.int 1), .unset, .unset] [(.int c0), (.int 0), (.ref aT0)])) st3 ?_
    obtain ⟨_, _, ⟨T4, L4, k4, n4⟩, -, X4, ⟨Lc4, hQ4, l4, y4, z4⟩, st4⟩ := Jvm.LawKit.callS X3 hx (y := own_m17) hown (mvT hZ (own_w G 114 rfl)) (mvT hZ (own_w G 115 rfl)) (mvT hZ (own_w G 35 rfl)) (mvT hZ (own_w G 116 rfl)) (by decide) (backOf (W := 0) (rmii l Z a0 G [] aT0 own_letter (0 : Int32) c0 h0 n0 O0 TB0 (P4 c0 (by simp)) own_nbl (by decide : nar .boolean (0 : Int32) = (0 : Int32))) hZ (own_w G 116 rfl) (own_w G 35 rfl) (by decide) (by decide)) (g := (mkF m 20 #[.val (.ref x0), .val (.int 1), .unset, .unset] [(.int c0), (.int 0), (.ref aT0)])) rfl (by rw [hml]; rfl) (argsL := [(.ref aT0), (.int 0), (.int c0)]) (rest := []) (lenOf pd_9 rfl) rfl (by show 2 * 0 + _ ≤ _; exact Nat.le_of_eq rfl) (hb hby d23_20) (fun _ _ => ⟨rfl, eh3, (by decide : 0 + 0 ≤ _), (by decide : 0 + 0 ≤ _)⟩)
    dsimp only [Pt.U, Pt.locs, Pt.cells, Pt.slots] at X4 l4 y4 z4 st4 hQ4
    subst l4 y4 z4
    obtain ⟨rfl, N4q, eh4⟩ := hQ4
    have N4 := Fr.app N3 N4q
    refine OwnEnd.of (S' := T4.setTop (mkF m 23 #[.val (.ref x0), .val (.int 1), .unset, .unset] [(.int (if c0 < (128 : Int32) then own_letter c0 else (0 : Int32)))])) st4 ?_
    rw [own_letter_tab (P4 c0 (by simp))]
    rcases own_letter01 c0 with hb5 | hb5
    · rw [hb5]
      refine OwnEnd.of (S' := T4.setTop (mkF m 65 #[.val (.ref x0), .val (.int 1), .val (.int 0), .val (.int 1)] [(.int 2)])) (fun _ kK => XS.ifYes X4.here hx rfl (pc0 := 23) (pc' := 30) rfl (hb hby d23_23) rfl ((if0 _ _).trans (teq ((by decide : (0 : Int32) = (0 : Int32)))).1) (by decide) (by decide) (XS.iconst X4.here hx rfl (hb hby d23_30) (XS.istoreN X4.here hx rfl (hb hby d23_31) rfl (l' := #[.val (.ref x0), .val (.int 1), .val (.int 0), .unset]) rfl (XS.iconst X4.here hx rfl (hb hby d23_32) (XS.istoreN X4.here hx rfl (hb hby d23_33) rfl (l' := #[.val (.ref x0), .val (.int 1), .val (.int 0), .val (.int 1)]) rfl (XS.iloadN X4.here hx rfl (hb hby d23_34) rfl (XS.ifYes X4.here hx rfl (pc0 := 35) (pc' := 62) rfl (hb hby d23_35) rfl ((if0 _ _).trans (teq ((by decide : (0 : Int32) = (0 : Int32)))).1) (by decide) (by decide) (XS.iloadN X4.here hx rfl (hb hby d23_62) rfl (XS.iconst X4.here hx rfl (hb hby d23_63) (XS.iadd X4.here hx rfl (hb hby d23_64) rfl kK)))))))))) ?_
      refine OwnEnd.of (S' := T4.setTop (mkF m 94 #[.val (.ref x0), .val (.int 1), .val (.int 0), .val (.int 2)] [(.int 0)])) (fun _ kK => XS.istoreN X4.here hx rfl (hb hby d23_65) rfl (l' := #[.val (.ref x0), .val (.int 1), .val (.int 0), .val (.int 2)]) rfl (XS.iloadN X4.here hx rfl (hb hby d23_66) rfl (XS.ifYes X4.here hx rfl (pc0 := 67) (pc' := 93) rfl (hb hby d23_67) rfl ((if0 _ _).trans (teq ((by decide : (0 : Int32) = (0 : Int32)))).1) (by decide) (by decide) (XS.iloadN X4.here hx rfl (hb hby d23_93) rfl kK)))) ?_
      refine OwnEnd.ret X4 (v := (some (.int (nar .boolean (0 : Int32))))) (fun h => by rw [Bd.returns] at h; cases h) hlk (fun fs hr => retN X4 hx (t := .boolean) Bd.returns (by simp) (hb hby d23_94) hr) (by decide) (by decide) (Q := (own_Qint (own_abs [c0, c1, c2])) h0 n0) eh4 ?_
      exact ⟨(by show some (Value.int (nar .boolean (0 : Int32))) = _; simp [own_abs, own_sch, own_tail, nar, hxc, hb5]), N4, rfl⟩
    · rw [hb5]
      refine OwnEnd.of (S' := T4.setTop (mkF m 40 #[.val (.ref x0), .val (.int 1), .val (.int 1), .val (.int 1)] [(.int 1), (.int 1)])) (fun _ kK => XS.ifNo X4.here hx rfl (hb hby d23_23) rfl ((if0 _ _).trans (feq ((by decide : ¬ ((1 : Int32) = (0 : Int32))))).1) (XS.iconst X4.here hx rfl (hb hby d23_26) (XS.goto X4.here hx rfl (pc0 := 27) (pc' := 31) rfl (hb hby d23_27) (by decide) (by decide) (XS.istoreN X4.here hx rfl (hb hby d23_31) rfl (l' := #[.val (.ref x0), .val (.int 1), .val (.int 1), .unset]) rfl (XS.iconst X4.here hx rfl (hb hby d23_32) (XS.istoreN X4.here hx rfl (hb hby d23_33) rfl (l' := #[.val (.ref x0), .val (.int 1), .val (.int 1), .val (.int 1)]) rfl (XS.iloadN X4.here hx rfl (hb hby d23_34) rfl (XS.ifNo X4.here hx rfl (hb hby d23_35) rfl ((if0 _ _).trans (feq ((by decide : ¬ ((1 : Int32) = (0 : Int32))))).1) (XS.iloadN X4.here hx rfl (hb hby d23_38) rfl (XS.iloadN X4.here hx rfl (hb hby d23_39) rfl kK)))))))))) ?_
      refine OwnEnd.of (S' := T4.setTop (mkF m 72 #[.val (.ref x0), .val (.int 1), .val (.int 1), .val (.int 2)] [(.ref x0), (.int 2)])) (fun _ kK => XS.icmpYes X4.here hx rfl (pc0 := 40) (pc' := 62) rfl (hb hby d23_40) rfl (flt ((by decide : ¬ ((1 : Int32) < (1 : Int32))))).2.1 (by decide) (by decide) (XS.iloadN X4.here hx rfl (hb hby d23_62) rfl (XS.iconst X4.here hx rfl (hb hby d23_63) (XS.iadd X4.here hx rfl (hb hby d23_64) rfl (XS.istoreN X4.here hx rfl (hb hby d23_65) rfl (l' := #[.val (.ref x0), .val (.int 1), .val (.int 1), .val (.int 2)]) rfl (XS.iloadN X4.here hx rfl (hb hby d23_66) rfl (XS.ifNo X4.here hx rfl (hb hby d23_67) rfl ((if0 _ _).trans (feq ((by decide : ¬ ((1 : Int32) = (0 : Int32))))).1) (XS.iloadN X4.here hx rfl (hb hby d23_70) rfl (XS.aloadN X4.here hx rfl (hb hby d23_71) rfl rfl kK))))))))) ?_
      obtain ⟨cq6, kq6, q6a, q6b, q6c⟩ := isOf hZ eh4 P0
      obtain ⟨_, _, ⟨T6, L6, k6, n6⟩, -, X6, ⟨Lc6, hQ6, l6, y6, z6⟩, st6⟩ := X4.virtualBack hx (y := own_m6) (z := own_m6) hown (mvT hZ (own_w G 120 rfl)) (mvT hZ (own_w G 54 rfl)) (notFace_of_selects (args := #[]) (mvT hZ (own_w G 56 rfl))) (mvT hZ (own_w G 56 rfl)) (mvT hZ (own_w G 55 rfl)) (by decide) (backOf (W := 1) (rmln0 l Z a0 G [] x0 t kb (3 : Int32) ((([c0, c1, c2] : List Int32).map (fun c => c.toInt8.toInt32)).map Value.int) (.int 0) h0 n0 O0 P0 P1 P2 P3) hZ (own_w G 57 rfl) (own_w G 8 rfl) (by decide) (by decide)) q6a q6c (g := (mkF m 72 #[.val (.ref x0), .val (.int 1), .val (.int 1), .val (.int 2)] [(.ref x0), (.int 2)])) rfl (by rw [hml]; rfl) (Steps.refl _) (argsL := []) (rest := [(.int 2)]) (lenOf pd_12 rfl) rfl (by show 2 * 0 + _ ≤ _; exact Nat.le_of_eq rfl) (hb hby d23_72) (fun _ _ => ⟨rfl, eh4, (by decide : 0 + 0 ≤ _), (by decide : 0 + 0 ≤ _)⟩)
      dsimp only [Pt.U, Pt.locs, Pt.cells, Pt.slots] at X6 l6 y6 z6 st6 hQ6
      subst l6 y6 z6
      obtain ⟨rfl, N6q, eh6⟩ := hQ6
      have N6 := Fr.app N4 N6q
      refine OwnEnd.tr (S' := T6.setTop (mkF m 75 #[.val (.ref x0), .val (.int 1), .val (.int 1), .val (.int 2)] [(.int 3), (.int 2)])) st6 ?_
      refine OwnEnd.of (S' := T6.setTop (mkF m 80 #[.val (.ref x0), .val (.int 1), .val (.int 1), .val (.int 2)] [(.int 2), (.ref x0)])) (fun _ kK => XS.icmpNo X6.here hx rfl (hb hby d23_75) rfl (tlt ((by decide : (2 : Int32) < (3 : Int32)))).2.1 (XS.aloadN X6.here hx rfl (hb hby d23_78) rfl rfl (XS.iloadN X6.here hx rfl (hb hby d23_79) rfl kK))) ?_
      obtain ⟨cq7, kq7, q7a, q7b, q7c⟩ := isOf hZ eh6 P0
      obtain ⟨_, _, ⟨T7, L7, k7, n7⟩, -, X7, ⟨Lc7, hQ7, l7, y7, z7⟩, st7⟩ := X6.virtualBack hx (y := own_m8) (z := own_m8) hown (mvT hZ (own_w G 98 rfl)) (mvT hZ (own_w G 99 rfl)) (notFace_of_selects (args := #[]) (mvT hZ (own_w G 101 rfl))) (mvT hZ (own_w G 101 rfl)) (mvT hZ (own_w G 100 rfl)) (by decide) (backOf (W := 0) (rmcA0 l Z a0 G [] x0 t kb (3 : Int32) ((([c0, c1, c2] : List Int32).map (fun c => c.toInt8.toInt32)).map Value.int) (.int 0) (2 : Int32) c2 h0 n0 O0 P0 P1 P2 P3 (by decide : ¬ (2 : Int32) < (0 : Int32)) (by decide : (2 : Int32) < (3 : Int32)) (by rfl : ((([c0, c1, c2] : List Int32).map (fun c => c.toInt8.toInt32)).map Value.int).getD (2 : Int32).toNatClampNeg (.int 0) = (.int (StrChars.lo8 c2))) (P4 c2 (by simp))) hZ (own_w G 102 rfl) (own_w G 8 rfl) (by decide) (by decide)) q7a q7c (g := (mkF m 80 #[.val (.ref x0), .val (.int 1), .val (.int 1), .val (.int 2)] [(.int 2), (.ref x0)])) rfl (by rw [hml]; rfl) (Steps.refl _) (argsL := [(.int 2)]) (rest := []) (lenOf pd_15 rfl) rfl (by show 2 * 0 + _ ≤ _; exact Nat.le_of_eq rfl) (hb hby d23_80) (fun _ _ => ⟨rfl, eh6, (by decide : 0 + 0 ≤ _), (by decide : 0 + 0 ≤ _)⟩)
      dsimp only [Pt.U, Pt.locs, Pt.cells, Pt.slots] at X7 l7 y7 z7 st7 hQ7
      subst l7 y7 z7
      obtain ⟨rfl, N7q, eh7⟩ := hQ7
      have N7 := Fr.app N6 N7q
      refine OwnEnd.tr (S' := T7.setTop (mkF m 83 #[.val (.ref x0), .val (.int 1), .val (.int 1), .val (.int 2)] [(.int c2)])) st7 ?_
      obtain ⟨_, _, ⟨T8, L8, k8, n8⟩, -, X8, ⟨Lc8, hQ8, l8, y8, z8⟩, st8⟩ := Jvm.LawKit.callS X7 hx (y := own_m18) hown (mvT hZ (own_w G 121 rfl)) (mvT hZ (own_w G 122 rfl)) (mvT hZ (own_w G 35 rfl)) (mvT hZ (own_w G 123 rfl)) (by decide) (backOf (W := 0) (rmim l Z a0 G [] c2 h0 n0 O0 (P4 c2 (by simp))) hZ (own_w G 123 rfl) (own_w G 35 rfl) (by decide) (by decide)) (g := (mkF m 83 #[.val (.ref x0), .val (.int 1), .val (.int 1), .val (.int 2)] [(.int c2)])) rfl (by rw [hml]; rfl) (argsL := [(.int c2)]) (rest := []) (lenOf pd_6 rfl) rfl (by show 2 * 0 + _ ≤ _; exact Nat.le_of_eq rfl) (hb hby d23_83) (fun _ _ => ⟨rfl, eh7, (by decide : 0 + 0 ≤ _), (by decide : 0 + 0 ≤ _)⟩)
      dsimp only [Pt.U, Pt.locs, Pt.cells, Pt.slots] at X8 l8 y8 z8 st8 hQ8
      subst l8 y8 z8
      obtain ⟨rfl, N8q, eh8⟩ := hQ8
      have N8 := Fr.app N7 N8q
      refine OwnEnd.of (S' := T8.setTop (mkF m 86 #[.val (.ref x0), .val (.int 1), .val (.int 1), .val (.int 2)] [(.int (own_hold c2))])) st8 ?_
      rcases own_hold01 c2 with hb9 | hb9
      · rw [hb9]
        refine OwnEnd.of (S' := T8.setTop (mkF m 94 #[.val (.ref x0), .val (.int 1), .val (.int 0), .val (.int 3)] [(.int 0)])) (fun _ kK => XS.istoreN X8.here hx rfl (hb hby d23_86) rfl (l' := #[.val (.ref x0), .val (.int 1), .val (.int 0), .val (.int 2)]) rfl (XS.iinc X8.here hx rfl (hb hby d23_87) rfl (l' := #[.val (.ref x0), .val (.int 1), .val (.int 0), .val (.int 3)]) rfl (XS.goto X8.here hx rfl (pc0 := 90) (pc' := 66) rfl (hb hby d23_90) (by decide) (by decide) (XS.iloadN X8.here hx rfl (hb hby d23_66) rfl (XS.ifYes X8.here hx rfl (pc0 := 67) (pc' := 93) rfl (hb hby d23_67) rfl ((if0 _ _).trans (teq ((by decide : (0 : Int32) = (0 : Int32)))).1) (by decide) (by decide) (XS.iloadN X8.here hx rfl (hb hby d23_93) rfl kK)))))) ?_
        refine OwnEnd.ret X8 (v := (some (.int (nar .boolean (0 : Int32))))) (fun h => by rw [Bd.returns] at h; cases h) hlk (fun fs hr => retN X8 hx (t := .boolean) Bd.returns (by simp) (hb hby d23_94) hr) (by decide) (by decide) (Q := (own_Qint (own_abs [c0, c1, c2])) h0 n0) eh8 ?_
        exact ⟨(by show some (Value.int (nar .boolean (0 : Int32))) = _; simp [own_abs, own_sch, own_tail, nar, hxc, hb5, hb9]), N8, rfl⟩
      · rw [hb9]
        refine OwnEnd.of (S' := T8.setTop (mkF m 72 #[.val (.ref x0), .val (.int 1), .val (.int 1), .val (.int 3)] [(.ref x0), (.int 3)])) (fun _ kK => XS.istoreN X8.here hx rfl (hb hby d23_86) rfl (l' := #[.val (.ref x0), .val (.int 1), .val (.int 1), .val (.int 2)]) rfl (XS.iinc X8.here hx rfl (hb hby d23_87) rfl (l' := #[.val (.ref x0), .val (.int 1), .val (.int 1), .val (.int 3)]) rfl (XS.goto X8.here hx rfl (pc0 := 90) (pc' := 66) rfl (hb hby d23_90) (by decide) (by decide) (XS.iloadN X8.here hx rfl (hb hby d23_66) rfl (XS.ifNo X8.here hx rfl (hb hby d23_67) rfl ((if0 _ _).trans (feq ((by decide : ¬ ((1 : Int32) = (0 : Int32))))).1) (XS.iloadN X8.here hx rfl (hb hby d23_70) rfl (XS.aloadN X8.here hx rfl (hb hby d23_71) rfl rfl kK))))))) ?_
        obtain ⟨cq10, kq10, q10a, q10b, q10c⟩ := isOf hZ eh8 P0
        obtain ⟨_, _, ⟨T10, L10, k10, n10⟩, -, X10, ⟨Lc10, hQ10, l10, y10, z10⟩, st10⟩ := X8.virtualBack hx (y := own_m6) (z := own_m6) hown (mvT hZ (own_w G 120 rfl)) (mvT hZ (own_w G 54 rfl)) (notFace_of_selects (args := #[]) (mvT hZ (own_w G 56 rfl))) (mvT hZ (own_w G 56 rfl)) (mvT hZ (own_w G 55 rfl)) (by decide) (backOf (W := 1) (rmln0 l Z a0 G [] x0 t kb (3 : Int32) ((([c0, c1, c2] : List Int32).map (fun c => c.toInt8.toInt32)).map Value.int) (.int 0) h0 n0 O0 P0 P1 P2 P3) hZ (own_w G 57 rfl) (own_w G 8 rfl) (by decide) (by decide)) q10a q10c (g := (mkF m 72 #[.val (.ref x0), .val (.int 1), .val (.int 1), .val (.int 3)] [(.ref x0), (.int 3)])) rfl (by rw [hml]; rfl) (Steps.refl _) (argsL := []) (rest := [(.int 3)]) (lenOf pd_12 rfl) rfl (by show 2 * 0 + _ ≤ _; exact Nat.le_of_eq rfl) (hb hby d23_72) (fun _ _ => ⟨rfl, eh8, (by decide : 0 + 0 ≤ _), (by decide : 0 + 0 ≤ _)⟩)
        dsimp only [Pt.U, Pt.locs, Pt.cells, Pt.slots] at X10 l10 y10 z10 st10 hQ10
        subst l10 y10 z10
        obtain ⟨rfl, N10q, eh10⟩ := hQ10
        have N10 := Fr.app N8 N10q
        refine OwnEnd.tr (S' := T10.setTop (mkF m 75 #[.val (.ref x0), .val (.int 1), .val (.int 1), .val (.int 3)] [(.int 3), (.int 3)])) st10 ?_
        refine OwnEnd.of (S' := T10.setTop (mkF m 94 #[.val (.ref x0), .val (.int 1), .val (.int 1), .val (.int 3)] [(.int 1)])) (fun _ kK => XS.icmpYes X10.here hx rfl (pc0 := 75) (pc' := 93) rfl (hb hby d23_75) rfl (flt ((by decide : ¬ ((3 : Int32) < (3 : Int32))))).2.1 (by decide) (by decide) (XS.iloadN X10.here hx rfl (hb hby d23_93) rfl kK)) ?_
        refine OwnEnd.ret X10 (v := (some (.int (nar .boolean (1 : Int32))))) (fun h => by rw [Bd.returns] at h; cases h) hlk (fun fs hr => retN X10 hx (t := .boolean) Bd.returns (by simp) (hb hby d23_94) hr) (by decide) (by decide) (Q := (own_Qint (own_abs [c0, c1, c2])) h0 n0) eh10 ?_
        exact ⟨(by show some (Value.int (nar .boolean (1 : Int32))) = _; simp [own_abs, own_sch, own_tail, nar, hxc, hb5, hb9]), N10, rfl⟩
  · rw [hxc.1]
    refine OwnEnd.of (S' := T1.setTop (mkF m 11 #[.val (.ref x0), .val (.int 2), .unset, .unset] [])) (fun _ kK => XS.istoreN X1.here hx rfl (hb hby d23_6) rfl (l' := #[.val (.ref x0), .val (.int 2), .unset, .unset]) rfl (XS.iloadN X1.here hx rfl (hb hby d23_7) rfl (XS.ifNo X1.here hx rfl (hb hby d23_8) rfl ((if0 _ _).trans (tlt ((by decide : (0 : Int32) < (2 : Int32)))).2.2.2) kK))) ?_
    obtain ⟨T11, X11, e11, st11⟩ := getS2 X1 hx hZ hown (host := "") (Or.inl (own_w G 96 rfl)) Via.refl eh1 (ST0.ext O0.2) (g := (mkF m 11 #[.val (.ref x0), .val (.int 2), .unset, .unset] [])) rfl (hb hby d23_11)
    refine OwnEnd.of (S' := T11.setTop (mkF m 14 #[.val (.ref x0), .val (.int 2), .unset, .unset] [(.ref aT0)])) st11 ?_
    refine OwnEnd.of (S' := T11.setTop (mkF m 17 #[.val (.ref x0), .val (.int 2), .unset, .unset] [(.int 0), (.ref x0), (.int 0), (.ref aT0)])) (fun _ kK => XS.iconst X11.here hx rfl (hb hby d23_14) (XS.aloadN X11.here hx rfl (hb hby d23_15) rfl rfl (XS.iconst X11.here hx rfl (hb hby d23_16) kK))) ?_
    obtain ⟨cq12, kq12, q12a, q12b, q12c⟩ := isOf hZ e11 P0
    obtain ⟨_, _, ⟨T12, L12, k12, n12⟩, -, X12, ⟨Lc12, hQ12, l12, y12, z12⟩, st12⟩ := X11.virtualBack hx (y := own_m8) (z := own_m8) hown (mvT hZ (own_w G 98 rfl)) (mvT hZ (own_w G 99 rfl)) (notFace_of_selects (args := #[]) (mvT hZ (own_w G 101 rfl))) (mvT hZ (own_w G 101 rfl)) (mvT hZ (own_w G 100 rfl)) (by decide) (backOf (W := 2) (rmcA0 l Z a0 G [] x0 t kb (3 : Int32) ((([c0, c1, c2] : List Int32).map (fun c => c.toInt8.toInt32)).map Value.int) (.int 0) (0 : Int32) c0 h0 n0 O0 P0 P1 P2 P3 (by decide : ¬ (0 : Int32) < (0 : Int32)) (by decide : (0 : Int32) < (3 : Int32)) (by rfl : ((([c0, c1, c2] : List Int32).map (fun c => c.toInt8.toInt32)).map Value.int).getD (0 : Int32).toNatClampNeg (.int 0) = (.int (StrChars.lo8 c0))) (P4 c0 (by simp))) hZ (own_w G 102 rfl) (own_w G 8 rfl) (by decide) (by decide)) q12a q12c (g := (mkF m 17 #[.val (.ref x0), .val (.int 2), .unset, .unset] [(.int 0), (.ref x0), (.int 0), (.ref aT0)])) rfl (by rw [hml]; rfl) (Steps.refl _) (argsL := [(.int 0)]) (rest := [(.int 0), (.ref aT0)]) (lenOf pd_15 rfl) rfl (by show 2 * 0 + _ ≤ _; exact Nat.le_of_eq rfl) (hb hby d23_17) (fun _ _ => ⟨rfl, e11, (by decide : 0 + 0 ≤ _), (by decide : 0 + 0 ≤ _)⟩)
    dsimp only [Pt.U, Pt.locs, Pt.cells, Pt.slots] at X12 l12 y12 z12 st12 hQ12
    subst l12 y12 z12
    obtain ⟨rfl, N12q, eh12⟩ := hQ12
    have N12 := Fr.app N1 N12q
    refine OwnEnd.tr (S' := T12.setTop (mkF m 20 #[.val (.ref x0), .val (.int 2), .unset, .unset] [(.int c0), (.int 0), (.ref aT0)])) st12 ?_
    obtain ⟨_, _, ⟨T13, L13, k13, n13⟩, -, X13, ⟨Lc13, hQ13, l13, y13, z13⟩, st13⟩ := Jvm.LawKit.callS X12 hx (y := own_m17) hown (mvT hZ (own_w G 114 rfl)) (mvT hZ (own_w G 115 rfl)) (mvT hZ (own_w G 35 rfl)) (mvT hZ (own_w G 116 rfl)) (by decide) (backOf (W := 0) (rmii l Z a0 G [] aT0 own_letter (0 : Int32) c0 h0 n0 O0 TB0 (P4 c0 (by simp)) own_nbl (by decide : nar .boolean (0 : Int32) = (0 : Int32))) hZ (own_w G 116 rfl) (own_w G 35 rfl) (by decide) (by decide)) (g := (mkF m 20 #[.val (.ref x0), .val (.int 2), .unset, .unset] [(.int c0), (.int 0), (.ref aT0)])) rfl (by rw [hml]; rfl) (argsL := [(.ref aT0), (.int 0), (.int c0)]) (rest := []) (lenOf pd_9 rfl) rfl (by show 2 * 0 + _ ≤ _; exact Nat.le_of_eq rfl) (hb hby d23_20) (fun _ _ => ⟨rfl, eh12, (by decide : 0 + 0 ≤ _), (by decide : 0 + 0 ≤ _)⟩)
    dsimp only [Pt.U, Pt.locs, Pt.cells, Pt.slots] at X13 l13 y13 z13 st13 hQ13
    subst l13 y13 z13
    obtain ⟨rfl, N13q, eh13⟩ := hQ13
    have N13 := Fr.app N12 N13q
    refine OwnEnd.of (S' := T13.setTop (mkF m 23 #[.val (.ref x0), .val (.int 2), .unset, .unset] [(.int (if c0 < (128 : Int32) then own_letter c0 else (0 : Int32)))])) st13 ?_
    rw [own_letter_tab (P4 c0 (by simp))]
    rcases own_letter01 c0 with hb14 | hb14
    · rw [hb14]
      refine OwnEnd.of (S' := T13.setTop (mkF m 65 #[.val (.ref x0), .val (.int 2), .val (.int 0), .val (.int 1)] [(.int 3)])) (fun _ kK => XS.ifYes X13.here hx rfl (pc0 := 23) (pc' := 30) rfl (hb hby d23_23) rfl ((if0 _ _).trans (teq ((by decide : (0 : Int32) = (0 : Int32)))).1) (by decide) (by decide) (XS.iconst X13.here hx rfl (hb hby d23_30) (XS.istoreN X13.here hx rfl (hb hby d23_31) rfl (l' := #[.val (.ref x0), .val (.int 2), .val (.int 0), .unset]) rfl (XS.iconst X13.here hx rfl (hb hby d23_32) (XS.istoreN X13.here hx rfl (hb hby d23_33) rfl (l' := #[.val (.ref x0), .val (.int 2), .val (.int 0), .val (.int 1)]) rfl (XS.iloadN X13.here hx rfl (hb hby d23_34) rfl (XS.ifYes X13.here hx rfl (pc0 := 35) (pc' := 62) rfl (hb hby d23_35) rfl ((if0 _ _).trans (teq ((by decide : (0 : Int32) = (0 : Int32)))).1) (by decide) (by decide) (XS.iloadN X13.here hx rfl (hb hby d23_62) rfl (XS.iconst X13.here hx rfl (hb hby d23_63) (XS.iadd X13.here hx rfl (hb hby d23_64) rfl kK)))))))))) ?_
      refine OwnEnd.of (S' := T13.setTop (mkF m 94 #[.val (.ref x0), .val (.int 2), .val (.int 0), .val (.int 3)] [(.int 0)])) (fun _ kK => XS.istoreN X13.here hx rfl (hb hby d23_65) rfl (l' := #[.val (.ref x0), .val (.int 2), .val (.int 0), .val (.int 3)]) rfl (XS.iloadN X13.here hx rfl (hb hby d23_66) rfl (XS.ifYes X13.here hx rfl (pc0 := 67) (pc' := 93) rfl (hb hby d23_67) rfl ((if0 _ _).trans (teq ((by decide : (0 : Int32) = (0 : Int32)))).1) (by decide) (by decide) (XS.iloadN X13.here hx rfl (hb hby d23_93) rfl kK)))) ?_
      refine OwnEnd.ret X13 (v := (some (.int (nar .boolean (0 : Int32))))) (fun h => by rw [Bd.returns] at h; cases h) hlk (fun fs hr => retN X13 hx (t := .boolean) Bd.returns (by simp) (hb hby d23_94) hr) (by decide) (by decide) (Q := (own_Qint (own_abs [c0, c1, c2])) h0 n0) eh13 ?_
      exact ⟨(by show some (Value.int (nar .boolean (0 : Int32))) = _; simp [own_abs, own_sch, own_tail, nar, hxc, hb14]), N13, rfl⟩
    · rw [hb14]
      refine OwnEnd.of (S' := T13.setTop (mkF m 40 #[.val (.ref x0), .val (.int 2), .val (.int 1), .val (.int 1)] [(.int 2), (.int 1)])) (fun _ kK => XS.ifNo X13.here hx rfl (hb hby d23_23) rfl ((if0 _ _).trans (feq ((by decide : ¬ ((1 : Int32) = (0 : Int32))))).1) (XS.iconst X13.here hx rfl (hb hby d23_26) (XS.goto X13.here hx rfl (pc0 := 27) (pc' := 31) rfl (hb hby d23_27) (by decide) (by decide) (XS.istoreN X13.here hx rfl (hb hby d23_31) rfl (l' := #[.val (.ref x0), .val (.int 2), .val (.int 1), .unset]) rfl (XS.iconst X13.here hx rfl (hb hby d23_32) (XS.istoreN X13.here hx rfl (hb hby d23_33) rfl (l' := #[.val (.ref x0), .val (.int 2), .val (.int 1), .val (.int 1)]) rfl (XS.iloadN X13.here hx rfl (hb hby d23_34) rfl (XS.ifNo X13.here hx rfl (hb hby d23_35) rfl ((if0 _ _).trans (feq ((by decide : ¬ ((1 : Int32) = (0 : Int32))))).1) (XS.iloadN X13.here hx rfl (hb hby d23_38) rfl (XS.iloadN X13.here hx rfl (hb hby d23_39) rfl kK)))))))))) ?_
      refine OwnEnd.of (S' := T13.setTop (mkF m 43 #[.val (.ref x0), .val (.int 2), .val (.int 1), .val (.int 1)] [])) (fun _ kK => XS.icmpNo X13.here hx rfl (hb hby d23_40) rfl (tlt ((by decide : (1 : Int32) < (2 : Int32)))).2.1 kK) ?_
      obtain ⟨T15, X15, e15, st15⟩ := getS2 X13 hx hZ hown (host := "") (Or.inl (own_w G 129 rfl)) Via.refl eh13 (ST1.ext O0.2) (g := (mkF m 43 #[.val (.ref x0), .val (.int 2), .val (.int 1), .val (.int 1)] [])) rfl (hb hby d23_43)
      refine OwnEnd.of (S' := T15.setTop (mkF m 46 #[.val (.ref x0), .val (.int 2), .val (.int 1), .val (.int 1)] [(.ref aT1)])) st15 ?_
      refine OwnEnd.of (S' := T15.setTop (mkF m 49 #[.val (.ref x0), .val (.int 2), .val (.int 1), .val (.int 1)] [(.int 1), (.ref x0), (.int 0), (.ref aT1)])) (fun _ kK => XS.iconst X15.here hx rfl (hb hby d23_46) (XS.aloadN X15.here hx rfl (hb hby d23_47) rfl rfl (XS.iloadN X15.here hx rfl (hb hby d23_48) rfl kK))) ?_
      obtain ⟨cq16, kq16, q16a, q16b, q16c⟩ := isOf hZ e15 P0
      obtain ⟨_, _, ⟨T16, L16, k16, n16⟩, -, X16, ⟨Lc16, hQ16, l16, y16, z16⟩, st16⟩ := X15.virtualBack hx (y := own_m8) (z := own_m8) hown (mvT hZ (own_w G 98 rfl)) (mvT hZ (own_w G 99 rfl)) (notFace_of_selects (args := #[]) (mvT hZ (own_w G 101 rfl))) (mvT hZ (own_w G 101 rfl)) (mvT hZ (own_w G 100 rfl)) (by decide) (backOf (W := 2) (rmcA0 l Z a0 G [] x0 t kb (3 : Int32) ((([c0, c1, c2] : List Int32).map (fun c => c.toInt8.toInt32)).map Value.int) (.int 0) (1 : Int32) c1 h0 n0 O0 P0 P1 P2 P3 (by decide : ¬ (1 : Int32) < (0 : Int32)) (by decide : (1 : Int32) < (3 : Int32)) (by rfl : ((([c0, c1, c2] : List Int32).map (fun c => c.toInt8.toInt32)).map Value.int).getD (1 : Int32).toNatClampNeg (.int 0) = (.int (StrChars.lo8 c1))) (P4 c1 (by simp))) hZ (own_w G 102 rfl) (own_w G 8 rfl) (by decide) (by decide)) q16a q16c (g := (mkF m 49 #[.val (.ref x0), .val (.int 2), .val (.int 1), .val (.int 1)] [(.int 1), (.ref x0), (.int 0), (.ref aT1)])) rfl (by rw [hml]; rfl) (Steps.refl _) (argsL := [(.int 1)]) (rest := [(.int 0), (.ref aT1)]) (lenOf pd_15 rfl) rfl (by show 2 * 0 + _ ≤ _; exact Nat.le_of_eq rfl) (hb hby d23_49) (fun _ _ => ⟨rfl, e15, (by decide : 0 + 0 ≤ _), (by decide : 0 + 0 ≤ _)⟩)
      dsimp only [Pt.U, Pt.locs, Pt.cells, Pt.slots] at X16 l16 y16 z16 st16 hQ16
      subst l16 y16 z16
      obtain ⟨rfl, N16q, eh16⟩ := hQ16
      have N16 := Fr.app N13 N16q
      refine OwnEnd.tr (S' := T16.setTop (mkF m 52 #[.val (.ref x0), .val (.int 2), .val (.int 1), .val (.int 1)] [(.int c1), (.int 0), (.ref aT1)])) st16 ?_
      obtain ⟨_, _, ⟨T17, L17, k17, n17⟩, -, X17, ⟨Lc17, hQ17, l17, y17, z17⟩, st17⟩ := Jvm.LawKit.callS X16 hx (y := own_m17) hown (mvT hZ (own_w G 114 rfl)) (mvT hZ (own_w G 115 rfl)) (mvT hZ (own_w G 35 rfl)) (mvT hZ (own_w G 116 rfl)) (by decide) (backOf (W := 0) (rmii l Z a0 G [] aT1 own_scheme (0 : Int32) c1 h0 n0 O0 TB1 (P4 c1 (by simp)) own_nbs (by decide : nar .boolean (0 : Int32) = (0 : Int32))) hZ (own_w G 116 rfl) (own_w G 35 rfl) (by decide) (by decide)) (g := (mkF m 52 #[.val (.ref x0), .val (.int 2), .val (.int 1), .val (.int 1)] [(.int c1), (.int 0), (.ref aT1)])) rfl (by rw [hml]; rfl) (argsL := [(.ref aT1), (.int 0), (.int c1)]) (rest := []) (lenOf pd_9 rfl) rfl (by show 2 * 0 + _ ≤ _; exact Nat.le_of_eq rfl) (hb hby d23_52) (fun _ _ => ⟨rfl, eh16, (by decide : 0 + 0 ≤ _), (by decide : 0 + 0 ≤ _)⟩)
      dsimp only [Pt.U, Pt.locs, Pt.cells, Pt.slots] at X17 l17 y17 z17 st17 hQ17
      subst l17 y17 z17
      obtain ⟨rfl, N17q, eh17⟩ := hQ17
      have N17 := Fr.app N16 N17q
      refine OwnEnd.of (S' := T17.setTop (mkF m 55 #[.val (.ref x0), .val (.int 2), .val (.int 1), .val (.int 1)] [(.int (if c1 < (128 : Int32) then own_scheme c1 else (0 : Int32)))])) st17 ?_
      rw [own_scheme_tab (P4 c1 (by simp))]
      rcases own_scheme01 c1 with hb18 | hb18
      · rw [hb18]
        refine OwnEnd.of (S' := T17.setTop (mkF m 67 #[.val (.ref x0), .val (.int 2), .val (.int 0), .val (.int 3)] [(.int 0)])) (fun _ kK => XS.istoreN X17.here hx rfl (hb hby d23_55) rfl (l' := #[.val (.ref x0), .val (.int 2), .val (.int 0), .val (.int 1)]) rfl (XS.iinc X17.here hx rfl (hb hby d23_56) rfl (l' := #[.val (.ref x0), .val (.int 2), .val (.int 0), .val (.int 2)]) rfl (XS.goto X17.here hx rfl (pc0 := 59) (pc' := 34) rfl (hb hby d23_59) (by decide) (by decide) (XS.iloadN X17.here hx rfl (hb hby d23_34) rfl (XS.ifYes X17.here hx rfl (pc0 := 35) (pc' := 62) rfl (hb hby d23_35) rfl ((if0 _ _).trans (teq ((by decide : (0 : Int32) = (0 : Int32)))).1) (by decide) (by decide) (XS.iloadN X17.here hx rfl (hb hby d23_62) rfl (XS.iconst X17.here hx rfl (hb hby d23_63) (XS.iadd X17.here hx rfl (hb hby d23_64) rfl (XS.istoreN X17.here hx rfl (hb hby d23_65) rfl (l' := #[.val (.ref x0), .val (.int 2), .val (.int 0), .val (.int 3)]) rfl (XS.iloadN X17.here hx rfl (hb hby d23_66) rfl kK)))))))))) ?_
        refine OwnEnd.of (S' := T17.setTop (mkF m 94 #[.val (.ref x0), .val (.int 2), .val (.int 0), .val (.int 3)] [(.int 0)])) (fun _ kK => XS.ifYes X17.here hx rfl (pc0 := 67) (pc' := 93) rfl (hb hby d23_67) rfl ((if0 _ _).trans (teq ((by decide : (0 : Int32) = (0 : Int32)))).1) (by decide) (by decide) (XS.iloadN X17.here hx rfl (hb hby d23_93) rfl kK)) ?_
        refine OwnEnd.ret X17 (v := (some (.int (nar .boolean (0 : Int32))))) (fun h => by rw [Bd.returns] at h; cases h) hlk (fun fs hr => retN X17 hx (t := .boolean) Bd.returns (by simp) (hb hby d23_94) hr) (by decide) (by decide) (Q := (own_Qint (own_abs [c0, c1, c2])) h0 n0) eh17 ?_
        exact ⟨(by show some (Value.int (nar .boolean (0 : Int32))) = _; simp [own_abs, own_sch, own_tail, nar, hxc, hb14, hb18]), N17, rfl⟩
      · rw [hb18]
        refine OwnEnd.of (S' := T17.setTop (mkF m 64 #[.val (.ref x0), .val (.int 2), .val (.int 1), .val (.int 2)] [(.int 1), (.int 2)])) (fun _ kK => XS.istoreN X17.here hx rfl (hb hby d23_55) rfl (l' := #[.val (.ref x0), .val (.int 2), .val (.int 1), .val (.int 1)]) rfl (XS.iinc X17.here hx rfl (hb hby d23_56) rfl (l' := #[.val (.ref x0), .val (.int 2), .val (.int 1), .val (.int 2)]) rfl (XS.goto X17.here hx rfl (pc0 := 59) (pc' := 34) rfl (hb hby d23_59) (by decide) (by decide) (XS.iloadN X17.here hx rfl (hb hby d23_34) rfl (XS.ifNo X17.here hx rfl (hb hby d23_35) rfl ((if0 _ _).trans (feq ((by decide : ¬ ((1 : Int32) = (0 : Int32))))).1) (XS.iloadN X17.here hx rfl (hb hby d23_38) rfl (XS.iloadN X17.here hx rfl (hb hby d23_39) rfl (XS.icmpYes X17.here hx rfl (pc0 := 40) (pc' := 62) rfl (hb hby d23_40) rfl (flt ((by decide : ¬ ((2 : Int32) < (2 : Int32))))).2.1 (by decide) (by decide) (XS.iloadN X17.here hx rfl (hb hby d23_62) rfl (XS.iconst X17.here hx rfl (hb hby d23_63) kK)))))))))) ?_
        refine OwnEnd.of (S' := T17.setTop (mkF m 72 #[.val (.ref x0), .val (.int 2), .val (.int 1), .val (.int 3)] [(.ref x0), (.int 3)])) (fun _ kK => XS.iadd X17.here hx rfl (hb hby d23_64) rfl (XS.istoreN X17.here hx rfl (hb hby d23_65) rfl (l' := #[.val (.ref x0), .val (.int 2), .val (.int 1), .val (.int 3)]) rfl (XS.iloadN X17.here hx rfl (hb hby d23_66) rfl (XS.ifNo X17.here hx rfl (hb hby d23_67) rfl ((if0 _ _).trans (feq ((by decide : ¬ ((1 : Int32) = (0 : Int32))))).1) (XS.iloadN X17.here hx rfl (hb hby d23_70) rfl (XS.aloadN X17.here hx rfl (hb hby d23_71) rfl rfl kK)))))) ?_
        obtain ⟨cq19, kq19, q19a, q19b, q19c⟩ := isOf hZ eh17 P0
        obtain ⟨_, _, ⟨T19, L19, k19, n19⟩, -, X19, ⟨Lc19, hQ19, l19, y19, z19⟩, st19⟩ := X17.virtualBack hx (y := own_m6) (z := own_m6) hown (mvT hZ (own_w G 120 rfl)) (mvT hZ (own_w G 54 rfl)) (notFace_of_selects (args := #[]) (mvT hZ (own_w G 56 rfl))) (mvT hZ (own_w G 56 rfl)) (mvT hZ (own_w G 55 rfl)) (by decide) (backOf (W := 1) (rmln0 l Z a0 G [] x0 t kb (3 : Int32) ((([c0, c1, c2] : List Int32).map (fun c => c.toInt8.toInt32)).map Value.int) (.int 0) h0 n0 O0 P0 P1 P2 P3) hZ (own_w G 57 rfl) (own_w G 8 rfl) (by decide) (by decide)) q19a q19c (g := (mkF m 72 #[.val (.ref x0), .val (.int 2), .val (.int 1), .val (.int 3)] [(.ref x0), (.int 3)])) rfl (by rw [hml]; rfl) (Steps.refl _) (argsL := []) (rest := [(.int 3)]) (lenOf pd_12 rfl) rfl (by show 2 * 0 + _ ≤ _; exact Nat.le_of_eq rfl) (hb hby d23_72) (fun _ _ => ⟨rfl, eh17, (by decide : 0 + 0 ≤ _), (by decide : 0 + 0 ≤ _)⟩)
        dsimp only [Pt.U, Pt.locs, Pt.cells, Pt.slots] at X19 l19 y19 z19 st19 hQ19
        subst l19 y19 z19
        obtain ⟨rfl, N19q, eh19⟩ := hQ19
        have N19 := Fr.app N17 N19q
        refine OwnEnd.tr (S' := T19.setTop (mkF m 75 #[.val (.ref x0), .val (.int 2), .val (.int 1), .val (.int 3)] [(.int 3), (.int 3)])) st19 ?_
        refine OwnEnd.of (S' := T19.setTop (mkF m 94 #[.val (.ref x0), .val (.int 2), .val (.int 1), .val (.int 3)] [(.int 1)])) (fun _ kK => XS.icmpYes X19.here hx rfl (pc0 := 75) (pc' := 93) rfl (hb hby d23_75) rfl (flt ((by decide : ¬ ((3 : Int32) < (3 : Int32))))).2.1 (by decide) (by decide) (XS.iloadN X19.here hx rfl (hb hby d23_93) rfl kK)) ?_
        refine OwnEnd.ret X19 (v := (some (.int (nar .boolean (1 : Int32))))) (fun h => by rw [Bd.returns] at h; cases h) hlk (fun fs hr => retN X19 hx (t := .boolean) Bd.returns (by simp) (hb hby d23_94) hr) (by decide) (by decide) (Q := (own_Qint (own_abs [c0, c1, c2])) h0 n0) eh19 ?_
        exact ⟨(by show some (Value.int (nar .boolean (1 : Int32))) = _; simp [own_abs, own_sch, own_tail, nar, hxc, hb14, hb18]), N19, rfl⟩
  · rw [hxc.1]
    refine OwnEnd.of (S' := T1.setTop (mkF m 63 #[.val (.ref x0), .val (.int (-1 : Int32)), .val (.int 0), .val (.int 1)] [(.int (-1 : Int32))])) (fun _ kK => XS.istoreN X1.here hx rfl (hb hby d23_6) rfl (l' := #[.val (.ref x0), .val (.int (-1 : Int32)), .unset, .unset]) rfl (XS.iloadN X1.here hx rfl (hb hby d23_7) rfl (XS.ifYes X1.here hx rfl (pc0 := 8) (pc' := 30) rfl (hb hby d23_8) rfl ((if0 _ _).trans (flt ((by decide : ¬ ((0 : Int32) < (-1 : Int32))))).2.2.2) (by decide) (by decide) (XS.iconst X1.here hx rfl (hb hby d23_30) (XS.istoreN X1.here hx rfl (hb hby d23_31) rfl (l' := #[.val (.ref x0), .val (.int (-1 : Int32)), .val (.int 0), .unset]) rfl (XS.iconst X1.here hx rfl (hb hby d23_32) (XS.istoreN X1.here hx rfl (hb hby d23_33) rfl (l' := #[.val (.ref x0), .val (.int (-1 : Int32)), .val (.int 0), .val (.int 1)]) rfl (XS.iloadN X1.here hx rfl (hb hby d23_34) rfl (XS.ifYes X1.here hx rfl (pc0 := 35) (pc' := 62) rfl (hb hby d23_35) rfl ((if0 _ _).trans (teq ((by decide : (0 : Int32) = (0 : Int32)))).1) (by decide) (by decide) (XS.iloadN X1.here hx rfl (hb hby d23_62) rfl kK)))))))))) ?_
    refine OwnEnd.of (S' := T1.setTop (mkF m 94 #[.val (.ref x0), .val (.int (-1 : Int32)), .val (.int 0), .val (.int 0)] [(.int 0)])) (fun _ kK => XS.iconst X1.here hx rfl (hb hby d23_63) (XS.iadd X1.here hx rfl (hb hby d23_64) rfl (XS.istoreN X1.here hx rfl (hb hby d23_65) rfl (l' := #[.val (.ref x0), .val (.int (-1 : Int32)), .val (.int 0), .val (.int 0)]) rfl (XS.iloadN X1.here hx rfl (hb hby d23_66) rfl (XS.ifYes X1.here hx rfl (pc0 := 67) (pc' := 93) rfl (hb hby d23_67) rfl ((if0 _ _).trans (teq ((by decide : (0 : Int32) = (0 : Int32)))).1) (by decide) (by decide) (XS.iloadN X1.here hx rfl (hb hby d23_93) rfl kK)))))) ?_
    refine OwnEnd.ret X1 (v := (some (.int (nar .boolean (0 : Int32))))) (fun h => by rw [Bd.returns] at h; cases h) hlk (fun fs hr => retN X1 hx (t := .boolean) Bd.returns (by simp) (hb hby d23_94) hr) (by decide) (by decide) (Q := (own_Qint (own_abs [c0, c1, c2])) h0 n0) eh1 ?_
    exact ⟨(by show some (Value.int (nar .boolean (0 : Int32))) = _; rw [own_abs_no hxc.2]; rfl), N1, rfl⟩

theorem own_efmn4 (m : MethodId) : entryFrame m #[(.int 4), (.int 4)] 2 = mkF m 0 #[.val (.int 4), .val (.int 4)] [] := by first | (simp [entryFrame, mkF, argsToLocals, Value.category]; done) | rfl
set_option maxRecDepth 65536 in
set_option maxHeartbeats 40000000 in
theorem rmmn4 (l : Launch) (Z : State) (a0 : Array Value) (G : OwnG Z a0) (ws : List Jvm.Cond)  (h0 : Heap) (n0 : Nat) (O0 : Old Z n0 h0)  :
    MetFree l own_m19 (head1 (Jvm.Cond.code own_m19 jdk_29_method_69_code 2 (some .int) :: ws) ({ frames := 0, cells := 0, slots := 0, locals := 0 } : Room)) (fun a U => a = #[(.int 4), (.int 4)] ∧ Z.Warmed39 U.vm ∧ U.heap = h0) (fun _ _ _ _ _ => True) (fun _ U o U' => ∃ v L, o = .returned v ∧ (own_Qint (4 : Int32)) h0 n0 v U'.heap L ∧ FrameEnd U o U' L ({ frames := 0, cells := 0, slots := 0, locals := 0 } : Room).cells ({ frames := 0, cells := 0, slots := 0, locals := 0 } : Room).slots) := by
  refine MetFree.of_bodySF (Jvm.Free.JP.mathPlain rfl (by decide +kernel)) hisR ?_
  intro p e s m args below meth cD s₁ Bd hml0 hP hK
  obtain ⟨rfl, hZ, hh⟩ := hP
  have hw := G.1
  have hx := Bd.exec
  have hby := Bd.bytes
  have hml : cD.maxLocals = 2 := hml0
  have hown : s.vm.findClass "java/lang/Math" = some m.cls := findClass_of_methodNamed Bd.named
  have hnm := (name_of_methodNamed Bd.named Bd.method).1
  have hlk := Bd.notSynchronized
  have X0 : Stand p l e ({ frames := 0, cells := 0, slots := 0, locals := 0 } : Room) s m #[(.int 4), (.int 4)] below meth cD s₁ [] 0 0 := Stand.of_body Bd
  have e0 : s₁.heap = h0 := by rw [← hh, Bd.state]; rfl
  have K0 : Keep h0 h0 [] := Keep.refl h0 _
  have Z0 := own_old_le O0
  have N0 := Fr.nil n0
  refine OwnEnd.start (g' := (mkF m 0 #[.val (.int 4), .val (.int 4)] [])) (own_efmn4 m ) ?_
  refine OwnEnd.of (S' := s₁.setTop (mkF m 10 #[.val (.int 4), .val (.int 4)] [(.int 4)])) (fun _ kK => XS.iloadN X0.here hx rfl (hb hby d19_0) rfl (XS.iloadN X0.here hx rfl (hb hby d19_1) rfl (XS.icmpNo X0.here hx rfl (hb hby d19_2) rfl (flt ((by decide : ¬ ((4 : Int32) < (4 : Int32))))).2.2.1 (XS.iloadN X0.here hx rfl (hb hby d19_5) rfl (XS.goto X0.here hx rfl (pc0 := 6) (pc' := 10) rfl (hb hby d19_6) (by decide) (by decide) kK))))) ?_
  refine OwnEnd.ret X0 (v := (some (.int 4))) (fun h => by rw [Bd.returns] at h; cases h) hlk (fun fs hr => retOut X0 hx Bd.returns rfl (Or.inl ⟨rfl, Or.inl rfl, _, rfl⟩) (hb hby d19_10) hr) (by decide) (by decide) (Q := (own_Qint (4 : Int32)) h0 n0) e0 ?_
  exact ⟨rfl, N0, rfl⟩

theorem own_efix4 (m : MethodId) (t : Addr) : entryFrame m #[(.ref t), (.int 58), (.int 0), (.int 4)] 6 = mkF m 0 #[.val (.ref t), .val (.int 58), .val (.int 0), .val (.int 4), .unset, .unset] [] := by first | (simp [entryFrame, mkF, argsToLocals, Value.category]; done) | rfl
set_option maxRecDepth 65536 in
set_option maxHeartbeats 40000000 in
theorem rmix4 (l : Launch) (Z : State) (a0 : Array Value) (G : OwnG Z a0) (ws : List Jvm.Cond) (t : Addr) (kb : ClassId) (c0 : Int32) (c1 : Int32) (c2 : Int32) (c3 : Int32) (h0 : Heap) (n0 : Nat) (O0 : Old Z n0 h0) (P0 : Arv Z h0 t kb .byte (4 : Int32) ((([c0, c1, c2, c3] : List Int32).map (fun c => c.toInt8.toInt32)).map Value.int) (.int 0)) (P1 : ∀ c ∈ ([c0, c1, c2, c3] : List Int32), ¬ c < (0 : Int32) ∧ ¬ (255 : Int32) < c) :
    MetFree l own_m24 (head1 (Jvm.Cond.code own_m24 jdk_43_method_23_code 6 (some .int) :: ws) ({ frames := 0, cells := 0, slots := 0, locals := 0 } : Room)) (fun a U => a = #[(.ref t), (.int 58), (.int 0), (.int 4)] ∧ Z.Warmed39 U.vm ∧ U.heap = h0) (fun _ _ _ _ _ => True) (fun _ U o U' => ∃ v L, o = .returned v ∧ (own_Qint (own_ix (0 : Int32) [c0, c1, c2, c3])) h0 n0 v U'.heap L ∧ FrameEnd U o U' L ({ frames := 0, cells := 0, slots := 0, locals := 0 } : Room).cells ({ frames := 0, cells := 0, slots := 0, locals := 0 } : Room).slots) := by
  refine MetFree.of_bodySF (plainFor_of_name pn_2) hisR ?_
  intro p e s m args below meth cD s₁ Bd hml0 hP hK
  obtain ⟨rfl, hZ, hh⟩ := hP
  have hw := G.1
  have hx := Bd.exec
  have hby := Bd.bytes
  have hml : cD.maxLocals = 6 := hml0
  have hown : s.vm.findClass "java/lang/StringLatin1" = some m.cls := findClass_of_methodNamed Bd.named
  have hnm := (name_of_methodNamed Bd.named Bd.method).1
  have hlk := Bd.notSynchronized
  have X0 : Stand p l e ({ frames := 0, cells := 0, slots := 0, locals := 0 } : Room) s m #[(.ref t), (.int 58), (.int 0), (.int 4)] below meth cD s₁ [] 0 0 := Stand.of_body Bd
  have e0 : s₁.heap = h0 := by rw [← hh, Bd.state]; rfl
  have lt0 := own_ltN' P0.lt
  have K0 : Keep h0 h0 [] := Keep.refl h0 _
  have Z0 := own_old_le O0
  have N0 := Fr.nil n0
  refine OwnEnd.start (g' := (mkF m 0 #[.val (.ref t), .val (.int 58), .val (.int 0), .val (.int 4), .unset, .unset] [])) (own_efix4 m t) ?_
  have V1 : Arv Z h0 t kb .byte (4 : Int32) [(.int (StrChars.lo8 c0)), (.int (StrChars.lo8 c1)), (.int (StrChars.lo8 c2)), (.int (StrChars.lo8 c3))] (.int 0) := by have q := P0; exact q
  refine OwnEnd.of (S' := s₁.setTop (mkF m 16 #[.val (.ref t), .val (.int 58), .val (.int 0), .val (.int 4), .val (.int 58), .val (.int 0)] [(.int 0), (.ref t)])) (fun _ kK => XS.iloadN X0.here hx rfl (hb hby d24_0) rfl (XS.i2b X0.here hx rfl (hb hby d24_1) rfl (XS.istore X0.here hx rfl (hb hby d24_2) rfl (l' := #[.val (.ref t), .val (.int 58), .val (.int 0), .val (.int 4), .val (.int 58), .unset]) rfl (XS.iloadN X0.here hx rfl (hb hby d24_4) rfl (XS.istore X0.here hx rfl (hb hby d24_5) rfl (l' := #[.val (.ref t), .val (.int 58), .val (.int 0), .val (.int 4), .val (.int 58), .val (.int 0)]) rfl (XS.iload X0.here hx rfl (hb hby d24_7) rfl (XS.iloadN X0.here hx rfl (hb hby d24_9) rfl (XS.icmpNo X0.here hx rfl (hb hby d24_10) rfl (tlt ((by decide : (0 : Int32) < (4 : Int32)))).2.1 (XS.aloadN X0.here hx rfl (hb hby d24_13) rfl rfl (XS.iload X0.here hx rfl (hb hby d24_14) rfl kK)))))))))) ?_
  obtain ⟨cl2, Ar2, q2, S2, N2', H2, G2⟩ := id V1
  have hin3 : ¬ ((0 : Int32) < 0 ∨ cl2.slots.size ≤ ((0 : Int32)).toNatClampNeg) := inb_of S2 ⟨by decide, by decide⟩
  refine OwnEnd.of (S' := s₁.setTop (mkF m 17 #[.val (.ref t), .val (.int 58), .val (.int 0), .val (.int 4), .val (.int 58), .val (.int 0)] [(.int (StrChars.lo8 c0))])) (fun _ kK => X0.baloadBytes hx (j := (0 : Int32)) (v := (.int (StrChars.lo8 c0))) (by rw [e0]; exact Ar2.1) (State.isArrayOf_alike hZ.alike Ar2.2.1) Ar2.2.2 hin3 (Has.at H2 hin3 (rfl)) (g := (mkF m 16 #[.val (.ref t), .val (.int 58), .val (.int 0), .val (.int 4), .val (.int 58), .val (.int 0)] [(.int 0), (.ref t)])) rfl rfl (hb hby d24_16) _ kK) ?_
  refine OwnEnd.of (S' := s₁.setTop (mkF m 19 #[.val (.ref t), .val (.int 58), .val (.int 0), .val (.int 4), .val (.int 58), .val (.int 0)] [(.int 58), (.int (StrChars.lo8 c0))])) (fun _ kK => XS.iload X0.here hx rfl (hb hby d24_17) rfl kK) ?_
  rcases Decidable.em (c0 = (58 : Int32)) with hc4 | hc4
  · refine OwnEnd.of (S' := s₁.setTop (mkF m 24 #[.val (.ref t), .val (.int 58), .val (.int 0), .val (.int 4), .val (.int 58), .val (.int 0)] [(.int 0)])) (fun _ kK => XS.icmpNo X0.here hx rfl (hb hby d24_19) rfl (teq ((own_lo58 hc4))).2 (XS.iload X0.here hx rfl (hb hby d24_22) rfl kK)) ?_
    refine OwnEnd.ret X0 (v := (some (.int 0))) (fun h => by rw [Bd.returns] at h; cases h) hlk (fun fs hr => retOut X0 hx Bd.returns rfl (Or.inl ⟨rfl, Or.inl rfl, _, rfl⟩) (hb hby d24_24) hr) (by decide) (by decide) (Q := (own_Qint (own_ix (0 : Int32) [c0, c1, c2, c3])) h0 n0) e0 ?_
    exact ⟨(by simp [own_ix, hc4]), N0, rfl⟩
  · refine OwnEnd.of (S' := s₁.setTop (mkF m 16 #[.val (.ref t), .val (.int 58), .val (.int 0), .val (.int 4), .val (.int 58), .val (.int 1)] [(.int 1), (.ref t)])) (fun _ kK => XS.icmpYes X0.here hx rfl (pc0 := 19) (pc' := 25) rfl (hb hby d24_19) rfl (feq ((own_lo58n (P1 c0 (by simp)).1 (P1 c0 (by simp)).2 hc4))).2 (by decide) (by decide) (XS.iinc X0.here hx rfl (hb hby d24_25) rfl (l' := #[.val (.ref t), .val (.int 58), .val (.int 0), .val (.int 4), .val (.int 58), .val (.int 1)]) rfl (XS.goto X0.here hx rfl (pc0 := 28) (pc' := 7) rfl (hb hby d24_28) (by decide) (by decide) (XS.iload X0.here hx rfl (hb hby d24_7) rfl (XS.iloadN X0.here hx rfl (hb hby d24_9) rfl (XS.icmpNo X0.here hx rfl (hb hby d24_10) rfl (tlt ((by decide : (1 : Int32) < (4 : Int32)))).2.1 (XS.aloadN X0.here hx rfl (hb hby d24_13) rfl rfl (XS.iload X0.here hx rfl (hb hby d24_14) rfl kK)))))))) ?_
    obtain ⟨cl5, Ar5, q5, S5, N5', H5, G5⟩ := id V1
    have hin6 : ¬ ((1 : Int32) < 0 ∨ cl5.slots.size ≤ ((1 : Int32)).toNatClampNeg) := inb_of S5 ⟨by decide, by decide⟩
    refine OwnEnd.of (S' := s₁.setTop (mkF m 17 #[.val (.ref t), .val (.int 58), .val (.int 0), .val (.int 4), .val (.int 58), .val (.int 1)] [(.int (StrChars.lo8 c1))])) (fun _ kK => X0.baloadBytes hx (j := (1 : Int32)) (v := (.int (StrChars.lo8 c1))) (by rw [e0]; exact Ar5.1) (State.isArrayOf_alike hZ.alike Ar5.2.1) Ar5.2.2 hin6 (Has.at H5 hin6 (rfl)) (g := (mkF m 16 #[.val (.ref t), .val (.int 58), .val (.int 0), .val (.int 4), .val (.int 58), .val (.int 1)] [(.int 1), (.ref t)])) rfl rfl (hb hby d24_16) _ kK) ?_
    refine OwnEnd.of (S' := s₁.setTop (mkF m 19 #[.val (.ref t), .val (.int 58), .val (.int 0), .val (.int 4), .val (.int 58), .val (.int 1)] [(.int 58), (.int (StrChars.lo8 c1))])) (fun _ kK => XS.iload X0.here hx rfl (hb hby d24_17) rfl kK) ?_
    rcases Decidable.em (c1 = (58 : Int32)) with hc7 | hc7
    · refine OwnEnd.of (S' := s₁.setTop (mkF m 24 #[.val (.ref t), .val (.int 58), .val (.int 0), .val (.int 4), .val (.int 58), .val (.int 1)] [(.int 1)])) (fun _ kK => XS.icmpNo X0.here hx rfl (hb hby d24_19) rfl (teq ((own_lo58 hc7))).2 (XS.iload X0.here hx rfl (hb hby d24_22) rfl kK)) ?_
      refine OwnEnd.ret X0 (v := (some (.int 1))) (fun h => by rw [Bd.returns] at h; cases h) hlk (fun fs hr => retOut X0 hx Bd.returns rfl (Or.inl ⟨rfl, Or.inl rfl, _, rfl⟩) (hb hby d24_24) hr) (by decide) (by decide) (Q := (own_Qint (own_ix (0 : Int32) [c0, c1, c2, c3])) h0 n0) e0 ?_
      exact ⟨(by simp [own_ix, hc4, hc7]), N0, rfl⟩
    · refine OwnEnd.of (S' := s₁.setTop (mkF m 16 #[.val (.ref t), .val (.int 58), .val (.int 0), .val (.int 4), .val (.int 58), .val (.int 2)] [(.int 2), (.ref t)])) (fun _ kK => XS.icmpYes X0.here hx rfl (pc0 := 19) (pc' := 25) rfl (hb hby d24_19) rfl (feq ((own_lo58n (P1 c1 (by simp)).1 (P1 c1 (by simp)).2 hc7))).2 (by decide) (by decide) (XS.iinc X0.here hx rfl (hb hby d24_25) rfl (l' := #[.val (.ref t), .val (.int 58), .val (.int 0), .val (.int 4), .val (.int 58), .val (.int 2)]) rfl (XS.goto X0.here hx rfl (pc0 := 28) (pc' := 7) rfl (hb hby d24_28) (by decide) (by decide) (XS.iload X0.here hx rfl (hb hby d24_7) rfl (XS.iloadN X0.here hx rfl (hb hby d24_9) rfl (XS.icmpNo X0.here hx rfl (hb hby d24_10) rfl (tlt ((by decide : (2 : Int32) < (4 : Int32)))).2.1 (XS.aloadN X0.here hx rfl (hb hby d24_13) rfl rfl (XS.iload X0.here hx rfl (hb hby d24_14) rfl kK)))))))) ?_
      obtain ⟨cl8, Ar8, q8, S8, N8', H8, G8⟩ := id V1
      have hin9 : ¬ ((2 : Int32) < 0 ∨ cl8.slots.size ≤ ((2 : Int32)).toNatClampNeg) := inb_of S8 ⟨by decide, by decide⟩
      refine OwnEnd.of (S' := s₁.setTop (mkF m 17 #[.val (.ref t), .val (.int 58), .val (.int 0), .val (.int 4), .val (.int 58), .val (.int 2)] [(.int (StrChars.lo8 c2))])) (fun _ kK => X0.baloadBytes hx (j := (2 : Int32)) (v := (.int (StrChars.lo8 c2))) (by rw [e0]; exact Ar8.1) (State.isArrayOf_alike hZ.alike Ar8.2.1) Ar8.2.2 hin9 (Has.at H8 hin9 (rfl)) (g := (mkF m 16 #[.val (.ref t), .val (.int 58), .val (.int 0), .val (.int 4), .val (.int 58), .val (.int 2)] [(.int 2), (.ref t)])) rfl rfl (hb hby d24_16) _ kK) ?_
      refine OwnEnd.of (S' := s₁.setTop (mkF m 19 #[.val (.ref t), .val (.int 58), .val (.int 0), .val (.int 4), .val (.int 58), .val (.int 2)] [(.int 58), (.int (StrChars.lo8 c2))])) (fun _ kK => XS.iload X0.here hx rfl (hb hby d24_17) rfl kK) ?_
      rcases Decidable.em (c2 = (58 : Int32)) with hc10 | hc10
      · refine OwnEnd.of (S' := s₁.setTop (mkF m 24 #[.val (.ref t), .val (.int 58), .val (.int 0), .val (.int 4), .val (.int 58), .val (.int 2)] [(.int 2)])) (fun _ kK => XS.icmpNo X0.here hx rfl (hb hby d24_19) rfl (teq ((own_lo58 hc10))).2 (XS.iload X0.here hx rfl (hb hby d24_22) rfl kK)) ?_
        refine OwnEnd.ret X0 (v := (some (.int 2))) (fun h => by rw [Bd.returns] at h; cases h) hlk (fun fs hr => retOut X0 hx Bd.returns rfl (Or.inl ⟨rfl, Or.inl rfl, _, rfl⟩) (hb hby d24_24) hr) (by decide) (by decide) (Q := (own_Qint (own_ix (0 : Int32) [c0, c1, c2, c3])) h0 n0) e0 ?_
        exact ⟨(by simp [own_ix, hc4, hc7, hc10]), N0, rfl⟩
      · refine OwnEnd.of (S' := s₁.setTop (mkF m 16 #[.val (.ref t), .val (.int 58), .val (.int 0), .val (.int 4), .val (.int 58), .val (.int 3)] [(.int 3), (.ref t)])) (fun _ kK => XS.icmpYes X0.here hx rfl (pc0 := 19) (pc' := 25) rfl (hb hby d24_19) rfl (feq ((own_lo58n (P1 c2 (by simp)).1 (P1 c2 (by simp)).2 hc10))).2 (by decide) (by decide) (XS.iinc X0.here hx rfl (hb hby d24_25) rfl (l' := #[.val (.ref t), .val (.int 58), .val (.int 0), .val (.int 4), .val (.int 58), .val (.int 3)]) rfl (XS.goto X0.here hx rfl (pc0 := 28) (pc' := 7) rfl (hb hby d24_28) (by decide) (by decide) (XS.iload X0.here hx rfl (hb hby d24_7) rfl (XS.iloadN X0.here hx rfl (hb hby d24_9) rfl (XS.icmpNo X0.here hx rfl (hb hby d24_10) rfl (tlt ((by decide : (3 : Int32) < (4 : Int32)))).2.1 (XS.aloadN X0.here hx rfl (hb hby d24_13) rfl rfl (XS.iload X0.here hx rfl (hb hby d24_14) rfl kK)))))))) ?_
        obtain ⟨cl11, Ar11, q11, S11, N11', H11, G11⟩ := id V1
        have hin12 : ¬ ((3 : Int32) < 0 ∨ cl11.slots.size ≤ ((3 : Int32)).toNatClampNeg) := inb_of S11 ⟨by decide, by decide⟩
        refine OwnEnd.of (S' := s₁.setTop (mkF m 17 #[.val (.ref t), .val (.int 58), .val (.int 0), .val (.int 4), .val (.int 58), .val (.int 3)] [(.int (StrChars.lo8 c3))])) (fun _ kK => X0.baloadBytes hx (j := (3 : Int32)) (v := (.int (StrChars.lo8 c3))) (by rw [e0]; exact Ar11.1) (State.isArrayOf_alike hZ.alike Ar11.2.1) Ar11.2.2 hin12 (Has.at H11 hin12 (rfl)) (g := (mkF m 16 #[.val (.ref t), .val (.int 58), .val (.int 0), .val (.int 4), .val (.int 58), .val (.int 3)] [(.int 3), (.ref t)])) rfl rfl (hb hby d24_16) _ kK) ?_
        refine OwnEnd.of (S' := s₁.setTop (mkF m 19 #[.val (.ref t), .val (.int 58), .val (.int 0), .val (.int 4), .val (.int 58), .val (.int 3)] [(.int 58), (.int (StrChars.lo8 c3))])) (fun _ kK => XS.iload X0.here hx rfl (hb hby d24_17) rfl kK) ?_
        rcases Decidable.em (c3 = (58 : Int32)) with hc13 | hc13
        · refine OwnEnd.of (S' := s₁.setTop (mkF m 24 #[.val (.ref t), .val (.int 58), .val (.int 0), .val (.int 4), .val (.int 58), .val (.int 3)] [(.int 3)])) (fun _ kK => XS.icmpNo X0.here hx rfl (hb hby d24_19) rfl (teq ((own_lo58 hc13))).2 (XS.iload X0.here hx rfl (hb hby d24_22) rfl kK)) ?_
          refine OwnEnd.ret X0 (v := (some (.int 3))) (fun h => by rw [Bd.returns] at h; cases h) hlk (fun fs hr => retOut X0 hx Bd.returns rfl (Or.inl ⟨rfl, Or.inl rfl, _, rfl⟩) (hb hby d24_24) hr) (by decide) (by decide) (Q := (own_Qint (own_ix (0 : Int32) [c0, c1, c2, c3])) h0 n0) e0 ?_
          exact ⟨(by simp [own_ix, hc4, hc7, hc10, hc13]), N0, rfl⟩
        · refine OwnEnd.of (S' := s₁.setTop (mkF m 32 #[.val (.ref t), .val (.int 58), .val (.int 0), .val (.int 4), .val (.int 58), .val (.int 4)] [(.int (-1 : Int32))])) (fun _ kK => XS.icmpYes X0.here hx rfl (pc0 := 19) (pc' := 25) rfl (hb hby d24_19) rfl (feq ((own_lo58n (P1 c3 (by simp)).1 (P1 c3 (by simp)).2 hc13))).2 (by decide) (by decide) (XS.iinc X0.here hx rfl (hb hby d24_25) rfl (l' := #[.val (.ref t), .val (.int 58), .val (.int 0), .val (.int 4), .val (.int 58), .val (.int 4)]) rfl (XS.goto X0.here hx rfl (pc0 := 28) (pc' := 7) rfl (hb hby d24_28) (by decide) (by decide) (XS.iload X0.here hx rfl (hb hby d24_7) rfl (XS.iloadN X0.here hx rfl (hb hby d24_9) rfl (XS.icmpYes X0.here hx rfl (pc0 := 10) (pc' := 31) rfl (hb hby d24_10) rfl (flt ((by decide : ¬ ((4 : Int32) < (4 : Int32))))).2.1 (by decide) (by decide) (XS.iconst X0.here hx rfl (hb hby d24_31) kK))))))) ?_
          refine OwnEnd.ret X0 (v := (some (.int (-1 : Int32)))) (fun h => by rw [Bd.returns] at h; cases h) hlk (fun fs hr => retOut X0 hx Bd.returns rfl (Or.inl ⟨rfl, Or.inl rfl, _, rfl⟩) (hb hby d24_32) hr) (by decide) (by decide) (Q := (own_Qint (own_ix (0 : Int32) [c0, c1, c2, c3])) h0 n0) e0 ?_
          exact ⟨(by simp [own_ix, hc4, hc7, hc10, hc13]), N0, rfl⟩

theorem own_efsi4 (m : MethodId) (t : Addr) : entryFrame m #[(.ref t), (.int 58), (.int 0), (.int 4)] 4 = mkF m 0 #[.val (.ref t), .val (.int 58), .val (.int 0), .val (.int 4)] [] := by first | (simp [entryFrame, mkF, argsToLocals, Value.category]; done) | rfl
set_option maxRecDepth 65536 in
set_option maxHeartbeats 40000000 in
theorem rmsi4 (l : Launch) (Z : State) (a0 : Array Value) (G : OwnG Z a0) (ws : List Jvm.Cond) (t : Addr) (kb : ClassId) (c0 : Int32) (c1 : Int32) (c2 : Int32) (c3 : Int32) (h0 : Heap) (n0 : Nat) (O0 : Old Z n0 h0) (P0 : Arv Z h0 t kb .byte (4 : Int32) ((([c0, c1, c2, c3] : List Int32).map (fun c => c.toInt8.toInt32)).map Value.int) (.int 0)) (P1 : ∀ c ∈ ([c0, c1, c2, c3] : List Int32), ¬ c < (0 : Int32) ∧ ¬ (255 : Int32) < c) :
    MetFree l own_m20 (head1 (Jvm.Cond.code own_m20 jdk_43_method_22_code 4 (some .int) :: ws) ({ frames := 1, cells := 0, slots := 0, locals := 17 } : Room)) (fun a U => a = #[(.ref t), (.int 58), (.int 0), (.int 4)] ∧ Z.Warmed39 U.vm ∧ U.heap = h0) (fun _ _ _ _ _ => True) (fun _ U o U' => ∃ v L, o = .returned v ∧ (own_Qint (own_ix (0 : Int32) [c0, c1, c2, c3])) h0 n0 v U'.heap L ∧ FrameEnd U o U' L ({ frames := 1, cells := 0, slots := 0, locals := 17 } : Room).cells ({ frames := 1, cells := 0, slots := 0, locals := 17 } : Room).slots) := by
  refine MetFree.of_bodySF (plainFor_of_name pn_2) hisR ?_
  intro p e s m args below meth cD s₁ Bd hml0 hP hK
  obtain ⟨rfl, hZ, hh⟩ := hP
  have hw := G.1
  have hx := Bd.exec
  have hby := Bd.bytes
  have hml : cD.maxLocals = 4 := hml0
  have hown : s.vm.findClass "java/lang/StringLatin1" = some m.cls := findClass_of_methodNamed Bd.named
  have hnm := (name_of_methodNamed Bd.named Bd.method).1
  have hlk := Bd.notSynchronized
  have X0 : Stand p l e ({ frames := 1, cells := 0, slots := 0, locals := 17 } : Room) s m #[(.ref t), (.int 58), (.int 0), (.int 4)] below meth cD s₁ [] 0 0 := Stand.of_body Bd
  have e0 : s₁.heap = h0 := by rw [← hh, Bd.state]; rfl
  have lt0 := own_ltN' P0.lt
  have K0 : Keep h0 h0 [] := Keep.refl h0 _
  have Z0 := own_old_le O0
  have N0 := Fr.nil n0
  refine OwnEnd.start (g' := (mkF m 0 #[.val (.ref t), .val (.int 58), .val (.int 0), .val (.int 4)] [])) (own_efsi4 m t) ?_
  refine OwnEnd.of (S' := s₁.setTop (mkF m 1 #[.val (.ref t), .val (.int 58), .val (.int 0), .val (.int 4)] [(.int 58)])) (fun _ kK => XS.iloadN X0.here hx rfl (hb hby d20_0) rfl kK) ?_
  obtain ⟨_, _, ⟨T1, L1, k1, n1⟩, -, X1, ⟨Lc1, hQ1, l1, y1, z1⟩, st1⟩ := Jvm.LawKit.callS X0 hx (y := own_m15) hown (mvT hZ (own_w G 67 rfl)) (mvT hZ (own_w G 68 rfl)) (mvT hZ (own_w G 65 rfl)) (mvT hZ (own_w G 69 rfl)) (by decide) (backOf (W := 0) (rmce l Z a0 G []  h0 n0 O0 ) hZ (own_w G 69 rfl) (own_w G 65 rfl) (by decide) (by decide)) (g := (mkF m 1 #[.val (.ref t), .val (.int 58), .val (.int 0), .val (.int 4)] [(.int 58)])) rfl (by rw [hml]; rfl) (argsL := [(.int 58)]) (rest := []) (lenOf pd_10 rfl) rfl (by show 2 * 0 + _ ≤ _; exact Nat.le_of_eq rfl) (hb hby d20_1) (fun _ _ => ⟨rfl, e0, (by decide : 0 + 0 ≤ _), (by decide : 0 + 0 ≤ _)⟩)
  dsimp only [Pt.U, Pt.locs, Pt.cells, Pt.slots] at X1 l1 y1 z1 st1 hQ1
  subst l1 y1 z1
  obtain ⟨rfl, N1q, eh1⟩ := hQ1
  have N1 := Fr.app N0 N1q
  refine OwnEnd.of (S' := T1.setTop (mkF m 4 #[.val (.ref t), .val (.int 58), .val (.int 0), .val (.int 4)] [(.int 1)])) st1 ?_
  refine OwnEnd.of (S' := T1.setTop (mkF m 11 #[.val (.ref t), .val (.int 58), .val (.int 0), .val (.int 4)] [(.int 0), (.int 0)])) (fun _ kK => XS.ifYes X1.here hx rfl (pc0 := 4) (pc' := 9) rfl (hb hby d20_4) rfl ((if0 _ _).trans (feq ((by decide : ¬ ((1 : Int32) = (0 : Int32))))).2) (by decide) (by decide) (XS.iloadN X1.here hx rfl (hb hby d20_9) rfl (XS.iconst X1.here hx rfl (hb hby d20_10) kK))) ?_
  obtain ⟨_, _, ⟨T2, L2, k2, n2⟩, -, X2, ⟨Lc2, hQ2, l2, y2, z2⟩, st2⟩ := Jvm.LawKit.callS X1 hx (y := own_m16) hown (mvT hZ (own_w G 70 rfl)) (mvT hZ (own_w G 71 rfl)) (mvT hZ (own_w G 72 rfl)) (mvT hZ (own_w G 73 rfl)) (by decide) (backOf (W := 0) (rmmx l Z a0 G []  h0 n0 O0 ) hZ (own_w G 73 rfl) (own_w G 72 rfl) (by decide) (by decide)) (g := (mkF m 11 #[.val (.ref t), .val (.int 58), .val (.int 0), .val (.int 4)] [(.int 0), (.int 0)])) rfl (by rw [hml]; rfl) (argsL := [(.int 0), (.int 0)]) (rest := []) (lenOf pd_11 rfl) rfl (by show 2 * 0 + _ ≤ _; exact Nat.le_of_eq rfl) (hb hby d20_11) (fun _ _ => ⟨rfl, eh1, (by decide : 0 + 0 ≤ _), (by decide : 0 + 0 ≤ _)⟩)
  dsimp only [Pt.U, Pt.locs, Pt.cells, Pt.slots] at X2 l2 y2 z2 st2 hQ2
  subst l2 y2 z2
  obtain ⟨rfl, N2q, eh2⟩ := hQ2
  have N2 := Fr.app N1 N2q
  refine OwnEnd.of (S' := T2.setTop (mkF m 14 #[.val (.ref t), .val (.int 58), .val (.int 0), .val (.int 4)] [(.int 0)])) st2 ?_
  refine OwnEnd.of (S' := T2.setTop (mkF m 17 #[.val (.ref t), .val (.int 58), .val (.int 0), .val (.int 4)] [(.ref t), (.int 4)])) (fun _ kK => XS.istoreN X2.here hx rfl (hb hby d20_14) rfl (l' := #[.val (.ref t), .val (.int 58), .val (.int 0), .val (.int 4)]) rfl (XS.iloadN X2.here hx rfl (hb hby d20_15) rfl (XS.aloadN X2.here hx rfl (hb hby d20_16) rfl rfl kK))) ?_
  obtain ⟨cl3, Ar3, q3, S3, N3', H3, G3⟩ := id P0
  refine OwnEnd.of (S' := T2.setTop (mkF m 18 #[.val (.ref t), .val (.int 58), .val (.int 0), .val (.int 4)] [(.int 4), (.int 4)])) (fun _ kK => X2.arraylength hx (by rw [eh2]; exact Ar3.1) (State.isArrayOf_alike hZ.alike Ar3.2.1) (g := (mkF m 17 #[.val (.ref t), .val (.int 58), .val (.int 0), .val (.int 4)] [(.ref t), (.int 4)])) rfl rfl (hb hby d20_17) _ (by rw [len_of S3 N3']; exact kK)) ?_
  obtain ⟨_, _, ⟨T4, L4, k4, n4⟩, -, X4, ⟨Lc4, hQ4, l4, y4, z4⟩, st4⟩ := Jvm.LawKit.callS X2 hx (y := own_m19) hown (mvT hZ (own_w G 74 rfl)) (mvT hZ (own_w G 75 rfl)) (mvT hZ (own_w G 72 rfl)) (mvT hZ (own_w G 76 rfl)) (by decide) (backOf (W := 0) (rmmn4 l Z a0 G []  h0 n0 O0 ) hZ (own_w G 76 rfl) (own_w G 72 rfl) (by decide) (by decide)) (g := (mkF m 18 #[.val (.ref t), .val (.int 58), .val (.int 0), .val (.int 4)] [(.int 4), (.int 4)])) rfl (by rw [hml]; rfl) (argsL := [(.int 4), (.int 4)]) (rest := []) (lenOf pd_11 rfl) rfl (by show 2 * 0 + _ ≤ _; exact Nat.le_of_eq rfl) (hb hby d20_18) (fun _ _ => ⟨rfl, eh2, (by decide : 0 + 0 ≤ _), (by decide : 0 + 0 ≤ _)⟩)
  dsimp only [Pt.U, Pt.locs, Pt.cells, Pt.slots] at X4 l4 y4 z4 st4 hQ4
  subst l4 y4 z4
  obtain ⟨rfl, N4q, eh4⟩ := hQ4
  have N4 := Fr.app N2 N4q
  refine OwnEnd.of (S' := T4.setTop (mkF m 21 #[.val (.ref t), .val (.int 58), .val (.int 0), .val (.int 4)] [(.int 4)])) st4 ?_
  refine OwnEnd.of (S' := T4.setTop (mkF m 33 #[.val (.ref t), .val (.int 58), .val (.int 0), .val (.int 4)] [(.int 4), (.int 0), (.int 58), (.ref t)])) (fun _ kK => XS.istoreN X4.here hx rfl (hb hby d20_21) rfl (l' := #[.val (.ref t), .val (.int 58), .val (.int 0), .val (.int 4)]) rfl (XS.iloadN X4.here hx rfl (hb hby d20_22) rfl (XS.iloadN X4.here hx rfl (hb hby d20_23) rfl (XS.icmpYes X4.here hx rfl (pc0 := 24) (pc' := 29) rfl (hb hby d20_24) rfl (tlt ((by decide : (0 : Int32) < (4 : Int32)))).1 (by decide) (by decide) (XS.aloadN X4.here hx rfl (hb hby d20_29) rfl rfl (XS.iloadN X4.here hx rfl (hb hby d20_30) rfl (XS.iloadN X4.here hx rfl (hb hby d20_31) rfl (XS.iloadN X4.here hx rfl (hb hby d20_32) rfl kK)))))))) ?_
  obtain ⟨_, _, ⟨T5, L5, k5, n5⟩, -, X5, ⟨Lc5, hQ5, l5, y5, z5⟩, st5⟩ := Jvm.LawKit.callS X4 hx (y := own_m24) hown (mvT hZ (own_w G 87 rfl)) (mvT hZ (own_w G 88 rfl)) (mvT hZ (own_w G 65 rfl)) (mvT hZ (own_w G 89 rfl)) (by decide) (backOf (W := 0) (rmix4 l Z a0 G [] t kb c0 c1 c2 c3 h0 n0 O0 P0 P1) hZ (own_w G 89 rfl) (own_w G 65 rfl) (by decide) (by decide)) (g := (mkF m 33 #[.val (.ref t), .val (.int 58), .val (.int 0), .val (.int 4)] [(.int 4), (.int 0), (.int 58), (.ref t)])) rfl (by rw [hml]; rfl) (argsL := [(.ref t), (.int 58), (.int 0), (.int 4)]) (rest := []) (lenOf pd_13 rfl) rfl (by show 2 * 0 + _ ≤ _; exact Nat.le_of_eq rfl) (hb hby d20_33) (fun _ _ => ⟨rfl, eh4, (by decide : 0 + 0 ≤ _), (by decide : 0 + 0 ≤ _)⟩)
  dsimp only [Pt.U, Pt.locs, Pt.cells, Pt.slots] at X5 l5 y5 z5 st5 hQ5
  subst l5 y5 z5
  obtain ⟨rfl, N5q, eh5⟩ := hQ5
  have N5 := Fr.app N4 N5q
  refine OwnEnd.of (S' := T5.setTop (mkF m 36 #[.val (.ref t), .val (.int 58), .val (.int 0), .val (.int 4)] [(.int (own_ix (0 : Int32) [c0, c1, c2, c3]))])) st5 ?_
  refine OwnEnd.ret X5 (v := (some (.int (own_ix (0 : Int32) [c0, c1, c2, c3])))) (fun h => by rw [Bd.returns] at h; cases h) hlk (fun fs hr => retOut X5 hx Bd.returns rfl (Or.inl ⟨rfl, Or.inl rfl, _, rfl⟩) (hb hby d20_36) hr) (by decide) (by decide) (Q := (own_Qint (own_ix (0 : Int32) [c0, c1, c2, c3])) h0 n0) eh5 ?_
  exact ⟨rfl, N5, rfl⟩

theorem own_efsj4 (m : MethodId) (x0 : Addr) : entryFrame m #[(.ref x0), (.int 58), (.int 0)] 3 = mkF m 0 #[.val (.ref x0), .val (.int 58), .val (.int 0)] [] := by first | (simp [entryFrame, mkF, argsToLocals, Value.category]; done) | rfl
set_option maxRecDepth 65536 in
set_option maxHeartbeats 40000000 in
theorem rmsj4 (l : Launch) (Z : State) (a0 : Array Value) (G : OwnG Z a0) (ws : List Jvm.Cond) (x0 : Addr) (t : Addr) (kb : ClassId) (c0 : Int32) (c1 : Int32) (c2 : Int32) (c3 : Int32) (h0 : Heap) (n0 : Nat) (O0 : Old Z n0 h0) (P0 : Exa Z h0 x0 "java/lang/String") (P1 : Fld Z h0 x0 "java/lang/String" "value" "[B" (.ref t)) (P2 : Fld Z h0 x0 "java/lang/String" "coder" "B" (.int 0)) (P3 : Arv Z h0 t kb .byte (4 : Int32) ((([c0, c1, c2, c3] : List Int32).map (fun c => c.toInt8.toInt32)).map Value.int) (.int 0)) (P4 : ∀ c ∈ ([c0, c1, c2, c3] : List Int32), ¬ c < (0 : Int32) ∧ ¬ (255 : Int32) < c) :
    MetFree l own_m21 (head1 (Jvm.Cond.code own_m21 jdk_42_method_80_code 3 (some .int) :: ws) ({ frames := 2, cells := 0, slots := 0, locals := 32 } : Room)) (fun a U => a = #[(.ref x0), (.int 58), (.int 0)] ∧ Z.Warmed39 U.vm ∧ U.heap = h0) (fun _ _ _ _ _ => True) (fun _ U o U' => ∃ v L, o = .returned v ∧ (own_Qint (own_ix (0 : Int32) [c0, c1, c2, c3])) h0 n0 v U'.heap L ∧ FrameEnd U o U' L ({ frames := 2, cells := 0, slots := 0, locals := 32 } : Room).cells ({ frames := 2, cells := 0, slots := 0, locals := 32 } : Room).slots) := by
  refine MetFree.of_bodySF (plainFor_of_name pn_0) hisR ?_
  intro p e s m args below meth cD s₁ Bd hml0 hP hK
  obtain ⟨rfl, hZ, hh⟩ := hP
  have hw := G.1
  have hx := Bd.exec
  have hby := Bd.bytes
  have hml : cD.maxLocals = 3 := hml0
  have hown : s.vm.findClass "java/lang/String" = some m.cls := findClass_of_methodNamed Bd.named
  have hnm := (name_of_methodNamed Bd.named Bd.method).1
  have hlk := Bd.notSynchronized
  have X0 : Stand p l e ({ frames := 2, cells := 0, slots := 0, locals := 32 } : Room) s m #[(.ref x0), (.int 58), (.int 0)] below meth cD s₁ [] 0 0 := Stand.of_body Bd
  have e0 : s₁.heap = h0 := by rw [← hh, Bd.state]; rfl
  have lt0 := own_ltN' P0.lt
  have lt1 := own_ltN' P1.lt
  have lt2 := own_ltN' P2.lt
  have lt3 := own_ltN' P3.lt
  have K0 : Keep h0 h0 [] := Keep.refl h0 _
  have Z0 := own_old_le O0
  have N0 := Fr.nil n0
  refine OwnEnd.start (g' := (mkF m 0 #[.val (.ref x0), .val (.int 58), .val (.int 0)] [])) (own_efsj4 m x0) ?_
  refine OwnEnd.of (S' := s₁.setTop (mkF m 1 #[.val (.ref x0), .val (.int 58), .val (.int 0)] [(.ref x0)])) (fun _ kK => XS.aloadN X0.here hx rfl (hb hby d21_0) rfl rfl kK) ?_
  obtain ⟨cq1, kq1, q1a, q1b, q1c⟩ := isOf hZ e0 P0
  obtain ⟨_, _, ⟨T1, L1, k1, n1⟩, -, X1, ⟨Lc1, hQ1, l1, y1, z1⟩, st1⟩ := X0.virtualBack hx (y := own_m4) (z := own_m4) hown (mvT hZ (own_w G 47 rfl)) (mvT hZ (own_w G 48 rfl)) (notFace_of_selects (args := #[]) (mvT hZ (own_w G 50 rfl))) (mvT hZ (own_w G 50 rfl)) (mvT hZ (own_w G 49 rfl)) (by decide) (backOf (W := 0) (rmil0 l Z a0 G [] x0 h0 n0 O0 P2) hZ (own_w G 51 rfl) (own_w G 8 rfl) (by decide) (by decide)) q1a q1c (g := (mkF m 1 #[.val (.ref x0), .val (.int 58), .val (.int 0)] [(.ref x0)])) rfl (by rw [hml]; rfl) (Steps.refl _) (argsL := []) (rest := []) (lenOf pd_4 rfl) rfl (by show 2 * 0 + _ ≤ _; exact Nat.le_of_eq rfl) (hb hby d21_1) (fun _ _ => ⟨rfl, e0, (by decide : 0 + 0 ≤ _), (by decide : 0 + 0 ≤ _)⟩)
  dsimp only [Pt.U, Pt.locs, Pt.cells, Pt.slots] at X1 l1 y1 z1 st1 hQ1
  subst l1 y1 z1
  obtain ⟨rfl, N1q, eh1⟩ := hQ1
  have N1 := Fr.app N0 N1q
  refine OwnEnd.tr (S' := T1.setTop (mkF m 4 #[.val (.ref x0), .val (.int 58), .val (.int 0)] [(.int 1)])) st1 ?_
  refine OwnEnd.of (S' := T1.setTop (mkF m 8 #[.val (.ref x0), .val (.int 58), .val (.int 0)] [(.ref x0)])) (fun _ kK => XS.ifNo X1.here hx rfl (hb hby d21_4) rfl ((if0 _ _).trans (feq ((by decide : ¬ ((1 : Int32) = (0 : Int32))))).1) (XS.aloadN X1.here hx rfl (hb hby d21_7) rfl rfl kK)) ?_
  obtain ⟨T2, X2, e2, st2⟩ := getF X1 hx hZ hown (host := "") (Or.inl (own_w G 25 rfl)) Via.refl eh1 P1 (g := (mkF m 8 #[.val (.ref x0), .val (.int 58), .val (.int 0)] [(.ref x0)])) rfl rfl (hb hby d21_8)
  refine OwnEnd.of (S' := T2.setTop (mkF m 11 #[.val (.ref x0), .val (.int 58), .val (.int 0)] [(.ref t)])) st2 ?_
  refine OwnEnd.of (S' := T2.setTop (mkF m 14 #[.val (.ref x0), .val (.int 58), .val (.int 0)] [(.ref x0), (.int 0), (.int 58), (.ref t)])) (fun _ kK => XS.iloadN X2.here hx rfl (hb hby d21_11) rfl (XS.iloadN X2.here hx rfl (hb hby d21_12) rfl (XS.aloadN X2.here hx rfl (hb hby d21_13) rfl rfl kK))) ?_
  obtain ⟨cq3, kq3, q3a, q3b, q3c⟩ := isOf hZ e2 P0
  obtain ⟨_, _, ⟨T3, L3, k3, n3⟩, -, X3, ⟨Lc3, hQ3, l3, y3, z3⟩, st3⟩ := X2.virtualBack hx (y := own_m6) (z := own_m6) hown (mvT hZ (own_w G 53 rfl)) (mvT hZ (own_w G 54 rfl)) (notFace_of_selects (args := #[]) (mvT hZ (own_w G 56 rfl))) (mvT hZ (own_w G 56 rfl)) (mvT hZ (own_w G 55 rfl)) (by decide) (backOf (W := 3) (rmln0 l Z a0 G [] x0 t kb (4 : Int32) ((([c0, c1, c2, c3] : List Int32).map (fun c => c.toInt8.toInt32)).map Value.int) (.int 0) h0 n0 O0 P0 P1 P2 P3) hZ (own_w G 57 rfl) (own_w G 8 rfl) (by decide) (by decide)) q3a q3c (g := (mkF m 14 #[.val (.ref x0), .val (.int 58), .val (.int 0)] [(.ref x0), (.int 0), (.int 58), (.ref t)])) rfl (by rw [hml]; rfl) (Steps.refl _) (argsL := []) (rest := [(.int 0), (.int 58), (.ref t)]) (lenOf pd_12 rfl) rfl (by show 2 * 0 + _ ≤ _; exact Nat.le_of_eq rfl) (hb hby d21_14) (fun _ _ => ⟨rfl, e2, (by decide : 0 + 0 ≤ _), (by decide : 0 + 0 ≤ _)⟩)
  dsimp only [Pt.U, Pt.locs, Pt.cells, Pt.slots] at X3 l3 y3 z3 st3 hQ3
  subst l3 y3 z3
  obtain ⟨rfl, N3q, eh3⟩ := hQ3
  have N3 := Fr.app N1 N3q
  refine OwnEnd.tr (S' := T3.setTop (mkF m 17 #[.val (.ref x0), .val (.int 58), .val (.int 0)] [(.int 4), (.int 0), (.int 58), (.ref t)])) st3 ?_
  obtain ⟨_, _, ⟨T4, L4, k4, n4⟩, -, X4, ⟨Lc4, hQ4, l4, y4, z4⟩, st4⟩ := Jvm.LawKit.callS X3 hx (y := own_m20) hown (mvT hZ (own_w G 63 rfl)) (mvT hZ (own_w G 64 rfl)) (mvT hZ (own_w G 65 rfl)) (mvT hZ (own_w G 66 rfl)) (by decide) (backOf (W := 0) (rmsi4 l Z a0 G [] t kb c0 c1 c2 c3 h0 n0 O0 P3 P4) hZ (own_w G 66 rfl) (own_w G 65 rfl) (by decide) (by decide)) (g := (mkF m 17 #[.val (.ref x0), .val (.int 58), .val (.int 0)] [(.int 4), (.int 0), (.int 58), (.ref t)])) rfl (by rw [hml]; rfl) (argsL := [(.ref t), (.int 58), (.int 0), (.int 4)]) (rest := []) (lenOf pd_13 rfl) rfl (by show 2 * 0 + _ ≤ _; exact Nat.le_of_eq rfl) (hb hby d21_17) (fun _ _ => ⟨rfl, eh3, (by decide : 0 + 0 ≤ _), (by decide : 0 + 0 ≤ _)⟩)
  dsimp only [Pt.U, Pt.locs, Pt.cells, Pt.slots] at X4 l4 y4 z4 st4 hQ4
  subst l4 y4 z4
  obtain ⟨rfl, N4q, eh4⟩ := hQ4
  have N4 := Fr.app N3 N4q
  refine OwnEnd.of (S' := T4.setTop (mkF m 20 #[.val (.ref x0), .val (.int 58), .val (.int 0)] [(.int (own_ix (0 : Int32) [c0, c1, c2, c3]))])) st4 ?_
  refine OwnEnd.of (S' := T4.setTop (mkF m 36 #[.val (.ref x0), .val (.int 58), .val (.int 0)] [(.int (own_ix (0 : Int32) [c0, c1, c2, c3]))])) (fun _ kK => XS.goto X4.here hx rfl (pc0 := 20) (pc' := 36) rfl (hb hby d21_20) (by decide) (by decide) kK) ?_
  refine OwnEnd.ret X4 (v := (some (.int (own_ix (0 : Int32) [c0, c1, c2, c3])))) (fun h => by rw [Bd.returns] at h; cases h) hlk (fun fs hr => retOut X4 hx Bd.returns rfl (Or.inl ⟨rfl, Or.inl rfl, _, rfl⟩) (hb hby d21_36) hr) (by decide) (by decide) (Q := (own_Qint (own_ix (0 : Int32) [c0, c1, c2, c3])) h0 n0) eh4 ?_
  exact ⟨rfl, N4, rfl⟩

theorem own_efsk4 (m : MethodId) (x0 : Addr) : entryFrame m #[(.ref x0), (.int 58)] 2 = mkF m 0 #[.val (.ref x0), .val (.int 58)] [] := by first | (simp [entryFrame, mkF, argsToLocals, Value.category]; done) | rfl
set_option maxRecDepth 65536 in
set_option maxHeartbeats 40000000 in
theorem rmsk4 (l : Launch) (Z : State) (a0 : Array Value) (G : OwnG Z a0) (ws : List Jvm.Cond) (x0 : Addr) (t : Addr) (kb : ClassId) (c0 : Int32) (c1 : Int32) (c2 : Int32) (c3 : Int32) (h0 : Heap) (n0 : Nat) (O0 : Old Z n0 h0) (P0 : Exa Z h0 x0 "java/lang/String") (P1 : Fld Z h0 x0 "java/lang/String" "value" "[B" (.ref t)) (P2 : Fld Z h0 x0 "java/lang/String" "coder" "B" (.int 0)) (P3 : Arv Z h0 t kb .byte (4 : Int32) ((([c0, c1, c2, c3] : List Int32).map (fun c => c.toInt8.toInt32)).map Value.int) (.int 0)) (P4 : ∀ c ∈ ([c0, c1, c2, c3] : List Int32), ¬ c < (0 : Int32) ∧ ¬ (255 : Int32) < c) :
    MetFree l own_m22 (head1 (Jvm.Cond.code own_m22 jdk_42_method_79_code 2 (some .int) :: ws) ({ frames := 3, cells := 0, slots := 0, locals := 46 } : Room)) (fun a U => a = #[(.ref x0), (.int 58)] ∧ Z.Warmed39 U.vm ∧ U.heap = h0) (fun _ _ _ _ _ => True) (fun _ U o U' => ∃ v L, o = .returned v ∧ (own_Qint (own_ix (0 : Int32) [c0, c1, c2, c3])) h0 n0 v U'.heap L ∧ FrameEnd U o U' L ({ frames := 3, cells := 0, slots := 0, locals := 46 } : Room).cells ({ frames := 3, cells := 0, slots := 0, locals := 46 } : Room).slots) := by
  refine MetFree.of_bodySF (plainFor_of_name pn_0) hisR ?_
  intro p e s m args below meth cD s₁ Bd hml0 hP hK
  obtain ⟨rfl, hZ, hh⟩ := hP
  have hw := G.1
  have hx := Bd.exec
  have hby := Bd.bytes
  have hml : cD.maxLocals = 2 := hml0
  have hown : s.vm.findClass "java/lang/String" = some m.cls := findClass_of_methodNamed Bd.named
  have hnm := (name_of_methodNamed Bd.named Bd.method).1
  have hlk := Bd.notSynchronized
  have X0 : Stand p l e ({ frames := 3, cells := 0, slots := 0, locals := 46 } : Room) s m #[(.ref x0), (.int 58)] below meth cD s₁ [] 0 0 := Stand.of_body Bd
  have e0 : s₁.heap = h0 := by rw [← hh, Bd.state]; rfl
  have lt0 := own_ltN' P0.lt
  have lt1 := own_ltN' P1.lt
  have lt2 := own_ltN' P2.lt
  have lt3 := own_ltN' P3.lt
  have K0 : Keep h0 h0 [] := Keep.refl h0 _
  have Z0 := own_old_le O0
  have N0 := Fr.nil n0
  refine OwnEnd.start (g' := (mkF m 0 #[.val (.ref x0), .val (.int 58)] [])) (own_efsk4 m x0) ?_
  refine OwnEnd.of (S' := s₁.setTop (mkF m 3 #[.val (.ref x0), .val (.int 58)] [(.int 0), (.int 58), (.ref x0)])) (fun _ kK => XS.aloadN X0.here hx rfl (hb hby d22_0) rfl rfl (XS.iloadN X0.here hx rfl (hb hby d22_1) rfl (XS.iconst X0.here hx rfl (hb hby d22_2) kK))) ?_
  obtain ⟨cq1, kq1, q1a, q1b, q1c⟩ := isOf hZ e0 P0
  obtain ⟨_, _, ⟨T1, L1, k1, n1⟩, -, X1, ⟨Lc1, hQ1, l1, y1, z1⟩, st1⟩ := X0.virtualBack hx (y := own_m21) (z := own_m21) hown (mvT hZ (own_w G 42 rfl)) (mvT hZ (own_w G 43 rfl)) (notFace_of_selects (args := #[]) (mvT hZ (own_w G 45 rfl))) (mvT hZ (own_w G 45 rfl)) (mvT hZ (own_w G 44 rfl)) (by decide) (backOf (W := 0) (rmsj4 l Z a0 G [] x0 t kb c0 c1 c2 c3 h0 n0 O0 P0 P1 P2 P3 P4) hZ (own_w G 46 rfl) (own_w G 8 rfl) (by decide) (by decide)) q1a q1c (g := (mkF m 3 #[.val (.ref x0), .val (.int 58)] [(.int 0), (.int 58), (.ref x0)])) rfl (by rw [hml]; rfl) (Steps.refl _) (argsL := [(.int 58), (.int 0)]) (rest := []) (lenOf pd_11 rfl) rfl (by show 2 * 0 + _ ≤ _; exact Nat.le_of_eq rfl) (hb hby d22_3) (fun _ _ => ⟨rfl, e0, (by decide : 0 + 0 ≤ _), (by decide : 0 + 0 ≤ _)⟩)
  dsimp only [Pt.U, Pt.locs, Pt.cells, Pt.slots] at X1 l1 y1 z1 st1 hQ1
  subst l1 y1 z1
  obtain ⟨rfl, N1q, eh1⟩ := hQ1
  have N1 := Fr.app N0 N1q
  refine OwnEnd.tr (S' := T1.setTop (mkF m 6 #[.val (.ref x0), .val (.int 58)] [(.int (own_ix (0 : Int32) [c0, c1, c2, c3]))])) st1 ?_
  refine OwnEnd.ret X1 (v := (some (.int (own_ix (0 : Int32) [c0, c1, c2, c3])))) (fun h => by rw [Bd.returns] at h; cases h) hlk (fun fs hr => retOut X1 hx Bd.returns rfl (Or.inl ⟨rfl, Or.inl rfl, _, rfl⟩) (hb hby d22_6) hr) (by decide) (by decide) (Q := (own_Qint (own_ix (0 : Int32) [c0, c1, c2, c3])) h0 n0) eh1 ?_
  exact ⟨rfl, N1, rfl⟩

theorem own_efia4 (m : MethodId) (x0 : Addr) : entryFrame m #[(.ref x0)] 4 = mkF m 0 #[.val (.ref x0), .unset, .unset, .unset] [] := by first | (simp [entryFrame, mkF, argsToLocals, Value.category]; done) | rfl
set_option maxRecDepth 65536 in
set_option maxHeartbeats 40000000 in
theorem rmia4 (l : Launch) (Z : State) (a0 : Array Value) (G : OwnG Z a0) (ws : List Jvm.Cond) (x0 : Addr) (t : Addr) (kb : ClassId) (c0 : Int32) (c1 : Int32) (c2 : Int32) (c3 : Int32) (h0 : Heap) (n0 : Nat) (O0 : Old Z n0 h0) (P0 : Exa Z h0 x0 "java/lang/String") (P1 : Fld Z h0 x0 "java/lang/String" "value" "[B" (.ref t)) (P2 : Fld Z h0 x0 "java/lang/String" "coder" "B" (.int 0)) (P3 : Arv Z h0 t kb .byte (4 : Int32) ((([c0, c1, c2, c3] : List Int32).map (fun c => c.toInt8.toInt32)).map Value.int) (.int 0)) (P4 : ∀ c ∈ ([c0, c1, c2, c3] : List Int32), ¬ c < (0 : Int32) ∧ ¬ (255 : Int32) < c) :
    MetFree l own_m23 (head1 (Jvm.Cond.code own_m23 prog_6_method_2_code 4 (some .boolean) :: ws) ({ frames := 4, cells := 0, slots := 0, locals := 59 } : Room)) (fun a U => a = #[(.ref x0)] ∧ Z.Warmed39 U.vm ∧ U.heap = h0) (fun _ _ _ _ _ => True) (fun _ U o U' => ∃ v L, o = .returned v ∧ (own_Qint (own_abs [c0, c1, c2, c3])) h0 n0 v U'.heap L ∧ FrameEnd U o U' L ({ frames := 4, cells := 0, slots := 0, locals := 59 } : Room).cells ({ frames := 4, cells := 0, slots := 0, locals := 59 } : Room).slots) := by
  refine MetFree.of_bodySF (plainFor_of_name pn_4) hisR ?_
  intro p e s m args below meth cD s₁ Bd hml0 hP hK
  obtain ⟨rfl, hZ, hh⟩ := hP
  have hw := G.1
  have hx := Bd.exec
  have hby := Bd.bytes
  have hml : cD.maxLocals = 4 := hml0
  have hown : s.vm.findClass "com/example/vett/vett/model/Iris" = some m.cls := findClass_of_methodNamed Bd.named
  have hnm := (name_of_methodNamed Bd.named Bd.method).1
  have hlk := Bd.notSynchronized
  have X0 : Stand p l e ({ frames := 4, cells := 0, slots := 0, locals := 59 } : Room) s m #[(.ref x0)] below meth cD s₁ [] 0 0 := Stand.of_body Bd
  have e0 : s₁.heap = h0 := by rw [← hh, Bd.state]; rfl
  have lt0 := own_ltN' P0.lt
  have lt1 := own_ltN' P1.lt
  have lt2 := own_ltN' P2.lt
  have lt3 := own_ltN' P3.lt
  have K0 : Keep h0 h0 [] := Keep.refl h0 _
  have Z0 := own_old_le O0
  have N0 := Fr.nil n0
  obtain ⟨aT0, aT1, aT2, ST0, ST1, ST2, TB0, TB1, TB2⟩ := own_tabs G
  refine OwnEnd.start (g' := (mkF m 0 #[.val (.ref x0), .unset, .unset, .unset] [])) (own_efia4 m x0) ?_
  refine OwnEnd.of (S' := s₁.setTop (mkF m 3 #[.val (.ref x0), .unset, .unset, .unset] [(.int 58), (.ref x0)])) (fun _ kK => XS.aloadN X0.here hx rfl (hb hby d23_0) rfl rfl (XS.bipush X0.here hx rfl (hb hby d23_1) kK)) ?_
  obtain ⟨cq1, kq1, q1a, q1b, q1c⟩ := isOf hZ e0 P0
  obtain ⟨_, _, ⟨T1, L1, k1, n1⟩, -, X1, ⟨Lc1, hQ1, l1, y1, z1⟩, st1⟩ := X0.virtualBack hx (y := own_m22) (z := own_m22) hown (mvT hZ (own_w G 37 rfl)) (mvT hZ (own_w G 38 rfl)) (notFace_of_selects (args := #[]) (mvT hZ (own_w G 40 rfl))) (mvT hZ (own_w G 40 rfl)) (mvT hZ (own_w G 39 rfl)) (by decide) (backOf (W := 0) (rmsk4 l Z a0 G [] x0 t kb c0 c1 c2 c3 h0 n0 O0 P0 P1 P2 P3 P4) hZ (own_w G 41 rfl) (own_w G 8 rfl) (by decide) (by decide)) q1a q1c (g := (mkF m 3 #[.val (.ref x0), .unset, .unset, .unset] [(.int 58), (.ref x0)])) rfl (by rw [hml]; rfl) (Steps.refl _) (argsL := [(.int 58)]) (rest := []) (lenOf pd_14 rfl) rfl (by show 2 * 0 + _ ≤ _; exact Nat.le_of_eq rfl) (hb hby d23_3) (fun _ _ => ⟨rfl, e0, (by decide : 0 + 0 ≤ _), (by decide : 0 + 0 ≤ _)⟩)
  dsimp only [Pt.U, Pt.locs, Pt.cells, Pt.slots] at X1 l1 y1 z1 st1 hQ1
  subst l1 y1 z1
  obtain ⟨rfl, N1q, eh1⟩ := hQ1
  have N1 := Fr.app N0 N1q
  refine OwnEnd.tr (S' := T1.setTop (mkF m 6 #[.val (.ref x0), .unset, .unset, .unset] [(.int (own_ix (0 : Int32) [c0, c1, c2, c3]))])) st1 ?_
  rcases own_ixc4 c0 c1 c2 c3 with hxc | hxc | hxc | hxc | hxc
  · rw [hxc.1]
    refine OwnEnd.of (S' := T1.setTop (mkF m 63 #[.val (.ref x0), .val (.int 0), .val (.int 0), .val (.int 1)] [(.int 0)])) (fun _ kK => XS.istoreN X1.here hx rfl (hb hby d23_6) rfl (l' := #[.val (.ref x0), .val (.int 0), .unset, .unset]) rfl (XS.iloadN X1.here hx rfl (hb hby d23_7) rfl (XS.ifYes X1.here hx rfl (pc0 := 8) (pc' := 30) rfl (hb hby d23_8) rfl ((if0 _ _).trans (flt ((by decide : ¬ ((0 : Int32) < (0 : Int32))))).2.2.2) (by decide) (by decide) (XS.iconst X1.here hx rfl (hb hby d23_30) (XS.istoreN X1.here hx rfl (hb hby d23_31) rfl (l' := #[.val (.ref x0), .val (.int 0), .val (.int 0), .unset]) rfl (XS.iconst X1.here hx rfl (hb hby d23_32) (XS.istoreN X1.here hx rfl (hb hby d23_33) rfl (l' := #[.val (.ref x0), .val (.int 0), .val (.int 0), .val (.int 1)]) rfl (XS.iloadN X1.here hx rfl (hb hby d23_34) rfl (XS.ifYes X1.here hx rfl (pc0 := 35) (pc' := 62) rfl (hb hby d23_35) rfl ((if0 _ _).trans (teq ((by decide : (0 : Int32) = (0 : Int32)))).1) (by decide) (by decide) (XS.iloadN X1.here hx rfl (hb hby d23_62) rfl kK)))))))))) ?_
    refine OwnEnd.of (S' := T1.setTop (mkF m 94 #[.val (.ref x0), .val (.int 0), .val (.int 0), .val (.int 1)] [(.int 0)])) (fun _ kK => XS.iconst X1.here hx rfl (hb hby d23_63) (XS.iadd X1.here hx rfl (hb hby d23_64) rfl (XS.istoreN X1.here hx rfl (hb hby d23_65) rfl (l' := #[.val (.ref x0), .val (.int 0), .val (.int 0), .val (.int 1)]) rfl (XS.iloadN X1.here hx rfl (hb hby d23_66) rfl (XS.ifYes X1.here hx rfl (pc0 := 67) (pc' := 93) rfl (hb hby d23_67) rfl ((if0 _ _).trans (teq ((by decide : (0 : Int32) = (0 : Int32)))).1) (by decide) (by decide) (XS.iloadN X1.here hx rfl (hb hby d23_93) rfl kK)))))) ?_
    refine OwnEnd.ret X1 (v := (some (.int (nar .boolean (0 : Int32))))) (fun h => by rw [Bd.returns] at h; cases h) hlk (fun fs hr => retN X1 hx (t := .boolean) Bd.returns (by simp) (hb hby d23_94) hr) (by decide) (by decide) (Q := (own_Qint (own_abs [c0, c1, c2, c3])) h0 n0) eh1 ?_
    exact ⟨(by show some (Value.int (nar .boolean (0 : Int32))) = _; simp [own_abs, own_sch, own_tail, nar, hxc]), N1, rfl⟩
  · rw [hxc.1]
    refine OwnEnd.of (S' := T1.setTop (mkF m 11 #[.val (.ref x0), .val (.int 1), .unset, .unset] [])) (fun _ kK => XS.istoreN X1.here hx rfl (hb hby d23_6) rfl (l' := #[.val (.ref x0), .val (.int 1), .unset, .unset]) rfl (XS.iloadN X1.here hx rfl (hb hby d23_7) rfl (XS.ifNo X1.here hx rfl (hb hby d23_8) rfl ((if0 _ _).trans (tlt ((by decide : (0 : Int32) < (1 : Int32)))).2.2.2) kK))) ?_
    obtain ⟨T2, X2, e2, st2⟩ := getS2 X1 hx hZ hown (host := "") (Or.inl (own_w G 96 rfl)) Via.refl eh1 (ST0.ext O0.2) (g := (mkF m 11 #[.val (.ref x0), .val (.int 1), .unset, .unset] [])) rfl (hb hby d23_11)
    refine OwnEnd.of (S' := T2.setTop (mkF m 14 #[.val (.ref x0), .val (.int 1), .unset, .unset] [(.ref aT0)])) st2 ?_
    refine OwnEnd.of (S' := T2.setTop (mkF m 17 #[.val (.ref x0), .val (.int 1), .unset, .unset] [(.int 0), (.ref x0), (.int 0), (.ref aT0)])) (fun _ kK => XS.iconst X2.here hx rfl (hb hby d23_14) (XS.aloadN X2.here hx rfl (hb hby d23_15) rfl rfl (XS.iconst X2.here hx rfl (hb hby d23_16) kK))) ?_
    obtain ⟨cq3, kq3, q3a, q3b, q3c⟩ := isOf hZ e2 P0
    obtain ⟨_, _, ⟨T3, L3, k3, n3⟩, -, X3, ⟨Lc3, hQ3, l3, y3, z3⟩, st3⟩ := X2.virtualBack hx (y := own_m8) (z := own_m8) hown (mvT hZ (own_w G 98 rfl)) (mvT hZ (own_w G 99 rfl)) (notFace_of_selects (args := #[]) (mvT hZ (own_w G 101 rfl))) (mvT hZ (own_w G 101 rfl)) (mvT hZ (own_w G 100 rfl)) (by decide) (backOf (W := 2) (rmcA0 l Z a0 G [] x0 t kb (4 : Int32) ((([c0, c1, c2, c3] : List Int32).map (fun c => c.toInt8.toInt32)).map Value.int) (.int 0) (0 : Int32) c0 h0 n0 O0 P0 P1 P2 P3 (by decide : ¬ (0 : Int32) < (0 : Int32)) (by decide : (0 : Int32) < (4 : Int32)) (by rfl : ((([c0, c1, c2, c3] : List Int32).map (fun c => c.toInt8.toInt32)).map Value.int).getD (0 : Int32).toNatClampNeg (.int 0) = (.int (StrChars.lo8 c0))) (P4 c0 (by simp))) hZ (own_w G 102 rfl) (own_w G 8 rfl) (by decide) (by decide)) q3a q3c (g := (mkF m 17 #[.val (.ref x0), .val (.int 1), .unset, .unset] [(.int 0), (.ref x0), (.int 0), (.ref aT0)])) rfl (by rw [hml]; rfl) (Steps.refl _) (argsL := [(.int 0)]) (rest := [(.int 0), (.ref aT0)]) (lenOf pd_15 rfl) rfl (by show 2 * 0 + _ ≤ _; exact Nat.le_of_eq rfl) (hb hby d23_17) (fun _ _ => ⟨rfl, e2, (by decide : 0 + 0 ≤ _), (by decide : 0 + 0 ≤ _)⟩)
    dsimp only [Pt.U, Pt.locs, Pt.cells, Pt.slots] at X3 l3 y3 z3 st3 hQ3
    subst l3 y3 z3
    obtain ⟨rfl, N3q, eh3⟩ := hQ3
    have N3 := Fr.app N1 N3q
    refine OwnEnd.tr (S' := T3.setTop (mkF m 20 #[.val (.ref x0), .val (.int 1), .unset, .unset] [(.int c0), (.int 0), (.ref aT0)])) st3 ?_
    obtain ⟨_, _, ⟨T4, L4, k4, n4⟩, -, X4, ⟨Lc4, hQ4, l4, y4, z4⟩, st4⟩ := Jvm.LawKit.callS X3 hx (y := own_m17) hown (mvT hZ (own_w G 114 rfl)) (mvT hZ (own_w G 115 rfl)) (mvT hZ (own_w G 35 rfl)) (mvT hZ (own_w G 116 rfl)) (by decide) (backOf (W := 0) (rmii l Z a0 G [] aT0 own_letter (0 : Int32) c0 h0 n0 O0 TB0 (P4 c0 (by simp)) own_nbl (by decide : nar .boolean (0 : Int32) = (0 : Int32))) hZ (own_w G 116 rfl) (own_w G 35 rfl) (by decide) (by decide)) (g := (mkF m 20 #[.val (.ref x0), .val (.int 1), .unset, .unset] [(.int c0), (.int 0), (.ref aT0)])) rfl (by rw [hml]; rfl) (argsL := [(.ref aT0), (.int 0), (.int c0)]) (rest := []) (lenOf pd_9 rfl) rfl (by show 2 * 0 + _ ≤ _; exact Nat.le_of_eq rfl) (hb hby d23_20) (fun _ _ => ⟨rfl, eh3, (by decide : 0 + 0 ≤ _), (by decide : 0 + 0 ≤ _)⟩)
    dsimp only [Pt.U, Pt.locs, Pt.cells, Pt.slots] at X4 l4 y4 z4 st4 hQ4
    subst l4 y4 z4
    obtain ⟨rfl, N4q, eh4⟩ := hQ4
    have N4 := Fr.app N3 N4q
    refine OwnEnd.of (S' := T4.setTop (mkF m 23 #[.val (.ref x0), .val (.int 1), .unset, .unset] [(.int (if c0 < (128 : Int32) then own_letter c0 else (0 : Int32)))])) st4 ?_
    rw [own_letter_tab (P4 c0 (by simp))]
    rcases own_letter01 c0 with hb5 | hb5
    · rw [hb5]
      refine OwnEnd.of (S' := T4.setTop (mkF m 65 #[.val (.ref x0), .val (.int 1), .val (.int 0), .val (.int 1)] [(.int 2)])) (fun _ kK => XS.ifYes X4.here hx rfl (pc0 := 23) (pc' := 30) rfl (hb hby d23_23) rfl ((if0 _ _).trans (teq ((by decide : (0 : Int32) = (0 : Int32)))).1) (by decide) (by decide) (XS.iconst X4.here hx rfl (hb hby d23_30) (XS.istoreN X4.here hx rfl (hb hby d23_31) rfl (l' := #[.val (.ref x0), .val (.int 1), .val (.int 0), .unset]) rfl (XS.iconst X4.here hx rfl (hb hby d23_32) (XS.istoreN X4.here hx rfl (hb hby d23_33) rfl (l' := #[.val (.ref x0), .val (.int 1), .val (.int 0), .val (.int 1)]) rfl (XS.iloadN X4.here hx rfl (hb hby d23_34) rfl (XS.ifYes X4.here hx rfl (pc0 := 35) (pc' := 62) rfl (hb hby d23_35) rfl ((if0 _ _).trans (teq ((by decide : (0 : Int32) = (0 : Int32)))).1) (by decide) (by decide) (XS.iloadN X4.here hx rfl (hb hby d23_62) rfl (XS.iconst X4.here hx rfl (hb hby d23_63) (XS.iadd X4.here hx rfl (hb hby d23_64) rfl kK)))))))))) ?_
      refine OwnEnd.of (S' := T4.setTop (mkF m 94 #[.val (.ref x0), .val (.int 1), .val (.int 0), .val (.int 2)] [(.int 0)])) (fun _ kK => XS.istoreN X4.here hx rfl (hb hby d23_65) rfl (l' := #[.val (.ref x0), .val (.int 1), .val (.int 0), .val (.int 2)]) rfl (XS.iloadN X4.here hx rfl (hb hby d23_66) rfl (XS.ifYes X4.here hx rfl (pc0 := 67) (pc' := 93) rfl (hb hby d23_67) rfl ((if0 _ _).trans (teq ((by decide : (0 : Int32) = (0 : Int32)))).1) (by decide) (by decide) (XS.iloadN X4.here hx rfl (hb hby d23_93) rfl kK)))) ?_
      refine OwnEnd.ret X4 (v := (some (.int (nar .boolean (0 : Int32))))) (fun h => by rw [Bd.returns] at h; cases h) hlk (fun fs hr => retN X4 hx (t := .boolean) Bd.returns (by simp) (hb hby d23_94) hr) (by decide) (by decide) (Q := (own_Qint (own_abs [c0, c1, c2, c3])) h0 n0) eh4 ?_
      exact ⟨(by show some (Value.int (nar .boolean (0 : Int32))) = _; simp [own_abs, own_sch, own_tail, nar, hxc, hb5]), N4, rfl⟩
    · rw [hb5]
      refine OwnEnd.of (S' := T4.setTop (mkF m 40 #[.val (.ref x0), .val (.int 1), .val (.int 1), .val (.int 1)] [(.int 1), (.int 1)])) (fun _ kK => XS.ifNo X4.here hx rfl (hb hby d23_23) rfl ((if0 _ _).trans (feq ((by decide : ¬ ((1 : Int32) = (0 : Int32))))).1) (XS.iconst X4.here hx rfl (hb hby d23_26) (XS.goto X4.here hx rfl (pc0 := 27) (pc' := 31) rfl (hb hby d23_27) (by decide) (by decide) (XS.istoreN X4.here hx rfl (hb hby d23_31) rfl (l' := #[.val (.ref x0), .val (.int 1), .val (.int 1), .unset]) rfl (XS.iconst X4.here hx rfl (hb hby d23_32) (XS.istoreN X4.here hx rfl (hb hby d23_33) rfl (l' := #[.val (.ref x0), .val (.int 1), .val (.int 1), .val (.int 1)]) rfl (XS.iloadN X4.here hx rfl (hb hby d23_34) rfl (XS.ifNo X4.here hx rfl (hb hby d23_35) rfl ((if0 _ _).trans (feq ((by decide : ¬ ((1 : Int32) = (0 : Int32))))).1) (XS.iloadN X4.here hx rfl (hb hby d23_38) rfl (XS.iloadN X4.here hx rfl (hb hby d23_39) rfl kK)))))))))) ?_
      refine OwnEnd.of (S' := T4.setTop (mkF m 72 #[.val (.ref x0), .val (.int 1), .val (.int 1), .val (.int 2)] [(.ref x0), (.int 2)])) (fun _ kK => XS.icmpYes X4.here hx rfl (pc0 := 40) (pc' := 62) rfl (hb hby d23_40) rfl (flt ((by decide : ¬ ((1 : Int32) < (1 : Int32))))).2.1 (by decide) (by decide) (XS.iloadN X4.here hx rfl (hb hby d23_62) rfl (XS.iconst X4.here hx rfl (hb hby d23_63) (XS.iadd X4.here hx rfl (hb hby d23_64) rfl (XS.istoreN X4.here hx rfl (hb hby d23_65) rfl (l' := #[.val (.ref x0), .val (.int 1), .val (.int 1), .val (.int 2)]) rfl (XS.iloadN X4.here hx rfl (hb hby d23_66) rfl (XS.ifNo X4.here hx rfl (hb hby d23_67) rfl ((if0 _ _).trans (feq ((by decide : ¬ ((1 : Int32) = (0 : Int32))))).1) (XS.iloadN X4.here hx rfl (hb hby d23_70) rfl (XS.aloadN X4.here hx rfl (hb hby d23_71) rfl rfl kK))))))))) ?_
      obtain ⟨cq6, kq6, q6a, q6b, q6c⟩ := isOf hZ eh4 P0
      obtain ⟨_, _, ⟨T6, L6, k6, n6⟩, -, X6, ⟨Lc6, hQ6, l6, y6, z6⟩, st6⟩ := X4.virtualBack hx (y := own_m6) (z := own_m6) hown (mvT hZ (own_w G 120 rfl)) (mvT hZ (own_w G 54 rfl)) (notFace_of_selects (args := #[]) (mvT hZ (own_w G 56 rfl))) (mvT hZ (own_w G 56 rfl)) (mvT hZ (own_w G 55 rfl)) (by decide) (backOf (W := 1) (rmln0 l Z a0 G [] x0 t kb (4 : Int32) ((([c0, c1, c2, c3] : List Int32).map (fun c => c.toInt8.toInt32)).map Value.int) (.int 0) h0 n0 O0 P0 P1 P2 P3) hZ (own_w G 57 rfl) (own_w G 8 rfl) (by decide) (by decide)) q6a q6c (g := (mkF m 72 #[.val (.ref x0), .val (.int 1), .val (.int 1), .val (.int 2)] [(.ref x0), (.int 2)])) rfl (by rw [hml]; rfl) (Steps.refl _) (argsL := []) (rest := [(.int 2)]) (lenOf pd_12 rfl) rfl (by show 2 * 0 + _ ≤ _; exact Nat.le_of_eq rfl) (hb hby d23_72) (fun _ _ => ⟨rfl, eh4, (by decide : 0 + 0 ≤ _), (by decide : 0 + 0 ≤ _)⟩)
      dsimp only [Pt.U, Pt.locs, Pt.cells, Pt.slots] at X6 l6 y6 z6 st6 hQ6
      subst l6 y6 z6
      obtain ⟨rfl, N6q, eh6⟩ := hQ6
      have N6 := Fr.app N4 N6q
      refine OwnEnd.tr (S' := T6.setTop (mkF m 75 #[.val (.ref x0), .val (.int 1), .val (.int 1), .val (.int 2)] [(.int 4), (.int 2)])) st6 ?_
      refine OwnEnd.of (S' := T6.setTop (mkF m 80 #[.val (.ref x0), .val (.int 1), .val (.int 1), .val (.int 2)] [(.int 2), (.ref x0)])) (fun _ kK => XS.icmpNo X6.here hx rfl (hb hby d23_75) rfl (tlt ((by decide : (2 : Int32) < (4 : Int32)))).2.1 (XS.aloadN X6.here hx rfl (hb hby d23_78) rfl rfl (XS.iloadN X6.here hx rfl (hb hby d23_79) rfl kK))) ?_
      obtain ⟨cq7, kq7, q7a, q7b, q7c⟩ := isOf hZ eh6 P0
      obtain ⟨_, _, ⟨T7, L7, k7, n7⟩, -, X7, ⟨Lc7, hQ7, l7, y7, z7⟩, st7⟩ := X6.virtualBack hx (y := own_m8) (z := own_m8) hown (mvT hZ (own_w G 98 rfl)) (mvT hZ (own_w G 99 rfl)) (notFace_of_selects (args := #[]) (mvT hZ (own_w G 101 rfl))) (mvT hZ (own_w G 101 rfl)) (mvT hZ (own_w G 100 rfl)) (by decide) (backOf (W := 0) (rmcA0 l Z a0 G [] x0 t kb (4 : Int32) ((([c0, c1, c2, c3] : List Int32).map (fun c => c.toInt8.toInt32)).map Value.int) (.int 0) (2 : Int32) c2 h0 n0 O0 P0 P1 P2 P3 (by decide : ¬ (2 : Int32) < (0 : Int32)) (by decide : (2 : Int32) < (4 : Int32)) (by rfl : ((([c0, c1, c2, c3] : List Int32).map (fun c => c.toInt8.toInt32)).map Value.int).getD (2 : Int32).toNatClampNeg (.int 0) = (.int (StrChars.lo8 c2))) (P4 c2 (by simp))) hZ (own_w G 102 rfl) (own_w G 8 rfl) (by decide) (by decide)) q7a q7c (g := (mkF m 80 #[.val (.ref x0), .val (.int 1), .val (.int 1), .val (.int 2)] [(.int 2), (.ref x0)])) rfl (by rw [hml]; rfl) (Steps.refl _) (argsL := [(.int 2)]) (rest := []) (lenOf pd_15 rfl) rfl (by show 2 * 0 + _ ≤ _; exact Nat.le_of_eq rfl) (hb hby d23_80) (fun _ _ => ⟨rfl, eh6, (by decide : 0 + 0 ≤ _), (by decide : 0 + 0 ≤ _)⟩)
      dsimp only [Pt.U, Pt.locs, Pt.cells, Pt.slots] at X7 l7 y7 z7 st7 hQ7
      subst l7 y7 z7
      obtain ⟨rfl, N7q, eh7⟩ := hQ7
      have N7 := Fr.app N6 N7q
      refine OwnEnd.tr (S' := T7.setTop (mkF m 83 #[.val (.ref x0), .val (.int 1), .val (.int 1), .val (.int 2)] [(.int c2)])) st7 ?_
      obtain ⟨_, _, ⟨T8, L8, k8, n8⟩, -, X8, ⟨Lc8, hQ8, l8, y8, z8⟩, st8⟩ := Jvm.LawKit.callS X7 hx (y := own_m18) hown (mvT hZ (own_w G 121 rfl)) (mvT hZ (own_w G 122 rfl)) (mvT hZ (own_w G 35 rfl)) (mvT hZ (own_w G 123 rfl)) (by decide) (backOf (W := 0) (rmim l Z a0 G [] c2 h0 n0 O0 (P4 c2 (by simp))) hZ (own_w G 123 rfl) (own_w G 35 rfl) (by decide) (by decide)) (g := (mkF m 83 #[.val (.ref x0), .val (.int 1), .val (.int 1), .val (.int 2)] [(.int c2)])) rfl (by rw [hml]; rfl) (argsL := [(.int c2)]) (rest := []) (lenOf pd_6 rfl) rfl (by show 2 * 0 + _ ≤ _; exact Nat.le_of_eq rfl) (hb hby d23_83) (fun _ _ => ⟨rfl, eh7, (by decide : 0 + 0 ≤ _), (by decide : 0 + 0 ≤ _)⟩)
      dsimp only [Pt.U, Pt.locs, Pt.cells, Pt.slots] at X8 l8 y8 z8 st8 hQ8
      subst l8 y8 z8
      obtain ⟨rfl, N8q, eh8⟩ := hQ8
      have N8 := Fr.app N7 N8q
      refine OwnEnd.of (S' := T8.setTop (mkF m 86 #[.val (.ref x0), .val (.int 1), .val (.int 1), .val (.int 2)] [(.int (own_hold c2))])) st8 ?_
      rcases own_hold01 c2 with hb9 | hb9
      · rw [hb9]
        refine OwnEnd.of (S' := T8.setTop (mkF m 94 #[.val (.ref x0), .val (.int 1), .val (.int 0), .val (.int 3)] [(.int 0)])) (fun _ kK => XS.istoreN X8.here hx rfl (hb hby d23_86) rfl (l' := #[.val (.ref x0), .val (.int 1), .val (.int 0), .val (.int 2)]) rfl (XS.iinc X8.here hx rfl (hb hby d23_87) rfl (l' := #[.val (.ref x0), .val (.int 1), .val (.int 0), .val (.int 3)]) rfl (XS.goto X8.here hx rfl (pc0 := 90) (pc' := 66) rfl (hb hby d23_90) (by decide) (by decide) (XS.iloadN X8.here hx rfl (hb hby d23_66) rfl (XS.ifYes X8.here hx rfl (pc0 := 67) (pc' := 93) rfl (hb hby d23_67) rfl ((if0 _ _).trans (teq ((by decide : (0 : Int32) = (0 : Int32)))).1) (by decide) (by decide) (XS.iloadN X8.here hx rfl (hb hby d23_93) rfl kK)))))) ?_
        refine OwnEnd.ret X8 (v := (some (.int (nar .boolean (0 : Int32))))) (fun h => by rw [Bd.returns] at h; cases h) hlk (fun fs hr => retN X8 hx (t := .boolean) Bd.returns (by simp) (hb hby d23_94) hr) (by decide) (by decide) (Q := (own_Qint (own_abs [c0, c1, c2, c3])) h0 n0) eh8 ?_
        exact ⟨(by show some (Value.int (nar .boolean (0 : Int32))) = _; simp [own_abs, own_sch, own_tail, nar, hxc, hb5, hb9]), N8, rfl⟩
      · rw [hb9]
        refine OwnEnd.of (S' := T8.setTop (mkF m 72 #[.val (.ref x0), .val (.int 1), .val (.int 1), .val (.int 3)] [(.ref x0), (.int 3)])) (fun _ kK => XS.istoreN X8.here hx rfl (hb hby d23_86) rfl (l' := #[.val (.ref x0), .val (.int 1), .val (.int 1), .val (.int 2)]) rfl (XS.iinc X8.here hx rfl (hb hby d23_87) rfl (l' := #[.val (.ref x0), .val (.int 1), .val (.int 1), .val (.int 3)]) rfl (XS.goto X8.here hx rfl (pc0 := 90) (pc' := 66) rfl (hb hby d23_90) (by decide) (by decide) (XS.iloadN X8.here hx rfl (hb hby d23_66) rfl (XS.ifNo X8.here hx rfl (hb hby d23_67) rfl ((if0 _ _).trans (feq ((by decide : ¬ ((1 : Int32) = (0 : Int32))))).1) (XS.iloadN X8.here hx rfl (hb hby d23_70) rfl (XS.aloadN X8.here hx rfl (hb hby d23_71) rfl rfl kK))))))) ?_
        obtain ⟨cq10, kq10, q10a, q10b, q10c⟩ := isOf hZ eh8 P0
        obtain ⟨_, _, ⟨T10, L10, k10, n10⟩, -, X10, ⟨Lc10, hQ10, l10, y10, z10⟩, st10⟩ := X8.virtualBack hx (y := own_m6) (z := own_m6) hown (mvT hZ (own_w G 120 rfl)) (mvT hZ (own_w G 54 rfl)) (notFace_of_selects (args := #[]) (mvT hZ (own_w G 56 rfl))) (mvT hZ (own_w G 56 rfl)) (mvT hZ (own_w G 55 rfl)) (by decide) (backOf (W := 1) (rmln0 l Z a0 G [] x0 t kb (4 : Int32) ((([c0, c1, c2, c3] : List Int32).map (fun c => c.toInt8.toInt32)).map Value.int) (.int 0) h0 n0 O0 P0 P1 P2 P3) hZ (own_w G 57 rfl) (own_w G 8 rfl) (by decide) (by decide)) q10a q10c (g := (mkF m 72 #[.val (.ref x0), .val (.int 1), .val (.int 1), .val (.int 3)] [(.ref x0), (.int 3)])) rfl (by rw [hml]; rfl) (Steps.refl _) (argsL := []) (rest := [(.int 3)]) (lenOf pd_12 rfl) rfl (by show 2 * 0 + _ ≤ _; exact Nat.le_of_eq rfl) (hb hby d23_72) (fun _ _ => ⟨rfl, eh8, (by decide : 0 + 0 ≤ _), (by decide : 0 + 0 ≤ _)⟩)
        dsimp only [Pt.U, Pt.locs, Pt.cells, Pt.slots] at X10 l10 y10 z10 st10 hQ10
        subst l10 y10 z10
        obtain ⟨rfl, N10q, eh10⟩ := hQ10
        have N10 := Fr.app N8 N10q
        refine OwnEnd.tr (S' := T10.setTop (mkF m 75 #[.val (.ref x0), .val (.int 1), .val (.int 1), .val (.int 3)] [(.int 4), (.int 3)])) st10 ?_
        refine OwnEnd.of (S' := T10.setTop (mkF m 80 #[.val (.ref x0), .val (.int 1), .val (.int 1), .val (.int 3)] [(.int 3), (.ref x0)])) (fun _ kK => XS.icmpNo X10.here hx rfl (hb hby d23_75) rfl (tlt ((by decide : (3 : Int32) < (4 : Int32)))).2.1 (XS.aloadN X10.here hx rfl (hb hby d23_78) rfl rfl (XS.iloadN X10.here hx rfl (hb hby d23_79) rfl kK))) ?_
        obtain ⟨cq11, kq11, q11a, q11b, q11c⟩ := isOf hZ eh10 P0
        obtain ⟨_, _, ⟨T11, L11, k11, n11⟩, -, X11, ⟨Lc11, hQ11, l11, y11, z11⟩, st11⟩ := X10.virtualBack hx (y := own_m8) (z := own_m8) hown (mvT hZ (own_w G 98 rfl)) (mvT hZ (own_w G 99 rfl)) (notFace_of_selects (args := #[]) (mvT hZ (own_w G 101 rfl))) (mvT hZ (own_w G 101 rfl)) (mvT hZ (own_w G 100 rfl)) (by decide) (backOf (W := 0) (rmcA0 l Z a0 G [] x0 t kb (4 : Int32) ((([c0, c1, c2, c3] : List Int32).map (fun c => c.toInt8.toInt32)).map Value.int) (.int 0) (3 : Int32) c3 h0 n0 O0 P0 P1 P2 P3 (by decide : ¬ (3 : Int32) < (0 : Int32)) (by decide : (3 : Int32) < (4 : Int32)) (by rfl : ((([c0, c1, c2, c3] : List Int32).map (fun c => c.toInt8.toInt32)).map Value.int).getD (3 : Int32).toNatClampNeg (.int 0) = (.int (StrChars.lo8 c3))) (P4 c3 (by simp))) hZ (own_w G 102 rfl) (own_w G 8 rfl) (by decide) (by decide)) q11a q11c (g := (mkF m 80 #[.val (.ref x0), .val (.int 1), .val (.int 1), .val (.int 3)] [(.int 3), (.ref x0)])) rfl (by rw [hml]; rfl) (Steps.refl _) (argsL := [(.int 3)]) (rest := []) (lenOf pd_15 rfl) rfl (by show 2 * 0 + _ ≤ _; exact Nat.le_of_eq rfl) (hb hby d23_80) (fun _ _ => ⟨rfl, eh10, (by decide : 0 + 0 ≤ _), (by decide : 0 + 0 ≤ _)⟩)
        dsimp only [Pt.U, Pt.locs, Pt.cells, Pt.slots] at X11 l11 y11 z11 st11 hQ11
        subst l11 y11 z11
        obtain ⟨rfl, N11q, eh11⟩ := hQ11
        have N11 := Fr.app N10 N11q
        refine OwnEnd.tr (S' := T11.setTop (mkF m 83 #[.val (.ref x0), .val (.int 1), .val (.int 1), .val (.int 3)] [(.int c3)])) st11 ?_
        obtain ⟨_, _, ⟨T12, L12, k12, n12⟩, -, X12, ⟨Lc12, hQ12, l12, y12, z12⟩, st12⟩ := Jvm.LawKit.callS X11 hx (y := own_m18) hown (mvT hZ (own_w G 121 rfl)) (mvT hZ (own_w G 122 rfl)) (mvT hZ (own_w G 35 rfl)) (mvT hZ (own_w G 123 rfl)) (by decide) (backOf (W := 0) (rmim l Z a0 G [] c3 h0 n0 O0 (P4 c3 (by simp))) hZ (own_w G 123 rfl) (own_w G 35 rfl) (by decide) (by decide)) (g := (mkF m 83 #[.val (.ref x0), .val (.int 1), .val (.int 1), .val (.int 3)] [(.int c3)])) rfl (by rw [hml]; rfl) (argsL := [(.int c3)]) (rest := []) (lenOf pd_6 rfl) rfl (by show 2 * 0 + _ ≤ _; exact Nat.le_of_eq rfl) (hb hby d23_83) (fun _ _ => ⟨rfl, eh11, (by decide : 0 + 0 ≤ _), (by decide : 0 + 0 ≤ _)⟩)
        dsimp only [Pt.U, Pt.locs, Pt.cells, Pt.slots] at X12 l12 y12 z12 st12 hQ12
        subst l12 y12 z12
        obtain ⟨rfl, N12q, eh12⟩ := hQ12
        have N12 := Fr.app N11 N12q
        refine OwnEnd.of (S' := T12.setTop (mkF m 86 #[.val (.ref x0), .val (.int 1), .val (.int 1), .val (.int 3)] [(.int (own_hold c3))])) st12 ?_
        rcases own_hold01 c3 with hb13 | hb13
        · rw [hb13]
          refine OwnEnd.of (S' := T12.setTop (mkF m 94 #[.val (.ref x0), .val (.int 1), .val (.int 0), .val (.int 4)] [(.int 0)])) (fun _ kK => XS.istoreN X12.here hx rfl (hb hby d23_86) rfl (l' := #[.val (.ref x0), .val (.int 1), .val (.int 0), .val (.int 3)]) rfl (XS.iinc X12.here hx rfl (hb hby d23_87) rfl (l' := #[.val (.ref x0), .val (.int 1), .val (.int 0), .val (.int 4)]) rfl (XS.goto X12.here hx rfl (pc0 := 90) (pc' := 66) rfl (hb hby d23_90) (by decide) (by decide) (XS.iloadN X12.here hx rfl (hb hby d23_66) rfl (XS.ifYes X12.here hx rfl (pc0 := 67) (pc' := 93) rfl (hb hby d23_67) rfl ((if0 _ _).trans (teq ((by decide : (0 : Int32) = (0 : Int32)))).1) (by decide) (by decide) (XS.iloadN X12.here hx rfl (hb hby d23_93) rfl kK)))))) ?_
          refine OwnEnd.ret X12 (v := (some (.int (nar .boolean (0 : Int32))))) (fun h => by rw [Bd.returns] at h; cases h) hlk (fun fs hr => retN X12 hx (t := .boolean) Bd.returns (by simp) (hb hby d23_94) hr) (by decide) (by decide) (Q := (own_Qint (own_abs [c0, c1, c2, c3])) h0 n0) eh12 ?_
          exact ⟨(by show some (Value.int (nar .boolean (0 : Int32))) = _; simp [own_abs, own_sch, own_tail, nar, hxc, hb5, hb9, hb13]), N12, rfl⟩
        · rw [hb13]
          refine OwnEnd.of (S' := T12.setTop (mkF m 72 #[.val (.ref x0), .val (.int 1), .val (.int 1), .val (.int 4)] [(.ref x0), (.int 4)])) (fun _ kK => XS.istoreN X12.here hx rfl (hb hby d23_86) rfl (l' := #[.val (.ref x0), .val (.int 1), .val (.int 1), .val (.int 3)]) rfl (XS.iinc X12.here hx rfl (hb hby d23_87) rfl (l' := #[.val (.ref x0), .val (.int 1), .val (.int 1), .val (.int 4)]) rfl (XS.goto X12.here hx rfl (pc0 := 90) (pc' := 66) rfl (hb hby d23_90) (by decide) (by decide) (XS.iloadN X12.here hx rfl (hb hby d23_66) rfl (XS.ifNo X12.here hx rfl (hb hby d23_67) rfl ((if0 _ _).trans (feq ((by decide : ¬ ((1 : Int32) = (0 : Int32))))).1) (XS.iloadN X12.here hx rfl (hb hby d23_70) rfl (XS.aloadN X12.here hx rfl (hb hby d23_71) rfl rfl kK))))))) ?_
          obtain ⟨cq14, kq14, q14a, q14b, q14c⟩ := isOf hZ eh12 P0
          obtain ⟨_, _, ⟨T14, L14, k14, n14⟩, -, X14, ⟨Lc14, hQ14, l14, y14, z14⟩, st14⟩ := X12.virtualBack hx (y := own_m6) (z := own_m6) hown (mvT hZ (own_w G 120 rfl)) (mvT hZ (own_w G 54 rfl)) (notFace_of_selects (args := #[]) (mvT hZ (own_w G 56 rfl))) (mvT hZ (own_w G 56 rfl)) (mvT hZ (own_w G 55 rfl)) (by decide) (backOf (W := 1) (rmln0 l Z a0 G [] x0 t kb (4 : Int32) ((([c0, c1, c2, c3] : List Int32).map (fun c => c.toInt8.toInt32)).map Value.int) (.int 0) h0 n0 O0 P0 P1 P2 P3) hZ (own_w G 57 rfl) (own_w G 8 rfl) (by decide) (by decide)) q14a q14c (g := (mkF m 72 #[.val (.ref x0), .val (.int 1), .val (.int 1), .val (.int 4)] [(.ref x0), (.int 4)])) rfl (by rw [hml]; rfl) (Steps.refl _) (argsL := []) (rest := [(.int 4)]) (lenOf pd_12 rfl) rfl (by show 2 * 0 + _ ≤ _; exact Nat.le_of_eq rfl) (hb hby d23_72) (fun _ _ => ⟨rfl, eh12, (by decide : 0 + 0 ≤ _), (by decide : 0 + 0 ≤ _)⟩)
          dsimp only [Pt.U, Pt.locs, Pt.cells, Pt.slots] at X14 l14 y14 z14 st14 hQ14
          subst l14 y14 z14
          obtain ⟨rfl, N14q, eh14⟩ := hQ14
          have N14 := Fr.app N12 N14q
          refine OwnEnd.tr (S' := T14.setTop (mkF m 75 #[.val (.ref x0), .val (.int 1), .val (.int 1), .val (.int 4)] [(.int 4), (.int 4)])) st14 ?_
          refine OwnEnd.of (S' := T14.setTop (mkF m 94 #[.val (.ref x0), .val (.int 1), .val (.int 1), .val (.int 4)] [(.int 1)])) (fun _ kK => XS.icmpYes X14.here hx rfl (pc0 := 75) (pc' := 93) rfl (hb hby d23_75) rfl (flt ((by decide : ¬ ((4 : Int32) < (4 : Int32))))).2.1 (by decide) (by decide) (XS.iloadN X14.here hx rfl (hb hby d23_93) rfl kK)) ?_
          refine OwnEnd.ret X14 (v := (some (.int (nar .boolean (1 : Int32))))) (fun h => by rw [Bd.returns] at h; cases h) hlk (fun fs hr => retN X14 hx (t := .boolean) Bd.returns (by simp) (hb hby d23_94) hr) (by decide) (by decide) (Q := (own_Qint (own_abs [c0, c1, c2, c3])) h0 n0) eh14 ?_
          exact ⟨(by show some (Value.int (nar .boolean (1 : Int32))) = _; simp [own_abs, own_sch, own_tail, nar, hxc, hb5, hb9, hb13]), N14, rfl⟩
  · rw [hxc.1]
    refine OwnEnd.of (S' := T1.setTop (mkF m 11 #[.val (.ref x0), .val (.int 2), .unset, .unset] [])) (fun _ kK => XS.istoreN X1.here hx rfl (hb hby d23_6) rfl (l' := #[.val (.ref x0), .val (.int 2), .unset, .unset]) rfl (XS.iloadN X1.here hx rfl (hb hby d23_7) rfl (XS.ifNo X1.here hx rfl (hb hby d23_8) rfl ((if0 _ _).trans (tlt ((by decide : (0 : Int32) < (2 : Int32)))).2.2.2) kK))) ?_
    obtain ⟨T15, X15, e15, st15⟩ := getS2 X1 hx hZ hown (host := "") (Or.inl (own_w G 96 rfl)) Via.refl eh1 (ST0.ext O0.2) (g := (mkF m 11 #[.val (.ref x0), .val (.int 2), .unset, .unset] [])) rfl (hb hby d23_11)
    refine OwnEnd.of (S' := T15.setTop (mkF m 14 #[.val (.ref x0), .val (.int 2), .unset, .unset] [(.ref aT0)])) st15 ?_
    refine OwnEnd.of (S' := T15.setTop (mkF m 17 #[.val (.ref x0), .val (.int 2), .unset, .unset] [(.int 0), (.ref x0), (.int 0), (.ref aT0)])) (fun _ kK => XS.iconst X15.here hx rfl (hb hby d23_14) (XS.aloadN X15.here hx rfl (hb hby d23_15) rfl rfl (XS.iconst X15.here hx rfl (hb hby d23_16) kK))) ?_
    obtain ⟨cq16, kq16, q16a, q16b, q16c⟩ := isOf hZ e15 P0
    obtain ⟨_, _, ⟨T16, L16, k16, n16⟩, -, X16, ⟨Lc16, hQ16, l16, y16, z16⟩, st16⟩ := X15.virtualBack hx (y := own_m8) (z := own_m8) hown (mvT hZ (own_w G 98 rfl)) (mvT hZ (own_w G 99 rfl)) (notFace_of_selects (args := #[]) (mvT hZ (own_w G 101 rfl))) (mvT hZ (own_w G 101 rfl)) (mvT hZ (own_w G 100 rfl)) (by decide) (backOf (W := 2) (rmcA0 l Z a0 G [] x0 t kb (4 : Int32) ((([c0, c1, c2, c3] : List Int32).map (fun c => c.toInt8.toInt32)).map Value.int) (.int 0) (0 : Int32) c0 h0 n0 O0 P0 P1 P2 P3 (by decide : ¬ (0 : Int32) < (0 : Int32)) (by decide : (0 : Int32) < (4 : Int32)) (by rfl : ((([c0, c1, c2, c3] : List Int32).map (fun c => c.toInt8.toInt32)).map Value.int).getD (0 : Int32).toNatClampNeg (.int 0) = (.int (StrChars.lo8 c0))) (P4 c0 (by simp))) hZ (own_w G 102 rfl) (own_w G 8 rfl) (by decide) (by decide)) q16a q16c (g := (mkF m 17 #[.val (.ref x0), .val (.int 2), .unset, .unset] [(.int 0), (.ref x0), (.int 0), (.ref aT0)])) rfl (by rw [hml]; rfl) (Steps.refl _) (argsL := [(.int 0)]) (rest := [(.int 0), (.ref aT0)]) (lenOf pd_15 rfl) rfl (by show 2 * 0 + _ ≤ _; exact Nat.le_of_eq rfl) (hb hby d23_17) (fun _ _ => ⟨rfl, e15, (by decide : 0 + 0 ≤ _), (by decide : 0 + 0 ≤ _)⟩)
    dsimp only [Pt.U, Pt.locs, Pt.cells, Pt.slots] at X16 l16 y16 z16 st16 hQ16
    subst l16 y16 z16
    obtain ⟨rfl, N16q, eh16⟩ := hQ16
    have N16 := Fr.app N1 N16q
    refine OwnEnd.tr (S' := T16.setTop (mkF m 20 #[.val (.ref x0), .val (.int 2), .unset, .unset] [(.int c0), (.int 0), (.ref aT0)])) st16 ?_
    obtain ⟨_, _, ⟨T17, L17, k17, n17⟩, -, X17, ⟨Lc17, hQ17, l17, y17, z17⟩, st17⟩ := Jvm.LawKit.callS X16 hx (y := own_m17) hown (mvT hZ (own_w G 114 rfl)) (mvT hZ (own_w G 115 rfl)) (mvT hZ (own_w G 35 rfl)) (mvT hZ (own_w G 116 rfl)) (by decide) (backOf (W := 0) (rmii l Z a0 G [] aT0 own_letter (0 : Int32) c0 h0 n0 O0 TB0 (P4 c0 (by simp)) own_nbl (by decide : nar .boolean (0 : Int32) = (0 : Int32))) hZ (own_w G 116 rfl) (own_w G 35 rfl) (by decide) (by decide)) (g := (mkF m 20 #[.val (.ref x0), .val (.int 2), .unset, .unset] [(.int c0), (.int 0), (.ref aT0)])) rfl (by rw [hml]; rfl) (argsL := [(.ref aT0), (.int 0), (.int c0)]) (rest := []) (lenOf pd_9 rfl) rfl (by show 2 * 0 + _ ≤ _; exact Nat.le_of_eq rfl) (hb hby d23_20) (fun _ _ => ⟨rfl, eh16, (by decide : 0 + 0 ≤ _), (by decide : 0 + 0 ≤ _)⟩)
    dsimp only [Pt.U, Pt.locs, Pt.cells, Pt.slots] at X17 l17 y17 z17 st17 hQ17
    subst l17 y17 z17
    obtain ⟨rfl, N17q, eh17⟩ := hQ17
    have N17 := Fr.app N16 N17q
    refine OwnEnd.of (S' := T17.setTop (mkF m 23 #[.val (.ref x0), .val (.int 2), .unset, .unset] [(.int (if c0 < (128 : Int32) then own_letter c0 else (0 : Int32)))])) st17 ?_
    rw [own_letter_tab (P4 c0 (by simp))]
    rcases own_letter01 c0 with hb18 | hb18
    · rw [hb18]
      refine OwnEnd.of (S' := T17.setTop (mkF m 65 #[.val (.ref x0), .val (.int 2), .val (.int 0), .val (.int 1)] [(.int 3)])) (fun _ kK => XS.ifYes X17.here hx rfl (pc0 := 23) (pc' := 30) rfl (hb hby d23_23) rfl ((if0 _ _).trans (teq ((by decide : (0 : Int32) = (0 : Int32)))).1) (by decide) (by decide) (XS.iconst X17.here hx rfl (hb hby d23_30) (XS.istoreN X17.here hx rfl (hb hby d23_31) rfl (l' := #[.val (.ref x0), .val (.int 2), .val (.int 0), .unset]) rfl (XS.iconst X17.here hx rfl (hb hby d23_32) (XS.istoreN X17.here hx rfl (hb hby d23_33) rfl (l' := #[.val (.ref x0), .val (.int 2), .val (.int 0), .val (.int 1)]) rfl (XS.iloadN X17.here hx rfl (hb hby d23_34) rfl (XS.ifYes X17.here hx rfl (pc0 := 35) (pc' := 62) rfl (hb hby d23_35) rfl ((if0 _ _).trans (teq ((by decide : (0 : Int32) = (0 : Int32)))).1) (by decide) (by decide) (XS.iloadN X17.here hx rfl (hb hby d23_62) rfl (XS.iconst X17.here hx rfl (hb hby d23_63) (XS.iadd X17.here hx rfl (hb hby d23_64) rfl kK)))))))))) ?_
      refine OwnEnd.of (S' := T17.setTop (mkF m 94 #[.val (.ref x0), .val (.int 2), .val (.int 0), .val (.int 3)] [(.int 0)])) (fun _ kK => XS.istoreN X17.here hx rfl (hb hby d23_65) rfl (l' := #[.val (.ref x0), .val (.int 2), .val (.int 0), .val (.int 3)]) rfl (XS.iloadN X17.here hx rfl (hb hby d23_66) rfl (XS.ifYes X17.here hx rfl (pc0 := 67) (pc' := 93) rfl (hb hby d23_67) rfl ((if0 _ _).trans (teq ((by decide : (0 : Int32) = (0 : Int32)))).1) (by decide) (by decide) (XS.iloadN X17.here hx rfl (hb hby d23_93) rfl kK)))) ?_
      refine OwnEnd.ret X17 (v := (some (.int (nar .boolean (0 : Int32))))) (fun h => by rw [Bd.returns] at h; cases h) hlk (fun fs hr => retN X17 hx (t := .boolean) Bd.returns (by simp) (hb hby d23_94) hr) (by decide) (by decide) (Q := (own_Qint (own_abs [c0, c1, c2, c3])) h0 n0) eh17 ?_
      exact ⟨(by show some (Value.int (nar .boolean (0 : Int32))) = _; simp [own_abs, own_sch, own_tail, nar, hxc, hb18]), N17, rfl⟩
    · rw [hb18]
      refine OwnEnd.of (S' := T17.setTop (mkF m 40 #[.val (.ref x0), .val (.int 2), .val (.int 1), .val (.int 1)] [(.int 2), (.int 1)])) (fun _ kK => XS.ifNo X17.here hx rfl (hb hby d23_23) rfl ((if0 _ _).trans (feq ((by decide : ¬ ((1 : Int32) = (0 : Int32))))).1) (XS.iconst X17.here hx rfl (hb hby d23_26) (XS.goto X17.here hx rfl (pc0 := 27) (pc' := 31) rfl (hb hby d23_27) (by decide) (by decide) (XS.istoreN X17.here hx rfl (hb hby d23_31) rfl (l' := #[.val (.ref x0), .val (.int 2), .val (.int 1), .unset]) rfl (XS.iconst X17.here hx rfl (hb hby d23_32) (XS.istoreN X17.here hx rfl (hb hby d23_33) rfl (l' := #[.val (.ref x0), .val (.int 2), .val (.int 1), .val (.int 1)]) rfl (XS.iloadN X17.here hx rfl (hb hby d23_34) rfl (XS.ifNo X17.here hx rfl (hb hby d23_35) rfl ((if0 _ _).trans (feq ((by decide : ¬ ((1 : Int32) = (0 : Int32))))).1) (XS.iloadN X17.here hx rfl (hb hby d23_38) rfl (XS.iloadN X17.here hx rfl (hb hby d23_39) rfl kK)))))))))) ?_
      refine OwnEnd.of (S' := T17.setTop (mkF m 43 #[.val (.ref x0), .val (.int 2), .val (.int 1), .val (.int 1)] [])) (fun _ kK => XS.icmpNo X17.here hx rfl (hb hby d23_40) rfl (tlt ((by decide : (1 : Int32) < (2 : Int32)))).2.1 kK) ?_
      obtain ⟨T19, X19, e19, st19⟩ := getS2 X17 hx hZ hown (host := "") (Or.inl (own_w G 129 rfl)) Via.refl eh17 (ST1.ext O0.2) (g := (mkF m 43 #[.val (.ref x0), .val (.int 2), .val (.int 1), .val (.int 1)] [])) rfl (hb hby d23_43)
      refine OwnEnd.of (S' := T19.setTop (mkF m 46 #[.val (.ref x0), .val (.int 2), .val (.int 1), .val (.int 1)] [(.ref aT1)])) st19 ?_
      refine OwnEnd.of (S' := T19.setTop (mkF m 49 #[.val (.ref x0), .val (.int 2), .val (.int 1), .val (.int 1)] [(.int 1), (.ref x0), (.int 0), (.ref aT1)])) (fun _ kK => XS.iconst X19.here hx rfl (hb hby d23_46) (XS.aloadN X19.here hx rfl (hb hby d23_47) rfl rfl (XS.iloadN X19.here hx rfl (hb hby d23_48) rfl kK))) ?_
      obtain ⟨cq20, kq20, q20a, q20b, q20c⟩ := isOf hZ e19 P0
      obtain ⟨_, _, ⟨T20, L20, k20, n20⟩, -, X20, ⟨Lc20, hQ20, l20, y20, z20⟩, st20⟩ := X19.virtualBack hx (y := own_m8) (z := own_m8) hown (mvT hZ (own_w G 98 rfl)) (mvT hZ (own_w G 99 rfl)) (notFace_of_selects (args := #[]) (mvT hZ (own_w G 101 rfl))) (mvT hZ (own_w G 101 rfl)) (mvT hZ (own_w G 100 rfl)) (by decide) (backOf (W := 2) (rmcA0 l Z a0 G [] x0 t kb (4 : Int32) ((([c0, c1, c2, c3] : List Int32).map (fun c => c.toInt8.toInt32)).map Value.int) (.int 0) (1 : Int32) c1 h0 n0 O0 P0 P1 P2 P3 (by decide : ¬ (1 : Int32) < (0 : Int32)) (by decide : (1 : Int32) < (4 : Int32)) (by rfl : ((([c0, c1, c2, c3] : List Int32).map (fun c => c.toInt8.toInt32)).map Value.int).getD (1 : Int32).toNatClampNeg (.int 0) = (.int (StrChars.lo8 c1))) (P4 c1 (by simp))) hZ (own_w G 102 rfl) (own_w G 8 rfl) (by decide) (by decide)) q20a q20c (g := (mkF m 49 #[.val (.ref x0), .val (.int 2), .val (.int 1), .val (.int 1)] [(.int 1), (.ref x0), (.int 0), (.ref aT1)])) rfl (by rw [hml]; rfl) (Steps.refl _) (argsL := [(.int 1)]) (rest := [(.int 0), (.ref aT1)]) (lenOf pd_15 rfl) rfl (by show 2 * 0 + _ ≤ _; exact Nat.le_of_eq rfl) (hb hby d23_49) (fun _ _ => ⟨rfl, e19, (by decide : 0 + 0 ≤ _), (by decide : 0 + 0 ≤ _)⟩)
      dsimp only [Pt.U, Pt.locs, Pt.cells, Pt.slots] at X20 l20 y20 z20 st20 hQ20
      subst l20 y20 z20
      obtain ⟨rfl, N20q, eh20⟩ := hQ20
      have N20 := Fr.app N17 N20q
      refine OwnEnd.tr (S' := T20.setTop (mkF m 52 #[.val (.ref x0), .val (.int 2), .val (.int 1), .val (.int 1)] [(.int c1), (.int 0), (.ref aT1)])) st20 ?_
      obtain ⟨_, _, ⟨T21, L21, k21, n21⟩, -, X21, ⟨Lc21, hQ21, l21, y21, z21⟩, st21⟩ := Jvm.LawKit.callS X20 hx (y := own_m17) hown (mvT hZ (own_w G 114 rfl)) (mvT hZ (own_w G 115 rfl)) (mvT hZ (own_w G 35 rfl)) (mvT hZ (own_w G 116 rfl)) (by decide) (backOf (W := 0) (rmii l Z a0 G [] aT1 own_scheme (0 : Int32) c1 h0 n0 O0 TB1 (P4 c1 (by simp)) own_nbs (by decide : nar .boolean (0 : Int32) = (0 : Int32))) hZ (own_w G 116 rfl) (own_w G 35 rfl) (by decide) (by decide)) (g := (mkF m 52 #[.val (.ref x0), .val (.int 2), .val (.int 1), .val (.int 1)] [(.int c1), (.int 0), (.ref aT1)])) rfl (by rw [hml]; rfl) (argsL := [(.ref aT1), (.int 0), (.int c1)]) (rest := []) (lenOf pd_9 rfl) rfl (by show 2 * 0 + _ ≤ _; exact Nat.le_of_eq rfl) (hb hby d23_52) (fun _ _ => ⟨rfl, eh20, (by decide : 0 + 0 ≤ _), (by decide : 0 + 0 ≤ _)⟩)
      dsimp only [Pt.U, Pt.locs, Pt.cells, Pt.slots] at X21 l21 y21 z21 st21 hQ21
      subst l21 y21 z21
      obtain ⟨rfl, N21q, eh21⟩ := hQ21
      have N21 := Fr.app N20 N21q
      refine OwnEnd.of (S' := T21.setTop (mkF m 55 #[.val (.ref x0), .val (.int 2), .val (.int 1), .val (.int 1)] [(.int (if c1 < (128 : Int32) then own_scheme c1 else (0 : Int32)))])) st21 ?_
      rw [own_scheme_tab (P4 c1 (by simp))]
      rcases own_scheme01 c1 with hb22 | hb22
      · rw [hb22]
        refine OwnEnd.of (S' := T21.setTop (mkF m 67 #[.val (.ref x0), .val (.int 2), .val (.int 0), .val (.int 3)] [(.int 0)])) (fun _ kK => XS.istoreN X21.here hx rfl (hb hby d23_55) rfl (l' := #[.val (.ref x0), .val (.int 2), .val (.int 0), .val (.int 1)]) rfl (XS.iinc X21.here hx rfl (hb hby d23_56) rfl (l' := #[.val (.ref x0), .val (.int 2), .val (.int 0), .val (.int 2)]) rfl (XS.goto X21.here hx rfl (pc0 := 59) (pc' := 34) rfl (hb hby d23_59) (by decide) (by decide) (XS.iloadN X21.here hx rfl (hb hby d23_34) rfl (XS.ifYes X21.here hx rfl (pc0 := 35) (pc' := 62) rfl (hb hby d23_35) rfl ((if0 _ _).trans (teq ((by decide : (0 : Int32) = (0 : Int32)))).1) (by decide) (by decide) (XS.iloadN X21.here hx rfl (hb hby d23_62) rfl (XS.iconst X21.here hx rfl (hb hby d23_63) (XS.iadd X21.here hx rfl (hb hby d23_64) rfl (XS.istoreN X21.here hx rfl (hb hby d23_65) rfl (l' := #[.val (.ref x0), .val (.int 2), .val (.int 0), .val (.int 3)]) rfl (XS.iloadN X21.here hx rfl (hb hby d23_66) rfl kK)))))))))) ?_
        refine OwnEnd.of (S' := T21.setTop (mkF m 94 #[.val (.ref x0), .val (.int 2), .val (.int 0), .val (.int 3)] [(.int 0)])) (fun _ kK => XS.ifYes X21.here hx rfl (pc0 := 67) (pc' := 93) rfl (hb hby d23_67) rfl ((if0 _ _).trans (teq ((by decide : (0 : Int32) = (0 : Int32)))).1) (by decide) (by decide) (XS.iloadN X21.here hx rfl (hb hby d23_93) rfl kK)) ?_
        refine OwnEnd.ret X21 (v := (some (.int (nar .boolean (0 : Int32))))) (fun h => by rw [Bd.returns] at h; cases h) hlk (fun fs hr => retN X21 hx (t := .boolean) Bd.returns (by simp) (hb hby d23_94) hr) (by decide) (by decide) (Q := (own_Qint (own_abs [c0, c1, c2, c3])) h0 n0) eh21 ?_
        exact ⟨(by show some (Value.int (nar .boolean (0 : Int32))) = _; simp [own_abs, own_sch, own_tail, nar, hxc, hb18, hb22]), N21, rfl⟩
      · rw [hb22]
        refine OwnEnd.of (S' := T21.setTop (mkF m 64 #[.val (.ref x0), .val (.int 2), .val (.int 1), .val (.int 2)] [(.int 1), (.int 2)])) (fun _ kK => XS.istoreN X21.here hx rfl (hb hby d23_55) rfl (l' := #[.val (.ref x0), .val (.int 2), .val (.int 1), .val (.int 1)]) rfl (XS.iinc X21.here hx rfl (hb hby d23_56) rfl (l' := #[.val (.ref x0), .val (.int 2), .val (.int 1), .val (.int 2)]) rfl (XS.goto X21.here hx rfl (pc0 := 59) (pc' := 34) rfl (hb hby d23_59) (by decide) (by decide) (XS.iloadN X21.here hx rfl (hb hby d23_34) rfl (XS.ifNo X21.here hx rfl (hb hby d23_35) rfl ((if0 _ _).trans (feq ((by decide : ¬ ((1 : Int32) = (0 : Int32))))).1) (XS.iloadN X21.here hx rfl (hb hby d23_38) rfl (XS.iloadN X21.here hx rfl (hb hby d23_39) rfl (XS.icmpYes X21.here hx rfl (pc0 := 40) (pc' := 62) rfl (hb hby d23_40) rfl (flt ((by decide : ¬ ((2 : Int32) < (2 : Int32))))).2.1 (by decide) (by decide) (XS.iloadN X21.here hx rfl (hb hby d23_62) rfl (XS.iconst X21.here hx rfl (hb hby d23_63) kK)))))))))) ?_
        refine OwnEnd.of (S' := T21.setTop (mkF m 72 #[.val (.ref x0), .val (.int 2), .val (.int 1), .val (.int 3)] [(.ref x0), (.int 3)])) (fun _ kK => XS.iadd X21.here hx rfl (hb hby d23_64) rfl (XS.istoreN X21.here hx rfl (hb hby d23_65) rfl (l' := #[.val (.ref x0), .val (.int 2), .val (.int 1), .val (.int 3)]) rfl (XS.iloadN X21.here hx rfl (hb hby d23_66) rfl (XS.ifNo X21.here hx rfl (hb hby d23_67) rfl ((if0 _ _).trans (feq ((by decide : ¬ ((1 : Int32) = (0 : Int32))))).1) (XS.iloadN X21.here hx rfl (hb hby d23_70) rfl (XS.aloadN X21.here hx rfl (hb hby d23_71) rfl rfl kK)))))) ?_
        obtain ⟨cq23, kq23, q23a, q23b, q23c⟩ := isOf hZ eh21 P0
        obtain ⟨_, _, ⟨T23, L23, k23, n23⟩, -, X23, ⟨Lc23, hQ23, l23, y23, z23⟩, st23⟩ := X21.virtualBack hx (y := own_m6) (z := own_m6) hown (mvT hZ (own_w G 120 rfl)) (mvT hZ (own_w G 54 rfl)) (notFace_of_selects (args := #[]) (mvT hZ (own_w G 56 rfl))) (mvT hZ (own_w G 56 rfl)) (mvT hZ (own_w G 55 rfl)) (by decide) (backOf (W := 1) (rmln0 l Z a0 G [] x0 t kb (4 : Int32) ((([c0, c1, c2, c3] : List Int32).map (fun c => c.toInt8.toInt32)).map Value.int) (.int 0) h0 n0 O0 P0 P1 P2 P3) hZ (own_w G 57 rfl) (own_w G 8 rfl) (by decide) (by decide)) q23a q23c (g := (mkF m 72 #[.val (.ref x0), .val (.int 2), .val (.int 1), .val (.int 3)] [(.ref x0), (.int 3)])) rfl (by rw [hml]; rfl) (Steps.refl _) (argsL := []) (rest := [(.int 3)]) (lenOf pd_12 rfl) rfl (by show 2 * 0 + _ ≤ _; exact Nat.le_of_eq rfl) (hb hby d23_72) (fun _ _ => ⟨rfl, eh21, (by decide : 0 + 0 ≤ _), (by decide : 0 + 0 ≤ _)⟩)
        dsimp only [Pt.U, Pt.locs, Pt.cells, Pt.slots] at X23 l23 y23 z23 st23 hQ23
        subst l23 y23 z23
        obtain ⟨rfl, N23q, eh23⟩ := hQ23
        have N23 := Fr.app N21 N23q
        refine OwnEnd.tr (S' := T23.setTop (mkF m 75 #[.val (.ref x0), .val (.int 2), .val (.int 1), .val (.int 3)] [(.int 4), (.int 3)])) st23 ?_
        refine OwnEnd.of (S' := T23.setTop (mkF m 80 #[.val (.ref x0), .val (.int 2), .val (.int 1), .val (.int 3)] [(.int 3), (.ref x0)])) (fun _ kK => XS.icmpNo X23.here hx rfl (hb hby d23_75) rfl (tlt ((by decide : (3 : Int32) < (4 : Int32)))).2.1 (XS.aloadN X23.here hx rfl (hb hby d23_78) rfl rfl (XS.iloadN X23.here hx rfl (hb hby d23_79) rfl kK))) ?_
        obtain ⟨cq24, kq24, q24a, q24b, q24c⟩ := isOf hZ eh23 P0
        obtain ⟨_, _, ⟨T24, L24, k24, n24⟩, -, X24, ⟨Lc24, hQ24, l24, y24, z24⟩, st24⟩ := X23.virtualBack hx (y := own_m8) (z := own_m8) hown (mvT hZ (own_w G 98 rfl)) (mvT hZ (own_w G 99 rfl)) (notFace_of_selects (args := #[]) (mvT hZ (own_w G 101 rfl))) (mvT hZ (own_w G 101 rfl)) (mvT hZ (own_w G 100 rfl)) (by decide) (backOf (W := 0) (rmcA0 l Z a0 G [] x0 t kb (4 : Int32) ((([c0, c1, c2, c3] : List Int32).map (fun c => c.toInt8.toInt32)).map Value.int) (.int 0) (3 : Int32) c3 h0 n0 O0 P0 P1 P2 P3 (by decide : ¬ (3 : Int32) < (0 : Int32)) (by decide : (3 : Int32) < (4 : Int32)) (by rfl : ((([c0, c1, c2, c3] : List Int32).map (fun c => c.toInt8.toInt32)).map Value.int).getD (3 : Int32).toNatClampNeg (.int 0) = (.int (StrChars.lo8 c3))) (P4 c3 (by simp))) hZ (own_w G 102 rfl) (own_w G 8 rfl) (by decide) (by decide)) q24a q24c (g := (mkF m 80 #[.val (.ref x0), .val (.int 2), .val (.int 1), .val (.int 3)] [(.int 3), (.ref x0)])) rfl (by rw [hml]; rfl) (Steps.refl _) (argsL := [(.int 3)]) (rest := []) (lenOf pd_15 rfl) rfl (by show 2 * 0 + _ ≤ _; exact Nat.le_of_eq rfl) (hb hby d23_80) (fun _ _ => ⟨rfl, eh23, (by decide : 0 + 0 ≤ _), (by decide : 0 + 0 ≤ _)⟩)
        dsimp only [Pt.U, Pt.locs, Pt.cells, Pt.slots] at X24 l24 y24 z24 st24 hQ24
        subst l24 y24 z24
        obtain ⟨rfl, N24q, eh24⟩ := hQ24
        have N24 := Fr.app N23 N24q
        refine OwnEnd.tr (S' := T24.setTop (mkF m 83 #[.val (.ref x0), .val (.int 2), .val (.int 1), .val (.int 3)] [(.int c3)])) st24 ?_
        obtain ⟨_, _, ⟨T25, L25, k25, n25⟩, -, X25, ⟨Lc25, hQ25, l25, y25, z25⟩, st25⟩ := Jvm.LawKit.callS X24 hx (y := own_m18) hown (mvT hZ (own_w G 121 rfl)) (mvT hZ (own_w G 122 rfl)) (mvT hZ (own_w G 35 rfl)) (mvT hZ (own_w G 123 rfl)) (by decide) (backOf (W := 0) (rmim l Z a0 G [] c3 h0 n0 O0 (P4 c3 (by simp))) hZ (own_w G 123 rfl) (own_w G 35 rfl) (by decide) (by decide)) (g := (mkF m 83 #[.val (.ref x0), .val (.int 2), .val (.int 1), .val (.int 3)] [(.int c3)])) rfl (by rw [hml]; rfl) (argsL := [(.int c3)]) (rest := []) (lenOf pd_6 rfl) rfl (by show 2 * 0 + _ ≤ _; exact Nat.le_of_eq rfl) (hb hby d23_83) (fun _ _ => ⟨rfl, eh24, (by decide : 0 + 0 ≤ _), (by decide : 0 + 0 ≤ _)⟩)
        dsimp only [Pt.U, Pt.locs, Pt.cells, Pt.slots] at X25 l25 y25 z25 st25 hQ25
        subst l25 y25 z25
        obtain ⟨rfl, N25q, eh25⟩ := hQ25
        have N25 := Fr.app N24 N25q
        refine OwnEnd.of (S' := T25.setTop (mkF m 86 #[.val (.ref x0), .val (.int 2), .val (.int 1), .val (.int 3)] [(.int (own_hold c3))])) st25 ?_
        rcases own_hold01 c3 with hb26 | hb26
        · rw [hb26]
          refine OwnEnd.of (S' := T25.setTop (mkF m 94 #[.val (.ref x0), .val (.int 2), .val (.int 0), .val (.int 4)] [(.int 0)])) (fun _ kK => XS.istoreN X25.here hx rfl (hb hby d23_86) rfl (l' := #[.val (.ref x0), .val (.int 2), .val (.int 0), .val (.int 3)]) rfl (XS.iinc X25.here hx rfl (hb hby d23_87) rfl (l' := #[.val (.ref x0), .val (.int 2), .val (.int 0), .val (.int 4)]) rfl (XS.goto X25.here hx rfl (pc0 := 90) (pc' := 66) rfl (hb hby d23_90) (by decide) (by decide) (XS.iloadN X25.here hx rfl (hb hby d23_66) rfl (XS.ifYes X25.here hx rfl (pc0 := 67) (pc' := 93) rfl (hb hby d23_67) rfl ((if0 _ _).trans (teq ((by decide : (0 : Int32) = (0 : Int32)))).1) (by decide) (by decide) (XS.iloadN X25.here hx rfl (hb hby d23_93) rfl kK)))))) ?_
          refine OwnEnd.ret X25 (v := (some (.int (nar .boolean (0 : Int32))))) (fun h => by rw [Bd.returns] at h; cases h) hlk (fun fs hr => retN X25 hx (t := .boolean) Bd.returns (by simp) (hb hby d23_94) hr) (by decide) (by decide) (Q := (own_Qint (own_abs [c0, c1, c2, c3])) h0 n0) eh25 ?_
          exact ⟨(by show some (Value.int (nar .boolean (0 : Int32))) = _; simp [own_abs, own_sch, own_tail, nar, hxc, hb18, hb22, hb26]), N25, rfl⟩
        · rw [hb26]
          refine OwnEnd.of (S' := T25.setTop (mkF m 72 #[.val (.ref x0), .val (.int 2), .val (.int 1), .val (.int 4)] [(.ref x0), (.int 4)])) (fun _ kK => XS.istoreN X25.here hx rfl (hb hby d23_86) rfl (l' := #[.val (.ref x0), .val (.int 2), .val (.int 1), .val (.int 3)]) rfl (XS.iinc X25.here hx rfl (hb hby d23_87) rfl (l' := #[.val (.ref x0), .val (.int 2), .val (.int 1), .val (.int 4)]) rfl (XS.goto X25.here hx rfl (pc0 := 90) (pc' := 66) rfl (hb hby d23_90) (by decide) (by decide) (XS.iloadN X25.here hx rfl (hb hby d23_66) rfl (XS.ifNo X25.here hx rfl (hb hby d23_67) rfl ((if0 _ _).trans (feq ((by decide : ¬ ((1 : Int32) = (0 : Int32))))).1) (XS.iloadN X25.here hx rfl (hb hby d23_70) rfl (XS.aloadN X25.here hx rfl (hb hby d23_71) rfl rfl kK))))))) ?_
          obtain ⟨cq27, kq27, q27a, q27b, q27c⟩ := isOf hZ eh25 P0
          obtain ⟨_, _, ⟨T27, L27, k27, n27⟩, -, X27, ⟨Lc27, hQ27, l27, y27, z27⟩, st27⟩ := X25.virtualBack hx (y := own_m6) (z := own_m6) hown (mvT hZ (own_w G 120 rfl)) (mvT hZ (own_w G 54 rfl)) (notFace_of_selects (args := #[]) (mvT hZ (own_w G 56 rfl))) (mvT hZ (own_w G 56 rfl)) (mvT hZ (own_w G 55 rfl)) (by decide) (backOf (W := 1) (rmln0 l Z a0 G [] x0 t kb (4 : Int32) ((([c0, c1, c2, c3] : List Int32).map (fun c => c.toInt8.toInt32)).map Value.int) (.int 0) h0 n0 O0 P0 P1 P2 P3) hZ (own_w G 57 rfl) (own_w G 8 rfl) (by decide) (by decide)) q27a q27c (g := (mkF m 72 #[.val (.ref x0), .val (.int 2), .val (.int 1), .val (.int 4)] [(.ref x0), (.int 4)])) rfl (by rw [hml]; rfl) (Steps.refl _) (argsL := []) (rest := [(.int 4)]) (lenOf pd_12 rfl) rfl (by show 2 * 0 + _ ≤ _; exact Nat.le_of_eq rfl) (hb hby d23_72) (fun _ _ => ⟨rfl, eh25, (by decide : 0 + 0 ≤ _), (by decide : 0 + 0 ≤ _)⟩)
          dsimp only [Pt.U, Pt.locs, Pt.cells, Pt.slots] at X27 l27 y27 z27 st27 hQ27
          subst l27 y27 z27
          obtain ⟨rfl, N27q, eh27⟩ := hQ27
          have N27 := Fr.app N25 N27q
          refine OwnEnd.tr (S' := T27.setTop (mkF m 75 #[.val (.ref x0), .val (.int 2), .val (.int 1), .val (.int 4)] [(.int 4), (.int 4)])) st27 ?_
          refine OwnEnd.of (S' := T27.setTop (mkF m 94 #[.val (.ref x0), .val (.int 2), .val (.int 1), .val (.int 4)] [(.int 1)])) (fun _ kK => XS.icmpYes X27.here hx rfl (pc0 := 75) (pc' := 93) rfl (hb hby d23_75) rfl (flt ((by decide : ¬ ((4 : Int32) < (4 : Int32))))).2.1 (by decide) (by decide) (XS.iloadN X27.here hx rfl (hb hby d23_93) rfl kK)) ?_
          refine OwnEnd.ret X27 (v := (some (.int (nar .boolean (1 : Int32))))) (fun h => by rw [Bd.returns] at h; cases h) hlk (fun fs hr => retN X27 hx (t := .boolean) Bd.returns (by simp) (hb hby d23_94) hr) (by decide) (by decide) (Q := (own_Qint (own_abs [c0, c1, c2, c3])) h0 n0) eh27 ?_
          exact ⟨(by show some (Value.int (nar .boolean (1 : Int32))) = _; simp [own_abs, own_sch, own_tail, nar, hxc, hb18, hb22, hb26]), N27, rfl⟩
  · rw [hxc.1]
    refine OwnEnd.of (S' := T1.setTop (mkF m 11 #[.val (.ref x0), .val (.int 3), .unset, .unset] [])) (fun _ kK => XS.istoreN X1.here hx rfl (hb hby d23_6) rfl (l' := #[.val (.ref x0), .val (.int 3), .unset, .unset]) rfl (XS.iloadN X1.here hx rfl (hb hby d23_7) rfl (XS.ifNo X1.here hx rfl (hb hby d23_8) rfl ((if0 _ _).trans (tlt ((by decide : (0 : Int32) < (3 : Int32)))).2.2.2) kK))) ?_
    obtain ⟨T28, X28, e28, st28⟩ := getS2 X1 hx hZ hown (host := "") (Or.inl (own_w G 96 rfl)) Via.refl eh1 (ST0.ext O0.2) (g := (mkF m 11 #[.val (.ref x0), .val (.int 3), .unset, .unset] [])) rfl (hb hby d23_11)
    refine OwnEnd.of (S' := T28.setTop (mkF m 14 #[.val (.ref x0), .val (.int 3), .unset, .unset] [(.ref aT0)])) st28 ?_
    refine OwnEnd.of (S' := T28.setTop (mkF m 17 #[.val (.ref x0), .val (.int 3), .unset, .unset] [(.int 0), (.ref x0), (.int 0), (.ref aT0)])) (fun _ kK => XS.iconst X28.here hx rfl (hb hby d23_14) (XS.aloadN X28.here hx rfl (hb hby d23_15) rfl rfl (XS.iconst X28.here hx rfl (hb hby d23_16) kK))) ?_
    obtain ⟨cq29, kq29, q29a, q29b, q29c⟩ := isOf hZ e28 P0
    obtain ⟨_, _, ⟨T29, L29, k29, n29⟩, -, X29, ⟨Lc29, hQ29, l29, y29, z29⟩, st29⟩ := X28.virtualBack hx (y := own_m8) (z := own_m8) hown (mvT hZ (own_w G 98 rfl)) (mvT hZ (own_w G 99 rfl)) (notFace_of_selects (args := #[]) (mvT hZ (own_w G 101 rfl))) (mvT hZ (own_w G 101 rfl)) (mvT hZ (own_w G 100 rfl)) (by decide) (backOf (W := 2) (rmcA0 l Z a0 G [] x0 t kb (4 : Int32) ((([c0, c1, c2, c3] : List Int32).map (fun c => c.toInt8.toInt32)).map Value.int) (.int 0) (0 : Int32) c0 h0 n0 O0 P0 P1 P2 P3 (by decide : ¬ (0 : Int32) < (0 : Int32)) (by decide : (0 : Int32) < (4 : Int32)) (by rfl : ((([c0, c1, c2, c3] : List Int32).map (fun c => c.toInt8.toInt32)).map Value.int).getD (0 : Int32).toNatClampNeg (.int 0) = (.int (StrChars.lo8 c0))) (P4 c0 (by simp))) hZ (own_w G 102 rfl) (own_w G 8 rfl) (by decide) (by decide)) q29a q29c (g := (mkF m 17 #[.val (.ref x0), .val (.int 3), .unset, .unset] [(.int 0), (.ref x0), (.int 0), (.ref aT0)])) rfl (by rw [hml]; rfl) (Steps.refl _) (argsL := [(.int 0)]) (rest := [(.int 0), (.ref aT0)]) (lenOf pd_15 rfl) rfl (by show 2 * 0 + _ ≤ _; exact Nat.le_of_eq rfl) (hb hby d23_17) (fun _ _ => ⟨rfl, e28, (by decide : 0 + 0 ≤ _), (by decide : 0 + 0 ≤ _)⟩)
    dsimp only [Pt.U, Pt.locs, Pt.cells, Pt.slots] at X29 l29 y29 z29 st29 hQ29
    subst l29 y29 z29
    obtain ⟨rfl, N29q, eh29⟩ := hQ29
    have N29 := Fr.app N1 N29q
    refine OwnEnd.tr (S' := T29.setTop (mkF m 20 #[.val (.ref x0), .val (.int 3), .unset, .unset] [(.int c0), (.int 0), (.ref aT0)])) st29 ?_
    obtain ⟨_, _, ⟨T30, L30, k30, n30⟩, -, X30, ⟨Lc30, hQ30, l30, y30, z30⟩, st30⟩ := Jvm.LawKit.callS X29 hx (y := own_m17) hown (mvT hZ (own_w G 114 rfl)) (mvT hZ (own_w G 115 rfl)) (mvT hZ (own_w G 35 rfl)) (mvT hZ (own_w G 116 rfl)) (by decide) (backOf (W := 0) (rmii l Z a0 G [] aT0 own_letter (0 : Int32) c0 h0 n0 O0 TB0 (P4 c0 (by simp)) own_nbl (by decide : nar .boolean (0 : Int32) = (0 : Int32))) hZ (own_w G 116 rfl) (own_w G 35 rfl) (by decide) (by decide)) (g := (mkF m 20 #[.val (.ref x0), .val (.int 3), .unset, .unset] [(.int c0), (.int 0), (.ref aT0)])) rfl (by rw [hml]; rfl) (argsL := [(.ref aT0), (.int 0), (.int c0)]) (rest := []) (lenOf pd_9 rfl) rfl (by show 2 * 0 + _ ≤ _; exact Nat.le_of_eq rfl) (hb hby d23_20) (fun _ _ => ⟨rfl, eh29, (by decide : 0 + 0 ≤ _), (by decide : 0 + 0 ≤ _)⟩)
    dsimp only [Pt.U, Pt.locs, Pt.cells, Pt.slots] at X30 l30 y30 z30 st30 hQ30
    subst l30 y30 z30
    obtain ⟨rfl, N30q, eh30⟩ := hQ30
    have N30 := Fr.app N29 N30q
    refine OwnEnd.of (S' := T30.setTop (mkF m 23 #[.val (.ref x0), .val (.int 3), .unset, .unset] [(.int (if c0 < (128 : Int32) then own_letter c0 else (0 : Int32)))])) st30 ?_
    rw [own_letter_tab (P4 c0 (by simp))]
    rcases own_letter01 c0 with hb31 | hb31
    · rw [hb31]
      refine OwnEnd.of (S' := T30.setTop (mkF m 65 #[.val (.ref x0), .val (.int 3), .val (.int 0), .val (.int 1)] [(.int 4)])) (fun _ kK => XS.ifYes X30.here hx rfl (pc0 := 23) (pc' := 30) rfl (hb hby d23_23) rfl ((if0 _ _).trans (teq ((by decide : (0 : Int32) = (0 : Int32)))).1) (by decide) (by decide) (XS.iconst X30.here hx rfl (hb hby d23_30) (XS.istoreN X30.here hx rfl (hb hby d23_31) rfl (l' := #[.val (.ref x0), .val (.int 3), .val (.int 0), .unset]) rfl (XS.iconst X30.here hx rfl (hb hby d23_32) (XS.istoreN X30.here hx rfl (hb hby d23_33) rfl (l' := #[.val (.ref x0), .val (.int 3), .val (.int 0), .val (.int 1)]) rfl (XS.iloadN X30.here hx rfl (hb hby d23_34) rfl (XS.ifYes X30.here hx rfl (pc0 := 35) (pc' := 62) rfl (hb hby d23_35) rfl ((if0 _ _).trans (teq ((by decide : (0 : Int32) = (0 : Int32)))).1) (by decide) (by decide) (XS.iloadN X30.here hx rfl (hb hby d23_62) rfl (XS.iconst X30.here hx rfl (hb hby d23_63) (XS.iadd X30.here hx rfl (hb hby d23_64) rfl kK)))))))))) ?_
      refine OwnEnd.of (S' := T30.setTop (mkF m 94 #[.val (.ref x0), .val (.int 3), .val (.int 0), .val (.int 4)] [(.int 0)])) (fun _ kK => XS.istoreN X30.here hx rfl (hb hby d23_65) rfl (l' := #[.val (.ref x0), .val (.int 3), .val (.int 0), .val (.int 4)]) rfl (XS.iloadN X30.here hx rfl (hb hby d23_66) rfl (XS.ifYes X30.here hx rfl (pc0 := 67) (pc' := 93) rfl (hb hby d23_67) rfl ((if0 _ _).trans (teq ((by decide : (0 : Int32) = (0 : Int32)))).1) (by decide) (by decide) (XS.iloadN X30.here hx rfl (hb hby d23_93) rfl kK)))) ?_
      refine OwnEnd.ret X30 (v := (some (.int (nar .boolean (0 : Int32))))) (fun h => by rw [Bd.returns] at h; cases h) hlk (fun fs hr => retN X30 hx (t := .boolean) Bd.returns (by simp) (hb hby d23_94) hr) (by decide) (by decide) (Q := (own_Qint (own_abs [c0, c1, c2, c3])) h0 n0) eh30 ?_
      exact ⟨(by show some (Value.int (nar .boolean (0 : Int32))) = _; simp [own_abs, own_sch, own_tail, nar, hxc, hb31]), N30, rfl⟩
    · rw [hb31]
      refine OwnEnd.of (S' := T30.setTop (mkF m 40 #[.val (.ref x0), .val (.int 3), .val (.int 1), .val (.int 1)] [(.int 3), (.int 1)])) (fun _ kK => XS.ifNo X30.here hx rfl (hb hby d23_23) rfl ((if0 _ _).trans (feq ((by decide : ¬ ((1 : Int32) = (0 : Int32))))).1) (XS.iconst X30.here hx rfl (hb hby d23_26) (XS.goto X30.here hx rfl (pc0 := 27) (pc' := 31) rfl (hb hby d23_27) (by decide) (by decide) (XS.istoreN X30.here hx rfl (hb hby d23_31) rfl (l' := #[.val (.ref x0), .val (.int 3), .val (.int 1), .unset]) rfl (XS.iconst X30.here hx rfl (hb hby d23_32) (XS.istoreN X30.here hx rfl (hb hby d23_33) rfl (l' := #[.val (.ref x0), .val (.int 3), .val (.int 1), .val (.int 1)]) rfl (XS.iloadN X30.here hx rfl (hb hby d23_34) rfl (XS.ifNo X30.here hx rfl (hb hby d23_35) rfl ((if0 _ _).trans (feq ((by decide : ¬ ((1 : Int32) = (0 : Int32))))).1) (XS.iloadN X30.here hx rfl (hb hby d23_38) rfl (XS.iloadN X30.here hx rfl (hb hby d23_39) rfl kK)))))))))) ?_
      refine OwnEnd.of (S' := T30.setTop (mkF m 43 #[.val (.ref x0), .val (.int 3), .val (.int 1), .val (.int 1)] [])) (fun _ kK => XS.icmpNo X30.here hx rfl (hb hby d23_40) rfl (tlt ((by decide : (1 : Int32) < (3 : Int32)))).2.1 kK) ?_
      obtain ⟨T32, X32, e32, st32⟩ := getS2 X30 hx hZ hown (host := "") (Or.inl (own_w G 129 rfl)) Via.refl eh30 (ST1.ext O0.2) (g := (mkF m 43 #[.val (.ref x0), .val (.int 3), .val (.int 1), .val (.int 1)] [])) rfl (hb hby d23_43)
      refine OwnEnd.of (S' := T32.setTop (mkF m 46 #[.val (.ref x0), .val (.int 3), .val (.int 1), .val (.int 1)] [(.ref aT1)])) st32 ?_
      refine OwnEnd.of (S' := T32.setTop (mkF m 49 #[.val (.ref x0), .val (.int 3), .val (.int 1), .val (.int 1)] [(.int 1), (.ref x0), (.int 0), (.ref aT1)])) (fun _ kK => XS.iconst X32.here hx rfl (hb hby d23_46) (XS.aloadN X32.here hx rfl (hb hby d23_47) rfl rfl (XS.iloadN X32.here hx rfl (hb hby d23_48) rfl kK))) ?_
      obtain ⟨cq33, kq33, q33a, q33b, q33c⟩ := isOf hZ e32 P0
      obtain ⟨_, _, ⟨T33, L33, k33, n33⟩, -, X33, ⟨Lc33, hQ33, l33, y33, z33⟩, st33⟩ := X32.virtualBack hx (y := own_m8) (z := own_m8) hown (mvT hZ (own_w G 98 rfl)) (mvT hZ (own_w G 99 rfl)) (notFace_of_selects (args := #[]) (mvT hZ (own_w G 101 rfl))) (mvT hZ (own_w G 101 rfl)) (mvT hZ (own_w G 100 rfl)) (by decide) (backOf (W := 2) (rmcA0 l Z a0 G [] x0 t kb (4 : Int32) ((([c0, c1, c2, c3] : List Int32).map (fun c => c.toInt8.toInt32)).map Value.int) (.int 0) (1 : Int32) c1 h0 n0 O0 P0 P1 P2 P3 (by decide : ¬ (1 : Int32) < (0 : Int32)) (by decide : (1 : Int32) < (4 : Int32)) (by rfl : ((([c0, c1, c2, c3] : List Int32).map (fun c => c.toInt8.toInt32)).map Value.int).getD (1 : Int32).toNatClampNeg (.int 0) = (.int (StrChars.lo8 c1))) (P4 c1 (by simp))) hZ (own_w G 102 rfl) (own_w G 8 rfl) (by decide) (by decide)) q33a q33c (g := (mkF m 49 #[.val (.ref x0), .val (.int 3), .val (.int 1), .val (.int 1)] [(.int 1), (.ref x0), (.int 0), (.ref aT1)])) rfl (by rw [hml]; rfl) (Steps.refl _) (argsL := [(.int 1)]) (rest := [(.int 0), (.ref aT1)]) (lenOf pd_15 rfl) rfl (by show 2 * 0 + _ ≤ _; exact Nat.le_of_eq rfl) (hb hby d23_49) (fun _ _ => ⟨rfl, e32, (by decide : 0 + 0 ≤ _), (by decide : 0 + 0 ≤ _)⟩)
      dsimp only [Pt.U, Pt.locs, Pt.cells, Pt.slots] at X33 l33 y33 z33 st33 hQ33
      subst l33 y33 z33
      obtain ⟨rfl, N33q, eh33⟩ := hQ33
      have N33 := Fr.app N30 N33q
      refine OwnEnd.tr (S' := T33.setTop (mkF m 52 #[.val (.ref x0), .val (.int 3), .val (.int 1), .val (.int 1)] [(.int c1), (.int 0), (.ref aT1)])) st33 ?_
      obtain ⟨_, _, ⟨T34, L34, k34, n34⟩, -, X34, ⟨Lc34, hQ34, l34, y34, z34⟩, st34⟩ := Jvm.LawKit.callS X33 hx (y := own_m17) hown (mvT hZ (own_w G 114 rfl)) (mvT hZ (own_w G 115 rfl)) (mvT hZ (own_w G 35 rfl)) (mvT hZ (own_w G 116 rfl)) (by decide) (backOf (W := 0) (rmii l Z a0 G [] aT1 own_scheme (0 : Int32) c1 h0 n0 O0 TB1 (P4 c1 (by simp)) own_nbs (by decide : nar .boolean (0 : Int32) = (0 : Int32))) hZ (own_w G 116 rfl) (own_w G 35 rfl) (by decide) (by decide)) (g := (mkF m 52 #[.val (.ref x0), .val (.int 3), .val (.int 1), .val (.int 1)] [(.int c1), (.int 0), (.ref aT1)])) rfl (by rw [hml]; rfl) (argsL := [(.ref aT1), (.int 0), (.int c1)]) (rest := []) (lenOf pd_9 rfl) rfl (by show 2 * 0 + _ ≤ _; exact Nat.le_of_eq rfl) (hb hby d23_52) (fun _ _ => ⟨rfl, eh33, (by decide : 0 + 0 ≤ _), (by decide : 0 + 0 ≤ _)⟩)
      dsimp only [Pt.U, Pt.locs, Pt.cells, Pt.slots] at X34 l34 y34 z34 st34 hQ34
      subst l34 y34 z34
      obtain ⟨rfl, N34q, eh34⟩ := hQ34
      have N34 := Fr.app N33 N34q
      refine OwnEnd.of (S' := T34.setTop (mkF m 55 #[.val (.ref x0), .val (.int 3), .val (.int 1), .val (.int 1)] [(.int (if c1 < (128 : Int32) then own_scheme c1 else (0 : Int32)))])) st34 ?_
      rw [own_scheme_tab (P4 c1 (by simp))]
      rcases own_scheme01 c1 with hb35 | hb35
      · rw [hb35]
        refine OwnEnd.of (S' := T34.setTop (mkF m 67 #[.val (.ref x0), .val (.int 3), .val (.int 0), .val (.int 4)] [(.int 0)])) (fun _ kK => XS.istoreN X34.here hx rfl (hb hby d23_55) rfl (l' := #[.val (.ref x0), .val (.int 3), .val (.int 0), .val (.int 1)]) rfl (XS.iinc X34.here hx rfl (hb hby d23_56) rfl (l' := #[.val (.ref x0), .val (.int 3), .val (.int 0), .val (.int 2)]) rfl (XS.goto X34.here hx rfl (pc0 := 59) (pc' := 34) rfl (hb hby d23_59) (by decide) (by decide) (XS.iloadN X34.here hx rfl (hb hby d23_34) rfl (XS.ifYes X34.here hx rfl (pc0 := 35) (pc' := 62) rfl (hb hby d23_35) rfl ((if0 _ _).trans (teq ((by decide : (0 : Int32) = (0 : Int32)))).1) (by decide) (by decide) (XS.iloadN X34.here hx rfl (hb hby d23_62) rfl (XS.iconst X34.here hx rfl (hb hby d23_63) (XS.iadd X34.here hx rfl (hb hby d23_64) rfl (XS.istoreN X34.here hx rfl (hb hby d23_65) rfl (l' := #[.val (.ref x0), .val (.int 3), .val (.int 0), .val (.int 4)]) rfl (XS.iloadN X34.here hx rfl (hb hby d23_66) rfl kK)))))))))) ?_
        refine OwnEnd.of (S' := T34.setTop (mkF m 94 #[.val (.ref x0), .val (.int 3), .val (.int 0), .val (.int 4)] [(.int 0)])) (fun _ kK => XS.ifYes X34.here hx rfl (pc0 := 67) (pc' := 93) rfl (hb hby d23_67) rfl ((if0 _ _).trans (teq ((by decide : (0 : Int32) = (0 : Int32)))).1) (by decide) (by decide) (XS.iloadN X34.here hx rfl (hb hby d23_93) rfl kK)) ?_
        refine OwnEnd.ret X34 (v := (some (.int (nar .boolean (0 : Int32))))) (fun h => by rw [Bd.returns] at h; cases h) hlk (fun fs hr => retN X34 hx (t := .boolean) Bd.returns (by simp) (hb hby d23_94) hr) (by decide) (by decide) (Q := (own_Qint (own_abs [c0, c1, c2, c3])) h0 n0) eh34 ?_
        exact ⟨(by show some (Value.int (nar .boolean (0 : Int32))) = _; simp [own_abs, own_sch, own_tail, nar, hxc, hb31, hb35]), N34, rfl⟩
      · rw [hb35]
        refine OwnEnd.of (S' := T34.setTop (mkF m 43 #[.val (.ref x0), .val (.int 3), .val (.int 1), .val (.int 2)] [])) (fun _ kK => XS.istoreN X34.here hx rfl (hb hby d23_55) rfl (l' := #[.val (.ref x0), .val (.int 3), .val (.int 1), .val (.int 1)]) rfl (XS.iinc X34.here hx rfl (hb hby d23_56) rfl (l' := #[.val (.ref x0), .val (.int 3), .val (.int 1), .val (.int 2)]) rfl (XS.goto X34.here hx rfl (pc0 := 59) (pc' := 34) rfl (hb hby d23_59) (by decide) (by decide) (XS.iloadN X34.here hx rfl (hb hby d23_34) rfl (XS.ifNo X34.here hx rfl (hb hby d23_35) rfl ((if0 _ _).trans (feq ((by decide : ¬ ((1 : Int32) = (0 : Int32))))).1) (XS.iloadN X34.here hx rfl (hb hby d23_38) rfl (XS.iloadN X34.here hx rfl (hb hby d23_39) rfl (XS.icmpNo X34.here hx rfl (hb hby d23_40) rfl (tlt ((by decide : (2 : Int32) < (3 : Int32)))).2.1 kK)))))))) ?_
        obtain ⟨T36, X36, e36, st36⟩ := getS2 X34 hx hZ hown (host := "") (Or.inl (own_w G 129 rfl)) Via.refl eh34 (ST1.ext O0.2) (g := (mkF m 43 #[.val (.ref x0), .val (.int 3), .val (.int 1), .val (.int 2)] [])) rfl (hb hby d23_43)
        refine OwnEnd.of (S' := T36.setTop (mkF m 46 #[.val (.ref x0), .val (.int 3), .val (.int 1), .val (.int 2)] [(.ref aT1)])) st36 ?_
        refine OwnEnd.of (S' := T36.setTop (mkF m 49 #[.val (.ref x0), .val (.int 3), .val (.int 1), .val (.int 2)] [(.int 2), (.ref x0), (.int 0), (.ref aT1)])) (fun _ kK => XS.iconst X36.here hx rfl (hb hby d23_46) (XS.aloadN X36.here hx rfl (hb hby d23_47) rfl rfl (XS.iloadN X36.here hx rfl (hb hby d23_48) rfl kK))) ?_
        obtain ⟨cq37, kq37, q37a, q37b, q37c⟩ := isOf hZ e36 P0
        obtain ⟨_, _, ⟨T37, L37, k37, n37⟩, -, X37, ⟨Lc37, hQ37, l37, y37, z37⟩, st37⟩ := X36.virtualBack hx (y := own_m8) (z := own_m8) hown (mvT hZ (own_w G 98 rfl)) (mvT hZ (own_w G 99 rfl)) (notFace_of_selects (args := #[]) (mvT hZ (own_w G 101 rfl))) (mvT hZ (own_w G 101 rfl)) (mvT hZ (own_w G 100 rfl)) (by decide) (backOf (W := 2) (rmcA0 l Z a0 G [] x0 t kb (4 : Int32) ((([c0, c1, c2, c3] : List Int32).map (fun c => c.toInt8.toInt32)).map Value.int) (.int 0) (2 : Int32) c2 h0 n0 O0 P0 P1 P2 P3 (by decide : ¬ (2 : Int32) < (0 : Int32)) (by decide : (2 : Int32) < (4 : Int32)) (by rfl : ((([c0, c1, c2, c3] : List Int32).map (fun c => c.toInt8.toInt32)).map Value.int).getD (2 : Int32).toNatClampNeg (.int 0) = (.int (StrChars.lo8 c2))) (P4 c2 (by simp))) hZ (own_w G 102 rfl) (own_w G 8 rfl) (by decide) (by decide)) q37a q37c (g := (mkF m 49 #[.val (.ref x0), .val (.int 3), .val (.int 1), .val (.int 2)] [(.int 2), (.ref x0), (.int 0), (.ref aT1)])) rfl (by rw [hml]; rfl) (Steps.refl _) (argsL := [(.int 2)]) (rest := [(.int 0), (.ref aT1)]) (lenOf pd_15 rfl) rfl (by show 2 * 0 + _ ≤ _; exact Nat.le_of_eq rfl) (hb hby d23_49) (fun _ _ => ⟨rfl, e36, (by decide : 0 + 0 ≤ _), (by decide : 0 + 0 ≤ _)⟩)
        dsimp only [Pt.U, Pt.locs, Pt.cells, Pt.slots] at X37 l37 y37 z37 st37 hQ37
        subst l37 y37 z37
        obtain ⟨rfl, N37q, eh37⟩ := hQ37
        have N37 := Fr.app N34 N37q
        refine OwnEnd.tr (S' := T37.setTop (mkF m 52 #[.val (.ref x0), .val (.int 3), .val (.int 1), .val (.int 2)] [(.int c2), (.int 0), (.ref aT1)])) st37 ?_
        obtain ⟨_, _, ⟨T38, L38, k38, n38⟩, -, X38, ⟨Lc38, hQ38, l38, y38, z38⟩, st38⟩ := Jvm.LawKit.callS X37 hx (y := own_m17) hown (mvT hZ (own_w G 114 rfl)) (mvT hZ (own_w G 115 rfl)) (mvT hZ (own_w G 35 rfl)) (mvT hZ (own_w G 116 rfl)) (by decide) (backOf (W := 0) (rmii l Z a0 G [] aT1 own_scheme (0 : Int32) c2 h0 n0 O0 TB1 (P4 c2 (by simp)) own_nbs (by decide : nar .boolean (0 : Int32) = (0 : Int32))) hZ (own_w G 116 rfl) (own_w G 35 rfl) (by decide) (by decide)) (g := (mkF m 52 #[.val (.ref x0), .val (.int 3), .val (.int 1), .val (.int 2)] [(.int c2), (.int 0), (.ref aT1)])) rfl (by rw [hml]; rfl) (argsL := [(.ref aT1), (.int 0), (.int c2)]) (rest := []) (lenOf pd_9 rfl) rfl (by show 2 * 0 + _ ≤ _; exact Nat.le_of_eq rfl) (hb hby d23_52) (fun _ _ => ⟨rfl, eh37, (by decide : 0 + 0 ≤ _), (by decide : 0 + 0 ≤ _)⟩)
        dsimp only [Pt.U, Pt.locs, Pt.cells, Pt.slots] at X38 l38 y38 z38 st38 hQ38
        subst l38 y38 z38
        obtain ⟨rfl, N38q, eh38⟩ := hQ38
        have N38 := Fr.app N37 N38q
        refine OwnEnd.of (S' := T38.setTop (mkF m 55 #[.val (.ref x0), .val (.int 3), .val (.int 1), .val (.int 2)] [(.int (if c2 < (128 : Int32) then own_scheme c2 else (0 : Int32)))])) st38 ?_
        rw [own_scheme_tab (P4 c2 (by simp))]
        rcases own_scheme01 c2 with hb39 | hb39
        · rw [hb39]
          refine OwnEnd.of (S' := T38.setTop (mkF m 67 #[.val (.ref x0), .val (.int 3), .val (.int 0), .val (.int 4)] [(.int 0)])) (fun _ kK => XS.istoreN X38.here hx rfl (hb hby d23_55) rfl (l' := #[.val (.ref x0), .val (.int 3), .val (.int 0), .val (.int 2)]) rfl (XS.iinc X38.here hx rfl (hb hby d23_56) rfl (l' := #[.val (.ref x0), .val (.int 3), .val (.int 0), .val (.int 3)]) rfl (XS.goto X38.here hx rfl (pc0 := 59) (pc' := 34) rfl (hb hby d23_59) (by decide) (by decide) (XS.iloadN X38.here hx rfl (hb hby d23_34) rfl (XS.ifYes X38.here hx rfl (pc0 := 35) (pc' := 62) rfl (hb hby d23_35) rfl ((if0 _ _).trans (teq ((by decide : (0 : Int32) = (0 : Int32)))).1) (by decide) (by decide) (XS.iloadN X38.here hx rfl (hb hby d23_62) rfl (XS.iconst X38.here hx rfl (hb hby d23_63) (XS.iadd X38.here hx rfl (hb hby d23_64) rfl (XS.istoreN X38.here hx rfl (hb hby d23_65) rfl (l' := #[.val (.ref x0), .val (.int 3), .val (.int 0), .val (.int 4)]) rfl (XS.iloadN X38.here hx rfl (hb hby d23_66) rfl kK)))))))))) ?_
          refine OwnEnd.of (S' := T38.setTop (mkF m 94 #[.val (.ref x0), .val (.int 3), .val (.int 0), .val (.int 4)] [(.int 0)])) (fun _ kK => XS.ifYes X38.here hx rfl (pc0 := 67) (pc' := 93) rfl (hb hby d23_67) rfl ((if0 _ _).trans (teq ((by decide : (0 : Int32) = (0 : Int32)))).1) (by decide) (by decide) (XS.iloadN X38.here hx rfl (hb hby d23_93) rfl kK)) ?_
          refine OwnEnd.ret X38 (v := (some (.int (nar .boolean (0 : Int32))))) (fun h => by rw [Bd.returns] at h; cases h) hlk (fun fs hr => retN X38 hx (t := .boolean) Bd.returns (by simp) (hb hby d23_94) hr) (by decide) (by decide) (Q := (own_Qint (own_abs [c0, c1, c2, c3])) h0 n0) eh38 ?_
          exact ⟨(by show some (Value.int (nar .boolean (0 : Int32))) = _; simp [own_abs, own_sch, own_tail, nar, hxc, hb31, hb35, hb39]), N38, rfl⟩
        · rw [hb39]
          refine OwnEnd.of (S' := T38.setTop (mkF m 64 #[.val (.ref x0), .val (.int 3), .val (.int 1), .val (.int 3)] [(.int 1), (.int 3)])) (fun _ kK => XS.istoreN X38.here hx rfl (hb hby d23_55) rfl (l' := #[.val (.ref x0), .val (.int 3), .val (.int 1), .val (.int 2)]) rfl (XS.iinc X38.here hx rfl (hb hby d23_56) rfl (l' := #[.val (.ref x0), .val (.int 3), .val (.int 1), .val (.int 3)]) rfl (XS.goto X38.here hx rfl (pc0 := 59) (pc' := 34) rfl (hb hby d23_59) (by decide) (by decide) (XS.iloadN X38.here hx rfl (hb hby d23_34) rfl (XS.ifNo X38.here hx rfl (hb hby d23_35) rfl ((if0 _ _).trans (feq ((by decide : ¬ ((1 : Int32) = (0 : Int32))))).1) (XS.iloadN X38.here hx rfl (hb hby d23_38) rfl (XS.iloadN X38.here hx rfl (hb hby d23_39) rfl (XS.icmpYes X38.here hx rfl (pc0 := 40) (pc' := 62) rfl (hb hby d23_40) rfl (flt ((by decide : ¬ ((3 : Int32) < (3 : Int32))))).2.1 (by decide) (by decide) (XS.iloadN X38.here hx rfl (hb hby d23_62) rfl (XS.iconst X38.here hx rfl (hb hby d23_63) kK)))))))))) ?_
          refine OwnEnd.of (S' := T38.setTop (mkF m 72 #[.val (.ref x0), .val (.int 3), .val (.int 1), .val (.int 4)] [(.ref x0), (.int 4)])) (fun _ kK => XS.iadd X38.here hx rfl (hb hby d23_64) rfl (XS.istoreN X38.here hx rfl (hb hby d23_65) rfl (l' := #[.val (.ref x0), .val (.int 3), .val (.int 1), .val (.int 4)]) rfl (XS.iloadN X38.here hx rfl (hb hby d23_66) rfl (XS.ifNo X38.here hx rfl (hb hby d23_67) rfl ((if0 _ _).trans (feq ((by decide : ¬ ((1 : Int32) = (0 : Int32))))).1) (XS.iloadN X38.here hx rfl (hb hby d23_70) rfl (XS.aloadN X38.here hx rfl (hb hby d23_71) rfl rfl kK)))))) ?_
          obtain ⟨cq40, kq40, q40a, q40b, q40c⟩ := isOf hZ eh38 P0
          obtain ⟨_, _, ⟨T40, L40, k40, n40⟩, -, X40, ⟨Lc40, hQ40, l40, y40, z40⟩, st40⟩ := X38.virtualBack hx (y := own_m6) (z := own_m6) hown (mvT hZ (own_w G 120 rfl)) (mvT hZ (own_w G 54 rfl)) (notFace_of_selects (args := #[]) (mvT hZ (own_w G 56 rfl))) (mvT hZ (own_w G 56 rfl)) (mvT hZ (own_w G 55 rfl)) (by decide) (backOf (W := 1) (rmln0 l Z a0 G [] x0 t kb (4 : Int32) ((([c0, c1, c2, c3] : List Int32).map (fun c => c.toInt8.toInt32)).map Value.int) (.int 0) h0 n0 O0 P0 P1 P2 P3) hZ (own_w G 57 rfl) (own_w G 8 rfl) (by decide) (by decide)) q40a q40c (g := (mkF m 72 #[.val (.ref x0), .val (.int 3), .val (.int 1), .val (.int 4)] [(.ref x0), (.int 4)])) rfl (by rw [hml]; rfl) (Steps.refl _) (argsL := []) (rest := [(.int 4)]) (lenOf pd_12 rfl) rfl (by show 2 * 0 + _ ≤ _; exact Nat.le_of_eq rfl) (hb hby d23_72) (fun _ _ => ⟨rfl, eh38, (by decide : 0 + 0 ≤ _), (by decide : 0 + 0 ≤ _)⟩)
          dsimp only [Pt.U, Pt.locs, Pt.cells, Pt.slots] at X40 l40 y40 z40 st40 hQ40
          subst l40 y40 z40
          obtain ⟨rfl, N40q, eh40⟩ := hQ40
          have N40 := Fr.app N38 N40q
          refine OwnEnd.tr (S' := T40.setTop (mkF m 75 #[.val (.ref x0), .val (.int 3), .val (.int 1), .val (.int 4)] [(.int 4), (.int 4)])) st40 ?_
          refine OwnEnd.of (S' := T40.setTop (mkF m 94 #[.val (.ref x0), .val (.int 3), .val (.int 1), .val (.int 4)] [(.int 1)])) (fun _ kK => XS.icmpYes X40.here hx rfl (pc0 := 75) (pc' := 93) rfl (hb hby d23_75) rfl (flt ((by decide : ¬ ((4 : Int32) < (4 : Int32))))).2.1 (by decide) (by decide) (XS.iloadN X40.here hx rfl (hb hby d23_93) rfl kK)) ?_
          refine OwnEnd.ret X40 (v := (some (.int (nar .boolean (1 : Int32))))) (fun h => by rw [Bd.returns] at h; cases h) hlk (fun fs hr => retN X40 hx (t := .boolean) Bd.returns (by simp) (hb hby d23_94) hr) (by decide) (by decide) (Q := (own_Qint (own_abs [c0, c1, c2, c3])) h0 n0) eh40 ?_
          exact ⟨(by show some (Value.int (nar .boolean (1 : Int32))) = _; simp [own_abs, own_sch, own_tail, nar, hxc, hb31, hb35, hb39]), N40, rfl⟩
  · rw [hxc.1]
    refine OwnEnd.of (S' := T1.setTop (mkF m 63 #[.val (.ref x0), .val (.int (-1 : Int32)), .val (.int 0), .val (.int 1)] [(.int (-1 : Int32))])) (fun _ kK => XS.istoreN X1.here hx rfl (hb hby d23_6) rfl (l' := #[.val (.ref x0), .val (.int (-1 : Int32)), .unset, .unset]) rfl (XS.iloadN X1.here hx rfl (hb hby d23_7) rfl (XS.ifYes X1.here hx rfl (pc0 := 8) (pc' := 30) rfl (hb hby d23_8) rfl ((if0 _ _).trans (flt ((by decide : ¬ ((0 : Int32) < (-1 : Int32))))).2.2.2) (by decide) (by decide) (XS.iconst X1.here hx rfl (hb hby d23_30) (XS.istoreN X1.here hx rfl (hb hby d23_31) rfl (l' := #[.val (.ref x0), .val (.int (-1 : Int32)), .val (.int 0), .unset]) rfl (XS.iconst X1.here hx rfl (hb hby d23_32) (XS.istoreN X1.here hx rfl (hb hby d23_33) rfl (l' := #[.val (.ref x0), .val (.int (-1 : Int32)), .val (.int 0), .val (.int 1)]) rfl (XS.iloadN X1.here hx rfl (hb hby d23_34) rfl (XS.ifYes X1.here hx rfl (pc0 := 35) (pc' := 62) rfl (hb hby d23_35) rfl ((if0 _ _).trans (teq ((by decide : (0 : Int32) = (0 : Int32)))).1) (by decide) (by decide) (XS.iloadN X1.here hx rfl (hb hby d23_62) rfl kK)))))))))) ?_
    refine OwnEnd.of (S' := T1.setTop (mkF m 94 #[.val (.ref x0), .val (.int (-1 : Int32)), .val (.int 0), .val (.int 0)] [(.int 0)])) (fun _ kK => XS.iconst X1.here hx rfl (hb hby d23_63) (XS.iadd X1.here hx rfl (hb hby d23_64) rfl (XS.istoreN X1.here hx rfl (hb hby d23_65) rfl (l' := #[.val (.ref x0), .val (.int (-1 : Int32)), .val (.int 0), .val (.int 0)]) rfl (XS.iloadN X1.here hx rfl (hb hby d23_66) rfl (XS.ifYes X1.here hx rfl (pc0 := 67) (pc' := 93) rfl (hb hby d23_67) rfl ((if0 _ _).trans (teq ((by decide : (0 : Int32) = (0 : Int32)))).1) (by decide) (by decide) (XS.iloadN X1.here hx rfl (hb hby d23_93) rfl kK)))))) ?_
    refine OwnEnd.ret X1 (v := (some (.int (nar .boolean (0 : Int32))))) (fun h => by rw [Bd.returns] at h; cases h) hlk (fun fs hr => retN X1 hx (t := .boolean) Bd.returns (by simp) (hb hby d23_94) hr) (by decide) (by decide) (Q := (own_Qint (own_abs [c0, c1, c2, c3])) h0 n0) eh1 ?_
    exact ⟨(by show some (Value.int (nar .boolean (0 : Int32))) = _; rw [own_abs_no hxc.2]; rfl), N1, rfl⟩

theorem own_efmn5 (m : MethodId) : entryFrame m #[(.int 5), (.int 5)] 2 = mkF m 0 #[.val (.int 5), .val (.int 5)] [] := by first | (simp [entryFrame, mkF, argsToLocals, Value.category]; done) | rfl
set_option maxRecDepth 65536 in
set_option maxHeartbeats 40000000 in
theorem rmmn5 (l : Launch) (Z : State) (a0 : Array Value) (G : OwnG Z a0) (ws : List Jvm.Cond)  (h0 : Heap) (n0 : Nat) (O0 : Old Z n0 h0)  :
    MetFree l own_m19 (head1 (Jvm.Cond.code own_m19 jdk_29_method_69_code 2 (some .int) :: ws) ({ frames := 0, cells := 0, slots := 0, locals := 0 } : Room)) (fun a U => a = #[(.int 5), (.int 5)] ∧ Z.Warmed39 U.vm ∧ U.heap = h0) (fun _ _ _ _ _ => True) (fun _ U o U' => ∃ v L, o = .returned v ∧ (own_Qint (5 : Int32)) h0 n0 v U'.heap L ∧ FrameEnd U o U' L ({ frames := 0, cells := 0, slots := 0, locals := 0 } : Room).cells ({ frames := 0, cells := 0, slots := 0, locals := 0 } : Room).slots) := by
  refine MetFree.of_bodySF (Jvm.Free.JP.mathPlain rfl (by decide +kernel)) hisR ?_
  intro p e s m args below meth cD s₁ Bd hml0 hP hK
  obtain ⟨rfl, hZ, hh⟩ := hP
  have hw := G.1
  have hx := Bd.exec
  have hby := Bd.bytes
  have hml : cD.maxLocals = 2 := hml0
  have hown : s.vm.findClass "java/lang/Math" = some m.cls := findClass_of_methodNamed Bd.named
  have hnm := (name_of_methodNamed Bd.named Bd.method).1
  have hlk := Bd.notSynchronized
  have X0 : Stand p l e ({ frames := 0, cells := 0, slots := 0, locals := 0 } : Room) s m #[(.int 5), (.int 5)] below meth cD s₁ [] 0 0 := Stand.of_body Bd
  have e0 : s₁.heap = h0 := by rw [← hh, Bd.state]; rfl
  have K0 : Keep h0 h0 [] := Keep.refl h0 _
  have Z0 := own_old_le O0
  have N0 := Fr.nil n0
  refine OwnEnd.start (g' := (mkF m 0 #[.val (.int 5), .val (.int 5)] [])) (own_efmn5 m ) ?_
  refine OwnEnd.of (S' := s₁.setTop (mkF m 10 #[.val (.int 5), .val (.int 5)] [(.int 5)])) (fun _ kK => XS.iloadN X0.here hx rfl (hb hby d19_0) rfl (XS.iloadN X0.here hx rfl (hb hby d19_1) rfl (XS.icmpNo X0.here hx rfl (hb hby d19_2) rfl (flt ((by decide : ¬ ((5 : Int32) < (5 : Int32))))).2.2.1 (XS.iloadN X0.here hx rfl (hb hby d19_5) rfl (XS.goto X0.here hx rfl (pc0 := 6) (pc' := 10) rfl (hb hby d19_6) (by decide) (by decide) kK))))) ?_
  refine OwnEnd.ret X0 (v := (some (.int 5))) (fun h => by rw [Bd.returns] at h; cases h) hlk (fun fs hr => retOut X0 hx Bd.returns rfl (Or.inl ⟨rfl, Or.inl rfl, _, rfl⟩) (hb hby d19_10) hr) (by decide) (by decide) (Q := (own_Qint (5 : Int32)) h0 n0) e0 ?_
  exact ⟨rfl, N0, rfl⟩

theorem own_efix5 (m : MethodId) (t : Addr) : entryFrame m #[(.ref t), (.int 58), (.int 0), (.int 5)] 6 = mkF m 0 #[.val (.ref t), .val (.int 58), .val (.int 0), .val (.int 5), .unset, .unset] [] := by first | (simp [entryFrame, mkF, argsToLocals, Value.category]; done) | rfl
set_option maxRecDepth 65536 in
set_option maxHeartbeats 40000000 in
theorem rmix5 (l : Launch) (Z : State) (a0 : Array Value) (G : OwnG Z a0) (ws : List Jvm.Cond) (t : Addr) (kb : ClassId) (c0 : Int32) (c1 : Int32) (c2 : Int32) (c3 : Int32) (c4 : Int32) (h0 : Heap) (n0 : Nat) (O0 : Old Z n0 h0) (P0 : Arv Z h0 t kb .byte (5 : Int32) ((([c0, c1, c2, c3, c4] : List Int32).map (fun c => c.toInt8.toInt32)).map Value.int) (.int 0)) (P1 : ∀ c ∈ ([c0, c1, c2, c3, c4] : List Int32), ¬ c < (0 : Int32) ∧ ¬ (255 : Int32) < c) :
    MetFree l own_m24 (head1 (Jvm.Cond.code own_m24 jdk_43_method_23_code 6 (some .int) :: ws) ({ frames := 0, cells := 0, slots := 0, locals := 0 } : Room)) (fun a U => a = #[(.ref t), (.int 58), (.int 0), (.int 5)] ∧ Z.Warmed39 U.vm ∧ U.heap = h0) (fun _ _ _ _ _ => True) (fun _ U o U' => ∃ v L, o = .returned v ∧ (own_Qint (own_ix (0 : Int32) [c0, c1, c2, c3, c4])) h0 n0 v U'.heap L ∧ FrameEnd U o U' L ({ frames := 0, cells := 0, slots := 0, locals := 0 } : Room).cells ({ frames := 0, cells := 0, slots := 0, locals := 0 } : Room).slots) := by
  refine MetFree.of_bodySF (plainFor_of_name pn_2) hisR ?_
  intro p e s m args below meth cD s₁ Bd hml0 hP hK
  obtain ⟨rfl, hZ, hh⟩ := hP
  have hw := G.1
  have hx := Bd.exec
  have hby := Bd.bytes
  have hml : cD.maxLocals = 6 := hml0
  have hown : s.vm.findClass "java/lang/StringLatin1" = some m.cls := findClass_of_methodNamed Bd.named
  have hnm := (name_of_methodNamed Bd.named Bd.method).1
  have hlk := Bd.notSynchronized
  have X0 : Stand p l e ({ frames := 0, cells := 0, slots := 0, locals := 0 } : Room) s m #[(.ref t), (.int 58), (.int 0), (.int 5)] below meth cD s₁ [] 0 0 := Stand.of_body Bd
  have e0 : s₁.heap = h0 := by rw [← hh, Bd.state]; rfl
  have lt0 := own_ltN' P0.lt
  have K0 : Keep h0 h0 [] := Keep.refl h0 _
  have Z0 := own_old_le O0
  have N0 := Fr.nil n0
  refine OwnEnd.start (g' := (mkF m 0 #[.val (.ref t), .val (.int 58), .val (.int 0), .val (.int 5), .unset, .unset] [])) (own_efix5 m t) ?_
  have V1 : Arv Z h0 t kb .byte (5 : Int32) [(.int (StrChars.lo8 c0)), (.int (StrChars.lo8 c1)), (.int (StrChars.lo8 c2)), (.int (StrChars.lo8 c3)), (.int (StrChars.lo8 c4))] (.int 0) := by have q := P0; exact q
  refine OwnEnd.of (S' := s₁.setTop (mkF m 16 #[.val (.ref t), .val (.int 58), .val (.int 0), .val (.int 5), .val (.int 58), .val (.int 0)] [(.int 0), (.ref t)])) (fun _ kK => XS.iloadN X0.here hx rfl (hb hby d24_0) rfl (XS.i2b X0.here hx rfl (hb hby d24_1) rfl (XS.istore X0.here hx rfl (hb hby d24_2) rfl (l' := #[.val (.ref t), .val (.int 58), .val (.int 0), .val (.int 5), .val (.int 58), .unset]) rfl (XS.iloadN X0.here hx rfl (hb hby d24_4) rfl (XS.istore X0.here hx rfl (hb hby d24_5) rfl (l' := #[.val (.ref t), .val (.int 58), .val (.int 0), .val (.int 5), .val (.int 58), .val (.int 0)]) rfl (XS.iload X0.here hx rfl (hb hby d24_7) rfl (XS.iloadN X0.here hx rfl (hb hby d24_9) rfl (XS.icmpNo X0.here hx rfl (hb hby d24_10) rfl (tlt ((by decide : (0 : Int32) < (5 : Int32)))).2.1 (XS.aloadN X0.here hx rfl (hb hby d24_13) rfl rfl (XS.iload X0.here hx rfl (hb hby d24_14) rfl kK)))))))))) ?_
  obtain ⟨cl2, Ar2, q2, S2, N2', H2, G2⟩ := id V1
  have hin3 : ¬ ((0 : Int32) < 0 ∨ cl2.slots.size ≤ ((0 : Int32)).toNatClampNeg) := inb_of S2 ⟨by decide, by decide⟩
  refine OwnEnd.of (S' := s₁.setTop (mkF m 17 #[.val (.ref t), .val (.int 58), .val (.int 0), .val (.int 5), .val (.int 58), .val (.int 0)] [(.int (StrChars.lo8 c0))])) (fun _ kK => X0.baloadBytes hx (j := (0 : Int32)) (v := (.int (StrChars.lo8 c0))) (by rw [e0]; exact Ar2.1) (State.isArrayOf_alike hZ.alike Ar2.2.1) Ar2.2.2 hin3 (Has.at H2 hin3 (rfl)) (g := (mkF m 16 #[.val (.ref t), .val (.int 58), .val (.int 0), .val (.int 5), .val (.int 58), .val (.int 0)] [(.int 0), (.ref t)])) rfl rfl (hb hby d24_16) _ kK) ?_
  refine OwnEnd.of (S' := s₁.setTop (mkF m 19 #[.val (.ref t), .val (.int 58), .val (.int 0), .val (.int 5), .val (.int 58), .val (.int 0)] [(.int 58), (.int (StrChars.lo8 c0))])) (fun _ kK => XS.iload X0.here hx rfl (hb hby d24_17) rfl kK) ?_
  rcases Decidable.em (c0 = (58 : Int32)) with hc4 | hc4
  · refine OwnEnd.of (S' := s₁.setTop (mkF m 24 #[.val (.ref t), .val (.int 58), .val (.int 0), .val (.int 5), .val (.int 58), .val (.int 0)] [(.int 0)])) (fun _ kK => XS.icmpNo X0.here hx rfl (hb hby d24_19) rfl (teq ((own_lo58 hc4))).2 (XS.iload X0.here hx rfl (hb hby d24_22) rfl kK)) ?_
    refine OwnEnd.ret X0 (v := (some (.int 0))) (fun h => by rw [Bd.returns] at h; cases h) hlk (fun fs hr => retOut X0 hx Bd.returns rfl (Or.inl ⟨rfl, Or.inl rfl, _, rfl⟩) (hb hby d24_24) hr) (by decide) (by decide) (Q := (own_Qint (own_ix (0 : Int32) [c0, c1, c2, c3, c4])) h0 n0) e0 ?_
    exact ⟨(by simp [own_ix, hc4]), N0, rfl⟩
  · refine OwnEnd.of (S' := s₁.setTop (mkF m 16 #[.val (.ref t), .val (.int 58), .val (.int 0), .val (.int 5), .val (.int 58), .val (.int 1)] [(.int 1), (.ref t)])) (fun _ kK => XS.icmpYes X0.here hx rfl (pc0 := 19) (pc' := 25) rfl (hb hby d24_19) rfl (feq ((own_lo58n (P1 c0 (by simp)).1 (P1 c0 (by simp)).2 hc4))).2 (by decide) (by decide) (XS.iinc X0.here hx rfl (hb hby d24_25) rfl (l' := #[.val (.ref t), .val (.int 58), .val (.int 0), .val (.int 5), .val (.int 58), .val (.int 1)]) rfl (XS.goto X0.here hx rfl (pc0 := 28) (pc' := 7) rfl (hb hby d24_28) (by decide) (by decide) (XS.iload X0.here hx rfl (hb hby d24_7) rfl (XS.iloadN X0.here hx rfl (hb hby d24_9) rfl (XS.icmpNo X0.here hx rfl (hb hby d24_10) rfl (tlt ((by decide : (1 : Int32) < (5 : Int32)))).2.1 (XS.aloadN X0.here hx rfl (hb hby d24_13) rfl rfl (XS.iload X0.here hx rfl (hb hby d24_14) rfl kK)))))))) ?_
    obtain ⟨cl5, Ar5, q5, S5, N5', H5, G5⟩ := id V1
    have hin6 : ¬ ((1 : Int32) < 0 ∨ cl5.slots.size ≤ ((1 : Int32)).toNatClampNeg) := inb_of S5 ⟨by decide, by decide⟩
    refine OwnEnd.of (S' := s₁.setTop (mkF m 17 #[.val (.ref t), .val (.int 58), .val (.int 0), .val (.int 5), .val (.int 58), .val (.int 1)] [(.int (StrChars.lo8 c1))])) (fun _ kK => X0.baloadBytes hx (j := (1 : Int32)) (v := (.int (StrChars.lo8 c1))) (by rw [e0]; exact Ar5.1) (State.isArrayOf_alike hZ.alike Ar5.2.1) Ar5.2.2 hin6 (Has.at H5 hin6 (rfl)) (g := (mkF m 16 #[.val (.ref t), .val (.int 58), .val (.int 0), .val (.int 5), .val (.int 58), .val (.int 1)] [(.int 1), (.ref t)])) rfl rfl (hb hby d24_16) _ kK) ?_
    refine OwnEnd.of (S' := s₁.setTop (mkF m 19 #[.val (.ref t), .val (.int 58), .val (.int 0), .val (.int 5), .val (.int 58), .val (.int 1)] [(.int 58), (.int (StrChars.lo8 c1))])) (fun _ kK => XS.iload X0.here hx rfl (hb hby d24_17) rfl kK) ?_
    rcases Decidable.em (c1 = (58 : Int32)) with hc7 | hc7
    · refine OwnEnd.of (S' := s₁.setTop (mkF m 24 #[.val (.ref t), .val (.int 58), .val (.int 0), .val (.int 5), .val (.int 58), .val (.int 1)] [(.int 1)])) (fun _ kK => XS.icmpNo X0.here hx rfl (hb hby d24_19) rfl (teq ((own_lo58 hc7))).2 (XS.iload X0.here hx rfl (hb hby d24_22) rfl kK)) ?_
      refine OwnEnd.ret X0 (v := (some (.int 1))) (fun h => by rw [Bd.returns] at h; cases h) hlk (fun fs hr => retOut X0 hx Bd.returns rfl (Or.inl ⟨rfl, Or.inl rfl, _, rfl⟩) (hb hby d24_24) hr) (by decide) (by decide) (Q := (own_Qint (own_ix (0 : Int32) [c0, c1, c2, c3, c4])) h0 n0) e0 ?_
      exact ⟨(by simp [own_ix, hc4, hc7]), N0, rfl⟩
    · refine OwnEnd.of (S' := s₁.setTop (mkF m 16 #[.val (.ref t), .val (.int 58), .val (.int 0), .val (.int 5), .val (.int 58), .val (.int 2)] [(.int 2), (.ref t)])) (fun _ kK => XS.icmpYes X0.here hx rfl (pc0 := 19) (pc' := 25) rfl (hb hby d24_19) rfl (feq ((own_lo58n (P1 c1 (by simp)).1 (P1 c1 (by simp)).2 hc7))).2 (by decide) (by decide) (XS.iinc X0.here hx rfl (hb hby d24_25) rfl (l' := #[.val (.ref t), .val (.int 58), .val (.int 0), .val (.int 5), .val (.int 58), .val (.int 2)]) rfl (XS.goto X0.here hx rfl (pc0 := 28) (pc' := 7) rfl (hb hby d24_28) (by decide) (by decide) (XS.iload X0.here hx rfl (hb hby d24_7) rfl (XS.iloadN X0.here hx rfl (hb hby d24_9) rfl (XS.icmpNo X0.here hx rfl (hb hby d24_10) rfl (tlt ((by decide : (2 : Int32) < (5 : Int32)))).2.1 (XS.aloadN X0.here hx rfl (hb hby d24_13) rfl rfl (XS.iload X0.here hx rfl (hb hby d24_14) rfl kK)))))))) ?_
      obtain ⟨cl8, Ar8, q8, S8, N8', H8, G8⟩ := id V1
      have hin9 : ¬ ((2 : Int32) < 0 ∨ cl8.slots.size ≤ ((2 : Int32)).toNatClampNeg) := inb_of S8 ⟨by decide, by decide⟩
      refine OwnEnd.of (S' := s₁.setTop (mkF m 17 #[.val (.ref t), .val (.int 58), .val (.int 0), .val (.int 5), .val (.int 58), .val (.int 2)] [(.int (StrChars.lo8 c2))])) (fun _ kK => X0.baloadBytes hx (j := (2 : Int32)) (v := (.int (StrChars.lo8 c2))) (by rw [e0]; exact Ar8.1) (State.isArrayOf_alike hZ.alike Ar8.2.1) Ar8.2.2 hin9 (Has.at H8 hin9 (rfl)) (g := (mkF m 16 #[.val (.ref t), .val (.int 58), .val (.int 0), .val (.int 5), .val (.int 58), .val (.int 2)] [(.int 2), (.ref t)])) rfl rfl (hb hby d24_16) _ kK) ?_
      refine OwnEnd.of (S' := s₁.setTop (mkF m 19 #[.val (.ref t), .val (.int 58), .val (.int 0), .val (.int 5), .val (.int 58), .val (.int 2)] [(.int 58), (.int (StrChars.lo8 c2))])) (fun _ kK => XS.iload X0.here hx rfl (hb hby d24_17) rfl kK) ?_
      rcases Decidable.em (c2 = (58 : Int32)) with hc10 | hc10
      · refine OwnEnd.of (S' := s₁.setTop (mkF m 24 #[.val (.ref t), .val (.int 58), .val (.int 0), .val (.int 5), .val (.int 58), .val (.int 2)] [(.int 2)])) (fun _ kK => XS.icmpNo X0.here hx rfl (hb hby d24_19) rfl (teq ((own_lo58 hc10))).2 (XS.iload X0.here hx rfl (hb hby d24_22) rfl kK)) ?_
        refine OwnEnd.ret X0 (v := (some (.int 2))) (fun h => by rw [Bd.returns] at h; cases h) hlk (fun fs hr => retOut X0 hx Bd.returns rfl (Or.inl ⟨rfl, Or.inl rfl, _, rfl⟩) (hb hby d24_24) hr) (by decide) (by decide) (Q := (own_Qint (own_ix (0 : Int32) [c0, c1, c2, c3, c4])) h0 n0) e0 ?_
        exact ⟨(by simp [own_ix, hc4, hc7, hc10]), N0, rfl⟩
      · refine OwnEnd.of (S' := s₁.setTop (mkF m 16 #[.val (.ref t), .val (.int 58), .val (.int 0), .val (.int 5), .val (.int 58), .val (.int 3)] [(.int 3), (.ref t)])) (fun _ kK => XS.icmpYes X0.here hx rfl (pc0 := 19) (pc' := 25) rfl (hb hby d24_19) rfl (feq ((own_lo58n (P1 c2 (by simp)).1 (P1 c2 (by simp)).2 hc10))).2 (by decide) (by decide) (XS.iinc X0.here hx rfl (hb hby d24_25) rfl (l' := #[.val (.ref t), .val (.int 58), .val (.int 0), .val (.int 5), .val (.int 58), .val (.int 3)]) rfl (XS.goto X0.here hx rfl (pc0 := 28) (pc' := 7) rfl (hb hby d24_28) (by decide) (by decide) (XS.iload X0.here hx rfl (hb hby d24_7) rfl (XS.iloadN X0.here hx rfl (hb hby d24_9) rfl (XS.icmpNo X0.here hx rfl (hb hby d24_10) rfl (tlt ((by decide : (3 : Int32) < (5 : Int32)))).2.1 (XS.aloadN X0.here hx rfl (hb hby d24_13) rfl rfl (XS.iload X0.here hx rfl (hb hby d24_14) rfl kK)))))))) ?_
        obtain ⟨cl11, Ar11, q11, S11, N11', H11, G11⟩ := id V1
        have hin12 : ¬ ((3 : Int32) < 0 ∨ cl11.slots.size ≤ ((3 : Int32)).toNatClampNeg) := inb_of S11 ⟨by decide, by decide⟩
        refine OwnEnd.of (S' := s₁.setTop (mkF m 17 #[.val (.ref t), .val (.int 58), .val (.int 0), .val (.int 5), .val (.int 58), .val (.int 3)] [(.int (StrChars.lo8 c3))])) (fun _ kK => X0.baloadBytes hx (j := (3 : Int32)) (v := (.int (StrChars.lo8 c3))) (by rw [e0]; exact Ar11.1) (State.isArrayOf_alike hZ.alike Ar11.2.1) Ar11.2.2 hin12 (Has.at H11 hin12 (rfl)) (g := (mkF m 16 #[.val (.ref t), .val (.int 58), .val (.int 0), .val (.int 5), .val (.int 58), .val (.int 3)] [(.int 3), (.ref t)])) rfl rfl (hb hby d24_16) _ kK) ?_
        refine OwnEnd.of (S' := s₁.setTop (mkF m 19 #[.val (.ref t), .val (.int 58), .val (.int 0), .val (.int 5), .val (.int 58), .val (.int 3)] [(.int 58), (.int (StrChars.lo8 c3))])) (fun _ kK => XS.iload X0.here hx rfl (hb hby d24_17) rfl kK) ?_
        rcases Decidable.em (c3 = (58 : Int32)) with hc13 | hc13
        · refine OwnEnd.of (S' := s₁.setTop (mkF m 24 #[.val (.ref t), .val (.int 58), .val (.int 0), .val (.int 5), .val (.int 58), .val (.int 3)] [(.int 3)])) (fun _ kK => XS.icmpNo X0.here hx rfl (hb hby d24_19) rfl (teq ((own_lo58 hc13))).2 (XS.iload X0.here hx rfl (hb hby d24_22) rfl kK)) ?_
          refine OwnEnd.ret X0 (v := (some (.int 3))) (fun h => by rw [Bd.returns] at h; cases h) hlk (fun fs hr => retOut X0 hx Bd.returns rfl (Or.inl ⟨rfl, Or.inl rfl, _, rfl⟩) (hb hby d24_24) hr) (by decide) (by decide) (Q := (own_Qint (own_ix (0 : Int32) [c0, c1, c2, c3, c4])) h0 n0) e0 ?_
          exact ⟨(by simp [own_ix, hc4, hc7, hc10, hc13]), N0, rfl⟩
        · refine OwnEnd.of (S' := s₁.setTop (mkF m 16 #[.val (.ref t), .val (.int 58), .val (.int 0), .val (.int 5), .val (.int 58), .val (.int 4)] [(.int 4), (.ref t)])) (fun _ kK => XS.icmpYes X0.here hx rfl (pc0 := 19) (pc' := 25) rfl (hb hby d24_19) rfl (feq ((own_lo58n (P1 c3 (by simp)).1 (P1 c3 (by simp)).2 hc13))).2 (by decide) (by decide) (XS.iinc X0.here hx rfl (hb hby d24_25) rfl (l' := #[.val (.ref t), .val (.int 58), .val (.int 0), .val (.int 5), .val (.int 58), .val (.int 4)]) rfl (XS.goto X0.here hx rfl (pc0 := 28) (pc' := 7) rfl (hb hby d24_28) (by decide) (by decide) (XS.iload X0.here hx rfl (hb hby d24_7) rfl (XS.iloadN X0.here hx rfl (hb hby d24_9) rfl (XS.icmpNo X0.here hx rfl (hb hby d24_10) rfl (tlt ((by decide : (4 : Int32) < (5 : Int32)))).2.1 (XS.aloadN X0.here hx rfl (hb hby d24_13) rfl rfl (XS.iload X0.here hx rfl (hb hby d24_14) rfl kK)))))))) ?_
          obtain ⟨cl14, Ar14, q14, S14, N14', H14, G14⟩ := id V1
          have hin15 : ¬ ((4 : Int32) < 0 ∨ cl14.slots.size ≤ ((4 : Int32)).toNatClampNeg) := inb_of S14 ⟨by decide, by decide⟩
          refine OwnEnd.of (S' := s₁.setTop (mkF m 17 #[.val (.ref t), .val (.int 58), .val (.int 0), .val (.int 5), .val (.int 58), .val (.int 4)] [(.int (StrChars.lo8 c4))])) (fun _ kK => X0.baloadBytes hx (j := (4 : Int32)) (v := (.int (StrChars.lo8 c4))) (by rw [e0]; exact Ar14.1) (State.isArrayOf_alike hZ.alike Ar14.2.1) Ar14.2.2 hin15 (Has.at H14 hin15 (rfl)) (g := (mkF m 16 #[.val (.ref t), .val (.int 58), .val (.int 0), .val (.int 5), .val (.int 58), .val (.int 4)] [(.int 4), (.ref t)])) rfl rfl (hb hby d24_16) _ kK) ?_
          refine OwnEnd.of (S' := s₁.setTop (mkF m 19 #[.val (.ref t), .val (.int 58), .val (.int 0), .val (.int 5), .val (.int 58), .val (.int 4)] [(.int 58), (.int (StrChars.lo8 c4))])) (fun _ kK => XS.iload X0.here hx rfl (hb hby d24_17) rfl kK) ?_
          rcases Decidable.em (c4 = (58 : Int32)) with hc16 | hc16
          · refine OwnEnd.of (S' := s₁.setTop (mkF m 24 #[.val (.ref t), .val (.int 58), .val (.int 0), .val (.int 5), .val (.int 58), .val (.int 4)] [(.int 4)])) (fun _ kK => XS.icmpNo X0.here hx rfl (hb hby d24_19) rfl (teq ((own_lo58 hc16))).2 (XS.iload X0.here hx rfl (hb hby d24_22) rfl kK)) ?_
            refine OwnEnd.ret X0 (v := (some (.int 4))) (fun h => by rw [Bd.returns] at h; cases h) hlk (fun fs hr => retOut X0 hx Bd.returns rfl (Or.inl ⟨rfl, Or.inl rfl, _, rfl⟩) (hb hby d24_24) hr) (by decide) (by decide) (Q := (own_Qint (own_ix (0 : Int32) [c0, c1, c2, c3, c4])) h0 n0) e0 ?_
            exact ⟨(by simp [own_ix, hc4, hc7, hc10, hc13, hc16]), N0, rfl⟩
          · refine OwnEnd.of (S' := s₁.setTop (mkF m 32 #[.val (.ref t), .val (.int 58), .val (.int 0), .val (.int 5), .val (.int 58), .val (.int 5)] [(.int (-1 : Int32))])) (fun _ kK => XS.icmpYes X0.here hx rfl (pc0 := 19) (pc' := 25) rfl (hb hby d24_19) rfl (feq ((own_lo58n (P1 c4 (by simp)).1 (P1 c4 (by simp)).2 hc16))).2 (by decide) (by decide) (XS.iinc X0.here hx rfl (hb hby d24_25) rfl (l' := #[.val (.ref t), .val (.int 58), .val (.int 0), .val (.int 5), .val (.int 58), .val (.int 5)]) rfl (XS.goto X0.here hx rfl (pc0 := 28) (pc' := 7) rfl (hb hby d24_28) (by decide) (by decide) (XS.iload X0.here hx rfl (hb hby d24_7) rfl (XS.iloadN X0.here hx rfl (hb hby d24_9) rfl (XS.icmpYes X0.here hx rfl (pc0 := 10) (pc' := 31) rfl (hb hby d24_10) rfl (flt ((by decide : ¬ ((5 : Int32) < (5 : Int32))))).2.1 (by decide) (by decide) (XS.iconst X0.here hx rfl (hb hby d24_31) kK))))))) ?_
            refine OwnEnd.ret X0 (v := (some (.int (-1 : Int32)))) (fun h => by rw [Bd.returns] at h; cases h) hlk (fun fs hr => retOut X0 hx Bd.returns rfl (Or.inl ⟨rfl, Or.inl rfl, _, rfl⟩) (hb hby d24_32) hr) (by decide) (by decide) (Q := (own_Qint (own_ix (0 : Int32) [c0, c1, c2, c3, c4])) h0 n0) e0 ?_
            exact ⟨(by simp [own_ix, hc4, hc7, hc10, hc13, hc16]), N0, rfl⟩

theorem own_efsi5 (m : MethodId) (t : Addr) : entryFrame m #[(.ref t), (.int 58), (.int 0), (.int 5)] 4 = mkF m 0 #[.val (.ref t), .val (.int 58), .val (.int 0), .val (.int 5)] [] := by first | (simp [entryFrame, mkF, argsToLocals, Value.category]; done) | rfl
set_option maxRecDepth 65536 in
set_option maxHeartbeats 40000000 in
theorem rmsi5 (l : Launch) (Z : State) (a0 : Array Value) (G : OwnG Z a0) (ws : List Jvm.Cond) (t : Addr) (kb : ClassId) (c0 : Int32) (c1 : Int32) (c2 : Int32) (c3 : Int32) (c4 : Int32) (h0 : Heap) (n0 : Nat) (O0 : Old Z n0 h0) (P0 : Arv Z h0 t kb .byte (5 : Int32) ((([c0, c1, c2, c3, c4] : List Int32).map (fun c => c.toInt8.toInt32)).map Value.int) (.int 0)) (P1 : ∀ c ∈ ([c0, c1, c2, c3, c4] : List Int32), ¬ c < (0 : Int32) ∧ ¬ (255 : Int32) < c) :
    MetFree l own_m20 (head1 (Jvm.Cond.code own_m20 jdk_43_method_22_code 4 (some .int) :: ws) ({ frames := 1, cells := 0, slots := 0, locals := 17 } : Room)) (fun a U => a = #[(.ref t), (.int 58), (.int 0), (.int 5)] ∧ Z.Warmed39 U.vm ∧ U.heap = h0) (fun _ _ _ _ _ => True) (fun _ U o U' => ∃ v L, o = .returned v ∧ (own_Qint (own_ix (0 : Int32) [c0, c1, c2, c3, c4])) h0 n0 v U'.heap L ∧ FrameEnd U o U' L ({ frames := 1, cells := 0, slots := 0, locals := 17 } : Room).cells ({ frames := 1, cells := 0, slots := 0, locals := 17 } : Room).slots) := by
  refine MetFree.of_bodySF (plainFor_of_name pn_2) hisR ?_
  intro p e s m args below meth cD s₁ Bd hml0 hP hK
  obtain ⟨rfl, hZ, hh⟩ := hP
  have hw := G.1
  have hx := Bd.exec
  have hby := Bd.bytes
  have hml : cD.maxLocals = 4 := hml0
  have hown : s.vm.findClass "java/lang/StringLatin1" = some m.cls := findClass_of_methodNamed Bd.named
  have hnm := (name_of_methodNamed Bd.named Bd.method).1
  have hlk := Bd.notSynchronized
  have X0 : Stand p l e ({ frames := 1, cells := 0, slots := 0, locals := 17 } : Room) s m #[(.ref t), (.int 58), (.int 0), (.int 5)] below meth cD s₁ [] 0 0 := Stand.of_body Bd
  have e0 : s₁.heap = h0 := by rw [← hh, Bd.state]; rfl
  have lt0 := own_ltN' P0.lt
  have K0 : Keep h0 h0 [] := Keep.refl h0 _
  have Z0 := own_old_le O0
  have N0 := Fr.nil n0
  refine OwnEnd.start (g' := (mkF m 0 #[.val (.ref t), .val (.int 58), .val (.int 0), .val (.int 5)] [])) (own_efsi5 m t) ?_
  refine OwnEnd.of (S' := s₁.setTop (mkF m 1 #[.val (.ref t), .val (.int 58), .val (.int 0), .val (.int 5)] [(.int 58)])) (fun _ kK => XS.iloadN X0.here hx rfl (hb hby d20_0) rfl kK) ?_
  obtain ⟨_, _, ⟨T1, L1, k1, n1⟩, -, X1, ⟨Lc1, hQ1, l1, y1, z1⟩, st1⟩ := Jvm.LawKit.callS X0 hx (y := own_m15) hown (mvT hZ (own_w G 67 rfl)) (mvT hZ (own_w G 68 rfl)) (mvT hZ (own_w G 65 rfl)) (mvT hZ (own_w G 69 rfl)) (by decide) (backOf (W := 0) (rmce l Z a0 G []  h0 n0 O0 ) hZ (own_w G 69 rfl) (own_w G 65 rfl) (by decide) (by decide)) (g := (mkF m 1 #[.val (.ref t), .val (.int 58), .val (.int 0), .val (.int 5)] [(.int 58)])) rfl (by rw [hml]; rfl) (argsL := [(.int 58)]) (rest := []) (lenOf pd_10 rfl) rfl (by show 2 * 0 + _ ≤ _; exact Nat.le_of_eq rfl) (hb hby d20_1) (fun _ _ => ⟨rfl, e0, (by decide : 0 + 0 ≤ _), (by decide : 0 + 0 ≤ _)⟩)
  dsimp only [Pt.U, Pt.locs, Pt.cells, Pt.slots] at X1 l1 y1 z1 st1 hQ1
  subst l1 y1 z1
  obtain ⟨rfl, N1q, eh1⟩ := hQ1
  have N1 := Fr.app N0 N1q
  refine OwnEnd.of (S' := T1.setTop (mkF m 4 #[.val (.ref t), .val (.int 58), .val (.int 0), .val (.int 5)] [(.int 1)])) st1 ?_
  refine OwnEnd.of (S' := T1.setTop (mkF m 11 #[.val (.ref t), .val (.int 58), .val (.int 0), .val (.int 5)] [(.int 0), (.int 0)])) (fun _ kK => XS.ifYes X1.here hx rfl (pc0 := 4) (pc' := 9) rfl (hb hby d20_4) rfl ((if0 _ _).trans (feq ((by decide : ¬ ((1 : Int32) = (0 : Int32))))).2) (by decide) (by decide) (XS.iloadN X1.here hx rfl (hb hby d20_9) rfl (XS.iconst X1.here hx rfl (hb hby d20_10) kK))) ?_
  obtain ⟨_, _, ⟨T2, L2, k2, n2⟩, -, X2, ⟨Lc2, hQ2, l2, y2, z2⟩, st2⟩ := Jvm.LawKit.callS X1 hx (y := own_m16) hown (mvT hZ (own_w G 70 rfl)) (mvT hZ (own_w G 71 rfl)) (mvT hZ (own_w G 72 rfl)) (mvT hZ (own_w G 73 rfl)) (by decide) (backOf (W := 0) (rmmx l Z a0 G []  h0 n0 O0 ) hZ (own_w G 73 rfl) (own_w G 72 rfl) (by decide) (by decide)) (g := (mkF m 11 #[.val (.ref t), .val (.int 58), .val (.int 0), .val (.int 5)] [(.int 0), (.int 0)])) rfl (by rw [hml]; rfl) (argsL := [(.int 0), (.int 0)]) (rest := []) (lenOf pd_11 rfl) rfl (by show 2 * 0 + _ ≤ _; exact Nat.le_of_eq rfl) (hb hby d20_11) (fun _ _ => ⟨rfl, eh1, (by decide : 0 + 0 ≤ _), (by decide : 0 + 0 ≤ _)⟩)
  dsimp only [Pt.U, Pt.locs, Pt.cells, Pt.slots] at X2 l2 y2 z2 st2 hQ2
  subst l2 y2 z2
  obtain ⟨rfl, N2q, eh2⟩ := hQ2
  have N2 := Fr.app N1 N2q
  refine OwnEnd.of (S' := T2.setTop (mkF m 14 #[.val (.ref t), .val (.int 58), .val (.int 0), .val (.int 5)] [(.int 0)])) st2 ?_
  refine OwnEnd.of (S' := T2.setTop (mkF m 17 #[.val (.ref t), .val (.int 58), .val (.int 0), .val (.int 5)] [(.ref t), (.int 5)])) (fun _ kK => XS.istoreN X2.here hx rfl (hb hby d20_14) rfl (l' := #[.val (.ref t), .val (.int 58), .val (.int 0), .val (.int 5)]) rfl (XS.iloadN X2.here hx rfl (hb hby d20_15) rfl (XS.aloadN X2.here hx rfl (hb hby d20_16) rfl rfl kK))) ?_
  obtain ⟨cl3, Ar3, q3, S3, N3', H3, G3⟩ := id P0
  refine OwnEnd.of (S' := T2.setTop (mkF m 18 #[.val (.ref t), .val (.int 58), .val (.int 0), .val (.int 5)] [(.int 5), (.int 5)])) (fun _ kK => X2.arraylength hx (by rw [eh2]; exact Ar3.1) (State.isArrayOf_alike hZ.alike Ar3.2.1) (g := (mkF m 17 #[.val (.ref t), .val (.int 58), .val (.int 0), .val (.int 5)] [(.ref t), (.int 5)])) rfl rfl (hb hby d20_17) _ (by rw [len_of S3 N3']; exact kK)) ?_
  obtain ⟨_, _, ⟨T4, L4, k4, n4⟩, -, X4, ⟨Lc4, hQ4, l4, y4, z4⟩, st4⟩ := Jvm.LawKit.callS X2 hx (y := own_m19) hown (mvT hZ (own_w G 74 rfl)) (mvT hZ (own_w G 75 rfl)) (mvT hZ (own_w G 72 rfl)) (mvT hZ (own_w G 76 rfl)) (by decide) (backOf (W := 0) (rmmn5 l Z a0 G []  h0 n0 O0 ) hZ (own_w G 76 rfl) (own_w G 72 rfl) (by decide) (by decide)) (g := (mkF m 18 #[.val (.ref t), .val (.int 58), .val (.int 0), .val (.int 5)] [(.int 5), (.int 5)])) rfl (by rw [hml]; rfl) (argsL := [(.int 5), (.int 5)]) (rest := []) (lenOf pd_11 rfl) rfl (by show 2 * 0 + _ ≤ _; exact Nat.le_of_eq rfl) (hb hby d20_18) (fun _ _ => ⟨rfl, eh2, (by decide : 0 + 0 ≤ _), (by decide : 0 + 0 ≤ _)⟩)
  dsimp only [Pt.U, Pt.locs, Pt.cells, Pt.slots] at X4 l4 y4 z4 st4 hQ4
  subst l4 y4 z4
  obtain ⟨rfl, N4q, eh4⟩ := hQ4
  have N4 := Fr.app N2 N4q
  refine OwnEnd.of (S' := T4.setTop (mkF m 21 #[.val (.ref t), .val (.int 58), .val (.int 0), .val (.int 5)] [(.int 5)])) st4 ?_
  refine OwnEnd.of (S' := T4.setTop (mkF m 33 #[.val (.ref t), .val (.int 58), .val (.int 0), .val (.int 5)] [(.int 5), (.int 0), (.int 58), (.ref t)])) (fun _ kK => XS.istoreN X4.here hx rfl (hb hby d20_21) rfl (l' := #[.val (.ref t), .val (.int 58), .val (.int 0), .val (.int 5)]) rfl (XS.iloadN X4.here hx rfl (hb hby d20_22) rfl (XS.iloadN X4.here hx rfl (hb hby d20_23) rfl (XS.icmpYes X4.here hx rfl (pc0 := 24) (pc' := 29) rfl (hb hby d20_24) rfl (tlt ((by decide : (0 : Int32) < (5 : Int32)))).1 (by decide) (by decide) (XS.aloadN X4.here hx rfl (hb hby d20_29) rfl rfl (XS.iloadN X4.here hx rfl (hb hby d20_30) rfl (XS.iloadN X4.here hx rfl (hb hby d20_31) rfl (XS.iloadN X4.here hx rfl (hb hby d20_32) rfl kK)))))))) ?_
  obtain ⟨_, _, ⟨T5, L5, k5, n5⟩, -, X5, ⟨Lc5, hQ5, l5, y5, z5⟩, st5⟩ := Jvm.LawKit.callS X4 hx (y := own_m24) hown (mvT hZ (own_w G 87 rfl)) (mvT hZ (own_w G 88 rfl)) (mvT hZ (own_w G 65 rfl)) (mvT hZ (own_w G 89 rfl)) (by decide) (backOf (W := 0) (rmix5 l Z a0 G [] t kb c0 c1 c2 c3 c4 h0 n0 O0 P0 P1) hZ (own_w G 89 rfl) (own_w G 65 rfl) (by decide) (by decide)) (g := (mkF m 33 #[.val (.ref t), .val (.int 58), .val (.int 0), .val (.int 5)] [(.int 5), (.int 0), (.int 58), (.ref t)])) rfl (by rw [hml]; rfl) (argsL := [(.ref t), (.int 58), (.int 0), (.int 5)]) (rest := []) (lenOf pd_13 rfl) rfl (by show 2 * 0 + _ ≤ _; exact Nat.le_of_eq rfl) (hb hby d20_33) (fun _ _ => ⟨rfl, eh4, (by decide : 0 + 0 ≤ _), (by decide : 0 + 0 ≤ _)⟩)
  dsimp only [Pt.U, Pt.locs, Pt.cells, Pt.slots] at X5 l5 y5 z5 st5 hQ5
  subst l5 y5 z5
  obtain ⟨rfl, N5q, eh5⟩ := hQ5
  have N5 := Fr.app N4 N5q
  refine OwnEnd.of (S' := T5.setTop (mkF m 36 #[.val (.ref t), .val (.int 58), .val (.int 0), .val (.int 5)] [(.int (own_ix (0 : Int32) [c0, c1, c2, c3, c4]))])) st5 ?_
  refine OwnEnd.ret X5 (v := (some (.int (own_ix (0 : Int32) [c0, c1, c2, c3, c4])))) (fun h => by rw [Bd.returns] at h; cases h) hlk (fun fs hr => retOut X5 hx Bd.returns rfl (Or.inl ⟨rfl, Or.inl rfl, _, rfl⟩) (hb hby d20_36) hr) (by decide) (by decide) (Q := (own_Qint (own_ix (0 : Int32) [c0, c1, c2, c3, c4])) h0 n0) eh5 ?_
  exact ⟨rfl, N5, rfl⟩

theorem own_efsj5 (m : MethodId) (x0 : Addr) : entryFrame m #[(.ref x0), (.int 58), (.int 0)] 3 = mkF m 0 #[.val (.ref x0), .val (.int 58), .val (.int 0)] [] := by first | (simp [entryFrame, mkF, argsToLocals, Value.category]; done) | rfl
set_option maxRecDepth 65536 in
set_option maxHeartbeats 40000000 in
theorem rmsj5 (l : Launch) (Z : State) (a0 : Array Value) (G : OwnG Z a0) (ws : List Jvm.Cond) (x0 : Addr) (t : Addr) (kb : ClassId) (c0 : Int32) (c1 : Int32) (c2 : Int32) (c3 : Int32) (c4 : Int32) (h0 : Heap) (n0 : Nat) (O0 : Old Z n0 h0) (P0 : Exa Z h0 x0 "java/lang/String") (P1 : Fld Z h0 x0 "java/lang/String" "value" "[B" (.ref t)) (P2 : Fld Z h0 x0 "java/lang/String" "coder" "B" (.int 0)) (P3 : Arv Z h0 t kb .byte (5 : Int32) ((([c0, c1, c2, c3, c4] : List Int32).map (fun c => c.toInt8.toInt32)).map Value.int) (.int 0)) (P4 : ∀ c ∈ ([c0, c1, c2, c3, c4] : List Int32), ¬ c < (0 : Int32) ∧ ¬ (255 : Int32) < c) :
    MetFree l own_m21 (head1 (Jvm.Cond.code own_m21 jdk_42_method_80_code 3 (some .int) :: ws) ({ frames := 2, cells := 0, slots := 0, locals := 32 } : Room)) (fun a U => a = #[(.ref x0), (.int 58), (.int 0)] ∧ Z.Warmed39 U.vm ∧ U.heap = h0) (fun _ _ _ _ _ => True) (fun _ U o U' => ∃ v L, o = .returned v ∧ (own_Qint (own_ix (0 : Int32) [c0, c1, c2, c3, c4])) h0 n0 v U'.heap L ∧ FrameEnd U o U' L ({ frames := 2, cells := 0, slots := 0, locals := 32 } : Room).cells ({ frames := 2, cells := 0, slots := 0, locals := 32 } : Room).slots) := by
  refine MetFree.of_bodySF (plainFor_of_name pn_0) hisR ?_
  intro p e s m args below meth cD s₁ Bd hml0 hP hK
  obtain ⟨rfl, hZ, hh⟩ := hP
  have hw := G.1
  have hx := Bd.exec
  have hby := Bd.bytes
  have hml : cD.maxLocals = 3 := hml0
  have hown : s.vm.findClass "java/lang/String" = some m.cls := findClass_of_methodNamed Bd.named
  have hnm := (name_of_methodNamed Bd.named Bd.method).1
  have hlk := Bd.notSynchronized
  have X0 : Stand p l e ({ frames := 2, cells := 0, slots := 0, locals := 32 } : Room) s m #[(.ref x0), (.int 58), (.int 0)] below meth cD s₁ [] 0 0 := Stand.of_body Bd
  have e0 : s₁.heap = h0 := by rw [← hh, Bd.state]; rfl
  have lt0 := own_ltN' P0.lt
  have lt1 := own_ltN' P1.lt
  have lt2 := own_ltN' P2.lt
  have lt3 := own_ltN' P3.lt
  have K0 : Keep h0 h0 [] := Keep.refl h0 _
  have Z0 := own_old_le O0
  have N0 := Fr.nil n0
  refine OwnEnd.start (g' := (mkF m 0 #[.val (.ref x0), .val (.int 58), .val (.int 0)] [])) (own_efsj5 m x0) ?_
  refine OwnEnd.of (S' := s₁.setTop (mkF m 1 #[.val (.ref x0), .val (.int 58), .val (.int 0)] [(.ref x0)])) (fun _ kK => XS.aloadN X0.here hx rfl (hb hby d21_0) rfl rfl kK) ?_
  obtain ⟨cq1, kq1, q1a, q1b, q1c⟩ := isOf hZ e0 P0
  obtain ⟨_, _, ⟨T1, L1, k1, n1⟩, -, X1, ⟨Lc1, hQ1, l1, y1, z1⟩, st1⟩ := X0.virtualBack hx (y := own_m4) (z := own_m4) hown (mvT hZ (own_w G 47 rfl)) (mvT hZ (own_w G 48 rfl)) (notFace_of_selects (args := #[]) (mvT hZ (own_w G 50 rfl))) (mvT hZ (own_w G 50 rfl)) (mvT hZ (own_w G 49 rfl)) (by decide) (backOf (W := 0) (rmil0 l Z a0 G [] x0 h0 n0 O0 P2) hZ (own_w G 51 rfl) (own_w G 8 rfl) (by decide) (by decide)) q1a q1c (g := (mkF m 1 #[.val (.ref x0), .val (.int 58), .val (.int 0)] [(.ref x0)])) rfl (by rw [hml]; rfl) (Steps.refl _) (argsL := []) (rest := []) (lenOf pd_4 rfl) rfl (by show 2 * 0 + _ ≤ _; exact Nat.le_of_eq rfl) (hb hby d21_1) (fun _ _ => ⟨rfl, e0, (by decide : 0 + 0 ≤ _), (by decide : 0 + 0 ≤ _)⟩)
  dsimp only [Pt.U, Pt.locs, Pt.cells, Pt.slots] at X1 l1 y1 z1 st1 hQ1
  subst l1 y1 z1
  obtain ⟨rfl, N1q, eh1⟩ := hQ1
  have N1 := Fr.app N0 N1q
  refine OwnEnd.tr (S' := T1.setTop (mkF m 4 #[.val (.ref x0), .val (.int 58), .val (.int 0)] [(.int 1)])) st1 ?_
  refine OwnEnd.of (S' := T1.setTop (mkF m 8 #[.val (.ref x0), .val (.int 58), .val (.int 0)] [(.ref x0)])) (fun _ kK => XS.ifNo X1.here hx rfl (hb hby d21_4) rfl ((if0 _ _).trans (feq ((by decide : ¬ ((1 : Int32) = (0 : Int32))))).1) (XS.aloadN X1.here hx rfl (hb hby d21_7) rfl rfl kK)) ?_
  obtain ⟨T2, X2, e2, st2⟩ := getF X1 hx hZ hown (host := "") (Or.inl (own_w G 25 rfl)) Via.refl eh1 P1 (g := (mkF m 8 #[.val (.ref x0), .val (.int 58), .val (.int 0)] [(.ref x0)])) rfl rfl (hb hby d21_8)
  refine OwnEnd.of (S' := T2.setTop (mkF m 11 #[.val (.ref x0), .val (.int 58), .val (.int 0)] [(.ref t)])) st2 ?_
  refine OwnEnd.of (S' := T2.setTop (mkF m 14 #[.val (.ref x0), .val (.int 58), .val (.int 0)] [(.ref x0), (.int 0), (.int 58), (.ref t)])) (fun _ kK => XS.iloadN X2.here hx rfl (hb hby d21_11) rfl (XS.iloadN X2.here hx rfl (hb hby d21_12) rfl (XS.aloadN X2.here hx rfl (hb hby d21_13) rfl rfl kK))) ?_
  obtain ⟨cq3, kq3, q3a, q3b, q3c⟩ := isOf hZ e2 P0
  obtain ⟨_, _, ⟨T3, L3, k3, n3⟩, -, X3, ⟨Lc3, hQ3, l3, y3, z3⟩, st3⟩ := X2.virtualBack hx (y := own_m6) (z := own_m6) hown (mvT hZ (own_w G 53 rfl)) (mvT hZ (own_w G 54 rfl)) (notFace_of_selects (args := #[]) (mvT hZ (own_w G 56 rfl))) (mvT hZ (own_w G 56 rfl)) (mvT hZ (own_w G 55 rfl)) (by decide) (backOf (W := 3) (rmln0 l Z a0 G [] x0 t kb (5 : Int32) ((([c0, c1, c2, c3, c4] : List Int32).map (fun c => c.toInt8.toInt32)).map Value.int) (.int 0) h0 n0 O0 P0 P1 P2 P3) hZ (own_w G 57 rfl) (own_w G 8 rfl) (by decide) (by decide)) q3a q3c (g := (mkF m 14 #[.val (.ref x0), .val (.int 58), .val (.int 0)] [(.ref x0), (.int 0), (.int 58), (.ref t)])) rfl (by rw [hml]; rfl) (Steps.refl _) (argsL := []) (rest := [(.int 0), (.int 58), (.ref t)]) (lenOf pd_12 rfl) rfl (by show 2 * 0 + _ ≤ _; exact Nat.le_of_eq rfl) (hb hby d21_14) (fun _ _ => ⟨rfl, e2, (by decide : 0 + 0 ≤ _), (by decide : 0 + 0 ≤ _)⟩)
  dsimp only [Pt.U, Pt.locs, Pt.cells, Pt.slots] at X3 l3 y3 z3 st3 hQ3
  subst l3 y3 z3
  obtain ⟨rfl, N3q, eh3⟩ := hQ3
  have N3 := Fr.app N1 N3q
  refine OwnEnd.tr (S' := T3.setTop (mkF m 17 #[.val (.ref x0), .val (.int 58), .val (.int 0)] [(.int 5), (.int 0), (.int 58), (.ref t)])) st3 ?_
  obtain ⟨_, _, ⟨T4, L4, k4, n4⟩, -, X4, ⟨Lc4, hQ4, l4, y4, z4⟩, st4⟩ := Jvm.LawKit.callS X3 hx (y := own_m20) hown (mvT hZ (own_w G 63 rfl)) (mvT hZ (own_w G 64 rfl)) (mvT hZ (own_w G 65 rfl)) (mvT hZ (own_w G 66 rfl)) (by decide) (backOf (W := 0) (rmsi5 l Z a0 G [] t kb c0 c1 c2 c3 c4 h0 n0 O0 P3 P4) hZ (own_w G 66 rfl) (own_w G 65 rfl) (by decide) (by decide)) (g := (mkF m 17 #[.val (.ref x0), .val (.int 58), .val (.int 0)] [(.int 5), (.int 0), (.int 58), (.ref t)])) rfl (by rw [hml]; rfl) (argsL := [(.ref t), (.int 58), (.int 0), (.int 5)]) (rest := []) (lenOf pd_13 rfl) rfl (by show 2 * 0 + _ ≤ _; exact Nat.le_of_eq rfl) (hb hby d21_17) (fun _ _ => ⟨rfl, eh3, (by decide : 0 + 0 ≤ _), (by decide : 0 + 0 ≤ _)⟩)
  dsimp only [Pt.U, Pt.locs, Pt.cells, Pt.slots] at X4 l4 y4 z4 st4 hQ4
  subst l4 y4 z4
  obtain ⟨rfl, N4q, eh4⟩ := hQ4
  have N4 := Fr.app N3 N4q
  refine OwnEnd.of (S' := T4.setTop (mkF m 20 #[.val (.ref x0), .val (.int 58), .val (.int 0)] [(.int (own_ix (0 : Int32) [c0, c1, c2, c3, c4]))])) st4 ?_
  refine OwnEnd.of (S' := T4.setTop (mkF m 36 #[.val (.ref x0), .val (.int 58), .val (.int 0)] [(.int (own_ix (0 : Int32) [c0, c1, c2, c3, c4]))])) (fun _ kK => XS.goto X4.here hx rfl (pc0 := 20) (pc' := 36) rfl (hb hby d21_20) (by decide) (by decide) kK) ?_
  refine OwnEnd.ret X4 (v := (some (.int (own_ix (0 : Int32) [c0, c1, c2, c3, c4])))) (fun h => by rw [Bd.returns] at h; cases h) hlk (fun fs hr => retOut X4 hx Bd.returns rfl (Or.inl ⟨rfl, Or.inl rfl, _, rfl⟩) (hb hby d21_36) hr) (by decide) (by decide) (Q := (own_Qint (own_ix (0 : Int32) [c0, c1, c2, c3, c4])) h0 n0) eh4 ?_
  exact ⟨rfl, N4, rfl⟩

theorem own_efsk5 (m : MethodId) (x0 : Addr) : entryFrame m #[(.ref x0), (.int 58)] 2 = mkF m 0 #[.val (.ref x0), .val (.int 58)] [] := by first | (simp [entryFrame, mkF, argsToLocals, Value.category]; done) | rfl
set_option maxRecDepth 65536 in
set_option maxHeartbeats 40000000 in
theorem rmsk5 (l : Launch) (Z : State) (a0 : Array Value) (G : OwnG Z a0) (ws : List Jvm.Cond) (x0 : Addr) (t : Addr) (kb : ClassId) (c0 : Int32) (c1 : Int32) (c2 : Int32) (c3 : Int32) (c4 : Int32) (h0 : Heap) (n0 : Nat) (O0 : Old Z n0 h0) (P0 : Exa Z h0 x0 "java/lang/String") (P1 : Fld Z h0 x0 "java/lang/String" "value" "[B" (.ref t)) (P2 : Fld Z h0 x0 "java/lang/String" "coder" "B" (.int 0)) (P3 : Arv Z h0 t kb .byte (5 : Int32) ((([c0, c1, c2, c3, c4] : List Int32).map (fun c => c.toInt8.toInt32)).map Value.int) (.int 0)) (P4 : ∀ c ∈ ([c0, c1, c2, c3, c4] : List Int32), ¬ c < (0 : Int32) ∧ ¬ (255 : Int32) < c) :
    MetFree l own_m22 (head1 (Jvm.Cond.code own_m22 jdk_42_method_79_code 2 (some .int) :: ws) ({ frames := 3, cells := 0, slots := 0, locals := 46 } : Room)) (fun a U => a = #[(.ref x0), (.int 58)] ∧ Z.Warmed39 U.vm ∧ U.heap = h0) (fun _ _ _ _ _ => True) (fun _ U o U' => ∃ v L, o = .returned v ∧ (own_Qint (own_ix (0 : Int32) [c0, c1, c2, c3, c4])) h0 n0 v U'.heap L ∧ FrameEnd U o U' L ({ frames := 3, cells := 0, slots := 0, locals := 46 } : Room).cells ({ frames := 3, cells := 0, slots := 0, locals := 46 } : Room).slots) := by
  refine MetFree.of_bodySF (plainFor_of_name pn_0) hisR ?_
  intro p e s m args below meth cD s₁ Bd hml0 hP hK
  obtain ⟨rfl, hZ, hh⟩ := hP
  have hw := G.1
  have hx := Bd.exec
  have hby := Bd.bytes
  have hml : cD.maxLocals = 2 := hml0
  have hown : s.vm.findClass "java/lang/String" = some m.cls := findClass_of_methodNamed Bd.named
  have hnm := (name_of_methodNamed Bd.named Bd.method).1
  have hlk := Bd.notSynchronized
  have X0 : Stand p l e ({ frames := 3, cells := 0, slots := 0, locals := 46 } : Room) s m #[(.ref x0), (.int 58)] below meth cD s₁ [] 0 0 := Stand.of_body Bd
  have e0 : s₁.heap = h0 := by rw [← hh, Bd.state]; rfl
  have lt0 := own_ltN' P0.lt
  have lt1 := own_ltN' P1.lt
  have lt2 := own_ltN' P2.lt
  have lt3 := own_ltN' P3.lt
  have K0 : Keep h0 h0 [] := Keep.refl h0 _
  have Z0 := own_old_le O0
  have N0 := Fr.nil n0
  refine OwnEnd.start (g' := (mkF m 0 #[.val (.ref x0), .val (.int 58)] [])) (own_efsk5 m x0) ?_
  refine OwnEnd.of (S' := s₁.setTop (mkF m 3 #[.val (.ref x0), .val (.int 58)] [(.int 0), (.int 58), (.ref x0)])) (fun _ kK => XS.aloadN X0.here hx rfl (hb hby d22_0) rfl rfl (XS.iloadN X0.here hx rfl (hb hby d22_1) rfl (XS.iconst X0.here hx rfl (hb hby d22_2) kK))) ?_
  obtain ⟨cq1, kq1, q1a, q1b, q1c⟩ := isOf hZ e0 P0
  obtain ⟨_, _, ⟨T1, L1, k1, n1⟩, -, X1, ⟨Lc1, hQ1, l1, y1, z1⟩, st1⟩ := X0.virtualBack hx (y := own_m21) (z := own_m21) hown (mvT hZ (own_w G 42 rfl)) (mvT hZ (own_w G 43 rfl)) (notFace_of_selects (args := #[]) (mvT hZ (own_w G 45 rfl))) (mvT hZ (own_w G 45 rfl)) (mvT hZ (own_w G 44 rfl)) (by decide) (backOf (W := 0) (rmsj5 l Z a0 G [] x0 t kb c0 c1 c2 c3 c4 h0 n0 O0 P0 P1 P2 P3 P4) hZ (own_w G 46 rfl) (own_w G 8 rfl) (by decide) (by decide)) q1a q1c (g := (mkF m 3 #[.val (.ref x0), .val (.int 58)] [(.int 0), (.int 58), (.ref x0)])) rfl (by rw [hml]; rfl) (Steps.refl _) (argsL := [(.int 58), (.int 0)]) (rest := []) (lenOf pd_11 rfl) rfl (by show 2 * 0 + _ ≤ _; exact Nat.le_of_eq rfl) (hb hby d22_3) (fun _ _ => ⟨rfl, e0, (by decide : 0 + 0 ≤ _), (by decide : 0 + 0 ≤ _)⟩)
  dsimp only [Pt.U, Pt.locs, Pt.cells, Pt.slots] at X1 l1 y1 z1 st1 hQ1
  subst l1 y1 z1
  obtain ⟨rfl, N1q, eh1⟩ := hQ1
  have N1 := Fr.app N0 N1q
  refine OwnEnd.tr (S' := T1.setTop (mkF m 6 #[.val (.ref x0), .val (.int 58)] [(.int (own_ix (0 : Int32) [c0, c1, c2, c3, c4]))])) st1 ?_
  refine OwnEnd.ret X1 (v := (some (.int (own_ix (0 : Int32) [c0, c1, c2, c3, c4])))) (fun h => by rw [Bd.returns] at h; cases h) hlk (fun fs hr => retOut X1 hx Bd.returns rfl (Or.inl ⟨rfl, Or.inl rfl, _, rfl⟩) (hb hby d22_6) hr) (by decide) (by decide) (Q := (own_Qint (own_ix (0 : Int32) [c0, c1, c2, c3, c4])) h0 n0) eh1 ?_
  exact ⟨rfl, N1, rfl⟩

theorem own_efia5 (m : MethodId) (x0 : Addr) : entryFrame m #[(.ref x0)] 4 = mkF m 0 #[.val (.ref x0), .unset, .unset, .unset] [] := by first | (simp [entryFrame, mkF, argsToLocals, Value.category]; done) | rfl
set_option maxRecDepth 65536 in
set_option maxHeartbeats 40000000 in
theorem rmia5 (l : Launch) (Z : State) (a0 : Array Value) (G : OwnG Z a0) (ws : List Jvm.Cond) (x0 : Addr) (t : Addr) (kb : ClassId) (c0 : Int32) (c1 : Int32) (c2 : Int32) (c3 : Int32) (c4 : Int32) (h0 : Heap) (n0 : Nat) (O0 : Old Z n0 h0) (P0 : Exa Z h0 x0 "java/lang/String") (P1 : Fld Z h0 x0 "java/lang/String" "value" "[B" (.ref t)) (P2 : Fld Z h0 x0 "java/lang/String" "coder" "B" (.int 0)) (P3 : Arv Z h0 t kb .byte (5 : Int32) ((([c0, c1, c2, c3, c4] : List Int32).map (fun c => c.toInt8.toInt32)).map Value.int) (.int 0)) (P4 : ∀ c ∈ ([c0, c1, c2, c3, c4] : List Int32), ¬ c < (0 : Int32) ∧ ¬ (255 : Int32) < c) :
    MetFree l own_m23 (head1 (Jvm.Cond.code own_m23 prog_6_method_2_code 4 (some .boolean) :: ws) ({ frames := 4, cells := 0, slots := 0, locals := 59 } : Room)) (fun a U => a = #[(.ref x0)] ∧ Z.Warmed39 U.vm ∧ U.heap = h0) (fun _ _ _ _ _ => True) (fun _ U o U' => ∃ v L, o = .returned v ∧ (own_Qint (own_abs [c0, c1, c2, c3, c4])) h0 n0 v U'.heap L ∧ FrameEnd U o U' L ({ frames := 4, cells := 0, slots := 0, locals := 59 } : Room).cells ({ frames := 4, cells := 0, slots := 0, locals := 59 } : Room).slots) := by
  refine MetFree.of_bodySF (plainFor_of_name pn_4) hisR ?_
  intro p e s m args below meth cD s₁ Bd hml0 hP hK
  obtain ⟨rfl, hZ, hh⟩ := hP
  have hw := G.1
  have hx := Bd.exec
  have hby := Bd.bytes
  have hml : cD.maxLocals = 4 := hml0
  have hown : s.vm.findClass "com/example/vett/vett/model/Iris" = some m.cls := findClass_of_methodNamed Bd.named
  have hnm := (name_of_methodNamed Bd.named Bd.method).1
  have hlk := Bd.notSynchronized
  have X0 : Stand p l e ({ frames := 4, cells := 0, slots := 0, locals := 59 } : Room) s m #[(.ref x0)] below meth cD s₁ [] 0 0 := Stand.of_body Bd
  have e0 : s₁.heap = h0 := by rw [← hh, Bd.state]; rfl
  have lt0 := own_ltN' P0.lt
  have lt1 := own_ltN' P1.lt
  have lt2 := own_ltN' P2.lt
  have lt3 := own_ltN' P3.lt
  have K0 : Keep h0 h0 [] := Keep.refl h0 _
  have Z0 := own_old_le O0
  have N0 := Fr.nil n0
  obtain ⟨aT0, aT1, aT2, ST0, ST1, ST2, TB0, TB1, TB2⟩ := own_tabs G
  refine OwnEnd.start (g' := (mkF m 0 #[.val (.ref x0), .unset, .unset, .unset] [])) (own_efia5 m x0) ?_
  refine OwnEnd.of (S' := s₁.setTop (mkF m 3 #[.val (.ref x0), .unset, .unset, .unset] [(.int 58), (.ref x0)])) (fun _ kK => XS.aloadN X0.here hx rfl (hb hby d23_0) rfl rfl (XS.bipush X0.here hx rfl (hb hby d23_1) kK)) ?_
  obtain ⟨cq1, kq1, q1a, q1b, q1c⟩ := isOf hZ e0 P0
  obtain ⟨_, _, ⟨T1, L1, k1, n1⟩, -, X1, ⟨Lc1, hQ1, l1, y1, z1⟩, st1⟩ := X0.virtualBack hx (y := own_m22) (z := own_m22) hown (mvT hZ (own_w G 37 rfl)) (mvT hZ (own_w G 38 rfl)) (notFace_of_selects (args := #[]) (mvT hZ (own_w G 40 rfl))) (mvT hZ (own_w G 40 rfl)) (mvT hZ (own_w G 39 rfl)) (by decide) (backOf (W := 0) (rmsk5 l Z a0 G [] x0 t kb c0 c1 c2 c3 c4 h0 n0 O0 P0 P1 P2 P3 P4) hZ (own_w G 41 rfl) (own_w G 8 rfl) (by decide) (by decide)) q1a q1c (g := (mkF m 3 #[.val (.ref x0), .unset, .unset, .unset] [(.int 58), (.ref x0)])) rfl (by rw [hml]; rfl) (Steps.refl _) (argsL := [(.int 58)]) (rest := []) (lenOf pd_14 rfl) rfl (by show 2 * 0 + _ ≤ _; exact Nat.le_of_eq rfl) (hb hby d23_3) (fun _ _ => ⟨rfl, e0, (by decide : 0 + 0 ≤ _), (by decide : 0 + 0 ≤ _)⟩)
  dsimp only [Pt.U, Pt.locs, Pt.cells, Pt.slots] at X1 l1 y1 z1 st1 hQ1
  subst l1 y1 z1
  obtain ⟨rfl, N1q, eh1⟩ := hQ1
  have N1 := Fr.app N0 N1q
  refine OwnEnd.tr (S' := T1.setTop (mkF m 6 #[.val (.ref x0), .unset, .unset, .unset] [(.int (own_ix (0 : Int32) [c0, c1, c2, c3, c4]))])) st1 ?_
  rcases own_ixc5 c0 c1 c2 c3 c4 with hxc | hxc | hxc | hxc | hxc | hxc
  · rw [hxc.1]
    refine OwnEnd.of (S' := T1.setTop (mkF m 63 #[.val (.ref x0), .val (.int 0), .val (.int 0), .val (.int 1)] [(.int 0)])) (fun _ kK => XS.istoreN X1.here hx rfl (hb hby d23_6) rfl (l' := #[.val (.ref x0), .val (.int 0), .unset, .unset]) rfl (XS.iloadN X1.here hx rfl (hb hby d23_7) rfl (XS.ifYes X1.here hx rfl (pc0 := 8) (pc' := 30) rfl (hb hby d23_8) rfl ((if0 _ _).trans (flt ((by decide : ¬ ((0 : Int32) < (0 : Int32))))).2.2.2) (by decide) (by decide) (XS.iconst X1.here hx rfl (hb hby d23_30) (XS.istoreN X1.here hx rfl (hb hby d23_31) rfl (l' := #[.val (.ref x0), .val (.int 0), .val (.int 0), .unset]) rfl (XS.iconst X1.here hx rfl (hb hby d23_32) (XS.istoreN X1.here hx rfl (hb hby d23_33) rfl (l' := #[.val (.ref x0), .val (.int 0), .val (.int 0), .val (.int 1)]) rfl (XS.iloadN X1.here hx rfl (hb hby d23_34) rfl (XS.ifYes X1.here hx rfl (pc0 := 35) (pc' := 62) rfl (hb hby d23_35) rfl ((if0 _ _).trans (teq ((by decide : (0 : Int32) = (0 : Int32)))).1) (by decide) (by decide) (XS.iloadN X1.here hx rfl (hb hby d23_62) rfl kK)))))))))) ?_
    refine OwnEnd.of (S' := T1.setTop (mkF m 94 #[.val (.ref x0), .val (.int 0), .val (.int 0), .val (.int 1)] [(.int 0)])) (fun _ kK => XS.iconst X1.here hx rfl (hb hby d23_63) (XS.iadd X1.here hx rfl (hb hby d23_64) rfl (XS.istoreN X1.here hx rfl (hb hby d23_65) rfl (l' := #[.val (.ref x0), .val (.int 0), .val (.int 0), .val (.int 1)]) rfl (XS.iloadN X1.here hx rfl (hb hby d23_66) rfl (XS.ifYes X1.here hx rfl (pc0 := 67) (pc' := 93) rfl (hb hby d23_67) rfl ((if0 _ _).trans (teq ((by decide : (0 : Int32) = (0 : Int32)))).1) (by decide) (by decide) (XS.iloadN X1.here hx rfl (hb hby d23_93) rfl kK)))))) ?_
    refine OwnEnd.ret X1 (v := (some (.int (nar .boolean (0 : Int32))))) (fun h => by rw [Bd.returns] at h; cases h) hlk (fun fs hr => retN X1 hx (t := .boolean) Bd.returns (by simp) (hb hby d23_94) hr) (by decide) (by decide) (Q := (own_Qint (own_abs [c0, c1, c2, c3, c4])) h0 n0) eh1 ?_
    exact ⟨(by show some (Value.int (nar .boolean (0 : Int32))) = _; simp [own_abs, own_sch, own_tail, nar, hxc]), N1, rfl⟩
  · rw [hxc.1]
    refine OwnEnd.of (S' := T1.setTop (mkF m 11 #[.val (.ref x0), .val (.int 1), .unset, .unset] [])) (fun _ kK => XS.istoreN X1.here hx rfl (hb hby d23_6) rfl (l' := #[.val (.ref x0), .val (.int 1), .unset, .unset]) rfl (XS.iloadN X1.here hx rfl (hb hby d23_7) rfl (XS.ifNo X1.here hx rfl (hb hby d23_8) rfl ((if0 _ _).trans (tlt ((by decide : (0 : Int32) < (1 : Int32)))).2.2.2) kK))) ?_
    obtain ⟨T2, X2, e2, st2⟩ := getS2 X1 hx hZ hown (host := "") (Or.inl (own_w G 96 rfl)) Via.refl eh1 (ST0.ext O0.2) (g := (mkF m 11 #[.val (.ref x0), .val (.int 1), .unset, .unset] [])) rfl (hb hby d23_11)
    refine OwnEnd.of (S' := T2.setTop (mkF m 14 #[.val (.ref x0), .val (.int 1), .unset, .unset] [(.ref aT0)])) st2 ?_
    refine OwnEnd.of (S' := T2.setTop (mkF m 17 #[.val (.ref x0), .val (.int 1), .unset, .unset] [(.int 0), (.ref x0), (.int 0), (.ref aT0)])) (fun _ kK => XS.iconst X2.here hx rfl (hb hby d23_14) (XS.aloadN X2.here hx rfl (hb hby d23_15) rfl rfl (XS.iconst X2.here hx rfl (hb hby d23_16) kK))) ?_
    obtain ⟨cq3, kq3, q3a, q3b, q3c⟩ := isOf hZ e2 P0
    obtain ⟨_, _, ⟨T3, L3, k3, n3⟩, -, X3, ⟨Lc3, hQ3, l3, y3, z3⟩, st3⟩ := X2.virtualBack hx (y := own_m8) (z := own_m8) hown (mvT hZ (own_w G 98 rfl)) (mvT hZ (own_w G 99 rfl)) (notFace_of_selects (args := #[]) (mvT hZ (own_w G 101 rfl))) (mvT hZ (own_w G 101 rfl)) (mvT hZ (own_w G 100 rfl)) (by decide) (backOf (W := 2) (rmcA0 l Z a0 G [] x0 t kb (5 : Int32) ((([c0, c1, c2, c3, c4] : List Int32).map (fun c => c.toInt8.toInt32)).map Value.int) (.int 0) (0 : Int32) c0 h0 n0 O0 P0 P1 P2 P3 (by decide : ¬ (0 : Int32) < (0 : Int32)) (by decide : (0 : Int32) < (5 : Int32)) (by rfl : ((([c0, c1, c2, c3, c4] : List Int32).map (fun c => c.toInt8.toInt32)).map Value.int).getD (0 : Int32).toNatClampNeg (.int 0) = (.int (StrChars.lo8 c0))) (P4 c0 (by simp))) hZ (own_w G 102 rfl) (own_w G 8 rfl) (by decide) (by decide)) q3a q3c (g := (mkF m 17 #[.val (.ref x0), .val (.int 1), .unset, .unset] [(.int 0), (.ref x0), (.int 0), (.ref aT0)])) rfl (by rw [hml]; rfl) (Steps.refl _) (argsL := [(.int 0)]) (rest := [(.int 0), (.ref aT0)]) (lenOf pd_15 rfl) rfl (by show 2 * 0 + _ ≤ _; exact Nat.le_of_eq rfl) (hb hby d23_17) (fun _ _ => ⟨rfl, e2, (by decide : 0 + 0 ≤ _), (by decide : 0 + 0 ≤ _)⟩)
    dsimp only [Pt.U, Pt.locs, Pt.cells, Pt.slots] at X3 l3 y3 z3 st3 hQ3
    subst l3 y3 z3
    obtain ⟨rfl, N3q, eh3⟩ := hQ3
    have N3 := Fr.app N1 N3q
    refine OwnEnd.tr (S' := T3.setTop (mkF m 20 #[.val (.ref x0), .val (.int 1), .unset, .unset] [(.int c0), (.int 0), (.ref aT0)])) st3 ?_
    obtain ⟨_, _, ⟨T4, L4, k4, n4⟩, -, X4, ⟨Lc4, hQ4, l4, y4, z4⟩, st4⟩ := Jvm.LawKit.callS X3 hx (y := own_m17) hown (mvT hZ (own_w G 114 rfl)) (mvT hZ (own_w G 115 rfl)) (mvT hZ (own_w G 35 rfl)) (mvT hZ (own_w G 116 rfl)) (by decide) (backOf (W := 0) (rmii l Z a0 G [] aT0 own_letter (0 : Int32) c0 h0 n0 O0 TB0 (P4 c0 (by simp)) own_nbl (by decide : nar .boolean (0 : Int32) = (0 : Int32))) hZ (own_w G 116 rfl) (own_w G 35 rfl) (by decide) (by decide)) (g := (mkF m 20 #[.val (.ref x0), .val (.int 1), .unset, .unset] [(.int c0), (.int 0), (.ref aT0)])) rfl (by rw [hml]; rfl) (argsL := [(.ref aT0), (.int 0), (.int c0)]) (rest := []) (lenOf pd_9 rfl) rfl (by show 2 * 0 + _ ≤ _; exact Nat.le_of_eq rfl) (hb hby d23_20) (fun _ _ => ⟨rfl, eh3, (by decide : 0 + 0 ≤ _), (by decide : 0 + 0 ≤ _)⟩)
    dsimp only [Pt.U, Pt.locs, Pt.cells, Pt.slots] at X4 l4 y4 z4 st4 hQ4
    subst l4 y4 z4
    obtain ⟨rfl, N4q, eh4⟩ := hQ4
    have N4 := Fr.app N3 N4q
    refine OwnEnd.of (S' := T4.setTop (mkF m 23 #[.val (.ref x0), .val (.int 1), .unset, .unset] [(.int (if c0 < (128 : Int32) then own_letter c0 else (0 : Int32)))])) st4 ?_
    rw [own_letter_tab (P4 c0 (by simp))]
    rcases own_letter01 c0 with hb5 | hb5
    · rw [hb5]
      refine OwnEnd.of (S' := T4.setTop (mkF m 65 #[.val (.ref x0), .val (.int 1), .val (.int 0), .val (.int 1)] [(.int 2)])) (fun _ kK => XS.ifYes X4.here hx rfl (pc0 := 23) (pc' := 30) rfl (hb hby d23_23) rfl ((if0 _ _).trans (teq ((by decide : (0 : Int32) = (0 : Int32)))).1) (by decide) (by decide) (XS.iconst X4.here hx rfl (hb hby d23_30) (XS.istoreN X4.here hx rfl (hb hby d23_31) rfl (l' := #[.val (.ref x0), .val (.int 1), .val (.int 0), .unset]) rfl (XS.iconst X4.here hx rfl (hb hby d23_32) (XS.istoreN X4.here hx rfl (hb hby d23_33) rfl (l' := #[.val (.ref x0), .val (.int 1), .val (.int 0), .val (.int 1)]) rfl (XS.iloadN X4.here hx rfl (hb hby d23_34) rfl (XS.ifYes X4.here hx rfl (pc0 := 35) (pc' := 62) rfl (hb hby d23_35) rfl ((if0 _ _).trans (teq ((by decide : (0 : Int32) = (0 : Int32)))).1) (by decide) (by decide) (XS.iloadN X4.here hx rfl (hb hby d23_62) rfl (XS.iconst X4.here hx rfl (hb hby d23_63) (XS.iadd X4.here hx rfl (hb hby d23_64) rfl kK)))))))))) ?_
      refine OwnEnd.of (S' := T4.setTop (mkF m 94 #[.val (.ref x0), .val (.int 1), .val (.int 0), .val (.int 2)] [(.int 0)])) (fun _ kK => XS.istoreN X4.here hx rfl (hb hby d23_65) rfl (l' := #[.val (.ref x0), .val (.int 1), .val (.int 0), .val (.int 2)]) rfl (XS.iloadN X4.here hx rfl (hb hby d23_66) rfl (XS.ifYes X4.here hx rfl (pc0 := 67) (pc' := 93) rfl (hb hby d23_67) rfl ((if0 _ _).trans (teq ((by decide : (0 : Int32) = (0 : Int32)))).1) (by decide) (by decide) (XS.iloadN X4.here hx rfl (hb hby d23_93) rfl kK)))) ?_
      refine OwnEnd.ret X4 (v := (some (.int (nar .boolean (0 : Int32))))) (fun h => by rw [Bd.returns] at h; cases h) hlk (fun fs hr => retN X4 hx (t := .boolean) Bd.returns (by simp) (hb hby d23_94) hr) (by decide) (by decide) (Q := (own_Qint (own_abs [c0, c1, c2, c3, c4])) h0 n0) eh4 ?_
      exact ⟨(by show some (Value.int (nar .boolean (0 : Int32))) = _; simp [own_abs, own_sch, own_tail, nar, hxc, hb5]), N4, rfl⟩
    · rw [hb5]
      refine OwnEnd.of (S' := T4.setTop (mkF m 40 #[.val (.ref x0), .val (.int 1), .val (.int 1), .val (.int 1)] [(.int 1), (.int 1)])) (fun _ kK => XS.ifNo X4.here hx rfl (hb hby d23_23) rfl ((if0 _ _).trans (feq ((by decide : ¬ ((1 : Int32) = (0 : Int32))))).1) (XS.iconst X4.here hx rfl (hb hby d23_26) (XS.goto X4.here hx rfl (pc0 := 27) (pc' := 31) rfl (hb hby d23_27) (by decide) (by decide) (XS.istoreN X4.here hx rfl (hb hby d23_31) rfl (l' := #[.val (.ref x0), .val (.int 1), .val (.int 1), .unset]) rfl (XS.iconst X4.here hx rfl (hb hby d23_32) (XS.istoreN X4.here hx rfl (hb hby d23_33) rfl (l' := #[.val (.ref x0), .val (.int 1), .val (.int 1), .val (.int 1)]) rfl (XS.iloadN X4.here hx rfl (hb hby d23_34) rfl (XS.ifNo X4.here hx rfl (hb hby d23_35) rfl ((if0 _ _).trans (feq ((by decide : ¬ ((1 : Int32) = (0 : Int32))))).1) (XS.iloadN X4.here hx rfl (hb hby d23_38) rfl (XS.iloadN X4.here hx rfl (hb hby d23_39) rfl kK)))))))))) ?_
      refine OwnEnd.of (S' := T4.setTop (mkF m 72 #[.val (.ref x0), .val (.int 1), .val (.int 1), .val (.int 2)] [(.ref x0), (.int 2)])) (fun _ kK => XS.icmpYes X4.here hx rfl (pc0 := 40) (pc' := 62) rfl (hb hby d23_40) rfl (flt ((by decide : ¬ ((1 : Int32) < (1 : Int32))))).2.1 (by decide) (by decide) (XS.iloadN X4.here hx rfl (hb hby d23_62) rfl (XS.iconst X4.here hx rfl (hb hby d23_63) (XS.iadd X4.here hx rfl (hb hby d23_64) rfl (XS.istoreN X4.here hx rfl (hb hby d23_65) rfl (l' := #[.val (.ref x0), .val (.int 1), .val (.int 1), .val (.int 2)]) rfl (XS.iloadN X4.here hx rfl (hb hby d23_66) rfl (XS.ifNo X4.here hx rfl (hb hby d23_67) rfl ((if0 _ _).trans (feq ((by decide : ¬ ((1 : Int32) = (0 : Int32))))).1) (XS.iloadN X4.here hx rfl (hb hby d23_70) rfl (XS.aloadN X4.here hx rfl (hb hby d23_71) rfl rfl kK))))))))) ?_
      obtain ⟨cq6, kq6, q6a, q6b, q6c⟩ := isOf hZ eh4 P0
      obtain ⟨_, _, ⟨T6, L6, k6, n6⟩, -, X6, ⟨Lc6, hQ6, l6, y6, z6⟩, st6⟩ := X4.virtualBack hx (y := own_m6) (z := own_m6) hown (mvT hZ (own_w G 120 rfl)) (mvT hZ (own_w G 54 rfl)) (notFace_of_selects (args := #[]) (mvT hZ (own_w G 56 rfl))) (mvT hZ (own_w G 56 rfl)) (mvT hZ (own_w G 55 rfl)) (by decide) (backOf (W := 1) (rmln0 l Z a0 G [] x0 t kb (5 : Int32) ((([c0, c1, c2, c3, c4] : List Int32).map (fun c => c.toInt8.toInt32)).map Value.int) (.int 0) h0 n0 O0 P0 P1 P2 P3) hZ (own_w G 57 rfl) (own_w G 8 rfl) (by decide) (by decide)) q6a q6c (g := (mkF m 72 #[.val (.ref x0), .val (.int 1), .val (.int 1), .val (.int 2)] [(.ref x0), (.int 2)])) rfl (by rw [hml]; rfl) (Steps.refl _) (argsL := []) (rest := [(.int 2)]) (lenOf pd_12 rfl) rfl (by show 2 * 0 + _ ≤ _; exact Nat.le_of_eq rfl) (hb hby d23_72) (fun _ _ => ⟨rfl, eh4, (by decide : 0 + 0 ≤ _), (by decide : 0 + 0 ≤ _)⟩)
      dsimp only [Pt.U, Pt.locs, Pt.cells, Pt.slots] at X6 l6 y6 z6 st6 hQ6
      subst l6 y6 z6
      obtain ⟨rfl, N6q, eh6⟩ := hQ6
      have N6 := Fr.app N4 N6q
      refine OwnEnd.tr (S' := T6.setTop (mkF m 75 #[.val (.ref x0), .val (.int 1), .val (.int 1), .val (.int 2)] [(.int 5), (.int 2)])) st6 ?_
      refine OwnEnd.of (S' := T6.setTop (mkF m 80 #[.val (.ref x0), .val (.int 1), .val (.int 1), .val (.int 2)] [(.int 2), (.ref x0)])) (fun _ kK => XS.icmpNo X6.here hx rfl (hb hby d23_75) rfl (tlt ((by decide : (2 : Int32) < (5 : Int32)))).2.1 (XS.aloadN X6.here hx rfl (hb hby d23_78) rfl rfl (XS.iloadN X6.here hx rfl (hb hby d23_79) rfl kK))) ?_
      obtain ⟨cq7, kq7, q7a, q7b, q7c⟩ := isOf hZ eh6 P0
      obtain ⟨_, _, ⟨T7, L7, k7, n7⟩, -, X7, ⟨Lc7, hQ7, l7, y7, z7⟩, st7⟩ := X6.virtualBack hx (y := own_m8) (z := own_m8) hown (mvT hZ (own_w G 98 rfl)) (mvT hZ (own_w G 99 rfl)) (notFace_of_selects (args := #[]) (mvT hZ (own_w G 101 rfl))) (mvT hZ (own_w G 101 rfl)) (mvT hZ (own_w G 100 rfl)) (by decide) (backOf (W := 0) (rmcA0 l Z a0 G [] x0 t kb (5 : Int32) ((([c0, c1, c2, c3, c4] : List Int32).map (fun c => c.toInt8.toInt32)).map Value.int) (.int 0) (2 : Int32) c2 h0 n0 O0 P0 P1 P2 P3 (by decide : ¬ (2 : Int32) < (0 : Int32)) (by decide : (2 : Int32) < (5 : Int32)) (by rfl : ((([c0, c1, c2, c3, c4] : List Int32).map (fun c => c.toInt8.toInt32)).map Value.int).getD (2 : Int32).toNatClampNeg (.int 0) = (.int (StrChars.lo8 c2))) (P4 c2 (by simp))) hZ (own_w G 102 rfl) (own_w G 8 rfl) (by decide) (by decide)) q7a q7c (g := (mkF m 80 #[.val (.ref x0), .val (.int 1), .val (.int 1), .val (.int 2)] [(.int 2), (.ref x0)])) rfl (by rw [hml]; rfl) (Steps.refl _) (argsL := [(.int 2)]) (rest := []) (lenOf pd_15 rfl) rfl (by show 2 * 0 + _ ≤ _; exact Nat.le_of_eq rfl) (hb hby d23_80) (fun _ _ => ⟨rfl, eh6, (by decide : 0 + 0 ≤ _), (by decide : 0 + 0 ≤ _)⟩)
      dsimp only [Pt.U, Pt.locs, Pt.cells, Pt.slots] at X7 l7 y7 z7 st7 hQ7
      subst l7 y7 z7
      obtain ⟨rfl, N7q, eh7⟩ := hQ7
      have N7 := Fr.app N6 N7q
      refine OwnEnd.tr (S' := T7.setTop (mkF m 83 #[.val (.ref x0), .val (.int 1), .val (.int 1), .val (.int 2)] [(.int c2)])) st7 ?_
      obtain ⟨_, _, ⟨T8, L8, k8, n8⟩, -, X8, ⟨Lc8, hQ8, l8, y8, z8⟩, st8⟩ := Jvm.LawKit.callS X7 hx (y := own_m18) hown (mvT hZ (own_w G 121 rfl)) (mvT hZ (own_w G 122 rfl)) (mvT hZ (own_w G 35 rfl)) (mvT hZ (own_w G 123 rfl)) (by decide) (backOf (W := 0) (rmim l Z a0 G [] c2 h0 n0 O0 (P4 c2 (by simp))) hZ (own_w G 123 rfl) (own_w G 35 rfl) (by decide) (by decide)) (g := (mkF m 83 #[.val (.ref x0), .val (.int 1), .val (.int 1), .val (.int 2)] [(.int c2)])) rfl (by rw [hml]; rfl) (argsL := [(.int c2)]) (rest := []) (lenOf pd_6 rfl) rfl (by show 2 * 0 + _ ≤ _; exact Nat.le_of_eq rfl) (hb hby d23_83) (fun _ _ => ⟨rfl, eh7, (by decide : 0 + 0 ≤ _), (by decide : 0 + 0 ≤ _)⟩)
      dsimp only [Pt.U, Pt.locs, Pt.cells, Pt.slots] at X8 l8 y8 z8 st8 hQ8
      subst l8 y8 z8
      obtain ⟨rfl, N8q, eh8⟩ := hQ8
      have N8 := Fr.app N7 N8q
      refine OwnEnd.of (S' := T8.setTop (mkF m 86 #[.val (.ref x0), .val (.int 1), .val (.int 1), .val (.int 2)] [(.int (own_hold c2))])) st8 ?_
      rcases own_hold01 c2 with hb9 | hb9
      · rw [hb9]
        refine OwnEnd.of (S' := T8.setTop (mkF m 94 #[.val (.ref x0), .val (.int 1), .val (.int 0), .val (.int 3)] [(.int 0)])) (fun _ kK => XS.istoreN X8.here hx rfl (hb hby d23_86) rfl (l' := #[.val (.ref x0), .val (.int 1), .val (.int 0), .val (.int 2)]) rfl (XS.iinc X8.here hx rfl (hb hby d23_87) rfl (l' := #[.val (.ref x0), .val (.int 1), .val (.int 0), .val (.int 3)]) rfl (XS.goto X8.here hx rfl (pc0 := 90) (pc' := 66) rfl (hb hby d23_90) (by decide) (by decide) (XS.iloadN X8.here hx rfl (hb hby d23_66) rfl (XS.ifYes X8.here hx rfl (pc0 := 67) (pc' := 93) rfl (hb hby d23_67) rfl ((if0 _ _).trans (teq ((by decide : (0 : Int32) = (0 : Int32)))).1) (by decide) (by decide) (XS.iloadN X8.here hx rfl (hb hby d23_93) rfl kK)))))) ?_
        refine OwnEnd.ret X8 (v := (some (.int (nar .boolean (0 : Int32))))) (fun h => by rw [Bd.returns] at h; cases h) hlk (fun fs hr => retN X8 hx (t := .boolean) Bd.returns (by simp) (hb hby d23_94) hr) (by decide) (by decide) (Q := (own_Qint (own_abs [c0, c1, c2, c3, c4])) h0 n0) eh8 ?_
        exact ⟨(by show some (Value.int (nar .boolean (0 : Int32))) = _; simp [own_abs, own_sch, own_tail, nar, hxc, hb5, hb9]), N8, rfl⟩
      · rw [hb9]
        refine OwnEnd.of (S' := T8.setTop (mkF m 72 #[.val (.ref x0), .val (.int 1), .val (.int 1), .val (.int 3)] [(.ref x0), (.int 3)])) (fun _ kK => XS.istoreN X8.here hx rfl (hb hby d23_86) rfl (l' := #[.val (.ref x0), .val (.int 1), .val (.int 1), .val (.int 2)]) rfl (XS.iinc X8.here hx rfl (hb hby d23_87) rfl (l' := #[.val (.ref x0), .val (.int 1), .val (.int 1), .val (.int 3)]) rfl (XS.goto X8.here hx rfl (pc0 := 90) (pc' := 66) rfl (hb hby d23_90) (by decide) (by decide) (XS.iloadN X8.here hx rfl (hb hby d23_66) rfl (XS.ifNo X8.here hx rfl (hb hby d23_67) rfl ((if0 _ _).trans (feq ((by decide : ¬ ((1 : Int32) = (0 : Int32))))).1) (XS.iloadN X8.here hx rfl (hb hby d23_70) rfl (XS.aloadN X8.here hx rfl (hb hby d23_71) rfl rfl kK))))))) ?_
        obtain ⟨cq10, kq10, q10a, q10b, q10c⟩ := isOf hZ eh8 P0
        obtain ⟨_, _, ⟨T10, L10, k10, n10⟩, -, X10, ⟨Lc10, hQ10, l10, y10, z10⟩, st10⟩ := X8.virtualBack hx (y := own_m6) (z := own_m6) hown (mvT hZ (own_w G 120 rfl)) (mvT hZ (own_w G 54 rfl)) (notFace_of_selects (args := #[]) (mvT hZ (own_w G 56 rfl))) (mvT hZ (own_w G 56 rfl)) (mvT hZ (own_w G 55 rfl)) (by decide) (backOf (W := 1) (rmln0 l Z a0 G [] x0 t kb (5 : Int32) ((([c0, c1, c2, c3, c4] : List Int32).map (fun c => c.toInt8.toInt32)).map Value.int) (.int 0) h0 n0 O0 P0 P1 P2 P3) hZ (own_w G 57 rfl) (own_w G 8 rfl) (by decide) (by decide)) q10a q10c (g := (mkF m 72 #[.val (.ref x0), .val (.int 1), .val (.int 1), .val (.int 3)] [(.ref x0), (.int 3)])) rfl (by rw [hml]; rfl) (Steps.refl _) (argsL := []) (rest := [(.int 3)]) (lenOf pd_12 rfl) rfl (by show 2 * 0 + _ ≤ _; exact Nat.le_of_eq rfl) (hb hby d23_72) (fun _ _ => ⟨rfl, eh8, (by decide : 0 + 0 ≤ _), (by decide : 0 + 0 ≤ _)⟩)
        dsimp only [Pt.U, Pt.locs, Pt.cells, Pt.slots] at X10 l10 y10 z10 st10 hQ10
        subst l10 y10 z10
        obtain ⟨rfl, N10q, eh10⟩ := hQ10
        have N10 := Fr.app N8 N10q
        refine OwnEnd.tr (S' := T10.setTop (mkF m 75 #[.val (.ref x0), .val (.int 1), .val (.int 1), .val (.int 3)] [(.int 5), (.int 3)])) st10 ?_
        refine OwnEnd.of (S' := T10.setTop (mkF m 80 #[.val (.ref x0), .val (.int 1), .val (.int 1), .val (.int 3)] [(.int 3), (.ref x0)])) (fun _ kK => XS.icmpNo X10.here hx rfl (hb hby d23_75) rfl (tlt ((by decide : (3 : Int32) < (5 : Int32)))).2.1 (XS.aloadN X10.here hx rfl (hb hby d23_78) rfl rfl (XS.iloadN X10.here hx rfl (hb hby d23_79) rfl kK))) ?_
        obtain ⟨cq11, kq11, q11a, q11b, q11c⟩ := isOf hZ eh10 P0
        obtain ⟨_, _, ⟨T11, L11, k11, n11⟩, -, X11, ⟨Lc11, hQ11, l11, y11, z11⟩, st11⟩ := X10.virtualBack hx (y := own_m8) (z := own_m8) hown (mvT hZ (own_w G 98 rfl)) (mvT hZ (own_w G 99 rfl)) (notFace_of_selects (args := #[]) (mvT hZ (own_w G 101 rfl))) (mvT hZ (own_w G 101 rfl)) (mvT hZ (own_w G 100 rfl)) (by decide) (backOf (W := 0) (rmcA0 l Z a0 G [] x0 t kb (5 : Int32) ((([c0, c1, c2, c3, c4] : List Int32).map (fun c => c.toInt8.toInt32)).map Value.int) (.int 0) (3 : Int32) c3 h0 n0 O0 P0 P1 P2 P3 (by decide : ¬ (3 : Int32) < (0 : Int32)) (by decide : (3 : Int32) < (5 : Int32)) (by rfl : ((([c0, c1, c2, c3, c4] : List Int32).map (fun c => c.toInt8.toInt32)).map Value.int).getD (3 : Int32).toNatClampNeg (.int 0) = (.int (StrChars.lo8 c3))) (P4 c3 (by simp))) hZ (own_w G 102 rfl) (own_w G 8 rfl) (by decide) (by decide)) q11a q11c (g := (mkF m 80 #[.val (.ref x0), .val (.int 1), .val (.int 1), .val (.int 3)] [(.int 3), (.ref x0)])) rfl (by rw [hml]; rfl) (Steps.refl _) (argsL := [(.int 3)]) (rest := []) (lenOf pd_15 rfl) rfl (by show 2 * 0 + _ ≤ _; exact Nat.le_of_eq rfl) (hb hby d23_80) (fun _ _ => ⟨rfl, eh10, (by decide : 0 + 0 ≤ _), (by decide : 0 + 0 ≤ _)⟩)
        dsimp only [Pt.U, Pt.locs, Pt.cells, Pt.slots] at X11 l11 y11 z11 st11 hQ11
        subst l11 y11 z11
        obtain ⟨rfl, N11q, eh11⟩ := hQ11
        have N11 := Fr.app N10 N11q
        refine OwnEnd.tr (S' := T11.setTop (mkF m 83 #[.val (.ref x0), .val (.int 1), .val (.int 1), .val (.int 3)] [(.int c3)])) st11 ?_
        obtain ⟨_, _, ⟨T12, L12, k12, n12⟩, -, X12, ⟨Lc12, hQ12, l12, y12, z12⟩, st12⟩ := Jvm.LawKit.callS X11 hx (y := own_m18) hown (mvT hZ (own_w G 121 rfl)) (mvT hZ (own_w G 122 rfl)) (mvT hZ (own_w G 35 rfl)) (mvT hZ (own_w G 123 rfl)) (by decide) (backOf (W := 0) (rmim l Z a0 G [] c3 h0 n0 O0 (P4 c3 (by simp))) hZ (own_w G 123 rfl) (own_w G 35 rfl) (by decide) (by decide)) (g := (mkF m 83 #[.val (.ref x0), .val (.int 1), .val (.int 1), .val (.int 3)] [(.int c3)])) rfl (by rw [hml]; rfl) (argsL := [(.int c3)]) (rest := []) (lenOf pd_6 rfl) rfl (by show 2 * 0 + _ ≤ _; exact Nat.le_of_eq rfl) (hb hby d23_83) (fun _ _ => ⟨rfl, eh11, (by decide : 0 + 0 ≤ _), (by decide : 0 + 0 ≤ _)⟩)
        dsimp only [Pt.U, Pt.locs, Pt.cells, Pt.slots] at X12 l12 y12 z12 st12 hQ12
        subst l12 y12 z12
        obtain ⟨rfl, N12q, eh12⟩ := hQ12
        have N12 := Fr.app N11 N12q
        refine OwnEnd.of (S' := T12.setTop (mkF m 86 #[.val (.ref x0), .val (.int 1), .val (.int 1), .val (.int 3)] [(.int (own_hold c3))])) st12 ?_
        rcases own_hold01 c3 with hb13 | hb13
        · rw [hb13]
          refine OwnEnd.of (S' := T12.setTop (mkF m 94 #[.val (.ref x0), .val (.int 1), .val (.int 0), .val (.int 4)] [(.int 0)])) (fun _ kK => XS.istoreN X12.here hx rfl (hb hby d23_86) rfl (l' := #[.val (.ref x0), .val (.int 1), .val (.int 0), .val (.int 3)]) rfl (XS.iinc X12.here hx rfl (hb hby d23_87) rfl (l' := #[.val (.ref x0), .val (.int 1), .val (.int 0), .val (.int 4)]) rfl (XS.goto X12.here hx rfl (pc0 := 90) (pc' := 66) rfl (hb hby d23_90) (by decide) (by decide) (XS.iloadN X12.here hx rfl (hb hby d23_66) rfl (XS.ifYes X12.here hx rfl (pc0 := 67) (pc' := 93) rfl (hb hby d23_67) rfl ((if0 _ _).trans (teq ((by decide : (0 : Int32) = (0 : Int32)))).1) (by decide) (by decide) (XS.iloadN X12.here hx rfl (hb hby d23_93) rfl kK)))))) ?_
          refine OwnEnd.ret X12 (v := (some (.int (nar .boolean (0 : Int32))))) (fun h => by rw [Bd.returns] at h; cases h) hlk (fun fs hr => retN X12 hx (t := .boolean) Bd.returns (by simp) (hb hby d23_94) hr) (by decide) (by decide) (Q := (own_Qint (own_abs [c0, c1, c2, c3, c4])) h0 n0) eh12 ?_
          exact ⟨(by show some (Value.int (nar .boolean (0 : Int32))) = _; simp [own_abs, own_sch, own_tail, nar, hxc, hb5, hb9, hb13]), N12, rfl⟩
        · rw [hb13]
          refine OwnEnd.of (S' := T12.setTop (mkF m 72 #[.val (.ref x0), .val (.int 1), .val (.int 1), .val (.int 4)] [(.ref x0), (.int 4)])) (fun _ kK => XS.istoreN X12.here hx rfl (hb hby d23_86) rfl (l' := #[.val (.ref x0), .val (.int 1), .val (.int 1), .val (.int 3)]) rfl (XS.iinc X12.here hx rfl (hb hby d23_87) rfl (l' := #[.val (.ref x0), .val (.int 1), .val (.int 1), .val (.int 4)]) rfl (XS.goto X12.here hx rfl (pc0 := 90) (pc' := 66) rfl (hb hby d23_90) (by decide) (by decide) (XS.iloadN X12.here hx rfl (hb hby d23_66) rfl (XS.ifNo X12.here hx rfl (hb hby d23_67) rfl ((if0 _ _).trans (feq ((by decide : ¬ ((1 : Int32) = (0 : Int32))))).1) (XS.iloadN X12.here hx rfl (hb hby d23_70) rfl (XS.aloadN X12.here hx rfl (hb hby d23_71) rfl rfl kK))))))) ?_
          obtain ⟨cq14, kq14, q14a, q14b, q14c⟩ := isOf hZ eh12 P0
          obtain ⟨_, _, ⟨T14, L14, k14, n14⟩, -, X14, ⟨Lc14, hQ14, l14, y14, z14⟩, st14⟩ := X12.virtualBack hx (y := own_m6) (z := own_m6) hown (mvT hZ (own_w G 120 rfl)) (mvT hZ (own_w G 54 rfl)) (notFace_of_selects (args := #[]) (mvT hZ (own_w G 56 rfl))) (mvT hZ (own_w G 56 rfl)) (mvT hZ (own_w G 55 rfl)) (by decide) (backOf (W := 1) (rmln0 l Z a0 G [] x0 t kb (5 : Int32) ((([c0, c1, c2, c3, c4] : List Int32).map (fun c => c.toInt8.toInt32)).map Value.int) (.int 0) h0 n0 O0 P0 P1 P2 P3) hZ (own_w G 57 rfl) (own_w G 8 rfl) (by decide) (by decide)) q14a q14c (g := (mkF m 72 #[.val (.ref x0), .val (.int 1), .val (.int 1), .val (.int 4)] [(.ref x0), (.int 4)])) rfl (by rw [hml]; rfl) (Steps.refl _) (argsL := []) (rest := [(.int 4)]) (lenOf pd_12 rfl) rfl (by show 2 * 0 + _ ≤ _; exact Nat.le_of_eq rfl) (hb hby d23_72) (fun _ _ => ⟨rfl, eh12, (by decide : 0 + 0 ≤ _), (by decide : 0 + 0 ≤ _)⟩)
          dsimp only [Pt.U, Pt.locs, Pt.cells, Pt.slots] at X14 l14 y14 z14 st14 hQ14
          subst l14 y14 z14
          obtain ⟨rfl, N14q, eh14⟩ := hQ14
          have N14 := Fr.app N12 N14q
          refine OwnEnd.tr (S' := T14.setTop (mkF m 75 #[.val (.ref x0), .val (.int 1), .val (.int 1), .val (.int 4)] [(.int 5), (.int 4)])) st14 ?_
          refine OwnEnd.of (S' := T14.setTop (mkF m 80 #[.val (.ref x0), .val (.int 1), .val (.int 1), .val (.int 4)] [(.int 4), (.ref x0)])) (fun _ kK => XS.icmpNo X14.here hx rfl (hb hby d23_75) rfl (tlt ((by decide : (4 : Int32) < (5 : Int32)))).2.1 (XS.aloadN X14.here hx rfl (hb hby d23_78) rfl rfl (XS.iloadN X14.here hx rfl (hb hby d23_79) rfl kK))) ?_
          obtain ⟨cq15, kq15, q15a, q15b, q15c⟩ := isOf hZ eh14 P0
          obtain ⟨_, _, ⟨T15, L15, k15, n15⟩, -, X15, ⟨Lc15, hQ15, l15, y15, z15⟩, st15⟩ := X14.virtualBack hx (y := own_m8) (z := own_m8) hown (mvT hZ (own_w G 98 rfl)) (mvT hZ (own_w G 99 rfl)) (notFace_of_selects (args := #[]) (mvT hZ (own_w G 101 rfl))) (mvT hZ (own_w G 101 rfl)) (mvT hZ (own_w G 100 rfl)) (by decide) (backOf (W := 0) (rmcA0 l Z a0 G [] x0 t kb (5 : Int32) ((([c0, c1, c2, c3, c4] : List Int32).map (fun c => c.toInt8.toInt32)).map Value.int) (.int 0) (4 : Int32) c4 h0 n0 O0 P0 P1 P2 P3 (by decide : ¬ (4 : Int32) < (0 : Int32)) (by decide : (4 : Int32) < (5 : Int32)) (by rfl : ((([c0, c1, c2, c3, c4] : List Int32).map (fun c => c.toInt8.toInt32)).map Value.int).getD (4 : Int32).toNatClampNeg (.int 0) = (.int (StrChars.lo8 c4))) (P4 c4 (by simp))) hZ (own_w G 102 rfl) (own_w G 8 rfl) (by decide) (by decide)) q15a q15c (g := (mkF m 80 #[.val (.ref x0), .val (.int 1), .val (.int 1), .val (.int 4)] [(.int 4), (.ref x0)])) rfl (by rw [hml]; rfl) (Steps.refl _) (argsL := [(.int 4)]) (rest := []) (lenOf pd_15 rfl) rfl (by show 2 * 0 + _ ≤ _; exact Nat.le_of_eq rfl) (hb hby d23_80) (fun _ _ => ⟨rfl, eh14, (by decide : 0 + 0 ≤ _), (by decide : 0 + 0 ≤ _)⟩)
          dsimp only [Pt.U, Pt.locs, Pt.cells, Pt.slots] at X15 l15 y15 z15 st15 hQ15
          subst l15 y15 z15
          obtain ⟨rfl, N15q, eh15⟩ := hQ15
          have N15 := Fr.app N14 N15q
          refine OwnEnd.tr (S' := T15.setTop (mkF m 83 #[.val (.ref x0), .val (.int 1), .val (.int 1), .val (.int 4)] [(.int c4)])) st15 ?_
          obtain ⟨_, _, ⟨T16, L16, k16, n16⟩, -, X16, ⟨Lc16, hQ16, l16, y16, z16⟩, st16⟩ := Jvm.LawKit.callS X15 hx (y := own_m18) hown (mvT hZ (own_w G 121 rfl)) (mvT hZ (own_w G 122 rfl)) (mvT hZ (own_w G 35 rfl)) (mvT hZ (own_w G 123 rfl)) (by decide) (backOf (W := 0) (rmim l Z a0 G [] c4 h0 n0 O0 (P4 c4 (by simp))) hZ (own_w G 123 rfl) (own_w G 35 rfl) (by decide) (by decide)) (g := (mkF m 83 #[.val (.ref x0), .val (.int 1), .val (.int 1), .val (.int 4)] [(.int c4)])) rfl (by rw [hml]; rfl) (argsL := [(.int c4)]) (rest := []) (lenOf pd_6 rfl) rfl (by show 2 * 0 + _ ≤ _; exact Nat.le_of_eq rfl) (hb hby d23_83) (fun _ _ => ⟨rfl, eh15, (by decide : 0 + 0 ≤ _), (by decide : 0 + 0 ≤ _)⟩)
          dsimp only [Pt.U, Pt.locs, Pt.cells, Pt.slots] at X16 l16 y16 z16 st16 hQ16
          subst l16 y16 z16
          obtain ⟨rfl, N16q, eh16⟩ := hQ16
          have N16 := Fr.app N15 N16q
          refine OwnEnd.of (S' := T16.setTop (mkF m 86 #[.val (.ref x0), .val (.int 1), .val (.int 1), .val (.int 4)] [(.int (own_hold c4))])) st16 ?_
          rcases own_hold01 c4 with hb17 | hb17
          · rw [hb17]
            refine OwnEnd.of (S' := T16.setTop (mkF m 94 #[.val (.ref x0), .val (.int 1), .val (.int 0), .val (.int 5)] [(.int 0)])) (fun _ kK => XS.istoreN X16.here hx rfl (hb hby d23_86) rfl (l' := #[.val (.ref x0), .val (.int 1), .val (.int 0), .val (.int 4)]) rfl (XS.iinc X16.here hx rfl (hb hby d23_87) rfl (l' := #[.val (.ref x0), .val (.int 1), .val (.int 0), .val (.int 5)]) rfl (XS.goto X16.here hx rfl (pc0 := 90) (pc' := 66) rfl (hb hby d23_90) (by decide) (by decide) (XS.iloadN X16.here hx rfl (hb hby d23_66) rfl (XS.ifYes X16.here hx rfl (pc0 := 67) (pc' := 93) rfl (hb hby d23_67) rfl ((if0 _ _).trans (teq ((by decide : (0 : Int32) = (0 : Int32)))).1) (by decide) (by decide) (XS.iloadN X16.here hx rfl (hb hby d23_93) rfl kK)))))) ?_
            refine OwnEnd.ret X16 (v := (some (.int (nar .boolean (0 : Int32))))) (fun h => by rw [Bd.returns] at h; cases h) hlk (fun fs hr => retN X16 hx (t := .boolean) Bd.returns (by simp) (hb hby d23_94) hr) (by decide) (by decide) (Q := (own_Qint (own_abs [c0, c1, c2, c3, c4])) h0 n0) eh16 ?_
            exact ⟨(by show some (Value.int (nar .boolean (0 : Int32))) = _; simp [own_abs, own_sch, own_tail, nar, hxc, hb5, hb9, hb13, hb17]), N16, rfl⟩
          · rw [hb17]
            refine OwnEnd.of (S' := T16.setTop (mkF m 72 #[.val (.ref x0), .val (.int 1), .val (.int 1), .val (.int 5)] [(.ref x0), (.int 5)])) (fun _ kK => XS.istoreN X16.here hx rfl (hb hby d23_86) rfl (l' := #[.val (.ref x0), .val (.int 1), .val (.int 1), .val (.int 4)]) rfl (XS.iinc X16.here hx rfl (hb hby d23_87) rfl (l' := #[.val (.ref x0), .val (.int 1), .val (.int 1), .val (.int 5)]) rfl (XS.goto X16.here hx rfl (pc0 := 90) (pc' := 66) rfl (hb hby d23_90) (by decide) (by decide) (XS.iloadN X16.here hx rfl (hb hby d23_66) rfl (XS.ifNo X16.here hx rfl (hb hby d23_67) rfl ((if0 _ _).trans (feq ((by decide : ¬ ((1 : Int32) = (0 : Int32))))).1) (XS.iloadN X16.here hx rfl (hb hby d23_70) rfl (XS.aloadN X16.here hx rfl (hb hby d23_71) rfl rfl kK))))))) ?_
            obtain ⟨cq18, kq18, q18a, q18b, q18c⟩ := isOf hZ eh16 P0
            obtain ⟨_, _, ⟨T18, L18, k18, n18⟩, -, X18, ⟨Lc18, hQ18, l18, y18, z18⟩, st18⟩ := X16.virtualBack hx (y := own_m6) (z := own_m6) hown (mvT hZ (own_w G 120 rfl)) (mvT hZ (own_w G 54 rfl)) (notFace_of_selects (args := #[]) (mvT hZ (own_w G 56 rfl))) (mvT hZ (own_w G 56 rfl)) (mvT hZ (own_w G 55 rfl)) (by decide) (backOf (W := 1) (rmln0 l Z a0 G [] x0 t kb (5 : Int32) ((([c0, c1, c2, c3, c4] : List Int32).map (fun c => c.toInt8.toInt32)).map Value.int) (.int 0) h0 n0 O0 P0 P1 P2 P3) hZ (own_w G 57 rfl) (own_w G 8 rfl) (by decide) (by decide)) q18a q18c (g := (mkF m 72 #[.val (.ref x0), .val (.int 1), .val (.int 1), .val (.int 5)] [(.ref x0), (.int 5)])) rfl (by rw [hml]; rfl) (Steps.refl _) (argsL := []) (rest := [(.int 5)]) (lenOf pd_12 rfl) rfl (by show 2 * 0 + _ ≤ _; exact Nat.le_of_eq rfl) (hb hby d23_72) (fun _ _ => ⟨rfl, eh16, (by decide : 0 + 0 ≤ _), (by decide : 0 + 0 ≤ _)⟩)
            dsimp only [Pt.U, Pt.locs, Pt.cells, Pt.slots] at X18 l18 y18 z18 st18 hQ18
            subst l18 y18 z18
            obtain ⟨rfl, N18q, eh18⟩ := hQ18
            have N18 := Fr.app N16 N18q
            refine OwnEnd.tr (S' := T18.setTop (mkF m 75 #[.val (.ref x0), .val (.int 1), .val (.int 1), .val (.int 5)] [(.int 5), (.int 5)])) st18 ?_
            refine OwnEnd.of (S' := T18.setTop (mkF m 94 #[.val (.ref x0), .val (.int 1), .val (.int 1), .val (.int 5)] [(.int 1)])) (fun _ kK => XS.icmpYes X18.here hx rfl (pc0 := 75) (pc' := 93) rfl (hb hby d23_75) rfl (flt ((by decide : ¬ ((5 : Int32) < (5 : Int32))))).2.1 (by decide) (by decide) (XS.iloadN X18.here hx rfl (hb hby d23_93) rfl kK)) ?_
            refine OwnEnd.ret X18 (v := (some (.int (nar .boolean (1 : Int32))))) (fun h => by rw [Bd.returns] at h; cases h) hlk (fun fs hr => retN X18 hx (t := .boolean) Bd.returns (by simp) (hb hby d23_94) hr) (by decide) (by decide) (Q := (own_Qint (own_abs [c0, c1, c2, c3, c4])) h0 n0) eh18 ?_
            exact ⟨(by show some (Value.int (nar .boolean (1 : Int32))) = _; simp [own_abs, own_sch, own_tail, nar, hxc, hb5, hb9, hb13, hb17]), N18, rfl⟩
  · rw [hxc.1]
    refine OwnEnd.of (S' := T1.setTop (mkF m 11 #[.val (.ref x0), .val (.int 2), .unset, .unset] [])) (fun _ kK => XS.istoreN X1.here hx rfl (hb hby d23_6) rfl (l' := #[.val (.ref x0), .val (.int 2), .unset, .unset]) rfl (XS.iloadN X1.here hx rfl (hb hby d23_7) rfl (XS.ifNo X1.here hx rfl (hb hby d23_8) rfl ((if0 _ _).trans (tlt ((by decide : (0 : Int32) < (2 : Int32)))).2.2.2) kK))) ?_
    obtain ⟨T19, X19, e19, st19⟩ := getS2 X1 hx hZ hown (host := "") (Or.inl (own_w G 96 rfl)) Via.refl eh1 (ST0.ext O0.2) (g := (mkF m 11 #[.val (.ref x0), .val (.int 2), .unset, .unset] [])) rfl (hb hby d23_11)
    refine OwnEnd.of (S' := T19.setTop (mkF m 14 #[.val (.ref x0), .val (.int 2), .unset, .unset] [(.ref aT0)])) st19 ?_
    refine OwnEnd.of (S' := T19.setTop (mkF m 17 #[.val (.ref x0), .val (.int 2), .unset, .unset] [(.int 0), (.ref x0), (.int 0), (.ref aT0)])) (fun _ kK => XS.iconst X19.here hx rfl (hb hby d23_14) (XS.aloadN X19.here hx rfl (hb hby d23_15) rfl rfl (XS.iconst X19.here hx rfl (hb hby d23_16) kK))) ?_
    obtain ⟨cq20, kq20, q20a, q20b, q20c⟩ := isOf hZ e19 P0
    obtain ⟨_, _, ⟨T20, L20, k20, n20⟩, -, X20, ⟨Lc20, hQ20, l20, y20, z20⟩, st20⟩ := X19.virtualBack hx (y := own_m8) (z := own_m8) hown (mvT hZ (own_w G 98 rfl)) (mvT hZ (own_w G 99 rfl)) (notFace_of_selects (args := #[]) (mvT hZ (own_w G 101 rfl))) (mvT hZ (own_w G 101 rfl)) (mvT hZ (own_w G 100 rfl)) (by decide) (backOf (W := 2) (rmcA0 l Z a0 G [] x0 t kb (5 : Int32) ((([c0, c1, c2, c3, c4] : List Int32).map (fun c => c.toInt8.toInt32)).map Value.int) (.int 0) (0 : Int32) c0 h0 n0 O0 P0 P1 P2 P3 (by decide : ¬ (0 : Int32) < (0 : Int32)) (by decide : (0 : Int32) < (5 : Int32)) (by rfl : ((([c0, c1, c2, c3, c4] : List Int32).map (fun c => c.toInt8.toInt32)).map Value.int).getD (0 : Int32).toNatClampNeg (.int 0) = (.int (StrChars.lo8 c0))) (P4 c0 (by simp))) hZ (own_w G 102 rfl) (own_w G 8 rfl) (by decide) (by decide)) q20a q20c (g := (mkF m 17 #[.val (.ref x0), .val (.int 2), .unset, .unset] [(.int 0), (.ref x0), (.int 0), (.ref aT0)])) rfl (by rw [hml]; rfl) (Steps.refl _) (argsL := [(.int 0)]) (rest := [(.int 0), (.ref aT0)]) (lenOf pd_15 rfl) rfl (by show 2 * 0 + _ ≤ _; exact Nat.le_of_eq rfl) (hb hby d23_17) (fun _ _ => ⟨rfl, e19, (by decide : 0 + 0 ≤ _), (by decide : 0 + 0 ≤ _)⟩)
    dsimp only [Pt.U, Pt.locs, Pt.cells, Pt.slots] at X20 l20 y20 z20 st20 hQ20
    subst l20 y20 z20
    obtain ⟨rfl, N20q, eh20⟩ := hQ20
    have N20 := Fr.app N1 N20q
    refine OwnEnd.tr (S' := T20.setTop (mkF m 20 #[.val (.ref x0), .val (.int 2), .unset, .unset] [(.int c0), (.int 0), (.ref aT0)])) st20 ?_
    obtain ⟨_, _, ⟨T21, L21, k21, n21⟩, -, X21, ⟨Lc21, hQ21, l21, y21, z21⟩, st21⟩ := Jvm.LawKit.callS X20 hx (y := own_m17) hown (mvT hZ (own_w G 114 rfl)) (mvT hZ (own_w G 115 rfl)) (mvT hZ (own_w G 35 rfl)) (mvT hZ (own_w G 116 rfl)) (by decide) (backOf (W := 0) (rmii l Z a0 G [] aT0 own_letter (0 : Int32) c0 h0 n0 O0 TB0 (P4 c0 (by simp)) own_nbl (by decide : nar .boolean (0 : Int32) = (0 : Int32))) hZ (own_w G 116 rfl) (own_w G 35 rfl) (by decide) (by decide)) (g := (mkF m 20 #[.val (.ref x0), .val (.int 2), .unset, .unset] [(.int c0), (.int 0), (.ref aT0)])) rfl (by rw [hml]; rfl) (argsL := [(.ref aT0), (.int 0), (.int c0)]) (rest := []) (lenOf pd_9 rfl) rfl (by show 2 * 0 + _ ≤ _; exact Nat.le_of_eq rfl) (hb hby d23_20) (fun _ _ => ⟨rfl, eh20, (by decide : 0 + 0 ≤ _), (by decide : 0 + 0 ≤ _)⟩)
    dsimp only [Pt.U, Pt.locs, Pt.cells, Pt.slots] at X21 l21 y21 z21 st21 hQ21
    subst l21 y21 z21
    obtain ⟨rfl, N21q, eh21⟩ := hQ21
    have N21 := Fr.app N20 N21q
    refine OwnEnd.of (S' := T21.setTop (mkF m 23 #[.val (.ref x0), .val (.int 2), .unset, .unset] [(.int (if c0 < (128 : Int32) then own_letter c0 else (0 : Int32)))])) st21 ?_
    rw [own_letter_tab (P4 c0 (by simp))]
    rcases own_letter01 c0 with hb22 | hb22
    · rw [hb22]
      refine OwnEnd.of (S' := T21.setTop (mkF m 65 #[.val (.ref x0), .val (.int 2), .val (.int 0), .val (.int 1)] [(.int 3)])) (fun _ kK => XS.ifYes X21.here hx rfl (pc0 := 23) (pc' := 30) rfl (hb hby d23_23) rfl ((if0 _ _).trans (teq ((by decide : (0 : Int32) = (0 : Int32)))).1) (by decide) (by decide) (XS.iconst X21.here hx rfl (hb hby d23_30) (XS.istoreN X21.here hx rfl (hb hby d23_31) rfl (l' := #[.val (.ref x0), .val (.int 2), .val (.int 0), .unset]) rfl (XS.iconst X21.here hx rfl (hb hby d23_32) (XS.istoreN X21.here hx rfl (hb hby d23_33) rfl (l' := #[.val (.ref x0), .val (.int 2), .val (.int 0), .val (.int 1)]) rfl (XS.iloadN X21.here hx rfl (hb hby d23_34) rfl (XS.ifYes X21.here hx rfl (pc0 := 35) (pc' := 62) rfl (hb hby d23_35) rfl ((if0 _ _).trans (teq ((by decide : (0 : Int32) = (0 : Int32)))).1) (by decide) (by decide) (XS.iloadN X21.here hx rfl (hb hby d23_62) rfl (XS.iconst X21.here hx rfl (hb hby d23_63) (XS.iadd X21.here hx rfl (hb hby d23_64) rfl kK)))))))))) ?_
      refine OwnEnd.of (S' := T21.setTop (mkF m 94 #[.val (.ref x0), .val (.int 2), .val (.int 0), .val (.int 3)] [(.int 0)])) (fun _ kK => XS.istoreN X21.here hx rfl (hb hby d23_65) rfl (l' := #[.val (.ref x0), .val (.int 2), .val (.int 0), .val (.int 3)]) rfl (XS.iloadN X21.here hx rfl (hb hby d23_66) rfl (XS.ifYes X21.here hx rfl (pc0 := 67) (pc' := 93) rfl (hb hby d23_67) rfl ((if0 _ _).trans (teq ((by decide : (0 : Int32) = (0 : Int32)))).1) (by decide) (by decide) (XS.iloadN X21.here hx rfl (hb hby d23_93) rfl kK)))) ?_
      refine OwnEnd.ret X21 (v := (some (.int (nar .boolean (0 : Int32))))) (fun h => by rw [Bd.returns] at h; cases h) hlk (fun fs hr => retN X21 hx (t := .boolean) Bd.returns (by simp) (hb hby d23_94) hr) (by decide) (by decide) (Q := (own_Qint (own_abs [c0, c1, c2, c3, c4])) h0 n0) eh21 ?_
      exact ⟨(by show some (Value.int (nar .boolean (0 : Int32))) = _; simp [own_abs, own_sch, own_tail, nar, hxc, hb22]), N21, rfl⟩
    · rw [hb22]
      refine OwnEnd.of (S' := T21.setTop (mkF m 40 #[.val (.ref x0), .val (.int 2), .val (.int 1), .val (.int 1)] [(.int 2), (.int 1)])) (fun _ kK => XS.ifNo X21.here hx rfl (hb hby d23_23) rfl ((if0 _ _).trans (feq ((by decide : ¬ ((1 : Int32) = (0 : Int32))))).1) (XS.iconst X21.here hx rfl (hb hby d23_26) (XS.goto X21.here hx rfl (pc0 := 27) (pc' := 31) rfl (hb hby d23_27) (by decide) (by decide) (XS.istoreN X21.here hx rfl (hb hby d23_31) rfl (l' := #[.val (.ref x0), .val (.int 2), .val (.int 1), .unset]) rfl (XS.iconst X21.here hx rfl (hb hby d23_32) (XS.istoreN X21.here hx rfl (hb hby d23_33) rfl (l' := #[.val (.ref x0), .val (.int 2), .val (.int 1), .val (.int 1)]) rfl (XS.iloadN X21.here hx rfl (hb hby d23_34) rfl (XS.ifNo X21.here hx rfl (hb hby d23_35) rfl ((if0 _ _).trans (feq ((by decide : ¬ ((1 : Int32) = (0 : Int32))))).1) (XS.iloadN X21.here hx rfl (hb hby d23_38) rfl (XS.iloadN X21.here hx rfl (hb hby d23_39) rfl kK)))))))))) ?_
      refine OwnEnd.of (S' := T21.setTop (mkF m 43 #[.val (.ref x0), .val (.int 2), .val (.int 1), .val (.int 1)] [])) (fun _ kK => XS.icmpNo X21.here hx rfl (hb hby d23_40) rfl (tlt ((by decide : (1 : Int32) < (2 : Int32)))).2.1 kK) ?_
      obtain ⟨T23, X23, e23, st23⟩ := getS2 X21 hx hZ hown (host := "") (Or.inl (own_w G 129 rfl)) Via.refl eh21 (ST1.ext O0.2) (g := (mkF m 43 #[.val (.ref x0), .val (.int 2), .val (.int 1), .val (.int 1)] [])) rfl (hb hby d23_43)
      refine OwnEnd.of (S' := T23.setTop (mkF m 46 #[.val (.ref x0), .val (.int 2), .val (.int 1), .val (.int 1)] [(.ref aT1)])) st23 ?_
      refine OwnEnd.of (S' := T23.setTop (mkF m 49 #[.val (.ref x0), .val (.int 2), .val (.int 1), .val (.int 1)] [(.int 1), (.ref x0), (.int 0), (.ref aT1)])) (fun _ kK => XS.iconst X23.here hx rfl (hb hby d23_46) (XS.aloadN X23.here hx rfl (hb hby d23_47) rfl rfl (XS.iloadN X23.here hx rfl (hb hby d23_48) rfl kK))) ?_
      obtain ⟨cq24, kq24, q24a, q24b, q24c⟩ := isOf hZ e23 P0
      obtain ⟨_, _, ⟨T24, L24, k24, n24⟩, -, X24, ⟨Lc24, hQ24, l24, y24, z24⟩, st24⟩ := X23.virtualBack hx (y := own_m8) (z := own_m8) hown (mvT hZ (own_w G 98 rfl)) (mvT hZ (own_w G 99 rfl)) (notFace_of_selects (args := #[]) (mvT hZ (own_w G 101 rfl))) (mvT hZ (own_w G 101 rfl)) (mvT hZ (own_w G 100 rfl)) (by decide) (backOf (W := 2) (rmcA0 l Z a0 G [] x0 t kb (5 : Int32) ((([c0, c1, c2, c3, c4] : List Int32).map (fun c => c.toInt8.toInt32)).map Value.int) (.int 0) (1 : Int32) c1 h0 n0 O0 P0 P1 P2 P3 (by decide : ¬ (1 : Int32) < (0 : Int32)) (by decide : (1 : Int32) < (5 : Int32)) (by rfl : ((([c0, c1, c2, c3, c4] : List Int32).map (fun c => c.toInt8.toInt32)).map Value.int).getD (1 : Int32).toNatClampNeg (.int 0) = (.int (StrChars.lo8 c1))) (P4 c1 (by simp))) hZ (own_w G 102 rfl) (own_w G 8 rfl) (by decide) (by decide)) q24a q24c (g := (mkF m 49 #[.val (.ref x0), .val (.int 2), .val (.int 1), .val (.int 1)] [(.int 1), (.ref x0), (.int 0), (.ref aT1)])) rfl (by rw [hml]; rfl) (Steps.refl _) (argsL := [(.int 1)]) (rest := [(.int 0), (.ref aT1)]) (lenOf pd_15 rfl) rfl (by show 2 * 0 + _ ≤ _; exact Nat.le_of_eq rfl) (hb hby d23_49) (fun _ _ => ⟨rfl, e23, (by decide : 0 + 0 ≤ _), (by decide : 0 + 0 ≤ _)⟩)
      dsimp only [Pt.U, Pt.locs, Pt.cells, Pt.slots] at X24 l24 y24 z24 st24 hQ24
      subst l24 y24 z24
      obtain ⟨rfl, N24q, eh24⟩ := hQ24
      have N24 := Fr.app N21 N24q
      refine OwnEnd.tr (S' := T24.setTop (mkF m 52 #[.val (.ref x0), .val (.int 2), .val (.int 1), .val (.int 1)] [(.int c1), (.int 0), (.ref aT1)])) st24 ?_
      obtain ⟨_, _, ⟨T25, L25, k25, n25⟩, -, X25, ⟨Lc25, hQ25, l25, y25, z25⟩, st25⟩ := Jvm.LawKit.callS X24 hx (y := own_m17) hown (mvT hZ (own_w G 114 rfl)) (mvT hZ (own_w G 115 rfl)) (mvT hZ (own_w G 35 rfl)) (mvT hZ (own_w G 116 rfl)) (by decide) (backOf (W := 0) (rmii l Z a0 G [] aT1 own_scheme (0 : Int32) c1 h0 n0 O0 TB1 (P4 c1 (by simp)) own_nbs (by decide : nar .boolean (0 : Int32) = (0 : Int32))) hZ (own_w G 116 rfl) (own_w G 35 rfl) (by decide) (by decide)) (g := (mkF m 52 #[.val (.ref x0), .val (.int 2), .val (.int 1), .val (.int 1)] [(.int c1), (.int 0), (.ref aT1)])) rfl (by rw [hml]; rfl) (argsL := [(.ref aT1), (.int 0), (.int c1)]) (rest := []) (lenOf pd_9 rfl) rfl (by show 2 * 0 + _ ≤ _; exact Nat.le_of_eq rfl) (hb hby d23_52) (fun _ _ => ⟨rfl, eh24, (by decide : 0 + 0 ≤ _), (by decide : 0 + 0 ≤ _)⟩)
      dsimp only [Pt.U, Pt.locs, Pt.cells, Pt.slots] at X25 l25 y25 z25 st25 hQ25
      subst l25 y25 z25
      obtain ⟨rfl, N25q, eh25⟩ := hQ25
      have N25 := Fr.app N24 N25q
      refine OwnEnd.of (S' := T25.setTop (mkF m 55 #[.val (.ref x0), .val (.int 2), .val (.int 1), .val (.int 1)] [(.int (if c1 < (128 : Int32) then own_scheme c1 else (0 : Int32)))])) st25 ?_
      rw [own_scheme_tab (P4 c1 (by simp))]
      rcases own_scheme01 c1 with hb26 | hb26
      · rw [hb26]
        refine OwnEnd.of (S' := T25.setTop (mkF m 67 #[.val (.ref x0), .val (.int 2), .val (.int 0), .val (.int 3)] [(.int 0)])) (fun _ kK => XS.istoreN X25.here hx rfl (hb hby d23_55) rfl (l' := #[.val (.ref x0), .val (.int 2), .val (.int 0), .val (.int 1)]) rfl (XS.iinc X25.here hx rfl (hb hby d23_56) rfl (l' := #[.val (.ref x0), .val (.int 2), .val (.int 0), .val (.int 2)]) rfl (XS.goto X25.here hx rfl (pc0 := 59) (pc' := 34) rfl (hb hby d23_59) (by decide) (by decide) (XS.iloadN X25.here hx rfl (hb hby d23_34) rfl (XS.ifYes X25.here hx rfl (pc0 := 35) (pc' := 62) rfl (hb hby d23_35) rfl ((if0 _ _).trans (teq ((by decide : (0 : Int32) = (0 : Int32)))).1) (by decide) (by decide) (XS.iloadN X25.here hx rfl (hb hby d23_62) rfl (XS.iconst X25.here hx rfl (hb hby d23_63) (XS.iadd X25.here hx rfl (hb hby d23_64) rfl (XS.istoreN X25.here hx rfl (hb hby d23_65) rfl (l' := #[.val (.ref x0), .val (.int 2), .val (.int 0), .val (.int 3)]) rfl (XS.iloadN X25.here hx rfl (hb hby d23_66) rfl kK)))))))))) ?_
        refine OwnEnd.of (S' := T25.setTop (mkF m 94 #[.val (.ref x0), .val (.int 2), .val (.int 0), .val (.int 3)] [(.int 0)])) (fun _ kK => XS.ifYes X25.here hx rfl (pc0 := 67) (pc' := 93) rfl (hb hby d23_67) rfl ((if0 _ _).trans (teq ((by decide : (0 : Int32) = (0 : Int32)))).1) (by decide) (by decide) (XS.iloadN X25.here hx rfl (hb hby d23_93) rfl kK)) ?_
        refine OwnEnd.ret X25 (v := (some (.int (nar .boolean (0 : Int32))))) (fun h => by rw [Bd.returns] at h; cases h) hlk (fun fs hr => retN X25 hx (t := .boolean) Bd.returns (by simp) (hb hby d23_94) hr) (by decide) (by decide) (Q := (own_Qint (own_abs [c0, c1, c2, c3, c4])) h0 n0) eh25 ?_
        exact ⟨(by show some (Value.int (nar .boolean (0 : Int32))) = _; simp [own_abs, own_sch, own_tail, nar, hxc, hb22, hb26]), N25, rfl⟩
      · rw [hb26]
        refine OwnEnd.of (S' := T25.setTop (mkF m 64 #[.val (.ref x0), .val (.int 2), .val (.int 1), .val (.int 2)] [(.int 1), (.int 2)])) (fun _ kK => XS.istoreN X25.here hx rfl (hb hby d23_55) rfl (l' := #[.val (.ref x0), .val (.int 2), .val (.int 1), .val (.int 1)]) rfl (XS.iinc X25.here hx rfl (hb hby d23_56) rfl (l' := #[.val (.ref x0), .val (.int 2), .val (.int 1), .val (.int 2)]) rfl (XS.goto X25.here hx rfl (pc0 := 59) (pc' := 34) rfl (hb hby d23_59) (by decide) (by decide) (XS.iloadN X25.here hx rfl (hb hby d23_34) rfl (XS.ifNo X25.here hx rfl (hb hby d23_35) rfl ((if0 _ _).trans (feq ((by decide : ¬ ((1 : Int32) = (0 : Int32))))).1) (XS.iloadN X25.here hx rfl (hb hby d23_38) rfl (XS.iloadN X25.here hx rfl (hb hby d23_39) rfl (XS.icmpYes X25.here hx rfl (pc0 := 40) (pc' := 62) rfl (hb hby d23_40) rfl (flt ((by decide : ¬ ((2 : Int32) < (2 : Int32))))).2.1 (by decide) (by decide) (XS.iloadN X25.here hx rfl (hb hby d23_62) rfl (XS.iconst X25.here hx rfl (hb hby d23_63) kK)))))))))) ?_
        refine OwnEnd.of (S' := T25.setTop (mkF m 72 #[.val (.ref x0), .val (.int 2), .val (.int 1), .val (.int 3)] [(.ref x0), (.int 3)])) (fun _ kK => XS.iadd X25.here hx rfl (hb hby d23_64) rfl (XS.istoreN X25.here hx rfl (hb hby d23_65) rfl (l' := #[.val (.ref x0), .val (.int 2), .val (.int 1), .val (.int 3)]) rfl (XS.iloadN X25.here hx rfl (hb hby d23_66) rfl (XS.ifNo X25.here hx rfl (hb hby d23_67) rfl ((if0 _ _).trans (feq ((by decide : ¬ ((1 : Int32) = (0 : Int32))))).1) (XS.iloadN X25.here hx rfl (hb hby d23_70) rfl (XS.aloadN X25.here hx rfl (hb hby d23_71) rfl rfl kK)))))) ?_
        obtain ⟨cq27, kq27, q27a, q27b, q27c⟩ := isOf hZ eh25 P0
        obtain ⟨_, _, ⟨T27, L27, k27, n27⟩, -, X27, ⟨Lc27, hQ27, l27, y27, z27⟩, st27⟩ := X25.virtualBack hx (y := own_m6) (z := own_m6) hown (mvT hZ (own_w G 120 rfl)) (mvT hZ (own_w G 54 rfl)) (notFace_of_selects (args := #[]) (mvT hZ (own_w G 56 rfl))) (mvT hZ (own_w G 56 rfl)) (mvT hZ (own_w G 55 rfl)) (by decide) (backOf (W := 1) (rmln0 l Z a0 G [] x0 t kb (5 : Int32) ((([c0, c1, c2, c3, c4] : List Int32).map (fun c => c.toInt8.toInt32)).map Value.int) (.int 0) h0 n0 O0 P0 P1 P2 P3) hZ (own_w G 57 rfl) (own_w G 8 rfl) (by decide) (by decide)) q27a q27c (g := (mkF m 72 #[.val (.ref x0), .val (.int 2), .val (.int 1), .val (.int 3)] [(.ref x0), (.int 3)])) rfl (by rw [hml]; rfl) (Steps.refl _) (argsL := []) (rest := [(.int 3)]) (lenOf pd_12 rfl) rfl (by show 2 * 0 + _ ≤ _; exact Nat.le_of_eq rfl) (hb hby d23_72) (fun _ _ => ⟨rfl, eh25, (by decide : 0 + 0 ≤ _), (by decide : 0 + 0 ≤ _)⟩)
        dsimp only [Pt.U, Pt.locs, Pt.cells, Pt.slots] at X27 l27 y27 z27 st27 hQ27
        subst l27 y27 z27
        obtain ⟨rfl, N27q, eh27⟩ := hQ27
        have N27 := Fr.app N25 N27q
        refine OwnEnd.tr (S' := T27.setTop (mkF m 75 #[.val (.ref x0), .val (.int 2), .val (.int 1), .val (.int 3)] [(.int 5), (.int 3)])) st27 ?_
        refine OwnEnd.of (S' := T27.setTop (mkF m 80 #[.val (.ref x0), .val (.int 2), .val (.int 1), .val (.int 3)] [(.int 3), (.ref x0)])) (fun _ kK => XS.icmpNo X27.here hx rfl (hb hby d23_75) rfl (tlt ((by decide : (3 : Int32) < (5 : Int32)))).2.1 (XS.aloadN X27.here hx rfl (hb hby d23_78) rfl rfl (XS.iloadN X27.here hx rfl (hb hby d23_79) rfl kK))) ?_
        obtain ⟨cq28, kq28, q28a, q28b, q28c⟩ := isOf hZ eh27 P0
        obtain ⟨_, _, ⟨T28, L28, k28, n28⟩, -, X28, ⟨Lc28, hQ28, l28, y28, z28⟩, st28⟩ := X27.virtualBack hx (y := own_m8) (z := own_m8) hown (mvT hZ (own_w G 98 rfl)) (mvT hZ (own_w G 99 rfl)) (notFace_of_selects (args := #[]) (mvT hZ (own_w G 101 rfl))) (mvT hZ (own_w G 101 rfl)) (mvT hZ (own_w G 100 rfl)) (by decide) (backOf (W := 0) (rmcA0 l Z a0 G [] x0 t kb (5 : Int32) ((([c0, c1, c2, c3, c4] : List Int32).map (fun c => c.toInt8.toInt32)).map Value.int) (.int 0) (3 : Int32) c3 h0 n0 O0 P0 P1 P2 P3 (by decide : ¬ (3 : Int32) < (0 : Int32)) (by decide : (3 : Int32) < (5 : Int32)) (by rfl : ((([c0, c1, c2, c3, c4] : List Int32).map (fun c => c.toInt8.toInt32)).map Value.int).getD (3 : Int32).toNatClampNeg (.int 0) = (.int (StrChars.lo8 c3))) (P4 c3 (by simp))) hZ (own_w G 102 rfl) (own_w G 8 rfl) (by decide) (by decide)) q28a q28c (g := (mkF m 80 #[.val (.ref x0), .val (.int 2), .val (.int 1), .val (.int 3)] [(.int 3), (.ref x0)])) rfl (by rw [hml]; rfl) (Steps.refl _) (argsL := [(.int 3)]) (rest := []) (lenOf pd_15 rfl) rfl (by show 2 * 0 + _ ≤ _; exact Nat.le_of_eq rfl) (hb hby d23_80) (fun _ _ => ⟨rfl, eh27, (by decide : 0 + 0 ≤ _), (by decide : 0 + 0 ≤ _)⟩)
        dsimp only [Pt.U, Pt.locs, Pt.cells, Pt.slots] at X28 l28 y28 z28 st28 hQ28
        subst l28 y28 z28
        obtain ⟨rfl, N28q, eh28⟩ := hQ28
        have N28 := Fr.app N27 N28q
        refine OwnEnd.tr (S' := T28.setTop (mkF m 83 #[.val (.ref x0), .val (.int 2), .val (.int 1), .val (.int 3)] [(.int c3)])) st28 ?_
        obtain ⟨_, _, ⟨T29, L29, k29, n29⟩, -, X29, ⟨Lc29, hQ29, l29, y29, z29⟩, st29⟩ := Jvm.LawKit.callS X28 hx (y := own_m18) hown (mvT hZ (own_w G 121 rfl)) (mvT hZ (own_w G 122 rfl)) (mvT hZ (own_w G 35 rfl)) (mvT hZ (own_w G 123 rfl)) (by decide) (backOf (W := 0) (rmim l Z a0 G [] c3 h0 n0 O0 (P4 c3 (by simp))) hZ (own_w G 123 rfl) (own_w G 35 rfl) (by decide) (by decide)) (g := (mkF m 83 #[.val (.ref x0), .val (.int 2), .val (.int 1), .val (.int 3)] [(.int c3)])) rfl (by rw [hml]; rfl) (argsL := [(.int c3)]) (rest := []) (lenOf pd_6 rfl) rfl (by show 2 * 0 + _ ≤ _; exact Nat.le_of_eq rfl) (hb hby d23_83) (fun _ _ => ⟨rfl, eh28, (by decide : 0 + 0 ≤ _), (by decide : 0 + 0 ≤ _)⟩)
        dsimp only [Pt.U, Pt.locs, Pt.cells, Pt.slots] at X29 l29 y29 z29 st29 hQ29
        subst l29 y29 z29
        obtain ⟨rfl, N29q, eh29⟩ := hQ29
        have N29 := Fr.app N28 N29q
        refine OwnEnd.of (S' := T29.setTop (mkF m 86 #[.val (.ref x0), .val (.int 2), .val (.int 1), .val (.int 3)] [(.int (own_hold c3))])) st29 ?_
        rcases own_hold01 c3 with hb30 | hb30
        · rw [hb30]
          refine OwnEnd.of (S' := T29.setTop (mkF m 94 #[.val (.ref x0), .val (.int 2), .val (.int 0), .val (.int 4)] [(.int 0)])) (fun _ kK => XS.istoreN X29.here hx rfl (hb hby d23_86) rfl (l' := #[.val (.ref x0), .val (.int 2), .val (.int 0), .val (.int 3)]) rfl (XS.iinc X29.here hx rfl (hb hby d23_87) rfl (l' := #[.val (.ref x0), .val (.int 2), .val (.int 0), .val (.int 4)]) rfl (XS.goto X29.here hx rfl (pc0 := 90) (pc' := 66) rfl (hb hby d23_90) (by decide) (by decide) (XS.iloadN X29.here hx rfl (hb hby d23_66) rfl (XS.ifYes X29.here hx rfl (pc0 := 67) (pc' := 93) rfl (hb hby d23_67) rfl ((if0 _ _).trans (teq ((by decide : (0 : Int32) = (0 : Int32)))).1) (by decide) (by decide) (XS.iloadN X29.here hx rfl (hb hby d23_93) rfl kK)))))) ?_
          refine OwnEnd.ret X29 (v := (some (.int (nar .boolean (0 : Int32))))) (fun h => by rw [Bd.returns] at h; cases h) hlk (fun fs hr => retN X29 hx (t := .boolean) Bd.returns (by simp) (hb hby d23_94) hr) (by decide) (by decide) (Q := (own_Qint (own_abs [c0, c1, c2, c3, c4])) h0 n0) eh29 ?_
          exact ⟨(by show some (Value.int (nar .boolean (0 : Int32))) = _; simp [own_abs, own_sch, own_tail, nar, hxc, hb22, hb26, hb30]), N29, rfl⟩
        · rw [hb30]
          refine OwnEnd.of (S' := T29.setTop (mkF m 72 #[.val (.ref x0), .val (.int 2), .val (.int 1), .val (.int 4)] [(.ref x0), (.int 4)])) (fun _ kK => XS.istoreN X29.here hx rfl (hb hby d23_86) rfl (l' := #[.val (.ref x0), .val (.int 2), .val (.int 1), .val (.int 3)]) rfl (XS.iinc X29.here hx rfl (hb hby d23_87) rfl (l' := #[.val (.ref x0), .val (.int 2), .val (.int 1), .val (.int 4)]) rfl (XS.goto X29.here hx rfl (pc0 := 90) (pc' := 66) rfl (hb hby d23_90) (by decide) (by decide) (XS.iloadN X29.here hx rfl (hb hby d23_66) rfl (XS.ifNo X29.here hx rfl (hb hby d23_67) rfl ((if0 _ _).trans (feq ((by decide : ¬ ((1 : Int32) = (0 : Int32))))).1) (XS.iloadN X29.here hx rfl (hb hby d23_70) rfl (XS.aloadN X29.here hx rfl (hb hby d23_71) rfl rfl kK))))))) ?_
          obtain ⟨cq31, kq31, q31a, q31b, q31c⟩ := isOf hZ eh29 P0
          obtain ⟨_, _, ⟨T31, L31, k31, n31⟩, -, X31, ⟨Lc31, hQ31, l31, y31, z31⟩, st31⟩ := X29.virtualBack hx (y := own_m6) (z := own_m6) hown (mvT hZ (own_w G 120 rfl)) (mvT hZ (own_w G 54 rfl)) (notFace_of_selects (args := #[]) (mvT hZ (own_w G 56 rfl))) (mvT hZ (own_w G 56 rfl)) (mvT hZ (own_w G 55 rfl)) (by decide) (backOf (W := 1) (rmln0 l Z a0 G [] x0 t kb (5 : Int32) ((([c0, c1, c2, c3, c4] : List Int32).map (fun c => c.toInt8.toInt32)).map Value.int) (.int 0) h0 n0 O0 P0 P1 P2 P3) hZ (own_w G 57 rfl) (own_w G 8 rfl) (by decide) (by decide)) q31a q31c (g := (mkF m 72 #[.val (.ref x0), .val (.int 2), .val (.int 1), .val (.int 4)] [(.ref x0), (.int 4)])) rfl (by rw [hml]; rfl) (Steps.refl _) (argsL := []) (rest := [(.int 4)]) (lenOf pd_12 rfl) rfl (by show 2 * 0 + _ ≤ _; exact Nat.le_of_eq rfl) (hb hby d23_72) (fun _ _ => ⟨rfl, eh29, (by decide : 0 + 0 ≤ _), (by decide : 0 + 0 ≤ _)⟩)
          dsimp only [Pt.U, Pt.locs, Pt.cells, Pt.slots] at X31 l31 y31 z31 st31 hQ31
          subst l31 y31 z31
          obtain ⟨rfl, N31q, eh31⟩ := hQ31
          have N31 := Fr.app N29 N31q
          refine OwnEnd.tr (S' := T31.setTop (mkF m 75 #[.val (.ref x0), .val (.int 2), .val (.int 1), .val (.int 4)] [(.int 5), (.int 4)])) st31 ?_
          refine OwnEnd.of (S' := T31.setTop (mkF m 80 #[.val (.ref x0), .val (.int 2), .val (.int 1), .val (.int 4)] [(.int 4), (.ref x0)])) (fun _ kK => XS.icmpNo X31.here hx rfl (hb hby d23_75) rfl (tlt ((by decide : (4 : Int32) < (5 : Int32)))).2.1 (XS.aloadN X31.here hx rfl (hb hby d23_78) rfl rfl (XS.iloadN X31.here hx rfl (hb hby d23_79) rfl kK))) ?_
          obtain ⟨cq32, kq32, q32a, q32b, q32c⟩ := isOf hZ eh31 P0
          obtain ⟨_, _, ⟨T32, L32, k32, n32⟩, -, X32, ⟨Lc32, hQ32, l32, y32, z32⟩, st32⟩ := X31.virtualBack hx (y := own_m8) (z := own_m8) hown (mvT hZ (own_w G 98 rfl)) (mvT hZ (own_w G 99 rfl)) (notFace_of_selects (args := #[]) (mvT hZ (own_w G 101 rfl))) (mvT hZ (own_w G 101 rfl)) (mvT hZ (own_w G 100 rfl)) (by decide) (backOf (W := 0) (rmcA0 l Z a0 G [] x0 t kb (5 : Int32) ((([c0, c1, c2, c3, c4] : List Int32).map (fun c => c.toInt8.toInt32)).map Value.int) (.int 0) (4 : Int32) c4 h0 n0 O0 P0 P1 P2 P3 (by decide : ¬ (4 : Int32) < (0 : Int32)) (by decide : (4 : Int32) < (5 : Int32)) (by rfl : ((([c0, c1, c2, c3, c4] : List Int32).map (fun c => c.toInt8.toInt32)).map Value.int).getD (4 : Int32).toNatClampNeg (.int 0) = (.int (StrChars.lo8 c4))) (P4 c4 (by simp))) hZ (own_w G 102 rfl) (own_w G 8 rfl) (by decide) (by decide)) q32a q32c (g := (mkF m 80 #[.val (.ref x0), .val (.int 2), .val (.int 1), .val (.int 4)] [(.int 4), (.ref x0)])) rfl (by rw [hml]; rfl) (Steps.refl _) (argsL := [(.int 4)]) (rest := []) (lenOf pd_15 rfl) rfl (by show 2 * 0 + _ ≤ _; exact Nat.le_of_eq rfl) (hb hby d23_80) (fun _ _ => ⟨rfl, eh31, (by decide : 0 + 0 ≤ _), (by decide : 0 + 0 ≤ _)⟩)
          dsimp only [Pt.U, Pt.locs, Pt.cells, Pt.slots] at X32 l32 y32 z32 st32 hQ32
          subst l32 y32 z32
          obtain ⟨rfl, N32q, eh32⟩ := hQ32
          have N32 := Fr.app N31 N32q
          refine OwnEnd.tr (S' := T32.setTop (mkF m 83 #[.val (.ref x0), .val (.int 2), .val (.int 1), .val (.int 4)] [(.int c4)])) st32 ?_
          obtain ⟨_, _, ⟨T33, L33, k33, n33⟩, -, X33, ⟨Lc33, hQ33, l33, y33, z33⟩, st33⟩ := Jvm.LawKit.callS X32 hx (y := own_m18) hown (mvT hZ (own_w G 121 rfl)) (mvT hZ (own_w G 122 rfl)) (mvT hZ (own_w G 35 rfl)) (mvT hZ (own_w G 123 rfl)) (by decide) (backOf (W := 0) (rmim l Z a0 G [] c4 h0 n0 O0 (P4 c4 (by simp))) hZ (own_w G 123 rfl) (own_w G 35 rfl) (by decide) (by decide)) (g := (mkF m 83 #[.val (.ref x0), .val (.int 2), .val (.int 1), .val (.int 4)] [(.int c4)])) rfl (by rw [hml]; rfl) (argsL := [(.int c4)]) (rest := []) (lenOf pd_6 rfl) rfl (by show 2 * 0 + _ ≤ _; exact Nat.le_of_eq rfl) (hb hby d23_83) (fun _ _ => ⟨rfl, eh32, (by decide : 0 + 0 ≤ _), (by decide : 0 + 0 ≤ _)⟩)
          dsimp only [Pt.U, Pt.locs, Pt.cells, Pt.slots] at X33 l33 y33 z33 st33 hQ33
          subst l33 y33 z33
          obtain ⟨rfl, N33q, eh33⟩ := hQ33
          have N33 := Fr.app N32 N33q
          refine OwnEnd.of (S' := T33.setTop (mkF m 86 #[.val (.ref x0), .val (.int 2), .val (.int 1), .val (.int 4)] [(.int (own_hold c4))])) st33 ?_
          rcases own_hold01 c4 with hb34 | hb34
          · rw [hb34]
            refine OwnEnd.of (S' := T33.setTop (mkF m 94 #[.val (.ref x0), .val (.int 2), .val (.int 0), .val (.int 5)] [(.int 0)])) (fun _ kK => XS.istoreN X33.here hx rfl (hb hby d23_86) rfl (l' := #[.val (.ref x0), .val (.int 2), .val (.int 0), .val (.int 4)]) rfl (XS.iinc X33.here hx rfl (hb hby d23_87) rfl (l' := #[.val (.ref x0), .val (.int 2), .val (.int 0), .val (.int 5)]) rfl (XS.goto X33.here hx rfl (pc0 := 90) (pc' := 66) rfl (hb hby d23_90) (by decide) (by decide) (XS.iloadN X33.here hx rfl (hb hby d23_66) rfl (XS.ifYes X33.here hx rfl (pc0 := 67) (pc' := 93) rfl (hb hby d23_67) rfl ((if0 _ _).trans (teq ((by decide : (0 : Int32) = (0 : Int32)))).1) (by decide) (by decide) (XS.iloadN X33.here hx rfl (hb hby d23_93) rfl kK)))))) ?_
            refine OwnEnd.ret X33 (v := (some (.int (nar .boolean (0 : Int32))))) (fun h => by rw [Bd.returns] at h; cases h) hlk (fun fs hr => retN X33 hx (t := .boolean) Bd.returns (by simp) (hb hby d23_94) hr) (by decide) (by decide) (Q := (own_Qint (own_abs [c0, c1, c2, c3, c4])) h0 n0) eh33 ?_
            exact ⟨(by show some (Value.int (nar .boolean (0 : Int32))) = _; simp [own_abs, own_sch, own_tail, nar, hxc, hb22, hb26, hb30, hb34]), N33, rfl⟩
          · rw [hb34]
            refine OwnEnd.of (S' := T33.setTop (mkF m 72 #[.val (.ref x0), .val (.int 2), .val (.int 1), .val (.int 5)] [(.ref x0), (.int 5)])) (fun _ kK => XS.istoreN X33.here hx rfl (hb hby d23_86) rfl (l' := #[.val (.ref x0), .val (.int 2), .val (.int 1), .val (.int 4)]) rfl (XS.iinc X33.here hx rfl (hb hby d23_87) rfl (l' := #[.val (.ref x0), .val (.int 2), .val (.int 1), .val (.int 5)]) rfl (XS.goto X33.here hx rfl (pc0 := 90) (pc' := 66) rfl (hb hby d23_90) (by decide) (by decide) (XS.iloadN X33.here hx rfl (hb hby d23_66) rfl (XS.ifNo X33.here hx rfl (hb hby d23_67) rfl ((if0 _ _).trans (feq ((by decide : ¬ ((1 : Int32) = (0 : Int32))))).1) (XS.iloadN X33.here hx rfl (hb hby d23_70) rfl (XS.aloadN X33.here hx rfl (hb hby d23_71) rfl rfl kK))))))) ?_
            obtain ⟨cq35, kq35, q35a, q35b, q35c⟩ := isOf hZ eh33 P0
            obtain ⟨_, _, ⟨T35, L35, k35, n35⟩, -, X35, ⟨Lc35, hQ35, l35, y35, z35⟩, st35⟩ := X33.virtualBack hx (y := own_m6) (z := own_m6) hown (mvT hZ (own_w G 120 rfl)) (mvT hZ (own_w G 54 rfl)) (notFace_of_selects (args := #[]) (mvT hZ (own_w G 56 rfl))) (mvT hZ (own_w G 56 rfl)) (mvT hZ (own_w G 55 rfl)) (by decide) (backOf (W := 1) (rmln0 l Z a0 G [] x0 t kb (5 : Int32) ((([c0, c1, c2, c3, c4] : List Int32).map (fun c => c.toInt8.toInt32)).map Value.int) (.int 0) h0 n0 O0 P0 P1 P2 P3) hZ (own_w G 57 rfl) (own_w G 8 rfl) (by decide) (by decide)) q35a q35c (g := (mkF m 72 #[.val (.ref x0), .val (.int 2), .val (.int 1), .val (.int 5)] [(.ref x0), (.int 5)])) rfl (by rw [hml]; rfl) (Steps.refl _) (argsL := []) (rest := [(.int 5)]) (lenOf pd_12 rfl) rfl (by show 2 * 0 + _ ≤ _; exact Nat.le_of_eq rfl) (hb hby d23_72) (fun _ _ => ⟨rfl, eh33, (by decide : 0 + 0 ≤ _), (by decide : 0 + 0 ≤ _)⟩)
            dsimp only [Pt.U, Pt.locs, Pt.cells, Pt.slots] at X35 l35 y35 z35 st35 hQ35
            subst l35 y35 z35
            obtain ⟨rfl, N35q, eh35⟩ := hQ35
            have N35 := Fr.app N33 N35q
            refine OwnEnd.tr (S' := T35.setTop (mkF m 75 #[.val (.ref x0), .val (.int 2), .val (.int 1), .val (.int 5)] [(.int 5), (.int 5)])) st35 ?_
            refine OwnEnd.of (S' := T35.setTop (mkF m 94 #[.val (.ref x0), .val (.int 2), .val (.int 1), .val (.int 5)] [(.int 1)])) (fun _ kK => XS.icmpYes X35.here hx rfl (pc0 := 75) (pc' := 93) rfl (hb hby d23_75) rfl (flt ((by decide : ¬ ((5 : Int32) < (5 : Int32))))).2.1 (by decide) (by decide) (XS.iloadN X35.here hx rfl (hb hby d23_93) rfl kK)) ?_
            refine OwnEnd.ret X35 (v := (some (.int (nar .boolean (1 : Int32))))) (fun h => by rw [Bd.returns] at h; cases h) hlk (fun fs hr => retN X35 hx (t := .boolean) Bd.returns (by simp) (hb hby d23_94) hr) (by decide) (by decide) (Q := (own_Qint (own_abs [c0, c1, c2, c3, c4])) h0 n0) eh35 ?_
            exact ⟨(by show some (Value.int (nar .boolean (1 : Int32))) = _; simp [own_abs, own_sch, own_tail, nar, hxc, hb22, hb26, hb30, hb34]), N35, rfl⟩
  · rw [hxc.1]
    refine OwnEnd.of (S' := T1.setTop (mkF m 11 #[.val (.ref x0), .val (.int 3), .unset, .unset] [])) (fun _ kK => XS.istoreN X1.here hx rfl (hb hby d23_6) rfl (l' := #[.val (.ref x0), .val (.int 3), .unset, .unset]) rfl (XS.iloadN X1.here hx rfl (hb hby d23_7) rfl (XS.ifNo X1.here hx rfl (hb hby d23_8) rfl ((if0 _ _).trans (tlt ((by decide : (0 : Int32) < (3 : Int32)))).2.2.2) kK))) ?_
    obtain ⟨T36, X36, e36, st36⟩ := getS2 X1 hx hZ hown (host := "") (Or.inl (own_w G 96 rfl)) Via.refl eh1 (ST0.ext O0.2) (g := (mkF m 11 #[.val (.ref x0), .val (.int 3), .unset, .unset] [])) rfl (hb hby d23_11)
    refine OwnEnd.of (S' := T36.setTop (mkF m 14 #[.val (.ref x0), .val (.int 3), .unset, .unset] [(.ref aT0)])) st36 ?_
    refine OwnEnd.of (S' := T36.setTop (mkF m 17 #[.val (.ref x0), .val (.int 3), .unset, .unset] [(.int 0), (.ref x0), (.int 0), (.ref aT0)])) (fun _ kK => XS.iconst X36.here hx rfl (hb hby d23_14) (XS.aloadN X36.here hx rfl (hb hby d23_15) rfl rfl (XS.iconst X36.here hx rfl (hb hby d23_16) kK))) ?_
    obtain ⟨cq37, kq37, q37a, q37b, q37c⟩ := isOf hZ e36 P0
    obtain ⟨_, _, ⟨T37, L37, k37, n37⟩, -, X37, ⟨Lc37, hQ37, l37, y37, z37⟩, st37⟩ := X36.virtualBack hx (y := own_m8) (z := own_m8) hown (mvT hZ (own_w G 98 rfl)) (mvT hZ (own_w G 99 rfl)) (notFace_of_selects (args := #[]) (mvT hZ (own_w G 101 rfl))) (mvT hZ (own_w G 101 rfl)) (mvT hZ (own_w G 100 rfl)) (by decide) (backOf (W := 2) (rmcA0 l Z a0 G [] x0 t kb (5 : Int32) ((([c0, c1, c2, c3, c4] : List Int32).map (fun c => c.toInt8.toInt32)).map Value.int) (.int 0) (0 : Int32) c0 h0 n0 O0 P0 P1 P2 P3 (by decide : ¬ (0 : Int32) < (0 : Int32)) (by decide : (0 : Int32) < (5 : Int32)) (by rfl : ((([c0, c1, c2, c3, c4] : List Int32).map (fun c => c.toInt8.toInt32)).map Value.int).getD (0 : Int32).toNatClampNeg (.int 0) = (.int (StrChars.lo8 c0))) (P4 c0 (by simp))) hZ (own_w G 102 rfl) (own_w G 8 rfl) (by decide) (by decide)) q37a q37c (g := (mkF m 17 #[.val (.ref x0), .val (.int 3), .unset, .unset] [(.int 0), (.ref x0), (.int 0), (.ref aT0)])) rfl (by rw [hml]; rfl) (Steps.refl _) (argsL := [(.int 0)]) (rest := [(.int 0), (.ref aT0)]) (lenOf pd_15 rfl) rfl (by show 2 * 0 + _ ≤ _; exact Nat.le_of_eq rfl) (hb hby d23_17) (fun _ _ => ⟨rfl, e36, (by decide : 0 + 0 ≤ _), (by decide : 0 + 0 ≤ _)⟩)
    dsimp only [Pt.U, Pt.locs, Pt.cells, Pt.slots] at X37 l37 y37 z37 st37 hQ37
    subst l37 y37 z37
    obtain ⟨rfl, N37q, eh37⟩ := hQ37
    have N37 := Fr.app N1 N37q
    refine OwnEnd.tr (S' := T37.setTop (mkF m 20 #[.val (.ref x0), .val (.int 3), .unset, .unset] [(.int c0), (.int 0), (.ref aT0)])) st37 ?_
    obtain ⟨_, _, ⟨T38, L38, k38, n38⟩, -, X38, ⟨Lc38, hQ38, l38, y38, z38⟩, st38⟩ := Jvm.LawKit.callS X37 hx (y := own_m17) hown (mvT hZ (own_w G 114 rfl)) (mvT hZ (own_w G 115 rfl)) (mvT hZ (own_w G 35 rfl)) (mvT hZ (own_w G 116 rfl)) (by decide) (backOf (W := 0) (rmii l Z a0 G [] aT0 own_letter (0 : Int32) c0 h0 n0 O0 TB0 (P4 c0 (by simp)) own_nbl (by decide : nar .boolean (0 : Int32) = (0 : Int32))) hZ (own_w G 116 rfl) (own_w G 35 rfl) (by decide) (by decide)) (g := (mkF m 20 #[.val (.ref x0), .val (.int 3), .unset, .unset] [(.int c0), (.int 0), (.ref aT0)])) rfl (by rw [hml]; rfl) (argsL := [(.ref aT0), (.int 0), (.int c0)]) (rest := []) (lenOf pd_9 rfl) rfl (by show 2 * 0 + _ ≤ _; exact Nat.le_of_eq rfl) (hb hby d23_20) (fun _ _ => ⟨rfl, eh37, (by decide : 0 + 0 ≤ _), (by decide : 0 + 0 ≤ _)⟩)
    dsimp only [Pt.U, Pt.locs, Pt.cells, Pt.slots] at X38 l38 y38 z38 st38 hQ38
    subst l38 y38 z38
    obtain ⟨rfl, N38q, eh38⟩ := hQ38
    have N38 := Fr.app N37 N38q
    refine OwnEnd.of (S' := T38.setTop (mkF m 23 #[.val (.ref x0), .val (.int 3), .unset, .unset] [(.int (if c0 < (128 : Int32) then own_letter c0 else (0 : Int32)))])) st38 ?_
    rw [own_letter_tab (P4 c0 (by simp))]
    rcases own_letter01 c0 with hb39 | hb39
    · rw [hb39]
      refine OwnEnd.of (S' := T38.setTop (mkF m 65 #[.val (.ref x0), .val (.int 3), .val (.int 0), .val (.int 1)] [(.int 4)])) (fun _ kK => XS.ifYes X38.here hx rfl (pc0 := 23) (pc' := 30) rfl (hb hby d23_23) rfl ((if0 _ _).trans (teq ((by decide : (0 : Int32) = (0 : Int32)))).1) (by decide) (by decide) (XS.iconst X38.here hx rfl (hb hby d23_30) (XS.istoreN X38.here hx rfl (hb hby d23_31) rfl (l' := #[.val (.ref x0), .val (.int 3), .val (.int 0), .unset]) rfl (XS.iconst X38.here hx rfl (hb hby d23_32) (XS.istoreN X38.here hx rfl (hb hby d23_33) rfl (l' := #[.val (.ref x0), .val (.int 3), .val (.int 0), .val (.int 1)]) rfl (XS.iloadN X38.here hx rfl (hb hby d23_34) rfl (XS.ifYes X38.here hx rfl (pc0 := 35) (pc' := 62) rfl (hb hby d23_35) rfl ((if0 _ _).trans (teq ((by decide : (0 : Int32) = (0 : Int32)))).1) (by decide) (by decide) (XS.iloadN X38.here hx rfl (hb hby d23_62) rfl (XS.iconst X38.here hx rfl (hb hby d23_63) (XS.iadd X38.here hx rfl (hb hby d23_64) rfl kK)))))))))) ?_
      refine OwnEnd.of (S' := T38.setTop (mkF m 94 #[.val (.ref x0), .val (.int 3), .val (.int 0), .val (.int 4)] [(.int 0)])) (fun _ kK => XS.istoreN X38.here hx rfl (hb hby d23_65) rfl (l' := #[.val (.ref x0), .val (.int 3), .val (.int 0), .val (.int 4)]) rfl (XS.iloadN X38.here hx rfl (hb hby d23_66) rfl (XS.ifYes X38.here hx rfl (pc0 := 67) (pc' := 93) rfl (hb hby d23_67) rfl ((if0 _ _).trans (teq ((by decide : (0 : Int32) = (0 : Int32)))).1) (by decide) (by decide) (XS.iloadN X38.here hx rfl (hb hby d23_93) rfl kK)))) ?_
      refine OwnEnd.ret X38 (v := (some (.int (nar .boolean (0 : Int32))))) (fun h => by rw [Bd.returns] at h; cases h) hlk (fun fs hr => retN X38 hx (t := .boolean) Bd.returns (by simp) (hb hby d23_94) hr) (by decide) (by decide) (Q := (own_Qint (own_abs [c0, c1, c2, c3, c4])) h0 n0) eh38 ?_
      exact ⟨(by show some (Value.int (nar .boolean (0 : Int32))) = _; simp [own_abs, own_sch, own_tail, nar, hxc, hb39]), N38, rfl⟩
    · rw [hb39]
      refine OwnEnd.of (S' := T38.setTop (mkF m 40 #[.val (.ref x0), .val (.int 3), .val (.int 1), .val (.int 1)] [(.int 3), (.int 1)])) (fun _ kK => XS.ifNo X38.here hx rfl (hb hby d23_23) rfl ((if0 _ _).trans (feq ((by decide : ¬ ((1 : Int32) = (0 : Int32))))).1) (XS.iconst X38.here hx rfl (hb hby d23_26) (XS.goto X38.here hx rfl (pc0 := 27) (pc' := 31) rfl (hb hby d23_27) (by decide) (by decide) (XS.istoreN X38.here hx rfl (hb hby d23_31) rfl (l' := #[.val (.ref x0), .val (.int 3), .val (.int 1), .unset]) rfl (XS.iconst X38.here hx rfl (hb hby d23_32) (XS.istoreN X38.here hx rfl (hb hby d23_33) rfl (l' := #[.val (.ref x0), .val (.int 3), .val (.int 1), .val (.int 1)]) rfl (XS.iloadN X38.here hx rfl (hb hby d23_34) rfl (XS.ifNo X38.here hx rfl (hb hby d23_35) rfl ((if0 _ _).trans (feq ((by decide : ¬ ((1 : Int32) = (0 : Int32))))).1) (XS.iloadN X38.here hx rfl (hb hby d23_38) rfl (XS.iloadN X38.here hx rfl (hb hby d23_39) rfl kK)))))))))) ?_
      refine OwnEnd.of (S' := T38.setTop (mkF m 43 #[.val (.ref x0), .val (.int 3), .val (.int 1), .val (.int 1)] [])) (fun _ kK => XS.icmpNo X38.here hx rfl (hb hby d23_40) rfl (tlt ((by decide : (1 : Int32) < (3 : Int32)))).2.1 kK) ?_
      obtain ⟨T40, X40, e40, st40⟩ := getS2 X38 hx hZ hown (host := "") (Or.inl (own_w G 129 rfl)) Via.refl eh38 (ST1.ext O0.2) (g := (mkF m 43 #[.val (.ref x0), .val (.int 3), .val (.int 1), .val (.int 1)] [])) rfl (hb hby d23_43)
      refine OwnEnd.of (S' := T40.setTop (mkF m 46 #[.val (.ref x0), .val (.int 3), .val (.int 1), .val (.int 1)] [(.ref aT1)])) st40 ?_
      refine OwnEnd.of (S' := T40.setTop (mkF m 49 #[.val (.ref x0), .val (.int 3), .val (.int 1), .val (.int 1)] [(.int 1), (.ref x0), (.int 0), (.ref aT1)])) (fun _ kK => XS.iconst X40.here hx rfl (hb hby d23_46) (XS.aloadN X40.here hx rfl (hb hby d23_47) rfl rfl (XS.iloadN X40.here hx rfl (hb hby d23_48) rfl kK))) ?_
      obtain ⟨cq41, kq41, q41a, q41b, q41c⟩ := isOf hZ e40 P0
      obtain ⟨_, _, ⟨T41, L41, k41, n41⟩, -, X41, ⟨Lc41, hQ41, l41, y41, z41⟩, st41⟩ := X40.virtualBack hx (y := own_m8) (z := own_m8) hown (mvT hZ (own_w G 98 rfl)) (mvT hZ (own_w G 99 rfl)) (notFace_of_selects (args := #[]) (mvT hZ (own_w G 101 rfl))) (mvT hZ (own_w G 101 rfl)) (mvT hZ (own_w G 100 rfl)) (by decide) (backOf (W := 2) (rmcA0 l Z a0 G [] x0 t kb (5 : Int32) ((([c0, c1, c2, c3, c4] : List Int32).map (fun c => c.toInt8.toInt32)).map Value.int) (.int 0) (1 : Int32) c1 h0 n0 O0 P0 P1 P2 P3 (by decide : ¬ (1 : Int32) < (0 : Int32)) (by decide : (1 : Int32) < (5 : Int32)) (by rfl : ((([c0, c1, c2, c3, c4] : List Int32).map (fun c => c.toInt8.toInt32)).map Value.int).getD (1 : Int32).toNatClampNeg (.int 0) = (.int (StrChars.lo8 c1))) (P4 c1 (by simp))) hZ (own_w G 102 rfl) (own_w G 8 rfl) (by decide) (by decide)) q41a q41c (g := (mkF m 49 #[.val (.ref x0), .val (.int 3), .val (.int 1), .val (.int 1)] [(.int 1), (.ref x0), (.int 0), (.ref aT1)])) rfl (by rw [hml]; rfl) (Steps.refl _) (argsL := [(.int 1)]) (rest := [(.int 0), (.ref aT1)]) (lenOf pd_15 rfl) rfl (by show 2 * 0 + _ ≤ _; exact Nat.le_of_eq rfl) (hb hby d23_49) (fun _ _ => ⟨rfl, e40, (by decide : 0 + 0 ≤ _), (by decide : 0 + 0 ≤ _)⟩)
      dsimp only [Pt.U, Pt.locs, Pt.cells, Pt.slots] at X41 l41 y41 z41 st41 hQ41
      subst l41 y41 z41
      obtain ⟨rfl, N41q, eh41⟩ := hQ41
      have N41 := Fr.app N38 N41q
      refine OwnEnd.tr (S' := T41.setTop (mkF m 52 #[.val (.ref x0), .val (.int 3), .val (.int 1), .val (.int 1)] [(.int c1), (.int 0), (.ref aT1)])) st41 ?_
      obtain ⟨_, _, ⟨T42, L42, k42, n42⟩, -, X42, ⟨Lc42, hQ42, l42, y42, z42⟩, st42⟩ := Jvm.LawKit.callS X41 hx (y := own_m17) hown (mvT hZ (own_w G 114 rfl)) (mvT hZ (own_w G 115 rfl)) (mvT hZ (own_w G 35 rfl)) (mvT hZ (own_w G 116 rfl)) (by decide) (backOf (W := 0) (rmii l Z a0 G [] aT1 own_scheme (0 : Int32) c1 h0 n0 O0 TB1 (P4 c1 (by simp)) own_nbs (by decide : nar .boolean (0 : Int32) = (0 : Int32))) hZ (own_w G 116 rfl) (own_w G 35 rfl) (by decide) (by decide)) (g := (mkF m 52 #[.val (.ref x0), .val (.int 3), .val (.int 1), .val (.int 1)] [(.int c1), (.int 0), (.ref aT1)])) rfl (by rw [hml]; rfl) (argsL := [(.ref aT1), (.int 0), (.int c1)]) (rest := []) (lenOf pd_9 rfl) rfl (by show 2 * 0 + _ ≤ _; exact Nat.le_of_eq rfl) (hb hby d23_52) (fun _ _ => ⟨rfl, eh41, (by decide : 0 + 0 ≤ _), (by decide : 0 + 0 ≤ _)⟩)
      dsimp only [Pt.U, Pt.locs, Pt.cells, Pt.slots] at X42 l42 y42 z42 st42 hQ42
      subst l42 y42 z42
      obtain ⟨rfl, N42q, eh42⟩ := hQ42
      have N42 := Fr.app N41 N42q
      refine OwnEnd.of (S' := T42.setTop (mkF m 55 #[.val (.ref x0), .val (.int 3), .val (.int 1), .val (.int 1)] [(.int (if c1 < (128 : Int32) then own_scheme c1 else (0 : Int32)))])) st42 ?_
      rw [own_scheme_tab (P4 c1 (by simp))]
      rcases own_scheme01 c1 with hb43 | hb43
      · rw [hb43]
        refine OwnEnd.of (S' := T42.setTop (mkF m 67 #[.val (.ref x0), .val (.int 3), .val (.int 0), .val (.int 4)] [(.int 0)])) (fun _ kK => XS.istoreN X42.here hx rfl (hb hby d23_55) rfl (l' := #[.val (.ref x0), .val (.int 3), .val (.int 0), .val (.int 1)]) rfl (XS.iinc X42.here hx rfl (hb hby d23_56) rfl (l' := #[.val (.ref x0), .val (.int 3), .val (.int 0), .val (.int 2)]) rfl (XS.goto X42.here hx rfl (pc0 := 59) (pc' := 34) rfl (hb hby d23_59) (by decide) (by decide) (XS.iloadN X42.here hx rfl (hb hby d23_34) rfl (XS.ifYes X42.here hx rfl (pc0 := 35) (pc' := 62) rfl (hb hby d23_35) rfl ((if0 _ _).trans (teq ((by decide : (0 : Int32) = (0 : Int32)))).1) (by decide) (by decide) (XS.iloadN X42.here hx rfl (hb hby d23_62) rfl (XS.iconst X42.here hx rfl (hb hby d23_63) (XS.iadd X42.here hx rfl (hb hby d23_64) rfl (XS.istoreN X42.here hx rfl (hb hby d23_65) rfl (l' := #[.val (.ref x0), .val (.int 3), .val (.int 0), .val (.int 4)]) rfl (XS.iloadN X42.here hx rfl (hb hby d23_66) rfl kK)))))))))) ?_
        refine OwnEnd.of (S' := T42.setTop (mkF m 94 #[.val (.ref x0), .val (.int 3), .val (.int 0), .val (.int 4)] [(.int 0)])) (fun _ kK => XS.ifYes X42.here hx rfl (pc0 := 67) (pc' := 93) rfl (hb hby d23_67) rfl ((if0 _ _).trans (teq ((by decide : (0 : Int32) = (0 : Int32)))).1) (by decide) (by decide) (XS.iloadN X42.here hx rfl (hb hby d23_93) rfl kK)) ?_
        refine OwnEnd.ret X42 (v := (some (.int (nar .boolean (0 : Int32))))) (fun h => by rw [Bd.returns] at h; cases h) hlk (fun fs hr => retN X42 hx (t := .boolean) Bd.returns (by simp) (hb hby d23_94) hr) (by decide) (by decide) (Q := (own_Qint (own_abs [c0, c1, c2, c3, c4])) h0 n0) eh42 ?_
        exact ⟨(by show some (Value.int (nar .boolean (0 : Int32))) = _; simp [own_abs, own_sch, own_tail, nar, hxc, hb39, hb43]), N42, rfl⟩
      · rw [hb43]
        refine OwnEnd.of (S' := T42.setTop (mkF m 43 #[.val (.ref x0), .val (.int 3), .val (.int 1), .val (.int 2)] [])) (fun _ kK => XS.istoreN X42.here hx rfl (hb hby d23_55) rfl (l' := #[.val (.ref x0), .val (.int 3), .val (.int 1), .val (.int 1)]) rfl (XS.iinc X42.here hx rfl (hb hby d23_56) rfl (l' := #[.val (.ref x0), .val (.int 3), .val (.int 1), .val (.int 2)]) rfl (XS.goto X42.here hx rfl (pc0 := 59) (pc' := 34) rfl (hb hby d23_59) (by decide) (by decide) (XS.iloadN X42.here hx rfl (hb hby d23_34) rfl (XS.ifNo X42.here hx rfl (hb hby d23_35) rfl ((if0 _ _).trans (feq ((by decide : ¬ ((1 : Int32) = (0 : Int32))))).1) (XS.iloadN X42.here hx rfl (hb hby d23_38) rfl (XS.iloadN X42.here hx rfl (hb hby d23_39) rfl (XS.icmpNo X42.here hx rfl (hb hby d23_40) rfl (tlt ((by decide : (2 : Int32) < (3 : Int32)))).2.1 kK)))))))) ?_
        obtain ⟨T44, X44, e44, st44⟩ := getS2 X42 hx hZ hown (host := "") (Or.inl (own_w G 129 rfl)) Via.refl eh42 (ST1.ext O0.2) (g := (mkF m 43 #[.val (.ref x0), .val (.int 3), .val (.int 1), .val (.int 2)] [])) rfl (hb hby d23_43)
        refine OwnEnd.of (S' := T44.setTop (mkF m 46 #[.val (.ref x0), .val (.int 3), .val (.int 1), .val (.int 2)] [(.ref aT1)])) st44 ?_
        refine OwnEnd.of (S' := T44.setTop (mkF m 49 #[.val (.ref x0), .val (.int 3), .val (.int 1), .val (.int 2)] [(.int 2), (.ref x0), (.int 0), (.ref aT1)])) (fun _ kK => XS.iconst X44.here hx rfl (hb hby d23_46) (XS.aloadN X44.here hx rfl (hb hby d23_47) rfl rfl (XS.iloadN X44.here hx rfl (hb hby d23_48) rfl kK))) ?_
        obtain ⟨cq45, kq45, q45a, q45b, q45c⟩ := isOf hZ e44 P0
        obtain ⟨_, _, ⟨T45, L45, k45, n45⟩, -, X45, ⟨Lc45, hQ45, l45, y45, z45⟩, st45⟩ := X44.virtualBack hx (y := own_m8) (z := own_m8) hown (mvT hZ (own_w G 98 rfl)) (mvT hZ (own_w G 99 rfl)) (notFace_of_selects (args := #[]) (mvT hZ (own_w G 101 rfl))) (mvT hZ (own_w G 101 rfl)) (mvT hZ (own_w G 100 rfl)) (by decide) (backOf (W := 2) (rmcA0 l Z a0 G [] x0 t kb (5 : Int32) ((([c0, c1, c2, c3, c4] : List Int32).map (fun c => c.toInt8.toInt32)).map Value.int) (.int 0) (2 : Int32) c2 h0 n0 O0 P0 P1 P2 P3 (by decide : ¬ (2 : Int32) < (0 : Int32)) (by decide : (2 : Int32) < (5 : Int32)) (by rfl : ((([c0, c1, c2, c3, c4] : List Int32).map (fun c => c.toInt8.toInt32)).map Value.int).getD (2 : Int32).toNatClampNeg (.int 0) = (.int (StrChars.lo8 c2))) (P4 c2 (by simp))) hZ (own_w G 102 rfl) (own_w G 8 rfl) (by decide) (by decide)) q45a q45c (g := (mkF m 49 #[.val (.ref x0), .val (.int 3), .val (.int 1), .val (.int 2)] [(.int 2), (.ref x0), (.int 0), (.ref aT1)])) rfl (by rw [hml]; rfl) (Steps.refl _) (argsL := [(.int 2)]) (rest := [(.int 0), (.ref aT1)]) (lenOf pd_15 rfl) rfl (by show 2 * 0 + _ ≤ _; exact Nat.le_of_eq rfl) (hb hby d23_49) (fun _ _ => ⟨rfl, e44, (by decide : 0 + 0 ≤ _), (by decide : 0 + 0 ≤ _)⟩)
        dsimp only [Pt.U, Pt.locs, Pt.cells, Pt.slots] at X45 l45 y45 z45 st45 hQ45
        subst l45 y45 z45
        obtain ⟨rfl, N45q, eh45⟩ := hQ45
        have N45 := Fr.app N42 N45q
        refine OwnEnd.tr (S' := T45.setTop (mkF m 52 #[.val (.ref x0), .val (.int 3), .val (.int 1), .val (.int 2)] [(.int c2), (.int 0), (.ref aT1)])) st45 ?_
        obtain ⟨_, _, ⟨T46, L46, k46, n46⟩, -, X46, ⟨Lc46, hQ46, l46, y46, z46⟩, st46⟩ := Jvm.LawKit.callS X45 hx (y := own_m17) hown (mvT hZ (own_w G 114 rfl)) (mvT hZ (own_w G 115 rfl)) (mvT hZ (own_w G 35 rfl)) (mvT hZ (own_w G 116 rfl)) (by decide) (backOf (W := 0) (rmii l Z a0 G [] aT1 own_scheme (0 : Int32) c2 h0 n0 O0 TB1 (P4 c2 (by simp)) own_nbs (by decide : nar .boolean (0 : Int32) = (0 : Int32))) hZ (own_w G 116 rfl) (own_w G 35 rfl) (by decide) (by decide)) (g := (mkF m 52 #[.val (.ref x0), .val (.int 3), .val (.int 1), .val (.int 2)] [(.int c2), (.int 0), (.ref aT1)])) rfl (by rw [hml]; rfl) (argsL := [(.ref aT1), (.int 0), (.int c2)]) (rest := []) (lenOf pd_9 rfl) rfl (by show 2 * 0 + _ ≤ _; exact Nat.le_of_eq rfl) (hb hby d23_52) (fun _ _ => ⟨rfl, eh45, (by decide : 0 + 0 ≤ _), (by decide : 0 + 0 ≤ _)⟩)
        dsimp only [Pt.U, Pt.locs, Pt.cells, Pt.slots] at X46 l46 y46 z46 st46 hQ46
        subst l46 y46 z46
        obtain ⟨rfl, N46q, eh46⟩ := hQ46
        have N46 := Fr.app N45 N46q
        refine OwnEnd.of (S' := T46.setTop (mkF m 55 #[.val (.ref x0), .val (.int 3), .val (.int 1), .val (.int 2)] [(.int (if c2 < (128 : Int32) then own_scheme c2 else (0 : Int32)))])) st46 ?_
        rw [own_scheme_tab (P4 c2 (by simp))]
        rcases own_scheme01 c2 with hb47 | hb47
        · rw [hb47]
          refine OwnEnd.of (S' := T46.setTop (mkF m 67 #[.val (.ref x0), .val (.int 3), .val (.int 0), .val (.int 4)] [(.int 0)])) (fun _ kK => XS.istoreN X46.here hx rfl (hb hby d23_55) rfl (l' := #[.val (.ref x0), .val (.int 3), .val (.int 0), .val (.int 2)]) rfl (XS.iinc X46.here hx rfl (hb hby d23_56) rfl (l' := #[.val (.ref x0), .val (.int 3), .val (.int 0), .val (.int 3)]) rfl (XS.goto X46.here hx rfl (pc0 := 59) (pc' := 34) rfl (hb hby d23_59) (by decide) (by decide) (XS.iloadN X46.here hx rfl (hb hby d23_34) rfl (XS.ifYes X46.here hx rfl (pc0 := 35) (pc' := 62) rfl (hb hby d23_35) rfl ((if0 _ _).trans (teq ((by decide : (0 : Int32) = (0 : Int32)))).1) (by decide) (by decide) (XS.iloadN X46.here hx rfl (hb hby d23_62) rfl (XS.iconst X46.here hx rfl (hb hby d23_63) (XS.iadd X46.here hx rfl (hb hby d23_64) rfl (XS.istoreN X46.here hx rfl (hb hby d23_65) rfl (l' := #[.val (.ref x0), .val (.int 3), .val (.int 0), .val (.int 4)]) rfl (XS.iloadN X46.here hx rfl (hb hby d23_66) rfl kK)))))))))) ?_
          refine OwnEnd.of (S' := T46.setTop (mkF m 94 #[.val (.ref x0), .val (.int 3), .val (.int 0), .val (.int 4)] [(.int 0)])) (fun _ kK => XS.ifYes X46.here hx rfl (pc0 := 67) (pc' := 93) rfl (hb hby d23_67) rfl ((if0 _ _).trans (teq ((by decide : (0 : Int32) = (0 : Int32)))).1) (by decide) (by decide) (XS.iloadN X46.here hx rfl (hb hby d23_93) rfl kK)) ?_
          refine OwnEnd.ret X46 (v := (some (.int (nar .boolean (0 : Int32))))) (fun h => by rw [Bd.returns] at h; cases h) hlk (fun fs hr => retN X46 hx (t := .boolean) Bd.returns (by simp) (hb hby d23_94) hr) (by decide) (by decide) (Q := (own_Qint (own_abs [c0, c1, c2, c3, c4])) h0 n0) eh46 ?_
          exact ⟨(by show some (Value.int (nar .boolean (0 : Int32))) = _; simp [own_abs, own_sch, own_tail, nar, hxc, hb39, hb43, hb47]), N46, rfl⟩
        · rw [hb47]
          refine OwnEnd.of (S' := T46.setTop (mkF m 64 #[.val (.ref x0), .val (.int 3), .val (.int 1), .val (.int 3)] [(.int 1), (.int 3)])) (fun _ kK => XS.istoreN X46.here hx rfl (hb hby d23_55) rfl (l' := #[.val (.ref x0), .val (.int 3), .val (.int 1), .val (.int 2)]) rfl (XS.iinc X46.here hx rfl (hb hby d23_56) rfl (l' := #[.val (.ref x0), .val (.int 3), .val (.int 1), .val (.int 3)]) rfl (XS.goto X46.here hx rfl (pc0 := 59) (pc' := 34) rfl (hb hby d23_59) (by decide) (by decide) (XS.iloadN X46.here hx rfl (hb hby d23_34) rfl (XS.ifNo X46.here hx rfl (hb hby d23_35) rfl ((if0 _ _).trans (feq ((by decide : ¬ ((1 : Int32) = (0 : Int32))))).1) (XS.iloadN X46.here hx rfl (hb hby d23_38) rfl (XS.iloadN X46.here hx rfl (hb hby d23_39) rfl (XS.icmpYes X46.here hx rfl (pc0 := 40) (pc' := 62) rfl (hb hby d23_40) rfl (flt ((by decide : ¬ ((3 : Int32) < (3 : Int32))))).2.1 (by decide) (by decide) (XS.iloadN X46.here hx rfl (hb hby d23_62) rfl (XS.iconst X46.here hx rfl (hb hby d23_63) kK)))))))))) ?_
          refine OwnEnd.of (S' := T46.setTop (mkF m 72 #[.val (.ref x0), .val (.int 3), .val (.int 1), .val (.int 4)] [(.ref x0), (.int 4)])) (fun _ kK => XS.iadd X46.here hx rfl (hb hby d23_64) rfl (XS.istoreN X46.here hx rfl (hb hby d23_65) rfl (l' := #[.val (.ref x0), .val (.int 3), .val (.int 1), .val (.int 4)]) rfl (XS.iloadN X46.here hx rfl (hb hby d23_66) rfl (XS.ifNo X46.here hx rfl (hb hby d23_67) rfl ((if0 _ _).trans (feq ((by decide : ¬ ((1 : Int32) = (0 : Int32))))).1) (XS.iloadN X46.here hx rfl (hb hby d23_70) rfl (XS.aloadN X46.here hx rfl (hb hby d23_71) rfl rfl kK)))))) ?_
          obtain ⟨cq48, kq48, q48a, q48b, q48c⟩ := isOf hZ eh46 P0
          obtain ⟨_, _, ⟨T48, L48, k48, n48⟩, -, X48, ⟨Lc48, hQ48, l48, y48, z48⟩, st48⟩ := X46.virtualBack hx (y := own_m6) (z := own_m6) hown (mvT hZ (own_w G 120 rfl)) (mvT hZ (own_w G 54 rfl)) (notFace_of_selects (args := #[]) (mvT hZ (own_w G 56 rfl))) (mvT hZ (own_w G 56 rfl)) (mvT hZ (own_w G 55 rfl)) (by decide) (backOf (W := 1) (rmln0 l Z a0 G [] x0 t kb (5 : Int32) ((([c0, c1, c2, c3, c4] : List Int32).map (fun c => c.toInt8.toInt32)).map Value.int) (.int 0) h0 n0 O0 P0 P1 P2 P3) hZ (own_w G 57 rfl) (own_w G 8 rfl) (by decide) (by decide)) q48a q48c (g := (mkF m 72 #[.val (.ref x0), .val (.int 3), .val (.int 1), .val (.int 4)] [(.ref x0), (.int 4)])) rfl (by rw [hml]; rfl) (Steps.refl _) (argsL := []) (rest := [(.int 4)]) (lenOf pd_12 rfl) rfl (by show 2 * 0 + _ ≤ _; exact Nat.le_of_eq rfl) (hb hby d23_72) (fun _ _ => ⟨rfl, eh46, (by decide : 0 + 0 ≤ _), (by decide : 0 + 0 ≤ _)⟩)
          dsimp only [Pt.U, Pt.locs, Pt.cells, Pt.slots] at X48 l48 y48 z48 st48 hQ48
          subst l48 y48 z48
          obtain ⟨rfl, N48q, eh48⟩ := hQ48
          have N48 := Fr.app N46 N48q
          refine OwnEnd.tr (S' := T48.setTop (mkF m 75 #[.val (.ref x0), .val (.int 3), .val (.int 1), .val (.int 4)] [(.int 5), (.int 4)])) st48 ?_
          refine OwnEnd.of (S' := T48.setTop (mkF m 80 #[.val (.ref x0), .val (.int 3), .val (.int 1), .val (.int 4)] [(.int 4), (.ref x0)])) (fun _ kK => XS.icmpNo X48.here hx rfl (hb hby d23_75) rfl (tlt ((by decide : (4 : Int32) < (5 : Int32)))).2.1 (XS.aloadN X48.here hx rfl (hb hby d23_78) rfl rfl (XS.iloadN X48.here hx rfl (hb hby d23_79) rfl kK))) ?_
          obtain ⟨cq49, kq49, q49a, q49b, q49c⟩ := isOf hZ eh48 P0
          obtain ⟨_, _, ⟨T49, L49, k49, n49⟩, -, X49, ⟨Lc49, hQ49, l49, y49, z49⟩, st49⟩ := X48.virtualBack hx (y := own_m8) (z := own_m8) hown (mvT hZ (own_w G 98 rfl)) (mvT hZ (own_w G 99 rfl)) (notFace_of_selects (args := #[]) (mvT hZ (own_w G 101 rfl))) (mvT hZ (own_w G 101 rfl)) (mvT hZ (own_w G 100 rfl)) (by decide) (backOf (W := 0) (rmcA0 l Z a0 G [] x0 t kb (5 : Int32) ((([c0, c1, c2, c3, c4] : List Int32).map (fun c => c.toInt8.toInt32)).map Value.int) (.int 0) (4 : Int32) c4 h0 n0 O0 P0 P1 P2 P3 (by decide : ¬ (4 : Int32) < (0 : Int32)) (by decide : (4 : Int32) < (5 : Int32)) (by rfl : ((([c0, c1, c2, c3, c4] : List Int32).map (fun c => c.toInt8.toInt32)).map Value.int).getD (4 : Int32).toNatClampNeg (.int 0) = (.int (StrChars.lo8 c4))) (P4 c4 (by simp))) hZ (own_w G 102 rfl) (own_w G 8 rfl) (by decide) (by decide)) q49a q49c (g := (mkF m 80 #[.val (.ref x0), .val (.int 3), .val (.int 1), .val (.int 4)] [(.int 4), (.ref x0)])) rfl (by rw [hml]; rfl) (Steps.refl _) (argsL := [(.int 4)]) (rest := []) (lenOf pd_15 rfl) rfl (by show 2 * 0 + _ ≤ _; exact Nat.le_of_eq rfl) (hb hby d23_80) (fun _ _ => ⟨rfl, eh48, (by decide : 0 + 0 ≤ _), (by decide : 0 + 0 ≤ _)⟩)
          dsimp only [Pt.U, Pt.locs, Pt.cells, Pt.slots] at X49 l49 y49 z49 st49 hQ49
          subst l49 y49 z49
          obtain ⟨rfl, N49q, eh49⟩ := hQ49
          have N49 := Fr.app N48 N49q
          refine OwnEnd.tr (S' := T49.setTop (mkF m 83 #[.val (.ref x0), .val (.int 3), .val (.int 1), .val (.int 4)] [(.int c4)])) st49 ?_
          obtain ⟨_, _, ⟨T50, L50, k50, n50⟩, -, X50, ⟨Lc50, hQ50, l50, y50, z50⟩, st50⟩ := Jvm.LawKit.callS X49 hx (y := own_m18) hown (mvT hZ (own_w G 121 rfl)) (mvT hZ (own_w G 122 rfl)) (mvT hZ (own_w G 35 rfl)) (mvT hZ (own_w G 123 rfl)) (by decide) (backOf (W := 0) (rmim l Z a0 G [] c4 h0 n0 O0 (P4 c4 (by simp))) hZ (own_w G 123 rfl) (own_w G 35 rfl) (by decide) (by decide)) (g := (mkF m 83 #[.val (.ref x0), .val (.int 3), .val (.int 1), .val (.int 4)] [(.int c4)])) rfl (by rw [hml]; rfl) (argsL := [(.int c4)]) (rest := []) (lenOf pd_6 rfl) rfl (by show 2 * 0 + _ ≤ _; exact Nat.le_of_eq rfl) (hb hby d23_83) (fun _ _ => ⟨rfl, eh49, (by decide : 0 + 0 ≤ _), (by decide : 0 + 0 ≤ _)⟩)
          dsimp only [Pt.U, Pt.locs, Pt.cells, Pt.slots] at X50 l50 y50 z50 st50 hQ50
          subst l50 y50 z50
          obtain ⟨rfl, N50q, eh50⟩ := hQ50
          have N50 := Fr.app N49 N50q
          refine OwnEnd.of (S' := T50.setTop (mkF m 86 #[.val (.ref x0), .val (.int 3), .val (.int 1), .val (.int 4)] [(.int (own_hold c4))])) st50 ?_
          rcases own_hold01 c4 with hb51 | hb51
          · rw [hb51]
            refine OwnEnd.of (S' := T50.setTop (mkF m 94 #[.val (.ref x0), .val (.int 3), .val (.int 0), .val (.int 5)] [(.int 0)])) (fun _ kK => XS.istoreN X50.here hx rfl (hb hby d23_86) rfl (l' := #[.val (.ref x0), .val (.int 3), .val (.int 0), .val (.int 4)]) rfl (XS.iinc X50.here hx rfl (hb hby d23_87) rfl (l' := #[.val (.ref x0), .val (.int 3), .val (.int 0), .val (.int 5)]) rfl (XS.goto X50.here hx rfl (pc0 := 90) (pc' := 66) rfl (hb hby d23_90) (by decide) (by decide) (XS.iloadN X50.here hx rfl (hb hby d23_66) rfl (XS.ifYes X50.here hx rfl (pc0 := 67) (pc' := 93) rfl (hb hby d23_67) rfl ((if0 _ _).trans (teq ((by decide : (0 : Int32) = (0 : Int32)))).1) (by decide) (by decide) (XS.iloadN X50.here hx rfl (hb hby d23_93) rfl kK)))))) ?_
            refine OwnEnd.ret X50 (v := (some (.int (nar .boolean (0 : Int32))))) (fun h => by rw [Bd.returns] at h; cases h) hlk (fun fs hr => retN X50 hx (t := .boolean) Bd.returns (by simp) (hb hby d23_94) hr) (by decide) (by decide) (Q := (own_Qint (own_abs [c0, c1, c2, c3, c4])) h0 n0) eh50 ?_
            exact ⟨(by show some (Value.int (nar .boolean (0 : Int32))) = _; simp [own_abs, own_sch, own_tail, nar, hxc, hb39, hb43, hb47, hb51]), N50, rfl⟩
          · rw [hb51]
            refine OwnEnd.of (S' := T50.setTop (mkF m 72 #[.val (.ref x0), .val (.int 3), .val (.int 1), .val (.int 5)] [(.ref x0), (.int 5)])) (fun _ kK => XS.istoreN X50.here hx rfl (hb hby d23_86) rfl (l' := #[.val (.ref x0), .val (.int 3), .val (.int 1), .val (.int 4)]) rfl (XS.iinc X50.here hx rfl (hb hby d23_87) rfl (l' := #[.val (.ref x0), .val (.int 3), .val (.int 1), .val (.int 5)]) rfl (XS.goto X50.here hx rfl (pc0 := 90) (pc' := 66) rfl (hb hby d23_90) (by decide) (by decide) (XS.iloadN X50.here hx rfl (hb hby d23_66) rfl (XS.ifNo X50.here hx rfl (hb hby d23_67) rfl ((if0 _ _).trans (feq ((by decide : ¬ ((1 : Int32) = (0 : Int32))))).1) (XS.iloadN X50.here hx rfl (hb hby d23_70) rfl (XS.aloadN X50.here hx rfl (hb hby d23_71) rfl rfl kK))))))) ?_
            obtain ⟨cq52, kq52, q52a, q52b, q52c⟩ := isOf hZ eh50 P0
            obtain ⟨_, _, ⟨T52, L52, k52, n52⟩, -, X52, ⟨Lc52, hQ52, l52, y52, z52⟩, st52⟩ := X50.virtualBack hx (y := own_m6) (z := own_m6) hown (mvT hZ (own_w G 120 rfl)) (mvT hZ (own_w G 54 rfl)) (notFace_of_selects (args := #[]) (mvT hZ (own_w G 56 rfl))) (mvT hZ (own_w G 56 rfl)) (mvT hZ (own_w G 55 rfl)) (by decide) (backOf (W := 1) (rmln0 l Z a0 G [] x0 t kb (5 : Int32) ((([c0, c1, c2, c3, c4] : List Int32).map (fun c => c.toInt8.toInt32)).map Value.int) (.int 0) h0 n0 O0 P0 P1 P2 P3) hZ (own_w G 57 rfl) (own_w G 8 rfl) (by decide) (by decide)) q52a q52c (g := (mkF m 72 #[.val (.ref x0), .val (.int 3), .val (.int 1), .val (.int 5)] [(.ref x0), (.int 5)])) rfl (by rw [hml]; rfl) (Steps.refl _) (argsL := []) (rest := [(.int 5)]) (lenOf pd_12 rfl) rfl (by show 2 * 0 + _ ≤ _; exact Nat.le_of_eq rfl) (hb hby d23_72) (fun _ _ => ⟨rfl, eh50, (by decide : 0 + 0 ≤ _), (by decide : 0 + 0 ≤ _)⟩)
            dsimp only [Pt.U, Pt.locs, Pt.cells, Pt.slots] at X52 l52 y52 z52 st52 hQ52
            subst l52 y52 z52
            obtain ⟨rfl, N52q, eh52⟩ := hQ52
            have N52 := Fr.app N50 N52q
            refine OwnEnd.tr (S' := T52.setTop (mkF m 75 #[.val (.ref x0), .val (.int 3), .val (.int 1), .val (.int 5)] [(.int 5), (.int 5)])) st52 ?_
            refine OwnEnd.of (S' := T52.setTop (mkF m 94 #[.val (.ref x0), .val (.int 3), .val (.int 1), .val (.int 5)] [(.int 1)])) (fun _ kK => XS.icmpYes X52.here hx rfl (pc0 := 75) (pc' := 93) rfl (hb hby d23_75) rfl (flt ((by decide : ¬ ((5 : Int32) < (5 : Int32))))).2.1 (by decide) (by decide) (XS.iloadN X52.here hx rfl (hb hby d23_93) rfl kK)) ?_
            refine OwnEnd.ret X52 (v := (some (.int (nar .boolean (1 : Int32))))) (fun h => by rw [Bd.returns] at h; cases h) hlk (fun fs hr => retN X52 hx (t := .boolean) Bd.returns (by simp) (hb hby d23_94) hr) (by decide) (by decide) (Q := (own_Qint (own_abs [c0, c1, c2, c3, c4])) h0 n0) eh52 ?_
            exact ⟨(by show some (Value.int (nar .boolean (1 : Int32))) = _; simp [own_abs, own_sch, own_tail, nar, hxc, hb39, hb43, hb47, hb51]), N52, rfl⟩
  · rw [hxc.1]
    refine OwnEnd.of (S' := T1.setTop (mkF m 11 #[.val (.ref x0), .val (.int 4), .unset, .unset] [])) (fun _ kK => XS.istoreN X1.here hx rfl (hb hby d23_6) rfl (l' := #[.val (.ref x0), .val (.int 4), .unset, .unset]) rfl (XS.iloadN X1.here hx rfl (hb hby d23_7) rfl (XS.ifNo X1.here hx rfl (hb hby d23_8) rfl ((if0 _ _).trans (tlt ((by decide : (0 : Int32) < (4 : Int32)))).2.2.2) kK))) ?_
    obtain ⟨T53, X53, e53, st53⟩ := getS2 X1 hx hZ hown (host := "") (Or.inl (own_w G 96 rfl)) Via.refl eh1 (ST0.ext O0.2) (g := (mkF m 11 #[.val (.ref x0), .val (.int 4), .unset, .unset] [])) rfl (hb hby d23_11)
    refine OwnEnd.of (S' := T53.setTop (mkF m 14 #[.val (.ref x0), .val (.int 4), .unset, .unset] [(.ref aT0)])) st53 ?_
    refine OwnEnd.of (S' := T53.setTop (mkF m 17 #[.val (.ref x0), .val (.int 4), .unset, .unset] [(.int 0), (.ref x0), (.int 0), (.ref aT0)])) (fun _ kK => XS.iconst X53.here hx rfl (hb hby d23_14) (XS.aloadN X53.here hx rfl (hb hby d23_15) rfl rfl (XS.iconst X53.here hx rfl (hb hby d23_16) kK))) ?_
    obtain ⟨cq54, kq54, q54a, q54b, q54c⟩ := isOf hZ e53 P0
    obtain ⟨_, _, ⟨T54, L54, k54, n54⟩, -, X54, ⟨Lc54, hQ54, l54, y54, z54⟩, st54⟩ := X53.virtualBack hx (y := own_m8) (z := own_m8) hown (mvT hZ (own_w G 98 rfl)) (mvT hZ (own_w G 99 rfl)) (notFace_of_selects (args := #[]) (mvT hZ (own_w G 101 rfl))) (mvT hZ (own_w G 101 rfl)) (mvT hZ (own_w G 100 rfl)) (by decide) (backOf (W := 2) (rmcA0 l Z a0 G [] x0 t kb (5 : Int32) ((([c0, c1, c2, c3, c4] : List Int32).map (fun c => c.toInt8.toInt32)).map Value.int) (.int 0) (0 : Int32) c0 h0 n0 O0 P0 P1 P2 P3 (by decide : ¬ (0 : Int32) < (0 : Int32)) (by decide : (0 : Int32) < (5 : Int32)) (by rfl : ((([c0, c1, c2, c3, c4] : List Int32).map (fun c => c.toInt8.toInt32)).map Value.int).getD (0 : Int32).toNatClampNeg (.int 0) = (.int (StrChars.lo8 c0))) (P4 c0 (by simp))) hZ (own_w G 102 rfl) (own_w G 8 rfl) (by decide) (by decide)) q54a q54c (g := (mkF m 17 #[.val (.ref x0), .val (.int 4), .unset, .unset] [(.int 0), (.ref x0), (.int 0), (.ref aT0)])) rfl (by rw [hml]; rfl) (Steps.refl _) (argsL := [(.int 0)]) (rest := [(.int 0), (.ref aT0)]) (lenOf pd_15 rfl) rfl (by show 2 * 0 + _ ≤ _; exact Nat.le_of_eq rfl) (hb hby d23_17) (fun _ _ => ⟨rfl, e53, (by decide : 0 + 0 ≤ _), (by decide : 0 + 0 ≤ _)⟩)
    dsimp only [Pt.U, Pt.locs, Pt.cells, Pt.slots] at X54 l54 y54 z54 st54 hQ54
    subst l54 y54 z54
    obtain ⟨rfl, N54q, eh54⟩ := hQ54
    have N54 := Fr.app N1 N54q
    refine OwnEnd.tr (S' := T54.setTop (mkF m 20 #[.val (.ref x0), .val (.int 4), .unset, .unset] [(.int c0), (.int 0), (.ref aT0)])) st54 ?_
    obtain ⟨_, _, ⟨T55, L55, k55, n55⟩, -, X55, ⟨Lc55, hQ55, l55, y55, z55⟩, st55⟩ := Jvm.LawKit.callS X54 hx (y := own_m17) hown (mvT hZ (own_w G 114 rfl)) (mvT hZ (own_w G 115 rfl)) (mvT hZ (own_w G 35 rfl)) (mvT hZ (own_w G 116 rfl)) (by decide) (backOf (W := 0) (rmii l Z a0 G [] aT0 own_letter (0 : Int32) c0 h0 n0 O0 TB0 (P4 c0 (by simp)) own_nbl (by decide : nar .boolean (0 : Int32) = (0 : Int32))) hZ (own_w G 116 rfl) (own_w G 35 rfl) (by decide) (by decide)) (g := (mkF m 20 #[.val (.ref x0), .val (.int 4), .unset, .unset] [(.int c0), (.int 0), (.ref aT0)])) rfl (by rw [hml]; rfl) (argsL := [(.ref aT0), (.int 0), (.int c0)]) (rest := []) (lenOf pd_9 rfl) rfl (by show 2 * 0 + _ ≤ _; exact Nat.le_of_eq rfl) (hb hby d23_20) (fun _ _ => ⟨rfl, eh54, (by decide : 0 + 0 ≤ _), (by decide : 0 + 0 ≤ _)⟩)
    dsimp only [Pt.U, Pt.locs, Pt.cells, Pt.slots] at X55 l55 y55 z55 st55 hQ55
    subst l55 y55 z55
    obtain ⟨rfl, N55q, eh55⟩ := hQ55
    have N55 := Fr.app N54 N55q
    refine OwnEnd.of (S' := T55.setTop (mkF m 23 #[.val (.ref x0), .val (.int 4), .unset, .unset] [(.int (if c0 < (128 : Int32) then own_letter c0 else (0 : Int32)))])) st55 ?_
    rw [own_letter_tab (P4 c0 (by simp))]
    rcases own_letter01 c0 with hb56 | hb56
    · rw [hb56]
      refine OwnEnd.of (S' := T55.setTop (mkF m 65 #[.val (.ref x0), .val (.int 4), .val (.int 0), .val (.int 1)] [(.int 5)])) (fun _ kK => XS.ifYes X55.here hx rfl (pc0 := 23) (pc' := 30) rfl (hb hby d23_23) rfl ((if0 _ _).trans (teq ((by decide : (0 : Int32) = (0 : Int32)))).1) (by decide) (by decide) (XS.iconst X55.here hx rfl (hb hby d23_30) (XS.istoreN X55.here hx rfl (hb hby d23_31) rfl (l' := #[.val (.ref x0), .val (.int 4), .val (.int 0), .unset]) rfl (XS.iconst X55.here hx rfl (hb hby d23_32) (XS.istoreN X55.here hx rfl (hb hby d23_33) rfl (l' := #[.val (.ref x0), .val (.int 4), .val (.int 0), .val (.int 1)]) rfl (XS.iloadN X55.here hx rfl (hb hby d23_34) rfl (XS.ifYes X55.here hx rfl (pc0 := 35) (pc' := 62) rfl (hb hby d23_35) rfl ((if0 _ _).trans (teq ((by decide : (0 : Int32) = (0 : Int32)))).1) (by decide) (by decide) (XS.iloadN X55.here hx rfl (hb hby d23_62) rfl (XS.iconst X55.here hx rfl (hb hby d23_63) (XS.iadd X55.here hx rfl (hb hby d23_64) rfl kK)))))))))) ?_
      refine OwnEnd.of (S' := T55.setTop (mkF m 94 #[.val (.ref x0), .val (.int 4), .val (.int 0), .val (.int 5)] [(.int 0)])) (fun _ kK => XS.istoreN X55.here hx rfl (hb hby d23_65) rfl (l' := #[.val (.ref x0), .val (.int 4), .val (.int 0), .val (.int 5)]) rfl (XS.iloadN X55.here hx rfl (hb hby d23_66) rfl (XS.ifYes X55.here hx rfl (pc0 := 67) (pc' := 93) rfl (hb hby d23_67) rfl ((if0 _ _).trans (teq ((by decide : (0 : Int32) = (0 : Int32)))).1) (by decide) (by decide) (XS.iloadN X55.here hx rfl (hb hby d23_93) rfl kK)))) ?_
      refine OwnEnd.ret X55 (v := (some (.int (nar .boolean (0 : Int32))))) (fun h => by rw [Bd.returns] at h; cases h) hlk (fun fs hr => retN X55 hx (t := .boolean) Bd.returns (by simp) (hb hby d23_94) hr) (by decide) (by decide) (Q := (own_Qint (own_abs [c0, c1, c2, c3, c4])) h0 n0) eh55 ?_
      exact ⟨(by show some (Value.int (nar .boolean (0 : Int32))) = _; simp [own_abs, own_sch, own_tail, nar, hxc, hb56]), N55, rfl⟩
    · rw [hb56]
      refine OwnEnd.of (S' := T55.setTop (mkF m 40 #[.val (.ref x0), .val (.int 4), .val (.int 1), .val (.int 1)] [(.int 4), (.int 1)])) (fun _ kK => XS.ifNo X55.here hx rfl (hb hby d23_23) rfl ((if0 _ _).trans (feq ((by decide : ¬ ((1 : Int32) = (0 : Int32))))).1) (XS.iconst X55.here hx rfl (hb hby d23_26) (XS.goto X55.here hx rfl (pc0 := 27) (pc' := 31) rfl (hb hby d23_27) (by decide) (by decide) (XS.istoreN X55.here hx rfl (hb hby d23_31) rfl (l' := #[.val (.ref x0), .val (.int 4), .val (.int 1), .unset]) rfl (XS.iconst X55.here hx rfl (hb hby d23_32) (XS.istoreN X55.here hx rfl (hb hby d23_33) rfl (l' := #[.val (.ref x0), .val (.int 4), .val (.int 1), .val (.int 1)]) rfl (XS.iloadN X55.here hx rfl (hb hby d23_34) rfl (XS.ifNo X55.here hx rfl (hb hby d23_35) rfl ((if0 _ _).trans (feq ((by decide : ¬ ((1 : Int32) = (0 : Int32))))).1) (XS.iloadN X55.here hx rfl (hb hby d23_38) rfl (XS.iloadN X55.here hx rfl (hb hby d23_39) rfl kK)))))))))) ?_
      refine OwnEnd.of (S' := T55.setTop (mkF m 43 #[.val (.ref x0), .val (.int 4), .val (.int 1), .val (.int 1)] [])) (fun _ kK => XS.icmpNo X55.here hx rfl (hb hby d23_40) rfl (tlt ((by decide : (1 : Int32) < (4 : Int32)))).2.1 kK) ?_
      obtain ⟨T57, X57, e57, st57⟩ := getS2 X55 hx hZ hown (host := "") (Or.inl (own_w G 129 rfl)) Via.refl eh55 (ST1.ext O0.2) (g := (mkF m 43 #[.val (.ref x0), .val (.int 4), .val (.int 1), .val (.int 1)] [])) rfl (hb hby d23_43)
      refine OwnEnd.of (S' := T57.setTop (mkF m 46 #[.val (.ref x0), .val (.int 4), .val (.int 1), .val (.int 1)] [(.ref aT1)])) st57 ?_
      refine OwnEnd.of (S' := T57.setTop (mkF m 49 #[.val (.ref x0), .val (.int 4), .val (.int 1), .val (.int 1)] [(.int 1), (.ref x0), (.int 0), (.ref aT1)])) (fun _ kK => XS.iconst X57.here hx rfl (hb hby d23_46) (XS.aloadN X57.here hx rfl (hb hby d23_47) rfl rfl (XS.iloadN X57.here hx rfl (hb hby d23_48) rfl kK))) ?_
      obtain ⟨cq58, kq58, q58a, q58b, q58c⟩ := isOf hZ e57 P0
      obtain ⟨_, _, ⟨T58, L58, k58, n58⟩, -, X58, ⟨Lc58, hQ58, l58, y58, z58⟩, st58⟩ := X57.virtualBack hx (y := own_m8) (z := own_m8) hown (mvT hZ (own_w G 98 rfl)) (mvT hZ (own_w G 99 rfl)) (notFace_of_selects (args := #[]) (mvT hZ (own_w G 101 rfl))) (mvT hZ (own_w G 101 rfl)) (mvT hZ (own_w G 100 rfl)) (by decide) (backOf (W := 2) (rmcA0 l Z a0 G [] x0 t kb (5 : Int32) ((([c0, c1, c2, c3, c4] : List Int32).map (fun c => c.toInt8.toInt32)).map Value.int) (.int 0) (1 : Int32) c1 h0 n0 O0 P0 P1 P2 P3 (by decide : ¬ (1 : Int32) < (0 : Int32)) (by decide : (1 : Int32) < (5 : Int32)) (by rfl : ((([c0, c1, c2, c3, c4] : List Int32).map (fun c => c.toInt8.toInt32)).map Value.int).getD (1 : Int32).toNatClampNeg (.int 0) = (.int (StrChars.lo8 c1))) (P4 c1 (by simp))) hZ (own_w G 102 rfl) (own_w G 8 rfl) (by decide) (by decide)) q58a q58c (g := (mkF m 49 #[.val (.ref x0), .val (.int 4), .val (.int 1), .val (.int 1)] [(.int 1), (.ref x0), (.int 0), (.ref aT1)])) rfl (by rw [hml]; rfl) (Steps.refl _) (argsL := [(.int 1)]) (rest := [(.int 0), (.ref aT1)]) (lenOf pd_15 rfl) rfl (by show 2 * 0 + _ ≤ _; exact Nat.le_of_eq rfl) (hb hby d23_49) (fun _ _ => ⟨rfl, e57, (by decide : 0 + 0 ≤ _), (by decide : 0 + 0 ≤ _)⟩)
      dsimp only [Pt.U, Pt.locs, Pt.cells, Pt.slots] at X58 l58 y58 z58 st58 hQ58
      subst l58 y58 z58
      obtain ⟨rfl, N58q, eh58⟩ := hQ58
      have N58 := Fr.app N55 N58q
      refine OwnEnd.tr (S' := T58.setTop (mkF m 52 #[.val (.ref x0), .val (.int 4), .val (.int 1), .val (.int 1)] [(.int c1), (.int 0), (.ref aT1)])) st58 ?_
      obtain ⟨_, _, ⟨T59, L59, k59, n59⟩, -, X59, ⟨Lc59, hQ59, l59, y59, z59⟩, st59⟩ := Jvm.LawKit.callS X58 hx (y := own_m17) hown (mvT hZ (own_w G 114 rfl)) (mvT hZ (own_w G 115 rfl)) (mvT hZ (own_w G 35 rfl)) (mvT hZ (own_w G 116 rfl)) (by decide) (backOf (W := 0) (rmii l Z a0 G [] aT1 own_scheme (0 : Int32) c1 h0 n0 O0 TB1 (P4 c1 (by simp)) own_nbs (by decide : nar .boolean (0 : Int32) = (0 : Int32))) hZ (own_w G 116 rfl) (own_w G 35 rfl) (by decide) (by decide)) (g := (mkF m 52 #[.val (.ref x0), .val (.int 4), .val (.int 1), .val (.int 1)] [(.int c1), (.int 0), (.ref aT1)])) rfl (by rw [hml]; rfl) (argsL := [(.ref aT1), (.int 0), (.int c1)]) (rest := []) (lenOf pd_9 rfl) rfl (by show 2 * 0 + _ ≤ _; exact Nat.le_of_eq rfl) (hb hby d23_52) (fun _ _ => ⟨rfl, eh58, (by decide : 0 + 0 ≤ _), (by decide : 0 + 0 ≤ _)⟩)
      dsimp only [Pt.U, Pt.locs, Pt.cells, Pt.slots] at X59 l59 y59 z59 st59 hQ59
      subst l59 y59 z59
      obtain ⟨rfl, N59q, eh59⟩ := hQ59
      have N59 := Fr.app N58 N59q
      refine OwnEnd.of (S' := T59.setTop (mkF m 55 #[.val (.ref x0), .val (.int 4), .val (.int 1), .val (.int 1)] [(.int (if c1 < (128 : Int32) then own_scheme c1 else (0 : Int32)))])) st59 ?_
      rw [own_scheme_tab (P4 c1 (by simp))]
      rcases own_scheme01 c1 with hb60 | hb60
      · rw [hb60]
        refine OwnEnd.of (S' := T59.setTop (mkF m 67 #[.val (.ref x0), .val (.int 4), .val (.int 0), .val (.int 5)] [(.int 0)])) (fun _ kK => XS.istoreN X59.here hx rfl (hb hby d23_55) rfl (l' := #[.val (.ref x0), .val (.int 4), .val (.int 0), .val (.int 1)]) rfl (XS.iinc X59.here hx rfl (hb hby d23_56) rfl (l' := #[.val (.ref x0), .val (.int 4), .val (.int 0), .val (.int 2)]) rfl (XS.goto X59.here hx rfl (pc0 := 59) (pc' := 34) rfl (hb hby d23_59) (by decide) (by decide) (XS.iloadN X59.here hx rfl (hb hby d23_34) rfl (XS.ifYes X59.here hx rfl (pc0 := 35) (pc' := 62) rfl (hb hby d23_35) rfl ((if0 _ _).trans (teq ((by decide : (0 : Int32) = (0 : Int32)))).1) (by decide) (by decide) (XS.iloadN X59.here hx rfl (hb hby d23_62) rfl (XS.iconst X59.here hx rfl (hb hby d23_63) (XS.iadd X59.here hx rfl (hb hby d23_64) rfl (XS.istoreN X59.here hx rfl (hb hby d23_65) rfl (l' := #[.val (.ref x0), .val (.int 4), .val (.int 0), .val (.int 5)]) rfl (XS.iloadN X59.here hx rfl (hb hby d23_66) rfl kK)))))))))) ?_
        refine OwnEnd.of (S' := T59.setTop (mkF m 94 #[.val (.ref x0), .val (.int 4), .val (.int 0), .val (.int 5)] [(.int 0)])) (fun _ kK => XS.ifYes X59.here hx rfl (pc0 := 67) (pc' := 93) rfl (hb hby d23_67) rfl ((if0 _ _).trans (teq ((by decide : (0 : Int32) = (0 : Int32)))).1) (by decide) (by decide) (XS.iloadN X59.here hx rfl (hb hby d23_93) rfl kK)) ?_
        refine OwnEnd.ret X59 (v := (some (.int (nar .boolean (0 : Int32))))) (fun h => by rw [Bd.returns] at h; cases h) hlk (fun fs hr => retN X59 hx (t := .boolean) Bd.returns (by simp) (hb hby d23_94) hr) (by decide) (by decide) (Q := (own_Qint (own_abs [c0, c1, c2, c3, c4])) h0 n0) eh59 ?_
        exact ⟨(by show some (Value.int (nar .boolean (0 : Int32))) = _; simp [own_abs, own_sch, own_tail, nar, hxc, hb56, hb60]), N59, rfl⟩
      · rw [hb60]
        refine OwnEnd.of (S' := T59.setTop (mkF m 43 #[.val (.ref x0), .val (.int 4), .val (.int 1), .val (.int 2)] [])) (fun _ kK => XS.istoreN X59.here hx rfl (hb hby d23_55) rfl (l' := #[.val (.ref x0), .val (.int 4), .val (.int 1), .val (.int 1)]) rfl (XS.iinc X59.here hx rfl (hb hby d23_56) rfl (l' := #[.val (.ref x0), .val (.int 4), .val (.int 1), .val (.int 2)]) rfl (XS.goto X59.here hx rfl (pc0 := 59) (pc' := 34) rfl (hb hby d23_59) (by decide) (by decide) (XS.iloadN X59.here hx rfl (hb hby d23_34) rfl (XS.ifNo X59.here hx rfl (hb hby d23_35) rfl ((if0 _ _).trans (feq ((by decide : ¬ ((1 : Int32) = (0 : Int32))))).1) (XS.iloadN X59.here hx rfl (hb hby d23_38) rfl (XS.iloadN X59.here hx rfl (hb hby d23_39) rfl (XS.icmpNo X59.here hx rfl (hb hby d23_40) rfl (tlt ((by decide : (2 : Int32) < (4 : Int32)))).2.1 kK)))))))) ?_
        obtain ⟨T61, X61, e61, st61⟩ := getS2 X59 hx hZ hown (host := "") (Or.inl (own_w G 129 rfl)) Via.refl eh59 (ST1.ext O0.2) (g := (mkF m 43 #[.val (.ref x0), .val (.int 4), .val (.int 1), .val (.int 2)] [])) rfl (hb hby d23_43)
        refine OwnEnd.of (S' := T61.setTop (mkF m 46 #[.val (.ref x0), .val (.int 4), .val (.int 1), .val (.int 2)] [(.ref aT1)])) st61 ?_
        refine OwnEnd.of (S' := T61.setTop (mkF m 49 #[.val (.ref x0), .val (.int 4), .val (.int 1), .val (.int 2)] [(.int 2), (.ref x0), (.int 0), (.ref aT1)])) (fun _ kK => XS.iconst X61.here hx rfl (hb hby d23_46) (XS.aloadN X61.here hx rfl (hb hby d23_47) rfl rfl (XS.iloadN X61.here hx rfl (hb hby d23_48) rfl kK))) ?_
        obtain ⟨cq62, kq62, q62a, q62b, q62c⟩ := isOf hZ e61 P0
        obtain ⟨_, _, ⟨T62, L62, k62, n62⟩, -, X62, ⟨Lc62, hQ62, l62, y62, z62⟩, st62⟩ := X61.virtualBack hx (y := own_m8) (z := own_m8) hown (mvT hZ (own_w G 98 rfl)) (mvT hZ (own_w G 99 rfl)) (notFace_of_selects (args := #[]) (mvT hZ (own_w G 101 rfl))) (mvT hZ (own_w G 101 rfl)) (mvT hZ (own_w G 100 rfl)) (by decide) (backOf (W := 2) (rmcA0 l Z a0 G [] x0 t kb (5 : Int32) ((([c0, c1, c2, c3, c4] : List Int32).map (fun c => c.toInt8.toInt32)).map Value.int) (.int 0) (2 : Int32) c2 h0 n0 O0 P0 P1 P2 P3 (by decide : ¬ (2 : Int32) < (0 : Int32)) (by decide : (2 : Int32) < (5 : Int32)) (by rfl : ((([c0, c1, c2, c3, c4] : List Int32).map (fun c => c.toInt8.toInt32)).map Value.int).getD (2 : Int32).toNatClampNeg (.int 0) = (.int (StrChars.lo8 c2))) (P4 c2 (by simp))) hZ (own_w G 102 rfl) (own_w G 8 rfl) (by decide) (by decide)) q62a q62c (g := (mkF m 49 #[.val (.ref x0), .val (.int 4), .val (.int 1), .val (.int 2)] [(.int 2), (.ref x0), (.int 0), (.ref aT1)])) rfl (by rw [hml]; rfl) (Steps.refl _) (argsL := [(.int 2)]) (rest := [(.int 0), (.ref aT1)]) (lenOf pd_15 rfl) rfl (by show 2 * 0 + _ ≤ _; exact Nat.le_of_eq rfl) (hb hby d23_49) (fun _ _ => ⟨rfl, e61, (by decide : 0 + 0 ≤ _), (by decide : 0 + 0 ≤ _)⟩)
        dsimp only [Pt.U, Pt.locs, Pt.cells, Pt.slots] at X62 l62 y62 z62 st62 hQ62
        subst l62 y62 z62
        obtain ⟨rfl, N62q, eh62⟩ := hQ62
        have N62 := Fr.app N59 N62q
        refine OwnEnd.tr (S' := T62.setTop (mkF m 52 #[.val (.ref x0), .val (.int 4), .val (.int 1), .val (.int 2)] [(.int c2), (.int 0), (.ref aT1)])) st62 ?_
        obtain ⟨_, _, ⟨T63, L63, k63, n63⟩, -, X63, ⟨Lc63, hQ63, l63, y63, z63⟩, st63⟩ := Jvm.LawKit.callS X62 hx (y := own_m17) hown (mvT hZ (own_w G 114 rfl)) (mvT hZ (own_w G 115 rfl)) (mvT hZ (own_w G 35 rfl)) (mvT hZ (own_w G 116 rfl)) (by decide) (backOf (W := 0) (rmii l Z a0 G [] aT1 own_scheme (0 : Int32) c2 h0 n0 O0 TB1 (P4 c2 (by simp)) own_nbs (by decide : nar .boolean (0 : Int32) = (0 : Int32))) hZ (own_w G 116 rfl) (own_w G 35 rfl) (by decide) (by decide)) (g := (mkF m 52 #[.val (.ref x0), .val (.int 4), .val (.int 1), .val (.int 2)] [(.int c2), (.int 0), (.ref aT1)])) rfl (by rw [hml]; rfl) (argsL := [(.ref aT1), (.int 0), (.int c2)]) (rest := []) (lenOf pd_9 rfl) rfl (by show 2 * 0 + _ ≤ _; exact Nat.le_of_eq rfl) (hb hby d23_52) (fun _ _ => ⟨rfl, eh62, (by decide : 0 + 0 ≤ _), (by decide : 0 + 0 ≤ _)⟩)
        dsimp only [Pt.U, Pt.locs, Pt.cells, Pt.slots] at X63 l63 y63 z63 st63 hQ63
        subst l63 y63 z63
        obtain ⟨rfl, N63q, eh63⟩ := hQ63
        have N63 := Fr.app N62 N63q
        refine OwnEnd.of (S' := T63.setTop (mkF m 55 #[.val (.ref x0), .val (.int 4), .val (.int 1), .val (.int 2)] [(.int (if c2 < (128 : Int32) then own_scheme c2 else (0 : Int32)))])) st63 ?_
        rw [own_scheme_tab (P4 c2 (by simp))]
        rcases own_scheme01 c2 with hb64 | hb64
        · rw [hb64]
          refine OwnEnd.of (S' := T63.setTop (mkF m 67 #[.val (.ref x0), .val (.int 4), .val (.int 0), .val (.int 5)] [(.int 0)])) (fun _ kK => XS.istoreN X63.here hx rfl (hb hby d23_55) rfl (l' := #[.val (.ref x0), .val (.int 4), .val (.int 0), .val (.int 2)]) rfl (XS.iinc X63.here hx rfl (hb hby d23_56) rfl (l' := #[.val (.ref x0), .val (.int 4), .val (.int 0), .val (.int 3)]) rfl (XS.goto X63.here hx rfl (pc0 := 59) (pc' := 34) rfl (hb hby d23_59) (by decide) (by decide) (XS.iloadN X63.here hx rfl (hb hby d23_34) rfl (XS.ifYes X63.here hx rfl (pc0 := 35) (pc' := 62) rfl (hb hby d23_35) rfl ((if0 _ _).trans (teq ((by decide : (0 : Int32) = (0 : Int32)))).1) (by decide) (by decide) (XS.iloadN X63.here hx rfl (hb hby d23_62) rfl (XS.iconst X63.here hx rfl (hb hby d23_63) (XS.iadd X63.here hx rfl (hb hby d23_64) rfl (XS.istoreN X63.here hx rfl (hb hby d23_65) rfl (l' := #[.val (.ref x0), .val (.int 4), .val (.int 0), .val (.int 5)]) rfl (XS.iloadN X63.here hx rfl (hb hby d23_66) rfl kK)))))))))) ?_
          refine OwnEnd.of (S' := T63.setTop (mkF m 94 #[.val (.ref x0), .val (.int 4), .val (.int 0), .val (.int 5)] [(.int 0)])) (fun _ kK => XS.ifYes X63.here hx rfl (pc0 := 67) (pc' := 93) rfl (hb hby d23_67) rfl ((if0 _ _).trans (teq ((by decide : (0 : Int32) = (0 : Int32)))).1) (by decide) (by decide) (XS.iloadN X63.here hx rfl (hb hby d23_93) rfl kK)) ?_
          refine OwnEnd.ret X63 (v := (some (.int (nar .boolean (0 : Int32))))) (fun h => by rw [Bd.returns] at h; cases h) hlk (fun fs hr => retN X63 hx (t := .boolean) Bd.returns (by simp) (hb hby d23_94) hr) (by decide) (by decide) (Q := (own_Qint (own_abs [c0, c1, c2, c3, c4])) h0 n0) eh63 ?_
          exact ⟨(by show some (Value.int (nar .boolean (0 : Int32))) = _; simp [own_abs, own_sch, own_tail, nar, hxc, hb56, hb60, hb64]), N63, rfl⟩
        · rw [hb64]
          refine OwnEnd.of (S' := T63.setTop (mkF m 43 #[.val (.ref x0), .val (.int 4), .val (.int 1), .val (.int 3)] [])) (fun _ kK => XS.istoreN X63.here hx rfl (hb hby d23_55) rfl (l' := #[.val (.ref x0), .val (.int 4), .val (.int 1), .val (.int 2)]) rfl (XS.iinc X63.here hx rfl (hb hby d23_56) rfl (l' := #[.val (.ref x0), .val (.int 4), .val (.int 1), .val (.int 3)]) rfl (XS.goto X63.here hx rfl (pc0 := 59) (pc' := 34) rfl (hb hby d23_59) (by decide) (by decide) (XS.iloadN X63.here hx rfl (hb hby d23_34) rfl (XS.ifNo X63.here hx rfl (hb hby d23_35) rfl ((if0 _ _).trans (feq ((by decide : ¬ ((1 : Int32) = (0 : Int32))))).1) (XS.iloadN X63.here hx rfl (hb hby d23_38) rfl (XS.iloadN X63.here hx rfl (hb hby d23_39) rfl (XS.icmpNo X63.here hx rfl (hb hby d23_40) rfl (tlt ((by decide : (3 : Int32) < (4 : Int32)))).2.1 kK)))))))) ?_
          obtain ⟨T65, X65, e65, st65⟩ := getS2 X63 hx hZ hown (host := "") (Or.inl (own_w G 129 rfl)) Via.refl eh63 (ST1.ext O0.2) (g := (mkF m 43 #[.val (.ref x0), .val (.int 4), .val (.int 1), .val (.int 3)] [])) rfl (hb hby d23_43)
          refine OwnEnd.of (S' := T65.setTop (mkF m 46 #[.val (.ref x0), .val (.int 4), .val (.int 1), .val (.int 3)] [(.ref aT1)])) st65 ?_
          refine OwnEnd.of (S' := T65.setTop (mkF m 49 #[.val (.ref x0), .val (.int 4), .val (.int 1), .val (.int 3)] [(.int 3), (.ref x0), (.int 0), (.ref aT1)])) (fun _ kK => XS.iconst X65.here hx rfl (hb hby d23_46) (XS.aloadN X65.here hx rfl (hb hby d23_47) rfl rfl (XS.iloadN X65.here hx rfl (hb hby d23_48) rfl kK))) ?_
          obtain ⟨cq66, kq66, q66a, q66b, q66c⟩ := isOf hZ e65 P0
          obtain ⟨_, _, ⟨T66, L66, k66, n66⟩, -, X66, ⟨Lc66, hQ66, l66, y66, z66⟩, st66⟩ := X65.virtualBack hx (y := own_m8) (z := own_m8) hown (mvT hZ (own_w G 98 rfl)) (mvT hZ (own_w G 99 rfl)) (notFace_of_selects (args := #[]) (mvT hZ (own_w G 101 rfl))) (mvT hZ (own_w G 101 rfl)) (mvT hZ (own_w G 100 rfl)) (by decide) (backOf (W := 2) (rmcA0 l Z a0 G [] x0 t kb (5 : Int32) ((([c0, c1, c2, c3, c4] : List Int32).map (fun c => c.toInt8.toInt32)).map Value.int) (.int 0) (3 : Int32) c3 h0 n0 O0 P0 P1 P2 P3 (by decide : ¬ (3 : Int32) < (0 : Int32)) (by decide : (3 : Int32) < (5 : Int32)) (by rfl : ((([c0, c1, c2, c3, c4] : List Int32).map (fun c => c.toInt8.toInt32)).map Value.int).getD (3 : Int32).toNatClampNeg (.int 0) = (.int (StrChars.lo8 c3))) (P4 c3 (by simp))) hZ (own_w G 102 rfl) (own_w G 8 rfl) (by decide) (by decide)) q66a q66c (g := (mkF m 49 #[.val (.ref x0), .val (.int 4), .val (.int 1), .val (.int 3)] [(.int 3), (.ref x0), (.int 0), (.ref aT1)])) rfl (by rw [hml]; rfl) (Steps.refl _) (argsL := [(.int 3)]) (rest := [(.int 0), (.ref aT1)]) (lenOf pd_15 rfl) rfl (by show 2 * 0 + _ ≤ _; exact Nat.le_of_eq rfl) (hb hby d23_49) (fun _ _ => ⟨rfl, e65, (by decide : 0 + 0 ≤ _), (by decide : 0 + 0 ≤ _)⟩)
          dsimp only [Pt.U, Pt.locs, Pt.cells, Pt.slots] at X66 l66 y66 z66 st66 hQ66
          subst l66 y66 z66
          obtain ⟨rfl, N66q, eh66⟩ := hQ66
          have N66 := Fr.app N63 N66q
          refine OwnEnd.tr (S' := T66.setTop (mkF m 52 #[.val (.ref x0), .val (.int 4), .val (.int 1), .val (.int 3)] [(.int c3), (.int 0), (.ref aT1)])) st66 ?_
          obtain ⟨_, _, ⟨T67, L67, k67, n67⟩, -, X67, ⟨Lc67, hQ67, l67, y67, z67⟩, st67⟩ := Jvm.LawKit.callS X66 hx (y := own_m17) hown (mvT hZ (own_w G 114 rfl)) (mvT hZ (own_w G 115 rfl)) (mvT hZ (own_w G 35 rfl)) (mvT hZ (own_w G 116 rfl)) (by decide) (backOf (W := 0) (rmii l Z a0 G [] aT1 own_scheme (0 : Int32) c3 h0 n0 O0 TB1 (P4 c3 (by simp)) own_nbs (by decide : nar .boolean (0 : Int32) = (0 : Int32))) hZ (own_w G 116 rfl) (own_w G 35 rfl) (by decide) (by decide)) (g := (mkF m 52 #[.val (.ref x0), .val (.int 4), .val (.int 1), .val (.int 3)] [(.int c3), (.int 0), (.ref aT1)])) rfl (by rw [hml]; rfl) (argsL := [(.ref aT1), (.int 0), (.int c3)]) (rest := []) (lenOf pd_9 rfl) rfl (by show 2 * 0 + _ ≤ _; exact Nat.le_of_eq rfl) (hb hby d23_52) (fun _ _ => ⟨rfl, eh66, (by decide : 0 + 0 ≤ _), (by decide : 0 + 0 ≤ _)⟩)
          dsimp only [Pt.U, Pt.locs, Pt.cells, Pt.slots] at X67 l67 y67 z67 st67 hQ67
          subst l67 y67 z67
          obtain ⟨rfl, N67q, eh67⟩ := hQ67
          have N67 := Fr.app N66 N67q
          refine OwnEnd.of (S' := T67.setTop (mkF m 55 #[.val (.ref x0), .val (.int 4), .val (.int 1), .val (.int 3)] [(.int (if c3 < (128 : Int32) then own_scheme c3 else (0 : Int32)))])) st67 ?_
          rw [own_scheme_tab (P4 c3 (by simp))]
          rcases own_scheme01 c3 with hb68 | hb68
          · rw [hb68]
            refine OwnEnd.of (S' := T67.setTop (mkF m 67 #[.val (.ref x0), .val (.int 4), .val (.int 0), .val (.int 5)] [(.int 0)])) (fun _ kK => XS.istoreN X67.here hx rfl (hb hby d23_55) rfl (l' := #[.val (.ref x0), .val (.int 4), .val (.int 0), .val (.int 3)]) rfl (XS.iinc X67.here hx rfl (hb hby d23_56) rfl (l' := #[.val (.ref x0), .val (.int 4), .val (.int 0), .val (.int 4)]) rfl (XS.goto X67.here hx rfl (pc0 := 59) (pc' := 34) rfl (hb hby d23_59) (by decide) (by decide) (XS.iloadN X67.here hx rfl (hb hby d23_34) rfl (XS.ifYes X67.here hx rfl (pc0 := 35) (pc' := 62) rfl (hb hby d23_35) rfl ((if0 _ _).trans (teq ((by decide : (0 : Int32) = (0 : Int32)))).1) (by decide) (by decide) (XS.iloadN X67.here hx rfl (hb hby d23_62) rfl (XS.iconst X67.here hx rfl (hb hby d23_63) (XS.iadd X67.here hx rfl (hb hby d23_64) rfl (XS.istoreN X67.here hx rfl (hb hby d23_65) rfl (l' := #[.val (.ref x0), .val (.int 4), .val (.int 0), .val (.int 5)]) rfl (XS.iloadN X67.here hx rfl (hb hby d23_66) rfl kK)))))))))) ?_
            refine OwnEnd.of (S' := T67.setTop (mkF m 94 #[.val (.ref x0), .val (.int 4), .val (.int 0), .val (.int 5)] [(.int 0)])) (fun _ kK => XS.ifYes X67.here hx rfl (pc0 := 67) (pc' := 93) rfl (hb hby d23_67) rfl ((if0 _ _).trans (teq ((by decide : (0 : Int32) = (0 : Int32)))).1) (by decide) (by decide) (XS.iloadN X67.here hx rfl (hb hby d23_93) rfl kK)) ?_
            refine OwnEnd.ret X67 (v := (some (.int (nar .boolean (0 : Int32))))) (fun h => by rw [Bd.returns] at h; cases h) hlk (fun fs hr => retN X67 hx (t := .boolean) Bd.returns (by simp) (hb hby d23_94) hr) (by decide) (by decide) (Q := (own_Qint (own_abs [c0, c1, c2, c3, c4])) h0 n0) eh67 ?_
            exact ⟨(by show some (Value.int (nar .boolean (0 : Int32))) = _; simp [own_abs, own_sch, own_tail, nar, hxc, hb56, hb60, hb64, hb68]), N67, rfl⟩
          · rw [hb68]
            refine OwnEnd.of (S' := T67.setTop (mkF m 64 #[.val (.ref x0), .val (.int 4), .val (.int 1), .val (.int 4)] [(.int 1), (.int 4)])) (fun _ kK => XS.istoreN X67.here hx rfl (hb hby d23_55) rfl (l' := #[.val (.ref x0), .val (.int 4), .val (.int 1), .val (.int 3)]) rfl (XS.iinc X67.here hx rfl (hb hby d23_56) rfl (l' := #[.val (.ref x0), .val (.int 4), .val (.int 1), .val (.int 4)]) rfl (XS.goto X67.here hx rfl (pc0 := 59) (pc' := 34) rfl (hb hby d23_59) (by decide) (by decide) (XS.iloadN X67.here hx rfl (hb hby d23_34) rfl (XS.ifNo X67.here hx rfl (hb hby d23_35) rfl ((if0 _ _).trans (feq ((by decide : ¬ ((1 : Int32) = (0 : Int32))))).1) (XS.iloadN X67.here hx rfl (hb hby d23_38) rfl (XS.iloadN X67.here hx rfl (hb hby d23_39) rfl (XS.icmpYes X67.here hx rfl (pc0 := 40) (pc' := 62) rfl (hb hby d23_40) rfl (flt ((by decide : ¬ ((4 : Int32) < (4 : Int32))))).2.1 (by decide) (by decide) (XS.iloadN X67.here hx rfl (hb hby d23_62) rfl (XS.iconst X67.here hx rfl (hb hby d23_63) kK)))))))))) ?_
            refine OwnEnd.of (S' := T67.setTop (mkF m 72 #[.val (.ref x0), .val (.int 4), .val (.int 1), .val (.int 5)] [(.ref x0), (.int 5)])) (fun _ kK => XS.iadd X67.here hx rfl (hb hby d23_64) rfl (XS.istoreN X67.here hx rfl (hb hby d23_65) rfl (l' := #[.val (.ref x0), .val (.int 4), .val (.int 1), .val (.int 5)]) rfl (XS.iloadN X67.here hx rfl (hb hby d23_66) rfl (XS.ifNo X67.here hx rfl (hb hby d23_67) rfl ((if0 _ _).trans (feq ((by decide : ¬ ((1 : Int32) = (0 : Int32))))).1) (XS.iloadN X67.here hx rfl (hb hby d23_70) rfl (XS.aloadN X67.here hx rfl (hb hby d23_71) rfl rfl kK)))))) ?_
            obtain ⟨cq69, kq69, q69a, q69b, q69c⟩ := isOf hZ eh67 P0
            obtain ⟨_, _, ⟨T69, L69, k69, n69⟩, -, X69, ⟨Lc69, hQ69, l69, y69, z69⟩, st69⟩ := X67.virtualBack hx (y := own_m6) (z := own_m6) hown (mvT hZ (own_w G 120 rfl)) (mvT hZ (own_w G 54 rfl)) (notFace_of_selects (args := #[]) (mvT hZ (own_w G 56 rfl))) (mvT hZ (own_w G 56 rfl)) (mvT hZ (own_w G 55 rfl)) (by decide) (backOf (W := 1) (rmln0 l Z a0 G [] x0 t kb (5 : Int32) ((([c0, c1, c2, c3, c4] : List Int32).map (fun c => c.toInt8.toInt32)).map Value.int) (.int 0) h0 n0 O0 P0 P1 P2 P3) hZ (own_w G 57 rfl) (own_w G 8 rfl) (by decide) (by decide)) q69a q69c (g := (mkF m 72 #[.val (.ref x0), .val (.int 4), .val (.int 1), .val (.int 5)] [(.ref x0), (.int 5)])) rfl (by rw [hml]; rfl) (Steps.refl _) (argsL := []) (rest := [(.int 5)]) (lenOf pd_12 rfl) rfl (by show 2 * 0 + _ ≤ _; exact Nat.le_of_eq rfl) (hb hby d23_72) (fun _ _ => ⟨rfl, eh67, (by decide : 0 + 0 ≤ _), (by decide : 0 + 0 ≤ _)⟩)
            dsimp only [Pt.U, Pt.locs, Pt.cells, Pt.slots] at X69 l69 y69 z69 st69 hQ69
            subst l69 y69 z69
            obtain ⟨rfl, N69q, eh69⟩ := hQ69
            have N69 := Fr.app N67 N69q
            refine OwnEnd.tr (S' := T69.setTop (mkF m 75 #[.val (.ref x0), .val (.int 4), .val (.int 1), .val (.int 5)] [(.int 5), (.int 5)])) st69 ?_
            refine OwnEnd.of (S' := T69.setTop (mkF m 94 #[.val (.ref x0), .val (.int 4), .val (.int 1), .val (.int 5)] [(.int 1)])) (fun _ kK => XS.icmpYes X69.here hx rfl (pc0 := 75) (pc' := 93) rfl (hb hby d23_75) rfl (flt ((by decide : ¬ ((5 : Int32) < (5 : Int32))))).2.1 (by decide) (by decide) (XS.iloadN X69.here hx rfl (hb hby d23_93) rfl kK)) ?_
            refine OwnEnd.ret X69 (v := (some (.int (nar .boolean (1 : Int32))))) (fun h => by rw [Bd.returns] at h; cases h) hlk (fun fs hr => retN X69 hx (t := .boolean) Bd.returns (by simp) (hb hby d23_94) hr) (by decide) (by decide) (Q := (own_Qint (own_abs [c0, c1, c2, c3, c4])) h0 n0) eh69 ?_
            exact ⟨(by show some (Value.int (nar .boolean (1 : Int32))) = _; simp [own_abs, own_sch, own_tail, nar, hxc, hb56, hb60, hb64, hb68]), N69, rfl⟩
  · rw [hxc.1]
    refine OwnEnd.of (S' := T1.setTop (mkF m 63 #[.val (.ref x0), .val (.int (-1 : Int32)), .val (.int 0), .val (.int 1)] [(.int (-1 : Int32))])) (fun _ kK => XS.istoreN X1.here hx rfl (hb hby d23_6) rfl (l' := #[.val (.ref x0), .val (.int (-1 : Int32)), .unset, .unset]) rfl (XS.iloadN X1.here hx rfl (hb hby d23_7) rfl (XS.ifYes X1.here hx rfl (pc0 := 8) (pc' := 30) rfl (hb hby d23_8) rfl ((if0 _ _).trans (flt ((by decide : ¬ ((0 : Int32) < (-1 : Int32))))).2.2.2) (by decide) (by decide) (XS.iconst X1.here hx rfl (hb hby d23_30) (XS.istoreN X1.here hx rfl (hb hby d23_31) rfl (l' := #[.val (.ref x0), .val (.int (-1 : Int32)), .val (.int 0), .unset]) rfl (XS.iconst X1.here hx rfl (hb hby d23_32) (XS.istoreN X1.here hx rfl (hb hby d23_33) rfl (l' := #[.val (.ref x0), .val (.int (-1 : Int32)), .val (.int 0), .val (.int 1)]) rfl (XS.iloadN X1.here hx rfl (hb hby d23_34) rfl (XS.ifYes X1.here hx rfl (pc0 := 35) (pc' := 62) rfl (hb hby d23_35) rfl ((if0 _ _).trans (teq ((by decide : (0 : Int32) = (0 : Int32)))).1) (by decide) (by decide) (XS.iloadN X1.here hx rfl (hb hby d23_62) rfl kK)))))))))) ?_
    refine OwnEnd.of (S' := T1.setTop (mkF m 94 #[.val (.ref x0), .val (.int (-1 : Int32)), .val (.int 0), .val (.int 0)] [(.int 0)])) (fun _ kK => XS.iconst X1.here hx rfl (hb hby d23_63) (XS.iadd X1.here hx rfl (hb hby d23_64) rfl (XS.istoreN X1.here hx rfl (hb hby d23_65) rfl (l' := #[.val (.ref x0), .val (.int (-1 : Int32)), .val (.int 0), .val (.int 0)]) rfl (XS.iloadN X1.here hx rfl (hb hby d23_66) rfl (XS.ifYes X1.here hx rfl (pc0 := 67) (pc' := 93) rfl (hb hby d23_67) rfl ((if0 _ _).trans (teq ((by decide : (0 : Int32) = (0 : Int32)))).1) (by decide) (by decide) (XS.iloadN X1.here hx rfl (hb hby d23_93) rfl kK)))))) ?_
    refine OwnEnd.ret X1 (v := (some (.int (nar .boolean (0 : Int32))))) (fun h => by rw [Bd.returns] at h; cases h) hlk (fun fs hr => retN X1 hx (t := .boolean) Bd.returns (by simp) (hb hby d23_94) hr) (by decide) (by decide) (Q := (own_Qint (own_abs [c0, c1, c2, c3, c4])) h0 n0) eh1 ?_
    exact ⟨(by show some (Value.int (nar .boolean (0 : Int32))) = _; rw [own_abs_no hxc.2]; rfl), N1, rfl⟩

theorem own_efdr (m : MethodId) (p0 : Int32) : entryFrame m #[(.int p0)] 1 = mkF m 0 #[.val (.int p0)] [] := by first | (simp [entryFrame, mkF, argsToLocals, Value.category]; done) | rfl
def Qdr (Z : State) (p0 : Int32) (h0 : Heap) (n0 : Nat) (v : Option Value) (h : Heap) (L : List Loc) : Prop := ∃ (c : Int32), v = some (.int c) ∧ Fr n0 L ∧ h = h0 ∧ (¬ c < (0 : Int32) ∧ ¬ (255 : Int32) < c)
set_option maxRecDepth 65536 in
set_option maxHeartbeats 40000000 in
theorem rmdr (l : Launch) (Z : State) (a0 : Array Value) (G : OwnG Z a0) (ws : List Jvm.Cond) (p0 : Int32) (h0 : Heap) (n0 : Nat) (O0 : Old Z n0 h0)  :
    MetFree l own_m25 (head1 (Jvm.Cond.code own_m25 method_3_code 1 (some .char) :: ws) ({ frames := 0, cells := 0, slots := 0, locals := 0 } : Room)) (fun a U => a = #[(.int p0)] ∧ Z.Warmed39 U.vm ∧ U.heap = h0) (fun _ _ _ _ _ => True) (fun _ U o U' => ∃ v L, o = .returned v ∧ Qdr Z p0 h0 n0 v U'.heap L ∧ FrameEnd U o U' L ({ frames := 0, cells := 0, slots := 0, locals := 0 } : Room).cells ({ frames := 0, cells := 0, slots := 0, locals := 0 } : Room).slots) := by
  refine MetFree.of_bodySF (plainFor_of_name pn_3) hisR ?_
  intro p e s m args below meth cD s₁ Bd hml0 hP hK
  obtain ⟨rfl, hZ, hh⟩ := hP
  have hw := G.1
  have hx := Bd.exec
  have hby := Bd.bytes
  have hml : cD.maxLocals = 1 := hml0
  have hown : s.vm.findClass "com/example/vett/vett/model/IrisIsAbsolutePinLaw" = some m.cls := findClass_of_methodNamed Bd.named
  have hnm := (name_of_methodNamed Bd.named Bd.method).1
  have hlk := Bd.notSynchronized
  have X0 : Stand p l e ({ frames := 0, cells := 0, slots := 0, locals := 0 } : Room) s m #[(.int p0)] below meth cD s₁ [] 0 0 := Stand.of_body Bd
  have e0 : s₁.heap = h0 := by rw [← hh, Bd.state]; rfl
  have K0 : Keep h0 h0 [] := Keep.refl h0 _
  have Z0 := own_old_le O0
  have N0 := Fr.nil n0
  refine OwnEnd.start (g' := (mkF m 0 #[.val (.int p0)] [])) (own_efdr m p0) ?_
  refine OwnEnd.of (S' := s₁.setTop (mkF m 5 #[.val (.int p0)] [(.int (p0 &&& (256 : Int32)))])) (fun _ kK => XS.iloadN X0.here hx rfl (hb hby d25_0) rfl (XS.sipush X0.here hx rfl (hb hby d25_1) (XS.iand X0.here hx rfl (hb hby d25_4) rfl kK))) ?_
  rcases Decidable.em ((p0 &&& (256 : Int32)) = (0 : Int32)) with hc1 | hc1
  · refine OwnEnd.of (S' := s₁.setTop (mkF m 17 #[.val (.int p0)] [(.int (nar .char (p0 &&& (255 : Int32))))])) (fun _ kK => XS.ifYes X0.here hx rfl (pc0 := 5) (pc' := 11) rfl (hb hby d25_5) rfl ((if0 _ _).trans (teq (hc1)).1) (by decide) (by decide) (XS.iloadN X0.here hx rfl (hb hby d25_11) rfl (XS.sipush X0.here hx rfl (hb hby d25_12) (XS.iand X0.here hx rfl (hb hby d25_15) rfl (XS.i2c X0.here hx rfl (hb hby d25_16) rfl kK))))) ?_
    refine OwnEnd.ret X0 (v := (some (.int (nar .char (nar .char (p0 &&& (255 : Int32))))))) (fun h => by rw [Bd.returns] at h; cases h) hlk (fun fs hr => retN X0 hx (t := .char) Bd.returns (by simp) (hb hby d25_17) hr) (by decide) (by decide) (Q := Qdr Z p0 h0 n0) e0 ?_
    exact ⟨(nar .char (nar .char (p0 &&& (255 : Int32)))), rfl, N0, rfl, (by rw [own_nar_cc]; exact own_c255 _)⟩
  · refine OwnEnd.of (S' := s₁.setTop (mkF m 10 #[.val (.int p0)] [(.int 58)])) (fun _ kK => XS.ifNo X0.here hx rfl (hb hby d25_5) rfl ((if0 _ _).trans (feq (hc1)).1) (XS.bipush X0.here hx rfl (hb hby d25_8) kK)) ?_
    refine OwnEnd.ret X0 (v := (some (.int (nar .char (58 : Int32))))) (fun h => by rw [Bd.returns] at h; cases h) hlk (fun fs hr => retN X0 hx (t := .char) Bd.returns (by simp) (hb hby d25_10) hr) (by decide) (by decide) (Q := Qdr Z p0 h0 n0) e0 ?_
    exact ⟨(nar .char (58 : Int32)), rfl, N0, rfl, (by decide)⟩

theorem own_eflaw (m : MethodId) (p0 : Int32) (p1 : Int32) (p2 : Int32) (p3 : Int32) (p4 : Int32) (p5 : Int32) : entryFrame m #[(.int p0), (.int p1), (.int p2), (.int p3), (.int p4), (.int p5)] maxLocals = mkF m 0 #[.val (.int p0), .val (.int p1), .val (.int p2), .val (.int p3), .val (.int p4), .val (.int p5), .unset, .unset, .unset, .unset, .unset] [] := by first | (simp [entryFrame, mkF, argsToLocals, Value.category, maxLocals]; done) | rfl
def Qlaw (Z : State) (p0 : Int32) (p1 : Int32) (p2 : Int32) (p3 : Int32) (p4 : Int32) (p5 : Int32) (h0 : Heap) (n0 : Nat) (v : Option Value) (h : Heap) (L : List Loc) : Prop := v = some (.int 1) ∧ Fr n0 L ∧ Keep h0 h []
set_option maxRecDepth 65536 in
set_option maxHeartbeats 40000000 in
theorem rmlaw (l : Launch) (Z : State) (a0 : Array Value) (G : OwnG Z a0) (ws : List Jvm.Cond) (p0 : Int32) (p1 : Int32) (p2 : Int32) (p3 : Int32) (p4 : Int32) (p5 : Int32) (h0 : Heap) (n0 : Nat) (O0 : Old Z n0 h0)  :
    MetFree l x (head1 (Jvm.Cond.code x code maxLocals ret :: ws) room_1) (fun a U => a = #[(.int p0), (.int p1), (.int p2), (.int p3), (.int p4), (.int p5)] ∧ Z.Warmed39 U.vm ∧ U.heap = h0 ∧ CHv Z consts_1 U.vm h0) (fun _ _ _ _ _ => True) (fun _ U o U' => ∃ v L, o = .returned v ∧ Qlaw Z p0 p1 p2 p3 p4 p5 h0 n0 v U'.heap L ∧ ReturnedEndW U o U' L room_1.cells room_1.slots) := by
  refine MetFree.of_bodySF (plainFor_of_name pn_3) hisR ?_
  intro p e s m args below meth cD s₁ Bd hml0 hP hK
  obtain ⟨rfl, hZ, hh, hCH⟩ := hP
  have hw := G.1
  have hx := Bd.exec
  have hby := Bd.bytes
  have hml : cD.maxLocals = 11 := hml0
  have hown : s.vm.findClass "com/example/vett/vett/model/IrisIsAbsolutePinLaw" = some m.cls := findClass_of_methodNamed Bd.named
  have hnm := (name_of_methodNamed Bd.named Bd.method).1
  have hlk := Bd.notSynchronized
  have X0 : Stand p l e room_1 s m #[(.int p0), (.int p1), (.int p2), (.int p3), (.int p4), (.int p5)] below meth cD s₁ [] 0 0 := Stand.of_body Bd
  have e0 : s₁.heap = h0 := by rw [← hh, Bd.state]; rfl
  have K0 : Keep h0 h0 [] := Keep.refl h0 _
  have Z0 := own_old_le O0
  have N0 := Fr.nil n0
  have X0w : Stand p l e room_1 (s.setVm s.vm) m #[(.int p0), (.int p1), (.int p2), (.int p3), (.int p4), (.int p5)] below meth cD s₁ [] 0 0 := X0
  have Si0 : s.Since s.vm (Array.size h0) := (State.WarmedH.refl s).since _
  obtain ⟨zCS, SCS, PCS⟩ := own_cs G
  refine OwnEnd.start (g' := (mkF m 0 #[.val (.int p0), .val (.int p1), .val (.int p2), .val (.int p3), .val (.int p4), .val (.int p5), .unset, .unset, .unset, .unset, .unset] [])) (own_eflaw m p0 p1 p2 p3 p4 p5) ?_
  refine OwnEnd.of (S' := s₁.setTop (mkF m 1 #[.val (.int p0), .val (.int p1), .val (.int p2), .val (.int p3), .val (.int p4), .val (.int p5), .unset, .unset, .unset, .unset, .unset] [(.int p0)])) (fun _ kK => XS.iloadN X0w.here hx rfl (hb hby at_0) rfl kK) ?_
  refine OwnEnd.of (S' := s₁.setTop (mkF m 3 #[.val (.int p0), .val (.int p1), .val (.int p2), .val (.int p3), .val (.int p4), .val (.int p5), .unset, .unset, .unset, .unset, .unset] [(.int 2147483647), (.int p0)])) (fun _ kK => X0w.ldcInt hx hown (mvT hZ (own_w G 0 rfl)) (g := (mkF m 1 #[.val (.int p0), .val (.int p1), .val (.int p2), .val (.int p3), .val (.int p4), .val (.int p5), .unset, .unset, .unset, .unset, .unset] [(.int p0)])) rfl (hb hby at_1) _ kK) ?_
  refine OwnEnd.of (S' := s₁.setTop (mkF m 10 #[.val (.int p0), .val (.int p1), .val (.int p2), .val (.int p3), .val (.int p4), .val (.int p5), .val (.int ((p0 &&& (2147483647 : Int32)) % (6 : Int32))), .unset, .unset, .unset, .unset] [(.int 5)])) (fun _ kK => XS.iand X0w.here hx rfl (hb hby at_3) rfl (XS.bipush X0w.here hx rfl (hb hby at_4) (iremM X0w hx rfl (hb hby at_6) rfl (by decide) (XS.istore X0w.here hx rfl (hb hby at_7) rfl (l' := #[.val (.int p0), .val (.int p1), .val (.int p2), .val (.int p3), .val (.int p4), .val (.int p5), .val (.int ((p0 &&& (2147483647 : Int32)) % (6 : Int32))), .unset, .unset, .unset, .unset]) rfl (XS.iconst X0w.here hx rfl (hb hby at_9) kK))))) ?_
  obtain ⟨T1, h1, k1, X1, e1, E1, A1, st1⟩ := newP X0w hx hZ (own_w G 1 rfl) e0 (g := (mkF m 10 #[.val (.int p0), .val (.int p1), .val (.int p2), .val (.int p3), .val (.int p4), .val (.int p5), .val (.int ((p0 &&& (2147483647 : Int32)) % (6 : Int32))), .unset, .unset, .unset, .unset] [(.int 5)])) rfl (hb hby at_10) rfl (by decide) (cap := 5) (by decide) (by decide) (by decide) (by decide)
  obtain ⟨b1, g1⟩ : ∃ z, z = Array.size h0 := ⟨_, rfl⟩
  rw [← g1] at A1 st1
  have lt_b1 := own_ltN' A1.lt
  have sz2 := E1.1
  have K2 := K0.ext E1
  have O2 := O0.ext E1
  have R2 := CHr.ext E1 hCH
  have CH2 := R2.1
  have V1 : Arv Z h1 b1 k1 .char (5 : Int32) [(.int 0), (.int 0), (.int 0), (.int 0), (.int 0)] (.int 0) := (Arv.new A1 (by decide)).pad (pad_rep [] (.int 0) 5)
  refine OwnEnd.of (S' := T1.setTop (mkF m 12 #[.val (.int p0), .val (.int p1), .val (.int p2), .val (.int p3), .val (.int p4), .val (.int p5), .val (.int ((p0 &&& (2147483647 : Int32)) % (6 : Int32))), .unset, .unset, .unset, .unset] [(.ref b1)])) st1 ?_
  refine OwnEnd.of (S' := T1.setTop (mkF m 18 #[.val (.int p0), .val (.int p1), .val (.int p2), .val (.int p3), .val (.int p4), .val (.int p5), .val (.int ((p0 &&& (2147483647 : Int32)) % (6 : Int32))), .val (.ref b1), .unset, .unset, .unset] [(.int p1), (.int 0), (.ref b1)])) (fun _ kK => XS.astore X1.here hx rfl (hb hby at_12) rfl rfl (l' := #[.val (.int p0), .val (.int p1), .val (.int p2), .val (.int p3), .val (.int p4), .val (.int p5), .val (.int ((p0 &&& (2147483647 : Int32)) % (6 : Int32))), .val (.ref b1), .unset, .unset, .unset]) rfl (XS.aload X1.here hx rfl (hb hby at_14) rfl rfl (XS.iconst X1.here hx rfl (hb hby at_16) (XS.iloadN X1.here hx rfl (hb hby at_17) rfl kK)))) ?_
  obtain ⟨_, _, ⟨T3, L3, k3, n3⟩, -, X3, ⟨Lc3, hQ3, l3, y3, z3⟩, st3⟩ := Jvm.LawKit.callS X1 hx (y := own_m25) hown (mvT hZ (own_w G 2 rfl)) (mvT hZ (own_w G 3 rfl)) (mvT hZ (own_w G 4 rfl)) (mvT hZ (own_w G 5 rfl)) (by decide) (backOf (W := 2) (rmdr l Z a0 G [] p1 h1 n0 O2 ) hZ (own_w G 5 rfl) (own_w G 4 rfl) (by decide) (by decide)) (g := (mkF m 18 #[.val (.int p0), .val (.int p1), .val (.int p2), .val (.int p3), .val (.int p4), .val (.int p5), .val (.int ((p0 &&& (2147483647 : Int32)) % (6 : Int32))), .val (.ref b1), .unset, .unset, .unset] [(.int p1), (.int 0), (.ref b1)])) rfl (by rw [hml]; rfl) (argsL := [(.int p1)]) (rest := [(.int 0), (.ref b1)]) (lenOf pd_15 rfl) rfl (by show 2 * 0 + _ ≤ _; exact Nat.le_of_eq rfl) (hb hby at_18) (fun _ _ => ⟨rfl, e1, (by decide : 1 + 0 ≤ _), (by decide : 5 + 0 ≤ _)⟩)
  dsimp only [Pt.U, Pt.locs, Pt.cells, Pt.slots] at X3 l3 y3 z3 st3 hQ3
  subst l3 y3 z3
  obtain ⟨c_3, rfl, N3q, eh3, r3_0⟩ := hQ3
  have N3 := Fr.app N0 N3q
  refine OwnEnd.of (S' := T3.setTop (mkF m 21 #[.val (.int p0), .val (.int p1), .val (.int p2), .val (.int p3), .val (.int p4), .val (.int p5), .val (.int ((p0 &&& (2147483647 : Int32)) % (6 : Int32))), .val (.ref b1), .unset, .unset, .unset] [(.int c_3), (.int 0), (.ref b1)])) st3 ?_
  obtain ⟨cl4, Ar4, q4, S4, N4', H4, G4⟩ := id V1
  have hin5 : ¬ ((0 : Int32) < 0 ∨ cl4.slots.size ≤ ((0 : Int32)).toNatClampNeg) := inb_of S4 ⟨by decide, by decide⟩
  obtain ⟨T5, h5, X5, e5, W5, st5⟩ := stC X3 hx hZ eh3 Ar4 (j := (0 : Int32)) hin5 (g := (mkF m 21 #[.val (.int p0), .val (.int p1), .val (.int p2), .val (.int p3), .val (.int p4), .val (.int p5), .val (.int ((p0 &&& (2147483647 : Int32)) % (6 : Int32))), .val (.ref b1), .unset, .unset, .unset] [(.int c_3), (.int 0), (.ref b1)])) rfl rfl (hb hby at_21)
  have N5 := Fr.snoc X5 N3 (by omega)
  have sz6 := own_wr_le W5
  have K6 := K2.wr W5 (Or.inr (by omega))
  have O6 := O2.wr W5 (by omega)
  have R6 := CHr.wr W5 (Safe.arv hZ.alike V1 (by decide)) CH2
  have CH6 := R6.1
  have V5 : Arv Z h5 b1 k1 .char (5 : Int32) [(.int (nar .char c_3)), (.int 0), (.int 0), (.int 0), (.int 0)] (.int 0) := Arv.set Ar4 q4 S4 N4' H4 G4 (fits_nar_char _) W5 0 rfl (Nat.le_of_ble_eq_true rfl)
  refine OwnEnd.of (S' := T5.setTop (mkF m 22 #[.val (.int p0), .val (.int p1), .val (.int p2), .val (.int p3), .val (.int p4), .val (.int p5), .val (.int ((p0 &&& (2147483647 : Int32)) % (6 : Int32))), .val (.ref b1), .unset, .unset, .unset] [])) st5 ?_
  refine OwnEnd.of (S' := T5.setTop (mkF m 26 #[.val (.int p0), .val (.int p1), .val (.int p2), .val (.int p3), .val (.int p4), .val (.int p5), .val (.int ((p0 &&& (2147483647 : Int32)) % (6 : Int32))), .val (.ref b1), .unset, .unset, .unset] [(.int p2), (.int 1), (.ref b1)])) (fun _ kK => XS.aload X5.here hx rfl (hb hby at_22) rfl rfl (XS.iconst X5.here hx rfl (hb hby at_24) (XS.iloadN X5.here hx rfl (hb hby at_25) rfl kK))) ?_
  obtain ⟨_, _, ⟨T7, L7, k7, n7⟩, -, X7, ⟨Lc7, hQ7, l7, y7, z7⟩, st7⟩ := Jvm.LawKit.callS X5 hx (y := own_m25) hown (mvT hZ (own_w G 2 rfl)) (mvT hZ (own_w G 3 rfl)) (mvT hZ (own_w G 4 rfl)) (mvT hZ (own_w G 5 rfl)) (by decide) (backOf (W := 2) (rmdr l Z a0 G [] p2 h5 n0 O6 ) hZ (own_w G 5 rfl) (own_w G 4 rfl) (by decide) (by decide)) (g := (mkF m 26 #[.val (.int p0), .val (.int p1), .val (.int p2), .val (.int p3), .val (.int p4), .val (.int p5), .val (.int ((p0 &&& (2147483647 : Int32)) % (6 : Int32))), .val (.ref b1), .unset, .unset, .unset] [(.int p2), (.int 1), (.ref b1)])) rfl (by rw [hml]; rfl) (argsL := [(.int p2)]) (rest := [(.int 1), (.ref b1)]) (lenOf pd_15 rfl) rfl (by show 2 * 0 + _ ≤ _; exact Nat.le_of_eq rfl) (hb hby at_26) (fun _ _ => ⟨rfl, e5, (by decide : 1 + 0 ≤ _), (by decide : 5 + 0 ≤ _)⟩)
  dsimp only [Pt.U, Pt.locs, Pt.cells, Pt.slots] at X7 l7 y7 z7 st7 hQ7
  subst l7 y7 z7
  obtain ⟨c_7, rfl, N7q, eh7, r7_0⟩ := hQ7
  have N7 := Fr.app N5 N7q
  refine OwnEnd.of (S' := T7.setTop (mkF m 29 #[.val (.int p0), .val (.int p1), .val (.int p2), .val (.int p3), .val (.int p4), .val (.int p5), .val (.int ((p0 &&& (2147483647 : Int32)) % (6 : Int32))), .val (.ref b1), .unset, .unset, .unset] [(.int c_7), (.int 1), (.ref b1)])) st7 ?_
  obtain ⟨cl8, Ar8, q8, S8, N8', H8, G8⟩ := id V5
  have hin9 : ¬ ((1 : Int32) < 0 ∨ cl8.slots.size ≤ ((1 : Int32)).toNatClampNeg) := inb_of S8 ⟨by decide, by decide⟩
  obtain ⟨T9, h9, X9, e9, W9, st9⟩ := stC X7 hx hZ eh7 Ar8 (j := (1 : Int32)) hin9 (g := (mkF m 29 #[.val (.int p0), .val (.int p1), .val (.int p2), .val (.int p3), .val (.int p4), .val (.int p5), .val (.int ((p0 &&& (2147483647 : Int32)) % (6 : Int32))), .val (.ref b1), .unset, .unset, .unset] [(.int c_7), (.int 1), (.ref b1)])) rfl rfl (hb hby at_29)
  have N9 := Fr.snoc X9 N7 (by omega)
  have sz10 := own_wr_le W9
  have K10 := K6.wr W9 (Or.inr (by omega))
  have O10 := O6.wr W9 (by omega)
  have R10 := CHr.wr W9 (Safe.arv hZ.alike V5 (by decide)) CH6
  have CH10 := R10.1
  have V9 : Arv Z h9 b1 k1 .char (5 : Int32) [(.int (nar .char c_3)), (.int (nar .char c_7)), (.int 0), (.int 0), (.int 0)] (.int 0) := Arv.set Ar8 q8 S8 N8' H8 G8 (fits_nar_char _) W9 1 rfl (Nat.le_of_ble_eq_true rfl)
  refine OwnEnd.of (S' := T9.setTop (mkF m 30 #[.val (.int p0), .val (.int p1), .val (.int p2), .val (.int p3), .val (.int p4), .val (.int p5), .val (.int ((p0 &&& (2147483647 : Int32)) % (6 : Int32))), .val (.ref b1), .unset, .unset, .unset] [])) st9 ?_
  refine OwnEnd.of (S' := T9.setTop (mkF m 34 #[.val (.int p0), .val (.int p1), .val (.int p2), .val (.int p3), .val (.int p4), .val (.int p5), .val (.int ((p0 &&& (2147483647 : Int32)) % (6 : Int32))), .val (.ref b1), .unset, .unset, .unset] [(.int p3), (.int 2), (.ref b1)])) (fun _ kK => XS.aload X9.here hx rfl (hb hby at_30) rfl rfl (XS.iconst X9.here hx rfl (hb hby at_32) (XS.iloadN X9.here hx rfl (hb hby at_33) rfl kK))) ?_
  obtain ⟨_, _, ⟨T11, L11, k11, n11⟩, -, X11, ⟨Lc11, hQ11, l11, y11, z11⟩, st11⟩ := Jvm.LawKit.callS X9 hx (y := own_m25) hown (mvT hZ (own_w G 2 rfl)) (mvT hZ (own_w G 3 rfl)) (mvT hZ (own_w G 4 rfl)) (mvT hZ (own_w G 5 rfl)) (by decide) (backOf (W := 2) (rmdr l Z a0 G [] p3 h9 n0 O10 ) hZ (own_w G 5 rfl) (own_w G 4 rfl) (by decide) (by decide)) (g := (mkF m 34 #[.val (.int p0), .val (.int p1), .val (.int p2), .val (.int p3), .val (.int p4), .val (.int p5), .val (.int ((p0 &&& (2147483647 : Int32)) % (6 : Int32))), .val (.ref b1), .unset, .unset, .unset] [(.int p3), (.int 2), (.ref b1)])) rfl (by rw [hml]; rfl) (argsL := [(.int p3)]) (rest := [(.int 2), (.ref b1)]) (lenOf pd_15 rfl) rfl (by show 2 * 0 + _ ≤ _; exact Nat.le_of_eq rfl) (hb hby at_34) (fun _ _ => ⟨rfl, e9, (by decide : 1 + 0 ≤ _), (by decide : 5 + 0 ≤ _)⟩)
  dsimp only [Pt.U, Pt.locs, Pt.cells, Pt.slots] at X11 l11 y11 z11 st11 hQ11
  subst l11 y11 z11
  obtain ⟨c_11, rfl, N11q, eh11, r11_0⟩ := hQ11
  have N11 := Fr.app N9 N11q
  refine OwnEnd.of (S' := T11.setTop (mkF m 37 #[.val (.int p0), .val (.int p1), .val (.int p2), .val (.int p3), .val (.int p4), .val (.int p5), .val (.int ((p0 &&& (2147483647 : Int32)) % (6 : Int32))), .val (.ref b1), .unset, .unset, .unset] [(.int c_11), (.int 2), (.ref b1)])) st11 ?_
  obtain ⟨cl12, Ar12, q12, S12, N12', H12, G12⟩ := id V9
  have hin13 : ¬ ((2 : Int32) < 0 ∨ cl12.slots.size ≤ ((2 : Int32)).toNatClampNeg) := inb_of S12 ⟨by decide, by decide⟩
  obtain ⟨T13, h13, X13, e13, W13, st13⟩ := stC X11 hx hZ eh11 Ar12 (j := (2 : Int32)) hin13 (g := (mkF m 37 #[.val (.int p0), .val (.int p1), .val (.int p2), .val (.int p3), .val (.int p4), .val (.int p5), .val (.int ((p0 &&& (2147483647 : Int32)) % (6 : Int32))), .val (.ref b1), .unset, .unset, .unset] [(.int c_11), (.int 2), (.ref b1)])) rfl rfl (hb hby at_37)
  have N13 := Fr.snoc X13 N11 (by omega)
  have sz14 := own_wr_le W13
  have K14 := K10.wr W13 (Or.inr (by omega))
  have O14 := O10.wr W13 (by omega)
  have R14 := CHr.wr W13 (Safe.arv hZ.alike V9 (by decide)) CH10
  have CH14 := R14.1
  have V13 : Arv Z h13 b1 k1 .char (5 : Int32) [(.int (nar .char c_3)), (.int (nar .char c_7)), (.int (nar .char c_11)), (.int 0), (.int 0)] (.int 0) := Arv.set Ar12 q12 S12 N12' H12 G12 (fits_nar_char _) W13 2 rfl (Nat.le_of_ble_eq_true rfl)
  refine OwnEnd.of (S' := T13.setTop (mkF m 38 #[.val (.int p0), .val (.int p1), .val (.int p2), .val (.int p3), .val (.int p4), .val (.int p5), .val (.int ((p0 &&& (2147483647 : Int32)) % (6 : Int32))), .val (.ref b1), .unset, .unset, .unset] [])) st13 ?_
  refine OwnEnd.of (S' := T13.setTop (mkF m 43 #[.val (.int p0), .val (.int p1), .val (.int p2), .val (.int p3), .val (.int p4), .val (.int p5), .val (.int ((p0 &&& (2147483647 : Int32)) % (6 : Int32))), .val (.ref b1), .unset, .unset, .unset] [(.int p4), (.int 3), (.ref b1)])) (fun _ kK => XS.aload X13.here hx rfl (hb hby at_38) rfl rfl (XS.iconst X13.here hx rfl (hb hby at_40) (XS.iload X13.here hx rfl (hb hby at_41) rfl kK))) ?_
  obtain ⟨_, _, ⟨T15, L15, k15, n15⟩, -, X15, ⟨Lc15, hQ15, l15, y15, z15⟩, st15⟩ := Jvm.LawKit.callS X13 hx (y := own_m25) hown (mvT hZ (own_w G 2 rfl)) (mvT hZ (own_w G 3 rfl)) (mvT hZ (own_w G 4 rfl)) (mvT hZ (own_w G 5 rfl)) (by decide) (backOf (W := 2) (rmdr l Z a0 G [] p4 h13 n0 O14 ) hZ (own_w G 5 rfl) (own_w G 4 rfl) (by decide) (by decide)) (g := (mkF m 43 #[.val (.int p0), .val (.int p1), .val (.int p2), .val (.int p3), .val (.int p4), .val (.int p5), .val (.int ((p0 &&& (2147483647 : Int32)) % (6 : Int32))), .val (.ref b1), .unset, .unset, .unset] [(.int p4), (.int 3), (.ref b1)])) rfl (by rw [hml]; rfl) (argsL := [(.int p4)]) (rest := [(.int 3), (.ref b1)]) (lenOf pd_15 rfl) rfl (by show 2 * 0 + _ ≤ _; exact Nat.le_of_eq rfl) (hb hby at_43) (fun _ _ => ⟨rfl, e13, (by decide : 1 + 0 ≤ _), (by decide : 5 + 0 ≤ _)⟩)
  dsimp only [Pt.U, Pt.locs, Pt.cells, Pt.slots] at X15 l15 y15 z15 st15 hQ15
  subst l15 y15 z15
  obtain ⟨c_15, rfl, N15q, eh15, r15_0⟩ := hQ15
  have N15 := Fr.app N13 N15q
  refine OwnEnd.of (S' := T15.setTop (mkF m 46 #[.val (.int p0), .val (.int p1), .val (.int p2), .val (.int p3), .val (.int p4), .val (.int p5), .val (.int ((p0 &&& (2147483647 : Int32)) % (6 : Int32))), .val (.ref b1), .unset, .unset, .unset] [(.int c_15), (.int 3), (.ref b1)])) st15 ?_
  obtain ⟨cl16, Ar16, q16, S16, N16', H16, G16⟩ := id V13
  have hin17 : ¬ ((3 : Int32) < 0 ∨ cl16.slots.size ≤ ((3 : Int32)).toNatClampNeg) := inb_of S16 ⟨by decide, by decide⟩
  obtain ⟨T17, h17, X17, e17, W17, st17⟩ := stC X15 hx hZ eh15 Ar16 (j := (3 : Int32)) hin17 (g := (mkF m 46 #[.val (.int p0), .val (.int p1), .val (.int p2), .val (.int p3), .val (.int p4), .val (.int p5), .val (.int ((p0 &&& (2147483647 : Int32)) % (6 : Int32))), .val (.ref b1), .unset, .unset, .unset] [(.int c_15), (.int 3), (.ref b1)])) rfl rfl (hb hby at_46)
  have N17 := Fr.snoc X17 N15 (by omega)
  have sz18 := own_wr_le W17
  have K18 := K14.wr W17 (Or.inr (by omega))
  have O18 := O14.wr W17 (by omega)
  have R18 := CHr.wr W17 (Safe.arv hZ.alike V13 (by decide)) CH14
  have CH18 := R18.1
  have V17 : Arv Z h17 b1 k1 .char (5 : Int32) [(.int (nar .char c_3)), (.int (nar .char c_7)), (.int (nar .char c_11)), (.int (nar .char c_15)), (.int 0)] (.int 0) := Arv.set Ar16 q16 S16 N16' H16 G16 (fits_nar_char _) W17 3 rfl (Nat.le_of_ble_eq_true rfl)
  refine OwnEnd.of (S' := T17.setTop (mkF m 47 #[.val (.int p0), .val (.int p1), .val (.int p2), .val (.int p3), .val (.int p4), .val (.int p5), .val (.int ((p0 &&& (2147483647 : Int32)) % (6 : Int32))), .val (.ref b1), .unset, .unset, .unset] [])) st17 ?_
  refine OwnEnd.of (S' := T17.setTop (mkF m 52 #[.val (.int p0), .val (.int p1), .val (.int p2), .val (.int p3), .val (.int p4), .val (.int p5), .val (.int ((p0 &&& (2147483647 : Int32)) % (6 : Int32))), .val (.ref b1), .unset, .unset, .unset] [(.int p5), (.int 4), (.ref b1)])) (fun _ kK => XS.aload X17.here hx rfl (hb hby at_47) rfl rfl (XS.iconst X17.here hx rfl (hb hby at_49) (XS.iload X17.here hx rfl (hb hby at_50) rfl kK))) ?_
  obtain ⟨_, _, ⟨T19, L19, k19, n19⟩, -, X19, ⟨Lc19, hQ19, l19, y19, z19⟩, st19⟩ := Jvm.LawKit.callS X17 hx (y := own_m25) hown (mvT hZ (own_w G 2 rfl)) (mvT hZ (own_w G 3 rfl)) (mvT hZ (own_w G 4 rfl)) (mvT hZ (own_w G 5 rfl)) (by decide) (backOf (W := 2) (rmdr l Z a0 G [] p5 h17 n0 O18 ) hZ (own_w G 5 rfl) (own_w G 4 rfl) (by decide) (by decide)) (g := (mkF m 52 #[.val (.int p0), .val (.int p1), .val (.int p2), .val (.int p3), .val (.int p4), .val (.int p5), .val (.int ((p0 &&& (2147483647 : Int32)) % (6 : Int32))), .val (.ref b1), .unset, .unset, .unset] [(.int p5), (.int 4), (.ref b1)])) rfl (by rw [hml]; rfl) (argsL := [(.int p5)]) (rest := [(.int 4), (.ref b1)]) (lenOf pd_15 rfl) rfl (by show 2 * 0 + _ ≤ _; exact Nat.le_of_eq rfl) (hb hby at_52) (fun _ _ => ⟨rfl, e17, (by decide : 1 + 0 ≤ _), (by decide : 5 + 0 ≤ _)⟩)
  dsimp only [Pt.U, Pt.locs, Pt.cells, Pt.slots] at X19 l19 y19 z19 st19 hQ19
  subst l19 y19 z19
  obtain ⟨c_19, rfl, N19q, eh19, r19_0⟩ := hQ19
  have N19 := Fr.app N17 N19q
  refine OwnEnd.of (S' := T19.setTop (mkF m 55 #[.val (.int p0), .val (.int p1), .val (.int p2), .val (.int p3), .val (.int p4), .val (.int p5), .val (.int ((p0 &&& (2147483647 : Int32)) % (6 : Int32))), .val (.ref b1), .unset, .unset, .unset] [(.int c_19), (.int 4), (.ref b1)])) st19 ?_
  obtain ⟨cl20, Ar20, q20, S20, N20', H20, G20⟩ := id V17
  have hin21 : ¬ ((4 : Int32) < 0 ∨ cl20.slots.size ≤ ((4 : Int32)).toNatClampNeg) := inb_of S20 ⟨by decide, by decide⟩
  obtain ⟨T21, h21, X21, e21, W21, st21⟩ := stC X19 hx hZ eh19 Ar20 (j := (4 : Int32)) hin21 (g := (mkF m 55 #[.val (.int p0), .val (.int p1), .val (.int p2), .val (.int p3), .val (.int p4), .val (.int p5), .val (.int ((p0 &&& (2147483647 : Int32)) % (6 : Int32))), .val (.ref b1), .unset, .unset, .unset] [(.int c_19), (.int 4), (.ref b1)])) rfl rfl (hb hby at_55)
  have N21 := Fr.snoc X21 N19 (by omega)
  have sz22 := own_wr_le W21
  have K22 := K18.wr W21 (Or.inr (by omega))
  have O22 := O18.wr W21 (by omega)
  have R22 := CHr.wr W21 (Safe.arv hZ.alike V17 (by decide)) CH18
  have CH22 := R22.1
  have V21 : Arv Z h21 b1 k1 .char (5 : Int32) [(.int (nar .char c_3)), (.int (nar .char c_7)), (.int (nar .char c_11)), (.int (nar .char c_15)), (.int (nar .char c_19))] (.int 0) := Arv.set Ar20 q20 S20 N20' H20 G20 (fits_nar_char _) W21 4 rfl (Nat.le_of_ble_eq_true rfl)
  refine OwnEnd.of (S' := T21.setTop (mkF m 56 #[.val (.int p0), .val (.int p1), .val (.int p2), .val (.int p3), .val (.int p4), .val (.int p5), .val (.int ((p0 &&& (2147483647 : Int32)) % (6 : Int32))), .val (.ref b1), .unset, .unset, .unset] [])) st21 ?_
  have V23 : Arv Z h21 b1 k1 .char (5 : Int32) [(.int c_3), (.int c_7), (.int c_11), (.int c_15), (.int c_19)] (.int 0) := by have q := V21; rw [own_narc r3_0.1 (own_255 r3_0.2), own_narc r7_0.1 (own_255 r7_0.2), own_narc r11_0.1 (own_255 r11_0.2), own_narc r15_0.1 (own_255 r15_0.2), own_narc r19_0.1 (own_255 r19_0.2)] at q; exact q
  rcases own_rem6 p0 with hr | hr | hr | hr | hr | hr
  · rw [hr]
    refine OwnEnd.of (S' := T21.setTop (mkF m 58 #[.val (.int p0), .val (.int p1), .val (.int p2), .val (.int p3), .val (.int p4), .val (.int p5), .val (.int 0), .val (.ref b1), .unset, .unset, .unset] [(.int 0)])) (fun _ kK => XS.iload X21.here hx rfl (hb hby at_56) rfl kK) ?_
    obtain ⟨T24, h24, k24, X24, e24, E24, A24, st24⟩ := newP X21 hx hZ (own_w G 1 rfl) e21 (g := (mkF m 58 #[.val (.int p0), .val (.int p1), .val (.int p2), .val (.int p3), .val (.int p4), .val (.int p5), .val (.int 0), .val (.ref b1), .unset, .unset, .unset] [(.int 0)])) rfl (hb hby at_58) rfl (by decide) (cap := 0) (by decide) (by decide) (by decide) (by decide)
    obtain ⟨b24, g24⟩ : ∃ z, z = Array.size h21 := ⟨_, rfl⟩
    rw [← g24] at A24 st24
    have lt_b24 := own_ltN' A24.lt
    have sz25 := E24.1
    have K25 := K22.ext E24
    have O25 := O22.ext E24
    have R25 := CHr.ext E24 CH22
    have CH25 := R25.1
    have V24 : Arv Z h24 b24 k24 .char (0 : Int32) [] (.int 0) := (Arv.new A24 (by decide)).pad (pad_rep [] (.int 0) 0)
    refine OwnEnd.of (S' := T24.setTop (mkF m 60 #[.val (.int p0), .val (.int p1), .val (.int p2), .val (.int p3), .val (.int p4), .val (.int p5), .val (.int 0), .val (.ref b1), .unset, .unset, .unset] [(.ref b24)])) st24 ?_
    refine OwnEnd.of (S' := T24.setTop (mkF m 105 #[.val (.int p0), .val (.int p1), .val (.int p2), .val (.int p3), .val (.int p4), .val (.int p5), .val (.int 0), .val (.ref b1), .val (.ref b24), .unset, .unset] [(.int 0)])) (fun _ kK => XS.astore X24.here hx rfl (hb hby at_60) rfl rfl (l' := #[.val (.int p0), .val (.int p1), .val (.int p2), .val (.int p3), .val (.int p4), .val (.int p5), .val (.int 0), .val (.ref b1), .val (.ref b24), .unset, .unset]) rfl (XS.iload X24.here hx rfl (hb hby at_62) rfl (XS.ifYes X24.here hx rfl (pc0 := 64) (pc' := 75) rfl (hb hby at_64) rfl ((if0 _ _).trans (flt ((by decide : ¬ ((0 : Int32) < (0 : Int32))))).2.2.2) (by decide) (by decide) (XS.iload X24.here hx rfl (hb hby at_75) rfl (XS.iconst X24.here hx rfl (hb hby at_77) (XS.icmpYes X24.here hx rfl (pc0 := 78) (pc' := 89) rfl (hb hby at_78) rfl (flt ((by decide : ¬ ((1 : Int32) < (0 : Int32))))).2.2.2 (by decide) (by decide) (XS.iload X24.here hx rfl (hb hby at_89) rfl (XS.iconst X24.here hx rfl (hb hby at_91) (XS.icmpYes X24.here hx rfl (pc0 := 92) (pc' := 103) rfl (hb hby at_92) rfl (flt ((by decide : ¬ ((2 : Int32) < (0 : Int32))))).2.2.2 (by decide) (by decide) (XS.iload X24.here hx rfl (hb hby at_103) rfl kK)))))))))) ?_
    refine OwnEnd.of (S' := T24.setTop (mkF m 131 #[.val (.int p0), .val (.int p1), .val (.int p2), .val (.int p3), .val (.int p4), .val (.int p5), .val (.int 0), .val (.ref b1), .val (.ref b24), .unset, .unset] [])) (fun _ kK => XS.iconst X24.here hx rfl (hb hby at_105) (XS.icmpYes X24.here hx rfl (pc0 := 106) (pc' := 117) rfl (hb hby at_106) rfl (flt ((by decide : ¬ ((3 : Int32) < (0 : Int32))))).2.2.2 (by decide) (by decide) (XS.iload X24.here hx rfl (hb hby at_117) rfl (XS.iconst X24.here hx rfl (hb hby at_119) (XS.icmpYes X24.here hx rfl (pc0 := 120) (pc' := 131) rfl (hb hby at_120) rfl (flt ((by decide : ¬ ((4 : Int32) < (0 : Int32))))).2.2.2 (by decide) (by decide) kK))))) ?_
    obtain ⟨T26, h26, X26, e26, E26, A26, D26, -, st26⟩ := newO X24 hx hZ hown (own_w G 6 rfl) (own_w G 7 rfl) (own_w G 8 rfl) e24 (g := (mkF m 131 #[.val (.int p0), .val (.int p1), .val (.int p2), .val (.int p3), .val (.int p4), .val (.int p5), .val (.int 0), .val (.ref b1), .val (.ref b24), .unset, .unset] [])) rfl (hb hby at_131) (by decide) (by decide)
    obtain ⟨b26, g26⟩ : ∃ z, z = Array.size h24 := ⟨_, rfl⟩
    rw [← g26] at A26 D26 st26
    have lt_b26 := own_ltN' A26.lt
    have sz27 := E26.1
    have K27 := K25.ext E26
    have O27 := O25.ext E26
    have R27 := CHr.ext E26 CH25
    have CH27 := R27.1
    have Sf26 : Safe Z consts_1 s.vm h26 b26 := Safe.ext E26 CH25 (Safe.new (by omega))
    have F26_value : Fld Z h26 b26 "java/lang/String" "value" "[B" .null := D26 (Or.inr (own_w G 21 rfl)) (ty := (.array .byte)) (by decide)
    have F26_coder : Fld Z h26 b26 "java/lang/String" "coder" "B" (.int 0) := D26 (Or.inr (own_w G 22 rfl)) (ty := .byte) (by decide)
    refine OwnEnd.of (S' := T26.setTop (mkF m 134 #[.val (.int p0), .val (.int p1), .val (.int p2), .val (.int p3), .val (.int p4), .val (.int p5), .val (.int 0), .val (.ref b1), .val (.ref b24), .unset, .unset] [(.ref b26)])) st26 ?_
    refine OwnEnd.of (S' := T26.setTop (mkF m 137 #[.val (.int p0), .val (.int p1), .val (.int p2), .val (.int p3), .val (.int p4), .val (.int p5), .val (.int 0), .val (.ref b1), .val (.ref b24), .unset, .unset] [(.ref b24), (.ref b26), (.ref b26)])) (fun _ kK => XS.dup X26.here hx rfl (hb hby at_134) rfl rfl (XS.aload X26.here hx rfl (hb hby at_135) rfl rfl kK)) ?_
    have f28 : Arv Z h26 b24 k24 .char (0 : Int32) [] (.int 0) := (V24.ext E26)
    obtain ⟨_, _, ⟨T29, L29, k29, n29⟩, -, X29', Si29, gr29, ⟨Lc29, hQ29, l29, y29, z29, CH29⟩, st29⟩ := Jvm.Stand.specialBackS X26 hx (y := own_m1) rfl hown (mvT hZ (own_w G 9 rfl)) (mvT hZ (own_w G 10 rfl)) (mvT hZ (own_w G 11 rfl)) (by decide) (backOfSH (W := 1) (rmn1e l Z a0 G [] b26 b24 (.int 0) k24 [] (.int 0) h26 n0 O27 A26 F26_value F26_coder f28 (by omega)) hZ (own_w G 11 rfl) (own_w G 8 rfl) (by decide) (by decide) (own_EW G) CH27) (g := (mkF m 137 #[.val (.int p0), .val (.int p1), .val (.int p2), .val (.int p3), .val (.int p4), .val (.int p5), .val (.int 0), .val (.ref b1), .val (.ref b24), .unset, .unset] [(.ref b24), (.ref b26), (.ref b26)])) rfl (by rw [hml]; rfl) (Steps.refl _) (a := b26) (argsL := [(.ref b24)]) (rest := [(.ref b26)]) (lenOf pd_16 rfl) rfl (by show 2 * 0 + _ ≤ _; exact Nat.le_of_eq rfl) (hb hby at_137) (fun _ _ => ⟨rfl, e26, (by decide : 3 + 2 ≤ _), (by decide : 9 + 4 ≤ _)⟩)
    dsimp only [Pt.U, Pt.locs, Pt.cells, Pt.slots] at X29' l29 y29 z29 st29 hQ29 CH29 Si29 gr29
    subst l29 y29 z29
    obtain ⟨X29, Sj29, hZ29, hown29⟩ := rebS (n1 := Array.size h26) Si0 (by omega) X29' Si29 (by rw [e26] at gr29; omega) hZ hown
    obtain ⟨t_29, kb_29, rfl, N29q, Kq29, r29_0, r29_1, r29_2, r29_3⟩ := hQ29
    have N29 := Fr.app N21 N29q
    have sz30 := Kq29.1
    have K30 := K27.trans Kq29 (own_all1 (Or.inr (by omega)))
    have O30 := O27.keep Kq29 (own_all1 (by omega))
    have ltr29_0 := own_ltN' r29_0.lt
    have ltr29_1 := own_ltN' r29_1.lt
    have ltr29_2 := own_ltN' r29_2.lt
    have ltr29_3 := own_ltN' r29_3.lt
    refine OwnEnd.tr (S' := T29.setTop (mkF m 140 #[.val (.int p0), .val (.int p1), .val (.int p2), .val (.int p3), .val (.int p4), .val (.int p5), .val (.int 0), .val (.ref b1), .val (.ref b24), .unset, .unset] [(.ref b26)])) st29 ?_
    refine OwnEnd.of (S' := T29.setTop (mkF m 146 #[.val (.int p0), .val (.int p1), .val (.int p2), .val (.int p3), .val (.int p4), .val (.int p5), .val (.int 0), .val (.ref b1), .val (.ref b24), .val (.ref b26), .unset] [(.int 0), (.ref b1)])) (fun _ kK => XS.astore X29.here hx rfl (hb hby at_140) rfl rfl (l' := #[.val (.int p0), .val (.int p1), .val (.int p2), .val (.int p3), .val (.int p4), .val (.int p5), .val (.int 0), .val (.ref b1), .val (.ref b24), .val (.ref b26), .unset]) rfl (XS.aload X29.here hx rfl (hb hby at_142) rfl rfl (XS.iload X29.here hx rfl (hb hby at_144) rfl kK))) ?_
    have f31 : Arv Z T29.heap b1 k1 .char (5 : Int32) [(.int c_3), (.int c_7), (.int c_11), (.int c_15), (.int c_19)] (.int 0) := (((V23.ext E24).ext E26).keep Kq29 (own_nin1 (own_ne (by omega))))
    obtain ⟨_, _, ⟨T32, L32, k32, n32⟩, -, X32, ⟨Lc32, hQ32, l32, y32, z32⟩, st32⟩ := Jvm.LawKit.callS X29 hx (y := own_m14) hown29 (mvT hZ29 (own_w G 27 rfl)) (mvT hZ29 (own_w G 28 rfl)) (mvT hZ29 (own_w G 4 rfl)) (mvT hZ29 (own_w G 29 rfl)) (by decide) (backOf (W := 0) (rmrf l Z a0 G [] b1 k1 (.int 0) c_3 c_7 c_11 c_15 c_19 (0 : Int32) (own_ix (0 : Int32) []) T29.heap n0 O30 f31 (Or.inl ⟨rfl, rfl⟩)) hZ29 (own_w G 29 rfl) (own_w G 4 rfl) (by decide) (by decide)) (g := (mkF m 146 #[.val (.int p0), .val (.int p1), .val (.int p2), .val (.int p3), .val (.int p4), .val (.int p5), .val (.int 0), .val (.ref b1), .val (.ref b24), .val (.ref b26), .unset] [(.int 0), (.ref b1)])) rfl (by rw [hml]; rfl) (argsL := [(.ref b1), (.int 0)]) (rest := []) (lenOf pd_17 rfl) rfl (by show 2 * 0 + _ ≤ _; exact Nat.le_of_eq rfl) (hb hby at_146) (fun _ _ => ⟨rfl, rfl, (by decide : 5 + 0 ≤ _), (by decide : 13 + 0 ≤ _)⟩)
    dsimp only [Pt.U, Pt.locs, Pt.cells, Pt.slots] at X32 l32 y32 z32 st32 hQ32
    subst l32 y32 z32
    obtain ⟨rfl, N32q, eh32⟩ := hQ32
    have N32 := Fr.app N29 N32q
    refine OwnEnd.of (S' := T32.setTop (mkF m 149 #[.val (.int p0), .val (.int p1), .val (.int p2), .val (.int p3), .val (.int p4), .val (.int p5), .val (.int 0), .val (.ref b1), .val (.ref b24), .val (.ref b26), .unset] [(.int (own_rfv (0 : Int32) (own_ix (0 : Int32) []) c_3 c_7 c_11 c_15 c_19))])) st32 ?_
    rw [own_rfa0 c_3 c_7 c_11 c_15 c_19]
    refine OwnEnd.of (S' := T32.setTop (mkF m 153 #[.val (.int p0), .val (.int p1), .val (.int p2), .val (.int p3), .val (.int p4), .val (.int p5), .val (.int 0), .val (.ref b1), .val (.ref b24), .val (.ref b26), .val (.int (own_abs []))] [(.ref b26)])) (fun _ kK => XS.istore X32.here hx rfl (hb hby at_149) rfl (l' := #[.val (.int p0), .val (.int p1), .val (.int p2), .val (.int p3), .val (.int p4), .val (.int p5), .val (.int 0), .val (.ref b1), .val (.ref b24), .val (.ref b26), .val (.int (own_abs []))]) rfl (XS.aload X32.here hx rfl (hb hby at_151) rfl rfl kK)) ?_
    obtain ⟨_, _, ⟨T33, L33, k33, n33⟩, -, X33, ⟨Lc33, hQ33, l33, y33, z33⟩, st33⟩ := Jvm.LawKit.callS X32 hx (y := own_m23) hown29 (mvT hZ29 (own_w G 33 rfl)) (mvT hZ29 (own_w G 34 rfl)) (mvT hZ29 (own_w G 35 rfl)) (mvT hZ29 (own_w G 36 rfl)) (by decide) (backOf (W := 0) (rmia0 l Z a0 G [] b26 t_29 kb_29 T29.heap n0 O30 r29_0 r29_1 r29_2 r29_3) hZ29 (own_w G 36 rfl) (own_w G 35 rfl) (by decide) (by decide)) (g := (mkF m 153 #[.val (.int p0), .val (.int p1), .val (.int p2), .val (.int p3), .val (.int p4), .val (.int p5), .val (.int 0), .val (.ref b1), .val (.ref b24), .val (.ref b26), .val (.int (own_abs []))] [(.ref b26)])) rfl (by rw [hml]; rfl) (argsL := [(.ref b26)]) (rest := []) (lenOf pd_18 rfl) rfl (by show 2 * 0 + _ ≤ _; exact Nat.le_of_eq rfl) (hb hby at_153) (fun _ _ => ⟨rfl, eh32, (by decide : 5 + 0 ≤ _), (by decide : 13 + 0 ≤ _)⟩)
    dsimp only [Pt.U, Pt.locs, Pt.cells, Pt.slots] at X33 l33 y33 z33 st33 hQ33
    subst l33 y33 z33
    obtain ⟨rfl, N33q, eh33⟩ := hQ33
    have N33 := Fr.app N32 N33q
    refine OwnEnd.of (S' := T33.setTop (mkF m 156 #[.val (.int p0), .val (.int p1), .val (.int p2), .val (.int p3), .val (.int p4), .val (.int p5), .val (.int 0), .val (.ref b1), .val (.ref b24), .val (.ref b26), .val (.int (own_abs []))] [(.int (own_abs []))])) st33 ?_
    refine OwnEnd.of (S' := T33.setTop (mkF m 166 #[.val (.int p0), .val (.int p1), .val (.int p2), .val (.int p3), .val (.int p4), .val (.int p5), .val (.int 0), .val (.ref b1), .val (.ref b24), .val (.ref b26), .val (.int (own_abs []))] [(.int 1)])) (fun _ kK => XS.iload X33.here hx rfl (hb hby at_156) rfl (XS.icmpNo X33.here hx rfl (hb hby at_158) rfl (teq (rfl)).2 (XS.iconst X33.here hx rfl (hb hby at_161) (XS.goto X33.here hx rfl (pc0 := 162) (pc' := 166) rfl (hb hby at_162) (by decide) (by decide) kK)))) ?_
    refine OwnEnd.retW X33 Sj29 (by omega) (v := (some (.int (nar .boolean (1 : Int32))))) (fun h => by rw [Bd.returns] at h; cases h) hlk (fun fs hr => retN X33 hx (t := .boolean) Bd.returns (by simp) (hb hby at_166) hr) (by decide) (by decide) (Q := Qlaw Z p0 p1 p2 p3 p4 p5 h0 n0) eh33 ?_
    exact ⟨rfl, N33, K30⟩
  · rw [hr]
    refine OwnEnd.of (S' := T21.setTop (mkF m 58 #[.val (.int p0), .val (.int p1), .val (.int p2), .val (.int p3), .val (.int p4), .val (.int p5), .val (.int 1), .val (.ref b1), .unset, .unset, .unset] [(.int 1)])) (fun _ kK => XS.iload X21.here hx rfl (hb hby at_56) rfl kK) ?_
    obtain ⟨T34, h34, k34, X34, e34, E34, A34, st34⟩ := newP X21 hx hZ (own_w G 1 rfl) e21 (g := (mkF m 58 #[.val (.int p0), .val (.int p1), .val (.int p2), .val (.int p3), .val (.int p4), .val (.int p5), .val (.int 1), .val (.ref b1), .unset, .unset, .unset] [(.int 1)])) rfl (hb hby at_58) rfl (by decide) (cap := 1) (by decide) (by decide) (by decide) (by decide)
    obtain ⟨b34, g34⟩ : ∃ z, z = Array.size h21 := ⟨_, rfl⟩
    rw [← g34] at A34 st34
    have lt_b34 := own_ltN' A34.lt
    have sz35 := E34.1
    have K35 := K22.ext E34
    have O35 := O22.ext E34
    have R35 := CHr.ext E34 CH22
    have CH35 := R35.1
    have V34 : Arv Z h34 b34 k34 .char (1 : Int32) [(.int 0)] (.int 0) := (Arv.new A34 (by decide)).pad (pad_rep [] (.int 0) 1)
    refine OwnEnd.of (S' := T34.setTop (mkF m 60 #[.val (.int p0), .val (.int p1), .val (.int p2), .val (.int p3), .val (.int p4), .val (.int p5), .val (.int 1), .val (.ref b1), .unset, .unset, .unset] [(.ref b34)])) st34 ?_
    refine OwnEnd.of (S' := T34.setTop (mkF m 73 #[.val (.int p0), .val (.int p1), .val (.int p2), .val (.int p3), .val (.int p4), .val (.int p5), .val (.int 1), .val (.ref b1), .val (.ref b34), .unset, .unset] [(.int 0), (.ref b1), (.int 0), (.ref b34)])) (fun _ kK => XS.astore X34.here hx rfl (hb hby at_60) rfl rfl (l' := #[.val (.int p0), .val (.int p1), .val (.int p2), .val (.int p3), .val (.int p4), .val (.int p5), .val (.int 1), .val (.ref b1), .val (.ref b34), .unset, .unset]) rfl (XS.iload X34.here hx rfl (hb hby at_62) rfl (XS.ifNo X34.here hx rfl (hb hby at_64) rfl ((if0 _ _).trans (tlt ((by decide : (0 : Int32) < (1 : Int32)))).2.2.2) (XS.aload X34.here hx rfl (hb hby at_67) rfl rfl (XS.iconst X34.here hx rfl (hb hby at_69) (XS.aload X34.here hx rfl (hb hby at_70) rfl rfl (XS.iconst X34.here hx rfl (hb hby at_72) kK))))))) ?_
    have f36 : Arv Z h34 b1 k1 .char (5 : Int32) [(.int c_3), (.int c_7), (.int c_11), (.int c_15), (.int c_19)] (.int 0) := (V23.ext E34)
    obtain ⟨cl37, Ar37, q37, S37, N37', H37, G37⟩ := id f36
    have hin38 : ¬ ((0 : Int32) < 0 ∨ cl37.slots.size ≤ ((0 : Int32)).toNatClampNeg) := inb_of S37 ⟨by decide, by decide⟩
    refine OwnEnd.of (S' := T34.setTop (mkF m 74 #[.val (.int p0), .val (.int p1), .val (.int p2), .val (.int p3), .val (.int p4), .val (.int p5), .val (.int 1), .val (.ref b1), .val (.ref b34), .unset, .unset] [(.int c_3), (.int 0), (.ref b34)])) (fun _ kK => X34.caload hx (j := (0 : Int32)) (v := (.int c_3)) (by rw [e34]; exact Ar37.1) (State.isArrayOf_alike hZ.alike Ar37.2.1) Ar37.2.2 hin38 (Has.at H37 hin38 (rfl)) (g := (mkF m 73 #[.val (.int p0), .val (.int p1), .val (.int p2), .val (.int p3), .val (.int p4), .val (.int p5), .val (.int 1), .val (.ref b1), .val (.ref b34), .unset, .unset] [(.int 0), (.ref b1), (.int 0), (.ref b34)])) rfl rfl (hb hby at_73) _ kK) ?_
    obtain ⟨cl39, Ar39, q39, S39, N39', H39, G39⟩ := id V34
    have hin40 : ¬ ((0 : Int32) < 0 ∨ cl39.slots.size ≤ ((0 : Int32)).toNatClampNeg) := inb_of S39 ⟨by decide, by decide⟩
    obtain ⟨T40, h40, X40, e40, W40, st40⟩ := stC X34 hx hZ e34 Ar39 (j := (0 : Int32)) hin40 (g := (mkF m 74 #[.val (.int p0), .val (.int p1), .val (.int p2), .val (.int p3), .val (.int p4), .val (.int p5), .val (.int 1), .val (.ref b1), .val (.ref b34), .unset, .unset] [(.int c_3), (.int 0), (.ref b34)])) rfl rfl (hb hby at_74)
    have N40 := Fr.snoc X40 N21 (by omega)
    have sz41 := own_wr_le W40
    have K41 := K35.wr W40 (Or.inr (by omega))
    have O41 := O35.wr W40 (by omega)
    have R41 := CHr.wr W40 (Safe.arv hZ.alike V34 (by decide)) CH35
    have CH41 := R41.1
    have V40 : Arv Z h40 b34 k34 .char (1 : Int32) [(.int (nar .char c_3))] (.int 0) := Arv.set Ar39 q39 S39 N39' H39 G39 (fits_nar_char _) W40 0 rfl (Nat.le_of_ble_eq_true rfl)
    refine OwnEnd.of (S' := T40.setTop (mkF m 75 #[.val (.int p0), .val (.int p1), .val (.int p2), .val (.int p3), .val (.int p4), .val (.int p5), .val (.int 1), .val (.ref b1), .val (.ref b34), .unset, .unset] [])) st40 ?_
    refine OwnEnd.of (S' := T40.setTop (mkF m 119 #[.val (.int p0), .val (.int p1), .val (.int p2), .val (.int p3), .val (.int p4), .val (.int p5), .val (.int 1), .val (.ref b1), .val (.ref b34), .unset, .unset] [(.int 1)])) (fun _ kK => XS.iload X40.here hx rfl (hb hby at_75) rfl (XS.iconst X40.here hx rfl (hb hby at_77) (XS.icmpYes X40.here hx rfl (pc0 := 78) (pc' := 89) rfl (hb hby at_78) rfl (flt ((by decide : ¬ ((1 : Int32) < (1 : Int32))))).2.2.2 (by decide) (by decide) (XS.iload X40.here hx rfl (hb hby at_89) rfl (XS.iconst X40.here hx rfl (hb hby at_91) (XS.icmpYes X40.here hx rfl (pc0 := 92) (pc' := 103) rfl (hb hby at_92) rfl (flt ((by decide : ¬ ((2 : Int32) < (1 : Int32))))).2.2.2 (by decide) (by decide) (XS.iload X40.here hx rfl (hb hby at_103) rfl (XS.iconst X40.here hx rfl (hb hby at_105) (XS.icmpYes X40.here hx rfl (pc0 := 106) (pc' := 117) rfl (hb hby at_106) rfl (flt ((by decide : ¬ ((3 : Int32) < (1 : Int32))))).2.2.2 (by decide) (by decide) (XS.iload X40.here hx rfl (hb hby at_117) rfl kK)))))))))) ?_
    refine OwnEnd.of (S' := T40.setTop (mkF m 131 #[.val (.int p0), .val (.int p1), .val (.int p2), .val (.int p3), .val (.int p4), .val (.int p5), .val (.int 1), .val (.ref b1), .val (.ref b34), .unset, .unset] [])) (fun _ kK => XS.iconst X40.here hx rfl (hb hby at_119) (XS.icmpYes X40.here hx rfl (pc0 := 120) (pc' := 131) rfl (hb hby at_120) rfl (flt ((by decide : ¬ ((4 : Int32) < (1 : Int32))))).2.2.2 (by decide) (by decide) kK)) ?_
    obtain ⟨T42, h42, X42, e42, E42, A42, D42, -, st42⟩ := newO X40 hx hZ hown (own_w G 6 rfl) (own_w G 7 rfl) (own_w G 8 rfl) e40 (g := (mkF m 131 #[.val (.int p0), .val (.int p1), .val (.int p2), .val (.int p3), .val (.int p4), .val (.int p5), .val (.int 1), .val (.ref b1), .val (.ref b34), .unset, .unset] [])) rfl (hb hby at_131) (by decide) (by decide)
    obtain ⟨b42, g42⟩ : ∃ z, z = Array.size h40 := ⟨_, rfl⟩
    rw [← g42] at A42 D42 st42
    have lt_b42 := own_ltN' A42.lt
    have sz43 := E42.1
    have K43 := K41.ext E42
    have O43 := O41.ext E42
    have R43 := CHr.ext E42 CH41
    have CH43 := R43.1
    have Sf42 : Safe Z consts_1 s.vm h42 b42 := Safe.ext E42 CH41 (Safe.new (by omega))
    have F42_value : Fld Z h42 b42 "java/lang/String" "value" "[B" .null := D42 (Or.inr (own_w G 21 rfl)) (ty := (.array .byte)) (by decide)
    have F42_coder : Fld Z h42 b42 "java/lang/String" "coder" "B" (.int 0) := D42 (Or.inr (own_w G 22 rfl)) (ty := .byte) (by decide)
    refine OwnEnd.of (S' := T42.setTop (mkF m 134 #[.val (.int p0), .val (.int p1), .val (.int p2), .val (.int p3), .val (.int p4), .val (.int p5), .val (.int 1), .val (.ref b1), .val (.ref b34), .unset, .unset] [(.ref b42)])) st42 ?_
    refine OwnEnd.of (S' := T42.setTop (mkF m 137 #[.val (.int p0), .val (.int p1), .val (.int p2), .val (.int p3), .val (.int p4), .val (.int p5), .val (.int 1), .val (.ref b1), .val (.ref b34), .unset, .unset] [(.ref b34), (.ref b42), (.ref b42)])) (fun _ kK => XS.dup X42.here hx rfl (hb hby at_134) rfl rfl (XS.aload X42.here hx rfl (hb hby at_135) rfl rfl kK)) ?_
    have f44 : Arv Z h42 b34 k34 .char (1 : Int32) [(.int (nar .char c_3))] (.int 0) := (V40.ext E42)
    have V45 : Arv Z h42 b34 k34 .char (1 : Int32) [(.int c_3)] (.int 0) := by have q := f44; rw [own_narc r3_0.1 (own_255 r3_0.2)] at q; exact q
    have hlat : ∀ c ∈ ([c_3] : List Int32), ¬ c < (0 : Int32) ∧ ¬ (255 : Int32) < c := own_all_1 r3_0
    have hws : ∀ d ∈ StrChars.Road.words, d.before a0 Z = true := fun d hd => hw d (own_words d hd)
    have hp46 : ∀ c ∈ ([c_3] : List Int32), ¬ c < 0 ∧ ¬ (255 : Int32) < c := hlat
    obtain ⟨_, _, ⟨T47, L47, k47, n47⟩, -, X47, ⟨Lc47, hQ47, l47, y47, z47⟩, st47⟩ := Jvm.Stand.specialBack X42 hx (y := own_m1) rfl hown (mvT hZ (own_w G 9 rfl)) (mvT hZ (own_w G 10 rfl)) (mvT hZ (own_w G 11 rfl)) (by decide) (StrChars.Road.backV (W := 1) hZ hws (kI := 4) (own_w G 7 rfl) (cs := [c_3]) (bs := ([c_3] : List Int32).map (fun c => c.toInt8.toInt32)) (n := 1) (n0 := n0) (by omega) (by omega) A42 F42_value F42_coder V45 (SCS.ext O43.2) PCS rfl rfl (by decide) (by decide) hp46 rfl (by decide) (by decide)) (g := (mkF m 137 #[.val (.int p0), .val (.int p1), .val (.int p2), .val (.int p3), .val (.int p4), .val (.int p5), .val (.int 1), .val (.ref b1), .val (.ref b34), .unset, .unset] [(.ref b34), (.ref b42), (.ref b42)])) rfl (by rw [hml]; rfl) (Steps.refl _) (a := b42) (argsL := [(.ref b34)]) (rest := [(.ref b42)]) (lenOf pd_16 rfl) rfl (by show 2 * 0 + _ ≤ _; exact Nat.le_of_eq rfl) (hb hby at_137) (fun _ _ => ⟨rfl, e42, (by decide : 3 + 1 ≤ _), (by decide : 10 + 1 ≤ _)⟩)
    dsimp only [Pt.U, Pt.locs, Pt.cells, Pt.slots] at X47 l47 y47 z47 st47 hQ47
    subst l47 y47 z47
    obtain ⟨rfl, N47q, Kq47, r47E, r47C, t47, kb47, u47, w47, x47, r47V, r47A⟩ := hQ47
    have N47 := Fr.app N40 N47q
    have sz48 := Kq47.1
    have K48 := K43.trans Kq47 (own_all1 (Or.inr (by omega)))
    have O48 := O43.keep Kq47 (own_all1 (by omega))
    have R48 := CHr.keep Kq47 (sfS Sf42 sf0) CH43
    have CH48 := R48.1
    have lt_t47 := own_ltN' r47A.lt
    refine OwnEnd.tr (S' := T47.setTop (mkF m 140 #[.val (.int p0), .val (.int p1), .val (.int p2), .val (.int p3), .val (.int p4), .val (.int p5), .val (.int 1), .val (.ref b1), .val (.ref b34), .unset, .unset] [(.ref b42)])) st47 ?_
    refine OwnEnd.of (S' := T47.setTop (mkF m 146 #[.val (.int p0), .val (.int p1), .val (.int p2), .val (.int p3), .val (.int p4), .val (.int p5), .val (.int 1), .val (.ref b1), .val (.ref b34), .val (.ref b42), .unset] [(.int 1), (.ref b1)])) (fun _ kK => XS.astore X47.here hx rfl (hb hby at_140) rfl rfl (l' := #[.val (.int p0), .val (.int p1), .val (.int p2), .val (.int p3), .val (.int p4), .val (.int p5), .val (.int 1), .val (.ref b1), .val (.ref b34), .val (.ref b42), .unset]) rfl (XS.aload X47.here hx rfl (hb hby at_142) rfl rfl (XS.iload X47.here hx rfl (hb hby at_144) rfl kK))) ?_
    have f49 : Arv Z T47.heap b1 k1 .char (5 : Int32) [(.int c_3), (.int c_7), (.int c_11), (.int c_15), (.int c_19)] (.int 0) := (((f36.other W40 (own_ne (by omega))).ext E42).keep Kq47 (own_nin1 (own_ne (by omega))))
    obtain ⟨_, _, ⟨T50, L50, k50, n50⟩, -, X50, ⟨Lc50, hQ50, l50, y50, z50⟩, st50⟩ := Jvm.LawKit.callS X47 hx (y := own_m14) hown (mvT hZ (own_w G 27 rfl)) (mvT hZ (own_w G 28 rfl)) (mvT hZ (own_w G 4 rfl)) (mvT hZ (own_w G 29 rfl)) (by decide) (backOf (W := 0) (rmrf l Z a0 G [] b1 k1 (.int 0) c_3 c_7 c_11 c_15 c_19 (1 : Int32) (own_ix (0 : Int32) [c_3]) T47.heap n0 O48 f49 (Or.inr (Or.inl ⟨rfl, rfl⟩))) hZ (own_w G 29 rfl) (own_w G 4 rfl) (by decide) (by decide)) (g := (mkF m 146 #[.val (.int p0), .val (.int p1), .val (.int p2), .val (.int p3), .val (.int p4), .val (.int p5), .val (.int 1), .val (.ref b1), .val (.ref b34), .val (.ref b42), .unset] [(.int 1), (.ref b1)])) rfl (by rw [hml]; rfl) (argsL := [(.ref b1), (.int 1)]) (rest := []) (lenOf pd_17 rfl) rfl (by show 2 * 0 + _ ≤ _; exact Nat.le_of_eq rfl) (hb hby at_146) (fun _ _ => ⟨rfl, rfl, (by decide : 4 + 0 ≤ _), (by decide : 11 + 0 ≤ _)⟩)
    dsimp only [Pt.U, Pt.locs, Pt.cells, Pt.slots] at X50 l50 y50 z50 st50 hQ50
    subst l50 y50 z50
    obtain ⟨rfl, N50q, eh50⟩ := hQ50
    have N50 := Fr.app N47 N50q
    refine OwnEnd.of (S' := T50.setTop (mkF m 149 #[.val (.int p0), .val (.int p1), .val (.int p2), .val (.int p3), .val (.int p4), .val (.int p5), .val (.int 1), .val (.ref b1), .val (.ref b34), .val (.ref b42), .unset] [(.int (own_rfv (1 : Int32) (own_ix (0 : Int32) [c_3]) c_3 c_7 c_11 c_15 c_19))])) st50 ?_
    rw [own_rfa1 c_3 c_7 c_11 c_15 c_19]
    refine OwnEnd.of (S' := T50.setTop (mkF m 153 #[.val (.int p0), .val (.int p1), .val (.int p2), .val (.int p3), .val (.int p4), .val (.int p5), .val (.int 1), .val (.ref b1), .val (.ref b34), .val (.ref b42), .val (.int (own_abs [c_3]))] [(.ref b42)])) (fun _ kK => XS.istore X50.here hx rfl (hb hby at_149) rfl (l' := #[.val (.int p0), .val (.int p1), .val (.int p2), .val (.int p3), .val (.int p4), .val (.int p5), .val (.int 1), .val (.ref b1), .val (.ref b34), .val (.ref b42), .val (.int (own_abs [c_3]))]) rfl (XS.aload X50.here hx rfl (hb hby at_151) rfl rfl kK)) ?_
    obtain ⟨_, _, ⟨T51, L51, k51, n51⟩, -, X51, ⟨Lc51, hQ51, l51, y51, z51⟩, st51⟩ := Jvm.LawKit.callS X50 hx (y := own_m23) hown (mvT hZ (own_w G 33 rfl)) (mvT hZ (own_w G 34 rfl)) (mvT hZ (own_w G 35 rfl)) (mvT hZ (own_w G 36 rfl)) (by decide) (backOf (W := 0) (rmia1 l Z a0 G [] b42 t47 kb47 c_3 T47.heap n0 O48 r47E r47V r47C r47A hlat) hZ (own_w G 36 rfl) (own_w G 35 rfl) (by decide) (by decide)) (g := (mkF m 153 #[.val (.int p0), .val (.int p1), .val (.int p2), .val (.int p3), .val (.int p4), .val (.int p5), .val (.int 1), .val (.ref b1), .val (.ref b34), .val (.ref b42), .val (.int (own_abs [c_3]))] [(.ref b42)])) rfl (by rw [hml]; rfl) (argsL := [(.ref b42)]) (rest := []) (lenOf pd_18 rfl) rfl (by show 2 * 0 + _ ≤ _; exact Nat.le_of_eq rfl) (hb hby at_153) (fun _ _ => ⟨rfl, eh50, (by decide : 4 + 0 ≤ _), (by decide : 11 + 0 ≤ _)⟩)
    dsimp only [Pt.U, Pt.locs, Pt.cells, Pt.slots] at X51 l51 y51 z51 st51 hQ51
    subst l51 y51 z51
    obtain ⟨rfl, N51q, eh51⟩ := hQ51
    have N51 := Fr.app N50 N51q
    refine OwnEnd.of (S' := T51.setTop (mkF m 156 #[.val (.int p0), .val (.int p1), .val (.int p2), .val (.int p3), .val (.int p4), .val (.int p5), .val (.int 1), .val (.ref b1), .val (.ref b34), .val (.ref b42), .val (.int (own_abs [c_3]))] [(.int (own_abs [c_3]))])) st51 ?_
    refine OwnEnd.of (S' := T51.setTop (mkF m 166 #[.val (.int p0), .val (.int p1), .val (.int p2), .val (.int p3), .val (.int p4), .val (.int p5), .val (.int 1), .val (.ref b1), .val (.ref b34), .val (.ref b42), .val (.int (own_abs [c_3]))] [(.int 1)])) (fun _ kK => XS.iload X51.here hx rfl (hb hby at_156) rfl (XS.icmpNo X51.here hx rfl (hb hby at_158) rfl (teq (rfl)).2 (XS.iconst X51.here hx rfl (hb hby at_161) (XS.goto X51.here hx rfl (pc0 := 162) (pc' := 166) rfl (hb hby at_162) (by decide) (by decide) kK)))) ?_
    refine OwnEnd.retW X51 Si0 (by omega) (v := (some (.int (nar .boolean (1 : Int32))))) (fun h => by rw [Bd.returns] at h; cases h) hlk (fun fs hr => retN X51 hx (t := .boolean) Bd.returns (by simp) (hb hby at_166) hr) (by decide) (by decide) (Q := Qlaw Z p0 p1 p2 p3 p4 p5 h0 n0) eh51 ?_
    exact ⟨rfl, N51, K48⟩
  · rw [hr]
    refine OwnEnd.of (S' := T21.setTop (mkF m 58 #[.val (.int p0), .val (.int p1), .val (.int p2), .val (.int p3), .val (.int p4), .val (.int p5), .val (.int 2), .val (.ref b1), .unset, .unset, .unset] [(.int 2)])) (fun _ kK => XS.iload X21.here hx rfl (hb hby at_56) rfl kK) ?_
    obtain ⟨T52, h52, k52, X52, e52, E52, A52, st52⟩ := newP X21 hx hZ (own_w G 1 rfl) e21 (g := (mkF m 58 #[.val (.int p0), .val (.int p1), .val (.int p2), .val (.int p3), .val (.int p4), .val (.int p5), .val (.int 2), .val (.ref b1), .unset, .unset, .unset] [(.int 2)])) rfl (hb hby at_58) rfl (by decide) (cap := 2) (by decide) (by decide) (by decide) (by decide)
    obtain ⟨b52, g52⟩ : ∃ z, z = Array.size h21 := ⟨_, rfl⟩
    rw [← g52] at A52 st52
    have lt_b52 := own_ltN' A52.lt
    have sz53 := E52.1
    have K53 := K22.ext E52
    have O53 := O22.ext E52
    have R53 := CHr.ext E52 CH22
    have CH53 := R53.1
    have V52 : Arv Z h52 b52 k52 .char (2 : Int32) [(.int 0), (.int 0)] (.int 0) := (Arv.new A52 (by decide)).pad (pad_rep [] (.int 0) 2)
    refine OwnEnd.of (S' := T52.setTop (mkF m 60 #[.val (.int p0), .val (.int p1), .val (.int p2), .val (.int p3), .val (.int p4), .val (.int p5), .val (.int 2), .val (.ref b1), .unset, .unset, .unset] [(.ref b52)])) st52 ?_
    refine OwnEnd.of (S' := T52.setTop (mkF m 73 #[.val (.int p0), .val (.int p1), .val (.int p2), .val (.int p3), .val (.int p4), .val (.int p5), .val (.int 2), .val (.ref b1), .val (.ref b52), .unset, .unset] [(.int 0), (.ref b1), (.int 0), (.ref b52)])) (fun _ kK => XS.astore X52.here hx rfl (hb hby at_60) rfl rfl (l' := #[.val (.int p0), .val (.int p1), .val (.int p2), .val (.int p3), .val (.int p4), .val (.int p5), .val (.int 2), .val (.ref b1), .val (.ref b52), .unset, .unset]) rfl (XS.iload X52.here hx rfl (hb hby at_62) rfl (XS.ifNo X52.here hx rfl (hb hby at_64) rfl ((if0 _ _).trans (tlt ((by decide : (0 : Int32) < (2 : Int32)))).2.2.2) (XS.aload X52.here hx rfl (hb hby at_67) rfl rfl (XS.iconst X52.here hx rfl (hb hby at_69) (XS.aload X52.here hx rfl (hb hby at_70) rfl rfl (XS.iconst X52.here hx rfl (hb hby at_72) kK))))))) ?_
    have f54 : Arv Z h52 b1 k1 .char (5 : Int32) [(.int c_3), (.int c_7), (.int c_11), (.int c_15), (.int c_19)] (.int 0) := (V23.ext E52)
    obtain ⟨cl55, Ar55, q55, S55, N55', H55, G55⟩ := id f54
    have hin56 : ¬ ((0 : Int32) < 0 ∨ cl55.slots.size ≤ ((0 : Int32)).toNatClampNeg) := inb_of S55 ⟨by decide, by decide⟩
    refine OwnEnd.of (S' := T52.setTop (mkF m 74 #[.val (.int p0), .val (.int p1), .val (.int p2), .val (.int p3), .val (.int p4), .val (.int p5), .val (.int 2), .val (.ref b1), .val (.ref b52), .unset, .unset] [(.int c_3), (.int 0), (.ref b52)])) (fun _ kK => X52.caload hx (j := (0 : Int32)) (v := (.int c_3)) (by rw [e52]; exact Ar55.1) (State.isArrayOf_alike hZ.alike Ar55.2.1) Ar55.2.2 hin56 (Has.at H55 hin56 (rfl)) (g := (mkF m 73 #[.val (.int p0), .val (.int p1), .val (.int p2), .val (.int p3), .val (.int p4), .val (.int p5), .val (.int 2), .val (.ref b1), .val (.ref b52), .unset, .unset] [(.int 0), (.ref b1), (.int 0), (.ref b52)])) rfl rfl (hb hby at_73) _ kK) ?_
    obtain ⟨cl57, Ar57, q57, S57, N57', H57, G57⟩ := id V52
    have hin58 : ¬ ((0 : Int32) < 0 ∨ cl57.slots.size ≤ ((0 : Int32)).toNatClampNeg) := inb_of S57 ⟨by decide, by decide⟩
    obtain ⟨T58, h58, X58, e58, W58, st58⟩ := stC X52 hx hZ e52 Ar57 (j := (0 : Int32)) hin58 (g := (mkF m 74 #[.val (.int p0), .val (.int p1), .val (.int p2), .val (.int p3), .val (.int p4), .val (.int p5), .val (.int 2), .val (.ref b1), .val (.ref b52), .unset, .unset] [(.int c_3), (.int 0), (.ref b52)])) rfl rfl (hb hby at_74)
    have N58 := Fr.snoc X58 N21 (by omega)
    have sz59 := own_wr_le W58
    have K59 := K53.wr W58 (Or.inr (by omega))
    have O59 := O53.wr W58 (by omega)
    have R59 := CHr.wr W58 (Safe.arv hZ.alike V52 (by decide)) CH53
    have CH59 := R59.1
    have V58 : Arv Z h58 b52 k52 .char (2 : Int32) [(.int (nar .char c_3)), (.int 0)] (.int 0) := Arv.set Ar57 q57 S57 N57' H57 G57 (fits_nar_char _) W58 0 rfl (Nat.le_of_ble_eq_true rfl)
    refine OwnEnd.of (S' := T58.setTop (mkF m 75 #[.val (.int p0), .val (.int p1), .val (.int p2), .val (.int p3), .val (.int p4), .val (.int p5), .val (.int 2), .val (.ref b1), .val (.ref b52), .unset, .unset] [])) st58 ?_
    refine OwnEnd.of (S' := T58.setTop (mkF m 87 #[.val (.int p0), .val (.int p1), .val (.int p2), .val (.int p3), .val (.int p4), .val (.int p5), .val (.int 2), .val (.ref b1), .val (.ref b52), .unset, .unset] [(.int 1), (.ref b1), (.int 1), (.ref b52)])) (fun _ kK => XS.iload X58.here hx rfl (hb hby at_75) rfl (XS.iconst X58.here hx rfl (hb hby at_77) (XS.icmpNo X58.here hx rfl (hb hby at_78) rfl (tlt ((by decide : (1 : Int32) < (2 : Int32)))).2.2.2 (XS.aload X58.here hx rfl (hb hby at_81) rfl rfl (XS.iconst X58.here hx rfl (hb hby at_83) (XS.aload X58.here hx rfl (hb hby at_84) rfl rfl (XS.iconst X58.here hx rfl (hb hby at_86) kK))))))) ?_
    have f60 : Arv Z h58 b1 k1 .char (5 : Int32) [(.int c_3), (.int c_7), (.int c_11), (.int c_15), (.int c_19)] (.int 0) := (f54.other W58 (own_ne (by omega)))
    obtain ⟨cl61, Ar61, q61, S61, N61', H61, G61⟩ := id f60
    have hin62 : ¬ ((1 : Int32) < 0 ∨ cl61.slots.size ≤ ((1 : Int32)).toNatClampNeg) := inb_of S61 ⟨by decide, by decide⟩
    refine OwnEnd.of (S' := T58.setTop (mkF m 88 #[.val (.int p0), .val (.int p1), .val (.int p2), .val (.int p3), .val (.int p4), .val (.int p5), .val (.int 2), .val (.ref b1), .val (.ref b52), .unset, .unset] [(.int c_7), (.int 1), (.ref b52)])) (fun _ kK => X58.caload hx (j := (1 : Int32)) (v := (.int c_7)) (by rw [e58]; exact Ar61.1) (State.isArrayOf_alike hZ.alike Ar61.2.1) Ar61.2.2 hin62 (Has.at H61 hin62 (rfl)) (g := (mkF m 87 #[.val (.int p0), .val (.int p1), .val (.int p2), .val (.int p3), .val (.int p4), .val (.int p5), .val (.int 2), .val (.ref b1), .val (.ref b52), .unset, .unset] [(.int 1), (.ref b1), (.int 1), (.ref b52)])) rfl rfl (hb hby at_87) _ kK) ?_
    obtain ⟨cl63, Ar63, q63, S63, N63', H63, G63⟩ := id V58
    have hin64 : ¬ ((1 : Int32) < 0 ∨ cl63.slots.size ≤ ((1 : Int32)).toNatClampNeg) := inb_of S63 ⟨by decide, by decide⟩
    obtain ⟨T64, h64, X64, e64, W64, st64⟩ := stC X58 hx hZ e58 Ar63 (j := (1 : Int32)) hin64 (g := (mkF m 88 #[.val (.int p0), .val (.int p1), .val (.int p2), .val (.int p3), .val (.int p4), .val (.int p5), .val (.int 2), .val (.ref b1), .val (.ref b52), .unset, .unset] [(.int c_7), (.int 1), (.ref b52)])) rfl rfl (hb hby at_88)
    have N64 := Fr.snoc X64 N58 (by omega)
    have sz65 := own_wr_le W64
    have K65 := K59.wr W64 (Or.inr (by omega))
    have O65 := O59.wr W64 (by omega)
    have R65 := CHr.wr W64 (Safe.arv hZ.alike V58 (by decide)) CH59
    have CH65 := R65.1
    have V64 : Arv Z h64 b52 k52 .char (2 : Int32) [(.int (nar .char c_3)), (.int (nar .char c_7))] (.int 0) := Arv.set Ar63 q63 S63 N63' H63 G63 (fits_nar_char _) W64 1 rfl (Nat.le_of_ble_eq_true rfl)
    refine OwnEnd.of (S' := T64.setTop (mkF m 89 #[.val (.int p0), .val (.int p1), .val (.int p2), .val (.int p3), .val (.int p4), .val (.int p5), .val (.int 2), .val (.ref b1), .val (.ref b52), .unset, .unset] [])) st64 ?_
    refine OwnEnd.of (S' := T64.setTop (mkF m 131 #[.val (.int p0), .val (.int p1), .val (.int p2), .val (.int p3), .val (.int p4), .val (.int p5), .val (.int 2), .val (.ref b1), .val (.ref b52), .unset, .unset] [])) (fun _ kK => XS.iload X64.here hx rfl (hb hby at_89) rfl (XS.iconst X64.here hx rfl (hb hby at_91) (XS.icmpYes X64.here hx rfl (pc0 := 92) (pc' := 103) rfl (hb hby at_92) rfl (flt ((by decide : ¬ ((2 : Int32) < (2 : Int32))))).2.2.2 (by decide) (by decide) (XS.iload X64.here hx rfl (hb hby at_103) rfl (XS.iconst X64.here hx rfl (hb hby at_105) (XS.icmpYes X64.here hx rfl (pc0 := 106) (pc' := 117) rfl (hb hby at_106) rfl (flt ((by decide : ¬ ((3 : Int32) < (2 : Int32))))).2.2.2 (by decide) (by decide) (XS.iload X64.here hx rfl (hb hby at_117) rfl (XS.iconst X64.here hx rfl (hb hby at_119) (XS.icmpYes X64.here hx rfl (pc0 := 120) (pc' := 131) rfl (hb hby at_120) rfl (flt ((by decide : ¬ ((4 : Int32) < (2 : Int32))))).2.2.2 (by decide) (by decide) kK))))))))) ?_
    obtain ⟨T66, h66, X66, e66, E66, A66, D66, -, st66⟩ := newO X64 hx hZ hown (own_w G 6 rfl) (own_w G 7 rfl) (own_w G 8 rfl) e64 (g := (mkF m 131 #[.val (.int p0), .val (.int p1), .val (.int p2), .val (.int p3), .val (.int p4), .val (.int p5), .val (.int 2), .val (.ref b1), .val (.ref b52), .unset, .unset] [])) rfl (hb hby at_131) (by decide) (by decide)
    obtain ⟨b66, g66⟩ : ∃ z, z = Array.size h64 := ⟨_, rfl⟩
    rw [← g66] at A66 D66 st66
    have lt_b66 := own_ltN' A66.lt
    have sz67 := E66.1
    have K67 := K65.ext E66
    have O67 := O65.ext E66
    have R67 := CHr.ext E66 CH65
    have CH67 := R67.1
    have Sf66 : Safe Z consts_1 s.vm h66 b66 := Safe.ext E66 CH65 (Safe.new (by omega))
    have F66_value : Fld Z h66 b66 "java/lang/String" "value" "[B" .null := D66 (Or.inr (own_w G 21 rfl)) (ty := (.array .byte)) (by decide)
    have F66_coder : Fld Z h66 b66 "java/lang/String" "coder" "B" (.int 0) := D66 (Or.inr (own_w G 22 rfl)) (ty := .byte) (by decide)
    refine OwnEnd.of (S' := T66.setTop (mkF m 134 #[.val (.int p0), .val (.int p1), .val (.int p2), .val (.int p3), .val (.int p4), .val (.int p5), .val (.int 2), .val (.ref b1), .val (.ref b52), .unset, .unset] [(.ref b66)])) st66 ?_
    refine OwnEnd.of (S' := T66.setTop (mkF m 137 #[.val (.int p0), .val (.int p1), .val (.int p2), .val (.int p3), .val (.int p4), .val (.int p5), .val (.int 2), .val (.ref b1), .val (.ref b52), .unset, .unset] [(.ref b52), (.ref b66), (.ref b66)])) (fun _ kK => XS.dup X66.here hx rfl (hb hby at_134) rfl rfl (XS.aload X66.here hx rfl (hb hby at_135) rfl rfl kK)) ?_
    have f68 : Arv Z h66 b52 k52 .char (2 : Int32) [(.int (nar .char c_3)), (.int (nar .char c_7))] (.int 0) := (V64.ext E66)
    have V69 : Arv Z h66 b52 k52 .char (2 : Int32) [(.int c_3), (.int c_7)] (.int 0) := by have q := f68; rw [own_narc r3_0.1 (own_255 r3_0.2), own_narc r7_0.1 (own_255 r7_0.2)] at q; exact q
    have hlat : ∀ c ∈ ([c_3, c_7] : List Int32), ¬ c < (0 : Int32) ∧ ¬ (255 : Int32) < c := own_all_2 r3_0 r7_0
    have hws : ∀ d ∈ StrChars.Road.words, d.before a0 Z = true := fun d hd => hw d (own_words d hd)
    have hp70 : ∀ c ∈ ([c_3, c_7] : List Int32), ¬ c < 0 ∧ ¬ (255 : Int32) < c := hlat
    obtain ⟨_, _, ⟨T71, L71, k71, n71⟩, -, X71, ⟨Lc71, hQ71, l71, y71, z71⟩, st71⟩ := Jvm.Stand.specialBack X66 hx (y := own_m1) rfl hown (mvT hZ (own_w G 9 rfl)) (mvT hZ (own_w G 10 rfl)) (mvT hZ (own_w G 11 rfl)) (by decide) (StrChars.Road.backV (W := 1) hZ hws (kI := 4) (own_w G 7 rfl) (cs := [c_3, c_7]) (bs := ([c_3, c_7] : List Int32).map (fun c => c.toInt8.toInt32)) (n := 2) (n0 := n0) (by omega) (by omega) A66 F66_value F66_coder V69 (SCS.ext O67.2) PCS rfl rfl (by decide) (by decide) hp70 rfl (by decide) (by decide)) (g := (mkF m 137 #[.val (.int p0), .val (.int p1), .val (.int p2), .val (.int p3), .val (.int p4), .val (.int p5), .val (.int 2), .val (.ref b1), .val (.ref b52), .unset, .unset] [(.ref b52), (.ref b66), (.ref b66)])) rfl (by rw [hml]; rfl) (Steps.refl _) (a := b66) (argsL := [(.ref b52)]) (rest := [(.ref b66)]) (lenOf pd_16 rfl) rfl (by show 2 * 0 + _ ≤ _; exact Nat.le_of_eq rfl) (hb hby at_137) (fun _ _ => ⟨rfl, e66, (by decide : 3 + 1 ≤ _), (by decide : 11 + 2 ≤ _)⟩)
    dsimp only [Pt.U, Pt.locs, Pt.cells, Pt.slots] at X71 l71 y71 z71 st71 hQ71
    subst l71 y71 z71
    obtain ⟨rfl, N71q, Kq71, r71E, r71C, t71, kb71, u71, w71, x71, r71V, r71A⟩ := hQ71
    have N71 := Fr.app N64 N71q
    have sz72 := Kq71.1
    have K72 := K67.trans Kq71 (own_all1 (Or.inr (by omega)))
    have O72 := O67.keep Kq71 (own_all1 (by omega))
    have R72 := CHr.keep Kq71 (sfS Sf66 sf0) CH67
    have CH72 := R72.1
    have lt_t71 := own_ltN' r71A.lt
    refine OwnEnd.tr (S' := T71.setTop (mkF m 140 #[.val (.int p0), .val (.int p1), .val (.int p2), .val (.int p3), .val (.int p4), .val (.int p5), .val (.int 2), .val (.ref b1), .val (.ref b52), .unset, .unset] [(.ref b66)])) st71 ?_
    refine OwnEnd.of (S' := T71.setTop (mkF m 146 #[.val (.int p0), .val (.int p1), .val (.int p2), .val (.int p3), .val (.int p4), .val (.int p5), .val (.int 2), .val (.ref b1), .val (.ref b52), .val (.ref b66), .unset] [(.int 2), (.ref b1)])) (fun _ kK => XS.astore X71.here hx rfl (hb hby at_140) rfl rfl (l' := #[.val (.int p0), .val (.int p1), .val (.int p2), .val (.int p3), .val (.int p4), .val (.int p5), .val (.int 2), .val (.ref b1), .val (.ref b52), .val (.ref b66), .unset]) rfl (XS.aload X71.here hx rfl (hb hby at_142) rfl rfl (XS.iload X71.here hx rfl (hb hby at_144) rfl kK))) ?_
    have f73 : Arv Z T71.heap b1 k1 .char (5 : Int32) [(.int c_3), (.int c_7), (.int c_11), (.int c_15), (.int c_19)] (.int 0) := (((f60.other W64 (own_ne (by omega))).ext E66).keep Kq71 (own_nin1 (own_ne (by omega))))
    obtain ⟨_, _, ⟨T74, L74, k74, n74⟩, -, X74, ⟨Lc74, hQ74, l74, y74, z74⟩, st74⟩ := Jvm.LawKit.callS X71 hx (y := own_m14) hown (mvT hZ (own_w G 27 rfl)) (mvT hZ (own_w G 28 rfl)) (mvT hZ (own_w G 4 rfl)) (mvT hZ (own_w G 29 rfl)) (by decide) (backOf (W := 0) (rmrf l Z a0 G [] b1 k1 (.int 0) c_3 c_7 c_11 c_15 c_19 (2 : Int32) (own_ix (0 : Int32) [c_3, c_7]) T71.heap n0 O72 f73 (Or.inr (Or.inr (Or.inl ⟨rfl, rfl⟩)))) hZ (own_w G 29 rfl) (own_w G 4 rfl) (by decide) (by decide)) (g := (mkF m 146 #[.val (.int p0), .val (.int p1), .val (.int p2), .val (.int p3), .val (.int p4), .val (.int p5), .val (.int 2), .val (.ref b1), .val (.ref b52), .val (.ref b66), .unset] [(.int 2), (.ref b1)])) rfl (by rw [hml]; rfl) (argsL := [(.ref b1), (.int 2)]) (rest := []) (lenOf pd_17 rfl) rfl (by show 2 * 0 + _ ≤ _; exact Nat.le_of_eq rfl) (hb hby at_146) (fun _ _ => ⟨rfl, rfl, (by decide : 4 + 0 ≤ _), (by decide : 13 + 0 ≤ _)⟩)
    dsimp only [Pt.U, Pt.locs, Pt.cells, Pt.slots] at X74 l74 y74 z74 st74 hQ74
    subst l74 y74 z74
    obtain ⟨rfl, N74q, eh74⟩ := hQ74
    have N74 := Fr.app N71 N74q
    refine OwnEnd.of (S' := T74.setTop (mkF m 149 #[.val (.int p0), .val (.int p1), .val (.int p2), .val (.int p3), .val (.int p4), .val (.int p5), .val (.int 2), .val (.ref b1), .val (.ref b52), .val (.ref b66), .unset] [(.int (own_rfv (2 : Int32) (own_ix (0 : Int32) [c_3, c_7]) c_3 c_7 c_11 c_15 c_19))])) st74 ?_
    rw [own_rfa2 c_3 c_7 c_11 c_15 c_19]
    refine OwnEnd.of (S' := T74.setTop (mkF m 153 #[.val (.int p0), .val (.int p1), .val (.int p2), .val (.int p3), .val (.int p4), .val (.int p5), .val (.int 2), .val (.ref b1), .val (.ref b52), .val (.ref b66), .val (.int (own_abs [c_3, c_7]))] [(.ref b66)])) (fun _ kK => XS.istore X74.here hx rfl (hb hby at_149) rfl (l' := #[.val (.int p0), .val (.int p1), .val (.int p2), .val (.int p3), .val (.int p4), .val (.int p5), .val (.int 2), .val (.ref b1), .val (.ref b52), .val (.ref b66), .val (.int (own_abs [c_3, c_7]))]) rfl (XS.aload X74.here hx rfl (hb hby at_151) rfl rfl kK)) ?_
    obtain ⟨_, _, ⟨T75, L75, k75, n75⟩, -, X75, ⟨Lc75, hQ75, l75, y75, z75⟩, st75⟩ := Jvm.LawKit.callS X74 hx (y := own_m23) hown (mvT hZ (own_w G 33 rfl)) (mvT hZ (own_w G 34 rfl)) (mvT hZ (own_w G 35 rfl)) (mvT hZ (own_w G 36 rfl)) (by decide) (backOf (W := 0) (rmia2 l Z a0 G [] b66 t71 kb71 c_3 c_7 T71.heap n0 O72 r71E r71V r71C r71A hlat) hZ (own_w G 36 rfl) (own_w G 35 rfl) (by decide) (by decide)) (g := (mkF m 153 #[.val (.int p0), .val (.int p1), .val (.int p2), .val (.int p3), .val (.int p4), .val (.int p5), .val (.int 2), .val (.ref b1), .val (.ref b52), .val (.ref b66), .val (.int (own_abs [c_3, c_7]))] [(.ref b66)])) rfl (by rw [hml]; rfl) (argsL := [(.ref b66)]) (rest := []) (lenOf pd_18 rfl) rfl (by show 2 * 0 + _ ≤ _; exact Nat.le_of_eq rfl) (hb hby at_153) (fun _ _ => ⟨rfl, eh74, (by decide : 4 + 0 ≤ _), (by decide : 13 + 0 ≤ _)⟩)
    dsimp only [Pt.U, Pt.locs, Pt.cells, Pt.slots] at X75 l75 y75 z75 st75 hQ75
    subst l75 y75 z75
    obtain ⟨rfl, N75q, eh75⟩ := hQ75
    have N75 := Fr.app N74 N75q
    refine OwnEnd.of (S' := T75.setTop (mkF m 156 #[.val (.int p0), .val (.int p1), .val (.int p2), .val (.int p3), .val (.int p4), .val (.int p5), .val (.int 2), .val (.ref b1), .val (.ref b52), .val (.ref b66), .val (.int (own_abs [c_3, c_7]))] [(.int (own_abs [c_3, c_7]))])) st75 ?_
    refine OwnEnd.of (S' := T75.setTop (mkF m 166 #[.val (.int p0), .val (.int p1), .val (.int p2), .val (.int p3), .val (.int p4), .val (.int p5), .val (.int 2), .val (.ref b1), .val (.ref b52), .val (.ref b66), .val (.int (own_abs [c_3, c_7]))] [(.int 1)])) (fun _ kK => XS.iload X75.here hx rfl (hb hby at_156) rfl (XS.icmpNo X75.here hx rfl (hb hby at_158) rfl (teq (rfl)).2 (XS.iconst X75.here hx rfl (hb hby at_161) (XS.goto X75.here hx rfl (pc0 := 162) (pc' := 166) rfl (hb hby at_162) (by decide) (by decide) kK)))) ?_
    refine OwnEnd.retW X75 Si0 (by omega) (v := (some (.int (nar .boolean (1 : Int32))))) (fun h => by rw [Bd.returns] at h; cases h) hlk (fun fs hr => retN X75 hx (t := .boolean) Bd.returns (by simp) (hb hby at_166) hr) (by decide) (by decide) (Q := Qlaw Z p0 p1 p2 p3 p4 p5 h0 n0) eh75 ?_
    exact ⟨rfl, N75, K72⟩
  · rw [hr]
    refine OwnEnd.of (S' := T21.setTop (mkF m 58 #[.val (.int p0), .val (.int p1), .val (.int p2), .val (.int p3), .val (.int p4), .val (.int p5), .val (.int 3), .val (.ref b1), .unset, .unset, .unset] [(.int 3)])) (fun _ kK => XS.iload X21.here hx rfl (hb hby at_56) rfl kK) ?_
    obtain ⟨T76, h76, k76, X76, e76, E76, A76, st76⟩ := newP X21 hx hZ (own_w G 1 rfl) e21 (g := (mkF m 58 #[.val (.int p0), .val (.int p1), .val (.int p2), .val (.int p3), .val (.int p4), .val (.int p5), .val (.int 3), .val (.ref b1), .unset, .unset, .unset] [(.int 3)])) rfl (hb hby at_58) rfl (by decide) (cap := 3) (by decide) (by decide) (by decide) (by decide)
    obtain ⟨b76, g76⟩ : ∃ z, z = Array.size h21 := ⟨_, rfl⟩
    rw [← g76] at A76 st76
    have lt_b76 := own_ltN' A76.lt
    have sz77 := E76.1
    have K77 := K22.ext E76
    have O77 := O22.ext E76
    have R77 := CHr.ext E76 CH22
    have CH77 := R77.1
    have V76 : Arv Z h76 b76 k76 .char (3 : Int32) [(.int 0), (.int 0), (.int 0)] (.int 0) := (Arv.new A76 (by decide)).pad (pad_rep [] (.int 0) 3)
    refine OwnEnd.of (S' := T76.setTop (mkF m 60 #[.val (.int p0), .val (.int p1), .val (.int p2), .val (.int p3), .val (.int p4), .val (.int p5), .val (.int 3), .val (.ref b1), .unset, .unset, .unset] [(.ref b76)])) st76 ?_
    refine OwnEnd.of (S' := T76.setTop (mkF m 73 #[.val (.int p0), .val (.int p1), .val (.int p2), .val (.int p3), .val (.int p4), .val (.int p5), .val (.int 3), .val (.ref b1), .val (.ref b76), .unset, .unset] [(.int 0), (.ref b1), (.int 0), (.ref b76)])) (fun _ kK => XS.astore X76.here hx rfl (hb hby at_60) rfl rfl (l' := #[.val (.int p0), .val (.int p1), .val (.int p2), .val (.int p3), .val (.int p4), .val (.int p5), .val (.int 3), .val (.ref b1), .val (.ref b76), .unset, .unset]) rfl (XS.iload X76.here hx rfl (hb hby at_62) rfl (XS.ifNo X76.here hx rfl (hb hby at_64) rfl ((if0 _ _).trans (tlt ((by decide : (0 : Int32) < (3 : Int32)))).2.2.2) (XS.aload X76.here hx rfl (hb hby at_67) rfl rfl (XS.iconst X76.here hx rfl (hb hby at_69) (XS.aload X76.here hx rfl (hb hby at_70) rfl rfl (XS.iconst X76.here hx rfl (hb hby at_72) kK))))))) ?_
    have f78 : Arv Z h76 b1 k1 .char (5 : Int32) [(.int c_3), (.int c_7), (.int c_11), (.int c_15), (.int c_19)] (.int 0) := (V23.ext E76)
    obtain ⟨cl79, Ar79, q79, S79, N79', H79, G79⟩ := id f78
    have hin80 : ¬ ((0 : Int32) < 0 ∨ cl79.slots.size ≤ ((0 : Int32)).toNatClampNeg) := inb_of S79 ⟨by decide, by decide⟩
    refine OwnEnd.of (S' := T76.setTop (mkF m 74 #[.val (.int p0), .val (.int p1), .val (.int p2), .val (.int p3), .val (.int p4), .val (.int p5), .val (.int 3), .val (.ref b1), .val (.ref b76), .unset, .unset] [(.int c_3), (.int 0), (.ref b76)])) (fun _ kK => X76.caload hx (j := (0 : Int32)) (v := (.int c_3)) (by rw [e76]; exact Ar79.1) (State.isArrayOf_alike hZ.alike Ar79.2.1) Ar79.2.2 hin80 (Has.at H79 hin80 (rfl)) (g := (mkF m 73 #[.val (.int p0), .val (.int p1), .val (.int p2), .val (.int p3), .val (.int p4), .val (.int p5), .val (.int 3), .val (.ref b1), .val (.ref b76), .unset, .unset] [(.int 0), (.ref b1), (.int 0), (.ref b76)])) rfl rfl (hb hby at_73) _ kK) ?_
    obtain ⟨cl81, Ar81, q81, S81, N81', H81, G81⟩ := id V76
    have hin82 : ¬ ((0 : Int32) < 0 ∨ cl81.slots.size ≤ ((0 : Int32)).toNatClampNeg) := inb_of S81 ⟨by decide, by decide⟩
    obtain ⟨T82, h82, X82, e82, W82, st82⟩ := stC X76 hx hZ e76 Ar81 (j := (0 : Int32)) hin82 (g := (mkF m 74 #[.val (.int p0), .val (.int p1), .val (.int p2), .val (.int p3), .val (.int p4), .val (.int p5), .val (.int 3), .val (.ref b1), .val (.ref b76), .unset, .unset] [(.int c_3), (.int 0), (.ref b76)])) rfl rfl (hb hby at_74)
    have N82 := Fr.snoc X82 N21 (by omega)
    have sz83 := own_wr_le W82
    have K83 := K77.wr W82 (Or.inr (by omega))
    have O83 := O77.wr W82 (by omega)
    have R83 := CHr.wr W82 (Safe.arv hZ.alike V76 (by decide)) CH77
    have CH83 := R83.1
    have V82 : Arv Z h82 b76 k76 .char (3 : Int32) [(.int (nar .char c_3)), (.int 0), (.int 0)] (.int 0) := Arv.set Ar81 q81 S81 N81' H81 G81 (fits_nar_char _) W82 0 rfl (Nat.le_of_ble_eq_true rfl)
    refine OwnEnd.of (S' := T82.setTop (mkF m 75 #[.val (.int p0), .val (.int p1), .val (.int p2), .val (.int p3), .val (.int p4), .val (.int p5), .val (.int 3), .val (.ref b1), .val (.ref b76), .unset, .unset] [])) st82 ?_
    refine OwnEnd.of (S' := T82.setTop (mkF m 87 #[.val (.int p0), .val (.int p1), .val (.int p2), .val (.int p3), .val (.int p4), .val (.int p5), .val (.int 3), .val (.ref b1), .val (.ref b76), .unset, .unset] [(.int 1), (.ref b1), (.int 1), (.ref b76)])) (fun _ kK => XS.iload X82.here hx rfl (hb hby at_75) rfl (XS.iconst X82.here hx rfl (hb hby at_77) (XS.icmpNo X82.here hx rfl (hb hby at_78) rfl (tlt ((by decide : (1 : Int32) < (3 : Int32)))).2.2.2 (XS.aload X82.here hx rfl (hb hby at_81) rfl rfl (XS.iconst X82.here hx rfl (hb hby at_83) (XS.aload X82.here hx rfl (hb hby at_84) rfl rfl (XS.iconst X82.here hx rfl (hb hby at_86) kK))))))) ?_
    have f84 : Arv Z h82 b1 k1 .char (5 : Int32) [(.int c_3), (.int c_7), (.int c_11), (.int c_15), (.int c_19)] (.int 0) := (f78.other W82 (own_ne (by omega)))
    obtain ⟨cl85, Ar85, q85, S85, N85', H85, G85⟩ := id f84
    have hin86 : ¬ ((1 : Int32) < 0 ∨ cl85.slots.size ≤ ((1 : Int32)).toNatClampNeg) := inb_of S85 ⟨by decide, by decide⟩
    refine OwnEnd.of (S' := T82.setTop (mkF m 88 #[.val (.int p0), .val (.int p1), .val (.int p2), .val (.int p3), .val (.int p4), .val (.int p5), .val (.int 3), .val (.ref b1), .val (.ref b76), .unset, .unset] [(.int c_7), (.int 1), (.ref b76)])) (fun _ kK => X82.caload hx (j := (1 : Int32)) (v := (.int c_7)) (by rw [e82]; exact Ar85.1) (State.isArrayOf_alike hZ.alike Ar85.2.1) Ar85.2.2 hin86 (Has.at H85 hin86 (rfl)) (g := (mkF m 87 #[.val (.int p0), .val (.int p1), .val (.int p2), .val (.int p3), .val (.int p4), .val (.int p5), .val (.int 3), .val (.ref b1), .val (.ref b76), .unset, .unset] [(.int 1), (.ref b1), (.int 1), (.ref b76)])) rfl rfl (hb hby at_87) _ kK) ?_
    obtain ⟨cl87, Ar87, q87, S87, N87', H87, G87⟩ := id V82
    have hin88 : ¬ ((1 : Int32) < 0 ∨ cl87.slots.size ≤ ((1 : Int32)).toNatClampNeg) := inb_of S87 ⟨by decide, by decide⟩
    obtain ⟨T88, h88, X88, e88, W88, st88⟩ := stC X82 hx hZ e82 Ar87 (j := (1 : Int32)) hin88 (g := (mkF m 88 #[.val (.int p0), .val (.int p1), .val (.int p2), .val (.int p3), .val (.int p4), .val (.int p5), .val (.int 3), .val (.ref b1), .val (.ref b76), .unset, .unset] [(.int c_7), (.int 1), (.ref b76)])) rfl rfl (hb hby at_88)
    have N88 := Fr.snoc X88 N82 (by omega)
    have sz89 := own_wr_le W88
    have K89 := K83.wr W88 (Or.inr (by omega))
    have O89 := O83.wr W88 (by omega)
    have R89 := CHr.wr W88 (Safe.arv hZ.alike V82 (by decide)) CH83
    have CH89 := R89.1
    have V88 : Arv Z h88 b76 k76 .char (3 : Int32) [(.int (nar .char c_3)), (.int (nar .char c_7)), (.int 0)] (.int 0) := Arv.set Ar87 q87 S87 N87' H87 G87 (fits_nar_char _) W88 1 rfl (Nat.le_of_ble_eq_true rfl)
    refine OwnEnd.of (S' := T88.setTop (mkF m 89 #[.val (.int p0), .val (.int p1), .val (.int p2), .val (.int p3), .val (.int p4), .val (.int p5), .val (.int 3), .val (.ref b1), .val (.ref b76), .unset, .unset] [])) st88 ?_
    refine OwnEnd.of (S' := T88.setTop (mkF m 101 #[.val (.int p0), .val (.int p1), .val (.int p2), .val (.int p3), .val (.int p4), .val (.int p5), .val (.int 3), .val (.ref b1), .val (.ref b76), .unset, .unset] [(.int 2), (.ref b1), (.int 2), (.ref b76)])) (fun _ kK => XS.iload X88.here hx rfl (hb hby at_89) rfl (XS.iconst X88.here hx rfl (hb hby at_91) (XS.icmpNo X88.here hx rfl (hb hby at_92) rfl (tlt ((by decide : (2 : Int32) < (3 : Int32)))).2.2.2 (XS.aload X88.here hx rfl (hb hby at_95) rfl rfl (XS.iconst X88.here hx rfl (hb hby at_97) (XS.aload X88.here hx rfl (hb hby at_98) rfl rfl (XS.iconst X88.here hx rfl (hb hby at_100) kK))))))) ?_
    have f90 : Arv Z h88 b1 k1 .char (5 : Int32) [(.int c_3), (.int c_7), (.int c_11), (.int c_15), (.int c_19)] (.int 0) := (f84.other W88 (own_ne (by omega)))
    obtain ⟨cl91, Ar91, q91, S91, N91', H91, G91⟩ := id f90
    have hin92 : ¬ ((2 : Int32) < 0 ∨ cl91.slots.size ≤ ((2 : Int32)).toNatClampNeg) := inb_of S91 ⟨by decide, by decide⟩
    refine OwnEnd.of (S' := T88.setTop (mkF m 102 #[.val (.int p0), .val (.int p1), .val (.int p2), .val (.int p3), .val (.int p4), .val (.int p5), .val (.int 3), .val (.ref b1), .val (.ref b76), .unset, .unset] [(.int c_11), (.int 2), (.ref b76)])) (fun _ kK => X88.caload hx (j := (2 : Int32)) (v := (.int c_11)) (by rw [e88]; exact Ar91.1) (State.isArrayOf_alike hZ.alike Ar91.2.1) Ar91.2.2 hin92 (Has.at H91 hin92 (rfl)) (g := (mkF m 101 #[.val (.int p0), .val (.int p1), .val (.int p2), .val (.int p3), .val (.int p4), .val (.int p5), .val (.int 3), .val (.ref b1), .val (.ref b76), .unset, .unset] [(.int 2), (.ref b1), (.int 2), (.ref b76)])) rfl rfl (hb hby at_101) _ kK) ?_
    obtain ⟨cl93, Ar93, q93, S93, N93', H93, G93⟩ := id V88
    have hin94 : ¬ ((2 : Int32) < 0 ∨ cl93.slots.size ≤ ((2 : Int32)).toNatClampNeg) := inb_of S93 ⟨by decide, by decide⟩
    obtain ⟨T94, h94, X94, e94, W94, st94⟩ := stC X88 hx hZ e88 Ar93 (j := (2 : Int32)) hin94 (g := (mkF m 102 #[.val (.int p0), .val (.int p1), .val (.int p2), .val (.int p3), .val (.int p4), .val (.int p5), .val (.int 3), .val (.ref b1), .val (.ref b76), .unset, .unset] [(.int c_11), (.int 2), (.ref b76)])) rfl rfl (hb hby at_102)
    have N94 := Fr.snoc X94 N88 (by omega)
    have sz95 := own_wr_le W94
    have K95 := K89.wr W94 (Or.inr (by omega))
    have O95 := O89.wr W94 (by omega)
    have R95 := CHr.wr W94 (Safe.arv hZ.alike V88 (by decide)) CH89
    have CH95 := R95.1
    have V94 : Arv Z h94 b76 k76 .char (3 : Int32) [(.int (nar .char c_3)), (.int (nar .char c_7)), (.int (nar .char c_11))] (.int 0) := Arv.set Ar93 q93 S93 N93' H93 G93 (fits_nar_char _) W94 2 rfl (Nat.le_of_ble_eq_true rfl)
    refine OwnEnd.of (S' := T94.setTop (mkF m 103 #[.val (.int p0), .val (.int p1), .val (.int p2), .val (.int p3), .val (.int p4), .val (.int p5), .val (.int 3), .val (.ref b1), .val (.ref b76), .unset, .unset] [])) st94 ?_
    refine OwnEnd.of (S' := T94.setTop (mkF m 131 #[.val (.int p0), .val (.int p1), .val (.int p2), .val (.int p3), .val (.int p4), .val (.int p5), .val (.int 3), .val (.ref b1), .val (.ref b76), .unset, .unset] [])) (fun _ kK => XS.iload X94.here hx rfl (hb hby at_103) rfl (XS.iconst X94.here hx rfl (hb hby at_105) (XS.icmpYes X94.here hx rfl (pc0 := 106) (pc' := 117) rfl (hb hby at_106) rfl (flt ((by decide : ¬ ((3 : Int32) < (3 : Int32))))).2.2.2 (by decide) (by decide) (XS.iload X94.here hx rfl (hb hby at_117) rfl (XS.iconst X94.here hx rfl (hb hby at_119) (XS.icmpYes X94.here hx rfl (pc0 := 120) (pc' := 131) rfl (hb hby at_120) rfl (flt ((by decide : ¬ ((4 : Int32) < (3 : Int32))))).2.2.2 (by decide) (by decide) kK)))))) ?_
    obtain ⟨T96, h96, X96, e96, E96, A96, D96, -, st96⟩ := newO X94 hx hZ hown (own_w G 6 rfl) (own_w G 7 rfl) (own_w G 8 rfl) e94 (g := (mkF m 131 #[.val (.int p0), .val (.int p1), .val (.int p2), .val (.int p3), .val (.int p4), .val (.int p5), .val (.int 3), .val (.ref b1), .val (.ref b76), .unset, .unset] [])) rfl (hb hby at_131) (by decide) (by decide)
    obtain ⟨b96, g96⟩ : ∃ z, z = Array.size h94 := ⟨_, rfl⟩
    rw [← g96] at A96 D96 st96
    have lt_b96 := own_ltN' A96.lt
    have sz97 := E96.1
    have K97 := K95.ext E96
    have O97 := O95.ext E96
    have R97 := CHr.ext E96 CH95
    have CH97 := R97.1
    have Sf96 : Safe Z consts_1 s.vm h96 b96 := Safe.ext E96 CH95 (Safe.new (by omega))
    have F96_value : Fld Z h96 b96 "java/lang/String" "value" "[B" .null := D96 (Or.inr (own_w G 21 rfl)) (ty := (.array .byte)) (by decide)
    have F96_coder : Fld Z h96 b96 "java/lang/String" "coder" "B" (.int 0) := D96 (Or.inr (own_w G 22 rfl)) (ty := .byte) (by decide)
    refine OwnEnd.of (S' := T96.setTop (mkF m 134 #[.val (.int p0), .val (.int p1), .val (.int p2), .val (.int p3), .val (.int p4), .val (.int p5), .val (.int 3), .val (.ref b1), .val (.ref b76), .unset, .unset] [(.ref b96)])) st96 ?_
    refine OwnEnd.of (S' := T96.setTop (mkF m 137 #[.val (.int p0), .val (.int p1), .val (.int p2), .val (.int p3), .val (.int p4), .val (.int p5), .val (.int 3), .val (.ref b1), .val (.ref b76), .unset, .unset] [(.ref b76), (.ref b96), (.ref b96)])) (fun _ kK => XS.dup X96.here hx rfl (hb hby at_134) rfl rfl (XS.aload X96.here hx rfl (hb hby at_135) rfl rfl kK)) ?_
    have f98 : Arv Z h96 b76 k76 .char (3 : Int32) [(.int (nar .char c_3)), (.int (nar .char c_7)), (.int (nar .char c_11))] (.int 0) := (V94.ext E96)
    have V99 : Arv Z h96 b76 k76 .char (3 : Int32) [(.int c_3), (.int c_7), (.int c_11)] (.int 0) := by have q := f98; rw [own_narc r3_0.1 (own_255 r3_0.2), own_narc r7_0.1 (own_255 r7_0.2), own_narc r11_0.1 (own_255 r11_0.2)] at q; exact q
    have hlat : ∀ c ∈ ([c_3, c_7, c_11] : List Int32), ¬ c < (0 : Int32) ∧ ¬ (255 : Int32) < c := own_all_3 r3_0 r7_0 r11_0
    have hws : ∀ d ∈ StrChars.Road.words, d.before a0 Z = true := fun d hd => hw d (own_words d hd)
    have hp100 : ∀ c ∈ ([c_3, c_7, c_11] : List Int32), ¬ c < 0 ∧ ¬ (255 : Int32) < c := hlat
    obtain ⟨_, _, ⟨T101, L101, k101, n101⟩, -, X101, ⟨Lc101, hQ101, l101, y101, z101⟩, st101⟩ := Jvm.Stand.specialBack X96 hx (y := own_m1) rfl hown (mvT hZ (own_w G 9 rfl)) (mvT hZ (own_w G 10 rfl)) (mvT hZ (own_w G 11 rfl)) (by decide) (StrChars.Road.backV (W := 1) hZ hws (kI := 4) (own_w G 7 rfl) (cs := [c_3, c_7, c_11]) (bs := ([c_3, c_7, c_11] : List Int32).map (fun c => c.toInt8.toInt32)) (n := 3) (n0 := n0) (by omega) (by omega) A96 F96_value F96_coder V99 (SCS.ext O97.2) PCS rfl rfl (by decide) (by decide) hp100 rfl (by decide) (by decide)) (g := (mkF m 137 #[.val (.int p0), .val (.int p1), .val (.int p2), .val (.int p3), .val (.int p4), .val (.int p5), .val (.int 3), .val (.ref b1), .val (.ref b76), .unset, .unset] [(.ref b76), (.ref b96), (.ref b96)])) rfl (by rw [hml]; rfl) (Steps.refl _) (a := b96) (argsL := [(.ref b76)]) (rest := [(.ref b96)]) (lenOf pd_16 rfl) rfl (by show 2 * 0 + _ ≤ _; exact Nat.le_of_eq rfl) (hb hby at_137) (fun _ _ => ⟨rfl, e96, (by decide : 3 + 1 ≤ _), (by decide : 12 + 3 ≤ _)⟩)
    dsimp only [Pt.U, Pt.locs, Pt.cells, Pt.slots] at X101 l101 y101 z101 st101 hQ101
    subst l101 y101 z101
    obtain ⟨rfl, N101q, Kq101, r101E, r101C, t101, kb101, u101, w101, x101, r101V, r101A⟩ := hQ101
    have N101 := Fr.app N94 N101q
    have sz102 := Kq101.1
    have K102 := K97.trans Kq101 (own_all1 (Or.inr (by omega)))
    have O102 := O97.keep Kq101 (own_all1 (by omega))
    have R102 := CHr.keep Kq101 (sfS Sf96 sf0) CH97
    have CH102 := R102.1
    have lt_t101 := own_ltN' r101A.lt
    refine OwnEnd.tr (S' := T101.setTop (mkF m 140 #[.val (.int p0), .val (.int p1), .val (.int p2), .val (.int p3), .val (.int p4), .val (.int p5), .val (.int 3), .val (.ref b1), .val (.ref b76), .unset, .unset] [(.ref b96)])) st101 ?_
    refine OwnEnd.of (S' := T101.setTop (mkF m 146 #[.val (.int p0), .val (.int p1), .val (.int p2), .val (.int p3), .val (.int p4), .val (.int p5), .val (.int 3), .val (.ref b1), .val (.ref b76), .val (.ref b96), .unset] [(.int 3), (.ref b1)])) (fun _ kK => XS.astore X101.here hx rfl (hb hby at_140) rfl rfl (l' := #[.val (.int p0), .val (.int p1), .val (.int p2), .val (.int p3), .val (.int p4), .val (.int p5), .val (.int 3), .val (.ref b1), .val (.ref b76), .val (.ref b96), .unset]) rfl (XS.aload X101.here hx rfl (hb hby at_142) rfl rfl (XS.iload X101.here hx rfl (hb hby at_144) rfl kK))) ?_
    have f103 : Arv Z T101.heap b1 k1 .char (5 : Int32) [(.int c_3), (.int c_7), (.int c_11), (.int c_15), (.int c_19)] (.int 0) := (((f90.other W94 (own_ne (by omega))).ext E96).keep Kq101 (own_nin1 (own_ne (by omega))))
    obtain ⟨_, _, ⟨T104, L104, k104, n104⟩, -, X104, ⟨Lc104, hQ104, l104, y104, z104⟩, st104⟩ := Jvm.LawKit.callS X101 hx (y := own_m14) hown (mvT hZ (own_w G 27 rfl)) (mvT hZ (own_w G 28 rfl)) (mvT hZ (own_w G 4 rfl)) (mvT hZ (own_w G 29 rfl)) (by decide) (backOf (W := 0) (rmrf l Z a0 G [] b1 k1 (.int 0) c_3 c_7 c_11 c_15 c_19 (3 : Int32) (own_ix (0 : Int32) [c_3, c_7, c_11]) T101.heap n0 O102 f103 (Or.inr (Or.inr (Or.inr (Or.inl ⟨rfl, rfl⟩))))) hZ (own_w G 29 rfl) (own_w G 4 rfl) (by decide) (by decide)) (g := (mkF m 146 #[.val (.int p0), .val (.int p1), .val (.int p2), .val (.int p3), .val (.int p4), .val (.int p5), .val (.int 3), .val (.ref b1), .val (.ref b76), .val (.ref b96), .unset] [(.int 3), (.ref b1)])) rfl (by rw [hml]; rfl) (argsL := [(.ref b1), (.int 3)]) (rest := []) (lenOf pd_17 rfl) rfl (by show 2 * 0 + _ ≤ _; exact Nat.le_of_eq rfl) (hb hby at_146) (fun _ _ => ⟨rfl, rfl, (by decide : 4 + 0 ≤ _), (by decide : 15 + 0 ≤ _)⟩)
    dsimp only [Pt.U, Pt.locs, Pt.cells, Pt.slots] at X104 l104 y104 z104 st104 hQ104
    subst l104 y104 z104
    obtain ⟨rfl, N104q, eh104⟩ := hQ104
    have N104 := Fr.app N101 N104q
    refine OwnEnd.of (S' := T104.setTop (mkF m 149 #[.val (.int p0), .val (.int p1), .val (.int p2), .val (.int p3), .val (.int p4), .val (.int p5), .val (.int 3), .val (.ref b1), .val (.ref b76), .val (.ref b96), .unset] [(.int (own_rfv (3 : Int32) (own_ix (0 : Int32) [c_3, c_7, c_11]) c_3 c_7 c_11 c_15 c_19))])) st104 ?_
    rw [own_rfa3 c_3 c_7 c_11 c_15 c_19]
    refine OwnEnd.of (S' := T104.setTop (mkF m 153 #[.val (.int p0), .val (.int p1), .val (.int p2), .val (.int p3), .val (.int p4), .val (.int p5), .val (.int 3), .val (.ref b1), .val (.ref b76), .val (.ref b96), .val (.int (own_abs [c_3, c_7, c_11]))] [(.ref b96)])) (fun _ kK => XS.istore X104.here hx rfl (hb hby at_149) rfl (l' := #[.val (.int p0), .val (.int p1), .val (.int p2), .val (.int p3), .val (.int p4), .val (.int p5), .val (.int 3), .val (.ref b1), .val (.ref b76), .val (.ref b96), .val (.int (own_abs [c_3, c_7, c_11]))]) rfl (XS.aload X104.here hx rfl (hb hby at_151) rfl rfl kK)) ?_
    obtain ⟨_, _, ⟨T105, L105, k105, n105⟩, -, X105, ⟨Lc105, hQ105, l105, y105, z105⟩, st105⟩ := Jvm.LawKit.callS X104 hx (y := own_m23) hown (mvT hZ (own_w G 33 rfl)) (mvT hZ (own_w G 34 rfl)) (mvT hZ (own_w G 35 rfl)) (mvT hZ (own_w G 36 rfl)) (by decide) (backOf (W := 0) (rmia3 l Z a0 G [] b96 t101 kb101 c_3 c_7 c_11 T101.heap n0 O102 r101E r101V r101C r101A hlat) hZ (own_w G 36 rfl) (own_w G 35 rfl) (by decide) (by decide)) (g := (mkF m 153 #[.val (.int p0), .val (.int p1), .val (.int p2), .val (.int p3), .val (.int p4), .val (.int p5), .val (.int 3), .val (.ref b1), .val (.ref b76), .val (.ref b96), .val (.int (own_abs [c_3, c_7, c_11]))] [(.ref b96)])) rfl (by rw [hml]; rfl) (argsL := [(.ref b96)]) (rest := []) (lenOf pd_18 rfl) rfl (by show 2 * 0 + _ ≤ _; exact Nat.le_of_eq rfl) (hb hby at_153) (fun _ _ => ⟨rfl, eh104, (by decide : 4 + 0 ≤ _), (by decide : 15 + 0 ≤ _)⟩)
    dsimp only [Pt.U, Pt.locs, Pt.cells, Pt.slots] at X105 l105 y105 z105 st105 hQ105
    subst l105 y105 z105
    obtain ⟨rfl, N105q, eh105⟩ := hQ105
    have N105 := Fr.app N104 N105q
    refine OwnEnd.of (S' := T105.setTop (mkF m 156 #[.val (.int p0), .val (.int p1), .val (.int p2), .val (.int p3), .val (.int p4), .val (.int p5), .val (.int 3), .val (.ref b1), .val (.ref b76), .val (.ref b96), .val (.int (own_abs [c_3, c_7, c_11]))] [(.int (own_abs [c_3, c_7, c_11]))])) st105 ?_
    refine OwnEnd.of (S' := T105.setTop (mkF m 166 #[.val (.int p0), .val (.int p1), .val (.int p2), .val (.int p3), .val (.int p4), .val (.int p5), .val (.int 3), .val (.ref b1), .val (.ref b76), .val (.ref b96), .val (.int (own_abs [c_3, c_7, c_11]))] [(.int 1)])) (fun _ kK => XS.iload X105.here hx rfl (hb hby at_156) rfl (XS.icmpNo X105.here hx rfl (hb hby at_158) rfl (teq (rfl)).2 (XS.iconst X105.here hx rfl (hb hby at_161) (XS.goto X105.here hx rfl (pc0 := 162) (pc' := 166) rfl (hb hby at_162) (by decide) (by decide) kK)))) ?_
    refine OwnEnd.retW X105 Si0 (by omega) (v := (some (.int (nar .boolean (1 : Int32))))) (fun h => by rw [Bd.returns] at h; cases h) hlk (fun fs hr => retN X105 hx (t := .boolean) Bd.returns (by simp) (hb hby at_166) hr) (by decide) (by decide) (Q := Qlaw Z p0 p1 p2 p3 p4 p5 h0 n0) eh105 ?_
    exact ⟨rfl, N105, K102⟩
  · rw [hr]
    refine OwnEnd.of (S' := T21.setTop (mkF m 58 #[.val (.int p0), .val (.int p1), .val (.int p2), .val (.int p3), .val (.int p4), .val (.int p5), .val (.int 4), .val (.ref b1), .unset, .unset, .unset] [(.int 4)])) (fun _ kK => XS.iload X21.here hx rfl (hb hby at_56) rfl kK) ?_
    obtain ⟨T106, h106, k106, X106, e106, E106, A106, st106⟩ := newP X21 hx hZ (own_w G 1 rfl) e21 (g := (mkF m 58 #[.val (.int p0), .val (.int p1), .val (.int p2), .val (.int p3), .val (.int p4), .val (.int p5), .val (.int 4), .val (.ref b1), .unset, .unset, .unset] [(.int 4)])) rfl (hb hby at_58) rfl (by decide) (cap := 4) (by decide) (by decide) (by decide) (by decide)
    obtain ⟨b106, g106⟩ : ∃ z, z = Array.size h21 := ⟨_, rfl⟩
    rw [← g106] at A106 st106
    have lt_b106 := own_ltN' A106.lt
    have sz107 := E106.1
    have K107 := K22.ext E106
    have O107 := O22.ext E106
    have R107 := CHr.ext E106 CH22
    have CH107 := R107.1
    have V106 : Arv Z h106 b106 k106 .char (4 : Int32) [(.int 0), (.int 0), (.int 0), (.int 0)] (.int 0) := (Arv.new A106 (by decide)).pad (pad_rep [] (.int 0) 4)
    refine OwnEnd.of (S' := T106.setTop (mkF m 60 #[.val (.int p0), .val (.int p1), .val (.int p2), .val (.int p3), .val (.int p4), .val (.int p5), .val (.int 4), .val (.ref b1), .unset, .unset, .unset] [(.ref b106)])) st106 ?_
    refine OwnEnd.of (S' := T106.setTop (mkF m 73 #[.val (.int p0), .val (.int p1), .val (.int p2), .val (.int p3), .val (.int p4), .val (.int p5), .val (.int 4), .val (.ref b1), .val (.ref b106), .unset, .unset] [(.int 0), (.ref b1), (.int 0), (.ref b106)])) (fun _ kK => XS.astore X106.here hx rfl (hb hby at_60) rfl rfl (l' := #[.val (.int p0), .val (.int p1), .val (.int p2), .val (.int p3), .val (.int p4), .val (.int p5), .val (.int 4), .val (.ref b1), .val (.ref b106), .unset, .unset]) rfl (XS.iload X106.here hx rfl (hb hby at_62) rfl (XS.ifNo X106.here hx rfl (hb hby at_64) rfl ((if0 _ _).trans (tlt ((by decide : (0 : Int32) < (4 : Int32)))).2.2.2) (XS.aload X106.here hx rfl (hb hby at_67) rfl rfl (XS.iconst X106.here hx rfl (hb hby at_69) (XS.aload X106.here hx rfl (hb hby at_70) rfl rfl (XS.iconst X106.here hx rfl (hb hby at_72) kK))))))) ?_
    have f108 : Arv Z h106 b1 k1 .char (5 : Int32) [(.int c_3), (.int c_7), (.int c_11), (.int c_15), (.int c_19)] (.int 0) := (V23.ext E106)
    obtain ⟨cl109, Ar109, q109, S109, N109', H109, G109⟩ := id f108
    have hin110 : ¬ ((0 : Int32) < 0 ∨ cl109.slots.size ≤ ((0 : Int32)).toNatClampNeg) := inb_of S109 ⟨by decide, by decide⟩
    refine OwnEnd.of (S' := T106.setTop (mkF m 74 #[.val (.int p0), .val (.int p1), .val (.int p2), .val (.int p3), .val (.int p4), .val (.int p5), .val (.int 4), .val (.ref b1), .val (.ref b106), .unset, .unset] [(.int c_3), (.int 0), (.ref b106)])) (fun _ kK => X106.caload hx (j := (0 : Int32)) (v := (.int c_3)) (by rw [e106]; exact Ar109.1) (State.isArrayOf_alike hZ.alike Ar109.2.1) Ar109.2.2 hin110 (Has.at H109 hin110 (rfl)) (g := (mkF m 73 #[.val (.int p0), .val (.int p1), .val (.int p2), .val (.int p3), .val (.int p4), .val (.int p5), .val (.int 4), .val (.ref b1), .val (.ref b106), .unset, .unset] [(.int 0), (.ref b1), (.int 0), (.ref b106)])) rfl rfl (hb hby at_73) _ kK) ?_
    obtain ⟨cl111, Ar111, q111, S111, N111', H111, G111⟩ := id V106
    have hin112 : ¬ ((0 : Int32) < 0 ∨ cl111.slots.size ≤ ((0 : Int32)).toNatClampNeg) := inb_of S111 ⟨by decide, by decide⟩
    obtain ⟨T112, h112, X112, e112, W112, st112⟩ := stC X106 hx hZ e106 Ar111 (j := (0 : Int32)) hin112 (g := (mkF m 74 #[.val (.int p0), .val (.int p1), .val (.int p2), .val (.int p3), .val (.int p4), .val (.int p5), .val (.int 4), .val (.ref b1), .val (.ref b106), .unset, .unset] [(.int c_3), (.int 0), (.ref b106)])) rfl rfl (hb hby at_74)
    have N112 := Fr.snoc X112 N21 (by omega)
    have sz113 := own_wr_le W112
    have K113 := K107.wr W112 (Or.inr (by omega))
    have O113 := O107.wr W112 (by omega)
    have R113 := CHr.wr W112 (Safe.arv hZ.alike V106 (by decide)) CH107
    have CH113 := R113.1
    have V112 : Arv Z h112 b106 k106 .char (4 : Int32) [(.int (nar .char c_3)), (.int 0), (.int 0), (.int 0)] (.int 0) := Arv.set Ar111 q111 S111 N111' H111 G111 (fits_nar_char _) W112 0 rfl (Nat.le_of_ble_eq_true rfl)
    refine OwnEnd.of (S' := T112.setTop (mkF m 75 #[.val (.int p0), .val (.int p1), .val (.int p2), .val (.int p3), .val (.int p4), .val (.int p5), .val (.int 4), .val (.ref b1), .val (.ref b106), .unset, .unset] [])) st112 ?_
    refine OwnEnd.of (S' := T112.setTop (mkF m 87 #[.val (.int p0), .val (.int p1), .val (.int p2), .val (.int p3), .val (.int p4), .val (.int p5), .val (.int 4), .val (.ref b1), .val (.ref b106), .unset, .unset] [(.int 1), (.ref b1), (.int 1), (.ref b106)])) (fun _ kK => XS.iload X112.here hx rfl (hb hby at_75) rfl (XS.iconst X112.here hx rfl (hb hby at_77) (XS.icmpNo X112.here hx rfl (hb hby at_78) rfl (tlt ((by decide : (1 : Int32) < (4 : Int32)))).2.2.2 (XS.aload X112.here hx rfl (hb hby at_81) rfl rfl (XS.iconst X112.here hx rfl (hb hby at_83) (XS.aload X112.here hx rfl (hb hby at_84) rfl rfl (XS.iconst X112.here hx rfl (hb hby at_86) kK))))))) ?_
    have f114 : Arv Z h112 b1 k1 .char (5 : Int32) [(.int c_3), (.int c_7), (.int c_11), (.int c_15), (.int c_19)] (.int 0) := (f108.other W112 (own_ne (by omega)))
    obtain ⟨cl115, Ar115, q115, S115, N115', H115, G115⟩ := id f114
    have hin116 : ¬ ((1 : Int32) < 0 ∨ cl115.slots.size ≤ ((1 : Int32)).toNatClampNeg) := inb_of S115 ⟨by decide, by decide⟩
    refine OwnEnd.of (S' := T112.setTop (mkF m 88 #[.val (.int p0), .val (.int p1), .val (.int p2), .val (.int p3), .val (.int p4), .val (.int p5), .val (.int 4), .val (.ref b1), .val (.ref b106), .unset, .unset] [(.int c_7), (.int 1), (.ref b106)])) (fun _ kK => X112.caload hx (j := (1 : Int32)) (v := (.int c_7)) (by rw [e112]; exact Ar115.1) (State.isArrayOf_alike hZ.alike Ar115.2.1) Ar115.2.2 hin116 (Has.at H115 hin116 (rfl)) (g := (mkF m 87 #[.val (.int p0), .val (.int p1), .val (.int p2), .val (.int p3), .val (.int p4), .val (.int p5), .val (.int 4), .val (.ref b1), .val (.ref b106), .unset, .unset] [(.int 1), (.ref b1), (.int 1), (.ref b106)])) rfl rfl (hb hby at_87) _ kK) ?_
    obtain ⟨cl117, Ar117, q117, S117, N117', H117, G117⟩ := id V112
    have hin118 : ¬ ((1 : Int32) < 0 ∨ cl117.slots.size ≤ ((1 : Int32)).toNatClampNeg) := inb_of S117 ⟨by decide, by decide⟩
    obtain ⟨T118, h118, X118, e118, W118, st118⟩ := stC X112 hx hZ e112 Ar117 (j := (1 : Int32)) hin118 (g := (mkF m 88 #[.val (.int p0), .val (.int p1), .val (.int p2), .val (.int p3), .val (.int p4), .val (.int p5), .val (.int 4), .val (.ref b1), .val (.ref b106), .unset, .unset] [(.int c_7), (.int 1), (.ref b106)])) rfl rfl (hb hby at_88)
    have N118 := Fr.snoc X118 N112 (by omega)
    have sz119 := own_wr_le W118
    have K119 := K113.wr W118 (Or.inr (by omega))
    have O119 := O113.wr W118 (by omega)
    have R119 := CHr.wr W118 (Safe.arv hZ.alike V112 (by decide)) CH113
    have CH119 := R119.1
    have V118 : Arv Z h118 b106 k106 .char (4 : Int32) [(.int (nar .char c_3)), (.int (nar .char c_7)), (.int 0), (.int 0)] (.int 0) := Arv.set Ar117 q117 S117 N117' H117 G117 (fits_nar_char _) W118 1 rfl (Nat.le_of_ble_eq_true rfl)
    refine OwnEnd.of (S' := T118.setTop (mkF m 89 #[.val (.int p0), .val (.int p1), .val (.int p2), .val (.int p3), .val (.int p4), .val (.int p5), .val (.int 4), .val (.ref b1), .val (.ref b106), .unset, .unset] [])) st118 ?_
    refine OwnEnd.of (S' := T118.setTop (mkF m 101 #[.val (.int p0), .val (.int p1), .val (.int p2), .val (.int p3), .val (.int p4), .val (.int p5), .val (.int 4), .val (.ref b1), .val (.ref b106), .unset, .unset] [(.int 2), (.ref b1), (.int 2), (.ref b106)])) (fun _ kK => XS.iload X118.here hx rfl (hb hby at_89) rfl (XS.iconst X118.here hx rfl (hb hby at_91) (XS.icmpNo X118.here hx rfl (hb hby at_92) rfl (tlt ((by decide : (2 : Int32) < (4 : Int32)))).2.2.2 (XS.aload X118.here hx rfl (hb hby at_95) rfl rfl (XS.iconst X118.here hx rfl (hb hby at_97) (XS.aload X118.here hx rfl (hb hby at_98) rfl rfl (XS.iconst X118.here hx rfl (hb hby at_100) kK))))))) ?_
    have f120 : Arv Z h118 b1 k1 .char (5 : Int32) [(.int c_3), (.int c_7), (.int c_11), (.int c_15), (.int c_19)] (.int 0) := (f114.other W118 (own_ne (by omega)))
    obtain ⟨cl121, Ar121, q121, S121, N121', H121, G121⟩ := id f120
    have hin122 : ¬ ((2 : Int32) < 0 ∨ cl121.slots.size ≤ ((2 : Int32)).toNatClampNeg) := inb_of S121 ⟨by decide, by decide⟩
    refine OwnEnd.of (S' := T118.setTop (mkF m 102 #[.val (.int p0), .val (.int p1), .val (.int p2), .val (.int p3), .val (.int p4), .val (.int p5), .val (.int 4), .val (.ref b1), .val (.ref b106), .unset, .unset] [(.int c_11), (.int 2), (.ref b106)])) (fun _ kK => X118.caload hx (j := (2 : Int32)) (v := (.int c_11)) (by rw [e118]; exact Ar121.1) (State.isArrayOf_alike hZ.alike Ar121.2.1) Ar121.2.2 hin122 (Has.at H121 hin122 (rfl)) (g := (mkF m 101 #[.val (.int p0), .val (.int p1), .val (.int p2), .val (.int p3), .val (.int p4), .val (.int p5), .val (.int 4), .val (.ref b1), .val (.ref b106), .unset, .unset] [(.int 2), (.ref b1), (.int 2), (.ref b106)])) rfl rfl (hb hby at_101) _ kK) ?_
    obtain ⟨cl123, Ar123, q123, S123, N123', H123, G123⟩ := id V118
    have hin124 : ¬ ((2 : Int32) < 0 ∨ cl123.slots.size ≤ ((2 : Int32)).toNatClampNeg) := inb_of S123 ⟨by decide, by decide⟩
    obtain ⟨T124, h124, X124, e124, W124, st124⟩ := stC X118 hx hZ e118 Ar123 (j := (2 : Int32)) hin124 (g := (mkF m 102 #[.val (.int p0), .val (.int p1), .val (.int p2), .val (.int p3), .val (.int p4), .val (.int p5), .val (.int 4), .val (.ref b1), .val (.ref b106), .unset, .unset] [(.int c_11), (.int 2), (.ref b106)])) rfl rfl (hb hby at_102)
    have N124 := Fr.snoc X124 N118 (by omega)
    have sz125 := own_wr_le W124
    have K125 := K119.wr W124 (Or.inr (by omega))
    have O125 := O119.wr W124 (by omega)
    have R125 := CHr.wr W124 (Safe.arv hZ.alike V118 (by decide)) CH119
    have CH125 := R125.1
    have V124 : Arv Z h124 b106 k106 .char (4 : Int32) [(.int (nar .char c_3)), (.int (nar .char c_7)), (.int (nar .char c_11)), (.int 0)] (.int 0) := Arv.set Ar123 q123 S123 N123' H123 G123 (fits_nar_char _) W124 2 rfl (Nat.le_of_ble_eq_true rfl)
    refine OwnEnd.of (S' := T124.setTop (mkF m 103 #[.val (.int p0), .val (.int p1), .val (.int p2), .val (.int p3), .val (.int p4), .val (.int p5), .val (.int 4), .val (.ref b1), .val (.ref b106), .unset, .unset] [])) st124 ?_
    refine OwnEnd.of (S' := T124.setTop (mkF m 115 #[.val (.int p0), .val (.int p1), .val (.int p2), .val (.int p3), .val (.int p4), .val (.int p5), .val (.int 4), .val (.ref b1), .val (.ref b106), .unset, .unset] [(.int 3), (.ref b1), (.int 3), (.ref b106)])) (fun _ kK => XS.iload X124.here hx rfl (hb hby at_103) rfl (XS.iconst X124.here hx rfl (hb hby at_105) (XS.icmpNo X124.here hx rfl (hb hby at_106) rfl (tlt ((by decide : (3 : Int32) < (4 : Int32)))).2.2.2 (XS.aload X124.here hx rfl (hb hby at_109) rfl rfl (XS.iconst X124.here hx rfl (hb hby at_111) (XS.aload X124.here hx rfl (hb hby at_112) rfl rfl (XS.iconst X124.here hx rfl (hb hby at_114) kK))))))) ?_
    have f126 : Arv Z h124 b1 k1 .char (5 : Int32) [(.int c_3), (.int c_7), (.int c_11), (.int c_15), (.int c_19)] (.int 0) := (f120.other W124 (own_ne (by omega)))
    obtain ⟨cl127, Ar127, q127, S127, N127', H127, G127⟩ := id f126
    have hin128 : ¬ ((3 : Int32) < 0 ∨ cl127.slots.size ≤ ((3 : Int32)).toNatClampNeg) := inb_of S127 ⟨by decide, by decide⟩
    refine OwnEnd.of (S' := T124.setTop (mkF m 116 #[.val (.int p0), .val (.int p1), .val (.int p2), .val (.int p3), .val (.int p4), .val (.int p5), .val (.int 4), .val (.ref b1), .val (.ref b106), .unset, .unset] [(.int c_15), (.int 3), (.ref b106)])) (fun _ kK => X124.caload hx (j := (3 : Int32)) (v := (.int c_15)) (by rw [e124]; exact Ar127.1) (State.isArrayOf_alike hZ.alike Ar127.2.1) Ar127.2.2 hin128 (Has.at H127 hin128 (rfl)) (g := (mkF m 115 #[.val (.int p0), .val (.int p1), .val (.int p2), .val (.int p3), .val (.int p4), .val (.int p5), .val (.int 4), .val (.ref b1), .val (.ref b106), .unset, .unset] [(.int 3), (.ref b1), (.int 3), (.ref b106)])) rfl rfl (hb hby at_115) _ kK) ?_
    obtain ⟨cl129, Ar129, q129, S129, N129', H129, G129⟩ := id V124
    have hin130 : ¬ ((3 : Int32) < 0 ∨ cl129.slots.size ≤ ((3 : Int32)).toNatClampNeg) := inb_of S129 ⟨by decide, by decide⟩
    obtain ⟨T130, h130, X130, e130, W130, st130⟩ := stC X124 hx hZ e124 Ar129 (j := (3 : Int32)) hin130 (g := (mkF m 116 #[.val (.int p0), .val (.int p1), .val (.int p2), .val (.int p3), .val (.int p4), .val (.int p5), .val (.int 4), .val (.ref b1), .val (.ref b106), .unset, .unset] [(.int c_15), (.int 3), (.ref b106)])) rfl rfl (hb hby at_116)
    have N130 := Fr.snoc X130 N124 (by omega)
    have sz131 := own_wr_le W130
    have K131 := K125.wr W130 (Or.inr (by omega))
    have O131 := O125.wr W130 (by omega)
    have R131 := CHr.wr W130 (Safe.arv hZ.alike V124 (by decide)) CH125
    have CH131 := R131.1
    have V130 : Arv Z h130 b106 k106 .char (4 : Int32) [(.int (nar .char c_3)), (.int (nar .char c_7)), (.int (nar .char c_11)), (.int (nar .char c_15))] (.int 0) := Arv.set Ar129 q129 S129 N129' H129 G129 (fits_nar_char _) W130 3 rfl (Nat.le_of_ble_eq_true rfl)
    refine OwnEnd.of (S' := T130.setTop (mkF m 117 #[.val (.int p0), .val (.int p1), .val (.int p2), .val (.int p3), .val (.int p4), .val (.int p5), .val (.int 4), .val (.ref b1), .val (.ref b106), .unset, .unset] [])) st130 ?_
    refine OwnEnd.of (S' := T130.setTop (mkF m 131 #[.val (.int p0), .val (.int p1), .val (.int p2), .val (.int p3), .val (.int p4), .val (.int p5), .val (.int 4), .val (.ref b1), .val (.ref b106), .unset, .unset] [])) (fun _ kK => XS.iload X130.here hx rfl (hb hby at_117) rfl (XS.iconst X130.here hx rfl (hb hby at_119) (XS.icmpYes X130.here hx rfl (pc0 := 120) (pc' := 131) rfl (hb hby at_120) rfl (flt ((by decide : ¬ ((4 : Int32) < (4 : Int32))))).2.2.2 (by decide) (by decide) kK))) ?_
    obtain ⟨T132, h132, X132, e132, E132, A132, D132, -, st132⟩ := newO X130 hx hZ hown (own_w G 6 rfl) (own_w G 7 rfl) (own_w G 8 rfl) e130 (g := (mkF m 131 #[.val (.int p0), .val (.int p1), .val (.int p2), .val (.int p3), .val (.int p4), .val (.int p5), .val (.int 4), .val (.ref b1), .val (.ref b106), .unset, .unset] [])) rfl (hb hby at_131) (by decide) (by decide)
    obtain ⟨b132, g132⟩ : ∃ z, z = Array.size h130 := ⟨_, rfl⟩
    rw [← g132] at A132 D132 st132
    have lt_b132 := own_ltN' A132.lt
    have sz133 := E132.1
    have K133 := K131.ext E132
    have O133 := O131.ext E132
    have R133 := CHr.ext E132 CH131
    have CH133 := R133.1
    have Sf132 : Safe Z consts_1 s.vm h132 b132 := Safe.ext E132 CH131 (Safe.new (by omega))
    have F132_value : Fld Z h132 b132 "java/lang/String" "value" "[B" .null := D132 (Or.inr (own_w G 21 rfl)) (ty := (.array .byte)) (by decide)
    have F132_coder : Fld Z h132 b132 "java/lang/String" "coder" "B" (.int 0) := D132 (Or.inr (own_w G 22 rfl)) (ty := .byte) (by decide)
    refine OwnEnd.of (S' := T132.setTop (mkF m 134 #[.val (.int p0), .val (.int p1), .val (.int p2), .val (.int p3), .val (.int p4), .val (.int p5), .val (.int 4), .val (.ref b1), .val (.ref b106), .unset, .unset] [(.ref b132)])) st132 ?_
    refine OwnEnd.of (S' := T132.setTop (mkF m 137 #[.val (.int p0), .val (.int p1), .val (.int p2), .val (.int p3), .val (.int p4), .val (.int p5), .val (.int 4), .val (.ref b1), .val (.ref b106), .unset, .unset] [(.ref b106), (.ref b132), (.ref b132)])) (fun _ kK => XS.dup X132.here hx rfl (hb hby at_134) rfl rfl (XS.aload X132.here hx rfl (hb hby at_135) rfl rfl kK)) ?_
    have f134 : Arv Z h132 b106 k106 .char (4 : Int32) [(.int (nar .char c_3)), (.int (nar .char c_7)), (.int (nar .char c_11)), (.int (nar .char c_15))] (.int 0) := (V130.ext E132)
    have V135 : Arv Z h132 b106 k106 .char (4 : Int32) [(.int c_3), (.int c_7), (.int c_11), (.int c_15)] (.int 0) := by have q := f134; rw [own_narc r3_0.1 (own_255 r3_0.2), own_narc r7_0.1 (own_255 r7_0.2), own_narc r11_0.1 (own_255 r11_0.2), own_narc r15_0.1 (own_255 r15_0.2)] at q; exact q
    have hlat : ∀ c ∈ ([c_3, c_7, c_11, c_15] : List Int32), ¬ c < (0 : Int32) ∧ ¬ (255 : Int32) < c := own_all_4 r3_0 r7_0 r11_0 r15_0
    have hws : ∀ d ∈ StrChars.Road.words, d.before a0 Z = true := fun d hd => hw d (own_words d hd)
    have hp136 : ∀ c ∈ ([c_3, c_7, c_11, c_15] : List Int32), ¬ c < 0 ∧ ¬ (255 : Int32) < c := hlat
    obtain ⟨_, _, ⟨T137, L137, k137, n137⟩, -, X137, ⟨Lc137, hQ137, l137, y137, z137⟩, st137⟩ := Jvm.Stand.specialBack X132 hx (y := own_m1) rfl hown (mvT hZ (own_w G 9 rfl)) (mvT hZ (own_w G 10 rfl)) (mvT hZ (own_w G 11 rfl)) (by decide) (StrChars.Road.backV (W := 1) hZ hws (kI := 4) (own_w G 7 rfl) (cs := [c_3, c_7, c_11, c_15]) (bs := ([c_3, c_7, c_11, c_15] : List Int32).map (fun c => c.toInt8.toInt32)) (n := 4) (n0 := n0) (by omega) (by omega) A132 F132_value F132_coder V135 (SCS.ext O133.2) PCS rfl rfl (by decide) (by decide) hp136 rfl (by decide) (by decide)) (g := (mkF m 137 #[.val (.int p0), .val (.int p1), .val (.int p2), .val (.int p3), .val (.int p4), .val (.int p5), .val (.int 4), .val (.ref b1), .val (.ref b106), .unset, .unset] [(.ref b106), (.ref b132), (.ref b132)])) rfl (by rw [hml]; rfl) (Steps.refl _) (a := b132) (argsL := [(.ref b106)]) (rest := [(.ref b132)]) (lenOf pd_16 rfl) rfl (by show 2 * 0 + _ ≤ _; exact Nat.le_of_eq rfl) (hb hby at_137) (fun _ _ => ⟨rfl, e132, (by decide : 3 + 1 ≤ _), (by decide : 13 + 4 ≤ _)⟩)
    dsimp only [Pt.U, Pt.locs, Pt.cells, Pt.slots] at X137 l137 y137 z137 st137 hQ137
    subst l137 y137 z137
    obtain ⟨rfl, N137q, Kq137, r137E, r137C, t137, kb137, u137, w137, x137, r137V, r137A⟩ := hQ137
    have N137 := Fr.app N130 N137q
    have sz138 := Kq137.1
    have K138 := K133.trans Kq137 (own_all1 (Or.inr (by omega)))
    have O138 := O133.keep Kq137 (own_all1 (by omega))
    have R138 := CHr.keep Kq137 (sfS Sf132 sf0) CH133
    have CH138 := R138.1
    have lt_t137 := own_ltN' r137A.lt
    refine OwnEnd.tr (S' := T137.setTop (mkF m 140 #[.val (.int p0), .val (.int p1), .val (.int p2), .val (.int p3), .val (.int p4), .val (.int p5), .val (.int 4), .val (.ref b1), .val (.ref b106), .unset, .unset] [(.ref b132)])) st137 ?_
    refine OwnEnd.of (S' := T137.setTop (mkF m 146 #[.val (.int p0), .val (.int p1), .val (.int p2), .val (.int p3), .val (.int p4), .val (.int p5), .val (.int 4), .val (.ref b1), .val (.ref b106), .val (.ref b132), .unset] [(.int 4), (.ref b1)])) (fun _ kK => XS.astore X137.here hx rfl (hb hby at_140) rfl rfl (l' := #[.val (.int p0), .val (.int p1), .val (.int p2), .val (.int p3), .val (.int p4), .val (.int p5), .val (.int 4), .val (.ref b1), .val (.ref b106), .val (.ref b132), .unset]) rfl (XS.aload X137.here hx rfl (hb hby at_142) rfl rfl (XS.iload X137.here hx rfl (hb hby at_144) rfl kK))) ?_
    have f139 : Arv Z T137.heap b1 k1 .char (5 : Int32) [(.int c_3), (.int c_7), (.int c_11), (.int c_15), (.int c_19)] (.int 0) := (((f126.other W130 (own_ne (by omega))).ext E132).keep Kq137 (own_nin1 (own_ne (by omega))))
    obtain ⟨_, _, ⟨T140, L140, k140, n140⟩, -, X140, ⟨Lc140, hQ140, l140, y140, z140⟩, st140⟩ := Jvm.LawKit.callS X137 hx (y := own_m14) hown (mvT hZ (own_w G 27 rfl)) (mvT hZ (own_w G 28 rfl)) (mvT hZ (own_w G 4 rfl)) (mvT hZ (own_w G 29 rfl)) (by decide) (backOf (W := 0) (rmrf l Z a0 G [] b1 k1 (.int 0) c_3 c_7 c_11 c_15 c_19 (4 : Int32) (own_ix (0 : Int32) [c_3, c_7, c_11, c_15]) T137.heap n0 O138 f139 (Or.inr (Or.inr (Or.inr (Or.inr (Or.inl ⟨rfl, rfl⟩)))))) hZ (own_w G 29 rfl) (own_w G 4 rfl) (by decide) (by decide)) (g := (mkF m 146 #[.val (.int p0), .val (.int p1), .val (.int p2), .val (.int p3), .val (.int p4), .val (.int p5), .val (.int 4), .val (.ref b1), .val (.ref b106), .val (.ref b132), .unset] [(.int 4), (.ref b1)])) rfl (by rw [hml]; rfl) (argsL := [(.ref b1), (.int 4)]) (rest := []) (lenOf pd_17 rfl) rfl (by show 2 * 0 + _ ≤ _; exact Nat.le_of_eq rfl) (hb hby at_146) (fun _ _ => ⟨rfl, rfl, (by decide : 4 + 0 ≤ _), (by decide : 17 + 0 ≤ _)⟩)
    dsimp only [Pt.U, Pt.locs, Pt.cells, Pt.slots] at X140 l140 y140 z140 st140 hQ140
    subst l140 y140 z140
    obtain ⟨rfl, N140q, eh140⟩ := hQ140
    have N140 := Fr.app N137 N140q
    refine OwnEnd.of (S' := T140.setTop (mkF m 149 #[.val (.int p0), .val (.int p1), .val (.int p2), .val (.int p3), .val (.int p4), .val (.int p5), .val (.int 4), .val (.ref b1), .val (.ref b106), .val (.ref b132), .unset] [(.int (own_rfv (4 : Int32) (own_ix (0 : Int32) [c_3, c_7, c_11, c_15]) c_3 c_7 c_11 c_15 c_19))])) st140 ?_
    rw [own_rfa4 c_3 c_7 c_11 c_15 c_19]
    refine OwnEnd.of (S' := T140.setTop (mkF m 153 #[.val (.int p0), .val (.int p1), .val (.int p2), .val (.int p3), .val (.int p4), .val (.int p5), .val (.int 4), .val (.ref b1), .val (.ref b106), .val (.ref b132), .val (.int (own_abs [c_3, c_7, c_11, c_15]))] [(.ref b132)])) (fun _ kK => XS.istore X140.here hx rfl (hb hby at_149) rfl (l' := #[.val (.int p0), .val (.int p1), .val (.int p2), .val (.int p3), .val (.int p4), .val (.int p5), .val (.int 4), .val (.ref b1), .val (.ref b106), .val (.ref b132), .val (.int (own_abs [c_3, c_7, c_11, c_15]))]) rfl (XS.aload X140.here hx rfl (hb hby at_151) rfl rfl kK)) ?_
    obtain ⟨_, _, ⟨T141, L141, k141, n141⟩, -, X141, ⟨Lc141, hQ141, l141, y141, z141⟩, st141⟩ := Jvm.LawKit.callS X140 hx (y := own_m23) hown (mvT hZ (own_w G 33 rfl)) (mvT hZ (own_w G 34 rfl)) (mvT hZ (own_w G 35 rfl)) (mvT hZ (own_w G 36 rfl)) (by decide) (backOf (W := 0) (rmia4 l Z a0 G [] b132 t137 kb137 c_3 c_7 c_11 c_15 T137.heap n0 O138 r137E r137V r137C r137A hlat) hZ (own_w G 36 rfl) (own_w G 35 rfl) (by decide) (by decide)) (g := (mkF m 153 #[.val (.int p0), .val (.int p1), .val (.int p2), .val (.int p3), .val (.int p4), .val (.int p5), .val (.int 4), .val (.ref b1), .val (.ref b106), .val (.ref b132), .val (.int (own_abs [c_3, c_7, c_11, c_15]))] [(.ref b132)])) rfl (by rw [hml]; rfl) (argsL := [(.ref b132)]) (rest := []) (lenOf pd_18 rfl) rfl (by show 2 * 0 + _ ≤ _; exact Nat.le_of_eq rfl) (hb hby at_153) (fun _ _ => ⟨rfl, eh140, (by decide : 4 + 0 ≤ _), (by decide : 17 + 0 ≤ _)⟩)
    dsimp only [Pt.U, Pt.locs, Pt.cells, Pt.slots] at X141 l141 y141 z141 st141 hQ141
    subst l141 y141 z141
    obtain ⟨rfl, N141q, eh141⟩ := hQ141
    have N141 := Fr.app N140 N141q
    refine OwnEnd.of (S' := T141.setTop (mkF m 156 #[.val (.int p0), .val (.int p1), .val (.int p2), .val (.int p3), .val (.int p4), .val (.int p5), .val (.int 4), .val (.ref b1), .val (.ref b106), .val (.ref b132), .val (.int (own_abs [c_3, c_7, c_11, c_15]))] [(.int (own_abs [c_3, c_7, c_11, c_15]))])) st141 ?_
    refine OwnEnd.of (S' := T141.setTop (mkF m 166 #[.val (.int p0), .val (.int p1), .val (.int p2), .val (.int p3), .val (.int p4), .val (.int p5), .val (.int 4), .val (.ref b1), .val (.ref b106), .val (.ref b132), .val (.int (own_abs [c_3, c_7, c_11, c_15]))] [(.int 1)])) (fun _ kK => XS.iload X141.here hx rfl (hb hby at_156) rfl (XS.icmpNo X141.here hx rfl (hb hby at_158) rfl (teq (rfl)).2 (XS.iconst X141.here hx rfl (hb hby at_161) (XS.goto X141.here hx rfl (pc0 := 162) (pc' := 166) rfl (hb hby at_162) (by decide) (by decide) kK)))) ?_
    refine OwnEnd.retW X141 Si0 (by omega) (v := (some (.int (nar .boolean (1 : Int32))))) (fun h => by rw [Bd.returns] at h; cases h) hlk (fun fs hr => retN X141 hx (t := .boolean) Bd.returns (by simp) (hb hby at_166) hr) (by decide) (by decide) (Q := Qlaw Z p0 p1 p2 p3 p4 p5 h0 n0) eh141 ?_
    exact ⟨rfl, N141, K138⟩
  · rw [hr]
    refine OwnEnd.of (S' := T21.setTop (mkF m 58 #[.val (.int p0), .val (.int p1), .val (.int p2), .val (.int p3), .val (.int p4), .val (.int p5), .val (.int 5), .val (.ref b1), .unset, .unset, .unset] [(.int 5)])) (fun _ kK => XS.iload X21.here hx rfl (hb hby at_56) rfl kK) ?_
    obtain ⟨T142, h142, k142, X142, e142, E142, A142, st142⟩ := newP X21 hx hZ (own_w G 1 rfl) e21 (g := (mkF m 58 #[.val (.int p0), .val (.int p1), .val (.int p2), .val (.int p3), .val (.int p4), .val (.int p5), .val (.int 5), .val (.ref b1), .unset, .unset, .unset] [(.int 5)])) rfl (hb hby at_58) rfl (by decide) (cap := 5) (by decide) (by decide) (by decide) (by decide)
    obtain ⟨b142, g142⟩ : ∃ z, z = Array.size h21 := ⟨_, rfl⟩
    rw [← g142] at A142 st142
    have lt_b142 := own_ltN' A142.lt
    have sz143 := E142.1
    have K143 := K22.ext E142
    have O143 := O22.ext E142
    have R143 := CHr.ext E142 CH22
    have CH143 := R143.1
    have V142 : Arv Z h142 b142 k142 .char (5 : Int32) [(.int 0), (.int 0), (.int 0), (.int 0), (.int 0)] (.int 0) := (Arv.new A142 (by decide)).pad (pad_rep [] (.int 0) 5)
    refine OwnEnd.of (S' := T142.setTop (mkF m 60 #[.val (.int p0), .val (.int p1), .val (.int p2), .val (.int p3), .val (.int p4), .val (.int p5), .val (.int 5), .val (.ref b1), .unset, .unset, .unset] [(.ref b142)])) st142 ?_
    refine OwnEnd.of (S' := T142.setTop (mkF m 73 #[.val (.int p0), .val (.int p1), .val (.int p2), .val (.int p3), .val (.int p4), .val (.int p5), .val (.int 5), .val (.ref b1), .val (.ref b142), .unset, .unset] [(.int 0), (.ref b1), (.int 0), (.ref b142)])) (fun _ kK => XS.astore X142.here hx rfl (hb hby at_60) rfl rfl (l' := #[.val (.int p0), .val (.int p1), .val (.int p2), .val (.int p3), .val (.int p4), .val (.int p5), .val (.int 5), .val (.ref b1), .val (.ref b142), .unset, .unset]) rfl (XS.iload X142.here hx rfl (hb hby at_62) rfl (XS.ifNo X142.here hx rfl (hb hby at_64) rfl ((if0 _ _).trans (tlt ((by decide : (0 : Int32) < (5 : Int32)))).2.2.2) (XS.aload X142.here hx rfl (hb hby at_67) rfl rfl (XS.iconst X142.here hx rfl (hb hby at_69) (XS.aload X142.here hx rfl (hb hby at_70) rfl rfl (XS.iconst X142.here hx rfl (hb hby at_72) kK))))))) ?_
    have f144 : Arv Z h142 b1 k1 .char (5 : Int32) [(.int c_3), (.int c_7), (.int c_11), (.int c_15), (.int c_19)] (.int 0) := (V23.ext E142)
    obtain ⟨cl145, Ar145, q145, S145, N145', H145, G145⟩ := id f144
    have hin146 : ¬ ((0 : Int32) < 0 ∨ cl145.slots.size ≤ ((0 : Int32)).toNatClampNeg) := inb_of S145 ⟨by decide, by decide⟩
    refine OwnEnd.of (S' := T142.setTop (mkF m 74 #[.val (.int p0), .val (.int p1), .val (.int p2), .val (.int p3), .val (.int p4), .val (.int p5), .val (.int 5), .val (.ref b1), .val (.ref b142), .unset, .unset] [(.int c_3), (.int 0), (.ref b142)])) (fun _ kK => X142.caload hx (j := (0 : Int32)) (v := (.int c_3)) (by rw [e142]; exact Ar145.1) (State.isArrayOf_alike hZ.alike Ar145.2.1) Ar145.2.2 hin146 (Has.at H145 hin146 (rfl)) (g := (mkF m 73 #[.val (.int p0), .val (.int p1), .val (.int p2), .val (.int p3), .val (.int p4), .val (.int p5), .val (.int 5), .val (.ref b1), .val (.ref b142), .unset, .unset] [(.int 0), (.ref b1), (.int 0), (.ref b142)])) rfl rfl (hb hby at_73) _ kK) ?_
    obtain ⟨cl147, Ar147, q147, S147, N147', H147, G147⟩ := id V142
    have hin148 : ¬ ((0 : Int32) < 0 ∨ cl147.slots.size ≤ ((0 : Int32)).toNatClampNeg) := inb_of S147 ⟨by decide, by decide⟩
    obtain ⟨T148, h148, X148, e148, W148, st148⟩ := stC X142 hx hZ e142 Ar147 (j := (0 : Int32)) hin148 (g := (mkF m 74 #[.val (.int p0), .val (.int p1), .val (.int p2), .val (.int p3), .val (.int p4), .val (.int p5), .val (.int 5), .val (.ref b1), .val (.ref b142), .unset, .unset] [(.int c_3), (.int 0), (.ref b142)])) rfl rfl (hb hby at_74)
    have N148 := Fr.snoc X148 N21 (by omega)
    have sz149 := own_wr_le W148
    have K149 := K143.wr W148 (Or.inr (by omega))
    have O149 := O143.wr W148 (by omega)
    have R149 := CHr.wr W148 (Safe.arv hZ.alike V142 (by decide)) CH143
    have CH149 := R149.1
    have V148 : Arv Z h148 b142 k142 .char (5 : Int32) [(.int (nar .char c_3)), (.int 0), (.int 0), (.int 0), (.int 0)] (.int 0) := Arv.set Ar147 q147 S147 N147' H147 G147 (fits_nar_char _) W148 0 rfl (Nat.le_of_ble_eq_true rfl)
    refine OwnEnd.of (S' := T148.setTop (mkF m 75 #[.val (.int p0), .val (.int p1), .val (.int p2), .val (.int p3), .val (.int p4), .val (.int p5), .val (.int 5), .val (.ref b1), .val (.ref b142), .unset, .unset] [])) st148 ?_
    refine OwnEnd.of (S' := T148.setTop (mkF m 87 #[.val (.int p0), .val (.int p1), .val (.int p2), .val (.int p3), .val (.int p4), .val (.int p5), .val (.int 5), .val (.ref b1), .val (.ref b142), .unset, .unset] [(.int 1), (.ref b1), (.int 1), (.ref b142)])) (fun _ kK => XS.iload X148.here hx rfl (hb hby at_75) rfl (XS.iconst X148.here hx rfl (hb hby at_77) (XS.icmpNo X148.here hx rfl (hb hby at_78) rfl (tlt ((by decide : (1 : Int32) < (5 : Int32)))).2.2.2 (XS.aload X148.here hx rfl (hb hby at_81) rfl rfl (XS.iconst X148.here hx rfl (hb hby at_83) (XS.aload X148.here hx rfl (hb hby at_84) rfl rfl (XS.iconst X148.here hx rfl (hb hby at_86) kK))))))) ?_
    have f150 : Arv Z h148 b1 k1 .char (5 : Int32) [(.int c_3), (.int c_7), (.int c_11), (.int c_15), (.int c_19)] (.int 0) := (f144.other W148 (own_ne (by omega)))
    obtain ⟨cl151, Ar151, q151, S151, N151', H151, G151⟩ := id f150
    have hin152 : ¬ ((1 : Int32) < 0 ∨ cl151.slots.size ≤ ((1 : Int32)).toNatClampNeg) := inb_of S151 ⟨by decide, by decide⟩
    refine OwnEnd.of (S' := T148.setTop (mkF m 88 #[.val (.int p0), .val (.int p1), .val (.int p2), .val (.int p3), .val (.int p4), .val (.int p5), .val (.int 5), .val (.ref b1), .val (.ref b142), .unset, .unset] [(.int c_7), (.int 1), (.ref b142)])) (fun _ kK => X148.caload hx (j := (1 : Int32)) (v := (.int c_7)) (by rw [e148]; exact Ar151.1) (State.isArrayOf_alike hZ.alike Ar151.2.1) Ar151.2.2 hin152 (Has.at H151 hin152 (rfl)) (g := (mkF m 87 #[.val (.int p0), .val (.int p1), .val (.int p2), .val (.int p3), .val (.int p4), .val (.int p5), .val (.int 5), .val (.ref b1), .val (.ref b142), .unset, .unset] [(.int 1), (.ref b1), (.int 1), (.ref b142)])) rfl rfl (hb hby at_87) _ kK) ?_
    obtain ⟨cl153, Ar153, q153, S153, N153', H153, G153⟩ := id V148
    have hin154 : ¬ ((1 : Int32) < 0 ∨ cl153.slots.size ≤ ((1 : Int32)).toNatClampNeg) := inb_of S153 ⟨by decide, by decide⟩
    obtain ⟨T154, h154, X154, e154, W154, st154⟩ := stC X148 hx hZ e148 Ar153 (j := (1 : Int32)) hin154 (g := (mkF m 88 #[.val (.int p0), .val (.int p1), .val (.int p2), .val (.int p3), .val (.int p4), .val (.int p5), .val (.int 5), .val (.ref b1), .val (.ref b142), .unset, .unset] [(.int c_7), (.int 1), (.ref b142)])) rfl rfl (hb hby at_88)
    have N154 := Fr.snoc X154 N148 (by omega)
    have sz155 := own_wr_le W154
    have K155 := K149.wr W154 (Or.inr (by omega))
    have O155 := O149.wr W154 (by omega)
    have R155 := CHr.wr W154 (Safe.arv hZ.alike V148 (by decide)) CH149
    have CH155 := R155.1
    have V154 : Arv Z h154 b142 k142 .char (5 : Int32) [(.int (nar .char c_3)), (.int (nar .char c_7)), (.int 0), (.int 0), (.int 0)] (.int 0) := Arv.set Ar153 q153 S153 N153' H153 G153 (fits_nar_char _) W154 1 rfl (Nat.le_of_ble_eq_true rfl)
    refine OwnEnd.of (S' := T154.setTop (mkF m 89 #[.val (.int p0), .val (.int p1), .val (.int p2), .val (.int p3), .val (.int p4), .val (.int p5), .val (.int 5), .val (.ref b1), .val (.ref b142), .unset, .unset] [])) st154 ?_
    refine OwnEnd.of (S' := T154.setTop (mkF m 101 #[.val (.int p0), .val (.int p1), .val (.int p2), .val (.int p3), .val (.int p4), .val (.int p5), .val (.int 5), .val (.ref b1), .val (.ref b142), .unset, .unset] [(.int 2), (.ref b1), (.int 2), (.ref b142)])) (fun _ kK => XS.iload X154.here hx rfl (hb hby at_89) rfl (XS.iconst X154.here hx rfl (hb hby at_91) (XS.icmpNo X154.here hx rfl (hb hby at_92) rfl (tlt ((by decide : (2 : Int32) < (5 : Int32)))).2.2.2 (XS.aload X154.here hx rfl (hb hby at_95) rfl rfl (XS.iconst X154.here hx rfl (hb hby at_97) (XS.aload X154.here hx rfl (hb hby at_98) rfl rfl (XS.iconst X154.here hx rfl (hb hby at_100) kK))))))) ?_
    have f156 : Arv Z h154 b1 k1 .char (5 : Int32) [(.int c_3), (.int c_7), (.int c_11), (.int c_15), (.int c_19)] (.int 0) := (f150.other W154 (own_ne (by omega)))
    obtain ⟨cl157, Ar157, q157, S157, N157', H157, G157⟩ := id f156
    have hin158 : ¬ ((2 : Int32) < 0 ∨ cl157.slots.size ≤ ((2 : Int32)).toNatClampNeg) := inb_of S157 ⟨by decide, by decide⟩
    refine OwnEnd.of (S' := T154.setTop (mkF m 102 #[.val (.int p0), .val (.int p1), .val (.int p2), .val (.int p3), .val (.int p4), .val (.int p5), .val (.int 5), .val (.ref b1), .val (.ref b142), .unset, .unset] [(.int c_11), (.int 2), (.ref b142)])) (fun _ kK => X154.caload hx (j := (2 : Int32)) (v := (.int c_11)) (by rw [e154]; exact Ar157.1) (State.isArrayOf_alike hZ.alike Ar157.2.1) Ar157.2.2 hin158 (Has.at H157 hin158 (rfl)) (g := (mkF m 101 #[.val (.int p0), .val (.int p1), .val (.int p2), .val (.int p3), .val (.int p4), .val (.int p5), .val (.int 5), .val (.ref b1), .val (.ref b142), .unset, .unset] [(.int 2), (.ref b1), (.int 2), (.ref b142)])) rfl rfl (hb hby at_101) _ kK) ?_
    obtain ⟨cl159, Ar159, q159, S159, N159', H159, G159⟩ := id V154
    have hin160 : ¬ ((2 : Int32) < 0 ∨ cl159.slots.size ≤ ((2 : Int32)).toNatClampNeg) := inb_of S159 ⟨by decide, by decide⟩
    obtain ⟨T160, h160, X160, e160, W160, st160⟩ := stC X154 hx hZ e154 Ar159 (j := (2 : Int32)) hin160 (g := (mkF m 102 #[.val (.int p0), .val (.int p1), .val (.int p2), .val (.int p3), .val (.int p4), .val (.int p5), .val (.int 5), .val (.ref b1), .val (.ref b142), .unset, .unset] [(.int c_11), (.int 2), (.ref b142)])) rfl rfl (hb hby at_102)
    have N160 := Fr.snoc X160 N154 (by omega)
    have sz161 := own_wr_le W160
    have K161 := K155.wr W160 (Or.inr (by omega))
    have O161 := O155.wr W160 (by omega)
    have R161 := CHr.wr W160 (Safe.arv hZ.alike V154 (by decide)) CH155
    have CH161 := R161.1
    have V160 : Arv Z h160 b142 k142 .char (5 : Int32) [(.int (nar .char c_3)), (.int (nar .char c_7)), (.int (nar .char c_11)), (.int 0), (.int 0)] (.int 0) := Arv.set Ar159 q159 S159 N159' H159 G159 (fits_nar_char _) W160 2 rfl (Nat.le_of_ble_eq_true rfl)
    refine OwnEnd.of (S' := T160.setTop (mkF m 103 #[.val (.int p0), .val (.int p1), .val (.int p2), .val (.int p3), .val (.int p4), .val (.int p5), .val (.int 5), .val (.ref b1), .val (.ref b142), .unset, .unset] [])) st160 ?_
    refine OwnEnd.of (S' := T160.setTop (mkF m 115 #[.val (.int p0), .val (.int p1), .val (.int p2), .val (.int p3), .val (.int p4), .val (.int p5), .val (.int 5), .val (.ref b1), .val (.ref b142), .unset, .unset] [(.int 3), (.ref b1), (.int 3), (.ref b142)])) (fun _ kK => XS.iload X160.here hx rfl (hb hby at_103) rfl (XS.iconst X160.here hx rfl (hb hby at_105) (XS.icmpNo X160.here hx rfl (hb hby at_106) rfl (tlt ((by decide : (3 : Int32) < (5 : Int32)))).2.2.2 (XS.aload X160.here hx rfl (hb hby at_109) rfl rfl (XS.iconst X160.here hx rfl (hb hby at_111) (XS.aload X160.here hx rfl (hb hby at_112) rfl rfl (XS.iconst X160.here hx rfl (hb hby at_114) kK))))))) ?_
    have f162 : Arv Z h160 b1 k1 .char (5 : Int32) [(.int c_3), (.int c_7), (.int c_11), (.int c_15), (.int c_19)] (.int 0) := (f156.other W160 (own_ne (by omega)))
    obtain ⟨cl163, Ar163, q163, S163, N163', H163, G163⟩ := id f162
    have hin164 : ¬ ((3 : Int32) < 0 ∨ cl163.slots.size ≤ ((3 : Int32)).toNatClampNeg) := inb_of S163 ⟨by decide, by decide⟩
    refine OwnEnd.of (S' := T160.setTop (mkF m 116 #[.val (.int p0), .val (.int p1), .val (.int p2), .val (.int p3), .val (.int p4), .val (.int p5), .val (.int 5), .val (.ref b1), .val (.ref b142), .unset, .unset] [(.int c_15), (.int 3), (.ref b142)])) (fun _ kK => X160.caload hx (j := (3 : Int32)) (v := (.int c_15)) (by rw [e160]; exact Ar163.1) (State.isArrayOf_alike hZ.alike Ar163.2.1) Ar163.2.2 hin164 (Has.at H163 hin164 (rfl)) (g := (mkF m 115 #[.val (.int p0), .val (.int p1), .val (.int p2), .val (.int p3), .val (.int p4), .val (.int p5), .val (.int 5), .val (.ref b1), .val (.ref b142), .unset, .unset] [(.int 3), (.ref b1), (.int 3), (.ref b142)])) rfl rfl (hb hby at_115) _ kK) ?_
    obtain ⟨cl165, Ar165, q165, S165, N165', H165, G165⟩ := id V160
    have hin166 : ¬ ((3 : Int32) < 0 ∨ cl165.slots.size ≤ ((3 : Int32)).toNatClampNeg) := inb_of S165 ⟨by decide, by decide⟩
    obtain ⟨T166, h166, X166, e166, W166, st166⟩ := stC X160 hx hZ e160 Ar165 (j := (3 : Int32)) hin166 (g := (mkF m 116 #[.val (.int p0), .val (.int p1), .val (.int p2), .val (.int p3), .val (.int p4), .val (.int p5), .val (.int 5), .val (.ref b1), .val (.ref b142), .unset, .unset] [(.int c_15), (.int 3), (.ref b142)])) rfl rfl (hb hby at_116)
    have N166 := Fr.snoc X166 N160 (by omega)
    have sz167 := own_wr_le W166
    have K167 := K161.wr W166 (Or.inr (by omega))
    have O167 := O161.wr W166 (by omega)
    have R167 := CHr.wr W166 (Safe.arv hZ.alike V160 (by decide)) CH161
    have CH167 := R167.1
    have V166 : Arv Z h166 b142 k142 .char (5 : Int32) [(.int (nar .char c_3)), (.int (nar .char c_7)), (.int (nar .char c_11)), (.int (nar .char c_15)), (.int 0)] (.int 0) := Arv.set Ar165 q165 S165 N165' H165 G165 (fits_nar_char _) W166 3 rfl (Nat.le_of_ble_eq_true rfl)
    refine OwnEnd.of (S' := T166.setTop (mkF m 117 #[.val (.int p0), .val (.int p1), .val (.int p2), .val (.int p3), .val (.int p4), .val (.int p5), .val (.int 5), .val (.ref b1), .val (.ref b142), .unset, .unset] [])) st166 ?_
    refine OwnEnd.of (S' := T166.setTop (mkF m 129 #[.val (.int p0), .val (.int p1), .val (.int p2), .val (.int p3), .val (.int p4), .val (.int p5), .val (.int 5), .val (.ref b1), .val (.ref b142), .unset, .unset] [(.int 4), (.ref b1), (.int 4), (.ref b142)])) (fun _ kK => XS.iload X166.here hx rfl (hb hby at_117) rfl (XS.iconst X166.here hx rfl (hb hby at_119) (XS.icmpNo X166.here hx rfl (hb hby at_120) rfl (tlt ((by decide : (4 : Int32) < (5 : Int32)))).2.2.2 (XS.aload X166.here hx rfl (hb hby at_123) rfl rfl (XS.iconst X166.here hx rfl (hb hby at_125) (XS.aload X166.here hx rfl (hb hby at_126) rfl rfl (XS.iconst X166.here hx rfl (hb hby at_128) kK))))))) ?_
    have f168 : Arv Z h166 b1 k1 .char (5 : Int32) [(.int c_3), (.int c_7), (.int c_11), (.int c_15), (.int c_19)] (.int 0) := (f162.other W166 (own_ne (by omega)))
    obtain ⟨cl169, Ar169, q169, S169, N169', H169, G169⟩ := id f168
    have hin170 : ¬ ((4 : Int32) < 0 ∨ cl169.slots.size ≤ ((4 : Int32)).toNatClampNeg) := inb_of S169 ⟨by decide, by decide⟩
    refine OwnEnd.of (S' := T166.setTop (mkF m 130 #[.val (.int p0), .val (.int p1), .val (.int p2), .val (.int p3), .val (.int p4), .val (.int p5), .val (.int 5), .val (.ref b1), .val (.ref b142), .unset, .unset] [(.int c_19), (.int 4), (.ref b142)])) (fun _ kK => X166.caload hx (j := (4 : Int32)) (v := (.int c_19)) (by rw [e166]; exact Ar169.1) (State.isArrayOf_alike hZ.alike Ar169.2.1) Ar169.2.2 hin170 (Has.at H169 hin170 (rfl)) (g := (mkF m 129 #[.val (.int p0), .val (.int p1), .val (.int p2), .val (.int p3), .val (.int p4), .val (.int p5), .val (.int 5), .val (.ref b1), .val (.ref b142), .unset, .unset] [(.int 4), (.ref b1), (.int 4), (.ref b142)])) rfl rfl (hb hby at_129) _ kK) ?_
    obtain ⟨cl171, Ar171, q171, S171, N171', H171, G171⟩ := id V166
    have hin172 : ¬ ((4 : Int32) < 0 ∨ cl171.slots.size ≤ ((4 : Int32)).toNatClampNeg) := inb_of S171 ⟨by decide, by decide⟩
    obtain ⟨T172, h172, X172, e172, W172, st172⟩ := stC X166 hx hZ e166 Ar171 (j := (4 : Int32)) hin172 (g := (mkF m 130 #[.val (.int p0), .val (.int p1), .val (.int p2), .val (.int p3), .val (.int p4), .val (.int p5), .val (.int 5), .val (.ref b1), .val (.ref b142), .unset, .unset] [(.int c_19), (.int 4), (.ref b142)])) rfl rfl (hb hby at_130)
    have N172 := Fr.snoc X172 N166 (by omega)
    have sz173 := own_wr_le W172
    have K173 := K167.wr W172 (Or.inr (by omega))
    have O173 := O167.wr W172 (by omega)
    have R173 := CHr.wr W172 (Safe.arv hZ.alike V166 (by decide)) CH167
    have CH173 := R173.1
    have V172 : Arv Z h172 b142 k142 .char (5 : Int32) [(.int (nar .char c_3)), (.int (nar .char c_7)), (.int (nar .char c_11)), (.int (nar .char c_15)), (.int (nar .char c_19))] (.int 0) := Arv.set Ar171 q171 S171 N171' H171 G171 (fits_nar_char _) W172 4 rfl (Nat.le_of_ble_eq_true rfl)
    refine OwnEnd.of (S' := T172.setTop (mkF m 131 #[.val (.int p0), .val (.int p1), .val (.int p2), .val (.int p3), .val (.int p4), .val (.int p5), .val (.int 5), .val (.ref b1), .val (.ref b142), .unset, .unset] [])) st172 ?_
    obtain ⟨T174, h174, X174, e174, E174, A174, D174, -, st174⟩ := newO X172 hx hZ hown (own_w G 6 rfl) (own_w G 7 rfl) (own_w G 8 rfl) e172 (g := (mkF m 131 #[.val (.int p0), .val (.int p1), .val (.int p2), .val (.int p3), .val (.int p4), .val (.int p5), .val (.int 5), .val (.ref b1), .val (.ref b142), .unset, .unset] [])) rfl (hb hby at_131) (by decide) (by decide)
    obtain ⟨b174, g174⟩ : ∃ z, z = Array.size h172 := ⟨_, rfl⟩
    rw [← g174] at A174 D174 st174
    have lt_b174 := own_ltN' A174.lt
    have sz175 := E174.1
    have K175 := K173.ext E174
    have O175 := O173.ext E174
    have R175 := CHr.ext E174 CH173
    have CH175 := R175.1
    have Sf174 : Safe Z consts_1 s.vm h174 b174 := Safe.ext E174 CH173 (Safe.new (by omega))
    have F174_value : Fld Z h174 b174 "java/lang/String" "value" "[B" .null := D174 (Or.inr (own_w G 21 rfl)) (ty := (.array .byte)) (by decide)
    have F174_coder : Fld Z h174 b174 "java/lang/String" "coder" "B" (.int 0) := D174 (Or.inr (own_w G 22 rfl)) (ty := .byte) (by decide)
    refine OwnEnd.of (S' := T174.setTop (mkF m 134 #[.val (.int p0), .val (.int p1), .val (.int p2), .val (.int p3), .val (.int p4), .val (.int p5), .val (.int 5), .val (.ref b1), .val (.ref b142), .unset, .unset] [(.ref b174)])) st174 ?_
    refine OwnEnd.of (S' := T174.setTop (mkF m 137 #[.val (.int p0), .val (.int p1), .val (.int p2), .val (.int p3), .val (.int p4), .val (.int p5), .val (.int 5), .val (.ref b1), .val (.ref b142), .unset, .unset] [(.ref b142), (.ref b174), (.ref b174)])) (fun _ kK => XS.dup X174.here hx rfl (hb hby at_134) rfl rfl (XS.aload X174.here hx rfl (hb hby at_135) rfl rfl kK)) ?_
    have f176 : Arv Z h174 b142 k142 .char (5 : Int32) [(.int (nar .char c_3)), (.int (nar .char c_7)), (.int (nar .char c_11)), (.int (nar .char c_15)), (.int (nar .char c_19))] (.int 0) := (V172.ext E174)
    have V177 : Arv Z h174 b142 k142 .char (5 : Int32) [(.int c_3), (.int c_7), (.int c_11), (.int c_15), (.int c_19)] (.int 0) := by have q := f176; rw [own_narc r3_0.1 (own_255 r3_0.2), own_narc r7_0.1 (own_255 r7_0.2), own_narc r11_0.1 (own_255 r11_0.2), own_narc r15_0.1 (own_255 r15_0.2), own_narc r19_0.1 (own_255 r19_0.2)] at q; exact q
    have hlat : ∀ c ∈ ([c_3, c_7, c_11, c_15, c_19] : List Int32), ¬ c < (0 : Int32) ∧ ¬ (255 : Int32) < c := own_all_5 r3_0 r7_0 r11_0 r15_0 r19_0
    have hws : ∀ d ∈ StrChars.Road.words, d.before a0 Z = true := fun d hd => hw d (own_words d hd)
    have hp178 : ∀ c ∈ ([c_3, c_7, c_11, c_15, c_19] : List Int32), ¬ c < 0 ∧ ¬ (255 : Int32) < c := hlat
    obtain ⟨_, _, ⟨T179, L179, k179, n179⟩, -, X179, ⟨Lc179, hQ179, l179, y179, z179⟩, st179⟩ := Jvm.Stand.specialBack X174 hx (y := own_m1) rfl hown (mvT hZ (own_w G 9 rfl)) (mvT hZ (own_w G 10 rfl)) (mvT hZ (own_w G 11 rfl)) (by decide) (StrChars.Road.backV (W := 1) hZ hws (kI := 4) (own_w G 7 rfl) (cs := [c_3, c_7, c_11, c_15, c_19]) (bs := ([c_3, c_7, c_11, c_15, c_19] : List Int32).map (fun c => c.toInt8.toInt32)) (n := 5) (n0 := n0) (by omega) (by omega) A174 F174_value F174_coder V177 (SCS.ext O175.2) PCS rfl rfl (by decide) (by decide) hp178 rfl (by decide) (by decide)) (g := (mkF m 137 #[.val (.int p0), .val (.int p1), .val (.int p2), .val (.int p3), .val (.int p4), .val (.int p5), .val (.int 5), .val (.ref b1), .val (.ref b142), .unset, .unset] [(.ref b142), (.ref b174), (.ref b174)])) rfl (by rw [hml]; rfl) (Steps.refl _) (a := b174) (argsL := [(.ref b142)]) (rest := [(.ref b174)]) (lenOf pd_16 rfl) rfl (by show 2 * 0 + _ ≤ _; exact Nat.le_of_eq rfl) (hb hby at_137) (fun _ _ => ⟨rfl, e174, (by decide : 3 + 1 ≤ _), (by decide : 14 + 5 ≤ _)⟩)
    dsimp only [Pt.U, Pt.locs, Pt.cells, Pt.slots] at X179 l179 y179 z179 st179 hQ179
    subst l179 y179 z179
    obtain ⟨rfl, N179q, Kq179, r179E, r179C, t179, kb179, u179, w179, x179, r179V, r179A⟩ := hQ179
    have N179 := Fr.app N172 N179q
    have sz180 := Kq179.1
    have K180 := K175.trans Kq179 (own_all1 (Or.inr (by omega)))
    have O180 := O175.keep Kq179 (own_all1 (by omega))
    have R180 := CHr.keep Kq179 (sfS Sf174 sf0) CH175
    have CH180 := R180.1
    have lt_t179 := own_ltN' r179A.lt
    refine OwnEnd.tr (S' := T179.setTop (mkF m 140 #[.val (.int p0), .val (.int p1), .val (.int p2), .val (.int p3), .val (.int p4), .val (.int p5), .val (.int 5), .val (.ref b1), .val (.ref b142), .unset, .unset] [(.ref b174)])) st179 ?_
    refine OwnEnd.of (S' := T179.setTop (mkF m 146 #[.val (.int p0), .val (.int p1), .val (.int p2), .val (.int p3), .val (.int p4), .val (.int p5), .val (.int 5), .val (.ref b1), .val (.ref b142), .val (.ref b174), .unset] [(.int 5), (.ref b1)])) (fun _ kK => XS.astore X179.here hx rfl (hb hby at_140) rfl rfl (l' := #[.val (.int p0), .val (.int p1), .val (.int p2), .val (.int p3), .val (.int p4), .val (.int p5), .val (.int 5), .val (.ref b1), .val (.ref b142), .val (.ref b174), .unset]) rfl (XS.aload X179.here hx rfl (hb hby at_142) rfl rfl (XS.iload X179.here hx rfl (hb hby at_144) rfl kK))) ?_
    have f181 : Arv Z T179.heap b1 k1 .char (5 : Int32) [(.int c_3), (.int c_7), (.int c_11), (.int c_15), (.int c_19)] (.int 0) := (((f168.other W172 (own_ne (by omega))).ext E174).keep Kq179 (own_nin1 (own_ne (by omega))))
    obtain ⟨_, _, ⟨T182, L182, k182, n182⟩, -, X182, ⟨Lc182, hQ182, l182, y182, z182⟩, st182⟩ := Jvm.LawKit.callS X179 hx (y := own_m14) hown (mvT hZ (own_w G 27 rfl)) (mvT hZ (own_w G 28 rfl)) (mvT hZ (own_w G 4 rfl)) (mvT hZ (own_w G 29 rfl)) (by decide) (backOf (W := 0) (rmrf l Z a0 G [] b1 k1 (.int 0) c_3 c_7 c_11 c_15 c_19 (5 : Int32) (own_ix (0 : Int32) [c_3, c_7, c_11, c_15, c_19]) T179.heap n0 O180 f181 (Or.inr (Or.inr (Or.inr (Or.inr (Or.inr (⟨rfl, rfl⟩))))))) hZ (own_w G 29 rfl) (own_w G 4 rfl) (by decide) (by decide)) (g := (mkF m 146 #[.val (.int p0), .val (.int p1), .val (.int p2), .val (.int p3), .val (.int p4), .val (.int p5), .val (.int 5), .val (.ref b1), .val (.ref b142), .val (.ref b174), .unset] [(.int 5), (.ref b1)])) rfl (by rw [hml]; rfl) (argsL := [(.ref b1), (.int 5)]) (rest := []) (lenOf pd_17 rfl) rfl (by show 2 * 0 + _ ≤ _; exact Nat.le_of_eq rfl) (hb hby at_146) (fun _ _ => ⟨rfl, rfl, (by decide : 4 + 0 ≤ _), (by decide : 19 + 0 ≤ _)⟩)
    dsimp only [Pt.U, Pt.locs, Pt.cells, Pt.slots] at X182 l182 y182 z182 st182 hQ182
    subst l182 y182 z182
    obtain ⟨rfl, N182q, eh182⟩ := hQ182
    have N182 := Fr.app N179 N182q
    refine OwnEnd.of (S' := T182.setTop (mkF m 149 #[.val (.int p0), .val (.int p1), .val (.int p2), .val (.int p3), .val (.int p4), .val (.int p5), .val (.int 5), .val (.ref b1), .val (.ref b142), .val (.ref b174), .unset] [(.int (own_rfv (5 : Int32) (own_ix (0 : Int32) [c_3, c_7, c_11, c_15, c_19]) c_3 c_7 c_11 c_15 c_19))])) st182 ?_
    rw [own_rfa5 c_3 c_7 c_11 c_15 c_19]
    refine OwnEnd.of (S' := T182.setTop (mkF m 153 #[.val (.int p0), .val (.int p1), .val (.int p2), .val (.int p3), .val (.int p4), .val (.int p5), .val (.int 5), .val (.ref b1), .val (.ref b142), .val (.ref b174), .val (.int (own_abs [c_3, c_7, c_11, c_15, c_19]))] [(.ref b174)])) (fun _ kK => XS.istore X182.here hx rfl (hb hby at_149) rfl (l' := #[.val (.int p0), .val (.int p1), .val (.int p2), .val (.int p3), .val (.int p4), .val (.int p5), .val (.int 5), .val (.ref b1), .val (.ref b142), .val (.ref b174), .val (.int (own_abs [c_3, c_7, c_11, c_15, c_19]))]) rfl (XS.aload X182.here hx rfl (hb hby at_151) rfl rfl kK)) ?_
    obtain ⟨_, _, ⟨T183, L183, k183, n183⟩, -, X183, ⟨Lc183, hQ183, l183, y183, z183⟩, st183⟩ := Jvm.LawKit.callS X182 hx (y := own_m23) hown (mvT hZ (own_w G 33 rfl)) (mvT hZ (own_w G 34 rfl)) (mvT hZ (own_w G 35 rfl)) (mvT hZ (own_w G 36 rfl)) (by decide) (backOf (W := 0) (rmia5 l Z a0 G [] b174 t179 kb179 c_3 c_7 c_11 c_15 c_19 T179.heap n0 O180 r179E r179V r179C r179A hlat) hZ (own_w G 36 rfl) (own_w G 35 rfl) (by decide) (by decide)) (g := (mkF m 153 #[.val (.int p0), .val (.int p1), .val (.int p2), .val (.int p3), .val (.int p4), .val (.int p5), .val (.int 5), .val (.ref b1), .val (.ref b142), .val (.ref b174), .val (.int (own_abs [c_3, c_7, c_11, c_15, c_19]))] [(.ref b174)])) rfl (by rw [hml]; rfl) (argsL := [(.ref b174)]) (rest := []) (lenOf pd_18 rfl) rfl (by show 2 * 0 + _ ≤ _; exact Nat.le_of_eq rfl) (hb hby at_153) (fun _ _ => ⟨rfl, eh182, (by decide : 4 + 0 ≤ _), (by decide : 19 + 0 ≤ _)⟩)
    dsimp only [Pt.U, Pt.locs, Pt.cells, Pt.slots] at X183 l183 y183 z183 st183 hQ183
    subst l183 y183 z183
    obtain ⟨rfl, N183q, eh183⟩ := hQ183
    have N183 := Fr.app N182 N183q
    refine OwnEnd.of (S' := T183.setTop (mkF m 156 #[.val (.int p0), .val (.int p1), .val (.int p2), .val (.int p3), .val (.int p4), .val (.int p5), .val (.int 5), .val (.ref b1), .val (.ref b142), .val (.ref b174), .val (.int (own_abs [c_3, c_7, c_11, c_15, c_19]))] [(.int (own_abs [c_3, c_7, c_11, c_15, c_19]))])) st183 ?_
    refine OwnEnd.of (S' := T183.setTop (mkF m 166 #[.val (.int p0), .val (.int p1), .val (.int p2), .val (.int p3), .val (.int p4), .val (.int p5), .val (.int 5), .val (.ref b1), .val (.ref b142), .val (.ref b174), .val (.int (own_abs [c_3, c_7, c_11, c_15, c_19]))] [(.int 1)])) (fun _ kK => XS.iload X183.here hx rfl (hb hby at_156) rfl (XS.icmpNo X183.here hx rfl (hb hby at_158) rfl (teq (rfl)).2 (XS.iconst X183.here hx rfl (hb hby at_161) (XS.goto X183.here hx rfl (pc0 := 162) (pc' := 166) rfl (hb hby at_162) (by decide) (by decide) kK)))) ?_
    refine OwnEnd.retW X183 Si0 (by omega) (v := (some (.int (nar .boolean (1 : Int32))))) (fun h => by rw [Bd.returns] at h; cases h) hlk (fun fs hr => retN X183 hx (t := .boolean) Bd.returns (by simp) (hb hby at_166) hr) (by decide) (by decide) (Q := Qlaw Z p0 p1 p2 p3 p4 p5 h0 n0) eh183 ?_
    exact ⟨rfl, N183, K180⟩
set_option maxRecDepth 65536 in
set_option maxHeartbeats 40000000 in
theorem comes_1 {Post : Tables → Env → Array Value → State → Outcome → State → Prop} (hpost : ∀ tb e args s v u, (limb_1_1.after args s (.returned v) u = true ∧ limb_1_2.after args s (.returned v) u = true ∧ True) → ReturnedEndW s (.returned v) u (Jvm.fieldLocs frame_1_writes args s ++ Jvm.arrayLocs frame_1_arrays args s ++ Jvm.staticLocs frame_1_statics s) 24 1152 → Post tb e args s (.returned v) u) :
    ArmFor flags0 classFile x code maxLocals ret World_1 tables_1 room_1 Calls_1 rest_1 Pre_1 Post := by
  intro l hfl _ _ p e ha hc hk s m args below hf hA hF happ hP
  obtain ⟨hcalls, hrest, hpre⟩ := hP
  obtain ⟨-, -, -, hnamed, -, -, -, hat⟩ := (Spec.applies_iff hf).mp happ
  obtain ⟨hg, hn⟩ := and_e (Cond.before_iff.mp (show (Jvm.Cond.and given_1 narrow_1).before args s = true from hpre))
  obtain ⟨h1, h2⟩ := and_e hg
  obtain ⟨g0, t0⟩ := and_e h2
  obtain ⟨g1, t1⟩ := and_e t0
  obtain ⟨g2, t2⟩ := and_e t1
  obtain ⟨g3, t3⟩ := and_e t2
  obtain ⟨g4, t4⟩ := and_e t3
  obtain ⟨w0, w1, w2, w3, w4, w5, rfl⟩ : ∃ w0 w1 w2 w3 w4 w5 : Value, args = #[w0, w1, w2, w3, w4, w5] := by
    have hs : args.size = 6 := by simpa [Cond.value, given_1] using h1
    obtain ⟨L⟩ := args
    match L, hs with
    | [w0, w1, w2, w3, w4, w5], _ => exact ⟨w0, w1, w2, w3, w4, w5, rfl⟩
  have hw := fun d (hd : d ∈ tables_1) => atoms_spec (ws := Jvm.Cond.code x code maxLocals ret :: tables_1) hat d (List.mem_cons_of_mem _ hd)
  obtain ⟨hsets, hown0⟩ := atoms_of _ (rest_1_c_eq ▸ (show rest_1_c.before _ s = true from hrest))
  obtain ⟨i0, ei0⟩ := is_v g0
  obtain rfl : w0 = (.int i0) := Option.some.inj ei0
  obtain ⟨i1, ei1⟩ := is_v g1
  obtain rfl : w1 = (.int i1) := Option.some.inj ei1
  obtain ⟨i2, ei2⟩ := is_v g2
  obtain rfl : w2 = (.int i2) := Option.some.inj ei2
  obtain ⟨i3, ei3⟩ := is_v g3
  obtain rfl : w3 = (.int i3) := Option.some.inj ei3
  obtain ⟨i4, ei4⟩ := is_v g4
  obtain rfl : w4 = (.int i4) := Option.some.inj ei4
  obtain ⟨i5, ei5⟩ := is_v t4
  obtain rfl : w5 = (.int i5) := Option.some.inj ei5
  have hfit : Fit s := fun {y c} hc {i} hi => by
    obtain ⟨ha, rfl⟩ := Array.getElem?_eq_some_iff.mp hc
    have q := List.all_eq_true.mp ((Array.all_eq_true_iff_forall_mem.mp hF) _ (Array.getElem_mem ha)) i (List.mem_range.mpr hi)
    simpa [Array.getElem?_eq_getElem hi] using q
  have G : OwnG s #[(.int i0), (.int i1), (.int i2), (.int i3), (.int i4), (.int i5)] := ⟨hw, hsets, fun p hp => hcalls.1 p hp, Cond.before_iff.mpr hn, hfit⟩
  obtain ⟨n, o, h1, h2, h3, _, L, rfl, ⟨rfl, N, -⟩, hq⟩ := rmlaw l s _ G tables_1 i0 i1 i2 i3 i4 i5 s.heap s.heap.size (Old.start s) p e ha hc hk s m _ below hf ((Spec.applies_iff_loose hf).mp happ).1 ⟨rfl, State.Warmed39.refl s, rfl, own_CH G⟩ trivial
  refine ⟨n, _, h1, h2, h3, hpost _ _ _ _ _ _ ⟨Cond.after_iff.mpr rfl, Cond.after_iff.mpr (eq_i res_at (Term.int_eval (1)) rfl), trivial⟩ ⟨hq.1, hq.2.1, hq.2.2.1, (hq.2.2.2.sift fun y hy => Or.inr (N y hy)).mono (by decide) (by decide)⟩⟩
theorem main_1_1 : Claimed_1_1 := comes_1 fun _ _ _ _ _ _ h hF => ⟨h.1, hF⟩
theorem main_1_2 : Claimed_1_2 := comes_1 fun _ _ _ _ _ _ h hF => ⟨h.2.1, hF⟩
end Jvm.Pilot.@@N@@
namespace Jvm.Pilot.@@N@@
open Jvm Jvm.ClassFile Sem Op Lib Jvm.Free Jvm.Stand Jvm.Pilot.@@N@@.Jvm.D
/-! MADE BY PROGRAM (witnessworld.py) out of the Statement's table words and the real class files: 23 classes; the members and pool entries that the words name. The judged class is class 1, her method 1. -/
namespace start1
open Jvm.ClassFile
def u (s : String) : CpInfo := .utf8 (stringToUtf16 s)
/-- a pool by its gaps: so many unusable entries, then the entry; so many at the end -/
def gap : Nat → List CpInfo → List CpInfo
  | 0, r => r
  | n + 1, r => .unusable :: gap n r
def poolList (es : List (Nat × CpInfo)) (last : Nat) : List CpInfo := es.foldr (fun e r => gap e.1 (e.2 :: r)) (gap last [])
def pool (es : List (Nat × CpInfo)) (last : Nat) : Array CpInfo := ⟨poolList es last⟩
def fileOf (pool : Array CpInfo) (this : Nat) (attrs : Array Attribute := #[]) (ms : Array MethodInfo := #[]) (fl : Nat := 33) (sup : Nat := 0) (ifs : Array Nat := #[]) (fds : Array FieldInfo := #[]) : ClassFile where
  minorVersion := 0
  majorVersion := 65
  constantPool := pool
  accessFlags := fl
  thisClass := this
  superClass := sup
  interfaces := ifs
  fields := fds
  methods := ms
  attributes := attrs
def plain (name : String) (sup : Option ClassId) : Class where
  name := name
  kind := .ordinary
  loader := none
  accessFlags := 33
  super := sup
  interfaces := #[]
  cf := none
  fields := #[]
  methods := #[]
  instanceTypes := #[]
  staticTypes := #[]
  resolved := #[]
  callSites := []
  init := .initialized
  statics := none
  mirror := none

def pool0 : Array CpInfo := pool [(5, u "<init>"), (0, u "()V"), (1, .class_ 10), (1, u "java/lang/Object")] 113

def k0c0 : Code := { maxStack := 0, maxLocals := 1, code := object_method_1_code, exceptionTable := #[], attributes := #[] }
def k0m0 : Method := { name := "<init>", desc := "()V", sig := { parameters := [], returnType := none }, accessFlags := 1, code := some k0c0 }
/-- java/lang/Object -/
def k0 : Class := { plain "java/lang/Object" none with
  accessFlags := 33
  interfaces := #[]
  cf := some (fileOf pool0 8 #[] #[{ accessFlags := 1, nameIndex := 5, descriptorIndex := 6, attributes := #[] }] 33 0 #[] #[])
  fields := #[]
  methods := #[k0m0]
  instanceTypes := #[]
  staticTypes := #[]
  resolved := Array.replicate 124 none
  statics := none }

def pool1 : Array CpInfo := pool [(2, .class_ 4), (1, u "java/lang/Object"), (0, u "<init>"), (0, u "()V"), (0, .integer 2147483647), (0, .methodref 9 10), (0, .class_ 11), (0, .nameAndType 12 13), (0, u "com/example/vett/vett/model/IrisIsAbsolutePinLaw"), (0, u "draw"), (0, u "(I)C"), (0, .class_ 15), (0, u "java/lang/String"), (0, .methodref 14 17), (0, .nameAndType 5 18), (0, u "([C)V"), (0, .methodref 9 20), (0, .nameAndType 21 22), (0, u "reference"), (0, u "([CI)Z"), (0, .methodref 24 25), (0, .class_ 26), (0, .nameAndType 27 28), (0, u "com/example/vett/vett/model/Iris"), (0, u "isAbsolute"), (0, u "(Ljava/lang/String;)Z"), (0, .methodref 9 30), (0, .nameAndType 31 32), (0, u "letter"), (0, u "(C)Z"), (0, .methodref 9 34), (0, .nameAndType 35 32), (0, u "schemeChar"), (0, .methodref 9 37), (0, .nameAndType 38 32), (0, u "mayHold"), (0, .methodref 9 40), (0, .nameAndType 41 42), (0, u "firstColon"), (0, u "([CI)I"), (0, .methodref 9 44), (0, .nameAndType 45 46), (0, u "ok"), (0, u "([CIII)Z"), (2, u "law"), (0, u "(IIIIII)Z")] 5

def k1m0 : Method := { name := "<init>", desc := "()V", sig := { parameters := [], returnType := none }, accessFlags := 1, code := none }
def k1c1 : Code := { maxStack := 4, maxLocals := 11, code := code, exceptionTable := #[], attributes := #[] }
def k1m1 : Method := { name := "law", desc := "(IIIIII)Z", sig := { parameters := [.int, .int, .int, .int, .int, .int], returnType := some .boolean }, accessFlags := 9, code := some k1c1 }
def k1c2 : Code := { maxStack := 2, maxLocals := 1, code := method_3_code, exceptionTable := #[], attributes := #[] }
def k1m2 : Method := { name := "draw", desc := "(I)C", sig := { parameters := [.int], returnType := some .char }, accessFlags := 10, code := some k1c2 }
def k1c3 : Code := { maxStack := 2, maxLocals := 2, code := method_4_code, exceptionTable := #[], attributes := #[] }
def k1m3 : Method := { name := "firstColon", desc := "([CI)I", sig := { parameters := [(.array .char), .int], returnType := some .int }, accessFlags := 10, code := some k1c3 }
def k1c4 : Code := { maxStack := 2, maxLocals := 1, code := method_5_code, exceptionTable := #[], attributes := #[] }
def k1m4 : Method := { name := "letter", desc := "(C)Z", sig := { parameters := [.char], returnType := some .boolean }, accessFlags := 10, code := some k1c4 }
def k1c5 : Code := { maxStack := 2, maxLocals := 1, code := method_6_code, exceptionTable := #[], attributes := #[] }
def k1m5 : Method := { name := "schemeChar", desc := "(C)Z", sig := { parameters := [.char], returnType := some .boolean }, accessFlags := 10, code := some k1c5 }
def k1c6 : Code := { maxStack := 2, maxLocals := 1, code := method_7_code, exceptionTable := #[], attributes := #[] }
def k1m6 : Method := { name := "mayHold", desc := "(C)Z", sig := { parameters := [.char], returnType := some .boolean }, accessFlags := 10, code := some k1c6 }
def k1c7 : Code := { maxStack := 2, maxLocals := 5, code := method_8_code, exceptionTable := #[], attributes := #[] }
def k1m7 : Method := { name := "ok", desc := "([CIII)Z", sig := { parameters := [(.array .char), .int, .int, .int], returnType := some .boolean }, accessFlags := 10, code := some k1c7 }
def k1c8 : Code := { maxStack := 4, maxLocals := 3, code := method_9_code, exceptionTable := #[], attributes := #[] }
def k1m8 : Method := { name := "reference", desc := "([CI)Z", sig := { parameters := [(.array .char), .int], returnType := some .boolean }, accessFlags := 10, code := some k1c8 }
/-- com/example/vett/vett/model/IrisIsAbsolutePinLaw -/
def k1 : Class := { plain "com/example/vett/vett/model/IrisIsAbsolutePinLaw" (some 0) with
  accessFlags := 49
  interfaces := #[]
  cf := some (fileOf pool1 9 #[] #[{ accessFlags := 1, nameIndex := 5, descriptorIndex := 6, attributes := #[] }, { accessFlags := 9, nameIndex := 49, descriptorIndex := 50, attributes := #[] }, { accessFlags := 10, nameIndex := 12, descriptorIndex := 13, attributes := #[] }, { accessFlags := 10, nameIndex := 41, descriptorIndex := 42, attributes := #[] }, { accessFlags := 10, nameIndex := 31, descriptorIndex := 32, attributes := #[] }, { accessFlags := 10, nameIndex := 35, descriptorIndex := 32, attributes := #[] }, { accessFlags := 10, nameIndex := 38, descriptorIndex := 32, attributes := #[] }, { accessFlags := 10, nameIndex := 45, descriptorIndex := 46, attributes := #[] }, { accessFlags := 10, nameIndex := 21, descriptorIndex := 22, attributes := #[] }] 49 2 #[] #[])
  fields := #[]
  methods := #[k1m0, k1m1, k1m2, k1m3, k1m4, k1m5, k1m6, k1m7, k1m8]
  instanceTypes := #[]
  staticTypes := #[]
  resolved := Array.replicate 56 none
  statics := none }

def pool2 : Array CpInfo := pool [(1, .class_ 2), (0, u "java/io/Serializable"), (0, .class_ 4), (0, u "java/lang/Object")] 2

/-- java/io/Serializable -/
def k2 : Class := { plain "java/io/Serializable" (some 0) with
  accessFlags := 1537
  interfaces := #[]
  cf := some (fileOf pool2 1 #[] #[] 1537 3 #[] #[])
  fields := #[]
  methods := #[]
  instanceTypes := #[]
  staticTypes := #[]
  resolved := Array.replicate 7 none
  statics := none }

def pool3 : Array CpInfo := pool [(1, .class_ 2), (0, u "java/lang/Comparable"), (0, .class_ 4), (0, u "java/lang/Object")] 7

/-- java/lang/Comparable -/
def k3 : Class := { plain "java/lang/Comparable" (some 0) with
  accessFlags := 1537
  interfaces := #[]
  cf := some (fileOf pool3 1 #[] #[] 1537 3 #[] #[])
  fields := #[]
  methods := #[]
  instanceTypes := #[]
  staticTypes := #[]
  resolved := Array.replicate 12 none
  statics := none }

def pool4 : Array CpInfo := pool [(2, .class_ 4), (1, u "java/lang/CharSequence"), (42, .class_ 48), (0, u "java/lang/CharSequence$1CodePointIterator"), (10, .class_ 60), (0, u "java/lang/CharSequence$1CharIterator"), (5, .class_ 67), (0, u "java/lang/Object")] 63

/-- java/lang/CharSequence -/
def k4 : Class := { plain "java/lang/CharSequence" (some 0) with
  accessFlags := 1537
  interfaces := #[]
  cf := some (fileOf pool4 2 #[.nestMembers #[47, 59]] #[] 1537 66 #[] #[])
  fields := #[]
  methods := #[]
  instanceTypes := #[]
  staticTypes := #[]
  resolved := Array.replicate 131 none
  statics := none }

def pool5 : Array CpInfo := pool [(1, .class_ 2), (0, u "java/lang/constant/Constable"), (0, .class_ 4), (0, u "java/lang/Object")] 6

/-- java/lang/constant/Constable -/
def k5 : Class := { plain "java/lang/constant/Constable" (some 0) with
  accessFlags := 1537
  interfaces := #[]
  cf := some (fileOf pool5 1 #[] #[] 1537 3 #[] #[])
  fields := #[]
  methods := #[]
  instanceTypes := #[]
  staticTypes := #[]
  resolved := Array.replicate 11 none
  statics := none }

def pool6 : Array CpInfo := pool [(1, .class_ 2), (0, u "java/lang/constant/ConstantDesc"), (0, .class_ 4), (0, u "java/lang/Object")] 32

/-- java/lang/constant/ConstantDesc -/
def k6 : Class := { plain "java/lang/constant/ConstantDesc" (some 0) with
  accessFlags := 1537
  interfaces := #[]
  cf := some (fileOf pool6 1 #[] #[] 1537 3 #[] #[])
  fields := #[]
  methods := #[]
  instanceTypes := #[]
  staticTypes := #[]
  resolved := Array.replicate 37 none
  statics := none }

def pool7 : Array CpInfo := pool [(1, .methodref 2 3), (0, .class_ 4), (0, .nameAndType 5 6), (0, u "java/lang/Object"), (0, u "<init>"), (0, u "()V"), (0, .string 8), (0, u ""), (0, .fieldref 10 11), (0, .class_ 12), (0, .nameAndType 13 14), (0, u "java/lang/String"), (0, u "value"), (0, u "[B"), (0, .fieldref 10 16), (0, .nameAndType 17 18), (0, u "coder"), (0, u "B"), (2, u "hash"), (0, u "I"), (2, u "hashIsZero"), (0, u "Z"), (0, .methodref 10 28), (0, .nameAndType 5 29), (0, u "([CIILjava/lang/Void;)V"), (8, .fieldref 10 39), (0, .nameAndType 40 26), (0, u "COMPACT_STRINGS"), (1, .class_ 44), (1, u "java/lang/StringUTF16"), (0, u "compress"), (1, .methodref 42 48), (0, .nameAndType 49 50), (0, u "coderFromArrayLen"), (0, u "([BI)B"), (56, .class_ 109), (1, u "java/lang/StringLatin1"), (32, u "()Z"), (34, .methodref 42 178), (0, .nameAndType 45 179), (0, u "([CII)[B"), (154, u "()I"), (0, .methodref 10 336), (0, .nameAndType 17 337), (0, u "()B"), (25, u "([BI)C"), (27, u "(II)V"), (35, u "(I)C"), (64, .methodref 10 493), (0, .nameAndType 494 142), (0, u "isLatin1"), (0, .methodref 107 496), (0, .nameAndType 497 363), (0, u "charAt"), (3, u "checkIndex"), (3, .methodref 10 506), (0, .nameAndType 507 334), (0, u "length"), (67, .class_ 576), (0, u "java/lang/CharSequence"), (22, u "CASE_INSENSITIVE_ORDER"), (0, u "Ljava/util/Comparator;"), (32, .methodref 10 634), (0, .nameAndType 635 636), (0, u "indexOf"), (0, u "(II)I"), (0, .methodref 107 638), (0, .nameAndType 635 639), (0, u "([BIII)I"), (125, u "(I)I"), (244, u "([C)V"), (42, .fieldref 1054 1055), (0, .class_ 1056), (0, .nameAndType 1057 1058), (0, u "jdk/internal/util/Preconditions"), (0, u "SIOOBE_FORMATTER"), (0, u "Ljava/util/function/BiFunction;"), (0, .methodref 1054 1060), (0, .nameAndType 501 1061), (0, u "(IILjava/util/function/BiFunction;)I"), (39, u "serialPersistentFields"), (0, u "[Ljava/io/ObjectStreamField;"), (0, .class_ 1104), (0, u "java/lang/String$CaseInsensitiveComparator"), (1, .class_ 1107), (0, u "java/io/Serializable"), (0, .class_ 1109), (0, u "java/lang/Comparable"), (0, .class_ 1111), (0, u "java/lang/constant/Constable"), (0, .class_ 1113), (0, u "java/lang/constant/ConstantDesc"), (2, u "serialVersionUID"), (0, u "J"), (3, u "REPL"), (0, u "C"), (2, u "LATIN1"), (1, u "UTF16")] 323

def k7m0 : Method := { name := "<init>", desc := "()V", sig := { parameters := [], returnType := none }, accessFlags := 1, code := none }
def k7c1 : Code := { maxStack := 5, maxLocals := 2, code := jdk_42_method_3_code, exceptionTable := #[], attributes := #[] }
def k7m1 : Method := { name := "<init>", desc := "([C)V", sig := { parameters := [(.array .char)], returnType := none }, accessFlags := 1, code := some k7c1 }
def k7c2 : Code := { maxStack := 2, maxLocals := 1, code := jdk_42_method_54_code, exceptionTable := #[], attributes := #[] }
def k7m2 : Method := { name := "length", desc := "()I", sig := { parameters := [], returnType := some .int }, accessFlags := 1, code := some k7c2 }
def k7c3 : Code := { maxStack := 2, maxLocals := 2, code := jdk_42_method_56_code, exceptionTable := #[], attributes := #[] }
def k7m3 : Method := { name := "charAt", desc := "(I)C", sig := { parameters := [.int], returnType := some .char }, accessFlags := 1, code := some k7c3 }
def k7c4 : Code := { maxStack := 3, maxLocals := 2, code := jdk_42_method_79_code, exceptionTable := #[], attributes := #[] }
def k7m4 : Method := { name := "indexOf", desc := "(I)I", sig := { parameters := [.int], returnType := some .int }, accessFlags := 1, code := some k7c4 }
def k7c5 : Code := { maxStack := 4, maxLocals := 3, code := jdk_42_method_80_code, exceptionTable := #[], attributes := #[] }
def k7m5 : Method := { name := "indexOf", desc := "(II)I", sig := { parameters := [.int, .int], returnType := some .int }, accessFlags := 1, code := some k7c5 }
def k7c6 : Code := { maxStack := 4, maxLocals := 6, code := jdk_42_method_149_code, exceptionTable := #[], attributes := #[] }
def k7m6 : Method := { name := "<init>", desc := "([CIILjava/lang/Void;)V", sig := { parameters := [(.array .char), .int, .int, (.object "java/lang/Void")], returnType := none }, accessFlags := 2, code := some k7c6 }
def k7c7 : Code := { maxStack := 1, maxLocals := 1, code := jdk_42_method_152_code, exceptionTable := #[], attributes := #[] }
def k7m7 : Method := { name := "coder", desc := "()B", sig := { parameters := [], returnType := some .byte }, accessFlags := 0, code := some k7c7 }
def k7c8 : Code := { maxStack := 1, maxLocals := 1, code := jdk_42_method_154_code, exceptionTable := #[], attributes := #[] }
def k7m8 : Method := { name := "isLatin1", desc := "()Z", sig := { parameters := [], returnType := some .boolean }, accessFlags := 0, code := some k7c8 }
def k7c9 : Code := { maxStack := 3, maxLocals := 2, code := jdk_42_method_155_code, exceptionTable := #[], attributes := #[] }
def k7m9 : Method := { name := "checkIndex", desc := "(II)V", sig := { parameters := [.int, .int], returnType := none }, accessFlags := 8, code := some k7c9 }
/-- java/lang/String -/
def k7 : Class := { plain "java/lang/String" (some 0) with
  accessFlags := 49
  interfaces := #[2, 3, 4, 5, 6]
  cf := some (fileOf pool7 10 #[.nestMembers #[1103]] #[{ accessFlags := 1, nameIndex := 5, descriptorIndex := 6, attributes := #[] }, { accessFlags := 1, nameIndex := 5, descriptorIndex := 1010, attributes := #[] }, { accessFlags := 1, nameIndex := 507, descriptorIndex := 334, attributes := #[] }, { accessFlags := 1, nameIndex := 497, descriptorIndex := 427, attributes := #[] }, { accessFlags := 1, nameIndex := 635, descriptorIndex := 765, attributes := #[] }, { accessFlags := 1, nameIndex := 635, descriptorIndex := 636, attributes := #[] }, { accessFlags := 2, nameIndex := 5, descriptorIndex := 29, attributes := #[] }, { accessFlags := 0, nameIndex := 17, descriptorIndex := 337, attributes := #[] }, { accessFlags := 0, nameIndex := 494, descriptorIndex := 142, attributes := #[] }, { accessFlags := 8, nameIndex := 501, descriptorIndex := 391, attributes := #[] }] 49 2 #[1106, 1108, 575, 1110, 1112] #[{ accessFlags := 18, nameIndex := 13, descriptorIndex := 14, attributes := #[] }, { accessFlags := 18, nameIndex := 17, descriptorIndex := 18, attributes := #[] }, { accessFlags := 2, nameIndex := 21, descriptorIndex := 22, attributes := #[] }, { accessFlags := 2, nameIndex := 25, descriptorIndex := 26, attributes := #[] }, { accessFlags := 26, nameIndex := 1116, descriptorIndex := 1117, attributes := #[] }, { accessFlags := 24, nameIndex := 40, descriptorIndex := 26, attributes := #[] }, { accessFlags := 26, nameIndex := 1101, descriptorIndex := 1102, attributes := #[] }, { accessFlags := 26, nameIndex := 1121, descriptorIndex := 1122, attributes := #[] }, { accessFlags := 25, nameIndex := 599, descriptorIndex := 600, attributes := #[] }, { accessFlags := 24, nameIndex := 1125, descriptorIndex := 18, attributes := #[] }, { accessFlags := 24, nameIndex := 1127, descriptorIndex := 18, attributes := #[] }])
  fields := #[{ name := "value", type := (.array .byte), accessFlags := 18, slot := 0, constantValue := 0 }, { name := "coder", type := .byte, accessFlags := 18, slot := 1, constantValue := 0 }, { name := "hash", type := .int, accessFlags := 2, slot := 2, constantValue := 0 }, { name := "hashIsZero", type := .boolean, accessFlags := 2, slot := 3, constantValue := 0 }, { name := "serialVersionUID", type := .long, accessFlags := 26, slot := 0, constantValue := 0 }, { name := "COMPACT_STRINGS", type := .boolean, accessFlags := 24, slot := 1, constantValue := 0 }, { name := "serialPersistentFields", type := (.array (.object "java/io/ObjectStreamField")), accessFlags := 26, slot := 2, constantValue := 0 }, { name := "REPL", type := .char, accessFlags := 26, slot := 3, constantValue := 0 }, { name := "CASE_INSENSITIVE_ORDER", type := (.object "java/util/Comparator"), accessFlags := 25, slot := 4, constantValue := 0 }, { name := "LATIN1", type := .byte, accessFlags := 24, slot := 5, constantValue := 0 }, { name := "UTF16", type := .byte, accessFlags := 24, slot := 6, constantValue := 0 }]
  methods := #[k7m0, k7m1, k7m2, k7m3, k7m4, k7m5, k7m6, k7m7, k7m8, k7m9]
  instanceTypes := #[(.array .byte), .byte, .int, .boolean]
  staticTypes := #[.long, .boolean, (.array (.object "java/io/ObjectStreamField")), .char, (.object "java/util/Comparator"), .byte, .byte]
  resolved := Array.replicate 1451 none
  statics := some 0 }

def pool8 : Array CpInfo := pool [(1, .class_ 2), (0, u "com/example/vett/vett/model/Iris"), (1, .class_ 6), (1, u "java/lang/Object"), (0, u "<init>"), (0, u "()V"), (0, .methodref 10 11), (0, .class_ 12), (0, .nameAndType 13 14), (0, u "java/lang/String"), (0, u "indexOf"), (0, u "(I)I"), (0, .fieldref 1 16), (0, .nameAndType 17 18), (0, u "IS_SCHEME_START"), (0, u "[Z"), (0, .methodref 10 20), (0, .nameAndType 21 22), (0, u "charAt"), (0, u "(I)C"), (0, .methodref 1 24), (0, .nameAndType 25 26), (0, u "isIn"), (0, u "([ZZC)Z"), (0, .fieldref 1 28), (0, .nameAndType 29 18), (0, u "IS_SCHEME_CHARACTER"), (0, .methodref 10 31), (0, .nameAndType 32 33), (0, u "length"), (0, u "()I"), (0, .methodref 1 35), (0, .nameAndType 36 37), (0, u "mayHold"), (0, u "(C)Z"), (0, .fieldref 1 39), (0, .nameAndType 40 18), (0, u "IS_IN_IRIREF"), (8, u "ORIGIN"), (0, u "Ljava/util/regex/Pattern;"), (18, u "isAbsolute"), (0, u "(Ljava/lang/String;)Z"), (29, u "SCHEME_START"), (0, u "Ljava/lang/String;"), (1, u "SCHEME_CHARACTER"), (0, u "SCHEME"), (2, u "NOT_IN_IRIREF"), (2, u "OPAQUE_ORIGIN")] 27

def k8m0 : Method := { name := "<init>", desc := "()V", sig := { parameters := [], returnType := none }, accessFlags := 2, code := none }
def k8c1 : Code := { maxStack := 4, maxLocals := 4, code := prog_6_method_2_code, exceptionTable := #[], attributes := #[] }
def k8m1 : Method := { name := "isAbsolute", desc := "(Ljava/lang/String;)Z", sig := { parameters := [(.object "java/lang/String")], returnType := some .boolean }, accessFlags := 9, code := some k8c1 }
def k8c2 : Code := { maxStack := 3, maxLocals := 1, code := prog_6_method_3_code, exceptionTable := #[], attributes := #[] }
def k8m2 : Method := { name := "mayHold", desc := "(C)Z", sig := { parameters := [.char], returnType := some .boolean }, accessFlags := 9, code := some k8c2 }
def k8c3 : Code := { maxStack := 2, maxLocals := 3, code := prog_6_method_8_code, exceptionTable := #[], attributes := #[] }
def k8m3 : Method := { name := "isIn", desc := "([ZZC)Z", sig := { parameters := [(.array .boolean), .boolean, .char], returnType := some .boolean }, accessFlags := 10, code := some k8c3 }
/-- com/example/vett/vett/model/Iris -/
def k8 : Class := { plain "com/example/vett/vett/model/Iris" (some 0) with
  accessFlags := 33
  interfaces := #[]
  cf := some (fileOf pool8 1 #[] #[{ accessFlags := 2, nameIndex := 7, descriptorIndex := 8, attributes := #[] }, { accessFlags := 9, nameIndex := 69, descriptorIndex := 70, attributes := #[] }, { accessFlags := 9, nameIndex := 36, descriptorIndex := 37, attributes := #[] }, { accessFlags := 10, nameIndex := 25, descriptorIndex := 26, attributes := #[] }] 33 4 #[] #[{ accessFlags := 26, nameIndex := 100, descriptorIndex := 101, attributes := #[] }, { accessFlags := 26, nameIndex := 103, descriptorIndex := 101, attributes := #[] }, { accessFlags := 26, nameIndex := 104, descriptorIndex := 101, attributes := #[] }, { accessFlags := 26, nameIndex := 107, descriptorIndex := 101, attributes := #[] }, { accessFlags := 26, nameIndex := 49, descriptorIndex := 50, attributes := #[] }, { accessFlags := 26, nameIndex := 110, descriptorIndex := 101, attributes := #[] }, { accessFlags := 26, nameIndex := 17, descriptorIndex := 18, attributes := #[] }, { accessFlags := 26, nameIndex := 29, descriptorIndex := 18, attributes := #[] }, { accessFlags := 26, nameIndex := 40, descriptorIndex := 18, attributes := #[] }])
  fields := #[{ name := "SCHEME_START", type := (.object "java/lang/String"), accessFlags := 26, slot := 0, constantValue := 0 }, { name := "SCHEME_CHARACTER", type := (.object "java/lang/String"), accessFlags := 26, slot := 1, constantValue := 0 }, { name := "SCHEME", type := (.object "java/lang/String"), accessFlags := 26, slot := 2, constantValue := 0 }, { name := "NOT_IN_IRIREF", type := (.object "java/lang/String"), accessFlags := 26, slot := 3, constantValue := 0 }, { name := "ORIGIN", type := (.object "java/util/regex/Pattern"), accessFlags := 26, slot := 4, constantValue := 0 }, { name := "OPAQUE_ORIGIN", type := (.object "java/lang/String"), accessFlags := 26, slot := 5, constantValue := 0 }, { name := "IS_SCHEME_START", type := (.array .boolean), accessFlags := 26, slot := 6, constantValue := 0 }, { name := "IS_SCHEME_CHARACTER", type := (.array .boolean), accessFlags := 26, slot := 7, constantValue := 0 }, { name := "IS_IN_IRIREF", type := (.array .boolean), accessFlags := 26, slot := 8, constantValue := 0 }]
  methods := #[k8m0, k8m1, k8m2, k8m3]
  instanceTypes := #[]
  staticTypes := #[(.object "java/lang/String"), (.object "java/lang/String"), (.object "java/lang/String"), (.object "java/lang/String"), (.object "java/util/regex/Pattern"), (.object "java/lang/String"), (.array .boolean), (.array .boolean), (.array .boolean)]
  resolved := Array.replicate 138 none
  statics := some 1 }

def pool9 : Array CpInfo := pool [(1, .class_ 2), (0, u "java/lang/String"), (1, .class_ 6), (1, u "java/lang/Object"), (0, u "<init>"), (0, u "()V"), (0, .methodref 1 10), (0, .nameAndType 11 12), (0, u "checkIndex"), (0, u "(II)V"), (1, .class_ 16), (1, u "java/lang/StringLatin1"), (21, .methodref 39 40), (0, .class_ 41), (0, .nameAndType 42 43), (0, u "java/lang/Math"), (0, u "min"), (0, u "(II)I"), (9, u "([BI)C"), (34, .methodref 14 89), (0, .nameAndType 90 91), (0, u "canEncode"), (0, u "(I)Z"), (0, .methodref 39 93), (0, .nameAndType 94 43), (0, u "max"), (0, .methodref 14 96), (0, .nameAndType 97 98), (0, u "indexOfChar"), (0, u "([BIII)I"), (2, u "indexOf"), (19, u "$assertionsDisabled"), (0, u "Z"), (98, .class_ 223), (1, u "java/lang/StringLatin1$LinesSpliterator"), (28, u "charAt"), (137, .class_ 391), (0, u "java/lang/StringLatin1$CharsSpliterator")] 3

def k9m0 : Method := { name := "<init>", desc := "()V", sig := { parameters := [], returnType := none }, accessFlags := 0, code := none }
def k9c1 : Code := { maxStack := 2, maxLocals := 2, code := jdk_43_method_2_code, exceptionTable := #[], attributes := #[] }
def k9m1 : Method := { name := "charAt", desc := "([BI)C", sig := { parameters := [(.array .byte), .int], returnType := some .char }, accessFlags := 9, code := some k9c1 }
def k9c2 : Code := { maxStack := 2, maxLocals := 1, code := jdk_43_method_4_code, exceptionTable := #[], attributes := #[] }
def k9m2 : Method := { name := "canEncode", desc := "(I)Z", sig := { parameters := [.int], returnType := some .boolean }, accessFlags := 9, code := some k9c2 }
def k9c3 : Code := { maxStack := 4, maxLocals := 4, code := jdk_43_method_22_code, exceptionTable := #[], attributes := #[] }
def k9m3 : Method := { name := "indexOf", desc := "([BIII)I", sig := { parameters := [(.array .byte), .int, .int, .int], returnType := some .int }, accessFlags := 9, code := some k9c3 }
def k9c4 : Code := { maxStack := 2, maxLocals := 6, code := jdk_43_method_23_code, exceptionTable := #[], attributes := #[] }
def k9m4 : Method := { name := "indexOfChar", desc := "([BIII)I", sig := { parameters := [(.array .byte), .int, .int, .int], returnType := some .int }, accessFlags := 10, code := some k9c4 }
/-- java/lang/StringLatin1 -/
def k9 : Class := { plain "java/lang/StringLatin1" (some 0) with
  accessFlags := 48
  interfaces := #[]
  cf := some (fileOf pool9 14 #[.nestMembers #[390, 221]] #[{ accessFlags := 0, nameIndex := 7, descriptorIndex := 8, attributes := #[] }, { accessFlags := 9, nameIndex := 252, descriptorIndex := 53, attributes := #[] }, { accessFlags := 9, nameIndex := 90, descriptorIndex := 91, attributes := #[] }, { accessFlags := 9, nameIndex := 101, descriptorIndex := 98, attributes := #[] }, { accessFlags := 10, nameIndex := 97, descriptorIndex := 98, attributes := #[] }] 48 4 #[] #[{ accessFlags := 4120, nameIndex := 121, descriptorIndex := 122, attributes := #[] }])
  fields := #[{ name := "$assertionsDisabled", type := .boolean, accessFlags := 4120, slot := 0, constantValue := 0 }]
  methods := #[k9m0, k9m1, k9m2, k9m3, k9m4]
  instanceTypes := #[]
  staticTypes := #[.boolean]
  resolved := Array.replicate 395 none
  statics := none }

def pool10 : Array CpInfo := pool [(1, .class_ 2), (0, u "java/lang/Math"), (1, .class_ 6), (1, u "java/lang/Object"), (0, u "<init>"), (0, u "()V"), (89, .class_ 100), (1, u "java/lang/Math$RandomNumberGeneratorHolder"), (71, u "negativeZeroFloatBits"), (0, u "J"), (2, u "negativeZeroDoubleBits"), (21, u "max"), (2, u "min"), (43, u "$assertionsDisabled"), (0, u "Z"), (88, u "(II)I"), (2, u "twoToTheDoubleScaleDown"), (0, u "D"), (4, u "twoToTheDoubleScaleUp"), (9, u "E"), (3, u "PI"), (2, u "TAU"), (2, u "DEGREES_TO_RADIANS"), (0, u "RADIANS_TO_DEGREES")] 94

def k10m0 : Method := { name := "<init>", desc := "()V", sig := { parameters := [], returnType := none }, accessFlags := 2, code := none }
def k10c1 : Code := { maxStack := 2, maxLocals := 2, code := jdk_29_method_65_code, exceptionTable := #[], attributes := #[] }
def k10m1 : Method := { name := "max", desc := "(II)I", sig := { parameters := [.int, .int], returnType := some .int }, accessFlags := 9, code := some k10c1 }
def k10c2 : Code := { maxStack := 2, maxLocals := 2, code := jdk_29_method_69_code, exceptionTable := #[], attributes := #[] }
def k10m2 : Method := { name := "min", desc := "(II)I", sig := { parameters := [.int, .int], returnType := some .int }, accessFlags := 9, code := some k10c2 }
/-- java/lang/Math -/
def k10 : Class := { plain "java/lang/Math" (some 0) with
  accessFlags := 49
  interfaces := #[]
  cf := some (fileOf pool10 1 #[.nestMembers #[98]] #[{ accessFlags := 2, nameIndex := 7, descriptorIndex := 8, attributes := #[] }, { accessFlags := 9, nameIndex := 198, descriptorIndex := 335, attributes := #[] }, { accessFlags := 9, nameIndex := 201, descriptorIndex := 335, attributes := #[] }] 49 4 #[] #[{ accessFlags := 25, nameIndex := 354, descriptorIndex := 339, attributes := #[] }, { accessFlags := 25, nameIndex := 358, descriptorIndex := 339, attributes := #[] }, { accessFlags := 25, nameIndex := 361, descriptorIndex := 339, attributes := #[] }, { accessFlags := 26, nameIndex := 364, descriptorIndex := 339, attributes := #[] }, { accessFlags := 26, nameIndex := 365, descriptorIndex := 339, attributes := #[] }, { accessFlags := 26, nameIndex := 172, descriptorIndex := 173, attributes := #[] }, { accessFlags := 26, nameIndex := 176, descriptorIndex := 173, attributes := #[] }, { accessFlags := 8, nameIndex := 344, descriptorIndex := 339, attributes := #[] }, { accessFlags := 8, nameIndex := 338, descriptorIndex := 339, attributes := #[] }, { accessFlags := 4120, nameIndex := 245, descriptorIndex := 246, attributes := #[] }])
  fields := #[{ name := "E", type := .double, accessFlags := 25, slot := 0, constantValue := 0 }, { name := "PI", type := .double, accessFlags := 25, slot := 1, constantValue := 0 }, { name := "TAU", type := .double, accessFlags := 25, slot := 2, constantValue := 0 }, { name := "DEGREES_TO_RADIANS", type := .double, accessFlags := 26, slot := 3, constantValue := 0 }, { name := "RADIANS_TO_DEGREES", type := .double, accessFlags := 26, slot := 4, constantValue := 0 }, { name := "negativeZeroFloatBits", type := .long, accessFlags := 26, slot := 5, constantValue := 0 }, { name := "negativeZeroDoubleBits", type := .long, accessFlags := 26, slot := 6, constantValue := 0 }, { name := "twoToTheDoubleScaleUp", type := .double, accessFlags := 8, slot := 7, constantValue := 0 }, { name := "twoToTheDoubleScaleDown", type := .double, accessFlags := 8, slot := 8, constantValue := 0 }, { name := "$assertionsDisabled", type := .boolean, accessFlags := 4120, slot := 9, constantValue := 0 }]
  methods := #[k10m0, k10m1, k10m2]
  instanceTypes := #[]
  staticTypes := #[.double, .double, .double, .double, .double, .long, .long, .double, .double, .boolean]
  resolved := Array.replicate 460 none
  statics := none }

def pool11 : Array CpInfo := pool [(6, .class_ 8), (1, u "java/lang/Object"), (0, u "<init>"), (0, u "()V"), (1, .class_ 14), (1, u "java/lang/StringUTF16"), (31, u "$assertionsDisabled"), (0, u "Z"), (13, u "HI_BYTE_SHIFT"), (0, u "I"), (2, u "LO_BYTE_SHIFT"), (49, .methodref 12 116), (0, .nameAndType 117 118), (0, u "compress"), (0, u "([CI[BII)I"), (3, u "([CII)[B"), (138, u "coderFromArrayLen"), (0, u "([BI)B"), (106, .class_ 371), (1, u "java/lang/StringUTF16$LinesSpliterator"), (58, u "MAX_LENGTH"), (196, .class_ 628), (0, u "java/lang/StringUTF16$CodePointsSpliterator"), (0, .class_ 630), (0, u "java/lang/StringUTF16$CharsSpliterator")] 4

def k11m0 : Method := { name := "<init>", desc := "()V", sig := { parameters := [], returnType := none }, accessFlags := 0, code := none }
def k11c1 : Code := { maxStack := 2, maxLocals := 2, code := jdk_52_method_15_code, exceptionTable := #[], attributes := #[] }
def k11m1 : Method := { name := "coderFromArrayLen", desc := "([BI)B", sig := { parameters := [(.array .byte), .int], returnType := some .byte }, accessFlags := 8, code := some k11c1 }
def k11c2 : Code := { maxStack := 5, maxLocals := 6, code := jdk_52_method_16_code, exceptionTable := #[], attributes := #[] }
def k11m2 : Method := { name := "compress", desc := "([CII)[B", sig := { parameters := [(.array .char), .int, .int], returnType := some (.array .byte) }, accessFlags := 9, code := some k11c2 }
def k11c3 : Code := { maxStack := 3, maxLocals := 7, code := jdk_52_method_21_code, exceptionTable := #[], attributes := #[] }
def k11m3 : Method := { name := "compress", desc := "([CI[BII)I", sig := { parameters := [(.array .char), .int, (.array .byte), .int, .int], returnType := some .int }, accessFlags := 9, code := some k11c3 }
/-- java/lang/StringUTF16 -/
def k11 : Class := { plain "java/lang/StringUTF16" (some 0) with
  accessFlags := 48
  interfaces := #[]
  cf := some (fileOf pool11 12 #[.nestMembers #[627, 629, 369]] #[{ accessFlags := 0, nameIndex := 9, descriptorIndex := 10, attributes := #[] }, { accessFlags := 8, nameIndex := 261, descriptorIndex := 262, attributes := #[] }, { accessFlags := 9, nameIndex := 117, descriptorIndex := 122, attributes := #[] }, { accessFlags := 9, nameIndex := 117, descriptorIndex := 118, attributes := #[] }] 48 6 #[] #[{ accessFlags := 26, nameIndex := 61, descriptorIndex := 62, attributes := #[] }, { accessFlags := 26, nameIndex := 65, descriptorIndex := 62, attributes := #[] }, { accessFlags := 24, nameIndex := 430, descriptorIndex := 62, attributes := #[] }, { accessFlags := 4120, nameIndex := 46, descriptorIndex := 47, attributes := #[] }])
  fields := #[{ name := "HI_BYTE_SHIFT", type := .int, accessFlags := 26, slot := 0, constantValue := 0 }, { name := "LO_BYTE_SHIFT", type := .int, accessFlags := 26, slot := 1, constantValue := 0 }, { name := "MAX_LENGTH", type := .int, accessFlags := 24, slot := 2, constantValue := 0 }, { name := "$assertionsDisabled", type := .boolean, accessFlags := 4120, slot := 3, constantValue := 0 }]
  methods := #[k11m0, k11m1, k11m2, k11m3]
  instanceTypes := #[]
  staticTypes := #[.int, .int, .int, .boolean]
  resolved := Array.replicate 635 none
  statics := none }

def pool12 : Array CpInfo := pool [(2, .class_ 4), (1, u "java/lang/Object"), (0, u "<init>"), (0, u "()V"), (17, .class_ 26), (1, u "jdk/internal/util/Preconditions"), (6, u "checkIndex"), (21, .class_ 56), (0, u "jdk/internal/util/Preconditions$4"), (57, .class_ 115), (0, u "jdk/internal/util/Preconditions$1"), (7, u "SIOOBE_FORMATTER"), (0, u "Ljava/util/function/BiFunction;"), (0, .class_ 126), (0, u "jdk/internal/util/Preconditions$2"), (3, u "AIOOBE_FORMATTER"), (0, .class_ 132), (0, u "jdk/internal/util/Preconditions$3"), (3, u "IOOBE_FORMATTER"), (41, u "(IILjava/util/function/BiFunction;)I")] 15

def k12m0 : Method := { name := "<init>", desc := "()V", sig := { parameters := [], returnType := none }, accessFlags := 1, code := none }
def k12c1 : Code := { maxStack := 3, maxLocals := 3, code := jdk_41_method_11_code, exceptionTable := #[], attributes := #[] }
def k12m1 : Method := { name := "checkIndex", desc := "(IILjava/util/function/BiFunction;)I", sig := { parameters := [.int, .int, (.object "java/util/function/BiFunction")], returnType := some .int }, accessFlags := 9, code := some k12c1 }
/-- jdk/internal/util/Preconditions -/
def k12 : Class := { plain "jdk/internal/util/Preconditions" (some 0) with
  accessFlags := 33
  interfaces := #[]
  cf := some (fileOf pool12 24 #[.nestMembers #[55, 131, 125, 114]] #[{ accessFlags := 1, nameIndex := 5, descriptorIndex := 6, attributes := #[] }, { accessFlags := 9, nameIndex := 33, descriptorIndex := 178, attributes := #[] }] 33 2 #[] #[{ accessFlags := 25, nameIndex := 123, descriptorIndex := 124, attributes := #[] }, { accessFlags := 25, nameIndex := 130, descriptorIndex := 124, attributes := #[] }, { accessFlags := 25, nameIndex := 136, descriptorIndex := 124, attributes := #[] }])
  fields := #[{ name := "SIOOBE_FORMATTER", type := (.object "java/util/function/BiFunction"), accessFlags := 25, slot := 0, constantValue := 0 }, { name := "AIOOBE_FORMATTER", type := (.object "java/util/function/BiFunction"), accessFlags := 25, slot := 1, constantValue := 0 }, { name := "IOOBE_FORMATTER", type := (.object "java/util/function/BiFunction"), accessFlags := 25, slot := 2, constantValue := 0 }]
  methods := #[k12m0, k12m1]
  instanceTypes := #[]
  staticTypes := #[(.object "java/util/function/BiFunction"), (.object "java/util/function/BiFunction"), (.object "java/util/function/BiFunction")]
  resolved := Array.replicate 194 none
  statics := some 2 }

def pool13 : Array CpInfo := pool [(9, u "<init>"), (6, .class_ 18), (1, u "java/lang/Object"), (0, u "()V"), (1, .class_ 23), (1, u "jdk/internal/util/ArraysSupport"), (0, u "LOG2_ARRAY_LONG_INDEX_SCALE"), (0, u "I"), (2, u "U"), (0, u "Ljdk/internal/misc/Unsafe;"), (8, u "BIG_ENDIAN"), (0, u "Z"), (8, u "LOG2_BYTE_BIT_SIZE"), (4, u "LOG2_ARRAY_INT_INDEX_SCALE"), (54, u "JLA"), (0, u "Ljdk/internal/access/JavaLangAccess;"), (11, u "LOG2_ARRAY_BOOLEAN_INDEX_SCALE"), (9, u "LOG2_ARRAY_BYTE_INDEX_SCALE"), (5, u "LOG2_ARRAY_CHAR_INDEX_SCALE"), (5, u "LOG2_ARRAY_SHORT_INDEX_SCALE"), (18, u "LOG2_ARRAY_FLOAT_INDEX_SCALE"), (24, u "LOG2_ARRAY_DOUBLE_INDEX_SCALE"), (89, u "T_BOOLEAN"), (2, u "T_CHAR"), (1, u "T_FLOAT"), (1, u "T_DOUBLE"), (1, u "T_BYTE"), (1, u "T_SHORT"), (1, u "T_INT"), (1, u "T_LONG"), (1, u "SOFT_MAX_ARRAY_LENGTH")] 83

def k13m0 : Method := { name := "<init>", desc := "()V", sig := { parameters := [], returnType := none }, accessFlags := 2, code := none }
/-- jdk/internal/util/ArraysSupport -/
def k13 : Class := { plain "jdk/internal/util/ArraysSupport" (some 0) with
  accessFlags := 33
  interfaces := #[]
  cf := some (fileOf pool13 21 #[] #[{ accessFlags := 2, nameIndex := 9, descriptorIndex := 19, attributes := #[] }] 33 16 #[] #[{ accessFlags := 24, nameIndex := 28, descriptorIndex := 29, attributes := #[] }, { accessFlags := 26, nameIndex := 38, descriptorIndex := 39, attributes := #[] }, { accessFlags := 25, nameIndex := 121, descriptorIndex := 25, attributes := #[] }, { accessFlags := 25, nameIndex := 131, descriptorIndex := 25, attributes := #[] }, { accessFlags := 25, nameIndex := 137, descriptorIndex := 25, attributes := #[] }, { accessFlags := 25, nameIndex := 143, descriptorIndex := 25, attributes := #[] }, { accessFlags := 25, nameIndex := 53, descriptorIndex := 25, attributes := #[] }, { accessFlags := 25, nameIndex := 24, descriptorIndex := 25, attributes := #[] }, { accessFlags := 25, nameIndex := 162, descriptorIndex := 25, attributes := #[] }, { accessFlags := 25, nameIndex := 187, descriptorIndex := 25, attributes := #[] }, { accessFlags := 26, nameIndex := 48, descriptorIndex := 25, attributes := #[] }, { accessFlags := 25, nameIndex := 277, descriptorIndex := 25, attributes := #[] }, { accessFlags := 25, nameIndex := 280, descriptorIndex := 25, attributes := #[] }, { accessFlags := 25, nameIndex := 282, descriptorIndex := 25, attributes := #[] }, { accessFlags := 25, nameIndex := 284, descriptorIndex := 25, attributes := #[] }, { accessFlags := 25, nameIndex := 286, descriptorIndex := 25, attributes := #[] }, { accessFlags := 25, nameIndex := 288, descriptorIndex := 25, attributes := #[] }, { accessFlags := 25, nameIndex := 290, descriptorIndex := 25, attributes := #[] }, { accessFlags := 25, nameIndex := 292, descriptorIndex := 25, attributes := #[] }, { accessFlags := 26, nameIndex := 108, descriptorIndex := 109, attributes := #[] }, { accessFlags := 25, nameIndex := 294, descriptorIndex := 25, attributes := #[] }])
  fields := #[{ name := "U", type := (.object "jdk/internal/misc/Unsafe"), accessFlags := 24, slot := 0, constantValue := 0 }, { name := "BIG_ENDIAN", type := .boolean, accessFlags := 26, slot := 1, constantValue := 0 }, { name := "LOG2_ARRAY_BOOLEAN_INDEX_SCALE", type := .int, accessFlags := 25, slot := 2, constantValue := 0 }, { name := "LOG2_ARRAY_BYTE_INDEX_SCALE", type := .int, accessFlags := 25, slot := 3, constantValue := 0 }, { name := "LOG2_ARRAY_CHAR_INDEX_SCALE", type := .int, accessFlags := 25, slot := 4, constantValue := 0 }, { name := "LOG2_ARRAY_SHORT_INDEX_SCALE", type := .int, accessFlags := 25, slot := 5, constantValue := 0 }, { name := "LOG2_ARRAY_INT_INDEX_SCALE", type := .int, accessFlags := 25, slot := 6, constantValue := 0 }, { name := "LOG2_ARRAY_LONG_INDEX_SCALE", type := .int, accessFlags := 25, slot := 7, constantValue := 0 }, { name := "LOG2_ARRAY_FLOAT_INDEX_SCALE", type := .int, accessFlags := 25, slot := 8, constantValue := 0 }, { name := "LOG2_ARRAY_DOUBLE_INDEX_SCALE", type := .int, accessFlags := 25, slot := 9, constantValue := 0 }, { name := "LOG2_BYTE_BIT_SIZE", type := .int, accessFlags := 26, slot := 10, constantValue := 0 }, { name := "T_BOOLEAN", type := .int, accessFlags := 25, slot := 11, constantValue := 0 }, { name := "T_CHAR", type := .int, accessFlags := 25, slot := 12, constantValue := 0 }, { name := "T_FLOAT", type := .int, accessFlags := 25, slot := 13, constantValue := 0 }, { name := "T_DOUBLE", type := .int, accessFlags := 25, slot := 14, constantValue := 0 }, { name := "T_BYTE", type := .int, accessFlags := 25, slot := 15, constantValue := 0 }, { name := "T_SHORT", type := .int, accessFlags := 25, slot := 16, constantValue := 0 }, { name := "T_INT", type := .int, accessFlags := 25, slot := 17, constantValue := 0 }, { name := "T_LONG", type := .int, accessFlags := 25, slot := 18, constantValue := 0 }, { name := "JLA", type := (.object "jdk/internal/access/JavaLangAccess"), accessFlags := 26, slot := 19, constantValue := 0 }, { name := "SOFT_MAX_ARRAY_LENGTH", type := .int, accessFlags := 25, slot := 20, constantValue := 0 }]
  methods := #[k13m0]
  instanceTypes := #[]
  staticTypes := #[(.object "jdk/internal/misc/Unsafe"), .boolean, .int, .int, .int, .int, .int, .int, .int, .int, .int, .int, .int, .int, .int, .int, .int, .int, .int, (.object "jdk/internal/access/JavaLangAccess"), .int]
  resolved := Array.replicate 378 none
  statics := none }

def pool14 : Array CpInfo := pool [(1, u "java/lang/Cloneable"), (0, .class_ 1), (0, u "java/lang/Object"), (0, .class_ 3)] 3

/-- java/lang/Cloneable -/
def k14 : Class := { plain "java/lang/Cloneable" (some 0) with
  accessFlags := 1537
  interfaces := #[]
  cf := some (fileOf pool14 2 #[] #[] 1537 4 #[] #[])
  fields := #[]
  methods := #[]
  instanceTypes := #[]
  staticTypes := #[]
  resolved := Array.replicate 8 none
  statics := none }

/-- the primitive boolean -/
def k15 : Class := { plain "boolean" none with kind := .primitive 'Z', accessFlags := 0x411 }
/-- [Z -/
def k16 : Class := { plain "[Z" (some 0) with kind := .array 15 .boolean, interfaces := #[14, 2], accessFlags := 1041 }

/-- the primitive byte -/
def k17 : Class := { plain "byte" none with kind := .primitive 'B', accessFlags := 0x411 }
/-- [B -/
def k18 : Class := { plain "[B" (some 0) with kind := .array 17 .byte, interfaces := #[14, 2], accessFlags := 1041 }

/-- the primitive char -/
def k19 : Class := { plain "char" none with kind := .primitive 'C', accessFlags := 0x411 }
/-- [C -/
def k20 : Class := { plain "[C" (some 0) with kind := .array 19 .char, interfaces := #[14, 2], accessFlags := 1041 }

/-- the primitive int -/
def k21 : Class := { plain "int" none with kind := .primitive 'I', accessFlags := 0x411 }
/-- [I -/
def k22 : Class := { plain "[I" (some 0) with kind := .array 21 .int, interfaces := #[14, 2], accessFlags := 1041 }

def heap : Heap := #[{ cls := 7, slots := #[.long 0, .int 1, .null, .int 0, .null, .int 0, .int 0], vm := .statics 7 },
  { cls := 8, slots := #[.null, .null, .null, .null, .null, .null, .ref 3, .ref 4, .ref 5], vm := .statics 8 },
  { cls := 12, slots := #[.null, .null, .null], vm := .statics 12 },
  { cls := 16, slots := #[.int 0, .int 0, .int 0, .int 0, .int 0, .int 0, .int 0, .int 0, .int 0, .int 0, .int 0, .int 0, .int 0, .int 0, .int 0, .int 0, .int 0, .int 0, .int 0, .int 0, .int 0, .int 0, .int 0, .int 0, .int 0, .int 0, .int 0, .int 0, .int 0, .int 0, .int 0, .int 0, .int 0, .int 0, .int 0, .int 0, .int 0, .int 0, .int 0, .int 0, .int 0, .int 0, .int 0, .int 0, .int 0, .int 0, .int 0, .int 0, .int 0, .int 0, .int 0, .int 0, .int 0, .int 0, .int 0, .int 0, .int 0, .int 0, .int 0, .int 0, .int 0, .int 0, .int 0, .int 0, .int 0, .int 1, .int 1, .int 1, .int 1, .int 1, .int 1, .int 1, .int 1, .int 1, .int 1, .int 1, .int 1, .int 1, .int 1, .int 1, .int 1, .int 1, .int 1, .int 1, .int 1, .int 1, .int 1, .int 1, .int 1, .int 1, .int 1, .int 0, .int 0, .int 0, .int 0, .int 0, .int 0, .int 1, .int 1, .int 1, .int 1, .int 1, .int 1, .int 1, .int 1, .int 1, .int 1, .int 1, .int 1, .int 1, .int 1, .int 1, .int 1, .int 1, .int 1, .int 1, .int 1, .int 1, .int 1, .int 1, .int 1, .int 1, .int 1, .int 0, .int 0, .int 0, .int 0, .int 0], vm := .none },
  { cls := 16, slots := #[.int 0, .int 0, .int 0, .int 0, .int 0, .int 0, .int 0, .int 0, .int 0, .int 0, .int 0, .int 0, .int 0, .int 0, .int 0, .int 0, .int 0, .int 0, .int 0, .int 0, .int 0, .int 0, .int 0, .int 0, .int 0, .int 0, .int 0, .int 0, .int 0, .int 0, .int 0, .int 0, .int 0, .int 0, .int 0, .int 0, .int 0, .int 0, .int 0, .int 0, .int 0, .int 0, .int 0, .int 1, .int 0, .int 1, .int 1, .int 0, .int 1, .int 1, .int 1, .int 1, .int 1, .int 1, .int 1, .int 1, .int 1, .int 1, .int 0, .int 0, .int 0, .int 0, .int 0, .int 0, .int 0, .int 1, .int 1, .int 1, .int 1, .int 1, .int 1, .int 1, .int 1, .int 1, .int 1, .int 1, .int 1, .int 1, .int 1, .int 1, .int 1, .int 1, .int 1, .int 1, .int 1, .int 1, .int 1, .int 1, .int 1, .int 1, .int 1, .int 0, .int 0, .int 0, .int 0, .int 0, .int 0, .int 1, .int 1, .int 1, .int 1, .int 1, .int 1, .int 1, .int 1, .int 1, .int 1, .int 1, .int 1, .int 1, .int 1, .int 1, .int 1, .int 1, .int 1, .int 1, .int 1, .int 1, .int 1, .int 1, .int 1, .int 1, .int 1, .int 0, .int 0, .int 0, .int 0, .int 0], vm := .none },
  { cls := 16, slots := #[.int 0, .int 0, .int 0, .int 0, .int 0, .int 0, .int 0, .int 0, .int 0, .int 0, .int 0, .int 0, .int 0, .int 0, .int 0, .int 0, .int 0, .int 0, .int 0, .int 0, .int 0, .int 0, .int 0, .int 0, .int 0, .int 0, .int 0, .int 0, .int 0, .int 0, .int 0, .int 0, .int 0, .int 1, .int 0, .int 1, .int 1, .int 1, .int 1, .int 1, .int 1, .int 1, .int 1, .int 1, .int 1, .int 1, .int 1, .int 1, .int 1, .int 1, .int 1, .int 1, .int 1, .int 1, .int 1, .int 1, .int 1, .int 1, .int 1, .int 1, .int 0, .int 1, .int 0, .int 1, .int 1, .int 1, .int 1, .int 1, .int 1, .int 1, .int 1, .int 1, .int 1, .int 1, .int 1, .int 1, .int 1, .int 1, .int 1, .int 1, .int 1, .int 1, .int 1, .int 1, .int 1, .int 1, .int 1, .int 1, .int 1, .int 1, .int 1, .int 1, .int 0, .int 1, .int 0, .int 1, .int 0, .int 1, .int 1, .int 1, .int 1, .int 1, .int 1, .int 1, .int 1, .int 1, .int 1, .int 1, .int 1, .int 1, .int 1, .int 1, .int 1, .int 1, .int 1, .int 1, .int 1, .int 1, .int 1, .int 1, .int 1, .int 1, .int 1, .int 0, .int 0, .int 0, .int 1, .int 1], vm := .none }]
def classes : Array Class := #[k0, k1, k2, k3, k4, k5, k6, k7, k8, k9, k10, k11, k12, k13, k14, k15, k16, k17, k18, k19, k20, k21, k22]
def interned : List (Array UInt16 × Addr) := []
def slotsUsed : Nat := 403
def theMethod : MethodId := ⟨1, 1⟩
def args0 : Array Value := #[.int 5, .int 5, .int 5, .int 5, .int 5, .int 5]
def aboutOver (below : List Frame) : State where
  vm := { classes := classes, interned := interned.toArray }
  heap := heap
  slotsUsed := slotsUsed
  threads := #[{ frames := .invoking theMethod args0 :: below }]
def below0 : List Frame := [.native { method := ⟨0, 0⟩, args := #[] }]
def about1 : State := aboutOver below0
def p0 : Program := .bare "" "" ""
def e0 : Env := launch0.env 0 0 0
theorem w_frames : about1.frames = Frame.invoking theMethod args0 :: below0 := rfl
set_option maxRecDepth 65536 in
theorem w_args : argsFit about1.vm theMethod args0 = true := by decide +kernel
set_option maxRecDepth 65536 in
theorem w_heap : heapFits about1 = true := by decide +kernel
set_option maxRecDepth 65536 in
theorem w_runnable : about1.curStatus? = some .runnable := by decide +kernel
set_option maxRecDepth 65536 in
theorem w_alone : about1.alone = true := by decide +kernel
set_option maxRecDepth 65536 in
theorem w_named : about1.methodNamed? x = some theMethod := by decide +kernel
set_option maxRecDepth 65536 in
theorem w_hears : about1.hears theMethod below0 = true := by decide +kernel
set_option maxRecDepth 65536 in
theorem w_ripe : about1.ripe theMethod args0 below0 = true := by decide +kernel
theorem w_running : about1.status = .running := rfl
set_option maxRecDepth 65536 in
theorem w_room : about1.hasRoom e0.platform room_1 = true :=
  launch0.hasRoom_least _ room_1 (by decide +kernel) (by decide +kernel) (by decide +kernel) (by decide +kernel) (by decide +kernel) (by decide +kernel)
theorem allAtoms_all (ts : List Jvm.Cond) (a : Array Jvm.Value) (st : Jvm.State) : (allAtoms ts).before a st = ts.all (fun c => c.before a st) := by
  induction ts with
  | nil => rfl
  | cons c t ih =>
    show (Jvm.Cond.and c (allAtoms t)).before a st = _
    rw [Jvm.Cond.before_and, ih, List.all_cons]
def words1 : List Jvm.Cond := Jvm.Cond.code x code maxLocals ret :: tables_1
/-- a 'code' word, met by the world's own term for the bytes: nothing is compared byte by byte -/
theorem code_word {y : MethodName} {bytes : ByteArray} {mx : Nat} {rt : Option FieldType} {a : Array Value} {s : State} {m : MethodId} {meth : Method} {c : Code} (h1 : s.methodNamed? y = some m) (h2 : s.vm.method? m = some meth) (h3 : meth.code = some c) (h4 : c.code = bytes)
    (h5 : (c.maxLocals == mx && c.exceptionTable.isEmpty && decide (c.maxStack ≤ mostOperands) && decide (meth.sig.returnType = rt) && !meth.locks && decide (parseMethodDescriptor y.desc = some meth.sig)) = true) : (Jvm.Cond.code y bytes mx rt).before a s = true := by
  simp only [Bool.and_eq_true, beq_iff_eq, Bool.not_eq_true', decide_eq_true_eq] at h5
  obtain ⟨⟨⟨⟨⟨g1, g2⟩, g3⟩, g4⟩, g5⟩, g6⟩ := h5
  simp [Cond.before, Cond.holds, Cond.value, h1, h2, h3, h4, g1, g2, g3, g4, g5, g6]
def isCode : Jvm.Cond → Bool
  | .code _ _ _ _ => true
  | _ => false
theorem all_split {L : List Jvm.Cond} {P : Jvm.Cond → Bool} (h1 : L.all (fun c => isCode c || P c) = true) (h2 : ∀ c ∈ L.filter isCode, P c = true) : L.all P = true := by
  refine List.all_eq_true.mpr fun c hc => ?_
  have h := List.all_eq_true.mp h1 c hc
  rcases Bool.eq_false_or_eq_true (isCode c) with hi | hi
  · exact h2 c (List.mem_filter.mpr ⟨hc, hi⟩)
  · simpa [hi] using h
set_option maxRecDepth 65536 in
theorem w_c0 : (Jvm.Cond.code x code maxLocals ret).before args0 about1 = true := code_word (m := ⟨1, 1⟩) (meth := k1m1) (c := k1c1) (by decide +kernel) rfl rfl rfl (by decide +kernel)
set_option maxRecDepth 65536 in
theorem w_c1 : (Jvm.Cond.code ({ cls := "com/example/vett/vett/model/IrisIsAbsolutePinLaw", name := "draw", desc := "(I)C" } : Jvm.MethodName) method_3_code (1 : Nat) (Option.some Jvm.ClassFile.FieldType.char)).before args0 about1 = true := code_word (m := ⟨1, 2⟩) (meth := k1m2) (c := k1c2) (by decide +kernel) rfl rfl rfl (by decide +kernel)
set_option maxRecDepth 65536 in
theorem w_c2 : (Jvm.Cond.code ({ cls := "java/lang/String", name := "<init>", desc := "([C)V" } : Jvm.MethodName) jdk_42_method_3_code (2 : Nat) (Option.none : Option Jvm.ClassFile.FieldType)).before args0 about1 = true := code_word (m := ⟨7, 1⟩) (meth := k7m1) (c := k7c1) (by decide +kernel) rfl rfl rfl (by decide +kernel)
set_option maxRecDepth 65536 in
theorem w_c3 : (Jvm.Cond.code ({ cls := "java/lang/String", name := "<init>", desc := "([CIILjava/lang/Void;)V" } : Jvm.MethodName) jdk_42_method_149_code (6 : Nat) (Option.none : Option Jvm.ClassFile.FieldType)).before args0 about1 = true := code_word (m := ⟨7, 6⟩) (meth := k7m6) (c := k7c6) (by decide +kernel) rfl rfl rfl (by decide +kernel)
set_option maxRecDepth 65536 in
theorem w_c4 : (Jvm.Cond.code ({ cls := "java/lang/Object", name := "<init>", desc := "()V" } : Jvm.MethodName) object_method_1_code (1 : Nat) (Option.none : Option Jvm.ClassFile.FieldType)).before args0 about1 = true := code_word (m := ⟨0, 0⟩) (meth := k0m0) (c := k0c0) (by decide +kernel) rfl rfl rfl (by decide +kernel)
set_option maxRecDepth 65536 in
theorem w_c5 : (Jvm.Cond.code ({ cls := "com/example/vett/vett/model/IrisIsAbsolutePinLaw", name := "reference", desc := "([CI)Z" } : Jvm.MethodName) method_9_code (3 : Nat) (Option.some Jvm.ClassFile.FieldType.boolean)).before args0 about1 = true := code_word (m := ⟨1, 8⟩) (meth := k1m8) (c := k1c8) (by decide +kernel) rfl rfl rfl (by decide +kernel)
set_option maxRecDepth 65536 in
theorem w_c6 : (Jvm.Cond.code ({ cls := "com/example/vett/vett/model/IrisIsAbsolutePinLaw", name := "firstColon", desc := "([CI)I" } : Jvm.MethodName) method_4_code (2 : Nat) (Option.some Jvm.ClassFile.FieldType.int)).before args0 about1 = true := code_word (m := ⟨1, 3⟩) (meth := k1m3) (c := k1c3) (by decide +kernel) rfl rfl rfl (by decide +kernel)
set_option maxRecDepth 65536 in
theorem w_c7 : (Jvm.Cond.code ({ cls := "com/example/vett/vett/model/Iris", name := "isAbsolute", desc := "(Ljava/lang/String;)Z" } : Jvm.MethodName) prog_6_method_2_code (4 : Nat) (Option.some Jvm.ClassFile.FieldType.boolean)).before args0 about1 = true := code_word (m := ⟨8, 1⟩) (meth := k8m1) (c := k8c1) (by decide +kernel) rfl rfl rfl (by decide +kernel)
set_option maxRecDepth 65536 in
theorem w_c8 : (Jvm.Cond.code ({ cls := "java/lang/String", name := "indexOf", desc := "(I)I" } : Jvm.MethodName) jdk_42_method_79_code (2 : Nat) (Option.some Jvm.ClassFile.FieldType.int)).before args0 about1 = true := code_word (m := ⟨7, 4⟩) (meth := k7m4) (c := k7c4) (by decide +kernel) rfl rfl rfl (by decide +kernel)
set_option maxRecDepth 65536 in
theorem w_c9 : (Jvm.Cond.code ({ cls := "java/lang/String", name := "indexOf", desc := "(II)I" } : Jvm.MethodName) jdk_42_method_80_code (3 : Nat) (Option.some Jvm.ClassFile.FieldType.int)).before args0 about1 = true := code_word (m := ⟨7, 5⟩) (meth := k7m5) (c := k7c5) (by decide +kernel) rfl rfl rfl (by decide +kernel)
set_option maxRecDepth 65536 in
theorem w_c10 : (Jvm.Cond.code ({ cls := "java/lang/String", name := "isLatin1", desc := "()Z" } : Jvm.MethodName) jdk_42_method_154_code (1 : Nat) (Option.some Jvm.ClassFile.FieldType.boolean)).before args0 about1 = true := code_word (m := ⟨7, 8⟩) (meth := k7m8) (c := k7c8) (by decide +kernel) rfl rfl rfl (by decide +kernel)
set_option maxRecDepth 65536 in
theorem w_c11 : (Jvm.Cond.code ({ cls := "java/lang/String", name := "length", desc := "()I" } : Jvm.MethodName) jdk_42_method_54_code (1 : Nat) (Option.some Jvm.ClassFile.FieldType.int)).before args0 about1 = true := code_word (m := ⟨7, 2⟩) (meth := k7m2) (c := k7c2) (by decide +kernel) rfl rfl rfl (by decide +kernel)
set_option maxRecDepth 65536 in
theorem w_c12 : (Jvm.Cond.code ({ cls := "java/lang/String", name := "coder", desc := "()B" } : Jvm.MethodName) jdk_42_method_152_code (1 : Nat) (Option.some Jvm.ClassFile.FieldType.byte)).before args0 about1 = true := code_word (m := ⟨7, 7⟩) (meth := k7m7) (c := k7c7) (by decide +kernel) rfl rfl rfl (by decide +kernel)
set_option maxRecDepth 65536 in
theorem w_c13 : (Jvm.Cond.code ({ cls := "java/lang/StringLatin1", name := "indexOf", desc := "([BIII)I" } : Jvm.MethodName) jdk_43_method_22_code (4 : Nat) (Option.some Jvm.ClassFile.FieldType.int)).before args0 about1 = true := code_word (m := ⟨9, 3⟩) (meth := k9m3) (c := k9c3) (by decide +kernel) rfl rfl rfl (by decide +kernel)
set_option maxRecDepth 65536 in
theorem w_c14 : (Jvm.Cond.code ({ cls := "java/lang/StringLatin1", name := "canEncode", desc := "(I)Z" } : Jvm.MethodName) jdk_43_method_4_code (1 : Nat) (Option.some Jvm.ClassFile.FieldType.boolean)).before args0 about1 = true := code_word (m := ⟨9, 2⟩) (meth := k9m2) (c := k9c2) (by decide +kernel) rfl rfl rfl (by decide +kernel)
set_option maxRecDepth 65536 in
theorem w_c15 : (Jvm.Cond.code ({ cls := "java/lang/Math", name := "max", desc := "(II)I" } : Jvm.MethodName) jdk_29_method_65_code (2 : Nat) (Option.some Jvm.ClassFile.FieldType.int)).before args0 about1 = true := code_word (m := ⟨10, 1⟩) (meth := k10m1) (c := k10c1) (by decide +kernel) rfl rfl rfl (by decide +kernel)
set_option maxRecDepth 65536 in
theorem w_c16 : (Jvm.Cond.code ({ cls := "java/lang/Math", name := "min", desc := "(II)I" } : Jvm.MethodName) jdk_29_method_69_code (2 : Nat) (Option.some Jvm.ClassFile.FieldType.int)).before args0 about1 = true := code_word (m := ⟨10, 2⟩) (meth := k10m2) (c := k10c2) (by decide +kernel) rfl rfl rfl (by decide +kernel)
set_option maxRecDepth 65536 in
theorem w_c17 : (Jvm.Cond.code ({ cls := "java/lang/StringUTF16", name := "compress", desc := "([CII)[B" } : Jvm.MethodName) jdk_52_method_16_code (6 : Nat) (Option.some (Jvm.ClassFile.FieldType.array Jvm.ClassFile.FieldType.byte))).before args0 about1 = true := code_word (m := ⟨11, 2⟩) (meth := k11m2) (c := k11c2) (by decide +kernel) rfl rfl rfl (by decide +kernel)
set_option maxRecDepth 65536 in
theorem w_c18 : (Jvm.Cond.code ({ cls := "java/lang/StringUTF16", name := "compress", desc := "([CI[BII)I" } : Jvm.MethodName) jdk_52_method_21_code (7 : Nat) (Option.some Jvm.ClassFile.FieldType.int)).before args0 about1 = true := code_word (m := ⟨11, 3⟩) (meth := k11m3) (c := k11c3) (by decide +kernel) rfl rfl rfl (by decide +kernel)
set_option maxRecDepth 65536 in
theorem w_c19 : (Jvm.Cond.code ({ cls := "java/lang/StringUTF16", name := "coderFromArrayLen", desc := "([BI)B" } : Jvm.MethodName) jdk_52_method_15_code (2 : Nat) (Option.some Jvm.ClassFile.FieldType.byte)).before args0 about1 = true := code_word (m := ⟨11, 1⟩) (meth := k11m1) (c := k11c1) (by decide +kernel) rfl rfl rfl (by decide +kernel)
set_option maxRecDepth 65536 in
theorem w_c20 : (Jvm.Cond.code ({ cls := "java/lang/StringLatin1", name := "indexOfChar", desc := "([BIII)I" } : Jvm.MethodName) jdk_43_method_23_code (6 : Nat) (Option.some Jvm.ClassFile.FieldType.int)).before args0 about1 = true := code_word (m := ⟨9, 4⟩) (meth := k9m4) (c := k9c4) (by decide +kernel) rfl rfl rfl (by decide +kernel)
set_option maxRecDepth 65536 in
theorem w_c21 : (Jvm.Cond.code ({ cls := "com/example/vett/vett/model/IrisIsAbsolutePinLaw", name := "ok", desc := "([CIII)Z" } : Jvm.MethodName) method_8_code (5 : Nat) (Option.some Jvm.ClassFile.FieldType.boolean)).before args0 about1 = true := code_word (m := ⟨1, 7⟩) (meth := k1m7) (c := k1c7) (by decide +kernel) rfl rfl rfl (by decide +kernel)
set_option maxRecDepth 65536 in
theorem w_c22 : (Jvm.Cond.code ({ cls := "com/example/vett/vett/model/IrisIsAbsolutePinLaw", name := "letter", desc := "(C)Z" } : Jvm.MethodName) method_5_code (1 : Nat) (Option.some Jvm.ClassFile.FieldType.boolean)).before args0 about1 = true := code_word (m := ⟨1, 4⟩) (meth := k1m4) (c := k1c4) (by decide +kernel) rfl rfl rfl (by decide +kernel)
set_option maxRecDepth 65536 in
theorem w_c23 : (Jvm.Cond.code ({ cls := "java/lang/String", name := "charAt", desc := "(I)C" } : Jvm.MethodName) jdk_42_method_56_code (2 : Nat) (Option.some Jvm.ClassFile.FieldType.char)).before args0 about1 = true := code_word (m := ⟨7, 3⟩) (meth := k7m3) (c := k7c3) (by decide +kernel) rfl rfl rfl (by decide +kernel)
set_option maxRecDepth 65536 in
theorem w_c24 : (Jvm.Cond.code ({ cls := "java/lang/StringLatin1", name := "charAt", desc := "([BI)C" } : Jvm.MethodName) jdk_43_method_2_code (2 : Nat) (Option.some Jvm.ClassFile.FieldType.char)).before args0 about1 = true := code_word (m := ⟨9, 1⟩) (meth := k9m1) (c := k9c1) (by decide +kernel) rfl rfl rfl (by decide +kernel)
set_option maxRecDepth 65536 in
theorem w_c25 : (Jvm.Cond.code ({ cls := "java/lang/String", name := "checkIndex", desc := "(II)V" } : Jvm.MethodName) jdk_42_method_155_code (2 : Nat) (Option.none : Option Jvm.ClassFile.FieldType)).before args0 about1 = true := code_word (m := ⟨7, 9⟩) (meth := k7m9) (c := k7c9) (by decide +kernel) rfl rfl rfl (by decide +kernel)
set_option maxRecDepth 65536 in
theorem w_c26 : (Jvm.Cond.code ({ cls := "jdk/internal/util/Preconditions", name := "checkIndex", desc := "(IILjava/util/function/BiFunction;)I" } : Jvm.MethodName) jdk_41_method_11_code (3 : Nat) (Option.some Jvm.ClassFile.FieldType.int)).before args0 about1 = true := code_word (m := ⟨12, 1⟩) (meth := k12m1) (c := k12c1) (by decide +kernel) rfl rfl rfl (by decide +kernel)
set_option maxRecDepth 65536 in
theorem w_c27 : (Jvm.Cond.code ({ cls := "com/example/vett/vett/model/Iris", name := "isIn", desc := "([ZZC)Z" } : Jvm.MethodName) prog_6_method_8_code (3 : Nat) (Option.some Jvm.ClassFile.FieldType.boolean)).before args0 about1 = true := code_word (m := ⟨8, 3⟩) (meth := k8m3) (c := k8c3) (by decide +kernel) rfl rfl rfl (by decide +kernel)
set_option maxRecDepth 65536 in
theorem w_c28 : (Jvm.Cond.code ({ cls := "com/example/vett/vett/model/IrisIsAbsolutePinLaw", name := "mayHold", desc := "(C)Z" } : Jvm.MethodName) method_7_code (1 : Nat) (Option.some Jvm.ClassFile.FieldType.boolean)).before args0 about1 = true := code_word (m := ⟨1, 6⟩) (meth := k1m6) (c := k1c6) (by decide +kernel) rfl rfl rfl (by decide +kernel)
set_option maxRecDepth 65536 in
theorem w_c29 : (Jvm.Cond.code ({ cls := "com/example/vett/vett/model/Iris", name := "mayHold", desc := "(C)Z" } : Jvm.MethodName) prog_6_method_3_code (1 : Nat) (Option.some Jvm.ClassFile.FieldType.boolean)).before args0 about1 = true := code_word (m := ⟨8, 2⟩) (meth := k8m2) (c := k8c2) (by decide +kernel) rfl rfl rfl (by decide +kernel)
set_option maxRecDepth 65536 in
theorem w_c30 : (Jvm.Cond.code ({ cls := "com/example/vett/vett/model/IrisIsAbsolutePinLaw", name := "schemeChar", desc := "(C)Z" } : Jvm.MethodName) method_6_code (1 : Nat) (Option.some Jvm.ClassFile.FieldType.boolean)).before args0 about1 = true := code_word (m := ⟨1, 5⟩) (meth := k1m5) (c := k1c5) (by decide +kernel) rfl rfl rfl (by decide +kernel)
def codes1 : List Jvm.Cond := [Jvm.Cond.code x code maxLocals ret, Jvm.Cond.code ({ cls := "com/example/vett/vett/model/IrisIsAbsolutePinLaw", name := "draw", desc := "(I)C" } : Jvm.MethodName) method_3_code (1 : Nat) (Option.some Jvm.ClassFile.FieldType.char), Jvm.Cond.code ({ cls := "java/lang/String", name := "<init>", desc := "([C)V" } : Jvm.MethodName) jdk_42_method_3_code (2 : Nat) (Option.none : Option Jvm.ClassFile.FieldType), Jvm.Cond.code ({ cls := "java/lang/String", name := "<init>", desc := "([CIILjava/lang/Void;)V" } : Jvm.MethodName) jdk_42_method_149_code (6 : Nat) (Option.none : Option Jvm.ClassFile.FieldType), Jvm.Cond.code ({ cls := "java/lang/Object", name := "<init>", desc := "()V" } : Jvm.MethodName) object_method_1_code (1 : Nat) (Option.none : Option Jvm.ClassFile.FieldType), Jvm.Cond.code ({ cls := "com/example/vett/vett/model/IrisIsAbsolutePinLaw", name := "reference", desc := "([CI)Z" } : Jvm.MethodName) method_9_code (3 : Nat) (Option.some Jvm.ClassFile.FieldType.boolean), Jvm.Cond.code ({ cls := "com/example/vett/vett/model/IrisIsAbsolutePinLaw", name := "firstColon", desc := "([CI)I" } : Jvm.MethodName) method_4_code (2 : Nat) (Option.some Jvm.ClassFile.FieldType.int), Jvm.Cond.code ({ cls := "com/example/vett/vett/model/Iris", name := "isAbsolute", desc := "(Ljava/lang/String;)Z" } : Jvm.MethodName) prog_6_method_2_code (4 : Nat) (Option.some Jvm.ClassFile.FieldType.boolean), Jvm.Cond.code ({ cls := "java/lang/String", name := "indexOf", desc := "(I)I" } : Jvm.MethodName) jdk_42_method_79_code (2 : Nat) (Option.some Jvm.ClassFile.FieldType.int), Jvm.Cond.code ({ cls := "java/lang/String", name := "indexOf", desc := "(II)I" } : Jvm.MethodName) jdk_42_method_80_code (3 : Nat) (Option.some Jvm.ClassFile.FieldType.int), Jvm.Cond.code ({ cls := "java/lang/String", name := "isLatin1", desc := "()Z" } : Jvm.MethodName) jdk_42_method_154_code (1 : Nat) (Option.some Jvm.ClassFile.FieldType.boolean), Jvm.Cond.code ({ cls := "java/lang/String", name := "length", desc := "()I" } : Jvm.MethodName) jdk_42_method_54_code (1 : Nat) (Option.some Jvm.ClassFile.FieldType.int), Jvm.Cond.code ({ cls := "java/lang/String", name := "coder", desc := "()B" } : Jvm.MethodName) jdk_42_method_152_code (1 : Nat) (Option.some Jvm.ClassFile.FieldType.byte), Jvm.Cond.code ({ cls := "java/lang/StringLatin1", name := "indexOf", desc := "([BIII)I" } : Jvm.MethodName) jdk_43_method_22_code (4 : Nat) (Option.some Jvm.ClassFile.FieldType.int), Jvm.Cond.code ({ cls := "java/lang/StringLatin1", name := "canEncode", desc := "(I)Z" } : Jvm.MethodName) jdk_43_method_4_code (1 : Nat) (Option.some Jvm.ClassFile.FieldType.boolean), Jvm.Cond.code ({ cls := "java/lang/Math", name := "max", desc := "(II)I" } : Jvm.MethodName) jdk_29_method_65_code (2 : Nat) (Option.some Jvm.ClassFile.FieldType.int), Jvm.Cond.code ({ cls := "java/lang/Math", name := "min", desc := "(II)I" } : Jvm.MethodName) jdk_29_method_69_code (2 : Nat) (Option.some Jvm.ClassFile.FieldType.int), Jvm.Cond.code ({ cls := "java/lang/StringUTF16", name := "compress", desc := "([CII)[B" } : Jvm.MethodName) jdk_52_method_16_code (6 : Nat) (Option.some (Jvm.ClassFile.FieldType.array Jvm.ClassFile.FieldType.byte)), Jvm.Cond.code ({ cls := "java/lang/StringUTF16", name := "compress", desc := "([CI[BII)I" } : Jvm.MethodName) jdk_52_method_21_code (7 : Nat) (Option.some Jvm.ClassFile.FieldType.int), Jvm.Cond.code ({ cls := "java/lang/StringUTF16", name := "coderFromArrayLen", desc := "([BI)B" } : Jvm.MethodName) jdk_52_method_15_code (2 : Nat) (Option.some Jvm.ClassFile.FieldType.byte), Jvm.Cond.code ({ cls := "java/lang/StringLatin1", name := "indexOfChar", desc := "([BIII)I" } : Jvm.MethodName) jdk_43_method_23_code (6 : Nat) (Option.some Jvm.ClassFile.FieldType.int), Jvm.Cond.code ({ cls := "com/example/vett/vett/model/IrisIsAbsolutePinLaw", name := "ok", desc := "([CIII)Z" } : Jvm.MethodName) method_8_code (5 : Nat) (Option.some Jvm.ClassFile.FieldType.boolean), Jvm.Cond.code ({ cls := "com/example/vett/vett/model/IrisIsAbsolutePinLaw", name := "letter", desc := "(C)Z" } : Jvm.MethodName) method_5_code (1 : Nat) (Option.some Jvm.ClassFile.FieldType.boolean), Jvm.Cond.code ({ cls := "java/lang/String", name := "charAt", desc := "(I)C" } : Jvm.MethodName) jdk_42_method_56_code (2 : Nat) (Option.some Jvm.ClassFile.FieldType.char), Jvm.Cond.code ({ cls := "java/lang/StringLatin1", name := "charAt", desc := "([BI)C" } : Jvm.MethodName) jdk_43_method_2_code (2 : Nat) (Option.some Jvm.ClassFile.FieldType.char), Jvm.Cond.code ({ cls := "java/lang/String", name := "checkIndex", desc := "(II)V" } : Jvm.MethodName) jdk_42_method_155_code (2 : Nat) (Option.none : Option Jvm.ClassFile.FieldType), Jvm.Cond.code ({ cls := "jdk/internal/util/Preconditions", name := "checkIndex", desc := "(IILjava/util/function/BiFunction;)I" } : Jvm.MethodName) jdk_41_method_11_code (3 : Nat) (Option.some Jvm.ClassFile.FieldType.int), Jvm.Cond.code ({ cls := "com/example/vett/vett/model/Iris", name := "isIn", desc := "([ZZC)Z" } : Jvm.MethodName) prog_6_method_8_code (3 : Nat) (Option.some Jvm.ClassFile.FieldType.boolean), Jvm.Cond.code ({ cls := "com/example/vett/vett/model/IrisIsAbsolutePinLaw", name := "mayHold", desc := "(C)Z" } : Jvm.MethodName) method_7_code (1 : Nat) (Option.some Jvm.ClassFile.FieldType.boolean), Jvm.Cond.code ({ cls := "com/example/vett/vett/model/Iris", name := "mayHold", desc := "(C)Z" } : Jvm.MethodName) prog_6_method_3_code (1 : Nat) (Option.some Jvm.ClassFile.FieldType.boolean), Jvm.Cond.code ({ cls := "com/example/vett/vett/model/IrisIsAbsolutePinLaw", name := "schemeChar", desc := "(C)Z" } : Jvm.MethodName) method_6_code (1 : Nat) (Option.some Jvm.ClassFile.FieldType.boolean)]
set_option maxRecDepth 65536 in
theorem codes_eq : words1.filter isCode = codes1 := rfl
theorem w_codes : ∀ c ∈ words1.filter isCode, c.before args0 about1 = true := by
  rw [codes_eq]
  intro c hc
  simp only [codes1, List.mem_cons, List.not_mem_nil, or_false] at hc
  rcases hc with rfl | rfl | rfl | rfl | rfl | rfl | rfl | rfl | rfl | rfl | rfl | rfl | rfl | rfl | rfl | rfl | rfl | rfl | rfl | rfl | rfl | rfl | rfl | rfl | rfl | rfl | rfl | rfl | rfl | rfl | rfl
  · exact w_c0
  · exact w_c1
  · exact w_c2
  · exact w_c3
  · exact w_c4
  · exact w_c5
  · exact w_c6
  · exact w_c7
  · exact w_c8
  · exact w_c9
  · exact w_c10
  · exact w_c11
  · exact w_c12
  · exact w_c13
  · exact w_c14
  · exact w_c15
  · exact w_c16
  · exact w_c17
  · exact w_c18
  · exact w_c19
  · exact w_c20
  · exact w_c21
  · exact w_c22
  · exact w_c23
  · exact w_c24
  · exact w_c25
  · exact w_c26
  · exact w_c27
  · exact w_c28
  · exact w_c29
  · exact w_c30
set_option maxRecDepth 65536 in
theorem w_t1 : (words1.take 24).all (fun c => isCode c || c.before args0 about1) = true := by decide +kernel
set_option maxRecDepth 65536 in
theorem w_t2 : ((words1.drop 24).take 24).all (fun c => isCode c || c.before args0 about1) = true := by decide +kernel
set_option maxRecDepth 65536 in
theorem w_t3 : (((words1.drop 24).drop 24).take 24).all (fun c => isCode c || c.before args0 about1) = true := by decide +kernel
set_option maxRecDepth 65536 in
theorem w_t4 : ((((words1.drop 24).drop 24).drop 24).take 24).all (fun c => isCode c || c.before args0 about1) = true := by decide +kernel
set_option maxRecDepth 65536 in
theorem w_t5 : (((((words1.drop 24).drop 24).drop 24).drop 24).take 24).all (fun c => isCode c || c.before args0 about1) = true := by decide +kernel
set_option maxRecDepth 65536 in
theorem w_t6 : (((((words1.drop 24).drop 24).drop 24).drop 24).drop 24).all (fun c => isCode c || c.before args0 about1) = true := by decide +kernel
theorem w_tables : (allAtoms (Jvm.Cond.code x code maxLocals ret :: tables_1)).before args0 about1 = true := by
  rw [allAtoms_all]
  show words1.all (fun c => c.before args0 about1) = true
  refine all_split ?_ w_codes
  rw [← List.take_append_drop 24 words1, List.all_append, w_t1, ← List.take_append_drop 24 (words1.drop 24), List.all_append, w_t2, ← List.take_append_drop 24 ((words1.drop 24).drop 24), List.all_append, w_t3, ← List.take_append_drop 24 (((words1.drop 24).drop 24).drop 24), List.all_append, w_t4, ← List.take_append_drop 24 ((((words1.drop 24).drop 24).drop 24).drop 24), List.all_append, w_t5, w_t6]
  rfl
set_option maxRecDepth 65536 in
theorem w_rest : rest_1_c.before args0 about1 = true := by decide +kernel
set_option maxRecDepth 65536 in
theorem w_case : (Jvm.Cond.and given_1 narrow_1).before args0 about1 = true := by decide +kernel
set_option maxRecDepth 65536 in
theorem w_consts : constsHeld consts_1 about1 := Jvm.Lit.constsHeldB_iff.mp (by decide +kernel)
theorem w_applies : (headSpec (Jvm.Cond.code x code maxLocals ret :: tables_1) room_1).applies x e0.platform about1 = true :=
  (Spec.applies_iff w_frames).mpr ⟨w_running, w_runnable, w_alone, w_named, w_hears, w_ripe, w_room, w_tables⟩
theorem atStart : AtStart classFile x code maxLocals ret World_1 tables_1 room_1 Calls_1 rest_1 Pre_1 launch0 p0 e0 about1 theMethod args0 below0 :=
  ⟨lists_1, trivial, launch0.admits_env _ _ _, launch0.least_env, fairChoices_fair.cas, fairChoices_fair.clock, w_frames, w_args, w_heap, w_applies, ⟨w_consts, trivial⟩, w_rest, w_case⟩
end start1
theorem witness_1 : WitnessClaimed_1 := ⟨start1.p0, start1.e0, start1.about1, start1.theMethod, start1.args0, start1.below0, start1.atStart⟩
end Jvm.Pilot.@@N@@
