import JvmDerived
import JvmDerived.Pilot.@@N@@Statement
import JvmDerived.Pilot.@@N@@Code
set_option linter.unusedVariables false
set_option linter.unusedSimpArgs false
/- laws to paste: Road.backV (cut by pick.py; bodies as the Statement names them) -/
namespace Jvm.Pilot.@@N@@
namespace StrChars
open Jvm Sem ClassFile Op Lib Jvm.Stand Jvm.Free.XT Jvm.Free.ALB Jvm.Free.JM Jvm.Free
open Jvm.Lib.Cold (StaticIs)
/-- a char array whose places are chars -/
def Ch (a : Addr) (A : Cell) (U : State) : Prop := Arr .char a A U ∧ Typed .char A
theorem Ch.mv {a : Addr} {A : Cell} {U U' : State} (h : Ch a A U) (hal : U.vm.Alike U'.vm) (hh : U'.heap = U.heap) : Ch a A U' := ⟨h.1.mv hal hh, h.2⟩
theorem Ch.keep {a : Addr} {A : Cell} {U U' : State} (h : Ch a A U) (hal : U.vm.Alike U'.vm) (hk : U'.heap[a]? = some A) : Ch a A U' := ⟨h.1.keep hal hk, h.2⟩
/-- what place i of a char[]'s cell holds -/
def cv (A : Cell) (i : Nat) : Int32 := match A.slots[i]? with | some (.int x) => x | _ => 0
theorem Ch.get {a : Addr} {A : Cell} {U : State} (h : Ch a A U) {i : Nat} (hi : i < A.slots.size) : A.slots[i]? = some (.int (cv A i)) := by
  have e := Array.getElem?_eq_getElem hi
  have f := h.2 i _ e
  unfold cv; rw [e]
  generalize A.slots[i] = v at f
  cases v <;> simp [fits] at f ⊢
/-- the byte that i2b leaves of a char -/
def lo8 (x : Int32) : Int32 := x.toInt8.toInt32
theorem fits_lo8 (y : Int32) : fits .byte (.int (lo8 y)) = true := by
  have h1 := y.toInt8.le_toInt
  have h2 := y.toInt8.toInt_lt
  simp only [lo8, fits, Bool.and_eq_true, decide_eq_true_eq, Int32.le_iff_toInt_le, Int8.toInt_toInt32, show (-128 : Int32).toInt = -128 from by decide, show (127 : Int32).toInt = 127 from by decide]
  omega
/-- A' is A but that each place j of lo .. hi - 1 holds f j -/
def Laid (A A' : Cell) (lo hi : Nat) (f : Nat → Value) : Prop := A'.cls = A.cls ∧ A'.vm = A.vm ∧ A'.slots.size = A.slots.size ∧ ∀ i, A'.slots[i]? = if lo ≤ i ∧ i < hi then some (f i) else A.slots[i]?
theorem Laid.zero (A : Cell) (lo : Nat) (f : Nat → Value) : Laid A A lo (lo + 0) f := ⟨rfl, rfl, rfl, fun i => by rw [if_neg (by omega)]⟩
theorem Laid.step {A Ak : Cell} {lo k : Nat} {f : Nat → Value} {v : Value} (h : Laid A Ak lo k f) (hlo : lo ≤ k) (hk : k < Ak.slots.size) (hv : v = f k) : Laid A (Ak.setSlot k v) lo (k + 1) f := by
  refine ⟨h.1, h.2.1, by simpa [Cell.setSlot] using h.2.2.1, fun i => ?_⟩
  by_cases e : k = i
  · subst e; rw [Cell.slots_setSlot_self v hk, if_pos (by omega), hv]
  · rw [Cell.slots_setSlot_ne v e, h.2.2.2 i]
    by_cases q : lo ≤ i ∧ i < k
    · rw [if_pos q, if_pos (by omega)]
    · rw [if_neg q, if_neg (by omega)]
def U16 : String := "java/lang/StringUTF16"
namespace Cmp5
def yN : MethodName := ⟨"java/lang/StringUTF16", "compress", "([CI[BII)I"⟩
abbrev yB : ByteArray := jdk_52_method_21_code
theorem d0 : decode yB 0 = .ok (.iconst 0, 1) := by decide +kernel
theorem d1 : decode yB 1 = .ok (.istore 5, 2) := by decide +kernel
theorem d3 : decode yB 3 = .ok (.iload 5, 2) := by decide +kernel
theorem d5 : decode yB 5 = .ok (.iload 4, 2) := by decide +kernel
theorem d7 : decode yB 7 = .ok (.if_icmp (.ge) 37, 3) := by decide +kernel
theorem d10 : decode yB 10 = .ok (.aload_n 0, 1) := by decide +kernel
theorem d11 : decode yB 11 = .ok (.iload_n 1, 1) := by decide +kernel
theorem d12 : decode yB 12 = .ok (.caload, 1) := by decide +kernel
theorem d13 : decode yB 13 = .ok (.istore 6, 2) := by decide +kernel
theorem d15 : decode yB 15 = .ok (.iload 6, 2) := by decide +kernel
theorem d17 : decode yB 17 = .ok (.sipush 255, 3) := by decide +kernel
theorem d20 : decode yB 20 = .ok (.if_icmp (.le) 6, 3) := by decide +kernel
theorem d26 : decode yB 26 = .ok (.aload_n 2, 1) := by decide +kernel
theorem d27 : decode yB 27 = .ok (.iload_n 3, 1) := by decide +kernel
theorem d28 : decode yB 28 = .ok (.iload 6, 2) := by decide +kernel
theorem d30 : decode yB 30 = .ok (.i2b, 1) := by decide +kernel
theorem d31 : decode yB 31 = .ok (.bastore, 1) := by decide +kernel
theorem d32 : decode yB 32 = .ok (.iinc 1 1, 3) := by decide +kernel
theorem d35 : decode yB 35 = .ok (.iinc 3 1, 3) := by decide +kernel
theorem d38 : decode yB 38 = .ok (.iinc 5 1, 3) := by decide +kernel
theorem d41 : decode yB 41 = .ok (.goto (-38), 3) := by decide +kernel
theorem d44 : decode yB 44 = .ok (.iload 4, 2) := by decide +kernel
theorem d46 : decode yB 46 = .ok (.ireturn, 1) := by decide +kernel
def site : List Cond := []
def tab : Cond := tabOf yN yB 7 (some .int) site
def P (b : Addr) (A : Cell) (d : Addr) (B : Cell) (o q len : Nat) (args : Array Value) (s : State) : Prop := args = #[.ref b, .int (Int32.ofNat o), .ref d, .int (Int32.ofNat q), .int (Int32.ofNat len)] ∧ Ch b A s ∧ Arr .byte d B s ∧ b ≠ d ∧ o + len ≤ A.slots.size ∧ q + len ≤ B.slots.size ∧ ∀ i, i < len → ¬ 255 < cv A (o + i)
def E (b : Addr) (A : Cell) (d : Addr) (B : Cell) (o q len : Nat) (r : Option Value) (s u : State) : Prop := r = some (.int (Int32.ofNat len)) ∧ ∃ B', Put d B' s u ∧ Laid B B' q (q + len) (fun j => Value.int (lo8 (cv A (o + (j - q)))))
/-- no char of the range above 255: len; the places written hold each char's low byte -/
theorem law (l : Launch) (b : Addr) (A : Cell) (d : Addr) (B : Cell) (o q len : Nat) : Law l yN 5 5 0 0 yB 7 (some .int) site (P b A d B o q len) (E b A d B o q len) (copyLocs d q len) 0 0 := by
  refine Law.of_walk (plainFor_of_name (by decide +kernel)) (by decide +kernel) (by decide +kernel) (by decide) (fun _ _ h => by rw [h.1]; rfl) (fun _ U U' hal hh h => ⟨h.1, h.2.1.mv hal hh, h.2.2.1.mv hal hh, h.2.2.2⟩) (fun r U U' V V' h1 hal h2 h => ⟨h.1, h.2.elim fun B' q => ⟨B', q.1.mv h1 h2, q.2⟩⟩) ?_
  intro p e s m args below meth c s₁ X0 hexec hbytes hml hret hlk hnm hown hh0 W hP
  obtain ⟨rfl, hA, hB, hne, l1, l2, hp⟩ := hP
  have c1 : Steps p.tables e below (s₁.setTop (entryFrame m #[.ref b, .int (Int32.ofNat o), .ref d, .int (Int32.ofNat q), .int (Int32.ofNat len)] 7)) (s₁.setTop (mkF m 0 #[.val (.ref b), .val (.int (Int32.ofNat o)), .val (.ref d), .val (.int (Int32.ofNat q)), .val (.int (Int32.ofNat len)), .unset, .unset] [])) := entry rfl
  have hA0 := hA.1.mv X0.warmed.alike hh0
  have hB0 := hB.mv X0.warmed.alike hh0
  have a31 := hA.1.2.2.2
  have c2 : Steps p.tables e below (s₁.setTop (entryFrame m #[.ref b, .int (Int32.ofNat o), .ref d, .int (Int32.ofNat q), .int (Int32.ofNat len)] 7)) (s₁.setTop (mkF m 3 #[.val (.ref b), .val (.int (Int32.ofNat o)), .val (.ref d), .val (.int (Int32.ofNat q)), .val (.int (Int32.ofNat len)), .val (.int 0), .unset] [])) := c1.trans (by
    refine iconstV X0.here hexec rfl 0 (hb hbytes d0) (by decide) ?_
    refine XS.istore X0.here hexec rfl (hb hbytes d1) rfl rfl ?_
    exact Steps.refl _)
  have loop : ∀ (r i : Nat), i + r = len → ∀ (z : Slot), (z = .unset ∨ ∃ w, z = .val w ∧ w.category = 1) → ∀ (Tl : State) (Bk : Cell), Stand p l e { frames := 0, locals := 0, cells := 0, slots := 0 } s m #[.ref b, .int (Int32.ofNat o), .ref d, .int (Int32.ofNat q), .int (Int32.ofNat len)] below meth c Tl ([] ++ copyLocs d q i) 0 0 → Put d Bk s₁ Tl → Laid B Bk q (q + i) (fun j => Value.int (lo8 (cv A (o + (j - q))))) →
      Steps p.tables e below (s₁.setTop (entryFrame m #[.ref b, .int (Int32.ofNat o), .ref d, .int (Int32.ofNat q), .int (Int32.ofNat len)] 7)) (Tl.setTop (mkF m 3 #[.val (.ref b), .val (.int (Int32.ofNat (o + i))), .val (.ref d), .val (.int (Int32.ofNat (q + i))), .val (.int (Int32.ofNat len)), .val (.int (Int32.ofNat i)), z] [])) → ∃ (T' : State) (B' : Cell) (z' : Slot), Stand p l e { frames := 0, locals := 0, cells := 0, slots := 0 } s m #[.ref b, .int (Int32.ofNat o), .ref d, .int (Int32.ofNat q), .int (Int32.ofNat len)] below meth c T' ([] ++ copyLocs d q len) 0 0 ∧ Put d B' s₁ T' ∧ Laid B B' q (q + len) (fun j => Value.int (lo8 (cv A (o + (j - q))))) ∧
      Steps p.tables e below (s₁.setTop (entryFrame m #[.ref b, .int (Int32.ofNat o), .ref d, .int (Int32.ofNat q), .int (Int32.ofNat len)] 7)) (T'.setTop (mkF m 3 #[.val (.ref b), .val (.int (Int32.ofNat (o + len))), .val (.ref d), .val (.int (Int32.ofNat (q + len))), .val (.int (Int32.ofNat len)), .val (.int (Int32.ofNat len)), z'] [])) := by
    intro r
    induction r with
    | zero =>
      intro i hi z hz Tl Bk Xl pl fl cl
      have hil : i = len := by omega
      rw [hil] at Xl fl cl
      exact ⟨Tl, Bk, z, Xl, pl, fl, cl⟩
    | succ r ih =>
      intro i hi z hz Tl Bk Xl pl fl cl
      have all := X0.warmed.alike.symm.trans Xl.warmed.alike
      have hAl := hA0.keep all (pl.other hne hA0.1)
      have hBk := hB0.like all pl.1 fl.1 fl.2.1 fl.2.2.1
      have hlt : q + i < Bk.slots.size := by rw [fl.2.2.1]; omega
      have c3 : Steps p.tables e below (s₁.setTop (entryFrame m #[.ref b, .int (Int32.ofNat o), .ref d, .int (Int32.ofNat q), .int (Int32.ofNat len)] 7)) (Tl.setTop (mkF m 12 #[.val (.ref b), .val (.int (Int32.ofNat (o + i))), .val (.ref d), .val (.int (Int32.ofNat (q + i))), .val (.int (Int32.ofNat len)), .val (.int (Int32.ofNat i)), z] [.int (Int32.ofNat (o + i)), .ref b])) := cl.trans (by
        refine XS.iload Xl.here hexec rfl (hb hbytes d3) rfl ?_
        refine XS.iload Xl.here hexec rfl (hb hbytes d5) rfl ?_
        refine XS.icmpNo Xl.here hexec rfl (hb hbytes d7) rfl (ii_ge_f (lt32 (by omega) (by omega))) ?_
        refine XS.aloadN Xl.here hexec rfl (hb hbytes d10) rfl rfl ?_
        refine XS.iloadN Xl.here hexec rfl (hb hbytes d11) rfl ?_
        exact Steps.refl _)
      have c4 : Steps p.tables e below (s₁.setTop (entryFrame m #[.ref b, .int (Int32.ofNat o), .ref d, .int (Int32.ofNat q), .int (Int32.ofNat len)] 7)) (Tl.setTop (mkF m 13 #[.val (.ref b), .val (.int (Int32.ofNat (o + i))), .val (.ref d), .val (.int (Int32.ofNat (q + i))), .val (.int (Int32.ofNat len)), .val (.int (Int32.ofNat i)), z] [.int (cv A (o + i))])) := c3.trans (by
        refine Xl.aget hexec hAl rfl (hA.get (i := o + i) (by omega)) rfl rfl (hb hbytes d12) ?_
        exact Steps.refl _)
      have c5 : Steps p.tables e below (s₁.setTop (entryFrame m #[.ref b, .int (Int32.ofNat o), .ref d, .int (Int32.ofNat q), .int (Int32.ofNat len)] 7)) (Tl.setTop (mkF m 15 #[.val (.ref b), .val (.int (Int32.ofNat (o + i))), .val (.ref d), .val (.int (Int32.ofNat (q + i))), .val (.int (Int32.ofNat len)), .val (.int (Int32.ofNat i)), .val (.int (cv A (o + i)))] [])) := c4.trans (by
        refine XS.istoreS Xl.here hexec rfl (hb hbytes d13) rfl rfl hz ?_
        exact Steps.refl _)
      have c6 : Steps p.tables e below (s₁.setTop (entryFrame m #[.ref b, .int (Int32.ofNat o), .ref d, .int (Int32.ofNat q), .int (Int32.ofNat len)] 7)) (Tl.setTop (mkF m 31 #[.val (.ref b), .val (.int (Int32.ofNat (o + i))), .val (.ref d), .val (.int (Int32.ofNat (q + i))), .val (.int (Int32.ofNat len)), .val (.int (Int32.ofNat i)), .val (.int (cv A (o + i)))] [.int (lo8 (cv A (o + i))), .int (Int32.ofNat (q + i)), .ref d])) := c5.trans (by
        refine XS.iload Xl.here hexec rfl (hb hbytes d15) rfl ?_
        refine sipushV Xl.here hexec rfl 255 (hb hbytes d17) (by decide) ?_
        refine XS.icmpYes Xl.here hexec rfl (pc0 := 20) rfl (hb hbytes d20) rfl (ii_le_t (hp i (by omega))) (by decide) rfl ?_
        refine XS.aloadN Xl.here hexec rfl (hb hbytes d26) rfl rfl ?_
        refine XS.iloadN Xl.here hexec rfl (hb hbytes d27) rfl ?_
        refine XS.iload Xl.here hexec rfl (hb hbytes d28) rfl ?_
        refine i2b Xl.here hexec rfl (hb hbytes d30) rfl ?_
        exact Steps.refl _)
      obtain ⟨T7, X7, p7, st7⟩ := Xl.aput hexec hBk rfl hlt rfl (fits_lo8 (cv A (o + i))) (g := (mkF m 31 #[.val (.ref b), .val (.int (Int32.ofNat (o + i))), .val (.ref d), .val (.int (Int32.ofNat (q + i))), .val (.int (Int32.ofNat len)), .val (.int (Int32.ofNat i)), .val (.int (cv A (o + i)))] [.int (lo8 (cv A (o + i))), .int (Int32.ofNat (q + i)), .ref d])) rfl (rest := []) rfl (hb hbytes d31)
      have c8 : Steps p.tables e below (s₁.setTop (entryFrame m #[.ref b, .int (Int32.ofNat o), .ref d, .int (Int32.ofNat q), .int (Int32.ofNat len)] 7)) (T7.setTop (mkF m 32 #[.val (.ref b), .val (.int (Int32.ofNat (o + i))), .val (.ref d), .val (.int (Int32.ofNat (q + i))), .val (.int (Int32.ofNat len)), .val (.int (Int32.ofNat i)), .val (.int (cv A (o + i)))] [])) := c6.trans (st7 _ (Steps.refl _))
      have c9 : Steps p.tables e below (s₁.setTop (entryFrame m #[.ref b, .int (Int32.ofNat o), .ref d, .int (Int32.ofNat q), .int (Int32.ofNat len)] 7)) (T7.setTop (mkF m 3 #[.val (.ref b), .val (.int (Int32.ofNat (o + i) + 1)), .val (.ref d), .val (.int (Int32.ofNat (q + i) + 1)), .val (.int (Int32.ofNat len)), .val (.int (Int32.ofNat i + 1)), .val (.int (cv A (o + i)))] [])) := c8.trans (by
        refine iincV X7.here hexec rfl 1 (hb hbytes d32) (by decide) rfl rfl ?_
        refine iincV X7.here hexec rfl 1 (hb hbytes d35) (by decide) rfl rfl ?_
        refine iincV X7.here hexec rfl 1 (hb hbytes d38) (by decide) rfl rfl ?_
        refine XS.goto X7.here hexec rfl (pc0 := 41) rfl (hb hbytes d41) (by decide) rfl ?_
        exact Steps.refl _)
      have c10 : Steps p.tables e below (s₁.setTop (entryFrame m #[.ref b, .int (Int32.ofNat o), .ref d, .int (Int32.ofNat q), .int (Int32.ofNat len)] 7)) (T7.setTop (mkF m 3 #[.val (.ref b), .val (.int (Int32.ofNat (o + (i + 1)))), .val (.ref d), .val (.int (Int32.ofNat (q + (i + 1)))), .val (.int (Int32.ofNat len)), .val (.int (Int32.ofNat (i + 1))), .val (.int (cv A (o + i)))] [])) := by
        have := c9
        rw [succ32, succ32, succ32] at this
        exact this
      exact ih (i + 1) (by omega) _ (Or.inr ⟨_, rfl, rfl⟩) T7 _ (by rw [copyLocs_step, ← List.append_assoc]; exact X7) (pl.trans p7) (fl.step (by omega) hlt (by simp)) c10
  obtain ⟨T9, B9, z9, X9, p9, f9, g9⟩ := loop len 0 (by omega) .unset (Or.inl rfl) s₁ B (by simpa [copyLocs] using X0) ⟨hB0.1, fun _ _ => rfl, rfl⟩ (Laid.zero _ _ _) c2
  have c11 : Steps p.tables e below (s₁.setTop (entryFrame m #[.ref b, .int (Int32.ofNat o), .ref d, .int (Int32.ofNat q), .int (Int32.ofNat len)] 7)) (T9.setTop (mkF m 46 #[.val (.ref b), .val (.int (Int32.ofNat (o + len))), .val (.ref d), .val (.int (Int32.ofNat (q + len))), .val (.int (Int32.ofNat len)), .val (.int (Int32.ofNat len)), z9] [.int (Int32.ofNat len)])) := g9.trans (by
    refine XS.iload X9.here hexec rfl (hb hbytes d3) rfl ?_
    refine XS.iload X9.here hexec rfl (hb hbytes d5) rfl ?_
    refine XS.icmpYes X9.here hexec rfl (pc0 := 7) rfl (hb hbytes d7) rfl (ii_ge_t (nlt32 (by omega) (Nat.le_refl _))) (by decide) rfl ?_
    refine XS.iload X9.here hexec rfl (hb hbytes d44) rfl ?_
    exact Steps.refl _)
  exact ⟨T9, some (.int (Int32.ofNat len)), _, _, _, X9, by simp, rfl, rfl, (fun h => by cases h), ⟨rfl, B9, p9.from hh0, f9⟩, fun fs hl => c11.trans (X9.ireturnOut hexec hret rfl (Or.inl rfl) (hb hbytes d46) hl)⟩
end Cmp5
namespace Cmp3
def yN : MethodName := ⟨"java/lang/StringUTF16", "compress", "([CII)[B"⟩
abbrev yB : ByteArray := jdk_52_method_16_code
theorem d0 : decode yB 0 = .ok (.iload_n 2, 1) := by decide +kernel
theorem d1 : decode yB 1 = .ok (.newarray .byte, 2) := by decide +kernel
theorem d3 : decode yB 3 = .ok (.astore_n 3, 1) := by decide +kernel
theorem d4 : decode yB 4 = .ok (.aload_n 0, 1) := by decide +kernel
theorem d5 : decode yB 5 = .ok (.iload_n 1, 1) := by decide +kernel
theorem d6 : decode yB 6 = .ok (.aload_n 3, 1) := by decide +kernel
theorem d7 : decode yB 7 = .ok (.iconst 0, 1) := by decide +kernel
theorem d8 : decode yB 8 = .ok (.iload_n 2, 1) := by decide +kernel
theorem d9 : decode yB 9 = .ok (.invokestatic 115, 3) := by decide +kernel
theorem d12 : decode yB 12 = .ok (.istore 4, 2) := by decide +kernel
theorem d14 : decode yB 14 = .ok (.iload 4, 2) := by decide +kernel
theorem d16 : decode yB 16 = .ok (.iload_n 2, 1) := by decide +kernel
theorem d17 : decode yB 17 = .ok (.if_icmp (.eq) 40, 3) := by decide +kernel
theorem d57 : decode yB 57 = .ok (.aload_n 3, 1) := by decide +kernel
theorem d58 : decode yB 58 = .ok (.areturn, 1) := by decide +kernel
def site : List Cond := [.arrayClass .byte, Cmp5.tab] ++ staticW U16 115 Cmp5.yN
def tab : Cond := tabOf yN yB 6 (some (.array .byte)) site
def P (b : Addr) (A : Cell) (o len : Nat) (args : Array Value) (s : State) : Prop := args = #[.ref b, .int (Int32.ofNat o), .int (Int32.ofNat len)] ∧ Ch b A s ∧ o + len ≤ A.slots.size ∧ len ≤ 536870912 ∧ ∀ i, i < len → ¬ 255 < cv A (o + i)
def E (b : Addr) (A : Cell) (o len : Nat) (r : Option Value) (s u : State) : Prop := NewArr .byte "[B" len (fun j => .int (lo8 (cv A (o + j)))) r s u ∧ u.heap.size = s.heap.size + 1
/-- no char of the range above 255: a new byte[] of their low bytes -/
theorem law (l : Launch) (b : Addr) (A : Cell) (o len : Nat) : Law l yN 3 3 1 18 yB 6 (some (.array .byte)) site (P b A o len) (E b A o len) [] 1 len := by
  refine Law.of_walk (plainFor_of_name (by decide +kernel)) (by decide +kernel) (by decide +kernel) (by decide) (fun _ _ h => by rw [h.1]; rfl) (fun _ U U' hal hh h => ⟨h.1, h.2.1.mv hal hh, h.2.2⟩) (fun r U U' V V' h1 hal h2 h => ⟨NewArr.mv r U U' V V' h1 hal h2 h.1, by rw [h1, h2]; exact h.2⟩) ?_
  intro p e s m args below meth c s₁ X0 hexec hbytes hml hret hlk hnm hown hh0 W hP
  obtain ⟨rfl, hA, l1, l2, hp⟩ := hP
  have a31 := hA.1.2.2.2
  have c1 : Steps p.tables e below (s₁.setTop (entryFrame m #[.ref b, .int (Int32.ofNat o), .int (Int32.ofNat len)] 6)) (s₁.setTop (mkF m 0 #[.val (.ref b), .val (.int (Int32.ofNat o)), .val (.int (Int32.ofNat len)), .unset, .unset, .unset] [])) := entry rfl
  have c2 : Steps p.tables e below (s₁.setTop (entryFrame m #[.ref b, .int (Int32.ofNat o), .int (Int32.ofNat len)] 6)) (s₁.setTop (mkF m 1 #[.val (.ref b), .val (.int (Int32.ofNat o)), .val (.int (Int32.ofNat len)), .unset, .unset, .unset] [.int (Int32.ofNat len)])) := c1.trans (by
    refine XS.iloadN X0.here hexec rfl (hb hbytes d0) rfl ?_
    exact Steps.refl _)
  obtain ⟨T3, B3, X3, ba3, bs3, bv3, bh3, bf3, st3⟩ := X0.anew hexec (atype := .byte) (wk W (.arrayClass .byte)) rfl (by show len * 1 ≤ _; omega) (by omega) (g := (mkF m 1 #[.val (.ref b), .val (.int (Int32.ofNat o)), .val (.int (Int32.ofNat len)), .unset, .unset, .unset] [.int (Int32.ofNat len)])) rfl (hb hbytes d1) (rest := []) rfl (Nat.le_refl _) (by show 0 + len ≤ len; omega)
  rw [hh0] at ba3 st3
  have kp3 : XT.Kept s T3 := (XT.Kept.of_eq hh0).push bh3
  have hA3 := hA.keep X3.warmed.alike (kp3 _ _ hA.1.1)
  have hne : b ≠ s.heap.size := hA.1.ne
  have c4 : Steps p.tables e below (s₁.setTop (entryFrame m #[.ref b, .int (Int32.ofNat o), .int (Int32.ofNat len)] 6)) (T3.setTop (mkF m 3 #[.val (.ref b), .val (.int (Int32.ofNat o)), .val (.int (Int32.ofNat len)), .unset, .unset, .unset] [.ref s.heap.size])) := c2.trans (st3 _ (Steps.refl _))
  have c5 : Steps p.tables e below (s₁.setTop (entryFrame m #[.ref b, .int (Int32.ofNat o), .int (Int32.ofNat len)] 6)) (T3.setTop (mkF m 9 #[.val (.ref b), .val (.int (Int32.ofNat o)), .val (.int (Int32.ofNat len)), .val (.ref s.heap.size), .unset, .unset] [.int (Int32.ofNat len), .int 0, .ref s.heap.size, .int (Int32.ofNat o), .ref b])) := c4.trans (by
    refine XS.astoreN X3.here hexec rfl (hb hbytes d3) rfl rfl rfl ?_
    refine XS.aloadN X3.here hexec rfl (hb hbytes d4) rfl rfl ?_
    refine XS.iloadN X3.here hexec rfl (hb hbytes d5) rfl ?_
    refine XS.aloadN X3.here hexec rfl (hb hbytes d6) rfl rfl ?_
    refine iconstV X3.here hexec rfl 0 (hb hbytes d7) (by decide) ?_
    refine XS.iloadN X3.here hexec rfl (hb hbytes d8) rfl ?_
    exact Steps.refl _)
  obtain ⟨v6, T6, X6, E6, g6⟩ := X3.callS hexec (Cmp5.law l b A s.heap.size B3 o 0 len) hown (wks W (staticW U16 115 Cmp5.yN)) (wk W Cmp5.tab) (W := 0) (Nat.le_of_ble_eq_true rfl) (Nat.le_of_ble_eq_true rfl) (Nat.le_refl _) (by show 0 + len + 0 ≤ len; omega) (g := (mkF m 9 #[.val (.ref b), .val (.int (Int32.ofNat o)), .val (.int (Int32.ofNat len)), .val (.ref s.heap.size), .unset, .unset] [.int (Int32.ofNat len), .int (Int32.ofNat 0), .ref s.heap.size, .int (Int32.ofNat o), .ref b])) rfl (by rw [hml]; rfl) c5 (argsL := [.ref b, .int (Int32.ofNat o), .ref s.heap.size, .int (Int32.ofNat 0), .int (Int32.ofNat len)]) (rest := []) rfl rfl (by show 2 * 0 + 0 ≤ _; decide) (hb hbytes d9) (⟨rfl, hA3, ba3, hne, l1, by rw [bs3]; simp, hp⟩)
  obtain ⟨rfl, B6, p6, f6⟩ := E6
  have c7 : Steps p.tables e below (s₁.setTop (entryFrame m #[.ref b, .int (Int32.ofNat o), .int (Int32.ofNat len)] 6)) (T6.setTop (mkF m 12 #[.val (.ref b), .val (.int (Int32.ofNat o)), .val (.int (Int32.ofNat len)), .val (.ref s.heap.size), .unset, .unset] [.int (Int32.ofNat len)])) := g6
  have c8 : Steps p.tables e below (s₁.setTop (entryFrame m #[.ref b, .int (Int32.ofNat o), .int (Int32.ofNat len)] 6)) (T6.setTop (mkF m 58 #[.val (.ref b), .val (.int (Int32.ofNat o)), .val (.int (Int32.ofNat len)), .val (.ref s.heap.size), .val (.int (Int32.ofNat len)), .unset] [.ref s.heap.size])) := c7.trans (by
    refine XS.istore X6.here hexec rfl (hb hbytes d12) rfl rfl ?_
    refine XS.iload X6.here hexec rfl (hb hbytes d14) rfl ?_
    refine XS.iloadN X6.here hexec rfl (hb hbytes d16) rfl ?_
    refine XS.icmpYes X6.here hexec rfl (pc0 := 17) rfl (hb hbytes d17) rfl (ii_eq_t rfl) (by decide) rfl ?_
    refine XS.aloadN X6.here hexec rfl (hb hbytes d57) rfl rfl ?_
    exact Steps.refl _)
  have X8 := X6.wide (L' := []) (cells' := 1) (slots' := len) (fun x hx hlt => by
    simp only [List.nil_append, copyLocs, List.mem_map, List.mem_range] at hx
    obtain ⟨i, -, rfl⟩ := hx
    exact absurd hlt (Nat.lt_irrefl _)) (Nat.le_refl _) (by omega)
  exact ⟨T6, some (.ref s.heap.size), _, _, _, X8, rfl, rfl, rfl, (fun h => by cases h), ⟨⟨rfl, B6, ba3.like (X3.warmed.alike.symm.trans X6.warmed.alike) p6.1 f6.1 f6.2.1 f6.2.2.1, f6.2.1.trans bv3, by rw [X6.warmed.alike.findClass, f6.1]; exact bf3, by rw [f6.2.2.1, bs3]; simp, fun j hj => by rw [f6.2.2.2 j, if_pos (by omega)]; rfl, kp3.put p6 (Nat.le_refl _)⟩, by rw [p6.2.2, bh3, hh0]; simp⟩, fun fs hl => c8.trans (X8.areturnOut hexec rfl hret rfl (hb hbytes d58) hl)⟩
end Cmp3
namespace CodL
def yN : MethodName := ⟨"java/lang/StringUTF16", "coderFromArrayLen", "([BI)B"⟩
abbrev yB : ByteArray := jdk_52_method_15_code
theorem d0 : decode yB 0 = .ok (.iload_n 1, 1) := by decide +kernel
theorem d1 : decode yB 1 = .ok (.aload_n 0, 1) := by decide +kernel
theorem d2 : decode yB 2 = .ok (.arraylength, 1) := by decide +kernel
theorem d3 : decode yB 3 = .ok (.isub, 1) := by decide +kernel
theorem d4 : decode yB 4 = .ok (.bipush 31, 2) := by decide +kernel
theorem d6 : decode yB 6 = .ok (.iushr, 1) := by decide +kernel
theorem d7 : decode yB 7 = .ok (.i2b, 1) := by decide +kernel
theorem d8 : decode yB 8 = .ok (.ireturn, 1) := by decide +kernel
def site : List Cond := []
def tab : Cond := tabOf yN yB 2 (some .byte) site
def P (d : Addr) (B : Cell) (args : Array Value) (s : State) : Prop := args = #[.ref d, .int (Int32.ofNat B.slots.size)] ∧ Arr .byte d B s
def E (r : Option Value) (s u : State) : Prop := XT.PureE (some (.int 0)) r s u
/-- an array as long as the number of chars: LATIN1 -/
theorem law (l : Launch) (d : Addr) (B : Cell) : Law l yN 2 2 0 0 yB 2 (some .byte) site (P d B) E [] 0 0 := by
  refine Law.of_walk (plainFor_of_name (by decide +kernel)) (by decide +kernel) (by decide +kernel) (by decide) (fun _ _ h => by rw [h.1]; rfl) (fun _ U U' hal hh h => ⟨h.1, h.2.mv hal hh⟩) (fun r U U' V V' h1 hal h2 h => XT.PureE.mv r U U' V V' h1 hal h2 h) ?_
  intro p e s m args below meth c s₁ X0 hexec hbytes hml hret hlk hnm hown hh0 W hP
  obtain ⟨rfl, hB⟩ := hP
  have hB0 := hB.mv X0.warmed.alike hh0
  have c1 : Steps p.tables e below (s₁.setTop (entryFrame m #[.ref d, .int (Int32.ofNat B.slots.size)] 2)) (s₁.setTop (mkF m 0 #[.val (.ref d), .val (.int (Int32.ofNat B.slots.size))] [])) := entry rfl
  have c2 : Steps p.tables e below (s₁.setTop (entryFrame m #[.ref d, .int (Int32.ofNat B.slots.size)] 2)) (s₁.setTop (mkF m 2 #[.val (.ref d), .val (.int (Int32.ofNat B.slots.size))] [.ref d, .int (Int32.ofNat B.slots.size)])) := c1.trans (by
    refine XS.iloadN X0.here hexec rfl (hb hbytes d0) rfl ?_
    refine XS.aloadN X0.here hexec rfl (hb hbytes d1) rfl rfl ?_
    exact Steps.refl _)
  have c3 : Steps p.tables e below (s₁.setTop (entryFrame m #[.ref d, .int (Int32.ofNat B.slots.size)] 2)) (s₁.setTop (mkF m 8 #[.val (.ref d), .val (.int (Int32.ofNat B.slots.size))] [.int (lo8 (ushr (Int32.ofNat B.slots.size - Int32.ofNat B.slots.size) 31))])) := c2.trans (by
    refine X0.alen hexec hB0 rfl rfl (hb hbytes d2) ?_
    refine XS.isub X0.here hexec rfl (hb hbytes d3) rfl ?_
    refine bipushV X0.here hexec rfl 31 (hb hbytes d4) (by decide) ?_
    refine iushr X0.here hexec rfl (hb hbytes d6) rfl ?_
    refine i2b X0.here hexec rfl (hb hbytes d7) rfl ?_
    exact Steps.refl _)
  have e0 : lo8 (ushr (Int32.ofNat B.slots.size - Int32.ofNat B.slots.size) 31) = 0 := by rw [Int32.sub_self]; decide
  rw [e0] at c3
  exact ⟨s₁, some (.int 0), _, _, _, X0, rfl, rfl, rfl, (fun h => by cases h), ⟨rfl, hh0⟩, fun fs hl => c3.trans (X0.ireturnOut hexec hret rfl (Or.inr (Or.inr (Or.inl rfl))) (hb hbytes d8) hl)⟩
end CodL
/-- the String at a is Latin-1 over a new byte[] (the heap's one new cell): the low bytes of the len chars of A from o on; every cell but a is kept -/
def Got (a : Addr) (D : Cell) (fV fC : Field) (A : Cell) (o len : Nat) (r : Option Value) (s u : State) : Prop := r = none ∧ ∃ D' V : Cell, Blank "java/lang/String" a D' u ∧ Same D D' [fV.slot, fC.slot] ∧ D'.slots[fV.slot]? = some (.ref s.heap.size) ∧ D'.slots[fC.slot]? = some (.int 0) ∧ Arr .byte s.heap.size V u ∧ V.vm = .none ∧ u.vm.findClass "[B" = some V.cls ∧ V.slots.size = len ∧ (∀ j, j < len → V.slots[j]? = some (.int (lo8 (cv A (o + j))))) ∧ (∀ (y : Addr) (c : Cell), y ≠ a → s.heap[y]? = some c → u.heap[y]? = some c) ∧ u.heap.size = s.heap.size + 1
theorem Got.mv {a : Addr} {D A : Cell} {fV fC : Field} {o len : Nat} : ∀ r (U U' V V' : State), U'.heap = U.heap → V.vm.Alike V'.vm → V'.heap = V.heap → Got a D fV fC A o len r U V → Got a D fV fC A o len r U' V' :=
  fun r U U' V V' h1 hal h2 ⟨e0, D', X, a1, a2, a3, a4, a5, a6, a7, a8, a9, a10, a11⟩ => ⟨e0, D', X, a1.mv hal h2, a2, by rw [h1]; exact a3, a4, by rw [h1]; exact a5.mv hal h2, a6, by rw [hal.findClass]; exact a7, a8, a9, by rw [h1, h2]; exact a10, by rw [h1, h2]; exact a11⟩
namespace New4
def yN : MethodName := ⟨"java/lang/String", "<init>", "([CIILjava/lang/Void;)V"⟩
abbrev yB : ByteArray := jdk_42_method_149_code
theorem d0 : decode yB 0 = .ok (.aload_n 0, 1) := by decide +kernel
theorem d1 : decode yB 1 = .ok (.invokespecial 1, 3) := by decide +kernel
theorem d4 : decode yB 4 = .ok (.iload_n 3, 1) := by decide +kernel
theorem d5 : decode yB 5 = .ok (.ifCond (.ne) 22, 3) := by decide +kernel
theorem d27 : decode yB 27 = .ok (.getstatic 38, 3) := by decide +kernel
theorem d30 : decode yB 30 = .ok (.ifCond (.eq) 28, 3) := by decide +kernel
theorem d33 : decode yB 33 = .ok (.aload_n 1, 1) := by decide +kernel
theorem d34 : decode yB 34 = .ok (.iload_n 2, 1) := by decide +kernel
theorem d35 : decode yB 35 = .ok (.iload_n 3, 1) := by decide +kernel
theorem d36 : decode yB 36 = .ok (.invokestatic 177, 3) := by decide +kernel
theorem d39 : decode yB 39 = .ok (.astore 5, 2) := by decide +kernel
theorem d41 : decode yB 41 = .ok (.aload_n 0, 1) := by decide +kernel
theorem d42 : decode yB 42 = .ok (.aload 5, 2) := by decide +kernel
theorem d44 : decode yB 44 = .ok (.iload_n 3, 1) := by decide +kernel
theorem d45 : decode yB 45 = .ok (.invokestatic 47, 3) := by decide +kernel
theorem d48 : decode yB 48 = .ok (.putfield 15, 3) := by decide +kernel
theorem d51 : decode yB 51 = .ok (.aload_n 0, 1) := by decide +kernel
theorem d52 : decode yB 52 = .ok (.aload 5, 2) := by decide +kernel
theorem d54 : decode yB 54 = .ok (.putfield 9, 3) := by decide +kernel
theorem d57 : decode yB 57 = .ok (.return_, 1) := by decide +kernel
def site : List Cond := [.fieldLink "java/lang/String" 38 "java/lang/String" "COMPACT_STRINGS" "Z", Cmp3.tab, CodL.tab, .laysFinal "java/lang/String" "java/lang/String" "value" "[B", .fieldLink "java/lang/String" 9 "java/lang/String" "value" "[B", .laysFinal "java/lang/String" "java/lang/String" "coder" "B", .fieldLink "java/lang/String" 15 "java/lang/String" "coder" "B"] ++ objW "java/lang/String" 1 ++ staticW "java/lang/String" 177 Cmp3.yN ++ staticW "java/lang/String" 47 CodL.yN
def tab : Cond := tabOf yN yB 6 none site
def P (a : Addr) (D : Cell) (fV fC : Field) (b : Addr) (A : Cell) (z : Int32) (o len : Nat) (args : Array Value) (s : State) : Prop := args = #[.ref a, .ref b, .int (Int32.ofNat o), .int (Int32.ofNat len), .null] ∧ Blank "java/lang/String" a D s ∧ Found "java/lang/String" "value" "[B" fV s ∧ Found "java/lang/String" "coder" "B" fC s ∧ Ch b A s ∧ StaticIs s "java/lang/String" "COMPACT_STRINGS" "Z" (.int z) ∧ ¬ z = 0 ∧ 0 < len ∧ o + len ≤ A.slots.size ∧ len ≤ 536870912 ∧ ∀ i, i < len → ¬ 255 < cv A (o + i)
def E (a : Addr) (D : Cell) (fV fC : Field) (A : Cell) (o len : Nat) (r : Option Value) (s u : State) : Prop := Got a D fV fC A o len r s u
/-- len > 0, no char of the range above 255: a Latin-1 String of their low bytes -/
theorem law (l : Launch) (a : Addr) (D : Cell) (fV fC : Field) (b : Addr) (A : Cell) (z : Int32) (o len : Nat) : Law l yN 5 4 2 35 yB 6 none site (P a D fV fC b A z o len) (E a D fV fC A o len) [⟨a, fC.slot⟩, ⟨a, fV.slot⟩] 1 len := by
  refine Law.of_walk (plainFor_of_name (by decide +kernel)) (by decide +kernel) (by decide +kernel) (by decide) (fun _ _ h => by rw [h.1]; rfl) (fun _ U U' hal hh h => ⟨h.1, h.2.1.mv hal hh, h.2.2.1.al hal, h.2.2.2.1.al hal, h.2.2.2.2.1.mv hal hh, h.2.2.2.2.2.1.there hal hh, h.2.2.2.2.2.2⟩) (fun r U U' V V' h1 hal h2 h => Got.mv r U U' V V' h1 hal h2 h) ?_
  intro p e s m args below meth c s₁ X0 hexec hbytes hml hret hlk hnm hown hh0 W hP
  obtain ⟨rfl, hB, f1, f2, hA, s1, hz, l0, l1, l2, hp⟩ := hP
  have a31 := hA.1.2.2.2
  have c1 : Steps p.tables e below (s₁.setTop (entryFrame m #[.ref a, .ref b, .int (Int32.ofNat o), .int (Int32.ofNat len), .null] 6)) (s₁.setTop (mkF m 0 #[.val (.ref a), .val (.ref b), .val (.int (Int32.ofNat o)), .val (.int (Int32.ofNat len)), .val .null, .unset] [])) := entry rfl
  have c2 : Steps p.tables e below (s₁.setTop (entryFrame m #[.ref a, .ref b, .int (Int32.ofNat o), .int (Int32.ofNat len), .null] 6)) (s₁.setTop (mkF m 1 #[.val (.ref a), .val (.ref b), .val (.int (Int32.ofNat o)), .val (.int (Int32.ofNat len)), .val .null, .unset] [.ref a])) := c1.trans (by
    refine XS.aloadN X0.here hexec rfl (hb hbytes d0) rfl rfl ?_
    exact Steps.refl _)
  obtain ⟨T3, X3, q3, st3⟩ := X0.oinit hexec hown (wks W (objW "java/lang/String" 1)) (g := (mkF m 1 #[.val (.ref a), .val (.ref b), .val (.int (Int32.ofNat o)), .val (.int (Int32.ofNat len)), .val .null, .unset] [.ref a])) rfl (by rw [hml]; rfl) (rest := []) rfl (hb hbytes d1) (W := 0) (by show 2 * 0 + 0 ≤ _; decide) (Nat.le_of_ble_eq_true rfl) (Nat.le_of_ble_eq_true rfl)
  have hh3 := q3.trans hh0
  have c4 : Steps p.tables e below (s₁.setTop (entryFrame m #[.ref a, .ref b, .int (Int32.ofNat o), .int (Int32.ofNat len), .null] 6)) (T3.setTop (mkF m 27 #[.val (.ref a), .val (.ref b), .val (.int (Int32.ofNat o)), .val (.int (Int32.ofNat len)), .val .null, .unset] [])) := (c2.trans (st3 _ (Steps.refl _))).trans (by
    refine XS.iloadN X3.here hexec rfl (hb hbytes d4) rfl ?_
    refine XS.ifYes X3.here hexec rfl (pc0 := 5) rfl (hb hbytes d5) rfl (i0_ne_t (nz32 (by omega) l0)) (by decide) rfl ?_
    exact Steps.refl _)
  obtain ⟨T5, X5, q5, st5⟩ := X3.sget hexec hown (wk W (.fieldLink "java/lang/String" 38 "java/lang/String" "COMPACT_STRINGS" "Z")) s1 (fun _ _ h => by rw [hh3]; exact h) (g := (mkF m 27 #[.val (.ref a), .val (.ref b), .val (.int (Int32.ofNat o)), .val (.int (Int32.ofNat len)), .val .null, .unset] [])) rfl (hb hbytes d27)
  have hh5 := q5.trans hh3
  have c6 : Steps p.tables e below (s₁.setTop (entryFrame m #[.ref a, .ref b, .int (Int32.ofNat o), .int (Int32.ofNat len), .null] 6)) (T5.setTop (mkF m 30 #[.val (.ref a), .val (.ref b), .val (.int (Int32.ofNat o)), .val (.int (Int32.ofNat len)), .val .null, .unset] [.int z])) := c4.trans (st5 _ (Steps.refl _))
  have c7 : Steps p.tables e below (s₁.setTop (entryFrame m #[.ref a, .ref b, .int (Int32.ofNat o), .int (Int32.ofNat len), .null] 6)) (T5.setTop (mkF m 36 #[.val (.ref a), .val (.ref b), .val (.int (Int32.ofNat o)), .val (.int (Int32.ofNat len)), .val .null, .unset] [.int (Int32.ofNat len), .int (Int32.ofNat o), .ref b])) := c6.trans (by
    refine XS.ifNo X5.here hexec rfl (hb hbytes d30) rfl (i0_eq_f hz) ?_
    refine XS.aloadN X5.here hexec rfl (hb hbytes d33) rfl rfl ?_
    refine XS.iloadN X5.here hexec rfl (hb hbytes d34) rfl ?_
    refine XS.iloadN X5.here hexec rfl (hb hbytes d35) rfl ?_
    exact Steps.refl _)
  obtain ⟨v8, T8, X8, E8, g8⟩ := X5.callS hexec (Cmp3.law l b A o len) hown (wks W (staticW "java/lang/String" 177 Cmp3.yN)) (wk W Cmp3.tab) (W := 0) (Nat.le_of_ble_eq_true rfl) (Nat.le_of_ble_eq_true rfl) (Nat.le_refl _) (by show 0 + len ≤ len; omega) (g := (mkF m 36 #[.val (.ref a), .val (.ref b), .val (.int (Int32.ofNat o)), .val (.int (Int32.ofNat len)), .val .null, .unset] [.int (Int32.ofNat len), .int (Int32.ofNat o), .ref b])) rfl (by rw [hml]; rfl) c7 (argsL := [.ref b, .int (Int32.ofNat o), .int (Int32.ofNat len)]) (rest := []) rfl rfl (by show 2 * 0 + 0 ≤ _; decide) (hb hbytes d36) (⟨rfl, hA.mv X5.warmed.alike hh5, l1, l2, hp⟩)
  obtain ⟨e8, z8⟩ := E8
  obtain ⟨rfl, N, n1, n2, n3, n4, n5, n6⟩ := NewArr.mv _ T5 s _ _ hh5.symm (Vm.Alike.refl _) rfl e8
  rw [hh5] at z8
  have hB1 := hB.keep X8.warmed.alike (n6 _ _ hB.1)
  have hne : s.heap.size ≠ a := (Nat.ne_of_lt (Array.getElem?_eq_some_iff.mp hB.1).1).symm
  have c9 : Steps p.tables e below (s₁.setTop (entryFrame m #[.ref a, .ref b, .int (Int32.ofNat o), .int (Int32.ofNat len), .null] 6)) (T8.setTop (mkF m 39 #[.val (.ref a), .val (.ref b), .val (.int (Int32.ofNat o)), .val (.int (Int32.ofNat len)), .val .null, .unset] [.ref s.heap.size])) := g8
  have c10 : Steps p.tables e below (s₁.setTop (entryFrame m #[.ref a, .ref b, .int (Int32.ofNat o), .int (Int32.ofNat len), .null] 6)) (T8.setTop (mkF m 45 #[.val (.ref a), .val (.ref b), .val (.int (Int32.ofNat o)), .val (.int (Int32.ofNat len)), .val .null, .val (.ref s.heap.size)] [.int (Int32.ofNat N.slots.size), .ref s.heap.size, .ref a])) := by
    have hc : Steps p.tables e below (s₁.setTop (entryFrame m #[.ref a, .ref b, .int (Int32.ofNat o), .int (Int32.ofNat len), .null] 6)) (T8.setTop (mkF m 45 #[.val (.ref a), .val (.ref b), .val (.int (Int32.ofNat o)), .val (.int (Int32.ofNat len)), .val .null, .val (.ref s.heap.size)] [.int (Int32.ofNat len), .ref s.heap.size, .ref a])) := c9.trans (by
      refine XS.astore X8.here hexec rfl (hb hbytes d39) rfl rfl rfl ?_
      refine XS.aloadN X8.here hexec rfl (hb hbytes d41) rfl rfl ?_
      refine XS.aload X8.here hexec rfl (hb hbytes d42) rfl rfl ?_
      refine XS.iloadN X8.here hexec rfl (hb hbytes d44) rfl ?_
      exact Steps.refl _)
    rw [n4]; exact hc
  obtain ⟨v11, T11, X11, E11, g11⟩ := X8.callS hexec (CodL.law l s.heap.size N) hown (wks W (staticW "java/lang/String" 47 CodL.yN)) (wk W CodL.tab) (W := 1) (Nat.le_of_ble_eq_true rfl) (Nat.le_of_ble_eq_true rfl) (Nat.le_refl _) (by show 0 + len + 0 ≤ len; omega) (g := (mkF m 45 #[.val (.ref a), .val (.ref b), .val (.int (Int32.ofNat o)), .val (.int (Int32.ofNat len)), .val .null, .val (.ref s.heap.size)] [.int (Int32.ofNat N.slots.size), .ref s.heap.size, .ref a])) rfl (by rw [hml]; rfl) c10 (argsL := [.ref s.heap.size, .int (Int32.ofNat N.slots.size)]) (rest := [.ref a]) rfl rfl (by show 2 * 0 + (1 + 0) ≤ _; decide) (hb hbytes d45) (⟨rfl, n1⟩)
  obtain ⟨rfl, q11⟩ := E11
  have hB11 := hB1.mv (X8.warmed.alike.symm.trans X11.warmed.alike) q11
  have c12 : Steps p.tables e below (s₁.setTop (entryFrame m #[.ref a, .ref b, .int (Int32.ofNat o), .int (Int32.ofNat len), .null] 6)) (T11.setTop (mkF m 48 #[.val (.ref a), .val (.ref b), .val (.int (Int32.ofNat o)), .val (.int (Int32.ofNat len)), .val .null, .val (.ref s.heap.size)] [.int 0, .ref a])) := g11
  obtain ⟨T13, X13, p13, bl13, sl13, st13⟩ := X11.finit hexec hown (wk W (.fieldLink "java/lang/String" 15 "java/lang/String" "coder" "B")) (Or.inr ⟨_, (wk W (.laysFinal "java/lang/String" "java/lang/String" "coder" "B"))⟩) (Or.inl ⟨rfl, hnm⟩) f2 (Or.inl rfl) hB11 (t := .byte) (by decide +kernel) rfl (g := (mkF m 48 #[.val (.ref a), .val (.ref b), .val (.int (Int32.ofNat o)), .val (.int (Int32.ofNat len)), .val .null, .val (.ref s.heap.size)] [.int 0, .ref a])) rfl (rest := []) rfl (hb hbytes d48)
  have c14 : Steps p.tables e below (s₁.setTop (entryFrame m #[.ref a, .ref b, .int (Int32.ofNat o), .int (Int32.ofNat len), .null] 6)) (T13.setTop (mkF m 54 #[.val (.ref a), .val (.ref b), .val (.int (Int32.ofNat o)), .val (.int (Int32.ofNat len)), .val .null, .val (.ref s.heap.size)] [.ref s.heap.size, .ref a])) := (c12.trans (st13 _ (Steps.refl _))).trans (by
    refine XS.aloadN X13.here hexec rfl (hb hbytes d51) rfl rfl ?_
    refine XS.aload X13.here hexec rfl (hb hbytes d52) rfl rfl ?_
    exact Steps.refl _)
  obtain ⟨T15, X15, p15, bl15, sl15, st15⟩ := X13.finit hexec hown (wk W (.fieldLink "java/lang/String" 9 "java/lang/String" "value" "[B")) (Or.inr ⟨_, (wk W (.laysFinal "java/lang/String" "java/lang/String" "value" "[B"))⟩) (Or.inl ⟨rfl, hnm⟩) f1 (Or.inl rfl) bl13 (t := (.array .byte)) (by decide +kernel) rfl (g := (mkF m 54 #[.val (.ref a), .val (.ref b), .val (.int (Int32.ofNat o)), .val (.int (Int32.ofNat len)), .val .null, .val (.ref s.heap.size)] [.ref s.heap.size, .ref a])) rfl (rest := []) rfl (hb hbytes d54)
  have c16 : Steps p.tables e below (s₁.setTop (entryFrame m #[.ref a, .ref b, .int (Int32.ofNat o), .int (Int32.ofNat len), .null] 6)) (T15.setTop (mkF m 57 #[.val (.ref a), .val (.ref b), .val (.int (Int32.ofNat o)), .val (.int (Int32.ofNat len)), .val .null, .val (.ref s.heap.size)] [])) := c14.trans (st15 _ (Steps.refl _))
  have ap := apart (Or.inr ⟨_, (wk W (.laysFinal "java/lang/String" "java/lang/String" "value" "[B"))⟩) (Or.inr ⟨_, (wk W (.laysFinal "java/lang/String" "java/lang/String" "coder" "B"))⟩) f1 f2 (t₁ := .array .byte) (t₂ := .byte) (by decide +kernel) (by decide +kernel) (by decide)
  have al := X8.warmed.alike.symm.trans X15.warmed.alike
  have n7 : T11.heap[s.heap.size]? = some N := by rw [q11]; exact n1.1
  exact ⟨T15, none, _, _, _, X15, by simp, rfl, by omega, (fun _ => rfl), ⟨rfl, _, N, bl15, ((Same.refl D _).set _ (by simp)).set _ (by simp), sl15, (Cell.slots_setSlot_ne _ ap).trans sl13, n1.keep al (p15.other hne (p13.other hne n7)), n2, by rw [al.findClass]; exact n3, n4, n5, fun y c h1 h2 => p15.other h1 (p13.other h1 (by rw [q11]; exact n6 y c h2)), by rw [p15.2.2, p13.2.2, q11]; exact z8⟩, fun fs hl => c16.trans (X15.returnOut hexec hret (hb hbytes d57) hl)⟩
end New4
namespace New1
def yN : MethodName := ⟨"java/lang/String", "<init>", "([C)V"⟩
abbrev yB : ByteArray := jdk_42_method_3_code
theorem d0 : decode yB 0 = .ok (.aload_n 0, 1) := by decide +kernel
theorem d1 : decode yB 1 = .ok (.aload_n 1, 1) := by decide +kernel
theorem d2 : decode yB 2 = .ok (.iconst 0, 1) := by decide +kernel
theorem d3 : decode yB 3 = .ok (.aload_n 1, 1) := by decide +kernel
theorem d4 : decode yB 4 = .ok (.arraylength, 1) := by decide +kernel
theorem d5 : decode yB 5 = .ok (.aconst_null, 1) := by decide +kernel
theorem d6 : decode yB 6 = .ok (.invokespecial 27, 3) := by decide +kernel
theorem d9 : decode yB 9 = .ok (.return_, 1) := by decide +kernel
def site : List Cond := [New4.tab] ++ initW "java/lang/String" 27 New4.yN
def tab : Cond := tabOf yN yB 2 none site
def P (a : Addr) (D : Cell) (fV fC : Field) (b : Addr) (A : Cell) (z : Int32) (args : Array Value) (s : State) : Prop := args = #[.ref a, .ref b] ∧ Blank "java/lang/String" a D s ∧ Found "java/lang/String" "value" "[B" fV s ∧ Found "java/lang/String" "coder" "B" fC s ∧ Ch b A s ∧ StaticIs s "java/lang/String" "COMPACT_STRINGS" "Z" (.int z) ∧ ¬ z = 0 ∧ 0 < A.slots.size ∧ A.slots.size ≤ 536870912 ∧ ∀ i, i < A.slots.size → ¬ 255 < cv A i
def E (a : Addr) (D : Cell) (fV fC : Field) (A : Cell) (r : Option Value) (s u : State) : Prop := Got a D fV fC A 0 A.slots.size r s u
/-- new String(chars), not empty, no char above 255: a Latin-1 String of their low bytes -/
theorem law (l : Launch) (a : Addr) (D : Cell) (fV fC : Field) (b : Addr) (A : Cell) (z : Int32) : Law l yN 2 1 3 52 yB 2 none site (P a D fV fC b A z) (E a D fV fC A) [⟨a, fC.slot⟩, ⟨a, fV.slot⟩] 1 A.slots.size := by
  refine Law.of_walk (plainFor_of_name (by decide +kernel)) (by decide +kernel) (by decide +kernel) (by decide) (fun _ _ h => by rw [h.1]; rfl) (fun _ U U' hal hh h => ⟨h.1, h.2.1.mv hal hh, h.2.2.1.al hal, h.2.2.2.1.al hal, h.2.2.2.2.1.mv hal hh, h.2.2.2.2.2.1.there hal hh, h.2.2.2.2.2.2⟩) (fun r U U' V V' h1 hal h2 h => Got.mv r U U' V V' h1 hal h2 h) ?_
  intro p e s m args below meth c s₁ X0 hexec hbytes hml hret hlk hnm hown hh0 W hP
  obtain ⟨rfl, hB, f1, f2, hA, s1, hz, l0, l2, hp⟩ := hP
  have c1 : Steps p.tables e below (s₁.setTop (entryFrame m #[.ref a, .ref b] 2)) (s₁.setTop (mkF m 0 #[.val (.ref a), .val (.ref b)] [])) := entry rfl
  have c2 : Steps p.tables e below (s₁.setTop (entryFrame m #[.ref a, .ref b] 2)) (s₁.setTop (mkF m 6 #[.val (.ref a), .val (.ref b)] [.null, .int (Int32.ofNat A.slots.size), .int 0, .ref b, .ref a])) := c1.trans (by
    refine XS.aloadN X0.here hexec rfl (hb hbytes d0) rfl rfl ?_
    refine XS.aloadN X0.here hexec rfl (hb hbytes d1) rfl rfl ?_
    refine iconstV X0.here hexec rfl 0 (hb hbytes d2) (by decide) ?_
    refine XS.aloadN X0.here hexec rfl (hb hbytes d3) rfl rfl ?_
    refine X0.alen hexec (hA.1.mv X0.warmed.alike hh0) rfl rfl (hb hbytes d4) ?_
    refine XS.aconstNull X0.here hexec rfl (hb hbytes d5) ?_
    exact Steps.refl _)
  obtain ⟨v3, T3, X3, E3, g3⟩ := X0.callN hexec (New4.law l a D fV fC b A z 0 A.slots.size) rfl hown (wks W (initW "java/lang/String" 27 New4.yN)) (W New4.tab (by simp only [site, List.mem_cons, List.mem_append, true_or, or_true])) (W := 0) (Nat.le_of_ble_eq_true rfl) (Nat.le_of_ble_eq_true rfl) (Nat.le_refl _) (by show 0 + A.slots.size ≤ A.slots.size; omega) (g := (mkF m 6 #[.val (.ref a), .val (.ref b)] [.null, .int (Int32.ofNat A.slots.size), .int (Int32.ofNat 0), .ref b, .ref a])) rfl (by rw [hml]; rfl) c2 (argsL := [.ref b, .int (Int32.ofNat 0), .int (Int32.ofNat A.slots.size), .null]) (rest := []) rfl rfl (by show 2 * 0 + 0 ≤ _; decide) (hb hbytes d6) (⟨rfl, hB.mv X0.warmed.alike hh0, f1.al X0.warmed.alike, f2.al X0.warmed.alike, hA.mv X0.warmed.alike hh0, s1.there X0.warmed.alike hh0, hz, l0, by omega, l2, fun i hi => by rw [Nat.zero_add]; exact hp i hi⟩)
  have e0 := Got.mv _ s₁ s _ _ hh0.symm (Vm.Alike.refl _) rfl E3
  obtain rfl := e0.1
  have c4 : Steps p.tables e below (s₁.setTop (entryFrame m #[.ref a, .ref b] 2)) (T3.setTop (mkF m 9 #[.val (.ref a), .val (.ref b)] [])) := g3
  exact ⟨T3, none, _, _, _, X3, by simp, rfl, by omega, (fun _ => rfl), e0, fun fs hl => c4.trans (X3.returnOut hexec hret (hb hbytes d9) hl)⟩
theorem pays {l : Launch} {R : Room} {p : Program} {e : Env} {below : List Frame} {s : State} {sargs : Array Value} {len W : Nat} (a : Addr) (D : Cell) (fV fC : Field) (b : Addr) (A : Cell) (z : Int32) (htab : tab.before sargs s = true) (hfr : 4 ≤ R.frames) (hlo : W + 65 ≤ R.locals) :
    Back l R p e below s sargs yN len W (fun A₁ a₁ => A₁.cells + 1 ≤ R.cells ∧ A₁.slots + A.slots.size ≤ R.slots ∧ P a D fV fC b A z a₁ A₁.U) (fun A₁ _ v₁ B₁ => E a D fV fC A v₁ A₁.U B₁.U ∧ B₁.locs = A₁.locs ++ [⟨a, fC.slot⟩, ⟨a, fV.slot⟩] ∧ B₁.cells = A₁.cells + 1 ∧ B₁.slots = A₁.slots + A.slots.size) :=
  (law l a D fV fC b A z).pays htab hfr (by omega)
end New1
end StrChars
namespace StrChars.Road
open Jvm Sem ClassFile Op Lib Jvm.Stand Jvm.Free Jvm.Free.XT
open Jvm.Lib.Cold (StaticIs)
abbrev ST : String := "java/lang/String"
/-- every table word that New1's law asks, flat -/
abbrev words : List Jvm.Cond := [.code New1.yN New1.yB 2 none, .initialized ST, .methodLink ST 27 New4.yN, .instanceMethod New4.yN,
  .code New4.yN New4.yB 6 none, .fieldLink ST 38 ST "COMPACT_STRINGS" "Z", .laysFinal ST ST "value" "[B", .fieldLink ST 9 ST "value" "[B", .laysFinal ST ST "coder" "B", .fieldLink ST 15 ST "coder" "B",
  .methodLink ST 1 Lib.objectInit, .instanceMethod Lib.objectInit, .code Lib.objectInit ⟨#[0xb1]⟩ 1 none, .methodLink ST 177 Cmp3.yN, .static Cmp3.yN, .methodLink ST 47 CodL.yN, .static CodL.yN,
  .code Cmp3.yN Cmp3.yB 6 (some (.array .byte)), .initialized U16, .arrayClass .byte, .methodLink U16 115 Cmp5.yN, .static Cmp5.yN, .code Cmp5.yN Cmp5.yB 7 (some .int), .code CodL.yN CodL.yB 2 (some .byte)]
theorem tab_of {a : Array Value} {s : State} (h : ∀ w ∈ words, w.before a s = true) : New1.tab.before a s = true := by
  have h5 : Cmp5.tab.before a s = true := unparts (wk h (.code Cmp5.yN Cmp5.yB 7 (some .int))) (wks h (.initialized Cmp5.yN.cls :: Cmp5.site))
  have hc : CodL.tab.before a s = true := unparts (wk h (.code CodL.yN CodL.yB 2 (some .byte))) (wks h (.initialized CodL.yN.cls :: CodL.site))
  have q5 : ∀ w ∈ Cmp5.tab :: words, w.before a s = true := fun w hw => (List.mem_cons.mp hw).elim (fun e => e ▸ h5) (h w)
  have h3 : Cmp3.tab.before a s = true := unparts (wk q5 (.code Cmp3.yN Cmp3.yB 6 (some (.array .byte)))) (wks q5 (.initialized Cmp3.yN.cls :: Cmp3.site))
  have q3 : ∀ w ∈ Cmp3.tab :: CodL.tab :: words, w.before a s = true := fun w hw => (List.mem_cons.mp hw).elim (fun e => e ▸ h3) fun hw => (List.mem_cons.mp hw).elim (fun e => e ▸ hc) (h w)
  have h4 : New4.tab.before a s = true := unparts (wk q3 (.code New4.yN New4.yB 6 none)) (wks q3 (.initialized New4.yN.cls :: New4.site))
  have q4 : ∀ w ∈ New4.tab :: words, w.before a s = true := fun w hw => (List.mem_cons.mp hw).elim (fun e => e ▸ h4) (h w)
  exact unparts (wk q4 (.code New1.yN New1.yB 2 none)) (wks q4 (.initialized New1.yN.cls :: New1.site))
/-- the words ride from the start Z to the walk's own state -/
theorem moved {Z s : State} {a0 args : Array Value} (hZ : Z.Warmed39 s.vm) (hw : ∀ d ∈ words, d.before a0 Z = true) : ∀ d ∈ words, d.before args s = true := fun d hd => by
  have q := hw d hd
  have t : ∀ d ∈ words, d = .arrayClass .byte ∨ (d.onTables && d.keepsFace) = true := by decide +kernel
  rcases t d hd with rfl | t
  · exact RoadKit.mvA hZ q
  · exact RoadKit.mv hZ q t
/-- WHAT COMES BACK, over the tables of the start Z: h the heap at the call, h' behind it -/
def Q (Z : State) (x : Addr) (A : Cell) (h : Heap) (v : Option Value) (h' : Heap) (L : List Loc) : Prop := v = none ∧ (∀ y ∈ L, y.base = x) ∧ RoadKit.Keep h h' [x] ∧ h'.size = h.size + 1 ∧ RoadKit.Exa Z h' x ST ∧ RoadKit.Fld Z h' x ST "value" "[B" (.ref h.size) ∧ RoadKit.Fld Z h' x ST "coder" "B" (.int 0) ∧
  (∃ V : Cell, RoadKit.Arr Z h' h.size V .byte ∧ V.vm = .none ∧ Z.vm.findClass "[B" = some V.cls ∧ V.slots.size = A.slots.size ∧ ∀ j, j < A.slots.size → V.slots[j]? = some (.int (lo8 (cv A j)))) ∧
  ∀ (O n d : String) (w : Value), RoadKit.Fld Z h x O n d w → RoadKit.slotOf Z O n d ≠ RoadKit.slotOf Z ST "value" "[B" → RoadKit.slotOf Z O n d ≠ RoadKit.slotOf Z ST "coder" "B" → RoadKit.Fld Z h' x O n d w
/-- **new String(chars) AT A CALL, IN THE ROAD'S FORM**: for specialBack behind newO: x the fresh String, b the char[] with the cell A -/
theorem back {p : Program} {l : Launch} {e : Env} {R : Room} {s : State} {args : Array Value} {below : List Frame} {len W : Nat} {Z : State} {a0 : Array Value} {h : Heap} (hZ : Z.Warmed39 s.vm) (hw : ∀ d ∈ words, d.before a0 Z = true) {kI : Nat} (wi : (Jvm.Cond.instantiable ST kI).before a0 Z = true)
    {x b : Addr} {A : Cell} {z : Int32} {v0 c0 : Value} (E : RoadKit.Exa Z h x ST) (V : RoadKit.Fld Z h x ST "value" "[B" v0) (C : RoadKit.Fld Z h x ST "coder" "B" c0) (K : RoadKit.Arr Z h b A .char) (hty : Typed .char A) (S : RoadKit.Sta Z h ST "COMPACT_STRINGS" "Z" (.int z)) (hz : ¬ z = 0)
    (l0 : 0 < A.slots.size) (l2 : A.slots.size ≤ 536870912) (hp : ∀ i, i < A.slots.size → ¬ 255 < cv A i) (hfr : 4 ≤ R.frames) (hlo : W + 65 ≤ R.locals) :
    Back l R p e below s args New1.yN len W (fun P a => a = #[.ref x, .ref b] ∧ P.U.heap = h ∧ P.cells + 1 ≤ R.cells ∧ P.slots + A.slots.size ≤ R.slots)
      (fun P _ v B => ∃ L, Q Z x A h v B.U.heap L ∧ B.locs = P.locs ++ L ∧ B.cells = P.cells + 1 ∧ B.slots = P.slots + A.slots.size) := by
  intro m meth c P g ig mk a X hg hsize hdg hW hn hp'
  obtain ⟨rfl, rfl, r1, r2⟩ := hp'
  have al : Z.vm.Alike P.U.vm := hZ.alike.trans X.warmed.alike
  obtain ⟨D, cfV, kV, iV, fV, hD, gV, stV, knV, obV, asV, slV⟩ := id V
  obtain ⟨D', cfC, kC, iC, fC, hD', gC, stC, -, -, asC, slC⟩ := id C
  cases hD.symm.trans hD'
  obtain ⟨D2, kD, e1, e2, e3, e4, e5⟩ := id E
  cases hD.symm.trans e1
  obtain ⟨c2, k2, i1, i2, i3, -⟩ := Cond.instantiable_spec wi
  cases e2.symm.trans i1
  cases e3.symm.trans i2
  obtain ⟨kU, u1, u2⟩ := al.2.2 _ _ e3
  have hB : Blank ST x D P.U := ⟨hD, ⟨knV, fun q hq => by rw [hq] at obV; cases obV⟩, by rw [al.findClass]; exact e2, kU, u1, by rw [u2]; exact i3, by rw [u2]; exact e5 i3⟩
  have F1 : Found ST "value" "[B" fV P.U := ⟨SBG.found_only al ⟨cfV, kV, iV, gV⟩, stV⟩
  have F2 : Found ST "coder" "B" fC P.U := ⟨SBG.found_only al ⟨cfC, kC, iC, gC⟩, stC⟩
  have hA : Ch b A P.U := ⟨⟨K.1, State.isArrayOf_alike al K.2.1, K.2.2, by omega⟩, hty⟩
  have hS : StaticIs P.U ST "COMPACT_STRINGS" "Z" (.int z) := by
    obtain ⟨cfS, iS, kS, fS, st, cS, t1, t2, t3, t4, t5, t6, t7⟩ := S
    exact StaticIs.there (s := { Z with heap := P.U.heap }) ⟨cfS, iS, kS, fS, st, cS, t1, t2, t3, t4, t5, (fun q => by rw [q] at t6; cases t6), t7⟩ al rfl
  obtain ⟨v, B, X', ⟨⟨hv, E', V', q1, q2, q3, q4, q5, q6, q7, q8, q9, q10, q11⟩, hl, hc, hs⟩, st⟩ := New1.pays x D fV fC b A z (tab_of (moved hZ hw)) hfr hlo m meth c P g ig mk _ X hg hsize hdg hW hn ⟨r1, r2, rfl, hB, F1, F2, hA, hS, hz, l0, l2, hp⟩
  have al' : Z.vm.Alike B.U.vm := hZ.alike.trans X'.warmed.alike
  have hsz : E'.slots.size = D.slots.size := by
    obtain ⟨-, -, -, kB, w1, w2, w3⟩ := q1
    obtain ⟨kB', y1, y2⟩ := al'.2.2 _ _ e3
    rw [q2.2.1] at w1
    cases w1.symm.trans y1
    rw [w3, e5 i3, y2]
  refine ⟨v, B, X', ⟨_, ⟨hv, ?_, ⟨by omega, fun y cy hy hn' => q10 y cy (by simpa using hn') hy, fun y cy hy => ?_⟩, q11, ⟨E', _, q1.1, by rw [q2.2.1]; exact e2, by rw [q2.2.1]; exact e3, by rw [q2.1]; exact obV, fun _ => by rw [hsz]; exact e5 i3⟩,
    ⟨E', cfV, kV, iV, fV, q1.1, gV, stV, by rw [q2.1]; exact knV, by rw [q2.1]; exact obV, by rw [q2.2.1]; exact asV, q3⟩, ⟨E', cfC, kC, iC, fC, q1.1, gC, stC, by rw [q2.1]; exact knV, by rw [q2.1]; exact obV, by rw [q2.2.1]; exact asC, q4⟩,
    ⟨V', ⟨q5.1, State.isArrayOf_alike al'.symm q5.2.1, q5.2.2.1⟩, q6, by rw [← al'.findClass]; exact q7, q8, fun j hj => by have := q9 j hj; rwa [Nat.zero_add] at this⟩, fun O n d w F n1 n2 => ?_⟩, hl, hc, hs⟩, st⟩
  · intro y hy
    simp only [List.mem_cons, List.not_mem_nil, or_false] at hy
    rcases hy with rfl | rfl <;> rfl
  · by_cases q : y = x
    · subst q
      cases hD.symm.trans hy
      exact ⟨E', q1.1, q2.2.1, q2.1, hsz⟩
    · exact ⟨cy, q10 y cy q hy, rfl, rfl, rfl⟩
  · obtain ⟨D3, cf, k, i, f, g1, g2, g3, g4, g5, g6, g7⟩ := F
    cases hD.symm.trans g1
    simp only [RoadKit.slotOf, g2, gV, gC, Option.map_some, Option.getD_some] at n1 n2
    exact ⟨E', cf, k, i, f, q1.1, g2, g3, by rw [q2.1]; exact g4, by rw [q2.1]; exact g5, by rw [q2.2.1]; exact g6, by rw [q2.2.2 f.slot (by simp [n1, n2])]; exact g7⟩
end StrChars.Road
namespace StrChars.Road
open Jvm Sem ClassFile Op Lib Jvm.Stand Jvm.Free Jvm.Free.XT
/-- WHAT COMES BACK, the byte[] as a list of values -/
def QA (Z : State) (x : Addr) (zn : Int32) (cs : List Int32) (h : Heap) (v : Option Value) (h' : Heap) (L : List Loc) : Prop := v = none ∧ (∀ y ∈ L, y.base = x) ∧ RoadKit.Keep h h' [x] ∧ h'.size = h.size + 1 ∧ RoadKit.Exa Z h' x ST ∧ RoadKit.Fld Z h' x ST "value" "[B" (.ref h.size) ∧ RoadKit.Fld Z h' x ST "coder" "B" (.int 0) ∧
  (∃ kb, Z.vm.findClass "[B" = some kb ∧ RoadKit.Arv Z h' h.size kb .byte zn (cs.map fun c => .int (lo8 c)) (.int 0)) ∧
  ∀ (O n d : String) (w : Value), RoadKit.Fld Z h x O n d w → RoadKit.slotOf Z O n d ≠ RoadKit.slotOf Z ST "value" "[B" → RoadKit.slotOf Z O n d ≠ RoadKit.slotOf Z ST "coder" "B" → RoadKit.Fld Z h' x O n d w
/-- **new String(chars) AT A CALL, THE ARRAYS AS LISTS**: the char[] at b holds cs, not empty, no char above 255 -/
theorem backArv {p : Program} {l : Launch} {e : Env} {R : Room} {s : State} {args : Array Value} {below : List Frame} {len W : Nat} {Z : State} {a0 : Array Value} {h : Heap} (hZ : Z.Warmed39 s.vm) (hw : ∀ d ∈ words, d.before a0 Z = true) {kI : Nat} (wi : (Jvm.Cond.instantiable ST kI).before a0 Z = true)
    {x b : Addr} {k : ClassId} {zn z : Int32} {cs : List Int32} {dv v0 c0 : Value} (E : RoadKit.Exa Z h x ST) (V : RoadKit.Fld Z h x ST "value" "[B" v0) (C : RoadKit.Fld Z h x ST "coder" "B" c0) (K : RoadKit.Arv Z h b k .char zn (cs.map Value.int) dv) (S : RoadKit.Sta Z h ST "COMPACT_STRINGS" "Z" (.int z)) (hz : ¬ z = 0)
    (hlen : zn.toNatClampNeg = cs.length) (h0 : 0 < cs.length) (hbig : cs.length ≤ 536870912) (hall : ∀ c ∈ cs, ¬ 255 < c) (hfr : 4 ≤ R.frames) (hlo : W + 65 ≤ R.locals) :
    Back l R p e below s args New1.yN len W (fun P a => a = #[.ref x, .ref b] ∧ P.U.heap = h ∧ P.cells + 1 ≤ R.cells ∧ P.slots + cs.length ≤ R.slots)
      (fun P _ v B => ∃ L, QA Z x zn cs h v B.U.heap L ∧ B.locs = P.locs ++ L ∧ B.cells = P.cells + 1 ∧ B.slots = P.slots + cs.length) := by
  obtain ⟨A, K1, K2, K3, K4, K5, K6⟩ := K
  have e : A.slots.size = cs.length := K3.trans hlen
  have hat : ∀ (i : Nat) (hi : i < cs.length), A.slots[i]? = some (.int cs[i]) := fun i hi => by rw [K5 i (by omega)]; simp [List.getD_eq_getElem?_getD, hi]
  have hcv : ∀ (i : Nat) (hi : i < cs.length), cv A i = cs[i] := fun i hi => by unfold cv; rw [hat i hi]
  have hty : Typed .char A := fun i v hv => by
    have hi : i < A.slots.size := (Array.getElem?_eq_some_iff.mp hv).1
    have q := K5 i hi
    rw [hv] at q
    rw [Option.some.inj q]
    exact K6 i hi
  refine Back.mono (back hZ hw wi E V C K1 hty S hz (by omega) (by omega) (fun i hi => by rw [hcv i (by omega)]; exact hall _ (List.getElem_mem _)) hfr hlo) (fun P a hp => ⟨hp.1, hp.2.1, hp.2.2.1, by rw [e]; exact hp.2.2.2⟩) (fun P a v B hp hq => ?_)
  obtain ⟨L, ⟨q1, q2, q3, q4, q5, q6, q7, ⟨V', v1, v2, v3, v4, v5⟩, q9⟩, hl, hc, hs⟩ := hq
  refine ⟨L, ⟨q1, q2, q3, q4, q5, q6, q7, ⟨V'.cls, v3, V', v1, rfl, by rw [v4, e, hlen], K4, fun i hi => ?_, fun i hi => ?_⟩, q9⟩, hl, hc, by rw [hs, e]⟩
  · have hi' : i < cs.length := by omega
    rw [v5 i (by omega), hcv i hi']; simp [List.getD_eq_getElem?_getD, hi']
  · have hi' : i < cs.length := by omega
    simp only [List.getD_eq_getElem?_getD, List.getElem?_map, List.getElem?_eq_getElem hi', Option.map_some, Option.getD_some]
    exact fits_lo8 _
end StrChars.Road
namespace StrChars.Road
open Jvm Sem ClassFile Op Lib Jvm.Stand Jvm.Free Jvm.Free.XT
/-- WHAT COMES BACK, in the writer's own shape -/
def QV (Z : State) (x : Addr) (N : Int32) (bs : List Int32) (h : Heap) (n0 : Nat) (v : Option Value) (h' : Heap) (L : List Loc) : Prop := v = none ∧ RoadKit.Fr n0 L ∧ RoadKit.Keep h h' [x] ∧ RoadKit.Exa Z h' x ST ∧ RoadKit.Fld Z h' x ST "coder" "B" (.int 0) ∧
  ∃ (t : Addr) (kb : ClassId), n0 ≤ t ∧ h.size ≤ t ∧ ¬ t = x ∧ RoadKit.Fld Z h' x ST "value" "[B" (.ref t) ∧ RoadKit.Arv Z h' t kb .byte N (bs.map Value.int) (.int 0)
/-- **new String(chars) AT A CALL, FOR THE WRITER**: a char[] of n known ints, each 0 to 255 -/
theorem backV {p : Program} {l : Launch} {e : Env} {R : Room} {s : State} {args : Array Value} {below : List Frame} {len W : Nat} {Z : State} {a0 : Array Value} {h : Heap} (hZ : Z.Warmed39 s.vm) (hw : ∀ d ∈ words, d.before a0 Z = true) {kI : Nat} (wi : (Jvm.Cond.instantiable ST kI).before a0 Z = true)
    {x b : Addr} {kC : ClassId} {cs bs : List Int32} {d v0 c0 : Value} {z N : Int32} {n n0 : Nat} (hx0 : n0 ≤ x) (hh0 : n0 ≤ h.size) (E : RoadKit.Exa Z h x ST) (V : RoadKit.Fld Z h x ST "value" "[B" v0) (C : RoadKit.Fld Z h x ST "coder" "B" c0) (K : RoadKit.Arv Z h b kC .char N (cs.map Value.int) d) (S : RoadKit.Sta Z h ST "COMPACT_STRINGS" "Z" (.int z)) (hz : ¬ z = 0)
    (hn : cs.length = n) (hN : N = Int32.ofNat n) (l0 : 0 < n) (l2 : n ≤ 4000) (hp : ∀ c ∈ cs, ¬ c < 0 ∧ ¬ (255 : Int32) < c) (hb : bs = cs.map (fun c => c.toInt8.toInt32)) (hfr : 4 ≤ R.frames) (hlo : W + 65 ≤ R.locals) :
    Back l R p e below s args (⟨"java/lang/String", "<init>", "([C)V"⟩ : MethodName) len W (fun P a => a = #[.ref x, .ref b] ∧ P.U.heap = h ∧ P.cells + 1 ≤ R.cells ∧ P.slots + n ≤ R.slots)
      (fun P _ v B => ∃ L, QV Z x N bs h n0 v B.U.heap L ∧ B.locs = P.locs ++ L ∧ B.cells = P.cells + 1 ∧ B.slots = P.slots + n) := by
  subst hn hN hb
  refine Back.mono (backArv hZ hw wi E V C K S hz (n32 (by omega)) l0 (by omega) (fun c hc => (hp c hc).2) hfr hlo) (fun P a hp => hp) (fun P a v B hp hq => ?_)
  obtain ⟨L, ⟨q1, q2, q3, q4, q5, q6, q7, ⟨kb, v1, v2⟩, q9⟩, hl, hc, hs⟩ := hq
  exact ⟨L, ⟨q1, fun y hy => by rw [q2 y hy]; exact hx0, q3, q5, q7, h.size, kb, hh0, Nat.le_refl _, Nat.ne_of_gt E.lt, q6, by rw [List.map_map]; exact v2⟩, hl, hc, hs⟩
end StrChars.Road
end Jvm.Pilot.@@N@@
namespace Jvm.Pilot.@@N@@
open Jvm Jvm.ClassFile Sem Op Lib Jvm.Free Jvm.Stand Jvm.LawKit Jvm.RoadKit Bundle Jvm.Pilot.@@N@@.Jvm.D
section Own
variable {p : Program} {l : Launch} {e : Env} {R : Room} {s : State} {m : MethodId} {args : Array Value} {below : List Frame} {meth : Method} {c : Code} {T S S' : State} {locs : List Loc} {cells slots : Nat} {Z : State} {a0 : Array Value} {h h' : Heap}
/-- from S the walk comes to an end that P holds of -/
def OwnEnd (p : Program) (e : Env) (below : List Frame) (P : Outcome → State → Prop) (S : State) : Prop := ∃ s₂ o, Steps p.tables e below S s₂ ∧ s₂.status = .running ∧ Ended s₂ below o ∧ P o s₂
theorem OwnEnd.of {P : Outcome → State → Prop} (h : ∀ t, Steps p.tables e below S' t → Steps p.tables e below S t) (k : OwnEnd p e below P S') : OwnEnd p e below P S := by
  obtain ⟨s2, o, a, r⟩ := k; exact ⟨s2, o, h _ a, r⟩
theorem OwnEnd.tr {P : Outcome → State → Prop} (h : Steps p.tables e below S S') (k : OwnEnd p e below P S') : OwnEnd p e below P S := OwnEnd.of (fun _ q => h.trans q) k
theorem OwnEnd.start {P : Outcome → State → Prop} {n : Nat} {g' : JFrame} (h : entryFrame m args n = g') (k : OwnEnd p e below P (T.setTop g')) :
    ∃ s₂ o, Steps p.tables e below (T.setTop (entryFrame m args n)) s₂ ∧ s₂.status = .running ∧ Ended s₂ below o ∧ P o s₂ := by rw [h]; exact k
theorem OwnEnd.ret (X : Stand p l e R s m args below meth c T locs cells slots) {v : Option Value} (hv : meth.sig.returnType = none → v = none) (hlk : meth.locks = false)
    (st : ∀ fs, (∀ (f : JFrame) (acts : List Action), f.method = m → f.locked = none → f.entered = [] → (doReturn e (T.setTop f) acts v).1 = T.setFrames fs) → Steps p.tables e below S (T.setFrames fs))
    {k n : Nat} (hk : cells ≤ k) (hn : slots ≤ n) {Q : Option Value → Heap → List Loc → Prop} (eT : T.heap = h) (hq : Q v h locs) :
    OwnEnd p e below (fun o t => ∃ v L, o = .returned v ∧ Q v t.heap L ∧ FrameEnd s o t L k n) S := by
  obtain ⟨fs, hr, hrun, hended, hW, hsame⟩ := X.leave (v := v) hv hlk
  subst eT
  exact ⟨_, _, st fs hr, hrun, hended, v, locs, rfl, hq, ⟨_, rfl⟩, hW, hsame.mono hk hn⟩
theorem OwnEnd.retW {vm₁ : Vm} (X : Stand p l e R (s.setVm vm₁) m args below meth c T locs cells slots) {k0 : Nat} (hS : s.Since vm₁ k0) (hk0 : k0 ≤ Array.size h) {v : Option Value} (hv : meth.sig.returnType = none → v = none) (hlk : meth.locks = false)
    (st : ∀ fs, (∀ (f : JFrame) (acts : List Action), f.method = m → f.locked = none → f.entered = [] → (doReturn e (T.setTop f) acts v).1 = T.setFrames fs) → Steps p.tables e below S (T.setFrames fs))
    {k n : Nat} (hk : cells ≤ k) (hn : slots ≤ n) {Q : Option Value → Heap → List Loc → Prop} (eT : T.heap = h) (hq : Q v h locs) :
    OwnEnd p e below (fun o t => ∃ v L, o = .returned v ∧ Q v t.heap L ∧ ReturnedEndW s o t L k n) S := by
  subst eT
  obtain ⟨fs, hr, hrun, hended, hE⟩ := X.leaveW hS hk0 (v := v) hv hlk
  exact ⟨_, _, st fs hr, hrun, hended, v, locs, rfl, hq, hE.1, hE.2.1, hE.2.2.1, hE.2.2.2.mono hk hn⟩
theorem OwnEnd.retC {vm₁ : Vm} {EL : List (String × Nat)} {h0 : Heap} (hh : s.heap = h0) (hEL : EW Z a0 EL) (hZ : Z.Warmed39 vm₁) (X : Stand p l e R (s.setVm vm₁) m args below meth c T locs cells slots) {k0 : Nat} (hS : s.Since vm₁ k0) (hk0 : k0 ≤ Array.size h) {v : Option Value} (hv : meth.sig.returnType = none → v = none) (hlk : meth.locks = false)
    (st : ∀ fs, (∀ (f : JFrame) (acts : List Action), f.method = m → f.locked = none → f.entered = [] → (doReturn e (T.setTop f) acts v).1 = T.setFrames fs) → Steps p.tables e below S (T.setFrames fs))
    {k n : Nat} (hk : cells ≤ k) (hn : slots ≤ n) {Q : Option Value → Heap → List Loc → Prop} (eT : T.heap = h) (hR : CHr Z EL s.vm h0 vm₁ h) (hq : Q v h locs) :
    OwnEnd p e below (fun o t => ∃ v L, o = .returned v ∧ Q v t.heap L ∧ CHr Z EL s.vm s.heap t.vm t.heap ∧ ReturnedEndW s o t L k n) S := by
  subst eT hh
  obtain ⟨fs, hr, hrun, hended, hE⟩ := X.leaveW hS hk0 (v := v) hv hlk
  have q := CHv.at X hZ hEL hR.1
  exact ⟨_, _, st fs hr, hrun, hended, v, locs, rfl, hq, hR.trans q, hE.1, hE.2.1, hE.2.2.1, hE.2.2.2.mono hk hn⟩
theorem own_old_le {n0 : Nat} (O : Old Z n0 h) : n0 ≤ Array.size h := O.1 ▸ O.2.1
theorem own_wr_le {a : Addr} {sl : Nat} {v : Value} (W : Wr h h' a sl v) : Array.size h ≤ Array.size h' := Nat.le_of_eq W.size.symm
theorem own_ltN' {a n : Nat} (q : a < n) : @LT.lt Nat instLTNat a n := q
theorem own_ltB {a n : Nat} (q : @LT.lt Nat instLTNat a n) : a < n := q
theorem own_ne {a b : Nat} (q : @LT.lt Nat instLTNat a b ∨ @LT.lt Nat instLTNat b a) : a ≠ b := by rcases q with q | q <;> omega
theorem own_neN {a b : Nat} (q : a ≠ b) : @Ne Nat a b := q
theorem own_nin1 {a b : Addr} (h : a ≠ b) : a ∉ [b] := ninS h nin0
theorem own_nin2 {a b d : Addr} (h : a ≠ b) (h2 : a ≠ d) : a ∉ [b, d] := ninS h (own_nin1 h2)
theorem own_nin3 {a b d f : Addr} (h : a ≠ b) (h2 : a ≠ d) (h3 : a ≠ f) : a ∉ [b, d, f] := ninS h (own_nin2 h2 h3)
theorem own_all0 {P : Addr → Prop} : ∀ x ∈ ([] : List Addr), P x := all0
theorem own_all1 {P : Addr → Prop} {a : Addr} (h : P a) : ∀ x ∈ [a], P x := allS h all0
theorem own_all2 {P : Addr → Prop} {a b : Addr} (h : P a) (h2 : P b) : ∀ x ∈ [a, b], P x := allS h (own_all1 h2)
theorem own_all3 {P : Addr → Prop} {a b d : Addr} (h : P a) (h2 : P b) (h3 : P d) : ∀ x ∈ [a, b, d], P x := allS h (own_all2 h2 h3)
theorem own_cat1 {v : Value} (h : v.isRef = true) : v.category = 1 := by rcases ref_cases h with rfl | ⟨_, rfl⟩ <;> rfl
theorem own_fits_ref {v : Value} {t : FieldType} (h : v.isRef = true) (ht : t.isReference = true) : fits t v = true := by
  rcases ref_cases h with rfl | ⟨_, rfl⟩ <;> cases t <;> first | rfl | cases ht
theorem own_nar_ref {v : Value} {t : FieldType} (h : v.isRef = true) (ht : t.isReference = true) : narrow t v = v := by
  rcases ref_cases h with rfl | ⟨_, rfl⟩ <;> cases t <;> first | rfl | cases ht
theorem own_nar_cc (x : Int32) : nar .char (nar .char x) = nar .char x := by
  obtain ⟨h1, h2⟩ := rng_char (fits_nar_char x)
  have a := (c_i2c (nar .char x)); have b := c_i2c x
  have r := rng32 (nar .char x)
  apply Int32.toInt_inj.mp
  show (nar .char x).toUInt32.toUInt16.toUInt32.toInt32.toInt = (nar .char x).toInt
  have q1 : (nar .char x).toInt = x.toUInt32.toUInt16.toUInt32.toInt32.toInt := rfl
  omega
theorem own_c255 (x : Int32) : ¬ nar .char (x &&& (255 : Int32)) < 0 ∧ ¬ (255 : Int32) < nar .char (x &&& (255 : Int32)) := by
  have a := c_i2c (x &&& 255); have b := c_and x 255 (by decide)
  have q1 : (nar .char (x &&& 255)).toInt = (x &&& (255 : Int32)).toUInt32.toUInt16.toUInt32.toInt32.toInt := rfl
  have e0 : (0 : Int32).toInt = 0 := rfl
  have e2 : (255 : Int32).toInt = 255 := rfl
  rw [Int32.lt_iff_toInt_lt, Int32.lt_iff_toInt_lt]
  omega
theorem own_up (cs : List Int32) (h : ∀ c ∈ cs, ¬ c < 0 ∧ ¬ (255 : Int32) < c) : ∀ c ∈ cs, ¬ c < 0 ∧ ¬ (65535 : Int32) < c := fun c hc => ⟨(h c hc).1, fun q => (h c hc).2 (by rw [Int32.lt_iff_toInt_lt] at q ⊢; have e1 : (65535 : Int32).toInt = 65535 := rfl; have e2 : (255 : Int32).toInt = 255 := rfl; omega)⟩
end Own
def OwnG (Z : State) (a0 : Array Value) : Prop := (∀ d ∈ tables_1, d.before a0 Z = true) ∧ (∀ d ∈ jdkStatics_1, d.before a0 Z = true)
theorem own_w {Z : State} {a0 : Array Value} (G : OwnG Z a0) (i : Nat) {d : Jvm.Cond} (h : tables_1[i]? = some d) : d.before a0 Z = true := G.1 _ (List.mem_of_getElem? h)
abbrev own_m0 : MethodName := ⟨"java/lang/StringLatin1", "canEncode", "(C)Z"⟩
abbrev own_m1 : MethodName := ⟨"java/lang/StringLatin1", "toBytes", "(C)[B"⟩
abbrev own_m2 : MethodName := ⟨"java/lang/String", "<init>", "([BB)V"⟩
abbrev own_m3 : MethodName := ⟨"java/lang/String", "valueOf", "(C)Ljava/lang/String;"⟩
abbrev own_m4 : MethodName := ⟨"java/lang/String", "<init>", "([C)V"⟩
abbrev own_m5 : MethodName := ⟨"com/example/relfix/relfix/QualifiedNameQualifierPinLaw", "drawn", "(I)Ljava/lang/String;"⟩
abbrev own_m6 : MethodName := ⟨"java/lang/Record", "<init>", "()V"⟩
abbrev own_m7 : MethodName := ⟨"com/example/relfix/relfix/DatabaseTable$QualifiedName", "<init>", "(Ljava/lang/String;Ljava/lang/String;Ljava/lang/String;)V"⟩
abbrev own_m8 : MethodName := ⟨"com/example/relfix/relfix/DatabaseTable$QualifiedName", "qualifier", "()Ljava/lang/String;"⟩
abbrev own_m9 : MethodName := ⟨"com/example/relfix/relfix/DatabaseTable$QualifiedName", "sibling", "(Ljava/lang/String;Ljava/lang/String;)Lcom/example/relfix/relfix/DatabaseTable$QualifiedName;"⟩
theorem own_cs {Z : State} {a0 : Array Value} (G : OwnG Z a0) : ∃ z : Int32, Sta Z Z.heap "java/lang/String" "COMPACT_STRINGS" "Z" (.int z) ∧ ¬ z = (0 : Int32) := by
  have hs := G.2
  obtain ⟨i, e⟩ := is_v (Cond.before_iff.mp (hs _ (List.mem_of_getElem? (i := 1) rfl)))
  have n5 := not_v (Cond.before_iff.mp (hs _ (List.mem_of_getElem? (i := 2) rfl)))
  exact ⟨i, Sta.start e (Or.inl (hs _ (List.mem_of_getElem? (i := 0) rfl))), gotF (Cond.eq_ints e (Term.int_eval (0))) n5⟩
theorem own_words : ∀ d ∈ StrChars.Road.words, d ∈ tables_1 := by decide +kernel
theorem own_hp2 (x y : Int32) : ∀ c ∈ ([nar .char (nar .char (x &&& (255 : Int32))), nar .char (nar .char (y &&& (255 : Int32)))] : List Int32), ¬ c < 0 ∧ ¬ (255 : Int32) < c := by
  intro c hc
  simp only [List.mem_cons, List.not_mem_nil, or_false] at hc
  rcases hc with rfl | rfl <;> rw [own_nar_cc] <;> exact own_c255 _
theorem d0_0 : decode jdk_43_method_3_code 0 = .ok (.iload_n 0, 1) := by decide +kernel
theorem d0_1 : decode jdk_43_method_3_code 1 = .ok (.sipush 255, 3) := by decide +kernel
theorem d0_4 : decode jdk_43_method_3_code 4 = .ok (.if_icmp .gt 7, 3) := by decide +kernel
theorem d0_7 : decode jdk_43_method_3_code 7 = .ok (.iconst 1, 1) := by decide +kernel
theorem d0_8 : decode jdk_43_method_3_code 8 = .ok (.goto 4, 3) := by decide +kernel
theorem d0_12 : decode jdk_43_method_3_code 12 = .ok (.ireturn, 1) := by decide +kernel
theorem pn_0 : plainName "java/lang/StringLatin1" = true := by first | (simp [plainName, overriddenIn]; done) | decide +kernel
theorem d1_0 : decode jdk_43_method_46_code 0 = .ok (.iconst 1, 1) := by decide +kernel
theorem d1_1 : decode jdk_43_method_46_code 1 = .ok (.newarray .byte, 2) := by decide +kernel
theorem d1_3 : decode jdk_43_method_46_code 3 = .ok (.dup, 1) := by decide +kernel
theorem d1_4 : decode jdk_43_method_46_code 4 = .ok (.iconst 0, 1) := by decide +kernel
theorem d1_5 : decode jdk_43_method_46_code 5 = .ok (.iload_n 0, 1) := by decide +kernel
theorem d1_6 : decode jdk_43_method_46_code 6 = .ok (.i2b, 1) := by decide +kernel
theorem d1_7 : decode jdk_43_method_46_code 7 = .ok (.bastore, 1) := by decide +kernel
theorem d1_8 : decode jdk_43_method_46_code 8 = .ok (.areturn, 1) := by decide +kernel
theorem d2_0 : decode jdk_42_method_151_code 0 = .ok (.aload_n 0, 1) := by decide +kernel
theorem d2_1 : decode jdk_42_method_151_code 1 = .ok (.invokespecial 1, 3) := by decide +kernel
theorem d2_4 : decode jdk_42_method_151_code 4 = .ok (.aload_n 0, 1) := by decide +kernel
theorem d2_5 : decode jdk_42_method_151_code 5 = .ok (.aload_n 1, 1) := by decide +kernel
theorem d2_6 : decode jdk_42_method_151_code 6 = .ok (.putfield 9, 3) := by decide +kernel
theorem d2_9 : decode jdk_42_method_151_code 9 = .ok (.aload_n 0, 1) := by decide +kernel
theorem d2_10 : decode jdk_42_method_151_code 10 = .ok (.iload_n 2, 1) := by decide +kernel
theorem d2_11 : decode jdk_42_method_151_code 11 = .ok (.putfield 15, 3) := by decide +kernel
theorem d2_14 : decode jdk_42_method_151_code 14 = .ok (.return_, 1) := by decide +kernel
theorem pn_1 : plainName "java/lang/String" = true := by first | (simp [plainName, overriddenIn]; done) | decide +kernel
theorem d3_0 : decode jdk_42_method_139_code 0 = .ok (.getstatic 38, 3) := by decide +kernel
theorem d3_3 : decode jdk_42_method_139_code 3 = .ok (.ifCond .eq 23, 3) := by decide +kernel
theorem d3_6 : decode jdk_42_method_139_code 6 = .ok (.iload_n 0, 1) := by decide +kernel
theorem d3_7 : decode jdk_42_method_139_code 7 = .ok (.invokestatic 1015, 3) := by decide +kernel
theorem pd_0 : parseMethodDescriptor "(C)Z" = some ⟨[.char], some .boolean⟩ := by decide +kernel
theorem d3_10 : decode jdk_42_method_139_code 10 = .ok (.ifCond .eq 16, 3) := by decide +kernel
theorem d3_13 : decode jdk_42_method_139_code 13 = .ok (.new 10, 3) := by decide +kernel
theorem d3_16 : decode jdk_42_method_139_code 16 = .ok (.dup, 1) := by decide +kernel
theorem d3_17 : decode jdk_42_method_139_code 17 = .ok (.iload_n 0, 1) := by decide +kernel
theorem d3_18 : decode jdk_42_method_139_code 18 = .ok (.invokestatic 1018, 3) := by decide +kernel
theorem pd_1 : parseMethodDescriptor "(C)[B" = some ⟨[.char], some (.array .byte)⟩ := by decide +kernel
theorem d3_21 : decode jdk_42_method_139_code 21 = .ok (.iconst 0, 1) := by decide +kernel
theorem d3_22 : decode jdk_42_method_139_code 22 = .ok (.invokespecial 209, 3) := by decide +kernel
theorem pd_2 : parseMethodDescriptor "([BB)V" = some ⟨[(.array .byte), .byte], none⟩ := by decide +kernel
theorem d3_25 : decode jdk_42_method_139_code 25 = .ok (.areturn, 1) := by decide +kernel
theorem d4_0 : decode method_2_code 0 = .ok (.new 7, 3) := by decide +kernel
theorem d4_3 : decode method_2_code 3 = .ok (.dup, 1) := by decide +kernel
theorem d4_4 : decode method_2_code 4 = .ok (.iconst 2, 1) := by decide +kernel
theorem d4_5 : decode method_2_code 5 = .ok (.newarray .char, 2) := by decide +kernel
theorem d4_7 : decode method_2_code 7 = .ok (.dup, 1) := by decide +kernel
theorem d4_8 : decode method_2_code 8 = .ok (.iconst 0, 1) := by decide +kernel
theorem d4_9 : decode method_2_code 9 = .ok (.iload_n 0, 1) := by decide +kernel
theorem d4_10 : decode method_2_code 10 = .ok (.sipush 255, 3) := by decide +kernel
theorem d4_13 : decode method_2_code 13 = .ok (.iand, 1) := by decide +kernel
theorem d4_14 : decode method_2_code 14 = .ok (.i2c, 1) := by decide +kernel
theorem d4_15 : decode method_2_code 15 = .ok (.castore, 1) := by decide +kernel
theorem d4_16 : decode method_2_code 16 = .ok (.dup, 1) := by decide +kernel
theorem d4_17 : decode method_2_code 17 = .ok (.iconst 1, 1) := by decide +kernel
theorem d4_18 : decode method_2_code 18 = .ok (.iload_n 0, 1) := by decide +kernel
theorem d4_19 : decode method_2_code 19 = .ok (.bipush 8, 2) := by decide +kernel
theorem d4_21 : decode method_2_code 21 = .ok (.iushr, 1) := by decide +kernel
theorem d4_22 : decode method_2_code 22 = .ok (.sipush 255, 3) := by decide +kernel
theorem d4_25 : decode method_2_code 25 = .ok (.iand, 1) := by decide +kernel
theorem d4_26 : decode method_2_code 26 = .ok (.i2c, 1) := by decide +kernel
theorem d4_27 : decode method_2_code 27 = .ok (.castore, 1) := by decide +kernel
theorem d4_28 : decode method_2_code 28 = .ok (.invokespecial 9, 3) := by decide +kernel
theorem pd_3 : parseMethodDescriptor "([C)V" = some ⟨[(.array .char)], none⟩ := by decide +kernel
theorem d4_31 : decode method_2_code 31 = .ok (.areturn, 1) := by decide +kernel
theorem pn_2 : plainName "com/example/relfix/relfix/QualifiedNameQualifierPinLaw" = true := by first | (simp [plainName, overriddenIn]; done) | decide +kernel
theorem d5_0 : decode jdk_30_method_1_code 0 = .ok (.aload_n 0, 1) := by decide +kernel
theorem d5_1 : decode jdk_30_method_1_code 1 = .ok (.invokespecial 1, 3) := by decide +kernel
theorem d5_4 : decode jdk_30_method_1_code 4 = .ok (.return_, 1) := by decide +kernel
theorem pn_3 : plainName "java/lang/Record" = true := by first | (simp [plainName, overriddenIn]; done) | decide +kernel
theorem d6_0 : decode prog_37_method_1_code 0 = .ok (.aload_n 0, 1) := by decide +kernel
theorem d6_1 : decode prog_37_method_1_code 1 = .ok (.invokespecial 1, 3) := by decide +kernel
theorem pd_4 : parseMethodDescriptor "()V" = some ⟨[], none⟩ := by decide +kernel
theorem d6_4 : decode prog_37_method_1_code 4 = .ok (.aload_n 0, 1) := by decide +kernel
theorem d6_5 : decode prog_37_method_1_code 5 = .ok (.aload_n 1, 1) := by decide +kernel
theorem d6_6 : decode prog_37_method_1_code 6 = .ok (.putfield 7, 3) := by decide +kernel
theorem d6_9 : decode prog_37_method_1_code 9 = .ok (.aload_n 0, 1) := by decide +kernel
theorem d6_10 : decode prog_37_method_1_code 10 = .ok (.aload_n 2, 1) := by decide +kernel
theorem d6_11 : decode prog_37_method_1_code 11 = .ok (.putfield 13, 3) := by decide +kernel
theorem d6_14 : decode prog_37_method_1_code 14 = .ok (.aload_n 0, 1) := by decide +kernel
theorem d6_15 : decode prog_37_method_1_code 15 = .ok (.aload_n 3, 1) := by decide +kernel
theorem d6_16 : decode prog_37_method_1_code 16 = .ok (.putfield 16, 3) := by decide +kernel
theorem d6_19 : decode prog_37_method_1_code 19 = .ok (.return_, 1) := by decide +kernel
theorem pn_4 : plainName "com/example/relfix/relfix/DatabaseTable$QualifiedName" = true := by first | (simp [plainName, overriddenIn]; done) | decide +kernel
theorem d7_0 : decode prog_37_method_2_code 0 = .ok (.aload_n 0, 1) := by decide +kernel
theorem d7_1 : decode prog_37_method_2_code 1 = .ok (.getfield 13, 3) := by decide +kernel
theorem d7_4 : decode prog_37_method_2_code 4 = .ok (.ifnull 10, 3) := by decide +kernel
theorem d7_14 : decode prog_37_method_2_code 14 = .ok (.aload_n 0, 1) := by decide +kernel
theorem d7_15 : decode prog_37_method_2_code 15 = .ok (.getfield 7, 3) := by decide +kernel
theorem d7_18 : decode prog_37_method_2_code 18 = .ok (.areturn, 1) := by decide +kernel
theorem d7_7 : decode prog_37_method_2_code 7 = .ok (.aload_n 0, 1) := by decide +kernel
theorem d7_8 : decode prog_37_method_2_code 8 = .ok (.getfield 13, 3) := by decide +kernel
theorem d7_11 : decode prog_37_method_2_code 11 = .ok (.goto 7, 3) := by decide +kernel
theorem d8_0 : decode prog_37_method_3_code 0 = .ok (.aload_n 0, 1) := by decide +kernel
theorem d8_1 : decode prog_37_method_3_code 1 = .ok (.getfield 13, 3) := by decide +kernel
theorem d8_4 : decode prog_37_method_3_code 4 = .ok (.ifnull 19, 3) := by decide +kernel
theorem d8_23 : decode prog_37_method_3_code 23 = .ok (.new 8, 3) := by decide +kernel
theorem d8_26 : decode prog_37_method_3_code 26 = .ok (.dup, 1) := by decide +kernel
theorem d8_27 : decode prog_37_method_3_code 27 = .ok (.aload_n 1, 1) := by decide +kernel
theorem d8_28 : decode prog_37_method_3_code 28 = .ok (.aconst_null, 1) := by decide +kernel
theorem d8_29 : decode prog_37_method_3_code 29 = .ok (.aload_n 2, 1) := by decide +kernel
theorem d8_30 : decode prog_37_method_3_code 30 = .ok (.invokespecial 19, 3) := by decide +kernel
theorem pd_5 : parseMethodDescriptor "(Ljava/lang/String;Ljava/lang/String;Ljava/lang/String;)V" = some ⟨[(.object "java/lang/String"), (.object "java/lang/String"), (.object "java/lang/String")], none⟩ := by decide +kernel
theorem d8_33 : decode prog_37_method_3_code 33 = .ok (.areturn, 1) := by decide +kernel
theorem d8_7 : decode prog_37_method_3_code 7 = .ok (.new 8, 3) := by decide +kernel
theorem d8_10 : decode prog_37_method_3_code 10 = .ok (.dup, 1) := by decide +kernel
theorem d8_11 : decode prog_37_method_3_code 11 = .ok (.aload_n 0, 1) := by decide +kernel
theorem d8_12 : decode prog_37_method_3_code 12 = .ok (.getfield 7, 3) := by decide +kernel
theorem d8_15 : decode prog_37_method_3_code 15 = .ok (.aload_n 1, 1) := by decide +kernel
theorem d8_16 : decode prog_37_method_3_code 16 = .ok (.aload_n 2, 1) := by decide +kernel
theorem d8_17 : decode prog_37_method_3_code 17 = .ok (.invokespecial 19, 3) := by decide +kernel
theorem d8_20 : decode prog_37_method_3_code 20 = .ok (.goto 13, 3) := by decide +kernel
theorem pd_6 : parseMethodDescriptor "(I)Ljava/lang/String;" = some ⟨[.int], some (.object "java/lang/String")⟩ := by decide +kernel
theorem pd_7 : parseMethodDescriptor "(C)Ljava/lang/String;" = some ⟨[.char], some (.object "java/lang/String")⟩ := by decide +kernel
theorem pd_8 : parseMethodDescriptor "()Ljava/lang/String;" = some ⟨[], some (.object "java/lang/String")⟩ := by decide +kernel
theorem pd_9 : parseMethodDescriptor "(Ljava/lang/String;Ljava/lang/String;)Lcom/example/relfix/relfix/DatabaseTable$QualifiedName;" = some ⟨[(.object "java/lang/String"), (.object "java/lang/String")], some (.object "com/example/relfix/relfix/DatabaseTable$QualifiedName")⟩ := by decide +kernel
theorem own_efce (m : MethodId) (p1 : Int32) : entryFrame m #[(.int p1)] 1 = mkF m 0 #[.val (.int p1)] [] := by first | (simp [entryFrame, mkF, argsToLocals, Value.category]; done) | rfl
def Qce (Z : State) (p1 : Int32) (h0 : Heap) (n0 : Nat) (v : Option Value) (h : Heap) (L : List Loc) : Prop := v = some (.int (1 : Int32)) ∧ Fr n0 L ∧ h = h0
set_option maxRecDepth 65536 in
set_option maxHeartbeats 40000000 in
theorem rmce (l : Launch) (Z : State) (a0 : Array Value) (G : OwnG Z a0) (ws : List Jvm.Cond) (p1 : Int32) (h0 : Heap) (n0 : Nat) (O0 : Old Z n0 h0) (P0 : ¬ (255 : Int32) < p1) :
    MetFree l own_m0 (head1 (Jvm.Cond.code own_m0 jdk_43_method_3_code 1 (some .boolean) :: ws) ({ frames := 0, cells := 0, slots := 0, locals := 0 } : Room)) (fun a U => a = #[(.int p1)] ∧ Z.Warmed39 U.vm ∧ U.heap = h0) (fun _ _ _ _ _ => True) (fun _ U o U' => ∃ v L, o = .returned v ∧ Qce Z p1 h0 n0 v U'.heap L ∧ FrameEnd U o U' L ({ frames := 0, cells := 0, slots := 0, locals := 0 } : Room).cells ({ frames := 0, cells := 0, slots := 0, locals := 0 } : Room).slots) := by
  refine MetFree.of_bodySF (plainFor_of_name pn_0) hisR ?_
  intro p e s m args below meth c s₁ Bd hml0 hP hK
  obtain ⟨rfl, hZ, hh⟩ := hP
  have hw := G.1
  have hx := Bd.exec
  have hby := Bd.bytes
  have hml : c.maxLocals = 1 := hml0
  have hown : s.vm.findClass "java/lang/StringLatin1" = some m.cls := findClass_of_methodNamed Bd.named
  have hnm := (name_of_methodNamed Bd.named Bd.method).1
  have hlk := Bd.notSynchronized
  have X0 : Stand p l e ({ frames := 0, cells := 0, slots := 0, locals := 0 } : Room) s m #[(.int p1)] below meth c s₁ [] 0 0 := Stand.of_body Bd
  have e0 : s₁.heap = h0 := by rw [← hh, Bd.state]; rfl
  have K0 : Keep h0 h0 [] := Keep.refl h0 _
  have Z0 := own_old_le O0
  have N0 := Fr.nil n0
  refine OwnEnd.start (g' := (mkF m 0 #[.val (.int p1)] [])) (own_efce m p1) ?_
  refine OwnEnd.of (S' := s₁.setTop (mkF m 12 #[.val (.int p1)] [(.int (1 : Int32))])) (fun _ k => XS.iloadN X0.here hx rfl (hb hby d0_0) rfl (XS.sipush X0.here hx rfl (hb hby d0_1) (XS.icmpNo X0.here hx rfl (hb hby d0_4) rfl (flt (P0)).2.2.1 (XS.iconst X0.here hx rfl (hb hby d0_7) (XS.goto X0.here hx rfl (pc0 := 8) (pc' := 12) rfl (hb hby d0_8) (by decide) (by decide) k))))) ?_
  refine OwnEnd.ret X0 (v := (some (.int (nar .boolean (1 : Int32))))) (fun h => by rw [Bd.returns] at h; cases h) hlk (fun fs hr => retN X0 hx (t := .boolean) Bd.returns (by simp) (hb hby d0_12) hr) (by decide) (by decide) (Q := Qce Z p1 h0 n0) e0 ?_
  exact ⟨rfl, N0, rfl⟩

theorem own_eftb (m : MethodId) (p1 : Int32) : entryFrame m #[(.int p1)] 1 = mkF m 0 #[.val (.int p1)] [] := by first | (simp [entryFrame, mkF, argsToLocals, Value.category]; done) | rfl
def Qtb (Z : State) (p1 : Int32) (h0 : Heap) (n0 : Nat) (v : Option Value) (h : Heap) (L : List Loc) : Prop := ∃ (t : Addr) (kb : ClassId), v = some (.ref t) ∧ Fr n0 L ∧ Keep h0 h [] ∧ (Arv Z h t kb .byte (1 : Int32) [(.int (nar .byte (nar .byte p1)))] (.int (0 : Int32))) ∧ (Array.size h0 ≤ t)
set_option maxRecDepth 65536 in
set_option maxHeartbeats 40000000 in
theorem rmtb (l : Launch) (Z : State) (a0 : Array Value) (G : OwnG Z a0) (ws : List Jvm.Cond) (p1 : Int32) (h0 : Heap) (n0 : Nat) (O0 : Old Z n0 h0)  :
    MetFree l own_m1 (head1 (Jvm.Cond.code own_m1 jdk_43_method_46_code 1 (some (.array .byte)) :: ws) ({ frames := 0, cells := 1, slots := 1, locals := 0 } : Room)) (fun a U => a = #[(.int p1)] ∧ Z.Warmed39 U.vm ∧ U.heap = h0) (fun _ _ _ _ _ => True) (fun _ U o U' => ∃ v L, o = .returned v ∧ Qtb Z p1 h0 n0 v U'.heap L ∧ FrameEnd U o U' L ({ frames := 0, cells := 1, slots := 1, locals := 0 } : Room).cells ({ frames := 0, cells := 1, slots := 1, locals := 0 } : Room).slots) := by
  refine MetFree.of_bodySF (plainFor_of_name pn_0) hisR ?_
  intro p e s m args below meth c s₁ Bd hml0 hP hK
  obtain ⟨rfl, hZ, hh⟩ := hP
  have hw := G.1
  have hx := Bd.exec
  have hby := Bd.bytes
  have hml : c.maxLocals = 1 := hml0
  have hown : s.vm.findClass "java/lang/StringLatin1" = some m.cls := findClass_of_methodNamed Bd.named
  have hnm := (name_of_methodNamed Bd.named Bd.method).1
  have hlk := Bd.notSynchronized
  have X0 : Stand p l e ({ frames := 0, cells := 1, slots := 1, locals := 0 } : Room) s m #[(.int p1)] below meth c s₁ [] 0 0 := Stand.of_body Bd
  have e0 : s₁.heap = h0 := by rw [← hh, Bd.state]; rfl
  have K0 : Keep h0 h0 [] := Keep.refl h0 _
  have Z0 := own_old_le O0
  have N0 := Fr.nil n0
  refine OwnEnd.start (g' := (mkF m 0 #[.val (.int p1)] [])) (own_eftb m p1) ?_
  refine OwnEnd.of (S' := s₁.setTop (mkF m 1 #[.val (.int p1)] [(.int (1 : Int32))])) (fun _ k => XS.iconst X0.here hx rfl (hb hby d1_0) k) ?_
  obtain ⟨T1, h1, k1, X1, e1, E1, A1, st1⟩ := newP X0 hx hZ (own_w G 23 rfl) e0 (g := (mkF m 1 #[.val (.int p1)] [(.int (1 : Int32))])) rfl (hb hby d1_1) rfl (by decide) (cap := 1) (by decide) (by decide) (by decide) (by decide)
  obtain ⟨b1, g1⟩ : ∃ z, z = Array.size h0 := ⟨_, rfl⟩
  rw [← g1] at A1 st1
  have lt_b1 := own_ltN' A1.lt
  have sz2 := E1.1
  have K2 := K0.ext E1
  have O2 := O0.ext E1
  have V1 : Arv Z h1 b1 k1 .byte (1 : Int32) [(.int (0 : Int32))] (.int (0 : Int32)) := (Arv.new A1 (by decide)).pad (pad_rep [] (.int (0 : Int32)) 1)
  refine OwnEnd.of (S' := T1.setTop (mkF m 3 #[.val (.int p1)] [(.ref b1)])) st1 ?_
  refine OwnEnd.of (S' := T1.setTop (mkF m 7 #[.val (.int p1)] [(.int (nar .byte p1)), (.int (0 : Int32)), (.ref b1), (.ref b1)])) (fun _ k => XS.dup X1.here hx rfl (hb hby d1_3) rfl rfl (XS.iconst X1.here hx rfl (hb hby d1_4) (XS.iloadN X1.here hx rfl (hb hby d1_5) rfl (XS.i2b X1.here hx rfl (hb hby d1_6) rfl k)))) ?_
  obtain ⟨cl3, Ar3, q3, S3, N3', H3, G3⟩ := id V1
  have hin4 : ¬ ((0 : Int32) < 0 ∨ cl3.slots.size ≤ ((0 : Int32)).toNatClampNeg) := inb_of S3 ⟨by decide, by decide⟩
  obtain ⟨T4, h4, X4, e4, W4, st4⟩ := stB X1 hx hZ e1 Ar3 (j := (0 : Int32)) hin4 (g := (mkF m 7 #[.val (.int p1)] [(.int (nar .byte p1)), (.int (0 : Int32)), (.ref b1), (.ref b1)])) rfl rfl (hb hby d1_7)
  have N4 := Fr.snoc X4 N0 (by omega)
  have sz5 := own_wr_le W4
  have K5 := K2.wr W4 (Or.inr (by omega))
  have O5 := O2.wr W4 (by omega)
  have V4 : Arv Z h4 b1 k1 .byte (1 : Int32) [(.int (nar .byte (nar .byte p1)))] (.int (0 : Int32)) := Arv.set Ar3 q3 S3 N3' H3 G3 (fits_nar_byte _) W4 0 rfl (Nat.le_of_ble_eq_true rfl)
  refine OwnEnd.of (S' := T4.setTop (mkF m 8 #[.val (.int p1)] [(.ref b1)])) st4 ?_
  refine OwnEnd.ret X4 (v := (some (.ref b1))) (fun h => by rw [Bd.returns] at h; cases h) hlk (fun fs hr => retOut X4 hx Bd.returns rfl (Or.inr (Or.inr (Or.inr (Or.inr ⟨rfl, rfl, rfl⟩)))) (hb hby d1_8) hr) (by decide) (by decide) (Q := Qtb Z p1 h0 n0) e4 ?_
  exact ⟨b1, k1, rfl, N4, K5, V4, (by omega)⟩

theorem own_efsb (m : MethodId) (x0 : Addr) (t : Addr) (p2 : Int32) : entryFrame m #[(.ref x0), (.ref t), (.int p2)] 3 = mkF m 0 #[.val (.ref x0), .val (.ref t), .val (.int p2)] [] := by first | (simp [entryFrame, mkF, argsToLocals, Value.category]; done) | rfl
def Qsb (Z : State) (x0 : Addr) (t : Addr) (p2 : Int32) (v0 : Value) (c0 : Value) (h0 : Heap) (n0 : Nat) (v : Option Value) (h : Heap) (L : List Loc) : Prop := v = none ∧ Fr n0 L ∧ Keep h0 h [x0] ∧ (Exa Z h x0 "java/lang/String") ∧ (Fld Z h x0 "java/lang/String" "value" "[B" (.ref t)) ∧ (Fld Z h x0 "java/lang/String" "coder" "B" (.int (nar .byte p2)))
set_option maxRecDepth 65536 in
set_option maxHeartbeats 40000000 in
theorem rmsb (l : Launch) (Z : State) (a0 : Array Value) (G : OwnG Z a0) (ws : List Jvm.Cond) (x0 : Addr) (t : Addr) (p2 : Int32) (v0 : Value) (c0 : Value) (h0 : Heap) (n0 : Nat) (O0 : Old Z n0 h0) (P0 : Exa Z h0 x0 "java/lang/String") (P1 : Fld Z h0 x0 "java/lang/String" "value" "[B" v0) (P2 : Fld Z h0 x0 "java/lang/String" "coder" "B" c0) (P3 : n0 ≤ x0) :
    MetFree l own_m2 (head1 (Jvm.Cond.code own_m2 jdk_42_method_151_code 3 none :: ws) ({ frames := 1, cells := 0, slots := 0, locals := 12 } : Room)) (fun a U => a = #[(.ref x0), (.ref t), (.int p2)] ∧ Z.Warmed39 U.vm ∧ U.heap = h0) (fun _ _ _ _ _ => True) (fun _ U o U' => ∃ v L, o = .returned v ∧ Qsb Z x0 t p2 v0 c0 h0 n0 v U'.heap L ∧ FrameEnd U o U' L ({ frames := 1, cells := 0, slots := 0, locals := 12 } : Room).cells ({ frames := 1, cells := 0, slots := 0, locals := 12 } : Room).slots) := by
  refine MetFree.of_bodySF (plainFor_of_name pn_1) hisR ?_
  intro p e s m args below meth c s₁ Bd hml0 hP hK
  obtain ⟨rfl, hZ, hh⟩ := hP
  have hw := G.1
  have hx := Bd.exec
  have hby := Bd.bytes
  have hml : c.maxLocals = 3 := hml0
  have hown : s.vm.findClass "java/lang/String" = some m.cls := findClass_of_methodNamed Bd.named
  have hnm := (name_of_methodNamed Bd.named Bd.method).1
  have hlk := Bd.notSynchronized
  have X0 : Stand p l e ({ frames := 1, cells := 0, slots := 0, locals := 12 } : Room) s m #[(.ref x0), (.ref t), (.int p2)] below meth c s₁ [] 0 0 := Stand.of_body Bd
  have e0 : s₁.heap = h0 := by rw [← hh, Bd.state]; rfl
  have lt0 := own_ltN' P0.lt
  have lt1 := own_ltN' P1.lt
  have lt2 := own_ltN' P2.lt
  have K0 : Keep h0 h0 [x0] := Keep.refl h0 _
  have Z0 := own_old_le O0
  have N0 := Fr.nil n0
  refine OwnEnd.start (g' := (mkF m 0 #[.val (.ref x0), .val (.ref t), .val (.int p2)] [])) (own_efsb m x0 t p2) ?_
  refine OwnEnd.of (S' := s₁.setTop (mkF m 1 #[.val (.ref x0), .val (.ref t), .val (.int p2)] [(.ref x0)])) (fun _ k => XS.aloadN X0.here hx rfl (hb hby d2_0) rfl rfl k) ?_
  obtain ⟨T1, X1, e1, st1⟩ := initO X0 hx hZ hown (own_w G 15 rfl) (own_w G 16 rfl) (own_w G 17 rfl) e0 (g := (mkF m 1 #[.val (.ref x0), .val (.ref t), .val (.int p2)] [(.ref x0)])) rfl (by rw [hml]; rfl) rfl (hb hby d2_1) (by decide) (W := 0) (by show 2 * 0 + _ ≤ _; exact Nat.le_of_eq rfl) (by decide)
  refine OwnEnd.of (S' := T1.setTop (mkF m 4 #[.val (.ref x0), .val (.ref t), .val (.int p2)] [])) st1 ?_
  refine OwnEnd.of (S' := T1.setTop (mkF m 6 #[.val (.ref x0), .val (.ref t), .val (.int p2)] [(.ref t), (.ref x0)])) (fun _ k => XS.aloadN X1.here hx rfl (hb hby d2_4) rfl rfl (XS.aloadN X1.here hx rfl (hb hby d2_5) rfl rfl k)) ?_
  obtain ⟨T2, h2, X2, e2, W2, st2⟩ := putF X1 hx hZ hown (host := "") (Or.inl (own_w G 32 rfl)) Via.refl e1 P1 P0 (Or.inr ⟨(own_w G 33 rfl), rfl, hnm⟩) (own_w G 5 rfl) (ty := (.array .byte)) (by decide) rfl rfl (g := (mkF m 6 #[.val (.ref x0), .val (.ref t), .val (.int p2)] [(.ref t), (.ref x0)])) rfl rfl (hb hby d2_6)
  have Fw2 := P1.same W2
  have N2 := Fr.snoc X2 N0 (by omega)
  have sz3 := own_wr_le W2
  have K3 := K0.wr W2 (Or.inl (by simp))
  have O3 := O0.wr W2 (by omega)
  refine OwnEnd.of (S' := T2.setTop (mkF m 9 #[.val (.ref x0), .val (.ref t), .val (.int p2)] [])) st2 ?_
  refine OwnEnd.of (S' := T2.setTop (mkF m 11 #[.val (.ref x0), .val (.ref t), .val (.int p2)] [(.int p2), (.ref x0)])) (fun _ k => XS.aloadN X2.here hx rfl (hb hby d2_9) rfl rfl (XS.iloadN X2.here hx rfl (hb hby d2_10) rfl k)) ?_
  have f5 : Fld Z h2 x0 "java/lang/String" "coder" "B" c0 := (P2.other W2 (Or.inr (slot_ne (Or.inr (own_w G 31 rfl)) (Or.inr (own_w G 33 rfl)) (by decide) (t := .byte) (t' := (.array .byte)) (by decide) (by decide))))
  have f6 : Exa Z h2 x0 "java/lang/String" := (P0.wr W2)
  obtain ⟨T4, h4, X4, e4, W4, st4⟩ := putFN X2 hx hZ hown (own_w G 30 rfl) Via.refl e2 f5 f6 (Or.inr ⟨(own_w G 31 rfl), rfl, hnm⟩) (own_w G 5 rfl) (ty := .byte) (v' := (.int (nar .byte p2))) (by decide) rfl (fits_nar_byte _) (g := (mkF m 11 #[.val (.ref x0), .val (.ref t), .val (.int p2)] [(.int p2), (.ref x0)])) rfl rfl (hb hby d2_11)
  have Fw4 := f5.same W4
  have N4 := Fr.snoc X4 N2 (by omega)
  have sz7 := own_wr_le W4
  have K7 := K3.wr W4 (Or.inl (by simp))
  have O7 := O3.wr W4 (by omega)
  refine OwnEnd.of (S' := T4.setTop (mkF m 14 #[.val (.ref x0), .val (.ref t), .val (.int p2)] [])) st4 ?_
  have f8 : Exa Z h4 x0 "java/lang/String" := (f6.wr W4)
  have f9 : Fld Z h4 x0 "java/lang/String" "value" "[B" (.ref t) := (Fw2.other W4 (Or.inr (slot_ne (Or.inr (own_w G 33 rfl)) (Or.inr (own_w G 31 rfl)) (by decide) (t := (.array .byte)) (t' := .byte) (by decide) (by decide))))
  refine OwnEnd.ret X4 (v := none) (fun _ => rfl) hlk (fun fs hr => X4.returnOut hx Bd.returns (hb hby d2_14) hr) (by decide) (by decide) (Q := Qsb Z x0 t p2 v0 c0 h0 n0) e4 ?_
  exact ⟨rfl, N4, K7, f8, f9, Fw4⟩

theorem own_efvo (m : MethodId) (p1 : Int32) : entryFrame m #[(.int p1)] 1 = mkF m 0 #[.val (.int p1)] [] := by first | (simp [entryFrame, mkF, argsToLocals, Value.category]; done) | rfl
def Qvo (Z : State) (p1 : Int32) (h0 : Heap) (n0 : Nat) (v : Option Value) (h : Heap) (L : List Loc) : Prop := ∃ (x : Addr), v = some (.ref x) ∧ Fr n0 L ∧ Keep h0 h [] ∧ (Exa Z h x "java/lang/String") ∧ (Array.size h0 ≤ x)
set_option maxRecDepth 65536 in
set_option maxHeartbeats 40000000 in
theorem rmvo (l : Launch) (Z : State) (a0 : Array Value) (G : OwnG Z a0) (ws : List Jvm.Cond) (p1 : Int32) (h0 : Heap) (n0 : Nat) (O0 : Old Z n0 h0) (P0 : ¬ (255 : Int32) < p1) :
    MetFree l own_m3 (head1 (Jvm.Cond.code own_m3 jdk_42_method_139_code 1 (some (.object "java/lang/String")) :: ws) ({ frames := 2, cells := 2, slots := 5, locals := 27 } : Room)) (fun a U => a = #[(.int p1)] ∧ Z.Warmed39 U.vm ∧ U.heap = h0) (fun _ _ _ _ _ => True) (fun _ U o U' => ∃ v L, o = .returned v ∧ Qvo Z p1 h0 n0 v U'.heap L ∧ FrameEnd U o U' L ({ frames := 2, cells := 2, slots := 5, locals := 27 } : Room).cells ({ frames := 2, cells := 2, slots := 5, locals := 27 } : Room).slots) := by
  refine MetFree.of_bodySF (plainFor_of_name pn_1) hisR ?_
  intro p e s m args below meth c s₁ Bd hml0 hP hK
  obtain ⟨rfl, hZ, hh⟩ := hP
  have hw := G.1
  have hx := Bd.exec
  have hby := Bd.bytes
  have hml : c.maxLocals = 1 := hml0
  have hown : s.vm.findClass "java/lang/String" = some m.cls := findClass_of_methodNamed Bd.named
  have hnm := (name_of_methodNamed Bd.named Bd.method).1
  have hlk := Bd.notSynchronized
  have X0 : Stand p l e ({ frames := 2, cells := 2, slots := 5, locals := 27 } : Room) s m #[(.int p1)] below meth c s₁ [] 0 0 := Stand.of_body Bd
  have e0 : s₁.heap = h0 := by rw [← hh, Bd.state]; rfl
  have K0 : Keep h0 h0 [] := Keep.refl h0 _
  have Z0 := own_old_le O0
  have N0 := Fr.nil n0
  obtain ⟨zCS, SCS, PCS⟩ := own_cs G
  refine OwnEnd.start (g' := (mkF m 0 #[.val (.int p1)] [])) (own_efvo m p1) ?_
  obtain ⟨T1, X1, e1, st1⟩ := getS2 X0 hx hZ hown (host := "") (Or.inl (own_w G 18 rfl)) Via.refl e0 (SCS.ext O0.2) (g := (mkF m 0 #[.val (.int p1)] [])) rfl (hb hby d3_0)
  refine OwnEnd.of (S' := T1.setTop (mkF m 3 #[.val (.int p1)] [(.int zCS)])) st1 ?_
  refine OwnEnd.of (S' := T1.setTop (mkF m 7 #[.val (.int p1)] [(.int p1)])) (fun _ k => XS.ifNo X1.here hx rfl (hb hby d3_3) rfl ((if0 _ _).trans (feq (PCS)).1) (XS.iloadN X1.here hx rfl (hb hby d3_6) rfl k)) ?_
  obtain ⟨_, _, ⟨T2, L2, k2, n2⟩, -, X2, ⟨Lc2, hQ2, l2, y2, z2⟩, st2⟩ := Jvm.LawKit.callS X1 hx (y := own_m0) hown (mvT hZ (own_w G 37 rfl)) (mvT hZ (own_w G 38 rfl)) (mvT hZ (own_w G 39 rfl)) (mvT hZ (own_w G 40 rfl)) (by decide) (backOf (W := 0) (rmce l Z a0 G [] p1 h0 n0 O0 (P0 : ¬ (255 : Int32) < p1)) hZ (own_w G 40 rfl) (own_w G 39 rfl) (by decide) (by decide)) (g := (mkF m 7 #[.val (.int p1)] [(.int p1)])) rfl (by rw [hml]; rfl) (argsL := [(.int p1)]) (rest := []) (lenOf pd_0 rfl) rfl (by show 2 * 0 + _ ≤ _; exact Nat.le_of_eq rfl) (hb hby d3_7) (fun _ _ => ⟨rfl, e1, (by decide : 0 + 0 ≤ _), (by decide : 0 + 0 ≤ _)⟩)
  dsimp only [Pt.U, Pt.locs, Pt.cells, Pt.slots] at X2 l2 y2 z2 st2 hQ2
  subst l2 y2 z2
  obtain ⟨rfl, N2q, eh2⟩ := hQ2
  have N2 := Fr.app N0 N2q
  refine OwnEnd.of (S' := T2.setTop (mkF m 10 #[.val (.int p1)] [(.int (1 : Int32))])) st2 ?_
  refine OwnEnd.of (S' := T2.setTop (mkF m 13 #[.val (.int p1)] [])) (fun _ k => XS.ifNo X2.here hx rfl (hb hby d3_10) rfl ((if0 _ _).trans (feq ((by decide : ¬ ((1 : Int32) = (0 : Int32))))).1) k) ?_
  obtain ⟨T3, h3, X3, e3, E3, A3, D3, -, st3⟩ := newO X2 hx hZ hown (own_w G 41 rfl) (own_w G 5 rfl) (own_w G 6 rfl) eh2 (g := (mkF m 13 #[.val (.int p1)] [])) rfl (hb hby d3_13) (by decide) (by decide)
  obtain ⟨b3, g3⟩ : ∃ z, z = Array.size h0 := ⟨_, rfl⟩
  rw [← g3] at A3 D3 st3
  have lt_b3 := own_ltN' A3.lt
  have sz4 := E3.1
  have K4 := K0.ext E3
  have O4 := O0.ext E3
  have F3_coder : Fld Z h3 b3 "java/lang/String" "coder" "B" (.int (0 : Int32)) := D3 (Or.inr (own_w G 31 rfl)) (ty := .byte) (by decide)
  have F3_value : Fld Z h3 b3 "java/lang/String" "value" "[B" .null := D3 (Or.inr (own_w G 33 rfl)) (ty := (.array .byte)) (by decide)
  refine OwnEnd.of (S' := T3.setTop (mkF m 16 #[.val (.int p1)] [(.ref b3)])) st3 ?_
  refine OwnEnd.of (S' := T3.setTop (mkF m 18 #[.val (.int p1)] [(.int p1), (.ref b3), (.ref b3)])) (fun _ k => XS.dup X3.here hx rfl (hb hby d3_16) rfl rfl (XS.iloadN X3.here hx rfl (hb hby d3_17) rfl k)) ?_
  obtain ⟨_, _, ⟨T5, L5, k5, n5⟩, -, X5, ⟨Lc5, hQ5, l5, y5, z5⟩, st5⟩ := Jvm.LawKit.callS X3 hx (y := own_m1) hown (mvT hZ (own_w G 42 rfl)) (mvT hZ (own_w G 43 rfl)) (mvT hZ (own_w G 39 rfl)) (mvT hZ (own_w G 44 rfl)) (by decide) (backOf (W := 2) (rmtb l Z a0 G [] p1 h3 n0 O4 ) hZ (own_w G 44 rfl) (own_w G 39 rfl) (by decide) (by decide)) (g := (mkF m 18 #[.val (.int p1)] [(.int p1), (.ref b3), (.ref b3)])) rfl (by rw [hml]; rfl) (argsL := [(.int p1)]) (rest := [(.ref b3), (.ref b3)]) (lenOf pd_1 rfl) rfl (by show 2 * 0 + _ ≤ _; exact Nat.le_of_eq rfl) (hb hby d3_18) (fun _ _ => ⟨rfl, e3, (by decide : 1 + 1 ≤ _), (by decide : 4 + 1 ≤ _)⟩)
  dsimp only [Pt.U, Pt.locs, Pt.cells, Pt.slots] at X5 l5 y5 z5 st5 hQ5
  subst l5 y5 z5
  obtain ⟨t5, kb5, rfl, N5q, Kq5, r5_0, r5_1⟩ := hQ5
  have N5 := Fr.app N2 N5q
  have sz6 := Kq5.1
  have K6 := K4.trans Kq5 (own_all0 )
  have O6 := O4.keep Kq5 (own_all0 )
  have ltr5_0 := own_ltN' r5_0.lt
  refine OwnEnd.of (S' := T5.setTop (mkF m 21 #[.val (.int p1)] [(.ref t5), (.ref b3), (.ref b3)])) st5 ?_
  refine OwnEnd.of (S' := T5.setTop (mkF m 22 #[.val (.int p1)] [(.int (0 : Int32)), (.ref t5), (.ref b3), (.ref b3)])) (fun _ k => XS.iconst X5.here hx rfl (hb hby d3_21) k) ?_
  have f7 : Exa Z T5.heap b3 "java/lang/String" := (A3.keep Kq5)
  have f8 : Fld Z T5.heap b3 "java/lang/String" "value" "[B" .null := (F3_value.keep Kq5 nin0)
  have f9 : Fld Z T5.heap b3 "java/lang/String" "coder" "B" (.int (0 : Int32)) := (F3_coder.keep Kq5 nin0)
  obtain ⟨_, _, ⟨T10, L10, k10, n10⟩, -, X10, ⟨Lc10, hQ10, l10, y10, z10⟩, st10⟩ := Jvm.Stand.specialBack X5 hx (y := own_m2) rfl hown (mvT hZ (own_w G 45 rfl)) (mvT hZ (own_w G 46 rfl)) (mvT hZ (own_w G 47 rfl)) (by decide) (backOf (W := 1) (rmsb l Z a0 G [] b3 t5 (0 : Int32) .null (.int (0 : Int32)) T5.heap n0 O6 f7 f8 f9 (by omega)) hZ (own_w G 47 rfl) (own_w G 6 rfl) (by decide) (by decide)) (g := (mkF m 22 #[.val (.int p1)] [(.int (0 : Int32)), (.ref t5), (.ref b3), (.ref b3)])) rfl (by rw [hml]; rfl) (Steps.refl _) (a := b3) (argsL := [(.ref t5), (.int (0 : Int32))]) (rest := [(.ref b3)]) (lenOf pd_2 rfl) rfl (by show 2 * 0 + _ ≤ _; exact Nat.le_of_eq rfl) (hb hby d3_22) (fun _ _ => ⟨rfl, rfl, (by decide : 2 + 0 ≤ _), (by decide : 5 + 0 ≤ _)⟩)
  dsimp only [Pt.U, Pt.locs, Pt.cells, Pt.slots] at X10 l10 y10 z10 st10 hQ10
  subst l10 y10 z10
  obtain ⟨rfl, N10q, Kq10, r10_0, r10_1, r10_2⟩ := hQ10
  have N10 := Fr.app N5 N10q
  have sz11 := Kq10.1
  have K11 := K6.trans Kq10 (own_all1 (Or.inr (by omega)))
  have O11 := O6.keep Kq10 (own_all1 (by omega))
  have ltr10_0 := own_ltN' r10_0.lt
  have ltr10_1 := own_ltN' r10_1.lt
  have ltr10_2 := own_ltN' r10_2.lt
  refine OwnEnd.tr (S' := T10.setTop (mkF m 25 #[.val (.int p1)] [(.ref b3)])) st10 ?_
  refine OwnEnd.ret X10 (v := (some (.ref b3))) (fun h => by rw [Bd.returns] at h; cases h) hlk (fun fs hr => retOut X10 hx Bd.returns rfl (Or.inr (Or.inr (Or.inr (Or.inr ⟨rfl, rfl, rfl⟩)))) (hb hby d3_25) hr) (by decide) (by decide) (Q := Qvo Z p1 h0 n0) rfl ?_
  exact ⟨b3, rfl, N10, K11, r10_0, (by omega)⟩

theorem own_efdr (m : MethodId) (p1 : Int32) : entryFrame m #[(.int p1)] 1 = mkF m 0 #[.val (.int p1)] [] := by first | (simp [entryFrame, mkF, argsToLocals, Value.category]; done) | rfl
def Qdr (Z : State) (p1 : Int32) (h0 : Heap) (n0 : Nat) (v : Option Value) (h : Heap) (L : List Loc) : Prop := ∃ (x : Addr), v = some (.ref x) ∧ Fr n0 L ∧ Keep h0 h [] ∧ (Exa Z h x "java/lang/String") ∧ (Array.size h0 ≤ x)
set_option maxRecDepth 65536 in
set_option maxHeartbeats 40000000 in
theorem rmdr (l : Launch) (Z : State) (a0 : Array Value) (G : OwnG Z a0) (ws : List Jvm.Cond) (p1 : Int32) (h0 : Heap) (n0 : Nat) (O0 : Old Z n0 h0)  :
    MetFree l own_m5 (head1 (Jvm.Cond.code own_m5 method_2_code 1 (some (.object "java/lang/String")) :: ws) ({ frames := 4, cells := 3, slots := 8, locals := 66 } : Room)) (fun a U => a = #[(.int p1)] ∧ Z.Warmed39 U.vm ∧ U.heap = h0) (fun _ _ _ _ _ => True) (fun _ U o U' => ∃ v L, o = .returned v ∧ Qdr Z p1 h0 n0 v U'.heap L ∧ FrameEnd U o U' L ({ frames := 4, cells := 3, slots := 8, locals := 66 } : Room).cells ({ frames := 4, cells := 3, slots := 8, locals := 66 } : Room).slots) := by
  refine MetFree.of_bodySF (plainFor_of_name pn_2) hisR ?_
  intro p e s m args below meth c s₁ Bd hml0 hP hK
  obtain ⟨rfl, hZ, hh⟩ := hP
  have hw := G.1
  have hx := Bd.exec
  have hby := Bd.bytes
  have hml : c.maxLocals = 1 := hml0
  have hown : s.vm.findClass "com/example/relfix/relfix/QualifiedNameQualifierPinLaw" = some m.cls := findClass_of_methodNamed Bd.named
  have hnm := (name_of_methodNamed Bd.named Bd.method).1
  have hlk := Bd.notSynchronized
  have X0 : Stand p l e ({ frames := 4, cells := 3, slots := 8, locals := 66 } : Room) s m #[(.int p1)] below meth c s₁ [] 0 0 := Stand.of_body Bd
  have e0 : s₁.heap = h0 := by rw [← hh, Bd.state]; rfl
  have K0 : Keep h0 h0 [] := Keep.refl h0 _
  have Z0 := own_old_le O0
  have N0 := Fr.nil n0
  obtain ⟨zCS, SCS, PCS⟩ := own_cs G
  refine OwnEnd.start (g' := (mkF m 0 #[.val (.int p1)] [])) (own_efdr m p1) ?_
  obtain ⟨T1, h1, X1, e1, E1, A1, D1, -, st1⟩ := newO X0 hx hZ hown (own_w G 4 rfl) (own_w G 5 rfl) (own_w G 6 rfl) e0 (g := (mkF m 0 #[.val (.int p1)] [])) rfl (hb hby d4_0) (by decide) (by decide)
  obtain ⟨b1, g1⟩ : ∃ z, z = Array.size h0 := ⟨_, rfl⟩
  rw [← g1] at A1 D1 st1
  have lt_b1 := own_ltN' A1.lt
  have sz2 := E1.1
  have K2 := K0.ext E1
  have O2 := O0.ext E1
  have F1_coder : Fld Z h1 b1 "java/lang/String" "coder" "B" (.int (0 : Int32)) := D1 (Or.inr (own_w G 31 rfl)) (ty := .byte) (by decide)
  have F1_value : Fld Z h1 b1 "java/lang/String" "value" "[B" .null := D1 (Or.inr (own_w G 33 rfl)) (ty := (.array .byte)) (by decide)
  refine OwnEnd.of (S' := T1.setTop (mkF m 3 #[.val (.int p1)] [(.ref b1)])) st1 ?_
  refine OwnEnd.of (S' := T1.setTop (mkF m 5 #[.val (.int p1)] [(.int (2 : Int32)), (.ref b1), (.ref b1)])) (fun _ k => XS.dup X1.here hx rfl (hb hby d4_3) rfl rfl (XS.iconst X1.here hx rfl (hb hby d4_4) k)) ?_
  obtain ⟨T3, h3, k3, X3, e3, E3, A3, st3⟩ := newP X1 hx hZ (own_w G 7 rfl) e1 (g := (mkF m 5 #[.val (.int p1)] [(.int (2 : Int32)), (.ref b1), (.ref b1)])) rfl (hb hby d4_5) rfl (by decide) (cap := 2) (by decide) (by decide) (by decide) (by decide)
  obtain ⟨b3, g3⟩ : ∃ z, z = Array.size h1 := ⟨_, rfl⟩
  rw [← g3] at A3 st3
  have lt_b3 := own_ltN' A3.lt
  have sz4 := E3.1
  have K4 := K2.ext E3
  have O4 := O2.ext E3
  have V3 : Arv Z h3 b3 k3 .char (2 : Int32) [(.int (0 : Int32)), (.int (0 : Int32))] (.int (0 : Int32)) := (Arv.new A3 (by decide)).pad (pad_rep [] (.int (0 : Int32)) 2)
  refine OwnEnd.of (S' := T3.setTop (mkF m 7 #[.val (.int p1)] [(.ref b3), (.ref b1), (.ref b1)])) st3 ?_
  refine OwnEnd.of (S' := T3.setTop (mkF m 15 #[.val (.int p1)] [(.int (nar .char (p1 &&& (255 : Int32)))), (.int (0 : Int32)), (.ref b3), (.ref b3), (.ref b1), (.ref b1)])) (fun _ k => XS.dup X3.here hx rfl (hb hby d4_7) rfl rfl (XS.iconst X3.here hx rfl (hb hby d4_8) (XS.iloadN X3.here hx rfl (hb hby d4_9) rfl (XS.sipush X3.here hx rfl (hb hby d4_10) (XS.iand X3.here hx rfl (hb hby d4_13) rfl (XS.i2c X3.here hx rfl (hb hby d4_14) rfl k)))))) ?_
  obtain ⟨cl5, Ar5, q5, S5, N5', H5, G5⟩ := id V3
  have hin6 : ¬ ((0 : Int32) < 0 ∨ cl5.slots.size ≤ ((0 : Int32)).toNatClampNeg) := inb_of S5 ⟨by decide, by decide⟩
  obtain ⟨T6, h6, X6, e6, W6, st6⟩ := stC X3 hx hZ e3 Ar5 (j := (0 : Int32)) hin6 (g := (mkF m 15 #[.val (.int p1)] [(.int (nar .char (p1 &&& (255 : Int32)))), (.int (0 : Int32)), (.ref b3), (.ref b3), (.ref b1), (.ref b1)])) rfl rfl (hb hby d4_15)
  have N6 := Fr.snoc X6 N0 (by omega)
  have sz7 := own_wr_le W6
  have K7 := K4.wr W6 (Or.inr (by omega))
  have O7 := O4.wr W6 (by omega)
  have V6 : Arv Z h6 b3 k3 .char (2 : Int32) [(.int (nar .char (nar .char (p1 &&& (255 : Int32))))), (.int (0 : Int32))] (.int (0 : Int32)) := Arv.set Ar5 q5 S5 N5' H5 G5 (fits_nar_char _) W6 0 rfl (Nat.le_of_ble_eq_true rfl)
  refine OwnEnd.of (S' := T6.setTop (mkF m 16 #[.val (.int p1)] [(.ref b3), (.ref b1), (.ref b1)])) st6 ?_
  refine OwnEnd.of (S' := T6.setTop (mkF m 27 #[.val (.int p1)] [(.int (nar .char (((p1).toUInt32 >>> ((8 : Int32) &&& 31).toUInt32).toInt32 &&& (255 : Int32)))), (.int (1 : Int32)), (.ref b3), (.ref b3), (.ref b1), (.ref b1)])) (fun _ k => XS.dup X6.here hx rfl (hb hby d4_16) rfl rfl (XS.iconst X6.here hx rfl (hb hby d4_17) (XS.iloadN X6.here hx rfl (hb hby d4_18) rfl (XS.bipush X6.here hx rfl (hb hby d4_19) (XS.iushr X6.here hx rfl (hb hby d4_21) rfl (XS.sipush X6.here hx rfl (hb hby d4_22) (XS.iand X6.here hx rfl (hb hby d4_25) rfl (XS.i2c X6.here hx rfl (hb hby d4_26) rfl k)))))))) ?_
  obtain ⟨cl8, Ar8, q8, S8, N8', H8, G8⟩ := id V6
  have hin9 : ¬ ((1 : Int32) < 0 ∨ cl8.slots.size ≤ ((1 : Int32)).toNatClampNeg) := inb_of S8 ⟨by decide, by decide⟩
  obtain ⟨T9, h9, X9, e9, W9, st9⟩ := stC X6 hx hZ e6 Ar8 (j := (1 : Int32)) hin9 (g := (mkF m 27 #[.val (.int p1)] [(.int (nar .char (((p1).toUInt32 >>> ((8 : Int32) &&& 31).toUInt32).toInt32 &&& (255 : Int32)))), (.int (1 : Int32)), (.ref b3), (.ref b3), (.ref b1), (.ref b1)])) rfl rfl (hb hby d4_27)
  have N9 := Fr.snoc X9 N6 (by omega)
  have sz10 := own_wr_le W9
  have K10 := K7.wr W9 (Or.inr (by omega))
  have O10 := O7.wr W9 (by omega)
  have V9 : Arv Z h9 b3 k3 .char (2 : Int32) [(.int (nar .char (nar .char (p1 &&& (255 : Int32))))), (.int (nar .char (nar .char (((p1).toUInt32 >>> ((8 : Int32) &&& 31).toUInt32).toInt32 &&& (255 : Int32)))))] (.int (0 : Int32)) := Arv.set Ar8 q8 S8 N8' H8 G8 (fits_nar_char _) W9 1 rfl (Nat.le_of_ble_eq_true rfl)
  refine OwnEnd.of (S' := T9.setTop (mkF m 28 #[.val (.int p1)] [(.ref b3), (.ref b1), (.ref b1)])) st9 ?_
  have f11 : Exa Z h9 b1 "java/lang/String" := (((A1.ext E3).wr W6).wr W9)
  have f12 : Fld Z h9 b1 "java/lang/String" "value" "[B" .null := (((F1_value.ext E3).other W6 (Or.inl (own_ne (by omega)))).other W9 (Or.inl (own_ne (by omega))))
  have f13 : Fld Z h9 b1 "java/lang/String" "coder" "B" (.int (0 : Int32)) := (((F1_coder.ext E3).other W6 (Or.inl (own_ne (by omega)))).other W9 (Or.inl (own_ne (by omega))))
  have hws : ∀ d ∈ StrChars.Road.words, d.before a0 Z = true := fun d hd => hw d (own_words d hd)
  have hp14 : ∀ c ∈ ([(nar .char (nar .char (p1 &&& (255 : Int32)))), (nar .char (nar .char (((p1).toUInt32 >>> ((8 : Int32) &&& 31).toUInt32).toInt32 &&& (255 : Int32))))] : List Int32), ¬ c < 0 ∧ ¬ (255 : Int32) < c := own_hp2 _ _
  obtain ⟨_, _, ⟨T15, L15, k15, n15⟩, -, X15, ⟨Lc15, hQ15, l15, y15, z15⟩, st15⟩ := Jvm.Stand.specialBack X9 hx (y := own_m4) rfl hown (mvT hZ (own_w G 8 rfl)) (mvT hZ (own_w G 9 rfl)) (mvT hZ (own_w G 10 rfl)) (by decide) (StrChars.Road.backV (W := 1) hZ hws (kI := 4) (own_w G 5 rfl) (cs := [(nar .char (nar .char (p1 &&& (255 : Int32)))), (nar .char (nar .char (((p1).toUInt32 >>> ((8 : Int32) &&& 31).toUInt32).toInt32 &&& (255 : Int32))))]) (bs := ([(nar .char (nar .char (p1 &&& (255 : Int32)))), (nar .char (nar .char (((p1).toUInt32 >>> ((8 : Int32) &&& 31).toUInt32).toInt32 &&& (255 : Int32))))] : List Int32).map (fun c => c.toInt8.toInt32)) (n := 2) (n0 := n0) (by omega) (by omega) f11 f12 f13 V9 (SCS.ext O10.2) PCS rfl rfl (by decide) (by decide) hp14 rfl (by decide) (by decide)) (g := (mkF m 28 #[.val (.int p1)] [(.ref b3), (.ref b1), (.ref b1)])) rfl (by rw [hml]; rfl) (Steps.refl _) (a := b1) (argsL := [(.ref b3)]) (rest := [(.ref b1)]) (lenOf pd_3 rfl) rfl (by show 2 * 0 + _ ≤ _; exact Nat.le_of_eq rfl) (hb hby d4_28) (fun _ _ => ⟨rfl, e9, (by decide : 2 + 1 ≤ _), (by decide : 6 + 2 ≤ _)⟩)
  dsimp only [Pt.U, Pt.locs, Pt.cells, Pt.slots] at X15 l15 y15 z15 st15 hQ15
  subst l15 y15 z15
  obtain ⟨rfl, N15q, Kq15, r15E, r15C, t15, kb15, u15, w15, x15, r15V, r15A⟩ := hQ15
  have N15 := Fr.app N9 N15q
  have sz16 := Kq15.1
  have K16 := K10.trans Kq15 (own_all1 (Or.inr (by omega)))
  have O16 := O10.keep Kq15 (own_all1 (by omega))
  have lt_t15 := own_ltN' r15A.lt
  refine OwnEnd.tr (S' := T15.setTop (mkF m 31 #[.val (.int p1)] [(.ref b1)])) st15 ?_
  refine OwnEnd.ret X15 (v := (some (.ref b1))) (fun h => by rw [Bd.returns] at h; cases h) hlk (fun fs hr => retOut X15 hx Bd.returns rfl (Or.inr (Or.inr (Or.inr (Or.inr ⟨rfl, rfl, rfl⟩)))) (hb hby d4_31) hr) (by decide) (by decide) (Q := Qdr Z p1 h0 n0) rfl ?_
  exact ⟨b1, rfl, N15, K16, r15E, (by omega)⟩

theorem own_efri (m : MethodId) (x0 : Addr) : entryFrame m #[(.ref x0)] 1 = mkF m 0 #[.val (.ref x0)] [] := by first | (simp [entryFrame, mkF, argsToLocals, Value.category]; done) | rfl
def Qri (Z : State) (x0 : Addr) (h0 : Heap) (n0 : Nat) (v : Option Value) (h : Heap) (L : List Loc) : Prop := v = none ∧ Fr n0 L ∧ h = h0
set_option maxRecDepth 65536 in
set_option maxHeartbeats 40000000 in
theorem rmri (l : Launch) (Z : State) (a0 : Array Value) (G : OwnG Z a0) (ws : List Jvm.Cond) (x0 : Addr) (h0 : Heap) (n0 : Nat) (O0 : Old Z n0 h0)  :
    MetFree l own_m6 (head1 (Jvm.Cond.code own_m6 jdk_30_method_1_code 1 none :: ws) ({ frames := 1, cells := 0, slots := 0, locals := 12 } : Room)) (fun a U => a = #[(.ref x0)] ∧ Z.Warmed39 U.vm ∧ U.heap = h0) (fun _ _ _ _ _ => True) (fun _ U o U' => ∃ v L, o = .returned v ∧ Qri Z x0 h0 n0 v U'.heap L ∧ FrameEnd U o U' L ({ frames := 1, cells := 0, slots := 0, locals := 12 } : Room).cells ({ frames := 1, cells := 0, slots := 0, locals := 12 } : Room).slots) := by
  refine MetFree.of_bodySF (plainFor_of_name pn_3) hisR ?_
  intro p e s m args below meth c s₁ Bd hml0 hP hK
  obtain ⟨rfl, hZ, hh⟩ := hP
  have hw := G.1
  have hx := Bd.exec
  have hby := Bd.bytes
  have hml : c.maxLocals = 1 := hml0
  have hown : s.vm.findClass "java/lang/Record" = some m.cls := findClass_of_methodNamed Bd.named
  have hnm := (name_of_methodNamed Bd.named Bd.method).1
  have hlk := Bd.notSynchronized
  have X0 : Stand p l e ({ frames := 1, cells := 0, slots := 0, locals := 12 } : Room) s m #[(.ref x0)] below meth c s₁ [] 0 0 := Stand.of_body Bd
  have e0 : s₁.heap = h0 := by rw [← hh, Bd.state]; rfl
  have K0 : Keep h0 h0 [] := Keep.refl h0 _
  have Z0 := own_old_le O0
  have N0 := Fr.nil n0
  refine OwnEnd.start (g' := (mkF m 0 #[.val (.ref x0)] [])) (own_efri m x0) ?_
  refine OwnEnd.of (S' := s₁.setTop (mkF m 1 #[.val (.ref x0)] [(.ref x0)])) (fun _ k => XS.aloadN X0.here hx rfl (hb hby d5_0) rfl rfl k) ?_
  obtain ⟨T1, X1, e1, st1⟩ := initO X0 hx hZ hown (own_w G 59 rfl) (own_w G 16 rfl) (own_w G 17 rfl) e0 (g := (mkF m 1 #[.val (.ref x0)] [(.ref x0)])) rfl (by rw [hml]; rfl) rfl (hb hby d5_1) (by decide) (W := 0) (by show 2 * 0 + _ ≤ _; exact Nat.le_of_eq rfl) (by decide)
  refine OwnEnd.of (S' := T1.setTop (mkF m 4 #[.val (.ref x0)] [])) st1 ?_
  refine OwnEnd.ret X1 (v := none) (fun _ => rfl) hlk (fun fs hr => X1.returnOut hx Bd.returns (hb hby d5_4) hr) (by decide) (by decide) (Q := Qri Z x0 h0 n0) e1 ?_
  exact ⟨rfl, N0, rfl⟩

theorem own_efqi (m : MethodId) (x0 : Addr) (v1 : Value) (v2 : Value) (v3 : Value) (hv1 : v1.isRef = true) (hv2 : v2.isRef = true) (hv3 : v3.isRef = true) : entryFrame m #[(.ref x0), v1, v2, v3] 4 = mkF m 0 #[.val (.ref x0), .val v1, .val v2, .val v3] [] := by
  rcases ref_cases hv1 with rfl | ⟨_, rfl⟩ <;>
  rcases ref_cases hv2 with rfl | ⟨_, rfl⟩ <;>
  rcases ref_cases hv3 with rfl | ⟨_, rfl⟩ <;>
  first | (simp [entryFrame, mkF, argsToLocals, Value.category]; done) | rfl
def Qqi (Z : State) (x0 : Addr) (v1 : Value) (v2 : Value) (v3 : Value) (u1 : Value) (u2 : Value) (u3 : Value) (h0 : Heap) (n0 : Nat) (v : Option Value) (h : Heap) (L : List Loc) : Prop := v = none ∧ Fr n0 L ∧ Keep h0 h [x0] ∧ (Exa Z h x0 "com/example/relfix/relfix/DatabaseTable$QualifiedName") ∧ (Fld Z h x0 "com/example/relfix/relfix/DatabaseTable$QualifiedName" "catalog" "Ljava/lang/String;" v1) ∧ (Fld Z h x0 "com/example/relfix/relfix/DatabaseTable$QualifiedName" "schema" "Ljava/lang/String;" v2)
set_option maxRecDepth 65536 in
set_option maxHeartbeats 40000000 in
theorem rmqi (l : Launch) (Z : State) (a0 : Array Value) (G : OwnG Z a0) (ws : List Jvm.Cond) (x0 : Addr) (v1 : Value) (v2 : Value) (v3 : Value) (u1 : Value) (u2 : Value) (u3 : Value) (h0 : Heap) (n0 : Nat) (O0 : Old Z n0 h0) (P0 : Exa Z h0 x0 "com/example/relfix/relfix/DatabaseTable$QualifiedName") (P1 : Fld Z h0 x0 "com/example/relfix/relfix/DatabaseTable$QualifiedName" "catalog" "Ljava/lang/String;" u1) (P2 : Fld Z h0 x0 "com/example/relfix/relfix/DatabaseTable$QualifiedName" "schema" "Ljava/lang/String;" u2) (P3 : Fld Z h0 x0 "com/example/relfix/relfix/DatabaseTable$QualifiedName" "name" "Ljava/lang/String;" u3) (P4 : v1.isRef = true) (P5 : v2.isRef = true) (P6 : v3.isRef = true) (P7 : n0 ≤ x0) :
    MetFree l own_m7 (head1 (Jvm.Cond.code own_m7 prog_37_method_1_code 4 none :: ws) ({ frames := 2, cells := 0, slots := 0, locals := 24 } : Room)) (fun a U => a = #[(.ref x0), v1, v2, v3] ∧ Z.Warmed39 U.vm ∧ U.heap = h0) (fun _ _ _ _ _ => True) (fun _ U o U' => ∃ v L, o = .returned v ∧ Qqi Z x0 v1 v2 v3 u1 u2 u3 h0 n0 v U'.heap L ∧ FrameEnd U o U' L ({ frames := 2, cells := 0, slots := 0, locals := 24 } : Room).cells ({ frames := 2, cells := 0, slots := 0, locals := 24 } : Room).slots) := by
  refine MetFree.of_bodySF (plainFor_of_name pn_4) hisR ?_
  intro p e s m args below meth c s₁ Bd hml0 hP hK
  obtain ⟨rfl, hZ, hh⟩ := hP
  have hw := G.1
  have hx := Bd.exec
  have hby := Bd.bytes
  have hml : c.maxLocals = 4 := hml0
  have hown : s.vm.findClass "com/example/relfix/relfix/DatabaseTable$QualifiedName" = some m.cls := findClass_of_methodNamed Bd.named
  have hnm := (name_of_methodNamed Bd.named Bd.method).1
  have hlk := Bd.notSynchronized
  have X0 : Stand p l e ({ frames := 2, cells := 0, slots := 0, locals := 24 } : Room) s m #[(.ref x0), v1, v2, v3] below meth c s₁ [] 0 0 := Stand.of_body Bd
  have e0 : s₁.heap = h0 := by rw [← hh, Bd.state]; rfl
  have lt0 := own_ltN' P0.lt
  have lt1 := own_ltN' P1.lt
  have lt2 := own_ltN' P2.lt
  have lt3 := own_ltN' P3.lt
  have K0 : Keep h0 h0 [x0] := Keep.refl h0 _
  have Z0 := own_old_le O0
  have N0 := Fr.nil n0
  refine OwnEnd.start (g' := (mkF m 0 #[.val (.ref x0), .val v1, .val v2, .val v3] [])) (own_efqi m x0 v1 v2 v3 P4 P5 P6) ?_
  refine OwnEnd.of (S' := s₁.setTop (mkF m 1 #[.val (.ref x0), .val v1, .val v2, .val v3] [(.ref x0)])) (fun _ k => XS.aloadN X0.here hx rfl (hb hby d6_0) rfl rfl k) ?_
  obtain ⟨_, _, ⟨T1, L1, k1, n1⟩, -, X1, ⟨Lc1, hQ1, l1, y1, z1⟩, st1⟩ := Jvm.Stand.specialBack X0 hx (y := own_m6) rfl hown (mvT hZ (own_w G 54 rfl)) (mvT hZ (own_w G 55 rfl)) (mvT hZ (own_w G 58 rfl)) (by decide) (backOf (W := 0) (rmri l Z a0 G [] x0 h0 n0 O0 ) hZ (own_w G 58 rfl) (own_w G 57 rfl) (by decide) (by decide)) (g := (mkF m 1 #[.val (.ref x0), .val v1, .val v2, .val v3] [(.ref x0)])) rfl (by rw [hml]; rfl) (Steps.refl _) (a := x0) (argsL := []) (rest := []) (lenOf pd_4 rfl) rfl (by show 2 * 0 + _ ≤ _; exact Nat.le_of_eq rfl) (hb hby d6_1) (fun _ _ => ⟨rfl, e0, (by decide : 0 + 0 ≤ _), (by decide : 0 + 0 ≤ _)⟩)
  dsimp only [Pt.U, Pt.locs, Pt.cells, Pt.slots] at X1 l1 y1 z1 st1 hQ1
  subst l1 y1 z1
  obtain ⟨rfl, N1q, eh1⟩ := hQ1
  have N1 := Fr.app N0 N1q
  refine OwnEnd.tr (S' := T1.setTop (mkF m 4 #[.val (.ref x0), .val v1, .val v2, .val v3] [])) st1 ?_
  refine OwnEnd.of (S' := T1.setTop (mkF m 6 #[.val (.ref x0), .val v1, .val v2, .val v3] [v1, (.ref x0)])) (fun _ k => XS.aloadN X1.here hx rfl (hb hby d6_4) rfl rfl (XS.aloadN X1.here hx rfl (hb hby d6_5) rfl P4 k)) ?_
  obtain ⟨T2, h2, X2, e2, W2, st2⟩ := putF X1 hx hZ hown (host := "") (Or.inl (own_w G 60 rfl)) Via.refl eh1 P1 P0 (Or.inr ⟨(own_w G 61 rfl), rfl, hnm⟩) (own_w G 49 rfl) (ty := (.object "java/lang/String")) (by decide) (own_nar_ref P4 rfl) (own_fits_ref P4 rfl) (g := (mkF m 6 #[.val (.ref x0), .val v1, .val v2, .val v3] [v1, (.ref x0)])) rfl rfl (hb hby d6_6)
  have Fw2 := P1.same W2
  have N2 := Fr.snoc X2 N1 (by omega)
  have sz3 := own_wr_le W2
  have K3 := K0.wr W2 (Or.inl (by simp))
  have O3 := O0.wr W2 (by omega)
  refine OwnEnd.of (S' := T2.setTop (mkF m 9 #[.val (.ref x0), .val v1, .val v2, .val v3] [])) st2 ?_
  refine OwnEnd.of (S' := T2.setTop (mkF m 11 #[.val (.ref x0), .val v1, .val v2, .val v3] [v2, (.ref x0)])) (fun _ k => XS.aloadN X2.here hx rfl (hb hby d6_9) rfl rfl (XS.aloadN X2.here hx rfl (hb hby d6_10) rfl P5 k)) ?_
  have f5 : Fld Z h2 x0 "com/example/relfix/relfix/DatabaseTable$QualifiedName" "schema" "Ljava/lang/String;" u2 := (P2.other W2 (Or.inr (slot_ne (Or.inr (own_w G 63 rfl)) (Or.inr (own_w G 61 rfl)) (by decide) (t := (.object "java/lang/String")) (t' := (.object "java/lang/String")) (by decide) (by decide))))
  have f6 : Exa Z h2 x0 "com/example/relfix/relfix/DatabaseTable$QualifiedName" := (P0.wr W2)
  obtain ⟨T4, h4, X4, e4, W4, st4⟩ := putF X2 hx hZ hown (host := "") (Or.inl (own_w G 62 rfl)) Via.refl e2 f5 f6 (Or.inr ⟨(own_w G 63 rfl), rfl, hnm⟩) (own_w G 49 rfl) (ty := (.object "java/lang/String")) (by decide) (own_nar_ref P5 rfl) (own_fits_ref P5 rfl) (g := (mkF m 11 #[.val (.ref x0), .val v1, .val v2, .val v3] [v2, (.ref x0)])) rfl rfl (hb hby d6_11)
  have Fw4 := f5.same W4
  have N4 := Fr.snoc X4 N2 (by omega)
  have sz7 := own_wr_le W4
  have K7 := K3.wr W4 (Or.inl (by simp))
  have O7 := O3.wr W4 (by omega)
  refine OwnEnd.of (S' := T4.setTop (mkF m 14 #[.val (.ref x0), .val v1, .val v2, .val v3] [])) st4 ?_
  refine OwnEnd.of (S' := T4.setTop (mkF m 16 #[.val (.ref x0), .val v1, .val v2, .val v3] [v3, (.ref x0)])) (fun _ k => XS.aloadN X4.here hx rfl (hb hby d6_14) rfl rfl (XS.aloadN X4.here hx rfl (hb hby d6_15) rfl P6 k)) ?_
  have f9 : Fld Z h4 x0 "com/example/relfix/relfix/DatabaseTable$QualifiedName" "name" "Ljava/lang/String;" u3 := ((P3.other W2 (Or.inr (slot_ne (Or.inr (own_w G 65 rfl)) (Or.inr (own_w G 61 rfl)) (by decide) (t := (.object "java/lang/String")) (t' := (.object "java/lang/String")) (by decide) (by decide)))).other W4 (Or.inr (slot_ne (Or.inr (own_w G 65 rfl)) (Or.inr (own_w G 63 rfl)) (by decide) (t := (.object "java/lang/String")) (t' := (.object "java/lang/String")) (by decide) (by decide))))
  have f10 : Exa Z h4 x0 "com/example/relfix/relfix/DatabaseTable$QualifiedName" := (f6.wr W4)
  obtain ⟨T8, h8, X8, e8, W8, st8⟩ := putF X4 hx hZ hown (host := "") (Or.inl (own_w G 64 rfl)) Via.refl e4 f9 f10 (Or.inr ⟨(own_w G 65 rfl), rfl, hnm⟩) (own_w G 49 rfl) (ty := (.object "java/lang/String")) (by decide) (own_nar_ref P6 rfl) (own_fits_ref P6 rfl) (g := (mkF m 16 #[.val (.ref x0), .val v1, .val v2, .val v3] [v3, (.ref x0)])) rfl rfl (hb hby d6_16)
  have Fw8 := f9.same W8
  have N8 := Fr.snoc X8 N4 (by omega)
  have sz11 := own_wr_le W8
  have K11 := K7.wr W8 (Or.inl (by simp))
  have O11 := O7.wr W8 (by omega)
  refine OwnEnd.of (S' := T8.setTop (mkF m 19 #[.val (.ref x0), .val v1, .val v2, .val v3] [])) st8 ?_
  have f12 : Exa Z h8 x0 "com/example/relfix/relfix/DatabaseTable$QualifiedName" := (f10.wr W8)
  have f13 : Fld Z h8 x0 "com/example/relfix/relfix/DatabaseTable$QualifiedName" "catalog" "Ljava/lang/String;" v1 := ((Fw2.other W4 (Or.inr (slot_ne (Or.inr (own_w G 61 rfl)) (Or.inr (own_w G 63 rfl)) (by decide) (t := (.object "java/lang/String")) (t' := (.object "java/lang/String")) (by decide) (by decide)))).other W8 (Or.inr (slot_ne (Or.inr (own_w G 61 rfl)) (Or.inr (own_w G 65 rfl)) (by decide) (t := (.object "java/lang/String")) (t' := (.object "java/lang/String")) (by decide) (by decide))))
  have f14 : Fld Z h8 x0 "com/example/relfix/relfix/DatabaseTable$QualifiedName" "schema" "Ljava/lang/String;" v2 := (Fw4.other W8 (Or.inr (slot_ne (Or.inr (own_w G 63 rfl)) (Or.inr (own_w G 65 rfl)) (by decide) (t := (.object "java/lang/String")) (t' := (.object "java/lang/String")) (by decide) (by decide))))
  refine OwnEnd.ret X8 (v := none) (fun _ => rfl) hlk (fun fs hr => X8.returnOut hx Bd.returns (hb hby d6_19) hr) (by decide) (by decide) (Q := Qqi Z x0 v1 v2 v3 u1 u2 u3 h0 n0) e8 ?_
  exact ⟨rfl, N8, K11, f12, f13, f14⟩

theorem own_efqn (m : MethodId) (x0 : Addr) : entryFrame m #[(.ref x0)] 1 = mkF m 0 #[.val (.ref x0)] [] := by first | (simp [entryFrame, mkF, argsToLocals, Value.category]; done) | rfl
def Qqn (Z : State) (x0 : Addr) (v1 : Value) (h0 : Heap) (n0 : Nat) (v : Option Value) (h : Heap) (L : List Loc) : Prop := v = some v1 ∧ Fr n0 L ∧ h = h0
set_option maxRecDepth 65536 in
set_option maxHeartbeats 40000000 in
theorem rmqn (l : Launch) (Z : State) (a0 : Array Value) (G : OwnG Z a0) (ws : List Jvm.Cond) (x0 : Addr) (v1 : Value) (h0 : Heap) (n0 : Nat) (O0 : Old Z n0 h0) (P0 : Fld Z h0 x0 "com/example/relfix/relfix/DatabaseTable$QualifiedName" "schema" "Ljava/lang/String;" .null) (P1 : Fld Z h0 x0 "com/example/relfix/relfix/DatabaseTable$QualifiedName" "catalog" "Ljava/lang/String;" v1) (P2 : v1.isRef = true) :
    MetFree l own_m8 (head1 (Jvm.Cond.code own_m8 prog_37_method_2_code 1 (some (.object "java/lang/String")) :: ws) ({ frames := 0, cells := 0, slots := 0, locals := 0 } : Room)) (fun a U => a = #[(.ref x0)] ∧ Z.Warmed39 U.vm ∧ U.heap = h0) (fun _ _ _ _ _ => True) (fun _ U o U' => ∃ v L, o = .returned v ∧ Qqn Z x0 v1 h0 n0 v U'.heap L ∧ FrameEnd U o U' L ({ frames := 0, cells := 0, slots := 0, locals := 0 } : Room).cells ({ frames := 0, cells := 0, slots := 0, locals := 0 } : Room).slots) := by
  refine MetFree.of_bodySF (plainFor_of_name pn_4) hisR ?_
  intro p e s m args below meth c s₁ Bd hml0 hP hK
  obtain ⟨rfl, hZ, hh⟩ := hP
  have hw := G.1
  have hx := Bd.exec
  have hby := Bd.bytes
  have hml : c.maxLocals = 1 := hml0
  have hown : s.vm.findClass "com/example/relfix/relfix/DatabaseTable$QualifiedName" = some m.cls := findClass_of_methodNamed Bd.named
  have hnm := (name_of_methodNamed Bd.named Bd.method).1
  have hlk := Bd.notSynchronized
  have X0 : Stand p l e ({ frames := 0, cells := 0, slots := 0, locals := 0 } : Room) s m #[(.ref x0)] below meth c s₁ [] 0 0 := Stand.of_body Bd
  have e0 : s₁.heap = h0 := by rw [← hh, Bd.state]; rfl
  have lt0 := own_ltN' P0.lt
  have lt1 := own_ltN' P1.lt
  have K0 : Keep h0 h0 [] := Keep.refl h0 _
  have Z0 := own_old_le O0
  have N0 := Fr.nil n0
  refine OwnEnd.start (g' := (mkF m 0 #[.val (.ref x0)] [])) (own_efqn m x0) ?_
  refine OwnEnd.of (S' := s₁.setTop (mkF m 1 #[.val (.ref x0)] [(.ref x0)])) (fun _ k => XS.aloadN X0.here hx rfl (hb hby d7_0) rfl rfl k) ?_
  obtain ⟨T1, X1, e1, st1⟩ := getF X0 hx hZ hown (host := "") (Or.inl (own_w G 62 rfl)) Via.refl e0 P0 (g := (mkF m 1 #[.val (.ref x0)] [(.ref x0)])) rfl rfl (hb hby d7_1)
  refine OwnEnd.of (S' := T1.setTop (mkF m 4 #[.val (.ref x0)] [.null])) st1 ?_
  refine OwnEnd.of (S' := T1.setTop (mkF m 15 #[.val (.ref x0)] [(.ref x0)])) (fun _ k => XS.ifnullYes X1.here hx rfl (pc0 := 4) (pc' := 14) rfl (hb hby d7_4) rfl (by decide) (by decide) (XS.aloadN X1.here hx rfl (hb hby d7_14) rfl rfl k)) ?_
  obtain ⟨T2, X2, e2, st2⟩ := getF X1 hx hZ hown (host := "") (Or.inl (own_w G 60 rfl)) Via.refl e1 P1 (g := (mkF m 15 #[.val (.ref x0)] [(.ref x0)])) rfl rfl (hb hby d7_15)
  refine OwnEnd.of (S' := T2.setTop (mkF m 18 #[.val (.ref x0)] [v1])) st2 ?_
  refine OwnEnd.ret X2 (v := (some v1)) (fun h => by rw [Bd.returns] at h; cases h) hlk (fun fs hr => retOut X2 hx Bd.returns (own_nar_ref P2 rfl) (Or.inr (Or.inr (Or.inr (Or.inr ⟨rfl, rfl, P2⟩)))) (hb hby d7_18) hr) (by decide) (by decide) (Q := Qqn Z x0 v1 h0 n0) e2 ?_
  exact ⟨rfl, N0, rfl⟩

theorem own_efqr (m : MethodId) (x0 : Addr) : entryFrame m #[(.ref x0)] 1 = mkF m 0 #[.val (.ref x0)] [] := by first | (simp [entryFrame, mkF, argsToLocals, Value.category]; done) | rfl
def Qqr (Z : State) (x0 : Addr) (y : Addr) (h0 : Heap) (n0 : Nat) (v : Option Value) (h : Heap) (L : List Loc) : Prop := v = some (.ref y) ∧ Fr n0 L ∧ h = h0
set_option maxRecDepth 65536 in
set_option maxHeartbeats 40000000 in
theorem rmqr (l : Launch) (Z : State) (a0 : Array Value) (G : OwnG Z a0) (ws : List Jvm.Cond) (x0 : Addr) (y : Addr) (h0 : Heap) (n0 : Nat) (O0 : Old Z n0 h0) (P0 : Fld Z h0 x0 "com/example/relfix/relfix/DatabaseTable$QualifiedName" "schema" "Ljava/lang/String;" (.ref y)) :
    MetFree l own_m8 (head1 (Jvm.Cond.code own_m8 prog_37_method_2_code 1 (some (.object "java/lang/String")) :: ws) ({ frames := 0, cells := 0, slots := 0, locals := 0 } : Room)) (fun a U => a = #[(.ref x0)] ∧ Z.Warmed39 U.vm ∧ U.heap = h0) (fun _ _ _ _ _ => True) (fun _ U o U' => ∃ v L, o = .returned v ∧ Qqr Z x0 y h0 n0 v U'.heap L ∧ FrameEnd U o U' L ({ frames := 0, cells := 0, slots := 0, locals := 0 } : Room).cells ({ frames := 0, cells := 0, slots := 0, locals := 0 } : Room).slots) := by
  refine MetFree.of_bodySF (plainFor_of_name pn_4) hisR ?_
  intro p e s m args below meth c s₁ Bd hml0 hP hK
  obtain ⟨rfl, hZ, hh⟩ := hP
  have hw := G.1
  have hx := Bd.exec
  have hby := Bd.bytes
  have hml : c.maxLocals = 1 := hml0
  have hown : s.vm.findClass "com/example/relfix/relfix/DatabaseTable$QualifiedName" = some m.cls := findClass_of_methodNamed Bd.named
  have hnm := (name_of_methodNamed Bd.named Bd.method).1
  have hlk := Bd.notSynchronized
  have X0 : Stand p l e ({ frames := 0, cells := 0, slots := 0, locals := 0 } : Room) s m #[(.ref x0)] below meth c s₁ [] 0 0 := Stand.of_body Bd
  have e0 : s₁.heap = h0 := by rw [← hh, Bd.state]; rfl
  have lt0 := own_ltN' P0.lt
  have K0 : Keep h0 h0 [] := Keep.refl h0 _
  have Z0 := own_old_le O0
  have N0 := Fr.nil n0
  refine OwnEnd.start (g' := (mkF m 0 #[.val (.ref x0)] [])) (own_efqr m x0) ?_
  refine OwnEnd.of (S' := s₁.setTop (mkF m 1 #[.val (.ref x0)] [(.ref x0)])) (fun _ k => XS.aloadN X0.here hx rfl (hb hby d7_0) rfl rfl k) ?_
  obtain ⟨T1, X1, e1, st1⟩ := getF X0 hx hZ hown (host := "") (Or.inl (own_w G 62 rfl)) Via.refl e0 P0 (g := (mkF m 1 #[.val (.ref x0)] [(.ref x0)])) rfl rfl (hb hby d7_1)
  refine OwnEnd.of (S' := T1.setTop (mkF m 4 #[.val (.ref x0)] [(.ref y)])) st1 ?_
  refine OwnEnd.of (S' := T1.setTop (mkF m 8 #[.val (.ref x0)] [(.ref x0)])) (fun _ k => XS.ifnullNo X1.here hx rfl (hb hby d7_4) rfl (XS.aloadN X1.here hx rfl (hb hby d7_7) rfl rfl k)) ?_
  obtain ⟨T2, X2, e2, st2⟩ := getF X1 hx hZ hown (host := "") (Or.inl (own_w G 62 rfl)) Via.refl e1 P0 (g := (mkF m 8 #[.val (.ref x0)] [(.ref x0)])) rfl rfl (hb hby d7_8)
  refine OwnEnd.of (S' := T2.setTop (mkF m 11 #[.val (.ref x0)] [(.ref y)])) st2 ?_
  refine OwnEnd.of (S' := T2.setTop (mkF m 18 #[.val (.ref x0)] [(.ref y)])) (fun _ k => XS.goto X2.here hx rfl (pc0 := 11) (pc' := 18) rfl (hb hby d7_11) (by decide) (by decide) k) ?_
  refine OwnEnd.ret X2 (v := (some (.ref y))) (fun h => by rw [Bd.returns] at h; cases h) hlk (fun fs hr => retOut X2 hx Bd.returns rfl (Or.inr (Or.inr (Or.inr (Or.inr ⟨rfl, rfl, rfl⟩)))) (hb hby d7_18) hr) (by decide) (by decide) (Q := Qqr Z x0 y h0 n0) e2 ?_
  exact ⟨rfl, N0, rfl⟩

theorem own_efsn (m : MethodId) (x0 : Addr) (y1 : Addr) (y2 : Addr) : entryFrame m #[(.ref x0), (.ref y1), (.ref y2)] 3 = mkF m 0 #[.val (.ref x0), .val (.ref y1), .val (.ref y2)] [] := by first | (simp [entryFrame, mkF, argsToLocals, Value.category]; done) | rfl
def Qsn (Z : State) (x0 : Addr) (y1 : Addr) (y2 : Addr) (h0 : Heap) (n0 : Nat) (v : Option Value) (h : Heap) (L : List Loc) : Prop := ∃ (x : Addr), v = some (.ref x) ∧ Fr n0 L ∧ Keep h0 h [] ∧ (Exa Z h x "com/example/relfix/relfix/DatabaseTable$QualifiedName") ∧ (Fld Z h x "com/example/relfix/relfix/DatabaseTable$QualifiedName" "catalog" "Ljava/lang/String;" (.ref y1)) ∧ (Fld Z h x "com/example/relfix/relfix/DatabaseTable$QualifiedName" "schema" "Ljava/lang/String;" .null)
set_option maxRecDepth 65536 in
set_option maxHeartbeats 40000000 in
theorem rmsn (l : Launch) (Z : State) (a0 : Array Value) (G : OwnG Z a0) (ws : List Jvm.Cond) (x0 : Addr) (y1 : Addr) (y2 : Addr) (h0 : Heap) (n0 : Nat) (O0 : Old Z n0 h0) (P0 : Fld Z h0 x0 "com/example/relfix/relfix/DatabaseTable$QualifiedName" "schema" "Ljava/lang/String;" .null) :
    MetFree l own_m9 (head1 (Jvm.Cond.code own_m9 prog_37_method_3_code 3 (some (.object "com/example/relfix/relfix/DatabaseTable$QualifiedName")) :: ws) ({ frames := 3, cells := 1, slots := 3, locals := 40 } : Room)) (fun a U => a = #[(.ref x0), (.ref y1), (.ref y2)] ∧ Z.Warmed39 U.vm ∧ U.heap = h0) (fun _ _ _ _ _ => True) (fun _ U o U' => ∃ v L, o = .returned v ∧ Qsn Z x0 y1 y2 h0 n0 v U'.heap L ∧ FrameEnd U o U' L ({ frames := 3, cells := 1, slots := 3, locals := 40 } : Room).cells ({ frames := 3, cells := 1, slots := 3, locals := 40 } : Room).slots) := by
  refine MetFree.of_bodySF (plainFor_of_name pn_4) hisR ?_
  intro p e s m args below meth c s₁ Bd hml0 hP hK
  obtain ⟨rfl, hZ, hh⟩ := hP
  have hw := G.1
  have hx := Bd.exec
  have hby := Bd.bytes
  have hml : c.maxLocals = 3 := hml0
  have hown : s.vm.findClass "com/example/relfix/relfix/DatabaseTable$QualifiedName" = some m.cls := findClass_of_methodNamed Bd.named
  have hnm := (name_of_methodNamed Bd.named Bd.method).1
  have hlk := Bd.notSynchronized
  have X0 : Stand p l e ({ frames := 3, cells := 1, slots := 3, locals := 40 } : Room) s m #[(.ref x0), (.ref y1), (.ref y2)] below meth c s₁ [] 0 0 := Stand.of_body Bd
  have e0 : s₁.heap = h0 := by rw [← hh, Bd.state]; rfl
  have lt0 := own_ltN' P0.lt
  have K0 : Keep h0 h0 [] := Keep.refl h0 _
  have Z0 := own_old_le O0
  have N0 := Fr.nil n0
  refine OwnEnd.start (g' := (mkF m 0 #[.val (.ref x0), .val (.ref y1), .val (.ref y2)] [])) (own_efsn m x0 y1 y2) ?_
  refine OwnEnd.of (S' := s₁.setTop (mkF m 1 #[.val (.ref x0), .val (.ref y1), .val (.ref y2)] [(.ref x0)])) (fun _ k => XS.aloadN X0.here hx rfl (hb hby d8_0) rfl rfl k) ?_
  obtain ⟨T1, X1, e1, st1⟩ := getF X0 hx hZ hown (host := "") (Or.inl (own_w G 62 rfl)) Via.refl e0 P0 (g := (mkF m 1 #[.val (.ref x0), .val (.ref y1), .val (.ref y2)] [(.ref x0)])) rfl rfl (hb hby d8_1)
  refine OwnEnd.of (S' := T1.setTop (mkF m 4 #[.val (.ref x0), .val (.ref y1), .val (.ref y2)] [.null])) st1 ?_
  refine OwnEnd.of (S' := T1.setTop (mkF m 23 #[.val (.ref x0), .val (.ref y1), .val (.ref y2)] [])) (fun _ k => XS.ifnullYes X1.here hx rfl (pc0 := 4) (pc' := 23) rfl (hb hby d8_4) rfl (by decide) (by decide) k) ?_
  obtain ⟨T2, h2, X2, e2, E2, A2, D2, -, st2⟩ := newO X1 hx hZ hown (own_w G 76 rfl) (own_w G 49 rfl) (own_w G 50 rfl) e1 (g := (mkF m 23 #[.val (.ref x0), .val (.ref y1), .val (.ref y2)] [])) rfl (hb hby d8_23) (by decide) (by decide)
  obtain ⟨b2, g2⟩ : ∃ z, z = Array.size h0 := ⟨_, rfl⟩
  rw [← g2] at A2 D2 st2
  have lt_b2 := own_ltN' A2.lt
  have sz3 := E2.1
  have K3 := K0.ext E2
  have O3 := O0.ext E2
  have F2_catalog : Fld Z h2 b2 "com/example/relfix/relfix/DatabaseTable$QualifiedName" "catalog" "Ljava/lang/String;" .null := D2 (Or.inr (own_w G 61 rfl)) (ty := (.object "java/lang/String")) (by decide)
  have F2_schema : Fld Z h2 b2 "com/example/relfix/relfix/DatabaseTable$QualifiedName" "schema" "Ljava/lang/String;" .null := D2 (Or.inr (own_w G 63 rfl)) (ty := (.object "java/lang/String")) (by decide)
  have F2_name : Fld Z h2 b2 "com/example/relfix/relfix/DatabaseTable$QualifiedName" "name" "Ljava/lang/String;" .null := D2 (Or.inr (own_w G 65 rfl)) (ty := (.object "java/lang/String")) (by decide)
  refine OwnEnd.of (S' := T2.setTop (mkF m 26 #[.val (.ref x0), .val (.ref y1), .val (.ref y2)] [(.ref b2)])) st2 ?_
  refine OwnEnd.of (S' := T2.setTop (mkF m 30 #[.val (.ref x0), .val (.ref y1), .val (.ref y2)] [(.ref y2), .null, (.ref y1), (.ref b2), (.ref b2)])) (fun _ k => XS.dup X2.here hx rfl (hb hby d8_26) rfl rfl (XS.aloadN X2.here hx rfl (hb hby d8_27) rfl rfl (XS.aconstNull X2.here hx rfl (hb hby d8_28) (XS.aloadN X2.here hx rfl (hb hby d8_29) rfl rfl k)))) ?_
  obtain ⟨_, _, ⟨T4, L4, k4, n4⟩, -, X4, ⟨Lc4, hQ4, l4, y4, z4⟩, st4⟩ := Jvm.Stand.specialBack X2 hx (y := own_m7) rfl hown (mvT hZ (own_w G 77 rfl)) (mvT hZ (own_w G 52 rfl)) (mvT hZ (own_w G 53 rfl)) (by decide) (backOf (W := 1) (rmqi l Z a0 G [] b2 (.ref y1) .null (.ref y2) .null .null .null h2 n0 O3 A2 F2_catalog F2_schema F2_name (rfl : (Value.ref y1).isRef = true) (rfl : Value.null.isRef = true) (rfl : (Value.ref y2).isRef = true) (by omega)) hZ (own_w G 53 rfl) (own_w G 50 rfl) (by decide) (by decide)) (g := (mkF m 30 #[.val (.ref x0), .val (.ref y1), .val (.ref y2)] [(.ref y2), .null, (.ref y1), (.ref b2), (.ref b2)])) rfl (by rw [hml]; rfl) (Steps.refl _) (a := b2) (argsL := [(.ref y1), .null, (.ref y2)]) (rest := [(.ref b2)]) (lenOf pd_5 rfl) rfl (by show 2 * 0 + _ ≤ _; exact Nat.le_of_eq rfl) (hb hby d8_30) (fun _ _ => ⟨rfl, e2, (by decide : 1 + 0 ≤ _), (by decide : 3 + 0 ≤ _)⟩)
  dsimp only [Pt.U, Pt.locs, Pt.cells, Pt.slots] at X4 l4 y4 z4 st4 hQ4
  subst l4 y4 z4
  obtain ⟨rfl, N4q, Kq4, r4_0, r4_1, r4_2⟩ := hQ4
  have N4 := Fr.app N0 N4q
  have sz5 := Kq4.1
  have K5 := K3.trans Kq4 (own_all1 (Or.inr (by omega)))
  have O5 := O3.keep Kq4 (own_all1 (by omega))
  have ltr4_0 := own_ltN' r4_0.lt
  have ltr4_1 := own_ltN' r4_1.lt
  have ltr4_2 := own_ltN' r4_2.lt
  refine OwnEnd.tr (S' := T4.setTop (mkF m 33 #[.val (.ref x0), .val (.ref y1), .val (.ref y2)] [(.ref b2)])) st4 ?_
  refine OwnEnd.ret X4 (v := (some (.ref b2))) (fun h => by rw [Bd.returns] at h; cases h) hlk (fun fs hr => retOut X4 hx Bd.returns rfl (Or.inr (Or.inr (Or.inr (Or.inr ⟨rfl, rfl, rfl⟩)))) (hb hby d8_33) hr) (by decide) (by decide) (Q := Qsn Z x0 y1 y2 h0 n0) rfl ?_
  exact ⟨b2, rfl, N4, K5, r4_0, r4_1, r4_2⟩

theorem own_efsr (m : MethodId) (x0 : Addr) (y1 : Addr) (y2 : Addr) : entryFrame m #[(.ref x0), (.ref y1), (.ref y2)] 3 = mkF m 0 #[.val (.ref x0), .val (.ref y1), .val (.ref y2)] [] := by first | (simp [entryFrame, mkF, argsToLocals, Value.category]; done) | rfl
def Qsr (Z : State) (x0 : Addr) (y1 : Addr) (y2 : Addr) (y3 : Addr) (v1 : Value) (h0 : Heap) (n0 : Nat) (v : Option Value) (h : Heap) (L : List Loc) : Prop := ∃ (x : Addr), v = some (.ref x) ∧ Fr n0 L ∧ Keep h0 h [] ∧ (Exa Z h x "com/example/relfix/relfix/DatabaseTable$QualifiedName") ∧ (Fld Z h x "com/example/relfix/relfix/DatabaseTable$QualifiedName" "schema" "Ljava/lang/String;" (.ref y1))
set_option maxRecDepth 65536 in
set_option maxHeartbeats 40000000 in
theorem rmsr (l : Launch) (Z : State) (a0 : Array Value) (G : OwnG Z a0) (ws : List Jvm.Cond) (x0 : Addr) (y1 : Addr) (y2 : Addr) (y3 : Addr) (v1 : Value) (h0 : Heap) (n0 : Nat) (O0 : Old Z n0 h0) (P0 : Fld Z h0 x0 "com/example/relfix/relfix/DatabaseTable$QualifiedName" "schema" "Ljava/lang/String;" (.ref y3)) (P1 : Fld Z h0 x0 "com/example/relfix/relfix/DatabaseTable$QualifiedName" "catalog" "Ljava/lang/String;" v1) (P2 : v1.isRef = true) :
    MetFree l own_m9 (head1 (Jvm.Cond.code own_m9 prog_37_method_3_code 3 (some (.object "com/example/relfix/relfix/DatabaseTable$QualifiedName")) :: ws) ({ frames := 3, cells := 1, slots := 3, locals := 40 } : Room)) (fun a U => a = #[(.ref x0), (.ref y1), (.ref y2)] ∧ Z.Warmed39 U.vm ∧ U.heap = h0) (fun _ _ _ _ _ => True) (fun _ U o U' => ∃ v L, o = .returned v ∧ Qsr Z x0 y1 y2 y3 v1 h0 n0 v U'.heap L ∧ FrameEnd U o U' L ({ frames := 3, cells := 1, slots := 3, locals := 40 } : Room).cells ({ frames := 3, cells := 1, slots := 3, locals := 40 } : Room).slots) := by
  refine MetFree.of_bodySF (plainFor_of_name pn_4) hisR ?_
  intro p e s m args below meth c s₁ Bd hml0 hP hK
  obtain ⟨rfl, hZ, hh⟩ := hP
  have hw := G.1
  have hx := Bd.exec
  have hby := Bd.bytes
  have hml : c.maxLocals = 3 := hml0
  have hown : s.vm.findClass "com/example/relfix/relfix/DatabaseTable$QualifiedName" = some m.cls := findClass_of_methodNamed Bd.named
  have hnm := (name_of_methodNamed Bd.named Bd.method).1
  have hlk := Bd.notSynchronized
  have X0 : Stand p l e ({ frames := 3, cells := 1, slots := 3, locals := 40 } : Room) s m #[(.ref x0), (.ref y1), (.ref y2)] below meth c s₁ [] 0 0 := Stand.of_body Bd
  have e0 : s₁.heap = h0 := by rw [← hh, Bd.state]; rfl
  have lt0 := own_ltN' P0.lt
  have lt1 := own_ltN' P1.lt
  have K0 : Keep h0 h0 [] := Keep.refl h0 _
  have Z0 := own_old_le O0
  have N0 := Fr.nil n0
  refine OwnEnd.start (g' := (mkF m 0 #[.val (.ref x0), .val (.ref y1), .val (.ref y2)] [])) (own_efsr m x0 y1 y2) ?_
  refine OwnEnd.of (S' := s₁.setTop (mkF m 1 #[.val (.ref x0), .val (.ref y1), .val (.ref y2)] [(.ref x0)])) (fun _ k => XS.aloadN X0.here hx rfl (hb hby d8_0) rfl rfl k) ?_
  obtain ⟨T1, X1, e1, st1⟩ := getF X0 hx hZ hown (host := "") (Or.inl (own_w G 62 rfl)) Via.refl e0 P0 (g := (mkF m 1 #[.val (.ref x0), .val (.ref y1), .val (.ref y2)] [(.ref x0)])) rfl rfl (hb hby d8_1)
  refine OwnEnd.of (S' := T1.setTop (mkF m 4 #[.val (.ref x0), .val (.ref y1), .val (.ref y2)] [(.ref y3)])) st1 ?_
  refine OwnEnd.of (S' := T1.setTop (mkF m 7 #[.val (.ref x0), .val (.ref y1), .val (.ref y2)] [])) (fun _ k => XS.ifnullNo X1.here hx rfl (hb hby d8_4) rfl k) ?_
  obtain ⟨T2, h2, X2, e2, E2, A2, D2, -, st2⟩ := newO X1 hx hZ hown (own_w G 76 rfl) (own_w G 49 rfl) (own_w G 50 rfl) e1 (g := (mkF m 7 #[.val (.ref x0), .val (.ref y1), .val (.ref y2)] [])) rfl (hb hby d8_7) (by decide) (by decide)
  obtain ⟨b2, g2⟩ : ∃ z, z = Array.size h0 := ⟨_, rfl⟩
  rw [← g2] at A2 D2 st2
  have lt_b2 := own_ltN' A2.lt
  have sz3 := E2.1
  have K3 := K0.ext E2
  have O3 := O0.ext E2
  have F2_catalog : Fld Z h2 b2 "com/example/relfix/relfix/DatabaseTable$QualifiedName" "catalog" "Ljava/lang/String;" .null := D2 (Or.inr (own_w G 61 rfl)) (ty := (.object "java/lang/String")) (by decide)
  have F2_schema : Fld Z h2 b2 "com/example/relfix/relfix/DatabaseTable$QualifiedName" "schema" "Ljava/lang/String;" .null := D2 (Or.inr (own_w G 63 rfl)) (ty := (.object "java/lang/String")) (by decide)
  have F2_name : Fld Z h2 b2 "com/example/relfix/relfix/DatabaseTable$QualifiedName" "name" "Ljava/lang/String;" .null := D2 (Or.inr (own_w G 65 rfl)) (ty := (.object "java/lang/String")) (by decide)
  refine OwnEnd.of (S' := T2.setTop (mkF m 10 #[.val (.ref x0), .val (.ref y1), .val (.ref y2)] [(.ref b2)])) st2 ?_
  refine OwnEnd.of (S' := T2.setTop (mkF m 12 #[.val (.ref x0), .val (.ref y1), .val (.ref y2)] [(.ref x0), (.ref b2), (.ref b2)])) (fun _ k => XS.dup X2.here hx rfl (hb hby d8_10) rfl rfl (XS.aloadN X2.here hx rfl (hb hby d8_11) rfl rfl k)) ?_
  have f5 : Fld Z h2 x0 "com/example/relfix/relfix/DatabaseTable$QualifiedName" "catalog" "Ljava/lang/String;" v1 := (P1.ext E2)
  obtain ⟨T4, X4, e4, st4⟩ := getF X2 hx hZ hown (host := "") (Or.inl (own_w G 60 rfl)) Via.refl e2 f5 (g := (mkF m 12 #[.val (.ref x0), .val (.ref y1), .val (.ref y2)] [(.ref x0), (.ref b2), (.ref b2)])) rfl rfl (hb hby d8_12)
  refine OwnEnd.of (S' := T4.setTop (mkF m 15 #[.val (.ref x0), .val (.ref y1), .val (.ref y2)] [v1, (.ref b2), (.ref b2)])) st4 ?_
  refine OwnEnd.of (S' := T4.setTop (mkF m 17 #[.val (.ref x0), .val (.ref y1), .val (.ref y2)] [(.ref y2), (.ref y1), v1, (.ref b2), (.ref b2)])) (fun _ k => XS.aloadN X4.here hx rfl (hb hby d8_15) rfl rfl (XS.aloadN X4.here hx rfl (hb hby d8_16) rfl rfl k)) ?_
  obtain ⟨_, _, ⟨T6, L6, k6, n6⟩, -, X6, ⟨Lc6, hQ6, l6, y6, z6⟩, st6⟩ := Jvm.Stand.specialBack X4 hx (y := own_m7) rfl hown (mvT hZ (own_w G 77 rfl)) (mvT hZ (own_w G 52 rfl)) (mvT hZ (own_w G 53 rfl)) (by decide) (backOf (W := 1) (rmqi l Z a0 G [] b2 v1 (.ref y1) (.ref y2) .null .null .null h2 n0 O3 A2 F2_catalog F2_schema F2_name (P2 : v1.isRef = true) (rfl : (Value.ref y1).isRef = true) (rfl : (Value.ref y2).isRef = true) (by omega)) hZ (own_w G 53 rfl) (own_w G 50 rfl) (by decide) (by decide)) (g := (mkF m 17 #[.val (.ref x0), .val (.ref y1), .val (.ref y2)] [(.ref y2), (.ref y1), v1, (.ref b2), (.ref b2)])) rfl (by rw [hml]; rfl) (Steps.refl _) (a := b2) (argsL := [v1, (.ref y1), (.ref y2)]) (rest := [(.ref b2)]) (lenOf pd_5 rfl) rfl (by show 2 * 0 + _ ≤ _; exact Nat.le_of_eq rfl) (hb hby d8_17) (fun _ _ => ⟨rfl, e4, (by decide : 1 + 0 ≤ _), (by decide : 3 + 0 ≤ _)⟩)
  dsimp only [Pt.U, Pt.locs, Pt.cells, Pt.slots] at X6 l6 y6 z6 st6 hQ6
  subst l6 y6 z6
  obtain ⟨rfl, N6q, Kq6, r6_0, r6_1, r6_2⟩ := hQ6
  have N6 := Fr.app N0 N6q
  have sz7 := Kq6.1
  have K7 := K3.trans Kq6 (own_all1 (Or.inr (by omega)))
  have O7 := O3.keep Kq6 (own_all1 (by omega))
  have ltr6_0 := own_ltN' r6_0.lt
  have ltr6_1 := own_ltN' r6_1.lt
  have ltr6_2 := own_ltN' r6_2.lt
  refine OwnEnd.tr (S' := T6.setTop (mkF m 20 #[.val (.ref x0), .val (.ref y1), .val (.ref y2)] [(.ref b2)])) st6 ?_
  refine OwnEnd.of (S' := T6.setTop (mkF m 33 #[.val (.ref x0), .val (.ref y1), .val (.ref y2)] [(.ref b2)])) (fun _ k => XS.goto X6.here hx rfl (pc0 := 20) (pc' := 33) rfl (hb hby d8_20) (by decide) (by decide) k) ?_
  refine OwnEnd.ret X6 (v := (some (.ref b2))) (fun h => by rw [Bd.returns] at h; cases h) hlk (fun fs hr => retOut X6 hx Bd.returns rfl (Or.inr (Or.inr (Or.inr (Or.inr ⟨rfl, rfl, rfl⟩)))) (hb hby d8_33) hr) (by decide) (by decide) (Q := Qsr Z x0 y1 y2 y3 v1 h0 n0) rfl ?_
  exact ⟨b2, rfl, N6, K7, r6_0, r6_2⟩

theorem own_eflaw (m : MethodId) (p0 : Int32) (p1 : Int32) (p2 : Int32) (p3 : Int32) : entryFrame m #[(.int p0), (.int p1), (.int p2), (.int p3)] maxLocals = mkF m 0 #[.val (.int p0), .val (.int p1), .val (.int p2), .val (.int p3), .unset, .unset, .unset, .unset, .unset, .unset, .unset, .unset, .unset] [] := by first | (simp [entryFrame, mkF, argsToLocals, Value.category, maxLocals]; done) | rfl
def Qlaw (Z : State) (p0 : Int32) (p1 : Int32) (p2 : Int32) (p3 : Int32) (h0 : Heap) (n0 : Nat) (v : Option Value) (h : Heap) (L : List Loc) : Prop := v = some (.int (1 : Int32)) ∧ Fr n0 L ∧ Keep h0 h []
set_option maxRecDepth 65536 in
set_option maxHeartbeats 40000000 in
theorem rmlaw (l : Launch) (Z : State) (a0 : Array Value) (G : OwnG Z a0) (ws : List Jvm.Cond) (p0 : Int32) (p1 : Int32) (p2 : Int32) (p3 : Int32) (h0 : Heap) (n0 : Nat) (O0 : Old Z n0 h0)  :
    MetFree l x (head1 (Jvm.Cond.code x code maxLocals ret :: ws) room_1) (fun a U => a = #[(.int p0), (.int p1), (.int p2), (.int p3)] ∧ Z.Warmed39 U.vm ∧ U.heap = h0) (fun _ _ _ _ _ => True) (fun _ U o U' => ∃ v L, o = .returned v ∧ Qlaw Z p0 p1 p2 p3 h0 n0 v U'.heap L ∧ FrameEnd U o U' L room_1.cells room_1.slots) := by
  refine MetFree.of_bodySF (plainFor_of_name pn_2) hisR ?_
  intro p e s m args below meth c s₁ Bd hml0 hP hK
  obtain ⟨rfl, hZ, hh⟩ := hP
  have hw := G.1
  have hx := Bd.exec
  have hby := Bd.bytes
  have hml : c.maxLocals = 13 := hml0
  have hown : s.vm.findClass "com/example/relfix/relfix/QualifiedNameQualifierPinLaw" = some m.cls := findClass_of_methodNamed Bd.named
  have hnm := (name_of_methodNamed Bd.named Bd.method).1
  have hlk := Bd.notSynchronized
  have X0 : Stand p l e room_1 s m #[(.int p0), (.int p1), (.int p2), (.int p3)] below meth c s₁ [] 0 0 := Stand.of_body Bd
  have e0 : s₁.heap = h0 := by rw [← hh, Bd.state]; rfl
  have K0 : Keep h0 h0 [] := Keep.refl h0 _
  have Z0 := own_old_le O0
  have N0 := Fr.nil n0
  refine OwnEnd.start (g' := (mkF m 0 #[.val (.int p0), .val (.int p1), .val (.int p2), .val (.int p3), .unset, .unset, .unset, .unset, .unset, .unset, .unset, .unset, .unset] [])) (own_eflaw m p0 p1 p2 p3) ?_
  refine OwnEnd.of (S' := s₁.setTop (mkF m 3 #[.val (.int p0), .val (.int p1), .val (.int p2), .val (.int p3), .unset, .unset, .unset, .unset, .unset, .unset, .unset, .unset, .unset] [(.int (p0 &&& (1 : Int32)))])) (fun _ k => XS.iloadN X0.here hx rfl (hb hby at_0) rfl (XS.iconst X0.here hx rfl (hb hby at_1) (XS.iand X0.here hx rfl (hb hby at_2) rfl k))) ?_
  rcases Decidable.em ((p0 &&& (1 : Int32)) = (0 : Int32)) with hc1 | hc1
  · refine OwnEnd.of (S' := s₁.setTop (mkF m 11 #[.val (.int p0), .val (.int p1), .val (.int p2), .val (.int p3), .unset, .unset, .unset, .unset, .unset, .unset, .unset, .unset, .unset] [(.int p1)])) (fun _ k => XS.ifYes X0.here hx rfl (pc0 := 3) (pc' := 10) rfl (hb hby at_3) rfl ((if0 _ _).trans (teq (hc1)).1) (by decide) (by decide) (XS.iloadN X0.here hx rfl (hb hby at_10) rfl k)) ?_
    obtain ⟨_, _, ⟨T2, L2, k2, n2⟩, -, X2, ⟨Lc2, hQ2, l2, y2, z2⟩, st2⟩ := Jvm.LawKit.callS X0 hx (y := own_m5) hown (mvT hZ (own_w G 0 rfl)) (mvT hZ (own_w G 1 rfl)) (mvT hZ (own_w G 2 rfl)) (mvT hZ (own_w G 3 rfl)) (by decide) (backOf (W := 0) (rmdr l Z a0 G [] p1 h0 n0 O0 ) hZ (own_w G 3 rfl) (own_w G 2 rfl) (by decide) (by decide)) (g := (mkF m 11 #[.val (.int p0), .val (.int p1), .val (.int p2), .val (.int p3), .unset, .unset, .unset, .unset, .unset, .unset, .unset, .unset, .unset] [(.int p1)])) rfl (by rw [hml]; rfl) (argsL := [(.int p1)]) (rest := []) (lenOf pd_6 rfl) rfl (by show 2 * 0 + _ ≤ _; exact Nat.le_of_eq rfl) (hb hby at_11) (fun _ _ => ⟨rfl, e0, (by decide : 0 + 3 ≤ _), (by decide : 0 + 8 ≤ _)⟩)
    dsimp only [Pt.U, Pt.locs, Pt.cells, Pt.slots] at X2 l2 y2 z2 st2 hQ2
    subst l2 y2 z2
    obtain ⟨x2, rfl, N2q, Kq2, r2_0, r2_1⟩ := hQ2
    have N2 := Fr.app N0 N2q
    have sz3 := Kq2.1
    have K3 := K0.trans Kq2 (own_all0 )
    have O3 := O0.keep Kq2 (own_all0 )
    have ltr2_0 := own_ltN' r2_0.lt
    refine OwnEnd.of (S' := T2.setTop (mkF m 14 #[.val (.int p0), .val (.int p1), .val (.int p2), .val (.int p3), .unset, .unset, .unset, .unset, .unset, .unset, .unset, .unset, .unset] [(.ref x2)])) st2 ?_
    refine OwnEnd.of (S' := T2.setTop (mkF m 19 #[.val (.int p0), .val (.int p1), .val (.int p2), .val (.int p3), .val (.ref x2), .unset, .unset, .unset, .unset, .unset, .unset, .unset, .unset] [(.int (p0 &&& (2 : Int32)))])) (fun _ k => XS.astore X2.here hx rfl (hb hby at_14) rfl rfl (l' := #[.val (.int p0), .val (.int p1), .val (.int p2), .val (.int p3), .val (.ref x2), .unset, .unset, .unset, .unset, .unset, .unset, .unset, .unset]) rfl (XS.iloadN X2.here hx rfl (hb hby at_16) rfl (XS.iconst X2.here hx rfl (hb hby at_17) (XS.iand X2.here hx rfl (hb hby at_18) rfl k)))) ?_
    rcases Decidable.em ((p0 &&& (2 : Int32)) = (0 : Int32)) with hc4 | hc4
    · refine OwnEnd.of (S' := T2.setTop (mkF m 27 #[.val (.int p0), .val (.int p1), .val (.int p2), .val (.int p3), .val (.ref x2), .unset, .unset, .unset, .unset, .unset, .unset, .unset, .unset] [(.int p2)])) (fun _ k => XS.ifYes X2.here hx rfl (pc0 := 19) (pc' := 26) rfl (hb hby at_19) rfl ((if0 _ _).trans (teq (hc4)).1) (by decide) (by decide) (XS.iloadN X2.here hx rfl (hb hby at_26) rfl k)) ?_
      obtain ⟨_, _, ⟨T5, L5, k5, n5⟩, -, X5, ⟨Lc5, hQ5, l5, y5, z5⟩, st5⟩ := Jvm.LawKit.callS X2 hx (y := own_m5) hown (mvT hZ (own_w G 0 rfl)) (mvT hZ (own_w G 1 rfl)) (mvT hZ (own_w G 2 rfl)) (mvT hZ (own_w G 3 rfl)) (by decide) (backOf (W := 0) (rmdr l Z a0 G [] p2 T2.heap n0 O3 ) hZ (own_w G 3 rfl) (own_w G 2 rfl) (by decide) (by decide)) (g := (mkF m 27 #[.val (.int p0), .val (.int p1), .val (.int p2), .val (.int p3), .val (.ref x2), .unset, .unset, .unset, .unset, .unset, .unset, .unset, .unset] [(.int p2)])) rfl (by rw [hml]; rfl) (argsL := [(.int p2)]) (rest := []) (lenOf pd_6 rfl) rfl (by show 2 * 0 + _ ≤ _; exact Nat.le_of_eq rfl) (hb hby at_27) (fun _ _ => ⟨rfl, rfl, (by decide : 3 + 3 ≤ _), (by decide : 8 + 8 ≤ _)⟩)
      dsimp only [Pt.U, Pt.locs, Pt.cells, Pt.slots] at X5 l5 y5 z5 st5 hQ5
      subst l5 y5 z5
      obtain ⟨x5, rfl, N5q, Kq5, r5_0, r5_1⟩ := hQ5
      have N5 := Fr.app N2 N5q
      have sz6 := Kq5.1
      have K6 := K3.trans Kq5 (own_all0 )
      have O6 := O3.keep Kq5 (own_all0 )
      have ltr5_0 := own_ltN' r5_0.lt
      refine OwnEnd.of (S' := T5.setTop (mkF m 30 #[.val (.int p0), .val (.int p1), .val (.int p2), .val (.int p3), .val (.ref x2), .unset, .unset, .unset, .unset, .unset, .unset, .unset, .unset] [(.ref x5)])) st5 ?_
      refine OwnEnd.of (S' := T5.setTop (mkF m 41 #[.val (.int p0), .val (.int p1), .val (.int p2), .val (.int p3), .val (.ref x2), .val (.ref x5), .unset, .unset, .unset, .unset, .unset, .unset, .unset] [(.int (nar .char (((p0).toUInt32 >>> ((8 : Int32) &&& 31).toUInt32).toInt32 &&& (255 : Int32))))])) (fun _ k => XS.astore X5.here hx rfl (hb hby at_30) rfl rfl (l' := #[.val (.int p0), .val (.int p1), .val (.int p2), .val (.int p3), .val (.ref x2), .val (.ref x5), .unset, .unset, .unset, .unset, .unset, .unset, .unset]) rfl (XS.iloadN X5.here hx rfl (hb hby at_32) rfl (XS.bipush X5.here hx rfl (hb hby at_33) (XS.iushr X5.here hx rfl (hb hby at_35) rfl (XS.sipush X5.here hx rfl (hb hby at_36) (XS.iand X5.here hx rfl (hb hby at_39) rfl (XS.i2c X5.here hx rfl (hb hby at_40) rfl k))))))) ?_
      obtain ⟨_, _, ⟨T7, L7, k7, n7⟩, -, X7, ⟨Lc7, hQ7, l7, y7, z7⟩, st7⟩ := Jvm.LawKit.callS X5 hx (y := own_m3) hown (mvT hZ (own_w G 34 rfl)) (mvT hZ (own_w G 35 rfl)) (mvT hZ (own_w G 6 rfl)) (mvT hZ (own_w G 36 rfl)) (by decide) (backOf (W := 0) (rmvo l Z a0 G [] (nar .char (((p0).toUInt32 >>> ((8 : Int32) &&& 31).toUInt32).toInt32 &&& (255 : Int32))) T5.heap n0 O6 ((own_c255 _).2 : ¬ (255 : Int32) < (nar .char (((p0).toUInt32 >>> ((8 : Int32) &&& 31).toUInt32).toInt32 &&& (255 : Int32))))) hZ (own_w G 36 rfl) (own_w G 6 rfl) (by decide) (by decide)) (g := (mkF m 41 #[.val (.int p0), .val (.int p1), .val (.int p2), .val (.int p3), .val (.ref x2), .val (.ref x5), .unset, .unset, .unset, .unset, .unset, .unset, .unset] [(.int (nar .char (((p0).toUInt32 >>> ((8 : Int32) &&& 31).toUInt32).toInt32 &&& (255 : Int32))))])) rfl (by rw [hml]; rfl) (argsL := [(.int (nar .char (((p0).toUInt32 >>> ((8 : Int32) &&& 31).toUInt32).toInt32 &&& (255 : Int32))))]) (rest := []) (lenOf pd_7 rfl) rfl (by show 2 * 0 + _ ≤ _; exact Nat.le_of_eq rfl) (hb hby at_41) (fun _ _ => ⟨rfl, rfl, (by decide : 6 + 2 ≤ _), (by decide : 16 + 5 ≤ _)⟩)
      dsimp only [Pt.U, Pt.locs, Pt.cells, Pt.slots] at X7 l7 y7 z7 st7 hQ7
      subst l7 y7 z7
      obtain ⟨x7, rfl, N7q, Kq7, r7_0, r7_1⟩ := hQ7
      have N7 := Fr.app N5 N7q
      have sz8 := Kq7.1
      have K8 := K6.trans Kq7 (own_all0 )
      have O8 := O6.keep Kq7 (own_all0 )
      have ltr7_0 := own_ltN' r7_0.lt
      refine OwnEnd.of (S' := T7.setTop (mkF m 44 #[.val (.int p0), .val (.int p1), .val (.int p2), .val (.int p3), .val (.ref x2), .val (.ref x5), .unset, .unset, .unset, .unset, .unset, .unset, .unset] [(.ref x7)])) st7 ?_
      refine OwnEnd.of (S' := T7.setTop (mkF m 52 #[.val (.int p0), .val (.int p1), .val (.int p2), .val (.int p3), .val (.ref x2), .val (.ref x5), .val (.ref x7), .unset, .unset, .unset, .unset, .unset, .unset] [(.int (nar .char (p3 &&& (255 : Int32))))])) (fun _ k => XS.astore X7.here hx rfl (hb hby at_44) rfl rfl (l' := #[.val (.int p0), .val (.int p1), .val (.int p2), .val (.int p3), .val (.ref x2), .val (.ref x5), .val (.ref x7), .unset, .unset, .unset, .unset, .unset, .unset]) rfl (XS.iloadN X7.here hx rfl (hb hby at_46) rfl (XS.sipush X7.here hx rfl (hb hby at_47) (XS.iand X7.here hx rfl (hb hby at_50) rfl (XS.i2c X7.here hx rfl (hb hby at_51) rfl k))))) ?_
      obtain ⟨_, _, ⟨T9, L9, k9, n9⟩, -, X9, ⟨Lc9, hQ9, l9, y9, z9⟩, st9⟩ := Jvm.LawKit.callS X7 hx (y := own_m3) hown (mvT hZ (own_w G 34 rfl)) (mvT hZ (own_w G 35 rfl)) (mvT hZ (own_w G 6 rfl)) (mvT hZ (own_w G 36 rfl)) (by decide) (backOf (W := 0) (rmvo l Z a0 G [] (nar .char (p3 &&& (255 : Int32))) T7.heap n0 O8 ((own_c255 _).2 : ¬ (255 : Int32) < (nar .char (p3 &&& (255 : Int32))))) hZ (own_w G 36 rfl) (own_w G 6 rfl) (by decide) (by decide)) (g := (mkF m 52 #[.val (.int p0), .val (.int p1), .val (.int p2), .val (.int p3), .val (.ref x2), .val (.ref x5), .val (.ref x7), .unset, .unset, .unset, .unset, .unset, .unset] [(.int (nar .char (p3 &&& (255 : Int32))))])) rfl (by rw [hml]; rfl) (argsL := [(.int (nar .char (p3 &&& (255 : Int32))))]) (rest := []) (lenOf pd_7 rfl) rfl (by show 2 * 0 + _ ≤ _; exact Nat.le_of_eq rfl) (hb hby at_52) (fun _ _ => ⟨rfl, rfl, (by decide : 8 + 2 ≤ _), (by decide : 21 + 5 ≤ _)⟩)
      dsimp only [Pt.U, Pt.locs, Pt.cells, Pt.slots] at X9 l9 y9 z9 st9 hQ9
      subst l9 y9 z9
      obtain ⟨x9, rfl, N9q, Kq9, r9_0, r9_1⟩ := hQ9
      have N9 := Fr.app N7 N9q
      have sz10 := Kq9.1
      have K10 := K8.trans Kq9 (own_all0 )
      have O10 := O8.keep Kq9 (own_all0 )
      have ltr9_0 := own_ltN' r9_0.lt
      refine OwnEnd.of (S' := T9.setTop (mkF m 55 #[.val (.int p0), .val (.int p1), .val (.int p2), .val (.int p3), .val (.ref x2), .val (.ref x5), .val (.ref x7), .unset, .unset, .unset, .unset, .unset, .unset] [(.ref x9)])) st9 ?_
      refine OwnEnd.of (S' := T9.setTop (mkF m 57 #[.val (.int p0), .val (.int p1), .val (.int p2), .val (.int p3), .val (.ref x2), .val (.ref x5), .val (.ref x7), .val (.ref x9), .unset, .unset, .unset, .unset, .unset] [])) (fun _ k => XS.astore X9.here hx rfl (hb hby at_55) rfl rfl (l' := #[.val (.int p0), .val (.int p1), .val (.int p2), .val (.int p3), .val (.ref x2), .val (.ref x5), .val (.ref x7), .val (.ref x9), .unset, .unset, .unset, .unset, .unset]) rfl k) ?_
      obtain ⟨T11, h11, X11, e11, E11, A11, D11, -, st11⟩ := newO X9 hx hZ hown (own_w G 48 rfl) (own_w G 49 rfl) (own_w G 50 rfl) rfl (g := (mkF m 57 #[.val (.int p0), .val (.int p1), .val (.int p2), .val (.int p3), .val (.ref x2), .val (.ref x5), .val (.ref x7), .val (.ref x9), .unset, .unset, .unset, .unset, .unset] [])) rfl (hb hby at_57) (by decide) (by decide)
      obtain ⟨b11, g11⟩ : ∃ z, z = Array.size T9.heap := ⟨_, rfl⟩
      rw [← g11] at A11 D11 st11
      have lt_b11 := own_ltN' A11.lt
      have sz12 := E11.1
      have K12 := K10.ext E11
      have O12 := O10.ext E11
      have F11_catalog : Fld Z h11 b11 "com/example/relfix/relfix/DatabaseTable$QualifiedName" "catalog" "Ljava/lang/String;" .null := D11 (Or.inr (own_w G 61 rfl)) (ty := (.object "java/lang/String")) (by decide)
      have F11_schema : Fld Z h11 b11 "com/example/relfix/relfix/DatabaseTable$QualifiedName" "schema" "Ljava/lang/String;" .null := D11 (Or.inr (own_w G 63 rfl)) (ty := (.object "java/lang/String")) (by decide)
      have F11_name : Fld Z h11 b11 "com/example/relfix/relfix/DatabaseTable$QualifiedName" "name" "Ljava/lang/String;" .null := D11 (Or.inr (own_w G 65 rfl)) (ty := (.object "java/lang/String")) (by decide)
      refine OwnEnd.of (S' := T11.setTop (mkF m 60 #[.val (.int p0), .val (.int p1), .val (.int p2), .val (.int p3), .val (.ref x2), .val (.ref x5), .val (.ref x7), .val (.ref x9), .unset, .unset, .unset, .unset, .unset] [(.ref b11)])) st11 ?_
      refine OwnEnd.of (S' := T11.setTop (mkF m 67 #[.val (.int p0), .val (.int p1), .val (.int p2), .val (.int p3), .val (.ref x2), .val (.ref x5), .val (.ref x7), .val (.ref x9), .unset, .unset, .unset, .unset, .unset] [(.ref x7), (.ref x5), (.ref x2), (.ref b11), (.ref b11)])) (fun _ k => XS.dup X11.here hx rfl (hb hby at_60) rfl rfl (XS.aload X11.here hx rfl (hb hby at_61) rfl rfl (XS.aload X11.here hx rfl (hb hby at_63) rfl rfl (XS.aload X11.here hx rfl (hb hby at_65) rfl rfl k)))) ?_
      obtain ⟨_, _, ⟨T13, L13, k13, n13⟩, -, X13, ⟨Lc13, hQ13, l13, y13, z13⟩, st13⟩ := Jvm.Stand.specialBack X11 hx (y := own_m7) rfl hown (mvT hZ (own_w G 51 rfl)) (mvT hZ (own_w G 52 rfl)) (mvT hZ (own_w G 53 rfl)) (by decide) (backOf (W := 1) (rmqi l Z a0 G [] b11 (.ref x2) (.ref x5) (.ref x7) .null .null .null h11 n0 O12 A11 F11_catalog F11_schema F11_name (rfl : (Value.ref x2).isRef = true) (rfl : (Value.ref x5).isRef = true) (rfl : (Value.ref x7).isRef = true) (by omega)) hZ (own_w G 53 rfl) (own_w G 50 rfl) (by decide) (by decide)) (g := (mkF m 67 #[.val (.int p0), .val (.int p1), .val (.int p2), .val (.int p3), .val (.ref x2), .val (.ref x5), .val (.ref x7), .val (.ref x9), .unset, .unset, .unset, .unset, .unset] [(.ref x7), (.ref x5), (.ref x2), (.ref b11), (.ref b11)])) rfl (by rw [hml]; rfl) (Steps.refl _) (a := b11) (argsL := [(.ref x2), (.ref x5), (.ref x7)]) (rest := [(.ref b11)]) (lenOf pd_5 rfl) rfl (by show 2 * 0 + _ ≤ _; exact Nat.le_of_eq rfl) (hb hby at_67) (fun _ _ => ⟨rfl, e11, (by decide : 11 + 0 ≤ _), (by decide : 29 + 0 ≤ _)⟩)
      dsimp only [Pt.U, Pt.locs, Pt.cells, Pt.slots] at X13 l13 y13 z13 st13 hQ13
      subst l13 y13 z13
      obtain ⟨rfl, N13q, Kq13, r13_0, r13_1, r13_2⟩ := hQ13
      have N13 := Fr.app N9 N13q
      have sz14 := Kq13.1
      have K14 := K12.trans Kq13 (own_all1 (Or.inr (by omega)))
      have O14 := O12.keep Kq13 (own_all1 (by omega))
      have ltr13_0 := own_ltN' r13_0.lt
      have ltr13_1 := own_ltN' r13_1.lt
      have ltr13_2 := own_ltN' r13_2.lt
      refine OwnEnd.tr (S' := T13.setTop (mkF m 70 #[.val (.int p0), .val (.int p1), .val (.int p2), .val (.int p3), .val (.ref x2), .val (.ref x5), .val (.ref x7), .val (.ref x9), .unset, .unset, .unset, .unset, .unset] [(.ref b11)])) st13 ?_
      refine OwnEnd.of (S' := T13.setTop (mkF m 74 #[.val (.int p0), .val (.int p1), .val (.int p2), .val (.int p3), .val (.ref x2), .val (.ref x5), .val (.ref x7), .val (.ref x9), .val (.ref b11), .unset, .unset, .unset, .unset] [(.ref b11)])) (fun _ k => XS.astore X13.here hx rfl (hb hby at_70) rfl rfl (l' := #[.val (.int p0), .val (.int p1), .val (.int p2), .val (.int p3), .val (.ref x2), .val (.ref x5), .val (.ref x7), .val (.ref x9), .val (.ref b11), .unset, .unset, .unset, .unset]) rfl (XS.aload X13.here hx rfl (hb hby at_72) rfl rfl k)) ?_
      obtain ⟨cq15, kq15, q15a, q15b, q15c⟩ := isOf hZ rfl r13_0
      obtain ⟨_, _, ⟨T15, L15, k15, n15⟩, -, X15, ⟨Lc15, hQ15, l15, y15, z15⟩, st15⟩ := X13.virtualBack hx (y := own_m8) (z := own_m8) hown (mvT hZ (own_w G 66 rfl)) (mvT hZ (own_w G 67 rfl)) (notFace_of_selects (args := #[]) (mvT hZ (own_w G 69 rfl))) (mvT hZ (own_w G 69 rfl)) (mvT hZ (own_w G 68 rfl)) (by decide) (backOf (W := 0) (rmqr l Z a0 G [] b11 x5 T13.heap n0 O14 r13_2) hZ (own_w G 70 rfl) (own_w G 50 rfl) (by decide) (by decide)) q15a q15c (g := (mkF m 74 #[.val (.int p0), .val (.int p1), .val (.int p2), .val (.int p3), .val (.ref x2), .val (.ref x5), .val (.ref x7), .val (.ref x9), .val (.ref b11), .unset, .unset, .unset, .unset] [(.ref b11)])) rfl (by rw [hml]; rfl) (Steps.refl _) (argsL := []) (rest := []) (lenOf pd_8 rfl) rfl (by show 2 * 0 + _ ≤ _; exact Nat.le_of_eq rfl) (hb hby at_74) (fun _ _ => ⟨rfl, rfl, (by decide : 11 + 0 ≤ _), (by decide : 29 + 0 ≤ _)⟩)
      dsimp only [Pt.U, Pt.locs, Pt.cells, Pt.slots] at X15 l15 y15 z15 st15 hQ15
      subst l15 y15 z15
      obtain ⟨rfl, N15q, eh15⟩ := hQ15
      have N15 := Fr.app N13 N15q
      refine OwnEnd.tr (S' := T15.setTop (mkF m 77 #[.val (.int p0), .val (.int p1), .val (.int p2), .val (.int p3), .val (.ref x2), .val (.ref x5), .val (.ref x7), .val (.ref x9), .val (.ref b11), .unset, .unset, .unset, .unset] [(.ref x5)])) st15 ?_
      refine OwnEnd.of (S' := T15.setTop (mkF m 115 #[.val (.int p0), .val (.int p1), .val (.int p2), .val (.int p3), .val (.ref x2), .val (.ref x5), .val (.ref x7), .val (.ref x9), .val (.ref b11), .val (.ref x5), .val (.int (1 : Int32)), .unset, .unset] [])) (fun _ k => XS.astore X15.here hx rfl (hb hby at_77) rfl rfl (l' := #[.val (.int p0), .val (.int p1), .val (.int p2), .val (.int p3), .val (.ref x2), .val (.ref x5), .val (.ref x7), .val (.ref x9), .val (.ref b11), .val (.ref x5), .unset, .unset, .unset]) rfl (XS.aload X15.here hx rfl (hb hby at_79) rfl rfl (XS.ifnullNo X15.here hx rfl (hb hby at_81) rfl (XS.aload X15.here hx rfl (hb hby at_84) rfl rfl (XS.aload X15.here hx rfl (hb hby at_86) rfl rfl (Jvm.RoadKit.acmp (g := (mkF m 88 #[.val (.int p0), .val (.int p1), .val (.int p2), .val (.int p3), .val (.ref x2), .val (.ref x5), .val (.ref x7), .val (.ref x9), .val (.ref b11), .val (.ref x5), .unset, .unset, .unset] [(.ref x5), (.ref x5)])) X15 hx rfl (x := (.ref x5)) (y := (.ref x5)) rfl rfl (pc0 := 88) (pc' := 91) (same := true) rfl (hb hby at_88) rfl (decide_eq_true rfl) (by decide) (by decide) (XS.iconst X15.here hx rfl (hb hby at_91) (XS.goto X15.here hx rfl (pc0 := 92) (pc' := 96) rfl (hb hby at_92) (by decide) (by decide) (XS.istore X15.here hx rfl (hb hby at_96) rfl (l' := #[.val (.int p0), .val (.int p1), .val (.int p2), .val (.int p3), .val (.ref x2), .val (.ref x5), .val (.ref x7), .val (.ref x9), .val (.ref b11), .val (.ref x5), .val (.int (1 : Int32)), .unset, .unset]) rfl (XS.goto X15.here hx rfl (pc0 := 98) (pc' := 115) rfl (hb hby at_98) (by decide) (by decide) k)))))))))) ?_
      refine OwnEnd.of (S' := T15.setTop (mkF m 121 #[.val (.int p0), .val (.int p1), .val (.int p2), .val (.int p3), .val (.ref x2), .val (.ref x5), .val (.ref x7), .val (.ref x9), .val (.ref b11), .val (.ref x5), .val (.int (1 : Int32)), .unset, .unset] [(.ref x7), (.ref x9), (.ref b11)])) (fun _ k => XS.aload X15.here hx rfl (hb hby at_115) rfl rfl (XS.aload X15.here hx rfl (hb hby at_117) rfl rfl (XS.aload X15.here hx rfl (hb hby at_119) rfl rfl k))) ?_
      obtain ⟨cq16, kq16, q16a, q16b, q16c⟩ := isOf hZ eh15 r13_0
      obtain ⟨_, _, ⟨T16, L16, k16, n16⟩, -, X16, ⟨Lc16, hQ16, l16, y16, z16⟩, st16⟩ := X15.virtualBack hx (y := own_m9) (z := own_m9) hown (mvT hZ (own_w G 71 rfl)) (mvT hZ (own_w G 72 rfl)) (notFace_of_selects (args := #[]) (mvT hZ (own_w G 74 rfl))) (mvT hZ (own_w G 74 rfl)) (mvT hZ (own_w G 73 rfl)) (by decide) (backOf (W := 0) (rmsr l Z a0 G [] b11 x9 x7 x5 (.ref x2) T13.heap n0 O14 r13_2 r13_1 (rfl : (Value.ref x2).isRef = true)) hZ (own_w G 75 rfl) (own_w G 50 rfl) (by decide) (by decide)) q16a q16c (g := (mkF m 121 #[.val (.int p0), .val (.int p1), .val (.int p2), .val (.int p3), .val (.ref x2), .val (.ref x5), .val (.ref x7), .val (.ref x9), .val (.ref b11), .val (.ref x5), .val (.int (1 : Int32)), .unset, .unset] [(.ref x7), (.ref x9), (.ref b11)])) rfl (by rw [hml]; rfl) (Steps.refl _) (argsL := [(.ref x9), (.ref x7)]) (rest := []) (lenOf pd_9 rfl) rfl (by show 2 * 0 + _ ≤ _; exact Nat.le_of_eq rfl) (hb hby at_121) (fun _ _ => ⟨rfl, eh15, (by decide : 11 + 1 ≤ _), (by decide : 29 + 3 ≤ _)⟩)
      dsimp only [Pt.U, Pt.locs, Pt.cells, Pt.slots] at X16 l16 y16 z16 st16 hQ16
      subst l16 y16 z16
      obtain ⟨x16, rfl, N16q, Kq16, r16_0, r16_1⟩ := hQ16
      have N16 := Fr.app N15 N16q
      have sz17 := Kq16.1
      have K17 := K14.trans Kq16 (own_all0 )
      have O17 := O14.keep Kq16 (own_all0 )
      have ltr16_0 := own_ltN' r16_0.lt
      have ltr16_1 := own_ltN' r16_1.lt
      refine OwnEnd.tr (S' := T16.setTop (mkF m 124 #[.val (.int p0), .val (.int p1), .val (.int p2), .val (.int p3), .val (.ref x2), .val (.ref x5), .val (.ref x7), .val (.ref x9), .val (.ref b11), .val (.ref x5), .val (.int (1 : Int32)), .unset, .unset] [(.ref x16)])) st16 ?_
      refine OwnEnd.of (S' := T16.setTop (mkF m 128 #[.val (.int p0), .val (.int p1), .val (.int p2), .val (.int p3), .val (.ref x2), .val (.ref x5), .val (.ref x7), .val (.ref x9), .val (.ref b11), .val (.ref x5), .val (.int (1 : Int32)), .val (.ref x16), .unset] [(.ref x16)])) (fun _ k => XS.astore X16.here hx rfl (hb hby at_124) rfl rfl (l' := #[.val (.int p0), .val (.int p1), .val (.int p2), .val (.int p3), .val (.ref x2), .val (.ref x5), .val (.ref x7), .val (.ref x9), .val (.ref b11), .val (.ref x5), .val (.int (1 : Int32)), .val (.ref x16), .unset]) rfl (XS.aload X16.here hx rfl (hb hby at_126) rfl rfl k)) ?_
      obtain ⟨cq18, kq18, q18a, q18b, q18c⟩ := isOf hZ rfl r16_0
      obtain ⟨_, _, ⟨T18, L18, k18, n18⟩, -, X18, ⟨Lc18, hQ18, l18, y18, z18⟩, st18⟩ := X16.virtualBack hx (y := own_m8) (z := own_m8) hown (mvT hZ (own_w G 66 rfl)) (mvT hZ (own_w G 67 rfl)) (notFace_of_selects (args := #[]) (mvT hZ (own_w G 69 rfl))) (mvT hZ (own_w G 69 rfl)) (mvT hZ (own_w G 68 rfl)) (by decide) (backOf (W := 0) (rmqr l Z a0 G [] x16 x9 T16.heap n0 O17 r16_1) hZ (own_w G 70 rfl) (own_w G 50 rfl) (by decide) (by decide)) q18a q18c (g := (mkF m 128 #[.val (.int p0), .val (.int p1), .val (.int p2), .val (.int p3), .val (.ref x2), .val (.ref x5), .val (.ref x7), .val (.ref x9), .val (.ref b11), .val (.ref x5), .val (.int (1 : Int32)), .val (.ref x16), .unset] [(.ref x16)])) rfl (by rw [hml]; rfl) (Steps.refl _) (argsL := []) (rest := []) (lenOf pd_8 rfl) rfl (by show 2 * 0 + _ ≤ _; exact Nat.le_of_eq rfl) (hb hby at_128) (fun _ _ => ⟨rfl, rfl, (by decide : 12 + 0 ≤ _), (by decide : 32 + 0 ≤ _)⟩)
      dsimp only [Pt.U, Pt.locs, Pt.cells, Pt.slots] at X18 l18 y18 z18 st18 hQ18
      subst l18 y18 z18
      obtain ⟨rfl, N18q, eh18⟩ := hQ18
      have N18 := Fr.app N16 N18q
      refine OwnEnd.tr (S' := T18.setTop (mkF m 131 #[.val (.int p0), .val (.int p1), .val (.int p2), .val (.int p3), .val (.ref x2), .val (.ref x5), .val (.ref x7), .val (.ref x9), .val (.ref b11), .val (.ref x5), .val (.int (1 : Int32)), .val (.ref x16), .unset] [(.ref x9)])) st18 ?_
      refine OwnEnd.of (S' := T18.setTop (mkF m 154 #[.val (.int p0), .val (.int p1), .val (.int p2), .val (.int p3), .val (.ref x2), .val (.ref x5), .val (.ref x7), .val (.ref x9), .val (.ref b11), .val (.ref x5), .val (.int (1 : Int32)), .val (.ref x16), .val (.int (1 : Int32))] [(.int (1 : Int32))])) (fun _ k => XS.aload X18.here hx rfl (hb hby at_131) rfl rfl (Jvm.RoadKit.acmp (g := (mkF m 133 #[.val (.int p0), .val (.int p1), .val (.int p2), .val (.int p3), .val (.ref x2), .val (.ref x5), .val (.ref x7), .val (.ref x9), .val (.ref b11), .val (.ref x5), .val (.int (1 : Int32)), .val (.ref x16), .unset] [(.ref x9), (.ref x9)])) X18 hx rfl (x := (.ref x9)) (y := (.ref x9)) rfl rfl (pc0 := 133) (pc' := 136) (same := true) rfl (hb hby at_133) rfl (decide_eq_true rfl) (by decide) (by decide) (XS.iconst X18.here hx rfl (hb hby at_136) (XS.goto X18.here hx rfl (pc0 := 137) (pc' := 141) rfl (hb hby at_137) (by decide) (by decide) (XS.istore X18.here hx rfl (hb hby at_141) rfl (l' := #[.val (.int p0), .val (.int p1), .val (.int p2), .val (.int p3), .val (.ref x2), .val (.ref x5), .val (.ref x7), .val (.ref x9), .val (.ref b11), .val (.ref x5), .val (.int (1 : Int32)), .val (.ref x16), .val (.int (1 : Int32))]) rfl (XS.iload X18.here hx rfl (hb hby at_143) rfl (XS.ifNo X18.here hx rfl (hb hby at_145) rfl ((if0 _ _).trans (feq ((by decide : ¬ ((1 : Int32) = (0 : Int32))))).1) (XS.iload X18.here hx rfl (hb hby at_148) rfl (XS.ifNo X18.here hx rfl (hb hby at_150) rfl ((if0 _ _).trans (feq ((by decide : ¬ ((1 : Int32) = (0 : Int32))))).1) (XS.iconst X18.here hx rfl (hb hby at_153) k)))))))))) ?_
      refine OwnEnd.of (S' := T18.setTop (mkF m 158 #[.val (.int p0), .val (.int p1), .val (.int p2), .val (.int p3), .val (.ref x2), .val (.ref x5), .val (.ref x7), .val (.ref x9), .val (.ref b11), .val (.ref x5), .val (.int (1 : Int32)), .val (.ref x16), .val (.int (1 : Int32))] [(.int (1 : Int32))])) (fun _ k => XS.goto X18.here hx rfl (pc0 := 154) (pc' := 158) rfl (hb hby at_154) (by decide) (by decide) k) ?_
      refine OwnEnd.ret X18 (v := (some (.int (nar .boolean (1 : Int32))))) (fun h => by rw [Bd.returns] at h; cases h) hlk (fun fs hr => retN X18 hx (t := .boolean) Bd.returns (by simp) (hb hby at_158) hr) (by decide) (by decide) (Q := Qlaw Z p0 p1 p2 p3 h0 n0) eh18 ?_
      exact ⟨rfl, N18, K17⟩
    · refine OwnEnd.of (S' := T2.setTop (mkF m 41 #[.val (.int p0), .val (.int p1), .val (.int p2), .val (.int p3), .val (.ref x2), .val .null, .unset, .unset, .unset, .unset, .unset, .unset, .unset] [(.int (nar .char (((p0).toUInt32 >>> ((8 : Int32) &&& 31).toUInt32).toInt32 &&& (255 : Int32))))])) (fun _ k => XS.ifNo X2.here hx rfl (hb hby at_19) rfl ((if0 _ _).trans (feq (hc4)).1) (XS.aconstNull X2.here hx rfl (hb hby at_22) (XS.goto X2.here hx rfl (pc0 := 23) (pc' := 30) rfl (hb hby at_23) (by decide) (by decide) (XS.astore X2.here hx rfl (hb hby at_30) rfl rfl (l' := #[.val (.int p0), .val (.int p1), .val (.int p2), .val (.int p3), .val (.ref x2), .val .null, .unset, .unset, .unset, .unset, .unset, .unset, .unset]) rfl (XS.iloadN X2.here hx rfl (hb hby at_32) rfl (XS.bipush X2.here hx rfl (hb hby at_33) (XS.iushr X2.here hx rfl (hb hby at_35) rfl (XS.sipush X2.here hx rfl (hb hby at_36) (XS.iand X2.here hx rfl (hb hby at_39) rfl (XS.i2c X2.here hx rfl (hb hby at_40) rfl k)))))))))) ?_
      obtain ⟨_, _, ⟨T19, L19, k19, n19⟩, -, X19, ⟨Lc19, hQ19, l19, y19, z19⟩, st19⟩ := Jvm.LawKit.callS X2 hx (y := own_m3) hown (mvT hZ (own_w G 34 rfl)) (mvT hZ (own_w G 35 rfl)) (mvT hZ (own_w G 6 rfl)) (mvT hZ (own_w G 36 rfl)) (by decide) (backOf (W := 0) (rmvo l Z a0 G [] (nar .char (((p0).toUInt32 >>> ((8 : Int32) &&& 31).toUInt32).toInt32 &&& (255 : Int32))) T2.heap n0 O3 ((own_c255 _).2 : ¬ (255 : Int32) < (nar .char (((p0).toUInt32 >>> ((8 : Int32) &&& 31).toUInt32).toInt32 &&& (255 : Int32))))) hZ (own_w G 36 rfl) (own_w G 6 rfl) (by decide) (by decide)) (g := (mkF m 41 #[.val (.int p0), .val (.int p1), .val (.int p2), .val (.int p3), .val (.ref x2), .val .null, .unset, .unset, .unset, .unset, .unset, .unset, .unset] [(.int (nar .char (((p0).toUInt32 >>> ((8 : Int32) &&& 31).toUInt32).toInt32 &&& (255 : Int32))))])) rfl (by rw [hml]; rfl) (argsL := [(.int (nar .char (((p0).toUInt32 >>> ((8 : Int32) &&& 31).toUInt32).toInt32 &&& (255 : Int32))))]) (rest := []) (lenOf pd_7 rfl) rfl (by show 2 * 0 + _ ≤ _; exact Nat.le_of_eq rfl) (hb hby at_41) (fun _ _ => ⟨rfl, rfl, (by decide : 3 + 2 ≤ _), (by decide : 8 + 5 ≤ _)⟩)
      dsimp only [Pt.U, Pt.locs, Pt.cells, Pt.slots] at X19 l19 y19 z19 st19 hQ19
      subst l19 y19 z19
      obtain ⟨x19, rfl, N19q, Kq19, r19_0, r19_1⟩ := hQ19
      have N19 := Fr.app N2 N19q
      have sz20 := Kq19.1
      have K20 := K3.trans Kq19 (own_all0 )
      have O20 := O3.keep Kq19 (own_all0 )
      have ltr19_0 := own_ltN' r19_0.lt
      refine OwnEnd.of (S' := T19.setTop (mkF m 44 #[.val (.int p0), .val (.int p1), .val (.int p2), .val (.int p3), .val (.ref x2), .val .null, .unset, .unset, .unset, .unset, .unset, .unset, .unset] [(.ref x19)])) st19 ?_
      refine OwnEnd.of (S' := T19.setTop (mkF m 52 #[.val (.int p0), .val (.int p1), .val (.int p2), .val (.int p3), .val (.ref x2), .val .null, .val (.ref x19), .unset, .unset, .unset, .unset, .unset, .unset] [(.int (nar .char (p3 &&& (255 : Int32))))])) (fun _ k => XS.astore X19.here hx rfl (hb hby at_44) rfl rfl (l' := #[.val (.int p0), .val (.int p1), .val (.int p2), .val (.int p3), .val (.ref x2), .val .null, .val (.ref x19), .unset, .unset, .unset, .unset, .unset, .unset]) rfl (XS.iloadN X19.here hx rfl (hb hby at_46) rfl (XS.sipush X19.here hx rfl (hb hby at_47) (XS.iand X19.here hx rfl (hb hby at_50) rfl (XS.i2c X19.here hx rfl (hb hby at_51) rfl k))))) ?_
      obtain ⟨_, _, ⟨T21, L21, k21, n21⟩, -, X21, ⟨Lc21, hQ21, l21, y21, z21⟩, st21⟩ := Jvm.LawKit.callS X19 hx (y := own_m3) hown (mvT hZ (own_w G 34 rfl)) (mvT hZ (own_w G 35 rfl)) (mvT hZ (own_w G 6 rfl)) (mvT hZ (own_w G 36 rfl)) (by decide) (backOf (W := 0) (rmvo l Z a0 G [] (nar .char (p3 &&& (255 : Int32))) T19.heap n0 O20 ((own_c255 _).2 : ¬ (255 : Int32) < (nar .char (p3 &&& (255 : Int32))))) hZ (own_w G 36 rfl) (own_w G 6 rfl) (by decide) (by decide)) (g := (mkF m 52 #[.val (.int p0), .val (.int p1), .val (.int p2), .val (.int p3), .val (.ref x2), .val .null, .val (.ref x19), .unset, .unset, .unset, .unset, .unset, .unset] [(.int (nar .char (p3 &&& (255 : Int32))))])) rfl (by rw [hml]; rfl) (argsL := [(.int (nar .char (p3 &&& (255 : Int32))))]) (rest := []) (lenOf pd_7 rfl) rfl (by show 2 * 0 + _ ≤ _; exact Nat.le_of_eq rfl) (hb hby at_52) (fun _ _ => ⟨rfl, rfl, (by decide : 5 + 2 ≤ _), (by decide : 13 + 5 ≤ _)⟩)
      dsimp only [Pt.U, Pt.locs, Pt.cells, Pt.slots] at X21 l21 y21 z21 st21 hQ21
      subst l21 y21 z21
      obtain ⟨x21, rfl, N21q, Kq21, r21_0, r21_1⟩ := hQ21
      have N21 := Fr.app N19 N21q
      have sz22 := Kq21.1
      have K22 := K20.trans Kq21 (own_all0 )
      have O22 := O20.keep Kq21 (own_all0 )
      have ltr21_0 := own_ltN' r21_0.lt
      refine OwnEnd.of (S' := T21.setTop (mkF m 55 #[.val (.int p0), .val (.int p1), .val (.int p2), .val (.int p3), .val (.ref x2), .val .null, .val (.ref x19), .unset, .unset, .unset, .unset, .unset, .unset] [(.ref x21)])) st21 ?_
      refine OwnEnd.of (S' := T21.setTop (mkF m 57 #[.val (.int p0), .val (.int p1), .val (.int p2), .val (.int p3), .val (.ref x2), .val .null, .val (.ref x19), .val (.ref x21), .unset, .unset, .unset, .unset, .unset] [])) (fun _ k => XS.astore X21.here hx rfl (hb hby at_55) rfl rfl (l' := #[.val (.int p0), .val (.int p1), .val (.int p2), .val (.int p3), .val (.ref x2), .val .null, .val (.ref x19), .val (.ref x21), .unset, .unset, .unset, .unset, .unset]) rfl k) ?_
      obtain ⟨T23, h23, X23, e23, E23, A23, D23, -, st23⟩ := newO X21 hx hZ hown (own_w G 48 rfl) (own_w G 49 rfl) (own_w G 50 rfl) rfl (g := (mkF m 57 #[.val (.int p0), .val (.int p1), .val (.int p2), .val (.int p3), .val (.ref x2), .val .null, .val (.ref x19), .val (.ref x21), .unset, .unset, .unset, .unset, .unset] [])) rfl (hb hby at_57) (by decide) (by decide)
      obtain ⟨b23, g23⟩ : ∃ z, z = Array.size T21.heap := ⟨_, rfl⟩
      rw [← g23] at A23 D23 st23
      have lt_b23 := own_ltN' A23.lt
      have sz24 := E23.1
      have K24 := K22.ext E23
      have O24 := O22.ext E23
      have F23_catalog : Fld Z h23 b23 "com/example/relfix/relfix/DatabaseTable$QualifiedName" "catalog" "Ljava/lang/String;" .null := D23 (Or.inr (own_w G 61 rfl)) (ty := (.object "java/lang/String")) (by decide)
      have F23_schema : Fld Z h23 b23 "com/example/relfix/relfix/DatabaseTable$QualifiedName" "schema" "Ljava/lang/String;" .null := D23 (Or.inr (own_w G 63 rfl)) (ty := (.object "java/lang/String")) (by decide)
      have F23_name : Fld Z h23 b23 "com/example/relfix/relfix/DatabaseTable$QualifiedName" "name" "Ljava/lang/String;" .null := D23 (Or.inr (own_w G 65 rfl)) (ty := (.object "java/lang/String")) (by decide)
      refine OwnEnd.of (S' := T23.setTop (mkF m 60 #[.val (.int p0), .val (.int p1), .val (.int p2), .val (.int p3), .val (.ref x2), .val .null, .val (.ref x19), .val (.ref x21), .unset, .unset, .unset, .unset, .unset] [(.ref b23)])) st23 ?_
      refine OwnEnd.of (S' := T23.setTop (mkF m 67 #[.val (.int p0), .val (.int p1), .val (.int p2), .val (.int p3), .val (.ref x2), .val .null, .val (.ref x19), .val (.ref x21), .unset, .unset, .unset, .unset, .unset] [(.ref x19), .null, (.ref x2), (.ref b23), (.ref b23)])) (fun _ k => XS.dup X23.here hx rfl (hb hby at_60) rfl rfl (XS.aload X23.here hx rfl (hb hby at_61) rfl rfl (XS.aload X23.here hx rfl (hb hby at_63) rfl rfl (XS.aload X23.here hx rfl (hb hby at_65) rfl rfl k)))) ?_
      obtain ⟨_, _, ⟨T25, L25, k25, n25⟩, -, X25, ⟨Lc25, hQ25, l25, y25, z25⟩, st25⟩ := Jvm.Stand.specialBack X23 hx (y := own_m7) rfl hown (mvT hZ (own_w G 51 rfl)) (mvT hZ (own_w G 52 rfl)) (mvT hZ (own_w G 53 rfl)) (by decide) (backOf (W := 1) (rmqi l Z a0 G [] b23 (.ref x2) .null (.ref x19) .null .null .null h23 n0 O24 A23 F23_catalog F23_schema F23_name (rfl : (Value.ref x2).isRef = true) (rfl : Value.null.isRef = true) (rfl : (Value.ref x19).isRef = true) (by omega)) hZ (own_w G 53 rfl) (own_w G 50 rfl) (by decide) (by decide)) (g := (mkF m 67 #[.val (.int p0), .val (.int p1), .val (.int p2), .val (.int p3), .val (.ref x2), .val .null, .val (.ref x19), .val (.ref x21), .unset, .unset, .unset, .unset, .unset] [(.ref x19), .null, (.ref x2), (.ref b23), (.ref b23)])) rfl (by rw [hml]; rfl) (Steps.refl _) (a := b23) (argsL := [(.ref x2), .null, (.ref x19)]) (rest := [(.ref b23)]) (lenOf pd_5 rfl) rfl (by show 2 * 0 + _ ≤ _; exact Nat.le_of_eq rfl) (hb hby at_67) (fun _ _ => ⟨rfl, e23, (by decide : 8 + 0 ≤ _), (by decide : 21 + 0 ≤ _)⟩)
      dsimp only [Pt.U, Pt.locs, Pt.cells, Pt.slots] at X25 l25 y25 z25 st25 hQ25
      subst l25 y25 z25
      obtain ⟨rfl, N25q, Kq25, r25_0, r25_1, r25_2⟩ := hQ25
      have N25 := Fr.app N21 N25q
      have sz26 := Kq25.1
      have K26 := K24.trans Kq25 (own_all1 (Or.inr (by omega)))
      have O26 := O24.keep Kq25 (own_all1 (by omega))
      have ltr25_0 := own_ltN' r25_0.lt
      have ltr25_1 := own_ltN' r25_1.lt
      have ltr25_2 := own_ltN' r25_2.lt
      refine OwnEnd.tr (S' := T25.setTop (mkF m 70 #[.val (.int p0), .val (.int p1), .val (.int p2), .val (.int p3), .val (.ref x2), .val .null, .val (.ref x19), .val (.ref x21), .unset, .unset, .unset, .unset, .unset] [(.ref b23)])) st25 ?_
      refine OwnEnd.of (S' := T25.setTop (mkF m 74 #[.val (.int p0), .val (.int p1), .val (.int p2), .val (.int p3), .val (.ref x2), .val .null, .val (.ref x19), .val (.ref x21), .val (.ref b23), .unset, .unset, .unset, .unset] [(.ref b23)])) (fun _ k => XS.astore X25.here hx rfl (hb hby at_70) rfl rfl (l' := #[.val (.int p0), .val (.int p1), .val (.int p2), .val (.int p3), .val (.ref x2), .val .null, .val (.ref x19), .val (.ref x21), .val (.ref b23), .unset, .unset, .unset, .unset]) rfl (XS.aload X25.here hx rfl (hb hby at_72) rfl rfl k)) ?_
      obtain ⟨cq27, kq27, q27a, q27b, q27c⟩ := isOf hZ rfl r25_0
      obtain ⟨_, _, ⟨T27, L27, k27, n27⟩, -, X27, ⟨Lc27, hQ27, l27, y27, z27⟩, st27⟩ := X25.virtualBack hx (y := own_m8) (z := own_m8) hown (mvT hZ (own_w G 66 rfl)) (mvT hZ (own_w G 67 rfl)) (notFace_of_selects (args := #[]) (mvT hZ (own_w G 69 rfl))) (mvT hZ (own_w G 69 rfl)) (mvT hZ (own_w G 68 rfl)) (by decide) (backOf (W := 0) (rmqn l Z a0 G [] b23 (.ref x2) T25.heap n0 O26 r25_2 r25_1 (rfl : (Value.ref x2).isRef = true)) hZ (own_w G 70 rfl) (own_w G 50 rfl) (by decide) (by decide)) q27a q27c (g := (mkF m 74 #[.val (.int p0), .val (.int p1), .val (.int p2), .val (.int p3), .val (.ref x2), .val .null, .val (.ref x19), .val (.ref x21), .val (.ref b23), .unset, .unset, .unset, .unset] [(.ref b23)])) rfl (by rw [hml]; rfl) (Steps.refl _) (argsL := []) (rest := []) (lenOf pd_8 rfl) rfl (by show 2 * 0 + _ ≤ _; exact Nat.le_of_eq rfl) (hb hby at_74) (fun _ _ => ⟨rfl, rfl, (by decide : 8 + 0 ≤ _), (by decide : 21 + 0 ≤ _)⟩)
      dsimp only [Pt.U, Pt.locs, Pt.cells, Pt.slots] at X27 l27 y27 z27 st27 hQ27
      subst l27 y27 z27
      obtain ⟨rfl, N27q, eh27⟩ := hQ27
      have N27 := Fr.app N25 N27q
      refine OwnEnd.tr (S' := T27.setTop (mkF m 77 #[.val (.int p0), .val (.int p1), .val (.int p2), .val (.int p3), .val (.ref x2), .val .null, .val (.ref x19), .val (.ref x21), .val (.ref b23), .unset, .unset, .unset, .unset] [(.ref x2)])) st27 ?_
      refine OwnEnd.of (S' := T27.setTop (mkF m 117 #[.val (.int p0), .val (.int p1), .val (.int p2), .val (.int p3), .val (.ref x2), .val .null, .val (.ref x19), .val (.ref x21), .val (.ref b23), .val (.ref x2), .val (.int (1 : Int32)), .unset, .unset] [(.ref b23)])) (fun _ k => XS.astore X27.here hx rfl (hb hby at_77) rfl rfl (l' := #[.val (.int p0), .val (.int p1), .val (.int p2), .val (.int p3), .val (.ref x2), .val .null, .val (.ref x19), .val (.ref x21), .val (.ref b23), .val (.ref x2), .unset, .unset, .unset]) rfl (XS.aload X27.here hx rfl (hb hby at_79) rfl rfl (XS.ifnullYes X27.here hx rfl (pc0 := 81) (pc' := 101) rfl (hb hby at_81) rfl (by decide) (by decide) (XS.aload X27.here hx rfl (hb hby at_101) rfl rfl (XS.aload X27.here hx rfl (hb hby at_103) rfl rfl (Jvm.RoadKit.acmp (g := (mkF m 105 #[.val (.int p0), .val (.int p1), .val (.int p2), .val (.int p3), .val (.ref x2), .val .null, .val (.ref x19), .val (.ref x21), .val (.ref b23), .val (.ref x2), .unset, .unset, .unset] [(.ref x2), (.ref x2)])) X27 hx rfl (x := (.ref x2)) (y := (.ref x2)) rfl rfl (pc0 := 105) (pc' := 108) (same := true) rfl (hb hby at_105) rfl (decide_eq_true rfl) (by decide) (by decide) (XS.iconst X27.here hx rfl (hb hby at_108) (XS.goto X27.here hx rfl (pc0 := 109) (pc' := 113) rfl (hb hby at_109) (by decide) (by decide) (XS.istore X27.here hx rfl (hb hby at_113) rfl (l' := #[.val (.int p0), .val (.int p1), .val (.int p2), .val (.int p3), .val (.ref x2), .val .null, .val (.ref x19), .val (.ref x21), .val (.ref b23), .val (.ref x2), .val (.int (1 : Int32)), .unset, .unset]) rfl (XS.aload X27.here hx rfl (hb hby at_115) rfl rfl k)))))))))) ?_
      refine OwnEnd.of (S' := T27.setTop (mkF m 121 #[.val (.int p0), .val (.int p1), .val (.int p2), .val (.int p3), .val (.ref x2), .val .null, .val (.ref x19), .val (.ref x21), .val (.ref b23), .val (.ref x2), .val (.int (1 : Int32)), .unset, .unset] [(.ref x19), (.ref x21), (.ref b23)])) (fun _ k => XS.aload X27.here hx rfl (hb hby at_117) rfl rfl (XS.aload X27.here hx rfl (hb hby at_119) rfl rfl k)) ?_
      obtain ⟨cq28, kq28, q28a, q28b, q28c⟩ := isOf hZ eh27 r25_0
      obtain ⟨_, _, ⟨T28, L28, k28, n28⟩, -, X28, ⟨Lc28, hQ28, l28, y28, z28⟩, st28⟩ := X27.virtualBack hx (y := own_m9) (z := own_m9) hown (mvT hZ (own_w G 71 rfl)) (mvT hZ (own_w G 72 rfl)) (notFace_of_selects (args := #[]) (mvT hZ (own_w G 74 rfl))) (mvT hZ (own_w G 74 rfl)) (mvT hZ (own_w G 73 rfl)) (by decide) (backOf (W := 0) (rmsn l Z a0 G [] b23 x21 x19 T25.heap n0 O26 r25_2) hZ (own_w G 75 rfl) (own_w G 50 rfl) (by decide) (by decide)) q28a q28c (g := (mkF m 121 #[.val (.int p0), .val (.int p1), .val (.int p2), .val (.int p3), .val (.ref x2), .val .null, .val (.ref x19), .val (.ref x21), .val (.ref b23), .val (.ref x2), .val (.int (1 : Int32)), .unset, .unset] [(.ref x19), (.ref x21), (.ref b23)])) rfl (by rw [hml]; rfl) (Steps.refl _) (argsL := [(.ref x21), (.ref x19)]) (rest := []) (lenOf pd_9 rfl) rfl (by show 2 * 0 + _ ≤ _; exact Nat.le_of_eq rfl) (hb hby at_121) (fun _ _ => ⟨rfl, eh27, (by decide : 8 + 1 ≤ _), (by decide : 21 + 3 ≤ _)⟩)
      dsimp only [Pt.U, Pt.locs, Pt.cells, Pt.slots] at X28 l28 y28 z28 st28 hQ28
      subst l28 y28 z28
      obtain ⟨x28, rfl, N28q, Kq28, r28_0, r28_1, r28_2⟩ := hQ28
      have N28 := Fr.app N27 N28q
      have sz29 := Kq28.1
      have K29 := K26.trans Kq28 (own_all0 )
      have O29 := O26.keep Kq28 (own_all0 )
      have ltr28_0 := own_ltN' r28_0.lt
      have ltr28_1 := own_ltN' r28_1.lt
      have ltr28_2 := own_ltN' r28_2.lt
      refine OwnEnd.tr (S' := T28.setTop (mkF m 124 #[.val (.int p0), .val (.int p1), .val (.int p2), .val (.int p3), .val (.ref x2), .val .null, .val (.ref x19), .val (.ref x21), .val (.ref b23), .val (.ref x2), .val (.int (1 : Int32)), .unset, .unset] [(.ref x28)])) st28 ?_
      refine OwnEnd.of (S' := T28.setTop (mkF m 128 #[.val (.int p0), .val (.int p1), .val (.int p2), .val (.int p3), .val (.ref x2), .val .null, .val (.ref x19), .val (.ref x21), .val (.ref b23), .val (.ref x2), .val (.int (1 : Int32)), .val (.ref x28), .unset] [(.ref x28)])) (fun _ k => XS.astore X28.here hx rfl (hb hby at_124) rfl rfl (l' := #[.val (.int p0), .val (.int p1), .val (.int p2), .val (.int p3), .val (.ref x2), .val .null, .val (.ref x19), .val (.ref x21), .val (.ref b23), .val (.ref x2), .val (.int (1 : Int32)), .val (.ref x28), .unset]) rfl (XS.aload X28.here hx rfl (hb hby at_126) rfl rfl k)) ?_
      obtain ⟨cq30, kq30, q30a, q30b, q30c⟩ := isOf hZ rfl r28_0
      obtain ⟨_, _, ⟨T30, L30, k30, n30⟩, -, X30, ⟨Lc30, hQ30, l30, y30, z30⟩, st30⟩ := X28.virtualBack hx (y := own_m8) (z := own_m8) hown (mvT hZ (own_w G 66 rfl)) (mvT hZ (own_w G 67 rfl)) (notFace_of_selects (args := #[]) (mvT hZ (own_w G 69 rfl))) (mvT hZ (own_w G 69 rfl)) (mvT hZ (own_w G 68 rfl)) (by decide) (backOf (W := 0) (rmqn l Z a0 G [] x28 (.ref x21) T28.heap n0 O29 r28_2 r28_1 (rfl : (Value.ref x21).isRef = true)) hZ (own_w G 70 rfl) (own_w G 50 rfl) (by decide) (by decide)) q30a q30c (g := (mkF m 128 #[.val (.int p0), .val (.int p1), .val (.int p2), .val (.int p3), .val (.ref x2), .val .null, .val (.ref x19), .val (.ref x21), .val (.ref b23), .val (.ref x2), .val (.int (1 : Int32)), .val (.ref x28), .unset] [(.ref x28)])) rfl (by rw [hml]; rfl) (Steps.refl _) (argsL := []) (rest := []) (lenOf pd_8 rfl) rfl (by show 2 * 0 + _ ≤ _; exact Nat.le_of_eq rfl) (hb hby at_128) (fun _ _ => ⟨rfl, rfl, (by decide : 9 + 0 ≤ _), (by decide : 24 + 0 ≤ _)⟩)
      dsimp only [Pt.U, Pt.locs, Pt.cells, Pt.slots] at X30 l30 y30 z30 st30 hQ30
      subst l30 y30 z30
      obtain ⟨rfl, N30q, eh30⟩ := hQ30
      have N30 := Fr.app N28 N30q
      refine OwnEnd.tr (S' := T30.setTop (mkF m 131 #[.val (.int p0), .val (.int p1), .val (.int p2), .val (.int p3), .val (.ref x2), .val .null, .val (.ref x19), .val (.ref x21), .val (.ref b23), .val (.ref x2), .val (.int (1 : Int32)), .val (.ref x28), .unset] [(.ref x21)])) st30 ?_
      refine OwnEnd.of (S' := T30.setTop (mkF m 154 #[.val (.int p0), .val (.int p1), .val (.int p2), .val (.int p3), .val (.ref x2), .val .null, .val (.ref x19), .val (.ref x21), .val (.ref b23), .val (.ref x2), .val (.int (1 : Int32)), .val (.ref x28), .val (.int (1 : Int32))] [(.int (1 : Int32))])) (fun _ k => XS.aload X30.here hx rfl (hb hby at_131) rfl rfl (Jvm.RoadKit.acmp (g := (mkF m 133 #[.val (.int p0), .val (.int p1), .val (.int p2), .val (.int p3), .val (.ref x2), .val .null, .val (.ref x19), .val (.ref x21), .val (.ref b23), .val (.ref x2), .val (.int (1 : Int32)), .val (.ref x28), .unset] [(.ref x21), (.ref x21)])) X30 hx rfl (x := (.ref x21)) (y := (.ref x21)) rfl rfl (pc0 := 133) (pc' := 136) (same := true) rfl (hb hby at_133) rfl (decide_eq_true rfl) (by decide) (by decide) (XS.iconst X30.here hx rfl (hb hby at_136) (XS.goto X30.here hx rfl (pc0 := 137) (pc' := 141) rfl (hb hby at_137) (by decide) (by decide) (XS.istore X30.here hx rfl (hb hby at_141) rfl (l' := #[.val (.int p0), .val (.int p1), .val (.int p2), .val (.int p3), .val (.ref x2), .val .null, .val (.ref x19), .val (.ref x21), .val (.ref b23), .val (.ref x2), .val (.int (1 : Int32)), .val (.ref x28), .val (.int (1 : Int32))]) rfl (XS.iload X30.here hx rfl (hb hby at_143) rfl (XS.ifNo X30.here hx rfl (hb hby at_145) rfl ((if0 _ _).trans (feq ((by decide : ¬ ((1 : Int32) = (0 : Int32))))).1) (XS.iload X30.here hx rfl (hb hby at_148) rfl (XS.ifNo X30.here hx rfl (hb hby at_150) rfl ((if0 _ _).trans (feq ((by decide : ¬ ((1 : Int32) = (0 : Int32))))).1) (XS.iconst X30.here hx rfl (hb hby at_153) k)))))))))) ?_
      refine OwnEnd.of (S' := T30.setTop (mkF m 158 #[.val (.int p0), .val (.int p1), .val (.int p2), .val (.int p3), .val (.ref x2), .val .null, .val (.ref x19), .val (.ref x21), .val (.ref b23), .val (.ref x2), .val (.int (1 : Int32)), .val (.ref x28), .val (.int (1 : Int32))] [(.int (1 : Int32))])) (fun _ k => XS.goto X30.here hx rfl (pc0 := 154) (pc' := 158) rfl (hb hby at_154) (by decide) (by decide) k) ?_
      refine OwnEnd.ret X30 (v := (some (.int (nar .boolean (1 : Int32))))) (fun h => by rw [Bd.returns] at h; cases h) hlk (fun fs hr => retN X30 hx (t := .boolean) Bd.returns (by simp) (hb hby at_158) hr) (by decide) (by decide) (Q := Qlaw Z p0 p1 p2 p3 h0 n0) eh30 ?_
      exact ⟨rfl, N30, K29⟩
  · refine OwnEnd.of (S' := s₁.setTop (mkF m 19 #[.val (.int p0), .val (.int p1), .val (.int p2), .val (.int p3), .val .null, .unset, .unset, .unset, .unset, .unset, .unset, .unset, .unset] [(.int (p0 &&& (2 : Int32)))])) (fun _ k => XS.ifNo X0.here hx rfl (hb hby at_3) rfl ((if0 _ _).trans (feq (hc1)).1) (XS.aconstNull X0.here hx rfl (hb hby at_6) (XS.goto X0.here hx rfl (pc0 := 7) (pc' := 14) rfl (hb hby at_7) (by decide) (by decide) (XS.astore X0.here hx rfl (hb hby at_14) rfl rfl (l' := #[.val (.int p0), .val (.int p1), .val (.int p2), .val (.int p3), .val .null, .unset, .unset, .unset, .unset, .unset, .unset, .unset, .unset]) rfl (XS.iloadN X0.here hx rfl (hb hby at_16) rfl (XS.iconst X0.here hx rfl (hb hby at_17) (XS.iand X0.here hx rfl (hb hby at_18) rfl k))))))) ?_
    rcases Decidable.em ((p0 &&& (2 : Int32)) = (0 : Int32)) with hc31 | hc31
    · refine OwnEnd.of (S' := s₁.setTop (mkF m 27 #[.val (.int p0), .val (.int p1), .val (.int p2), .val (.int p3), .val .null, .unset, .unset, .unset, .unset, .unset, .unset, .unset, .unset] [(.int p2)])) (fun _ k => XS.ifYes X0.here hx rfl (pc0 := 19) (pc' := 26) rfl (hb hby at_19) rfl ((if0 _ _).trans (teq (hc31)).1) (by decide) (by decide) (XS.iloadN X0.here hx rfl (hb hby at_26) rfl k)) ?_
      obtain ⟨_, _, ⟨T32, L32, k32, n32⟩, -, X32, ⟨Lc32, hQ32, l32, y32, z32⟩, st32⟩ := Jvm.LawKit.callS X0 hx (y := own_m5) hown (mvT hZ (own_w G 0 rfl)) (mvT hZ (own_w G 1 rfl)) (mvT hZ (own_w G 2 rfl)) (mvT hZ (own_w G 3 rfl)) (by decide) (backOf (W := 0) (rmdr l Z a0 G [] p2 h0 n0 O0 ) hZ (own_w G 3 rfl) (own_w G 2 rfl) (by decide) (by decide)) (g := (mkF m 27 #[.val (.int p0), .val (.int p1), .val (.int p2), .val (.int p3), .val .null, .unset, .unset, .unset, .unset, .unset, .unset, .unset, .unset] [(.int p2)])) rfl (by rw [hml]; rfl) (argsL := [(.int p2)]) (rest := []) (lenOf pd_6 rfl) rfl (by show 2 * 0 + _ ≤ _; exact Nat.le_of_eq rfl) (hb hby at_27) (fun _ _ => ⟨rfl, e0, (by decide : 0 + 3 ≤ _), (by decide : 0 + 8 ≤ _)⟩)
      dsimp only [Pt.U, Pt.locs, Pt.cells, Pt.slots] at X32 l32 y32 z32 st32 hQ32
      subst l32 y32 z32
      obtain ⟨x32, rfl, N32q, Kq32, r32_0, r32_1⟩ := hQ32
      have N32 := Fr.app N0 N32q
      have sz33 := Kq32.1
      have K33 := K0.trans Kq32 (own_all0 )
      have O33 := O0.keep Kq32 (own_all0 )
      have ltr32_0 := own_ltN' r32_0.lt
      refine OwnEnd.of (S' := T32.setTop (mkF m 30 #[.val (.int p0), .val (.int p1), .val (.int p2), .val (.int p3), .val .null, .unset, .unset, .unset, .unset, .unset, .unset, .unset, .unset] [(.ref x32)])) st32 ?_
      refine OwnEnd.of (S' := T32.setTop (mkF m 41 #[.val (.int p0), .val (.int p1), .val (.int p2), .val (.int p3), .val .null, .val (.ref x32), .unset, .unset, .unset, .unset, .unset, .unset, .unset] [(.int (nar .char (((p0).toUInt32 >>> ((8 : Int32) &&& 31).toUInt32).toInt32 &&& (255 : Int32))))])) (fun _ k => XS.astore X32.here hx rfl (hb hby at_30) rfl rfl (l' := #[.val (.int p0), .val (.int p1), .val (.int p2), .val (.int p3), .val .null, .val (.ref x32), .unset, .unset, .unset, .unset, .unset, .unset, .unset]) rfl (XS.iloadN X32.here hx rfl (hb hby at_32) rfl (XS.bipush X32.here hx rfl (hb hby at_33) (XS.iushr X32.here hx rfl (hb hby at_35) rfl (XS.sipush X32.here hx rfl (hb hby at_36) (XS.iand X32.here hx rfl (hb hby at_39) rfl (XS.i2c X32.here hx rfl (hb hby at_40) rfl k))))))) ?_
      obtain ⟨_, _, ⟨T34, L34, k34, n34⟩, -, X34, ⟨Lc34, hQ34, l34, y34, z34⟩, st34⟩ := Jvm.LawKit.callS X32 hx (y := own_m3) hown (mvT hZ (own_w G 34 rfl)) (mvT hZ (own_w G 35 rfl)) (mvT hZ (own_w G 6 rfl)) (mvT hZ (own_w G 36 rfl)) (by decide) (backOf (W := 0) (rmvo l Z a0 G [] (nar .char (((p0).toUInt32 >>> ((8 : Int32) &&& 31).toUInt32).toInt32 &&& (255 : Int32))) T32.heap n0 O33 ((own_c255 _).2 : ¬ (255 : Int32) < (nar .char (((p0).toUInt32 >>> ((8 : Int32) &&& 31).toUInt32).toInt32 &&& (255 : Int32))))) hZ (own_w G 36 rfl) (own_w G 6 rfl) (by decide) (by decide)) (g := (mkF m 41 #[.val (.int p0), .val (.int p1), .val (.int p2), .val (.int p3), .val .null, .val (.ref x32), .unset, .unset, .unset, .unset, .unset, .unset, .unset] [(.int (nar .char (((p0).toUInt32 >>> ((8 : Int32) &&& 31).toUInt32).toInt32 &&& (255 : Int32))))])) rfl (by rw [hml]; rfl) (argsL := [(.int (nar .char (((p0).toUInt32 >>> ((8 : Int32) &&& 31).toUInt32).toInt32 &&& (255 : Int32))))]) (rest := []) (lenOf pd_7 rfl) rfl (by show 2 * 0 + _ ≤ _; exact Nat.le_of_eq rfl) (hb hby at_41) (fun _ _ => ⟨rfl, rfl, (by decide : 3 + 2 ≤ _), (by decide : 8 + 5 ≤ _)⟩)
      dsimp only [Pt.U, Pt.locs, Pt.cells, Pt.slots] at X34 l34 y34 z34 st34 hQ34
      subst l34 y34 z34
      obtain ⟨x34, rfl, N34q, Kq34, r34_0, r34_1⟩ := hQ34
      have N34 := Fr.app N32 N34q
      have sz35 := Kq34.1
      have K35 := K33.trans Kq34 (own_all0 )
      have O35 := O33.keep Kq34 (own_all0 )
      have ltr34_0 := own_ltN' r34_0.lt
      refine OwnEnd.of (S' := T34.setTop (mkF m 44 #[.val (.int p0), .val (.int p1), .val (.int p2), .val (.int p3), .val .null, .val (.ref x32), .unset, .unset, .unset, .unset, .unset, .unset, .unset] [(.ref x34)])) st34 ?_
      refine OwnEnd.of (S' := T34.setTop (mkF m 52 #[.val (.int p0), .val (.int p1), .val (.int p2), .val (.int p3), .val .null, .val (.ref x32), .val (.ref x34), .unset, .unset, .unset, .unset, .unset, .unset] [(.int (nar .char (p3 &&& (255 : Int32))))])) (fun _ k => XS.astore X34.here hx rfl (hb hby at_44) rfl rfl (l' := #[.val (.int p0), .val (.int p1), .val (.int p2), .val (.int p3), .val .null, .val (.ref x32), .val (.ref x34), .unset, .unset, .unset, .unset, .unset, .unset]) rfl (XS.iloadN X34.here hx rfl (hb hby at_46) rfl (XS.sipush X34.here hx rfl (hb hby at_47) (XS.iand X34.here hx rfl (hb hby at_50) rfl (XS.i2c X34.here hx rfl (hb hby at_51) rfl k))))) ?_
      obtain ⟨_, _, ⟨T36, L36, k36, n36⟩, -, X36, ⟨Lc36, hQ36, l36, y36, z36⟩, st36⟩ := Jvm.LawKit.callS X34 hx (y := own_m3) hown (mvT hZ (own_w G 34 rfl)) (mvT hZ (own_w G 35 rfl)) (mvT hZ (own_w G 6 rfl)) (mvT hZ (own_w G 36 rfl)) (by decide) (backOf (W := 0) (rmvo l Z a0 G [] (nar .char (p3 &&& (255 : Int32))) T34.heap n0 O35 ((own_c255 _).2 : ¬ (255 : Int32) < (nar .char (p3 &&& (255 : Int32))))) hZ (own_w G 36 rfl) (own_w G 6 rfl) (by decide) (by decide)) (g := (mkF m 52 #[.val (.int p0), .val (.int p1), .val (.int p2), .val (.int p3), .val .null, .val (.ref x32), .val (.ref x34), .unset, .unset, .unset, .unset, .unset, .unset] [(.int (nar .char (p3 &&& (255 : Int32))))])) rfl (by rw [hml]; rfl) (argsL := [(.int (nar .char (p3 &&& (255 : Int32))))]) (rest := []) (lenOf pd_7 rfl) rfl (by show 2 * 0 + _ ≤ _; exact Nat.le_of_eq rfl) (hb hby at_52) (fun _ _ => ⟨rfl, rfl, (by decide : 5 + 2 ≤ _), (by decide : 13 + 5 ≤ _)⟩)
      dsimp only [Pt.U, Pt.locs, Pt.cells, Pt.slots] at X36 l36 y36 z36 st36 hQ36
      subst l36 y36 z36
      obtain ⟨x36, rfl, N36q, Kq36, r36_0, r36_1⟩ := hQ36
      have N36 := Fr.app N34 N36q
      have sz37 := Kq36.1
      have K37 := K35.trans Kq36 (own_all0 )
      have O37 := O35.keep Kq36 (own_all0 )
      have ltr36_0 := own_ltN' r36_0.lt
      refine OwnEnd.of (S' := T36.setTop (mkF m 55 #[.val (.int p0), .val (.int p1), .val (.int p2), .val (.int p3), .val .null, .val (.ref x32), .val (.ref x34), .unset, .unset, .unset, .unset, .unset, .unset] [(.ref x36)])) st36 ?_
      refine OwnEnd.of (S' := T36.setTop (mkF m 57 #[.val (.int p0), .val (.int p1), .val (.int p2), .val (.int p3), .val .null, .val (.ref x32), .val (.ref x34), .val (.ref x36), .unset, .unset, .unset, .unset, .unset] [])) (fun _ k => XS.astore X36.here hx rfl (hb hby at_55) rfl rfl (l' := #[.val (.int p0), .val (.int p1), .val (.int p2), .val (.int p3), .val .null, .val (.ref x32), .val (.ref x34), .val (.ref x36), .unset, .unset, .unset, .unset, .unset]) rfl k) ?_
      obtain ⟨T38, h38, X38, e38, E38, A38, D38, -, st38⟩ := newO X36 hx hZ hown (own_w G 48 rfl) (own_w G 49 rfl) (own_w G 50 rfl) rfl (g := (mkF m 57 #[.val (.int p0), .val (.int p1), .val (.int p2), .val (.int p3), .val .null, .val (.ref x32), .val (.ref x34), .val (.ref x36), .unset, .unset, .unset, .unset, .unset] [])) rfl (hb hby at_57) (by decide) (by decide)
      obtain ⟨b38, g38⟩ : ∃ z, z = Array.size T36.heap := ⟨_, rfl⟩
      rw [← g38] at A38 D38 st38
      have lt_b38 := own_ltN' A38.lt
      have sz39 := E38.1
      have K39 := K37.ext E38
      have O39 := O37.ext E38
      have F38_catalog : Fld Z h38 b38 "com/example/relfix/relfix/DatabaseTable$QualifiedName" "catalog" "Ljava/lang/String;" .null := D38 (Or.inr (own_w G 61 rfl)) (ty := (.object "java/lang/String")) (by decide)
      have F38_schema : Fld Z h38 b38 "com/example/relfix/relfix/DatabaseTable$QualifiedName" "schema" "Ljava/lang/String;" .null := D38 (Or.inr (own_w G 63 rfl)) (ty := (.object "java/lang/String")) (by decide)
      have F38_name : Fld Z h38 b38 "com/example/relfix/relfix/DatabaseTable$QualifiedName" "name" "Ljava/lang/String;" .null := D38 (Or.inr (own_w G 65 rfl)) (ty := (.object "java/lang/String")) (by decide)
      refine OwnEnd.of (S' := T38.setTop (mkF m 60 #[.val (.int p0), .val (.int p1), .val (.int p2), .val (.int p3), .val .null, .val (.ref x32), .val (.ref x34), .val (.ref x36), .unset, .unset, .unset, .unset, .unset] [(.ref b38)])) st38 ?_
      refine OwnEnd.of (S' := T38.setTop (mkF m 67 #[.val (.int p0), .val (.int p1), .val (.int p2), .val (.int p3), .val .null, .val (.ref x32), .val (.ref x34), .val (.ref x36), .unset, .unset, .unset, .unset, .unset] [(.ref x34), (.ref x32), .null, (.ref b38), (.ref b38)])) (fun _ k => XS.dup X38.here hx rfl (hb hby at_60) rfl rfl (XS.aload X38.here hx rfl (hb hby at_61) rfl rfl (XS.aload X38.here hx rfl (hb hby at_63) rfl rfl (XS.aload X38.here hx rfl (hb hby at_65) rfl rfl k)))) ?_
      obtain ⟨_, _, ⟨T40, L40, k40, n40⟩, -, X40, ⟨Lc40, hQ40, l40, y40, z40⟩, st40⟩ := Jvm.Stand.specialBack X38 hx (y := own_m7) rfl hown (mvT hZ (own_w G 51 rfl)) (mvT hZ (own_w G 52 rfl)) (mvT hZ (own_w G 53 rfl)) (by decide) (backOf (W := 1) (rmqi l Z a0 G [] b38 .null (.ref x32) (.ref x34) .null .null .null h38 n0 O39 A38 F38_catalog F38_schema F38_name (rfl : Value.null.isRef = true) (rfl : (Value.ref x32).isRef = true) (rfl : (Value.ref x34).isRef = true) (by omega)) hZ (own_w G 53 rfl) (own_w G 50 rfl) (by decide) (by decide)) (g := (mkF m 67 #[.val (.int p0), .val (.int p1), .val (.int p2), .val (.int p3), .val .null, .val (.ref x32), .val (.ref x34), .val (.ref x36), .unset, .unset, .unset, .unset, .unset] [(.ref x34), (.ref x32), .null, (.ref b38), (.ref b38)])) rfl (by rw [hml]; rfl) (Steps.refl _) (a := b38) (argsL := [.null, (.ref x32), (.ref x34)]) (rest := [(.ref b38)]) (lenOf pd_5 rfl) rfl (by show 2 * 0 + _ ≤ _; exact Nat.le_of_eq rfl) (hb hby at_67) (fun _ _ => ⟨rfl, e38, (by decide : 8 + 0 ≤ _), (by decide : 21 + 0 ≤ _)⟩)
      dsimp only [Pt.U, Pt.locs, Pt.cells, Pt.slots] at X40 l40 y40 z40 st40 hQ40
      subst l40 y40 z40
      obtain ⟨rfl, N40q, Kq40, r40_0, r40_1, r40_2⟩ := hQ40
      have N40 := Fr.app N36 N40q
      have sz41 := Kq40.1
      have K41 := K39.trans Kq40 (own_all1 (Or.inr (by omega)))
      have O41 := O39.keep Kq40 (own_all1 (by omega))
      have ltr40_0 := own_ltN' r40_0.lt
      have ltr40_1 := own_ltN' r40_1.lt
      have ltr40_2 := own_ltN' r40_2.lt
      refine OwnEnd.tr (S' := T40.setTop (mkF m 70 #[.val (.int p0), .val (.int p1), .val (.int p2), .val (.int p3), .val .null, .val (.ref x32), .val (.ref x34), .val (.ref x36), .unset, .unset, .unset, .unset, .unset] [(.ref b38)])) st40 ?_
      refine OwnEnd.of (S' := T40.setTop (mkF m 74 #[.val (.int p0), .val (.int p1), .val (.int p2), .val (.int p3), .val .null, .val (.ref x32), .val (.ref x34), .val (.ref x36), .val (.ref b38), .unset, .unset, .unset, .unset] [(.ref b38)])) (fun _ k => XS.astore X40.here hx rfl (hb hby at_70) rfl rfl (l' := #[.val (.int p0), .val (.int p1), .val (.int p2), .val (.int p3), .val .null, .val (.ref x32), .val (.ref x34), .val (.ref x36), .val (.ref b38), .unset, .unset, .unset, .unset]) rfl (XS.aload X40.here hx rfl (hb hby at_72) rfl rfl k)) ?_
      obtain ⟨cq42, kq42, q42a, q42b, q42c⟩ := isOf hZ rfl r40_0
      obtain ⟨_, _, ⟨T42, L42, k42, n42⟩, -, X42, ⟨Lc42, hQ42, l42, y42, z42⟩, st42⟩ := X40.virtualBack hx (y := own_m8) (z := own_m8) hown (mvT hZ (own_w G 66 rfl)) (mvT hZ (own_w G 67 rfl)) (notFace_of_selects (args := #[]) (mvT hZ (own_w G 69 rfl))) (mvT hZ (own_w G 69 rfl)) (mvT hZ (own_w G 68 rfl)) (by decide) (backOf (W := 0) (rmqr l Z a0 G [] b38 x32 T40.heap n0 O41 r40_2) hZ (own_w G 70 rfl) (own_w G 50 rfl) (by decide) (by decide)) q42a q42c (g := (mkF m 74 #[.val (.int p0), .val (.int p1), .val (.int p2), .val (.int p3), .val .null, .val (.ref x32), .val (.ref x34), .val (.ref x36), .val (.ref b38), .unset, .unset, .unset, .unset] [(.ref b38)])) rfl (by rw [hml]; rfl) (Steps.refl _) (argsL := []) (rest := []) (lenOf pd_8 rfl) rfl (by show 2 * 0 + _ ≤ _; exact Nat.le_of_eq rfl) (hb hby at_74) (fun _ _ => ⟨rfl, rfl, (by decide : 8 + 0 ≤ _), (by decide : 21 + 0 ≤ _)⟩)
      dsimp only [Pt.U, Pt.locs, Pt.cells, Pt.slots] at X42 l42 y42 z42 st42 hQ42
      subst l42 y42 z42
      obtain ⟨rfl, N42q, eh42⟩ := hQ42
      have N42 := Fr.app N40 N42q
      refine OwnEnd.tr (S' := T42.setTop (mkF m 77 #[.val (.int p0), .val (.int p1), .val (.int p2), .val (.int p3), .val .null, .val (.ref x32), .val (.ref x34), .val (.ref x36), .val (.ref b38), .unset, .unset, .unset, .unset] [(.ref x32)])) st42 ?_
      refine OwnEnd.of (S' := T42.setTop (mkF m 115 #[.val (.int p0), .val (.int p1), .val (.int p2), .val (.int p3), .val .null, .val (.ref x32), .val (.ref x34), .val (.ref x36), .val (.ref b38), .val (.ref x32), .val (.int (1 : Int32)), .unset, .unset] [])) (fun _ k => XS.astore X42.here hx rfl (hb hby at_77) rfl rfl (l' := #[.val (.int p0), .val (.int p1), .val (.int p2), .val (.int p3), .val .null, .val (.ref x32), .val (.ref x34), .val (.ref x36), .val (.ref b38), .val (.ref x32), .unset, .unset, .unset]) rfl (XS.aload X42.here hx rfl (hb hby at_79) rfl rfl (XS.ifnullNo X42.here hx rfl (hb hby at_81) rfl (XS.aload X42.here hx rfl (hb hby at_84) rfl rfl (XS.aload X42.here hx rfl (hb hby at_86) rfl rfl (Jvm.RoadKit.acmp (g := (mkF m 88 #[.val (.int p0), .val (.int p1), .val (.int p2), .val (.int p3), .val .null, .val (.ref x32), .val (.ref x34), .val (.ref x36), .val (.ref b38), .val (.ref x32), .unset, .unset, .unset] [(.ref x32), (.ref x32)])) X42 hx rfl (x := (.ref x32)) (y := (.ref x32)) rfl rfl (pc0 := 88) (pc' := 91) (same := true) rfl (hb hby at_88) rfl (decide_eq_true rfl) (by decide) (by decide) (XS.iconst X42.here hx rfl (hb hby at_91) (XS.goto X42.here hx rfl (pc0 := 92) (pc' := 96) rfl (hb hby at_92) (by decide) (by decide) (XS.istore X42.here hx rfl (hb hby at_96) rfl (l' := #[.val (.int p0), .val (.int p1), .val (.int p2), .val (.int p3), .val .null, .val (.ref x32), .val (.ref x34), .val (.ref x36), .val (.ref b38), .val (.ref x32), .val (.int (1 : Int32)), .unset, .unset]) rfl (XS.goto X42.here hx rfl (pc0 := 98) (pc' := 115) rfl (hb hby at_98) (by decide) (by decide) k)))))))))) ?_
      refine OwnEnd.of (S' := T42.setTop (mkF m 121 #[.val (.int p0), .val (.int p1), .val (.int p2), .val (.int p3), .val .null, .val (.ref x32), .val (.ref x34), .val (.ref x36), .val (.ref b38), .val (.ref x32), .val (.int (1 : Int32)), .unset, .unset] [(.ref x34), (.ref x36), (.ref b38)])) (fun _ k => XS.aload X42.here hx rfl (hb hby at_115) rfl rfl (XS.aload X42.here hx rfl (hb hby at_117) rfl rfl (XS.aload X42.here hx rfl (hb hby at_119) rfl rfl k))) ?_
      obtain ⟨cq43, kq43, q43a, q43b, q43c⟩ := isOf hZ eh42 r40_0
      obtain ⟨_, _, ⟨T43, L43, k43, n43⟩, -, X43, ⟨Lc43, hQ43, l43, y43, z43⟩, st43⟩ := X42.virtualBack hx (y := own_m9) (z := own_m9) hown (mvT hZ (own_w G 71 rfl)) (mvT hZ (own_w G 72 rfl)) (notFace_of_selects (args := #[]) (mvT hZ (own_w G 74 rfl))) (mvT hZ (own_w G 74 rfl)) (mvT hZ (own_w G 73 rfl)) (by decide) (backOf (W := 0) (rmsr l Z a0 G [] b38 x36 x34 x32 .null T40.heap n0 O41 r40_2 r40_1 (rfl : Value.null.isRef = true)) hZ (own_w G 75 rfl) (own_w G 50 rfl) (by decide) (by decide)) q43a q43c (g := (mkF m 121 #[.val (.int p0), .val (.int p1), .val (.int p2), .val (.int p3), .val .null, .val (.ref x32), .val (.ref x34), .val (.ref x36), .val (.ref b38), .val (.ref x32), .val (.int (1 : Int32)), .unset, .unset] [(.ref x34), (.ref x36), (.ref b38)])) rfl (by rw [hml]; rfl) (Steps.refl _) (argsL := [(.ref x36), (.ref x34)]) (rest := []) (lenOf pd_9 rfl) rfl (by show 2 * 0 + _ ≤ _; exact Nat.le_of_eq rfl) (hb hby at_121) (fun _ _ => ⟨rfl, eh42, (by decide : 8 + 1 ≤ _), (by decide : 21 + 3 ≤ _)⟩)
      dsimp only [Pt.U, Pt.locs, Pt.cells, Pt.slots] at X43 l43 y43 z43 st43 hQ43
      subst l43 y43 z43
      obtain ⟨x43, rfl, N43q, Kq43, r43_0, r43_1⟩ := hQ43
      have N43 := Fr.app N42 N43q
      have sz44 := Kq43.1
      have K44 := K41.trans Kq43 (own_all0 )
      have O44 := O41.keep Kq43 (own_all0 )
      have ltr43_0 := own_ltN' r43_0.lt
      have ltr43_1 := own_ltN' r43_1.lt
      refine OwnEnd.tr (S' := T43.setTop (mkF m 124 #[.val (.int p0), .val (.int p1), .val (.int p2), .val (.int p3), .val .null, .val (.ref x32), .val (.ref x34), .val (.ref x36), .val (.ref b38), .val (.ref x32), .val (.int (1 : Int32)), .unset, .unset] [(.ref x43)])) st43 ?_
      refine OwnEnd.of (S' := T43.setTop (mkF m 128 #[.val (.int p0), .val (.int p1), .val (.int p2), .val (.int p3), .val .null, .val (.ref x32), .val (.ref x34), .val (.ref x36), .val (.ref b38), .val (.ref x32), .val (.int (1 : Int32)), .val (.ref x43), .unset] [(.ref x43)])) (fun _ k => XS.astore X43.here hx rfl (hb hby at_124) rfl rfl (l' := #[.val (.int p0), .val (.int p1), .val (.int p2), .val (.int p3), .val .null, .val (.ref x32), .val (.ref x34), .val (.ref x36), .val (.ref b38), .val (.ref x32), .val (.int (1 : Int32)), .val (.ref x43), .unset]) rfl (XS.aload X43.here hx rfl (hb hby at_126) rfl rfl k)) ?_
      obtain ⟨cq45, kq45, q45a, q45b, q45c⟩ := isOf hZ rfl r43_0
      obtain ⟨_, _, ⟨T45, L45, k45, n45⟩, -, X45, ⟨Lc45, hQ45, l45, y45, z45⟩, st45⟩ := X43.virtualBack hx (y := own_m8) (z := own_m8) hown (mvT hZ (own_w G 66 rfl)) (mvT hZ (own_w G 67 rfl)) (notFace_of_selects (args := #[]) (mvT hZ (own_w G 69 rfl))) (mvT hZ (own_w G 69 rfl)) (mvT hZ (own_w G 68 rfl)) (by decide) (backOf (W := 0) (rmqr l Z a0 G [] x43 x36 T43.heap n0 O44 r43_1) hZ (own_w G 70 rfl) (own_w G 50 rfl) (by decide) (by decide)) q45a q45c (g := (mkF m 128 #[.val (.int p0), .val (.int p1), .val (.int p2), .val (.int p3), .val .null, .val (.ref x32), .val (.ref x34), .val (.ref x36), .val (.ref b38), .val (.ref x32), .val (.int (1 : Int32)), .val (.ref x43), .unset] [(.ref x43)])) rfl (by rw [hml]; rfl) (Steps.refl _) (argsL := []) (rest := []) (lenOf pd_8 rfl) rfl (by show 2 * 0 + _ ≤ _; exact Nat.le_of_eq rfl) (hb hby at_128) (fun _ _ => ⟨rfl, rfl, (by decide : 9 + 0 ≤ _), (by decide : 24 + 0 ≤ _)⟩)
      dsimp only [Pt.U, Pt.locs, Pt.cells, Pt.slots] at X45 l45 y45 z45 st45 hQ45
      subst l45 y45 z45
      obtain ⟨rfl, N45q, eh45⟩ := hQ45
      have N45 := Fr.app N43 N45q
      refine OwnEnd.tr (S' := T45.setTop (mkF m 131 #[.val (.int p0), .val (.int p1), .val (.int p2), .val (.int p3), .val .null, .val (.ref x32), .val (.ref x34), .val (.ref x36), .val (.ref b38), .val (.ref x32), .val (.int (1 : Int32)), .val (.ref x43), .unset] [(.ref x36)])) st45 ?_
      refine OwnEnd.of (S' := T45.setTop (mkF m 154 #[.val (.int p0), .val (.int p1), .val (.int p2), .val (.int p3), .val .null, .val (.ref x32), .val (.ref x34), .val (.ref x36), .val (.ref b38), .val (.ref x32), .val (.int (1 : Int32)), .val (.ref x43), .val (.int (1 : Int32))] [(.int (1 : Int32))])) (fun _ k => XS.aload X45.here hx rfl (hb hby at_131) rfl rfl (Jvm.RoadKit.acmp (g := (mkF m 133 #[.val (.int p0), .val (.int p1), .val (.int p2), .val (.int p3), .val .null, .val (.ref x32), .val (.ref x34), .val (.ref x36), .val (.ref b38), .val (.ref x32), .val (.int (1 : Int32)), .val (.ref x43), .unset] [(.ref x36), (.ref x36)])) X45 hx rfl (x := (.ref x36)) (y := (.ref x36)) rfl rfl (pc0 := 133) (pc' := 136) (same := true) rfl (hb hby at_133) rfl (decide_eq_true rfl) (by decide) (by decide) (XS.iconst X45.here hx rfl (hb hby at_136) (XS.goto X45.here hx rfl (pc0 := 137) (pc' := 141) rfl (hb hby at_137) (by decide) (by decide) (XS.istore X45.here hx rfl (hb hby at_141) rfl (l' := #[.val (.int p0), .val (.int p1), .val (.int p2), .val (.int p3), .val .null, .val (.ref x32), .val (.ref x34), .val (.ref x36), .val (.ref b38), .val (.ref x32), .val (.int (1 : Int32)), .val (.ref x43), .val (.int (1 : Int32))]) rfl (XS.iload X45.here hx rfl (hb hby at_143) rfl (XS.ifNo X45.here hx rfl (hb hby at_145) rfl ((if0 _ _).trans (feq ((by decide : ¬ ((1 : Int32) = (0 : Int32))))).1) (XS.iload X45.here hx rfl (hb hby at_148) rfl (XS.ifNo X45.here hx rfl (hb hby at_150) rfl ((if0 _ _).trans (feq ((by decide : ¬ ((1 : Int32) = (0 : Int32))))).1) (XS.iconst X45.here hx rfl (hb hby at_153) k)))))))))) ?_
      refine OwnEnd.of (S' := T45.setTop (mkF m 158 #[.val (.int p0), .val (.int p1), .val (.int p2), .val (.int p3), .val .null, .val (.ref x32), .val (.ref x34), .val (.ref x36), .val (.ref b38), .val (.ref x32), .val (.int (1 : Int32)), .val (.ref x43), .val (.int (1 : Int32))] [(.int (1 : Int32))])) (fun _ k => XS.goto X45.here hx rfl (pc0 := 154) (pc' := 158) rfl (hb hby at_154) (by decide) (by decide) k) ?_
      refine OwnEnd.ret X45 (v := (some (.int (nar .boolean (1 : Int32))))) (fun h => by rw [Bd.returns] at h; cases h) hlk (fun fs hr => retN X45 hx (t := .boolean) Bd.returns (by simp) (hb hby at_158) hr) (by decide) (by decide) (Q := Qlaw Z p0 p1 p2 p3 h0 n0) eh45 ?_
      exact ⟨rfl, N45, K44⟩
    · refine OwnEnd.of (S' := s₁.setTop (mkF m 41 #[.val (.int p0), .val (.int p1), .val (.int p2), .val (.int p3), .val .null, .val .null, .unset, .unset, .unset, .unset, .unset, .unset, .unset] [(.int (nar .char (((p0).toUInt32 >>> ((8 : Int32) &&& 31).toUInt32).toInt32 &&& (255 : Int32))))])) (fun _ k => XS.ifNo X0.here hx rfl (hb hby at_19) rfl ((if0 _ _).trans (feq (hc31)).1) (XS.aconstNull X0.here hx rfl (hb hby at_22) (XS.goto X0.here hx rfl (pc0 := 23) (pc' := 30) rfl (hb hby at_23) (by decide) (by decide) (XS.astore X0.here hx rfl (hb hby at_30) rfl rfl (l' := #[.val (.int p0), .val (.int p1), .val (.int p2), .val (.int p3), .val .null, .val .null, .unset, .unset, .unset, .unset, .unset, .unset, .unset]) rfl (XS.iloadN X0.here hx rfl (hb hby at_32) rfl (XS.bipush X0.here hx rfl (hb hby at_33) (XS.iushr X0.here hx rfl (hb hby at_35) rfl (XS.sipush X0.here hx rfl (hb hby at_36) (XS.iand X0.here hx rfl (hb hby at_39) rfl (XS.i2c X0.here hx rfl (hb hby at_40) rfl k)))))))))) ?_
      obtain ⟨_, _, ⟨T46, L46, k46, n46⟩, -, X46, ⟨Lc46, hQ46, l46, y46, z46⟩, st46⟩ := Jvm.LawKit.callS X0 hx (y := own_m3) hown (mvT hZ (own_w G 34 rfl)) (mvT hZ (own_w G 35 rfl)) (mvT hZ (own_w G 6 rfl)) (mvT hZ (own_w G 36 rfl)) (by decide) (backOf (W := 0) (rmvo l Z a0 G [] (nar .char (((p0).toUInt32 >>> ((8 : Int32) &&& 31).toUInt32).toInt32 &&& (255 : Int32))) h0 n0 O0 ((own_c255 _).2 : ¬ (255 : Int32) < (nar .char (((p0).toUInt32 >>> ((8 : Int32) &&& 31).toUInt32).toInt32 &&& (255 : Int32))))) hZ (own_w G 36 rfl) (own_w G 6 rfl) (by decide) (by decide)) (g := (mkF m 41 #[.val (.int p0), .val (.int p1), .val (.int p2), .val (.int p3), .val .null, .val .null, .unset, .unset, .unset, .unset, .unset, .unset, .unset] [(.int (nar .char (((p0).toUInt32 >>> ((8 : Int32) &&& 31).toUInt32).toInt32 &&& (255 : Int32))))])) rfl (by rw [hml]; rfl) (argsL := [(.int (nar .char (((p0).toUInt32 >>> ((8 : Int32) &&& 31).toUInt32).toInt32 &&& (255 : Int32))))]) (rest := []) (lenOf pd_7 rfl) rfl (by show 2 * 0 + _ ≤ _; exact Nat.le_of_eq rfl) (hb hby at_41) (fun _ _ => ⟨rfl, e0, (by decide : 0 + 2 ≤ _), (by decide : 0 + 5 ≤ _)⟩)
      dsimp only [Pt.U, Pt.locs, Pt.cells, Pt.slots] at X46 l46 y46 z46 st46 hQ46
      subst l46 y46 z46
      obtain ⟨x46, rfl, N46q, Kq46, r46_0, r46_1⟩ := hQ46
      have N46 := Fr.app N0 N46q
      have sz47 := Kq46.1
      have K47 := K0.trans Kq46 (own_all0 )
      have O47 := O0.keep Kq46 (own_all0 )
      have ltr46_0 := own_ltN' r46_0.lt
      refine OwnEnd.of (S' := T46.setTop (mkF m 44 #[.val (.int p0), .val (.int p1), .val (.int p2), .val (.int p3), .val .null, .val .null, .unset, .unset, .unset, .unset, .unset, .unset, .unset] [(.ref x46)])) st46 ?_
      refine OwnEnd.of (S' := T46.setTop (mkF m 52 #[.val (.int p0), .val (.int p1), .val (.int p2), .val (.int p3), .val .null, .val .null, .val (.ref x46), .unset, .unset, .unset, .unset, .unset, .unset] [(.int (nar .char (p3 &&& (255 : Int32))))])) (fun _ k => XS.astore X46.here hx rfl (hb hby at_44) rfl rfl (l' := #[.val (.int p0), .val (.int p1), .val (.int p2), .val (.int p3), .val .null, .val .null, .val (.ref x46), .unset, .unset, .unset, .unset, .unset, .unset]) rfl (XS.iloadN X46.here hx rfl (hb hby at_46) rfl (XS.sipush X46.here hx rfl (hb hby at_47) (XS.iand X46.here hx rfl (hb hby at_50) rfl (XS.i2c X46.here hx rfl (hb hby at_51) rfl k))))) ?_
      obtain ⟨_, _, ⟨T48, L48, k48, n48⟩, -, X48, ⟨Lc48, hQ48, l48, y48, z48⟩, st48⟩ := Jvm.LawKit.callS X46 hx (y := own_m3) hown (mvT hZ (own_w G 34 rfl)) (mvT hZ (own_w G 35 rfl)) (mvT hZ (own_w G 6 rfl)) (mvT hZ (own_w G 36 rfl)) (by decide) (backOf (W := 0) (rmvo l Z a0 G [] (nar .char (p3 &&& (255 : Int32))) T46.heap n0 O47 ((own_c255 _).2 : ¬ (255 : Int32) < (nar .char (p3 &&& (255 : Int32))))) hZ (own_w G 36 rfl) (own_w G 6 rfl) (by decide) (by decide)) (g := (mkF m 52 #[.val (.int p0), .val (.int p1), .val (.int p2), .val (.int p3), .val .null, .val .null, .val (.ref x46), .unset, .unset, .unset, .unset, .unset, .unset] [(.int (nar .char (p3 &&& (255 : Int32))))])) rfl (by rw [hml]; rfl) (argsL := [(.int (nar .char (p3 &&& (255 : Int32))))]) (rest := []) (lenOf pd_7 rfl) rfl (by show 2 * 0 + _ ≤ _; exact Nat.le_of_eq rfl) (hb hby at_52) (fun _ _ => ⟨rfl, rfl, (by decide : 2 + 2 ≤ _), (by decide : 5 + 5 ≤ _)⟩)
      dsimp only [Pt.U, Pt.locs, Pt.cells, Pt.slots] at X48 l48 y48 z48 st48 hQ48
      subst l48 y48 z48
      obtain ⟨x48, rfl, N48q, Kq48, r48_0, r48_1⟩ := hQ48
      have N48 := Fr.app N46 N48q
      have sz49 := Kq48.1
      have K49 := K47.trans Kq48 (own_all0 )
      have O49 := O47.keep Kq48 (own_all0 )
      have ltr48_0 := own_ltN' r48_0.lt
      refine OwnEnd.of (S' := T48.setTop (mkF m 55 #[.val (.int p0), .val (.int p1), .val (.int p2), .val (.int p3), .val .null, .val .null, .val (.ref x46), .unset, .unset, .unset, .unset, .unset, .unset] [(.ref x48)])) st48 ?_
      refine OwnEnd.of (S' := T48.setTop (mkF m 57 #[.val (.int p0), .val (.int p1), .val (.int p2), .val (.int p3), .val .null, .val .null, .val (.ref x46), .val (.ref x48), .unset, .unset, .unset, .unset, .unset] [])) (fun _ k => XS.astore X48.here hx rfl (hb hby at_55) rfl rfl (l' := #[.val (.int p0), .val (.int p1), .val (.int p2), .val (.int p3), .val .null, .val .null, .val (.ref x46), .val (.ref x48), .unset, .unset, .unset, .unset, .unset]) rfl k) ?_
      obtain ⟨T50, h50, X50, e50, E50, A50, D50, -, st50⟩ := newO X48 hx hZ hown (own_w G 48 rfl) (own_w G 49 rfl) (own_w G 50 rfl) rfl (g := (mkF m 57 #[.val (.int p0), .val (.int p1), .val (.int p2), .val (.int p3), .val .null, .val .null, .val (.ref x46), .val (.ref x48), .unset, .unset, .unset, .unset, .unset] [])) rfl (hb hby at_57) (by decide) (by decide)
      obtain ⟨b50, g50⟩ : ∃ z, z = Array.size T48.heap := ⟨_, rfl⟩
      rw [← g50] at A50 D50 st50
      have lt_b50 := own_ltN' A50.lt
      have sz51 := E50.1
      have K51 := K49.ext E50
      have O51 := O49.ext E50
      have F50_catalog : Fld Z h50 b50 "com/example/relfix/relfix/DatabaseTable$QualifiedName" "catalog" "Ljava/lang/String;" .null := D50 (Or.inr (own_w G 61 rfl)) (ty := (.object "java/lang/String")) (by decide)
      have F50_schema : Fld Z h50 b50 "com/example/relfix/relfix/DatabaseTable$QualifiedName" "schema" "Ljava/lang/String;" .null := D50 (Or.inr (own_w G 63 rfl)) (ty := (.object "java/lang/String")) (by decide)
      have F50_name : Fld Z h50 b50 "com/example/relfix/relfix/DatabaseTable$QualifiedName" "name" "Ljava/lang/String;" .null := D50 (Or.inr (own_w G 65 rfl)) (ty := (.object "java/lang/String")) (by decide)
      refine OwnEnd.of (S' := T50.setTop (mkF m 60 #[.val (.int p0), .val (.int p1), .val (.int p2), .val (.int p3), .val .null, .val .null, .val (.ref x46), .val (.ref x48), .unset, .unset, .unset, .unset, .unset] [(.ref b50)])) st50 ?_
      refine OwnEnd.of (S' := T50.setTop (mkF m 67 #[.val (.int p0), .val (.int p1), .val (.int p2), .val (.int p3), .val .null, .val .null, .val (.ref x46), .val (.ref x48), .unset, .unset, .unset, .unset, .unset] [(.ref x46), .null, .null, (.ref b50), (.ref b50)])) (fun _ k => XS.dup X50.here hx rfl (hb hby at_60) rfl rfl (XS.aload X50.here hx rfl (hb hby at_61) rfl rfl (XS.aload X50.here hx rfl (hb hby at_63) rfl rfl (XS.aload X50.here hx rfl (hb hby at_65) rfl rfl k)))) ?_
      obtain ⟨_, _, ⟨T52, L52, k52, n52⟩, -, X52, ⟨Lc52, hQ52, l52, y52, z52⟩, st52⟩ := Jvm.Stand.specialBack X50 hx (y := own_m7) rfl hown (mvT hZ (own_w G 51 rfl)) (mvT hZ (own_w G 52 rfl)) (mvT hZ (own_w G 53 rfl)) (by decide) (backOf (W := 1) (rmqi l Z a0 G [] b50 .null .null (.ref x46) .null .null .null h50 n0 O51 A50 F50_catalog F50_schema F50_name (rfl : Value.null.isRef = true) (rfl : Value.null.isRef = true) (rfl : (Value.ref x46).isRef = true) (by omega)) hZ (own_w G 53 rfl) (own_w G 50 rfl) (by decide) (by decide)) (g := (mkF m 67 #[.val (.int p0), .val (.int p1), .val (.int p2), .val (.int p3), .val .null, .val .null, .val (.ref x46), .val (.ref x48), .unset, .unset, .unset, .unset, .unset] [(.ref x46), .null, .null, (.ref b50), (.ref b50)])) rfl (by rw [hml]; rfl) (Steps.refl _) (a := b50) (argsL := [.null, .null, (.ref x46)]) (rest := [(.ref b50)]) (lenOf pd_5 rfl) rfl (by show 2 * 0 + _ ≤ _; exact Nat.le_of_eq rfl) (hb hby at_67) (fun _ _ => ⟨rfl, e50, (by decide : 5 + 0 ≤ _), (by decide : 13 + 0 ≤ _)⟩)
      dsimp only [Pt.U, Pt.locs, Pt.cells, Pt.slots] at X52 l52 y52 z52 st52 hQ52
      subst l52 y52 z52
      obtain ⟨rfl, N52q, Kq52, r52_0, r52_1, r52_2⟩ := hQ52
      have N52 := Fr.app N48 N52q
      have sz53 := Kq52.1
      have K53 := K51.trans Kq52 (own_all1 (Or.inr (by omega)))
      have O53 := O51.keep Kq52 (own_all1 (by omega))
      have ltr52_0 := own_ltN' r52_0.lt
      have ltr52_1 := own_ltN' r52_1.lt
      have ltr52_2 := own_ltN' r52_2.lt
      refine OwnEnd.tr (S' := T52.setTop (mkF m 70 #[.val (.int p0), .val (.int p1), .val (.int p2), .val (.int p3), .val .null, .val .null, .val (.ref x46), .val (.ref x48), .unset, .unset, .unset, .unset, .unset] [(.ref b50)])) st52 ?_
      refine OwnEnd.of (S' := T52.setTop (mkF m 74 #[.val (.int p0), .val (.int p1), .val (.int p2), .val (.int p3), .val .null, .val .null, .val (.ref x46), .val (.ref x48), .val (.ref b50), .unset, .unset, .unset, .unset] [(.ref b50)])) (fun _ k => XS.astore X52.here hx rfl (hb hby at_70) rfl rfl (l' := #[.val (.int p0), .val (.int p1), .val (.int p2), .val (.int p3), .val .null, .val .null, .val (.ref x46), .val (.ref x48), .val (.ref b50), .unset, .unset, .unset, .unset]) rfl (XS.aload X52.here hx rfl (hb hby at_72) rfl rfl k)) ?_
      obtain ⟨cq54, kq54, q54a, q54b, q54c⟩ := isOf hZ rfl r52_0
      obtain ⟨_, _, ⟨T54, L54, k54, n54⟩, -, X54, ⟨Lc54, hQ54, l54, y54, z54⟩, st54⟩ := X52.virtualBack hx (y := own_m8) (z := own_m8) hown (mvT hZ (own_w G 66 rfl)) (mvT hZ (own_w G 67 rfl)) (notFace_of_selects (args := #[]) (mvT hZ (own_w G 69 rfl))) (mvT hZ (own_w G 69 rfl)) (mvT hZ (own_w G 68 rfl)) (by decide) (backOf (W := 0) (rmqn l Z a0 G [] b50 .null T52.heap n0 O53 r52_2 r52_1 (rfl : Value.null.isRef = true)) hZ (own_w G 70 rfl) (own_w G 50 rfl) (by decide) (by decide)) q54a q54c (g := (mkF m 74 #[.val (.int p0), .val (.int p1), .val (.int p2), .val (.int p3), .val .null, .val .null, .val (.ref x46), .val (.ref x48), .val (.ref b50), .unset, .unset, .unset, .unset] [(.ref b50)])) rfl (by rw [hml]; rfl) (Steps.refl _) (argsL := []) (rest := []) (lenOf pd_8 rfl) rfl (by show 2 * 0 + _ ≤ _; exact Nat.le_of_eq rfl) (hb hby at_74) (fun _ _ => ⟨rfl, rfl, (by decide : 5 + 0 ≤ _), (by decide : 13 + 0 ≤ _)⟩)
      dsimp only [Pt.U, Pt.locs, Pt.cells, Pt.slots] at X54 l54 y54 z54 st54 hQ54
      subst l54 y54 z54
      obtain ⟨rfl, N54q, eh54⟩ := hQ54
      have N54 := Fr.app N52 N54q
      refine OwnEnd.tr (S' := T54.setTop (mkF m 77 #[.val (.int p0), .val (.int p1), .val (.int p2), .val (.int p3), .val .null, .val .null, .val (.ref x46), .val (.ref x48), .val (.ref b50), .unset, .unset, .unset, .unset] [.null])) st54 ?_
      refine OwnEnd.of (S' := T54.setTop (mkF m 117 #[.val (.int p0), .val (.int p1), .val (.int p2), .val (.int p3), .val .null, .val .null, .val (.ref x46), .val (.ref x48), .val (.ref b50), .val .null, .val (.int (1 : Int32)), .unset, .unset] [(.ref b50)])) (fun _ k => XS.astore X54.here hx rfl (hb hby at_77) rfl rfl (l' := #[.val (.int p0), .val (.int p1), .val (.int p2), .val (.int p3), .val .null, .val .null, .val (.ref x46), .val (.ref x48), .val (.ref b50), .val .null, .unset, .unset, .unset]) rfl (XS.aload X54.here hx rfl (hb hby at_79) rfl rfl (XS.ifnullYes X54.here hx rfl (pc0 := 81) (pc' := 101) rfl (hb hby at_81) rfl (by decide) (by decide) (XS.aload X54.here hx rfl (hb hby at_101) rfl rfl (XS.aload X54.here hx rfl (hb hby at_103) rfl rfl (Jvm.RoadKit.acmp (g := (mkF m 105 #[.val (.int p0), .val (.int p1), .val (.int p2), .val (.int p3), .val .null, .val .null, .val (.ref x46), .val (.ref x48), .val (.ref b50), .val .null, .unset, .unset, .unset] [.null, .null])) X54 hx rfl (x := .null) (y := .null) rfl rfl (pc0 := 105) (pc' := 108) (same := true) rfl (hb hby at_105) rfl (decide_eq_true rfl) (by decide) (by decide) (XS.iconst X54.here hx rfl (hb hby at_108) (XS.goto X54.here hx rfl (pc0 := 109) (pc' := 113) rfl (hb hby at_109) (by decide) (by decide) (XS.istore X54.here hx rfl (hb hby at_113) rfl (l' := #[.val (.int p0), .val (.int p1), .val (.int p2), .val (.int p3), .val .null, .val .null, .val (.ref x46), .val (.ref x48), .val (.ref b50), .val .null, .val (.int (1 : Int32)), .unset, .unset]) rfl (XS.aload X54.here hx rfl (hb hby at_115) rfl rfl k)))))))))) ?_
      refine OwnEnd.of (S' := T54.setTop (mkF m 121 #[.val (.int p0), .val (.int p1), .val (.int p2), .val (.int p3), .val .null, .val .null, .val (.ref x46), .val (.ref x48), .val (.ref b50), .val .null, .val (.int (1 : Int32)), .unset, .unset] [(.ref x46), (.ref x48), (.ref b50)])) (fun _ k => XS.aload X54.here hx rfl (hb hby at_117) rfl rfl (XS.aload X54.here hx rfl (hb hby at_119) rfl rfl k)) ?_
      obtain ⟨cq55, kq55, q55a, q55b, q55c⟩ := isOf hZ eh54 r52_0
      obtain ⟨_, _, ⟨T55, L55, k55, n55⟩, -, X55, ⟨Lc55, hQ55, l55, y55, z55⟩, st55⟩ := X54.virtualBack hx (y := own_m9) (z := own_m9) hown (mvT hZ (own_w G 71 rfl)) (mvT hZ (own_w G 72 rfl)) (notFace_of_selects (args := #[]) (mvT hZ (own_w G 74 rfl))) (mvT hZ (own_w G 74 rfl)) (mvT hZ (own_w G 73 rfl)) (by decide) (backOf (W := 0) (rmsn l Z a0 G [] b50 x48 x46 T52.heap n0 O53 r52_2) hZ (own_w G 75 rfl) (own_w G 50 rfl) (by decide) (by decide)) q55a q55c (g := (mkF m 121 #[.val (.int p0), .val (.int p1), .val (.int p2), .val (.int p3), .val .null, .val .null, .val (.ref x46), .val (.ref x48), .val (.ref b50), .val .null, .val (.int (1 : Int32)), .unset, .unset] [(.ref x46), (.ref x48), (.ref b50)])) rfl (by rw [hml]; rfl) (Steps.refl _) (argsL := [(.ref x48), (.ref x46)]) (rest := []) (lenOf pd_9 rfl) rfl (by show 2 * 0 + _ ≤ _; exact Nat.le_of_eq rfl) (hb hby at_121) (fun _ _ => ⟨rfl, eh54, (by decide : 5 + 1 ≤ _), (by decide : 13 + 3 ≤ _)⟩)
      dsimp only [Pt.U, Pt.locs, Pt.cells, Pt.slots] at X55 l55 y55 z55 st55 hQ55
      subst l55 y55 z55
      obtain ⟨x55, rfl, N55q, Kq55, r55_0, r55_1, r55_2⟩ := hQ55
      have N55 := Fr.app N54 N55q
      have sz56 := Kq55.1
      have K56 := K53.trans Kq55 (own_all0 )
      have O56 := O53.keep Kq55 (own_all0 )
      have ltr55_0 := own_ltN' r55_0.lt
      have ltr55_1 := own_ltN' r55_1.lt
      have ltr55_2 := own_ltN' r55_2.lt
      refine OwnEnd.tr (S' := T55.setTop (mkF m 124 #[.val (.int p0), .val (.int p1), .val (.int p2), .val (.int p3), .val .null, .val .null, .val (.ref x46), .val (.ref x48), .val (.ref b50), .val .null, .val (.int (1 : Int32)), .unset, .unset] [(.ref x55)])) st55 ?_
      refine OwnEnd.of (S' := T55.setTop (mkF m 128 #[.val (.int p0), .val (.int p1), .val (.int p2), .val (.int p3), .val .null, .val .null, .val (.ref x46), .val (.ref x48), .val (.ref b50), .val .null, .val (.int (1 : Int32)), .val (.ref x55), .unset] [(.ref x55)])) (fun _ k => XS.astore X55.here hx rfl (hb hby at_124) rfl rfl (l' := #[.val (.int p0), .val (.int p1), .val (.int p2), .val (.int p3), .val .null, .val .null, .val (.ref x46), .val (.ref x48), .val (.ref b50), .val .null, .val (.int (1 : Int32)), .val (.ref x55), .unset]) rfl (XS.aload X55.here hx rfl (hb hby at_126) rfl rfl k)) ?_
      obtain ⟨cq57, kq57, q57a, q57b, q57c⟩ := isOf hZ rfl r55_0
      obtain ⟨_, _, ⟨T57, L57, k57, n57⟩, -, X57, ⟨Lc57, hQ57, l57, y57, z57⟩, st57⟩ := X55.virtualBack hx (y := own_m8) (z := own_m8) hown (mvT hZ (own_w G 66 rfl)) (mvT hZ (own_w G 67 rfl)) (notFace_of_selects (args := #[]) (mvT hZ (own_w G 69 rfl))) (mvT hZ (own_w G 69 rfl)) (mvT hZ (own_w G 68 rfl)) (by decide) (backOf (W := 0) (rmqn l Z a0 G [] x55 (.ref x48) T55.heap n0 O56 r55_2 r55_1 (rfl : (Value.ref x48).isRef = true)) hZ (own_w G 70 rfl) (own_w G 50 rfl) (by decide) (by decide)) q57a q57c (g := (mkF m 128 #[.val (.int p0), .val (.int p1), .val (.int p2), .val (.int p3), .val .null, .val .null, .val (.ref x46), .val (.ref x48), .val (.ref b50), .val .null, .val (.int (1 : Int32)), .val (.ref x55), .unset] [(.ref x55)])) rfl (by rw [hml]; rfl) (Steps.refl _) (argsL := []) (rest := []) (lenOf pd_8 rfl) rfl (by show 2 * 0 + _ ≤ _; exact Nat.le_of_eq rfl) (hb hby at_128) (fun _ _ => ⟨rfl, rfl, (by decide : 6 + 0 ≤ _), (by decide : 16 + 0 ≤ _)⟩)
      dsimp only [Pt.U, Pt.locs, Pt.cells, Pt.slots] at X57 l57 y57 z57 st57 hQ57
      subst l57 y57 z57
      obtain ⟨rfl, N57q, eh57⟩ := hQ57
      have N57 := Fr.app N55 N57q
      refine OwnEnd.tr (S' := T57.setTop (mkF m 131 #[.val (.int p0), .val (.int p1), .val (.int p2), .val (.int p3), .val .null, .val .null, .val (.ref x46), .val (.ref x48), .val (.ref b50), .val .null, .val (.int (1 : Int32)), .val (.ref x55), .unset] [(.ref x48)])) st57 ?_
      refine OwnEnd.of (S' := T57.setTop (mkF m 154 #[.val (.int p0), .val (.int p1), .val (.int p2), .val (.int p3), .val .null, .val .null, .val (.ref x46), .val (.ref x48), .val (.ref b50), .val .null, .val (.int (1 : Int32)), .val (.ref x55), .val (.int (1 : Int32))] [(.int (1 : Int32))])) (fun _ k => XS.aload X57.here hx rfl (hb hby at_131) rfl rfl (Jvm.RoadKit.acmp (g := (mkF m 133 #[.val (.int p0), .val (.int p1), .val (.int p2), .val (.int p3), .val .null, .val .null, .val (.ref x46), .val (.ref x48), .val (.ref b50), .val .null, .val (.int (1 : Int32)), .val (.ref x55), .unset] [(.ref x48), (.ref x48)])) X57 hx rfl (x := (.ref x48)) (y := (.ref x48)) rfl rfl (pc0 := 133) (pc' := 136) (same := true) rfl (hb hby at_133) rfl (decide_eq_true rfl) (by decide) (by decide) (XS.iconst X57.here hx rfl (hb hby at_136) (XS.goto X57.here hx rfl (pc0 := 137) (pc' := 141) rfl (hb hby at_137) (by decide) (by decide) (XS.istore X57.here hx rfl (hb hby at_141) rfl (l' := #[.val (.int p0), .val (.int p1), .val (.int p2), .val (.int p3), .val .null, .val .null, .val (.ref x46), .val (.ref x48), .val (.ref b50), .val .null, .val (.int (1 : Int32)), .val (.ref x55), .val (.int (1 : Int32))]) rfl (XS.iload X57.here hx rfl (hb hby at_143) rfl (XS.ifNo X57.here hx rfl (hb hby at_145) rfl ((if0 _ _).trans (feq ((by decide : ¬ ((1 : Int32) = (0 : Int32))))).1) (XS.iload X57.here hx rfl (hb hby at_148) rfl (XS.ifNo X57.here hx rfl (hb hby at_150) rfl ((if0 _ _).trans (feq ((by decide : ¬ ((1 : Int32) = (0 : Int32))))).1) (XS.iconst X57.here hx rfl (hb hby at_153) k)))))))))) ?_
      refine OwnEnd.of (S' := T57.setTop (mkF m 158 #[.val (.int p0), .val (.int p1), .val (.int p2), .val (.int p3), .val .null, .val .null, .val (.ref x46), .val (.ref x48), .val (.ref b50), .val .null, .val (.int (1 : Int32)), .val (.ref x55), .val (.int (1 : Int32))] [(.int (1 : Int32))])) (fun _ k => XS.goto X57.here hx rfl (pc0 := 154) (pc' := 158) rfl (hb hby at_154) (by decide) (by decide) k) ?_
      refine OwnEnd.ret X57 (v := (some (.int (nar .boolean (1 : Int32))))) (fun h => by rw [Bd.returns] at h; cases h) hlk (fun fs hr => retN X57 hx (t := .boolean) Bd.returns (by simp) (hb hby at_158) hr) (by decide) (by decide) (Q := Qlaw Z p0 p1 p2 p3 h0 n0) eh57 ?_
      exact ⟨rfl, N57, K56⟩
set_option maxRecDepth 65536 in
set_option maxHeartbeats 40000000 in
theorem comes_1 {Post : Tables → Env → Array Value → State → Outcome → State → Prop} (hpost : ∀ tb e args s v u, (limb_1_1.after args s (.returned v) u = true ∧ limb_1_2.after args s (.returned v) u = true ∧ True) → FrameEnd s (.returned v) u (Jvm.fieldLocs frame_1_writes args s ++ Jvm.arrayLocs frame_1_arrays args s ++ Jvm.staticLocs frame_1_statics s) 32 128 → Post tb e args s (.returned v) u) :
    ArmFor flags0 classFile x code maxLocals ret World_1 tables_1 room_1 Calls_1 rest_1 Pre_1 Post := by
  intro l hfl _ _ p e ha hc hk s m args below hf hA hF happ hP
  obtain ⟨hcalls, hrest, hpre⟩ := hP
  obtain ⟨-, -, -, hnamed, -, -, -, hat⟩ := (Spec.applies_iff hf).mp happ
  obtain ⟨hg, hn⟩ := and_e (Cond.before_iff.mp (show (Jvm.Cond.and given_1 narrow_1).before args s = true from hpre))
  obtain ⟨h1, h2⟩ := and_e hg
  obtain ⟨g0, t0⟩ := and_e h2
  obtain ⟨g1, t1⟩ := and_e t0
  obtain ⟨g2, t2⟩ := and_e t1
  obtain ⟨w0, w1, w2, w3, rfl⟩ : ∃ w0 w1 w2 w3 : Value, args = #[w0, w1, w2, w3] := by
    have hs : args.size = 4 := by simpa [Cond.value, given_1] using h1
    obtain ⟨L⟩ := args
    match L, hs with
    | [w0, w1, w2, w3], _ => exact ⟨w0, w1, w2, w3, rfl⟩
  have hw := fun d (hd : d ∈ tables_1) => atoms_spec (ws := Jvm.Cond.code x code maxLocals ret :: tables_1) hat d (List.mem_cons_of_mem _ hd)
  obtain ⟨hsets, hown0⟩ := atoms_of _ (rest_1_c_eq ▸ (show rest_1_c.before _ s = true from hrest))
  obtain ⟨i0, ei0⟩ := is_v g0
  obtain rfl : w0 = (.int i0) := Option.some.inj ei0
  obtain ⟨i1, ei1⟩ := is_v g1
  obtain rfl : w1 = (.int i1) := Option.some.inj ei1
  obtain ⟨i2, ei2⟩ := is_v g2
  obtain rfl : w2 = (.int i2) := Option.some.inj ei2
  obtain ⟨i3, ei3⟩ := is_v t2
  obtain rfl : w3 = (.int i3) := Option.some.inj ei3
  have G : OwnG s #[(.int i0), (.int i1), (.int i2), (.int i3)] := ⟨hw, hsets⟩
  obtain ⟨n, o, h1, h2, h3, _, L, rfl, ⟨rfl, N, -⟩, hq⟩ := rmlaw l s _ G tables_1 i0 i1 i2 i3 s.heap s.heap.size (Old.start s) p e ha hc hk s m _ below hf ((Spec.applies_iff_loose hf).mp happ).1 ⟨rfl, State.Warmed39.refl s, rfl⟩ trivial
  refine ⟨n, _, h1, h2, h3, hpost _ _ _ _ _ _ ⟨Cond.after_iff.mpr rfl, Cond.after_iff.mpr (eq_i res_at (Term.int_eval (1)) rfl), trivial⟩ ⟨hq.1, hq.2.1, (hq.2.2.sift fun y hy => Or.inr (N y hy)).mono (by decide) (by decide)⟩⟩
theorem main_1_1 : Claimed_1_1 := comes_1 fun _ _ _ _ _ _ h hF => ⟨h.1, hF⟩
theorem main_1_2 : Claimed_1_2 := comes_1 fun _ _ _ _ _ _ h hF => ⟨h.2.1, hF⟩
end Jvm.Pilot.@@N@@
namespace Jvm.Pilot.@@N@@
open Jvm Jvm.ClassFile Sem Op Lib Jvm.Free Jvm.Stand Jvm.Pilot.@@N@@.Jvm.D
/-! MADE BY PROGRAM (witnessworld.py) out of the Statement's table words and the real class files: 21 classes; the members and pool entries that the words name. The judged class is class 1, her method 2. -/
namespace start1
open Jvm.ClassFile
def u (s : String) : CpInfo := .utf8 (stringToUtf16 s)
/-- a pool by its gaps: so many unusable entries, then the entry; so many at the end -/
def gap : Nat → List CpInfo → List CpInfo
  | 0, r => r
  | n + 1, r => .unusable :: gap n r
def poolList (es : List (Nat × CpInfo)) (last : Nat) : List CpInfo := es.foldr (fun e r => gap e.1 (e.2 :: r)) (gap last [])
def pool (es : List (Nat × CpInfo)) (last : Nat) : Array CpInfo := ⟨poolList es last⟩
def fileOf (pool : Array CpInfo) (this : Nat) (attrs : Array Attribute := #[]) (ms : Array MethodInfo := #[]) (fl : Nat := 33) (sup : Nat := 0) (ifs : Array Nat := #[]) (fds : Array FieldInfo := #[]) : ClassFile where
  minorVersion := 0
  majorVersion := 65
  constantPool := pool
  accessFlags := fl
  thisClass := this
  superClass := sup
  interfaces := ifs
  fields := fds
  methods := ms
  attributes := attrs
def plain (name : String) (sup : Option ClassId) : Class where
  name := name
  kind := .ordinary
  loader := none
  accessFlags := 33
  super := sup
  interfaces := #[]
  cf := none
  fields := #[]
  methods := #[]
  instanceTypes := #[]
  staticTypes := #[]
  resolved := #[]
  callSites := []
  init := .initialized
  statics := none
  mirror := none

def pool0 : Array CpInfo := pool [(5, u "<init>"), (0, u "()V"), (1, .class_ 10), (1, u "java/lang/Object")] 113

def k0c0 : Code := { maxStack := 0, maxLocals := 1, code := object_method_1_code, exceptionTable := #[], attributes := #[] }
def k0m0 : Method := { name := "<init>", desc := "()V", sig := { parameters := [], returnType := none }, accessFlags := 1, code := some k0c0 }
/-- java/lang/Object -/
def k0 : Class := { plain "java/lang/Object" none with
  accessFlags := 33
  interfaces := #[]
  cf := some (fileOf pool0 8 #[] #[{ accessFlags := 1, nameIndex := 5, descriptorIndex := 6, attributes := #[] }] 33 0 #[] #[])
  fields := #[]
  methods := #[k0m0]
  instanceTypes := #[]
  staticTypes := #[]
  resolved := Array.replicate 124 none
  statics := none }

def pool1 : Array CpInfo := pool [(2, .class_ 4), (1, u "java/lang/Object"), (0, u "<init>"), (0, u "()V"), (0, .class_ 8), (0, u "java/lang/String"), (0, .methodref 7 10), (0, .nameAndType 5 11), (0, u "([C)V"), (0, .methodref 13 14), (0, .class_ 15), (0, .nameAndType 16 17), (0, u "com/example/relfix/relfix/QualifiedNameQualifierPinLaw"), (0, u "drawn"), (0, u "(I)Ljava/lang/String;"), (0, .methodref 7 19), (0, .nameAndType 20 21), (0, u "valueOf"), (0, u "(C)Ljava/lang/String;"), (0, .class_ 23), (0, u "com/example/relfix/relfix/DatabaseTable$QualifiedName"), (0, .methodref 22 25), (0, .nameAndType 5 26), (0, u "(Ljava/lang/String;Ljava/lang/String;Ljava/lang/String;)V"), (0, .methodref 22 28), (0, .nameAndType 29 30), (0, u "qualifier"), (0, u "()Ljava/lang/String;"), (0, .methodref 22 32), (0, .nameAndType 33 34), (0, u "sibling"), (0, u "(Ljava/lang/String;Ljava/lang/String;)Lcom/example/relfix/relfix/DatabaseTable$QualifiedName;"), (2, u "law"), (0, u "(IIII)Z")] 7

def k1m0 : Method := { name := "<init>", desc := "()V", sig := { parameters := [], returnType := none }, accessFlags := 2, code := none }
def k1c1 : Code := { maxStack := 7, maxLocals := 1, code := method_2_code, exceptionTable := #[], attributes := #[] }
def k1m1 : Method := { name := "drawn", desc := "(I)Ljava/lang/String;", sig := { parameters := [.int], returnType := some (.object "java/lang/String") }, accessFlags := 10, code := some k1c1 }
def k1c2 : Code := { maxStack := 5, maxLocals := 13, code := code, exceptionTable := #[], attributes := #[] }
def k1m2 : Method := { name := "law", desc := "(IIII)Z", sig := { parameters := [.int, .int, .int, .int], returnType := some .boolean }, accessFlags := 9, code := some k1c2 }
/-- com/example/relfix/relfix/QualifiedNameQualifierPinLaw -/
def k1 : Class := { plain "com/example/relfix/relfix/QualifiedNameQualifierPinLaw" (some 0) with
  accessFlags := 49
  interfaces := #[]
  cf := some (fileOf pool1 13 #[] #[{ accessFlags := 2, nameIndex := 5, descriptorIndex := 6, attributes := #[] }, { accessFlags := 10, nameIndex := 16, descriptorIndex := 17, attributes := #[] }, { accessFlags := 9, nameIndex := 37, descriptorIndex := 38, attributes := #[] }] 49 2 #[] #[])
  fields := #[]
  methods := #[k1m0, k1m1, k1m2]
  instanceTypes := #[]
  staticTypes := #[]
  resolved := Array.replicate 46 none
  statics := none }

def pool2 : Array CpInfo := pool [(1, .class_ 2), (0, u "java/io/Serializable"), (0, .class_ 4), (0, u "java/lang/Object")] 2

/-- java/io/Serializable -/
def k2 : Class := { plain "java/io/Serializable" (some 0) with
  accessFlags := 1537
  interfaces := #[]
  cf := some (fileOf pool2 1 #[] #[] 1537 3 #[] #[])
  fields := #[]
  methods := #[]
  instanceTypes := #[]
  staticTypes := #[]
  resolved := Array.replicate 7 none
  statics := none }

def pool3 : Array CpInfo := pool [(1, .class_ 2), (0, u "java/lang/Comparable"), (0, .class_ 4), (0, u "java/lang/Object")] 7

/-- java/lang/Comparable -/
def k3 : Class := { plain "java/lang/Comparable" (some 0) with
  accessFlags := 1537
  interfaces := #[]
  cf := some (fileOf pool3 1 #[] #[] 1537 3 #[] #[])
  fields := #[]
  methods := #[]
  instanceTypes := #[]
  staticTypes := #[]
  resolved := Array.replicate 12 none
  statics := none }

def pool4 : Array CpInfo := pool [(2, .class_ 4), (1, u "java/lang/CharSequence"), (42, .class_ 48), (0, u "java/lang/CharSequence$1CodePointIterator"), (10, .class_ 60), (0, u "java/lang/CharSequence$1CharIterator"), (5, .class_ 67), (0, u "java/lang/Object")] 63

/-- java/lang/CharSequence -/
def k4 : Class := { plain "java/lang/CharSequence" (some 0) with
  accessFlags := 1537
  interfaces := #[]
  cf := some (fileOf pool4 2 #[.nestMembers #[47, 59]] #[] 1537 66 #[] #[])
  fields := #[]
  methods := #[]
  instanceTypes := #[]
  staticTypes := #[]
  resolved := Array.replicate 131 none
  statics := none }

def pool5 : Array CpInfo := pool [(1, .class_ 2), (0, u "java/lang/constant/Constable"), (0, .class_ 4), (0, u "java/lang/Object")] 6

/-- java/lang/constant/Constable -/
def k5 : Class := { plain "java/lang/constant/Constable" (some 0) with
  accessFlags := 1537
  interfaces := #[]
  cf := some (fileOf pool5 1 #[] #[] 1537 3 #[] #[])
  fields := #[]
  methods := #[]
  instanceTypes := #[]
  staticTypes := #[]
  resolved := Array.replicate 11 none
  statics := none }

def pool6 : Array CpInfo := pool [(1, .class_ 2), (0, u "java/lang/constant/ConstantDesc"), (0, .class_ 4), (0, u "java/lang/Object")] 32

/-- java/lang/constant/ConstantDesc -/
def k6 : Class := { plain "java/lang/constant/ConstantDesc" (some 0) with
  accessFlags := 1537
  interfaces := #[]
  cf := some (fileOf pool6 1 #[] #[] 1537 3 #[] #[])
  fields := #[]
  methods := #[]
  instanceTypes := #[]
  staticTypes := #[]
  resolved := Array.replicate 37 none
  statics := none }

def pool7 : Array CpInfo := pool [(1, .methodref 2 3), (0, .class_ 4), (0, .nameAndType 5 6), (0, u "java/lang/Object"), (0, u "<init>"), (0, u "()V"), (2, .fieldref 10 11), (0, .class_ 12), (0, .nameAndType 13 14), (0, u "java/lang/String"), (0, u "value"), (0, u "[B"), (0, .fieldref 10 16), (0, .nameAndType 17 18), (0, u "coder"), (0, u "B"), (2, u "hash"), (0, u "I"), (2, u "hashIsZero"), (0, u "Z"), (0, .methodref 10 28), (0, .nameAndType 5 29), (0, u "([CIILjava/lang/Void;)V"), (8, .fieldref 10 39), (0, .nameAndType 40 26), (0, u "COMPACT_STRINGS"), (1, .class_ 44), (1, u "java/lang/StringUTF16"), (0, u "compress"), (1, .methodref 42 48), (0, .nameAndType 49 50), (0, u "coderFromArrayLen"), (0, u "([BI)B"), (2, u "toBytes"), (53, .class_ 109), (1, u "java/lang/StringLatin1"), (67, .methodref 42 178), (0, .nameAndType 45 179), (0, u "([CII)[B"), (29, .methodref 10 210), (0, .nameAndType 5 211), (0, u "([BB)V"), (157, u "(C)Z"), (205, .class_ 576), (0, u "java/lang/CharSequence"), (22, u "CASE_INSENSITIVE_ORDER"), (0, u "Ljava/util/Comparator;"), (181, u "valueOf"), (0, u "(C)Ljava/lang/String;"), (226, u "([C)V"), (4, .methodref 107 1016), (0, .nameAndType 1017 369), (0, u "canEncode"), (0, .methodref 107 1019), (0, .nameAndType 53 1020), (0, u "(C)[B"), (80, u "serialPersistentFields"), (0, u "[Ljava/io/ObjectStreamField;"), (0, .class_ 1104), (0, u "java/lang/String$CaseInsensitiveComparator"), (1, .class_ 1107), (0, u "java/io/Serializable"), (0, .class_ 1109), (0, u "java/lang/Comparable"), (0, .class_ 1111), (0, u "java/lang/constant/Constable"), (0, .class_ 1113), (0, u "java/lang/constant/ConstantDesc"), (2, u "serialVersionUID"), (0, u "J"), (3, u "REPL"), (0, u "C"), (2, u "LATIN1"), (1, u "UTF16")] 323

def k7m0 : Method := { name := "<init>", desc := "()V", sig := { parameters := [], returnType := none }, accessFlags := 1, code := none }
def k7c1 : Code := { maxStack := 5, maxLocals := 2, code := jdk_42_method_3_code, exceptionTable := #[], attributes := #[] }
def k7m1 : Method := { name := "<init>", desc := "([C)V", sig := { parameters := [(.array .char)], returnType := none }, accessFlags := 1, code := some k7c1 }
def k7c2 : Code := { maxStack := 4, maxLocals := 1, code := jdk_42_method_139_code, exceptionTable := #[], attributes := #[] }
def k7m2 : Method := { name := "valueOf", desc := "(C)Ljava/lang/String;", sig := { parameters := [.char], returnType := some (.object "java/lang/String") }, accessFlags := 9, code := some k7c2 }
def k7c3 : Code := { maxStack := 4, maxLocals := 6, code := jdk_42_method_149_code, exceptionTable := #[], attributes := #[] }
def k7m3 : Method := { name := "<init>", desc := "([CIILjava/lang/Void;)V", sig := { parameters := [(.array .char), .int, .int, (.object "java/lang/Void")], returnType := none }, accessFlags := 2, code := some k7c3 }
def k7c4 : Code := { maxStack := 2, maxLocals := 3, code := jdk_42_method_151_code, exceptionTable := #[], attributes := #[] }
def k7m4 : Method := { name := "<init>", desc := "([BB)V", sig := { parameters := [(.array .byte), .byte], returnType := none }, accessFlags := 0, code := some k7c4 }
/-- java/lang/String -/
def k7 : Class := { plain "java/lang/String" (some 0) with
  accessFlags := 49
  interfaces := #[2, 3, 4, 5, 6]
  cf := some (fileOf pool7 10 #[.nestMembers #[1103]] #[{ accessFlags := 1, nameIndex := 5, descriptorIndex := 6, attributes := #[] }, { accessFlags := 1, nameIndex := 5, descriptorIndex := 1010, attributes := #[] }, { accessFlags := 9, nameIndex := 782, descriptorIndex := 783, attributes := #[] }, { accessFlags := 2, nameIndex := 5, descriptorIndex := 29, attributes := #[] }, { accessFlags := 0, nameIndex := 5, descriptorIndex := 211, attributes := #[] }] 49 2 #[1106, 1108, 575, 1110, 1112] #[{ accessFlags := 18, nameIndex := 13, descriptorIndex := 14, attributes := #[] }, { accessFlags := 18, nameIndex := 17, descriptorIndex := 18, attributes := #[] }, { accessFlags := 2, nameIndex := 21, descriptorIndex := 22, attributes := #[] }, { accessFlags := 2, nameIndex := 25, descriptorIndex := 26, attributes := #[] }, { accessFlags := 26, nameIndex := 1116, descriptorIndex := 1117, attributes := #[] }, { accessFlags := 24, nameIndex := 40, descriptorIndex := 26, attributes := #[] }, { accessFlags := 26, nameIndex := 1101, descriptorIndex := 1102, attributes := #[] }, { accessFlags := 26, nameIndex := 1121, descriptorIndex := 1122, attributes := #[] }, { accessFlags := 25, nameIndex := 599, descriptorIndex := 600, attributes := #[] }, { accessFlags := 24, nameIndex := 1125, descriptorIndex := 18, attributes := #[] }, { accessFlags := 24, nameIndex := 1127, descriptorIndex := 18, attributes := #[] }])
  fields := #[{ name := "value", type := (.array .byte), accessFlags := 18, slot := 0, constantValue := 0 }, { name := "coder", type := .byte, accessFlags := 18, slot := 1, constantValue := 0 }, { name := "hash", type := .int, accessFlags := 2, slot := 2, constantValue := 0 }, { name := "hashIsZero", type := .boolean, accessFlags := 2, slot := 3, constantValue := 0 }, { name := "serialVersionUID", type := .long, accessFlags := 26, slot := 0, constantValue := 0 }, { name := "COMPACT_STRINGS", type := .boolean, accessFlags := 24, slot := 1, constantValue := 0 }, { name := "serialPersistentFields", type := (.array (.object "java/io/ObjectStreamField")), accessFlags := 26, slot := 2, constantValue := 0 }, { name := "REPL", type := .char, accessFlags := 26, slot := 3, constantValue := 0 }, { name := "CASE_INSENSITIVE_ORDER", type := (.object "java/util/Comparator"), accessFlags := 25, slot := 4, constantValue := 0 }, { name := "LATIN1", type := .byte, accessFlags := 24, slot := 5, constantValue := 0 }, { name := "UTF16", type := .byte, accessFlags := 24, slot := 6, constantValue := 0 }]
  methods := #[k7m0, k7m1, k7m2, k7m3, k7m4]
  instanceTypes := #[(.array .byte), .byte, .int, .boolean]
  staticTypes := #[.long, .boolean, (.array (.object "java/io/ObjectStreamField")), .char, (.object "java/util/Comparator"), .byte, .byte]
  resolved := Array.replicate 1451 none
  statics := some 0 }

def pool8 : Array CpInfo := pool [(6, .class_ 8), (1, u "java/lang/Object"), (0, u "<init>"), (0, u "()V"), (1, .class_ 14), (1, u "java/lang/StringUTF16"), (31, u "$assertionsDisabled"), (0, u "Z"), (13, u "HI_BYTE_SHIFT"), (0, u "I"), (2, u "LO_BYTE_SHIFT"), (49, .methodref 12 116), (0, .nameAndType 117 118), (0, u "compress"), (0, u "([CI[BII)I"), (3, u "([CII)[B"), (138, u "coderFromArrayLen"), (0, u "([BI)B"), (106, .class_ 371), (1, u "java/lang/StringUTF16$LinesSpliterator"), (58, u "MAX_LENGTH"), (196, .class_ 628), (0, u "java/lang/StringUTF16$CodePointsSpliterator"), (0, .class_ 630), (0, u "java/lang/StringUTF16$CharsSpliterator")] 4

def k8m0 : Method := { name := "<init>", desc := "()V", sig := { parameters := [], returnType := none }, accessFlags := 0, code := none }
def k8c1 : Code := { maxStack := 2, maxLocals := 2, code := jdk_52_method_15_code, exceptionTable := #[], attributes := #[] }
def k8m1 : Method := { name := "coderFromArrayLen", desc := "([BI)B", sig := { parameters := [(.array .byte), .int], returnType := some .byte }, accessFlags := 8, code := some k8c1 }
def k8c2 : Code := { maxStack := 5, maxLocals := 6, code := jdk_52_method_16_code, exceptionTable := #[], attributes := #[] }
def k8m2 : Method := { name := "compress", desc := "([CII)[B", sig := { parameters := [(.array .char), .int, .int], returnType := some (.array .byte) }, accessFlags := 9, code := some k8c2 }
def k8c3 : Code := { maxStack := 3, maxLocals := 7, code := jdk_52_method_21_code, exceptionTable := #[], attributes := #[] }
def k8m3 : Method := { name := "compress", desc := "([CI[BII)I", sig := { parameters := [(.array .char), .int, (.array .byte), .int, .int], returnType := some .int }, accessFlags := 9, code := some k8c3 }
/-- java/lang/StringUTF16 -/
def k8 : Class := { plain "java/lang/StringUTF16" (some 0) with
  accessFlags := 48
  interfaces := #[]
  cf := some (fileOf pool8 12 #[.nestMembers #[627, 629, 369]] #[{ accessFlags := 0, nameIndex := 9, descriptorIndex := 10, attributes := #[] }, { accessFlags := 8, nameIndex := 261, descriptorIndex := 262, attributes := #[] }, { accessFlags := 9, nameIndex := 117, descriptorIndex := 122, attributes := #[] }, { accessFlags := 9, nameIndex := 117, descriptorIndex := 118, attributes := #[] }] 48 6 #[] #[{ accessFlags := 26, nameIndex := 61, descriptorIndex := 62, attributes := #[] }, { accessFlags := 26, nameIndex := 65, descriptorIndex := 62, attributes := #[] }, { accessFlags := 24, nameIndex := 430, descriptorIndex := 62, attributes := #[] }, { accessFlags := 4120, nameIndex := 46, descriptorIndex := 47, attributes := #[] }])
  fields := #[{ name := "HI_BYTE_SHIFT", type := .int, accessFlags := 26, slot := 0, constantValue := 0 }, { name := "LO_BYTE_SHIFT", type := .int, accessFlags := 26, slot := 1, constantValue := 0 }, { name := "MAX_LENGTH", type := .int, accessFlags := 24, slot := 2, constantValue := 0 }, { name := "$assertionsDisabled", type := .boolean, accessFlags := 4120, slot := 3, constantValue := 0 }]
  methods := #[k8m0, k8m1, k8m2, k8m3]
  instanceTypes := #[]
  staticTypes := #[.int, .int, .int, .boolean]
  resolved := Array.replicate 635 none
  statics := none }

def pool9 : Array CpInfo := pool [(4, .class_ 6), (1, u "java/lang/Object"), (0, u "<init>"), (0, u "()V"), (5, .class_ 16), (1, u "java/lang/StringLatin1"), (73, u "canEncode"), (14, u "(C)Z"), (15, u "$assertionsDisabled"), (0, u "Z"), (98, .class_ 223), (1, u "java/lang/StringLatin1$LinesSpliterator"), (156, u "toBytes"), (1, u "(C)[B"), (7, .class_ 391), (0, u "java/lang/StringLatin1$CharsSpliterator")] 3

def k9m0 : Method := { name := "<init>", desc := "()V", sig := { parameters := [], returnType := none }, accessFlags := 0, code := none }
def k9c1 : Code := { maxStack := 2, maxLocals := 1, code := jdk_43_method_3_code, exceptionTable := #[], attributes := #[] }
def k9m1 : Method := { name := "canEncode", desc := "(C)Z", sig := { parameters := [.char], returnType := some .boolean }, accessFlags := 9, code := some k9c1 }
def k9c2 : Code := { maxStack := 4, maxLocals := 1, code := jdk_43_method_46_code, exceptionTable := #[], attributes := #[] }
def k9m2 : Method := { name := "toBytes", desc := "(C)[B", sig := { parameters := [.char], returnType := some (.array .byte) }, accessFlags := 9, code := some k9c2 }
/-- java/lang/StringLatin1 -/
def k9 : Class := { plain "java/lang/StringLatin1" (some 0) with
  accessFlags := 48
  interfaces := #[]
  cf := some (fileOf pool9 14 #[.nestMembers #[390, 221]] #[{ accessFlags := 0, nameIndex := 7, descriptorIndex := 8, attributes := #[] }, { accessFlags := 9, nameIndex := 90, descriptorIndex := 105, attributes := #[] }, { accessFlags := 9, nameIndex := 380, descriptorIndex := 382, attributes := #[] }] 48 4 #[] #[{ accessFlags := 4120, nameIndex := 121, descriptorIndex := 122, attributes := #[] }])
  fields := #[{ name := "$assertionsDisabled", type := .boolean, accessFlags := 4120, slot := 0, constantValue := 0 }]
  methods := #[k9m0, k9m1, k9m2]
  instanceTypes := #[]
  staticTypes := #[.boolean]
  resolved := Array.replicate 395 none
  statics := none }

def pool10 : Array CpInfo := pool [(1, .methodref 2 3), (0, .class_ 4), (0, .nameAndType 5 6), (0, u "java/lang/Object"), (0, u "<init>"), (0, u "()V"), (0, .class_ 8), (0, u "java/lang/Record")] 13

def k10c0 : Code := { maxStack := 1, maxLocals := 1, code := jdk_30_method_1_code, exceptionTable := #[], attributes := #[] }
def k10m0 : Method := { name := "<init>", desc := "()V", sig := { parameters := [], returnType := none }, accessFlags := 4, code := some k10c0 }
/-- java/lang/Record -/
def k10 : Class := { plain "java/lang/Record" (some 0) with
  accessFlags := 1057
  interfaces := #[]
  cf := some (fileOf pool10 7 #[] #[{ accessFlags := 4, nameIndex := 5, descriptorIndex := 6, attributes := #[] }] 1057 2 #[] #[])
  fields := #[]
  methods := #[k10m0]
  instanceTypes := #[]
  staticTypes := #[]
  resolved := Array.replicate 22 none
  statics := none }

def pool11 : Array CpInfo := pool [(1, .methodref 2 3), (0, .class_ 4), (0, .nameAndType 5 6), (0, u "java/lang/Record"), (0, u "<init>"), (0, u "()V"), (0, .fieldref 8 9), (0, .class_ 10), (0, .nameAndType 11 12), (0, u "com/example/relfix/relfix/DatabaseTable$QualifiedName"), (0, u "catalog"), (0, u "Ljava/lang/String;"), (0, .fieldref 8 14), (0, .nameAndType 15 12), (0, u "schema"), (0, .fieldref 8 17), (0, .nameAndType 18 12), (0, u "name"), (0, .methodref 8 20), (0, .nameAndType 5 21), (0, u "(Ljava/lang/String;Ljava/lang/String;Ljava/lang/String;)V"), (2, u "qualifier"), (0, u "()Ljava/lang/String;"), (27, u "sibling"), (0, u "(Ljava/lang/String;Ljava/lang/String;)Lcom/example/relfix/relfix/DatabaseTable$QualifiedName;"), (7, .class_ 63), (0, u "com/example/relfix/relfix/DatabaseTable")] 29

def k11c0 : Code := { maxStack := 2, maxLocals := 4, code := prog_37_method_1_code, exceptionTable := #[], attributes := #[] }
def k11m0 : Method := { name := "<init>", desc := "(Ljava/lang/String;Ljava/lang/String;Ljava/lang/String;)V", sig := { parameters := [(.object "java/lang/String"), (.object "java/lang/String"), (.object "java/lang/String")], returnType := none }, accessFlags := 0, code := some k11c0 }
def k11c1 : Code := { maxStack := 1, maxLocals := 1, code := prog_37_method_2_code, exceptionTable := #[], attributes := #[] }
def k11m1 : Method := { name := "qualifier", desc := "()Ljava/lang/String;", sig := { parameters := [], returnType := some (.object "java/lang/String") }, accessFlags := 0, code := some k11c1 }
def k11c2 : Code := { maxStack := 5, maxLocals := 3, code := prog_37_method_3_code, exceptionTable := #[], attributes := #[] }
def k11m2 : Method := { name := "sibling", desc := "(Ljava/lang/String;Ljava/lang/String;)Lcom/example/relfix/relfix/DatabaseTable$QualifiedName;", sig := { parameters := [(.object "java/lang/String"), (.object "java/lang/String")], returnType := some (.object "com/example/relfix/relfix/DatabaseTable$QualifiedName") }, accessFlags := 0, code := some k11c2 }
/-- com/example/relfix/relfix/DatabaseTable$QualifiedName -/
def k11 : Class := { plain "com/example/relfix/relfix/DatabaseTable$QualifiedName" (some 10) with
  accessFlags := 48
  interfaces := #[]
  cf := some (fileOf pool11 8 #[.nestHost 62] #[{ accessFlags := 0, nameIndex := 5, descriptorIndex := 21, attributes := #[] }, { accessFlags := 0, nameIndex := 24, descriptorIndex := 25, attributes := #[] }, { accessFlags := 0, nameIndex := 53, descriptorIndex := 54, attributes := #[] }] 48 2 #[] #[{ accessFlags := 18, nameIndex := 11, descriptorIndex := 12, attributes := #[] }, { accessFlags := 18, nameIndex := 15, descriptorIndex := 12, attributes := #[] }, { accessFlags := 18, nameIndex := 18, descriptorIndex := 12, attributes := #[] }])
  fields := #[{ name := "catalog", type := (.object "java/lang/String"), accessFlags := 18, slot := 0, constantValue := 0 }, { name := "schema", type := (.object "java/lang/String"), accessFlags := 18, slot := 1, constantValue := 0 }, { name := "name", type := (.object "java/lang/String"), accessFlags := 18, slot := 2, constantValue := 0 }]
  methods := #[k11m0, k11m1, k11m2]
  instanceTypes := #[(.object "java/lang/String"), (.object "java/lang/String"), (.object "java/lang/String")]
  staticTypes := #[]
  resolved := Array.replicate 93 none
  statics := none }

def pool12 : Array CpInfo := pool [(2, .class_ 4), (1, u "java/lang/Object"), (0, u "<init>"), (0, u "()V"), (17, .class_ 26), (1, u "jdk/internal/util/Preconditions"), (28, .class_ 56), (0, u "jdk/internal/util/Preconditions$4"), (57, .class_ 115), (0, u "jdk/internal/util/Preconditions$1"), (7, u "SIOOBE_FORMATTER"), (0, u "Ljava/util/function/BiFunction;"), (0, .class_ 126), (0, u "jdk/internal/util/Preconditions$2"), (3, u "AIOOBE_FORMATTER"), (0, .class_ 132), (0, u "jdk/internal/util/Preconditions$3"), (3, u "IOOBE_FORMATTER")] 57

def k12m0 : Method := { name := "<init>", desc := "()V", sig := { parameters := [], returnType := none }, accessFlags := 1, code := none }
/-- jdk/internal/util/Preconditions -/
def k12 : Class := { plain "jdk/internal/util/Preconditions" (some 0) with
  accessFlags := 33
  interfaces := #[]
  cf := some (fileOf pool12 24 #[.nestMembers #[55, 131, 125, 114]] #[{ accessFlags := 1, nameIndex := 5, descriptorIndex := 6, attributes := #[] }] 33 2 #[] #[{ accessFlags := 25, nameIndex := 123, descriptorIndex := 124, attributes := #[] }, { accessFlags := 25, nameIndex := 130, descriptorIndex := 124, attributes := #[] }, { accessFlags := 25, nameIndex := 136, descriptorIndex := 124, attributes := #[] }])
  fields := #[{ name := "SIOOBE_FORMATTER", type := (.object "java/util/function/BiFunction"), accessFlags := 25, slot := 0, constantValue := 0 }, { name := "AIOOBE_FORMATTER", type := (.object "java/util/function/BiFunction"), accessFlags := 25, slot := 1, constantValue := 0 }, { name := "IOOBE_FORMATTER", type := (.object "java/util/function/BiFunction"), accessFlags := 25, slot := 2, constantValue := 0 }]
  methods := #[k12m0]
  instanceTypes := #[]
  staticTypes := #[(.object "java/util/function/BiFunction"), (.object "java/util/function/BiFunction"), (.object "java/util/function/BiFunction")]
  resolved := Array.replicate 194 none
  statics := some 1 }

def pool13 : Array CpInfo := pool [(9, u "<init>"), (6, .class_ 18), (1, u "java/lang/Object"), (0, u "()V"), (1, .class_ 23), (1, u "jdk/internal/util/ArraysSupport"), (0, u "LOG2_ARRAY_LONG_INDEX_SCALE"), (0, u "I"), (2, u "U"), (0, u "Ljdk/internal/misc/Unsafe;"), (8, u "BIG_ENDIAN"), (0, u "Z"), (8, u "LOG2_BYTE_BIT_SIZE"), (4, u "LOG2_ARRAY_INT_INDEX_SCALE"), (54, u "JLA"), (0, u "Ljdk/internal/access/JavaLangAccess;"), (11, u "LOG2_ARRAY_BOOLEAN_INDEX_SCALE"), (9, u "LOG2_ARRAY_BYTE_INDEX_SCALE"), (5, u "LOG2_ARRAY_CHAR_INDEX_SCALE"), (5, u "LOG2_ARRAY_SHORT_INDEX_SCALE"), (18, u "LOG2_ARRAY_FLOAT_INDEX_SCALE"), (24, u "LOG2_ARRAY_DOUBLE_INDEX_SCALE"), (89, u "T_BOOLEAN"), (2, u "T_CHAR"), (1, u "T_FLOAT"), (1, u "T_DOUBLE"), (1, u "T_BYTE"), (1, u "T_SHORT"), (1, u "T_INT"), (1, u "T_LONG"), (1, u "SOFT_MAX_ARRAY_LENGTH")] 83

def k13m0 : Method := { name := "<init>", desc := "()V", sig := { parameters := [], returnType := none }, accessFlags := 2, code := none }
/-- jdk/internal/util/ArraysSupport -/
def k13 : Class := { plain "jdk/internal/util/ArraysSupport" (some 0) with
  accessFlags := 33
  interfaces := #[]
  cf := some (fileOf pool13 21 #[] #[{ accessFlags := 2, nameIndex := 9, descriptorIndex := 19, attributes := #[] }] 33 16 #[] #[{ accessFlags := 24, nameIndex := 28, descriptorIndex := 29, attributes := #[] }, { accessFlags := 26, nameIndex := 38, descriptorIndex := 39, attributes := #[] }, { accessFlags := 25, nameIndex := 121, descriptorIndex := 25, attributes := #[] }, { accessFlags := 25, nameIndex := 131, descriptorIndex := 25, attributes := #[] }, { accessFlags := 25, nameIndex := 137, descriptorIndex := 25, attributes := #[] }, { accessFlags := 25, nameIndex := 143, descriptorIndex := 25, attributes := #[] }, { accessFlags := 25, nameIndex := 53, descriptorIndex := 25, attributes := #[] }, { accessFlags := 25, nameIndex := 24, descriptorIndex := 25, attributes := #[] }, { accessFlags := 25, nameIndex := 162, descriptorIndex := 25, attributes := #[] }, { accessFlags := 25, nameIndex := 187, descriptorIndex := 25, attributes := #[] }, { accessFlags := 26, nameIndex := 48, descriptorIndex := 25, attributes := #[] }, { accessFlags := 25, nameIndex := 277, descriptorIndex := 25, attributes := #[] }, { accessFlags := 25, nameIndex := 280, descriptorIndex := 25, attributes := #[] }, { accessFlags := 25, nameIndex := 282, descriptorIndex := 25, attributes := #[] }, { accessFlags := 25, nameIndex := 284, descriptorIndex := 25, attributes := #[] }, { accessFlags := 25, nameIndex := 286, descriptorIndex := 25, attributes := #[] }, { accessFlags := 25, nameIndex := 288, descriptorIndex := 25, attributes := #[] }, { accessFlags := 25, nameIndex := 290, descriptorIndex := 25, attributes := #[] }, { accessFlags := 25, nameIndex := 292, descriptorIndex := 25, attributes := #[] }, { accessFlags := 26, nameIndex := 108, descriptorIndex := 109, attributes := #[] }, { accessFlags := 25, nameIndex := 294, descriptorIndex := 25, attributes := #[] }])
  fields := #[{ name := "U", type := (.object "jdk/internal/misc/Unsafe"), accessFlags := 24, slot := 0, constantValue := 0 }, { name := "BIG_ENDIAN", type := .boolean, accessFlags := 26, slot := 1, constantValue := 0 }, { name := "LOG2_ARRAY_BOOLEAN_INDEX_SCALE", type := .int, accessFlags := 25, slot := 2, constantValue := 0 }, { name := "LOG2_ARRAY_BYTE_INDEX_SCALE", type := .int, accessFlags := 25, slot := 3, constantValue := 0 }, { name := "LOG2_ARRAY_CHAR_INDEX_SCALE", type := .int, accessFlags := 25, slot := 4, constantValue := 0 }, { name := "LOG2_ARRAY_SHORT_INDEX_SCALE", type := .int, accessFlags := 25, slot := 5, constantValue := 0 }, { name := "LOG2_ARRAY_INT_INDEX_SCALE", type := .int, accessFlags := 25, slot := 6, constantValue := 0 }, { name := "LOG2_ARRAY_LONG_INDEX_SCALE", type := .int, accessFlags := 25, slot := 7, constantValue := 0 }, { name := "LOG2_ARRAY_FLOAT_INDEX_SCALE", type := .int, accessFlags := 25, slot := 8, constantValue := 0 }, { name := "LOG2_ARRAY_DOUBLE_INDEX_SCALE", type := .int, accessFlags := 25, slot := 9, constantValue := 0 }, { name := "LOG2_BYTE_BIT_SIZE", type := .int, accessFlags := 26, slot := 10, constantValue := 0 }, { name := "T_BOOLEAN", type := .int, accessFlags := 25, slot := 11, constantValue := 0 }, { name := "T_CHAR", type := .int, accessFlags := 25, slot := 12, constantValue := 0 }, { name := "T_FLOAT", type := .int, accessFlags := 25, slot := 13, constantValue := 0 }, { name := "T_DOUBLE", type := .int, accessFlags := 25, slot := 14, constantValue := 0 }, { name := "T_BYTE", type := .int, accessFlags := 25, slot := 15, constantValue := 0 }, { name := "T_SHORT", type := .int, accessFlags := 25, slot := 16, constantValue := 0 }, { name := "T_INT", type := .int, accessFlags := 25, slot := 17, constantValue := 0 }, { name := "T_LONG", type := .int, accessFlags := 25, slot := 18, constantValue := 0 }, { name := "JLA", type := (.object "jdk/internal/access/JavaLangAccess"), accessFlags := 26, slot := 19, constantValue := 0 }, { name := "SOFT_MAX_ARRAY_LENGTH", type := .int, accessFlags := 25, slot := 20, constantValue := 0 }]
  methods := #[k13m0]
  instanceTypes := #[]
  staticTypes := #[(.object "jdk/internal/misc/Unsafe"), .boolean, .int, .int, .int, .int, .int, .int, .int, .int, .int, .int, .int, .int, .int, .int, .int, .int, .int, (.object "jdk/internal/access/JavaLangAccess"), .int]
  resolved := Array.replicate 378 none
  statics := none }

def pool14 : Array CpInfo := pool [(1, u "java/lang/Cloneable"), (0, .class_ 1), (0, u "java/lang/Object"), (0, .class_ 3)] 3

/-- java/lang/Cloneable -/
def k14 : Class := { plain "java/lang/Cloneable" (some 0) with
  accessFlags := 1537
  interfaces := #[]
  cf := some (fileOf pool14 2 #[] #[] 1537 4 #[] #[])
  fields := #[]
  methods := #[]
  instanceTypes := #[]
  staticTypes := #[]
  resolved := Array.replicate 8 none
  statics := none }

/-- the primitive byte -/
def k15 : Class := { plain "byte" none with kind := .primitive 'B', accessFlags := 0x411 }
/-- [B -/
def k16 : Class := { plain "[B" (some 0) with kind := .array 15 .byte, interfaces := #[14, 2], accessFlags := 1041 }

/-- the primitive char -/
def k17 : Class := { plain "char" none with kind := .primitive 'C', accessFlags := 0x411 }
/-- [C -/
def k18 : Class := { plain "[C" (some 0) with kind := .array 17 .char, interfaces := #[14, 2], accessFlags := 1041 }

/-- the primitive int -/
def k19 : Class := { plain "int" none with kind := .primitive 'I', accessFlags := 0x411 }
/-- [I -/
def k20 : Class := { plain "[I" (some 0) with kind := .array 19 .int, interfaces := #[14, 2], accessFlags := 1041 }

def heap : Heap := #[{ cls := 7, slots := #[.long 0, .int 1, .null, .int 0, .null, .int 0, .int 0], vm := .statics 7 },
  { cls := 12, slots := #[.null, .null, .null], vm := .statics 12 }]
def classes : Array Class := #[k0, k1, k2, k3, k4, k5, k6, k7, k8, k9, k10, k11, k12, k13, k14, k15, k16, k17, k18, k19, k20]
def interned : List (Array UInt16 × Addr) := []
def slotsUsed : Nat := 10
def theMethod : MethodId := ⟨1, 2⟩
def args0 : Array Value := #[.int 5, .int 5, .int 5, .int 5]
def aboutOver (below : List Frame) : State where
  vm := { classes := classes, interned := interned.toArray }
  heap := heap
  slotsUsed := slotsUsed
  threads := #[{ frames := .invoking theMethod args0 :: below }]
def below0 : List Frame := [.native { method := ⟨0, 0⟩, args := #[] }]
def about1 : State := aboutOver below0
def p0 : Program := .bare "" "" ""
def e0 : Env := launch0.env 0 0 0
theorem w_frames : about1.frames = Frame.invoking theMethod args0 :: below0 := rfl
set_option maxRecDepth 65536 in
theorem w_args : argsFit about1.vm theMethod args0 = true := by decide +kernel
set_option maxRecDepth 65536 in
theorem w_heap : heapFits about1 = true := by decide +kernel
set_option maxRecDepth 65536 in
theorem w_runnable : about1.curStatus? = some .runnable := by decide +kernel
set_option maxRecDepth 65536 in
theorem w_alone : about1.alone = true := by decide +kernel
set_option maxRecDepth 65536 in
theorem w_named : about1.methodNamed? x = some theMethod := by decide +kernel
set_option maxRecDepth 65536 in
theorem w_hears : about1.hears theMethod below0 = true := by decide +kernel
set_option maxRecDepth 65536 in
theorem w_ripe : about1.ripe theMethod args0 below0 = true := by decide +kernel
theorem w_running : about1.status = .running := rfl
set_option maxRecDepth 65536 in
theorem w_room : about1.hasRoom e0.platform room_1 = true :=
  launch0.hasRoom_least _ room_1 (by decide +kernel) (by decide +kernel) (by decide +kernel) (by decide +kernel) (by decide +kernel) (by decide +kernel)
theorem allAtoms_all (ts : List Jvm.Cond) (a : Array Jvm.Value) (st : Jvm.State) : (allAtoms ts).before a st = ts.all (fun c => c.before a st) := by
  induction ts with
  | nil => rfl
  | cons c t ih =>
    show (Jvm.Cond.and c (allAtoms t)).before a st = _
    rw [Jvm.Cond.before_and, ih, List.all_cons]
def words1 : List Jvm.Cond := Jvm.Cond.code x code maxLocals ret :: tables_1
/-- a 'code' word, met by the world's own term for the bytes: nothing is compared byte by byte -/
theorem code_word {y : MethodName} {bytes : ByteArray} {mx : Nat} {rt : Option FieldType} {a : Array Value} {s : State} {m : MethodId} {meth : Method} {c : Code} (h1 : s.methodNamed? y = some m) (h2 : s.vm.method? m = some meth) (h3 : meth.code = some c) (h4 : c.code = bytes)
    (h5 : (c.maxLocals == mx && c.exceptionTable.isEmpty && decide (c.maxStack ≤ mostOperands) && decide (meth.sig.returnType = rt) && !meth.locks && decide (parseMethodDescriptor y.desc = some meth.sig)) = true) : (Jvm.Cond.code y bytes mx rt).before a s = true := by
  simp only [Bool.and_eq_true, beq_iff_eq, Bool.not_eq_true', decide_eq_true_eq] at h5
  obtain ⟨⟨⟨⟨⟨g1, g2⟩, g3⟩, g4⟩, g5⟩, g6⟩ := h5
  simp [Cond.before, Cond.holds, Cond.value, h1, h2, h3, h4, g1, g2, g3, g4, g5, g6]
def isCode : Jvm.Cond → Bool
  | .code _ _ _ _ => true
  | _ => false
theorem all_split {L : List Jvm.Cond} {P : Jvm.Cond → Bool} (h1 : L.all (fun c => isCode c || P c) = true) (h2 : ∀ c ∈ L.filter isCode, P c = true) : L.all P = true := by
  refine List.all_eq_true.mpr fun c hc => ?_
  have h := List.all_eq_true.mp h1 c hc
  rcases Bool.eq_false_or_eq_true (isCode c) with hi | hi
  · exact h2 c (List.mem_filter.mpr ⟨hc, hi⟩)
  · simpa [hi] using h
set_option maxRecDepth 65536 in
theorem w_c0 : (Jvm.Cond.code x code maxLocals ret).before args0 about1 = true := code_word (m := ⟨1, 2⟩) (meth := k1m2) (c := k1c2) (by decide +kernel) rfl rfl rfl (by decide +kernel)
set_option maxRecDepth 65536 in
theorem w_c1 : (Jvm.Cond.code ({ cls := "com/example/relfix/relfix/QualifiedNameQualifierPinLaw", name := "drawn", desc := "(I)Ljava/lang/String;" } : Jvm.MethodName) method_2_code (1 : Nat) (Option.some (Jvm.ClassFile.FieldType.object "java/lang/String"))).before args0 about1 = true := code_word (m := ⟨1, 1⟩) (meth := k1m1) (c := k1c1) (by decide +kernel) rfl rfl rfl (by decide +kernel)
set_option maxRecDepth 65536 in
theorem w_c2 : (Jvm.Cond.code ({ cls := "java/lang/String", name := "<init>", desc := "([C)V" } : Jvm.MethodName) jdk_42_method_3_code (2 : Nat) (Option.none : Option Jvm.ClassFile.FieldType)).before args0 about1 = true := code_word (m := ⟨7, 1⟩) (meth := k7m1) (c := k7c1) (by decide +kernel) rfl rfl rfl (by decide +kernel)
set_option maxRecDepth 65536 in
theorem w_c3 : (Jvm.Cond.code ({ cls := "java/lang/String", name := "<init>", desc := "([CIILjava/lang/Void;)V" } : Jvm.MethodName) jdk_42_method_149_code (6 : Nat) (Option.none : Option Jvm.ClassFile.FieldType)).before args0 about1 = true := code_word (m := ⟨7, 3⟩) (meth := k7m3) (c := k7c3) (by decide +kernel) rfl rfl rfl (by decide +kernel)
set_option maxRecDepth 65536 in
theorem w_c4 : (Jvm.Cond.code ({ cls := "java/lang/Object", name := "<init>", desc := "()V" } : Jvm.MethodName) object_method_1_code (1 : Nat) (Option.none : Option Jvm.ClassFile.FieldType)).before args0 about1 = true := code_word (m := ⟨0, 0⟩) (meth := k0m0) (c := k0c0) (by decide +kernel) rfl rfl rfl (by decide +kernel)
set_option maxRecDepth 65536 in
theorem w_c5 : (Jvm.Cond.code ({ cls := "java/lang/StringUTF16", name := "compress", desc := "([CII)[B" } : Jvm.MethodName) jdk_52_method_16_code (6 : Nat) (Option.some (Jvm.ClassFile.FieldType.array Jvm.ClassFile.FieldType.byte))).before args0 about1 = true := code_word (m := ⟨8, 2⟩) (meth := k8m2) (c := k8c2) (by decide +kernel) rfl rfl rfl (by decide +kernel)
set_option maxRecDepth 65536 in
theorem w_c6 : (Jvm.Cond.code ({ cls := "java/lang/StringUTF16", name := "compress", desc := "([CI[BII)I" } : Jvm.MethodName) jdk_52_method_21_code (7 : Nat) (Option.some Jvm.ClassFile.FieldType.int)).before args0 about1 = true := code_word (m := ⟨8, 3⟩) (meth := k8m3) (c := k8c3) (by decide +kernel) rfl rfl rfl (by decide +kernel)
set_option maxRecDepth 65536 in
theorem w_c7 : (Jvm.Cond.code ({ cls := "java/lang/StringUTF16", name := "coderFromArrayLen", desc := "([BI)B" } : Jvm.MethodName) jdk_52_method_15_code (2 : Nat) (Option.some Jvm.ClassFile.FieldType.byte)).before args0 about1 = true := code_word (m := ⟨8, 1⟩) (meth := k8m1) (c := k8c1) (by decide +kernel) rfl rfl rfl (by decide +kernel)
set_option maxRecDepth 65536 in
theorem w_c8 : (Jvm.Cond.code ({ cls := "java/lang/String", name := "valueOf", desc := "(C)Ljava/lang/String;" } : Jvm.MethodName) jdk_42_method_139_code (1 : Nat) (Option.some (Jvm.ClassFile.FieldType.object "java/lang/String"))).before args0 about1 = true := code_word (m := ⟨7, 2⟩) (meth := k7m2) (c := k7c2) (by decide +kernel) rfl rfl rfl (by decide +kernel)
set_option maxRecDepth 65536 in
theorem w_c9 : (Jvm.Cond.code ({ cls := "java/lang/StringLatin1", name := "canEncode", desc := "(C)Z" } : Jvm.MethodName) jdk_43_method_3_code (1 : Nat) (Option.some Jvm.ClassFile.FieldType.boolean)).before args0 about1 = true := code_word (m := ⟨9, 1⟩) (meth := k9m1) (c := k9c1) (by decide +kernel) rfl rfl rfl (by decide +kernel)
set_option maxRecDepth 65536 in
theorem w_c10 : (Jvm.Cond.code ({ cls := "java/lang/StringLatin1", name := "toBytes", desc := "(C)[B" } : Jvm.MethodName) jdk_43_method_46_code (1 : Nat) (Option.some (Jvm.ClassFile.FieldType.array Jvm.ClassFile.FieldType.byte))).before args0 about1 = true := code_word (m := ⟨9, 2⟩) (meth := k9m2) (c := k9c2) (by decide +kernel) rfl rfl rfl (by decide +kernel)
set_option maxRecDepth 65536 in
theorem w_c11 : (Jvm.Cond.code ({ cls := "java/lang/String", name := "<init>", desc := "([BB)V" } : Jvm.MethodName) jdk_42_method_151_code (3 : Nat) (Option.none : Option Jvm.ClassFile.FieldType)).before args0 about1 = true := code_word (m := ⟨7, 4⟩) (meth := k7m4) (c := k7c4) (by decide +kernel) rfl rfl rfl (by decide +kernel)
set_option maxRecDepth 65536 in
theorem w_c12 : (Jvm.Cond.code ({ cls := "com/example/relfix/relfix/DatabaseTable$QualifiedName", name := "<init>", desc := "(Ljava/lang/String;Ljava/lang/String;Ljava/lang/String;)V" } : Jvm.MethodName) prog_37_method_1_code (4 : Nat) (Option.none : Option Jvm.ClassFile.FieldType)).before args0 about1 = true := code_word (m := ⟨11, 0⟩) (meth := k11m0) (c := k11c0) (by decide +kernel) rfl rfl rfl (by decide +kernel)
set_option maxRecDepth 65536 in
theorem w_c13 : (Jvm.Cond.code ({ cls := "java/lang/Record", name := "<init>", desc := "()V" } : Jvm.MethodName) jdk_30_method_1_code (1 : Nat) (Option.none : Option Jvm.ClassFile.FieldType)).before args0 about1 = true := code_word (m := ⟨10, 0⟩) (meth := k10m0) (c := k10c0) (by decide +kernel) rfl rfl rfl (by decide +kernel)
set_option maxRecDepth 65536 in
theorem w_c14 : (Jvm.Cond.code ({ cls := "com/example/relfix/relfix/DatabaseTable$QualifiedName", name := "qualifier", desc := "()Ljava/lang/String;" } : Jvm.MethodName) prog_37_method_2_code (1 : Nat) (Option.some (Jvm.ClassFile.FieldType.object "java/lang/String"))).before args0 about1 = true := code_word (m := ⟨11, 1⟩) (meth := k11m1) (c := k11c1) (by decide +kernel) rfl rfl rfl (by decide +kernel)
set_option maxRecDepth 65536 in
theorem w_c15 : (Jvm.Cond.code ({ cls := "com/example/relfix/relfix/DatabaseTable$QualifiedName", name := "sibling", desc := "(Ljava/lang/String;Ljava/lang/String;)Lcom/example/relfix/relfix/DatabaseTable$QualifiedName;" } : Jvm.MethodName) prog_37_method_3_code (3 : Nat) (Option.some (Jvm.ClassFile.FieldType.object "com/example/relfix/relfix/DatabaseTable$QualifiedName"))).before args0 about1 = true := code_word (m := ⟨11, 2⟩) (meth := k11m2) (c := k11c2) (by decide +kernel) rfl rfl rfl (by decide +kernel)
def codes1 : List Jvm.Cond := [Jvm.Cond.code x code maxLocals ret, Jvm.Cond.code ({ cls := "com/example/relfix/relfix/QualifiedNameQualifierPinLaw", name := "drawn", desc := "(I)Ljava/lang/String;" } : Jvm.MethodName) method_2_code (1 : Nat) (Option.some (Jvm.ClassFile.FieldType.object "java/lang/String")), Jvm.Cond.code ({ cls := "java/lang/String", name := "<init>", desc := "([C)V" } : Jvm.MethodName) jdk_42_method_3_code (2 : Nat) (Option.none : Option Jvm.ClassFile.FieldType), Jvm.Cond.code ({ cls := "java/lang/String", name := "<init>", desc := "([CIILjava/lang/Void;)V" } : Jvm.MethodName) jdk_42_method_149_code (6 : Nat) (Option.none : Option Jvm.ClassFile.FieldType), Jvm.Cond.code ({ cls := "java/lang/Object", name := "<init>", desc := "()V" } : Jvm.MethodName) object_method_1_code (1 : Nat) (Option.none : Option Jvm.ClassFile.FieldType), Jvm.Cond.code ({ cls := "java/lang/StringUTF16", name := "compress", desc := "([CII)[B" } : Jvm.MethodName) jdk_52_method_16_code (6 : Nat) (Option.some (Jvm.ClassFile.FieldType.array Jvm.ClassFile.FieldType.byte)), Jvm.Cond.code ({ cls := "java/lang/StringUTF16", name := "compress", desc := "([CI[BII)I" } : Jvm.MethodName) jdk_52_method_21_code (7 : Nat) (Option.some Jvm.ClassFile.FieldType.int), Jvm.Cond.code ({ cls := "java/lang/StringUTF16", name := "coderFromArrayLen", desc := "([BI)B" } : Jvm.MethodName) jdk_52_method_15_code (2 : Nat) (Option.some Jvm.ClassFile.FieldType.byte), Jvm.Cond.code ({ cls := "java/lang/String", name := "valueOf", desc := "(C)Ljava/lang/String;" } : Jvm.MethodName) jdk_42_method_139_code (1 : Nat) (Option.some (Jvm.ClassFile.FieldType.object "java/lang/String")), Jvm.Cond.code ({ cls := "java/lang/StringLatin1", name := "canEncode", desc := "(C)Z" } : Jvm.MethodName) jdk_43_method_3_code (1 : Nat) (Option.some Jvm.ClassFile.FieldType.boolean), Jvm.Cond.code ({ cls := "java/lang/StringLatin1", name := "toBytes", desc := "(C)[B" } : Jvm.MethodName) jdk_43_method_46_code (1 : Nat) (Option.some (Jvm.ClassFile.FieldType.array Jvm.ClassFile.FieldType.byte)), Jvm.Cond.code ({ cls := "java/lang/String", name := "<init>", desc := "([BB)V" } : Jvm.MethodName) jdk_42_method_151_code (3 : Nat) (Option.none : Option Jvm.ClassFile.FieldType), Jvm.Cond.code ({ cls := "com/example/relfix/relfix/DatabaseTable$QualifiedName", name := "<init>", desc := "(Ljava/lang/String;Ljava/lang/String;Ljava/lang/String;)V" } : Jvm.MethodName) prog_37_method_1_code (4 : Nat) (Option.none : Option Jvm.ClassFile.FieldType), Jvm.Cond.code ({ cls := "java/lang/Record", name := "<init>", desc := "()V" } : Jvm.MethodName) jdk_30_method_1_code (1 : Nat) (Option.none : Option Jvm.ClassFile.FieldType), Jvm.Cond.code ({ cls := "com/example/relfix/relfix/DatabaseTable$QualifiedName", name := "qualifier", desc := "()Ljava/lang/String;" } : Jvm.MethodName) prog_37_method_2_code (1 : Nat) (Option.some (Jvm.ClassFile.FieldType.object "java/lang/String")), Jvm.Cond.code ({ cls := "com/example/relfix/relfix/DatabaseTable$QualifiedName", name := "sibling", desc := "(Ljava/lang/String;Ljava/lang/String;)Lcom/example/relfix/relfix/DatabaseTable$QualifiedName;" } : Jvm.MethodName) prog_37_method_3_code (3 : Nat) (Option.some (Jvm.ClassFile.FieldType.object "com/example/relfix/relfix/DatabaseTable$QualifiedName"))]
set_option maxRecDepth 65536 in
theorem codes_eq : words1.filter isCode = codes1 := rfl
theorem w_codes : ∀ c ∈ words1.filter isCode, c.before args0 about1 = true := by
  rw [codes_eq]
  intro c hc
  simp only [codes1, List.mem_cons, List.not_mem_nil, or_false] at hc
  rcases hc with rfl | rfl | rfl | rfl | rfl | rfl | rfl | rfl | rfl | rfl | rfl | rfl | rfl | rfl | rfl | rfl
  · exact w_c0
  · exact w_c1
  · exact w_c2
  · exact w_c3
  · exact w_c4
  · exact w_c5
  · exact w_c6
  · exact w_c7
  · exact w_c8
  · exact w_c9
  · exact w_c10
  · exact w_c11
  · exact w_c12
  · exact w_c13
  · exact w_c14
  · exact w_c15
set_option maxRecDepth 65536 in
theorem w_t1 : (words1.take 24).all (fun c => isCode c || c.before args0 about1) = true := by decide +kernel
set_option maxRecDepth 65536 in
theorem w_t2 : ((words1.drop 24).take 24).all (fun c => isCode c || c.before args0 about1) = true := by decide +kernel
set_option maxRecDepth 65536 in
theorem w_t3 : (((words1.drop 24).drop 24).take 24).all (fun c => isCode c || c.before args0 about1) = true := by decide +kernel
set_option maxRecDepth 65536 in
theorem w_t4 : (((words1.drop 24).drop 24).drop 24).all (fun c => isCode c || c.before args0 about1) = true := by decide +kernel
theorem w_tables : (allAtoms (Jvm.Cond.code x code maxLocals ret :: tables_1)).before args0 about1 = true := by
  rw [allAtoms_all]
  show words1.all (fun c => c.before args0 about1) = true
  refine all_split ?_ w_codes
  rw [← List.take_append_drop 24 words1, List.all_append, w_t1, ← List.take_append_drop 24 (words1.drop 24), List.all_append, w_t2, ← List.take_append_drop 24 ((words1.drop 24).drop 24), List.all_append, w_t3, w_t4]
  rfl
set_option maxRecDepth 65536 in
theorem w_rest : rest_1_c.before args0 about1 = true := by decide +kernel
set_option maxRecDepth 65536 in
theorem w_case : (Jvm.Cond.and given_1 narrow_1).before args0 about1 = true := by decide +kernel
theorem w_applies : (headSpec (Jvm.Cond.code x code maxLocals ret :: tables_1) room_1).applies x e0.platform about1 = true :=
  (Spec.applies_iff w_frames).mpr ⟨w_running, w_runnable, w_alone, w_named, w_hears, w_ripe, w_room, w_tables⟩
theorem atStart : AtStart classFile x code maxLocals ret World_1 tables_1 room_1 Calls_1 rest_1 Pre_1 launch0 p0 e0 about1 theMethod args0 below0 :=
  ⟨lists_1, trivial, launch0.admits_env _ _ _, launch0.least_env, fairChoices_fair.cas, fairChoices_fair.clock, w_frames, w_args, w_heap, w_applies, trivial, w_rest, w_case⟩
end start1
theorem witness_1 : WitnessClaimed_1 := ⟨start1.p0, start1.e0, start1.about1, start1.theMethod, start1.args0, start1.below0, start1.atStart⟩
end Jvm.Pilot.@@N@@
