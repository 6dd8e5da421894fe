import JvmDerived
import JvmDerived.Pilot.@@N@@Statement
import JvmDerived.Pilot.@@N@@Code
set_option linter.unusedVariables false
set_option linter.unusedSimpArgs false
/- laws to paste: pair_says, shr0, lo8_mask, Road.CodA, Road.wide_lo, Road.wide_hi, Road.low_at (cut by pick.py; bodies as the Statement names them) -/
namespace Jvm.Pilot.@@N@@
namespace StrChars
open Jvm Sem ClassFile Op Lib Jvm.Stand Jvm.Free.XT Jvm.Free.ALB Jvm.Free.JM Jvm.Free
open Jvm.Lib.Cold (StaticIs)
/-- the byte that i2b leaves of a char -/
def lo8 (x : Int32) : Int32 := x.toInt8.toInt32
/-- the byte, read back as charAt reads it, is the char -/
theorem lo8_mask {x : Int32} (h0 : ¬ x < 0) (h1 : ¬ 255 < x) : lo8 x &&& 255 = x := by
  have t : ∀ k : Fin 256, lo8 (Int32.ofNat k.val) &&& 255 = Int32.ofNat k.val := by decide +kernel
  rw [Int32.lt_iff_toInt_lt] at h0 h1
  have e0 : (0 : Int32).toInt = 0 := rfl
  have e1 : (255 : Int32).toInt = 255 := rfl
  obtain ⟨k, hk⟩ : ∃ k : Nat, x.toInt = k := ⟨x.toInt.toNat, by omega⟩
  have hx : x = Int32.ofNat k := Int32.toInt_inj.mp (by rw [hk, Int32.toInt_ofNat_small (by omega)])
  rw [hx]
  exact t ⟨k, by omega⟩
end StrChars
namespace StrChars
open Jvm Sem ClassFile Op Lib Jvm.Stand Jvm.Free.XT Jvm.Free.ALB Jvm.Free.JM Jvm.Free
open Jvm.Lib.Cold (StaticIs)
def hi8 (x : Int32) : Int32 := lo8 (x >>> ((8 : Int32) &&& 31))
/-- what StringUTF16.getChar makes of two bytes -/
def pairCh (u v : Int32) : Int32 := (((u &&& 255) <<< ((0 : Int32) &&& 31)) ||| ((v &&& 255) <<< ((8 : Int32) &&& 31))).toUInt32.toUInt16.toUInt32.toInt32
theorem shr0 (c : Int32) : c >>> ((0 : Int32) &&& 31) = c := by
  have e : ((0 : Int32) &&& 31) = 0 := by decide
  rw [e]
  apply Int32.toBitVec_inj.mp
  rw [Int32.toBitVec_shiftRight]
  have e1 : ((0 : Int32).toBitVec.smod 32) = 0#32 := by decide
  rw [e1, BitVec.sshiftRight_eq']
  exact BitVec.sshiftRight_zero
theorem lo8_and (x : Int32) : (lo8 x &&& 255).toBitVec.toNat = x.toBitVec.toNat % 256 := by
  have h : (lo8 x).toBitVec = (x.toBitVec.signExtend 8).signExtend 32 := by rw [lo8, Int8.toBitVec_toInt32, Int32.toBitVec_toInt8]
  rw [Int32.toBitVec_and, BitVec.toNat_and, h]
  have e : ((x.toBitVec.signExtend 8).signExtend 32).toNat % 256 = x.toBitVec.toNat % 256 := by
    rw [BitVec.toNat_signExtend]
    have hlt := x.toBitVec.isLt
    simp only [BitVec.toNat_setWidth, BitVec.toNat_signExtend]
    split <;> split <;> omega
  rw [← e]
  exact Nat.and_two_pow_sub_one_eq_mod _ 8
theorem pair_says {c : Int32} (h0 : ¬ c < 0) (h1 : ¬ 65535 < c) : pairCh (lo8 c) (hi8 c) = c := by
  rw [Int32.lt_iff_toInt_lt] at h0 h1
  have e0 : (0 : Int32).toInt = 0 := rfl
  have e1 : (65535 : Int32).toInt = 65535 := rfl
  have hc : c.toInt = c.toBitVec.toNat := by
    have := c.toBitVec.isLt
    have e : c.toInt = c.toBitVec.toInt := rfl
    rw [e] at h0 h1
    rw [e]
    rw [BitVec.toInt_eq_toNat_cond] at h0 h1 ⊢
    split at h0 <;> split <;> omega
  have hn : c.toBitVec.toNat < 65536 := by omega
  have a1 := lo8_and c
  have a2 : (hi8 c &&& 255).toBitVec.toNat = c.toBitVec.toNat / 256 := by
    rw [hi8, lo8_and]
    have e : ((8 : Int32) &&& 31) = 8 := by decide
    rw [e, Int32.toBitVec_shiftRight]
    have e2 : ((8 : Int32).toBitVec.smod 32) = 8#32 := by decide
    rw [e2, BitVec.sshiftRight_eq', BitVec.toNat_sshiftRight_of_msb_false (by rw [BitVec.msb_eq_false_iff_two_mul_lt]; omega)]
    show c.toBitVec.toNat >>> 8 % 256 = _
    rw [Nat.shiftRight_eq_div_pow]
    omega
  unfold pairCh
  apply Int32.toBitVec_inj.mp
  apply BitVec.eq_of_toNat_eq
  have f0 : ((0 : Int32) &&& 31) = 0 := by decide
  have f8 : ((8 : Int32) &&& 31) = 8 := by decide
  rw [f0, f8]
  have g : (((lo8 c &&& 255) <<< (0 : Int32)) ||| ((hi8 c &&& 255) <<< (8 : Int32))).toBitVec.toNat = c.toBitVec.toNat := by
    rw [Int32.toBitVec_or, Int32.toBitVec_shiftLeft, Int32.toBitVec_shiftLeft]
    have s0 : ((0 : Int32).toBitVec.smod 32) = 0#32 := by decide
    have s8 : ((8 : Int32).toBitVec.smod 32) = 8#32 := by decide
    rw [s0, s8, BitVec.toNat_or]
    simp only [BitVec.shiftLeft_eq', BitVec.toNat_shiftLeft, a1, a2]
    show (c.toBitVec.toNat % 256) <<< 0 % 2 ^ 32 ||| (c.toBitVec.toNat / 256) <<< 8 % 2 ^ 32 = _
    rw [Nat.shiftLeft_zero, Nat.mod_eq_of_lt (show c.toBitVec.toNat % 256 < 2 ^ 32 by omega), Nat.mod_eq_of_lt (show (c.toBitVec.toNat / 256) <<< 8 < 2 ^ 32 by rw [Nat.shiftLeft_eq]; omega), Nat.or_comm, ← Nat.shiftLeft_add_eq_or_of_lt (by omega), Nat.shiftLeft_eq]
    omega
  show BitVec.toNat (((((lo8 c &&& 255) <<< (0 : Int32)) ||| ((hi8 c &&& 255) <<< (8 : Int32))).toBitVec.setWidth 16).setWidth 32) = _
  rw [BitVec.toNat_setWidth, BitVec.toNat_setWidth, g]
  omega
end StrChars
namespace StrChars.Road
open Jvm Sem ClassFile Op Lib Jvm.Stand Jvm.Free Jvm.Free.XT
open Jvm.Lib.Cold (StaticIs)
/-- the bytes of the chars cs, low before high -/
def wideBytes : List Int32 → List Value
  | [] => []
  | c :: cs => .int (lo8 c) :: .int (hi8 c) :: wideBytes cs
theorem wide_lo (d : Value) : ∀ (cs : List Int32) (j : Nat), j < cs.length → (wideBytes cs).getD (2 * j) d = .int (lo8 (cs.getD j 0))
  | [], j, h => absurd h (Nat.not_lt_zero j)
  | c :: cs, 0, _ => rfl
  | c :: cs, j + 1, h => by
    have q := wide_lo d cs j (by simpa using h)
    rw [show 2 * (j + 1) = 2 * j + 1 + 1 from by omega]
    simpa [wideBytes] using q
theorem wide_hi (d : Value) : ∀ (cs : List Int32) (j : Nat), j < cs.length → (wideBytes cs).getD (2 * j + 1) d = .int (hi8 (cs.getD j 0))
  | [], j, h => absurd h (Nat.not_lt_zero j)
  | c :: cs, 0, _ => rfl
  | c :: cs, j + 1, h => by
    have q := wide_hi d cs j (by simpa using h)
    rw [show 2 * (j + 1) + 1 = 2 * j + 1 + 1 + 1 from by omega]
    simpa [wideBytes] using q
theorem low_at (d : Value) (cs : List Int32) (j : Nat) (h : j < cs.length) : (cs.map fun c => Value.int (lo8 c)).getD j d = .int (lo8 (cs.getD j 0)) := by
  simp [List.getD_eq_getElem?_getD, h]
/-- an array of N2 bytes vs codes the chars cs by the coder cd -/
def CodA (cs : List Int32) (cd N2 : Int32) (vs : List Value) : Prop := (cd = 0 ∧ N2 = Int32.ofNat cs.length ∧ vs = (cs.map fun c => Value.int (lo8 c)) ∧ ∀ c ∈ cs, ¬ 255 < c) ∨ (cd = 1 ∧ N2 = Int32.ofNat (2 * cs.length) ∧ vs = wideBytes cs ∧ ∃ c ∈ cs, 255 < c)
end StrChars.Road
end Jvm.Pilot.@@N@@
namespace Jvm.Pilot.@@N@@
open Jvm Jvm.ClassFile Sem Op Lib Jvm.Free Jvm.Stand Jvm.LawKit Jvm.RoadKit Bundle Jvm.Pilot.@@N@@.Jvm.D
section Own
variable {p : Program} {l : Launch} {e : Env} {R : Room} {s : State} {m : MethodId} {args : Array Value} {below : List Frame} {meth : Method} {c : Code} {T S S' : State} {locs : List Loc} {cells slots : Nat} {Z : State} {a0 : Array Value} {h h' : Heap}
/-- from S the walk comes to an end that P holds of -/
def OwnEnd (p : Program) (e : Env) (below : List Frame) (P : Outcome → State → Prop) (S : State) : Prop := ∃ s₂ o, Steps p.tables e below S s₂ ∧ s₂.status = .running ∧ Ended s₂ below o ∧ P o s₂
theorem OwnEnd.of {P : Outcome → State → Prop} (h : ∀ t, Steps p.tables e below S' t → Steps p.tables e below S t) (k : OwnEnd p e below P S') : OwnEnd p e below P S := by
  obtain ⟨s2, o, a, r⟩ := k; exact ⟨s2, o, h _ a, r⟩
theorem OwnEnd.tr {P : Outcome → State → Prop} (h : Steps p.tables e below S S') (k : OwnEnd p e below P S') : OwnEnd p e below P S := OwnEnd.of (fun _ q => h.trans q) k
theorem OwnEnd.start {P : Outcome → State → Prop} {n : Nat} {g' : JFrame} (h : entryFrame m args n = g') (k : OwnEnd p e below P (T.setTop g')) :
    ∃ s₂ o, Steps p.tables e below (T.setTop (entryFrame m args n)) s₂ ∧ s₂.status = .running ∧ Ended s₂ below o ∧ P o s₂ := by rw [h]; exact k
theorem OwnEnd.ret (X : Stand p l e R s m args below meth c T locs cells slots) {v : Option Value} (hv : meth.sig.returnType = none → v = none) (hlk : meth.locks = false)
    (st : ∀ fs, (∀ (f : JFrame) (acts : List Action), f.method = m → f.locked = none → f.entered = [] → (doReturn e (T.setTop f) acts v).1 = T.setFrames fs) → Steps p.tables e below S (T.setFrames fs))
    {k n : Nat} (hk : cells ≤ k) (hn : slots ≤ n) {Q : Option Value → Heap → List Loc → Prop} (eT : T.heap = h) (hq : Q v h locs) :
    OwnEnd p e below (fun o t => ∃ v L, o = .returned v ∧ Q v t.heap L ∧ FrameEnd s o t L k n) S := by
  obtain ⟨fs, hr, hrun, hended, hW, hsame⟩ := X.leave (v := v) hv hlk
  subst eT
  exact ⟨_, _, st fs hr, hrun, hended, v, locs, rfl, hq, ⟨_, rfl⟩, hW, hsame.mono hk hn⟩
theorem OwnEnd.retW {vm₁ : Vm} (X : Stand p l e R (s.setVm vm₁) m args below meth c T locs cells slots) {k0 : Nat} (hS : s.Since vm₁ k0) (hk0 : k0 ≤ Array.size h) {v : Option Value} (hv : meth.sig.returnType = none → v = none) (hlk : meth.locks = false)
    (st : ∀ fs, (∀ (f : JFrame) (acts : List Action), f.method = m → f.locked = none → f.entered = [] → (doReturn e (T.setTop f) acts v).1 = T.setFrames fs) → Steps p.tables e below S (T.setFrames fs))
    {k n : Nat} (hk : cells ≤ k) (hn : slots ≤ n) {Q : Option Value → Heap → List Loc → Prop} (eT : T.heap = h) (hq : Q v h locs) :
    OwnEnd p e below (fun o t => ∃ v L, o = .returned v ∧ Q v t.heap L ∧ ReturnedEndW s o t L k n) S := by
  subst eT
  obtain ⟨fs, hr, hrun, hended, hE⟩ := X.leaveW hS hk0 (v := v) hv hlk
  exact ⟨_, _, st fs hr, hrun, hended, v, locs, rfl, hq, hE.1, hE.2.1, hE.2.2.1, hE.2.2.2.mono hk hn⟩
theorem OwnEnd.retC {vm₁ : Vm} {EL : List (String × Nat)} {h0 : Heap} (hh : s.heap = h0) (hEL : EW Z a0 EL) (hZ : Z.Warmed39 vm₁) (X : Stand p l e R (s.setVm vm₁) m args below meth c T locs cells slots) {k0 : Nat} (hS : s.Since vm₁ k0) (hk0 : k0 ≤ Array.size h) {v : Option Value} (hv : meth.sig.returnType = none → v = none) (hlk : meth.locks = false)
    (st : ∀ fs, (∀ (f : JFrame) (acts : List Action), f.method = m → f.locked = none → f.entered = [] → (doReturn e (T.setTop f) acts v).1 = T.setFrames fs) → Steps p.tables e below S (T.setFrames fs))
    {k n : Nat} (hk : cells ≤ k) (hn : slots ≤ n) {Q : Option Value → Heap → List Loc → Prop} (eT : T.heap = h) (hR : CHr Z EL s.vm h0 vm₁ h) (hq : Q v h locs) :
    OwnEnd p e below (fun o t => ∃ v L, o = .returned v ∧ Q v t.heap L ∧ CHr Z EL s.vm s.heap t.vm t.heap ∧ ReturnedEndW s o t L k n) S := by
  subst eT hh
  obtain ⟨fs, hr, hrun, hended, hE⟩ := X.leaveW hS hk0 (v := v) hv hlk
  have q := CHv.at X hZ hEL hR.1
  exact ⟨_, _, st fs hr, hrun, hended, v, locs, rfl, hq, hR.trans q, hE.1, hE.2.1, hE.2.2.1, hE.2.2.2.mono hk hn⟩
theorem own_old_le {n0 : Nat} (O : Old Z n0 h) : n0 ≤ Array.size h := O.1 ▸ O.2.1
theorem own_wr_le {a : Addr} {sl : Nat} {v : Value} (W : Wr h h' a sl v) : Array.size h ≤ Array.size h' := Nat.le_of_eq W.size.symm
theorem own_ltN' {a n : Nat} (q : a < n) : @LT.lt Nat instLTNat a n := q
theorem own_ltB {a n : Nat} (q : @LT.lt Nat instLTNat a n) : a < n := q
theorem own_ne {a b : Nat} (q : @LT.lt Nat instLTNat a b ∨ @LT.lt Nat instLTNat b a) : a ≠ b := by rcases q with q | q <;> omega
theorem own_neN {a b : Nat} (q : a ≠ b) : @Ne Nat a b := q
theorem own_nin1 {a b : Addr} (h : a ≠ b) : a ∉ [b] := ninS h nin0
theorem own_nin2 {a b d : Addr} (h : a ≠ b) (h2 : a ≠ d) : a ∉ [b, d] := ninS h (own_nin1 h2)
theorem own_nin3 {a b d f : Addr} (h : a ≠ b) (h2 : a ≠ d) (h3 : a ≠ f) : a ∉ [b, d, f] := ninS h (own_nin2 h2 h3)
theorem own_all0 {P : Addr → Prop} : ∀ x ∈ ([] : List Addr), P x := all0
theorem own_all1 {P : Addr → Prop} {a : Addr} (h : P a) : ∀ x ∈ [a], P x := allS h all0
theorem own_all2 {P : Addr → Prop} {a b : Addr} (h : P a) (h2 : P b) : ∀ x ∈ [a, b], P x := allS h (own_all1 h2)
theorem own_all3 {P : Addr → Prop} {a b d : Addr} (h : P a) (h2 : P b) (h3 : P d) : ∀ x ∈ [a, b, d], P x := allS h (own_all2 h2 h3)
theorem own_cat1 {v : Value} (h : v.isRef = true) : v.category = 1 := by rcases ref_cases h with rfl | ⟨_, rfl⟩ <;> rfl
theorem own_fits_ref {v : Value} {t : FieldType} (h : v.isRef = true) (ht : t.isReference = true) : fits t v = true := by
  rcases ref_cases h with rfl | ⟨_, rfl⟩ <;> cases t <;> first | rfl | cases ht
theorem own_nar_ref {v : Value} {t : FieldType} (h : v.isRef = true) (ht : t.isReference = true) : narrow t v = v := by
  rcases ref_cases h with rfl | ⟨_, rfl⟩ <;> cases t <;> first | rfl | cases ht
theorem own_nar_cc (x : Int32) : nar .char (nar .char x) = nar .char x := by
  obtain ⟨h1, h2⟩ := rng_char (fits_nar_char x)
  have a := (c_i2c (nar .char x)); have b := c_i2c x
  have r := rng32 (nar .char x)
  apply Int32.toInt_inj.mp
  show (nar .char x).toUInt32.toUInt16.toUInt32.toInt32.toInt = (nar .char x).toInt
  have q1 : (nar .char x).toInt = x.toUInt32.toUInt16.toUInt32.toInt32.toInt := rfl
  omega
theorem own_c255 (x : Int32) : ¬ nar .char (x &&& (255 : Int32)) < 0 ∧ ¬ (255 : Int32) < nar .char (x &&& (255 : Int32)) := by
  have a := c_i2c (x &&& 255); have b := c_and x 255 (by decide)
  have q1 : (nar .char (x &&& 255)).toInt = (x &&& (255 : Int32)).toUInt32.toUInt16.toUInt32.toInt32.toInt := rfl
  have e0 : (0 : Int32).toInt = 0 := rfl
  have e2 : (255 : Int32).toInt = 255 := rfl
  rw [Int32.lt_iff_toInt_lt, Int32.lt_iff_toInt_lt]
  omega
theorem own_up (cs : List Int32) (h : ∀ c ∈ cs, ¬ c < 0 ∧ ¬ (255 : Int32) < c) : ∀ c ∈ cs, ¬ c < 0 ∧ ¬ (65535 : Int32) < c := fun c hc => ⟨(h c hc).1, fun q => (h c hc).2 (by rw [Int32.lt_iff_toInt_lt] at q ⊢; have e1 : (65535 : Int32).toInt = 65535 := rfl; have e2 : (255 : Int32).toInt = 255 := rfl; omega)⟩
end Own
def OwnG (Z : State) (a0 : Array Value) : Prop := (∀ d ∈ tables_1, d.before a0 Z = true) ∧ (∀ d ∈ jdkStatics_1, d.before a0 Z = true) ∧ Jvm.Lit.constsHeld consts_1 Z
theorem own_w {Z : State} {a0 : Array Value} (G : OwnG Z a0) (i : Nat) {d : Jvm.Cond} (h : tables_1[i]? = some d) : d.before a0 Z = true := G.1 _ (List.mem_of_getElem? h)
abbrev own_m0 : MethodName := ⟨"java/lang/String", "<init>", "([CIILjava/lang/Void;)V"⟩
abbrev own_m1 : MethodName := ⟨"java/lang/String", "<init>", "([C)V"⟩
abbrev own_m2 : MethodName := ⟨"jdk/internal/util/Preconditions", "checkIndex", "(IILjava/util/function/BiFunction;)I"⟩
abbrev own_m3 : MethodName := ⟨"java/lang/String", "checkIndex", "(II)V"⟩
abbrev own_m4 : MethodName := ⟨"java/lang/String", "isLatin1", "()Z"⟩
abbrev own_m5 : MethodName := ⟨"java/lang/String", "coder", "()B"⟩
abbrev own_m6 : MethodName := ⟨"java/lang/String", "length", "()I"⟩
abbrev own_m7 : MethodName := ⟨"java/lang/String", "isEmpty", "()Z"⟩
abbrev own_m8 : MethodName := ⟨"java/lang/StringLatin1", "charAt", "([BI)C"⟩
abbrev own_m9 : MethodName := ⟨"java/lang/StringUTF16", "length", "([B)I"⟩
abbrev own_m10 : MethodName := ⟨"java/lang/StringUTF16", "checkIndex", "(I[B)V"⟩
abbrev own_m11 : MethodName := ⟨"java/lang/StringUTF16", "getChar", "([BI)C"⟩
abbrev own_m12 : MethodName := ⟨"java/lang/StringUTF16", "charAt", "([BI)C"⟩
abbrev own_m13 : MethodName := ⟨"java/lang/String", "charAt", "(I)C"⟩
abbrev own_m14 : MethodName := ⟨"java/lang/StringUTF16", "newBytesLength", "(I)I"⟩
abbrev own_m15 : MethodName := ⟨"java/lang/StringUTF16", "putChar", "([BII)V"⟩
abbrev own_m16 : MethodName := ⟨"java/lang/StringUTF16", "newBytesFor", "(I)[B"⟩
abbrev own_m17 : MethodName := ⟨"java/lang/StringUTF16", "toBytes", "([CII)[B"⟩
abbrev own_m18 : MethodName := ⟨"java/lang/StringUTF16", "compress", "([CI[BII)I"⟩
abbrev own_m19 : MethodName := ⟨"java/lang/StringUTF16", "compress", "([CII)[B"⟩
abbrev own_m20 : MethodName := ⟨"java/lang/StringUTF16", "coderFromArrayLen", "([BI)B"⟩
abbrev own_m21 : MethodName := ⟨"com/example/sabar/sabar/AsciiIsDigitsPinLaw", "digit", "(C)Z"⟩
abbrev own_m22 : MethodName := ⟨"com/example/sabar/sabar/AsciiIsDigitsPinLaw", "build", "(ICCCC)[C"⟩
abbrev own_m23 : MethodName := ⟨"com/example/sabar/sabar/Ascii", "isDigits", "(Ljava/lang/String;)Z"⟩
theorem own_cs {Z : State} {a0 : Array Value} (G : OwnG Z a0) : ∃ z : Int32, Sta Z Z.heap "java/lang/String" "COMPACT_STRINGS" "Z" (.int z) ∧ ¬ z = (0 : Int32) := by
  have hs := G.2.1
  obtain ⟨i, e⟩ := is_v (Cond.before_iff.mp (hs _ (List.mem_of_getElem? (i := 1) rfl)))
  have n5 := not_v (Cond.before_iff.mp (hs _ (List.mem_of_getElem? (i := 2) rfl)))
  exact ⟨i, Sta.start e (Or.inl (hs _ (List.mem_of_getElem? (i := 0) rfl))), gotF (Cond.eq_ints e (Term.int_eval (0))) n5⟩
theorem own_atoms : ∀ d ∈ Bundle.stringAtoms, d ∈ tables_1 := by decide +kernel
theorem own_wS {Z : State} {a0 : Array Value} (G : OwnG Z a0) : ∀ d ∈ Bundle.stringAtoms, d.before a0 Z = true := fun d hd => G.1 d (own_atoms d hd)
theorem own_EW {Z : State} {a0 : Array Value} (G : OwnG Z a0) : EW Z a0 consts_1 := by
  have hw := G.1
  exact EW.cons (own_w G 19 rfl) (by decide) EW.nil
theorem own_CH {Z : State} {a0 : Array Value} (G : OwnG Z a0) : CHv Z consts_1 Z.vm Z.heap :=
  CHv.start (own_EW G) G.2.2 (G.2.1 _ (List.mem_of_getElem? (i := 2) rfl)) (own_wS G _ (by simp [Bundle.stringAtoms])) (own_wS G _ (by simp [Bundle.stringAtoms, Bundle.sN]))
/-- a String whose value is null yet is no constant that the JVM holds -/
theorem own_safe_null {Z : State} {h : Heap} {x : Addr} {vm : Vm} {EL : List (String × Nat)} (hal : Z.vm.Alike vm) (E : Exa Z h x "java/lang/String") (F : Fld Z h x "java/lang/String" "value" "[B" .null) : Safe Z EL vm h x := fun B => by
  obtain ⟨cell, k, e1, e2, e3, -, -⟩ := E
  obtain ⟨cell', cf, k', i, f, g1, g2, g3, -, -, -, g7⟩ := F
  cases e1.symm.trans g1
  obtain ⟨p, -, u, a, -, q, -, F', rfl | rfl⟩ := B
  · cases (show h[q.sa]? = some q.sC from F'.ha).symm.trans e1
    obtain ⟨cS, ⟨⟨-, -, -, ⟨c1, k1, i1, f1, -⟩, -, -, -, v1, -⟩, -⟩, -⟩ := F'
    obtain ⟨k3, q3, -⟩ := State.fieldFound?_setVm (s := Z) hal g2
    have e4 := (show (Wst Z vm h).fieldFound? "java/lang/String" "value" "[B" = some (cf, k3, i, f) from q3).symm.trans f1
    simp only [Option.some.injEq, Prod.mk.injEq] at e4
    rw [← e4.2.2.2, g7] at v1
    cases v1
  · cases (show h[q.sd]? = some q.SA from F'.hd).symm.trans e1
    obtain ⟨cS, -, -, fB, -⟩ := F'
    have fB' : Z.vm.findClass "[B" = some q.SA.cls := by rw [← hal.findClass]; exact fB
    obtain ⟨k1, q1, q2⟩ := Vm.findClass_spec fB'
    obtain ⟨k2, q3, q4⟩ := Vm.findClass_spec e2
    cases q1.symm.trans q3
    exact absurd (q2.symm.trans q4) (by decide)
theorem own_fm {Z : State} {a0 : Array Value} (G : OwnG Z a0) : ∃ v : Value, Sta Z Z.heap "jdk/internal/util/Preconditions" "SIOOBE_FORMATTER" "Ljava/util/function/BiFunction;" v ∧ v.isRef = true := by
  have hs := G.2.1
  obtain ⟨v, e, r⟩ := isR_v (Cond.before_iff.mp (hs _ (List.mem_of_getElem? (i := 8) rfl)))
  exact ⟨v, Sta.start e (Or.inl (hs _ (List.mem_of_getElem? (i := 7) rfl))), r⟩
theorem own_st {Z : State} {a0 : Array Value} {C n d : String} {k : Int32} (wi : (Cond.initializedFor C n d).before a0 Z = true) (we : (Cond.eq (Term.static C n d) (Term.int k)).before a0 Z = true) : Sta Z Z.heap C n d (.int k) := Sta.start (eqv_i (Term.int_eval k) (Cond.before_iff.mp we)) (Or.inl wi)
theorem own_ad {Z : State} {a0 : Array Value} (G : OwnG Z a0) : Sta Z Z.heap "java/lang/StringUTF16" "$assertionsDisabled" "Z" (.int (1 : Int32)) := own_st (G.2.1 _ (List.mem_of_getElem? (i := 11) rfl)) (G.2.1 _ (List.mem_of_getElem? (i := 12) rfl))
theorem own_hi {Z : State} {a0 : Array Value} (G : OwnG Z a0) : Sta Z Z.heap "java/lang/StringUTF16" "HI_BYTE_SHIFT" "I" (.int (0 : Int32)) := own_st (G.2.1 _ (List.mem_of_getElem? (i := 14) rfl)) (G.2.1 _ (List.mem_of_getElem? (i := 15) rfl))
theorem own_lo {Z : State} {a0 : Array Value} (G : OwnG Z a0) : Sta Z Z.heap "java/lang/StringUTF16" "LO_BYTE_SHIFT" "I" (.int (8 : Int32)) := own_st (G.2.1 _ (List.mem_of_getElem? (i := 17) rfl)) (G.2.1 _ (List.mem_of_getElem? (i := 18) rfl))
theorem own_lolo (x : Int32) : nar .byte (nar .byte x) = nar .byte x := by
  have a := c_i2b x; have b := c_i2b (nar .byte x)
  have q1 : (nar .byte x).toInt = x.toInt8.toInt32.toInt := rfl
  apply Int32.toInt_inj.mp
  show (nar .byte x).toInt8.toInt32.toInt = (nar .byte x).toInt
  omega
theorem own_b0 (c : Int32) : nar .byte (nar .byte (c >>> ((0 : Int32) &&& 31))) = StrChars.lo8 c := by rw [own_lolo, StrChars.shr0]; rfl
theorem own_b8 (c : Int32) : nar .byte (nar .byte (c >>> ((8 : Int32) &&& 31))) = StrChars.hi8 c := by rw [own_lolo]; rfl
/-- the place of the first char above 255 -/
def own_first : List Int32 → Int32
  | [] => 0
  | c :: cs => if 255 < c then 0 else own_first cs + 1
def own_Qint (r : Int32) (h0 : Heap) (n0 : Nat) (v : Option Value) (h : Heap) (L : List Loc) : Prop := v = some (.int r) ∧ Fr n0 L ∧ h = h0
theorem own_255 {c : Int32} (h : ¬ (255 : Int32) < c) : ¬ (65535 : Int32) < c := fun q => h (by rw [Int32.lt_iff_toInt_lt] at q ⊢; have e1 : (65535 : Int32).toInt = 65535 := rfl; have e2 : (255 : Int32).toInt = 255 := rfl; omega)
theorem own_narc {c : Int32} (h0 : ¬ c < (0 : Int32)) (h1 : ¬ (65535 : Int32) < c) : nar .char c = c := by
  have a := c_i2c c
  have q1 : (nar .char c).toInt = c.toUInt32.toUInt16.toUInt32.toInt32.toInt := rfl
  rw [Int32.lt_iff_toInt_lt] at h0 h1
  have e1 : (65535 : Int32).toInt = 65535 := rfl
  have e0 : (0 : Int32).toInt = 0 := rfl
  apply Int32.toInt_inj.mp
  omega
theorem own_lat {c : Int32} (h0 : ¬ c < (0 : Int32)) (h1 : ¬ (255 : Int32) < c) : nar .char (nar .char (StrChars.lo8 c &&& (255 : Int32))) = c := by
  rw [own_nar_cc, StrChars.lo8_mask h0 h1, own_narc h0 (own_255 h1)]
theorem own_toInt {k : Nat} (h : k < 2 ^ 31) : (Int32.ofNat k).toInt = k := toInt_of rfl h
theorem own_clamp {k : Nat} (h : k < 2 ^ 31) : (Int32.ofNat k).toNatClampNeg = k := clamp_of rfl h
theorem own_nn {k : Nat} (h : k < 2 ^ 31) : ¬ Int32.ofNat k < (0 : Int32) := by
  rw [Int32.lt_iff_toInt_lt, own_toInt h]; have e0 : (0 : Int32).toInt = 0 := rfl; omega
theorem own_ltN {k n : Nat} (h : k < n) (hn : n < 2 ^ 31) : Int32.ofNat k < Int32.ofNat n := by
  rw [Int32.lt_iff_toInt_lt, own_toInt hn, own_toInt (by omega)]; omega
theorem own_dbl {k : Nat} (h : k < 2 ^ 29) : Int32.ofNat k <<< ((1 : Int32) &&& 31) = Int32.ofNat (2 * k) := by
  have a := c_ishl (Int32.ofNat k) 1 1 (by decide)
  have r := rng32 (Int32.ofNat k <<< ((1 : Int32) &&& 31))
  rw [own_toInt (by omega)] at a
  apply Int32.toInt_inj.mp
  rw [own_toInt (show 2 * k < 2 ^ 31 by omega)]
  omega
theorem own_inc {k : Nat} (h : k + 1 < 2 ^ 31) : Int32.ofNat k + (1 : Int32) = Int32.ofNat (k + 1) := (inc_ofNat k).symm
theorem own_half {cs : List Int32} (h : cs.length ≤ 4000) : Int32.ofNat (2 * cs.length) >>> ((1 : Int32) &&& 31) = Int32.ofNat cs.length := by
  have a := c_ishr (Int32.ofNat (2 * cs.length)) 1 1 (by decide)
  rw [own_toInt (by omega)] at a
  apply Int32.toInt_inj.mp
  rw [a, own_toInt (by omega)]
  omega
theorem own_shr0 (c : Int32) : c >>> ((0 : Int32) &&& 31) = c := StrChars.shr0 c
theorem own_getD_mem {cs : List Int32} {k : Nat} (h : k < cs.length) : cs.getD k 0 ∈ cs := by
  have e : cs.getD k 0 = cs[k] := by simp [List.getD_eq_getElem?_getD, h]
  rw [e]; exact List.getElem_mem _
theorem own_cod_ne {cs : List Int32} {cd N : Int32} {vs : List Value} (H : StrChars.Road.CodA cs cd N vs) (h : 0 < cs.length) (h2 : cs.length ≤ 4000) : ¬ N = (0 : Int32) := fun q => by
  have e0 : (0 : Int32).toInt = 0 := rfl
  rcases H with ⟨-, rfl, -⟩ | ⟨-, rfl, -⟩
  · have := congrArg Int32.toInt q; rw [own_toInt (by omega), e0] at this; omega
  · have := congrArg Int32.toInt q; rw [own_toInt (by omega), e0] at this; omega
theorem own_cod_nar {cs : List Int32} {cd N : Int32} {vs : List Value} (H : StrChars.Road.CodA cs cd N vs) : narrow .byte (.int cd) = .int cd ∧ fits .byte (.int cd) = true := by
  rcases H with ⟨rfl, -⟩ | ⟨rfl, -⟩ <;> exact ⟨rfl, rfl⟩
theorem own_pair {c : Int32} (h0 : ¬ c < (0 : Int32)) (h1 : ¬ (65535 : Int32) < c) : nar .char (nar .char (((StrChars.lo8 c &&& (255 : Int32)) <<< ((0 : Int32) &&& 31)) ||| ((StrChars.hi8 c &&& (255 : Int32)) <<< ((8 : Int32) &&& 31)))) = c := by
  rw [own_nar_cc]; exact StrChars.pair_says h0 h1
/-- what the inner compress leaves in its array -/
def own_cbs : List Int32 → List Value
  | [] => []
  | c :: cs => if 255 < c then .int 0 :: cs.map (fun _ => .int 0) else .int (nar .byte (nar .byte c)) :: own_cbs cs
theorem own_lo2 (c : Int32) : nar .byte (nar .byte c) = StrChars.lo8 c := own_lolo c
theorem own_first1 (c0 : Int32) : (own_first [c0] = (0 : Int32) ∧ (255 : Int32) < c0) ∨ (own_first [c0] = (1 : Int32) ∧ own_cbs [c0] = (([c0] : List Int32).map fun c => Value.int (StrChars.lo8 c)) ∧ ∀ c ∈ ([c0] : List Int32), ¬ (255 : Int32) < c) := by
  by_cases h0 : (255 : Int32) < c0
  · exact Or.inl ⟨by simp [own_first, h0], h0⟩
  refine Or.inr (⟨by simp [own_first, h0], by simp [own_cbs, own_lo2, h0], ?_⟩)
  intro c hc
  simp only [List.mem_cons, List.not_mem_nil, or_false] at hc
  rcases hc with rfl
  · exact h0
theorem own_first2 (c0 c1 : Int32) : (own_first [c0, c1] = (0 : Int32) ∧ (255 : Int32) < c0) ∨ (own_first [c0, c1] = (1 : Int32) ∧ (255 : Int32) < c1) ∨ (own_first [c0, c1] = (2 : Int32) ∧ own_cbs [c0, c1] = (([c0, c1] : List Int32).map fun c => Value.int (StrChars.lo8 c)) ∧ ∀ c ∈ ([c0, c1] : List Int32), ¬ (255 : Int32) < c) := by
  by_cases h0 : (255 : Int32) < c0
  · exact Or.inl ⟨by simp [own_first, h0], h0⟩
  by_cases h1 : (255 : Int32) < c1
  · exact Or.inr (Or.inl ⟨by simp [own_first, h0, h1], h1⟩)
  refine Or.inr (Or.inr (⟨by simp [own_first, h0, h1], by simp [own_cbs, own_lo2, h0, h1], ?_⟩))
  intro c hc
  simp only [List.mem_cons, List.not_mem_nil, or_false] at hc
  rcases hc with rfl | rfl
  · exact h0
  · exact h1
theorem own_first3 (c0 c1 c2 : Int32) : (own_first [c0, c1, c2] = (0 : Int32) ∧ (255 : Int32) < c0) ∨ (own_first [c0, c1, c2] = (1 : Int32) ∧ (255 : Int32) < c1) ∨ (own_first [c0, c1, c2] = (2 : Int32) ∧ (255 : Int32) < c2) ∨ (own_first [c0, c1, c2] = (3 : Int32) ∧ own_cbs [c0, c1, c2] = (([c0, c1, c2] : List Int32).map fun c => Value.int (StrChars.lo8 c)) ∧ ∀ c ∈ ([c0, c1, c2] : List Int32), ¬ (255 : Int32) < c) := by
  by_cases h0 : (255 : Int32) < c0
  · exact Or.inl ⟨by simp [own_first, h0], h0⟩
  by_cases h1 : (255 : Int32) < c1
  · exact Or.inr (Or.inl ⟨by simp [own_first, h0, h1], h1⟩)
  by_cases h2 : (255 : Int32) < c2
  · exact Or.inr (Or.inr (Or.inl ⟨by simp [own_first, h0, h1, h2], h2⟩))
  refine Or.inr (Or.inr (Or.inr (⟨by simp [own_first, h0, h1, h2], by simp [own_cbs, own_lo2, h0, h1, h2], ?_⟩)))
  intro c hc
  simp only [List.mem_cons, List.not_mem_nil, or_false] at hc
  rcases hc with rfl | rfl | rfl
  · exact h0
  · exact h1
  · exact h2
theorem own_first4 (c0 c1 c2 c3 : Int32) : (own_first [c0, c1, c2, c3] = (0 : Int32) ∧ (255 : Int32) < c0) ∨ (own_first [c0, c1, c2, c3] = (1 : Int32) ∧ (255 : Int32) < c1) ∨ (own_first [c0, c1, c2, c3] = (2 : Int32) ∧ (255 : Int32) < c2) ∨ (own_first [c0, c1, c2, c3] = (3 : Int32) ∧ (255 : Int32) < c3) ∨ (own_first [c0, c1, c2, c3] = (4 : Int32) ∧ own_cbs [c0, c1, c2, c3] = (([c0, c1, c2, c3] : List Int32).map fun c => Value.int (StrChars.lo8 c)) ∧ ∀ c ∈ ([c0, c1, c2, c3] : List Int32), ¬ (255 : Int32) < c) := by
  by_cases h0 : (255 : Int32) < c0
  · exact Or.inl ⟨by simp [own_first, h0], h0⟩
  by_cases h1 : (255 : Int32) < c1
  · exact Or.inr (Or.inl ⟨by simp [own_first, h0, h1], h1⟩)
  by_cases h2 : (255 : Int32) < c2
  · exact Or.inr (Or.inr (Or.inl ⟨by simp [own_first, h0, h1, h2], h2⟩))
  by_cases h3 : (255 : Int32) < c3
  · exact Or.inr (Or.inr (Or.inr (Or.inl ⟨by simp [own_first, h0, h1, h2, h3], h3⟩)))
  refine Or.inr (Or.inr (Or.inr (Or.inr (⟨by simp [own_first, h0, h1, h2, h3], by simp [own_cbs, own_lo2, h0, h1, h2, h3], ?_⟩))))
  intro c hc
  simp only [List.mem_cons, List.not_mem_nil, or_false] at hc
  rcases hc with rfl | rfl | rfl | rfl
  · exact h0
  · exact h1
  · exact h2
  · exact h3
def own_dig (c : Int32) : Int32 := if c < 48 then 0 else if 57 < c then 0 else 1
def own_isd : List Int32 → Int32
  | [] => 1
  | c :: cs => if c < 48 then 0 else if 57 < c then 0 else own_isd cs
theorem own_isd_dig (c : Int32) (cs : List Int32) : own_isd (c :: cs) = if own_dig c = 0 then 0 else own_isd cs := by
  rw [own_isd, own_dig]
  by_cases h1 : c < 48
  · simp [h1]
  · by_cases h2 : 57 < c <;> simp [h1, h2]
theorem own_isd_nil : own_isd [] = 1 := rfl
theorem own_rem5 (p0 : Int32) : ((p0 &&& (2147483647 : Int32)) % (5 : Int32)) = (0 : Int32) ∨ ((p0 &&& (2147483647 : Int32)) % (5 : Int32)) = (1 : Int32) ∨ ((p0 &&& (2147483647 : Int32)) % (5 : Int32)) = (2 : Int32) ∨ ((p0 &&& (2147483647 : Int32)) % (5 : Int32)) = (3 : Int32) ∨ ((p0 &&& (2147483647 : Int32)) % (5 : Int32)) = (4 : Int32) := by
  have a := c_and p0 2147483647 (by decide)
  have b := (c_irem (p0 &&& 2147483647) 5 5 rfl).1 a.1
  simp only [← Int32.toInt_inj]
  rw [b]
  have e0 : (0 : Int32).toInt = 0 := rfl
  have e1 : (1 : Int32).toInt = 1 := rfl
  have e2 : (2 : Int32).toInt = 2 := rfl
  have e3 : (3 : Int32).toInt = 3 := rfl
  have e4 : (4 : Int32).toInt = 4 := rfl
  omega
theorem own_rng1 (p1 : Int32) : ∀ c ∈ ([(nar .char p1)] : List Int32), ¬ c < (0 : Int32) ∧ ¬ (65535 : Int32) < c := by
  intro c hc
  simp only [List.mem_cons, List.not_mem_nil, or_false] at hc
  rcases hc with rfl <;> exact rng_char (fits_nar_char _)
theorem own_rng2 (p1 p2 : Int32) : ∀ c ∈ ([(nar .char p1), (nar .char p2)] : List Int32), ¬ c < (0 : Int32) ∧ ¬ (65535 : Int32) < c := by
  intro c hc
  simp only [List.mem_cons, List.not_mem_nil, or_false] at hc
  rcases hc with rfl | rfl <;> exact rng_char (fits_nar_char _)
theorem own_rng3 (p1 p2 p3 : Int32) : ∀ c ∈ ([(nar .char p1), (nar .char p2), (nar .char p3)] : List Int32), ¬ c < (0 : Int32) ∧ ¬ (65535 : Int32) < c := by
  intro c hc
  simp only [List.mem_cons, List.not_mem_nil, or_false] at hc
  rcases hc with rfl | rfl | rfl <;> exact rng_char (fits_nar_char _)
theorem own_rng4 (p1 p2 p3 p4 : Int32) : ∀ c ∈ ([(nar .char p1), (nar .char p2), (nar .char p3), (nar .char p4)] : List Int32), ¬ c < (0 : Int32) ∧ ¬ (65535 : Int32) < c := by
  intro c hc
  simp only [List.mem_cons, List.not_mem_nil, or_false] at hc
  rcases hc with rfl | rfl | rfl | rfl <;> exact rng_char (fits_nar_char _)
theorem d0_0 : decode jdk_42_method_149_code 0 = .ok (.aload_n 0, 1) := by decide +kernel
theorem d0_1 : decode jdk_42_method_149_code 1 = .ok (.invokespecial 1, 3) := by decide +kernel
theorem d0_4 : decode jdk_42_method_149_code 4 = .ok (.iload_n 3, 1) := by decide +kernel
theorem d0_5 : decode jdk_42_method_149_code 5 = .ok (.ifCond .ne 22, 3) := by decide +kernel
theorem d0_8 : decode jdk_42_method_149_code 8 = .ok (.aload_n 0, 1) := by decide +kernel
theorem d0_9 : decode jdk_42_method_149_code 9 = .ok (.ldc 7, 2) := by decide +kernel
theorem d0_11 : decode jdk_42_method_149_code 11 = .ok (.getfield 9, 3) := by decide +kernel
theorem d0_14 : decode jdk_42_method_149_code 14 = .ok (.putfield 9, 3) := by decide +kernel
theorem d0_17 : decode jdk_42_method_149_code 17 = .ok (.aload_n 0, 1) := by decide +kernel
theorem d0_18 : decode jdk_42_method_149_code 18 = .ok (.ldc 7, 2) := by decide +kernel
theorem d0_20 : decode jdk_42_method_149_code 20 = .ok (.getfield 15, 3) := by decide +kernel
theorem d0_23 : decode jdk_42_method_149_code 23 = .ok (.putfield 15, 3) := by decide +kernel
theorem d0_26 : decode jdk_42_method_149_code 26 = .ok (.return_, 1) := by decide +kernel
theorem pn_0 : plainName "java/lang/String" = true := by first | (simp [plainName, overriddenIn]; done) | decide +kernel
theorem d1_0 : decode jdk_42_method_3_code 0 = .ok (.aload_n 0, 1) := by decide +kernel
theorem d1_1 : decode jdk_42_method_3_code 1 = .ok (.aload_n 1, 1) := by decide +kernel
theorem d1_2 : decode jdk_42_method_3_code 2 = .ok (.iconst 0, 1) := by decide +kernel
theorem d1_3 : decode jdk_42_method_3_code 3 = .ok (.aload_n 1, 1) := by decide +kernel
theorem d1_4 : decode jdk_42_method_3_code 4 = .ok (.arraylength, 1) := by decide +kernel
theorem d1_5 : decode jdk_42_method_3_code 5 = .ok (.aconst_null, 1) := by decide +kernel
theorem d1_6 : decode jdk_42_method_3_code 6 = .ok (.invokespecial 27, 3) := by decide +kernel
theorem pd_0 : parseMethodDescriptor "([CIILjava/lang/Void;)V" = some ⟨[(.array .char), .int, .int, (.object "java/lang/Void")], none⟩ := by decide +kernel
theorem d1_9 : decode jdk_42_method_3_code 9 = .ok (.return_, 1) := by decide +kernel
theorem d2_0 : decode jdk_41_method_11_code 0 = .ok (.iload_n 0, 1) := by decide +kernel
theorem d2_1 : decode jdk_41_method_11_code 1 = .ok (.ifCond .lt 8, 3) := by decide +kernel
theorem d2_4 : decode jdk_41_method_11_code 4 = .ok (.iload_n 0, 1) := by decide +kernel
theorem d2_5 : decode jdk_41_method_11_code 5 = .ok (.iload_n 1, 1) := by decide +kernel
theorem d2_6 : decode jdk_41_method_11_code 6 = .ok (.if_icmp .lt 10, 3) := by decide +kernel
theorem d2_16 : decode jdk_41_method_11_code 16 = .ok (.iload_n 0, 1) := by decide +kernel
theorem d2_17 : decode jdk_41_method_11_code 17 = .ok (.ireturn, 1) := by decide +kernel
theorem pn_1 : plainName "jdk/internal/util/Preconditions" = true := by first | (simp [plainName, overriddenIn]; done) | decide +kernel
theorem d3_0 : decode jdk_42_method_155_code 0 = .ok (.iload_n 0, 1) := by decide +kernel
theorem d3_1 : decode jdk_42_method_155_code 1 = .ok (.iload_n 1, 1) := by decide +kernel
theorem d3_2 : decode jdk_42_method_155_code 2 = .ok (.getstatic 1053, 3) := by decide +kernel
theorem d3_5 : decode jdk_42_method_155_code 5 = .ok (.invokestatic 1059, 3) := by decide +kernel
theorem pd_1 : parseMethodDescriptor "(IILjava/util/function/BiFunction;)I" = some ⟨[.int, .int, (.object "java/util/function/BiFunction")], some .int⟩ := by decide +kernel
theorem d3_8 : decode jdk_42_method_155_code 8 = .ok (.pop, 1) := by decide +kernel
theorem d3_9 : decode jdk_42_method_155_code 9 = .ok (.return_, 1) := by decide +kernel
theorem d4_0 : decode jdk_42_method_154_code 0 = .ok (.getstatic 38, 3) := by decide +kernel
theorem d4_3 : decode jdk_42_method_154_code 3 = .ok (.ifCond .eq 14, 3) := by decide +kernel
theorem d4_6 : decode jdk_42_method_154_code 6 = .ok (.aload_n 0, 1) := by decide +kernel
theorem d4_7 : decode jdk_42_method_154_code 7 = .ok (.getfield 15, 3) := by decide +kernel
theorem d4_10 : decode jdk_42_method_154_code 10 = .ok (.ifCond .ne 7, 3) := by decide +kernel
theorem d4_13 : decode jdk_42_method_154_code 13 = .ok (.iconst 1, 1) := by decide +kernel
theorem d4_14 : decode jdk_42_method_154_code 14 = .ok (.goto 4, 3) := by decide +kernel
theorem d4_18 : decode jdk_42_method_154_code 18 = .ok (.ireturn, 1) := by decide +kernel
theorem d5_0 : decode jdk_42_method_152_code 0 = .ok (.getstatic 38, 3) := by decide +kernel
theorem d5_3 : decode jdk_42_method_152_code 3 = .ok (.ifCond .eq 10, 3) := by decide +kernel
theorem d5_6 : decode jdk_42_method_152_code 6 = .ok (.aload_n 0, 1) := by decide +kernel
theorem d5_7 : decode jdk_42_method_152_code 7 = .ok (.getfield 15, 3) := by decide +kernel
theorem d5_10 : decode jdk_42_method_152_code 10 = .ok (.goto 4, 3) := by decide +kernel
theorem d5_14 : decode jdk_42_method_152_code 14 = .ok (.ireturn, 1) := by decide +kernel
theorem d4_17 : decode jdk_42_method_154_code 17 = .ok (.iconst 0, 1) := by decide +kernel
theorem d6_0 : decode jdk_42_method_54_code 0 = .ok (.aload_n 0, 1) := by decide +kernel
theorem d6_1 : decode jdk_42_method_54_code 1 = .ok (.getfield 9, 3) := by decide +kernel
theorem d6_4 : decode jdk_42_method_54_code 4 = .ok (.arraylength, 1) := by decide +kernel
theorem d6_5 : decode jdk_42_method_54_code 5 = .ok (.aload_n 0, 1) := by decide +kernel
theorem d6_6 : decode jdk_42_method_54_code 6 = .ok (.invokevirtual 335, 3) := by decide +kernel
theorem pd_2 : parseMethodDescriptor "()B" = some ⟨[], some .byte⟩ := by decide +kernel
theorem d6_9 : decode jdk_42_method_54_code 9 = .ok (.ishr, 1) := by decide +kernel
theorem d6_10 : decode jdk_42_method_54_code 10 = .ok (.ireturn, 1) := by decide +kernel
theorem d7_0 : decode jdk_42_method_55_code 0 = .ok (.aload_n 0, 1) := by decide +kernel
theorem d7_1 : decode jdk_42_method_55_code 1 = .ok (.getfield 9, 3) := by decide +kernel
theorem d7_4 : decode jdk_42_method_55_code 4 = .ok (.arraylength, 1) := by decide +kernel
theorem d7_5 : decode jdk_42_method_55_code 5 = .ok (.ifCond .ne 7, 3) := by decide +kernel
theorem d7_8 : decode jdk_42_method_55_code 8 = .ok (.iconst 1, 1) := by decide +kernel
theorem d7_9 : decode jdk_42_method_55_code 9 = .ok (.goto 4, 3) := by decide +kernel
theorem d7_13 : decode jdk_42_method_55_code 13 = .ok (.ireturn, 1) := by decide +kernel
theorem d7_12 : decode jdk_42_method_55_code 12 = .ok (.iconst 0, 1) := by decide +kernel
theorem d8_0 : decode jdk_43_method_2_code 0 = .ok (.iload_n 1, 1) := by decide +kernel
theorem d8_1 : decode jdk_43_method_2_code 1 = .ok (.aload_n 0, 1) := by decide +kernel
theorem d8_2 : decode jdk_43_method_2_code 2 = .ok (.arraylength, 1) := by decide +kernel
theorem d8_3 : decode jdk_43_method_2_code 3 = .ok (.invokestatic 9, 3) := by decide +kernel
theorem pd_3 : parseMethodDescriptor "(II)V" = some ⟨[.int, .int], none⟩ := by decide +kernel
theorem d8_6 : decode jdk_43_method_2_code 6 = .ok (.aload_n 0, 1) := by decide +kernel
theorem d8_7 : decode jdk_43_method_2_code 7 = .ok (.iload_n 1, 1) := by decide +kernel
theorem d8_8 : decode jdk_43_method_2_code 8 = .ok (.baload, 1) := by decide +kernel
theorem d8_9 : decode jdk_43_method_2_code 9 = .ok (.sipush 255, 3) := by decide +kernel
theorem d8_12 : decode jdk_43_method_2_code 12 = .ok (.iand, 1) := by decide +kernel
theorem d8_13 : decode jdk_43_method_2_code 13 = .ok (.i2c, 1) := by decide +kernel
theorem d8_14 : decode jdk_43_method_2_code 14 = .ok (.ireturn, 1) := by decide +kernel
theorem pn_2 : plainName "java/lang/StringLatin1" = true := by first | (simp [plainName, overriddenIn]; done) | decide +kernel
theorem d9_0 : decode jdk_52_method_6_code 0 = .ok (.aload_n 0, 1) := by decide +kernel
theorem d9_1 : decode jdk_52_method_6_code 1 = .ok (.arraylength, 1) := by decide +kernel
theorem d9_2 : decode jdk_52_method_6_code 2 = .ok (.iconst 1, 1) := by decide +kernel
theorem d9_3 : decode jdk_52_method_6_code 3 = .ok (.ishr, 1) := by decide +kernel
theorem d9_4 : decode jdk_52_method_6_code 4 = .ok (.ireturn, 1) := by decide +kernel
theorem pn_3 : plainName "java/lang/StringUTF16" = true := by first | (simp [plainName, overriddenIn]; done) | decide +kernel
theorem d10_0 : decode jdk_52_method_91_code 0 = .ok (.iload_n 0, 1) := by decide +kernel
theorem d10_1 : decode jdk_52_method_91_code 1 = .ok (.aload_n 1, 1) := by decide +kernel
theorem d10_2 : decode jdk_52_method_91_code 2 = .ok (.invokestatic 48, 3) := by decide +kernel
theorem pd_4 : parseMethodDescriptor "([B)I" = some ⟨[(.array .byte)], some .int⟩ := by decide +kernel
theorem d10_5 : decode jdk_52_method_91_code 5 = .ok (.invokestatic 414, 3) := by decide +kernel
theorem d10_8 : decode jdk_52_method_91_code 8 = .ok (.return_, 1) := by decide +kernel
theorem d11_0 : decode jdk_52_method_5_code 0 = .ok (.getstatic 44, 3) := by decide +kernel
theorem d11_3 : decode jdk_52_method_5_code 3 = .ok (.ifCond .ne 25, 3) := by decide +kernel
theorem d11_28 : decode jdk_52_method_5_code 28 = .ok (.iload_n 1, 1) := by decide +kernel
theorem d11_29 : decode jdk_52_method_5_code 29 = .ok (.iconst 1, 1) := by decide +kernel
theorem d11_30 : decode jdk_52_method_5_code 30 = .ok (.ishl, 1) := by decide +kernel
theorem d11_31 : decode jdk_52_method_5_code 31 = .ok (.istore_n 1, 1) := by decide +kernel
theorem d11_32 : decode jdk_52_method_5_code 32 = .ok (.aload_n 0, 1) := by decide +kernel
theorem d11_33 : decode jdk_52_method_5_code 33 = .ok (.iload_n 1, 1) := by decide +kernel
theorem d11_34 : decode jdk_52_method_5_code 34 = .ok (.iinc 1 1, 3) := by decide +kernel
theorem d11_37 : decode jdk_52_method_5_code 37 = .ok (.baload, 1) := by decide +kernel
theorem d11_38 : decode jdk_52_method_5_code 38 = .ok (.sipush 255, 3) := by decide +kernel
theorem d11_41 : decode jdk_52_method_5_code 41 = .ok (.iand, 1) := by decide +kernel
theorem d11_42 : decode jdk_52_method_5_code 42 = .ok (.getstatic 59, 3) := by decide +kernel
theorem d11_45 : decode jdk_52_method_5_code 45 = .ok (.ishl, 1) := by decide +kernel
theorem d11_46 : decode jdk_52_method_5_code 46 = .ok (.aload_n 0, 1) := by decide +kernel
theorem d11_47 : decode jdk_52_method_5_code 47 = .ok (.iload_n 1, 1) := by decide +kernel
theorem d11_48 : decode jdk_52_method_5_code 48 = .ok (.baload, 1) := by decide +kernel
theorem d11_49 : decode jdk_52_method_5_code 49 = .ok (.sipush 255, 3) := by decide +kernel
theorem d11_52 : decode jdk_52_method_5_code 52 = .ok (.iand, 1) := by decide +kernel
theorem d11_53 : decode jdk_52_method_5_code 53 = .ok (.getstatic 63, 3) := by decide +kernel
theorem d11_56 : decode jdk_52_method_5_code 56 = .ok (.ishl, 1) := by decide +kernel
theorem d11_57 : decode jdk_52_method_5_code 57 = .ok (.ior, 1) := by decide +kernel
theorem d11_58 : decode jdk_52_method_5_code 58 = .ok (.i2c, 1) := by decide +kernel
theorem d11_59 : decode jdk_52_method_5_code 59 = .ok (.ireturn, 1) := by decide +kernel
theorem d12_0 : decode jdk_52_method_83_code 0 = .ok (.iload_n 1, 1) := by decide +kernel
theorem d12_1 : decode jdk_52_method_83_code 1 = .ok (.aload_n 0, 1) := by decide +kernel
theorem d12_2 : decode jdk_52_method_83_code 2 = .ok (.invokestatic 67, 3) := by decide +kernel
theorem pd_5 : parseMethodDescriptor "(I[B)V" = some ⟨[.int, (.array .byte)], none⟩ := by decide +kernel
theorem d12_5 : decode jdk_52_method_83_code 5 = .ok (.aload_n 0, 1) := by decide +kernel
theorem d12_6 : decode jdk_52_method_83_code 6 = .ok (.iload_n 1, 1) := by decide +kernel
theorem d12_7 : decode jdk_52_method_83_code 7 = .ok (.invokestatic 71, 3) := by decide +kernel
theorem pd_6 : parseMethodDescriptor "([BI)C" = some ⟨[(.array .byte), .int], some .char⟩ := by decide +kernel
theorem d12_10 : decode jdk_52_method_83_code 10 = .ok (.ireturn, 1) := by decide +kernel
theorem d13_0 : decode jdk_42_method_56_code 0 = .ok (.aload_n 0, 1) := by decide +kernel
theorem d13_1 : decode jdk_42_method_56_code 1 = .ok (.invokevirtual 492, 3) := by decide +kernel
theorem pd_7 : parseMethodDescriptor "()Z" = some ⟨[], some .boolean⟩ := by decide +kernel
theorem d13_4 : decode jdk_42_method_56_code 4 = .ok (.ifCond .eq 12, 3) := by decide +kernel
theorem d13_16 : decode jdk_42_method_56_code 16 = .ok (.aload_n 0, 1) := by decide +kernel
theorem d13_17 : decode jdk_42_method_56_code 17 = .ok (.getfield 9, 3) := by decide +kernel
theorem d13_20 : decode jdk_42_method_56_code 20 = .ok (.iload_n 1, 1) := by decide +kernel
theorem d13_21 : decode jdk_42_method_56_code 21 = .ok (.invokestatic 498, 3) := by decide +kernel
theorem d13_24 : decode jdk_42_method_56_code 24 = .ok (.ireturn, 1) := by decide +kernel
theorem d13_7 : decode jdk_42_method_56_code 7 = .ok (.aload_n 0, 1) := by decide +kernel
theorem d13_8 : decode jdk_42_method_56_code 8 = .ok (.getfield 9, 3) := by decide +kernel
theorem d13_11 : decode jdk_42_method_56_code 11 = .ok (.iload_n 1, 1) := by decide +kernel
theorem d13_12 : decode jdk_42_method_56_code 12 = .ok (.invokestatic 495, 3) := by decide +kernel
theorem d13_15 : decode jdk_42_method_56_code 15 = .ok (.ireturn, 1) := by decide +kernel
theorem d14_0 : decode jdk_52_method_3_code 0 = .ok (.iload_n 0, 1) := by decide +kernel
theorem d14_1 : decode jdk_52_method_3_code 1 = .ok (.ifCond .ge 11, 3) := by decide +kernel
theorem d14_12 : decode jdk_52_method_3_code 12 = .ok (.iload_n 0, 1) := by decide +kernel
theorem d14_13 : decode jdk_52_method_3_code 13 = .ok (.ldc 20, 2) := by decide +kernel
theorem d14_15 : decode jdk_52_method_3_code 15 = .ok (.if_icmp .lt 40, 3) := by decide +kernel
theorem d14_55 : decode jdk_52_method_3_code 55 = .ok (.iload_n 0, 1) := by decide +kernel
theorem d14_56 : decode jdk_52_method_3_code 56 = .ok (.iconst 1, 1) := by decide +kernel
theorem d14_57 : decode jdk_52_method_3_code 57 = .ok (.ishl, 1) := by decide +kernel
theorem d14_58 : decode jdk_52_method_3_code 58 = .ok (.ireturn, 1) := by decide +kernel
theorem d15_0 : decode jdk_52_method_4_code 0 = .ok (.getstatic 44, 3) := by decide +kernel
theorem d15_3 : decode jdk_52_method_4_code 3 = .ok (.ifCond .ne 25, 3) := by decide +kernel
theorem d15_28 : decode jdk_52_method_4_code 28 = .ok (.iload_n 1, 1) := by decide +kernel
theorem d15_29 : decode jdk_52_method_4_code 29 = .ok (.iconst 1, 1) := by decide +kernel
theorem d15_30 : decode jdk_52_method_4_code 30 = .ok (.ishl, 1) := by decide +kernel
theorem d15_31 : decode jdk_52_method_4_code 31 = .ok (.istore_n 1, 1) := by decide +kernel
theorem d15_32 : decode jdk_52_method_4_code 32 = .ok (.aload_n 0, 1) := by decide +kernel
theorem d15_33 : decode jdk_52_method_4_code 33 = .ok (.iload_n 1, 1) := by decide +kernel
theorem d15_34 : decode jdk_52_method_4_code 34 = .ok (.iinc 1 1, 3) := by decide +kernel
theorem d15_37 : decode jdk_52_method_4_code 37 = .ok (.iload_n 2, 1) := by decide +kernel
theorem d15_38 : decode jdk_52_method_4_code 38 = .ok (.getstatic 59, 3) := by decide +kernel
theorem d15_41 : decode jdk_52_method_4_code 41 = .ok (.ishr, 1) := by decide +kernel
theorem d15_42 : decode jdk_52_method_4_code 42 = .ok (.i2b, 1) := by decide +kernel
theorem d15_43 : decode jdk_52_method_4_code 43 = .ok (.bastore, 1) := by decide +kernel
theorem d15_44 : decode jdk_52_method_4_code 44 = .ok (.aload_n 0, 1) := by decide +kernel
theorem d15_45 : decode jdk_52_method_4_code 45 = .ok (.iload_n 1, 1) := by decide +kernel
theorem d15_46 : decode jdk_52_method_4_code 46 = .ok (.iload_n 2, 1) := by decide +kernel
theorem d15_47 : decode jdk_52_method_4_code 47 = .ok (.getstatic 63, 3) := by decide +kernel
theorem d15_50 : decode jdk_52_method_4_code 50 = .ok (.ishr, 1) := by decide +kernel
theorem d15_51 : decode jdk_52_method_4_code 51 = .ok (.i2b, 1) := by decide +kernel
theorem d15_52 : decode jdk_52_method_4_code 52 = .ok (.bastore, 1) := by decide +kernel
theorem d15_53 : decode jdk_52_method_4_code 53 = .ok (.return_, 1) := by decide +kernel
theorem d16_0 : decode jdk_52_method_2_code 0 = .ok (.iload_n 0, 1) := by decide +kernel
theorem d16_1 : decode jdk_52_method_2_code 1 = .ok (.invokestatic 11, 3) := by decide +kernel
theorem pd_8 : parseMethodDescriptor "(I)I" = some ⟨[.int], some .int⟩ := by decide +kernel
theorem d16_4 : decode jdk_52_method_2_code 4 = .ok (.newarray .byte, 2) := by decide +kernel
theorem d16_6 : decode jdk_52_method_2_code 6 = .ok (.areturn, 1) := by decide +kernel
theorem d17_0 : decode jdk_52_method_14_code 0 = .ok (.iload_n 2, 1) := by decide +kernel
theorem d17_1 : decode jdk_52_method_14_code 1 = .ok (.invokestatic 107, 3) := by decide +kernel
theorem pd_9 : parseMethodDescriptor "(I)[B" = some ⟨[.int], some (.array .byte)⟩ := by decide +kernel
theorem d17_4 : decode jdk_52_method_14_code 4 = .ok (.astore_n 3, 1) := by decide +kernel
theorem d17_5 : decode jdk_52_method_14_code 5 = .ok (.iconst 0, 1) := by decide +kernel
theorem d17_6 : decode jdk_52_method_14_code 6 = .ok (.istore 4, 2) := by decide +kernel
theorem d17_8 : decode jdk_52_method_14_code 8 = .ok (.iload 4, 2) := by decide +kernel
theorem d17_10 : decode jdk_52_method_14_code 10 = .ok (.iload_n 2, 1) := by decide +kernel
theorem d17_11 : decode jdk_52_method_14_code 11 = .ok (.if_icmp .ge 21, 3) := by decide +kernel
theorem d17_14 : decode jdk_52_method_14_code 14 = .ok (.aload_n 3, 1) := by decide +kernel
theorem d17_15 : decode jdk_52_method_14_code 15 = .ok (.iload 4, 2) := by decide +kernel
theorem d17_17 : decode jdk_52_method_14_code 17 = .ok (.aload_n 0, 1) := by decide +kernel
theorem d17_18 : decode jdk_52_method_14_code 18 = .ok (.iload_n 1, 1) := by decide +kernel
theorem d17_19 : decode jdk_52_method_14_code 19 = .ok (.caload, 1) := by decide +kernel
theorem d17_20 : decode jdk_52_method_14_code 20 = .ok (.invokestatic 111, 3) := by decide +kernel
theorem pd_10 : parseMethodDescriptor "([BII)V" = some ⟨[(.array .byte), .int, .int], none⟩ := by decide +kernel
theorem d17_23 : decode jdk_52_method_14_code 23 = .ok (.iinc 1 1, 3) := by decide +kernel
theorem d17_26 : decode jdk_52_method_14_code 26 = .ok (.iinc 4 1, 3) := by decide +kernel
theorem d17_29 : decode jdk_52_method_14_code 29 = .ok (.goto (-21), 3) := by decide +kernel
theorem d17_32 : decode jdk_52_method_14_code 32 = .ok (.aload_n 3, 1) := by decide +kernel
theorem d17_33 : decode jdk_52_method_14_code 33 = .ok (.areturn, 1) := by decide +kernel
theorem d18_0 : decode jdk_52_method_21_code 0 = .ok (.iconst 0, 1) := by decide +kernel
theorem d18_1 : decode jdk_52_method_21_code 1 = .ok (.istore 5, 2) := by decide +kernel
theorem d18_3 : decode jdk_52_method_21_code 3 = .ok (.iload 5, 2) := by decide +kernel
theorem d18_5 : decode jdk_52_method_21_code 5 = .ok (.iload 4, 2) := by decide +kernel
theorem d18_7 : decode jdk_52_method_21_code 7 = .ok (.if_icmp .ge 37, 3) := by decide +kernel
theorem d18_10 : decode jdk_52_method_21_code 10 = .ok (.aload_n 0, 1) := by decide +kernel
theorem d18_11 : decode jdk_52_method_21_code 11 = .ok (.iload_n 1, 1) := by decide +kernel
theorem d18_12 : decode jdk_52_method_21_code 12 = .ok (.caload, 1) := by decide +kernel
theorem d18_13 : decode jdk_52_method_21_code 13 = .ok (.istore 6, 2) := by decide +kernel
theorem d18_15 : decode jdk_52_method_21_code 15 = .ok (.iload 6, 2) := by decide +kernel
theorem d18_17 : decode jdk_52_method_21_code 17 = .ok (.sipush 255, 3) := by decide +kernel
theorem d18_20 : decode jdk_52_method_21_code 20 = .ok (.if_icmp .le 6, 3) := by decide +kernel
theorem d18_23 : decode jdk_52_method_21_code 23 = .ok (.iload 5, 2) := by decide +kernel
theorem d18_25 : decode jdk_52_method_21_code 25 = .ok (.ireturn, 1) := by decide +kernel
theorem d18_26 : decode jdk_52_method_21_code 26 = .ok (.aload_n 2, 1) := by decide +kernel
theorem d18_27 : decode jdk_52_method_21_code 27 = .ok (.iload_n 3, 1) := by decide +kernel
theorem d18_28 : decode jdk_52_method_21_code 28 = .ok (.iload 6, 2) := by decide +kernel
theorem d18_30 : decode jdk_52_method_21_code 30 = .ok (.i2b, 1) := by decide +kernel
theorem d18_31 : decode jdk_52_method_21_code 31 = .ok (.bastore, 1) := by decide +kernel
theorem d18_32 : decode jdk_52_method_21_code 32 = .ok (.iinc 1 1, 3) := by decide +kernel
theorem d18_35 : decode jdk_52_method_21_code 35 = .ok (.iinc 3 1, 3) := by decide +kernel
theorem d18_38 : decode jdk_52_method_21_code 38 = .ok (.iinc 5 1, 3) := by decide +kernel
theorem d18_41 : decode jdk_52_method_21_code 41 = .ok (.goto (-38), 3) := by decide +kernel
theorem d18_44 : decode jdk_52_method_21_code 44 = .ok (.iload 4, 2) := by decide +kernel
theorem d18_46 : decode jdk_52_method_21_code 46 = .ok (.ireturn, 1) := by decide +kernel
theorem d19_0 : decode jdk_52_method_16_code 0 = .ok (.iload_n 2, 1) := by decide +kernel
theorem d19_1 : decode jdk_52_method_16_code 1 = .ok (.newarray .byte, 2) := by decide +kernel
theorem d19_3 : decode jdk_52_method_16_code 3 = .ok (.astore_n 3, 1) := by decide +kernel
theorem d19_4 : decode jdk_52_method_16_code 4 = .ok (.aload_n 0, 1) := by decide +kernel
theorem d19_5 : decode jdk_52_method_16_code 5 = .ok (.iload_n 1, 1) := by decide +kernel
theorem d19_6 : decode jdk_52_method_16_code 6 = .ok (.aload_n 3, 1) := by decide +kernel
theorem d19_7 : decode jdk_52_method_16_code 7 = .ok (.iconst 0, 1) := by decide +kernel
theorem d19_8 : decode jdk_52_method_16_code 8 = .ok (.iload_n 2, 1) := by decide +kernel
theorem d19_9 : decode jdk_52_method_16_code 9 = .ok (.invokestatic 115, 3) := by decide +kernel
theorem pd_11 : parseMethodDescriptor "([CI[BII)I" = some ⟨[(.array .char), .int, (.array .byte), .int, .int], some .int⟩ := by decide +kernel
theorem d19_12 : decode jdk_52_method_16_code 12 = .ok (.istore 4, 2) := by decide +kernel
theorem d19_14 : decode jdk_52_method_16_code 14 = .ok (.iload 4, 2) := by decide +kernel
theorem d19_16 : decode jdk_52_method_16_code 16 = .ok (.iload_n 2, 1) := by decide +kernel
theorem d19_17 : decode jdk_52_method_16_code 17 = .ok (.if_icmp .eq 40, 3) := by decide +kernel
theorem d19_20 : decode jdk_52_method_16_code 20 = .ok (.aload_n 0, 1) := by decide +kernel
theorem d19_21 : decode jdk_52_method_16_code 21 = .ok (.iload_n 1, 1) := by decide +kernel
theorem d19_22 : decode jdk_52_method_16_code 22 = .ok (.iload_n 2, 1) := by decide +kernel
theorem d19_23 : decode jdk_52_method_16_code 23 = .ok (.invokestatic 119, 3) := by decide +kernel
theorem pd_12 : parseMethodDescriptor "([CII)[B" = some ⟨[(.array .char), .int, .int], some (.array .byte)⟩ := by decide +kernel
theorem d19_26 : decode jdk_52_method_16_code 26 = .ok (.astore 5, 2) := by decide +kernel
theorem d19_28 : decode jdk_52_method_16_code 28 = .ok (.aload 5, 2) := by decide +kernel
theorem d19_30 : decode jdk_52_method_16_code 30 = .ok (.iload 4, 2) := by decide +kernel
theorem d19_32 : decode jdk_52_method_16_code 32 = .ok (.invokestatic 71, 3) := by decide +kernel
theorem d19_35 : decode jdk_52_method_16_code 35 = .ok (.sipush 255, 3) := by decide +kernel
theorem d19_38 : decode jdk_52_method_16_code 38 = .ok (.if_icmp .gt 16, 3) := by decide +kernel
theorem d19_54 : decode jdk_52_method_16_code 54 = .ok (.aload 5, 2) := by decide +kernel
theorem d19_56 : decode jdk_52_method_16_code 56 = .ok (.areturn, 1) := by decide +kernel
theorem d19_57 : decode jdk_52_method_16_code 57 = .ok (.aload_n 3, 1) := by decide +kernel
theorem d19_58 : decode jdk_52_method_16_code 58 = .ok (.areturn, 1) := by decide +kernel
theorem d20_0 : decode jdk_52_method_15_code 0 = .ok (.iload_n 1, 1) := by decide +kernel
theorem d20_1 : decode jdk_52_method_15_code 1 = .ok (.aload_n 0, 1) := by decide +kernel
theorem d20_2 : decode jdk_52_method_15_code 2 = .ok (.arraylength, 1) := by decide +kernel
theorem d20_3 : decode jdk_52_method_15_code 3 = .ok (.isub, 1) := by decide +kernel
theorem d20_4 : decode jdk_52_method_15_code 4 = .ok (.bipush 31, 2) := by decide +kernel
theorem d20_6 : decode jdk_52_method_15_code 6 = .ok (.iushr, 1) := by decide +kernel
theorem d20_7 : decode jdk_52_method_15_code 7 = .ok (.i2b, 1) := by decide +kernel
theorem d20_8 : decode jdk_52_method_15_code 8 = .ok (.ireturn, 1) := by decide +kernel
theorem d0_27 : decode jdk_42_method_149_code 27 = .ok (.getstatic 38, 3) := by decide +kernel
theorem d0_30 : decode jdk_42_method_149_code 30 = .ok (.ifCond .eq 28, 3) := by decide +kernel
theorem d0_33 : decode jdk_42_method_149_code 33 = .ok (.aload_n 1, 1) := by decide +kernel
theorem d0_34 : decode jdk_42_method_149_code 34 = .ok (.iload_n 2, 1) := by decide +kernel
theorem d0_35 : decode jdk_42_method_149_code 35 = .ok (.iload_n 3, 1) := by decide +kernel
theorem d0_36 : decode jdk_42_method_149_code 36 = .ok (.invokestatic 177, 3) := by decide +kernel
theorem d0_39 : decode jdk_42_method_149_code 39 = .ok (.astore 5, 2) := by decide +kernel
theorem d0_41 : decode jdk_42_method_149_code 41 = .ok (.aload_n 0, 1) := by decide +kernel
theorem d0_42 : decode jdk_42_method_149_code 42 = .ok (.aload 5, 2) := by decide +kernel
theorem d0_44 : decode jdk_42_method_149_code 44 = .ok (.iload_n 3, 1) := by decide +kernel
theorem d0_45 : decode jdk_42_method_149_code 45 = .ok (.invokestatic 47, 3) := by decide +kernel
theorem pd_13 : parseMethodDescriptor "([BI)B" = some ⟨[(.array .byte), .int], some .byte⟩ := by decide +kernel
theorem d0_48 : decode jdk_42_method_149_code 48 = .ok (.putfield 15, 3) := by decide +kernel
theorem d0_51 : decode jdk_42_method_149_code 51 = .ok (.aload_n 0, 1) := by decide +kernel
theorem d0_52 : decode jdk_42_method_149_code 52 = .ok (.aload 5, 2) := by decide +kernel
theorem d0_54 : decode jdk_42_method_149_code 54 = .ok (.putfield 9, 3) := by decide +kernel
theorem d0_57 : decode jdk_42_method_149_code 57 = .ok (.return_, 1) := by decide +kernel
theorem d21_0 : decode method_2_code 0 = .ok (.iload_n 0, 1) := by decide +kernel
theorem d21_1 : decode method_2_code 1 = .ok (.bipush 48, 2) := by decide +kernel
theorem d21_3 : decode method_2_code 3 = .ok (.if_icmp .lt 13, 3) := by decide +kernel
theorem d21_16 : decode method_2_code 16 = .ok (.iconst 0, 1) := by decide +kernel
theorem d21_17 : decode method_2_code 17 = .ok (.ireturn, 1) := by decide +kernel
theorem d21_6 : decode method_2_code 6 = .ok (.iload_n 0, 1) := by decide +kernel
theorem d21_7 : decode method_2_code 7 = .ok (.bipush 57, 2) := by decide +kernel
theorem d21_9 : decode method_2_code 9 = .ok (.if_icmp .gt 7, 3) := by decide +kernel
theorem d21_12 : decode method_2_code 12 = .ok (.iconst 1, 1) := by decide +kernel
theorem d21_13 : decode method_2_code 13 = .ok (.goto 4, 3) := by decide +kernel
theorem pn_4 : plainName "com/example/sabar/sabar/AsciiIsDigitsPinLaw" = true := by first | (simp [plainName, overriddenIn]; done) | decide +kernel
theorem d22_0 : decode method_3_code 0 = .ok (.iload_n 0, 1) := by decide +kernel
theorem d22_1 : decode method_3_code 1 = .ok (.ifCond .ne 7, 3) := by decide +kernel
theorem d22_4 : decode method_3_code 4 = .ok (.iconst 0, 1) := by decide +kernel
theorem d22_5 : decode method_3_code 5 = .ok (.newarray .char, 2) := by decide +kernel
theorem d22_7 : decode method_3_code 7 = .ok (.areturn, 1) := by decide +kernel
theorem d22_8 : decode method_3_code 8 = .ok (.iload_n 0, 1) := by decide +kernel
theorem d22_9 : decode method_3_code 9 = .ok (.iconst 1, 1) := by decide +kernel
theorem d22_10 : decode method_3_code 10 = .ok (.if_icmp .ne 11, 3) := by decide +kernel
theorem d22_13 : decode method_3_code 13 = .ok (.iconst 1, 1) := by decide +kernel
theorem d22_14 : decode method_3_code 14 = .ok (.newarray .char, 2) := by decide +kernel
theorem d22_16 : decode method_3_code 16 = .ok (.dup, 1) := by decide +kernel
theorem d22_17 : decode method_3_code 17 = .ok (.iconst 0, 1) := by decide +kernel
theorem d22_18 : decode method_3_code 18 = .ok (.iload_n 1, 1) := by decide +kernel
theorem d22_19 : decode method_3_code 19 = .ok (.castore, 1) := by decide +kernel
theorem d22_20 : decode method_3_code 20 = .ok (.areturn, 1) := by decide +kernel
theorem d22_21 : decode method_3_code 21 = .ok (.iload_n 0, 1) := by decide +kernel
theorem d22_22 : decode method_3_code 22 = .ok (.iconst 2, 1) := by decide +kernel
theorem d22_23 : decode method_3_code 23 = .ok (.if_icmp .ne 15, 3) := by decide +kernel
theorem d22_26 : decode method_3_code 26 = .ok (.iconst 2, 1) := by decide +kernel
theorem d22_27 : decode method_3_code 27 = .ok (.newarray .char, 2) := by decide +kernel
theorem d22_29 : decode method_3_code 29 = .ok (.dup, 1) := by decide +kernel
theorem d22_30 : decode method_3_code 30 = .ok (.iconst 0, 1) := by decide +kernel
theorem d22_31 : decode method_3_code 31 = .ok (.iload_n 1, 1) := by decide +kernel
theorem d22_32 : decode method_3_code 32 = .ok (.castore, 1) := by decide +kernel
theorem d22_33 : decode method_3_code 33 = .ok (.dup, 1) := by decide +kernel
theorem d22_34 : decode method_3_code 34 = .ok (.iconst 1, 1) := by decide +kernel
theorem d22_35 : decode method_3_code 35 = .ok (.iload_n 2, 1) := by decide +kernel
theorem d22_36 : decode method_3_code 36 = .ok (.castore, 1) := by decide +kernel
theorem d22_37 : decode method_3_code 37 = .ok (.areturn, 1) := by decide +kernel
theorem d22_38 : decode method_3_code 38 = .ok (.iload_n 0, 1) := by decide +kernel
theorem d22_39 : decode method_3_code 39 = .ok (.iconst 3, 1) := by decide +kernel
theorem d22_40 : decode method_3_code 40 = .ok (.if_icmp .ne 19, 3) := by decide +kernel
theorem d22_43 : decode method_3_code 43 = .ok (.iconst 3, 1) := by decide +kernel
theorem d22_44 : decode method_3_code 44 = .ok (.newarray .char, 2) := by decide +kernel
theorem d22_46 : decode method_3_code 46 = .ok (.dup, 1) := by decide +kernel
theorem d22_47 : decode method_3_code 47 = .ok (.iconst 0, 1) := by decide +kernel
theorem d22_48 : decode method_3_code 48 = .ok (.iload_n 1, 1) := by decide +kernel
theorem d22_49 : decode method_3_code 49 = .ok (.castore, 1) := by decide +kernel
theorem d22_50 : decode method_3_code 50 = .ok (.dup, 1) := by decide +kernel
theorem d22_51 : decode method_3_code 51 = .ok (.iconst 1, 1) := by decide +kernel
theorem d22_52 : decode method_3_code 52 = .ok (.iload_n 2, 1) := by decide +kernel
theorem d22_53 : decode method_3_code 53 = .ok (.castore, 1) := by decide +kernel
theorem d22_54 : decode method_3_code 54 = .ok (.dup, 1) := by decide +kernel
theorem d22_55 : decode method_3_code 55 = .ok (.iconst 2, 1) := by decide +kernel
theorem d22_56 : decode method_3_code 56 = .ok (.iload_n 3, 1) := by decide +kernel
theorem d22_57 : decode method_3_code 57 = .ok (.castore, 1) := by decide +kernel
theorem d22_58 : decode method_3_code 58 = .ok (.areturn, 1) := by decide +kernel
theorem d22_59 : decode method_3_code 59 = .ok (.iconst 4, 1) := by decide +kernel
theorem d22_60 : decode method_3_code 60 = .ok (.newarray .char, 2) := by decide +kernel
theorem d22_62 : decode method_3_code 62 = .ok (.dup, 1) := by decide +kernel
theorem d22_63 : decode method_3_code 63 = .ok (.iconst 0, 1) := by decide +kernel
theorem d22_64 : decode method_3_code 64 = .ok (.iload_n 1, 1) := by decide +kernel
theorem d22_65 : decode method_3_code 65 = .ok (.castore, 1) := by decide +kernel
theorem d22_66 : decode method_3_code 66 = .ok (.dup, 1) := by decide +kernel
theorem d22_67 : decode method_3_code 67 = .ok (.iconst 1, 1) := by decide +kernel
theorem d22_68 : decode method_3_code 68 = .ok (.iload_n 2, 1) := by decide +kernel
theorem d22_69 : decode method_3_code 69 = .ok (.castore, 1) := by decide +kernel
theorem d22_70 : decode method_3_code 70 = .ok (.dup, 1) := by decide +kernel
theorem d22_71 : decode method_3_code 71 = .ok (.iconst 2, 1) := by decide +kernel
theorem d22_72 : decode method_3_code 72 = .ok (.iload_n 3, 1) := by decide +kernel
theorem d22_73 : decode method_3_code 73 = .ok (.castore, 1) := by decide +kernel
theorem d22_74 : decode method_3_code 74 = .ok (.dup, 1) := by decide +kernel
theorem d22_75 : decode method_3_code 75 = .ok (.iconst 3, 1) := by decide +kernel
theorem d22_76 : decode method_3_code 76 = .ok (.iload 4, 2) := by decide +kernel
theorem d22_78 : decode method_3_code 78 = .ok (.castore, 1) := by decide +kernel
theorem d22_79 : decode method_3_code 79 = .ok (.areturn, 1) := by decide +kernel
theorem d23_0 : decode prog_1_method_2_code 0 = .ok (.aload_n 0, 1) := by decide +kernel
theorem d23_1 : decode prog_1_method_2_code 1 = .ok (.invokevirtual 7, 3) := by decide +kernel
theorem d23_4 : decode prog_1_method_2_code 4 = .ok (.ifCond .eq 5, 3) := by decide +kernel
theorem d23_7 : decode prog_1_method_2_code 7 = .ok (.iconst 0, 1) := by decide +kernel
theorem d23_8 : decode prog_1_method_2_code 8 = .ok (.ireturn, 1) := by decide +kernel
theorem pn_5 : plainName "com/example/sabar/sabar/Ascii" = true := by first | (simp [plainName, overriddenIn]; done) | decide +kernel
theorem d23_9 : decode prog_1_method_2_code 9 = .ok (.iconst 0, 1) := by decide +kernel
theorem d23_10 : decode prog_1_method_2_code 10 = .ok (.istore_n 1, 1) := by decide +kernel
theorem d23_11 : decode prog_1_method_2_code 11 = .ok (.iload_n 1, 1) := by decide +kernel
theorem d23_12 : decode prog_1_method_2_code 12 = .ok (.aload_n 0, 1) := by decide +kernel
theorem d23_13 : decode prog_1_method_2_code 13 = .ok (.invokevirtual 13, 3) := by decide +kernel
theorem pd_14 : parseMethodDescriptor "()I" = some ⟨[], some .int⟩ := by decide +kernel
theorem d23_16 : decode prog_1_method_2_code 16 = .ok (.if_icmp .ge 29, 3) := by decide +kernel
theorem d23_19 : decode prog_1_method_2_code 19 = .ok (.aload_n 0, 1) := by decide +kernel
theorem d23_20 : decode prog_1_method_2_code 20 = .ok (.iload_n 1, 1) := by decide +kernel
theorem d23_21 : decode prog_1_method_2_code 21 = .ok (.invokevirtual 17, 3) := by decide +kernel
theorem pd_15 : parseMethodDescriptor "(I)C" = some ⟨[.int], some .char⟩ := by decide +kernel
theorem d23_24 : decode prog_1_method_2_code 24 = .ok (.istore_n 2, 1) := by decide +kernel
theorem d23_25 : decode prog_1_method_2_code 25 = .ok (.iload_n 2, 1) := by decide +kernel
theorem d23_26 : decode prog_1_method_2_code 26 = .ok (.bipush 48, 2) := by decide +kernel
theorem d23_28 : decode prog_1_method_2_code 28 = .ok (.if_icmp .lt 9, 3) := by decide +kernel
theorem d23_37 : decode prog_1_method_2_code 37 = .ok (.iconst 0, 1) := by decide +kernel
theorem d23_38 : decode prog_1_method_2_code 38 = .ok (.ireturn, 1) := by decide +kernel
theorem d23_31 : decode prog_1_method_2_code 31 = .ok (.iload_n 2, 1) := by decide +kernel
theorem d23_32 : decode prog_1_method_2_code 32 = .ok (.bipush 57, 2) := by decide +kernel
theorem d23_34 : decode prog_1_method_2_code 34 = .ok (.if_icmp .le 5, 3) := by decide +kernel
theorem d23_39 : decode prog_1_method_2_code 39 = .ok (.iinc 1 1, 3) := by decide +kernel
theorem d23_42 : decode prog_1_method_2_code 42 = .ok (.goto (-31), 3) := by decide +kernel
theorem d23_45 : decode prog_1_method_2_code 45 = .ok (.iconst 1, 1) := by decide +kernel
theorem d23_46 : decode prog_1_method_2_code 46 = .ok (.ireturn, 1) := by decide +kernel
theorem pd_16 : parseMethodDescriptor "(ICCCC)[C" = some ⟨[.int, .char, .char, .char, .char], some (.array .char)⟩ := by decide +kernel
theorem pd_17 : parseMethodDescriptor "([C)V" = some ⟨[(.array .char)], none⟩ := by decide +kernel
theorem pd_18 : parseMethodDescriptor "(Ljava/lang/String;)Z" = some ⟨[(.object "java/lang/String")], some .boolean⟩ := by decide +kernel
theorem pd_19 : parseMethodDescriptor "(C)Z" = some ⟨[.char], some .boolean⟩ := by decide +kernel
theorem own_efn4e (m : MethodId) (x0 : Addr) (b : Addr) : entryFrame m #[(.ref x0), (.ref b), (.int (0 : Int32)), (.int (0 : Int32)), .null] 6 = mkF m 0 #[.val (.ref x0), .val (.ref b), .val (.int (0 : Int32)), .val (.int (0 : Int32)), .val .null, .unset] [] := by first | (simp [entryFrame, mkF, argsToLocals, Value.category]; done) | rfl
def Qn4e (Z : State) (x0 : Addr) (b : Addr) (c0 : Value) (h0 : Heap) (n0 : Nat) (v : Option Value) (h : Heap) (L : List Loc) : Prop := ∃ (t : Addr) (kb : ClassId), v = none ∧ Fr n0 L ∧ Keep h0 h [x0] ∧ (Exa Z h x0 "java/lang/String") ∧ (Fld Z h x0 "java/lang/String" "value" "[B" (.ref t)) ∧ (Fld Z h x0 "java/lang/String" "coder" "B" (.int (0 : Int32))) ∧ (Arv Z h t kb .byte (0 : Int32) [] (.int (0 : Int32)))
set_option maxRecDepth 65536 in
set_option maxHeartbeats 40000000 in
theorem rmn4e (l : Launch) (Z : State) (a0 : Array Value) (G : OwnG Z a0) (ws : List Jvm.Cond) (x0 : Addr) (b : Addr) (c0 : Value) (h0 : Heap) (n0 : Nat) (O0 : Old Z n0 h0) (P0 : Exa Z h0 x0 "java/lang/String") (P1 : Fld Z h0 x0 "java/lang/String" "value" "[B" .null) (P2 : Fld Z h0 x0 "java/lang/String" "coder" "B" c0) (P3 : n0 ≤ x0) :
    MetFree l own_m0 (head1 (Jvm.Cond.code own_m0 jdk_42_method_149_code 6 none :: ws) ({ frames := 1, cells := 2, slots := 4, locals := 12 } : Room)) (fun a U => a = #[(.ref x0), (.ref b), (.int (0 : Int32)), (.int (0 : Int32)), .null] ∧ Z.Warmed39 U.vm ∧ U.heap = h0 ∧ CHv Z consts_1 U.vm h0) (fun _ _ _ _ _ => True) (fun _ U o U' => ∃ v L, o = .returned v ∧ Qn4e Z x0 b c0 h0 n0 v U'.heap L ∧ CHr Z consts_1 U.vm U.heap U'.vm U'.heap ∧ ReturnedEndW U o U' L ({ frames := 1, cells := 2, slots := 4, locals := 12 } : Room).cells ({ frames := 1, cells := 2, slots := 4, locals := 12 } : Room).slots) := by
  refine MetFree.of_bodySF (plainFor_of_name pn_0) hisR ?_
  intro p e s m args below meth cD s₁ Bd hml0 hP hK
  obtain ⟨rfl, hZ, hh, hCH⟩ := hP
  have hw := G.1
  have hx := Bd.exec
  have hby := Bd.bytes
  have hml : cD.maxLocals = 6 := hml0
  have hown : s.vm.findClass "java/lang/String" = some m.cls := findClass_of_methodNamed Bd.named
  have hnm := (name_of_methodNamed Bd.named Bd.method).1
  have hlk := Bd.notSynchronized
  have X0 : Stand p l e ({ frames := 1, cells := 2, slots := 4, locals := 12 } : Room) s m #[(.ref x0), (.ref b), (.int (0 : Int32)), (.int (0 : Int32)), .null] below meth cD s₁ [] 0 0 := Stand.of_body Bd
  have e0 : s₁.heap = h0 := by rw [← hh, Bd.state]; rfl
  have lt0 := own_ltN' P0.lt
  have lt1 := own_ltN' P1.lt
  have lt2 := own_ltN' P2.lt
  have K0 : Keep h0 h0 [x0] := Keep.refl h0 _
  have Z0 := own_old_le O0
  have N0 := Fr.nil n0
  have X0w : Stand p l e ({ frames := 1, cells := 2, slots := 4, locals := 12 } : Room) (s.setVm s.vm) m #[(.ref x0), (.ref b), (.int (0 : Int32)), (.int (0 : Int32)), .null] below meth cD s₁ [] 0 0 := X0
  have Si0 : s.Since s.vm (Array.size h0) := (State.WarmedH.refl s).since _
  have RR0 : CHr Z consts_1 s.vm h0 s.vm h0 := CHr.refl hCH
  refine OwnEnd.start (g' := (mkF m 0 #[.val (.ref x0), .val (.ref b), .val (.int (0 : Int32)), .val (.int (0 : Int32)), .val .null, .unset] [])) (own_efn4e m x0 b) ?_
  have Sf0 : Safe Z consts_1 s.vm h0 x0 := own_safe_null hZ.alike P0 P1
  refine OwnEnd.of (S' := s₁.setTop (mkF m 1 #[.val (.ref x0), .val (.ref b), .val (.int (0 : Int32)), .val (.int (0 : Int32)), .val .null, .unset] [(.ref x0)])) (fun _ kK => XS.aloadN X0w.here hx rfl (hb hby d0_0) rfl rfl kK) ?_
  obtain ⟨T1, X1, e1, st1⟩ := initO X0w hx hZ hown (own_w G 16 rfl) (own_w G 17 rfl) (own_w G 18 rfl) e0 (g := (mkF m 1 #[.val (.ref x0), .val (.ref b), .val (.int (0 : Int32)), .val (.int (0 : Int32)), .val .null, .unset] [(.ref x0)])) rfl (by rw [hml]; rfl) rfl (hb hby d0_1) (by decide) (W := 0) (by show 2 * 0 + _ ≤ _; exact Nat.le_of_eq rfl) (by decide)
  refine OwnEnd.of (S' := T1.setTop (mkF m 4 #[.val (.ref x0), .val (.ref b), .val (.int (0 : Int32)), .val (.int (0 : Int32)), .val .null, .unset] [])) st1 ?_
  refine OwnEnd.of (S' := T1.setTop (mkF m 9 #[.val (.ref x0), .val (.ref b), .val (.int (0 : Int32)), .val (.int (0 : Int32)), .val .null, .unset] [(.ref x0)])) (fun _ kK => XS.iloadN X1.here hx rfl (hb hby d0_4) rfl (XS.ifNo X1.here hx rfl (hb hby d0_5) rfl ((if0 _ _).trans (teq ((by decide : (0 : Int32) = (0 : Int32)))).2) (XS.aloadN X1.here hx rfl (hb hby d0_8) rfl rfl kK))) ?_
  obtain ⟨a2, T2, h2, k2, b2, c2, X2, e2, E2, Si2, gr2, hZ2, hown2, Ex2, Fc2, Fv2, Av2, la2, lb2, R2, Lt2, ne2, st2⟩ := ldcCH (vm0 := s.vm) X1 hx hZ hown (own_w G 19 rfl) (own_wS G) e1 Si0 (by omega) (own_EW G) (by simp [consts_1]) hCH (vs := []) (z := (0 : Int32)) (by decide) (by decide) (by decide) (g := (mkF m 9 #[.val (.ref x0), .val (.ref b), .val (.int (0 : Int32)), .val (.int (0 : Int32)), .val .null, .unset] [(.ref x0)])) rfl (hb hby d0_9) (n := 0) (by first | decide | simp) (by decide) (by decide) (by decide)
  have sz3 := E2.1
  have K3 := K0.ext E2
  have O3 := O0.ext E2
  have RR2' := RR0.trans R2
  refine OwnEnd.of (S' := T2.setTop (mkF m 11 #[.val (.ref x0), .val (.ref b), .val (.int (0 : Int32)), .val (.int (0 : Int32)), .val .null, .unset] [(.ref a2), (.ref x0)])) st2 ?_
  have f4 : Safe Z consts_1 T2.vm h2 x0 := (R2.safe (own_ltB (by omega)) Sf0)
  obtain ⟨na2, nb2⟩ := ne2 x0 f4
  have na2' := own_neN na2
  have nb2' := own_neN nb2
  obtain ⟨T5, X5, e5, st5⟩ := getF X2 hx hZ2 hown2 (host := "") (Or.inl (own_w G 25 rfl)) Via.refl e2 Fv2 (g := (mkF m 11 #[.val (.ref x0), .val (.ref b), .val (.int (0 : Int32)), .val (.int (0 : Int32)), .val .null, .unset] [(.ref a2), (.ref x0)])) rfl rfl (hb hby d0_11)
  refine OwnEnd.of (S' := T5.setTop (mkF m 14 #[.val (.ref x0), .val (.ref b), .val (.int (0 : Int32)), .val (.int (0 : Int32)), .val .null, .unset] [(.ref b2), (.ref x0)])) st5 ?_
  have f7 : Fld Z h2 x0 "java/lang/String" "value" "[B" .null := (P1.ext E2)
  have f8 : Exa Z h2 x0 "java/lang/String" := (P0.ext E2)
  obtain ⟨T6, h6, X6, e6, W6, st6⟩ := putF X5 hx hZ2 hown2 (host := "") (Or.inl (own_w G 25 rfl)) Via.refl e5 f7 f8 (Or.inr ⟨(own_w G 21 rfl), rfl, hnm⟩) (own_w G 2 rfl) (ty := (.array .byte)) (by decide) rfl rfl (g := (mkF m 14 #[.val (.ref x0), .val (.ref b), .val (.int (0 : Int32)), .val (.int (0 : Int32)), .val .null, .unset] [(.ref b2), (.ref x0)])) rfl rfl (hb hby d0_14)
  have Fw6 := f7.same W6
  have N6 := Fr.snoc X6 N0 (by omega)
  have sz9 := own_wr_le W6
  have K9 := K3.wr W6 (Or.inl (by simp))
  have O9 := O3.wr W6 (by omega)
  have R9 := CHr.wr W6 f4 R2.1
  have CH9 := R9.1
  have RR9 := RR2'.trans R9
  refine OwnEnd.of (S' := T6.setTop (mkF m 17 #[.val (.ref x0), .val (.ref b), .val (.int (0 : Int32)), .val (.int (0 : Int32)), .val .null, .unset] [])) st6 ?_
  refine OwnEnd.of (S' := T6.setTop (mkF m 18 #[.val (.ref x0), .val (.ref b), .val (.int (0 : Int32)), .val (.int (0 : Int32)), .val .null, .unset] [(.ref x0)])) (fun _ kK => XS.aloadN X6.here hx rfl (hb hby d0_17) rfl rfl kK) ?_
  refine OwnEnd.of (S' := T6.setTop (mkF m 20 #[.val (.ref x0), .val (.ref b), .val (.int (0 : Int32)), .val (.int (0 : Int32)), .val .null, .unset] [(.ref a2), (.ref x0)])) (ldcAgain (vm0 := T2.vm) X6 hx hZ2 hown2 (own_w G 19 rfl) Lt2 (g := (mkF m 18 #[.val (.ref x0), .val (.ref b), .val (.int (0 : Int32)), .val (.int (0 : Int32)), .val .null, .unset] [(.ref x0)])) rfl (hb hby d0_18)) ?_
  have f11 : Fld Z h6 a2 "java/lang/String" "coder" "B" (.int (0 : Int32)) := (Fc2.other W6 (Or.inl (own_ne (by omega))))
  obtain ⟨T10, X10, e10, st10⟩ := getF X6 hx hZ2 hown2 (host := "") (Or.inl (own_w G 26 rfl)) Via.refl e6 f11 (g := (mkF m 20 #[.val (.ref x0), .val (.ref b), .val (.int (0 : Int32)), .val (.int (0 : Int32)), .val .null, .unset] [(.ref a2), (.ref x0)])) rfl rfl (hb hby d0_20)
  refine OwnEnd.of (S' := T10.setTop (mkF m 23 #[.val (.ref x0), .val (.ref b), .val (.int (0 : Int32)), .val (.int (0 : Int32)), .val .null, .unset] [(.int (0 : Int32)), (.ref x0)])) st10 ?_
  have f13 : Fld Z h6 x0 "java/lang/String" "coder" "B" c0 := ((P2.ext E2).other W6 (Or.inr (slot_ne (Or.inr (own_w G 22 rfl)) (Or.inr (own_w G 21 rfl)) (by decide) (t := .byte) (t' := (.array .byte)) (by decide) (by decide))))
  have f14 : Exa Z h6 x0 "java/lang/String" := (f8.wr W6)
  obtain ⟨T12, h12, X12, e12, W12, st12⟩ := putFN X10 hx hZ2 hown2 (own_w G 26 rfl) Via.refl e10 f13 f14 (Or.inr ⟨(own_w G 22 rfl), rfl, hnm⟩) (own_w G 2 rfl) (ty := .byte) (v' := (.int (0 : Int32))) (by decide) rfl rfl (g := (mkF m 23 #[.val (.ref x0), .val (.ref b), .val (.int (0 : Int32)), .val (.int (0 : Int32)), .val .null, .unset] [(.int (0 : Int32)), (.ref x0)])) rfl rfl (hb hby d0_23)
  have Fw12 := f13.same W12
  have N12 := Fr.snoc X12 N6 (by omega)
  have sz15 := own_wr_le W12
  have K15 := K9.wr W12 (Or.inl (by simp))
  have O15 := O9.wr W12 (by omega)
  have f16 : Safe Z consts_1 T2.vm h6 x0 := (Safe.wr W6 f4 R2.1 f4)
  have R15 := CHr.wr W12 f16 CH9
  have CH15 := R15.1
  have RR15 := RR9.trans R15
  refine OwnEnd.of (S' := T12.setTop (mkF m 26 #[.val (.ref x0), .val (.ref b), .val (.int (0 : Int32)), .val (.int (0 : Int32)), .val .null, .unset] [])) st12 ?_
  have f17 : Exa Z h12 x0 "java/lang/String" := (f14.wr W12)
  have f18 : Fld Z h12 x0 "java/lang/String" "value" "[B" (.ref b2) := (Fw6.other W12 (Or.inr (slot_ne (Or.inr (own_w G 21 rfl)) (Or.inr (own_w G 22 rfl)) (by decide) (t := (.array .byte)) (t' := .byte) (by decide) (by decide))))
  have f19 : Arv Z h12 b2 c2 .byte (0 : Int32) [] (.int (0 : Int32)) := ((Av2.other W6 (own_ne (by omega))).other W12 (own_ne (by omega)))
  refine OwnEnd.retC hh (own_EW G) hZ2 X12 Si2 (by omega) (v := none) (fun _ => rfl) hlk (fun fs hr => X12.returnOut hx Bd.returns (hb hby d0_26) hr) (by decide) (by decide) (Q := Qn4e Z x0 b c0 h0 n0) e12 RR15 ?_
  exact ⟨b2, c2, rfl, N12, K15, f17, f18, Fw12, f19⟩

theorem own_efn1e (m : MethodId) (x0 : Addr) (b : Addr) : entryFrame m #[(.ref x0), (.ref b)] 2 = mkF m 0 #[.val (.ref x0), .val (.ref b)] [] := by first | (simp [entryFrame, mkF, argsToLocals, Value.category]; done) | rfl
def Qn1e (Z : State) (x0 : Addr) (b : Addr) (c0 : Value) (kC : ClassId) (vs : List Value) (dv : Value) (h0 : Heap) (n0 : Nat) (v : Option Value) (h : Heap) (L : List Loc) : Prop := ∃ (t : Addr) (kb : ClassId), v = none ∧ Fr n0 L ∧ Keep h0 h [x0] ∧ (Exa Z h x0 "java/lang/String") ∧ (Fld Z h x0 "java/lang/String" "value" "[B" (.ref t)) ∧ (Fld Z h x0 "java/lang/String" "coder" "B" (.int (0 : Int32))) ∧ (Arv Z h t kb .byte (0 : Int32) [] (.int (0 : Int32)))
set_option maxRecDepth 65536 in
set_option maxHeartbeats 40000000 in
theorem rmn1e (l : Launch) (Z : State) (a0 : Array Value) (G : OwnG Z a0) (ws : List Jvm.Cond) (x0 : Addr) (b : Addr) (c0 : Value) (kC : ClassId) (vs : List Value) (dv : Value) (h0 : Heap) (n0 : Nat) (O0 : Old Z n0 h0) (P0 : Exa Z h0 x0 "java/lang/String") (P1 : Fld Z h0 x0 "java/lang/String" "value" "[B" .null) (P2 : Fld Z h0 x0 "java/lang/String" "coder" "B" c0) (P3 : Arv Z h0 b kC .char (0 : Int32) vs dv) (P4 : n0 ≤ x0) :
    MetFree l own_m1 (head1 (Jvm.Cond.code own_m1 jdk_42_method_3_code 2 none :: ws) ({ frames := 2, cells := 2, slots := 4, locals := 29 } : Room)) (fun a U => a = #[(.ref x0), (.ref b)] ∧ Z.Warmed39 U.vm ∧ U.heap = h0 ∧ CHv Z consts_1 U.vm h0) (fun _ _ _ _ _ => True) (fun _ U o U' => ∃ v L, o = .returned v ∧ Qn1e Z x0 b c0 kC vs dv h0 n0 v U'.heap L ∧ CHr Z consts_1 U.vm U.heap U'.vm U'.heap ∧ ReturnedEndW U o U' L ({ frames := 2, cells := 2, slots := 4, locals := 29 } : Room).cells ({ frames := 2, cells := 2, slots := 4, locals := 29 } : Room).slots) := by
  refine MetFree.of_bodySF (plainFor_of_name pn_0) hisR ?_
  intro p e s m args below meth cD s₁ Bd hml0 hP hK
  obtain ⟨rfl, hZ, hh, hCH⟩ := hP
  have hw := G.1
  have hx := Bd.exec
  have hby := Bd.bytes
  have hml : cD.maxLocals = 2 := hml0
  have hown : s.vm.findClass "java/lang/String" = some m.cls := findClass_of_methodNamed Bd.named
  have hnm := (name_of_methodNamed Bd.named Bd.method).1
  have hlk := Bd.notSynchronized
  have X0 : Stand p l e ({ frames := 2, cells := 2, slots := 4, locals := 29 } : Room) s m #[(.ref x0), (.ref b)] below meth cD s₁ [] 0 0 := Stand.of_body Bd
  have e0 : s₁.heap = h0 := by rw [← hh, Bd.state]; rfl
  have lt0 := own_ltN' P0.lt
  have lt1 := own_ltN' P1.lt
  have lt2 := own_ltN' P2.lt
  have lt3 := own_ltN' P3.lt
  have K0 : Keep h0 h0 [x0] := Keep.refl h0 _
  have Z0 := own_old_le O0
  have N0 := Fr.nil n0
  have X0w : Stand p l e ({ frames := 2, cells := 2, slots := 4, locals := 29 } : Room) (s.setVm s.vm) m #[(.ref x0), (.ref b)] below meth cD s₁ [] 0 0 := X0
  have Si0 : s.Since s.vm (Array.size h0) := (State.WarmedH.refl s).since _
  have RR0 : CHr Z consts_1 s.vm h0 s.vm h0 := CHr.refl hCH
  refine OwnEnd.start (g' := (mkF m 0 #[.val (.ref x0), .val (.ref b)] [])) (own_efn1e m x0 b) ?_
  have Sf0 : Safe Z consts_1 s.vm h0 x0 := own_safe_null hZ.alike P0 P1
  refine OwnEnd.of (S' := s₁.setTop (mkF m 4 #[.val (.ref x0), .val (.ref b)] [(.ref b), (.int (0 : Int32)), (.ref b), (.ref x0)])) (fun _ kK => XS.aloadN X0w.here hx rfl (hb hby d1_0) rfl rfl (XS.aloadN X0w.here hx rfl (hb hby d1_1) rfl rfl (XS.iconst X0w.here hx rfl (hb hby d1_2) (XS.aloadN X0w.here hx rfl (hb hby d1_3) rfl rfl kK)))) ?_
  obtain ⟨cl1, Ar1, q1, S1, N1', H1, G1⟩ := id P3
  refine OwnEnd.of (S' := s₁.setTop (mkF m 5 #[.val (.ref x0), .val (.ref b)] [(.int (0 : Int32)), (.int (0 : Int32)), (.ref b), (.ref x0)])) (fun _ kK => X0w.arraylength hx (by rw [e0]; exact Ar1.1) (State.isArrayOf_alike hZ.alike Ar1.2.1) (g := (mkF m 4 #[.val (.ref x0), .val (.ref b)] [(.ref b), (.int (0 : Int32)), (.ref b), (.ref x0)])) rfl rfl (hb hby d1_4) _ (by rw [len_of S1 N1']; exact kK)) ?_
  refine OwnEnd.of (S' := s₁.setTop (mkF m 6 #[.val (.ref x0), .val (.ref b)] [.null, (.int (0 : Int32)), (.int (0 : Int32)), (.ref b), (.ref x0)])) (fun _ kK => XS.aconstNull X0w.here hx rfl (hb hby d1_5) kK) ?_
  obtain ⟨_, _, ⟨T2, L2, k2, n2⟩, -, X2', Si2, gr2, ⟨Lc2, hQ2, l2, y2, z2, CH2⟩, st2⟩ := Jvm.Stand.specialBackS X0w hx (y := own_m0) rfl hown (mvT hZ (own_w G 12 rfl)) (mvT hZ (own_w G 13 rfl)) (mvT hZ (own_w G 15 rfl)) (by decide) (backOfSH (W := 0) (rmn4e l Z a0 G [] x0 b c0 h0 n0 O0 P0 P1 P2 (by omega)) hZ (own_w G 15 rfl) (own_w G 3 rfl) (by decide) (by decide) (own_EW G) hCH) (g := (mkF m 6 #[.val (.ref x0), .val (.ref b)] [.null, (.int (0 : Int32)), (.int (0 : Int32)), (.ref b), (.ref x0)])) rfl (by rw [hml]; rfl) (Steps.refl _) (a := x0) (argsL := [(.ref b), (.int (0 : Int32)), (.int (0 : Int32)), .null]) (rest := []) (lenOf pd_0 rfl) rfl (by show 2 * 0 + _ ≤ _; exact Nat.le_of_eq rfl) (hb hby d1_6) (fun _ _ => ⟨rfl, e0, (by decide : 0 + 2 ≤ _), (by decide : 0 + 4 ≤ _)⟩)
  dsimp only [Pt.U, Pt.locs, Pt.cells, Pt.slots] at X2' l2 y2 z2 st2 hQ2 CH2 Si2 gr2
  subst l2 y2 z2
  obtain ⟨X2, Sj2, hZ2, hown2⟩ := rebS (n1 := Array.size h0) Si0 (by omega) X2' Si2 (by rw [e0] at gr2; omega) hZ hown
  obtain ⟨t_2, kb_2, rfl, N2q, Kq2, r2_0, r2_1, r2_2, r2_3⟩ := hQ2
  have N2 := Fr.app N0 N2q
  have sz3 := Kq2.1
  have K3 := K0.trans Kq2 (own_all1 (Or.inl (by simp)))
  have O3 := O0.keep Kq2 (own_all1 (by omega))
  have RR2' := RR0.trans CH2
  have ltr2_0 := own_ltN' r2_0.lt
  have ltr2_1 := own_ltN' r2_1.lt
  have ltr2_2 := own_ltN' r2_2.lt
  have ltr2_3 := own_ltN' r2_3.lt
  refine OwnEnd.tr (S' := T2.setTop (mkF m 9 #[.val (.ref x0), .val (.ref b)] [])) st2 ?_
  refine OwnEnd.retC hh (own_EW G) hZ2 X2 Sj2 (by omega) (v := none) (fun _ => rfl) hlk (fun fs hr => X2.returnOut hx Bd.returns (hb hby d1_9) hr) (by decide) (by decide) (Q := Qn1e Z x0 b c0 kC vs dv h0 n0) rfl RR2' ?_
  exact ⟨t_2, kb_2, rfl, N2, K3, r2_0, r2_1, r2_2, r2_3⟩

theorem own_efck (m : MethodId) (i : Int32) (n : Int32) (v2 : Value) (hv2 : v2.isRef = true) : entryFrame m #[(.int i), (.int n), v2] 3 = mkF m 0 #[.val (.int i), .val (.int n), .val v2] [] := by
  rcases ref_cases hv2 with rfl | ⟨_, rfl⟩ <;>
  first | (simp [entryFrame, mkF, argsToLocals, Value.category]; done) | rfl
def Qck (Z : State) (i : Int32) (n : Int32) (v2 : Value) (h0 : Heap) (n0 : Nat) (v : Option Value) (h : Heap) (L : List Loc) : Prop := v = some (.int i) ∧ Fr n0 L ∧ h = h0
set_option maxRecDepth 65536 in
set_option maxHeartbeats 40000000 in
theorem rmck (l : Launch) (Z : State) (a0 : Array Value) (G : OwnG Z a0) (ws : List Jvm.Cond) (i : Int32) (n : Int32) (v2 : Value) (h0 : Heap) (n0 : Nat) (O0 : Old Z n0 h0) (P0 : ¬ i < (0 : Int32)) (P1 : i < n) (P2 : v2.isRef = true) :
    MetFree l own_m2 (head1 (Jvm.Cond.code own_m2 jdk_41_method_11_code 3 (some .int) :: ws) ({ frames := 0, cells := 0, slots := 0, locals := 0 } : Room)) (fun a U => a = #[(.int i), (.int n), v2] ∧ Z.Warmed39 U.vm ∧ U.heap = h0) (fun _ _ _ _ _ => True) (fun _ U o U' => ∃ v L, o = .returned v ∧ Qck Z i n v2 h0 n0 v U'.heap L ∧ FrameEnd U o U' L ({ frames := 0, cells := 0, slots := 0, locals := 0 } : Room).cells ({ frames := 0, cells := 0, slots := 0, locals := 0 } : Room).slots) := by
  refine MetFree.of_bodySF (plainFor_of_name pn_1) hisR ?_
  intro p e s m args below meth cD s₁ Bd hml0 hP hK
  obtain ⟨rfl, hZ, hh⟩ := hP
  have hw := G.1
  have hx := Bd.exec
  have hby := Bd.bytes
  have hml : cD.maxLocals = 3 := hml0
  have hown : s.vm.findClass "jdk/internal/util/Preconditions" = some m.cls := findClass_of_methodNamed Bd.named
  have hnm := (name_of_methodNamed Bd.named Bd.method).1
  have hlk := Bd.notSynchronized
  have X0 : Stand p l e ({ frames := 0, cells := 0, slots := 0, locals := 0 } : Room) s m #[(.int i), (.int n), v2] below meth cD s₁ [] 0 0 := Stand.of_body Bd
  have e0 : s₁.heap = h0 := by rw [← hh, Bd.state]; rfl
  have K0 : Keep h0 h0 [] := Keep.refl h0 _
  have Z0 := own_old_le O0
  have N0 := Fr.nil n0
  refine OwnEnd.start (g' := (mkF m 0 #[.val (.int i), .val (.int n), .val v2] [])) (own_efck m i n v2 P2) ?_
  refine OwnEnd.of (S' := s₁.setTop (mkF m 17 #[.val (.int i), .val (.int n), .val v2] [(.int i)])) (fun _ kK => XS.iloadN X0.here hx rfl (hb hby d2_0) rfl (XS.ifNo X0.here hx rfl (hb hby d2_1) rfl ((if0 _ _).trans (flt (P0)).1) (XS.iloadN X0.here hx rfl (hb hby d2_4) rfl (XS.iloadN X0.here hx rfl (hb hby d2_5) rfl (XS.icmpYes X0.here hx rfl (pc0 := 6) (pc' := 16) rfl (hb hby d2_6) rfl (tlt (P1)).1 (by decide) (by decide) (XS.iloadN X0.here hx rfl (hb hby d2_16) rfl kK)))))) ?_
  refine OwnEnd.ret X0 (v := (some (.int i))) (fun h => by rw [Bd.returns] at h; cases h) hlk (fun fs hr => retOut X0 hx Bd.returns rfl (Or.inl ⟨rfl, Or.inl rfl, _, rfl⟩) (hb hby d2_17) hr) (by decide) (by decide) (Q := Qck Z i n v2 h0 n0) e0 ?_
  exact ⟨rfl, N0, rfl⟩

theorem own_efsk (m : MethodId) (i : Int32) (n : Int32) : entryFrame m #[(.int i), (.int n)] 2 = mkF m 0 #[.val (.int i), .val (.int n)] [] := by first | (simp [entryFrame, mkF, argsToLocals, Value.category]; done) | rfl
def Qsk (Z : State) (i : Int32) (n : Int32) (h0 : Heap) (n0 : Nat) (v : Option Value) (h : Heap) (L : List Loc) : Prop := v = none ∧ Fr n0 L ∧ h = h0
set_option maxRecDepth 65536 in
set_option maxHeartbeats 40000000 in
theorem rmsk (l : Launch) (Z : State) (a0 : Array Value) (G : OwnG Z a0) (ws : List Jvm.Cond) (i : Int32) (n : Int32) (h0 : Heap) (n0 : Nat) (O0 : Old Z n0 h0) (P0 : ¬ i < (0 : Int32)) (P1 : i < n) :
    MetFree l own_m3 (head1 (Jvm.Cond.code own_m3 jdk_42_method_155_code 2 none :: ws) ({ frames := 1, cells := 0, slots := 0, locals := 14 } : Room)) (fun a U => a = #[(.int i), (.int n)] ∧ Z.Warmed39 U.vm ∧ U.heap = h0) (fun _ _ _ _ _ => True) (fun _ U o U' => ∃ v L, o = .returned v ∧ Qsk Z i n h0 n0 v U'.heap L ∧ FrameEnd U o U' L ({ frames := 1, cells := 0, slots := 0, locals := 14 } : Room).cells ({ frames := 1, cells := 0, slots := 0, locals := 14 } : Room).slots) := by
  refine MetFree.of_bodySF (plainFor_of_name pn_0) hisR ?_
  intro p e s m args below meth cD s₁ Bd hml0 hP hK
  obtain ⟨rfl, hZ, hh⟩ := hP
  have hw := G.1
  have hx := Bd.exec
  have hby := Bd.bytes
  have hml : cD.maxLocals = 2 := hml0
  have hown : s.vm.findClass "java/lang/String" = some m.cls := findClass_of_methodNamed Bd.named
  have hnm := (name_of_methodNamed Bd.named Bd.method).1
  have hlk := Bd.notSynchronized
  have X0 : Stand p l e ({ frames := 1, cells := 0, slots := 0, locals := 14 } : Room) s m #[(.int i), (.int n)] below meth cD s₁ [] 0 0 := Stand.of_body Bd
  have e0 : s₁.heap = h0 := by rw [← hh, Bd.state]; rfl
  have K0 : Keep h0 h0 [] := Keep.refl h0 _
  have Z0 := own_old_le O0
  have N0 := Fr.nil n0
  obtain ⟨vFM, SFM, PFM⟩ := own_fm G
  refine OwnEnd.start (g' := (mkF m 0 #[.val (.int i), .val (.int n)] [])) (own_efsk m i n) ?_
  refine OwnEnd.of (S' := s₁.setTop (mkF m 2 #[.val (.int i), .val (.int n)] [(.int n), (.int i)])) (fun _ kK => XS.iloadN X0.here hx rfl (hb hby d3_0) rfl (XS.iloadN X0.here hx rfl (hb hby d3_1) rfl kK)) ?_
  obtain ⟨T1, X1, e1, st1⟩ := getS2 X0 hx hZ hown (host := "") (Or.inl (own_w G 77 rfl)) Via.refl e0 (SFM.ext O0.2) (g := (mkF m 2 #[.val (.int i), .val (.int n)] [(.int n), (.int i)])) rfl (hb hby d3_2)
  refine OwnEnd.of (S' := T1.setTop (mkF m 5 #[.val (.int i), .val (.int n)] [vFM, (.int n), (.int i)])) st1 ?_
  obtain ⟨_, _, ⟨T2, L2, k2, n2⟩, -, X2, ⟨Lc2, hQ2, l2, y2, z2⟩, st2⟩ := Jvm.LawKit.callS X1 hx (y := own_m2) hown (mvT hZ (own_w G 79 rfl)) (mvT hZ (own_w G 80 rfl)) (mvT hZ (own_w G 78 rfl)) (mvT hZ (own_w G 81 rfl)) (by decide) (backOf (W := 0) (rmck l Z a0 G [] i n vFM h0 n0 O0 P0 P1 (PFM : vFM.isRef = true)) hZ (own_w G 81 rfl) (own_w G 78 rfl) (by decide) (by decide)) (g := (mkF m 5 #[.val (.int i), .val (.int n)] [vFM, (.int n), (.int i)])) rfl (by rw [hml]; rfl) (argsL := [(.int i), (.int n), vFM]) (rest := []) (lenOf pd_1 rfl) rfl (by show 2 * 0 + _ ≤ _; exact Nat.le_of_eq rfl) (hb hby d3_5) (fun _ _ => ⟨rfl, e1, (by decide : 0 + 0 ≤ _), (by decide : 0 + 0 ≤ _)⟩)
  dsimp only [Pt.U, Pt.locs, Pt.cells, Pt.slots] at X2 l2 y2 z2 st2 hQ2
  subst l2 y2 z2
  obtain ⟨rfl, N2q, eh2⟩ := hQ2
  have N2 := Fr.app N0 N2q
  refine OwnEnd.of (S' := T2.setTop (mkF m 8 #[.val (.int i), .val (.int n)] [(.int i)])) st2 ?_
  refine OwnEnd.of (S' := T2.setTop (mkF m 9 #[.val (.int i), .val (.int n)] [])) (fun _ kK => XS.pop X2.here hx rfl (hb hby d3_8) rfl rfl kK) ?_
  refine OwnEnd.ret X2 (v := none) (fun _ => rfl) hlk (fun fs hr => X2.returnOut hx Bd.returns (hb hby d3_9) hr) (by decide) (by decide) (Q := Qsk Z i n h0 n0) eh2 ?_
  exact ⟨rfl, N2, rfl⟩

theorem own_efil0 (m : MethodId) (x0 : Addr) : entryFrame m #[(.ref x0)] 1 = mkF m 0 #[.val (.ref x0)] [] := by first | (simp [entryFrame, mkF, argsToLocals, Value.category]; done) | rfl
set_option maxRecDepth 65536 in
set_option maxHeartbeats 40000000 in
theorem rmil0 (l : Launch) (Z : State) (a0 : Array Value) (G : OwnG Z a0) (ws : List Jvm.Cond) (x0 : Addr) (h0 : Heap) (n0 : Nat) (O0 : Old Z n0 h0) (P0 : Fld Z h0 x0 "java/lang/String" "coder" "B" (.int (0 : Int32))) :
    MetFree l own_m4 (head1 (Jvm.Cond.code own_m4 jdk_42_method_154_code 1 (some .boolean) :: ws) ({ frames := 0, cells := 0, slots := 0, locals := 0 } : Room)) (fun a U => a = #[(.ref x0)] ∧ Z.Warmed39 U.vm ∧ U.heap = h0) (fun _ _ _ _ _ => True) (fun _ U o U' => ∃ v L, o = .returned v ∧ (own_Qint (1 : Int32)) h0 n0 v U'.heap L ∧ FrameEnd U o U' L ({ frames := 0, cells := 0, slots := 0, locals := 0 } : Room).cells ({ frames := 0, cells := 0, slots := 0, locals := 0 } : Room).slots) := by
  refine MetFree.of_bodySF (plainFor_of_name pn_0) hisR ?_
  intro p e s m args below meth cD s₁ Bd hml0 hP hK
  obtain ⟨rfl, hZ, hh⟩ := hP
  have hw := G.1
  have hx := Bd.exec
  have hby := Bd.bytes
  have hml : cD.maxLocals = 1 := hml0
  have hown : s.vm.findClass "java/lang/String" = some m.cls := findClass_of_methodNamed Bd.named
  have hnm := (name_of_methodNamed Bd.named Bd.method).1
  have hlk := Bd.notSynchronized
  have X0 : Stand p l e ({ frames := 0, cells := 0, slots := 0, locals := 0 } : Room) s m #[(.ref x0)] below meth cD s₁ [] 0 0 := Stand.of_body Bd
  have e0 : s₁.heap = h0 := by rw [← hh, Bd.state]; rfl
  have lt0 := own_ltN' P0.lt
  have K0 : Keep h0 h0 [] := Keep.refl h0 _
  have Z0 := own_old_le O0
  have N0 := Fr.nil n0
  obtain ⟨zCS, SCS, PCS⟩ := own_cs G
  refine OwnEnd.start (g' := (mkF m 0 #[.val (.ref x0)] [])) (own_efil0 m x0) ?_
  obtain ⟨T1, X1, e1, st1⟩ := getS2 X0 hx hZ hown (host := "") (Or.inl (own_w G 36 rfl)) Via.refl e0 (SCS.ext O0.2) (g := (mkF m 0 #[.val (.ref x0)] [])) rfl (hb hby d4_0)
  refine OwnEnd.of (S' := T1.setTop (mkF m 3 #[.val (.ref x0)] [(.int zCS)])) st1 ?_
  refine OwnEnd.of (S' := T1.setTop (mkF m 7 #[.val (.ref x0)] [(.ref x0)])) (fun _ kK => XS.ifNo X1.here hx rfl (hb hby d4_3) rfl ((if0 _ _).trans (feq (PCS)).1) (XS.aloadN X1.here hx rfl (hb hby d4_6) rfl rfl kK)) ?_
  obtain ⟨T2, X2, e2, st2⟩ := getF X1 hx hZ hown (host := "") (Or.inl (own_w G 26 rfl)) Via.refl e1 P0 (g := (mkF m 7 #[.val (.ref x0)] [(.ref x0)])) rfl rfl (hb hby d4_7)
  refine OwnEnd.of (S' := T2.setTop (mkF m 10 #[.val (.ref x0)] [(.int (0 : Int32))])) st2 ?_
  refine OwnEnd.of (S' := T2.setTop (mkF m 18 #[.val (.ref x0)] [(.int (1 : Int32))])) (fun _ kK => XS.ifNo X2.here hx rfl (hb hby d4_10) rfl ((if0 _ _).trans (teq ((by decide : (0 : Int32) = (0 : Int32)))).2) (XS.iconst X2.here hx rfl (hb hby d4_13) (XS.goto X2.here hx rfl (pc0 := 14) (pc' := 18) rfl (hb hby d4_14) (by decide) (by decide) kK))) ?_
  refine OwnEnd.ret X2 (v := (some (.int (nar .boolean (1 : Int32))))) (fun h => by rw [Bd.returns] at h; cases h) hlk (fun fs hr => retN X2 hx (t := .boolean) Bd.returns (by simp) (hb hby d4_18) hr) (by decide) (by decide) (Q := (own_Qint (1 : Int32)) h0 n0) e2 ?_
  exact ⟨rfl, N0, rfl⟩

theorem own_efcdr0 (m : MethodId) (x0 : Addr) : entryFrame m #[(.ref x0)] 1 = mkF m 0 #[.val (.ref x0)] [] := by first | (simp [entryFrame, mkF, argsToLocals, Value.category]; done) | rfl
set_option maxRecDepth 65536 in
set_option maxHeartbeats 40000000 in
theorem rmcdr0 (l : Launch) (Z : State) (a0 : Array Value) (G : OwnG Z a0) (ws : List Jvm.Cond) (x0 : Addr) (h0 : Heap) (n0 : Nat) (O0 : Old Z n0 h0) (P0 : Fld Z h0 x0 "java/lang/String" "coder" "B" (.int (0 : Int32))) :
    MetFree l own_m5 (head1 (Jvm.Cond.code own_m5 jdk_42_method_152_code 1 (some .byte) :: ws) ({ frames := 0, cells := 0, slots := 0, locals := 0 } : Room)) (fun a U => a = #[(.ref x0)] ∧ Z.Warmed39 U.vm ∧ U.heap = h0) (fun _ _ _ _ _ => True) (fun _ U o U' => ∃ v L, o = .returned v ∧ (own_Qint (0 : Int32)) h0 n0 v U'.heap L ∧ FrameEnd U o U' L ({ frames := 0, cells := 0, slots := 0, locals := 0 } : Room).cells ({ frames := 0, cells := 0, slots := 0, locals := 0 } : Room).slots) := by
  refine MetFree.of_bodySF (plainFor_of_name pn_0) hisR ?_
  intro p e s m args below meth cD s₁ Bd hml0 hP hK
  obtain ⟨rfl, hZ, hh⟩ := hP
  have hw := G.1
  have hx := Bd.exec
  have hby := Bd.bytes
  have hml : cD.maxLocals = 1 := hml0
  have hown : s.vm.findClass "java/lang/String" = some m.cls := findClass_of_methodNamed Bd.named
  have hnm := (name_of_methodNamed Bd.named Bd.method).1
  have hlk := Bd.notSynchronized
  have X0 : Stand p l e ({ frames := 0, cells := 0, slots := 0, locals := 0 } : Room) s m #[(.ref x0)] below meth cD s₁ [] 0 0 := Stand.of_body Bd
  have e0 : s₁.heap = h0 := by rw [← hh, Bd.state]; rfl
  have lt0 := own_ltN' P0.lt
  have K0 : Keep h0 h0 [] := Keep.refl h0 _
  have Z0 := own_old_le O0
  have N0 := Fr.nil n0
  obtain ⟨zCS, SCS, PCS⟩ := own_cs G
  refine OwnEnd.start (g' := (mkF m 0 #[.val (.ref x0)] [])) (own_efcdr0 m x0) ?_
  obtain ⟨T1, X1, e1, st1⟩ := getS2 X0 hx hZ hown (host := "") (Or.inl (own_w G 36 rfl)) Via.refl e0 (SCS.ext O0.2) (g := (mkF m 0 #[.val (.ref x0)] [])) rfl (hb hby d5_0)
  refine OwnEnd.of (S' := T1.setTop (mkF m 3 #[.val (.ref x0)] [(.int zCS)])) st1 ?_
  refine OwnEnd.of (S' := T1.setTop (mkF m 7 #[.val (.ref x0)] [(.ref x0)])) (fun _ kK => XS.ifNo X1.here hx rfl (hb hby d5_3) rfl ((if0 _ _).trans (feq (PCS)).1) (XS.aloadN X1.here hx rfl (hb hby d5_6) rfl rfl kK)) ?_
  obtain ⟨T2, X2, e2, st2⟩ := getF X1 hx hZ hown (host := "") (Or.inl (own_w G 26 rfl)) Via.refl e1 P0 (g := (mkF m 7 #[.val (.ref x0)] [(.ref x0)])) rfl rfl (hb hby d5_7)
  refine OwnEnd.of (S' := T2.setTop (mkF m 10 #[.val (.ref x0)] [(.int (0 : Int32))])) st2 ?_
  refine OwnEnd.of (S' := T2.setTop (mkF m 14 #[.val (.ref x0)] [(.int (0 : Int32))])) (fun _ kK => XS.goto X2.here hx rfl (pc0 := 10) (pc' := 14) rfl (hb hby d5_10) (by decide) (by decide) kK) ?_
  refine OwnEnd.ret X2 (v := (some (.int (nar .byte (0 : Int32))))) (fun h => by rw [Bd.returns] at h; cases h) hlk (fun fs hr => retN X2 hx (t := .byte) Bd.returns (by simp) (hb hby d5_14) hr) (by decide) (by decide) (Q := (own_Qint (0 : Int32)) h0 n0) e2 ?_
  exact ⟨rfl, N0, rfl⟩

theorem own_efil1 (m : MethodId) (x0 : Addr) : entryFrame m #[(.ref x0)] 1 = mkF m 0 #[.val (.ref x0)] [] := by first | (simp [entryFrame, mkF, argsToLocals, Value.category]; done) | rfl
set_option maxRecDepth 65536 in
set_option maxHeartbeats 40000000 in
theorem rmil1 (l : Launch) (Z : State) (a0 : Array Value) (G : OwnG Z a0) (ws : List Jvm.Cond) (x0 : Addr) (h0 : Heap) (n0 : Nat) (O0 : Old Z n0 h0) (P0 : Fld Z h0 x0 "java/lang/String" "coder" "B" (.int (1 : Int32))) :
    MetFree l own_m4 (head1 (Jvm.Cond.code own_m4 jdk_42_method_154_code 1 (some .boolean) :: ws) ({ frames := 0, cells := 0, slots := 0, locals := 0 } : Room)) (fun a U => a = #[(.ref x0)] ∧ Z.Warmed39 U.vm ∧ U.heap = h0) (fun _ _ _ _ _ => True) (fun _ U o U' => ∃ v L, o = .returned v ∧ (own_Qint (0 : Int32)) h0 n0 v U'.heap L ∧ FrameEnd U o U' L ({ frames := 0, cells := 0, slots := 0, locals := 0 } : Room).cells ({ frames := 0, cells := 0, slots := 0, locals := 0 } : Room).slots) := by
  refine MetFree.of_bodySF (plainFor_of_name pn_0) hisR ?_
  intro p e s m args below meth cD s₁ Bd hml0 hP hK
  obtain ⟨rfl, hZ, hh⟩ := hP
  have hw := G.1
  have hx := Bd.exec
  have hby := Bd.bytes
  have hml : cD.maxLocals = 1 := hml0
  have hown : s.vm.findClass "java/lang/String" = some m.cls := findClass_of_methodNamed Bd.named
  have hnm := (name_of_methodNamed Bd.named Bd.method).1
  have hlk := Bd.notSynchronized
  have X0 : Stand p l e ({ frames := 0, cells := 0, slots := 0, locals := 0 } : Room) s m #[(.ref x0)] below meth cD s₁ [] 0 0 := Stand.of_body Bd
  have e0 : s₁.heap = h0 := by rw [← hh, Bd.state]; rfl
  have lt0 := own_ltN' P0.lt
  have K0 : Keep h0 h0 [] := Keep.refl h0 _
  have Z0 := own_old_le O0
  have N0 := Fr.nil n0
  obtain ⟨zCS, SCS, PCS⟩ := own_cs G
  refine OwnEnd.start (g' := (mkF m 0 #[.val (.ref x0)] [])) (own_efil1 m x0) ?_
  obtain ⟨T1, X1, e1, st1⟩ := getS2 X0 hx hZ hown (host := "") (Or.inl (own_w G 36 rfl)) Via.refl e0 (SCS.ext O0.2) (g := (mkF m 0 #[.val (.ref x0)] [])) rfl (hb hby d4_0)
  refine OwnEnd.of (S' := T1.setTop (mkF m 3 #[.val (.ref x0)] [(.int zCS)])) st1 ?_
  refine OwnEnd.of (S' := T1.setTop (mkF m 7 #[.val (.ref x0)] [(.ref x0)])) (fun _ kK => XS.ifNo X1.here hx rfl (hb hby d4_3) rfl ((if0 _ _).trans (feq (PCS)).1) (XS.aloadN X1.here hx rfl (hb hby d4_6) rfl rfl kK)) ?_
  obtain ⟨T2, X2, e2, st2⟩ := getF X1 hx hZ hown (host := "") (Or.inl (own_w G 26 rfl)) Via.refl e1 P0 (g := (mkF m 7 #[.val (.ref x0)] [(.ref x0)])) rfl rfl (hb hby d4_7)
  refine OwnEnd.of (S' := T2.setTop (mkF m 10 #[.val (.ref x0)] [(.int (1 : Int32))])) st2 ?_
  refine OwnEnd.of (S' := T2.setTop (mkF m 18 #[.val (.ref x0)] [(.int (0 : Int32))])) (fun _ kK => XS.ifYes X2.here hx rfl (pc0 := 10) (pc' := 17) rfl (hb hby d4_10) rfl ((if0 _ _).trans (feq ((by decide : ¬ ((1 : Int32) = (0 : Int32))))).2) (by decide) (by decide) (XS.iconst X2.here hx rfl (hb hby d4_17) kK)) ?_
  refine OwnEnd.ret X2 (v := (some (.int (nar .boolean (0 : Int32))))) (fun h => by rw [Bd.returns] at h; cases h) hlk (fun fs hr => retN X2 hx (t := .boolean) Bd.returns (by simp) (hb hby d4_18) hr) (by decide) (by decide) (Q := (own_Qint (0 : Int32)) h0 n0) e2 ?_
  exact ⟨rfl, N0, rfl⟩

theorem own_efcdr1 (m : MethodId) (x0 : Addr) : entryFrame m #[(.ref x0)] 1 = mkF m 0 #[.val (.ref x0)] [] := by first | (simp [entryFrame, mkF, argsToLocals, Value.category]; done) | rfl
set_option maxRecDepth 65536 in
set_option maxHeartbeats 40000000 in
theorem rmcdr1 (l : Launch) (Z : State) (a0 : Array Value) (G : OwnG Z a0) (ws : List Jvm.Cond) (x0 : Addr) (h0 : Heap) (n0 : Nat) (O0 : Old Z n0 h0) (P0 : Fld Z h0 x0 "java/lang/String" "coder" "B" (.int (1 : Int32))) :
    MetFree l own_m5 (head1 (Jvm.Cond.code own_m5 jdk_42_method_152_code 1 (some .byte) :: ws) ({ frames := 0, cells := 0, slots := 0, locals := 0 } : Room)) (fun a U => a = #[(.ref x0)] ∧ Z.Warmed39 U.vm ∧ U.heap = h0) (fun _ _ _ _ _ => True) (fun _ U o U' => ∃ v L, o = .returned v ∧ (own_Qint (1 : Int32)) h0 n0 v U'.heap L ∧ FrameEnd U o U' L ({ frames := 0, cells := 0, slots := 0, locals := 0 } : Room).cells ({ frames := 0, cells := 0, slots := 0, locals := 0 } : Room).slots) := by
  refine MetFree.of_bodySF (plainFor_of_name pn_0) hisR ?_
  intro p e s m args below meth cD s₁ Bd hml0 hP hK
  obtain ⟨rfl, hZ, hh⟩ := hP
  have hw := G.1
  have hx := Bd.exec
  have hby := Bd.bytes
  have hml : cD.maxLocals = 1 := hml0
  have hown : s.vm.findClass "java/lang/String" = some m.cls := findClass_of_methodNamed Bd.named
  have hnm := (name_of_methodNamed Bd.named Bd.method).1
  have hlk := Bd.notSynchronized
  have X0 : Stand p l e ({ frames := 0, cells := 0, slots := 0, locals := 0 } : Room) s m #[(.ref x0)] below meth cD s₁ [] 0 0 := Stand.of_body Bd
  have e0 : s₁.heap = h0 := by rw [← hh, Bd.state]; rfl
  have lt0 := own_ltN' P0.lt
  have K0 : Keep h0 h0 [] := Keep.refl h0 _
  have Z0 := own_old_le O0
  have N0 := Fr.nil n0
  obtain ⟨zCS, SCS, PCS⟩ := own_cs G
  refine OwnEnd.start (g' := (mkF m 0 #[.val (.ref x0)] [])) (own_efcdr1 m x0) ?_
  obtain ⟨T1, X1, e1, st1⟩ := getS2 X0 hx hZ hown (host := "") (Or.inl (own_w G 36 rfl)) Via.refl e0 (SCS.ext O0.2) (g := (mkF m 0 #[.val (.ref x0)] [])) rfl (hb hby d5_0)
  refine OwnEnd.of (S' := T1.setTop (mkF m 3 #[.val (.ref x0)] [(.int zCS)])) st1 ?_
  refine OwnEnd.of (S' := T1.setTop (mkF m 7 #[.val (.ref x0)] [(.ref x0)])) (fun _ kK => XS.ifNo X1.here hx rfl (hb hby d5_3) rfl ((if0 _ _).trans (feq (PCS)).1) (XS.aloadN X1.here hx rfl (hb hby d5_6) rfl rfl kK)) ?_
  obtain ⟨T2, X2, e2, st2⟩ := getF X1 hx hZ hown (host := "") (Or.inl (own_w G 26 rfl)) Via.refl e1 P0 (g := (mkF m 7 #[.val (.ref x0)] [(.ref x0)])) rfl rfl (hb hby d5_7)
  refine OwnEnd.of (S' := T2.setTop (mkF m 10 #[.val (.ref x0)] [(.int (1 : Int32))])) st2 ?_
  refine OwnEnd.of (S' := T2.setTop (mkF m 14 #[.val (.ref x0)] [(.int (1 : Int32))])) (fun _ kK => XS.goto X2.here hx rfl (pc0 := 10) (pc' := 14) rfl (hb hby d5_10) (by decide) (by decide) kK) ?_
  refine OwnEnd.ret X2 (v := (some (.int (nar .byte (1 : Int32))))) (fun h => by rw [Bd.returns] at h; cases h) hlk (fun fs hr => retN X2 hx (t := .byte) Bd.returns (by simp) (hb hby d5_14) hr) (by decide) (by decide) (Q := (own_Qint (1 : Int32)) h0 n0) e2 ?_
  exact ⟨rfl, N0, rfl⟩

theorem own_efln1 (m : MethodId) (x0 : Addr) : entryFrame m #[(.ref x0)] 1 = mkF m 0 #[.val (.ref x0)] [] := by first | (simp [entryFrame, mkF, argsToLocals, Value.category]; done) | rfl
set_option maxRecDepth 65536 in
set_option maxHeartbeats 40000000 in
theorem rmln1 (l : Launch) (Z : State) (a0 : Array Value) (G : OwnG Z a0) (ws : List Jvm.Cond) (x0 : Addr) (t : Addr) (kb : ClassId) (N : Int32) (vs : List Value) (dv : Value) (M : Int32) (h0 : Heap) (n0 : Nat) (O0 : Old Z n0 h0) (P0 : Exa Z h0 x0 "java/lang/String") (P1 : Fld Z h0 x0 "java/lang/String" "value" "[B" (.ref t)) (P2 : Fld Z h0 x0 "java/lang/String" "coder" "B" (.int (1 : Int32))) (P3 : Arv Z h0 t kb .byte N vs dv) (P4 : N >>> ((1 : Int32) &&& 31) = M) :
    MetFree l own_m6 (head1 (Jvm.Cond.code own_m6 jdk_42_method_54_code 1 (some .int) :: ws) ({ frames := 1, cells := 0, slots := 0, locals := 13 } : Room)) (fun a U => a = #[(.ref x0)] ∧ Z.Warmed39 U.vm ∧ U.heap = h0) (fun _ _ _ _ _ => True) (fun _ U o U' => ∃ v L, o = .returned v ∧ (own_Qint M) h0 n0 v U'.heap L ∧ FrameEnd U o U' L ({ frames := 1, cells := 0, slots := 0, locals := 13 } : Room).cells ({ frames := 1, cells := 0, slots := 0, locals := 13 } : Room).slots) := by
  refine MetFree.of_bodySF (plainFor_of_name pn_0) hisR ?_
  intro p e s m args below meth cD s₁ Bd hml0 hP hK
  obtain ⟨rfl, hZ, hh⟩ := hP
  have hw := G.1
  have hx := Bd.exec
  have hby := Bd.bytes
  have hml : cD.maxLocals = 1 := hml0
  have hown : s.vm.findClass "java/lang/String" = some m.cls := findClass_of_methodNamed Bd.named
  have hnm := (name_of_methodNamed Bd.named Bd.method).1
  have hlk := Bd.notSynchronized
  have X0 : Stand p l e ({ frames := 1, cells := 0, slots := 0, locals := 13 } : Room) s m #[(.ref x0)] below meth cD s₁ [] 0 0 := Stand.of_body Bd
  have e0 : s₁.heap = h0 := by rw [← hh, Bd.state]; rfl
  have lt0 := own_ltN' P0.lt
  have lt1 := own_ltN' P1.lt
  have lt2 := own_ltN' P2.lt
  have lt3 := own_ltN' P3.lt
  have K0 : Keep h0 h0 [] := Keep.refl h0 _
  have Z0 := own_old_le O0
  have N0 := Fr.nil n0
  refine OwnEnd.start (g' := (mkF m 0 #[.val (.ref x0)] [])) (own_efln1 m x0) ?_
  refine OwnEnd.of (S' := s₁.setTop (mkF m 1 #[.val (.ref x0)] [(.ref x0)])) (fun _ kK => XS.aloadN X0.here hx rfl (hb hby d6_0) rfl rfl kK) ?_
  obtain ⟨T1, X1, e1, st1⟩ := getF X0 hx hZ hown (host := "") (Or.inl (own_w G 25 rfl)) Via.refl e0 P1 (g := (mkF m 1 #[.val (.ref x0)] [(.ref x0)])) rfl rfl (hb hby d6_1)
  refine OwnEnd.of (S' := T1.setTop (mkF m 4 #[.val (.ref x0)] [(.ref t)])) st1 ?_
  obtain ⟨cl2, Ar2, q2, S2, N2', H2, G2⟩ := id P3
  refine OwnEnd.of (S' := T1.setTop (mkF m 5 #[.val (.ref x0)] [(.int N)])) (fun _ kK => X1.arraylength hx (by rw [e1]; exact Ar2.1) (State.isArrayOf_alike hZ.alike Ar2.2.1) (g := (mkF m 4 #[.val (.ref x0)] [(.ref t)])) rfl rfl (hb hby d6_4) _ (by rw [len_of S2 N2']; exact kK)) ?_
  refine OwnEnd.of (S' := T1.setTop (mkF m 6 #[.val (.ref x0)] [(.ref x0), (.int N)])) (fun _ kK => XS.aloadN X1.here hx rfl (hb hby d6_5) rfl rfl kK) ?_
  obtain ⟨cq3, kq3, q3a, q3b, q3c⟩ := isOf hZ e1 P0
  obtain ⟨_, _, ⟨T3, L3, k3, n3⟩, -, X3, ⟨Lc3, hQ3, l3, y3, z3⟩, st3⟩ := X1.virtualBack hx (y := own_m5) (z := own_m5) hown (mvT hZ (own_w G 55 rfl)) (mvT hZ (own_w G 56 rfl)) (notFace_of_selects (args := #[]) (mvT hZ (own_w G 58 rfl))) (mvT hZ (own_w G 58 rfl)) (mvT hZ (own_w G 57 rfl)) (by decide) (backOf (W := 1) (rmcdr1 l Z a0 G [] x0 h0 n0 O0 P2) hZ (own_w G 59 rfl) (own_w G 3 rfl) (by decide) (by decide)) q3a q3c (g := (mkF m 6 #[.val (.ref x0)] [(.ref x0), (.int N)])) rfl (by rw [hml]; rfl) (Steps.refl _) (argsL := []) (rest := [(.int N)]) (lenOf pd_2 rfl) rfl (by show 2 * 0 + _ ≤ _; exact Nat.le_of_eq rfl) (hb hby d6_6) (fun _ _ => ⟨rfl, e1, (by decide : 0 + 0 ≤ _), (by decide : 0 + 0 ≤ _)⟩)
  dsimp only [Pt.U, Pt.locs, Pt.cells, Pt.slots] at X3 l3 y3 z3 st3 hQ3
  subst l3 y3 z3
  obtain ⟨rfl, N3q, eh3⟩ := hQ3
  have N3 := Fr.app N0 N3q
  refine OwnEnd.tr (S' := T3.setTop (mkF m 9 #[.val (.ref x0)] [(.int (1 : Int32)), (.int N)])) st3 ?_
  refine OwnEnd.of (S' := T3.setTop (mkF m 10 #[.val (.ref x0)] [(.int (N >>> ((1 : Int32) &&& 31)))])) (fun _ kK => XS.ishr X3.here hx rfl (hb hby d6_9) rfl kK) ?_
  refine OwnEnd.ret X3 (v := (some (.int (N >>> ((1 : Int32) &&& 31))))) (fun h => by rw [Bd.returns] at h; cases h) hlk (fun fs hr => retOut X3 hx Bd.returns rfl (Or.inl ⟨rfl, Or.inl rfl, _, rfl⟩) (hb hby d6_10) hr) (by decide) (by decide) (Q := (own_Qint M) h0 n0) eh3 ?_
  exact ⟨(congrArg (fun z => some (Value.int z)) P4), N3, rfl⟩

theorem own_efln0 (m : MethodId) (x0 : Addr) : entryFrame m #[(.ref x0)] 1 = mkF m 0 #[.val (.ref x0)] [] := by first | (simp [entryFrame, mkF, argsToLocals, Value.category]; done) | rfl
set_option maxRecDepth 65536 in
set_option maxHeartbeats 40000000 in
theorem rmln0 (l : Launch) (Z : State) (a0 : Array Value) (G : OwnG Z a0) (ws : List Jvm.Cond) (x0 : Addr) (t : Addr) (kb : ClassId) (N : Int32) (vs : List Value) (dv : Value) (M : Int32) (h0 : Heap) (n0 : Nat) (O0 : Old Z n0 h0) (P0 : Exa Z h0 x0 "java/lang/String") (P1 : Fld Z h0 x0 "java/lang/String" "value" "[B" (.ref t)) (P2 : Fld Z h0 x0 "java/lang/String" "coder" "B" (.int (0 : Int32))) (P3 : Arv Z h0 t kb .byte N vs dv) (P4 : N >>> ((0 : Int32) &&& 31) = M) :
    MetFree l own_m6 (head1 (Jvm.Cond.code own_m6 jdk_42_method_54_code 1 (some .int) :: ws) ({ frames := 1, cells := 0, slots := 0, locals := 13 } : Room)) (fun a U => a = #[(.ref x0)] ∧ Z.Warmed39 U.vm ∧ U.heap = h0) (fun _ _ _ _ _ => True) (fun _ U o U' => ∃ v L, o = .returned v ∧ (own_Qint M) h0 n0 v U'.heap L ∧ FrameEnd U o U' L ({ frames := 1, cells := 0, slots := 0, locals := 13 } : Room).cells ({ frames := 1, cells := 0, slots := 0, locals := 13 } : Room).slots) := by
  refine MetFree.of_bodySF (plainFor_of_name pn_0) hisR ?_
  intro p e s m args below meth cD s₁ Bd hml0 hP hK
  obtain ⟨rfl, hZ, hh⟩ := hP
  have hw := G.1
  have hx := Bd.exec
  have hby := Bd.bytes
  have hml : cD.maxLocals = 1 := hml0
  have hown : s.vm.findClass "java/lang/String" = some m.cls := findClass_of_methodNamed Bd.named
  have hnm := (name_of_methodNamed Bd.named Bd.method).1
  have hlk := Bd.notSynchronized
  have X0 : Stand p l e ({ frames := 1, cells := 0, slots := 0, locals := 13 } : Room) s m #[(.ref x0)] below meth cD s₁ [] 0 0 := Stand.of_body Bd
  have e0 : s₁.heap = h0 := by rw [← hh, Bd.state]; rfl
  have lt0 := own_ltN' P0.lt
  have lt1 := own_ltN' P1.lt
  have lt2 := own_ltN' P2.lt
  have lt3 := own_ltN' P3.lt
  have K0 : Keep h0 h0 [] := Keep.refl h0 _
  have Z0 := own_old_le O0
  have N0 := Fr.nil n0
  refine OwnEnd.start (g' := (mkF m 0 #[.val (.ref x0)] [])) (own_efln0 m x0) ?_
  refine OwnEnd.of (S' := s₁.setTop (mkF m 1 #[.val (.ref x0)] [(.ref x0)])) (fun _ kK => XS.aloadN X0.here hx rfl (hb hby d6_0) rfl rfl kK) ?_
  obtain ⟨T1, X1, e1, st1⟩ := getF X0 hx hZ hown (host := "") (Or.inl (own_w G 25 rfl)) Via.refl e0 P1 (g := (mkF m 1 #[.val (.ref x0)] [(.ref x0)])) rfl rfl (hb hby d6_1)
  refine OwnEnd.of (S' := T1.setTop (mkF m 4 #[.val (.ref x0)] [(.ref t)])) st1 ?_
  obtain ⟨cl2, Ar2, q2, S2, N2', H2, G2⟩ := id P3
  refine OwnEnd.of (S' := T1.setTop (mkF m 5 #[.val (.ref x0)] [(.int N)])) (fun _ kK => X1.arraylength hx (by rw [e1]; exact Ar2.1) (State.isArrayOf_alike hZ.alike Ar2.2.1) (g := (mkF m 4 #[.val (.ref x0)] [(.ref t)])) rfl rfl (hb hby d6_4) _ (by rw [len_of S2 N2']; exact kK)) ?_
  refine OwnEnd.of (S' := T1.setTop (mkF m 6 #[.val (.ref x0)] [(.ref x0), (.int N)])) (fun _ kK => XS.aloadN X1.here hx rfl (hb hby d6_5) rfl rfl kK) ?_
  obtain ⟨cq3, kq3, q3a, q3b, q3c⟩ := isOf hZ e1 P0
  obtain ⟨_, _, ⟨T3, L3, k3, n3⟩, -, X3, ⟨Lc3, hQ3, l3, y3, z3⟩, st3⟩ := X1.virtualBack hx (y := own_m5) (z := own_m5) hown (mvT hZ (own_w G 55 rfl)) (mvT hZ (own_w G 56 rfl)) (notFace_of_selects (args := #[]) (mvT hZ (own_w G 58 rfl))) (mvT hZ (own_w G 58 rfl)) (mvT hZ (own_w G 57 rfl)) (by decide) (backOf (W := 1) (rmcdr0 l Z a0 G [] x0 h0 n0 O0 P2) hZ (own_w G 59 rfl) (own_w G 3 rfl) (by decide) (by decide)) q3a q3c (g := (mkF m 6 #[.val (.ref x0)] [(.ref x0), (.int N)])) rfl (by rw [hml]; rfl) (Steps.refl _) (argsL := []) (rest := [(.int N)]) (lenOf pd_2 rfl) rfl (by show 2 * 0 + _ ≤ _; exact Nat.le_of_eq rfl) (hb hby d6_6) (fun _ _ => ⟨rfl, e1, (by decide : 0 + 0 ≤ _), (by decide : 0 + 0 ≤ _)⟩)
  dsimp only [Pt.U, Pt.locs, Pt.cells, Pt.slots] at X3 l3 y3 z3 st3 hQ3
  subst l3 y3 z3
  obtain ⟨rfl, N3q, eh3⟩ := hQ3
  have N3 := Fr.app N0 N3q
  refine OwnEnd.tr (S' := T3.setTop (mkF m 9 #[.val (.ref x0)] [(.int (0 : Int32)), (.int N)])) st3 ?_
  refine OwnEnd.of (S' := T3.setTop (mkF m 10 #[.val (.ref x0)] [(.int (N >>> ((0 : Int32) &&& 31)))])) (fun _ kK => XS.ishr X3.here hx rfl (hb hby d6_9) rfl kK) ?_
  refine OwnEnd.ret X3 (v := (some (.int (N >>> ((0 : Int32) &&& 31))))) (fun h => by rw [Bd.returns] at h; cases h) hlk (fun fs hr => retOut X3 hx Bd.returns rfl (Or.inl ⟨rfl, Or.inl rfl, _, rfl⟩) (hb hby d6_10) hr) (by decide) (by decide) (Q := (own_Qint M) h0 n0) eh3 ?_
  exact ⟨(congrArg (fun z => some (Value.int z)) P4), N3, rfl⟩

set_option maxRecDepth 65536 in
set_option maxHeartbeats 40000000 in
theorem rmlnB (l : Launch) (Z : State) (a0 : Array Value) (G : OwnG Z a0) (ws : List Jvm.Cond) (x0 t : Addr) (kb : ClassId) (N : Int32) (vs : List Value) (dv : Value) (cd : Int32) (cs : List Int32) (h0 : Heap) (n0 : Nat) (O0 : Old Z n0 h0) (P0 : Exa Z h0 x0 "java/lang/String") (P1 : Fld Z h0 x0 "java/lang/String" "value" "[B" (.ref t)) (P2 : Fld Z h0 x0 "java/lang/String" "coder" "B" (.int cd)) (P3 : Arv Z h0 t kb .byte N vs dv) (H : StrChars.Road.CodA cs cd N vs) (HR : ∀ c ∈ cs, ¬ c < (0 : Int32) ∧ ¬ (65535 : Int32) < c) (hl : cs.length ≤ 4000) : MetFree l own_m6 (head1 (Jvm.Cond.code own_m6 jdk_42_method_54_code 1 (some .int) :: ws) ({ frames := 1, cells := 0, slots := 0, locals := 13 } : Room)) (fun a U => a = #[(.ref x0)] ∧ Z.Warmed39 U.vm ∧ U.heap = h0) (fun _ _ _ _ _ => True) (fun _ U o U' => ∃ v L, o = .returned v ∧ own_Qint (Int32.ofNat cs.length) h0 n0 v U'.heap L ∧ FrameEnd U o U' L ({ frames := 1, cells := 0, slots := 0, locals := 13 } : Room).cells ({ frames := 1, cells := 0, slots := 0, locals := 13 } : Room).slots) := by
  rcases H with ⟨rfl, rfl, rfl, -⟩ | ⟨rfl, rfl, rfl, -⟩
  · exact rmln0 l Z a0 G ws x0 t kb _ _ dv _ h0 n0 O0 P0 P1 P2 P3 (own_shr0 _)
  · exact rmln1 l Z a0 G ws x0 t kb _ _ dv _ h0 n0 O0 P0 P1 P2 P3 (own_half hl)

theorem own_efem1 (m : MethodId) (x0 : Addr) : entryFrame m #[(.ref x0)] 1 = mkF m 0 #[.val (.ref x0)] [] := by first | (simp [entryFrame, mkF, argsToLocals, Value.category]; done) | rfl
set_option maxRecDepth 65536 in
set_option maxHeartbeats 40000000 in
theorem rmem1 (l : Launch) (Z : State) (a0 : Array Value) (G : OwnG Z a0) (ws : List Jvm.Cond) (x0 : Addr) (t : Addr) (kb : ClassId) (vs : List Value) (dv : Value) (h0 : Heap) (n0 : Nat) (O0 : Old Z n0 h0) (P0 : Fld Z h0 x0 "java/lang/String" "value" "[B" (.ref t)) (P1 : Arv Z h0 t kb .byte (0 : Int32) vs dv) :
    MetFree l own_m7 (head1 (Jvm.Cond.code own_m7 jdk_42_method_55_code 1 (some .boolean) :: ws) ({ frames := 0, cells := 0, slots := 0, locals := 0 } : Room)) (fun a U => a = #[(.ref x0)] ∧ Z.Warmed39 U.vm ∧ U.heap = h0) (fun _ _ _ _ _ => True) (fun _ U o U' => ∃ v L, o = .returned v ∧ (own_Qint (1 : Int32)) h0 n0 v U'.heap L ∧ FrameEnd U o U' L ({ frames := 0, cells := 0, slots := 0, locals := 0 } : Room).cells ({ frames := 0, cells := 0, slots := 0, locals := 0 } : Room).slots) := by
  refine MetFree.of_bodySF (plainFor_of_name pn_0) hisR ?_
  intro p e s m args below meth cD s₁ Bd hml0 hP hK
  obtain ⟨rfl, hZ, hh⟩ := hP
  have hw := G.1
  have hx := Bd.exec
  have hby := Bd.bytes
  have hml : cD.maxLocals = 1 := hml0
  have hown : s.vm.findClass "java/lang/String" = some m.cls := findClass_of_methodNamed Bd.named
  have hnm := (name_of_methodNamed Bd.named Bd.method).1
  have hlk := Bd.notSynchronized
  have X0 : Stand p l e ({ frames := 0, cells := 0, slots := 0, locals := 0 } : Room) s m #[(.ref x0)] below meth cD s₁ [] 0 0 := Stand.of_body Bd
  have e0 : s₁.heap = h0 := by rw [← hh, Bd.state]; rfl
  have lt0 := own_ltN' P0.lt
  have lt1 := own_ltN' P1.lt
  have K0 : Keep h0 h0 [] := Keep.refl h0 _
  have Z0 := own_old_le O0
  have N0 := Fr.nil n0
  refine OwnEnd.start (g' := (mkF m 0 #[.val (.ref x0)] [])) (own_efem1 m x0) ?_
  refine OwnEnd.of (S' := s₁.setTop (mkF m 1 #[.val (.ref x0)] [(.ref x0)])) (fun _ kK => XS.aloadN X0.here hx rfl (hb hby d7_0) rfl rfl kK) ?_
  obtain ⟨T1, X1, e1, st1⟩ := getF X0 hx hZ hown (host := "") (Or.inl (own_w G 25 rfl)) Via.refl e0 P0 (g := (mkF m 1 #[.val (.ref x0)] [(.ref x0)])) rfl rfl (hb hby d7_1)
  refine OwnEnd.of (S' := T1.setTop (mkF m 4 #[.val (.ref x0)] [(.ref t)])) st1 ?_
  obtain ⟨cl2, Ar2, q2, S2, N2', H2, G2⟩ := id P1
  refine OwnEnd.of (S' := T1.setTop (mkF m 5 #[.val (.ref x0)] [(.int (0 : Int32))])) (fun _ kK => X1.arraylength hx (by rw [e1]; exact Ar2.1) (State.isArrayOf_alike hZ.alike Ar2.2.1) (g := (mkF m 4 #[.val (.ref x0)] [(.ref t)])) rfl rfl (hb hby d7_4) _ (by rw [len_of S2 N2']; exact kK)) ?_
  refine OwnEnd.of (S' := T1.setTop (mkF m 13 #[.val (.ref x0)] [(.int (1 : Int32))])) (fun _ kK => XS.ifNo X1.here hx rfl (hb hby d7_5) rfl ((if0 _ _).trans (teq ((by decide : (0 : Int32) = (0 : Int32)))).2) (XS.iconst X1.here hx rfl (hb hby d7_8) (XS.goto X1.here hx rfl (pc0 := 9) (pc' := 13) rfl (hb hby d7_9) (by decide) (by decide) kK))) ?_
  refine OwnEnd.ret X1 (v := (some (.int (nar .boolean (1 : Int32))))) (fun h => by rw [Bd.returns] at h; cases h) hlk (fun fs hr => retN X1 hx (t := .boolean) Bd.returns (by simp) (hb hby d7_13) hr) (by decide) (by decide) (Q := (own_Qint (1 : Int32)) h0 n0) e1 ?_
  exact ⟨rfl, N0, rfl⟩

theorem own_efem0 (m : MethodId) (x0 : Addr) : entryFrame m #[(.ref x0)] 1 = mkF m 0 #[.val (.ref x0)] [] := by first | (simp [entryFrame, mkF, argsToLocals, Value.category]; done) | rfl
set_option maxRecDepth 65536 in
set_option maxHeartbeats 40000000 in
theorem rmem0 (l : Launch) (Z : State) (a0 : Array Value) (G : OwnG Z a0) (ws : List Jvm.Cond) (x0 : Addr) (t : Addr) (kb : ClassId) (N : Int32) (vs : List Value) (dv : Value) (h0 : Heap) (n0 : Nat) (O0 : Old Z n0 h0) (P0 : Fld Z h0 x0 "java/lang/String" "value" "[B" (.ref t)) (P1 : Arv Z h0 t kb .byte N vs dv) (P2 : ¬ N = (0 : Int32)) :
    MetFree l own_m7 (head1 (Jvm.Cond.code own_m7 jdk_42_method_55_code 1 (some .boolean) :: ws) ({ frames := 0, cells := 0, slots := 0, locals := 0 } : Room)) (fun a U => a = #[(.ref x0)] ∧ Z.Warmed39 U.vm ∧ U.heap = h0) (fun _ _ _ _ _ => True) (fun _ U o U' => ∃ v L, o = .returned v ∧ (own_Qint (0 : Int32)) h0 n0 v U'.heap L ∧ FrameEnd U o U' L ({ frames := 0, cells := 0, slots := 0, locals := 0 } : Room).cells ({ frames := 0, cells := 0, slots := 0, locals := 0 } : Room).slots) := by
  refine MetFree.of_bodySF (plainFor_of_name pn_0) hisR ?_
  intro p e s m args below meth cD s₁ Bd hml0 hP hK
  obtain ⟨rfl, hZ, hh⟩ := hP
  have hw := G.1
  have hx := Bd.exec
  have hby := Bd.bytes
  have hml : cD.maxLocals = 1 := hml0
  have hown : s.vm.findClass "java/lang/String" = some m.cls := findClass_of_methodNamed Bd.named
  have hnm := (name_of_methodNamed Bd.named Bd.method).1
  have hlk := Bd.notSynchronized
  have X0 : Stand p l e ({ frames := 0, cells := 0, slots := 0, locals := 0 } : Room) s m #[(.ref x0)] below meth cD s₁ [] 0 0 := Stand.of_body Bd
  have e0 : s₁.heap = h0 := by rw [← hh, Bd.state]; rfl
  have lt0 := own_ltN' P0.lt
  have lt1 := own_ltN' P1.lt
  have K0 : Keep h0 h0 [] := Keep.refl h0 _
  have Z0 := own_old_le O0
  have N0 := Fr.nil n0
  refine OwnEnd.start (g' := (mkF m 0 #[.val (.ref x0)] [])) (own_efem0 m x0) ?_
  refine OwnEnd.of (S' := s₁.setTop (mkF m 1 #[.val (.ref x0)] [(.ref x0)])) (fun _ kK => XS.aloadN X0.here hx rfl (hb hby d7_0) rfl rfl kK) ?_
  obtain ⟨T1, X1, e1, st1⟩ := getF X0 hx hZ hown (host := "") (Or.inl (own_w G 25 rfl)) Via.refl e0 P0 (g := (mkF m 1 #[.val (.ref x0)] [(.ref x0)])) rfl rfl (hb hby d7_1)
  refine OwnEnd.of (S' := T1.setTop (mkF m 4 #[.val (.ref x0)] [(.ref t)])) st1 ?_
  obtain ⟨cl2, Ar2, q2, S2, N2', H2, G2⟩ := id P1
  refine OwnEnd.of (S' := T1.setTop (mkF m 5 #[.val (.ref x0)] [(.int N)])) (fun _ kK => X1.arraylength hx (by rw [e1]; exact Ar2.1) (State.isArrayOf_alike hZ.alike Ar2.2.1) (g := (mkF m 4 #[.val (.ref x0)] [(.ref t)])) rfl rfl (hb hby d7_4) _ (by rw [len_of S2 N2']; exact kK)) ?_
  refine OwnEnd.of (S' := T1.setTop (mkF m 13 #[.val (.ref x0)] [(.int (0 : Int32))])) (fun _ kK => XS.ifYes X1.here hx rfl (pc0 := 5) (pc' := 12) rfl (hb hby d7_5) rfl ((if0 _ _).trans (feq (P2)).2) (by decide) (by decide) (XS.iconst X1.here hx rfl (hb hby d7_12) kK)) ?_
  refine OwnEnd.ret X1 (v := (some (.int (nar .boolean (0 : Int32))))) (fun h => by rw [Bd.returns] at h; cases h) hlk (fun fs hr => retN X1 hx (t := .boolean) Bd.returns (by simp) (hb hby d7_13) hr) (by decide) (by decide) (Q := (own_Qint (0 : Int32)) h0 n0) e1 ?_
  exact ⟨rfl, N0, rfl⟩

theorem own_efcl (m : MethodId) (t : Addr) (i : Int32) : entryFrame m #[(.ref t), (.int i)] 2 = mkF m 0 #[.val (.ref t), .val (.int i)] [] := by first | (simp [entryFrame, mkF, argsToLocals, Value.category]; done) | rfl
set_option maxRecDepth 65536 in
set_option maxHeartbeats 40000000 in
theorem rmcl (l : Launch) (Z : State) (a0 : Array Value) (G : OwnG Z a0) (ws : List Jvm.Cond) (t : Addr) (kb : ClassId) (N : Int32) (vs : List Value) (dv : Value) (i : Int32) (c : Int32) (h0 : Heap) (n0 : Nat) (O0 : Old Z n0 h0) (P0 : Arv Z h0 t kb .byte N vs dv) (P1 : ¬ i < (0 : Int32)) (P2 : i < N) (P3 : vs.getD i.toNatClampNeg dv = (.int (StrChars.lo8 c))) (P4 : ¬ c < (0 : Int32) ∧ ¬ (255 : Int32) < c) :
    MetFree l own_m8 (head1 (Jvm.Cond.code own_m8 jdk_43_method_2_code 2 (some .char) :: ws) ({ frames := 2, cells := 0, slots := 0, locals := 27 } : Room)) (fun a U => a = #[(.ref t), (.int i)] ∧ Z.Warmed39 U.vm ∧ U.heap = h0) (fun _ _ _ _ _ => True) (fun _ U o U' => ∃ v L, o = .returned v ∧ (own_Qint c) h0 n0 v U'.heap L ∧ FrameEnd U o U' L ({ frames := 2, cells := 0, slots := 0, locals := 27 } : Room).cells ({ frames := 2, cells := 0, slots := 0, locals := 27 } : Room).slots) := by
  refine MetFree.of_bodySF (plainFor_of_name pn_2) hisR ?_
  intro p e s m args below meth cD s₁ Bd hml0 hP hK
  obtain ⟨rfl, hZ, hh⟩ := hP
  have hw := G.1
  have hx := Bd.exec
  have hby := Bd.bytes
  have hml : cD.maxLocals = 2 := hml0
  have hown : s.vm.findClass "java/lang/StringLatin1" = some m.cls := findClass_of_methodNamed Bd.named
  have hnm := (name_of_methodNamed Bd.named Bd.method).1
  have hlk := Bd.notSynchronized
  have X0 : Stand p l e ({ frames := 2, cells := 0, slots := 0, locals := 27 } : Room) s m #[(.ref t), (.int i)] below meth cD s₁ [] 0 0 := Stand.of_body Bd
  have e0 : s₁.heap = h0 := by rw [← hh, Bd.state]; rfl
  have lt0 := own_ltN' P0.lt
  have K0 : Keep h0 h0 [] := Keep.refl h0 _
  have Z0 := own_old_le O0
  have N0 := Fr.nil n0
  refine OwnEnd.start (g' := (mkF m 0 #[.val (.ref t), .val (.int i)] [])) (own_efcl m t i) ?_
  refine OwnEnd.of (S' := s₁.setTop (mkF m 2 #[.val (.ref t), .val (.int i)] [(.ref t), (.int i)])) (fun _ kK => XS.iloadN X0.here hx rfl (hb hby d8_0) rfl (XS.aloadN X0.here hx rfl (hb hby d8_1) rfl rfl kK)) ?_
  obtain ⟨cl1, Ar1, q1, S1, N1', H1, G1⟩ := id P0
  refine OwnEnd.of (S' := s₁.setTop (mkF m 3 #[.val (.ref t), .val (.int i)] [(.int N), (.int i)])) (fun _ kK => X0.arraylength hx (by rw [e0]; exact Ar1.1) (State.isArrayOf_alike hZ.alike Ar1.2.1) (g := (mkF m 2 #[.val (.ref t), .val (.int i)] [(.ref t), (.int i)])) rfl rfl (hb hby d8_2) _ (by rw [len_of S1 N1']; exact kK)) ?_
  obtain ⟨_, _, ⟨T2, L2, k2, n2⟩, -, X2, ⟨Lc2, hQ2, l2, y2, z2⟩, st2⟩ := Jvm.LawKit.callS X0 hx (y := own_m3) hown (mvT hZ (own_w G 74 rfl)) (mvT hZ (own_w G 75 rfl)) (mvT hZ (own_w G 3 rfl)) (mvT hZ (own_w G 76 rfl)) (by decide) (backOf (W := 0) (rmsk l Z a0 G [] i N h0 n0 O0 P1 P2) hZ (own_w G 76 rfl) (own_w G 3 rfl) (by decide) (by decide)) (g := (mkF m 3 #[.val (.ref t), .val (.int i)] [(.int N), (.int i)])) rfl (by rw [hml]; rfl) (argsL := [(.int i), (.int N)]) (rest := []) (lenOf pd_3 rfl) rfl (by show 2 * 0 + _ ≤ _; exact Nat.le_of_eq rfl) (hb hby d8_3) (fun _ _ => ⟨rfl, e0, (by decide : 0 + 0 ≤ _), (by decide : 0 + 0 ≤ _)⟩)
  dsimp only [Pt.U, Pt.locs, Pt.cells, Pt.slots] at X2 l2 y2 z2 st2 hQ2
  subst l2 y2 z2
  obtain ⟨rfl, N2q, eh2⟩ := hQ2
  have N2 := Fr.app N0 N2q
  refine OwnEnd.of (S' := T2.setTop (mkF m 6 #[.val (.ref t), .val (.int i)] [])) st2 ?_
  refine OwnEnd.of (S' := T2.setTop (mkF m 8 #[.val (.ref t), .val (.int i)] [(.int i), (.ref t)])) (fun _ kK => XS.aloadN X2.here hx rfl (hb hby d8_6) rfl rfl (XS.iloadN X2.here hx rfl (hb hby d8_7) rfl kK)) ?_
  obtain ⟨cl3, Ar3, q3, S3, N3', H3, G3⟩ := id P0
  have hin4 : ¬ (i < 0 ∨ cl3.slots.size ≤ (i).toNatClampNeg) := inb_of S3 ⟨P1, P2⟩
  refine OwnEnd.of (S' := T2.setTop (mkF m 9 #[.val (.ref t), .val (.int i)] [(.int (StrChars.lo8 c))])) (fun _ kK => X2.baloadBytes hx (j := i) (v := (.int (StrChars.lo8 c))) (by rw [eh2]; exact Ar3.1) (State.isArrayOf_alike hZ.alike Ar3.2.1) Ar3.2.2 hin4 (Has.at H3 hin4 (P3)) (g := (mkF m 8 #[.val (.ref t), .val (.int i)] [(.int i), (.ref t)])) rfl rfl (hb hby d8_8) _ kK) ?_
  refine OwnEnd.of (S' := T2.setTop (mkF m 14 #[.val (.ref t), .val (.int i)] [(.int (nar .char ((StrChars.lo8 c) &&& (255 : Int32))))])) (fun _ kK => XS.sipush X2.here hx rfl (hb hby d8_9) (XS.iand X2.here hx rfl (hb hby d8_12) rfl (XS.i2c X2.here hx rfl (hb hby d8_13) rfl kK))) ?_
  refine OwnEnd.ret X2 (v := (some (.int (nar .char (nar .char ((StrChars.lo8 c) &&& (255 : Int32))))))) (fun h => by rw [Bd.returns] at h; cases h) hlk (fun fs hr => retN X2 hx (t := .char) Bd.returns (by simp) (hb hby d8_14) hr) (by decide) (by decide) (Q := (own_Qint c) h0 n0) eh2 ?_
  exact ⟨(congrArg (fun z => some (Value.int z)) (own_lat P4.1 P4.2)), N2, rfl⟩

theorem own_efgl (m : MethodId) (t : Addr) : entryFrame m #[(.ref t)] 1 = mkF m 0 #[.val (.ref t)] [] := by first | (simp [entryFrame, mkF, argsToLocals, Value.category]; done) | rfl
set_option maxRecDepth 65536 in
set_option maxHeartbeats 40000000 in
theorem rmgl (l : Launch) (Z : State) (a0 : Array Value) (G : OwnG Z a0) (ws : List Jvm.Cond) (t : Addr) (kb : ClassId) (N : Int32) (vs : List Value) (dv : Value) (M : Int32) (h0 : Heap) (n0 : Nat) (O0 : Old Z n0 h0) (P0 : Arv Z h0 t kb .byte N vs dv) (P1 : N >>> ((1 : Int32) &&& 31) = M) :
    MetFree l own_m9 (head1 (Jvm.Cond.code own_m9 jdk_52_method_6_code 1 (some .int) :: ws) ({ frames := 0, cells := 0, slots := 0, locals := 0 } : Room)) (fun a U => a = #[(.ref t)] ∧ Z.Warmed39 U.vm ∧ U.heap = h0) (fun _ _ _ _ _ => True) (fun _ U o U' => ∃ v L, o = .returned v ∧ (own_Qint M) h0 n0 v U'.heap L ∧ FrameEnd U o U' L ({ frames := 0, cells := 0, slots := 0, locals := 0 } : Room).cells ({ frames := 0, cells := 0, slots := 0, locals := 0 } : Room).slots) := by
  refine MetFree.of_bodySF (plainFor_of_name pn_3) hisR ?_
  intro p e s m args below meth cD s₁ Bd hml0 hP hK
  obtain ⟨rfl, hZ, hh⟩ := hP
  have hw := G.1
  have hx := Bd.exec
  have hby := Bd.bytes
  have hml : cD.maxLocals = 1 := hml0
  have hown : s.vm.findClass "java/lang/StringUTF16" = some m.cls := findClass_of_methodNamed Bd.named
  have hnm := (name_of_methodNamed Bd.named Bd.method).1
  have hlk := Bd.notSynchronized
  have X0 : Stand p l e ({ frames := 0, cells := 0, slots := 0, locals := 0 } : Room) s m #[(.ref t)] below meth cD s₁ [] 0 0 := Stand.of_body Bd
  have e0 : s₁.heap = h0 := by rw [← hh, Bd.state]; rfl
  have lt0 := own_ltN' P0.lt
  have K0 : Keep h0 h0 [] := Keep.refl h0 _
  have Z0 := own_old_le O0
  have N0 := Fr.nil n0
  refine OwnEnd.start (g' := (mkF m 0 #[.val (.ref t)] [])) (own_efgl m t) ?_
  refine OwnEnd.of (S' := s₁.setTop (mkF m 1 #[.val (.ref t)] [(.ref t)])) (fun _ kK => XS.aloadN X0.here hx rfl (hb hby d9_0) rfl rfl kK) ?_
  obtain ⟨cl1, Ar1, q1, S1, N1', H1, G1⟩ := id P0
  refine OwnEnd.of (S' := s₁.setTop (mkF m 2 #[.val (.ref t)] [(.int N)])) (fun _ kK => X0.arraylength hx (by rw [e0]; exact Ar1.1) (State.isArrayOf_alike hZ.alike Ar1.2.1) (g := (mkF m 1 #[.val (.ref t)] [(.ref t)])) rfl rfl (hb hby d9_1) _ (by rw [len_of S1 N1']; exact kK)) ?_
  refine OwnEnd.of (S' := s₁.setTop (mkF m 4 #[.val (.ref t)] [(.int (N >>> ((1 : Int32) &&& 31)))])) (fun _ kK => XS.iconst X0.here hx rfl (hb hby d9_2) (XS.ishr X0.here hx rfl (hb hby d9_3) rfl kK)) ?_
  refine OwnEnd.ret X0 (v := (some (.int (N >>> ((1 : Int32) &&& 31))))) (fun h => by rw [Bd.returns] at h; cases h) hlk (fun fs hr => retOut X0 hx Bd.returns rfl (Or.inl ⟨rfl, Or.inl rfl, _, rfl⟩) (hb hby d9_4) hr) (by decide) (by decide) (Q := (own_Qint M) h0 n0) e0 ?_
  exact ⟨(congrArg (fun z => some (Value.int z)) P1), N0, rfl⟩

theorem own_efsc (m : MethodId) (i : Int32) (t : Addr) : entryFrame m #[(.int i), (.ref t)] 2 = mkF m 0 #[.val (.int i), .val (.ref t)] [] := by first | (simp [entryFrame, mkF, argsToLocals, Value.category]; done) | rfl
def Qsc (Z : State) (i : Int32) (t : Addr) (kb : ClassId) (N : Int32) (vs : List Value) (dv : Value) (M : Int32) (h0 : Heap) (n0 : Nat) (v : Option Value) (h : Heap) (L : List Loc) : Prop := v = none ∧ Fr n0 L ∧ h = h0
set_option maxRecDepth 65536 in
set_option maxHeartbeats 40000000 in
theorem rmsc (l : Launch) (Z : State) (a0 : Array Value) (G : OwnG Z a0) (ws : List Jvm.Cond) (i : Int32) (t : Addr) (kb : ClassId) (N : Int32) (vs : List Value) (dv : Value) (M : Int32) (h0 : Heap) (n0 : Nat) (O0 : Old Z n0 h0) (P0 : Arv Z h0 t kb .byte N vs dv) (P1 : N >>> ((1 : Int32) &&& 31) = M) (P2 : ¬ i < (0 : Int32)) (P3 : i < M) :
    MetFree l own_m10 (head1 (Jvm.Cond.code own_m10 jdk_52_method_91_code 2 none :: ws) ({ frames := 2, cells := 0, slots := 0, locals := 27 } : Room)) (fun a U => a = #[(.int i), (.ref t)] ∧ Z.Warmed39 U.vm ∧ U.heap = h0) (fun _ _ _ _ _ => True) (fun _ U o U' => ∃ v L, o = .returned v ∧ Qsc Z i t kb N vs dv M h0 n0 v U'.heap L ∧ FrameEnd U o U' L ({ frames := 2, cells := 0, slots := 0, locals := 27 } : Room).cells ({ frames := 2, cells := 0, slots := 0, locals := 27 } : Room).slots) := by
  refine MetFree.of_bodySF (plainFor_of_name pn_3) hisR ?_
  intro p e s m args below meth cD s₁ Bd hml0 hP hK
  obtain ⟨rfl, hZ, hh⟩ := hP
  have hw := G.1
  have hx := Bd.exec
  have hby := Bd.bytes
  have hml : cD.maxLocals = 2 := hml0
  have hown : s.vm.findClass "java/lang/StringUTF16" = some m.cls := findClass_of_methodNamed Bd.named
  have hnm := (name_of_methodNamed Bd.named Bd.method).1
  have hlk := Bd.notSynchronized
  have X0 : Stand p l e ({ frames := 2, cells := 0, slots := 0, locals := 27 } : Room) s m #[(.int i), (.ref t)] below meth cD s₁ [] 0 0 := Stand.of_body Bd
  have e0 : s₁.heap = h0 := by rw [← hh, Bd.state]; rfl
  have lt0 := own_ltN' P0.lt
  have K0 : Keep h0 h0 [] := Keep.refl h0 _
  have Z0 := own_old_le O0
  have N0 := Fr.nil n0
  refine OwnEnd.start (g' := (mkF m 0 #[.val (.int i), .val (.ref t)] [])) (own_efsc m i t) ?_
  refine OwnEnd.of (S' := s₁.setTop (mkF m 2 #[.val (.int i), .val (.ref t)] [(.ref t), (.int i)])) (fun _ kK => XS.iloadN X0.here hx rfl (hb hby d10_0) rfl (XS.aloadN X0.here hx rfl (hb hby d10_1) rfl rfl kK)) ?_
  obtain ⟨_, _, ⟨T1, L1, k1, n1⟩, -, X1, ⟨Lc1, hQ1, l1, y1, z1⟩, st1⟩ := Jvm.LawKit.callS X0 hx (y := own_m9) hown (mvT hZ (own_w G 107 rfl)) (mvT hZ (own_w G 108 rfl)) (mvT hZ (own_w G 39 rfl)) (mvT hZ (own_w G 109 rfl)) (by decide) (backOf (W := 1) (rmgl l Z a0 G [] t kb N vs dv M h0 n0 O0 P0 P1) hZ (own_w G 109 rfl) (own_w G 39 rfl) (by decide) (by decide)) (g := (mkF m 2 #[.val (.int i), .val (.ref t)] [(.ref t), (.int i)])) rfl (by rw [hml]; rfl) (argsL := [(.ref t)]) (rest := [(.int i)]) (lenOf pd_4 rfl) rfl (by show 2 * 0 + _ ≤ _; exact Nat.le_of_eq rfl) (hb hby d10_2) (fun _ _ => ⟨rfl, e0, (by decide : 0 + 0 ≤ _), (by decide : 0 + 0 ≤ _)⟩)
  dsimp only [Pt.U, Pt.locs, Pt.cells, Pt.slots] at X1 l1 y1 z1 st1 hQ1
  subst l1 y1 z1
  obtain ⟨rfl, N1q, eh1⟩ := hQ1
  have N1 := Fr.app N0 N1q
  refine OwnEnd.of (S' := T1.setTop (mkF m 5 #[.val (.int i), .val (.ref t)] [(.int M), (.int i)])) st1 ?_
  obtain ⟨_, _, ⟨T2, L2, k2, n2⟩, -, X2, ⟨Lc2, hQ2, l2, y2, z2⟩, st2⟩ := Jvm.LawKit.callS X1 hx (y := own_m3) hown (mvT hZ (own_w G 110 rfl)) (mvT hZ (own_w G 75 rfl)) (mvT hZ (own_w G 3 rfl)) (mvT hZ (own_w G 76 rfl)) (by decide) (backOf (W := 0) (rmsk l Z a0 G [] i M h0 n0 O0 P2 P3) hZ (own_w G 76 rfl) (own_w G 3 rfl) (by decide) (by decide)) (g := (mkF m 5 #[.val (.int i), .val (.ref t)] [(.int M), (.int i)])) rfl (by rw [hml]; rfl) (argsL := [(.int i), (.int M)]) (rest := []) (lenOf pd_3 rfl) rfl (by show 2 * 0 + _ ≤ _; exact Nat.le_of_eq rfl) (hb hby d10_5) (fun _ _ => ⟨rfl, eh1, (by decide : 0 + 0 ≤ _), (by decide : 0 + 0 ≤ _)⟩)
  dsimp only [Pt.U, Pt.locs, Pt.cells, Pt.slots] at X2 l2 y2 z2 st2 hQ2
  subst l2 y2 z2
  obtain ⟨rfl, N2q, eh2⟩ := hQ2
  have N2 := Fr.app N1 N2q
  refine OwnEnd.of (S' := T2.setTop (mkF m 8 #[.val (.int i), .val (.ref t)] [])) st2 ?_
  refine OwnEnd.ret X2 (v := none) (fun _ => rfl) hlk (fun fs hr => X2.returnOut hx Bd.returns (hb hby d10_8) hr) (by decide) (by decide) (Q := Qsc Z i t kb N vs dv M h0 n0) eh2 ?_
  exact ⟨rfl, N2, rfl⟩

theorem own_efgc (m : MethodId) (t : Addr) (i : Int32) : entryFrame m #[(.ref t), (.int i)] 2 = mkF m 0 #[.val (.ref t), .val (.int i)] [] := by first | (simp [entryFrame, mkF, argsToLocals, Value.category]; done) | rfl
set_option maxRecDepth 65536 in
set_option maxHeartbeats 40000000 in
theorem rmgc (l : Launch) (Z : State) (a0 : Array Value) (G : OwnG Z a0) (ws : List Jvm.Cond) (t : Addr) (kb : ClassId) (N : Int32) (vs : List Value) (dv : Value) (i : Int32) (J : Int32) (c : Int32) (h0 : Heap) (n0 : Nat) (O0 : Old Z n0 h0) (P0 : Arv Z h0 t kb .byte N vs dv) (P1 : i <<< ((1 : Int32) &&& 31) = J) (P2 : ¬ J < (0 : Int32)) (P3 : J < N) (P4 : ¬ (J + (1 : Int32)) < (0 : Int32)) (P5 : (J + (1 : Int32)) < N) (P6 : vs.getD J.toNatClampNeg dv = (.int (StrChars.lo8 c))) (P7 : vs.getD (J + (1 : Int32)).toNatClampNeg dv = (.int (StrChars.hi8 c))) (P8 : ¬ c < (0 : Int32) ∧ ¬ (65535 : Int32) < c) :
    MetFree l own_m11 (head1 (Jvm.Cond.code own_m11 jdk_52_method_5_code 2 (some .char) :: ws) ({ frames := 0, cells := 0, slots := 0, locals := 0 } : Room)) (fun a U => a = #[(.ref t), (.int i)] ∧ Z.Warmed39 U.vm ∧ U.heap = h0) (fun _ _ _ _ _ => True) (fun _ U o U' => ∃ v L, o = .returned v ∧ (own_Qint c) h0 n0 v U'.heap L ∧ FrameEnd U o U' L ({ frames := 0, cells := 0, slots := 0, locals := 0 } : Room).cells ({ frames := 0, cells := 0, slots := 0, locals := 0 } : Room).slots) := by
  refine MetFree.of_bodySF (plainFor_of_name pn_3) hisR ?_
  intro p e s m args below meth cD s₁ Bd hml0 hP hK
  obtain ⟨rfl, hZ, hh⟩ := hP
  have hw := G.1
  have hx := Bd.exec
  have hby := Bd.bytes
  have hml : cD.maxLocals = 2 := hml0
  have hown : s.vm.findClass "java/lang/StringUTF16" = some m.cls := findClass_of_methodNamed Bd.named
  have hnm := (name_of_methodNamed Bd.named Bd.method).1
  have hlk := Bd.notSynchronized
  have X0 : Stand p l e ({ frames := 0, cells := 0, slots := 0, locals := 0 } : Room) s m #[(.ref t), (.int i)] below meth cD s₁ [] 0 0 := Stand.of_body Bd
  have e0 : s₁.heap = h0 := by rw [← hh, Bd.state]; rfl
  have lt0 := own_ltN' P0.lt
  have K0 : Keep h0 h0 [] := Keep.refl h0 _
  have Z0 := own_old_le O0
  have N0 := Fr.nil n0
  have SAD := own_ad G
  have SHI := own_hi G
  have SLO := own_lo G
  refine OwnEnd.start (g' := (mkF m 0 #[.val (.ref t), .val (.int i)] [])) (own_efgc m t i) ?_
  obtain ⟨T1, X1, e1, st1⟩ := getS2 X0 hx hZ hown (host := "") (Or.inl (own_w G 95 rfl)) Via.refl e0 (SAD.ext O0.2) (g := (mkF m 0 #[.val (.ref t), .val (.int i)] [])) rfl (hb hby d11_0)
  refine OwnEnd.of (S' := T1.setTop (mkF m 3 #[.val (.ref t), .val (.int i)] [(.int (1 : Int32))])) st1 ?_
  refine OwnEnd.of (S' := T1.setTop (mkF m 31 #[.val (.ref t), .val (.int i)] [(.int (i <<< ((1 : Int32) &&& 31)))])) (fun _ kK => XS.ifYes X1.here hx rfl (pc0 := 3) (pc' := 28) rfl (hb hby d11_3) rfl ((if0 _ _).trans (feq ((by decide : ¬ ((1 : Int32) = (0 : Int32))))).2) (by decide) (by decide) (XS.iloadN X1.here hx rfl (hb hby d11_28) rfl (XS.iconst X1.here hx rfl (hb hby d11_29) (XS.ishl X1.here hx rfl (hb hby d11_30) rfl kK)))) ?_
  rw [P1]
  refine OwnEnd.of (S' := T1.setTop (mkF m 37 #[.val (.ref t), .val (.int (J + (1 : Int32)))] [(.int J), (.ref t)])) (fun _ kK => XS.istoreN X1.here hx rfl (hb hby d11_31) rfl (l' := #[.val (.ref t), .val (.int J)]) rfl (XS.aloadN X1.here hx rfl (hb hby d11_32) rfl rfl (XS.iloadN X1.here hx rfl (hb hby d11_33) rfl (XS.iinc X1.here hx rfl (hb hby d11_34) rfl (l' := #[.val (.ref t), .val (.int (J + (1 : Int32)))]) rfl kK)))) ?_
  obtain ⟨cl2, Ar2, q2, S2, N2', H2, G2⟩ := id P0
  have hin3 : ¬ (J < 0 ∨ cl2.slots.size ≤ (J).toNatClampNeg) := inb_of S2 ⟨P2, P3⟩
  refine OwnEnd.of (S' := T1.setTop (mkF m 38 #[.val (.ref t), .val (.int (J + (1 : Int32)))] [(.int (StrChars.lo8 c))])) (fun _ kK => X1.baloadBytes hx (j := J) (v := (.int (StrChars.lo8 c))) (by rw [e1]; exact Ar2.1) (State.isArrayOf_alike hZ.alike Ar2.2.1) Ar2.2.2 hin3 (Has.at H2 hin3 (P6)) (g := (mkF m 37 #[.val (.ref t), .val (.int (J + (1 : Int32)))] [(.int J), (.ref t)])) rfl rfl (hb hby d11_37) _ kK) ?_
  refine OwnEnd.of (S' := T1.setTop (mkF m 42 #[.val (.ref t), .val (.int (J + (1 : Int32)))] [(.int ((StrChars.lo8 c) &&& (255 : Int32)))])) (fun _ kK => XS.sipush X1.here hx rfl (hb hby d11_38) (XS.iand X1.here hx rfl (hb hby d11_41) rfl kK)) ?_
  obtain ⟨T4, X4, e4, st4⟩ := getS2 X1 hx hZ hown (host := "") (Or.inl (own_w G 96 rfl)) Via.refl e1 (SHI.ext O0.2) (g := (mkF m 42 #[.val (.ref t), .val (.int (J + (1 : Int32)))] [(.int ((StrChars.lo8 c) &&& (255 : Int32)))])) rfl (hb hby d11_42)
  refine OwnEnd.of (S' := T4.setTop (mkF m 45 #[.val (.ref t), .val (.int (J + (1 : Int32)))] [(.int (0 : Int32)), (.int ((StrChars.lo8 c) &&& (255 : Int32)))])) st4 ?_
  refine OwnEnd.of (S' := T4.setTop (mkF m 48 #[.val (.ref t), .val (.int (J + (1 : Int32)))] [(.int (J + (1 : Int32))), (.ref t), (.int (((StrChars.lo8 c) &&& (255 : Int32)) <<< ((0 : Int32) &&& 31)))])) (fun _ kK => XS.ishl X4.here hx rfl (hb hby d11_45) rfl (XS.aloadN X4.here hx rfl (hb hby d11_46) rfl rfl (XS.iloadN X4.here hx rfl (hb hby d11_47) rfl kK))) ?_
  obtain ⟨cl5, Ar5, q5, S5, N5', H5, G5⟩ := id P0
  have hin6 : ¬ ((J + (1 : Int32)) < 0 ∨ cl5.slots.size ≤ ((J + (1 : Int32))).toNatClampNeg) := inb_of S5 ⟨P4, P5⟩
  refine OwnEnd.of (S' := T4.setTop (mkF m 49 #[.val (.ref t), .val (.int (J + (1 : Int32)))] [(.int (StrChars.hi8 c)), (.int (((StrChars.lo8 c) &&& (255 : Int32)) <<< ((0 : Int32) &&& 31)))])) (fun _ kK => X4.baloadBytes hx (j := (J + (1 : Int32))) (v := (.int (StrChars.hi8 c))) (by rw [e4]; exact Ar5.1) (State.isArrayOf_alike hZ.alike Ar5.2.1) Ar5.2.2 hin6 (Has.at H5 hin6 (P7)) (g := (mkF m 48 #[.val (.ref t), .val (.int (J + (1 : Int32)))] [(.int (J + (1 : Int32))), (.ref t), (.int (((StrChars.lo8 c) &&& (255 : Int32)) <<< ((0 : Int32) &&& 31)))])) rfl rfl (hb hby d11_48) _ kK) ?_
  refine OwnEnd.of (S' := T4.setTop (mkF m 53 #[.val (.ref t), .val (.int (J + (1 : Int32)))] [(.int ((StrChars.hi8 c) &&& (255 : Int32))), (.int (((StrChars.lo8 c) &&& (255 : Int32)) <<< ((0 : Int32) &&& 31)))])) (fun _ kK => XS.sipush X4.here hx rfl (hb hby d11_49) (XS.iand X4.here hx rfl (hb hby d11_52) rfl kK)) ?_
  obtain ⟨T7, X7, e7, st7⟩ := getS2 X4 hx hZ hown (host := "") (Or.inl (own_w G 97 rfl)) Via.refl e4 (SLO.ext O0.2) (g := (mkF m 53 #[.val (.ref t), .val (.int (J + (1 : Int32)))] [(.int ((StrChars.hi8 c) &&& (255 : Int32))), (.int (((StrChars.lo8 c) &&& (255 : Int32)) <<< ((0 : Int32) &&& 31)))])) rfl (hb hby d11_53)
  refine OwnEnd.of (S' := T7.setTop (mkF m 56 #[.val (.ref t), .val (.int (J + (1 : Int32)))] [(.int (8 : Int32)), (.int ((StrChars.hi8 c) &&& (255 : Int32))), (.int (((StrChars.lo8 c) &&& (255 : Int32)) <<< ((0 : Int32) &&& 31)))])) st7 ?_
  refine OwnEnd.of (S' := T7.setTop (mkF m 59 #[.val (.ref t), .val (.int (J + (1 : Int32)))] [(.int (nar .char ((((StrChars.lo8 c) &&& (255 : Int32)) <<< ((0 : Int32) &&& 31)) ||| (((StrChars.hi8 c) &&& (255 : Int32)) <<< ((8 : Int32) &&& 31)))))])) (fun _ kK => XS.ishl X7.here hx rfl (hb hby d11_56) rfl (XS.ior X7.here hx rfl (hb hby d11_57) rfl (XS.i2c X7.here hx rfl (hb hby d11_58) rfl kK))) ?_
  refine OwnEnd.ret X7 (v := (some (.int (nar .char (nar .char ((((StrChars.lo8 c) &&& (255 : Int32)) <<< ((0 : Int32) &&& 31)) ||| (((StrChars.hi8 c) &&& (255 : Int32)) <<< ((8 : Int32) &&& 31)))))))) (fun h => by rw [Bd.returns] at h; cases h) hlk (fun fs hr => retN X7 hx (t := .char) Bd.returns (by simp) (hb hby d11_59) hr) (by decide) (by decide) (Q := (own_Qint c) h0 n0) e7 ?_
  exact ⟨(congrArg (fun z => some (Value.int z)) (own_pair P8.1 P8.2)), N0, rfl⟩

theorem own_efca (m : MethodId) (t : Addr) (i : Int32) : entryFrame m #[(.ref t), (.int i)] 2 = mkF m 0 #[.val (.ref t), .val (.int i)] [] := by first | (simp [entryFrame, mkF, argsToLocals, Value.category]; done) | rfl
set_option maxRecDepth 65536 in
set_option maxHeartbeats 40000000 in
theorem rmca (l : Launch) (Z : State) (a0 : Array Value) (G : OwnG Z a0) (ws : List Jvm.Cond) (t : Addr) (kb : ClassId) (N : Int32) (vs : List Value) (dv : Value) (i : Int32) (M : Int32) (J : Int32) (c : Int32) (h0 : Heap) (n0 : Nat) (O0 : Old Z n0 h0) (P0 : Arv Z h0 t kb .byte N vs dv) (P1 : N >>> ((1 : Int32) &&& 31) = M) (P2 : ¬ i < (0 : Int32)) (P3 : i < M) (P4 : i <<< ((1 : Int32) &&& 31) = J) (P5 : ¬ J < (0 : Int32)) (P6 : J < N) (P7 : ¬ (J + (1 : Int32)) < (0 : Int32)) (P8 : (J + (1 : Int32)) < N) (P9 : vs.getD J.toNatClampNeg dv = (.int (StrChars.lo8 c))) (P10 : vs.getD (J + (1 : Int32)).toNatClampNeg dv = (.int (StrChars.hi8 c))) (P11 : ¬ c < (0 : Int32) ∧ ¬ (65535 : Int32) < c) :
    MetFree l own_m12 (head1 (Jvm.Cond.code own_m12 jdk_52_method_83_code 2 (some .char) :: ws) ({ frames := 3, cells := 0, slots := 0, locals := 40 } : Room)) (fun a U => a = #[(.ref t), (.int i)] ∧ Z.Warmed39 U.vm ∧ U.heap = h0) (fun _ _ _ _ _ => True) (fun _ U o U' => ∃ v L, o = .returned v ∧ (own_Qint c) h0 n0 v U'.heap L ∧ FrameEnd U o U' L ({ frames := 3, cells := 0, slots := 0, locals := 40 } : Room).cells ({ frames := 3, cells := 0, slots := 0, locals := 40 } : Room).slots) := by
  refine MetFree.of_bodySF (plainFor_of_name pn_3) hisR ?_
  intro p e s m args below meth cD s₁ Bd hml0 hP hK
  obtain ⟨rfl, hZ, hh⟩ := hP
  have hw := G.1
  have hx := Bd.exec
  have hby := Bd.bytes
  have hml : cD.maxLocals = 2 := hml0
  have hown : s.vm.findClass "java/lang/StringUTF16" = some m.cls := findClass_of_methodNamed Bd.named
  have hnm := (name_of_methodNamed Bd.named Bd.method).1
  have hlk := Bd.notSynchronized
  have X0 : Stand p l e ({ frames := 3, cells := 0, slots := 0, locals := 40 } : Room) s m #[(.ref t), (.int i)] below meth cD s₁ [] 0 0 := Stand.of_body Bd
  have e0 : s₁.heap = h0 := by rw [← hh, Bd.state]; rfl
  have lt0 := own_ltN' P0.lt
  have K0 : Keep h0 h0 [] := Keep.refl h0 _
  have Z0 := own_old_le O0
  have N0 := Fr.nil n0
  refine OwnEnd.start (g' := (mkF m 0 #[.val (.ref t), .val (.int i)] [])) (own_efca m t i) ?_
  refine OwnEnd.of (S' := s₁.setTop (mkF m 2 #[.val (.ref t), .val (.int i)] [(.ref t), (.int i)])) (fun _ kK => XS.iloadN X0.here hx rfl (hb hby d12_0) rfl (XS.aloadN X0.here hx rfl (hb hby d12_1) rfl rfl kK)) ?_
  obtain ⟨_, _, ⟨T1, L1, k1, n1⟩, -, X1, ⟨Lc1, hQ1, l1, y1, z1⟩, st1⟩ := Jvm.LawKit.callS X0 hx (y := own_m10) hown (mvT hZ (own_w G 104 rfl)) (mvT hZ (own_w G 105 rfl)) (mvT hZ (own_w G 39 rfl)) (mvT hZ (own_w G 106 rfl)) (by decide) (backOf (W := 0) (rmsc l Z a0 G [] i t kb N vs dv M h0 n0 O0 P0 P1 P2 P3) hZ (own_w G 106 rfl) (own_w G 39 rfl) (by decide) (by decide)) (g := (mkF m 2 #[.val (.ref t), .val (.int i)] [(.ref t), (.int i)])) rfl (by rw [hml]; rfl) (argsL := [(.int i), (.ref t)]) (rest := []) (lenOf pd_5 rfl) rfl (by show 2 * 0 + _ ≤ _; exact Nat.le_of_eq rfl) (hb hby d12_2) (fun _ _ => ⟨rfl, e0, (by decide : 0 + 0 ≤ _), (by decide : 0 + 0 ≤ _)⟩)
  dsimp only [Pt.U, Pt.locs, Pt.cells, Pt.slots] at X1 l1 y1 z1 st1 hQ1
  subst l1 y1 z1
  obtain ⟨rfl, N1q, eh1⟩ := hQ1
  have N1 := Fr.app N0 N1q
  refine OwnEnd.of (S' := T1.setTop (mkF m 5 #[.val (.ref t), .val (.int i)] [])) st1 ?_
  refine OwnEnd.of (S' := T1.setTop (mkF m 7 #[.val (.ref t), .val (.int i)] [(.int i), (.ref t)])) (fun _ kK => XS.aloadN X1.here hx rfl (hb hby d12_5) rfl rfl (XS.iloadN X1.here hx rfl (hb hby d12_6) rfl kK)) ?_
  obtain ⟨_, _, ⟨T2, L2, k2, n2⟩, -, X2, ⟨Lc2, hQ2, l2, y2, z2⟩, st2⟩ := Jvm.LawKit.callS X1 hx (y := own_m11) hown (mvT hZ (own_w G 98 rfl)) (mvT hZ (own_w G 99 rfl)) (mvT hZ (own_w G 39 rfl)) (mvT hZ (own_w G 100 rfl)) (by decide) (backOf (W := 0) (rmgc l Z a0 G [] t kb N vs dv i J c h0 n0 O0 P0 P4 P5 P6 P7 P8 P9 P10 P11) hZ (own_w G 100 rfl) (own_w G 39 rfl) (by decide) (by decide)) (g := (mkF m 7 #[.val (.ref t), .val (.int i)] [(.int i), (.ref t)])) rfl (by rw [hml]; rfl) (argsL := [(.ref t), (.int i)]) (rest := []) (lenOf pd_6 rfl) rfl (by show 2 * 0 + _ ≤ _; exact Nat.le_of_eq rfl) (hb hby d12_7) (fun _ _ => ⟨rfl, eh1, (by decide : 0 + 0 ≤ _), (by decide : 0 + 0 ≤ _)⟩)
  dsimp only [Pt.U, Pt.locs, Pt.cells, Pt.slots] at X2 l2 y2 z2 st2 hQ2
  subst l2 y2 z2
  obtain ⟨rfl, N2q, eh2⟩ := hQ2
  have N2 := Fr.app N1 N2q
  refine OwnEnd.of (S' := T2.setTop (mkF m 10 #[.val (.ref t), .val (.int i)] [(.int c)])) st2 ?_
  refine OwnEnd.ret X2 (v := (some (.int (nar .char c)))) (fun h => by rw [Bd.returns] at h; cases h) hlk (fun fs hr => retN X2 hx (t := .char) Bd.returns (by simp) (hb hby d12_10) hr) (by decide) (by decide) (Q := (own_Qint c) h0 n0) eh2 ?_
  exact ⟨(congrArg (fun z => some (Value.int z)) (own_narc P11.1 P11.2)), N2, rfl⟩

theorem own_efcA1 (m : MethodId) (x0 : Addr) (i : Int32) : entryFrame m #[(.ref x0), (.int i)] 2 = mkF m 0 #[.val (.ref x0), .val (.int i)] [] := by first | (simp [entryFrame, mkF, argsToLocals, Value.category]; done) | rfl
set_option maxRecDepth 65536 in
set_option maxHeartbeats 40000000 in
theorem rmcA1 (l : Launch) (Z : State) (a0 : Array Value) (G : OwnG Z a0) (ws : List Jvm.Cond) (x0 : Addr) (t : Addr) (kb : ClassId) (N : Int32) (vs : List Value) (dv : Value) (i : Int32) (M : Int32) (J : Int32) (c : Int32) (h0 : Heap) (n0 : Nat) (O0 : Old Z n0 h0) (P0 : Exa Z h0 x0 "java/lang/String") (P1 : Fld Z h0 x0 "java/lang/String" "value" "[B" (.ref t)) (P2 : Fld Z h0 x0 "java/lang/String" "coder" "B" (.int (1 : Int32))) (P3 : Arv Z h0 t kb .byte N vs dv) (P4 : N >>> ((1 : Int32) &&& 31) = M) (P5 : ¬ i < (0 : Int32)) (P6 : i < M) (P7 : i <<< ((1 : Int32) &&& 31) = J) (P8 : ¬ J < (0 : Int32)) (P9 : J < N) (P10 : ¬ (J + (1 : Int32)) < (0 : Int32)) (P11 : (J + (1 : Int32)) < N) (P12 : vs.getD J.toNatClampNeg dv = (.int (StrChars.lo8 c))) (P13 : vs.getD (J + (1 : Int32)).toNatClampNeg dv = (.int (StrChars.hi8 c))) (P14 : ¬ c < (0 : Int32) ∧ ¬ (65535 : Int32) < c) :
    MetFree l own_m13 (head1 (Jvm.Cond.code own_m13 jdk_42_method_56_code 2 (some .char) :: ws) ({ frames := 4, cells := 0, slots := 0, locals := 53 } : Room)) (fun a U => a = #[(.ref x0), (.int i)] ∧ Z.Warmed39 U.vm ∧ U.heap = h0) (fun _ _ _ _ _ => True) (fun _ U o U' => ∃ v L, o = .returned v ∧ (own_Qint c) h0 n0 v U'.heap L ∧ FrameEnd U o U' L ({ frames := 4, cells := 0, slots := 0, locals := 53 } : Room).cells ({ frames := 4, cells := 0, slots := 0, locals := 53 } : Room).slots) := by
  refine MetFree.of_bodySF (plainFor_of_name pn_0) hisR ?_
  intro p e s m args below meth cD s₁ Bd hml0 hP hK
  obtain ⟨rfl, hZ, hh⟩ := hP
  have hw := G.1
  have hx := Bd.exec
  have hby := Bd.bytes
  have hml : cD.maxLocals = 2 := hml0
  have hown : s.vm.findClass "java/lang/String" = some m.cls := findClass_of_methodNamed Bd.named
  have hnm := (name_of_methodNamed Bd.named Bd.method).1
  have hlk := Bd.notSynchronized
  have X0 : Stand p l e ({ frames := 4, cells := 0, slots := 0, locals := 53 } : Room) s m #[(.ref x0), (.int i)] below meth cD s₁ [] 0 0 := Stand.of_body Bd
  have e0 : s₁.heap = h0 := by rw [← hh, Bd.state]; rfl
  have lt0 := own_ltN' P0.lt
  have lt1 := own_ltN' P1.lt
  have lt2 := own_ltN' P2.lt
  have lt3 := own_ltN' P3.lt
  have K0 : Keep h0 h0 [] := Keep.refl h0 _
  have Z0 := own_old_le O0
  have N0 := Fr.nil n0
  refine OwnEnd.start (g' := (mkF m 0 #[.val (.ref x0), .val (.int i)] [])) (own_efcA1 m x0 i) ?_
  refine OwnEnd.of (S' := s₁.setTop (mkF m 1 #[.val (.ref x0), .val (.int i)] [(.ref x0)])) (fun _ kK => XS.aloadN X0.here hx rfl (hb hby d13_0) rfl rfl kK) ?_
  obtain ⟨cq1, kq1, q1a, q1b, q1c⟩ := isOf hZ e0 P0
  obtain ⟨_, _, ⟨T1, L1, k1, n1⟩, -, X1, ⟨Lc1, hQ1, l1, y1, z1⟩, st1⟩ := X0.virtualBack hx (y := own_m4) (z := own_m4) hown (mvT hZ (own_w G 65 rfl)) (mvT hZ (own_w G 66 rfl)) (notFace_of_selects (args := #[]) (mvT hZ (own_w G 68 rfl))) (mvT hZ (own_w G 68 rfl)) (mvT hZ (own_w G 67 rfl)) (by decide) (backOf (W := 0) (rmil1 l Z a0 G [] x0 h0 n0 O0 P2) hZ (own_w G 69 rfl) (own_w G 3 rfl) (by decide) (by decide)) q1a q1c (g := (mkF m 1 #[.val (.ref x0), .val (.int i)] [(.ref x0)])) rfl (by rw [hml]; rfl) (Steps.refl _) (argsL := []) (rest := []) (lenOf pd_7 rfl) rfl (by show 2 * 0 + _ ≤ _; exact Nat.le_of_eq rfl) (hb hby d13_1) (fun _ _ => ⟨rfl, e0, (by decide : 0 + 0 ≤ _), (by decide : 0 + 0 ≤ _)⟩)
  dsimp only [Pt.U, Pt.locs, Pt.cells, Pt.slots] at X1 l1 y1 z1 st1 hQ1
  subst l1 y1 z1
  obtain ⟨rfl, N1q, eh1⟩ := hQ1
  have N1 := Fr.app N0 N1q
  refine OwnEnd.tr (S' := T1.setTop (mkF m 4 #[.val (.ref x0), .val (.int i)] [(.int (0 : Int32))])) st1 ?_
  refine OwnEnd.of (S' := T1.setTop (mkF m 17 #[.val (.ref x0), .val (.int i)] [(.ref x0)])) (fun _ kK => XS.ifYes X1.here hx rfl (pc0 := 4) (pc' := 16) rfl (hb hby d13_4) rfl ((if0 _ _).trans (teq ((by decide : (0 : Int32) = (0 : Int32)))).1) (by decide) (by decide) (XS.aloadN X1.here hx rfl (hb hby d13_16) rfl rfl kK)) ?_
  obtain ⟨T2, X2, e2, st2⟩ := getF X1 hx hZ hown (host := "") (Or.inl (own_w G 25 rfl)) Via.refl eh1 P1 (g := (mkF m 17 #[.val (.ref x0), .val (.int i)] [(.ref x0)])) rfl rfl (hb hby d13_17)
  refine OwnEnd.of (S' := T2.setTop (mkF m 20 #[.val (.ref x0), .val (.int i)] [(.ref t)])) st2 ?_
  refine OwnEnd.of (S' := T2.setTop (mkF m 21 #[.val (.ref x0), .val (.int i)] [(.int i), (.ref t)])) (fun _ kK => XS.iloadN X2.here hx rfl (hb hby d13_20) rfl kK) ?_
  obtain ⟨_, _, ⟨T3, L3, k3, n3⟩, -, X3, ⟨Lc3, hQ3, l3, y3, z3⟩, st3⟩ := Jvm.LawKit.callS X2 hx (y := own_m12) hown (mvT hZ (own_w G 101 rfl)) (mvT hZ (own_w G 102 rfl)) (mvT hZ (own_w G 39 rfl)) (mvT hZ (own_w G 103 rfl)) (by decide) (backOf (W := 0) (rmca l Z a0 G [] t kb N vs dv i M J c h0 n0 O0 P3 P4 P5 P6 P7 P8 P9 P10 P11 P12 P13 P14) hZ (own_w G 103 rfl) (own_w G 39 rfl) (by decide) (by decide)) (g := (mkF m 21 #[.val (.ref x0), .val (.int i)] [(.int i), (.ref t)])) rfl (by rw [hml]; rfl) (argsL := [(.ref t), (.int i)]) (rest := []) (lenOf pd_6 rfl) rfl (by show 2 * 0 + _ ≤ _; exact Nat.le_of_eq rfl) (hb hby d13_21) (fun _ _ => ⟨rfl, e2, (by decide : 0 + 0 ≤ _), (by decide : 0 + 0 ≤ _)⟩)
  dsimp only [Pt.U, Pt.locs, Pt.cells, Pt.slots] at X3 l3 y3 z3 st3 hQ3
  subst l3 y3 z3
  obtain ⟨rfl, N3q, eh3⟩ := hQ3
  have N3 := Fr.app N1 N3q
  refine OwnEnd.of (S' := T3.setTop (mkF m 24 #[.val (.ref x0), .val (.int i)] [(.int c)])) st3 ?_
  refine OwnEnd.ret X3 (v := (some (.int (nar .char c)))) (fun h => by rw [Bd.returns] at h; cases h) hlk (fun fs hr => retN X3 hx (t := .char) Bd.returns (by simp) (hb hby d13_24) hr) (by decide) (by decide) (Q := (own_Qint c) h0 n0) eh3 ?_
  exact ⟨(congrArg (fun z => some (Value.int z)) (own_narc P14.1 P14.2)), N3, rfl⟩

theorem own_efcA0 (m : MethodId) (x0 : Addr) (i : Int32) : entryFrame m #[(.ref x0), (.int i)] 2 = mkF m 0 #[.val (.ref x0), .val (.int i)] [] := by first | (simp [entryFrame, mkF, argsToLocals, Value.category]; done) | rfl
set_option maxRecDepth 65536 in
set_option maxHeartbeats 40000000 in
theorem rmcA0 (l : Launch) (Z : State) (a0 : Array Value) (G : OwnG Z a0) (ws : List Jvm.Cond) (x0 : Addr) (t : Addr) (kb : ClassId) (N : Int32) (vs : List Value) (dv : Value) (i : Int32) (c : Int32) (h0 : Heap) (n0 : Nat) (O0 : Old Z n0 h0) (P0 : Exa Z h0 x0 "java/lang/String") (P1 : Fld Z h0 x0 "java/lang/String" "value" "[B" (.ref t)) (P2 : Fld Z h0 x0 "java/lang/String" "coder" "B" (.int (0 : Int32))) (P3 : Arv Z h0 t kb .byte N vs dv) (P4 : ¬ i < (0 : Int32)) (P5 : i < N) (P6 : vs.getD i.toNatClampNeg dv = (.int (StrChars.lo8 c))) (P7 : ¬ c < (0 : Int32) ∧ ¬ (255 : Int32) < c) :
    MetFree l own_m13 (head1 (Jvm.Cond.code own_m13 jdk_42_method_56_code 2 (some .char) :: ws) ({ frames := 4, cells := 0, slots := 0, locals := 53 } : Room)) (fun a U => a = #[(.ref x0), (.int i)] ∧ Z.Warmed39 U.vm ∧ U.heap = h0) (fun _ _ _ _ _ => True) (fun _ U o U' => ∃ v L, o = .returned v ∧ (own_Qint c) h0 n0 v U'.heap L ∧ FrameEnd U o U' L ({ frames := 4, cells := 0, slots := 0, locals := 53 } : Room).cells ({ frames := 4, cells := 0, slots := 0, locals := 53 } : Room).slots) := by
  refine MetFree.of_bodySF (plainFor_of_name pn_0) hisR ?_
  intro p e s m args below meth cD s₁ Bd hml0 hP hK
  obtain ⟨rfl, hZ, hh⟩ := hP
  have hw := G.1
  have hx := Bd.exec
  have hby := Bd.bytes
  have hml : cD.maxLocals = 2 := hml0
  have hown : s.vm.findClass "java/lang/String" = some m.cls := findClass_of_methodNamed Bd.named
  have hnm := (name_of_methodNamed Bd.named Bd.method).1
  have hlk := Bd.notSynchronized
  have X0 : Stand p l e ({ frames := 4, cells := 0, slots := 0, locals := 53 } : Room) s m #[(.ref x0), (.int i)] below meth cD s₁ [] 0 0 := Stand.of_body Bd
  have e0 : s₁.heap = h0 := by rw [← hh, Bd.state]; rfl
  have lt0 := own_ltN' P0.lt
  have lt1 := own_ltN' P1.lt
  have lt2 := own_ltN' P2.lt
  have lt3 := own_ltN' P3.lt
  have K0 : Keep h0 h0 [] := Keep.refl h0 _
  have Z0 := own_old_le O0
  have N0 := Fr.nil n0
  refine OwnEnd.start (g' := (mkF m 0 #[.val (.ref x0), .val (.int i)] [])) (own_efcA0 m x0 i) ?_
  refine OwnEnd.of (S' := s₁.setTop (mkF m 1 #[.val (.ref x0), .val (.int i)] [(.ref x0)])) (fun _ kK => XS.aloadN X0.here hx rfl (hb hby d13_0) rfl rfl kK) ?_
  obtain ⟨cq1, kq1, q1a, q1b, q1c⟩ := isOf hZ e0 P0
  obtain ⟨_, _, ⟨T1, L1, k1, n1⟩, -, X1, ⟨Lc1, hQ1, l1, y1, z1⟩, st1⟩ := X0.virtualBack hx (y := own_m4) (z := own_m4) hown (mvT hZ (own_w G 65 rfl)) (mvT hZ (own_w G 66 rfl)) (notFace_of_selects (args := #[]) (mvT hZ (own_w G 68 rfl))) (mvT hZ (own_w G 68 rfl)) (mvT hZ (own_w G 67 rfl)) (by decide) (backOf (W := 0) (rmil0 l Z a0 G [] x0 h0 n0 O0 P2) hZ (own_w G 69 rfl) (own_w G 3 rfl) (by decide) (by decide)) q1a q1c (g := (mkF m 1 #[.val (.ref x0), .val (.int i)] [(.ref x0)])) rfl (by rw [hml]; rfl) (Steps.refl _) (argsL := []) (rest := []) (lenOf pd_7 rfl) rfl (by show 2 * 0 + _ ≤ _; exact Nat.le_of_eq rfl) (hb hby d13_1) (fun _ _ => ⟨rfl, e0, (by decide : 0 + 0 ≤ _), (by decide : 0 + 0 ≤ _)⟩)
  dsimp only [Pt.U, Pt.locs, Pt.cells, Pt.slots] at X1 l1 y1 z1 st1 hQ1
  subst l1 y1 z1
  obtain ⟨rfl, N1q, eh1⟩ := hQ1
  have N1 := Fr.app N0 N1q
  refine OwnEnd.tr (S' := T1.setTop (mkF m 4 #[.val (.ref x0), .val (.int i)] [(.int (1 : Int32))])) st1 ?_
  refine OwnEnd.of (S' := T1.setTop (mkF m 8 #[.val (.ref x0), .val (.int i)] [(.ref x0)])) (fun _ kK => XS.ifNo X1.here hx rfl (hb hby d13_4) rfl ((if0 _ _).trans (feq ((by decide : ¬ ((1 : Int32) = (0 : Int32))))).1) (XS.aloadN X1.here hx rfl (hb hby d13_7) rfl rfl kK)) ?_
  obtain ⟨T2, X2, e2, st2⟩ := getF X1 hx hZ hown (host := "") (Or.inl (own_w G 25 rfl)) Via.refl eh1 P1 (g := (mkF m 8 #[.val (.ref x0), .val (.int i)] [(.ref x0)])) rfl rfl (hb hby d13_8)
  refine OwnEnd.of (S' := T2.setTop (mkF m 11 #[.val (.ref x0), .val (.int i)] [(.ref t)])) st2 ?_
  refine OwnEnd.of (S' := T2.setTop (mkF m 12 #[.val (.ref x0), .val (.int i)] [(.int i), (.ref t)])) (fun _ kK => XS.iloadN X2.here hx rfl (hb hby d13_11) rfl kK) ?_
  obtain ⟨_, _, ⟨T3, L3, k3, n3⟩, -, X3, ⟨Lc3, hQ3, l3, y3, z3⟩, st3⟩ := Jvm.LawKit.callS X2 hx (y := own_m8) hown (mvT hZ (own_w G 70 rfl)) (mvT hZ (own_w G 71 rfl)) (mvT hZ (own_w G 72 rfl)) (mvT hZ (own_w G 73 rfl)) (by decide) (backOf (W := 0) (rmcl l Z a0 G [] t kb N vs dv i c h0 n0 O0 P3 P4 P5 P6 P7) hZ (own_w G 73 rfl) (own_w G 72 rfl) (by decide) (by decide)) (g := (mkF m 12 #[.val (.ref x0), .val (.int i)] [(.int i), (.ref t)])) rfl (by rw [hml]; rfl) (argsL := [(.ref t), (.int i)]) (rest := []) (lenOf pd_6 rfl) rfl (by show 2 * 0 + _ ≤ _; exact Nat.le_of_eq rfl) (hb hby d13_12) (fun _ _ => ⟨rfl, e2, (by decide : 0 + 0 ≤ _), (by decide : 0 + 0 ≤ _)⟩)
  dsimp only [Pt.U, Pt.locs, Pt.cells, Pt.slots] at X3 l3 y3 z3 st3 hQ3
  subst l3 y3 z3
  obtain ⟨rfl, N3q, eh3⟩ := hQ3
  have N3 := Fr.app N1 N3q
  refine OwnEnd.of (S' := T3.setTop (mkF m 15 #[.val (.ref x0), .val (.int i)] [(.int c)])) st3 ?_
  refine OwnEnd.ret X3 (v := (some (.int (nar .char c)))) (fun h => by rw [Bd.returns] at h; cases h) hlk (fun fs hr => retN X3 hx (t := .char) Bd.returns (by simp) (hb hby d13_15) hr) (by decide) (by decide) (Q := (own_Qint c) h0 n0) eh3 ?_
  exact ⟨(congrArg (fun z => some (Value.int z)) (own_narc P7.1 (own_255 P7.2))), N3, rfl⟩

set_option maxRecDepth 65536 in
set_option maxHeartbeats 40000000 in
theorem rmcAB (l : Launch) (Z : State) (a0 : Array Value) (G : OwnG Z a0) (ws : List Jvm.Cond) (x0 t : Addr) (kb : ClassId) (N : Int32) (vs : List Value) (dv : Value) (cd : Int32) (cs : List Int32) (i : Int32) (k : Nat) (h0 : Heap) (n0 : Nat) (O0 : Old Z n0 h0) (P0 : Exa Z h0 x0 "java/lang/String") (P1 : Fld Z h0 x0 "java/lang/String" "value" "[B" (.ref t)) (P2 : Fld Z h0 x0 "java/lang/String" "coder" "B" (.int cd)) (P3 : Arv Z h0 t kb .byte N vs dv) (H : StrChars.Road.CodA cs cd N vs) (HR : ∀ c ∈ cs, ¬ c < (0 : Int32) ∧ ¬ (65535 : Int32) < c) (hl : cs.length ≤ 4000) (hk : k < cs.length) (hi : i = Int32.ofNat k) : MetFree l own_m13 (head1 (Jvm.Cond.code own_m13 jdk_42_method_56_code 2 (some .char) :: ws) ({ frames := 4, cells := 0, slots := 0, locals := 53 } : Room)) (fun a U => a = #[(.ref x0), (.int i)] ∧ Z.Warmed39 U.vm ∧ U.heap = h0) (fun _ _ _ _ _ => True) (fun _ U o U' => ∃ v L, o = .returned v ∧ own_Qint (cs.getD k 0) h0 n0 v U'.heap L ∧ FrameEnd U o U' L ({ frames := 4, cells := 0, slots := 0, locals := 53 } : Room).cells ({ frames := 4, cells := 0, slots := 0, locals := 53 } : Room).slots) := by
  subst hi
  have hm : cs.getD k 0 ∈ cs := own_getD_mem hk
  rcases H with ⟨rfl, rfl, rfl, h⟩ | ⟨rfl, rfl, rfl, -⟩
  · exact rmcA0 l Z a0 G ws x0 t kb _ _ dv _ (cs.getD k 0) h0 n0 O0 P0 P1 P2 P3 (own_nn (by omega)) (own_ltN hk (by omega)) (by rw [own_clamp (by omega)]; exact StrChars.Road.low_at dv cs k hk) ⟨(HR _ hm).1, h _ hm⟩
  · exact rmcA1 l Z a0 G ws x0 t kb _ _ dv _ _ (Int32.ofNat (2 * k)) (cs.getD k 0) h0 n0 O0 P0 P1 P2 P3 (own_half hl) (own_nn (by omega)) (own_ltN hk (by omega)) (own_dbl (by omega)) (own_nn (by omega)) (own_ltN (by omega) (by omega)) (by rw [own_inc (by omega)]; exact own_nn (by omega)) (by rw [own_inc (by omega)]; exact own_ltN (by omega) (by omega)) (by rw [own_clamp (by omega)]; exact StrChars.Road.wide_lo dv cs k hk) (by rw [own_inc (by omega), own_clamp (by omega)]; exact StrChars.Road.wide_hi dv cs k hk) (HR _ hm)

theorem own_efnl (m : MethodId) (n : Int32) : entryFrame m #[(.int n)] 1 = mkF m 0 #[.val (.int n)] [] := by first | (simp [entryFrame, mkF, argsToLocals, Value.category]; done) | rfl
set_option maxRecDepth 65536 in
set_option maxHeartbeats 40000000 in
theorem rmnl (l : Launch) (Z : State) (a0 : Array Value) (G : OwnG Z a0) (ws : List Jvm.Cond) (n : Int32) (M : Int32) (h0 : Heap) (n0 : Nat) (O0 : Old Z n0 h0) (P0 : ¬ n < (0 : Int32)) (P1 : n < (1073741823 : Int32)) (P2 : n <<< ((1 : Int32) &&& 31) = M) :
    MetFree l own_m14 (head1 (Jvm.Cond.code own_m14 jdk_52_method_3_code 1 (some .int) :: ws) ({ frames := 0, cells := 0, slots := 0, locals := 0 } : Room)) (fun a U => a = #[(.int n)] ∧ Z.Warmed39 U.vm ∧ U.heap = h0) (fun _ _ _ _ _ => True) (fun _ U o U' => ∃ v L, o = .returned v ∧ (own_Qint M) h0 n0 v U'.heap L ∧ FrameEnd U o U' L ({ frames := 0, cells := 0, slots := 0, locals := 0 } : Room).cells ({ frames := 0, cells := 0, slots := 0, locals := 0 } : Room).slots) := by
  refine MetFree.of_bodySF (plainFor_of_name pn_3) hisR ?_
  intro p e s m args below meth cD s₁ Bd hml0 hP hK
  obtain ⟨rfl, hZ, hh⟩ := hP
  have hw := G.1
  have hx := Bd.exec
  have hby := Bd.bytes
  have hml : cD.maxLocals = 1 := hml0
  have hown : s.vm.findClass "java/lang/StringUTF16" = some m.cls := findClass_of_methodNamed Bd.named
  have hnm := (name_of_methodNamed Bd.named Bd.method).1
  have hlk := Bd.notSynchronized
  have X0 : Stand p l e ({ frames := 0, cells := 0, slots := 0, locals := 0 } : Room) s m #[(.int n)] below meth cD s₁ [] 0 0 := Stand.of_body Bd
  have e0 : s₁.heap = h0 := by rw [← hh, Bd.state]; rfl
  have K0 : Keep h0 h0 [] := Keep.refl h0 _
  have Z0 := own_old_le O0
  have N0 := Fr.nil n0
  refine OwnEnd.start (g' := (mkF m 0 #[.val (.int n)] [])) (own_efnl m n) ?_
  refine OwnEnd.of (S' := s₁.setTop (mkF m 13 #[.val (.int n)] [(.int n)])) (fun _ kK => XS.iloadN X0.here hx rfl (hb hby d14_0) rfl (XS.ifYes X0.here hx rfl (pc0 := 1) (pc' := 12) rfl (hb hby d14_1) rfl ((if0 _ _).trans (flt (P0)).2.1) (by decide) (by decide) (XS.iloadN X0.here hx rfl (hb hby d14_12) rfl kK))) ?_
  refine OwnEnd.of (S' := s₁.setTop (mkF m 15 #[.val (.int n)] [(.int (1073741823 : Int32)), (.int n)])) (fun _ kK => X0.ldcInt hx hown (mvT hZ (own_w G 91 rfl)) (g := (mkF m 13 #[.val (.int n)] [(.int n)])) rfl (hb hby d14_13) _ kK) ?_
  refine OwnEnd.of (S' := s₁.setTop (mkF m 58 #[.val (.int n)] [(.int (n <<< ((1 : Int32) &&& 31)))])) (fun _ kK => XS.icmpYes X0.here hx rfl (pc0 := 15) (pc' := 55) rfl (hb hby d14_15) rfl (tlt (P1)).1 (by decide) (by decide) (XS.iloadN X0.here hx rfl (hb hby d14_55) rfl (XS.iconst X0.here hx rfl (hb hby d14_56) (XS.ishl X0.here hx rfl (hb hby d14_57) rfl kK)))) ?_
  refine OwnEnd.ret X0 (v := (some (.int (n <<< ((1 : Int32) &&& 31))))) (fun h => by rw [Bd.returns] at h; cases h) hlk (fun fs hr => retOut X0 hx Bd.returns rfl (Or.inl ⟨rfl, Or.inl rfl, _, rfl⟩) (hb hby d14_58) hr) (by decide) (by decide) (Q := (own_Qint M) h0 n0) e0 ?_
  exact ⟨(congrArg (fun z => some (Value.int z)) P2), N0, rfl⟩

theorem own_efpu0 (m : MethodId) (t : Addr) (c : Int32) : entryFrame m #[(.ref t), (.int (0 : Int32)), (.int c)] 3 = mkF m 0 #[.val (.ref t), .val (.int (0 : Int32)), .val (.int c)] [] := by first | (simp [entryFrame, mkF, argsToLocals, Value.category]; done) | rfl
def Qpu0 (Z : State) (t : Addr) (kb : ClassId) (N : Int32) (vs : List Value) (dv : Value) (c : Int32) (h0 : Heap) (n0 : Nat) (v : Option Value) (h : Heap) (L : List Loc) : Prop := v = none ∧ Fr n0 L ∧ Keep h0 h [t] ∧ (Arv Z h t kb .byte N ((vs.set 0 (.int (StrChars.lo8 c))).set 1 (.int (StrChars.hi8 c))) dv)
set_option maxRecDepth 65536 in
set_option maxHeartbeats 40000000 in
theorem rmpu0 (l : Launch) (Z : State) (a0 : Array Value) (G : OwnG Z a0) (ws : List Jvm.Cond) (t : Addr) (kb : ClassId) (N : Int32) (vs : List Value) (dv : Value) (c : Int32) (h0 : Heap) (n0 : Nat) (O0 : Old Z n0 h0) (P0 : Arv Z h0 t kb .byte N vs dv) (P1 : (0 : Int32) < N) (P2 : (1 : Int32) < N) (P3 : 1 < vs.length) (P4 : n0 ≤ t) :
    MetFree l own_m15 (head1 (Jvm.Cond.code own_m15 jdk_52_method_4_code 3 none :: ws) ({ frames := 0, cells := 0, slots := 0, locals := 0 } : Room)) (fun a U => a = #[(.ref t), (.int (0 : Int32)), (.int c)] ∧ Z.Warmed39 U.vm ∧ U.heap = h0) (fun _ _ _ _ _ => True) (fun _ U o U' => ∃ v L, o = .returned v ∧ Qpu0 Z t kb N vs dv c h0 n0 v U'.heap L ∧ FrameEnd U o U' L ({ frames := 0, cells := 0, slots := 0, locals := 0 } : Room).cells ({ frames := 0, cells := 0, slots := 0, locals := 0 } : Room).slots) := by
  refine MetFree.of_bodySF (plainFor_of_name pn_3) hisR ?_
  intro p e s m args below meth cD s₁ Bd hml0 hP hK
  obtain ⟨rfl, hZ, hh⟩ := hP
  have hw := G.1
  have hx := Bd.exec
  have hby := Bd.bytes
  have hml : cD.maxLocals = 3 := hml0
  have hown : s.vm.findClass "java/lang/StringUTF16" = some m.cls := findClass_of_methodNamed Bd.named
  have hnm := (name_of_methodNamed Bd.named Bd.method).1
  have hlk := Bd.notSynchronized
  have X0 : Stand p l e ({ frames := 0, cells := 0, slots := 0, locals := 0 } : Room) s m #[(.ref t), (.int (0 : Int32)), (.int c)] below meth cD s₁ [] 0 0 := Stand.of_body Bd
  have e0 : s₁.heap = h0 := by rw [← hh, Bd.state]; rfl
  have lt0 := own_ltN' P0.lt
  have K0 : Keep h0 h0 [t] := Keep.refl h0 _
  have Z0 := own_old_le O0
  have N0 := Fr.nil n0
  have SAD := own_ad G
  have SHI := own_hi G
  have SLO := own_lo G
  refine OwnEnd.start (g' := (mkF m 0 #[.val (.ref t), .val (.int (0 : Int32)), .val (.int c)] [])) (own_efpu0 m t c) ?_
  obtain ⟨T1, X1, e1, st1⟩ := getS2 X0 hx hZ hown (host := "") (Or.inl (own_w G 95 rfl)) Via.refl e0 (SAD.ext O0.2) (g := (mkF m 0 #[.val (.ref t), .val (.int (0 : Int32)), .val (.int c)] [])) rfl (hb hby d15_0)
  refine OwnEnd.of (S' := T1.setTop (mkF m 3 #[.val (.ref t), .val (.int (0 : Int32)), .val (.int c)] [(.int (1 : Int32))])) st1 ?_
  refine OwnEnd.of (S' := T1.setTop (mkF m 38 #[.val (.ref t), .val (.int (1 : Int32)), .val (.int c)] [(.int c), (.int (0 : Int32)), (.ref t)])) (fun _ kK => XS.ifYes X1.here hx rfl (pc0 := 3) (pc' := 28) rfl (hb hby d15_3) rfl ((if0 _ _).trans (feq ((by decide : ¬ ((1 : Int32) = (0 : Int32))))).2) (by decide) (by decide) (XS.iloadN X1.here hx rfl (hb hby d15_28) rfl (XS.iconst X1.here hx rfl (hb hby d15_29) (XS.ishl X1.here hx rfl (hb hby d15_30) rfl (XS.istoreN X1.here hx rfl (hb hby d15_31) rfl (l' := #[.val (.ref t), .val (.int (0 : Int32)), .val (.int c)]) rfl (XS.aloadN X1.here hx rfl (hb hby d15_32) rfl rfl (XS.iloadN X1.here hx rfl (hb hby d15_33) rfl (XS.iinc X1.here hx rfl (hb hby d15_34) rfl (l' := #[.val (.ref t), .val (.int (1 : Int32)), .val (.int c)]) rfl (XS.iloadN X1.here hx rfl (hb hby d15_37) rfl kK))))))))) ?_
  obtain ⟨T2, X2, e2, st2⟩ := getS2 X1 hx hZ hown (host := "") (Or.inl (own_w G 96 rfl)) Via.refl e1 (SHI.ext O0.2) (g := (mkF m 38 #[.val (.ref t), .val (.int (1 : Int32)), .val (.int c)] [(.int c), (.int (0 : Int32)), (.ref t)])) rfl (hb hby d15_38)
  refine OwnEnd.of (S' := T2.setTop (mkF m 41 #[.val (.ref t), .val (.int (1 : Int32)), .val (.int c)] [(.int (0 : Int32)), (.int c), (.int (0 : Int32)), (.ref t)])) st2 ?_
  refine OwnEnd.of (S' := T2.setTop (mkF m 43 #[.val (.ref t), .val (.int (1 : Int32)), .val (.int c)] [(.int (nar .byte (c >>> ((0 : Int32) &&& 31)))), (.int (0 : Int32)), (.ref t)])) (fun _ kK => XS.ishr X2.here hx rfl (hb hby d15_41) rfl (XS.i2b X2.here hx rfl (hb hby d15_42) rfl kK)) ?_
  obtain ⟨cl3, Ar3, q3, S3, N3', H3, G3⟩ := id P0
  have hin4 : ¬ ((0 : Int32) < 0 ∨ cl3.slots.size ≤ ((0 : Int32)).toNatClampNeg) := inb_of S3 ⟨by decide, P1⟩
  obtain ⟨T4, h4, X4, e4, W4, st4⟩ := stB X2 hx hZ e2 Ar3 (j := (0 : Int32)) hin4 (g := (mkF m 43 #[.val (.ref t), .val (.int (1 : Int32)), .val (.int c)] [(.int (nar .byte (c >>> ((0 : Int32) &&& 31)))), (.int (0 : Int32)), (.ref t)])) rfl rfl (hb hby d15_43)
  have N4 := Fr.snoc X4 N0 (by omega)
  have sz5 := own_wr_le W4
  have K5 := K0.wr W4 (Or.inl (by simp))
  have O5 := O0.wr W4 (by omega)
  have V4 : Arv Z h4 t kb .byte N ((vs).set 0 (.int (nar .byte (nar .byte (c >>> ((0 : Int32) &&& 31)))))) dv := Arv.set Ar3 q3 S3 N3' H3 G3 (fits_nar_byte _) W4 0 rfl (Nat.lt_of_le_of_lt (Nat.le_succ _) P3)
  refine OwnEnd.of (S' := T4.setTop (mkF m 44 #[.val (.ref t), .val (.int (1 : Int32)), .val (.int c)] [])) st4 ?_
  refine OwnEnd.of (S' := T4.setTop (mkF m 47 #[.val (.ref t), .val (.int (1 : Int32)), .val (.int c)] [(.int c), (.int (1 : Int32)), (.ref t)])) (fun _ kK => XS.aloadN X4.here hx rfl (hb hby d15_44) rfl rfl (XS.iloadN X4.here hx rfl (hb hby d15_45) rfl (XS.iloadN X4.here hx rfl (hb hby d15_46) rfl kK))) ?_
  obtain ⟨T6, X6, e6, st6⟩ := getS2 X4 hx hZ hown (host := "") (Or.inl (own_w G 97 rfl)) Via.refl e4 (SLO.ext O5.2) (g := (mkF m 47 #[.val (.ref t), .val (.int (1 : Int32)), .val (.int c)] [(.int c), (.int (1 : Int32)), (.ref t)])) rfl (hb hby d15_47)
  refine OwnEnd.of (S' := T6.setTop (mkF m 50 #[.val (.ref t), .val (.int (1 : Int32)), .val (.int c)] [(.int (8 : Int32)), (.int c), (.int (1 : Int32)), (.ref t)])) st6 ?_
  refine OwnEnd.of (S' := T6.setTop (mkF m 52 #[.val (.ref t), .val (.int (1 : Int32)), .val (.int c)] [(.int (nar .byte (c >>> ((8 : Int32) &&& 31)))), (.int (1 : Int32)), (.ref t)])) (fun _ kK => XS.ishr X6.here hx rfl (hb hby d15_50) rfl (XS.i2b X6.here hx rfl (hb hby d15_51) rfl kK)) ?_
  obtain ⟨cl7, Ar7, q7, S7, N7', H7, G7⟩ := id V4
  have hin8 : ¬ ((1 : Int32) < 0 ∨ cl7.slots.size ≤ ((1 : Int32)).toNatClampNeg) := inb_of S7 ⟨by decide, P2⟩
  obtain ⟨T8, h8, X8, e8, W8, st8⟩ := stB X6 hx hZ e6 Ar7 (j := (1 : Int32)) hin8 (g := (mkF m 52 #[.val (.ref t), .val (.int (1 : Int32)), .val (.int c)] [(.int (nar .byte (c >>> ((8 : Int32) &&& 31)))), (.int (1 : Int32)), (.ref t)])) rfl rfl (hb hby d15_52)
  have N8 := Fr.snoc X8 N4 (by omega)
  have sz9 := own_wr_le W8
  have K9 := K5.wr W8 (Or.inl (by simp))
  have O9 := O5.wr W8 (by omega)
  have V8 : Arv Z h8 t kb .byte N ((((vs).set 0 (.int (nar .byte (nar .byte (c >>> ((0 : Int32) &&& 31))))))).set 1 (.int (nar .byte (nar .byte (c >>> ((8 : Int32) &&& 31)))))) dv := Arv.set Ar7 q7 S7 N7' H7 G7 (fits_nar_byte _) W8 1 rfl (by simpa using P3)
  refine OwnEnd.of (S' := T8.setTop (mkF m 53 #[.val (.ref t), .val (.int (1 : Int32)), .val (.int c)] [])) st8 ?_
  have V10 : Arv Z h8 t kb .byte N ((vs.set 0 (.int (StrChars.lo8 c))).set 1 (.int (StrChars.hi8 c))) dv := by have q := V8; rw [own_b0, own_b8] at q; exact q
  refine OwnEnd.ret X8 (v := none) (fun _ => rfl) hlk (fun fs hr => X8.returnOut hx Bd.returns (hb hby d15_53) hr) (by decide) (by decide) (Q := Qpu0 Z t kb N vs dv c h0 n0) e8 ?_
  exact ⟨rfl, N8, K9, V10⟩

theorem own_efpu1 (m : MethodId) (t : Addr) (c : Int32) : entryFrame m #[(.ref t), (.int (1 : Int32)), (.int c)] 3 = mkF m 0 #[.val (.ref t), .val (.int (1 : Int32)), .val (.int c)] [] := by first | (simp [entryFrame, mkF, argsToLocals, Value.category]; done) | rfl
def Qpu1 (Z : State) (t : Addr) (kb : ClassId) (N : Int32) (vs : List Value) (dv : Value) (c : Int32) (h0 : Heap) (n0 : Nat) (v : Option Value) (h : Heap) (L : List Loc) : Prop := v = none ∧ Fr n0 L ∧ Keep h0 h [t] ∧ (Arv Z h t kb .byte N ((vs.set 2 (.int (StrChars.lo8 c))).set 3 (.int (StrChars.hi8 c))) dv)
set_option maxRecDepth 65536 in
set_option maxHeartbeats 40000000 in
theorem rmpu1 (l : Launch) (Z : State) (a0 : Array Value) (G : OwnG Z a0) (ws : List Jvm.Cond) (t : Addr) (kb : ClassId) (N : Int32) (vs : List Value) (dv : Value) (c : Int32) (h0 : Heap) (n0 : Nat) (O0 : Old Z n0 h0) (P0 : Arv Z h0 t kb .byte N vs dv) (P1 : (2 : Int32) < N) (P2 : (3 : Int32) < N) (P3 : 3 < vs.length) (P4 : n0 ≤ t) :
    MetFree l own_m15 (head1 (Jvm.Cond.code own_m15 jdk_52_method_4_code 3 none :: ws) ({ frames := 0, cells := 0, slots := 0, locals := 0 } : Room)) (fun a U => a = #[(.ref t), (.int (1 : Int32)), (.int c)] ∧ Z.Warmed39 U.vm ∧ U.heap = h0) (fun _ _ _ _ _ => True) (fun _ U o U' => ∃ v L, o = .returned v ∧ Qpu1 Z t kb N vs dv c h0 n0 v U'.heap L ∧ FrameEnd U o U' L ({ frames := 0, cells := 0, slots := 0, locals := 0 } : Room).cells ({ frames := 0, cells := 0, slots := 0, locals := 0 } : Room).slots) := by
  refine MetFree.of_bodySF (plainFor_of_name pn_3) hisR ?_
  intro p e s m args below meth cD s₁ Bd hml0 hP hK
  obtain ⟨rfl, hZ, hh⟩ := hP
  have hw := G.1
  have hx := Bd.exec
  have hby := Bd.bytes
  have hml : cD.maxLocals = 3 := hml0
  have hown : s.vm.findClass "java/lang/StringUTF16" = some m.cls := findClass_of_methodNamed Bd.named
  have hnm := (name_of_methodNamed Bd.named Bd.method).1
  have hlk := Bd.notSynchronized
  have X0 : Stand p l e ({ frames := 0, cells := 0, slots := 0, locals := 0 } : Room) s m #[(.ref t), (.int (1 : Int32)), (.int c)] below meth cD s₁ [] 0 0 := Stand.of_body Bd
  have e0 : s₁.heap = h0 := by rw [← hh, Bd.state]; rfl
  have lt0 := own_ltN' P0.lt
  have K0 : Keep h0 h0 [t] := Keep.refl h0 _
  have Z0 := own_old_le O0
  have N0 := Fr.nil n0
  have SAD := own_ad G
  have SHI := own_hi G
  have SLO := own_lo G
  refine OwnEnd.start (g' := (mkF m 0 #[.val (.ref t), .val (.int (1 : Int32)), .val (.int c)] [])) (own_efpu1 m t c) ?_
  obtain ⟨T1, X1, e1, st1⟩ := getS2 X0 hx hZ hown (host := "") (Or.inl (own_w G 95 rfl)) Via.refl e0 (SAD.ext O0.2) (g := (mkF m 0 #[.val (.ref t), .val (.int (1 : Int32)), .val (.int c)] [])) rfl (hb hby d15_0)
  refine OwnEnd.of (S' := T1.setTop (mkF m 3 #[.val (.ref t), .val (.int (1 : Int32)), .val (.int c)] [(.int (1 : Int32))])) st1 ?_
  refine OwnEnd.of (S' := T1.setTop (mkF m 38 #[.val (.ref t), .val (.int (3 : Int32)), .val (.int c)] [(.int c), (.int (2 : Int32)), (.ref t)])) (fun _ kK => XS.ifYes X1.here hx rfl (pc0 := 3) (pc' := 28) rfl (hb hby d15_3) rfl ((if0 _ _).trans (feq ((by decide : ¬ ((1 : Int32) = (0 : Int32))))).2) (by decide) (by decide) (XS.iloadN X1.here hx rfl (hb hby d15_28) rfl (XS.iconst X1.here hx rfl (hb hby d15_29) (XS.ishl X1.here hx rfl (hb hby d15_30) rfl (XS.istoreN X1.here hx rfl (hb hby d15_31) rfl (l' := #[.val (.ref t), .val (.int (2 : Int32)), .val (.int c)]) rfl (XS.aloadN X1.here hx rfl (hb hby d15_32) rfl rfl (XS.iloadN X1.here hx rfl (hb hby d15_33) rfl (XS.iinc X1.here hx rfl (hb hby d15_34) rfl (l' := #[.val (.ref t), .val (.int (3 : Int32)), .val (.int c)]) rfl (XS.iloadN X1.here hx rfl (hb hby d15_37) rfl kK))))))))) ?_
  obtain ⟨T2, X2, e2, st2⟩ := getS2 X1 hx hZ hown (host := "") (Or.inl (own_w G 96 rfl)) Via.refl e1 (SHI.ext O0.2) (g := (mkF m 38 #[.val (.ref t), .val (.int (3 : Int32)), .val (.int c)] [(.int c), (.int (2 : Int32)), (.ref t)])) rfl (hb hby d15_38)
  refine OwnEnd.of (S' := T2.setTop (mkF m 41 #[.val (.ref t), .val (.int (3 : Int32)), .val (.int c)] [(.int (0 : Int32)), (.int c), (.int (2 : Int32)), (.ref t)])) st2 ?_
  refine OwnEnd.of (S' := T2.setTop (mkF m 43 #[.val (.ref t), .val (.int (3 : Int32)), .val (.int c)] [(.int (nar .byte (c >>> ((0 : Int32) &&& 31)))), (.int (2 : Int32)), (.ref t)])) (fun _ kK => XS.ishr X2.here hx rfl (hb hby d15_41) rfl (XS.i2b X2.here hx rfl (hb hby d15_42) rfl kK)) ?_
  obtain ⟨cl3, Ar3, q3, S3, N3', H3, G3⟩ := id P0
  have hin4 : ¬ ((2 : Int32) < 0 ∨ cl3.slots.size ≤ ((2 : Int32)).toNatClampNeg) := inb_of S3 ⟨by decide, P1⟩
  obtain ⟨T4, h4, X4, e4, W4, st4⟩ := stB X2 hx hZ e2 Ar3 (j := (2 : Int32)) hin4 (g := (mkF m 43 #[.val (.ref t), .val (.int (3 : Int32)), .val (.int c)] [(.int (nar .byte (c >>> ((0 : Int32) &&& 31)))), (.int (2 : Int32)), (.ref t)])) rfl rfl (hb hby d15_43)
  have N4 := Fr.snoc X4 N0 (by omega)
  have sz5 := own_wr_le W4
  have K5 := K0.wr W4 (Or.inl (by simp))
  have O5 := O0.wr W4 (by omega)
  have V4 : Arv Z h4 t kb .byte N ((vs).set 2 (.int (nar .byte (nar .byte (c >>> ((0 : Int32) &&& 31)))))) dv := Arv.set Ar3 q3 S3 N3' H3 G3 (fits_nar_byte _) W4 2 rfl (Nat.lt_of_le_of_lt (Nat.le_succ _) P3)
  refine OwnEnd.of (S' := T4.setTop (mkF m 44 #[.val (.ref t), .val (.int (3 : Int32)), .val (.int c)] [])) st4 ?_
  refine OwnEnd.of (S' := T4.setTop (mkF m 47 #[.val (.ref t), .val (.int (3 : Int32)), .val (.int c)] [(.int c), (.int (3 : Int32)), (.ref t)])) (fun _ kK => XS.aloadN X4.here hx rfl (hb hby d15_44) rfl rfl (XS.iloadN X4.here hx rfl (hb hby d15_45) rfl (XS.iloadN X4.here hx rfl (hb hby d15_46) rfl kK))) ?_
  obtain ⟨T6, X6, e6, st6⟩ := getS2 X4 hx hZ hown (host := "") (Or.inl (own_w G 97 rfl)) Via.refl e4 (SLO.ext O5.2) (g := (mkF m 47 #[.val (.ref t), .val (.int (3 : Int32)), .val (.int c)] [(.int c), (.int (3 : Int32)), (.ref t)])) rfl (hb hby d15_47)
  refine OwnEnd.of (S' := T6.setTop (mkF m 50 #[.val (.ref t), .val (.int (3 : Int32)), .val (.int c)] [(.int (8 : Int32)), (.int c), (.int (3 : Int32)), (.ref t)])) st6 ?_
  refine OwnEnd.of (S' := T6.setTop (mkF m 52 #[.val (.ref t), .val (.int (3 : Int32)), .val (.int c)] [(.int (nar .byte (c >>> ((8 : Int32) &&& 31)))), (.int (3 : Int32)), (.ref t)])) (fun _ kK => XS.ishr X6.here hx rfl (hb hby d15_50) rfl (XS.i2b X6.here hx rfl (hb hby d15_51) rfl kK)) ?_
  obtain ⟨cl7, Ar7, q7, S7, N7', H7, G7⟩ := id V4
  have hin8 : ¬ ((3 : Int32) < 0 ∨ cl7.slots.size ≤ ((3 : Int32)).toNatClampNeg) := inb_of S7 ⟨by decide, P2⟩
  obtain ⟨T8, h8, X8, e8, W8, st8⟩ := stB X6 hx hZ e6 Ar7 (j := (3 : Int32)) hin8 (g := (mkF m 52 #[.val (.ref t), .val (.int (3 : Int32)), .val (.int c)] [(.int (nar .byte (c >>> ((8 : Int32) &&& 31)))), (.int (3 : Int32)), (.ref t)])) rfl rfl (hb hby d15_52)
  have N8 := Fr.snoc X8 N4 (by omega)
  have sz9 := own_wr_le W8
  have K9 := K5.wr W8 (Or.inl (by simp))
  have O9 := O5.wr W8 (by omega)
  have V8 : Arv Z h8 t kb .byte N ((((vs).set 2 (.int (nar .byte (nar .byte (c >>> ((0 : Int32) &&& 31))))))).set 3 (.int (nar .byte (nar .byte (c >>> ((8 : Int32) &&& 31)))))) dv := Arv.set Ar7 q7 S7 N7' H7 G7 (fits_nar_byte _) W8 3 rfl (by simpa using P3)
  refine OwnEnd.of (S' := T8.setTop (mkF m 53 #[.val (.ref t), .val (.int (3 : Int32)), .val (.int c)] [])) st8 ?_
  have V10 : Arv Z h8 t kb .byte N ((vs.set 2 (.int (StrChars.lo8 c))).set 3 (.int (StrChars.hi8 c))) dv := by have q := V8; rw [own_b0, own_b8] at q; exact q
  refine OwnEnd.ret X8 (v := none) (fun _ => rfl) hlk (fun fs hr => X8.returnOut hx Bd.returns (hb hby d15_53) hr) (by decide) (by decide) (Q := Qpu1 Z t kb N vs dv c h0 n0) e8 ?_
  exact ⟨rfl, N8, K9, V10⟩

theorem own_efpu2 (m : MethodId) (t : Addr) (c : Int32) : entryFrame m #[(.ref t), (.int (2 : Int32)), (.int c)] 3 = mkF m 0 #[.val (.ref t), .val (.int (2 : Int32)), .val (.int c)] [] := by first | (simp [entryFrame, mkF, argsToLocals, Value.category]; done) | rfl
def Qpu2 (Z : State) (t : Addr) (kb : ClassId) (N : Int32) (vs : List Value) (dv : Value) (c : Int32) (h0 : Heap) (n0 : Nat) (v : Option Value) (h : Heap) (L : List Loc) : Prop := v = none ∧ Fr n0 L ∧ Keep h0 h [t] ∧ (Arv Z h t kb .byte N ((vs.set 4 (.int (StrChars.lo8 c))).set 5 (.int (StrChars.hi8 c))) dv)
set_option maxRecDepth 65536 in
set_option maxHeartbeats 40000000 in
theorem rmpu2 (l : Launch) (Z : State) (a0 : Array Value) (G : OwnG Z a0) (ws : List Jvm.Cond) (t : Addr) (kb : ClassId) (N : Int32) (vs : List Value) (dv : Value) (c : Int32) (h0 : Heap) (n0 : Nat) (O0 : Old Z n0 h0) (P0 : Arv Z h0 t kb .byte N vs dv) (P1 : (4 : Int32) < N) (P2 : (5 : Int32) < N) (P3 : 5 < vs.length) (P4 : n0 ≤ t) :
    MetFree l own_m15 (head1 (Jvm.Cond.code own_m15 jdk_52_method_4_code 3 none :: ws) ({ frames := 0, cells := 0, slots := 0, locals := 0 } : Room)) (fun a U => a = #[(.ref t), (.int (2 : Int32)), (.int c)] ∧ Z.Warmed39 U.vm ∧ U.heap = h0) (fun _ _ _ _ _ => True) (fun _ U o U' => ∃ v L, o = .returned v ∧ Qpu2 Z t kb N vs dv c h0 n0 v U'.heap L ∧ FrameEnd U o U' L ({ frames := 0, cells := 0, slots := 0, locals := 0 } : Room).cells ({ frames := 0, cells := 0, slots := 0, locals := 0 } : Room).slots) := by
  refine MetFree.of_bodySF (plainFor_of_name pn_3) hisR ?_
  intro p e s m args below meth cD s₁ Bd hml0 hP hK
  obtain ⟨rfl, hZ, hh⟩ := hP
  have hw := G.1
  have hx := Bd.exec
  have hby := Bd.bytes
  have hml : cD.maxLocals = 3 := hml0
  have hown : s.vm.findClass "java/lang/StringUTF16" = some m.cls := findClass_of_methodNamed Bd.named
  have hnm := (name_of_methodNamed Bd.named Bd.method).1
  have hlk := Bd.notSynchronized
  have X0 : Stand p l e ({ frames := 0, cells := 0, slots := 0, locals := 0 } : Room) s m #[(.ref t), (.int (2 : Int32)), (.int c)] below meth cD s₁ [] 0 0 := Stand.of_body Bd
  have e0 : s₁.heap = h0 := by rw [← hh, Bd.state]; rfl
  have lt0 := own_ltN' P0.lt
  have K0 : Keep h0 h0 [t] := Keep.refl h0 _
  have Z0 := own_old_le O0
  have N0 := Fr.nil n0
  have SAD := own_ad G
  have SHI := own_hi G
  have SLO := own_lo G
  refine OwnEnd.start (g' := (mkF m 0 #[.val (.ref t), .val (.int (2 : Int32)), .val (.int c)] [])) (own_efpu2 m t c) ?_
  obtain ⟨T1, X1, e1, st1⟩ := getS2 X0 hx hZ hown (host := "") (Or.inl (own_w G 95 rfl)) Via.refl e0 (SAD.ext O0.2) (g := (mkF m 0 #[.val (.ref t), .val (.int (2 : Int32)), .val (.int c)] [])) rfl (hb hby d15_0)
  refine OwnEnd.of (S' := T1.setTop (mkF m 3 #[.val (.ref t), .val (.int (2 : Int32)), .val (.int c)] [(.int (1 : Int32))])) st1 ?_
  refine OwnEnd.of (S' := T1.setTop (mkF m 38 #[.val (.ref t), .val (.int (5 : Int32)), .val (.int c)] [(.int c), (.int (4 : Int32)), (.ref t)])) (fun _ kK => XS.ifYes X1.here hx rfl (pc0 := 3) (pc' := 28) rfl (hb hby d15_3) rfl ((if0 _ _).trans (feq ((by decide : ¬ ((1 : Int32) = (0 : Int32))))).2) (by decide) (by decide) (XS.iloadN X1.here hx rfl (hb hby d15_28) rfl (XS.iconst X1.here hx rfl (hb hby d15_29) (XS.ishl X1.here hx rfl (hb hby d15_30) rfl (XS.istoreN X1.here hx rfl (hb hby d15_31) rfl (l' := #[.val (.ref t), .val (.int (4 : Int32)), .val (.int c)]) rfl (XS.aloadN X1.here hx rfl (hb hby d15_32) rfl rfl (XS.iloadN X1.here hx rfl (hb hby d15_33) rfl (XS.iinc X1.here hx rfl (hb hby d15_34) rfl (l' := #[.val (.ref t), .val (.int (5 : Int32)), .val (.int c)]) rfl (XS.iloadN X1.here hx rfl (hb hby d15_37) rfl kK))))))))) ?_
  obtain ⟨T2, X2, e2, st2⟩ := getS2 X1 hx hZ hown (host := "") (Or.inl (own_w G 96 rfl)) Via.refl e1 (SHI.ext O0.2) (g := (mkF m 38 #[.val (.ref t), .val (.int (5 : Int32)), .val (.int c)] [(.int c), (.int (4 : Int32)), (.ref t)])) rfl (hb hby d15_38)
  refine OwnEnd.of (S' := T2.setTop (mkF m 41 #[.val (.ref t), .val (.int (5 : Int32)), .val (.int c)] [(.int (0 : Int32)), (.int c), (.int (4 : Int32)), (.ref t)])) st2 ?_
  refine OwnEnd.of (S' := T2.setTop (mkF m 43 #[.val (.ref t), .val (.int (5 : Int32)), .val (.int c)] [(.int (nar .byte (c >>> ((0 : Int32) &&& 31)))), (.int (4 : Int32)), (.ref t)])) (fun _ kK => XS.ishr X2.here hx rfl (hb hby d15_41) rfl (XS.i2b X2.here hx rfl (hb hby d15_42) rfl kK)) ?_
  obtain ⟨cl3, Ar3, q3, S3, N3', H3, G3⟩ := id P0
  have hin4 : ¬ ((4 : Int32) < 0 ∨ cl3.slots.size ≤ ((4 : Int32)).toNatClampNeg) := inb_of S3 ⟨by decide, P1⟩
  obtain ⟨T4, h4, X4, e4, W4, st4⟩ := stB X2 hx hZ e2 Ar3 (j := (4 : Int32)) hin4 (g := (mkF m 43 #[.val (.ref t), .val (.int (5 : Int32)), .val (.int c)] [(.int (nar .byte (c >>> ((0 : Int32) &&& 31)))), (.int (4 : Int32)), (.ref t)])) rfl rfl (hb hby d15_43)
  have N4 := Fr.snoc X4 N0 (by omega)
  have sz5 := own_wr_le W4
  have K5 := K0.wr W4 (Or.inl (by simp))
  have O5 := O0.wr W4 (by omega)
  have V4 : Arv Z h4 t kb .byte N ((vs).set 4 (.int (nar .byte (nar .byte (c >>> ((0 : Int32) &&& 31)))))) dv := Arv.set Ar3 q3 S3 N3' H3 G3 (fits_nar_byte _) W4 4 rfl (Nat.lt_of_le_of_lt (Nat.le_succ _) P3)
  refine OwnEnd.of (S' := T4.setTop (mkF m 44 #[.val (.ref t), .val (.int (5 : Int32)), .val (.int c)] [])) st4 ?_
  refine OwnEnd.of (S' := T4.setTop (mkF m 47 #[.val (.ref t), .val (.int (5 : Int32)), .val (.int c)] [(.int c), (.int (5 : Int32)), (.ref t)])) (fun _ kK => XS.aloadN X4.here hx rfl (hb hby d15_44) rfl rfl (XS.iloadN X4.here hx rfl (hb hby d15_45) rfl (XS.iloadN X4.here hx rfl (hb hby d15_46) rfl kK))) ?_
  obtain ⟨T6, X6, e6, st6⟩ := getS2 X4 hx hZ hown (host := "") (Or.inl (own_w G 97 rfl)) Via.refl e4 (SLO.ext O5.2) (g := (mkF m 47 #[.val (.ref t), .val (.int (5 : Int32)), .val (.int c)] [(.int c), (.int (5 : Int32)), (.ref t)])) rfl (hb hby d15_47)
  refine OwnEnd.of (S' := T6.setTop (mkF m 50 #[.val (.ref t), .val (.int (5 : Int32)), .val (.int c)] [(.int (8 : Int32)), (.int c), (.int (5 : Int32)), (.ref t)])) st6 ?_
  refine OwnEnd.of (S' := T6.setTop (mkF m 52 #[.val (.ref t), .val (.int (5 : Int32)), .val (.int c)] [(.int (nar .byte (c >>> ((8 : Int32) &&& 31)))), (.int (5 : Int32)), (.ref t)])) (fun _ kK => XS.ishr X6.here hx rfl (hb hby d15_50) rfl (XS.i2b X6.here hx rfl (hb hby d15_51) rfl kK)) ?_
  obtain ⟨cl7, Ar7, q7, S7, N7', H7, G7⟩ := id V4
  have hin8 : ¬ ((5 : Int32) < 0 ∨ cl7.slots.size ≤ ((5 : Int32)).toNatClampNeg) := inb_of S7 ⟨by decide, P2⟩
  obtain ⟨T8, h8, X8, e8, W8, st8⟩ := stB X6 hx hZ e6 Ar7 (j := (5 : Int32)) hin8 (g := (mkF m 52 #[.val (.ref t), .val (.int (5 : Int32)), .val (.int c)] [(.int (nar .byte (c >>> ((8 : Int32) &&& 31)))), (.int (5 : Int32)), (.ref t)])) rfl rfl (hb hby d15_52)
  have N8 := Fr.snoc X8 N4 (by omega)
  have sz9 := own_wr_le W8
  have K9 := K5.wr W8 (Or.inl (by simp))
  have O9 := O5.wr W8 (by omega)
  have V8 : Arv Z h8 t kb .byte N ((((vs).set 4 (.int (nar .byte (nar .byte (c >>> ((0 : Int32) &&& 31))))))).set 5 (.int (nar .byte (nar .byte (c >>> ((8 : Int32) &&& 31)))))) dv := Arv.set Ar7 q7 S7 N7' H7 G7 (fits_nar_byte _) W8 5 rfl (by simpa using P3)
  refine OwnEnd.of (S' := T8.setTop (mkF m 53 #[.val (.ref t), .val (.int (5 : Int32)), .val (.int c)] [])) st8 ?_
  have V10 : Arv Z h8 t kb .byte N ((vs.set 4 (.int (StrChars.lo8 c))).set 5 (.int (StrChars.hi8 c))) dv := by have q := V8; rw [own_b0, own_b8] at q; exact q
  refine OwnEnd.ret X8 (v := none) (fun _ => rfl) hlk (fun fs hr => X8.returnOut hx Bd.returns (hb hby d15_53) hr) (by decide) (by decide) (Q := Qpu2 Z t kb N vs dv c h0 n0) e8 ?_
  exact ⟨rfl, N8, K9, V10⟩

theorem own_efpu3 (m : MethodId) (t : Addr) (c : Int32) : entryFrame m #[(.ref t), (.int (3 : Int32)), (.int c)] 3 = mkF m 0 #[.val (.ref t), .val (.int (3 : Int32)), .val (.int c)] [] := by first | (simp [entryFrame, mkF, argsToLocals, Value.category]; done) | rfl
def Qpu3 (Z : State) (t : Addr) (kb : ClassId) (N : Int32) (vs : List Value) (dv : Value) (c : Int32) (h0 : Heap) (n0 : Nat) (v : Option Value) (h : Heap) (L : List Loc) : Prop := v = none ∧ Fr n0 L ∧ Keep h0 h [t] ∧ (Arv Z h t kb .byte N ((vs.set 6 (.int (StrChars.lo8 c))).set 7 (.int (StrChars.hi8 c))) dv)
set_option maxRecDepth 65536 in
set_option maxHeartbeats 40000000 in
theorem rmpu3 (l : Launch) (Z : State) (a0 : Array Value) (G : OwnG Z a0) (ws : List Jvm.Cond) (t : Addr) (kb : ClassId) (N : Int32) (vs : List Value) (dv : Value) (c : Int32) (h0 : Heap) (n0 : Nat) (O0 : Old Z n0 h0) (P0 : Arv Z h0 t kb .byte N vs dv) (P1 : (6 : Int32) < N) (P2 : (7 : Int32) < N) (P3 : 7 < vs.length) (P4 : n0 ≤ t) :
    MetFree l own_m15 (head1 (Jvm.Cond.code own_m15 jdk_52_method_4_code 3 none :: ws) ({ frames := 0, cells := 0, slots := 0, locals := 0 } : Room)) (fun a U => a = #[(.ref t), (.int (3 : Int32)), (.int c)] ∧ Z.Warmed39 U.vm ∧ U.heap = h0) (fun _ _ _ _ _ => True) (fun _ U o U' => ∃ v L, o = .returned v ∧ Qpu3 Z t kb N vs dv c h0 n0 v U'.heap L ∧ FrameEnd U o U' L ({ frames := 0, cells := 0, slots := 0, locals := 0 } : Room).cells ({ frames := 0, cells := 0, slots := 0, locals := 0 } : Room).slots) := by
  refine MetFree.of_bodySF (plainFor_of_name pn_3) hisR ?_
  intro p e s m args below meth cD s₁ Bd hml0 hP hK
  obtain ⟨rfl, hZ, hh⟩ := hP
  have hw := G.1
  have hx := Bd.exec
  have hby := Bd.bytes
  have hml : cD.maxLocals = 3 := hml0
  have hown : s.vm.findClass "java/lang/StringUTF16" = some m.cls := findClass_of_methodNamed Bd.named
  have hnm := (name_of_methodNamed Bd.named Bd.method).1
  have hlk := Bd.notSynchronized
  have X0 : Stand p l e ({ frames := 0, cells := 0, slots := 0, locals := 0 } : Room) s m #[(.ref t), (.int (3 : Int32)), (.int c)] below meth cD s₁ [] 0 0 := Stand.of_body Bd
  have e0 : s₁.heap = h0 := by rw [← hh, Bd.state]; rfl
  have lt0 := own_ltN' P0.lt
  have K0 : Keep h0 h0 [t] := Keep.refl h0 _
  have Z0 := own_old_le O0
  have N0 := Fr.nil n0
  have SAD := own_ad G
  have SHI := own_hi G
  have SLO := own_lo G
  refine OwnEnd.start (g' := (mkF m 0 #[.val (.ref t), .val (.int (3 : Int32)), .val (.int c)] [])) (own_efpu3 m t c) ?_
  obtain ⟨T1, X1, e1, st1⟩ := getS2 X0 hx hZ hown (host := "") (Or.inl (own_w G 95 rfl)) Via.refl e0 (SAD.ext O0.2) (g := (mkF m 0 #[.val (.ref t), .val (.int (3 : Int32)), .val (.int c)] [])) rfl (hb hby d15_0)
  refine OwnEnd.of (S' := T1.setTop (mkF m 3 #[.val (.ref t), .val (.int (3 : Int32)), .val (.int c)] [(.int (1 : Int32))])) st1 ?_
  refine OwnEnd.of (S' := T1.setTop (mkF m 38 #[.val (.ref t), .val (.int (7 : Int32)), .val (.int c)] [(.int c), (.int (6 : Int32)), (.ref t)])) (fun _ kK => XS.ifYes X1.here hx rfl (pc0 := 3) (pc' := 28) rfl (hb hby d15_3) rfl ((if0 _ _).trans (feq ((by decide : ¬ ((1 : Int32) = (0 : Int32))))).2) (by decide) (by decide) (XS.iloadN X1.here hx rfl (hb hby d15_28) rfl (XS.iconst X1.here hx rfl (hb hby d15_29) (XS.ishl X1.here hx rfl (hb hby d15_30) rfl (XS.istoreN X1.here hx rfl (hb hby d15_31) rfl (l' := #[.val (.ref t), .val (.int (6 : Int32)), .val (.int c)]) rfl (XS.aloadN X1.here hx rfl (hb hby d15_32) rfl rfl (XS.iloadN X1.here hx rfl (hb hby d15_33) rfl (XS.iinc X1.here hx rfl (hb hby d15_34) rfl (l' := #[.val (.ref t), .val (.int (7 : Int32)), .val (.int c)]) rfl (XS.iloadN X1.here hx rfl (hb hby d15_37) rfl kK))))))))) ?_
  obtain ⟨T2, X2, e2, st2⟩ := getS2 X1 hx hZ hown (host := "") (Or.inl (own_w G 96 rfl)) Via.refl e1 (SHI.ext O0.2) (g := (mkF m 38 #[.val (.ref t), .val (.int (7 : Int32)), .val (.int c)] [(.int c), (.int (6 : Int32)), (.ref t)])) rfl (hb hby d15_38)
  refine OwnEnd.of (S' := T2.setTop (mkF m 41 #[.val (.ref t), .val (.int (7 : Int32)), .val (.int c)] [(.int (0 : Int32)), (.int c), (.int (6 : Int32)), (.ref t)])) st2 ?_
  refine OwnEnd.of (S' := T2.setTop (mkF m 43 #[.val (.ref t), .val (.int (7 : Int32)), .val (.int c)] [(.int (nar .byte (c >>> ((0 : Int32) &&& 31)))), (.int (6 : Int32)), (.ref t)])) (fun _ kK => XS.ishr X2.here hx rfl (hb hby d15_41) rfl (XS.i2b X2.here hx rfl (hb hby d15_42) rfl kK)) ?_
  obtain ⟨cl3, Ar3, q3, S3, N3', H3, G3⟩ := id P0
  have hin4 : ¬ ((6 : Int32) < 0 ∨ cl3.slots.size ≤ ((6 : Int32)).toNatClampNeg) := inb_of S3 ⟨by decide, P1⟩
  obtain ⟨T4, h4, X4, e4, W4, st4⟩ := stB X2 hx hZ e2 Ar3 (j := (6 : Int32)) hin4 (g := (mkF m 43 #[.val (.ref t), .val (.int (7 : Int32)), .val (.int c)] [(.int (nar .byte (c >>> ((0 : Int32) &&& 31)))), (.int (6 : Int32)), (.ref t)])) rfl rfl (hb hby d15_43)
  have N4 := Fr.snoc X4 N0 (by omega)
  have sz5 := own_wr_le W4
  have K5 := K0.wr W4 (Or.inl (by simp))
  have O5 := O0.wr W4 (by omega)
  have V4 : Arv Z h4 t kb .byte N ((vs).set 6 (.int (nar .byte (nar .byte (c >>> ((0 : Int32) &&& 31)))))) dv := Arv.set Ar3 q3 S3 N3' H3 G3 (fits_nar_byte _) W4 6 rfl (Nat.lt_of_le_of_lt (Nat.le_succ _) P3)
  refine OwnEnd.of (S' := T4.setTop (mkF m 44 #[.val (.ref t), .val (.int (7 : Int32)), .val (.int c)] [])) st4 ?_
  refine OwnEnd.of (S' := T4.setTop (mkF m 47 #[.val (.ref t), .val (.int (7 : Int32)), .val (.int c)] [(.int c), (.int (7 : Int32)), (.ref t)])) (fun _ kK => XS.aloadN X4.here hx rfl (hb hby d15_44) rfl rfl (XS.iloadN X4.here hx rfl (hb hby d15_45) rfl (XS.iloadN X4.here hx rfl (hb hby d15_46) rfl kK))) ?_
  obtain ⟨T6, X6, e6, st6⟩ := getS2 X4 hx hZ hown (host := "") (Or.inl (own_w G 97 rfl)) Via.refl e4 (SLO.ext O5.2) (g := (mkF m 47 #[.val (.ref t), .val (.int (7 : Int32)), .val (.int c)] [(.int c), (.int (7 : Int32)), (.ref t)])) rfl (hb hby d15_47)
  refine OwnEnd.of (S' := T6.setTop (mkF m 50 #[.val (.ref t), .val (.int (7 : Int32)), .val (.int c)] [(.int (8 : Int32)), (.int c), (.int (7 : Int32)), (.ref t)])) st6 ?_
  refine OwnEnd.of (S' := T6.setTop (mkF m 52 #[.val (.ref t), .val (.int (7 : Int32)), .val (.int c)] [(.int (nar .byte (c >>> ((8 : Int32) &&& 31)))), (.int (7 : Int32)), (.ref t)])) (fun _ kK => XS.ishr X6.here hx rfl (hb hby d15_50) rfl (XS.i2b X6.here hx rfl (hb hby d15_51) rfl kK)) ?_
  obtain ⟨cl7, Ar7, q7, S7, N7', H7, G7⟩ := id V4
  have hin8 : ¬ ((7 : Int32) < 0 ∨ cl7.slots.size ≤ ((7 : Int32)).toNatClampNeg) := inb_of S7 ⟨by decide, P2⟩
  obtain ⟨T8, h8, X8, e8, W8, st8⟩ := stB X6 hx hZ e6 Ar7 (j := (7 : Int32)) hin8 (g := (mkF m 52 #[.val (.ref t), .val (.int (7 : Int32)), .val (.int c)] [(.int (nar .byte (c >>> ((8 : Int32) &&& 31)))), (.int (7 : Int32)), (.ref t)])) rfl rfl (hb hby d15_52)
  have N8 := Fr.snoc X8 N4 (by omega)
  have sz9 := own_wr_le W8
  have K9 := K5.wr W8 (Or.inl (by simp))
  have O9 := O5.wr W8 (by omega)
  have V8 : Arv Z h8 t kb .byte N ((((vs).set 6 (.int (nar .byte (nar .byte (c >>> ((0 : Int32) &&& 31))))))).set 7 (.int (nar .byte (nar .byte (c >>> ((8 : Int32) &&& 31)))))) dv := Arv.set Ar7 q7 S7 N7' H7 G7 (fits_nar_byte _) W8 7 rfl (by simpa using P3)
  refine OwnEnd.of (S' := T8.setTop (mkF m 53 #[.val (.ref t), .val (.int (7 : Int32)), .val (.int c)] [])) st8 ?_
  have V10 : Arv Z h8 t kb .byte N ((vs.set 6 (.int (StrChars.lo8 c))).set 7 (.int (StrChars.hi8 c))) dv := by have q := V8; rw [own_b0, own_b8] at q; exact q
  refine OwnEnd.ret X8 (v := none) (fun _ => rfl) hlk (fun fs hr => X8.returnOut hx Bd.returns (hb hby d15_53) hr) (by decide) (by decide) (Q := Qpu3 Z t kb N vs dv c h0 n0) e8 ?_
  exact ⟨rfl, N8, K9, V10⟩

theorem own_efnb1 (m : MethodId) : entryFrame m #[(.int (1 : Int32))] 1 = mkF m 0 #[.val (.int (1 : Int32))] [] := by first | (simp [entryFrame, mkF, argsToLocals, Value.category]; done) | rfl
def Qnb1 (Z : State)  (h0 : Heap) (n0 : Nat) (v : Option Value) (h : Heap) (L : List Loc) : Prop := ∃ (t : Addr) (kb : ClassId), v = some (.ref t) ∧ Fr n0 L ∧ Keep h0 h [] ∧ (Arv Z h t kb .byte (2 : Int32) [(.int (0 : Int32)), (.int (0 : Int32))] (.int (0 : Int32))) ∧ (Array.size h0 ≤ t)
set_option maxRecDepth 65536 in
set_option maxHeartbeats 40000000 in
theorem rmnb1 (l : Launch) (Z : State) (a0 : Array Value) (G : OwnG Z a0) (ws : List Jvm.Cond)  (h0 : Heap) (n0 : Nat) (O0 : Old Z n0 h0)  :
    MetFree l own_m16 (head1 (Jvm.Cond.code own_m16 jdk_52_method_2_code 1 (some (.array .byte)) :: ws) ({ frames := 1, cells := 1, slots := 2, locals := 12 } : Room)) (fun a U => a = #[(.int (1 : Int32))] ∧ Z.Warmed39 U.vm ∧ U.heap = h0) (fun _ _ _ _ _ => True) (fun _ U o U' => ∃ v L, o = .returned v ∧ Qnb1 Z  h0 n0 v U'.heap L ∧ FrameEnd U o U' L ({ frames := 1, cells := 1, slots := 2, locals := 12 } : Room).cells ({ frames := 1, cells := 1, slots := 2, locals := 12 } : Room).slots) := by
  refine MetFree.of_bodySF (plainFor_of_name pn_3) hisR ?_
  intro p e s m args below meth cD s₁ Bd hml0 hP hK
  obtain ⟨rfl, hZ, hh⟩ := hP
  have hw := G.1
  have hx := Bd.exec
  have hby := Bd.bytes
  have hml : cD.maxLocals = 1 := hml0
  have hown : s.vm.findClass "java/lang/StringUTF16" = some m.cls := findClass_of_methodNamed Bd.named
  have hnm := (name_of_methodNamed Bd.named Bd.method).1
  have hlk := Bd.notSynchronized
  have X0 : Stand p l e ({ frames := 1, cells := 1, slots := 2, locals := 12 } : Room) s m #[(.int (1 : Int32))] below meth cD s₁ [] 0 0 := Stand.of_body Bd
  have e0 : s₁.heap = h0 := by rw [← hh, Bd.state]; rfl
  have K0 : Keep h0 h0 [] := Keep.refl h0 _
  have Z0 := own_old_le O0
  have N0 := Fr.nil n0
  refine OwnEnd.start (g' := (mkF m 0 #[.val (.int (1 : Int32))] [])) (own_efnb1 m ) ?_
  refine OwnEnd.of (S' := s₁.setTop (mkF m 1 #[.val (.int (1 : Int32))] [(.int (1 : Int32))])) (fun _ kK => XS.iloadN X0.here hx rfl (hb hby d16_0) rfl kK) ?_
  obtain ⟨_, _, ⟨T1, L1, k1, n1⟩, -, X1, ⟨Lc1, hQ1, l1, y1, z1⟩, st1⟩ := Jvm.LawKit.callS X0 hx (y := own_m14) hown (mvT hZ (own_w G 88 rfl)) (mvT hZ (own_w G 89 rfl)) (mvT hZ (own_w G 39 rfl)) (mvT hZ (own_w G 90 rfl)) (by decide) (backOf (W := 0) (rmnl l Z a0 G [] (1 : Int32) (2 : Int32) h0 n0 O0 (by decide : ¬ (1 : Int32) < (0 : Int32)) (by decide : (1 : Int32) < (1073741823 : Int32)) (by decide : (1 : Int32) <<< ((1 : Int32) &&& 31) = (2 : Int32))) hZ (own_w G 90 rfl) (own_w G 39 rfl) (by decide) (by decide)) (g := (mkF m 1 #[.val (.int (1 : Int32))] [(.int (1 : Int32))])) rfl (by rw [hml]; rfl) (argsL := [(.int (1 : Int32))]) (rest := []) (lenOf pd_8 rfl) rfl (by show 2 * 0 + _ ≤ _; exact Nat.le_of_eq rfl) (hb hby d16_1) (fun _ _ => ⟨rfl, e0, (by decide : 0 + 0 ≤ _), (by decide : 0 + 0 ≤ _)⟩)
  dsimp only [Pt.U, Pt.locs, Pt.cells, Pt.slots] at X1 l1 y1 z1 st1 hQ1
  subst l1 y1 z1
  obtain ⟨rfl, N1q, eh1⟩ := hQ1
  have N1 := Fr.app N0 N1q
  refine OwnEnd.of (S' := T1.setTop (mkF m 4 #[.val (.int (1 : Int32))] [(.int (2 : Int32))])) st1 ?_
  obtain ⟨T2, h2, k2, X2, e2, E2, A2, st2⟩ := newP X1 hx hZ (own_w G 20 rfl) eh1 (g := (mkF m 4 #[.val (.int (1 : Int32))] [(.int (2 : Int32))])) rfl (hb hby d16_4) rfl (by decide) (cap := 2) (by decide) (by decide) (by decide) (by decide)
  obtain ⟨b2, g2⟩ : ∃ z, z = Array.size h0 := ⟨_, rfl⟩
  rw [← g2] at A2 st2
  have lt_b2 := own_ltN' A2.lt
  have sz3 := E2.1
  have K3 := K0.ext E2
  have O3 := O0.ext E2
  have V2 : Arv Z h2 b2 k2 .byte (2 : Int32) [(.int (0 : Int32)), (.int (0 : Int32))] (.int (0 : Int32)) := (Arv.new A2 (by decide)).pad (pad_rep [] (.int (0 : Int32)) 2)
  refine OwnEnd.of (S' := T2.setTop (mkF m 6 #[.val (.int (1 : Int32))] [(.ref b2)])) st2 ?_
  refine OwnEnd.ret X2 (v := (some (.ref b2))) (fun h => by rw [Bd.returns] at h; cases h) hlk (fun fs hr => retOut X2 hx Bd.returns rfl (Or.inr (Or.inr (Or.inr (Or.inr ⟨rfl, rfl, rfl⟩)))) (hb hby d16_6) hr) (by decide) (by decide) (Q := Qnb1 Z  h0 n0) e2 ?_
  exact ⟨b2, k2, rfl, N1, K3, V2, (by omega)⟩

theorem own_efby1 (m : MethodId) (b : Addr) : entryFrame m #[(.ref b), (.int (0 : Int32)), (.int (1 : Int32))] 5 = mkF m 0 #[.val (.ref b), .val (.int (0 : Int32)), .val (.int (1 : Int32)), .unset, .unset] [] := by first | (simp [entryFrame, mkF, argsToLocals, Value.category]; done) | rfl
def Qby1 (Z : State) (b : Addr) (kC : ClassId) (dC : Value) (c0 : Int32) (h0 : Heap) (n0 : Nat) (v : Option Value) (h : Heap) (L : List Loc) : Prop := ∃ (t : Addr) (kb : ClassId), v = some (.ref t) ∧ Fr n0 L ∧ Keep h0 h [] ∧ (Arv Z h t kb .byte (2 : Int32) (StrChars.Road.wideBytes [c0]) (.int (0 : Int32))) ∧ (Array.size h0 ≤ t)
set_option maxRecDepth 65536 in
set_option maxHeartbeats 40000000 in
theorem rmby1 (l : Launch) (Z : State) (a0 : Array Value) (G : OwnG Z a0) (ws : List Jvm.Cond) (b : Addr) (kC : ClassId) (dC : Value) (c0 : Int32) (h0 : Heap) (n0 : Nat) (O0 : Old Z n0 h0) (P0 : Arv Z h0 b kC .char (1 : Int32) [(.int c0)] dC) :
    MetFree l own_m17 (head1 (Jvm.Cond.code own_m17 jdk_52_method_14_code 5 (some (.array .byte)) :: ws) ({ frames := 2, cells := 1, slots := 2, locals := 24 } : Room)) (fun a U => a = #[(.ref b), (.int (0 : Int32)), (.int (1 : Int32))] ∧ Z.Warmed39 U.vm ∧ U.heap = h0) (fun _ _ _ _ _ => True) (fun _ U o U' => ∃ v L, o = .returned v ∧ Qby1 Z b kC dC c0 h0 n0 v U'.heap L ∧ FrameEnd U o U' L ({ frames := 2, cells := 1, slots := 2, locals := 24 } : Room).cells ({ frames := 2, cells := 1, slots := 2, locals := 24 } : Room).slots) := by
  refine MetFree.of_bodySF (plainFor_of_name pn_3) hisR ?_
  intro p e s m args below meth cD s₁ Bd hml0 hP hK
  obtain ⟨rfl, hZ, hh⟩ := hP
  have hw := G.1
  have hx := Bd.exec
  have hby := Bd.bytes
  have hml : cD.maxLocals = 5 := hml0
  have hown : s.vm.findClass "java/lang/StringUTF16" = some m.cls := findClass_of_methodNamed Bd.named
  have hnm := (name_of_methodNamed Bd.named Bd.method).1
  have hlk := Bd.notSynchronized
  have X0 : Stand p l e ({ frames := 2, cells := 1, slots := 2, locals := 24 } : Room) s m #[(.ref b), (.int (0 : Int32)), (.int (1 : Int32))] below meth cD s₁ [] 0 0 := Stand.of_body Bd
  have e0 : s₁.heap = h0 := by rw [← hh, Bd.state]; rfl
  have lt0 := own_ltN' P0.lt
  have K0 : Keep h0 h0 [] := Keep.refl h0 _
  have Z0 := own_old_le O0
  have N0 := Fr.nil n0
  refine OwnEnd.start (g' := (mkF m 0 #[.val (.ref b), .val (.int (0 : Int32)), .val (.int (1 : Int32)), .unset, .unset] [])) (own_efby1 m b) ?_
  refine OwnEnd.of (S' := s₁.setTop (mkF m 1 #[.val (.ref b), .val (.int (0 : Int32)), .val (.int (1 : Int32)), .unset, .unset] [(.int (1 : Int32))])) (fun _ kK => XS.iloadN X0.here hx rfl (hb hby d17_0) rfl kK) ?_
  obtain ⟨_, _, ⟨T1, L1, k1, n1⟩, -, X1, ⟨Lc1, hQ1, l1, y1, z1⟩, st1⟩ := Jvm.LawKit.callS X0 hx (y := own_m16) hown (mvT hZ (own_w G 85 rfl)) (mvT hZ (own_w G 86 rfl)) (mvT hZ (own_w G 39 rfl)) (mvT hZ (own_w G 87 rfl)) (by decide) (backOf (W := 0) (rmnb1 l Z a0 G []  h0 n0 O0 ) hZ (own_w G 87 rfl) (own_w G 39 rfl) (by decide) (by decide)) (g := (mkF m 1 #[.val (.ref b), .val (.int (0 : Int32)), .val (.int (1 : Int32)), .unset, .unset] [(.int (1 : Int32))])) rfl (by rw [hml]; rfl) (argsL := [(.int (1 : Int32))]) (rest := []) (lenOf pd_9 rfl) rfl (by show 2 * 0 + _ ≤ _; exact Nat.le_of_eq rfl) (hb hby d17_1) (fun _ _ => ⟨rfl, e0, (by decide : 0 + 1 ≤ _), (by decide : 0 + 2 ≤ _)⟩)
  dsimp only [Pt.U, Pt.locs, Pt.cells, Pt.slots] at X1 l1 y1 z1 st1 hQ1
  subst l1 y1 z1
  obtain ⟨t_1, kb_1, rfl, N1q, Kq1, r1_0, r1_1⟩ := hQ1
  have N1 := Fr.app N0 N1q
  have sz2 := Kq1.1
  have K2 := K0.trans Kq1 (own_all0 )
  have O2 := O0.keep Kq1 (own_all0 )
  have ltr1_0 := own_ltN' r1_0.lt
  refine OwnEnd.of (S' := T1.setTop (mkF m 4 #[.val (.ref b), .val (.int (0 : Int32)), .val (.int (1 : Int32)), .unset, .unset] [(.ref t_1)])) st1 ?_
  refine OwnEnd.of (S' := T1.setTop (mkF m 19 #[.val (.ref b), .val (.int (0 : Int32)), .val (.int (1 : Int32)), .val (.ref t_1), .val (.int (0 : Int32))] [(.int (0 : Int32)), (.ref b), (.int (0 : Int32)), (.ref t_1)])) (fun _ kK => XS.astoreN X1.here hx rfl (hb hby d17_4) rfl rfl (l' := #[.val (.ref b), .val (.int (0 : Int32)), .val (.int (1 : Int32)), .val (.ref t_1), .unset]) rfl (XS.iconst X1.here hx rfl (hb hby d17_5) (XS.istore X1.here hx rfl (hb hby d17_6) rfl (l' := #[.val (.ref b), .val (.int (0 : Int32)), .val (.int (1 : Int32)), .val (.ref t_1), .val (.int (0 : Int32))]) rfl (XS.iload X1.here hx rfl (hb hby d17_8) rfl (XS.iloadN X1.here hx rfl (hb hby d17_10) rfl (XS.icmpNo X1.here hx rfl (hb hby d17_11) rfl (tlt ((by decide : (0 : Int32) < (1 : Int32)))).2.1 (XS.aloadN X1.here hx rfl (hb hby d17_14) rfl rfl (XS.iload X1.here hx rfl (hb hby d17_15) rfl (XS.aloadN X1.here hx rfl (hb hby d17_17) rfl rfl (XS.iloadN X1.here hx rfl (hb hby d17_18) rfl kK)))))))))) ?_
  have f3 : Arv Z T1.heap b kC .char (1 : Int32) [(.int c0)] dC := (P0.keep Kq1 nin0)
  obtain ⟨cl4, Ar4, q4, S4, N4', H4, G4⟩ := id f3
  have hin5 : ¬ ((0 : Int32) < 0 ∨ cl4.slots.size ≤ ((0 : Int32)).toNatClampNeg) := inb_of S4 ⟨by decide, by decide⟩
  refine OwnEnd.of (S' := T1.setTop (mkF m 20 #[.val (.ref b), .val (.int (0 : Int32)), .val (.int (1 : Int32)), .val (.ref t_1), .val (.int (0 : Int32))] [(.int c0), (.int (0 : Int32)), (.ref t_1)])) (fun _ kK => X1.caload hx (j := (0 : Int32)) (v := (.int c0)) Ar4.1 (State.isArrayOf_alike hZ.alike Ar4.2.1) Ar4.2.2 hin5 (Has.at H4 hin5 (rfl)) (g := (mkF m 19 #[.val (.ref b), .val (.int (0 : Int32)), .val (.int (1 : Int32)), .val (.ref t_1), .val (.int (0 : Int32))] [(.int (0 : Int32)), (.ref b), (.int (0 : Int32)), (.ref t_1)])) rfl rfl (hb hby d17_19) _ kK) ?_
  obtain ⟨_, _, ⟨T6, L6, k6, n6⟩, -, X6, ⟨Lc6, hQ6, l6, y6, z6⟩, st6⟩ := Jvm.LawKit.callS X1 hx (y := own_m15) hown (mvT hZ (own_w G 92 rfl)) (mvT hZ (own_w G 93 rfl)) (mvT hZ (own_w G 39 rfl)) (mvT hZ (own_w G 94 rfl)) (by decide) (backOf (W := 0) (rmpu0 l Z a0 G [] t_1 kb_1 (2 : Int32) [(.int (0 : Int32)), (.int (0 : Int32))] (.int (0 : Int32)) c0 T1.heap n0 O2 r1_0 (by decide : (0 : Int32) < (2 : Int32)) (by decide : (1 : Int32) < (2 : Int32)) (Nat.le_of_ble_eq_true rfl : 1 < [(.int (0 : Int32)), (.int (0 : Int32))].length) (by omega)) hZ (own_w G 94 rfl) (own_w G 39 rfl) (by decide) (by decide)) (g := (mkF m 20 #[.val (.ref b), .val (.int (0 : Int32)), .val (.int (1 : Int32)), .val (.ref t_1), .val (.int (0 : Int32))] [(.int c0), (.int (0 : Int32)), (.ref t_1)])) rfl (by rw [hml]; rfl) (argsL := [(.ref t_1), (.int (0 : Int32)), (.int c0)]) (rest := []) (lenOf pd_10 rfl) rfl (by show 2 * 0 + _ ≤ _; exact Nat.le_of_eq rfl) (hb hby d17_20) (fun _ _ => ⟨rfl, rfl, (by decide : 1 + 0 ≤ _), (by decide : 2 + 0 ≤ _)⟩)
  dsimp only [Pt.U, Pt.locs, Pt.cells, Pt.slots] at X6 l6 y6 z6 st6 hQ6
  subst l6 y6 z6
  obtain ⟨rfl, N6q, Kq6, r6_0⟩ := hQ6
  have N6 := Fr.app N1 N6q
  have sz7 := Kq6.1
  have K7 := K2.trans Kq6 (own_all1 (Or.inr (by omega)))
  have O7 := O2.keep Kq6 (own_all1 (by omega))
  have ltr6_0 := own_ltN' r6_0.lt
  refine OwnEnd.of (S' := T6.setTop (mkF m 23 #[.val (.ref b), .val (.int (0 : Int32)), .val (.int (1 : Int32)), .val (.ref t_1), .val (.int (0 : Int32))] [])) st6 ?_
  have V8 : Arv Z T6.heap t_1 kb_1 .byte (2 : Int32) [(.int (StrChars.lo8 c0)), (.int (StrChars.hi8 c0))] (.int (0 : Int32)) := by have q := r6_0; exact q
  refine OwnEnd.of (S' := T6.setTop (mkF m 33 #[.val (.ref b), .val (.int (1 : Int32)), .val (.int (1 : Int32)), .val (.ref t_1), .val (.int (1 : Int32))] [(.ref t_1)])) (fun _ kK => XS.iinc X6.here hx rfl (hb hby d17_23) rfl (l' := #[.val (.ref b), .val (.int (1 : Int32)), .val (.int (1 : Int32)), .val (.ref t_1), .val (.int (0 : Int32))]) rfl (XS.iinc X6.here hx rfl (hb hby d17_26) rfl (l' := #[.val (.ref b), .val (.int (1 : Int32)), .val (.int (1 : Int32)), .val (.ref t_1), .val (.int (1 : Int32))]) rfl (XS.goto X6.here hx rfl (pc0 := 29) (pc' := 8) rfl (hb hby d17_29) (by decide) (by decide) (XS.iload X6.here hx rfl (hb hby d17_8) rfl (XS.iloadN X6.here hx rfl (hb hby d17_10) rfl (XS.icmpYes X6.here hx rfl (pc0 := 11) (pc' := 32) rfl (hb hby d17_11) rfl (flt ((by decide : ¬ ((1 : Int32) < (1 : Int32))))).2.1 (by decide) (by decide) (XS.aloadN X6.here hx rfl (hb hby d17_32) rfl rfl kK))))))) ?_
  have V9 : Arv Z T6.heap t_1 kb_1 .byte (2 : Int32) (StrChars.Road.wideBytes [c0]) (.int (0 : Int32)) := by have q := V8; exact q
  refine OwnEnd.ret X6 (v := (some (.ref t_1))) (fun h => by rw [Bd.returns] at h; cases h) hlk (fun fs hr => retOut X6 hx Bd.returns rfl (Or.inr (Or.inr (Or.inr (Or.inr ⟨rfl, rfl, rfl⟩)))) (hb hby d17_33) hr) (by decide) (by decide) (Q := Qby1 Z b kC dC c0 h0 n0) rfl ?_
  exact ⟨t_1, kb_1, rfl, N6, K7, V9, (by omega)⟩

theorem own_efcv1 (m : MethodId) (b : Addr) (t : Addr) : entryFrame m #[(.ref b), (.int (0 : Int32)), (.ref t), (.int (0 : Int32)), (.int (1 : Int32))] 7 = mkF m 0 #[.val (.ref b), .val (.int (0 : Int32)), .val (.ref t), .val (.int (0 : Int32)), .val (.int (1 : Int32)), .unset, .unset] [] := by first | (simp [entryFrame, mkF, argsToLocals, Value.category]; done) | rfl
def Qcv1 (Z : State) (b : Addr) (t : Addr) (kC : ClassId) (dC : Value) (kb : ClassId) (c0 : Int32) (h0 : Heap) (n0 : Nat) (v : Option Value) (h : Heap) (L : List Loc) : Prop := v = some (.int (own_first [c0])) ∧ Fr n0 L ∧ Keep h0 h [t] ∧ (Arv Z h t kb .byte (1 : Int32) (own_cbs [c0]) (.int (0 : Int32)))
set_option maxRecDepth 65536 in
set_option maxHeartbeats 40000000 in
theorem rmcv1 (l : Launch) (Z : State) (a0 : Array Value) (G : OwnG Z a0) (ws : List Jvm.Cond) (b : Addr) (t : Addr) (kC : ClassId) (dC : Value) (kb : ClassId) (c0 : Int32) (h0 : Heap) (n0 : Nat) (O0 : Old Z n0 h0) (P0 : Arv Z h0 b kC .char (1 : Int32) [(.int c0)] dC) (P1 : Arv Z h0 t kb .byte (1 : Int32) [(.int (0 : Int32))] (.int (0 : Int32))) (P2 : n0 ≤ t) (P3 : b ≠ t) :
    MetFree l own_m18 (head1 (Jvm.Cond.code own_m18 jdk_52_method_21_code 7 (some .int) :: ws) ({ frames := 0, cells := 0, slots := 0, locals := 0 } : Room)) (fun a U => a = #[(.ref b), (.int (0 : Int32)), (.ref t), (.int (0 : Int32)), (.int (1 : Int32))] ∧ Z.Warmed39 U.vm ∧ U.heap = h0) (fun _ _ _ _ _ => True) (fun _ U o U' => ∃ v L, o = .returned v ∧ Qcv1 Z b t kC dC kb c0 h0 n0 v U'.heap L ∧ FrameEnd U o U' L ({ frames := 0, cells := 0, slots := 0, locals := 0 } : Room).cells ({ frames := 0, cells := 0, slots := 0, locals := 0 } : Room).slots) := by
  refine MetFree.of_bodySF (plainFor_of_name pn_3) hisR ?_
  intro p e s m args below meth cD s₁ Bd hml0 hP hK
  obtain ⟨rfl, hZ, hh⟩ := hP
  have hw := G.1
  have hx := Bd.exec
  have hby := Bd.bytes
  have hml : cD.maxLocals = 7 := hml0
  have hown : s.vm.findClass "java/lang/StringUTF16" = some m.cls := findClass_of_methodNamed Bd.named
  have hnm := (name_of_methodNamed Bd.named Bd.method).1
  have hlk := Bd.notSynchronized
  have X0 : Stand p l e ({ frames := 0, cells := 0, slots := 0, locals := 0 } : Room) s m #[(.ref b), (.int (0 : Int32)), (.ref t), (.int (0 : Int32)), (.int (1 : Int32))] below meth cD s₁ [] 0 0 := Stand.of_body Bd
  have e0 : s₁.heap = h0 := by rw [← hh, Bd.state]; rfl
  have lt0 := own_ltN' P0.lt
  have lt1 := own_ltN' P1.lt
  have nP3 := own_neN P3
  have K0 : Keep h0 h0 [t] := Keep.refl h0 _
  have Z0 := own_old_le O0
  have N0 := Fr.nil n0
  refine OwnEnd.start (g' := (mkF m 0 #[.val (.ref b), .val (.int (0 : Int32)), .val (.ref t), .val (.int (0 : Int32)), .val (.int (1 : Int32)), .unset, .unset] [])) (own_efcv1 m b t) ?_
  refine OwnEnd.of (S' := s₁.setTop (mkF m 12 #[.val (.ref b), .val (.int (0 : Int32)), .val (.ref t), .val (.int (0 : Int32)), .val (.int (1 : Int32)), .val (.int (0 : Int32)), .unset] [(.int (0 : Int32)), (.ref b)])) (fun _ kK => XS.iconst X0.here hx rfl (hb hby d18_0) (XS.istore X0.here hx rfl (hb hby d18_1) rfl (l' := #[.val (.ref b), .val (.int (0 : Int32)), .val (.ref t), .val (.int (0 : Int32)), .val (.int (1 : Int32)), .val (.int (0 : Int32)), .unset]) rfl (XS.iload X0.here hx rfl (hb hby d18_3) rfl (XS.iload X0.here hx rfl (hb hby d18_5) rfl (XS.icmpNo X0.here hx rfl (hb hby d18_7) rfl (tlt ((by decide : (0 : Int32) < (1 : Int32)))).2.1 (XS.aloadN X0.here hx rfl (hb hby d18_10) rfl rfl (XS.iloadN X0.here hx rfl (hb hby d18_11) rfl kK))))))) ?_
  obtain ⟨cl1, Ar1, q1, S1, N1', H1, G1⟩ := id P0
  have hin2 : ¬ ((0 : Int32) < 0 ∨ cl1.slots.size ≤ ((0 : Int32)).toNatClampNeg) := inb_of S1 ⟨by decide, by decide⟩
  refine OwnEnd.of (S' := s₁.setTop (mkF m 13 #[.val (.ref b), .val (.int (0 : Int32)), .val (.ref t), .val (.int (0 : Int32)), .val (.int (1 : Int32)), .val (.int (0 : Int32)), .unset] [(.int c0)])) (fun _ kK => X0.caload hx (j := (0 : Int32)) (v := (.int c0)) (by rw [e0]; exact Ar1.1) (State.isArrayOf_alike hZ.alike Ar1.2.1) Ar1.2.2 hin2 (Has.at H1 hin2 (rfl)) (g := (mkF m 12 #[.val (.ref b), .val (.int (0 : Int32)), .val (.ref t), .val (.int (0 : Int32)), .val (.int (1 : Int32)), .val (.int (0 : Int32)), .unset] [(.int (0 : Int32)), (.ref b)])) rfl rfl (hb hby d18_12) _ kK) ?_
  refine OwnEnd.of (S' := s₁.setTop (mkF m 20 #[.val (.ref b), .val (.int (0 : Int32)), .val (.ref t), .val (.int (0 : Int32)), .val (.int (1 : Int32)), .val (.int (0 : Int32)), .val (.int c0)] [(.int (255 : Int32)), (.int c0)])) (fun _ kK => XS.istore X0.here hx rfl (hb hby d18_13) rfl (l' := #[.val (.ref b), .val (.int (0 : Int32)), .val (.ref t), .val (.int (0 : Int32)), .val (.int (1 : Int32)), .val (.int (0 : Int32)), .val (.int c0)]) rfl (XS.iload X0.here hx rfl (hb hby d18_15) rfl (XS.sipush X0.here hx rfl (hb hby d18_17) kK))) ?_
  rcases Decidable.em ((255 : Int32) < c0) with hc3 | hc3
  · refine OwnEnd.of (S' := s₁.setTop (mkF m 25 #[.val (.ref b), .val (.int (0 : Int32)), .val (.ref t), .val (.int (0 : Int32)), .val (.int (1 : Int32)), .val (.int (0 : Int32)), .val (.int c0)] [(.int (0 : Int32))])) (fun _ kK => XS.icmpNo X0.here hx rfl (hb hby d18_20) rfl (tlt (hc3)).2.2.2 (XS.iload X0.here hx rfl (hb hby d18_23) rfl kK)) ?_
    have V4 : Arv Z h0 t kb .byte (1 : Int32) (own_cbs [c0]) (.int (0 : Int32)) := by have q := P1; simpa [own_cbs, hc3] using q
    refine OwnEnd.ret X0 (v := (some (.int (0 : Int32)))) (fun h => by rw [Bd.returns] at h; cases h) hlk (fun fs hr => retOut X0 hx Bd.returns rfl (Or.inl ⟨rfl, Or.inl rfl, _, rfl⟩) (hb hby d18_25) hr) (by decide) (by decide) (Q := Qcv1 Z b t kC dC kb c0 h0 n0) e0 ?_
    exact ⟨(by simp [own_first, hc3]), N0, K0, V4⟩
  · refine OwnEnd.of (S' := s₁.setTop (mkF m 31 #[.val (.ref b), .val (.int (0 : Int32)), .val (.ref t), .val (.int (0 : Int32)), .val (.int (1 : Int32)), .val (.int (0 : Int32)), .val (.int c0)] [(.int (nar .byte c0)), (.int (0 : Int32)), (.ref t)])) (fun _ kK => XS.icmpYes X0.here hx rfl (pc0 := 20) (pc' := 26) rfl (hb hby d18_20) rfl (flt (hc3)).2.2.2 (by decide) (by decide) (XS.aloadN X0.here hx rfl (hb hby d18_26) rfl rfl (XS.iloadN X0.here hx rfl (hb hby d18_27) rfl (XS.iload X0.here hx rfl (hb hby d18_28) rfl (XS.i2b X0.here hx rfl (hb hby d18_30) rfl kK))))) ?_
    obtain ⟨cl5, Ar5, q5, S5, N5', H5, G5⟩ := id P1
    have hin6 : ¬ ((0 : Int32) < 0 ∨ cl5.slots.size ≤ ((0 : Int32)).toNatClampNeg) := inb_of S5 ⟨by decide, by decide⟩
    obtain ⟨T6, h6, X6, e6, W6, st6⟩ := stB X0 hx hZ e0 Ar5 (j := (0 : Int32)) hin6 (g := (mkF m 31 #[.val (.ref b), .val (.int (0 : Int32)), .val (.ref t), .val (.int (0 : Int32)), .val (.int (1 : Int32)), .val (.int (0 : Int32)), .val (.int c0)] [(.int (nar .byte c0)), (.int (0 : Int32)), (.ref t)])) rfl rfl (hb hby d18_31)
    have N6 := Fr.snoc X6 N0 (by omega)
    have sz7 := own_wr_le W6
    have K7 := K0.wr W6 (Or.inl (by simp))
    have O7 := O0.wr W6 (by omega)
    have V6 : Arv Z h6 t kb .byte (1 : Int32) [(.int (nar .byte (nar .byte c0)))] (.int (0 : Int32)) := Arv.set Ar5 q5 S5 N5' H5 G5 (fits_nar_byte _) W6 0 rfl (Nat.le_of_ble_eq_true rfl)
    refine OwnEnd.of (S' := T6.setTop (mkF m 32 #[.val (.ref b), .val (.int (0 : Int32)), .val (.ref t), .val (.int (0 : Int32)), .val (.int (1 : Int32)), .val (.int (0 : Int32)), .val (.int c0)] [])) st6 ?_
    refine OwnEnd.of (S' := T6.setTop (mkF m 46 #[.val (.ref b), .val (.int (1 : Int32)), .val (.ref t), .val (.int (1 : Int32)), .val (.int (1 : Int32)), .val (.int (1 : Int32)), .val (.int c0)] [(.int (1 : Int32))])) (fun _ kK => XS.iinc X6.here hx rfl (hb hby d18_32) rfl (l' := #[.val (.ref b), .val (.int (1 : Int32)), .val (.ref t), .val (.int (0 : Int32)), .val (.int (1 : Int32)), .val (.int (0 : Int32)), .val (.int c0)]) rfl (XS.iinc X6.here hx rfl (hb hby d18_35) rfl (l' := #[.val (.ref b), .val (.int (1 : Int32)), .val (.ref t), .val (.int (1 : Int32)), .val (.int (1 : Int32)), .val (.int (0 : Int32)), .val (.int c0)]) rfl (XS.iinc X6.here hx rfl (hb hby d18_38) rfl (l' := #[.val (.ref b), .val (.int (1 : Int32)), .val (.ref t), .val (.int (1 : Int32)), .val (.int (1 : Int32)), .val (.int (1 : Int32)), .val (.int c0)]) rfl (XS.goto X6.here hx rfl (pc0 := 41) (pc' := 3) rfl (hb hby d18_41) (by decide) (by decide) (XS.iload X6.here hx rfl (hb hby d18_3) rfl (XS.iload X6.here hx rfl (hb hby d18_5) rfl (XS.icmpYes X6.here hx rfl (pc0 := 7) (pc' := 44) rfl (hb hby d18_7) rfl (flt ((by decide : ¬ ((1 : Int32) < (1 : Int32))))).2.1 (by decide) (by decide) (XS.iload X6.here hx rfl (hb hby d18_44) rfl kK)))))))) ?_
    have V8 : Arv Z h6 t kb .byte (1 : Int32) (own_cbs [c0]) (.int (0 : Int32)) := by have q := V6; simpa [own_cbs, hc3] using q
    refine OwnEnd.ret X6 (v := (some (.int (1 : Int32)))) (fun h => by rw [Bd.returns] at h; cases h) hlk (fun fs hr => retOut X6 hx Bd.returns rfl (Or.inl ⟨rfl, Or.inl rfl, _, rfl⟩) (hb hby d18_46) hr) (by decide) (by decide) (Q := Qcv1 Z b t kC dC kb c0 h0 n0) e6 ?_
    exact ⟨(by simp [own_first, hc3]), N6, K7, V8⟩

theorem own_efcw1 (m : MethodId) (b : Addr) : entryFrame m #[(.ref b), (.int (0 : Int32)), (.int (1 : Int32))] 6 = mkF m 0 #[.val (.ref b), .val (.int (0 : Int32)), .val (.int (1 : Int32)), .unset, .unset, .unset] [] := by first | (simp [entryFrame, mkF, argsToLocals, Value.category]; done) | rfl
def Qcw1 (Z : State) (b : Addr) (kC : ClassId) (dC : Value) (c0 : Int32) (h0 : Heap) (n0 : Nat) (v : Option Value) (h : Heap) (L : List Loc) : Prop := ∃ (t : Addr) (kb : ClassId) (N : Int32) (vs : List Value) (cd : Int32), v = some (.ref t) ∧ Fr n0 L ∧ Keep h0 h [] ∧ (Arv Z h t kb .byte N vs (.int (0 : Int32))) ∧ (StrChars.Road.CodA [c0] cd N vs) ∧ (Array.size h0 ≤ t)
set_option maxRecDepth 65536 in
set_option maxHeartbeats 40000000 in
theorem rmcw1 (l : Launch) (Z : State) (a0 : Array Value) (G : OwnG Z a0) (ws : List Jvm.Cond) (b : Addr) (kC : ClassId) (dC : Value) (c0 : Int32) (h0 : Heap) (n0 : Nat) (O0 : Old Z n0 h0) (P0 : Arv Z h0 b kC .char (1 : Int32) [(.int c0)] dC) (P1 : ∀ c ∈ ([c0] : List Int32), ¬ c < (0 : Int32) ∧ ¬ (65535 : Int32) < c) :
    MetFree l own_m19 (head1 (Jvm.Cond.code own_m19 jdk_52_method_16_code 6 (some (.array .byte)) :: ws) ({ frames := 3, cells := 2, slots := 3, locals := 40 } : Room)) (fun a U => a = #[(.ref b), (.int (0 : Int32)), (.int (1 : Int32))] ∧ Z.Warmed39 U.vm ∧ U.heap = h0) (fun _ _ _ _ _ => True) (fun _ U o U' => ∃ v L, o = .returned v ∧ Qcw1 Z b kC dC c0 h0 n0 v U'.heap L ∧ FrameEnd U o U' L ({ frames := 3, cells := 2, slots := 3, locals := 40 } : Room).cells ({ frames := 3, cells := 2, slots := 3, locals := 40 } : Room).slots) := by
  refine MetFree.of_bodySF (plainFor_of_name pn_3) hisR ?_
  intro p e s m args below meth cD s₁ Bd hml0 hP hK
  obtain ⟨rfl, hZ, hh⟩ := hP
  have hw := G.1
  have hx := Bd.exec
  have hby := Bd.bytes
  have hml : cD.maxLocals = 6 := hml0
  have hown : s.vm.findClass "java/lang/StringUTF16" = some m.cls := findClass_of_methodNamed Bd.named
  have hnm := (name_of_methodNamed Bd.named Bd.method).1
  have hlk := Bd.notSynchronized
  have X0 : Stand p l e ({ frames := 3, cells := 2, slots := 3, locals := 40 } : Room) s m #[(.ref b), (.int (0 : Int32)), (.int (1 : Int32))] below meth cD s₁ [] 0 0 := Stand.of_body Bd
  have e0 : s₁.heap = h0 := by rw [← hh, Bd.state]; rfl
  have lt0 := own_ltN' P0.lt
  have K0 : Keep h0 h0 [] := Keep.refl h0 _
  have Z0 := own_old_le O0
  have N0 := Fr.nil n0
  refine OwnEnd.start (g' := (mkF m 0 #[.val (.ref b), .val (.int (0 : Int32)), .val (.int (1 : Int32)), .unset, .unset, .unset] [])) (own_efcw1 m b) ?_
  refine OwnEnd.of (S' := s₁.setTop (mkF m 1 #[.val (.ref b), .val (.int (0 : Int32)), .val (.int (1 : Int32)), .unset, .unset, .unset] [(.int (1 : Int32))])) (fun _ kK => XS.iloadN X0.here hx rfl (hb hby d19_0) rfl kK) ?_
  obtain ⟨T1, h1, k1, X1, e1, E1, A1, st1⟩ := newP X0 hx hZ (own_w G 20 rfl) e0 (g := (mkF m 1 #[.val (.ref b), .val (.int (0 : Int32)), .val (.int (1 : Int32)), .unset, .unset, .unset] [(.int (1 : Int32))])) rfl (hb hby d19_1) rfl (by decide) (cap := 1) (by decide) (by decide) (by decide) (by decide)
  obtain ⟨b1, g1⟩ : ∃ z, z = Array.size h0 := ⟨_, rfl⟩
  rw [← g1] at A1 st1
  have lt_b1 := own_ltN' A1.lt
  have sz2 := E1.1
  have K2 := K0.ext E1
  have O2 := O0.ext E1
  have V1 : Arv Z h1 b1 k1 .byte (1 : Int32) [(.int (0 : Int32))] (.int (0 : Int32)) := (Arv.new A1 (by decide)).pad (pad_rep [] (.int (0 : Int32)) 1)
  refine OwnEnd.of (S' := T1.setTop (mkF m 3 #[.val (.ref b), .val (.int (0 : Int32)), .val (.int (1 : Int32)), .unset, .unset, .unset] [(.ref b1)])) st1 ?_
  refine OwnEnd.of (S' := T1.setTop (mkF m 9 #[.val (.ref b), .val (.int (0 : Int32)), .val (.int (1 : Int32)), .val (.ref b1), .unset, .unset] [(.int (1 : Int32)), (.int (0 : Int32)), (.ref b1), (.int (0 : Int32)), (.ref b)])) (fun _ kK => XS.astoreN X1.here hx rfl (hb hby d19_3) rfl rfl (l' := #[.val (.ref b), .val (.int (0 : Int32)), .val (.int (1 : Int32)), .val (.ref b1), .unset, .unset]) rfl (XS.aloadN X1.here hx rfl (hb hby d19_4) rfl rfl (XS.iloadN X1.here hx rfl (hb hby d19_5) rfl (XS.aloadN X1.here hx rfl (hb hby d19_6) rfl rfl (XS.iconst X1.here hx rfl (hb hby d19_7) (XS.iloadN X1.here hx rfl (hb hby d19_8) rfl kK)))))) ?_
  have f3 : Arv Z h1 b kC .char (1 : Int32) [(.int c0)] dC := (P0.ext E1)
  obtain ⟨_, _, ⟨T4, L4, k4, n4⟩, -, X4, ⟨Lc4, hQ4, l4, y4, z4⟩, st4⟩ := Jvm.LawKit.callS X1 hx (y := own_m18) hown (mvT hZ (own_w G 41 rfl)) (mvT hZ (own_w G 42 rfl)) (mvT hZ (own_w G 39 rfl)) (mvT hZ (own_w G 43 rfl)) (by decide) (backOf (W := 0) (rmcv1 l Z a0 G [] b b1 kC dC k1 c0 h1 n0 O2 f3 V1 (by omega) (own_ne (by omega) : b ≠ b1)) hZ (own_w G 43 rfl) (own_w G 39 rfl) (by decide) (by decide)) (g := (mkF m 9 #[.val (.ref b), .val (.int (0 : Int32)), .val (.int (1 : Int32)), .val (.ref b1), .unset, .unset] [(.int (1 : Int32)), (.int (0 : Int32)), (.ref b1), (.int (0 : Int32)), (.ref b)])) rfl (by rw [hml]; rfl) (argsL := [(.ref b), (.int (0 : Int32)), (.ref b1), (.int (0 : Int32)), (.int (1 : Int32))]) (rest := []) (lenOf pd_11 rfl) rfl (by show 2 * 0 + _ ≤ _; exact Nat.le_of_eq rfl) (hb hby d19_9) (fun _ _ => ⟨rfl, e1, (by decide : 1 + 0 ≤ _), (by decide : 1 + 0 ≤ _)⟩)
  dsimp only [Pt.U, Pt.locs, Pt.cells, Pt.slots] at X4 l4 y4 z4 st4 hQ4
  subst l4 y4 z4
  obtain ⟨rfl, N4q, Kq4, r4_0⟩ := hQ4
  have N4 := Fr.app N0 N4q
  have sz5 := Kq4.1
  have K5 := K2.trans Kq4 (own_all1 (Or.inr (by omega)))
  have O5 := O2.keep Kq4 (own_all1 (by omega))
  have ltr4_0 := own_ltN' r4_0.lt
  refine OwnEnd.of (S' := T4.setTop (mkF m 12 #[.val (.ref b), .val (.int (0 : Int32)), .val (.int (1 : Int32)), .val (.ref b1), .unset, .unset] [(.int (own_first [c0]))])) st4 ?_
  rcases own_first1 c0 with hr | hr
  · rw [hr.1]
    refine OwnEnd.of (S' := T4.setTop (mkF m 23 #[.val (.ref b), .val (.int (0 : Int32)), .val (.int (1 : Int32)), .val (.ref b1), .val (.int (0 : Int32)), .unset] [(.int (1 : Int32)), (.int (0 : Int32)), (.ref b)])) (fun _ kK => XS.istore X4.here hx rfl (hb hby d19_12) rfl (l' := #[.val (.ref b), .val (.int (0 : Int32)), .val (.int (1 : Int32)), .val (.ref b1), .val (.int (0 : Int32)), .unset]) rfl (XS.iload X4.here hx rfl (hb hby d19_14) rfl (XS.iloadN X4.here hx rfl (hb hby d19_16) rfl (XS.icmpNo X4.here hx rfl (hb hby d19_17) rfl (feq ((by decide : ¬ ((0 : Int32) = (1 : Int32))))).1 (XS.aloadN X4.here hx rfl (hb hby d19_20) rfl rfl (XS.iloadN X4.here hx rfl (hb hby d19_21) rfl (XS.iloadN X4.here hx rfl (hb hby d19_22) rfl kK))))))) ?_
    have f6 : Arv Z T4.heap b kC .char (1 : Int32) [(.int c0)] dC := (f3.keep Kq4 (own_nin1 (own_ne (by omega))))
    obtain ⟨_, _, ⟨T7, L7, k7, n7⟩, -, X7, ⟨Lc7, hQ7, l7, y7, z7⟩, st7⟩ := Jvm.LawKit.callS X4 hx (y := own_m17) hown (mvT hZ (own_w G 82 rfl)) (mvT hZ (own_w G 83 rfl)) (mvT hZ (own_w G 39 rfl)) (mvT hZ (own_w G 84 rfl)) (by decide) (backOf (W := 0) (rmby1 l Z a0 G [] b kC dC c0 T4.heap n0 O5 f6) hZ (own_w G 84 rfl) (own_w G 39 rfl) (by decide) (by decide)) (g := (mkF m 23 #[.val (.ref b), .val (.int (0 : Int32)), .val (.int (1 : Int32)), .val (.ref b1), .val (.int (0 : Int32)), .unset] [(.int (1 : Int32)), (.int (0 : Int32)), (.ref b)])) rfl (by rw [hml]; rfl) (argsL := [(.ref b), (.int (0 : Int32)), (.int (1 : Int32))]) (rest := []) (lenOf pd_12 rfl) rfl (by show 2 * 0 + _ ≤ _; exact Nat.le_of_eq rfl) (hb hby d19_23) (fun _ _ => ⟨rfl, rfl, (by decide : 1 + 1 ≤ _), (by decide : 1 + 2 ≤ _)⟩)
    dsimp only [Pt.U, Pt.locs, Pt.cells, Pt.slots] at X7 l7 y7 z7 st7 hQ7
    subst l7 y7 z7
    obtain ⟨t_7, kb_7, rfl, N7q, Kq7, r7_0, r7_1⟩ := hQ7
    have N7 := Fr.app N4 N7q
    have sz8 := Kq7.1
    have K8 := K5.trans Kq7 (own_all0 )
    have O8 := O5.keep Kq7 (own_all0 )
    have ltr7_0 := own_ltN' r7_0.lt
    refine OwnEnd.of (S' := T7.setTop (mkF m 26 #[.val (.ref b), .val (.int (0 : Int32)), .val (.int (1 : Int32)), .val (.ref b1), .val (.int (0 : Int32)), .unset] [(.ref t_7)])) st7 ?_
    refine OwnEnd.of (S' := T7.setTop (mkF m 32 #[.val (.ref b), .val (.int (0 : Int32)), .val (.int (1 : Int32)), .val (.ref b1), .val (.int (0 : Int32)), .val (.ref t_7)] [(.int (0 : Int32)), (.ref t_7)])) (fun _ kK => XS.astore X7.here hx rfl (hb hby d19_26) rfl rfl (l' := #[.val (.ref b), .val (.int (0 : Int32)), .val (.int (1 : Int32)), .val (.ref b1), .val (.int (0 : Int32)), .val (.ref t_7)]) rfl (XS.aload X7.here hx rfl (hb hby d19_28) rfl rfl (XS.iload X7.here hx rfl (hb hby d19_30) rfl kK))) ?_
    obtain ⟨_, _, ⟨T9, L9, k9, n9⟩, -, X9, ⟨Lc9, hQ9, l9, y9, z9⟩, st9⟩ := Jvm.LawKit.callS X7 hx (y := own_m11) hown (mvT hZ (own_w G 98 rfl)) (mvT hZ (own_w G 99 rfl)) (mvT hZ (own_w G 39 rfl)) (mvT hZ (own_w G 100 rfl)) (by decide) (backOf (W := 0) (rmgc l Z a0 G [] t_7 kb_7 (2 : Int32) (StrChars.Road.wideBytes [c0]) (.int (0 : Int32)) (0 : Int32) (0 : Int32) c0 T7.heap n0 O8 r7_0 (by decide : (0 : Int32) <<< ((1 : Int32) &&& 31) = (0 : Int32)) (by decide : ¬ (0 : Int32) < (0 : Int32)) (by decide : (0 : Int32) < (2 : Int32)) (by decide : ¬ ((0 : Int32) + (1 : Int32)) < (0 : Int32)) (by decide : ((0 : Int32) + (1 : Int32)) < (2 : Int32)) (by rfl : (StrChars.Road.wideBytes [c0]).getD (0 : Int32).toNatClampNeg (.int (0 : Int32)) = (.int (StrChars.lo8 c0))) (by rfl : (StrChars.Road.wideBytes [c0]).getD ((0 : Int32) + (1 : Int32)).toNatClampNeg (.int (0 : Int32)) = (.int (StrChars.hi8 c0))) (P1 c0 (by simp))) hZ (own_w G 100 rfl) (own_w G 39 rfl) (by decide) (by decide)) (g := (mkF m 32 #[.val (.ref b), .val (.int (0 : Int32)), .val (.int (1 : Int32)), .val (.ref b1), .val (.int (0 : Int32)), .val (.ref t_7)] [(.int (0 : Int32)), (.ref t_7)])) rfl (by rw [hml]; rfl) (argsL := [(.ref t_7), (.int (0 : Int32))]) (rest := []) (lenOf pd_6 rfl) rfl (by show 2 * 0 + _ ≤ _; exact Nat.le_of_eq rfl) (hb hby d19_32) (fun _ _ => ⟨rfl, rfl, (by decide : 2 + 0 ≤ _), (by decide : 3 + 0 ≤ _)⟩)
    dsimp only [Pt.U, Pt.locs, Pt.cells, Pt.slots] at X9 l9 y9 z9 st9 hQ9
    subst l9 y9 z9
    obtain ⟨rfl, N9q, eh9⟩ := hQ9
    have N9 := Fr.app N7 N9q
    refine OwnEnd.of (S' := T9.setTop (mkF m 35 #[.val (.ref b), .val (.int (0 : Int32)), .val (.int (1 : Int32)), .val (.ref b1), .val (.int (0 : Int32)), .val (.ref t_7)] [(.int c0)])) st9 ?_
    refine OwnEnd.of (S' := T9.setTop (mkF m 56 #[.val (.ref b), .val (.int (0 : Int32)), .val (.int (1 : Int32)), .val (.ref b1), .val (.int (0 : Int32)), .val (.ref t_7)] [(.ref t_7)])) (fun _ kK => XS.sipush X9.here hx rfl (hb hby d19_35) (XS.icmpYes X9.here hx rfl (pc0 := 38) (pc' := 54) rfl (hb hby d19_38) rfl (tlt (hr.2)).2.2.1 (by decide) (by decide) (XS.aload X9.here hx rfl (hb hby d19_54) rfl rfl kK))) ?_
    refine OwnEnd.ret X9 (v := (some (.ref t_7))) (fun h => by rw [Bd.returns] at h; cases h) hlk (fun fs hr => retOut X9 hx Bd.returns rfl (Or.inr (Or.inr (Or.inr (Or.inr ⟨rfl, rfl, rfl⟩)))) (hb hby d19_56) hr) (by decide) (by decide) (Q := Qcw1 Z b kC dC c0 h0 n0) eh9 ?_
    exact ⟨t_7, kb_7, (2 : Int32), (StrChars.Road.wideBytes [c0]), (1 : Int32), rfl, N9, K8, r7_0, (Or.inr ⟨rfl, rfl, rfl, c0, by simp, hr.2⟩), (by omega)⟩
  · rw [hr.1]
    have V10 : Arv Z T4.heap b1 k1 .byte (1 : Int32) (([c0] : List Int32).map fun c => Value.int (StrChars.lo8 c)) (.int (0 : Int32)) := by have q := r4_0; rw [hr.2.1] at q; exact q
    refine OwnEnd.of (S' := T4.setTop (mkF m 58 #[.val (.ref b), .val (.int (0 : Int32)), .val (.int (1 : Int32)), .val (.ref b1), .val (.int (1 : Int32)), .unset] [(.ref b1)])) (fun _ kK => XS.istore X4.here hx rfl (hb hby d19_12) rfl (l' := #[.val (.ref b), .val (.int (0 : Int32)), .val (.int (1 : Int32)), .val (.ref b1), .val (.int (1 : Int32)), .unset]) rfl (XS.iload X4.here hx rfl (hb hby d19_14) rfl (XS.iloadN X4.here hx rfl (hb hby d19_16) rfl (XS.icmpYes X4.here hx rfl (pc0 := 17) (pc' := 57) rfl (hb hby d19_17) rfl (teq ((by decide : (1 : Int32) = (1 : Int32)))).1 (by decide) (by decide) (XS.aloadN X4.here hx rfl (hb hby d19_57) rfl rfl kK))))) ?_
    refine OwnEnd.ret X4 (v := (some (.ref b1))) (fun h => by rw [Bd.returns] at h; cases h) hlk (fun fs hr => retOut X4 hx Bd.returns rfl (Or.inr (Or.inr (Or.inr (Or.inr ⟨rfl, rfl, rfl⟩)))) (hb hby d19_58) hr) (by decide) (by decide) (Q := Qcw1 Z b kC dC c0 h0 n0) rfl ?_
    exact ⟨b1, k1, (1 : Int32), (([c0] : List Int32).map fun c => Value.int (StrChars.lo8 c)), (0 : Int32), rfl, N4, K5, V10, (Or.inl ⟨rfl, rfl, rfl, hr.2.2⟩), (by omega)⟩

theorem own_efcf1 (m : MethodId) (t : Addr) : entryFrame m #[(.ref t), (.int (1 : Int32))] 2 = mkF m 0 #[.val (.ref t), .val (.int (1 : Int32))] [] := by first | (simp [entryFrame, mkF, argsToLocals, Value.category]; done) | rfl
set_option maxRecDepth 65536 in
set_option maxHeartbeats 40000000 in
theorem rmcf1 (l : Launch) (Z : State) (a0 : Array Value) (G : OwnG Z a0) (ws : List Jvm.Cond) (t : Addr) (kb : ClassId) (N : Int32) (vs : List Value) (cd : Int32) (c0 : Int32) (h0 : Heap) (n0 : Nat) (O0 : Old Z n0 h0) (P0 : Arv Z h0 t kb .byte N vs (.int (0 : Int32))) (P1 : StrChars.Road.CodA [c0] cd N vs) :
    MetFree l own_m20 (head1 (Jvm.Cond.code own_m20 jdk_52_method_15_code 2 (some .byte) :: ws) ({ frames := 0, cells := 0, slots := 0, locals := 0 } : Room)) (fun a U => a = #[(.ref t), (.int (1 : Int32))] ∧ Z.Warmed39 U.vm ∧ U.heap = h0) (fun _ _ _ _ _ => True) (fun _ U o U' => ∃ v L, o = .returned v ∧ (own_Qint cd) h0 n0 v U'.heap L ∧ FrameEnd U o U' L ({ frames := 0, cells := 0, slots := 0, locals := 0 } : Room).cells ({ frames := 0, cells := 0, slots := 0, locals := 0 } : Room).slots) := by
  refine MetFree.of_bodySF (plainFor_of_name pn_3) hisR ?_
  intro p e s m args below meth cD s₁ Bd hml0 hP hK
  obtain ⟨rfl, hZ, hh⟩ := hP
  have hw := G.1
  have hx := Bd.exec
  have hby := Bd.bytes
  have hml : cD.maxLocals = 2 := hml0
  have hown : s.vm.findClass "java/lang/StringUTF16" = some m.cls := findClass_of_methodNamed Bd.named
  have hnm := (name_of_methodNamed Bd.named Bd.method).1
  have hlk := Bd.notSynchronized
  have X0 : Stand p l e ({ frames := 0, cells := 0, slots := 0, locals := 0 } : Room) s m #[(.ref t), (.int (1 : Int32))] below meth cD s₁ [] 0 0 := Stand.of_body Bd
  have e0 : s₁.heap = h0 := by rw [← hh, Bd.state]; rfl
  have lt0 := own_ltN' P0.lt
  have K0 : Keep h0 h0 [] := Keep.refl h0 _
  have Z0 := own_old_le O0
  have N0 := Fr.nil n0
  refine OwnEnd.start (g' := (mkF m 0 #[.val (.ref t), .val (.int (1 : Int32))] [])) (own_efcf1 m t) ?_
  rcases P1 with hxc | hxc
  · have V1 : Arv Z h0 t kb .byte (1 : Int32) (([c0] : List Int32).map fun c => Value.int (StrChars.lo8 c)) (.int (0 : Int32)) := by have q := P0; rw [hxc.2.1, hxc.2.2.1] at q; exact q
    refine OwnEnd.of (S' := s₁.setTop (mkF m 2 #[.val (.ref t), .val (.int (1 : Int32))] [(.ref t), (.int (1 : Int32))])) (fun _ kK => XS.iloadN X0.here hx rfl (hb hby d20_0) rfl (XS.aloadN X0.here hx rfl (hb hby d20_1) rfl rfl kK)) ?_
    obtain ⟨cl2, Ar2, q2, S2, N2', H2, G2⟩ := id V1
    refine OwnEnd.of (S' := s₁.setTop (mkF m 3 #[.val (.ref t), .val (.int (1 : Int32))] [(.int (1 : Int32)), (.int (1 : Int32))])) (fun _ kK => X0.arraylength hx (by rw [e0]; exact Ar2.1) (State.isArrayOf_alike hZ.alike Ar2.2.1) (g := (mkF m 2 #[.val (.ref t), .val (.int (1 : Int32))] [(.ref t), (.int (1 : Int32))])) rfl rfl (hb hby d20_2) _ (by rw [len_of S2 N2']; exact kK)) ?_
    refine OwnEnd.of (S' := s₁.setTop (mkF m 8 #[.val (.ref t), .val (.int (1 : Int32))] [(.int (0 : Int32))])) (fun _ kK => XS.isub X0.here hx rfl (hb hby d20_3) rfl (XS.bipush X0.here hx rfl (hb hby d20_4) (XS.iushr X0.here hx rfl (hb hby d20_6) rfl (XS.i2b X0.here hx rfl (hb hby d20_7) rfl kK)))) ?_
    refine OwnEnd.ret X0 (v := (some (.int (nar .byte (0 : Int32))))) (fun h => by rw [Bd.returns] at h; cases h) hlk (fun fs hr => retN X0 hx (t := .byte) Bd.returns (by simp) (hb hby d20_8) hr) (by decide) (by decide) (Q := (own_Qint cd) h0 n0) e0 ?_
    exact ⟨(congrArg (fun z => some (Value.int z)) hxc.1.symm), N0, rfl⟩
  · have V3 : Arv Z h0 t kb .byte (2 : Int32) (StrChars.Road.wideBytes [c0]) (.int (0 : Int32)) := by have q := P0; rw [hxc.2.1, hxc.2.2.1] at q; exact q
    refine OwnEnd.of (S' := s₁.setTop (mkF m 2 #[.val (.ref t), .val (.int (1 : Int32))] [(.ref t), (.int (1 : Int32))])) (fun _ kK => XS.iloadN X0.here hx rfl (hb hby d20_0) rfl (XS.aloadN X0.here hx rfl (hb hby d20_1) rfl rfl kK)) ?_
    obtain ⟨cl4, Ar4, q4, S4, N4', H4, G4⟩ := id V3
    refine OwnEnd.of (S' := s₁.setTop (mkF m 3 #[.val (.ref t), .val (.int (1 : Int32))] [(.int (2 : Int32)), (.int (1 : Int32))])) (fun _ kK => X0.arraylength hx (by rw [e0]; exact Ar4.1) (State.isArrayOf_alike hZ.alike Ar4.2.1) (g := (mkF m 2 #[.val (.ref t), .val (.int (1 : Int32))] [(.ref t), (.int (1 : Int32))])) rfl rfl (hb hby d20_2) _ (by rw [len_of S4 N4']; exact kK)) ?_
    refine OwnEnd.of (S' := s₁.setTop (mkF m 8 #[.val (.ref t), .val (.int (1 : Int32))] [(.int (1 : Int32))])) (fun _ kK => XS.isub X0.here hx rfl (hb hby d20_3) rfl (XS.bipush X0.here hx rfl (hb hby d20_4) (XS.iushr X0.here hx rfl (hb hby d20_6) rfl (XS.i2b X0.here hx rfl (hb hby d20_7) rfl kK)))) ?_
    refine OwnEnd.ret X0 (v := (some (.int (nar .byte (1 : Int32))))) (fun h => by rw [Bd.returns] at h; cases h) hlk (fun fs hr => retN X0 hx (t := .byte) Bd.returns (by simp) (hb hby d20_8) hr) (by decide) (by decide) (Q := (own_Qint cd) h0 n0) e0 ?_
    exact ⟨(congrArg (fun z => some (Value.int z)) hxc.1.symm), N0, rfl⟩

theorem own_efnv1 (m : MethodId) (x0 : Addr) (b : Addr) : entryFrame m #[(.ref x0), (.ref b), (.int (0 : Int32)), (.int (1 : Int32)), .null] 6 = mkF m 0 #[.val (.ref x0), .val (.ref b), .val (.int (0 : Int32)), .val (.int (1 : Int32)), .val .null, .unset] [] := by first | (simp [entryFrame, mkF, argsToLocals, Value.category]; done) | rfl
def Qnv1 (Z : State) (x0 : Addr) (b : Addr) (v0 : Value) (c9 : Value) (kC : ClassId) (dC : Value) (c0 : Int32) (h0 : Heap) (n0 : Nat) (v : Option Value) (h : Heap) (L : List Loc) : Prop := ∃ (t : Addr) (kb : ClassId) (N : Int32) (vs : List Value) (cd : Int32), v = none ∧ Fr n0 L ∧ Keep h0 h [x0] ∧ (Exa Z h x0 "java/lang/String") ∧ (Fld Z h x0 "java/lang/String" "value" "[B" (.ref t)) ∧ (Fld Z h x0 "java/lang/String" "coder" "B" (.int cd)) ∧ (Arv Z h t kb .byte N vs (.int (0 : Int32))) ∧ (StrChars.Road.CodA [c0] cd N vs) ∧ (Array.size h0 ≤ t)
set_option maxRecDepth 65536 in
set_option maxHeartbeats 40000000 in
theorem rmnv1 (l : Launch) (Z : State) (a0 : Array Value) (G : OwnG Z a0) (ws : List Jvm.Cond) (x0 : Addr) (b : Addr) (v0 : Value) (c9 : Value) (kC : ClassId) (dC : Value) (c0 : Int32) (h0 : Heap) (n0 : Nat) (O0 : Old Z n0 h0) (P0 : Exa Z h0 x0 "java/lang/String") (P1 : Fld Z h0 x0 "java/lang/String" "value" "[B" v0) (P2 : Fld Z h0 x0 "java/lang/String" "coder" "B" c9) (P3 : n0 ≤ x0) (P4 : Arv Z h0 b kC .char (1 : Int32) [(.int c0)] dC) (P5 : ∀ c ∈ ([c0] : List Int32), ¬ c < (0 : Int32) ∧ ¬ (65535 : Int32) < c) (P6 : x0 ≠ b) :
    MetFree l own_m0 (head1 (Jvm.Cond.code own_m0 jdk_42_method_149_code 6 none :: ws) ({ frames := 4, cells := 2, slots := 3, locals := 57 } : Room)) (fun a U => a = #[(.ref x0), (.ref b), (.int (0 : Int32)), (.int (1 : Int32)), .null] ∧ Z.Warmed39 U.vm ∧ U.heap = h0) (fun _ _ _ _ _ => True) (fun _ U o U' => ∃ v L, o = .returned v ∧ Qnv1 Z x0 b v0 c9 kC dC c0 h0 n0 v U'.heap L ∧ FrameEnd U o U' L ({ frames := 4, cells := 2, slots := 3, locals := 57 } : Room).cells ({ frames := 4, cells := 2, slots := 3, locals := 57 } : Room).slots) := by
  refine MetFree.of_bodySF (plainFor_of_name pn_0) hisR ?_
  intro p e s m args below meth cD s₁ Bd hml0 hP hK
  obtain ⟨rfl, hZ, hh⟩ := hP
  have hw := G.1
  have hx := Bd.exec
  have hby := Bd.bytes
  have hml : cD.maxLocals = 6 := hml0
  have hown : s.vm.findClass "java/lang/String" = some m.cls := findClass_of_methodNamed Bd.named
  have hnm := (name_of_methodNamed Bd.named Bd.method).1
  have hlk := Bd.notSynchronized
  have X0 : Stand p l e ({ frames := 4, cells := 2, slots := 3, locals := 57 } : Room) s m #[(.ref x0), (.ref b), (.int (0 : Int32)), (.int (1 : Int32)), .null] below meth cD s₁ [] 0 0 := Stand.of_body Bd
  have e0 : s₁.heap = h0 := by rw [← hh, Bd.state]; rfl
  have lt0 := own_ltN' P0.lt
  have lt1 := own_ltN' P1.lt
  have lt2 := own_ltN' P2.lt
  have lt4 := own_ltN' P4.lt
  have nP6 := own_neN P6
  have K0 : Keep h0 h0 [x0] := Keep.refl h0 _
  have Z0 := own_old_le O0
  have N0 := Fr.nil n0
  obtain ⟨zCS, SCS, PCS⟩ := own_cs G
  refine OwnEnd.start (g' := (mkF m 0 #[.val (.ref x0), .val (.ref b), .val (.int (0 : Int32)), .val (.int (1 : Int32)), .val .null, .unset] [])) (own_efnv1 m x0 b) ?_
  refine OwnEnd.of (S' := s₁.setTop (mkF m 1 #[.val (.ref x0), .val (.ref b), .val (.int (0 : Int32)), .val (.int (1 : Int32)), .val .null, .unset] [(.ref x0)])) (fun _ kK => XS.aloadN X0.here hx rfl (hb hby d0_0) rfl rfl kK) ?_
  obtain ⟨T1, X1, e1, st1⟩ := initO X0 hx hZ hown (own_w G 16 rfl) (own_w G 17 rfl) (own_w G 18 rfl) e0 (g := (mkF m 1 #[.val (.ref x0), .val (.ref b), .val (.int (0 : Int32)), .val (.int (1 : Int32)), .val .null, .unset] [(.ref x0)])) rfl (by rw [hml]; rfl) rfl (hb hby d0_1) (by decide) (W := 0) (by show 2 * 0 + _ ≤ _; exact Nat.le_of_eq rfl) (by decide)
  refine OwnEnd.of (S' := T1.setTop (mkF m 4 #[.val (.ref x0), .val (.ref b), .val (.int (0 : Int32)), .val (.int (1 : Int32)), .val .null, .unset] [])) st1 ?_
  refine OwnEnd.of (S' := T1.setTop (mkF m 27 #[.val (.ref x0), .val (.ref b), .val (.int (0 : Int32)), .val (.int (1 : Int32)), .val .null, .unset] [])) (fun _ kK => XS.iloadN X1.here hx rfl (hb hby d0_4) rfl (XS.ifYes X1.here hx rfl (pc0 := 5) (pc' := 27) rfl (hb hby d0_5) rfl ((if0 _ _).trans (feq ((by decide : ¬ ((1 : Int32) = (0 : Int32))))).2) (by decide) (by decide) kK)) ?_
  obtain ⟨T2, X2, e2, st2⟩ := getS2 X1 hx hZ hown (host := "") (Or.inl (own_w G 36 rfl)) Via.refl e1 (SCS.ext O0.2) (g := (mkF m 27 #[.val (.ref x0), .val (.ref b), .val (.int (0 : Int32)), .val (.int (1 : Int32)), .val .null, .unset] [])) rfl (hb hby d0_27)
  refine OwnEnd.of (S' := T2.setTop (mkF m 30 #[.val (.ref x0), .val (.ref b), .val (.int (0 : Int32)), .val (.int (1 : Int32)), .val .null, .unset] [(.int zCS)])) st2 ?_
  refine OwnEnd.of (S' := T2.setTop (mkF m 36 #[.val (.ref x0), .val (.ref b), .val (.int (0 : Int32)), .val (.int (1 : Int32)), .val .null, .unset] [(.int (1 : Int32)), (.int (0 : Int32)), (.ref b)])) (fun _ kK => XS.ifNo X2.here hx rfl (hb hby d0_30) rfl ((if0 _ _).trans (feq (PCS)).1) (XS.aloadN X2.here hx rfl (hb hby d0_33) rfl rfl (XS.iloadN X2.here hx rfl (hb hby d0_34) rfl (XS.iloadN X2.here hx rfl (hb hby d0_35) rfl kK)))) ?_
  obtain ⟨_, _, ⟨T3, L3, k3, n3⟩, -, X3, ⟨Lc3, hQ3, l3, y3, z3⟩, st3⟩ := Jvm.LawKit.callS X2 hx (y := own_m19) hown (mvT hZ (own_w G 37 rfl)) (mvT hZ (own_w G 38 rfl)) (mvT hZ (own_w G 39 rfl)) (mvT hZ (own_w G 40 rfl)) (by decide) (backOf (W := 0) (rmcw1 l Z a0 G [] b kC dC c0 h0 n0 O0 P4 P5) hZ (own_w G 40 rfl) (own_w G 39 rfl) (by decide) (by decide)) (g := (mkF m 36 #[.val (.ref x0), .val (.ref b), .val (.int (0 : Int32)), .val (.int (1 : Int32)), .val .null, .unset] [(.int (1 : Int32)), (.int (0 : Int32)), (.ref b)])) rfl (by rw [hml]; rfl) (argsL := [(.ref b), (.int (0 : Int32)), (.int (1 : Int32))]) (rest := []) (lenOf pd_12 rfl) rfl (by show 2 * 0 + _ ≤ _; exact Nat.le_of_eq rfl) (hb hby d0_36) (fun _ _ => ⟨rfl, e2, (by decide : 0 + 2 ≤ _), (by decide : 0 + 3 ≤ _)⟩)
  dsimp only [Pt.U, Pt.locs, Pt.cells, Pt.slots] at X3 l3 y3 z3 st3 hQ3
  subst l3 y3 z3
  obtain ⟨t_3, kb_3, N_3, vs_3, cd_3, rfl, N3q, Kq3, r3_0, r3_1, r3_2⟩ := hQ3
  have N3 := Fr.app N0 N3q
  have sz4 := Kq3.1
  have K4 := K0.trans Kq3 (own_all0 )
  have O4 := O0.keep Kq3 (own_all0 )
  have ltr3_0 := own_ltN' r3_0.lt
  refine OwnEnd.of (S' := T3.setTop (mkF m 39 #[.val (.ref x0), .val (.ref b), .val (.int (0 : Int32)), .val (.int (1 : Int32)), .val .null, .unset] [(.ref t_3)])) st3 ?_
  refine OwnEnd.of (S' := T3.setTop (mkF m 45 #[.val (.ref x0), .val (.ref b), .val (.int (0 : Int32)), .val (.int (1 : Int32)), .val .null, .val (.ref t_3)] [(.int (1 : Int32)), (.ref t_3), (.ref x0)])) (fun _ kK => XS.astore X3.here hx rfl (hb hby d0_39) rfl rfl (l' := #[.val (.ref x0), .val (.ref b), .val (.int (0 : Int32)), .val (.int (1 : Int32)), .val .null, .val (.ref t_3)]) rfl (XS.aloadN X3.here hx rfl (hb hby d0_41) rfl rfl (XS.aload X3.here hx rfl (hb hby d0_42) rfl rfl (XS.iloadN X3.here hx rfl (hb hby d0_44) rfl kK)))) ?_
  obtain ⟨_, _, ⟨T5, L5, k5, n5⟩, -, X5, ⟨Lc5, hQ5, l5, y5, z5⟩, st5⟩ := Jvm.LawKit.callS X3 hx (y := own_m20) hown (mvT hZ (own_w G 44 rfl)) (mvT hZ (own_w G 45 rfl)) (mvT hZ (own_w G 39 rfl)) (mvT hZ (own_w G 46 rfl)) (by decide) (backOf (W := 1) (rmcf1 l Z a0 G [] t_3 kb_3 N_3 vs_3 cd_3 c0 T3.heap n0 O4 r3_0 r3_1) hZ (own_w G 46 rfl) (own_w G 39 rfl) (by decide) (by decide)) (g := (mkF m 45 #[.val (.ref x0), .val (.ref b), .val (.int (0 : Int32)), .val (.int (1 : Int32)), .val .null, .val (.ref t_3)] [(.int (1 : Int32)), (.ref t_3), (.ref x0)])) rfl (by rw [hml]; rfl) (argsL := [(.ref t_3), (.int (1 : Int32))]) (rest := [(.ref x0)]) (lenOf pd_13 rfl) rfl (by show 2 * 0 + _ ≤ _; exact Nat.le_of_eq rfl) (hb hby d0_45) (fun _ _ => ⟨rfl, rfl, (by decide : 2 + 0 ≤ _), (by decide : 3 + 0 ≤ _)⟩)
  dsimp only [Pt.U, Pt.locs, Pt.cells, Pt.slots] at X5 l5 y5 z5 st5 hQ5
  subst l5 y5 z5
  obtain ⟨rfl, N5q, eh5⟩ := hQ5
  have N5 := Fr.app N3 N5q
  refine OwnEnd.of (S' := T5.setTop (mkF m 48 #[.val (.ref x0), .val (.ref b), .val (.int (0 : Int32)), .val (.int (1 : Int32)), .val .null, .val (.ref t_3)] [(.int cd_3), (.ref x0)])) st5 ?_
  have f7 : Fld Z T3.heap x0 "java/lang/String" "coder" "B" c9 := (P2.keep Kq3 nin0)
  have f8 : Exa Z T3.heap x0 "java/lang/String" := (P0.keep Kq3)
  obtain ⟨T6, h6, X6, e6, W6, st6⟩ := putFN X5 hx hZ hown (own_w G 26 rfl) Via.refl eh5 f7 f8 (Or.inr ⟨(own_w G 22 rfl), rfl, hnm⟩) (own_w G 2 rfl) (ty := .byte) (v' := (.int cd_3)) (by decide) (own_cod_nar r3_1).1 (own_cod_nar r3_1).2 (g := (mkF m 48 #[.val (.ref x0), .val (.ref b), .val (.int (0 : Int32)), .val (.int (1 : Int32)), .val .null, .val (.ref t_3)] [(.int cd_3), (.ref x0)])) rfl rfl (hb hby d0_48)
  have Fw6 := f7.same W6
  have N6 := Fr.snoc X6 N5 (by omega)
  have sz9 := own_wr_le W6
  have K9 := K4.wr W6 (Or.inl (by simp))
  have O9 := O4.wr W6 (by omega)
  refine OwnEnd.of (S' := T6.setTop (mkF m 51 #[.val (.ref x0), .val (.ref b), .val (.int (0 : Int32)), .val (.int (1 : Int32)), .val .null, .val (.ref t_3)] [])) st6 ?_
  refine OwnEnd.of (S' := T6.setTop (mkF m 54 #[.val (.ref x0), .val (.ref b), .val (.int (0 : Int32)), .val (.int (1 : Int32)), .val .null, .val (.ref t_3)] [(.ref t_3), (.ref x0)])) (fun _ kK => XS.aloadN X6.here hx rfl (hb hby d0_51) rfl rfl (XS.aload X6.here hx rfl (hb hby d0_52) rfl rfl kK)) ?_
  have f11 : Fld Z h6 x0 "java/lang/String" "value" "[B" v0 := ((P1.keep Kq3 nin0).other W6 (Or.inr (slot_ne (Or.inr (own_w G 21 rfl)) (Or.inr (own_w G 22 rfl)) (by decide) (t := (.array .byte)) (t' := .byte) (by decide) (by decide))))
  have f12 : Exa Z h6 x0 "java/lang/String" := (f8.wr W6)
  obtain ⟨T10, h10, X10, e10, W10, st10⟩ := putF X6 hx hZ hown (host := "") (Or.inl (own_w G 25 rfl)) Via.refl e6 f11 f12 (Or.inr ⟨(own_w G 21 rfl), rfl, hnm⟩) (own_w G 2 rfl) (ty := (.array .byte)) (by decide) rfl rfl (g := (mkF m 54 #[.val (.ref x0), .val (.ref b), .val (.int (0 : Int32)), .val (.int (1 : Int32)), .val .null, .val (.ref t_3)] [(.ref t_3), (.ref x0)])) rfl rfl (hb hby d0_54)
  have Fw10 := f11.same W10
  have N10 := Fr.snoc X10 N6 (by omega)
  have sz13 := own_wr_le W10
  have K13 := K9.wr W10 (Or.inl (by simp))
  have O13 := O9.wr W10 (by omega)
  refine OwnEnd.of (S' := T10.setTop (mkF m 57 #[.val (.ref x0), .val (.ref b), .val (.int (0 : Int32)), .val (.int (1 : Int32)), .val .null, .val (.ref t_3)] [])) st10 ?_
  have f14 : Exa Z h10 x0 "java/lang/String" := (f12.wr W10)
  have f15 : Fld Z h10 x0 "java/lang/String" "coder" "B" (.int cd_3) := (Fw6.other W10 (Or.inr (slot_ne (Or.inr (own_w G 22 rfl)) (Or.inr (own_w G 21 rfl)) (by decide) (t := .byte) (t' := (.array .byte)) (by decide) (by decide))))
  have f16 : Arv Z h10 t_3 kb_3 .byte N_3 vs_3 (.int (0 : Int32)) := ((r3_0.other W6 (own_ne (by omega))).other W10 (own_ne (by omega)))
  refine OwnEnd.ret X10 (v := none) (fun _ => rfl) hlk (fun fs hr => X10.returnOut hx Bd.returns (hb hby d0_57) hr) (by decide) (by decide) (Q := Qnv1 Z x0 b v0 c9 kC dC c0 h0 n0) e10 ?_
  exact ⟨t_3, kb_3, N_3, vs_3, cd_3, rfl, N10, K13, f14, Fw10, f15, f16, (r3_1), (by omega)⟩

theorem own_efnw1 (m : MethodId) (x0 : Addr) (b : Addr) : entryFrame m #[(.ref x0), (.ref b)] 2 = mkF m 0 #[.val (.ref x0), .val (.ref b)] [] := by first | (simp [entryFrame, mkF, argsToLocals, Value.category]; done) | rfl
def Qnw1 (Z : State) (x0 : Addr) (b : Addr) (v0 : Value) (c9 : Value) (kC : ClassId) (dC : Value) (c0 : Int32) (h0 : Heap) (n0 : Nat) (v : Option Value) (h : Heap) (L : List Loc) : Prop := ∃ (t : Addr) (kb : ClassId) (N : Int32) (vs : List Value) (cd : Int32), v = none ∧ Fr n0 L ∧ Keep h0 h [x0] ∧ (Exa Z h x0 "java/lang/String") ∧ (Fld Z h x0 "java/lang/String" "value" "[B" (.ref t)) ∧ (Fld Z h x0 "java/lang/String" "coder" "B" (.int cd)) ∧ (Arv Z h t kb .byte N vs (.int (0 : Int32))) ∧ (StrChars.Road.CodA [c0] cd N vs) ∧ (Array.size h0 ≤ t)
set_option maxRecDepth 65536 in
set_option maxHeartbeats 40000000 in
theorem rmnw1 (l : Launch) (Z : State) (a0 : Array Value) (G : OwnG Z a0) (ws : List Jvm.Cond) (x0 : Addr) (b : Addr) (v0 : Value) (c9 : Value) (kC : ClassId) (dC : Value) (c0 : Int32) (h0 : Heap) (n0 : Nat) (O0 : Old Z n0 h0) (P0 : Exa Z h0 x0 "java/lang/String") (P1 : Fld Z h0 x0 "java/lang/String" "value" "[B" v0) (P2 : Fld Z h0 x0 "java/lang/String" "coder" "B" c9) (P3 : n0 ≤ x0) (P4 : Arv Z h0 b kC .char (1 : Int32) [(.int c0)] dC) (P5 : ∀ c ∈ ([c0] : List Int32), ¬ c < (0 : Int32) ∧ ¬ (65535 : Int32) < c) (P6 : x0 ≠ b) :
    MetFree l own_m1 (head1 (Jvm.Cond.code own_m1 jdk_42_method_3_code 2 none :: ws) ({ frames := 5, cells := 2, slots := 3, locals := 74 } : Room)) (fun a U => a = #[(.ref x0), (.ref b)] ∧ Z.Warmed39 U.vm ∧ U.heap = h0) (fun _ _ _ _ _ => True) (fun _ U o U' => ∃ v L, o = .returned v ∧ Qnw1 Z x0 b v0 c9 kC dC c0 h0 n0 v U'.heap L ∧ FrameEnd U o U' L ({ frames := 5, cells := 2, slots := 3, locals := 74 } : Room).cells ({ frames := 5, cells := 2, slots := 3, locals := 74 } : Room).slots) := by
  refine MetFree.of_bodySF (plainFor_of_name pn_0) hisR ?_
  intro p e s m args below meth cD s₁ Bd hml0 hP hK
  obtain ⟨rfl, hZ, hh⟩ := hP
  have hw := G.1
  have hx := Bd.exec
  have hby := Bd.bytes
  have hml : cD.maxLocals = 2 := hml0
  have hown : s.vm.findClass "java/lang/String" = some m.cls := findClass_of_methodNamed Bd.named
  have hnm := (name_of_methodNamed Bd.named Bd.method).1
  have hlk := Bd.notSynchronized
  have X0 : Stand p l e ({ frames := 5, cells := 2, slots := 3, locals := 74 } : Room) s m #[(.ref x0), (.ref b)] below meth cD s₁ [] 0 0 := Stand.of_body Bd
  have e0 : s₁.heap = h0 := by rw [← hh, Bd.state]; rfl
  have lt0 := own_ltN' P0.lt
  have lt1 := own_ltN' P1.lt
  have lt2 := own_ltN' P2.lt
  have lt4 := own_ltN' P4.lt
  have nP6 := own_neN P6
  have K0 : Keep h0 h0 [x0] := Keep.refl h0 _
  have Z0 := own_old_le O0
  have N0 := Fr.nil n0
  refine OwnEnd.start (g' := (mkF m 0 #[.val (.ref x0), .val (.ref b)] [])) (own_efnw1 m x0 b) ?_
  refine OwnEnd.of (S' := s₁.setTop (mkF m 4 #[.val (.ref x0), .val (.ref b)] [(.ref b), (.int (0 : Int32)), (.ref b), (.ref x0)])) (fun _ kK => XS.aloadN X0.here hx rfl (hb hby d1_0) rfl rfl (XS.aloadN X0.here hx rfl (hb hby d1_1) rfl rfl (XS.iconst X0.here hx rfl (hb hby d1_2) (XS.aloadN X0.here hx rfl (hb hby d1_3) rfl rfl kK)))) ?_
  obtain ⟨cl1, Ar1, q1, S1, N1', H1, G1⟩ := id P4
  refine OwnEnd.of (S' := s₁.setTop (mkF m 5 #[.val (.ref x0), .val (.ref b)] [(.int (1 : Int32)), (.int (0 : Int32)), (.ref b), (.ref x0)])) (fun _ kK => X0.arraylength hx (by rw [e0]; exact Ar1.1) (State.isArrayOf_alike hZ.alike Ar1.2.1) (g := (mkF m 4 #[.val (.ref x0), .val (.ref b)] [(.ref b), (.int (0 : Int32)), (.ref b), (.ref x0)])) rfl rfl (hb hby d1_4) _ (by rw [len_of S1 N1']; exact kK)) ?_
  refine OwnEnd.of (S' := s₁.setTop (mkF m 6 #[.val (.ref x0), .val (.ref b)] [.null, (.int (1 : Int32)), (.int (0 : Int32)), (.ref b), (.ref x0)])) (fun _ kK => XS.aconstNull X0.here hx rfl (hb hby d1_5) kK) ?_
  obtain ⟨_, _, ⟨T2, L2, k2, n2⟩, -, X2, ⟨Lc2, hQ2, l2, y2, z2⟩, st2⟩ := Jvm.Stand.specialBack X0 hx (y := own_m0) rfl hown (mvT hZ (own_w G 12 rfl)) (mvT hZ (own_w G 13 rfl)) (mvT hZ (own_w G 15 rfl)) (by decide) (backOf (W := 0) (rmnv1 l Z a0 G [] x0 b v0 c9 kC dC c0 h0 n0 O0 P0 P1 P2 (by omega) P4 P5 (P6 : x0 ≠ b)) hZ (own_w G 15 rfl) (own_w G 3 rfl) (by decide) (by decide)) (g := (mkF m 6 #[.val (.ref x0), .val (.ref b)] [.null, (.int (1 : Int32)), (.int (0 : Int32)), (.ref b), (.ref x0)])) rfl (by rw [hml]; rfl) (Steps.refl _) (a := x0) (argsL := [(.ref b), (.int (0 : Int32)), (.int (1 : Int32)), .null]) (rest := []) (lenOf pd_0 rfl) rfl (by show 2 * 0 + _ ≤ _; exact Nat.le_of_eq rfl) (hb hby d1_6) (fun _ _ => ⟨rfl, e0, (by decide : 0 + 2 ≤ _), (by decide : 0 + 3 ≤ _)⟩)
  dsimp only [Pt.U, Pt.locs, Pt.cells, Pt.slots] at X2 l2 y2 z2 st2 hQ2
  subst l2 y2 z2
  obtain ⟨t_2, kb_2, N_2, vs_2, cd_2, rfl, N2q, Kq2, r2_0, r2_1, r2_2, r2_3, r2_4, r2_5⟩ := hQ2
  have N2 := Fr.app N0 N2q
  have sz3 := Kq2.1
  have K3 := K0.trans Kq2 (own_all1 (Or.inl (by simp)))
  have O3 := O0.keep Kq2 (own_all1 (by omega))
  have ltr2_0 := own_ltN' r2_0.lt
  have ltr2_1 := own_ltN' r2_1.lt
  have ltr2_2 := own_ltN' r2_2.lt
  have ltr2_3 := own_ltN' r2_3.lt
  refine OwnEnd.tr (S' := T2.setTop (mkF m 9 #[.val (.ref x0), .val (.ref b)] [])) st2 ?_
  refine OwnEnd.ret X2 (v := none) (fun _ => rfl) hlk (fun fs hr => X2.returnOut hx Bd.returns (hb hby d1_9) hr) (by decide) (by decide) (Q := Qnw1 Z x0 b v0 c9 kC dC c0 h0 n0) rfl ?_
  exact ⟨t_2, kb_2, N_2, vs_2, cd_2, rfl, N2, K3, r2_0, r2_1, r2_2, r2_3, (r2_4), (by omega)⟩

theorem own_efnb2 (m : MethodId) : entryFrame m #[(.int (2 : Int32))] 1 = mkF m 0 #[.val (.int (2 : Int32))] [] := by first | (simp [entryFrame, mkF, argsToLocals, Value.category]; done) | rfl
def Qnb2 (Z : State)  (h0 : Heap) (n0 : Nat) (v : Option Value) (h : Heap) (L : List Loc) : Prop := ∃ (t : Addr) (kb : ClassId), v = some (.ref t) ∧ Fr n0 L ∧ Keep h0 h [] ∧ (Arv Z h t kb .byte (4 : Int32) [(.int (0 : Int32)), (.int (0 : Int32)), (.int (0 : Int32)), (.int (0 : Int32))] (.int (0 : Int32))) ∧ (Array.size h0 ≤ t)
set_option maxRecDepth 65536 in
set_option maxHeartbeats 40000000 in
theorem rmnb2 (l : Launch) (Z : State) (a0 : Array Value) (G : OwnG Z a0) (ws : List Jvm.Cond)  (h0 : Heap) (n0 : Nat) (O0 : Old Z n0 h0)  :
    MetFree l own_m16 (head1 (Jvm.Cond.code own_m16 jdk_52_method_2_code 1 (some (.array .byte)) :: ws) ({ frames := 1, cells := 1, slots := 4, locals := 12 } : Room)) (fun a U => a = #[(.int (2 : Int32))] ∧ Z.Warmed39 U.vm ∧ U.heap = h0) (fun _ _ _ _ _ => True) (fun _ U o U' => ∃ v L, o = .returned v ∧ Qnb2 Z  h0 n0 v U'.heap L ∧ FrameEnd U o U' L ({ frames := 1, cells := 1, slots := 4, locals := 12 } : Room).cells ({ frames := 1, cells := 1, slots := 4, locals := 12 } : Room).slots) := by
  refine MetFree.of_bodySF (plainFor_of_name pn_3) hisR ?_
  intro p e s m args below meth cD s₁ Bd hml0 hP hK
  obtain ⟨rfl, hZ, hh⟩ := hP
  have hw := G.1
  have hx := Bd.exec
  have hby := Bd.bytes
  have hml : cD.maxLocals = 1 := hml0
  have hown : s.vm.findClass "java/lang/StringUTF16" = some m.cls := findClass_of_methodNamed Bd.named
  have hnm := (name_of_methodNamed Bd.named Bd.method).1
  have hlk := Bd.notSynchronized
  have X0 : Stand p l e ({ frames := 1, cells := 1, slots := 4, locals := 12 } : Room) s m #[(.int (2 : Int32))] below meth cD s₁ [] 0 0 := Stand.of_body Bd
  have e0 : s₁.heap = h0 := by rw [← hh, Bd.state]; rfl
  have K0 : Keep h0 h0 [] := Keep.refl h0 _
  have Z0 := own_old_le O0
  have N0 := Fr.nil n0
  refine OwnEnd.start (g' := (mkF m 0 #[.val (.int (2 : Int32))] [])) (own_efnb2 m ) ?_
  refine OwnEnd.of (S' := s₁.setTop (mkF m 1 #[.val (.int (2 : Int32))] [(.int (2 : Int32))])) (fun _ kK => XS.iloadN X0.here hx rfl (hb hby d16_0) rfl kK) ?_
  obtain ⟨_, _, ⟨T1, L1, k1, n1⟩, -, X1, ⟨Lc1, hQ1, l1, y1, z1⟩, st1⟩ := Jvm.LawKit.callS X0 hx (y := own_m14) hown (mvT hZ (own_w G 88 rfl)) (mvT hZ (own_w G 89 rfl)) (mvT hZ (own_w G 39 rfl)) (mvT hZ (own_w G 90 rfl)) (by decide) (backOf (W := 0) (rmnl l Z a0 G [] (2 : Int32) (4 : Int32) h0 n0 O0 (by decide : ¬ (2 : Int32) < (0 : Int32)) (by decide : (2 : Int32) < (1073741823 : Int32)) (by decide : (2 : Int32) <<< ((1 : Int32) &&& 31) = (4 : Int32))) hZ (own_w G 90 rfl) (own_w G 39 rfl) (by decide) (by decide)) (g := (mkF m 1 #[.val (.int (2 : Int32))] [(.int (2 : Int32))])) rfl (by rw [hml]; rfl) (argsL := [(.int (2 : Int32))]) (rest := []) (lenOf pd_8 rfl) rfl (by show 2 * 0 + _ ≤ _; exact Nat.le_of_eq rfl) (hb hby d16_1) (fun _ _ => ⟨rfl, e0, (by decide : 0 + 0 ≤ _), (by decide : 0 + 0 ≤ _)⟩)
  dsimp only [Pt.U, Pt.locs, Pt.cells, Pt.slots] at X1 l1 y1 z1 st1 hQ1
  subst l1 y1 z1
  obtain ⟨rfl, N1q, eh1⟩ := hQ1
  have N1 := Fr.app N0 N1q
  refine OwnEnd.of (S' := T1.setTop (mkF m 4 #[.val (.int (2 : Int32))] [(.int (4 : Int32))])) st1 ?_
  obtain ⟨T2, h2, k2, X2, e2, E2, A2, st2⟩ := newP X1 hx hZ (own_w G 20 rfl) eh1 (g := (mkF m 4 #[.val (.int (2 : Int32))] [(.int (4 : Int32))])) rfl (hb hby d16_4) rfl (by decide) (cap := 4) (by decide) (by decide) (by decide) (by decide)
  obtain ⟨b2, g2⟩ : ∃ z, z = Array.size h0 := ⟨_, rfl⟩
  rw [← g2] at A2 st2
  have lt_b2 := own_ltN' A2.lt
  have sz3 := E2.1
  have K3 := K0.ext E2
  have O3 := O0.ext E2
  have V2 : Arv Z h2 b2 k2 .byte (4 : Int32) [(.int (0 : Int32)), (.int (0 : Int32)), (.int (0 : Int32)), (.int (0 : Int32))] (.int (0 : Int32)) := (Arv.new A2 (by decide)).pad (pad_rep [] (.int (0 : Int32)) 4)
  refine OwnEnd.of (S' := T2.setTop (mkF m 6 #[.val (.int (2 : Int32))] [(.ref b2)])) st2 ?_
  refine OwnEnd.ret X2 (v := (some (.ref b2))) (fun h => by rw [Bd.returns] at h; cases h) hlk (fun fs hr => retOut X2 hx Bd.returns rfl (Or.inr (Or.inr (Or.inr (Or.inr ⟨rfl, rfl, rfl⟩)))) (hb hby d16_6) hr) (by decide) (by decide) (Q := Qnb2 Z  h0 n0) e2 ?_
  exact ⟨b2, k2, rfl, N1, K3, V2, (by omega)⟩

theorem own_efby2 (m : MethodId) (b : Addr) : entryFrame m #[(.ref b), (.int (0 : Int32)), (.int (2 : Int32))] 5 = mkF m 0 #[.val (.ref b), .val (.int (0 : Int32)), .val (.int (2 : Int32)), .unset, .unset] [] := by first | (simp [entryFrame, mkF, argsToLocals, Value.category]; done) | rfl
def Qby2 (Z : State) (b : Addr) (kC : ClassId) (dC : Value) (c0 : Int32) (c1 : Int32) (h0 : Heap) (n0 : Nat) (v : Option Value) (h : Heap) (L : List Loc) : Prop := ∃ (t : Addr) (kb : ClassId), v = some (.ref t) ∧ Fr n0 L ∧ Keep h0 h [] ∧ (Arv Z h t kb .byte (4 : Int32) (StrChars.Road.wideBytes [c0, c1]) (.int (0 : Int32))) ∧ (Array.size h0 ≤ t)
set_option maxRecDepth 65536 in
set_option maxHeartbeats 40000000 in
theorem rmby2 (l : Launch) (Z : State) (a0 : Array Value) (G : OwnG Z a0) (ws : List Jvm.Cond) (b : Addr) (kC : ClassId) (dC : Value) (c0 : Int32) (c1 : Int32) (h0 : Heap) (n0 : Nat) (O0 : Old Z n0 h0) (P0 : Arv Z h0 b kC .char (2 : Int32) [(.int c0), (.int c1)] dC) :
    MetFree l own_m17 (head1 (Jvm.Cond.code own_m17 jdk_52_method_14_code 5 (some (.array .byte)) :: ws) ({ frames := 2, cells := 1, slots := 4, locals := 24 } : Room)) (fun a U => a = #[(.ref b), (.int (0 : Int32)), (.int (2 : Int32))] ∧ Z.Warmed39 U.vm ∧ U.heap = h0) (fun _ _ _ _ _ => True) (fun _ U o U' => ∃ v L, o = .returned v ∧ Qby2 Z b kC dC c0 c1 h0 n0 v U'.heap L ∧ FrameEnd U o U' L ({ frames := 2, cells := 1, slots := 4, locals := 24 } : Room).cells ({ frames := 2, cells := 1, slots := 4, locals := 24 } : Room).slots) := by
  refine MetFree.of_bodySF (plainFor_of_name pn_3) hisR ?_
  intro p e s m args below meth cD s₁ Bd hml0 hP hK
  obtain ⟨rfl, hZ, hh⟩ := hP
  have hw := G.1
  have hx := Bd.exec
  have hby := Bd.bytes
  have hml : cD.maxLocals = 5 := hml0
  have hown : s.vm.findClass "java/lang/StringUTF16" = some m.cls := findClass_of_methodNamed Bd.named
  have hnm := (name_of_methodNamed Bd.named Bd.method).1
  have hlk := Bd.notSynchronized
  have X0 : Stand p l e ({ frames := 2, cells := 1, slots := 4, locals := 24 } : Room) s m #[(.ref b), (.int (0 : Int32)), (.int (2 : Int32))] below meth cD s₁ [] 0 0 := Stand.of_body Bd
  have e0 : s₁.heap = h0 := by rw [← hh, Bd.state]; rfl
  have lt0 := own_ltN' P0.lt
  have K0 : Keep h0 h0 [] := Keep.refl h0 _
  have Z0 := own_old_le O0
  have N0 := Fr.nil n0
  refine OwnEnd.start (g' := (mkF m 0 #[.val (.ref b), .val (.int (0 : Int32)), .val (.int (2 : Int32)), .unset, .unset] [])) (own_efby2 m b) ?_
  refine OwnEnd.of (S' := s₁.setTop (mkF m 1 #[.val (.ref b), .val (.int (0 : Int32)), .val (.int (2 : Int32)), .unset, .unset] [(.int (2 : Int32))])) (fun _ kK => XS.iloadN X0.here hx rfl (hb hby d17_0) rfl kK) ?_
  obtain ⟨_, _, ⟨T1, L1, k1, n1⟩, -, X1, ⟨Lc1, hQ1, l1, y1, z1⟩, st1⟩ := Jvm.LawKit.callS X0 hx (y := own_m16) hown (mvT hZ (own_w G 85 rfl)) (mvT hZ (own_w G 86 rfl)) (mvT hZ (own_w G 39 rfl)) (mvT hZ (own_w G 87 rfl)) (by decide) (backOf (W := 0) (rmnb2 l Z a0 G []  h0 n0 O0 ) hZ (own_w G 87 rfl) (own_w G 39 rfl) (by decide) (by decide)) (g := (mkF m 1 #[.val (.ref b), .val (.int (0 : Int32)), .val (.int (2 : Int32)), .unset, .unset] [(.int (2 : Int32))])) rfl (by rw [hml]; rfl) (argsL := [(.int (2 : Int32))]) (rest := []) (lenOf pd_9 rfl) rfl (by show 2 * 0 + _ ≤ _; exact Nat.le_of_eq rfl) (hb hby d17_1) (fun _ _ => ⟨rfl, e0, (by decide : 0 + 1 ≤ _), (by decide : 0 + 4 ≤ _)⟩)
  dsimp only [Pt.U, Pt.locs, Pt.cells, Pt.slots] at X1 l1 y1 z1 st1 hQ1
  subst l1 y1 z1
  obtain ⟨t_1, kb_1, rfl, N1q, Kq1, r1_0, r1_1⟩ := hQ1
  have N1 := Fr.app N0 N1q
  have sz2 := Kq1.1
  have K2 := K0.trans Kq1 (own_all0 )
  have O2 := O0.keep Kq1 (own_all0 )
  have ltr1_0 := own_ltN' r1_0.lt
  refine OwnEnd.of (S' := T1.setTop (mkF m 4 #[.val (.ref b), .val (.int (0 : Int32)), .val (.int (2 : Int32)), .unset, .unset] [(.ref t_1)])) st1 ?_
  refine OwnEnd.of (S' := T1.setTop (mkF m 19 #[.val (.ref b), .val (.int (0 : Int32)), .val (.int (2 : Int32)), .val (.ref t_1), .val (.int (0 : Int32))] [(.int (0 : Int32)), (.ref b), (.int (0 : Int32)), (.ref t_1)])) (fun _ kK => XS.astoreN X1.here hx rfl (hb hby d17_4) rfl rfl (l' := #[.val (.ref b), .val (.int (0 : Int32)), .val (.int (2 : Int32)), .val (.ref t_1), .unset]) rfl (XS.iconst X1.here hx rfl (hb hby d17_5) (XS.istore X1.here hx rfl (hb hby d17_6) rfl (l' := #[.val (.ref b), .val (.int (0 : Int32)), .val (.int (2 : Int32)), .val (.ref t_1), .val (.int (0 : Int32))]) rfl (XS.iload X1.here hx rfl (hb hby d17_8) rfl (XS.iloadN X1.here hx rfl (hb hby d17_10) rfl (XS.icmpNo X1.here hx rfl (hb hby d17_11) rfl (tlt ((by decide : (0 : Int32) < (2 : Int32)))).2.1 (XS.aloadN X1.here hx rfl (hb hby d17_14) rfl rfl (XS.iload X1.here hx rfl (hb hby d17_15) rfl (XS.aloadN X1.here hx rfl (hb hby d17_17) rfl rfl (XS.iloadN X1.here hx rfl (hb hby d17_18) rfl kK)))))))))) ?_
  have f3 : Arv Z T1.heap b kC .char (2 : Int32) [(.int c0), (.int c1)] dC := (P0.keep Kq1 nin0)
  obtain ⟨cl4, Ar4, q4, S4, N4', H4, G4⟩ := id f3
  have hin5 : ¬ ((0 : Int32) < 0 ∨ cl4.slots.size ≤ ((0 : Int32)).toNatClampNeg) := inb_of S4 ⟨by decide, by decide⟩
  refine OwnEnd.of (S' := T1.setTop (mkF m 20 #[.val (.ref b), .val (.int (0 : Int32)), .val (.int (2 : Int32)), .val (.ref t_1), .val (.int (0 : Int32))] [(.int c0), (.int (0 : Int32)), (.ref t_1)])) (fun _ kK => X1.caload hx (j := (0 : Int32)) (v := (.int c0)) Ar4.1 (State.isArrayOf_alike hZ.alike Ar4.2.1) Ar4.2.2 hin5 (Has.at H4 hin5 (rfl)) (g := (mkF m 19 #[.val (.ref b), .val (.int (0 : Int32)), .val (.int (2 : Int32)), .val (.ref t_1), .val (.int (0 : Int32))] [(.int (0 : Int32)), (.ref b), (.int (0 : Int32)), (.ref t_1)])) rfl rfl (hb hby d17_19) _ kK) ?_
  obtain ⟨_, _, ⟨T6, L6, k6, n6⟩, -, X6, ⟨Lc6, hQ6, l6, y6, z6⟩, st6⟩ := Jvm.LawKit.callS X1 hx (y := own_m15) hown (mvT hZ (own_w G 92 rfl)) (mvT hZ (own_w G 93 rfl)) (mvT hZ (own_w G 39 rfl)) (mvT hZ (own_w G 94 rfl)) (by decide) (backOf (W := 0) (rmpu0 l Z a0 G [] t_1 kb_1 (4 : Int32) [(.int (0 : Int32)), (.int (0 : Int32)), (.int (0 : Int32)), (.int (0 : Int32))] (.int (0 : Int32)) c0 T1.heap n0 O2 r1_0 (by decide : (0 : Int32) < (4 : Int32)) (by decide : (1 : Int32) < (4 : Int32)) (Nat.le_of_ble_eq_true rfl : 1 < [(.int (0 : Int32)), (.int (0 : Int32)), (.int (0 : Int32)), (.int (0 : Int32))].length) (by omega)) hZ (own_w G 94 rfl) (own_w G 39 rfl) (by decide) (by decide)) (g := (mkF m 20 #[.val (.ref b), .val (.int (0 : Int32)), .val (.int (2 : Int32)), .val (.ref t_1), .val (.int (0 : Int32))] [(.int c0), (.int (0 : Int32)), (.ref t_1)])) rfl (by rw [hml]; rfl) (argsL := [(.ref t_1), (.int (0 : Int32)), (.int c0)]) (rest := []) (lenOf pd_10 rfl) rfl (by show 2 * 0 + _ ≤ _; exact Nat.le_of_eq rfl) (hb hby d17_20) (fun _ _ => ⟨rfl, rfl, (by decide : 1 + 0 ≤ _), (by decide : 4 + 0 ≤ _)⟩)
  dsimp only [Pt.U, Pt.locs, Pt.cells, Pt.slots] at X6 l6 y6 z6 st6 hQ6
  subst l6 y6 z6
  obtain ⟨rfl, N6q, Kq6, r6_0⟩ := hQ6
  have N6 := Fr.app N1 N6q
  have sz7 := Kq6.1
  have K7 := K2.trans Kq6 (own_all1 (Or.inr (by omega)))
  have O7 := O2.keep Kq6 (own_all1 (by omega))
  have ltr6_0 := own_ltN' r6_0.lt
  refine OwnEnd.of (S' := T6.setTop (mkF m 23 #[.val (.ref b), .val (.int (0 : Int32)), .val (.int (2 : Int32)), .val (.ref t_1), .val (.int (0 : Int32))] [])) st6 ?_
  have V8 : Arv Z T6.heap t_1 kb_1 .byte (4 : Int32) [(.int (StrChars.lo8 c0)), (.int (StrChars.hi8 c0)), (.int (0 : Int32)), (.int (0 : Int32))] (.int (0 : Int32)) := by have q := r6_0; exact q
  refine OwnEnd.of (S' := T6.setTop (mkF m 19 #[.val (.ref b), .val (.int (1 : Int32)), .val (.int (2 : Int32)), .val (.ref t_1), .val (.int (1 : Int32))] [(.int (1 : Int32)), (.ref b), (.int (1 : Int32)), (.ref t_1)])) (fun _ kK => XS.iinc X6.here hx rfl (hb hby d17_23) rfl (l' := #[.val (.ref b), .val (.int (1 : Int32)), .val (.int (2 : Int32)), .val (.ref t_1), .val (.int (0 : Int32))]) rfl (XS.iinc X6.here hx rfl (hb hby d17_26) rfl (l' := #[.val (.ref b), .val (.int (1 : Int32)), .val (.int (2 : Int32)), .val (.ref t_1), .val (.int (1 : Int32))]) rfl (XS.goto X6.here hx rfl (pc0 := 29) (pc' := 8) rfl (hb hby d17_29) (by decide) (by decide) (XS.iload X6.here hx rfl (hb hby d17_8) rfl (XS.iloadN X6.here hx rfl (hb hby d17_10) rfl (XS.icmpNo X6.here hx rfl (hb hby d17_11) rfl (tlt ((by decide : (1 : Int32) < (2 : Int32)))).2.1 (XS.aloadN X6.here hx rfl (hb hby d17_14) rfl rfl (XS.iload X6.here hx rfl (hb hby d17_15) rfl (XS.aloadN X6.here hx rfl (hb hby d17_17) rfl rfl (XS.iloadN X6.here hx rfl (hb hby d17_18) rfl kK)))))))))) ?_
  have f9 : Arv Z T6.heap b kC .char (2 : Int32) [(.int c0), (.int c1)] dC := (f3.keep Kq6 (own_nin1 (own_ne (by omega))))
  obtain ⟨cl10, Ar10, q10, S10, N10', H10, G10⟩ := id f9
  have hin11 : ¬ ((1 : Int32) < 0 ∨ cl10.slots.size ≤ ((1 : Int32)).toNatClampNeg) := inb_of S10 ⟨by decide, by decide⟩
  refine OwnEnd.of (S' := T6.setTop (mkF m 20 #[.val (.ref b), .val (.int (1 : Int32)), .val (.int (2 : Int32)), .val (.ref t_1), .val (.int (1 : Int32))] [(.int c1), (.int (1 : Int32)), (.ref t_1)])) (fun _ kK => X6.caload hx (j := (1 : Int32)) (v := (.int c1)) Ar10.1 (State.isArrayOf_alike hZ.alike Ar10.2.1) Ar10.2.2 hin11 (Has.at H10 hin11 (rfl)) (g := (mkF m 19 #[.val (.ref b), .val (.int (1 : Int32)), .val (.int (2 : Int32)), .val (.ref t_1), .val (.int (1 : Int32))] [(.int (1 : Int32)), (.ref b), (.int (1 : Int32)), (.ref t_1)])) rfl rfl (hb hby d17_19) _ kK) ?_
  obtain ⟨_, _, ⟨T12, L12, k12, n12⟩, -, X12, ⟨Lc12, hQ12, l12, y12, z12⟩, st12⟩ := Jvm.LawKit.callS X6 hx (y := own_m15) hown (mvT hZ (own_w G 92 rfl)) (mvT hZ (own_w G 93 rfl)) (mvT hZ (own_w G 39 rfl)) (mvT hZ (own_w G 94 rfl)) (by decide) (backOf (W := 0) (rmpu1 l Z a0 G [] t_1 kb_1 (4 : Int32) [(.int (StrChars.lo8 c0)), (.int (StrChars.hi8 c0)), (.int (0 : Int32)), (.int (0 : Int32))] (.int (0 : Int32)) c1 T6.heap n0 O7 V8 (by decide : (2 : Int32) < (4 : Int32)) (by decide : (3 : Int32) < (4 : Int32)) (Nat.le_of_ble_eq_true rfl : 3 < [(.int (StrChars.lo8 c0)), (.int (StrChars.hi8 c0)), (.int (0 : Int32)), (.int (0 : Int32))].length) (by omega)) hZ (own_w G 94 rfl) (own_w G 39 rfl) (by decide) (by decide)) (g := (mkF m 20 #[.val (.ref b), .val (.int (1 : Int32)), .val (.int (2 : Int32)), .val (.ref t_1), .val (.int (1 : Int32))] [(.int c1), (.int (1 : Int32)), (.ref t_1)])) rfl (by rw [hml]; rfl) (argsL := [(.ref t_1), (.int (1 : Int32)), (.int c1)]) (rest := []) (lenOf pd_10 rfl) rfl (by show 2 * 0 + _ ≤ _; exact Nat.le_of_eq rfl) (hb hby d17_20) (fun _ _ => ⟨rfl, rfl, (by decide : 1 + 0 ≤ _), (by decide : 4 + 0 ≤ _)⟩)
  dsimp only [Pt.U, Pt.locs, Pt.cells, Pt.slots] at X12 l12 y12 z12 st12 hQ12
  subst l12 y12 z12
  obtain ⟨rfl, N12q, Kq12, r12_0⟩ := hQ12
  have N12 := Fr.app N6 N12q
  have sz13 := Kq12.1
  have K13 := K7.trans Kq12 (own_all1 (Or.inr (by omega)))
  have O13 := O7.keep Kq12 (own_all1 (by omega))
  have ltr12_0 := own_ltN' r12_0.lt
  refine OwnEnd.of (S' := T12.setTop (mkF m 23 #[.val (.ref b), .val (.int (1 : Int32)), .val (.int (2 : Int32)), .val (.ref t_1), .val (.int (1 : Int32))] [])) st12 ?_
  have V14 : Arv Z T12.heap t_1 kb_1 .byte (4 : Int32) [(.int (StrChars.lo8 c0)), (.int (StrChars.hi8 c0)), (.int (StrChars.lo8 c1)), (.int (StrChars.hi8 c1))] (.int (0 : Int32)) := by have q := r12_0; exact q
  refine OwnEnd.of (S' := T12.setTop (mkF m 33 #[.val (.ref b), .val (.int (2 : Int32)), .val (.int (2 : Int32)), .val (.ref t_1), .val (.int (2 : Int32))] [(.ref t_1)])) (fun _ kK => XS.iinc X12.here hx rfl (hb hby d17_23) rfl (l' := #[.val (.ref b), .val (.int (2 : Int32)), .val (.int (2 : Int32)), .val (.ref t_1), .val (.int (1 : Int32))]) rfl (XS.iinc X12.here hx rfl (hb hby d17_26) rfl (l' := #[.val (.ref b), .val (.int (2 : Int32)), .val (.int (2 : Int32)), .val (.ref t_1), .val (.int (2 : Int32))]) rfl (XS.goto X12.here hx rfl (pc0 := 29) (pc' := 8) rfl (hb hby d17_29) (by decide) (by decide) (XS.iload X12.here hx rfl (hb hby d17_8) rfl (XS.iloadN X12.here hx rfl (hb hby d17_10) rfl (XS.icmpYes X12.here hx rfl (pc0 := 11) (pc' := 32) rfl (hb hby d17_11) rfl (flt ((by decide : ¬ ((2 : Int32) < (2 : Int32))))).2.1 (by decide) (by decide) (XS.aloadN X12.here hx rfl (hb hby d17_32) rfl rfl kK))))))) ?_
  have V15 : Arv Z T12.heap t_1 kb_1 .byte (4 : Int32) (StrChars.Road.wideBytes [c0, c1]) (.int (0 : Int32)) := by have q := V14; exact q
  refine OwnEnd.ret X12 (v := (some (.ref t_1))) (fun h => by rw [Bd.returns] at h; cases h) hlk (fun fs hr => retOut X12 hx Bd.returns rfl (Or.inr (Or.inr (Or.inr (Or.inr ⟨rfl, rfl, rfl⟩)))) (hb hby d17_33) hr) (by decide) (by decide) (Q := Qby2 Z b kC dC c0 c1 h0 n0) rfl ?_
  exact ⟨t_1, kb_1, rfl, N12, K13, V15, (by omega)⟩

theorem own_efcv2 (m : MethodId) (b : Addr) (t : Addr) : entryFrame m #[(.ref b), (.int (0 : Int32)), (.ref t), (.int (0 : Int32)), (.int (2 : Int32))] 7 = mkF m 0 #[.val (.ref b), .val (.int (0 : Int32)), .val (.ref t), .val (.int (0 : Int32)), .val (.int (2 : Int32)), .unset, .unset] [] := by first | (simp [entryFrame, mkF, argsToLocals, Value.category]; done) | rfl
def Qcv2 (Z : State) (b : Addr) (t : Addr) (kC : ClassId) (dC : Value) (kb : ClassId) (c0 : Int32) (c1 : Int32) (h0 : Heap) (n0 : Nat) (v : Option Value) (h : Heap) (L : List Loc) : Prop := v = some (.int (own_first [c0, c1])) ∧ Fr n0 L ∧ Keep h0 h [t] ∧ (Arv Z h t kb .byte (2 : Int32) (own_cbs [c0, c1]) (.int (0 : Int32)))
set_option maxRecDepth 65536 in
set_option maxHeartbeats 40000000 in
theorem rmcv2 (l : Launch) (Z : State) (a0 : Array Value) (G : OwnG Z a0) (ws : List Jvm.Cond) (b : Addr) (t : Addr) (kC : ClassId) (dC : Value) (kb : ClassId) (c0 : Int32) (c1 : Int32) (h0 : Heap) (n0 : Nat) (O0 : Old Z n0 h0) (P0 : Arv Z h0 b kC .char (2 : Int32) [(.int c0), (.int c1)] dC) (P1 : Arv Z h0 t kb .byte (2 : Int32) [(.int (0 : Int32)), (.int (0 : Int32))] (.int (0 : Int32))) (P2 : n0 ≤ t) (P3 : b ≠ t) :
    MetFree l own_m18 (head1 (Jvm.Cond.code own_m18 jdk_52_method_21_code 7 (some .int) :: ws) ({ frames := 0, cells := 0, slots := 0, locals := 0 } : Room)) (fun a U => a = #[(.ref b), (.int (0 : Int32)), (.ref t), (.int (0 : Int32)), (.int (2 : Int32))] ∧ Z.Warmed39 U.vm ∧ U.heap = h0) (fun _ _ _ _ _ => True) (fun _ U o U' => ∃ v L, o = .returned v ∧ Qcv2 Z b t kC dC kb c0 c1 h0 n0 v U'.heap L ∧ FrameEnd U o U' L ({ frames := 0, cells := 0, slots := 0, locals := 0 } : Room).cells ({ frames := 0, cells := 0, slots := 0, locals := 0 } : Room).slots) := by
  refine MetFree.of_bodySF (plainFor_of_name pn_3) hisR ?_
  intro p e s m args below meth cD s₁ Bd hml0 hP hK
  obtain ⟨rfl, hZ, hh⟩ := hP
  have hw := G.1
  have hx := Bd.exec
  have hby := Bd.bytes
  have hml : cD.maxLocals = 7 := hml0
  have hown : s.vm.findClass "java/lang/StringUTF16" = some m.cls := findClass_of_methodNamed Bd.named
  have hnm := (name_of_methodNamed Bd.named Bd.method).1
  have hlk := Bd.notSynchronized
  have X0 : Stand p l e ({ frames := 0, cells := 0, slots := 0, locals := 0 } : Room) s m #[(.ref b), (.int (0 : Int32)), (.ref t), (.int (0 : Int32)), (.int (2 : Int32))] below meth cD s₁ [] 0 0 := Stand.of_body Bd
  have e0 : s₁.heap = h0 := by rw [← hh, Bd.state]; rfl
  have lt0 := own_ltN' P0.lt
  have lt1 := own_ltN' P1.lt
  have nP3 := own_neN P3
  have K0 : Keep h0 h0 [t] := Keep.refl h0 _
  have Z0 := own_old_le O0
  have N0 := Fr.nil n0
  refine OwnEnd.start (g' := (mkF m 0 #[.val (.ref b), .val (.int (0 : Int32)), .val (.ref t), .val (.int (0 : Int32)), .val (.int (2 : Int32)), .unset, .unset] [])) (own_efcv2 m b t) ?_
  refine OwnEnd.of (S' := s₁.setTop (mkF m 12 #[.val (.ref b), .val (.int (0 : Int32)), .val (.ref t), .val (.int (0 : Int32)), .val (.int (2 : Int32)), .val (.int (0 : Int32)), .unset] [(.int (0 : Int32)), (.ref b)])) (fun _ kK => XS.iconst X0.here hx rfl (hb hby d18_0) (XS.istore X0.here hx rfl (hb hby d18_1) rfl (l' := #[.val (.ref b), .val (.int (0 : Int32)), .val (.ref t), .val (.int (0 : Int32)), .val (.int (2 : Int32)), .val (.int (0 : Int32)), .unset]) rfl (XS.iload X0.here hx rfl (hb hby d18_3) rfl (XS.iload X0.here hx rfl (hb hby d18_5) rfl (XS.icmpNo X0.here hx rfl (hb hby d18_7) rfl (tlt ((by decide : (0 : Int32) < (2 : Int32)))).2.1 (XS.aloadN X0.here hx rfl (hb hby d18_10) rfl rfl (XS.iloadN X0.here hx rfl (hb hby d18_11) rfl kK))))))) ?_
  obtain ⟨cl1, Ar1, q1, S1, N1', H1, G1⟩ := id P0
  have hin2 : ¬ ((0 : Int32) < 0 ∨ cl1.slots.size ≤ ((0 : Int32)).toNatClampNeg) := inb_of S1 ⟨by decide, by decide⟩
  refine OwnEnd.of (S' := s₁.setTop (mkF m 13 #[.val (.ref b), .val (.int (0 : Int32)), .val (.ref t), .val (.int (0 : Int32)), .val (.int (2 : Int32)), .val (.int (0 : Int32)), .unset] [(.int c0)])) (fun _ kK => X0.caload hx (j := (0 : Int32)) (v := (.int c0)) (by rw [e0]; exact Ar1.1) (State.isArrayOf_alike hZ.alike Ar1.2.1) Ar1.2.2 hin2 (Has.at H1 hin2 (rfl)) (g := (mkF m 12 #[.val (.ref b), .val (.int (0 : Int32)), .val (.ref t), .val (.int (0 : Int32)), .val (.int (2 : Int32)), .val (.int (0 : Int32)), .unset] [(.int (0 : Int32)), (.ref b)])) rfl rfl (hb hby d18_12) _ kK) ?_
  refine OwnEnd.of (S' := s₁.setTop (mkF m 20 #[.val (.ref b), .val (.int (0 : Int32)), .val (.ref t), .val (.int (0 : Int32)), .val (.int (2 : Int32)), .val (.int (0 : Int32)), .val (.int c0)] [(.int (255 : Int32)), (.int c0)])) (fun _ kK => XS.istore X0.here hx rfl (hb hby d18_13) rfl (l' := #[.val (.ref b), .val (.int (0 : Int32)), .val (.ref t), .val (.int (0 : Int32)), .val (.int (2 : Int32)), .val (.int (0 : Int32)), .val (.int c0)]) rfl (XS.iload X0.here hx rfl (hb hby d18_15) rfl (XS.sipush X0.here hx rfl (hb hby d18_17) kK))) ?_
  rcases Decidable.em ((255 : Int32) < c0) with hc3 | hc3
  · refine OwnEnd.of (S' := s₁.setTop (mkF m 25 #[.val (.ref b), .val (.int (0 : Int32)), .val (.ref t), .val (.int (0 : Int32)), .val (.int (2 : Int32)), .val (.int (0 : Int32)), .val (.int c0)] [(.int (0 : Int32))])) (fun _ kK => XS.icmpNo X0.here hx rfl (hb hby d18_20) rfl (tlt (hc3)).2.2.2 (XS.iload X0.here hx rfl (hb hby d18_23) rfl kK)) ?_
    have V4 : Arv Z h0 t kb .byte (2 : Int32) (own_cbs [c0, c1]) (.int (0 : Int32)) := by have q := P1; simpa [own_cbs, hc3] using q
    refine OwnEnd.ret X0 (v := (some (.int (0 : Int32)))) (fun h => by rw [Bd.returns] at h; cases h) hlk (fun fs hr => retOut X0 hx Bd.returns rfl (Or.inl ⟨rfl, Or.inl rfl, _, rfl⟩) (hb hby d18_25) hr) (by decide) (by decide) (Q := Qcv2 Z b t kC dC kb c0 c1 h0 n0) e0 ?_
    exact ⟨(by simp [own_first, hc3]), N0, K0, V4⟩
  · refine OwnEnd.of (S' := s₁.setTop (mkF m 31 #[.val (.ref b), .val (.int (0 : Int32)), .val (.ref t), .val (.int (0 : Int32)), .val (.int (2 : Int32)), .val (.int (0 : Int32)), .val (.int c0)] [(.int (nar .byte c0)), (.int (0 : Int32)), (.ref t)])) (fun _ kK => XS.icmpYes X0.here hx rfl (pc0 := 20) (pc' := 26) rfl (hb hby d18_20) rfl (flt (hc3)).2.2.2 (by decide) (by decide) (XS.aloadN X0.here hx rfl (hb hby d18_26) rfl rfl (XS.iloadN X0.here hx rfl (hb hby d18_27) rfl (XS.iload X0.here hx rfl (hb hby d18_28) rfl (XS.i2b X0.here hx rfl (hb hby d18_30) rfl kK))))) ?_
    obtain ⟨cl5, Ar5, q5, S5, N5', H5, G5⟩ := id P1
    have hin6 : ¬ ((0 : Int32) < 0 ∨ cl5.slots.size ≤ ((0 : Int32)).toNatClampNeg) := inb_of S5 ⟨by decide, by decide⟩
    obtain ⟨T6, h6, X6, e6, W6, st6⟩ := stB X0 hx hZ e0 Ar5 (j := (0 : Int32)) hin6 (g := (mkF m 31 #[.val (.ref b), .val (.int (0 : Int32)), .val (.ref t), .val (.int (0 : Int32)), .val (.int (2 : Int32)), .val (.int (0 : Int32)), .val (.int c0)] [(.int (nar .byte c0)), (.int (0 : Int32)), (.ref t)])) rfl rfl (hb hby d18_31)
    have N6 := Fr.snoc X6 N0 (by omega)
    have sz7 := own_wr_le W6
    have K7 := K0.wr W6 (Or.inl (by simp))
    have O7 := O0.wr W6 (by omega)
    have V6 : Arv Z h6 t kb .byte (2 : Int32) [(.int (nar .byte (nar .byte c0))), (.int (0 : Int32))] (.int (0 : Int32)) := Arv.set Ar5 q5 S5 N5' H5 G5 (fits_nar_byte _) W6 0 rfl (Nat.le_of_ble_eq_true rfl)
    refine OwnEnd.of (S' := T6.setTop (mkF m 32 #[.val (.ref b), .val (.int (0 : Int32)), .val (.ref t), .val (.int (0 : Int32)), .val (.int (2 : Int32)), .val (.int (0 : Int32)), .val (.int c0)] [])) st6 ?_
    refine OwnEnd.of (S' := T6.setTop (mkF m 12 #[.val (.ref b), .val (.int (1 : Int32)), .val (.ref t), .val (.int (1 : Int32)), .val (.int (2 : Int32)), .val (.int (1 : Int32)), .val (.int c0)] [(.int (1 : Int32)), (.ref b)])) (fun _ kK => XS.iinc X6.here hx rfl (hb hby d18_32) rfl (l' := #[.val (.ref b), .val (.int (1 : Int32)), .val (.ref t), .val (.int (0 : Int32)), .val (.int (2 : Int32)), .val (.int (0 : Int32)), .val (.int c0)]) rfl (XS.iinc X6.here hx rfl (hb hby d18_35) rfl (l' := #[.val (.ref b), .val (.int (1 : Int32)), .val (.ref t), .val (.int (1 : Int32)), .val (.int (2 : Int32)), .val (.int (0 : Int32)), .val (.int c0)]) rfl (XS.iinc X6.here hx rfl (hb hby d18_38) rfl (l' := #[.val (.ref b), .val (.int (1 : Int32)), .val (.ref t), .val (.int (1 : Int32)), .val (.int (2 : Int32)), .val (.int (1 : Int32)), .val (.int c0)]) rfl (XS.goto X6.here hx rfl (pc0 := 41) (pc' := 3) rfl (hb hby d18_41) (by decide) (by decide) (XS.iload X6.here hx rfl (hb hby d18_3) rfl (XS.iload X6.here hx rfl (hb hby d18_5) rfl (XS.icmpNo X6.here hx rfl (hb hby d18_7) rfl (tlt ((by decide : (1 : Int32) < (2 : Int32)))).2.1 (XS.aloadN X6.here hx rfl (hb hby d18_10) rfl rfl (XS.iloadN X6.here hx rfl (hb hby d18_11) rfl kK))))))))) ?_
    have f8 : Arv Z h6 b kC .char (2 : Int32) [(.int c0), (.int c1)] dC := (P0.other W6 (own_ne (by omega)))
    obtain ⟨cl9, Ar9, q9, S9, N9', H9, G9⟩ := id f8
    have hin10 : ¬ ((1 : Int32) < 0 ∨ cl9.slots.size ≤ ((1 : Int32)).toNatClampNeg) := inb_of S9 ⟨by decide, by decide⟩
    refine OwnEnd.of (S' := T6.setTop (mkF m 13 #[.val (.ref b), .val (.int (1 : Int32)), .val (.ref t), .val (.int (1 : Int32)), .val (.int (2 : Int32)), .val (.int (1 : Int32)), .val (.int c0)] [(.int c1)])) (fun _ kK => X6.caload hx (j := (1 : Int32)) (v := (.int c1)) (by rw [e6]; exact Ar9.1) (State.isArrayOf_alike hZ.alike Ar9.2.1) Ar9.2.2 hin10 (Has.at H9 hin10 (rfl)) (g := (mkF m 12 #[.val (.ref b), .val (.int (1 : Int32)), .val (.ref t), .val (.int (1 : Int32)), .val (.int (2 : Int32)), .val (.int (1 : Int32)), .val (.int c0)] [(.int (1 : Int32)), (.ref b)])) rfl rfl (hb hby d18_12) _ kK) ?_
    refine OwnEnd.of (S' := T6.setTop (mkF m 20 #[.val (.ref b), .val (.int (1 : Int32)), .val (.ref t), .val (.int (1 : Int32)), .val (.int (2 : Int32)), .val (.int (1 : Int32)), .val (.int c1)] [(.int (255 : Int32)), (.int c1)])) (fun _ kK => XS.istore X6.here hx rfl (hb hby d18_13) rfl (l' := #[.val (.ref b), .val (.int (1 : Int32)), .val (.ref t), .val (.int (1 : Int32)), .val (.int (2 : Int32)), .val (.int (1 : Int32)), .val (.int c1)]) rfl (XS.iload X6.here hx rfl (hb hby d18_15) rfl (XS.sipush X6.here hx rfl (hb hby d18_17) kK))) ?_
    rcases Decidable.em ((255 : Int32) < c1) with hc11 | hc11
    · refine OwnEnd.of (S' := T6.setTop (mkF m 25 #[.val (.ref b), .val (.int (1 : Int32)), .val (.ref t), .val (.int (1 : Int32)), .val (.int (2 : Int32)), .val (.int (1 : Int32)), .val (.int c1)] [(.int (1 : Int32))])) (fun _ kK => XS.icmpNo X6.here hx rfl (hb hby d18_20) rfl (tlt (hc11)).2.2.2 (XS.iload X6.here hx rfl (hb hby d18_23) rfl kK)) ?_
      have V12 : Arv Z h6 t kb .byte (2 : Int32) (own_cbs [c0, c1]) (.int (0 : Int32)) := by have q := V6; simpa [own_cbs, hc3, hc11] using q
      refine OwnEnd.ret X6 (v := (some (.int (1 : Int32)))) (fun h => by rw [Bd.returns] at h; cases h) hlk (fun fs hr => retOut X6 hx Bd.returns rfl (Or.inl ⟨rfl, Or.inl rfl, _, rfl⟩) (hb hby d18_25) hr) (by decide) (by decide) (Q := Qcv2 Z b t kC dC kb c0 c1 h0 n0) e6 ?_
      exact ⟨(by simp [own_first, hc3, hc11]), N6, K7, V12⟩
    · refine OwnEnd.of (S' := T6.setTop (mkF m 31 #[.val (.ref b), .val (.int (1 : Int32)), .val (.ref t), .val (.int (1 : Int32)), .val (.int (2 : Int32)), .val (.int (1 : Int32)), .val (.int c1)] [(.int (nar .byte c1)), (.int (1 : Int32)), (.ref t)])) (fun _ kK => XS.icmpYes X6.here hx rfl (pc0 := 20) (pc' := 26) rfl (hb hby d18_20) rfl (flt (hc11)).2.2.2 (by decide) (by decide) (XS.aloadN X6.here hx rfl (hb hby d18_26) rfl rfl (XS.iloadN X6.here hx rfl (hb hby d18_27) rfl (XS.iload X6.here hx rfl (hb hby d18_28) rfl (XS.i2b X6.here hx rfl (hb hby d18_30) rfl kK))))) ?_
      obtain ⟨cl13, Ar13, q13, S13, N13', H13, G13⟩ := id V6
      have hin14 : ¬ ((1 : Int32) < 0 ∨ cl13.slots.size ≤ ((1 : Int32)).toNatClampNeg) := inb_of S13 ⟨by decide, by decide⟩
      obtain ⟨T14, h14, X14, e14, W14, st14⟩ := stB X6 hx hZ e6 Ar13 (j := (1 : Int32)) hin14 (g := (mkF m 31 #[.val (.ref b), .val (.int (1 : Int32)), .val (.ref t), .val (.int (1 : Int32)), .val (.int (2 : Int32)), .val (.int (1 : Int32)), .val (.int c1)] [(.int (nar .byte c1)), (.int (1 : Int32)), (.ref t)])) rfl rfl (hb hby d18_31)
      have N14 := Fr.snoc X14 N6 (by omega)
      have sz15 := own_wr_le W14
      have K15 := K7.wr W14 (Or.inl (by simp))
      have O15 := O7.wr W14 (by omega)
      have V14 : Arv Z h14 t kb .byte (2 : Int32) [(.int (nar .byte (nar .byte c0))), (.int (nar .byte (nar .byte c1)))] (.int (0 : Int32)) := Arv.set Ar13 q13 S13 N13' H13 G13 (fits_nar_byte _) W14 1 rfl (Nat.le_of_ble_eq_true rfl)
      refine OwnEnd.of (S' := T14.setTop (mkF m 32 #[.val (.ref b), .val (.int (1 : Int32)), .val (.ref t), .val (.int (1 : Int32)), .val (.int (2 : Int32)), .val (.int (1 : Int32)), .val (.int c1)] [])) st14 ?_
      refine OwnEnd.of (S' := T14.setTop (mkF m 46 #[.val (.ref b), .val (.int (2 : Int32)), .val (.ref t), .val (.int (2 : Int32)), .val (.int (2 : Int32)), .val (.int (2 : Int32)), .val (.int c1)] [(.int (2 : Int32))])) (fun _ kK => XS.iinc X14.here hx rfl (hb hby d18_32) rfl (l' := #[.val (.ref b), .val (.int (2 : Int32)), .val (.ref t), .val (.int (1 : Int32)), .val (.int (2 : Int32)), .val (.int (1 : Int32)), .val (.int c1)]) rfl (XS.iinc X14.here hx rfl (hb hby d18_35) rfl (l' := #[.val (.ref b), .val (.int (2 : Int32)), .val (.ref t), .val (.int (2 : Int32)), .val (.int (2 : Int32)), .val (.int (1 : Int32)), .val (.int c1)]) rfl (XS.iinc X14.here hx rfl (hb hby d18_38) rfl (l' := #[.val (.ref b), .val (.int (2 : Int32)), .val (.ref t), .val (.int (2 : Int32)), .val (.int (2 : Int32)), .val (.int (2 : Int32)), .val (.int c1)]) rfl (XS.goto X14.here hx rfl (pc0 := 41) (pc' := 3) rfl (hb hby d18_41) (by decide) (by decide) (XS.iload X14.here hx rfl (hb hby d18_3) rfl (XS.iload X14.here hx rfl (hb hby d18_5) rfl (XS.icmpYes X14.here hx rfl (pc0 := 7) (pc' := 44) rfl (hb hby d18_7) rfl (flt ((by decide : ¬ ((2 : Int32) < (2 : Int32))))).2.1 (by decide) (by decide) (XS.iload X14.here hx rfl (hb hby d18_44) rfl kK)))))))) ?_
      have V16 : Arv Z h14 t kb .byte (2 : Int32) (own_cbs [c0, c1]) (.int (0 : Int32)) := by have q := V14; simpa [own_cbs, hc3, hc11] using q
      refine OwnEnd.ret X14 (v := (some (.int (2 : Int32)))) (fun h => by rw [Bd.returns] at h; cases h) hlk (fun fs hr => retOut X14 hx Bd.returns rfl (Or.inl ⟨rfl, Or.inl rfl, _, rfl⟩) (hb hby d18_46) hr) (by decide) (by decide) (Q := Qcv2 Z b t kC dC kb c0 c1 h0 n0) e14 ?_
      exact ⟨(by simp [own_first, hc3, hc11]), N14, K15, V16⟩

theorem own_efcw2 (m : MethodId) (b : Addr) : entryFrame m #[(.ref b), (.int (0 : Int32)), (.int (2 : Int32))] 6 = mkF m 0 #[.val (.ref b), .val (.int (0 : Int32)), .val (.int (2 : Int32)), .unset, .unset, .unset] [] := by first | (simp [entryFrame, mkF, argsToLocals, Value.category]; done) | rfl
def Qcw2 (Z : State) (b : Addr) (kC : ClassId) (dC : Value) (c0 : Int32) (c1 : Int32) (h0 : Heap) (n0 : Nat) (v : Option Value) (h : Heap) (L : List Loc) : Prop := ∃ (t : Addr) (kb : ClassId) (N : Int32) (vs : List Value) (cd : Int32), v = some (.ref t) ∧ Fr n0 L ∧ Keep h0 h [] ∧ (Arv Z h t kb .byte N vs (.int (0 : Int32))) ∧ (StrChars.Road.CodA [c0, c1] cd N vs) ∧ (Array.size h0 ≤ t)
set_option maxRecDepth 65536 in
set_option maxHeartbeats 40000000 in
theorem rmcw2 (l : Launch) (Z : State) (a0 : Array Value) (G : OwnG Z a0) (ws : List Jvm.Cond) (b : Addr) (kC : ClassId) (dC : Value) (c0 : Int32) (c1 : Int32) (h0 : Heap) (n0 : Nat) (O0 : Old Z n0 h0) (P0 : Arv Z h0 b kC .char (2 : Int32) [(.int c0), (.int c1)] dC) (P1 : ∀ c ∈ ([c0, c1] : List Int32), ¬ c < (0 : Int32) ∧ ¬ (65535 : Int32) < c) :
    MetFree l own_m19 (head1 (Jvm.Cond.code own_m19 jdk_52_method_16_code 6 (some (.array .byte)) :: ws) ({ frames := 3, cells := 2, slots := 6, locals := 40 } : Room)) (fun a U => a = #[(.ref b), (.int (0 : Int32)), (.int (2 : Int32))] ∧ Z.Warmed39 U.vm ∧ U.heap = h0) (fun _ _ _ _ _ => True) (fun _ U o U' => ∃ v L, o = .returned v ∧ Qcw2 Z b kC dC c0 c1 h0 n0 v U'.heap L ∧ FrameEnd U o U' L ({ frames := 3, cells := 2, slots := 6, locals := 40 } : Room).cells ({ frames := 3, cells := 2, slots := 6, locals := 40 } : Room).slots) := by
  refine MetFree.of_bodySF (plainFor_of_name pn_3) hisR ?_
  intro p e s m args below meth cD s₁ Bd hml0 hP hK
  obtain ⟨rfl, hZ, hh⟩ := hP
  have hw := G.1
  have hx := Bd.exec
  have hby := Bd.bytes
  have hml : cD.maxLocals = 6 := hml0
  have hown : s.vm.findClass "java/lang/StringUTF16" = some m.cls := findClass_of_methodNamed Bd.named
  have hnm := (name_of_methodNamed Bd.named Bd.method).1
  have hlk := Bd.notSynchronized
  have X0 : Stand p l e ({ frames := 3, cells := 2, slots := 6, locals := 40 } : Room) s m #[(.ref b), (.int (0 : Int32)), (.int (2 : Int32))] below meth cD s₁ [] 0 0 := Stand.of_body Bd
  have e0 : s₁.heap = h0 := by rw [← hh, Bd.state]; rfl
  have lt0 := own_ltN' P0.lt
  have K0 : Keep h0 h0 [] := Keep.refl h0 _
  have Z0 := own_old_le O0
  have N0 := Fr.nil n0
  refine OwnEnd.start (g' := (mkF m 0 #[.val (.ref b), .val (.int (0 : Int32)), .val (.int (2 : Int32)), .unset, .unset, .unset] [])) (own_efcw2 m b) ?_
  refine OwnEnd.of (S' := s₁.setTop (mkF m 1 #[.val (.ref b), .val (.int (0 : Int32)), .val (.int (2 : Int32)), .unset, .unset, .unset] [(.int (2 : Int32))])) (fun _ kK => XS.iloadN X0.here hx rfl (hb hby d19_0) rfl kK) ?_
  obtain ⟨T1, h1, k1, X1, e1, E1, A1, st1⟩ := newP X0 hx hZ (own_w G 20 rfl) e0 (g := (mkF m 1 #[.val (.ref b), .val (.int (0 : Int32)), .val (.int (2 : Int32)), .unset, .unset, .unset] [(.int (2 : Int32))])) rfl (hb hby d19_1) rfl (by decide) (cap := 2) (by decide) (by decide) (by decide) (by decide)
  obtain ⟨b1, g1⟩ : ∃ z, z = Array.size h0 := ⟨_, rfl⟩
  rw [← g1] at A1 st1
  have lt_b1 := own_ltN' A1.lt
  have sz2 := E1.1
  have K2 := K0.ext E1
  have O2 := O0.ext E1
  have V1 : Arv Z h1 b1 k1 .byte (2 : Int32) [(.int (0 : Int32)), (.int (0 : Int32))] (.int (0 : Int32)) := (Arv.new A1 (by decide)).pad (pad_rep [] (.int (0 : Int32)) 2)
  refine OwnEnd.of (S' := T1.setTop (mkF m 3 #[.val (.ref b), .val (.int (0 : Int32)), .val (.int (2 : Int32)), .unset, .unset, .unset] [(.ref b1)])) st1 ?_
  refine OwnEnd.of (S' := T1.setTop (mkF m 9 #[.val (.ref b), .val (.int (0 : Int32)), .val (.int (2 : Int32)), .val (.ref b1), .unset, .unset] [(.int (2 : Int32)), (.int (0 : Int32)), (.ref b1), (.int (0 : Int32)), (.ref b)])) (fun _ kK => XS.astoreN X1.here hx rfl (hb hby d19_3) rfl rfl (l' := #[.val (.ref b), .val (.int (0 : Int32)), .val (.int (2 : Int32)), .val (.ref b1), .unset, .unset]) rfl (XS.aloadN X1.here hx rfl (hb hby d19_4) rfl rfl (XS.iloadN X1.here hx rfl (hb hby d19_5) rfl (XS.aloadN X1.here hx rfl (hb hby d19_6) rfl rfl (XS.iconst X1.here hx rfl (hb hby d19_7) (XS.iloadN X1.here hx rfl (hb hby d19_8) rfl kK)))))) ?_
  have f3 : Arv Z h1 b kC .char (2 : Int32) [(.int c0), (.int c1)] dC := (P0.ext E1)
  obtain ⟨_, _, ⟨T4, L4, k4, n4⟩, -, X4, ⟨Lc4, hQ4, l4, y4, z4⟩, st4⟩ := Jvm.LawKit.callS X1 hx (y := own_m18) hown (mvT hZ (own_w G 41 rfl)) (mvT hZ (own_w G 42 rfl)) (mvT hZ (own_w G 39 rfl)) (mvT hZ (own_w G 43 rfl)) (by decide) (backOf (W := 0) (rmcv2 l Z a0 G [] b b1 kC dC k1 c0 c1 h1 n0 O2 f3 V1 (by omega) (own_ne (by omega) : b ≠ b1)) hZ (own_w G 43 rfl) (own_w G 39 rfl) (by decide) (by decide)) (g := (mkF m 9 #[.val (.ref b), .val (.int (0 : Int32)), .val (.int (2 : Int32)), .val (.ref b1), .unset, .unset] [(.int (2 : Int32)), (.int (0 : Int32)), (.ref b1), (.int (0 : Int32)), (.ref b)])) rfl (by rw [hml]; rfl) (argsL := [(.ref b), (.int (0 : Int32)), (.ref b1), (.int (0 : Int32)), (.int (2 : Int32))]) (rest := []) (lenOf pd_11 rfl) rfl (by show 2 * 0 + _ ≤ _; exact Nat.le_of_eq rfl) (hb hby d19_9) (fun _ _ => ⟨rfl, e1, (by decide : 1 + 0 ≤ _), (by decide : 2 + 0 ≤ _)⟩)
  dsimp only [Pt.U, Pt.locs, Pt.cells, Pt.slots] at X4 l4 y4 z4 st4 hQ4
  subst l4 y4 z4
  obtain ⟨rfl, N4q, Kq4, r4_0⟩ := hQ4
  have N4 := Fr.app N0 N4q
  have sz5 := Kq4.1
  have K5 := K2.trans Kq4 (own_all1 (Or.inr (by omega)))
  have O5 := O2.keep Kq4 (own_all1 (by omega))
  have ltr4_0 := own_ltN' r4_0.lt
  refine OwnEnd.of (S' := T4.setTop (mkF m 12 #[.val (.ref b), .val (.int (0 : Int32)), .val (.int (2 : Int32)), .val (.ref b1), .unset, .unset] [(.int (own_first [c0, c1]))])) st4 ?_
  rcases own_first2 c0 c1 with hr | hr | hr
  · rw [hr.1]
    refine OwnEnd.of (S' := T4.setTop (mkF m 23 #[.val (.ref b), .val (.int (0 : Int32)), .val (.int (2 : Int32)), .val (.ref b1), .val (.int (0 : Int32)), .unset] [(.int (2 : Int32)), (.int (0 : Int32)), (.ref b)])) (fun _ kK => XS.istore X4.here hx rfl (hb hby d19_12) rfl (l' := #[.val (.ref b), .val (.int (0 : Int32)), .val (.int (2 : Int32)), .val (.ref b1), .val (.int (0 : Int32)), .unset]) rfl (XS.iload X4.here hx rfl (hb hby d19_14) rfl (XS.iloadN X4.here hx rfl (hb hby d19_16) rfl (XS.icmpNo X4.here hx rfl (hb hby d19_17) rfl (feq ((by decide : ¬ ((0 : Int32) = (2 : Int32))))).1 (XS.aloadN X4.here hx rfl (hb hby d19_20) rfl rfl (XS.iloadN X4.here hx rfl (hb hby d19_21) rfl (XS.iloadN X4.here hx rfl (hb hby d19_22) rfl kK))))))) ?_
    have f6 : Arv Z T4.heap b kC .char (2 : Int32) [(.int c0), (.int c1)] dC := (f3.keep Kq4 (own_nin1 (own_ne (by omega))))
    obtain ⟨_, _, ⟨T7, L7, k7, n7⟩, -, X7, ⟨Lc7, hQ7, l7, y7, z7⟩, st7⟩ := Jvm.LawKit.callS X4 hx (y := own_m17) hown (mvT hZ (own_w G 82 rfl)) (mvT hZ (own_w G 83 rfl)) (mvT hZ (own_w G 39 rfl)) (mvT hZ (own_w G 84 rfl)) (by decide) (backOf (W := 0) (rmby2 l Z a0 G [] b kC dC c0 c1 T4.heap n0 O5 f6) hZ (own_w G 84 rfl) (own_w G 39 rfl) (by decide) (by decide)) (g := (mkF m 23 #[.val (.ref b), .val (.int (0 : Int32)), .val (.int (2 : Int32)), .val (.ref b1), .val (.int (0 : Int32)), .unset] [(.int (2 : Int32)), (.int (0 : Int32)), (.ref b)])) rfl (by rw [hml]; rfl) (argsL := [(.ref b), (.int (0 : Int32)), (.int (2 : Int32))]) (rest := []) (lenOf pd_12 rfl) rfl (by show 2 * 0 + _ ≤ _; exact Nat.le_of_eq rfl) (hb hby d19_23) (fun _ _ => ⟨rfl, rfl, (by decide : 1 + 1 ≤ _), (by decide : 2 + 4 ≤ _)⟩)
    dsimp only [Pt.U, Pt.locs, Pt.cells, Pt.slots] at X7 l7 y7 z7 st7 hQ7
    subst l7 y7 z7
    obtain ⟨t_7, kb_7, rfl, N7q, Kq7, r7_0, r7_1⟩ := hQ7
    have N7 := Fr.app N4 N7q
    have sz8 := Kq7.1
    have K8 := K5.trans Kq7 (own_all0 )
    have O8 := O5.keep Kq7 (own_all0 )
    have ltr7_0 := own_ltN' r7_0.lt
    refine OwnEnd.of (S' := T7.setTop (mkF m 26 #[.val (.ref b), .val (.int (0 : Int32)), .val (.int (2 : Int32)), .val (.ref b1), .val (.int (0 : Int32)), .unset] [(.ref t_7)])) st7 ?_
    refine OwnEnd.of (S' := T7.setTop (mkF m 32 #[.val (.ref b), .val (.int (0 : Int32)), .val (.int (2 : Int32)), .val (.ref b1), .val (.int (0 : Int32)), .val (.ref t_7)] [(.int (0 : Int32)), (.ref t_7)])) (fun _ kK => XS.astore X7.here hx rfl (hb hby d19_26) rfl rfl (l' := #[.val (.ref b), .val (.int (0 : Int32)), .val (.int (2 : Int32)), .val (.ref b1), .val (.int (0 : Int32)), .val (.ref t_7)]) rfl (XS.aload X7.here hx rfl (hb hby d19_28) rfl rfl (XS.iload X7.here hx rfl (hb hby d19_30) rfl kK))) ?_
    obtain ⟨_, _, ⟨T9, L9, k9, n9⟩, -, X9, ⟨Lc9, hQ9, l9, y9, z9⟩, st9⟩ := Jvm.LawKit.callS X7 hx (y := own_m11) hown (mvT hZ (own_w G 98 rfl)) (mvT hZ (own_w G 99 rfl)) (mvT hZ (own_w G 39 rfl)) (mvT hZ (own_w G 100 rfl)) (by decide) (backOf (W := 0) (rmgc l Z a0 G [] t_7 kb_7 (4 : Int32) (StrChars.Road.wideBytes [c0, c1]) (.int (0 : Int32)) (0 : Int32) (0 : Int32) c0 T7.heap n0 O8 r7_0 (by decide : (0 : Int32) <<< ((1 : Int32) &&& 31) = (0 : Int32)) (by decide : ¬ (0 : Int32) < (0 : Int32)) (by decide : (0 : Int32) < (4 : Int32)) (by decide : ¬ ((0 : Int32) + (1 : Int32)) < (0 : Int32)) (by decide : ((0 : Int32) + (1 : Int32)) < (4 : Int32)) (by rfl : (StrChars.Road.wideBytes [c0, c1]).getD (0 : Int32).toNatClampNeg (.int (0 : Int32)) = (.int (StrChars.lo8 c0))) (by rfl : (StrChars.Road.wideBytes [c0, c1]).getD ((0 : Int32) + (1 : Int32)).toNatClampNeg (.int (0 : Int32)) = (.int (StrChars.hi8 c0))) (P1 c0 (by simp))) hZ (own_w G 100 rfl) (own_w G 39 rfl) (by decide) (by decide)) (g := (mkF m 32 #[.val (.ref b), .val (.int (0 : Int32)), .val (.int (2 : Int32)), .val (.ref b1), .val (.int (0 : Int32)), .val (.ref t_7)] [(.int (0 : Int32)), (.ref t_7)])) rfl (by rw [hml]; rfl) (argsL := [(.ref t_7), (.int (0 : Int32))]) (rest := []) (lenOf pd_6 rfl) rfl (by show 2 * 0 + _ ≤ _; exact Nat.le_of_eq rfl) (hb hby d19_32) (fun _ _ => ⟨rfl, rfl, (by decide : 2 + 0 ≤ _), (by decide : 6 + 0 ≤ _)⟩)
    dsimp only [Pt.U, Pt.locs, Pt.cells, Pt.slots] at X9 l9 y9 z9 st9 hQ9
    subst l9 y9 z9
    obtain ⟨rfl, N9q, eh9⟩ := hQ9
    have N9 := Fr.app N7 N9q
    refine OwnEnd.of (S' := T9.setTop (mkF m 35 #[.val (.ref b), .val (.int (0 : Int32)), .val (.int (2 : Int32)), .val (.ref b1), .val (.int (0 : Int32)), .val (.ref t_7)] [(.int c0)])) st9 ?_
    refine OwnEnd.of (S' := T9.setTop (mkF m 56 #[.val (.ref b), .val (.int (0 : Int32)), .val (.int (2 : Int32)), .val (.ref b1), .val (.int (0 : Int32)), .val (.ref t_7)] [(.ref t_7)])) (fun _ kK => XS.sipush X9.here hx rfl (hb hby d19_35) (XS.icmpYes X9.here hx rfl (pc0 := 38) (pc' := 54) rfl (hb hby d19_38) rfl (tlt (hr.2)).2.2.1 (by decide) (by decide) (XS.aload X9.here hx rfl (hb hby d19_54) rfl rfl kK))) ?_
    refine OwnEnd.ret X9 (v := (some (.ref t_7))) (fun h => by rw [Bd.returns] at h; cases h) hlk (fun fs hr => retOut X9 hx Bd.returns rfl (Or.inr (Or.inr (Or.inr (Or.inr ⟨rfl, rfl, rfl⟩)))) (hb hby d19_56) hr) (by decide) (by decide) (Q := Qcw2 Z b kC dC c0 c1 h0 n0) eh9 ?_
    exact ⟨t_7, kb_7, (4 : Int32), (StrChars.Road.wideBytes [c0, c1]), (1 : Int32), rfl, N9, K8, r7_0, (Or.inr ⟨rfl, rfl, rfl, c0, by simp, hr.2⟩), (by omega)⟩
  · rw [hr.1]
    refine OwnEnd.of (S' := T4.setTop (mkF m 23 #[.val (.ref b), .val (.int (0 : Int32)), .val (.int (2 : Int32)), .val (.ref b1), .val (.int (1 : Int32)), .unset] [(.int (2 : Int32)), (.int (0 : Int32)), (.ref b)])) (fun _ kK => XS.istore X4.here hx rfl (hb hby d19_12) rfl (l' := #[.val (.ref b), .val (.int (0 : Int32)), .val (.int (2 : Int32)), .val (.ref b1), .val (.int (1 : Int32)), .unset]) rfl (XS.iload X4.here hx rfl (hb hby d19_14) rfl (XS.iloadN X4.here hx rfl (hb hby d19_16) rfl (XS.icmpNo X4.here hx rfl (hb hby d19_17) rfl (feq ((by decide : ¬ ((1 : Int32) = (2 : Int32))))).1 (XS.aloadN X4.here hx rfl (hb hby d19_20) rfl rfl (XS.iloadN X4.here hx rfl (hb hby d19_21) rfl (XS.iloadN X4.here hx rfl (hb hby d19_22) rfl kK))))))) ?_
    have f10 : Arv Z T4.heap b kC .char (2 : Int32) [(.int c0), (.int c1)] dC := (f3.keep Kq4 (own_nin1 (own_ne (by omega))))
    obtain ⟨_, _, ⟨T11, L11, k11, n11⟩, -, X11, ⟨Lc11, hQ11, l11, y11, z11⟩, st11⟩ := Jvm.LawKit.callS X4 hx (y := own_m17) hown (mvT hZ (own_w G 82 rfl)) (mvT hZ (own_w G 83 rfl)) (mvT hZ (own_w G 39 rfl)) (mvT hZ (own_w G 84 rfl)) (by decide) (backOf (W := 0) (rmby2 l Z a0 G [] b kC dC c0 c1 T4.heap n0 O5 f10) hZ (own_w G 84 rfl) (own_w G 39 rfl) (by decide) (by decide)) (g := (mkF m 23 #[.val (.ref b), .val (.int (0 : Int32)), .val (.int (2 : Int32)), .val (.ref b1), .val (.int (1 : Int32)), .unset] [(.int (2 : Int32)), (.int (0 : Int32)), (.ref b)])) rfl (by rw [hml]; rfl) (argsL := [(.ref b), (.int (0 : Int32)), (.int (2 : Int32))]) (rest := []) (lenOf pd_12 rfl) rfl (by show 2 * 0 + _ ≤ _; exact Nat.le_of_eq rfl) (hb hby d19_23) (fun _ _ => ⟨rfl, rfl, (by decide : 1 + 1 ≤ _), (by decide : 2 + 4 ≤ _)⟩)
    dsimp only [Pt.U, Pt.locs, Pt.cells, Pt.slots] at X11 l11 y11 z11 st11 hQ11
    subst l11 y11 z11
    obtain ⟨t_11, kb_11, rfl, N11q, Kq11, r11_0, r11_1⟩ := hQ11
    have N11 := Fr.app N4 N11q
    have sz12 := Kq11.1
    have K12 := K5.trans Kq11 (own_all0 )
    have O12 := O5.keep Kq11 (own_all0 )
    have ltr11_0 := own_ltN' r11_0.lt
    refine OwnEnd.of (S' := T11.setTop (mkF m 26 #[.val (.ref b), .val (.int (0 : Int32)), .val (.int (2 : Int32)), .val (.ref b1), .val (.int (1 : Int32)), .unset] [(.ref t_11)])) st11 ?_
    refine OwnEnd.of (S' := T11.setTop (mkF m 32 #[.val (.ref b), .val (.int (0 : Int32)), .val (.int (2 : Int32)), .val (.ref b1), .val (.int (1 : Int32)), .val (.ref t_11)] [(.int (1 : Int32)), (.ref t_11)])) (fun _ kK => XS.astore X11.here hx rfl (hb hby d19_26) rfl rfl (l' := #[.val (.ref b), .val (.int (0 : Int32)), .val (.int (2 : Int32)), .val (.ref b1), .val (.int (1 : Int32)), .val (.ref t_11)]) rfl (XS.aload X11.here hx rfl (hb hby d19_28) rfl rfl (XS.iload X11.here hx rfl (hb hby d19_30) rfl kK))) ?_
    obtain ⟨_, _, ⟨T13, L13, k13, n13⟩, -, X13, ⟨Lc13, hQ13, l13, y13, z13⟩, st13⟩ := Jvm.LawKit.callS X11 hx (y := own_m11) hown (mvT hZ (own_w G 98 rfl)) (mvT hZ (own_w G 99 rfl)) (mvT hZ (own_w G 39 rfl)) (mvT hZ (own_w G 100 rfl)) (by decide) (backOf (W := 0) (rmgc l Z a0 G [] t_11 kb_11 (4 : Int32) (StrChars.Road.wideBytes [c0, c1]) (.int (0 : Int32)) (1 : Int32) (2 : Int32) c1 T11.heap n0 O12 r11_0 (by decide : (1 : Int32) <<< ((1 : Int32) &&& 31) = (2 : Int32)) (by decide : ¬ (2 : Int32) < (0 : Int32)) (by decide : (2 : Int32) < (4 : Int32)) (by decide : ¬ ((2 : Int32) + (1 : Int32)) < (0 : Int32)) (by decide : ((2 : Int32) + (1 : Int32)) < (4 : Int32)) (by rfl : (StrChars.Road.wideBytes [c0, c1]).getD (2 : Int32).toNatClampNeg (.int (0 : Int32)) = (.int (StrChars.lo8 c1))) (by rfl : (StrChars.Road.wideBytes [c0, c1]).getD ((2 : Int32) + (1 : Int32)).toNatClampNeg (.int (0 : Int32)) = (.int (StrChars.hi8 c1))) (P1 c1 (by simp))) hZ (own_w G 100 rfl) (own_w G 39 rfl) (by decide) (by decide)) (g := (mkF m 32 #[.val (.ref b), .val (.int (0 : Int32)), .val (.int (2 : Int32)), .val (.ref b1), .val (.int (1 : Int32)), .val (.ref t_11)] [(.int (1 : Int32)), (.ref t_11)])) rfl (by rw [hml]; rfl) (argsL := [(.ref t_11), (.int (1 : Int32))]) (rest := []) (lenOf pd_6 rfl) rfl (by show 2 * 0 + _ ≤ _; exact Nat.le_of_eq rfl) (hb hby d19_32) (fun _ _ => ⟨rfl, rfl, (by decide : 2 + 0 ≤ _), (by decide : 6 + 0 ≤ _)⟩)
    dsimp only [Pt.U, Pt.locs, Pt.cells, Pt.slots] at X13 l13 y13 z13 st13 hQ13
    subst l13 y13 z13
    obtain ⟨rfl, N13q, eh13⟩ := hQ13
    have N13 := Fr.app N11 N13q
    refine OwnEnd.of (S' := T13.setTop (mkF m 35 #[.val (.ref b), .val (.int (0 : Int32)), .val (.int (2 : Int32)), .val (.ref b1), .val (.int (1 : Int32)), .val (.ref t_11)] [(.int c1)])) st13 ?_
    refine OwnEnd.of (S' := T13.setTop (mkF m 56 #[.val (.ref b), .val (.int (0 : Int32)), .val (.int (2 : Int32)), .val (.ref b1), .val (.int (1 : Int32)), .val (.ref t_11)] [(.ref t_11)])) (fun _ kK => XS.sipush X13.here hx rfl (hb hby d19_35) (XS.icmpYes X13.here hx rfl (pc0 := 38) (pc' := 54) rfl (hb hby d19_38) rfl (tlt (hr.2)).2.2.1 (by decide) (by decide) (XS.aload X13.here hx rfl (hb hby d19_54) rfl rfl kK))) ?_
    refine OwnEnd.ret X13 (v := (some (.ref t_11))) (fun h => by rw [Bd.returns] at h; cases h) hlk (fun fs hr => retOut X13 hx Bd.returns rfl (Or.inr (Or.inr (Or.inr (Or.inr ⟨rfl, rfl, rfl⟩)))) (hb hby d19_56) hr) (by decide) (by decide) (Q := Qcw2 Z b kC dC c0 c1 h0 n0) eh13 ?_
    exact ⟨t_11, kb_11, (4 : Int32), (StrChars.Road.wideBytes [c0, c1]), (1 : Int32), rfl, N13, K12, r11_0, (Or.inr ⟨rfl, rfl, rfl, c1, by simp, hr.2⟩), (by omega)⟩
  · rw [hr.1]
    have V14 : Arv Z T4.heap b1 k1 .byte (2 : Int32) (([c0, c1] : List Int32).map fun c => Value.int (StrChars.lo8 c)) (.int (0 : Int32)) := by have q := r4_0; rw [hr.2.1] at q; exact q
    refine OwnEnd.of (S' := T4.setTop (mkF m 58 #[.val (.ref b), .val (.int (0 : Int32)), .val (.int (2 : Int32)), .val (.ref b1), .val (.int (2 : Int32)), .unset] [(.ref b1)])) (fun _ kK => XS.istore X4.here hx rfl (hb hby d19_12) rfl (l' := #[.val (.ref b), .val (.int (0 : Int32)), .val (.int (2 : Int32)), .val (.ref b1), .val (.int (2 : Int32)), .unset]) rfl (XS.iload X4.here hx rfl (hb hby d19_14) rfl (XS.iloadN X4.here hx rfl (hb hby d19_16) rfl (XS.icmpYes X4.here hx rfl (pc0 := 17) (pc' := 57) rfl (hb hby d19_17) rfl (teq ((by decide : (2 : Int32) = (2 : Int32)))).1 (by decide) (by decide) (XS.aloadN X4.here hx rfl (hb hby d19_57) rfl rfl kK))))) ?_
    refine OwnEnd.ret X4 (v := (some (.ref b1))) (fun h => by rw [Bd.returns] at h; cases h) hlk (fun fs hr => retOut X4 hx Bd.returns rfl (Or.inr (Or.inr (Or.inr (Or.inr ⟨rfl, rfl, rfl⟩)))) (hb hby d19_58) hr) (by decide) (by decide) (Q := Qcw2 Z b kC dC c0 c1 h0 n0) rfl ?_
    exact ⟨b1, k1, (2 : Int32), (([c0, c1] : List Int32).map fun c => Value.int (StrChars.lo8 c)), (0 : Int32), rfl, N4, K5, V14, (Or.inl ⟨rfl, rfl, rfl, hr.2.2⟩), (by omega)⟩

theorem own_efcf2 (m : MethodId) (t : Addr) : entryFrame m #[(.ref t), (.int (2 : Int32))] 2 = mkF m 0 #[.val (.ref t), .val (.int (2 : Int32))] [] := by first | (simp [entryFrame, mkF, argsToLocals, Value.category]; done) | rfl
set_option maxRecDepth 65536 in
set_option maxHeartbeats 40000000 in
theorem rmcf2 (l : Launch) (Z : State) (a0 : Array Value) (G : OwnG Z a0) (ws : List Jvm.Cond) (t : Addr) (kb : ClassId) (N : Int32) (vs : List Value) (cd : Int32) (c0 : Int32) (c1 : Int32) (h0 : Heap) (n0 : Nat) (O0 : Old Z n0 h0) (P0 : Arv Z h0 t kb .byte N vs (.int (0 : Int32))) (P1 : StrChars.Road.CodA [c0, c1] cd N vs) :
    MetFree l own_m20 (head1 (Jvm.Cond.code own_m20 jdk_52_method_15_code 2 (some .byte) :: ws) ({ frames := 0, cells := 0, slots := 0, locals := 0 } : Room)) (fun a U => a = #[(.ref t), (.int (2 : Int32))] ∧ Z.Warmed39 U.vm ∧ U.heap = h0) (fun _ _ _ _ _ => True) (fun _ U o U' => ∃ v L, o = .returned v ∧ (own_Qint cd) h0 n0 v U'.heap L ∧ FrameEnd U o U' L ({ frames := 0, cells := 0, slots := 0, locals := 0 } : Room).cells ({ frames := 0, cells := 0, slots := 0, locals := 0 } : Room).slots) := by
  refine MetFree.of_bodySF (plainFor_of_name pn_3) hisR ?_
  intro p e s m args below meth cD s₁ Bd hml0 hP hK
  obtain ⟨rfl, hZ, hh⟩ := hP
  have hw := G.1
  have hx := Bd.exec
  have hby := Bd.bytes
  have hml : cD.maxLocals = 2 := hml0
  have hown : s.vm.findClass "java/lang/StringUTF16" = some m.cls := findClass_of_methodNamed Bd.named
  have hnm := (name_of_methodNamed Bd.named Bd.method).1
  have hlk := Bd.notSynchronized
  have X0 : Stand p l e ({ frames := 0, cells := 0, slots := 0, locals := 0 } : Room) s m #[(.ref t), (.int (2 : Int32))] below meth cD s₁ [] 0 0 := Stand.of_body Bd
  have e0 : s₁.heap = h0 := by rw [← hh, Bd.state]; rfl
  have lt0 := own_ltN' P0.lt
  have K0 : Keep h0 h0 [] := Keep.refl h0 _
  have Z0 := own_old_le O0
  have N0 := Fr.nil n0
  refine OwnEnd.start (g' := (mkF m 0 #[.val (.ref t), .val (.int (2 : Int32))] [])) (own_efcf2 m t) ?_
  rcases P1 with hxc | hxc
  · have V1 : Arv Z h0 t kb .byte (2 : Int32) (([c0, c1] : List Int32).map fun c => Value.int (StrChars.lo8 c)) (.int (0 : Int32)) := by have q := P0; rw [hxc.2.1, hxc.2.2.1] at q; exact q
    refine OwnEnd.of (S' := s₁.setTop (mkF m 2 #[.val (.ref t), .val (.int (2 : Int32))] [(.ref t), (.int (2 : Int32))])) (fun _ kK => XS.iloadN X0.here hx rfl (hb hby d20_0) rfl (XS.aloadN X0.here hx rfl (hb hby d20_1) rfl rfl kK)) ?_
    obtain ⟨cl2, Ar2, q2, S2, N2', H2, G2⟩ := id V1
    refine OwnEnd.of (S' := s₁.setTop (mkF m 3 #[.val (.ref t), .val (.int (2 : Int32))] [(.int (2 : Int32)), (.int (2 : Int32))])) (fun _ kK => X0.arraylength hx (by rw [e0]; exact Ar2.1) (State.isArrayOf_alike hZ.alike Ar2.2.1) (g := (mkF m 2 #[.val (.ref t), .val (.int (2 : Int32))] [(.ref t), (.int (2 : Int32))])) rfl rfl (hb hby d20_2) _ (by rw [len_of S2 N2']; exact kK)) ?_
    refine OwnEnd.of (S' := s₁.setTop (mkF m 8 #[.val (.ref t), .val (.int (2 : Int32))] [(.int (0 : Int32))])) (fun _ kK => XS.isub X0.here hx rfl (hb hby d20_3) rfl (XS.bipush X0.here hx rfl (hb hby d20_4) (XS.iushr X0.here hx rfl (hb hby d20_6) rfl (XS.i2b X0.here hx rfl (hb hby d20_7) rfl kK)))) ?_
    refine OwnEnd.ret X0 (v := (some (.int (nar .byte (0 : Int32))))) (fun h => by rw [Bd.returns] at h; cases h) hlk (fun fs hr => retN X0 hx (t := .byte) Bd.returns (by simp) (hb hby d20_8) hr) (by decide) (by decide) (Q := (own_Qint cd) h0 n0) e0 ?_
    exact ⟨(congrArg (fun z => some (Value.int z)) hxc.1.symm), N0, rfl⟩
  · have V3 : Arv Z h0 t kb .byte (4 : Int32) (StrChars.Road.wideBytes [c0, c1]) (.int (0 : Int32)) := by have q := P0; rw [hxc.2.1, hxc.2.2.1] at q; exact q
    refine OwnEnd.of (S' := s₁.setTop (mkF m 2 #[.val (.ref t), .val (.int (2 : Int32))] [(.ref t), (.int (2 : Int32))])) (fun _ kK => XS.iloadN X0.here hx rfl (hb hby d20_0) rfl (XS.aloadN X0.here hx rfl (hb hby d20_1) rfl rfl kK)) ?_
    obtain ⟨cl4, Ar4, q4, S4, N4', H4, G4⟩ := id V3
    refine OwnEnd.of (S' := s₁.setTop (mkF m 3 #[.val (.ref t), .val (.int (2 : Int32))] [(.int (4 : Int32)), (.int (2 : Int32))])) (fun _ kK => X0.arraylength hx (by rw [e0]; exact Ar4.1) (State.isArrayOf_alike hZ.alike Ar4.2.1) (g := (mkF m 2 #[.val (.ref t), .val (.int (2 : Int32))] [(.ref t), (.int (2 : Int32))])) rfl rfl (hb hby d20_2) _ (by rw [len_of S4 N4']; exact kK)) ?_
    refine OwnEnd.of (S' := s₁.setTop (mkF m 8 #[.val (.ref t), .val (.int (2 : Int32))] [(.int (1 : Int32))])) (fun _ kK => XS.isub X0.here hx rfl (hb hby d20_3) rfl (XS.bipush X0.here hx rfl (hb hby d20_4) (XS.iushr X0.here hx rfl (hb hby d20_6) rfl (XS.i2b X0.here hx rfl (hb hby d20_7) rfl kK)))) ?_
    refine OwnEnd.ret X0 (v := (some (.int (nar .byte (1 : Int32))))) (fun h => by rw [Bd.returns] at h; cases h) hlk (fun fs hr => retN X0 hx (t := .byte) Bd.returns (by simp) (hb hby d20_8) hr) (by decide) (by decide) (Q := (own_Qint cd) h0 n0) e0 ?_
    exact ⟨(congrArg (fun z => some (Value.int z)) hxc.1.symm), N0, rfl⟩

theorem own_efnv2 (m : MethodId) (x0 : Addr) (b : Addr) : entryFrame m #[(.ref x0), (.ref b), (.int (0 : Int32)), (.int (2 : Int32)), .null] 6 = mkF m 0 #[.val (.ref x0), .val (.ref b), .val (.int (0 : Int32)), .val (.int (2 : Int32)), .val .null, .unset] [] := by first | (simp [entryFrame, mkF, argsToLocals, Value.category]; done) | rfl
def Qnv2 (Z : State) (x0 : Addr) (b : Addr) (v0 : Value) (c9 : Value) (kC : ClassId) (dC : Value) (c0 : Int32) (c1 : Int32) (h0 : Heap) (n0 : Nat) (v : Option Value) (h : Heap) (L : List Loc) : Prop := ∃ (t : Addr) (kb : ClassId) (N : Int32) (vs : List Value) (cd : Int32), v = none ∧ Fr n0 L ∧ Keep h0 h [x0] ∧ (Exa Z h x0 "java/lang/String") ∧ (Fld Z h x0 "java/lang/String" "value" "[B" (.ref t)) ∧ (Fld Z h x0 "java/lang/String" "coder" "B" (.int cd)) ∧ (Arv Z h t kb .byte N vs (.int (0 : Int32))) ∧ (StrChars.Road.CodA [c0, c1] cd N vs) ∧ (Array.size h0 ≤ t)
set_option maxRecDepth 65536 in
set_option maxHeartbeats 40000000 in
theorem rmnv2 (l : Launch) (Z : State) (a0 : Array Value) (G : OwnG Z a0) (ws : List Jvm.Cond) (x0 : Addr) (b : Addr) (v0 : Value) (c9 : Value) (kC : ClassId) (dC : Value) (c0 : Int32) (c1 : Int32) (h0 : Heap) (n0 : Nat) (O0 : Old Z n0 h0) (P0 : Exa Z h0 x0 "java/lang/String") (P1 : Fld Z h0 x0 "java/lang/String" "value" "[B" v0) (P2 : Fld Z h0 x0 "java/lang/String" "coder" "B" c9) (P3 : n0 ≤ x0) (P4 : Arv Z h0 b kC .char (2 : Int32) [(.int c0), (.int c1)] dC) (P5 : ∀ c ∈ ([c0, c1] : List Int32), ¬ c < (0 : Int32) ∧ ¬ (65535 : Int32) < c) (P6 : x0 ≠ b) :
    MetFree l own_m0 (head1 (Jvm.Cond.code own_m0 jdk_42_method_149_code 6 none :: ws) ({ frames := 4, cells := 2, slots := 6, locals := 57 } : Room)) (fun a U => a = #[(.ref x0), (.ref b), (.int (0 : Int32)), (.int (2 : Int32)), .null] ∧ Z.Warmed39 U.vm ∧ U.heap = h0) (fun _ _ _ _ _ => True) (fun _ U o U' => ∃ v L, o = .returned v ∧ Qnv2 Z x0 b v0 c9 kC dC c0 c1 h0 n0 v U'.heap L ∧ FrameEnd U o U' L ({ frames := 4, cells := 2, slots := 6, locals := 57 } : Room).cells ({ frames := 4, cells := 2, slots := 6, locals := 57 } : Room).slots) := by
  refine MetFree.of_bodySF (plainFor_of_name pn_0) hisR ?_
  intro p e s m args below meth cD s₁ Bd hml0 hP hK
  obtain ⟨rfl, hZ, hh⟩ := hP
  have hw := G.1
  have hx := Bd.exec
  have hby := Bd.bytes
  have hml : cD.maxLocals = 6 := hml0
  have hown : s.vm.findClass "java/lang/String" = some m.cls := findClass_of_methodNamed Bd.named
  have hnm := (name_of_methodNamed Bd.named Bd.method).1
  have hlk := Bd.notSynchronized
  have X0 : Stand p l e ({ frames := 4, cells := 2, slots := 6, locals := 57 } : Room) s m #[(.ref x0), (.ref b), (.int (0 : Int32)), (.int (2 : Int32)), .null] below meth cD s₁ [] 0 0 := Stand.of_body Bd
  have e0 : s₁.heap = h0 := by rw [← hh, Bd.state]; rfl
  have lt0 := own_ltN' P0.lt
  have lt1 := own_ltN' P1.lt
  have lt2 := own_ltN' P2.lt
  have lt4 := own_ltN' P4.lt
  have nP6 := own_neN P6
  have K0 : Keep h0 h0 [x0] := Keep.refl h0 _
  have Z0 := own_old_le O0
  have N0 := Fr.nil n0
  obtain ⟨zCS, SCS, PCS⟩ := own_cs G
  refine OwnEnd.start (g' := (mkF m 0 #[.val (.ref x0), .val (.ref b), .val (.int (0 : Int32)), .val (.int (2 : Int32)), .val .null, .unset] [])) (own_efnv2 m x0 b) ?_
  refine OwnEnd.of (S' := s₁.setTop (mkF m 1 #[.val (.ref x0), .val (.ref b), .val (.int (0 : Int32)), .val (.int (2 : Int32)), .val .null, .unset] [(.ref x0)])) (fun _ kK => XS.aloadN X0.here hx rfl (hb hby d0_0) rfl rfl kK) ?_
  obtain ⟨T1, X1, e1, st1⟩ := initO X0 hx hZ hown (own_w G 16 rfl) (own_w G 17 rfl) (own_w G 18 rfl) e0 (g := (mkF m 1 #[.val (.ref x0), .val (.ref b), .val (.int (0 : Int32)), .val (.int (2 : Int32)), .val .null, .unset] [(.ref x0)])) rfl (by rw [hml]; rfl) rfl (hb hby d0_1) (by decide) (W := 0) (by show 2 * 0 + _ ≤ _; exact Nat.le_of_eq rfl) (by decide)
  refine OwnEnd.of (S' := T1.setTop (mkF m 4 #[.val (.ref x0), .val (.ref b), .val (.int (0 : Int32)), .val (.int (2 : Int32)), .val .null, .unset] [])) st1 ?_
  refine OwnEnd.of (S' := T1.setTop (mkF m 27 #[.val (.ref x0), .val (.ref b), .val (.int (0 : Int32)), .val (.int (2 : Int32)), .val .null, .unset] [])) (fun _ kK => XS.iloadN X1.here hx rfl (hb hby d0_4) rfl (XS.ifYes X1.here hx rfl (pc0 := 5) (pc' := 27) rfl (hb hby d0_5) rfl ((if0 _ _).trans (feq ((by decide : ¬ ((2 : Int32) = (0 : Int32))))).2) (by decide) (by decide) kK)) ?_
  obtain ⟨T2, X2, e2, st2⟩ := getS2 X1 hx hZ hown (host := "") (Or.inl (own_w G 36 rfl)) Via.refl e1 (SCS.ext O0.2) (g := (mkF m 27 #[.val (.ref x0), .val (.ref b), .val (.int (0 : Int32)), .val (.int (2 : Int32)), .val .null, .unset] [])) rfl (hb hby d0_27)
  refine OwnEnd.of (S' := T2.setTop (mkF m 30 #[.val (.ref x0), .val (.ref b), .val (.int (0 : Int32)), .val (.int (2 : Int32)), .val .null, .unset] [(.int zCS)])) st2 ?_
  refine OwnEnd.of (S' := T2.setTop (mkF m 36 #[.val (.ref x0), .val (.ref b), .val (.int (0 : Int32)), .val (.int (2 : Int32)), .val .null, .unset] [(.int (2 : Int32)), (.int (0 : Int32)), (.ref b)])) (fun _ kK => XS.ifNo X2.here hx rfl (hb hby d0_30) rfl ((if0 _ _).trans (feq (PCS)).1) (XS.aloadN X2.here hx rfl (hb hby d0_33) rfl rfl (XS.iloadN X2.here hx rfl (hb hby d0_34) rfl (XS.iloadN X2.here hx rfl (hb hby d0_35) rfl kK)))) ?_
  obtain ⟨_, _, ⟨T3, L3, k3, n3⟩, -, X3, ⟨Lc3, hQ3, l3, y3, z3⟩, st3⟩ := Jvm.LawKit.callS X2 hx (y := own_m19) hown (mvT hZ (own_w G 37 rfl)) (mvT hZ (own_w G 38 rfl)) (mvT hZ (own_w G 39 rfl)) (mvT hZ (own_w G 40 rfl)) (by decide) (backOf (W := 0) (rmcw2 l Z a0 G [] b kC dC c0 c1 h0 n0 O0 P4 P5) hZ (own_w G 40 rfl) (own_w G 39 rfl) (by decide) (by decide)) (g := (mkF m 36 #[.val (.ref x0), .val (.ref b), .val (.int (0 : Int32)), .val (.int (2 : Int32)), .val .null, .unset] [(.int (2 : Int32)), (.int (0 : Int32)), (.ref b)])) rfl (by rw [hml]; rfl) (argsL := [(.ref b), (.int (0 : Int32)), (.int (2 : Int32))]) (rest := []) (lenOf pd_12 rfl) rfl (by show 2 * 0 + _ ≤ _; exact Nat.le_of_eq rfl) (hb hby d0_36) (fun _ _ => ⟨rfl, e2, (by decide : 0 + 2 ≤ _), (by decide : 0 + 6 ≤ _)⟩)
  dsimp only [Pt.U, Pt.locs, Pt.cells, Pt.slots] at X3 l3 y3 z3 st3 hQ3
  subst l3 y3 z3
  obtain ⟨t_3, kb_3, N_3, vs_3, cd_3, rfl, N3q, Kq3, r3_0, r3_1, r3_2⟩ := hQ3
  have N3 := Fr.app N0 N3q
  have sz4 := Kq3.1
  have K4 := K0.trans Kq3 (own_all0 )
  have O4 := O0.keep Kq3 (own_all0 )
  have ltr3_0 := own_ltN' r3_0.lt
  refine OwnEnd.of (S' := T3.setTop (mkF m 39 #[.val (.ref x0), .val (.ref b), .val (.int (0 : Int32)), .val (.int (2 : Int32)), .val .null, .unset] [(.ref t_3)])) st3 ?_
  refine OwnEnd.of (S' := T3.setTop (mkF m 45 #[.val (.ref x0), .val (.ref b), .val (.int (0 : Int32)), .val (.int (2 : Int32)), .val .null, .val (.ref t_3)] [(.int (2 : Int32)), (.ref t_3), (.ref x0)])) (fun _ kK => XS.astore X3.here hx rfl (hb hby d0_39) rfl rfl (l' := #[.val (.ref x0), .val (.ref b), .val (.int (0 : Int32)), .val (.int (2 : Int32)), .val .null, .val (.ref t_3)]) rfl (XS.aloadN X3.here hx rfl (hb hby d0_41) rfl rfl (XS.aload X3.here hx rfl (hb hby d0_42) rfl rfl (XS.iloadN X3.here hx rfl (hb hby d0_44) rfl kK)))) ?_
  obtain ⟨_, _, ⟨T5, L5, k5, n5⟩, -, X5, ⟨Lc5, hQ5, l5, y5, z5⟩, st5⟩ := Jvm.LawKit.callS X3 hx (y := own_m20) hown (mvT hZ (own_w G 44 rfl)) (mvT hZ (own_w G 45 rfl)) (mvT hZ (own_w G 39 rfl)) (mvT hZ (own_w G 46 rfl)) (by decide) (backOf (W := 1) (rmcf2 l Z a0 G [] t_3 kb_3 N_3 vs_3 cd_3 c0 c1 T3.heap n0 O4 r3_0 r3_1) hZ (own_w G 46 rfl) (own_w G 39 rfl) (by decide) (by decide)) (g := (mkF m 45 #[.val (.ref x0), .val (.ref b), .val (.int (0 : Int32)), .val (.int (2 : Int32)), .val .null, .val (.ref t_3)] [(.int (2 : Int32)), (.ref t_3), (.ref x0)])) rfl (by rw [hml]; rfl) (argsL := [(.ref t_3), (.int (2 : Int32))]) (rest := [(.ref x0)]) (lenOf pd_13 rfl) rfl (by show 2 * 0 + _ ≤ _; exact Nat.le_of_eq rfl) (hb hby d0_45) (fun _ _ => ⟨rfl, rfl, (by decide : 2 + 0 ≤ _), (by decide : 6 + 0 ≤ _)⟩)
  dsimp only [Pt.U, Pt.locs, Pt.cells, Pt.slots] at X5 l5 y5 z5 st5 hQ5
  subst l5 y5 z5
  obtain ⟨rfl, N5q, eh5⟩ := hQ5
  have N5 := Fr.app N3 N5q
  refine OwnEnd.of (S' := T5.setTop (mkF m 48 #[.val (.ref x0), .val (.ref b), .val (.int (0 : Int32)), .val (.int (2 : Int32)), .val .null, .val (.ref t_3)] [(.int cd_3), (.ref x0)])) st5 ?_
  have f7 : Fld Z T3.heap x0 "java/lang/String" "coder" "B" c9 := (P2.keep Kq3 nin0)
  have f8 : Exa Z T3.heap x0 "java/lang/String" := (P0.keep Kq3)
  obtain ⟨T6, h6, X6, e6, W6, st6⟩ := putFN X5 hx hZ hown (own_w G 26 rfl) Via.refl eh5 f7 f8 (Or.inr ⟨(own_w G 22 rfl), rfl, hnm⟩) (own_w G 2 rfl) (ty := .byte) (v' := (.int cd_3)) (by decide) (own_cod_nar r3_1).1 (own_cod_nar r3_1).2 (g := (mkF m 48 #[.val (.ref x0), .val (.ref b), .val (.int (0 : Int32)), .val (.int (2 : Int32)), .val .null, .val (.ref t_3)] [(.int cd_3), (.ref x0)])) rfl rfl (hb hby d0_48)
  have Fw6 := f7.same W6
  have N6 := Fr.snoc X6 N5 (by omega)
  have sz9 := own_wr_le W6
  have K9 := K4.wr W6 (Or.inl (by simp))
  have O9 := O4.wr W6 (by omega)
  refine OwnEnd.of (S' := T6.setTop (mkF m 51 #[.val (.ref x0), .val (.ref b), .val (.int (0 : Int32)), .val (.int (2 : Int32)), .val .null, .val (.ref t_3)] [])) st6 ?_
  refine OwnEnd.of (S' := T6.setTop (mkF m 54 #[.val (.ref x0), .val (.ref b), .val (.int (0 : Int32)), .val (.int (2 : Int32)), .val .null, .val (.ref t_3)] [(.ref t_3), (.ref x0)])) (fun _ kK => XS.aloadN X6.here hx rfl (hb hby d0_51) rfl rfl (XS.aload X6.here hx rfl (hb hby d0_52) rfl rfl kK)) ?_
  have f11 : Fld Z h6 x0 "java/lang/String" "value" "[B" v0 := ((P1.keep Kq3 nin0).other W6 (Or.inr (slot_ne (Or.inr (own_w G 21 rfl)) (Or.inr (own_w G 22 rfl)) (by decide) (t := (.array .byte)) (t' := .byte) (by decide) (by decide))))
  have f12 : Exa Z h6 x0 "java/lang/String" := (f8.wr W6)
  obtain ⟨T10, h10, X10, e10, W10, st10⟩ := putF X6 hx hZ hown (host := "") (Or.inl (own_w G 25 rfl)) Via.refl e6 f11 f12 (Or.inr ⟨(own_w G 21 rfl), rfl, hnm⟩) (own_w G 2 rfl) (ty := (.array .byte)) (by decide) rfl rfl (g := (mkF m 54 #[.val (.ref x0), .val (.ref b), .val (.int (0 : Int32)), .val (.int (2 : Int32)), .val .null, .val (.ref t_3)] [(.ref t_3), (.ref x0)])) rfl rfl (hb hby d0_54)
  have Fw10 := f11.same W10
  have N10 := Fr.snoc X10 N6 (by omega)
  have sz13 := own_wr_le W10
  have K13 := K9.wr W10 (Or.inl (by simp))
  have O13 := O9.wr W10 (by omega)
  refine OwnEnd.of (S' := T10.setTop (mkF m 57 #[.val (.ref x0), .val (.ref b), .val (.int (0 : Int32)), .val (.int (2 : Int32)), .val .null, .val (.ref t_3)] [])) st10 ?_
  have f14 : Exa Z h10 x0 "java/lang/String" := (f12.wr W10)
  have f15 : Fld Z h10 x0 "java/lang/String" "coder" "B" (.int cd_3) := (Fw6.other W10 (Or.inr (slot_ne (Or.inr (own_w G 22 rfl)) (Or.inr (own_w G 21 rfl)) (by decide) (t := .byte) (t' := (.array .byte)) (by decide) (by decide))))
  have f16 : Arv Z h10 t_3 kb_3 .byte N_3 vs_3 (.int (0 : Int32)) := ((r3_0.other W6 (own_ne (by omega))).other W10 (own_ne (by omega)))
  refine OwnEnd.ret X10 (v := none) (fun _ => rfl) hlk (fun fs hr => X10.returnOut hx Bd.returns (hb hby d0_57) hr) (by decide) (by decide) (Q := Qnv2 Z x0 b v0 c9 kC dC c0 c1 h0 n0) e10 ?_
  exact ⟨t_3, kb_3, N_3, vs_3, cd_3, rfl, N10, K13, f14, Fw10, f15, f16, (r3_1), (by omega)⟩

theorem own_efnw2 (m : MethodId) (x0 : Addr) (b : Addr) : entryFrame m #[(.ref x0), (.ref b)] 2 = mkF m 0 #[.val (.ref x0), .val (.ref b)] [] := by first | (simp [entryFrame, mkF, argsToLocals, Value.category]; done) | rfl
def Qnw2 (Z : State) (x0 : Addr) (b : Addr) (v0 : Value) (c9 : Value) (kC : ClassId) (dC : Value) (c0 : Int32) (c1 : Int32) (h0 : Heap) (n0 : Nat) (v : Option Value) (h : Heap) (L : List Loc) : Prop := ∃ (t : Addr) (kb : ClassId) (N : Int32) (vs : List Value) (cd : Int32), v = none ∧ Fr n0 L ∧ Keep h0 h [x0] ∧ (Exa Z h x0 "java/lang/String") ∧ (Fld Z h x0 "java/lang/String" "value" "[B" (.ref t)) ∧ (Fld Z h x0 "java/lang/String" "coder" "B" (.int cd)) ∧ (Arv Z h t kb .byte N vs (.int (0 : Int32))) ∧ (StrChars.Road.CodA [c0, c1] cd N vs) ∧ (Array.size h0 ≤ t)
set_option maxRecDepth 65536 in
set_option maxHeartbeats 40000000 in
theorem rmnw2 (l : Launch) (Z : State) (a0 : Array Value) (G : OwnG Z a0) (ws : List Jvm.Cond) (x0 : Addr) (b : Addr) (v0 : Value) (c9 : Value) (kC : ClassId) (dC : Value) (c0 : Int32) (c1 : Int32) (h0 : Heap) (n0 : Nat) (O0 : Old Z n0 h0) (P0 : Exa Z h0 x0 "java/lang/String") (P1 : Fld Z h0 x0 "java/lang/String" "value" "[B" v0) (P2 : Fld Z h0 x0 "java/lang/String" "coder" "B" c9) (P3 : n0 ≤ x0) (P4 : Arv Z h0 b kC .char (2 : Int32) [(.int c0), (.int c1)] dC) (P5 : ∀ c ∈ ([c0, c1] : List Int32), ¬ c < (0 : Int32) ∧ ¬ (65535 : Int32) < c) (P6 : x0 ≠ b) :
    MetFree l own_m1 (head1 (Jvm.Cond.code own_m1 jdk_42_method_3_code 2 none :: ws) ({ frames := 5, cells := 2, slots := 6, locals := 74 } : Room)) (fun a U => a = #[(.ref x0), (.ref b)] ∧ Z.Warmed39 U.vm ∧ U.heap = h0) (fun _ _ _ _ _ => True) (fun _ U o U' => ∃ v L, o = .returned v ∧ Qnw2 Z x0 b v0 c9 kC dC c0 c1 h0 n0 v U'.heap L ∧ FrameEnd U o U' L ({ frames := 5, cells := 2, slots := 6, locals := 74 } : Room).cells ({ frames := 5, cells := 2, slots := 6, locals := 74 } : Room).slots) := by
  refine MetFree.of_bodySF (plainFor_of_name pn_0) hisR ?_
  intro p e s m args below meth cD s₁ Bd hml0 hP hK
  obtain ⟨rfl, hZ, hh⟩ := hP
  have hw := G.1
  have hx := Bd.exec
  have hby := Bd.bytes
  have hml : cD.maxLocals = 2 := hml0
  have hown : s.vm.findClass "java/lang/String" = some m.cls := findClass_of_methodNamed Bd.named
  have hnm := (name_of_methodNamed Bd.named Bd.method).1
  have hlk := Bd.notSynchronized
  have X0 : Stand p l e ({ frames := 5, cells := 2, slots := 6, locals := 74 } : Room) s m #[(.ref x0), (.ref b)] below meth cD s₁ [] 0 0 := Stand.of_body Bd
  have e0 : s₁.heap = h0 := by rw [← hh, Bd.state]; rfl
  have lt0 := own_ltN' P0.lt
  have lt1 := own_ltN' P1.lt
  have lt2 := own_ltN' P2.lt
  have lt4 := own_ltN' P4.lt
  have nP6 := own_neN P6
  have K0 : Keep h0 h0 [x0] := Keep.refl h0 _
  have Z0 := own_old_le O0
  have N0 := Fr.nil n0
  refine OwnEnd.start (g' := (mkF m 0 #[.val (.ref x0), .val (.ref b)] [])) (own_efnw2 m x0 b) ?_
  refine OwnEnd.of (S' := s₁.setTop (mkF m 4 #[.val (.ref x0), .val (.ref b)] [(.ref b), (.int (0 : Int32)), (.ref b), (.ref x0)])) (fun _ kK => XS.aloadN X0.here hx rfl (hb hby d1_0) rfl rfl (XS.aloadN X0.here hx rfl (hb hby d1_1) rfl rfl (XS.iconst X0.here hx rfl (hb hby d1_2) (XS.aloadN X0.here hx rfl (hb hby d1_3) rfl rfl kK)))) ?_
  obtain ⟨cl1, Ar1, q1, S1, N1', H1, G1⟩ := id P4
  refine OwnEnd.of (S' := s₁.setTop (mkF m 5 #[.val (.ref x0), .val (.ref b)] [(.int (2 : Int32)), (.int (0 : Int32)), (.ref b), (.ref x0)])) (fun _ kK => X0.arraylength hx (by rw [e0]; exact Ar1.1) (State.isArrayOf_alike hZ.alike Ar1.2.1) (g := (mkF m 4 #[.val (.ref x0), .val (.ref b)] [(.ref b), (.int (0 : Int32)), (.ref b), (.ref x0)])) rfl rfl (hb hby d1_4) _ (by rw [len_of S1 N1']; exact kK)) ?_
  refine OwnEnd.of (S' := s₁.setTop (mkF m 6 #[.val (.ref x0), .val (.ref b)] [.null, (.int (2 : Int32)), (.int (0 : Int32)), (.ref b), (.ref x0)])) (fun _ kK => XS.aconstNull X0.here hx rfl (hb hby d1_5) kK) ?_
  obtain ⟨_, _, ⟨T2, L2, k2, n2⟩, -, X2, ⟨Lc2, hQ2, l2, y2, z2⟩, st2⟩ := Jvm.Stand.specialBack X0 hx (y := own_m0) rfl hown (mvT hZ (own_w G 12 rfl)) (mvT hZ (own_w G 13 rfl)) (mvT hZ (own_w G 15 rfl)) (by decide) (backOf (W := 0) (rmnv2 l Z a0 G [] x0 b v0 c9 kC dC c0 c1 h0 n0 O0 P0 P1 P2 (by omega) P4 P5 (P6 : x0 ≠ b)) hZ (own_w G 15 rfl) (own_w G 3 rfl) (by decide) (by decide)) (g := (mkF m 6 #[.val (.ref x0), .val (.ref b)] [.null, (.int (2 : Int32)), (.int (0 : Int32)), (.ref b), (.ref x0)])) rfl (by rw [hml]; rfl) (Steps.refl _) (a := x0) (argsL := [(.ref b), (.int (0 : Int32)), (.int (2 : Int32)), .null]) (rest := []) (lenOf pd_0 rfl) rfl (by show 2 * 0 + _ ≤ _; exact Nat.le_of_eq rfl) (hb hby d1_6) (fun _ _ => ⟨rfl, e0, (by decide : 0 + 2 ≤ _), (by decide : 0 + 6 ≤ _)⟩)
  dsimp only [Pt.U, Pt.locs, Pt.cells, Pt.slots] at X2 l2 y2 z2 st2 hQ2
  subst l2 y2 z2
  obtain ⟨t_2, kb_2, N_2, vs_2, cd_2, rfl, N2q, Kq2, r2_0, r2_1, r2_2, r2_3, r2_4, r2_5⟩ := hQ2
  have N2 := Fr.app N0 N2q
  have sz3 := Kq2.1
  have K3 := K0.trans Kq2 (own_all1 (Or.inl (by simp)))
  have O3 := O0.keep Kq2 (own_all1 (by omega))
  have ltr2_0 := own_ltN' r2_0.lt
  have ltr2_1 := own_ltN' r2_1.lt
  have ltr2_2 := own_ltN' r2_2.lt
  have ltr2_3 := own_ltN' r2_3.lt
  refine OwnEnd.tr (S' := T2.setTop (mkF m 9 #[.val (.ref x0), .val (.ref b)] [])) st2 ?_
  refine OwnEnd.ret X2 (v := none) (fun _ => rfl) hlk (fun fs hr => X2.returnOut hx Bd.returns (hb hby d1_9) hr) (by decide) (by decide) (Q := Qnw2 Z x0 b v0 c9 kC dC c0 c1 h0 n0) rfl ?_
  exact ⟨t_2, kb_2, N_2, vs_2, cd_2, rfl, N2, K3, r2_0, r2_1, r2_2, r2_3, (r2_4), (by omega)⟩

theorem own_efnb3 (m : MethodId) : entryFrame m #[(.int (3 : Int32))] 1 = mkF m 0 #[.val (.int (3 : Int32))] [] := by first | (simp [entryFrame, mkF, argsToLocals, Value.category]; done) | rfl
def Qnb3 (Z : State)  (h0 : Heap) (n0 : Nat) (v : Option Value) (h : Heap) (L : List Loc) : Prop := ∃ (t : Addr) (kb : ClassId), v = some (.ref t) ∧ Fr n0 L ∧ Keep h0 h [] ∧ (Arv Z h t kb .byte (6 : Int32) [(.int (0 : Int32)), (.int (0 : Int32)), (.int (0 : Int32)), (.int (0 : Int32)), (.int (0 : Int32)), (.int (0 : Int32))] (.int (0 : Int32))) ∧ (Array.size h0 ≤ t)
set_option maxRecDepth 65536 in
set_option maxHeartbeats 40000000 in
theorem rmnb3 (l : Launch) (Z : State) (a0 : Array Value) (G : OwnG Z a0) (ws : List Jvm.Cond)  (h0 : Heap) (n0 : Nat) (O0 : Old Z n0 h0)  :
    MetFree l own_m16 (head1 (Jvm.Cond.code own_m16 jdk_52_method_2_code 1 (some (.array .byte)) :: ws) ({ frames := 1, cells := 1, slots := 6, locals := 12 } : Room)) (fun a U => a = #[(.int (3 : Int32))] ∧ Z.Warmed39 U.vm ∧ U.heap = h0) (fun _ _ _ _ _ => True) (fun _ U o U' => ∃ v L, o = .returned v ∧ Qnb3 Z  h0 n0 v U'.heap L ∧ FrameEnd U o U' L ({ frames := 1, cells := 1, slots := 6, locals := 12 } : Room).cells ({ frames := 1, cells := 1, slots := 6, locals := 12 } : Room).slots) := by
  refine MetFree.of_bodySF (plainFor_of_name pn_3) hisR ?_
  intro p e s m args below meth cD s₁ Bd hml0 hP hK
  obtain ⟨rfl, hZ, hh⟩ := hP
  have hw := G.1
  have hx := Bd.exec
  have hby := Bd.bytes
  have hml : cD.maxLocals = 1 := hml0
  have hown : s.vm.findClass "java/lang/StringUTF16" = some m.cls := findClass_of_methodNamed Bd.named
  have hnm := (name_of_methodNamed Bd.named Bd.method).1
  have hlk := Bd.notSynchronized
  have X0 : Stand p l e ({ frames := 1, cells := 1, slots := 6, locals := 12 } : Room) s m #[(.int (3 : Int32))] below meth cD s₁ [] 0 0 := Stand.of_body Bd
  have e0 : s₁.heap = h0 := by rw [← hh, Bd.state]; rfl
  have K0 : Keep h0 h0 [] := Keep.refl h0 _
  have Z0 := own_old_le O0
  have N0 := Fr.nil n0
  refine OwnEnd.start (g' := (mkF m 0 #[.val (.int (3 : Int32))] [])) (own_efnb3 m ) ?_
  refine OwnEnd.of (S' := s₁.setTop (mkF m 1 #[.val (.int (3 : Int32))] [(.int (3 : Int32))])) (fun _ kK => XS.iloadN X0.here hx rfl (hb hby d16_0) rfl kK) ?_
  obtain ⟨_, _, ⟨T1, L1, k1, n1⟩, -, X1, ⟨Lc1, hQ1, l1, y1, z1⟩, st1⟩ := Jvm.LawKit.callS X0 hx (y := own_m14) hown (mvT hZ (own_w G 88 rfl)) (mvT hZ (own_w G 89 rfl)) (mvT hZ (own_w G 39 rfl)) (mvT hZ (own_w G 90 rfl)) (by decide) (backOf (W := 0) (rmnl l Z a0 G [] (3 : Int32) (6 : Int32) h0 n0 O0 (by decide : ¬ (3 : Int32) < (0 : Int32)) (by decide : (3 : Int32) < (1073741823 : Int32)) (by decide : (3 : Int32) <<< ((1 : Int32) &&& 31) = (6 : Int32))) hZ (own_w G 90 rfl) (own_w G 39 rfl) (by decide) (by decide)) (g := (mkF m 1 #[.val (.int (3 : Int32))] [(.int (3 : Int32))])) rfl (by rw [hml]; rfl) (argsL := [(.int (3 : Int32))]) (rest := []) (lenOf pd_8 rfl) rfl (by show 2 * 0 + _ ≤ _; exact Nat.le_of_eq rfl) (hb hby d16_1) (fun _ _ => ⟨rfl, e0, (by decide : 0 + 0 ≤ _), (by decide : 0 + 0 ≤ _)⟩)
  dsimp only [Pt.U, Pt.locs, Pt.cells, Pt.slots] at X1 l1 y1 z1 st1 hQ1
  subst l1 y1 z1
  obtain ⟨rfl, N1q, eh1⟩ := hQ1
  have N1 := Fr.app N0 N1q
  refine OwnEnd.of (S' := T1.setTop (mkF m 4 #[.val (.int (3 : Int32))] [(.int (6 : Int32))])) st1 ?_
  obtain ⟨T2, h2, k2, X2, e2, E2, A2, st2⟩ := newP X1 hx hZ (own_w G 20 rfl) eh1 (g := (mkF m 4 #[.val (.int (3 : Int32))] [(.int (6 : Int32))])) rfl (hb hby d16_4) rfl (by decide) (cap := 6) (by decide) (by decide) (by decide) (by decide)
  obtain ⟨b2, g2⟩ : ∃ z, z = Array.size h0 := ⟨_, rfl⟩
  rw [← g2] at A2 st2
  have lt_b2 := own_ltN' A2.lt
  have sz3 := E2.1
  have K3 := K0.ext E2
  have O3 := O0.ext E2
  have V2 : Arv Z h2 b2 k2 .byte (6 : Int32) [(.int (0 : Int32)), (.int (0 : Int32)), (.int (0 : Int32)), (.int (0 : Int32)), (.int (0 : Int32)), (.int (0 : Int32))] (.int (0 : Int32)) := (Arv.new A2 (by decide)).pad (pad_rep [] (.int (0 : Int32)) 6)
  refine OwnEnd.of (S' := T2.setTop (mkF m 6 #[.val (.int (3 : Int32))] [(.ref b2)])) st2 ?_
  refine OwnEnd.ret X2 (v := (some (.ref b2))) (fun h => by rw [Bd.returns] at h; cases h) hlk (fun fs hr => retOut X2 hx Bd.returns rfl (Or.inr (Or.inr (Or.inr (Or.inr ⟨rfl, rfl, rfl⟩)))) (hb hby d16_6) hr) (by decide) (by decide) (Q := Qnb3 Z  h0 n0) e2 ?_
  exact ⟨b2, k2, rfl, N1, K3, V2, (by omega)⟩

theorem own_efby3 (m : MethodId) (b : Addr) : entryFrame m #[(.ref b), (.int (0 : Int32)), (.int (3 : Int32))] 5 = mkF m 0 #[.val (.ref b), .val (.int (0 : Int32)), .val (.int (3 : Int32)), .unset, .unset] [] := by first | (simp [entryFrame, mkF, argsToLocals, Value.category]; done) | rfl
def Qby3 (Z : State) (b : Addr) (kC : ClassId) (dC : Value) (c0 : Int32) (c1 : Int32) (c2 : Int32) (h0 : Heap) (n0 : Nat) (v : Option Value) (h : Heap) (L : List Loc) : Prop := ∃ (t : Addr) (kb : ClassId), v = some (.ref t) ∧ Fr n0 L ∧ Keep h0 h [] ∧ (Arv Z h t kb .byte (6 : Int32) (StrChars.Road.wideBytes [c0, c1, c2]) (.int (0 : Int32))) ∧ (Array.size h0 ≤ t)
set_option maxRecDepth 65536 in
set_option maxHeartbeats 40000000 in
theorem rmby3 (l : Launch) (Z : State) (a0 : Array Value) (G : OwnG Z a0) (ws : List Jvm.Cond) (b : Addr) (kC : ClassId) (dC : Value) (c0 : Int32) (c1 : Int32) (c2 : Int32) (h0 : Heap) (n0 : Nat) (O0 : Old Z n0 h0) (P0 : Arv Z h0 b kC .char (3 : Int32) [(.int c0), (.int c1), (.int c2)] dC) :
    MetFree l own_m17 (head1 (Jvm.Cond.code own_m17 jdk_52_method_14_code 5 (some (.array .byte)) :: ws) ({ frames := 2, cells := 1, slots := 6, locals := 24 } : Room)) (fun a U => a = #[(.ref b), (.int (0 : Int32)), (.int (3 : Int32))] ∧ Z.Warmed39 U.vm ∧ U.heap = h0) (fun _ _ _ _ _ => True) (fun _ U o U' => ∃ v L, o = .returned v ∧ Qby3 Z b kC dC c0 c1 c2 h0 n0 v U'.heap L ∧ FrameEnd U o U' L ({ frames := 2, cells := 1, slots := 6, locals := 24 } : Room).cells ({ frames := 2, cells := 1, slots := 6, locals := 24 } : Room).slots) := by
  refine MetFree.of_bodySF (plainFor_of_name pn_3) hisR ?_
  intro p e s m args below meth cD s₁ Bd hml0 hP hK
  obtain ⟨rfl, hZ, hh⟩ := hP
  have hw := G.1
  have hx := Bd.exec
  have hby := Bd.bytes
  have hml : cD.maxLocals = 5 := hml0
  have hown : s.vm.findClass "java/lang/StringUTF16" = some m.cls := findClass_of_methodNamed Bd.named
  have hnm := (name_of_methodNamed Bd.named Bd.method).1
  have hlk := Bd.notSynchronized
  have X0 : Stand p l e ({ frames := 2, cells := 1, slots := 6, locals := 24 } : Room) s m #[(.ref b), (.int (0 : Int32)), (.int (3 : Int32))] below meth cD s₁ [] 0 0 := Stand.of_body Bd
  have e0 : s₁.heap = h0 := by rw [← hh, Bd.state]; rfl
  have lt0 := own_ltN' P0.lt
  have K0 : Keep h0 h0 [] := Keep.refl h0 _
  have Z0 := own_old_le O0
  have N0 := Fr.nil n0
  refine OwnEnd.start (g' := (mkF m 0 #[.val (.ref b), .val (.int (0 : Int32)), .val (.int (3 : Int32)), .unset, .unset] [])) (own_efby3 m b) ?_
  refine OwnEnd.of (S' := s₁.setTop (mkF m 1 #[.val (.ref b), .val (.int (0 : Int32)), .val (.int (3 : Int32)), .unset, .unset] [(.int (3 : Int32))])) (fun _ kK => XS.iloadN X0.here hx rfl (hb hby d17_0) rfl kK) ?_
  obtain ⟨_, _, ⟨T1, L1, k1, n1⟩, -, X1, ⟨Lc1, hQ1, l1, y1, z1⟩, st1⟩ := Jvm.LawKit.callS X0 hx (y := own_m16) hown (mvT hZ (own_w G 85 rfl)) (mvT hZ (own_w G 86 rfl)) (mvT hZ (own_w G 39 rfl)) (mvT hZ (own_w G 87 rfl)) (by decide) (backOf (W := 0) (rmnb3 l Z a0 G []  h0 n0 O0 ) hZ (own_w G 87 rfl) (own_w G 39 rfl) (by decide) (by decide)) (g := (mkF m 1 #[.val (.ref b), .val (.int (0 : Int32)), .val (.int (3 : Int32)), .unset, .unset] [(.int (3 : Int32))])) rfl (by rw [hml]; rfl) (argsL := [(.int (3 : Int32))]) (rest := []) (lenOf pd_9 rfl) rfl (by show 2 * 0 + _ ≤ _; exact Nat.le_of_eq rfl) (hb hby d17_1) (fun _ _ => ⟨rfl, e0, (by decide : 0 + 1 ≤ _), (by decide : 0 + 6 ≤ _)⟩)
  dsimp only [Pt.U, Pt.locs, Pt.cells, Pt.slots] at X1 l1 y1 z1 st1 hQ1
  subst l1 y1 z1
  obtain ⟨t_1, kb_1, rfl, N1q, Kq1, r1_0, r1_1⟩ := hQ1
  have N1 := Fr.app N0 N1q
  have sz2 := Kq1.1
  have K2 := K0.trans Kq1 (own_all0 )
  have O2 := O0.keep Kq1 (own_all0 )
  have ltr1_0 := own_ltN' r1_0.lt
  refine OwnEnd.of (S' := T1.setTop (mkF m 4 #[.val (.ref b), .val (.int (0 : Int32)), .val (.int (3 : Int32)), .unset, .unset] [(.ref t_1)])) st1 ?_
  refine OwnEnd.of (S' := T1.setTop (mkF m 19 #[.val (.ref b), .val (.int (0 : Int32)), .val (.int (3 : Int32)), .val (.ref t_1), .val (.int (0 : Int32))] [(.int (0 : Int32)), (.ref b), (.int (0 : Int32)), (.ref t_1)])) (fun _ kK => XS.astoreN X1.here hx rfl (hb hby d17_4) rfl rfl (l' := #[.val (.ref b), .val (.int (0 : Int32)), .val (.int (3 : Int32)), .val (.ref t_1), .unset]) rfl (XS.iconst X1.here hx rfl (hb hby d17_5) (XS.istore X1.here hx rfl (hb hby d17_6) rfl (l' := #[.val (.ref b), .val (.int (0 : Int32)), .val (.int (3 : Int32)), .val (.ref t_1), .val (.int (0 : Int32))]) rfl (XS.iload X1.here hx rfl (hb hby d17_8) rfl (XS.iloadN X1.here hx rfl (hb hby d17_10) rfl (XS.icmpNo X1.here hx rfl (hb hby d17_11) rfl (tlt ((by decide : (0 : Int32) < (3 : Int32)))).2.1 (XS.aloadN X1.here hx rfl (hb hby d17_14) rfl rfl (XS.iload X1.here hx rfl (hb hby d17_15) rfl (XS.aloadN X1.here hx rfl (hb hby d17_17) rfl rfl (XS.iloadN X1.here hx rfl (hb hby d17_18) rfl kK)))))))))) ?_
  have f3 : Arv Z T1.heap b kC .char (3 : Int32) [(.int c0), (.int c1), (.int c2)] dC := (P0.keep Kq1 nin0)
  obtain ⟨cl4, Ar4, q4, S4, N4', H4, G4⟩ := id f3
  have hin5 : ¬ ((0 : Int32) < 0 ∨ cl4.slots.size ≤ ((0 : Int32)).toNatClampNeg) := inb_of S4 ⟨by decide, by decide⟩
  refine OwnEnd.of (S' := T1.setTop (mkF m 20 #[.val (.ref b), .val (.int (0 : Int32)), .val (.int (3 : Int32)), .val (.ref t_1), .val (.int (0 : Int32))] [(.int c0), (.int (0 : Int32)), (.ref t_1)])) (fun _ kK => X1.caload hx (j := (0 : Int32)) (v := (.int c0)) Ar4.1 (State.isArrayOf_alike hZ.alike Ar4.2.1) Ar4.2.2 hin5 (Has.at H4 hin5 (rfl)) (g := (mkF m 19 #[.val (.ref b), .val (.int (0 : Int32)), .val (.int (3 : Int32)), .val (.ref t_1), .val (.int (0 : Int32))] [(.int (0 : Int32)), (.ref b), (.int (0 : Int32)), (.ref t_1)])) rfl rfl (hb hby d17_19) _ kK) ?_
  obtain ⟨_, _, ⟨T6, L6, k6, n6⟩, -, X6, ⟨Lc6, hQ6, l6, y6, z6⟩, st6⟩ := Jvm.LawKit.callS X1 hx (y := own_m15) hown (mvT hZ (own_w G 92 rfl)) (mvT hZ (own_w G 93 rfl)) (mvT hZ (own_w G 39 rfl)) (mvT hZ (own_w G 94 rfl)) (by decide) (backOf (W := 0) (rmpu0 l Z a0 G [] t_1 kb_1 (6 : Int32) [(.int (0 : Int32)), (.int (0 : Int32)), (.int (0 : Int32)), (.int (0 : Int32)), (.int (0 : Int32)), (.int (0 : Int32))] (.int (0 : Int32)) c0 T1.heap n0 O2 r1_0 (by decide : (0 : Int32) < (6 : Int32)) (by decide : (1 : Int32) < (6 : Int32)) (Nat.le_of_ble_eq_true rfl : 1 < [(.int (0 : Int32)), (.int (0 : Int32)), (.int (0 : Int32)), (.int (0 : Int32)), (.int (0 : Int32)), (.int (0 : Int32))].length) (by omega)) hZ (own_w G 94 rfl) (own_w G 39 rfl) (by decide) (by decide)) (g := (mkF m 20 #[.val (.ref b), .val (.int (0 : Int32)), .val (.int (3 : Int32)), .val (.ref t_1), .val (.int (0 : Int32))] [(.int c0), (.int (0 : Int32)), (.ref t_1)])) rfl (by rw [hml]; rfl) (argsL := [(.ref t_1), (.int (0 : Int32)), (.int c0)]) (rest := []) (lenOf pd_10 rfl) rfl (by show 2 * 0 + _ ≤ _; exact Nat.le_of_eq rfl) (hb hby d17_20) (fun _ _ => ⟨rfl, rfl, (by decide : 1 + 0 ≤ _), (by decide : 6 + 0 ≤ _)⟩)
  dsimp only [Pt.U, Pt.locs, Pt.cells, Pt.slots] at X6 l6 y6 z6 st6 hQ6
  subst l6 y6 z6
  obtain ⟨rfl, N6q, Kq6, r6_0⟩ := hQ6
  have N6 := Fr.app N1 N6q
  have sz7 := Kq6.1
  have K7 := K2.trans Kq6 (own_all1 (Or.inr (by omega)))
  have O7 := O2.keep Kq6 (own_all1 (by omega))
  have ltr6_0 := own_ltN' r6_0.lt
  refine OwnEnd.of (S' := T6.setTop (mkF m 23 #[.val (.ref b), .val (.int (0 : Int32)), .val (.int (3 : Int32)), .val (.ref t_1), .val (.int (0 : Int32))] [])) st6 ?_
  have V8 : Arv Z T6.heap t_1 kb_1 .byte (6 : Int32) [(.int (StrChars.lo8 c0)), (.int (StrChars.hi8 c0)), (.int (0 : Int32)), (.int (0 : Int32)), (.int (0 : Int32)), (.int (0 : Int32))] (.int (0 : Int32)) := by have q := r6_0; exact q
  refine OwnEnd.of (S' := T6.setTop (mkF m 19 #[.val (.ref b), .val (.int (1 : Int32)), .val (.int (3 : Int32)), .val (.ref t_1), .val (.int (1 : Int32))] [(.int (1 : Int32)), (.ref b), (.int (1 : Int32)), (.ref t_1)])) (fun _ kK => XS.iinc X6.here hx rfl (hb hby d17_23) rfl (l' := #[.val (.ref b), .val (.int (1 : Int32)), .val (.int (3 : Int32)), .val (.ref t_1), .val (.int (0 : Int32))]) rfl (XS.iinc X6.here hx rfl (hb hby d17_26) rfl (l' := #[.val (.ref b), .val (.int (1 : Int32)), .val (.int (3 : Int32)), .val (.ref t_1), .val (.int (1 : Int32))]) rfl (XS.goto X6.here hx rfl (pc0 := 29) (pc' := 8) rfl (hb hby d17_29) (by decide) (by decide) (XS.iload X6.here hx rfl (hb hby d17_8) rfl (XS.iloadN X6.here hx rfl (hb hby d17_10) rfl (XS.icmpNo X6.here hx rfl (hb hby d17_11) rfl (tlt ((by decide : (1 : Int32) < (3 : Int32)))).2.1 (XS.aloadN X6.here hx rfl (hb hby d17_14) rfl rfl (XS.iload X6.here hx rfl (hb hby d17_15) rfl (XS.aloadN X6.here hx rfl (hb hby d17_17) rfl rfl (XS.iloadN X6.here hx rfl (hb hby d17_18) rfl kK)))))))))) ?_
  have f9 : Arv Z T6.heap b kC .char (3 : Int32) [(.int c0), (.int c1), (.int c2)] dC := (f3.keep Kq6 (own_nin1 (own_ne (by omega))))
  obtain ⟨cl10, Ar10, q10, S10, N10', H10, G10⟩ := id f9
  have hin11 : ¬ ((1 : Int32) < 0 ∨ cl10.slots.size ≤ ((1 : Int32)).toNatClampNeg) := inb_of S10 ⟨by decide, by decide⟩
  refine OwnEnd.of (S' := T6.setTop (mkF m 20 #[.val (.ref b), .val (.int (1 : Int32)), .val (.int (3 : Int32)), .val (.ref t_1), .val (.int (1 : Int32))] [(.int c1), (.int (1 : Int32)), (.ref t_1)])) (fun _ kK => X6.caload hx (j := (1 : Int32)) (v := (.int c1)) Ar10.1 (State.isArrayOf_alike hZ.alike Ar10.2.1) Ar10.2.2 hin11 (Has.at H10 hin11 (rfl)) (g := (mkF m 19 #[.val (.ref b), .val (.int (1 : Int32)), .val (.int (3 : Int32)), .val (.ref t_1), .val (.int (1 : Int32))] [(.int (1 : Int32)), (.ref b), (.int (1 : Int32)), (.ref t_1)])) rfl rfl (hb hby d17_19) _ kK) ?_
  obtain ⟨_, _, ⟨T12, L12, k12, n12⟩, -, X12, ⟨Lc12, hQ12, l12, y12, z12⟩, st12⟩ := Jvm.LawKit.callS X6 hx (y := own_m15) hown (mvT hZ (own_w G 92 rfl)) (mvT hZ (own_w G 93 rfl)) (mvT hZ (own_w G 39 rfl)) (mvT hZ (own_w G 94 rfl)) (by decide) (backOf (W := 0) (rmpu1 l Z a0 G [] t_1 kb_1 (6 : Int32) [(.int (StrChars.lo8 c0)), (.int (StrChars.hi8 c0)), (.int (0 : Int32)), (.int (0 : Int32)), (.int (0 : Int32)), (.int (0 : Int32))] (.int (0 : Int32)) c1 T6.heap n0 O7 V8 (by decide : (2 : Int32) < (6 : Int32)) (by decide : (3 : Int32) < (6 : Int32)) (Nat.le_of_ble_eq_true rfl : 3 < [(.int (StrChars.lo8 c0)), (.int (StrChars.hi8 c0)), (.int (0 : Int32)), (.int (0 : Int32)), (.int (0 : Int32)), (.int (0 : Int32))].length) (by omega)) hZ (own_w G 94 rfl) (own_w G 39 rfl) (by decide) (by decide)) (g := (mkF m 20 #[.val (.ref b), .val (.int (1 : Int32)), .val (.int (3 : Int32)), .val (.ref t_1), .val (.int (1 : Int32))] [(.int c1), (.int (1 : Int32)), (.ref t_1)])) rfl (by rw [hml]; rfl) (argsL := [(.ref t_1), (.int (1 : Int32)), (.int c1)]) (rest := []) (lenOf pd_10 rfl) rfl (by show 2 * 0 + _ ≤ _; exact Nat.le_of_eq rfl) (hb hby d17_20) (fun _ _ => ⟨rfl, rfl, (by decide : 1 + 0 ≤ _), (by decide : 6 + 0 ≤ _)⟩)
  dsimp only [Pt.U, Pt.locs, Pt.cells, Pt.slots] at X12 l12 y12 z12 st12 hQ12
  subst l12 y12 z12
  obtain ⟨rfl, N12q, Kq12, r12_0⟩ := hQ12
  have N12 := Fr.app N6 N12q
  have sz13 := Kq12.1
  have K13 := K7.trans Kq12 (own_all1 (Or.inr (by omega)))
  have O13 := O7.keep Kq12 (own_all1 (by omega))
  have ltr12_0 := own_ltN' r12_0.lt
  refine OwnEnd.of (S' := T12.setTop (mkF m 23 #[.val (.ref b), .val (.int (1 : Int32)), .val (.int (3 : Int32)), .val (.ref t_1), .val (.int (1 : Int32))] [])) st12 ?_
  have V14 : Arv Z T12.heap t_1 kb_1 .byte (6 : Int32) [(.int (StrChars.lo8 c0)), (.int (StrChars.hi8 c0)), (.int (StrChars.lo8 c1)), (.int (StrChars.hi8 c1)), (.int (0 : Int32)), (.int (0 : Int32))] (.int (0 : Int32)) := by have q := r12_0; exact q
  refine OwnEnd.of (S' := T12.setTop (mkF m 19 #[.val (.ref b), .val (.int (2 : Int32)), .val (.int (3 : Int32)), .val (.ref t_1), .val (.int (2 : Int32))] [(.int (2 : Int32)), (.ref b), (.int (2 : Int32)), (.ref t_1)])) (fun _ kK => XS.iinc X12.here hx rfl (hb hby d17_23) rfl (l' := #[.val (.ref b), .val (.int (2 : Int32)), .val (.int (3 : Int32)), .val (.ref t_1), .val (.int (1 : Int32))]) rfl (XS.iinc X12.here hx rfl (hb hby d17_26) rfl (l' := #[.val (.ref b), .val (.int (2 : Int32)), .val (.int (3 : Int32)), .val (.ref t_1), .val (.int (2 : Int32))]) rfl (XS.goto X12.here hx rfl (pc0 := 29) (pc' := 8) rfl (hb hby d17_29) (by decide) (by decide) (XS.iload X12.here hx rfl (hb hby d17_8) rfl (XS.iloadN X12.here hx rfl (hb hby d17_10) rfl (XS.icmpNo X12.here hx rfl (hb hby d17_11) rfl (tlt ((by decide : (2 : Int32) < (3 : Int32)))).2.1 (XS.aloadN X12.here hx rfl (hb hby d17_14) rfl rfl (XS.iload X12.here hx rfl (hb hby d17_15) rfl (XS.aloadN X12.here hx rfl (hb hby d17_17) rfl rfl (XS.iloadN X12.here hx rfl (hb hby d17_18) rfl kK)))))))))) ?_
  have f15 : Arv Z T12.heap b kC .char (3 : Int32) [(.int c0), (.int c1), (.int c2)] dC := (f9.keep Kq12 (own_nin1 (own_ne (by omega))))
  obtain ⟨cl16, Ar16, q16, S16, N16', H16, G16⟩ := id f15
  have hin17 : ¬ ((2 : Int32) < 0 ∨ cl16.slots.size ≤ ((2 : Int32)).toNatClampNeg) := inb_of S16 ⟨by decide, by decide⟩
  refine OwnEnd.of (S' := T12.setTop (mkF m 20 #[.val (.ref b), .val (.int (2 : Int32)), .val (.int (3 : Int32)), .val (.ref t_1), .val (.int (2 : Int32))] [(.int c2), (.int (2 : Int32)), (.ref t_1)])) (fun _ kK => X12.caload hx (j := (2 : Int32)) (v := (.int c2)) Ar16.1 (State.isArrayOf_alike hZ.alike Ar16.2.1) Ar16.2.2 hin17 (Has.at H16 hin17 (rfl)) (g := (mkF m 19 #[.val (.ref b), .val (.int (2 : Int32)), .val (.int (3 : Int32)), .val (.ref t_1), .val (.int (2 : Int32))] [(.int (2 : Int32)), (.ref b), (.int (2 : Int32)), (.ref t_1)])) rfl rfl (hb hby d17_19) _ kK) ?_
  obtain ⟨_, _, ⟨T18, L18, k18, n18⟩, -, X18, ⟨Lc18, hQ18, l18, y18, z18⟩, st18⟩ := Jvm.LawKit.callS X12 hx (y := own_m15) hown (mvT hZ (own_w G 92 rfl)) (mvT hZ (own_w G 93 rfl)) (mvT hZ (own_w G 39 rfl)) (mvT hZ (own_w G 94 rfl)) (by decide) (backOf (W := 0) (rmpu2 l Z a0 G [] t_1 kb_1 (6 : Int32) [(.int (StrChars.lo8 c0)), (.int (StrChars.hi8 c0)), (.int (StrChars.lo8 c1)), (.int (StrChars.hi8 c1)), (.int (0 : Int32)), (.int (0 : Int32))] (.int (0 : Int32)) c2 T12.heap n0 O13 V14 (by decide : (4 : Int32) < (6 : Int32)) (by decide : (5 : Int32) < (6 : Int32)) (Nat.le_of_ble_eq_true rfl : 5 < [(.int (StrChars.lo8 c0)), (.int (StrChars.hi8 c0)), (.int (StrChars.lo8 c1)), (.int (StrChars.hi8 c1)), (.int (0 : Int32)), (.int (0 : Int32))].length) (by omega)) hZ (own_w G 94 rfl) (own_w G 39 rfl) (by decide) (by decide)) (g := (mkF m 20 #[.val (.ref b), .val (.int (2 : Int32)), .val (.int (3 : Int32)), .val (.ref t_1), .val (.int (2 : Int32))] [(.int c2), (.int (2 : Int32)), (.ref t_1)])) rfl (by rw [hml]; rfl) (argsL := [(.ref t_1), (.int (2 : Int32)), (.int c2)]) (rest := []) (lenOf pd_10 rfl) rfl (by show 2 * 0 + _ ≤ _; exact Nat.le_of_eq rfl) (hb hby d17_20) (fun _ _ => ⟨rfl, rfl, (by decide : 1 + 0 ≤ _), (by decide : 6 + 0 ≤ _)⟩)
  dsimp only [Pt.U, Pt.locs, Pt.cells, Pt.slots] at X18 l18 y18 z18 st18 hQ18
  subst l18 y18 z18
  obtain ⟨rfl, N18q, Kq18, r18_0⟩ := hQ18
  have N18 := Fr.app N12 N18q
  have sz19 := Kq18.1
  have K19 := K13.trans Kq18 (own_all1 (Or.inr (by omega)))
  have O19 := O13.keep Kq18 (own_all1 (by omega))
  have ltr18_0 := own_ltN' r18_0.lt
  refine OwnEnd.of (S' := T18.setTop (mkF m 23 #[.val (.ref b), .val (.int (2 : Int32)), .val (.int (3 : Int32)), .val (.ref t_1), .val (.int (2 : Int32))] [])) st18 ?_
  have V20 : Arv Z T18.heap t_1 kb_1 .byte (6 : Int32) [(.int (StrChars.lo8 c0)), (.int (StrChars.hi8 c0)), (.int (StrChars.lo8 c1)), (.int (StrChars.hi8 c1)), (.int (StrChars.lo8 c2)), (.int (StrChars.hi8 c2))] (.int (0 : Int32)) := by have q := r18_0; exact q
  refine OwnEnd.of (S' := T18.setTop (mkF m 33 #[.val (.ref b), .val (.int (3 : Int32)), .val (.int (3 : Int32)), .val (.ref t_1), .val (.int (3 : Int32))] [(.ref t_1)])) (fun _ kK => XS.iinc X18.here hx rfl (hb hby d17_23) rfl (l' := #[.val (.ref b), .val (.int (3 : Int32)), .val (.int (3 : Int32)), .val (.ref t_1), .val (.int (2 : Int32))]) rfl (XS.iinc X18.here hx rfl (hb hby d17_26) rfl (l' := #[.val (.ref b), .val (.int (3 : Int32)), .val (.int (3 : Int32)), .val (.ref t_1), .val (.int (3 : Int32))]) rfl (XS.goto X18.here hx rfl (pc0 := 29) (pc' := 8) rfl (hb hby d17_29) (by decide) (by decide) (XS.iload X18.here hx rfl (hb hby d17_8) rfl (XS.iloadN X18.here hx rfl (hb hby d17_10) rfl (XS.icmpYes X18.here hx rfl (pc0 := 11) (pc' := 32) rfl (hb hby d17_11) rfl (flt ((by decide : ¬ ((3 : Int32) < (3 : Int32))))).2.1 (by decide) (by decide) (XS.aloadN X18.here hx rfl (hb hby d17_32) rfl rfl kK))))))) ?_
  have V21 : Arv Z T18.heap t_1 kb_1 .byte (6 : Int32) (StrChars.Road.wideBytes [c0, c1, c2]) (.int (0 : Int32)) := by have q := V20; exact q
  refine OwnEnd.ret X18 (v := (some (.ref t_1))) (fun h => by rw [Bd.returns] at h; cases h) hlk (fun fs hr => retOut X18 hx Bd.returns rfl (Or.inr (Or.inr (Or.inr (Or.inr ⟨rfl, rfl, rfl⟩)))) (hb hby d17_33) hr) (by decide) (by decide) (Q := Qby3 Z b kC dC c0 c1 c2 h0 n0) rfl ?_
  exact ⟨t_1, kb_1, rfl, N18, K19, V21, (by omega)⟩

theorem own_efcv3 (m : MethodId) (b : Addr) (t : Addr) : entryFrame m #[(.ref b), (.int (0 : Int32)), (.ref t), (.int (0 : Int32)), (.int (3 : Int32))] 7 = mkF m 0 #[.val (.ref b), .val (.int (0 : Int32)), .val (.ref t), .val (.int (0 : Int32)), .val (.int (3 : Int32)), .unset, .unset] [] := by first | (simp [entryFrame, mkF, argsToLocals, Value.category]; done) | rfl
def Qcv3 (Z : State) (b : Addr) (t : Addr) (kC : ClassId) (dC : Value) (kb : ClassId) (c0 : Int32) (c1 : Int32) (c2 : Int32) (h0 : Heap) (n0 : Nat) (v : Option Value) (h : Heap) (L : List Loc) : Prop := v = some (.int (own_first [c0, c1, c2])) ∧ Fr n0 L ∧ Keep h0 h [t] ∧ (Arv Z h t kb .byte (3 : Int32) (own_cbs [c0, c1, c2]) (.int (0 : Int32)))
set_option maxRecDepth 65536 in
set_option maxHeartbeats 40000000 in
theorem rmcv3 (l : Launch) (Z : State) (a0 : Array Value) (G : OwnG Z a0) (ws : List Jvm.Cond) (b : Addr) (t : Addr) (kC : ClassId) (dC : Value) (kb : ClassId) (c0 : Int32) (c1 : Int32) (c2 : Int32) (h0 : Heap) (n0 : Nat) (O0 : Old Z n0 h0) (P0 : Arv Z h0 b kC .char (3 : Int32) [(.int c0), (.int c1), (.int c2)] dC) (P1 : Arv Z h0 t kb .byte (3 : Int32) [(.int (0 : Int32)), (.int (0 : Int32)), (.int (0 : Int32))] (.int (0 : Int32))) (P2 : n0 ≤ t) (P3 : b ≠ t) :
    MetFree l own_m18 (head1 (Jvm.Cond.code own_m18 jdk_52_method_21_code 7 (some .int) :: ws) ({ frames := 0, cells := 0, slots := 0, locals := 0 } : Room)) (fun a U => a = #[(.ref b), (.int (0 : Int32)), (.ref t), (.int (0 : Int32)), (.int (3 : Int32))] ∧ Z.Warmed39 U.vm ∧ U.heap = h0) (fun _ _ _ _ _ => True) (fun _ U o U' => ∃ v L, o = .returned v ∧ Qcv3 Z b t kC dC kb c0 c1 c2 h0 n0 v U'.heap L ∧ FrameEnd U o U' L ({ frames := 0, cells := 0, slots := 0, locals := 0 } : Room).cells ({ frames := 0, cells := 0, slots := 0, locals := 0 } : Room).slots) := by
  refine MetFree.of_bodySF (plainFor_of_name pn_3) hisR ?_
  intro p e s m args below meth cD s₁ Bd hml0 hP hK
  obtain ⟨rfl, hZ, hh⟩ := hP
  have hw := G.1
  have hx := Bd.exec
  have hby := Bd.bytes
  have hml : cD.maxLocals = 7 := hml0
  have hown : s.vm.findClass "java/lang/StringUTF16" = some m.cls := findClass_of_methodNamed Bd.named
  have hnm := (name_of_methodNamed Bd.named Bd.method).1
  have hlk := Bd.notSynchronized
  have X0 : Stand p l e ({ frames := 0, cells := 0, slots := 0, locals := 0 } : Room) s m #[(.ref b), (.int (0 : Int32)), (.ref t), (.int (0 : Int32)), (.int (3 : Int32))] below meth cD s₁ [] 0 0 := Stand.of_body Bd
  have e0 : s₁.heap = h0 := by rw [← hh, Bd.state]; rfl
  have lt0 := own_ltN' P0.lt
  have lt1 := own_ltN' P1.lt
  have nP3 := own_neN P3
  have K0 : Keep h0 h0 [t] := Keep.refl h0 _
  have Z0 := own_old_le O0
  have N0 := Fr.nil n0
  refine OwnEnd.start (g' := (mkF m 0 #[.val (.ref b), .val (.int (0 : Int32)), .val (.ref t), .val (.int (0 : Int32)), .val (.int (3 : Int32)), .unset, .unset] [])) (own_efcv3 m b t) ?_
  refine OwnEnd.of (S' := s₁.setTop (mkF m 12 #[.val (.ref b), .val (.int (0 : Int32)), .val (.ref t), .val (.int (0 : Int32)), .val (.int (3 : Int32)), .val (.int (0 : Int32)), .unset] [(.int (0 : Int32)), (.ref b)])) (fun _ kK => XS.iconst X0.here hx rfl (hb hby d18_0) (XS.istore X0.here hx rfl (hb hby d18_1) rfl (l' := #[.val (.ref b), .val (.int (0 : Int32)), .val (.ref t), .val (.int (0 : Int32)), .val (.int (3 : Int32)), .val (.int (0 : Int32)), .unset]) rfl (XS.iload X0.here hx rfl (hb hby d18_3) rfl (XS.iload X0.here hx rfl (hb hby d18_5) rfl (XS.icmpNo X0.here hx rfl (hb hby d18_7) rfl (tlt ((by decide : (0 : Int32) < (3 : Int32)))).2.1 (XS.aloadN X0.here hx rfl (hb hby d18_10) rfl rfl (XS.iloadN X0.here hx rfl (hb hby d18_11) rfl kK))))))) ?_
  obtain ⟨cl1, Ar1, q1, S1, N1', H1, G1⟩ := id P0
  have hin2 : ¬ ((0 : Int32) < 0 ∨ cl1.slots.size ≤ ((0 : Int32)).toNatClampNeg) := inb_of S1 ⟨by decide, by decide⟩
  refine OwnEnd.of (S' := s₁.setTop (mkF m 13 #[.val (.ref b), .val (.int (0 : Int32)), .val (.ref t), .val (.int (0 : Int32)), .val (.int (3 : Int32)), .val (.int (0 : Int32)), .unset] [(.int c0)])) (fun _ kK => X0.caload hx (j := (0 : Int32)) (v := (.int c0)) (by rw [e0]; exact Ar1.1) (State.isArrayOf_alike hZ.alike Ar1.2.1) Ar1.2.2 hin2 (Has.at H1 hin2 (rfl)) (g := (mkF m 12 #[.val (.ref b), .val (.int (0 : Int32)), .val (.ref t), .val (.int (0 : Int32)), .val (.int (3 : Int32)), .val (.int (0 : Int32)), .unset] [(.int (0 : Int32)), (.ref b)])) rfl rfl (hb hby d18_12) _ kK) ?_
  refine OwnEnd.of (S' := s₁.setTop (mkF m 20 #[.val (.ref b), .val (.int (0 : Int32)), .val (.ref t), .val (.int (0 : Int32)), .val (.int (3 : Int32)), .val (.int (0 : Int32)), .val (.int c0)] [(.int (255 : Int32)), (.int c0)])) (fun _ kK => XS.istore X0.here hx rfl (hb hby d18_13) rfl (l' := #[.val (.ref b), .val (.int (0 : Int32)), .val (.ref t), .val (.int (0 : Int32)), .val (.int (3 : Int32)), .val (.int (0 : Int32)), .val (.int c0)]) rfl (XS.iload X0.here hx rfl (hb hby d18_15) rfl (XS.sipush X0.here hx rfl (hb hby d18_17) kK))) ?_
  rcases Decidable.em ((255 : Int32) < c0) with hc3 | hc3
  · refine OwnEnd.of (S' := s₁.setTop (mkF m 25 #[.val (.ref b), .val (.int (0 : Int32)), .val (.ref t), .val (.int (0 : Int32)), .val (.int (3 : Int32)), .val (.int (0 : Int32)), .val (.int c0)] [(.int (0 : Int32))])) (fun _ kK => XS.icmpNo X0.here hx rfl (hb hby d18_20) rfl (tlt (hc3)).2.2.2 (XS.iload X0.here hx rfl (hb hby d18_23) rfl kK)) ?_
    have V4 : Arv Z h0 t kb .byte (3 : Int32) (own_cbs [c0, c1, c2]) (.int (0 : Int32)) := by have q := P1; simpa [own_cbs, hc3] using q
    refine OwnEnd.ret X0 (v := (some (.int (0 : Int32)))) (fun h => by rw [Bd.returns] at h; cases h) hlk (fun fs hr => retOut X0 hx Bd.returns rfl (Or.inl ⟨rfl, Or.inl rfl, _, rfl⟩) (hb hby d18_25) hr) (by decide) (by decide) (Q := Qcv3 Z b t kC dC kb c0 c1 c2 h0 n0) e0 ?_
    exact ⟨(by simp [own_first, hc3]), N0, K0, V4⟩
  · refine OwnEnd.of (S' := s₁.setTop (mkF m 31 #[.val (.ref b), .val (.int (0 : Int32)), .val (.ref t), .val (.int (0 : Int32)), .val (.int (3 : Int32)), .val (.int (0 : Int32)), .val (.int c0)] [(.int (nar .byte c0)), (.int (0 : Int32)), (.ref t)])) (fun _ kK => XS.icmpYes X0.here hx rfl (pc0 := 20) (pc' := 26) rfl (hb hby d18_20) rfl (flt (hc3)).2.2.2 (by decide) (by decide) (XS.aloadN X0.here hx rfl (hb hby d18_26) rfl rfl (XS.iloadN X0.here hx rfl (hb hby d18_27) rfl (XS.iload X0.here hx rfl (hb hby d18_28) rfl (XS.i2b X0.here hx rfl (hb hby d18_30) rfl kK))))) ?_
    obtain ⟨cl5, Ar5, q5, S5, N5', H5, G5⟩ := id P1
    have hin6 : ¬ ((0 : Int32) < 0 ∨ cl5.slots.size ≤ ((0 : Int32)).toNatClampNeg) := inb_of S5 ⟨by decide, by decide⟩
    obtain ⟨T6, h6, X6, e6, W6, st6⟩ := stB X0 hx hZ e0 Ar5 (j := (0 : Int32)) hin6 (g := (mkF m 31 #[.val (.ref b), .val (.int (0 : Int32)), .val (.ref t), .val (.int (0 : Int32)), .val (.int (3 : Int32)), .val (.int (0 : Int32)), .val (.int c0)] [(.int (nar .byte c0)), (.int (0 : Int32)), (.ref t)])) rfl rfl (hb hby d18_31)
    have N6 := Fr.snoc X6 N0 (by omega)
    have sz7 := own_wr_le W6
    have K7 := K0.wr W6 (Or.inl (by simp))
    have O7 := O0.wr W6 (by omega)
    have V6 : Arv Z h6 t kb .byte (3 : Int32) [(.int (nar .byte (nar .byte c0))), (.int (0 : Int32)), (.int (0 : Int32))] (.int (0 : Int32)) := Arv.set Ar5 q5 S5 N5' H5 G5 (fits_nar_byte _) W6 0 rfl (Nat.le_of_ble_eq_true rfl)
    refine OwnEnd.of (S' := T6.setTop (mkF m 32 #[.val (.ref b), .val (.int (0 : Int32)), .val (.ref t), .val (.int (0 : Int32)), .val (.int (3 : Int32)), .val (.int (0 : Int32)), .val (.int c0)] [])) st6 ?_
    refine OwnEnd.of (S' := T6.setTop (mkF m 12 #[.val (.ref b), .val (.int (1 : Int32)), .val (.ref t), .val (.int (1 : Int32)), .val (.int (3 : Int32)), .val (.int (1 : Int32)), .val (.int c0)] [(.int (1 : Int32)), (.ref b)])) (fun _ kK => XS.iinc X6.here hx rfl (hb hby d18_32) rfl (l' := #[.val (.ref b), .val (.int (1 : Int32)), .val (.ref t), .val (.int (0 : Int32)), .val (.int (3 : Int32)), .val (.int (0 : Int32)), .val (.int c0)]) rfl (XS.iinc X6.here hx rfl (hb hby d18_35) rfl (l' := #[.val (.ref b), .val (.int (1 : Int32)), .val (.ref t), .val (.int (1 : Int32)), .val (.int (3 : Int32)), .val (.int (0 : Int32)), .val (.int c0)]) rfl (XS.iinc X6.here hx rfl (hb hby d18_38) rfl (l' := #[.val (.ref b), .val (.int (1 : Int32)), .val (.ref t), .val (.int (1 : Int32)), .val (.int (3 : Int32)), .val (.int (1 : Int32)), .val (.int c0)]) rfl (XS.goto X6.here hx rfl (pc0 := 41) (pc' := 3) rfl (hb hby d18_41) (by decide) (by decide) (XS.iload X6.here hx rfl (hb hby d18_3) rfl (XS.iload X6.here hx rfl (hb hby d18_5) rfl (XS.icmpNo X6.here hx rfl (hb hby d18_7) rfl (tlt ((by decide : (1 : Int32) < (3 : Int32)))).2.1 (XS.aloadN X6.here hx rfl (hb hby d18_10) rfl rfl (XS.iloadN X6.here hx rfl (hb hby d18_11) rfl kK))))))))) ?_
    have f8 : Arv Z h6 b kC .char (3 : Int32) [(.int c0), (.int c1), (.int c2)] dC := (P0.other W6 (own_ne (by omega)))
    obtain ⟨cl9, Ar9, q9, S9, N9', H9, G9⟩ := id f8
    have hin10 : ¬ ((1 : Int32) < 0 ∨ cl9.slots.size ≤ ((1 : Int32)).toNatClampNeg) := inb_of S9 ⟨by decide, by decide⟩
    refine OwnEnd.of (S' := T6.setTop (mkF m 13 #[.val (.ref b), .val (.int (1 : Int32)), .val (.ref t), .val (.int (1 : Int32)), .val (.int (3 : Int32)), .val (.int (1 : Int32)), .val (.int c0)] [(.int c1)])) (fun _ kK => X6.caload hx (j := (1 : Int32)) (v := (.int c1)) (by rw [e6]; exact Ar9.1) (State.isArrayOf_alike hZ.alike Ar9.2.1) Ar9.2.2 hin10 (Has.at H9 hin10 (rfl)) (g := (mkF m 12 #[.val (.ref b), .val (.int (1 : Int32)), .val (.ref t), .val (.int (1 : Int32)), .val (.int (3 : Int32)), .val (.int (1 : Int32)), .val (.int c0)] [(.int (1 : Int32)), (.ref b)])) rfl rfl (hb hby d18_12) _ kK) ?_
    refine OwnEnd.of (S' := T6.setTop (mkF m 20 #[.val (.ref b), .val (.int (1 : Int32)), .val (.ref t), .val (.int (1 : Int32)), .val (.int (3 : Int32)), .val (.int (1 : Int32)), .val (.int c1)] [(.int (255 : Int32)), (.int c1)])) (fun _ kK => XS.istore X6.here hx rfl (hb hby d18_13) rfl (l' := #[.val (.ref b), .val (.int (1 : Int32)), .val (.ref t), .val (.int (1 : Int32)), .val (.int (3 : Int32)), .val (.int (1 : Int32)), .val (.int c1)]) rfl (XS.iload X6.here hx rfl (hb hby d18_15) rfl (XS.sipush X6.here hx rfl (hb hby d18_17) kK))) ?_
    rcases Decidable.em ((255 : Int32) < c1) with hc11 | hc11
    · refine OwnEnd.of (S' := T6.setTop (mkF m 25 #[.val (.ref b), .val (.int (1 : Int32)), .val (.ref t), .val (.int (1 : Int32)), .val (.int (3 : Int32)), .val (.int (1 : Int32)), .val (.int c1)] [(.int (1 : Int32))])) (fun _ kK => XS.icmpNo X6.here hx rfl (hb hby d18_20) rfl (tlt (hc11)).2.2.2 (XS.iload X6.here hx rfl (hb hby d18_23) rfl kK)) ?_
      have V12 : Arv Z h6 t kb .byte (3 : Int32) (own_cbs [c0, c1, c2]) (.int (0 : Int32)) := by have q := V6; simpa [own_cbs, hc3, hc11] using q
      refine OwnEnd.ret X6 (v := (some (.int (1 : Int32)))) (fun h => by rw [Bd.returns] at h; cases h) hlk (fun fs hr => retOut X6 hx Bd.returns rfl (Or.inl ⟨rfl, Or.inl rfl, _, rfl⟩) (hb hby d18_25) hr) (by decide) (by decide) (Q := Qcv3 Z b t kC dC kb c0 c1 c2 h0 n0) e6 ?_
      exact ⟨(by simp [own_first, hc3, hc11]), N6, K7, V12⟩
    · refine OwnEnd.of (S' := T6.setTop (mkF m 31 #[.val (.ref b), .val (.int (1 : Int32)), .val (.ref t), .val (.int (1 : Int32)), .val (.int (3 : Int32)), .val (.int (1 : Int32)), .val (.int c1)] [(.int (nar .byte c1)), (.int (1 : Int32)), (.ref t)])) (fun _ kK => XS.icmpYes X6.here hx rfl (pc0 := 20) (pc' := 26) rfl (hb hby d18_20) rfl (flt (hc11)).2.2.2 (by decide) (by decide) (XS.aloadN X6.here hx rfl (hb hby d18_26) rfl rfl (XS.iloadN X6.here hx rfl (hb hby d18_27) rfl (XS.iload X6.here hx rfl (hb hby d18_28) rfl (XS.i2b X6.here hx rfl (hb hby d18_30) rfl kK))))) ?_
      obtain ⟨cl13, Ar13, q13, S13, N13', H13, G13⟩ := id V6
      have hin14 : ¬ ((1 : Int32) < 0 ∨ cl13.slots.size ≤ ((1 : Int32)).toNatClampNeg) := inb_of S13 ⟨by decide, by decide⟩
      obtain ⟨T14, h14, X14, e14, W14, st14⟩ := stB X6 hx hZ e6 Ar13 (j := (1 : Int32)) hin14 (g := (mkF m 31 #[.val (.ref b), .val (.int (1 : Int32)), .val (.ref t), .val (.int (1 : Int32)), .val (.int (3 : Int32)), .val (.int (1 : Int32)), .val (.int c1)] [(.int (nar .byte c1)), (.int (1 : Int32)), (.ref t)])) rfl rfl (hb hby d18_31)
      have N14 := Fr.snoc X14 N6 (by omega)
      have sz15 := own_wr_le W14
      have K15 := K7.wr W14 (Or.inl (by simp))
      have O15 := O7.wr W14 (by omega)
      have V14 : Arv Z h14 t kb .byte (3 : Int32) [(.int (nar .byte (nar .byte c0))), (.int (nar .byte (nar .byte c1))), (.int (0 : Int32))] (.int (0 : Int32)) := Arv.set Ar13 q13 S13 N13' H13 G13 (fits_nar_byte _) W14 1 rfl (Nat.le_of_ble_eq_true rfl)
      refine OwnEnd.of (S' := T14.setTop (mkF m 32 #[.val (.ref b), .val (.int (1 : Int32)), .val (.ref t), .val (.int (1 : Int32)), .val (.int (3 : Int32)), .val (.int (1 : Int32)), .val (.int c1)] [])) st14 ?_
      refine OwnEnd.of (S' := T14.setTop (mkF m 12 #[.val (.ref b), .val (.int (2 : Int32)), .val (.ref t), .val (.int (2 : Int32)), .val (.int (3 : Int32)), .val (.int (2 : Int32)), .val (.int c1)] [(.int (2 : Int32)), (.ref b)])) (fun _ kK => XS.iinc X14.here hx rfl (hb hby d18_32) rfl (l' := #[.val (.ref b), .val (.int (2 : Int32)), .val (.ref t), .val (.int (1 : Int32)), .val (.int (3 : Int32)), .val (.int (1 : Int32)), .val (.int c1)]) rfl (XS.iinc X14.here hx rfl (hb hby d18_35) rfl (l' := #[.val (.ref b), .val (.int (2 : Int32)), .val (.ref t), .val (.int (2 : Int32)), .val (.int (3 : Int32)), .val (.int (1 : Int32)), .val (.int c1)]) rfl (XS.iinc X14.here hx rfl (hb hby d18_38) rfl (l' := #[.val (.ref b), .val (.int (2 : Int32)), .val (.ref t), .val (.int (2 : Int32)), .val (.int (3 : Int32)), .val (.int (2 : Int32)), .val (.int c1)]) rfl (XS.goto X14.here hx rfl (pc0 := 41) (pc' := 3) rfl (hb hby d18_41) (by decide) (by decide) (XS.iload X14.here hx rfl (hb hby d18_3) rfl (XS.iload X14.here hx rfl (hb hby d18_5) rfl (XS.icmpNo X14.here hx rfl (hb hby d18_7) rfl (tlt ((by decide : (2 : Int32) < (3 : Int32)))).2.1 (XS.aloadN X14.here hx rfl (hb hby d18_10) rfl rfl (XS.iloadN X14.here hx rfl (hb hby d18_11) rfl kK))))))))) ?_
      have f16 : Arv Z h14 b kC .char (3 : Int32) [(.int c0), (.int c1), (.int c2)] dC := (f8.other W14 (own_ne (by omega)))
      obtain ⟨cl17, Ar17, q17, S17, N17', H17, G17⟩ := id f16
      have hin18 : ¬ ((2 : Int32) < 0 ∨ cl17.slots.size ≤ ((2 : Int32)).toNatClampNeg) := inb_of S17 ⟨by decide, by decide⟩
      refine OwnEnd.of (S' := T14.setTop (mkF m 13 #[.val (.ref b), .val (.int (2 : Int32)), .val (.ref t), .val (.int (2 : Int32)), .val (.int (3 : Int32)), .val (.int (2 : Int32)), .val (.int c1)] [(.int c2)])) (fun _ kK => X14.caload hx (j := (2 : Int32)) (v := (.int c2)) (by rw [e14]; exact Ar17.1) (State.isArrayOf_alike hZ.alike Ar17.2.1) Ar17.2.2 hin18 (Has.at H17 hin18 (rfl)) (g := (mkF m 12 #[.val (.ref b), .val (.int (2 : Int32)), .val (.ref t), .val (.int (2 : Int32)), .val (.int (3 : Int32)), .val (.int (2 : Int32)), .val (.int c1)] [(.int (2 : Int32)), (.ref b)])) rfl rfl (hb hby d18_12) _ kK) ?_
      refine OwnEnd.of (S' := T14.setTop (mkF m 20 #[.val (.ref b), .val (.int (2 : Int32)), .val (.ref t), .val (.int (2 : Int32)), .val (.int (3 : Int32)), .val (.int (2 : Int32)), .val (.int c2)] [(.int (255 : Int32)), (.int c2)])) (fun _ kK => XS.istore X14.here hx rfl (hb hby d18_13) rfl (l' := #[.val (.ref b), .val (.int (2 : Int32)), .val (.ref t), .val (.int (2 : Int32)), .val (.int (3 : Int32)), .val (.int (2 : Int32)), .val (.int c2)]) rfl (XS.iload X14.here hx rfl (hb hby d18_15) rfl (XS.sipush X14.here hx rfl (hb hby d18_17) kK))) ?_
      rcases Decidable.em ((255 : Int32) < c2) with hc19 | hc19
      · refine OwnEnd.of (S' := T14.setTop (mkF m 25 #[.val (.ref b), .val (.int (2 : Int32)), .val (.ref t), .val (.int (2 : Int32)), .val (.int (3 : Int32)), .val (.int (2 : Int32)), .val (.int c2)] [(.int (2 : Int32))])) (fun _ kK => XS.icmpNo X14.here hx rfl (hb hby d18_20) rfl (tlt (hc19)).2.2.2 (XS.iload X14.here hx rfl (hb hby d18_23) rfl kK)) ?_
        have V20 : Arv Z h14 t kb .byte (3 : Int32) (own_cbs [c0, c1, c2]) (.int (0 : Int32)) := by have q := V14; simpa [own_cbs, hc3, hc11, hc19] using q
        refine OwnEnd.ret X14 (v := (some (.int (2 : Int32)))) (fun h => by rw [Bd.returns] at h; cases h) hlk (fun fs hr => retOut X14 hx Bd.returns rfl (Or.inl ⟨rfl, Or.inl rfl, _, rfl⟩) (hb hby d18_25) hr) (by decide) (by decide) (Q := Qcv3 Z b t kC dC kb c0 c1 c2 h0 n0) e14 ?_
        exact ⟨(by simp [own_first, hc3, hc11, hc19]), N14, K15, V20⟩
      · refine OwnEnd.of (S' := T14.setTop (mkF m 31 #[.val (.ref b), .val (.int (2 : Int32)), .val (.ref t), .val (.int (2 : Int32)), .val (.int (3 : Int32)), .val (.int (2 : Int32)), .val (.int c2)] [(.int (nar .byte c2)), (.int (2 : Int32)), (.ref t)])) (fun _ kK => XS.icmpYes X14.here hx rfl (pc0 := 20) (pc' := 26) rfl (hb hby d18_20) rfl (flt (hc19)).2.2.2 (by decide) (by decide) (XS.aloadN X14.here hx rfl (hb hby d18_26) rfl rfl (XS.iloadN X14.here hx rfl (hb hby d18_27) rfl (XS.iload X14.here hx rfl (hb hby d18_28) rfl (XS.i2b X14.here hx rfl (hb hby d18_30) rfl kK))))) ?_
        obtain ⟨cl21, Ar21, q21, S21, N21', H21, G21⟩ := id V14
        have hin22 : ¬ ((2 : Int32) < 0 ∨ cl21.slots.size ≤ ((2 : Int32)).toNatClampNeg) := inb_of S21 ⟨by decide, by decide⟩
        obtain ⟨T22, h22, X22, e22, W22, st22⟩ := stB X14 hx hZ e14 Ar21 (j := (2 : Int32)) hin22 (g := (mkF m 31 #[.val (.ref b), .val (.int (2 : Int32)), .val (.ref t), .val (.int (2 : Int32)), .val (.int (3 : Int32)), .val (.int (2 : Int32)), .val (.int c2)] [(.int (nar .byte c2)), (.int (2 : Int32)), (.ref t)])) rfl rfl (hb hby d18_31)
        have N22 := Fr.snoc X22 N14 (by omega)
        have sz23 := own_wr_le W22
        have K23 := K15.wr W22 (Or.inl (by simp))
        have O23 := O15.wr W22 (by omega)
        have V22 : Arv Z h22 t kb .byte (3 : Int32) [(.int (nar .byte (nar .byte c0))), (.int (nar .byte (nar .byte c1))), (.int (nar .byte (nar .byte c2)))] (.int (0 : Int32)) := Arv.set Ar21 q21 S21 N21' H21 G21 (fits_nar_byte _) W22 2 rfl (Nat.le_of_ble_eq_true rfl)
        refine OwnEnd.of (S' := T22.setTop (mkF m 32 #[.val (.ref b), .val (.int (2 : Int32)), .val (.ref t), .val (.int (2 : Int32)), .val (.int (3 : Int32)), .val (.int (2 : Int32)), .val (.int c2)] [])) st22 ?_
        refine OwnEnd.of (S' := T22.setTop (mkF m 46 #[.val (.ref b), .val (.int (3 : Int32)), .val (.ref t), .val (.int (3 : Int32)), .val (.int (3 : Int32)), .val (.int (3 : Int32)), .val (.int c2)] [(.int (3 : Int32))])) (fun _ kK => XS.iinc X22.here hx rfl (hb hby d18_32) rfl (l' := #[.val (.ref b), .val (.int (3 : Int32)), .val (.ref t), .val (.int (2 : Int32)), .val (.int (3 : Int32)), .val (.int (2 : Int32)), .val (.int c2)]) rfl (XS.iinc X22.here hx rfl (hb hby d18_35) rfl (l' := #[.val (.ref b), .val (.int (3 : Int32)), .val (.ref t), .val (.int (3 : Int32)), .val (.int (3 : Int32)), .val (.int (2 : Int32)), .val (.int c2)]) rfl (XS.iinc X22.here hx rfl (hb hby d18_38) rfl (l' := #[.val (.ref b), .val (.int (3 : Int32)), .val (.ref t), .val (.int (3 : Int32)), .val (.int (3 : Int32)), .val (.int (3 : Int32)), .val (.int c2)]) rfl (XS.goto X22.here hx rfl (pc0 := 41) (pc' := 3) rfl (hb hby d18_41) (by decide) (by decide) (XS.iload X22.here hx rfl (hb hby d18_3) rfl (XS.iload X22.here hx rfl (hb hby d18_5) rfl (XS.icmpYes X22.here hx rfl (pc0 := 7) (pc' := 44) rfl (hb hby d18_7) rfl (flt ((by decide : ¬ ((3 : Int32) < (3 : Int32))))).2.1 (by decide) (by decide) (XS.iload X22.here hx rfl (hb hby d18_44) rfl kK)))))))) ?_
        have V24 : Arv Z h22 t kb .byte (3 : Int32) (own_cbs [c0, c1, c2]) (.int (0 : Int32)) := by have q := V22; simpa [own_cbs, hc3, hc11, hc19] using q
        refine OwnEnd.ret X22 (v := (some (.int (3 : Int32)))) (fun h => by rw [Bd.returns] at h; cases h) hlk (fun fs hr => retOut X22 hx Bd.returns rfl (Or.inl ⟨rfl, Or.inl rfl, _, rfl⟩) (hb hby d18_46) hr) (by decide) (by decide) (Q := Qcv3 Z b t kC dC kb c0 c1 c2 h0 n0) e22 ?_
        exact ⟨(by simp [own_first, hc3, hc11, hc19]), N22, K23, V24⟩

theorem own_efcw3 (m : MethodId) (b : Addr) : entryFrame m #[(.ref b), (.int (0 : Int32)), (.int (3 : Int32))] 6 = mkF m 0 #[.val (.ref b), .val (.int (0 : Int32)), .val (.int (3 : Int32)), .unset, .unset, .unset] [] := by first | (simp [entryFrame, mkF, argsToLocals, Value.category]; done) | rfl
def Qcw3 (Z : State) (b : Addr) (kC : ClassId) (dC : Value) (c0 : Int32) (c1 : Int32) (c2 : Int32) (h0 : Heap) (n0 : Nat) (v : Option Value) (h : Heap) (L : List Loc) : Prop := ∃ (t : Addr) (kb : ClassId) (N : Int32) (vs : List Value) (cd : Int32), v = some (.ref t) ∧ Fr n0 L ∧ Keep h0 h [] ∧ (Arv Z h t kb .byte N vs (.int (0 : Int32))) ∧ (StrChars.Road.CodA [c0, c1, c2] cd N vs) ∧ (Array.size h0 ≤ t)
set_option maxRecDepth 65536 in
set_option maxHeartbeats 40000000 in
theorem rmcw3 (l : Launch) (Z : State) (a0 : Array Value) (G : OwnG Z a0) (ws : List Jvm.Cond) (b : Addr) (kC : ClassId) (dC : Value) (c0 : Int32) (c1 : Int32) (c2 : Int32) (h0 : Heap) (n0 : Nat) (O0 : Old Z n0 h0) (P0 : Arv Z h0 b kC .char (3 : Int32) [(.int c0), (.int c1), (.int c2)] dC) (P1 : ∀ c ∈ ([c0, c1, c2] : List Int32), ¬ c < (0 : Int32) ∧ ¬ (65535 : Int32) < c) :
    MetFree l own_m19 (head1 (Jvm.Cond.code own_m19 jdk_52_method_16_code 6 (some (.array .byte)) :: ws) ({ frames := 3, cells := 2, slots := 9, locals := 40 } : Room)) (fun a U => a = #[(.ref b), (.int (0 : Int32)), (.int (3 : Int32))] ∧ Z.Warmed39 U.vm ∧ U.heap = h0) (fun _ _ _ _ _ => True) (fun _ U o U' => ∃ v L, o = .returned v ∧ Qcw3 Z b kC dC c0 c1 c2 h0 n0 v U'.heap L ∧ FrameEnd U o U' L ({ frames := 3, cells := 2, slots := 9, locals := 40 } : Room).cells ({ frames := 3, cells := 2, slots := 9, locals := 40 } : Room).slots) := by
  refine MetFree.of_bodySF (plainFor_of_name pn_3) hisR ?_
  intro p e s m args below meth cD s₁ Bd hml0 hP hK
  obtain ⟨rfl, hZ, hh⟩ := hP
  have hw := G.1
  have hx := Bd.exec
  have hby := Bd.bytes
  have hml : cD.maxLocals = 6 := hml0
  have hown : s.vm.findClass "java/lang/StringUTF16" = some m.cls := findClass_of_methodNamed Bd.named
  have hnm := (name_of_methodNamed Bd.named Bd.method).1
  have hlk := Bd.notSynchronized
  have X0 : Stand p l e ({ frames := 3, cells := 2, slots := 9, locals := 40 } : Room) s m #[(.ref b), (.int (0 : Int32)), (.int (3 : Int32))] below meth cD s₁ [] 0 0 := Stand.of_body Bd
  have e0 : s₁.heap = h0 := by rw [← hh, Bd.state]; rfl
  have lt0 := own_ltN' P0.lt
  have K0 : Keep h0 h0 [] := Keep.refl h0 _
  have Z0 := own_old_le O0
  have N0 := Fr.nil n0
  refine OwnEnd.start (g' := (mkF m 0 #[.val (.ref b), .val (.int (0 : Int32)), .val (.int (3 : Int32)), .unset, .unset, .unset] [])) (own_efcw3 m b) ?_
  refine OwnEnd.of (S' := s₁.setTop (mkF m 1 #[.val (.ref b), .val (.int (0 : Int32)), .val (.int (3 : Int32)), .unset, .unset, .unset] [(.int (3 : Int32))])) (fun _ kK => XS.iloadN X0.here hx rfl (hb hby d19_0) rfl kK) ?_
  obtain ⟨T1, h1, k1, X1, e1, E1, A1, st1⟩ := newP X0 hx hZ (own_w G 20 rfl) e0 (g := (mkF m 1 #[.val (.ref b), .val (.int (0 : Int32)), .val (.int (3 : Int32)), .unset, .unset, .unset] [(.int (3 : Int32))])) rfl (hb hby d19_1) rfl (by decide) (cap := 3) (by decide) (by decide) (by decide) (by decide)
  obtain ⟨b1, g1⟩ : ∃ z, z = Array.size h0 := ⟨_, rfl⟩
  rw [← g1] at A1 st1
  have lt_b1 := own_ltN' A1.lt
  have sz2 := E1.1
  have K2 := K0.ext E1
  have O2 := O0.ext E1
  have V1 : Arv Z h1 b1 k1 .byte (3 : Int32) [(.int (0 : Int32)), (.int (0 : Int32)), (.int (0 : Int32))] (.int (0 : Int32)) := (Arv.new A1 (by decide)).pad (pad_rep [] (.int (0 : Int32)) 3)
  refine OwnEnd.of (S' := T1.setTop (mkF m 3 #[.val (.ref b), .val (.int (0 : Int32)), .val (.int (3 : Int32)), .unset, .unset, .unset] [(.ref b1)])) st1 ?_
  refine OwnEnd.of (S' := T1.setTop (mkF m 9 #[.val (.ref b), .val (.int (0 : Int32)), .val (.int (3 : Int32)), .val (.ref b1), .unset, .unset] [(.int (3 : Int32)), (.int (0 : Int32)), (.ref b1), (.int (0 : Int32)), (.ref b)])) (fun _ kK => XS.astoreN X1.here hx rfl (hb hby d19_3) rfl rfl (l' := #[.val (.ref b), .val (.int (0 : Int32)), .val (.int (3 : Int32)), .val (.ref b1), .unset, .unset]) rfl (XS.aloadN X1.here hx rfl (hb hby d19_4) rfl rfl (XS.iloadN X1.here hx rfl (hb hby d19_5) rfl (XS.aloadN X1.here hx rfl (hb hby d19_6) rfl rfl (XS.iconst X1.here hx rfl (hb hby d19_7) (XS.iloadN X1.here hx rfl (hb hby d19_8) rfl kK)))))) ?_
  have f3 : Arv Z h1 b kC .char (3 : Int32) [(.int c0), (.int c1), (.int c2)] dC := (P0.ext E1)
  obtain ⟨_, _, ⟨T4, L4, k4, n4⟩, -, X4, ⟨Lc4, hQ4, l4, y4, z4⟩, st4⟩ := Jvm.LawKit.callS X1 hx (y := own_m18) hown (mvT hZ (own_w G 41 rfl)) (mvT hZ (own_w G 42 rfl)) (mvT hZ (own_w G 39 rfl)) (mvT hZ (own_w G 43 rfl)) (by decide) (backOf (W := 0) (rmcv3 l Z a0 G [] b b1 kC dC k1 c0 c1 c2 h1 n0 O2 f3 V1 (by omega) (own_ne (by omega) : b ≠ b1)) hZ (own_w G 43 rfl) (own_w G 39 rfl) (by decide) (by decide)) (g := (mkF m 9 #[.val (.ref b), .val (.int (0 : Int32)), .val (.int (3 : Int32)), .val (.ref b1), .unset, .unset] [(.int (3 : Int32)), (.int (0 : Int32)), (.ref b1), (.int (0 : Int32)), (.ref b)])) rfl (by rw [hml]; rfl) (argsL := [(.ref b), (.int (0 : Int32)), (.ref b1), (.int (0 : Int32)), (.int (3 : Int32))]) (rest := []) (lenOf pd_11 rfl) rfl (by show 2 * 0 + _ ≤ _; exact Nat.le_of_eq rfl) (hb hby d19_9) (fun _ _ => ⟨rfl, e1, (by decide : 1 + 0 ≤ _), (by decide : 3 + 0 ≤ _)⟩)
  dsimp only [Pt.U, Pt.locs, Pt.cells, Pt.slots] at X4 l4 y4 z4 st4 hQ4
  subst l4 y4 z4
  obtain ⟨rfl, N4q, Kq4, r4_0⟩ := hQ4
  have N4 := Fr.app N0 N4q
  have sz5 := Kq4.1
  have K5 := K2.trans Kq4 (own_all1 (Or.inr (by omega)))
  have O5 := O2.keep Kq4 (own_all1 (by omega))
  have ltr4_0 := own_ltN' r4_0.lt
  refine OwnEnd.of (S' := T4.setTop (mkF m 12 #[.val (.ref b), .val (.int (0 : Int32)), .val (.int (3 : Int32)), .val (.ref b1), .unset, .unset] [(.int (own_first [c0, c1, c2]))])) st4 ?_
  rcases own_first3 c0 c1 c2 with hr | hr | hr | hr
  · rw [hr.1]
    refine OwnEnd.of (S' := T4.setTop (mkF m 23 #[.val (.ref b), .val (.int (0 : Int32)), .val (.int (3 : Int32)), .val (.ref b1), .val (.int (0 : Int32)), .unset] [(.int (3 : Int32)), (.int (0 : Int32)), (.ref b)])) (fun _ kK => XS.istore X4.here hx rfl (hb hby d19_12) rfl (l' := #[.val (.ref b), .val (.int (0 : Int32)), .val (.int (3 : Int32)), .val (.ref b1), .val (.int (0 : Int32)), .unset]) rfl (XS.iload X4.here hx rfl (hb hby d19_14) rfl (XS.iloadN X4.here hx rfl (hb hby d19_16) rfl (XS.icmpNo X4.here hx rfl (hb hby d19_17) rfl (feq ((by decide : ¬ ((0 : Int32) = (3 : Int32))))).1 (XS.aloadN X4.here hx rfl (hb hby d19_20) rfl rfl (XS.iloadN X4.here hx rfl (hb hby d19_21) rfl (XS.iloadN X4.here hx rfl (hb hby d19_22) rfl kK))))))) ?_
    have f6 : Arv Z T4.heap b kC .char (3 : Int32) [(.int c0), (.int c1), (.int c2)] dC := (f3.keep Kq4 (own_nin1 (own_ne (by omega))))
    obtain ⟨_, _, ⟨T7, L7, k7, n7⟩, -, X7, ⟨Lc7, hQ7, l7, y7, z7⟩, st7⟩ := Jvm.LawKit.callS X4 hx (y := own_m17) hown (mvT hZ (own_w G 82 rfl)) (mvT hZ (own_w G 83 rfl)) (mvT hZ (own_w G 39 rfl)) (mvT hZ (own_w G 84 rfl)) (by decide) (backOf (W := 0) (rmby3 l Z a0 G [] b kC dC c0 c1 c2 T4.heap n0 O5 f6) hZ (own_w G 84 rfl) (own_w G 39 rfl) (by decide) (by decide)) (g := (mkF m 23 #[.val (.ref b), .val (.int (0 : Int32)), .val (.int (3 : Int32)), .val (.ref b1), .val (.int (0 : Int32)), .unset] [(.int (3 : Int32)), (.int (0 : Int32)), (.ref b)])) rfl (by rw [hml]; rfl) (argsL := [(.ref b), (.int (0 : Int32)), (.int (3 : Int32))]) (rest := []) (lenOf pd_12 rfl) rfl (by show 2 * 0 + _ ≤ _; exact Nat.le_of_eq rfl) (hb hby d19_23) (fun _ _ => ⟨rfl, rfl, (by decide : 1 + 1 ≤ _), (by decide : 3 + 6 ≤ _)⟩)
    dsimp only [Pt.U, Pt.locs, Pt.cells, Pt.slots] at X7 l7 y7 z7 st7 hQ7
    subst l7 y7 z7
    obtain ⟨t_7, kb_7, rfl, N7q, Kq7, r7_0, r7_1⟩ := hQ7
    have N7 := Fr.app N4 N7q
    have sz8 := Kq7.1
    have K8 := K5.trans Kq7 (own_all0 )
    have O8 := O5.keep Kq7 (own_all0 )
    have ltr7_0 := own_ltN' r7_0.lt
    refine OwnEnd.of (S' := T7.setTop (mkF m 26 #[.val (.ref b), .val (.int (0 : Int32)), .val (.int (3 : Int32)), .val (.ref b1), .val (.int (0 : Int32)), .unset] [(.ref t_7)])) st7 ?_
    refine OwnEnd.of (S' := T7.setTop (mkF m 32 #[.val (.ref b), .val (.int (0 : Int32)), .val (.int (3 : Int32)), .val (.ref b1), .val (.int (0 : Int32)), .val (.ref t_7)] [(.int (0 : Int32)), (.ref t_7)])) (fun _ kK => XS.astore X7.here hx rfl (hb hby d19_26) rfl rfl (l' := #[.val (.ref b), .val (.int (0 : Int32)), .val (.int (3 : Int32)), .val (.ref b1), .val (.int (0 : Int32)), .val (.ref t_7)]) rfl (XS.aload X7.here hx rfl (hb hby d19_28) rfl rfl (XS.iload X7.here hx rfl (hb hby d19_30) rfl kK))) ?_
    obtain ⟨_, _, ⟨T9, L9, k9, n9⟩, -, X9, ⟨Lc9, hQ9, l9, y9, z9⟩, st9⟩ := Jvm.LawKit.callS X7 hx (y := own_m11) hown (mvT hZ (own_w G 98 rfl)) (mvT hZ (own_w G 99 rfl)) (mvT hZ (own_w G 39 rfl)) (mvT hZ (own_w G 100 rfl)) (by decide) (backOf (W := 0) (rmgc l Z a0 G [] t_7 kb_7 (6 : Int32) (StrChars.Road.wideBytes [c0, c1, c2]) (.int (0 : Int32)) (0 : Int32) (0 : Int32) c0 T7.heap n0 O8 r7_0 (by decide : (0 : Int32) <<< ((1 : Int32) &&& 31) = (0 : Int32)) (by decide : ¬ (0 : Int32) < (0 : Int32)) (by decide : (0 : Int32) < (6 : Int32)) (by decide : ¬ ((0 : Int32) + (1 : Int32)) < (0 : Int32)) (by decide : ((0 : Int32) + (1 : Int32)) < (6 : Int32)) (by rfl : (StrChars.Road.wideBytes [c0, c1, c2]).getD (0 : Int32).toNatClampNeg (.int (0 : Int32)) = (.int (StrChars.lo8 c0))) (by rfl : (StrChars.Road.wideBytes [c0, c1, c2]).getD ((0 : Int32) + (1 : Int32)).toNatClampNeg (.int (0 : Int32)) = (.int (StrChars.hi8 c0))) (P1 c0 (by simp))) hZ (own_w G 100 rfl) (own_w G 39 rfl) (by decide) (by decide)) (g := (mkF m 32 #[.val (.ref b), .val (.int (0 : Int32)), .val (.int (3 : Int32)), .val (.ref b1), .val (.int (0 : Int32)), .val (.ref t_7)] [(.int (0 : Int32)), (.ref t_7)])) rfl (by rw [hml]; rfl) (argsL := [(.ref t_7), (.int (0 : Int32))]) (rest := []) (lenOf pd_6 rfl) rfl (by show 2 * 0 + _ ≤ _; exact Nat.le_of_eq rfl) (hb hby d19_32) (fun _ _ => ⟨rfl, rfl, (by decide : 2 + 0 ≤ _), (by decide : 9 + 0 ≤ _)⟩)
    dsimp only [Pt.U, Pt.locs, Pt.cells, Pt.slots] at X9 l9 y9 z9 st9 hQ9
    subst l9 y9 z9
    obtain ⟨rfl, N9q, eh9⟩ := hQ9
    have N9 := Fr.app N7 N9q
    refine OwnEnd.of (S' := T9.setTop (mkF m 35 #[.val (.ref b), .val (.int (0 : Int32)), .val (.int (3 : Int32)), .val (.ref b1), .val (.int (0 : Int32)), .val (.ref t_7)] [(.int c0)])) st9 ?_
    refine OwnEnd.of (S' := T9.setTop (mkF m 56 #[.val (.ref b), .val (.int (0 : Int32)), .val (.int (3 : Int32)), .val (.ref b1), .val (.int (0 : Int32)), .val (.ref t_7)] [(.ref t_7)])) (fun _ kK => XS.sipush X9.here hx rfl (hb hby d19_35) (XS.icmpYes X9.here hx rfl (pc0 := 38) (pc' := 54) rfl (hb hby d19_38) rfl (tlt (hr.2)).2.2.1 (by decide) (by decide) (XS.aload X9.here hx rfl (hb hby d19_54) rfl rfl kK))) ?_
    refine OwnEnd.ret X9 (v := (some (.ref t_7))) (fun h => by rw [Bd.returns] at h; cases h) hlk (fun fs hr => retOut X9 hx Bd.returns rfl (Or.inr (Or.inr (Or.inr (Or.inr ⟨rfl, rfl, rfl⟩)))) (hb hby d19_56) hr) (by decide) (by decide) (Q := Qcw3 Z b kC dC c0 c1 c2 h0 n0) eh9 ?_
    exact ⟨t_7, kb_7, (6 : Int32), (StrChars.Road.wideBytes [c0, c1, c2]), (1 : Int32), rfl, N9, K8, r7_0, (Or.inr ⟨rfl, rfl, rfl, c0, by simp, hr.2⟩), (by omega)⟩
  · rw [hr.1]
    refine OwnEnd.of (S' := T4.setTop (mkF m 23 #[.val (.ref b), .val (.int (0 : Int32)), .val (.int (3 : Int32)), .val (.ref b1), .val (.int (1 : Int32)), .unset] [(.int (3 : Int32)), (.int (0 : Int32)), (.ref b)])) (fun _ kK => XS.istore X4.here hx rfl (hb hby d19_12) rfl (l' := #[.val (.ref b), .val (.int (0 : Int32)), .val (.int (3 : Int32)), .val (.ref b1), .val (.int (1 : Int32)), .unset]) rfl (XS.iload X4.here hx rfl (hb hby d19_14) rfl (XS.iloadN X4.here hx rfl (hb hby d19_16) rfl (XS.icmpNo X4.here hx rfl (hb hby d19_17) rfl (feq ((by decide : ¬ ((1 : Int32) = (3 : Int32))))).1 (XS.aloadN X4.here hx rfl (hb hby d19_20) rfl rfl (XS.iloadN X4.here hx rfl (hb hby d19_21) rfl (XS.iloadN X4.here hx rfl (hb hby d19_22) rfl kK))))))) ?_
    have f10 : Arv Z T4.heap b kC .char (3 : Int32) [(.int c0), (.int c1), (.int c2)] dC := (f3.keep Kq4 (own_nin1 (own_ne (by omega))))
    obtain ⟨_, _, ⟨T11, L11, k11, n11⟩, -, X11, ⟨Lc11, hQ11, l11, y11, z11⟩, st11⟩ := Jvm.LawKit.callS X4 hx (y := own_m17) hown (mvT hZ (own_w G 82 rfl)) (mvT hZ (own_w G 83 rfl)) (mvT hZ (own_w G 39 rfl)) (mvT hZ (own_w G 84 rfl)) (by decide) (backOf (W := 0) (rmby3 l Z a0 G [] b kC dC c0 c1 c2 T4.heap n0 O5 f10) hZ (own_w G 84 rfl) (own_w G 39 rfl) (by decide) (by decide)) (g := (mkF m 23 #[.val (.ref b), .val (.int (0 : Int32)), .val (.int (3 : Int32)), .val (.ref b1), .val (.int (1 : Int32)), .unset] [(.int (3 : Int32)), (.int (0 : Int32)), (.ref b)])) rfl (by rw [hml]; rfl) (argsL := [(.ref b), (.int (0 : Int32)), (.int (3 : Int32))]) (rest := []) (lenOf pd_12 rfl) rfl (by show 2 * 0 + _ ≤ _; exact Nat.le_of_eq rfl) (hb hby d19_23) (fun _ _ => ⟨rfl, rfl, (by decide : 1 + 1 ≤ _), (by decide : 3 + 6 ≤ _)⟩)
    dsimp only [Pt.U, Pt.locs, Pt.cells, Pt.slots] at X11 l11 y11 z11 st11 hQ11
    subst l11 y11 z11
    obtain ⟨t_11, kb_11, rfl, N11q, Kq11, r11_0, r11_1⟩ := hQ11
    have N11 := Fr.app N4 N11q
    have sz12 := Kq11.1
    have K12 := K5.trans Kq11 (own_all0 )
    have O12 := O5.keep Kq11 (own_all0 )
    have ltr11_0 := own_ltN' r11_0.lt
    refine OwnEnd.of (S' := T11.setTop (mkF m 26 #[.val (.ref b), .val (.int (0 : Int32)), .val (.int (3 : Int32)), .val (.ref b1), .val (.int (1 : Int32)), .unset] [(.ref t_11)])) st11 ?_
    refine OwnEnd.of (S' := T11.setTop (mkF m 32 #[.val (.ref b), .val (.int (0 : Int32)), .val (.int (3 : Int32)), .val (.ref b1), .val (.int (1 : Int32)), .val (.ref t_11)] [(.int (1 : Int32)), (.ref t_11)])) (fun _ kK => XS.astore X11.here hx rfl (hb hby d19_26) rfl rfl (l' := #[.val (.ref b), .val (.int (0 : Int32)), .val (.int (3 : Int32)), .val (.ref b1), .val (.int (1 : Int32)), .val (.ref t_11)]) rfl (XS.aload X11.here hx rfl (hb hby d19_28) rfl rfl (XS.iload X11.here hx rfl (hb hby d19_30) rfl kK))) ?_
    obtain ⟨_, _, ⟨T13, L13, k13, n13⟩, -, X13, ⟨Lc13, hQ13, l13, y13, z13⟩, st13⟩ := Jvm.LawKit.callS X11 hx (y := own_m11) hown (mvT hZ (own_w G 98 rfl)) (mvT hZ (own_w G 99 rfl)) (mvT hZ (own_w G 39 rfl)) (mvT hZ (own_w G 100 rfl)) (by decide) (backOf (W := 0) (rmgc l Z a0 G [] t_11 kb_11 (6 : Int32) (StrChars.Road.wideBytes [c0, c1, c2]) (.int (0 : Int32)) (1 : Int32) (2 : Int32) c1 T11.heap n0 O12 r11_0 (by decide : (1 : Int32) <<< ((1 : Int32) &&& 31) = (2 : Int32)) (by decide : ¬ (2 : Int32) < (0 : Int32)) (by decide : (2 : Int32) < (6 : Int32)) (by decide : ¬ ((2 : Int32) + (1 : Int32)) < (0 : Int32)) (by decide : ((2 : Int32) + (1 : Int32)) < (6 : Int32)) (by rfl : (StrChars.Road.wideBytes [c0, c1, c2]).getD (2 : Int32).toNatClampNeg (.int (0 : Int32)) = (.int (StrChars.lo8 c1))) (by rfl : (StrChars.Road.wideBytes [c0, c1, c2]).getD ((2 : Int32) + (1 : Int32)).toNatClampNeg (.int (0 : Int32)) = (.int (StrChars.hi8 c1))) (P1 c1 (by simp))) hZ (own_w G 100 rfl) (own_w G 39 rfl) (by decide) (by decide)) (g := (mkF m 32 #[.val (.ref b), .val (.int (0 : Int32)), .val (.int (3 : Int32)), .val (.ref b1), .val (.int (1 : Int32)), .val (.ref t_11)] [(.int (1 : Int32)), (.ref t_11)])) rfl (by rw [hml]; rfl) (argsL := [(.ref t_11), (.int (1 : Int32))]) (rest := []) (lenOf pd_6 rfl) rfl (by show 2 * 0 + _ ≤ _; exact Nat.le_of_eq rfl) (hb hby d19_32) (fun _ _ => ⟨rfl, rfl, (by decide : 2 + 0 ≤ _), (by decide : 9 + 0 ≤ _)⟩)
    dsimp only [Pt.U, Pt.locs, Pt.cells, Pt.slots] at X13 l13 y13 z13 st13 hQ13
    subst l13 y13 z13
    obtain ⟨rfl, N13q, eh13⟩ := hQ13
    have N13 := Fr.app N11 N13q
    refine OwnEnd.of (S' := T13.setTop (mkF m 35 #[.val (.ref b), .val (.int (0 : Int32)), .val (.int (3 : Int32)), .val (.ref b1), .val (.int (1 : Int32)), .val (.ref t_11)] [(.int c1)])) st13 ?_
    refine OwnEnd.of (S' := T13.setTop (mkF m 56 #[.val (.ref b), .val (.int (0 : Int32)), .val (.int (3 : Int32)), .val (.ref b1), .val (.int (1 : Int32)), .val (.ref t_11)] [(.ref t_11)])) (fun _ kK => XS.sipush X13.here hx rfl (hb hby d19_35) (XS.icmpYes X13.here hx rfl (pc0 := 38) (pc' := 54) rfl (hb hby d19_38) rfl (tlt (hr.2)).2.2.1 (by decide) (by decide) (XS.aload X13.here hx rfl (hb hby d19_54) rfl rfl kK))) ?_
    refine OwnEnd.ret X13 (v := (some (.ref t_11))) (fun h => by rw [Bd.returns] at h; cases h) hlk (fun fs hr => retOut X13 hx Bd.returns rfl (Or.inr (Or.inr (Or.inr (Or.inr ⟨rfl, rfl, rfl⟩)))) (hb hby d19_56) hr) (by decide) (by decide) (Q := Qcw3 Z b kC dC c0 c1 c2 h0 n0) eh13 ?_
    exact ⟨t_11, kb_11, (6 : Int32), (StrChars.Road.wideBytes [c0, c1, c2]), (1 : Int32), rfl, N13, K12, r11_0, (Or.inr ⟨rfl, rfl, rfl, c1, by simp, hr.2⟩), (by omega)⟩
  · rw [hr.1]
    refine OwnEnd.of (S' := T4.setTop (mkF m 23 #[.val (.ref b), .val (.int (0 : Int32)), .val (.int (3 : Int32)), .val (.ref b1), .val (.int (2 : Int32)), .unset] [(.int (3 : Int32)), (.int (0 : Int32)), (.ref b)])) (fun _ kK => XS.istore X4.here hx rfl (hb hby d19_12) rfl (l' := #[.val (.ref b), .val (.int (0 : Int32)), .val (.int (3 : Int32)), .val (.ref b1), .val (.int (2 : Int32)), .unset]) rfl (XS.iload X4.here hx rfl (hb hby d19_14) rfl (XS.iloadN X4.here hx rfl (hb hby d19_16) rfl (XS.icmpNo X4.here hx rfl (hb hby d19_17) rfl (feq ((by decide : ¬ ((2 : Int32) = (3 : Int32))))).1 (XS.aloadN X4.here hx rfl (hb hby d19_20) rfl rfl (XS.iloadN X4.here hx rfl (hb hby d19_21) rfl (XS.iloadN X4.here hx rfl (hb hby d19_22) rfl kK))))))) ?_
    have f14 : Arv Z T4.heap b kC .char (3 : Int32) [(.int c0), (.int c1), (.int c2)] dC := (f3.keep Kq4 (own_nin1 (own_ne (by omega))))
    obtain ⟨_, _, ⟨T15, L15, k15, n15⟩, -, X15, ⟨Lc15, hQ15, l15, y15, z15⟩, st15⟩ := Jvm.LawKit.callS X4 hx (y := own_m17) hown (mvT hZ (own_w G 82 rfl)) (mvT hZ (own_w G 83 rfl)) (mvT hZ (own_w G 39 rfl)) (mvT hZ (own_w G 84 rfl)) (by decide) (backOf (W := 0) (rmby3 l Z a0 G [] b kC dC c0 c1 c2 T4.heap n0 O5 f14) hZ (own_w G 84 rfl) (own_w G 39 rfl) (by decide) (by decide)) (g := (mkF m 23 #[.val (.ref b), .val (.int (0 : Int32)), .val (.int (3 : Int32)), .val (.ref b1), .val (.int (2 : Int32)), .unset] [(.int (3 : Int32)), (.int (0 : Int32)), (.ref b)])) rfl (by rw [hml]; rfl) (argsL := [(.ref b), (.int (0 : Int32)), (.int (3 : Int32))]) (rest := []) (lenOf pd_12 rfl) rfl (by show 2 * 0 + _ ≤ _; exact Nat.le_of_eq rfl) (hb hby d19_23) (fun _ _ => ⟨rfl, rfl, (by decide : 1 + 1 ≤ _), (by decide : 3 + 6 ≤ _)⟩)
    dsimp only [Pt.U, Pt.locs, Pt.cells, Pt.slots] at X15 l15 y15 z15 st15 hQ15
    subst l15 y15 z15
    obtain ⟨t_15, kb_15, rfl, N15q, Kq15, r15_0, r15_1⟩ := hQ15
    have N15 := Fr.app N4 N15q
    have sz16 := Kq15.1
    have K16 := K5.trans Kq15 (own_all0 )
    have O16 := O5.keep Kq15 (own_all0 )
    have ltr15_0 := own_ltN' r15_0.lt
    refine OwnEnd.of (S' := T15.setTop (mkF m 26 #[.val (.ref b), .val (.int (0 : Int32)), .val (.int (3 : Int32)), .val (.ref b1), .val (.int (2 : Int32)), .unset] [(.ref t_15)])) st15 ?_
    refine OwnEnd.of (S' := T15.setTop (mkF m 32 #[.val (.ref b), .val (.int (0 : Int32)), .val (.int (3 : Int32)), .val (.ref b1), .val (.int (2 : Int32)), .val (.ref t_15)] [(.int (2 : Int32)), (.ref t_15)])) (fun _ kK => XS.astore X15.here hx rfl (hb hby d19_26) rfl rfl (l' := #[.val (.ref b), .val (.int (0 : Int32)), .val (.int (3 : Int32)), .val (.ref b1), .val (.int (2 : Int32)), .val (.ref t_15)]) rfl (XS.aload X15.here hx rfl (hb hby d19_28) rfl rfl (XS.iload X15.here hx rfl (hb hby d19_30) rfl kK))) ?_
    obtain ⟨_, _, ⟨T17, L17, k17, n17⟩, -, X17, ⟨Lc17, hQ17, l17, y17, z17⟩, st17⟩ := Jvm.LawKit.callS X15 hx (y := own_m11) hown (mvT hZ (own_w G 98 rfl)) (mvT hZ (own_w G 99 rfl)) (mvT hZ (own_w G 39 rfl)) (mvT hZ (own_w G 100 rfl)) (by decide) (backOf (W := 0) (rmgc l Z a0 G [] t_15 kb_15 (6 : Int32) (StrChars.Road.wideBytes [c0, c1, c2]) (.int (0 : Int32)) (2 : Int32) (4 : Int32) c2 T15.heap n0 O16 r15_0 (by decide : (2 : Int32) <<< ((1 : Int32) &&& 31) = (4 : Int32)) (by decide : ¬ (4 : Int32) < (0 : Int32)) (by decide : (4 : Int32) < (6 : Int32)) (by decide : ¬ ((4 : Int32) + (1 : Int32)) < (0 : Int32)) (by decide : ((4 : Int32) + (1 : Int32)) < (6 : Int32)) (by rfl : (StrChars.Road.wideBytes [c0, c1, c2]).getD (4 : Int32).toNatClampNeg (.int (0 : Int32)) = (.int (StrChars.lo8 c2))) (by rfl : (StrChars.Road.wideBytes [c0, c1, c2]).getD ((4 : Int32) + (1 : Int32)).toNatClampNeg (.int (0 : Int32)) = (.int (StrChars.hi8 c2))) (P1 c2 (by simp))) hZ (own_w G 100 rfl) (own_w G 39 rfl) (by decide) (by decide)) (g := (mkF m 32 #[.val (.ref b), .val (.int (0 : Int32)), .val (.int (3 : Int32)), .val (.ref b1), .val (.int (2 : Int32)), .val (.ref t_15)] [(.int (2 : Int32)), (.ref t_15)])) rfl (by rw [hml]; rfl) (argsL := [(.ref t_15), (.int (2 : Int32))]) (rest := []) (lenOf pd_6 rfl) rfl (by show 2 * 0 + _ ≤ _; exact Nat.le_of_eq rfl) (hb hby d19_32) (fun _ _ => ⟨rfl, rfl, (by decide : 2 + 0 ≤ _), (by decide : 9 + 0 ≤ _)⟩)
    dsimp only [Pt.U, Pt.locs, Pt.cells, Pt.slots] at X17 l17 y17 z17 st17 hQ17
    subst l17 y17 z17
    obtain ⟨rfl, N17q, eh17⟩ := hQ17
    have N17 := Fr.app N15 N17q
    refine OwnEnd.of (S' := T17.setTop (mkF m 35 #[.val (.ref b), .val (.int (0 : Int32)), .val (.int (3 : Int32)), .val (.ref b1), .val (.int (2 : Int32)), .val (.ref t_15)] [(.int c2)])) st17 ?_
    refine OwnEnd.of (S' := T17.setTop (mkF m 56 #[.val (.ref b), .val (.int (0 : Int32)), .val (.int (3 : Int32)), .val (.ref b1), .val (.int (2 : Int32)), .val (.ref t_15)] [(.ref t_15)])) (fun _ kK => XS.sipush X17.here hx rfl (hb hby d19_35) (XS.icmpYes X17.here hx rfl (pc0 := 38) (pc' := 54) rfl (hb hby d19_38) rfl (tlt (hr.2)).2.2.1 (by decide) (by decide) (XS.aload X17.here hx rfl (hb hby d19_54) rfl rfl kK))) ?_
    refine OwnEnd.ret X17 (v := (some (.ref t_15))) (fun h => by rw [Bd.returns] at h; cases h) hlk (fun fs hr => retOut X17 hx Bd.returns rfl (Or.inr (Or.inr (Or.inr (Or.inr ⟨rfl, rfl, rfl⟩)))) (hb hby d19_56) hr) (by decide) (by decide) (Q := Qcw3 Z b kC dC c0 c1 c2 h0 n0) eh17 ?_
    exact ⟨t_15, kb_15, (6 : Int32), (StrChars.Road.wideBytes [c0, c1, c2]), (1 : Int32), rfl, N17, K16, r15_0, (Or.inr ⟨rfl, rfl, rfl, c2, by simp, hr.2⟩), (by omega)⟩
  · rw [hr.1]
    have V18 : Arv Z T4.heap b1 k1 .byte (3 : Int32) (([c0, c1, c2] : List Int32).map fun c => Value.int (StrChars.lo8 c)) (.int (0 : Int32)) := by have q := r4_0; rw [hr.2.1] at q; exact q
    refine OwnEnd.of (S' := T4.setTop (mkF m 58 #[.val (.ref b), .val (.int (0 : Int32)), .val (.int (3 : Int32)), .val (.ref b1), .val (.int (3 : Int32)), .unset] [(.ref b1)])) (fun _ kK => XS.istore X4.here hx rfl (hb hby d19_12) rfl (l' := #[.val (.ref b), .val (.int (0 : Int32)), .val (.int (3 : Int32)), .val (.ref b1), .val (.int (3 : Int32)), .unset]) rfl (XS.iload X4.here hx rfl (hb hby d19_14) rfl (XS.iloadN X4.here hx rfl (hb hby d19_16) rfl (XS.icmpYes X4.here hx rfl (pc0 := 17) (pc' := 57) rfl (hb hby d19_17) rfl (teq ((by decide : (3 : Int32) = (3 : Int32)))).1 (by decide) (by decide) (XS.aloadN X4.here hx rfl (hb hby d19_57) rfl rfl kK))))) ?_
    refine OwnEnd.ret X4 (v := (some (.ref b1))) (fun h => by rw [Bd.returns] at h; cases h) hlk (fun fs hr => retOut X4 hx Bd.returns rfl (Or.inr (Or.inr (Or.inr (Or.inr ⟨rfl, rfl, rfl⟩)))) (hb hby d19_58) hr) (by decide) (by decide) (Q := Qcw3 Z b kC dC c0 c1 c2 h0 n0) rfl ?_
    exact ⟨b1, k1, (3 : Int32), (([c0, c1, c2] : List Int32).map fun c => Value.int (StrChars.lo8 c)), (0 : Int32), rfl, N4, K5, V18, (Or.inl ⟨rfl, rfl, rfl, hr.2.2⟩), (by omega)⟩

theorem own_efcf3 (m : MethodId) (t : Addr) : entryFrame m #[(.ref t), (.int (3 : Int32))] 2 = mkF m 0 #[.val (.ref t), .val (.int (3 : Int32))] [] := by first | (simp [entryFrame, mkF, argsToLocals, Value.category]; done) | rfl
set_option maxRecDepth 65536 in
set_option maxHeartbeats 40000000 in
theorem rmcf3 (l : Launch) (Z : State) (a0 : Array Value) (G : OwnG Z a0) (ws : List Jvm.Cond) (t : Addr) (kb : ClassId) (N : Int32) (vs : List Value) (cd : Int32) (c0 : Int32) (c1 : Int32) (c2 : Int32) (h0 : Heap) (n0 : Nat) (O0 : Old Z n0 h0) (P0 : Arv Z h0 t kb .byte N vs (.int (0 : Int32))) (P1 : StrChars.Road.CodA [c0, c1, c2] cd N vs) :
    MetFree l own_m20 (head1 (Jvm.Cond.code own_m20 jdk_52_method_15_code 2 (some .byte) :: ws) ({ frames := 0, cells := 0, slots := 0, locals := 0 } : Room)) (fun a U => a = #[(.ref t), (.int (3 : Int32))] ∧ Z.Warmed39 U.vm ∧ U.heap = h0) (fun _ _ _ _ _ => True) (fun _ U o U' => ∃ v L, o = .returned v ∧ (own_Qint cd) h0 n0 v U'.heap L ∧ FrameEnd U o U' L ({ frames := 0, cells := 0, slots := 0, locals := 0 } : Room).cells ({ frames := 0, cells := 0, slots := 0, locals := 0 } : Room).slots) := by
  refine MetFree.of_bodySF (plainFor_of_name pn_3) hisR ?_
  intro p e s m args below meth cD s₁ Bd hml0 hP hK
  obtain ⟨rfl, hZ, hh⟩ := hP
  have hw := G.1
  have hx := Bd.exec
  have hby := Bd.bytes
  have hml : cD.maxLocals = 2 := hml0
  have hown : s.vm.findClass "java/lang/StringUTF16" = some m.cls := findClass_of_methodNamed Bd.named
  have hnm := (name_of_methodNamed Bd.named Bd.method).1
  have hlk := Bd.notSynchronized
  have X0 : Stand p l e ({ frames := 0, cells := 0, slots := 0, locals := 0 } : Room) s m #[(.ref t), (.int (3 : Int32))] below meth cD s₁ [] 0 0 := Stand.of_body Bd
  have e0 : s₁.heap = h0 := by rw [← hh, Bd.state]; rfl
  have lt0 := own_ltN' P0.lt
  have K0 : Keep h0 h0 [] := Keep.refl h0 _
  have Z0 := own_old_le O0
  have N0 := Fr.nil n0
  refine OwnEnd.start (g' := (mkF m 0 #[.val (.ref t), .val (.int (3 : Int32))] [])) (own_efcf3 m t) ?_
  rcases P1 with hxc | hxc
  · have V1 : Arv Z h0 t kb .byte (3 : Int32) (([c0, c1, c2] : List Int32).map fun c => Value.int (StrChars.lo8 c)) (.int (0 : Int32)) := by have q := P0; rw [hxc.2.1, hxc.2.2.1] at q; exact q
    refine OwnEnd.of (S' := s₁.setTop (mkF m 2 #[.val (.ref t), .val (.int (3 : Int32))] [(.ref t), (.int (3 : Int32))])) (fun _ kK => XS.iloadN X0.here hx rfl (hb hby d20_0) rfl (XS.aloadN X0.here hx rfl (hb hby d20_1) rfl rfl kK)) ?_
    obtain ⟨cl2, Ar2, q2, S2, N2', H2, G2⟩ := id V1
    refine OwnEnd.of (S' := s₁.setTop (mkF m 3 #[.val (.ref t), .val (.int (3 : Int32))] [(.int (3 : Int32)), (.int (3 : Int32))])) (fun _ kK => X0.arraylength hx (by rw [e0]; exact Ar2.1) (State.isArrayOf_alike hZ.alike Ar2.2.1) (g := (mkF m 2 #[.val (.ref t), .val (.int (3 : Int32))] [(.ref t), (.int (3 : Int32))])) rfl rfl (hb hby d20_2) _ (by rw [len_of S2 N2']; exact kK)) ?_
    refine OwnEnd.of (S' := s₁.setTop (mkF m 8 #[.val (.ref t), .val (.int (3 : Int32))] [(.int (0 : Int32))])) (fun _ kK => XS.isub X0.here hx rfl (hb hby d20_3) rfl (XS.bipush X0.here hx rfl (hb hby d20_4) (XS.iushr X0.here hx rfl (hb hby d20_6) rfl (XS.i2b X0.here hx rfl (hb hby d20_7) rfl kK)))) ?_
    refine OwnEnd.ret X0 (v := (some (.int (nar .byte (0 : Int32))))) (fun h => by rw [Bd.returns] at h; cases h) hlk (fun fs hr => retN X0 hx (t := .byte) Bd.returns (by simp) (hb hby d20_8) hr) (by decide) (by decide) (Q := (own_Qint cd) h0 n0) e0 ?_
    exact ⟨(congrArg (fun z => some (Value.int z)) hxc.1.symm), N0, rfl⟩
  · have V3 : Arv Z h0 t kb .byte (6 : Int32) (StrChars.Road.wideBytes [c0, c1, c2]) (.int (0 : Int32)) := by have q := P0; rw [hxc.2.1, hxc.2.2.1] at q; exact q
    refine OwnEnd.of (S' := s₁.setTop (mkF m 2 #[.val (.ref t), .val (.int (3 : Int32))] [(.ref t), (.int (3 : Int32))])) (fun _ kK => XS.iloadN X0.here hx rfl (hb hby d20_0) rfl (XS.aloadN X0.here hx rfl (hb hby d20_1) rfl rfl kK)) ?_
    obtain ⟨cl4, Ar4, q4, S4, N4', H4, G4⟩ := id V3
    refine OwnEnd.of (S' := s₁.setTop (mkF m 3 #[.val (.ref t), .val (.int (3 : Int32))] [(.int (6 : Int32)), (.int (3 : Int32))])) (fun _ kK => X0.arraylength hx (by rw [e0]; exact Ar4.1) (State.isArrayOf_alike hZ.alike Ar4.2.1) (g := (mkF m 2 #[.val (.ref t), .val (.int (3 : Int32))] [(.ref t), (.int (3 : Int32))])) rfl rfl (hb hby d20_2) _ (by rw [len_of S4 N4']; exact kK)) ?_
    refine OwnEnd.of (S' := s₁.setTop (mkF m 8 #[.val (.ref t), .val (.int (3 : Int32))] [(.int (1 : Int32))])) (fun _ kK => XS.isub X0.here hx rfl (hb hby d20_3) rfl (XS.bipush X0.here hx rfl (hb hby d20_4) (XS.iushr X0.here hx rfl (hb hby d20_6) rfl (XS.i2b X0.here hx rfl (hb hby d20_7) rfl kK)))) ?_
    refine OwnEnd.ret X0 (v := (some (.int (nar .byte (1 : Int32))))) (fun h => by rw [Bd.returns] at h; cases h) hlk (fun fs hr => retN X0 hx (t := .byte) Bd.returns (by simp) (hb hby d20_8) hr) (by decide) (by decide) (Q := (own_Qint cd) h0 n0) e0 ?_
    exact ⟨(congrArg (fun z => some (Value.int z)) hxc.1.symm), N0, rfl⟩

theorem own_efnv3 (m : MethodId) (x0 : Addr) (b : Addr) : entryFrame m #[(.ref x0), (.ref b), (.int (0 : Int32)), (.int (3 : Int32)), .null] 6 = mkF m 0 #[.val (.ref x0), .val (.ref b), .val (.int (0 : Int32)), .val (.int (3 : Int32)), .val .null, .unset] [] := by first | (simp [entryFrame, mkF, argsToLocals, Value.category]; done) | rfl
def Qnv3 (Z : State) (x0 : Addr) (b : Addr) (v0 : Value) (c9 : Value) (kC : ClassId) (dC : Value) (c0 : Int32) (c1 : Int32) (c2 : Int32) (h0 : Heap) (n0 : Nat) (v : Option Value) (h : Heap) (L : List Loc) : Prop := ∃ (t : Addr) (kb : ClassId) (N : Int32) (vs : List Value) (cd : Int32), v = none ∧ Fr n0 L ∧ Keep h0 h [x0] ∧ (Exa Z h x0 "java/lang/String") ∧ (Fld Z h x0 "java/lang/String" "value" "[B" (.ref t)) ∧ (Fld Z h x0 "java/lang/String" "coder" "B" (.int cd)) ∧ (Arv Z h t kb .byte N vs (.int (0 : Int32))) ∧ (StrChars.Road.CodA [c0, c1, c2] cd N vs) ∧ (Array.size h0 ≤ t)
set_option maxRecDepth 65536 in
set_option maxHeartbeats 40000000 in
theorem rmnv3 (l : Launch) (Z : State) (a0 : Array Value) (G : OwnG Z a0) (ws : List Jvm.Cond) (x0 : Addr) (b : Addr) (v0 : Value) (c9 : Value) (kC : ClassId) (dC : Value) (c0 : Int32) (c1 : Int32) (c2 : Int32) (h0 : Heap) (n0 : Nat) (O0 : Old Z n0 h0) (P0 : Exa Z h0 x0 "java/lang/String") (P1 : Fld Z h0 x0 "java/lang/String" "value" "[B" v0) (P2 : Fld Z h0 x0 "java/lang/String" "coder" "B" c9) (P3 : n0 ≤ x0) (P4 : Arv Z h0 b kC .char (3 : Int32) [(.int c0), (.int c1), (.int c2)] dC) (P5 : ∀ c ∈ ([c0, c1, c2] : List Int32), ¬ c < (0 : Int32) ∧ ¬ (65535 : Int32) < c) (P6 : x0 ≠ b) :
    MetFree l own_m0 (head1 (Jvm.Cond.code own_m0 jdk_42_method_149_code 6 none :: ws) ({ frames := 4, cells := 2, slots := 9, locals := 57 } : Room)) (fun a U => a = #[(.ref x0), (.ref b), (.int (0 : Int32)), (.int (3 : Int32)), .null] ∧ Z.Warmed39 U.vm ∧ U.heap = h0) (fun _ _ _ _ _ => True) (fun _ U o U' => ∃ v L, o = .returned v ∧ Qnv3 Z x0 b v0 c9 kC dC c0 c1 c2 h0 n0 v U'.heap L ∧ FrameEnd U o U' L ({ frames := 4, cells := 2, slots := 9, locals := 57 } : Room).cells ({ frames := 4, cells := 2, slots := 9, locals := 57 } : Room).slots) := by
  refine MetFree.of_bodySF (plainFor_of_name pn_0) hisR ?_
  intro p e s m args below meth cD s₁ Bd hml0 hP hK
  obtain ⟨rfl, hZ, hh⟩ := hP
  have hw := G.1
  have hx := Bd.exec
  have hby := Bd.bytes
  have hml : cD.maxLocals = 6 := hml0
  have hown : s.vm.findClass "java/lang/String" = some m.cls := findClass_of_methodNamed Bd.named
  have hnm := (name_of_methodNamed Bd.named Bd.method).1
  have hlk := Bd.notSynchronized
  have X0 : Stand p l e ({ frames := 4, cells := 2, slots := 9, locals := 57 } : Room) s m #[(.ref x0), (.ref b), (.int (0 : Int32)), (.int (3 : Int32)), .null] below meth cD s₁ [] 0 0 := Stand.of_body Bd
  have e0 : s₁.heap = h0 := by rw [← hh, Bd.state]; rfl
  have lt0 := own_ltN' P0.lt
  have lt1 := own_ltN' P1.lt
  have lt2 := own_ltN' P2.lt
  have lt4 := own_ltN' P4.lt
  have nP6 := own_neN P6
  have K0 : Keep h0 h0 [x0] := Keep.refl h0 _
  have Z0 := own_old_le O0
  have N0 := Fr.nil n0
  obtain ⟨zCS, SCS, PCS⟩ := own_cs G
  refine OwnEnd.start (g' := (mkF m 0 #[.val (.ref x0), .val (.ref b), .val (.int (0 : Int32)), .val (.int (3 : Int32)), .val .null, .unset] [])) (own_efnv3 m x0 b) ?_
  refine OwnEnd.of (S' := s₁.setTop (mkF m 1 #[.val (.ref x0), .val (.ref b), .val (.int (0 : Int32)), .val (.int (3 : Int32)), .val .null, .unset] [(.ref x0)])) (fun _ kK => XS.aloadN X0.here hx rfl (hb hby d0_0) rfl rfl kK) ?_
  obtain ⟨T1, X1, e1, st1⟩ := initO X0 hx hZ hown (own_w G 16 rfl) (own_w G 17 rfl) (own_w G 18 rfl) e0 (g := (mkF m 1 #[.val (.ref x0), .val (.ref b), .val (.int (0 : Int32)), .val (.int (3 : Int32)), .val .null, .unset] [(.ref x0)])) rfl (by rw [hml]; rfl) rfl (hb hby d0_1) (by decide) (W := 0) (by show 2 * 0 + _ ≤ _; exact Nat.le_of_eq rfl) (by decide)
  refine OwnEnd.of (S' := T1.setTop (mkF m 4 #[.val (.ref x0), .val (.ref b), .val (.int (0 : Int32)), .val (.int (3 : Int32)), .val .null, .unset] [])) st1 ?_
  refine OwnEnd.of (S' := T1.setTop (mkF m 27 #[.val (.ref x0), .val (.ref b), .val (.int (0 : Int32)), .val (.int (3 : Int32)), .val .null, .unset] [])) (fun _ kK => XS.iloadN X1.here hx rfl (hb hby d0_4) rfl (XS.ifYes X1.here hx rfl (pc0 := 5) (pc' := 27) rfl (hb hby d0_5) rfl ((if0 _ _).trans (feq ((by decide : ¬ ((3 : Int32) = (0 : Int32))))).2) (by decide) (by decide) kK)) ?_
  obtain ⟨T2, X2, e2, st2⟩ := getS2 X1 hx hZ hown (host := "") (Or.inl (own_w G 36 rfl)) Via.refl e1 (SCS.ext O0.2) (g := (mkF m 27 #[.val (.ref x0), .val (.ref b), .val (.int (0 : Int32)), .val (.int (3 : Int32)), .val .null, .unset] [])) rfl (hb hby d0_27)
  refine OwnEnd.of (S' := T2.setTop (mkF m 30 #[.val (.ref x0), .val (.ref b), .val (.int (0 : Int32)), .val (.int (3 : Int32)), .val .null, .unset] [(.int zCS)])) st2 ?_
  refine OwnEnd.of (S' := T2.setTop (mkF m 36 #[.val (.ref x0), .val (.ref b), .val (.int (0 : Int32)), .val (.int (3 : Int32)), .val .null, .unset] [(.int (3 : Int32)), (.int (0 : Int32)), (.ref b)])) (fun _ kK => XS.ifNo X2.here hx rfl (hb hby d0_30) rfl ((if0 _ _).trans (feq (PCS)).1) (XS.aloadN X2.here hx rfl (hb hby d0_33) rfl rfl (XS.iloadN X2.here hx rfl (hb hby d0_34) rfl (XS.iloadN X2.here hx rfl (hb hby d0_35) rfl kK)))) ?_
  obtain ⟨_, _, ⟨T3, L3, k3, n3⟩, -, X3, ⟨Lc3, hQ3, l3, y3, z3⟩, st3⟩ := Jvm.LawKit.callS X2 hx (y := own_m19) hown (mvT hZ (own_w G 37 rfl)) (mvT hZ (own_w G 38 rfl)) (mvT hZ (own_w G 39 rfl)) (mvT hZ (own_w G 40 rfl)) (by decide) (backOf (W := 0) (rmcw3 l Z a0 G [] b kC dC c0 c1 c2 h0 n0 O0 P4 P5) hZ (own_w G 40 rfl) (own_w G 39 rfl) (by decide) (by decide)) (g := (mkF m 36 #[.val (.ref x0), .val (.ref b), .val (.int (0 : Int32)), .val (.int (3 : Int32)), .val .null, .unset] [(.int (3 : Int32)), (.int (0 : Int32)), (.ref b)])) rfl (by rw [hml]; rfl) (argsL := [(.ref b), (.int (0 : Int32)), (.int (3 : Int32))]) (rest := []) (lenOf pd_12 rfl) rfl (by show 2 * 0 + _ ≤ _; exact Nat.le_of_eq rfl) (hb hby d0_36) (fun _ _ => ⟨rfl, e2, (by decide : 0 + 2 ≤ _), (by decide : 0 + 9 ≤ _)⟩)
  dsimp only [Pt.U, Pt.locs, Pt.cells, Pt.slots] at X3 l3 y3 z3 st3 hQ3
  subst l3 y3 z3
  obtain ⟨t_3, kb_3, N_3, vs_3, cd_3, rfl, N3q, Kq3, r3_0, r3_1, r3_2⟩ := hQ3
  have N3 := Fr.app N0 N3q
  have sz4 := Kq3.1
  have K4 := K0.trans Kq3 (own_all0 )
  have O4 := O0.keep Kq3 (own_all0 )
  have ltr3_0 := own_ltN' r3_0.lt
  refine OwnEnd.of (S' := T3.setTop (mkF m 39 #[.val (.ref x0), .val (.ref b), .val (.int (0 : Int32)), .val (.int (3 : Int32)), .val .null, .unset] [(.ref t_3)])) st3 ?_
  refine OwnEnd.of (S' := T3.setTop (mkF m 45 #[.val (.ref x0), .val (.ref b), .val (.int (0 : Int32)), .val (.int (3 : Int32)), .val .null, .val (.ref t_3)] [(.int (3 : Int32)), (.ref t_3), (.ref x0)])) (fun _ kK => XS.astore X3.here hx rfl (hb hby d0_39) rfl rfl (l' := #[.val (.ref x0), .val (.ref b), .val (.int (0 : Int32)), .val (.int (3 : Int32)), .val .null, .val (.ref t_3)]) rfl (XS.aloadN X3.here hx rfl (hb hby d0_41) rfl rfl (XS.aload X3.here hx rfl (hb hby d0_42) rfl rfl (XS.iloadN X3.here hx rfl (hb hby d0_44) rfl kK)))) ?_
  obtain ⟨_, _, ⟨T5, L5, k5, n5⟩, -, X5, ⟨Lc5, hQ5, l5, y5, z5⟩, st5⟩ := Jvm.LawKit.callS X3 hx (y := own_m20) hown (mvT hZ (own_w G 44 rfl)) (mvT hZ (own_w G 45 rfl)) (mvT hZ (own_w G 39 rfl)) (mvT hZ (own_w G 46 rfl)) (by decide) (backOf (W := 1) (rmcf3 l Z a0 G [] t_3 kb_3 N_3 vs_3 cd_3 c0 c1 c2 T3.heap n0 O4 r3_0 r3_1) hZ (own_w G 46 rfl) (own_w G 39 rfl) (by decide) (by decide)) (g := (mkF m 45 #[.val (.ref x0), .val (.ref b), .val (.int (0 : Int32)), .val (.int (3 : Int32)), .val .null, .val (.ref t_3)] [(.int (3 : Int32)), (.ref t_3), (.ref x0)])) rfl (by rw [hml]; rfl) (argsL := [(.ref t_3), (.int (3 : Int32))]) (rest := [(.ref x0)]) (lenOf pd_13 rfl) rfl (by show 2 * 0 + _ ≤ _; exact Nat.le_of_eq rfl) (hb hby d0_45) (fun _ _ => ⟨rfl, rfl, (by decide : 2 + 0 ≤ _), (by decide : 9 + 0 ≤ _)⟩)
  dsimp only [Pt.U, Pt.locs, Pt.cells, Pt.slots] at X5 l5 y5 z5 st5 hQ5
  subst l5 y5 z5
  obtain ⟨rfl, N5q, eh5⟩ := hQ5
  have N5 := Fr.app N3 N5q
  refine OwnEnd.of (S' := T5.setTop (mkF m 48 #[.val (.ref x0), .val (.ref b), .val (.int (0 : Int32)), .val (.int (3 : Int32)), .val .null, .val (.ref t_3)] [(.int cd_3), (.ref x0)])) st5 ?_
  have f7 : Fld Z T3.heap x0 "java/lang/String" "coder" "B" c9 := (P2.keep Kq3 nin0)
  have f8 : Exa Z T3.heap x0 "java/lang/String" := (P0.keep Kq3)
  obtain ⟨T6, h6, X6, e6, W6, st6⟩ := putFN X5 hx hZ hown (own_w G 26 rfl) Via.refl eh5 f7 f8 (Or.inr ⟨(own_w G 22 rfl), rfl, hnm⟩) (own_w G 2 rfl) (ty := .byte) (v' := (.int cd_3)) (by decide) (own_cod_nar r3_1).1 (own_cod_nar r3_1).2 (g := (mkF m 48 #[.val (.ref x0), .val (.ref b), .val (.int (0 : Int32)), .val (.int (3 : Int32)), .val .null, .val (.ref t_3)] [(.int cd_3), (.ref x0)])) rfl rfl (hb hby d0_48)
  have Fw6 := f7.same W6
  have N6 := Fr.snoc X6 N5 (by omega)
  have sz9 := own_wr_le W6
  have K9 := K4.wr W6 (Or.inl (by simp))
  have O9 := O4.wr W6 (by omega)
  refine OwnEnd.of (S' := T6.setTop (mkF m 51 #[.val (.ref x0), .val (.ref b), .val (.int (0 : Int32)), .val (.int (3 : Int32)), .val .null, .val (.ref t_3)] [])) st6 ?_
  refine OwnEnd.of (S' := T6.setTop (mkF m 54 #[.val (.ref x0), .val (.ref b), .val (.int (0 : Int32)), .val (.int (3 : Int32)), .val .null, .val (.ref t_3)] [(.ref t_3), (.ref x0)])) (fun _ kK => XS.aloadN X6.here hx rfl (hb hby d0_51) rfl rfl (XS.aload X6.here hx rfl (hb hby d0_52) rfl rfl kK)) ?_
  have f11 : Fld Z h6 x0 "java/lang/String" "value" "[B" v0 := ((P1.keep Kq3 nin0).other W6 (Or.inr (slot_ne (Or.inr (own_w G 21 rfl)) (Or.inr (own_w G 22 rfl)) (by decide) (t := (.array .byte)) (t' := .byte) (by decide) (by decide))))
  have f12 : Exa Z h6 x0 "java/lang/String" := (f8.wr W6)
  obtain ⟨T10, h10, X10, e10, W10, st10⟩ := putF X6 hx hZ hown (host := "") (Or.inl (own_w G 25 rfl)) Via.refl e6 f11 f12 (Or.inr ⟨(own_w G 21 rfl), rfl, hnm⟩) (own_w G 2 rfl) (ty := (.array .byte)) (by decide) rfl rfl (g := (mkF m 54 #[.val (.ref x0), .val (.ref b), .val (.int (0 : Int32)), .val (.int (3 : Int32)), .val .null, .val (.ref t_3)] [(.ref t_3), (.ref x0)])) rfl rfl (hb hby d0_54)
  have Fw10 := f11.same W10
  have N10 := Fr.snoc X10 N6 (by omega)
  have sz13 := own_wr_le W10
  have K13 := K9.wr W10 (Or.inl (by simp))
  have O13 := O9.wr W10 (by omega)
  refine OwnEnd.of (S' := T10.setTop (mkF m 57 #[.val (.ref x0), .val (.ref b), .val (.int (0 : Int32)), .val (.int (3 : Int32)), .val .null, .val (.ref t_3)] [])) st10 ?_
  have f14 : Exa Z h10 x0 "java/lang/String" := (f12.wr W10)
  have f15 : Fld Z h10 x0 "java/lang/String" "coder" "B" (.int cd_3) := (Fw6.other W10 (Or.inr (slot_ne (Or.inr (own_w G 22 rfl)) (Or.inr (own_w G 21 rfl)) (by decide) (t := .byte) (t' := (.array .byte)) (by decide) (by decide))))
  have f16 : Arv Z h10 t_3 kb_3 .byte N_3 vs_3 (.int (0 : Int32)) := ((r3_0.other W6 (own_ne (by omega))).other W10 (own_ne (by omega)))
  refine OwnEnd.ret X10 (v := none) (fun _ => rfl) hlk (fun fs hr => X10.returnOut hx Bd.returns (hb hby d0_57) hr) (by decide) (by decide) (Q := Qnv3 Z x0 b v0 c9 kC dC c0 c1 c2 h0 n0) e10 ?_
  exact ⟨t_3, kb_3, N_3, vs_3, cd_3, rfl, N10, K13, f14, Fw10, f15, f16, (r3_1), (by omega)⟩

theorem own_efnw3 (m : MethodId) (x0 : Addr) (b : Addr) : entryFrame m #[(.ref x0), (.ref b)] 2 = mkF m 0 #[.val (.ref x0), .val (.ref b)] [] := by first | (simp [entryFrame, mkF, argsToLocals, Value.category]; done) | rfl
def Qnw3 (Z : State) (x0 : Addr) (b : Addr) (v0 : Value) (c9 : Value) (kC : ClassId) (dC : Value) (c0 : Int32) (c1 : Int32) (c2 : Int32) (h0 : Heap) (n0 : Nat) (v : Option Value) (h : Heap) (L : List Loc) : Prop := ∃ (t : Addr) (kb : ClassId) (N : Int32) (vs : List Value) (cd : Int32), v = none ∧ Fr n0 L ∧ Keep h0 h [x0] ∧ (Exa Z h x0 "java/lang/String") ∧ (Fld Z h x0 "java/lang/String" "value" "[B" (.ref t)) ∧ (Fld Z h x0 "java/lang/String" "coder" "B" (.int cd)) ∧ (Arv Z h t kb .byte N vs (.int (0 : Int32))) ∧ (StrChars.Road.CodA [c0, c1, c2] cd N vs) ∧ (Array.size h0 ≤ t)
set_option maxRecDepth 65536 in
set_option maxHeartbeats 40000000 in
theorem rmnw3 (l : Launch) (Z : State) (a0 : Array Value) (G : OwnG Z a0) (ws : List Jvm.Cond) (x0 : Addr) (b : Addr) (v0 : Value) (c9 : Value) (kC : ClassId) (dC : Value) (c0 : Int32) (c1 : Int32) (c2 : Int32) (h0 : Heap) (n0 : Nat) (O0 : Old Z n0 h0) (P0 : Exa Z h0 x0 "java/lang/String") (P1 : Fld Z h0 x0 "java/lang/String" "value" "[B" v0) (P2 : Fld Z h0 x0 "java/lang/String" "coder" "B" c9) (P3 : n0 ≤ x0) (P4 : Arv Z h0 b kC .char (3 : Int32) [(.int c0), (.int c1), (.int c2)] dC) (P5 : ∀ c ∈ ([c0, c1, c2] : List Int32), ¬ c < (0 : Int32) ∧ ¬ (65535 : Int32) < c) (P6 : x0 ≠ b) :
    MetFree l own_m1 (head1 (Jvm.Cond.code own_m1 jdk_42_method_3_code 2 none :: ws) ({ frames := 5, cells := 2, slots := 9, locals := 74 } : Room)) (fun a U => a = #[(.ref x0), (.ref b)] ∧ Z.Warmed39 U.vm ∧ U.heap = h0) (fun _ _ _ _ _ => True) (fun _ U o U' => ∃ v L, o = .returned v ∧ Qnw3 Z x0 b v0 c9 kC dC c0 c1 c2 h0 n0 v U'.heap L ∧ FrameEnd U o U' L ({ frames := 5, cells := 2, slots := 9, locals := 74 } : Room).cells ({ frames := 5, cells := 2, slots := 9, locals := 74 } : Room).slots) := by
  refine MetFree.of_bodySF (plainFor_of_name pn_0) hisR ?_
  intro p e s m args below meth cD s₁ Bd hml0 hP hK
  obtain ⟨rfl, hZ, hh⟩ := hP
  have hw := G.1
  have hx := Bd.exec
  have hby := Bd.bytes
  have hml : cD.maxLocals = 2 := hml0
  have hown : s.vm.findClass "java/lang/String" = some m.cls := findClass_of_methodNamed Bd.named
  have hnm := (name_of_methodNamed Bd.named Bd.method).1
  have hlk := Bd.notSynchronized
  have X0 : Stand p l e ({ frames := 5, cells := 2, slots := 9, locals := 74 } : Room) s m #[(.ref x0), (.ref b)] below meth cD s₁ [] 0 0 := Stand.of_body Bd
  have e0 : s₁.heap = h0 := by rw [← hh, Bd.state]; rfl
  have lt0 := own_ltN' P0.lt
  have lt1 := own_ltN' P1.lt
  have lt2 := own_ltN' P2.lt
  have lt4 := own_ltN' P4.lt
  have nP6 := own_neN P6
  have K0 : Keep h0 h0 [x0] := Keep.refl h0 _
  have Z0 := own_old_le O0
  have N0 := Fr.nil n0
  refine OwnEnd.start (g' := (mkF m 0 #[.val (.ref x0), .val (.ref b)] [])) (own_efnw3 m x0 b) ?_
  refine OwnEnd.of (S' := s₁.setTop (mkF m 4 #[.val (.ref x0), .val (.ref b)] [(.ref b), (.int (0 : Int32)), (.ref b), (.ref x0)])) (fun _ kK => XS.aloadN X0.here hx rfl (hb hby d1_0) rfl rfl (XS.aloadN X0.here hx rfl (hb hby d1_1) rfl rfl (XS.iconst X0.here hx rfl (hb hby d1_2) (XS.aloadN X0.here hx rfl (hb hby d1_3) rfl rfl kK)))) ?_
  obtain ⟨cl1, Ar1, q1, S1, N1', H1, G1⟩ := id P4
  refine OwnEnd.of (S' := s₁.setTop (mkF m 5 #[.val (.ref x0), .val (.ref b)] [(.int (3 : Int32)), (.int (0 : Int32)), (.ref b), (.ref x0)])) (fun _ kK => X0.arraylength hx (by rw [e0]; exact Ar1.1) (State.isArrayOf_alike hZ.alike Ar1.2.1) (g := (mkF m 4 #[.val (.ref x0), .val (.ref b)] [(.ref b), (.int (0 : Int32)), (.ref b), (.ref x0)])) rfl rfl (hb hby d1_4) _ (by rw [len_of S1 N1']; exact kK)) ?_
  refine OwnEnd.of (S' := s₁.setTop (mkF m 6 #[.val (.ref x0), .val (.ref b)] [.null, (.int (3 : Int32)), (.int (0 : Int32)), (.ref b), (.ref x0)])) (fun _ kK => XS.aconstNull X0.here hx rfl (hb hby d1_5) kK) ?_
  obtain ⟨_, _, ⟨T2, L2, k2, n2⟩, -, X2, ⟨Lc2, hQ2, l2, y2, z2⟩, st2⟩ := Jvm.Stand.specialBack X0 hx (y := own_m0) rfl hown (mvT hZ (own_w G 12 rfl)) (mvT hZ (own_w G 13 rfl)) (mvT hZ (own_w G 15 rfl)) (by decide) (backOf (W := 0) (rmnv3 l Z a0 G [] x0 b v0 c9 kC dC c0 c1 c2 h0 n0 O0 P0 P1 P2 (by omega) P4 P5 (P6 : x0 ≠ b)) hZ (own_w G 15 rfl) (own_w G 3 rfl) (by decide) (by decide)) (g := (mkF m 6 #[.val (.ref x0), .val (.ref b)] [.null, (.int (3 : Int32)), (.int (0 : Int32)), (.ref b), (.ref x0)])) rfl (by rw [hml]; rfl) (Steps.refl _) (a := x0) (argsL := [(.ref b), (.int (0 : Int32)), (.int (3 : Int32)), .null]) (rest := []) (lenOf pd_0 rfl) rfl (by show 2 * 0 + _ ≤ _; exact Nat.le_of_eq rfl) (hb hby d1_6) (fun _ _ => ⟨rfl, e0, (by decide : 0 + 2 ≤ _), (by decide : 0 + 9 ≤ _)⟩)
  dsimp only [Pt.U, Pt.locs, Pt.cells, Pt.slots] at X2 l2 y2 z2 st2 hQ2
  subst l2 y2 z2
  obtain ⟨t_2, kb_2, N_2, vs_2, cd_2, rfl, N2q, Kq2, r2_0, r2_1, r2_2, r2_3, r2_4, r2_5⟩ := hQ2
  have N2 := Fr.app N0 N2q
  have sz3 := Kq2.1
  have K3 := K0.trans Kq2 (own_all1 (Or.inl (by simp)))
  have O3 := O0.keep Kq2 (own_all1 (by omega))
  have ltr2_0 := own_ltN' r2_0.lt
  have ltr2_1 := own_ltN' r2_1.lt
  have ltr2_2 := own_ltN' r2_2.lt
  have ltr2_3 := own_ltN' r2_3.lt
  refine OwnEnd.tr (S' := T2.setTop (mkF m 9 #[.val (.ref x0), .val (.ref b)] [])) st2 ?_
  refine OwnEnd.ret X2 (v := none) (fun _ => rfl) hlk (fun fs hr => X2.returnOut hx Bd.returns (hb hby d1_9) hr) (by decide) (by decide) (Q := Qnw3 Z x0 b v0 c9 kC dC c0 c1 c2 h0 n0) rfl ?_
  exact ⟨t_2, kb_2, N_2, vs_2, cd_2, rfl, N2, K3, r2_0, r2_1, r2_2, r2_3, (r2_4), (by omega)⟩

theorem own_efnb4 (m : MethodId) : entryFrame m #[(.int (4 : Int32))] 1 = mkF m 0 #[.val (.int (4 : Int32))] [] := by first | (simp [entryFrame, mkF, argsToLocals, Value.category]; done) | rfl
def Qnb4 (Z : State)  (h0 : Heap) (n0 : Nat) (v : Option Value) (h : Heap) (L : List Loc) : Prop := ∃ (t : Addr) (kb : ClassId), v = some (.ref t) ∧ Fr n0 L ∧ Keep h0 h [] ∧ (Arv Z h t kb .byte (8 : Int32) [(.int (0 : Int32)), (.int (0 : Int32)), (.int (0 : Int32)), (.int (0 : Int32)), (.int (0 : Int32)), (.int (0 : Int32)), (.int (0 : Int32)), (.int (0 : Int32))] (.int (0 : Int32))) ∧ (Array.size h0 ≤ t)
set_option maxRecDepth 65536 in
set_option maxHeartbeats 40000000 in
theorem rmnb4 (l : Launch) (Z : State) (a0 : Array Value) (G : OwnG Z a0) (ws : List Jvm.Cond)  (h0 : Heap) (n0 : Nat) (O0 : Old Z n0 h0)  :
    MetFree l own_m16 (head1 (Jvm.Cond.code own_m16 jdk_52_method_2_code 1 (some (.array .byte)) :: ws) ({ frames := 1, cells := 1, slots := 8, locals := 12 } : Room)) (fun a U => a = #[(.int (4 : Int32))] ∧ Z.Warmed39 U.vm ∧ U.heap = h0) (fun _ _ _ _ _ => True) (fun _ U o U' => ∃ v L, o = .returned v ∧ Qnb4 Z  h0 n0 v U'.heap L ∧ FrameEnd U o U' L ({ frames := 1, cells := 1, slots := 8, locals := 12 } : Room).cells ({ frames := 1, cells := 1, slots := 8, locals := 12 } : Room).slots) := by
  refine MetFree.of_bodySF (plainFor_of_name pn_3) hisR ?_
  intro p e s m args below meth cD s₁ Bd hml0 hP hK
  obtain ⟨rfl, hZ, hh⟩ := hP
  have hw := G.1
  have hx := Bd.exec
  have hby := Bd.bytes
  have hml : cD.maxLocals = 1 := hml0
  have hown : s.vm.findClass "java/lang/StringUTF16" = some m.cls := findClass_of_methodNamed Bd.named
  have hnm := (name_of_methodNamed Bd.named Bd.method).1
  have hlk := Bd.notSynchronized
  have X0 : Stand p l e ({ frames := 1, cells := 1, slots := 8, locals := 12 } : Room) s m #[(.int (4 : Int32))] below meth cD s₁ [] 0 0 := Stand.of_body Bd
  have e0 : s₁.heap = h0 := by rw [← hh, Bd.state]; rfl
  have K0 : Keep h0 h0 [] := Keep.refl h0 _
  have Z0 := own_old_le O0
  have N0 := Fr.nil n0
  refine OwnEnd.start (g' := (mkF m 0 #[.val (.int (4 : Int32))] [])) (own_efnb4 m ) ?_
  refine OwnEnd.of (S' := s₁.setTop (mkF m 1 #[.val (.int (4 : Int32))] [(.int (4 : Int32))])) (fun _ kK => XS.iloadN X0.here hx rfl (hb hby d16_0) rfl kK) ?_
  obtain ⟨_, _, ⟨T1, L1, k1, n1⟩, -, X1, ⟨Lc1, hQ1, l1, y1, z1⟩, st1⟩ := Jvm.LawKit.callS X0 hx (y := own_m14) hown (mvT hZ (own_w G 88 rfl)) (mvT hZ (own_w G 89 rfl)) (mvT hZ (own_w G 39 rfl)) (mvT hZ (own_w G 90 rfl)) (by decide) (backOf (W := 0) (rmnl l Z a0 G [] (4 : Int32) (8 : Int32) h0 n0 O0 (by decide : ¬ (4 : Int32) < (0 : Int32)) (by decide : (4 : Int32) < (1073741823 : Int32)) (by decide : (4 : Int32) <<< ((1 : Int32) &&& 31) = (8 : Int32))) hZ (own_w G 90 rfl) (own_w G 39 rfl) (by decide) (by decide)) (g := (mkF m 1 #[.val (.int (4 : Int32))] [(.int (4 : Int32))])) rfl (by rw [hml]; rfl) (argsL := [(.int (4 : Int32))]) (rest := []) (lenOf pd_8 rfl) rfl (by show 2 * 0 + _ ≤ _; exact Nat.le_of_eq rfl) (hb hby d16_1) (fun _ _ => ⟨rfl, e0, (by decide : 0 + 0 ≤ _), (by decide : 0 + 0 ≤ _)⟩)
  dsimp only [Pt.U, Pt.locs, Pt.cells, Pt.slots] at X1 l1 y1 z1 st1 hQ1
  subst l1 y1 z1
  obtain ⟨rfl, N1q, eh1⟩ := hQ1
  have N1 := Fr.app N0 N1q
  refine OwnEnd.of (S' := T1.setTop (mkF m 4 #[.val (.int (4 : Int32))] [(.int (8 : Int32))])) st1 ?_
  obtain ⟨T2, h2, k2, X2, e2, E2, A2, st2⟩ := newP X1 hx hZ (own_w G 20 rfl) eh1 (g := (mkF m 4 #[.val (.int (4 : Int32))] [(.int (8 : Int32))])) rfl (hb hby d16_4) rfl (by decide) (cap := 8) (by decide) (by decide) (by decide) (by decide)
  obtain ⟨b2, g2⟩ : ∃ z, z = Array.size h0 := ⟨_, rfl⟩
  rw [← g2] at A2 st2
  have lt_b2 := own_ltN' A2.lt
  have sz3 := E2.1
  have K3 := K0.ext E2
  have O3 := O0.ext E2
  have V2 : Arv Z h2 b2 k2 .byte (8 : Int32) [(.int (0 : Int32)), (.int (0 : Int32)), (.int (0 : Int32)), (.int (0 : Int32)), (.int (0 : Int32)), (.int (0 : Int32)), (.int (0 : Int32)), (.int (0 : Int32))] (.int (0 : Int32)) := (Arv.new A2 (by decide)).pad (pad_rep [] (.int (0 : Int32)) 8)
  refine OwnEnd.of (S' := T2.setTop (mkF m 6 #[.val (.int (4 : Int32))] [(.ref b2)])) st2 ?_
  refine OwnEnd.ret X2 (v := (some (.ref b2))) (fun h => by rw [Bd.returns] at h; cases h) hlk (fun fs hr => retOut X2 hx Bd.returns rfl (Or.inr (Or.inr (Or.inr (Or.inr ⟨rfl, rfl, rfl⟩)))) (hb hby d16_6) hr) (by decide) (by decide) (Q := Qnb4 Z  h0 n0) e2 ?_
  exact ⟨b2, k2, rfl, N1, K3, V2, (by omega)⟩

theorem own_efby4 (m : MethodId) (b : Addr) : entryFrame m #[(.ref b), (.int (0 : Int32)), (.int (4 : Int32))] 5 = mkF m 0 #[.val (.ref b), .val (.int (0 : Int32)), .val (.int (4 : Int32)), .unset, .unset] [] := by first | (simp [entryFrame, mkF, argsToLocals, Value.category]; done) | rfl
def Qby4 (Z : State) (b : Addr) (kC : ClassId) (dC : Value) (c0 : Int32) (c1 : Int32) (c2 : Int32) (c3 : Int32) (h0 : Heap) (n0 : Nat) (v : Option Value) (h : Heap) (L : List Loc) : Prop := ∃ (t : Addr) (kb : ClassId), v = some (.ref t) ∧ Fr n0 L ∧ Keep h0 h [] ∧ (Arv Z h t kb .byte (8 : Int32) (StrChars.Road.wideBytes [c0, c1, c2, c3]) (.int (0 : Int32))) ∧ (Array.size h0 ≤ t)
set_option maxRecDepth 65536 in
set_option maxHeartbeats 40000000 in
theorem rmby4 (l : Launch) (Z : State) (a0 : Array Value) (G : OwnG Z a0) (ws : List Jvm.Cond) (b : Addr) (kC : ClassId) (dC : Value) (c0 : Int32) (c1 : Int32) (c2 : Int32) (c3 : Int32) (h0 : Heap) (n0 : Nat) (O0 : Old Z n0 h0) (P0 : Arv Z h0 b kC .char (4 : Int32) [(.int c0), (.int c1), (.int c2), (.int c3)] dC) :
    MetFree l own_m17 (head1 (Jvm.Cond.code own_m17 jdk_52_method_14_code 5 (some (.array .byte)) :: ws) ({ frames := 2, cells := 1, slots := 8, locals := 24 } : Room)) (fun a U => a = #[(.ref b), (.int (0 : Int32)), (.int (4 : Int32))] ∧ Z.Warmed39 U.vm ∧ U.heap = h0) (fun _ _ _ _ _ => True) (fun _ U o U' => ∃ v L, o = .returned v ∧ Qby4 Z b kC dC c0 c1 c2 c3 h0 n0 v U'.heap L ∧ FrameEnd U o U' L ({ frames := 2, cells := 1, slots := 8, locals := 24 } : Room).cells ({ frames := 2, cells := 1, slots := 8, locals := 24 } : Room).slots) := by
  refine MetFree.of_bodySF (plainFor_of_name pn_3) hisR ?_
  intro p e s m args below meth cD s₁ Bd hml0 hP hK
  obtain ⟨rfl, hZ, hh⟩ := hP
  have hw := G.1
  have hx := Bd.exec
  have hby := Bd.bytes
  have hml : cD.maxLocals = 5 := hml0
  have hown : s.vm.findClass "java/lang/StringUTF16" = some m.cls := findClass_of_methodNamed Bd.named
  have hnm := (name_of_methodNamed Bd.named Bd.method).1
  have hlk := Bd.notSynchronized
  have X0 : Stand p l e ({ frames := 2, cells := 1, slots := 8, locals := 24 } : Room) s m #[(.ref b), (.int (0 : Int32)), (.int (4 : Int32))] below meth cD s₁ [] 0 0 := Stand.of_body Bd
  have e0 : s₁.heap = h0 := by rw [← hh, Bd.state]; rfl
  have lt0 := own_ltN' P0.lt
  have K0 : Keep h0 h0 [] := Keep.refl h0 _
  have Z0 := own_old_le O0
  have N0 := Fr.nil n0
  refine OwnEnd.start (g' := (mkF m 0 #[.val (.ref b), .val (.int (0 : Int32)), .val (.int (4 : Int32)), .unset, .unset] [])) (own_efby4 m b) ?_
  refine OwnEnd.of (S' := s₁.setTop (mkF m 1 #[.val (.ref b), .val (.int (0 : Int32)), .val (.int (4 : Int32)), .unset, .unset] [(.int (4 : Int32))])) (fun _ kK => XS.iloadN X0.here hx rfl (hb hby d17_0) rfl kK) ?_
  obtain ⟨_, _, ⟨T1, L1, k1, n1⟩, -, X1, ⟨Lc1, hQ1, l1, y1, z1⟩, st1⟩ := Jvm.LawKit.callS X0 hx (y := own_m16) hown (mvT hZ (own_w G 85 rfl)) (mvT hZ (own_w G 86 rfl)) (mvT hZ (own_w G 39 rfl)) (mvT hZ (own_w G 87 rfl)) (by decide) (backOf (W := 0) (rmnb4 l Z a0 G []  h0 n0 O0 ) hZ (own_w G 87 rfl) (own_w G 39 rfl) (by decide) (by decide)) (g := (mkF m 1 #[.val (.ref b), .val (.int (0 : Int32)), .val (.int (4 : Int32)), .unset, .unset] [(.int (4 : Int32))])) rfl (by rw [hml]; rfl) (argsL := [(.int (4 : Int32))]) (rest := []) (lenOf pd_9 rfl) rfl (by show 2 * 0 + _ ≤ _; exact Nat.le_of_eq rfl) (hb hby d17_1) (fun _ _ => ⟨rfl, e0, (by decide : 0 + 1 ≤ _), (by decide : 0 + 8 ≤ _)⟩)
  dsimp only [Pt.U, Pt.locs, Pt.cells, Pt.slots] at X1 l1 y1 z1 st1 hQ1
  subst l1 y1 z1
  obtain ⟨t_1, kb_1, rfl, N1q, Kq1, r1_0, r1_1⟩ := hQ1
  have N1 := Fr.app N0 N1q
  have sz2 := Kq1.1
  have K2 := K0.trans Kq1 (own_all0 )
  have O2 := O0.keep Kq1 (own_all0 )
  have ltr1_0 := own_ltN' r1_0.lt
  refine OwnEnd.of (S' := T1.setTop (mkF m 4 #[.val (.ref b), .val (.int (0 : Int32)), .val (.int (4 : Int32)), .unset, .unset] [(.ref t_1)])) st1 ?_
  refine OwnEnd.of (S' := T1.setTop (mkF m 19 #[.val (.ref b), .val (.int (0 : Int32)), .val (.int (4 : Int32)), .val (.ref t_1), .val (.int (0 : Int32))] [(.int (0 : Int32)), (.ref b), (.int (0 : Int32)), (.ref t_1)])) (fun _ kK => XS.astoreN X1.here hx rfl (hb hby d17_4) rfl rfl (l' := #[.val (.ref b), .val (.int (0 : Int32)), .val (.int (4 : Int32)), .val (.ref t_1), .unset]) rfl (XS.iconst X1.here hx rfl (hb hby d17_5) (XS.istore X1.here hx rfl (hb hby d17_6) rfl (l' := #[.val (.ref b), .val (.int (0 : Int32)), .val (.int (4 : Int32)), .val (.ref t_1), .val (.int (0 : Int32))]) rfl (XS.iload X1.here hx rfl (hb hby d17_8) rfl (XS.iloadN X1.here hx rfl (hb hby d17_10) rfl (XS.icmpNo X1.here hx rfl (hb hby d17_11) rfl (tlt ((by decide : (0 : Int32) < (4 : Int32)))).2.1 (XS.aloadN X1.here hx rfl (hb hby d17_14) rfl rfl (XS.iload X1.here hx rfl (hb hby d17_15) rfl (XS.aloadN X1.here hx rfl (hb hby d17_17) rfl rfl (XS.iloadN X1.here hx rfl (hb hby d17_18) rfl kK)))))))))) ?_
  have f3 : Arv Z T1.heap b kC .char (4 : Int32) [(.int c0), (.int c1), (.int c2), (.int c3)] dC := (P0.keep Kq1 nin0)
  obtain ⟨cl4, Ar4, q4, S4, N4', H4, G4⟩ := id f3
  have hin5 : ¬ ((0 : Int32) < 0 ∨ cl4.slots.size ≤ ((0 : Int32)).toNatClampNeg) := inb_of S4 ⟨by decide, by decide⟩
  refine OwnEnd.of (S' := T1.setTop (mkF m 20 #[.val (.ref b), .val (.int (0 : Int32)), .val (.int (4 : Int32)), .val (.ref t_1), .val (.int (0 : Int32))] [(.int c0), (.int (0 : Int32)), (.ref t_1)])) (fun _ kK => X1.caload hx (j := (0 : Int32)) (v := (.int c0)) Ar4.1 (State.isArrayOf_alike hZ.alike Ar4.2.1) Ar4.2.2 hin5 (Has.at H4 hin5 (rfl)) (g := (mkF m 19 #[.val (.ref b), .val (.int (0 : Int32)), .val (.int (4 : Int32)), .val (.ref t_1), .val (.int (0 : Int32))] [(.int (0 : Int32)), (.ref b), (.int (0 : Int32)), (.ref t_1)])) rfl rfl (hb hby d17_19) _ kK) ?_
  obtain ⟨_, _, ⟨T6, L6, k6, n6⟩, -, X6, ⟨Lc6, hQ6, l6, y6, z6⟩, st6⟩ := Jvm.LawKit.callS X1 hx (y := own_m15) hown (mvT hZ (own_w G 92 rfl)) (mvT hZ (own_w G 93 rfl)) (mvT hZ (own_w G 39 rfl)) (mvT hZ (own_w G 94 rfl)) (by decide) (backOf (W := 0) (rmpu0 l Z a0 G [] t_1 kb_1 (8 : Int32) [(.int (0 : Int32)), (.int (0 : Int32)), (.int (0 : Int32)), (.int (0 : Int32)), (.int (0 : Int32)), (.int (0 : Int32)), (.int (0 : Int32)), (.int (0 : Int32))] (.int (0 : Int32)) c0 T1.heap n0 O2 r1_0 (by decide : (0 : Int32) < (8 : Int32)) (by decide : (1 : Int32) < (8 : Int32)) (Nat.le_of_ble_eq_true rfl : 1 < [(.int (0 : Int32)), (.int (0 : Int32)), (.int (0 : Int32)), (.int (0 : Int32)), (.int (0 : Int32)), (.int (0 : Int32)), (.int (0 : Int32)), (.int (0 : Int32))].length) (by omega)) hZ (own_w G 94 rfl) (own_w G 39 rfl) (by decide) (by decide)) (g := (mkF m 20 #[.val (.ref b), .val (.int (0 : Int32)), .val (.int (4 : Int32)), .val (.ref t_1), .val (.int (0 : Int32))] [(.int c0), (.int (0 : Int32)), (.ref t_1)])) rfl (by rw [hml]; rfl) (argsL := [(.ref t_1), (.int (0 : Int32)), (.int c0)]) (rest := []) (lenOf pd_10 rfl) rfl (by show 2 * 0 + _ ≤ _; exact Nat.le_of_eq rfl) (hb hby d17_20) (fun _ _ => ⟨rfl, rfl, (by decide : 1 + 0 ≤ _), (by decide : 8 + 0 ≤ _)⟩)
  dsimp only [Pt.U, Pt.locs, Pt.cells, Pt.slots] at X6 l6 y6 z6 st6 hQ6
  subst l6 y6 z6
  obtain ⟨rfl, N6q, Kq6, r6_0⟩ := hQ6
  have N6 := Fr.app N1 N6q
  have sz7 := Kq6.1
  have K7 := K2.trans Kq6 (own_all1 (Or.inr (by omega)))
  have O7 := O2.keep Kq6 (own_all1 (by omega))
  have ltr6_0 := own_ltN' r6_0.lt
  refine OwnEnd.of (S' := T6.setTop (mkF m 23 #[.val (.ref b), .val (.int (0 : Int32)), .val (.int (4 : Int32)), .val (.ref t_1), .val (.int (0 : Int32))] [])) st6 ?_
  have V8 : Arv Z T6.heap t_1 kb_1 .byte (8 : Int32) [(.int (StrChars.lo8 c0)), (.int (StrChars.hi8 c0)), (.int (0 : Int32)), (.int (0 : Int32)), (.int (0 : Int32)), (.int (0 : Int32)), (.int (0 : Int32)), (.int (0 : Int32))] (.int (0 : Int32)) := by have q := r6_0; exact q
  refine OwnEnd.of (S' := T6.setTop (mkF m 19 #[.val (.ref b), .val (.int (1 : Int32)), .val (.int (4 : Int32)), .val (.ref t_1), .val (.int (1 : Int32))] [(.int (1 : Int32)), (.ref b), (.int (1 : Int32)), (.ref t_1)])) (fun _ kK => XS.iinc X6.here hx rfl (hb hby d17_23) rfl (l' := #[.val (.ref b), .val (.int (1 : Int32)), .val (.int (4 : Int32)), .val (.ref t_1), .val (.int (0 : Int32))]) rfl (XS.iinc X6.here hx rfl (hb hby d17_26) rfl (l' := #[.val (.ref b), .val (.int (1 : Int32)), .val (.int (4 : Int32)), .val (.ref t_1), .val (.int (1 : Int32))]) rfl (XS.goto X6.here hx rfl (pc0 := 29) (pc' := 8) rfl (hb hby d17_29) (by decide) (by decide) (XS.iload X6.here hx rfl (hb hby d17_8) rfl (XS.iloadN X6.here hx rfl (hb hby d17_10) rfl (XS.icmpNo X6.here hx rfl (hb hby d17_11) rfl (tlt ((by decide : (1 : Int32) < (4 : Int32)))).2.1 (XS.aloadN X6.here hx rfl (hb hby d17_14) rfl rfl (XS.iload X6.here hx rfl (hb hby d17_15) rfl (XS.aloadN X6.here hx rfl (hb hby d17_17) rfl rfl (XS.iloadN X6.here hx rfl (hb hby d17_18) rfl kK)))))))))) ?_
  have f9 : Arv Z T6.heap b kC .char (4 : Int32) [(.int c0), (.int c1), (.int c2), (.int c3)] dC := (f3.keep Kq6 (own_nin1 (own_ne (by omega))))
  obtain ⟨cl10, Ar10, q10, S10, N10', H10, G10⟩ := id f9
  have hin11 : ¬ ((1 : Int32) < 0 ∨ cl10.slots.size ≤ ((1 : Int32)).toNatClampNeg) := inb_of S10 ⟨by decide, by decide⟩
  refine OwnEnd.of (S' := T6.setTop (mkF m 20 #[.val (.ref b), .val (.int (1 : Int32)), .val (.int (4 : Int32)), .val (.ref t_1), .val (.int (1 : Int32))] [(.int c1), (.int (1 : Int32)), (.ref t_1)])) (fun _ kK => X6.caload hx (j := (1 : Int32)) (v := (.int c1)) Ar10.1 (State.isArrayOf_alike hZ.alike Ar10.2.1) Ar10.2.2 hin11 (Has.at H10 hin11 (rfl)) (g := (mkF m 19 #[.val (.ref b), .val (.int (1 : Int32)), .val (.int (4 : Int32)), .val (.ref t_1), .val (.int (1 : Int32))] [(.int (1 : Int32)), (.ref b), (.int (1 : Int32)), (.ref t_1)])) rfl rfl (hb hby d17_19) _ kK) ?_
  obtain ⟨_, _, ⟨T12, L12, k12, n12⟩, -, X12, ⟨Lc12, hQ12, l12, y12, z12⟩, st12⟩ := Jvm.LawKit.callS X6 hx (y := own_m15) hown (mvT hZ (own_w G 92 rfl)) (mvT hZ (own_w G 93 rfl)) (mvT hZ (own_w G 39 rfl)) (mvT hZ (own_w G 94 rfl)) (by decide) (backOf (W := 0) (rmpu1 l Z a0 G [] t_1 kb_1 (8 : Int32) [(.int (StrChars.lo8 c0)), (.int (StrChars.hi8 c0)), (.int (0 : Int32)), (.int (0 : Int32)), (.int (0 : Int32)), (.int (0 : Int32)), (.int (0 : Int32)), (.int (0 : Int32))] (.int (0 : Int32)) c1 T6.heap n0 O7 V8 (by decide : (2 : Int32) < (8 : Int32)) (by decide : (3 : Int32) < (8 : Int32)) (Nat.le_of_ble_eq_true rfl : 3 < [(.int (StrChars.lo8 c0)), (.int (StrChars.hi8 c0)), (.int (0 : Int32)), (.int (0 : Int32)), (.int (0 : Int32)), (.int (0 : Int32)), (.int (0 : Int32)), (.int (0 : Int32))].length) (by omega)) hZ (own_w G 94 rfl) (own_w G 39 rfl) (by decide) (by decide)) (g := (mkF m 20 #[.val (.ref b), .val (.int (1 : Int32)), .val (.int (4 : Int32)), .val (.ref t_1), .val (.int (1 : Int32))] [(.int c1), (.int (1 : Int32)), (.ref t_1)])) rfl (by rw [hml]; rfl) (argsL := [(.ref t_1), (.int (1 : Int32)), (.int c1)]) (rest := []) (lenOf pd_10 rfl) rfl (by show 2 * 0 + _ ≤ _; exact Nat.le_of_eq rfl) (hb hby d17_20) (fun _ _ => ⟨rfl, rfl, (by decide : 1 + 0 ≤ _), (by decide : 8 + 0 ≤ _)⟩)
  dsimp only [Pt.U, Pt.locs, Pt.cells, Pt.slots] at X12 l12 y12 z12 st12 hQ12
  subst l12 y12 z12
  obtain ⟨rfl, N12q, Kq12, r12_0⟩ := hQ12
  have N12 := Fr.app N6 N12q
  have sz13 := Kq12.1
  have K13 := K7.trans Kq12 (own_all1 (Or.inr (by omega)))
  have O13 := O7.keep Kq12 (own_all1 (by omega))
  have ltr12_0 := own_ltN' r12_0.lt
  refine OwnEnd.of (S' := T12.setTop (mkF m 23 #[.val (.ref b), .val (.int (1 : Int32)), .val (.int (4 : Int32)), .val (.ref t_1), .val (.int (1 : Int32))] [])) st12 ?_
  have V14 : Arv Z T12.heap t_1 kb_1 .byte (8 : Int32) [(.int (StrChars.lo8 c0)), (.int (StrChars.hi8 c0)), (.int (StrChars.lo8 c1)), (.int (StrChars.hi8 c1)), (.int (0 : Int32)), (.int (0 : Int32)), (.int (0 : Int32)), (.int (0 : Int32))] (.int (0 : Int32)) := by have q := r12_0; exact q
  refine OwnEnd.of (S' := T12.setTop (mkF m 19 #[.val (.ref b), .val (.int (2 : Int32)), .val (.int (4 : Int32)), .val (.ref t_1), .val (.int (2 : Int32))] [(.int (2 : Int32)), (.ref b), (.int (2 : Int32)), (.ref t_1)])) (fun _ kK => XS.iinc X12.here hx rfl (hb hby d17_23) rfl (l' := #[.val (.ref b), .val (.int (2 : Int32)), .val (.int (4 : Int32)), .val (.ref t_1), .val (.int (1 : Int32))]) rfl (XS.iinc X12.here hx rfl (hb hby d17_26) rfl (l' := #[.val (.ref b), .val (.int (2 : Int32)), .val (.int (4 : Int32)), .val (.ref t_1), .val (.int (2 : Int32))]) rfl (XS.goto X12.here hx rfl (pc0 := 29) (pc' := 8) rfl (hb hby d17_29) (by decide) (by decide) (XS.iload X12.here hx rfl (hb hby d17_8) rfl (XS.iloadN X12.here hx rfl (hb hby d17_10) rfl (XS.icmpNo X12.here hx rfl (hb hby d17_11) rfl (tlt ((by decide : (2 : Int32) < (4 : Int32)))).2.1 (XS.aloadN X12.here hx rfl (hb hby d17_14) rfl rfl (XS.iload X12.here hx rfl (hb hby d17_15) rfl (XS.aloadN X12.here hx rfl (hb hby d17_17) rfl rfl (XS.iloadN X12.here hx rfl (hb hby d17_18) rfl kK)))))))))) ?_
  have f15 : Arv Z T12.heap b kC .char (4 : Int32) [(.int c0), (.int c1), (.int c2), (.int c3)] dC := (f9.keep Kq12 (own_nin1 (own_ne (by omega))))
  obtain ⟨cl16, Ar16, q16, S16, N16', H16, G16⟩ := id f15
  have hin17 : ¬ ((2 : Int32) < 0 ∨ cl16.slots.size ≤ ((2 : Int32)).toNatClampNeg) := inb_of S16 ⟨by decide, by decide⟩
  refine OwnEnd.of (S' := T12.setTop (mkF m 20 #[.val (.ref b), .val (.int (2 : Int32)), .val (.int (4 : Int32)), .val (.ref t_1), .val (.int (2 : Int32))] [(.int c2), (.int (2 : Int32)), (.ref t_1)])) (fun _ kK => X12.caload hx (j := (2 : Int32)) (v := (.int c2)) Ar16.1 (State.isArrayOf_alike hZ.alike Ar16.2.1) Ar16.2.2 hin17 (Has.at H16 hin17 (rfl)) (g := (mkF m 19 #[.val (.ref b), .val (.int (2 : Int32)), .val (.int (4 : Int32)), .val (.ref t_1), .val (.int (2 : Int32))] [(.int (2 : Int32)), (.ref b), (.int (2 : Int32)), (.ref t_1)])) rfl rfl (hb hby d17_19) _ kK) ?_
  obtain ⟨_, _, ⟨T18, L18, k18, n18⟩, -, X18, ⟨Lc18, hQ18, l18, y18, z18⟩, st18⟩ := Jvm.LawKit.callS X12 hx (y := own_m15) hown (mvT hZ (own_w G 92 rfl)) (mvT hZ (own_w G 93 rfl)) (mvT hZ (own_w G 39 rfl)) (mvT hZ (own_w G 94 rfl)) (by decide) (backOf (W := 0) (rmpu2 l Z a0 G [] t_1 kb_1 (8 : Int32) [(.int (StrChars.lo8 c0)), (.int (StrChars.hi8 c0)), (.int (StrChars.lo8 c1)), (.int (StrChars.hi8 c1)), (.int (0 : Int32)), (.int (0 : Int32)), (.int (0 : Int32)), (.int (0 : Int32))] (.int (0 : Int32)) c2 T12.heap n0 O13 V14 (by decide : (4 : Int32) < (8 : Int32)) (by decide : (5 : Int32) < (8 : Int32)) (Nat.le_of_ble_eq_true rfl : 5 < [(.int (StrChars.lo8 c0)), (.int (StrChars.hi8 c0)), (.int (StrChars.lo8 c1)), (.int (StrChars.hi8 c1)), (.int (0 : Int32)), (.int (0 : Int32)), (.int (0 : Int32)), (.int (0 : Int32))].length) (by omega)) hZ (own_w G 94 rfl) (own_w G 39 rfl) (by decide) (by decide)) (g := (mkF m 20 #[.val (.ref b), .val (.int (2 : Int32)), .val (.int (4 : Int32)), .val (.ref t_1), .val (.int (2 : Int32))] [(.int c2), (.int (2 : Int32)), (.ref t_1)])) rfl (by rw [hml]; rfl) (argsL := [(.ref t_1), (.int (2 : Int32)), (.int c2)]) (rest := []) (lenOf pd_10 rfl) rfl (by show 2 * 0 + _ ≤ _; exact Nat.le_of_eq rfl) (hb hby d17_20) (fun _ _ => ⟨rfl, rfl, (by decide : 1 + 0 ≤ _), (by decide : 8 + 0 ≤ _)⟩)
  dsimp only [Pt.U, Pt.locs, Pt.cells, Pt.slots] at X18 l18 y18 z18 st18 hQ18
  subst l18 y18 z18
  obtain ⟨rfl, N18q, Kq18, r18_0⟩ := hQ18
  have N18 := Fr.app N12 N18q
  have sz19 := Kq18.1
  have K19 := K13.trans Kq18 (own_all1 (Or.inr (by omega)))
  have O19 := O13.keep Kq18 (own_all1 (by omega))
  have ltr18_0 := own_ltN' r18_0.lt
  refine OwnEnd.of (S' := T18.setTop (mkF m 23 #[.val (.ref b), .val (.int (2 : Int32)), .val (.int (4 : Int32)), .val (.ref t_1), .val (.int (2 : Int32))] [])) st18 ?_
  have V20 : Arv Z T18.heap t_1 kb_1 .byte (8 : Int32) [(.int (StrChars.lo8 c0)), (.int (StrChars.hi8 c0)), (.int (StrChars.lo8 c1)), (.int (StrChars.hi8 c1)), (.int (StrChars.lo8 c2)), (.int (StrChars.hi8 c2)), (.int (0 : Int32)), (.int (0 : Int32))] (.int (0 : Int32)) := by have q := r18_0; exact q
  refine OwnEnd.of (S' := T18.setTop (mkF m 19 #[.val (.ref b), .val (.int (3 : Int32)), .val (.int (4 : Int32)), .val (.ref t_1), .val (.int (3 : Int32))] [(.int (3 : Int32)), (.ref b), (.int (3 : Int32)), (.ref t_1)])) (fun _ kK => XS.iinc X18.here hx rfl (hb hby d17_23) rfl (l' := #[.val (.ref b), .val (.int (3 : Int32)), .val (.int (4 : Int32)), .val (.ref t_1), .val (.int (2 : Int32))]) rfl (XS.iinc X18.here hx rfl (hb hby d17_26) rfl (l' := #[.val (.ref b), .val (.int (3 : Int32)), .val (.int (4 : Int32)), .val (.ref t_1), .val (.int (3 : Int32))]) rfl (XS.goto X18.here hx rfl (pc0 := 29) (pc' := 8) rfl (hb hby d17_29) (by decide) (by decide) (XS.iload X18.here hx rfl (hb hby d17_8) rfl (XS.iloadN X18.here hx rfl (hb hby d17_10) rfl (XS.icmpNo X18.here hx rfl (hb hby d17_11) rfl (tlt ((by decide : (3 : Int32) < (4 : Int32)))).2.1 (XS.aloadN X18.here hx rfl (hb hby d17_14) rfl rfl (XS.iload X18.here hx rfl (hb hby d17_15) rfl (XS.aloadN X18.here hx rfl (hb hby d17_17) rfl rfl (XS.iloadN X18.here hx rfl (hb hby d17_18) rfl kK)))))))))) ?_
  have f21 : Arv Z T18.heap b kC .char (4 : Int32) [(.int c0), (.int c1), (.int c2), (.int c3)] dC := (f15.keep Kq18 (own_nin1 (own_ne (by omega))))
  obtain ⟨cl22, Ar22, q22, S22, N22', H22, G22⟩ := id f21
  have hin23 : ¬ ((3 : Int32) < 0 ∨ cl22.slots.size ≤ ((3 : Int32)).toNatClampNeg) := inb_of S22 ⟨by decide, by decide⟩
  refine OwnEnd.of (S' := T18.setTop (mkF m 20 #[.val (.ref b), .val (.int (3 : Int32)), .val (.int (4 : Int32)), .val (.ref t_1), .val (.int (3 : Int32))] [(.int c3), (.int (3 : Int32)), (.ref t_1)])) (fun _ kK => X18.caload hx (j := (3 : Int32)) (v := (.int c3)) Ar22.1 (State.isArrayOf_alike hZ.alike Ar22.2.1) Ar22.2.2 hin23 (Has.at H22 hin23 (rfl)) (g := (mkF m 19 #[.val (.ref b), .val (.int (3 : Int32)), .val (.int (4 : Int32)), .val (.ref t_1), .val (.int (3 : Int32))] [(.int (3 : Int32)), (.ref b), (.int (3 : Int32)), (.ref t_1)])) rfl rfl (hb hby d17_19) _ kK) ?_
  obtain ⟨_, _, ⟨T24, L24, k24, n24⟩, -, X24, ⟨Lc24, hQ24, l24, y24, z24⟩, st24⟩ := Jvm.LawKit.callS X18 hx (y := own_m15) hown (mvT hZ (own_w G 92 rfl)) (mvT hZ (own_w G 93 rfl)) (mvT hZ (own_w G 39 rfl)) (mvT hZ (own_w G 94 rfl)) (by decide) (backOf (W := 0) (rmpu3 l Z a0 G [] t_1 kb_1 (8 : Int32) [(.int (StrChars.lo8 c0)), (.int (StrChars.hi8 c0)), (.int (StrChars.lo8 c1)), (.int (StrChars.hi8 c1)), (.int (StrChars.lo8 c2)), (.int (StrChars.hi8 c2)), (.int (0 : Int32)), (.int (0 : Int32))] (.int (0 : Int32)) c3 T18.heap n0 O19 V20 (by decide : (6 : Int32) < (8 : Int32)) (by decide : (7 : Int32) < (8 : Int32)) (Nat.le_of_ble_eq_true rfl : 7 < [(.int (StrChars.lo8 c0)), (.int (StrChars.hi8 c0)), (.int (StrChars.lo8 c1)), (.int (StrChars.hi8 c1)), (.int (StrChars.lo8 c2)), (.int (StrChars.hi8 c2)), (.int (0 : Int32)), (.int (0 : Int32))].length) (by omega)) hZ (own_w G 94 rfl) (own_w G 39 rfl) (by decide) (by decide)) (g := (mkF m 20 #[.val (.ref b), .val (.int (3 : Int32)), .val (.int (4 : Int32)), .val (.ref t_1), .val (.int (3 : Int32))] [(.int c3), (.int (3 : Int32)), (.ref t_1)])) rfl (by rw [hml]; rfl) (argsL := [(.ref t_1), (.int (3 : Int32)), (.int c3)]) (rest := []) (lenOf pd_10 rfl) rfl (by show 2 * 0 + _ ≤ _; exact Nat.le_of_eq rfl) (hb hby d17_20) (fun _ _ => ⟨rfl, rfl, (by decide : 1 + 0 ≤ _), (by decide : 8 + 0 ≤ _)⟩)
  dsimp only [Pt.U, Pt.locs, Pt.cells, Pt.slots] at X24 l24 y24 z24 st24 hQ24
  subst l24 y24 z24
  obtain ⟨rfl, N24q, Kq24, r24_0⟩ := hQ24
  have N24 := Fr.app N18 N24q
  have sz25 := Kq24.1
  have K25 := K19.trans Kq24 (own_all1 (Or.inr (by omega)))
  have O25 := O19.keep Kq24 (own_all1 (by omega))
  have ltr24_0 := own_ltN' r24_0.lt
  refine OwnEnd.of (S' := T24.setTop (mkF m 23 #[.val (.ref b), .val (.int (3 : Int32)), .val (.int (4 : Int32)), .val (.ref t_1), .val (.int (3 : Int32))] [])) st24 ?_
  have V26 : Arv Z T24.heap t_1 kb_1 .byte (8 : Int32) [(.int (StrChars.lo8 c0)), (.int (StrChars.hi8 c0)), (.int (StrChars.lo8 c1)), (.int (StrChars.hi8 c1)), (.int (StrChars.lo8 c2)), (.int (StrChars.hi8 c2)), (.int (StrChars.lo8 c3)), (.int (StrChars.hi8 c3))] (.int (0 : Int32)) := by have q := r24_0; exact q
  refine OwnEnd.of (S' := T24.setTop (mkF m 33 #[.val (.ref b), .val (.int (4 : Int32)), .val (.int (4 : Int32)), .val (.ref t_1), .val (.int (4 : Int32))] [(.ref t_1)])) (fun _ kK => XS.iinc X24.here hx rfl (hb hby d17_23) rfl (l' := #[.val (.ref b), .val (.int (4 : Int32)), .val (.int (4 : Int32)), .val (.ref t_1), .val (.int (3 : Int32))]) rfl (XS.iinc X24.here hx rfl (hb hby d17_26) rfl (l' := #[.val (.ref b), .val (.int (4 : Int32)), .val (.int (4 : Int32)), .val (.ref t_1), .val (.int (4 : Int32))]) rfl (XS.goto X24.here hx rfl (pc0 := 29) (pc' := 8) rfl (hb hby d17_29) (by decide) (by decide) (XS.iload X24.here hx rfl (hb hby d17_8) rfl (XS.iloadN X24.here hx rfl (hb hby d17_10) rfl (XS.icmpYes X24.here hx rfl (pc0 := 11) (pc' := 32) rfl (hb hby d17_11) rfl (flt ((by decide : ¬ ((4 : Int32) < (4 : Int32))))).2.1 (by decide) (by decide) (XS.aloadN X24.here hx rfl (hb hby d17_32) rfl rfl kK))))))) ?_
  have V27 : Arv Z T24.heap t_1 kb_1 .byte (8 : Int32) (StrChars.Road.wideBytes [c0, c1, c2, c3]) (.int (0 : Int32)) := by have q := V26; exact q
  refine OwnEnd.ret X24 (v := (some (.ref t_1))) (fun h => by rw [Bd.returns] at h; cases h) hlk (fun fs hr => retOut X24 hx Bd.returns rfl (Or.inr (Or.inr (Or.inr (Or.inr ⟨rfl, rfl, rfl⟩)))) (hb hby d17_33) hr) (by decide) (by decide) (Q := Qby4 Z b kC dC c0 c1 c2 c3 h0 n0) rfl ?_
  exact ⟨t_1, kb_1, rfl, N24, K25, V27, (by omega)⟩

theorem own_efcv4 (m : MethodId) (b : Addr) (t : Addr) : entryFrame m #[(.ref b), (.int (0 : Int32)), (.ref t), (.int (0 : Int32)), (.int (4 : Int32))] 7 = mkF m 0 #[.val (.ref b), .val (.int (0 : Int32)), .val (.ref t), .val (.int (0 : Int32)), .val (.int (4 : Int32)), .unset, .unset] [] := by first | (simp [entryFrame, mkF, argsToLocals, Value.category]; done) | rfl
def Qcv4 (Z : State) (b : Addr) (t : Addr) (kC : ClassId) (dC : Value) (kb : ClassId) (c0 : Int32) (c1 : Int32) (c2 : Int32) (c3 : Int32) (h0 : Heap) (n0 : Nat) (v : Option Value) (h : Heap) (L : List Loc) : Prop := v = some (.int (own_first [c0, c1, c2, c3])) ∧ Fr n0 L ∧ Keep h0 h [t] ∧ (Arv Z h t kb .byte (4 : Int32) (own_cbs [c0, c1, c2, c3]) (.int (0 : Int32)))
set_option maxRecDepth 65536 in
set_option maxHeartbeats 40000000 in
theorem rmcv4 (l : Launch) (Z : State) (a0 : Array Value) (G : OwnG Z a0) (ws : List Jvm.Cond) (b : Addr) (t : Addr) (kC : ClassId) (dC : Value) (kb : ClassId) (c0 : Int32) (c1 : Int32) (c2 : Int32) (c3 : Int32) (h0 : Heap) (n0 : Nat) (O0 : Old Z n0 h0) (P0 : Arv Z h0 b kC .char (4 : Int32) [(.int c0), (.int c1), (.int c2), (.int c3)] dC) (P1 : Arv Z h0 t kb .byte (4 : Int32) [(.int (0 : Int32)), (.int (0 : Int32)), (.int (0 : Int32)), (.int (0 : Int32))] (.int (0 : Int32))) (P2 : n0 ≤ t) (P3 : b ≠ t) :
    MetFree l own_m18 (head1 (Jvm.Cond.code own_m18 jdk_52_method_21_code 7 (some .int) :: ws) ({ frames := 0, cells := 0, slots := 0, locals := 0 } : Room)) (fun a U => a = #[(.ref b), (.int (0 : Int32)), (.ref t), (.int (0 : Int32)), (.int (4 : Int32))] ∧ Z.Warmed39 U.vm ∧ U.heap = h0) (fun _ _ _ _ _ => True) (fun _ U o U' => ∃ v L, o = .returned v ∧ Qcv4 Z b t kC dC kb c0 c1 c2 c3 h0 n0 v U'.heap L ∧ FrameEnd U o U' L ({ frames := 0, cells := 0, slots := 0, locals := 0 } : Room).cells ({ frames := 0, cells := 0, slots := 0, locals := 0 } : Room).slots) := by
  refine MetFree.of_bodySF (plainFor_of_name pn_3) hisR ?_
  intro p e s m args below meth cD s₁ Bd hml0 hP hK
  obtain ⟨rfl, hZ, hh⟩ := hP
  have hw := G.1
  have hx := Bd.exec
  have hby := Bd.bytes
  have hml : cD.maxLocals = 7 := hml0
  have hown : s.vm.findClass "java/lang/StringUTF16" = some m.cls := findClass_of_methodNamed Bd.named
  have hnm := (name_of_methodNamed Bd.named Bd.method).1
  have hlk := Bd.notSynchronized
  have X0 : Stand p l e ({ frames := 0, cells := 0, slots := 0, locals := 0 } : Room) s m #[(.ref b), (.int (0 : Int32)), (.ref t), (.int (0 : Int32)), (.int (4 : Int32))] below meth cD s₁ [] 0 0 := Stand.of_body Bd
  have e0 : s₁.heap = h0 := by rw [← hh, Bd.state]; rfl
  have lt0 := own_ltN' P0.lt
  have lt1 := own_ltN' P1.lt
  have nP3 := own_neN P3
  have K0 : Keep h0 h0 [t] := Keep.refl h0 _
  have Z0 := own_old_le O0
  have N0 := Fr.nil n0
  refine OwnEnd.start (g' := (mkF m 0 #[.val (.ref b), .val (.int (0 : Int32)), .val (.ref t), .val (.int (0 : Int32)), .val (.int (4 : Int32)), .unset, .unset] [])) (own_efcv4 m b t) ?_
  refine OwnEnd.of (S' := s₁.setTop (mkF m 12 #[.val (.ref b), .val (.int (0 : Int32)), .val (.ref t), .val (.int (0 : Int32)), .val (.int (4 : Int32)), .val (.int (0 : Int32)), .unset] [(.int (0 : Int32)), (.ref b)])) (fun _ kK => XS.iconst X0.here hx rfl (hb hby d18_0) (XS.istore X0.here hx rfl (hb hby d18_1) rfl (l' := #[.val (.ref b), .val (.int (0 : Int32)), .val (.ref t), .val (.int (0 : Int32)), .val (.int (4 : Int32)), .val (.int (0 : Int32)), .unset]) rfl (XS.iload X0.here hx rfl (hb hby d18_3) rfl (XS.iload X0.here hx rfl (hb hby d18_5) rfl (XS.icmpNo X0.here hx rfl (hb hby d18_7) rfl (tlt ((by decide : (0 : Int32) < (4 : Int32)))).2.1 (XS.aloadN X0.here hx rfl (hb hby d18_10) rfl rfl (XS.iloadN X0.here hx rfl (hb hby d18_11) rfl kK))))))) ?_
  obtain ⟨cl1, Ar1, q1, S1, N1', H1, G1⟩ := id P0
  have hin2 : ¬ ((0 : Int32) < 0 ∨ cl1.slots.size ≤ ((0 : Int32)).toNatClampNeg) := inb_of S1 ⟨by decide, by decide⟩
  refine OwnEnd.of (S' := s₁.setTop (mkF m 13 #[.val (.ref b), .val (.int (0 : Int32)), .val (.ref t), .val (.int (0 : Int32)), .val (.int (4 : Int32)), .val (.int (0 : Int32)), .unset] [(.int c0)])) (fun _ kK => X0.caload hx (j := (0 : Int32)) (v := (.int c0)) (by rw [e0]; exact Ar1.1) (State.isArrayOf_alike hZ.alike Ar1.2.1) Ar1.2.2 hin2 (Has.at H1 hin2 (rfl)) (g := (mkF m 12 #[.val (.ref b), .val (.int (0 : Int32)), .val (.ref t), .val (.int (0 : Int32)), .val (.int (4 : Int32)), .val (.int (0 : Int32)), .unset] [(.int (0 : Int32)), (.ref b)])) rfl rfl (hb hby d18_12) _ kK) ?_
  refine OwnEnd.of (S' := s₁.setTop (mkF m 20 #[.val (.ref b), .val (.int (0 : Int32)), .val (.ref t), .val (.int (0 : Int32)), .val (.int (4 : Int32)), .val (.int (0 : Int32)), .val (.int c0)] [(.int (255 : Int32)), (.int c0)])) (fun _ kK => XS.istore X0.here hx rfl (hb hby d18_13) rfl (l' := #[.val (.ref b), .val (.int (0 : Int32)), .val (.ref t), .val (.int (0 : Int32)), .val (.int (4 : Int32)), .val (.int (0 : Int32)), .val (.int c0)]) rfl (XS.iload X0.here hx rfl (hb hby d18_15) rfl (XS.sipush X0.here hx rfl (hb hby d18_17) kK))) ?_
  rcases Decidable.em ((255 : Int32) < c0) with hc3 | hc3
  · refine OwnEnd.of (S' := s₁.setTop (mkF m 25 #[.val (.ref b), .val (.int (0 : Int32)), .val (.ref t), .val (.int (0 : Int32)), .val (.int (4 : Int32)), .val (.int (0 : Int32)), .val (.int c0)] [(.int (0 : Int32))])) (fun _ kK => XS.icmpNo X0.here hx rfl (hb hby d18_20) rfl (tlt (hc3)).2.2.2 (XS.iload X0.here hx rfl (hb hby d18_23) rfl kK)) ?_
    have V4 : Arv Z h0 t kb .byte (4 : Int32) (own_cbs [c0, c1, c2, c3]) (.int (0 : Int32)) := by have q := P1; simpa [own_cbs, hc3] using q
    refine OwnEnd.ret X0 (v := (some (.int (0 : Int32)))) (fun h => by rw [Bd.returns] at h; cases h) hlk (fun fs hr => retOut X0 hx Bd.returns rfl (Or.inl ⟨rfl, Or.inl rfl, _, rfl⟩) (hb hby d18_25) hr) (by decide) (by decide) (Q := Qcv4 Z b t kC dC kb c0 c1 c2 c3 h0 n0) e0 ?_
    exact ⟨(by simp [own_first, hc3]), N0, K0, V4⟩
  · refine OwnEnd.of (S' := s₁.setTop (mkF m 31 #[.val (.ref b), .val (.int (0 : Int32)), .val (.ref t), .val (.int (0 : Int32)), .val (.int (4 : Int32)), .val (.int (0 : Int32)), .val (.int c0)] [(.int (nar .byte c0)), (.int (0 : Int32)), (.ref t)])) (fun _ kK => XS.icmpYes X0.here hx rfl (pc0 := 20) (pc' := 26) rfl (hb hby d18_20) rfl (flt (hc3)).2.2.2 (by decide) (by decide) (XS.aloadN X0.here hx rfl (hb hby d18_26) rfl rfl (XS.iloadN X0.here hx rfl (hb hby d18_27) rfl (XS.iload X0.here hx rfl (hb hby d18_28) rfl (XS.i2b X0.here hx rfl (hb hby d18_30) rfl kK))))) ?_
    obtain ⟨cl5, Ar5, q5, S5, N5', H5, G5⟩ := id P1
    have hin6 : ¬ ((0 : Int32) < 0 ∨ cl5.slots.size ≤ ((0 : Int32)).toNatClampNeg) := inb_of S5 ⟨by decide, by decide⟩
    obtain ⟨T6, h6, X6, e6, W6, st6⟩ := stB X0 hx hZ e0 Ar5 (j := (0 : Int32)) hin6 (g := (mkF m 31 #[.val (.ref b), .val (.int (0 : Int32)), .val (.ref t), .val (.int (0 : Int32)), .val (.int (4 : Int32)), .val (.int (0 : Int32)), .val (.int c0)] [(.int (nar .byte c0)), (.int (0 : Int32)), (.ref t)])) rfl rfl (hb hby d18_31)
    have N6 := Fr.snoc X6 N0 (by omega)
    have sz7 := own_wr_le W6
    have K7 := K0.wr W6 (Or.inl (by simp))
    have O7 := O0.wr W6 (by omega)
    have V6 : Arv Z h6 t kb .byte (4 : Int32) [(.int (nar .byte (nar .byte c0))), (.int (0 : Int32)), (.int (0 : Int32)), (.int (0 : Int32))] (.int (0 : Int32)) := Arv.set Ar5 q5 S5 N5' H5 G5 (fits_nar_byte _) W6 0 rfl (Nat.le_of_ble_eq_true rfl)
    refine OwnEnd.of (S' := T6.setTop (mkF m 32 #[.val (.ref b), .val (.int (0 : Int32)), .val (.ref t), .val (.int (0 : Int32)), .val (.int (4 : Int32)), .val (.int (0 : Int32)), .val (.int c0)] [])) st6 ?_
    refine OwnEnd.of (S' := T6.setTop (mkF m 12 #[.val (.ref b), .val (.int (1 : Int32)), .val (.ref t), .val (.int (1 : Int32)), .val (.int (4 : Int32)), .val (.int (1 : Int32)), .val (.int c0)] [(.int (1 : Int32)), (.ref b)])) (fun _ kK => XS.iinc X6.here hx rfl (hb hby d18_32) rfl (l' := #[.val (.ref b), .val (.int (1 : Int32)), .val (.ref t), .val (.int (0 : Int32)), .val (.int (4 : Int32)), .val (.int (0 : Int32)), .val (.int c0)]) rfl (XS.iinc X6.here hx rfl (hb hby d18_35) rfl (l' := #[.val (.ref b), .val (.int (1 : Int32)), .val (.ref t), .val (.int (1 : Int32)), .val (.int (4 : Int32)), .val (.int (0 : Int32)), .val (.int c0)]) rfl (XS.iinc X6.here hx rfl (hb hby d18_38) rfl (l' := #[.val (.ref b), .val (.int (1 : Int32)), .val (.ref t), .val (.int (1 : Int32)), .val (.int (4 : Int32)), .val (.int (1 : Int32)), .val (.int c0)]) rfl (XS.goto X6.here hx rfl (pc0 := 41) (pc' := 3) rfl (hb hby d18_41) (by decide) (by decide) (XS.iload X6.here hx rfl (hb hby d18_3) rfl (XS.iload X6.here hx rfl (hb hby d18_5) rfl (XS.icmpNo X6.here hx rfl (hb hby d18_7) rfl (tlt ((by decide : (1 : Int32) < (4 : Int32)))).2.1 (XS.aloadN X6.here hx rfl (hb hby d18_10) rfl rfl (XS.iloadN X6.here hx rfl (hb hby d18_11) rfl kK))))))))) ?_
    have f8 : Arv Z h6 b kC .char (4 : Int32) [(.int c0), (.int c1), (.int c2), (.int c3)] dC := (P0.other W6 (own_ne (by omega)))
    obtain ⟨cl9, Ar9, q9, S9, N9', H9, G9⟩ := id f8
    have hin10 : ¬ ((1 : Int32) < 0 ∨ cl9.slots.size ≤ ((1 : Int32)).toNatClampNeg) := inb_of S9 ⟨by decide, by decide⟩
    refine OwnEnd.of (S' := T6.setTop (mkF m 13 #[.val (.ref b), .val (.int (1 : Int32)), .val (.ref t), .val (.int (1 : Int32)), .val (.int (4 : Int32)), .val (.int (1 : Int32)), .val (.int c0)] [(.int c1)])) (fun _ kK => X6.caload hx (j := (1 : Int32)) (v := (.int c1)) (by rw [e6]; exact Ar9.1) (State.isArrayOf_alike hZ.alike Ar9.2.1) Ar9.2.2 hin10 (Has.at H9 hin10 (rfl)) (g := (mkF m 12 #[.val (.ref b), .val (.int (1 : Int32)), .val (.ref t), .val (.int (1 : Int32)), .val (.int (4 : Int32)), .val (.int (1 : Int32)), .val (.int c0)] [(.int (1 : Int32)), (.ref b)])) rfl rfl (hb hby d18_12) _ kK) ?_
    refine OwnEnd.of (S' := T6.setTop (mkF m 20 #[.val (.ref b), .val (.int (1 : Int32)), .val (.ref t), .val (.int (1 : Int32)), .val (.int (4 : Int32)), .val (.int (1 : Int32)), .val (.int c1)] [(.int (255 : Int32)), (.int c1)])) (fun _ kK => XS.istore X6.here hx rfl (hb hby d18_13) rfl (l' := #[.val (.ref b), .val (.int (1 : Int32)), .val (.ref t), .val (.int (1 : Int32)), .val (.int (4 : Int32)), .val (.int (1 : Int32)), .val (.int c1)]) rfl (XS.iload X6.here hx rfl (hb hby d18_15) rfl (XS.sipush X6.here hx rfl (hb hby d18_17) kK))) ?_
    rcases Decidable.em ((255 : Int32) < c1) with hc11 | hc11
    · refine OwnEnd.of (S' := T6.setTop (mkF m 25 #[.val (.ref b), .val (.int (1 : Int32)), .val (.ref t), .val (.int (1 : Int32)), .val (.int (4 : Int32)), .val (.int (1 : Int32)), .val (.int c1)] [(.int (1 : Int32))])) (fun _ kK => XS.icmpNo X6.here hx rfl (hb hby d18_20) rfl (tlt (hc11)).2.2.2 (XS.iload X6.here hx rfl (hb hby d18_23) rfl kK)) ?_
      have V12 : Arv Z h6 t kb .byte (4 : Int32) (own_cbs [c0, c1, c2, c3]) (.int (0 : Int32)) := by have q := V6; simpa [own_cbs, hc3, hc11] using q
      refine OwnEnd.ret X6 (v := (some (.int (1 : Int32)))) (fun h => by rw [Bd.returns] at h; cases h) hlk (fun fs hr => retOut X6 hx Bd.returns rfl (Or.inl ⟨rfl, Or.inl rfl, _, rfl⟩) (hb hby d18_25) hr) (by decide) (by decide) (Q := Qcv4 Z b t kC dC kb c0 c1 c2 c3 h0 n0) e6 ?_
      exact ⟨(by simp [own_first, hc3, hc11]), N6, K7, V12⟩
    · refine OwnEnd.of (S' := T6.setTop (mkF m 31 #[.val (.ref b), .val (.int (1 : Int32)), .val (.ref t), .val (.int (1 : Int32)), .val (.int (4 : Int32)), .val (.int (1 : Int32)), .val (.int c1)] [(.int (nar .byte c1)), (.int (1 : Int32)), (.ref t)])) (fun _ kK => XS.icmpYes X6.here hx rfl (pc0 := 20) (pc' := 26) rfl (hb hby d18_20) rfl (flt (hc11)).2.2.2 (by decide) (by decide) (XS.aloadN X6.here hx rfl (hb hby d18_26) rfl rfl (XS.iloadN X6.here hx rfl (hb hby d18_27) rfl (XS.iload X6.here hx rfl (hb hby d18_28) rfl (XS.i2b X6.here hx rfl (hb hby d18_30) rfl kK))))) ?_
      obtain ⟨cl13, Ar13, q13, S13, N13', H13, G13⟩ := id V6
      have hin14 : ¬ ((1 : Int32) < 0 ∨ cl13.slots.size ≤ ((1 : Int32)).toNatClampNeg) := inb_of S13 ⟨by decide, by decide⟩
      obtain ⟨T14, h14, X14, e14, W14, st14⟩ := stB X6 hx hZ e6 Ar13 (j := (1 : Int32)) hin14 (g := (mkF m 31 #[.val (.ref b), .val (.int (1 : Int32)), .val (.ref t), .val (.int (1 : Int32)), .val (.int (4 : Int32)), .val (.int (1 : Int32)), .val (.int c1)] [(.int (nar .byte c1)), (.int (1 : Int32)), (.ref t)])) rfl rfl (hb hby d18_31)
      have N14 := Fr.snoc X14 N6 (by omega)
      have sz15 := own_wr_le W14
      have K15 := K7.wr W14 (Or.inl (by simp))
      have O15 := O7.wr W14 (by omega)
      have V14 : Arv Z h14 t kb .byte (4 : Int32) [(.int (nar .byte (nar .byte c0))), (.int (nar .byte (nar .byte c1))), (.int (0 : Int32)), (.int (0 : Int32))] (.int (0 : Int32)) := Arv.set Ar13 q13 S13 N13' H13 G13 (fits_nar_byte _) W14 1 rfl (Nat.le_of_ble_eq_true rfl)
      refine OwnEnd.of (S' := T14.setTop (mkF m 32 #[.val (.ref b), .val (.int (1 : Int32)), .val (.ref t), .val (.int (1 : Int32)), .val (.int (4 : Int32)), .val (.int (1 : Int32)), .val (.int c1)] [])) st14 ?_
      refine OwnEnd.of (S' := T14.setTop (mkF m 12 #[.val (.ref b), .val (.int (2 : Int32)), .val (.ref t), .val (.int (2 : Int32)), .val (.int (4 : Int32)), .val (.int (2 : Int32)), .val (.int c1)] [(.int (2 : Int32)), (.ref b)])) (fun _ kK => XS.iinc X14.here hx rfl (hb hby d18_32) rfl (l' := #[.val (.ref b), .val (.int (2 : Int32)), .val (.ref t), .val (.int (1 : Int32)), .val (.int (4 : Int32)), .val (.int (1 : Int32)), .val (.int c1)]) rfl (XS.iinc X14.here hx rfl (hb hby d18_35) rfl (l' := #[.val (.ref b), .val (.int (2 : Int32)), .val (.ref t), .val (.int (2 : Int32)), .val (.int (4 : Int32)), .val (.int (1 : Int32)), .val (.int c1)]) rfl (XS.iinc X14.here hx rfl (hb hby d18_38) rfl (l' := #[.val (.ref b), .val (.int (2 : Int32)), .val (.ref t), .val (.int (2 : Int32)), .val (.int (4 : Int32)), .val (.int (2 : Int32)), .val (.int c1)]) rfl (XS.goto X14.here hx rfl (pc0 := 41) (pc' := 3) rfl (hb hby d18_41) (by decide) (by decide) (XS.iload X14.here hx rfl (hb hby d18_3) rfl (XS.iload X14.here hx rfl (hb hby d18_5) rfl (XS.icmpNo X14.here hx rfl (hb hby d18_7) rfl (tlt ((by decide : (2 : Int32) < (4 : Int32)))).2.1 (XS.aloadN X14.here hx rfl (hb hby d18_10) rfl rfl (XS.iloadN X14.here hx rfl (hb hby d18_11) rfl kK))))))))) ?_
      have f16 : Arv Z h14 b kC .char (4 : Int32) [(.int c0), (.int c1), (.int c2), (.int c3)] dC := (f8.other W14 (own_ne (by omega)))
      obtain ⟨cl17, Ar17, q17, S17, N17', H17, G17⟩ := id f16
      have hin18 : ¬ ((2 : Int32) < 0 ∨ cl17.slots.size ≤ ((2 : Int32)).toNatClampNeg) := inb_of S17 ⟨by decide, by decide⟩
      refine OwnEnd.of (S' := T14.setTop (mkF m 13 #[.val (.ref b), .val (.int (2 : Int32)), .val (.ref t), .val (.int (2 : Int32)), .val (.int (4 : Int32)), .val (.int (2 : Int32)), .val (.int c1)] [(.int c2)])) (fun _ kK => X14.caload hx (j := (2 : Int32)) (v := (.int c2)) (by rw [e14]; exact Ar17.1) (State.isArrayOf_alike hZ.alike Ar17.2.1) Ar17.2.2 hin18 (Has.at H17 hin18 (rfl)) (g := (mkF m 12 #[.val (.ref b), .val (.int (2 : Int32)), .val (.ref t), .val (.int (2 : Int32)), .val (.int (4 : Int32)), .val (.int (2 : Int32)), .val (.int c1)] [(.int (2 : Int32)), (.ref b)])) rfl rfl (hb hby d18_12) _ kK) ?_
      refine OwnEnd.of (S' := T14.setTop (mkF m 20 #[.val (.ref b), .val (.int (2 : Int32)), .val (.ref t), .val (.int (2 : Int32)), .val (.int (4 : Int32)), .val (.int (2 : Int32)), .val (.int c2)] [(.int (255 : Int32)), (.int c2)])) (fun _ kK => XS.istore X14.here hx rfl (hb hby d18_13) rfl (l' := #[.val (.ref b), .val (.int (2 : Int32)), .val (.ref t), .val (.int (2 : Int32)), .val (.int (4 : Int32)), .val (.int (2 : Int32)), .val (.int c2)]) rfl (XS.iload X14.here hx rfl (hb hby d18_15) rfl (XS.sipush X14.here hx rfl (hb hby d18_17) kK))) ?_
      rcases Decidable.em ((255 : Int32) < c2) with hc19 | hc19
      · refine OwnEnd.of (S' := T14.setTop (mkF m 25 #[.val (.ref b), .val (.int (2 : Int32)), .val (.ref t), .val (.int (2 : Int32)), .val (.int (4 : Int32)), .val (.int (2 : Int32)), .val (.int c2)] [(.int (2 : Int32))])) (fun _ kK => XS.icmpNo X14.here hx rfl (hb hby d18_20) rfl (tlt (hc19)).2.2.2 (XS.iload X14.here hx rfl (hb hby d18_23) rfl kK)) ?_
        have V20 : Arv Z h14 t kb .byte (4 : Int32) (own_cbs [c0, c1, c2, c3]) (.int (0 : Int32)) := by have q := V14; simpa [own_cbs, hc3, hc11, hc19] using q
        refine OwnEnd.ret X14 (v := (some (.int (2 : Int32)))) (fun h => by rw [Bd.returns] at h; cases h) hlk (fun fs hr => retOut X14 hx Bd.returns rfl (Or.inl ⟨rfl, Or.inl rfl, _, rfl⟩) (hb hby d18_25) hr) (by decide) (by decide) (Q := Qcv4 Z b t kC dC kb c0 c1 c2 c3 h0 n0) e14 ?_
        exact ⟨(by simp [own_first, hc3, hc11, hc19]), N14, K15, V20⟩
      · refine OwnEnd.of (S' := T14.setTop (mkF m 31 #[.val (.ref b), .val (.int (2 : Int32)), .val (.ref t), .val (.int (2 : Int32)), .val (.int (4 : Int32)), .val (.int (2 : Int32)), .val (.int c2)] [(.int (nar .byte c2)), (.int (2 : Int32)), (.ref t)])) (fun _ kK => XS.icmpYes X14.here hx rfl (pc0 := 20) (pc' := 26) rfl (hb hby d18_20) rfl (flt (hc19)).2.2.2 (by decide) (by decide) (XS.aloadN X14.here hx rfl (hb hby d18_26) rfl rfl (XS.iloadN X14.here hx rfl (hb hby d18_27) rfl (XS.iload X14.here hx rfl (hb hby d18_28) rfl (XS.i2b X14.here hx rfl (hb hby d18_30) rfl kK))))) ?_
        obtain ⟨cl21, Ar21, q21, S21, N21', H21, G21⟩ := id V14
        have hin22 : ¬ ((2 : Int32) < 0 ∨ cl21.slots.size ≤ ((2 : Int32)).toNatClampNeg) := inb_of S21 ⟨by decide, by decide⟩
        obtain ⟨T22, h22, X22, e22, W22, st22⟩ := stB X14 hx hZ e14 Ar21 (j := (2 : Int32)) hin22 (g := (mkF m 31 #[.val (.ref b), .val (.int (2 : Int32)), .val (.ref t), .val (.int (2 : Int32)), .val (.int (4 : Int32)), .val (.int (2 : Int32)), .val (.int c2)] [(.int (nar .byte c2)), (.int (2 : Int32)), (.ref t)])) rfl rfl (hb hby d18_31)
        have N22 := Fr.snoc X22 N14 (by omega)
        have sz23 := own_wr_le W22
        have K23 := K15.wr W22 (Or.inl (by simp))
        have O23 := O15.wr W22 (by omega)
        have V22 : Arv Z h22 t kb .byte (4 : Int32) [(.int (nar .byte (nar .byte c0))), (.int (nar .byte (nar .byte c1))), (.int (nar .byte (nar .byte c2))), (.int (0 : Int32))] (.int (0 : Int32)) := Arv.set Ar21 q21 S21 N21' H21 G21 (fits_nar_byte _) W22 2 rfl (Nat.le_of_ble_eq_true rfl)
        refine OwnEnd.of (S' := T22.setTop (mkF m 32 #[.val (.ref b), .val (.int (2 : Int32)), .val (.ref t), .val (.int (2 : Int32)), .val (.int (4 : Int32)), .val (.int (2 : Int32)), .val (.int c2)] [])) st22 ?_
        refine OwnEnd.of (S' := T22.setTop (mkF m 12 #[.val (.ref b), .val (.int (3 : Int32)), .val (.ref t), .val (.int (3 : Int32)), .val (.int (4 : Int32)), .val (.int (3 : Int32)), .val (.int c2)] [(.int (3 : Int32)), (.ref b)])) (fun _ kK => XS.iinc X22.here hx rfl (hb hby d18_32) rfl (l' := #[.val (.ref b), .val (.int (3 : Int32)), .val (.ref t), .val (.int (2 : Int32)), .val (.int (4 : Int32)), .val (.int (2 : Int32)), .val (.int c2)]) rfl (XS.iinc X22.here hx rfl (hb hby d18_35) rfl (l' := #[.val (.ref b), .val (.int (3 : Int32)), .val (.ref t), .val (.int (3 : Int32)), .val (.int (4 : Int32)), .val (.int (2 : Int32)), .val (.int c2)]) rfl (XS.iinc X22.here hx rfl (hb hby d18_38) rfl (l' := #[.val (.ref b), .val (.int (3 : Int32)), .val (.ref t), .val (.int (3 : Int32)), .val (.int (4 : Int32)), .val (.int (3 : Int32)), .val (.int c2)]) rfl (XS.goto X22.here hx rfl (pc0 := 41) (pc' := 3) rfl (hb hby d18_41) (by decide) (by decide) (XS.iload X22.here hx rfl (hb hby d18_3) rfl (XS.iload X22.here hx rfl (hb hby d18_5) rfl (XS.icmpNo X22.here hx rfl (hb hby d18_7) rfl (tlt ((by decide : (3 : Int32) < (4 : Int32)))).2.1 (XS.aloadN X22.here hx rfl (hb hby d18_10) rfl rfl (XS.iloadN X22.here hx rfl (hb hby d18_11) rfl kK))))))))) ?_
        have f24 : Arv Z h22 b kC .char (4 : Int32) [(.int c0), (.int c1), (.int c2), (.int c3)] dC := (f16.other W22 (own_ne (by omega)))
        obtain ⟨cl25, Ar25, q25, S25, N25', H25, G25⟩ := id f24
        have hin26 : ¬ ((3 : Int32) < 0 ∨ cl25.slots.size ≤ ((3 : Int32)).toNatClampNeg) := inb_of S25 ⟨by decide, by decide⟩
        refine OwnEnd.of (S' := T22.setTop (mkF m 13 #[.val (.ref b), .val (.int (3 : Int32)), .val (.ref t), .val (.int (3 : Int32)), .val (.int (4 : Int32)), .val (.int (3 : Int32)), .val (.int c2)] [(.int c3)])) (fun _ kK => X22.caload hx (j := (3 : Int32)) (v := (.int c3)) (by rw [e22]; exact Ar25.1) (State.isArrayOf_alike hZ.alike Ar25.2.1) Ar25.2.2 hin26 (Has.at H25 hin26 (rfl)) (g := (mkF m 12 #[.val (.ref b), .val (.int (3 : Int32)), .val (.ref t), .val (.int (3 : Int32)), .val (.int (4 : Int32)), .val (.int (3 : Int32)), .val (.int c2)] [(.int (3 : Int32)), (.ref b)])) rfl rfl (hb hby d18_12) _ kK) ?_
        refine OwnEnd.of (S' := T22.setTop (mkF m 20 #[.val (.ref b), .val (.int (3 : Int32)), .val (.ref t), .val (.int (3 : Int32)), .val (.int (4 : Int32)), .val (.int (3 : Int32)), .val (.int c3)] [(.int (255 : Int32)), (.int c3)])) (fun _ kK => XS.istore X22.here hx rfl (hb hby d18_13) rfl (l' := #[.val (.ref b), .val (.int (3 : Int32)), .val (.ref t), .val (.int (3 : Int32)), .val (.int (4 : Int32)), .val (.int (3 : Int32)), .val (.int c3)]) rfl (XS.iload X22.here hx rfl (hb hby d18_15) rfl (XS.sipush X22.here hx rfl (hb hby d18_17) kK))) ?_
        rcases Decidable.em ((255 : Int32) < c3) with hc27 | hc27
        · refine OwnEnd.of (S' := T22.setTop (mkF m 25 #[.val (.ref b), .val (.int (3 : Int32)), .val (.ref t), .val (.int (3 : Int32)), .val (.int (4 : Int32)), .val (.int (3 : Int32)), .val (.int c3)] [(.int (3 : Int32))])) (fun _ kK => XS.icmpNo X22.here hx rfl (hb hby d18_20) rfl (tlt (hc27)).2.2.2 (XS.iload X22.here hx rfl (hb hby d18_23) rfl kK)) ?_
          have V28 : Arv Z h22 t kb .byte (4 : Int32) (own_cbs [c0, c1, c2, c3]) (.int (0 : Int32)) := by have q := V22; simpa [own_cbs, hc3, hc11, hc19, hc27] using q
          refine OwnEnd.ret X22 (v := (some (.int (3 : Int32)))) (fun h => by rw [Bd.returns] at h; cases h) hlk (fun fs hr => retOut X22 hx Bd.returns rfl (Or.inl ⟨rfl, Or.inl rfl, _, rfl⟩) (hb hby d18_25) hr) (by decide) (by decide) (Q := Qcv4 Z b t kC dC kb c0 c1 c2 c3 h0 n0) e22 ?_
          exact ⟨(by simp [own_first, hc3, hc11, hc19, hc27]), N22, K23, V28⟩
        · refine OwnEnd.of (S' := T22.setTop (mkF m 31 #[.val (.ref b), .val (.int (3 : Int32)), .val (.ref t), .val (.int (3 : Int32)), .val (.int (4 : Int32)), .val (.int (3 : Int32)), .val (.int c3)] [(.int (nar .byte c3)), (.int (3 : Int32)), (.ref t)])) (fun _ kK => XS.icmpYes X22.here hx rfl (pc0 := 20) (pc' := 26) rfl (hb hby d18_20) rfl (flt (hc27)).2.2.2 (by decide) (by decide) (XS.aloadN X22.here hx rfl (hb hby d18_26) rfl rfl (XS.iloadN X22.here hx rfl (hb hby d18_27) rfl (XS.iload X22.here hx rfl (hb hby d18_28) rfl (XS.i2b X22.here hx rfl (hb hby d18_30) rfl kK))))) ?_
          obtain ⟨cl29, Ar29, q29, S29, N29', H29, G29⟩ := id V22
          have hin30 : ¬ ((3 : Int32) < 0 ∨ cl29.slots.size ≤ ((3 : Int32)).toNatClampNeg) := inb_of S29 ⟨by decide, by decide⟩
          obtain ⟨T30, h30, X30, e30, W30, st30⟩ := stB X22 hx hZ e22 Ar29 (j := (3 : Int32)) hin30 (g := (mkF m 31 #[.val (.ref b), .val (.int (3 : Int32)), .val (.ref t), .val (.int (3 : Int32)), .val (.int (4 : Int32)), .val (.int (3 : Int32)), .val (.int c3)] [(.int (nar .byte c3)), (.int (3 : Int32)), (.ref t)])) rfl rfl (hb hby d18_31)
          have N30 := Fr.snoc X30 N22 (by omega)
          have sz31 := own_wr_le W30
          have K31 := K23.wr W30 (Or.inl (by simp))
          have O31 := O23.wr W30 (by omega)
          have V30 : Arv Z h30 t kb .byte (4 : Int32) [(.int (nar .byte (nar .byte c0))), (.int (nar .byte (nar .byte c1))), (.int (nar .byte (nar .byte c2))), (.int (nar .byte (nar .byte c3)))] (.int (0 : Int32)) := Arv.set Ar29 q29 S29 N29' H29 G29 (fits_nar_byte _) W30 3 rfl (Nat.le_of_ble_eq_true rfl)
          refine OwnEnd.of (S' := T30.setTop (mkF m 32 #[.val (.ref b), .val (.int (3 : Int32)), .val (.ref t), .val (.int (3 : Int32)), .val (.int (4 : Int32)), .val (.int (3 : Int32)), .val (.int c3)] [])) st30 ?_
          refine OwnEnd.of (S' := T30.setTop (mkF m 46 #[.val (.ref b), .val (.int (4 : Int32)), .val (.ref t), .val (.int (4 : Int32)), .val (.int (4 : Int32)), .val (.int (4 : Int32)), .val (.int c3)] [(.int (4 : Int32))])) (fun _ kK => XS.iinc X30.here hx rfl (hb hby d18_32) rfl (l' := #[.val (.ref b), .val (.int (4 : Int32)), .val (.ref t), .val (.int (3 : Int32)), .val (.int (4 : Int32)), .val (.int (3 : Int32)), .val (.int c3)]) rfl (XS.iinc X30.here hx rfl (hb hby d18_35) rfl (l' := #[.val (.ref b), .val (.int (4 : Int32)), .val (.ref t), .val (.int (4 : Int32)), .val (.int (4 : Int32)), .val (.int (3 : Int32)), .val (.int c3)]) rfl (XS.iinc X30.here hx rfl (hb hby d18_38) rfl (l' := #[.val (.ref b), .val (.int (4 : Int32)), .val (.ref t), .val (.int (4 : Int32)), .val (.int (4 : Int32)), .val (.int (4 : Int32)), .val (.int c3)]) rfl (XS.goto X30.here hx rfl (pc0 := 41) (pc' := 3) rfl (hb hby d18_41) (by decide) (by decide) (XS.iload X30.here hx rfl (hb hby d18_3) rfl (XS.iload X30.here hx rfl (hb hby d18_5) rfl (XS.icmpYes X30.here hx rfl (pc0 := 7) (pc' := 44) rfl (hb hby d18_7) rfl (flt ((by decide : ¬ ((4 : Int32) < (4 : Int32))))).2.1 (by decide) (by decide) (XS.iload X30.here hx rfl (hb hby d18_44) rfl kK)))))))) ?_
          have V32 : Arv Z h30 t kb .byte (4 : Int32) (own_cbs [c0, c1, c2, c3]) (.int (0 : Int32)) := by have q := V30; simpa [own_cbs, hc3, hc11, hc19, hc27] using q
          refine OwnEnd.ret X30 (v := (some (.int (4 : Int32)))) (fun h => by rw [Bd.returns] at h; cases h) hlk (fun fs hr => retOut X30 hx Bd.returns rfl (Or.inl ⟨rfl, Or.inl rfl, _, rfl⟩) (hb hby d18_46) hr) (by decide) (by decide) (Q := Qcv4 Z b t kC dC kb c0 c1 c2 c3 h0 n0) e30 ?_
          exact ⟨(by simp [own_first, hc3, hc11, hc19, hc27]), N30, K31, V32⟩

theorem own_efcw4 (m : MethodId) (b : Addr) : entryFrame m #[(.ref b), (.int (0 : Int32)), (.int (4 : Int32))] 6 = mkF m 0 #[.val (.ref b), .val (.int (0 : Int32)), .val (.int (4 : Int32)), .unset, .unset, .unset] [] := by first | (simp [entryFrame, mkF, argsToLocals, Value.category]; done) | rfl
def Qcw4 (Z : State) (b : Addr) (kC : ClassId) (dC : Value) (c0 : Int32) (c1 : Int32) (c2 : Int32) (c3 : Int32) (h0 : Heap) (n0 : Nat) (v : Option Value) (h : Heap) (L : List Loc) : Prop := ∃ (t : Addr) (kb : ClassId) (N : Int32) (vs : List Value) (cd : Int32), v = some (.ref t) ∧ Fr n0 L ∧ Keep h0 h [] ∧ (Arv Z h t kb .byte N vs (.int (0 : Int32))) ∧ (StrChars.Road.CodA [c0, c1, c2, c3] cd N vs) ∧ (Array.size h0 ≤ t)
set_option maxRecDepth 65536 in
set_option maxHeartbeats 40000000 in
theorem rmcw4 (l : Launch) (Z : State) (a0 : Array Value) (G : OwnG Z a0) (ws : List Jvm.Cond) (b : Addr) (kC : ClassId) (dC : Value) (c0 : Int32) (c1 : Int32) (c2 : Int32) (c3 : Int32) (h0 : Heap) (n0 : Nat) (O0 : Old Z n0 h0) (P0 : Arv Z h0 b kC .char (4 : Int32) [(.int c0), (.int c1), (.int c2), (.int c3)] dC) (P1 : ∀ c ∈ ([c0, c1, c2, c3] : List Int32), ¬ c < (0 : Int32) ∧ ¬ (65535 : Int32) < c) :
    MetFree l own_m19 (head1 (Jvm.Cond.code own_m19 jdk_52_method_16_code 6 (some (.array .byte)) :: ws) ({ frames := 3, cells := 2, slots := 12, locals := 40 } : Room)) (fun a U => a = #[(.ref b), (.int (0 : Int32)), (.int (4 : Int32))] ∧ Z.Warmed39 U.vm ∧ U.heap = h0) (fun _ _ _ _ _ => True) (fun _ U o U' => ∃ v L, o = .returned v ∧ Qcw4 Z b kC dC c0 c1 c2 c3 h0 n0 v U'.heap L ∧ FrameEnd U o U' L ({ frames := 3, cells := 2, slots := 12, locals := 40 } : Room).cells ({ frames := 3, cells := 2, slots := 12, locals := 40 } : Room).slots) := by
  refine MetFree.of_bodySF (plainFor_of_name pn_3) hisR ?_
  intro p e s m args below meth cD s₁ Bd hml0 hP hK
  obtain ⟨rfl, hZ, hh⟩ := hP
  have hw := G.1
  have hx := Bd.exec
  have hby := Bd.bytes
  have hml : cD.maxLocals = 6 := hml0
  have hown : s.vm.findClass "java/lang/StringUTF16" = some m.cls := findClass_of_methodNamed Bd.named
  have hnm := (name_of_methodNamed Bd.named Bd.method).1
  have hlk := Bd.notSynchronized
  have X0 : Stand p l e ({ frames := 3, cells := 2, slots := 12, locals := 40 } : Room) s m #[(.ref b), (.int (0 : Int32)), (.int (4 : Int32))] below meth cD s₁ [] 0 0 := Stand.of_body Bd
  have e0 : s₁.heap = h0 := by rw [← hh, Bd.state]; rfl
  have lt0 := own_ltN' P0.lt
  have K0 : Keep h0 h0 [] := Keep.refl h0 _
  have Z0 := own_old_le O0
  have N0 := Fr.nil n0
  refine OwnEnd.start (g' := (mkF m 0 #[.val (.ref b), .val (.int (0 : Int32)), .val (.int (4 : Int32)), .unset, .unset, .unset] [])) (own_efcw4 m b) ?_
  refine OwnEnd.of (S' := s₁.setTop (mkF m 1 #[.val (.ref b), .val (.int (0 : Int32)), .val (.int (4 : Int32)), .unset, .unset, .unset] [(.int (4 : Int32))])) (fun _ kK => XS.iloadN X0.here hx rfl (hb hby d19_0) rfl kK) ?_
  obtain ⟨T1, h1, k1, X1, e1, E1, A1, st1⟩ := newP X0 hx hZ (own_w G 20 rfl) e0 (g := (mkF m 1 #[.val (.ref b), .val (.int (0 : Int32)), .val (.int (4 : Int32)), .unset, .unset, .unset] [(.int (4 : Int32))])) rfl (hb hby d19_1) rfl (by decide) (cap := 4) (by decide) (by decide) (by decide) (by decide)
  obtain ⟨b1, g1⟩ : ∃ z, z = Array.size h0 := ⟨_, rfl⟩
  rw [← g1] at A1 st1
  have lt_b1 := own_ltN' A1.lt
  have sz2 := E1.1
  have K2 := K0.ext E1
  have O2 := O0.ext E1
  have V1 : Arv Z h1 b1 k1 .byte (4 : Int32) [(.int (0 : Int32)), (.int (0 : Int32)), (.int (0 : Int32)), (.int (0 : Int32))] (.int (0 : Int32)) := (Arv.new A1 (by decide)).pad (pad_rep [] (.int (0 : Int32)) 4)
  refine OwnEnd.of (S' := T1.setTop (mkF m 3 #[.val (.ref b), .val (.int (0 : Int32)), .val (.int (4 : Int32)), .unset, .unset, .unset] [(.ref b1)])) st1 ?_
  refine OwnEnd.of (S' := T1.setTop (mkF m 9 #[.val (.ref b), .val (.int (0 : Int32)), .val (.int (4 : Int32)), .val (.ref b1), .unset, .unset] [(.int (4 : Int32)), (.int (0 : Int32)), (.ref b1), (.int (0 : Int32)), (.ref b)])) (fun _ kK => XS.astoreN X1.here hx rfl (hb hby d19_3) rfl rfl (l' := #[.val (.ref b), .val (.int (0 : Int32)), .val (.int (4 : Int32)), .val (.ref b1), .unset, .unset]) rfl (XS.aloadN X1.here hx rfl (hb hby d19_4) rfl rfl (XS.iloadN X1.here hx rfl (hb hby d19_5) rfl (XS.aloadN X1.here hx rfl (hb hby d19_6) rfl rfl (XS.iconst X1.here hx rfl (hb hby d19_7) (XS.iloadN X1.here hx rfl (hb hby d19_8) rfl kK)))))) ?_
  have f3 : Arv Z h1 b kC .char (4 : Int32) [(.int c0), (.int c1), (.int c2), (.int c3)] dC := (P0.ext E1)
  obtain ⟨_, _, ⟨T4, L4, k4, n4⟩, -, X4, ⟨Lc4, hQ4, l4, y4, z4⟩, st4⟩ := Jvm.LawKit.callS X1 hx (y := own_m18) hown (mvT hZ (own_w G 41 rfl)) (mvT hZ (own_w G 42 rfl)) (mvT hZ (own_w G 39 rfl)) (mvT hZ (own_w G 43 rfl)) (by decide) (backOf (W := 0) (rmcv4 l Z a0 G [] b b1 kC dC k1 c0 c1 c2 c3 h1 n0 O2 f3 V1 (by omega) (own_ne (by omega) : b ≠ b1)) hZ (own_w G 43 rfl) (own_w G 39 rfl) (by decide) (by decide)) (g := (mkF m 9 #[.val (.ref b), .val (.int (0 : Int32)), .val (.int (4 : Int32)), .val (.ref b1), .unset, .unset] [(.int (4 : Int32)), (.int (0 : Int32)), (.ref b1), (.int (0 : Int32)), (.ref b)])) rfl (by rw [hml]; rfl) (argsL := [(.ref b), (.int (0 : Int32)), (.ref b1), (.int (0 : Int32)), (.int (4 : Int32))]) (rest := []) (lenOf pd_11 rfl) rfl (by show 2 * 0 + _ ≤ _; exact Nat.le_of_eq rfl) (hb hby d19_9) (fun _ _ => ⟨rfl, e1, (by decide : 1 + 0 ≤ _), (by decide : 4 + 0 ≤ _)⟩)
  dsimp only [Pt.U, Pt.locs, Pt.cells, Pt.slots] at X4 l4 y4 z4 st4 hQ4
  subst l4 y4 z4
  obtain ⟨rfl, N4q, Kq4, r4_0⟩ := hQ4
  have N4 := Fr.app N0 N4q
  have sz5 := Kq4.1
  have K5 := K2.trans Kq4 (own_all1 (Or.inr (by omega)))
  have O5 := O2.keep Kq4 (own_all1 (by omega))
  have ltr4_0 := own_ltN' r4_0.lt
  refine OwnEnd.of (S' := T4.setTop (mkF m 12 #[.val (.ref b), .val (.int (0 : Int32)), .val (.int (4 : Int32)), .val (.ref b1), .unset, .unset] [(.int (own_first [c0, c1, c2, c3]))])) st4 ?_
  rcases own_first4 c0 c1 c2 c3 with hr | hr | hr | hr | hr
  · rw [hr.1]
    refine OwnEnd.of (S' := T4.setTop (mkF m 23 #[.val (.ref b), .val (.int (0 : Int32)), .val (.int (4 : Int32)), .val (.ref b1), .val (.int (0 : Int32)), .unset] [(.int (4 : Int32)), (.int (0 : Int32)), (.ref b)])) (fun _ kK => XS.istore X4.here hx rfl (hb hby d19_12) rfl (l' := #[.val (.ref b), .val (.int (0 : Int32)), .val (.int (4 : Int32)), .val (.ref b1), .val (.int (0 : Int32)), .unset]) rfl (XS.iload X4.here hx rfl (hb hby d19_14) rfl (XS.iloadN X4.here hx rfl (hb hby d19_16) rfl (XS.icmpNo X4.here hx rfl (hb hby d19_17) rfl (feq ((by decide : ¬ ((0 : Int32) = (4 : Int32))))).1 (XS.aloadN X4.here hx rfl (hb hby d19_20) rfl rfl (XS.iloadN X4.here hx rfl (hb hby d19_21) rfl (XS.iloadN X4.here hx rfl (hb hby d19_22) rfl kK))))))) ?_
    have f6 : Arv Z T4.heap b kC .char (4 : Int32) [(.int c0), (.int c1), (.int c2), (.int c3)] dC := (f3.keep Kq4 (own_nin1 (own_ne (by omega))))
    obtain ⟨_, _, ⟨T7, L7, k7, n7⟩, -, X7, ⟨Lc7, hQ7, l7, y7, z7⟩, st7⟩ := Jvm.LawKit.callS X4 hx (y := own_m17) hown (mvT hZ (own_w G 82 rfl)) (mvT hZ (own_w G 83 rfl)) (mvT hZ (own_w G 39 rfl)) (mvT hZ (own_w G 84 rfl)) (by decide) (backOf (W := 0) (rmby4 l Z a0 G [] b kC dC c0 c1 c2 c3 T4.heap n0 O5 f6) hZ (own_w G 84 rfl) (own_w G 39 rfl) (by decide) (by decide)) (g := (mkF m 23 #[.val (.ref b), .val (.int (0 : Int32)), .val (.int (4 : Int32)), .val (.ref b1), .val (.int (0 : Int32)), .unset] [(.int (4 : Int32)), (.int (0 : Int32)), (.ref b)])) rfl (by rw [hml]; rfl) (argsL := [(.ref b), (.int (0 : Int32)), (.int (4 : Int32))]) (rest := []) (lenOf pd_12 rfl) rfl (by show 2 * 0 + _ ≤ _; exact Nat.le_of_eq rfl) (hb hby d19_23) (fun _ _ => ⟨rfl, rfl, (by decide : 1 + 1 ≤ _), (by decide : 4 + 8 ≤ _)⟩)
    dsimp only [Pt.U, Pt.locs, Pt.cells, Pt.slots] at X7 l7 y7 z7 st7 hQ7
    subst l7 y7 z7
    obtain ⟨t_7, kb_7, rfl, N7q, Kq7, r7_0, r7_1⟩ := hQ7
    have N7 := Fr.app N4 N7q
    have sz8 := Kq7.1
    have K8 := K5.trans Kq7 (own_all0 )
    have O8 := O5.keep Kq7 (own_all0 )
    have ltr7_0 := own_ltN' r7_0.lt
    refine OwnEnd.of (S' := T7.setTop (mkF m 26 #[.val (.ref b), .val (.int (0 : Int32)), .val (.int (4 : Int32)), .val (.ref b1), .val (.int (0 : Int32)), .unset] [(.ref t_7)])) st7 ?_
    refine OwnEnd.of (S' := T7.setTop (mkF m 32 #[.val (.ref b), .val (.int (0 : Int32)), .val (.int (4 : Int32)), .val (.ref b1), .val (.int (0 : Int32)), .val (.ref t_7)] [(.int (0 : Int32)), (.ref t_7)])) (fun _ kK => XS.astore X7.here hx rfl (hb hby d19_26) rfl rfl (l' := #[.val (.ref b), .val (.int (0 : Int32)), .val (.int (4 : Int32)), .val (.ref b1), .val (.int (0 : Int32)), .val (.ref t_7)]) rfl (XS.aload X7.here hx rfl (hb hby d19_28) rfl rfl (XS.iload X7.here hx rfl (hb hby d19_30) rfl kK))) ?_
    obtain ⟨_, _, ⟨T9, L9, k9, n9⟩, -, X9, ⟨Lc9, hQ9, l9, y9, z9⟩, st9⟩ := Jvm.LawKit.callS X7 hx (y := own_m11) hown (mvT hZ (own_w G 98 rfl)) (mvT hZ (own_w G 99 rfl)) (mvT hZ (own_w G 39 rfl)) (mvT hZ (own_w G 100 rfl)) (by decide) (backOf (W := 0) (rmgc l Z a0 G [] t_7 kb_7 (8 : Int32) (StrChars.Road.wideBytes [c0, c1, c2, c3]) (.int (0 : Int32)) (0 : Int32) (0 : Int32) c0 T7.heap n0 O8 r7_0 (by decide : (0 : Int32) <<< ((1 : Int32) &&& 31) = (0 : Int32)) (by decide : ¬ (0 : Int32) < (0 : Int32)) (by decide : (0 : Int32) < (8 : Int32)) (by decide : ¬ ((0 : Int32) + (1 : Int32)) < (0 : Int32)) (by decide : ((0 : Int32) + (1 : Int32)) < (8 : Int32)) (by rfl : (StrChars.Road.wideBytes [c0, c1, c2, c3]).getD (0 : Int32).toNatClampNeg (.int (0 : Int32)) = (.int (StrChars.lo8 c0))) (by rfl : (StrChars.Road.wideBytes [c0, c1, c2, c3]).getD ((0 : Int32) + (1 : Int32)).toNatClampNeg (.int (0 : Int32)) = (.int (StrChars.hi8 c0))) (P1 c0 (by simp))) hZ (own_w G 100 rfl) (own_w G 39 rfl) (by decide) (by decide)) (g := (mkF m 32 #[.val (.ref b), .val (.int (0 : Int32)), .val (.int (4 : Int32)), .val (.ref b1), .val (.int (0 : Int32)), .val (.ref t_7)] [(.int (0 : Int32)), (.ref t_7)])) rfl (by rw [hml]; rfl) (argsL := [(.ref t_7), (.int (0 : Int32))]) (rest := []) (lenOf pd_6 rfl) rfl (by show 2 * 0 + _ ≤ _; exact Nat.le_of_eq rfl) (hb hby d19_32) (fun _ _ => ⟨rfl, rfl, (by decide : 2 + 0 ≤ _), (by decide : 12 + 0 ≤ _)⟩)
    dsimp only [Pt.U, Pt.locs, Pt.cells, Pt.slots] at X9 l9 y9 z9 st9 hQ9
    subst l9 y9 z9
    obtain ⟨rfl, N9q, eh9⟩ := hQ9
    have N9 := Fr.app N7 N9q
    refine OwnEnd.of (S' := T9.setTop (mkF m 35 #[.val (.ref b), .val (.int (0 : Int32)), .val (.int (4 : Int32)), .val (.ref b1), .val (.int (0 : Int32)), .val (.ref t_7)] [(.int c0)])) st9 ?_
    refine OwnEnd.of (S' := T9.setTop (mkF m 56 #[.val (.ref b), .val (.int (0 : Int32)), .val (.int (4 : Int32)), .val (.ref b1), .val (.int (0 : Int32)), .val (.ref t_7)] [(.ref t_7)])) (fun _ kK => XS.sipush X9.here hx rfl (hb hby d19_35) (XS.icmpYes X9.here hx rfl (pc0 := 38) (pc' := 54) rfl (hb hby d19_38) rfl (tlt (hr.2)).2.2.1 (by decide) (by decide) (XS.aload X9.here hx rfl (hb hby d19_54) rfl rfl kK))) ?_
    refine OwnEnd.ret X9 (v := (some (.ref t_7))) (fun h => by rw [Bd.returns] at h; cases h) hlk (fun fs hr => retOut X9 hx Bd.returns rfl (Or.inr (Or.inr (Or.inr (Or.inr ⟨rfl, rfl, rfl⟩)))) (hb hby d19_56) hr) (by decide) (by decide) (Q := Qcw4 Z b kC dC c0 c1 c2 c3 h0 n0) eh9 ?_
    exact ⟨t_7, kb_7, (8 : Int32), (StrChars.Road.wideBytes [c0, c1, c2, c3]), (1 : Int32), rfl, N9, K8, r7_0, (Or.inr ⟨rfl, rfl, rfl, c0, by simp, hr.2⟩), (by omega)⟩
  · rw [hr.1]
    refine OwnEnd.of (S' := T4.setTop (mkF m 23 #[.val (.ref b), .val (.int (0 : Int32)), .val (.int (4 : Int32)), .val (.ref b1), .val (.int (1 : Int32)), .unset] [(.int (4 : Int32)), (.int (0 : Int32)), (.ref b)])) (fun _ kK => XS.istore X4.here hx rfl (hb hby d19_12) rfl (l' := #[.val (.ref b), .val (.int (0 : Int32)), .val (.int (4 : Int32)), .val (.ref b1), .val (.int (1 : Int32)), .unset]) rfl (XS.iload X4.here hx rfl (hb hby d19_14) rfl (XS.iloadN X4.here hx rfl (hb hby d19_16) rfl (XS.icmpNo X4.here hx rfl (hb hby d19_17) rfl (feq ((by decide : ¬ ((1 : Int32) = (4 : Int32))))).1 (XS.aloadN X4.here hx rfl (hb hby d19_20) rfl rfl (XS.iloadN X4.here hx rfl (hb hby d19_21) rfl (XS.iloadN X4.here hx rfl (hb hby d19_22) rfl kK))))))) ?_
    have f10 : Arv Z T4.heap b kC .char (4 : Int32) [(.int c0), (.int c1), (.int c2), (.int c3)] dC := (f3.keep Kq4 (own_nin1 (own_ne (by omega))))
    obtain ⟨_, _, ⟨T11, L11, k11, n11⟩, -, X11, ⟨Lc11, hQ11, l11, y11, z11⟩, st11⟩ := Jvm.LawKit.callS X4 hx (y := own_m17) hown (mvT hZ (own_w G 82 rfl)) (mvT hZ (own_w G 83 rfl)) (mvT hZ (own_w G 39 rfl)) (mvT hZ (own_w G 84 rfl)) (by decide) (backOf (W := 0) (rmby4 l Z a0 G [] b kC dC c0 c1 c2 c3 T4.heap n0 O5 f10) hZ (own_w G 84 rfl) (own_w G 39 rfl) (by decide) (by decide)) (g := (mkF m 23 #[.val (.ref b), .val (.int (0 : Int32)), .val (.int (4 : Int32)), .val (.ref b1), .val (.int (1 : Int32)), .unset] [(.int (4 : Int32)), (.int (0 : Int32)), (.ref b)])) rfl (by rw [hml]; rfl) (argsL := [(.ref b), (.int (0 : Int32)), (.int (4 : Int32))]) (rest := []) (lenOf pd_12 rfl) rfl (by show 2 * 0 + _ ≤ _; exact Nat.le_of_eq rfl) (hb hby d19_23) (fun _ _ => ⟨rfl, rfl, (by decide : 1 + 1 ≤ _), (by decide : 4 + 8 ≤ _)⟩)
    dsimp only [Pt.U, Pt.locs, Pt.cells, Pt.slots] at X11 l11 y11 z11 st11 hQ11
    subst l11 y11 z11
    obtain ⟨t_11, kb_11, rfl, N11q, Kq11, r11_0, r11_1⟩ := hQ11
    have N11 := Fr.app N4 N11q
    have sz12 := Kq11.1
    have K12 := K5.trans Kq11 (own_all0 )
    have O12 := O5.keep Kq11 (own_all0 )
    have ltr11_0 := own_ltN' r11_0.lt
    refine OwnEnd.of (S' := T11.setTop (mkF m 26 #[.val (.ref b), .val (.int (0 : Int32)), .val (.int (4 : Int32)), .val (.ref b1), .val (.int (1 : Int32)), .unset] [(.ref t_11)])) st11 ?_
    refine OwnEnd.of (S' := T11.setTop (mkF m 32 #[.val (.ref b), .val (.int (0 : Int32)), .val (.int (4 : Int32)), .val (.ref b1), .val (.int (1 : Int32)), .val (.ref t_11)] [(.int (1 : Int32)), (.ref t_11)])) (fun _ kK => XS.astore X11.here hx rfl (hb hby d19_26) rfl rfl (l' := #[.val (.ref b), .val (.int (0 : Int32)), .val (.int (4 : Int32)), .val (.ref b1), .val (.int (1 : Int32)), .val (.ref t_11)]) rfl (XS.aload X11.here hx rfl (hb hby d19_28) rfl rfl (XS.iload X11.here hx rfl (hb hby d19_30) rfl kK))) ?_
    obtain ⟨_, _, ⟨T13, L13, k13, n13⟩, -, X13, ⟨Lc13, hQ13, l13, y13, z13⟩, st13⟩ := Jvm.LawKit.callS X11 hx (y := own_m11) hown (mvT hZ (own_w G 98 rfl)) (mvT hZ (own_w G 99 rfl)) (mvT hZ (own_w G 39 rfl)) (mvT hZ (own_w G 100 rfl)) (by decide) (backOf (W := 0) (rmgc l Z a0 G [] t_11 kb_11 (8 : Int32) (StrChars.Road.wideBytes [c0, c1, c2, c3]) (.int (0 : Int32)) (1 : Int32) (2 : Int32) c1 T11.heap n0 O12 r11_0 (by decide : (1 : Int32) <<< ((1 : Int32) &&& 31) = (2 : Int32)) (by decide : ¬ (2 : Int32) < (0 : Int32)) (by decide : (2 : Int32) < (8 : Int32)) (by decide : ¬ ((2 : Int32) + (1 : Int32)) < (0 : Int32)) (by decide : ((2 : Int32) + (1 : Int32)) < (8 : Int32)) (by rfl : (StrChars.Road.wideBytes [c0, c1, c2, c3]).getD (2 : Int32).toNatClampNeg (.int (0 : Int32)) = (.int (StrChars.lo8 c1))) (by rfl : (StrChars.Road.wideBytes [c0, c1, c2, c3]).getD ((2 : Int32) + (1 : Int32)).toNatClampNeg (.int (0 : Int32)) = (.int (StrChars.hi8 c1))) (P1 c1 (by simp))) hZ (own_w G 100 rfl) (own_w G 39 rfl) (by decide) (by decide)) (g := (mkF m 32 #[.val (.ref b), .val (.int (0 : Int32)), .val (.int (4 : Int32)), .val (.ref b1), .val (.int (1 : Int32)), .val (.ref t_11)] [(.int (1 : Int32)), (.ref t_11)])) rfl (by rw [hml]; rfl) (argsL := [(.ref t_11), (.int (1 : Int32))]) (rest := []) (lenOf pd_6 rfl) rfl (by show 2 * 0 + _ ≤ _; exact Nat.le_of_eq rfl) (hb hby d19_32) (fun _ _ => ⟨rfl, rfl, (by decide : 2 + 0 ≤ _), (by decide : 12 + 0 ≤ _)⟩)
    dsimp only [Pt.U, Pt.locs, Pt.cells, Pt.slots] at X13 l13 y13 z13 st13 hQ13
    subst l13 y13 z13
    obtain ⟨rfl, N13q, eh13⟩ := hQ13
    have N13 := Fr.app N11 N13q
    refine OwnEnd.of (S' := T13.setTop (mkF m 35 #[.val (.ref b), .val (.int (0 : Int32)), .val (.int (4 : Int32)), .val (.ref b1), .val (.int (1 : Int32)), .val (.ref t_11)] [(.int c1)])) st13 ?_
    refine OwnEnd.of (S' := T13.setTop (mkF m 56 #[.val (.ref b), .val (.int (0 : Int32)), .val (.int (4 : Int32)), .val (.ref b1), .val (.int (1 : Int32)), .val (.ref t_11)] [(.ref t_11)])) (fun _ kK => XS.sipush X13.here hx rfl (hb hby d19_35) (XS.icmpYes X13.here hx rfl (pc0 := 38) (pc' := 54) rfl (hb hby d19_38) rfl (tlt (hr.2)).2.2.1 (by decide) (by decide) (XS.aload X13.here hx rfl (hb hby d19_54) rfl rfl kK))) ?_
    refine OwnEnd.ret X13 (v := (some (.ref t_11))) (fun h => by rw [Bd.returns] at h; cases h) hlk (fun fs hr => retOut X13 hx Bd.returns rfl (Or.inr (Or.inr (Or.inr (Or.inr ⟨rfl, rfl, rfl⟩)))) (hb hby d19_56) hr) (by decide) (by decide) (Q := Qcw4 Z b kC dC c0 c1 c2 c3 h0 n0) eh13 ?_
    exact ⟨t_11, kb_11, (8 : Int32), (StrChars.Road.wideBytes [c0, c1, c2, c3]), (1 : Int32), rfl, N13, K12, r11_0, (Or.inr ⟨rfl, rfl, rfl, c1, by simp, hr.2⟩), (by omega)⟩
  · rw [hr.1]
    refine OwnEnd.of (S' := T4.setTop (mkF m 23 #[.val (.ref b), .val (.int (0 : Int32)), .val (.int (4 : Int32)), .val (.ref b1), .val (.int (2 : Int32)), .unset] [(.int (4 : Int32)), (.int (0 : Int32)), (.ref b)])) (fun _ kK => XS.istore X4.here hx rfl (hb hby d19_12) rfl (l' := #[.val (.ref b), .val (.int (0 : Int32)), .val (.int (4 : Int32)), .val (.ref b1), .val (.int (2 : Int32)), .unset]) rfl (XS.iload X4.here hx rfl (hb hby d19_14) rfl (XS.iloadN X4.here hx rfl (hb hby d19_16) rfl (XS.icmpNo X4.here hx rfl (hb hby d19_17) rfl (feq ((by decide : ¬ ((2 : Int32) = (4 : Int32))))).1 (XS.aloadN X4.here hx rfl (hb hby d19_20) rfl rfl (XS.iloadN X4.here hx rfl (hb hby d19_21) rfl (XS.iloadN X4.here hx rfl (hb hby d19_22) rfl kK))))))) ?_
    have f14 : Arv Z T4.heap b kC .char (4 : Int32) [(.int c0), (.int c1), (.int c2), (.int c3)] dC := (f3.keep Kq4 (own_nin1 (own_ne (by omega))))
    obtain ⟨_, _, ⟨T15, L15, k15, n15⟩, -, X15, ⟨Lc15, hQ15, l15, y15, z15⟩, st15⟩ := Jvm.LawKit.callS X4 hx (y := own_m17) hown (mvT hZ (own_w G 82 rfl)) (mvT hZ (own_w G 83 rfl)) (mvT hZ (own_w G 39 rfl)) (mvT hZ (own_w G 84 rfl)) (by decide) (backOf (W := 0) (rmby4 l Z a0 G [] b kC dC c0 c1 c2 c3 T4.heap n0 O5 f14) hZ (own_w G 84 rfl) (own_w G 39 rfl) (by decide) (by decide)) (g := (mkF m 23 #[.val (.ref b), .val (.int (0 : Int32)), .val (.int (4 : Int32)), .val (.ref b1), .val (.int (2 : Int32)), .unset] [(.int (4 : Int32)), (.int (0 : Int32)), (.ref b)])) rfl (by rw [hml]; rfl) (argsL := [(.ref b), (.int (0 : Int32)), (.int (4 : Int32))]) (rest := []) (lenOf pd_12 rfl) rfl (by show 2 * 0 + _ ≤ _; exact Nat.le_of_eq rfl) (hb hby d19_23) (fun _ _ => ⟨rfl, rfl, (by decide : 1 + 1 ≤ _), (by decide : 4 + 8 ≤ _)⟩)
    dsimp only [Pt.U, Pt.locs, Pt.cells, Pt.slots] at X15 l15 y15 z15 st15 hQ15
    subst l15 y15 z15
    obtain ⟨t_15, kb_15, rfl, N15q, Kq15, r15_0, r15_1⟩ := hQ15
    have N15 := Fr.app N4 N15q
    have sz16 := Kq15.1
    have K16 := K5.trans Kq15 (own_all0 )
    have O16 := O5.keep Kq15 (own_all0 )
    have ltr15_0 := own_ltN' r15_0.lt
    refine OwnEnd.of (S' := T15.setTop (mkF m 26 #[.val (.ref b), .val (.int (0 : Int32)), .val (.int (4 : Int32)), .val (.ref b1), .val (.int (2 : Int32)), .unset] [(.ref t_15)])) st15 ?_
    refine OwnEnd.of (S' := T15.setTop (mkF m 32 #[.val (.ref b), .val (.int (0 : Int32)), .val (.int (4 : Int32)), .val (.ref b1), .val (.int (2 : Int32)), .val (.ref t_15)] [(.int (2 : Int32)), (.ref t_15)])) (fun _ kK => XS.astore X15.here hx rfl (hb hby d19_26) rfl rfl (l' := #[.val (.ref b), .val (.int (0 : Int32)), .val (.int (4 : Int32)), .val (.ref b1), .val (.int (2 : Int32)), .val (.ref t_15)]) rfl (XS.aload X15.here hx rfl (hb hby d19_28) rfl rfl (XS.iload X15.here hx rfl (hb hby d19_30) rfl kK))) ?_
    obtain ⟨_, _, ⟨T17, L17, k17, n17⟩, -, X17, ⟨Lc17, hQ17, l17, y17, z17⟩, st17⟩ := Jvm.LawKit.callS X15 hx (y := own_m11) hown (mvT hZ (own_w G 98 rfl)) (mvT hZ (own_w G 99 rfl)) (mvT hZ (own_w G 39 rfl)) (mvT hZ (own_w G 100 rfl)) (by decide) (backOf (W := 0) (rmgc l Z a0 G [] t_15 kb_15 (8 : Int32) (StrChars.Road.wideBytes [c0, c1, c2, c3]) (.int (0 : Int32)) (2 : Int32) (4 : Int32) c2 T15.heap n0 O16 r15_0 (by decide : (2 : Int32) <<< ((1 : Int32) &&& 31) = (4 : Int32)) (by decide : ¬ (4 : Int32) < (0 : Int32)) (by decide : (4 : Int32) < (8 : Int32)) (by decide : ¬ ((4 : Int32) + (1 : Int32)) < (0 : Int32)) (by decide : ((4 : Int32) + (1 : Int32)) < (8 : Int32)) (by rfl : (StrChars.Road.wideBytes [c0, c1, c2, c3]).getD (4 : Int32).toNatClampNeg (.int (0 : Int32)) = (.int (StrChars.lo8 c2))) (by rfl : (StrChars.Road.wideBytes [c0, c1, c2, c3]).getD ((4 : Int32) + (1 : Int32)).toNatClampNeg (.int (0 : Int32)) = (.int (StrChars.hi8 c2))) (P1 c2 (by simp))) hZ (own_w G 100 rfl) (own_w G 39 rfl) (by decide) (by decide)) (g := (mkF m 32 #[.val (.ref b), .val (.int (0 : Int32)), .val (.int (4 : Int32)), .val (.ref b1), .val (.int (2 : Int32)), .val (.ref t_15)] [(.int (2 : Int32)), (.ref t_15)])) rfl (by rw [hml]; rfl) (argsL := [(.ref t_15), (.int (2 : Int32))]) (rest := []) (lenOf pd_6 rfl) rfl (by show 2 * 0 + _ ≤ _; exact Nat.le_of_eq rfl) (hb hby d19_32) (fun _ _ => ⟨rfl, rfl, (by decide : 2 + 0 ≤ _), (by decide : 12 + 0 ≤ _)⟩)
    dsimp only [Pt.U, Pt.locs, Pt.cells, Pt.slots] at X17 l17 y17 z17 st17 hQ17
    subst l17 y17 z17
    obtain ⟨rfl, N17q, eh17⟩ := hQ17
    have N17 := Fr.app N15 N17q
    refine OwnEnd.of (S' := T17.setTop (mkF m 35 #[.val (.ref b), .val (.int (0 : Int32)), .val (.int (4 : Int32)), .val (.ref b1), .val (.int (2 : Int32)), .val (.ref t_15)] [(.int c2)])) st17 ?_
    refine OwnEnd.of (S' := T17.setTop (mkF m 56 #[.val (.ref b), .val (.int (0 : Int32)), .val (.int (4 : Int32)), .val (.ref b1), .val (.int (2 : Int32)), .val (.ref t_15)] [(.ref t_15)])) (fun _ kK => XS.sipush X17.here hx rfl (hb hby d19_35) (XS.icmpYes X17.here hx rfl (pc0 := 38) (pc' := 54) rfl (hb hby d19_38) rfl (tlt (hr.2)).2.2.1 (by decide) (by decide) (XS.aload X17.here hx rfl (hb hby d19_54) rfl rfl kK))) ?_
    refine OwnEnd.ret X17 (v := (some (.ref t_15))) (fun h => by rw [Bd.returns] at h; cases h) hlk (fun fs hr => retOut X17 hx Bd.returns rfl (Or.inr (Or.inr (Or.inr (Or.inr ⟨rfl, rfl, rfl⟩)))) (hb hby d19_56) hr) (by decide) (by decide) (Q := Qcw4 Z b kC dC c0 c1 c2 c3 h0 n0) eh17 ?_
    exact ⟨t_15, kb_15, (8 : Int32), (StrChars.Road.wideBytes [c0, c1, c2, c3]), (1 : Int32), rfl, N17, K16, r15_0, (Or.inr ⟨rfl, rfl, rfl, c2, by simp, hr.2⟩), (by omega)⟩
  · rw [hr.1]
    refine OwnEnd.of (S' := T4.setTop (mkF m 23 #[.val (.ref b), .val (.int (0 : Int32)), .val (.int (4 : Int32)), .val (.ref b1), .val (.int (3 : Int32)), .unset] [(.int (4 : Int32)), (.int (0 : Int32)), (.ref b)])) (fun _ kK => XS.istore X4.here hx rfl (hb hby d19_12) rfl (l' := #[.val (.ref b), .val (.int (0 : Int32)), .val (.int (4 : Int32)), .val (.ref b1), .val (.int (3 : Int32)), .unset]) rfl (XS.iload X4.here hx rfl (hb hby d19_14) rfl (XS.iloadN X4.here hx rfl (hb hby d19_16) rfl (XS.icmpNo X4.here hx rfl (hb hby d19_17) rfl (feq ((by decide : ¬ ((3 : Int32) = (4 : Int32))))).1 (XS.aloadN X4.here hx rfl (hb hby d19_20) rfl rfl (XS.iloadN X4.here hx rfl (hb hby d19_21) rfl (XS.iloadN X4.here hx rfl (hb hby d19_22) rfl kK))))))) ?_
    have f18 : Arv Z T4.heap b kC .char (4 : Int32) [(.int c0), (.int c1), (.int c2), (.int c3)] dC := (f3.keep Kq4 (own_nin1 (own_ne (by omega))))
    obtain ⟨_, _, ⟨T19, L19, k19, n19⟩, -, X19, ⟨Lc19, hQ19, l19, y19, z19⟩, st19⟩ := Jvm.LawKit.callS X4 hx (y := own_m17) hown (mvT hZ (own_w G 82 rfl)) (mvT hZ (own_w G 83 rfl)) (mvT hZ (own_w G 39 rfl)) (mvT hZ (own_w G 84 rfl)) (by decide) (backOf (W := 0) (rmby4 l Z a0 G [] b kC dC c0 c1 c2 c3 T4.heap n0 O5 f18) hZ (own_w G 84 rfl) (own_w G 39 rfl) (by decide) (by decide)) (g := (mkF m 23 #[.val (.ref b), .val (.int (0 : Int32)), .val (.int (4 : Int32)), .val (.ref b1), .val (.int (3 : Int32)), .unset] [(.int (4 : Int32)), (.int (0 : Int32)), (.ref b)])) rfl (by rw [hml]; rfl) (argsL := [(.ref b), (.int (0 : Int32)), (.int (4 : Int32))]) (rest := []) (lenOf pd_12 rfl) rfl (by show 2 * 0 + _ ≤ _; exact Nat.le_of_eq rfl) (hb hby d19_23) (fun _ _ => ⟨rfl, rfl, (by decide : 1 + 1 ≤ _), (by decide : 4 + 8 ≤ _)⟩)
    dsimp only [Pt.U, Pt.locs, Pt.cells, Pt.slots] at X19 l19 y19 z19 st19 hQ19
    subst l19 y19 z19
    obtain ⟨t_19, kb_19, rfl, N19q, Kq19, r19_0, r19_1⟩ := hQ19
    have N19 := Fr.app N4 N19q
    have sz20 := Kq19.1
    have K20 := K5.trans Kq19 (own_all0 )
    have O20 := O5.keep Kq19 (own_all0 )
    have ltr19_0 := own_ltN' r19_0.lt
    refine OwnEnd.of (S' := T19.setTop (mkF m 26 #[.val (.ref b), .val (.int (0 : Int32)), .val (.int (4 : Int32)), .val (.ref b1), .val (.int (3 : Int32)), .unset] [(.ref t_19)])) st19 ?_
    refine OwnEnd.of (S' := T19.setTop (mkF m 32 #[.val (.ref b), .val (.int (0 : Int32)), .val (.int (4 : Int32)), .val (.ref b1), .val (.int (3 : Int32)), .val (.ref t_19)] [(.int (3 : Int32)), (.ref t_19)])) (fun _ kK => XS.astore X19.here hx rfl (hb hby d19_26) rfl rfl (l' := #[.val (.ref b), .val (.int (0 : Int32)), .val (.int (4 : Int32)), .val (.ref b1), .val (.int (3 : Int32)), .val (.ref t_19)]) rfl (XS.aload X19.here hx rfl (hb hby d19_28) rfl rfl (XS.iload X19.here hx rfl (hb hby d19_30) rfl kK))) ?_
    obtain ⟨_, _, ⟨T21, L21, k21, n21⟩, -, X21, ⟨Lc21, hQ21, l21, y21, z21⟩, st21⟩ := Jvm.LawKit.callS X19 hx (y := own_m11) hown (mvT hZ (own_w G 98 rfl)) (mvT hZ (own_w G 99 rfl)) (mvT hZ (own_w G 39 rfl)) (mvT hZ (own_w G 100 rfl)) (by decide) (backOf (W := 0) (rmgc l Z a0 G [] t_19 kb_19 (8 : Int32) (StrChars.Road.wideBytes [c0, c1, c2, c3]) (.int (0 : Int32)) (3 : Int32) (6 : Int32) c3 T19.heap n0 O20 r19_0 (by decide : (3 : Int32) <<< ((1 : Int32) &&& 31) = (6 : Int32)) (by decide : ¬ (6 : Int32) < (0 : Int32)) (by decide : (6 : Int32) < (8 : Int32)) (by decide : ¬ ((6 : Int32) + (1 : Int32)) < (0 : Int32)) (by decide : ((6 : Int32) + (1 : Int32)) < (8 : Int32)) (by rfl : (StrChars.Road.wideBytes [c0, c1, c2, c3]).getD (6 : Int32).toNatClampNeg (.int (0 : Int32)) = (.int (StrChars.lo8 c3))) (by rfl : (StrChars.Road.wideBytes [c0, c1, c2, c3]).getD ((6 : Int32) + (1 : Int32)).toNatClampNeg (.int (0 : Int32)) = (.int (StrChars.hi8 c3))) (P1 c3 (by simp))) hZ (own_w G 100 rfl) (own_w G 39 rfl) (by decide) (by decide)) (g := (mkF m 32 #[.val (.ref b), .val (.int (0 : Int32)), .val (.int (4 : Int32)), .val (.ref b1), .val (.int (3 : Int32)), .val (.ref t_19)] [(.int (3 : Int32)), (.ref t_19)])) rfl (by rw [hml]; rfl) (argsL := [(.ref t_19), (.int (3 : Int32))]) (rest := []) (lenOf pd_6 rfl) rfl (by show 2 * 0 + _ ≤ _; exact Nat.le_of_eq rfl) (hb hby d19_32) (fun _ _ => ⟨rfl, rfl, (by decide : 2 + 0 ≤ _), (by decide : 12 + 0 ≤ _)⟩)
    dsimp only [Pt.U, Pt.locs, Pt.cells, Pt.slots] at X21 l21 y21 z21 st21 hQ21
    subst l21 y21 z21
    obtain ⟨rfl, N21q, eh21⟩ := hQ21
    have N21 := Fr.app N19 N21q
    refine OwnEnd.of (S' := T21.setTop (mkF m 35 #[.val (.ref b), .val (.int (0 : Int32)), .val (.int (4 : Int32)), .val (.ref b1), .val (.int (3 : Int32)), .val (.ref t_19)] [(.int c3)])) st21 ?_
    refine OwnEnd.of (S' := T21.setTop (mkF m 56 #[.val (.ref b), .val (.int (0 : Int32)), .val (.int (4 : Int32)), .val (.ref b1), .val (.int (3 : Int32)), .val (.ref t_19)] [(.ref t_19)])) (fun _ kK => XS.sipush X21.here hx rfl (hb hby d19_35) (XS.icmpYes X21.here hx rfl (pc0 := 38) (pc' := 54) rfl (hb hby d19_38) rfl (tlt (hr.2)).2.2.1 (by decide) (by decide) (XS.aload X21.here hx rfl (hb hby d19_54) rfl rfl kK))) ?_
    refine OwnEnd.ret X21 (v := (some (.ref t_19))) (fun h => by rw [Bd.returns] at h; cases h) hlk (fun fs hr => retOut X21 hx Bd.returns rfl (Or.inr (Or.inr (Or.inr (Or.inr ⟨rfl, rfl, rfl⟩)))) (hb hby d19_56) hr) (by decide) (by decide) (Q := Qcw4 Z b kC dC c0 c1 c2 c3 h0 n0) eh21 ?_
    exact ⟨t_19, kb_19, (8 : Int32), (StrChars.Road.wideBytes [c0, c1, c2, c3]), (1 : Int32), rfl, N21, K20, r19_0, (Or.inr ⟨rfl, rfl, rfl, c3, by simp, hr.2⟩), (by omega)⟩
  · rw [hr.1]
    have V22 : Arv Z T4.heap b1 k1 .byte (4 : Int32) (([c0, c1, c2, c3] : List Int32).map fun c => Value.int (StrChars.lo8 c)) (.int (0 : Int32)) := by have q := r4_0; rw [hr.2.1] at q; exact q
    refine OwnEnd.of (S' := T4.setTop (mkF m 58 #[.val (.ref b), .val (.int (0 : Int32)), .val (.int (4 : Int32)), .val (.ref b1), .val (.int (4 : Int32)), .unset] [(.ref b1)])) (fun _ kK => XS.istore X4.here hx rfl (hb hby d19_12) rfl (l' := #[.val (.ref b), .val (.int (0 : Int32)), .val (.int (4 : Int32)), .val (.ref b1), .val (.int (4 : Int32)), .unset]) rfl (XS.iload X4.here hx rfl (hb hby d19_14) rfl (XS.iloadN X4.here hx rfl (hb hby d19_16) rfl (XS.icmpYes X4.here hx rfl (pc0 := 17) (pc' := 57) rfl (hb hby d19_17) rfl (teq ((by decide : (4 : Int32) = (4 : Int32)))).1 (by decide) (by decide) (XS.aloadN X4.here hx rfl (hb hby d19_57) rfl rfl kK))))) ?_
    refine OwnEnd.ret X4 (v := (some (.ref b1))) (fun h => by rw [Bd.returns] at h; cases h) hlk (fun fs hr => retOut X4 hx Bd.returns rfl (Or.inr (Or.inr (Or.inr (Or.inr ⟨rfl, rfl, rfl⟩)))) (hb hby d19_58) hr) (by decide) (by decide) (Q := Qcw4 Z b kC dC c0 c1 c2 c3 h0 n0) rfl ?_
    exact ⟨b1, k1, (4 : Int32), (([c0, c1, c2, c3] : List Int32).map fun c => Value.int (StrChars.lo8 c)), (0 : Int32), rfl, N4, K5, V22, (Or.inl ⟨rfl, rfl, rfl, hr.2.2⟩), (by omega)⟩

theorem own_efcf4 (m : MethodId) (t : Addr) : entryFrame m #[(.ref t), (.int (4 : Int32))] 2 = mkF m 0 #[.val (.ref t), .val (.int (4 : Int32))] [] := by first | (simp [entryFrame, mkF, argsToLocals, Value.category]; done) | rfl
set_option maxRecDepth 65536 in
set_option maxHeartbeats 40000000 in
theorem rmcf4 (l : Launch) (Z : State) (a0 : Array Value) (G : OwnG Z a0) (ws : List Jvm.Cond) (t : Addr) (kb : ClassId) (N : Int32) (vs : List Value) (cd : Int32) (c0 : Int32) (c1 : Int32) (c2 : Int32) (c3 : Int32) (h0 : Heap) (n0 : Nat) (O0 : Old Z n0 h0) (P0 : Arv Z h0 t kb .byte N vs (.int (0 : Int32))) (P1 : StrChars.Road.CodA [c0, c1, c2, c3] cd N vs) :
    MetFree l own_m20 (head1 (Jvm.Cond.code own_m20 jdk_52_method_15_code 2 (some .byte) :: ws) ({ frames := 0, cells := 0, slots := 0, locals := 0 } : Room)) (fun a U => a = #[(.ref t), (.int (4 : Int32))] ∧ Z.Warmed39 U.vm ∧ U.heap = h0) (fun _ _ _ _ _ => True) (fun _ U o U' => ∃ v L, o = .returned v ∧ (own_Qint cd) h0 n0 v U'.heap L ∧ FrameEnd U o U' L ({ frames := 0, cells := 0, slots := 0, locals := 0 } : Room).cells ({ frames := 0, cells := 0, slots := 0, locals := 0 } : Room).slots) := by
  refine MetFree.of_bodySF (plainFor_of_name pn_3) hisR ?_
  intro p e s m args below meth cD s₁ Bd hml0 hP hK
  obtain ⟨rfl, hZ, hh⟩ := hP
  have hw := G.1
  have hx := Bd.exec
  have hby := Bd.bytes
  have hml : cD.maxLocals = 2 := hml0
  have hown : s.vm.findClass "java/lang/StringUTF16" = some m.cls := findClass_of_methodNamed Bd.named
  have hnm := (name_of_methodNamed Bd.named Bd.method).1
  have hlk := Bd.notSynchronized
  have X0 : Stand p l e ({ frames := 0, cells := 0, slots := 0, locals := 0 } : Room) s m #[(.ref t), (.int (4 : Int32))] below meth cD s₁ [] 0 0 := Stand.of_body Bd
  have e0 : s₁.heap = h0 := by rw [← hh, Bd.state]; rfl
  have lt0 := own_ltN' P0.lt
  have K0 : Keep h0 h0 [] := Keep.refl h0 _
  have Z0 := own_old_le O0
  have N0 := Fr.nil n0
  refine OwnEnd.start (g' := (mkF m 0 #[.val (.ref t), .val (.int (4 : Int32))] [])) (own_efcf4 m t) ?_
  rcases P1 with hxc | hxc
  · have V1 : Arv Z h0 t kb .byte (4 : Int32) (([c0, c1, c2, c3] : List Int32).map fun c => Value.int (StrChars.lo8 c)) (.int (0 : Int32)) := by have q := P0; rw [hxc.2.1, hxc.2.2.1] at q; exact q
    refine OwnEnd.of (S' := s₁.setTop (mkF m 2 #[.val (.ref t), .val (.int (4 : Int32))] [(.ref t), (.int (4 : Int32))])) (fun _ kK => XS.iloadN X0.here hx rfl (hb hby d20_0) rfl (XS.aloadN X0.here hx rfl (hb hby d20_1) rfl rfl kK)) ?_
    obtain ⟨cl2, Ar2, q2, S2, N2', H2, G2⟩ := id V1
    refine OwnEnd.of (S' := s₁.setTop (mkF m 3 #[.val (.ref t), .val (.int (4 : Int32))] [(.int (4 : Int32)), (.int (4 : Int32))])) (fun _ kK => X0.arraylength hx (by rw [e0]; exact Ar2.1) (State.isArrayOf_alike hZ.alike Ar2.2.1) (g := (mkF m 2 #[.val (.ref t), .val (.int (4 : Int32))] [(.ref t), (.int (4 : Int32))])) rfl rfl (hb hby d20_2) _ (by rw [len_of S2 N2']; exact kK)) ?_
    refine OwnEnd.of (S' := s₁.setTop (mkF m 8 #[.val (.ref t), .val (.int (4 : Int32))] [(.int (0 : Int32))])) (fun _ kK => XS.isub X0.here hx rfl (hb hby d20_3) rfl (XS.bipush X0.here hx rfl (hb hby d20_4) (XS.iushr X0.here hx rfl (hb hby d20_6) rfl (XS.i2b X0.here hx rfl (hb hby d20_7) rfl kK)))) ?_
    refine OwnEnd.ret X0 (v := (some (.int (nar .byte (0 : Int32))))) (fun h => by rw [Bd.returns] at h; cases h) hlk (fun fs hr => retN X0 hx (t := .byte) Bd.returns (by simp) (hb hby d20_8) hr) (by decide) (by decide) (Q := (own_Qint cd) h0 n0) e0 ?_
    exact ⟨(congrArg (fun z => some (Value.int z)) hxc.1.symm), N0, rfl⟩
  · have V3 : Arv Z h0 t kb .byte (8 : Int32) (StrChars.Road.wideBytes [c0, c1, c2, c3]) (.int (0 : Int32)) := by have q := P0; rw [hxc.2.1, hxc.2.2.1] at q; exact q
    refine OwnEnd.of (S' := s₁.setTop (mkF m 2 #[.val (.ref t), .val (.int (4 : Int32))] [(.ref t), (.int (4 : Int32))])) (fun _ kK => XS.iloadN X0.here hx rfl (hb hby d20_0) rfl (XS.aloadN X0.here hx rfl (hb hby d20_1) rfl rfl kK)) ?_
    obtain ⟨cl4, Ar4, q4, S4, N4', H4, G4⟩ := id V3
    refine OwnEnd.of (S' := s₁.setTop (mkF m 3 #[.val (.ref t), .val (.int (4 : Int32))] [(.int (8 : Int32)), (.int (4 : Int32))])) (fun _ kK => X0.arraylength hx (by rw [e0]; exact Ar4.1) (State.isArrayOf_alike hZ.alike Ar4.2.1) (g := (mkF m 2 #[.val (.ref t), .val (.int (4 : Int32))] [(.ref t), (.int (4 : Int32))])) rfl rfl (hb hby d20_2) _ (by rw [len_of S4 N4']; exact kK)) ?_
    refine OwnEnd.of (S' := s₁.setTop (mkF m 8 #[.val (.ref t), .val (.int (4 : Int32))] [(.int (1 : Int32))])) (fun _ kK => XS.isub X0.here hx rfl (hb hby d20_3) rfl (XS.bipush X0.here hx rfl (hb hby d20_4) (XS.iushr X0.here hx rfl (hb hby d20_6) rfl (XS.i2b X0.here hx rfl (hb hby d20_7) rfl kK)))) ?_
    refine OwnEnd.ret X0 (v := (some (.int (nar .byte (1 : Int32))))) (fun h => by rw [Bd.returns] at h; cases h) hlk (fun fs hr => retN X0 hx (t := .byte) Bd.returns (by simp) (hb hby d20_8) hr) (by decide) (by decide) (Q := (own_Qint cd) h0 n0) e0 ?_
    exact ⟨(congrArg (fun z => some (Value.int z)) hxc.1.symm), N0, rfl⟩

theorem own_efnv4 (m : MethodId) (x0 : Addr) (b : Addr) : entryFrame m #[(.ref x0), (.ref b), (.int (0 : Int32)), (.int (4 : Int32)), .null] 6 = mkF m 0 #[.val (.ref x0), .val (.ref b), .val (.int (0 : Int32)), .val (.int (4 : Int32)), .val .null, .unset] [] := by first | (simp [entryFrame, mkF, argsToLocals, Value.category]; done) | rfl
def Qnv4 (Z : State) (x0 : Addr) (b : Addr) (v0 : Value) (c9 : Value) (kC : ClassId) (dC : Value) (c0 : Int32) (c1 : Int32) (c2 : Int32) (c3 : Int32) (h0 : Heap) (n0 : Nat) (v : Option Value) (h : Heap) (L : List Loc) : Prop := ∃ (t : Addr) (kb : ClassId) (N : Int32) (vs : List Value) (cd : Int32), v = none ∧ Fr n0 L ∧ Keep h0 h [x0] ∧ (Exa Z h x0 "java/lang/String") ∧ (Fld Z h x0 "java/lang/String" "value" "[B" (.ref t)) ∧ (Fld Z h x0 "java/lang/String" "coder" "B" (.int cd)) ∧ (Arv Z h t kb .byte N vs (.int (0 : Int32))) ∧ (StrChars.Road.CodA [c0, c1, c2, c3] cd N vs) ∧ (Array.size h0 ≤ t)
set_option maxRecDepth 65536 in
set_option maxHeartbeats 40000000 in
theorem rmnv4 (l : Launch) (Z : State) (a0 : Array Value) (G : OwnG Z a0) (ws : List Jvm.Cond) (x0 : Addr) (b : Addr) (v0 : Value) (c9 : Value) (kC : ClassId) (dC : Value) (c0 : Int32) (c1 : Int32) (c2 : Int32) (c3 : Int32) (h0 : Heap) (n0 : Nat) (O0 : Old Z n0 h0) (P0 : Exa Z h0 x0 "java/lang/String") (P1 : Fld Z h0 x0 "java/lang/String" "value" "[B" v0) (P2 : Fld Z h0 x0 "java/lang/String" "coder" "B" c9) (P3 : n0 ≤ x0) (P4 : Arv Z h0 b kC .char (4 : Int32) [(.int c0), (.int c1), (.int c2), (.int c3)] dC) (P5 : ∀ c ∈ ([c0, c1, c2, c3] : List Int32), ¬ c < (0 : Int32) ∧ ¬ (65535 : Int32) < c) (P6 : x0 ≠ b) :
    MetFree l own_m0 (head1 (Jvm.Cond.code own_m0 jdk_42_method_149_code 6 none :: ws) ({ frames := 4, cells := 2, slots := 12, locals := 57 } : Room)) (fun a U => a = #[(.ref x0), (.ref b), (.int (0 : Int32)), (.int (4 : Int32)), .null] ∧ Z.Warmed39 U.vm ∧ U.heap = h0) (fun _ _ _ _ _ => True) (fun _ U o U' => ∃ v L, o = .returned v ∧ Qnv4 Z x0 b v0 c9 kC dC c0 c1 c2 c3 h0 n0 v U'.heap L ∧ FrameEnd U o U' L ({ frames := 4, cells := 2, slots := 12, locals := 57 } : Room).cells ({ frames := 4, cells := 2, slots := 12, locals := 57 } : Room).slots) := by
  refine MetFree.of_bodySF (plainFor_of_name pn_0) hisR ?_
  intro p e s m args below meth cD s₁ Bd hml0 hP hK
  obtain ⟨rfl, hZ, hh⟩ := hP
  have hw := G.1
  have hx := Bd.exec
  have hby := Bd.bytes
  have hml : cD.maxLocals = 6 := hml0
  have hown : s.vm.findClass "java/lang/String" = some m.cls := findClass_of_methodNamed Bd.named
  have hnm := (name_of_methodNamed Bd.named Bd.method).1
  have hlk := Bd.notSynchronized
  have X0 : Stand p l e ({ frames := 4, cells := 2, slots := 12, locals := 57 } : Room) s m #[(.ref x0), (.ref b), (.int (0 : Int32)), (.int (4 : Int32)), .null] below meth cD s₁ [] 0 0 := Stand.of_body Bd
  have e0 : s₁.heap = h0 := by rw [← hh, Bd.state]; rfl
  have lt0 := own_ltN' P0.lt
  have lt1 := own_ltN' P1.lt
  have lt2 := own_ltN' P2.lt
  have lt4 := own_ltN' P4.lt
  have nP6 := own_neN P6
  have K0 : Keep h0 h0 [x0] := Keep.refl h0 _
  have Z0 := own_old_le O0
  have N0 := Fr.nil n0
  obtain ⟨zCS, SCS, PCS⟩ := own_cs G
  refine OwnEnd.start (g' := (mkF m 0 #[.val (.ref x0), .val (.ref b), .val (.int (0 : Int32)), .val (.int (4 : Int32)), .val .null, .unset] [])) (own_efnv4 m x0 b) ?_
  refine OwnEnd.of (S' := s₁.setTop (mkF m 1 #[.val (.ref x0), .val (.ref b), .val (.int (0 : Int32)), .val (.int (4 : Int32)), .val .null, .unset] [(.ref x0)])) (fun _ kK => XS.aloadN X0.here hx rfl (hb hby d0_0) rfl rfl kK) ?_
  obtain ⟨T1, X1, e1, st1⟩ := initO X0 hx hZ hown (own_w G 16 rfl) (own_w G 17 rfl) (own_w G 18 rfl) e0 (g := (mkF m 1 #[.val (.ref x0), .val (.ref b), .val (.int (0 : Int32)), .val (.int (4 : Int32)), .val .null, .unset] [(.ref x0)])) rfl (by rw [hml]; rfl) rfl (hb hby d0_1) (by decide) (W := 0) (by show 2 * 0 + _ ≤ _; exact Nat.le_of_eq rfl) (by decide)
  refine OwnEnd.of (S' := T1.setTop (mkF m 4 #[.val (.ref x0), .val (.ref b), .val (.int (0 : Int32)), .val (.int (4 : Int32)), .val .null, .unset] [])) st1 ?_
  refine OwnEnd.of (S' := T1.setTop (mkF m 27 #[.val (.ref x0), .val (.ref b), .val (.int (0 : Int32)), .val (.int (4 : Int32)), .val .null, .unset] [])) (fun _ kK => XS.iloadN X1.here hx rfl (hb hby d0_4) rfl (XS.ifYes X1.here hx rfl (pc0 := 5) (pc' := 27) rfl (hb hby d0_5) rfl ((if0 _ _).trans (feq ((by decide : ¬ ((4 : Int32) = (0 : Int32))))).2) (by decide) (by decide) kK)) ?_
  obtain ⟨T2, X2, e2, st2⟩ := getS2 X1 hx hZ hown (host := "") (Or.inl (own_w G 36 rfl)) Via.refl e1 (SCS.ext O0.2) (g := (mkF m 27 #[.val (.ref x0), .val (.ref b), .val (.int (0 : Int32)), .val (.int (4 : Int32)), .val .null, .unset] [])) rfl (hb hby d0_27)
  refine OwnEnd.of (S' := T2.setTop (mkF m 30 #[.val (.ref x0), .val (.ref b), .val (.int (0 : Int32)), .val (.int (4 : Int32)), .val .null, .unset] [(.int zCS)])) st2 ?_
  refine OwnEnd.of (S' := T2.setTop (mkF m 36 #[.val (.ref x0), .val (.ref b), .val (.int (0 : Int32)), .val (.int (4 : Int32)), .val .null, .unset] [(.int (4 : Int32)), (.int (0 : Int32)), (.ref b)])) (fun _ kK => XS.ifNo X2.here hx rfl (hb hby d0_30) rfl ((if0 _ _).trans (feq (PCS)).1) (XS.aloadN X2.here hx rfl (hb hby d0_33) rfl rfl (XS.iloadN X2.here hx rfl (hb hby d0_34) rfl (XS.iloadN X2.here hx rfl (hb hby d0_35) rfl kK)))) ?_
  obtain ⟨_, _, ⟨T3, L3, k3, n3⟩, -, X3, ⟨Lc3, hQ3, l3, y3, z3⟩, st3⟩ := Jvm.LawKit.callS X2 hx (y := own_m19) hown (mvT hZ (own_w G 37 rfl)) (mvT hZ (own_w G 38 rfl)) (mvT hZ (own_w G 39 rfl)) (mvT hZ (own_w G 40 rfl)) (by decide) (backOf (W := 0) (rmcw4 l Z a0 G [] b kC dC c0 c1 c2 c3 h0 n0 O0 P4 P5) hZ (own_w G 40 rfl) (own_w G 39 rfl) (by decide) (by decide)) (g := (mkF m 36 #[.val (.ref x0), .val (.ref b), .val (.int (0 : Int32)), .val (.int (4 : Int32)), .val .null, .unset] [(.int (4 : Int32)), (.int (0 : Int32)), (.ref b)])) rfl (by rw [hml]; rfl) (argsL := [(.ref b), (.int (0 : Int32)), (.int (4 : Int32))]) (rest := []) (lenOf pd_12 rfl) rfl (by show 2 * 0 + _ ≤ _; exact Nat.le_of_eq rfl) (hb hby d0_36) (fun _ _ => ⟨rfl, e2, (by decide : 0 + 2 ≤ _), (by decide : 0 + 12 ≤ _)⟩)
  dsimp only [Pt.U, Pt.locs, Pt.cells, Pt.slots] at X3 l3 y3 z3 st3 hQ3
  subst l3 y3 z3
  obtain ⟨t_3, kb_3, N_3, vs_3, cd_3, rfl, N3q, Kq3, r3_0, r3_1, r3_2⟩ := hQ3
  have N3 := Fr.app N0 N3q
  have sz4 := Kq3.1
  have K4 := K0.trans Kq3 (own_all0 )
  have O4 := O0.keep Kq3 (own_all0 )
  have ltr3_0 := own_ltN' r3_0.lt
  refine OwnEnd.of (S' := T3.setTop (mkF m 39 #[.val (.ref x0), .val (.ref b), .val (.int (0 : Int32)), .val (.int (4 : Int32)), .val .null, .unset] [(.ref t_3)])) st3 ?_
  refine OwnEnd.of (S' := T3.setTop (mkF m 45 #[.val (.ref x0), .val (.ref b), .val (.int (0 : Int32)), .val (.int (4 : Int32)), .val .null, .val (.ref t_3)] [(.int (4 : Int32)), (.ref t_3), (.ref x0)])) (fun _ kK => XS.astore X3.here hx rfl (hb hby d0_39) rfl rfl (l' := #[.val (.ref x0), .val (.ref b), .val (.int (0 : Int32)), .val (.int (4 : Int32)), .val .null, .val (.ref t_3)]) rfl (XS.aloadN X3.here hx rfl (hb hby d0_41) rfl rfl (XS.aload X3.here hx rfl (hb hby d0_42) rfl rfl (XS.iloadN X3.here hx rfl (hb hby d0_44) rfl kK)))) ?_
  obtain ⟨_, _, ⟨T5, L5, k5, n5⟩, -, X5, ⟨Lc5, hQ5, l5, y5, z5⟩, st5⟩ := Jvm.LawKit.callS X3 hx (y := own_m20) hown (mvT hZ (own_w G 44 rfl)) (mvT hZ (own_w G 45 rfl)) (mvT hZ (own_w G 39 rfl)) (mvT hZ (own_w G 46 rfl)) (by decide) (backOf (W := 1) (rmcf4 l Z a0 G [] t_3 kb_3 N_3 vs_3 cd_3 c0 c1 c2 c3 T3.heap n0 O4 r3_0 r3_1) hZ (own_w G 46 rfl) (own_w G 39 rfl) (by decide) (by decide)) (g := (mkF m 45 #[.val (.ref x0), .val (.ref b), .val (.int (0 : Int32)), .val (.int (4 : Int32)), .val .null, .val (.ref t_3)] [(.int (4 : Int32)), (.ref t_3), (.ref x0)])) rfl (by rw [hml]; rfl) (argsL := [(.ref t_3), (.int (4 : Int32))]) (rest := [(.ref x0)]) (lenOf pd_13 rfl) rfl (by show 2 * 0 + _ ≤ _; exact Nat.le_of_eq rfl) (hb hby d0_45) (fun _ _ => ⟨rfl, rfl, (by decide : 2 + 0 ≤ _), (by decide : 12 + 0 ≤ _)⟩)
  dsimp only [Pt.U, Pt.locs, Pt.cells, Pt.slots] at X5 l5 y5 z5 st5 hQ5
  subst l5 y5 z5
  obtain ⟨rfl, N5q, eh5⟩ := hQ5
  have N5 := Fr.app N3 N5q
  refine OwnEnd.of (S' := T5.setTop (mkF m 48 #[.val (.ref x0), .val (.ref b), .val (.int (0 : Int32)), .val (.int (4 : Int32)), .val .null, .val (.ref t_3)] [(.int cd_3), (.ref x0)])) st5 ?_
  have f7 : Fld Z T3.heap x0 "java/lang/String" "coder" "B" c9 := (P2.keep Kq3 nin0)
  have f8 : Exa Z T3.heap x0 "java/lang/String" := (P0.keep Kq3)
  obtain ⟨T6, h6, X6, e6, W6, st6⟩ := putFN X5 hx hZ hown (own_w G 26 rfl) Via.refl eh5 f7 f8 (Or.inr ⟨(own_w G 22 rfl), rfl, hnm⟩) (own_w G 2 rfl) (ty := .byte) (v' := (.int cd_3)) (by decide) (own_cod_nar r3_1).1 (own_cod_nar r3_1).2 (g := (mkF m 48 #[.val (.ref x0), .val (.ref b), .val (.int (0 : Int32)), .val (.int (4 : Int32)), .val .null, .val (.ref t_3)] [(.int cd_3), (.ref x0)])) rfl rfl (hb hby d0_48)
  have Fw6 := f7.same W6
  have N6 := Fr.snoc X6 N5 (by omega)
  have sz9 := own_wr_le W6
  have K9 := K4.wr W6 (Or.inl (by simp))
  have O9 := O4.wr W6 (by omega)
  refine OwnEnd.of (S' := T6.setTop (mkF m 51 #[.val (.ref x0), .val (.ref b), .val (.int (0 : Int32)), .val (.int (4 : Int32)), .val .null, .val (.ref t_3)] [])) st6 ?_
  refine OwnEnd.of (S' := T6.setTop (mkF m 54 #[.val (.ref x0), .val (.ref b), .val (.int (0 : Int32)), .val (.int (4 : Int32)), .val .null, .val (.ref t_3)] [(.ref t_3), (.ref x0)])) (fun _ kK => XS.aloadN X6.here hx rfl (hb hby d0_51) rfl rfl (XS.aload X6.here hx rfl (hb hby d0_52) rfl rfl kK)) ?_
  have f11 : Fld Z h6 x0 "java/lang/String" "value" "[B" v0 := ((P1.keep Kq3 nin0).other W6 (Or.inr (slot_ne (Or.inr (own_w G 21 rfl)) (Or.inr (own_w G 22 rfl)) (by decide) (t := (.array .byte)) (t' := .byte) (by decide) (by decide))))
  have f12 : Exa Z h6 x0 "java/lang/String" := (f8.wr W6)
  obtain ⟨T10, h10, X10, e10, W10, st10⟩ := putF X6 hx hZ hown (host := "") (Or.inl (own_w G 25 rfl)) Via.refl e6 f11 f12 (Or.inr ⟨(own_w G 21 rfl), rfl, hnm⟩) (own_w G 2 rfl) (ty := (.array .byte)) (by decide) rfl rfl (g := (mkF m 54 #[.val (.ref x0), .val (.ref b), .val (.int (0 : Int32)), .val (.int (4 : Int32)), .val .null, .val (.ref t_3)] [(.ref t_3), (.ref x0)])) rfl rfl (hb hby d0_54)
  have Fw10 := f11.same W10
  have N10 := Fr.snoc X10 N6 (by omega)
  have sz13 := own_wr_le W10
  have K13 := K9.wr W10 (Or.inl (by simp))
  have O13 := O9.wr W10 (by omega)
  refine OwnEnd.of (S' := T10.setTop (mkF m 57 #[.val (.ref x0), .val (.ref b), .val (.int (0 : Int32)), .val (.int (4 : Int32)), .val .null, .val (.ref t_3)] [])) st10 ?_
  have f14 : Exa Z h10 x0 "java/lang/String" := (f12.wr W10)
  have f15 : Fld Z h10 x0 "java/lang/String" "coder" "B" (.int cd_3) := (Fw6.other W10 (Or.inr (slot_ne (Or.inr (own_w G 22 rfl)) (Or.inr (own_w G 21 rfl)) (by decide) (t := .byte) (t' := (.array .byte)) (by decide) (by decide))))
  have f16 : Arv Z h10 t_3 kb_3 .byte N_3 vs_3 (.int (0 : Int32)) := ((r3_0.other W6 (own_ne (by omega))).other W10 (own_ne (by omega)))
  refine OwnEnd.ret X10 (v := none) (fun _ => rfl) hlk (fun fs hr => X10.returnOut hx Bd.returns (hb hby d0_57) hr) (by decide) (by decide) (Q := Qnv4 Z x0 b v0 c9 kC dC c0 c1 c2 c3 h0 n0) e10 ?_
  exact ⟨t_3, kb_3, N_3, vs_3, cd_3, rfl, N10, K13, f14, Fw10, f15, f16, (r3_1), (by omega)⟩

theorem own_efnw4 (m : MethodId) (x0 : Addr) (b : Addr) : entryFrame m #[(.ref x0), (.ref b)] 2 = mkF m 0 #[.val (.ref x0), .val (.ref b)] [] := by first | (simp [entryFrame, mkF, argsToLocals, Value.category]; done) | rfl
def Qnw4 (Z : State) (x0 : Addr) (b : Addr) (v0 : Value) (c9 : Value) (kC : ClassId) (dC : Value) (c0 : Int32) (c1 : Int32) (c2 : Int32) (c3 : Int32) (h0 : Heap) (n0 : Nat) (v : Option Value) (h : Heap) (L : List Loc) : Prop := ∃ (t : Addr) (kb : ClassId) (N : Int32) (vs : List Value) (cd : Int32), v = none ∧ Fr n0 L ∧ Keep h0 h [x0] ∧ (Exa Z h x0 "java/lang/String") ∧ (Fld Z h x0 "java/lang/String" "value" "[B" (.ref t)) ∧ (Fld Z h x0 "java/lang/String" "coder" "B" (.int cd)) ∧ (Arv Z h t kb .byte N vs (.int (0 : Int32))) ∧ (StrChars.Road.CodA [c0, c1, c2, c3] cd N vs) ∧ (Array.size h0 ≤ t)
set_option maxRecDepth 65536 in
set_option maxHeartbeats 40000000 in
theorem rmnw4 (l : Launch) (Z : State) (a0 : Array Value) (G : OwnG Z a0) (ws : List Jvm.Cond) (x0 : Addr) (b : Addr) (v0 : Value) (c9 : Value) (kC : ClassId) (dC : Value) (c0 : Int32) (c1 : Int32) (c2 : Int32) (c3 : Int32) (h0 : Heap) (n0 : Nat) (O0 : Old Z n0 h0) (P0 : Exa Z h0 x0 "java/lang/String") (P1 : Fld Z h0 x0 "java/lang/String" "value" "[B" v0) (P2 : Fld Z h0 x0 "java/lang/String" "coder" "B" c9) (P3 : n0 ≤ x0) (P4 : Arv Z h0 b kC .char (4 : Int32) [(.int c0), (.int c1), (.int c2), (.int c3)] dC) (P5 : ∀ c ∈ ([c0, c1, c2, c3] : List Int32), ¬ c < (0 : Int32) ∧ ¬ (65535 : Int32) < c) (P6 : x0 ≠ b) :
    MetFree l own_m1 (head1 (Jvm.Cond.code own_m1 jdk_42_method_3_code 2 none :: ws) ({ frames := 5, cells := 2, slots := 12, locals := 74 } : Room)) (fun a U => a = #[(.ref x0), (.ref b)] ∧ Z.Warmed39 U.vm ∧ U.heap = h0) (fun _ _ _ _ _ => True) (fun _ U o U' => ∃ v L, o = .returned v ∧ Qnw4 Z x0 b v0 c9 kC dC c0 c1 c2 c3 h0 n0 v U'.heap L ∧ FrameEnd U o U' L ({ frames := 5, cells := 2, slots := 12, locals := 74 } : Room).cells ({ frames := 5, cells := 2, slots := 12, locals := 74 } : Room).slots) := by
  refine MetFree.of_bodySF (plainFor_of_name pn_0) hisR ?_
  intro p e s m args below meth cD s₁ Bd hml0 hP hK
  obtain ⟨rfl, hZ, hh⟩ := hP
  have hw := G.1
  have hx := Bd.exec
  have hby := Bd.bytes
  have hml : cD.maxLocals = 2 := hml0
  have hown : s.vm.findClass "java/lang/String" = some m.cls := findClass_of_methodNamed Bd.named
  have hnm := (name_of_methodNamed Bd.named Bd.method).1
  have hlk := Bd.notSynchronized
  have X0 : Stand p l e ({ frames := 5, cells := 2, slots := 12, locals := 74 } : Room) s m #[(.ref x0), (.ref b)] below meth cD s₁ [] 0 0 := Stand.of_body Bd
  have e0 : s₁.heap = h0 := by rw [← hh, Bd.state]; rfl
  have lt0 := own_ltN' P0.lt
  have lt1 := own_ltN' P1.lt
  have lt2 := own_ltN' P2.lt
  have lt4 := own_ltN' P4.lt
  have nP6 := own_neN P6
  have K0 : Keep h0 h0 [x0] := Keep.refl h0 _
  have Z0 := own_old_le O0
  have N0 := Fr.nil n0
  refine OwnEnd.start (g' := (mkF m 0 #[.val (.ref x0), .val (.ref b)] [])) (own_efnw4 m x0 b) ?_
  refine OwnEnd.of (S' := s₁.setTop (mkF m 4 #[.val (.ref x0), .val (.ref b)] [(.ref b), (.int (0 : Int32)), (.ref b), (.ref x0)])) (fun _ kK => XS.aloadN X0.here hx rfl (hb hby d1_0) rfl rfl (XS.aloadN X0.here hx rfl (hb hby d1_1) rfl rfl (XS.iconst X0.here hx rfl (hb hby d1_2) (XS.aloadN X0.here hx rfl (hb hby d1_3) rfl rfl kK)))) ?_
  obtain ⟨cl1, Ar1, q1, S1, N1', H1, G1⟩ := id P4
  refine OwnEnd.of (S' := s₁.setTop (mkF m 5 #[.val (.ref x0), .val (.ref b)] [(.int (4 : Int32)), (.int (0 : Int32)), (.ref b), (.ref x0)])) (fun _ kK => X0.arraylength hx (by rw [e0]; exact Ar1.1) (State.isArrayOf_alike hZ.alike Ar1.2.1) (g := (mkF m 4 #[.val (.ref x0), .val (.ref b)] [(.ref b), (.int (0 : Int32)), (.ref b), (.ref x0)])) rfl rfl (hb hby d1_4) _ (by rw [len_of S1 N1']; exact kK)) ?_
  refine OwnEnd.of (S' := s₁.setTop (mkF m 6 #[.val (.ref x0), .val (.ref b)] [.null, (.int (4 : Int32)), (.int (0 : Int32)), (.ref b), (.ref x0)])) (fun _ kK => XS.aconstNull X0.here hx rfl (hb hby d1_5) kK) ?_
  obtain ⟨_, _, ⟨T2, L2, k2, n2⟩, -, X2, ⟨Lc2, hQ2, l2, y2, z2⟩, st2⟩ := Jvm.Stand.specialBack X0 hx (y := own_m0) rfl hown (mvT hZ (own_w G 12 rfl)) (mvT hZ (own_w G 13 rfl)) (mvT hZ (own_w G 15 rfl)) (by decide) (backOf (W := 0) (rmnv4 l Z a0 G [] x0 b v0 c9 kC dC c0 c1 c2 c3 h0 n0 O0 P0 P1 P2 (by omega) P4 P5 (P6 : x0 ≠ b)) hZ (own_w G 15 rfl) (own_w G 3 rfl) (by decide) (by decide)) (g := (mkF m 6 #[.val (.ref x0), .val (.ref b)] [.null, (.int (4 : Int32)), (.int (0 : Int32)), (.ref b), (.ref x0)])) rfl (by rw [hml]; rfl) (Steps.refl _) (a := x0) (argsL := [(.ref b), (.int (0 : Int32)), (.int (4 : Int32)), .null]) (rest := []) (lenOf pd_0 rfl) rfl (by show 2 * 0 + _ ≤ _; exact Nat.le_of_eq rfl) (hb hby d1_6) (fun _ _ => ⟨rfl, e0, (by decide : 0 + 2 ≤ _), (by decide : 0 + 12 ≤ _)⟩)
  dsimp only [Pt.U, Pt.locs, Pt.cells, Pt.slots] at X2 l2 y2 z2 st2 hQ2
  subst l2 y2 z2
  obtain ⟨t_2, kb_2, N_2, vs_2, cd_2, rfl, N2q, Kq2, r2_0, r2_1, r2_2, r2_3, r2_4, r2_5⟩ := hQ2
  have N2 := Fr.app N0 N2q
  have sz3 := Kq2.1
  have K3 := K0.trans Kq2 (own_all1 (Or.inl (by simp)))
  have O3 := O0.keep Kq2 (own_all1 (by omega))
  have ltr2_0 := own_ltN' r2_0.lt
  have ltr2_1 := own_ltN' r2_1.lt
  have ltr2_2 := own_ltN' r2_2.lt
  have ltr2_3 := own_ltN' r2_3.lt
  refine OwnEnd.tr (S' := T2.setTop (mkF m 9 #[.val (.ref x0), .val (.ref b)] [])) st2 ?_
  refine OwnEnd.ret X2 (v := none) (fun _ => rfl) hlk (fun fs hr => X2.returnOut hx Bd.returns (hb hby d1_9) hr) (by decide) (by decide) (Q := Qnw4 Z x0 b v0 c9 kC dC c0 c1 c2 c3 h0 n0) rfl ?_
  exact ⟨t_2, kb_2, N_2, vs_2, cd_2, rfl, N2, K3, r2_0, r2_1, r2_2, r2_3, (r2_4), (by omega)⟩

theorem own_efdg (m : MethodId) (c : Int32) : entryFrame m #[(.int c)] 1 = mkF m 0 #[.val (.int c)] [] := by first | (simp [entryFrame, mkF, argsToLocals, Value.category]; done) | rfl
set_option maxRecDepth 65536 in
set_option maxHeartbeats 40000000 in
theorem rmdg (l : Launch) (Z : State) (a0 : Array Value) (G : OwnG Z a0) (ws : List Jvm.Cond) (c : Int32) (h0 : Heap) (n0 : Nat) (O0 : Old Z n0 h0)  :
    MetFree l own_m21 (head1 (Jvm.Cond.code own_m21 method_2_code 1 (some .boolean) :: ws) ({ frames := 0, cells := 0, slots := 0, locals := 0 } : Room)) (fun a U => a = #[(.int c)] ∧ Z.Warmed39 U.vm ∧ U.heap = h0) (fun _ _ _ _ _ => True) (fun _ U o U' => ∃ v L, o = .returned v ∧ (own_Qint (own_dig c)) h0 n0 v U'.heap L ∧ FrameEnd U o U' L ({ frames := 0, cells := 0, slots := 0, locals := 0 } : Room).cells ({ frames := 0, cells := 0, slots := 0, locals := 0 } : Room).slots) := by
  refine MetFree.of_bodySF (plainFor_of_name pn_4) hisR ?_
  intro p e s m args below meth cD s₁ Bd hml0 hP hK
  obtain ⟨rfl, hZ, hh⟩ := hP
  have hw := G.1
  have hx := Bd.exec
  have hby := Bd.bytes
  have hml : cD.maxLocals = 1 := hml0
  have hown : s.vm.findClass "com/example/sabar/sabar/AsciiIsDigitsPinLaw" = some m.cls := findClass_of_methodNamed Bd.named
  have hnm := (name_of_methodNamed Bd.named Bd.method).1
  have hlk := Bd.notSynchronized
  have X0 : Stand p l e ({ frames := 0, cells := 0, slots := 0, locals := 0 } : Room) s m #[(.int c)] below meth cD s₁ [] 0 0 := Stand.of_body Bd
  have e0 : s₁.heap = h0 := by rw [← hh, Bd.state]; rfl
  have K0 : Keep h0 h0 [] := Keep.refl h0 _
  have Z0 := own_old_le O0
  have N0 := Fr.nil n0
  refine OwnEnd.start (g' := (mkF m 0 #[.val (.int c)] [])) (own_efdg m c) ?_
  refine OwnEnd.of (S' := s₁.setTop (mkF m 3 #[.val (.int c)] [(.int (48 : Int32)), (.int c)])) (fun _ kK => XS.iloadN X0.here hx rfl (hb hby d21_0) rfl (XS.bipush X0.here hx rfl (hb hby d21_1) kK)) ?_
  rcases Decidable.em (c < (48 : Int32)) with hc1 | hc1
  · refine OwnEnd.of (S' := s₁.setTop (mkF m 17 #[.val (.int c)] [(.int (0 : Int32))])) (fun _ kK => XS.icmpYes X0.here hx rfl (pc0 := 3) (pc' := 16) rfl (hb hby d21_3) rfl (tlt (hc1)).1 (by decide) (by decide) (XS.iconst X0.here hx rfl (hb hby d21_16) kK)) ?_
    refine OwnEnd.ret X0 (v := (some (.int (nar .boolean (0 : Int32))))) (fun h => by rw [Bd.returns] at h; cases h) hlk (fun fs hr => retN X0 hx (t := .boolean) Bd.returns (by simp) (hb hby d21_17) hr) (by decide) (by decide) (Q := (own_Qint (own_dig c)) h0 n0) e0 ?_
    exact ⟨(by show some (Value.int (nar .boolean (0 : Int32))) = _; simp [own_dig, nar, hc1]), N0, rfl⟩
  · refine OwnEnd.of (S' := s₁.setTop (mkF m 9 #[.val (.int c)] [(.int (57 : Int32)), (.int c)])) (fun _ kK => XS.icmpNo X0.here hx rfl (hb hby d21_3) rfl (flt (hc1)).1 (XS.iloadN X0.here hx rfl (hb hby d21_6) rfl (XS.bipush X0.here hx rfl (hb hby d21_7) kK))) ?_
    rcases Decidable.em ((57 : Int32) < c) with hc2 | hc2
    · refine OwnEnd.of (S' := s₁.setTop (mkF m 17 #[.val (.int c)] [(.int (0 : Int32))])) (fun _ kK => XS.icmpYes X0.here hx rfl (pc0 := 9) (pc' := 16) rfl (hb hby d21_9) rfl (tlt (hc2)).2.2.1 (by decide) (by decide) (XS.iconst X0.here hx rfl (hb hby d21_16) kK)) ?_
      refine OwnEnd.ret X0 (v := (some (.int (nar .boolean (0 : Int32))))) (fun h => by rw [Bd.returns] at h; cases h) hlk (fun fs hr => retN X0 hx (t := .boolean) Bd.returns (by simp) (hb hby d21_17) hr) (by decide) (by decide) (Q := (own_Qint (own_dig c)) h0 n0) e0 ?_
      exact ⟨(by show some (Value.int (nar .boolean (0 : Int32))) = _; simp [own_dig, nar, hc1, hc2]), N0, rfl⟩
    · refine OwnEnd.of (S' := s₁.setTop (mkF m 17 #[.val (.int c)] [(.int (1 : Int32))])) (fun _ kK => XS.icmpNo X0.here hx rfl (hb hby d21_9) rfl (flt (hc2)).2.2.1 (XS.iconst X0.here hx rfl (hb hby d21_12) (XS.goto X0.here hx rfl (pc0 := 13) (pc' := 17) rfl (hb hby d21_13) (by decide) (by decide) kK))) ?_
      refine OwnEnd.ret X0 (v := (some (.int (nar .boolean (1 : Int32))))) (fun h => by rw [Bd.returns] at h; cases h) hlk (fun fs hr => retN X0 hx (t := .boolean) Bd.returns (by simp) (hb hby d21_17) hr) (by decide) (by decide) (Q := (own_Qint (own_dig c)) h0 n0) e0 ?_
      exact ⟨(by show some (Value.int (nar .boolean (1 : Int32))) = _; simp [own_dig, nar, hc1, hc2]), N0, rfl⟩

theorem own_efbd0 (m : MethodId) (c0 : Int32) (c1 : Int32) (c2 : Int32) (c3 : Int32) : entryFrame m #[(.int (0 : Int32)), (.int c0), (.int c1), (.int c2), (.int c3)] 5 = mkF m 0 #[.val (.int (0 : Int32)), .val (.int c0), .val (.int c1), .val (.int c2), .val (.int c3)] [] := by first | (simp [entryFrame, mkF, argsToLocals, Value.category]; done) | rfl
def Qbd0 (Z : State) (c0 : Int32) (c1 : Int32) (c2 : Int32) (c3 : Int32) (h0 : Heap) (n0 : Nat) (v : Option Value) (h : Heap) (L : List Loc) : Prop := ∃ (b : Addr) (kC : ClassId), v = some (.ref b) ∧ Fr n0 L ∧ Keep h0 h [] ∧ (Arv Z h b kC .char (0 : Int32) [] (.int (0 : Int32))) ∧ (Array.size h0 ≤ b)
set_option maxRecDepth 65536 in
set_option maxHeartbeats 40000000 in
theorem rmbd0 (l : Launch) (Z : State) (a0 : Array Value) (G : OwnG Z a0) (ws : List Jvm.Cond) (c0 : Int32) (c1 : Int32) (c2 : Int32) (c3 : Int32) (h0 : Heap) (n0 : Nat) (O0 : Old Z n0 h0)  :
    MetFree l own_m22 (head1 (Jvm.Cond.code own_m22 method_3_code 5 (some (.array .char)) :: ws) ({ frames := 0, cells := 1, slots := 0, locals := 0 } : Room)) (fun a U => a = #[(.int (0 : Int32)), (.int c0), (.int c1), (.int c2), (.int c3)] ∧ Z.Warmed39 U.vm ∧ U.heap = h0) (fun _ _ _ _ _ => True) (fun _ U o U' => ∃ v L, o = .returned v ∧ Qbd0 Z c0 c1 c2 c3 h0 n0 v U'.heap L ∧ FrameEnd U o U' L ({ frames := 0, cells := 1, slots := 0, locals := 0 } : Room).cells ({ frames := 0, cells := 1, slots := 0, locals := 0 } : Room).slots) := by
  refine MetFree.of_bodySF (plainFor_of_name pn_4) hisR ?_
  intro p e s m args below meth cD s₁ Bd hml0 hP hK
  obtain ⟨rfl, hZ, hh⟩ := hP
  have hw := G.1
  have hx := Bd.exec
  have hby := Bd.bytes
  have hml : cD.maxLocals = 5 := hml0
  have hown : s.vm.findClass "com/example/sabar/sabar/AsciiIsDigitsPinLaw" = some m.cls := findClass_of_methodNamed Bd.named
  have hnm := (name_of_methodNamed Bd.named Bd.method).1
  have hlk := Bd.notSynchronized
  have X0 : Stand p l e ({ frames := 0, cells := 1, slots := 0, locals := 0 } : Room) s m #[(.int (0 : Int32)), (.int c0), (.int c1), (.int c2), (.int c3)] below meth cD s₁ [] 0 0 := Stand.of_body Bd
  have e0 : s₁.heap = h0 := by rw [← hh, Bd.state]; rfl
  have K0 : Keep h0 h0 [] := Keep.refl h0 _
  have Z0 := own_old_le O0
  have N0 := Fr.nil n0
  refine OwnEnd.start (g' := (mkF m 0 #[.val (.int (0 : Int32)), .val (.int c0), .val (.int c1), .val (.int c2), .val (.int c3)] [])) (own_efbd0 m c0 c1 c2 c3) ?_
  refine OwnEnd.of (S' := s₁.setTop (mkF m 5 #[.val (.int (0 : Int32)), .val (.int c0), .val (.int c1), .val (.int c2), .val (.int c3)] [(.int (0 : Int32))])) (fun _ kK => XS.iloadN X0.here hx rfl (hb hby d22_0) rfl (XS.ifNo X0.here hx rfl (hb hby d22_1) rfl ((if0 _ _).trans (teq ((by decide : (0 : Int32) = (0 : Int32)))).2) (XS.iconst X0.here hx rfl (hb hby d22_4) kK))) ?_
  obtain ⟨T1, h1, k1, X1, e1, E1, A1, st1⟩ := newP X0 hx hZ (own_w G 8 rfl) e0 (g := (mkF m 5 #[.val (.int (0 : Int32)), .val (.int c0), .val (.int c1), .val (.int c2), .val (.int c3)] [(.int (0 : Int32))])) rfl (hb hby d22_5) rfl (by decide) (cap := 0) (by decide) (by decide) (by decide) (by decide)
  obtain ⟨b1, g1⟩ : ∃ z, z = Array.size h0 := ⟨_, rfl⟩
  rw [← g1] at A1 st1
  have lt_b1 := own_ltN' A1.lt
  have sz2 := E1.1
  have K2 := K0.ext E1
  have O2 := O0.ext E1
  have V1 : Arv Z h1 b1 k1 .char (0 : Int32) [] (.int (0 : Int32)) := (Arv.new A1 (by decide)).pad (pad_rep [] (.int (0 : Int32)) 0)
  refine OwnEnd.of (S' := T1.setTop (mkF m 7 #[.val (.int (0 : Int32)), .val (.int c0), .val (.int c1), .val (.int c2), .val (.int c3)] [(.ref b1)])) st1 ?_
  refine OwnEnd.ret X1 (v := (some (.ref b1))) (fun h => by rw [Bd.returns] at h; cases h) hlk (fun fs hr => retOut X1 hx Bd.returns rfl (Or.inr (Or.inr (Or.inr (Or.inr ⟨rfl, rfl, rfl⟩)))) (hb hby d22_7) hr) (by decide) (by decide) (Q := Qbd0 Z c0 c1 c2 c3 h0 n0) e1 ?_
  exact ⟨b1, k1, rfl, N0, K2, V1, (by omega)⟩

theorem own_efbd1 (m : MethodId) (c0 : Int32) (c1 : Int32) (c2 : Int32) (c3 : Int32) : entryFrame m #[(.int (1 : Int32)), (.int c0), (.int c1), (.int c2), (.int c3)] 5 = mkF m 0 #[.val (.int (1 : Int32)), .val (.int c0), .val (.int c1), .val (.int c2), .val (.int c3)] [] := by first | (simp [entryFrame, mkF, argsToLocals, Value.category]; done) | rfl
def Qbd1 (Z : State) (c0 : Int32) (c1 : Int32) (c2 : Int32) (c3 : Int32) (h0 : Heap) (n0 : Nat) (v : Option Value) (h : Heap) (L : List Loc) : Prop := ∃ (b : Addr) (kC : ClassId), v = some (.ref b) ∧ Fr n0 L ∧ Keep h0 h [] ∧ (Arv Z h b kC .char (1 : Int32) [(.int c0)] (.int (0 : Int32))) ∧ (Array.size h0 ≤ b)
set_option maxRecDepth 65536 in
set_option maxHeartbeats 40000000 in
theorem rmbd1 (l : Launch) (Z : State) (a0 : Array Value) (G : OwnG Z a0) (ws : List Jvm.Cond) (c0 : Int32) (c1 : Int32) (c2 : Int32) (c3 : Int32) (h0 : Heap) (n0 : Nat) (O0 : Old Z n0 h0) (P0 : nar .char c0 = c0) :
    MetFree l own_m22 (head1 (Jvm.Cond.code own_m22 method_3_code 5 (some (.array .char)) :: ws) ({ frames := 0, cells := 1, slots := 1, locals := 0 } : Room)) (fun a U => a = #[(.int (1 : Int32)), (.int c0), (.int c1), (.int c2), (.int c3)] ∧ Z.Warmed39 U.vm ∧ U.heap = h0) (fun _ _ _ _ _ => True) (fun _ U o U' => ∃ v L, o = .returned v ∧ Qbd1 Z c0 c1 c2 c3 h0 n0 v U'.heap L ∧ FrameEnd U o U' L ({ frames := 0, cells := 1, slots := 1, locals := 0 } : Room).cells ({ frames := 0, cells := 1, slots := 1, locals := 0 } : Room).slots) := by
  refine MetFree.of_bodySF (plainFor_of_name pn_4) hisR ?_
  intro p e s m args below meth cD s₁ Bd hml0 hP hK
  obtain ⟨rfl, hZ, hh⟩ := hP
  have hw := G.1
  have hx := Bd.exec
  have hby := Bd.bytes
  have hml : cD.maxLocals = 5 := hml0
  have hown : s.vm.findClass "com/example/sabar/sabar/AsciiIsDigitsPinLaw" = some m.cls := findClass_of_methodNamed Bd.named
  have hnm := (name_of_methodNamed Bd.named Bd.method).1
  have hlk := Bd.notSynchronized
  have X0 : Stand p l e ({ frames := 0, cells := 1, slots := 1, locals := 0 } : Room) s m #[(.int (1 : Int32)), (.int c0), (.int c1), (.int c2), (.int c3)] below meth cD s₁ [] 0 0 := Stand.of_body Bd
  have e0 : s₁.heap = h0 := by rw [← hh, Bd.state]; rfl
  have K0 : Keep h0 h0 [] := Keep.refl h0 _
  have Z0 := own_old_le O0
  have N0 := Fr.nil n0
  refine OwnEnd.start (g' := (mkF m 0 #[.val (.int (1 : Int32)), .val (.int c0), .val (.int c1), .val (.int c2), .val (.int c3)] [])) (own_efbd1 m c0 c1 c2 c3) ?_
  refine OwnEnd.of (S' := s₁.setTop (mkF m 14 #[.val (.int (1 : Int32)), .val (.int c0), .val (.int c1), .val (.int c2), .val (.int c3)] [(.int (1 : Int32))])) (fun _ kK => XS.iloadN X0.here hx rfl (hb hby d22_0) rfl (XS.ifYes X0.here hx rfl (pc0 := 1) (pc' := 8) rfl (hb hby d22_1) rfl ((if0 _ _).trans (feq ((by decide : ¬ ((1 : Int32) = (0 : Int32))))).2) (by decide) (by decide) (XS.iloadN X0.here hx rfl (hb hby d22_8) rfl (XS.iconst X0.here hx rfl (hb hby d22_9) (XS.icmpNo X0.here hx rfl (hb hby d22_10) rfl (teq ((by decide : (1 : Int32) = (1 : Int32)))).2 (XS.iconst X0.here hx rfl (hb hby d22_13) kK)))))) ?_
  obtain ⟨T1, h1, k1, X1, e1, E1, A1, st1⟩ := newP X0 hx hZ (own_w G 8 rfl) e0 (g := (mkF m 14 #[.val (.int (1 : Int32)), .val (.int c0), .val (.int c1), .val (.int c2), .val (.int c3)] [(.int (1 : Int32))])) rfl (hb hby d22_14) rfl (by decide) (cap := 1) (by decide) (by decide) (by decide) (by decide)
  obtain ⟨b1, g1⟩ : ∃ z, z = Array.size h0 := ⟨_, rfl⟩
  rw [← g1] at A1 st1
  have lt_b1 := own_ltN' A1.lt
  have sz2 := E1.1
  have K2 := K0.ext E1
  have O2 := O0.ext E1
  have V1 : Arv Z h1 b1 k1 .char (1 : Int32) [(.int (0 : Int32))] (.int (0 : Int32)) := (Arv.new A1 (by decide)).pad (pad_rep [] (.int (0 : Int32)) 1)
  refine OwnEnd.of (S' := T1.setTop (mkF m 16 #[.val (.int (1 : Int32)), .val (.int c0), .val (.int c1), .val (.int c2), .val (.int c3)] [(.ref b1)])) st1 ?_
  refine OwnEnd.of (S' := T1.setTop (mkF m 19 #[.val (.int (1 : Int32)), .val (.int c0), .val (.int c1), .val (.int c2), .val (.int c3)] [(.int c0), (.int (0 : Int32)), (.ref b1), (.ref b1)])) (fun _ kK => XS.dup X1.here hx rfl (hb hby d22_16) rfl rfl (XS.iconst X1.here hx rfl (hb hby d22_17) (XS.iloadN X1.here hx rfl (hb hby d22_18) rfl kK))) ?_
  obtain ⟨cl3, Ar3, q3, S3, N3', H3, G3⟩ := id V1
  have hin4 : ¬ ((0 : Int32) < 0 ∨ cl3.slots.size ≤ ((0 : Int32)).toNatClampNeg) := inb_of S3 ⟨by decide, by decide⟩
  obtain ⟨T4, h4, X4, e4, W4, st4⟩ := stC X1 hx hZ e1 Ar3 (j := (0 : Int32)) hin4 (g := (mkF m 19 #[.val (.int (1 : Int32)), .val (.int c0), .val (.int c1), .val (.int c2), .val (.int c3)] [(.int c0), (.int (0 : Int32)), (.ref b1), (.ref b1)])) rfl rfl (hb hby d22_19)
  have N4 := Fr.snoc X4 N0 (by omega)
  have sz5 := own_wr_le W4
  have K5 := K2.wr W4 (Or.inr (by omega))
  have O5 := O2.wr W4 (by omega)
  have V4 : Arv Z h4 b1 k1 .char (1 : Int32) [(.int (nar .char c0))] (.int (0 : Int32)) := Arv.set Ar3 q3 S3 N3' H3 G3 (fits_nar_char _) W4 0 rfl (Nat.le_of_ble_eq_true rfl)
  refine OwnEnd.of (S' := T4.setTop (mkF m 20 #[.val (.int (1 : Int32)), .val (.int c0), .val (.int c1), .val (.int c2), .val (.int c3)] [(.ref b1)])) st4 ?_
  have V6 : Arv Z h4 b1 k1 .char (1 : Int32) [(.int c0)] (.int (0 : Int32)) := by have q := V4; rw [P0] at q; exact q
  refine OwnEnd.ret X4 (v := (some (.ref b1))) (fun h => by rw [Bd.returns] at h; cases h) hlk (fun fs hr => retOut X4 hx Bd.returns rfl (Or.inr (Or.inr (Or.inr (Or.inr ⟨rfl, rfl, rfl⟩)))) (hb hby d22_20) hr) (by decide) (by decide) (Q := Qbd1 Z c0 c1 c2 c3 h0 n0) e4 ?_
  exact ⟨b1, k1, rfl, N4, K5, V6, (by omega)⟩

theorem own_efbd2 (m : MethodId) (c0 : Int32) (c1 : Int32) (c2 : Int32) (c3 : Int32) : entryFrame m #[(.int (2 : Int32)), (.int c0), (.int c1), (.int c2), (.int c3)] 5 = mkF m 0 #[.val (.int (2 : Int32)), .val (.int c0), .val (.int c1), .val (.int c2), .val (.int c3)] [] := by first | (simp [entryFrame, mkF, argsToLocals, Value.category]; done) | rfl
def Qbd2 (Z : State) (c0 : Int32) (c1 : Int32) (c2 : Int32) (c3 : Int32) (h0 : Heap) (n0 : Nat) (v : Option Value) (h : Heap) (L : List Loc) : Prop := ∃ (b : Addr) (kC : ClassId), v = some (.ref b) ∧ Fr n0 L ∧ Keep h0 h [] ∧ (Arv Z h b kC .char (2 : Int32) [(.int c0), (.int c1)] (.int (0 : Int32))) ∧ (Array.size h0 ≤ b)
set_option maxRecDepth 65536 in
set_option maxHeartbeats 40000000 in
theorem rmbd2 (l : Launch) (Z : State) (a0 : Array Value) (G : OwnG Z a0) (ws : List Jvm.Cond) (c0 : Int32) (c1 : Int32) (c2 : Int32) (c3 : Int32) (h0 : Heap) (n0 : Nat) (O0 : Old Z n0 h0) (P0 : nar .char c0 = c0) (P1 : nar .char c1 = c1) :
    MetFree l own_m22 (head1 (Jvm.Cond.code own_m22 method_3_code 5 (some (.array .char)) :: ws) ({ frames := 0, cells := 1, slots := 2, locals := 0 } : Room)) (fun a U => a = #[(.int (2 : Int32)), (.int c0), (.int c1), (.int c2), (.int c3)] ∧ Z.Warmed39 U.vm ∧ U.heap = h0) (fun _ _ _ _ _ => True) (fun _ U o U' => ∃ v L, o = .returned v ∧ Qbd2 Z c0 c1 c2 c3 h0 n0 v U'.heap L ∧ FrameEnd U o U' L ({ frames := 0, cells := 1, slots := 2, locals := 0 } : Room).cells ({ frames := 0, cells := 1, slots := 2, locals := 0 } : Room).slots) := by
  refine MetFree.of_bodySF (plainFor_of_name pn_4) hisR ?_
  intro p e s m args below meth cD s₁ Bd hml0 hP hK
  obtain ⟨rfl, hZ, hh⟩ := hP
  have hw := G.1
  have hx := Bd.exec
  have hby := Bd.bytes
  have hml : cD.maxLocals = 5 := hml0
  have hown : s.vm.findClass "com/example/sabar/sabar/AsciiIsDigitsPinLaw" = some m.cls := findClass_of_methodNamed Bd.named
  have hnm := (name_of_methodNamed Bd.named Bd.method).1
  have hlk := Bd.notSynchronized
  have X0 : Stand p l e ({ frames := 0, cells := 1, slots := 2, locals := 0 } : Room) s m #[(.int (2 : Int32)), (.int c0), (.int c1), (.int c2), (.int c3)] below meth cD s₁ [] 0 0 := Stand.of_body Bd
  have e0 : s₁.heap = h0 := by rw [← hh, Bd.state]; rfl
  have K0 : Keep h0 h0 [] := Keep.refl h0 _
  have Z0 := own_old_le O0
  have N0 := Fr.nil n0
  refine OwnEnd.start (g' := (mkF m 0 #[.val (.int (2 : Int32)), .val (.int c0), .val (.int c1), .val (.int c2), .val (.int c3)] [])) (own_efbd2 m c0 c1 c2 c3) ?_
  refine OwnEnd.of (S' := s₁.setTop (mkF m 27 #[.val (.int (2 : Int32)), .val (.int c0), .val (.int c1), .val (.int c2), .val (.int c3)] [(.int (2 : Int32))])) (fun _ kK => XS.iloadN X0.here hx rfl (hb hby d22_0) rfl (XS.ifYes X0.here hx rfl (pc0 := 1) (pc' := 8) rfl (hb hby d22_1) rfl ((if0 _ _).trans (feq ((by decide : ¬ ((2 : Int32) = (0 : Int32))))).2) (by decide) (by decide) (XS.iloadN X0.here hx rfl (hb hby d22_8) rfl (XS.iconst X0.here hx rfl (hb hby d22_9) (XS.icmpYes X0.here hx rfl (pc0 := 10) (pc' := 21) rfl (hb hby d22_10) rfl (feq ((by decide : ¬ ((2 : Int32) = (1 : Int32))))).2 (by decide) (by decide) (XS.iloadN X0.here hx rfl (hb hby d22_21) rfl (XS.iconst X0.here hx rfl (hb hby d22_22) (XS.icmpNo X0.here hx rfl (hb hby d22_23) rfl (teq ((by decide : (2 : Int32) = (2 : Int32)))).2 (XS.iconst X0.here hx rfl (hb hby d22_26) kK))))))))) ?_
  obtain ⟨T1, h1, k1, X1, e1, E1, A1, st1⟩ := newP X0 hx hZ (own_w G 8 rfl) e0 (g := (mkF m 27 #[.val (.int (2 : Int32)), .val (.int c0), .val (.int c1), .val (.int c2), .val (.int c3)] [(.int (2 : Int32))])) rfl (hb hby d22_27) rfl (by decide) (cap := 2) (by decide) (by decide) (by decide) (by decide)
  obtain ⟨b1, g1⟩ : ∃ z, z = Array.size h0 := ⟨_, rfl⟩
  rw [← g1] at A1 st1
  have lt_b1 := own_ltN' A1.lt
  have sz2 := E1.1
  have K2 := K0.ext E1
  have O2 := O0.ext E1
  have V1 : Arv Z h1 b1 k1 .char (2 : Int32) [(.int (0 : Int32)), (.int (0 : Int32))] (.int (0 : Int32)) := (Arv.new A1 (by decide)).pad (pad_rep [] (.int (0 : Int32)) 2)
  refine OwnEnd.of (S' := T1.setTop (mkF m 29 #[.val (.int (2 : Int32)), .val (.int c0), .val (.int c1), .val (.int c2), .val (.int c3)] [(.ref b1)])) st1 ?_
  refine OwnEnd.of (S' := T1.setTop (mkF m 32 #[.val (.int (2 : Int32)), .val (.int c0), .val (.int c1), .val (.int c2), .val (.int c3)] [(.int c0), (.int (0 : Int32)), (.ref b1), (.ref b1)])) (fun _ kK => XS.dup X1.here hx rfl (hb hby d22_29) rfl rfl (XS.iconst X1.here hx rfl (hb hby d22_30) (XS.iloadN X1.here hx rfl (hb hby d22_31) rfl kK))) ?_
  obtain ⟨cl3, Ar3, q3, S3, N3', H3, G3⟩ := id V1
  have hin4 : ¬ ((0 : Int32) < 0 ∨ cl3.slots.size ≤ ((0 : Int32)).toNatClampNeg) := inb_of S3 ⟨by decide, by decide⟩
  obtain ⟨T4, h4, X4, e4, W4, st4⟩ := stC X1 hx hZ e1 Ar3 (j := (0 : Int32)) hin4 (g := (mkF m 32 #[.val (.int (2 : Int32)), .val (.int c0), .val (.int c1), .val (.int c2), .val (.int c3)] [(.int c0), (.int (0 : Int32)), (.ref b1), (.ref b1)])) rfl rfl (hb hby d22_32)
  have N4 := Fr.snoc X4 N0 (by omega)
  have sz5 := own_wr_le W4
  have K5 := K2.wr W4 (Or.inr (by omega))
  have O5 := O2.wr W4 (by omega)
  have V4 : Arv Z h4 b1 k1 .char (2 : Int32) [(.int (nar .char c0)), (.int (0 : Int32))] (.int (0 : Int32)) := Arv.set Ar3 q3 S3 N3' H3 G3 (fits_nar_char _) W4 0 rfl (Nat.le_of_ble_eq_true rfl)
  refine OwnEnd.of (S' := T4.setTop (mkF m 33 #[.val (.int (2 : Int32)), .val (.int c0), .val (.int c1), .val (.int c2), .val (.int c3)] [(.ref b1)])) st4 ?_
  refine OwnEnd.of (S' := T4.setTop (mkF m 36 #[.val (.int (2 : Int32)), .val (.int c0), .val (.int c1), .val (.int c2), .val (.int c3)] [(.int c1), (.int (1 : Int32)), (.ref b1), (.ref b1)])) (fun _ kK => XS.dup X4.here hx rfl (hb hby d22_33) rfl rfl (XS.iconst X4.here hx rfl (hb hby d22_34) (XS.iloadN X4.here hx rfl (hb hby d22_35) rfl kK))) ?_
  obtain ⟨cl6, Ar6, q6, S6, N6', H6, G6⟩ := id V4
  have hin7 : ¬ ((1 : Int32) < 0 ∨ cl6.slots.size ≤ ((1 : Int32)).toNatClampNeg) := inb_of S6 ⟨by decide, by decide⟩
  obtain ⟨T7, h7, X7, e7, W7, st7⟩ := stC X4 hx hZ e4 Ar6 (j := (1 : Int32)) hin7 (g := (mkF m 36 #[.val (.int (2 : Int32)), .val (.int c0), .val (.int c1), .val (.int c2), .val (.int c3)] [(.int c1), (.int (1 : Int32)), (.ref b1), (.ref b1)])) rfl rfl (hb hby d22_36)
  have N7 := Fr.snoc X7 N4 (by omega)
  have sz8 := own_wr_le W7
  have K8 := K5.wr W7 (Or.inr (by omega))
  have O8 := O5.wr W7 (by omega)
  have V7 : Arv Z h7 b1 k1 .char (2 : Int32) [(.int (nar .char c0)), (.int (nar .char c1))] (.int (0 : Int32)) := Arv.set Ar6 q6 S6 N6' H6 G6 (fits_nar_char _) W7 1 rfl (Nat.le_of_ble_eq_true rfl)
  refine OwnEnd.of (S' := T7.setTop (mkF m 37 #[.val (.int (2 : Int32)), .val (.int c0), .val (.int c1), .val (.int c2), .val (.int c3)] [(.ref b1)])) st7 ?_
  have V9 : Arv Z h7 b1 k1 .char (2 : Int32) [(.int c0), (.int c1)] (.int (0 : Int32)) := by have q := V7; rw [P0, P1] at q; exact q
  refine OwnEnd.ret X7 (v := (some (.ref b1))) (fun h => by rw [Bd.returns] at h; cases h) hlk (fun fs hr => retOut X7 hx Bd.returns rfl (Or.inr (Or.inr (Or.inr (Or.inr ⟨rfl, rfl, rfl⟩)))) (hb hby d22_37) hr) (by decide) (by decide) (Q := Qbd2 Z c0 c1 c2 c3 h0 n0) e7 ?_
  exact ⟨b1, k1, rfl, N7, K8, V9, (by omega)⟩

theorem own_efbd3 (m : MethodId) (c0 : Int32) (c1 : Int32) (c2 : Int32) (c3 : Int32) : entryFrame m #[(.int (3 : Int32)), (.int c0), (.int c1), (.int c2), (.int c3)] 5 = mkF m 0 #[.val (.int (3 : Int32)), .val (.int c0), .val (.int c1), .val (.int c2), .val (.int c3)] [] := by first | (simp [entryFrame, mkF, argsToLocals, Value.category]; done) | rfl
def Qbd3 (Z : State) (c0 : Int32) (c1 : Int32) (c2 : Int32) (c3 : Int32) (h0 : Heap) (n0 : Nat) (v : Option Value) (h : Heap) (L : List Loc) : Prop := ∃ (b : Addr) (kC : ClassId), v = some (.ref b) ∧ Fr n0 L ∧ Keep h0 h [] ∧ (Arv Z h b kC .char (3 : Int32) [(.int c0), (.int c1), (.int c2)] (.int (0 : Int32))) ∧ (Array.size h0 ≤ b)
set_option maxRecDepth 65536 in
set_option maxHeartbeats 40000000 in
theorem rmbd3 (l : Launch) (Z : State) (a0 : Array Value) (G : OwnG Z a0) (ws : List Jvm.Cond) (c0 : Int32) (c1 : Int32) (c2 : Int32) (c3 : Int32) (h0 : Heap) (n0 : Nat) (O0 : Old Z n0 h0) (P0 : nar .char c0 = c0) (P1 : nar .char c1 = c1) (P2 : nar .char c2 = c2) :
    MetFree l own_m22 (head1 (Jvm.Cond.code own_m22 method_3_code 5 (some (.array .char)) :: ws) ({ frames := 0, cells := 1, slots := 3, locals := 0 } : Room)) (fun a U => a = #[(.int (3 : Int32)), (.int c0), (.int c1), (.int c2), (.int c3)] ∧ Z.Warmed39 U.vm ∧ U.heap = h0) (fun _ _ _ _ _ => True) (fun _ U o U' => ∃ v L, o = .returned v ∧ Qbd3 Z c0 c1 c2 c3 h0 n0 v U'.heap L ∧ FrameEnd U o U' L ({ frames := 0, cells := 1, slots := 3, locals := 0 } : Room).cells ({ frames := 0, cells := 1, slots := 3, locals := 0 } : Room).slots) := by
  refine MetFree.of_bodySF (plainFor_of_name pn_4) hisR ?_
  intro p e s m args below meth cD s₁ Bd hml0 hP hK
  obtain ⟨rfl, hZ, hh⟩ := hP
  have hw := G.1
  have hx := Bd.exec
  have hby := Bd.bytes
  have hml : cD.maxLocals = 5 := hml0
  have hown : s.vm.findClass "com/example/sabar/sabar/AsciiIsDigitsPinLaw" = some m.cls := findClass_of_methodNamed Bd.named
  have hnm := (name_of_methodNamed Bd.named Bd.method).1
  have hlk := Bd.notSynchronized
  have X0 : Stand p l e ({ frames := 0, cells := 1, slots := 3, locals := 0 } : Room) s m #[(.int (3 : Int32)), (.int c0), (.int c1), (.int c2), (.int c3)] below meth cD s₁ [] 0 0 := Stand.of_body Bd
  have e0 : s₁.heap = h0 := by rw [← hh, Bd.state]; rfl
  have K0 : Keep h0 h0 [] := Keep.refl h0 _
  have Z0 := own_old_le O0
  have N0 := Fr.nil n0
  refine OwnEnd.start (g' := (mkF m 0 #[.val (.int (3 : Int32)), .val (.int c0), .val (.int c1), .val (.int c2), .val (.int c3)] [])) (own_efbd3 m c0 c1 c2 c3) ?_
  refine OwnEnd.of (S' := s₁.setTop (mkF m 40 #[.val (.int (3 : Int32)), .val (.int c0), .val (.int c1), .val (.int c2), .val (.int c3)] [(.int (3 : Int32)), (.int (3 : Int32))])) (fun _ kK => XS.iloadN X0.here hx rfl (hb hby d22_0) rfl (XS.ifYes X0.here hx rfl (pc0 := 1) (pc' := 8) rfl (hb hby d22_1) rfl ((if0 _ _).trans (feq ((by decide : ¬ ((3 : Int32) = (0 : Int32))))).2) (by decide) (by decide) (XS.iloadN X0.here hx rfl (hb hby d22_8) rfl (XS.iconst X0.here hx rfl (hb hby d22_9) (XS.icmpYes X0.here hx rfl (pc0 := 10) (pc' := 21) rfl (hb hby d22_10) rfl (feq ((by decide : ¬ ((3 : Int32) = (1 : Int32))))).2 (by decide) (by decide) (XS.iloadN X0.here hx rfl (hb hby d22_21) rfl (XS.iconst X0.here hx rfl (hb hby d22_22) (XS.icmpYes X0.here hx rfl (pc0 := 23) (pc' := 38) rfl (hb hby d22_23) rfl (feq ((by decide : ¬ ((3 : Int32) = (2 : Int32))))).2 (by decide) (by decide) (XS.iloadN X0.here hx rfl (hb hby d22_38) rfl (XS.iconst X0.here hx rfl (hb hby d22_39) kK)))))))))) ?_
  refine OwnEnd.of (S' := s₁.setTop (mkF m 44 #[.val (.int (3 : Int32)), .val (.int c0), .val (.int c1), .val (.int c2), .val (.int c3)] [(.int (3 : Int32))])) (fun _ kK => XS.icmpNo X0.here hx rfl (hb hby d22_40) rfl (teq ((by decide : (3 : Int32) = (3 : Int32)))).2 (XS.iconst X0.here hx rfl (hb hby d22_43) kK)) ?_
  obtain ⟨T1, h1, k1, X1, e1, E1, A1, st1⟩ := newP X0 hx hZ (own_w G 8 rfl) e0 (g := (mkF m 44 #[.val (.int (3 : Int32)), .val (.int c0), .val (.int c1), .val (.int c2), .val (.int c3)] [(.int (3 : Int32))])) rfl (hb hby d22_44) rfl (by decide) (cap := 3) (by decide) (by decide) (by decide) (by decide)
  obtain ⟨b1, g1⟩ : ∃ z, z = Array.size h0 := ⟨_, rfl⟩
  rw [← g1] at A1 st1
  have lt_b1 := own_ltN' A1.lt
  have sz2 := E1.1
  have K2 := K0.ext E1
  have O2 := O0.ext E1
  have V1 : Arv Z h1 b1 k1 .char (3 : Int32) [(.int (0 : Int32)), (.int (0 : Int32)), (.int (0 : Int32))] (.int (0 : Int32)) := (Arv.new A1 (by decide)).pad (pad_rep [] (.int (0 : Int32)) 3)
  refine OwnEnd.of (S' := T1.setTop (mkF m 46 #[.val (.int (3 : Int32)), .val (.int c0), .val (.int c1), .val (.int c2), .val (.int c3)] [(.ref b1)])) st1 ?_
  refine OwnEnd.of (S' := T1.setTop (mkF m 49 #[.val (.int (3 : Int32)), .val (.int c0), .val (.int c1), .val (.int c2), .val (.int c3)] [(.int c0), (.int (0 : Int32)), (.ref b1), (.ref b1)])) (fun _ kK => XS.dup X1.here hx rfl (hb hby d22_46) rfl rfl (XS.iconst X1.here hx rfl (hb hby d22_47) (XS.iloadN X1.here hx rfl (hb hby d22_48) rfl kK))) ?_
  obtain ⟨cl3, Ar3, q3, S3, N3', H3, G3⟩ := id V1
  have hin4 : ¬ ((0 : Int32) < 0 ∨ cl3.slots.size ≤ ((0 : Int32)).toNatClampNeg) := inb_of S3 ⟨by decide, by decide⟩
  obtain ⟨T4, h4, X4, e4, W4, st4⟩ := stC X1 hx hZ e1 Ar3 (j := (0 : Int32)) hin4 (g := (mkF m 49 #[.val (.int (3 : Int32)), .val (.int c0), .val (.int c1), .val (.int c2), .val (.int c3)] [(.int c0), (.int (0 : Int32)), (.ref b1), (.ref b1)])) rfl rfl (hb hby d22_49)
  have N4 := Fr.snoc X4 N0 (by omega)
  have sz5 := own_wr_le W4
  have K5 := K2.wr W4 (Or.inr (by omega))
  have O5 := O2.wr W4 (by omega)
  have V4 : Arv Z h4 b1 k1 .char (3 : Int32) [(.int (nar .char c0)), (.int (0 : Int32)), (.int (0 : Int32))] (.int (0 : Int32)) := Arv.set Ar3 q3 S3 N3' H3 G3 (fits_nar_char _) W4 0 rfl (Nat.le_of_ble_eq_true rfl)
  refine OwnEnd.of (S' := T4.setTop (mkF m 50 #[.val (.int (3 : Int32)), .val (.int c0), .val (.int c1), .val (.int c2), .val (.int c3)] [(.ref b1)])) st4 ?_
  refine OwnEnd.of (S' := T4.setTop (mkF m 53 #[.val (.int (3 : Int32)), .val (.int c0), .val (.int c1), .val (.int c2), .val (.int c3)] [(.int c1), (.int (1 : Int32)), (.ref b1), (.ref b1)])) (fun _ kK => XS.dup X4.here hx rfl (hb hby d22_50) rfl rfl (XS.iconst X4.here hx rfl (hb hby d22_51) (XS.iloadN X4.here hx rfl (hb hby d22_52) rfl kK))) ?_
  obtain ⟨cl6, Ar6, q6, S6, N6', H6, G6⟩ := id V4
  have hin7 : ¬ ((1 : Int32) < 0 ∨ cl6.slots.size ≤ ((1 : Int32)).toNatClampNeg) := inb_of S6 ⟨by decide, by decide⟩
  obtain ⟨T7, h7, X7, e7, W7, st7⟩ := stC X4 hx hZ e4 Ar6 (j := (1 : Int32)) hin7 (g := (mkF m 53 #[.val (.int (3 : Int32)), .val (.int c0), .val (.int c1), .val (.int c2), .val (.int c3)] [(.int c1), (.int (1 : Int32)), (.ref b1), (.ref b1)])) rfl rfl (hb hby d22_53)
  have N7 := Fr.snoc X7 N4 (by omega)
  have sz8 := own_wr_le W7
  have K8 := K5.wr W7 (Or.inr (by omega))
  have O8 := O5.wr W7 (by omega)
  have V7 : Arv Z h7 b1 k1 .char (3 : Int32) [(.int (nar .char c0)), (.int (nar .char c1)), (.int (0 : Int32))] (.int (0 : Int32)) := Arv.set Ar6 q6 S6 N6' H6 G6 (fits_nar_char _) W7 1 rfl (Nat.le_of_ble_eq_true rfl)
  refine OwnEnd.of (S' := T7.setTop (mkF m 54 #[.val (.int (3 : Int32)), .val (.int c0), .val (.int c1), .val (.int c2), .val (.int c3)] [(.ref b1)])) st7 ?_
  refine OwnEnd.of (S' := T7.setTop (mkF m 57 #[.val (.int (3 : Int32)), .val (.int c0), .val (.int c1), .val (.int c2), .val (.int c3)] [(.int c2), (.int (2 : Int32)), (.ref b1), (.ref b1)])) (fun _ kK => XS.dup X7.here hx rfl (hb hby d22_54) rfl rfl (XS.iconst X7.here hx rfl (hb hby d22_55) (XS.iloadN X7.here hx rfl (hb hby d22_56) rfl kK))) ?_
  obtain ⟨cl9, Ar9, q9, S9, N9', H9, G9⟩ := id V7
  have hin10 : ¬ ((2 : Int32) < 0 ∨ cl9.slots.size ≤ ((2 : Int32)).toNatClampNeg) := inb_of S9 ⟨by decide, by decide⟩
  obtain ⟨T10, h10, X10, e10, W10, st10⟩ := stC X7 hx hZ e7 Ar9 (j := (2 : Int32)) hin10 (g := (mkF m 57 #[.val (.int (3 : Int32)), .val (.int c0), .val (.int c1), .val (.int c2), .val (.int c3)] [(.int c2), (.int (2 : Int32)), (.ref b1), (.ref b1)])) rfl rfl (hb hby d22_57)
  have N10 := Fr.snoc X10 N7 (by omega)
  have sz11 := own_wr_le W10
  have K11 := K8.wr W10 (Or.inr (by omega))
  have O11 := O8.wr W10 (by omega)
  have V10 : Arv Z h10 b1 k1 .char (3 : Int32) [(.int (nar .char c0)), (.int (nar .char c1)), (.int (nar .char c2))] (.int (0 : Int32)) := Arv.set Ar9 q9 S9 N9' H9 G9 (fits_nar_char _) W10 2 rfl (Nat.le_of_ble_eq_true rfl)
  refine OwnEnd.of (S' := T10.setTop (mkF m 58 #[.val (.int (3 : Int32)), .val (.int c0), .val (.int c1), .val (.int c2), .val (.int c3)] [(.ref b1)])) st10 ?_
  have V12 : Arv Z h10 b1 k1 .char (3 : Int32) [(.int c0), (.int c1), (.int c2)] (.int (0 : Int32)) := by have q := V10; rw [P0, P1, P2] at q; exact q
  refine OwnEnd.ret X10 (v := (some (.ref b1))) (fun h => by rw [Bd.returns] at h; cases h) hlk (fun fs hr => retOut X10 hx Bd.returns rfl (Or.inr (Or.inr (Or.inr (Or.inr ⟨rfl, rfl, rfl⟩)))) (hb hby d22_58) hr) (by decide) (by decide) (Q := Qbd3 Z c0 c1 c2 c3 h0 n0) e10 ?_
  exact ⟨b1, k1, rfl, N10, K11, V12, (by omega)⟩

theorem own_efbd4 (m : MethodId) (c0 : Int32) (c1 : Int32) (c2 : Int32) (c3 : Int32) : entryFrame m #[(.int (4 : Int32)), (.int c0), (.int c1), (.int c2), (.int c3)] 5 = mkF m 0 #[.val (.int (4 : Int32)), .val (.int c0), .val (.int c1), .val (.int c2), .val (.int c3)] [] := by first | (simp [entryFrame, mkF, argsToLocals, Value.category]; done) | rfl
def Qbd4 (Z : State) (c0 : Int32) (c1 : Int32) (c2 : Int32) (c3 : Int32) (h0 : Heap) (n0 : Nat) (v : Option Value) (h : Heap) (L : List Loc) : Prop := ∃ (b : Addr) (kC : ClassId), v = some (.ref b) ∧ Fr n0 L ∧ Keep h0 h [] ∧ (Arv Z h b kC .char (4 : Int32) [(.int c0), (.int c1), (.int c2), (.int c3)] (.int (0 : Int32))) ∧ (Array.size h0 ≤ b)
set_option maxRecDepth 65536 in
set_option maxHeartbeats 40000000 in
theorem rmbd4 (l : Launch) (Z : State) (a0 : Array Value) (G : OwnG Z a0) (ws : List Jvm.Cond) (c0 : Int32) (c1 : Int32) (c2 : Int32) (c3 : Int32) (h0 : Heap) (n0 : Nat) (O0 : Old Z n0 h0) (P0 : nar .char c0 = c0) (P1 : nar .char c1 = c1) (P2 : nar .char c2 = c2) (P3 : nar .char c3 = c3) :
    MetFree l own_m22 (head1 (Jvm.Cond.code own_m22 method_3_code 5 (some (.array .char)) :: ws) ({ frames := 0, cells := 1, slots := 4, locals := 0 } : Room)) (fun a U => a = #[(.int (4 : Int32)), (.int c0), (.int c1), (.int c2), (.int c3)] ∧ Z.Warmed39 U.vm ∧ U.heap = h0) (fun _ _ _ _ _ => True) (fun _ U o U' => ∃ v L, o = .returned v ∧ Qbd4 Z c0 c1 c2 c3 h0 n0 v U'.heap L ∧ FrameEnd U o U' L ({ frames := 0, cells := 1, slots := 4, locals := 0 } : Room).cells ({ frames := 0, cells := 1, slots := 4, locals := 0 } : Room).slots) := by
  refine MetFree.of_bodySF (plainFor_of_name pn_4) hisR ?_
  intro p e s m args below meth cD s₁ Bd hml0 hP hK
  obtain ⟨rfl, hZ, hh⟩ := hP
  have hw := G.1
  have hx := Bd.exec
  have hby := Bd.bytes
  have hml : cD.maxLocals = 5 := hml0
  have hown : s.vm.findClass "com/example/sabar/sabar/AsciiIsDigitsPinLaw" = some m.cls := findClass_of_methodNamed Bd.named
  have hnm := (name_of_methodNamed Bd.named Bd.method).1
  have hlk := Bd.notSynchronized
  have X0 : Stand p l e ({ frames := 0, cells := 1, slots := 4, locals := 0 } : Room) s m #[(.int (4 : Int32)), (.int c0), (.int c1), (.int c2), (.int c3)] below meth cD s₁ [] 0 0 := Stand.of_body Bd
  have e0 : s₁.heap = h0 := by rw [← hh, Bd.state]; rfl
  have K0 : Keep h0 h0 [] := Keep.refl h0 _
  have Z0 := own_old_le O0
  have N0 := Fr.nil n0
  refine OwnEnd.start (g' := (mkF m 0 #[.val (.int (4 : Int32)), .val (.int c0), .val (.int c1), .val (.int c2), .val (.int c3)] [])) (own_efbd4 m c0 c1 c2 c3) ?_
  refine OwnEnd.of (S' := s₁.setTop (mkF m 40 #[.val (.int (4 : Int32)), .val (.int c0), .val (.int c1), .val (.int c2), .val (.int c3)] [(.int (3 : Int32)), (.int (4 : Int32))])) (fun _ kK => XS.iloadN X0.here hx rfl (hb hby d22_0) rfl (XS.ifYes X0.here hx rfl (pc0 := 1) (pc' := 8) rfl (hb hby d22_1) rfl ((if0 _ _).trans (feq ((by decide : ¬ ((4 : Int32) = (0 : Int32))))).2) (by decide) (by decide) (XS.iloadN X0.here hx rfl (hb hby d22_8) rfl (XS.iconst X0.here hx rfl (hb hby d22_9) (XS.icmpYes X0.here hx rfl (pc0 := 10) (pc' := 21) rfl (hb hby d22_10) rfl (feq ((by decide : ¬ ((4 : Int32) = (1 : Int32))))).2 (by decide) (by decide) (XS.iloadN X0.here hx rfl (hb hby d22_21) rfl (XS.iconst X0.here hx rfl (hb hby d22_22) (XS.icmpYes X0.here hx rfl (pc0 := 23) (pc' := 38) rfl (hb hby d22_23) rfl (feq ((by decide : ¬ ((4 : Int32) = (2 : Int32))))).2 (by decide) (by decide) (XS.iloadN X0.here hx rfl (hb hby d22_38) rfl (XS.iconst X0.here hx rfl (hb hby d22_39) kK)))))))))) ?_
  refine OwnEnd.of (S' := s₁.setTop (mkF m 60 #[.val (.int (4 : Int32)), .val (.int c0), .val (.int c1), .val (.int c2), .val (.int c3)] [(.int (4 : Int32))])) (fun _ kK => XS.icmpYes X0.here hx rfl (pc0 := 40) (pc' := 59) rfl (hb hby d22_40) rfl (feq ((by decide : ¬ ((4 : Int32) = (3 : Int32))))).2 (by decide) (by decide) (XS.iconst X0.here hx rfl (hb hby d22_59) kK)) ?_
  obtain ⟨T1, h1, k1, X1, e1, E1, A1, st1⟩ := newP X0 hx hZ (own_w G 8 rfl) e0 (g := (mkF m 60 #[.val (.int (4 : Int32)), .val (.int c0), .val (.int c1), .val (.int c2), .val (.int c3)] [(.int (4 : Int32))])) rfl (hb hby d22_60) rfl (by decide) (cap := 4) (by decide) (by decide) (by decide) (by decide)
  obtain ⟨b1, g1⟩ : ∃ z, z = Array.size h0 := ⟨_, rfl⟩
  rw [← g1] at A1 st1
  have lt_b1 := own_ltN' A1.lt
  have sz2 := E1.1
  have K2 := K0.ext E1
  have O2 := O0.ext E1
  have V1 : Arv Z h1 b1 k1 .char (4 : Int32) [(.int (0 : Int32)), (.int (0 : Int32)), (.int (0 : Int32)), (.int (0 : Int32))] (.int (0 : Int32)) := (Arv.new A1 (by decide)).pad (pad_rep [] (.int (0 : Int32)) 4)
  refine OwnEnd.of (S' := T1.setTop (mkF m 62 #[.val (.int (4 : Int32)), .val (.int c0), .val (.int c1), .val (.int c2), .val (.int c3)] [(.ref b1)])) st1 ?_
  refine OwnEnd.of (S' := T1.setTop (mkF m 65 #[.val (.int (4 : Int32)), .val (.int c0), .val (.int c1), .val (.int c2), .val (.int c3)] [(.int c0), (.int (0 : Int32)), (.ref b1), (.ref b1)])) (fun _ kK => XS.dup X1.here hx rfl (hb hby d22_62) rfl rfl (XS.iconst X1.here hx rfl (hb hby d22_63) (XS.iloadN X1.here hx rfl (hb hby d22_64) rfl kK))) ?_
  obtain ⟨cl3, Ar3, q3, S3, N3', H3, G3⟩ := id V1
  have hin4 : ¬ ((0 : Int32) < 0 ∨ cl3.slots.size ≤ ((0 : Int32)).toNatClampNeg) := inb_of S3 ⟨by decide, by decide⟩
  obtain ⟨T4, h4, X4, e4, W4, st4⟩ := stC X1 hx hZ e1 Ar3 (j := (0 : Int32)) hin4 (g := (mkF m 65 #[.val (.int (4 : Int32)), .val (.int c0), .val (.int c1), .val (.int c2), .val (.int c3)] [(.int c0), (.int (0 : Int32)), (.ref b1), (.ref b1)])) rfl rfl (hb hby d22_65)
  have N4 := Fr.snoc X4 N0 (by omega)
  have sz5 := own_wr_le W4
  have K5 := K2.wr W4 (Or.inr (by omega))
  have O5 := O2.wr W4 (by omega)
  have V4 : Arv Z h4 b1 k1 .char (4 : Int32) [(.int (nar .char c0)), (.int (0 : Int32)), (.int (0 : Int32)), (.int (0 : Int32))] (.int (0 : Int32)) := Arv.set Ar3 q3 S3 N3' H3 G3 (fits_nar_char _) W4 0 rfl (Nat.le_of_ble_eq_true rfl)
  refine OwnEnd.of (S' := T4.setTop (mkF m 66 #[.val (.int (4 : Int32)), .val (.int c0), .val (.int c1), .val (.int c2), .val (.int c3)] [(.ref b1)])) st4 ?_
  refine OwnEnd.of (S' := T4.setTop (mkF m 69 #[.val (.int (4 : Int32)), .val (.int c0), .val (.int c1), .val (.int c2), .val (.int c3)] [(.int c1), (.int (1 : Int32)), (.ref b1), (.ref b1)])) (fun _ kK => XS.dup X4.here hx rfl (hb hby d22_66) rfl rfl (XS.iconst X4.here hx rfl (hb hby d22_67) (XS.iloadN X4.here hx rfl (hb hby d22_68) rfl kK))) ?_
  obtain ⟨cl6, Ar6, q6, S6, N6', H6, G6⟩ := id V4
  have hin7 : ¬ ((1 : Int32) < 0 ∨ cl6.slots.size ≤ ((1 : Int32)).toNatClampNeg) := inb_of S6 ⟨by decide, by decide⟩
  obtain ⟨T7, h7, X7, e7, W7, st7⟩ := stC X4 hx hZ e4 Ar6 (j := (1 : Int32)) hin7 (g := (mkF m 69 #[.val (.int (4 : Int32)), .val (.int c0), .val (.int c1), .val (.int c2), .val (.int c3)] [(.int c1), (.int (1 : Int32)), (.ref b1), (.ref b1)])) rfl rfl (hb hby d22_69)
  have N7 := Fr.snoc X7 N4 (by omega)
  have sz8 := own_wr_le W7
  have K8 := K5.wr W7 (Or.inr (by omega))
  have O8 := O5.wr W7 (by omega)
  have V7 : Arv Z h7 b1 k1 .char (4 : Int32) [(.int (nar .char c0)), (.int (nar .char c1)), (.int (0 : Int32)), (.int (0 : Int32))] (.int (0 : Int32)) := Arv.set Ar6 q6 S6 N6' H6 G6 (fits_nar_char _) W7 1 rfl (Nat.le_of_ble_eq_true rfl)
  refine OwnEnd.of (S' := T7.setTop (mkF m 70 #[.val (.int (4 : Int32)), .val (.int c0), .val (.int c1), .val (.int c2), .val (.int c3)] [(.ref b1)])) st7 ?_
  refine OwnEnd.of (S' := T7.setTop (mkF m 73 #[.val (.int (4 : Int32)), .val (.int c0), .val (.int c1), .val (.int c2), .val (.int c3)] [(.int c2), (.int (2 : Int32)), (.ref b1), (.ref b1)])) (fun _ kK => XS.dup X7.here hx rfl (hb hby d22_70) rfl rfl (XS.iconst X7.here hx rfl (hb hby d22_71) (XS.iloadN X7.here hx rfl (hb hby d22_72) rfl kK))) ?_
  obtain ⟨cl9, Ar9, q9, S9, N9', H9, G9⟩ := id V7
  have hin10 : ¬ ((2 : Int32) < 0 ∨ cl9.slots.size ≤ ((2 : Int32)).toNatClampNeg) := inb_of S9 ⟨by decide, by decide⟩
  obtain ⟨T10, h10, X10, e10, W10, st10⟩ := stC X7 hx hZ e7 Ar9 (j := (2 : Int32)) hin10 (g := (mkF m 73 #[.val (.int (4 : Int32)), .val (.int c0), .val (.int c1), .val (.int c2), .val (.int c3)] [(.int c2), (.int (2 : Int32)), (.ref b1), (.ref b1)])) rfl rfl (hb hby d22_73)
  have N10 := Fr.snoc X10 N7 (by omega)
  have sz11 := own_wr_le W10
  have K11 := K8.wr W10 (Or.inr (by omega))
  have O11 := O8.wr W10 (by omega)
  have V10 : Arv Z h10 b1 k1 .char (4 : Int32) [(.int (nar .char c0)), (.int (nar .char c1)), (.int (nar .char c2)), (.int (0 : Int32))] (.int (0 : Int32)) := Arv.set Ar9 q9 S9 N9' H9 G9 (fits_nar_char _) W10 2 rfl (Nat.le_of_ble_eq_true rfl)
  refine OwnEnd.of (S' := T10.setTop (mkF m 74 #[.val (.int (4 : Int32)), .val (.int c0), .val (.int c1), .val (.int c2), .val (.int c3)] [(.ref b1)])) st10 ?_
  refine OwnEnd.of (S' := T10.setTop (mkF m 78 #[.val (.int (4 : Int32)), .val (.int c0), .val (.int c1), .val (.int c2), .val (.int c3)] [(.int c3), (.int (3 : Int32)), (.ref b1), (.ref b1)])) (fun _ kK => XS.dup X10.here hx rfl (hb hby d22_74) rfl rfl (XS.iconst X10.here hx rfl (hb hby d22_75) (XS.iload X10.here hx rfl (hb hby d22_76) rfl kK))) ?_
  obtain ⟨cl12, Ar12, q12, S12, N12', H12, G12⟩ := id V10
  have hin13 : ¬ ((3 : Int32) < 0 ∨ cl12.slots.size ≤ ((3 : Int32)).toNatClampNeg) := inb_of S12 ⟨by decide, by decide⟩
  obtain ⟨T13, h13, X13, e13, W13, st13⟩ := stC X10 hx hZ e10 Ar12 (j := (3 : Int32)) hin13 (g := (mkF m 78 #[.val (.int (4 : Int32)), .val (.int c0), .val (.int c1), .val (.int c2), .val (.int c3)] [(.int c3), (.int (3 : Int32)), (.ref b1), (.ref b1)])) rfl rfl (hb hby d22_78)
  have N13 := Fr.snoc X13 N10 (by omega)
  have sz14 := own_wr_le W13
  have K14 := K11.wr W13 (Or.inr (by omega))
  have O14 := O11.wr W13 (by omega)
  have V13 : Arv Z h13 b1 k1 .char (4 : Int32) [(.int (nar .char c0)), (.int (nar .char c1)), (.int (nar .char c2)), (.int (nar .char c3))] (.int (0 : Int32)) := Arv.set Ar12 q12 S12 N12' H12 G12 (fits_nar_char _) W13 3 rfl (Nat.le_of_ble_eq_true rfl)
  refine OwnEnd.of (S' := T13.setTop (mkF m 79 #[.val (.int (4 : Int32)), .val (.int c0), .val (.int c1), .val (.int c2), .val (.int c3)] [(.ref b1)])) st13 ?_
  have V15 : Arv Z h13 b1 k1 .char (4 : Int32) [(.int c0), (.int c1), (.int c2), (.int c3)] (.int (0 : Int32)) := by have q := V13; rw [P0, P1, P2, P3] at q; exact q
  refine OwnEnd.ret X13 (v := (some (.ref b1))) (fun h => by rw [Bd.returns] at h; cases h) hlk (fun fs hr => retOut X13 hx Bd.returns rfl (Or.inr (Or.inr (Or.inr (Or.inr ⟨rfl, rfl, rfl⟩)))) (hb hby d22_79) hr) (by decide) (by decide) (Q := Qbd4 Z c0 c1 c2 c3 h0 n0) e13 ?_
  exact ⟨b1, k1, rfl, N13, K14, V15, (by omega)⟩

theorem own_efis0 (m : MethodId) (x0 : Addr) : entryFrame m #[(.ref x0)] 3 = mkF m 0 #[.val (.ref x0), .unset, .unset] [] := by first | (simp [entryFrame, mkF, argsToLocals, Value.category]; done) | rfl
set_option maxRecDepth 65536 in
set_option maxHeartbeats 40000000 in
theorem rmis0 (l : Launch) (Z : State) (a0 : Array Value) (G : OwnG Z a0) (ws : List Jvm.Cond) (x0 : Addr) (t : Addr) (kb : ClassId) (h0 : Heap) (n0 : Nat) (O0 : Old Z n0 h0) (P0 : Exa Z h0 x0 "java/lang/String") (P1 : Fld Z h0 x0 "java/lang/String" "value" "[B" (.ref t)) (P2 : Arv Z h0 t kb .byte (0 : Int32) [] (.int (0 : Int32))) :
    MetFree l own_m23 (head1 (Jvm.Cond.code own_m23 prog_1_method_2_code 3 (some .boolean) :: ws) ({ frames := 1, cells := 0, slots := 0, locals := 12 } : Room)) (fun a U => a = #[(.ref x0)] ∧ Z.Warmed39 U.vm ∧ U.heap = h0) (fun _ _ _ _ _ => True) (fun _ U o U' => ∃ v L, o = .returned v ∧ (own_Qint (0 : Int32)) h0 n0 v U'.heap L ∧ FrameEnd U o U' L ({ frames := 1, cells := 0, slots := 0, locals := 12 } : Room).cells ({ frames := 1, cells := 0, slots := 0, locals := 12 } : Room).slots) := by
  refine MetFree.of_bodySF (plainFor_of_name pn_5) hisR ?_
  intro p e s m args below meth cD s₁ Bd hml0 hP hK
  obtain ⟨rfl, hZ, hh⟩ := hP
  have hw := G.1
  have hx := Bd.exec
  have hby := Bd.bytes
  have hml : cD.maxLocals = 3 := hml0
  have hown : s.vm.findClass "com/example/sabar/sabar/Ascii" = some m.cls := findClass_of_methodNamed Bd.named
  have hnm := (name_of_methodNamed Bd.named Bd.method).1
  have hlk := Bd.notSynchronized
  have X0 : Stand p l e ({ frames := 1, cells := 0, slots := 0, locals := 12 } : Room) s m #[(.ref x0)] below meth cD s₁ [] 0 0 := Stand.of_body Bd
  have e0 : s₁.heap = h0 := by rw [← hh, Bd.state]; rfl
  have lt0 := own_ltN' P0.lt
  have lt1 := own_ltN' P1.lt
  have lt2 := own_ltN' P2.lt
  have K0 : Keep h0 h0 [] := Keep.refl h0 _
  have Z0 := own_old_le O0
  have N0 := Fr.nil n0
  refine OwnEnd.start (g' := (mkF m 0 #[.val (.ref x0), .unset, .unset] [])) (own_efis0 m x0) ?_
  refine OwnEnd.of (S' := s₁.setTop (mkF m 1 #[.val (.ref x0), .unset, .unset] [(.ref x0)])) (fun _ kK => XS.aloadN X0.here hx rfl (hb hby d23_0) rfl rfl kK) ?_
  obtain ⟨cq1, kq1, q1a, q1b, q1c⟩ := isOf hZ e0 P0
  obtain ⟨_, _, ⟨T1, L1, k1, n1⟩, -, X1, ⟨Lc1, hQ1, l1, y1, z1⟩, st1⟩ := X0.virtualBack hx (y := own_m7) (z := own_m7) hown (mvT hZ (own_w G 31 rfl)) (mvT hZ (own_w G 32 rfl)) (notFace_of_selects (args := #[]) (mvT hZ (own_w G 34 rfl))) (mvT hZ (own_w G 34 rfl)) (mvT hZ (own_w G 33 rfl)) (by decide) (backOf (W := 0) (rmem1 l Z a0 G [] x0 t kb [] (.int (0 : Int32)) h0 n0 O0 P1 P2) hZ (own_w G 35 rfl) (own_w G 3 rfl) (by decide) (by decide)) q1a q1c (g := (mkF m 1 #[.val (.ref x0), .unset, .unset] [(.ref x0)])) rfl (by rw [hml]; rfl) (Steps.refl _) (argsL := []) (rest := []) (lenOf pd_7 rfl) rfl (by show 2 * 0 + _ ≤ _; exact Nat.le_of_eq rfl) (hb hby d23_1) (fun _ _ => ⟨rfl, e0, (by decide : 0 + 0 ≤ _), (by decide : 0 + 0 ≤ _)⟩)
  dsimp only [Pt.U, Pt.locs, Pt.cells, Pt.slots] at X1 l1 y1 z1 st1 hQ1
  subst l1 y1 z1
  obtain ⟨rfl, N1q, eh1⟩ := hQ1
  have N1 := Fr.app N0 N1q
  refine OwnEnd.tr (S' := T1.setTop (mkF m 4 #[.val (.ref x0), .unset, .unset] [(.int (1 : Int32))])) st1 ?_
  refine OwnEnd.of (S' := T1.setTop (mkF m 8 #[.val (.ref x0), .unset, .unset] [(.int (0 : Int32))])) (fun _ kK => XS.ifNo X1.here hx rfl (hb hby d23_4) rfl ((if0 _ _).trans (feq ((by decide : ¬ ((1 : Int32) = (0 : Int32))))).1) (XS.iconst X1.here hx rfl (hb hby d23_7) kK)) ?_
  refine OwnEnd.ret X1 (v := (some (.int (nar .boolean (0 : Int32))))) (fun h => by rw [Bd.returns] at h; cases h) hlk (fun fs hr => retN X1 hx (t := .boolean) Bd.returns (by simp) (hb hby d23_8) hr) (by decide) (by decide) (Q := (own_Qint (0 : Int32)) h0 n0) eh1 ?_
  exact ⟨rfl, N1, rfl⟩

theorem own_efis1 (m : MethodId) (x0 : Addr) : entryFrame m #[(.ref x0)] 3 = mkF m 0 #[.val (.ref x0), .unset, .unset] [] := by first | (simp [entryFrame, mkF, argsToLocals, Value.category]; done) | rfl
set_option maxRecDepth 65536 in
set_option maxHeartbeats 40000000 in
theorem rmis1 (l : Launch) (Z : State) (a0 : Array Value) (G : OwnG Z a0) (ws : List Jvm.Cond) (x0 : Addr) (t : Addr) (kb : ClassId) (N : Int32) (vs : List Value) (cd : Int32) (c0 : Int32) (h0 : Heap) (n0 : Nat) (O0 : Old Z n0 h0) (P0 : Exa Z h0 x0 "java/lang/String") (P1 : Fld Z h0 x0 "java/lang/String" "value" "[B" (.ref t)) (P2 : Fld Z h0 x0 "java/lang/String" "coder" "B" (.int cd)) (P3 : Arv Z h0 t kb .byte N vs (.int (0 : Int32))) (P4 : StrChars.Road.CodA [c0] cd N vs) (P5 : ∀ c ∈ ([c0] : List Int32), ¬ c < (0 : Int32) ∧ ¬ (65535 : Int32) < c) :
    MetFree l own_m23 (head1 (Jvm.Cond.code own_m23 prog_1_method_2_code 3 (some .boolean) :: ws) ({ frames := 5, cells := 0, slots := 0, locals := 66 } : Room)) (fun a U => a = #[(.ref x0)] ∧ Z.Warmed39 U.vm ∧ U.heap = h0) (fun _ _ _ _ _ => True) (fun _ U o U' => ∃ v L, o = .returned v ∧ (own_Qint (own_isd [c0])) h0 n0 v U'.heap L ∧ FrameEnd U o U' L ({ frames := 5, cells := 0, slots := 0, locals := 66 } : Room).cells ({ frames := 5, cells := 0, slots := 0, locals := 66 } : Room).slots) := by
  refine MetFree.of_bodySF (plainFor_of_name pn_5) hisR ?_
  intro p e s m args below meth cD s₁ Bd hml0 hP hK
  obtain ⟨rfl, hZ, hh⟩ := hP
  have hw := G.1
  have hx := Bd.exec
  have hby := Bd.bytes
  have hml : cD.maxLocals = 3 := hml0
  have hown : s.vm.findClass "com/example/sabar/sabar/Ascii" = some m.cls := findClass_of_methodNamed Bd.named
  have hnm := (name_of_methodNamed Bd.named Bd.method).1
  have hlk := Bd.notSynchronized
  have X0 : Stand p l e ({ frames := 5, cells := 0, slots := 0, locals := 66 } : Room) s m #[(.ref x0)] below meth cD s₁ [] 0 0 := Stand.of_body Bd
  have e0 : s₁.heap = h0 := by rw [← hh, Bd.state]; rfl
  have lt0 := own_ltN' P0.lt
  have lt1 := own_ltN' P1.lt
  have lt2 := own_ltN' P2.lt
  have lt3 := own_ltN' P3.lt
  have K0 : Keep h0 h0 [] := Keep.refl h0 _
  have Z0 := own_old_le O0
  have N0 := Fr.nil n0
  refine OwnEnd.start (g' := (mkF m 0 #[.val (.ref x0), .unset, .unset] [])) (own_efis1 m x0) ?_
  refine OwnEnd.of (S' := s₁.setTop (mkF m 1 #[.val (.ref x0), .unset, .unset] [(.ref x0)])) (fun _ kK => XS.aloadN X0.here hx rfl (hb hby d23_0) rfl rfl kK) ?_
  obtain ⟨cq1, kq1, q1a, q1b, q1c⟩ := isOf hZ e0 P0
  obtain ⟨_, _, ⟨T1, L1, k1, n1⟩, -, X1, ⟨Lc1, hQ1, l1, y1, z1⟩, st1⟩ := X0.virtualBack hx (y := own_m7) (z := own_m7) hown (mvT hZ (own_w G 31 rfl)) (mvT hZ (own_w G 32 rfl)) (notFace_of_selects (args := #[]) (mvT hZ (own_w G 34 rfl))) (mvT hZ (own_w G 34 rfl)) (mvT hZ (own_w G 33 rfl)) (by decide) (backOf (W := 0) (rmem0 l Z a0 G [] x0 t kb N vs (.int (0 : Int32)) h0 n0 O0 P1 P3 (own_cod_ne P4 (by simp) (by simp) : ¬ N = (0 : Int32))) hZ (own_w G 35 rfl) (own_w G 3 rfl) (by decide) (by decide)) q1a q1c (g := (mkF m 1 #[.val (.ref x0), .unset, .unset] [(.ref x0)])) rfl (by rw [hml]; rfl) (Steps.refl _) (argsL := []) (rest := []) (lenOf pd_7 rfl) rfl (by show 2 * 0 + _ ≤ _; exact Nat.le_of_eq rfl) (hb hby d23_1) (fun _ _ => ⟨rfl, e0, (by decide : 0 + 0 ≤ _), (by decide : 0 + 0 ≤ _)⟩)
  dsimp only [Pt.U, Pt.locs, Pt.cells, Pt.slots] at X1 l1 y1 z1 st1 hQ1
  subst l1 y1 z1
  obtain ⟨rfl, N1q, eh1⟩ := hQ1
  have N1 := Fr.app N0 N1q
  refine OwnEnd.tr (S' := T1.setTop (mkF m 4 #[.val (.ref x0), .unset, .unset] [(.int (0 : Int32))])) st1 ?_
  refine OwnEnd.of (S' := T1.setTop (mkF m 13 #[.val (.ref x0), .val (.int (0 : Int32)), .unset] [(.ref x0), (.int (0 : Int32))])) (fun _ kK => XS.ifYes X1.here hx rfl (pc0 := 4) (pc' := 9) rfl (hb hby d23_4) rfl ((if0 _ _).trans (teq ((by decide : (0 : Int32) = (0 : Int32)))).1) (by decide) (by decide) (XS.iconst X1.here hx rfl (hb hby d23_9) (XS.istoreN X1.here hx rfl (hb hby d23_10) rfl (l' := #[.val (.ref x0), .val (.int (0 : Int32)), .unset]) rfl (XS.iloadN X1.here hx rfl (hb hby d23_11) rfl (XS.aloadN X1.here hx rfl (hb hby d23_12) rfl rfl kK))))) ?_
  obtain ⟨cq2, kq2, q2a, q2b, q2c⟩ := isOf hZ eh1 P0
  obtain ⟨_, _, ⟨T2, L2, k2, n2⟩, -, X2, ⟨Lc2, hQ2, l2, y2, z2⟩, st2⟩ := X1.virtualBack hx (y := own_m6) (z := own_m6) hown (mvT hZ (own_w G 50 rfl)) (mvT hZ (own_w G 51 rfl)) (notFace_of_selects (args := #[]) (mvT hZ (own_w G 53 rfl))) (mvT hZ (own_w G 53 rfl)) (mvT hZ (own_w G 52 rfl)) (by decide) (backOf (W := 1) (rmlnB l Z a0 G [] x0 t kb N vs (.int (0 : Int32)) cd [c0]  h0 n0 O0 P0 P1 P2 P3 P4 P5 (by simp)) hZ (own_w G 54 rfl) (own_w G 3 rfl) (by decide) (by decide)) q2a q2c (g := (mkF m 13 #[.val (.ref x0), .val (.int (0 : Int32)), .unset] [(.ref x0), (.int (0 : Int32))])) rfl (by rw [hml]; rfl) (Steps.refl _) (argsL := []) (rest := [(.int (0 : Int32))]) (lenOf pd_14 rfl) rfl (by show 2 * 0 + _ ≤ _; exact Nat.le_of_eq rfl) (hb hby d23_13) (fun _ _ => ⟨rfl, eh1, (by decide : 0 + 0 ≤ _), (by decide : 0 + 0 ≤ _)⟩)
  dsimp only [Pt.U, Pt.locs, Pt.cells, Pt.slots] at X2 l2 y2 z2 st2 hQ2
  subst l2 y2 z2
  obtain ⟨rfl, N2q, eh2⟩ := hQ2
  have N2 := Fr.app N1 N2q
  refine OwnEnd.tr (S' := T2.setTop (mkF m 16 #[.val (.ref x0), .val (.int (0 : Int32)), .unset] [(.int (1 : Int32)), (.int (0 : Int32))])) st2 ?_
  refine OwnEnd.of (S' := T2.setTop (mkF m 21 #[.val (.ref x0), .val (.int (0 : Int32)), .unset] [(.int (0 : Int32)), (.ref x0)])) (fun _ kK => XS.icmpNo X2.here hx rfl (hb hby d23_16) rfl (tlt ((by decide : (0 : Int32) < (1 : Int32)))).2.1 (XS.aloadN X2.here hx rfl (hb hby d23_19) rfl rfl (XS.iloadN X2.here hx rfl (hb hby d23_20) rfl kK))) ?_
  obtain ⟨cq3, kq3, q3a, q3b, q3c⟩ := isOf hZ eh2 P0
  obtain ⟨_, _, ⟨T3, L3, k3, n3⟩, -, X3, ⟨Lc3, hQ3, l3, y3, z3⟩, st3⟩ := X2.virtualBack hx (y := own_m13) (z := own_m13) hown (mvT hZ (own_w G 60 rfl)) (mvT hZ (own_w G 61 rfl)) (notFace_of_selects (args := #[]) (mvT hZ (own_w G 63 rfl))) (mvT hZ (own_w G 63 rfl)) (mvT hZ (own_w G 62 rfl)) (by decide) (backOf (W := 0) (rmcAB l Z a0 G [] x0 t kb N vs (.int (0 : Int32)) cd [c0] (0 : Int32) 0 h0 n0 O0 P0 P1 P2 P3 P4 P5 (by simp) (by simp) rfl) hZ (own_w G 64 rfl) (own_w G 3 rfl) (by decide) (by decide)) q3a q3c (g := (mkF m 21 #[.val (.ref x0), .val (.int (0 : Int32)), .unset] [(.int (0 : Int32)), (.ref x0)])) rfl (by rw [hml]; rfl) (Steps.refl _) (argsL := [(.int (0 : Int32))]) (rest := []) (lenOf pd_15 rfl) rfl (by show 2 * 0 + _ ≤ _; exact Nat.le_of_eq rfl) (hb hby d23_21) (fun _ _ => ⟨rfl, eh2, (by decide : 0 + 0 ≤ _), (by decide : 0 + 0 ≤ _)⟩)
  dsimp only [Pt.U, Pt.locs, Pt.cells, Pt.slots] at X3 l3 y3 z3 st3 hQ3
  subst l3 y3 z3
  obtain ⟨rfl, N3q, eh3⟩ := hQ3
  have N3 := Fr.app N2 N3q
  refine OwnEnd.tr (S' := T3.setTop (mkF m 24 #[.val (.ref x0), .val (.int (0 : Int32)), .unset] [(.int c0)])) st3 ?_
  refine OwnEnd.of (S' := T3.setTop (mkF m 28 #[.val (.ref x0), .val (.int (0 : Int32)), .val (.int c0)] [(.int (48 : Int32)), (.int c0)])) (fun _ kK => XS.istoreN X3.here hx rfl (hb hby d23_24) rfl (l' := #[.val (.ref x0), .val (.int (0 : Int32)), .val (.int c0)]) rfl (XS.iloadN X3.here hx rfl (hb hby d23_25) rfl (XS.bipush X3.here hx rfl (hb hby d23_26) kK))) ?_
  rcases Decidable.em (c0 < (48 : Int32)) with hc4 | hc4
  · refine OwnEnd.of (S' := T3.setTop (mkF m 38 #[.val (.ref x0), .val (.int (0 : Int32)), .val (.int c0)] [(.int (0 : Int32))])) (fun _ kK => XS.icmpYes X3.here hx rfl (pc0 := 28) (pc' := 37) rfl (hb hby d23_28) rfl (tlt (hc4)).1 (by decide) (by decide) (XS.iconst X3.here hx rfl (hb hby d23_37) kK)) ?_
    refine OwnEnd.ret X3 (v := (some (.int (nar .boolean (0 : Int32))))) (fun h => by rw [Bd.returns] at h; cases h) hlk (fun fs hr => retN X3 hx (t := .boolean) Bd.returns (by simp) (hb hby d23_38) hr) (by decide) (by decide) (Q := (own_Qint (own_isd [c0])) h0 n0) eh3 ?_
    exact ⟨(by show some (Value.int (nar .boolean (0 : Int32))) = _; simp [own_isd, nar, hc4]), N3, rfl⟩
  · refine OwnEnd.of (S' := T3.setTop (mkF m 34 #[.val (.ref x0), .val (.int (0 : Int32)), .val (.int c0)] [(.int (57 : Int32)), (.int c0)])) (fun _ kK => XS.icmpNo X3.here hx rfl (hb hby d23_28) rfl (flt (hc4)).1 (XS.iloadN X3.here hx rfl (hb hby d23_31) rfl (XS.bipush X3.here hx rfl (hb hby d23_32) kK))) ?_
    rcases Decidable.em ((57 : Int32) < c0) with hc5 | hc5
    · refine OwnEnd.of (S' := T3.setTop (mkF m 38 #[.val (.ref x0), .val (.int (0 : Int32)), .val (.int c0)] [(.int (0 : Int32))])) (fun _ kK => XS.icmpNo X3.here hx rfl (hb hby d23_34) rfl (tlt (hc5)).2.2.2 (XS.iconst X3.here hx rfl (hb hby d23_37) kK)) ?_
      refine OwnEnd.ret X3 (v := (some (.int (nar .boolean (0 : Int32))))) (fun h => by rw [Bd.returns] at h; cases h) hlk (fun fs hr => retN X3 hx (t := .boolean) Bd.returns (by simp) (hb hby d23_38) hr) (by decide) (by decide) (Q := (own_Qint (own_isd [c0])) h0 n0) eh3 ?_
      exact ⟨(by show some (Value.int (nar .boolean (0 : Int32))) = _; simp [own_isd, nar, hc4, hc5]), N3, rfl⟩
    · refine OwnEnd.of (S' := T3.setTop (mkF m 13 #[.val (.ref x0), .val (.int (1 : Int32)), .val (.int c0)] [(.ref x0), (.int (1 : Int32))])) (fun _ kK => XS.icmpYes X3.here hx rfl (pc0 := 34) (pc' := 39) rfl (hb hby d23_34) rfl (flt (hc5)).2.2.2 (by decide) (by decide) (XS.iinc X3.here hx rfl (hb hby d23_39) rfl (l' := #[.val (.ref x0), .val (.int (1 : Int32)), .val (.int c0)]) rfl (XS.goto X3.here hx rfl (pc0 := 42) (pc' := 11) rfl (hb hby d23_42) (by decide) (by decide) (XS.iloadN X3.here hx rfl (hb hby d23_11) rfl (XS.aloadN X3.here hx rfl (hb hby d23_12) rfl rfl kK))))) ?_
      obtain ⟨cq6, kq6, q6a, q6b, q6c⟩ := isOf hZ eh3 P0
      obtain ⟨_, _, ⟨T6, L6, k6, n6⟩, -, X6, ⟨Lc6, hQ6, l6, y6, z6⟩, st6⟩ := X3.virtualBack hx (y := own_m6) (z := own_m6) hown (mvT hZ (own_w G 50 rfl)) (mvT hZ (own_w G 51 rfl)) (notFace_of_selects (args := #[]) (mvT hZ (own_w G 53 rfl))) (mvT hZ (own_w G 53 rfl)) (mvT hZ (own_w G 52 rfl)) (by decide) (backOf (W := 1) (rmlnB l Z a0 G [] x0 t kb N vs (.int (0 : Int32)) cd [c0]  h0 n0 O0 P0 P1 P2 P3 P4 P5 (by simp)) hZ (own_w G 54 rfl) (own_w G 3 rfl) (by decide) (by decide)) q6a q6c (g := (mkF m 13 #[.val (.ref x0), .val (.int (1 : Int32)), .val (.int c0)] [(.ref x0), (.int (1 : Int32))])) rfl (by rw [hml]; rfl) (Steps.refl _) (argsL := []) (rest := [(.int (1 : Int32))]) (lenOf pd_14 rfl) rfl (by show 2 * 0 + _ ≤ _; exact Nat.le_of_eq rfl) (hb hby d23_13) (fun _ _ => ⟨rfl, eh3, (by decide : 0 + 0 ≤ _), (by decide : 0 + 0 ≤ _)⟩)
      dsimp only [Pt.U, Pt.locs, Pt.cells, Pt.slots] at X6 l6 y6 z6 st6 hQ6
      subst l6 y6 z6
      obtain ⟨rfl, N6q, eh6⟩ := hQ6
      have N6 := Fr.app N3 N6q
      refine OwnEnd.tr (S' := T6.setTop (mkF m 16 #[.val (.ref x0), .val (.int (1 : Int32)), .val (.int c0)] [(.int (1 : Int32)), (.int (1 : Int32))])) st6 ?_
      refine OwnEnd.of (S' := T6.setTop (mkF m 46 #[.val (.ref x0), .val (.int (1 : Int32)), .val (.int c0)] [(.int (1 : Int32))])) (fun _ kK => XS.icmpYes X6.here hx rfl (pc0 := 16) (pc' := 45) rfl (hb hby d23_16) rfl (flt ((by decide : ¬ ((1 : Int32) < (1 : Int32))))).2.1 (by decide) (by decide) (XS.iconst X6.here hx rfl (hb hby d23_45) kK)) ?_
      refine OwnEnd.ret X6 (v := (some (.int (nar .boolean (1 : Int32))))) (fun h => by rw [Bd.returns] at h; cases h) hlk (fun fs hr => retN X6 hx (t := .boolean) Bd.returns (by simp) (hb hby d23_46) hr) (by decide) (by decide) (Q := (own_Qint (own_isd [c0])) h0 n0) eh6 ?_
      exact ⟨(by show some (Value.int (nar .boolean (1 : Int32))) = _; simp [own_isd, nar, hc4, hc5]), N6, rfl⟩

theorem own_efis2 (m : MethodId) (x0 : Addr) : entryFrame m #[(.ref x0)] 3 = mkF m 0 #[.val (.ref x0), .unset, .unset] [] := by first | (simp [entryFrame, mkF, argsToLocals, Value.category]; done) | rfl
set_option maxRecDepth 65536 in
set_option maxHeartbeats 40000000 in
theorem rmis2 (l : Launch) (Z : State) (a0 : Array Value) (G : OwnG Z a0) (ws : List Jvm.Cond) (x0 : Addr) (t : Addr) (kb : ClassId) (N : Int32) (vs : List Value) (cd : Int32) (c0 : Int32) (c1 : Int32) (h0 : Heap) (n0 : Nat) (O0 : Old Z n0 h0) (P0 : Exa Z h0 x0 "java/lang/String") (P1 : Fld Z h0 x0 "java/lang/String" "value" "[B" (.ref t)) (P2 : Fld Z h0 x0 "java/lang/String" "coder" "B" (.int cd)) (P3 : Arv Z h0 t kb .byte N vs (.int (0 : Int32))) (P4 : StrChars.Road.CodA [c0, c1] cd N vs) (P5 : ∀ c ∈ ([c0, c1] : List Int32), ¬ c < (0 : Int32) ∧ ¬ (65535 : Int32) < c) :
    MetFree l own_m23 (head1 (Jvm.Cond.code own_m23 prog_1_method_2_code 3 (some .boolean) :: ws) ({ frames := 5, cells := 0, slots := 0, locals := 66 } : Room)) (fun a U => a = #[(.ref x0)] ∧ Z.Warmed39 U.vm ∧ U.heap = h0) (fun _ _ _ _ _ => True) (fun _ U o U' => ∃ v L, o = .returned v ∧ (own_Qint (own_isd [c0, c1])) h0 n0 v U'.heap L ∧ FrameEnd U o U' L ({ frames := 5, cells := 0, slots := 0, locals := 66 } : Room).cells ({ frames := 5, cells := 0, slots := 0, locals := 66 } : Room).slots) := by
  refine MetFree.of_bodySF (plainFor_of_name pn_5) hisR ?_
  intro p e s m args below meth cD s₁ Bd hml0 hP hK
  obtain ⟨rfl, hZ, hh⟩ := hP
  have hw := G.1
  have hx := Bd.exec
  have hby := Bd.bytes
  have hml : cD.maxLocals = 3 := hml0
  have hown : s.vm.findClass "com/example/sabar/sabar/Ascii" = some m.cls := findClass_of_methodNamed Bd.named
  have hnm := (name_of_methodNamed Bd.named Bd.method).1
  have hlk := Bd.notSynchronized
  have X0 : Stand p l e ({ frames := 5, cells := 0, slots := 0, locals := 66 } : Room) s m #[(.ref x0)] below meth cD s₁ [] 0 0 := Stand.of_body Bd
  have e0 : s₁.heap = h0 := by rw [← hh, Bd.state]; rfl
  have lt0 := own_ltN' P0.lt
  have lt1 := own_ltN' P1.lt
  have lt2 := own_ltN' P2.lt
  have lt3 := own_ltN' P3.lt
  have K0 : Keep h0 h0 [] := Keep.refl h0 _
  have Z0 := own_old_le O0
  have N0 := Fr.nil n0
  refine OwnEnd.start (g' := (mkF m 0 #[.val (.ref x0), .unset, .unset] [])) (own_efis2 m x0) ?_
  refine OwnEnd.of (S' := s₁.setTop (mkF m 1 #[.val (.ref x0), .unset, .unset] [(.ref x0)])) (fun _ kK => XS.aloadN X0.here hx rfl (hb hby d23_0) rfl rfl kK) ?_
  obtain ⟨cq1, kq1, q1a, q1b, q1c⟩ := isOf hZ e0 P0
  obtain ⟨_, _, ⟨T1, L1, k1, n1⟩, -, X1, ⟨Lc1, hQ1, l1, y1, z1⟩, st1⟩ := X0.virtualBack hx (y := own_m7) (z := own_m7) hown (mvT hZ (own_w G 31 rfl)) (mvT hZ (own_w G 32 rfl)) (notFace_of_selects (args := #[]) (mvT hZ (own_w G 34 rfl))) (mvT hZ (own_w G 34 rfl)) (mvT hZ (own_w G 33 rfl)) (by decide) (backOf (W := 0) (rmem0 l Z a0 G [] x0 t kb N vs (.int (0 : Int32)) h0 n0 O0 P1 P3 (own_cod_ne P4 (by simp) (by simp) : ¬ N = (0 : Int32))) hZ (own_w G 35 rfl) (own_w G 3 rfl) (by decide) (by decide)) q1a q1c (g := (mkF m 1 #[.val (.ref x0), .unset, .unset] [(.ref x0)])) rfl (by rw [hml]; rfl) (Steps.refl _) (argsL := []) (rest := []) (lenOf pd_7 rfl) rfl (by show 2 * 0 + _ ≤ _; exact Nat.le_of_eq rfl) (hb hby d23_1) (fun _ _ => ⟨rfl, e0, (by decide : 0 + 0 ≤ _), (by decide : 0 + 0 ≤ _)⟩)
  dsimp only [Pt.U, Pt.locs, Pt.cells, Pt.slots] at X1 l1 y1 z1 st1 hQ1
  subst l1 y1 z1
  obtain ⟨rfl, N1q, eh1⟩ := hQ1
  have N1 := Fr.app N0 N1q
  refine OwnEnd.tr (S' := T1.setTop (mkF m 4 #[.val (.ref x0), .unset, .unset] [(.int (0 : Int32))])) st1 ?_
  refine OwnEnd.of (S' := T1.setTop (mkF m 13 #[.val (.ref x0), .val (.int (0 : Int32)), .unset] [(.ref x0), (.int (0 : Int32))])) (fun _ kK => XS.ifYes X1.here hx rfl (pc0 := 4) (pc' := 9) rfl (hb hby d23_4) rfl ((if0 _ _).trans (teq ((by decide : (0 : Int32) = (0 : Int32)))).1) (by decide) (by decide) (XS.iconst X1.here hx rfl (hb hby d23_9) (XS.istoreN X1.here hx rfl (hb hby d23_10) rfl (l' := #[.val (.ref x0), .val (.int (0 : Int32)), .unset]) rfl (XS.iloadN X1.here hx rfl (hb hby d23_11) rfl (XS.aloadN X1.here hx rfl (hb hby d23_12) rfl rfl kK))))) ?_
  obtain ⟨cq2, kq2, q2a, q2b, q2c⟩ := isOf hZ eh1 P0
  obtain ⟨_, _, ⟨T2, L2, k2, n2⟩, -, X2, ⟨Lc2, hQ2, l2, y2, z2⟩, st2⟩ := X1.virtualBack hx (y := own_m6) (z := own_m6) hown (mvT hZ (own_w G 50 rfl)) (mvT hZ (own_w G 51 rfl)) (notFace_of_selects (args := #[]) (mvT hZ (own_w G 53 rfl))) (mvT hZ (own_w G 53 rfl)) (mvT hZ (own_w G 52 rfl)) (by decide) (backOf (W := 1) (rmlnB l Z a0 G [] x0 t kb N vs (.int (0 : Int32)) cd [c0, c1]  h0 n0 O0 P0 P1 P2 P3 P4 P5 (by simp)) hZ (own_w G 54 rfl) (own_w G 3 rfl) (by decide) (by decide)) q2a q2c (g := (mkF m 13 #[.val (.ref x0), .val (.int (0 : Int32)), .unset] [(.ref x0), (.int (0 : Int32))])) rfl (by rw [hml]; rfl) (Steps.refl _) (argsL := []) (rest := [(.int (0 : Int32))]) (lenOf pd_14 rfl) rfl (by show 2 * 0 + _ ≤ _; exact Nat.le_of_eq rfl) (hb hby d23_13) (fun _ _ => ⟨rfl, eh1, (by decide : 0 + 0 ≤ _), (by decide : 0 + 0 ≤ _)⟩)
  dsimp only [Pt.U, Pt.locs, Pt.cells, Pt.slots] at X2 l2 y2 z2 st2 hQ2
  subst l2 y2 z2
  obtain ⟨rfl, N2q, eh2⟩ := hQ2
  have N2 := Fr.app N1 N2q
  refine OwnEnd.tr (S' := T2.setTop (mkF m 16 #[.val (.ref x0), .val (.int (0 : Int32)), .unset] [(.int (2 : Int32)), (.int (0 : Int32))])) st2 ?_
  refine OwnEnd.of (S' := T2.setTop (mkF m 21 #[.val (.ref x0), .val (.int (0 : Int32)), .unset] [(.int (0 : Int32)), (.ref x0)])) (fun _ kK => XS.icmpNo X2.here hx rfl (hb hby d23_16) rfl (tlt ((by decide : (0 : Int32) < (2 : Int32)))).2.1 (XS.aloadN X2.here hx rfl (hb hby d23_19) rfl rfl (XS.iloadN X2.here hx rfl (hb hby d23_20) rfl kK))) ?_
  obtain ⟨cq3, kq3, q3a, q3b, q3c⟩ := isOf hZ eh2 P0
  obtain ⟨_, _, ⟨T3, L3, k3, n3⟩, -, X3, ⟨Lc3, hQ3, l3, y3, z3⟩, st3⟩ := X2.virtualBack hx (y := own_m13) (z := own_m13) hown (mvT hZ (own_w G 60 rfl)) (mvT hZ (own_w G 61 rfl)) (notFace_of_selects (args := #[]) (mvT hZ (own_w G 63 rfl))) (mvT hZ (own_w G 63 rfl)) (mvT hZ (own_w G 62 rfl)) (by decide) (backOf (W := 0) (rmcAB l Z a0 G [] x0 t kb N vs (.int (0 : Int32)) cd [c0, c1] (0 : Int32) 0 h0 n0 O0 P0 P1 P2 P3 P4 P5 (by simp) (by simp) rfl) hZ (own_w G 64 rfl) (own_w G 3 rfl) (by decide) (by decide)) q3a q3c (g := (mkF m 21 #[.val (.ref x0), .val (.int (0 : Int32)), .unset] [(.int (0 : Int32)), (.ref x0)])) rfl (by rw [hml]; rfl) (Steps.refl _) (argsL := [(.int (0 : Int32))]) (rest := []) (lenOf pd_15 rfl) rfl (by show 2 * 0 + _ ≤ _; exact Nat.le_of_eq rfl) (hb hby d23_21) (fun _ _ => ⟨rfl, eh2, (by decide : 0 + 0 ≤ _), (by decide : 0 + 0 ≤ _)⟩)
  dsimp only [Pt.U, Pt.locs, Pt.cells, Pt.slots] at X3 l3 y3 z3 st3 hQ3
  subst l3 y3 z3
  obtain ⟨rfl, N3q, eh3⟩ := hQ3
  have N3 := Fr.app N2 N3q
  refine OwnEnd.tr (S' := T3.setTop (mkF m 24 #[.val (.ref x0), .val (.int (0 : Int32)), .unset] [(.int c0)])) st3 ?_
  refine OwnEnd.of (S' := T3.setTop (mkF m 28 #[.val (.ref x0), .val (.int (0 : Int32)), .val (.int c0)] [(.int (48 : Int32)), (.int c0)])) (fun _ kK => XS.istoreN X3.here hx rfl (hb hby d23_24) rfl (l' := #[.val (.ref x0), .val (.int (0 : Int32)), .val (.int c0)]) rfl (XS.iloadN X3.here hx rfl (hb hby d23_25) rfl (XS.bipush X3.here hx rfl (hb hby d23_26) kK))) ?_
  rcases Decidable.em (c0 < (48 : Int32)) with hc4 | hc4
  · refine OwnEnd.of (S' := T3.setTop (mkF m 38 #[.val (.ref x0), .val (.int (0 : Int32)), .val (.int c0)] [(.int (0 : Int32))])) (fun _ kK => XS.icmpYes X3.here hx rfl (pc0 := 28) (pc' := 37) rfl (hb hby d23_28) rfl (tlt (hc4)).1 (by decide) (by decide) (XS.iconst X3.here hx rfl (hb hby d23_37) kK)) ?_
    refine OwnEnd.ret X3 (v := (some (.int (nar .boolean (0 : Int32))))) (fun h => by rw [Bd.returns] at h; cases h) hlk (fun fs hr => retN X3 hx (t := .boolean) Bd.returns (by simp) (hb hby d23_38) hr) (by decide) (by decide) (Q := (own_Qint (own_isd [c0, c1])) h0 n0) eh3 ?_
    exact ⟨(by show some (Value.int (nar .boolean (0 : Int32))) = _; simp [own_isd, nar, hc4]), N3, rfl⟩
  · refine OwnEnd.of (S' := T3.setTop (mkF m 34 #[.val (.ref x0), .val (.int (0 : Int32)), .val (.int c0)] [(.int (57 : Int32)), (.int c0)])) (fun _ kK => XS.icmpNo X3.here hx rfl (hb hby d23_28) rfl (flt (hc4)).1 (XS.iloadN X3.here hx rfl (hb hby d23_31) rfl (XS.bipush X3.here hx rfl (hb hby d23_32) kK))) ?_
    rcases Decidable.em ((57 : Int32) < c0) with hc5 | hc5
    · refine OwnEnd.of (S' := T3.setTop (mkF m 38 #[.val (.ref x0), .val (.int (0 : Int32)), .val (.int c0)] [(.int (0 : Int32))])) (fun _ kK => XS.icmpNo X3.here hx rfl (hb hby d23_34) rfl (tlt (hc5)).2.2.2 (XS.iconst X3.here hx rfl (hb hby d23_37) kK)) ?_
      refine OwnEnd.ret X3 (v := (some (.int (nar .boolean (0 : Int32))))) (fun h => by rw [Bd.returns] at h; cases h) hlk (fun fs hr => retN X3 hx (t := .boolean) Bd.returns (by simp) (hb hby d23_38) hr) (by decide) (by decide) (Q := (own_Qint (own_isd [c0, c1])) h0 n0) eh3 ?_
      exact ⟨(by show some (Value.int (nar .boolean (0 : Int32))) = _; simp [own_isd, nar, hc4, hc5]), N3, rfl⟩
    · refine OwnEnd.of (S' := T3.setTop (mkF m 13 #[.val (.ref x0), .val (.int (1 : Int32)), .val (.int c0)] [(.ref x0), (.int (1 : Int32))])) (fun _ kK => XS.icmpYes X3.here hx rfl (pc0 := 34) (pc' := 39) rfl (hb hby d23_34) rfl (flt (hc5)).2.2.2 (by decide) (by decide) (XS.iinc X3.here hx rfl (hb hby d23_39) rfl (l' := #[.val (.ref x0), .val (.int (1 : Int32)), .val (.int c0)]) rfl (XS.goto X3.here hx rfl (pc0 := 42) (pc' := 11) rfl (hb hby d23_42) (by decide) (by decide) (XS.iloadN X3.here hx rfl (hb hby d23_11) rfl (XS.aloadN X3.here hx rfl (hb hby d23_12) rfl rfl kK))))) ?_
      obtain ⟨cq6, kq6, q6a, q6b, q6c⟩ := isOf hZ eh3 P0
      obtain ⟨_, _, ⟨T6, L6, k6, n6⟩, -, X6, ⟨Lc6, hQ6, l6, y6, z6⟩, st6⟩ := X3.virtualBack hx (y := own_m6) (z := own_m6) hown (mvT hZ (own_w G 50 rfl)) (mvT hZ (own_w G 51 rfl)) (notFace_of_selects (args := #[]) (mvT hZ (own_w G 53 rfl))) (mvT hZ (own_w G 53 rfl)) (mvT hZ (own_w G 52 rfl)) (by decide) (backOf (W := 1) (rmlnB l Z a0 G [] x0 t kb N vs (.int (0 : Int32)) cd [c0, c1]  h0 n0 O0 P0 P1 P2 P3 P4 P5 (by simp)) hZ (own_w G 54 rfl) (own_w G 3 rfl) (by decide) (by decide)) q6a q6c (g := (mkF m 13 #[.val (.ref x0), .val (.int (1 : Int32)), .val (.int c0)] [(.ref x0), (.int (1 : Int32))])) rfl (by rw [hml]; rfl) (Steps.refl _) (argsL := []) (rest := [(.int (1 : Int32))]) (lenOf pd_14 rfl) rfl (by show 2 * 0 + _ ≤ _; exact Nat.le_of_eq rfl) (hb hby d23_13) (fun _ _ => ⟨rfl, eh3, (by decide : 0 + 0 ≤ _), (by decide : 0 + 0 ≤ _)⟩)
      dsimp only [Pt.U, Pt.locs, Pt.cells, Pt.slots] at X6 l6 y6 z6 st6 hQ6
      subst l6 y6 z6
      obtain ⟨rfl, N6q, eh6⟩ := hQ6
      have N6 := Fr.app N3 N6q
      refine OwnEnd.tr (S' := T6.setTop (mkF m 16 #[.val (.ref x0), .val (.int (1 : Int32)), .val (.int c0)] [(.int (2 : Int32)), (.int (1 : Int32))])) st6 ?_
      refine OwnEnd.of (S' := T6.setTop (mkF m 21 #[.val (.ref x0), .val (.int (1 : Int32)), .val (.int c0)] [(.int (1 : Int32)), (.ref x0)])) (fun _ kK => XS.icmpNo X6.here hx rfl (hb hby d23_16) rfl (tlt ((by decide : (1 : Int32) < (2 : Int32)))).2.1 (XS.aloadN X6.here hx rfl (hb hby d23_19) rfl rfl (XS.iloadN X6.here hx rfl (hb hby d23_20) rfl kK))) ?_
      obtain ⟨cq7, kq7, q7a, q7b, q7c⟩ := isOf hZ eh6 P0
      obtain ⟨_, _, ⟨T7, L7, k7, n7⟩, -, X7, ⟨Lc7, hQ7, l7, y7, z7⟩, st7⟩ := X6.virtualBack hx (y := own_m13) (z := own_m13) hown (mvT hZ (own_w G 60 rfl)) (mvT hZ (own_w G 61 rfl)) (notFace_of_selects (args := #[]) (mvT hZ (own_w G 63 rfl))) (mvT hZ (own_w G 63 rfl)) (mvT hZ (own_w G 62 rfl)) (by decide) (backOf (W := 0) (rmcAB l Z a0 G [] x0 t kb N vs (.int (0 : Int32)) cd [c0, c1] (1 : Int32) 1 h0 n0 O0 P0 P1 P2 P3 P4 P5 (by simp) (by simp) rfl) hZ (own_w G 64 rfl) (own_w G 3 rfl) (by decide) (by decide)) q7a q7c (g := (mkF m 21 #[.val (.ref x0), .val (.int (1 : Int32)), .val (.int c0)] [(.int (1 : Int32)), (.ref x0)])) rfl (by rw [hml]; rfl) (Steps.refl _) (argsL := [(.int (1 : Int32))]) (rest := []) (lenOf pd_15 rfl) rfl (by show 2 * 0 + _ ≤ _; exact Nat.le_of_eq rfl) (hb hby d23_21) (fun _ _ => ⟨rfl, eh6, (by decide : 0 + 0 ≤ _), (by decide : 0 + 0 ≤ _)⟩)
      dsimp only [Pt.U, Pt.locs, Pt.cells, Pt.slots] at X7 l7 y7 z7 st7 hQ7
      subst l7 y7 z7
      obtain ⟨rfl, N7q, eh7⟩ := hQ7
      have N7 := Fr.app N6 N7q
      refine OwnEnd.tr (S' := T7.setTop (mkF m 24 #[.val (.ref x0), .val (.int (1 : Int32)), .val (.int c0)] [(.int c1)])) st7 ?_
      refine OwnEnd.of (S' := T7.setTop (mkF m 28 #[.val (.ref x0), .val (.int (1 : Int32)), .val (.int c1)] [(.int (48 : Int32)), (.int c1)])) (fun _ kK => XS.istoreN X7.here hx rfl (hb hby d23_24) rfl (l' := #[.val (.ref x0), .val (.int (1 : Int32)), .val (.int c1)]) rfl (XS.iloadN X7.here hx rfl (hb hby d23_25) rfl (XS.bipush X7.here hx rfl (hb hby d23_26) kK))) ?_
      rcases Decidable.em (c1 < (48 : Int32)) with hc8 | hc8
      · refine OwnEnd.of (S' := T7.setTop (mkF m 38 #[.val (.ref x0), .val (.int (1 : Int32)), .val (.int c1)] [(.int (0 : Int32))])) (fun _ kK => XS.icmpYes X7.here hx rfl (pc0 := 28) (pc' := 37) rfl (hb hby d23_28) rfl (tlt (hc8)).1 (by decide) (by decide) (XS.iconst X7.here hx rfl (hb hby d23_37) kK)) ?_
        refine OwnEnd.ret X7 (v := (some (.int (nar .boolean (0 : Int32))))) (fun h => by rw [Bd.returns] at h; cases h) hlk (fun fs hr => retN X7 hx (t := .boolean) Bd.returns (by simp) (hb hby d23_38) hr) (by decide) (by decide) (Q := (own_Qint (own_isd [c0, c1])) h0 n0) eh7 ?_
        exact ⟨(by show some (Value.int (nar .boolean (0 : Int32))) = _; simp [own_isd, nar, hc4, hc5, hc8]), N7, rfl⟩
      · refine OwnEnd.of (S' := T7.setTop (mkF m 34 #[.val (.ref x0), .val (.int (1 : Int32)), .val (.int c1)] [(.int (57 : Int32)), (.int c1)])) (fun _ kK => XS.icmpNo X7.here hx rfl (hb hby d23_28) rfl (flt (hc8)).1 (XS.iloadN X7.here hx rfl (hb hby d23_31) rfl (XS.bipush X7.here hx rfl (hb hby d23_32) kK))) ?_
        rcases Decidable.em ((57 : Int32) < c1) with hc9 | hc9
        · refine OwnEnd.of (S' := T7.setTop (mkF m 38 #[.val (.ref x0), .val (.int (1 : Int32)), .val (.int c1)] [(.int (0 : Int32))])) (fun _ kK => XS.icmpNo X7.here hx rfl (hb hby d23_34) rfl (tlt (hc9)).2.2.2 (XS.iconst X7.here hx rfl (hb hby d23_37) kK)) ?_
          refine OwnEnd.ret X7 (v := (some (.int (nar .boolean (0 : Int32))))) (fun h => by rw [Bd.returns] at h; cases h) hlk (fun fs hr => retN X7 hx (t := .boolean) Bd.returns (by simp) (hb hby d23_38) hr) (by decide) (by decide) (Q := (own_Qint (own_isd [c0, c1])) h0 n0) eh7 ?_
          exact ⟨(by show some (Value.int (nar .boolean (0 : Int32))) = _; simp [own_isd, nar, hc4, hc5, hc8, hc9]), N7, rfl⟩
        · refine OwnEnd.of (S' := T7.setTop (mkF m 13 #[.val (.ref x0), .val (.int (2 : Int32)), .val (.int c1)] [(.ref x0), (.int (2 : Int32))])) (fun _ kK => XS.icmpYes X7.here hx rfl (pc0 := 34) (pc' := 39) rfl (hb hby d23_34) rfl (flt (hc9)).2.2.2 (by decide) (by decide) (XS.iinc X7.here hx rfl (hb hby d23_39) rfl (l' := #[.val (.ref x0), .val (.int (2 : Int32)), .val (.int c1)]) rfl (XS.goto X7.here hx rfl (pc0 := 42) (pc' := 11) rfl (hb hby d23_42) (by decide) (by decide) (XS.iloadN X7.here hx rfl (hb hby d23_11) rfl (XS.aloadN X7.here hx rfl (hb hby d23_12) rfl rfl kK))))) ?_
          obtain ⟨cq10, kq10, q10a, q10b, q10c⟩ := isOf hZ eh7 P0
          obtain ⟨_, _, ⟨T10, L10, k10, n10⟩, -, X10, ⟨Lc10, hQ10, l10, y10, z10⟩, st10⟩ := X7.virtualBack hx (y := own_m6) (z := own_m6) hown (mvT hZ (own_w G 50 rfl)) (mvT hZ (own_w G 51 rfl)) (notFace_of_selects (args := #[]) (mvT hZ (own_w G 53 rfl))) (mvT hZ (own_w G 53 rfl)) (mvT hZ (own_w G 52 rfl)) (by decide) (backOf (W := 1) (rmlnB l Z a0 G [] x0 t kb N vs (.int (0 : Int32)) cd [c0, c1]  h0 n0 O0 P0 P1 P2 P3 P4 P5 (by simp)) hZ (own_w G 54 rfl) (own_w G 3 rfl) (by decide) (by decide)) q10a q10c (g := (mkF m 13 #[.val (.ref x0), .val (.int (2 : Int32)), .val (.int c1)] [(.ref x0), (.int (2 : Int32))])) rfl (by rw [hml]; rfl) (Steps.refl _) (argsL := []) (rest := [(.int (2 : Int32))]) (lenOf pd_14 rfl) rfl (by show 2 * 0 + _ ≤ _; exact Nat.le_of_eq rfl) (hb hby d23_13) (fun _ _ => ⟨rfl, eh7, (by decide : 0 + 0 ≤ _), (by decide : 0 + 0 ≤ _)⟩)
          dsimp only [Pt.U, Pt.locs, Pt.cells, Pt.slots] at X10 l10 y10 z10 st10 hQ10
          subst l10 y10 z10
          obtain ⟨rfl, N10q, eh10⟩ := hQ10
          have N10 := Fr.app N7 N10q
          refine OwnEnd.tr (S' := T10.setTop (mkF m 16 #[.val (.ref x0), .val (.int (2 : Int32)), .val (.int c1)] [(.int (2 : Int32)), (.int (2 : Int32))])) st10 ?_
          refine OwnEnd.of (S' := T10.setTop (mkF m 46 #[.val (.ref x0), .val (.int (2 : Int32)), .val (.int c1)] [(.int (1 : Int32))])) (fun _ kK => XS.icmpYes X10.here hx rfl (pc0 := 16) (pc' := 45) rfl (hb hby d23_16) rfl (flt ((by decide : ¬ ((2 : Int32) < (2 : Int32))))).2.1 (by decide) (by decide) (XS.iconst X10.here hx rfl (hb hby d23_45) kK)) ?_
          refine OwnEnd.ret X10 (v := (some (.int (nar .boolean (1 : Int32))))) (fun h => by rw [Bd.returns] at h; cases h) hlk (fun fs hr => retN X10 hx (t := .boolean) Bd.returns (by simp) (hb hby d23_46) hr) (by decide) (by decide) (Q := (own_Qint (own_isd [c0, c1])) h0 n0) eh10 ?_
          exact ⟨(by show some (Value.int (nar .boolean (1 : Int32))) = _; simp [own_isd, nar, hc4, hc5, hc8, hc9]), N10, rfl⟩

theorem own_efis3 (m : MethodId) (x0 : Addr) : entryFrame m #[(.ref x0)] 3 = mkF m 0 #[.val (.ref x0), .unset, .unset] [] := by first | (simp [entryFrame, mkF, argsToLocals, Value.category]; done) | rfl
set_option maxRecDepth 65536 in
set_option maxHeartbeats 40000000 in
theorem rmis3 (l : Launch) (Z : State) (a0 : Array Value) (G : OwnG Z a0) (ws : List Jvm.Cond) (x0 : Addr) (t : Addr) (kb : ClassId) (N : Int32) (vs : List Value) (cd : Int32) (c0 : Int32) (c1 : Int32) (c2 : Int32) (h0 : Heap) (n0 : Nat) (O0 : Old Z n0 h0) (P0 : Exa Z h0 x0 "java/lang/String") (P1 : Fld Z h0 x0 "java/lang/String" "value" "[B" (.ref t)) (P2 : Fld Z h0 x0 "java/lang/String" "coder" "B" (.int cd)) (P3 : Arv Z h0 t kb .byte N vs (.int (0 : Int32))) (P4 : StrChars.Road.CodA [c0, c1, c2] cd N vs) (P5 : ∀ c ∈ ([c0, c1, c2] : List Int32), ¬ c < (0 : Int32) ∧ ¬ (65535 : Int32) < c) :
    MetFree l own_m23 (head1 (Jvm.Cond.code own_m23 prog_1_method_2_code 3 (some .boolean) :: ws) ({ frames := 5, cells := 0, slots := 0, locals := 66 } : Room)) (fun a U => a = #[(.ref x0)] ∧ Z.Warmed39 U.vm ∧ U.heap = h0) (fun _ _ _ _ _ => True) (fun _ U o U' => ∃ v L, o = .returned v ∧ (own_Qint (own_isd [c0, c1, c2])) h0 n0 v U'.heap L ∧ FrameEnd U o U' L ({ frames := 5, cells := 0, slots := 0, locals := 66 } : Room).cells ({ frames := 5, cells := 0, slots := 0, locals := 66 } : Room).slots) := by
  refine MetFree.of_bodySF (plainFor_of_name pn_5) hisR ?_
  intro p e s m args below meth cD s₁ Bd hml0 hP hK
  obtain ⟨rfl, hZ, hh⟩ := hP
  have hw := G.1
  have hx := Bd.exec
  have hby := Bd.bytes
  have hml : cD.maxLocals = 3 := hml0
  have hown : s.vm.findClass "com/example/sabar/sabar/Ascii" = some m.cls := findClass_of_methodNamed Bd.named
  have hnm := (name_of_methodNamed Bd.named Bd.method).1
  have hlk := Bd.notSynchronized
  have X0 : Stand p l e ({ frames := 5, cells := 0, slots := 0, locals := 66 } : Room) s m #[(.ref x0)] below meth cD s₁ [] 0 0 := Stand.of_body Bd
  have e0 : s₁.heap = h0 := by rw [← hh, Bd.state]; rfl
  have lt0 := own_ltN' P0.lt
  have lt1 := own_ltN' P1.lt
  have lt2 := own_ltN' P2.lt
  have lt3 := own_ltN' P3.lt
  have K0 : Keep h0 h0 [] := Keep.refl h0 _
  have Z0 := own_old_le O0
  have N0 := Fr.nil n0
  refine OwnEnd.start (g' := (mkF m 0 #[.val (.ref x0), .unset, .unset] [])) (own_efis3 m x0) ?_
  refine OwnEnd.of (S' := s₁.setTop (mkF m 1 #[.val (.ref x0), .unset, .unset] [(.ref x0)])) (fun _ kK => XS.aloadN X0.here hx rfl (hb hby d23_0) rfl rfl kK) ?_
  obtain ⟨cq1, kq1, q1a, q1b, q1c⟩ := isOf hZ e0 P0
  obtain ⟨_, _, ⟨T1, L1, k1, n1⟩, -, X1, ⟨Lc1, hQ1, l1, y1, z1⟩, st1⟩ := X0.virtualBack hx (y := own_m7) (z := own_m7) hown (mvT hZ (own_w G 31 rfl)) (mvT hZ (own_w G 32 rfl)) (notFace_of_selects (args := #[]) (mvT hZ (own_w G 34 rfl))) (mvT hZ (own_w G 34 rfl)) (mvT hZ (own_w G 33 rfl)) (by decide) (backOf (W := 0) (rmem0 l Z a0 G [] x0 t kb N vs (.int (0 : Int32)) h0 n0 O0 P1 P3 (own_cod_ne P4 (by simp) (by simp) : ¬ N = (0 : Int32))) hZ (own_w G 35 rfl) (own_w G 3 rfl) (by decide) (by decide)) q1a q1c (g := (mkF m 1 #[.val (.ref x0), .unset, .unset] [(.ref x0)])) rfl (by rw [hml]; rfl) (Steps.refl _) (argsL := []) (rest := []) (lenOf pd_7 rfl) rfl (by show 2 * 0 + _ ≤ _; exact Nat.le_of_eq rfl) (hb hby d23_1) (fun _ _ => ⟨rfl, e0, (by decide : 0 + 0 ≤ _), (by decide : 0 + 0 ≤ _)⟩)
  dsimp only [Pt.U, Pt.locs, Pt.cells, Pt.slots] at X1 l1 y1 z1 st1 hQ1
  subst l1 y1 z1
  obtain ⟨rfl, N1q, eh1⟩ := hQ1
  have N1 := Fr.app N0 N1q
  refine OwnEnd.tr (S' := T1.setTop (mkF m 4 #[.val (.ref x0), .unset, .unset] [(.int (0 : Int32))])) st1 ?_
  refine OwnEnd.of (S' := T1.setTop (mkF m 13 #[.val (.ref x0), .val (.int (0 : Int32)), .unset] [(.ref x0), (.int (0 : Int32))])) (fun _ kK => XS.ifYes X1.here hx rfl (pc0 := 4) (pc' := 9) rfl (hb hby d23_4) rfl ((if0 _ _).trans (teq ((by decide : (0 : Int32) = (0 : Int32)))).1) (by decide) (by decide) (XS.iconst X1.here hx rfl (hb hby d23_9) (XS.istoreN X1.here hx rfl (hb hby d23_10) rfl (l' := #[.val (.ref x0), .val (.int (0 : Int32)), .unset]) rfl (XS.iloadN X1.here hx rfl (hb hby d23_11) rfl (XS.aloadN X1.here hx rfl (hb hby d23_12) rfl rfl kK))))) ?_
  obtain ⟨cq2, kq2, q2a, q2b, q2c⟩ := isOf hZ eh1 P0
  obtain ⟨_, _, ⟨T2, L2, k2, n2⟩, -, X2, ⟨Lc2, hQ2, l2, y2, z2⟩, st2⟩ := X1.virtualBack hx (y := own_m6) (z := own_m6) hown (mvT hZ (own_w G 50 rfl)) (mvT hZ (own_w G 51 rfl)) (notFace_of_selects (args := #[]) (mvT hZ (own_w G 53 rfl))) (mvT hZ (own_w G 53 rfl)) (mvT hZ (own_w G 52 rfl)) (by decide) (backOf (W := 1) (rmlnB l Z a0 G [] x0 t kb N vs (.int (0 : Int32)) cd [c0, c1, c2]  h0 n0 O0 P0 P1 P2 P3 P4 P5 (by simp)) hZ (own_w G 54 rfl) (own_w G 3 rfl) (by decide) (by decide)) q2a q2c (g := (mkF m 13 #[.val (.ref x0), .val (.int (0 : Int32)), .unset] [(.ref x0), (.int (0 : Int32))])) rfl (by rw [hml]; rfl) (Steps.refl _) (argsL := []) (rest := [(.int (0 : Int32))]) (lenOf pd_14 rfl) rfl (by show 2 * 0 + _ ≤ _; exact Nat.le_of_eq rfl) (hb hby d23_13) (fun _ _ => ⟨rfl, eh1, (by decide : 0 + 0 ≤ _), (by decide : 0 + 0 ≤ _)⟩)
  dsimp only [Pt.U, Pt.locs, Pt.cells, Pt.slots] at X2 l2 y2 z2 st2 hQ2
  subst l2 y2 z2
  obtain ⟨rfl, N2q, eh2⟩ := hQ2
  have N2 := Fr.app N1 N2q
  refine OwnEnd.tr (S' := T2.setTop (mkF m 16 #[.val (.ref x0), .val (.int (0 : Int32)), .unset] [(.int (3 : Int32)), (.int (0 : Int32))])) st2 ?_
  refine OwnEnd.of (S' := T2.setTop (mkF m 21 #[.val (.ref x0), .val (.int (0 : Int32)), .unset] [(.int (0 : Int32)), (.ref x0)])) (fun _ kK => XS.icmpNo X2.here hx rfl (hb hby d23_16) rfl (tlt ((by decide : (0 : Int32) < (3 : Int32)))).2.1 (XS.aloadN X2.here hx rfl (hb hby d23_19) rfl rfl (XS.iloadN X2.here hx rfl (hb hby d23_20) rfl kK))) ?_
  obtain ⟨cq3, kq3, q3a, q3b, q3c⟩ := isOf hZ eh2 P0
  obtain ⟨_, _, ⟨T3, L3, k3, n3⟩, -, X3, ⟨Lc3, hQ3, l3, y3, z3⟩, st3⟩ := X2.virtualBack hx (y := own_m13) (z := own_m13) hown (mvT hZ (own_w G 60 rfl)) (mvT hZ (own_w G 61 rfl)) (notFace_of_selects (args := #[]) (mvT hZ (own_w G 63 rfl))) (mvT hZ (own_w G 63 rfl)) (mvT hZ (own_w G 62 rfl)) (by decide) (backOf (W := 0) (rmcAB l Z a0 G [] x0 t kb N vs (.int (0 : Int32)) cd [c0, c1, c2] (0 : Int32) 0 h0 n0 O0 P0 P1 P2 P3 P4 P5 (by simp) (by simp) rfl) hZ (own_w G 64 rfl) (own_w G 3 rfl) (by decide) (by decide)) q3a q3c (g := (mkF m 21 #[.val (.ref x0), .val (.int (0 : Int32)), .unset] [(.int (0 : Int32)), (.ref x0)])) rfl (by rw [hml]; rfl) (Steps.refl _) (argsL := [(.int (0 : Int32))]) (rest := []) (lenOf pd_15 rfl) rfl (by show 2 * 0 + _ ≤ _; exact Nat.le_of_eq rfl) (hb hby d23_21) (fun _ _ => ⟨rfl, eh2, (by decide : 0 + 0 ≤ _), (by decide : 0 + 0 ≤ _)⟩)
  dsimp only [Pt.U, Pt.locs, Pt.cells, Pt.slots] at X3 l3 y3 z3 st3 hQ3
  subst l3 y3 z3
  obtain ⟨rfl, N3q, eh3⟩ := hQ3
  have N3 := Fr.app N2 N3q
  refine OwnEnd.tr (S' := T3.setTop (mkF m 24 #[.val (.ref x0), .val (.int (0 : Int32)), .unset] [(.int c0)])) st3 ?_
  refine OwnEnd.of (S' := T3.setTop (mkF m 28 #[.val (.ref x0), .val (.int (0 : Int32)), .val (.int c0)] [(.int (48 : Int32)), (.int c0)])) (fun _ kK => XS.istoreN X3.here hx rfl (hb hby d23_24) rfl (l' := #[.val (.ref x0), .val (.int (0 : Int32)), .val (.int c0)]) rfl (XS.iloadN X3.here hx rfl (hb hby d23_25) rfl (XS.bipush X3.here hx rfl (hb hby d23_26) kK))) ?_
  rcases Decidable.em (c0 < (48 : Int32)) with hc4 | hc4
  · refine OwnEnd.of (S' := T3.setTop (mkF m 38 #[.val (.ref x0), .val (.int (0 : Int32)), .val (.int c0)] [(.int (0 : Int32))])) (fun _ kK => XS.icmpYes X3.here hx rfl (pc0 := 28) (pc' := 37) rfl (hb hby d23_28) rfl (tlt (hc4)).1 (by decide) (by decide) (XS.iconst X3.here hx rfl (hb hby d23_37) kK)) ?_
    refine OwnEnd.ret X3 (v := (some (.int (nar .boolean (0 : Int32))))) (fun h => by rw [Bd.returns] at h; cases h) hlk (fun fs hr => retN X3 hx (t := .boolean) Bd.returns (by simp) (hb hby d23_38) hr) (by decide) (by decide) (Q := (own_Qint (own_isd [c0, c1, c2])) h0 n0) eh3 ?_
    exact ⟨(by show some (Value.int (nar .boolean (0 : Int32))) = _; simp [own_isd, nar, hc4]), N3, rfl⟩
  · refine OwnEnd.of (S' := T3.setTop (mkF m 34 #[.val (.ref x0), .val (.int (0 : Int32)), .val (.int c0)] [(.int (57 : Int32)), (.int c0)])) (fun _ kK => XS.icmpNo X3.here hx rfl (hb hby d23_28) rfl (flt (hc4)).1 (XS.iloadN X3.here hx rfl (hb hby d23_31) rfl (XS.bipush X3.here hx rfl (hb hby d23_32) kK))) ?_
    rcases Decidable.em ((57 : Int32) < c0) with hc5 | hc5
    · refine OwnEnd.of (S' := T3.setTop (mkF m 38 #[.val (.ref x0), .val (.int (0 : Int32)), .val (.int c0)] [(.int (0 : Int32))])) (fun _ kK => XS.icmpNo X3.here hx rfl (hb hby d23_34) rfl (tlt (hc5)).2.2.2 (XS.iconst X3.here hx rfl (hb hby d23_37) kK)) ?_
      refine OwnEnd.ret X3 (v := (some (.int (nar .boolean (0 : Int32))))) (fun h => by rw [Bd.returns] at h; cases h) hlk (fun fs hr => retN X3 hx (t := .boolean) Bd.returns (by simp) (hb hby d23_38) hr) (by decide) (by decide) (Q := (own_Qint (own_isd [c0, c1, c2])) h0 n0) eh3 ?_
      exact ⟨(by show some (Value.int (nar .boolean (0 : Int32))) = _; simp [own_isd, nar, hc4, hc5]), N3, rfl⟩
    · refine OwnEnd.of (S' := T3.setTop (mkF m 13 #[.val (.ref x0), .val (.int (1 : Int32)), .val (.int c0)] [(.ref x0), (.int (1 : Int32))])) (fun _ kK => XS.icmpYes X3.here hx rfl (pc0 := 34) (pc' := 39) rfl (hb hby d23_34) rfl (flt (hc5)).2.2.2 (by decide) (by decide) (XS.iinc X3.here hx rfl (hb hby d23_39) rfl (l' := #[.val (.ref x0), .val (.int (1 : Int32)), .val (.int c0)]) rfl (XS.goto X3.here hx rfl (pc0 := 42) (pc' := 11) rfl (hb hby d23_42) (by decide) (by decide) (XS.iloadN X3.here hx rfl (hb hby d23_11) rfl (XS.aloadN X3.here hx rfl (hb hby d23_12) rfl rfl kK))))) ?_
      obtain ⟨cq6, kq6, q6a, q6b, q6c⟩ := isOf hZ eh3 P0
      obtain ⟨_, _, ⟨T6, L6, k6, n6⟩, -, X6, ⟨Lc6, hQ6, l6, y6, z6⟩, st6⟩ := X3.virtualBack hx (y := own_m6) (z := own_m6) hown (mvT hZ (own_w G 50 rfl)) (mvT hZ (own_w G 51 rfl)) (notFace_of_selects (args := #[]) (mvT hZ (own_w G 53 rfl))) (mvT hZ (own_w G 53 rfl)) (mvT hZ (own_w G 52 rfl)) (by decide) (backOf (W := 1) (rmlnB l Z a0 G [] x0 t kb N vs (.int (0 : Int32)) cd [c0, c1, c2]  h0 n0 O0 P0 P1 P2 P3 P4 P5 (by simp)) hZ (own_w G 54 rfl) (own_w G 3 rfl) (by decide) (by decide)) q6a q6c (g := (mkF m 13 #[.val (.ref x0), .val (.int (1 : Int32)), .val (.int c0)] [(.ref x0), (.int (1 : Int32))])) rfl (by rw [hml]; rfl) (Steps.refl _) (argsL := []) (rest := [(.int (1 : Int32))]) (lenOf pd_14 rfl) rfl (by show 2 * 0 + _ ≤ _; exact Nat.le_of_eq rfl) (hb hby d23_13) (fun _ _ => ⟨rfl, eh3, (by decide : 0 + 0 ≤ _), (by decide : 0 + 0 ≤ _)⟩)
      dsimp only [Pt.U, Pt.locs, Pt.cells, Pt.slots] at X6 l6 y6 z6 st6 hQ6
      subst l6 y6 z6
      obtain ⟨rfl, N6q, eh6⟩ := hQ6
      have N6 := Fr.app N3 N6q
      refine OwnEnd.tr (S' := T6.setTop (mkF m 16 #[.val (.ref x0), .val (.int (1 : Int32)), .val (.int c0)] [(.int (3 : Int32)), (.int (1 : Int32))])) st6 ?_
      refine OwnEnd.of (S' := T6.setTop (mkF m 21 #[.val (.ref x0), .val (.int (1 : Int32)), .val (.int c0)] [(.int (1 : Int32)), (.ref x0)])) (fun _ kK => XS.icmpNo X6.here hx rfl (hb hby d23_16) rfl (tlt ((by decide : (1 : Int32) < (3 : Int32)))).2.1 (XS.aloadN X6.here hx rfl (hb hby d23_19) rfl rfl (XS.iloadN X6.here hx rfl (hb hby d23_20) rfl kK))) ?_
      obtain ⟨cq7, kq7, q7a, q7b, q7c⟩ := isOf hZ eh6 P0
      obtain ⟨_, _, ⟨T7, L7, k7, n7⟩, -, X7, ⟨Lc7, hQ7, l7, y7, z7⟩, st7⟩ := X6.virtualBack hx (y := own_m13) (z := own_m13) hown (mvT hZ (own_w G 60 rfl)) (mvT hZ (own_w G 61 rfl)) (notFace_of_selects (args := #[]) (mvT hZ (own_w G 63 rfl))) (mvT hZ (own_w G 63 rfl)) (mvT hZ (own_w G 62 rfl)) (by decide) (backOf (W := 0) (rmcAB l Z a0 G [] x0 t kb N vs (.int (0 : Int32)) cd [c0, c1, c2] (1 : Int32) 1 h0 n0 O0 P0 P1 P2 P3 P4 P5 (by simp) (by simp) rfl) hZ (own_w G 64 rfl) (own_w G 3 rfl) (by decide) (by decide)) q7a q7c (g := (mkF m 21 #[.val (.ref x0), .val (.int (1 : Int32)), .val (.int c0)] [(.int (1 : Int32)), (.ref x0)])) rfl (by rw [hml]; rfl) (Steps.refl _) (argsL := [(.int (1 : Int32))]) (rest := []) (lenOf pd_15 rfl) rfl (by show 2 * 0 + _ ≤ _; exact Nat.le_of_eq rfl) (hb hby d23_21) (fun _ _ => ⟨rfl, eh6, (by decide : 0 + 0 ≤ _), (by decide : 0 + 0 ≤ _)⟩)
      dsimp only [Pt.U, Pt.locs, Pt.cells, Pt.slots] at X7 l7 y7 z7 st7 hQ7
      subst l7 y7 z7
      obtain ⟨rfl, N7q, eh7⟩ := hQ7
      have N7 := Fr.app N6 N7q
      refine OwnEnd.tr (S' := T7.setTop (mkF m 24 #[.val (.ref x0), .val (.int (1 : Int32)), .val (.int c0)] [(.int c1)])) st7 ?_
      refine OwnEnd.of (S' := T7.setTop (mkF m 28 #[.val (.ref x0), .val (.int (1 : Int32)), .val (.int c1)] [(.int (48 : Int32)), (.int c1)])) (fun _ kK => XS.istoreN X7.here hx rfl (hb hby d23_24) rfl (l' := #[.val (.ref x0), .val (.int (1 : Int32)), .val (.int c1)]) rfl (XS.iloadN X7.here hx rfl (hb hby d23_25) rfl (XS.bipush X7.here hx rfl (hb hby d23_26) kK))) ?_
      rcases Decidable.em (c1 < (48 : Int32)) with hc8 | hc8
      · refine OwnEnd.of (S' := T7.setTop (mkF m 38 #[.val (.ref x0), .val (.int (1 : Int32)), .val (.int c1)] [(.int (0 : Int32))])) (fun _ kK => XS.icmpYes X7.here hx rfl (pc0 := 28) (pc' := 37) rfl (hb hby d23_28) rfl (tlt (hc8)).1 (by decide) (by decide) (XS.iconst X7.here hx rfl (hb hby d23_37) kK)) ?_
        refine OwnEnd.ret X7 (v := (some (.int (nar .boolean (0 : Int32))))) (fun h => by rw [Bd.returns] at h; cases h) hlk (fun fs hr => retN X7 hx (t := .boolean) Bd.returns (by simp) (hb hby d23_38) hr) (by decide) (by decide) (Q := (own_Qint (own_isd [c0, c1, c2])) h0 n0) eh7 ?_
        exact ⟨(by show some (Value.int (nar .boolean (0 : Int32))) = _; simp [own_isd, nar, hc4, hc5, hc8]), N7, rfl⟩
      · refine OwnEnd.of (S' := T7.setTop (mkF m 34 #[.val (.ref x0), .val (.int (1 : Int32)), .val (.int c1)] [(.int (57 : Int32)), (.int c1)])) (fun _ kK => XS.icmpNo X7.here hx rfl (hb hby d23_28) rfl (flt (hc8)).1 (XS.iloadN X7.here hx rfl (hb hby d23_31) rfl (XS.bipush X7.here hx rfl (hb hby d23_32) kK))) ?_
        rcases Decidable.em ((57 : Int32) < c1) with hc9 | hc9
        · refine OwnEnd.of (S' := T7.setTop (mkF m 38 #[.val (.ref x0), .val (.int (1 : Int32)), .val (.int c1)] [(.int (0 : Int32))])) (fun _ kK => XS.icmpNo X7.here hx rfl (hb hby d23_34) rfl (tlt (hc9)).2.2.2 (XS.iconst X7.here hx rfl (hb hby d23_37) kK)) ?_
          refine OwnEnd.ret X7 (v := (some (.int (nar .boolean (0 : Int32))))) (fun h => by rw [Bd.returns] at h; cases h) hlk (fun fs hr => retN X7 hx (t := .boolean) Bd.returns (by simp) (hb hby d23_38) hr) (by decide) (by decide) (Q := (own_Qint (own_isd [c0, c1, c2])) h0 n0) eh7 ?_
          exact ⟨(by show some (Value.int (nar .boolean (0 : Int32))) = _; simp [own_isd, nar, hc4, hc5, hc8, hc9]), N7, rfl⟩
        · refine OwnEnd.of (S' := T7.setTop (mkF m 13 #[.val (.ref x0), .val (.int (2 : Int32)), .val (.int c1)] [(.ref x0), (.int (2 : Int32))])) (fun _ kK => XS.icmpYes X7.here hx rfl (pc0 := 34) (pc' := 39) rfl (hb hby d23_34) rfl (flt (hc9)).2.2.2 (by decide) (by decide) (XS.iinc X7.here hx rfl (hb hby d23_39) rfl (l' := #[.val (.ref x0), .val (.int (2 : Int32)), .val (.int c1)]) rfl (XS.goto X7.here hx rfl (pc0 := 42) (pc' := 11) rfl (hb hby d23_42) (by decide) (by decide) (XS.iloadN X7.here hx rfl (hb hby d23_11) rfl (XS.aloadN X7.here hx rfl (hb hby d23_12) rfl rfl kK))))) ?_
          obtain ⟨cq10, kq10, q10a, q10b, q10c⟩ := isOf hZ eh7 P0
          obtain ⟨_, _, ⟨T10, L10, k10, n10⟩, -, X10, ⟨Lc10, hQ10, l10, y10, z10⟩, st10⟩ := X7.virtualBack hx (y := own_m6) (z := own_m6) hown (mvT hZ (own_w G 50 rfl)) (mvT hZ (own_w G 51 rfl)) (notFace_of_selects (args := #[]) (mvT hZ (own_w G 53 rfl))) (mvT hZ (own_w G 53 rfl)) (mvT hZ (own_w G 52 rfl)) (by decide) (backOf (W := 1) (rmlnB l Z a0 G [] x0 t kb N vs (.int (0 : Int32)) cd [c0, c1, c2]  h0 n0 O0 P0 P1 P2 P3 P4 P5 (by simp)) hZ (own_w G 54 rfl) (own_w G 3 rfl) (by decide) (by decide)) q10a q10c (g := (mkF m 13 #[.val (.ref x0), .val (.int (2 : Int32)), .val (.int c1)] [(.ref x0), (.int (2 : Int32))])) rfl (by rw [hml]; rfl) (Steps.refl _) (argsL := []) (rest := [(.int (2 : Int32))]) (lenOf pd_14 rfl) rfl (by show 2 * 0 + _ ≤ _; exact Nat.le_of_eq rfl) (hb hby d23_13) (fun _ _ => ⟨rfl, eh7, (by decide : 0 + 0 ≤ _), (by decide : 0 + 0 ≤ _)⟩)
          dsimp only [Pt.U, Pt.locs, Pt.cells, Pt.slots] at X10 l10 y10 z10 st10 hQ10
          subst l10 y10 z10
          obtain ⟨rfl, N10q, eh10⟩ := hQ10
          have N10 := Fr.app N7 N10q
          refine OwnEnd.tr (S' := T10.setTop (mkF m 16 #[.val (.ref x0), .val (.int (2 : Int32)), .val (.int c1)] [(.int (3 : Int32)), (.int (2 : Int32))])) st10 ?_
          refine OwnEnd.of (S' := T10.setTop (mkF m 21 #[.val (.ref x0), .val (.int (2 : Int32)), .val (.int c1)] [(.int (2 : Int32)), (.ref x0)])) (fun _ kK => XS.icmpNo X10.here hx rfl (hb hby d23_16) rfl (tlt ((by decide : (2 : Int32) < (3 : Int32)))).2.1 (XS.aloadN X10.here hx rfl (hb hby d23_19) rfl rfl (XS.iloadN X10.here hx rfl (hb hby d23_20) rfl kK))) ?_
          obtain ⟨cq11, kq11, q11a, q11b, q11c⟩ := isOf hZ eh10 P0
          obtain ⟨_, _, ⟨T11, L11, k11, n11⟩, -, X11, ⟨Lc11, hQ11, l11, y11, z11⟩, st11⟩ := X10.virtualBack hx (y := own_m13) (z := own_m13) hown (mvT hZ (own_w G 60 rfl)) (mvT hZ (own_w G 61 rfl)) (notFace_of_selects (args := #[]) (mvT hZ (own_w G 63 rfl))) (mvT hZ (own_w G 63 rfl)) (mvT hZ (own_w G 62 rfl)) (by decide) (backOf (W := 0) (rmcAB l Z a0 G [] x0 t kb N vs (.int (0 : Int32)) cd [c0, c1, c2] (2 : Int32) 2 h0 n0 O0 P0 P1 P2 P3 P4 P5 (by simp) (by simp) rfl) hZ (own_w G 64 rfl) (own_w G 3 rfl) (by decide) (by decide)) q11a q11c (g := (mkF m 21 #[.val (.ref x0), .val (.int (2 : Int32)), .val (.int c1)] [(.int (2 : Int32)), (.ref x0)])) rfl (by rw [hml]; rfl) (Steps.refl _) (argsL := [(.int (2 : Int32))]) (rest := []) (lenOf pd_15 rfl) rfl (by show 2 * 0 + _ ≤ _; exact Nat.le_of_eq rfl) (hb hby d23_21) (fun _ _ => ⟨rfl, eh10, (by decide : 0 + 0 ≤ _), (by decide : 0 + 0 ≤ _)⟩)
          dsimp only [Pt.U, Pt.locs, Pt.cells, Pt.slots] at X11 l11 y11 z11 st11 hQ11
          subst l11 y11 z11
          obtain ⟨rfl, N11q, eh11⟩ := hQ11
          have N11 := Fr.app N10 N11q
          refine OwnEnd.tr (S' := T11.setTop (mkF m 24 #[.val (.ref x0), .val (.int (2 : Int32)), .val (.int c1)] [(.int c2)])) st11 ?_
          refine OwnEnd.of (S' := T11.setTop (mkF m 28 #[.val (.ref x0), .val (.int (2 : Int32)), .val (.int c2)] [(.int (48 : Int32)), (.int c2)])) (fun _ kK => XS.istoreN X11.here hx rfl (hb hby d23_24) rfl (l' := #[.val (.ref x0), .val (.int (2 : Int32)), .val (.int c2)]) rfl (XS.iloadN X11.here hx rfl (hb hby d23_25) rfl (XS.bipush X11.here hx rfl (hb hby d23_26) kK))) ?_
          rcases Decidable.em (c2 < (48 : Int32)) with hc12 | hc12
          · refine OwnEnd.of (S' := T11.setTop (mkF m 38 #[.val (.ref x0), .val (.int (2 : Int32)), .val (.int c2)] [(.int (0 : Int32))])) (fun _ kK => XS.icmpYes X11.here hx rfl (pc0 := 28) (pc' := 37) rfl (hb hby d23_28) rfl (tlt (hc12)).1 (by decide) (by decide) (XS.iconst X11.here hx rfl (hb hby d23_37) kK)) ?_
            refine OwnEnd.ret X11 (v := (some (.int (nar .boolean (0 : Int32))))) (fun h => by rw [Bd.returns] at h; cases h) hlk (fun fs hr => retN X11 hx (t := .boolean) Bd.returns (by simp) (hb hby d23_38) hr) (by decide) (by decide) (Q := (own_Qint (own_isd [c0, c1, c2])) h0 n0) eh11 ?_
            exact ⟨(by show some (Value.int (nar .boolean (0 : Int32))) = _; simp [own_isd, nar, hc4, hc5, hc8, hc9, hc12]), N11, rfl⟩
          · refine OwnEnd.of (S' := T11.setTop (mkF m 34 #[.val (.ref x0), .val (.int (2 : Int32)), .val (.int c2)] [(.int (57 : Int32)), (.int c2)])) (fun _ kK => XS.icmpNo X11.here hx rfl (hb hby d23_28) rfl (flt (hc12)).1 (XS.iloadN X11.here hx rfl (hb hby d23_31) rfl (XS.bipush X11.here hx rfl (hb hby d23_32) kK))) ?_
            rcases Decidable.em ((57 : Int32) < c2) with hc13 | hc13
            · refine OwnEnd.of (S' := T11.setTop (mkF m 38 #[.val (.ref x0), .val (.int (2 : Int32)), .val (.int c2)] [(.int (0 : Int32))])) (fun _ kK => XS.icmpNo X11.here hx rfl (hb hby d23_34) rfl (tlt (hc13)).2.2.2 (XS.iconst X11.here hx rfl (hb hby d23_37) kK)) ?_
              refine OwnEnd.ret X11 (v := (some (.int (nar .boolean (0 : Int32))))) (fun h => by rw [Bd.returns] at h; cases h) hlk (fun fs hr => retN X11 hx (t := .boolean) Bd.returns (by simp) (hb hby d23_38) hr) (by decide) (by decide) (Q := (own_Qint (own_isd [c0, c1, c2])) h0 n0) eh11 ?_
              exact ⟨(by show some (Value.int (nar .boolean (0 : Int32))) = _; simp [own_isd, nar, hc4, hc5, hc8, hc9, hc12, hc13]), N11, rfl⟩
            · refine OwnEnd.of (S' := T11.setTop (mkF m 13 #[.val (.ref x0), .val (.int (3 : Int32)), .val (.int c2)] [(.ref x0), (.int (3 : Int32))])) (fun _ kK => XS.icmpYes X11.here hx rfl (pc0 := 34) (pc' := 39) rfl (hb hby d23_34) rfl (flt (hc13)).2.2.2 (by decide) (by decide) (XS.iinc X11.here hx rfl (hb hby d23_39) rfl (l' := #[.val (.ref x0), .val (.int (3 : Int32)), .val (.int c2)]) rfl (XS.goto X11.here hx rfl (pc0 := 42) (pc' := 11) rfl (hb hby d23_42) (by decide) (by decide) (XS.iloadN X11.here hx rfl (hb hby d23_11) rfl (XS.aloadN X11.here hx rfl (hb hby d23_12) rfl rfl kK))))) ?_
              obtain ⟨cq14, kq14, q14a, q14b, q14c⟩ := isOf hZ eh11 P0
              obtain ⟨_, _, ⟨T14, L14, k14, n14⟩, -, X14, ⟨Lc14, hQ14, l14, y14, z14⟩, st14⟩ := X11.virtualBack hx (y := own_m6) (z := own_m6) hown (mvT hZ (own_w G 50 rfl)) (mvT hZ (own_w G 51 rfl)) (notFace_of_selects (args := #[]) (mvT hZ (own_w G 53 rfl))) (mvT hZ (own_w G 53 rfl)) (mvT hZ (own_w G 52 rfl)) (by decide) (backOf (W := 1) (rmlnB l Z a0 G [] x0 t kb N vs (.int (0 : Int32)) cd [c0, c1, c2]  h0 n0 O0 P0 P1 P2 P3 P4 P5 (by simp)) hZ (own_w G 54 rfl) (own_w G 3 rfl) (by decide) (by decide)) q14a q14c (g := (mkF m 13 #[.val (.ref x0), .val (.int (3 : Int32)), .val (.int c2)] [(.ref x0), (.int (3 : Int32))])) rfl (by rw [hml]; rfl) (Steps.refl _) (argsL := []) (rest := [(.int (3 : Int32))]) (lenOf pd_14 rfl) rfl (by show 2 * 0 + _ ≤ _; exact Nat.le_of_eq rfl) (hb hby d23_13) (fun _ _ => ⟨rfl, eh11, (by decide : 0 + 0 ≤ _), (by decide : 0 + 0 ≤ _)⟩)
              dsimp only [Pt.U, Pt.locs, Pt.cells, Pt.slots] at X14 l14 y14 z14 st14 hQ14
              subst l14 y14 z14
              obtain ⟨rfl, N14q, eh14⟩ := hQ14
              have N14 := Fr.app N11 N14q
              refine OwnEnd.tr (S' := T14.setTop (mkF m 16 #[.val (.ref x0), .val (.int (3 : Int32)), .val (.int c2)] [(.int (3 : Int32)), (.int (3 : Int32))])) st14 ?_
              refine OwnEnd.of (S' := T14.setTop (mkF m 46 #[.val (.ref x0), .val (.int (3 : Int32)), .val (.int c2)] [(.int (1 : Int32))])) (fun _ kK => XS.icmpYes X14.here hx rfl (pc0 := 16) (pc' := 45) rfl (hb hby d23_16) rfl (flt ((by decide : ¬ ((3 : Int32) < (3 : Int32))))).2.1 (by decide) (by decide) (XS.iconst X14.here hx rfl (hb hby d23_45) kK)) ?_
              refine OwnEnd.ret X14 (v := (some (.int (nar .boolean (1 : Int32))))) (fun h => by rw [Bd.returns] at h; cases h) hlk (fun fs hr => retN X14 hx (t := .boolean) Bd.returns (by simp) (hb hby d23_46) hr) (by decide) (by decide) (Q := (own_Qint (own_isd [c0, c1, c2])) h0 n0) eh14 ?_
              exact ⟨(by show some (Value.int (nar .boolean (1 : Int32))) = _; simp [own_isd, nar, hc4, hc5, hc8, hc9, hc12, hc13]), N14, rfl⟩

theorem own_efis4 (m : MethodId) (x0 : Addr) : entryFrame m #[(.ref x0)] 3 = mkF m 0 #[.val (.ref x0), .unset, .unset] [] := by first | (simp [entryFrame, mkF, argsToLocals, Value.category]; done) | rfl
set_option maxRecDepth 65536 in
set_option maxHeartbeats 40000000 in
theorem rmis4 (l : Launch) (Z : State) (a0 : Array Value) (G : OwnG Z a0) (ws : List Jvm.Cond) (x0 : Addr) (t : Addr) (kb : ClassId) (N : Int32) (vs : List Value) (cd : Int32) (c0 : Int32) (c1 : Int32) (c2 : Int32) (c3 : Int32) (h0 : Heap) (n0 : Nat) (O0 : Old Z n0 h0) (P0 : Exa Z h0 x0 "java/lang/String") (P1 : Fld Z h0 x0 "java/lang/String" "value" "[B" (.ref t)) (P2 : Fld Z h0 x0 "java/lang/String" "coder" "B" (.int cd)) (P3 : Arv Z h0 t kb .byte N vs (.int (0 : Int32))) (P4 : StrChars.Road.CodA [c0, c1, c2, c3] cd N vs) (P5 : ∀ c ∈ ([c0, c1, c2, c3] : List Int32), ¬ c < (0 : Int32) ∧ ¬ (65535 : Int32) < c) :
    MetFree l own_m23 (head1 (Jvm.Cond.code own_m23 prog_1_method_2_code 3 (some .boolean) :: ws) ({ frames := 5, cells := 0, slots := 0, locals := 66 } : Room)) (fun a U => a = #[(.ref x0)] ∧ Z.Warmed39 U.vm ∧ U.heap = h0) (fun _ _ _ _ _ => True) (fun _ U o U' => ∃ v L, o = .returned v ∧ (own_Qint (own_isd [c0, c1, c2, c3])) h0 n0 v U'.heap L ∧ FrameEnd U o U' L ({ frames := 5, cells := 0, slots := 0, locals := 66 } : Room).cells ({ frames := 5, cells := 0, slots := 0, locals := 66 } : Room).slots) := by
  refine MetFree.of_bodySF (plainFor_of_name pn_5) hisR ?_
  intro p e s m args below meth cD s₁ Bd hml0 hP hK
  obtain ⟨rfl, hZ, hh⟩ := hP
  have hw := G.1
  have hx := Bd.exec
  have hby := Bd.bytes
  have hml : cD.maxLocals = 3 := hml0
  have hown : s.vm.findClass "com/example/sabar/sabar/Ascii" = some m.cls := findClass_of_methodNamed Bd.named
  have hnm := (name_of_methodNamed Bd.named Bd.method).1
  have hlk := Bd.notSynchronized
  have X0 : Stand p l e ({ frames := 5, cells := 0, slots := 0, locals := 66 } : Room) s m #[(.ref x0)] below meth cD s₁ [] 0 0 := Stand.of_body Bd
  have e0 : s₁.heap = h0 := by rw [← hh, Bd.state]; rfl
  have lt0 := own_ltN' P0.lt
  have lt1 := own_ltN' P1.lt
  have lt2 := own_ltN' P2.lt
  have lt3 := own_ltN' P3.lt
  have K0 : Keep h0 h0 [] := Keep.refl h0 _
  have Z0 := own_old_le O0
  have N0 := Fr.nil n0
  refine OwnEnd.start (g' := (mkF m 0 #[.val (.ref x0), .unset, .unset] [])) (own_efis4 m x0) ?_
  refine OwnEnd.of (S' := s₁.setTop (mkF m 1 #[.val (.ref x0), .unset, .unset] [(.ref x0)])) (fun _ kK => XS.aloadN X0.here hx rfl (hb hby d23_0) rfl rfl kK) ?_
  obtain ⟨cq1, kq1, q1a, q1b, q1c⟩ := isOf hZ e0 P0
  obtain ⟨_, _, ⟨T1, L1, k1, n1⟩, -, X1, ⟨Lc1, hQ1, l1, y1, z1⟩, st1⟩ := X0.virtualBack hx (y := own_m7) (z := own_m7) hown (mvT hZ (own_w G 31 rfl)) (mvT hZ (own_w G 32 rfl)) (notFace_of_selects (args := #[]) (mvT hZ (own_w G 34 rfl))) (mvT hZ (own_w G 34 rfl)) (mvT hZ (own_w G 33 rfl)) (by decide) (backOf (W := 0) (rmem0 l Z a0 G [] x0 t kb N vs (.int (0 : Int32)) h0 n0 O0 P1 P3 (own_cod_ne P4 (by simp) (by simp) : ¬ N = (0 : Int32))) hZ (own_w G 35 rfl) (own_w G 3 rfl) (by decide) (by decide)) q1a q1c (g := (mkF m 1 #[.val (.ref x0), .unset, .unset] [(.ref x0)])) rfl (by rw [hml]; rfl) (Steps.refl _) (argsL := []) (rest := []) (lenOf pd_7 rfl) rfl (by show 2 * 0 + _ ≤ _; exact Nat.le_of_eq rfl) (hb hby d23_1) (fun _ _ => ⟨rfl, e0, (by decide : 0 + 0 ≤ _), (by decide : 0 + 0 ≤ _)⟩)
  dsimp only [Pt.U, Pt.locs, Pt.cells, Pt.slots] at X1 l1 y1 z1 st1 hQ1
  subst l1 y1 z1
  obtain ⟨rfl, N1q, eh1⟩ := hQ1
  have N1 := Fr.app N0 N1q
  refine OwnEnd.tr (S' := T1.setTop (mkF m 4 #[.val (.ref x0), .unset, .unset] [(.int (0 : Int32))])) st1 ?_
  refine OwnEnd.of (S' := T1.setTop (mkF m 13 #[.val (.ref x0), .val (.int (0 : Int32)), .unset] [(.ref x0), (.int (0 : Int32))])) (fun _ kK => XS.ifYes X1.here hx rfl (pc0 := 4) (pc' := 9) rfl (hb hby d23_4) rfl ((if0 _ _).trans (teq ((by decide : (0 : Int32) = (0 : Int32)))).1) (by decide) (by decide) (XS.iconst X1.here hx rfl (hb hby d23_9) (XS.istoreN X1.here hx rfl (hb hby d23_10) rfl (l' := #[.val (.ref x0), .val (.int (0 : Int32)), .unset]) rfl (XS.iloadN X1.here hx rfl (hb hby d23_11) rfl (XS.aloadN X1.here hx rfl (hb hby d23_12) rfl rfl kK))))) ?_
  obtain ⟨cq2, kq2, q2a, q2b, q2c⟩ := isOf hZ eh1 P0
  obtain ⟨_, _, ⟨T2, L2, k2, n2⟩, -, X2, ⟨Lc2, hQ2, l2, y2, z2⟩, st2⟩ := X1.virtualBack hx (y := own_m6) (z := own_m6) hown (mvT hZ (own_w G 50 rfl)) (mvT hZ (own_w G 51 rfl)) (notFace_of_selects (args := #[]) (mvT hZ (own_w G 53 rfl))) (mvT hZ (own_w G 53 rfl)) (mvT hZ (own_w G 52 rfl)) (by decide) (backOf (W := 1) (rmlnB l Z a0 G [] x0 t kb N vs (.int (0 : Int32)) cd [c0, c1, c2, c3]  h0 n0 O0 P0 P1 P2 P3 P4 P5 (by simp)) hZ (own_w G 54 rfl) (own_w G 3 rfl) (by decide) (by decide)) q2a q2c (g := (mkF m 13 #[.val (.ref x0), .val (.int (0 : Int32)), .unset] [(.ref x0), (.int (0 : Int32))])) rfl (by rw [hml]; rfl) (Steps.refl _) (argsL := []) (rest := [(.int (0 : Int32))]) (lenOf pd_14 rfl) rfl (by show 2 * 0 + _ ≤ _; exact Nat.le_of_eq rfl) (hb hby d23_13) (fun _ _ => ⟨rfl, eh1, (by decide : 0 + 0 ≤ _), (by decide : 0 + 0 ≤ _)⟩)
  dsimp only [Pt.U, Pt.locs, Pt.cells, Pt.slots] at X2 l2 y2 z2 st2 hQ2
  subst l2 y2 z2
  obtain ⟨rfl, N2q, eh2⟩ := hQ2
  have N2 := Fr.app N1 N2q
  refine OwnEnd.tr (S' := T2.setTop (mkF m 16 #[.val (.ref x0), .val (.int (0 : Int32)), .unset] [(.int (4 : Int32)), (.int (0 : Int32))])) st2 ?_
  refine OwnEnd.of (S' := T2.setTop (mkF m 21 #[.val (.ref x0), .val (.int (0 : Int32)), .unset] [(.int (0 : Int32)), (.ref x0)])) (fun _ kK => XS.icmpNo X2.here hx rfl (hb hby d23_16) rfl (tlt ((by decide : (0 : Int32) < (4 : Int32)))).2.1 (XS.aloadN X2.here hx rfl (hb hby d23_19) rfl rfl (XS.iloadN X2.here hx rfl (hb hby d23_20) rfl kK))) ?_
  obtain ⟨cq3, kq3, q3a, q3b, q3c⟩ := isOf hZ eh2 P0
  obtain ⟨_, _, ⟨T3, L3, k3, n3⟩, -, X3, ⟨Lc3, hQ3, l3, y3, z3⟩, st3⟩ := X2.virtualBack hx (y := own_m13) (z := own_m13) hown (mvT hZ (own_w G 60 rfl)) (mvT hZ (own_w G 61 rfl)) (notFace_of_selects (args := #[]) (mvT hZ (own_w G 63 rfl))) (mvT hZ (own_w G 63 rfl)) (mvT hZ (own_w G 62 rfl)) (by decide) (backOf (W := 0) (rmcAB l Z a0 G [] x0 t kb N vs (.int (0 : Int32)) cd [c0, c1, c2, c3] (0 : Int32) 0 h0 n0 O0 P0 P1 P2 P3 P4 P5 (by simp) (by simp) rfl) hZ (own_w G 64 rfl) (own_w G 3 rfl) (by decide) (by decide)) q3a q3c (g := (mkF m 21 #[.val (.ref x0), .val (.int (0 : Int32)), .unset] [(.int (0 : Int32)), (.ref x0)])) rfl (by rw [hml]; rfl) (Steps.refl _) (argsL := [(.int (0 : Int32))]) (rest := []) (lenOf pd_15 rfl) rfl (by show 2 * 0 + _ ≤ _; exact Nat.le_of_eq rfl) (hb hby d23_21) (fun _ _ => ⟨rfl, eh2, (by decide : 0 + 0 ≤ _), (by decide : 0 + 0 ≤ _)⟩)
  dsimp only [Pt.U, Pt.locs, Pt.cells, Pt.slots] at X3 l3 y3 z3 st3 hQ3
  subst l3 y3 z3
  obtain ⟨rfl, N3q, eh3⟩ := hQ3
  have N3 := Fr.app N2 N3q
  refine OwnEnd.tr (S' := T3.setTop (mkF m 24 #[.val (.ref x0), .val (.int (0 : Int32)), .unset] [(.int c0)])) st3 ?_
  refine OwnEnd.of (S' := T3.setTop (mkF m 28 #[.val (.ref x0), .val (.int (0 : Int32)), .val (.int c0)] [(.int (48 : Int32)), (.int c0)])) (fun _ kK => XS.istoreN X3.here hx rfl (hb hby d23_24) rfl (l' := #[.val (.ref x0), .val (.int (0 : Int32)), .val (.int c0)]) rfl (XS.iloadN X3.here hx rfl (hb hby d23_25) rfl (XS.bipush X3.here hx rfl (hb hby d23_26) kK))) ?_
  rcases Decidable.em (c0 < (48 : Int32)) with hc4 | hc4
  · refine OwnEnd.of (S' := T3.setTop (mkF m 38 #[.val (.ref x0), .val (.int (0 : Int32)), .val (.int c0)] [(.int (0 : Int32))])) (fun _ kK => XS.icmpYes X3.here hx rfl (pc0 := 28) (pc' := 37) rfl (hb hby d23_28) rfl (tlt (hc4)).1 (by decide) (by decide) (XS.iconst X3.here hx rfl (hb hby d23_37) kK)) ?_
    refine OwnEnd.ret X3 (v := (some (.int (nar .boolean (0 : Int32))))) (fun h => by rw [Bd.returns] at h; cases h) hlk (fun fs hr => retN X3 hx (t := .boolean) Bd.returns (by simp) (hb hby d23_38) hr) (by decide) (by decide) (Q := (own_Qint (own_isd [c0, c1, c2, c3])) h0 n0) eh3 ?_
    exact ⟨(by show some (Value.int (nar .boolean (0 : Int32))) = _; simp [own_isd, nar, hc4]), N3, rfl⟩
  · refine OwnEnd.of (S' := T3.setTop (mkF m 34 #[.val (.ref x0), .val (.int (0 : Int32)), .val (.int c0)] [(.int (57 : Int32)), (.int c0)])) (fun _ kK => XS.icmpNo X3.here hx rfl (hb hby d23_28) rfl (flt (hc4)).1 (XS.iloadN X3.here hx rfl (hb hby d23_31) rfl (XS.bipush X3.here hx rfl (hb hby d23_32) kK))) ?_
    rcases Decidable.em ((57 : Int32) < c0) with hc5 | hc5
    · refine OwnEnd.of (S' := T3.setTop (mkF m 38 #[.val (.ref x0), .val (.int (0 : Int32)), .val (.int c0)] [(.int (0 : Int32))])) (fun _ kK => XS.icmpNo X3.here hx rfl (hb hby d23_34) rfl (tlt (hc5)).2.2.2 (XS.iconst X3.here hx rfl (hb hby d23_37) kK)) ?_
      refine OwnEnd.ret X3 (v := (some (.int (nar .boolean (0 : Int32))))) (fun h => by rw [Bd.returns] at h; cases h) hlk (fun fs hr => retN X3 hx (t := .boolean) Bd.returns (by simp) (hb hby d23_38) hr) (by decide) (by decide) (Q := (own_Qint (own_isd [c0, c1, c2, c3])) h0 n0) eh3 ?_
      exact ⟨(by show some (Value.int (nar .boolean (0 : Int32))) = _; simp [own_isd, nar, hc4, hc5]), N3, rfl⟩
    · refine OwnEnd.of (S' := T3.setTop (mkF m 13 #[.val (.ref x0), .val (.int (1 : Int32)), .val (.int c0)] [(.ref x0), (.int (1 : Int32))])) (fun _ kK => XS.icmpYes X3.here hx rfl (pc0 := 34) (pc' := 39) rfl (hb hby d23_34) rfl (flt (hc5)).2.2.2 (by decide) (by decide) (XS.iinc X3.here hx rfl (hb hby d23_39) rfl (l' := #[.val (.ref x0), .val (.int (1 : Int32)), .val (.int c0)]) rfl (XS.goto X3.here hx rfl (pc0 := 42) (pc' := 11) rfl (hb hby d23_42) (by decide) (by decide) (XS.iloadN X3.here hx rfl (hb hby d23_11) rfl (XS.aloadN X3.here hx rfl (hb hby d23_12) rfl rfl kK))))) ?_
      obtain ⟨cq6, kq6, q6a, q6b, q6c⟩ := isOf hZ eh3 P0
      obtain ⟨_, _, ⟨T6, L6, k6, n6⟩, -, X6, ⟨Lc6, hQ6, l6, y6, z6⟩, st6⟩ := X3.virtualBack hx (y := own_m6) (z := own_m6) hown (mvT hZ (own_w G 50 rfl)) (mvT hZ (own_w G 51 rfl)) (notFace_of_selects (args := #[]) (mvT hZ (own_w G 53 rfl))) (mvT hZ (own_w G 53 rfl)) (mvT hZ (own_w G 52 rfl)) (by decide) (backOf (W := 1) (rmlnB l Z a0 G [] x0 t kb N vs (.int (0 : Int32)) cd [c0, c1, c2, c3]  h0 n0 O0 P0 P1 P2 P3 P4 P5 (by simp)) hZ (own_w G 54 rfl) (own_w G 3 rfl) (by decide) (by decide)) q6a q6c (g := (mkF m 13 #[.val (.ref x0), .val (.int (1 : Int32)), .val (.int c0)] [(.ref x0), (.int (1 : Int32))])) rfl (by rw [hml]; rfl) (Steps.refl _) (argsL := []) (rest := [(.int (1 : Int32))]) (lenOf pd_14 rfl) rfl (by show 2 * 0 + _ ≤ _; exact Nat.le_of_eq rfl) (hb hby d23_13) (fun _ _ => ⟨rfl, eh3, (by decide : 0 + 0 ≤ _), (by decide : 0 + 0 ≤ _)⟩)
      dsimp only [Pt.U, Pt.locs, Pt.cells, Pt.slots] at X6 l6 y6 z6 st6 hQ6
      subst l6 y6 z6
      obtain ⟨rfl, N6q, eh6⟩ := hQ6
      have N6 := Fr.app N3 N6q
      refine OwnEnd.tr (S' := T6.setTop (mkF m 16 #[.val (.ref x0), .val (.int (1 : Int32)), .val (.int c0)] [(.int (4 : Int32)), (.int (1 : Int32))])) st6 ?_
      refine OwnEnd.of (S' := T6.setTop (mkF m 21 #[.val (.ref x0), .val (.int (1 : Int32)), .val (.int c0)] [(.int (1 : Int32)), (.ref x0)])) (fun _ kK => XS.icmpNo X6.here hx rfl (hb hby d23_16) rfl (tlt ((by decide : (1 : Int32) < (4 : Int32)))).2.1 (XS.aloadN X6.here hx rfl (hb hby d23_19) rfl rfl (XS.iloadN X6.here hx rfl (hb hby d23_20) rfl kK))) ?_
      obtain ⟨cq7, kq7, q7a, q7b, q7c⟩ := isOf hZ eh6 P0
      obtain ⟨_, _, ⟨T7, L7, k7, n7⟩, -, X7, ⟨Lc7, hQ7, l7, y7, z7⟩, st7⟩ := X6.virtualBack hx (y := own_m13) (z := own_m13) hown (mvT hZ (own_w G 60 rfl)) (mvT hZ (own_w G 61 rfl)) (notFace_of_selects (args := #[]) (mvT hZ (own_w G 63 rfl))) (mvT hZ (own_w G 63 rfl)) (mvT hZ (own_w G 62 rfl)) (by decide) (backOf (W := 0) (rmcAB l Z a0 G [] x0 t kb N vs (.int (0 : Int32)) cd [c0, c1, c2, c3] (1 : Int32) 1 h0 n0 O0 P0 P1 P2 P3 P4 P5 (by simp) (by simp) rfl) hZ (own_w G 64 rfl) (own_w G 3 rfl) (by decide) (by decide)) q7a q7c (g := (mkF m 21 #[.val (.ref x0), .val (.int (1 : Int32)), .val (.int c0)] [(.int (1 : Int32)), (.ref x0)])) rfl (by rw [hml]; rfl) (Steps.refl _) (argsL := [(.int (1 : Int32))]) (rest := []) (lenOf pd_15 rfl) rfl (by show 2 * 0 + _ ≤ _; exact Nat.le_of_eq rfl) (hb hby d23_21) (fun _ _ => ⟨rfl, eh6, (by decide : 0 + 0 ≤ _), (by decide : 0 + 0 ≤ _)⟩)
      dsimp only [Pt.U, Pt.locs, Pt.cells, Pt.slots] at X7 l7 y7 z7 st7 hQ7
      subst l7 y7 z7
      obtain ⟨rfl, N7q, eh7⟩ := hQ7
      have N7 := Fr.app N6 N7q
      refine OwnEnd.tr (S' := T7.setTop (mkF m 24 #[.val (.ref x0), .val (.int (1 : Int32)), .val (.int c0)] [(.int c1)])) st7 ?_
      refine OwnEnd.of (S' := T7.setTop (mkF m 28 #[.val (.ref x0), .val (.int (1 : Int32)), .val (.int c1)] [(.int (48 : Int32)), (.int c1)])) (fun _ kK => XS.istoreN X7.here hx rfl (hb hby d23_24) rfl (l' := #[.val (.ref x0), .val (.int (1 : Int32)), .val (.int c1)]) rfl (XS.iloadN X7.here hx rfl (hb hby d23_25) rfl (XS.bipush X7.here hx rfl (hb hby d23_26) kK))) ?_
      rcases Decidable.em (c1 < (48 : Int32)) with hc8 | hc8
      · refine OwnEnd.of (S' := T7.setTop (mkF m 38 #[.val (.ref x0), .val (.int (1 : Int32)), .val (.int c1)] [(.int (0 : Int32))])) (fun _ kK => XS.icmpYes X7.here hx rfl (pc0 := 28) (pc' := 37) rfl (hb hby d23_28) rfl (tlt (hc8)).1 (by decide) (by decide) (XS.iconst X7.here hx rfl (hb hby d23_37) kK)) ?_
        refine OwnEnd.ret X7 (v := (some (.int (nar .boolean (0 : Int32))))) (fun h => by rw [Bd.returns] at h; cases h) hlk (fun fs hr => retN X7 hx (t := .boolean) Bd.returns (by simp) (hb hby d23_38) hr) (by decide) (by decide) (Q := (own_Qint (own_isd [c0, c1, c2, c3])) h0 n0) eh7 ?_
        exact ⟨(by show some (Value.int (nar .boolean (0 : Int32))) = _; simp [own_isd, nar, hc4, hc5, hc8]), N7, rfl⟩
      · refine OwnEnd.of (S' := T7.setTop (mkF m 34 #[.val (.ref x0), .val (.int (1 : Int32)), .val (.int c1)] [(.int (57 : Int32)), (.int c1)])) (fun _ kK => XS.icmpNo X7.here hx rfl (hb hby d23_28) rfl (flt (hc8)).1 (XS.iloadN X7.here hx rfl (hb hby d23_31) rfl (XS.bipush X7.here hx rfl (hb hby d23_32) kK))) ?_
        rcases Decidable.em ((57 : Int32) < c1) with hc9 | hc9
        · refine OwnEnd.of (S' := T7.setTop (mkF m 38 #[.val (.ref x0), .val (.int (1 : Int32)), .val (.int c1)] [(.int (0 : Int32))])) (fun _ kK => XS.icmpNo X7.here hx rfl (hb hby d23_34) rfl (tlt (hc9)).2.2.2 (XS.iconst X7.here hx rfl (hb hby d23_37) kK)) ?_
          refine OwnEnd.ret X7 (v := (some (.int (nar .boolean (0 : Int32))))) (fun h => by rw [Bd.returns] at h; cases h) hlk (fun fs hr => retN X7 hx (t := .boolean) Bd.returns (by simp) (hb hby d23_38) hr) (by decide) (by decide) (Q := (own_Qint (own_isd [c0, c1, c2, c3])) h0 n0) eh7 ?_
          exact ⟨(by show some (Value.int (nar .boolean (0 : Int32))) = _; simp [own_isd, nar, hc4, hc5, hc8, hc9]), N7, rfl⟩
        · refine OwnEnd.of (S' := T7.setTop (mkF m 13 #[.val (.ref x0), .val (.int (2 : Int32)), .val (.int c1)] [(.ref x0), (.int (2 : Int32))])) (fun _ kK => XS.icmpYes X7.here hx rfl (pc0 := 34) (pc' := 39) rfl (hb hby d23_34) rfl (flt (hc9)).2.2.2 (by decide) (by decide) (XS.iinc X7.here hx rfl (hb hby d23_39) rfl (l' := #[.val (.ref x0), .val (.int (2 : Int32)), .val (.int c1)]) rfl (XS.goto X7.here hx rfl (pc0 := 42) (pc' := 11) rfl (hb hby d23_42) (by decide) (by decide) (XS.iloadN X7.here hx rfl (hb hby d23_11) rfl (XS.aloadN X7.here hx rfl (hb hby d23_12) rfl rfl kK))))) ?_
          obtain ⟨cq10, kq10, q10a, q10b, q10c⟩ := isOf hZ eh7 P0
          obtain ⟨_, _, ⟨T10, L10, k10, n10⟩, -, X10, ⟨Lc10, hQ10, l10, y10, z10⟩, st10⟩ := X7.virtualBack hx (y := own_m6) (z := own_m6) hown (mvT hZ (own_w G 50 rfl)) (mvT hZ (own_w G 51 rfl)) (notFace_of_selects (args := #[]) (mvT hZ (own_w G 53 rfl))) (mvT hZ (own_w G 53 rfl)) (mvT hZ (own_w G 52 rfl)) (by decide) (backOf (W := 1) (rmlnB l Z a0 G [] x0 t kb N vs (.int (0 : Int32)) cd [c0, c1, c2, c3]  h0 n0 O0 P0 P1 P2 P3 P4 P5 (by simp)) hZ (own_w G 54 rfl) (own_w G 3 rfl) (by decide) (by decide)) q10a q10c (g := (mkF m 13 #[.val (.ref x0), .val (.int (2 : Int32)), .val (.int c1)] [(.ref x0), (.int (2 : Int32))])) rfl (by rw [hml]; rfl) (Steps.refl _) (argsL := []) (rest := [(.int (2 : Int32))]) (lenOf pd_14 rfl) rfl (by show 2 * 0 + _ ≤ _; exact Nat.le_of_eq rfl) (hb hby d23_13) (fun _ _ => ⟨rfl, eh7, (by decide : 0 + 0 ≤ _), (by decide : 0 + 0 ≤ _)⟩)
          dsimp only [Pt.U, Pt.locs, Pt.cells, Pt.slots] at X10 l10 y10 z10 st10 hQ10
          subst l10 y10 z10
          obtain ⟨rfl, N10q, eh10⟩ := hQ10
          have N10 := Fr.app N7 N10q
          refine OwnEnd.tr (S' := T10.setTop (mkF m 16 #[.val (.ref x0), .val (.int (2 : Int32)), .val (.int c1)] [(.int (4 : Int32)), (.int (2 : Int32))])) st10 ?_
          refine OwnEnd.of (S' := T10.setTop (mkF m 21 #[.val (.ref x0), .val (.int (2 : Int32)), .val (.int c1)] [(.int (2 : Int32)), (.ref x0)])) (fun _ kK => XS.icmpNo X10.here hx rfl (hb hby d23_16) rfl (tlt ((by decide : (2 : Int32) < (4 : Int32)))).2.1 (XS.aloadN X10.here hx rfl (hb hby d23_19) rfl rfl (XS.iloadN X10.here hx rfl (hb hby d23_20) rfl kK))) ?_
          obtain ⟨cq11, kq11, q11a, q11b, q11c⟩ := isOf hZ eh10 P0
          obtain ⟨_, _, ⟨T11, L11, k11, n11⟩, -, X11, ⟨Lc11, hQ11, l11, y11, z11⟩, st11⟩ := X10.virtualBack hx (y := own_m13) (z := own_m13) hown (mvT hZ (own_w G 60 rfl)) (mvT hZ (own_w G 61 rfl)) (notFace_of_selects (args := #[]) (mvT hZ (own_w G 63 rfl))) (mvT hZ (own_w G 63 rfl)) (mvT hZ (own_w G 62 rfl)) (by decide) (backOf (W := 0) (rmcAB l Z a0 G [] x0 t kb N vs (.int (0 : Int32)) cd [c0, c1, c2, c3] (2 : Int32) 2 h0 n0 O0 P0 P1 P2 P3 P4 P5 (by simp) (by simp) rfl) hZ (own_w G 64 rfl) (own_w G 3 rfl) (by decide) (by decide)) q11a q11c (g := (mkF m 21 #[.val (.ref x0), .val (.int (2 : Int32)), .val (.int c1)] [(.int (2 : Int32)), (.ref x0)])) rfl (by rw [hml]; rfl) (Steps.refl _) (argsL := [(.int (2 : Int32))]) (rest := []) (lenOf pd_15 rfl) rfl (by show 2 * 0 + _ ≤ _; exact Nat.le_of_eq rfl) (hb hby d23_21) (fun _ _ => ⟨rfl, eh10, (by decide : 0 + 0 ≤ _), (by decide : 0 + 0 ≤ _)⟩)
          dsimp only [Pt.U, Pt.locs, Pt.cells, Pt.slots] at X11 l11 y11 z11 st11 hQ11
          subst l11 y11 z11
          obtain ⟨rfl, N11q, eh11⟩ := hQ11
          have N11 := Fr.app N10 N11q
          refine OwnEnd.tr (S' := T11.setTop (mkF m 24 #[.val (.ref x0), .val (.int (2 : Int32)), .val (.int c1)] [(.int c2)])) st11 ?_
          refine OwnEnd.of (S' := T11.setTop (mkF m 28 #[.val (.ref x0), .val (.int (2 : Int32)), .val (.int c2)] [(.int (48 : Int32)), (.int c2)])) (fun _ kK => XS.istoreN X11.here hx rfl (hb hby d23_24) rfl (l' := #[.val (.ref x0), .val (.int (2 : Int32)), .val (.int c2)]) rfl (XS.iloadN X11.here hx rfl (hb hby d23_25) rfl (XS.bipush X11.here hx rfl (hb hby d23_26) kK))) ?_
          rcases Decidable.em (c2 < (48 : Int32)) with hc12 | hc12
          · refine OwnEnd.of (S' := T11.setTop (mkF m 38 #[.val (.ref x0), .val (.int (2 : Int32)), .val (.int c2)] [(.int (0 : Int32))])) (fun _ kK => XS.icmpYes X11.here hx rfl (pc0 := 28) (pc' := 37) rfl (hb hby d23_28) rfl (tlt (hc12)).1 (by decide) (by decide) (XS.iconst X11.here hx rfl (hb hby d23_37) kK)) ?_
            refine OwnEnd.ret X11 (v := (some (.int (nar .boolean (0 : Int32))))) (fun h => by rw [Bd.returns] at h; cases h) hlk (fun fs hr => retN X11 hx (t := .boolean) Bd.returns (by simp) (hb hby d23_38) hr) (by decide) (by decide) (Q := (own_Qint (own_isd [c0, c1, c2, c3])) h0 n0) eh11 ?_
            exact ⟨(by show some (Value.int (nar .boolean (0 : Int32))) = _; simp [own_isd, nar, hc4, hc5, hc8, hc9, hc12]), N11, rfl⟩
          · refine OwnEnd.of (S' := T11.setTop (mkF m 34 #[.val (.ref x0), .val (.int (2 : Int32)), .val (.int c2)] [(.int (57 : Int32)), (.int c2)])) (fun _ kK => XS.icmpNo X11.here hx rfl (hb hby d23_28) rfl (flt (hc12)).1 (XS.iloadN X11.here hx rfl (hb hby d23_31) rfl (XS.bipush X11.here hx rfl (hb hby d23_32) kK))) ?_
            rcases Decidable.em ((57 : Int32) < c2) with hc13 | hc13
            · refine OwnEnd.of (S' := T11.setTop (mkF m 38 #[.val (.ref x0), .val (.int (2 : Int32)), .val (.int c2)] [(.int (0 : Int32))])) (fun _ kK => XS.icmpNo X11.here hx rfl (hb hby d23_34) rfl (tlt (hc13)).2.2.2 (XS.iconst X11.here hx rfl (hb hby d23_37) kK)) ?_
              refine OwnEnd.ret X11 (v := (some (.int (nar .boolean (0 : Int32))))) (fun h => by rw [Bd.returns] at h; cases h) hlk (fun fs hr => retN X11 hx (t := .boolean) Bd.returns (by simp) (hb hby d23_38) hr) (by decide) (by decide) (Q := (own_Qint (own_isd [c0, c1, c2, c3])) h0 n0) eh11 ?_
              exact ⟨(by show some (Value.int (nar .boolean (0 : Int32))) = _; simp [own_isd, nar, hc4, hc5, hc8, hc9, hc12, hc13]), N11, rfl⟩
            · refine OwnEnd.of (S' := T11.setTop (mkF m 13 #[.val (.ref x0), .val (.int (3 : Int32)), .val (.int c2)] [(.ref x0), (.int (3 : Int32))])) (fun _ kK => XS.icmpYes X11.here hx rfl (pc0 := 34) (pc' := 39) rfl (hb hby d23_34) rfl (flt (hc13)).2.2.2 (by decide) (by decide) (XS.iinc X11.here hx rfl (hb hby d23_39) rfl (l' := #[.val (.ref x0), .val (.int (3 : Int32)), .val (.int c2)]) rfl (XS.goto X11.here hx rfl (pc0 := 42) (pc' := 11) rfl (hb hby d23_42) (by decide) (by decide) (XS.iloadN X11.here hx rfl (hb hby d23_11) rfl (XS.aloadN X11.here hx rfl (hb hby d23_12) rfl rfl kK))))) ?_
              obtain ⟨cq14, kq14, q14a, q14b, q14c⟩ := isOf hZ eh11 P0
              obtain ⟨_, _, ⟨T14, L14, k14, n14⟩, -, X14, ⟨Lc14, hQ14, l14, y14, z14⟩, st14⟩ := X11.virtualBack hx (y := own_m6) (z := own_m6) hown (mvT hZ (own_w G 50 rfl)) (mvT hZ (own_w G 51 rfl)) (notFace_of_selects (args := #[]) (mvT hZ (own_w G 53 rfl))) (mvT hZ (own_w G 53 rfl)) (mvT hZ (own_w G 52 rfl)) (by decide) (backOf (W := 1) (rmlnB l Z a0 G [] x0 t kb N vs (.int (0 : Int32)) cd [c0, c1, c2, c3]  h0 n0 O0 P0 P1 P2 P3 P4 P5 (by simp)) hZ (own_w G 54 rfl) (own_w G 3 rfl) (by decide) (by decide)) q14a q14c (g := (mkF m 13 #[.val (.ref x0), .val (.int (3 : Int32)), .val (.int c2)] [(.ref x0), (.int (3 : Int32))])) rfl (by rw [hml]; rfl) (Steps.refl _) (argsL := []) (rest := [(.int (3 : Int32))]) (lenOf pd_14 rfl) rfl (by show 2 * 0 + _ ≤ _; exact Nat.le_of_eq rfl) (hb hby d23_13) (fun _ _ => ⟨rfl, eh11, (by decide : 0 + 0 ≤ _), (by decide : 0 + 0 ≤ _)⟩)
              dsimp only [Pt.U, Pt.locs, Pt.cells, Pt.slots] at X14 l14 y14 z14 st14 hQ14
              subst l14 y14 z14
              obtain ⟨rfl, N14q, eh14⟩ := hQ14
              have N14 := Fr.app N11 N14q
              refine OwnEnd.tr (S' := T14.setTop (mkF m 16 #[.val (.ref x0), .val (.int (3 : Int32)), .val (.int c2)] [(.int (4 : Int32)), (.int (3 : Int32))])) st14 ?_
              refine OwnEnd.of (S' := T14.setTop (mkF m 21 #[.val (.ref x0), .val (.int (3 : Int32)), .val (.int c2)] [(.int (3 : Int32)), (.ref x0)])) (fun _ kK => XS.icmpNo X14.here hx rfl (hb hby d23_16) rfl (tlt ((by decide : (3 : Int32) < (4 : Int32)))).2.1 (XS.aloadN X14.here hx rfl (hb hby d23_19) rfl rfl (XS.iloadN X14.here hx rfl (hb hby d23_20) rfl kK))) ?_
              obtain ⟨cq15, kq15, q15a, q15b, q15c⟩ := isOf hZ eh14 P0
              obtain ⟨_, _, ⟨T15, L15, k15, n15⟩, -, X15, ⟨Lc15, hQ15, l15, y15, z15⟩, st15⟩ := X14.virtualBack hx (y := own_m13) (z := own_m13) hown (mvT hZ (own_w G 60 rfl)) (mvT hZ (own_w G 61 rfl)) (notFace_of_selects (args := #[]) (mvT hZ (own_w G 63 rfl))) (mvT hZ (own_w G 63 rfl)) (mvT hZ (own_w G 62 rfl)) (by decide) (backOf (W := 0) (rmcAB l Z a0 G [] x0 t kb N vs (.int (0 : Int32)) cd [c0, c1, c2, c3] (3 : Int32) 3 h0 n0 O0 P0 P1 P2 P3 P4 P5 (by simp) (by simp) rfl) hZ (own_w G 64 rfl) (own_w G 3 rfl) (by decide) (by decide)) q15a q15c (g := (mkF m 21 #[.val (.ref x0), .val (.int (3 : Int32)), .val (.int c2)] [(.int (3 : Int32)), (.ref x0)])) rfl (by rw [hml]; rfl) (Steps.refl _) (argsL := [(.int (3 : Int32))]) (rest := []) (lenOf pd_15 rfl) rfl (by show 2 * 0 + _ ≤ _; exact Nat.le_of_eq rfl) (hb hby d23_21) (fun _ _ => ⟨rfl, eh14, (by decide : 0 + 0 ≤ _), (by decide : 0 + 0 ≤ _)⟩)
              dsimp only [Pt.U, Pt.locs, Pt.cells, Pt.slots] at X15 l15 y15 z15 st15 hQ15
              subst l15 y15 z15
              obtain ⟨rfl, N15q, eh15⟩ := hQ15
              have N15 := Fr.app N14 N15q
              refine OwnEnd.tr (S' := T15.setTop (mkF m 24 #[.val (.ref x0), .val (.int (3 : Int32)), .val (.int c2)] [(.int c3)])) st15 ?_
              refine OwnEnd.of (S' := T15.setTop (mkF m 28 #[.val (.ref x0), .val (.int (3 : Int32)), .val (.int c3)] [(.int (48 : Int32)), (.int c3)])) (fun _ kK => XS.istoreN X15.here hx rfl (hb hby d23_24) rfl (l' := #[.val (.ref x0), .val (.int (3 : Int32)), .val (.int c3)]) rfl (XS.iloadN X15.here hx rfl (hb hby d23_25) rfl (XS.bipush X15.here hx rfl (hb hby d23_26) kK))) ?_
              rcases Decidable.em (c3 < (48 : Int32)) with hc16 | hc16
              · refine OwnEnd.of (S' := T15.setTop (mkF m 38 #[.val (.ref x0), .val (.int (3 : Int32)), .val (.int c3)] [(.int (0 : Int32))])) (fun _ kK => XS.icmpYes X15.here hx rfl (pc0 := 28) (pc' := 37) rfl (hb hby d23_28) rfl (tlt (hc16)).1 (by decide) (by decide) (XS.iconst X15.here hx rfl (hb hby d23_37) kK)) ?_
                refine OwnEnd.ret X15 (v := (some (.int (nar .boolean (0 : Int32))))) (fun h => by rw [Bd.returns] at h; cases h) hlk (fun fs hr => retN X15 hx (t := .boolean) Bd.returns (by simp) (hb hby d23_38) hr) (by decide) (by decide) (Q := (own_Qint (own_isd [c0, c1, c2, c3])) h0 n0) eh15 ?_
                exact ⟨(by show some (Value.int (nar .boolean (0 : Int32))) = _; simp [own_isd, nar, hc4, hc5, hc8, hc9, hc12, hc13, hc16]), N15, rfl⟩
              · refine OwnEnd.of (S' := T15.setTop (mkF m 34 #[.val (.ref x0), .val (.int (3 : Int32)), .val (.int c3)] [(.int (57 : Int32)), (.int c3)])) (fun _ kK => XS.icmpNo X15.here hx rfl (hb hby d23_28) rfl (flt (hc16)).1 (XS.iloadN X15.here hx rfl (hb hby d23_31) rfl (XS.bipush X15.here hx rfl (hb hby d23_32) kK))) ?_
                rcases Decidable.em ((57 : Int32) < c3) with hc17 | hc17
                · refine OwnEnd.of (S' := T15.setTop (mkF m 38 #[.val (.ref x0), .val (.int (3 : Int32)), .val (.int c3)] [(.int (0 : Int32))])) (fun _ kK => XS.icmpNo X15.here hx rfl (hb hby d23_34) rfl (tlt (hc17)).2.2.2 (XS.iconst X15.here hx rfl (hb hby d23_37) kK)) ?_
                  refine OwnEnd.ret X15 (v := (some (.int (nar .boolean (0 : Int32))))) (fun h => by rw [Bd.returns] at h; cases h) hlk (fun fs hr => retN X15 hx (t := .boolean) Bd.returns (by simp) (hb hby d23_38) hr) (by decide) (by decide) (Q := (own_Qint (own_isd [c0, c1, c2, c3])) h0 n0) eh15 ?_
                  exact ⟨(by show some (Value.int (nar .boolean (0 : Int32))) = _; simp [own_isd, nar, hc4, hc5, hc8, hc9, hc12, hc13, hc16, hc17]), N15, rfl⟩
                · refine OwnEnd.of (S' := T15.setTop (mkF m 13 #[.val (.ref x0), .val (.int (4 : Int32)), .val (.int c3)] [(.ref x0), (.int (4 : Int32))])) (fun _ kK => XS.icmpYes X15.here hx rfl (pc0 := 34) (pc' := 39) rfl (hb hby d23_34) rfl (flt (hc17)).2.2.2 (by decide) (by decide) (XS.iinc X15.here hx rfl (hb hby d23_39) rfl (l' := #[.val (.ref x0), .val (.int (4 : Int32)), .val (.int c3)]) rfl (XS.goto X15.here hx rfl (pc0 := 42) (pc' := 11) rfl (hb hby d23_42) (by decide) (by decide) (XS.iloadN X15.here hx rfl (hb hby d23_11) rfl (XS.aloadN X15.here hx rfl (hb hby d23_12) rfl rfl kK))))) ?_
                  obtain ⟨cq18, kq18, q18a, q18b, q18c⟩ := isOf hZ eh15 P0
                  obtain ⟨_, _, ⟨T18, L18, k18, n18⟩, -, X18, ⟨Lc18, hQ18, l18, y18, z18⟩, st18⟩ := X15.virtualBack hx (y := own_m6) (z := own_m6) hown (mvT hZ (own_w G 50 rfl)) (mvT hZ (own_w G 51 rfl)) (notFace_of_selects (args := #[]) (mvT hZ (own_w G 53 rfl))) (mvT hZ (own_w G 53 rfl)) (mvT hZ (own_w G 52 rfl)) (by decide) (backOf (W := 1) (rmlnB l Z a0 G [] x0 t kb N vs (.int (0 : Int32)) cd [c0, c1, c2, c3]  h0 n0 O0 P0 P1 P2 P3 P4 P5 (by simp)) hZ (own_w G 54 rfl) (own_w G 3 rfl) (by decide) (by decide)) q18a q18c (g := (mkF m 13 #[.val (.ref x0), .val (.int (4 : Int32)), .val (.int c3)] [(.ref x0), (.int (4 : Int32))])) rfl (by rw [hml]; rfl) (Steps.refl _) (argsL := []) (rest := [(.int (4 : Int32))]) (lenOf pd_14 rfl) rfl (by show 2 * 0 + _ ≤ _; exact Nat.le_of_eq rfl) (hb hby d23_13) (fun _ _ => ⟨rfl, eh15, (by decide : 0 + 0 ≤ _), (by decide : 0 + 0 ≤ _)⟩)
                  dsimp only [Pt.U, Pt.locs, Pt.cells, Pt.slots] at X18 l18 y18 z18 st18 hQ18
                  subst l18 y18 z18
                  obtain ⟨rfl, N18q, eh18⟩ := hQ18
                  have N18 := Fr.app N15 N18q
                  refine OwnEnd.tr (S' := T18.setTop (mkF m 16 #[.val (.ref x0), .val (.int (4 : Int32)), .val (.int c3)] [(.int (4 : Int32)), (.int (4 : Int32))])) st18 ?_
                  refine OwnEnd.of (S' := T18.setTop (mkF m 46 #[.val (.ref x0), .val (.int (4 : Int32)), .val (.int c3)] [(.int (1 : Int32))])) (fun _ kK => XS.icmpYes X18.here hx rfl (pc0 := 16) (pc' := 45) rfl (hb hby d23_16) rfl (flt ((by decide : ¬ ((4 : Int32) < (4 : Int32))))).2.1 (by decide) (by decide) (XS.iconst X18.here hx rfl (hb hby d23_45) kK)) ?_
                  refine OwnEnd.ret X18 (v := (some (.int (nar .boolean (1 : Int32))))) (fun h => by rw [Bd.returns] at h; cases h) hlk (fun fs hr => retN X18 hx (t := .boolean) Bd.returns (by simp) (hb hby d23_46) hr) (by decide) (by decide) (Q := (own_Qint (own_isd [c0, c1, c2, c3])) h0 n0) eh18 ?_
                  exact ⟨(by show some (Value.int (nar .boolean (1 : Int32))) = _; simp [own_isd, nar, hc4, hc5, hc8, hc9, hc12, hc13, hc16, hc17]), N18, rfl⟩

theorem own_eflaw (m : MethodId) (p0 : Int32) (p1 : Int32) (p2 : Int32) (p3 : Int32) (p4 : Int32) : entryFrame m #[(.int p0), (.int p1), (.int p2), (.int p3), (.int p4)] maxLocals = mkF m 0 #[.val (.int p0), .val (.int p1), .val (.int p2), .val (.int p3), .val (.int p4), .unset, .unset, .unset, .unset, .unset, .unset, .unset] [] := by first | (simp [entryFrame, mkF, argsToLocals, Value.category, maxLocals]; done) | rfl
def Qlaw (Z : State) (p0 : Int32) (p1 : Int32) (p2 : Int32) (p3 : Int32) (p4 : Int32) (h0 : Heap) (n0 : Nat) (v : Option Value) (h : Heap) (L : List Loc) : Prop := v = some (.int (1 : Int32)) ∧ Fr n0 L ∧ Keep h0 h []
set_option maxRecDepth 65536 in
set_option maxHeartbeats 40000000 in
theorem rmlaw (l : Launch) (Z : State) (a0 : Array Value) (G : OwnG Z a0) (ws : List Jvm.Cond) (p0 : Int32) (p1 : Int32) (p2 : Int32) (p3 : Int32) (p4 : Int32) (h0 : Heap) (n0 : Nat) (O0 : Old Z n0 h0)  :
    MetFree l x (head1 (Jvm.Cond.code x code maxLocals ret :: ws) room_1) (fun a U => a = #[(.int p0), (.int p1), (.int p2), (.int p3), (.int p4)] ∧ Z.Warmed39 U.vm ∧ U.heap = h0 ∧ CHv Z consts_1 U.vm h0) (fun _ _ _ _ _ => True) (fun _ U o U' => ∃ v L, o = .returned v ∧ Qlaw Z p0 p1 p2 p3 p4 h0 n0 v U'.heap L ∧ ReturnedEndW U o U' L room_1.cells room_1.slots) := by
  refine MetFree.of_bodySF (plainFor_of_name pn_4) hisR ?_
  intro p e s m args below meth cD s₁ Bd hml0 hP hK
  obtain ⟨rfl, hZ, hh, hCH⟩ := hP
  have hw := G.1
  have hx := Bd.exec
  have hby := Bd.bytes
  have hml : cD.maxLocals = 12 := hml0
  have hown : s.vm.findClass "com/example/sabar/sabar/AsciiIsDigitsPinLaw" = some m.cls := findClass_of_methodNamed Bd.named
  have hnm := (name_of_methodNamed Bd.named Bd.method).1
  have hlk := Bd.notSynchronized
  have X0 : Stand p l e room_1 s m #[(.int p0), (.int p1), (.int p2), (.int p3), (.int p4)] below meth cD s₁ [] 0 0 := Stand.of_body Bd
  have e0 : s₁.heap = h0 := by rw [← hh, Bd.state]; rfl
  have K0 : Keep h0 h0 [] := Keep.refl h0 _
  have Z0 := own_old_le O0
  have N0 := Fr.nil n0
  have X0w : Stand p l e room_1 (s.setVm s.vm) m #[(.int p0), (.int p1), (.int p2), (.int p3), (.int p4)] below meth cD s₁ [] 0 0 := X0
  have Si0 : s.Since s.vm (Array.size h0) := (State.WarmedH.refl s).since _
  obtain ⟨zCS, SCS, PCS⟩ := own_cs G
  refine OwnEnd.start (g' := (mkF m 0 #[.val (.int p0), .val (.int p1), .val (.int p2), .val (.int p3), .val (.int p4), .unset, .unset, .unset, .unset, .unset, .unset, .unset] [])) (own_eflaw m p0 p1 p2 p3 p4) ?_
  refine OwnEnd.of (S' := s₁.setTop (mkF m 1 #[.val (.int p0), .val (.int p1), .val (.int p2), .val (.int p3), .val (.int p4), .unset, .unset, .unset, .unset, .unset, .unset, .unset] [(.int p0)])) (fun _ kK => XS.iloadN X0w.here hx rfl (hb hby at_0) rfl kK) ?_
  refine OwnEnd.of (S' := s₁.setTop (mkF m 3 #[.val (.int p0), .val (.int p1), .val (.int p2), .val (.int p3), .val (.int p4), .unset, .unset, .unset, .unset, .unset, .unset, .unset] [(.int (2147483647 : Int32)), (.int p0)])) (fun _ kK => X0w.ldcInt hx hown (mvT hZ (own_w G 0 rfl)) (g := (mkF m 1 #[.val (.int p0), .val (.int p1), .val (.int p2), .val (.int p3), .val (.int p4), .unset, .unset, .unset, .unset, .unset, .unset, .unset] [(.int p0)])) rfl (hb hby at_1) _ kK) ?_
  refine OwnEnd.of (S' := s₁.setTop (mkF m 6 #[.val (.int p0), .val (.int p1), .val (.int p2), .val (.int p3), .val (.int p4), .unset, .unset, .unset, .unset, .unset, .unset, .unset] [(.int ((p0 &&& (2147483647 : Int32)) % (5 : Int32)))])) (fun _ kK => XS.iand X0w.here hx rfl (hb hby at_3) rfl (XS.iconst X0w.here hx rfl (hb hby at_4) (iremM X0w hx rfl (hb hby at_5) rfl (by decide) kK))) ?_
  rcases own_rem5 p0 with hr | hr | hr | hr | hr
  · rw [hr]
    refine OwnEnd.of (S' := s₁.setTop (mkF m 20 #[.val (.int p0), .val (.int p1), .val (.int p2), .val (.int p3), .val (.int p4), .val (.int (0 : Int32)), .val (.int (nar .char p1)), .val (.int (nar .char p2)), .val (.int (nar .char p3)), .unset, .unset, .unset] [])) (fun _ kK => XS.istore X0w.here hx rfl (hb hby at_6) rfl (l' := #[.val (.int p0), .val (.int p1), .val (.int p2), .val (.int p3), .val (.int p4), .val (.int (0 : Int32)), .unset, .unset, .unset, .unset, .unset, .unset]) rfl (XS.iloadN X0w.here hx rfl (hb hby at_8) rfl (XS.i2c X0w.here hx rfl (hb hby at_9) rfl (XS.istore X0w.here hx rfl (hb hby at_10) rfl (l' := #[.val (.int p0), .val (.int p1), .val (.int p2), .val (.int p3), .val (.int p4), .val (.int (0 : Int32)), .val (.int (nar .char p1)), .unset, .unset, .unset, .unset, .unset]) rfl (XS.iloadN X0w.here hx rfl (hb hby at_12) rfl (XS.i2c X0w.here hx rfl (hb hby at_13) rfl (XS.istore X0w.here hx rfl (hb hby at_14) rfl (l' := #[.val (.int p0), .val (.int p1), .val (.int p2), .val (.int p3), .val (.int p4), .val (.int (0 : Int32)), .val (.int (nar .char p1)), .val (.int (nar .char p2)), .unset, .unset, .unset, .unset]) rfl (XS.iloadN X0w.here hx rfl (hb hby at_16) rfl (XS.i2c X0w.here hx rfl (hb hby at_17) rfl (XS.istore X0w.here hx rfl (hb hby at_18) rfl (l' := #[.val (.int p0), .val (.int p1), .val (.int p2), .val (.int p3), .val (.int p4), .val (.int (0 : Int32)), .val (.int (nar .char p1)), .val (.int (nar .char p2)), .val (.int (nar .char p3)), .unset, .unset, .unset]) rfl kK)))))))))) ?_
    refine OwnEnd.of (S' := s₁.setTop (mkF m 25 #[.val (.int p0), .val (.int p1), .val (.int p2), .val (.int p3), .val (.int p4), .val (.int (0 : Int32)), .val (.int (nar .char p1)), .val (.int (nar .char p2)), .val (.int (nar .char p3)), .val (.int (nar .char p4)), .unset, .unset] [])) (fun _ kK => XS.iload X0w.here hx rfl (hb hby at_20) rfl (XS.i2c X0w.here hx rfl (hb hby at_22) rfl (XS.istore X0w.here hx rfl (hb hby at_23) rfl (l' := #[.val (.int p0), .val (.int p1), .val (.int p2), .val (.int p3), .val (.int p4), .val (.int (0 : Int32)), .val (.int (nar .char p1)), .val (.int (nar .char p2)), .val (.int (nar .char p3)), .val (.int (nar .char p4)), .unset, .unset]) rfl kK))) ?_
    obtain ⟨T1, h1, X1, e1, E1, A1, D1, -, st1⟩ := newO X0w hx hZ hown (own_w G 1 rfl) (own_w G 2 rfl) (own_w G 3 rfl) e0 (g := (mkF m 25 #[.val (.int p0), .val (.int p1), .val (.int p2), .val (.int p3), .val (.int p4), .val (.int (0 : Int32)), .val (.int (nar .char p1)), .val (.int (nar .char p2)), .val (.int (nar .char p3)), .val (.int (nar .char p4)), .unset, .unset] [])) rfl (hb hby at_25) (by decide) (by decide)
    obtain ⟨b1, g1⟩ : ∃ z, z = Array.size h0 := ⟨_, rfl⟩
    rw [← g1] at A1 D1 st1
    have lt_b1 := own_ltN' A1.lt
    have sz2 := E1.1
    have K2 := K0.ext E1
    have O2 := O0.ext E1
    have R2 := CHr.ext E1 hCH
    have CH2 := R2.1
    have Sf1 : Safe Z consts_1 s.vm h1 b1 := Safe.ext E1 hCH (Safe.new (by omega))
    have F1_value : Fld Z h1 b1 "java/lang/String" "value" "[B" .null := D1 (Or.inr (own_w G 21 rfl)) (ty := (.array .byte)) (by decide)
    have F1_coder : Fld Z h1 b1 "java/lang/String" "coder" "B" (.int (0 : Int32)) := D1 (Or.inr (own_w G 22 rfl)) (ty := .byte) (by decide)
    refine OwnEnd.of (S' := T1.setTop (mkF m 28 #[.val (.int p0), .val (.int p1), .val (.int p2), .val (.int p3), .val (.int p4), .val (.int (0 : Int32)), .val (.int (nar .char p1)), .val (.int (nar .char p2)), .val (.int (nar .char p3)), .val (.int (nar .char p4)), .unset, .unset] [(.ref b1)])) st1 ?_
    refine OwnEnd.of (S' := T1.setTop (mkF m 39 #[.val (.int p0), .val (.int p1), .val (.int p2), .val (.int p3), .val (.int p4), .val (.int (0 : Int32)), .val (.int (nar .char p1)), .val (.int (nar .char p2)), .val (.int (nar .char p3)), .val (.int (nar .char p4)), .unset, .unset] [(.int (nar .char p4)), (.int (nar .char p3)), (.int (nar .char p2)), (.int (nar .char p1)), (.int (0 : Int32)), (.ref b1), (.ref b1)])) (fun _ kK => XS.dup X1.here hx rfl (hb hby at_28) rfl rfl (XS.iload X1.here hx rfl (hb hby at_29) rfl (XS.iload X1.here hx rfl (hb hby at_31) rfl (XS.iload X1.here hx rfl (hb hby at_33) rfl (XS.iload X1.here hx rfl (hb hby at_35) rfl (XS.iload X1.here hx rfl (hb hby at_37) rfl kK)))))) ?_
    obtain ⟨_, _, ⟨T3, L3, k3, n3⟩, -, X3, ⟨Lc3, hQ3, l3, y3, z3⟩, st3⟩ := Jvm.LawKit.callS X1 hx (y := own_m22) hown (mvT hZ (own_w G 4 rfl)) (mvT hZ (own_w G 5 rfl)) (mvT hZ (own_w G 6 rfl)) (mvT hZ (own_w G 7 rfl)) (by decide) (backOf (W := 2) (rmbd0 l Z a0 G [] (nar .char p1) (nar .char p2) (nar .char p3) (nar .char p4) h1 n0 O2 ) hZ (own_w G 7 rfl) (own_w G 6 rfl) (by decide) (by decide)) (g := (mkF m 39 #[.val (.int p0), .val (.int p1), .val (.int p2), .val (.int p3), .val (.int p4), .val (.int (0 : Int32)), .val (.int (nar .char p1)), .val (.int (nar .char p2)), .val (.int (nar .char p3)), .val (.int (nar .char p4)), .unset, .unset] [(.int (nar .char p4)), (.int (nar .char p3)), (.int (nar .char p2)), (.int (nar .char p1)), (.int (0 : Int32)), (.ref b1), (.ref b1)])) rfl (by rw [hml]; rfl) (argsL := [(.int (0 : Int32)), (.int (nar .char p1)), (.int (nar .char p2)), (.int (nar .char p3)), (.int (nar .char p4))]) (rest := [(.ref b1), (.ref b1)]) (lenOf pd_16 rfl) rfl (by show 2 * 0 + _ ≤ _; exact Nat.le_of_eq rfl) (hb hby at_39) (fun _ _ => ⟨rfl, e1, (by decide : 1 + 1 ≤ _), (by decide : 4 + 0 ≤ _)⟩)
    dsimp only [Pt.U, Pt.locs, Pt.cells, Pt.slots] at X3 l3 y3 z3 st3 hQ3
    subst l3 y3 z3
    obtain ⟨b_3, kC_3, rfl, N3q, Kq3, r3_0, r3_1⟩ := hQ3
    have N3 := Fr.app N0 N3q
    have sz4 := Kq3.1
    have K4 := K2.trans Kq3 (own_all0 )
    have O4 := O2.keep Kq3 (own_all0 )
    have R4 := CHr.keep Kq3 (sf0) CH2
    have CH4 := R4.1
    have ltr3_0 := own_ltN' r3_0.lt
    refine OwnEnd.of (S' := T3.setTop (mkF m 42 #[.val (.int p0), .val (.int p1), .val (.int p2), .val (.int p3), .val (.int p4), .val (.int (0 : Int32)), .val (.int (nar .char p1)), .val (.int (nar .char p2)), .val (.int (nar .char p3)), .val (.int (nar .char p4)), .unset, .unset] [(.ref b_3), (.ref b1), (.ref b1)])) st3 ?_
    have f5 : Exa Z T3.heap b1 "java/lang/String" := (A1.keep Kq3)
    have f6 : Fld Z T3.heap b1 "java/lang/String" "value" "[B" .null := (F1_value.keep Kq3 nin0)
    have f7 : Fld Z T3.heap b1 "java/lang/String" "coder" "B" (.int (0 : Int32)) := (F1_coder.keep Kq3 nin0)
    obtain ⟨_, _, ⟨T8, L8, k8, n8⟩, -, X8', Si8, gr8, ⟨Lc8, hQ8, l8, y8, z8, CH8⟩, st8⟩ := Jvm.Stand.specialBackS X3 hx (y := own_m1) rfl hown (mvT hZ (own_w G 9 rfl)) (mvT hZ (own_w G 10 rfl)) (mvT hZ (own_w G 11 rfl)) (by decide) (backOfSH (W := 1) (rmn1e l Z a0 G [] b1 b_3 (.int (0 : Int32)) kC_3 [] (.int (0 : Int32)) T3.heap n0 O4 f5 f6 f7 r3_0 (by omega)) hZ (own_w G 11 rfl) (own_w G 3 rfl) (by decide) (by decide) (own_EW G) CH4) (g := (mkF m 42 #[.val (.int p0), .val (.int p1), .val (.int p2), .val (.int p3), .val (.int p4), .val (.int (0 : Int32)), .val (.int (nar .char p1)), .val (.int (nar .char p2)), .val (.int (nar .char p3)), .val (.int (nar .char p4)), .unset, .unset] [(.ref b_3), (.ref b1), (.ref b1)])) rfl (by rw [hml]; rfl) (Steps.refl _) (a := b1) (argsL := [(.ref b_3)]) (rest := [(.ref b1)]) (lenOf pd_17 rfl) rfl (by show 2 * 0 + _ ≤ _; exact Nat.le_of_eq rfl) (hb hby at_42) (fun _ _ => ⟨rfl, rfl, (by decide : 2 + 2 ≤ _), (by decide : 4 + 4 ≤ _)⟩)
    dsimp only [Pt.U, Pt.locs, Pt.cells, Pt.slots] at X8' l8 y8 z8 st8 hQ8 CH8 Si8 gr8
    subst l8 y8 z8
    obtain ⟨X8, Sj8, hZ8, hown8⟩ := rebS Si0 (by omega : _ ≤ Array.size T3.heap) X8' Si8 (by omega) hZ hown
    obtain ⟨t_8, kb_8, rfl, N8q, Kq8, r8_0, r8_1, r8_2, r8_3⟩ := hQ8
    have N8 := Fr.app N3 N8q
    have sz9 := Kq8.1
    have K9 := K4.trans Kq8 (own_all1 (Or.inr (by omega)))
    have O9 := O4.keep Kq8 (own_all1 (by omega))
    have ltr8_0 := own_ltN' r8_0.lt
    have ltr8_1 := own_ltN' r8_1.lt
    have ltr8_2 := own_ltN' r8_2.lt
    have ltr8_3 := own_ltN' r8_3.lt
    refine OwnEnd.tr (S' := T8.setTop (mkF m 45 #[.val (.int p0), .val (.int p1), .val (.int p2), .val (.int p3), .val (.int p4), .val (.int (0 : Int32)), .val (.int (nar .char p1)), .val (.int (nar .char p2)), .val (.int (nar .char p3)), .val (.int (nar .char p4)), .unset, .unset] [(.ref b1)])) st8 ?_
    refine OwnEnd.of (S' := T8.setTop (mkF m 112 #[.val (.int p0), .val (.int p1), .val (.int p2), .val (.int p3), .val (.int p4), .val (.int (0 : Int32)), .val (.int (nar .char p1)), .val (.int (nar .char p2)), .val (.int (nar .char p3)), .val (.int (nar .char p4)), .val (.ref b1), .val (.int (0 : Int32))] [(.ref b1)])) (fun _ kK => XS.astore X8.here hx rfl (hb hby at_45) rfl rfl (l' := #[.val (.int p0), .val (.int p1), .val (.int p2), .val (.int p3), .val (.int p4), .val (.int (0 : Int32)), .val (.int (nar .char p1)), .val (.int (nar .char p2)), .val (.int (nar .char p3)), .val (.int (nar .char p4)), .val (.ref b1), .unset]) rfl (XS.iload X8.here hx rfl (hb hby at_47) rfl (XS.iconst X8.here hx rfl (hb hby at_49) (XS.icmpYes X8.here hx rfl (pc0 := 50) (pc' := 107) rfl (hb hby at_50) rfl (tlt ((by decide : (0 : Int32) < (1 : Int32)))).1 (by decide) (by decide) (XS.iconst X8.here hx rfl (hb hby at_107) (XS.istore X8.here hx rfl (hb hby at_108) rfl (l' := #[.val (.int p0), .val (.int p1), .val (.int p2), .val (.int p3), .val (.int p4), .val (.int (0 : Int32)), .val (.int (nar .char p1)), .val (.int (nar .char p2)), .val (.int (nar .char p3)), .val (.int (nar .char p4)), .val (.ref b1), .val (.int (0 : Int32))]) rfl (XS.aload X8.here hx rfl (hb hby at_110) rfl rfl kK))))))) ?_
    obtain ⟨_, _, ⟨T10, L10, k10, n10⟩, -, X10, ⟨Lc10, hQ10, l10, y10, z10⟩, st10⟩ := Jvm.LawKit.callS X8 hx (y := own_m23) hown8 (mvT hZ8 (own_w G 27 rfl)) (mvT hZ8 (own_w G 28 rfl)) (mvT hZ8 (own_w G 29 rfl)) (mvT hZ8 (own_w G 30 rfl)) (by decide) (backOf (W := 0) (rmis0 l Z a0 G [] b1 t_8 kb_8 T8.heap n0 O9 r8_0 r8_1 r8_3) hZ8 (own_w G 30 rfl) (own_w G 29 rfl) (by decide) (by decide)) (g := (mkF m 112 #[.val (.int p0), .val (.int p1), .val (.int p2), .val (.int p3), .val (.int p4), .val (.int (0 : Int32)), .val (.int (nar .char p1)), .val (.int (nar .char p2)), .val (.int (nar .char p3)), .val (.int (nar .char p4)), .val (.ref b1), .val (.int (0 : Int32))] [(.ref b1)])) rfl (by rw [hml]; rfl) (argsL := [(.ref b1)]) (rest := []) (lenOf pd_18 rfl) rfl (by show 2 * 0 + _ ≤ _; exact Nat.le_of_eq rfl) (hb hby at_112) (fun _ _ => ⟨rfl, rfl, (by decide : 4 + 0 ≤ _), (by decide : 8 + 0 ≤ _)⟩)
    dsimp only [Pt.U, Pt.locs, Pt.cells, Pt.slots] at X10 l10 y10 z10 st10 hQ10
    subst l10 y10 z10
    obtain ⟨rfl, N10q, eh10⟩ := hQ10
    have N10 := Fr.app N8 N10q
    refine OwnEnd.of (S' := T10.setTop (mkF m 115 #[.val (.int p0), .val (.int p1), .val (.int p2), .val (.int p3), .val (.int p4), .val (.int (0 : Int32)), .val (.int (nar .char p1)), .val (.int (nar .char p2)), .val (.int (nar .char p3)), .val (.int (nar .char p4)), .val (.ref b1), .val (.int (0 : Int32))] [(.int (0 : Int32))])) st10 ?_
    refine OwnEnd.of (S' := T10.setTop (mkF m 125 #[.val (.int p0), .val (.int p1), .val (.int p2), .val (.int p3), .val (.int p4), .val (.int (0 : Int32)), .val (.int (nar .char p1)), .val (.int (nar .char p2)), .val (.int (nar .char p3)), .val (.int (nar .char p4)), .val (.ref b1), .val (.int (0 : Int32))] [(.int (1 : Int32))])) (fun _ kK => XS.iload X10.here hx rfl (hb hby at_115) rfl (XS.icmpNo X10.here hx rfl (hb hby at_117) rfl (teq ((by decide : (0 : Int32) = (0 : Int32)))).2 (XS.iconst X10.here hx rfl (hb hby at_120) (XS.goto X10.here hx rfl (pc0 := 121) (pc' := 125) rfl (hb hby at_121) (by decide) (by decide) kK)))) ?_
    refine OwnEnd.retW X10 Sj8 (by omega) (v := (some (.int (nar .boolean (1 : Int32))))) (fun h => by rw [Bd.returns] at h; cases h) hlk (fun fs hr => retN X10 hx (t := .boolean) Bd.returns (by simp) (hb hby at_125) hr) (by decide) (by decide) (Q := Qlaw Z p0 p1 p2 p3 p4 h0 n0) eh10 ?_
    exact ⟨rfl, N10, K9⟩
  · rw [hr]
    have hrng : ∀ c ∈ ([(nar .char p1)] : List Int32), ¬ c < (0 : Int32) ∧ ¬ (65535 : Int32) < c := own_rng1 p1
    refine OwnEnd.of (S' := s₁.setTop (mkF m 20 #[.val (.int p0), .val (.int p1), .val (.int p2), .val (.int p3), .val (.int p4), .val (.int (1 : Int32)), .val (.int (nar .char p1)), .val (.int (nar .char p2)), .val (.int (nar .char p3)), .unset, .unset, .unset] [])) (fun _ kK => XS.istore X0w.here hx rfl (hb hby at_6) rfl (l' := #[.val (.int p0), .val (.int p1), .val (.int p2), .val (.int p3), .val (.int p4), .val (.int (1 : Int32)), .unset, .unset, .unset, .unset, .unset, .unset]) rfl (XS.iloadN X0w.here hx rfl (hb hby at_8) rfl (XS.i2c X0w.here hx rfl (hb hby at_9) rfl (XS.istore X0w.here hx rfl (hb hby at_10) rfl (l' := #[.val (.int p0), .val (.int p1), .val (.int p2), .val (.int p3), .val (.int p4), .val (.int (1 : Int32)), .val (.int (nar .char p1)), .unset, .unset, .unset, .unset, .unset]) rfl (XS.iloadN X0w.here hx rfl (hb hby at_12) rfl (XS.i2c X0w.here hx rfl (hb hby at_13) rfl (XS.istore X0w.here hx rfl (hb hby at_14) rfl (l' := #[.val (.int p0), .val (.int p1), .val (.int p2), .val (.int p3), .val (.int p4), .val (.int (1 : Int32)), .val (.int (nar .char p1)), .val (.int (nar .char p2)), .unset, .unset, .unset, .unset]) rfl (XS.iloadN X0w.here hx rfl (hb hby at_16) rfl (XS.i2c X0w.here hx rfl (hb hby at_17) rfl (XS.istore X0w.here hx rfl (hb hby at_18) rfl (l' := #[.val (.int p0), .val (.int p1), .val (.int p2), .val (.int p3), .val (.int p4), .val (.int (1 : Int32)), .val (.int (nar .char p1)), .val (.int (nar .char p2)), .val (.int (nar .char p3)), .unset, .unset, .unset]) rfl kK)))))))))) ?_
    refine OwnEnd.of (S' := s₁.setTop (mkF m 25 #[.val (.int p0), .val (.int p1), .val (.int p2), .val (.int p3), .val (.int p4), .val (.int (1 : Int32)), .val (.int (nar .char p1)), .val (.int (nar .char p2)), .val (.int (nar .char p3)), .val (.int (nar .char p4)), .unset, .unset] [])) (fun _ kK => XS.iload X0w.here hx rfl (hb hby at_20) rfl (XS.i2c X0w.here hx rfl (hb hby at_22) rfl (XS.istore X0w.here hx rfl (hb hby at_23) rfl (l' := #[.val (.int p0), .val (.int p1), .val (.int p2), .val (.int p3), .val (.int p4), .val (.int (1 : Int32)), .val (.int (nar .char p1)), .val (.int (nar .char p2)), .val (.int (nar .char p3)), .val (.int (nar .char p4)), .unset, .unset]) rfl kK))) ?_
    obtain ⟨T11, h11, X11, e11, E11, A11, D11, -, st11⟩ := newO X0w hx hZ hown (own_w G 1 rfl) (own_w G 2 rfl) (own_w G 3 rfl) e0 (g := (mkF m 25 #[.val (.int p0), .val (.int p1), .val (.int p2), .val (.int p3), .val (.int p4), .val (.int (1 : Int32)), .val (.int (nar .char p1)), .val (.int (nar .char p2)), .val (.int (nar .char p3)), .val (.int (nar .char p4)), .unset, .unset] [])) rfl (hb hby at_25) (by decide) (by decide)
    obtain ⟨b11, g11⟩ : ∃ z, z = Array.size h0 := ⟨_, rfl⟩
    rw [← g11] at A11 D11 st11
    have lt_b11 := own_ltN' A11.lt
    have sz12 := E11.1
    have K12 := K0.ext E11
    have O12 := O0.ext E11
    have R12 := CHr.ext E11 hCH
    have CH12 := R12.1
    have Sf11 : Safe Z consts_1 s.vm h11 b11 := Safe.ext E11 hCH (Safe.new (by omega))
    have F11_value : Fld Z h11 b11 "java/lang/String" "value" "[B" .null := D11 (Or.inr (own_w G 21 rfl)) (ty := (.array .byte)) (by decide)
    have F11_coder : Fld Z h11 b11 "java/lang/String" "coder" "B" (.int (0 : Int32)) := D11 (Or.inr (own_w G 22 rfl)) (ty := .byte) (by decide)
    refine OwnEnd.of (S' := T11.setTop (mkF m 28 #[.val (.int p0), .val (.int p1), .val (.int p2), .val (.int p3), .val (.int p4), .val (.int (1 : Int32)), .val (.int (nar .char p1)), .val (.int (nar .char p2)), .val (.int (nar .char p3)), .val (.int (nar .char p4)), .unset, .unset] [(.ref b11)])) st11 ?_
    refine OwnEnd.of (S' := T11.setTop (mkF m 39 #[.val (.int p0), .val (.int p1), .val (.int p2), .val (.int p3), .val (.int p4), .val (.int (1 : Int32)), .val (.int (nar .char p1)), .val (.int (nar .char p2)), .val (.int (nar .char p3)), .val (.int (nar .char p4)), .unset, .unset] [(.int (nar .char p4)), (.int (nar .char p3)), (.int (nar .char p2)), (.int (nar .char p1)), (.int (1 : Int32)), (.ref b11), (.ref b11)])) (fun _ kK => XS.dup X11.here hx rfl (hb hby at_28) rfl rfl (XS.iload X11.here hx rfl (hb hby at_29) rfl (XS.iload X11.here hx rfl (hb hby at_31) rfl (XS.iload X11.here hx rfl (hb hby at_33) rfl (XS.iload X11.here hx rfl (hb hby at_35) rfl (XS.iload X11.here hx rfl (hb hby at_37) rfl kK)))))) ?_
    obtain ⟨_, _, ⟨T13, L13, k13, n13⟩, -, X13, ⟨Lc13, hQ13, l13, y13, z13⟩, st13⟩ := Jvm.LawKit.callS X11 hx (y := own_m22) hown (mvT hZ (own_w G 4 rfl)) (mvT hZ (own_w G 5 rfl)) (mvT hZ (own_w G 6 rfl)) (mvT hZ (own_w G 7 rfl)) (by decide) (backOf (W := 2) (rmbd1 l Z a0 G [] (nar .char p1) (nar .char p2) (nar .char p3) (nar .char p4) h11 n0 O12 (own_nar_cc _ : nar .char (nar .char p1) = (nar .char p1))) hZ (own_w G 7 rfl) (own_w G 6 rfl) (by decide) (by decide)) (g := (mkF m 39 #[.val (.int p0), .val (.int p1), .val (.int p2), .val (.int p3), .val (.int p4), .val (.int (1 : Int32)), .val (.int (nar .char p1)), .val (.int (nar .char p2)), .val (.int (nar .char p3)), .val (.int (nar .char p4)), .unset, .unset] [(.int (nar .char p4)), (.int (nar .char p3)), (.int (nar .char p2)), (.int (nar .char p1)), (.int (1 : Int32)), (.ref b11), (.ref b11)])) rfl (by rw [hml]; rfl) (argsL := [(.int (1 : Int32)), (.int (nar .char p1)), (.int (nar .char p2)), (.int (nar .char p3)), (.int (nar .char p4))]) (rest := [(.ref b11), (.ref b11)]) (lenOf pd_16 rfl) rfl (by show 2 * 0 + _ ≤ _; exact Nat.le_of_eq rfl) (hb hby at_39) (fun _ _ => ⟨rfl, e11, (by decide : 1 + 1 ≤ _), (by decide : 4 + 1 ≤ _)⟩)
    dsimp only [Pt.U, Pt.locs, Pt.cells, Pt.slots] at X13 l13 y13 z13 st13 hQ13
    subst l13 y13 z13
    obtain ⟨b_13, kC_13, rfl, N13q, Kq13, r13_0, r13_1⟩ := hQ13
    have N13 := Fr.app N0 N13q
    have sz14 := Kq13.1
    have K14 := K12.trans Kq13 (own_all0 )
    have O14 := O12.keep Kq13 (own_all0 )
    have R14 := CHr.keep Kq13 (sf0) CH12
    have CH14 := R14.1
    have ltr13_0 := own_ltN' r13_0.lt
    refine OwnEnd.of (S' := T13.setTop (mkF m 42 #[.val (.int p0), .val (.int p1), .val (.int p2), .val (.int p3), .val (.int p4), .val (.int (1 : Int32)), .val (.int (nar .char p1)), .val (.int (nar .char p2)), .val (.int (nar .char p3)), .val (.int (nar .char p4)), .unset, .unset] [(.ref b_13), (.ref b11), (.ref b11)])) st13 ?_
    have f15 : Exa Z T13.heap b11 "java/lang/String" := (A11.keep Kq13)
    have f16 : Fld Z T13.heap b11 "java/lang/String" "value" "[B" .null := (F11_value.keep Kq13 nin0)
    have f17 : Fld Z T13.heap b11 "java/lang/String" "coder" "B" (.int (0 : Int32)) := (F11_coder.keep Kq13 nin0)
    obtain ⟨_, _, ⟨T18, L18, k18, n18⟩, -, X18, ⟨Lc18, hQ18, l18, y18, z18⟩, st18⟩ := Jvm.Stand.specialBack X13 hx (y := own_m1) rfl hown (mvT hZ (own_w G 9 rfl)) (mvT hZ (own_w G 10 rfl)) (mvT hZ (own_w G 11 rfl)) (by decide) (backOf (W := 1) (rmnw1 l Z a0 G [] b11 b_13 .null (.int (0 : Int32)) kC_13 (.int (0 : Int32)) (nar .char p1) T13.heap n0 O14 f15 f16 f17 (by omega) r13_0 hrng (own_ne (by omega) : b11 ≠ b_13)) hZ (own_w G 11 rfl) (own_w G 3 rfl) (by decide) (by decide)) (g := (mkF m 42 #[.val (.int p0), .val (.int p1), .val (.int p2), .val (.int p3), .val (.int p4), .val (.int (1 : Int32)), .val (.int (nar .char p1)), .val (.int (nar .char p2)), .val (.int (nar .char p3)), .val (.int (nar .char p4)), .unset, .unset] [(.ref b_13), (.ref b11), (.ref b11)])) rfl (by rw [hml]; rfl) (Steps.refl _) (a := b11) (argsL := [(.ref b_13)]) (rest := [(.ref b11)]) (lenOf pd_17 rfl) rfl (by show 2 * 0 + _ ≤ _; exact Nat.le_of_eq rfl) (hb hby at_42) (fun _ _ => ⟨rfl, rfl, (by decide : 2 + 2 ≤ _), (by decide : 5 + 3 ≤ _)⟩)
    dsimp only [Pt.U, Pt.locs, Pt.cells, Pt.slots] at X18 l18 y18 z18 st18 hQ18
    subst l18 y18 z18
    obtain ⟨t_18, kb_18, N_18, vs_18, cd_18, rfl, N18q, Kq18, r18_0, r18_1, r18_2, r18_3, r18_4, r18_5⟩ := hQ18
    have N18 := Fr.app N13 N18q
    have sz19 := Kq18.1
    have K19 := K14.trans Kq18 (own_all1 (Or.inr (by omega)))
    have O19 := O14.keep Kq18 (own_all1 (by omega))
    have f20 : Safe Z consts_1 s.vm T13.heap b11 := (Safe.keep Kq13 (sf0) CH12 Sf11)
    have R19 := CHr.keep Kq18 (sfS f20 sf0) CH14
    have CH19 := R19.1
    have ltr18_0 := own_ltN' r18_0.lt
    have ltr18_1 := own_ltN' r18_1.lt
    have ltr18_2 := own_ltN' r18_2.lt
    have ltr18_3 := own_ltN' r18_3.lt
    refine OwnEnd.tr (S' := T18.setTop (mkF m 45 #[.val (.int p0), .val (.int p1), .val (.int p2), .val (.int p3), .val (.int p4), .val (.int (1 : Int32)), .val (.int (nar .char p1)), .val (.int (nar .char p2)), .val (.int (nar .char p3)), .val (.int (nar .char p4)), .unset, .unset] [(.ref b11)])) st18 ?_
    refine OwnEnd.of (S' := T18.setTop (mkF m 55 #[.val (.int p0), .val (.int p1), .val (.int p2), .val (.int p3), .val (.int p4), .val (.int (1 : Int32)), .val (.int (nar .char p1)), .val (.int (nar .char p2)), .val (.int (nar .char p3)), .val (.int (nar .char p4)), .val (.ref b11), .unset] [(.int (nar .char p1))])) (fun _ kK => XS.astore X18.here hx rfl (hb hby at_45) rfl rfl (l' := #[.val (.int p0), .val (.int p1), .val (.int p2), .val (.int p3), .val (.int p4), .val (.int (1 : Int32)), .val (.int (nar .char p1)), .val (.int (nar .char p2)), .val (.int (nar .char p3)), .val (.int (nar .char p4)), .val (.ref b11), .unset]) rfl (XS.iload X18.here hx rfl (hb hby at_47) rfl (XS.iconst X18.here hx rfl (hb hby at_49) (XS.icmpNo X18.here hx rfl (hb hby at_50) rfl (flt ((by decide : ¬ ((1 : Int32) < (1 : Int32))))).1 (XS.iload X18.here hx rfl (hb hby at_53) rfl kK))))) ?_
    obtain ⟨_, _, ⟨T21, L21, k21, n21⟩, -, X21, ⟨Lc21, hQ21, l21, y21, z21⟩, st21⟩ := Jvm.LawKit.callS X18 hx (y := own_m21) hown (mvT hZ (own_w G 47 rfl)) (mvT hZ (own_w G 48 rfl)) (mvT hZ (own_w G 6 rfl)) (mvT hZ (own_w G 49 rfl)) (by decide) (backOf (W := 0) (rmdg l Z a0 G [] (nar .char p1) T18.heap n0 O19 ) hZ (own_w G 49 rfl) (own_w G 6 rfl) (by decide) (by decide)) (g := (mkF m 55 #[.val (.int p0), .val (.int p1), .val (.int p2), .val (.int p3), .val (.int p4), .val (.int (1 : Int32)), .val (.int (nar .char p1)), .val (.int (nar .char p2)), .val (.int (nar .char p3)), .val (.int (nar .char p4)), .val (.ref b11), .unset] [(.int (nar .char p1))])) rfl (by rw [hml]; rfl) (argsL := [(.int (nar .char p1))]) (rest := []) (lenOf pd_19 rfl) rfl (by show 2 * 0 + _ ≤ _; exact Nat.le_of_eq rfl) (hb hby at_55) (fun _ _ => ⟨rfl, rfl, (by decide : 4 + 0 ≤ _), (by decide : 8 + 0 ≤ _)⟩)
    dsimp only [Pt.U, Pt.locs, Pt.cells, Pt.slots] at X21 l21 y21 z21 st21 hQ21
    subst l21 y21 z21
    obtain ⟨rfl, N21q, eh21⟩ := hQ21
    have N21 := Fr.app N18 N21q
    refine OwnEnd.of (S' := T21.setTop (mkF m 58 #[.val (.int p0), .val (.int p1), .val (.int p2), .val (.int p3), .val (.int p4), .val (.int (1 : Int32)), .val (.int (nar .char p1)), .val (.int (nar .char p2)), .val (.int (nar .char p3)), .val (.int (nar .char p4)), .val (.ref b11), .unset] [(.int (own_dig (nar .char p1)))])) st21 ?_
    rcases Decidable.em ((own_dig (nar .char p1)) = (0 : Int32)) with hc22 | hc22
    · refine OwnEnd.of (S' := T21.setTop (mkF m 112 #[.val (.int p0), .val (.int p1), .val (.int p2), .val (.int p3), .val (.int p4), .val (.int (1 : Int32)), .val (.int (nar .char p1)), .val (.int (nar .char p2)), .val (.int (nar .char p3)), .val (.int (nar .char p4)), .val (.ref b11), .val (.int (0 : Int32))] [(.ref b11)])) (fun _ kK => XS.ifYes X21.here hx rfl (pc0 := 58) (pc' := 107) rfl (hb hby at_58) rfl ((if0 _ _).trans (teq (hc22)).1) (by decide) (by decide) (XS.iconst X21.here hx rfl (hb hby at_107) (XS.istore X21.here hx rfl (hb hby at_108) rfl (l' := #[.val (.int p0), .val (.int p1), .val (.int p2), .val (.int p3), .val (.int p4), .val (.int (1 : Int32)), .val (.int (nar .char p1)), .val (.int (nar .char p2)), .val (.int (nar .char p3)), .val (.int (nar .char p4)), .val (.ref b11), .val (.int (0 : Int32))]) rfl (XS.aload X21.here hx rfl (hb hby at_110) rfl rfl kK)))) ?_
      obtain ⟨_, _, ⟨T23, L23, k23, n23⟩, -, X23, ⟨Lc23, hQ23, l23, y23, z23⟩, st23⟩ := Jvm.LawKit.callS X21 hx (y := own_m23) hown (mvT hZ (own_w G 27 rfl)) (mvT hZ (own_w G 28 rfl)) (mvT hZ (own_w G 29 rfl)) (mvT hZ (own_w G 30 rfl)) (by decide) (backOf (W := 0) (rmis1 l Z a0 G [] b11 t_18 kb_18 N_18 vs_18 cd_18 (nar .char p1) T18.heap n0 O19 r18_0 r18_1 r18_2 r18_3 r18_4 hrng) hZ (own_w G 30 rfl) (own_w G 29 rfl) (by decide) (by decide)) (g := (mkF m 112 #[.val (.int p0), .val (.int p1), .val (.int p2), .val (.int p3), .val (.int p4), .val (.int (1 : Int32)), .val (.int (nar .char p1)), .val (.int (nar .char p2)), .val (.int (nar .char p3)), .val (.int (nar .char p4)), .val (.ref b11), .val (.int (0 : Int32))] [(.ref b11)])) rfl (by rw [hml]; rfl) (argsL := [(.ref b11)]) (rest := []) (lenOf pd_18 rfl) rfl (by show 2 * 0 + _ ≤ _; exact Nat.le_of_eq rfl) (hb hby at_112) (fun _ _ => ⟨rfl, eh21, (by decide : 4 + 0 ≤ _), (by decide : 8 + 0 ≤ _)⟩)
      dsimp only [Pt.U, Pt.locs, Pt.cells, Pt.slots] at X23 l23 y23 z23 st23 hQ23
      subst l23 y23 z23
      obtain ⟨rfl, N23q, eh23⟩ := hQ23
      have N23 := Fr.app N21 N23q
      refine OwnEnd.of (S' := T23.setTop (mkF m 115 #[.val (.int p0), .val (.int p1), .val (.int p2), .val (.int p3), .val (.int p4), .val (.int (1 : Int32)), .val (.int (nar .char p1)), .val (.int (nar .char p2)), .val (.int (nar .char p3)), .val (.int (nar .char p4)), .val (.ref b11), .val (.int (0 : Int32))] [(.int (own_isd [(nar .char p1)]))])) st23 ?_
      refine OwnEnd.of (S' := T23.setTop (mkF m 117 #[.val (.int p0), .val (.int p1), .val (.int p2), .val (.int p3), .val (.int p4), .val (.int (1 : Int32)), .val (.int (nar .char p1)), .val (.int (nar .char p2)), .val (.int (nar .char p3)), .val (.int (nar .char p4)), .val (.ref b11), .val (.int (0 : Int32))] [(.int (0 : Int32)), (.int (own_isd [(nar .char p1)]))])) (fun _ kK => XS.iload X23.here hx rfl (hb hby at_115) rfl kK) ?_
      have hfin : (own_isd [(nar .char p1)]) = (0 : Int32) := by simp [own_isd_dig, own_isd_nil, hc22]
      refine OwnEnd.of (S' := T23.setTop (mkF m 125 #[.val (.int p0), .val (.int p1), .val (.int p2), .val (.int p3), .val (.int p4), .val (.int (1 : Int32)), .val (.int (nar .char p1)), .val (.int (nar .char p2)), .val (.int (nar .char p3)), .val (.int (nar .char p4)), .val (.ref b11), .val (.int (0 : Int32))] [(.int (1 : Int32))])) (fun _ kK => XS.icmpNo X23.here hx rfl (hb hby at_117) rfl (teq (hfin)).2 (XS.iconst X23.here hx rfl (hb hby at_120) (XS.goto X23.here hx rfl (pc0 := 121) (pc' := 125) rfl (hb hby at_121) (by decide) (by decide) kK))) ?_
      refine OwnEnd.retW X23 Si0 (by omega) (v := (some (.int (nar .boolean (1 : Int32))))) (fun h => by rw [Bd.returns] at h; cases h) hlk (fun fs hr => retN X23 hx (t := .boolean) Bd.returns (by simp) (hb hby at_125) hr) (by decide) (by decide) (Q := Qlaw Z p0 p1 p2 p3 p4 h0 n0) eh23 ?_
      exact ⟨rfl, N23, K19⟩
    · refine OwnEnd.of (S' := T21.setTop (mkF m 103 #[.val (.int p0), .val (.int p1), .val (.int p2), .val (.int p3), .val (.int p4), .val (.int (1 : Int32)), .val (.int (nar .char p1)), .val (.int (nar .char p2)), .val (.int (nar .char p3)), .val (.int (nar .char p4)), .val (.ref b11), .unset] [])) (fun _ kK => XS.ifNo X21.here hx rfl (hb hby at_58) rfl ((if0 _ _).trans (feq (hc22)).1) (XS.iload X21.here hx rfl (hb hby at_61) rfl (XS.iconst X21.here hx rfl (hb hby at_63) (XS.icmpYes X21.here hx rfl (pc0 := 64) (pc' := 75) rfl (hb hby at_64) rfl (tlt ((by decide : (1 : Int32) < (2 : Int32)))).1 (by decide) (by decide) (XS.iload X21.here hx rfl (hb hby at_75) rfl (XS.iconst X21.here hx rfl (hb hby at_77) (XS.icmpYes X21.here hx rfl (pc0 := 78) (pc' := 89) rfl (hb hby at_78) rfl (tlt ((by decide : (1 : Int32) < (3 : Int32)))).1 (by decide) (by decide) (XS.iload X21.here hx rfl (hb hby at_89) rfl (XS.iconst X21.here hx rfl (hb hby at_91) (XS.icmpYes X21.here hx rfl (pc0 := 92) (pc' := 103) rfl (hb hby at_92) rfl (tlt ((by decide : (1 : Int32) < (4 : Int32)))).1 (by decide) (by decide) kK)))))))))) ?_
      refine OwnEnd.of (S' := T21.setTop (mkF m 112 #[.val (.int p0), .val (.int p1), .val (.int p2), .val (.int p3), .val (.int p4), .val (.int (1 : Int32)), .val (.int (nar .char p1)), .val (.int (nar .char p2)), .val (.int (nar .char p3)), .val (.int (nar .char p4)), .val (.ref b11), .val (.int (1 : Int32))] [(.ref b11)])) (fun _ kK => XS.iconst X21.here hx rfl (hb hby at_103) (XS.goto X21.here hx rfl (pc0 := 104) (pc' := 108) rfl (hb hby at_104) (by decide) (by decide) (XS.istore X21.here hx rfl (hb hby at_108) rfl (l' := #[.val (.int p0), .val (.int p1), .val (.int p2), .val (.int p3), .val (.int p4), .val (.int (1 : Int32)), .val (.int (nar .char p1)), .val (.int (nar .char p2)), .val (.int (nar .char p3)), .val (.int (nar .char p4)), .val (.ref b11), .val (.int (1 : Int32))]) rfl (XS.aload X21.here hx rfl (hb hby at_110) rfl rfl kK)))) ?_
      obtain ⟨_, _, ⟨T24, L24, k24, n24⟩, -, X24, ⟨Lc24, hQ24, l24, y24, z24⟩, st24⟩ := Jvm.LawKit.callS X21 hx (y := own_m23) hown (mvT hZ (own_w G 27 rfl)) (mvT hZ (own_w G 28 rfl)) (mvT hZ (own_w G 29 rfl)) (mvT hZ (own_w G 30 rfl)) (by decide) (backOf (W := 0) (rmis1 l Z a0 G [] b11 t_18 kb_18 N_18 vs_18 cd_18 (nar .char p1) T18.heap n0 O19 r18_0 r18_1 r18_2 r18_3 r18_4 hrng) hZ (own_w G 30 rfl) (own_w G 29 rfl) (by decide) (by decide)) (g := (mkF m 112 #[.val (.int p0), .val (.int p1), .val (.int p2), .val (.int p3), .val (.int p4), .val (.int (1 : Int32)), .val (.int (nar .char p1)), .val (.int (nar .char p2)), .val (.int (nar .char p3)), .val (.int (nar .char p4)), .val (.ref b11), .val (.int (1 : Int32))] [(.ref b11)])) rfl (by rw [hml]; rfl) (argsL := [(.ref b11)]) (rest := []) (lenOf pd_18 rfl) rfl (by show 2 * 0 + _ ≤ _; exact Nat.le_of_eq rfl) (hb hby at_112) (fun _ _ => ⟨rfl, eh21, (by decide : 4 + 0 ≤ _), (by decide : 8 + 0 ≤ _)⟩)
      dsimp only [Pt.U, Pt.locs, Pt.cells, Pt.slots] at X24 l24 y24 z24 st24 hQ24
      subst l24 y24 z24
      obtain ⟨rfl, N24q, eh24⟩ := hQ24
      have N24 := Fr.app N21 N24q
      refine OwnEnd.of (S' := T24.setTop (mkF m 115 #[.val (.int p0), .val (.int p1), .val (.int p2), .val (.int p3), .val (.int p4), .val (.int (1 : Int32)), .val (.int (nar .char p1)), .val (.int (nar .char p2)), .val (.int (nar .char p3)), .val (.int (nar .char p4)), .val (.ref b11), .val (.int (1 : Int32))] [(.int (own_isd [(nar .char p1)]))])) st24 ?_
      refine OwnEnd.of (S' := T24.setTop (mkF m 117 #[.val (.int p0), .val (.int p1), .val (.int p2), .val (.int p3), .val (.int p4), .val (.int (1 : Int32)), .val (.int (nar .char p1)), .val (.int (nar .char p2)), .val (.int (nar .char p3)), .val (.int (nar .char p4)), .val (.ref b11), .val (.int (1 : Int32))] [(.int (1 : Int32)), (.int (own_isd [(nar .char p1)]))])) (fun _ kK => XS.iload X24.here hx rfl (hb hby at_115) rfl kK) ?_
      have hfin : (own_isd [(nar .char p1)]) = (1 : Int32) := by simp [own_isd_dig, own_isd_nil, hc22]
      refine OwnEnd.of (S' := T24.setTop (mkF m 125 #[.val (.int p0), .val (.int p1), .val (.int p2), .val (.int p3), .val (.int p4), .val (.int (1 : Int32)), .val (.int (nar .char p1)), .val (.int (nar .char p2)), .val (.int (nar .char p3)), .val (.int (nar .char p4)), .val (.ref b11), .val (.int (1 : Int32))] [(.int (1 : Int32))])) (fun _ kK => XS.icmpNo X24.here hx rfl (hb hby at_117) rfl (teq (hfin)).2 (XS.iconst X24.here hx rfl (hb hby at_120) (XS.goto X24.here hx rfl (pc0 := 121) (pc' := 125) rfl (hb hby at_121) (by decide) (by decide) kK))) ?_
      refine OwnEnd.retW X24 Si0 (by omega) (v := (some (.int (nar .boolean (1 : Int32))))) (fun h => by rw [Bd.returns] at h; cases h) hlk (fun fs hr => retN X24 hx (t := .boolean) Bd.returns (by simp) (hb hby at_125) hr) (by decide) (by decide) (Q := Qlaw Z p0 p1 p2 p3 p4 h0 n0) eh24 ?_
      exact ⟨rfl, N24, K19⟩
  · rw [hr]
    have hrng : ∀ c ∈ ([(nar .char p1), (nar .char p2)] : List Int32), ¬ c < (0 : Int32) ∧ ¬ (65535 : Int32) < c := own_rng2 p1 p2
    refine OwnEnd.of (S' := s₁.setTop (mkF m 20 #[.val (.int p0), .val (.int p1), .val (.int p2), .val (.int p3), .val (.int p4), .val (.int (2 : Int32)), .val (.int (nar .char p1)), .val (.int (nar .char p2)), .val (.int (nar .char p3)), .unset, .unset, .unset] [])) (fun _ kK => XS.istore X0w.here hx rfl (hb hby at_6) rfl (l' := #[.val (.int p0), .val (.int p1), .val (.int p2), .val (.int p3), .val (.int p4), .val (.int (2 : Int32)), .unset, .unset, .unset, .unset, .unset, .unset]) rfl (XS.iloadN X0w.here hx rfl (hb hby at_8) rfl (XS.i2c X0w.here hx rfl (hb hby at_9) rfl (XS.istore X0w.here hx rfl (hb hby at_10) rfl (l' := #[.val (.int p0), .val (.int p1), .val (.int p2), .val (.int p3), .val (.int p4), .val (.int (2 : Int32)), .val (.int (nar .char p1)), .unset, .unset, .unset, .unset, .unset]) rfl (XS.iloadN X0w.here hx rfl (hb hby at_12) rfl (XS.i2c X0w.here hx rfl (hb hby at_13) rfl (XS.istore X0w.here hx rfl (hb hby at_14) rfl (l' := #[.val (.int p0), .val (.int p1), .val (.int p2), .val (.int p3), .val (.int p4), .val (.int (2 : Int32)), .val (.int (nar .char p1)), .val (.int (nar .char p2)), .unset, .unset, .unset, .unset]) rfl (XS.iloadN X0w.here hx rfl (hb hby at_16) rfl (XS.i2c X0w.here hx rfl (hb hby at_17) rfl (XS.istore X0w.here hx rfl (hb hby at_18) rfl (l' := #[.val (.int p0), .val (.int p1), .val (.int p2), .val (.int p3), .val (.int p4), .val (.int (2 : Int32)), .val (.int (nar .char p1)), .val (.int (nar .char p2)), .val (.int (nar .char p3)), .unset, .unset, .unset]) rfl kK)))))))))) ?_
    refine OwnEnd.of (S' := s₁.setTop (mkF m 25 #[.val (.int p0), .val (.int p1), .val (.int p2), .val (.int p3), .val (.int p4), .val (.int (2 : Int32)), .val (.int (nar .char p1)), .val (.int (nar .char p2)), .val (.int (nar .char p3)), .val (.int (nar .char p4)), .unset, .unset] [])) (fun _ kK => XS.iload X0w.here hx rfl (hb hby at_20) rfl (XS.i2c X0w.here hx rfl (hb hby at_22) rfl (XS.istore X0w.here hx rfl (hb hby at_23) rfl (l' := #[.val (.int p0), .val (.int p1), .val (.int p2), .val (.int p3), .val (.int p4), .val (.int (2 : Int32)), .val (.int (nar .char p1)), .val (.int (nar .char p2)), .val (.int (nar .char p3)), .val (.int (nar .char p4)), .unset, .unset]) rfl kK))) ?_
    obtain ⟨T25, h25, X25, e25, E25, A25, D25, -, st25⟩ := newO X0w hx hZ hown (own_w G 1 rfl) (own_w G 2 rfl) (own_w G 3 rfl) e0 (g := (mkF m 25 #[.val (.int p0), .val (.int p1), .val (.int p2), .val (.int p3), .val (.int p4), .val (.int (2 : Int32)), .val (.int (nar .char p1)), .val (.int (nar .char p2)), .val (.int (nar .char p3)), .val (.int (nar .char p4)), .unset, .unset] [])) rfl (hb hby at_25) (by decide) (by decide)
    obtain ⟨b25, g25⟩ : ∃ z, z = Array.size h0 := ⟨_, rfl⟩
    rw [← g25] at A25 D25 st25
    have lt_b25 := own_ltN' A25.lt
    have sz26 := E25.1
    have K26 := K0.ext E25
    have O26 := O0.ext E25
    have R26 := CHr.ext E25 hCH
    have CH26 := R26.1
    have Sf25 : Safe Z consts_1 s.vm h25 b25 := Safe.ext E25 hCH (Safe.new (by omega))
    have F25_value : Fld Z h25 b25 "java/lang/String" "value" "[B" .null := D25 (Or.inr (own_w G 21 rfl)) (ty := (.array .byte)) (by decide)
    have F25_coder : Fld Z h25 b25 "java/lang/String" "coder" "B" (.int (0 : Int32)) := D25 (Or.inr (own_w G 22 rfl)) (ty := .byte) (by decide)
    refine OwnEnd.of (S' := T25.setTop (mkF m 28 #[.val (.int p0), .val (.int p1), .val (.int p2), .val (.int p3), .val (.int p4), .val (.int (2 : Int32)), .val (.int (nar .char p1)), .val (.int (nar .char p2)), .val (.int (nar .char p3)), .val (.int (nar .char p4)), .unset, .unset] [(.ref b25)])) st25 ?_
    refine OwnEnd.of (S' := T25.setTop (mkF m 39 #[.val (.int p0), .val (.int p1), .val (.int p2), .val (.int p3), .val (.int p4), .val (.int (2 : Int32)), .val (.int (nar .char p1)), .val (.int (nar .char p2)), .val (.int (nar .char p3)), .val (.int (nar .char p4)), .unset, .unset] [(.int (nar .char p4)), (.int (nar .char p3)), (.int (nar .char p2)), (.int (nar .char p1)), (.int (2 : Int32)), (.ref b25), (.ref b25)])) (fun _ kK => XS.dup X25.here hx rfl (hb hby at_28) rfl rfl (XS.iload X25.here hx rfl (hb hby at_29) rfl (XS.iload X25.here hx rfl (hb hby at_31) rfl (XS.iload X25.here hx rfl (hb hby at_33) rfl (XS.iload X25.here hx rfl (hb hby at_35) rfl (XS.iload X25.here hx rfl (hb hby at_37) rfl kK)))))) ?_
    obtain ⟨_, _, ⟨T27, L27, k27, n27⟩, -, X27, ⟨Lc27, hQ27, l27, y27, z27⟩, st27⟩ := Jvm.LawKit.callS X25 hx (y := own_m22) hown (mvT hZ (own_w G 4 rfl)) (mvT hZ (own_w G 5 rfl)) (mvT hZ (own_w G 6 rfl)) (mvT hZ (own_w G 7 rfl)) (by decide) (backOf (W := 2) (rmbd2 l Z a0 G [] (nar .char p1) (nar .char p2) (nar .char p3) (nar .char p4) h25 n0 O26 (own_nar_cc _ : nar .char (nar .char p1) = (nar .char p1)) (own_nar_cc _ : nar .char (nar .char p2) = (nar .char p2))) hZ (own_w G 7 rfl) (own_w G 6 rfl) (by decide) (by decide)) (g := (mkF m 39 #[.val (.int p0), .val (.int p1), .val (.int p2), .val (.int p3), .val (.int p4), .val (.int (2 : Int32)), .val (.int (nar .char p1)), .val (.int (nar .char p2)), .val (.int (nar .char p3)), .val (.int (nar .char p4)), .unset, .unset] [(.int (nar .char p4)), (.int (nar .char p3)), (.int (nar .char p2)), (.int (nar .char p1)), (.int (2 : Int32)), (.ref b25), (.ref b25)])) rfl (by rw [hml]; rfl) (argsL := [(.int (2 : Int32)), (.int (nar .char p1)), (.int (nar .char p2)), (.int (nar .char p3)), (.int (nar .char p4))]) (rest := [(.ref b25), (.ref b25)]) (lenOf pd_16 rfl) rfl (by show 2 * 0 + _ ≤ _; exact Nat.le_of_eq rfl) (hb hby at_39) (fun _ _ => ⟨rfl, e25, (by decide : 1 + 1 ≤ _), (by decide : 4 + 2 ≤ _)⟩)
    dsimp only [Pt.U, Pt.locs, Pt.cells, Pt.slots] at X27 l27 y27 z27 st27 hQ27
    subst l27 y27 z27
    obtain ⟨b_27, kC_27, rfl, N27q, Kq27, r27_0, r27_1⟩ := hQ27
    have N27 := Fr.app N0 N27q
    have sz28 := Kq27.1
    have K28 := K26.trans Kq27 (own_all0 )
    have O28 := O26.keep Kq27 (own_all0 )
    have R28 := CHr.keep Kq27 (sf0) CH26
    have CH28 := R28.1
    have ltr27_0 := own_ltN' r27_0.lt
    refine OwnEnd.of (S' := T27.setTop (mkF m 42 #[.val (.int p0), .val (.int p1), .val (.int p2), .val (.int p3), .val (.int p4), .val (.int (2 : Int32)), .val (.int (nar .char p1)), .val (.int (nar .char p2)), .val (.int (nar .char p3)), .val (.int (nar .char p4)), .unset, .unset] [(.ref b_27), (.ref b25), (.ref b25)])) st27 ?_
    have f29 : Exa Z T27.heap b25 "java/lang/String" := (A25.keep Kq27)
    have f30 : Fld Z T27.heap b25 "java/lang/String" "value" "[B" .null := (F25_value.keep Kq27 nin0)
    have f31 : Fld Z T27.heap b25 "java/lang/String" "coder" "B" (.int (0 : Int32)) := (F25_coder.keep Kq27 nin0)
    obtain ⟨_, _, ⟨T32, L32, k32, n32⟩, -, X32, ⟨Lc32, hQ32, l32, y32, z32⟩, st32⟩ := Jvm.Stand.specialBack X27 hx (y := own_m1) rfl hown (mvT hZ (own_w G 9 rfl)) (mvT hZ (own_w G 10 rfl)) (mvT hZ (own_w G 11 rfl)) (by decide) (backOf (W := 1) (rmnw2 l Z a0 G [] b25 b_27 .null (.int (0 : Int32)) kC_27 (.int (0 : Int32)) (nar .char p1) (nar .char p2) T27.heap n0 O28 f29 f30 f31 (by omega) r27_0 hrng (own_ne (by omega) : b25 ≠ b_27)) hZ (own_w G 11 rfl) (own_w G 3 rfl) (by decide) (by decide)) (g := (mkF m 42 #[.val (.int p0), .val (.int p1), .val (.int p2), .val (.int p3), .val (.int p4), .val (.int (2 : Int32)), .val (.int (nar .char p1)), .val (.int (nar .char p2)), .val (.int (nar .char p3)), .val (.int (nar .char p4)), .unset, .unset] [(.ref b_27), (.ref b25), (.ref b25)])) rfl (by rw [hml]; rfl) (Steps.refl _) (a := b25) (argsL := [(.ref b_27)]) (rest := [(.ref b25)]) (lenOf pd_17 rfl) rfl (by show 2 * 0 + _ ≤ _; exact Nat.le_of_eq rfl) (hb hby at_42) (fun _ _ => ⟨rfl, rfl, (by decide : 2 + 2 ≤ _), (by decide : 6 + 6 ≤ _)⟩)
    dsimp only [Pt.U, Pt.locs, Pt.cells, Pt.slots] at X32 l32 y32 z32 st32 hQ32
    subst l32 y32 z32
    obtain ⟨t_32, kb_32, N_32, vs_32, cd_32, rfl, N32q, Kq32, r32_0, r32_1, r32_2, r32_3, r32_4, r32_5⟩ := hQ32
    have N32 := Fr.app N27 N32q
    have sz33 := Kq32.1
    have K33 := K28.trans Kq32 (own_all1 (Or.inr (by omega)))
    have O33 := O28.keep Kq32 (own_all1 (by omega))
    have f34 : Safe Z consts_1 s.vm T27.heap b25 := (Safe.keep Kq27 (sf0) CH26 Sf25)
    have R33 := CHr.keep Kq32 (sfS f34 sf0) CH28
    have CH33 := R33.1
    have ltr32_0 := own_ltN' r32_0.lt
    have ltr32_1 := own_ltN' r32_1.lt
    have ltr32_2 := own_ltN' r32_2.lt
    have ltr32_3 := own_ltN' r32_3.lt
    refine OwnEnd.tr (S' := T32.setTop (mkF m 45 #[.val (.int p0), .val (.int p1), .val (.int p2), .val (.int p3), .val (.int p4), .val (.int (2 : Int32)), .val (.int (nar .char p1)), .val (.int (nar .char p2)), .val (.int (nar .char p3)), .val (.int (nar .char p4)), .unset, .unset] [(.ref b25)])) st32 ?_
    refine OwnEnd.of (S' := T32.setTop (mkF m 55 #[.val (.int p0), .val (.int p1), .val (.int p2), .val (.int p3), .val (.int p4), .val (.int (2 : Int32)), .val (.int (nar .char p1)), .val (.int (nar .char p2)), .val (.int (nar .char p3)), .val (.int (nar .char p4)), .val (.ref b25), .unset] [(.int (nar .char p1))])) (fun _ kK => XS.astore X32.here hx rfl (hb hby at_45) rfl rfl (l' := #[.val (.int p0), .val (.int p1), .val (.int p2), .val (.int p3), .val (.int p4), .val (.int (2 : Int32)), .val (.int (nar .char p1)), .val (.int (nar .char p2)), .val (.int (nar .char p3)), .val (.int (nar .char p4)), .val (.ref b25), .unset]) rfl (XS.iload X32.here hx rfl (hb hby at_47) rfl (XS.iconst X32.here hx rfl (hb hby at_49) (XS.icmpNo X32.here hx rfl (hb hby at_50) rfl (flt ((by decide : ¬ ((2 : Int32) < (1 : Int32))))).1 (XS.iload X32.here hx rfl (hb hby at_53) rfl kK))))) ?_
    obtain ⟨_, _, ⟨T35, L35, k35, n35⟩, -, X35, ⟨Lc35, hQ35, l35, y35, z35⟩, st35⟩ := Jvm.LawKit.callS X32 hx (y := own_m21) hown (mvT hZ (own_w G 47 rfl)) (mvT hZ (own_w G 48 rfl)) (mvT hZ (own_w G 6 rfl)) (mvT hZ (own_w G 49 rfl)) (by decide) (backOf (W := 0) (rmdg l Z a0 G [] (nar .char p1) T32.heap n0 O33 ) hZ (own_w G 49 rfl) (own_w G 6 rfl) (by decide) (by decide)) (g := (mkF m 55 #[.val (.int p0), .val (.int p1), .val (.int p2), .val (.int p3), .val (.int p4), .val (.int (2 : Int32)), .val (.int (nar .char p1)), .val (.int (nar .char p2)), .val (.int (nar .char p3)), .val (.int (nar .char p4)), .val (.ref b25), .unset] [(.int (nar .char p1))])) rfl (by rw [hml]; rfl) (argsL := [(.int (nar .char p1))]) (rest := []) (lenOf pd_19 rfl) rfl (by show 2 * 0 + _ ≤ _; exact Nat.le_of_eq rfl) (hb hby at_55) (fun _ _ => ⟨rfl, rfl, (by decide : 4 + 0 ≤ _), (by decide : 12 + 0 ≤ _)⟩)
    dsimp only [Pt.U, Pt.locs, Pt.cells, Pt.slots] at X35 l35 y35 z35 st35 hQ35
    subst l35 y35 z35
    obtain ⟨rfl, N35q, eh35⟩ := hQ35
    have N35 := Fr.app N32 N35q
    refine OwnEnd.of (S' := T35.setTop (mkF m 58 #[.val (.int p0), .val (.int p1), .val (.int p2), .val (.int p3), .val (.int p4), .val (.int (2 : Int32)), .val (.int (nar .char p1)), .val (.int (nar .char p2)), .val (.int (nar .char p3)), .val (.int (nar .char p4)), .val (.ref b25), .unset] [(.int (own_dig (nar .char p1)))])) st35 ?_
    rcases Decidable.em ((own_dig (nar .char p1)) = (0 : Int32)) with hc36 | hc36
    · refine OwnEnd.of (S' := T35.setTop (mkF m 112 #[.val (.int p0), .val (.int p1), .val (.int p2), .val (.int p3), .val (.int p4), .val (.int (2 : Int32)), .val (.int (nar .char p1)), .val (.int (nar .char p2)), .val (.int (nar .char p3)), .val (.int (nar .char p4)), .val (.ref b25), .val (.int (0 : Int32))] [(.ref b25)])) (fun _ kK => XS.ifYes X35.here hx rfl (pc0 := 58) (pc' := 107) rfl (hb hby at_58) rfl ((if0 _ _).trans (teq (hc36)).1) (by decide) (by decide) (XS.iconst X35.here hx rfl (hb hby at_107) (XS.istore X35.here hx rfl (hb hby at_108) rfl (l' := #[.val (.int p0), .val (.int p1), .val (.int p2), .val (.int p3), .val (.int p4), .val (.int (2 : Int32)), .val (.int (nar .char p1)), .val (.int (nar .char p2)), .val (.int (nar .char p3)), .val (.int (nar .char p4)), .val (.ref b25), .val (.int (0 : Int32))]) rfl (XS.aload X35.here hx rfl (hb hby at_110) rfl rfl kK)))) ?_
      obtain ⟨_, _, ⟨T37, L37, k37, n37⟩, -, X37, ⟨Lc37, hQ37, l37, y37, z37⟩, st37⟩ := Jvm.LawKit.callS X35 hx (y := own_m23) hown (mvT hZ (own_w G 27 rfl)) (mvT hZ (own_w G 28 rfl)) (mvT hZ (own_w G 29 rfl)) (mvT hZ (own_w G 30 rfl)) (by decide) (backOf (W := 0) (rmis2 l Z a0 G [] b25 t_32 kb_32 N_32 vs_32 cd_32 (nar .char p1) (nar .char p2) T32.heap n0 O33 r32_0 r32_1 r32_2 r32_3 r32_4 hrng) hZ (own_w G 30 rfl) (own_w G 29 rfl) (by decide) (by decide)) (g := (mkF m 112 #[.val (.int p0), .val (.int p1), .val (.int p2), .val (.int p3), .val (.int p4), .val (.int (2 : Int32)), .val (.int (nar .char p1)), .val (.int (nar .char p2)), .val (.int (nar .char p3)), .val (.int (nar .char p4)), .val (.ref b25), .val (.int (0 : Int32))] [(.ref b25)])) rfl (by rw [hml]; rfl) (argsL := [(.ref b25)]) (rest := []) (lenOf pd_18 rfl) rfl (by show 2 * 0 + _ ≤ _; exact Nat.le_of_eq rfl) (hb hby at_112) (fun _ _ => ⟨rfl, eh35, (by decide : 4 + 0 ≤ _), (by decide : 12 + 0 ≤ _)⟩)
      dsimp only [Pt.U, Pt.locs, Pt.cells, Pt.slots] at X37 l37 y37 z37 st37 hQ37
      subst l37 y37 z37
      obtain ⟨rfl, N37q, eh37⟩ := hQ37
      have N37 := Fr.app N35 N37q
      refine OwnEnd.of (S' := T37.setTop (mkF m 115 #[.val (.int p0), .val (.int p1), .val (.int p2), .val (.int p3), .val (.int p4), .val (.int (2 : Int32)), .val (.int (nar .char p1)), .val (.int (nar .char p2)), .val (.int (nar .char p3)), .val (.int (nar .char p4)), .val (.ref b25), .val (.int (0 : Int32))] [(.int (own_isd [(nar .char p1), (nar .char p2)]))])) st37 ?_
      refine OwnEnd.of (S' := T37.setTop (mkF m 117 #[.val (.int p0), .val (.int p1), .val (.int p2), .val (.int p3), .val (.int p4), .val (.int (2 : Int32)), .val (.int (nar .char p1)), .val (.int (nar .char p2)), .val (.int (nar .char p3)), .val (.int (nar .char p4)), .val (.ref b25), .val (.int (0 : Int32))] [(.int (0 : Int32)), (.int (own_isd [(nar .char p1), (nar .char p2)]))])) (fun _ kK => XS.iload X37.here hx rfl (hb hby at_115) rfl kK) ?_
      have hfin : (own_isd [(nar .char p1), (nar .char p2)]) = (0 : Int32) := by simp [own_isd_dig, own_isd_nil, hc36]
      refine OwnEnd.of (S' := T37.setTop (mkF m 125 #[.val (.int p0), .val (.int p1), .val (.int p2), .val (.int p3), .val (.int p4), .val (.int (2 : Int32)), .val (.int (nar .char p1)), .val (.int (nar .char p2)), .val (.int (nar .char p3)), .val (.int (nar .char p4)), .val (.ref b25), .val (.int (0 : Int32))] [(.int (1 : Int32))])) (fun _ kK => XS.icmpNo X37.here hx rfl (hb hby at_117) rfl (teq (hfin)).2 (XS.iconst X37.here hx rfl (hb hby at_120) (XS.goto X37.here hx rfl (pc0 := 121) (pc' := 125) rfl (hb hby at_121) (by decide) (by decide) kK))) ?_
      refine OwnEnd.retW X37 Si0 (by omega) (v := (some (.int (nar .boolean (1 : Int32))))) (fun h => by rw [Bd.returns] at h; cases h) hlk (fun fs hr => retN X37 hx (t := .boolean) Bd.returns (by simp) (hb hby at_125) hr) (by decide) (by decide) (Q := Qlaw Z p0 p1 p2 p3 p4 h0 n0) eh37 ?_
      exact ⟨rfl, N37, K33⟩
    · refine OwnEnd.of (S' := T35.setTop (mkF m 69 #[.val (.int p0), .val (.int p1), .val (.int p2), .val (.int p3), .val (.int p4), .val (.int (2 : Int32)), .val (.int (nar .char p1)), .val (.int (nar .char p2)), .val (.int (nar .char p3)), .val (.int (nar .char p4)), .val (.ref b25), .unset] [(.int (nar .char p2))])) (fun _ kK => XS.ifNo X35.here hx rfl (hb hby at_58) rfl ((if0 _ _).trans (feq (hc36)).1) (XS.iload X35.here hx rfl (hb hby at_61) rfl (XS.iconst X35.here hx rfl (hb hby at_63) (XS.icmpNo X35.here hx rfl (hb hby at_64) rfl (flt ((by decide : ¬ ((2 : Int32) < (2 : Int32))))).1 (XS.iload X35.here hx rfl (hb hby at_67) rfl kK))))) ?_
      obtain ⟨_, _, ⟨T38, L38, k38, n38⟩, -, X38, ⟨Lc38, hQ38, l38, y38, z38⟩, st38⟩ := Jvm.LawKit.callS X35 hx (y := own_m21) hown (mvT hZ (own_w G 47 rfl)) (mvT hZ (own_w G 48 rfl)) (mvT hZ (own_w G 6 rfl)) (mvT hZ (own_w G 49 rfl)) (by decide) (backOf (W := 0) (rmdg l Z a0 G [] (nar .char p2) T32.heap n0 O33 ) hZ (own_w G 49 rfl) (own_w G 6 rfl) (by decide) (by decide)) (g := (mkF m 69 #[.val (.int p0), .val (.int p1), .val (.int p2), .val (.int p3), .val (.int p4), .val (.int (2 : Int32)), .val (.int (nar .char p1)), .val (.int (nar .char p2)), .val (.int (nar .char p3)), .val (.int (nar .char p4)), .val (.ref b25), .unset] [(.int (nar .char p2))])) rfl (by rw [hml]; rfl) (argsL := [(.int (nar .char p2))]) (rest := []) (lenOf pd_19 rfl) rfl (by show 2 * 0 + _ ≤ _; exact Nat.le_of_eq rfl) (hb hby at_69) (fun _ _ => ⟨rfl, eh35, (by decide : 4 + 0 ≤ _), (by decide : 12 + 0 ≤ _)⟩)
      dsimp only [Pt.U, Pt.locs, Pt.cells, Pt.slots] at X38 l38 y38 z38 st38 hQ38
      subst l38 y38 z38
      obtain ⟨rfl, N38q, eh38⟩ := hQ38
      have N38 := Fr.app N35 N38q
      refine OwnEnd.of (S' := T38.setTop (mkF m 72 #[.val (.int p0), .val (.int p1), .val (.int p2), .val (.int p3), .val (.int p4), .val (.int (2 : Int32)), .val (.int (nar .char p1)), .val (.int (nar .char p2)), .val (.int (nar .char p3)), .val (.int (nar .char p4)), .val (.ref b25), .unset] [(.int (own_dig (nar .char p2)))])) st38 ?_
      rcases Decidable.em ((own_dig (nar .char p2)) = (0 : Int32)) with hc39 | hc39
      · refine OwnEnd.of (S' := T38.setTop (mkF m 112 #[.val (.int p0), .val (.int p1), .val (.int p2), .val (.int p3), .val (.int p4), .val (.int (2 : Int32)), .val (.int (nar .char p1)), .val (.int (nar .char p2)), .val (.int (nar .char p3)), .val (.int (nar .char p4)), .val (.ref b25), .val (.int (0 : Int32))] [(.ref b25)])) (fun _ kK => XS.ifYes X38.here hx rfl (pc0 := 72) (pc' := 107) rfl (hb hby at_72) rfl ((if0 _ _).trans (teq (hc39)).1) (by decide) (by decide) (XS.iconst X38.here hx rfl (hb hby at_107) (XS.istore X38.here hx rfl (hb hby at_108) rfl (l' := #[.val (.int p0), .val (.int p1), .val (.int p2), .val (.int p3), .val (.int p4), .val (.int (2 : Int32)), .val (.int (nar .char p1)), .val (.int (nar .char p2)), .val (.int (nar .char p3)), .val (.int (nar .char p4)), .val (.ref b25), .val (.int (0 : Int32))]) rfl (XS.aload X38.here hx rfl (hb hby at_110) rfl rfl kK)))) ?_
        obtain ⟨_, _, ⟨T40, L40, k40, n40⟩, -, X40, ⟨Lc40, hQ40, l40, y40, z40⟩, st40⟩ := Jvm.LawKit.callS X38 hx (y := own_m23) hown (mvT hZ (own_w G 27 rfl)) (mvT hZ (own_w G 28 rfl)) (mvT hZ (own_w G 29 rfl)) (mvT hZ (own_w G 30 rfl)) (by decide) (backOf (W := 0) (rmis2 l Z a0 G [] b25 t_32 kb_32 N_32 vs_32 cd_32 (nar .char p1) (nar .char p2) T32.heap n0 O33 r32_0 r32_1 r32_2 r32_3 r32_4 hrng) hZ (own_w G 30 rfl) (own_w G 29 rfl) (by decide) (by decide)) (g := (mkF m 112 #[.val (.int p0), .val (.int p1), .val (.int p2), .val (.int p3), .val (.int p4), .val (.int (2 : Int32)), .val (.int (nar .char p1)), .val (.int (nar .char p2)), .val (.int (nar .char p3)), .val (.int (nar .char p4)), .val (.ref b25), .val (.int (0 : Int32))] [(.ref b25)])) rfl (by rw [hml]; rfl) (argsL := [(.ref b25)]) (rest := []) (lenOf pd_18 rfl) rfl (by show 2 * 0 + _ ≤ _; exact Nat.le_of_eq rfl) (hb hby at_112) (fun _ _ => ⟨rfl, eh38, (by decide : 4 + 0 ≤ _), (by decide : 12 + 0 ≤ _)⟩)
        dsimp only [Pt.U, Pt.locs, Pt.cells, Pt.slots] at X40 l40 y40 z40 st40 hQ40
        subst l40 y40 z40
        obtain ⟨rfl, N40q, eh40⟩ := hQ40
        have N40 := Fr.app N38 N40q
        refine OwnEnd.of (S' := T40.setTop (mkF m 115 #[.val (.int p0), .val (.int p1), .val (.int p2), .val (.int p3), .val (.int p4), .val (.int (2 : Int32)), .val (.int (nar .char p1)), .val (.int (nar .char p2)), .val (.int (nar .char p3)), .val (.int (nar .char p4)), .val (.ref b25), .val (.int (0 : Int32))] [(.int (own_isd [(nar .char p1), (nar .char p2)]))])) st40 ?_
        refine OwnEnd.of (S' := T40.setTop (mkF m 117 #[.val (.int p0), .val (.int p1), .val (.int p2), .val (.int p3), .val (.int p4), .val (.int (2 : Int32)), .val (.int (nar .char p1)), .val (.int (nar .char p2)), .val (.int (nar .char p3)), .val (.int (nar .char p4)), .val (.ref b25), .val (.int (0 : Int32))] [(.int (0 : Int32)), (.int (own_isd [(nar .char p1), (nar .char p2)]))])) (fun _ kK => XS.iload X40.here hx rfl (hb hby at_115) rfl kK) ?_
        have hfin : (own_isd [(nar .char p1), (nar .char p2)]) = (0 : Int32) := by simp [own_isd_dig, own_isd_nil, hc36, hc39]
        refine OwnEnd.of (S' := T40.setTop (mkF m 125 #[.val (.int p0), .val (.int p1), .val (.int p2), .val (.int p3), .val (.int p4), .val (.int (2 : Int32)), .val (.int (nar .char p1)), .val (.int (nar .char p2)), .val (.int (nar .char p3)), .val (.int (nar .char p4)), .val (.ref b25), .val (.int (0 : Int32))] [(.int (1 : Int32))])) (fun _ kK => XS.icmpNo X40.here hx rfl (hb hby at_117) rfl (teq (hfin)).2 (XS.iconst X40.here hx rfl (hb hby at_120) (XS.goto X40.here hx rfl (pc0 := 121) (pc' := 125) rfl (hb hby at_121) (by decide) (by decide) kK))) ?_
        refine OwnEnd.retW X40 Si0 (by omega) (v := (some (.int (nar .boolean (1 : Int32))))) (fun h => by rw [Bd.returns] at h; cases h) hlk (fun fs hr => retN X40 hx (t := .boolean) Bd.returns (by simp) (hb hby at_125) hr) (by decide) (by decide) (Q := Qlaw Z p0 p1 p2 p3 p4 h0 n0) eh40 ?_
        exact ⟨rfl, N40, K33⟩
      · refine OwnEnd.of (S' := T38.setTop (mkF m 110 #[.val (.int p0), .val (.int p1), .val (.int p2), .val (.int p3), .val (.int p4), .val (.int (2 : Int32)), .val (.int (nar .char p1)), .val (.int (nar .char p2)), .val (.int (nar .char p3)), .val (.int (nar .char p4)), .val (.ref b25), .val (.int (1 : Int32))] [])) (fun _ kK => XS.ifNo X38.here hx rfl (hb hby at_72) rfl ((if0 _ _).trans (feq (hc39)).1) (XS.iload X38.here hx rfl (hb hby at_75) rfl (XS.iconst X38.here hx rfl (hb hby at_77) (XS.icmpYes X38.here hx rfl (pc0 := 78) (pc' := 89) rfl (hb hby at_78) rfl (tlt ((by decide : (2 : Int32) < (3 : Int32)))).1 (by decide) (by decide) (XS.iload X38.here hx rfl (hb hby at_89) rfl (XS.iconst X38.here hx rfl (hb hby at_91) (XS.icmpYes X38.here hx rfl (pc0 := 92) (pc' := 103) rfl (hb hby at_92) rfl (tlt ((by decide : (2 : Int32) < (4 : Int32)))).1 (by decide) (by decide) (XS.iconst X38.here hx rfl (hb hby at_103) (XS.goto X38.here hx rfl (pc0 := 104) (pc' := 108) rfl (hb hby at_104) (by decide) (by decide) (XS.istore X38.here hx rfl (hb hby at_108) rfl (l' := #[.val (.int p0), .val (.int p1), .val (.int p2), .val (.int p3), .val (.int p4), .val (.int (2 : Int32)), .val (.int (nar .char p1)), .val (.int (nar .char p2)), .val (.int (nar .char p3)), .val (.int (nar .char p4)), .val (.ref b25), .val (.int (1 : Int32))]) rfl kK)))))))))) ?_
        refine OwnEnd.of (S' := T38.setTop (mkF m 112 #[.val (.int p0), .val (.int p1), .val (.int p2), .val (.int p3), .val (.int p4), .val (.int (2 : Int32)), .val (.int (nar .char p1)), .val (.int (nar .char p2)), .val (.int (nar .char p3)), .val (.int (nar .char p4)), .val (.ref b25), .val (.int (1 : Int32))] [(.ref b25)])) (fun _ kK => XS.aload X38.here hx rfl (hb hby at_110) rfl rfl kK) ?_
        obtain ⟨_, _, ⟨T41, L41, k41, n41⟩, -, X41, ⟨Lc41, hQ41, l41, y41, z41⟩, st41⟩ := Jvm.LawKit.callS X38 hx (y := own_m23) hown (mvT hZ (own_w G 27 rfl)) (mvT hZ (own_w G 28 rfl)) (mvT hZ (own_w G 29 rfl)) (mvT hZ (own_w G 30 rfl)) (by decide) (backOf (W := 0) (rmis2 l Z a0 G [] b25 t_32 kb_32 N_32 vs_32 cd_32 (nar .char p1) (nar .char p2) T32.heap n0 O33 r32_0 r32_1 r32_2 r32_3 r32_4 hrng) hZ (own_w G 30 rfl) (own_w G 29 rfl) (by decide) (by decide)) (g := (mkF m 112 #[.val (.int p0), .val (.int p1), .val (.int p2), .val (.int p3), .val (.int p4), .val (.int (2 : Int32)), .val (.int (nar .char p1)), .val (.int (nar .char p2)), .val (.int (nar .char p3)), .val (.int (nar .char p4)), .val (.ref b25), .val (.int (1 : Int32))] [(.ref b25)])) rfl (by rw [hml]; rfl) (argsL := [(.ref b25)]) (rest := []) (lenOf pd_18 rfl) rfl (by show 2 * 0 + _ ≤ _; exact Nat.le_of_eq rfl) (hb hby at_112) (fun _ _ => ⟨rfl, eh38, (by decide : 4 + 0 ≤ _), (by decide : 12 + 0 ≤ _)⟩)
        dsimp only [Pt.U, Pt.locs, Pt.cells, Pt.slots] at X41 l41 y41 z41 st41 hQ41
        subst l41 y41 z41
        obtain ⟨rfl, N41q, eh41⟩ := hQ41
        have N41 := Fr.app N38 N41q
        refine OwnEnd.of (S' := T41.setTop (mkF m 115 #[.val (.int p0), .val (.int p1), .val (.int p2), .val (.int p3), .val (.int p4), .val (.int (2 : Int32)), .val (.int (nar .char p1)), .val (.int (nar .char p2)), .val (.int (nar .char p3)), .val (.int (nar .char p4)), .val (.ref b25), .val (.int (1 : Int32))] [(.int (own_isd [(nar .char p1), (nar .char p2)]))])) st41 ?_
        refine OwnEnd.of (S' := T41.setTop (mkF m 117 #[.val (.int p0), .val (.int p1), .val (.int p2), .val (.int p3), .val (.int p4), .val (.int (2 : Int32)), .val (.int (nar .char p1)), .val (.int (nar .char p2)), .val (.int (nar .char p3)), .val (.int (nar .char p4)), .val (.ref b25), .val (.int (1 : Int32))] [(.int (1 : Int32)), (.int (own_isd [(nar .char p1), (nar .char p2)]))])) (fun _ kK => XS.iload X41.here hx rfl (hb hby at_115) rfl kK) ?_
        have hfin : (own_isd [(nar .char p1), (nar .char p2)]) = (1 : Int32) := by simp [own_isd_dig, own_isd_nil, hc36, hc39]
        refine OwnEnd.of (S' := T41.setTop (mkF m 125 #[.val (.int p0), .val (.int p1), .val (.int p2), .val (.int p3), .val (.int p4), .val (.int (2 : Int32)), .val (.int (nar .char p1)), .val (.int (nar .char p2)), .val (.int (nar .char p3)), .val (.int (nar .char p4)), .val (.ref b25), .val (.int (1 : Int32))] [(.int (1 : Int32))])) (fun _ kK => XS.icmpNo X41.here hx rfl (hb hby at_117) rfl (teq (hfin)).2 (XS.iconst X41.here hx rfl (hb hby at_120) (XS.goto X41.here hx rfl (pc0 := 121) (pc' := 125) rfl (hb hby at_121) (by decide) (by decide) kK))) ?_
        refine OwnEnd.retW X41 Si0 (by omega) (v := (some (.int (nar .boolean (1 : Int32))))) (fun h => by rw [Bd.returns] at h; cases h) hlk (fun fs hr => retN X41 hx (t := .boolean) Bd.returns (by simp) (hb hby at_125) hr) (by decide) (by decide) (Q := Qlaw Z p0 p1 p2 p3 p4 h0 n0) eh41 ?_
        exact ⟨rfl, N41, K33⟩
  · rw [hr]
    have hrng : ∀ c ∈ ([(nar .char p1), (nar .char p2), (nar .char p3)] : List Int32), ¬ c < (0 : Int32) ∧ ¬ (65535 : Int32) < c := own_rng3 p1 p2 p3
    refine OwnEnd.of (S' := s₁.setTop (mkF m 20 #[.val (.int p0), .val (.int p1), .val (.int p2), .val (.int p3), .val (.int p4), .val (.int (3 : Int32)), .val (.int (nar .char p1)), .val (.int (nar .char p2)), .val (.int (nar .char p3)), .unset, .unset, .unset] [])) (fun _ kK => XS.istore X0w.here hx rfl (hb hby at_6) rfl (l' := #[.val (.int p0), .val (.int p1), .val (.int p2), .val (.int p3), .val (.int p4), .val (.int (3 : Int32)), .unset, .unset, .unset, .unset, .unset, .unset]) rfl (XS.iloadN X0w.here hx rfl (hb hby at_8) rfl (XS.i2c X0w.here hx rfl (hb hby at_9) rfl (XS.istore X0w.here hx rfl (hb hby at_10) rfl (l' := #[.val (.int p0), .val (.int p1), .val (.int p2), .val (.int p3), .val (.int p4), .val (.int (3 : Int32)), .val (.int (nar .char p1)), .unset, .unset, .unset, .unset, .unset]) rfl (XS.iloadN X0w.here hx rfl (hb hby at_12) rfl (XS.i2c X0w.here hx rfl (hb hby at_13) rfl (XS.istore X0w.here hx rfl (hb hby at_14) rfl (l' := #[.val (.int p0), .val (.int p1), .val (.int p2), .val (.int p3), .val (.int p4), .val (.int (3 : Int32)), .val (.int (nar .char p1)), .val (.int (nar .char p2)), .unset, .unset, .unset, .unset]) rfl (XS.iloadN X0w.here hx rfl (hb hby at_16) rfl (XS.i2c X0w.here hx rfl (hb hby at_17) rfl (XS.istore X0w.here hx rfl (hb hby at_18) rfl (l' := #[.val (.int p0), .val (.int p1), .val (.int p2), .val (.int p3), .val (.int p4), .val (.int (3 : Int32)), .val (.int (nar .char p1)), .val (.int (nar .char p2)), .val (.int (nar .char p3)), .unset, .unset, .unset]) rfl kK)))))))))) ?_
    refine OwnEnd.of (S' := s₁.setTop (mkF m 25 #[.val (.int p0), .val (.int p1), .val (.int p2), .val (.int p3), .val (.int p4), .val (.int (3 : Int32)), .val (.int (nar .char p1)), .val (.int (nar .char p2)), .val (.int (nar .char p3)), .val (.int (nar .char p4)), .unset, .unset] [])) (fun _ kK => XS.iload X0w.here hx rfl (hb hby at_20) rfl (XS.i2c X0w.here hx rfl (hb hby at_22) rfl (XS.istore X0w.here hx rfl (hb hby at_23) rfl (l' := #[.val (.int p0), .val (.int p1), .val (.int p2), .val (.int p3), .val (.int p4), .val (.int (3 : Int32)), .val (.int (nar .char p1)), .val (.int (nar .char p2)), .val (.int (nar .char p3)), .val (.int (nar .char p4)), .unset, .unset]) rfl kK))) ?_
    obtain ⟨T42, h42, X42, e42, E42, A42, D42, -, st42⟩ := newO X0w hx hZ hown (own_w G 1 rfl) (own_w G 2 rfl) (own_w G 3 rfl) e0 (g := (mkF m 25 #[.val (.int p0), .val (.int p1), .val (.int p2), .val (.int p3), .val (.int p4), .val (.int (3 : Int32)), .val (.int (nar .char p1)), .val (.int (nar .char p2)), .val (.int (nar .char p3)), .val (.int (nar .char p4)), .unset, .unset] [])) rfl (hb hby at_25) (by decide) (by decide)
    obtain ⟨b42, g42⟩ : ∃ z, z = Array.size h0 := ⟨_, rfl⟩
    rw [← g42] at A42 D42 st42
    have lt_b42 := own_ltN' A42.lt
    have sz43 := E42.1
    have K43 := K0.ext E42
    have O43 := O0.ext E42
    have R43 := CHr.ext E42 hCH
    have CH43 := R43.1
    have Sf42 : Safe Z consts_1 s.vm h42 b42 := Safe.ext E42 hCH (Safe.new (by omega))
    have F42_value : Fld Z h42 b42 "java/lang/String" "value" "[B" .null := D42 (Or.inr (own_w G 21 rfl)) (ty := (.array .byte)) (by decide)
    have F42_coder : Fld Z h42 b42 "java/lang/String" "coder" "B" (.int (0 : Int32)) := D42 (Or.inr (own_w G 22 rfl)) (ty := .byte) (by decide)
    refine OwnEnd.of (S' := T42.setTop (mkF m 28 #[.val (.int p0), .val (.int p1), .val (.int p2), .val (.int p3), .val (.int p4), .val (.int (3 : Int32)), .val (.int (nar .char p1)), .val (.int (nar .char p2)), .val (.int (nar .char p3)), .val (.int (nar .char p4)), .unset, .unset] [(.ref b42)])) st42 ?_
    refine OwnEnd.of (S' := T42.setTop (mkF m 39 #[.val (.int p0), .val (.int p1), .val (.int p2), .val (.int p3), .val (.int p4), .val (.int (3 : Int32)), .val (.int (nar .char p1)), .val (.int (nar .char p2)), .val (.int (nar .char p3)), .val (.int (nar .char p4)), .unset, .unset] [(.int (nar .char p4)), (.int (nar .char p3)), (.int (nar .char p2)), (.int (nar .char p1)), (.int (3 : Int32)), (.ref b42), (.ref b42)])) (fun _ kK => XS.dup X42.here hx rfl (hb hby at_28) rfl rfl (XS.iload X42.here hx rfl (hb hby at_29) rfl (XS.iload X42.here hx rfl (hb hby at_31) rfl (XS.iload X42.here hx rfl (hb hby at_33) rfl (XS.iload X42.here hx rfl (hb hby at_35) rfl (XS.iload X42.here hx rfl (hb hby at_37) rfl kK)))))) ?_
    obtain ⟨_, _, ⟨T44, L44, k44, n44⟩, -, X44, ⟨Lc44, hQ44, l44, y44, z44⟩, st44⟩ := Jvm.LawKit.callS X42 hx (y := own_m22) hown (mvT hZ (own_w G 4 rfl)) (mvT hZ (own_w G 5 rfl)) (mvT hZ (own_w G 6 rfl)) (mvT hZ (own_w G 7 rfl)) (by decide) (backOf (W := 2) (rmbd3 l Z a0 G [] (nar .char p1) (nar .char p2) (nar .char p3) (nar .char p4) h42 n0 O43 (own_nar_cc _ : nar .char (nar .char p1) = (nar .char p1)) (own_nar_cc _ : nar .char (nar .char p2) = (nar .char p2)) (own_nar_cc _ : nar .char (nar .char p3) = (nar .char p3))) hZ (own_w G 7 rfl) (own_w G 6 rfl) (by decide) (by decide)) (g := (mkF m 39 #[.val (.int p0), .val (.int p1), .val (.int p2), .val (.int p3), .val (.int p4), .val (.int (3 : Int32)), .val (.int (nar .char p1)), .val (.int (nar .char p2)), .val (.int (nar .char p3)), .val (.int (nar .char p4)), .unset, .unset] [(.int (nar .char p4)), (.int (nar .char p3)), (.int (nar .char p2)), (.int (nar .char p1)), (.int (3 : Int32)), (.ref b42), (.ref b42)])) rfl (by rw [hml]; rfl) (argsL := [(.int (3 : Int32)), (.int (nar .char p1)), (.int (nar .char p2)), (.int (nar .char p3)), (.int (nar .char p4))]) (rest := [(.ref b42), (.ref b42)]) (lenOf pd_16 rfl) rfl (by show 2 * 0 + _ ≤ _; exact Nat.le_of_eq rfl) (hb hby at_39) (fun _ _ => ⟨rfl, e42, (by decide : 1 + 1 ≤ _), (by decide : 4 + 3 ≤ _)⟩)
    dsimp only [Pt.U, Pt.locs, Pt.cells, Pt.slots] at X44 l44 y44 z44 st44 hQ44
    subst l44 y44 z44
    obtain ⟨b_44, kC_44, rfl, N44q, Kq44, r44_0, r44_1⟩ := hQ44
    have N44 := Fr.app N0 N44q
    have sz45 := Kq44.1
    have K45 := K43.trans Kq44 (own_all0 )
    have O45 := O43.keep Kq44 (own_all0 )
    have R45 := CHr.keep Kq44 (sf0) CH43
    have CH45 := R45.1
    have ltr44_0 := own_ltN' r44_0.lt
    refine OwnEnd.of (S' := T44.setTop (mkF m 42 #[.val (.int p0), .val (.int p1), .val (.int p2), .val (.int p3), .val (.int p4), .val (.int (3 : Int32)), .val (.int (nar .char p1)), .val (.int (nar .char p2)), .val (.int (nar .char p3)), .val (.int (nar .char p4)), .unset, .unset] [(.ref b_44), (.ref b42), (.ref b42)])) st44 ?_
    have f46 : Exa Z T44.heap b42 "java/lang/String" := (A42.keep Kq44)
    have f47 : Fld Z T44.heap b42 "java/lang/String" "value" "[B" .null := (F42_value.keep Kq44 nin0)
    have f48 : Fld Z T44.heap b42 "java/lang/String" "coder" "B" (.int (0 : Int32)) := (F42_coder.keep Kq44 nin0)
    obtain ⟨_, _, ⟨T49, L49, k49, n49⟩, -, X49, ⟨Lc49, hQ49, l49, y49, z49⟩, st49⟩ := Jvm.Stand.specialBack X44 hx (y := own_m1) rfl hown (mvT hZ (own_w G 9 rfl)) (mvT hZ (own_w G 10 rfl)) (mvT hZ (own_w G 11 rfl)) (by decide) (backOf (W := 1) (rmnw3 l Z a0 G [] b42 b_44 .null (.int (0 : Int32)) kC_44 (.int (0 : Int32)) (nar .char p1) (nar .char p2) (nar .char p3) T44.heap n0 O45 f46 f47 f48 (by omega) r44_0 hrng (own_ne (by omega) : b42 ≠ b_44)) hZ (own_w G 11 rfl) (own_w G 3 rfl) (by decide) (by decide)) (g := (mkF m 42 #[.val (.int p0), .val (.int p1), .val (.int p2), .val (.int p3), .val (.int p4), .val (.int (3 : Int32)), .val (.int (nar .char p1)), .val (.int (nar .char p2)), .val (.int (nar .char p3)), .val (.int (nar .char p4)), .unset, .unset] [(.ref b_44), (.ref b42), (.ref b42)])) rfl (by rw [hml]; rfl) (Steps.refl _) (a := b42) (argsL := [(.ref b_44)]) (rest := [(.ref b42)]) (lenOf pd_17 rfl) rfl (by show 2 * 0 + _ ≤ _; exact Nat.le_of_eq rfl) (hb hby at_42) (fun _ _ => ⟨rfl, rfl, (by decide : 2 + 2 ≤ _), (by decide : 7 + 9 ≤ _)⟩)
    dsimp only [Pt.U, Pt.locs, Pt.cells, Pt.slots] at X49 l49 y49 z49 st49 hQ49
    subst l49 y49 z49
    obtain ⟨t_49, kb_49, N_49, vs_49, cd_49, rfl, N49q, Kq49, r49_0, r49_1, r49_2, r49_3, r49_4, r49_5⟩ := hQ49
    have N49 := Fr.app N44 N49q
    have sz50 := Kq49.1
    have K50 := K45.trans Kq49 (own_all1 (Or.inr (by omega)))
    have O50 := O45.keep Kq49 (own_all1 (by omega))
    have f51 : Safe Z consts_1 s.vm T44.heap b42 := (Safe.keep Kq44 (sf0) CH43 Sf42)
    have R50 := CHr.keep Kq49 (sfS f51 sf0) CH45
    have CH50 := R50.1
    have ltr49_0 := own_ltN' r49_0.lt
    have ltr49_1 := own_ltN' r49_1.lt
    have ltr49_2 := own_ltN' r49_2.lt
    have ltr49_3 := own_ltN' r49_3.lt
    refine OwnEnd.tr (S' := T49.setTop (mkF m 45 #[.val (.int p0), .val (.int p1), .val (.int p2), .val (.int p3), .val (.int p4), .val (.int (3 : Int32)), .val (.int (nar .char p1)), .val (.int (nar .char p2)), .val (.int (nar .char p3)), .val (.int (nar .char p4)), .unset, .unset] [(.ref b42)])) st49 ?_
    refine OwnEnd.of (S' := T49.setTop (mkF m 55 #[.val (.int p0), .val (.int p1), .val (.int p2), .val (.int p3), .val (.int p4), .val (.int (3 : Int32)), .val (.int (nar .char p1)), .val (.int (nar .char p2)), .val (.int (nar .char p3)), .val (.int (nar .char p4)), .val (.ref b42), .unset] [(.int (nar .char p1))])) (fun _ kK => XS.astore X49.here hx rfl (hb hby at_45) rfl rfl (l' := #[.val (.int p0), .val (.int p1), .val (.int p2), .val (.int p3), .val (.int p4), .val (.int (3 : Int32)), .val (.int (nar .char p1)), .val (.int (nar .char p2)), .val (.int (nar .char p3)), .val (.int (nar .char p4)), .val (.ref b42), .unset]) rfl (XS.iload X49.here hx rfl (hb hby at_47) rfl (XS.iconst X49.here hx rfl (hb hby at_49) (XS.icmpNo X49.here hx rfl (hb hby at_50) rfl (flt ((by decide : ¬ ((3 : Int32) < (1 : Int32))))).1 (XS.iload X49.here hx rfl (hb hby at_53) rfl kK))))) ?_
    obtain ⟨_, _, ⟨T52, L52, k52, n52⟩, -, X52, ⟨Lc52, hQ52, l52, y52, z52⟩, st52⟩ := Jvm.LawKit.callS X49 hx (y := own_m21) hown (mvT hZ (own_w G 47 rfl)) (mvT hZ (own_w G 48 rfl)) (mvT hZ (own_w G 6 rfl)) (mvT hZ (own_w G 49 rfl)) (by decide) (backOf (W := 0) (rmdg l Z a0 G [] (nar .char p1) T49.heap n0 O50 ) hZ (own_w G 49 rfl) (own_w G 6 rfl) (by decide) (by decide)) (g := (mkF m 55 #[.val (.int p0), .val (.int p1), .val (.int p2), .val (.int p3), .val (.int p4), .val (.int (3 : Int32)), .val (.int (nar .char p1)), .val (.int (nar .char p2)), .val (.int (nar .char p3)), .val (.int (nar .char p4)), .val (.ref b42), .unset] [(.int (nar .char p1))])) rfl (by rw [hml]; rfl) (argsL := [(.int (nar .char p1))]) (rest := []) (lenOf pd_19 rfl) rfl (by show 2 * 0 + _ ≤ _; exact Nat.le_of_eq rfl) (hb hby at_55) (fun _ _ => ⟨rfl, rfl, (by decide : 4 + 0 ≤ _), (by decide : 16 + 0 ≤ _)⟩)
    dsimp only [Pt.U, Pt.locs, Pt.cells, Pt.slots] at X52 l52 y52 z52 st52 hQ52
    subst l52 y52 z52
    obtain ⟨rfl, N52q, eh52⟩ := hQ52
    have N52 := Fr.app N49 N52q
    refine OwnEnd.of (S' := T52.setTop (mkF m 58 #[.val (.int p0), .val (.int p1), .val (.int p2), .val (.int p3), .val (.int p4), .val (.int (3 : Int32)), .val (.int (nar .char p1)), .val (.int (nar .char p2)), .val (.int (nar .char p3)), .val (.int (nar .char p4)), .val (.ref b42), .unset] [(.int (own_dig (nar .char p1)))])) st52 ?_
    rcases Decidable.em ((own_dig (nar .char p1)) = (0 : Int32)) with hc53 | hc53
    · refine OwnEnd.of (S' := T52.setTop (mkF m 112 #[.val (.int p0), .val (.int p1), .val (.int p2), .val (.int p3), .val (.int p4), .val (.int (3 : Int32)), .val (.int (nar .char p1)), .val (.int (nar .char p2)), .val (.int (nar .char p3)), .val (.int (nar .char p4)), .val (.ref b42), .val (.int (0 : Int32))] [(.ref b42)])) (fun _ kK => XS.ifYes X52.here hx rfl (pc0 := 58) (pc' := 107) rfl (hb hby at_58) rfl ((if0 _ _).trans (teq (hc53)).1) (by decide) (by decide) (XS.iconst X52.here hx rfl (hb hby at_107) (XS.istore X52.here hx rfl (hb hby at_108) rfl (l' := #[.val (.int p0), .val (.int p1), .val (.int p2), .val (.int p3), .val (.int p4), .val (.int (3 : Int32)), .val (.int (nar .char p1)), .val (.int (nar .char p2)), .val (.int (nar .char p3)), .val (.int (nar .char p4)), .val (.ref b42), .val (.int (0 : Int32))]) rfl (XS.aload X52.here hx rfl (hb hby at_110) rfl rfl kK)))) ?_
      obtain ⟨_, _, ⟨T54, L54, k54, n54⟩, -, X54, ⟨Lc54, hQ54, l54, y54, z54⟩, st54⟩ := Jvm.LawKit.callS X52 hx (y := own_m23) hown (mvT hZ (own_w G 27 rfl)) (mvT hZ (own_w G 28 rfl)) (mvT hZ (own_w G 29 rfl)) (mvT hZ (own_w G 30 rfl)) (by decide) (backOf (W := 0) (rmis3 l Z a0 G [] b42 t_49 kb_49 N_49 vs_49 cd_49 (nar .char p1) (nar .char p2) (nar .char p3) T49.heap n0 O50 r49_0 r49_1 r49_2 r49_3 r49_4 hrng) hZ (own_w G 30 rfl) (own_w G 29 rfl) (by decide) (by decide)) (g := (mkF m 112 #[.val (.int p0), .val (.int p1), .val (.int p2), .val (.int p3), .val (.int p4), .val (.int (3 : Int32)), .val (.int (nar .char p1)), .val (.int (nar .char p2)), .val (.int (nar .char p3)), .val (.int (nar .char p4)), .val (.ref b42), .val (.int (0 : Int32))] [(.ref b42)])) rfl (by rw [hml]; rfl) (argsL := [(.ref b42)]) (rest := []) (lenOf pd_18 rfl) rfl (by show 2 * 0 + _ ≤ _; exact Nat.le_of_eq rfl) (hb hby at_112) (fun _ _ => ⟨rfl, eh52, (by decide : 4 + 0 ≤ _), (by decide : 16 + 0 ≤ _)⟩)
      dsimp only [Pt.U, Pt.locs, Pt.cells, Pt.slots] at X54 l54 y54 z54 st54 hQ54
      subst l54 y54 z54
      obtain ⟨rfl, N54q, eh54⟩ := hQ54
      have N54 := Fr.app N52 N54q
      refine OwnEnd.of (S' := T54.setTop (mkF m 115 #[.val (.int p0), .val (.int p1), .val (.int p2), .val (.int p3), .val (.int p4), .val (.int (3 : Int32)), .val (.int (nar .char p1)), .val (.int (nar .char p2)), .val (.int (nar .char p3)), .val (.int (nar .char p4)), .val (.ref b42), .val (.int (0 : Int32))] [(.int (own_isd [(nar .char p1), (nar .char p2), (nar .char p3)]))])) st54 ?_
      refine OwnEnd.of (S' := T54.setTop (mkF m 117 #[.val (.int p0), .val (.int p1), .val (.int p2), .val (.int p3), .val (.int p4), .val (.int (3 : Int32)), .val (.int (nar .char p1)), .val (.int (nar .char p2)), .val (.int (nar .char p3)), .val (.int (nar .char p4)), .val (.ref b42), .val (.int (0 : Int32))] [(.int (0 : Int32)), (.int (own_isd [(nar .char p1), (nar .char p2), (nar .char p3)]))])) (fun _ kK => XS.iload X54.here hx rfl (hb hby at_115) rfl kK) ?_
      have hfin : (own_isd [(nar .char p1), (nar .char p2), (nar .char p3)]) = (0 : Int32) := by simp [own_isd_dig, own_isd_nil, hc53]
      refine OwnEnd.of (S' := T54.setTop (mkF m 125 #[.val (.int p0), .val (.int p1), .val (.int p2), .val (.int p3), .val (.int p4), .val (.int (3 : Int32)), .val (.int (nar .char p1)), .val (.int (nar .char p2)), .val (.int (nar .char p3)), .val (.int (nar .char p4)), .val (.ref b42), .val (.int (0 : Int32))] [(.int (1 : Int32))])) (fun _ kK => XS.icmpNo X54.here hx rfl (hb hby at_117) rfl (teq (hfin)).2 (XS.iconst X54.here hx rfl (hb hby at_120) (XS.goto X54.here hx rfl (pc0 := 121) (pc' := 125) rfl (hb hby at_121) (by decide) (by decide) kK))) ?_
      refine OwnEnd.retW X54 Si0 (by omega) (v := (some (.int (nar .boolean (1 : Int32))))) (fun h => by rw [Bd.returns] at h; cases h) hlk (fun fs hr => retN X54 hx (t := .boolean) Bd.returns (by simp) (hb hby at_125) hr) (by decide) (by decide) (Q := Qlaw Z p0 p1 p2 p3 p4 h0 n0) eh54 ?_
      exact ⟨rfl, N54, K50⟩
    · refine OwnEnd.of (S' := T52.setTop (mkF m 69 #[.val (.int p0), .val (.int p1), .val (.int p2), .val (.int p3), .val (.int p4), .val (.int (3 : Int32)), .val (.int (nar .char p1)), .val (.int (nar .char p2)), .val (.int (nar .char p3)), .val (.int (nar .char p4)), .val (.ref b42), .unset] [(.int (nar .char p2))])) (fun _ kK => XS.ifNo X52.here hx rfl (hb hby at_58) rfl ((if0 _ _).trans (feq (hc53)).1) (XS.iload X52.here hx rfl (hb hby at_61) rfl (XS.iconst X52.here hx rfl (hb hby at_63) (XS.icmpNo X52.here hx rfl (hb hby at_64) rfl (flt ((by decide : ¬ ((3 : Int32) < (2 : Int32))))).1 (XS.iload X52.here hx rfl (hb hby at_67) rfl kK))))) ?_
      obtain ⟨_, _, ⟨T55, L55, k55, n55⟩, -, X55, ⟨Lc55, hQ55, l55, y55, z55⟩, st55⟩ := Jvm.LawKit.callS X52 hx (y := own_m21) hown (mvT hZ (own_w G 47 rfl)) (mvT hZ (own_w G 48 rfl)) (mvT hZ (own_w G 6 rfl)) (mvT hZ (own_w G 49 rfl)) (by decide) (backOf (W := 0) (rmdg l Z a0 G [] (nar .char p2) T49.heap n0 O50 ) hZ (own_w G 49 rfl) (own_w G 6 rfl) (by decide) (by decide)) (g := (mkF m 69 #[.val (.int p0), .val (.int p1), .val (.int p2), .val (.int p3), .val (.int p4), .val (.int (3 : Int32)), .val (.int (nar .char p1)), .val (.int (nar .char p2)), .val (.int (nar .char p3)), .val (.int (nar .char p4)), .val (.ref b42), .unset] [(.int (nar .char p2))])) rfl (by rw [hml]; rfl) (argsL := [(.int (nar .char p2))]) (rest := []) (lenOf pd_19 rfl) rfl (by show 2 * 0 + _ ≤ _; exact Nat.le_of_eq rfl) (hb hby at_69) (fun _ _ => ⟨rfl, eh52, (by decide : 4 + 0 ≤ _), (by decide : 16 + 0 ≤ _)⟩)
      dsimp only [Pt.U, Pt.locs, Pt.cells, Pt.slots] at X55 l55 y55 z55 st55 hQ55
      subst l55 y55 z55
      obtain ⟨rfl, N55q, eh55⟩ := hQ55
      have N55 := Fr.app N52 N55q
      refine OwnEnd.of (S' := T55.setTop (mkF m 72 #[.val (.int p0), .val (.int p1), .val (.int p2), .val (.int p3), .val (.int p4), .val (.int (3 : Int32)), .val (.int (nar .char p1)), .val (.int (nar .char p2)), .val (.int (nar .char p3)), .val (.int (nar .char p4)), .val (.ref b42), .unset] [(.int (own_dig (nar .char p2)))])) st55 ?_
      rcases Decidable.em ((own_dig (nar .char p2)) = (0 : Int32)) with hc56 | hc56
      · refine OwnEnd.of (S' := T55.setTop (mkF m 112 #[.val (.int p0), .val (.int p1), .val (.int p2), .val (.int p3), .val (.int p4), .val (.int (3 : Int32)), .val (.int (nar .char p1)), .val (.int (nar .char p2)), .val (.int (nar .char p3)), .val (.int (nar .char p4)), .val (.ref b42), .val (.int (0 : Int32))] [(.ref b42)])) (fun _ kK => XS.ifYes X55.here hx rfl (pc0 := 72) (pc' := 107) rfl (hb hby at_72) rfl ((if0 _ _).trans (teq (hc56)).1) (by decide) (by decide) (XS.iconst X55.here hx rfl (hb hby at_107) (XS.istore X55.here hx rfl (hb hby at_108) rfl (l' := #[.val (.int p0), .val (.int p1), .val (.int p2), .val (.int p3), .val (.int p4), .val (.int (3 : Int32)), .val (.int (nar .char p1)), .val (.int (nar .char p2)), .val (.int (nar .char p3)), .val (.int (nar .char p4)), .val (.ref b42), .val (.int (0 : Int32))]) rfl (XS.aload X55.here hx rfl (hb hby at_110) rfl rfl kK)))) ?_
        obtain ⟨_, _, ⟨T57, L57, k57, n57⟩, -, X57, ⟨Lc57, hQ57, l57, y57, z57⟩, st57⟩ := Jvm.LawKit.callS X55 hx (y := own_m23) hown (mvT hZ (own_w G 27 rfl)) (mvT hZ (own_w G 28 rfl)) (mvT hZ (own_w G 29 rfl)) (mvT hZ (own_w G 30 rfl)) (by decide) (backOf (W := 0) (rmis3 l Z a0 G [] b42 t_49 kb_49 N_49 vs_49 cd_49 (nar .char p1) (nar .char p2) (nar .char p3) T49.heap n0 O50 r49_0 r49_1 r49_2 r49_3 r49_4 hrng) hZ (own_w G 30 rfl) (own_w G 29 rfl) (by decide) (by decide)) (g := (mkF m 112 #[.val (.int p0), .val (.int p1), .val (.int p2), .val (.int p3), .val (.int p4), .val (.int (3 : Int32)), .val (.int (nar .char p1)), .val (.int (nar .char p2)), .val (.int (nar .char p3)), .val (.int (nar .char p4)), .val (.ref b42), .val (.int (0 : Int32))] [(.ref b42)])) rfl (by rw [hml]; rfl) (argsL := [(.ref b42)]) (rest := []) (lenOf pd_18 rfl) rfl (by show 2 * 0 + _ ≤ _; exact Nat.le_of_eq rfl) (hb hby at_112) (fun _ _ => ⟨rfl, eh55, (by decide : 4 + 0 ≤ _), (by decide : 16 + 0 ≤ _)⟩)
        dsimp only [Pt.U, Pt.locs, Pt.cells, Pt.slots] at X57 l57 y57 z57 st57 hQ57
        subst l57 y57 z57
        obtain ⟨rfl, N57q, eh57⟩ := hQ57
        have N57 := Fr.app N55 N57q
        refine OwnEnd.of (S' := T57.setTop (mkF m 115 #[.val (.int p0), .val (.int p1), .val (.int p2), .val (.int p3), .val (.int p4), .val (.int (3 : Int32)), .val (.int (nar .char p1)), .val (.int (nar .char p2)), .val (.int (nar .char p3)), .val (.int (nar .char p4)), .val (.ref b42), .val (.int (0 : Int32))] [(.int (own_isd [(nar .char p1), (nar .char p2), (nar .char p3)]))])) st57 ?_
        refine OwnEnd.of (S' := T57.setTop (mkF m 117 #[.val (.int p0), .val (.int p1), .val (.int p2), .val (.int p3), .val (.int p4), .val (.int (3 : Int32)), .val (.int (nar .char p1)), .val (.int (nar .char p2)), .val (.int (nar .char p3)), .val (.int (nar .char p4)), .val (.ref b42), .val (.int (0 : Int32))] [(.int (0 : Int32)), (.int (own_isd [(nar .char p1), (nar .char p2), (nar .char p3)]))])) (fun _ kK => XS.iload X57.here hx rfl (hb hby at_115) rfl kK) ?_
        have hfin : (own_isd [(nar .char p1), (nar .char p2), (nar .char p3)]) = (0 : Int32) := by simp [own_isd_dig, own_isd_nil, hc53, hc56]
        refine OwnEnd.of (S' := T57.setTop (mkF m 125 #[.val (.int p0), .val (.int p1), .val (.int p2), .val (.int p3), .val (.int p4), .val (.int (3 : Int32)), .val (.int (nar .char p1)), .val (.int (nar .char p2)), .val (.int (nar .char p3)), .val (.int (nar .char p4)), .val (.ref b42), .val (.int (0 : Int32))] [(.int (1 : Int32))])) (fun _ kK => XS.icmpNo X57.here hx rfl (hb hby at_117) rfl (teq (hfin)).2 (XS.iconst X57.here hx rfl (hb hby at_120) (XS.goto X57.here hx rfl (pc0 := 121) (pc' := 125) rfl (hb hby at_121) (by decide) (by decide) kK))) ?_
        refine OwnEnd.retW X57 Si0 (by omega) (v := (some (.int (nar .boolean (1 : Int32))))) (fun h => by rw [Bd.returns] at h; cases h) hlk (fun fs hr => retN X57 hx (t := .boolean) Bd.returns (by simp) (hb hby at_125) hr) (by decide) (by decide) (Q := Qlaw Z p0 p1 p2 p3 p4 h0 n0) eh57 ?_
        exact ⟨rfl, N57, K50⟩
      · refine OwnEnd.of (S' := T55.setTop (mkF m 83 #[.val (.int p0), .val (.int p1), .val (.int p2), .val (.int p3), .val (.int p4), .val (.int (3 : Int32)), .val (.int (nar .char p1)), .val (.int (nar .char p2)), .val (.int (nar .char p3)), .val (.int (nar .char p4)), .val (.ref b42), .unset] [(.int (nar .char p3))])) (fun _ kK => XS.ifNo X55.here hx rfl (hb hby at_72) rfl ((if0 _ _).trans (feq (hc56)).1) (XS.iload X55.here hx rfl (hb hby at_75) rfl (XS.iconst X55.here hx rfl (hb hby at_77) (XS.icmpNo X55.here hx rfl (hb hby at_78) rfl (flt ((by decide : ¬ ((3 : Int32) < (3 : Int32))))).1 (XS.iload X55.here hx rfl (hb hby at_81) rfl kK))))) ?_
        obtain ⟨_, _, ⟨T58, L58, k58, n58⟩, -, X58, ⟨Lc58, hQ58, l58, y58, z58⟩, st58⟩ := Jvm.LawKit.callS X55 hx (y := own_m21) hown (mvT hZ (own_w G 47 rfl)) (mvT hZ (own_w G 48 rfl)) (mvT hZ (own_w G 6 rfl)) (mvT hZ (own_w G 49 rfl)) (by decide) (backOf (W := 0) (rmdg l Z a0 G [] (nar .char p3) T49.heap n0 O50 ) hZ (own_w G 49 rfl) (own_w G 6 rfl) (by decide) (by decide)) (g := (mkF m 83 #[.val (.int p0), .val (.int p1), .val (.int p2), .val (.int p3), .val (.int p4), .val (.int (3 : Int32)), .val (.int (nar .char p1)), .val (.int (nar .char p2)), .val (.int (nar .char p3)), .val (.int (nar .char p4)), .val (.ref b42), .unset] [(.int (nar .char p3))])) rfl (by rw [hml]; rfl) (argsL := [(.int (nar .char p3))]) (rest := []) (lenOf pd_19 rfl) rfl (by show 2 * 0 + _ ≤ _; exact Nat.le_of_eq rfl) (hb hby at_83) (fun _ _ => ⟨rfl, eh55, (by decide : 4 + 0 ≤ _), (by decide : 16 + 0 ≤ _)⟩)
        dsimp only [Pt.U, Pt.locs, Pt.cells, Pt.slots] at X58 l58 y58 z58 st58 hQ58
        subst l58 y58 z58
        obtain ⟨rfl, N58q, eh58⟩ := hQ58
        have N58 := Fr.app N55 N58q
        refine OwnEnd.of (S' := T58.setTop (mkF m 86 #[.val (.int p0), .val (.int p1), .val (.int p2), .val (.int p3), .val (.int p4), .val (.int (3 : Int32)), .val (.int (nar .char p1)), .val (.int (nar .char p2)), .val (.int (nar .char p3)), .val (.int (nar .char p4)), .val (.ref b42), .unset] [(.int (own_dig (nar .char p3)))])) st58 ?_
        rcases Decidable.em ((own_dig (nar .char p3)) = (0 : Int32)) with hc59 | hc59
        · refine OwnEnd.of (S' := T58.setTop (mkF m 112 #[.val (.int p0), .val (.int p1), .val (.int p2), .val (.int p3), .val (.int p4), .val (.int (3 : Int32)), .val (.int (nar .char p1)), .val (.int (nar .char p2)), .val (.int (nar .char p3)), .val (.int (nar .char p4)), .val (.ref b42), .val (.int (0 : Int32))] [(.ref b42)])) (fun _ kK => XS.ifYes X58.here hx rfl (pc0 := 86) (pc' := 107) rfl (hb hby at_86) rfl ((if0 _ _).trans (teq (hc59)).1) (by decide) (by decide) (XS.iconst X58.here hx rfl (hb hby at_107) (XS.istore X58.here hx rfl (hb hby at_108) rfl (l' := #[.val (.int p0), .val (.int p1), .val (.int p2), .val (.int p3), .val (.int p4), .val (.int (3 : Int32)), .val (.int (nar .char p1)), .val (.int (nar .char p2)), .val (.int (nar .char p3)), .val (.int (nar .char p4)), .val (.ref b42), .val (.int (0 : Int32))]) rfl (XS.aload X58.here hx rfl (hb hby at_110) rfl rfl kK)))) ?_
          obtain ⟨_, _, ⟨T60, L60, k60, n60⟩, -, X60, ⟨Lc60, hQ60, l60, y60, z60⟩, st60⟩ := Jvm.LawKit.callS X58 hx (y := own_m23) hown (mvT hZ (own_w G 27 rfl)) (mvT hZ (own_w G 28 rfl)) (mvT hZ (own_w G 29 rfl)) (mvT hZ (own_w G 30 rfl)) (by decide) (backOf (W := 0) (rmis3 l Z a0 G [] b42 t_49 kb_49 N_49 vs_49 cd_49 (nar .char p1) (nar .char p2) (nar .char p3) T49.heap n0 O50 r49_0 r49_1 r49_2 r49_3 r49_4 hrng) hZ (own_w G 30 rfl) (own_w G 29 rfl) (by decide) (by decide)) (g := (mkF m 112 #[.val (.int p0), .val (.int p1), .val (.int p2), .val (.int p3), .val (.int p4), .val (.int (3 : Int32)), .val (.int (nar .char p1)), .val (.int (nar .char p2)), .val (.int (nar .char p3)), .val (.int (nar .char p4)), .val (.ref b42), .val (.int (0 : Int32))] [(.ref b42)])) rfl (by rw [hml]; rfl) (argsL := [(.ref b42)]) (rest := []) (lenOf pd_18 rfl) rfl (by show 2 * 0 + _ ≤ _; exact Nat.le_of_eq rfl) (hb hby at_112) (fun _ _ => ⟨rfl, eh58, (by decide : 4 + 0 ≤ _), (by decide : 16 + 0 ≤ _)⟩)
          dsimp only [Pt.U, Pt.locs, Pt.cells, Pt.slots] at X60 l60 y60 z60 st60 hQ60
          subst l60 y60 z60
          obtain ⟨rfl, N60q, eh60⟩ := hQ60
          have N60 := Fr.app N58 N60q
          refine OwnEnd.of (S' := T60.setTop (mkF m 115 #[.val (.int p0), .val (.int p1), .val (.int p2), .val (.int p3), .val (.int p4), .val (.int (3 : Int32)), .val (.int (nar .char p1)), .val (.int (nar .char p2)), .val (.int (nar .char p3)), .val (.int (nar .char p4)), .val (.ref b42), .val (.int (0 : Int32))] [(.int (own_isd [(nar .char p1), (nar .char p2), (nar .char p3)]))])) st60 ?_
          refine OwnEnd.of (S' := T60.setTop (mkF m 117 #[.val (.int p0), .val (.int p1), .val (.int p2), .val (.int p3), .val (.int p4), .val (.int (3 : Int32)), .val (.int (nar .char p1)), .val (.int (nar .char p2)), .val (.int (nar .char p3)), .val (.int (nar .char p4)), .val (.ref b42), .val (.int (0 : Int32))] [(.int (0 : Int32)), (.int (own_isd [(nar .char p1), (nar .char p2), (nar .char p3)]))])) (fun _ kK => XS.iload X60.here hx rfl (hb hby at_115) rfl kK) ?_
          have hfin : (own_isd [(nar .char p1), (nar .char p2), (nar .char p3)]) = (0 : Int32) := by simp [own_isd_dig, own_isd_nil, hc53, hc56, hc59]
          refine OwnEnd.of (S' := T60.setTop (mkF m 125 #[.val (.int p0), .val (.int p1), .val (.int p2), .val (.int p3), .val (.int p4), .val (.int (3 : Int32)), .val (.int (nar .char p1)), .val (.int (nar .char p2)), .val (.int (nar .char p3)), .val (.int (nar .char p4)), .val (.ref b42), .val (.int (0 : Int32))] [(.int (1 : Int32))])) (fun _ kK => XS.icmpNo X60.here hx rfl (hb hby at_117) rfl (teq (hfin)).2 (XS.iconst X60.here hx rfl (hb hby at_120) (XS.goto X60.here hx rfl (pc0 := 121) (pc' := 125) rfl (hb hby at_121) (by decide) (by decide) kK))) ?_
          refine OwnEnd.retW X60 Si0 (by omega) (v := (some (.int (nar .boolean (1 : Int32))))) (fun h => by rw [Bd.returns] at h; cases h) hlk (fun fs hr => retN X60 hx (t := .boolean) Bd.returns (by simp) (hb hby at_125) hr) (by decide) (by decide) (Q := Qlaw Z p0 p1 p2 p3 p4 h0 n0) eh60 ?_
          exact ⟨rfl, N60, K50⟩
        · refine OwnEnd.of (S' := T58.setTop (mkF m 112 #[.val (.int p0), .val (.int p1), .val (.int p2), .val (.int p3), .val (.int p4), .val (.int (3 : Int32)), .val (.int (nar .char p1)), .val (.int (nar .char p2)), .val (.int (nar .char p3)), .val (.int (nar .char p4)), .val (.ref b42), .val (.int (1 : Int32))] [(.ref b42)])) (fun _ kK => XS.ifNo X58.here hx rfl (hb hby at_86) rfl ((if0 _ _).trans (feq (hc59)).1) (XS.iload X58.here hx rfl (hb hby at_89) rfl (XS.iconst X58.here hx rfl (hb hby at_91) (XS.icmpYes X58.here hx rfl (pc0 := 92) (pc' := 103) rfl (hb hby at_92) rfl (tlt ((by decide : (3 : Int32) < (4 : Int32)))).1 (by decide) (by decide) (XS.iconst X58.here hx rfl (hb hby at_103) (XS.goto X58.here hx rfl (pc0 := 104) (pc' := 108) rfl (hb hby at_104) (by decide) (by decide) (XS.istore X58.here hx rfl (hb hby at_108) rfl (l' := #[.val (.int p0), .val (.int p1), .val (.int p2), .val (.int p3), .val (.int p4), .val (.int (3 : Int32)), .val (.int (nar .char p1)), .val (.int (nar .char p2)), .val (.int (nar .char p3)), .val (.int (nar .char p4)), .val (.ref b42), .val (.int (1 : Int32))]) rfl (XS.aload X58.here hx rfl (hb hby at_110) rfl rfl kK)))))))) ?_
          obtain ⟨_, _, ⟨T61, L61, k61, n61⟩, -, X61, ⟨Lc61, hQ61, l61, y61, z61⟩, st61⟩ := Jvm.LawKit.callS X58 hx (y := own_m23) hown (mvT hZ (own_w G 27 rfl)) (mvT hZ (own_w G 28 rfl)) (mvT hZ (own_w G 29 rfl)) (mvT hZ (own_w G 30 rfl)) (by decide) (backOf (W := 0) (rmis3 l Z a0 G [] b42 t_49 kb_49 N_49 vs_49 cd_49 (nar .char p1) (nar .char p2) (nar .char p3) T49.heap n0 O50 r49_0 r49_1 r49_2 r49_3 r49_4 hrng) hZ (own_w G 30 rfl) (own_w G 29 rfl) (by decide) (by decide)) (g := (mkF m 112 #[.val (.int p0), .val (.int p1), .val (.int p2), .val (.int p3), .val (.int p4), .val (.int (3 : Int32)), .val (.int (nar .char p1)), .val (.int (nar .char p2)), .val (.int (nar .char p3)), .val (.int (nar .char p4)), .val (.ref b42), .val (.int (1 : Int32))] [(.ref b42)])) rfl (by rw [hml]; rfl) (argsL := [(.ref b42)]) (rest := []) (lenOf pd_18 rfl) rfl (by show 2 * 0 + _ ≤ _; exact Nat.le_of_eq rfl) (hb hby at_112) (fun _ _ => ⟨rfl, eh58, (by decide : 4 + 0 ≤ _), (by decide : 16 + 0 ≤ _)⟩)
          dsimp only [Pt.U, Pt.locs, Pt.cells, Pt.slots] at X61 l61 y61 z61 st61 hQ61
          subst l61 y61 z61
          obtain ⟨rfl, N61q, eh61⟩ := hQ61
          have N61 := Fr.app N58 N61q
          refine OwnEnd.of (S' := T61.setTop (mkF m 115 #[.val (.int p0), .val (.int p1), .val (.int p2), .val (.int p3), .val (.int p4), .val (.int (3 : Int32)), .val (.int (nar .char p1)), .val (.int (nar .char p2)), .val (.int (nar .char p3)), .val (.int (nar .char p4)), .val (.ref b42), .val (.int (1 : Int32))] [(.int (own_isd [(nar .char p1), (nar .char p2), (nar .char p3)]))])) st61 ?_
          refine OwnEnd.of (S' := T61.setTop (mkF m 117 #[.val (.int p0), .val (.int p1), .val (.int p2), .val (.int p3), .val (.int p4), .val (.int (3 : Int32)), .val (.int (nar .char p1)), .val (.int (nar .char p2)), .val (.int (nar .char p3)), .val (.int (nar .char p4)), .val (.ref b42), .val (.int (1 : Int32))] [(.int (1 : Int32)), (.int (own_isd [(nar .char p1), (nar .char p2), (nar .char p3)]))])) (fun _ kK => XS.iload X61.here hx rfl (hb hby at_115) rfl kK) ?_
          have hfin : (own_isd [(nar .char p1), (nar .char p2), (nar .char p3)]) = (1 : Int32) := by simp [own_isd_dig, own_isd_nil, hc53, hc56, hc59]
          refine OwnEnd.of (S' := T61.setTop (mkF m 125 #[.val (.int p0), .val (.int p1), .val (.int p2), .val (.int p3), .val (.int p4), .val (.int (3 : Int32)), .val (.int (nar .char p1)), .val (.int (nar .char p2)), .val (.int (nar .char p3)), .val (.int (nar .char p4)), .val (.ref b42), .val (.int (1 : Int32))] [(.int (1 : Int32))])) (fun _ kK => XS.icmpNo X61.here hx rfl (hb hby at_117) rfl (teq (hfin)).2 (XS.iconst X61.here hx rfl (hb hby at_120) (XS.goto X61.here hx rfl (pc0 := 121) (pc' := 125) rfl (hb hby at_121) (by decide) (by decide) kK))) ?_
          refine OwnEnd.retW X61 Si0 (by omega) (v := (some (.int (nar .boolean (1 : Int32))))) (fun h => by rw [Bd.returns] at h; cases h) hlk (fun fs hr => retN X61 hx (t := .boolean) Bd.returns (by simp) (hb hby at_125) hr) (by decide) (by decide) (Q := Qlaw Z p0 p1 p2 p3 p4 h0 n0) eh61 ?_
          exact ⟨rfl, N61, K50⟩
  · rw [hr]
    have hrng : ∀ c ∈ ([(nar .char p1), (nar .char p2), (nar .char p3), (nar .char p4)] : List Int32), ¬ c < (0 : Int32) ∧ ¬ (65535 : Int32) < c := own_rng4 p1 p2 p3 p4
    refine OwnEnd.of (S' := s₁.setTop (mkF m 20 #[.val (.int p0), .val (.int p1), .val (.int p2), .val (.int p3), .val (.int p4), .val (.int (4 : Int32)), .val (.int (nar .char p1)), .val (.int (nar .char p2)), .val (.int (nar .char p3)), .unset, .unset, .unset] [])) (fun _ kK => XS.istore X0w.here hx rfl (hb hby at_6) rfl (l' := #[.val (.int p0), .val (.int p1), .val (.int p2), .val (.int p3), .val (.int p4), .val (.int (4 : Int32)), .unset, .unset, .unset, .unset, .unset, .unset]) rfl (XS.iloadN X0w.here hx rfl (hb hby at_8) rfl (XS.i2c X0w.here hx rfl (hb hby at_9) rfl (XS.istore X0w.here hx rfl (hb hby at_10) rfl (l' := #[.val (.int p0), .val (.int p1), .val (.int p2), .val (.int p3), .val (.int p4), .val (.int (4 : Int32)), .val (.int (nar .char p1)), .unset, .unset, .unset, .unset, .unset]) rfl (XS.iloadN X0w.here hx rfl (hb hby at_12) rfl (XS.i2c X0w.here hx rfl (hb hby at_13) rfl (XS.istore X0w.here hx rfl (hb hby at_14) rfl (l' := #[.val (.int p0), .val (.int p1), .val (.int p2), .val (.int p3), .val (.int p4), .val (.int (4 : Int32)), .val (.int (nar .char p1)), .val (.int (nar .char p2)), .unset, .unset, .unset, .unset]) rfl (XS.iloadN X0w.here hx rfl (hb hby at_16) rfl (XS.i2c X0w.here hx rfl (hb hby at_17) rfl (XS.istore X0w.here hx rfl (hb hby at_18) rfl (l' := #[.val (.int p0), .val (.int p1), .val (.int p2), .val (.int p3), .val (.int p4), .val (.int (4 : Int32)), .val (.int (nar .char p1)), .val (.int (nar .char p2)), .val (.int (nar .char p3)), .unset, .unset, .unset]) rfl kK)))))))))) ?_
    refine OwnEnd.of (S' := s₁.setTop (mkF m 25 #[.val (.int p0), .val (.int p1), .val (.int p2), .val (.int p3), .val (.int p4), .val (.int (4 : Int32)), .val (.int (nar .char p1)), .val (.int (nar .char p2)), .val (.int (nar .char p3)), .val (.int (nar .char p4)), .unset, .unset] [])) (fun _ kK => XS.iload X0w.here hx rfl (hb hby at_20) rfl (XS.i2c X0w.here hx rfl (hb hby at_22) rfl (XS.istore X0w.here hx rfl (hb hby at_23) rfl (l' := #[.val (.int p0), .val (.int p1), .val (.int p2), .val (.int p3), .val (.int p4), .val (.int (4 : Int32)), .val (.int (nar .char p1)), .val (.int (nar .char p2)), .val (.int (nar .char p3)), .val (.int (nar .char p4)), .unset, .unset]) rfl kK))) ?_
    obtain ⟨T62, h62, X62, e62, E62, A62, D62, -, st62⟩ := newO X0w hx hZ hown (own_w G 1 rfl) (own_w G 2 rfl) (own_w G 3 rfl) e0 (g := (mkF m 25 #[.val (.int p0), .val (.int p1), .val (.int p2), .val (.int p3), .val (.int p4), .val (.int (4 : Int32)), .val (.int (nar .char p1)), .val (.int (nar .char p2)), .val (.int (nar .char p3)), .val (.int (nar .char p4)), .unset, .unset] [])) rfl (hb hby at_25) (by decide) (by decide)
    obtain ⟨b62, g62⟩ : ∃ z, z = Array.size h0 := ⟨_, rfl⟩
    rw [← g62] at A62 D62 st62
    have lt_b62 := own_ltN' A62.lt
    have sz63 := E62.1
    have K63 := K0.ext E62
    have O63 := O0.ext E62
    have R63 := CHr.ext E62 hCH
    have CH63 := R63.1
    have Sf62 : Safe Z consts_1 s.vm h62 b62 := Safe.ext E62 hCH (Safe.new (by omega))
    have F62_value : Fld Z h62 b62 "java/lang/String" "value" "[B" .null := D62 (Or.inr (own_w G 21 rfl)) (ty := (.array .byte)) (by decide)
    have F62_coder : Fld Z h62 b62 "java/lang/String" "coder" "B" (.int (0 : Int32)) := D62 (Or.inr (own_w G 22 rfl)) (ty := .byte) (by decide)
    refine OwnEnd.of (S' := T62.setTop (mkF m 28 #[.val (.int p0), .val (.int p1), .val (.int p2), .val (.int p3), .val (.int p4), .val (.int (4 : Int32)), .val (.int (nar .char p1)), .val (.int (nar .char p2)), .val (.int (nar .char p3)), .val (.int (nar .char p4)), .unset, .unset] [(.ref b62)])) st62 ?_
    refine OwnEnd.of (S' := T62.setTop (mkF m 39 #[.val (.int p0), .val (.int p1), .val (.int p2), .val (.int p3), .val (.int p4), .val (.int (4 : Int32)), .val (.int (nar .char p1)), .val (.int (nar .char p2)), .val (.int (nar .char p3)), .val (.int (nar .char p4)), .unset, .unset] [(.int (nar .char p4)), (.int (nar .char p3)), (.int (nar .char p2)), (.int (nar .char p1)), (.int (4 : Int32)), (.ref b62), (.ref b62)])) (fun _ kK => XS.dup X62.here hx rfl (hb hby at_28) rfl rfl (XS.iload X62.here hx rfl (hb hby at_29) rfl (XS.iload X62.here hx rfl (hb hby at_31) rfl (XS.iload X62.here hx rfl (hb hby at_33) rfl (XS.iload X62.here hx rfl (hb hby at_35) rfl (XS.iload X62.here hx rfl (hb hby at_37) rfl kK)))))) ?_
    obtain ⟨_, _, ⟨T64, L64, k64, n64⟩, -, X64, ⟨Lc64, hQ64, l64, y64, z64⟩, st64⟩ := Jvm.LawKit.callS X62 hx (y := own_m22) hown (mvT hZ (own_w G 4 rfl)) (mvT hZ (own_w G 5 rfl)) (mvT hZ (own_w G 6 rfl)) (mvT hZ (own_w G 7 rfl)) (by decide) (backOf (W := 2) (rmbd4 l Z a0 G [] (nar .char p1) (nar .char p2) (nar .char p3) (nar .char p4) h62 n0 O63 (own_nar_cc _ : nar .char (nar .char p1) = (nar .char p1)) (own_nar_cc _ : nar .char (nar .char p2) = (nar .char p2)) (own_nar_cc _ : nar .char (nar .char p3) = (nar .char p3)) (own_nar_cc _ : nar .char (nar .char p4) = (nar .char p4))) hZ (own_w G 7 rfl) (own_w G 6 rfl) (by decide) (by decide)) (g := (mkF m 39 #[.val (.int p0), .val (.int p1), .val (.int p2), .val (.int p3), .val (.int p4), .val (.int (4 : Int32)), .val (.int (nar .char p1)), .val (.int (nar .char p2)), .val (.int (nar .char p3)), .val (.int (nar .char p4)), .unset, .unset] [(.int (nar .char p4)), (.int (nar .char p3)), (.int (nar .char p2)), (.int (nar .char p1)), (.int (4 : Int32)), (.ref b62), (.ref b62)])) rfl (by rw [hml]; rfl) (argsL := [(.int (4 : Int32)), (.int (nar .char p1)), (.int (nar .char p2)), (.int (nar .char p3)), (.int (nar .char p4))]) (rest := [(.ref b62), (.ref b62)]) (lenOf pd_16 rfl) rfl (by show 2 * 0 + _ ≤ _; exact Nat.le_of_eq rfl) (hb hby at_39) (fun _ _ => ⟨rfl, e62, (by decide : 1 + 1 ≤ _), (by decide : 4 + 4 ≤ _)⟩)
    dsimp only [Pt.U, Pt.locs, Pt.cells, Pt.slots] at X64 l64 y64 z64 st64 hQ64
    subst l64 y64 z64
    obtain ⟨b_64, kC_64, rfl, N64q, Kq64, r64_0, r64_1⟩ := hQ64
    have N64 := Fr.app N0 N64q
    have sz65 := Kq64.1
    have K65 := K63.trans Kq64 (own_all0 )
    have O65 := O63.keep Kq64 (own_all0 )
    have R65 := CHr.keep Kq64 (sf0) CH63
    have CH65 := R65.1
    have ltr64_0 := own_ltN' r64_0.lt
    refine OwnEnd.of (S' := T64.setTop (mkF m 42 #[.val (.int p0), .val (.int p1), .val (.int p2), .val (.int p3), .val (.int p4), .val (.int (4 : Int32)), .val (.int (nar .char p1)), .val (.int (nar .char p2)), .val (.int (nar .char p3)), .val (.int (nar .char p4)), .unset, .unset] [(.ref b_64), (.ref b62), (.ref b62)])) st64 ?_
    have f66 : Exa Z T64.heap b62 "java/lang/String" := (A62.keep Kq64)
    have f67 : Fld Z T64.heap b62 "java/lang/String" "value" "[B" .null := (F62_value.keep Kq64 nin0)
    have f68 : Fld Z T64.heap b62 "java/lang/String" "coder" "B" (.int (0 : Int32)) := (F62_coder.keep Kq64 nin0)
    obtain ⟨_, _, ⟨T69, L69, k69, n69⟩, -, X69, ⟨Lc69, hQ69, l69, y69, z69⟩, st69⟩ := Jvm.Stand.specialBack X64 hx (y := own_m1) rfl hown (mvT hZ (own_w G 9 rfl)) (mvT hZ (own_w G 10 rfl)) (mvT hZ (own_w G 11 rfl)) (by decide) (backOf (W := 1) (rmnw4 l Z a0 G [] b62 b_64 .null (.int (0 : Int32)) kC_64 (.int (0 : Int32)) (nar .char p1) (nar .char p2) (nar .char p3) (nar .char p4) T64.heap n0 O65 f66 f67 f68 (by omega) r64_0 hrng (own_ne (by omega) : b62 ≠ b_64)) hZ (own_w G 11 rfl) (own_w G 3 rfl) (by decide) (by decide)) (g := (mkF m 42 #[.val (.int p0), .val (.int p1), .val (.int p2), .val (.int p3), .val (.int p4), .val (.int (4 : Int32)), .val (.int (nar .char p1)), .val (.int (nar .char p2)), .val (.int (nar .char p3)), .val (.int (nar .char p4)), .unset, .unset] [(.ref b_64), (.ref b62), (.ref b62)])) rfl (by rw [hml]; rfl) (Steps.refl _) (a := b62) (argsL := [(.ref b_64)]) (rest := [(.ref b62)]) (lenOf pd_17 rfl) rfl (by show 2 * 0 + _ ≤ _; exact Nat.le_of_eq rfl) (hb hby at_42) (fun _ _ => ⟨rfl, rfl, (by decide : 2 + 2 ≤ _), (by decide : 8 + 12 ≤ _)⟩)
    dsimp only [Pt.U, Pt.locs, Pt.cells, Pt.slots] at X69 l69 y69 z69 st69 hQ69
    subst l69 y69 z69
    obtain ⟨t_69, kb_69, N_69, vs_69, cd_69, rfl, N69q, Kq69, r69_0, r69_1, r69_2, r69_3, r69_4, r69_5⟩ := hQ69
    have N69 := Fr.app N64 N69q
    have sz70 := Kq69.1
    have K70 := K65.trans Kq69 (own_all1 (Or.inr (by omega)))
    have O70 := O65.keep Kq69 (own_all1 (by omega))
    have f71 : Safe Z consts_1 s.vm T64.heap b62 := (Safe.keep Kq64 (sf0) CH63 Sf62)
    have R70 := CHr.keep Kq69 (sfS f71 sf0) CH65
    have CH70 := R70.1
    have ltr69_0 := own_ltN' r69_0.lt
    have ltr69_1 := own_ltN' r69_1.lt
    have ltr69_2 := own_ltN' r69_2.lt
    have ltr69_3 := own_ltN' r69_3.lt
    refine OwnEnd.tr (S' := T69.setTop (mkF m 45 #[.val (.int p0), .val (.int p1), .val (.int p2), .val (.int p3), .val (.int p4), .val (.int (4 : Int32)), .val (.int (nar .char p1)), .val (.int (nar .char p2)), .val (.int (nar .char p3)), .val (.int (nar .char p4)), .unset, .unset] [(.ref b62)])) st69 ?_
    refine OwnEnd.of (S' := T69.setTop (mkF m 55 #[.val (.int p0), .val (.int p1), .val (.int p2), .val (.int p3), .val (.int p4), .val (.int (4 : Int32)), .val (.int (nar .char p1)), .val (.int (nar .char p2)), .val (.int (nar .char p3)), .val (.int (nar .char p4)), .val (.ref b62), .unset] [(.int (nar .char p1))])) (fun _ kK => XS.astore X69.here hx rfl (hb hby at_45) rfl rfl (l' := #[.val (.int p0), .val (.int p1), .val (.int p2), .val (.int p3), .val (.int p4), .val (.int (4 : Int32)), .val (.int (nar .char p1)), .val (.int (nar .char p2)), .val (.int (nar .char p3)), .val (.int (nar .char p4)), .val (.ref b62), .unset]) rfl (XS.iload X69.here hx rfl (hb hby at_47) rfl (XS.iconst X69.here hx rfl (hb hby at_49) (XS.icmpNo X69.here hx rfl (hb hby at_50) rfl (flt ((by decide : ¬ ((4 : Int32) < (1 : Int32))))).1 (XS.iload X69.here hx rfl (hb hby at_53) rfl kK))))) ?_
    obtain ⟨_, _, ⟨T72, L72, k72, n72⟩, -, X72, ⟨Lc72, hQ72, l72, y72, z72⟩, st72⟩ := Jvm.LawKit.callS X69 hx (y := own_m21) hown (mvT hZ (own_w G 47 rfl)) (mvT hZ (own_w G 48 rfl)) (mvT hZ (own_w G 6 rfl)) (mvT hZ (own_w G 49 rfl)) (by decide) (backOf (W := 0) (rmdg l Z a0 G [] (nar .char p1) T69.heap n0 O70 ) hZ (own_w G 49 rfl) (own_w G 6 rfl) (by decide) (by decide)) (g := (mkF m 55 #[.val (.int p0), .val (.int p1), .val (.int p2), .val (.int p3), .val (.int p4), .val (.int (4 : Int32)), .val (.int (nar .char p1)), .val (.int (nar .char p2)), .val (.int (nar .char p3)), .val (.int (nar .char p4)), .val (.ref b62), .unset] [(.int (nar .char p1))])) rfl (by rw [hml]; rfl) (argsL := [(.int (nar .char p1))]) (rest := []) (lenOf pd_19 rfl) rfl (by show 2 * 0 + _ ≤ _; exact Nat.le_of_eq rfl) (hb hby at_55) (fun _ _ => ⟨rfl, rfl, (by decide : 4 + 0 ≤ _), (by decide : 20 + 0 ≤ _)⟩)
    dsimp only [Pt.U, Pt.locs, Pt.cells, Pt.slots] at X72 l72 y72 z72 st72 hQ72
    subst l72 y72 z72
    obtain ⟨rfl, N72q, eh72⟩ := hQ72
    have N72 := Fr.app N69 N72q
    refine OwnEnd.of (S' := T72.setTop (mkF m 58 #[.val (.int p0), .val (.int p1), .val (.int p2), .val (.int p3), .val (.int p4), .val (.int (4 : Int32)), .val (.int (nar .char p1)), .val (.int (nar .char p2)), .val (.int (nar .char p3)), .val (.int (nar .char p4)), .val (.ref b62), .unset] [(.int (own_dig (nar .char p1)))])) st72 ?_
    rcases Decidable.em ((own_dig (nar .char p1)) = (0 : Int32)) with hc73 | hc73
    · refine OwnEnd.of (S' := T72.setTop (mkF m 112 #[.val (.int p0), .val (.int p1), .val (.int p2), .val (.int p3), .val (.int p4), .val (.int (4 : Int32)), .val (.int (nar .char p1)), .val (.int (nar .char p2)), .val (.int (nar .char p3)), .val (.int (nar .char p4)), .val (.ref b62), .val (.int (0 : Int32))] [(.ref b62)])) (fun _ kK => XS.ifYes X72.here hx rfl (pc0 := 58) (pc' := 107) rfl (hb hby at_58) rfl ((if0 _ _).trans (teq (hc73)).1) (by decide) (by decide) (XS.iconst X72.here hx rfl (hb hby at_107) (XS.istore X72.here hx rfl (hb hby at_108) rfl (l' := #[.val (.int p0), .val (.int p1), .val (.int p2), .val (.int p3), .val (.int p4), .val (.int (4 : Int32)), .val (.int (nar .char p1)), .val (.int (nar .char p2)), .val (.int (nar .char p3)), .val (.int (nar .char p4)), .val (.ref b62), .val (.int (0 : Int32))]) rfl (XS.aload X72.here hx rfl (hb hby at_110) rfl rfl kK)))) ?_
      obtain ⟨_, _, ⟨T74, L74, k74, n74⟩, -, X74, ⟨Lc74, hQ74, l74, y74, z74⟩, st74⟩ := Jvm.LawKit.callS X72 hx (y := own_m23) hown (mvT hZ (own_w G 27 rfl)) (mvT hZ (own_w G 28 rfl)) (mvT hZ (own_w G 29 rfl)) (mvT hZ (own_w G 30 rfl)) (by decide) (backOf (W := 0) (rmis4 l Z a0 G [] b62 t_69 kb_69 N_69 vs_69 cd_69 (nar .char p1) (nar .char p2) (nar .char p3) (nar .char p4) T69.heap n0 O70 r69_0 r69_1 r69_2 r69_3 r69_4 hrng) hZ (own_w G 30 rfl) (own_w G 29 rfl) (by decide) (by decide)) (g := (mkF m 112 #[.val (.int p0), .val (.int p1), .val (.int p2), .val (.int p3), .val (.int p4), .val (.int (4 : Int32)), .val (.int (nar .char p1)), .val (.int (nar .char p2)), .val (.int (nar .char p3)), .val (.int (nar .char p4)), .val (.ref b62), .val (.int (0 : Int32))] [(.ref b62)])) rfl (by rw [hml]; rfl) (argsL := [(.ref b62)]) (rest := []) (lenOf pd_18 rfl) rfl (by show 2 * 0 + _ ≤ _; exact Nat.le_of_eq rfl) (hb hby at_112) (fun _ _ => ⟨rfl, eh72, (by decide : 4 + 0 ≤ _), (by decide : 20 + 0 ≤ _)⟩)
      dsimp only [Pt.U, Pt.locs, Pt.cells, Pt.slots] at X74 l74 y74 z74 st74 hQ74
      subst l74 y74 z74
      obtain ⟨rfl, N74q, eh74⟩ := hQ74
      have N74 := Fr.app N72 N74q
      refine OwnEnd.of (S' := T74.setTop (mkF m 115 #[.val (.int p0), .val (.int p1), .val (.int p2), .val (.int p3), .val (.int p4), .val (.int (4 : Int32)), .val (.int (nar .char p1)), .val (.int (nar .char p2)), .val (.int (nar .char p3)), .val (.int (nar .char p4)), .val (.ref b62), .val (.int (0 : Int32))] [(.int (own_isd [(nar .char p1), (nar .char p2), (nar .char p3), (nar .char p4)]))])) st74 ?_
      refine OwnEnd.of (S' := T74.setTop (mkF m 117 #[.val (.int p0), .val (.int p1), .val (.int p2), .val (.int p3), .val (.int p4), .val (.int (4 : Int32)), .val (.int (nar .char p1)), .val (.int (nar .char p2)), .val (.int (nar .char p3)), .val (.int (nar .char p4)), .val (.ref b62), .val (.int (0 : Int32))] [(.int (0 : Int32)), (.int (own_isd [(nar .char p1), (nar .char p2), (nar .char p3), (nar .char p4)]))])) (fun _ kK => XS.iload X74.here hx rfl (hb hby at_115) rfl kK) ?_
      have hfin : (own_isd [(nar .char p1), (nar .char p2), (nar .char p3), (nar .char p4)]) = (0 : Int32) := by simp [own_isd_dig, own_isd_nil, hc73]
      refine OwnEnd.of (S' := T74.setTop (mkF m 125 #[.val (.int p0), .val (.int p1), .val (.int p2), .val (.int p3), .val (.int p4), .val (.int (4 : Int32)), .val (.int (nar .char p1)), .val (.int (nar .char p2)), .val (.int (nar .char p3)), .val (.int (nar .char p4)), .val (.ref b62), .val (.int (0 : Int32))] [(.int (1 : Int32))])) (fun _ kK => XS.icmpNo X74.here hx rfl (hb hby at_117) rfl (teq (hfin)).2 (XS.iconst X74.here hx rfl (hb hby at_120) (XS.goto X74.here hx rfl (pc0 := 121) (pc' := 125) rfl (hb hby at_121) (by decide) (by decide) kK))) ?_
      refine OwnEnd.retW X74 Si0 (by omega) (v := (some (.int (nar .boolean (1 : Int32))))) (fun h => by rw [Bd.returns] at h; cases h) hlk (fun fs hr => retN X74 hx (t := .boolean) Bd.returns (by simp) (hb hby at_125) hr) (by decide) (by decide) (Q := Qlaw Z p0 p1 p2 p3 p4 h0 n0) eh74 ?_
      exact ⟨rfl, N74, K70⟩
    · refine OwnEnd.of (S' := T72.setTop (mkF m 69 #[.val (.int p0), .val (.int p1), .val (.int p2), .val (.int p3), .val (.int p4), .val (.int (4 : Int32)), .val (.int (nar .char p1)), .val (.int (nar .char p2)), .val (.int (nar .char p3)), .val (.int (nar .char p4)), .val (.ref b62), .unset] [(.int (nar .char p2))])) (fun _ kK => XS.ifNo X72.here hx rfl (hb hby at_58) rfl ((if0 _ _).trans (feq (hc73)).1) (XS.iload X72.here hx rfl (hb hby at_61) rfl (XS.iconst X72.here hx rfl (hb hby at_63) (XS.icmpNo X72.here hx rfl (hb hby at_64) rfl (flt ((by decide : ¬ ((4 : Int32) < (2 : Int32))))).1 (XS.iload X72.here hx rfl (hb hby at_67) rfl kK))))) ?_
      obtain ⟨_, _, ⟨T75, L75, k75, n75⟩, -, X75, ⟨Lc75, hQ75, l75, y75, z75⟩, st75⟩ := Jvm.LawKit.callS X72 hx (y := own_m21) hown (mvT hZ (own_w G 47 rfl)) (mvT hZ (own_w G 48 rfl)) (mvT hZ (own_w G 6 rfl)) (mvT hZ (own_w G 49 rfl)) (by decide) (backOf (W := 0) (rmdg l Z a0 G [] (nar .char p2) T69.heap n0 O70 ) hZ (own_w G 49 rfl) (own_w G 6 rfl) (by decide) (by decide)) (g := (mkF m 69 #[.val (.int p0), .val (.int p1), .val (.int p2), .val (.int p3), .val (.int p4), .val (.int (4 : Int32)), .val (.int (nar .char p1)), .val (.int (nar .char p2)), .val (.int (nar .char p3)), .val (.int (nar .char p4)), .val (.ref b62), .unset] [(.int (nar .char p2))])) rfl (by rw [hml]; rfl) (argsL := [(.int (nar .char p2))]) (rest := []) (lenOf pd_19 rfl) rfl (by show 2 * 0 + _ ≤ _; exact Nat.le_of_eq rfl) (hb hby at_69) (fun _ _ => ⟨rfl, eh72, (by decide : 4 + 0 ≤ _), (by decide : 20 + 0 ≤ _)⟩)
      dsimp only [Pt.U, Pt.locs, Pt.cells, Pt.slots] at X75 l75 y75 z75 st75 hQ75
      subst l75 y75 z75
      obtain ⟨rfl, N75q, eh75⟩ := hQ75
      have N75 := Fr.app N72 N75q
      refine OwnEnd.of (S' := T75.setTop (mkF m 72 #[.val (.int p0), .val (.int p1), .val (.int p2), .val (.int p3), .val (.int p4), .val (.int (4 : Int32)), .val (.int (nar .char p1)), .val (.int (nar .char p2)), .val (.int (nar .char p3)), .val (.int (nar .char p4)), .val (.ref b62), .unset] [(.int (own_dig (nar .char p2)))])) st75 ?_
      rcases Decidable.em ((own_dig (nar .char p2)) = (0 : Int32)) with hc76 | hc76
      · refine OwnEnd.of (S' := T75.setTop (mkF m 112 #[.val (.int p0), .val (.int p1), .val (.int p2), .val (.int p3), .val (.int p4), .val (.int (4 : Int32)), .val (.int (nar .char p1)), .val (.int (nar .char p2)), .val (.int (nar .char p3)), .val (.int (nar .char p4)), .val (.ref b62), .val (.int (0 : Int32))] [(.ref b62)])) (fun _ kK => XS.ifYes X75.here hx rfl (pc0 := 72) (pc' := 107) rfl (hb hby at_72) rfl ((if0 _ _).trans (teq (hc76)).1) (by decide) (by decide) (XS.iconst X75.here hx rfl (hb hby at_107) (XS.istore X75.here hx rfl (hb hby at_108) rfl (l' := #[.val (.int p0), .val (.int p1), .val (.int p2), .val (.int p3), .val (.int p4), .val (.int (4 : Int32)), .val (.int (nar .char p1)), .val (.int (nar .char p2)), .val (.int (nar .char p3)), .val (.int (nar .char p4)), .val (.ref b62), .val (.int (0 : Int32))]) rfl (XS.aload X75.here hx rfl (hb hby at_110) rfl rfl kK)))) ?_
        obtain ⟨_, _, ⟨T77, L77, k77, n77⟩, -, X77, ⟨Lc77, hQ77, l77, y77, z77⟩, st77⟩ := Jvm.LawKit.callS X75 hx (y := own_m23) hown (mvT hZ (own_w G 27 rfl)) (mvT hZ (own_w G 28 rfl)) (mvT hZ (own_w G 29 rfl)) (mvT hZ (own_w G 30 rfl)) (by decide) (backOf (W := 0) (rmis4 l Z a0 G [] b62 t_69 kb_69 N_69 vs_69 cd_69 (nar .char p1) (nar .char p2) (nar .char p3) (nar .char p4) T69.heap n0 O70 r69_0 r69_1 r69_2 r69_3 r69_4 hrng) hZ (own_w G 30 rfl) (own_w G 29 rfl) (by decide) (by decide)) (g := (mkF m 112 #[.val (.int p0), .val (.int p1), .val (.int p2), .val (.int p3), .val (.int p4), .val (.int (4 : Int32)), .val (.int (nar .char p1)), .val (.int (nar .char p2)), .val (.int (nar .char p3)), .val (.int (nar .char p4)), .val (.ref b62), .val (.int (0 : Int32))] [(.ref b62)])) rfl (by rw [hml]; rfl) (argsL := [(.ref b62)]) (rest := []) (lenOf pd_18 rfl) rfl (by show 2 * 0 + _ ≤ _; exact Nat.le_of_eq rfl) (hb hby at_112) (fun _ _ => ⟨rfl, eh75, (by decide : 4 + 0 ≤ _), (by decide : 20 + 0 ≤ _)⟩)
        dsimp only [Pt.U, Pt.locs, Pt.cells, Pt.slots] at X77 l77 y77 z77 st77 hQ77
        subst l77 y77 z77
        obtain ⟨rfl, N77q, eh77⟩ := hQ77
        have N77 := Fr.app N75 N77q
        refine OwnEnd.of (S' := T77.setTop (mkF m 115 #[.val (.int p0), .val (.int p1), .val (.int p2), .val (.int p3), .val (.int p4), .val (.int (4 : Int32)), .val (.int (nar .char p1)), .val (.int (nar .char p2)), .val (.int (nar .char p3)), .val (.int (nar .char p4)), .val (.ref b62), .val (.int (0 : Int32))] [(.int (own_isd [(nar .char p1), (nar .char p2), (nar .char p3), (nar .char p4)]))])) st77 ?_
        refine OwnEnd.of (S' := T77.setTop (mkF m 117 #[.val (.int p0), .val (.int p1), .val (.int p2), .val (.int p3), .val (.int p4), .val (.int (4 : Int32)), .val (.int (nar .char p1)), .val (.int (nar .char p2)), .val (.int (nar .char p3)), .val (.int (nar .char p4)), .val (.ref b62), .val (.int (0 : Int32))] [(.int (0 : Int32)), (.int (own_isd [(nar .char p1), (nar .char p2), (nar .char p3), (nar .char p4)]))])) (fun _ kK => XS.iload X77.here hx rfl (hb hby at_115) rfl kK) ?_
        have hfin : (own_isd [(nar .char p1), (nar .char p2), (nar .char p3), (nar .char p4)]) = (0 : Int32) := by simp [own_isd_dig, own_isd_nil, hc73, hc76]
        refine OwnEnd.of (S' := T77.setTop (mkF m 125 #[.val (.int p0), .val (.int p1), .val (.int p2), .val (.int p3), .val (.int p4), .val (.int (4 : Int32)), .val (.int (nar .char p1)), .val (.int (nar .char p2)), .val (.int (nar .char p3)), .val (.int (nar .char p4)), .val (.ref b62), .val (.int (0 : Int32))] [(.int (1 : Int32))])) (fun _ kK => XS.icmpNo X77.here hx rfl (hb hby at_117) rfl (teq (hfin)).2 (XS.iconst X77.here hx rfl (hb hby at_120) (XS.goto X77.here hx rfl (pc0 := 121) (pc' := 125) rfl (hb hby at_121) (by decide) (by decide) kK))) ?_
        refine OwnEnd.retW X77 Si0 (by omega) (v := (some (.int (nar .boolean (1 : Int32))))) (fun h => by rw [Bd.returns] at h; cases h) hlk (fun fs hr => retN X77 hx (t := .boolean) Bd.returns (by simp) (hb hby at_125) hr) (by decide) (by decide) (Q := Qlaw Z p0 p1 p2 p3 p4 h0 n0) eh77 ?_
        exact ⟨rfl, N77, K70⟩
      · refine OwnEnd.of (S' := T75.setTop (mkF m 83 #[.val (.int p0), .val (.int p1), .val (.int p2), .val (.int p3), .val (.int p4), .val (.int (4 : Int32)), .val (.int (nar .char p1)), .val (.int (nar .char p2)), .val (.int (nar .char p3)), .val (.int (nar .char p4)), .val (.ref b62), .unset] [(.int (nar .char p3))])) (fun _ kK => XS.ifNo X75.here hx rfl (hb hby at_72) rfl ((if0 _ _).trans (feq (hc76)).1) (XS.iload X75.here hx rfl (hb hby at_75) rfl (XS.iconst X75.here hx rfl (hb hby at_77) (XS.icmpNo X75.here hx rfl (hb hby at_78) rfl (flt ((by decide : ¬ ((4 : Int32) < (3 : Int32))))).1 (XS.iload X75.here hx rfl (hb hby at_81) rfl kK))))) ?_
        obtain ⟨_, _, ⟨T78, L78, k78, n78⟩, -, X78, ⟨Lc78, hQ78, l78, y78, z78⟩, st78⟩ := Jvm.LawKit.callS X75 hx (y := own_m21) hown (mvT hZ (own_w G 47 rfl)) (mvT hZ (own_w G 48 rfl)) (mvT hZ (own_w G 6 rfl)) (mvT hZ (own_w G 49 rfl)) (by decide) (backOf (W := 0) (rmdg l Z a0 G [] (nar .char p3) T69.heap n0 O70 ) hZ (own_w G 49 rfl) (own_w G 6 rfl) (by decide) (by decide)) (g := (mkF m 83 #[.val (.int p0), .val (.int p1), .val (.int p2), .val (.int p3), .val (.int p4), .val (.int (4 : Int32)), .val (.int (nar .char p1)), .val (.int (nar .char p2)), .val (.int (nar .char p3)), .val (.int (nar .char p4)), .val (.ref b62), .unset] [(.int (nar .char p3))])) rfl (by rw [hml]; rfl) (argsL := [(.int (nar .char p3))]) (rest := []) (lenOf pd_19 rfl) rfl (by show 2 * 0 + _ ≤ _; exact Nat.le_of_eq rfl) (hb hby at_83) (fun _ _ => ⟨rfl, eh75, (by decide : 4 + 0 ≤ _), (by decide : 20 + 0 ≤ _)⟩)
        dsimp only [Pt.U, Pt.locs, Pt.cells, Pt.slots] at X78 l78 y78 z78 st78 hQ78
        subst l78 y78 z78
        obtain ⟨rfl, N78q, eh78⟩ := hQ78
        have N78 := Fr.app N75 N78q
        refine OwnEnd.of (S' := T78.setTop (mkF m 86 #[.val (.int p0), .val (.int p1), .val (.int p2), .val (.int p3), .val (.int p4), .val (.int (4 : Int32)), .val (.int (nar .char p1)), .val (.int (nar .char p2)), .val (.int (nar .char p3)), .val (.int (nar .char p4)), .val (.ref b62), .unset] [(.int (own_dig (nar .char p3)))])) st78 ?_
        rcases Decidable.em ((own_dig (nar .char p3)) = (0 : Int32)) with hc79 | hc79
        · refine OwnEnd.of (S' := T78.setTop (mkF m 112 #[.val (.int p0), .val (.int p1), .val (.int p2), .val (.int p3), .val (.int p4), .val (.int (4 : Int32)), .val (.int (nar .char p1)), .val (.int (nar .char p2)), .val (.int (nar .char p3)), .val (.int (nar .char p4)), .val (.ref b62), .val (.int (0 : Int32))] [(.ref b62)])) (fun _ kK => XS.ifYes X78.here hx rfl (pc0 := 86) (pc' := 107) rfl (hb hby at_86) rfl ((if0 _ _).trans (teq (hc79)).1) (by decide) (by decide) (XS.iconst X78.here hx rfl (hb hby at_107) (XS.istore X78.here hx rfl (hb hby at_108) rfl (l' := #[.val (.int p0), .val (.int p1), .val (.int p2), .val (.int p3), .val (.int p4), .val (.int (4 : Int32)), .val (.int (nar .char p1)), .val (.int (nar .char p2)), .val (.int (nar .char p3)), .val (.int (nar .char p4)), .val (.ref b62), .val (.int (0 : Int32))]) rfl (XS.aload X78.here hx rfl (hb hby at_110) rfl rfl kK)))) ?_
          obtain ⟨_, _, ⟨T80, L80, k80, n80⟩, -, X80, ⟨Lc80, hQ80, l80, y80, z80⟩, st80⟩ := Jvm.LawKit.callS X78 hx (y := own_m23) hown (mvT hZ (own_w G 27 rfl)) (mvT hZ (own_w G 28 rfl)) (mvT hZ (own_w G 29 rfl)) (mvT hZ (own_w G 30 rfl)) (by decide) (backOf (W := 0) (rmis4 l Z a0 G [] b62 t_69 kb_69 N_69 vs_69 cd_69 (nar .char p1) (nar .char p2) (nar .char p3) (nar .char p4) T69.heap n0 O70 r69_0 r69_1 r69_2 r69_3 r69_4 hrng) hZ (own_w G 30 rfl) (own_w G 29 rfl) (by decide) (by decide)) (g := (mkF m 112 #[.val (.int p0), .val (.int p1), .val (.int p2), .val (.int p3), .val (.int p4), .val (.int (4 : Int32)), .val (.int (nar .char p1)), .val (.int (nar .char p2)), .val (.int (nar .char p3)), .val (.int (nar .char p4)), .val (.ref b62), .val (.int (0 : Int32))] [(.ref b62)])) rfl (by rw [hml]; rfl) (argsL := [(.ref b62)]) (rest := []) (lenOf pd_18 rfl) rfl (by show 2 * 0 + _ ≤ _; exact Nat.le_of_eq rfl) (hb hby at_112) (fun _ _ => ⟨rfl, eh78, (by decide : 4 + 0 ≤ _), (by decide : 20 + 0 ≤ _)⟩)
          dsimp only [Pt.U, Pt.locs, Pt.cells, Pt.slots] at X80 l80 y80 z80 st80 hQ80
          subst l80 y80 z80
          obtain ⟨rfl, N80q, eh80⟩ := hQ80
          have N80 := Fr.app N78 N80q
          refine OwnEnd.of (S' := T80.setTop (mkF m 115 #[.val (.int p0), .val (.int p1), .val (.int p2), .val (.int p3), .val (.int p4), .val (.int (4 : Int32)), .val (.int (nar .char p1)), .val (.int (nar .char p2)), .val (.int (nar .char p3)), .val (.int (nar .char p4)), .val (.ref b62), .val (.int (0 : Int32))] [(.int (own_isd [(nar .char p1), (nar .char p2), (nar .char p3), (nar .char p4)]))])) st80 ?_
          refine OwnEnd.of (S' := T80.setTop (mkF m 117 #[.val (.int p0), .val (.int p1), .val (.int p2), .val (.int p3), .val (.int p4), .val (.int (4 : Int32)), .val (.int (nar .char p1)), .val (.int (nar .char p2)), .val (.int (nar .char p3)), .val (.int (nar .char p4)), .val (.ref b62), .val (.int (0 : Int32))] [(.int (0 : Int32)), (.int (own_isd [(nar .char p1), (nar .char p2), (nar .char p3), (nar .char p4)]))])) (fun _ kK => XS.iload X80.here hx rfl (hb hby at_115) rfl kK) ?_
          have hfin : (own_isd [(nar .char p1), (nar .char p2), (nar .char p3), (nar .char p4)]) = (0 : Int32) := by simp [own_isd_dig, own_isd_nil, hc73, hc76, hc79]
          refine OwnEnd.of (S' := T80.setTop (mkF m 125 #[.val (.int p0), .val (.int p1), .val (.int p2), .val (.int p3), .val (.int p4), .val (.int (4 : Int32)), .val (.int (nar .char p1)), .val (.int (nar .char p2)), .val (.int (nar .char p3)), .val (.int (nar .char p4)), .val (.ref b62), .val (.int (0 : Int32))] [(.int (1 : Int32))])) (fun _ kK => XS.icmpNo X80.here hx rfl (hb hby at_117) rfl (teq (hfin)).2 (XS.iconst X80.here hx rfl (hb hby at_120) (XS.goto X80.here hx rfl (pc0 := 121) (pc' := 125) rfl (hb hby at_121) (by decide) (by decide) kK))) ?_
          refine OwnEnd.retW X80 Si0 (by omega) (v := (some (.int (nar .boolean (1 : Int32))))) (fun h => by rw [Bd.returns] at h; cases h) hlk (fun fs hr => retN X80 hx (t := .boolean) Bd.returns (by simp) (hb hby at_125) hr) (by decide) (by decide) (Q := Qlaw Z p0 p1 p2 p3 p4 h0 n0) eh80 ?_
          exact ⟨rfl, N80, K70⟩
        · refine OwnEnd.of (S' := T78.setTop (mkF m 97 #[.val (.int p0), .val (.int p1), .val (.int p2), .val (.int p3), .val (.int p4), .val (.int (4 : Int32)), .val (.int (nar .char p1)), .val (.int (nar .char p2)), .val (.int (nar .char p3)), .val (.int (nar .char p4)), .val (.ref b62), .unset] [(.int (nar .char p4))])) (fun _ kK => XS.ifNo X78.here hx rfl (hb hby at_86) rfl ((if0 _ _).trans (feq (hc79)).1) (XS.iload X78.here hx rfl (hb hby at_89) rfl (XS.iconst X78.here hx rfl (hb hby at_91) (XS.icmpNo X78.here hx rfl (hb hby at_92) rfl (flt ((by decide : ¬ ((4 : Int32) < (4 : Int32))))).1 (XS.iload X78.here hx rfl (hb hby at_95) rfl kK))))) ?_
          obtain ⟨_, _, ⟨T81, L81, k81, n81⟩, -, X81, ⟨Lc81, hQ81, l81, y81, z81⟩, st81⟩ := Jvm.LawKit.callS X78 hx (y := own_m21) hown (mvT hZ (own_w G 47 rfl)) (mvT hZ (own_w G 48 rfl)) (mvT hZ (own_w G 6 rfl)) (mvT hZ (own_w G 49 rfl)) (by decide) (backOf (W := 0) (rmdg l Z a0 G [] (nar .char p4) T69.heap n0 O70 ) hZ (own_w G 49 rfl) (own_w G 6 rfl) (by decide) (by decide)) (g := (mkF m 97 #[.val (.int p0), .val (.int p1), .val (.int p2), .val (.int p3), .val (.int p4), .val (.int (4 : Int32)), .val (.int (nar .char p1)), .val (.int (nar .char p2)), .val (.int (nar .char p3)), .val (.int (nar .char p4)), .val (.ref b62), .unset] [(.int (nar .char p4))])) rfl (by rw [hml]; rfl) (argsL := [(.int (nar .char p4))]) (rest := []) (lenOf pd_19 rfl) rfl (by show 2 * 0 + _ ≤ _; exact Nat.le_of_eq rfl) (hb hby at_97) (fun _ _ => ⟨rfl, eh78, (by decide : 4 + 0 ≤ _), (by decide : 20 + 0 ≤ _)⟩)
          dsimp only [Pt.U, Pt.locs, Pt.cells, Pt.slots] at X81 l81 y81 z81 st81 hQ81
          subst l81 y81 z81
          obtain ⟨rfl, N81q, eh81⟩ := hQ81
          have N81 := Fr.app N78 N81q
          refine OwnEnd.of (S' := T81.setTop (mkF m 100 #[.val (.int p0), .val (.int p1), .val (.int p2), .val (.int p3), .val (.int p4), .val (.int (4 : Int32)), .val (.int (nar .char p1)), .val (.int (nar .char p2)), .val (.int (nar .char p3)), .val (.int (nar .char p4)), .val (.ref b62), .unset] [(.int (own_dig (nar .char p4)))])) st81 ?_
          rcases Decidable.em ((own_dig (nar .char p4)) = (0 : Int32)) with hc82 | hc82
          · refine OwnEnd.of (S' := T81.setTop (mkF m 112 #[.val (.int p0), .val (.int p1), .val (.int p2), .val (.int p3), .val (.int p4), .val (.int (4 : Int32)), .val (.int (nar .char p1)), .val (.int (nar .char p2)), .val (.int (nar .char p3)), .val (.int (nar .char p4)), .val (.ref b62), .val (.int (0 : Int32))] [(.ref b62)])) (fun _ kK => XS.ifYes X81.here hx rfl (pc0 := 100) (pc' := 107) rfl (hb hby at_100) rfl ((if0 _ _).trans (teq (hc82)).1) (by decide) (by decide) (XS.iconst X81.here hx rfl (hb hby at_107) (XS.istore X81.here hx rfl (hb hby at_108) rfl (l' := #[.val (.int p0), .val (.int p1), .val (.int p2), .val (.int p3), .val (.int p4), .val (.int (4 : Int32)), .val (.int (nar .char p1)), .val (.int (nar .char p2)), .val (.int (nar .char p3)), .val (.int (nar .char p4)), .val (.ref b62), .val (.int (0 : Int32))]) rfl (XS.aload X81.here hx rfl (hb hby at_110) rfl rfl kK)))) ?_
            obtain ⟨_, _, ⟨T83, L83, k83, n83⟩, -, X83, ⟨Lc83, hQ83, l83, y83, z83⟩, st83⟩ := Jvm.LawKit.callS X81 hx (y := own_m23) hown (mvT hZ (own_w G 27 rfl)) (mvT hZ (own_w G 28 rfl)) (mvT hZ (own_w G 29 rfl)) (mvT hZ (own_w G 30 rfl)) (by decide) (backOf (W := 0) (rmis4 l Z a0 G [] b62 t_69 kb_69 N_69 vs_69 cd_69 (nar .char p1) (nar .char p2) (nar .char p3) (nar .char p4) T69.heap n0 O70 r69_0 r69_1 r69_2 r69_3 r69_4 hrng) hZ (own_w G 30 rfl) (own_w G 29 rfl) (by decide) (by decide)) (g := (mkF m 112 #[.val (.int p0), .val (.int p1), .val (.int p2), .val (.int p3), .val (.int p4), .val (.int (4 : Int32)), .val (.int (nar .char p1)), .val (.int (nar .char p2)), .val (.int (nar .char p3)), .val (.int (nar .char p4)), .val (.ref b62), .val (.int (0 : Int32))] [(.ref b62)])) rfl (by rw [hml]; rfl) (argsL := [(.ref b62)]) (rest := []) (lenOf pd_18 rfl) rfl (by show 2 * 0 + _ ≤ _; exact Nat.le_of_eq rfl) (hb hby at_112) (fun _ _ => ⟨rfl, eh81, (by decide : 4 + 0 ≤ _), (by decide : 20 + 0 ≤ _)⟩)
            dsimp only [Pt.U, Pt.locs, Pt.cells, Pt.slots] at X83 l83 y83 z83 st83 hQ83
            subst l83 y83 z83
            obtain ⟨rfl, N83q, eh83⟩ := hQ83
            have N83 := Fr.app N81 N83q
            refine OwnEnd.of (S' := T83.setTop (mkF m 115 #[.val (.int p0), .val (.int p1), .val (.int p2), .val (.int p3), .val (.int p4), .val (.int (4 : Int32)), .val (.int (nar .char p1)), .val (.int (nar .char p2)), .val (.int (nar .char p3)), .val (.int (nar .char p4)), .val (.ref b62), .val (.int (0 : Int32))] [(.int (own_isd [(nar .char p1), (nar .char p2), (nar .char p3), (nar .char p4)]))])) st83 ?_
            refine OwnEnd.of (S' := T83.setTop (mkF m 117 #[.val (.int p0), .val (.int p1), .val (.int p2), .val (.int p3), .val (.int p4), .val (.int (4 : Int32)), .val (.int (nar .char p1)), .val (.int (nar .char p2)), .val (.int (nar .char p3)), .val (.int (nar .char p4)), .val (.ref b62), .val (.int (0 : Int32))] [(.int (0 : Int32)), (.int (own_isd [(nar .char p1), (nar .char p2), (nar .char p3), (nar .char p4)]))])) (fun _ kK => XS.iload X83.here hx rfl (hb hby at_115) rfl kK) ?_
            have hfin : (own_isd [(nar .char p1), (nar .char p2), (nar .char p3), (nar .char p4)]) = (0 : Int32) := by simp [own_isd_dig, own_isd_nil, hc73, hc76, hc79, hc82]
            refine OwnEnd.of (S' := T83.setTop (mkF m 125 #[.val (.int p0), .val (.int p1), .val (.int p2), .val (.int p3), .val (.int p4), .val (.int (4 : Int32)), .val (.int (nar .char p1)), .val (.int (nar .char p2)), .val (.int (nar .char p3)), .val (.int (nar .char p4)), .val (.ref b62), .val (.int (0 : Int32))] [(.int (1 : Int32))])) (fun _ kK => XS.icmpNo X83.here hx rfl (hb hby at_117) rfl (teq (hfin)).2 (XS.iconst X83.here hx rfl (hb hby at_120) (XS.goto X83.here hx rfl (pc0 := 121) (pc' := 125) rfl (hb hby at_121) (by decide) (by decide) kK))) ?_
            refine OwnEnd.retW X83 Si0 (by omega) (v := (some (.int (nar .boolean (1 : Int32))))) (fun h => by rw [Bd.returns] at h; cases h) hlk (fun fs hr => retN X83 hx (t := .boolean) Bd.returns (by simp) (hb hby at_125) hr) (by decide) (by decide) (Q := Qlaw Z p0 p1 p2 p3 p4 h0 n0) eh83 ?_
            exact ⟨rfl, N83, K70⟩
          · refine OwnEnd.of (S' := T81.setTop (mkF m 112 #[.val (.int p0), .val (.int p1), .val (.int p2), .val (.int p3), .val (.int p4), .val (.int (4 : Int32)), .val (.int (nar .char p1)), .val (.int (nar .char p2)), .val (.int (nar .char p3)), .val (.int (nar .char p4)), .val (.ref b62), .val (.int (1 : Int32))] [(.ref b62)])) (fun _ kK => XS.ifNo X81.here hx rfl (hb hby at_100) rfl ((if0 _ _).trans (feq (hc82)).1) (XS.iconst X81.here hx rfl (hb hby at_103) (XS.goto X81.here hx rfl (pc0 := 104) (pc' := 108) rfl (hb hby at_104) (by decide) (by decide) (XS.istore X81.here hx rfl (hb hby at_108) rfl (l' := #[.val (.int p0), .val (.int p1), .val (.int p2), .val (.int p3), .val (.int p4), .val (.int (4 : Int32)), .val (.int (nar .char p1)), .val (.int (nar .char p2)), .val (.int (nar .char p3)), .val (.int (nar .char p4)), .val (.ref b62), .val (.int (1 : Int32))]) rfl (XS.aload X81.here hx rfl (hb hby at_110) rfl rfl kK))))) ?_
            obtain ⟨_, _, ⟨T84, L84, k84, n84⟩, -, X84, ⟨Lc84, hQ84, l84, y84, z84⟩, st84⟩ := Jvm.LawKit.callS X81 hx (y := own_m23) hown (mvT hZ (own_w G 27 rfl)) (mvT hZ (own_w G 28 rfl)) (mvT hZ (own_w G 29 rfl)) (mvT hZ (own_w G 30 rfl)) (by decide) (backOf (W := 0) (rmis4 l Z a0 G [] b62 t_69 kb_69 N_69 vs_69 cd_69 (nar .char p1) (nar .char p2) (nar .char p3) (nar .char p4) T69.heap n0 O70 r69_0 r69_1 r69_2 r69_3 r69_4 hrng) hZ (own_w G 30 rfl) (own_w G 29 rfl) (by decide) (by decide)) (g := (mkF m 112 #[.val (.int p0), .val (.int p1), .val (.int p2), .val (.int p3), .val (.int p4), .val (.int (4 : Int32)), .val (.int (nar .char p1)), .val (.int (nar .char p2)), .val (.int (nar .char p3)), .val (.int (nar .char p4)), .val (.ref b62), .val (.int (1 : Int32))] [(.ref b62)])) rfl (by rw [hml]; rfl) (argsL := [(.ref b62)]) (rest := []) (lenOf pd_18 rfl) rfl (by show 2 * 0 + _ ≤ _; exact Nat.le_of_eq rfl) (hb hby at_112) (fun _ _ => ⟨rfl, eh81, (by decide : 4 + 0 ≤ _), (by decide : 20 + 0 ≤ _)⟩)
            dsimp only [Pt.U, Pt.locs, Pt.cells, Pt.slots] at X84 l84 y84 z84 st84 hQ84
            subst l84 y84 z84
            obtain ⟨rfl, N84q, eh84⟩ := hQ84
            have N84 := Fr.app N81 N84q
            refine OwnEnd.of (S' := T84.setTop (mkF m 115 #[.val (.int p0), .val (.int p1), .val (.int p2), .val (.int p3), .val (.int p4), .val (.int (4 : Int32)), .val (.int (nar .char p1)), .val (.int (nar .char p2)), .val (.int (nar .char p3)), .val (.int (nar .char p4)), .val (.ref b62), .val (.int (1 : Int32))] [(.int (own_isd [(nar .char p1), (nar .char p2), (nar .char p3), (nar .char p4)]))])) st84 ?_
            refine OwnEnd.of (S' := T84.setTop (mkF m 117 #[.val (.int p0), .val (.int p1), .val (.int p2), .val (.int p3), .val (.int p4), .val (.int (4 : Int32)), .val (.int (nar .char p1)), .val (.int (nar .char p2)), .val (.int (nar .char p3)), .val (.int (nar .char p4)), .val (.ref b62), .val (.int (1 : Int32))] [(.int (1 : Int32)), (.int (own_isd [(nar .char p1), (nar .char p2), (nar .char p3), (nar .char p4)]))])) (fun _ kK => XS.iload X84.here hx rfl (hb hby at_115) rfl kK) ?_
            have hfin : (own_isd [(nar .char p1), (nar .char p2), (nar .char p3), (nar .char p4)]) = (1 : Int32) := by simp [own_isd_dig, own_isd_nil, hc73, hc76, hc79, hc82]
            refine OwnEnd.of (S' := T84.setTop (mkF m 125 #[.val (.int p0), .val (.int p1), .val (.int p2), .val (.int p3), .val (.int p4), .val (.int (4 : Int32)), .val (.int (nar .char p1)), .val (.int (nar .char p2)), .val (.int (nar .char p3)), .val (.int (nar .char p4)), .val (.ref b62), .val (.int (1 : Int32))] [(.int (1 : Int32))])) (fun _ kK => XS.icmpNo X84.here hx rfl (hb hby at_117) rfl (teq (hfin)).2 (XS.iconst X84.here hx rfl (hb hby at_120) (XS.goto X84.here hx rfl (pc0 := 121) (pc' := 125) rfl (hb hby at_121) (by decide) (by decide) kK))) ?_
            refine OwnEnd.retW X84 Si0 (by omega) (v := (some (.int (nar .boolean (1 : Int32))))) (fun h => by rw [Bd.returns] at h; cases h) hlk (fun fs hr => retN X84 hx (t := .boolean) Bd.returns (by simp) (hb hby at_125) hr) (by decide) (by decide) (Q := Qlaw Z p0 p1 p2 p3 p4 h0 n0) eh84 ?_
            exact ⟨rfl, N84, K70⟩
set_option maxRecDepth 65536 in
set_option maxHeartbeats 40000000 in
theorem comes_1 {Post : Tables → Env → Array Value → State → Outcome → State → Prop} (hpost : ∀ tb e args s v u, (limb_1_1.after args s (.returned v) u = true ∧ limb_1_2.after args s (.returned v) u = true ∧ True) → ReturnedEndW s (.returned v) u (Jvm.fieldLocs frame_1_writes args s ++ Jvm.arrayLocs frame_1_arrays args s ++ Jvm.staticLocs frame_1_statics s) 24 1152 → Post tb e args s (.returned v) u) :
    ArmFor flags0 classFile x code maxLocals ret World_1 tables_1 room_1 Calls_1 rest_1 Pre_1 Post := by
  intro l hfl _ _ p e ha hc hk s m args below hf hA hF happ hP
  obtain ⟨hcalls, hrest, hpre⟩ := hP
  obtain ⟨-, -, -, hnamed, -, -, -, hat⟩ := (Spec.applies_iff hf).mp happ
  obtain ⟨hg, hn⟩ := and_e (Cond.before_iff.mp (show (Jvm.Cond.and given_1 narrow_1).before args s = true from hpre))
  obtain ⟨h1, h2⟩ := and_e hg
  obtain ⟨g0, t0⟩ := and_e h2
  obtain ⟨g1, t1⟩ := and_e t0
  obtain ⟨g2, t2⟩ := and_e t1
  obtain ⟨g3, t3⟩ := and_e t2
  obtain ⟨w0, w1, w2, w3, w4, rfl⟩ : ∃ w0 w1 w2 w3 w4 : Value, args = #[w0, w1, w2, w3, w4] := by
    have hs : args.size = 5 := by simpa [Cond.value, given_1] using h1
    obtain ⟨L⟩ := args
    match L, hs with
    | [w0, w1, w2, w3, w4], _ => exact ⟨w0, w1, w2, w3, w4, rfl⟩
  have hw := fun d (hd : d ∈ tables_1) => atoms_spec (ws := Jvm.Cond.code x code maxLocals ret :: tables_1) hat d (List.mem_cons_of_mem _ hd)
  obtain ⟨hsets, hown0⟩ := atoms_of _ (rest_1_c_eq ▸ (show rest_1_c.before _ s = true from hrest))
  obtain ⟨i0, ei0⟩ := is_v g0
  obtain rfl : w0 = (.int i0) := Option.some.inj ei0
  obtain ⟨i1, ei1⟩ := is_v g1
  obtain rfl : w1 = (.int i1) := Option.some.inj ei1
  obtain ⟨i2, ei2⟩ := is_v g2
  obtain rfl : w2 = (.int i2) := Option.some.inj ei2
  obtain ⟨i3, ei3⟩ := is_v g3
  obtain rfl : w3 = (.int i3) := Option.some.inj ei3
  obtain ⟨i4, ei4⟩ := is_v t3
  obtain rfl : w4 = (.int i4) := Option.some.inj ei4
  have G : OwnG s #[(.int i0), (.int i1), (.int i2), (.int i3), (.int i4)] := ⟨hw, hsets, fun p hp => hcalls.1 p hp⟩
  obtain ⟨n, o, h1, h2, h3, _, L, rfl, ⟨rfl, N, -⟩, hq⟩ := rmlaw l s _ G tables_1 i0 i1 i2 i3 i4 s.heap s.heap.size (Old.start s) p e ha hc hk s m _ below hf ((Spec.applies_iff_loose hf).mp happ).1 ⟨rfl, State.Warmed39.refl s, rfl, own_CH G⟩ trivial
  refine ⟨n, _, h1, h2, h3, hpost _ _ _ _ _ _ ⟨Cond.after_iff.mpr rfl, Cond.after_iff.mpr (eq_i res_at (Term.int_eval (1)) rfl), trivial⟩ ⟨hq.1, hq.2.1, hq.2.2.1, (hq.2.2.2.sift fun y hy => Or.inr (N y hy)).mono (by decide) (by decide)⟩⟩
theorem main_1_1 : Claimed_1_1 := comes_1 fun _ _ _ _ _ _ h hF => ⟨h.1, hF⟩
theorem main_1_2 : Claimed_1_2 := comes_1 fun _ _ _ _ _ _ h hF => ⟨h.2.1, hF⟩
end Jvm.Pilot.@@N@@
namespace Jvm.Pilot.@@N@@
open Jvm Jvm.ClassFile Sem Op Lib Jvm.Free Jvm.Stand Jvm.Pilot.@@N@@.Jvm.D
/-! MADE BY PROGRAM (witnessworld.py) out of the Statement's table words and the real class files: 20 classes; the members and pool entries that the words name. The judged class is class 1, her method 3. -/
namespace start1
open Jvm.ClassFile
def u (s : String) : CpInfo := .utf8 (stringToUtf16 s)
/-- a pool by its gaps: so many unusable entries, then the entry; so many at the end -/
def gap : Nat → List CpInfo → List CpInfo
  | 0, r => r
  | n + 1, r => .unusable :: gap n r
def poolList (es : List (Nat × CpInfo)) (last : Nat) : List CpInfo := es.foldr (fun e r => gap e.1 (e.2 :: r)) (gap last [])
def pool (es : List (Nat × CpInfo)) (last : Nat) : Array CpInfo := ⟨poolList es last⟩
def fileOf (pool : Array CpInfo) (this : Nat) (attrs : Array Attribute := #[]) (ms : Array MethodInfo := #[]) (fl : Nat := 33) (sup : Nat := 0) (ifs : Array Nat := #[]) (fds : Array FieldInfo := #[]) : ClassFile where
  minorVersion := 0
  majorVersion := 65
  constantPool := pool
  accessFlags := fl
  thisClass := this
  superClass := sup
  interfaces := ifs
  fields := fds
  methods := ms
  attributes := attrs
def plain (name : String) (sup : Option ClassId) : Class where
  name := name
  kind := .ordinary
  loader := none
  accessFlags := 33
  super := sup
  interfaces := #[]
  cf := none
  fields := #[]
  methods := #[]
  instanceTypes := #[]
  staticTypes := #[]
  resolved := #[]
  callSites := []
  init := .initialized
  statics := none
  mirror := none

def pool0 : Array CpInfo := pool [(5, u "<init>"), (0, u "()V"), (1, .class_ 10), (1, u "java/lang/Object")] 113

def k0c0 : Code := { maxStack := 0, maxLocals := 1, code := object_method_1_code, exceptionTable := #[], attributes := #[] }
def k0m0 : Method := { name := "<init>", desc := "()V", sig := { parameters := [], returnType := none }, accessFlags := 1, code := some k0c0 }
/-- java/lang/Object -/
def k0 : Class := { plain "java/lang/Object" none with
  accessFlags := 33
  interfaces := #[]
  cf := some (fileOf pool0 8 #[] #[{ accessFlags := 1, nameIndex := 5, descriptorIndex := 6, attributes := #[] }] 33 0 #[] #[])
  fields := #[]
  methods := #[k0m0]
  instanceTypes := #[]
  staticTypes := #[]
  resolved := Array.replicate 124 none
  statics := none }

def pool1 : Array CpInfo := pool [(2, .class_ 4), (1, u "java/lang/Object"), (0, u "<init>"), (0, u "()V"), (0, .integer 2147483647), (0, .class_ 9), (0, u "java/lang/String"), (0, .methodref 11 12), (0, .class_ 13), (0, .nameAndType 14 15), (0, u "com/example/sabar/sabar/AsciiIsDigitsPinLaw"), (0, u "build"), (0, u "(ICCCC)[C"), (0, .methodref 8 17), (0, .nameAndType 5 18), (0, u "([C)V"), (0, .methodref 11 20), (0, .nameAndType 21 22), (0, u "digit"), (0, u "(C)Z"), (0, .methodref 24 25), (0, .class_ 26), (0, .nameAndType 27 28), (0, u "com/example/sabar/sabar/Ascii"), (0, u "isDigits"), (0, u "(Ljava/lang/String;)Z"), (3, u "law"), (0, u "(IIIII)Z")] 2

def k1m0 : Method := { name := "<init>", desc := "()V", sig := { parameters := [], returnType := none }, accessFlags := 2, code := none }
def k1c1 : Code := { maxStack := 2, maxLocals := 1, code := method_2_code, exceptionTable := #[], attributes := #[] }
def k1m1 : Method := { name := "digit", desc := "(C)Z", sig := { parameters := [.char], returnType := some .boolean }, accessFlags := 10, code := some k1c1 }
def k1c2 : Code := { maxStack := 4, maxLocals := 5, code := method_3_code, exceptionTable := #[], attributes := #[] }
def k1m2 : Method := { name := "build", desc := "(ICCCC)[C", sig := { parameters := [.int, .char, .char, .char, .char], returnType := some (.array .char) }, accessFlags := 10, code := some k1c2 }
def k1c3 : Code := { maxStack := 7, maxLocals := 12, code := code, exceptionTable := #[], attributes := #[] }
def k1m3 : Method := { name := "law", desc := "(IIIII)Z", sig := { parameters := [.int, .int, .int, .int, .int], returnType := some .boolean }, accessFlags := 9, code := some k1c3 }
/-- com/example/sabar/sabar/AsciiIsDigitsPinLaw -/
def k1 : Class := { plain "com/example/sabar/sabar/AsciiIsDigitsPinLaw" (some 0) with
  accessFlags := 49
  interfaces := #[]
  cf := some (fileOf pool1 11 #[] #[{ accessFlags := 2, nameIndex := 5, descriptorIndex := 6, attributes := #[] }, { accessFlags := 10, nameIndex := 21, descriptorIndex := 22, attributes := #[] }, { accessFlags := 10, nameIndex := 14, descriptorIndex := 15, attributes := #[] }, { accessFlags := 9, nameIndex := 32, descriptorIndex := 33, attributes := #[] }] 49 2 #[] #[])
  fields := #[]
  methods := #[k1m0, k1m1, k1m2, k1m3]
  instanceTypes := #[]
  staticTypes := #[]
  resolved := Array.replicate 36 none
  statics := none }

def pool2 : Array CpInfo := pool [(1, .class_ 2), (0, u "java/io/Serializable"), (0, .class_ 4), (0, u "java/lang/Object")] 2

/-- java/io/Serializable -/
def k2 : Class := { plain "java/io/Serializable" (some 0) with
  accessFlags := 1537
  interfaces := #[]
  cf := some (fileOf pool2 1 #[] #[] 1537 3 #[] #[])
  fields := #[]
  methods := #[]
  instanceTypes := #[]
  staticTypes := #[]
  resolved := Array.replicate 7 none
  statics := none }

def pool3 : Array CpInfo := pool [(1, .class_ 2), (0, u "java/lang/Comparable"), (0, .class_ 4), (0, u "java/lang/Object")] 7

/-- java/lang/Comparable -/
def k3 : Class := { plain "java/lang/Comparable" (some 0) with
  accessFlags := 1537
  interfaces := #[]
  cf := some (fileOf pool3 1 #[] #[] 1537 3 #[] #[])
  fields := #[]
  methods := #[]
  instanceTypes := #[]
  staticTypes := #[]
  resolved := Array.replicate 12 none
  statics := none }

def pool4 : Array CpInfo := pool [(2, .class_ 4), (1, u "java/lang/CharSequence"), (42, .class_ 48), (0, u "java/lang/CharSequence$1CodePointIterator"), (10, .class_ 60), (0, u "java/lang/CharSequence$1CharIterator"), (5, .class_ 67), (0, u "java/lang/Object")] 63

/-- java/lang/CharSequence -/
def k4 : Class := { plain "java/lang/CharSequence" (some 0) with
  accessFlags := 1537
  interfaces := #[]
  cf := some (fileOf pool4 2 #[.nestMembers #[47, 59]] #[] 1537 66 #[] #[])
  fields := #[]
  methods := #[]
  instanceTypes := #[]
  staticTypes := #[]
  resolved := Array.replicate 131 none
  statics := none }

def pool5 : Array CpInfo := pool [(1, .class_ 2), (0, u "java/lang/constant/Constable"), (0, .class_ 4), (0, u "java/lang/Object")] 6

/-- java/lang/constant/Constable -/
def k5 : Class := { plain "java/lang/constant/Constable" (some 0) with
  accessFlags := 1537
  interfaces := #[]
  cf := some (fileOf pool5 1 #[] #[] 1537 3 #[] #[])
  fields := #[]
  methods := #[]
  instanceTypes := #[]
  staticTypes := #[]
  resolved := Array.replicate 11 none
  statics := none }

def pool6 : Array CpInfo := pool [(1, .class_ 2), (0, u "java/lang/constant/ConstantDesc"), (0, .class_ 4), (0, u "java/lang/Object")] 32

/-- java/lang/constant/ConstantDesc -/
def k6 : Class := { plain "java/lang/constant/ConstantDesc" (some 0) with
  accessFlags := 1537
  interfaces := #[]
  cf := some (fileOf pool6 1 #[] #[] 1537 3 #[] #[])
  fields := #[]
  methods := #[]
  instanceTypes := #[]
  staticTypes := #[]
  resolved := Array.replicate 37 none
  statics := none }

def pool7 : Array CpInfo := pool [(1, .methodref 2 3), (0, .class_ 4), (0, .nameAndType 5 6), (0, u "java/lang/Object"), (0, u "<init>"), (0, u "()V"), (0, .string 8), (0, u ""), (0, .fieldref 10 11), (0, .class_ 12), (0, .nameAndType 13 14), (0, u "java/lang/String"), (0, u "value"), (0, u "[B"), (0, .fieldref 10 16), (0, .nameAndType 17 18), (0, u "coder"), (0, u "B"), (2, u "hash"), (0, u "I"), (2, u "hashIsZero"), (0, u "Z"), (0, .methodref 10 28), (0, .nameAndType 5 29), (0, u "([CIILjava/lang/Void;)V"), (8, .fieldref 10 39), (0, .nameAndType 40 26), (0, u "COMPACT_STRINGS"), (1, .class_ 44), (1, u "java/lang/StringUTF16"), (0, u "compress"), (1, .methodref 42 48), (0, .nameAndType 49 50), (0, u "coderFromArrayLen"), (0, u "([BI)B"), (56, .class_ 109), (1, u "java/lang/StringLatin1"), (32, u "()Z"), (34, .methodref 42 178), (0, .nameAndType 45 179), (0, u "([CII)[B"), (154, u "()I"), (0, .methodref 10 336), (0, .nameAndType 17 337), (0, u "()B"), (25, u "([BI)C"), (27, u "(II)V"), (35, u "(I)C"), (64, .methodref 10 493), (0, .nameAndType 494 142), (0, u "isLatin1"), (0, .methodref 107 496), (0, .nameAndType 497 363), (0, u "charAt"), (0, .methodref 42 496), (2, u "checkIndex"), (5, u "length"), (67, .class_ 576), (0, u "java/lang/CharSequence"), (22, u "CASE_INSENSITIVE_ORDER"), (0, u "Ljava/util/Comparator;"), (91, u "isEmpty"), (317, u "([C)V"), (42, .fieldref 1054 1055), (0, .class_ 1056), (0, .nameAndType 1057 1058), (0, u "jdk/internal/util/Preconditions"), (0, u "SIOOBE_FORMATTER"), (0, u "Ljava/util/function/BiFunction;"), (0, .methodref 1054 1060), (0, .nameAndType 501 1061), (0, u "(IILjava/util/function/BiFunction;)I"), (39, u "serialPersistentFields"), (0, u "[Ljava/io/ObjectStreamField;"), (0, .class_ 1104), (0, u "java/lang/String$CaseInsensitiveComparator"), (1, .class_ 1107), (0, u "java/io/Serializable"), (0, .class_ 1109), (0, u "java/lang/Comparable"), (0, .class_ 1111), (0, u "java/lang/constant/Constable"), (0, .class_ 1113), (0, u "java/lang/constant/ConstantDesc"), (2, u "serialVersionUID"), (0, u "J"), (3, u "REPL"), (0, u "C"), (2, u "LATIN1"), (1, u "UTF16")] 323

def k7m0 : Method := { name := "<init>", desc := "()V", sig := { parameters := [], returnType := none }, accessFlags := 1, code := none }
def k7c1 : Code := { maxStack := 5, maxLocals := 2, code := jdk_42_method_3_code, exceptionTable := #[], attributes := #[] }
def k7m1 : Method := { name := "<init>", desc := "([C)V", sig := { parameters := [(.array .char)], returnType := none }, accessFlags := 1, code := some k7c1 }
def k7c2 : Code := { maxStack := 2, maxLocals := 1, code := jdk_42_method_54_code, exceptionTable := #[], attributes := #[] }
def k7m2 : Method := { name := "length", desc := "()I", sig := { parameters := [], returnType := some .int }, accessFlags := 1, code := some k7c2 }
def k7c3 : Code := { maxStack := 1, maxLocals := 1, code := jdk_42_method_55_code, exceptionTable := #[], attributes := #[] }
def k7m3 : Method := { name := "isEmpty", desc := "()Z", sig := { parameters := [], returnType := some .boolean }, accessFlags := 1, code := some k7c3 }
def k7c4 : Code := { maxStack := 2, maxLocals := 2, code := jdk_42_method_56_code, exceptionTable := #[], attributes := #[] }
def k7m4 : Method := { name := "charAt", desc := "(I)C", sig := { parameters := [.int], returnType := some .char }, accessFlags := 1, code := some k7c4 }
def k7c5 : Code := { maxStack := 4, maxLocals := 6, code := jdk_42_method_149_code, exceptionTable := #[], attributes := #[] }
def k7m5 : Method := { name := "<init>", desc := "([CIILjava/lang/Void;)V", sig := { parameters := [(.array .char), .int, .int, (.object "java/lang/Void")], returnType := none }, accessFlags := 2, code := some k7c5 }
def k7c6 : Code := { maxStack := 1, maxLocals := 1, code := jdk_42_method_152_code, exceptionTable := #[], attributes := #[] }
def k7m6 : Method := { name := "coder", desc := "()B", sig := { parameters := [], returnType := some .byte }, accessFlags := 0, code := some k7c6 }
def k7c7 : Code := { maxStack := 1, maxLocals := 1, code := jdk_42_method_154_code, exceptionTable := #[], attributes := #[] }
def k7m7 : Method := { name := "isLatin1", desc := "()Z", sig := { parameters := [], returnType := some .boolean }, accessFlags := 0, code := some k7c7 }
def k7c8 : Code := { maxStack := 3, maxLocals := 2, code := jdk_42_method_155_code, exceptionTable := #[], attributes := #[] }
def k7m8 : Method := { name := "checkIndex", desc := "(II)V", sig := { parameters := [.int, .int], returnType := none }, accessFlags := 8, code := some k7c8 }
/-- java/lang/String -/
def k7 : Class := { plain "java/lang/String" (some 0) with
  accessFlags := 49
  interfaces := #[2, 3, 4, 5, 6]
  cf := some (fileOf pool7 10 #[.nestMembers #[1103]] #[{ accessFlags := 1, nameIndex := 5, descriptorIndex := 6, attributes := #[] }, { accessFlags := 1, nameIndex := 5, descriptorIndex := 1010, attributes := #[] }, { accessFlags := 1, nameIndex := 507, descriptorIndex := 334, attributes := #[] }, { accessFlags := 1, nameIndex := 692, descriptorIndex := 142, attributes := #[] }, { accessFlags := 1, nameIndex := 497, descriptorIndex := 427, attributes := #[] }, { accessFlags := 2, nameIndex := 5, descriptorIndex := 29, attributes := #[] }, { accessFlags := 0, nameIndex := 17, descriptorIndex := 337, attributes := #[] }, { accessFlags := 0, nameIndex := 494, descriptorIndex := 142, attributes := #[] }, { accessFlags := 8, nameIndex := 501, descriptorIndex := 391, attributes := #[] }] 49 2 #[1106, 1108, 575, 1110, 1112] #[{ accessFlags := 18, nameIndex := 13, descriptorIndex := 14, attributes := #[] }, { accessFlags := 18, nameIndex := 17, descriptorIndex := 18, attributes := #[] }, { accessFlags := 2, nameIndex := 21, descriptorIndex := 22, attributes := #[] }, { accessFlags := 2, nameIndex := 25, descriptorIndex := 26, attributes := #[] }, { accessFlags := 26, nameIndex := 1116, descriptorIndex := 1117, attributes := #[] }, { accessFlags := 24, nameIndex := 40, descriptorIndex := 26, attributes := #[] }, { accessFlags := 26, nameIndex := 1101, descriptorIndex := 1102, attributes := #[] }, { accessFlags := 26, nameIndex := 1121, descriptorIndex := 1122, attributes := #[] }, { accessFlags := 25, nameIndex := 599, descriptorIndex := 600, attributes := #[] }, { accessFlags := 24, nameIndex := 1125, descriptorIndex := 18, attributes := #[] }, { accessFlags := 24, nameIndex := 1127, descriptorIndex := 18, attributes := #[] }])
  fields := #[{ name := "value", type := (.array .byte), accessFlags := 18, slot := 0, constantValue := 0 }, { name := "coder", type := .byte, accessFlags := 18, slot := 1, constantValue := 0 }, { name := "hash", type := .int, accessFlags := 2, slot := 2, constantValue := 0 }, { name := "hashIsZero", type := .boolean, accessFlags := 2, slot := 3, constantValue := 0 }, { name := "serialVersionUID", type := .long, accessFlags := 26, slot := 0, constantValue := 0 }, { name := "COMPACT_STRINGS", type := .boolean, accessFlags := 24, slot := 1, constantValue := 0 }, { name := "serialPersistentFields", type := (.array (.object "java/io/ObjectStreamField")), accessFlags := 26, slot := 2, constantValue := 0 }, { name := "REPL", type := .char, accessFlags := 26, slot := 3, constantValue := 0 }, { name := "CASE_INSENSITIVE_ORDER", type := (.object "java/util/Comparator"), accessFlags := 25, slot := 4, constantValue := 0 }, { name := "LATIN1", type := .byte, accessFlags := 24, slot := 5, constantValue := 0 }, { name := "UTF16", type := .byte, accessFlags := 24, slot := 6, constantValue := 0 }]
  methods := #[k7m0, k7m1, k7m2, k7m3, k7m4, k7m5, k7m6, k7m7, k7m8]
  instanceTypes := #[(.array .byte), .byte, .int, .boolean]
  staticTypes := #[.long, .boolean, (.array (.object "java/io/ObjectStreamField")), .char, (.object "java/util/Comparator"), .byte, .byte]
  resolved := Array.replicate 1451 none
  statics := some 0 }

def pool8 : Array CpInfo := pool [(2, .class_ 4), (1, u "java/lang/Object"), (0, u "<init>"), (0, u "()V"), (0, .methodref 8 9), (0, .class_ 10), (0, .nameAndType 11 12), (0, u "java/lang/String"), (0, u "isEmpty"), (0, u "()Z"), (0, .methodref 8 14), (0, .nameAndType 15 16), (0, u "length"), (0, u "()I"), (0, .methodref 8 18), (0, .nameAndType 19 20), (0, u "charAt"), (0, u "(I)C"), (0, .class_ 22), (0, u "com/example/sabar/sabar/Ascii"), (2, u "isDigits"), (0, u "(Ljava/lang/String;)Z")] 3

def k8m0 : Method := { name := "<init>", desc := "()V", sig := { parameters := [], returnType := none }, accessFlags := 2, code := none }
def k8c1 : Code := { maxStack := 2, maxLocals := 3, code := prog_1_method_2_code, exceptionTable := #[], attributes := #[] }
def k8m1 : Method := { name := "isDigits", desc := "(Ljava/lang/String;)Z", sig := { parameters := [(.object "java/lang/String")], returnType := some .boolean }, accessFlags := 8, code := some k8c1 }
/-- com/example/sabar/sabar/Ascii -/
def k8 : Class := { plain "com/example/sabar/sabar/Ascii" (some 0) with
  accessFlags := 48
  interfaces := #[]
  cf := some (fileOf pool8 21 #[] #[{ accessFlags := 2, nameIndex := 5, descriptorIndex := 6, attributes := #[] }, { accessFlags := 8, nameIndex := 25, descriptorIndex := 26, attributes := #[] }] 48 2 #[] #[])
  fields := #[]
  methods := #[k8m0, k8m1]
  instanceTypes := #[]
  staticTypes := #[]
  resolved := Array.replicate 30 none
  statics := none }

def pool9 : Array CpInfo := pool [(3, .class_ 4), (0, u "java/lang/String"), (1, .class_ 8), (1, u "java/lang/Object"), (0, u "<init>"), (0, u "()V"), (0, .methodref 12 13), (0, .class_ 14), (0, .nameAndType 15 16), (0, u "java/lang/StringUTF16"), (0, u "newBytesLength"), (0, u "(I)I"), (3, .integer 1073741823), (23, .fieldref 12 45), (0, .nameAndType 46 47), (0, u "$assertionsDisabled"), (0, u "Z"), (0, .methodref 12 49), (0, .nameAndType 50 51), (0, u "length"), (0, u "([B)I"), (7, .fieldref 12 60), (0, .nameAndType 61 62), (0, u "HI_BYTE_SHIFT"), (0, u "I"), (0, .fieldref 12 64), (0, .nameAndType 65 62), (0, u "LO_BYTE_SHIFT"), (1, .methodref 12 68), (0, .nameAndType 69 70), (0, u "checkIndex"), (0, u "(I[B)V"), (0, .methodref 12 72), (0, .nameAndType 73 74), (0, u "getChar"), (0, u "([BI)C"), (32, .methodref 12 108), (0, .nameAndType 109 110), (0, u "newBytesFor"), (0, u "(I)[B"), (0, .methodref 12 112), (0, .nameAndType 113 114), (0, u "putChar"), (0, u "([BII)V"), (0, .methodref 12 116), (0, .nameAndType 117 118), (0, u "compress"), (0, u "([CI[BII)I"), (0, .methodref 12 120), (0, .nameAndType 121 122), (0, u "toBytes"), (0, u "([CII)[B"), (138, u "coderFromArrayLen"), (0, u "([BI)B"), (106, .class_ 371), (1, u "java/lang/StringUTF16$LinesSpliterator"), (20, u "charAt"), (21, .methodref 3 415), (0, .nameAndType 69 416), (0, u "(II)V"), (13, u "MAX_LENGTH"), (196, .class_ 628), (0, u "java/lang/StringUTF16$CodePointsSpliterator"), (0, .class_ 630), (0, u "java/lang/StringUTF16$CharsSpliterator")] 4

def k9m0 : Method := { name := "<init>", desc := "()V", sig := { parameters := [], returnType := none }, accessFlags := 0, code := none }
def k9c1 : Code := { maxStack := 1, maxLocals := 1, code := jdk_52_method_2_code, exceptionTable := #[], attributes := #[] }
def k9m1 : Method := { name := "newBytesFor", desc := "(I)[B", sig := { parameters := [.int], returnType := some (.array .byte) }, accessFlags := 9, code := some k9c1 }
def k9c2 : Code := { maxStack := 4, maxLocals := 1, code := jdk_52_method_3_code, exceptionTable := #[], attributes := #[] }
def k9m2 : Method := { name := "newBytesLength", desc := "(I)I", sig := { parameters := [.int], returnType := some .int }, accessFlags := 9, code := some k9c2 }
def k9c3 : Code := { maxStack := 4, maxLocals := 3, code := jdk_52_method_4_code, exceptionTable := #[], attributes := #[] }
def k9m3 : Method := { name := "putChar", desc := "([BII)V", sig := { parameters := [(.array .byte), .int, .int], returnType := none }, accessFlags := 8, code := some k9c3 }
def k9c4 : Code := { maxStack := 3, maxLocals := 2, code := jdk_52_method_5_code, exceptionTable := #[], attributes := #[] }
def k9m4 : Method := { name := "getChar", desc := "([BI)C", sig := { parameters := [(.array .byte), .int], returnType := some .char }, accessFlags := 8, code := some k9c4 }
def k9c5 : Code := { maxStack := 2, maxLocals := 1, code := jdk_52_method_6_code, exceptionTable := #[], attributes := #[] }
def k9m5 : Method := { name := "length", desc := "([B)I", sig := { parameters := [(.array .byte)], returnType := some .int }, accessFlags := 9, code := some k9c5 }
def k9c6 : Code := { maxStack := 4, maxLocals := 5, code := jdk_52_method_14_code, exceptionTable := #[], attributes := #[] }
def k9m6 : Method := { name := "toBytes", desc := "([CII)[B", sig := { parameters := [(.array .char), .int, .int], returnType := some (.array .byte) }, accessFlags := 9, code := some k9c6 }
def k9c7 : Code := { maxStack := 2, maxLocals := 2, code := jdk_52_method_15_code, exceptionTable := #[], attributes := #[] }
def k9m7 : Method := { name := "coderFromArrayLen", desc := "([BI)B", sig := { parameters := [(.array .byte), .int], returnType := some .byte }, accessFlags := 8, code := some k9c7 }
def k9c8 : Code := { maxStack := 5, maxLocals := 6, code := jdk_52_method_16_code, exceptionTable := #[], attributes := #[] }
def k9m8 : Method := { name := "compress", desc := "([CII)[B", sig := { parameters := [(.array .char), .int, .int], returnType := some (.array .byte) }, accessFlags := 9, code := some k9c8 }
def k9c9 : Code := { maxStack := 3, maxLocals := 7, code := jdk_52_method_21_code, exceptionTable := #[], attributes := #[] }
def k9m9 : Method := { name := "compress", desc := "([CI[BII)I", sig := { parameters := [(.array .char), .int, (.array .byte), .int, .int], returnType := some .int }, accessFlags := 9, code := some k9c9 }
def k9c10 : Code := { maxStack := 2, maxLocals := 2, code := jdk_52_method_83_code, exceptionTable := #[], attributes := #[] }
def k9m10 : Method := { name := "charAt", desc := "([BI)C", sig := { parameters := [(.array .byte), .int], returnType := some .char }, accessFlags := 9, code := some k9c10 }
def k9c11 : Code := { maxStack := 2, maxLocals := 2, code := jdk_52_method_91_code, exceptionTable := #[], attributes := #[] }
def k9m11 : Method := { name := "checkIndex", desc := "(I[B)V", sig := { parameters := [.int, (.array .byte)], returnType := none }, accessFlags := 9, code := some k9c11 }
/-- java/lang/StringUTF16 -/
def k9 : Class := { plain "java/lang/StringUTF16" (some 0) with
  accessFlags := 48
  interfaces := #[]
  cf := some (fileOf pool9 12 #[.nestMembers #[627, 629, 369]] #[{ accessFlags := 0, nameIndex := 9, descriptorIndex := 10, attributes := #[] }, { accessFlags := 9, nameIndex := 109, descriptorIndex := 110, attributes := #[] }, { accessFlags := 9, nameIndex := 15, descriptorIndex := 16, attributes := #[] }, { accessFlags := 8, nameIndex := 113, descriptorIndex := 114, attributes := #[] }, { accessFlags := 8, nameIndex := 73, descriptorIndex := 74, attributes := #[] }, { accessFlags := 9, nameIndex := 50, descriptorIndex := 51, attributes := #[] }, { accessFlags := 9, nameIndex := 121, descriptorIndex := 122, attributes := #[] }, { accessFlags := 8, nameIndex := 261, descriptorIndex := 262, attributes := #[] }, { accessFlags := 9, nameIndex := 117, descriptorIndex := 122, attributes := #[] }, { accessFlags := 9, nameIndex := 117, descriptorIndex := 118, attributes := #[] }, { accessFlags := 9, nameIndex := 392, descriptorIndex := 74, attributes := #[] }, { accessFlags := 9, nameIndex := 69, descriptorIndex := 70, attributes := #[] }] 48 6 #[] #[{ accessFlags := 26, nameIndex := 61, descriptorIndex := 62, attributes := #[] }, { accessFlags := 26, nameIndex := 65, descriptorIndex := 62, attributes := #[] }, { accessFlags := 24, nameIndex := 430, descriptorIndex := 62, attributes := #[] }, { accessFlags := 4120, nameIndex := 46, descriptorIndex := 47, attributes := #[] }])
  fields := #[{ name := "HI_BYTE_SHIFT", type := .int, accessFlags := 26, slot := 0, constantValue := 0 }, { name := "LO_BYTE_SHIFT", type := .int, accessFlags := 26, slot := 1, constantValue := 0 }, { name := "MAX_LENGTH", type := .int, accessFlags := 24, slot := 2, constantValue := 0 }, { name := "$assertionsDisabled", type := .boolean, accessFlags := 4120, slot := 3, constantValue := 0 }]
  methods := #[k9m0, k9m1, k9m2, k9m3, k9m4, k9m5, k9m6, k9m7, k9m8, k9m9, k9m10, k9m11]
  instanceTypes := #[]
  staticTypes := #[.int, .int, .int, .boolean]
  resolved := Array.replicate 635 none
  statics := some 1 }

def pool10 : Array CpInfo := pool [(1, .class_ 2), (0, u "java/lang/String"), (1, .class_ 6), (1, u "java/lang/Object"), (0, u "<init>"), (0, u "()V"), (0, .methodref 1 10), (0, .nameAndType 11 12), (0, u "checkIndex"), (0, u "(II)V"), (1, .class_ 16), (1, u "java/lang/StringLatin1"), (36, u "([BI)C"), (67, u "$assertionsDisabled"), (0, u "Z"), (98, .class_ 223), (1, u "java/lang/StringLatin1$LinesSpliterator"), (28, u "charAt"), (137, .class_ 391), (0, u "java/lang/StringLatin1$CharsSpliterator")] 3

def k10m0 : Method := { name := "<init>", desc := "()V", sig := { parameters := [], returnType := none }, accessFlags := 0, code := none }
def k10c1 : Code := { maxStack := 2, maxLocals := 2, code := jdk_43_method_2_code, exceptionTable := #[], attributes := #[] }
def k10m1 : Method := { name := "charAt", desc := "([BI)C", sig := { parameters := [(.array .byte), .int], returnType := some .char }, accessFlags := 9, code := some k10c1 }
/-- java/lang/StringLatin1 -/
def k10 : Class := { plain "java/lang/StringLatin1" (some 0) with
  accessFlags := 48
  interfaces := #[]
  cf := some (fileOf pool10 14 #[.nestMembers #[390, 221]] #[{ accessFlags := 0, nameIndex := 7, descriptorIndex := 8, attributes := #[] }, { accessFlags := 9, nameIndex := 252, descriptorIndex := 53, attributes := #[] }] 48 4 #[] #[{ accessFlags := 4120, nameIndex := 121, descriptorIndex := 122, attributes := #[] }])
  fields := #[{ name := "$assertionsDisabled", type := .boolean, accessFlags := 4120, slot := 0, constantValue := 0 }]
  methods := #[k10m0, k10m1]
  instanceTypes := #[]
  staticTypes := #[.boolean]
  resolved := Array.replicate 395 none
  statics := none }

def pool11 : Array CpInfo := pool [(2, .class_ 4), (1, u "java/lang/Object"), (0, u "<init>"), (0, u "()V"), (17, .class_ 26), (1, u "jdk/internal/util/Preconditions"), (6, u "checkIndex"), (21, .class_ 56), (0, u "jdk/internal/util/Preconditions$4"), (57, .class_ 115), (0, u "jdk/internal/util/Preconditions$1"), (7, u "SIOOBE_FORMATTER"), (0, u "Ljava/util/function/BiFunction;"), (0, .class_ 126), (0, u "jdk/internal/util/Preconditions$2"), (3, u "AIOOBE_FORMATTER"), (0, .class_ 132), (0, u "jdk/internal/util/Preconditions$3"), (3, u "IOOBE_FORMATTER"), (41, u "(IILjava/util/function/BiFunction;)I")] 15

def k11m0 : Method := { name := "<init>", desc := "()V", sig := { parameters := [], returnType := none }, accessFlags := 1, code := none }
def k11c1 : Code := { maxStack := 3, maxLocals := 3, code := jdk_41_method_11_code, exceptionTable := #[], attributes := #[] }
def k11m1 : Method := { name := "checkIndex", desc := "(IILjava/util/function/BiFunction;)I", sig := { parameters := [.int, .int, (.object "java/util/function/BiFunction")], returnType := some .int }, accessFlags := 9, code := some k11c1 }
/-- jdk/internal/util/Preconditions -/
def k11 : Class := { plain "jdk/internal/util/Preconditions" (some 0) with
  accessFlags := 33
  interfaces := #[]
  cf := some (fileOf pool11 24 #[.nestMembers #[55, 131, 125, 114]] #[{ accessFlags := 1, nameIndex := 5, descriptorIndex := 6, attributes := #[] }, { accessFlags := 9, nameIndex := 33, descriptorIndex := 178, attributes := #[] }] 33 2 #[] #[{ accessFlags := 25, nameIndex := 123, descriptorIndex := 124, attributes := #[] }, { accessFlags := 25, nameIndex := 130, descriptorIndex := 124, attributes := #[] }, { accessFlags := 25, nameIndex := 136, descriptorIndex := 124, attributes := #[] }])
  fields := #[{ name := "SIOOBE_FORMATTER", type := (.object "java/util/function/BiFunction"), accessFlags := 25, slot := 0, constantValue := 0 }, { name := "AIOOBE_FORMATTER", type := (.object "java/util/function/BiFunction"), accessFlags := 25, slot := 1, constantValue := 0 }, { name := "IOOBE_FORMATTER", type := (.object "java/util/function/BiFunction"), accessFlags := 25, slot := 2, constantValue := 0 }]
  methods := #[k11m0, k11m1]
  instanceTypes := #[]
  staticTypes := #[(.object "java/util/function/BiFunction"), (.object "java/util/function/BiFunction"), (.object "java/util/function/BiFunction")]
  resolved := Array.replicate 194 none
  statics := some 2 }

def pool12 : Array CpInfo := pool [(9, u "<init>"), (6, .class_ 18), (1, u "java/lang/Object"), (0, u "()V"), (1, .class_ 23), (1, u "jdk/internal/util/ArraysSupport"), (0, u "LOG2_ARRAY_LONG_INDEX_SCALE"), (0, u "I"), (2, u "U"), (0, u "Ljdk/internal/misc/Unsafe;"), (8, u "BIG_ENDIAN"), (0, u "Z"), (8, u "LOG2_BYTE_BIT_SIZE"), (4, u "LOG2_ARRAY_INT_INDEX_SCALE"), (54, u "JLA"), (0, u "Ljdk/internal/access/JavaLangAccess;"), (11, u "LOG2_ARRAY_BOOLEAN_INDEX_SCALE"), (9, u "LOG2_ARRAY_BYTE_INDEX_SCALE"), (5, u "LOG2_ARRAY_CHAR_INDEX_SCALE"), (5, u "LOG2_ARRAY_SHORT_INDEX_SCALE"), (18, u "LOG2_ARRAY_FLOAT_INDEX_SCALE"), (24, u "LOG2_ARRAY_DOUBLE_INDEX_SCALE"), (89, u "T_BOOLEAN"), (2, u "T_CHAR"), (1, u "T_FLOAT"), (1, u "T_DOUBLE"), (1, u "T_BYTE"), (1, u "T_SHORT"), (1, u "T_INT"), (1, u "T_LONG"), (1, u "SOFT_MAX_ARRAY_LENGTH")] 83

def k12m0 : Method := { name := "<init>", desc := "()V", sig := { parameters := [], returnType := none }, accessFlags := 2, code := none }
/-- jdk/internal/util/ArraysSupport -/
def k12 : Class := { plain "jdk/internal/util/ArraysSupport" (some 0) with
  accessFlags := 33
  interfaces := #[]
  cf := some (fileOf pool12 21 #[] #[{ accessFlags := 2, nameIndex := 9, descriptorIndex := 19, attributes := #[] }] 33 16 #[] #[{ accessFlags := 24, nameIndex := 28, descriptorIndex := 29, attributes := #[] }, { accessFlags := 26, nameIndex := 38, descriptorIndex := 39, attributes := #[] }, { accessFlags := 25, nameIndex := 121, descriptorIndex := 25, attributes := #[] }, { accessFlags := 25, nameIndex := 131, descriptorIndex := 25, attributes := #[] }, { accessFlags := 25, nameIndex := 137, descriptorIndex := 25, attributes := #[] }, { accessFlags := 25, nameIndex := 143, descriptorIndex := 25, attributes := #[] }, { accessFlags := 25, nameIndex := 53, descriptorIndex := 25, attributes := #[] }, { accessFlags := 25, nameIndex := 24, descriptorIndex := 25, attributes := #[] }, { accessFlags := 25, nameIndex := 162, descriptorIndex := 25, attributes := #[] }, { accessFlags := 25, nameIndex := 187, descriptorIndex := 25, attributes := #[] }, { accessFlags := 26, nameIndex := 48, descriptorIndex := 25, attributes := #[] }, { accessFlags := 25, nameIndex := 277, descriptorIndex := 25, attributes := #[] }, { accessFlags := 25, nameIndex := 280, descriptorIndex := 25, attributes := #[] }, { accessFlags := 25, nameIndex := 282, descriptorIndex := 25, attributes := #[] }, { accessFlags := 25, nameIndex := 284, descriptorIndex := 25, attributes := #[] }, { accessFlags := 25, nameIndex := 286, descriptorIndex := 25, attributes := #[] }, { accessFlags := 25, nameIndex := 288, descriptorIndex := 25, attributes := #[] }, { accessFlags := 25, nameIndex := 290, descriptorIndex := 25, attributes := #[] }, { accessFlags := 25, nameIndex := 292, descriptorIndex := 25, attributes := #[] }, { accessFlags := 26, nameIndex := 108, descriptorIndex := 109, attributes := #[] }, { accessFlags := 25, nameIndex := 294, descriptorIndex := 25, attributes := #[] }])
  fields := #[{ name := "U", type := (.object "jdk/internal/misc/Unsafe"), accessFlags := 24, slot := 0, constantValue := 0 }, { name := "BIG_ENDIAN", type := .boolean, accessFlags := 26, slot := 1, constantValue := 0 }, { name := "LOG2_ARRAY_BOOLEAN_INDEX_SCALE", type := .int, accessFlags := 25, slot := 2, constantValue := 0 }, { name := "LOG2_ARRAY_BYTE_INDEX_SCALE", type := .int, accessFlags := 25, slot := 3, constantValue := 0 }, { name := "LOG2_ARRAY_CHAR_INDEX_SCALE", type := .int, accessFlags := 25, slot := 4, constantValue := 0 }, { name := "LOG2_ARRAY_SHORT_INDEX_SCALE", type := .int, accessFlags := 25, slot := 5, constantValue := 0 }, { name := "LOG2_ARRAY_INT_INDEX_SCALE", type := .int, accessFlags := 25, slot := 6, constantValue := 0 }, { name := "LOG2_ARRAY_LONG_INDEX_SCALE", type := .int, accessFlags := 25, slot := 7, constantValue := 0 }, { name := "LOG2_ARRAY_FLOAT_INDEX_SCALE", type := .int, accessFlags := 25, slot := 8, constantValue := 0 }, { name := "LOG2_ARRAY_DOUBLE_INDEX_SCALE", type := .int, accessFlags := 25, slot := 9, constantValue := 0 }, { name := "LOG2_BYTE_BIT_SIZE", type := .int, accessFlags := 26, slot := 10, constantValue := 0 }, { name := "T_BOOLEAN", type := .int, accessFlags := 25, slot := 11, constantValue := 0 }, { name := "T_CHAR", type := .int, accessFlags := 25, slot := 12, constantValue := 0 }, { name := "T_FLOAT", type := .int, accessFlags := 25, slot := 13, constantValue := 0 }, { name := "T_DOUBLE", type := .int, accessFlags := 25, slot := 14, constantValue := 0 }, { name := "T_BYTE", type := .int, accessFlags := 25, slot := 15, constantValue := 0 }, { name := "T_SHORT", type := .int, accessFlags := 25, slot := 16, constantValue := 0 }, { name := "T_INT", type := .int, accessFlags := 25, slot := 17, constantValue := 0 }, { name := "T_LONG", type := .int, accessFlags := 25, slot := 18, constantValue := 0 }, { name := "JLA", type := (.object "jdk/internal/access/JavaLangAccess"), accessFlags := 26, slot := 19, constantValue := 0 }, { name := "SOFT_MAX_ARRAY_LENGTH", type := .int, accessFlags := 25, slot := 20, constantValue := 0 }]
  methods := #[k12m0]
  instanceTypes := #[]
  staticTypes := #[(.object "jdk/internal/misc/Unsafe"), .boolean, .int, .int, .int, .int, .int, .int, .int, .int, .int, .int, .int, .int, .int, .int, .int, .int, .int, (.object "jdk/internal/access/JavaLangAccess"), .int]
  resolved := Array.replicate 378 none
  statics := none }

def pool13 : Array CpInfo := pool [(1, u "java/lang/Cloneable"), (0, .class_ 1), (0, u "java/lang/Object"), (0, .class_ 3)] 3

/-- java/lang/Cloneable -/
def k13 : Class := { plain "java/lang/Cloneable" (some 0) with
  accessFlags := 1537
  interfaces := #[]
  cf := some (fileOf pool13 2 #[] #[] 1537 4 #[] #[])
  fields := #[]
  methods := #[]
  instanceTypes := #[]
  staticTypes := #[]
  resolved := Array.replicate 8 none
  statics := none }

/-- the primitive byte -/
def k14 : Class := { plain "byte" none with kind := .primitive 'B', accessFlags := 0x411 }
/-- [B -/
def k15 : Class := { plain "[B" (some 0) with kind := .array 14 .byte, interfaces := #[13, 2], accessFlags := 1041 }

/-- the primitive char -/
def k16 : Class := { plain "char" none with kind := .primitive 'C', accessFlags := 0x411 }
/-- [C -/
def k17 : Class := { plain "[C" (some 0) with kind := .array 16 .char, interfaces := #[13, 2], accessFlags := 1041 }

/-- the primitive int -/
def k18 : Class := { plain "int" none with kind := .primitive 'I', accessFlags := 0x411 }
/-- [I -/
def k19 : Class := { plain "[I" (some 0) with kind := .array 18 .int, interfaces := #[13, 2], accessFlags := 1041 }

def heap : Heap := #[{ cls := 7, slots := #[.long 0, .int 1, .null, .int 0, .null, .int 0, .int 0], vm := .statics 7 },
  { cls := 9, slots := #[.int 0, .int 8, .int 0, .int 1], vm := .statics 9 },
  { cls := 11, slots := #[.null, .null, .null], vm := .statics 11 }]
def classes : Array Class := #[k0, k1, k2, k3, k4, k5, k6, k7, k8, k9, k10, k11, k12, k13, k14, k15, k16, k17, k18, k19]
def interned : List (Array UInt16 × Addr) := []
def slotsUsed : Nat := 14
def theMethod : MethodId := ⟨1, 3⟩
def args0 : Array Value := #[.int 5, .int 5, .int 5, .int 5, .int 5]
def aboutOver (below : List Frame) : State where
  vm := { classes := classes, interned := interned.toArray }
  heap := heap
  slotsUsed := slotsUsed
  threads := #[{ frames := .invoking theMethod args0 :: below }]
def below0 : List Frame := [.native { method := ⟨0, 0⟩, args := #[] }]
def about1 : State := aboutOver below0
def p0 : Program := .bare "" "" ""
def e0 : Env := launch0.env 0 0 0
theorem w_frames : about1.frames = Frame.invoking theMethod args0 :: below0 := rfl
set_option maxRecDepth 65536 in
theorem w_args : argsFit about1.vm theMethod args0 = true := by decide +kernel
set_option maxRecDepth 65536 in
theorem w_heap : heapFits about1 = true := by decide +kernel
set_option maxRecDepth 65536 in
theorem w_runnable : about1.curStatus? = some .runnable := by decide +kernel
set_option maxRecDepth 65536 in
theorem w_alone : about1.alone = true := by decide +kernel
set_option maxRecDepth 65536 in
theorem w_named : about1.methodNamed? x = some theMethod := by decide +kernel
set_option maxRecDepth 65536 in
theorem w_hears : about1.hears theMethod below0 = true := by decide +kernel
set_option maxRecDepth 65536 in
theorem w_ripe : about1.ripe theMethod args0 below0 = true := by decide +kernel
theorem w_running : about1.status = .running := rfl
set_option maxRecDepth 65536 in
theorem w_room : about1.hasRoom e0.platform room_1 = true :=
  launch0.hasRoom_least _ room_1 (by decide +kernel) (by decide +kernel) (by decide +kernel) (by decide +kernel) (by decide +kernel) (by decide +kernel)
theorem allAtoms_all (ts : List Jvm.Cond) (a : Array Jvm.Value) (st : Jvm.State) : (allAtoms ts).before a st = ts.all (fun c => c.before a st) := by
  induction ts with
  | nil => rfl
  | cons c t ih =>
    show (Jvm.Cond.and c (allAtoms t)).before a st = _
    rw [Jvm.Cond.before_and, ih, List.all_cons]
def words1 : List Jvm.Cond := Jvm.Cond.code x code maxLocals ret :: tables_1
/-- a 'code' word, met by the world's own term for the bytes: nothing is compared byte by byte -/
theorem code_word {y : MethodName} {bytes : ByteArray} {mx : Nat} {rt : Option FieldType} {a : Array Value} {s : State} {m : MethodId} {meth : Method} {c : Code} (h1 : s.methodNamed? y = some m) (h2 : s.vm.method? m = some meth) (h3 : meth.code = some c) (h4 : c.code = bytes)
    (h5 : (c.maxLocals == mx && c.exceptionTable.isEmpty && decide (c.maxStack ≤ mostOperands) && decide (meth.sig.returnType = rt) && !meth.locks && decide (parseMethodDescriptor y.desc = some meth.sig)) = true) : (Jvm.Cond.code y bytes mx rt).before a s = true := by
  simp only [Bool.and_eq_true, beq_iff_eq, Bool.not_eq_true', decide_eq_true_eq] at h5
  obtain ⟨⟨⟨⟨⟨g1, g2⟩, g3⟩, g4⟩, g5⟩, g6⟩ := h5
  simp [Cond.before, Cond.holds, Cond.value, h1, h2, h3, h4, g1, g2, g3, g4, g5, g6]
def isCode : Jvm.Cond → Bool
  | .code _ _ _ _ => true
  | _ => false
theorem all_split {L : List Jvm.Cond} {P : Jvm.Cond → Bool} (h1 : L.all (fun c => isCode c || P c) = true) (h2 : ∀ c ∈ L.filter isCode, P c = true) : L.all P = true := by
  refine List.all_eq_true.mpr fun c hc => ?_
  have h := List.all_eq_true.mp h1 c hc
  rcases Bool.eq_false_or_eq_true (isCode c) with hi | hi
  · exact h2 c (List.mem_filter.mpr ⟨hc, hi⟩)
  · simpa [hi] using h
set_option maxRecDepth 65536 in
theorem w_c0 : (Jvm.Cond.code x code maxLocals ret).before args0 about1 = true := code_word (m := ⟨1, 3⟩) (meth := k1m3) (c := k1c3) (by decide +kernel) rfl rfl rfl (by decide +kernel)
set_option maxRecDepth 65536 in
theorem w_c1 : (Jvm.Cond.code ({ cls := "com/example/sabar/sabar/AsciiIsDigitsPinLaw", name := "build", desc := "(ICCCC)[C" } : Jvm.MethodName) method_3_code (5 : Nat) (Option.some (Jvm.ClassFile.FieldType.array Jvm.ClassFile.FieldType.char))).before args0 about1 = true := code_word (m := ⟨1, 2⟩) (meth := k1m2) (c := k1c2) (by decide +kernel) rfl rfl rfl (by decide +kernel)
set_option maxRecDepth 65536 in
theorem w_c2 : (Jvm.Cond.code ({ cls := "java/lang/String", name := "<init>", desc := "([C)V" } : Jvm.MethodName) jdk_42_method_3_code (2 : Nat) (Option.none : Option Jvm.ClassFile.FieldType)).before args0 about1 = true := code_word (m := ⟨7, 1⟩) (meth := k7m1) (c := k7c1) (by decide +kernel) rfl rfl rfl (by decide +kernel)
set_option maxRecDepth 65536 in
theorem w_c3 : (Jvm.Cond.code ({ cls := "java/lang/String", name := "<init>", desc := "([CIILjava/lang/Void;)V" } : Jvm.MethodName) jdk_42_method_149_code (6 : Nat) (Option.none : Option Jvm.ClassFile.FieldType)).before args0 about1 = true := code_word (m := ⟨7, 5⟩) (meth := k7m5) (c := k7c5) (by decide +kernel) rfl rfl rfl (by decide +kernel)
set_option maxRecDepth 65536 in
theorem w_c4 : (Jvm.Cond.code ({ cls := "java/lang/Object", name := "<init>", desc := "()V" } : Jvm.MethodName) object_method_1_code (1 : Nat) (Option.none : Option Jvm.ClassFile.FieldType)).before args0 about1 = true := code_word (m := ⟨0, 0⟩) (meth := k0m0) (c := k0c0) (by decide +kernel) rfl rfl rfl (by decide +kernel)
set_option maxRecDepth 65536 in
theorem w_c5 : (Jvm.Cond.code ({ cls := "com/example/sabar/sabar/Ascii", name := "isDigits", desc := "(Ljava/lang/String;)Z" } : Jvm.MethodName) prog_1_method_2_code (3 : Nat) (Option.some Jvm.ClassFile.FieldType.boolean)).before args0 about1 = true := code_word (m := ⟨8, 1⟩) (meth := k8m1) (c := k8c1) (by decide +kernel) rfl rfl rfl (by decide +kernel)
set_option maxRecDepth 65536 in
theorem w_c6 : (Jvm.Cond.code ({ cls := "java/lang/String", name := "isEmpty", desc := "()Z" } : Jvm.MethodName) jdk_42_method_55_code (1 : Nat) (Option.some Jvm.ClassFile.FieldType.boolean)).before args0 about1 = true := code_word (m := ⟨7, 3⟩) (meth := k7m3) (c := k7c3) (by decide +kernel) rfl rfl rfl (by decide +kernel)
set_option maxRecDepth 65536 in
theorem w_c7 : (Jvm.Cond.code ({ cls := "java/lang/StringUTF16", name := "compress", desc := "([CII)[B" } : Jvm.MethodName) jdk_52_method_16_code (6 : Nat) (Option.some (Jvm.ClassFile.FieldType.array Jvm.ClassFile.FieldType.byte))).before args0 about1 = true := code_word (m := ⟨9, 8⟩) (meth := k9m8) (c := k9c8) (by decide +kernel) rfl rfl rfl (by decide +kernel)
set_option maxRecDepth 65536 in
theorem w_c8 : (Jvm.Cond.code ({ cls := "java/lang/StringUTF16", name := "compress", desc := "([CI[BII)I" } : Jvm.MethodName) jdk_52_method_21_code (7 : Nat) (Option.some Jvm.ClassFile.FieldType.int)).before args0 about1 = true := code_word (m := ⟨9, 9⟩) (meth := k9m9) (c := k9c9) (by decide +kernel) rfl rfl rfl (by decide +kernel)
set_option maxRecDepth 65536 in
theorem w_c9 : (Jvm.Cond.code ({ cls := "java/lang/StringUTF16", name := "coderFromArrayLen", desc := "([BI)B" } : Jvm.MethodName) jdk_52_method_15_code (2 : Nat) (Option.some Jvm.ClassFile.FieldType.byte)).before args0 about1 = true := code_word (m := ⟨9, 7⟩) (meth := k9m7) (c := k9c7) (by decide +kernel) rfl rfl rfl (by decide +kernel)
set_option maxRecDepth 65536 in
theorem w_c10 : (Jvm.Cond.code ({ cls := "com/example/sabar/sabar/AsciiIsDigitsPinLaw", name := "digit", desc := "(C)Z" } : Jvm.MethodName) method_2_code (1 : Nat) (Option.some Jvm.ClassFile.FieldType.boolean)).before args0 about1 = true := code_word (m := ⟨1, 1⟩) (meth := k1m1) (c := k1c1) (by decide +kernel) rfl rfl rfl (by decide +kernel)
set_option maxRecDepth 65536 in
theorem w_c11 : (Jvm.Cond.code ({ cls := "java/lang/String", name := "length", desc := "()I" } : Jvm.MethodName) jdk_42_method_54_code (1 : Nat) (Option.some Jvm.ClassFile.FieldType.int)).before args0 about1 = true := code_word (m := ⟨7, 2⟩) (meth := k7m2) (c := k7c2) (by decide +kernel) rfl rfl rfl (by decide +kernel)
set_option maxRecDepth 65536 in
theorem w_c12 : (Jvm.Cond.code ({ cls := "java/lang/String", name := "coder", desc := "()B" } : Jvm.MethodName) jdk_42_method_152_code (1 : Nat) (Option.some Jvm.ClassFile.FieldType.byte)).before args0 about1 = true := code_word (m := ⟨7, 6⟩) (meth := k7m6) (c := k7c6) (by decide +kernel) rfl rfl rfl (by decide +kernel)
set_option maxRecDepth 65536 in
theorem w_c13 : (Jvm.Cond.code ({ cls := "java/lang/String", name := "charAt", desc := "(I)C" } : Jvm.MethodName) jdk_42_method_56_code (2 : Nat) (Option.some Jvm.ClassFile.FieldType.char)).before args0 about1 = true := code_word (m := ⟨7, 4⟩) (meth := k7m4) (c := k7c4) (by decide +kernel) rfl rfl rfl (by decide +kernel)
set_option maxRecDepth 65536 in
theorem w_c14 : (Jvm.Cond.code ({ cls := "java/lang/String", name := "isLatin1", desc := "()Z" } : Jvm.MethodName) jdk_42_method_154_code (1 : Nat) (Option.some Jvm.ClassFile.FieldType.boolean)).before args0 about1 = true := code_word (m := ⟨7, 7⟩) (meth := k7m7) (c := k7c7) (by decide +kernel) rfl rfl rfl (by decide +kernel)
set_option maxRecDepth 65536 in
theorem w_c15 : (Jvm.Cond.code ({ cls := "java/lang/StringLatin1", name := "charAt", desc := "([BI)C" } : Jvm.MethodName) jdk_43_method_2_code (2 : Nat) (Option.some Jvm.ClassFile.FieldType.char)).before args0 about1 = true := code_word (m := ⟨10, 1⟩) (meth := k10m1) (c := k10c1) (by decide +kernel) rfl rfl rfl (by decide +kernel)
set_option maxRecDepth 65536 in
theorem w_c16 : (Jvm.Cond.code ({ cls := "java/lang/String", name := "checkIndex", desc := "(II)V" } : Jvm.MethodName) jdk_42_method_155_code (2 : Nat) (Option.none : Option Jvm.ClassFile.FieldType)).before args0 about1 = true := code_word (m := ⟨7, 8⟩) (meth := k7m8) (c := k7c8) (by decide +kernel) rfl rfl rfl (by decide +kernel)
set_option maxRecDepth 65536 in
theorem w_c17 : (Jvm.Cond.code ({ cls := "jdk/internal/util/Preconditions", name := "checkIndex", desc := "(IILjava/util/function/BiFunction;)I" } : Jvm.MethodName) jdk_41_method_11_code (3 : Nat) (Option.some Jvm.ClassFile.FieldType.int)).before args0 about1 = true := code_word (m := ⟨11, 1⟩) (meth := k11m1) (c := k11c1) (by decide +kernel) rfl rfl rfl (by decide +kernel)
set_option maxRecDepth 65536 in
theorem w_c18 : (Jvm.Cond.code ({ cls := "java/lang/StringUTF16", name := "toBytes", desc := "([CII)[B" } : Jvm.MethodName) jdk_52_method_14_code (5 : Nat) (Option.some (Jvm.ClassFile.FieldType.array Jvm.ClassFile.FieldType.byte))).before args0 about1 = true := code_word (m := ⟨9, 6⟩) (meth := k9m6) (c := k9c6) (by decide +kernel) rfl rfl rfl (by decide +kernel)
set_option maxRecDepth 65536 in
theorem w_c19 : (Jvm.Cond.code ({ cls := "java/lang/StringUTF16", name := "newBytesFor", desc := "(I)[B" } : Jvm.MethodName) jdk_52_method_2_code (1 : Nat) (Option.some (Jvm.ClassFile.FieldType.array Jvm.ClassFile.FieldType.byte))).before args0 about1 = true := code_word (m := ⟨9, 1⟩) (meth := k9m1) (c := k9c1) (by decide +kernel) rfl rfl rfl (by decide +kernel)
set_option maxRecDepth 65536 in
theorem w_c20 : (Jvm.Cond.code ({ cls := "java/lang/StringUTF16", name := "newBytesLength", desc := "(I)I" } : Jvm.MethodName) jdk_52_method_3_code (1 : Nat) (Option.some Jvm.ClassFile.FieldType.int)).before args0 about1 = true := code_word (m := ⟨9, 2⟩) (meth := k9m2) (c := k9c2) (by decide +kernel) rfl rfl rfl (by decide +kernel)
set_option maxRecDepth 65536 in
theorem w_c21 : (Jvm.Cond.code ({ cls := "java/lang/StringUTF16", name := "putChar", desc := "([BII)V" } : Jvm.MethodName) jdk_52_method_4_code (3 : Nat) (Option.none : Option Jvm.ClassFile.FieldType)).before args0 about1 = true := code_word (m := ⟨9, 3⟩) (meth := k9m3) (c := k9c3) (by decide +kernel) rfl rfl rfl (by decide +kernel)
set_option maxRecDepth 65536 in
theorem w_c22 : (Jvm.Cond.code ({ cls := "java/lang/StringUTF16", name := "getChar", desc := "([BI)C" } : Jvm.MethodName) jdk_52_method_5_code (2 : Nat) (Option.some Jvm.ClassFile.FieldType.char)).before args0 about1 = true := code_word (m := ⟨9, 4⟩) (meth := k9m4) (c := k9c4) (by decide +kernel) rfl rfl rfl (by decide +kernel)
set_option maxRecDepth 65536 in
theorem w_c23 : (Jvm.Cond.code ({ cls := "java/lang/StringUTF16", name := "charAt", desc := "([BI)C" } : Jvm.MethodName) jdk_52_method_83_code (2 : Nat) (Option.some Jvm.ClassFile.FieldType.char)).before args0 about1 = true := code_word (m := ⟨9, 10⟩) (meth := k9m10) (c := k9c10) (by decide +kernel) rfl rfl rfl (by decide +kernel)
set_option maxRecDepth 65536 in
theorem w_c24 : (Jvm.Cond.code ({ cls := "java/lang/StringUTF16", name := "checkIndex", desc := "(I[B)V" } : Jvm.MethodName) jdk_52_method_91_code (2 : Nat) (Option.none : Option Jvm.ClassFile.FieldType)).before args0 about1 = true := code_word (m := ⟨9, 11⟩) (meth := k9m11) (c := k9c11) (by decide +kernel) rfl rfl rfl (by decide +kernel)
set_option maxRecDepth 65536 in
theorem w_c25 : (Jvm.Cond.code ({ cls := "java/lang/StringUTF16", name := "length", desc := "([B)I" } : Jvm.MethodName) jdk_52_method_6_code (1 : Nat) (Option.some Jvm.ClassFile.FieldType.int)).before args0 about1 = true := code_word (m := ⟨9, 5⟩) (meth := k9m5) (c := k9c5) (by decide +kernel) rfl rfl rfl (by decide +kernel)
def codes1 : List Jvm.Cond := [Jvm.Cond.code x code maxLocals ret, Jvm.Cond.code ({ cls := "com/example/sabar/sabar/AsciiIsDigitsPinLaw", name := "build", desc := "(ICCCC)[C" } : Jvm.MethodName) method_3_code (5 : Nat) (Option.some (Jvm.ClassFile.FieldType.array Jvm.ClassFile.FieldType.char)), Jvm.Cond.code ({ cls := "java/lang/String", name := "<init>", desc := "([C)V" } : Jvm.MethodName) jdk_42_method_3_code (2 : Nat) (Option.none : Option Jvm.ClassFile.FieldType), Jvm.Cond.code ({ cls := "java/lang/String", name := "<init>", desc := "([CIILjava/lang/Void;)V" } : Jvm.MethodName) jdk_42_method_149_code (6 : Nat) (Option.none : Option Jvm.ClassFile.FieldType), Jvm.Cond.code ({ cls := "java/lang/Object", name := "<init>", desc := "()V" } : Jvm.MethodName) object_method_1_code (1 : Nat) (Option.none : Option Jvm.ClassFile.FieldType), Jvm.Cond.code ({ cls := "com/example/sabar/sabar/Ascii", name := "isDigits", desc := "(Ljava/lang/String;)Z" } : Jvm.MethodName) prog_1_method_2_code (3 : Nat) (Option.some Jvm.ClassFile.FieldType.boolean), Jvm.Cond.code ({ cls := "java/lang/String", name := "isEmpty", desc := "()Z" } : Jvm.MethodName) jdk_42_method_55_code (1 : Nat) (Option.some Jvm.ClassFile.FieldType.boolean), Jvm.Cond.code ({ cls := "java/lang/StringUTF16", name := "compress", desc := "([CII)[B" } : Jvm.MethodName) jdk_52_method_16_code (6 : Nat) (Option.some (Jvm.ClassFile.FieldType.array Jvm.ClassFile.FieldType.byte)), Jvm.Cond.code ({ cls := "java/lang/StringUTF16", name := "compress", desc := "([CI[BII)I" } : Jvm.MethodName) jdk_52_method_21_code (7 : Nat) (Option.some Jvm.ClassFile.FieldType.int), Jvm.Cond.code ({ cls := "java/lang/StringUTF16", name := "coderFromArrayLen", desc := "([BI)B" } : Jvm.MethodName) jdk_52_method_15_code (2 : Nat) (Option.some Jvm.ClassFile.FieldType.byte), Jvm.Cond.code ({ cls := "com/example/sabar/sabar/AsciiIsDigitsPinLaw", name := "digit", desc := "(C)Z" } : Jvm.MethodName) method_2_code (1 : Nat) (Option.some Jvm.ClassFile.FieldType.boolean), Jvm.Cond.code ({ cls := "java/lang/String", name := "length", desc := "()I" } : Jvm.MethodName) jdk_42_method_54_code (1 : Nat) (Option.some Jvm.ClassFile.FieldType.int), Jvm.Cond.code ({ cls := "java/lang/String", name := "coder", desc := "()B" } : Jvm.MethodName) jdk_42_method_152_code (1 : Nat) (Option.some Jvm.ClassFile.FieldType.byte), Jvm.Cond.code ({ cls := "java/lang/String", name := "charAt", desc := "(I)C" } : Jvm.MethodName) jdk_42_method_56_code (2 : Nat) (Option.some Jvm.ClassFile.FieldType.char), Jvm.Cond.code ({ cls := "java/lang/String", name := "isLatin1", desc := "()Z" } : Jvm.MethodName) jdk_42_method_154_code (1 : Nat) (Option.some Jvm.ClassFile.FieldType.boolean), Jvm.Cond.code ({ cls := "java/lang/StringLatin1", name := "charAt", desc := "([BI)C" } : Jvm.MethodName) jdk_43_method_2_code (2 : Nat) (Option.some Jvm.ClassFile.FieldType.char), Jvm.Cond.code ({ cls := "java/lang/String", name := "checkIndex", desc := "(II)V" } : Jvm.MethodName) jdk_42_method_155_code (2 : Nat) (Option.none : Option Jvm.ClassFile.FieldType), Jvm.Cond.code ({ cls := "jdk/internal/util/Preconditions", name := "checkIndex", desc := "(IILjava/util/function/BiFunction;)I" } : Jvm.MethodName) jdk_41_method_11_code (3 : Nat) (Option.some Jvm.ClassFile.FieldType.int), Jvm.Cond.code ({ cls := "java/lang/StringUTF16", name := "toBytes", desc := "([CII)[B" } : Jvm.MethodName) jdk_52_method_14_code (5 : Nat) (Option.some (Jvm.ClassFile.FieldType.array Jvm.ClassFile.FieldType.byte)), Jvm.Cond.code ({ cls := "java/lang/StringUTF16", name := "newBytesFor", desc := "(I)[B" } : Jvm.MethodName) jdk_52_method_2_code (1 : Nat) (Option.some (Jvm.ClassFile.FieldType.array Jvm.ClassFile.FieldType.byte)), Jvm.Cond.code ({ cls := "java/lang/StringUTF16", name := "newBytesLength", desc := "(I)I" } : Jvm.MethodName) jdk_52_method_3_code (1 : Nat) (Option.some Jvm.ClassFile.FieldType.int), Jvm.Cond.code ({ cls := "java/lang/StringUTF16", name := "putChar", desc := "([BII)V" } : Jvm.MethodName) jdk_52_method_4_code (3 : Nat) (Option.none : Option Jvm.ClassFile.FieldType), Jvm.Cond.code ({ cls := "java/lang/StringUTF16", name := "getChar", desc := "([BI)C" } : Jvm.MethodName) jdk_52_method_5_code (2 : Nat) (Option.some Jvm.ClassFile.FieldType.char), Jvm.Cond.code ({ cls := "java/lang/StringUTF16", name := "charAt", desc := "([BI)C" } : Jvm.MethodName) jdk_52_method_83_code (2 : Nat) (Option.some Jvm.ClassFile.FieldType.char), Jvm.Cond.code ({ cls := "java/lang/StringUTF16", name := "checkIndex", desc := "(I[B)V" } : Jvm.MethodName) jdk_52_method_91_code (2 : Nat) (Option.none : Option Jvm.ClassFile.FieldType), Jvm.Cond.code ({ cls := "java/lang/StringUTF16", name := "length", desc := "([B)I" } : Jvm.MethodName) jdk_52_method_6_code (1 : Nat) (Option.some Jvm.ClassFile.FieldType.int)]
set_option maxRecDepth 65536 in
theorem codes_eq : words1.filter isCode = codes1 := rfl
theorem w_codes : ∀ c ∈ words1.filter isCode, c.before args0 about1 = true := by
  rw [codes_eq]
  intro c hc
  simp only [codes1, List.mem_cons, List.not_mem_nil, or_false] at hc
  rcases hc with rfl | rfl | rfl | rfl | rfl | rfl | rfl | rfl | rfl | rfl | rfl | rfl | rfl | rfl | rfl | rfl | rfl | rfl | rfl | rfl | rfl | rfl | rfl | rfl | rfl | rfl
  · exact w_c0
  · exact w_c1
  · exact w_c2
  · exact w_c3
  · exact w_c4
  · exact w_c5
  · exact w_c6
  · exact w_c7
  · exact w_c8
  · exact w_c9
  · exact w_c10
  · exact w_c11
  · exact w_c12
  · exact w_c13
  · exact w_c14
  · exact w_c15
  · exact w_c16
  · exact w_c17
  · exact w_c18
  · exact w_c19
  · exact w_c20
  · exact w_c21
  · exact w_c22
  · exact w_c23
  · exact w_c24
  · exact w_c25
set_option maxRecDepth 65536 in
theorem w_t1 : (words1.take 24).all (fun c => isCode c || c.before args0 about1) = true := by decide +kernel
set_option maxRecDepth 65536 in
theorem w_t2 : ((words1.drop 24).take 24).all (fun c => isCode c || c.before args0 about1) = true := by decide +kernel
set_option maxRecDepth 65536 in
theorem w_t3 : (((words1.drop 24).drop 24).take 24).all (fun c => isCode c || c.before args0 about1) = true := by decide +kernel
set_option maxRecDepth 65536 in
theorem w_t4 : ((((words1.drop 24).drop 24).drop 24).take 24).all (fun c => isCode c || c.before args0 about1) = true := by decide +kernel
set_option maxRecDepth 65536 in
theorem w_t5 : ((((words1.drop 24).drop 24).drop 24).drop 24).all (fun c => isCode c || c.before args0 about1) = true := by decide +kernel
theorem w_tables : (allAtoms (Jvm.Cond.code x code maxLocals ret :: tables_1)).before args0 about1 = true := by
  rw [allAtoms_all]
  show words1.all (fun c => c.before args0 about1) = true
  refine all_split ?_ w_codes
  rw [← List.take_append_drop 24 words1, List.all_append, w_t1, ← List.take_append_drop 24 (words1.drop 24), List.all_append, w_t2, ← List.take_append_drop 24 ((words1.drop 24).drop 24), List.all_append, w_t3, ← List.take_append_drop 24 (((words1.drop 24).drop 24).drop 24), List.all_append, w_t4, w_t5]
  rfl
set_option maxRecDepth 65536 in
theorem w_rest : rest_1_c.before args0 about1 = true := by decide +kernel
set_option maxRecDepth 65536 in
theorem w_case : (Jvm.Cond.and given_1 narrow_1).before args0 about1 = true := by decide +kernel
set_option maxRecDepth 65536 in
theorem w_consts : constsHeld consts_1 about1 := Jvm.Lit.constsHeldB_iff.mp (by decide +kernel)
theorem w_applies : (headSpec (Jvm.Cond.code x code maxLocals ret :: tables_1) room_1).applies x e0.platform about1 = true :=
  (Spec.applies_iff w_frames).mpr ⟨w_running, w_runnable, w_alone, w_named, w_hears, w_ripe, w_room, w_tables⟩
theorem atStart : AtStart classFile x code maxLocals ret World_1 tables_1 room_1 Calls_1 rest_1 Pre_1 launch0 p0 e0 about1 theMethod args0 below0 :=
  ⟨lists_1, trivial, launch0.admits_env _ _ _, launch0.least_env, fairChoices_fair.cas, fairChoices_fair.clock, w_frames, w_args, w_heap, w_applies, ⟨w_consts, trivial⟩, w_rest, w_case⟩
end start1
theorem witness_1 : WitnessClaimed_1 := ⟨start1.p0, start1.e0, start1.about1, start1.theMethod, start1.args0, start1.below0, start1.atStart⟩
end Jvm.Pilot.@@N@@
