import JvmDerived
import JvmDerived.Pilot.@@N@@Statement
import JvmDerived.Pilot.@@N@@Code
set_option linter.unusedVariables false
set_option linter.unusedSimpArgs false
/- laws to paste: pair_says, shr0, lo8_mask, Road.CodA, Road.wide_lo, Road.wide_hi, Road.low_at (cut by pick.py; bodies as the Statement names them) -/
namespace Jvm.Pilot.@@N@@
namespace StrChars
open Jvm Sem ClassFile Op Lib Jvm.Stand Jvm.Free.XT Jvm.Free.ALB Jvm.Free.JM Jvm.Free
open Jvm.Lib.Cold (StaticIs)
/-- the byte that i2b leaves of a char -/
def lo8 (x : Int32) : Int32 := x.toInt8.toInt32
/-- the byte, read back as charAt reads it, is the char -/
theorem lo8_mask {x : Int32} (h0 : ¬ x < 0) (h1 : ¬ 255 < x) : lo8 x &&& 255 = x := by
  have t : ∀ k : Fin 256, lo8 (Int32.ofNat k.val) &&& 255 = Int32.ofNat k.val := by decide +kernel
  rw [Int32.lt_iff_toInt_lt] at h0 h1
  have e0 : (0 : Int32).toInt = 0 := rfl
  have e1 : (255 : Int32).toInt = 255 := rfl
  obtain ⟨k, hk⟩ : ∃ k : Nat, x.toInt = k := ⟨x.toInt.toNat, by omega⟩
  have hx : x = Int32.ofNat k := Int32.toInt_inj.mp (by rw [hk, Int32.toInt_ofNat_small (by omega)])
  rw [hx]
  exact t ⟨k, by omega⟩
end StrChars
namespace StrChars
open Jvm Sem ClassFile Op Lib Jvm.Stand Jvm.Free.XT Jvm.Free.ALB Jvm.Free.JM Jvm.Free
open Jvm.Lib.Cold (StaticIs)
def hi8 (x : Int32) : Int32 := lo8 (x >>> ((8 : Int32) &&& 31))
/-- what StringUTF16.getChar makes of two bytes -/
def pairCh (u v : Int32) : Int32 := (((u &&& 255) <<< ((0 : Int32) &&& 31)) ||| ((v &&& 255) <<< ((8 : Int32) &&& 31))).toUInt32.toUInt16.toUInt32.toInt32
theorem shr0 (c : Int32) : c >>> ((0 : Int32) &&& 31) = c := by
  have e : ((0 : Int32) &&& 31) = 0 := by decide
  rw [e]
  apply Int32.toBitVec_inj.mp
  rw [Int32.toBitVec_shiftRight]
  have e1 : ((0 : Int32).toBitVec.smod 32) = 0#32 := by decide
  rw [e1, BitVec.sshiftRight_eq']
  exact BitVec.sshiftRight_zero
theorem lo8_and (x : Int32) : (lo8 x &&& 255).toBitVec.toNat = x.toBitVec.toNat % 256 := by
  have h : (lo8 x).toBitVec = (x.toBitVec.signExtend 8).signExtend 32 := by rw [lo8, Int8.toBitVec_toInt32, Int32.toBitVec_toInt8]
  rw [Int32.toBitVec_and, BitVec.toNat_and, h]
  have e : ((x.toBitVec.signExtend 8).signExtend 32).toNat % 256 = x.toBitVec.toNat % 256 := by
    rw [BitVec.toNat_signExtend]
    have hlt := x.toBitVec.isLt
    simp only [BitVec.toNat_setWidth, BitVec.toNat_signExtend]
    split <;> split <;> omega
  rw [← e]
  exact Nat.and_two_pow_sub_one_eq_mod _ 8
theorem pair_says {c : Int32} (h0 : ¬ c < 0) (h1 : ¬ 65535 < c) : pairCh (lo8 c) (hi8 c) = c := by
  rw [Int32.lt_iff_toInt_lt] at h0 h1
  have e0 : (0 : Int32).toInt = 0 := rfl
  have e1 : (65535 : Int32).toInt = 65535 := rfl
  have hc : c.toInt = c.toBitVec.toNat := by
    have := c.toBitVec.isLt
    have e : c.toInt = c.toBitVec.toInt := rfl
    rw [e] at h0 h1
    rw [e]
    rw [BitVec.toInt_eq_toNat_cond] at h0 h1 ⊢
    split at h0 <;> split <;> omega
  have hn : c.toBitVec.toNat < 65536 := by omega
  have a1 := lo8_and c
  have a2 : (hi8 c &&& 255).toBitVec.toNat = c.toBitVec.toNat / 256 := by
    rw [hi8, lo8_and]
    have e : ((8 : Int32) &&& 31) = 8 := by decide
    rw [e, Int32.toBitVec_shiftRight]
    have e2 : ((8 : Int32).toBitVec.smod 32) = 8#32 := by decide
    rw [e2, BitVec.sshiftRight_eq', BitVec.toNat_sshiftRight_of_msb_false (by rw [BitVec.msb_eq_false_iff_two_mul_lt]; omega)]
    show c.toBitVec.toNat >>> 8 % 256 = _
    rw [Nat.shiftRight_eq_div_pow]
    omega
  unfold pairCh
  apply Int32.toBitVec_inj.mp
  apply BitVec.eq_of_toNat_eq
  have f0 : ((0 : Int32) &&& 31) = 0 := by decide
  have f8 : ((8 : Int32) &&& 31) = 8 := by decide
  rw [f0, f8]
  have g : (((lo8 c &&& 255) <<< (0 : Int32)) ||| ((hi8 c &&& 255) <<< (8 : Int32))).toBitVec.toNat = c.toBitVec.toNat := by
    rw [Int32.toBitVec_or, Int32.toBitVec_shiftLeft, Int32.toBitVec_shiftLeft]
    have s0 : ((0 : Int32).toBitVec.smod 32) = 0#32 := by decide
    have s8 : ((8 : Int32).toBitVec.smod 32) = 8#32 := by decide
    rw [s0, s8, BitVec.toNat_or]
    simp only [BitVec.shiftLeft_eq', BitVec.toNat_shiftLeft, a1, a2]
    show (c.toBitVec.toNat % 256) <<< 0 % 2 ^ 32 ||| (c.toBitVec.toNat / 256) <<< 8 % 2 ^ 32 = _
    rw [Nat.shiftLeft_zero, Nat.mod_eq_of_lt (show c.toBitVec.toNat % 256 < 2 ^ 32 by omega), Nat.mod_eq_of_lt (show (c.toBitVec.toNat / 256) <<< 8 < 2 ^ 32 by rw [Nat.shiftLeft_eq]; omega), Nat.or_comm, ← Nat.shiftLeft_add_eq_or_of_lt (by omega), Nat.shiftLeft_eq]
    omega
  show BitVec.toNat (((((lo8 c &&& 255) <<< (0 : Int32)) ||| ((hi8 c &&& 255) <<< (8 : Int32))).toBitVec.setWidth 16).setWidth 32) = _
  rw [BitVec.toNat_setWidth, BitVec.toNat_setWidth, g]
  omega
end StrChars
namespace StrChars.Road
open Jvm Sem ClassFile Op Lib Jvm.Stand Jvm.Free Jvm.Free.XT
open Jvm.Lib.Cold (StaticIs)
/-- the bytes of the chars cs, low before high -/
def wideBytes : List Int32 → List Value
  | [] => []
  | c :: cs => .int (lo8 c) :: .int (hi8 c) :: wideBytes cs
theorem wide_lo (d : Value) : ∀ (cs : List Int32) (j : Nat), j < cs.length → (wideBytes cs).getD (2 * j) d = .int (lo8 (cs.getD j 0))
  | [], j, h => absurd h (Nat.not_lt_zero j)
  | c :: cs, 0, _ => rfl
  | c :: cs, j + 1, h => by
    have q := wide_lo d cs j (by simpa using h)
    rw [show 2 * (j + 1) = 2 * j + 1 + 1 from by omega]
    simpa [wideBytes] using q
theorem wide_hi (d : Value) : ∀ (cs : List Int32) (j : Nat), j < cs.length → (wideBytes cs).getD (2 * j + 1) d = .int (hi8 (cs.getD j 0))
  | [], j, h => absurd h (Nat.not_lt_zero j)
  | c :: cs, 0, _ => rfl
  | c :: cs, j + 1, h => by
    have q := wide_hi d cs j (by simpa using h)
    rw [show 2 * (j + 1) + 1 = 2 * j + 1 + 1 + 1 from by omega]
    simpa [wideBytes] using q
theorem low_at (d : Value) (cs : List Int32) (j : Nat) (h : j < cs.length) : (cs.map fun c => Value.int (lo8 c)).getD j d = .int (lo8 (cs.getD j 0)) := by
  simp [List.getD_eq_getElem?_getD, h]
/-- an array of N2 bytes vs codes the chars cs by the coder cd -/
def CodA (cs : List Int32) (cd N2 : Int32) (vs : List Value) : Prop := (cd = 0 ∧ N2 = Int32.ofNat cs.length ∧ vs = (cs.map fun c => Value.int (lo8 c)) ∧ ∀ c ∈ cs, ¬ 255 < c) ∨ (cd = 1 ∧ N2 = Int32.ofNat (2 * cs.length) ∧ vs = wideBytes cs ∧ ∃ c ∈ cs, 255 < c)
end StrChars.Road
end Jvm.Pilot.@@N@@
namespace Jvm.Pilot.@@N@@
open Jvm Jvm.ClassFile Sem Op Lib Jvm.Free Jvm.Stand Jvm.LawKit Jvm.RoadKit Bundle Jvm.Pilot.@@N@@.Jvm.D
section Own
variable {p : Program} {l : Launch} {e : Env} {R : Room} {s : State} {m : MethodId} {args : Array Value} {below : List Frame} {meth : Method} {c : Code} {T S S' : State} {locs : List Loc} {cells slots : Nat} {Z : State} {a0 : Array Value} {h h' : Heap}
/-- from S the walk comes to an end that P holds of -/
def OwnEnd (p : Program) (e : Env) (below : List Frame) (P : Outcome → State → Prop) (S : State) : Prop := ∃ s₂ o, Steps p.tables e below S s₂ ∧ s₂.status = .running ∧ Ended s₂ below o ∧ P o s₂
theorem OwnEnd.of {P : Outcome → State → Prop} (h : ∀ t, Steps p.tables e below S' t → Steps p.tables e below S t) (k : OwnEnd p e below P S') : OwnEnd p e below P S := by
  obtain ⟨s2, o, a, r⟩ := k; exact ⟨s2, o, h _ a, r⟩
theorem OwnEnd.tr {P : Outcome → State → Prop} (h : Steps p.tables e below S S') (k : OwnEnd p e below P S') : OwnEnd p e below P S := OwnEnd.of (fun _ q => h.trans q) k
theorem OwnEnd.start {P : Outcome → State → Prop} {n : Nat} {g' : JFrame} (h : entryFrame m args n = g') (k : OwnEnd p e below P (T.setTop g')) :
    ∃ s₂ o, Steps p.tables e below (T.setTop (entryFrame m args n)) s₂ ∧ s₂.status = .running ∧ Ended s₂ below o ∧ P o s₂ := by rw [h]; exact k
theorem OwnEnd.ret (X : Stand p l e R s m args below meth c T locs cells slots) {v : Option Value} (hv : meth.sig.returnType = none → v = none) (hlk : meth.locks = false)
    (st : ∀ fs, (∀ (f : JFrame) (acts : List Action), f.method = m → f.locked = none → f.entered = [] → (doReturn e (T.setTop f) acts v).1 = T.setFrames fs) → Steps p.tables e below S (T.setFrames fs))
    {k n : Nat} (hk : cells ≤ k) (hn : slots ≤ n) {Q : Option Value → Heap → List Loc → Prop} (eT : T.heap = h) (hq : Q v h locs) :
    OwnEnd p e below (fun o t => ∃ v L, o = .returned v ∧ Q v t.heap L ∧ FrameEnd s o t L k n) S := by
  obtain ⟨fs, hr, hrun, hended, hW, hsame⟩ := X.leave (v := v) hv hlk
  subst eT
  exact ⟨_, _, st fs hr, hrun, hended, v, locs, rfl, hq, ⟨_, rfl⟩, hW, hsame.mono hk hn⟩
theorem OwnEnd.retW {vm₁ : Vm} (X : Stand p l e R (s.setVm vm₁) m args below meth c T locs cells slots) {k0 : Nat} (hS : s.Since vm₁ k0) (hk0 : k0 ≤ Array.size h) {v : Option Value} (hv : meth.sig.returnType = none → v = none) (hlk : meth.locks = false)
    (st : ∀ fs, (∀ (f : JFrame) (acts : List Action), f.method = m → f.locked = none → f.entered = [] → (doReturn e (T.setTop f) acts v).1 = T.setFrames fs) → Steps p.tables e below S (T.setFrames fs))
    {k n : Nat} (hk : cells ≤ k) (hn : slots ≤ n) {Q : Option Value → Heap → List Loc → Prop} (eT : T.heap = h) (hq : Q v h locs) :
    OwnEnd p e below (fun o t => ∃ v L, o = .returned v ∧ Q v t.heap L ∧ ReturnedEndW s o t L k n) S := by
  subst eT
  obtain ⟨fs, hr, hrun, hended, hE⟩ := X.leaveW hS hk0 (v := v) hv hlk
  exact ⟨_, _, st fs hr, hrun, hended, v, locs, rfl, hq, hE.1, hE.2.1, hE.2.2.1, hE.2.2.2.mono hk hn⟩
theorem OwnEnd.retC {vm₁ : Vm} {EL : List (String × Nat)} {h0 : Heap} (hh : s.heap = h0) (hEL : EW Z a0 EL) (hZ : Z.Warmed39 vm₁) (X : Stand p l e R (s.setVm vm₁) m args below meth c T locs cells slots) {k0 : Nat} (hS : s.Since vm₁ k0) (hk0 : k0 ≤ Array.size h) {v : Option Value} (hv : meth.sig.returnType = none → v = none) (hlk : meth.locks = false)
    (st : ∀ fs, (∀ (f : JFrame) (acts : List Action), f.method = m → f.locked = none → f.entered = [] → (doReturn e (T.setTop f) acts v).1 = T.setFrames fs) → Steps p.tables e below S (T.setFrames fs))
    {k n : Nat} (hk : cells ≤ k) (hn : slots ≤ n) {Q : Option Value → Heap → List Loc → Prop} (eT : T.heap = h) (hR : CHr Z EL s.vm h0 vm₁ h) (hq : Q v h locs) :
    OwnEnd p e below (fun o t => ∃ v L, o = .returned v ∧ Q v t.heap L ∧ CHr Z EL s.vm s.heap t.vm t.heap ∧ ReturnedEndW s o t L k n) S := by
  subst eT hh
  obtain ⟨fs, hr, hrun, hended, hE⟩ := X.leaveW hS hk0 (v := v) hv hlk
  have q := CHv.at X hZ hEL hR.1
  exact ⟨_, _, st fs hr, hrun, hended, v, locs, rfl, hq, hR.trans q, hE.1, hE.2.1, hE.2.2.1, hE.2.2.2.mono hk hn⟩
theorem own_old_le {n0 : Nat} (O : Old Z n0 h) : n0 ≤ Array.size h := O.1 ▸ O.2.1
theorem own_wr_le {a : Addr} {sl : Nat} {v : Value} (W : Wr h h' a sl v) : Array.size h ≤ Array.size h' := Nat.le_of_eq W.size.symm
theorem own_ltN' {a n : Nat} (q : a < n) : @LT.lt Nat instLTNat a n := q
theorem own_ltB {a n : Nat} (q : @LT.lt Nat instLTNat a n) : a < n := q
theorem own_ne {a b : Nat} (q : @LT.lt Nat instLTNat a b ∨ @LT.lt Nat instLTNat b a) : a ≠ b := by rcases q with q | q <;> omega
theorem own_neN {a b : Nat} (q : a ≠ b) : @Ne Nat a b := q
theorem own_nin1 {a b : Addr} (h : a ≠ b) : a ∉ [b] := ninS h nin0
theorem own_nin2 {a b d : Addr} (h : a ≠ b) (h2 : a ≠ d) : a ∉ [b, d] := ninS h (own_nin1 h2)
theorem own_nin3 {a b d f : Addr} (h : a ≠ b) (h2 : a ≠ d) (h3 : a ≠ f) : a ∉ [b, d, f] := ninS h (own_nin2 h2 h3)
theorem own_all0 {P : Addr → Prop} : ∀ x ∈ ([] : List Addr), P x := all0
theorem own_all1 {P : Addr → Prop} {a : Addr} (h : P a) : ∀ x ∈ [a], P x := allS h all0
theorem own_all2 {P : Addr → Prop} {a b : Addr} (h : P a) (h2 : P b) : ∀ x ∈ [a, b], P x := allS h (own_all1 h2)
theorem own_all3 {P : Addr → Prop} {a b d : Addr} (h : P a) (h2 : P b) (h3 : P d) : ∀ x ∈ [a, b, d], P x := allS h (own_all2 h2 h3)
theorem own_cat1 {v : Value} (h : v.isRef = true) : v.category = 1 := by rcases ref_cases h with rfl | ⟨_, rfl⟩ <;> rfl
theorem own_fits_ref {v : Value} {t : FieldType} (h : v.isRef = true) (ht : t.isReference = true) : fits t v = true := by
  rcases ref_cases h with rfl | ⟨_, rfl⟩ <;> cases t <;> first | rfl | cases ht
theorem own_nar_ref {v : Value} {t : FieldType} (h : v.isRef = true) (ht : t.isReference = true) : narrow t v = v := by
  rcases ref_cases h with rfl | ⟨_, rfl⟩ <;> cases t <;> first | rfl | cases ht
theorem own_nar_cc (x : Int32) : nar .char (nar .char x) = nar .char x := by
  obtain ⟨h1, h2⟩ := rng_char (fits_nar_char x)
  have a := (c_i2c (nar .char x)); have b := c_i2c x
  have r := rng32 (nar .char x)
  apply Int32.toInt_inj.mp
  show (nar .char x).toUInt32.toUInt16.toUInt32.toInt32.toInt = (nar .char x).toInt
  have q1 : (nar .char x).toInt = x.toUInt32.toUInt16.toUInt32.toInt32.toInt := rfl
  omega
theorem own_c255 (x : Int32) : ¬ nar .char (x &&& (255 : Int32)) < 0 ∧ ¬ (255 : Int32) < nar .char (x &&& (255 : Int32)) := by
  have a := c_i2c (x &&& 255); have b := c_and x 255 (by decide)
  have q1 : (nar .char (x &&& 255)).toInt = (x &&& (255 : Int32)).toUInt32.toUInt16.toUInt32.toInt32.toInt := rfl
  have e0 : (0 : Int32).toInt = 0 := rfl
  have e2 : (255 : Int32).toInt = 255 := rfl
  rw [Int32.lt_iff_toInt_lt, Int32.lt_iff_toInt_lt]
  omega
theorem own_up (cs : List Int32) (h : ∀ c ∈ cs, ¬ c < 0 ∧ ¬ (255 : Int32) < c) : ∀ c ∈ cs, ¬ c < 0 ∧ ¬ (65535 : Int32) < c := fun c hc => ⟨(h c hc).1, fun q => (h c hc).2 (by rw [Int32.lt_iff_toInt_lt] at q ⊢; have e1 : (65535 : Int32).toInt = 65535 := rfl; have e2 : (255 : Int32).toInt = 255 := rfl; omega)⟩
end Own
def OwnG (Z : State) (a0 : Array Value) : Prop := (∀ d ∈ tables_1, d.before a0 Z = true) ∧ (∀ d ∈ jdkStatics_1, d.before a0 Z = true) ∧ narrow_1.before a0 Z = true
theorem own_w {Z : State} {a0 : Array Value} (G : OwnG Z a0) (i : Nat) {d : Jvm.Cond} (h : tables_1[i]? = some d) : d.before a0 Z = true := G.1 _ (List.mem_of_getElem? h)
abbrev own_m0 : MethodName := ⟨"jdk/internal/util/Preconditions", "checkIndex", "(IILjava/util/function/BiFunction;)I"⟩
abbrev own_m1 : MethodName := ⟨"java/lang/String", "checkIndex", "(II)V"⟩
abbrev own_m2 : MethodName := ⟨"java/lang/String", "isLatin1", "()Z"⟩
abbrev own_m3 : MethodName := ⟨"java/lang/String", "coder", "()B"⟩
abbrev own_m4 : MethodName := ⟨"java/lang/String", "length", "()I"⟩
abbrev own_m5 : MethodName := ⟨"java/lang/StringLatin1", "charAt", "([BI)C"⟩
abbrev own_m6 : MethodName := ⟨"java/lang/StringUTF16", "length", "([B)I"⟩
abbrev own_m7 : MethodName := ⟨"java/lang/StringUTF16", "checkIndex", "(I[B)V"⟩
abbrev own_m8 : MethodName := ⟨"java/lang/StringUTF16", "getChar", "([BI)C"⟩
abbrev own_m9 : MethodName := ⟨"java/lang/StringUTF16", "charAt", "([BI)C"⟩
abbrev own_m10 : MethodName := ⟨"java/lang/String", "charAt", "(I)C"⟩
abbrev own_m11 : MethodName := ⟨"java/lang/StringUTF16", "newBytesLength", "(I)I"⟩
abbrev own_m12 : MethodName := ⟨"java/lang/StringUTF16", "putChar", "([BII)V"⟩
abbrev own_m13 : MethodName := ⟨"java/lang/StringUTF16", "newBytesFor", "(I)[B"⟩
abbrev own_m14 : MethodName := ⟨"java/lang/StringUTF16", "toBytes", "([CII)[B"⟩
abbrev own_m15 : MethodName := ⟨"java/lang/StringUTF16", "compress", "([CI[BII)I"⟩
abbrev own_m16 : MethodName := ⟨"java/lang/StringUTF16", "compress", "([CII)[B"⟩
abbrev own_m17 : MethodName := ⟨"java/lang/StringUTF16", "coderFromArrayLen", "([BI)B"⟩
abbrev own_m18 : MethodName := ⟨"java/lang/String", "<init>", "([CIILjava/lang/Void;)V"⟩
abbrev own_m19 : MethodName := ⟨"java/lang/String", "<init>", "([C)V"⟩
abbrev own_m20 : MethodName := ⟨"com/example/collie/collie/engine/MinedPairLastCharacterMatchPinLaw", "draw", "(II)C"⟩
abbrev own_m21 : MethodName := ⟨"com/example/collie/collie/engine/MinedPairLastCharacterMatchPinLaw", "make", "(II)Ljava/lang/String;"⟩
abbrev own_m22 : MethodName := ⟨"com/example/collie/collie/engine/MinedPairLastCharacterMatchPinLaw", "lastCodePoint", "(Ljava/lang/String;)I"⟩
abbrev own_m23 : MethodName := ⟨"java/lang/Character", "isLowSurrogate", "(C)Z"⟩
abbrev own_m24 : MethodName := ⟨"java/lang/Character", "isHighSurrogate", "(C)Z"⟩
abbrev own_m25 : MethodName := ⟨"java/lang/Character", "toCodePoint", "(CC)I"⟩
abbrev own_m26 : MethodName := ⟨"java/lang/StringUTF16", "codePointBefore", "([BIZ)I"⟩
abbrev own_m27 : MethodName := ⟨"java/lang/StringUTF16", "codePointBefore", "([BI)I"⟩
abbrev own_m28 : MethodName := ⟨"java/lang/String", "codePointBefore", "(I)I"⟩
abbrev own_m29 : MethodName := ⟨"java/lang/Record", "<init>", "()V"⟩
abbrev own_m30 : MethodName := ⟨"com/example/collie/collie/engine/MinedPair", "<init>", "(Ljava/lang/String;Ljava/lang/String;JJLcom/example/collie/collie/engine/CorrectionType;I)V"⟩
abbrev own_m31 : MethodName := ⟨"com/example/collie/collie/engine/MinedPair", "lastCharacterMatch", "()Z"⟩
theorem own_cs {Z : State} {a0 : Array Value} (G : OwnG Z a0) : ∃ z : Int32, Sta Z Z.heap "java/lang/String" "COMPACT_STRINGS" "Z" (.int z) ∧ ¬ z = (0 : Int32) := by
  have hs := G.2.1
  obtain ⟨i, e⟩ := is_v (Cond.before_iff.mp (hs _ (List.mem_of_getElem? (i := 1) rfl)))
  have n5 := not_v (Cond.before_iff.mp (hs _ (List.mem_of_getElem? (i := 2) rfl)))
  exact ⟨i, Sta.start e (Or.inl (hs _ (List.mem_of_getElem? (i := 0) rfl))), gotF (Cond.eq_ints e (Term.int_eval (0))) n5⟩
theorem own_fm {Z : State} {a0 : Array Value} (G : OwnG Z a0) : ∃ v : Value, Sta Z Z.heap "jdk/internal/util/Preconditions" "SIOOBE_FORMATTER" "Ljava/util/function/BiFunction;" v ∧ v.isRef = true := by
  have hs := G.2.1
  obtain ⟨v, e, r⟩ := isR_v (Cond.before_iff.mp (hs _ (List.mem_of_getElem? (i := 8) rfl)))
  exact ⟨v, Sta.start e (Or.inl (hs _ (List.mem_of_getElem? (i := 7) rfl))), r⟩
theorem own_st {Z : State} {a0 : Array Value} {C n d : String} {k : Int32} (wi : (Cond.initializedFor C n d).before a0 Z = true) (we : (Cond.eq (Term.static C n d) (Term.int k)).before a0 Z = true) : Sta Z Z.heap C n d (.int k) := Sta.start (eqv_i (Term.int_eval k) (Cond.before_iff.mp we)) (Or.inl wi)
theorem own_ad {Z : State} {a0 : Array Value} (G : OwnG Z a0) : Sta Z Z.heap "java/lang/StringUTF16" "$assertionsDisabled" "Z" (.int (1 : Int32)) := own_st (G.2.1 _ (List.mem_of_getElem? (i := 11) rfl)) (G.2.1 _ (List.mem_of_getElem? (i := 12) rfl))
theorem own_hi {Z : State} {a0 : Array Value} (G : OwnG Z a0) : Sta Z Z.heap "java/lang/StringUTF16" "HI_BYTE_SHIFT" "I" (.int (0 : Int32)) := own_st (G.2.1 _ (List.mem_of_getElem? (i := 14) rfl)) (G.2.1 _ (List.mem_of_getElem? (i := 15) rfl))
theorem own_lo {Z : State} {a0 : Array Value} (G : OwnG Z a0) : Sta Z Z.heap "java/lang/StringUTF16" "LO_BYTE_SHIFT" "I" (.int (8 : Int32)) := own_st (G.2.1 _ (List.mem_of_getElem? (i := 17) rfl)) (G.2.1 _ (List.mem_of_getElem? (i := 18) rfl))
theorem own_lolo (x : Int32) : nar .byte (nar .byte x) = nar .byte x := by
  have a := c_i2b x; have b := c_i2b (nar .byte x)
  have q1 : (nar .byte x).toInt = x.toInt8.toInt32.toInt := rfl
  apply Int32.toInt_inj.mp
  show (nar .byte x).toInt8.toInt32.toInt = (nar .byte x).toInt
  omega
theorem own_b0 (c : Int32) : nar .byte (nar .byte (c >>> ((0 : Int32) &&& 31))) = StrChars.lo8 c := by rw [own_lolo, StrChars.shr0]; rfl
theorem own_b8 (c : Int32) : nar .byte (nar .byte (c >>> ((8 : Int32) &&& 31))) = StrChars.hi8 c := by rw [own_lolo]; rfl
/-- the place of the first char above 255 -/
def own_first : List Int32 → Int32
  | [] => 0
  | c :: cs => if 255 < c then 0 else own_first cs + 1
def own_Qint (r : Int32) (h0 : Heap) (n0 : Nat) (v : Option Value) (h : Heap) (L : List Loc) : Prop := v = some (.int r) ∧ Fr n0 L ∧ h = h0
theorem own_255 {c : Int32} (h : ¬ (255 : Int32) < c) : ¬ (65535 : Int32) < c := fun q => h (by rw [Int32.lt_iff_toInt_lt] at q ⊢; have e1 : (65535 : Int32).toInt = 65535 := rfl; have e2 : (255 : Int32).toInt = 255 := rfl; omega)
theorem own_narc {c : Int32} (h0 : ¬ c < (0 : Int32)) (h1 : ¬ (65535 : Int32) < c) : nar .char c = c := by
  have a := c_i2c c
  have q1 : (nar .char c).toInt = c.toUInt32.toUInt16.toUInt32.toInt32.toInt := rfl
  rw [Int32.lt_iff_toInt_lt] at h0 h1
  have e1 : (65535 : Int32).toInt = 65535 := rfl
  have e0 : (0 : Int32).toInt = 0 := rfl
  apply Int32.toInt_inj.mp
  omega
theorem own_lat {c : Int32} (h0 : ¬ c < (0 : Int32)) (h1 : ¬ (255 : Int32) < c) : nar .char (nar .char (StrChars.lo8 c &&& (255 : Int32))) = c := by
  rw [own_nar_cc, StrChars.lo8_mask h0 h1, own_narc h0 (own_255 h1)]
theorem own_toInt {k : Nat} (h : k < 2 ^ 31) : (Int32.ofNat k).toInt = k := toInt_of rfl h
theorem own_clamp {k : Nat} (h : k < 2 ^ 31) : (Int32.ofNat k).toNatClampNeg = k := clamp_of rfl h
theorem own_nn {k : Nat} (h : k < 2 ^ 31) : ¬ Int32.ofNat k < (0 : Int32) := by
  rw [Int32.lt_iff_toInt_lt, own_toInt h]; have e0 : (0 : Int32).toInt = 0 := rfl; omega
theorem own_ltN {k n : Nat} (h : k < n) (hn : n < 2 ^ 31) : Int32.ofNat k < Int32.ofNat n := by
  rw [Int32.lt_iff_toInt_lt, own_toInt hn, own_toInt (by omega)]; omega
theorem own_dbl {k : Nat} (h : k < 2 ^ 29) : Int32.ofNat k <<< ((1 : Int32) &&& 31) = Int32.ofNat (2 * k) := by
  have a := c_ishl (Int32.ofNat k) 1 1 (by decide)
  have r := rng32 (Int32.ofNat k <<< ((1 : Int32) &&& 31))
  rw [own_toInt (by omega)] at a
  apply Int32.toInt_inj.mp
  rw [own_toInt (show 2 * k < 2 ^ 31 by omega)]
  omega
theorem own_inc {k : Nat} (h : k + 1 < 2 ^ 31) : Int32.ofNat k + (1 : Int32) = Int32.ofNat (k + 1) := (inc_ofNat k).symm
theorem own_half {cs : List Int32} (h : cs.length ≤ 4000) : Int32.ofNat (2 * cs.length) >>> ((1 : Int32) &&& 31) = Int32.ofNat cs.length := by
  have a := c_ishr (Int32.ofNat (2 * cs.length)) 1 1 (by decide)
  rw [own_toInt (by omega)] at a
  apply Int32.toInt_inj.mp
  rw [a, own_toInt (by omega)]
  omega
theorem own_shr0 (c : Int32) : c >>> ((0 : Int32) &&& 31) = c := StrChars.shr0 c
theorem own_getD_mem {cs : List Int32} {k : Nat} (h : k < cs.length) : cs.getD k 0 ∈ cs := by
  have e : cs.getD k 0 = cs[k] := by simp [List.getD_eq_getElem?_getD, h]
  rw [e]; exact List.getElem_mem _
theorem own_cod_ne {cs : List Int32} {cd N : Int32} {vs : List Value} (H : StrChars.Road.CodA cs cd N vs) (h : 0 < cs.length) (h2 : cs.length ≤ 4000) : ¬ N = (0 : Int32) := fun q => by
  have e0 : (0 : Int32).toInt = 0 := rfl
  rcases H with ⟨-, rfl, -⟩ | ⟨-, rfl, -⟩
  · have := congrArg Int32.toInt q; rw [own_toInt (by omega), e0] at this; omega
  · have := congrArg Int32.toInt q; rw [own_toInt (by omega), e0] at this; omega
theorem own_cod_nar {cs : List Int32} {cd N : Int32} {vs : List Value} (H : StrChars.Road.CodA cs cd N vs) : narrow .byte (.int cd) = .int cd ∧ fits .byte (.int cd) = true := by
  rcases H with ⟨rfl, -⟩ | ⟨rfl, -⟩ <;> exact ⟨rfl, rfl⟩
theorem own_pair {c : Int32} (h0 : ¬ c < (0 : Int32)) (h1 : ¬ (65535 : Int32) < c) : nar .char (nar .char (((StrChars.lo8 c &&& (255 : Int32)) <<< ((0 : Int32) &&& 31)) ||| ((StrChars.hi8 c &&& (255 : Int32)) <<< ((8 : Int32) &&& 31)))) = c := by
  rw [own_nar_cc]; exact StrChars.pair_says h0 h1
/-- what the inner compress leaves in its array -/
def own_cbs : List Int32 → List Value
  | [] => []
  | c :: cs => if 255 < c then .int 0 :: cs.map (fun _ => .int 0) else .int (nar .byte (nar .byte c)) :: own_cbs cs
theorem own_lo2 (c : Int32) : nar .byte (nar .byte c) = StrChars.lo8 c := own_lolo c
theorem own_first1 (c0 : Int32) : (own_first [c0] = (0 : Int32) ∧ (255 : Int32) < c0) ∨ (own_first [c0] = (1 : Int32) ∧ own_cbs [c0] = (([c0] : List Int32).map fun c => Value.int (StrChars.lo8 c)) ∧ ∀ c ∈ ([c0] : List Int32), ¬ (255 : Int32) < c) := by
  by_cases h0 : (255 : Int32) < c0
  · exact Or.inl ⟨by simp [own_first, h0], h0⟩
  refine Or.inr (⟨by simp [own_first, h0], by simp [own_cbs, own_lo2, h0], ?_⟩)
  intro c hc
  simp only [List.mem_cons, List.not_mem_nil, or_false] at hc
  rcases hc with rfl
  · exact h0
theorem own_first2 (c0 c1 : Int32) : (own_first [c0, c1] = (0 : Int32) ∧ (255 : Int32) < c0) ∨ (own_first [c0, c1] = (1 : Int32) ∧ (255 : Int32) < c1) ∨ (own_first [c0, c1] = (2 : Int32) ∧ own_cbs [c0, c1] = (([c0, c1] : List Int32).map fun c => Value.int (StrChars.lo8 c)) ∧ ∀ c ∈ ([c0, c1] : List Int32), ¬ (255 : Int32) < c) := by
  by_cases h0 : (255 : Int32) < c0
  · exact Or.inl ⟨by simp [own_first, h0], h0⟩
  by_cases h1 : (255 : Int32) < c1
  · exact Or.inr (Or.inl ⟨by simp [own_first, h0, h1], h1⟩)
  refine Or.inr (Or.inr (⟨by simp [own_first, h0, h1], by simp [own_cbs, own_lo2, h0, h1], ?_⟩))
  intro c hc
  simp only [List.mem_cons, List.not_mem_nil, or_false] at hc
  rcases hc with rfl | rfl
  · exact h0
  · exact h1
theorem own_first3 (c0 c1 c2 : Int32) : (own_first [c0, c1, c2] = (0 : Int32) ∧ (255 : Int32) < c0) ∨ (own_first [c0, c1, c2] = (1 : Int32) ∧ (255 : Int32) < c1) ∨ (own_first [c0, c1, c2] = (2 : Int32) ∧ (255 : Int32) < c2) ∨ (own_first [c0, c1, c2] = (3 : Int32) ∧ own_cbs [c0, c1, c2] = (([c0, c1, c2] : List Int32).map fun c => Value.int (StrChars.lo8 c)) ∧ ∀ c ∈ ([c0, c1, c2] : List Int32), ¬ (255 : Int32) < c) := by
  by_cases h0 : (255 : Int32) < c0
  · exact Or.inl ⟨by simp [own_first, h0], h0⟩
  by_cases h1 : (255 : Int32) < c1
  · exact Or.inr (Or.inl ⟨by simp [own_first, h0, h1], h1⟩)
  by_cases h2 : (255 : Int32) < c2
  · exact Or.inr (Or.inr (Or.inl ⟨by simp [own_first, h0, h1, h2], h2⟩))
  refine Or.inr (Or.inr (Or.inr (⟨by simp [own_first, h0, h1, h2], by simp [own_cbs, own_lo2, h0, h1, h2], ?_⟩)))
  intro c hc
  simp only [List.mem_cons, List.not_mem_nil, or_false] at hc
  rcases hc with rfl | rfl | rfl
  · exact h0
  · exact h1
  · exact h2
theorem own_ct {Z : State} {a0 : Array Value} (G : OwnG Z a0) : ∃ a b c d : Addr, Sta Z Z.heap "com/example/collie/collie/engine/CorrectionType" "WORD" "Lcom/example/collie/collie/engine/CorrectionType;" (.ref a) ∧ Sta Z Z.heap "com/example/collie/collie/engine/CorrectionType" "COMBINE_OR_BREAK_BOTH_WAYS" "Lcom/example/collie/collie/engine/CorrectionType;" (.ref b) ∧ Sta Z Z.heap "com/example/collie/collie/engine/CorrectionType" "COMBINE_OR_BREAK" "Lcom/example/collie/collie/engine/CorrectionType;" (.ref c) ∧ Sta Z Z.heap "com/example/collie/collie/engine/CorrectionType" "PHRASE" "Lcom/example/collie/collie/engine/CorrectionType;" (.ref d) := by
  have hn := Cond.before_iff.mp G.2.2
  obtain ⟨h1, hn⟩ := and_e hn
  obtain ⟨h2, hn⟩ := and_e hn
  obtain ⟨h3, h4⟩ := and_e hn
  have key : ∀ f : String, (Cond.laysStatic "com/example/collie/collie/engine/CorrectionType" f "Lcom/example/collie/collie/engine/CorrectionType;").before a0 Z = true → (Cond.exactly (Term.static "com/example/collie/collie/engine/CorrectionType" f "Lcom/example/collie/collie/engine/CorrectionType;") "com/example/collie/collie/engine/CorrectionType").value a0 Z none Z [] = some true → ∃ a : Addr, Sta Z Z.heap "com/example/collie/collie/engine/CorrectionType" f "Lcom/example/collie/collie/engine/CorrectionType;" (.ref a) := fun f wl h => by
    obtain ⟨a, c', cell, k, e1, -⟩ := Cond.exactly_spec (Cond.before_iff.mpr h)
    exact ⟨a, Sta.start e1 (Or.inr ⟨(own_w G 1 rfl), wl⟩)⟩
  obtain ⟨a, A⟩ := key _ (own_w G 2 rfl) h1
  obtain ⟨b, B⟩ := key _ (own_w G 114 rfl) h2
  obtain ⟨c, C⟩ := key _ (own_w G 157 rfl) h3
  obtain ⟨d, D⟩ := key _ (own_w G 160 rfl) h4
  exact ⟨a, b, c, d, A, B, C, D⟩
def own_13 (cs : List Int32) : Prop := (∃ c0, cs = [c0]) ∨ (∃ c0 c1, cs = [c0, c1]) ∨ (∃ c0 c1 c2, cs = [c0, c1, c2])
theorem own_13_le {cs : List Int32} (h : own_13 cs) : cs.length ≤ 4000 := by
  rcases h with ⟨_, rfl⟩ | ⟨_, _, rfl⟩ | ⟨_, _, _, rfl⟩ <;> simp
theorem own_all_1 {a : Int32} (ha : ¬ a < (0 : Int32) ∧ ¬ (65535 : Int32) < a) : ∀ c ∈ ([a] : List Int32), ¬ c < (0 : Int32) ∧ ¬ (65535 : Int32) < c := by
  intro c hc; simp only [List.mem_cons, List.not_mem_nil, or_false] at hc; rcases hc with rfl; exact ha
theorem own_all_2 {a b : Int32} (ha : ¬ a < (0 : Int32) ∧ ¬ (65535 : Int32) < a) (hb : ¬ b < (0 : Int32) ∧ ¬ (65535 : Int32) < b) : ∀ c ∈ ([a, b] : List Int32), ¬ c < (0 : Int32) ∧ ¬ (65535 : Int32) < c := by
  intro c hc; simp only [List.mem_cons, List.not_mem_nil, or_false] at hc; rcases hc with rfl | rfl <;> assumption
theorem own_all_3 {a b d : Int32} (ha : ¬ a < (0 : Int32) ∧ ¬ (65535 : Int32) < a) (hb : ¬ b < (0 : Int32) ∧ ¬ (65535 : Int32) < b) (hd : ¬ d < (0 : Int32) ∧ ¬ (65535 : Int32) < d) : ∀ c ∈ ([a, b, d] : List Int32), ¬ c < (0 : Int32) ∧ ¬ (65535 : Int32) < c := by
  intro c hc; simp only [List.mem_cons, List.not_mem_nil, or_false] at hc; rcases hc with rfl | rfl | rfl <;> assumption
/-- the last code point, as the law says it: of the last char and the one ahead of it -/
def own_lc2 (p c : Int32) : Int32 := if c < 56320 then c else if 57343 < c then c else if p < 55296 then c else if 56319 < p then c else (((p - 55296) <<< ((10 : Int32) &&& 31)) + (c - 56320)) + 65536
def own_cpl : List Int32 → Int32
  | [] => 0
  | [c] => c
  | [p, c] => own_lc2 p c
  | [_, p, c] => own_lc2 p c
  | _ => 0
def own_low (c : Int32) : Int32 := if c < 56320 then 0 else if c < 57344 then 1 else 0
def own_high (c : Int32) : Int32 := if c < 55296 then 0 else if c < 56320 then 1 else 0
/-- .. and as the JDK says it -/
def own_jl2 (p c : Int32) : Int32 := if own_low c = 0 then c else if own_high p = 0 then c else ((p <<< ((10 : Int32) &&& 31)) + c) + (-56613888 : Int32)
def own_jpl : List Int32 → Int32
  | [] => 0
  | [c] => c
  | [p, c] => own_jl2 p c
  | [_, p, c] => own_jl2 p c
  | _ => 0
theorem own_sh (p : Int32) : p <<< ((10 : Int32) &&& 31) = p * 1024 := by
  have a2 := c_ishl p 10 10 (by decide)
  have a3 := c_imul p 1024
  have r1 := rng32 (p <<< ((10 : Int32) &&& 31))
  have r2 := rng32 (p * 1024)
  have e3 : (1024 : Int32).toInt = 1024 := rfl
  rw [e3] at a3
  apply Int32.toInt_inj.mp
  omega
theorem own_cp_eq (p c : Int32) : (((p - 55296) <<< ((10 : Int32) &&& 31)) + (c - 56320)) + 65536 = ((p <<< ((10 : Int32) &&& 31)) + c) + (-56613888 : Int32) := by
  rw [own_sh, own_sh, Int32.sub_mul, Int32.sub_eq_add_neg, Int32.sub_eq_add_neg]
  have e : (-(55296 * 1024 : Int32) + -56320) + 65536 = (-56613888 : Int32) := by decide
  rw [← e]
  ac_rfl
theorem own_lt_int {a b : Int32} : a < b ↔ a.toInt < b.toInt := Int32.lt_iff_toInt_lt
theorem own_jl2_eq (p c : Int32) : own_jl2 p c = own_lc2 p c := by
  rw [own_jl2, own_lc2, own_low, own_high, ← own_cp_eq]
  have e1 : (55296 : Int32).toInt = 55296 := rfl
  have e2 : (56320 : Int32).toInt = 56320 := rfl
  have e3 : (57344 : Int32).toInt = 57344 := rfl
  have e4 : (57343 : Int32).toInt = 57343 := rfl
  have e5 : (56319 : Int32).toInt = 56319 := rfl
  by_cases h1 : c < 56320
  · simp [h1]
  · by_cases h2 : c < 57344
    · have h3 : ¬ (57343 : Int32) < c := by rw [own_lt_int] at *; omega
      by_cases h4 : p < 55296
      · simp [h1, h2, h3, h4]
      · by_cases h5 : p < 56320
        · have h6 : ¬ (56319 : Int32) < p := by rw [own_lt_int] at *; omega
          simp [h1, h2, h3, h4, h5, h6]
        · have h6 : (56319 : Int32) < p := by rw [own_lt_int] at *; omega
          simp [h1, h2, h3, h4, h5, h6]
    · have h3 : (57343 : Int32) < c := by rw [own_lt_int] at *; omega
      simp [h1, h2, h3]
theorem own_jpl_eq {cs : List Int32} (_ : ∀ c ∈ cs, ¬ c < (0 : Int32) ∧ ¬ (65535 : Int32) < c) : own_jpl cs = own_cpl cs := by
  match cs with
  | [] => rfl
  | [_] => rfl
  | [p, c] => exact own_jl2_eq p c
  | [_, p, c] => exact own_jl2_eq p c
  | _ :: _ :: _ :: _ :: _ => rfl
theorem own_lc2_lat (p : Int32) {c : Int32} (h : ¬ (255 : Int32) < c) : own_lc2 p c = c := by
  have e1 : (255 : Int32).toInt = 255 := rfl
  have e2 : (56320 : Int32).toInt = 56320 := rfl
  have : c < 56320 := by rw [own_lt_int] at *; omega
  simp [own_lc2, this]
theorem own_cpl1 {a : Int32} (h : ∀ c ∈ ([a] : List Int32), ¬ (255 : Int32) < c) : own_cpl [a] = a := rfl
theorem own_cpl2 {a b : Int32} (h : ∀ c ∈ ([a, b] : List Int32), ¬ (255 : Int32) < c) : own_cpl [a, b] = b := own_lc2_lat a (h b (by simp))
theorem own_cpl3 {a b d : Int32} (h : ∀ c ∈ ([a, b, d] : List Int32), ¬ (255 : Int32) < c) : own_cpl [a, b, d] = d := own_lc2_lat b (h d (by simp))
theorem d0_0 : decode jdk_41_method_11_code 0 = .ok (.iload_n 0, 1) := by decide +kernel
theorem d0_1 : decode jdk_41_method_11_code 1 = .ok (.ifCond .lt 8, 3) := by decide +kernel
theorem d0_4 : decode jdk_41_method_11_code 4 = .ok (.iload_n 0, 1) := by decide +kernel
theorem d0_5 : decode jdk_41_method_11_code 5 = .ok (.iload_n 1, 1) := by decide +kernel
theorem d0_6 : decode jdk_41_method_11_code 6 = .ok (.if_icmp .lt 10, 3) := by decide +kernel
theorem d0_16 : decode jdk_41_method_11_code 16 = .ok (.iload_n 0, 1) := by decide +kernel
theorem d0_17 : decode jdk_41_method_11_code 17 = .ok (.ireturn, 1) := by decide +kernel
theorem pn_0 : plainName "jdk/internal/util/Preconditions" = true := by first | (simp [plainName, overriddenIn]; done) | decide +kernel
theorem d1_0 : decode jdk_42_method_155_code 0 = .ok (.iload_n 0, 1) := by decide +kernel
theorem d1_1 : decode jdk_42_method_155_code 1 = .ok (.iload_n 1, 1) := by decide +kernel
theorem d1_2 : decode jdk_42_method_155_code 2 = .ok (.getstatic 1053, 3) := by decide +kernel
theorem d1_5 : decode jdk_42_method_155_code 5 = .ok (.invokestatic 1059, 3) := by decide +kernel
theorem pd_0 : parseMethodDescriptor "(IILjava/util/function/BiFunction;)I" = some ⟨[.int, .int, (.object "java/util/function/BiFunction")], some .int⟩ := by decide +kernel
theorem d1_8 : decode jdk_42_method_155_code 8 = .ok (.pop, 1) := by decide +kernel
theorem d1_9 : decode jdk_42_method_155_code 9 = .ok (.return_, 1) := by decide +kernel
theorem pn_1 : plainName "java/lang/String" = true := by first | (simp [plainName, overriddenIn]; done) | decide +kernel
theorem d2_0 : decode jdk_42_method_154_code 0 = .ok (.getstatic 38, 3) := by decide +kernel
theorem d2_3 : decode jdk_42_method_154_code 3 = .ok (.ifCond .eq 14, 3) := by decide +kernel
theorem d2_6 : decode jdk_42_method_154_code 6 = .ok (.aload_n 0, 1) := by decide +kernel
theorem d2_7 : decode jdk_42_method_154_code 7 = .ok (.getfield 15, 3) := by decide +kernel
theorem d2_10 : decode jdk_42_method_154_code 10 = .ok (.ifCond .ne 7, 3) := by decide +kernel
theorem d2_13 : decode jdk_42_method_154_code 13 = .ok (.iconst 1, 1) := by decide +kernel
theorem d2_14 : decode jdk_42_method_154_code 14 = .ok (.goto 4, 3) := by decide +kernel
theorem d2_18 : decode jdk_42_method_154_code 18 = .ok (.ireturn, 1) := by decide +kernel
theorem d3_0 : decode jdk_42_method_152_code 0 = .ok (.getstatic 38, 3) := by decide +kernel
theorem d3_3 : decode jdk_42_method_152_code 3 = .ok (.ifCond .eq 10, 3) := by decide +kernel
theorem d3_6 : decode jdk_42_method_152_code 6 = .ok (.aload_n 0, 1) := by decide +kernel
theorem d3_7 : decode jdk_42_method_152_code 7 = .ok (.getfield 15, 3) := by decide +kernel
theorem d3_10 : decode jdk_42_method_152_code 10 = .ok (.goto 4, 3) := by decide +kernel
theorem d3_14 : decode jdk_42_method_152_code 14 = .ok (.ireturn, 1) := by decide +kernel
theorem d2_17 : decode jdk_42_method_154_code 17 = .ok (.iconst 0, 1) := by decide +kernel
theorem d4_0 : decode jdk_42_method_54_code 0 = .ok (.aload_n 0, 1) := by decide +kernel
theorem d4_1 : decode jdk_42_method_54_code 1 = .ok (.getfield 9, 3) := by decide +kernel
theorem d4_4 : decode jdk_42_method_54_code 4 = .ok (.arraylength, 1) := by decide +kernel
theorem d4_5 : decode jdk_42_method_54_code 5 = .ok (.aload_n 0, 1) := by decide +kernel
theorem d4_6 : decode jdk_42_method_54_code 6 = .ok (.invokevirtual 335, 3) := by decide +kernel
theorem pd_1 : parseMethodDescriptor "()B" = some ⟨[], some .byte⟩ := by decide +kernel
theorem d4_9 : decode jdk_42_method_54_code 9 = .ok (.ishr, 1) := by decide +kernel
theorem d4_10 : decode jdk_42_method_54_code 10 = .ok (.ireturn, 1) := by decide +kernel
theorem d5_0 : decode jdk_43_method_2_code 0 = .ok (.iload_n 1, 1) := by decide +kernel
theorem d5_1 : decode jdk_43_method_2_code 1 = .ok (.aload_n 0, 1) := by decide +kernel
theorem d5_2 : decode jdk_43_method_2_code 2 = .ok (.arraylength, 1) := by decide +kernel
theorem d5_3 : decode jdk_43_method_2_code 3 = .ok (.invokestatic 9, 3) := by decide +kernel
theorem pd_2 : parseMethodDescriptor "(II)V" = some ⟨[.int, .int], none⟩ := by decide +kernel
theorem d5_6 : decode jdk_43_method_2_code 6 = .ok (.aload_n 0, 1) := by decide +kernel
theorem d5_7 : decode jdk_43_method_2_code 7 = .ok (.iload_n 1, 1) := by decide +kernel
theorem d5_8 : decode jdk_43_method_2_code 8 = .ok (.baload, 1) := by decide +kernel
theorem d5_9 : decode jdk_43_method_2_code 9 = .ok (.sipush 255, 3) := by decide +kernel
theorem d5_12 : decode jdk_43_method_2_code 12 = .ok (.iand, 1) := by decide +kernel
theorem d5_13 : decode jdk_43_method_2_code 13 = .ok (.i2c, 1) := by decide +kernel
theorem d5_14 : decode jdk_43_method_2_code 14 = .ok (.ireturn, 1) := by decide +kernel
theorem pn_2 : plainName "java/lang/StringLatin1" = true := by first | (simp [plainName, overriddenIn]; done) | decide +kernel
theorem d6_0 : decode jdk_52_method_6_code 0 = .ok (.aload_n 0, 1) := by decide +kernel
theorem d6_1 : decode jdk_52_method_6_code 1 = .ok (.arraylength, 1) := by decide +kernel
theorem d6_2 : decode jdk_52_method_6_code 2 = .ok (.iconst 1, 1) := by decide +kernel
theorem d6_3 : decode jdk_52_method_6_code 3 = .ok (.ishr, 1) := by decide +kernel
theorem d6_4 : decode jdk_52_method_6_code 4 = .ok (.ireturn, 1) := by decide +kernel
theorem pn_3 : plainName "java/lang/StringUTF16" = true := by first | (simp [plainName, overriddenIn]; done) | decide +kernel
theorem d7_0 : decode jdk_52_method_91_code 0 = .ok (.iload_n 0, 1) := by decide +kernel
theorem d7_1 : decode jdk_52_method_91_code 1 = .ok (.aload_n 1, 1) := by decide +kernel
theorem d7_2 : decode jdk_52_method_91_code 2 = .ok (.invokestatic 48, 3) := by decide +kernel
theorem pd_3 : parseMethodDescriptor "([B)I" = some ⟨[(.array .byte)], some .int⟩ := by decide +kernel
theorem d7_5 : decode jdk_52_method_91_code 5 = .ok (.invokestatic 414, 3) := by decide +kernel
theorem d7_8 : decode jdk_52_method_91_code 8 = .ok (.return_, 1) := by decide +kernel
theorem d8_0 : decode jdk_52_method_5_code 0 = .ok (.getstatic 44, 3) := by decide +kernel
theorem d8_3 : decode jdk_52_method_5_code 3 = .ok (.ifCond .ne 25, 3) := by decide +kernel
theorem d8_28 : decode jdk_52_method_5_code 28 = .ok (.iload_n 1, 1) := by decide +kernel
theorem d8_29 : decode jdk_52_method_5_code 29 = .ok (.iconst 1, 1) := by decide +kernel
theorem d8_30 : decode jdk_52_method_5_code 30 = .ok (.ishl, 1) := by decide +kernel
theorem d8_31 : decode jdk_52_method_5_code 31 = .ok (.istore_n 1, 1) := by decide +kernel
theorem d8_32 : decode jdk_52_method_5_code 32 = .ok (.aload_n 0, 1) := by decide +kernel
theorem d8_33 : decode jdk_52_method_5_code 33 = .ok (.iload_n 1, 1) := by decide +kernel
theorem d8_34 : decode jdk_52_method_5_code 34 = .ok (.iinc 1 1, 3) := by decide +kernel
theorem d8_37 : decode jdk_52_method_5_code 37 = .ok (.baload, 1) := by decide +kernel
theorem d8_38 : decode jdk_52_method_5_code 38 = .ok (.sipush 255, 3) := by decide +kernel
theorem d8_41 : decode jdk_52_method_5_code 41 = .ok (.iand, 1) := by decide +kernel
theorem d8_42 : decode jdk_52_method_5_code 42 = .ok (.getstatic 59, 3) := by decide +kernel
theorem d8_45 : decode jdk_52_method_5_code 45 = .ok (.ishl, 1) := by decide +kernel
theorem d8_46 : decode jdk_52_method_5_code 46 = .ok (.aload_n 0, 1) := by decide +kernel
theorem d8_47 : decode jdk_52_method_5_code 47 = .ok (.iload_n 1, 1) := by decide +kernel
theorem d8_48 : decode jdk_52_method_5_code 48 = .ok (.baload, 1) := by decide +kernel
theorem d8_49 : decode jdk_52_method_5_code 49 = .ok (.sipush 255, 3) := by decide +kernel
theorem d8_52 : decode jdk_52_method_5_code 52 = .ok (.iand, 1) := by decide +kernel
theorem d8_53 : decode jdk_52_method_5_code 53 = .ok (.getstatic 63, 3) := by decide +kernel
theorem d8_56 : decode jdk_52_method_5_code 56 = .ok (.ishl, 1) := by decide +kernel
theorem d8_57 : decode jdk_52_method_5_code 57 = .ok (.ior, 1) := by decide +kernel
theorem d8_58 : decode jdk_52_method_5_code 58 = .ok (.i2c, 1) := by decide +kernel
theorem d8_59 : decode jdk_52_method_5_code 59 = .ok (.ireturn, 1) := by decide +kernel
theorem d9_0 : decode jdk_52_method_83_code 0 = .ok (.iload_n 1, 1) := by decide +kernel
theorem d9_1 : decode jdk_52_method_83_code 1 = .ok (.aload_n 0, 1) := by decide +kernel
theorem d9_2 : decode jdk_52_method_83_code 2 = .ok (.invokestatic 67, 3) := by decide +kernel
theorem pd_4 : parseMethodDescriptor "(I[B)V" = some ⟨[.int, (.array .byte)], none⟩ := by decide +kernel
theorem d9_5 : decode jdk_52_method_83_code 5 = .ok (.aload_n 0, 1) := by decide +kernel
theorem d9_6 : decode jdk_52_method_83_code 6 = .ok (.iload_n 1, 1) := by decide +kernel
theorem d9_7 : decode jdk_52_method_83_code 7 = .ok (.invokestatic 71, 3) := by decide +kernel
theorem pd_5 : parseMethodDescriptor "([BI)C" = some ⟨[(.array .byte), .int], some .char⟩ := by decide +kernel
theorem d9_10 : decode jdk_52_method_83_code 10 = .ok (.ireturn, 1) := by decide +kernel
theorem d10_0 : decode jdk_42_method_56_code 0 = .ok (.aload_n 0, 1) := by decide +kernel
theorem d10_1 : decode jdk_42_method_56_code 1 = .ok (.invokevirtual 492, 3) := by decide +kernel
theorem pd_6 : parseMethodDescriptor "()Z" = some ⟨[], some .boolean⟩ := by decide +kernel
theorem d10_4 : decode jdk_42_method_56_code 4 = .ok (.ifCond .eq 12, 3) := by decide +kernel
theorem d10_16 : decode jdk_42_method_56_code 16 = .ok (.aload_n 0, 1) := by decide +kernel
theorem d10_17 : decode jdk_42_method_56_code 17 = .ok (.getfield 9, 3) := by decide +kernel
theorem d10_20 : decode jdk_42_method_56_code 20 = .ok (.iload_n 1, 1) := by decide +kernel
theorem d10_21 : decode jdk_42_method_56_code 21 = .ok (.invokestatic 498, 3) := by decide +kernel
theorem d10_24 : decode jdk_42_method_56_code 24 = .ok (.ireturn, 1) := by decide +kernel
theorem d10_7 : decode jdk_42_method_56_code 7 = .ok (.aload_n 0, 1) := by decide +kernel
theorem d10_8 : decode jdk_42_method_56_code 8 = .ok (.getfield 9, 3) := by decide +kernel
theorem d10_11 : decode jdk_42_method_56_code 11 = .ok (.iload_n 1, 1) := by decide +kernel
theorem d10_12 : decode jdk_42_method_56_code 12 = .ok (.invokestatic 495, 3) := by decide +kernel
theorem d10_15 : decode jdk_42_method_56_code 15 = .ok (.ireturn, 1) := by decide +kernel
theorem d11_0 : decode jdk_52_method_3_code 0 = .ok (.iload_n 0, 1) := by decide +kernel
theorem d11_1 : decode jdk_52_method_3_code 1 = .ok (.ifCond .ge 11, 3) := by decide +kernel
theorem d11_12 : decode jdk_52_method_3_code 12 = .ok (.iload_n 0, 1) := by decide +kernel
theorem d11_13 : decode jdk_52_method_3_code 13 = .ok (.ldc 20, 2) := by decide +kernel
theorem d11_15 : decode jdk_52_method_3_code 15 = .ok (.if_icmp .lt 40, 3) := by decide +kernel
theorem d11_55 : decode jdk_52_method_3_code 55 = .ok (.iload_n 0, 1) := by decide +kernel
theorem d11_56 : decode jdk_52_method_3_code 56 = .ok (.iconst 1, 1) := by decide +kernel
theorem d11_57 : decode jdk_52_method_3_code 57 = .ok (.ishl, 1) := by decide +kernel
theorem d11_58 : decode jdk_52_method_3_code 58 = .ok (.ireturn, 1) := by decide +kernel
theorem d12_0 : decode jdk_52_method_4_code 0 = .ok (.getstatic 44, 3) := by decide +kernel
theorem d12_3 : decode jdk_52_method_4_code 3 = .ok (.ifCond .ne 25, 3) := by decide +kernel
theorem d12_28 : decode jdk_52_method_4_code 28 = .ok (.iload_n 1, 1) := by decide +kernel
theorem d12_29 : decode jdk_52_method_4_code 29 = .ok (.iconst 1, 1) := by decide +kernel
theorem d12_30 : decode jdk_52_method_4_code 30 = .ok (.ishl, 1) := by decide +kernel
theorem d12_31 : decode jdk_52_method_4_code 31 = .ok (.istore_n 1, 1) := by decide +kernel
theorem d12_32 : decode jdk_52_method_4_code 32 = .ok (.aload_n 0, 1) := by decide +kernel
theorem d12_33 : decode jdk_52_method_4_code 33 = .ok (.iload_n 1, 1) := by decide +kernel
theorem d12_34 : decode jdk_52_method_4_code 34 = .ok (.iinc 1 1, 3) := by decide +kernel
theorem d12_37 : decode jdk_52_method_4_code 37 = .ok (.iload_n 2, 1) := by decide +kernel
theorem d12_38 : decode jdk_52_method_4_code 38 = .ok (.getstatic 59, 3) := by decide +kernel
theorem d12_41 : decode jdk_52_method_4_code 41 = .ok (.ishr, 1) := by decide +kernel
theorem d12_42 : decode jdk_52_method_4_code 42 = .ok (.i2b, 1) := by decide +kernel
theorem d12_43 : decode jdk_52_method_4_code 43 = .ok (.bastore, 1) := by decide +kernel
theorem d12_44 : decode jdk_52_method_4_code 44 = .ok (.aload_n 0, 1) := by decide +kernel
theorem d12_45 : decode jdk_52_method_4_code 45 = .ok (.iload_n 1, 1) := by decide +kernel
theorem d12_46 : decode jdk_52_method_4_code 46 = .ok (.iload_n 2, 1) := by decide +kernel
theorem d12_47 : decode jdk_52_method_4_code 47 = .ok (.getstatic 63, 3) := by decide +kernel
theorem d12_50 : decode jdk_52_method_4_code 50 = .ok (.ishr, 1) := by decide +kernel
theorem d12_51 : decode jdk_52_method_4_code 51 = .ok (.i2b, 1) := by decide +kernel
theorem d12_52 : decode jdk_52_method_4_code 52 = .ok (.bastore, 1) := by decide +kernel
theorem d12_53 : decode jdk_52_method_4_code 53 = .ok (.return_, 1) := by decide +kernel
theorem d13_0 : decode jdk_52_method_2_code 0 = .ok (.iload_n 0, 1) := by decide +kernel
theorem d13_1 : decode jdk_52_method_2_code 1 = .ok (.invokestatic 11, 3) := by decide +kernel
theorem pd_7 : parseMethodDescriptor "(I)I" = some ⟨[.int], some .int⟩ := by decide +kernel
theorem d13_4 : decode jdk_52_method_2_code 4 = .ok (.newarray .byte, 2) := by decide +kernel
theorem d13_6 : decode jdk_52_method_2_code 6 = .ok (.areturn, 1) := by decide +kernel
theorem d14_0 : decode jdk_52_method_14_code 0 = .ok (.iload_n 2, 1) := by decide +kernel
theorem d14_1 : decode jdk_52_method_14_code 1 = .ok (.invokestatic 107, 3) := by decide +kernel
theorem pd_8 : parseMethodDescriptor "(I)[B" = some ⟨[.int], some (.array .byte)⟩ := by decide +kernel
theorem d14_4 : decode jdk_52_method_14_code 4 = .ok (.astore_n 3, 1) := by decide +kernel
theorem d14_5 : decode jdk_52_method_14_code 5 = .ok (.iconst 0, 1) := by decide +kernel
theorem d14_6 : decode jdk_52_method_14_code 6 = .ok (.istore 4, 2) := by decide +kernel
theorem d14_8 : decode jdk_52_method_14_code 8 = .ok (.iload 4, 2) := by decide +kernel
theorem d14_10 : decode jdk_52_method_14_code 10 = .ok (.iload_n 2, 1) := by decide +kernel
theorem d14_11 : decode jdk_52_method_14_code 11 = .ok (.if_icmp .ge 21, 3) := by decide +kernel
theorem d14_14 : decode jdk_52_method_14_code 14 = .ok (.aload_n 3, 1) := by decide +kernel
theorem d14_15 : decode jdk_52_method_14_code 15 = .ok (.iload 4, 2) := by decide +kernel
theorem d14_17 : decode jdk_52_method_14_code 17 = .ok (.aload_n 0, 1) := by decide +kernel
theorem d14_18 : decode jdk_52_method_14_code 18 = .ok (.iload_n 1, 1) := by decide +kernel
theorem d14_19 : decode jdk_52_method_14_code 19 = .ok (.caload, 1) := by decide +kernel
theorem d14_20 : decode jdk_52_method_14_code 20 = .ok (.invokestatic 111, 3) := by decide +kernel
theorem pd_9 : parseMethodDescriptor "([BII)V" = some ⟨[(.array .byte), .int, .int], none⟩ := by decide +kernel
theorem d14_23 : decode jdk_52_method_14_code 23 = .ok (.iinc 1 1, 3) := by decide +kernel
theorem d14_26 : decode jdk_52_method_14_code 26 = .ok (.iinc 4 1, 3) := by decide +kernel
theorem d14_29 : decode jdk_52_method_14_code 29 = .ok (.goto (-21), 3) := by decide +kernel
theorem d14_32 : decode jdk_52_method_14_code 32 = .ok (.aload_n 3, 1) := by decide +kernel
theorem d14_33 : decode jdk_52_method_14_code 33 = .ok (.areturn, 1) := by decide +kernel
theorem d15_0 : decode jdk_52_method_21_code 0 = .ok (.iconst 0, 1) := by decide +kernel
theorem d15_1 : decode jdk_52_method_21_code 1 = .ok (.istore 5, 2) := by decide +kernel
theorem d15_3 : decode jdk_52_method_21_code 3 = .ok (.iload 5, 2) := by decide +kernel
theorem d15_5 : decode jdk_52_method_21_code 5 = .ok (.iload 4, 2) := by decide +kernel
theorem d15_7 : decode jdk_52_method_21_code 7 = .ok (.if_icmp .ge 37, 3) := by decide +kernel
theorem d15_10 : decode jdk_52_method_21_code 10 = .ok (.aload_n 0, 1) := by decide +kernel
theorem d15_11 : decode jdk_52_method_21_code 11 = .ok (.iload_n 1, 1) := by decide +kernel
theorem d15_12 : decode jdk_52_method_21_code 12 = .ok (.caload, 1) := by decide +kernel
theorem d15_13 : decode jdk_52_method_21_code 13 = .ok (.istore 6, 2) := by decide +kernel
theorem d15_15 : decode jdk_52_method_21_code 15 = .ok (.iload 6, 2) := by decide +kernel
theorem d15_17 : decode jdk_52_method_21_code 17 = .ok (.sipush 255, 3) := by decide +kernel
theorem d15_20 : decode jdk_52_method_21_code 20 = .ok (.if_icmp .le 6, 3) := by decide +kernel
theorem d15_23 : decode jdk_52_method_21_code 23 = .ok (.iload 5, 2) := by decide +kernel
theorem d15_25 : decode jdk_52_method_21_code 25 = .ok (.ireturn, 1) := by decide +kernel
theorem d15_26 : decode jdk_52_method_21_code 26 = .ok (.aload_n 2, 1) := by decide +kernel
theorem d15_27 : decode jdk_52_method_21_code 27 = .ok (.iload_n 3, 1) := by decide +kernel
theorem d15_28 : decode jdk_52_method_21_code 28 = .ok (.iload 6, 2) := by decide +kernel
theorem d15_30 : decode jdk_52_method_21_code 30 = .ok (.i2b, 1) := by decide +kernel
theorem d15_31 : decode jdk_52_method_21_code 31 = .ok (.bastore, 1) := by decide +kernel
theorem d15_32 : decode jdk_52_method_21_code 32 = .ok (.iinc 1 1, 3) := by decide +kernel
theorem d15_35 : decode jdk_52_method_21_code 35 = .ok (.iinc 3 1, 3) := by decide +kernel
theorem d15_38 : decode jdk_52_method_21_code 38 = .ok (.iinc 5 1, 3) := by decide +kernel
theorem d15_41 : decode jdk_52_method_21_code 41 = .ok (.goto (-38), 3) := by decide +kernel
theorem d15_44 : decode jdk_52_method_21_code 44 = .ok (.iload 4, 2) := by decide +kernel
theorem d15_46 : decode jdk_52_method_21_code 46 = .ok (.ireturn, 1) := by decide +kernel
theorem d16_0 : decode jdk_52_method_16_code 0 = .ok (.iload_n 2, 1) := by decide +kernel
theorem d16_1 : decode jdk_52_method_16_code 1 = .ok (.newarray .byte, 2) := by decide +kernel
theorem d16_3 : decode jdk_52_method_16_code 3 = .ok (.astore_n 3, 1) := by decide +kernel
theorem d16_4 : decode jdk_52_method_16_code 4 = .ok (.aload_n 0, 1) := by decide +kernel
theorem d16_5 : decode jdk_52_method_16_code 5 = .ok (.iload_n 1, 1) := by decide +kernel
theorem d16_6 : decode jdk_52_method_16_code 6 = .ok (.aload_n 3, 1) := by decide +kernel
theorem d16_7 : decode jdk_52_method_16_code 7 = .ok (.iconst 0, 1) := by decide +kernel
theorem d16_8 : decode jdk_52_method_16_code 8 = .ok (.iload_n 2, 1) := by decide +kernel
theorem d16_9 : decode jdk_52_method_16_code 9 = .ok (.invokestatic 115, 3) := by decide +kernel
theorem pd_10 : parseMethodDescriptor "([CI[BII)I" = some ⟨[(.array .char), .int, (.array .byte), .int, .int], some .int⟩ := by decide +kernel
theorem d16_12 : decode jdk_52_method_16_code 12 = .ok (.istore 4, 2) := by decide +kernel
theorem d16_14 : decode jdk_52_method_16_code 14 = .ok (.iload 4, 2) := by decide +kernel
theorem d16_16 : decode jdk_52_method_16_code 16 = .ok (.iload_n 2, 1) := by decide +kernel
theorem d16_17 : decode jdk_52_method_16_code 17 = .ok (.if_icmp .eq 40, 3) := by decide +kernel
theorem d16_20 : decode jdk_52_method_16_code 20 = .ok (.aload_n 0, 1) := by decide +kernel
theorem d16_21 : decode jdk_52_method_16_code 21 = .ok (.iload_n 1, 1) := by decide +kernel
theorem d16_22 : decode jdk_52_method_16_code 22 = .ok (.iload_n 2, 1) := by decide +kernel
theorem d16_23 : decode jdk_52_method_16_code 23 = .ok (.invokestatic 119, 3) := by decide +kernel
theorem pd_11 : parseMethodDescriptor "([CII)[B" = some ⟨[(.array .char), .int, .int], some (.array .byte)⟩ := by decide +kernel
theorem d16_26 : decode jdk_52_method_16_code 26 = .ok (.astore 5, 2) := by decide +kernel
theorem d16_28 : decode jdk_52_method_16_code 28 = .ok (.aload 5, 2) := by decide +kernel
theorem d16_30 : decode jdk_52_method_16_code 30 = .ok (.iload 4, 2) := by decide +kernel
theorem d16_32 : decode jdk_52_method_16_code 32 = .ok (.invokestatic 71, 3) := by decide +kernel
theorem d16_35 : decode jdk_52_method_16_code 35 = .ok (.sipush 255, 3) := by decide +kernel
theorem d16_38 : decode jdk_52_method_16_code 38 = .ok (.if_icmp .gt 16, 3) := by decide +kernel
theorem d16_54 : decode jdk_52_method_16_code 54 = .ok (.aload 5, 2) := by decide +kernel
theorem d16_56 : decode jdk_52_method_16_code 56 = .ok (.areturn, 1) := by decide +kernel
theorem d16_57 : decode jdk_52_method_16_code 57 = .ok (.aload_n 3, 1) := by decide +kernel
theorem d16_58 : decode jdk_52_method_16_code 58 = .ok (.areturn, 1) := by decide +kernel
theorem d17_0 : decode jdk_52_method_15_code 0 = .ok (.iload_n 1, 1) := by decide +kernel
theorem d17_1 : decode jdk_52_method_15_code 1 = .ok (.aload_n 0, 1) := by decide +kernel
theorem d17_2 : decode jdk_52_method_15_code 2 = .ok (.arraylength, 1) := by decide +kernel
theorem d17_3 : decode jdk_52_method_15_code 3 = .ok (.isub, 1) := by decide +kernel
theorem d17_4 : decode jdk_52_method_15_code 4 = .ok (.bipush 31, 2) := by decide +kernel
theorem d17_6 : decode jdk_52_method_15_code 6 = .ok (.iushr, 1) := by decide +kernel
theorem d17_7 : decode jdk_52_method_15_code 7 = .ok (.i2b, 1) := by decide +kernel
theorem d17_8 : decode jdk_52_method_15_code 8 = .ok (.ireturn, 1) := by decide +kernel
theorem d18_0 : decode jdk_42_method_149_code 0 = .ok (.aload_n 0, 1) := by decide +kernel
theorem d18_1 : decode jdk_42_method_149_code 1 = .ok (.invokespecial 1, 3) := by decide +kernel
theorem d18_4 : decode jdk_42_method_149_code 4 = .ok (.iload_n 3, 1) := by decide +kernel
theorem d18_5 : decode jdk_42_method_149_code 5 = .ok (.ifCond .ne 22, 3) := by decide +kernel
theorem d18_27 : decode jdk_42_method_149_code 27 = .ok (.getstatic 38, 3) := by decide +kernel
theorem d18_30 : decode jdk_42_method_149_code 30 = .ok (.ifCond .eq 28, 3) := by decide +kernel
theorem d18_33 : decode jdk_42_method_149_code 33 = .ok (.aload_n 1, 1) := by decide +kernel
theorem d18_34 : decode jdk_42_method_149_code 34 = .ok (.iload_n 2, 1) := by decide +kernel
theorem d18_35 : decode jdk_42_method_149_code 35 = .ok (.iload_n 3, 1) := by decide +kernel
theorem d18_36 : decode jdk_42_method_149_code 36 = .ok (.invokestatic 177, 3) := by decide +kernel
theorem d18_39 : decode jdk_42_method_149_code 39 = .ok (.astore 5, 2) := by decide +kernel
theorem d18_41 : decode jdk_42_method_149_code 41 = .ok (.aload_n 0, 1) := by decide +kernel
theorem d18_42 : decode jdk_42_method_149_code 42 = .ok (.aload 5, 2) := by decide +kernel
theorem d18_44 : decode jdk_42_method_149_code 44 = .ok (.iload_n 3, 1) := by decide +kernel
theorem d18_45 : decode jdk_42_method_149_code 45 = .ok (.invokestatic 47, 3) := by decide +kernel
theorem pd_12 : parseMethodDescriptor "([BI)B" = some ⟨[(.array .byte), .int], some .byte⟩ := by decide +kernel
theorem d18_48 : decode jdk_42_method_149_code 48 = .ok (.putfield 15, 3) := by decide +kernel
theorem d18_51 : decode jdk_42_method_149_code 51 = .ok (.aload_n 0, 1) := by decide +kernel
theorem d18_52 : decode jdk_42_method_149_code 52 = .ok (.aload 5, 2) := by decide +kernel
theorem d18_54 : decode jdk_42_method_149_code 54 = .ok (.putfield 9, 3) := by decide +kernel
theorem d18_57 : decode jdk_42_method_149_code 57 = .ok (.return_, 1) := by decide +kernel
theorem d19_0 : decode jdk_42_method_3_code 0 = .ok (.aload_n 0, 1) := by decide +kernel
theorem d19_1 : decode jdk_42_method_3_code 1 = .ok (.aload_n 1, 1) := by decide +kernel
theorem d19_2 : decode jdk_42_method_3_code 2 = .ok (.iconst 0, 1) := by decide +kernel
theorem d19_3 : decode jdk_42_method_3_code 3 = .ok (.aload_n 1, 1) := by decide +kernel
theorem d19_4 : decode jdk_42_method_3_code 4 = .ok (.arraylength, 1) := by decide +kernel
theorem d19_5 : decode jdk_42_method_3_code 5 = .ok (.aconst_null, 1) := by decide +kernel
theorem d19_6 : decode jdk_42_method_3_code 6 = .ok (.invokespecial 27, 3) := by decide +kernel
theorem pd_13 : parseMethodDescriptor "([CIILjava/lang/Void;)V" = some ⟨[(.array .char), .int, .int, (.object "java/lang/Void")], none⟩ := by decide +kernel
theorem d19_9 : decode jdk_42_method_3_code 9 = .ok (.return_, 1) := by decide +kernel
theorem d20_0 : decode method_3_code 0 = .ok (.iload_n 0, 1) := by decide +kernel
theorem d20_1 : decode method_3_code 1 = .ok (.bipush 10, 2) := by decide +kernel
theorem d20_3 : decode method_3_code 3 = .ok (.iload_n 1, 1) := by decide +kernel
theorem d20_4 : decode method_3_code 4 = .ok (.imul, 1) := by decide +kernel
theorem d20_5 : decode method_3_code 5 = .ok (.iushr, 1) := by decide +kernel
theorem d20_6 : decode method_3_code 6 = .ok (.sipush 1023, 3) := by decide +kernel
theorem d20_9 : decode method_3_code 9 = .ok (.iand, 1) := by decide +kernel
theorem d20_10 : decode method_3_code 10 = .ok (.istore_n 2, 1) := by decide +kernel
theorem d20_11 : decode method_3_code 11 = .ok (.iload_n 2, 1) := by decide +kernel
theorem d20_12 : decode method_3_code 12 = .ok (.iconst 3, 1) := by decide +kernel
theorem d20_13 : decode method_3_code 13 = .ok (.iand, 1) := by decide +kernel
theorem d20_14 : decode method_3_code 14 = .ok (.istore_n 3, 1) := by decide +kernel
theorem d20_15 : decode method_3_code 15 = .ok (.iload_n 2, 1) := by decide +kernel
theorem d20_16 : decode method_3_code 16 = .ok (.iconst 2, 1) := by decide +kernel
theorem d20_17 : decode method_3_code 17 = .ok (.iushr, 1) := by decide +kernel
theorem d20_18 : decode method_3_code 18 = .ok (.istore 4, 2) := by decide +kernel
theorem d20_20 : decode method_3_code 20 = .ok (.iload_n 3, 1) := by decide +kernel
theorem d20_21 : decode method_3_code 21 = .ok (.ifCond .ne 7, 3) := by decide +kernel
theorem d20_24 : decode method_3_code 24 = .ok (.iload 4, 2) := by decide +kernel
theorem d20_26 : decode method_3_code 26 = .ok (.i2c, 1) := by decide +kernel
theorem d20_27 : decode method_3_code 27 = .ok (.ireturn, 1) := by decide +kernel
theorem d20_28 : decode method_3_code 28 = .ok (.iload_n 3, 1) := by decide +kernel
theorem d20_29 : decode method_3_code 29 = .ok (.iconst 1, 1) := by decide +kernel
theorem d20_30 : decode method_3_code 30 = .ok (.if_icmp .ne 12, 3) := by decide +kernel
theorem d20_33 : decode method_3_code 33 = .ok (.ldc 41, 2) := by decide +kernel
theorem d20_35 : decode method_3_code 35 = .ok (.iload 4, 2) := by decide +kernel
theorem d20_37 : decode method_3_code 37 = .ok (.iconst 1, 1) := by decide +kernel
theorem d20_38 : decode method_3_code 38 = .ok (.iand, 1) := by decide +kernel
theorem d20_39 : decode method_3_code 39 = .ok (.ior, 1) := by decide +kernel
theorem d20_40 : decode method_3_code 40 = .ok (.i2c, 1) := by decide +kernel
theorem d20_41 : decode method_3_code 41 = .ok (.ireturn, 1) := by decide +kernel
theorem d20_42 : decode method_3_code 42 = .ok (.iload_n 3, 1) := by decide +kernel
theorem d20_43 : decode method_3_code 43 = .ok (.iconst 2, 1) := by decide +kernel
theorem d20_44 : decode method_3_code 44 = .ok (.if_icmp .ne 12, 3) := by decide +kernel
theorem d20_47 : decode method_3_code 47 = .ok (.ldc 42, 2) := by decide +kernel
theorem d20_49 : decode method_3_code 49 = .ok (.iload 4, 2) := by decide +kernel
theorem d20_51 : decode method_3_code 51 = .ok (.iconst 1, 1) := by decide +kernel
theorem d20_52 : decode method_3_code 52 = .ok (.iand, 1) := by decide +kernel
theorem d20_53 : decode method_3_code 53 = .ok (.ior, 1) := by decide +kernel
theorem d20_54 : decode method_3_code 54 = .ok (.i2c, 1) := by decide +kernel
theorem d20_55 : decode method_3_code 55 = .ok (.ireturn, 1) := by decide +kernel
theorem d20_56 : decode method_3_code 56 = .ok (.bipush 97, 2) := by decide +kernel
theorem d20_58 : decode method_3_code 58 = .ok (.iload 4, 2) := by decide +kernel
theorem d20_60 : decode method_3_code 60 = .ok (.iconst 1, 1) := by decide +kernel
theorem d20_61 : decode method_3_code 61 = .ok (.iand, 1) := by decide +kernel
theorem d20_62 : decode method_3_code 62 = .ok (.iadd, 1) := by decide +kernel
theorem d20_63 : decode method_3_code 63 = .ok (.i2c, 1) := by decide +kernel
theorem d20_64 : decode method_3_code 64 = .ok (.ireturn, 1) := by decide +kernel
theorem pn_4 : plainName "com/example/collie/collie/engine/MinedPairLastCharacterMatchPinLaw" = true := by first | (simp [plainName, overriddenIn]; done) | decide +kernel
theorem d21_0 : decode method_4_code 0 = .ok (.iload_n 0, 1) := by decide +kernel
theorem d21_1 : decode method_4_code 1 = .ok (.iconst 0, 1) := by decide +kernel
theorem d21_2 : decode method_4_code 2 = .ok (.invokestatic 43, 3) := by decide +kernel
theorem pd_14 : parseMethodDescriptor "(II)C" = some ⟨[.int, .int], some .char⟩ := by decide +kernel
theorem d21_5 : decode method_4_code 5 = .ok (.istore_n 2, 1) := by decide +kernel
theorem d21_6 : decode method_4_code 6 = .ok (.iload_n 0, 1) := by decide +kernel
theorem d21_7 : decode method_4_code 7 = .ok (.iconst 1, 1) := by decide +kernel
theorem d21_8 : decode method_4_code 8 = .ok (.invokestatic 43, 3) := by decide +kernel
theorem d21_11 : decode method_4_code 11 = .ok (.istore_n 3, 1) := by decide +kernel
theorem d21_12 : decode method_4_code 12 = .ok (.iload_n 0, 1) := by decide +kernel
theorem d21_13 : decode method_4_code 13 = .ok (.iconst 2, 1) := by decide +kernel
theorem d21_14 : decode method_4_code 14 = .ok (.invokestatic 43, 3) := by decide +kernel
theorem d21_17 : decode method_4_code 17 = .ok (.istore 4, 2) := by decide +kernel
theorem d21_19 : decode method_4_code 19 = .ok (.iload_n 1, 1) := by decide +kernel
theorem d21_20 : decode method_4_code 20 = .ok (.iconst 1, 1) := by decide +kernel
theorem d21_21 : decode method_4_code 21 = .ok (.if_icmp .ne 18, 3) := by decide +kernel
theorem d21_24 : decode method_4_code 24 = .ok (.new 47, 3) := by decide +kernel
theorem d21_27 : decode method_4_code 27 = .ok (.dup, 1) := by decide +kernel
theorem d21_28 : decode method_4_code 28 = .ok (.iconst 1, 1) := by decide +kernel
theorem d21_29 : decode method_4_code 29 = .ok (.newarray .char, 2) := by decide +kernel
theorem d21_31 : decode method_4_code 31 = .ok (.dup, 1) := by decide +kernel
theorem d21_32 : decode method_4_code 32 = .ok (.iconst 0, 1) := by decide +kernel
theorem d21_33 : decode method_4_code 33 = .ok (.iload_n 2, 1) := by decide +kernel
theorem d21_34 : decode method_4_code 34 = .ok (.castore, 1) := by decide +kernel
theorem d21_35 : decode method_4_code 35 = .ok (.invokespecial 49, 3) := by decide +kernel
theorem pd_15 : parseMethodDescriptor "([C)V" = some ⟨[(.array .char)], none⟩ := by decide +kernel
theorem d21_38 : decode method_4_code 38 = .ok (.areturn, 1) := by decide +kernel
theorem d21_39 : decode method_4_code 39 = .ok (.iload_n 1, 1) := by decide +kernel
theorem d21_40 : decode method_4_code 40 = .ok (.iconst 2, 1) := by decide +kernel
theorem d21_41 : decode method_4_code 41 = .ok (.if_icmp .ne 22, 3) := by decide +kernel
theorem d21_44 : decode method_4_code 44 = .ok (.new 47, 3) := by decide +kernel
theorem d21_47 : decode method_4_code 47 = .ok (.dup, 1) := by decide +kernel
theorem d21_48 : decode method_4_code 48 = .ok (.iconst 2, 1) := by decide +kernel
theorem d21_49 : decode method_4_code 49 = .ok (.newarray .char, 2) := by decide +kernel
theorem d21_51 : decode method_4_code 51 = .ok (.dup, 1) := by decide +kernel
theorem d21_52 : decode method_4_code 52 = .ok (.iconst 0, 1) := by decide +kernel
theorem d21_53 : decode method_4_code 53 = .ok (.iload_n 2, 1) := by decide +kernel
theorem d21_54 : decode method_4_code 54 = .ok (.castore, 1) := by decide +kernel
theorem d21_55 : decode method_4_code 55 = .ok (.dup, 1) := by decide +kernel
theorem d21_56 : decode method_4_code 56 = .ok (.iconst 1, 1) := by decide +kernel
theorem d21_57 : decode method_4_code 57 = .ok (.iload_n 3, 1) := by decide +kernel
theorem d21_58 : decode method_4_code 58 = .ok (.castore, 1) := by decide +kernel
theorem d21_59 : decode method_4_code 59 = .ok (.invokespecial 49, 3) := by decide +kernel
theorem d21_62 : decode method_4_code 62 = .ok (.areturn, 1) := by decide +kernel
theorem d21_63 : decode method_4_code 63 = .ok (.new 47, 3) := by decide +kernel
theorem d21_66 : decode method_4_code 66 = .ok (.dup, 1) := by decide +kernel
theorem d21_67 : decode method_4_code 67 = .ok (.iconst 3, 1) := by decide +kernel
theorem d21_68 : decode method_4_code 68 = .ok (.newarray .char, 2) := by decide +kernel
theorem d21_70 : decode method_4_code 70 = .ok (.dup, 1) := by decide +kernel
theorem d21_71 : decode method_4_code 71 = .ok (.iconst 0, 1) := by decide +kernel
theorem d21_72 : decode method_4_code 72 = .ok (.iload_n 2, 1) := by decide +kernel
theorem d21_73 : decode method_4_code 73 = .ok (.castore, 1) := by decide +kernel
theorem d21_74 : decode method_4_code 74 = .ok (.dup, 1) := by decide +kernel
theorem d21_75 : decode method_4_code 75 = .ok (.iconst 1, 1) := by decide +kernel
theorem d21_76 : decode method_4_code 76 = .ok (.iload_n 3, 1) := by decide +kernel
theorem d21_77 : decode method_4_code 77 = .ok (.castore, 1) := by decide +kernel
theorem d21_78 : decode method_4_code 78 = .ok (.dup, 1) := by decide +kernel
theorem d21_79 : decode method_4_code 79 = .ok (.iconst 2, 1) := by decide +kernel
theorem d21_80 : decode method_4_code 80 = .ok (.iload 4, 2) := by decide +kernel
theorem d21_82 : decode method_4_code 82 = .ok (.castore, 1) := by decide +kernel
theorem d21_83 : decode method_4_code 83 = .ok (.invokespecial 49, 3) := by decide +kernel
theorem d21_86 : decode method_4_code 86 = .ok (.areturn, 1) := by decide +kernel
theorem d22_0 : decode method_5_code 0 = .ok (.aload_n 0, 1) := by decide +kernel
theorem d22_1 : decode method_5_code 1 = .ok (.invokevirtual 52, 3) := by decide +kernel
theorem pd_16 : parseMethodDescriptor "()I" = some ⟨[], some .int⟩ := by decide +kernel
theorem d22_4 : decode method_5_code 4 = .ok (.istore_n 1, 1) := by decide +kernel
theorem d22_5 : decode method_5_code 5 = .ok (.aload_n 0, 1) := by decide +kernel
theorem d22_6 : decode method_5_code 6 = .ok (.iload_n 1, 1) := by decide +kernel
theorem d22_7 : decode method_5_code 7 = .ok (.iconst 1, 1) := by decide +kernel
theorem d22_8 : decode method_5_code 8 = .ok (.isub, 1) := by decide +kernel
theorem d22_9 : decode method_5_code 9 = .ok (.invokevirtual 56, 3) := by decide +kernel
theorem pd_17 : parseMethodDescriptor "(I)C" = some ⟨[.int], some .char⟩ := by decide +kernel
theorem d22_12 : decode method_5_code 12 = .ok (.istore_n 2, 1) := by decide +kernel
theorem d22_13 : decode method_5_code 13 = .ok (.iload_n 1, 1) := by decide +kernel
theorem d22_14 : decode method_5_code 14 = .ok (.iconst 2, 1) := by decide +kernel
theorem d22_15 : decode method_5_code 15 = .ok (.if_icmp .lt 51, 3) := by decide +kernel
theorem d22_66 : decode method_5_code 66 = .ok (.iload_n 2, 1) := by decide +kernel
theorem d22_67 : decode method_5_code 67 = .ok (.ireturn, 1) := by decide +kernel
theorem d22_18 : decode method_5_code 18 = .ok (.iload_n 2, 1) := by decide +kernel
theorem d22_19 : decode method_5_code 19 = .ok (.ldc 42, 2) := by decide +kernel
theorem d22_21 : decode method_5_code 21 = .ok (.if_icmp .lt 45, 3) := by decide +kernel
theorem d22_24 : decode method_5_code 24 = .ok (.iload_n 2, 1) := by decide +kernel
theorem d22_25 : decode method_5_code 25 = .ok (.ldc 60, 2) := by decide +kernel
theorem d22_27 : decode method_5_code 27 = .ok (.if_icmp .gt 39, 3) := by decide +kernel
theorem d22_30 : decode method_5_code 30 = .ok (.aload_n 0, 1) := by decide +kernel
theorem d22_31 : decode method_5_code 31 = .ok (.iload_n 1, 1) := by decide +kernel
theorem d22_32 : decode method_5_code 32 = .ok (.iconst 2, 1) := by decide +kernel
theorem d22_33 : decode method_5_code 33 = .ok (.isub, 1) := by decide +kernel
theorem d22_34 : decode method_5_code 34 = .ok (.invokevirtual 56, 3) := by decide +kernel
theorem d22_37 : decode method_5_code 37 = .ok (.istore_n 3, 1) := by decide +kernel
theorem d22_38 : decode method_5_code 38 = .ok (.iload_n 3, 1) := by decide +kernel
theorem d22_39 : decode method_5_code 39 = .ok (.ldc 41, 2) := by decide +kernel
theorem d22_41 : decode method_5_code 41 = .ok (.if_icmp .lt 25, 3) := by decide +kernel
theorem d22_44 : decode method_5_code 44 = .ok (.iload_n 3, 1) := by decide +kernel
theorem d22_45 : decode method_5_code 45 = .ok (.ldc 61, 2) := by decide +kernel
theorem d22_47 : decode method_5_code 47 = .ok (.if_icmp .gt 19, 3) := by decide +kernel
theorem d22_50 : decode method_5_code 50 = .ok (.iload_n 3, 1) := by decide +kernel
theorem d22_51 : decode method_5_code 51 = .ok (.ldc 41, 2) := by decide +kernel
theorem d22_53 : decode method_5_code 53 = .ok (.isub, 1) := by decide +kernel
theorem d22_54 : decode method_5_code 54 = .ok (.bipush 10, 2) := by decide +kernel
theorem d22_56 : decode method_5_code 56 = .ok (.ishl, 1) := by decide +kernel
theorem d22_57 : decode method_5_code 57 = .ok (.iload_n 2, 1) := by decide +kernel
theorem d22_58 : decode method_5_code 58 = .ok (.ldc 42, 2) := by decide +kernel
theorem d22_60 : decode method_5_code 60 = .ok (.isub, 1) := by decide +kernel
theorem d22_61 : decode method_5_code 61 = .ok (.iadd, 1) := by decide +kernel
theorem d22_62 : decode method_5_code 62 = .ok (.ldc 62, 2) := by decide +kernel
theorem d22_64 : decode method_5_code 64 = .ok (.iadd, 1) := by decide +kernel
theorem d22_65 : decode method_5_code 65 = .ok (.ireturn, 1) := by decide +kernel
theorem d23_0 : decode jdk_89_method_15_code 0 = .ok (.iload_n 0, 1) := by decide +kernel
theorem d23_1 : decode jdk_89_method_15_code 1 = .ok (.ldc 76, 2) := by decide +kernel
theorem d23_3 : decode jdk_89_method_15_code 3 = .ok (.if_icmp .lt 13, 3) := by decide +kernel
theorem d23_16 : decode jdk_89_method_15_code 16 = .ok (.iconst 0, 1) := by decide +kernel
theorem d23_17 : decode jdk_89_method_15_code 17 = .ok (.ireturn, 1) := by decide +kernel
theorem d23_6 : decode jdk_89_method_15_code 6 = .ok (.iload_n 0, 1) := by decide +kernel
theorem d23_7 : decode jdk_89_method_15_code 7 = .ok (.ldc 77, 2) := by decide +kernel
theorem d23_9 : decode jdk_89_method_15_code 9 = .ok (.if_icmp .ge 7, 3) := by decide +kernel
theorem d23_12 : decode jdk_89_method_15_code 12 = .ok (.iconst 1, 1) := by decide +kernel
theorem d23_13 : decode jdk_89_method_15_code 13 = .ok (.goto 4, 3) := by decide +kernel
theorem pn_5 : plainName "java/lang/Character" = true := by first | (simp [plainName, overriddenIn]; done) | decide +kernel
theorem d24_0 : decode jdk_89_method_14_code 0 = .ok (.iload_n 0, 1) := by decide +kernel
theorem d24_1 : decode jdk_89_method_14_code 1 = .ok (.ldc 75, 2) := by decide +kernel
theorem d24_3 : decode jdk_89_method_14_code 3 = .ok (.if_icmp .lt 13, 3) := by decide +kernel
theorem d24_16 : decode jdk_89_method_14_code 16 = .ok (.iconst 0, 1) := by decide +kernel
theorem d24_17 : decode jdk_89_method_14_code 17 = .ok (.ireturn, 1) := by decide +kernel
theorem d24_6 : decode jdk_89_method_14_code 6 = .ok (.iload_n 0, 1) := by decide +kernel
theorem d24_7 : decode jdk_89_method_14_code 7 = .ok (.ldc 76, 2) := by decide +kernel
theorem d24_9 : decode jdk_89_method_14_code 9 = .ok (.if_icmp .ge 7, 3) := by decide +kernel
theorem d24_12 : decode jdk_89_method_14_code 12 = .ok (.iconst 1, 1) := by decide +kernel
theorem d24_13 : decode jdk_89_method_14_code 13 = .ok (.goto 4, 3) := by decide +kernel
theorem d25_0 : decode jdk_89_method_19_code 0 = .ok (.iload_n 0, 1) := by decide +kernel
theorem d25_1 : decode jdk_89_method_19_code 1 = .ok (.bipush 10, 2) := by decide +kernel
theorem d25_3 : decode jdk_89_method_19_code 3 = .ok (.ishl, 1) := by decide +kernel
theorem d25_4 : decode jdk_89_method_19_code 4 = .ok (.iload_n 1, 1) := by decide +kernel
theorem d25_5 : decode jdk_89_method_19_code 5 = .ok (.iadd, 1) := by decide +kernel
theorem d25_6 : decode jdk_89_method_19_code 6 = .ok (.ldc 85, 2) := by decide +kernel
theorem d25_8 : decode jdk_89_method_19_code 8 = .ok (.iadd, 1) := by decide +kernel
theorem d25_9 : decode jdk_89_method_19_code 9 = .ok (.ireturn, 1) := by decide +kernel
theorem d26_0 : decode jdk_52_method_9_code 0 = .ok (.iinc 1 (-1), 3) := by decide +kernel
theorem d26_3 : decode jdk_52_method_9_code 3 = .ok (.iload_n 2, 1) := by decide +kernel
theorem d26_4 : decode jdk_52_method_9_code 4 = .ok (.ifCond .eq 8, 3) := by decide +kernel
theorem d26_12 : decode jdk_52_method_9_code 12 = .ok (.aload_n 0, 1) := by decide +kernel
theorem d26_13 : decode jdk_52_method_9_code 13 = .ok (.iload_n 1, 1) := by decide +kernel
theorem d26_14 : decode jdk_52_method_9_code 14 = .ok (.invokestatic 71, 3) := by decide +kernel
theorem d26_17 : decode jdk_52_method_9_code 17 = .ok (.istore_n 3, 1) := by decide +kernel
theorem d26_18 : decode jdk_52_method_9_code 18 = .ok (.iload_n 3, 1) := by decide +kernel
theorem d26_19 : decode jdk_52_method_9_code 19 = .ok (.invokestatic 81, 3) := by decide +kernel
theorem pd_18 : parseMethodDescriptor "(C)Z" = some ⟨[.char], some .boolean⟩ := by decide +kernel
theorem d26_22 : decode jdk_52_method_9_code 22 = .ok (.ifCond .eq 41, 3) := by decide +kernel
theorem d26_63 : decode jdk_52_method_9_code 63 = .ok (.iload_n 3, 1) := by decide +kernel
theorem d26_64 : decode jdk_52_method_9_code 64 = .ok (.ireturn, 1) := by decide +kernel
theorem d26_25 : decode jdk_52_method_9_code 25 = .ok (.iload_n 1, 1) := by decide +kernel
theorem d26_26 : decode jdk_52_method_9_code 26 = .ok (.ifCond .le 37, 3) := by decide +kernel
theorem d27_0 : decode jdk_52_method_10_code 0 = .ok (.aload_n 0, 1) := by decide +kernel
theorem d27_1 : decode jdk_52_method_10_code 1 = .ok (.iload_n 1, 1) := by decide +kernel
theorem d27_2 : decode jdk_52_method_10_code 2 = .ok (.iconst 0, 1) := by decide +kernel
theorem d27_3 : decode jdk_52_method_10_code 3 = .ok (.invokestatic 92, 3) := by decide +kernel
theorem pd_19 : parseMethodDescriptor "([BIZ)I" = some ⟨[(.array .byte), .int, .boolean], some .int⟩ := by decide +kernel
theorem d27_6 : decode jdk_52_method_10_code 6 = .ok (.ireturn, 1) := by decide +kernel
theorem d26_29 : decode jdk_52_method_9_code 29 = .ok (.iinc 1 (-1), 3) := by decide +kernel
theorem d26_32 : decode jdk_52_method_9_code 32 = .ok (.iload_n 2, 1) := by decide +kernel
theorem d26_33 : decode jdk_52_method_9_code 33 = .ok (.ifCond .eq 8, 3) := by decide +kernel
theorem d26_41 : decode jdk_52_method_9_code 41 = .ok (.aload_n 0, 1) := by decide +kernel
theorem d26_42 : decode jdk_52_method_9_code 42 = .ok (.iload_n 1, 1) := by decide +kernel
theorem d26_43 : decode jdk_52_method_9_code 43 = .ok (.invokestatic 71, 3) := by decide +kernel
theorem d26_46 : decode jdk_52_method_9_code 46 = .ok (.istore 4, 2) := by decide +kernel
theorem d26_48 : decode jdk_52_method_9_code 48 = .ok (.iload 4, 2) := by decide +kernel
theorem d26_50 : decode jdk_52_method_9_code 50 = .ok (.invokestatic 75, 3) := by decide +kernel
theorem d26_53 : decode jdk_52_method_9_code 53 = .ok (.ifCond .eq 10, 3) := by decide +kernel
theorem d26_56 : decode jdk_52_method_9_code 56 = .ok (.iload 4, 2) := by decide +kernel
theorem d26_58 : decode jdk_52_method_9_code 58 = .ok (.iload_n 3, 1) := by decide +kernel
theorem d26_59 : decode jdk_52_method_9_code 59 = .ok (.invokestatic 84, 3) := by decide +kernel
theorem pd_20 : parseMethodDescriptor "(CC)I" = some ⟨[.char, .char], some .int⟩ := by decide +kernel
theorem d26_62 : decode jdk_52_method_9_code 62 = .ok (.ireturn, 1) := by decide +kernel
theorem d28_0 : decode jdk_42_method_58_code 0 = .ok (.iload_n 1, 1) := by decide +kernel
theorem d28_1 : decode jdk_42_method_58_code 1 = .ok (.iconst 1, 1) := by decide +kernel
theorem d28_2 : decode jdk_42_method_58_code 2 = .ok (.isub, 1) := by decide +kernel
theorem d28_3 : decode jdk_42_method_58_code 3 = .ok (.istore_n 2, 1) := by decide +kernel
theorem d28_4 : decode jdk_42_method_58_code 4 = .ok (.iload_n 2, 1) := by decide +kernel
theorem d28_5 : decode jdk_42_method_58_code 5 = .ok (.aload_n 0, 1) := by decide +kernel
theorem d28_6 : decode jdk_42_method_58_code 6 = .ok (.invokevirtual 505, 3) := by decide +kernel
theorem d28_9 : decode jdk_42_method_58_code 9 = .ok (.invokestatic 499, 3) := by decide +kernel
theorem d28_12 : decode jdk_42_method_58_code 12 = .ok (.aload_n 0, 1) := by decide +kernel
theorem d28_13 : decode jdk_42_method_58_code 13 = .ok (.invokevirtual 492, 3) := by decide +kernel
theorem d28_16 : decode jdk_42_method_58_code 16 = .ok (.ifCond .eq 14, 3) := by decide +kernel
theorem d28_19 : decode jdk_42_method_58_code 19 = .ok (.aload_n 0, 1) := by decide +kernel
theorem d28_20 : decode jdk_42_method_58_code 20 = .ok (.getfield 9, 3) := by decide +kernel
theorem d28_23 : decode jdk_42_method_58_code 23 = .ok (.iload_n 2, 1) := by decide +kernel
theorem d28_24 : decode jdk_42_method_58_code 24 = .ok (.baload, 1) := by decide +kernel
theorem d28_25 : decode jdk_42_method_58_code 25 = .ok (.sipush 255, 3) := by decide +kernel
theorem d28_28 : decode jdk_42_method_58_code 28 = .ok (.iand, 1) := by decide +kernel
theorem d28_29 : decode jdk_42_method_58_code 29 = .ok (.ireturn, 1) := by decide +kernel
theorem d28_30 : decode jdk_42_method_58_code 30 = .ok (.aload_n 0, 1) := by decide +kernel
theorem d28_31 : decode jdk_42_method_58_code 31 = .ok (.getfield 9, 3) := by decide +kernel
theorem d28_34 : decode jdk_42_method_58_code 34 = .ok (.iload_n 1, 1) := by decide +kernel
theorem d28_35 : decode jdk_42_method_58_code 35 = .ok (.invokestatic 508, 3) := by decide +kernel
theorem pd_21 : parseMethodDescriptor "([BI)I" = some ⟨[(.array .byte), .int], some .int⟩ := by decide +kernel
theorem d28_38 : decode jdk_42_method_58_code 38 = .ok (.ireturn, 1) := by decide +kernel
theorem d29_0 : decode jdk_30_method_1_code 0 = .ok (.aload_n 0, 1) := by decide +kernel
theorem d29_1 : decode jdk_30_method_1_code 1 = .ok (.invokespecial 1, 3) := by decide +kernel
theorem d29_4 : decode jdk_30_method_1_code 4 = .ok (.return_, 1) := by decide +kernel
theorem pn_6 : plainName "java/lang/Record" = true := by first | (simp [plainName, overriddenIn]; done) | decide +kernel
theorem d30_0 : decode prog_29_method_2_code 0 = .ok (.aload_n 0, 1) := by decide +kernel
theorem d30_1 : decode prog_29_method_2_code 1 = .ok (.invokespecial 1, 3) := by decide +kernel
theorem pd_22 : parseMethodDescriptor "()V" = some ⟨[], none⟩ := by decide +kernel
theorem d30_4 : decode prog_29_method_2_code 4 = .ok (.aload_n 0, 1) := by decide +kernel
theorem d30_5 : decode prog_29_method_2_code 5 = .ok (.aload_n 1, 1) := by decide +kernel
theorem d30_6 : decode prog_29_method_2_code 6 = .ok (.putfield 7, 3) := by decide +kernel
theorem d30_9 : decode prog_29_method_2_code 9 = .ok (.aload_n 0, 1) := by decide +kernel
theorem d30_10 : decode prog_29_method_2_code 10 = .ok (.aload_n 2, 1) := by decide +kernel
theorem d30_11 : decode prog_29_method_2_code 11 = .ok (.putfield 13, 3) := by decide +kernel
theorem d30_14 : decode prog_29_method_2_code 14 = .ok (.aload_n 0, 1) := by decide +kernel
theorem d30_15 : decode prog_29_method_2_code 15 = .ok (.lload_n 3, 1) := by decide +kernel
theorem d30_16 : decode prog_29_method_2_code 16 = .ok (.putfield 16, 3) := by decide +kernel
theorem d30_19 : decode prog_29_method_2_code 19 = .ok (.aload_n 0, 1) := by decide +kernel
theorem d30_20 : decode prog_29_method_2_code 20 = .ok (.lload 5, 2) := by decide +kernel
theorem d30_22 : decode prog_29_method_2_code 22 = .ok (.putfield 20, 3) := by decide +kernel
theorem d30_25 : decode prog_29_method_2_code 25 = .ok (.aload_n 0, 1) := by decide +kernel
theorem d30_26 : decode prog_29_method_2_code 26 = .ok (.aload 7, 2) := by decide +kernel
theorem d30_28 : decode prog_29_method_2_code 28 = .ok (.putfield 23, 3) := by decide +kernel
theorem d30_31 : decode prog_29_method_2_code 31 = .ok (.aload_n 0, 1) := by decide +kernel
theorem d30_32 : decode prog_29_method_2_code 32 = .ok (.iload 8, 2) := by decide +kernel
theorem d30_34 : decode prog_29_method_2_code 34 = .ok (.putfield 27, 3) := by decide +kernel
theorem d30_37 : decode prog_29_method_2_code 37 = .ok (.return_, 1) := by decide +kernel
theorem pn_7 : plainName "com/example/collie/collie/engine/MinedPair" = true := by first | (simp [plainName, overriddenIn]; done) | decide +kernel
theorem d31_0 : decode prog_29_method_5_code 0 = .ok (.aload_n 0, 1) := by decide +kernel
theorem d31_1 : decode prog_29_method_5_code 1 = .ok (.getfield 7, 3) := by decide +kernel
theorem d31_4 : decode prog_29_method_5_code 4 = .ok (.aload_n 0, 1) := by decide +kernel
theorem d31_5 : decode prog_29_method_5_code 5 = .ok (.getfield 7, 3) := by decide +kernel
theorem d31_8 : decode prog_29_method_5_code 8 = .ok (.invokevirtual 86, 3) := by decide +kernel
theorem d31_11 : decode prog_29_method_5_code 11 = .ok (.invokevirtual 91, 3) := by decide +kernel
theorem d31_14 : decode prog_29_method_5_code 14 = .ok (.aload_n 0, 1) := by decide +kernel
theorem d31_15 : decode prog_29_method_5_code 15 = .ok (.getfield 13, 3) := by decide +kernel
theorem d31_18 : decode prog_29_method_5_code 18 = .ok (.aload_n 0, 1) := by decide +kernel
theorem d31_19 : decode prog_29_method_5_code 19 = .ok (.getfield 13, 3) := by decide +kernel
theorem d31_22 : decode prog_29_method_5_code 22 = .ok (.invokevirtual 86, 3) := by decide +kernel
theorem d31_25 : decode prog_29_method_5_code 25 = .ok (.invokevirtual 91, 3) := by decide +kernel
theorem d31_28 : decode prog_29_method_5_code 28 = .ok (.if_icmp .ne 7, 3) := by decide +kernel
theorem d31_31 : decode prog_29_method_5_code 31 = .ok (.iconst 1, 1) := by decide +kernel
theorem d31_32 : decode prog_29_method_5_code 32 = .ok (.goto 4, 3) := by decide +kernel
theorem d31_36 : decode prog_29_method_5_code 36 = .ok (.ireturn, 1) := by decide +kernel
theorem d31_35 : decode prog_29_method_5_code 35 = .ok (.iconst 0, 1) := by decide +kernel
theorem pd_23 : parseMethodDescriptor "(II)Ljava/lang/String;" = some ⟨[.int, .int], some (.object "java/lang/String")⟩ := by decide +kernel
theorem pd_24 : parseMethodDescriptor "(Ljava/lang/String;Ljava/lang/String;JJLcom/example/collie/collie/engine/CorrectionType;I)V" = some ⟨[(.object "java/lang/String"), (.object "java/lang/String"), .long, .long, (.object "com/example/collie/collie/engine/CorrectionType"), .int], none⟩ := by decide +kernel
theorem pd_25 : parseMethodDescriptor "(Ljava/lang/String;)I" = some ⟨[(.object "java/lang/String")], some .int⟩ := by decide +kernel
theorem own_efck (m : MethodId) (i : Int32) (n : Int32) (v2 : Value) (hv2 : v2.isRef = true) : entryFrame m #[(.int i), (.int n), v2] 3 = mkF m 0 #[.val (.int i), .val (.int n), .val v2] [] := by
  rcases ref_cases hv2 with rfl | ⟨_, rfl⟩ <;>
  first | (simp [entryFrame, mkF, argsToLocals, Value.category]; done) | rfl
def Qck (Z : State) (i : Int32) (n : Int32) (v2 : Value) (h0 : Heap) (n0 : Nat) (v : Option Value) (h : Heap) (L : List Loc) : Prop := v = some (.int i) ∧ Fr n0 L ∧ h = h0
set_option maxRecDepth 65536 in
set_option maxHeartbeats 40000000 in
theorem rmck (l : Launch) (Z : State) (a0 : Array Value) (G : OwnG Z a0) (ws : List Jvm.Cond) (i : Int32) (n : Int32) (v2 : Value) (h0 : Heap) (n0 : Nat) (O0 : Old Z n0 h0) (P0 : ¬ i < (0 : Int32)) (P1 : i < n) (P2 : v2.isRef = true) :
    MetFree l own_m0 (head1 (Jvm.Cond.code own_m0 jdk_41_method_11_code 3 (some .int) :: ws) ({ frames := 0, cells := 0, slots := 0, locals := 0 } : Room)) (fun a U => a = #[(.int i), (.int n), v2] ∧ Z.Warmed39 U.vm ∧ U.heap = h0) (fun _ _ _ _ _ => True) (fun _ U o U' => ∃ v L, o = .returned v ∧ Qck Z i n v2 h0 n0 v U'.heap L ∧ FrameEnd U o U' L ({ frames := 0, cells := 0, slots := 0, locals := 0 } : Room).cells ({ frames := 0, cells := 0, slots := 0, locals := 0 } : Room).slots) := by
  refine MetFree.of_bodySF (plainFor_of_name pn_0) hisR ?_
  intro p e s m args below meth cD s₁ Bd hml0 hP hK
  obtain ⟨rfl, hZ, hh⟩ := hP
  have hw := G.1
  have hx := Bd.exec
  have hby := Bd.bytes
  have hml : cD.maxLocals = 3 := hml0
  have hown : s.vm.findClass "jdk/internal/util/Preconditions" = some m.cls := findClass_of_methodNamed Bd.named
  have hnm := (name_of_methodNamed Bd.named Bd.method).1
  have hlk := Bd.notSynchronized
  have X0 : Stand p l e ({ frames := 0, cells := 0, slots := 0, locals := 0 } : Room) s m #[(.int i), (.int n), v2] below meth cD s₁ [] 0 0 := Stand.of_body Bd
  have e0 : s₁.heap = h0 := by rw [← hh, Bd.state]; rfl
  have K0 : Keep h0 h0 [] := Keep.refl h0 _
  have Z0 := own_old_le O0
  have N0 := Fr.nil n0
  refine OwnEnd.start (g' := (mkF m 0 #[.val (.int i), .val (.int n), .val v2] [])) (own_efck m i n v2 P2) ?_
  refine OwnEnd.of (S' := s₁.setTop (mkF m 17 #[.val (.int i), .val (.int n), .val v2] [(.int i)])) (fun _ kK => XS.iloadN X0.here hx rfl (hb hby d0_0) rfl (XS.ifNo X0.here hx rfl (hb hby d0_1) rfl ((if0 _ _).trans (flt (P0)).1) (XS.iloadN X0.here hx rfl (hb hby d0_4) rfl (XS.iloadN X0.here hx rfl (hb hby d0_5) rfl (XS.icmpYes X0.here hx rfl (pc0 := 6) (pc' := 16) rfl (hb hby d0_6) rfl (tlt (P1)).1 (by decide) (by decide) (XS.iloadN X0.here hx rfl (hb hby d0_16) rfl kK)))))) ?_
  refine OwnEnd.ret X0 (v := (some (.int i))) (fun h => by rw [Bd.returns] at h; cases h) hlk (fun fs hr => retOut X0 hx Bd.returns rfl (Or.inl ⟨rfl, Or.inl rfl, _, rfl⟩) (hb hby d0_17) hr) (by decide) (by decide) (Q := Qck Z i n v2 h0 n0) e0 ?_
  exact ⟨rfl, N0, rfl⟩

theorem own_efsk (m : MethodId) (i : Int32) (n : Int32) : entryFrame m #[(.int i), (.int n)] 2 = mkF m 0 #[.val (.int i), .val (.int n)] [] := by first | (simp [entryFrame, mkF, argsToLocals, Value.category]; done) | rfl
def Qsk (Z : State) (i : Int32) (n : Int32) (h0 : Heap) (n0 : Nat) (v : Option Value) (h : Heap) (L : List Loc) : Prop := v = none ∧ Fr n0 L ∧ h = h0
set_option maxRecDepth 65536 in
set_option maxHeartbeats 40000000 in
theorem rmsk (l : Launch) (Z : State) (a0 : Array Value) (G : OwnG Z a0) (ws : List Jvm.Cond) (i : Int32) (n : Int32) (h0 : Heap) (n0 : Nat) (O0 : Old Z n0 h0) (P0 : ¬ i < (0 : Int32)) (P1 : i < n) :
    MetFree l own_m1 (head1 (Jvm.Cond.code own_m1 jdk_42_method_155_code 2 none :: ws) ({ frames := 1, cells := 0, slots := 0, locals := 14 } : Room)) (fun a U => a = #[(.int i), (.int n)] ∧ Z.Warmed39 U.vm ∧ U.heap = h0) (fun _ _ _ _ _ => True) (fun _ U o U' => ∃ v L, o = .returned v ∧ Qsk Z i n h0 n0 v U'.heap L ∧ FrameEnd U o U' L ({ frames := 1, cells := 0, slots := 0, locals := 14 } : Room).cells ({ frames := 1, cells := 0, slots := 0, locals := 14 } : Room).slots) := by
  refine MetFree.of_bodySF (plainFor_of_name pn_1) hisR ?_
  intro p e s m args below meth cD s₁ Bd hml0 hP hK
  obtain ⟨rfl, hZ, hh⟩ := hP
  have hw := G.1
  have hx := Bd.exec
  have hby := Bd.bytes
  have hml : cD.maxLocals = 2 := hml0
  have hown : s.vm.findClass "java/lang/String" = some m.cls := findClass_of_methodNamed Bd.named
  have hnm := (name_of_methodNamed Bd.named Bd.method).1
  have hlk := Bd.notSynchronized
  have X0 : Stand p l e ({ frames := 1, cells := 0, slots := 0, locals := 14 } : Room) s m #[(.int i), (.int n)] below meth cD s₁ [] 0 0 := Stand.of_body Bd
  have e0 : s₁.heap = h0 := by rw [← hh, Bd.state]; rfl
  have K0 : Keep h0 h0 [] := Keep.refl h0 _
  have Z0 := own_old_le O0
  have N0 := Fr.nil n0
  obtain ⟨vFM, SFM, PFM⟩ := own_fm G
  refine OwnEnd.start (g' := (mkF m 0 #[.val (.int i), .val (.int n)] [])) (own_efsk m i n) ?_
  refine OwnEnd.of (S' := s₁.setTop (mkF m 2 #[.val (.int i), .val (.int n)] [(.int n), (.int i)])) (fun _ kK => XS.iloadN X0.here hx rfl (hb hby d1_0) rfl (XS.iloadN X0.here hx rfl (hb hby d1_1) rfl kK)) ?_
  obtain ⟨T1, X1, e1, st1⟩ := getS2 X0 hx hZ hown (host := "") (Or.inl (own_w G 94 rfl)) Via.refl e0 (SFM.ext O0.2) (g := (mkF m 2 #[.val (.int i), .val (.int n)] [(.int n), (.int i)])) rfl (hb hby d1_2)
  refine OwnEnd.of (S' := T1.setTop (mkF m 5 #[.val (.int i), .val (.int n)] [vFM, (.int n), (.int i)])) st1 ?_
  obtain ⟨_, _, ⟨T2, L2, k2, n2⟩, -, X2, ⟨Lc2, hQ2, l2, y2, z2⟩, st2⟩ := Jvm.LawKit.callS X1 hx (y := own_m0) hown (mvT hZ (own_w G 96 rfl)) (mvT hZ (own_w G 97 rfl)) (mvT hZ (own_w G 95 rfl)) (mvT hZ (own_w G 98 rfl)) (by decide) (backOf (W := 0) (rmck l Z a0 G [] i n vFM h0 n0 O0 P0 P1 (PFM : vFM.isRef = true)) hZ (own_w G 98 rfl) (own_w G 95 rfl) (by decide) (by decide)) (g := (mkF m 5 #[.val (.int i), .val (.int n)] [vFM, (.int n), (.int i)])) rfl (by rw [hml]; rfl) (argsL := [(.int i), (.int n), vFM]) (rest := []) (lenOf pd_0 rfl) rfl (by show 2 * 0 + _ ≤ _; exact Nat.le_of_eq rfl) (hb hby d1_5) (fun _ _ => ⟨rfl, e1, (by decide : 0 + 0 ≤ _), (by decide : 0 + 0 ≤ _)⟩)
  dsimp only [Pt.U, Pt.locs, Pt.cells, Pt.slots] at X2 l2 y2 z2 st2 hQ2
  subst l2 y2 z2
  obtain ⟨rfl, N2q, eh2⟩ := hQ2
  have N2 := Fr.app N0 N2q
  refine OwnEnd.of (S' := T2.setTop (mkF m 8 #[.val (.int i), .val (.int n)] [(.int i)])) st2 ?_
  refine OwnEnd.of (S' := T2.setTop (mkF m 9 #[.val (.int i), .val (.int n)] [])) (fun _ kK => XS.pop X2.here hx rfl (hb hby d1_8) rfl rfl kK) ?_
  refine OwnEnd.ret X2 (v := none) (fun _ => rfl) hlk (fun fs hr => X2.returnOut hx Bd.returns (hb hby d1_9) hr) (by decide) (by decide) (Q := Qsk Z i n h0 n0) eh2 ?_
  exact ⟨rfl, N2, rfl⟩

theorem own_efil0 (m : MethodId) (x0 : Addr) : entryFrame m #[(.ref x0)] 1 = mkF m 0 #[.val (.ref x0)] [] := by first | (simp [entryFrame, mkF, argsToLocals, Value.category]; done) | rfl
set_option maxRecDepth 65536 in
set_option maxHeartbeats 40000000 in
theorem rmil0 (l : Launch) (Z : State) (a0 : Array Value) (G : OwnG Z a0) (ws : List Jvm.Cond) (x0 : Addr) (h0 : Heap) (n0 : Nat) (O0 : Old Z n0 h0) (P0 : Fld Z h0 x0 "java/lang/String" "coder" "B" (.int (0 : Int32))) :
    MetFree l own_m2 (head1 (Jvm.Cond.code own_m2 jdk_42_method_154_code 1 (some .boolean) :: ws) ({ frames := 0, cells := 0, slots := 0, locals := 0 } : Room)) (fun a U => a = #[(.ref x0)] ∧ Z.Warmed39 U.vm ∧ U.heap = h0) (fun _ _ _ _ _ => True) (fun _ U o U' => ∃ v L, o = .returned v ∧ (own_Qint (1 : Int32)) h0 n0 v U'.heap L ∧ FrameEnd U o U' L ({ frames := 0, cells := 0, slots := 0, locals := 0 } : Room).cells ({ frames := 0, cells := 0, slots := 0, locals := 0 } : Room).slots) := by
  refine MetFree.of_bodySF (plainFor_of_name pn_1) hisR ?_
  intro p e s m args below meth cD s₁ Bd hml0 hP hK
  obtain ⟨rfl, hZ, hh⟩ := hP
  have hw := G.1
  have hx := Bd.exec
  have hby := Bd.bytes
  have hml : cD.maxLocals = 1 := hml0
  have hown : s.vm.findClass "java/lang/String" = some m.cls := findClass_of_methodNamed Bd.named
  have hnm := (name_of_methodNamed Bd.named Bd.method).1
  have hlk := Bd.notSynchronized
  have X0 : Stand p l e ({ frames := 0, cells := 0, slots := 0, locals := 0 } : Room) s m #[(.ref x0)] below meth cD s₁ [] 0 0 := Stand.of_body Bd
  have e0 : s₁.heap = h0 := by rw [← hh, Bd.state]; rfl
  have lt0 := own_ltN' P0.lt
  have K0 : Keep h0 h0 [] := Keep.refl h0 _
  have Z0 := own_old_le O0
  have N0 := Fr.nil n0
  obtain ⟨zCS, SCS, PCS⟩ := own_cs G
  refine OwnEnd.start (g' := (mkF m 0 #[.val (.ref x0)] [])) (own_efil0 m x0) ?_
  obtain ⟨T1, X1, e1, st1⟩ := getS2 X0 hx hZ hown (host := "") (Or.inl (own_w G 24 rfl)) Via.refl e0 (SCS.ext O0.2) (g := (mkF m 0 #[.val (.ref x0)] [])) rfl (hb hby d2_0)
  refine OwnEnd.of (S' := T1.setTop (mkF m 3 #[.val (.ref x0)] [(.int zCS)])) st1 ?_
  refine OwnEnd.of (S' := T1.setTop (mkF m 7 #[.val (.ref x0)] [(.ref x0)])) (fun _ kK => XS.ifNo X1.here hx rfl (hb hby d2_3) rfl ((if0 _ _).trans (feq (PCS)).1) (XS.aloadN X1.here hx rfl (hb hby d2_6) rfl rfl kK)) ?_
  obtain ⟨T2, X2, e2, st2⟩ := getF X1 hx hZ hown (host := "") (Or.inl (own_w G 36 rfl)) Via.refl e1 P0 (g := (mkF m 7 #[.val (.ref x0)] [(.ref x0)])) rfl rfl (hb hby d2_7)
  refine OwnEnd.of (S' := T2.setTop (mkF m 10 #[.val (.ref x0)] [(.int (0 : Int32))])) st2 ?_
  refine OwnEnd.of (S' := T2.setTop (mkF m 18 #[.val (.ref x0)] [(.int (1 : Int32))])) (fun _ kK => XS.ifNo X2.here hx rfl (hb hby d2_10) rfl ((if0 _ _).trans (teq ((by decide : (0 : Int32) = (0 : Int32)))).2) (XS.iconst X2.here hx rfl (hb hby d2_13) (XS.goto X2.here hx rfl (pc0 := 14) (pc' := 18) rfl (hb hby d2_14) (by decide) (by decide) kK))) ?_
  refine OwnEnd.ret X2 (v := (some (.int (nar .boolean (1 : Int32))))) (fun h => by rw [Bd.returns] at h; cases h) hlk (fun fs hr => retN X2 hx (t := .boolean) Bd.returns (by simp) (hb hby d2_18) hr) (by decide) (by decide) (Q := (own_Qint (1 : Int32)) h0 n0) e2 ?_
  exact ⟨rfl, N0, rfl⟩

theorem own_efcdr0 (m : MethodId) (x0 : Addr) : entryFrame m #[(.ref x0)] 1 = mkF m 0 #[.val (.ref x0)] [] := by first | (simp [entryFrame, mkF, argsToLocals, Value.category]; done) | rfl
set_option maxRecDepth 65536 in
set_option maxHeartbeats 40000000 in
theorem rmcdr0 (l : Launch) (Z : State) (a0 : Array Value) (G : OwnG Z a0) (ws : List Jvm.Cond) (x0 : Addr) (h0 : Heap) (n0 : Nat) (O0 : Old Z n0 h0) (P0 : Fld Z h0 x0 "java/lang/String" "coder" "B" (.int (0 : Int32))) :
    MetFree l own_m3 (head1 (Jvm.Cond.code own_m3 jdk_42_method_152_code 1 (some .byte) :: ws) ({ frames := 0, cells := 0, slots := 0, locals := 0 } : Room)) (fun a U => a = #[(.ref x0)] ∧ Z.Warmed39 U.vm ∧ U.heap = h0) (fun _ _ _ _ _ => True) (fun _ U o U' => ∃ v L, o = .returned v ∧ (own_Qint (0 : Int32)) h0 n0 v U'.heap L ∧ FrameEnd U o U' L ({ frames := 0, cells := 0, slots := 0, locals := 0 } : Room).cells ({ frames := 0, cells := 0, slots := 0, locals := 0 } : Room).slots) := by
  refine MetFree.of_bodySF (plainFor_of_name pn_1) hisR ?_
  intro p e s m args below meth cD s₁ Bd hml0 hP hK
  obtain ⟨rfl, hZ, hh⟩ := hP
  have hw := G.1
  have hx := Bd.exec
  have hby := Bd.bytes
  have hml : cD.maxLocals = 1 := hml0
  have hown : s.vm.findClass "java/lang/String" = some m.cls := findClass_of_methodNamed Bd.named
  have hnm := (name_of_methodNamed Bd.named Bd.method).1
  have hlk := Bd.notSynchronized
  have X0 : Stand p l e ({ frames := 0, cells := 0, slots := 0, locals := 0 } : Room) s m #[(.ref x0)] below meth cD s₁ [] 0 0 := Stand.of_body Bd
  have e0 : s₁.heap = h0 := by rw [← hh, Bd.state]; rfl
  have lt0 := own_ltN' P0.lt
  have K0 : Keep h0 h0 [] := Keep.refl h0 _
  have Z0 := own_old_le O0
  have N0 := Fr.nil n0
  obtain ⟨zCS, SCS, PCS⟩ := own_cs G
  refine OwnEnd.start (g' := (mkF m 0 #[.val (.ref x0)] [])) (own_efcdr0 m x0) ?_
  obtain ⟨T1, X1, e1, st1⟩ := getS2 X0 hx hZ hown (host := "") (Or.inl (own_w G 24 rfl)) Via.refl e0 (SCS.ext O0.2) (g := (mkF m 0 #[.val (.ref x0)] [])) rfl (hb hby d3_0)
  refine OwnEnd.of (S' := T1.setTop (mkF m 3 #[.val (.ref x0)] [(.int zCS)])) st1 ?_
  refine OwnEnd.of (S' := T1.setTop (mkF m 7 #[.val (.ref x0)] [(.ref x0)])) (fun _ kK => XS.ifNo X1.here hx rfl (hb hby d3_3) rfl ((if0 _ _).trans (feq (PCS)).1) (XS.aloadN X1.here hx rfl (hb hby d3_6) rfl rfl kK)) ?_
  obtain ⟨T2, X2, e2, st2⟩ := getF X1 hx hZ hown (host := "") (Or.inl (own_w G 36 rfl)) Via.refl e1 P0 (g := (mkF m 7 #[.val (.ref x0)] [(.ref x0)])) rfl rfl (hb hby d3_7)
  refine OwnEnd.of (S' := T2.setTop (mkF m 10 #[.val (.ref x0)] [(.int (0 : Int32))])) st2 ?_
  refine OwnEnd.of (S' := T2.setTop (mkF m 14 #[.val (.ref x0)] [(.int (0 : Int32))])) (fun _ kK => XS.goto X2.here hx rfl (pc0 := 10) (pc' := 14) rfl (hb hby d3_10) (by decide) (by decide) kK) ?_
  refine OwnEnd.ret X2 (v := (some (.int (nar .byte (0 : Int32))))) (fun h => by rw [Bd.returns] at h; cases h) hlk (fun fs hr => retN X2 hx (t := .byte) Bd.returns (by simp) (hb hby d3_14) hr) (by decide) (by decide) (Q := (own_Qint (0 : Int32)) h0 n0) e2 ?_
  exact ⟨rfl, N0, rfl⟩

theorem own_efil1 (m : MethodId) (x0 : Addr) : entryFrame m #[(.ref x0)] 1 = mkF m 0 #[.val (.ref x0)] [] := by first | (simp [entryFrame, mkF, argsToLocals, Value.category]; done) | rfl
set_option maxRecDepth 65536 in
set_option maxHeartbeats 40000000 in
theorem rmil1 (l : Launch) (Z : State) (a0 : Array Value) (G : OwnG Z a0) (ws : List Jvm.Cond) (x0 : Addr) (h0 : Heap) (n0 : Nat) (O0 : Old Z n0 h0) (P0 : Fld Z h0 x0 "java/lang/String" "coder" "B" (.int (1 : Int32))) :
    MetFree l own_m2 (head1 (Jvm.Cond.code own_m2 jdk_42_method_154_code 1 (some .boolean) :: ws) ({ frames := 0, cells := 0, slots := 0, locals := 0 } : Room)) (fun a U => a = #[(.ref x0)] ∧ Z.Warmed39 U.vm ∧ U.heap = h0) (fun _ _ _ _ _ => True) (fun _ U o U' => ∃ v L, o = .returned v ∧ (own_Qint (0 : Int32)) h0 n0 v U'.heap L ∧ FrameEnd U o U' L ({ frames := 0, cells := 0, slots := 0, locals := 0 } : Room).cells ({ frames := 0, cells := 0, slots := 0, locals := 0 } : Room).slots) := by
  refine MetFree.of_bodySF (plainFor_of_name pn_1) hisR ?_
  intro p e s m args below meth cD s₁ Bd hml0 hP hK
  obtain ⟨rfl, hZ, hh⟩ := hP
  have hw := G.1
  have hx := Bd.exec
  have hby := Bd.bytes
  have hml : cD.maxLocals = 1 := hml0
  have hown : s.vm.findClass "java/lang/String" = some m.cls := findClass_of_methodNamed Bd.named
  have hnm := (name_of_methodNamed Bd.named Bd.method).1
  have hlk := Bd.notSynchronized
  have X0 : Stand p l e ({ frames := 0, cells := 0, slots := 0, locals := 0 } : Room) s m #[(.ref x0)] below meth cD s₁ [] 0 0 := Stand.of_body Bd
  have e0 : s₁.heap = h0 := by rw [← hh, Bd.state]; rfl
  have lt0 := own_ltN' P0.lt
  have K0 : Keep h0 h0 [] := Keep.refl h0 _
  have Z0 := own_old_le O0
  have N0 := Fr.nil n0
  obtain ⟨zCS, SCS, PCS⟩ := own_cs G
  refine OwnEnd.start (g' := (mkF m 0 #[.val (.ref x0)] [])) (own_efil1 m x0) ?_
  obtain ⟨T1, X1, e1, st1⟩ := getS2 X0 hx hZ hown (host := "") (Or.inl (own_w G 24 rfl)) Via.refl e0 (SCS.ext O0.2) (g := (mkF m 0 #[.val (.ref x0)] [])) rfl (hb hby d2_0)
  refine OwnEnd.of (S' := T1.setTop (mkF m 3 #[.val (.ref x0)] [(.int zCS)])) st1 ?_
  refine OwnEnd.of (S' := T1.setTop (mkF m 7 #[.val (.ref x0)] [(.ref x0)])) (fun _ kK => XS.ifNo X1.here hx rfl (hb hby d2_3) rfl ((if0 _ _).trans (feq (PCS)).1) (XS.aloadN X1.here hx rfl (hb hby d2_6) rfl rfl kK)) ?_
  obtain ⟨T2, X2, e2, st2⟩ := getF X1 hx hZ hown (host := "") (Or.inl (own_w G 36 rfl)) Via.refl e1 P0 (g := (mkF m 7 #[.val (.ref x0)] [(.ref x0)])) rfl rfl (hb hby d2_7)
  refine OwnEnd.of (S' := T2.setTop (mkF m 10 #[.val (.ref x0)] [(.int (1 : Int32))])) st2 ?_
  refine OwnEnd.of (S' := T2.setTop (mkF m 18 #[.val (.ref x0)] [(.int (0 : Int32))])) (fun _ kK => XS.ifYes X2.here hx rfl (pc0 := 10) (pc' := 17) rfl (hb hby d2_10) rfl ((if0 _ _).trans (feq ((by decide : ¬ ((1 : Int32) = (0 : Int32))))).2) (by decide) (by decide) (XS.iconst X2.here hx rfl (hb hby d2_17) kK)) ?_
  refine OwnEnd.ret X2 (v := (some (.int (nar .boolean (0 : Int32))))) (fun h => by rw [Bd.returns] at h; cases h) hlk (fun fs hr => retN X2 hx (t := .boolean) Bd.returns (by simp) (hb hby d2_18) hr) (by decide) (by decide) (Q := (own_Qint (0 : Int32)) h0 n0) e2 ?_
  exact ⟨rfl, N0, rfl⟩

theorem own_efcdr1 (m : MethodId) (x0 : Addr) : entryFrame m #[(.ref x0)] 1 = mkF m 0 #[.val (.ref x0)] [] := by first | (simp [entryFrame, mkF, argsToLocals, Value.category]; done) | rfl
set_option maxRecDepth 65536 in
set_option maxHeartbeats 40000000 in
theorem rmcdr1 (l : Launch) (Z : State) (a0 : Array Value) (G : OwnG Z a0) (ws : List Jvm.Cond) (x0 : Addr) (h0 : Heap) (n0 : Nat) (O0 : Old Z n0 h0) (P0 : Fld Z h0 x0 "java/lang/String" "coder" "B" (.int (1 : Int32))) :
    MetFree l own_m3 (head1 (Jvm.Cond.code own_m3 jdk_42_method_152_code 1 (some .byte) :: ws) ({ frames := 0, cells := 0, slots := 0, locals := 0 } : Room)) (fun a U => a = #[(.ref x0)] ∧ Z.Warmed39 U.vm ∧ U.heap = h0) (fun _ _ _ _ _ => True) (fun _ U o U' => ∃ v L, o = .returned v ∧ (own_Qint (1 : Int32)) h0 n0 v U'.heap L ∧ FrameEnd U o U' L ({ frames := 0, cells := 0, slots := 0, locals := 0 } : Room).cells ({ frames := 0, cells := 0, slots := 0, locals := 0 } : Room).slots) := by
  refine MetFree.of_bodySF (plainFor_of_name pn_1) hisR ?_
  intro p e s m args below meth cD s₁ Bd hml0 hP hK
  obtain ⟨rfl, hZ, hh⟩ := hP
  have hw := G.1
  have hx := Bd.exec
  have hby := Bd.bytes
  have hml : cD.maxLocals = 1 := hml0
  have hown : s.vm.findClass "java/lang/String" = some m.cls := findClass_of_methodNamed Bd.named
  have hnm := (name_of_methodNamed Bd.named Bd.method).1
  have hlk := Bd.notSynchronized
  have X0 : Stand p l e ({ frames := 0, cells := 0, slots := 0, locals := 0 } : Room) s m #[(.ref x0)] below meth cD s₁ [] 0 0 := Stand.of_body Bd
  have e0 : s₁.heap = h0 := by rw [← hh, Bd.state]; rfl
  have lt0 := own_ltN' P0.lt
  have K0 : Keep h0 h0 [] := Keep.refl h0 _
  have Z0 := own_old_le O0
  have N0 := Fr.nil n0
  obtain ⟨zCS, SCS, PCS⟩ := own_cs G
  refine OwnEnd.start (g' := (mkF m 0 #[.val (.ref x0)] [])) (own_efcdr1 m x0) ?_
  obtain ⟨T1, X1, e1, st1⟩ := getS2 X0 hx hZ hown (host := "") (Or.inl (own_w G 24 rfl)) Via.refl e0 (SCS.ext O0.2) (g := (mkF m 0 #[.val (.ref x0)] [])) rfl (hb hby d3_0)
  refine OwnEnd.of (S' := T1.setTop (mkF m 3 #[.val (.ref x0)] [(.int zCS)])) st1 ?_
  refine OwnEnd.of (S' := T1.setTop (mkF m 7 #[.val (.ref x0)] [(.ref x0)])) (fun _ kK => XS.ifNo X1.here hx rfl (hb hby d3_3) rfl ((if0 _ _).trans (feq (PCS)).1) (XS.aloadN X1.here hx rfl (hb hby d3_6) rfl rfl kK)) ?_
  obtain ⟨T2, X2, e2, st2⟩ := getF X1 hx hZ hown (host := "") (Or.inl (own_w G 36 rfl)) Via.refl e1 P0 (g := (mkF m 7 #[.val (.ref x0)] [(.ref x0)])) rfl rfl (hb hby d3_7)
  refine OwnEnd.of (S' := T2.setTop (mkF m 10 #[.val (.ref x0)] [(.int (1 : Int32))])) st2 ?_
  refine OwnEnd.of (S' := T2.setTop (mkF m 14 #[.val (.ref x0)] [(.int (1 : Int32))])) (fun _ kK => XS.goto X2.here hx rfl (pc0 := 10) (pc' := 14) rfl (hb hby d3_10) (by decide) (by decide) kK) ?_
  refine OwnEnd.ret X2 (v := (some (.int (nar .byte (1 : Int32))))) (fun h => by rw [Bd.returns] at h; cases h) hlk (fun fs hr => retN X2 hx (t := .byte) Bd.returns (by simp) (hb hby d3_14) hr) (by decide) (by decide) (Q := (own_Qint (1 : Int32)) h0 n0) e2 ?_
  exact ⟨rfl, N0, rfl⟩

theorem own_efln1 (m : MethodId) (x0 : Addr) : entryFrame m #[(.ref x0)] 1 = mkF m 0 #[.val (.ref x0)] [] := by first | (simp [entryFrame, mkF, argsToLocals, Value.category]; done) | rfl
set_option maxRecDepth 65536 in
set_option maxHeartbeats 40000000 in
theorem rmln1 (l : Launch) (Z : State) (a0 : Array Value) (G : OwnG Z a0) (ws : List Jvm.Cond) (x0 : Addr) (t : Addr) (kb : ClassId) (N : Int32) (vs : List Value) (dv : Value) (M : Int32) (h0 : Heap) (n0 : Nat) (O0 : Old Z n0 h0) (P0 : Exa Z h0 x0 "java/lang/String") (P1 : Fld Z h0 x0 "java/lang/String" "value" "[B" (.ref t)) (P2 : Fld Z h0 x0 "java/lang/String" "coder" "B" (.int (1 : Int32))) (P3 : Arv Z h0 t kb .byte N vs dv) (P4 : N >>> ((1 : Int32) &&& 31) = M) :
    MetFree l own_m4 (head1 (Jvm.Cond.code own_m4 jdk_42_method_54_code 1 (some .int) :: ws) ({ frames := 1, cells := 0, slots := 0, locals := 13 } : Room)) (fun a U => a = #[(.ref x0)] ∧ Z.Warmed39 U.vm ∧ U.heap = h0) (fun _ _ _ _ _ => True) (fun _ U o U' => ∃ v L, o = .returned v ∧ (own_Qint M) h0 n0 v U'.heap L ∧ FrameEnd U o U' L ({ frames := 1, cells := 0, slots := 0, locals := 13 } : Room).cells ({ frames := 1, cells := 0, slots := 0, locals := 13 } : Room).slots) := by
  refine MetFree.of_bodySF (plainFor_of_name pn_1) hisR ?_
  intro p e s m args below meth cD s₁ Bd hml0 hP hK
  obtain ⟨rfl, hZ, hh⟩ := hP
  have hw := G.1
  have hx := Bd.exec
  have hby := Bd.bytes
  have hml : cD.maxLocals = 1 := hml0
  have hown : s.vm.findClass "java/lang/String" = some m.cls := findClass_of_methodNamed Bd.named
  have hnm := (name_of_methodNamed Bd.named Bd.method).1
  have hlk := Bd.notSynchronized
  have X0 : Stand p l e ({ frames := 1, cells := 0, slots := 0, locals := 13 } : Room) s m #[(.ref x0)] below meth cD s₁ [] 0 0 := Stand.of_body Bd
  have e0 : s₁.heap = h0 := by rw [← hh, Bd.state]; rfl
  have lt0 := own_ltN' P0.lt
  have lt1 := own_ltN' P1.lt
  have lt2 := own_ltN' P2.lt
  have lt3 := own_ltN' P3.lt
  have K0 : Keep h0 h0 [] := Keep.refl h0 _
  have Z0 := own_old_le O0
  have N0 := Fr.nil n0
  refine OwnEnd.start (g' := (mkF m 0 #[.val (.ref x0)] [])) (own_efln1 m x0) ?_
  refine OwnEnd.of (S' := s₁.setTop (mkF m 1 #[.val (.ref x0)] [(.ref x0)])) (fun _ kK => XS.aloadN X0.here hx rfl (hb hby d4_0) rfl rfl kK) ?_
  obtain ⟨T1, X1, e1, st1⟩ := getF X0 hx hZ hown (host := "") (Or.inl (own_w G 38 rfl)) Via.refl e0 P1 (g := (mkF m 1 #[.val (.ref x0)] [(.ref x0)])) rfl rfl (hb hby d4_1)
  refine OwnEnd.of (S' := T1.setTop (mkF m 4 #[.val (.ref x0)] [(.ref t)])) st1 ?_
  obtain ⟨cl2, Ar2, q2, S2, N2', H2, G2⟩ := id P3
  refine OwnEnd.of (S' := T1.setTop (mkF m 5 #[.val (.ref x0)] [(.int N)])) (fun _ kK => X1.arraylength hx (by rw [e1]; exact Ar2.1) (State.isArrayOf_alike hZ.alike Ar2.2.1) (g := (mkF m 4 #[.val (.ref x0)] [(.ref t)])) rfl rfl (hb hby d4_4) _ (by rw [len_of S2 N2']; exact kK)) ?_
  refine OwnEnd.of (S' := T1.setTop (mkF m 6 #[.val (.ref x0)] [(.ref x0), (.int N)])) (fun _ kK => XS.aloadN X1.here hx rfl (hb hby d4_5) rfl rfl kK) ?_
  obtain ⟨cq3, kq3, q3a, q3b, q3c⟩ := isOf hZ e1 P0
  obtain ⟨_, _, ⟨T3, L3, k3, n3⟩, -, X3, ⟨Lc3, hQ3, l3, y3, z3⟩, st3⟩ := X1.virtualBack hx (y := own_m3) (z := own_m3) hown (mvT hZ (own_w G 72 rfl)) (mvT hZ (own_w G 73 rfl)) (notFace_of_selects (args := #[]) (mvT hZ (own_w G 75 rfl))) (mvT hZ (own_w G 75 rfl)) (mvT hZ (own_w G 74 rfl)) (by decide) (backOf (W := 1) (rmcdr1 l Z a0 G [] x0 h0 n0 O0 P2) hZ (own_w G 76 rfl) (own_w G 12 rfl) (by decide) (by decide)) q3a q3c (g := (mkF m 6 #[.val (.ref x0)] [(.ref x0), (.int N)])) rfl (by rw [hml]; rfl) (Steps.refl _) (argsL := []) (rest := [(.int N)]) (lenOf pd_1 rfl) rfl (by show 2 * 0 + _ ≤ _; exact Nat.le_of_eq rfl) (hb hby d4_6) (fun _ _ => ⟨rfl, e1, (by decide : 0 + 0 ≤ _), (by decide : 0 + 0 ≤ _)⟩)
  dsimp only [Pt.U, Pt.locs, Pt.cells, Pt.slots] at X3 l3 y3 z3 st3 hQ3
  subst l3 y3 z3
  obtain ⟨rfl, N3q, eh3⟩ := hQ3
  have N3 := Fr.app N0 N3q
  refine OwnEnd.tr (S' := T3.setTop (mkF m 9 #[.val (.ref x0)] [(.int (1 : Int32)), (.int N)])) st3 ?_
  refine OwnEnd.of (S' := T3.setTop (mkF m 10 #[.val (.ref x0)] [(.int (N >>> ((1 : Int32) &&& 31)))])) (fun _ kK => XS.ishr X3.here hx rfl (hb hby d4_9) rfl kK) ?_
  refine OwnEnd.ret X3 (v := (some (.int (N >>> ((1 : Int32) &&& 31))))) (fun h => by rw [Bd.returns] at h; cases h) hlk (fun fs hr => retOut X3 hx Bd.returns rfl (Or.inl ⟨rfl, Or.inl rfl, _, rfl⟩) (hb hby d4_10) hr) (by decide) (by decide) (Q := (own_Qint M) h0 n0) eh3 ?_
  exact ⟨(congrArg (fun z => some (Value.int z)) P4), N3, rfl⟩

theorem own_efln0 (m : MethodId) (x0 : Addr) : entryFrame m #[(.ref x0)] 1 = mkF m 0 #[.val (.ref x0)] [] := by first | (simp [entryFrame, mkF, argsToLocals, Value.category]; done) | rfl
set_option maxRecDepth 65536 in
set_option maxHeartbeats 40000000 in
theorem rmln0 (l : Launch) (Z : State) (a0 : Array Value) (G : OwnG Z a0) (ws : List Jvm.Cond) (x0 : Addr) (t : Addr) (kb : ClassId) (N : Int32) (vs : List Value) (dv : Value) (M : Int32) (h0 : Heap) (n0 : Nat) (O0 : Old Z n0 h0) (P0 : Exa Z h0 x0 "java/lang/String") (P1 : Fld Z h0 x0 "java/lang/String" "value" "[B" (.ref t)) (P2 : Fld Z h0 x0 "java/lang/String" "coder" "B" (.int (0 : Int32))) (P3 : Arv Z h0 t kb .byte N vs dv) (P4 : N >>> ((0 : Int32) &&& 31) = M) :
    MetFree l own_m4 (head1 (Jvm.Cond.code own_m4 jdk_42_method_54_code 1 (some .int) :: ws) ({ frames := 1, cells := 0, slots := 0, locals := 13 } : Room)) (fun a U => a = #[(.ref x0)] ∧ Z.Warmed39 U.vm ∧ U.heap = h0) (fun _ _ _ _ _ => True) (fun _ U o U' => ∃ v L, o = .returned v ∧ (own_Qint M) h0 n0 v U'.heap L ∧ FrameEnd U o U' L ({ frames := 1, cells := 0, slots := 0, locals := 13 } : Room).cells ({ frames := 1, cells := 0, slots := 0, locals := 13 } : Room).slots) := by
  refine MetFree.of_bodySF (plainFor_of_name pn_1) hisR ?_
  intro p e s m args below meth cD s₁ Bd hml0 hP hK
  obtain ⟨rfl, hZ, hh⟩ := hP
  have hw := G.1
  have hx := Bd.exec
  have hby := Bd.bytes
  have hml : cD.maxLocals = 1 := hml0
  have hown : s.vm.findClass "java/lang/String" = some m.cls := findClass_of_methodNamed Bd.named
  have hnm := (name_of_methodNamed Bd.named Bd.method).1
  have hlk := Bd.notSynchronized
  have X0 : Stand p l e ({ frames := 1, cells := 0, slots := 0, locals := 13 } : Room) s m #[(.ref x0)] below meth cD s₁ [] 0 0 := Stand.of_body Bd
  have e0 : s₁.heap = h0 := by rw [← hh, Bd.state]; rfl
  have lt0 := own_ltN' P0.lt
  have lt1 := own_ltN' P1.lt
  have lt2 := own_ltN' P2.lt
  have lt3 := own_ltN' P3.lt
  have K0 : Keep h0 h0 [] := Keep.refl h0 _
  have Z0 := own_old_le O0
  have N0 := Fr.nil n0
  refine OwnEnd.start (g' := (mkF m 0 #[.val (.ref x0)] [])) (own_efln0 m x0) ?_
  refine OwnEnd.of (S' := s₁.setTop (mkF m 1 #[.val (.ref x0)] [(.ref x0)])) (fun _ kK => XS.aloadN X0.here hx rfl (hb hby d4_0) rfl rfl kK) ?_
  obtain ⟨T1, X1, e1, st1⟩ := getF X0 hx hZ hown (host := "") (Or.inl (own_w G 38 rfl)) Via.refl e0 P1 (g := (mkF m 1 #[.val (.ref x0)] [(.ref x0)])) rfl rfl (hb hby d4_1)
  refine OwnEnd.of (S' := T1.setTop (mkF m 4 #[.val (.ref x0)] [(.ref t)])) st1 ?_
  obtain ⟨cl2, Ar2, q2, S2, N2', H2, G2⟩ := id P3
  refine OwnEnd.of (S' := T1.setTop (mkF m 5 #[.val (.ref x0)] [(.int N)])) (fun _ kK => X1.arraylength hx (by rw [e1]; exact Ar2.1) (State.isArrayOf_alike hZ.alike Ar2.2.1) (g := (mkF m 4 #[.val (.ref x0)] [(.ref t)])) rfl rfl (hb hby d4_4) _ (by rw [len_of S2 N2']; exact kK)) ?_
  refine OwnEnd.of (S' := T1.setTop (mkF m 6 #[.val (.ref x0)] [(.ref x0), (.int N)])) (fun _ kK => XS.aloadN X1.here hx rfl (hb hby d4_5) rfl rfl kK) ?_
  obtain ⟨cq3, kq3, q3a, q3b, q3c⟩ := isOf hZ e1 P0
  obtain ⟨_, _, ⟨T3, L3, k3, n3⟩, -, X3, ⟨Lc3, hQ3, l3, y3, z3⟩, st3⟩ := X1.virtualBack hx (y := own_m3) (z := own_m3) hown (mvT hZ (own_w G 72 rfl)) (mvT hZ (own_w G 73 rfl)) (notFace_of_selects (args := #[]) (mvT hZ (own_w G 75 rfl))) (mvT hZ (own_w G 75 rfl)) (mvT hZ (own_w G 74 rfl)) (by decide) (backOf (W := 1) (rmcdr0 l Z a0 G [] x0 h0 n0 O0 P2) hZ (own_w G 76 rfl) (own_w G 12 rfl) (by decide) (by decide)) q3a q3c (g := (mkF m 6 #[.val (.ref x0)] [(.ref x0), (.int N)])) rfl (by rw [hml]; rfl) (Steps.refl _) (argsL := []) (rest := [(.int N)]) (lenOf pd_1 rfl) rfl (by show 2 * 0 + _ ≤ _; exact Nat.le_of_eq rfl) (hb hby d4_6) (fun _ _ => ⟨rfl, e1, (by decide : 0 + 0 ≤ _), (by decide : 0 + 0 ≤ _)⟩)
  dsimp only [Pt.U, Pt.locs, Pt.cells, Pt.slots] at X3 l3 y3 z3 st3 hQ3
  subst l3 y3 z3
  obtain ⟨rfl, N3q, eh3⟩ := hQ3
  have N3 := Fr.app N0 N3q
  refine OwnEnd.tr (S' := T3.setTop (mkF m 9 #[.val (.ref x0)] [(.int (0 : Int32)), (.int N)])) st3 ?_
  refine OwnEnd.of (S' := T3.setTop (mkF m 10 #[.val (.ref x0)] [(.int (N >>> ((0 : Int32) &&& 31)))])) (fun _ kK => XS.ishr X3.here hx rfl (hb hby d4_9) rfl kK) ?_
  refine OwnEnd.ret X3 (v := (some (.int (N >>> ((0 : Int32) &&& 31))))) (fun h => by rw [Bd.returns] at h; cases h) hlk (fun fs hr => retOut X3 hx Bd.returns rfl (Or.inl ⟨rfl, Or.inl rfl, _, rfl⟩) (hb hby d4_10) hr) (by decide) (by decide) (Q := (own_Qint M) h0 n0) eh3 ?_
  exact ⟨(congrArg (fun z => some (Value.int z)) P4), N3, rfl⟩

set_option maxRecDepth 65536 in
set_option maxHeartbeats 40000000 in
theorem rmlnB (l : Launch) (Z : State) (a0 : Array Value) (G : OwnG Z a0) (ws : List Jvm.Cond) (x0 t : Addr) (kb : ClassId) (N : Int32) (vs : List Value) (dv : Value) (cd : Int32) (cs : List Int32) (h0 : Heap) (n0 : Nat) (O0 : Old Z n0 h0) (P0 : Exa Z h0 x0 "java/lang/String") (P1 : Fld Z h0 x0 "java/lang/String" "value" "[B" (.ref t)) (P2 : Fld Z h0 x0 "java/lang/String" "coder" "B" (.int cd)) (P3 : Arv Z h0 t kb .byte N vs dv) (H : StrChars.Road.CodA cs cd N vs) (HR : ∀ c ∈ cs, ¬ c < (0 : Int32) ∧ ¬ (65535 : Int32) < c) (hl : cs.length ≤ 4000) : MetFree l own_m4 (head1 (Jvm.Cond.code own_m4 jdk_42_method_54_code 1 (some .int) :: ws) ({ frames := 1, cells := 0, slots := 0, locals := 13 } : Room)) (fun a U => a = #[(.ref x0)] ∧ Z.Warmed39 U.vm ∧ U.heap = h0) (fun _ _ _ _ _ => True) (fun _ U o U' => ∃ v L, o = .returned v ∧ own_Qint (Int32.ofNat cs.length) h0 n0 v U'.heap L ∧ FrameEnd U o U' L ({ frames := 1, cells := 0, slots := 0, locals := 13 } : Room).cells ({ frames := 1, cells := 0, slots := 0, locals := 13 } : Room).slots) := by
  rcases H with ⟨rfl, rfl, rfl, -⟩ | ⟨rfl, rfl, rfl, -⟩
  · exact rmln0 l Z a0 G ws x0 t kb _ _ dv _ h0 n0 O0 P0 P1 P2 P3 (own_shr0 _)
  · exact rmln1 l Z a0 G ws x0 t kb _ _ dv _ h0 n0 O0 P0 P1 P2 P3 (own_half hl)

theorem own_efcl (m : MethodId) (t : Addr) (i : Int32) : entryFrame m #[(.ref t), (.int i)] 2 = mkF m 0 #[.val (.ref t), .val (.int i)] [] := by first | (simp [entryFrame, mkF, argsToLocals, Value.category]; done) | rfl
set_option maxRecDepth 65536 in
set_option maxHeartbeats 40000000 in
theorem rmcl (l : Launch) (Z : State) (a0 : Array Value) (G : OwnG Z a0) (ws : List Jvm.Cond) (t : Addr) (kb : ClassId) (N : Int32) (vs : List Value) (dv : Value) (i : Int32) (c : Int32) (h0 : Heap) (n0 : Nat) (O0 : Old Z n0 h0) (P0 : Arv Z h0 t kb .byte N vs dv) (P1 : ¬ i < (0 : Int32)) (P2 : i < N) (P3 : vs.getD i.toNatClampNeg dv = (.int (StrChars.lo8 c))) (P4 : ¬ c < (0 : Int32) ∧ ¬ (255 : Int32) < c) :
    MetFree l own_m5 (head1 (Jvm.Cond.code own_m5 jdk_43_method_2_code 2 (some .char) :: ws) ({ frames := 2, cells := 0, slots := 0, locals := 27 } : Room)) (fun a U => a = #[(.ref t), (.int i)] ∧ Z.Warmed39 U.vm ∧ U.heap = h0) (fun _ _ _ _ _ => True) (fun _ U o U' => ∃ v L, o = .returned v ∧ (own_Qint c) h0 n0 v U'.heap L ∧ FrameEnd U o U' L ({ frames := 2, cells := 0, slots := 0, locals := 27 } : Room).cells ({ frames := 2, cells := 0, slots := 0, locals := 27 } : Room).slots) := by
  refine MetFree.of_bodySF (plainFor_of_name pn_2) hisR ?_
  intro p e s m args below meth cD s₁ Bd hml0 hP hK
  obtain ⟨rfl, hZ, hh⟩ := hP
  have hw := G.1
  have hx := Bd.exec
  have hby := Bd.bytes
  have hml : cD.maxLocals = 2 := hml0
  have hown : s.vm.findClass "java/lang/StringLatin1" = some m.cls := findClass_of_methodNamed Bd.named
  have hnm := (name_of_methodNamed Bd.named Bd.method).1
  have hlk := Bd.notSynchronized
  have X0 : Stand p l e ({ frames := 2, cells := 0, slots := 0, locals := 27 } : Room) s m #[(.ref t), (.int i)] below meth cD s₁ [] 0 0 := Stand.of_body Bd
  have e0 : s₁.heap = h0 := by rw [← hh, Bd.state]; rfl
  have lt0 := own_ltN' P0.lt
  have K0 : Keep h0 h0 [] := Keep.refl h0 _
  have Z0 := own_old_le O0
  have N0 := Fr.nil n0
  refine OwnEnd.start (g' := (mkF m 0 #[.val (.ref t), .val (.int i)] [])) (own_efcl m t i) ?_
  refine OwnEnd.of (S' := s₁.setTop (mkF m 2 #[.val (.ref t), .val (.int i)] [(.ref t), (.int i)])) (fun _ kK => XS.iloadN X0.here hx rfl (hb hby d5_0) rfl (XS.aloadN X0.here hx rfl (hb hby d5_1) rfl rfl kK)) ?_
  obtain ⟨cl1, Ar1, q1, S1, N1', H1, G1⟩ := id P0
  refine OwnEnd.of (S' := s₁.setTop (mkF m 3 #[.val (.ref t), .val (.int i)] [(.int N), (.int i)])) (fun _ kK => X0.arraylength hx (by rw [e0]; exact Ar1.1) (State.isArrayOf_alike hZ.alike Ar1.2.1) (g := (mkF m 2 #[.val (.ref t), .val (.int i)] [(.ref t), (.int i)])) rfl rfl (hb hby d5_2) _ (by rw [len_of S1 N1']; exact kK)) ?_
  obtain ⟨_, _, ⟨T2, L2, k2, n2⟩, -, X2, ⟨Lc2, hQ2, l2, y2, z2⟩, st2⟩ := Jvm.LawKit.callS X0 hx (y := own_m1) hown (mvT hZ (own_w G 91 rfl)) (mvT hZ (own_w G 92 rfl)) (mvT hZ (own_w G 12 rfl)) (mvT hZ (own_w G 93 rfl)) (by decide) (backOf (W := 0) (rmsk l Z a0 G [] i N h0 n0 O0 P1 P2) hZ (own_w G 93 rfl) (own_w G 12 rfl) (by decide) (by decide)) (g := (mkF m 3 #[.val (.ref t), .val (.int i)] [(.int N), (.int i)])) rfl (by rw [hml]; rfl) (argsL := [(.int i), (.int N)]) (rest := []) (lenOf pd_2 rfl) rfl (by show 2 * 0 + _ ≤ _; exact Nat.le_of_eq rfl) (hb hby d5_3) (fun _ _ => ⟨rfl, e0, (by decide : 0 + 0 ≤ _), (by decide : 0 + 0 ≤ _)⟩)
  dsimp only [Pt.U, Pt.locs, Pt.cells, Pt.slots] at X2 l2 y2 z2 st2 hQ2
  subst l2 y2 z2
  obtain ⟨rfl, N2q, eh2⟩ := hQ2
  have N2 := Fr.app N0 N2q
  refine OwnEnd.of (S' := T2.setTop (mkF m 6 #[.val (.ref t), .val (.int i)] [])) st2 ?_
  refine OwnEnd.of (S' := T2.setTop (mkF m 8 #[.val (.ref t), .val (.int i)] [(.int i), (.ref t)])) (fun _ kK => XS.aloadN X2.here hx rfl (hb hby d5_6) rfl rfl (XS.iloadN X2.here hx rfl (hb hby d5_7) rfl kK)) ?_
  obtain ⟨cl3, Ar3, q3, S3, N3', H3, G3⟩ := id P0
  have hin4 : ¬ (i < 0 ∨ cl3.slots.size ≤ (i).toNatClampNeg) := inb_of S3 ⟨P1, P2⟩
  refine OwnEnd.of (S' := T2.setTop (mkF m 9 #[.val (.ref t), .val (.int i)] [(.int (StrChars.lo8 c))])) (fun _ kK => X2.baloadBytes hx (j := i) (v := (.int (StrChars.lo8 c))) (by rw [eh2]; exact Ar3.1) (State.isArrayOf_alike hZ.alike Ar3.2.1) Ar3.2.2 hin4 (Has.at H3 hin4 (P3)) (g := (mkF m 8 #[.val (.ref t), .val (.int i)] [(.int i), (.ref t)])) rfl rfl (hb hby d5_8) _ kK) ?_
  refine OwnEnd.of (S' := T2.setTop (mkF m 14 #[.val (.ref t), .val (.int i)] [(.int (nar .char ((StrChars.lo8 c) &&& (255 : Int32))))])) (fun _ kK => XS.sipush X2.here hx rfl (hb hby d5_9) (XS.iand X2.here hx rfl (hb hby d5_12) rfl (XS.i2c X2.here hx rfl (hb hby d5_13) rfl kK))) ?_
  refine OwnEnd.ret X2 (v := (some (.int (nar .char (nar .char ((StrChars.lo8 c) &&& (255 : Int32))))))) (fun h => by rw [Bd.returns] at h; cases h) hlk (fun fs hr => retN X2 hx (t := .char) Bd.returns (by simp) (hb hby d5_14) hr) (by decide) (by decide) (Q := (own_Qint c) h0 n0) eh2 ?_
  exact ⟨(congrArg (fun z => some (Value.int z)) (own_lat P4.1 P4.2)), N2, rfl⟩

theorem own_efgl (m : MethodId) (t : Addr) : entryFrame m #[(.ref t)] 1 = mkF m 0 #[.val (.ref t)] [] := by first | (simp [entryFrame, mkF, argsToLocals, Value.category]; done) | rfl
set_option maxRecDepth 65536 in
set_option maxHeartbeats 40000000 in
theorem rmgl (l : Launch) (Z : State) (a0 : Array Value) (G : OwnG Z a0) (ws : List Jvm.Cond) (t : Addr) (kb : ClassId) (N : Int32) (vs : List Value) (dv : Value) (M : Int32) (h0 : Heap) (n0 : Nat) (O0 : Old Z n0 h0) (P0 : Arv Z h0 t kb .byte N vs dv) (P1 : N >>> ((1 : Int32) &&& 31) = M) :
    MetFree l own_m6 (head1 (Jvm.Cond.code own_m6 jdk_52_method_6_code 1 (some .int) :: ws) ({ frames := 0, cells := 0, slots := 0, locals := 0 } : Room)) (fun a U => a = #[(.ref t)] ∧ Z.Warmed39 U.vm ∧ U.heap = h0) (fun _ _ _ _ _ => True) (fun _ U o U' => ∃ v L, o = .returned v ∧ (own_Qint M) h0 n0 v U'.heap L ∧ FrameEnd U o U' L ({ frames := 0, cells := 0, slots := 0, locals := 0 } : Room).cells ({ frames := 0, cells := 0, slots := 0, locals := 0 } : Room).slots) := by
  refine MetFree.of_bodySF (plainFor_of_name pn_3) hisR ?_
  intro p e s m args below meth cD s₁ Bd hml0 hP hK
  obtain ⟨rfl, hZ, hh⟩ := hP
  have hw := G.1
  have hx := Bd.exec
  have hby := Bd.bytes
  have hml : cD.maxLocals = 1 := hml0
  have hown : s.vm.findClass "java/lang/StringUTF16" = some m.cls := findClass_of_methodNamed Bd.named
  have hnm := (name_of_methodNamed Bd.named Bd.method).1
  have hlk := Bd.notSynchronized
  have X0 : Stand p l e ({ frames := 0, cells := 0, slots := 0, locals := 0 } : Room) s m #[(.ref t)] below meth cD s₁ [] 0 0 := Stand.of_body Bd
  have e0 : s₁.heap = h0 := by rw [← hh, Bd.state]; rfl
  have lt0 := own_ltN' P0.lt
  have K0 : Keep h0 h0 [] := Keep.refl h0 _
  have Z0 := own_old_le O0
  have N0 := Fr.nil n0
  refine OwnEnd.start (g' := (mkF m 0 #[.val (.ref t)] [])) (own_efgl m t) ?_
  refine OwnEnd.of (S' := s₁.setTop (mkF m 1 #[.val (.ref t)] [(.ref t)])) (fun _ kK => XS.aloadN X0.here hx rfl (hb hby d6_0) rfl rfl kK) ?_
  obtain ⟨cl1, Ar1, q1, S1, N1', H1, G1⟩ := id P0
  refine OwnEnd.of (S' := s₁.setTop (mkF m 2 #[.val (.ref t)] [(.int N)])) (fun _ kK => X0.arraylength hx (by rw [e0]; exact Ar1.1) (State.isArrayOf_alike hZ.alike Ar1.2.1) (g := (mkF m 1 #[.val (.ref t)] [(.ref t)])) rfl rfl (hb hby d6_1) _ (by rw [len_of S1 N1']; exact kK)) ?_
  refine OwnEnd.of (S' := s₁.setTop (mkF m 4 #[.val (.ref t)] [(.int (N >>> ((1 : Int32) &&& 31)))])) (fun _ kK => XS.iconst X0.here hx rfl (hb hby d6_2) (XS.ishr X0.here hx rfl (hb hby d6_3) rfl kK)) ?_
  refine OwnEnd.ret X0 (v := (some (.int (N >>> ((1 : Int32) &&& 31))))) (fun h => by rw [Bd.returns] at h; cases h) hlk (fun fs hr => retOut X0 hx Bd.returns rfl (Or.inl ⟨rfl, Or.inl rfl, _, rfl⟩) (hb hby d6_4) hr) (by decide) (by decide) (Q := (own_Qint M) h0 n0) e0 ?_
  exact ⟨(congrArg (fun z => some (Value.int z)) P1), N0, rfl⟩

theorem own_efsc (m : MethodId) (i : Int32) (t : Addr) : entryFrame m #[(.int i), (.ref t)] 2 = mkF m 0 #[.val (.int i), .val (.ref t)] [] := by first | (simp [entryFrame, mkF, argsToLocals, Value.category]; done) | rfl
def Qsc (Z : State) (i : Int32) (t : Addr) (kb : ClassId) (N : Int32) (vs : List Value) (dv : Value) (M : Int32) (h0 : Heap) (n0 : Nat) (v : Option Value) (h : Heap) (L : List Loc) : Prop := v = none ∧ Fr n0 L ∧ h = h0
set_option maxRecDepth 65536 in
set_option maxHeartbeats 40000000 in
theorem rmsc (l : Launch) (Z : State) (a0 : Array Value) (G : OwnG Z a0) (ws : List Jvm.Cond) (i : Int32) (t : Addr) (kb : ClassId) (N : Int32) (vs : List Value) (dv : Value) (M : Int32) (h0 : Heap) (n0 : Nat) (O0 : Old Z n0 h0) (P0 : Arv Z h0 t kb .byte N vs dv) (P1 : N >>> ((1 : Int32) &&& 31) = M) (P2 : ¬ i < (0 : Int32)) (P3 : i < M) :
    MetFree l own_m7 (head1 (Jvm.Cond.code own_m7 jdk_52_method_91_code 2 none :: ws) ({ frames := 2, cells := 0, slots := 0, locals := 27 } : Room)) (fun a U => a = #[(.int i), (.ref t)] ∧ Z.Warmed39 U.vm ∧ U.heap = h0) (fun _ _ _ _ _ => True) (fun _ U o U' => ∃ v L, o = .returned v ∧ Qsc Z i t kb N vs dv M h0 n0 v U'.heap L ∧ FrameEnd U o U' L ({ frames := 2, cells := 0, slots := 0, locals := 27 } : Room).cells ({ frames := 2, cells := 0, slots := 0, locals := 27 } : Room).slots) := by
  refine MetFree.of_bodySF (plainFor_of_name pn_3) hisR ?_
  intro p e s m args below meth cD s₁ Bd hml0 hP hK
  obtain ⟨rfl, hZ, hh⟩ := hP
  have hw := G.1
  have hx := Bd.exec
  have hby := Bd.bytes
  have hml : cD.maxLocals = 2 := hml0
  have hown : s.vm.findClass "java/lang/StringUTF16" = some m.cls := findClass_of_methodNamed Bd.named
  have hnm := (name_of_methodNamed Bd.named Bd.method).1
  have hlk := Bd.notSynchronized
  have X0 : Stand p l e ({ frames := 2, cells := 0, slots := 0, locals := 27 } : Room) s m #[(.int i), (.ref t)] below meth cD s₁ [] 0 0 := Stand.of_body Bd
  have e0 : s₁.heap = h0 := by rw [← hh, Bd.state]; rfl
  have lt0 := own_ltN' P0.lt
  have K0 : Keep h0 h0 [] := Keep.refl h0 _
  have Z0 := own_old_le O0
  have N0 := Fr.nil n0
  refine OwnEnd.start (g' := (mkF m 0 #[.val (.int i), .val (.ref t)] [])) (own_efsc m i t) ?_
  refine OwnEnd.of (S' := s₁.setTop (mkF m 2 #[.val (.int i), .val (.ref t)] [(.ref t), (.int i)])) (fun _ kK => XS.iloadN X0.here hx rfl (hb hby d7_0) rfl (XS.aloadN X0.here hx rfl (hb hby d7_1) rfl rfl kK)) ?_
  obtain ⟨_, _, ⟨T1, L1, k1, n1⟩, -, X1, ⟨Lc1, hQ1, l1, y1, z1⟩, st1⟩ := Jvm.LawKit.callS X0 hx (y := own_m6) hown (mvT hZ (own_w G 141 rfl)) (mvT hZ (own_w G 142 rfl)) (mvT hZ (own_w G 27 rfl)) (mvT hZ (own_w G 143 rfl)) (by decide) (backOf (W := 1) (rmgl l Z a0 G [] t kb N vs dv M h0 n0 O0 P0 P1) hZ (own_w G 143 rfl) (own_w G 27 rfl) (by decide) (by decide)) (g := (mkF m 2 #[.val (.int i), .val (.ref t)] [(.ref t), (.int i)])) rfl (by rw [hml]; rfl) (argsL := [(.ref t)]) (rest := [(.int i)]) (lenOf pd_3 rfl) rfl (by show 2 * 0 + _ ≤ _; exact Nat.le_of_eq rfl) (hb hby d7_2) (fun _ _ => ⟨rfl, e0, (by decide : 0 + 0 ≤ _), (by decide : 0 + 0 ≤ _)⟩)
  dsimp only [Pt.U, Pt.locs, Pt.cells, Pt.slots] at X1 l1 y1 z1 st1 hQ1
  subst l1 y1 z1
  obtain ⟨rfl, N1q, eh1⟩ := hQ1
  have N1 := Fr.app N0 N1q
  refine OwnEnd.of (S' := T1.setTop (mkF m 5 #[.val (.int i), .val (.ref t)] [(.int M), (.int i)])) st1 ?_
  obtain ⟨_, _, ⟨T2, L2, k2, n2⟩, -, X2, ⟨Lc2, hQ2, l2, y2, z2⟩, st2⟩ := Jvm.LawKit.callS X1 hx (y := own_m1) hown (mvT hZ (own_w G 144 rfl)) (mvT hZ (own_w G 92 rfl)) (mvT hZ (own_w G 12 rfl)) (mvT hZ (own_w G 93 rfl)) (by decide) (backOf (W := 0) (rmsk l Z a0 G [] i M h0 n0 O0 P2 P3) hZ (own_w G 93 rfl) (own_w G 12 rfl) (by decide) (by decide)) (g := (mkF m 5 #[.val (.int i), .val (.ref t)] [(.int M), (.int i)])) rfl (by rw [hml]; rfl) (argsL := [(.int i), (.int M)]) (rest := []) (lenOf pd_2 rfl) rfl (by show 2 * 0 + _ ≤ _; exact Nat.le_of_eq rfl) (hb hby d7_5) (fun _ _ => ⟨rfl, eh1, (by decide : 0 + 0 ≤ _), (by decide : 0 + 0 ≤ _)⟩)
  dsimp only [Pt.U, Pt.locs, Pt.cells, Pt.slots] at X2 l2 y2 z2 st2 hQ2
  subst l2 y2 z2
  obtain ⟨rfl, N2q, eh2⟩ := hQ2
  have N2 := Fr.app N1 N2q
  refine OwnEnd.of (S' := T2.setTop (mkF m 8 #[.val (.int i), .val (.ref t)] [])) st2 ?_
  refine OwnEnd.ret X2 (v := none) (fun _ => rfl) hlk (fun fs hr => X2.returnOut hx Bd.returns (hb hby d7_8) hr) (by decide) (by decide) (Q := Qsc Z i t kb N vs dv M h0 n0) eh2 ?_
  exact ⟨rfl, N2, rfl⟩

theorem own_efgc (m : MethodId) (t : Addr) (i : Int32) : entryFrame m #[(.ref t), (.int i)] 2 = mkF m 0 #[.val (.ref t), .val (.int i)] [] := by first | (simp [entryFrame, mkF, argsToLocals, Value.category]; done) | rfl
set_option maxRecDepth 65536 in
set_option maxHeartbeats 40000000 in
theorem rmgc (l : Launch) (Z : State) (a0 : Array Value) (G : OwnG Z a0) (ws : List Jvm.Cond) (t : Addr) (kb : ClassId) (N : Int32) (vs : List Value) (dv : Value) (i : Int32) (J : Int32) (c : Int32) (h0 : Heap) (n0 : Nat) (O0 : Old Z n0 h0) (P0 : Arv Z h0 t kb .byte N vs dv) (P1 : i <<< ((1 : Int32) &&& 31) = J) (P2 : ¬ J < (0 : Int32)) (P3 : J < N) (P4 : ¬ (J + (1 : Int32)) < (0 : Int32)) (P5 : (J + (1 : Int32)) < N) (P6 : vs.getD J.toNatClampNeg dv = (.int (StrChars.lo8 c))) (P7 : vs.getD (J + (1 : Int32)).toNatClampNeg dv = (.int (StrChars.hi8 c))) (P8 : ¬ c < (0 : Int32) ∧ ¬ (65535 : Int32) < c) :
    MetFree l own_m8 (head1 (Jvm.Cond.code own_m8 jdk_52_method_5_code 2 (some .char) :: ws) ({ frames := 0, cells := 0, slots := 0, locals := 0 } : Room)) (fun a U => a = #[(.ref t), (.int i)] ∧ Z.Warmed39 U.vm ∧ U.heap = h0) (fun _ _ _ _ _ => True) (fun _ U o U' => ∃ v L, o = .returned v ∧ (own_Qint c) h0 n0 v U'.heap L ∧ FrameEnd U o U' L ({ frames := 0, cells := 0, slots := 0, locals := 0 } : Room).cells ({ frames := 0, cells := 0, slots := 0, locals := 0 } : Room).slots) := by
  refine MetFree.of_bodySF (plainFor_of_name pn_3) hisR ?_
  intro p e s m args below meth cD s₁ Bd hml0 hP hK
  obtain ⟨rfl, hZ, hh⟩ := hP
  have hw := G.1
  have hx := Bd.exec
  have hby := Bd.bytes
  have hml : cD.maxLocals = 2 := hml0
  have hown : s.vm.findClass "java/lang/StringUTF16" = some m.cls := findClass_of_methodNamed Bd.named
  have hnm := (name_of_methodNamed Bd.named Bd.method).1
  have hlk := Bd.notSynchronized
  have X0 : Stand p l e ({ frames := 0, cells := 0, slots := 0, locals := 0 } : Room) s m #[(.ref t), (.int i)] below meth cD s₁ [] 0 0 := Stand.of_body Bd
  have e0 : s₁.heap = h0 := by rw [← hh, Bd.state]; rfl
  have lt0 := own_ltN' P0.lt
  have K0 : Keep h0 h0 [] := Keep.refl h0 _
  have Z0 := own_old_le O0
  have N0 := Fr.nil n0
  have SAD := own_ad G
  have SHI := own_hi G
  have SLO := own_lo G
  refine OwnEnd.start (g' := (mkF m 0 #[.val (.ref t), .val (.int i)] [])) (own_efgc m t i) ?_
  obtain ⟨T1, X1, e1, st1⟩ := getS2 X0 hx hZ hown (host := "") (Or.inl (own_w G 128 rfl)) Via.refl e0 (SAD.ext O0.2) (g := (mkF m 0 #[.val (.ref t), .val (.int i)] [])) rfl (hb hby d8_0)
  refine OwnEnd.of (S' := T1.setTop (mkF m 3 #[.val (.ref t), .val (.int i)] [(.int (1 : Int32))])) st1 ?_
  refine OwnEnd.of (S' := T1.setTop (mkF m 31 #[.val (.ref t), .val (.int i)] [(.int (i <<< ((1 : Int32) &&& 31)))])) (fun _ kK => XS.ifYes X1.here hx rfl (pc0 := 3) (pc' := 28) rfl (hb hby d8_3) rfl ((if0 _ _).trans (feq ((by decide : ¬ ((1 : Int32) = (0 : Int32))))).2) (by decide) (by decide) (XS.iloadN X1.here hx rfl (hb hby d8_28) rfl (XS.iconst X1.here hx rfl (hb hby d8_29) (XS.ishl X1.here hx rfl (hb hby d8_30) rfl kK)))) ?_
  rw [P1]
  refine OwnEnd.of (S' := T1.setTop (mkF m 37 #[.val (.ref t), .val (.int (J + (1 : Int32)))] [(.int J), (.ref t)])) (fun _ kK => XS.istoreN X1.here hx rfl (hb hby d8_31) rfl (l' := #[.val (.ref t), .val (.int J)]) rfl (XS.aloadN X1.here hx rfl (hb hby d8_32) rfl rfl (XS.iloadN X1.here hx rfl (hb hby d8_33) rfl (XS.iinc X1.here hx rfl (hb hby d8_34) rfl (l' := #[.val (.ref t), .val (.int (J + (1 : Int32)))]) rfl kK)))) ?_
  obtain ⟨cl2, Ar2, q2, S2, N2', H2, G2⟩ := id P0
  have hin3 : ¬ (J < 0 ∨ cl2.slots.size ≤ (J).toNatClampNeg) := inb_of S2 ⟨P2, P3⟩
  refine OwnEnd.of (S' := T1.setTop (mkF m 38 #[.val (.ref t), .val (.int (J + (1 : Int32)))] [(.int (StrChars.lo8 c))])) (fun _ kK => X1.baloadBytes hx (j := J) (v := (.int (StrChars.lo8 c))) (by rw [e1]; exact Ar2.1) (State.isArrayOf_alike hZ.alike Ar2.2.1) Ar2.2.2 hin3 (Has.at H2 hin3 (P6)) (g := (mkF m 37 #[.val (.ref t), .val (.int (J + (1 : Int32)))] [(.int J), (.ref t)])) rfl rfl (hb hby d8_37) _ kK) ?_
  refine OwnEnd.of (S' := T1.setTop (mkF m 42 #[.val (.ref t), .val (.int (J + (1 : Int32)))] [(.int ((StrChars.lo8 c) &&& (255 : Int32)))])) (fun _ kK => XS.sipush X1.here hx rfl (hb hby d8_38) (XS.iand X1.here hx rfl (hb hby d8_41) rfl kK)) ?_
  obtain ⟨T4, X4, e4, st4⟩ := getS2 X1 hx hZ hown (host := "") (Or.inl (own_w G 129 rfl)) Via.refl e1 (SHI.ext O0.2) (g := (mkF m 42 #[.val (.ref t), .val (.int (J + (1 : Int32)))] [(.int ((StrChars.lo8 c) &&& (255 : Int32)))])) rfl (hb hby d8_42)
  refine OwnEnd.of (S' := T4.setTop (mkF m 45 #[.val (.ref t), .val (.int (J + (1 : Int32)))] [(.int (0 : Int32)), (.int ((StrChars.lo8 c) &&& (255 : Int32)))])) st4 ?_
  refine OwnEnd.of (S' := T4.setTop (mkF m 48 #[.val (.ref t), .val (.int (J + (1 : Int32)))] [(.int (J + (1 : Int32))), (.ref t), (.int (((StrChars.lo8 c) &&& (255 : Int32)) <<< ((0 : Int32) &&& 31)))])) (fun _ kK => XS.ishl X4.here hx rfl (hb hby d8_45) rfl (XS.aloadN X4.here hx rfl (hb hby d8_46) rfl rfl (XS.iloadN X4.here hx rfl (hb hby d8_47) rfl kK))) ?_
  obtain ⟨cl5, Ar5, q5, S5, N5', H5, G5⟩ := id P0
  have hin6 : ¬ ((J + (1 : Int32)) < 0 ∨ cl5.slots.size ≤ ((J + (1 : Int32))).toNatClampNeg) := inb_of S5 ⟨P4, P5⟩
  refine OwnEnd.of (S' := T4.setTop (mkF m 49 #[.val (.ref t), .val (.int (J + (1 : Int32)))] [(.int (StrChars.hi8 c)), (.int (((StrChars.lo8 c) &&& (255 : Int32)) <<< ((0 : Int32) &&& 31)))])) (fun _ kK => X4.baloadBytes hx (j := (J + (1 : Int32))) (v := (.int (StrChars.hi8 c))) (by rw [e4]; exact Ar5.1) (State.isArrayOf_alike hZ.alike Ar5.2.1) Ar5.2.2 hin6 (Has.at H5 hin6 (P7)) (g := (mkF m 48 #[.val (.ref t), .val (.int (J + (1 : Int32)))] [(.int (J + (1 : Int32))), (.ref t), (.int (((StrChars.lo8 c) &&& (255 : Int32)) <<< ((0 : Int32) &&& 31)))])) rfl rfl (hb hby d8_48) _ kK) ?_
  refine OwnEnd.of (S' := T4.setTop (mkF m 53 #[.val (.ref t), .val (.int (J + (1 : Int32)))] [(.int ((StrChars.hi8 c) &&& (255 : Int32))), (.int (((StrChars.lo8 c) &&& (255 : Int32)) <<< ((0 : Int32) &&& 31)))])) (fun _ kK => XS.sipush X4.here hx rfl (hb hby d8_49) (XS.iand X4.here hx rfl (hb hby d8_52) rfl kK)) ?_
  obtain ⟨T7, X7, e7, st7⟩ := getS2 X4 hx hZ hown (host := "") (Or.inl (own_w G 130 rfl)) Via.refl e4 (SLO.ext O0.2) (g := (mkF m 53 #[.val (.ref t), .val (.int (J + (1 : Int32)))] [(.int ((StrChars.hi8 c) &&& (255 : Int32))), (.int (((StrChars.lo8 c) &&& (255 : Int32)) <<< ((0 : Int32) &&& 31)))])) rfl (hb hby d8_53)
  refine OwnEnd.of (S' := T7.setTop (mkF m 56 #[.val (.ref t), .val (.int (J + (1 : Int32)))] [(.int (8 : Int32)), (.int ((StrChars.hi8 c) &&& (255 : Int32))), (.int (((StrChars.lo8 c) &&& (255 : Int32)) <<< ((0 : Int32) &&& 31)))])) st7 ?_
  refine OwnEnd.of (S' := T7.setTop (mkF m 59 #[.val (.ref t), .val (.int (J + (1 : Int32)))] [(.int (nar .char ((((StrChars.lo8 c) &&& (255 : Int32)) <<< ((0 : Int32) &&& 31)) ||| (((StrChars.hi8 c) &&& (255 : Int32)) <<< ((8 : Int32) &&& 31)))))])) (fun _ kK => XS.ishl X7.here hx rfl (hb hby d8_56) rfl (XS.ior X7.here hx rfl (hb hby d8_57) rfl (XS.i2c X7.here hx rfl (hb hby d8_58) rfl kK))) ?_
  refine OwnEnd.ret X7 (v := (some (.int (nar .char (nar .char ((((StrChars.lo8 c) &&& (255 : Int32)) <<< ((0 : Int32) &&& 31)) ||| (((StrChars.hi8 c) &&& (255 : Int32)) <<< ((8 : Int32) &&& 31)))))))) (fun h => by rw [Bd.returns] at h; cases h) hlk (fun fs hr => retN X7 hx (t := .char) Bd.returns (by simp) (hb hby d8_59) hr) (by decide) (by decide) (Q := (own_Qint c) h0 n0) e7 ?_
  exact ⟨(congrArg (fun z => some (Value.int z)) (own_pair P8.1 P8.2)), N0, rfl⟩

theorem own_efca (m : MethodId) (t : Addr) (i : Int32) : entryFrame m #[(.ref t), (.int i)] 2 = mkF m 0 #[.val (.ref t), .val (.int i)] [] := by first | (simp [entryFrame, mkF, argsToLocals, Value.category]; done) | rfl
set_option maxRecDepth 65536 in
set_option maxHeartbeats 40000000 in
theorem rmca (l : Launch) (Z : State) (a0 : Array Value) (G : OwnG Z a0) (ws : List Jvm.Cond) (t : Addr) (kb : ClassId) (N : Int32) (vs : List Value) (dv : Value) (i : Int32) (M : Int32) (J : Int32) (c : Int32) (h0 : Heap) (n0 : Nat) (O0 : Old Z n0 h0) (P0 : Arv Z h0 t kb .byte N vs dv) (P1 : N >>> ((1 : Int32) &&& 31) = M) (P2 : ¬ i < (0 : Int32)) (P3 : i < M) (P4 : i <<< ((1 : Int32) &&& 31) = J) (P5 : ¬ J < (0 : Int32)) (P6 : J < N) (P7 : ¬ (J + (1 : Int32)) < (0 : Int32)) (P8 : (J + (1 : Int32)) < N) (P9 : vs.getD J.toNatClampNeg dv = (.int (StrChars.lo8 c))) (P10 : vs.getD (J + (1 : Int32)).toNatClampNeg dv = (.int (StrChars.hi8 c))) (P11 : ¬ c < (0 : Int32) ∧ ¬ (65535 : Int32) < c) :
    MetFree l own_m9 (head1 (Jvm.Cond.code own_m9 jdk_52_method_83_code 2 (some .char) :: ws) ({ frames := 3, cells := 0, slots := 0, locals := 40 } : Room)) (fun a U => a = #[(.ref t), (.int i)] ∧ Z.Warmed39 U.vm ∧ U.heap = h0) (fun _ _ _ _ _ => True) (fun _ U o U' => ∃ v L, o = .returned v ∧ (own_Qint c) h0 n0 v U'.heap L ∧ FrameEnd U o U' L ({ frames := 3, cells := 0, slots := 0, locals := 40 } : Room).cells ({ frames := 3, cells := 0, slots := 0, locals := 40 } : Room).slots) := by
  refine MetFree.of_bodySF (plainFor_of_name pn_3) hisR ?_
  intro p e s m args below meth cD s₁ Bd hml0 hP hK
  obtain ⟨rfl, hZ, hh⟩ := hP
  have hw := G.1
  have hx := Bd.exec
  have hby := Bd.bytes
  have hml : cD.maxLocals = 2 := hml0
  have hown : s.vm.findClass "java/lang/StringUTF16" = some m.cls := findClass_of_methodNamed Bd.named
  have hnm := (name_of_methodNamed Bd.named Bd.method).1
  have hlk := Bd.notSynchronized
  have X0 : Stand p l e ({ frames := 3, cells := 0, slots := 0, locals := 40 } : Room) s m #[(.ref t), (.int i)] below meth cD s₁ [] 0 0 := Stand.of_body Bd
  have e0 : s₁.heap = h0 := by rw [← hh, Bd.state]; rfl
  have lt0 := own_ltN' P0.lt
  have K0 : Keep h0 h0 [] := Keep.refl h0 _
  have Z0 := own_old_le O0
  have N0 := Fr.nil n0
  refine OwnEnd.start (g' := (mkF m 0 #[.val (.ref t), .val (.int i)] [])) (own_efca m t i) ?_
  refine OwnEnd.of (S' := s₁.setTop (mkF m 2 #[.val (.ref t), .val (.int i)] [(.ref t), (.int i)])) (fun _ kK => XS.iloadN X0.here hx rfl (hb hby d9_0) rfl (XS.aloadN X0.here hx rfl (hb hby d9_1) rfl rfl kK)) ?_
  obtain ⟨_, _, ⟨T1, L1, k1, n1⟩, -, X1, ⟨Lc1, hQ1, l1, y1, z1⟩, st1⟩ := Jvm.LawKit.callS X0 hx (y := own_m7) hown (mvT hZ (own_w G 138 rfl)) (mvT hZ (own_w G 139 rfl)) (mvT hZ (own_w G 27 rfl)) (mvT hZ (own_w G 140 rfl)) (by decide) (backOf (W := 0) (rmsc l Z a0 G [] i t kb N vs dv M h0 n0 O0 P0 P1 P2 P3) hZ (own_w G 140 rfl) (own_w G 27 rfl) (by decide) (by decide)) (g := (mkF m 2 #[.val (.ref t), .val (.int i)] [(.ref t), (.int i)])) rfl (by rw [hml]; rfl) (argsL := [(.int i), (.ref t)]) (rest := []) (lenOf pd_4 rfl) rfl (by show 2 * 0 + _ ≤ _; exact Nat.le_of_eq rfl) (hb hby d9_2) (fun _ _ => ⟨rfl, e0, (by decide : 0 + 0 ≤ _), (by decide : 0 + 0 ≤ _)⟩)
  dsimp only [Pt.U, Pt.locs, Pt.cells, Pt.slots] at X1 l1 y1 z1 st1 hQ1
  subst l1 y1 z1
  obtain ⟨rfl, N1q, eh1⟩ := hQ1
  have N1 := Fr.app N0 N1q
  refine OwnEnd.of (S' := T1.setTop (mkF m 5 #[.val (.ref t), .val (.int i)] [])) st1 ?_
  refine OwnEnd.of (S' := T1.setTop (mkF m 7 #[.val (.ref t), .val (.int i)] [(.int i), (.ref t)])) (fun _ kK => XS.aloadN X1.here hx rfl (hb hby d9_5) rfl rfl (XS.iloadN X1.here hx rfl (hb hby d9_6) rfl kK)) ?_
  obtain ⟨_, _, ⟨T2, L2, k2, n2⟩, -, X2, ⟨Lc2, hQ2, l2, y2, z2⟩, st2⟩ := Jvm.LawKit.callS X1 hx (y := own_m8) hown (mvT hZ (own_w G 131 rfl)) (mvT hZ (own_w G 132 rfl)) (mvT hZ (own_w G 27 rfl)) (mvT hZ (own_w G 133 rfl)) (by decide) (backOf (W := 0) (rmgc l Z a0 G [] t kb N vs dv i J c h0 n0 O0 P0 P4 P5 P6 P7 P8 P9 P10 P11) hZ (own_w G 133 rfl) (own_w G 27 rfl) (by decide) (by decide)) (g := (mkF m 7 #[.val (.ref t), .val (.int i)] [(.int i), (.ref t)])) rfl (by rw [hml]; rfl) (argsL := [(.ref t), (.int i)]) (rest := []) (lenOf pd_5 rfl) rfl (by show 2 * 0 + _ ≤ _; exact Nat.le_of_eq rfl) (hb hby d9_7) (fun _ _ => ⟨rfl, eh1, (by decide : 0 + 0 ≤ _), (by decide : 0 + 0 ≤ _)⟩)
  dsimp only [Pt.U, Pt.locs, Pt.cells, Pt.slots] at X2 l2 y2 z2 st2 hQ2
  subst l2 y2 z2
  obtain ⟨rfl, N2q, eh2⟩ := hQ2
  have N2 := Fr.app N1 N2q
  refine OwnEnd.of (S' := T2.setTop (mkF m 10 #[.val (.ref t), .val (.int i)] [(.int c)])) st2 ?_
  refine OwnEnd.ret X2 (v := (some (.int (nar .char c)))) (fun h => by rw [Bd.returns] at h; cases h) hlk (fun fs hr => retN X2 hx (t := .char) Bd.returns (by simp) (hb hby d9_10) hr) (by decide) (by decide) (Q := (own_Qint c) h0 n0) eh2 ?_
  exact ⟨(congrArg (fun z => some (Value.int z)) (own_narc P11.1 P11.2)), N2, rfl⟩

theorem own_efcA1 (m : MethodId) (x0 : Addr) (i : Int32) : entryFrame m #[(.ref x0), (.int i)] 2 = mkF m 0 #[.val (.ref x0), .val (.int i)] [] := by first | (simp [entryFrame, mkF, argsToLocals, Value.category]; done) | rfl
set_option maxRecDepth 65536 in
set_option maxHeartbeats 40000000 in
theorem rmcA1 (l : Launch) (Z : State) (a0 : Array Value) (G : OwnG Z a0) (ws : List Jvm.Cond) (x0 : Addr) (t : Addr) (kb : ClassId) (N : Int32) (vs : List Value) (dv : Value) (i : Int32) (M : Int32) (J : Int32) (c : Int32) (h0 : Heap) (n0 : Nat) (O0 : Old Z n0 h0) (P0 : Exa Z h0 x0 "java/lang/String") (P1 : Fld Z h0 x0 "java/lang/String" "value" "[B" (.ref t)) (P2 : Fld Z h0 x0 "java/lang/String" "coder" "B" (.int (1 : Int32))) (P3 : Arv Z h0 t kb .byte N vs dv) (P4 : N >>> ((1 : Int32) &&& 31) = M) (P5 : ¬ i < (0 : Int32)) (P6 : i < M) (P7 : i <<< ((1 : Int32) &&& 31) = J) (P8 : ¬ J < (0 : Int32)) (P9 : J < N) (P10 : ¬ (J + (1 : Int32)) < (0 : Int32)) (P11 : (J + (1 : Int32)) < N) (P12 : vs.getD J.toNatClampNeg dv = (.int (StrChars.lo8 c))) (P13 : vs.getD (J + (1 : Int32)).toNatClampNeg dv = (.int (StrChars.hi8 c))) (P14 : ¬ c < (0 : Int32) ∧ ¬ (65535 : Int32) < c) :
    MetFree l own_m10 (head1 (Jvm.Cond.code own_m10 jdk_42_method_56_code 2 (some .char) :: ws) ({ frames := 4, cells := 0, slots := 0, locals := 53 } : Room)) (fun a U => a = #[(.ref x0), (.int i)] ∧ Z.Warmed39 U.vm ∧ U.heap = h0) (fun _ _ _ _ _ => True) (fun _ U o U' => ∃ v L, o = .returned v ∧ (own_Qint c) h0 n0 v U'.heap L ∧ FrameEnd U o U' L ({ frames := 4, cells := 0, slots := 0, locals := 53 } : Room).cells ({ frames := 4, cells := 0, slots := 0, locals := 53 } : Room).slots) := by
  refine MetFree.of_bodySF (plainFor_of_name pn_1) hisR ?_
  intro p e s m args below meth cD s₁ Bd hml0 hP hK
  obtain ⟨rfl, hZ, hh⟩ := hP
  have hw := G.1
  have hx := Bd.exec
  have hby := Bd.bytes
  have hml : cD.maxLocals = 2 := hml0
  have hown : s.vm.findClass "java/lang/String" = some m.cls := findClass_of_methodNamed Bd.named
  have hnm := (name_of_methodNamed Bd.named Bd.method).1
  have hlk := Bd.notSynchronized
  have X0 : Stand p l e ({ frames := 4, cells := 0, slots := 0, locals := 53 } : Room) s m #[(.ref x0), (.int i)] below meth cD s₁ [] 0 0 := Stand.of_body Bd
  have e0 : s₁.heap = h0 := by rw [← hh, Bd.state]; rfl
  have lt0 := own_ltN' P0.lt
  have lt1 := own_ltN' P1.lt
  have lt2 := own_ltN' P2.lt
  have lt3 := own_ltN' P3.lt
  have K0 : Keep h0 h0 [] := Keep.refl h0 _
  have Z0 := own_old_le O0
  have N0 := Fr.nil n0
  refine OwnEnd.start (g' := (mkF m 0 #[.val (.ref x0), .val (.int i)] [])) (own_efcA1 m x0 i) ?_
  refine OwnEnd.of (S' := s₁.setTop (mkF m 1 #[.val (.ref x0), .val (.int i)] [(.ref x0)])) (fun _ kK => XS.aloadN X0.here hx rfl (hb hby d10_0) rfl rfl kK) ?_
  obtain ⟨cq1, kq1, q1a, q1b, q1c⟩ := isOf hZ e0 P0
  obtain ⟨_, _, ⟨T1, L1, k1, n1⟩, -, X1, ⟨Lc1, hQ1, l1, y1, z1⟩, st1⟩ := X0.virtualBack hx (y := own_m2) (z := own_m2) hown (mvT hZ (own_w G 82 rfl)) (mvT hZ (own_w G 83 rfl)) (notFace_of_selects (args := #[]) (mvT hZ (own_w G 85 rfl))) (mvT hZ (own_w G 85 rfl)) (mvT hZ (own_w G 84 rfl)) (by decide) (backOf (W := 0) (rmil1 l Z a0 G [] x0 h0 n0 O0 P2) hZ (own_w G 86 rfl) (own_w G 12 rfl) (by decide) (by decide)) q1a q1c (g := (mkF m 1 #[.val (.ref x0), .val (.int i)] [(.ref x0)])) rfl (by rw [hml]; rfl) (Steps.refl _) (argsL := []) (rest := []) (lenOf pd_6 rfl) rfl (by show 2 * 0 + _ ≤ _; exact Nat.le_of_eq rfl) (hb hby d10_1) (fun _ _ => ⟨rfl, e0, (by decide : 0 + 0 ≤ _), (by decide : 0 + 0 ≤ _)⟩)
  dsimp only [Pt.U, Pt.locs, Pt.cells, Pt.slots] at X1 l1 y1 z1 st1 hQ1
  subst l1 y1 z1
  obtain ⟨rfl, N1q, eh1⟩ := hQ1
  have N1 := Fr.app N0 N1q
  refine OwnEnd.tr (S' := T1.setTop (mkF m 4 #[.val (.ref x0), .val (.int i)] [(.int (0 : Int32))])) st1 ?_
  refine OwnEnd.of (S' := T1.setTop (mkF m 17 #[.val (.ref x0), .val (.int i)] [(.ref x0)])) (fun _ kK => XS.ifYes X1.here hx rfl (pc0 := 4) (pc' := 16) rfl (hb hby d10_4) rfl ((if0 _ _).trans (teq ((by decide : (0 : Int32) = (0 : Int32)))).1) (by decide) (by decide) (XS.aloadN X1.here hx rfl (hb hby d10_16) rfl rfl kK)) ?_
  obtain ⟨T2, X2, e2, st2⟩ := getF X1 hx hZ hown (host := "") (Or.inl (own_w G 38 rfl)) Via.refl eh1 P1 (g := (mkF m 17 #[.val (.ref x0), .val (.int i)] [(.ref x0)])) rfl rfl (hb hby d10_17)
  refine OwnEnd.of (S' := T2.setTop (mkF m 20 #[.val (.ref x0), .val (.int i)] [(.ref t)])) st2 ?_
  refine OwnEnd.of (S' := T2.setTop (mkF m 21 #[.val (.ref x0), .val (.int i)] [(.int i), (.ref t)])) (fun _ kK => XS.iloadN X2.here hx rfl (hb hby d10_20) rfl kK) ?_
  obtain ⟨_, _, ⟨T3, L3, k3, n3⟩, -, X3, ⟨Lc3, hQ3, l3, y3, z3⟩, st3⟩ := Jvm.LawKit.callS X2 hx (y := own_m9) hown (mvT hZ (own_w G 135 rfl)) (mvT hZ (own_w G 136 rfl)) (mvT hZ (own_w G 27 rfl)) (mvT hZ (own_w G 137 rfl)) (by decide) (backOf (W := 0) (rmca l Z a0 G [] t kb N vs dv i M J c h0 n0 O0 P3 P4 P5 P6 P7 P8 P9 P10 P11 P12 P13 P14) hZ (own_w G 137 rfl) (own_w G 27 rfl) (by decide) (by decide)) (g := (mkF m 21 #[.val (.ref x0), .val (.int i)] [(.int i), (.ref t)])) rfl (by rw [hml]; rfl) (argsL := [(.ref t), (.int i)]) (rest := []) (lenOf pd_5 rfl) rfl (by show 2 * 0 + _ ≤ _; exact Nat.le_of_eq rfl) (hb hby d10_21) (fun _ _ => ⟨rfl, e2, (by decide : 0 + 0 ≤ _), (by decide : 0 + 0 ≤ _)⟩)
  dsimp only [Pt.U, Pt.locs, Pt.cells, Pt.slots] at X3 l3 y3 z3 st3 hQ3
  subst l3 y3 z3
  obtain ⟨rfl, N3q, eh3⟩ := hQ3
  have N3 := Fr.app N1 N3q
  refine OwnEnd.of (S' := T3.setTop (mkF m 24 #[.val (.ref x0), .val (.int i)] [(.int c)])) st3 ?_
  refine OwnEnd.ret X3 (v := (some (.int (nar .char c)))) (fun h => by rw [Bd.returns] at h; cases h) hlk (fun fs hr => retN X3 hx (t := .char) Bd.returns (by simp) (hb hby d10_24) hr) (by decide) (by decide) (Q := (own_Qint c) h0 n0) eh3 ?_
  exact ⟨(congrArg (fun z => some (Value.int z)) (own_narc P14.1 P14.2)), N3, rfl⟩

theorem own_efcA0 (m : MethodId) (x0 : Addr) (i : Int32) : entryFrame m #[(.ref x0), (.int i)] 2 = mkF m 0 #[.val (.ref x0), .val (.int i)] [] := by first | (simp [entryFrame, mkF, argsToLocals, Value.category]; done) | rfl
set_option maxRecDepth 65536 in
set_option maxHeartbeats 40000000 in
theorem rmcA0 (l : Launch) (Z : State) (a0 : Array Value) (G : OwnG Z a0) (ws : List Jvm.Cond) (x0 : Addr) (t : Addr) (kb : ClassId) (N : Int32) (vs : List Value) (dv : Value) (i : Int32) (c : Int32) (h0 : Heap) (n0 : Nat) (O0 : Old Z n0 h0) (P0 : Exa Z h0 x0 "java/lang/String") (P1 : Fld Z h0 x0 "java/lang/String" "value" "[B" (.ref t)) (P2 : Fld Z h0 x0 "java/lang/String" "coder" "B" (.int (0 : Int32))) (P3 : Arv Z h0 t kb .byte N vs dv) (P4 : ¬ i < (0 : Int32)) (P5 : i < N) (P6 : vs.getD i.toNatClampNeg dv = (.int (StrChars.lo8 c))) (P7 : ¬ c < (0 : Int32) ∧ ¬ (255 : Int32) < c) :
    MetFree l own_m10 (head1 (Jvm.Cond.code own_m10 jdk_42_method_56_code 2 (some .char) :: ws) ({ frames := 4, cells := 0, slots := 0, locals := 53 } : Room)) (fun a U => a = #[(.ref x0), (.int i)] ∧ Z.Warmed39 U.vm ∧ U.heap = h0) (fun _ _ _ _ _ => True) (fun _ U o U' => ∃ v L, o = .returned v ∧ (own_Qint c) h0 n0 v U'.heap L ∧ FrameEnd U o U' L ({ frames := 4, cells := 0, slots := 0, locals := 53 } : Room).cells ({ frames := 4, cells := 0, slots := 0, locals := 53 } : Room).slots) := by
  refine MetFree.of_bodySF (plainFor_of_name pn_1) hisR ?_
  intro p e s m args below meth cD s₁ Bd hml0 hP hK
  obtain ⟨rfl, hZ, hh⟩ := hP
  have hw := G.1
  have hx := Bd.exec
  have hby := Bd.bytes
  have hml : cD.maxLocals = 2 := hml0
  have hown : s.vm.findClass "java/lang/String" = some m.cls := findClass_of_methodNamed Bd.named
  have hnm := (name_of_methodNamed Bd.named Bd.method).1
  have hlk := Bd.notSynchronized
  have X0 : Stand p l e ({ frames := 4, cells := 0, slots := 0, locals := 53 } : Room) s m #[(.ref x0), (.int i)] below meth cD s₁ [] 0 0 := Stand.of_body Bd
  have e0 : s₁.heap = h0 := by rw [← hh, Bd.state]; rfl
  have lt0 := own_ltN' P0.lt
  have lt1 := own_ltN' P1.lt
  have lt2 := own_ltN' P2.lt
  have lt3 := own_ltN' P3.lt
  have K0 : Keep h0 h0 [] := Keep.refl h0 _
  have Z0 := own_old_le O0
  have N0 := Fr.nil n0
  refine OwnEnd.start (g' := (mkF m 0 #[.val (.ref x0), .val (.int i)] [])) (own_efcA0 m x0 i) ?_
  refine OwnEnd.of (S' := s₁.setTop (mkF m 1 #[.val (.ref x0), .val (.int i)] [(.ref x0)])) (fun _ kK => XS.aloadN X0.here hx rfl (hb hby d10_0) rfl rfl kK) ?_
  obtain ⟨cq1, kq1, q1a, q1b, q1c⟩ := isOf hZ e0 P0
  obtain ⟨_, _, ⟨T1, L1, k1, n1⟩, -, X1, ⟨Lc1, hQ1, l1, y1, z1⟩, st1⟩ := X0.virtualBack hx (y := own_m2) (z := own_m2) hown (mvT hZ (own_w G 82 rfl)) (mvT hZ (own_w G 83 rfl)) (notFace_of_selects (args := #[]) (mvT hZ (own_w G 85 rfl))) (mvT hZ (own_w G 85 rfl)) (mvT hZ (own_w G 84 rfl)) (by decide) (backOf (W := 0) (rmil0 l Z a0 G [] x0 h0 n0 O0 P2) hZ (own_w G 86 rfl) (own_w G 12 rfl) (by decide) (by decide)) q1a q1c (g := (mkF m 1 #[.val (.ref x0), .val (.int i)] [(.ref x0)])) rfl (by rw [hml]; rfl) (Steps.refl _) (argsL := []) (rest := []) (lenOf pd_6 rfl) rfl (by show 2 * 0 + _ ≤ _; exact Nat.le_of_eq rfl) (hb hby d10_1) (fun _ _ => ⟨rfl, e0, (by decide : 0 + 0 ≤ _), (by decide : 0 + 0 ≤ _)⟩)
  dsimp only [Pt.U, Pt.locs, Pt.cells, Pt.slots] at X1 l1 y1 z1 st1 hQ1
  subst l1 y1 z1
  obtain ⟨rfl, N1q, eh1⟩ := hQ1
  have N1 := Fr.app N0 N1q
  refine OwnEnd.tr (S' := T1.setTop (mkF m 4 #[.val (.ref x0), .val (.int i)] [(.int (1 : Int32))])) st1 ?_
  refine OwnEnd.of (S' := T1.setTop (mkF m 8 #[.val (.ref x0), .val (.int i)] [(.ref x0)])) (fun _ kK => XS.ifNo X1.here hx rfl (hb hby d10_4) rfl ((if0 _ _).trans (feq ((by decide : ¬ ((1 : Int32) = (0 : Int32))))).1) (XS.aloadN X1.here hx rfl (hb hby d10_7) rfl rfl kK)) ?_
  obtain ⟨T2, X2, e2, st2⟩ := getF X1 hx hZ hown (host := "") (Or.inl (own_w G 38 rfl)) Via.refl eh1 P1 (g := (mkF m 8 #[.val (.ref x0), .val (.int i)] [(.ref x0)])) rfl rfl (hb hby d10_8)
  refine OwnEnd.of (S' := T2.setTop (mkF m 11 #[.val (.ref x0), .val (.int i)] [(.ref t)])) st2 ?_
  refine OwnEnd.of (S' := T2.setTop (mkF m 12 #[.val (.ref x0), .val (.int i)] [(.int i), (.ref t)])) (fun _ kK => XS.iloadN X2.here hx rfl (hb hby d10_11) rfl kK) ?_
  obtain ⟨_, _, ⟨T3, L3, k3, n3⟩, -, X3, ⟨Lc3, hQ3, l3, y3, z3⟩, st3⟩ := Jvm.LawKit.callS X2 hx (y := own_m5) hown (mvT hZ (own_w G 87 rfl)) (mvT hZ (own_w G 88 rfl)) (mvT hZ (own_w G 89 rfl)) (mvT hZ (own_w G 90 rfl)) (by decide) (backOf (W := 0) (rmcl l Z a0 G [] t kb N vs dv i c h0 n0 O0 P3 P4 P5 P6 P7) hZ (own_w G 90 rfl) (own_w G 89 rfl) (by decide) (by decide)) (g := (mkF m 12 #[.val (.ref x0), .val (.int i)] [(.int i), (.ref t)])) rfl (by rw [hml]; rfl) (argsL := [(.ref t), (.int i)]) (rest := []) (lenOf pd_5 rfl) rfl (by show 2 * 0 + _ ≤ _; exact Nat.le_of_eq rfl) (hb hby d10_12) (fun _ _ => ⟨rfl, e2, (by decide : 0 + 0 ≤ _), (by decide : 0 + 0 ≤ _)⟩)
  dsimp only [Pt.U, Pt.locs, Pt.cells, Pt.slots] at X3 l3 y3 z3 st3 hQ3
  subst l3 y3 z3
  obtain ⟨rfl, N3q, eh3⟩ := hQ3
  have N3 := Fr.app N1 N3q
  refine OwnEnd.of (S' := T3.setTop (mkF m 15 #[.val (.ref x0), .val (.int i)] [(.int c)])) st3 ?_
  refine OwnEnd.ret X3 (v := (some (.int (nar .char c)))) (fun h => by rw [Bd.returns] at h; cases h) hlk (fun fs hr => retN X3 hx (t := .char) Bd.returns (by simp) (hb hby d10_15) hr) (by decide) (by decide) (Q := (own_Qint c) h0 n0) eh3 ?_
  exact ⟨(congrArg (fun z => some (Value.int z)) (own_narc P7.1 (own_255 P7.2))), N3, rfl⟩

set_option maxRecDepth 65536 in
set_option maxHeartbeats 40000000 in
theorem rmcAB (l : Launch) (Z : State) (a0 : Array Value) (G : OwnG Z a0) (ws : List Jvm.Cond) (x0 t : Addr) (kb : ClassId) (N : Int32) (vs : List Value) (dv : Value) (cd : Int32) (cs : List Int32) (i : Int32) (k : Nat) (h0 : Heap) (n0 : Nat) (O0 : Old Z n0 h0) (P0 : Exa Z h0 x0 "java/lang/String") (P1 : Fld Z h0 x0 "java/lang/String" "value" "[B" (.ref t)) (P2 : Fld Z h0 x0 "java/lang/String" "coder" "B" (.int cd)) (P3 : Arv Z h0 t kb .byte N vs dv) (H : StrChars.Road.CodA cs cd N vs) (HR : ∀ c ∈ cs, ¬ c < (0 : Int32) ∧ ¬ (65535 : Int32) < c) (hl : cs.length ≤ 4000) (hk : k < cs.length) (hi : i = Int32.ofNat k) : MetFree l own_m10 (head1 (Jvm.Cond.code own_m10 jdk_42_method_56_code 2 (some .char) :: ws) ({ frames := 4, cells := 0, slots := 0, locals := 53 } : Room)) (fun a U => a = #[(.ref x0), (.int i)] ∧ Z.Warmed39 U.vm ∧ U.heap = h0) (fun _ _ _ _ _ => True) (fun _ U o U' => ∃ v L, o = .returned v ∧ own_Qint (cs.getD k 0) h0 n0 v U'.heap L ∧ FrameEnd U o U' L ({ frames := 4, cells := 0, slots := 0, locals := 53 } : Room).cells ({ frames := 4, cells := 0, slots := 0, locals := 53 } : Room).slots) := by
  subst hi
  have hm : cs.getD k 0 ∈ cs := own_getD_mem hk
  rcases H with ⟨rfl, rfl, rfl, h⟩ | ⟨rfl, rfl, rfl, -⟩
  · exact rmcA0 l Z a0 G ws x0 t kb _ _ dv _ (cs.getD k 0) h0 n0 O0 P0 P1 P2 P3 (own_nn (by omega)) (own_ltN hk (by omega)) (by rw [own_clamp (by omega)]; exact StrChars.Road.low_at dv cs k hk) ⟨(HR _ hm).1, h _ hm⟩
  · exact rmcA1 l Z a0 G ws x0 t kb _ _ dv _ _ (Int32.ofNat (2 * k)) (cs.getD k 0) h0 n0 O0 P0 P1 P2 P3 (own_half hl) (own_nn (by omega)) (own_ltN hk (by omega)) (own_dbl (by omega)) (own_nn (by omega)) (own_ltN (by omega) (by omega)) (by rw [own_inc (by omega)]; exact own_nn (by omega)) (by rw [own_inc (by omega)]; exact own_ltN (by omega) (by omega)) (by rw [own_clamp (by omega)]; exact StrChars.Road.wide_lo dv cs k hk) (by rw [own_inc (by omega), own_clamp (by omega)]; exact StrChars.Road.wide_hi dv cs k hk) (HR _ hm)

theorem own_efnl (m : MethodId) (n : Int32) : entryFrame m #[(.int n)] 1 = mkF m 0 #[.val (.int n)] [] := by first | (simp [entryFrame, mkF, argsToLocals, Value.category]; done) | rfl
set_option maxRecDepth 65536 in
set_option maxHeartbeats 40000000 in
theorem rmnl (l : Launch) (Z : State) (a0 : Array Value) (G : OwnG Z a0) (ws : List Jvm.Cond) (n : Int32) (M : Int32) (h0 : Heap) (n0 : Nat) (O0 : Old Z n0 h0) (P0 : ¬ n < (0 : Int32)) (P1 : n < (1073741823 : Int32)) (P2 : n <<< ((1 : Int32) &&& 31) = M) :
    MetFree l own_m11 (head1 (Jvm.Cond.code own_m11 jdk_52_method_3_code 1 (some .int) :: ws) ({ frames := 0, cells := 0, slots := 0, locals := 0 } : Room)) (fun a U => a = #[(.int n)] ∧ Z.Warmed39 U.vm ∧ U.heap = h0) (fun _ _ _ _ _ => True) (fun _ U o U' => ∃ v L, o = .returned v ∧ (own_Qint M) h0 n0 v U'.heap L ∧ FrameEnd U o U' L ({ frames := 0, cells := 0, slots := 0, locals := 0 } : Room).cells ({ frames := 0, cells := 0, slots := 0, locals := 0 } : Room).slots) := by
  refine MetFree.of_bodySF (plainFor_of_name pn_3) hisR ?_
  intro p e s m args below meth cD s₁ Bd hml0 hP hK
  obtain ⟨rfl, hZ, hh⟩ := hP
  have hw := G.1
  have hx := Bd.exec
  have hby := Bd.bytes
  have hml : cD.maxLocals = 1 := hml0
  have hown : s.vm.findClass "java/lang/StringUTF16" = some m.cls := findClass_of_methodNamed Bd.named
  have hnm := (name_of_methodNamed Bd.named Bd.method).1
  have hlk := Bd.notSynchronized
  have X0 : Stand p l e ({ frames := 0, cells := 0, slots := 0, locals := 0 } : Room) s m #[(.int n)] below meth cD s₁ [] 0 0 := Stand.of_body Bd
  have e0 : s₁.heap = h0 := by rw [← hh, Bd.state]; rfl
  have K0 : Keep h0 h0 [] := Keep.refl h0 _
  have Z0 := own_old_le O0
  have N0 := Fr.nil n0
  refine OwnEnd.start (g' := (mkF m 0 #[.val (.int n)] [])) (own_efnl m n) ?_
  refine OwnEnd.of (S' := s₁.setTop (mkF m 13 #[.val (.int n)] [(.int n)])) (fun _ kK => XS.iloadN X0.here hx rfl (hb hby d11_0) rfl (XS.ifYes X0.here hx rfl (pc0 := 1) (pc' := 12) rfl (hb hby d11_1) rfl ((if0 _ _).trans (flt (P0)).2.1) (by decide) (by decide) (XS.iloadN X0.here hx rfl (hb hby d11_12) rfl kK))) ?_
  refine OwnEnd.of (S' := s₁.setTop (mkF m 15 #[.val (.int n)] [(.int (1073741823 : Int32)), (.int n)])) (fun _ kK => X0.ldcInt hx hown (mvT hZ (own_w G 124 rfl)) (g := (mkF m 13 #[.val (.int n)] [(.int n)])) rfl (hb hby d11_13) _ kK) ?_
  refine OwnEnd.of (S' := s₁.setTop (mkF m 58 #[.val (.int n)] [(.int (n <<< ((1 : Int32) &&& 31)))])) (fun _ kK => XS.icmpYes X0.here hx rfl (pc0 := 15) (pc' := 55) rfl (hb hby d11_15) rfl (tlt (P1)).1 (by decide) (by decide) (XS.iloadN X0.here hx rfl (hb hby d11_55) rfl (XS.iconst X0.here hx rfl (hb hby d11_56) (XS.ishl X0.here hx rfl (hb hby d11_57) rfl kK)))) ?_
  refine OwnEnd.ret X0 (v := (some (.int (n <<< ((1 : Int32) &&& 31))))) (fun h => by rw [Bd.returns] at h; cases h) hlk (fun fs hr => retOut X0 hx Bd.returns rfl (Or.inl ⟨rfl, Or.inl rfl, _, rfl⟩) (hb hby d11_58) hr) (by decide) (by decide) (Q := (own_Qint M) h0 n0) e0 ?_
  exact ⟨(congrArg (fun z => some (Value.int z)) P2), N0, rfl⟩

theorem own_efpu0 (m : MethodId) (t : Addr) (c : Int32) : entryFrame m #[(.ref t), (.int (0 : Int32)), (.int c)] 3 = mkF m 0 #[.val (.ref t), .val (.int (0 : Int32)), .val (.int c)] [] := by first | (simp [entryFrame, mkF, argsToLocals, Value.category]; done) | rfl
def Qpu0 (Z : State) (t : Addr) (kb : ClassId) (N : Int32) (vs : List Value) (dv : Value) (c : Int32) (h0 : Heap) (n0 : Nat) (v : Option Value) (h : Heap) (L : List Loc) : Prop := v = none ∧ Fr n0 L ∧ Keep h0 h [t] ∧ (Arv Z h t kb .byte N ((vs.set 0 (.int (StrChars.lo8 c))).set 1 (.int (StrChars.hi8 c))) dv)
set_option maxRecDepth 65536 in
set_option maxHeartbeats 40000000 in
theorem rmpu0 (l : Launch) (Z : State) (a0 : Array Value) (G : OwnG Z a0) (ws : List Jvm.Cond) (t : Addr) (kb : ClassId) (N : Int32) (vs : List Value) (dv : Value) (c : Int32) (h0 : Heap) (n0 : Nat) (O0 : Old Z n0 h0) (P0 : Arv Z h0 t kb .byte N vs dv) (P1 : (0 : Int32) < N) (P2 : (1 : Int32) < N) (P3 : 1 < vs.length) (P4 : n0 ≤ t) :
    MetFree l own_m12 (head1 (Jvm.Cond.code own_m12 jdk_52_method_4_code 3 none :: ws) ({ frames := 0, cells := 0, slots := 0, locals := 0 } : Room)) (fun a U => a = #[(.ref t), (.int (0 : Int32)), (.int c)] ∧ Z.Warmed39 U.vm ∧ U.heap = h0) (fun _ _ _ _ _ => True) (fun _ U o U' => ∃ v L, o = .returned v ∧ Qpu0 Z t kb N vs dv c h0 n0 v U'.heap L ∧ FrameEnd U o U' L ({ frames := 0, cells := 0, slots := 0, locals := 0 } : Room).cells ({ frames := 0, cells := 0, slots := 0, locals := 0 } : Room).slots) := by
  refine MetFree.of_bodySF (plainFor_of_name pn_3) hisR ?_
  intro p e s m args below meth cD s₁ Bd hml0 hP hK
  obtain ⟨rfl, hZ, hh⟩ := hP
  have hw := G.1
  have hx := Bd.exec
  have hby := Bd.bytes
  have hml : cD.maxLocals = 3 := hml0
  have hown : s.vm.findClass "java/lang/StringUTF16" = some m.cls := findClass_of_methodNamed Bd.named
  have hnm := (name_of_methodNamed Bd.named Bd.method).1
  have hlk := Bd.notSynchronized
  have X0 : Stand p l e ({ frames := 0, cells := 0, slots := 0, locals := 0 } : Room) s m #[(.ref t), (.int (0 : Int32)), (.int c)] below meth cD s₁ [] 0 0 := Stand.of_body Bd
  have e0 : s₁.heap = h0 := by rw [← hh, Bd.state]; rfl
  have lt0 := own_ltN' P0.lt
  have K0 : Keep h0 h0 [t] := Keep.refl h0 _
  have Z0 := own_old_le O0
  have N0 := Fr.nil n0
  have SAD := own_ad G
  have SHI := own_hi G
  have SLO := own_lo G
  refine OwnEnd.start (g' := (mkF m 0 #[.val (.ref t), .val (.int (0 : Int32)), .val (.int c)] [])) (own_efpu0 m t c) ?_
  obtain ⟨T1, X1, e1, st1⟩ := getS2 X0 hx hZ hown (host := "") (Or.inl (own_w G 128 rfl)) Via.refl e0 (SAD.ext O0.2) (g := (mkF m 0 #[.val (.ref t), .val (.int (0 : Int32)), .val (.int c)] [])) rfl (hb hby d12_0)
  refine OwnEnd.of (S' := T1.setTop (mkF m 3 #[.val (.ref t), .val (.int (0 : Int32)), .val (.int c)] [(.int (1 : Int32))])) st1 ?_
  refine OwnEnd.of (S' := T1.setTop (mkF m 38 #[.val (.ref t), .val (.int (1 : Int32)), .val (.int c)] [(.int c), (.int (0 : Int32)), (.ref t)])) (fun _ kK => XS.ifYes X1.here hx rfl (pc0 := 3) (pc' := 28) rfl (hb hby d12_3) rfl ((if0 _ _).trans (feq ((by decide : ¬ ((1 : Int32) = (0 : Int32))))).2) (by decide) (by decide) (XS.iloadN X1.here hx rfl (hb hby d12_28) rfl (XS.iconst X1.here hx rfl (hb hby d12_29) (XS.ishl X1.here hx rfl (hb hby d12_30) rfl (XS.istoreN X1.here hx rfl (hb hby d12_31) rfl (l' := #[.val (.ref t), .val (.int (0 : Int32)), .val (.int c)]) rfl (XS.aloadN X1.here hx rfl (hb hby d12_32) rfl rfl (XS.iloadN X1.here hx rfl (hb hby d12_33) rfl (XS.iinc X1.here hx rfl (hb hby d12_34) rfl (l' := #[.val (.ref t), .val (.int (1 : Int32)), .val (.int c)]) rfl (XS.iloadN X1.here hx rfl (hb hby d12_37) rfl kK))))))))) ?_
  obtain ⟨T2, X2, e2, st2⟩ := getS2 X1 hx hZ hown (host := "") (Or.inl (own_w G 129 rfl)) Via.refl e1 (SHI.ext O0.2) (g := (mkF m 38 #[.val (.ref t), .val (.int (1 : Int32)), .val (.int c)] [(.int c), (.int (0 : Int32)), (.ref t)])) rfl (hb hby d12_38)
  refine OwnEnd.of (S' := T2.setTop (mkF m 41 #[.val (.ref t), .val (.int (1 : Int32)), .val (.int c)] [(.int (0 : Int32)), (.int c), (.int (0 : Int32)), (.ref t)])) st2 ?_
  refine OwnEnd.of (S' := T2.setTop (mkF m 43 #[.val (.ref t), .val (.int (1 : Int32)), .val (.int c)] [(.int (nar .byte (c >>> ((0 : Int32) &&& 31)))), (.int (0 : Int32)), (.ref t)])) (fun _ kK => XS.ishr X2.here hx rfl (hb hby d12_41) rfl (XS.i2b X2.here hx rfl (hb hby d12_42) rfl kK)) ?_
  obtain ⟨cl3, Ar3, q3, S3, N3', H3, G3⟩ := id P0
  have hin4 : ¬ ((0 : Int32) < 0 ∨ cl3.slots.size ≤ ((0 : Int32)).toNatClampNeg) := inb_of S3 ⟨by decide, P1⟩
  obtain ⟨T4, h4, X4, e4, W4, st4⟩ := stB X2 hx hZ e2 Ar3 (j := (0 : Int32)) hin4 (g := (mkF m 43 #[.val (.ref t), .val (.int (1 : Int32)), .val (.int c)] [(.int (nar .byte (c >>> ((0 : Int32) &&& 31)))), (.int (0 : Int32)), (.ref t)])) rfl rfl (hb hby d12_43)
  have N4 := Fr.snoc X4 N0 (by omega)
  have sz5 := own_wr_le W4
  have K5 := K0.wr W4 (Or.inl (by simp))
  have O5 := O0.wr W4 (by omega)
  have V4 : Arv Z h4 t kb .byte N ((vs).set 0 (.int (nar .byte (nar .byte (c >>> ((0 : Int32) &&& 31)))))) dv := Arv.set Ar3 q3 S3 N3' H3 G3 (fits_nar_byte _) W4 0 rfl (Nat.lt_of_le_of_lt (Nat.le_succ _) P3)
  refine OwnEnd.of (S' := T4.setTop (mkF m 44 #[.val (.ref t), .val (.int (1 : Int32)), .val (.int c)] [])) st4 ?_
  refine OwnEnd.of (S' := T4.setTop (mkF m 47 #[.val (.ref t), .val (.int (1 : Int32)), .val (.int c)] [(.int c), (.int (1 : Int32)), (.ref t)])) (fun _ kK => XS.aloadN X4.here hx rfl (hb hby d12_44) rfl rfl (XS.iloadN X4.here hx rfl (hb hby d12_45) rfl (XS.iloadN X4.here hx rfl (hb hby d12_46) rfl kK))) ?_
  obtain ⟨T6, X6, e6, st6⟩ := getS2 X4 hx hZ hown (host := "") (Or.inl (own_w G 130 rfl)) Via.refl e4 (SLO.ext O5.2) (g := (mkF m 47 #[.val (.ref t), .val (.int (1 : Int32)), .val (.int c)] [(.int c), (.int (1 : Int32)), (.ref t)])) rfl (hb hby d12_47)
  refine OwnEnd.of (S' := T6.setTop (mkF m 50 #[.val (.ref t), .val (.int (1 : Int32)), .val (.int c)] [(.int (8 : Int32)), (.int c), (.int (1 : Int32)), (.ref t)])) st6 ?_
  refine OwnEnd.of (S' := T6.setTop (mkF m 52 #[.val (.ref t), .val (.int (1 : Int32)), .val (.int c)] [(.int (nar .byte (c >>> ((8 : Int32) &&& 31)))), (.int (1 : Int32)), (.ref t)])) (fun _ kK => XS.ishr X6.here hx rfl (hb hby d12_50) rfl (XS.i2b X6.here hx rfl (hb hby d12_51) rfl kK)) ?_
  obtain ⟨cl7, Ar7, q7, S7, N7', H7, G7⟩ := id V4
  have hin8 : ¬ ((1 : Int32) < 0 ∨ cl7.slots.size ≤ ((1 : Int32)).toNatClampNeg) := inb_of S7 ⟨by decide, P2⟩
  obtain ⟨T8, h8, X8, e8, W8, st8⟩ := stB X6 hx hZ e6 Ar7 (j := (1 : Int32)) hin8 (g := (mkF m 52 #[.val (.ref t), .val (.int (1 : Int32)), .val (.int c)] [(.int (nar .byte (c >>> ((8 : Int32) &&& 31)))), (.int (1 : Int32)), (.ref t)])) rfl rfl (hb hby d12_52)
  have N8 := Fr.snoc X8 N4 (by omega)
  have sz9 := own_wr_le W8
  have K9 := K5.wr W8 (Or.inl (by simp))
  have O9 := O5.wr W8 (by omega)
  have V8 : Arv Z h8 t kb .byte N ((((vs).set 0 (.int (nar .byte (nar .byte (c >>> ((0 : Int32) &&& 31))))))).set 1 (.int (nar .byte (nar .byte (c >>> ((8 : Int32) &&& 31)))))) dv := Arv.set Ar7 q7 S7 N7' H7 G7 (fits_nar_byte _) W8 1 rfl (by simpa using P3)
  refine OwnEnd.of (S' := T8.setTop (mkF m 53 #[.val (.ref t), .val (.int (1 : Int32)), .val (.int c)] [])) st8 ?_
  have V10 : Arv Z h8 t kb .byte N ((vs.set 0 (.int (StrChars.lo8 c))).set 1 (.int (StrChars.hi8 c))) dv := by have q := V8; rw [own_b0, own_b8] at q; exact q
  refine OwnEnd.ret X8 (v := none) (fun _ => rfl) hlk (fun fs hr => X8.returnOut hx Bd.returns (hb hby d12_53) hr) (by decide) (by decide) (Q := Qpu0 Z t kb N vs dv c h0 n0) e8 ?_
  exact ⟨rfl, N8, K9, V10⟩

theorem own_efpu1 (m : MethodId) (t : Addr) (c : Int32) : entryFrame m #[(.ref t), (.int (1 : Int32)), (.int c)] 3 = mkF m 0 #[.val (.ref t), .val (.int (1 : Int32)), .val (.int c)] [] := by first | (simp [entryFrame, mkF, argsToLocals, Value.category]; done) | rfl
def Qpu1 (Z : State) (t : Addr) (kb : ClassId) (N : Int32) (vs : List Value) (dv : Value) (c : Int32) (h0 : Heap) (n0 : Nat) (v : Option Value) (h : Heap) (L : List Loc) : Prop := v = none ∧ Fr n0 L ∧ Keep h0 h [t] ∧ (Arv Z h t kb .byte N ((vs.set 2 (.int (StrChars.lo8 c))).set 3 (.int (StrChars.hi8 c))) dv)
set_option maxRecDepth 65536 in
set_option maxHeartbeats 40000000 in
theorem rmpu1 (l : Launch) (Z : State) (a0 : Array Value) (G : OwnG Z a0) (ws : List Jvm.Cond) (t : Addr) (kb : ClassId) (N : Int32) (vs : List Value) (dv : Value) (c : Int32) (h0 : Heap) (n0 : Nat) (O0 : Old Z n0 h0) (P0 : Arv Z h0 t kb .byte N vs dv) (P1 : (2 : Int32) < N) (P2 : (3 : Int32) < N) (P3 : 3 < vs.length) (P4 : n0 ≤ t) :
    MetFree l own_m12 (head1 (Jvm.Cond.code own_m12 jdk_52_method_4_code 3 none :: ws) ({ frames := 0, cells := 0, slots := 0, locals := 0 } : Room)) (fun a U => a = #[(.ref t), (.int (1 : Int32)), (.int c)] ∧ Z.Warmed39 U.vm ∧ U.heap = h0) (fun _ _ _ _ _ => True) (fun _ U o U' => ∃ v L, o = .returned v ∧ Qpu1 Z t kb N vs dv c h0 n0 v U'.heap L ∧ FrameEnd U o U' L ({ frames := 0, cells := 0, slots := 0, locals := 0 } : Room).cells ({ frames := 0, cells := 0, slots := 0, locals := 0 } : Room).slots) := by
  refine MetFree.of_bodySF (plainFor_of_name pn_3) hisR ?_
  intro p e s m args below meth cD s₁ Bd hml0 hP hK
  obtain ⟨rfl, hZ, hh⟩ := hP
  have hw := G.1
  have hx := Bd.exec
  have hby := Bd.bytes
  have hml : cD.maxLocals = 3 := hml0
  have hown : s.vm.findClass "java/lang/StringUTF16" = some m.cls := findClass_of_methodNamed Bd.named
  have hnm := (name_of_methodNamed Bd.named Bd.method).1
  have hlk := Bd.notSynchronized
  have X0 : Stand p l e ({ frames := 0, cells := 0, slots := 0, locals := 0 } : Room) s m #[(.ref t), (.int (1 : Int32)), (.int c)] below meth cD s₁ [] 0 0 := Stand.of_body Bd
  have e0 : s₁.heap = h0 := by rw [← hh, Bd.state]; rfl
  have lt0 := own_ltN' P0.lt
  have K0 : Keep h0 h0 [t] := Keep.refl h0 _
  have Z0 := own_old_le O0
  have N0 := Fr.nil n0
  have SAD := own_ad G
  have SHI := own_hi G
  have SLO := own_lo G
  refine OwnEnd.start (g' := (mkF m 0 #[.val (.ref t), .val (.int (1 : Int32)), .val (.int c)] [])) (own_efpu1 m t c) ?_
  obtain ⟨T1, X1, e1, st1⟩ := getS2 X0 hx hZ hown (host := "") (Or.inl (own_w G 128 rfl)) Via.refl e0 (SAD.ext O0.2) (g := (mkF m 0 #[.val (.ref t), .val (.int (1 : Int32)), .val (.int c)] [])) rfl (hb hby d12_0)
  refine OwnEnd.of (S' := T1.setTop (mkF m 3 #[.val (.ref t), .val (.int (1 : Int32)), .val (.int c)] [(.int (1 : Int32))])) st1 ?_
  refine OwnEnd.of (S' := T1.setTop (mkF m 38 #[.val (.ref t), .val (.int (3 : Int32)), .val (.int c)] [(.int c), (.int (2 : Int32)), (.ref t)])) (fun _ kK => XS.ifYes X1.here hx rfl (pc0 := 3) (pc' := 28) rfl (hb hby d12_3) rfl ((if0 _ _).trans (feq ((by decide : ¬ ((1 : Int32) = (0 : Int32))))).2) (by decide) (by decide) (XS.iloadN X1.here hx rfl (hb hby d12_28) rfl (XS.iconst X1.here hx rfl (hb hby d12_29) (XS.ishl X1.here hx rfl (hb hby d12_30) rfl (XS.istoreN X1.here hx rfl (hb hby d12_31) rfl (l' := #[.val (.ref t), .val (.int (2 : Int32)), .val (.int c)]) rfl (XS.aloadN X1.here hx rfl (hb hby d12_32) rfl rfl (XS.iloadN X1.here hx rfl (hb hby d12_33) rfl (XS.iinc X1.here hx rfl (hb hby d12_34) rfl (l' := #[.val (.ref t), .val (.int (3 : Int32)), .val (.int c)]) rfl (XS.iloadN X1.here hx rfl (hb hby d12_37) rfl kK))))))))) ?_
  obtain ⟨T2, X2, e2, st2⟩ := getS2 X1 hx hZ hown (host := "") (Or.inl (own_w G 129 rfl)) Via.refl e1 (SHI.ext O0.2) (g := (mkF m 38 #[.val (.ref t), .val (.int (3 : Int32)), .val (.int c)] [(.int c), (.int (2 : Int32)), (.ref t)])) rfl (hb hby d12_38)
  refine OwnEnd.of (S' := T2.setTop (mkF m 41 #[.val (.ref t), .val (.int (3 : Int32)), .val (.int c)] [(.int (0 : Int32)), (.int c), (.int (2 : Int32)), (.ref t)])) st2 ?_
  refine OwnEnd.of (S' := T2.setTop (mkF m 43 #[.val (.ref t), .val (.int (3 : Int32)), .val (.int c)] [(.int (nar .byte (c >>> ((0 : Int32) &&& 31)))), (.int (2 : Int32)), (.ref t)])) (fun _ kK => XS.ishr X2.here hx rfl (hb hby d12_41) rfl (XS.i2b X2.here hx rfl (hb hby d12_42) rfl kK)) ?_
  obtain ⟨cl3, Ar3, q3, S3, N3', H3, G3⟩ := id P0
  have hin4 : ¬ ((2 : Int32) < 0 ∨ cl3.slots.size ≤ ((2 : Int32)).toNatClampNeg) := inb_of S3 ⟨by decide, P1⟩
  obtain ⟨T4, h4, X4, e4, W4, st4⟩ := stB X2 hx hZ e2 Ar3 (j := (2 : Int32)) hin4 (g := (mkF m 43 #[.val (.ref t), .val (.int (3 : Int32)), .val (.int c)] [(.int (nar .byte (c >>> ((0 : Int32) &&& 31)))), (.int (2 : Int32)), (.ref t)])) rfl rfl (hb hby d12_43)
  have N4 := Fr.snoc X4 N0 (by omega)
  have sz5 := own_wr_le W4
  have K5 := K0.wr W4 (Or.inl (by simp))
  have O5 := O0.wr W4 (by omega)
  have V4 : Arv Z h4 t kb .byte N ((vs).set 2 (.int (nar .byte (nar .byte (c >>> ((0 : Int32) &&& 31)))))) dv := Arv.set Ar3 q3 S3 N3' H3 G3 (fits_nar_byte _) W4 2 rfl (Nat.lt_of_le_of_lt (Nat.le_succ _) P3)
  refine OwnEnd.of (S' := T4.setTop (mkF m 44 #[.val (.ref t), .val (.int (3 : Int32)), .val (.int c)] [])) st4 ?_
  refine OwnEnd.of (S' := T4.setTop (mkF m 47 #[.val (.ref t), .val (.int (3 : Int32)), .val (.int c)] [(.int c), (.int (3 : Int32)), (.ref t)])) (fun _ kK => XS.aloadN X4.here hx rfl (hb hby d12_44) rfl rfl (XS.iloadN X4.here hx rfl (hb hby d12_45) rfl (XS.iloadN X4.here hx rfl (hb hby d12_46) rfl kK))) ?_
  obtain ⟨T6, X6, e6, st6⟩ := getS2 X4 hx hZ hown (host := "") (Or.inl (own_w G 130 rfl)) Via.refl e4 (SLO.ext O5.2) (g := (mkF m 47 #[.val (.ref t), .val (.int (3 : Int32)), .val (.int c)] [(.int c), (.int (3 : Int32)), (.ref t)])) rfl (hb hby d12_47)
  refine OwnEnd.of (S' := T6.setTop (mkF m 50 #[.val (.ref t), .val (.int (3 : Int32)), .val (.int c)] [(.int (8 : Int32)), (.int c), (.int (3 : Int32)), (.ref t)])) st6 ?_
  refine OwnEnd.of (S' := T6.setTop (mkF m 52 #[.val (.ref t), .val (.int (3 : Int32)), .val (.int c)] [(.int (nar .byte (c >>> ((8 : Int32) &&& 31)))), (.int (3 : Int32)), (.ref t)])) (fun _ kK => XS.ishr X6.here hx rfl (hb hby d12_50) rfl (XS.i2b X6.here hx rfl (hb hby d12_51) rfl kK)) ?_
  obtain ⟨cl7, Ar7, q7, S7, N7', H7, G7⟩ := id V4
  have hin8 : ¬ ((3 : Int32) < 0 ∨ cl7.slots.size ≤ ((3 : Int32)).toNatClampNeg) := inb_of S7 ⟨by decide, P2⟩
  obtain ⟨T8, h8, X8, e8, W8, st8⟩ := stB X6 hx hZ e6 Ar7 (j := (3 : Int32)) hin8 (g := (mkF m 52 #[.val (.ref t), .val (.int (3 : Int32)), .val (.int c)] [(.int (nar .byte (c >>> ((8 : Int32) &&& 31)))), (.int (3 : Int32)), (.ref t)])) rfl rfl (hb hby d12_52)
  have N8 := Fr.snoc X8 N4 (by omega)
  have sz9 := own_wr_le W8
  have K9 := K5.wr W8 (Or.inl (by simp))
  have O9 := O5.wr W8 (by omega)
  have V8 : Arv Z h8 t kb .byte N ((((vs).set 2 (.int (nar .byte (nar .byte (c >>> ((0 : Int32) &&& 31))))))).set 3 (.int (nar .byte (nar .byte (c >>> ((8 : Int32) &&& 31)))))) dv := Arv.set Ar7 q7 S7 N7' H7 G7 (fits_nar_byte _) W8 3 rfl (by simpa using P3)
  refine OwnEnd.of (S' := T8.setTop (mkF m 53 #[.val (.ref t), .val (.int (3 : Int32)), .val (.int c)] [])) st8 ?_
  have V10 : Arv Z h8 t kb .byte N ((vs.set 2 (.int (StrChars.lo8 c))).set 3 (.int (StrChars.hi8 c))) dv := by have q := V8; rw [own_b0, own_b8] at q; exact q
  refine OwnEnd.ret X8 (v := none) (fun _ => rfl) hlk (fun fs hr => X8.returnOut hx Bd.returns (hb hby d12_53) hr) (by decide) (by decide) (Q := Qpu1 Z t kb N vs dv c h0 n0) e8 ?_
  exact ⟨rfl, N8, K9, V10⟩

theorem own_efpu2 (m : MethodId) (t : Addr) (c : Int32) : entryFrame m #[(.ref t), (.int (2 : Int32)), (.int c)] 3 = mkF m 0 #[.val (.ref t), .val (.int (2 : Int32)), .val (.int c)] [] := by first | (simp [entryFrame, mkF, argsToLocals, Value.category]; done) | rfl
def Qpu2 (Z : State) (t : Addr) (kb : ClassId) (N : Int32) (vs : List Value) (dv : Value) (c : Int32) (h0 : Heap) (n0 : Nat) (v : Option Value) (h : Heap) (L : List Loc) : Prop := v = none ∧ Fr n0 L ∧ Keep h0 h [t] ∧ (Arv Z h t kb .byte N ((vs.set 4 (.int (StrChars.lo8 c))).set 5 (.int (StrChars.hi8 c))) dv)
set_option maxRecDepth 65536 in
set_option maxHeartbeats 40000000 in
theorem rmpu2 (l : Launch) (Z : State) (a0 : Array Value) (G : OwnG Z a0) (ws : List Jvm.Cond) (t : Addr) (kb : ClassId) (N : Int32) (vs : List Value) (dv : Value) (c : Int32) (h0 : Heap) (n0 : Nat) (O0 : Old Z n0 h0) (P0 : Arv Z h0 t kb .byte N vs dv) (P1 : (4 : Int32) < N) (P2 : (5 : Int32) < N) (P3 : 5 < vs.length) (P4 : n0 ≤ t) :
    MetFree l own_m12 (head1 (Jvm.Cond.code own_m12 jdk_52_method_4_code 3 none :: ws) ({ frames := 0, cells := 0, slots := 0, locals := 0 } : Room)) (fun a U => a = #[(.ref t), (.int (2 : Int32)), (.int c)] ∧ Z.Warmed39 U.vm ∧ U.heap = h0) (fun _ _ _ _ _ => True) (fun _ U o U' => ∃ v L, o = .returned v ∧ Qpu2 Z t kb N vs dv c h0 n0 v U'.heap L ∧ FrameEnd U o U' L ({ frames := 0, cells := 0, slots := 0, locals := 0 } : Room).cells ({ frames := 0, cells := 0, slots := 0, locals := 0 } : Room).slots) := by
  refine MetFree.of_bodySF (plainFor_of_name pn_3) hisR ?_
  intro p e s m args below meth cD s₁ Bd hml0 hP hK
  obtain ⟨rfl, hZ, hh⟩ := hP
  have hw := G.1
  have hx := Bd.exec
  have hby := Bd.bytes
  have hml : cD.maxLocals = 3 := hml0
  have hown : s.vm.findClass "java/lang/StringUTF16" = some m.cls := findClass_of_methodNamed Bd.named
  have hnm := (name_of_methodNamed Bd.named Bd.method).1
  have hlk := Bd.notSynchronized
  have X0 : Stand p l e ({ frames := 0, cells := 0, slots := 0, locals := 0 } : Room) s m #[(.ref t), (.int (2 : Int32)), (.int c)] below meth cD s₁ [] 0 0 := Stand.of_body Bd
  have e0 : s₁.heap = h0 := by rw [← hh, Bd.state]; rfl
  have lt0 := own_ltN' P0.lt
  have K0 : Keep h0 h0 [t] := Keep.refl h0 _
  have Z0 := own_old_le O0
  have N0 := Fr.nil n0
  have SAD := own_ad G
  have SHI := own_hi G
  have SLO := own_lo G
  refine OwnEnd.start (g' := (mkF m 0 #[.val (.ref t), .val (.int (2 : Int32)), .val (.int c)] [])) (own_efpu2 m t c) ?_
  obtain ⟨T1, X1, e1, st1⟩ := getS2 X0 hx hZ hown (host := "") (Or.inl (own_w G 128 rfl)) Via.refl e0 (SAD.ext O0.2) (g := (mkF m 0 #[.val (.ref t), .val (.int (2 : Int32)), .val (.int c)] [])) rfl (hb hby d12_0)
  refine OwnEnd.of (S' := T1.setTop (mkF m 3 #[.val (.ref t), .val (.int (2 : Int32)), .val (.int c)] [(.int (1 : Int32))])) st1 ?_
  refine OwnEnd.of (S' := T1.setTop (mkF m 38 #[.val (.ref t), .val (.int (5 : Int32)), .val (.int c)] [(.int c), (.int (4 : Int32)), (.ref t)])) (fun _ kK => XS.ifYes X1.here hx rfl (pc0 := 3) (pc' := 28) rfl (hb hby d12_3) rfl ((if0 _ _).trans (feq ((by decide : ¬ ((1 : Int32) = (0 : Int32))))).2) (by decide) (by decide) (XS.iloadN X1.here hx rfl (hb hby d12_28) rfl (XS.iconst X1.here hx rfl (hb hby d12_29) (XS.ishl X1.here hx rfl (hb hby d12_30) rfl (XS.istoreN X1.here hx rfl (hb hby d12_31) rfl (l' := #[.val (.ref t), .val (.int (4 : Int32)), .val (.int c)]) rfl (XS.aloadN X1.here hx rfl (hb hby d12_32) rfl rfl (XS.iloadN X1.here hx rfl (hb hby d12_33) rfl (XS.iinc X1.here hx rfl (hb hby d12_34) rfl (l' := #[.val (.ref t), .val (.int (5 : Int32)), .val (.int c)]) rfl (XS.iloadN X1.here hx rfl (hb hby d12_37) rfl kK))))))))) ?_
  obtain ⟨T2, X2, e2, st2⟩ := getS2 X1 hx hZ hown (host := "") (Or.inl (own_w G 129 rfl)) Via.refl e1 (SHI.ext O0.2) (g := (mkF m 38 #[.val (.ref t), .val (.int (5 : Int32)), .val (.int c)] [(.int c), (.int (4 : Int32)), (.ref t)])) rfl (hb hby d12_38)
  refine OwnEnd.of (S' := T2.setTop (mkF m 41 #[.val (.ref t), .val (.int (5 : Int32)), .val (.int c)] [(.int (0 : Int32)), (.int c), (.int (4 : Int32)), (.ref t)])) st2 ?_
  refine OwnEnd.of (S' := T2.setTop (mkF m 43 #[.val (.ref t), .val (.int (5 : Int32)), .val (.int c)] [(.int (nar .byte (c >>> ((0 : Int32) &&& 31)))), (.int (4 : Int32)), (.ref t)])) (fun _ kK => XS.ishr X2.here hx rfl (hb hby d12_41) rfl (XS.i2b X2.here hx rfl (hb hby d12_42) rfl kK)) ?_
  obtain ⟨cl3, Ar3, q3, S3, N3', H3, G3⟩ := id P0
  have hin4 : ¬ ((4 : Int32) < 0 ∨ cl3.slots.size ≤ ((4 : Int32)).toNatClampNeg) := inb_of S3 ⟨by decide, P1⟩
  obtain ⟨T4, h4, X4, e4, W4, st4⟩ := stB X2 hx hZ e2 Ar3 (j := (4 : Int32)) hin4 (g := (mkF m 43 #[.val (.ref t), .val (.int (5 : Int32)), .val (.int c)] [(.int (nar .byte (c >>> ((0 : Int32) &&& 31)))), (.int (4 : Int32)), (.ref t)])) rfl rfl (hb hby d12_43)
  have N4 := Fr.snoc X4 N0 (by omega)
  have sz5 := own_wr_le W4
  have K5 := K0.wr W4 (Or.inl (by simp))
  have O5 := O0.wr W4 (by omega)
  have V4 : Arv Z h4 t kb .byte N ((vs).set 4 (.int (nar .byte (nar .byte (c >>> ((0 : Int32) &&& 31)))))) dv := Arv.set Ar3 q3 S3 N3' H3 G3 (fits_nar_byte _) W4 4 rfl (Nat.lt_of_le_of_lt (Nat.le_succ _) P3)
  refine OwnEnd.of (S' := T4.setTop (mkF m 44 #[.val (.ref t), .val (.int (5 : Int32)), .val (.int c)] [])) st4 ?_
  refine OwnEnd.of (S' := T4.setTop (mkF m 47 #[.val (.ref t), .val (.int (5 : Int32)), .val (.int c)] [(.int c), (.int (5 : Int32)), (.ref t)])) (fun _ kK => XS.aloadN X4.here hx rfl (hb hby d12_44) rfl rfl (XS.iloadN X4.here hx rfl (hb hby d12_45) rfl (XS.iloadN X4.here hx rfl (hb hby d12_46) rfl kK))) ?_
  obtain ⟨T6, X6, e6, st6⟩ := getS2 X4 hx hZ hown (host := "") (Or.inl (own_w G 130 rfl)) Via.refl e4 (SLO.ext O5.2) (g := (mkF m 47 #[.val (.ref t), .val (.int (5 : Int32)), .val (.int c)] [(.int c), (.int (5 : Int32)), (.ref t)])) rfl (hb hby d12_47)
  refine OwnEnd.of (S' := T6.setTop (mkF m 50 #[.val (.ref t), .val (.int (5 : Int32)), .val (.int c)] [(.int (8 : Int32)), (.int c), (.int (5 : Int32)), (.ref t)])) st6 ?_
  refine OwnEnd.of (S' := T6.setTop (mkF m 52 #[.val (.ref t), .val (.int (5 : Int32)), .val (.int c)] [(.int (nar .byte (c >>> ((8 : Int32) &&& 31)))), (.int (5 : Int32)), (.ref t)])) (fun _ kK => XS.ishr X6.here hx rfl (hb hby d12_50) rfl (XS.i2b X6.here hx rfl (hb hby d12_51) rfl kK)) ?_
  obtain ⟨cl7, Ar7, q7, S7, N7', H7, G7⟩ := id V4
  have hin8 : ¬ ((5 : Int32) < 0 ∨ cl7.slots.size ≤ ((5 : Int32)).toNatClampNeg) := inb_of S7 ⟨by decide, P2⟩
  obtain ⟨T8, h8, X8, e8, W8, st8⟩ := stB X6 hx hZ e6 Ar7 (j := (5 : Int32)) hin8 (g := (mkF m 52 #[.val (.ref t), .val (.int (5 : Int32)), .val (.int c)] [(.int (nar .byte (c >>> ((8 : Int32) &&& 31)))), (.int (5 : Int32)), (.ref t)])) rfl rfl (hb hby d12_52)
  have N8 := Fr.snoc X8 N4 (by omega)
  have sz9 := own_wr_le W8
  have K9 := K5.wr W8 (Or.inl (by simp))
  have O9 := O5.wr W8 (by omega)
  have V8 : Arv Z h8 t kb .byte N ((((vs).set 4 (.int (nar .byte (nar .byte (c >>> ((0 : Int32) &&& 31))))))).set 5 (.int (nar .byte (nar .byte (c >>> ((8 : Int32) &&& 31)))))) dv := Arv.set Ar7 q7 S7 N7' H7 G7 (fits_nar_byte _) W8 5 rfl (by simpa using P3)
  refine OwnEnd.of (S' := T8.setTop (mkF m 53 #[.val (.ref t), .val (.int (5 : Int32)), .val (.int c)] [])) st8 ?_
  have V10 : Arv Z h8 t kb .byte N ((vs.set 4 (.int (StrChars.lo8 c))).set 5 (.int (StrChars.hi8 c))) dv := by have q := V8; rw [own_b0, own_b8] at q; exact q
  refine OwnEnd.ret X8 (v := none) (fun _ => rfl) hlk (fun fs hr => X8.returnOut hx Bd.returns (hb hby d12_53) hr) (by decide) (by decide) (Q := Qpu2 Z t kb N vs dv c h0 n0) e8 ?_
  exact ⟨rfl, N8, K9, V10⟩

theorem own_efnb1 (m : MethodId) : entryFrame m #[(.int (1 : Int32))] 1 = mkF m 0 #[.val (.int (1 : Int32))] [] := by first | (simp [entryFrame, mkF, argsToLocals, Value.category]; done) | rfl
def Qnb1 (Z : State)  (h0 : Heap) (n0 : Nat) (v : Option Value) (h : Heap) (L : List Loc) : Prop := ∃ (t : Addr) (kb : ClassId), v = some (.ref t) ∧ Fr n0 L ∧ Keep h0 h [] ∧ (Arv Z h t kb .byte (2 : Int32) [(.int (0 : Int32)), (.int (0 : Int32))] (.int (0 : Int32))) ∧ (Array.size h0 ≤ t)
set_option maxRecDepth 65536 in
set_option maxHeartbeats 40000000 in
theorem rmnb1 (l : Launch) (Z : State) (a0 : Array Value) (G : OwnG Z a0) (ws : List Jvm.Cond)  (h0 : Heap) (n0 : Nat) (O0 : Old Z n0 h0)  :
    MetFree l own_m13 (head1 (Jvm.Cond.code own_m13 jdk_52_method_2_code 1 (some (.array .byte)) :: ws) ({ frames := 1, cells := 1, slots := 2, locals := 12 } : Room)) (fun a U => a = #[(.int (1 : Int32))] ∧ Z.Warmed39 U.vm ∧ U.heap = h0) (fun _ _ _ _ _ => True) (fun _ U o U' => ∃ v L, o = .returned v ∧ Qnb1 Z  h0 n0 v U'.heap L ∧ FrameEnd U o U' L ({ frames := 1, cells := 1, slots := 2, locals := 12 } : Room).cells ({ frames := 1, cells := 1, slots := 2, locals := 12 } : Room).slots) := by
  refine MetFree.of_bodySF (plainFor_of_name pn_3) hisR ?_
  intro p e s m args below meth cD s₁ Bd hml0 hP hK
  obtain ⟨rfl, hZ, hh⟩ := hP
  have hw := G.1
  have hx := Bd.exec
  have hby := Bd.bytes
  have hml : cD.maxLocals = 1 := hml0
  have hown : s.vm.findClass "java/lang/StringUTF16" = some m.cls := findClass_of_methodNamed Bd.named
  have hnm := (name_of_methodNamed Bd.named Bd.method).1
  have hlk := Bd.notSynchronized
  have X0 : Stand p l e ({ frames := 1, cells := 1, slots := 2, locals := 12 } : Room) s m #[(.int (1 : Int32))] below meth cD s₁ [] 0 0 := Stand.of_body Bd
  have e0 : s₁.heap = h0 := by rw [← hh, Bd.state]; rfl
  have K0 : Keep h0 h0 [] := Keep.refl h0 _
  have Z0 := own_old_le O0
  have N0 := Fr.nil n0
  refine OwnEnd.start (g' := (mkF m 0 #[.val (.int (1 : Int32))] [])) (own_efnb1 m ) ?_
  refine OwnEnd.of (S' := s₁.setTop (mkF m 1 #[.val (.int (1 : Int32))] [(.int (1 : Int32))])) (fun _ kK => XS.iloadN X0.here hx rfl (hb hby d13_0) rfl kK) ?_
  obtain ⟨_, _, ⟨T1, L1, k1, n1⟩, -, X1, ⟨Lc1, hQ1, l1, y1, z1⟩, st1⟩ := Jvm.LawKit.callS X0 hx (y := own_m11) hown (mvT hZ (own_w G 121 rfl)) (mvT hZ (own_w G 122 rfl)) (mvT hZ (own_w G 27 rfl)) (mvT hZ (own_w G 123 rfl)) (by decide) (backOf (W := 0) (rmnl l Z a0 G [] (1 : Int32) (2 : Int32) h0 n0 O0 (by decide : ¬ (1 : Int32) < (0 : Int32)) (by decide : (1 : Int32) < (1073741823 : Int32)) (by decide : (1 : Int32) <<< ((1 : Int32) &&& 31) = (2 : Int32))) hZ (own_w G 123 rfl) (own_w G 27 rfl) (by decide) (by decide)) (g := (mkF m 1 #[.val (.int (1 : Int32))] [(.int (1 : Int32))])) rfl (by rw [hml]; rfl) (argsL := [(.int (1 : Int32))]) (rest := []) (lenOf pd_7 rfl) rfl (by show 2 * 0 + _ ≤ _; exact Nat.le_of_eq rfl) (hb hby d13_1) (fun _ _ => ⟨rfl, e0, (by decide : 0 + 0 ≤ _), (by decide : 0 + 0 ≤ _)⟩)
  dsimp only [Pt.U, Pt.locs, Pt.cells, Pt.slots] at X1 l1 y1 z1 st1 hQ1
  subst l1 y1 z1
  obtain ⟨rfl, N1q, eh1⟩ := hQ1
  have N1 := Fr.app N0 N1q
  refine OwnEnd.of (S' := T1.setTop (mkF m 4 #[.val (.int (1 : Int32))] [(.int (2 : Int32))])) st1 ?_
  obtain ⟨T2, h2, k2, X2, e2, E2, A2, st2⟩ := newP X1 hx hZ (own_w G 29 rfl) eh1 (g := (mkF m 4 #[.val (.int (1 : Int32))] [(.int (2 : Int32))])) rfl (hb hby d13_4) rfl (by decide) (cap := 2) (by decide) (by decide) (by decide) (by decide)
  obtain ⟨b2, g2⟩ : ∃ z, z = Array.size h0 := ⟨_, rfl⟩
  rw [← g2] at A2 st2
  have lt_b2 := own_ltN' A2.lt
  have sz3 := E2.1
  have K3 := K0.ext E2
  have O3 := O0.ext E2
  have V2 : Arv Z h2 b2 k2 .byte (2 : Int32) [(.int (0 : Int32)), (.int (0 : Int32))] (.int (0 : Int32)) := (Arv.new A2 (by decide)).pad (pad_rep [] (.int (0 : Int32)) 2)
  refine OwnEnd.of (S' := T2.setTop (mkF m 6 #[.val (.int (1 : Int32))] [(.ref b2)])) st2 ?_
  refine OwnEnd.ret X2 (v := (some (.ref b2))) (fun h => by rw [Bd.returns] at h; cases h) hlk (fun fs hr => retOut X2 hx Bd.returns rfl (Or.inr (Or.inr (Or.inr (Or.inr ⟨rfl, rfl, rfl⟩)))) (hb hby d13_6) hr) (by decide) (by decide) (Q := Qnb1 Z  h0 n0) e2 ?_
  exact ⟨b2, k2, rfl, N1, K3, V2, (by omega)⟩

theorem own_efby1 (m : MethodId) (b : Addr) : entryFrame m #[(.ref b), (.int (0 : Int32)), (.int (1 : Int32))] 5 = mkF m 0 #[.val (.ref b), .val (.int (0 : Int32)), .val (.int (1 : Int32)), .unset, .unset] [] := by first | (simp [entryFrame, mkF, argsToLocals, Value.category]; done) | rfl
def Qby1 (Z : State) (b : Addr) (kC : ClassId) (dC : Value) (c0 : Int32) (h0 : Heap) (n0 : Nat) (v : Option Value) (h : Heap) (L : List Loc) : Prop := ∃ (t : Addr) (kb : ClassId), v = some (.ref t) ∧ Fr n0 L ∧ Keep h0 h [] ∧ (Arv Z h t kb .byte (2 : Int32) (StrChars.Road.wideBytes [c0]) (.int (0 : Int32))) ∧ (Array.size h0 ≤ t)
set_option maxRecDepth 65536 in
set_option maxHeartbeats 40000000 in
theorem rmby1 (l : Launch) (Z : State) (a0 : Array Value) (G : OwnG Z a0) (ws : List Jvm.Cond) (b : Addr) (kC : ClassId) (dC : Value) (c0 : Int32) (h0 : Heap) (n0 : Nat) (O0 : Old Z n0 h0) (P0 : Arv Z h0 b kC .char (1 : Int32) [(.int c0)] dC) :
    MetFree l own_m14 (head1 (Jvm.Cond.code own_m14 jdk_52_method_14_code 5 (some (.array .byte)) :: ws) ({ frames := 2, cells := 1, slots := 2, locals := 24 } : Room)) (fun a U => a = #[(.ref b), (.int (0 : Int32)), (.int (1 : Int32))] ∧ Z.Warmed39 U.vm ∧ U.heap = h0) (fun _ _ _ _ _ => True) (fun _ U o U' => ∃ v L, o = .returned v ∧ Qby1 Z b kC dC c0 h0 n0 v U'.heap L ∧ FrameEnd U o U' L ({ frames := 2, cells := 1, slots := 2, locals := 24 } : Room).cells ({ frames := 2, cells := 1, slots := 2, locals := 24 } : Room).slots) := by
  refine MetFree.of_bodySF (plainFor_of_name pn_3) hisR ?_
  intro p e s m args below meth cD s₁ Bd hml0 hP hK
  obtain ⟨rfl, hZ, hh⟩ := hP
  have hw := G.1
  have hx := Bd.exec
  have hby := Bd.bytes
  have hml : cD.maxLocals = 5 := hml0
  have hown : s.vm.findClass "java/lang/StringUTF16" = some m.cls := findClass_of_methodNamed Bd.named
  have hnm := (name_of_methodNamed Bd.named Bd.method).1
  have hlk := Bd.notSynchronized
  have X0 : Stand p l e ({ frames := 2, cells := 1, slots := 2, locals := 24 } : Room) s m #[(.ref b), (.int (0 : Int32)), (.int (1 : Int32))] below meth cD s₁ [] 0 0 := Stand.of_body Bd
  have e0 : s₁.heap = h0 := by rw [← hh, Bd.state]; rfl
  have lt0 := own_ltN' P0.lt
  have K0 : Keep h0 h0 [] := Keep.refl h0 _
  have Z0 := own_old_le O0
  have N0 := Fr.nil n0
  refine OwnEnd.start (g' := (mkF m 0 #[.val (.ref b), .val (.int (0 : Int32)), .val (.int (1 : Int32)), .unset, .unset] [])) (own_efby1 m b) ?_
  refine OwnEnd.of (S' := s₁.setTop (mkF m 1 #[.val (.ref b), .val (.int (0 : Int32)), .val (.int (1 : Int32)), .unset, .unset] [(.int (1 : Int32))])) (fun _ kK => XS.iloadN X0.here hx rfl (hb hby d14_0) rfl kK) ?_
  obtain ⟨_, _, ⟨T1, L1, k1, n1⟩, -, X1, ⟨Lc1, hQ1, l1, y1, z1⟩, st1⟩ := Jvm.LawKit.callS X0 hx (y := own_m13) hown (mvT hZ (own_w G 118 rfl)) (mvT hZ (own_w G 119 rfl)) (mvT hZ (own_w G 27 rfl)) (mvT hZ (own_w G 120 rfl)) (by decide) (backOf (W := 0) (rmnb1 l Z a0 G []  h0 n0 O0 ) hZ (own_w G 120 rfl) (own_w G 27 rfl) (by decide) (by decide)) (g := (mkF m 1 #[.val (.ref b), .val (.int (0 : Int32)), .val (.int (1 : Int32)), .unset, .unset] [(.int (1 : Int32))])) rfl (by rw [hml]; rfl) (argsL := [(.int (1 : Int32))]) (rest := []) (lenOf pd_8 rfl) rfl (by show 2 * 0 + _ ≤ _; exact Nat.le_of_eq rfl) (hb hby d14_1) (fun _ _ => ⟨rfl, e0, (by decide : 0 + 1 ≤ _), (by decide : 0 + 2 ≤ _)⟩)
  dsimp only [Pt.U, Pt.locs, Pt.cells, Pt.slots] at X1 l1 y1 z1 st1 hQ1
  subst l1 y1 z1
  obtain ⟨t_1, kb_1, rfl, N1q, Kq1, r1_0, r1_1⟩ := hQ1
  have N1 := Fr.app N0 N1q
  have sz2 := Kq1.1
  have K2 := K0.trans Kq1 (own_all0 )
  have O2 := O0.keep Kq1 (own_all0 )
  have ltr1_0 := own_ltN' r1_0.lt
  refine OwnEnd.of (S' := T1.setTop (mkF m 4 #[.val (.ref b), .val (.int (0 : Int32)), .val (.int (1 : Int32)), .unset, .unset] [(.ref t_1)])) st1 ?_
  refine OwnEnd.of (S' := T1.setTop (mkF m 19 #[.val (.ref b), .val (.int (0 : Int32)), .val (.int (1 : Int32)), .val (.ref t_1), .val (.int (0 : Int32))] [(.int (0 : Int32)), (.ref b), (.int (0 : Int32)), (.ref t_1)])) (fun _ kK => XS.astoreN X1.here hx rfl (hb hby d14_4) rfl rfl (l' := #[.val (.ref b), .val (.int (0 : Int32)), .val (.int (1 : Int32)), .val (.ref t_1), .unset]) rfl (XS.iconst X1.here hx rfl (hb hby d14_5) (XS.istore X1.here hx rfl (hb hby d14_6) rfl (l' := #[.val (.ref b), .val (.int (0 : Int32)), .val (.int (1 : Int32)), .val (.ref t_1), .val (.int (0 : Int32))]) rfl (XS.iload X1.here hx rfl (hb hby d14_8) rfl (XS.iloadN X1.here hx rfl (hb hby d14_10) rfl (XS.icmpNo X1.here hx rfl (hb hby d14_11) rfl (tlt ((by decide : (0 : Int32) < (1 : Int32)))).2.1 (XS.aloadN X1.here hx rfl (hb hby d14_14) rfl rfl (XS.iload X1.here hx rfl (hb hby d14_15) rfl (XS.aloadN X1.here hx rfl (hb hby d14_17) rfl rfl (XS.iloadN X1.here hx rfl (hb hby d14_18) rfl kK)))))))))) ?_
  have f3 : Arv Z T1.heap b kC .char (1 : Int32) [(.int c0)] dC := (P0.keep Kq1 nin0)
  obtain ⟨cl4, Ar4, q4, S4, N4', H4, G4⟩ := id f3
  have hin5 : ¬ ((0 : Int32) < 0 ∨ cl4.slots.size ≤ ((0 : Int32)).toNatClampNeg) := inb_of S4 ⟨by decide, by decide⟩
  refine OwnEnd.of (S' := T1.setTop (mkF m 20 #[.val (.ref b), .val (.int (0 : Int32)), .val (.int (1 : Int32)), .val (.ref t_1), .val (.int (0 : Int32))] [(.int c0), (.int (0 : Int32)), (.ref t_1)])) (fun _ kK => X1.caload hx (j := (0 : Int32)) (v := (.int c0)) Ar4.1 (State.isArrayOf_alike hZ.alike Ar4.2.1) Ar4.2.2 hin5 (Has.at H4 hin5 (rfl)) (g := (mkF m 19 #[.val (.ref b), .val (.int (0 : Int32)), .val (.int (1 : Int32)), .val (.ref t_1), .val (.int (0 : Int32))] [(.int (0 : Int32)), (.ref b), (.int (0 : Int32)), (.ref t_1)])) rfl rfl (hb hby d14_19) _ kK) ?_
  obtain ⟨_, _, ⟨T6, L6, k6, n6⟩, -, X6, ⟨Lc6, hQ6, l6, y6, z6⟩, st6⟩ := Jvm.LawKit.callS X1 hx (y := own_m12) hown (mvT hZ (own_w G 125 rfl)) (mvT hZ (own_w G 126 rfl)) (mvT hZ (own_w G 27 rfl)) (mvT hZ (own_w G 127 rfl)) (by decide) (backOf (W := 0) (rmpu0 l Z a0 G [] t_1 kb_1 (2 : Int32) [(.int (0 : Int32)), (.int (0 : Int32))] (.int (0 : Int32)) c0 T1.heap n0 O2 r1_0 (by decide : (0 : Int32) < (2 : Int32)) (by decide : (1 : Int32) < (2 : Int32)) (Nat.le_of_ble_eq_true rfl : 1 < [(.int (0 : Int32)), (.int (0 : Int32))].length) (by omega)) hZ (own_w G 127 rfl) (own_w G 27 rfl) (by decide) (by decide)) (g := (mkF m 20 #[.val (.ref b), .val (.int (0 : Int32)), .val (.int (1 : Int32)), .val (.ref t_1), .val (.int (0 : Int32))] [(.int c0), (.int (0 : Int32)), (.ref t_1)])) rfl (by rw [hml]; rfl) (argsL := [(.ref t_1), (.int (0 : Int32)), (.int c0)]) (rest := []) (lenOf pd_9 rfl) rfl (by show 2 * 0 + _ ≤ _; exact Nat.le_of_eq rfl) (hb hby d14_20) (fun _ _ => ⟨rfl, rfl, (by decide : 1 + 0 ≤ _), (by decide : 2 + 0 ≤ _)⟩)
  dsimp only [Pt.U, Pt.locs, Pt.cells, Pt.slots] at X6 l6 y6 z6 st6 hQ6
  subst l6 y6 z6
  obtain ⟨rfl, N6q, Kq6, r6_0⟩ := hQ6
  have N6 := Fr.app N1 N6q
  have sz7 := Kq6.1
  have K7 := K2.trans Kq6 (own_all1 (Or.inr (by omega)))
  have O7 := O2.keep Kq6 (own_all1 (by omega))
  have ltr6_0 := own_ltN' r6_0.lt
  refine OwnEnd.of (S' := T6.setTop (mkF m 23 #[.val (.ref b), .val (.int (0 : Int32)), .val (.int (1 : Int32)), .val (.ref t_1), .val (.int (0 : Int32))] [])) st6 ?_
  have V8 : Arv Z T6.heap t_1 kb_1 .byte (2 : Int32) [(.int (StrChars.lo8 c0)), (.int (StrChars.hi8 c0))] (.int (0 : Int32)) := by have q := r6_0; exact q
  refine OwnEnd.of (S' := T6.setTop (mkF m 33 #[.val (.ref b), .val (.int (1 : Int32)), .val (.int (1 : Int32)), .val (.ref t_1), .val (.int (1 : Int32))] [(.ref t_1)])) (fun _ kK => XS.iinc X6.here hx rfl (hb hby d14_23) rfl (l' := #[.val (.ref b), .val (.int (1 : Int32)), .val (.int (1 : Int32)), .val (.ref t_1), .val (.int (0 : Int32))]) rfl (XS.iinc X6.here hx rfl (hb hby d14_26) rfl (l' := #[.val (.ref b), .val (.int (1 : Int32)), .val (.int (1 : Int32)), .val (.ref t_1), .val (.int (1 : Int32))]) rfl (XS.goto X6.here hx rfl (pc0 := 29) (pc' := 8) rfl (hb hby d14_29) (by decide) (by decide) (XS.iload X6.here hx rfl (hb hby d14_8) rfl (XS.iloadN X6.here hx rfl (hb hby d14_10) rfl (XS.icmpYes X6.here hx rfl (pc0 := 11) (pc' := 32) rfl (hb hby d14_11) rfl (flt ((by decide : ¬ ((1 : Int32) < (1 : Int32))))).2.1 (by decide) (by decide) (XS.aloadN X6.here hx rfl (hb hby d14_32) rfl rfl kK))))))) ?_
  have V9 : Arv Z T6.heap t_1 kb_1 .byte (2 : Int32) (StrChars.Road.wideBytes [c0]) (.int (0 : Int32)) := by have q := V8; exact q
  refine OwnEnd.ret X6 (v := (some (.ref t_1))) (fun h => by rw [Bd.returns] at h; cases h) hlk (fun fs hr => retOut X6 hx Bd.returns rfl (Or.inr (Or.inr (Or.inr (Or.inr ⟨rfl, rfl, rfl⟩)))) (hb hby d14_33) hr) (by decide) (by decide) (Q := Qby1 Z b kC dC c0 h0 n0) rfl ?_
  exact ⟨t_1, kb_1, rfl, N6, K7, V9, (by omega)⟩

theorem own_efcv1 (m : MethodId) (b : Addr) (t : Addr) : entryFrame m #[(.ref b), (.int (0 : Int32)), (.ref t), (.int (0 : Int32)), (.int (1 : Int32))] 7 = mkF m 0 #[.val (.ref b), .val (.int (0 : Int32)), .val (.ref t), .val (.int (0 : Int32)), .val (.int (1 : Int32)), .unset, .unset] [] := by first | (simp [entryFrame, mkF, argsToLocals, Value.category]; done) | rfl
def Qcv1 (Z : State) (b : Addr) (t : Addr) (kC : ClassId) (dC : Value) (kb : ClassId) (c0 : Int32) (h0 : Heap) (n0 : Nat) (v : Option Value) (h : Heap) (L : List Loc) : Prop := v = some (.int (own_first [c0])) ∧ Fr n0 L ∧ Keep h0 h [t] ∧ (Arv Z h t kb .byte (1 : Int32) (own_cbs [c0]) (.int (0 : Int32)))
set_option maxRecDepth 65536 in
set_option maxHeartbeats 40000000 in
theorem rmcv1 (l : Launch) (Z : State) (a0 : Array Value) (G : OwnG Z a0) (ws : List Jvm.Cond) (b : Addr) (t : Addr) (kC : ClassId) (dC : Value) (kb : ClassId) (c0 : Int32) (h0 : Heap) (n0 : Nat) (O0 : Old Z n0 h0) (P0 : Arv Z h0 b kC .char (1 : Int32) [(.int c0)] dC) (P1 : Arv Z h0 t kb .byte (1 : Int32) [(.int (0 : Int32))] (.int (0 : Int32))) (P2 : n0 ≤ t) (P3 : b ≠ t) :
    MetFree l own_m15 (head1 (Jvm.Cond.code own_m15 jdk_52_method_21_code 7 (some .int) :: ws) ({ frames := 0, cells := 0, slots := 0, locals := 0 } : Room)) (fun a U => a = #[(.ref b), (.int (0 : Int32)), (.ref t), (.int (0 : Int32)), (.int (1 : Int32))] ∧ Z.Warmed39 U.vm ∧ U.heap = h0) (fun _ _ _ _ _ => True) (fun _ U o U' => ∃ v L, o = .returned v ∧ Qcv1 Z b t kC dC kb c0 h0 n0 v U'.heap L ∧ FrameEnd U o U' L ({ frames := 0, cells := 0, slots := 0, locals := 0 } : Room).cells ({ frames := 0, cells := 0, slots := 0, locals := 0 } : Room).slots) := by
  refine MetFree.of_bodySF (plainFor_of_name pn_3) hisR ?_
  intro p e s m args below meth cD s₁ Bd hml0 hP hK
  obtain ⟨rfl, hZ, hh⟩ := hP
  have hw := G.1
  have hx := Bd.exec
  have hby := Bd.bytes
  have hml : cD.maxLocals = 7 := hml0
  have hown : s.vm.findClass "java/lang/StringUTF16" = some m.cls := findClass_of_methodNamed Bd.named
  have hnm := (name_of_methodNamed Bd.named Bd.method).1
  have hlk := Bd.notSynchronized
  have X0 : Stand p l e ({ frames := 0, cells := 0, slots := 0, locals := 0 } : Room) s m #[(.ref b), (.int (0 : Int32)), (.ref t), (.int (0 : Int32)), (.int (1 : Int32))] below meth cD s₁ [] 0 0 := Stand.of_body Bd
  have e0 : s₁.heap = h0 := by rw [← hh, Bd.state]; rfl
  have lt0 := own_ltN' P0.lt
  have lt1 := own_ltN' P1.lt
  have nP3 := own_neN P3
  have K0 : Keep h0 h0 [t] := Keep.refl h0 _
  have Z0 := own_old_le O0
  have N0 := Fr.nil n0
  refine OwnEnd.start (g' := (mkF m 0 #[.val (.ref b), .val (.int (0 : Int32)), .val (.ref t), .val (.int (0 : Int32)), .val (.int (1 : Int32)), .unset, .unset] [])) (own_efcv1 m b t) ?_
  refine OwnEnd.of (S' := s₁.setTop (mkF m 12 #[.val (.ref b), .val (.int (0 : Int32)), .val (.ref t), .val (.int (0 : Int32)), .val (.int (1 : Int32)), .val (.int (0 : Int32)), .unset] [(.int (0 : Int32)), (.ref b)])) (fun _ kK => XS.iconst X0.here hx rfl (hb hby d15_0) (XS.istore X0.here hx rfl (hb hby d15_1) rfl (l' := #[.val (.ref b), .val (.int (0 : Int32)), .val (.ref t), .val (.int (0 : Int32)), .val (.int (1 : Int32)), .val (.int (0 : Int32)), .unset]) rfl (XS.iload X0.here hx rfl (hb hby d15_3) rfl (XS.iload X0.here hx rfl (hb hby d15_5) rfl (XS.icmpNo X0.here hx rfl (hb hby d15_7) rfl (tlt ((by decide : (0 : Int32) < (1 : Int32)))).2.1 (XS.aloadN X0.here hx rfl (hb hby d15_10) rfl rfl (XS.iloadN X0.here hx rfl (hb hby d15_11) rfl kK))))))) ?_
  obtain ⟨cl1, Ar1, q1, S1, N1', H1, G1⟩ := id P0
  have hin2 : ¬ ((0 : Int32) < 0 ∨ cl1.slots.size ≤ ((0 : Int32)).toNatClampNeg) := inb_of S1 ⟨by decide, by decide⟩
  refine OwnEnd.of (S' := s₁.setTop (mkF m 13 #[.val (.ref b), .val (.int (0 : Int32)), .val (.ref t), .val (.int (0 : Int32)), .val (.int (1 : Int32)), .val (.int (0 : Int32)), .unset] [(.int c0)])) (fun _ kK => X0.caload hx (j := (0 : Int32)) (v := (.int c0)) (by rw [e0]; exact Ar1.1) (State.isArrayOf_alike hZ.alike Ar1.2.1) Ar1.2.2 hin2 (Has.at H1 hin2 (rfl)) (g := (mkF m 12 #[.val (.ref b), .val (.int (0 : Int32)), .val (.ref t), .val (.int (0 : Int32)), .val (.int (1 : Int32)), .val (.int (0 : Int32)), .unset] [(.int (0 : Int32)), (.ref b)])) rfl rfl (hb hby d15_12) _ kK) ?_
  refine OwnEnd.of (S' := s₁.setTop (mkF m 20 #[.val (.ref b), .val (.int (0 : Int32)), .val (.ref t), .val (.int (0 : Int32)), .val (.int (1 : Int32)), .val (.int (0 : Int32)), .val (.int c0)] [(.int (255 : Int32)), (.int c0)])) (fun _ kK => XS.istore X0.here hx rfl (hb hby d15_13) rfl (l' := #[.val (.ref b), .val (.int (0 : Int32)), .val (.ref t), .val (.int (0 : Int32)), .val (.int (1 : Int32)), .val (.int (0 : Int32)), .val (.int c0)]) rfl (XS.iload X0.here hx rfl (hb hby d15_15) rfl (XS.sipush X0.here hx rfl (hb hby d15_17) kK))) ?_
  rcases Decidable.em ((255 : Int32) < c0) with hc3 | hc3
  · refine OwnEnd.of (S' := s₁.setTop (mkF m 25 #[.val (.ref b), .val (.int (0 : Int32)), .val (.ref t), .val (.int (0 : Int32)), .val (.int (1 : Int32)), .val (.int (0 : Int32)), .val (.int c0)] [(.int (0 : Int32))])) (fun _ kK => XS.icmpNo X0.here hx rfl (hb hby d15_20) rfl (tlt (hc3)).2.2.2 (XS.iload X0.here hx rfl (hb hby d15_23) rfl kK)) ?_
    have V4 : Arv Z h0 t kb .byte (1 : Int32) (own_cbs [c0]) (.int (0 : Int32)) := by have q := P1; simpa [own_cbs, hc3] using q
    refine OwnEnd.ret X0 (v := (some (.int (0 : Int32)))) (fun h => by rw [Bd.returns] at h; cases h) hlk (fun fs hr => retOut X0 hx Bd.returns rfl (Or.inl ⟨rfl, Or.inl rfl, _, rfl⟩) (hb hby d15_25) hr) (by decide) (by decide) (Q := Qcv1 Z b t kC dC kb c0 h0 n0) e0 ?_
    exact ⟨(by simp [own_first, hc3]), N0, K0, V4⟩
  · refine OwnEnd.of (S' := s₁.setTop (mkF m 31 #[.val (.ref b), .val (.int (0 : Int32)), .val (.ref t), .val (.int (0 : Int32)), .val (.int (1 : Int32)), .val (.int (0 : Int32)), .val (.int c0)] [(.int (nar .byte c0)), (.int (0 : Int32)), (.ref t)])) (fun _ kK => XS.icmpYes X0.here hx rfl (pc0 := 20) (pc' := 26) rfl (hb hby d15_20) rfl (flt (hc3)).2.2.2 (by decide) (by decide) (XS.aloadN X0.here hx rfl (hb hby d15_26) rfl rfl (XS.iloadN X0.here hx rfl (hb hby d15_27) rfl (XS.iload X0.here hx rfl (hb hby d15_28) rfl (XS.i2b X0.here hx rfl (hb hby d15_30) rfl kK))))) ?_
    obtain ⟨cl5, Ar5, q5, S5, N5', H5, G5⟩ := id P1
    have hin6 : ¬ ((0 : Int32) < 0 ∨ cl5.slots.size ≤ ((0 : Int32)).toNatClampNeg) := inb_of S5 ⟨by decide, by decide⟩
    obtain ⟨T6, h6, X6, e6, W6, st6⟩ := stB X0 hx hZ e0 Ar5 (j := (0 : Int32)) hin6 (g := (mkF m 31 #[.val (.ref b), .val (.int (0 : Int32)), .val (.ref t), .val (.int (0 : Int32)), .val (.int (1 : Int32)), .val (.int (0 : Int32)), .val (.int c0)] [(.int (nar .byte c0)), (.int (0 : Int32)), (.ref t)])) rfl rfl (hb hby d15_31)
    have N6 := Fr.snoc X6 N0 (by omega)
    have sz7 := own_wr_le W6
    have K7 := K0.wr W6 (Or.inl (by simp))
    have O7 := O0.wr W6 (by omega)
    have V6 : Arv Z h6 t kb .byte (1 : Int32) [(.int (nar .byte (nar .byte c0)))] (.int (0 : Int32)) := Arv.set Ar5 q5 S5 N5' H5 G5 (fits_nar_byte _) W6 0 rfl (Nat.le_of_ble_eq_true rfl)
    refine OwnEnd.of (S' := T6.setTop (mkF m 32 #[.val (.ref b), .val (.int (0 : Int32)), .val (.ref t), .val (.int (0 : Int32)), .val (.int (1 : Int32)), .val (.int (0 : Int32)), .val (.int c0)] [])) st6 ?_
    refine OwnEnd.of (S' := T6.setTop (mkF m 46 #[.val (.ref b), .val (.int (1 : Int32)), .val (.ref t), .val (.int (1 : Int32)), .val (.int (1 : Int32)), .val (.int (1 : Int32)), .val (.int c0)] [(.int (1 : Int32))])) (fun _ kK => XS.iinc X6.here hx rfl (hb hby d15_32) rfl (l' := #[.val (.ref b), .val (.int (1 : Int32)), .val (.ref t), .val (.int (0 : Int32)), .val (.int (1 : Int32)), .val (.int (0 : Int32)), .val (.int c0)]) rfl (XS.iinc X6.here hx rfl (hb hby d15_35) rfl (l' := #[.val (.ref b), .val (.int (1 : Int32)), .val (.ref t), .val (.int (1 : Int32)), .val (.int (1 : Int32)), .val (.int (0 : Int32)), .val (.int c0)]) rfl (XS.iinc X6.here hx rfl (hb hby d15_38) rfl (l' := #[.val (.ref b), .val (.int (1 : Int32)), .val (.ref t), .val (.int (1 : Int32)), .val (.int (1 : Int32)), .val (.int (1 : Int32)), .val (.int c0)]) rfl (XS.goto X6.here hx rfl (pc0 := 41) (pc' := 3) rfl (hb hby d15_41) (by decide) (by decide) (XS.iload X6.here hx rfl (hb hby d15_3) rfl (XS.iload X6.here hx rfl (hb hby d15_5) rfl (XS.icmpYes X6.here hx rfl (pc0 := 7) (pc' := 44) rfl (hb hby d15_7) rfl (flt ((by decide : ¬ ((1 : Int32) < (1 : Int32))))).2.1 (by decide) (by decide) (XS.iload X6.here hx rfl (hb hby d15_44) rfl kK)))))))) ?_
    have V8 : Arv Z h6 t kb .byte (1 : Int32) (own_cbs [c0]) (.int (0 : Int32)) := by have q := V6; simpa [own_cbs, hc3] using q
    refine OwnEnd.ret X6 (v := (some (.int (1 : Int32)))) (fun h => by rw [Bd.returns] at h; cases h) hlk (fun fs hr => retOut X6 hx Bd.returns rfl (Or.inl ⟨rfl, Or.inl rfl, _, rfl⟩) (hb hby d15_46) hr) (by decide) (by decide) (Q := Qcv1 Z b t kC dC kb c0 h0 n0) e6 ?_
    exact ⟨(by simp [own_first, hc3]), N6, K7, V8⟩

theorem own_efcw1 (m : MethodId) (b : Addr) : entryFrame m #[(.ref b), (.int (0 : Int32)), (.int (1 : Int32))] 6 = mkF m 0 #[.val (.ref b), .val (.int (0 : Int32)), .val (.int (1 : Int32)), .unset, .unset, .unset] [] := by first | (simp [entryFrame, mkF, argsToLocals, Value.category]; done) | rfl
def Qcw1 (Z : State) (b : Addr) (kC : ClassId) (dC : Value) (c0 : Int32) (h0 : Heap) (n0 : Nat) (v : Option Value) (h : Heap) (L : List Loc) : Prop := ∃ (t : Addr) (kb : ClassId) (N : Int32) (vs : List Value) (cd : Int32), v = some (.ref t) ∧ Fr n0 L ∧ Keep h0 h [] ∧ (Arv Z h t kb .byte N vs (.int (0 : Int32))) ∧ (StrChars.Road.CodA [c0] cd N vs) ∧ (Array.size h0 ≤ t)
set_option maxRecDepth 65536 in
set_option maxHeartbeats 40000000 in
theorem rmcw1 (l : Launch) (Z : State) (a0 : Array Value) (G : OwnG Z a0) (ws : List Jvm.Cond) (b : Addr) (kC : ClassId) (dC : Value) (c0 : Int32) (h0 : Heap) (n0 : Nat) (O0 : Old Z n0 h0) (P0 : Arv Z h0 b kC .char (1 : Int32) [(.int c0)] dC) (P1 : ∀ c ∈ ([c0] : List Int32), ¬ c < (0 : Int32) ∧ ¬ (65535 : Int32) < c) :
    MetFree l own_m16 (head1 (Jvm.Cond.code own_m16 jdk_52_method_16_code 6 (some (.array .byte)) :: ws) ({ frames := 3, cells := 2, slots := 3, locals := 40 } : Room)) (fun a U => a = #[(.ref b), (.int (0 : Int32)), (.int (1 : Int32))] ∧ Z.Warmed39 U.vm ∧ U.heap = h0) (fun _ _ _ _ _ => True) (fun _ U o U' => ∃ v L, o = .returned v ∧ Qcw1 Z b kC dC c0 h0 n0 v U'.heap L ∧ FrameEnd U o U' L ({ frames := 3, cells := 2, slots := 3, locals := 40 } : Room).cells ({ frames := 3, cells := 2, slots := 3, locals := 40 } : Room).slots) := by
  refine MetFree.of_bodySF (plainFor_of_name pn_3) hisR ?_
  intro p e s m args below meth cD s₁ Bd hml0 hP hK
  obtain ⟨rfl, hZ, hh⟩ := hP
  have hw := G.1
  have hx := Bd.exec
  have hby := Bd.bytes
  have hml : cD.maxLocals = 6 := hml0
  have hown : s.vm.findClass "java/lang/StringUTF16" = some m.cls := findClass_of_methodNamed Bd.named
  have hnm := (name_of_methodNamed Bd.named Bd.method).1
  have hlk := Bd.notSynchronized
  have X0 : Stand p l e ({ frames := 3, cells := 2, slots := 3, locals := 40 } : Room) s m #[(.ref b), (.int (0 : Int32)), (.int (1 : Int32))] below meth cD s₁ [] 0 0 := Stand.of_body Bd
  have e0 : s₁.heap = h0 := by rw [← hh, Bd.state]; rfl
  have lt0 := own_ltN' P0.lt
  have K0 : Keep h0 h0 [] := Keep.refl h0 _
  have Z0 := own_old_le O0
  have N0 := Fr.nil n0
  refine OwnEnd.start (g' := (mkF m 0 #[.val (.ref b), .val (.int (0 : Int32)), .val (.int (1 : Int32)), .unset, .unset, .unset] [])) (own_efcw1 m b) ?_
  refine OwnEnd.of (S' := s₁.setTop (mkF m 1 #[.val (.ref b), .val (.int (0 : Int32)), .val (.int (1 : Int32)), .unset, .unset, .unset] [(.int (1 : Int32))])) (fun _ kK => XS.iloadN X0.here hx rfl (hb hby d16_0) rfl kK) ?_
  obtain ⟨T1, h1, k1, X1, e1, E1, A1, st1⟩ := newP X0 hx hZ (own_w G 29 rfl) e0 (g := (mkF m 1 #[.val (.ref b), .val (.int (0 : Int32)), .val (.int (1 : Int32)), .unset, .unset, .unset] [(.int (1 : Int32))])) rfl (hb hby d16_1) rfl (by decide) (cap := 1) (by decide) (by decide) (by decide) (by decide)
  obtain ⟨b1, g1⟩ : ∃ z, z = Array.size h0 := ⟨_, rfl⟩
  rw [← g1] at A1 st1
  have lt_b1 := own_ltN' A1.lt
  have sz2 := E1.1
  have K2 := K0.ext E1
  have O2 := O0.ext E1
  have V1 : Arv Z h1 b1 k1 .byte (1 : Int32) [(.int (0 : Int32))] (.int (0 : Int32)) := (Arv.new A1 (by decide)).pad (pad_rep [] (.int (0 : Int32)) 1)
  refine OwnEnd.of (S' := T1.setTop (mkF m 3 #[.val (.ref b), .val (.int (0 : Int32)), .val (.int (1 : Int32)), .unset, .unset, .unset] [(.ref b1)])) st1 ?_
  refine OwnEnd.of (S' := T1.setTop (mkF m 9 #[.val (.ref b), .val (.int (0 : Int32)), .val (.int (1 : Int32)), .val (.ref b1), .unset, .unset] [(.int (1 : Int32)), (.int (0 : Int32)), (.ref b1), (.int (0 : Int32)), (.ref b)])) (fun _ kK => XS.astoreN X1.here hx rfl (hb hby d16_3) rfl rfl (l' := #[.val (.ref b), .val (.int (0 : Int32)), .val (.int (1 : Int32)), .val (.ref b1), .unset, .unset]) rfl (XS.aloadN X1.here hx rfl (hb hby d16_4) rfl rfl (XS.iloadN X1.here hx rfl (hb hby d16_5) rfl (XS.aloadN X1.here hx rfl (hb hby d16_6) rfl rfl (XS.iconst X1.here hx rfl (hb hby d16_7) (XS.iloadN X1.here hx rfl (hb hby d16_8) rfl kK)))))) ?_
  have f3 : Arv Z h1 b kC .char (1 : Int32) [(.int c0)] dC := (P0.ext E1)
  obtain ⟨_, _, ⟨T4, L4, k4, n4⟩, -, X4, ⟨Lc4, hQ4, l4, y4, z4⟩, st4⟩ := Jvm.LawKit.callS X1 hx (y := own_m15) hown (mvT hZ (own_w G 30 rfl)) (mvT hZ (own_w G 31 rfl)) (mvT hZ (own_w G 27 rfl)) (mvT hZ (own_w G 32 rfl)) (by decide) (backOf (W := 0) (rmcv1 l Z a0 G [] b b1 kC dC k1 c0 h1 n0 O2 f3 V1 (by omega) (own_ne (by omega) : b ≠ b1)) hZ (own_w G 32 rfl) (own_w G 27 rfl) (by decide) (by decide)) (g := (mkF m 9 #[.val (.ref b), .val (.int (0 : Int32)), .val (.int (1 : Int32)), .val (.ref b1), .unset, .unset] [(.int (1 : Int32)), (.int (0 : Int32)), (.ref b1), (.int (0 : Int32)), (.ref b)])) rfl (by rw [hml]; rfl) (argsL := [(.ref b), (.int (0 : Int32)), (.ref b1), (.int (0 : Int32)), (.int (1 : Int32))]) (rest := []) (lenOf pd_10 rfl) rfl (by show 2 * 0 + _ ≤ _; exact Nat.le_of_eq rfl) (hb hby d16_9) (fun _ _ => ⟨rfl, e1, (by decide : 1 + 0 ≤ _), (by decide : 1 + 0 ≤ _)⟩)
  dsimp only [Pt.U, Pt.locs, Pt.cells, Pt.slots] at X4 l4 y4 z4 st4 hQ4
  subst l4 y4 z4
  obtain ⟨rfl, N4q, Kq4, r4_0⟩ := hQ4
  have N4 := Fr.app N0 N4q
  have sz5 := Kq4.1
  have K5 := K2.trans Kq4 (own_all1 (Or.inr (by omega)))
  have O5 := O2.keep Kq4 (own_all1 (by omega))
  have ltr4_0 := own_ltN' r4_0.lt
  refine OwnEnd.of (S' := T4.setTop (mkF m 12 #[.val (.ref b), .val (.int (0 : Int32)), .val (.int (1 : Int32)), .val (.ref b1), .unset, .unset] [(.int (own_first [c0]))])) st4 ?_
  rcases own_first1 c0 with hr | hr
  · rw [hr.1]
    refine OwnEnd.of (S' := T4.setTop (mkF m 23 #[.val (.ref b), .val (.int (0 : Int32)), .val (.int (1 : Int32)), .val (.ref b1), .val (.int (0 : Int32)), .unset] [(.int (1 : Int32)), (.int (0 : Int32)), (.ref b)])) (fun _ kK => XS.istore X4.here hx rfl (hb hby d16_12) rfl (l' := #[.val (.ref b), .val (.int (0 : Int32)), .val (.int (1 : Int32)), .val (.ref b1), .val (.int (0 : Int32)), .unset]) rfl (XS.iload X4.here hx rfl (hb hby d16_14) rfl (XS.iloadN X4.here hx rfl (hb hby d16_16) rfl (XS.icmpNo X4.here hx rfl (hb hby d16_17) rfl (feq ((by decide : ¬ ((0 : Int32) = (1 : Int32))))).1 (XS.aloadN X4.here hx rfl (hb hby d16_20) rfl rfl (XS.iloadN X4.here hx rfl (hb hby d16_21) rfl (XS.iloadN X4.here hx rfl (hb hby d16_22) rfl kK))))))) ?_
    have f6 : Arv Z T4.heap b kC .char (1 : Int32) [(.int c0)] dC := (f3.keep Kq4 (own_nin1 (own_ne (by omega))))
    obtain ⟨_, _, ⟨T7, L7, k7, n7⟩, -, X7, ⟨Lc7, hQ7, l7, y7, z7⟩, st7⟩ := Jvm.LawKit.callS X4 hx (y := own_m14) hown (mvT hZ (own_w G 115 rfl)) (mvT hZ (own_w G 116 rfl)) (mvT hZ (own_w G 27 rfl)) (mvT hZ (own_w G 117 rfl)) (by decide) (backOf (W := 0) (rmby1 l Z a0 G [] b kC dC c0 T4.heap n0 O5 f6) hZ (own_w G 117 rfl) (own_w G 27 rfl) (by decide) (by decide)) (g := (mkF m 23 #[.val (.ref b), .val (.int (0 : Int32)), .val (.int (1 : Int32)), .val (.ref b1), .val (.int (0 : Int32)), .unset] [(.int (1 : Int32)), (.int (0 : Int32)), (.ref b)])) rfl (by rw [hml]; rfl) (argsL := [(.ref b), (.int (0 : Int32)), (.int (1 : Int32))]) (rest := []) (lenOf pd_11 rfl) rfl (by show 2 * 0 + _ ≤ _; exact Nat.le_of_eq rfl) (hb hby d16_23) (fun _ _ => ⟨rfl, rfl, (by decide : 1 + 1 ≤ _), (by decide : 1 + 2 ≤ _)⟩)
    dsimp only [Pt.U, Pt.locs, Pt.cells, Pt.slots] at X7 l7 y7 z7 st7 hQ7
    subst l7 y7 z7
    obtain ⟨t_7, kb_7, rfl, N7q, Kq7, r7_0, r7_1⟩ := hQ7
    have N7 := Fr.app N4 N7q
    have sz8 := Kq7.1
    have K8 := K5.trans Kq7 (own_all0 )
    have O8 := O5.keep Kq7 (own_all0 )
    have ltr7_0 := own_ltN' r7_0.lt
    refine OwnEnd.of (S' := T7.setTop (mkF m 26 #[.val (.ref b), .val (.int (0 : Int32)), .val (.int (1 : Int32)), .val (.ref b1), .val (.int (0 : Int32)), .unset] [(.ref t_7)])) st7 ?_
    refine OwnEnd.of (S' := T7.setTop (mkF m 32 #[.val (.ref b), .val (.int (0 : Int32)), .val (.int (1 : Int32)), .val (.ref b1), .val (.int (0 : Int32)), .val (.ref t_7)] [(.int (0 : Int32)), (.ref t_7)])) (fun _ kK => XS.astore X7.here hx rfl (hb hby d16_26) rfl rfl (l' := #[.val (.ref b), .val (.int (0 : Int32)), .val (.int (1 : Int32)), .val (.ref b1), .val (.int (0 : Int32)), .val (.ref t_7)]) rfl (XS.aload X7.here hx rfl (hb hby d16_28) rfl rfl (XS.iload X7.here hx rfl (hb hby d16_30) rfl kK))) ?_
    obtain ⟨_, _, ⟨T9, L9, k9, n9⟩, -, X9, ⟨Lc9, hQ9, l9, y9, z9⟩, st9⟩ := Jvm.LawKit.callS X7 hx (y := own_m8) hown (mvT hZ (own_w G 131 rfl)) (mvT hZ (own_w G 132 rfl)) (mvT hZ (own_w G 27 rfl)) (mvT hZ (own_w G 133 rfl)) (by decide) (backOf (W := 0) (rmgc l Z a0 G [] t_7 kb_7 (2 : Int32) (StrChars.Road.wideBytes [c0]) (.int (0 : Int32)) (0 : Int32) (0 : Int32) c0 T7.heap n0 O8 r7_0 (by decide : (0 : Int32) <<< ((1 : Int32) &&& 31) = (0 : Int32)) (by decide : ¬ (0 : Int32) < (0 : Int32)) (by decide : (0 : Int32) < (2 : Int32)) (by decide : ¬ ((0 : Int32) + (1 : Int32)) < (0 : Int32)) (by decide : ((0 : Int32) + (1 : Int32)) < (2 : Int32)) (by rfl : (StrChars.Road.wideBytes [c0]).getD (0 : Int32).toNatClampNeg (.int (0 : Int32)) = (.int (StrChars.lo8 c0))) (by rfl : (StrChars.Road.wideBytes [c0]).getD ((0 : Int32) + (1 : Int32)).toNatClampNeg (.int (0 : Int32)) = (.int (StrChars.hi8 c0))) (P1 c0 (by simp))) hZ (own_w G 133 rfl) (own_w G 27 rfl) (by decide) (by decide)) (g := (mkF m 32 #[.val (.ref b), .val (.int (0 : Int32)), .val (.int (1 : Int32)), .val (.ref b1), .val (.int (0 : Int32)), .val (.ref t_7)] [(.int (0 : Int32)), (.ref t_7)])) rfl (by rw [hml]; rfl) (argsL := [(.ref t_7), (.int (0 : Int32))]) (rest := []) (lenOf pd_5 rfl) rfl (by show 2 * 0 + _ ≤ _; exact Nat.le_of_eq rfl) (hb hby d16_32) (fun _ _ => ⟨rfl, rfl, (by decide : 2 + 0 ≤ _), (by decide : 3 + 0 ≤ _)⟩)
    dsimp only [Pt.U, Pt.locs, Pt.cells, Pt.slots] at X9 l9 y9 z9 st9 hQ9
    subst l9 y9 z9
    obtain ⟨rfl, N9q, eh9⟩ := hQ9
    have N9 := Fr.app N7 N9q
    refine OwnEnd.of (S' := T9.setTop (mkF m 35 #[.val (.ref b), .val (.int (0 : Int32)), .val (.int (1 : Int32)), .val (.ref b1), .val (.int (0 : Int32)), .val (.ref t_7)] [(.int c0)])) st9 ?_
    refine OwnEnd.of (S' := T9.setTop (mkF m 56 #[.val (.ref b), .val (.int (0 : Int32)), .val (.int (1 : Int32)), .val (.ref b1), .val (.int (0 : Int32)), .val (.ref t_7)] [(.ref t_7)])) (fun _ kK => XS.sipush X9.here hx rfl (hb hby d16_35) (XS.icmpYes X9.here hx rfl (pc0 := 38) (pc' := 54) rfl (hb hby d16_38) rfl (tlt (hr.2)).2.2.1 (by decide) (by decide) (XS.aload X9.here hx rfl (hb hby d16_54) rfl rfl kK))) ?_
    refine OwnEnd.ret X9 (v := (some (.ref t_7))) (fun h => by rw [Bd.returns] at h; cases h) hlk (fun fs hr => retOut X9 hx Bd.returns rfl (Or.inr (Or.inr (Or.inr (Or.inr ⟨rfl, rfl, rfl⟩)))) (hb hby d16_56) hr) (by decide) (by decide) (Q := Qcw1 Z b kC dC c0 h0 n0) eh9 ?_
    exact ⟨t_7, kb_7, (2 : Int32), (StrChars.Road.wideBytes [c0]), (1 : Int32), rfl, N9, K8, r7_0, (Or.inr ⟨rfl, rfl, rfl, c0, by simp, hr.2⟩), (by omega)⟩
  · rw [hr.1]
    have V10 : Arv Z T4.heap b1 k1 .byte (1 : Int32) (([c0] : List Int32).map fun c => Value.int (StrChars.lo8 c)) (.int (0 : Int32)) := by have q := r4_0; rw [hr.2.1] at q; exact q
    refine OwnEnd.of (S' := T4.setTop (mkF m 58 #[.val (.ref b), .val (.int (0 : Int32)), .val (.int (1 : Int32)), .val (.ref b1), .val (.int (1 : Int32)), .unset] [(.ref b1)])) (fun _ kK => XS.istore X4.here hx rfl (hb hby d16_12) rfl (l' := #[.val (.ref b), .val (.int (0 : Int32)), .val (.int (1 : Int32)), .val (.ref b1), .val (.int (1 : Int32)), .unset]) rfl (XS.iload X4.here hx rfl (hb hby d16_14) rfl (XS.iloadN X4.here hx rfl (hb hby d16_16) rfl (XS.icmpYes X4.here hx rfl (pc0 := 17) (pc' := 57) rfl (hb hby d16_17) rfl (teq ((by decide : (1 : Int32) = (1 : Int32)))).1 (by decide) (by decide) (XS.aloadN X4.here hx rfl (hb hby d16_57) rfl rfl kK))))) ?_
    refine OwnEnd.ret X4 (v := (some (.ref b1))) (fun h => by rw [Bd.returns] at h; cases h) hlk (fun fs hr => retOut X4 hx Bd.returns rfl (Or.inr (Or.inr (Or.inr (Or.inr ⟨rfl, rfl, rfl⟩)))) (hb hby d16_58) hr) (by decide) (by decide) (Q := Qcw1 Z b kC dC c0 h0 n0) rfl ?_
    exact ⟨b1, k1, (1 : Int32), (([c0] : List Int32).map fun c => Value.int (StrChars.lo8 c)), (0 : Int32), rfl, N4, K5, V10, (Or.inl ⟨rfl, rfl, rfl, hr.2.2⟩), (by omega)⟩

theorem own_efcf1 (m : MethodId) (t : Addr) : entryFrame m #[(.ref t), (.int (1 : Int32))] 2 = mkF m 0 #[.val (.ref t), .val (.int (1 : Int32))] [] := by first | (simp [entryFrame, mkF, argsToLocals, Value.category]; done) | rfl
set_option maxRecDepth 65536 in
set_option maxHeartbeats 40000000 in
theorem rmcf1 (l : Launch) (Z : State) (a0 : Array Value) (G : OwnG Z a0) (ws : List Jvm.Cond) (t : Addr) (kb : ClassId) (N : Int32) (vs : List Value) (cd : Int32) (c0 : Int32) (h0 : Heap) (n0 : Nat) (O0 : Old Z n0 h0) (P0 : Arv Z h0 t kb .byte N vs (.int (0 : Int32))) (P1 : StrChars.Road.CodA [c0] cd N vs) :
    MetFree l own_m17 (head1 (Jvm.Cond.code own_m17 jdk_52_method_15_code 2 (some .byte) :: ws) ({ frames := 0, cells := 0, slots := 0, locals := 0 } : Room)) (fun a U => a = #[(.ref t), (.int (1 : Int32))] ∧ Z.Warmed39 U.vm ∧ U.heap = h0) (fun _ _ _ _ _ => True) (fun _ U o U' => ∃ v L, o = .returned v ∧ (own_Qint cd) h0 n0 v U'.heap L ∧ FrameEnd U o U' L ({ frames := 0, cells := 0, slots := 0, locals := 0 } : Room).cells ({ frames := 0, cells := 0, slots := 0, locals := 0 } : Room).slots) := by
  refine MetFree.of_bodySF (plainFor_of_name pn_3) hisR ?_
  intro p e s m args below meth cD s₁ Bd hml0 hP hK
  obtain ⟨rfl, hZ, hh⟩ := hP
  have hw := G.1
  have hx := Bd.exec
  have hby := Bd.bytes
  have hml : cD.maxLocals = 2 := hml0
  have hown : s.vm.findClass "java/lang/StringUTF16" = some m.cls := findClass_of_methodNamed Bd.named
  have hnm := (name_of_methodNamed Bd.named Bd.method).1
  have hlk := Bd.notSynchronized
  have X0 : Stand p l e ({ frames := 0, cells := 0, slots := 0, locals := 0 } : Room) s m #[(.ref t), (.int (1 : Int32))] below meth cD s₁ [] 0 0 := Stand.of_body Bd
  have e0 : s₁.heap = h0 := by rw [← hh, Bd.state]; rfl
  have lt0 := own_ltN' P0.lt
  have K0 : Keep h0 h0 [] := Keep.refl h0 _
  have Z0 := own_old_le O0
  have N0 := Fr.nil n0
  refine OwnEnd.start (g' := (mkF m 0 #[.val (.ref t), .val (.int (1 : Int32))] [])) (own_efcf1 m t) ?_
  rcases P1 with hxc | hxc
  · have V1 : Arv Z h0 t kb .byte (1 : Int32) (([c0] : List Int32).map fun c => Value.int (StrChars.lo8 c)) (.int (0 : Int32)) := by have q := P0; rw [hxc.2.1, hxc.2.2.1] at q; exact q
    refine OwnEnd.of (S' := s₁.setTop (mkF m 2 #[.val (.ref t), .val (.int (1 : Int32))] [(.ref t), (.int (1 : Int32))])) (fun _ kK => XS.iloadN X0.here hx rfl (hb hby d17_0) rfl (XS.aloadN X0.here hx rfl (hb hby d17_1) rfl rfl kK)) ?_
    obtain ⟨cl2, Ar2, q2, S2, N2', H2, G2⟩ := id V1
    refine OwnEnd.of (S' := s₁.setTop (mkF m 3 #[.val (.ref t), .val (.int (1 : Int32))] [(.int (1 : Int32)), (.int (1 : Int32))])) (fun _ kK => X0.arraylength hx (by rw [e0]; exact Ar2.1) (State.isArrayOf_alike hZ.alike Ar2.2.1) (g := (mkF m 2 #[.val (.ref t), .val (.int (1 : Int32))] [(.ref t), (.int (1 : Int32))])) rfl rfl (hb hby d17_2) _ (by rw [len_of S2 N2']; exact kK)) ?_
    refine OwnEnd.of (S' := s₁.setTop (mkF m 8 #[.val (.ref t), .val (.int (1 : Int32))] [(.int (0 : Int32))])) (fun _ kK => XS.isub X0.here hx rfl (hb hby d17_3) rfl (XS.bipush X0.here hx rfl (hb hby d17_4) (XS.iushr X0.here hx rfl (hb hby d17_6) rfl (XS.i2b X0.here hx rfl (hb hby d17_7) rfl kK)))) ?_
    refine OwnEnd.ret X0 (v := (some (.int (nar .byte (0 : Int32))))) (fun h => by rw [Bd.returns] at h; cases h) hlk (fun fs hr => retN X0 hx (t := .byte) Bd.returns (by simp) (hb hby d17_8) hr) (by decide) (by decide) (Q := (own_Qint cd) h0 n0) e0 ?_
    exact ⟨(congrArg (fun z => some (Value.int z)) hxc.1.symm), N0, rfl⟩
  · have V3 : Arv Z h0 t kb .byte (2 : Int32) (StrChars.Road.wideBytes [c0]) (.int (0 : Int32)) := by have q := P0; rw [hxc.2.1, hxc.2.2.1] at q; exact q
    refine OwnEnd.of (S' := s₁.setTop (mkF m 2 #[.val (.ref t), .val (.int (1 : Int32))] [(.ref t), (.int (1 : Int32))])) (fun _ kK => XS.iloadN X0.here hx rfl (hb hby d17_0) rfl (XS.aloadN X0.here hx rfl (hb hby d17_1) rfl rfl kK)) ?_
    obtain ⟨cl4, Ar4, q4, S4, N4', H4, G4⟩ := id V3
    refine OwnEnd.of (S' := s₁.setTop (mkF m 3 #[.val (.ref t), .val (.int (1 : Int32))] [(.int (2 : Int32)), (.int (1 : Int32))])) (fun _ kK => X0.arraylength hx (by rw [e0]; exact Ar4.1) (State.isArrayOf_alike hZ.alike Ar4.2.1) (g := (mkF m 2 #[.val (.ref t), .val (.int (1 : Int32))] [(.ref t), (.int (1 : Int32))])) rfl rfl (hb hby d17_2) _ (by rw [len_of S4 N4']; exact kK)) ?_
    refine OwnEnd.of (S' := s₁.setTop (mkF m 8 #[.val (.ref t), .val (.int (1 : Int32))] [(.int (1 : Int32))])) (fun _ kK => XS.isub X0.here hx rfl (hb hby d17_3) rfl (XS.bipush X0.here hx rfl (hb hby d17_4) (XS.iushr X0.here hx rfl (hb hby d17_6) rfl (XS.i2b X0.here hx rfl (hb hby d17_7) rfl kK)))) ?_
    refine OwnEnd.ret X0 (v := (some (.int (nar .byte (1 : Int32))))) (fun h => by rw [Bd.returns] at h; cases h) hlk (fun fs hr => retN X0 hx (t := .byte) Bd.returns (by simp) (hb hby d17_8) hr) (by decide) (by decide) (Q := (own_Qint cd) h0 n0) e0 ?_
    exact ⟨(congrArg (fun z => some (Value.int z)) hxc.1.symm), N0, rfl⟩

theorem own_efnv1 (m : MethodId) (x0 : Addr) (b : Addr) : entryFrame m #[(.ref x0), (.ref b), (.int (0 : Int32)), (.int (1 : Int32)), .null] 6 = mkF m 0 #[.val (.ref x0), .val (.ref b), .val (.int (0 : Int32)), .val (.int (1 : Int32)), .val .null, .unset] [] := by first | (simp [entryFrame, mkF, argsToLocals, Value.category]; done) | rfl
def Qnv1 (Z : State) (x0 : Addr) (b : Addr) (v0 : Value) (c9 : Value) (kC : ClassId) (dC : Value) (c0 : Int32) (h0 : Heap) (n0 : Nat) (v : Option Value) (h : Heap) (L : List Loc) : Prop := ∃ (t : Addr) (kb : ClassId) (N : Int32) (vs : List Value) (cd : Int32), v = none ∧ Fr n0 L ∧ Keep h0 h [x0] ∧ (Exa Z h x0 "java/lang/String") ∧ (Fld Z h x0 "java/lang/String" "value" "[B" (.ref t)) ∧ (Fld Z h x0 "java/lang/String" "coder" "B" (.int cd)) ∧ (Arv Z h t kb .byte N vs (.int (0 : Int32))) ∧ (StrChars.Road.CodA [c0] cd N vs) ∧ (Array.size h0 ≤ t)
set_option maxRecDepth 65536 in
set_option maxHeartbeats 40000000 in
theorem rmnv1 (l : Launch) (Z : State) (a0 : Array Value) (G : OwnG Z a0) (ws : List Jvm.Cond) (x0 : Addr) (b : Addr) (v0 : Value) (c9 : Value) (kC : ClassId) (dC : Value) (c0 : Int32) (h0 : Heap) (n0 : Nat) (O0 : Old Z n0 h0) (P0 : Exa Z h0 x0 "java/lang/String") (P1 : Fld Z h0 x0 "java/lang/String" "value" "[B" v0) (P2 : Fld Z h0 x0 "java/lang/String" "coder" "B" c9) (P3 : n0 ≤ x0) (P4 : Arv Z h0 b kC .char (1 : Int32) [(.int c0)] dC) (P5 : ∀ c ∈ ([c0] : List Int32), ¬ c < (0 : Int32) ∧ ¬ (65535 : Int32) < c) (P6 : x0 ≠ b) :
    MetFree l own_m18 (head1 (Jvm.Cond.code own_m18 jdk_42_method_149_code 6 none :: ws) ({ frames := 4, cells := 2, slots := 3, locals := 57 } : Room)) (fun a U => a = #[(.ref x0), (.ref b), (.int (0 : Int32)), (.int (1 : Int32)), .null] ∧ Z.Warmed39 U.vm ∧ U.heap = h0) (fun _ _ _ _ _ => True) (fun _ U o U' => ∃ v L, o = .returned v ∧ Qnv1 Z x0 b v0 c9 kC dC c0 h0 n0 v U'.heap L ∧ FrameEnd U o U' L ({ frames := 4, cells := 2, slots := 3, locals := 57 } : Room).cells ({ frames := 4, cells := 2, slots := 3, locals := 57 } : Room).slots) := by
  refine MetFree.of_bodySF (plainFor_of_name pn_1) hisR ?_
  intro p e s m args below meth cD s₁ Bd hml0 hP hK
  obtain ⟨rfl, hZ, hh⟩ := hP
  have hw := G.1
  have hx := Bd.exec
  have hby := Bd.bytes
  have hml : cD.maxLocals = 6 := hml0
  have hown : s.vm.findClass "java/lang/String" = some m.cls := findClass_of_methodNamed Bd.named
  have hnm := (name_of_methodNamed Bd.named Bd.method).1
  have hlk := Bd.notSynchronized
  have X0 : Stand p l e ({ frames := 4, cells := 2, slots := 3, locals := 57 } : Room) s m #[(.ref x0), (.ref b), (.int (0 : Int32)), (.int (1 : Int32)), .null] below meth cD s₁ [] 0 0 := Stand.of_body Bd
  have e0 : s₁.heap = h0 := by rw [← hh, Bd.state]; rfl
  have lt0 := own_ltN' P0.lt
  have lt1 := own_ltN' P1.lt
  have lt2 := own_ltN' P2.lt
  have lt4 := own_ltN' P4.lt
  have nP6 := own_neN P6
  have K0 : Keep h0 h0 [x0] := Keep.refl h0 _
  have Z0 := own_old_le O0
  have N0 := Fr.nil n0
  obtain ⟨zCS, SCS, PCS⟩ := own_cs G
  refine OwnEnd.start (g' := (mkF m 0 #[.val (.ref x0), .val (.ref b), .val (.int (0 : Int32)), .val (.int (1 : Int32)), .val .null, .unset] [])) (own_efnv1 m x0 b) ?_
  refine OwnEnd.of (S' := s₁.setTop (mkF m 1 #[.val (.ref x0), .val (.ref b), .val (.int (0 : Int32)), .val (.int (1 : Int32)), .val .null, .unset] [(.ref x0)])) (fun _ kK => XS.aloadN X0.here hx rfl (hb hby d18_0) rfl rfl kK) ?_
  obtain ⟨T1, X1, e1, st1⟩ := initO X0 hx hZ hown (own_w G 21 rfl) (own_w G 22 rfl) (own_w G 23 rfl) e0 (g := (mkF m 1 #[.val (.ref x0), .val (.ref b), .val (.int (0 : Int32)), .val (.int (1 : Int32)), .val .null, .unset] [(.ref x0)])) rfl (by rw [hml]; rfl) rfl (hb hby d18_1) (by decide) (W := 0) (by show 2 * 0 + _ ≤ _; exact Nat.le_of_eq rfl) (by decide)
  refine OwnEnd.of (S' := T1.setTop (mkF m 4 #[.val (.ref x0), .val (.ref b), .val (.int (0 : Int32)), .val (.int (1 : Int32)), .val .null, .unset] [])) st1 ?_
  refine OwnEnd.of (S' := T1.setTop (mkF m 27 #[.val (.ref x0), .val (.ref b), .val (.int (0 : Int32)), .val (.int (1 : Int32)), .val .null, .unset] [])) (fun _ kK => XS.iloadN X1.here hx rfl (hb hby d18_4) rfl (XS.ifYes X1.here hx rfl (pc0 := 5) (pc' := 27) rfl (hb hby d18_5) rfl ((if0 _ _).trans (feq ((by decide : ¬ ((1 : Int32) = (0 : Int32))))).2) (by decide) (by decide) kK)) ?_
  obtain ⟨T2, X2, e2, st2⟩ := getS2 X1 hx hZ hown (host := "") (Or.inl (own_w G 24 rfl)) Via.refl e1 (SCS.ext O0.2) (g := (mkF m 27 #[.val (.ref x0), .val (.ref b), .val (.int (0 : Int32)), .val (.int (1 : Int32)), .val .null, .unset] [])) rfl (hb hby d18_27)
  refine OwnEnd.of (S' := T2.setTop (mkF m 30 #[.val (.ref x0), .val (.ref b), .val (.int (0 : Int32)), .val (.int (1 : Int32)), .val .null, .unset] [(.int zCS)])) st2 ?_
  refine OwnEnd.of (S' := T2.setTop (mkF m 36 #[.val (.ref x0), .val (.ref b), .val (.int (0 : Int32)), .val (.int (1 : Int32)), .val .null, .unset] [(.int (1 : Int32)), (.int (0 : Int32)), (.ref b)])) (fun _ kK => XS.ifNo X2.here hx rfl (hb hby d18_30) rfl ((if0 _ _).trans (feq (PCS)).1) (XS.aloadN X2.here hx rfl (hb hby d18_33) rfl rfl (XS.iloadN X2.here hx rfl (hb hby d18_34) rfl (XS.iloadN X2.here hx rfl (hb hby d18_35) rfl kK)))) ?_
  obtain ⟨_, _, ⟨T3, L3, k3, n3⟩, -, X3, ⟨Lc3, hQ3, l3, y3, z3⟩, st3⟩ := Jvm.LawKit.callS X2 hx (y := own_m16) hown (mvT hZ (own_w G 25 rfl)) (mvT hZ (own_w G 26 rfl)) (mvT hZ (own_w G 27 rfl)) (mvT hZ (own_w G 28 rfl)) (by decide) (backOf (W := 0) (rmcw1 l Z a0 G [] b kC dC c0 h0 n0 O0 P4 P5) hZ (own_w G 28 rfl) (own_w G 27 rfl) (by decide) (by decide)) (g := (mkF m 36 #[.val (.ref x0), .val (.ref b), .val (.int (0 : Int32)), .val (.int (1 : Int32)), .val .null, .unset] [(.int (1 : Int32)), (.int (0 : Int32)), (.ref b)])) rfl (by rw [hml]; rfl) (argsL := [(.ref b), (.int (0 : Int32)), (.int (1 : Int32))]) (rest := []) (lenOf pd_11 rfl) rfl (by show 2 * 0 + _ ≤ _; exact Nat.le_of_eq rfl) (hb hby d18_36) (fun _ _ => ⟨rfl, e2, (by decide : 0 + 2 ≤ _), (by decide : 0 + 3 ≤ _)⟩)
  dsimp only [Pt.U, Pt.locs, Pt.cells, Pt.slots] at X3 l3 y3 z3 st3 hQ3
  subst l3 y3 z3
  obtain ⟨t_3, kb_3, N_3, vs_3, cd_3, rfl, N3q, Kq3, r3_0, r3_1, r3_2⟩ := hQ3
  have N3 := Fr.app N0 N3q
  have sz4 := Kq3.1
  have K4 := K0.trans Kq3 (own_all0 )
  have O4 := O0.keep Kq3 (own_all0 )
  have ltr3_0 := own_ltN' r3_0.lt
  refine OwnEnd.of (S' := T3.setTop (mkF m 39 #[.val (.ref x0), .val (.ref b), .val (.int (0 : Int32)), .val (.int (1 : Int32)), .val .null, .unset] [(.ref t_3)])) st3 ?_
  refine OwnEnd.of (S' := T3.setTop (mkF m 45 #[.val (.ref x0), .val (.ref b), .val (.int (0 : Int32)), .val (.int (1 : Int32)), .val .null, .val (.ref t_3)] [(.int (1 : Int32)), (.ref t_3), (.ref x0)])) (fun _ kK => XS.astore X3.here hx rfl (hb hby d18_39) rfl rfl (l' := #[.val (.ref x0), .val (.ref b), .val (.int (0 : Int32)), .val (.int (1 : Int32)), .val .null, .val (.ref t_3)]) rfl (XS.aloadN X3.here hx rfl (hb hby d18_41) rfl rfl (XS.aload X3.here hx rfl (hb hby d18_42) rfl rfl (XS.iloadN X3.here hx rfl (hb hby d18_44) rfl kK)))) ?_
  obtain ⟨_, _, ⟨T5, L5, k5, n5⟩, -, X5, ⟨Lc5, hQ5, l5, y5, z5⟩, st5⟩ := Jvm.LawKit.callS X3 hx (y := own_m17) hown (mvT hZ (own_w G 33 rfl)) (mvT hZ (own_w G 34 rfl)) (mvT hZ (own_w G 27 rfl)) (mvT hZ (own_w G 35 rfl)) (by decide) (backOf (W := 1) (rmcf1 l Z a0 G [] t_3 kb_3 N_3 vs_3 cd_3 c0 T3.heap n0 O4 r3_0 r3_1) hZ (own_w G 35 rfl) (own_w G 27 rfl) (by decide) (by decide)) (g := (mkF m 45 #[.val (.ref x0), .val (.ref b), .val (.int (0 : Int32)), .val (.int (1 : Int32)), .val .null, .val (.ref t_3)] [(.int (1 : Int32)), (.ref t_3), (.ref x0)])) rfl (by rw [hml]; rfl) (argsL := [(.ref t_3), (.int (1 : Int32))]) (rest := [(.ref x0)]) (lenOf pd_12 rfl) rfl (by show 2 * 0 + _ ≤ _; exact Nat.le_of_eq rfl) (hb hby d18_45) (fun _ _ => ⟨rfl, rfl, (by decide : 2 + 0 ≤ _), (by decide : 3 + 0 ≤ _)⟩)
  dsimp only [Pt.U, Pt.locs, Pt.cells, Pt.slots] at X5 l5 y5 z5 st5 hQ5
  subst l5 y5 z5
  obtain ⟨rfl, N5q, eh5⟩ := hQ5
  have N5 := Fr.app N3 N5q
  refine OwnEnd.of (S' := T5.setTop (mkF m 48 #[.val (.ref x0), .val (.ref b), .val (.int (0 : Int32)), .val (.int (1 : Int32)), .val .null, .val (.ref t_3)] [(.int cd_3), (.ref x0)])) st5 ?_
  have f7 : Fld Z T3.heap x0 "java/lang/String" "coder" "B" c9 := (P2.keep Kq3 nin0)
  have f8 : Exa Z T3.heap x0 "java/lang/String" := (P0.keep Kq3)
  obtain ⟨T6, h6, X6, e6, W6, st6⟩ := putFN X5 hx hZ hown (own_w G 36 rfl) Via.refl eh5 f7 f8 (Or.inr ⟨(own_w G 37 rfl), rfl, hnm⟩) (own_w G 11 rfl) (ty := .byte) (v' := (.int cd_3)) (by decide) (own_cod_nar r3_1).1 (own_cod_nar r3_1).2 (g := (mkF m 48 #[.val (.ref x0), .val (.ref b), .val (.int (0 : Int32)), .val (.int (1 : Int32)), .val .null, .val (.ref t_3)] [(.int cd_3), (.ref x0)])) rfl rfl (hb hby d18_48)
  have Fw6 := f7.same W6
  have N6 := Fr.snoc X6 N5 (by omega)
  have sz9 := own_wr_le W6
  have K9 := K4.wr W6 (Or.inl (by simp))
  have O9 := O4.wr W6 (by omega)
  refine OwnEnd.of (S' := T6.setTop (mkF m 51 #[.val (.ref x0), .val (.ref b), .val (.int (0 : Int32)), .val (.int (1 : Int32)), .val .null, .val (.ref t_3)] [])) st6 ?_
  refine OwnEnd.of (S' := T6.setTop (mkF m 54 #[.val (.ref x0), .val (.ref b), .val (.int (0 : Int32)), .val (.int (1 : Int32)), .val .null, .val (.ref t_3)] [(.ref t_3), (.ref x0)])) (fun _ kK => XS.aloadN X6.here hx rfl (hb hby d18_51) rfl rfl (XS.aload X6.here hx rfl (hb hby d18_52) rfl rfl kK)) ?_
  have f11 : Fld Z h6 x0 "java/lang/String" "value" "[B" v0 := ((P1.keep Kq3 nin0).other W6 (Or.inr (slot_ne (Or.inr (own_w G 39 rfl)) (Or.inr (own_w G 37 rfl)) (by decide) (t := (.array .byte)) (t' := .byte) (by decide) (by decide))))
  have f12 : Exa Z h6 x0 "java/lang/String" := (f8.wr W6)
  obtain ⟨T10, h10, X10, e10, W10, st10⟩ := putF X6 hx hZ hown (host := "") (Or.inl (own_w G 38 rfl)) Via.refl e6 f11 f12 (Or.inr ⟨(own_w G 39 rfl), rfl, hnm⟩) (own_w G 11 rfl) (ty := (.array .byte)) (by decide) rfl rfl (g := (mkF m 54 #[.val (.ref x0), .val (.ref b), .val (.int (0 : Int32)), .val (.int (1 : Int32)), .val .null, .val (.ref t_3)] [(.ref t_3), (.ref x0)])) rfl rfl (hb hby d18_54)
  have Fw10 := f11.same W10
  have N10 := Fr.snoc X10 N6 (by omega)
  have sz13 := own_wr_le W10
  have K13 := K9.wr W10 (Or.inl (by simp))
  have O13 := O9.wr W10 (by omega)
  refine OwnEnd.of (S' := T10.setTop (mkF m 57 #[.val (.ref x0), .val (.ref b), .val (.int (0 : Int32)), .val (.int (1 : Int32)), .val .null, .val (.ref t_3)] [])) st10 ?_
  have f14 : Exa Z h10 x0 "java/lang/String" := (f12.wr W10)
  have f15 : Fld Z h10 x0 "java/lang/String" "coder" "B" (.int cd_3) := (Fw6.other W10 (Or.inr (slot_ne (Or.inr (own_w G 37 rfl)) (Or.inr (own_w G 39 rfl)) (by decide) (t := .byte) (t' := (.array .byte)) (by decide) (by decide))))
  have f16 : Arv Z h10 t_3 kb_3 .byte N_3 vs_3 (.int (0 : Int32)) := ((r3_0.other W6 (own_ne (by omega))).other W10 (own_ne (by omega)))
  refine OwnEnd.ret X10 (v := none) (fun _ => rfl) hlk (fun fs hr => X10.returnOut hx Bd.returns (hb hby d18_57) hr) (by decide) (by decide) (Q := Qnv1 Z x0 b v0 c9 kC dC c0 h0 n0) e10 ?_
  exact ⟨t_3, kb_3, N_3, vs_3, cd_3, rfl, N10, K13, f14, Fw10, f15, f16, (r3_1), (by omega)⟩

theorem own_efnw1 (m : MethodId) (x0 : Addr) (b : Addr) : entryFrame m #[(.ref x0), (.ref b)] 2 = mkF m 0 #[.val (.ref x0), .val (.ref b)] [] := by first | (simp [entryFrame, mkF, argsToLocals, Value.category]; done) | rfl
def Qnw1 (Z : State) (x0 : Addr) (b : Addr) (v0 : Value) (c9 : Value) (kC : ClassId) (dC : Value) (c0 : Int32) (h0 : Heap) (n0 : Nat) (v : Option Value) (h : Heap) (L : List Loc) : Prop := ∃ (t : Addr) (kb : ClassId) (N : Int32) (vs : List Value) (cd : Int32), v = none ∧ Fr n0 L ∧ Keep h0 h [x0] ∧ (Exa Z h x0 "java/lang/String") ∧ (Fld Z h x0 "java/lang/String" "value" "[B" (.ref t)) ∧ (Fld Z h x0 "java/lang/String" "coder" "B" (.int cd)) ∧ (Arv Z h t kb .byte N vs (.int (0 : Int32))) ∧ (StrChars.Road.CodA [c0] cd N vs) ∧ (Array.size h0 ≤ t)
set_option maxRecDepth 65536 in
set_option maxHeartbeats 40000000 in
theorem rmnw1 (l : Launch) (Z : State) (a0 : Array Value) (G : OwnG Z a0) (ws : List Jvm.Cond) (x0 : Addr) (b : Addr) (v0 : Value) (c9 : Value) (kC : ClassId) (dC : Value) (c0 : Int32) (h0 : Heap) (n0 : Nat) (O0 : Old Z n0 h0) (P0 : Exa Z h0 x0 "java/lang/String") (P1 : Fld Z h0 x0 "java/lang/String" "value" "[B" v0) (P2 : Fld Z h0 x0 "java/lang/String" "coder" "B" c9) (P3 : n0 ≤ x0) (P4 : Arv Z h0 b kC .char (1 : Int32) [(.int c0)] dC) (P5 : ∀ c ∈ ([c0] : List Int32), ¬ c < (0 : Int32) ∧ ¬ (65535 : Int32) < c) (P6 : x0 ≠ b) :
    MetFree l own_m19 (head1 (Jvm.Cond.code own_m19 jdk_42_method_3_code 2 none :: ws) ({ frames := 5, cells := 2, slots := 3, locals := 74 } : Room)) (fun a U => a = #[(.ref x0), (.ref b)] ∧ Z.Warmed39 U.vm ∧ U.heap = h0) (fun _ _ _ _ _ => True) (fun _ U o U' => ∃ v L, o = .returned v ∧ Qnw1 Z x0 b v0 c9 kC dC c0 h0 n0 v U'.heap L ∧ FrameEnd U o U' L ({ frames := 5, cells := 2, slots := 3, locals := 74 } : Room).cells ({ frames := 5, cells := 2, slots := 3, locals := 74 } : Room).slots) := by
  refine MetFree.of_bodySF (plainFor_of_name pn_1) hisR ?_
  intro p e s m args below meth cD s₁ Bd hml0 hP hK
  obtain ⟨rfl, hZ, hh⟩ := hP
  have hw := G.1
  have hx := Bd.exec
  have hby := Bd.bytes
  have hml : cD.maxLocals = 2 := hml0
  have hown : s.vm.findClass "java/lang/String" = some m.cls := findClass_of_methodNamed Bd.named
  have hnm := (name_of_methodNamed Bd.named Bd.method).1
  have hlk := Bd.notSynchronized
  have X0 : Stand p l e ({ frames := 5, cells := 2, slots := 3, locals := 74 } : Room) s m #[(.ref x0), (.ref b)] below meth cD s₁ [] 0 0 := Stand.of_body Bd
  have e0 : s₁.heap = h0 := by rw [← hh, Bd.state]; rfl
  have lt0 := own_ltN' P0.lt
  have lt1 := own_ltN' P1.lt
  have lt2 := own_ltN' P2.lt
  have lt4 := own_ltN' P4.lt
  have nP6 := own_neN P6
  have K0 : Keep h0 h0 [x0] := Keep.refl h0 _
  have Z0 := own_old_le O0
  have N0 := Fr.nil n0
  refine OwnEnd.start (g' := (mkF m 0 #[.val (.ref x0), .val (.ref b)] [])) (own_efnw1 m x0 b) ?_
  refine OwnEnd.of (S' := s₁.setTop (mkF m 4 #[.val (.ref x0), .val (.ref b)] [(.ref b), (.int (0 : Int32)), (.ref b), (.ref x0)])) (fun _ kK => XS.aloadN X0.here hx rfl (hb hby d19_0) rfl rfl (XS.aloadN X0.here hx rfl (hb hby d19_1) rfl rfl (XS.iconst X0.here hx rfl (hb hby d19_2) (XS.aloadN X0.here hx rfl (hb hby d19_3) rfl rfl kK)))) ?_
  obtain ⟨cl1, Ar1, q1, S1, N1', H1, G1⟩ := id P4
  refine OwnEnd.of (S' := s₁.setTop (mkF m 5 #[.val (.ref x0), .val (.ref b)] [(.int (1 : Int32)), (.int (0 : Int32)), (.ref b), (.ref x0)])) (fun _ kK => X0.arraylength hx (by rw [e0]; exact Ar1.1) (State.isArrayOf_alike hZ.alike Ar1.2.1) (g := (mkF m 4 #[.val (.ref x0), .val (.ref b)] [(.ref b), (.int (0 : Int32)), (.ref b), (.ref x0)])) rfl rfl (hb hby d19_4) _ (by rw [len_of S1 N1']; exact kK)) ?_
  refine OwnEnd.of (S' := s₁.setTop (mkF m 6 #[.val (.ref x0), .val (.ref b)] [.null, (.int (1 : Int32)), (.int (0 : Int32)), (.ref b), (.ref x0)])) (fun _ kK => XS.aconstNull X0.here hx rfl (hb hby d19_5) kK) ?_
  obtain ⟨_, _, ⟨T2, L2, k2, n2⟩, -, X2, ⟨Lc2, hQ2, l2, y2, z2⟩, st2⟩ := Jvm.Stand.specialBack X0 hx (y := own_m18) rfl hown (mvT hZ (own_w G 17 rfl)) (mvT hZ (own_w G 18 rfl)) (mvT hZ (own_w G 20 rfl)) (by decide) (backOf (W := 0) (rmnv1 l Z a0 G [] x0 b v0 c9 kC dC c0 h0 n0 O0 P0 P1 P2 (by omega) P4 P5 (P6 : x0 ≠ b)) hZ (own_w G 20 rfl) (own_w G 12 rfl) (by decide) (by decide)) (g := (mkF m 6 #[.val (.ref x0), .val (.ref b)] [.null, (.int (1 : Int32)), (.int (0 : Int32)), (.ref b), (.ref x0)])) rfl (by rw [hml]; rfl) (Steps.refl _) (a := x0) (argsL := [(.ref b), (.int (0 : Int32)), (.int (1 : Int32)), .null]) (rest := []) (lenOf pd_13 rfl) rfl (by show 2 * 0 + _ ≤ _; exact Nat.le_of_eq rfl) (hb hby d19_6) (fun _ _ => ⟨rfl, e0, (by decide : 0 + 2 ≤ _), (by decide : 0 + 3 ≤ _)⟩)
  dsimp only [Pt.U, Pt.locs, Pt.cells, Pt.slots] at X2 l2 y2 z2 st2 hQ2
  subst l2 y2 z2
  obtain ⟨t_2, kb_2, N_2, vs_2, cd_2, rfl, N2q, Kq2, r2_0, r2_1, r2_2, r2_3, r2_4, r2_5⟩ := hQ2
  have N2 := Fr.app N0 N2q
  have sz3 := Kq2.1
  have K3 := K0.trans Kq2 (own_all1 (Or.inl (by simp)))
  have O3 := O0.keep Kq2 (own_all1 (by omega))
  have ltr2_0 := own_ltN' r2_0.lt
  have ltr2_1 := own_ltN' r2_1.lt
  have ltr2_2 := own_ltN' r2_2.lt
  have ltr2_3 := own_ltN' r2_3.lt
  refine OwnEnd.tr (S' := T2.setTop (mkF m 9 #[.val (.ref x0), .val (.ref b)] [])) st2 ?_
  refine OwnEnd.ret X2 (v := none) (fun _ => rfl) hlk (fun fs hr => X2.returnOut hx Bd.returns (hb hby d19_9) hr) (by decide) (by decide) (Q := Qnw1 Z x0 b v0 c9 kC dC c0 h0 n0) rfl ?_
  exact ⟨t_2, kb_2, N_2, vs_2, cd_2, rfl, N2, K3, r2_0, r2_1, r2_2, r2_3, (r2_4), (by omega)⟩

theorem own_efnb2 (m : MethodId) : entryFrame m #[(.int (2 : Int32))] 1 = mkF m 0 #[.val (.int (2 : Int32))] [] := by first | (simp [entryFrame, mkF, argsToLocals, Value.category]; done) | rfl
def Qnb2 (Z : State)  (h0 : Heap) (n0 : Nat) (v : Option Value) (h : Heap) (L : List Loc) : Prop := ∃ (t : Addr) (kb : ClassId), v = some (.ref t) ∧ Fr n0 L ∧ Keep h0 h [] ∧ (Arv Z h t kb .byte (4 : Int32) [(.int (0 : Int32)), (.int (0 : Int32)), (.int (0 : Int32)), (.int (0 : Int32))] (.int (0 : Int32))) ∧ (Array.size h0 ≤ t)
set_option maxRecDepth 65536 in
set_option maxHeartbeats 40000000 in
theorem rmnb2 (l : Launch) (Z : State) (a0 : Array Value) (G : OwnG Z a0) (ws : List Jvm.Cond)  (h0 : Heap) (n0 : Nat) (O0 : Old Z n0 h0)  :
    MetFree l own_m13 (head1 (Jvm.Cond.code own_m13 jdk_52_method_2_code 1 (some (.array .byte)) :: ws) ({ frames := 1, cells := 1, slots := 4, locals := 12 } : Room)) (fun a U => a = #[(.int (2 : Int32))] ∧ Z.Warmed39 U.vm ∧ U.heap = h0) (fun _ _ _ _ _ => True) (fun _ U o U' => ∃ v L, o = .returned v ∧ Qnb2 Z  h0 n0 v U'.heap L ∧ FrameEnd U o U' L ({ frames := 1, cells := 1, slots := 4, locals := 12 } : Room).cells ({ frames := 1, cells := 1, slots := 4, locals := 12 } : Room).slots) := by
  refine MetFree.of_bodySF (plainFor_of_name pn_3) hisR ?_
  intro p e s m args below meth cD s₁ Bd hml0 hP hK
  obtain ⟨rfl, hZ, hh⟩ := hP
  have hw := G.1
  have hx := Bd.exec
  have hby := Bd.bytes
  have hml : cD.maxLocals = 1 := hml0
  have hown : s.vm.findClass "java/lang/StringUTF16" = some m.cls := findClass_of_methodNamed Bd.named
  have hnm := (name_of_methodNamed Bd.named Bd.method).1
  have hlk := Bd.notSynchronized
  have X0 : Stand p l e ({ frames := 1, cells := 1, slots := 4, locals := 12 } : Room) s m #[(.int (2 : Int32))] below meth cD s₁ [] 0 0 := Stand.of_body Bd
  have e0 : s₁.heap = h0 := by rw [← hh, Bd.state]; rfl
  have K0 : Keep h0 h0 [] := Keep.refl h0 _
  have Z0 := own_old_le O0
  have N0 := Fr.nil n0
  refine OwnEnd.start (g' := (mkF m 0 #[.val (.int (2 : Int32))] [])) (own_efnb2 m ) ?_
  refine OwnEnd.of (S' := s₁.setTop (mkF m 1 #[.val (.int (2 : Int32))] [(.int (2 : Int32))])) (fun _ kK => XS.iloadN X0.here hx rfl (hb hby d13_0) rfl kK) ?_
  obtain ⟨_, _, ⟨T1, L1, k1, n1⟩, -, X1, ⟨Lc1, hQ1, l1, y1, z1⟩, st1⟩ := Jvm.LawKit.callS X0 hx (y := own_m11) hown (mvT hZ (own_w G 121 rfl)) (mvT hZ (own_w G 122 rfl)) (mvT hZ (own_w G 27 rfl)) (mvT hZ (own_w G 123 rfl)) (by decide) (backOf (W := 0) (rmnl l Z a0 G [] (2 : Int32) (4 : Int32) h0 n0 O0 (by decide : ¬ (2 : Int32) < (0 : Int32)) (by decide : (2 : Int32) < (1073741823 : Int32)) (by decide : (2 : Int32) <<< ((1 : Int32) &&& 31) = (4 : Int32))) hZ (own_w G 123 rfl) (own_w G 27 rfl) (by decide) (by decide)) (g := (mkF m 1 #[.val (.int (2 : Int32))] [(.int (2 : Int32))])) rfl (by rw [hml]; rfl) (argsL := [(.int (2 : Int32))]) (rest := []) (lenOf pd_7 rfl) rfl (by show 2 * 0 + _ ≤ _; exact Nat.le_of_eq rfl) (hb hby d13_1) (fun _ _ => ⟨rfl, e0, (by decide : 0 + 0 ≤ _), (by decide : 0 + 0 ≤ _)⟩)
  dsimp only [Pt.U, Pt.locs, Pt.cells, Pt.slots] at X1 l1 y1 z1 st1 hQ1
  subst l1 y1 z1
  obtain ⟨rfl, N1q, eh1⟩ := hQ1
  have N1 := Fr.app N0 N1q
  refine OwnEnd.of (S' := T1.setTop (mkF m 4 #[.val (.int (2 : Int32))] [(.int (4 : Int32))])) st1 ?_
  obtain ⟨T2, h2, k2, X2, e2, E2, A2, st2⟩ := newP X1 hx hZ (own_w G 29 rfl) eh1 (g := (mkF m 4 #[.val (.int (2 : Int32))] [(.int (4 : Int32))])) rfl (hb hby d13_4) rfl (by decide) (cap := 4) (by decide) (by decide) (by decide) (by decide)
  obtain ⟨b2, g2⟩ : ∃ z, z = Array.size h0 := ⟨_, rfl⟩
  rw [← g2] at A2 st2
  have lt_b2 := own_ltN' A2.lt
  have sz3 := E2.1
  have K3 := K0.ext E2
  have O3 := O0.ext E2
  have V2 : Arv Z h2 b2 k2 .byte (4 : Int32) [(.int (0 : Int32)), (.int (0 : Int32)), (.int (0 : Int32)), (.int (0 : Int32))] (.int (0 : Int32)) := (Arv.new A2 (by decide)).pad (pad_rep [] (.int (0 : Int32)) 4)
  refine OwnEnd.of (S' := T2.setTop (mkF m 6 #[.val (.int (2 : Int32))] [(.ref b2)])) st2 ?_
  refine OwnEnd.ret X2 (v := (some (.ref b2))) (fun h => by rw [Bd.returns] at h; cases h) hlk (fun fs hr => retOut X2 hx Bd.returns rfl (Or.inr (Or.inr (Or.inr (Or.inr ⟨rfl, rfl, rfl⟩)))) (hb hby d13_6) hr) (by decide) (by decide) (Q := Qnb2 Z  h0 n0) e2 ?_
  exact ⟨b2, k2, rfl, N1, K3, V2, (by omega)⟩

theorem own_efby2 (m : MethodId) (b : Addr) : entryFrame m #[(.ref b), (.int (0 : Int32)), (.int (2 : Int32))] 5 = mkF m 0 #[.val (.ref b), .val (.int (0 : Int32)), .val (.int (2 : Int32)), .unset, .unset] [] := by first | (simp [entryFrame, mkF, argsToLocals, Value.category]; done) | rfl
def Qby2 (Z : State) (b : Addr) (kC : ClassId) (dC : Value) (c0 : Int32) (c1 : Int32) (h0 : Heap) (n0 : Nat) (v : Option Value) (h : Heap) (L : List Loc) : Prop := ∃ (t : Addr) (kb : ClassId), v = some (.ref t) ∧ Fr n0 L ∧ Keep h0 h [] ∧ (Arv Z h t kb .byte (4 : Int32) (StrChars.Road.wideBytes [c0, c1]) (.int (0 : Int32))) ∧ (Array.size h0 ≤ t)
set_option maxRecDepth 65536 in
set_option maxHeartbeats 40000000 in
theorem rmby2 (l : Launch) (Z : State) (a0 : Array Value) (G : OwnG Z a0) (ws : List Jvm.Cond) (b : Addr) (kC : ClassId) (dC : Value) (c0 : Int32) (c1 : Int32) (h0 : Heap) (n0 : Nat) (O0 : Old Z n0 h0) (P0 : Arv Z h0 b kC .char (2 : Int32) [(.int c0), (.int c1)] dC) :
    MetFree l own_m14 (head1 (Jvm.Cond.code own_m14 jdk_52_method_14_code 5 (some (.array .byte)) :: ws) ({ frames := 2, cells := 1, slots := 4, locals := 24 } : Room)) (fun a U => a = #[(.ref b), (.int (0 : Int32)), (.int (2 : Int32))] ∧ Z.Warmed39 U.vm ∧ U.heap = h0) (fun _ _ _ _ _ => True) (fun _ U o U' => ∃ v L, o = .returned v ∧ Qby2 Z b kC dC c0 c1 h0 n0 v U'.heap L ∧ FrameEnd U o U' L ({ frames := 2, cells := 1, slots := 4, locals := 24 } : Room).cells ({ frames := 2, cells := 1, slots := 4, locals := 24 } : Room).slots) := by
  refine MetFree.of_bodySF (plainFor_of_name pn_3) hisR ?_
  intro p e s m args below meth cD s₁ Bd hml0 hP hK
  obtain ⟨rfl, hZ, hh⟩ := hP
  have hw := G.1
  have hx := Bd.exec
  have hby := Bd.bytes
  have hml : cD.maxLocals = 5 := hml0
  have hown : s.vm.findClass "java/lang/StringUTF16" = some m.cls := findClass_of_methodNamed Bd.named
  have hnm := (name_of_methodNamed Bd.named Bd.method).1
  have hlk := Bd.notSynchronized
  have X0 : Stand p l e ({ frames := 2, cells := 1, slots := 4, locals := 24 } : Room) s m #[(.ref b), (.int (0 : Int32)), (.int (2 : Int32))] below meth cD s₁ [] 0 0 := Stand.of_body Bd
  have e0 : s₁.heap = h0 := by rw [← hh, Bd.state]; rfl
  have lt0 := own_ltN' P0.lt
  have K0 : Keep h0 h0 [] := Keep.refl h0 _
  have Z0 := own_old_le O0
  have N0 := Fr.nil n0
  refine OwnEnd.start (g' := (mkF m 0 #[.val (.ref b), .val (.int (0 : Int32)), .val (.int (2 : Int32)), .unset, .unset] [])) (own_efby2 m b) ?_
  refine OwnEnd.of (S' := s₁.setTop (mkF m 1 #[.val (.ref b), .val (.int (0 : Int32)), .val (.int (2 : Int32)), .unset, .unset] [(.int (2 : Int32))])) (fun _ kK => XS.iloadN X0.here hx rfl (hb hby d14_0) rfl kK) ?_
  obtain ⟨_, _, ⟨T1, L1, k1, n1⟩, -, X1, ⟨Lc1, hQ1, l1, y1, z1⟩, st1⟩ := Jvm.LawKit.callS X0 hx (y := own_m13) hown (mvT hZ (own_w G 118 rfl)) (mvT hZ (own_w G 119 rfl)) (mvT hZ (own_w G 27 rfl)) (mvT hZ (own_w G 120 rfl)) (by decide) (backOf (W := 0) (rmnb2 l Z a0 G []  h0 n0 O0 ) hZ (own_w G 120 rfl) (own_w G 27 rfl) (by decide) (by decide)) (g := (mkF m 1 #[.val (.ref b), .val (.int (0 : Int32)), .val (.int (2 : Int32)), .unset, .unset] [(.int (2 : Int32))])) rfl (by rw [hml]; rfl) (argsL := [(.int (2 : Int32))]) (rest := []) (lenOf pd_8 rfl) rfl (by show 2 * 0 + _ ≤ _; exact Nat.le_of_eq rfl) (hb hby d14_1) (fun _ _ => ⟨rfl, e0, (by decide : 0 + 1 ≤ _), (by decide : 0 + 4 ≤ _)⟩)
  dsimp only [Pt.U, Pt.locs, Pt.cells, Pt.slots] at X1 l1 y1 z1 st1 hQ1
  subst l1 y1 z1
  obtain ⟨t_1, kb_1, rfl, N1q, Kq1, r1_0, r1_1⟩ := hQ1
  have N1 := Fr.app N0 N1q
  have sz2 := Kq1.1
  have K2 := K0.trans Kq1 (own_all0 )
  have O2 := O0.keep Kq1 (own_all0 )
  have ltr1_0 := own_ltN' r1_0.lt
  refine OwnEnd.of (S' := T1.setTop (mkF m 4 #[.val (.ref b), .val (.int (0 : Int32)), .val (.int (2 : Int32)), .unset, .unset] [(.ref t_1)])) st1 ?_
  refine OwnEnd.of (S' := T1.setTop (mkF m 19 #[.val (.ref b), .val (.int (0 : Int32)), .val (.int (2 : Int32)), .val (.ref t_1), .val (.int (0 : Int32))] [(.int (0 : Int32)), (.ref b), (.int (0 : Int32)), (.ref t_1)])) (fun _ kK => XS.astoreN X1.here hx rfl (hb hby d14_4) rfl rfl (l' := #[.val (.ref b), .val (.int (0 : Int32)), .val (.int (2 : Int32)), .val (.ref t_1), .unset]) rfl (XS.iconst X1.here hx rfl (hb hby d14_5) (XS.istore X1.here hx rfl (hb hby d14_6) rfl (l' := #[.val (.ref b), .val (.int (0 : Int32)), .val (.int (2 : Int32)), .val (.ref t_1), .val (.int (0 : Int32))]) rfl (XS.iload X1.here hx rfl (hb hby d14_8) rfl (XS.iloadN X1.here hx rfl (hb hby d14_10) rfl (XS.icmpNo X1.here hx rfl (hb hby d14_11) rfl (tlt ((by decide : (0 : Int32) < (2 : Int32)))).2.1 (XS.aloadN X1.here hx rfl (hb hby d14_14) rfl rfl (XS.iload X1.here hx rfl (hb hby d14_15) rfl (XS.aloadN X1.here hx rfl (hb hby d14_17) rfl rfl (XS.iloadN X1.here hx rfl (hb hby d14_18) rfl kK)))))))))) ?_
  have f3 : Arv Z T1.heap b kC .char (2 : Int32) [(.int c0), (.int c1)] dC := (P0.keep Kq1 nin0)
  obtain ⟨cl4, Ar4, q4, S4, N4', H4, G4⟩ := id f3
  have hin5 : ¬ ((0 : Int32) < 0 ∨ cl4.slots.size ≤ ((0 : Int32)).toNatClampNeg) := inb_of S4 ⟨by decide, by decide⟩
  refine OwnEnd.of (S' := T1.setTop (mkF m 20 #[.val (.ref b), .val (.int (0 : Int32)), .val (.int (2 : Int32)), .val (.ref t_1), .val (.int (0 : Int32))] [(.int c0), (.int (0 : Int32)), (.ref t_1)])) (fun _ kK => X1.caload hx (j := (0 : Int32)) (v := (.int c0)) Ar4.1 (State.isArrayOf_alike hZ.alike Ar4.2.1) Ar4.2.2 hin5 (Has.at H4 hin5 (rfl)) (g := (mkF m 19 #[.val (.ref b), .val (.int (0 : Int32)), .val (.int (2 : Int32)), .val (.ref t_1), .val (.int (0 : Int32))] [(.int (0 : Int32)), (.ref b), (.int (0 : Int32)), (.ref t_1)])) rfl rfl (hb hby d14_19) _ kK) ?_
  obtain ⟨_, _, ⟨T6, L6, k6, n6⟩, -, X6, ⟨Lc6, hQ6, l6, y6, z6⟩, st6⟩ := Jvm.LawKit.callS X1 hx (y := own_m12) hown (mvT hZ (own_w G 125 rfl)) (mvT hZ (own_w G 126 rfl)) (mvT hZ (own_w G 27 rfl)) (mvT hZ (own_w G 127 rfl)) (by decide) (backOf (W := 0) (rmpu0 l Z a0 G [] t_1 kb_1 (4 : Int32) [(.int (0 : Int32)), (.int (0 : Int32)), (.int (0 : Int32)), (.int (0 : Int32))] (.int (0 : Int32)) c0 T1.heap n0 O2 r1_0 (by decide : (0 : Int32) < (4 : Int32)) (by decide : (1 : Int32) < (4 : Int32)) (Nat.le_of_ble_eq_true rfl : 1 < [(.int (0 : Int32)), (.int (0 : Int32)), (.int (0 : Int32)), (.int (0 : Int32))].length) (by omega)) hZ (own_w G 127 rfl) (own_w G 27 rfl) (by decide) (by decide)) (g := (mkF m 20 #[.val (.ref b), .val (.int (0 : Int32)), .val (.int (2 : Int32)), .val (.ref t_1), .val (.int (0 : Int32))] [(.int c0), (.int (0 : Int32)), (.ref t_1)])) rfl (by rw [hml]; rfl) (argsL := [(.ref t_1), (.int (0 : Int32)), (.int c0)]) (rest := []) (lenOf pd_9 rfl) rfl (by show 2 * 0 + _ ≤ _; exact Nat.le_of_eq rfl) (hb hby d14_20) (fun _ _ => ⟨rfl, rfl, (by decide : 1 + 0 ≤ _), (by decide : 4 + 0 ≤ _)⟩)
  dsimp only [Pt.U, Pt.locs, Pt.cells, Pt.slots] at X6 l6 y6 z6 st6 hQ6
  subst l6 y6 z6
  obtain ⟨rfl, N6q, Kq6, r6_0⟩ := hQ6
  have N6 := Fr.app N1 N6q
  have sz7 := Kq6.1
  have K7 := K2.trans Kq6 (own_all1 (Or.inr (by omega)))
  have O7 := O2.keep Kq6 (own_all1 (by omega))
  have ltr6_0 := own_ltN' r6_0.lt
  refine OwnEnd.of (S' := T6.setTop (mkF m 23 #[.val (.ref b), .val (.int (0 : Int32)), .val (.int (2 : Int32)), .val (.ref t_1), .val (.int (0 : Int32))] [])) st6 ?_
  have V8 : Arv Z T6.heap t_1 kb_1 .byte (4 : Int32) [(.int (StrChars.lo8 c0)), (.int (StrChars.hi8 c0)), (.int (0 : Int32)), (.int (0 : Int32))] (.int (0 : Int32)) := by have q := r6_0; exact q
  refine OwnEnd.of (S' := T6.setTop (mkF m 19 #[.val (.ref b), .val (.int (1 : Int32)), .val (.int (2 : Int32)), .val (.ref t_1), .val (.int (1 : Int32))] [(.int (1 : Int32)), (.ref b), (.int (1 : Int32)), (.ref t_1)])) (fun _ kK => XS.iinc X6.here hx rfl (hb hby d14_23) rfl (l' := #[.val (.ref b), .val (.int (1 : Int32)), .val (.int (2 : Int32)), .val (.ref t_1), .val (.int (0 : Int32))]) rfl (XS.iinc X6.here hx rfl (hb hby d14_26) rfl (l' := #[.val (.ref b), .val (.int (1 : Int32)), .val (.int (2 : Int32)), .val (.ref t_1), .val (.int (1 : Int32))]) rfl (XS.goto X6.here hx rfl (pc0 := 29) (pc' := 8) rfl (hb hby d14_29) (by decide) (by decide) (XS.iload X6.here hx rfl (hb hby d14_8) rfl (XS.iloadN X6.here hx rfl (hb hby d14_10) rfl (XS.icmpNo X6.here hx rfl (hb hby d14_11) rfl (tlt ((by decide : (1 : Int32) < (2 : Int32)))).2.1 (XS.aloadN X6.here hx rfl (hb hby d14_14) rfl rfl (XS.iload X6.here hx rfl (hb hby d14_15) rfl (XS.aloadN X6.here hx rfl (hb hby d14_17) rfl rfl (XS.iloadN X6.here hx rfl (hb hby d14_18) rfl kK)))))))))) ?_
  have f9 : Arv Z T6.heap b kC .char (2 : Int32) [(.int c0), (.int c1)] dC := (f3.keep Kq6 (own_nin1 (own_ne (by omega))))
  obtain ⟨cl10, Ar10, q10, S10, N10', H10, G10⟩ := id f9
  have hin11 : ¬ ((1 : Int32) < 0 ∨ cl10.slots.size ≤ ((1 : Int32)).toNatClampNeg) := inb_of S10 ⟨by decide, by decide⟩
  refine OwnEnd.of (S' := T6.setTop (mkF m 20 #[.val (.ref b), .val (.int (1 : Int32)), .val (.int (2 : Int32)), .val (.ref t_1), .val (.int (1 : Int32))] [(.int c1), (.int (1 : Int32)), (.ref t_1)])) (fun _ kK => X6.caload hx (j := (1 : Int32)) (v := (.int c1)) Ar10.1 (State.isArrayOf_alike hZ.alike Ar10.2.1) Ar10.2.2 hin11 (Has.at H10 hin11 (rfl)) (g := (mkF m 19 #[.val (.ref b), .val (.int (1 : Int32)), .val (.int (2 : Int32)), .val (.ref t_1), .val (.int (1 : Int32))] [(.int (1 : Int32)), (.ref b), (.int (1 : Int32)), (.ref t_1)])) rfl rfl (hb hby d14_19) _ kK) ?_
  obtain ⟨_, _, ⟨T12, L12, k12, n12⟩, -, X12, ⟨Lc12, hQ12, l12, y12, z12⟩, st12⟩ := Jvm.LawKit.callS X6 hx (y := own_m12) hown (mvT hZ (own_w G 125 rfl)) (mvT hZ (own_w G 126 rfl)) (mvT hZ (own_w G 27 rfl)) (mvT hZ (own_w G 127 rfl)) (by decide) (backOf (W := 0) (rmpu1 l Z a0 G [] t_1 kb_1 (4 : Int32) [(.int (StrChars.lo8 c0)), (.int (StrChars.hi8 c0)), (.int (0 : Int32)), (.int (0 : Int32))] (.int (0 : Int32)) c1 T6.heap n0 O7 V8 (by decide : (2 : Int32) < (4 : Int32)) (by decide : (3 : Int32) < (4 : Int32)) (Nat.le_of_ble_eq_true rfl : 3 < [(.int (StrChars.lo8 c0)), (.int (StrChars.hi8 c0)), (.int (0 : Int32)), (.int (0 : Int32))].length) (by omega)) hZ (own_w G 127 rfl) (own_w G 27 rfl) (by decide) (by decide)) (g := (mkF m 20 #[.val (.ref b), .val (.int (1 : Int32)), .val (.int (2 : Int32)), .val (.ref t_1), .val (.int (1 : Int32))] [(.int c1), (.int (1 : Int32)), (.ref t_1)])) rfl (by rw [hml]; rfl) (argsL := [(.ref t_1), (.int (1 : Int32)), (.int c1)]) (rest := []) (lenOf pd_9 rfl) rfl (by show 2 * 0 + _ ≤ _; exact Nat.le_of_eq rfl) (hb hby d14_20) (fun _ _ => ⟨rfl, rfl, (by decide : 1 + 0 ≤ _), (by decide : 4 + 0 ≤ _)⟩)
  dsimp only [Pt.U, Pt.locs, Pt.cells, Pt.slots] at X12 l12 y12 z12 st12 hQ12
  subst l12 y12 z12
  obtain ⟨rfl, N12q, Kq12, r12_0⟩ := hQ12
  have N12 := Fr.app N6 N12q
  have sz13 := Kq12.1
  have K13 := K7.trans Kq12 (own_all1 (Or.inr (by omega)))
  have O13 := O7.keep Kq12 (own_all1 (by omega))
  have ltr12_0 := own_ltN' r12_0.lt
  refine OwnEnd.of (S' := T12.setTop (mkF m 23 #[.val (.ref b), .val (.int (1 : Int32)), .val (.int (2 : Int32)), .val (.ref t_1), .val (.int (1 : Int32))] [])) st12 ?_
  have V14 : Arv Z T12.heap t_1 kb_1 .byte (4 : Int32) [(.int (StrChars.lo8 c0)), (.int (StrChars.hi8 c0)), (.int (StrChars.lo8 c1)), (.int (StrChars.hi8 c1))] (.int (0 : Int32)) := by have q := r12_0; exact q
  refine OwnEnd.of (S' := T12.setTop (mkF m 33 #[.val (.ref b), .val (.int (2 : Int32)), .val (.int (2 : Int32)), .val (.ref t_1), .val (.int (2 : Int32))] [(.ref t_1)])) (fun _ kK => XS.iinc X12.here hx rfl (hb hby d14_23) rfl (l' := #[.val (.ref b), .val (.int (2 : Int32)), .val (.int (2 : Int32)), .val (.ref t_1), .val (.int (1 : Int32))]) rfl (XS.iinc X12.here hx rfl (hb hby d14_26) rfl (l' := #[.val (.ref b), .val (.int (2 : Int32)), .val (.int (2 : Int32)), .val (.ref t_1), .val (.int (2 : Int32))]) rfl (XS.goto X12.here hx rfl (pc0 := 29) (pc' := 8) rfl (hb hby d14_29) (by decide) (by decide) (XS.iload X12.here hx rfl (hb hby d14_8) rfl (XS.iloadN X12.here hx rfl (hb hby d14_10) rfl (XS.icmpYes X12.here hx rfl (pc0 := 11) (pc' := 32) rfl (hb hby d14_11) rfl (flt ((by decide : ¬ ((2 : Int32) < (2 : Int32))))).2.1 (by decide) (by decide) (XS.aloadN X12.here hx rfl (hb hby d14_32) rfl rfl kK))))))) ?_
  have V15 : Arv Z T12.heap t_1 kb_1 .byte (4 : Int32) (StrChars.Road.wideBytes [c0, c1]) (.int (0 : Int32)) := by have q := V14; exact q
  refine OwnEnd.ret X12 (v := (some (.ref t_1))) (fun h => by rw [Bd.returns] at h; cases h) hlk (fun fs hr => retOut X12 hx Bd.returns rfl (Or.inr (Or.inr (Or.inr (Or.inr ⟨rfl, rfl, rfl⟩)))) (hb hby d14_33) hr) (by decide) (by decide) (Q := Qby2 Z b kC dC c0 c1 h0 n0) rfl ?_
  exact ⟨t_1, kb_1, rfl, N12, K13, V15, (by omega)⟩

theorem own_efcv2 (m : MethodId) (b : Addr) (t : Addr) : entryFrame m #[(.ref b), (.int (0 : Int32)), (.ref t), (.int (0 : Int32)), (.int (2 : Int32))] 7 = mkF m 0 #[.val (.ref b), .val (.int (0 : Int32)), .val (.ref t), .val (.int (0 : Int32)), .val (.int (2 : Int32)), .unset, .unset] [] := by first | (simp [entryFrame, mkF, argsToLocals, Value.category]; done) | rfl
def Qcv2 (Z : State) (b : Addr) (t : Addr) (kC : ClassId) (dC : Value) (kb : ClassId) (c0 : Int32) (c1 : Int32) (h0 : Heap) (n0 : Nat) (v : Option Value) (h : Heap) (L : List Loc) : Prop := v = some (.int (own_first [c0, c1])) ∧ Fr n0 L ∧ Keep h0 h [t] ∧ (Arv Z h t kb .byte (2 : Int32) (own_cbs [c0, c1]) (.int (0 : Int32)))
set_option maxRecDepth 65536 in
set_option maxHeartbeats 40000000 in
theorem rmcv2 (l : Launch) (Z : State) (a0 : Array Value) (G : OwnG Z a0) (ws : List Jvm.Cond) (b : Addr) (t : Addr) (kC : ClassId) (dC : Value) (kb : ClassId) (c0 : Int32) (c1 : Int32) (h0 : Heap) (n0 : Nat) (O0 : Old Z n0 h0) (P0 : Arv Z h0 b kC .char (2 : Int32) [(.int c0), (.int c1)] dC) (P1 : Arv Z h0 t kb .byte (2 : Int32) [(.int (0 : Int32)), (.int (0 : Int32))] (.int (0 : Int32))) (P2 : n0 ≤ t) (P3 : b ≠ t) :
    MetFree l own_m15 (head1 (Jvm.Cond.code own_m15 jdk_52_method_21_code 7 (some .int) :: ws) ({ frames := 0, cells := 0, slots := 0, locals := 0 } : Room)) (fun a U => a = #[(.ref b), (.int (0 : Int32)), (.ref t), (.int (0 : Int32)), (.int (2 : Int32))] ∧ Z.Warmed39 U.vm ∧ U.heap = h0) (fun _ _ _ _ _ => True) (fun _ U o U' => ∃ v L, o = .returned v ∧ Qcv2 Z b t kC dC kb c0 c1 h0 n0 v U'.heap L ∧ FrameEnd U o U' L ({ frames := 0, cells := 0, slots := 0, locals := 0 } : Room).cells ({ frames := 0, cells := 0, slots := 0, locals := 0 } : Room).slots) := by
  refine MetFree.of_bodySF (plainFor_of_name pn_3) hisR ?_
  intro p e s m args below meth cD s₁ Bd hml0 hP hK
  obtain ⟨rfl, hZ, hh⟩ := hP
  have hw := G.1
  have hx := Bd.exec
  have hby := Bd.bytes
  have hml : cD.maxLocals = 7 := hml0
  have hown : s.vm.findClass "java/lang/StringUTF16" = some m.cls := findClass_of_methodNamed Bd.named
  have hnm := (name_of_methodNamed Bd.named Bd.method).1
  have hlk := Bd.notSynchronized
  have X0 : Stand p l e ({ frames := 0, cells := 0, slots := 0, locals := 0 } : Room) s m #[(.ref b), (.int (0 : Int32)), (.ref t), (.int (0 : Int32)), (.int (2 : Int32))] below meth cD s₁ [] 0 0 := Stand.of_body Bd
  have e0 : s₁.heap = h0 := by rw [← hh, Bd.state]; rfl
  have lt0 := own_ltN' P0.lt
  have lt1 := own_ltN' P1.lt
  have nP3 := own_neN P3
  have K0 : Keep h0 h0 [t] := Keep.refl h0 _
  have Z0 := own_old_le O0
  have N0 := Fr.nil n0
  refine OwnEnd.start (g' := (mkF m 0 #[.val (.ref b), .val (.int (0 : Int32)), .val (.ref t), .val (.int (0 : Int32)), .val (.int (2 : Int32)), .unset, .unset] [])) (own_efcv2 m b t) ?_
  refine OwnEnd.of (S' := s₁.setTop (mkF m 12 #[.val (.ref b), .val (.int (0 : Int32)), .val (.ref t), .val (.int (0 : Int32)), .val (.int (2 : Int32)), .val (.int (0 : Int32)), .unset] [(.int (0 : Int32)), (.ref b)])) (fun _ kK => XS.iconst X0.here hx rfl (hb hby d15_0) (XS.istore X0.here hx rfl (hb hby d15_1) rfl (l' := #[.val (.ref b), .val (.int (0 : Int32)), .val (.ref t), .val (.int (0 : Int32)), .val (.int (2 : Int32)), .val (.int (0 : Int32)), .unset]) rfl (XS.iload X0.here hx rfl (hb hby d15_3) rfl (XS.iload X0.here hx rfl (hb hby d15_5) rfl (XS.icmpNo X0.here hx rfl (hb hby d15_7) rfl (tlt ((by decide : (0 : Int32) < (2 : Int32)))).2.1 (XS.aloadN X0.here hx rfl (hb hby d15_10) rfl rfl (XS.iloadN X0.here hx rfl (hb hby d15_11) rfl kK))))))) ?_
  obtain ⟨cl1, Ar1, q1, S1, N1', H1, G1⟩ := id P0
  have hin2 : ¬ ((0 : Int32) < 0 ∨ cl1.slots.size ≤ ((0 : Int32)).toNatClampNeg) := inb_of S1 ⟨by decide, by decide⟩
  refine OwnEnd.of (S' := s₁.setTop (mkF m 13 #[.val (.ref b), .val (.int (0 : Int32)), .val (.ref t), .val (.int (0 : Int32)), .val (.int (2 : Int32)), .val (.int (0 : Int32)), .unset] [(.int c0)])) (fun _ kK => X0.caload hx (j := (0 : Int32)) (v := (.int c0)) (by rw [e0]; exact Ar1.1) (State.isArrayOf_alike hZ.alike Ar1.2.1) Ar1.2.2 hin2 (Has.at H1 hin2 (rfl)) (g := (mkF m 12 #[.val (.ref b), .val (.int (0 : Int32)), .val (.ref t), .val (.int (0 : Int32)), .val (.int (2 : Int32)), .val (.int (0 : Int32)), .unset] [(.int (0 : Int32)), (.ref b)])) rfl rfl (hb hby d15_12) _ kK) ?_
  refine OwnEnd.of (S' := s₁.setTop (mkF m 20 #[.val (.ref b), .val (.int (0 : Int32)), .val (.ref t), .val (.int (0 : Int32)), .val (.int (2 : Int32)), .val (.int (0 : Int32)), .val (.int c0)] [(.int (255 : Int32)), (.int c0)])) (fun _ kK => XS.istore X0.here hx rfl (hb hby d15_13) rfl (l' := #[.val (.ref b), .val (.int (0 : Int32)), .val (.ref t), .val (.int (0 : Int32)), .val (.int (2 : Int32)), .val (.int (0 : Int32)), .val (.int c0)]) rfl (XS.iload X0.here hx rfl (hb hby d15_15) rfl (XS.sipush X0.here hx rfl (hb hby d15_17) kK))) ?_
  rcases Decidable.em ((255 : Int32) < c0) with hc3 | hc3
  · refine OwnEnd.of (S' := s₁.setTop (mkF m 25 #[.val (.ref b), .val (.int (0 : Int32)), .val (.ref t), .val (.int (0 : Int32)), .val (.int (2 : Int32)), .val (.int (0 : Int32)), .val (.int c0)] [(.int (0 : Int32))])) (fun _ kK => XS.icmpNo X0.here hx rfl (hb hby d15_20) rfl (tlt (hc3)).2.2.2 (XS.iload X0.here hx rfl (hb hby d15_23) rfl kK)) ?_
    have V4 : Arv Z h0 t kb .byte (2 : Int32) (own_cbs [c0, c1]) (.int (0 : Int32)) := by have q := P1; simpa [own_cbs, hc3] using q
    refine OwnEnd.ret X0 (v := (some (.int (0 : Int32)))) (fun h => by rw [Bd.returns] at h; cases h) hlk (fun fs hr => retOut X0 hx Bd.returns rfl (Or.inl ⟨rfl, Or.inl rfl, _, rfl⟩) (hb hby d15_25) hr) (by decide) (by decide) (Q := Qcv2 Z b t kC dC kb c0 c1 h0 n0) e0 ?_
    exact ⟨(by simp [own_first, hc3]), N0, K0, V4⟩
  · refine OwnEnd.of (S' := s₁.setTop (mkF m 31 #[.val (.ref b), .val (.int (0 : Int32)), .val (.ref t), .val (.int (0 : Int32)), .val (.int (2 : Int32)), .val (.int (0 : Int32)), .val (.int c0)] [(.int (nar .byte c0)), (.int (0 : Int32)), (.ref t)])) (fun _ kK => XS.icmpYes X0.here hx rfl (pc0 := 20) (pc' := 26) rfl (hb hby d15_20) rfl (flt (hc3)).2.2.2 (by decide) (by decide) (XS.aloadN X0.here hx rfl (hb hby d15_26) rfl rfl (XS.iloadN X0.here hx rfl (hb hby d15_27) rfl (XS.iload X0.here hx rfl (hb hby d15_28) rfl (XS.i2b X0.here hx rfl (hb hby d15_30) rfl kK))))) ?_
    obtain ⟨cl5, Ar5, q5, S5, N5', H5, G5⟩ := id P1
    have hin6 : ¬ ((0 : Int32) < 0 ∨ cl5.slots.size ≤ ((0 : Int32)).toNatClampNeg) := inb_of S5 ⟨by decide, by decide⟩
    obtain ⟨T6, h6, X6, e6, W6, st6⟩ := stB X0 hx hZ e0 Ar5 (j := (0 : Int32)) hin6 (g := (mkF m 31 #[.val (.ref b), .val (.int (0 : Int32)), .val (.ref t), .val (.int (0 : Int32)), .val (.int (2 : Int32)), .val (.int (0 : Int32)), .val (.int c0)] [(.int (nar .byte c0)), (.int (0 : Int32)), (.ref t)])) rfl rfl (hb hby d15_31)
    have N6 := Fr.snoc X6 N0 (by omega)
    have sz7 := own_wr_le W6
    have K7 := K0.wr W6 (Or.inl (by simp))
    have O7 := O0.wr W6 (by omega)
    have V6 : Arv Z h6 t kb .byte (2 : Int32) [(.int (nar .byte (nar .byte c0))), (.int (0 : Int32))] (.int (0 : Int32)) := Arv.set Ar5 q5 S5 N5' H5 G5 (fits_nar_byte _) W6 0 rfl (Nat.le_of_ble_eq_true rfl)
    refine OwnEnd.of (S' := T6.setTop (mkF m 32 #[.val (.ref b), .val (.int (0 : Int32)), .val (.ref t), .val (.int (0 : Int32)), .val (.int (2 : Int32)), .val (.int (0 : Int32)), .val (.int c0)] [])) st6 ?_
    refine OwnEnd.of (S' := T6.setTop (mkF m 12 #[.val (.ref b), .val (.int (1 : Int32)), .val (.ref t), .val (.int (1 : Int32)), .val (.int (2 : Int32)), .val (.int (1 : Int32)), .val (.int c0)] [(.int (1 : Int32)), (.ref b)])) (fun _ kK => XS.iinc X6.here hx rfl (hb hby d15_32) rfl (l' := #[.val (.ref b), .val (.int (1 : Int32)), .val (.ref t), .val (.int (0 : Int32)), .val (.int (2 : Int32)), .val (.int (0 : Int32)), .val (.int c0)]) rfl (XS.iinc X6.here hx rfl (hb hby d15_35) rfl (l' := #[.val (.ref b), .val (.int (1 : Int32)), .val (.ref t), .val (.int (1 : Int32)), .val (.int (2 : Int32)), .val (.int (0 : Int32)), .val (.int c0)]) rfl (XS.iinc X6.here hx rfl (hb hby d15_38) rfl (l' := #[.val (.ref b), .val (.int (1 : Int32)), .val (.ref t), .val (.int (1 : Int32)), .val (.int (2 : Int32)), .val (.int (1 : Int32)), .val (.int c0)]) rfl (XS.goto X6.here hx rfl (pc0 := 41) (pc' := 3) rfl (hb hby d15_41) (by decide) (by decide) (XS.iload X6.here hx rfl (hb hby d15_3) rfl (XS.iload X6.here hx rfl (hb hby d15_5) rfl (XS.icmpNo X6.here hx rfl (hb hby d15_7) rfl (tlt ((by decide : (1 : Int32) < (2 : Int32)))).2.1 (XS.aloadN X6.here hx rfl (hb hby d15_10) rfl rfl (XS.iloadN X6.here hx rfl (hb hby d15_11) rfl kK))))))))) ?_
    have f8 : Arv Z h6 b kC .char (2 : Int32) [(.int c0), (.int c1)] dC := (P0.other W6 (own_ne (by omega)))
    obtain ⟨cl9, Ar9, q9, S9, N9', H9, G9⟩ := id f8
    have hin10 : ¬ ((1 : Int32) < 0 ∨ cl9.slots.size ≤ ((1 : Int32)).toNatClampNeg) := inb_of S9 ⟨by decide, by decide⟩
    refine OwnEnd.of (S' := T6.setTop (mkF m 13 #[.val (.ref b), .val (.int (1 : Int32)), .val (.ref t), .val (.int (1 : Int32)), .val (.int (2 : Int32)), .val (.int (1 : Int32)), .val (.int c0)] [(.int c1)])) (fun _ kK => X6.caload hx (j := (1 : Int32)) (v := (.int c1)) (by rw [e6]; exact Ar9.1) (State.isArrayOf_alike hZ.alike Ar9.2.1) Ar9.2.2 hin10 (Has.at H9 hin10 (rfl)) (g := (mkF m 12 #[.val (.ref b), .val (.int (1 : Int32)), .val (.ref t), .val (.int (1 : Int32)), .val (.int (2 : Int32)), .val (.int (1 : Int32)), .val (.int c0)] [(.int (1 : Int32)), (.ref b)])) rfl rfl (hb hby d15_12) _ kK) ?_
    refine OwnEnd.of (S' := T6.setTop (mkF m 20 #[.val (.ref b), .val (.int (1 : Int32)), .val (.ref t), .val (.int (1 : Int32)), .val (.int (2 : Int32)), .val (.int (1 : Int32)), .val (.int c1)] [(.int (255 : Int32)), (.int c1)])) (fun _ kK => XS.istore X6.here hx rfl (hb hby d15_13) rfl (l' := #[.val (.ref b), .val (.int (1 : Int32)), .val (.ref t), .val (.int (1 : Int32)), .val (.int (2 : Int32)), .val (.int (1 : Int32)), .val (.int c1)]) rfl (XS.iload X6.here hx rfl (hb hby d15_15) rfl (XS.sipush X6.here hx rfl (hb hby d15_17) kK))) ?_
    rcases Decidable.em ((255 : Int32) < c1) with hc11 | hc11
    · refine OwnEnd.of (S' := T6.setTop (mkF m 25 #[.val (.ref b), .val (.int (1 : Int32)), .val (.ref t), .val (.int (1 : Int32)), .val (.int (2 : Int32)), .val (.int (1 : Int32)), .val (.int c1)] [(.int (1 : Int32))])) (fun _ kK => XS.icmpNo X6.here hx rfl (hb hby d15_20) rfl (tlt (hc11)).2.2.2 (XS.iload X6.here hx rfl (hb hby d15_23) rfl kK)) ?_
      have V12 : Arv Z h6 t kb .byte (2 : Int32) (own_cbs [c0, c1]) (.int (0 : Int32)) := by have q := V6; simpa [own_cbs, hc3, hc11] using q
      refine OwnEnd.ret X6 (v := (some (.int (1 : Int32)))) (fun h => by rw [Bd.returns] at h; cases h) hlk (fun fs hr => retOut X6 hx Bd.returns rfl (Or.inl ⟨rfl, Or.inl rfl, _, rfl⟩) (hb hby d15_25) hr) (by decide) (by decide) (Q := Qcv2 Z b t kC dC kb c0 c1 h0 n0) e6 ?_
      exact ⟨(by simp [own_first, hc3, hc11]), N6, K7, V12⟩
    · refine OwnEnd.of (S' := T6.setTop (mkF m 31 #[.val (.ref b), .val (.int (1 : Int32)), .val (.ref t), .val (.int (1 : Int32)), .val (.int (2 : Int32)), .val (.int (1 : Int32)), .val (.int c1)] [(.int (nar .byte c1)), (.int (1 : Int32)), (.ref t)])) (fun _ kK => XS.icmpYes X6.here hx rfl (pc0 := 20) (pc' := 26) rfl (hb hby d15_20) rfl (flt (hc11)).2.2.2 (by decide) (by decide) (XS.aloadN X6.here hx rfl (hb hby d15_26) rfl rfl (XS.iloadN X6.here hx rfl (hb hby d15_27) rfl (XS.iload X6.here hx rfl (hb hby d15_28) rfl (XS.i2b X6.here hx rfl (hb hby d15_30) rfl kK))))) ?_
      obtain ⟨cl13, Ar13, q13, S13, N13', H13, G13⟩ := id V6
      have hin14 : ¬ ((1 : Int32) < 0 ∨ cl13.slots.size ≤ ((1 : Int32)).toNatClampNeg) := inb_of S13 ⟨by decide, by decide⟩
      obtain ⟨T14, h14, X14, e14, W14, st14⟩ := stB X6 hx hZ e6 Ar13 (j := (1 : Int32)) hin14 (g := (mkF m 31 #[.val (.ref b), .val (.int (1 : Int32)), .val (.ref t), .val (.int (1 : Int32)), .val (.int (2 : Int32)), .val (.int (1 : Int32)), .val (.int c1)] [(.int (nar .byte c1)), (.int (1 : Int32)), (.ref t)])) rfl rfl (hb hby d15_31)
      have N14 := Fr.snoc X14 N6 (by omega)
      have sz15 := own_wr_le W14
      have K15 := K7.wr W14 (Or.inl (by simp))
      have O15 := O7.wr W14 (by omega)
      have V14 : Arv Z h14 t kb .byte (2 : Int32) [(.int (nar .byte (nar .byte c0))), (.int (nar .byte (nar .byte c1)))] (.int (0 : Int32)) := Arv.set Ar13 q13 S13 N13' H13 G13 (fits_nar_byte _) W14 1 rfl (Nat.le_of_ble_eq_true rfl)
      refine OwnEnd.of (S' := T14.setTop (mkF m 32 #[.val (.ref b), .val (.int (1 : Int32)), .val (.ref t), .val (.int (1 : Int32)), .val (.int (2 : Int32)), .val (.int (1 : Int32)), .val (.int c1)] [])) st14 ?_
      refine OwnEnd.of (S' := T14.setTop (mkF m 46 #[.val (.ref b), .val (.int (2 : Int32)), .val (.ref t), .val (.int (2 : Int32)), .val (.int (2 : Int32)), .val (.int (2 : Int32)), .val (.int c1)] [(.int (2 : Int32))])) (fun _ kK => XS.iinc X14.here hx rfl (hb hby d15_32) rfl (l' := #[.val (.ref b), .val (.int (2 : Int32)), .val (.ref t), .val (.int (1 : Int32)), .val (.int (2 : Int32)), .val (.int (1 : Int32)), .val (.int c1)]) rfl (XS.iinc X14.here hx rfl (hb hby d15_35) rfl (l' := #[.val (.ref b), .val (.int (2 : Int32)), .val (.ref t), .val (.int (2 : Int32)), .val (.int (2 : Int32)), .val (.int (1 : Int32)), .val (.int c1)]) rfl (XS.iinc X14.here hx rfl (hb hby d15_38) rfl (l' := #[.val (.ref b), .val (.int (2 : Int32)), .val (.ref t), .val (.int (2 : Int32)), .val (.int (2 : Int32)), .val (.int (2 : Int32)), .val (.int c1)]) rfl (XS.goto X14.here hx rfl (pc0 := 41) (pc' := 3) rfl (hb hby d15_41) (by decide) (by decide) (XS.iload X14.here hx rfl (hb hby d15_3) rfl (XS.iload X14.here hx rfl (hb hby d15_5) rfl (XS.icmpYes X14.here hx rfl (pc0 := 7) (pc' := 44) rfl (hb hby d15_7) rfl (flt ((by decide : ¬ ((2 : Int32) < (2 : Int32))))).2.1 (by decide) (by decide) (XS.iload X14.here hx rfl (hb hby d15_44) rfl kK)))))))) ?_
      have V16 : Arv Z h14 t kb .byte (2 : Int32) (own_cbs [c0, c1]) (.int (0 : Int32)) := by have q := V14; simpa [own_cbs, hc3, hc11] using q
      refine OwnEnd.ret X14 (v := (some (.int (2 : Int32)))) (fun h => by rw [Bd.returns] at h; cases h) hlk (fun fs hr => retOut X14 hx Bd.returns rfl (Or.inl ⟨rfl, Or.inl rfl, _, rfl⟩) (hb hby d15_46) hr) (by decide) (by decide) (Q := Qcv2 Z b t kC dC kb c0 c1 h0 n0) e14 ?_
      exact ⟨(by simp [own_first, hc3, hc11]), N14, K15, V16⟩

theorem own_efcw2 (m : MethodId) (b : Addr) : entryFrame m #[(.ref b), (.int (0 : Int32)), (.int (2 : Int32))] 6 = mkF m 0 #[.val (.ref b), .val (.int (0 : Int32)), .val (.int (2 : Int32)), .unset, .unset, .unset] [] := by first | (simp [entryFrame, mkF, argsToLocals, Value.category]; done) | rfl
def Qcw2 (Z : State) (b : Addr) (kC : ClassId) (dC : Value) (c0 : Int32) (c1 : Int32) (h0 : Heap) (n0 : Nat) (v : Option Value) (h : Heap) (L : List Loc) : Prop := ∃ (t : Addr) (kb : ClassId) (N : Int32) (vs : List Value) (cd : Int32), v = some (.ref t) ∧ Fr n0 L ∧ Keep h0 h [] ∧ (Arv Z h t kb .byte N vs (.int (0 : Int32))) ∧ (StrChars.Road.CodA [c0, c1] cd N vs) ∧ (Array.size h0 ≤ t)
set_option maxRecDepth 65536 in
set_option maxHeartbeats 40000000 in
theorem rmcw2 (l : Launch) (Z : State) (a0 : Array Value) (G : OwnG Z a0) (ws : List Jvm.Cond) (b : Addr) (kC : ClassId) (dC : Value) (c0 : Int32) (c1 : Int32) (h0 : Heap) (n0 : Nat) (O0 : Old Z n0 h0) (P0 : Arv Z h0 b kC .char (2 : Int32) [(.int c0), (.int c1)] dC) (P1 : ∀ c ∈ ([c0, c1] : List Int32), ¬ c < (0 : Int32) ∧ ¬ (65535 : Int32) < c) :
    MetFree l own_m16 (head1 (Jvm.Cond.code own_m16 jdk_52_method_16_code 6 (some (.array .byte)) :: ws) ({ frames := 3, cells := 2, slots := 6, locals := 40 } : Room)) (fun a U => a = #[(.ref b), (.int (0 : Int32)), (.int (2 : Int32))] ∧ Z.Warmed39 U.vm ∧ U.heap = h0) (fun _ _ _ _ _ => True) (fun _ U o U' => ∃ v L, o = .returned v ∧ Qcw2 Z b kC dC c0 c1 h0 n0 v U'.heap L ∧ FrameEnd U o U' L ({ frames := 3, cells := 2, slots := 6, locals := 40 } : Room).cells ({ frames := 3, cells := 2, slots := 6, locals := 40 } : Room).slots) := by
  refine MetFree.of_bodySF (plainFor_of_name pn_3) hisR ?_
  intro p e s m args below meth cD s₁ Bd hml0 hP hK
  obtain ⟨rfl, hZ, hh⟩ := hP
  have hw := G.1
  have hx := Bd.exec
  have hby := Bd.bytes
  have hml : cD.maxLocals = 6 := hml0
  have hown : s.vm.findClass "java/lang/StringUTF16" = some m.cls := findClass_of_methodNamed Bd.named
  have hnm := (name_of_methodNamed Bd.named Bd.method).1
  have hlk := Bd.notSynchronized
  have X0 : Stand p l e ({ frames := 3, cells := 2, slots := 6, locals := 40 } : Room) s m #[(.ref b), (.int (0 : Int32)), (.int (2 : Int32))] below meth cD s₁ [] 0 0 := Stand.of_body Bd
  have e0 : s₁.heap = h0 := by rw [← hh, Bd.state]; rfl
  have lt0 := own_ltN' P0.lt
  have K0 : Keep h0 h0 [] := Keep.refl h0 _
  have Z0 := own_old_le O0
  have N0 := Fr.nil n0
  refine OwnEnd.start (g' := (mkF m 0 #[.val (.ref b), .val (.int (0 : Int32)), .val (.int (2 : Int32)), .unset, .unset, .unset] [])) (own_efcw2 m b) ?_
  refine OwnEnd.of (S' := s₁.setTop (mkF m 1 #[.val (.ref b), .val (.int (0 : Int32)), .val (.int (2 : Int32)), .unset, .unset, .unset] [(.int (2 : Int32))])) (fun _ kK => XS.iloadN X0.here hx rfl (hb hby d16_0) rfl kK) ?_
  obtain ⟨T1, h1, k1, X1, e1, E1, A1, st1⟩ := newP X0 hx hZ (own_w G 29 rfl) e0 (g := (mkF m 1 #[.val (.ref b), .val (.int (0 : Int32)), .val (.int (2 : Int32)), .unset, .unset, .unset] [(.int (2 : Int32))])) rfl (hb hby d16_1) rfl (by decide) (cap := 2) (by decide) (by decide) (by decide) (by decide)
  obtain ⟨b1, g1⟩ : ∃ z, z = Array.size h0 := ⟨_, rfl⟩
  rw [← g1] at A1 st1
  have lt_b1 := own_ltN' A1.lt
  have sz2 := E1.1
  have K2 := K0.ext E1
  have O2 := O0.ext E1
  have V1 : Arv Z h1 b1 k1 .byte (2 : Int32) [(.int (0 : Int32)), (.int (0 : Int32))] (.int (0 : Int32)) := (Arv.new A1 (by decide)).pad (pad_rep [] (.int (0 : Int32)) 2)
  refine OwnEnd.of (S' := T1.setTop (mkF m 3 #[.val (.ref b), .val (.int (0 : Int32)), .val (.int (2 : Int32)), .unset, .unset, .unset] [(.ref b1)])) st1 ?_
  refine OwnEnd.of (S' := T1.setTop (mkF m 9 #[.val (.ref b), .val (.int (0 : Int32)), .val (.int (2 : Int32)), .val (.ref b1), .unset, .unset] [(.int (2 : Int32)), (.int (0 : Int32)), (.ref b1), (.int (0 : Int32)), (.ref b)])) (fun _ kK => XS.astoreN X1.here hx rfl (hb hby d16_3) rfl rfl (l' := #[.val (.ref b), .val (.int (0 : Int32)), .val (.int (2 : Int32)), .val (.ref b1), .unset, .unset]) rfl (XS.aloadN X1.here hx rfl (hb hby d16_4) rfl rfl (XS.iloadN X1.here hx rfl (hb hby d16_5) rfl (XS.aloadN X1.here hx rfl (hb hby d16_6) rfl rfl (XS.iconst X1.here hx rfl (hb hby d16_7) (XS.iloadN X1.here hx rfl (hb hby d16_8) rfl kK)))))) ?_
  have f3 : Arv Z h1 b kC .char (2 : Int32) [(.int c0), (.int c1)] dC := (P0.ext E1)
  obtain ⟨_, _, ⟨T4, L4, k4, n4⟩, -, X4, ⟨Lc4, hQ4, l4, y4, z4⟩, st4⟩ := Jvm.LawKit.callS X1 hx (y := own_m15) hown (mvT hZ (own_w G 30 rfl)) (mvT hZ (own_w G 31 rfl)) (mvT hZ (own_w G 27 rfl)) (mvT hZ (own_w G 32 rfl)) (by decide) (backOf (W := 0) (rmcv2 l Z a0 G [] b b1 kC dC k1 c0 c1 h1 n0 O2 f3 V1 (by omega) (own_ne (by omega) : b ≠ b1)) hZ (own_w G 32 rfl) (own_w G 27 rfl) (by decide) (by decide)) (g := (mkF m 9 #[.val (.ref b), .val (.int (0 : Int32)), .val (.int (2 : Int32)), .val (.ref b1), .unset, .unset] [(.int (2 : Int32)), (.int (0 : Int32)), (.ref b1), (.int (0 : Int32)), (.ref b)])) rfl (by rw [hml]; rfl) (argsL := [(.ref b), (.int (0 : Int32)), (.ref b1), (.int (0 : Int32)), (.int (2 : Int32))]) (rest := []) (lenOf pd_10 rfl) rfl (by show 2 * 0 + _ ≤ _; exact Nat.le_of_eq rfl) (hb hby d16_9) (fun _ _ => ⟨rfl, e1, (by decide : 1 + 0 ≤ _), (by decide : 2 + 0 ≤ _)⟩)
  dsimp only [Pt.U, Pt.locs, Pt.cells, Pt.slots] at X4 l4 y4 z4 st4 hQ4
  subst l4 y4 z4
  obtain ⟨rfl, N4q, Kq4, r4_0⟩ := hQ4
  have N4 := Fr.app N0 N4q
  have sz5 := Kq4.1
  have K5 := K2.trans Kq4 (own_all1 (Or.inr (by omega)))
  have O5 := O2.keep Kq4 (own_all1 (by omega))
  have ltr4_0 := own_ltN' r4_0.lt
  refine OwnEnd.of (S' := T4.setTop (mkF m 12 #[.val (.ref b), .val (.int (0 : Int32)), .val (.int (2 : Int32)), .val (.ref b1), .unset, .unset] [(.int (own_first [c0, c1]))])) st4 ?_
  rcases own_first2 c0 c1 with hr | hr | hr
  · rw [hr.1]
    refine OwnEnd.of (S' := T4.setTop (mkF m 23 #[.val (.ref b), .val (.int (0 : Int32)), .val (.int (2 : Int32)), .val (.ref b1), .val (.int (0 : Int32)), .unset] [(.int (2 : Int32)), (.int (0 : Int32)), (.ref b)])) (fun _ kK => XS.istore X4.here hx rfl (hb hby d16_12) rfl (l' := #[.val (.ref b), .val (.int (0 : Int32)), .val (.int (2 : Int32)), .val (.ref b1), .val (.int (0 : Int32)), .unset]) rfl (XS.iload X4.here hx rfl (hb hby d16_14) rfl (XS.iloadN X4.here hx rfl (hb hby d16_16) rfl (XS.icmpNo X4.here hx rfl (hb hby d16_17) rfl (feq ((by decide : ¬ ((0 : Int32) = (2 : Int32))))).1 (XS.aloadN X4.here hx rfl (hb hby d16_20) rfl rfl (XS.iloadN X4.here hx rfl (hb hby d16_21) rfl (XS.iloadN X4.here hx rfl (hb hby d16_22) rfl kK))))))) ?_
    have f6 : Arv Z T4.heap b kC .char (2 : Int32) [(.int c0), (.int c1)] dC := (f3.keep Kq4 (own_nin1 (own_ne (by omega))))
    obtain ⟨_, _, ⟨T7, L7, k7, n7⟩, -, X7, ⟨Lc7, hQ7, l7, y7, z7⟩, st7⟩ := Jvm.LawKit.callS X4 hx (y := own_m14) hown (mvT hZ (own_w G 115 rfl)) (mvT hZ (own_w G 116 rfl)) (mvT hZ (own_w G 27 rfl)) (mvT hZ (own_w G 117 rfl)) (by decide) (backOf (W := 0) (rmby2 l Z a0 G [] b kC dC c0 c1 T4.heap n0 O5 f6) hZ (own_w G 117 rfl) (own_w G 27 rfl) (by decide) (by decide)) (g := (mkF m 23 #[.val (.ref b), .val (.int (0 : Int32)), .val (.int (2 : Int32)), .val (.ref b1), .val (.int (0 : Int32)), .unset] [(.int (2 : Int32)), (.int (0 : Int32)), (.ref b)])) rfl (by rw [hml]; rfl) (argsL := [(.ref b), (.int (0 : Int32)), (.int (2 : Int32))]) (rest := []) (lenOf pd_11 rfl) rfl (by show 2 * 0 + _ ≤ _; exact Nat.le_of_eq rfl) (hb hby d16_23) (fun _ _ => ⟨rfl, rfl, (by decide : 1 + 1 ≤ _), (by decide : 2 + 4 ≤ _)⟩)
    dsimp only [Pt.U, Pt.locs, Pt.cells, Pt.slots] at X7 l7 y7 z7 st7 hQ7
    subst l7 y7 z7
    obtain ⟨t_7, kb_7, rfl, N7q, Kq7, r7_0, r7_1⟩ := hQ7
    have N7 := Fr.app N4 N7q
    have sz8 := Kq7.1
    have K8 := K5.trans Kq7 (own_all0 )
    have O8 := O5.keep Kq7 (own_all0 )
    have ltr7_0 := own_ltN' r7_0.lt
    refine OwnEnd.of (S' := T7.setTop (mkF m 26 #[.val (.ref b), .val (.int (0 : Int32)), .val (.int (2 : Int32)), .val (.ref b1), .val (.int (0 : Int32)), .unset] [(.ref t_7)])) st7 ?_
    refine OwnEnd.of (S' := T7.setTop (mkF m 32 #[.val (.ref b), .val (.int (0 : Int32)), .val (.int (2 : Int32)), .val (.ref b1), .val (.int (0 : Int32)), .val (.ref t_7)] [(.int (0 : Int32)), (.ref t_7)])) (fun _ kK => XS.astore X7.here hx rfl (hb hby d16_26) rfl rfl (l' := #[.val (.ref b), .val (.int (0 : Int32)), .val (.int (2 : Int32)), .val (.ref b1), .val (.int (0 : Int32)), .val (.ref t_7)]) rfl (XS.aload X7.here hx rfl (hb hby d16_28) rfl rfl (XS.iload X7.here hx rfl (hb hby d16_30) rfl kK))) ?_
    obtain ⟨_, _, ⟨T9, L9, k9, n9⟩, -, X9, ⟨Lc9, hQ9, l9, y9, z9⟩, st9⟩ := Jvm.LawKit.callS X7 hx (y := own_m8) hown (mvT hZ (own_w G 131 rfl)) (mvT hZ (own_w G 132 rfl)) (mvT hZ (own_w G 27 rfl)) (mvT hZ (own_w G 133 rfl)) (by decide) (backOf (W := 0) (rmgc l Z a0 G [] t_7 kb_7 (4 : Int32) (StrChars.Road.wideBytes [c0, c1]) (.int (0 : Int32)) (0 : Int32) (0 : Int32) c0 T7.heap n0 O8 r7_0 (by decide : (0 : Int32) <<< ((1 : Int32) &&& 31) = (0 : Int32)) (by decide : ¬ (0 : Int32) < (0 : Int32)) (by decide : (0 : Int32) < (4 : Int32)) (by decide : ¬ ((0 : Int32) + (1 : Int32)) < (0 : Int32)) (by decide : ((0 : Int32) + (1 : Int32)) < (4 : Int32)) (by rfl : (StrChars.Road.wideBytes [c0, c1]).getD (0 : Int32).toNatClampNeg (.int (0 : Int32)) = (.int (StrChars.lo8 c0))) (by rfl : (StrChars.Road.wideBytes [c0, c1]).getD ((0 : Int32) + (1 : Int32)).toNatClampNeg (.int (0 : Int32)) = (.int (StrChars.hi8 c0))) (P1 c0 (by simp))) hZ (own_w G 133 rfl) (own_w G 27 rfl) (by decide) (by decide)) (g := (mkF m 32 #[.val (.ref b), .val (.int (0 : Int32)), .val (.int (2 : Int32)), .val (.ref b1), .val (.int (0 : Int32)), .val (.ref t_7)] [(.int (0 : Int32)), (.ref t_7)])) rfl (by rw [hml]; rfl) (argsL := [(.ref t_7), (.int (0 : Int32))]) (rest := []) (lenOf pd_5 rfl) rfl (by show 2 * 0 + _ ≤ _; exact Nat.le_of_eq rfl) (hb hby d16_32) (fun _ _ => ⟨rfl, rfl, (by decide : 2 + 0 ≤ _), (by decide : 6 + 0 ≤ _)⟩)
    dsimp only [Pt.U, Pt.locs, Pt.cells, Pt.slots] at X9 l9 y9 z9 st9 hQ9
    subst l9 y9 z9
    obtain ⟨rfl, N9q, eh9⟩ := hQ9
    have N9 := Fr.app N7 N9q
    refine OwnEnd.of (S' := T9.setTop (mkF m 35 #[.val (.ref b), .val (.int (0 : Int32)), .val (.int (2 : Int32)), .val (.ref b1), .val (.int (0 : Int32)), .val (.ref t_7)] [(.int c0)])) st9 ?_
    refine OwnEnd.of (S' := T9.setTop (mkF m 56 #[.val (.ref b), .val (.int (0 : Int32)), .val (.int (2 : Int32)), .val (.ref b1), .val (.int (0 : Int32)), .val (.ref t_7)] [(.ref t_7)])) (fun _ kK => XS.sipush X9.here hx rfl (hb hby d16_35) (XS.icmpYes X9.here hx rfl (pc0 := 38) (pc' := 54) rfl (hb hby d16_38) rfl (tlt (hr.2)).2.2.1 (by decide) (by decide) (XS.aload X9.here hx rfl (hb hby d16_54) rfl rfl kK))) ?_
    refine OwnEnd.ret X9 (v := (some (.ref t_7))) (fun h => by rw [Bd.returns] at h; cases h) hlk (fun fs hr => retOut X9 hx Bd.returns rfl (Or.inr (Or.inr (Or.inr (Or.inr ⟨rfl, rfl, rfl⟩)))) (hb hby d16_56) hr) (by decide) (by decide) (Q := Qcw2 Z b kC dC c0 c1 h0 n0) eh9 ?_
    exact ⟨t_7, kb_7, (4 : Int32), (StrChars.Road.wideBytes [c0, c1]), (1 : Int32), rfl, N9, K8, r7_0, (Or.inr ⟨rfl, rfl, rfl, c0, by simp, hr.2⟩), (by omega)⟩
  · rw [hr.1]
    refine OwnEnd.of (S' := T4.setTop (mkF m 23 #[.val (.ref b), .val (.int (0 : Int32)), .val (.int (2 : Int32)), .val (.ref b1), .val (.int (1 : Int32)), .unset] [(.int (2 : Int32)), (.int (0 : Int32)), (.ref b)])) (fun _ kK => XS.istore X4.here hx rfl (hb hby d16_12) rfl (l' := #[.val (.ref b), .val (.int (0 : Int32)), .val (.int (2 : Int32)), .val (.ref b1), .val (.int (1 : Int32)), .unset]) rfl (XS.iload X4.here hx rfl (hb hby d16_14) rfl (XS.iloadN X4.here hx rfl (hb hby d16_16) rfl (XS.icmpNo X4.here hx rfl (hb hby d16_17) rfl (feq ((by decide : ¬ ((1 : Int32) = (2 : Int32))))).1 (XS.aloadN X4.here hx rfl (hb hby d16_20) rfl rfl (XS.iloadN X4.here hx rfl (hb hby d16_21) rfl (XS.iloadN X4.here hx rfl (hb hby d16_22) rfl kK))))))) ?_
    have f10 : Arv Z T4.heap b kC .char (2 : Int32) [(.int c0), (.int c1)] dC := (f3.keep Kq4 (own_nin1 (own_ne (by omega))))
    obtain ⟨_, _, ⟨T11, L11, k11, n11⟩, -, X11, ⟨Lc11, hQ11, l11, y11, z11⟩, st11⟩ := Jvm.LawKit.callS X4 hx (y := own_m14) hown (mvT hZ (own_w G 115 rfl)) (mvT hZ (own_w G 116 rfl)) (mvT hZ (own_w G 27 rfl)) (mvT hZ (own_w G 117 rfl)) (by decide) (backOf (W := 0) (rmby2 l Z a0 G [] b kC dC c0 c1 T4.heap n0 O5 f10) hZ (own_w G 117 rfl) (own_w G 27 rfl) (by decide) (by decide)) (g := (mkF m 23 #[.val (.ref b), .val (.int (0 : Int32)), .val (.int (2 : Int32)), .val (.ref b1), .val (.int (1 : Int32)), .unset] [(.int (2 : Int32)), (.int (0 : Int32)), (.ref b)])) rfl (by rw [hml]; rfl) (argsL := [(.ref b), (.int (0 : Int32)), (.int (2 : Int32))]) (rest := []) (lenOf pd_11 rfl) rfl (by show 2 * 0 + _ ≤ _; exact Nat.le_of_eq rfl) (hb hby d16_23) (fun _ _ => ⟨rfl, rfl, (by decide : 1 + 1 ≤ _), (by decide : 2 + 4 ≤ _)⟩)
    dsimp only [Pt.U, Pt.locs, Pt.cells, Pt.slots] at X11 l11 y11 z11 st11 hQ11
    subst l11 y11 z11
    obtain ⟨t_11, kb_11, rfl, N11q, Kq11, r11_0, r11_1⟩ := hQ11
    have N11 := Fr.app N4 N11q
    have sz12 := Kq11.1
    have K12 := K5.trans Kq11 (own_all0 )
    have O12 := O5.keep Kq11 (own_all0 )
    have ltr11_0 := own_ltN' r11_0.lt
    refine OwnEnd.of (S' := T11.setTop (mkF m 26 #[.val (.ref b), .val (.int (0 : Int32)), .val (.int (2 : Int32)), .val (.ref b1), .val (.int (1 : Int32)), .unset] [(.ref t_11)])) st11 ?_
    refine OwnEnd.of (S' := T11.setTop (mkF m 32 #[.val (.ref b), .val (.int (0 : Int32)), .val (.int (2 : Int32)), .val (.ref b1), .val (.int (1 : Int32)), .val (.ref t_11)] [(.int (1 : Int32)), (.ref t_11)])) (fun _ kK => XS.astore X11.here hx rfl (hb hby d16_26) rfl rfl (l' := #[.val (.ref b), .val (.int (0 : Int32)), .val (.int (2 : Int32)), .val (.ref b1), .val (.int (1 : Int32)), .val (.ref t_11)]) rfl (XS.aload X11.here hx rfl (hb hby d16_28) rfl rfl (XS.iload X11.here hx rfl (hb hby d16_30) rfl kK))) ?_
    obtain ⟨_, _, ⟨T13, L13, k13, n13⟩, -, X13, ⟨Lc13, hQ13, l13, y13, z13⟩, st13⟩ := Jvm.LawKit.callS X11 hx (y := own_m8) hown (mvT hZ (own_w G 131 rfl)) (mvT hZ (own_w G 132 rfl)) (mvT hZ (own_w G 27 rfl)) (mvT hZ (own_w G 133 rfl)) (by decide) (backOf (W := 0) (rmgc l Z a0 G [] t_11 kb_11 (4 : Int32) (StrChars.Road.wideBytes [c0, c1]) (.int (0 : Int32)) (1 : Int32) (2 : Int32) c1 T11.heap n0 O12 r11_0 (by decide : (1 : Int32) <<< ((1 : Int32) &&& 31) = (2 : Int32)) (by decide : ¬ (2 : Int32) < (0 : Int32)) (by decide : (2 : Int32) < (4 : Int32)) (by decide : ¬ ((2 : Int32) + (1 : Int32)) < (0 : Int32)) (by decide : ((2 : Int32) + (1 : Int32)) < (4 : Int32)) (by rfl : (StrChars.Road.wideBytes [c0, c1]).getD (2 : Int32).toNatClampNeg (.int (0 : Int32)) = (.int (StrChars.lo8 c1))) (by rfl : (StrChars.Road.wideBytes [c0, c1]).getD ((2 : Int32) + (1 : Int32)).toNatClampNeg (.int (0 : Int32)) = (.int (StrChars.hi8 c1))) (P1 c1 (by simp))) hZ (own_w G 133 rfl) (own_w G 27 rfl) (by decide) (by decide)) (g := (mkF m 32 #[.val (.ref b), .val (.int (0 : Int32)), .val (.int (2 : Int32)), .val (.ref b1), .val (.int (1 : Int32)), .val (.ref t_11)] [(.int (1 : Int32)), (.ref t_11)])) rfl (by rw [hml]; rfl) (argsL := [(.ref t_11), (.int (1 : Int32))]) (rest := []) (lenOf pd_5 rfl) rfl (by show 2 * 0 + _ ≤ _; exact Nat.le_of_eq rfl) (hb hby d16_32) (fun _ _ => ⟨rfl, rfl, (by decide : 2 + 0 ≤ _), (by decide : 6 + 0 ≤ _)⟩)
    dsimp only [Pt.U, Pt.locs, Pt.cells, Pt.slots] at X13 l13 y13 z13 st13 hQ13
    subst l13 y13 z13
    obtain ⟨rfl, N13q, eh13⟩ := hQ13
    have N13 := Fr.app N11 N13q
    refine OwnEnd.of (S' := T13.setTop (mkF m 35 #[.val (.ref b), .val (.int (0 : Int32)), .val (.int (2 : Int32)), .val (.ref b1), .val (.int (1 : Int32)), .val (.ref t_11)] [(.int c1)])) st13 ?_
    refine OwnEnd.of (S' := T13.setTop (mkF m 56 #[.val (.ref b), .val (.int (0 : Int32)), .val (.int (2 : Int32)), .val (.ref b1), .val (.int (1 : Int32)), .val (.ref t_11)] [(.ref t_11)])) (fun _ kK => XS.sipush X13.here hx rfl (hb hby d16_35) (XS.icmpYes X13.here hx rfl (pc0 := 38) (pc' := 54) rfl (hb hby d16_38) rfl (tlt (hr.2)).2.2.1 (by decide) (by decide) (XS.aload X13.here hx rfl (hb hby d16_54) rfl rfl kK))) ?_
    refine OwnEnd.ret X13 (v := (some (.ref t_11))) (fun h => by rw [Bd.returns] at h; cases h) hlk (fun fs hr => retOut X13 hx Bd.returns rfl (Or.inr (Or.inr (Or.inr (Or.inr ⟨rfl, rfl, rfl⟩)))) (hb hby d16_56) hr) (by decide) (by decide) (Q := Qcw2 Z b kC dC c0 c1 h0 n0) eh13 ?_
    exact ⟨t_11, kb_11, (4 : Int32), (StrChars.Road.wideBytes [c0, c1]), (1 : Int32), rfl, N13, K12, r11_0, (Or.inr ⟨rfl, rfl, rfl, c1, by simp, hr.2⟩), (by omega)⟩
  · rw [hr.1]
    have V14 : Arv Z T4.heap b1 k1 .byte (2 : Int32) (([c0, c1] : List Int32).map fun c => Value.int (StrChars.lo8 c)) (.int (0 : Int32)) := by have q := r4_0; rw [hr.2.1] at q; exact q
    refine OwnEnd.of (S' := T4.setTop (mkF m 58 #[.val (.ref b), .val (.int (0 : Int32)), .val (.int (2 : Int32)), .val (.ref b1), .val (.int (2 : Int32)), .unset] [(.ref b1)])) (fun _ kK => XS.istore X4.here hx rfl (hb hby d16_12) rfl (l' := #[.val (.ref b), .val (.int (0 : Int32)), .val (.int (2 : Int32)), .val (.ref b1), .val (.int (2 : Int32)), .unset]) rfl (XS.iload X4.here hx rfl (hb hby d16_14) rfl (XS.iloadN X4.here hx rfl (hb hby d16_16) rfl (XS.icmpYes X4.here hx rfl (pc0 := 17) (pc' := 57) rfl (hb hby d16_17) rfl (teq ((by decide : (2 : Int32) = (2 : Int32)))).1 (by decide) (by decide) (XS.aloadN X4.here hx rfl (hb hby d16_57) rfl rfl kK))))) ?_
    refine OwnEnd.ret X4 (v := (some (.ref b1))) (fun h => by rw [Bd.returns] at h; cases h) hlk (fun fs hr => retOut X4 hx Bd.returns rfl (Or.inr (Or.inr (Or.inr (Or.inr ⟨rfl, rfl, rfl⟩)))) (hb hby d16_58) hr) (by decide) (by decide) (Q := Qcw2 Z b kC dC c0 c1 h0 n0) rfl ?_
    exact ⟨b1, k1, (2 : Int32), (([c0, c1] : List Int32).map fun c => Value.int (StrChars.lo8 c)), (0 : Int32), rfl, N4, K5, V14, (Or.inl ⟨rfl, rfl, rfl, hr.2.2⟩), (by omega)⟩

theorem own_efcf2 (m : MethodId) (t : Addr) : entryFrame m #[(.ref t), (.int (2 : Int32))] 2 = mkF m 0 #[.val (.ref t), .val (.int (2 : Int32))] [] := by first | (simp [entryFrame, mkF, argsToLocals, Value.category]; done) | rfl
set_option maxRecDepth 65536 in
set_option maxHeartbeats 40000000 in
theorem rmcf2 (l : Launch) (Z : State) (a0 : Array Value) (G : OwnG Z a0) (ws : List Jvm.Cond) (t : Addr) (kb : ClassId) (N : Int32) (vs : List Value) (cd : Int32) (c0 : Int32) (c1 : Int32) (h0 : Heap) (n0 : Nat) (O0 : Old Z n0 h0) (P0 : Arv Z h0 t kb .byte N vs (.int (0 : Int32))) (P1 : StrChars.Road.CodA [c0, c1] cd N vs) :
    MetFree l own_m17 (head1 (Jvm.Cond.code own_m17 jdk_52_method_15_code 2 (some .byte) :: ws) ({ frames := 0, cells := 0, slots := 0, locals := 0 } : Room)) (fun a U => a = #[(.ref t), (.int (2 : Int32))] ∧ Z.Warmed39 U.vm ∧ U.heap = h0) (fun _ _ _ _ _ => True) (fun _ U o U' => ∃ v L, o = .returned v ∧ (own_Qint cd) h0 n0 v U'.heap L ∧ FrameEnd U o U' L ({ frames := 0, cells := 0, slots := 0, locals := 0 } : Room).cells ({ frames := 0, cells := 0, slots := 0, locals := 0 } : Room).slots) := by
  refine MetFree.of_bodySF (plainFor_of_name pn_3) hisR ?_
  intro p e s m args below meth cD s₁ Bd hml0 hP hK
  obtain ⟨rfl, hZ, hh⟩ := hP
  have hw := G.1
  have hx := Bd.exec
  have hby := Bd.bytes
  have hml : cD.maxLocals = 2 := hml0
  have hown : s.vm.findClass "java/lang/StringUTF16" = some m.cls := findClass_of_methodNamed Bd.named
  have hnm := (name_of_methodNamed Bd.named Bd.method).1
  have hlk := Bd.notSynchronized
  have X0 : Stand p l e ({ frames := 0, cells := 0, slots := 0, locals := 0 } : Room) s m #[(.ref t), (.int (2 : Int32))] below meth cD s₁ [] 0 0 := Stand.of_body Bd
  have e0 : s₁.heap = h0 := by rw [← hh, Bd.state]; rfl
  have lt0 := own_ltN' P0.lt
  have K0 : Keep h0 h0 [] := Keep.refl h0 _
  have Z0 := own_old_le O0
  have N0 := Fr.nil n0
  refine OwnEnd.start (g' := (mkF m 0 #[.val (.ref t), .val (.int (2 : Int32))] [])) (own_efcf2 m t) ?_
  rcases P1 with hxc | hxc
  · have V1 : Arv Z h0 t kb .byte (2 : Int32) (([c0, c1] : List Int32).map fun c => Value.int (StrChars.lo8 c)) (.int (0 : Int32)) := by have q := P0; rw [hxc.2.1, hxc.2.2.1] at q; exact q
    refine OwnEnd.of (S' := s₁.setTop (mkF m 2 #[.val (.ref t), .val (.int (2 : Int32))] [(.ref t), (.int (2 : Int32))])) (fun _ kK => XS.iloadN X0.here hx rfl (hb hby d17_0) rfl (XS.aloadN X0.here hx rfl (hb hby d17_1) rfl rfl kK)) ?_
    obtain ⟨cl2, Ar2, q2, S2, N2', H2, G2⟩ := id V1
    refine OwnEnd.of (S' := s₁.setTop (mkF m 3 #[.val (.ref t), .val (.int (2 : Int32))] [(.int (2 : Int32)), (.int (2 : Int32))])) (fun _ kK => X0.arraylength hx (by rw [e0]; exact Ar2.1) (State.isArrayOf_alike hZ.alike Ar2.2.1) (g := (mkF m 2 #[.val (.ref t), .val (.int (2 : Int32))] [(.ref t), (.int (2 : Int32))])) rfl rfl (hb hby d17_2) _ (by rw [len_of S2 N2']; exact kK)) ?_
    refine OwnEnd.of (S' := s₁.setTop (mkF m 8 #[.val (.ref t), .val (.int (2 : Int32))] [(.int (0 : Int32))])) (fun _ kK => XS.isub X0.here hx rfl (hb hby d17_3) rfl (XS.bipush X0.here hx rfl (hb hby d17_4) (XS.iushr X0.here hx rfl (hb hby d17_6) rfl (XS.i2b X0.here hx rfl (hb hby d17_7) rfl kK)))) ?_
    refine OwnEnd.ret X0 (v := (some (.int (nar .byte (0 : Int32))))) (fun h => by rw [Bd.returns] at h; cases h) hlk (fun fs hr => retN X0 hx (t := .byte) Bd.returns (by simp) (hb hby d17_8) hr) (by decide) (by decide) (Q := (own_Qint cd) h0 n0) e0 ?_
    exact ⟨(congrArg (fun z => some (Value.int z)) hxc.1.symm), N0, rfl⟩
  · have V3 : Arv Z h0 t kb .byte (4 : Int32) (StrChars.Road.wideBytes [c0, c1]) (.int (0 : Int32)) := by have q := P0; rw [hxc.2.1, hxc.2.2.1] at q; exact q
    refine OwnEnd.of (S' := s₁.setTop (mkF m 2 #[.val (.ref t), .val (.int (2 : Int32))] [(.ref t), (.int (2 : Int32))])) (fun _ kK => XS.iloadN X0.here hx rfl (hb hby d17_0) rfl (XS.aloadN X0.here hx rfl (hb hby d17_1) rfl rfl kK)) ?_
    obtain ⟨cl4, Ar4, q4, S4, N4', H4, G4⟩ := id V3
    refine OwnEnd.of (S' := s₁.setTop (mkF m 3 #[.val (.ref t), .val (.int (2 : Int32))] [(.int (4 : Int32)), (.int (2 : Int32))])) (fun _ kK => X0.arraylength hx (by rw [e0]; exact Ar4.1) (State.isArrayOf_alike hZ.alike Ar4.2.1) (g := (mkF m 2 #[.val (.ref t), .val (.int (2 : Int32))] [(.ref t), (.int (2 : Int32))])) rfl rfl (hb hby d17_2) _ (by rw [len_of S4 N4']; exact kK)) ?_
    refine OwnEnd.of (S' := s₁.setTop (mkF m 8 #[.val (.ref t), .val (.int (2 : Int32))] [(.int (1 : Int32))])) (fun _ kK => XS.isub X0.here hx rfl (hb hby d17_3) rfl (XS.bipush X0.here hx rfl (hb hby d17_4) (XS.iushr X0.here hx rfl (hb hby d17_6) rfl (XS.i2b X0.here hx rfl (hb hby d17_7) rfl kK)))) ?_
    refine OwnEnd.ret X0 (v := (some (.int (nar .byte (1 : Int32))))) (fun h => by rw [Bd.returns] at h; cases h) hlk (fun fs hr => retN X0 hx (t := .byte) Bd.returns (by simp) (hb hby d17_8) hr) (by decide) (by decide) (Q := (own_Qint cd) h0 n0) e0 ?_
    exact ⟨(congrArg (fun z => some (Value.int z)) hxc.1.symm), N0, rfl⟩

theorem own_efnv2 (m : MethodId) (x0 : Addr) (b : Addr) : entryFrame m #[(.ref x0), (.ref b), (.int (0 : Int32)), (.int (2 : Int32)), .null] 6 = mkF m 0 #[.val (.ref x0), .val (.ref b), .val (.int (0 : Int32)), .val (.int (2 : Int32)), .val .null, .unset] [] := by first | (simp [entryFrame, mkF, argsToLocals, Value.category]; done) | rfl
def Qnv2 (Z : State) (x0 : Addr) (b : Addr) (v0 : Value) (c9 : Value) (kC : ClassId) (dC : Value) (c0 : Int32) (c1 : Int32) (h0 : Heap) (n0 : Nat) (v : Option Value) (h : Heap) (L : List Loc) : Prop := ∃ (t : Addr) (kb : ClassId) (N : Int32) (vs : List Value) (cd : Int32), v = none ∧ Fr n0 L ∧ Keep h0 h [x0] ∧ (Exa Z h x0 "java/lang/String") ∧ (Fld Z h x0 "java/lang/String" "value" "[B" (.ref t)) ∧ (Fld Z h x0 "java/lang/String" "coder" "B" (.int cd)) ∧ (Arv Z h t kb .byte N vs (.int (0 : Int32))) ∧ (StrChars.Road.CodA [c0, c1] cd N vs) ∧ (Array.size h0 ≤ t)
set_option maxRecDepth 65536 in
set_option maxHeartbeats 40000000 in
theorem rmnv2 (l : Launch) (Z : State) (a0 : Array Value) (G : OwnG Z a0) (ws : List Jvm.Cond) (x0 : Addr) (b : Addr) (v0 : Value) (c9 : Value) (kC : ClassId) (dC : Value) (c0 : Int32) (c1 : Int32) (h0 : Heap) (n0 : Nat) (O0 : Old Z n0 h0) (P0 : Exa Z h0 x0 "java/lang/String") (P1 : Fld Z h0 x0 "java/lang/String" "value" "[B" v0) (P2 : Fld Z h0 x0 "java/lang/String" "coder" "B" c9) (P3 : n0 ≤ x0) (P4 : Arv Z h0 b kC .char (2 : Int32) [(.int c0), (.int c1)] dC) (P5 : ∀ c ∈ ([c0, c1] : List Int32), ¬ c < (0 : Int32) ∧ ¬ (65535 : Int32) < c) (P6 : x0 ≠ b) :
    MetFree l own_m18 (head1 (Jvm.Cond.code own_m18 jdk_42_method_149_code 6 none :: ws) ({ frames := 4, cells := 2, slots := 6, locals := 57 } : Room)) (fun a U => a = #[(.ref x0), (.ref b), (.int (0 : Int32)), (.int (2 : Int32)), .null] ∧ Z.Warmed39 U.vm ∧ U.heap = h0) (fun _ _ _ _ _ => True) (fun _ U o U' => ∃ v L, o = .returned v ∧ Qnv2 Z x0 b v0 c9 kC dC c0 c1 h0 n0 v U'.heap L ∧ FrameEnd U o U' L ({ frames := 4, cells := 2, slots := 6, locals := 57 } : Room).cells ({ frames := 4, cells := 2, slots := 6, locals := 57 } : Room).slots) := by
  refine MetFree.of_bodySF (plainFor_of_name pn_1) hisR ?_
  intro p e s m args below meth cD s₁ Bd hml0 hP hK
  obtain ⟨rfl, hZ, hh⟩ := hP
  have hw := G.1
  have hx := Bd.exec
  have hby := Bd.bytes
  have hml : cD.maxLocals = 6 := hml0
  have hown : s.vm.findClass "java/lang/String" = some m.cls := findClass_of_methodNamed Bd.named
  have hnm := (name_of_methodNamed Bd.named Bd.method).1
  have hlk := Bd.notSynchronized
  have X0 : Stand p l e ({ frames := 4, cells := 2, slots := 6, locals := 57 } : Room) s m #[(.ref x0), (.ref b), (.int (0 : Int32)), (.int (2 : Int32)), .null] below meth cD s₁ [] 0 0 := Stand.of_body Bd
  have e0 : s₁.heap = h0 := by rw [← hh, Bd.state]; rfl
  have lt0 := own_ltN' P0.lt
  have lt1 := own_ltN' P1.lt
  have lt2 := own_ltN' P2.lt
  have lt4 := own_ltN' P4.lt
  have nP6 := own_neN P6
  have K0 : Keep h0 h0 [x0] := Keep.refl h0 _
  have Z0 := own_old_le O0
  have N0 := Fr.nil n0
  obtain ⟨zCS, SCS, PCS⟩ := own_cs G
  refine OwnEnd.start (g' := (mkF m 0 #[.val (.ref x0), .val (.ref b), .val (.int (0 : Int32)), .val (.int (2 : Int32)), .val .null, .unset] [])) (own_efnv2 m x0 b) ?_
  refine OwnEnd.of (S' := s₁.setTop (mkF m 1 #[.val (.ref x0), .val (.ref b), .val (.int (0 : Int32)), .val (.int (2 : Int32)), .val .null, .unset] [(.ref x0)])) (fun _ kK => XS.aloadN X0.here hx rfl (hb hby d18_0) rfl rfl kK) ?_
  obtain ⟨T1, X1, e1, st1⟩ := initO X0 hx hZ hown (own_w G 21 rfl) (own_w G 22 rfl) (own_w G 23 rfl) e0 (g := (mkF m 1 #[.val (.ref x0), .val (.ref b), .val (.int (0 : Int32)), .val (.int (2 : Int32)), .val .null, .unset] [(.ref x0)])) rfl (by rw [hml]; rfl) rfl (hb hby d18_1) (by decide) (W := 0) (by show 2 * 0 + _ ≤ _; exact Nat.le_of_eq rfl) (by decide)
  refine OwnEnd.of (S' := T1.setTop (mkF m 4 #[.val (.ref x0), .val (.ref b), .val (.int (0 : Int32)), .val (.int (2 : Int32)), .val .null, .unset] [])) st1 ?_
  refine OwnEnd.of (S' := T1.setTop (mkF m 27 #[.val (.ref x0), .val (.ref b), .val (.int (0 : Int32)), .val (.int (2 : Int32)), .val .null, .unset] [])) (fun _ kK => XS.iloadN X1.here hx rfl (hb hby d18_4) rfl (XS.ifYes X1.here hx rfl (pc0 := 5) (pc' := 27) rfl (hb hby d18_5) rfl ((if0 _ _).trans (feq ((by decide : ¬ ((2 : Int32) = (0 : Int32))))).2) (by decide) (by decide) kK)) ?_
  obtain ⟨T2, X2, e2, st2⟩ := getS2 X1 hx hZ hown (host := "") (Or.inl (own_w G 24 rfl)) Via.refl e1 (SCS.ext O0.2) (g := (mkF m 27 #[.val (.ref x0), .val (.ref b), .val (.int (0 : Int32)), .val (.int (2 : Int32)), .val .null, .unset] [])) rfl (hb hby d18_27)
  refine OwnEnd.of (S' := T2.setTop (mkF m 30 #[.val (.ref x0), .val (.ref b), .val (.int (0 : Int32)), .val (.int (2 : Int32)), .val .null, .unset] [(.int zCS)])) st2 ?_
  refine OwnEnd.of (S' := T2.setTop (mkF m 36 #[.val (.ref x0), .val (.ref b), .val (.int (0 : Int32)), .val (.int (2 : Int32)), .val .null, .unset] [(.int (2 : Int32)), (.int (0 : Int32)), (.ref b)])) (fun _ kK => XS.ifNo X2.here hx rfl (hb hby d18_30) rfl ((if0 _ _).trans (feq (PCS)).1) (XS.aloadN X2.here hx rfl (hb hby d18_33) rfl rfl (XS.iloadN X2.here hx rfl (hb hby d18_34) rfl (XS.iloadN X2.here hx rfl (hb hby d18_35) rfl kK)))) ?_
  obtain ⟨_, _, ⟨T3, L3, k3, n3⟩, -, X3, ⟨Lc3, hQ3, l3, y3, z3⟩, st3⟩ := Jvm.LawKit.callS X2 hx (y := own_m16) hown (mvT hZ (own_w G 25 rfl)) (mvT hZ (own_w G 26 rfl)) (mvT hZ (own_w G 27 rfl)) (mvT hZ (own_w G 28 rfl)) (by decide) (backOf (W := 0) (rmcw2 l Z a0 G [] b kC dC c0 c1 h0 n0 O0 P4 P5) hZ (own_w G 28 rfl) (own_w G 27 rfl) (by decide) (by decide)) (g := (mkF m 36 #[.val (.ref x0), .val (.ref b), .val (.int (0 : Int32)), .val (.int (2 : Int32)), .val .null, .unset] [(.int (2 : Int32)), (.int (0 : Int32)), (.ref b)])) rfl (by rw [hml]; rfl) (argsL := [(.ref b), (.int (0 : Int32)), (.int (2 : Int32))]) (rest := []) (lenOf pd_11 rfl) rfl (by show 2 * 0 + _ ≤ _; exact Nat.le_of_eq rfl) (hb hby d18_36) (fun _ _ => ⟨rfl, e2, (by decide : 0 + 2 ≤ _), (by decide : 0 + 6 ≤ _)⟩)
  dsimp only [Pt.U, Pt.locs, Pt.cells, Pt.slots] at X3 l3 y3 z3 st3 hQ3
  subst l3 y3 z3
  obtain ⟨t_3, kb_3, N_3, vs_3, cd_3, rfl, N3q, Kq3, r3_0, r3_1, r3_2⟩ := hQ3
  have N3 := Fr.app N0 N3q
  have sz4 := Kq3.1
  have K4 := K0.trans Kq3 (own_all0 )
  have O4 := O0.keep Kq3 (own_all0 )
  have ltr3_0 := own_ltN' r3_0.lt
  refine OwnEnd.of (S' := T3.setTop (mkF m 39 #[.val (.ref x0), .val (.ref b), .val (.int (0 : Int32)), .val (.int (2 : Int32)), .val .null, .unset] [(.ref t_3)])) st3 ?_
  refine OwnEnd.of (S' := T3.setTop (mkF m 45 #[.val (.ref x0), .val (.ref b), .val (.int (0 : Int32)), .val (.int (2 : Int32)), .val .null, .val (.ref t_3)] [(.int (2 : Int32)), (.ref t_3), (.ref x0)])) (fun _ kK => XS.astore X3.here hx rfl (hb hby d18_39) rfl rfl (l' := #[.val (.ref x0), .val (.ref b), .val (.int (0 : Int32)), .val (.int (2 : Int32)), .val .null, .val (.ref t_3)]) rfl (XS.aloadN X3.here hx rfl (hb hby d18_41) rfl rfl (XS.aload X3.here hx rfl (hb hby d18_42) rfl rfl (XS.iloadN X3.here hx rfl (hb hby d18_44) rfl kK)))) ?_
  obtain ⟨_, _, ⟨T5, L5, k5, n5⟩, -, X5, ⟨Lc5, hQ5, l5, y5, z5⟩, st5⟩ := Jvm.LawKit.callS X3 hx (y := own_m17) hown (mvT hZ (own_w G 33 rfl)) (mvT hZ (own_w G 34 rfl)) (mvT hZ (own_w G 27 rfl)) (mvT hZ (own_w G 35 rfl)) (by decide) (backOf (W := 1) (rmcf2 l Z a0 G [] t_3 kb_3 N_3 vs_3 cd_3 c0 c1 T3.heap n0 O4 r3_0 r3_1) hZ (own_w G 35 rfl) (own_w G 27 rfl) (by decide) (by decide)) (g := (mkF m 45 #[.val (.ref x0), .val (.ref b), .val (.int (0 : Int32)), .val (.int (2 : Int32)), .val .null, .val (.ref t_3)] [(.int (2 : Int32)), (.ref t_3), (.ref x0)])) rfl (by rw [hml]; rfl) (argsL := [(.ref t_3), (.int (2 : Int32))]) (rest := [(.ref x0)]) (lenOf pd_12 rfl) rfl (by show 2 * 0 + _ ≤ _; exact Nat.le_of_eq rfl) (hb hby d18_45) (fun _ _ => ⟨rfl, rfl, (by decide : 2 + 0 ≤ _), (by decide : 6 + 0 ≤ _)⟩)
  dsimp only [Pt.U, Pt.locs, Pt.cells, Pt.slots] at X5 l5 y5 z5 st5 hQ5
  subst l5 y5 z5
  obtain ⟨rfl, N5q, eh5⟩ := hQ5
  have N5 := Fr.app N3 N5q
  refine OwnEnd.of (S' := T5.setTop (mkF m 48 #[.val (.ref x0), .val (.ref b), .val (.int (0 : Int32)), .val (.int (2 : Int32)), .val .null, .val (.ref t_3)] [(.int cd_3), (.ref x0)])) st5 ?_
  have f7 : Fld Z T3.heap x0 "java/lang/String" "coder" "B" c9 := (P2.keep Kq3 nin0)
  have f8 : Exa Z T3.heap x0 "java/lang/String" := (P0.keep Kq3)
  obtain ⟨T6, h6, X6, e6, W6, st6⟩ := putFN X5 hx hZ hown (own_w G 36 rfl) Via.refl eh5 f7 f8 (Or.inr ⟨(own_w G 37 rfl), rfl, hnm⟩) (own_w G 11 rfl) (ty := .byte) (v' := (.int cd_3)) (by decide) (own_cod_nar r3_1).1 (own_cod_nar r3_1).2 (g := (mkF m 48 #[.val (.ref x0), .val (.ref b), .val (.int (0 : Int32)), .val (.int (2 : Int32)), .val .null, .val (.ref t_3)] [(.int cd_3), (.ref x0)])) rfl rfl (hb hby d18_48)
  have Fw6 := f7.same W6
  have N6 := Fr.snoc X6 N5 (by omega)
  have sz9 := own_wr_le W6
  have K9 := K4.wr W6 (Or.inl (by simp))
  have O9 := O4.wr W6 (by omega)
  refine OwnEnd.of (S' := T6.setTop (mkF m 51 #[.val (.ref x0), .val (.ref b), .val (.int (0 : Int32)), .val (.int (2 : Int32)), .val .null, .val (.ref t_3)] [])) st6 ?_
  refine OwnEnd.of (S' := T6.setTop (mkF m 54 #[.val (.ref x0), .val (.ref b), .val (.int (0 : Int32)), .val (.int (2 : Int32)), .val .null, .val (.ref t_3)] [(.ref t_3), (.ref x0)])) (fun _ kK => XS.aloadN X6.here hx rfl (hb hby d18_51) rfl rfl (XS.aload X6.here hx rfl (hb hby d18_52) rfl rfl kK)) ?_
  have f11 : Fld Z h6 x0 "java/lang/String" "value" "[B" v0 := ((P1.keep Kq3 nin0).other W6 (Or.inr (slot_ne (Or.inr (own_w G 39 rfl)) (Or.inr (own_w G 37 rfl)) (by decide) (t := (.array .byte)) (t' := .byte) (by decide) (by decide))))
  have f12 : Exa Z h6 x0 "java/lang/String" := (f8.wr W6)
  obtain ⟨T10, h10, X10, e10, W10, st10⟩ := putF X6 hx hZ hown (host := "") (Or.inl (own_w G 38 rfl)) Via.refl e6 f11 f12 (Or.inr ⟨(own_w G 39 rfl), rfl, hnm⟩) (own_w G 11 rfl) (ty := (.array .byte)) (by decide) rfl rfl (g := (mkF m 54 #[.val (.ref x0), .val (.ref b), .val (.int (0 : Int32)), .val (.int (2 : Int32)), .val .null, .val (.ref t_3)] [(.ref t_3), (.ref x0)])) rfl rfl (hb hby d18_54)
  have Fw10 := f11.same W10
  have N10 := Fr.snoc X10 N6 (by omega)
  have sz13 := own_wr_le W10
  have K13 := K9.wr W10 (Or.inl (by simp))
  have O13 := O9.wr W10 (by omega)
  refine OwnEnd.of (S' := T10.setTop (mkF m 57 #[.val (.ref x0), .val (.ref b), .val (.int (0 : Int32)), .val (.int (2 : Int32)), .val .null, .val (.ref t_3)] [])) st10 ?_
  have f14 : Exa Z h10 x0 "java/lang/String" := (f12.wr W10)
  have f15 : Fld Z h10 x0 "java/lang/String" "coder" "B" (.int cd_3) := (Fw6.other W10 (Or.inr (slot_ne (Or.inr (own_w G 37 rfl)) (Or.inr (own_w G 39 rfl)) (by decide) (t := .byte) (t' := (.array .byte)) (by decide) (by decide))))
  have f16 : Arv Z h10 t_3 kb_3 .byte N_3 vs_3 (.int (0 : Int32)) := ((r3_0.other W6 (own_ne (by omega))).other W10 (own_ne (by omega)))
  refine OwnEnd.ret X10 (v := none) (fun _ => rfl) hlk (fun fs hr => X10.returnOut hx Bd.returns (hb hby d18_57) hr) (by decide) (by decide) (Q := Qnv2 Z x0 b v0 c9 kC dC c0 c1 h0 n0) e10 ?_
  exact ⟨t_3, kb_3, N_3, vs_3, cd_3, rfl, N10, K13, f14, Fw10, f15, f16, (r3_1), (by omega)⟩

theorem own_efnw2 (m : MethodId) (x0 : Addr) (b : Addr) : entryFrame m #[(.ref x0), (.ref b)] 2 = mkF m 0 #[.val (.ref x0), .val (.ref b)] [] := by first | (simp [entryFrame, mkF, argsToLocals, Value.category]; done) | rfl
def Qnw2 (Z : State) (x0 : Addr) (b : Addr) (v0 : Value) (c9 : Value) (kC : ClassId) (dC : Value) (c0 : Int32) (c1 : Int32) (h0 : Heap) (n0 : Nat) (v : Option Value) (h : Heap) (L : List Loc) : Prop := ∃ (t : Addr) (kb : ClassId) (N : Int32) (vs : List Value) (cd : Int32), v = none ∧ Fr n0 L ∧ Keep h0 h [x0] ∧ (Exa Z h x0 "java/lang/String") ∧ (Fld Z h x0 "java/lang/String" "value" "[B" (.ref t)) ∧ (Fld Z h x0 "java/lang/String" "coder" "B" (.int cd)) ∧ (Arv Z h t kb .byte N vs (.int (0 : Int32))) ∧ (StrChars.Road.CodA [c0, c1] cd N vs) ∧ (Array.size h0 ≤ t)
set_option maxRecDepth 65536 in
set_option maxHeartbeats 40000000 in
theorem rmnw2 (l : Launch) (Z : State) (a0 : Array Value) (G : OwnG Z a0) (ws : List Jvm.Cond) (x0 : Addr) (b : Addr) (v0 : Value) (c9 : Value) (kC : ClassId) (dC : Value) (c0 : Int32) (c1 : Int32) (h0 : Heap) (n0 : Nat) (O0 : Old Z n0 h0) (P0 : Exa Z h0 x0 "java/lang/String") (P1 : Fld Z h0 x0 "java/lang/String" "value" "[B" v0) (P2 : Fld Z h0 x0 "java/lang/String" "coder" "B" c9) (P3 : n0 ≤ x0) (P4 : Arv Z h0 b kC .char (2 : Int32) [(.int c0), (.int c1)] dC) (P5 : ∀ c ∈ ([c0, c1] : List Int32), ¬ c < (0 : Int32) ∧ ¬ (65535 : Int32) < c) (P6 : x0 ≠ b) :
    MetFree l own_m19 (head1 (Jvm.Cond.code own_m19 jdk_42_method_3_code 2 none :: ws) ({ frames := 5, cells := 2, slots := 6, locals := 74 } : Room)) (fun a U => a = #[(.ref x0), (.ref b)] ∧ Z.Warmed39 U.vm ∧ U.heap = h0) (fun _ _ _ _ _ => True) (fun _ U o U' => ∃ v L, o = .returned v ∧ Qnw2 Z x0 b v0 c9 kC dC c0 c1 h0 n0 v U'.heap L ∧ FrameEnd U o U' L ({ frames := 5, cells := 2, slots := 6, locals := 74 } : Room).cells ({ frames := 5, cells := 2, slots := 6, locals := 74 } : Room).slots) := by
  refine MetFree.of_bodySF (plainFor_of_name pn_1) hisR ?_
  intro p e s m args below meth cD s₁ Bd hml0 hP hK
  obtain ⟨rfl, hZ, hh⟩ := hP
  have hw := G.1
  have hx := Bd.exec
  have hby := Bd.bytes
  have hml : cD.maxLocals = 2 := hml0
  have hown : s.vm.findClass "java/lang/String" = some m.cls := findClass_of_methodNamed Bd.named
  have hnm := (name_of_methodNamed Bd.named Bd.method).1
  have hlk := Bd.notSynchronized
  have X0 : Stand p l e ({ frames := 5, cells := 2, slots := 6, locals := 74 } : Room) s m #[(.ref x0), (.ref b)] below meth cD s₁ [] 0 0 := Stand.of_body Bd
  have e0 : s₁.heap = h0 := by rw [← hh, Bd.state]; rfl
  have lt0 := own_ltN' P0.lt
  have lt1 := own_ltN' P1.lt
  have lt2 := own_ltN' P2.lt
  have lt4 := own_ltN' P4.lt
  have nP6 := own_neN P6
  have K0 : Keep h0 h0 [x0] := Keep.refl h0 _
  have Z0 := own_old_le O0
  have N0 := Fr.nil n0
  refine OwnEnd.start (g' := (mkF m 0 #[.val (.ref x0), .val (.ref b)] [])) (own_efnw2 m x0 b) ?_
  refine OwnEnd.of (S' := s₁.setTop (mkF m 4 #[.val (.ref x0), .val (.ref b)] [(.ref b), (.int (0 : Int32)), (.ref b), (.ref x0)])) (fun _ kK => XS.aloadN X0.here hx rfl (hb hby d19_0) rfl rfl (XS.aloadN X0.here hx rfl (hb hby d19_1) rfl rfl (XS.iconst X0.here hx rfl (hb hby d19_2) (XS.aloadN X0.here hx rfl (hb hby d19_3) rfl rfl kK)))) ?_
  obtain ⟨cl1, Ar1, q1, S1, N1', H1, G1⟩ := id P4
  refine OwnEnd.of (S' := s₁.setTop (mkF m 5 #[.val (.ref x0), .val (.ref b)] [(.int (2 : Int32)), (.int (0 : Int32)), (.ref b), (.ref x0)])) (fun _ kK => X0.arraylength hx (by rw [e0]; exact Ar1.1) (State.isArrayOf_alike hZ.alike Ar1.2.1) (g := (mkF m 4 #[.val (.ref x0), .val (.ref b)] [(.ref b), (.int (0 : Int32)), (.ref b), (.ref x0)])) rfl rfl (hb hby d19_4) _ (by rw [len_of S1 N1']; exact kK)) ?_
  refine OwnEnd.of (S' := s₁.setTop (mkF m 6 #[.val (.ref x0), .val (.ref b)] [.null, (.int (2 : Int32)), (.int (0 : Int32)), (.ref b), (.ref x0)])) (fun _ kK => XS.aconstNull X0.here hx rfl (hb hby d19_5) kK) ?_
  obtain ⟨_, _, ⟨T2, L2, k2, n2⟩, -, X2, ⟨Lc2, hQ2, l2, y2, z2⟩, st2⟩ := Jvm.Stand.specialBack X0 hx (y := own_m18) rfl hown (mvT hZ (own_w G 17 rfl)) (mvT hZ (own_w G 18 rfl)) (mvT hZ (own_w G 20 rfl)) (by decide) (backOf (W := 0) (rmnv2 l Z a0 G [] x0 b v0 c9 kC dC c0 c1 h0 n0 O0 P0 P1 P2 (by omega) P4 P5 (P6 : x0 ≠ b)) hZ (own_w G 20 rfl) (own_w G 12 rfl) (by decide) (by decide)) (g := (mkF m 6 #[.val (.ref x0), .val (.ref b)] [.null, (.int (2 : Int32)), (.int (0 : Int32)), (.ref b), (.ref x0)])) rfl (by rw [hml]; rfl) (Steps.refl _) (a := x0) (argsL := [(.ref b), (.int (0 : Int32)), (.int (2 : Int32)), .null]) (rest := []) (lenOf pd_13 rfl) rfl (by show 2 * 0 + _ ≤ _; exact Nat.le_of_eq rfl) (hb hby d19_6) (fun _ _ => ⟨rfl, e0, (by decide : 0 + 2 ≤ _), (by decide : 0 + 6 ≤ _)⟩)
  dsimp only [Pt.U, Pt.locs, Pt.cells, Pt.slots] at X2 l2 y2 z2 st2 hQ2
  subst l2 y2 z2
  obtain ⟨t_2, kb_2, N_2, vs_2, cd_2, rfl, N2q, Kq2, r2_0, r2_1, r2_2, r2_3, r2_4, r2_5⟩ := hQ2
  have N2 := Fr.app N0 N2q
  have sz3 := Kq2.1
  have K3 := K0.trans Kq2 (own_all1 (Or.inl (by simp)))
  have O3 := O0.keep Kq2 (own_all1 (by omega))
  have ltr2_0 := own_ltN' r2_0.lt
  have ltr2_1 := own_ltN' r2_1.lt
  have ltr2_2 := own_ltN' r2_2.lt
  have ltr2_3 := own_ltN' r2_3.lt
  refine OwnEnd.tr (S' := T2.setTop (mkF m 9 #[.val (.ref x0), .val (.ref b)] [])) st2 ?_
  refine OwnEnd.ret X2 (v := none) (fun _ => rfl) hlk (fun fs hr => X2.returnOut hx Bd.returns (hb hby d19_9) hr) (by decide) (by decide) (Q := Qnw2 Z x0 b v0 c9 kC dC c0 c1 h0 n0) rfl ?_
  exact ⟨t_2, kb_2, N_2, vs_2, cd_2, rfl, N2, K3, r2_0, r2_1, r2_2, r2_3, (r2_4), (by omega)⟩

theorem own_efnb3 (m : MethodId) : entryFrame m #[(.int (3 : Int32))] 1 = mkF m 0 #[.val (.int (3 : Int32))] [] := by first | (simp [entryFrame, mkF, argsToLocals, Value.category]; done) | rfl
def Qnb3 (Z : State)  (h0 : Heap) (n0 : Nat) (v : Option Value) (h : Heap) (L : List Loc) : Prop := ∃ (t : Addr) (kb : ClassId), v = some (.ref t) ∧ Fr n0 L ∧ Keep h0 h [] ∧ (Arv Z h t kb .byte (6 : Int32) [(.int (0 : Int32)), (.int (0 : Int32)), (.int (0 : Int32)), (.int (0 : Int32)), (.int (0 : Int32)), (.int (0 : Int32))] (.int (0 : Int32))) ∧ (Array.size h0 ≤ t)
set_option maxRecDepth 65536 in
set_option maxHeartbeats 40000000 in
theorem rmnb3 (l : Launch) (Z : State) (a0 : Array Value) (G : OwnG Z a0) (ws : List Jvm.Cond)  (h0 : Heap) (n0 : Nat) (O0 : Old Z n0 h0)  :
    MetFree l own_m13 (head1 (Jvm.Cond.code own_m13 jdk_52_method_2_code 1 (some (.array .byte)) :: ws) ({ frames := 1, cells := 1, slots := 6, locals := 12 } : Room)) (fun a U => a = #[(.int (3 : Int32))] ∧ Z.Warmed39 U.vm ∧ U.heap = h0) (fun _ _ _ _ _ => True) (fun _ U o U' => ∃ v L, o = .returned v ∧ Qnb3 Z  h0 n0 v U'.heap L ∧ FrameEnd U o U' L ({ frames := 1, cells := 1, slots := 6, locals := 12 } : Room).cells ({ frames := 1, cells := 1, slots := 6, locals := 12 } : Room).slots) := by
  refine MetFree.of_bodySF (plainFor_of_name pn_3) hisR ?_
  intro p e s m args below meth cD s₁ Bd hml0 hP hK
  obtain ⟨rfl, hZ, hh⟩ := hP
  have hw := G.1
  have hx := Bd.exec
  have hby := Bd.bytes
  have hml : cD.maxLocals = 1 := hml0
  have hown : s.vm.findClass "java/lang/StringUTF16" = some m.cls := findClass_of_methodNamed Bd.named
  have hnm := (name_of_methodNamed Bd.named Bd.method).1
  have hlk := Bd.notSynchronized
  have X0 : Stand p l e ({ frames := 1, cells := 1, slots := 6, locals := 12 } : Room) s m #[(.int (3 : Int32))] below meth cD s₁ [] 0 0 := Stand.of_body Bd
  have e0 : s₁.heap = h0 := by rw [← hh, Bd.state]; rfl
  have K0 : Keep h0 h0 [] := Keep.refl h0 _
  have Z0 := own_old_le O0
  have N0 := Fr.nil n0
  refine OwnEnd.start (g' := (mkF m 0 #[.val (.int (3 : Int32))] [])) (own_efnb3 m ) ?_
  refine OwnEnd.of (S' := s₁.setTop (mkF m 1 #[.val (.int (3 : Int32))] [(.int (3 : Int32))])) (fun _ kK => XS.iloadN X0.here hx rfl (hb hby d13_0) rfl kK) ?_
  obtain ⟨_, _, ⟨T1, L1, k1, n1⟩, -, X1, ⟨Lc1, hQ1, l1, y1, z1⟩, st1⟩ := Jvm.LawKit.callS X0 hx (y := own_m11) hown (mvT hZ (own_w G 121 rfl)) (mvT hZ (own_w G 122 rfl)) (mvT hZ (own_w G 27 rfl)) (mvT hZ (own_w G 123 rfl)) (by decide) (backOf (W := 0) (rmnl l Z a0 G [] (3 : Int32) (6 : Int32) h0 n0 O0 (by decide : ¬ (3 : Int32) < (0 : Int32)) (by decide : (3 : Int32) < (1073741823 : Int32)) (by decide : (3 : Int32) <<< ((1 : Int32) &&& 31) = (6 : Int32))) hZ (own_w G 123 rfl) (own_w G 27 rfl) (by decide) (by decide)) (g := (mkF m 1 #[.val (.int (3 : Int32))] [(.int (3 : Int32))])) rfl (by rw [hml]; rfl) (argsL := [(.int (3 : Int32))]) (rest := []) (lenOf pd_7 rfl) rfl (by show 2 * 0 + _ ≤ _; exact Nat.le_of_eq rfl) (hb hby d13_1) (fun _ _ => ⟨rfl, e0, (by decide : 0 + 0 ≤ _), (by decide : 0 + 0 ≤ _)⟩)
  dsimp only [Pt.U, Pt.locs, Pt.cells, Pt.slots] at X1 l1 y1 z1 st1 hQ1
  subst l1 y1 z1
  obtain ⟨rfl, N1q, eh1⟩ := hQ1
  have N1 := Fr.app N0 N1q
  refine OwnEnd.of (S' := T1.setTop (mkF m 4 #[.val (.int (3 : Int32))] [(.int (6 : Int32))])) st1 ?_
  obtain ⟨T2, h2, k2, X2, e2, E2, A2, st2⟩ := newP X1 hx hZ (own_w G 29 rfl) eh1 (g := (mkF m 4 #[.val (.int (3 : Int32))] [(.int (6 : Int32))])) rfl (hb hby d13_4) rfl (by decide) (cap := 6) (by decide) (by decide) (by decide) (by decide)
  obtain ⟨b2, g2⟩ : ∃ z, z = Array.size h0 := ⟨_, rfl⟩
  rw [← g2] at A2 st2
  have lt_b2 := own_ltN' A2.lt
  have sz3 := E2.1
  have K3 := K0.ext E2
  have O3 := O0.ext E2
  have V2 : Arv Z h2 b2 k2 .byte (6 : Int32) [(.int (0 : Int32)), (.int (0 : Int32)), (.int (0 : Int32)), (.int (0 : Int32)), (.int (0 : Int32)), (.int (0 : Int32))] (.int (0 : Int32)) := (Arv.new A2 (by decide)).pad (pad_rep [] (.int (0 : Int32)) 6)
  refine OwnEnd.of (S' := T2.setTop (mkF m 6 #[.val (.int (3 : Int32))] [(.ref b2)])) st2 ?_
  refine OwnEnd.ret X2 (v := (some (.ref b2))) (fun h => by rw [Bd.returns] at h; cases h) hlk (fun fs hr => retOut X2 hx Bd.returns rfl (Or.inr (Or.inr (Or.inr (Or.inr ⟨rfl, rfl, rfl⟩)))) (hb hby d13_6) hr) (by decide) (by decide) (Q := Qnb3 Z  h0 n0) e2 ?_
  exact ⟨b2, k2, rfl, N1, K3, V2, (by omega)⟩

theorem own_efby3 (m : MethodId) (b : Addr) : entryFrame m #[(.ref b), (.int (0 : Int32)), (.int (3 : Int32))] 5 = mkF m 0 #[.val (.ref b), .val (.int (0 : Int32)), .val (.int (3 : Int32)), .unset, .unset] [] := by first | (simp [entryFrame, mkF, argsToLocals, Value.category]; done) | rfl
def Qby3 (Z : State) (b : Addr) (kC : ClassId) (dC : Value) (c0 : Int32) (c1 : Int32) (c2 : Int32) (h0 : Heap) (n0 : Nat) (v : Option Value) (h : Heap) (L : List Loc) : Prop := ∃ (t : Addr) (kb : ClassId), v = some (.ref t) ∧ Fr n0 L ∧ Keep h0 h [] ∧ (Arv Z h t kb .byte (6 : Int32) (StrChars.Road.wideBytes [c0, c1, c2]) (.int (0 : Int32))) ∧ (Array.size h0 ≤ t)
set_option maxRecDepth 65536 in
set_option maxHeartbeats 40000000 in
theorem rmby3 (l : Launch) (Z : State) (a0 : Array Value) (G : OwnG Z a0) (ws : List Jvm.Cond) (b : Addr) (kC : ClassId) (dC : Value) (c0 : Int32) (c1 : Int32) (c2 : Int32) (h0 : Heap) (n0 : Nat) (O0 : Old Z n0 h0) (P0 : Arv Z h0 b kC .char (3 : Int32) [(.int c0), (.int c1), (.int c2)] dC) :
    MetFree l own_m14 (head1 (Jvm.Cond.code own_m14 jdk_52_method_14_code 5 (some (.array .byte)) :: ws) ({ frames := 2, cells := 1, slots := 6, locals := 24 } : Room)) (fun a U => a = #[(.ref b), (.int (0 : Int32)), (.int (3 : Int32))] ∧ Z.Warmed39 U.vm ∧ U.heap = h0) (fun _ _ _ _ _ => True) (fun _ U o U' => ∃ v L, o = .returned v ∧ Qby3 Z b kC dC c0 c1 c2 h0 n0 v U'.heap L ∧ FrameEnd U o U' L ({ frames := 2, cells := 1, slots := 6, locals := 24 } : Room).cells ({ frames := 2, cells := 1, slots := 6, locals := 24 } : Room).slots) := by
  refine MetFree.of_bodySF (plainFor_of_name pn_3) hisR ?_
  intro p e s m args below meth cD s₁ Bd hml0 hP hK
  obtain ⟨rfl, hZ, hh⟩ := hP
  have hw := G.1
  have hx := Bd.exec
  have hby := Bd.bytes
  have hml : cD.maxLocals = 5 := hml0
  have hown : s.vm.findClass "java/lang/StringUTF16" = some m.cls := findClass_of_methodNamed Bd.named
  have hnm := (name_of_methodNamed Bd.named Bd.method).1
  have hlk := Bd.notSynchronized
  have X0 : Stand p l e ({ frames := 2, cells := 1, slots := 6, locals := 24 } : Room) s m #[(.ref b), (.int (0 : Int32)), (.int (3 : Int32))] below meth cD s₁ [] 0 0 := Stand.of_body Bd
  have e0 : s₁.heap = h0 := by rw [← hh, Bd.state]; rfl
  have lt0 := own_ltN' P0.lt
  have K0 : Keep h0 h0 [] := Keep.refl h0 _
  have Z0 := own_old_le O0
  have N0 := Fr.nil n0
  refine OwnEnd.start (g' := (mkF m 0 #[.val (.ref b), .val (.int (0 : Int32)), .val (.int (3 : Int32)), .unset, .unset] [])) (own_efby3 m b) ?_
  refine OwnEnd.of (S' := s₁.setTop (mkF m 1 #[.val (.ref b), .val (.int (0 : Int32)), .val (.int (3 : Int32)), .unset, .unset] [(.int (3 : Int32))])) (fun _ kK => XS.iloadN X0.here hx rfl (hb hby d14_0) rfl kK) ?_
  obtain ⟨_, _, ⟨T1, L1, k1, n1⟩, -, X1, ⟨Lc1, hQ1, l1, y1, z1⟩, st1⟩ := Jvm.LawKit.callS X0 hx (y := own_m13) hown (mvT hZ (own_w G 118 rfl)) (mvT hZ (own_w G 119 rfl)) (mvT hZ (own_w G 27 rfl)) (mvT hZ (own_w G 120 rfl)) (by decide) (backOf (W := 0) (rmnb3 l Z a0 G []  h0 n0 O0 ) hZ (own_w G 120 rfl) (own_w G 27 rfl) (by decide) (by decide)) (g := (mkF m 1 #[.val (.ref b), .val (.int (0 : Int32)), .val (.int (3 : Int32)), .unset, .unset] [(.int (3 : Int32))])) rfl (by rw [hml]; rfl) (argsL := [(.int (3 : Int32))]) (rest := []) (lenOf pd_8 rfl) rfl (by show 2 * 0 + _ ≤ _; exact Nat.le_of_eq rfl) (hb hby d14_1) (fun _ _ => ⟨rfl, e0, (by decide : 0 + 1 ≤ _), (by decide : 0 + 6 ≤ _)⟩)
  dsimp only [Pt.U, Pt.locs, Pt.cells, Pt.slots] at X1 l1 y1 z1 st1 hQ1
  subst l1 y1 z1
  obtain ⟨t_1, kb_1, rfl, N1q, Kq1, r1_0, r1_1⟩ := hQ1
  have N1 := Fr.app N0 N1q
  have sz2 := Kq1.1
  have K2 := K0.trans Kq1 (own_all0 )
  have O2 := O0.keep Kq1 (own_all0 )
  have ltr1_0 := own_ltN' r1_0.lt
  refine OwnEnd.of (S' := T1.setTop (mkF m 4 #[.val (.ref b), .val (.int (0 : Int32)), .val (.int (3 : Int32)), .unset, .unset] [(.ref t_1)])) st1 ?_
  refine OwnEnd.of (S' := T1.setTop (mkF m 19 #[.val (.ref b), .val (.int (0 : Int32)), .val (.int (3 : Int32)), .val (.ref t_1), .val (.int (0 : Int32))] [(.int (0 : Int32)), (.ref b), (.int (0 : Int32)), (.ref t_1)])) (fun _ kK => XS.astoreN X1.here hx rfl (hb hby d14_4) rfl rfl (l' := #[.val (.ref b), .val (.int (0 : Int32)), .val (.int (3 : Int32)), .val (.ref t_1), .unset]) rfl (XS.iconst X1.here hx rfl (hb hby d14_5) (XS.istore X1.here hx rfl (hb hby d14_6) rfl (l' := #[.val (.ref b), .val (.int (0 : Int32)), .val (.int (3 : Int32)), .val (.ref t_1), .val (.int (0 : Int32))]) rfl (XS.iload X1.here hx rfl (hb hby d14_8) rfl (XS.iloadN X1.here hx rfl (hb hby d14_10) rfl (XS.icmpNo X1.here hx rfl (hb hby d14_11) rfl (tlt ((by decide : (0 : Int32) < (3 : Int32)))).2.1 (XS.aloadN X1.here hx rfl (hb hby d14_14) rfl rfl (XS.iload X1.here hx rfl (hb hby d14_15) rfl (XS.aloadN X1.here hx rfl (hb hby d14_17) rfl rfl (XS.iloadN X1.here hx rfl (hb hby d14_18) rfl kK)))))))))) ?_
  have f3 : Arv Z T1.heap b kC .char (3 : Int32) [(.int c0), (.int c1), (.int c2)] dC := (P0.keep Kq1 nin0)
  obtain ⟨cl4, Ar4, q4, S4, N4', H4, G4⟩ := id f3
  have hin5 : ¬ ((0 : Int32) < 0 ∨ cl4.slots.size ≤ ((0 : Int32)).toNatClampNeg) := inb_of S4 ⟨by decide, by decide⟩
  refine OwnEnd.of (S' := T1.setTop (mkF m 20 #[.val (.ref b), .val (.int (0 : Int32)), .val (.int (3 : Int32)), .val (.ref t_1), .val (.int (0 : Int32))] [(.int c0), (.int (0 : Int32)), (.ref t_1)])) (fun _ kK => X1.caload hx (j := (0 : Int32)) (v := (.int c0)) Ar4.1 (State.isArrayOf_alike hZ.alike Ar4.2.1) Ar4.2.2 hin5 (Has.at H4 hin5 (rfl)) (g := (mkF m 19 #[.val (.ref b), .val (.int (0 : Int32)), .val (.int (3 : Int32)), .val (.ref t_1), .val (.int (0 : Int32))] [(.int (0 : Int32)), (.ref b), (.int (0 : Int32)), (.ref t_1)])) rfl rfl (hb hby d14_19) _ kK) ?_
  obtain ⟨_, _, ⟨T6, L6, k6, n6⟩, -, X6, ⟨Lc6, hQ6, l6, y6, z6⟩, st6⟩ := Jvm.LawKit.callS X1 hx (y := own_m12) hown (mvT hZ (own_w G 125 rfl)) (mvT hZ (own_w G 126 rfl)) (mvT hZ (own_w G 27 rfl)) (mvT hZ (own_w G 127 rfl)) (by decide) (backOf (W := 0) (rmpu0 l Z a0 G [] t_1 kb_1 (6 : Int32) [(.int (0 : Int32)), (.int (0 : Int32)), (.int (0 : Int32)), (.int (0 : Int32)), (.int (0 : Int32)), (.int (0 : Int32))] (.int (0 : Int32)) c0 T1.heap n0 O2 r1_0 (by decide : (0 : Int32) < (6 : Int32)) (by decide : (1 : Int32) < (6 : Int32)) (Nat.le_of_ble_eq_true rfl : 1 < [(.int (0 : Int32)), (.int (0 : Int32)), (.int (0 : Int32)), (.int (0 : Int32)), (.int (0 : Int32)), (.int (0 : Int32))].length) (by omega)) hZ (own_w G 127 rfl) (own_w G 27 rfl) (by decide) (by decide)) (g := (mkF m 20 #[.val (.ref b), .val (.int (0 : Int32)), .val (.int (3 : Int32)), .val (.ref t_1), .val (.int (0 : Int32))] [(.int c0), (.int (0 : Int32)), (.ref t_1)])) rfl (by rw [hml]; rfl) (argsL := [(.ref t_1), (.int (0 : Int32)), (.int c0)]) (rest := []) (lenOf pd_9 rfl) rfl (by show 2 * 0 + _ ≤ _; exact Nat.le_of_eq rfl) (hb hby d14_20) (fun _ _ => ⟨rfl, rfl, (by decide : 1 + 0 ≤ _), (by decide : 6 + 0 ≤ _)⟩)
  dsimp only [Pt.U, Pt.locs, Pt.cells, Pt.slots] at X6 l6 y6 z6 st6 hQ6
  subst l6 y6 z6
  obtain ⟨rfl, N6q, Kq6, r6_0⟩ := hQ6
  have N6 := Fr.app N1 N6q
  have sz7 := Kq6.1
  have K7 := K2.trans Kq6 (own_all1 (Or.inr (by omega)))
  have O7 := O2.keep Kq6 (own_all1 (by omega))
  have ltr6_0 := own_ltN' r6_0.lt
  refine OwnEnd.of (S' := T6.setTop (mkF m 23 #[.val (.ref b), .val (.int (0 : Int32)), .val (.int (3 : Int32)), .val (.ref t_1), .val (.int (0 : Int32))] [])) st6 ?_
  have V8 : Arv Z T6.heap t_1 kb_1 .byte (6 : Int32) [(.int (StrChars.lo8 c0)), (.int (StrChars.hi8 c0)), (.int (0 : Int32)), (.int (0 : Int32)), (.int (0 : Int32)), (.int (0 : Int32))] (.int (0 : Int32)) := by have q := r6_0; exact q
  refine OwnEnd.of (S' := T6.setTop (mkF m 19 #[.val (.ref b), .val (.int (1 : Int32)), .val (.int (3 : Int32)), .val (.ref t_1), .val (.int (1 : Int32))] [(.int (1 : Int32)), (.ref b), (.int (1 : Int32)), (.ref t_1)])) (fun _ kK => XS.iinc X6.here hx rfl (hb hby d14_23) rfl (l' := #[.val (.ref b), .val (.int (1 : Int32)), .val (.int (3 : Int32)), .val (.ref t_1), .val (.int (0 : Int32))]) rfl (XS.iinc X6.here hx rfl (hb hby d14_26) rfl (l' := #[.val (.ref b), .val (.int (1 : Int32)), .val (.int (3 : Int32)), .val (.ref t_1), .val (.int (1 : Int32))]) rfl (XS.goto X6.here hx rfl (pc0 := 29) (pc' := 8) rfl (hb hby d14_29) (by decide) (by decide) (XS.iload X6.here hx rfl (hb hby d14_8) rfl (XS.iloadN X6.here hx rfl (hb hby d14_10) rfl (XS.icmpNo X6.here hx rfl (hb hby d14_11) rfl (tlt ((by decide : (1 : Int32) < (3 : Int32)))).2.1 (XS.aloadN X6.here hx rfl (hb hby d14_14) rfl rfl (XS.iload X6.here hx rfl (hb hby d14_15) rfl (XS.aloadN X6.here hx rfl (hb hby d14_17) rfl rfl (XS.iloadN X6.here hx rfl (hb hby d14_18) rfl kK)))))))))) ?_
  have f9 : Arv Z T6.heap b kC .char (3 : Int32) [(.int c0), (.int c1), (.int c2)] dC := (f3.keep Kq6 (own_nin1 (own_ne (by omega))))
  obtain ⟨cl10, Ar10, q10, S10, N10', H10, G10⟩ := id f9
  have hin11 : ¬ ((1 : Int32) < 0 ∨ cl10.slots.size ≤ ((1 : Int32)).toNatClampNeg) := inb_of S10 ⟨by decide, by decide⟩
  refine OwnEnd.of (S' := T6.setTop (mkF m 20 #[.val (.ref b), .val (.int (1 : Int32)), .val (.int (3 : Int32)), .val (.ref t_1), .val (.int (1 : Int32))] [(.int c1), (.int (1 : Int32)), (.ref t_1)])) (fun _ kK => X6.caload hx (j := (1 : Int32)) (v := (.int c1)) Ar10.1 (State.isArrayOf_alike hZ.alike Ar10.2.1) Ar10.2.2 hin11 (Has.at H10 hin11 (rfl)) (g := (mkF m 19 #[.val (.ref b), .val (.int (1 : Int32)), .val (.int (3 : Int32)), .val (.ref t_1), .val (.int (1 : Int32))] [(.int (1 : Int32)), (.ref b), (.int (1 : Int32)), (.ref t_1)])) rfl rfl (hb hby d14_19) _ kK) ?_
  obtain ⟨_, _, ⟨T12, L12, k12, n12⟩, -, X12, ⟨Lc12, hQ12, l12, y12, z12⟩, st12⟩ := Jvm.LawKit.callS X6 hx (y := own_m12) hown (mvT hZ (own_w G 125 rfl)) (mvT hZ (own_w G 126 rfl)) (mvT hZ (own_w G 27 rfl)) (mvT hZ (own_w G 127 rfl)) (by decide) (backOf (W := 0) (rmpu1 l Z a0 G [] t_1 kb_1 (6 : Int32) [(.int (StrChars.lo8 c0)), (.int (StrChars.hi8 c0)), (.int (0 : Int32)), (.int (0 : Int32)), (.int (0 : Int32)), (.int (0 : Int32))] (.int (0 : Int32)) c1 T6.heap n0 O7 V8 (by decide : (2 : Int32) < (6 : Int32)) (by decide : (3 : Int32) < (6 : Int32)) (Nat.le_of_ble_eq_true rfl : 3 < [(.int (StrChars.lo8 c0)), (.int (StrChars.hi8 c0)), (.int (0 : Int32)), (.int (0 : Int32)), (.int (0 : Int32)), (.int (0 : Int32))].length) (by omega)) hZ (own_w G 127 rfl) (own_w G 27 rfl) (by decide) (by decide)) (g := (mkF m 20 #[.val (.ref b), .val (.int (1 : Int32)), .val (.int (3 : Int32)), .val (.ref t_1), .val (.int (1 : Int32))] [(.int c1), (.int (1 : Int32)), (.ref t_1)])) rfl (by rw [hml]; rfl) (argsL := [(.ref t_1), (.int (1 : Int32)), (.int c1)]) (rest := []) (lenOf pd_9 rfl) rfl (by show 2 * 0 + _ ≤ _; exact Nat.le_of_eq rfl) (hb hby d14_20) (fun _ _ => ⟨rfl, rfl, (by decide : 1 + 0 ≤ _), (by decide : 6 + 0 ≤ _)⟩)
  dsimp only [Pt.U, Pt.locs, Pt.cells, Pt.slots] at X12 l12 y12 z12 st12 hQ12
  subst l12 y12 z12
  obtain ⟨rfl, N12q, Kq12, r12_0⟩ := hQ12
  have N12 := Fr.app N6 N12q
  have sz13 := Kq12.1
  have K13 := K7.trans Kq12 (own_all1 (Or.inr (by omega)))
  have O13 := O7.keep Kq12 (own_all1 (by omega))
  have ltr12_0 := own_ltN' r12_0.lt
  refine OwnEnd.of (S' := T12.setTop (mkF m 23 #[.val (.ref b), .val (.int (1 : Int32)), .val (.int (3 : Int32)), .val (.ref t_1), .val (.int (1 : Int32))] [])) st12 ?_
  have V14 : Arv Z T12.heap t_1 kb_1 .byte (6 : Int32) [(.int (StrChars.lo8 c0)), (.int (StrChars.hi8 c0)), (.int (StrChars.lo8 c1)), (.int (StrChars.hi8 c1)), (.int (0 : Int32)), (.int (0 : Int32))] (.int (0 : Int32)) := by have q := r12_0; exact q
  refine OwnEnd.of (S' := T12.setTop (mkF m 19 #[.val (.ref b), .val (.int (2 : Int32)), .val (.int (3 : Int32)), .val (.ref t_1), .val (.int (2 : Int32))] [(.int (2 : Int32)), (.ref b), (.int (2 : Int32)), (.ref t_1)])) (fun _ kK => XS.iinc X12.here hx rfl (hb hby d14_23) rfl (l' := #[.val (.ref b), .val (.int (2 : Int32)), .val (.int (3 : Int32)), .val (.ref t_1), .val (.int (1 : Int32))]) rfl (XS.iinc X12.here hx rfl (hb hby d14_26) rfl (l' := #[.val (.ref b), .val (.int (2 : Int32)), .val (.int (3 : Int32)), .val (.ref t_1), .val (.int (2 : Int32))]) rfl (XS.goto X12.here hx rfl (pc0 := 29) (pc' := 8) rfl (hb hby d14_29) (by decide) (by decide) (XS.iload X12.here hx rfl (hb hby d14_8) rfl (XS.iloadN X12.here hx rfl (hb hby d14_10) rfl (XS.icmpNo X12.here hx rfl (hb hby d14_11) rfl (tlt ((by decide : (2 : Int32) < (3 : Int32)))).2.1 (XS.aloadN X12.here hx rfl (hb hby d14_14) rfl rfl (XS.iload X12.here hx rfl (hb hby d14_15) rfl (XS.aloadN X12.here hx rfl (hb hby d14_17) rfl rfl (XS.iloadN X12.here hx rfl (hb hby d14_18) rfl kK)))))))))) ?_
  have f15 : Arv Z T12.heap b kC .char (3 : Int32) [(.int c0), (.int c1), (.int c2)] dC := (f9.keep Kq12 (own_nin1 (own_ne (by omega))))
  obtain ⟨cl16, Ar16, q16, S16, N16', H16, G16⟩ := id f15
  have hin17 : ¬ ((2 : Int32) < 0 ∨ cl16.slots.size ≤ ((2 : Int32)).toNatClampNeg) := inb_of S16 ⟨by decide, by decide⟩
  refine OwnEnd.of (S' := T12.setTop (mkF m 20 #[.val (.ref b), .val (.int (2 : Int32)), .val (.int (3 : Int32)), .val (.ref t_1), .val (.int (2 : Int32))] [(.int c2), (.int (2 : Int32)), (.ref t_1)])) (fun _ kK => X12.caload hx (j := (2 : Int32)) (v := (.int c2)) Ar16.1 (State.isArrayOf_alike hZ.alike Ar16.2.1) Ar16.2.2 hin17 (Has.at H16 hin17 (rfl)) (g := (mkF m 19 #[.val (.ref b), .val (.int (2 : Int32)), .val (.int (3 : Int32)), .val (.ref t_1), .val (.int (2 : Int32))] [(.int (2 : Int32)), (.ref b), (.int (2 : Int32)), (.ref t_1)])) rfl rfl (hb hby d14_19) _ kK) ?_
  obtain ⟨_, _, ⟨T18, L18, k18, n18⟩, -, X18, ⟨Lc18, hQ18, l18, y18, z18⟩, st18⟩ := Jvm.LawKit.callS X12 hx (y := own_m12) hown (mvT hZ (own_w G 125 rfl)) (mvT hZ (own_w G 126 rfl)) (mvT hZ (own_w G 27 rfl)) (mvT hZ (own_w G 127 rfl)) (by decide) (backOf (W := 0) (rmpu2 l Z a0 G [] t_1 kb_1 (6 : Int32) [(.int (StrChars.lo8 c0)), (.int (StrChars.hi8 c0)), (.int (StrChars.lo8 c1)), (.int (StrChars.hi8 c1)), (.int (0 : Int32)), (.int (0 : Int32))] (.int (0 : Int32)) c2 T12.heap n0 O13 V14 (by decide : (4 : Int32) < (6 : Int32)) (by decide : (5 : Int32) < (6 : Int32)) (Nat.le_of_ble_eq_true rfl : 5 < [(.int (StrChars.lo8 c0)), (.int (StrChars.hi8 c0)), (.int (StrChars.lo8 c1)), (.int (StrChars.hi8 c1)), (.int (0 : Int32)), (.int (0 : Int32))].length) (by omega)) hZ (own_w G 127 rfl) (own_w G 27 rfl) (by decide) (by decide)) (g := (mkF m 20 #[.val (.ref b), .val (.int (2 : Int32)), .val (.int (3 : Int32)), .val (.ref t_1), .val (.int (2 : Int32))] [(.int c2), (.int (2 : Int32)), (.ref t_1)])) rfl (by rw [hml]; rfl) (argsL := [(.ref t_1), (.int (2 : Int32)), (.int c2)]) (rest := []) (lenOf pd_9 rfl) rfl (by show 2 * 0 + _ ≤ _; exact Nat.le_of_eq rfl) (hb hby d14_20) (fun _ _ => ⟨rfl, rfl, (by decide : 1 + 0 ≤ _), (by decide : 6 + 0 ≤ _)⟩)
  dsimp only [Pt.U, Pt.locs, Pt.cells, Pt.slots] at X18 l18 y18 z18 st18 hQ18
  subst l18 y18 z18
  obtain ⟨rfl, N18q, Kq18, r18_0⟩ := hQ18
  have N18 := Fr.app N12 N18q
  have sz19 := Kq18.1
  have K19 := K13.trans Kq18 (own_all1 (Or.inr (by omega)))
  have O19 := O13.keep Kq18 (own_all1 (by omega))
  have ltr18_0 := own_ltN' r18_0.lt
  refine OwnEnd.of (S' := T18.setTop (mkF m 23 #[.val (.ref b), .val (.int (2 : Int32)), .val (.int (3 : Int32)), .val (.ref t_1), .val (.int (2 : Int32))] [])) st18 ?_
  have V20 : Arv Z T18.heap t_1 kb_1 .byte (6 : Int32) [(.int (StrChars.lo8 c0)), (.int (StrChars.hi8 c0)), (.int (StrChars.lo8 c1)), (.int (StrChars.hi8 c1)), (.int (StrChars.lo8 c2)), (.int (StrChars.hi8 c2))] (.int (0 : Int32)) := by have q := r18_0; exact q
  refine OwnEnd.of (S' := T18.setTop (mkF m 33 #[.val (.ref b), .val (.int (3 : Int32)), .val (.int (3 : Int32)), .val (.ref t_1), .val (.int (3 : Int32))] [(.ref t_1)])) (fun _ kK => XS.iinc X18.here hx rfl (hb hby d14_23) rfl (l' := #[.val (.ref b), .val (.int (3 : Int32)), .val (.int (3 : Int32)), .val (.ref t_1), .val (.int (2 : Int32))]) rfl (XS.iinc X18.here hx rfl (hb hby d14_26) rfl (l' := #[.val (.ref b), .val (.int (3 : Int32)), .val (.int (3 : Int32)), .val (.ref t_1), .val (.int (3 : Int32))]) rfl (XS.goto X18.here hx rfl (pc0 := 29) (pc' := 8) rfl (hb hby d14_29) (by decide) (by decide) (XS.iload X18.here hx rfl (hb hby d14_8) rfl (XS.iloadN X18.here hx rfl (hb hby d14_10) rfl (XS.icmpYes X18.here hx rfl (pc0 := 11) (pc' := 32) rfl (hb hby d14_11) rfl (flt ((by decide : ¬ ((3 : Int32) < (3 : Int32))))).2.1 (by decide) (by decide) (XS.aloadN X18.here hx rfl (hb hby d14_32) rfl rfl kK))))))) ?_
  have V21 : Arv Z T18.heap t_1 kb_1 .byte (6 : Int32) (StrChars.Road.wideBytes [c0, c1, c2]) (.int (0 : Int32)) := by have q := V20; exact q
  refine OwnEnd.ret X18 (v := (some (.ref t_1))) (fun h => by rw [Bd.returns] at h; cases h) hlk (fun fs hr => retOut X18 hx Bd.returns rfl (Or.inr (Or.inr (Or.inr (Or.inr ⟨rfl, rfl, rfl⟩)))) (hb hby d14_33) hr) (by decide) (by decide) (Q := Qby3 Z b kC dC c0 c1 c2 h0 n0) rfl ?_
  exact ⟨t_1, kb_1, rfl, N18, K19, V21, (by omega)⟩

theorem own_efcv3 (m : MethodId) (b : Addr) (t : Addr) : entryFrame m #[(.ref b), (.int (0 : Int32)), (.ref t), (.int (0 : Int32)), (.int (3 : Int32))] 7 = mkF m 0 #[.val (.ref b), .val (.int (0 : Int32)), .val (.ref t), .val (.int (0 : Int32)), .val (.int (3 : Int32)), .unset, .unset] [] := by first | (simp [entryFrame, mkF, argsToLocals, Value.category]; done) | rfl
def Qcv3 (Z : State) (b : Addr) (t : Addr) (kC : ClassId) (dC : Value) (kb : ClassId) (c0 : Int32) (c1 : Int32) (c2 : Int32) (h0 : Heap) (n0 : Nat) (v : Option Value) (h : Heap) (L : List Loc) : Prop := v = some (.int (own_first [c0, c1, c2])) ∧ Fr n0 L ∧ Keep h0 h [t] ∧ (Arv Z h t kb .byte (3 : Int32) (own_cbs [c0, c1, c2]) (.int (0 : Int32)))
set_option maxRecDepth 65536 in
set_option maxHeartbeats 40000000 in
theorem rmcv3 (l : Launch) (Z : State) (a0 : Array Value) (G : OwnG Z a0) (ws : List Jvm.Cond) (b : Addr) (t : Addr) (kC : ClassId) (dC : Value) (kb : ClassId) (c0 : Int32) (c1 : Int32) (c2 : Int32) (h0 : Heap) (n0 : Nat) (O0 : Old Z n0 h0) (P0 : Arv Z h0 b kC .char (3 : Int32) [(.int c0), (.int c1), (.int c2)] dC) (P1 : Arv Z h0 t kb .byte (3 : Int32) [(.int (0 : Int32)), (.int (0 : Int32)), (.int (0 : Int32))] (.int (0 : Int32))) (P2 : n0 ≤ t) (P3 : b ≠ t) :
    MetFree l own_m15 (head1 (Jvm.Cond.code own_m15 jdk_52_method_21_code 7 (some .int) :: ws) ({ frames := 0, cells := 0, slots := 0, locals := 0 } : Room)) (fun a U => a = #[(.ref b), (.int (0 : Int32)), (.ref t), (.int (0 : Int32)), (.int (3 : Int32))] ∧ Z.Warmed39 U.vm ∧ U.heap = h0) (fun _ _ _ _ _ => True) (fun _ U o U' => ∃ v L, o = .returned v ∧ Qcv3 Z b t kC dC kb c0 c1 c2 h0 n0 v U'.heap L ∧ FrameEnd U o U' L ({ frames := 0, cells := 0, slots := 0, locals := 0 } : Room).cells ({ frames := 0, cells := 0, slots := 0, locals := 0 } : Room).slots) := by
  refine MetFree.of_bodySF (plainFor_of_name pn_3) hisR ?_
  intro p e s m args below meth cD s₁ Bd hml0 hP hK
  obtain ⟨rfl, hZ, hh⟩ := hP
  have hw := G.1
  have hx := Bd.exec
  have hby := Bd.bytes
  have hml : cD.maxLocals = 7 := hml0
  have hown : s.vm.findClass "java/lang/StringUTF16" = some m.cls := findClass_of_methodNamed Bd.named
  have hnm := (name_of_methodNamed Bd.named Bd.method).1
  have hlk := Bd.notSynchronized
  have X0 : Stand p l e ({ frames := 0, cells := 0, slots := 0, locals := 0 } : Room) s m #[(.ref b), (.int (0 : Int32)), (.ref t), (.int (0 : Int32)), (.int (3 : Int32))] below meth cD s₁ [] 0 0 := Stand.of_body Bd
  have e0 : s₁.heap = h0 := by rw [← hh, Bd.state]; rfl
  have lt0 := own_ltN' P0.lt
  have lt1 := own_ltN' P1.lt
  have nP3 := own_neN P3
  have K0 : Keep h0 h0 [t] := Keep.refl h0 _
  have Z0 := own_old_le O0
  have N0 := Fr.nil n0
  refine OwnEnd.start (g' := (mkF m 0 #[.val (.ref b), .val (.int (0 : Int32)), .val (.ref t), .val (.int (0 : Int32)), .val (.int (3 : Int32)), .unset, .unset] [])) (own_efcv3 m b t) ?_
  refine OwnEnd.of (S' := s₁.setTop (mkF m 12 #[.val (.ref b), .val (.int (0 : Int32)), .val (.ref t), .val (.int (0 : Int32)), .val (.int (3 : Int32)), .val (.int (0 : Int32)), .unset] [(.int (0 : Int32)), (.ref b)])) (fun _ kK => XS.iconst X0.here hx rfl (hb hby d15_0) (XS.istore X0.here hx rfl (hb hby d15_1) rfl (l' := #[.val (.ref b), .val (.int (0 : Int32)), .val (.ref t), .val (.int (0 : Int32)), .val (.int (3 : Int32)), .val (.int (0 : Int32)), .unset]) rfl (XS.iload X0.here hx rfl (hb hby d15_3) rfl (XS.iload X0.here hx rfl (hb hby d15_5) rfl (XS.icmpNo X0.here hx rfl (hb hby d15_7) rfl (tlt ((by decide : (0 : Int32) < (3 : Int32)))).2.1 (XS.aloadN X0.here hx rfl (hb hby d15_10) rfl rfl (XS.iloadN X0.here hx rfl (hb hby d15_11) rfl kK))))))) ?_
  obtain ⟨cl1, Ar1, q1, S1, N1', H1, G1⟩ := id P0
  have hin2 : ¬ ((0 : Int32) < 0 ∨ cl1.slots.size ≤ ((0 : Int32)).toNatClampNeg) := inb_of S1 ⟨by decide, by decide⟩
  refine OwnEnd.of (S' := s₁.setTop (mkF m 13 #[.val (.ref b), .val (.int (0 : Int32)), .val (.ref t), .val (.int (0 : Int32)), .val (.int (3 : Int32)), .val (.int (0 : Int32)), .unset] [(.int c0)])) (fun _ kK => X0.caload hx (j := (0 : Int32)) (v := (.int c0)) (by rw [e0]; exact Ar1.1) (State.isArrayOf_alike hZ.alike Ar1.2.1) Ar1.2.2 hin2 (Has.at H1 hin2 (rfl)) (g := (mkF m 12 #[.val (.ref b), .val (.int (0 : Int32)), .val (.ref t), .val (.int (0 : Int32)), .val (.int (3 : Int32)), .val (.int (0 : Int32)), .unset] [(.int (0 : Int32)), (.ref b)])) rfl rfl (hb hby d15_12) _ kK) ?_
  refine OwnEnd.of (S' := s₁.setTop (mkF m 20 #[.val (.ref b), .val (.int (0 : Int32)), .val (.ref t), .val (.int (0 : Int32)), .val (.int (3 : Int32)), .val (.int (0 : Int32)), .val (.int c0)] [(.int (255 : Int32)), (.int c0)])) (fun _ kK => XS.istore X0.here hx rfl (hb hby d15_13) rfl (l' := #[.val (.ref b), .val (.int (0 : Int32)), .val (.ref t), .val (.int (0 : Int32)), .val (.int (3 : Int32)), .val (.int (0 : Int32)), .val (.int c0)]) rfl (XS.iload X0.here hx rfl (hb hby d15_15) rfl (XS.sipush X0.here hx rfl (hb hby d15_17) kK))) ?_
  rcases Decidable.em ((255 : Int32) < c0) with hc3 | hc3
  · refine OwnEnd.of (S' := s₁.setTop (mkF m 25 #[.val (.ref b), .val (.int (0 : Int32)), .val (.ref t), .val (.int (0 : Int32)), .val (.int (3 : Int32)), .val (.int (0 : Int32)), .val (.int c0)] [(.int (0 : Int32))])) (fun _ kK => XS.icmpNo X0.here hx rfl (hb hby d15_20) rfl (tlt (hc3)).2.2.2 (XS.iload X0.here hx rfl (hb hby d15_23) rfl kK)) ?_
    have V4 : Arv Z h0 t kb .byte (3 : Int32) (own_cbs [c0, c1, c2]) (.int (0 : Int32)) := by have q := P1; simpa [own_cbs, hc3] using q
    refine OwnEnd.ret X0 (v := (some (.int (0 : Int32)))) (fun h => by rw [Bd.returns] at h; cases h) hlk (fun fs hr => retOut X0 hx Bd.returns rfl (Or.inl ⟨rfl, Or.inl rfl, _, rfl⟩) (hb hby d15_25) hr) (by decide) (by decide) (Q := Qcv3 Z b t kC dC kb c0 c1 c2 h0 n0) e0 ?_
    exact ⟨(by simp [own_first, hc3]), N0, K0, V4⟩
  · refine OwnEnd.of (S' := s₁.setTop (mkF m 31 #[.val (.ref b), .val (.int (0 : Int32)), .val (.ref t), .val (.int (0 : Int32)), .val (.int (3 : Int32)), .val (.int (0 : Int32)), .val (.int c0)] [(.int (nar .byte c0)), (.int (0 : Int32)), (.ref t)])) (fun _ kK => XS.icmpYes X0.here hx rfl (pc0 := 20) (pc' := 26) rfl (hb hby d15_20) rfl (flt (hc3)).2.2.2 (by decide) (by decide) (XS.aloadN X0.here hx rfl (hb hby d15_26) rfl rfl (XS.iloadN X0.here hx rfl (hb hby d15_27) rfl (XS.iload X0.here hx rfl (hb hby d15_28) rfl (XS.i2b X0.here hx rfl (hb hby d15_30) rfl kK))))) ?_
    obtain ⟨cl5, Ar5, q5, S5, N5', H5, G5⟩ := id P1
    have hin6 : ¬ ((0 : Int32) < 0 ∨ cl5.slots.size ≤ ((0 : Int32)).toNatClampNeg) := inb_of S5 ⟨by decide, by decide⟩
    obtain ⟨T6, h6, X6, e6, W6, st6⟩ := stB X0 hx hZ e0 Ar5 (j := (0 : Int32)) hin6 (g := (mkF m 31 #[.val (.ref b), .val (.int (0 : Int32)), .val (.ref t), .val (.int (0 : Int32)), .val (.int (3 : Int32)), .val (.int (0 : Int32)), .val (.int c0)] [(.int (nar .byte c0)), (.int (0 : Int32)), (.ref t)])) rfl rfl (hb hby d15_31)
    have N6 := Fr.snoc X6 N0 (by omega)
    have sz7 := own_wr_le W6
    have K7 := K0.wr W6 (Or.inl (by simp))
    have O7 := O0.wr W6 (by omega)
    have V6 : Arv Z h6 t kb .byte (3 : Int32) [(.int (nar .byte (nar .byte c0))), (.int (0 : Int32)), (.int (0 : Int32))] (.int (0 : Int32)) := Arv.set Ar5 q5 S5 N5' H5 G5 (fits_nar_byte _) W6 0 rfl (Nat.le_of_ble_eq_true rfl)
    refine OwnEnd.of (S' := T6.setTop (mkF m 32 #[.val (.ref b), .val (.int (0 : Int32)), .val (.ref t), .val (.int (0 : Int32)), .val (.int (3 : Int32)), .val (.int (0 : Int32)), .val (.int c0)] [])) st6 ?_
    refine OwnEnd.of (S' := T6.setTop (mkF m 12 #[.val (.ref b), .val (.int (1 : Int32)), .val (.ref t), .val (.int (1 : Int32)), .val (.int (3 : Int32)), .val (.int (1 : Int32)), .val (.int c0)] [(.int (1 : Int32)), (.ref b)])) (fun _ kK => XS.iinc X6.here hx rfl (hb hby d15_32) rfl (l' := #[.val (.ref b), .val (.int (1 : Int32)), .val (.ref t), .val (.int (0 : Int32)), .val (.int (3 : Int32)), .val (.int (0 : Int32)), .val (.int c0)]) rfl (XS.iinc X6.here hx rfl (hb hby d15_35) rfl (l' := #[.val (.ref b), .val (.int (1 : Int32)), .val (.ref t), .val (.int (1 : Int32)), .val (.int (3 : Int32)), .val (.int (0 : Int32)), .val (.int c0)]) rfl (XS.iinc X6.here hx rfl (hb hby d15_38) rfl (l' := #[.val (.ref b), .val (.int (1 : Int32)), .val (.ref t), .val (.int (1 : Int32)), .val (.int (3 : Int32)), .val (.int (1 : Int32)), .val (.int c0)]) rfl (XS.goto X6.here hx rfl (pc0 := 41) (pc' := 3) rfl (hb hby d15_41) (by decide) (by decide) (XS.iload X6.here hx rfl (hb hby d15_3) rfl (XS.iload X6.here hx rfl (hb hby d15_5) rfl (XS.icmpNo X6.here hx rfl (hb hby d15_7) rfl (tlt ((by decide : (1 : Int32) < (3 : Int32)))).2.1 (XS.aloadN X6.here hx rfl (hb hby d15_10) rfl rfl (XS.iloadN X6.here hx rfl (hb hby d15_11) rfl kK))))))))) ?_
    have f8 : Arv Z h6 b kC .char (3 : Int32) [(.int c0), (.int c1), (.int c2)] dC := (P0.other W6 (own_ne (by omega)))
    obtain ⟨cl9, Ar9, q9, S9, N9', H9, G9⟩ := id f8
    have hin10 : ¬ ((1 : Int32) < 0 ∨ cl9.slots.size ≤ ((1 : Int32)).toNatClampNeg) := inb_of S9 ⟨by decide, by decide⟩
    refine OwnEnd.of (S' := T6.setTop (mkF m 13 #[.val (.ref b), .val (.int (1 : Int32)), .val (.ref t), .val (.int (1 : Int32)), .val (.int (3 : Int32)), .val (.int (1 : Int32)), .val (.int c0)] [(.int c1)])) (fun _ kK => X6.caload hx (j := (1 : Int32)) (v := (.int c1)) (by rw [e6]; exact Ar9.1) (State.isArrayOf_alike hZ.alike Ar9.2.1) Ar9.2.2 hin10 (Has.at H9 hin10 (rfl)) (g := (mkF m 12 #[.val (.ref b), .val (.int (1 : Int32)), .val (.ref t), .val (.int (1 : Int32)), .val (.int (3 : Int32)), .val (.int (1 : Int32)), .val (.int c0)] [(.int (1 : Int32)), (.ref b)])) rfl rfl (hb hby d15_12) _ kK) ?_
    refine OwnEnd.of (S' := T6.setTop (mkF m 20 #[.val (.ref b), .val (.int (1 : Int32)), .val (.ref t), .val (.int (1 : Int32)), .val (.int (3 : Int32)), .val (.int (1 : Int32)), .val (.int c1)] [(.int (255 : Int32)), (.int c1)])) (fun _ kK => XS.istore X6.here hx rfl (hb hby d15_13) rfl (l' := #[.val (.ref b), .val (.int (1 : Int32)), .val (.ref t), .val (.int (1 : Int32)), .val (.int (3 : Int32)), .val (.int (1 : Int32)), .val (.int c1)]) rfl (XS.iload X6.here hx rfl (hb hby d15_15) rfl (XS.sipush X6.here hx rfl (hb hby d15_17) kK))) ?_
    rcases Decidable.em ((255 : Int32) < c1) with hc11 | hc11
    · refine OwnEnd.of (S' := T6.setTop (mkF m 25 #[.val (.ref b), .val (.int (1 : Int32)), .val (.ref t), .val (.int (1 : Int32)), .val (.int (3 : Int32)), .val (.int (1 : Int32)), .val (.int c1)] [(.int (1 : Int32))])) (fun _ kK => XS.icmpNo X6.here hx rfl (hb hby d15_20) rfl (tlt (hc11)).2.2.2 (XS.iload X6.here hx rfl (hb hby d15_23) rfl kK)) ?_
      have V12 : Arv Z h6 t kb .byte (3 : Int32) (own_cbs [c0, c1, c2]) (.int (0 : Int32)) := by have q := V6; simpa [own_cbs, hc3, hc11] using q
      refine OwnEnd.ret X6 (v := (some (.int (1 : Int32)))) (fun h => by rw [Bd.returns] at h; cases h) hlk (fun fs hr => retOut X6 hx Bd.returns rfl (Or.inl ⟨rfl, Or.inl rfl, _, rfl⟩) (hb hby d15_25) hr) (by decide) (by decide) (Q := Qcv3 Z b t kC dC kb c0 c1 c2 h0 n0) e6 ?_
      exact ⟨(by simp [own_first, hc3, hc11]), N6, K7, V12⟩
    · refine OwnEnd.of (S' := T6.setTop (mkF m 31 #[.val (.ref b), .val (.int (1 : Int32)), .val (.ref t), .val (.int (1 : Int32)), .val (.int (3 : Int32)), .val (.int (1 : Int32)), .val (.int c1)] [(.int (nar .byte c1)), (.int (1 : Int32)), (.ref t)])) (fun _ kK => XS.icmpYes X6.here hx rfl (pc0 := 20) (pc' := 26) rfl (hb hby d15_20) rfl (flt (hc11)).2.2.2 (by decide) (by decide) (XS.aloadN X6.here hx rfl (hb hby d15_26) rfl rfl (XS.iloadN X6.here hx rfl (hb hby d15_27) rfl (XS.iload X6.here hx rfl (hb hby d15_28) rfl (XS.i2b X6.here hx rfl (hb hby d15_30) rfl kK))))) ?_
      obtain ⟨cl13, Ar13, q13, S13, N13', H13, G13⟩ := id V6
      have hin14 : ¬ ((1 : Int32) < 0 ∨ cl13.slots.size ≤ ((1 : Int32)).toNatClampNeg) := inb_of S13 ⟨by decide, by decide⟩
      obtain ⟨T14, h14, X14, e14, W14, st14⟩ := stB X6 hx hZ e6 Ar13 (j := (1 : Int32)) hin14 (g := (mkF m 31 #[.val (.ref b), .val (.int (1 : Int32)), .val (.ref t), .val (.int (1 : Int32)), .val (.int (3 : Int32)), .val (.int (1 : Int32)), .val (.int c1)] [(.int (nar .byte c1)), (.int (1 : Int32)), (.ref t)])) rfl rfl (hb hby d15_31)
      have N14 := Fr.snoc X14 N6 (by omega)
      have sz15 := own_wr_le W14
      have K15 := K7.wr W14 (Or.inl (by simp))
      have O15 := O7.wr W14 (by omega)
      have V14 : Arv Z h14 t kb .byte (3 : Int32) [(.int (nar .byte (nar .byte c0))), (.int (nar .byte (nar .byte c1))), (.int (0 : Int32))] (.int (0 : Int32)) := Arv.set Ar13 q13 S13 N13' H13 G13 (fits_nar_byte _) W14 1 rfl (Nat.le_of_ble_eq_true rfl)
      refine OwnEnd.of (S' := T14.setTop (mkF m 32 #[.val (.ref b), .val (.int (1 : Int32)), .val (.ref t), .val (.int (1 : Int32)), .val (.int (3 : Int32)), .val (.int (1 : Int32)), .val (.int c1)] [])) st14 ?_
      refine OwnEnd.of (S' := T14.setTop (mkF m 12 #[.val (.ref b), .val (.int (2 : Int32)), .val (.ref t), .val (.int (2 : Int32)), .val (.int (3 : Int32)), .val (.int (2 : Int32)), .val (.int c1)] [(.int (2 : Int32)), (.ref b)])) (fun _ kK => XS.iinc X14.here hx rfl (hb hby d15_32) rfl (l' := #[.val (.ref b), .val (.int (2 : Int32)), .val (.ref t), .val (.int (1 : Int32)), .val (.int (3 : Int32)), .val (.int (1 : Int32)), .val (.int c1)]) rfl (XS.iinc X14.here hx rfl (hb hby d15_35) rfl (l' := #[.val (.ref b), .val (.int (2 : Int32)), .val (.ref t), .val (.int (2 : Int32)), .val (.int (3 : Int32)), .val (.int (1 : Int32)), .val (.int c1)]) rfl (XS.iinc X14.here hx rfl (hb hby d15_38) rfl (l' := #[.val (.ref b), .val (.int (2 : Int32)), .val (.ref t), .val (.int (2 : Int32)), .val (.int (3 : Int32)), .val (.int (2 : Int32)), .val (.int c1)]) rfl (XS.goto X14.here hx rfl (pc0 := 41) (pc' := 3) rfl (hb hby d15_41) (by decide) (by decide) (XS.iload X14.here hx rfl (hb hby d15_3) rfl (XS.iload X14.here hx rfl (hb hby d15_5) rfl (XS.icmpNo X14.here hx rfl (hb hby d15_7) rfl (tlt ((by decide : (2 : Int32) < (3 : Int32)))).2.1 (XS.aloadN X14.here hx rfl (hb hby d15_10) rfl rfl (XS.iloadN X14.here hx rfl (hb hby d15_11) rfl kK))))))))) ?_
      have f16 : Arv Z h14 b kC .char (3 : Int32) [(.int c0), (.int c1), (.int c2)] dC := (f8.other W14 (own_ne (by omega)))
      obtain ⟨cl17, Ar17, q17, S17, N17', H17, G17⟩ := id f16
      have hin18 : ¬ ((2 : Int32) < 0 ∨ cl17.slots.size ≤ ((2 : Int32)).toNatClampNeg) := inb_of S17 ⟨by decide, by decide⟩
      refine OwnEnd.of (S' := T14.setTop (mkF m 13 #[.val (.ref b), .val (.int (2 : Int32)), .val (.ref t), .val (.int (2 : Int32)), .val (.int (3 : Int32)), .val (.int (2 : Int32)), .val (.int c1)] [(.int c2)])) (fun _ kK => X14.caload hx (j := (2 : Int32)) (v := (.int c2)) (by rw [e14]; exact Ar17.1) (State.isArrayOf_alike hZ.alike Ar17.2.1) Ar17.2.2 hin18 (Has.at H17 hin18 (rfl)) (g := (mkF m 12 #[.val (.ref b), .val (.int (2 : Int32)), .val (.ref t), .val (.int (2 : Int32)), .val (.int (3 : Int32)), .val (.int (2 : Int32)), .val (.int c1)] [(.int (2 : Int32)), (.ref b)])) rfl rfl (hb hby d15_12) _ kK) ?_
      refine OwnEnd.of (S' := T14.setTop (mkF m 20 #[.val (.ref b), .val (.int (2 : Int32)), .val (.ref t), .val (.int (2 : Int32)), .val (.int (3 : Int32)), .val (.int (2 : Int32)), .val (.int c2)] [(.int (255 : Int32)), (.int c2)])) (fun _ kK => XS.istore X14.here hx rfl (hb hby d15_13) rfl (l' := #[.val (.ref b), .val (.int (2 : Int32)), .val (.ref t), .val (.int (2 : Int32)), .val (.int (3 : Int32)), .val (.int (2 : Int32)), .val (.int c2)]) rfl (XS.iload X14.here hx rfl (hb hby d15_15) rfl (XS.sipush X14.here hx rfl (hb hby d15_17) kK))) ?_
      rcases Decidable.em ((255 : Int32) < c2) with hc19 | hc19
      · refine OwnEnd.of (S' := T14.setTop (mkF m 25 #[.val (.ref b), .val (.int (2 : Int32)), .val (.ref t), .val (.int (2 : Int32)), .val (.int (3 : Int32)), .val (.int (2 : Int32)), .val (.int c2)] [(.int (2 : Int32))])) (fun _ kK => XS.icmpNo X14.here hx rfl (hb hby d15_20) rfl (tlt (hc19)).2.2.2 (XS.iload X14.here hx rfl (hb hby d15_23) rfl kK)) ?_
        have V20 : Arv Z h14 t kb .byte (3 : Int32) (own_cbs [c0, c1, c2]) (.int (0 : Int32)) := by have q := V14; simpa [own_cbs, hc3, hc11, hc19] using q
        refine OwnEnd.ret X14 (v := (some (.int (2 : Int32)))) (fun h => by rw [Bd.returns] at h; cases h) hlk (fun fs hr => retOut X14 hx Bd.returns rfl (Or.inl ⟨rfl, Or.inl rfl, _, rfl⟩) (hb hby d15_25) hr) (by decide) (by decide) (Q := Qcv3 Z b t kC dC kb c0 c1 c2 h0 n0) e14 ?_
        exact ⟨(by simp [own_first, hc3, hc11, hc19]), N14, K15, V20⟩
      · refine OwnEnd.of (S' := T14.setTop (mkF m 31 #[.val (.ref b), .val (.int (2 : Int32)), .val (.ref t), .val (.int (2 : Int32)), .val (.int (3 : Int32)), .val (.int (2 : Int32)), .val (.int c2)] [(.int (nar .byte c2)), (.int (2 : Int32)), (.ref t)])) (fun _ kK => XS.icmpYes X14.here hx rfl (pc0 := 20) (pc' := 26) rfl (hb hby d15_20) rfl (flt (hc19)).2.2.2 (by decide) (by decide) (XS.aloadN X14.here hx rfl (hb hby d15_26) rfl rfl (XS.iloadN X14.here hx rfl (hb hby d15_27) rfl (XS.iload X14.here hx rfl (hb hby d15_28) rfl (XS.i2b X14.here hx rfl (hb hby d15_30) rfl kK))))) ?_
        obtain ⟨cl21, Ar21, q21, S21, N21', H21, G21⟩ := id V14
        have hin22 : ¬ ((2 : Int32) < 0 ∨ cl21.slots.size ≤ ((2 : Int32)).toNatClampNeg) := inb_of S21 ⟨by decide, by decide⟩
        obtain ⟨T22, h22, X22, e22, W22, st22⟩ := stB X14 hx hZ e14 Ar21 (j := (2 : Int32)) hin22 (g := (mkF m 31 #[.val (.ref b), .val (.int (2 : Int32)), .val (.ref t), .val (.int (2 : Int32)), .val (.int (3 : Int32)), .val (.int (2 : Int32)), .val (.int c2)] [(.int (nar .byte c2)), (.int (2 : Int32)), (.ref t)])) rfl rfl (hb hby d15_31)
        have N22 := Fr.snoc X22 N14 (by omega)
        have sz23 := own_wr_le W22
        have K23 := K15.wr W22 (Or.inl (by simp))
        have O23 := O15.wr W22 (by omega)
        have V22 : Arv Z h22 t kb .byte (3 : Int32) [(.int (nar .byte (nar .byte c0))), (.int (nar .byte (nar .byte c1))), (.int (nar .byte (nar .byte c2)))] (.int (0 : Int32)) := Arv.set Ar21 q21 S21 N21' H21 G21 (fits_nar_byte _) W22 2 rfl (Nat.le_of_ble_eq_true rfl)
        refine OwnEnd.of (S' := T22.setTop (mkF m 32 #[.val (.ref b), .val (.int (2 : Int32)), .val (.ref t), .val (.int (2 : Int32)), .val (.int (3 : Int32)), .val (.int (2 : Int32)), .val (.int c2)] [])) st22 ?_
        refine OwnEnd.of (S' := T22.setTop (mkF m 46 #[.val (.ref b), .val (.int (3 : Int32)), .val (.ref t), .val (.int (3 : Int32)), .val (.int (3 : Int32)), .val (.int (3 : Int32)), .val (.int c2)] [(.int (3 : Int32))])) (fun _ kK => XS.iinc X22.here hx rfl (hb hby d15_32) rfl (l' := #[.val (.ref b), .val (.int (3 : Int32)), .val (.ref t), .val (.int (2 : Int32)), .val (.int (3 : Int32)), .val (.int (2 : Int32)), .val (.int c2)]) rfl (XS.iinc X22.here hx rfl (hb hby d15_35) rfl (l' := #[.val (.ref b), .val (.int (3 : Int32)), .val (.ref t), .val (.int (3 : Int32)), .val (.int (3 : Int32)), .val (.int (2 : Int32)), .val (.int c2)]) rfl (XS.iinc X22.here hx rfl (hb hby d15_38) rfl (l' := #[.val (.ref b), .val (.int (3 : Int32)), .val (.ref t), .val (.int (3 : Int32)), .val (.int (3 : Int32)), .val (.int (3 : Int32)), .val (.int c2)]) rfl (XS.goto X22.here hx rfl (pc0 := 41) (pc' := 3) rfl (hb hby d15_41) (by decide) (by decide) (XS.iload X22.here hx rfl (hb hby d15_3) rfl (XS.iload X22.here hx rfl (hb hby d15_5) rfl (XS.icmpYes X22.here hx rfl (pc0 := 7) (pc' := 44) rfl (hb hby d15_7) rfl (flt ((by decide : ¬ ((3 : Int32) < (3 : Int32))))).2.1 (by decide) (by decide) (XS.iload X22.here hx rfl (hb hby d15_44) rfl kK)))))))) ?_
        have V24 : Arv Z h22 t kb .byte (3 : Int32) (own_cbs [c0, c1, c2]) (.int (0 : Int32)) := by have q := V22; simpa [own_cbs, hc3, hc11, hc19] using q
        refine OwnEnd.ret X22 (v := (some (.int (3 : Int32)))) (fun h => by rw [Bd.returns] at h; cases h) hlk (fun fs hr => retOut X22 hx Bd.returns rfl (Or.inl ⟨rfl, Or.inl rfl, _, rfl⟩) (hb hby d15_46) hr) (by decide) (by decide) (Q := Qcv3 Z b t kC dC kb c0 c1 c2 h0 n0) e22 ?_
        exact ⟨(by simp [own_first, hc3, hc11, hc19]), N22, K23, V24⟩

theorem own_efcw3 (m : MethodId) (b : Addr) : entryFrame m #[(.ref b), (.int (0 : Int32)), (.int (3 : Int32))] 6 = mkF m 0 #[.val (.ref b), .val (.int (0 : Int32)), .val (.int (3 : Int32)), .unset, .unset, .unset] [] := by first | (simp [entryFrame, mkF, argsToLocals, Value.category]; done) | rfl
def Qcw3 (Z : State) (b : Addr) (kC : ClassId) (dC : Value) (c0 : Int32) (c1 : Int32) (c2 : Int32) (h0 : Heap) (n0 : Nat) (v : Option Value) (h : Heap) (L : List Loc) : Prop := ∃ (t : Addr) (kb : ClassId) (N : Int32) (vs : List Value) (cd : Int32), v = some (.ref t) ∧ Fr n0 L ∧ Keep h0 h [] ∧ (Arv Z h t kb .byte N vs (.int (0 : Int32))) ∧ (StrChars.Road.CodA [c0, c1, c2] cd N vs) ∧ (Array.size h0 ≤ t)
set_option maxRecDepth 65536 in
set_option maxHeartbeats 40000000 in
theorem rmcw3 (l : Launch) (Z : State) (a0 : Array Value) (G : OwnG Z a0) (ws : List Jvm.Cond) (b : Addr) (kC : ClassId) (dC : Value) (c0 : Int32) (c1 : Int32) (c2 : Int32) (h0 : Heap) (n0 : Nat) (O0 : Old Z n0 h0) (P0 : Arv Z h0 b kC .char (3 : Int32) [(.int c0), (.int c1), (.int c2)] dC) (P1 : ∀ c ∈ ([c0, c1, c2] : List Int32), ¬ c < (0 : Int32) ∧ ¬ (65535 : Int32) < c) :
    MetFree l own_m16 (head1 (Jvm.Cond.code own_m16 jdk_52_method_16_code 6 (some (.array .byte)) :: ws) ({ frames := 3, cells := 2, slots := 9, locals := 40 } : Room)) (fun a U => a = #[(.ref b), (.int (0 : Int32)), (.int (3 : Int32))] ∧ Z.Warmed39 U.vm ∧ U.heap = h0) (fun _ _ _ _ _ => True) (fun _ U o U' => ∃ v L, o = .returned v ∧ Qcw3 Z b kC dC c0 c1 c2 h0 n0 v U'.heap L ∧ FrameEnd U o U' L ({ frames := 3, cells := 2, slots := 9, locals := 40 } : Room).cells ({ frames := 3, cells := 2, slots := 9, locals := 40 } : Room).slots) := by
  refine MetFree.of_bodySF (plainFor_of_name pn_3) hisR ?_
  intro p e s m args below meth cD s₁ Bd hml0 hP hK
  obtain ⟨rfl, hZ, hh⟩ := hP
  have hw := G.1
  have hx := Bd.exec
  have hby := Bd.bytes
  have hml : cD.maxLocals = 6 := hml0
  have hown : s.vm.findClass "java/lang/StringUTF16" = some m.cls := findClass_of_methodNamed Bd.named
  have hnm := (name_of_methodNamed Bd.named Bd.method).1
  have hlk := Bd.notSynchronized
  have X0 : Stand p l e ({ frames := 3, cells := 2, slots := 9, locals := 40 } : Room) s m #[(.ref b), (.int (0 : Int32)), (.int (3 : Int32))] below meth cD s₁ [] 0 0 := Stand.of_body Bd
  have e0 : s₁.heap = h0 := by rw [← hh, Bd.state]; rfl
  have lt0 := own_ltN' P0.lt
  have K0 : Keep h0 h0 [] := Keep.refl h0 _
  have Z0 := own_old_le O0
  have N0 := Fr.nil n0
  refine OwnEnd.start (g' := (mkF m 0 #[.val (.ref b), .val (.int (0 : Int32)), .val (.int (3 : Int32)), .unset, .unset, .unset] [])) (own_efcw3 m b) ?_
  refine OwnEnd.of (S' := s₁.setTop (mkF m 1 #[.val (.ref b), .val (.int (0 : Int32)), .val (.int (3 : Int32)), .unset, .unset, .unset] [(.int (3 : Int32))])) (fun _ kK => XS.iloadN X0.here hx rfl (hb hby d16_0) rfl kK) ?_
  obtain ⟨T1, h1, k1, X1, e1, E1, A1, st1⟩ := newP X0 hx hZ (own_w G 29 rfl) e0 (g := (mkF m 1 #[.val (.ref b), .val (.int (0 : Int32)), .val (.int (3 : Int32)), .unset, .unset, .unset] [(.int (3 : Int32))])) rfl (hb hby d16_1) rfl (by decide) (cap := 3) (by decide) (by decide) (by decide) (by decide)
  obtain ⟨b1, g1⟩ : ∃ z, z = Array.size h0 := ⟨_, rfl⟩
  rw [← g1] at A1 st1
  have lt_b1 := own_ltN' A1.lt
  have sz2 := E1.1
  have K2 := K0.ext E1
  have O2 := O0.ext E1
  have V1 : Arv Z h1 b1 k1 .byte (3 : Int32) [(.int (0 : Int32)), (.int (0 : Int32)), (.int (0 : Int32))] (.int (0 : Int32)) := (Arv.new A1 (by decide)).pad (pad_rep [] (.int (0 : Int32)) 3)
  refine OwnEnd.of (S' := T1.setTop (mkF m 3 #[.val (.ref b), .val (.int (0 : Int32)), .val (.int (3 : Int32)), .unset, .unset, .unset] [(.ref b1)])) st1 ?_
  refine OwnEnd.of (S' := T1.setTop (mkF m 9 #[.val (.ref b), .val (.int (0 : Int32)), .val (.int (3 : Int32)), .val (.ref b1), .unset, .unset] [(.int (3 : Int32)), (.int (0 : Int32)), (.ref b1), (.int (0 : Int32)), (.ref b)])) (fun _ kK => XS.astoreN X1.here hx rfl (hb hby d16_3) rfl rfl (l' := #[.val (.ref b), .val (.int (0 : Int32)), .val (.int (3 : Int32)), .val (.ref b1), .unset, .unset]) rfl (XS.aloadN X1.here hx rfl (hb hby d16_4) rfl rfl (XS.iloadN X1.here hx rfl (hb hby d16_5) rfl (XS.aloadN X1.here hx rfl (hb hby d16_6) rfl rfl (XS.iconst X1.here hx rfl (hb hby d16_7) (XS.iloadN X1.here hx rfl (hb hby d16_8) rfl kK)))))) ?_
  have f3 : Arv Z h1 b kC .char (3 : Int32) [(.int c0), (.int c1), (.int c2)] dC := (P0.ext E1)
  obtain ⟨_, _, ⟨T4, L4, k4, n4⟩, -, X4, ⟨Lc4, hQ4, l4, y4, z4⟩, st4⟩ := Jvm.LawKit.callS X1 hx (y := own_m15) hown (mvT hZ (own_w G 30 rfl)) (mvT hZ (own_w G 31 rfl)) (mvT hZ (own_w G 27 rfl)) (mvT hZ (own_w G 32 rfl)) (by decide) (backOf (W := 0) (rmcv3 l Z a0 G [] b b1 kC dC k1 c0 c1 c2 h1 n0 O2 f3 V1 (by omega) (own_ne (by omega) : b ≠ b1)) hZ (own_w G 32 rfl) (own_w G 27 rfl) (by decide) (by decide)) (g := (mkF m 9 #[.val (.ref b), .val (.int (0 : Int32)), .val (.int (3 : Int32)), .val (.ref b1), .unset, .unset] [(.int (3 : Int32)), (.int (0 : Int32)), (.ref b1), (.int (0 : Int32)), (.ref b)])) rfl (by rw [hml]; rfl) (argsL := [(.ref b), (.int (0 : Int32)), (.ref b1), (.int (0 : Int32)), (.int (3 : Int32))]) (rest := []) (lenOf pd_10 rfl) rfl (by show 2 * 0 + _ ≤ _; exact Nat.le_of_eq rfl) (hb hby d16_9) (fun _ _ => ⟨rfl, e1, (by decide : 1 + 0 ≤ _), (by decide : 3 + 0 ≤ _)⟩)
  dsimp only [Pt.U, Pt.locs, Pt.cells, Pt.slots] at X4 l4 y4 z4 st4 hQ4
  subst l4 y4 z4
  obtain ⟨rfl, N4q, Kq4, r4_0⟩ := hQ4
  have N4 := Fr.app N0 N4q
  have sz5 := Kq4.1
  have K5 := K2.trans Kq4 (own_all1 (Or.inr (by omega)))
  have O5 := O2.keep Kq4 (own_all1 (by omega))
  have ltr4_0 := own_ltN' r4_0.lt
  refine OwnEnd.of (S' := T4.setTop (mkF m 12 #[.val (.ref b), .val (.int (0 : Int32)), .val (.int (3 : Int32)), .val (.ref b1), .unset, .unset] [(.int (own_first [c0, c1, c2]))])) st4 ?_
  rcases own_first3 c0 c1 c2 with hr | hr | hr | hr
  · rw [hr.1]
    refine OwnEnd.of (S' := T4.setTop (mkF m 23 #[.val (.ref b), .val (.int (0 : Int32)), .val (.int (3 : Int32)), .val (.ref b1), .val (.int (0 : Int32)), .unset] [(.int (3 : Int32)), (.int (0 : Int32)), (.ref b)])) (fun _ kK => XS.istore X4.here hx rfl (hb hby d16_12) rfl (l' := #[.val (.ref b), .val (.int (0 : Int32)), .val (.int (3 : Int32)), .val (.ref b1), .val (.int (0 : Int32)), .unset]) rfl (XS.iload X4.here hx rfl (hb hby d16_14) rfl (XS.iloadN X4.here hx rfl (hb hby d16_16) rfl (XS.icmpNo X4.here hx rfl (hb hby d16_17) rfl (feq ((by decide : ¬ ((0 : Int32) = (3 : Int32))))).1 (XS.aloadN X4.here hx rfl (hb hby d16_20) rfl rfl (XS.iloadN X4.here hx rfl (hb hby d16_21) rfl (XS.iloadN X4.here hx rfl (hb hby d16_22) rfl kK))))))) ?_
    have f6 : Arv Z T4.heap b kC .char (3 : Int32) [(.int c0), (.int c1), (.int c2)] dC := (f3.keep Kq4 (own_nin1 (own_ne (by omega))))
    obtain ⟨_, _, ⟨T7, L7, k7, n7⟩, -, X7, ⟨Lc7, hQ7, l7, y7, z7⟩, st7⟩ := Jvm.LawKit.callS X4 hx (y := own_m14) hown (mvT hZ (own_w G 115 rfl)) (mvT hZ (own_w G 116 rfl)) (mvT hZ (own_w G 27 rfl)) (mvT hZ (own_w G 117 rfl)) (by decide) (backOf (W := 0) (rmby3 l Z a0 G [] b kC dC c0 c1 c2 T4.heap n0 O5 f6) hZ (own_w G 117 rfl) (own_w G 27 rfl) (by decide) (by decide)) (g := (mkF m 23 #[.val (.ref b), .val (.int (0 : Int32)), .val (.int (3 : Int32)), .val (.ref b1), .val (.int (0 : Int32)), .unset] [(.int (3 : Int32)), (.int (0 : Int32)), (.ref b)])) rfl (by rw [hml]; rfl) (argsL := [(.ref b), (.int (0 : Int32)), (.int (3 : Int32))]) (rest := []) (lenOf pd_11 rfl) rfl (by show 2 * 0 + _ ≤ _; exact Nat.le_of_eq rfl) (hb hby d16_23) (fun _ _ => ⟨rfl, rfl, (by decide : 1 + 1 ≤ _), (by decide : 3 + 6 ≤ _)⟩)
    dsimp only [Pt.U, Pt.locs, Pt.cells, Pt.slots] at X7 l7 y7 z7 st7 hQ7
    subst l7 y7 z7
    obtain ⟨t_7, kb_7, rfl, N7q, Kq7, r7_0, r7_1⟩ := hQ7
    have N7 := Fr.app N4 N7q
    have sz8 := Kq7.1
    have K8 := K5.trans Kq7 (own_all0 )
    have O8 := O5.keep Kq7 (own_all0 )
    have ltr7_0 := own_ltN' r7_0.lt
    refine OwnEnd.of (S' := T7.setTop (mkF m 26 #[.val (.ref b), .val (.int (0 : Int32)), .val (.int (3 : Int32)), .val (.ref b1), .val (.int (0 : Int32)), .unset] [(.ref t_7)])) st7 ?_
    refine OwnEnd.of (S' := T7.setTop (mkF m 32 #[.val (.ref b), .val (.int (0 : Int32)), .val (.int (3 : Int32)), .val (.ref b1), .val (.int (0 : Int32)), .val (.ref t_7)] [(.int (0 : Int32)), (.ref t_7)])) (fun _ kK => XS.astore X7.here hx rfl (hb hby d16_26) rfl rfl (l' := #[.val (.ref b), .val (.int (0 : Int32)), .val (.int (3 : Int32)), .val (.ref b1), .val (.int (0 : Int32)), .val (.ref t_7)]) rfl (XS.aload X7.here hx rfl (hb hby d16_28) rfl rfl (XS.iload X7.here hx rfl (hb hby d16_30) rfl kK))) ?_
    obtain ⟨_, _, ⟨T9, L9, k9, n9⟩, -, X9, ⟨Lc9, hQ9, l9, y9, z9⟩, st9⟩ := Jvm.LawKit.callS X7 hx (y := own_m8) hown (mvT hZ (own_w G 131 rfl)) (mvT hZ (own_w G 132 rfl)) (mvT hZ (own_w G 27 rfl)) (mvT hZ (own_w G 133 rfl)) (by decide) (backOf (W := 0) (rmgc l Z a0 G [] t_7 kb_7 (6 : Int32) (StrChars.Road.wideBytes [c0, c1, c2]) (.int (0 : Int32)) (0 : Int32) (0 : Int32) c0 T7.heap n0 O8 r7_0 (by decide : (0 : Int32) <<< ((1 : Int32) &&& 31) = (0 : Int32)) (by decide : ¬ (0 : Int32) < (0 : Int32)) (by decide : (0 : Int32) < (6 : Int32)) (by decide : ¬ ((0 : Int32) + (1 : Int32)) < (0 : Int32)) (by decide : ((0 : Int32) + (1 : Int32)) < (6 : Int32)) (by rfl : (StrChars.Road.wideBytes [c0, c1, c2]).getD (0 : Int32).toNatClampNeg (.int (0 : Int32)) = (.int (StrChars.lo8 c0))) (by rfl : (StrChars.Road.wideBytes [c0, c1, c2]).getD ((0 : Int32) + (1 : Int32)).toNatClampNeg (.int (0 : Int32)) = (.int (StrChars.hi8 c0))) (P1 c0 (by simp))) hZ (own_w G 133 rfl) (own_w G 27 rfl) (by decide) (by decide)) (g := (mkF m 32 #[.val (.ref b), .val (.int (0 : Int32)), .val (.int (3 : Int32)), .val (.ref b1), .val (.int (0 : Int32)), .val (.ref t_7)] [(.int (0 : Int32)), (.ref t_7)])) rfl (by rw [hml]; rfl) (argsL := [(.ref t_7), (.int (0 : Int32))]) (rest := []) (lenOf pd_5 rfl) rfl (by show 2 * 0 + _ ≤ _; exact Nat.le_of_eq rfl) (hb hby d16_32) (fun _ _ => ⟨rfl, rfl, (by decide : 2 + 0 ≤ _), (by decide : 9 + 0 ≤ _)⟩)
    dsimp only [Pt.U, Pt.locs, Pt.cells, Pt.slots] at X9 l9 y9 z9 st9 hQ9
    subst l9 y9 z9
    obtain ⟨rfl, N9q, eh9⟩ := hQ9
    have N9 := Fr.app N7 N9q
    refine OwnEnd.of (S' := T9.setTop (mkF m 35 #[.val (.ref b), .val (.int (0 : Int32)), .val (.int (3 : Int32)), .val (.ref b1), .val (.int (0 : Int32)), .val (.ref t_7)] [(.int c0)])) st9 ?_
    refine OwnEnd.of (S' := T9.setTop (mkF m 56 #[.val (.ref b), .val (.int (0 : Int32)), .val (.int (3 : Int32)), .val (.ref b1), .val (.int (0 : Int32)), .val (.ref t_7)] [(.ref t_7)])) (fun _ kK => XS.sipush X9.here hx rfl (hb hby d16_35) (XS.icmpYes X9.here hx rfl (pc0 := 38) (pc' := 54) rfl (hb hby d16_38) rfl (tlt (hr.2)).2.2.1 (by decide) (by decide) (XS.aload X9.here hx rfl (hb hby d16_54) rfl rfl kK))) ?_
    refine OwnEnd.ret X9 (v := (some (.ref t_7))) (fun h => by rw [Bd.returns] at h; cases h) hlk (fun fs hr => retOut X9 hx Bd.returns rfl (Or.inr (Or.inr (Or.inr (Or.inr ⟨rfl, rfl, rfl⟩)))) (hb hby d16_56) hr) (by decide) (by decide) (Q := Qcw3 Z b kC dC c0 c1 c2 h0 n0) eh9 ?_
    exact ⟨t_7, kb_7, (6 : Int32), (StrChars.Road.wideBytes [c0, c1, c2]), (1 : Int32), rfl, N9, K8, r7_0, (Or.inr ⟨rfl, rfl, rfl, c0, by simp, hr.2⟩), (by omega)⟩
  · rw [hr.1]
    refine OwnEnd.of (S' := T4.setTop (mkF m 23 #[.val (.ref b), .val (.int (0 : Int32)), .val (.int (3 : Int32)), .val (.ref b1), .val (.int (1 : Int32)), .unset] [(.int (3 : Int32)), (.int (0 : Int32)), (.ref b)])) (fun _ kK => XS.istore X4.here hx rfl (hb hby d16_12) rfl (l' := #[.val (.ref b), .val (.int (0 : Int32)), .val (.int (3 : Int32)), .val (.ref b1), .val (.int (1 : Int32)), .unset]) rfl (XS.iload X4.here hx rfl (hb hby d16_14) rfl (XS.iloadN X4.here hx rfl (hb hby d16_16) rfl (XS.icmpNo X4.here hx rfl (hb hby d16_17) rfl (feq ((by decide : ¬ ((1 : Int32) = (3 : Int32))))).1 (XS.aloadN X4.here hx rfl (hb hby d16_20) rfl rfl (XS.iloadN X4.here hx rfl (hb hby d16_21) rfl (XS.iloadN X4.here hx rfl (hb hby d16_22) rfl kK))))))) ?_
    have f10 : Arv Z T4.heap b kC .char (3 : Int32) [(.int c0), (.int c1), (.int c2)] dC := (f3.keep Kq4 (own_nin1 (own_ne (by omega))))
    obtain ⟨_, _, ⟨T11, L11, k11, n11⟩, -, X11, ⟨Lc11, hQ11, l11, y11, z11⟩, st11⟩ := Jvm.LawKit.callS X4 hx (y := own_m14) hown (mvT hZ (own_w G 115 rfl)) (mvT hZ (own_w G 116 rfl)) (mvT hZ (own_w G 27 rfl)) (mvT hZ (own_w G 117 rfl)) (by decide) (backOf (W := 0) (rmby3 l Z a0 G [] b kC dC c0 c1 c2 T4.heap n0 O5 f10) hZ (own_w G 117 rfl) (own_w G 27 rfl) (by decide) (by decide)) (g := (mkF m 23 #[.val (.ref b), .val (.int (0 : Int32)), .val (.int (3 : Int32)), .val (.ref b1), .val (.int (1 : Int32)), .unset] [(.int (3 : Int32)), (.int (0 : Int32)), (.ref b)])) rfl (by rw [hml]; rfl) (argsL := [(.ref b), (.int (0 : Int32)), (.int (3 : Int32))]) (rest := []) (lenOf pd_11 rfl) rfl (by show 2 * 0 + _ ≤ _; exact Nat.le_of_eq rfl) (hb hby d16_23) (fun _ _ => ⟨rfl, rfl, (by decide : 1 + 1 ≤ _), (by decide : 3 + 6 ≤ _)⟩)
    dsimp only [Pt.U, Pt.locs, Pt.cells, Pt.slots] at X11 l11 y11 z11 st11 hQ11
    subst l11 y11 z11
    obtain ⟨t_11, kb_11, rfl, N11q, Kq11, r11_0, r11_1⟩ := hQ11
    have N11 := Fr.app N4 N11q
    have sz12 := Kq11.1
    have K12 := K5.trans Kq11 (own_all0 )
    have O12 := O5.keep Kq11 (own_all0 )
    have ltr11_0 := own_ltN' r11_0.lt
    refine OwnEnd.of (S' := T11.setTop (mkF m 26 #[.val (.ref b), .val (.int (0 : Int32)), .val (.int (3 : Int32)), .val (.ref b1), .val (.int (1 : Int32)), .unset] [(.ref t_11)])) st11 ?_
    refine OwnEnd.of (S' := T11.setTop (mkF m 32 #[.val (.ref b), .val (.int (0 : Int32)), .val (.int (3 : Int32)), .val (.ref b1), .val (.int (1 : Int32)), .val (.ref t_11)] [(.int (1 : Int32)), (.ref t_11)])) (fun _ kK => XS.astore X11.here hx rfl (hb hby d16_26) rfl rfl (l' := #[.val (.ref b), .val (.int (0 : Int32)), .val (.int (3 : Int32)), .val (.ref b1), .val (.int (1 : Int32)), .val (.ref t_11)]) rfl (XS.aload X11.here hx rfl (hb hby d16_28) rfl rfl (XS.iload X11.here hx rfl (hb hby d16_30) rfl kK))) ?_
    obtain ⟨_, _, ⟨T13, L13, k13, n13⟩, -, X13, ⟨Lc13, hQ13, l13, y13, z13⟩, st13⟩ := Jvm.LawKit.callS X11 hx (y := own_m8) hown (mvT hZ (own_w G 131 rfl)) (mvT hZ (own_w G 132 rfl)) (mvT hZ (own_w G 27 rfl)) (mvT hZ (own_w G 133 rfl)) (by decide) (backOf (W := 0) (rmgc l Z a0 G [] t_11 kb_11 (6 : Int32) (StrChars.Road.wideBytes [c0, c1, c2]) (.int (0 : Int32)) (1 : Int32) (2 : Int32) c1 T11.heap n0 O12 r11_0 (by decide : (1 : Int32) <<< ((1 : Int32) &&& 31) = (2 : Int32)) (by decide : ¬ (2 : Int32) < (0 : Int32)) (by decide : (2 : Int32) < (6 : Int32)) (by decide : ¬ ((2 : Int32) + (1 : Int32)) < (0 : Int32)) (by decide : ((2 : Int32) + (1 : Int32)) < (6 : Int32)) (by rfl : (StrChars.Road.wideBytes [c0, c1, c2]).getD (2 : Int32).toNatClampNeg (.int (0 : Int32)) = (.int (StrChars.lo8 c1))) (by rfl : (StrChars.Road.wideBytes [c0, c1, c2]).getD ((2 : Int32) + (1 : Int32)).toNatClampNeg (.int (0 : Int32)) = (.int (StrChars.hi8 c1))) (P1 c1 (by simp))) hZ (own_w G 133 rfl) (own_w G 27 rfl) (by decide) (by decide)) (g := (mkF m 32 #[.val (.ref b), .val (.int (0 : Int32)), .val (.int (3 : Int32)), .val (.ref b1), .val (.int (1 : Int32)), .val (.ref t_11)] [(.int (1 : Int32)), (.ref t_11)])) rfl (by rw [hml]; rfl) (argsL := [(.ref t_11), (.int (1 : Int32))]) (rest := []) (lenOf pd_5 rfl) rfl (by show 2 * 0 + _ ≤ _; exact Nat.le_of_eq rfl) (hb hby d16_32) (fun _ _ => ⟨rfl, rfl, (by decide : 2 + 0 ≤ _), (by decide : 9 + 0 ≤ _)⟩)
    dsimp only [Pt.U, Pt.locs, Pt.cells, Pt.slots] at X13 l13 y13 z13 st13 hQ13
    subst l13 y13 z13
    obtain ⟨rfl, N13q, eh13⟩ := hQ13
    have N13 := Fr.app N11 N13q
    refine OwnEnd.of (S' := T13.setTop (mkF m 35 #[.val (.ref b), .val (.int (0 : Int32)), .val (.int (3 : Int32)), .val (.ref b1), .val (.int (1 : Int32)), .val (.ref t_11)] [(.int c1)])) st13 ?_
    refine OwnEnd.of (S' := T13.setTop (mkF m 56 #[.val (.ref b), .val (.int (0 : Int32)), .val (.int (3 : Int32)), .val (.ref b1), .val (.int (1 : Int32)), .val (.ref t_11)] [(.ref t_11)])) (fun _ kK => XS.sipush X13.here hx rfl (hb hby d16_35) (XS.icmpYes X13.here hx rfl (pc0 := 38) (pc' := 54) rfl (hb hby d16_38) rfl (tlt (hr.2)).2.2.1 (by decide) (by decide) (XS.aload X13.here hx rfl (hb hby d16_54) rfl rfl kK))) ?_
    refine OwnEnd.ret X13 (v := (some (.ref t_11))) (fun h => by rw [Bd.returns] at h; cases h) hlk (fun fs hr => retOut X13 hx Bd.returns rfl (Or.inr (Or.inr (Or.inr (Or.inr ⟨rfl, rfl, rfl⟩)))) (hb hby d16_56) hr) (by decide) (by decide) (Q := Qcw3 Z b kC dC c0 c1 c2 h0 n0) eh13 ?_
    exact ⟨t_11, kb_11, (6 : Int32), (StrChars.Road.wideBytes [c0, c1, c2]), (1 : Int32), rfl, N13, K12, r11_0, (Or.inr ⟨rfl, rfl, rfl, c1, by simp, hr.2⟩), (by omega)⟩
  · rw [hr.1]
    refine OwnEnd.of (S' := T4.setTop (mkF m 23 #[.val (.ref b), .val (.int (0 : Int32)), .val (.int (3 : Int32)), .val (.ref b1), .val (.int (2 : Int32)), .unset] [(.int (3 : Int32)), (.int (0 : Int32)), (.ref b)])) (fun _ kK => XS.istore X4.here hx rfl (hb hby d16_12) rfl (l' := #[.val (.ref b), .val (.int (0 : Int32)), .val (.int (3 : Int32)), .val (.ref b1), .val (.int (2 : Int32)), .unset]) rfl (XS.iload X4.here hx rfl (hb hby d16_14) rfl (XS.iloadN X4.here hx rfl (hb hby d16_16) rfl (XS.icmpNo X4.here hx rfl (hb hby d16_17) rfl (feq ((by decide : ¬ ((2 : Int32) = (3 : Int32))))).1 (XS.aloadN X4.here hx rfl (hb hby d16_20) rfl rfl (XS.iloadN X4.here hx rfl (hb hby d16_21) rfl (XS.iloadN X4.here hx rfl (hb hby d16_22) rfl kK))))))) ?_
    have f14 : Arv Z T4.heap b kC .char (3 : Int32) [(.int c0), (.int c1), (.int c2)] dC := (f3.keep Kq4 (own_nin1 (own_ne (by omega))))
    obtain ⟨_, _, ⟨T15, L15, k15, n15⟩, -, X15, ⟨Lc15, hQ15, l15, y15, z15⟩, st15⟩ := Jvm.LawKit.callS X4 hx (y := own_m14) hown (mvT hZ (own_w G 115 rfl)) (mvT hZ (own_w G 116 rfl)) (mvT hZ (own_w G 27 rfl)) (mvT hZ (own_w G 117 rfl)) (by decide) (backOf (W := 0) (rmby3 l Z a0 G [] b kC dC c0 c1 c2 T4.heap n0 O5 f14) hZ (own_w G 117 rfl) (own_w G 27 rfl) (by decide) (by decide)) (g := (mkF m 23 #[.val (.ref b), .val (.int (0 : Int32)), .val (.int (3 : Int32)), .val (.ref b1), .val (.int (2 : Int32)), .unset] [(.int (3 : Int32)), (.int (0 : Int32)), (.ref b)])) rfl (by rw [hml]; rfl) (argsL := [(.ref b), (.int (0 : Int32)), (.int (3 : Int32))]) (rest := []) (lenOf pd_11 rfl) rfl (by show 2 * 0 + _ ≤ _; exact Nat.le_of_eq rfl) (hb hby d16_23) (fun _ _ => ⟨rfl, rfl, (by decide : 1 + 1 ≤ _), (by decide : 3 + 6 ≤ _)⟩)
    dsimp only [Pt.U, Pt.locs, Pt.cells, Pt.slots] at X15 l15 y15 z15 st15 hQ15
    subst l15 y15 z15
    obtain ⟨t_15, kb_15, rfl, N15q, Kq15, r15_0, r15_1⟩ := hQ15
    have N15 := Fr.app N4 N15q
    have sz16 := Kq15.1
    have K16 := K5.trans Kq15 (own_all0 )
    have O16 := O5.keep Kq15 (own_all0 )
    have ltr15_0 := own_ltN' r15_0.lt
    refine OwnEnd.of (S' := T15.setTop (mkF m 26 #[.val (.ref b), .val (.int (0 : Int32)), .val (.int (3 : Int32)), .val (.ref b1), .val (.int (2 : Int32)), .unset] [(.ref t_15)])) st15 ?_
    refine OwnEnd.of (S' := T15.setTop (mkF m 32 #[.val (.ref b), .val (.int (0 : Int32)), .val (.int (3 : Int32)), .val (.ref b1), .val (.int (2 : Int32)), .val (.ref t_15)] [(.int (2 : Int32)), (.ref t_15)])) (fun _ kK => XS.astore X15.here hx rfl (hb hby d16_26) rfl rfl (l' := #[.val (.ref b), .val (.int (0 : Int32)), .val (.int (3 : Int32)), .val (.ref b1), .val (.int (2 : Int32)), .val (.ref t_15)]) rfl (XS.aload X15.here hx rfl (hb hby d16_28) rfl rfl (XS.iload X15.here hx rfl (hb hby d16_30) rfl kK))) ?_
    obtain ⟨_, _, ⟨T17, L17, k17, n17⟩, -, X17, ⟨Lc17, hQ17, l17, y17, z17⟩, st17⟩ := Jvm.LawKit.callS X15 hx (y := own_m8) hown (mvT hZ (own_w G 131 rfl)) (mvT hZ (own_w G 132 rfl)) (mvT hZ (own_w G 27 rfl)) (mvT hZ (own_w G 133 rfl)) (by decide) (backOf (W := 0) (rmgc l Z a0 G [] t_15 kb_15 (6 : Int32) (StrChars.Road.wideBytes [c0, c1, c2]) (.int (0 : Int32)) (2 : Int32) (4 : Int32) c2 T15.heap n0 O16 r15_0 (by decide : (2 : Int32) <<< ((1 : Int32) &&& 31) = (4 : Int32)) (by decide : ¬ (4 : Int32) < (0 : Int32)) (by decide : (4 : Int32) < (6 : Int32)) (by decide : ¬ ((4 : Int32) + (1 : Int32)) < (0 : Int32)) (by decide : ((4 : Int32) + (1 : Int32)) < (6 : Int32)) (by rfl : (StrChars.Road.wideBytes [c0, c1, c2]).getD (4 : Int32).toNatClampNeg (.int (0 : Int32)) = (.int (StrChars.lo8 c2))) (by rfl : (StrChars.Road.wideBytes [c0, c1, c2]).getD ((4 : Int32) + (1 : Int32)).toNatClampNeg (.int (0 : Int32)) = (.int (StrChars.hi8 c2))) (P1 c2 (by simp))) hZ (own_w G 133 rfl) (own_w G 27 rfl) (by decide) (by decide)) (g := (mkF m 32 #[.val (.ref b), .val (.int (0 : Int32)), .val (.int (3 : Int32)), .val (.ref b1), .val (.int (2 : Int32)), .val (.ref t_15)] [(.int (2 : Int32)), (.ref t_15)])) rfl (by rw [hml]; rfl) (argsL := [(.ref t_15), (.int (2 : Int32))]) (rest := []) (lenOf pd_5 rfl) rfl (by show 2 * 0 + _ ≤ _; exact Nat.le_of_eq rfl) (hb hby d16_32) (fun _ _ => ⟨rfl, rfl, (by decide : 2 + 0 ≤ _), (by decide : 9 + 0 ≤ _)⟩)
    dsimp only [Pt.U, Pt.locs, Pt.cells, Pt.slots] at X17 l17 y17 z17 st17 hQ17
    subst l17 y17 z17
    obtain ⟨rfl, N17q, eh17⟩ := hQ17
    have N17 := Fr.app N15 N17q
    refine OwnEnd.of (S' := T17.setTop (mkF m 35 #[.val (.ref b), .val (.int (0 : Int32)), .val (.int (3 : Int32)), .val (.ref b1), .val (.int (2 : Int32)), .val (.ref t_15)] [(.int c2)])) st17 ?_
    refine OwnEnd.of (S' := T17.setTop (mkF m 56 #[.val (.ref b), .val (.int (0 : Int32)), .val (.int (3 : Int32)), .val (.ref b1), .val (.int (2 : Int32)), .val (.ref t_15)] [(.ref t_15)])) (fun _ kK => XS.sipush X17.here hx rfl (hb hby d16_35) (XS.icmpYes X17.here hx rfl (pc0 := 38) (pc' := 54) rfl (hb hby d16_38) rfl (tlt (hr.2)).2.2.1 (by decide) (by decide) (XS.aload X17.here hx rfl (hb hby d16_54) rfl rfl kK))) ?_
    refine OwnEnd.ret X17 (v := (some (.ref t_15))) (fun h => by rw [Bd.returns] at h; cases h) hlk (fun fs hr => retOut X17 hx Bd.returns rfl (Or.inr (Or.inr (Or.inr (Or.inr ⟨rfl, rfl, rfl⟩)))) (hb hby d16_56) hr) (by decide) (by decide) (Q := Qcw3 Z b kC dC c0 c1 c2 h0 n0) eh17 ?_
    exact ⟨t_15, kb_15, (6 : Int32), (StrChars.Road.wideBytes [c0, c1, c2]), (1 : Int32), rfl, N17, K16, r15_0, (Or.inr ⟨rfl, rfl, rfl, c2, by simp, hr.2⟩), (by omega)⟩
  · rw [hr.1]
    have V18 : Arv Z T4.heap b1 k1 .byte (3 : Int32) (([c0, c1, c2] : List Int32).map fun c => Value.int (StrChars.lo8 c)) (.int (0 : Int32)) := by have q := r4_0; rw [hr.2.1] at q; exact q
    refine OwnEnd.of (S' := T4.setTop (mkF m 58 #[.val (.ref b), .val (.int (0 : Int32)), .val (.int (3 : Int32)), .val (.ref b1), .val (.int (3 : Int32)), .unset] [(.ref b1)])) (fun _ kK => XS.istore X4.here hx rfl (hb hby d16_12) rfl (l' := #[.val (.ref b), .val (.int (0 : Int32)), .val (.int (3 : Int32)), .val (.ref b1), .val (.int (3 : Int32)), .unset]) rfl (XS.iload X4.here hx rfl (hb hby d16_14) rfl (XS.iloadN X4.here hx rfl (hb hby d16_16) rfl (XS.icmpYes X4.here hx rfl (pc0 := 17) (pc' := 57) rfl (hb hby d16_17) rfl (teq ((by decide : (3 : Int32) = (3 : Int32)))).1 (by decide) (by decide) (XS.aloadN X4.here hx rfl (hb hby d16_57) rfl rfl kK))))) ?_
    refine OwnEnd.ret X4 (v := (some (.ref b1))) (fun h => by rw [Bd.returns] at h; cases h) hlk (fun fs hr => retOut X4 hx Bd.returns rfl (Or.inr (Or.inr (Or.inr (Or.inr ⟨rfl, rfl, rfl⟩)))) (hb hby d16_58) hr) (by decide) (by decide) (Q := Qcw3 Z b kC dC c0 c1 c2 h0 n0) rfl ?_
    exact ⟨b1, k1, (3 : Int32), (([c0, c1, c2] : List Int32).map fun c => Value.int (StrChars.lo8 c)), (0 : Int32), rfl, N4, K5, V18, (Or.inl ⟨rfl, rfl, rfl, hr.2.2⟩), (by omega)⟩

theorem own_efcf3 (m : MethodId) (t : Addr) : entryFrame m #[(.ref t), (.int (3 : Int32))] 2 = mkF m 0 #[.val (.ref t), .val (.int (3 : Int32))] [] := by first | (simp [entryFrame, mkF, argsToLocals, Value.category]; done) | rfl
set_option maxRecDepth 65536 in
set_option maxHeartbeats 40000000 in
theorem rmcf3 (l : Launch) (Z : State) (a0 : Array Value) (G : OwnG Z a0) (ws : List Jvm.Cond) (t : Addr) (kb : ClassId) (N : Int32) (vs : List Value) (cd : Int32) (c0 : Int32) (c1 : Int32) (c2 : Int32) (h0 : Heap) (n0 : Nat) (O0 : Old Z n0 h0) (P0 : Arv Z h0 t kb .byte N vs (.int (0 : Int32))) (P1 : StrChars.Road.CodA [c0, c1, c2] cd N vs) :
    MetFree l own_m17 (head1 (Jvm.Cond.code own_m17 jdk_52_method_15_code 2 (some .byte) :: ws) ({ frames := 0, cells := 0, slots := 0, locals := 0 } : Room)) (fun a U => a = #[(.ref t), (.int (3 : Int32))] ∧ Z.Warmed39 U.vm ∧ U.heap = h0) (fun _ _ _ _ _ => True) (fun _ U o U' => ∃ v L, o = .returned v ∧ (own_Qint cd) h0 n0 v U'.heap L ∧ FrameEnd U o U' L ({ frames := 0, cells := 0, slots := 0, locals := 0 } : Room).cells ({ frames := 0, cells := 0, slots := 0, locals := 0 } : Room).slots) := by
  refine MetFree.of_bodySF (plainFor_of_name pn_3) hisR ?_
  intro p e s m args below meth cD s₁ Bd hml0 hP hK
  obtain ⟨rfl, hZ, hh⟩ := hP
  have hw := G.1
  have hx := Bd.exec
  have hby := Bd.bytes
  have hml : cD.maxLocals = 2 := hml0
  have hown : s.vm.findClass "java/lang/StringUTF16" = some m.cls := findClass_of_methodNamed Bd.named
  have hnm := (name_of_methodNamed Bd.named Bd.method).1
  have hlk := Bd.notSynchronized
  have X0 : Stand p l e ({ frames := 0, cells := 0, slots := 0, locals := 0 } : Room) s m #[(.ref t), (.int (3 : Int32))] below meth cD s₁ [] 0 0 := Stand.of_body Bd
  have e0 : s₁.heap = h0 := by rw [← hh, Bd.state]; rfl
  have lt0 := own_ltN' P0.lt
  have K0 : Keep h0 h0 [] := Keep.refl h0 _
  have Z0 := own_old_le O0
  have N0 := Fr.nil n0
  refine OwnEnd.start (g' := (mkF m 0 #[.val (.ref t), .val (.int (3 : Int32))] [])) (own_efcf3 m t) ?_
  rcases P1 with hxc | hxc
  · have V1 : Arv Z h0 t kb .byte (3 : Int32) (([c0, c1, c2] : List Int32).map fun c => Value.int (StrChars.lo8 c)) (.int (0 : Int32)) := by have q := P0; rw [hxc.2.1, hxc.2.2.1] at q; exact q
    refine OwnEnd.of (S' := s₁.setTop (mkF m 2 #[.val (.ref t), .val (.int (3 : Int32))] [(.ref t), (.int (3 : Int32))])) (fun _ kK => XS.iloadN X0.here hx rfl (hb hby d17_0) rfl (XS.aloadN X0.here hx rfl (hb hby d17_1) rfl rfl kK)) ?_
    obtain ⟨cl2, Ar2, q2, S2, N2', H2, G2⟩ := id V1
    refine OwnEnd.of (S' := s₁.setTop (mkF m 3 #[.val (.ref t), .val (.int (3 : Int32))] [(.int (3 : Int32)), (.int (3 : Int32))])) (fun _ kK => X0.arraylength hx (by rw [e0]; exact Ar2.1) (State.isArrayOf_alike hZ.alike Ar2.2.1) (g := (mkF m 2 #[.val (.ref t), .val (.int (3 : Int32))] [(.ref t), (.int (3 : Int32))])) rfl rfl (hb hby d17_2) _ (by rw [len_of S2 N2']; exact kK)) ?_
    refine OwnEnd.of (S' := s₁.setTop (mkF m 8 #[.val (.ref t), .val (.int (3 : Int32))] [(.int (0 : Int32))])) (fun _ kK => XS.isub X0.here hx rfl (hb hby d17_3) rfl (XS.bipush X0.here hx rfl (hb hby d17_4) (XS.iushr X0.here hx rfl (hb hby d17_6) rfl (XS.i2b X0.here hx rfl (hb hby d17_7) rfl kK)))) ?_
    refine OwnEnd.ret X0 (v := (some (.int (nar .byte (0 : Int32))))) (fun h => by rw [Bd.returns] at h; cases h) hlk (fun fs hr => retN X0 hx (t := .byte) Bd.returns (by simp) (hb hby d17_8) hr) (by decide) (by decide) (Q := (own_Qint cd) h0 n0) e0 ?_
    exact ⟨(congrArg (fun z => some (Value.int z)) hxc.1.symm), N0, rfl⟩
  · have V3 : Arv Z h0 t kb .byte (6 : Int32) (StrChars.Road.wideBytes [c0, c1, c2]) (.int (0 : Int32)) := by have q := P0; rw [hxc.2.1, hxc.2.2.1] at q; exact q
    refine OwnEnd.of (S' := s₁.setTop (mkF m 2 #[.val (.ref t), .val (.int (3 : Int32))] [(.ref t), (.int (3 : Int32))])) (fun _ kK => XS.iloadN X0.here hx rfl (hb hby d17_0) rfl (XS.aloadN X0.here hx rfl (hb hby d17_1) rfl rfl kK)) ?_
    obtain ⟨cl4, Ar4, q4, S4, N4', H4, G4⟩ := id V3
    refine OwnEnd.of (S' := s₁.setTop (mkF m 3 #[.val (.ref t), .val (.int (3 : Int32))] [(.int (6 : Int32)), (.int (3 : Int32))])) (fun _ kK => X0.arraylength hx (by rw [e0]; exact Ar4.1) (State.isArrayOf_alike hZ.alike Ar4.2.1) (g := (mkF m 2 #[.val (.ref t), .val (.int (3 : Int32))] [(.ref t), (.int (3 : Int32))])) rfl rfl (hb hby d17_2) _ (by rw [len_of S4 N4']; exact kK)) ?_
    refine OwnEnd.of (S' := s₁.setTop (mkF m 8 #[.val (.ref t), .val (.int (3 : Int32))] [(.int (1 : Int32))])) (fun _ kK => XS.isub X0.here hx rfl (hb hby d17_3) rfl (XS.bipush X0.here hx rfl (hb hby d17_4) (XS.iushr X0.here hx rfl (hb hby d17_6) rfl (XS.i2b X0.here hx rfl (hb hby d17_7) rfl kK)))) ?_
    refine OwnEnd.ret X0 (v := (some (.int (nar .byte (1 : Int32))))) (fun h => by rw [Bd.returns] at h; cases h) hlk (fun fs hr => retN X0 hx (t := .byte) Bd.returns (by simp) (hb hby d17_8) hr) (by decide) (by decide) (Q := (own_Qint cd) h0 n0) e0 ?_
    exact ⟨(congrArg (fun z => some (Value.int z)) hxc.1.symm), N0, rfl⟩

theorem own_efnv3 (m : MethodId) (x0 : Addr) (b : Addr) : entryFrame m #[(.ref x0), (.ref b), (.int (0 : Int32)), (.int (3 : Int32)), .null] 6 = mkF m 0 #[.val (.ref x0), .val (.ref b), .val (.int (0 : Int32)), .val (.int (3 : Int32)), .val .null, .unset] [] := by first | (simp [entryFrame, mkF, argsToLocals, Value.category]; done) | rfl
def Qnv3 (Z : State) (x0 : Addr) (b : Addr) (v0 : Value) (c9 : Value) (kC : ClassId) (dC : Value) (c0 : Int32) (c1 : Int32) (c2 : Int32) (h0 : Heap) (n0 : Nat) (v : Option Value) (h : Heap) (L : List Loc) : Prop := ∃ (t : Addr) (kb : ClassId) (N : Int32) (vs : List Value) (cd : Int32), v = none ∧ Fr n0 L ∧ Keep h0 h [x0] ∧ (Exa Z h x0 "java/lang/String") ∧ (Fld Z h x0 "java/lang/String" "value" "[B" (.ref t)) ∧ (Fld Z h x0 "java/lang/String" "coder" "B" (.int cd)) ∧ (Arv Z h t kb .byte N vs (.int (0 : Int32))) ∧ (StrChars.Road.CodA [c0, c1, c2] cd N vs) ∧ (Array.size h0 ≤ t)
set_option maxRecDepth 65536 in
set_option maxHeartbeats 40000000 in
theorem rmnv3 (l : Launch) (Z : State) (a0 : Array Value) (G : OwnG Z a0) (ws : List Jvm.Cond) (x0 : Addr) (b : Addr) (v0 : Value) (c9 : Value) (kC : ClassId) (dC : Value) (c0 : Int32) (c1 : Int32) (c2 : Int32) (h0 : Heap) (n0 : Nat) (O0 : Old Z n0 h0) (P0 : Exa Z h0 x0 "java/lang/String") (P1 : Fld Z h0 x0 "java/lang/String" "value" "[B" v0) (P2 : Fld Z h0 x0 "java/lang/String" "coder" "B" c9) (P3 : n0 ≤ x0) (P4 : Arv Z h0 b kC .char (3 : Int32) [(.int c0), (.int c1), (.int c2)] dC) (P5 : ∀ c ∈ ([c0, c1, c2] : List Int32), ¬ c < (0 : Int32) ∧ ¬ (65535 : Int32) < c) (P6 : x0 ≠ b) :
    MetFree l own_m18 (head1 (Jvm.Cond.code own_m18 jdk_42_method_149_code 6 none :: ws) ({ frames := 4, cells := 2, slots := 9, locals := 57 } : Room)) (fun a U => a = #[(.ref x0), (.ref b), (.int (0 : Int32)), (.int (3 : Int32)), .null] ∧ Z.Warmed39 U.vm ∧ U.heap = h0) (fun _ _ _ _ _ => True) (fun _ U o U' => ∃ v L, o = .returned v ∧ Qnv3 Z x0 b v0 c9 kC dC c0 c1 c2 h0 n0 v U'.heap L ∧ FrameEnd U o U' L ({ frames := 4, cells := 2, slots := 9, locals := 57 } : Room).cells ({ frames := 4, cells := 2, slots := 9, locals := 57 } : Room).slots) := by
  refine MetFree.of_bodySF (plainFor_of_name pn_1) hisR ?_
  intro p e s m args below meth cD s₁ Bd hml0 hP hK
  obtain ⟨rfl, hZ, hh⟩ := hP
  have hw := G.1
  have hx := Bd.exec
  have hby := Bd.bytes
  have hml : cD.maxLocals = 6 := hml0
  have hown : s.vm.findClass "java/lang/String" = some m.cls := findClass_of_methodNamed Bd.named
  have hnm := (name_of_methodNamed Bd.named Bd.method).1
  have hlk := Bd.notSynchronized
  have X0 : Stand p l e ({ frames := 4, cells := 2, slots := 9, locals := 57 } : Room) s m #[(.ref x0), (.ref b), (.int (0 : Int32)), (.int (3 : Int32)), .null] below meth cD s₁ [] 0 0 := Stand.of_body Bd
  have e0 : s₁.heap = h0 := by rw [← hh, Bd.state]; rfl
  have lt0 := own_ltN' P0.lt
  have lt1 := own_ltN' P1.lt
  have lt2 := own_ltN' P2.lt
  have lt4 := own_ltN' P4.lt
  have nP6 := own_neN P6
  have K0 : Keep h0 h0 [x0] := Keep.refl h0 _
  have Z0 := own_old_le O0
  have N0 := Fr.nil n0
  obtain ⟨zCS, SCS, PCS⟩ := own_cs G
  refine OwnEnd.start (g' := (mkF m 0 #[.val (.ref x0), .val (.ref b), .val (.int (0 : Int32)), .val (.int (3 : Int32)), .val .null, .unset] [])) (own_efnv3 m x0 b) ?_
  refine OwnEnd.of (S' := s₁.setTop (mkF m 1 #[.val (.ref x0), .val (.ref b), .val (.int (0 : Int32)), .val (.int (3 : Int32)), .val .null, .unset] [(.ref x0)])) (fun _ kK => XS.aloadN X0.here hx rfl (hb hby d18_0) rfl rfl kK) ?_
  obtain ⟨T1, X1, e1, st1⟩ := initO X0 hx hZ hown (own_w G 21 rfl) (own_w G 22 rfl) (own_w G 23 rfl) e0 (g := (mkF m 1 #[.val (.ref x0), .val (.ref b), .val (.int (0 : Int32)), .val (.int (3 : Int32)), .val .null, .unset] [(.ref x0)])) rfl (by rw [hml]; rfl) rfl (hb hby d18_1) (by decide) (W := 0) (by show 2 * 0 + _ ≤ _; exact Nat.le_of_eq rfl) (by decide)
  refine OwnEnd.of (S' := T1.setTop (mkF m 4 #[.val (.ref x0), .val (.ref b), .val (.int (0 : Int32)), .val (.int (3 : Int32)), .val .null, .unset] [])) st1 ?_
  refine OwnEnd.of (S' := T1.setTop (mkF m 27 #[.val (.ref x0), .val (.ref b), .val (.int (0 : Int32)), .val (.int (3 : Int32)), .val .null, .unset] [])) (fun _ kK => XS.iloadN X1.here hx rfl (hb hby d18_4) rfl (XS.ifYes X1.here hx rfl (pc0 := 5) (pc' := 27) rfl (hb hby d18_5) rfl ((if0 _ _).trans (feq ((by decide : ¬ ((3 : Int32) = (0 : Int32))))).2) (by decide) (by decide) kK)) ?_
  obtain ⟨T2, X2, e2, st2⟩ := getS2 X1 hx hZ hown (host := "") (Or.inl (own_w G 24 rfl)) Via.refl e1 (SCS.ext O0.2) (g := (mkF m 27 #[.val (.ref x0), .val (.ref b), .val (.int (0 : Int32)), .val (.int (3 : Int32)), .val .null, .unset] [])) rfl (hb hby d18_27)
  refine OwnEnd.of (S' := T2.setTop (mkF m 30 #[.val (.ref x0), .val (.ref b), .val (.int (0 : Int32)), .val (.int (3 : Int32)), .val .null, .unset] [(.int zCS)])) st2 ?_
  refine OwnEnd.of (S' := T2.setTop (mkF m 36 #[.val (.ref x0), .val (.ref b), .val (.int (0 : Int32)), .val (.int (3 : Int32)), .val .null, .unset] [(.int (3 : Int32)), (.int (0 : Int32)), (.ref b)])) (fun _ kK => XS.ifNo X2.here hx rfl (hb hby d18_30) rfl ((if0 _ _).trans (feq (PCS)).1) (XS.aloadN X2.here hx rfl (hb hby d18_33) rfl rfl (XS.iloadN X2.here hx rfl (hb hby d18_34) rfl (XS.iloadN X2.here hx rfl (hb hby d18_35) rfl kK)))) ?_
  obtain ⟨_, _, ⟨T3, L3, k3, n3⟩, -, X3, ⟨Lc3, hQ3, l3, y3, z3⟩, st3⟩ := Jvm.LawKit.callS X2 hx (y := own_m16) hown (mvT hZ (own_w G 25 rfl)) (mvT hZ (own_w G 26 rfl)) (mvT hZ (own_w G 27 rfl)) (mvT hZ (own_w G 28 rfl)) (by decide) (backOf (W := 0) (rmcw3 l Z a0 G [] b kC dC c0 c1 c2 h0 n0 O0 P4 P5) hZ (own_w G 28 rfl) (own_w G 27 rfl) (by decide) (by decide)) (g := (mkF m 36 #[.val (.ref x0), .val (.ref b), .val (.int (0 : Int32)), .val (.int (3 : Int32)), .val .null, .unset] [(.int (3 : Int32)), (.int (0 : Int32)), (.ref b)])) rfl (by rw [hml]; rfl) (argsL := [(.ref b), (.int (0 : Int32)), (.int (3 : Int32))]) (rest := []) (lenOf pd_11 rfl) rfl (by show 2 * 0 + _ ≤ _; exact Nat.le_of_eq rfl) (hb hby d18_36) (fun _ _ => ⟨rfl, e2, (by decide : 0 + 2 ≤ _), (by decide : 0 + 9 ≤ _)⟩)
  dsimp only [Pt.U, Pt.locs, Pt.cells, Pt.slots] at X3 l3 y3 z3 st3 hQ3
  subst l3 y3 z3
  obtain ⟨t_3, kb_3, N_3, vs_3, cd_3, rfl, N3q, Kq3, r3_0, r3_1, r3_2⟩ := hQ3
  have N3 := Fr.app N0 N3q
  have sz4 := Kq3.1
  have K4 := K0.trans Kq3 (own_all0 )
  have O4 := O0.keep Kq3 (own_all0 )
  have ltr3_0 := own_ltN' r3_0.lt
  refine OwnEnd.of (S' := T3.setTop (mkF m 39 #[.val (.ref x0), .val (.ref b), .val (.int (0 : Int32)), .val (.int (3 : Int32)), .val .null, .unset] [(.ref t_3)])) st3 ?_
  refine OwnEnd.of (S' := T3.setTop (mkF m 45 #[.val (.ref x0), .val (.ref b), .val (.int (0 : Int32)), .val (.int (3 : Int32)), .val .null, .val (.ref t_3)] [(.int (3 : Int32)), (.ref t_3), (.ref x0)])) (fun _ kK => XS.astore X3.here hx rfl (hb hby d18_39) rfl rfl (l' := #[.val (.ref x0), .val (.ref b), .val (.int (0 : Int32)), .val (.int (3 : Int32)), .val .null, .val (.ref t_3)]) rfl (XS.aloadN X3.here hx rfl (hb hby d18_41) rfl rfl (XS.aload X3.here hx rfl (hb hby d18_42) rfl rfl (XS.iloadN X3.here hx rfl (hb hby d18_44) rfl kK)))) ?_
  obtain ⟨_, _, ⟨T5, L5, k5, n5⟩, -, X5, ⟨Lc5, hQ5, l5, y5, z5⟩, st5⟩ := Jvm.LawKit.callS X3 hx (y := own_m17) hown (mvT hZ (own_w G 33 rfl)) (mvT hZ (own_w G 34 rfl)) (mvT hZ (own_w G 27 rfl)) (mvT hZ (own_w G 35 rfl)) (by decide) (backOf (W := 1) (rmcf3 l Z a0 G [] t_3 kb_3 N_3 vs_3 cd_3 c0 c1 c2 T3.heap n0 O4 r3_0 r3_1) hZ (own_w G 35 rfl) (own_w G 27 rfl) (by decide) (by decide)) (g := (mkF m 45 #[.val (.ref x0), .val (.ref b), .val (.int (0 : Int32)), .val (.int (3 : Int32)), .val .null, .val (.ref t_3)] [(.int (3 : Int32)), (.ref t_3), (.ref x0)])) rfl (by rw [hml]; rfl) (argsL := [(.ref t_3), (.int (3 : Int32))]) (rest := [(.ref x0)]) (lenOf pd_12 rfl) rfl (by show 2 * 0 + _ ≤ _; exact Nat.le_of_eq rfl) (hb hby d18_45) (fun _ _ => ⟨rfl, rfl, (by decide : 2 + 0 ≤ _), (by decide : 9 + 0 ≤ _)⟩)
  dsimp only [Pt.U, Pt.locs, Pt.cells, Pt.slots] at X5 l5 y5 z5 st5 hQ5
  subst l5 y5 z5
  obtain ⟨rfl, N5q, eh5⟩ := hQ5
  have N5 := Fr.app N3 N5q
  refine OwnEnd.of (S' := T5.setTop (mkF m 48 #[.val (.ref x0), .val (.ref b), .val (.int (0 : Int32)), .val (.int (3 : Int32)), .val .null, .val (.ref t_3)] [(.int cd_3), (.ref x0)])) st5 ?_
  have f7 : Fld Z T3.heap x0 "java/lang/String" "coder" "B" c9 := (P2.keep Kq3 nin0)
  have f8 : Exa Z T3.heap x0 "java/lang/String" := (P0.keep Kq3)
  obtain ⟨T6, h6, X6, e6, W6, st6⟩ := putFN X5 hx hZ hown (own_w G 36 rfl) Via.refl eh5 f7 f8 (Or.inr ⟨(own_w G 37 rfl), rfl, hnm⟩) (own_w G 11 rfl) (ty := .byte) (v' := (.int cd_3)) (by decide) (own_cod_nar r3_1).1 (own_cod_nar r3_1).2 (g := (mkF m 48 #[.val (.ref x0), .val (.ref b), .val (.int (0 : Int32)), .val (.int (3 : Int32)), .val .null, .val (.ref t_3)] [(.int cd_3), (.ref x0)])) rfl rfl (hb hby d18_48)
  have Fw6 := f7.same W6
  have N6 := Fr.snoc X6 N5 (by omega)
  have sz9 := own_wr_le W6
  have K9 := K4.wr W6 (Or.inl (by simp))
  have O9 := O4.wr W6 (by omega)
  refine OwnEnd.of (S' := T6.setTop (mkF m 51 #[.val (.ref x0), .val (.ref b), .val (.int (0 : Int32)), .val (.int (3 : Int32)), .val .null, .val (.ref t_3)] [])) st6 ?_
  refine OwnEnd.of (S' := T6.setTop (mkF m 54 #[.val (.ref x0), .val (.ref b), .val (.int (0 : Int32)), .val (.int (3 : Int32)), .val .null, .val (.ref t_3)] [(.ref t_3), (.ref x0)])) (fun _ kK => XS.aloadN X6.here hx rfl (hb hby d18_51) rfl rfl (XS.aload X6.here hx rfl (hb hby d18_52) rfl rfl kK)) ?_
  have f11 : Fld Z h6 x0 "java/lang/String" "value" "[B" v0 := ((P1.keep Kq3 nin0).other W6 (Or.inr (slot_ne (Or.inr (own_w G 39 rfl)) (Or.inr (own_w G 37 rfl)) (by decide) (t := (.array .byte)) (t' := .byte) (by decide) (by decide))))
  have f12 : Exa Z h6 x0 "java/lang/String" := (f8.wr W6)
  obtain ⟨T10, h10, X10, e10, W10, st10⟩ := putF X6 hx hZ hown (host := "") (Or.inl (own_w G 38 rfl)) Via.refl e6 f11 f12 (Or.inr ⟨(own_w G 39 rfl), rfl, hnm⟩) (own_w G 11 rfl) (ty := (.array .byte)) (by decide) rfl rfl (g := (mkF m 54 #[.val (.ref x0), .val (.ref b), .val (.int (0 : Int32)), .val (.int (3 : Int32)), .val .null, .val (.ref t_3)] [(.ref t_3), (.ref x0)])) rfl rfl (hb hby d18_54)
  have Fw10 := f11.same W10
  have N10 := Fr.snoc X10 N6 (by omega)
  have sz13 := own_wr_le W10
  have K13 := K9.wr W10 (Or.inl (by simp))
  have O13 := O9.wr W10 (by omega)
  refine OwnEnd.of (S' := T10.setTop (mkF m 57 #[.val (.ref x0), .val (.ref b), .val (.int (0 : Int32)), .val (.int (3 : Int32)), .val .null, .val (.ref t_3)] [])) st10 ?_
  have f14 : Exa Z h10 x0 "java/lang/String" := (f12.wr W10)
  have f15 : Fld Z h10 x0 "java/lang/String" "coder" "B" (.int cd_3) := (Fw6.other W10 (Or.inr (slot_ne (Or.inr (own_w G 37 rfl)) (Or.inr (own_w G 39 rfl)) (by decide) (t := .byte) (t' := (.array .byte)) (by decide) (by decide))))
  have f16 : Arv Z h10 t_3 kb_3 .byte N_3 vs_3 (.int (0 : Int32)) := ((r3_0.other W6 (own_ne (by omega))).other W10 (own_ne (by omega)))
  refine OwnEnd.ret X10 (v := none) (fun _ => rfl) hlk (fun fs hr => X10.returnOut hx Bd.returns (hb hby d18_57) hr) (by decide) (by decide) (Q := Qnv3 Z x0 b v0 c9 kC dC c0 c1 c2 h0 n0) e10 ?_
  exact ⟨t_3, kb_3, N_3, vs_3, cd_3, rfl, N10, K13, f14, Fw10, f15, f16, (r3_1), (by omega)⟩

theorem own_efnw3 (m : MethodId) (x0 : Addr) (b : Addr) : entryFrame m #[(.ref x0), (.ref b)] 2 = mkF m 0 #[.val (.ref x0), .val (.ref b)] [] := by first | (simp [entryFrame, mkF, argsToLocals, Value.category]; done) | rfl
def Qnw3 (Z : State) (x0 : Addr) (b : Addr) (v0 : Value) (c9 : Value) (kC : ClassId) (dC : Value) (c0 : Int32) (c1 : Int32) (c2 : Int32) (h0 : Heap) (n0 : Nat) (v : Option Value) (h : Heap) (L : List Loc) : Prop := ∃ (t : Addr) (kb : ClassId) (N : Int32) (vs : List Value) (cd : Int32), v = none ∧ Fr n0 L ∧ Keep h0 h [x0] ∧ (Exa Z h x0 "java/lang/String") ∧ (Fld Z h x0 "java/lang/String" "value" "[B" (.ref t)) ∧ (Fld Z h x0 "java/lang/String" "coder" "B" (.int cd)) ∧ (Arv Z h t kb .byte N vs (.int (0 : Int32))) ∧ (StrChars.Road.CodA [c0, c1, c2] cd N vs) ∧ (Array.size h0 ≤ t)
set_option maxRecDepth 65536 in
set_option maxHeartbeats 40000000 in
theorem rmnw3 (l : Launch) (Z : State) (a0 : Array Value) (G : OwnG Z a0) (ws : List Jvm.Cond) (x0 : Addr) (b : Addr) (v0 : Value) (c9 : Value) (kC : ClassId) (dC : Value) (c0 : Int32) (c1 : Int32) (c2 : Int32) (h0 : Heap) (n0 : Nat) (O0 : Old Z n0 h0) (P0 : Exa Z h0 x0 "java/lang/String") (P1 : Fld Z h0 x0 "java/lang/String" "value" "[B" v0) (P2 : Fld Z h0 x0 "java/lang/String" "coder" "B" c9) (P3 : n0 ≤ x0) (P4 : Arv Z h0 b kC .char (3 : Int32) [(.int c0), (.int c1), (.int c2)] dC) (P5 : ∀ c ∈ ([c0, c1, c2] : List Int32), ¬ c < (0 : Int32) ∧ ¬ (65535 : Int32) < c) (P6 : x0 ≠ b) :
    MetFree l own_m19 (head1 (Jvm.Cond.code own_m19 jdk_42_method_3_code 2 none :: ws) ({ frames := 5, cells := 2, slots := 9, locals := 74 } : Room)) (fun a U => a = #[(.ref x0), (.ref b)] ∧ Z.Warmed39 U.vm ∧ U.heap = h0) (fun _ _ _ _ _ => True) (fun _ U o U' => ∃ v L, o = .returned v ∧ Qnw3 Z x0 b v0 c9 kC dC c0 c1 c2 h0 n0 v U'.heap L ∧ FrameEnd U o U' L ({ frames := 5, cells := 2, slots := 9, locals := 74 } : Room).cells ({ frames := 5, cells := 2, slots := 9, locals := 74 } : Room).slots) := by
  refine MetFree.of_bodySF (plainFor_of_name pn_1) hisR ?_
  intro p e s m args below meth cD s₁ Bd hml0 hP hK
  obtain ⟨rfl, hZ, hh⟩ := hP
  have hw := G.1
  have hx := Bd.exec
  have hby := Bd.bytes
  have hml : cD.maxLocals = 2 := hml0
  have hown : s.vm.findClass "java/lang/String" = some m.cls := findClass_of_methodNamed Bd.named
  have hnm := (name_of_methodNamed Bd.named Bd.method).1
  have hlk := Bd.notSynchronized
  have X0 : Stand p l e ({ frames := 5, cells := 2, slots := 9, locals := 74 } : Room) s m #[(.ref x0), (.ref b)] below meth cD s₁ [] 0 0 := Stand.of_body Bd
  have e0 : s₁.heap = h0 := by rw [← hh, Bd.state]; rfl
  have lt0 := own_ltN' P0.lt
  have lt1 := own_ltN' P1.lt
  have lt2 := own_ltN' P2.lt
  have lt4 := own_ltN' P4.lt
  have nP6 := own_neN P6
  have K0 : Keep h0 h0 [x0] := Keep.refl h0 _
  have Z0 := own_old_le O0
  have N0 := Fr.nil n0
  refine OwnEnd.start (g' := (mkF m 0 #[.val (.ref x0), .val (.ref b)] [])) (own_efnw3 m x0 b) ?_
  refine OwnEnd.of (S' := s₁.setTop (mkF m 4 #[.val (.ref x0), .val (.ref b)] [(.ref b), (.int (0 : Int32)), (.ref b), (.ref x0)])) (fun _ kK => XS.aloadN X0.here hx rfl (hb hby d19_0) rfl rfl (XS.aloadN X0.here hx rfl (hb hby d19_1) rfl rfl (XS.iconst X0.here hx rfl (hb hby d19_2) (XS.aloadN X0.here hx rfl (hb hby d19_3) rfl rfl kK)))) ?_
  obtain ⟨cl1, Ar1, q1, S1, N1', H1, G1⟩ := id P4
  refine OwnEnd.of (S' := s₁.setTop (mkF m 5 #[.val (.ref x0), .val (.ref b)] [(.int (3 : Int32)), (.int (0 : Int32)), (.ref b), (.ref x0)])) (fun _ kK => X0.arraylength hx (by rw [e0]; exact Ar1.1) (State.isArrayOf_alike hZ.alike Ar1.2.1) (g := (mkF m 4 #[.val (.ref x0), .val (.ref b)] [(.ref b), (.int (0 : Int32)), (.ref b), (.ref x0)])) rfl rfl (hb hby d19_4) _ (by rw [len_of S1 N1']; exact kK)) ?_
  refine OwnEnd.of (S' := s₁.setTop (mkF m 6 #[.val (.ref x0), .val (.ref b)] [.null, (.int (3 : Int32)), (.int (0 : Int32)), (.ref b), (.ref x0)])) (fun _ kK => XS.aconstNull X0.here hx rfl (hb hby d19_5) kK) ?_
  obtain ⟨_, _, ⟨T2, L2, k2, n2⟩, -, X2, ⟨Lc2, hQ2, l2, y2, z2⟩, st2⟩ := Jvm.Stand.specialBack X0 hx (y := own_m18) rfl hown (mvT hZ (own_w G 17 rfl)) (mvT hZ (own_w G 18 rfl)) (mvT hZ (own_w G 20 rfl)) (by decide) (backOf (W := 0) (rmnv3 l Z a0 G [] x0 b v0 c9 kC dC c0 c1 c2 h0 n0 O0 P0 P1 P2 (by omega) P4 P5 (P6 : x0 ≠ b)) hZ (own_w G 20 rfl) (own_w G 12 rfl) (by decide) (by decide)) (g := (mkF m 6 #[.val (.ref x0), .val (.ref b)] [.null, (.int (3 : Int32)), (.int (0 : Int32)), (.ref b), (.ref x0)])) rfl (by rw [hml]; rfl) (Steps.refl _) (a := x0) (argsL := [(.ref b), (.int (0 : Int32)), (.int (3 : Int32)), .null]) (rest := []) (lenOf pd_13 rfl) rfl (by show 2 * 0 + _ ≤ _; exact Nat.le_of_eq rfl) (hb hby d19_6) (fun _ _ => ⟨rfl, e0, (by decide : 0 + 2 ≤ _), (by decide : 0 + 9 ≤ _)⟩)
  dsimp only [Pt.U, Pt.locs, Pt.cells, Pt.slots] at X2 l2 y2 z2 st2 hQ2
  subst l2 y2 z2
  obtain ⟨t_2, kb_2, N_2, vs_2, cd_2, rfl, N2q, Kq2, r2_0, r2_1, r2_2, r2_3, r2_4, r2_5⟩ := hQ2
  have N2 := Fr.app N0 N2q
  have sz3 := Kq2.1
  have K3 := K0.trans Kq2 (own_all1 (Or.inl (by simp)))
  have O3 := O0.keep Kq2 (own_all1 (by omega))
  have ltr2_0 := own_ltN' r2_0.lt
  have ltr2_1 := own_ltN' r2_1.lt
  have ltr2_2 := own_ltN' r2_2.lt
  have ltr2_3 := own_ltN' r2_3.lt
  refine OwnEnd.tr (S' := T2.setTop (mkF m 9 #[.val (.ref x0), .val (.ref b)] [])) st2 ?_
  refine OwnEnd.ret X2 (v := none) (fun _ => rfl) hlk (fun fs hr => X2.returnOut hx Bd.returns (hb hby d19_9) hr) (by decide) (by decide) (Q := Qnw3 Z x0 b v0 c9 kC dC c0 c1 c2 h0 n0) rfl ?_
  exact ⟨t_2, kb_2, N_2, vs_2, cd_2, rfl, N2, K3, r2_0, r2_1, r2_2, r2_3, (r2_4), (by omega)⟩

theorem own_efdr (m : MethodId) (p0 : Int32) (p1 : Int32) : entryFrame m #[(.int p0), (.int p1)] 5 = mkF m 0 #[.val (.int p0), .val (.int p1), .unset, .unset, .unset] [] := by first | (simp [entryFrame, mkF, argsToLocals, Value.category]; done) | rfl
def Qdr (Z : State) (p0 : Int32) (p1 : Int32) (h0 : Heap) (n0 : Nat) (v : Option Value) (h : Heap) (L : List Loc) : Prop := ∃ (c : Int32), v = some (.int c) ∧ Fr n0 L ∧ h = h0 ∧ (¬ c < (0 : Int32) ∧ ¬ (65535 : Int32) < c)
set_option maxRecDepth 65536 in
set_option maxHeartbeats 40000000 in
theorem rmdr (l : Launch) (Z : State) (a0 : Array Value) (G : OwnG Z a0) (ws : List Jvm.Cond) (p0 : Int32) (p1 : Int32) (h0 : Heap) (n0 : Nat) (O0 : Old Z n0 h0)  :
    MetFree l own_m20 (head1 (Jvm.Cond.code own_m20 method_3_code 5 (some .char) :: ws) ({ frames := 0, cells := 0, slots := 0, locals := 0 } : Room)) (fun a U => a = #[(.int p0), (.int p1)] ∧ Z.Warmed39 U.vm ∧ U.heap = h0) (fun _ _ _ _ _ => True) (fun _ U o U' => ∃ v L, o = .returned v ∧ Qdr Z p0 p1 h0 n0 v U'.heap L ∧ FrameEnd U o U' L ({ frames := 0, cells := 0, slots := 0, locals := 0 } : Room).cells ({ frames := 0, cells := 0, slots := 0, locals := 0 } : Room).slots) := by
  refine MetFree.of_bodySF (plainFor_of_name pn_4) hisR ?_
  intro p e s m args below meth cD s₁ Bd hml0 hP hK
  obtain ⟨rfl, hZ, hh⟩ := hP
  have hw := G.1
  have hx := Bd.exec
  have hby := Bd.bytes
  have hml : cD.maxLocals = 5 := hml0
  have hown : s.vm.findClass "com/example/collie/collie/engine/MinedPairLastCharacterMatchPinLaw" = some m.cls := findClass_of_methodNamed Bd.named
  have hnm := (name_of_methodNamed Bd.named Bd.method).1
  have hlk := Bd.notSynchronized
  have X0 : Stand p l e ({ frames := 0, cells := 0, slots := 0, locals := 0 } : Room) s m #[(.int p0), (.int p1)] below meth cD s₁ [] 0 0 := Stand.of_body Bd
  have e0 : s₁.heap = h0 := by rw [← hh, Bd.state]; rfl
  have K0 : Keep h0 h0 [] := Keep.refl h0 _
  have Z0 := own_old_le O0
  have N0 := Fr.nil n0
  refine OwnEnd.start (g' := (mkF m 0 #[.val (.int p0), .val (.int p1), .unset, .unset, .unset] [])) (own_efdr m p0 p1) ?_
  refine OwnEnd.of (S' := s₁.setTop (mkF m 13 #[.val (.int p0), .val (.int p1), .val (.int (((p0).toUInt32 >>> (((10 : Int32) * p1) &&& 31).toUInt32).toInt32 &&& (1023 : Int32))), .unset, .unset] [(.int (3 : Int32)), (.int (((p0).toUInt32 >>> (((10 : Int32) * p1) &&& 31).toUInt32).toInt32 &&& (1023 : Int32)))])) (fun _ kK => XS.iloadN X0.here hx rfl (hb hby d20_0) rfl (XS.bipush X0.here hx rfl (hb hby d20_1) (XS.iloadN X0.here hx rfl (hb hby d20_3) rfl (XS.imul X0.here hx rfl (hb hby d20_4) rfl (XS.iushr X0.here hx rfl (hb hby d20_5) rfl (XS.sipush X0.here hx rfl (hb hby d20_6) (XS.iand X0.here hx rfl (hb hby d20_9) rfl (XS.istoreN X0.here hx rfl (hb hby d20_10) rfl (l' := #[.val (.int p0), .val (.int p1), .val (.int (((p0).toUInt32 >>> (((10 : Int32) * p1) &&& 31).toUInt32).toInt32 &&& (1023 : Int32))), .unset, .unset]) rfl (XS.iloadN X0.here hx rfl (hb hby d20_11) rfl (XS.iconst X0.here hx rfl (hb hby d20_12) kK)))))))))) ?_
  refine OwnEnd.of (S' := s₁.setTop (mkF m 21 #[.val (.int p0), .val (.int p1), .val (.int (((p0).toUInt32 >>> (((10 : Int32) * p1) &&& 31).toUInt32).toInt32 &&& (1023 : Int32))), .val (.int ((((p0).toUInt32 >>> (((10 : Int32) * p1) &&& 31).toUInt32).toInt32 &&& (1023 : Int32)) &&& (3 : Int32))), .val (.int (((((p0).toUInt32 >>> (((10 : Int32) * p1) &&& 31).toUInt32).toInt32 &&& (1023 : Int32))).toUInt32 >>> ((2 : Int32) &&& 31).toUInt32).toInt32)] [(.int ((((p0).toUInt32 >>> (((10 : Int32) * p1) &&& 31).toUInt32).toInt32 &&& (1023 : Int32)) &&& (3 : Int32)))])) (fun _ kK => XS.iand X0.here hx rfl (hb hby d20_13) rfl (XS.istoreN X0.here hx rfl (hb hby d20_14) rfl (l' := #[.val (.int p0), .val (.int p1), .val (.int (((p0).toUInt32 >>> (((10 : Int32) * p1) &&& 31).toUInt32).toInt32 &&& (1023 : Int32))), .val (.int ((((p0).toUInt32 >>> (((10 : Int32) * p1) &&& 31).toUInt32).toInt32 &&& (1023 : Int32)) &&& (3 : Int32))), .unset]) rfl (XS.iloadN X0.here hx rfl (hb hby d20_15) rfl (XS.iconst X0.here hx rfl (hb hby d20_16) (XS.iushr X0.here hx rfl (hb hby d20_17) rfl (XS.istore X0.here hx rfl (hb hby d20_18) rfl (l' := #[.val (.int p0), .val (.int p1), .val (.int (((p0).toUInt32 >>> (((10 : Int32) * p1) &&& 31).toUInt32).toInt32 &&& (1023 : Int32))), .val (.int ((((p0).toUInt32 >>> (((10 : Int32) * p1) &&& 31).toUInt32).toInt32 &&& (1023 : Int32)) &&& (3 : Int32))), .val (.int (((((p0).toUInt32 >>> (((10 : Int32) * p1) &&& 31).toUInt32).toInt32 &&& (1023 : Int32))).toUInt32 >>> ((2 : Int32) &&& 31).toUInt32).toInt32)]) rfl (XS.iloadN X0.here hx rfl (hb hby d20_20) rfl kK))))))) ?_
  rcases Decidable.em (((((p0).toUInt32 >>> (((10 : Int32) * p1) &&& 31).toUInt32).toInt32 &&& (1023 : Int32)) &&& (3 : Int32)) = (0 : Int32)) with hc1 | hc1
  · refine OwnEnd.of (S' := s₁.setTop (mkF m 27 #[.val (.int p0), .val (.int p1), .val (.int (((p0).toUInt32 >>> (((10 : Int32) * p1) &&& 31).toUInt32).toInt32 &&& (1023 : Int32))), .val (.int ((((p0).toUInt32 >>> (((10 : Int32) * p1) &&& 31).toUInt32).toInt32 &&& (1023 : Int32)) &&& (3 : Int32))), .val (.int (((((p0).toUInt32 >>> (((10 : Int32) * p1) &&& 31).toUInt32).toInt32 &&& (1023 : Int32))).toUInt32 >>> ((2 : Int32) &&& 31).toUInt32).toInt32)] [(.int (nar .char (((((p0).toUInt32 >>> (((10 : Int32) * p1) &&& 31).toUInt32).toInt32 &&& (1023 : Int32))).toUInt32 >>> ((2 : Int32) &&& 31).toUInt32).toInt32))])) (fun _ kK => XS.ifNo X0.here hx rfl (hb hby d20_21) rfl ((if0 _ _).trans (teq (hc1)).2) (XS.iload X0.here hx rfl (hb hby d20_24) rfl (XS.i2c X0.here hx rfl (hb hby d20_26) rfl kK))) ?_
    refine OwnEnd.ret X0 (v := (some (.int (nar .char (nar .char (((((p0).toUInt32 >>> (((10 : Int32) * p1) &&& 31).toUInt32).toInt32 &&& (1023 : Int32))).toUInt32 >>> ((2 : Int32) &&& 31).toUInt32).toInt32))))) (fun h => by rw [Bd.returns] at h; cases h) hlk (fun fs hr => retN X0 hx (t := .char) Bd.returns (by simp) (hb hby d20_27) hr) (by decide) (by decide) (Q := Qdr Z p0 p1 h0 n0) e0 ?_
    exact ⟨(nar .char (nar .char (((((p0).toUInt32 >>> (((10 : Int32) * p1) &&& 31).toUInt32).toInt32 &&& (1023 : Int32))).toUInt32 >>> ((2 : Int32) &&& 31).toUInt32).toInt32)), rfl, N0, rfl, (rng_char (fits_nar_char _))⟩
  · refine OwnEnd.of (S' := s₁.setTop (mkF m 30 #[.val (.int p0), .val (.int p1), .val (.int (((p0).toUInt32 >>> (((10 : Int32) * p1) &&& 31).toUInt32).toInt32 &&& (1023 : Int32))), .val (.int ((((p0).toUInt32 >>> (((10 : Int32) * p1) &&& 31).toUInt32).toInt32 &&& (1023 : Int32)) &&& (3 : Int32))), .val (.int (((((p0).toUInt32 >>> (((10 : Int32) * p1) &&& 31).toUInt32).toInt32 &&& (1023 : Int32))).toUInt32 >>> ((2 : Int32) &&& 31).toUInt32).toInt32)] [(.int (1 : Int32)), (.int ((((p0).toUInt32 >>> (((10 : Int32) * p1) &&& 31).toUInt32).toInt32 &&& (1023 : Int32)) &&& (3 : Int32)))])) (fun _ kK => XS.ifYes X0.here hx rfl (pc0 := 21) (pc' := 28) rfl (hb hby d20_21) rfl ((if0 _ _).trans (feq (hc1)).2) (by decide) (by decide) (XS.iloadN X0.here hx rfl (hb hby d20_28) rfl (XS.iconst X0.here hx rfl (hb hby d20_29) kK))) ?_
    rcases Decidable.em (((((p0).toUInt32 >>> (((10 : Int32) * p1) &&& 31).toUInt32).toInt32 &&& (1023 : Int32)) &&& (3 : Int32)) = (1 : Int32)) with hc2 | hc2
    · refine OwnEnd.of (S' := s₁.setTop (mkF m 33 #[.val (.int p0), .val (.int p1), .val (.int (((p0).toUInt32 >>> (((10 : Int32) * p1) &&& 31).toUInt32).toInt32 &&& (1023 : Int32))), .val (.int ((((p0).toUInt32 >>> (((10 : Int32) * p1) &&& 31).toUInt32).toInt32 &&& (1023 : Int32)) &&& (3 : Int32))), .val (.int (((((p0).toUInt32 >>> (((10 : Int32) * p1) &&& 31).toUInt32).toInt32 &&& (1023 : Int32))).toUInt32 >>> ((2 : Int32) &&& 31).toUInt32).toInt32)] [])) (fun _ kK => XS.icmpNo X0.here hx rfl (hb hby d20_30) rfl (teq (hc2)).2 kK) ?_
      refine OwnEnd.of (S' := s₁.setTop (mkF m 35 #[.val (.int p0), .val (.int p1), .val (.int (((p0).toUInt32 >>> (((10 : Int32) * p1) &&& 31).toUInt32).toInt32 &&& (1023 : Int32))), .val (.int ((((p0).toUInt32 >>> (((10 : Int32) * p1) &&& 31).toUInt32).toInt32 &&& (1023 : Int32)) &&& (3 : Int32))), .val (.int (((((p0).toUInt32 >>> (((10 : Int32) * p1) &&& 31).toUInt32).toInt32 &&& (1023 : Int32))).toUInt32 >>> ((2 : Int32) &&& 31).toUInt32).toInt32)] [(.int (55296 : Int32))])) (fun _ kK => X0.ldcInt hx hown (mvT hZ (own_w G 134 rfl)) (g := (mkF m 33 #[.val (.int p0), .val (.int p1), .val (.int (((p0).toUInt32 >>> (((10 : Int32) * p1) &&& 31).toUInt32).toInt32 &&& (1023 : Int32))), .val (.int ((((p0).toUInt32 >>> (((10 : Int32) * p1) &&& 31).toUInt32).toInt32 &&& (1023 : Int32)) &&& (3 : Int32))), .val (.int (((((p0).toUInt32 >>> (((10 : Int32) * p1) &&& 31).toUInt32).toInt32 &&& (1023 : Int32))).toUInt32 >>> ((2 : Int32) &&& 31).toUInt32).toInt32)] [])) rfl (hb hby d20_33) _ kK) ?_
      refine OwnEnd.of (S' := s₁.setTop (mkF m 41 #[.val (.int p0), .val (.int p1), .val (.int (((p0).toUInt32 >>> (((10 : Int32) * p1) &&& 31).toUInt32).toInt32 &&& (1023 : Int32))), .val (.int ((((p0).toUInt32 >>> (((10 : Int32) * p1) &&& 31).toUInt32).toInt32 &&& (1023 : Int32)) &&& (3 : Int32))), .val (.int (((((p0).toUInt32 >>> (((10 : Int32) * p1) &&& 31).toUInt32).toInt32 &&& (1023 : Int32))).toUInt32 >>> ((2 : Int32) &&& 31).toUInt32).toInt32)] [(.int (nar .char ((55296 : Int32) ||| ((((((p0).toUInt32 >>> (((10 : Int32) * p1) &&& 31).toUInt32).toInt32 &&& (1023 : Int32))).toUInt32 >>> ((2 : Int32) &&& 31).toUInt32).toInt32 &&& (1 : Int32)))))])) (fun _ kK => XS.iload X0.here hx rfl (hb hby d20_35) rfl (XS.iconst X0.here hx rfl (hb hby d20_37) (XS.iand X0.here hx rfl (hb hby d20_38) rfl (XS.ior X0.here hx rfl (hb hby d20_39) rfl (XS.i2c X0.here hx rfl (hb hby d20_40) rfl kK))))) ?_
      refine OwnEnd.ret X0 (v := (some (.int (nar .char (nar .char ((55296 : Int32) ||| ((((((p0).toUInt32 >>> (((10 : Int32) * p1) &&& 31).toUInt32).toInt32 &&& (1023 : Int32))).toUInt32 >>> ((2 : Int32) &&& 31).toUInt32).toInt32 &&& (1 : Int32)))))))) (fun h => by rw [Bd.returns] at h; cases h) hlk (fun fs hr => retN X0 hx (t := .char) Bd.returns (by simp) (hb hby d20_41) hr) (by decide) (by decide) (Q := Qdr Z p0 p1 h0 n0) e0 ?_
      exact ⟨(nar .char (nar .char ((55296 : Int32) ||| ((((((p0).toUInt32 >>> (((10 : Int32) * p1) &&& 31).toUInt32).toInt32 &&& (1023 : Int32))).toUInt32 >>> ((2 : Int32) &&& 31).toUInt32).toInt32 &&& (1 : Int32))))), rfl, N0, rfl, (rng_char (fits_nar_char _))⟩
    · refine OwnEnd.of (S' := s₁.setTop (mkF m 44 #[.val (.int p0), .val (.int p1), .val (.int (((p0).toUInt32 >>> (((10 : Int32) * p1) &&& 31).toUInt32).toInt32 &&& (1023 : Int32))), .val (.int ((((p0).toUInt32 >>> (((10 : Int32) * p1) &&& 31).toUInt32).toInt32 &&& (1023 : Int32)) &&& (3 : Int32))), .val (.int (((((p0).toUInt32 >>> (((10 : Int32) * p1) &&& 31).toUInt32).toInt32 &&& (1023 : Int32))).toUInt32 >>> ((2 : Int32) &&& 31).toUInt32).toInt32)] [(.int (2 : Int32)), (.int ((((p0).toUInt32 >>> (((10 : Int32) * p1) &&& 31).toUInt32).toInt32 &&& (1023 : Int32)) &&& (3 : Int32)))])) (fun _ kK => XS.icmpYes X0.here hx rfl (pc0 := 30) (pc' := 42) rfl (hb hby d20_30) rfl (feq (hc2)).2 (by decide) (by decide) (XS.iloadN X0.here hx rfl (hb hby d20_42) rfl (XS.iconst X0.here hx rfl (hb hby d20_43) kK))) ?_
      rcases Decidable.em (((((p0).toUInt32 >>> (((10 : Int32) * p1) &&& 31).toUInt32).toInt32 &&& (1023 : Int32)) &&& (3 : Int32)) = (2 : Int32)) with hc3 | hc3
      · refine OwnEnd.of (S' := s₁.setTop (mkF m 47 #[.val (.int p0), .val (.int p1), .val (.int (((p0).toUInt32 >>> (((10 : Int32) * p1) &&& 31).toUInt32).toInt32 &&& (1023 : Int32))), .val (.int ((((p0).toUInt32 >>> (((10 : Int32) * p1) &&& 31).toUInt32).toInt32 &&& (1023 : Int32)) &&& (3 : Int32))), .val (.int (((((p0).toUInt32 >>> (((10 : Int32) * p1) &&& 31).toUInt32).toInt32 &&& (1023 : Int32))).toUInt32 >>> ((2 : Int32) &&& 31).toUInt32).toInt32)] [])) (fun _ kK => XS.icmpNo X0.here hx rfl (hb hby d20_44) rfl (teq (hc3)).2 kK) ?_
        refine OwnEnd.of (S' := s₁.setTop (mkF m 49 #[.val (.int p0), .val (.int p1), .val (.int (((p0).toUInt32 >>> (((10 : Int32) * p1) &&& 31).toUInt32).toInt32 &&& (1023 : Int32))), .val (.int ((((p0).toUInt32 >>> (((10 : Int32) * p1) &&& 31).toUInt32).toInt32 &&& (1023 : Int32)) &&& (3 : Int32))), .val (.int (((((p0).toUInt32 >>> (((10 : Int32) * p1) &&& 31).toUInt32).toInt32 &&& (1023 : Int32))).toUInt32 >>> ((2 : Int32) &&& 31).toUInt32).toInt32)] [(.int (56320 : Int32))])) (fun _ kK => X0.ldcInt hx hown (mvT hZ (own_w G 99 rfl)) (g := (mkF m 47 #[.val (.int p0), .val (.int p1), .val (.int (((p0).toUInt32 >>> (((10 : Int32) * p1) &&& 31).toUInt32).toInt32 &&& (1023 : Int32))), .val (.int ((((p0).toUInt32 >>> (((10 : Int32) * p1) &&& 31).toUInt32).toInt32 &&& (1023 : Int32)) &&& (3 : Int32))), .val (.int (((((p0).toUInt32 >>> (((10 : Int32) * p1) &&& 31).toUInt32).toInt32 &&& (1023 : Int32))).toUInt32 >>> ((2 : Int32) &&& 31).toUInt32).toInt32)] [])) rfl (hb hby d20_47) _ kK) ?_
        refine OwnEnd.of (S' := s₁.setTop (mkF m 55 #[.val (.int p0), .val (.int p1), .val (.int (((p0).toUInt32 >>> (((10 : Int32) * p1) &&& 31).toUInt32).toInt32 &&& (1023 : Int32))), .val (.int ((((p0).toUInt32 >>> (((10 : Int32) * p1) &&& 31).toUInt32).toInt32 &&& (1023 : Int32)) &&& (3 : Int32))), .val (.int (((((p0).toUInt32 >>> (((10 : Int32) * p1) &&& 31).toUInt32).toInt32 &&& (1023 : Int32))).toUInt32 >>> ((2 : Int32) &&& 31).toUInt32).toInt32)] [(.int (nar .char ((56320 : Int32) ||| ((((((p0).toUInt32 >>> (((10 : Int32) * p1) &&& 31).toUInt32).toInt32 &&& (1023 : Int32))).toUInt32 >>> ((2 : Int32) &&& 31).toUInt32).toInt32 &&& (1 : Int32)))))])) (fun _ kK => XS.iload X0.here hx rfl (hb hby d20_49) rfl (XS.iconst X0.here hx rfl (hb hby d20_51) (XS.iand X0.here hx rfl (hb hby d20_52) rfl (XS.ior X0.here hx rfl (hb hby d20_53) rfl (XS.i2c X0.here hx rfl (hb hby d20_54) rfl kK))))) ?_
        refine OwnEnd.ret X0 (v := (some (.int (nar .char (nar .char ((56320 : Int32) ||| ((((((p0).toUInt32 >>> (((10 : Int32) * p1) &&& 31).toUInt32).toInt32 &&& (1023 : Int32))).toUInt32 >>> ((2 : Int32) &&& 31).toUInt32).toInt32 &&& (1 : Int32)))))))) (fun h => by rw [Bd.returns] at h; cases h) hlk (fun fs hr => retN X0 hx (t := .char) Bd.returns (by simp) (hb hby d20_55) hr) (by decide) (by decide) (Q := Qdr Z p0 p1 h0 n0) e0 ?_
        exact ⟨(nar .char (nar .char ((56320 : Int32) ||| ((((((p0).toUInt32 >>> (((10 : Int32) * p1) &&& 31).toUInt32).toInt32 &&& (1023 : Int32))).toUInt32 >>> ((2 : Int32) &&& 31).toUInt32).toInt32 &&& (1 : Int32))))), rfl, N0, rfl, (rng_char (fits_nar_char _))⟩
      · refine OwnEnd.of (S' := s₁.setTop (mkF m 64 #[.val (.int p0), .val (.int p1), .val (.int (((p0).toUInt32 >>> (((10 : Int32) * p1) &&& 31).toUInt32).toInt32 &&& (1023 : Int32))), .val (.int ((((p0).toUInt32 >>> (((10 : Int32) * p1) &&& 31).toUInt32).toInt32 &&& (1023 : Int32)) &&& (3 : Int32))), .val (.int (((((p0).toUInt32 >>> (((10 : Int32) * p1) &&& 31).toUInt32).toInt32 &&& (1023 : Int32))).toUInt32 >>> ((2 : Int32) &&& 31).toUInt32).toInt32)] [(.int (nar .char ((97 : Int32) + ((((((p0).toUInt32 >>> (((10 : Int32) * p1) &&& 31).toUInt32).toInt32 &&& (1023 : Int32))).toUInt32 >>> ((2 : Int32) &&& 31).toUInt32).toInt32 &&& (1 : Int32)))))])) (fun _ kK => XS.icmpYes X0.here hx rfl (pc0 := 44) (pc' := 56) rfl (hb hby d20_44) rfl (feq (hc3)).2 (by decide) (by decide) (XS.bipush X0.here hx rfl (hb hby d20_56) (XS.iload X0.here hx rfl (hb hby d20_58) rfl (XS.iconst X0.here hx rfl (hb hby d20_60) (XS.iand X0.here hx rfl (hb hby d20_61) rfl (XS.iadd X0.here hx rfl (hb hby d20_62) rfl (XS.i2c X0.here hx rfl (hb hby d20_63) rfl kK))))))) ?_
        refine OwnEnd.ret X0 (v := (some (.int (nar .char (nar .char ((97 : Int32) + ((((((p0).toUInt32 >>> (((10 : Int32) * p1) &&& 31).toUInt32).toInt32 &&& (1023 : Int32))).toUInt32 >>> ((2 : Int32) &&& 31).toUInt32).toInt32 &&& (1 : Int32)))))))) (fun h => by rw [Bd.returns] at h; cases h) hlk (fun fs hr => retN X0 hx (t := .char) Bd.returns (by simp) (hb hby d20_64) hr) (by decide) (by decide) (Q := Qdr Z p0 p1 h0 n0) e0 ?_
        exact ⟨(nar .char (nar .char ((97 : Int32) + ((((((p0).toUInt32 >>> (((10 : Int32) * p1) &&& 31).toUInt32).toInt32 &&& (1023 : Int32))).toUInt32 >>> ((2 : Int32) &&& 31).toUInt32).toInt32 &&& (1 : Int32))))), rfl, N0, rfl, (rng_char (fits_nar_char _))⟩

theorem own_efmk (m : MethodId) (p0 : Int32) (p1 : Int32) : entryFrame m #[(.int p0), (.int p1)] 5 = mkF m 0 #[.val (.int p0), .val (.int p1), .unset, .unset, .unset] [] := by first | (simp [entryFrame, mkF, argsToLocals, Value.category]; done) | rfl
def Qmk (Z : State) (p0 : Int32) (p1 : Int32) (h0 : Heap) (n0 : Nat) (v : Option Value) (h : Heap) (L : List Loc) : Prop := ∃ (x : Addr) (t : Addr) (kb : ClassId) (N : Int32) (vs : List Value) (cd : Int32) (cs : List Int32), v = some (.ref x) ∧ Fr n0 L ∧ Keep h0 h [] ∧ (Exa Z h x "java/lang/String") ∧ (Fld Z h x "java/lang/String" "value" "[B" (.ref t)) ∧ (Fld Z h x "java/lang/String" "coder" "B" (.int cd)) ∧ (Arv Z h t kb .byte N vs (.int (0 : Int32))) ∧ (StrChars.Road.CodA cs cd N vs) ∧ (∀ c ∈ (cs : List Int32), ¬ c < (0 : Int32) ∧ ¬ (65535 : Int32) < c) ∧ (own_13 cs) ∧ (Array.size h0 ≤ x) ∧ (Array.size h0 ≤ t)
set_option maxRecDepth 65536 in
set_option maxHeartbeats 40000000 in
theorem rmmk (l : Launch) (Z : State) (a0 : Array Value) (G : OwnG Z a0) (ws : List Jvm.Cond) (p0 : Int32) (p1 : Int32) (h0 : Heap) (n0 : Nat) (O0 : Old Z n0 h0)  :
    MetFree l own_m21 (head1 (Jvm.Cond.code own_m21 method_4_code 5 (some (.object "java/lang/String")) :: ws) ({ frames := 6, cells := 4, slots := 16, locals := 88 } : Room)) (fun a U => a = #[(.int p0), (.int p1)] ∧ Z.Warmed39 U.vm ∧ U.heap = h0) (fun _ _ _ _ _ => True) (fun _ U o U' => ∃ v L, o = .returned v ∧ Qmk Z p0 p1 h0 n0 v U'.heap L ∧ FrameEnd U o U' L ({ frames := 6, cells := 4, slots := 16, locals := 88 } : Room).cells ({ frames := 6, cells := 4, slots := 16, locals := 88 } : Room).slots) := by
  refine MetFree.of_bodySF (plainFor_of_name pn_4) hisR ?_
  intro p e s m args below meth cD s₁ Bd hml0 hP hK
  obtain ⟨rfl, hZ, hh⟩ := hP
  have hw := G.1
  have hx := Bd.exec
  have hby := Bd.bytes
  have hml : cD.maxLocals = 5 := hml0
  have hown : s.vm.findClass "com/example/collie/collie/engine/MinedPairLastCharacterMatchPinLaw" = some m.cls := findClass_of_methodNamed Bd.named
  have hnm := (name_of_methodNamed Bd.named Bd.method).1
  have hlk := Bd.notSynchronized
  have X0 : Stand p l e ({ frames := 6, cells := 4, slots := 16, locals := 88 } : Room) s m #[(.int p0), (.int p1)] below meth cD s₁ [] 0 0 := Stand.of_body Bd
  have e0 : s₁.heap = h0 := by rw [← hh, Bd.state]; rfl
  have K0 : Keep h0 h0 [] := Keep.refl h0 _
  have Z0 := own_old_le O0
  have N0 := Fr.nil n0
  refine OwnEnd.start (g' := (mkF m 0 #[.val (.int p0), .val (.int p1), .unset, .unset, .unset] [])) (own_efmk m p0 p1) ?_
  refine OwnEnd.of (S' := s₁.setTop (mkF m 2 #[.val (.int p0), .val (.int p1), .unset, .unset, .unset] [(.int (0 : Int32)), (.int p0)])) (fun _ kK => XS.iloadN X0.here hx rfl (hb hby d21_0) rfl (XS.iconst X0.here hx rfl (hb hby d21_1) kK)) ?_
  obtain ⟨_, _, ⟨T1, L1, k1, n1⟩, -, X1, ⟨Lc1, hQ1, l1, y1, z1⟩, st1⟩ := Jvm.LawKit.callS X0 hx (y := own_m20) hown (mvT hZ (own_w G 7 rfl)) (mvT hZ (own_w G 8 rfl)) (mvT hZ (own_w G 5 rfl)) (mvT hZ (own_w G 9 rfl)) (by decide) (backOf (W := 0) (rmdr l Z a0 G [] p0 (0 : Int32) h0 n0 O0 ) hZ (own_w G 9 rfl) (own_w G 5 rfl) (by decide) (by decide)) (g := (mkF m 2 #[.val (.int p0), .val (.int p1), .unset, .unset, .unset] [(.int (0 : Int32)), (.int p0)])) rfl (by rw [hml]; rfl) (argsL := [(.int p0), (.int (0 : Int32))]) (rest := []) (lenOf pd_14 rfl) rfl (by show 2 * 0 + _ ≤ _; exact Nat.le_of_eq rfl) (hb hby d21_2) (fun _ _ => ⟨rfl, e0, (by decide : 0 + 0 ≤ _), (by decide : 0 + 0 ≤ _)⟩)
  dsimp only [Pt.U, Pt.locs, Pt.cells, Pt.slots] at X1 l1 y1 z1 st1 hQ1
  subst l1 y1 z1
  obtain ⟨c_1, rfl, N1q, eh1, r1_0⟩ := hQ1
  have N1 := Fr.app N0 N1q
  refine OwnEnd.of (S' := T1.setTop (mkF m 5 #[.val (.int p0), .val (.int p1), .unset, .unset, .unset] [(.int c_1)])) st1 ?_
  refine OwnEnd.of (S' := T1.setTop (mkF m 8 #[.val (.int p0), .val (.int p1), .val (.int c_1), .unset, .unset] [(.int (1 : Int32)), (.int p0)])) (fun _ kK => XS.istoreN X1.here hx rfl (hb hby d21_5) rfl (l' := #[.val (.int p0), .val (.int p1), .val (.int c_1), .unset, .unset]) rfl (XS.iloadN X1.here hx rfl (hb hby d21_6) rfl (XS.iconst X1.here hx rfl (hb hby d21_7) kK))) ?_
  obtain ⟨_, _, ⟨T2, L2, k2, n2⟩, -, X2, ⟨Lc2, hQ2, l2, y2, z2⟩, st2⟩ := Jvm.LawKit.callS X1 hx (y := own_m20) hown (mvT hZ (own_w G 7 rfl)) (mvT hZ (own_w G 8 rfl)) (mvT hZ (own_w G 5 rfl)) (mvT hZ (own_w G 9 rfl)) (by decide) (backOf (W := 0) (rmdr l Z a0 G [] p0 (1 : Int32) h0 n0 O0 ) hZ (own_w G 9 rfl) (own_w G 5 rfl) (by decide) (by decide)) (g := (mkF m 8 #[.val (.int p0), .val (.int p1), .val (.int c_1), .unset, .unset] [(.int (1 : Int32)), (.int p0)])) rfl (by rw [hml]; rfl) (argsL := [(.int p0), (.int (1 : Int32))]) (rest := []) (lenOf pd_14 rfl) rfl (by show 2 * 0 + _ ≤ _; exact Nat.le_of_eq rfl) (hb hby d21_8) (fun _ _ => ⟨rfl, eh1, (by decide : 0 + 0 ≤ _), (by decide : 0 + 0 ≤ _)⟩)
  dsimp only [Pt.U, Pt.locs, Pt.cells, Pt.slots] at X2 l2 y2 z2 st2 hQ2
  subst l2 y2 z2
  obtain ⟨c_2, rfl, N2q, eh2, r2_0⟩ := hQ2
  have N2 := Fr.app N1 N2q
  refine OwnEnd.of (S' := T2.setTop (mkF m 11 #[.val (.int p0), .val (.int p1), .val (.int c_1), .unset, .unset] [(.int c_2)])) st2 ?_
  refine OwnEnd.of (S' := T2.setTop (mkF m 14 #[.val (.int p0), .val (.int p1), .val (.int c_1), .val (.int c_2), .unset] [(.int (2 : Int32)), (.int p0)])) (fun _ kK => XS.istoreN X2.here hx rfl (hb hby d21_11) rfl (l' := #[.val (.int p0), .val (.int p1), .val (.int c_1), .val (.int c_2), .unset]) rfl (XS.iloadN X2.here hx rfl (hb hby d21_12) rfl (XS.iconst X2.here hx rfl (hb hby d21_13) kK))) ?_
  obtain ⟨_, _, ⟨T3, L3, k3, n3⟩, -, X3, ⟨Lc3, hQ3, l3, y3, z3⟩, st3⟩ := Jvm.LawKit.callS X2 hx (y := own_m20) hown (mvT hZ (own_w G 7 rfl)) (mvT hZ (own_w G 8 rfl)) (mvT hZ (own_w G 5 rfl)) (mvT hZ (own_w G 9 rfl)) (by decide) (backOf (W := 0) (rmdr l Z a0 G [] p0 (2 : Int32) h0 n0 O0 ) hZ (own_w G 9 rfl) (own_w G 5 rfl) (by decide) (by decide)) (g := (mkF m 14 #[.val (.int p0), .val (.int p1), .val (.int c_1), .val (.int c_2), .unset] [(.int (2 : Int32)), (.int p0)])) rfl (by rw [hml]; rfl) (argsL := [(.int p0), (.int (2 : Int32))]) (rest := []) (lenOf pd_14 rfl) rfl (by show 2 * 0 + _ ≤ _; exact Nat.le_of_eq rfl) (hb hby d21_14) (fun _ _ => ⟨rfl, eh2, (by decide : 0 + 0 ≤ _), (by decide : 0 + 0 ≤ _)⟩)
  dsimp only [Pt.U, Pt.locs, Pt.cells, Pt.slots] at X3 l3 y3 z3 st3 hQ3
  subst l3 y3 z3
  obtain ⟨c_3, rfl, N3q, eh3, r3_0⟩ := hQ3
  have N3 := Fr.app N2 N3q
  refine OwnEnd.of (S' := T3.setTop (mkF m 17 #[.val (.int p0), .val (.int p1), .val (.int c_1), .val (.int c_2), .unset] [(.int c_3)])) st3 ?_
  refine OwnEnd.of (S' := T3.setTop (mkF m 21 #[.val (.int p0), .val (.int p1), .val (.int c_1), .val (.int c_2), .val (.int c_3)] [(.int (1 : Int32)), (.int p1)])) (fun _ kK => XS.istore X3.here hx rfl (hb hby d21_17) rfl (l' := #[.val (.int p0), .val (.int p1), .val (.int c_1), .val (.int c_2), .val (.int c_3)]) rfl (XS.iloadN X3.here hx rfl (hb hby d21_19) rfl (XS.iconst X3.here hx rfl (hb hby d21_20) kK))) ?_
  rcases Decidable.em (p1 = (1 : Int32)) with hc4 | hc4
  · refine OwnEnd.of (S' := T3.setTop (mkF m 24 #[.val (.int p0), .val (.int p1), .val (.int c_1), .val (.int c_2), .val (.int c_3)] [])) (fun _ kK => XS.icmpNo X3.here hx rfl (hb hby d21_21) rfl (teq (hc4)).2 kK) ?_
    obtain ⟨T5, h5, X5, e5, E5, A5, D5, -, st5⟩ := newO X3 hx hZ hown (own_w G 10 rfl) (own_w G 11 rfl) (own_w G 12 rfl) eh3 (g := (mkF m 24 #[.val (.int p0), .val (.int p1), .val (.int c_1), .val (.int c_2), .val (.int c_3)] [])) rfl (hb hby d21_24) (by decide) (by decide)
    obtain ⟨b5, g5⟩ : ∃ z, z = Array.size h0 := ⟨_, rfl⟩
    rw [← g5] at A5 D5 st5
    have lt_b5 := own_ltN' A5.lt
    have sz6 := E5.1
    have K6 := K0.ext E5
    have O6 := O0.ext E5
    have F5_coder : Fld Z h5 b5 "java/lang/String" "coder" "B" (.int (0 : Int32)) := D5 (Or.inr (own_w G 37 rfl)) (ty := .byte) (by decide)
    have F5_value : Fld Z h5 b5 "java/lang/String" "value" "[B" .null := D5 (Or.inr (own_w G 39 rfl)) (ty := (.array .byte)) (by decide)
    refine OwnEnd.of (S' := T5.setTop (mkF m 27 #[.val (.int p0), .val (.int p1), .val (.int c_1), .val (.int c_2), .val (.int c_3)] [(.ref b5)])) st5 ?_
    refine OwnEnd.of (S' := T5.setTop (mkF m 29 #[.val (.int p0), .val (.int p1), .val (.int c_1), .val (.int c_2), .val (.int c_3)] [(.int (1 : Int32)), (.ref b5), (.ref b5)])) (fun _ kK => XS.dup X5.here hx rfl (hb hby d21_27) rfl rfl (XS.iconst X5.here hx rfl (hb hby d21_28) kK)) ?_
    obtain ⟨T7, h7, k7, X7, e7, E7, A7, st7⟩ := newP X5 hx hZ (own_w G 13 rfl) e5 (g := (mkF m 29 #[.val (.int p0), .val (.int p1), .val (.int c_1), .val (.int c_2), .val (.int c_3)] [(.int (1 : Int32)), (.ref b5), (.ref b5)])) rfl (hb hby d21_29) rfl (by decide) (cap := 1) (by decide) (by decide) (by decide) (by decide)
    obtain ⟨b7, g7⟩ : ∃ z, z = Array.size h5 := ⟨_, rfl⟩
    rw [← g7] at A7 st7
    have lt_b7 := own_ltN' A7.lt
    have sz8 := E7.1
    have K8 := K6.ext E7
    have O8 := O6.ext E7
    have V7 : Arv Z h7 b7 k7 .char (1 : Int32) [(.int (0 : Int32))] (.int (0 : Int32)) := (Arv.new A7 (by decide)).pad (pad_rep [] (.int (0 : Int32)) 1)
    refine OwnEnd.of (S' := T7.setTop (mkF m 31 #[.val (.int p0), .val (.int p1), .val (.int c_1), .val (.int c_2), .val (.int c_3)] [(.ref b7), (.ref b5), (.ref b5)])) st7 ?_
    refine OwnEnd.of (S' := T7.setTop (mkF m 34 #[.val (.int p0), .val (.int p1), .val (.int c_1), .val (.int c_2), .val (.int c_3)] [(.int c_1), (.int (0 : Int32)), (.ref b7), (.ref b7), (.ref b5), (.ref b5)])) (fun _ kK => XS.dup X7.here hx rfl (hb hby d21_31) rfl rfl (XS.iconst X7.here hx rfl (hb hby d21_32) (XS.iloadN X7.here hx rfl (hb hby d21_33) rfl kK))) ?_
    obtain ⟨cl9, Ar9, q9, S9, N9', H9, G9⟩ := id V7
    have hin10 : ¬ ((0 : Int32) < 0 ∨ cl9.slots.size ≤ ((0 : Int32)).toNatClampNeg) := inb_of S9 ⟨by decide, by decide⟩
    obtain ⟨T10, h10, X10, e10, W10, st10⟩ := stC X7 hx hZ e7 Ar9 (j := (0 : Int32)) hin10 (g := (mkF m 34 #[.val (.int p0), .val (.int p1), .val (.int c_1), .val (.int c_2), .val (.int c_3)] [(.int c_1), (.int (0 : Int32)), (.ref b7), (.ref b7), (.ref b5), (.ref b5)])) rfl rfl (hb hby d21_34)
    have N10 := Fr.snoc X10 N3 (by omega)
    have sz11 := own_wr_le W10
    have K11 := K8.wr W10 (Or.inr (by omega))
    have O11 := O8.wr W10 (by omega)
    have V10 : Arv Z h10 b7 k7 .char (1 : Int32) [(.int (nar .char c_1))] (.int (0 : Int32)) := Arv.set Ar9 q9 S9 N9' H9 G9 (fits_nar_char _) W10 0 rfl (Nat.le_of_ble_eq_true rfl)
    refine OwnEnd.of (S' := T10.setTop (mkF m 35 #[.val (.int p0), .val (.int p1), .val (.int c_1), .val (.int c_2), .val (.int c_3)] [(.ref b7), (.ref b5), (.ref b5)])) st10 ?_
    have V12 : Arv Z h10 b7 k7 .char (1 : Int32) [(.int c_1)] (.int (0 : Int32)) := by have q := V10; rw [own_narc r1_0.1 r1_0.2] at q; exact q
    have hR13 : ∀ c ∈ ([c_1] : List Int32), ¬ c < (0 : Int32) ∧ ¬ (65535 : Int32) < c := own_all_1 r1_0
    have f14 : Exa Z h10 b5 "java/lang/String" := ((A5.ext E7).wr W10)
    have f15 : Fld Z h10 b5 "java/lang/String" "value" "[B" .null := ((F5_value.ext E7).other W10 (Or.inl (own_ne (by omega))))
    have f16 : Fld Z h10 b5 "java/lang/String" "coder" "B" (.int (0 : Int32)) := ((F5_coder.ext E7).other W10 (Or.inl (own_ne (by omega))))
    obtain ⟨_, _, ⟨T17, L17, k17, n17⟩, -, X17, ⟨Lc17, hQ17, l17, y17, z17⟩, st17⟩ := Jvm.Stand.specialBack X10 hx (y := own_m19) rfl hown (mvT hZ (own_w G 14 rfl)) (mvT hZ (own_w G 15 rfl)) (mvT hZ (own_w G 16 rfl)) (by decide) (backOf (W := 1) (rmnw1 l Z a0 G [] b5 b7 .null (.int (0 : Int32)) k7 (.int (0 : Int32)) c_1 h10 n0 O11 f14 f15 f16 (by omega) V12 hR13 (own_ne (by omega) : b5 ≠ b7)) hZ (own_w G 16 rfl) (own_w G 12 rfl) (by decide) (by decide)) (g := (mkF m 35 #[.val (.int p0), .val (.int p1), .val (.int c_1), .val (.int c_2), .val (.int c_3)] [(.ref b7), (.ref b5), (.ref b5)])) rfl (by rw [hml]; rfl) (Steps.refl _) (a := b5) (argsL := [(.ref b7)]) (rest := [(.ref b5)]) (lenOf pd_15 rfl) rfl (by show 2 * 0 + _ ≤ _; exact Nat.le_of_eq rfl) (hb hby d21_35) (fun _ _ => ⟨rfl, e10, (by decide : 2 + 2 ≤ _), (by decide : 5 + 3 ≤ _)⟩)
    dsimp only [Pt.U, Pt.locs, Pt.cells, Pt.slots] at X17 l17 y17 z17 st17 hQ17
    subst l17 y17 z17
    obtain ⟨t_17, kb_17, N_17, vs_17, cd_17, rfl, N17q, Kq17, r17_0, r17_1, r17_2, r17_3, r17_4, r17_5⟩ := hQ17
    have N17 := Fr.app N10 N17q
    have sz18 := Kq17.1
    have K18 := K11.trans Kq17 (own_all1 (Or.inr (by omega)))
    have O18 := O11.keep Kq17 (own_all1 (by omega))
    have ltr17_0 := own_ltN' r17_0.lt
    have ltr17_1 := own_ltN' r17_1.lt
    have ltr17_2 := own_ltN' r17_2.lt
    have ltr17_3 := own_ltN' r17_3.lt
    refine OwnEnd.tr (S' := T17.setTop (mkF m 38 #[.val (.int p0), .val (.int p1), .val (.int c_1), .val (.int c_2), .val (.int c_3)] [(.ref b5)])) st17 ?_
    refine OwnEnd.ret X17 (v := (some (.ref b5))) (fun h => by rw [Bd.returns] at h; cases h) hlk (fun fs hr => retOut X17 hx Bd.returns rfl (Or.inr (Or.inr (Or.inr (Or.inr ⟨rfl, rfl, rfl⟩)))) (hb hby d21_38) hr) (by decide) (by decide) (Q := Qmk Z p0 p1 h0 n0) rfl ?_
    exact ⟨b5, t_17, kb_17, N_17, vs_17, cd_17, [c_1], rfl, N17, K18, r17_0, r17_1, r17_2, r17_3, (r17_4), (hR13), (Or.inl ⟨_, rfl⟩), (by omega), (by omega)⟩
  · refine OwnEnd.of (S' := T3.setTop (mkF m 41 #[.val (.int p0), .val (.int p1), .val (.int c_1), .val (.int c_2), .val (.int c_3)] [(.int (2 : Int32)), (.int p1)])) (fun _ kK => XS.icmpYes X3.here hx rfl (pc0 := 21) (pc' := 39) rfl (hb hby d21_21) rfl (feq (hc4)).2 (by decide) (by decide) (XS.iloadN X3.here hx rfl (hb hby d21_39) rfl (XS.iconst X3.here hx rfl (hb hby d21_40) kK))) ?_
    rcases Decidable.em (p1 = (2 : Int32)) with hc19 | hc19
    · refine OwnEnd.of (S' := T3.setTop (mkF m 44 #[.val (.int p0), .val (.int p1), .val (.int c_1), .val (.int c_2), .val (.int c_3)] [])) (fun _ kK => XS.icmpNo X3.here hx rfl (hb hby d21_41) rfl (teq (hc19)).2 kK) ?_
      obtain ⟨T20, h20, X20, e20, E20, A20, D20, -, st20⟩ := newO X3 hx hZ hown (own_w G 10 rfl) (own_w G 11 rfl) (own_w G 12 rfl) eh3 (g := (mkF m 44 #[.val (.int p0), .val (.int p1), .val (.int c_1), .val (.int c_2), .val (.int c_3)] [])) rfl (hb hby d21_44) (by decide) (by decide)
      obtain ⟨b20, g20⟩ : ∃ z, z = Array.size h0 := ⟨_, rfl⟩
      rw [← g20] at A20 D20 st20
      have lt_b20 := own_ltN' A20.lt
      have sz21 := E20.1
      have K21 := K0.ext E20
      have O21 := O0.ext E20
      have F20_coder : Fld Z h20 b20 "java/lang/String" "coder" "B" (.int (0 : Int32)) := D20 (Or.inr (own_w G 37 rfl)) (ty := .byte) (by decide)
      have F20_value : Fld Z h20 b20 "java/lang/String" "value" "[B" .null := D20 (Or.inr (own_w G 39 rfl)) (ty := (.array .byte)) (by decide)
      refine OwnEnd.of (S' := T20.setTop (mkF m 47 #[.val (.int p0), .val (.int p1), .val (.int c_1), .val (.int c_2), .val (.int c_3)] [(.ref b20)])) st20 ?_
      refine OwnEnd.of (S' := T20.setTop (mkF m 49 #[.val (.int p0), .val (.int p1), .val (.int c_1), .val (.int c_2), .val (.int c_3)] [(.int (2 : Int32)), (.ref b20), (.ref b20)])) (fun _ kK => XS.dup X20.here hx rfl (hb hby d21_47) rfl rfl (XS.iconst X20.here hx rfl (hb hby d21_48) kK)) ?_
      obtain ⟨T22, h22, k22, X22, e22, E22, A22, st22⟩ := newP X20 hx hZ (own_w G 13 rfl) e20 (g := (mkF m 49 #[.val (.int p0), .val (.int p1), .val (.int c_1), .val (.int c_2), .val (.int c_3)] [(.int (2 : Int32)), (.ref b20), (.ref b20)])) rfl (hb hby d21_49) rfl (by decide) (cap := 2) (by decide) (by decide) (by decide) (by decide)
      obtain ⟨b22, g22⟩ : ∃ z, z = Array.size h20 := ⟨_, rfl⟩
      rw [← g22] at A22 st22
      have lt_b22 := own_ltN' A22.lt
      have sz23 := E22.1
      have K23 := K21.ext E22
      have O23 := O21.ext E22
      have V22 : Arv Z h22 b22 k22 .char (2 : Int32) [(.int (0 : Int32)), (.int (0 : Int32))] (.int (0 : Int32)) := (Arv.new A22 (by decide)).pad (pad_rep [] (.int (0 : Int32)) 2)
      refine OwnEnd.of (S' := T22.setTop (mkF m 51 #[.val (.int p0), .val (.int p1), .val (.int c_1), .val (.int c_2), .val (.int c_3)] [(.ref b22), (.ref b20), (.ref b20)])) st22 ?_
      refine OwnEnd.of (S' := T22.setTop (mkF m 54 #[.val (.int p0), .val (.int p1), .val (.int c_1), .val (.int c_2), .val (.int c_3)] [(.int c_1), (.int (0 : Int32)), (.ref b22), (.ref b22), (.ref b20), (.ref b20)])) (fun _ kK => XS.dup X22.here hx rfl (hb hby d21_51) rfl rfl (XS.iconst X22.here hx rfl (hb hby d21_52) (XS.iloadN X22.here hx rfl (hb hby d21_53) rfl kK))) ?_
      obtain ⟨cl24, Ar24, q24, S24, N24', H24, G24⟩ := id V22
      have hin25 : ¬ ((0 : Int32) < 0 ∨ cl24.slots.size ≤ ((0 : Int32)).toNatClampNeg) := inb_of S24 ⟨by decide, by decide⟩
      obtain ⟨T25, h25, X25, e25, W25, st25⟩ := stC X22 hx hZ e22 Ar24 (j := (0 : Int32)) hin25 (g := (mkF m 54 #[.val (.int p0), .val (.int p1), .val (.int c_1), .val (.int c_2), .val (.int c_3)] [(.int c_1), (.int (0 : Int32)), (.ref b22), (.ref b22), (.ref b20), (.ref b20)])) rfl rfl (hb hby d21_54)
      have N25 := Fr.snoc X25 N3 (by omega)
      have sz26 := own_wr_le W25
      have K26 := K23.wr W25 (Or.inr (by omega))
      have O26 := O23.wr W25 (by omega)
      have V25 : Arv Z h25 b22 k22 .char (2 : Int32) [(.int (nar .char c_1)), (.int (0 : Int32))] (.int (0 : Int32)) := Arv.set Ar24 q24 S24 N24' H24 G24 (fits_nar_char _) W25 0 rfl (Nat.le_of_ble_eq_true rfl)
      refine OwnEnd.of (S' := T25.setTop (mkF m 55 #[.val (.int p0), .val (.int p1), .val (.int c_1), .val (.int c_2), .val (.int c_3)] [(.ref b22), (.ref b20), (.ref b20)])) st25 ?_
      refine OwnEnd.of (S' := T25.setTop (mkF m 58 #[.val (.int p0), .val (.int p1), .val (.int c_1), .val (.int c_2), .val (.int c_3)] [(.int c_2), (.int (1 : Int32)), (.ref b22), (.ref b22), (.ref b20), (.ref b20)])) (fun _ kK => XS.dup X25.here hx rfl (hb hby d21_55) rfl rfl (XS.iconst X25.here hx rfl (hb hby d21_56) (XS.iloadN X25.here hx rfl (hb hby d21_57) rfl kK))) ?_
      obtain ⟨cl27, Ar27, q27, S27, N27', H27, G27⟩ := id V25
      have hin28 : ¬ ((1 : Int32) < 0 ∨ cl27.slots.size ≤ ((1 : Int32)).toNatClampNeg) := inb_of S27 ⟨by decide, by decide⟩
      obtain ⟨T28, h28, X28, e28, W28, st28⟩ := stC X25 hx hZ e25 Ar27 (j := (1 : Int32)) hin28 (g := (mkF m 58 #[.val (.int p0), .val (.int p1), .val (.int c_1), .val (.int c_2), .val (.int c_3)] [(.int c_2), (.int (1 : Int32)), (.ref b22), (.ref b22), (.ref b20), (.ref b20)])) rfl rfl (hb hby d21_58)
      have N28 := Fr.snoc X28 N25 (by omega)
      have sz29 := own_wr_le W28
      have K29 := K26.wr W28 (Or.inr (by omega))
      have O29 := O26.wr W28 (by omega)
      have V28 : Arv Z h28 b22 k22 .char (2 : Int32) [(.int (nar .char c_1)), (.int (nar .char c_2))] (.int (0 : Int32)) := Arv.set Ar27 q27 S27 N27' H27 G27 (fits_nar_char _) W28 1 rfl (Nat.le_of_ble_eq_true rfl)
      refine OwnEnd.of (S' := T28.setTop (mkF m 59 #[.val (.int p0), .val (.int p1), .val (.int c_1), .val (.int c_2), .val (.int c_3)] [(.ref b22), (.ref b20), (.ref b20)])) st28 ?_
      have V30 : Arv Z h28 b22 k22 .char (2 : Int32) [(.int c_1), (.int c_2)] (.int (0 : Int32)) := by have q := V28; rw [own_narc r1_0.1 r1_0.2, own_narc r2_0.1 r2_0.2] at q; exact q
      have hR31 : ∀ c ∈ ([c_1, c_2] : List Int32), ¬ c < (0 : Int32) ∧ ¬ (65535 : Int32) < c := own_all_2 r1_0 r2_0
      have f32 : Exa Z h28 b20 "java/lang/String" := (((A20.ext E22).wr W25).wr W28)
      have f33 : Fld Z h28 b20 "java/lang/String" "value" "[B" .null := (((F20_value.ext E22).other W25 (Or.inl (own_ne (by omega)))).other W28 (Or.inl (own_ne (by omega))))
      have f34 : Fld Z h28 b20 "java/lang/String" "coder" "B" (.int (0 : Int32)) := (((F20_coder.ext E22).other W25 (Or.inl (own_ne (by omega)))).other W28 (Or.inl (own_ne (by omega))))
      obtain ⟨_, _, ⟨T35, L35, k35, n35⟩, -, X35, ⟨Lc35, hQ35, l35, y35, z35⟩, st35⟩ := Jvm.Stand.specialBack X28 hx (y := own_m19) rfl hown (mvT hZ (own_w G 14 rfl)) (mvT hZ (own_w G 15 rfl)) (mvT hZ (own_w G 16 rfl)) (by decide) (backOf (W := 1) (rmnw2 l Z a0 G [] b20 b22 .null (.int (0 : Int32)) k22 (.int (0 : Int32)) c_1 c_2 h28 n0 O29 f32 f33 f34 (by omega) V30 hR31 (own_ne (by omega) : b20 ≠ b22)) hZ (own_w G 16 rfl) (own_w G 12 rfl) (by decide) (by decide)) (g := (mkF m 59 #[.val (.int p0), .val (.int p1), .val (.int c_1), .val (.int c_2), .val (.int c_3)] [(.ref b22), (.ref b20), (.ref b20)])) rfl (by rw [hml]; rfl) (Steps.refl _) (a := b20) (argsL := [(.ref b22)]) (rest := [(.ref b20)]) (lenOf pd_15 rfl) rfl (by show 2 * 0 + _ ≤ _; exact Nat.le_of_eq rfl) (hb hby d21_59) (fun _ _ => ⟨rfl, e28, (by decide : 2 + 2 ≤ _), (by decide : 6 + 6 ≤ _)⟩)
      dsimp only [Pt.U, Pt.locs, Pt.cells, Pt.slots] at X35 l35 y35 z35 st35 hQ35
      subst l35 y35 z35
      obtain ⟨t_35, kb_35, N_35, vs_35, cd_35, rfl, N35q, Kq35, r35_0, r35_1, r35_2, r35_3, r35_4, r35_5⟩ := hQ35
      have N35 := Fr.app N28 N35q
      have sz36 := Kq35.1
      have K36 := K29.trans Kq35 (own_all1 (Or.inr (by omega)))
      have O36 := O29.keep Kq35 (own_all1 (by omega))
      have ltr35_0 := own_ltN' r35_0.lt
      have ltr35_1 := own_ltN' r35_1.lt
      have ltr35_2 := own_ltN' r35_2.lt
      have ltr35_3 := own_ltN' r35_3.lt
      refine OwnEnd.tr (S' := T35.setTop (mkF m 62 #[.val (.int p0), .val (.int p1), .val (.int c_1), .val (.int c_2), .val (.int c_3)] [(.ref b20)])) st35 ?_
      refine OwnEnd.ret X35 (v := (some (.ref b20))) (fun h => by rw [Bd.returns] at h; cases h) hlk (fun fs hr => retOut X35 hx Bd.returns rfl (Or.inr (Or.inr (Or.inr (Or.inr ⟨rfl, rfl, rfl⟩)))) (hb hby d21_62) hr) (by decide) (by decide) (Q := Qmk Z p0 p1 h0 n0) rfl ?_
      exact ⟨b20, t_35, kb_35, N_35, vs_35, cd_35, [c_1, c_2], rfl, N35, K36, r35_0, r35_1, r35_2, r35_3, (r35_4), (hR31), (Or.inr (Or.inl ⟨_, _, rfl⟩)), (by omega), (by omega)⟩
    · refine OwnEnd.of (S' := T3.setTop (mkF m 63 #[.val (.int p0), .val (.int p1), .val (.int c_1), .val (.int c_2), .val (.int c_3)] [])) (fun _ kK => XS.icmpYes X3.here hx rfl (pc0 := 41) (pc' := 63) rfl (hb hby d21_41) rfl (feq (hc19)).2 (by decide) (by decide) kK) ?_
      obtain ⟨T37, h37, X37, e37, E37, A37, D37, -, st37⟩ := newO X3 hx hZ hown (own_w G 10 rfl) (own_w G 11 rfl) (own_w G 12 rfl) eh3 (g := (mkF m 63 #[.val (.int p0), .val (.int p1), .val (.int c_1), .val (.int c_2), .val (.int c_3)] [])) rfl (hb hby d21_63) (by decide) (by decide)
      obtain ⟨b37, g37⟩ : ∃ z, z = Array.size h0 := ⟨_, rfl⟩
      rw [← g37] at A37 D37 st37
      have lt_b37 := own_ltN' A37.lt
      have sz38 := E37.1
      have K38 := K0.ext E37
      have O38 := O0.ext E37
      have F37_coder : Fld Z h37 b37 "java/lang/String" "coder" "B" (.int (0 : Int32)) := D37 (Or.inr (own_w G 37 rfl)) (ty := .byte) (by decide)
      have F37_value : Fld Z h37 b37 "java/lang/String" "value" "[B" .null := D37 (Or.inr (own_w G 39 rfl)) (ty := (.array .byte)) (by decide)
      refine OwnEnd.of (S' := T37.setTop (mkF m 66 #[.val (.int p0), .val (.int p1), .val (.int c_1), .val (.int c_2), .val (.int c_3)] [(.ref b37)])) st37 ?_
      refine OwnEnd.of (S' := T37.setTop (mkF m 68 #[.val (.int p0), .val (.int p1), .val (.int c_1), .val (.int c_2), .val (.int c_3)] [(.int (3 : Int32)), (.ref b37), (.ref b37)])) (fun _ kK => XS.dup X37.here hx rfl (hb hby d21_66) rfl rfl (XS.iconst X37.here hx rfl (hb hby d21_67) kK)) ?_
      obtain ⟨T39, h39, k39, X39, e39, E39, A39, st39⟩ := newP X37 hx hZ (own_w G 13 rfl) e37 (g := (mkF m 68 #[.val (.int p0), .val (.int p1), .val (.int c_1), .val (.int c_2), .val (.int c_3)] [(.int (3 : Int32)), (.ref b37), (.ref b37)])) rfl (hb hby d21_68) rfl (by decide) (cap := 3) (by decide) (by decide) (by decide) (by decide)
      obtain ⟨b39, g39⟩ : ∃ z, z = Array.size h37 := ⟨_, rfl⟩
      rw [← g39] at A39 st39
      have lt_b39 := own_ltN' A39.lt
      have sz40 := E39.1
      have K40 := K38.ext E39
      have O40 := O38.ext E39
      have V39 : Arv Z h39 b39 k39 .char (3 : Int32) [(.int (0 : Int32)), (.int (0 : Int32)), (.int (0 : Int32))] (.int (0 : Int32)) := (Arv.new A39 (by decide)).pad (pad_rep [] (.int (0 : Int32)) 3)
      refine OwnEnd.of (S' := T39.setTop (mkF m 70 #[.val (.int p0), .val (.int p1), .val (.int c_1), .val (.int c_2), .val (.int c_3)] [(.ref b39), (.ref b37), (.ref b37)])) st39 ?_
      refine OwnEnd.of (S' := T39.setTop (mkF m 73 #[.val (.int p0), .val (.int p1), .val (.int c_1), .val (.int c_2), .val (.int c_3)] [(.int c_1), (.int (0 : Int32)), (.ref b39), (.ref b39), (.ref b37), (.ref b37)])) (fun _ kK => XS.dup X39.here hx rfl (hb hby d21_70) rfl rfl (XS.iconst X39.here hx rfl (hb hby d21_71) (XS.iloadN X39.here hx rfl (hb hby d21_72) rfl kK))) ?_
      obtain ⟨cl41, Ar41, q41, S41, N41', H41, G41⟩ := id V39
      have hin42 : ¬ ((0 : Int32) < 0 ∨ cl41.slots.size ≤ ((0 : Int32)).toNatClampNeg) := inb_of S41 ⟨by decide, by decide⟩
      obtain ⟨T42, h42, X42, e42, W42, st42⟩ := stC X39 hx hZ e39 Ar41 (j := (0 : Int32)) hin42 (g := (mkF m 73 #[.val (.int p0), .val (.int p1), .val (.int c_1), .val (.int c_2), .val (.int c_3)] [(.int c_1), (.int (0 : Int32)), (.ref b39), (.ref b39), (.ref b37), (.ref b37)])) rfl rfl (hb hby d21_73)
      have N42 := Fr.snoc X42 N3 (by omega)
      have sz43 := own_wr_le W42
      have K43 := K40.wr W42 (Or.inr (by omega))
      have O43 := O40.wr W42 (by omega)
      have V42 : Arv Z h42 b39 k39 .char (3 : Int32) [(.int (nar .char c_1)), (.int (0 : Int32)), (.int (0 : Int32))] (.int (0 : Int32)) := Arv.set Ar41 q41 S41 N41' H41 G41 (fits_nar_char _) W42 0 rfl (Nat.le_of_ble_eq_true rfl)
      refine OwnEnd.of (S' := T42.setTop (mkF m 74 #[.val (.int p0), .val (.int p1), .val (.int c_1), .val (.int c_2), .val (.int c_3)] [(.ref b39), (.ref b37), (.ref b37)])) st42 ?_
      refine OwnEnd.of (S' := T42.setTop (mkF m 77 #[.val (.int p0), .val (.int p1), .val (.int c_1), .val (.int c_2), .val (.int c_3)] [(.int c_2), (.int (1 : Int32)), (.ref b39), (.ref b39), (.ref b37), (.ref b37)])) (fun _ kK => XS.dup X42.here hx rfl (hb hby d21_74) rfl rfl (XS.iconst X42.here hx rfl (hb hby d21_75) (XS.iloadN X42.here hx rfl (hb hby d21_76) rfl kK))) ?_
      obtain ⟨cl44, Ar44, q44, S44, N44', H44, G44⟩ := id V42
      have hin45 : ¬ ((1 : Int32) < 0 ∨ cl44.slots.size ≤ ((1 : Int32)).toNatClampNeg) := inb_of S44 ⟨by decide, by decide⟩
      obtain ⟨T45, h45, X45, e45, W45, st45⟩ := stC X42 hx hZ e42 Ar44 (j := (1 : Int32)) hin45 (g := (mkF m 77 #[.val (.int p0), .val (.int p1), .val (.int c_1), .val (.int c_2), .val (.int c_3)] [(.int c_2), (.int (1 : Int32)), (.ref b39), (.ref b39), (.ref b37), (.ref b37)])) rfl rfl (hb hby d21_77)
      have N45 := Fr.snoc X45 N42 (by omega)
      have sz46 := own_wr_le W45
      have K46 := K43.wr W45 (Or.inr (by omega))
      have O46 := O43.wr W45 (by omega)
      have V45 : Arv Z h45 b39 k39 .char (3 : Int32) [(.int (nar .char c_1)), (.int (nar .char c_2)), (.int (0 : Int32))] (.int (0 : Int32)) := Arv.set Ar44 q44 S44 N44' H44 G44 (fits_nar_char _) W45 1 rfl (Nat.le_of_ble_eq_true rfl)
      refine OwnEnd.of (S' := T45.setTop (mkF m 78 #[.val (.int p0), .val (.int p1), .val (.int c_1), .val (.int c_2), .val (.int c_3)] [(.ref b39), (.ref b37), (.ref b37)])) st45 ?_
      refine OwnEnd.of (S' := T45.setTop (mkF m 82 #[.val (.int p0), .val (.int p1), .val (.int c_1), .val (.int c_2), .val (.int c_3)] [(.int c_3), (.int (2 : Int32)), (.ref b39), (.ref b39), (.ref b37), (.ref b37)])) (fun _ kK => XS.dup X45.here hx rfl (hb hby d21_78) rfl rfl (XS.iconst X45.here hx rfl (hb hby d21_79) (XS.iload X45.here hx rfl (hb hby d21_80) rfl kK))) ?_
      obtain ⟨cl47, Ar47, q47, S47, N47', H47, G47⟩ := id V45
      have hin48 : ¬ ((2 : Int32) < 0 ∨ cl47.slots.size ≤ ((2 : Int32)).toNatClampNeg) := inb_of S47 ⟨by decide, by decide⟩
      obtain ⟨T48, h48, X48, e48, W48, st48⟩ := stC X45 hx hZ e45 Ar47 (j := (2 : Int32)) hin48 (g := (mkF m 82 #[.val (.int p0), .val (.int p1), .val (.int c_1), .val (.int c_2), .val (.int c_3)] [(.int c_3), (.int (2 : Int32)), (.ref b39), (.ref b39), (.ref b37), (.ref b37)])) rfl rfl (hb hby d21_82)
      have N48 := Fr.snoc X48 N45 (by omega)
      have sz49 := own_wr_le W48
      have K49 := K46.wr W48 (Or.inr (by omega))
      have O49 := O46.wr W48 (by omega)
      have V48 : Arv Z h48 b39 k39 .char (3 : Int32) [(.int (nar .char c_1)), (.int (nar .char c_2)), (.int (nar .char c_3))] (.int (0 : Int32)) := Arv.set Ar47 q47 S47 N47' H47 G47 (fits_nar_char _) W48 2 rfl (Nat.le_of_ble_eq_true rfl)
      refine OwnEnd.of (S' := T48.setTop (mkF m 83 #[.val (.int p0), .val (.int p1), .val (.int c_1), .val (.int c_2), .val (.int c_3)] [(.ref b39), (.ref b37), (.ref b37)])) st48 ?_
      have V50 : Arv Z h48 b39 k39 .char (3 : Int32) [(.int c_1), (.int c_2), (.int c_3)] (.int (0 : Int32)) := by have q := V48; rw [own_narc r1_0.1 r1_0.2, own_narc r2_0.1 r2_0.2, own_narc r3_0.1 r3_0.2] at q; exact q
      have hR51 : ∀ c ∈ ([c_1, c_2, c_3] : List Int32), ¬ c < (0 : Int32) ∧ ¬ (65535 : Int32) < c := own_all_3 r1_0 r2_0 r3_0
      have f52 : Exa Z h48 b37 "java/lang/String" := ((((A37.ext E39).wr W42).wr W45).wr W48)
      have f53 : Fld Z h48 b37 "java/lang/String" "value" "[B" .null := ((((F37_value.ext E39).other W42 (Or.inl (own_ne (by omega)))).other W45 (Or.inl (own_ne (by omega)))).other W48 (Or.inl (own_ne (by omega))))
      have f54 : Fld Z h48 b37 "java/lang/String" "coder" "B" (.int (0 : Int32)) := ((((F37_coder.ext E39).other W42 (Or.inl (own_ne (by omega)))).other W45 (Or.inl (own_ne (by omega)))).other W48 (Or.inl (own_ne (by omega))))
      obtain ⟨_, _, ⟨T55, L55, k55, n55⟩, -, X55, ⟨Lc55, hQ55, l55, y55, z55⟩, st55⟩ := Jvm.Stand.specialBack X48 hx (y := own_m19) rfl hown (mvT hZ (own_w G 14 rfl)) (mvT hZ (own_w G 15 rfl)) (mvT hZ (own_w G 16 rfl)) (by decide) (backOf (W := 1) (rmnw3 l Z a0 G [] b37 b39 .null (.int (0 : Int32)) k39 (.int (0 : Int32)) c_1 c_2 c_3 h48 n0 O49 f52 f53 f54 (by omega) V50 hR51 (own_ne (by omega) : b37 ≠ b39)) hZ (own_w G 16 rfl) (own_w G 12 rfl) (by decide) (by decide)) (g := (mkF m 83 #[.val (.int p0), .val (.int p1), .val (.int c_1), .val (.int c_2), .val (.int c_3)] [(.ref b39), (.ref b37), (.ref b37)])) rfl (by rw [hml]; rfl) (Steps.refl _) (a := b37) (argsL := [(.ref b39)]) (rest := [(.ref b37)]) (lenOf pd_15 rfl) rfl (by show 2 * 0 + _ ≤ _; exact Nat.le_of_eq rfl) (hb hby d21_83) (fun _ _ => ⟨rfl, e48, (by decide : 2 + 2 ≤ _), (by decide : 7 + 9 ≤ _)⟩)
      dsimp only [Pt.U, Pt.locs, Pt.cells, Pt.slots] at X55 l55 y55 z55 st55 hQ55
      subst l55 y55 z55
      obtain ⟨t_55, kb_55, N_55, vs_55, cd_55, rfl, N55q, Kq55, r55_0, r55_1, r55_2, r55_3, r55_4, r55_5⟩ := hQ55
      have N55 := Fr.app N48 N55q
      have sz56 := Kq55.1
      have K56 := K49.trans Kq55 (own_all1 (Or.inr (by omega)))
      have O56 := O49.keep Kq55 (own_all1 (by omega))
      have ltr55_0 := own_ltN' r55_0.lt
      have ltr55_1 := own_ltN' r55_1.lt
      have ltr55_2 := own_ltN' r55_2.lt
      have ltr55_3 := own_ltN' r55_3.lt
      refine OwnEnd.tr (S' := T55.setTop (mkF m 86 #[.val (.int p0), .val (.int p1), .val (.int c_1), .val (.int c_2), .val (.int c_3)] [(.ref b37)])) st55 ?_
      refine OwnEnd.ret X55 (v := (some (.ref b37))) (fun h => by rw [Bd.returns] at h; cases h) hlk (fun fs hr => retOut X55 hx Bd.returns rfl (Or.inr (Or.inr (Or.inr (Or.inr ⟨rfl, rfl, rfl⟩)))) (hb hby d21_86) hr) (by decide) (by decide) (Q := Qmk Z p0 p1 h0 n0) rfl ?_
      exact ⟨b37, t_55, kb_55, N_55, vs_55, cd_55, [c_1, c_2, c_3], rfl, N55, K56, r55_0, r55_1, r55_2, r55_3, (r55_4), (hR51), (Or.inr (Or.inr ⟨_, _, _, rfl⟩)), (by omega), (by omega)⟩

theorem own_eflc (m : MethodId) (x0 : Addr) : entryFrame m #[(.ref x0)] 4 = mkF m 0 #[.val (.ref x0), .unset, .unset, .unset] [] := by first | (simp [entryFrame, mkF, argsToLocals, Value.category]; done) | rfl
set_option maxRecDepth 65536 in
set_option maxHeartbeats 40000000 in
theorem rmlc (l : Launch) (Z : State) (a0 : Array Value) (G : OwnG Z a0) (ws : List Jvm.Cond) (x0 : Addr) (t : Addr) (kb : ClassId) (N : Int32) (vs : List Value) (cd : Int32) (cs : List Int32) (h0 : Heap) (n0 : Nat) (O0 : Old Z n0 h0) (P0 : Exa Z h0 x0 "java/lang/String") (P1 : Fld Z h0 x0 "java/lang/String" "value" "[B" (.ref t)) (P2 : Fld Z h0 x0 "java/lang/String" "coder" "B" (.int cd)) (P3 : Arv Z h0 t kb .byte N vs (.int (0 : Int32))) (P4 : StrChars.Road.CodA cs cd N vs) (P5 : ∀ c ∈ (cs : List Int32), ¬ c < (0 : Int32) ∧ ¬ (65535 : Int32) < c) (P6 : own_13 cs) :
    MetFree l own_m22 (head1 (Jvm.Cond.code own_m22 method_5_code 4 (some .int) :: ws) ({ frames := 5, cells := 0, slots := 0, locals := 66 } : Room)) (fun a U => a = #[(.ref x0)] ∧ Z.Warmed39 U.vm ∧ U.heap = h0) (fun _ _ _ _ _ => True) (fun _ U o U' => ∃ v L, o = .returned v ∧ (own_Qint (own_cpl cs)) h0 n0 v U'.heap L ∧ FrameEnd U o U' L ({ frames := 5, cells := 0, slots := 0, locals := 66 } : Room).cells ({ frames := 5, cells := 0, slots := 0, locals := 66 } : Room).slots) := by
  refine MetFree.of_bodySF (plainFor_of_name pn_4) hisR ?_
  intro p e s m args below meth cD s₁ Bd hml0 hP hK
  obtain ⟨rfl, hZ, hh⟩ := hP
  have hw := G.1
  have hx := Bd.exec
  have hby := Bd.bytes
  have hml : cD.maxLocals = 4 := hml0
  have hown : s.vm.findClass "com/example/collie/collie/engine/MinedPairLastCharacterMatchPinLaw" = some m.cls := findClass_of_methodNamed Bd.named
  have hnm := (name_of_methodNamed Bd.named Bd.method).1
  have hlk := Bd.notSynchronized
  have X0 : Stand p l e ({ frames := 5, cells := 0, slots := 0, locals := 66 } : Room) s m #[(.ref x0)] below meth cD s₁ [] 0 0 := Stand.of_body Bd
  have e0 : s₁.heap = h0 := by rw [← hh, Bd.state]; rfl
  have lt0 := own_ltN' P0.lt
  have lt1 := own_ltN' P1.lt
  have lt2 := own_ltN' P2.lt
  have lt3 := own_ltN' P3.lt
  have K0 : Keep h0 h0 [] := Keep.refl h0 _
  have Z0 := own_old_le O0
  have N0 := Fr.nil n0
  refine OwnEnd.start (g' := (mkF m 0 #[.val (.ref x0), .unset, .unset, .unset] [])) (own_eflc m x0) ?_
  rcases P6 with ⟨c0, rfl⟩ | ⟨c0, c1, rfl⟩ | ⟨c0, c1, c2, rfl⟩
  · refine OwnEnd.of (S' := s₁.setTop (mkF m 1 #[.val (.ref x0), .unset, .unset, .unset] [(.ref x0)])) (fun _ kK => XS.aloadN X0.here hx rfl (hb hby d22_0) rfl rfl kK) ?_
    obtain ⟨cq1, kq1, q1a, q1b, q1c⟩ := isOf hZ e0 P0
    obtain ⟨_, _, ⟨T1, L1, k1, n1⟩, -, X1, ⟨Lc1, hQ1, l1, y1, z1⟩, st1⟩ := X0.virtualBack hx (y := own_m4) (z := own_m4) hown (mvT hZ (own_w G 67 rfl)) (mvT hZ (own_w G 68 rfl)) (notFace_of_selects (args := #[]) (mvT hZ (own_w G 70 rfl))) (mvT hZ (own_w G 70 rfl)) (mvT hZ (own_w G 69 rfl)) (by decide) (backOf (W := 0) (rmlnB l Z a0 G [] x0 t kb N vs (.int (0 : Int32)) cd [c0]  h0 n0 O0 P0 P1 P2 P3 P4 P5 (by simp)) hZ (own_w G 71 rfl) (own_w G 12 rfl) (by decide) (by decide)) q1a q1c (g := (mkF m 1 #[.val (.ref x0), .unset, .unset, .unset] [(.ref x0)])) rfl (by rw [hml]; rfl) (Steps.refl _) (argsL := []) (rest := []) (lenOf pd_16 rfl) rfl (by show 2 * 0 + _ ≤ _; exact Nat.le_of_eq rfl) (hb hby d22_1) (fun _ _ => ⟨rfl, e0, (by decide : 0 + 0 ≤ _), (by decide : 0 + 0 ≤ _)⟩)
    dsimp only [Pt.U, Pt.locs, Pt.cells, Pt.slots] at X1 l1 y1 z1 st1 hQ1
    subst l1 y1 z1
    obtain ⟨rfl, N1q, eh1⟩ := hQ1
    have N1 := Fr.app N0 N1q
    refine OwnEnd.tr (S' := T1.setTop (mkF m 4 #[.val (.ref x0), .unset, .unset, .unset] [(.int (1 : Int32))])) st1 ?_
    refine OwnEnd.of (S' := T1.setTop (mkF m 9 #[.val (.ref x0), .val (.int (1 : Int32)), .unset, .unset] [(.int (0 : Int32)), (.ref x0)])) (fun _ kK => XS.istoreN X1.here hx rfl (hb hby d22_4) rfl (l' := #[.val (.ref x0), .val (.int (1 : Int32)), .unset, .unset]) rfl (XS.aloadN X1.here hx rfl (hb hby d22_5) rfl rfl (XS.iloadN X1.here hx rfl (hb hby d22_6) rfl (XS.iconst X1.here hx rfl (hb hby d22_7) (XS.isub X1.here hx rfl (hb hby d22_8) rfl kK))))) ?_
    obtain ⟨cq2, kq2, q2a, q2b, q2c⟩ := isOf hZ eh1 P0
    obtain ⟨_, _, ⟨T2, L2, k2, n2⟩, -, X2, ⟨Lc2, hQ2, l2, y2, z2⟩, st2⟩ := X1.virtualBack hx (y := own_m10) (z := own_m10) hown (mvT hZ (own_w G 77 rfl)) (mvT hZ (own_w G 78 rfl)) (notFace_of_selects (args := #[]) (mvT hZ (own_w G 80 rfl))) (mvT hZ (own_w G 80 rfl)) (mvT hZ (own_w G 79 rfl)) (by decide) (backOf (W := 0) (rmcAB l Z a0 G [] x0 t kb N vs (.int (0 : Int32)) cd [c0] (0 : Int32) 0 h0 n0 O0 P0 P1 P2 P3 P4 P5 (by simp) (by simp) rfl) hZ (own_w G 81 rfl) (own_w G 12 rfl) (by decide) (by decide)) q2a q2c (g := (mkF m 9 #[.val (.ref x0), .val (.int (1 : Int32)), .unset, .unset] [(.int (0 : Int32)), (.ref x0)])) rfl (by rw [hml]; rfl) (Steps.refl _) (argsL := [(.int (0 : Int32))]) (rest := []) (lenOf pd_17 rfl) rfl (by show 2 * 0 + _ ≤ _; exact Nat.le_of_eq rfl) (hb hby d22_9) (fun _ _ => ⟨rfl, eh1, (by decide : 0 + 0 ≤ _), (by decide : 0 + 0 ≤ _)⟩)
    dsimp only [Pt.U, Pt.locs, Pt.cells, Pt.slots] at X2 l2 y2 z2 st2 hQ2
    subst l2 y2 z2
    obtain ⟨rfl, N2q, eh2⟩ := hQ2
    have N2 := Fr.app N1 N2q
    refine OwnEnd.tr (S' := T2.setTop (mkF m 12 #[.val (.ref x0), .val (.int (1 : Int32)), .unset, .unset] [(.int c0)])) st2 ?_
    refine OwnEnd.of (S' := T2.setTop (mkF m 67 #[.val (.ref x0), .val (.int (1 : Int32)), .val (.int c0), .unset] [(.int c0)])) (fun _ kK => XS.istoreN X2.here hx rfl (hb hby d22_12) rfl (l' := #[.val (.ref x0), .val (.int (1 : Int32)), .val (.int c0), .unset]) rfl (XS.iloadN X2.here hx rfl (hb hby d22_13) rfl (XS.iconst X2.here hx rfl (hb hby d22_14) (XS.icmpYes X2.here hx rfl (pc0 := 15) (pc' := 66) rfl (hb hby d22_15) rfl (tlt ((by decide : (1 : Int32) < (2 : Int32)))).1 (by decide) (by decide) (XS.iloadN X2.here hx rfl (hb hby d22_66) rfl kK))))) ?_
    refine OwnEnd.ret X2 (v := (some (.int c0))) (fun h => by rw [Bd.returns] at h; cases h) hlk (fun fs hr => retOut X2 hx Bd.returns rfl (Or.inl ⟨rfl, Or.inl rfl, _, rfl⟩) (hb hby d22_67) hr) (by decide) (by decide) (Q := own_Qint _ h0 n0) eh2 ?_
    exact ⟨rfl, N2, rfl⟩
  · refine OwnEnd.of (S' := s₁.setTop (mkF m 1 #[.val (.ref x0), .unset, .unset, .unset] [(.ref x0)])) (fun _ kK => XS.aloadN X0.here hx rfl (hb hby d22_0) rfl rfl kK) ?_
    obtain ⟨cq3, kq3, q3a, q3b, q3c⟩ := isOf hZ e0 P0
    obtain ⟨_, _, ⟨T3, L3, k3, n3⟩, -, X3, ⟨Lc3, hQ3, l3, y3, z3⟩, st3⟩ := X0.virtualBack hx (y := own_m4) (z := own_m4) hown (mvT hZ (own_w G 67 rfl)) (mvT hZ (own_w G 68 rfl)) (notFace_of_selects (args := #[]) (mvT hZ (own_w G 70 rfl))) (mvT hZ (own_w G 70 rfl)) (mvT hZ (own_w G 69 rfl)) (by decide) (backOf (W := 0) (rmlnB l Z a0 G [] x0 t kb N vs (.int (0 : Int32)) cd [c0, c1]  h0 n0 O0 P0 P1 P2 P3 P4 P5 (by simp)) hZ (own_w G 71 rfl) (own_w G 12 rfl) (by decide) (by decide)) q3a q3c (g := (mkF m 1 #[.val (.ref x0), .unset, .unset, .unset] [(.ref x0)])) rfl (by rw [hml]; rfl) (Steps.refl _) (argsL := []) (rest := []) (lenOf pd_16 rfl) rfl (by show 2 * 0 + _ ≤ _; exact Nat.le_of_eq rfl) (hb hby d22_1) (fun _ _ => ⟨rfl, e0, (by decide : 0 + 0 ≤ _), (by decide : 0 + 0 ≤ _)⟩)
    dsimp only [Pt.U, Pt.locs, Pt.cells, Pt.slots] at X3 l3 y3 z3 st3 hQ3
    subst l3 y3 z3
    obtain ⟨rfl, N3q, eh3⟩ := hQ3
    have N3 := Fr.app N0 N3q
    refine OwnEnd.tr (S' := T3.setTop (mkF m 4 #[.val (.ref x0), .unset, .unset, .unset] [(.int (2 : Int32))])) st3 ?_
    refine OwnEnd.of (S' := T3.setTop (mkF m 9 #[.val (.ref x0), .val (.int (2 : Int32)), .unset, .unset] [(.int (1 : Int32)), (.ref x0)])) (fun _ kK => XS.istoreN X3.here hx rfl (hb hby d22_4) rfl (l' := #[.val (.ref x0), .val (.int (2 : Int32)), .unset, .unset]) rfl (XS.aloadN X3.here hx rfl (hb hby d22_5) rfl rfl (XS.iloadN X3.here hx rfl (hb hby d22_6) rfl (XS.iconst X3.here hx rfl (hb hby d22_7) (XS.isub X3.here hx rfl (hb hby d22_8) rfl kK))))) ?_
    obtain ⟨cq4, kq4, q4a, q4b, q4c⟩ := isOf hZ eh3 P0
    obtain ⟨_, _, ⟨T4, L4, k4, n4⟩, -, X4, ⟨Lc4, hQ4, l4, y4, z4⟩, st4⟩ := X3.virtualBack hx (y := own_m10) (z := own_m10) hown (mvT hZ (own_w G 77 rfl)) (mvT hZ (own_w G 78 rfl)) (notFace_of_selects (args := #[]) (mvT hZ (own_w G 80 rfl))) (mvT hZ (own_w G 80 rfl)) (mvT hZ (own_w G 79 rfl)) (by decide) (backOf (W := 0) (rmcAB l Z a0 G [] x0 t kb N vs (.int (0 : Int32)) cd [c0, c1] (1 : Int32) 1 h0 n0 O0 P0 P1 P2 P3 P4 P5 (by simp) (by simp) rfl) hZ (own_w G 81 rfl) (own_w G 12 rfl) (by decide) (by decide)) q4a q4c (g := (mkF m 9 #[.val (.ref x0), .val (.int (2 : Int32)), .unset, .unset] [(.int (1 : Int32)), (.ref x0)])) rfl (by rw [hml]; rfl) (Steps.refl _) (argsL := [(.int (1 : Int32))]) (rest := []) (lenOf pd_17 rfl) rfl (by show 2 * 0 + _ ≤ _; exact Nat.le_of_eq rfl) (hb hby d22_9) (fun _ _ => ⟨rfl, eh3, (by decide : 0 + 0 ≤ _), (by decide : 0 + 0 ≤ _)⟩)
    dsimp only [Pt.U, Pt.locs, Pt.cells, Pt.slots] at X4 l4 y4 z4 st4 hQ4
    subst l4 y4 z4
    obtain ⟨rfl, N4q, eh4⟩ := hQ4
    have N4 := Fr.app N3 N4q
    refine OwnEnd.tr (S' := T4.setTop (mkF m 12 #[.val (.ref x0), .val (.int (2 : Int32)), .unset, .unset] [(.int c1)])) st4 ?_
    refine OwnEnd.of (S' := T4.setTop (mkF m 19 #[.val (.ref x0), .val (.int (2 : Int32)), .val (.int c1), .unset] [(.int c1)])) (fun _ kK => XS.istoreN X4.here hx rfl (hb hby d22_12) rfl (l' := #[.val (.ref x0), .val (.int (2 : Int32)), .val (.int c1), .unset]) rfl (XS.iloadN X4.here hx rfl (hb hby d22_13) rfl (XS.iconst X4.here hx rfl (hb hby d22_14) (XS.icmpNo X4.here hx rfl (hb hby d22_15) rfl (flt ((by decide : ¬ ((2 : Int32) < (2 : Int32))))).1 (XS.iloadN X4.here hx rfl (hb hby d22_18) rfl kK))))) ?_
    refine OwnEnd.of (S' := T4.setTop (mkF m 21 #[.val (.ref x0), .val (.int (2 : Int32)), .val (.int c1), .unset] [(.int (56320 : Int32)), (.int c1)])) (fun _ kK => X4.ldcInt hx hown (mvT hZ (own_w G 99 rfl)) (g := (mkF m 19 #[.val (.ref x0), .val (.int (2 : Int32)), .val (.int c1), .unset] [(.int c1)])) rfl (hb hby d22_19) _ kK) ?_
    rcases Decidable.em (c1 < (56320 : Int32)) with hc5 | hc5
    · refine OwnEnd.of (S' := T4.setTop (mkF m 67 #[.val (.ref x0), .val (.int (2 : Int32)), .val (.int c1), .unset] [(.int c1)])) (fun _ kK => XS.icmpYes X4.here hx rfl (pc0 := 21) (pc' := 66) rfl (hb hby d22_21) rfl (tlt (hc5)).1 (by decide) (by decide) (XS.iloadN X4.here hx rfl (hb hby d22_66) rfl kK)) ?_
      refine OwnEnd.ret X4 (v := (some (.int c1))) (fun h => by rw [Bd.returns] at h; cases h) hlk (fun fs hr => retOut X4 hx Bd.returns rfl (Or.inl ⟨rfl, Or.inl rfl, _, rfl⟩) (hb hby d22_67) hr) (by decide) (by decide) (Q := own_Qint _ h0 n0) eh4 ?_
      exact ⟨(by simp [own_cpl, own_lc2, hc5]), N4, rfl⟩
    · refine OwnEnd.of (S' := T4.setTop (mkF m 25 #[.val (.ref x0), .val (.int (2 : Int32)), .val (.int c1), .unset] [(.int c1)])) (fun _ kK => XS.icmpNo X4.here hx rfl (hb hby d22_21) rfl (flt (hc5)).1 (XS.iloadN X4.here hx rfl (hb hby d22_24) rfl kK)) ?_
      refine OwnEnd.of (S' := T4.setTop (mkF m 27 #[.val (.ref x0), .val (.int (2 : Int32)), .val (.int c1), .unset] [(.int (57343 : Int32)), (.int c1)])) (fun _ kK => X4.ldcInt hx hown (mvT hZ (own_w G 161 rfl)) (g := (mkF m 25 #[.val (.ref x0), .val (.int (2 : Int32)), .val (.int c1), .unset] [(.int c1)])) rfl (hb hby d22_25) _ kK) ?_
      rcases Decidable.em ((57343 : Int32) < c1) with hc6 | hc6
      · refine OwnEnd.of (S' := T4.setTop (mkF m 67 #[.val (.ref x0), .val (.int (2 : Int32)), .val (.int c1), .unset] [(.int c1)])) (fun _ kK => XS.icmpYes X4.here hx rfl (pc0 := 27) (pc' := 66) rfl (hb hby d22_27) rfl (tlt (hc6)).2.2.1 (by decide) (by decide) (XS.iloadN X4.here hx rfl (hb hby d22_66) rfl kK)) ?_
        refine OwnEnd.ret X4 (v := (some (.int c1))) (fun h => by rw [Bd.returns] at h; cases h) hlk (fun fs hr => retOut X4 hx Bd.returns rfl (Or.inl ⟨rfl, Or.inl rfl, _, rfl⟩) (hb hby d22_67) hr) (by decide) (by decide) (Q := own_Qint _ h0 n0) eh4 ?_
        exact ⟨(by simp [own_cpl, own_lc2, hc5, hc6]), N4, rfl⟩
      · refine OwnEnd.of (S' := T4.setTop (mkF m 34 #[.val (.ref x0), .val (.int (2 : Int32)), .val (.int c1), .unset] [(.int (0 : Int32)), (.ref x0)])) (fun _ kK => XS.icmpNo X4.here hx rfl (hb hby d22_27) rfl (flt (hc6)).2.2.1 (XS.aloadN X4.here hx rfl (hb hby d22_30) rfl rfl (XS.iloadN X4.here hx rfl (hb hby d22_31) rfl (XS.iconst X4.here hx rfl (hb hby d22_32) (XS.isub X4.here hx rfl (hb hby d22_33) rfl kK))))) ?_
        obtain ⟨cq7, kq7, q7a, q7b, q7c⟩ := isOf hZ eh4 P0
        obtain ⟨_, _, ⟨T7, L7, k7, n7⟩, -, X7, ⟨Lc7, hQ7, l7, y7, z7⟩, st7⟩ := X4.virtualBack hx (y := own_m10) (z := own_m10) hown (mvT hZ (own_w G 77 rfl)) (mvT hZ (own_w G 78 rfl)) (notFace_of_selects (args := #[]) (mvT hZ (own_w G 80 rfl))) (mvT hZ (own_w G 80 rfl)) (mvT hZ (own_w G 79 rfl)) (by decide) (backOf (W := 0) (rmcAB l Z a0 G [] x0 t kb N vs (.int (0 : Int32)) cd [c0, c1] (0 : Int32) 0 h0 n0 O0 P0 P1 P2 P3 P4 P5 (by simp) (by simp) rfl) hZ (own_w G 81 rfl) (own_w G 12 rfl) (by decide) (by decide)) q7a q7c (g := (mkF m 34 #[.val (.ref x0), .val (.int (2 : Int32)), .val (.int c1), .unset] [(.int (0 : Int32)), (.ref x0)])) rfl (by rw [hml]; rfl) (Steps.refl _) (argsL := [(.int (0 : Int32))]) (rest := []) (lenOf pd_17 rfl) rfl (by show 2 * 0 + _ ≤ _; exact Nat.le_of_eq rfl) (hb hby d22_34) (fun _ _ => ⟨rfl, eh4, (by decide : 0 + 0 ≤ _), (by decide : 0 + 0 ≤ _)⟩)
        dsimp only [Pt.U, Pt.locs, Pt.cells, Pt.slots] at X7 l7 y7 z7 st7 hQ7
        subst l7 y7 z7
        obtain ⟨rfl, N7q, eh7⟩ := hQ7
        have N7 := Fr.app N4 N7q
        refine OwnEnd.tr (S' := T7.setTop (mkF m 37 #[.val (.ref x0), .val (.int (2 : Int32)), .val (.int c1), .unset] [(.int c0)])) st7 ?_
        refine OwnEnd.of (S' := T7.setTop (mkF m 39 #[.val (.ref x0), .val (.int (2 : Int32)), .val (.int c1), .val (.int c0)] [(.int c0)])) (fun _ kK => XS.istoreN X7.here hx rfl (hb hby d22_37) rfl (l' := #[.val (.ref x0), .val (.int (2 : Int32)), .val (.int c1), .val (.int c0)]) rfl (XS.iloadN X7.here hx rfl (hb hby d22_38) rfl kK)) ?_
        refine OwnEnd.of (S' := T7.setTop (mkF m 41 #[.val (.ref x0), .val (.int (2 : Int32)), .val (.int c1), .val (.int c0)] [(.int (55296 : Int32)), (.int c0)])) (fun _ kK => X7.ldcInt hx hown (mvT hZ (own_w G 134 rfl)) (g := (mkF m 39 #[.val (.ref x0), .val (.int (2 : Int32)), .val (.int c1), .val (.int c0)] [(.int c0)])) rfl (hb hby d22_39) _ kK) ?_
        rcases Decidable.em (c0 < (55296 : Int32)) with hc8 | hc8
        · refine OwnEnd.of (S' := T7.setTop (mkF m 67 #[.val (.ref x0), .val (.int (2 : Int32)), .val (.int c1), .val (.int c0)] [(.int c1)])) (fun _ kK => XS.icmpYes X7.here hx rfl (pc0 := 41) (pc' := 66) rfl (hb hby d22_41) rfl (tlt (hc8)).1 (by decide) (by decide) (XS.iloadN X7.here hx rfl (hb hby d22_66) rfl kK)) ?_
          refine OwnEnd.ret X7 (v := (some (.int c1))) (fun h => by rw [Bd.returns] at h; cases h) hlk (fun fs hr => retOut X7 hx Bd.returns rfl (Or.inl ⟨rfl, Or.inl rfl, _, rfl⟩) (hb hby d22_67) hr) (by decide) (by decide) (Q := own_Qint _ h0 n0) eh7 ?_
          exact ⟨(by simp [own_cpl, own_lc2, hc5, hc6, hc8]), N7, rfl⟩
        · refine OwnEnd.of (S' := T7.setTop (mkF m 45 #[.val (.ref x0), .val (.int (2 : Int32)), .val (.int c1), .val (.int c0)] [(.int c0)])) (fun _ kK => XS.icmpNo X7.here hx rfl (hb hby d22_41) rfl (flt (hc8)).1 (XS.iloadN X7.here hx rfl (hb hby d22_44) rfl kK)) ?_
          refine OwnEnd.of (S' := T7.setTop (mkF m 47 #[.val (.ref x0), .val (.int (2 : Int32)), .val (.int c1), .val (.int c0)] [(.int (56319 : Int32)), (.int c0)])) (fun _ kK => X7.ldcInt hx hown (mvT hZ (own_w G 162 rfl)) (g := (mkF m 45 #[.val (.ref x0), .val (.int (2 : Int32)), .val (.int c1), .val (.int c0)] [(.int c0)])) rfl (hb hby d22_45) _ kK) ?_
          rcases Decidable.em ((56319 : Int32) < c0) with hc9 | hc9
          · refine OwnEnd.of (S' := T7.setTop (mkF m 67 #[.val (.ref x0), .val (.int (2 : Int32)), .val (.int c1), .val (.int c0)] [(.int c1)])) (fun _ kK => XS.icmpYes X7.here hx rfl (pc0 := 47) (pc' := 66) rfl (hb hby d22_47) rfl (tlt (hc9)).2.2.1 (by decide) (by decide) (XS.iloadN X7.here hx rfl (hb hby d22_66) rfl kK)) ?_
            refine OwnEnd.ret X7 (v := (some (.int c1))) (fun h => by rw [Bd.returns] at h; cases h) hlk (fun fs hr => retOut X7 hx Bd.returns rfl (Or.inl ⟨rfl, Or.inl rfl, _, rfl⟩) (hb hby d22_67) hr) (by decide) (by decide) (Q := own_Qint _ h0 n0) eh7 ?_
            exact ⟨(by simp [own_cpl, own_lc2, hc5, hc6, hc8, hc9]), N7, rfl⟩
          · refine OwnEnd.of (S' := T7.setTop (mkF m 51 #[.val (.ref x0), .val (.int (2 : Int32)), .val (.int c1), .val (.int c0)] [(.int c0)])) (fun _ kK => XS.icmpNo X7.here hx rfl (hb hby d22_47) rfl (flt (hc9)).2.2.1 (XS.iloadN X7.here hx rfl (hb hby d22_50) rfl kK)) ?_
            refine OwnEnd.of (S' := T7.setTop (mkF m 53 #[.val (.ref x0), .val (.int (2 : Int32)), .val (.int c1), .val (.int c0)] [(.int (55296 : Int32)), (.int c0)])) (fun _ kK => X7.ldcInt hx hown (mvT hZ (own_w G 134 rfl)) (g := (mkF m 51 #[.val (.ref x0), .val (.int (2 : Int32)), .val (.int c1), .val (.int c0)] [(.int c0)])) rfl (hb hby d22_51) _ kK) ?_
            refine OwnEnd.of (S' := T7.setTop (mkF m 58 #[.val (.ref x0), .val (.int (2 : Int32)), .val (.int c1), .val (.int c0)] [(.int c1), (.int ((c0 - (55296 : Int32)) <<< ((10 : Int32) &&& 31)))])) (fun _ kK => XS.isub X7.here hx rfl (hb hby d22_53) rfl (XS.bipush X7.here hx rfl (hb hby d22_54) (XS.ishl X7.here hx rfl (hb hby d22_56) rfl (XS.iloadN X7.here hx rfl (hb hby d22_57) rfl kK)))) ?_
            refine OwnEnd.of (S' := T7.setTop (mkF m 60 #[.val (.ref x0), .val (.int (2 : Int32)), .val (.int c1), .val (.int c0)] [(.int (56320 : Int32)), (.int c1), (.int ((c0 - (55296 : Int32)) <<< ((10 : Int32) &&& 31)))])) (fun _ kK => X7.ldcInt hx hown (mvT hZ (own_w G 99 rfl)) (g := (mkF m 58 #[.val (.ref x0), .val (.int (2 : Int32)), .val (.int c1), .val (.int c0)] [(.int c1), (.int ((c0 - (55296 : Int32)) <<< ((10 : Int32) &&& 31)))])) rfl (hb hby d22_58) _ kK) ?_
            refine OwnEnd.of (S' := T7.setTop (mkF m 62 #[.val (.ref x0), .val (.int (2 : Int32)), .val (.int c1), .val (.int c0)] [(.int (((c0 - (55296 : Int32)) <<< ((10 : Int32) &&& 31)) + (c1 - (56320 : Int32))))])) (fun _ kK => XS.isub X7.here hx rfl (hb hby d22_60) rfl (XS.iadd X7.here hx rfl (hb hby d22_61) rfl kK)) ?_
            refine OwnEnd.of (S' := T7.setTop (mkF m 64 #[.val (.ref x0), .val (.int (2 : Int32)), .val (.int c1), .val (.int c0)] [(.int (65536 : Int32)), (.int (((c0 - (55296 : Int32)) <<< ((10 : Int32) &&& 31)) + (c1 - (56320 : Int32))))])) (fun _ kK => X7.ldcInt hx hown (mvT hZ (own_w G 167 rfl)) (g := (mkF m 62 #[.val (.ref x0), .val (.int (2 : Int32)), .val (.int c1), .val (.int c0)] [(.int (((c0 - (55296 : Int32)) <<< ((10 : Int32) &&& 31)) + (c1 - (56320 : Int32))))])) rfl (hb hby d22_62) _ kK) ?_
            refine OwnEnd.of (S' := T7.setTop (mkF m 65 #[.val (.ref x0), .val (.int (2 : Int32)), .val (.int c1), .val (.int c0)] [(.int ((((c0 - (55296 : Int32)) <<< ((10 : Int32) &&& 31)) + (c1 - (56320 : Int32))) + (65536 : Int32)))])) (fun _ kK => XS.iadd X7.here hx rfl (hb hby d22_64) rfl kK) ?_
            refine OwnEnd.ret X7 (v := (some (.int ((((c0 - (55296 : Int32)) <<< ((10 : Int32) &&& 31)) + (c1 - (56320 : Int32))) + (65536 : Int32))))) (fun h => by rw [Bd.returns] at h; cases h) hlk (fun fs hr => retOut X7 hx Bd.returns rfl (Or.inl ⟨rfl, Or.inl rfl, _, rfl⟩) (hb hby d22_65) hr) (by decide) (by decide) (Q := own_Qint _ h0 n0) eh7 ?_
            exact ⟨(by simp [own_cpl, own_lc2, hc5, hc6, hc8, hc9]), N7, rfl⟩
  · refine OwnEnd.of (S' := s₁.setTop (mkF m 1 #[.val (.ref x0), .unset, .unset, .unset] [(.ref x0)])) (fun _ kK => XS.aloadN X0.here hx rfl (hb hby d22_0) rfl rfl kK) ?_
    obtain ⟨cq10, kq10, q10a, q10b, q10c⟩ := isOf hZ e0 P0
    obtain ⟨_, _, ⟨T10, L10, k10, n10⟩, -, X10, ⟨Lc10, hQ10, l10, y10, z10⟩, st10⟩ := X0.virtualBack hx (y := own_m4) (z := own_m4) hown (mvT hZ (own_w G 67 rfl)) (mvT hZ (own_w G 68 rfl)) (notFace_of_selects (args := #[]) (mvT hZ (own_w G 70 rfl))) (mvT hZ (own_w G 70 rfl)) (mvT hZ (own_w G 69 rfl)) (by decide) (backOf (W := 0) (rmlnB l Z a0 G [] x0 t kb N vs (.int (0 : Int32)) cd [c0, c1, c2]  h0 n0 O0 P0 P1 P2 P3 P4 P5 (by simp)) hZ (own_w G 71 rfl) (own_w G 12 rfl) (by decide) (by decide)) q10a q10c (g := (mkF m 1 #[.val (.ref x0), .unset, .unset, .unset] [(.ref x0)])) rfl (by rw [hml]; rfl) (Steps.refl _) (argsL := []) (rest := []) (lenOf pd_16 rfl) rfl (by show 2 * 0 + _ ≤ _; exact Nat.le_of_eq rfl) (hb hby d22_1) (fun _ _ => ⟨rfl, e0, (by decide : 0 + 0 ≤ _), (by decide : 0 + 0 ≤ _)⟩)
    dsimp only [Pt.U, Pt.locs, Pt.cells, Pt.slots] at X10 l10 y10 z10 st10 hQ10
    subst l10 y10 z10
    obtain ⟨rfl, N10q, eh10⟩ := hQ10
    have N10 := Fr.app N0 N10q
    refine OwnEnd.tr (S' := T10.setTop (mkF m 4 #[.val (.ref x0), .unset, .unset, .unset] [(.int (3 : Int32))])) st10 ?_
    refine OwnEnd.of (S' := T10.setTop (mkF m 9 #[.val (.ref x0), .val (.int (3 : Int32)), .unset, .unset] [(.int (2 : Int32)), (.ref x0)])) (fun _ kK => XS.istoreN X10.here hx rfl (hb hby d22_4) rfl (l' := #[.val (.ref x0), .val (.int (3 : Int32)), .unset, .unset]) rfl (XS.aloadN X10.here hx rfl (hb hby d22_5) rfl rfl (XS.iloadN X10.here hx rfl (hb hby d22_6) rfl (XS.iconst X10.here hx rfl (hb hby d22_7) (XS.isub X10.here hx rfl (hb hby d22_8) rfl kK))))) ?_
    obtain ⟨cq11, kq11, q11a, q11b, q11c⟩ := isOf hZ eh10 P0
    obtain ⟨_, _, ⟨T11, L11, k11, n11⟩, -, X11, ⟨Lc11, hQ11, l11, y11, z11⟩, st11⟩ := X10.virtualBack hx (y := own_m10) (z := own_m10) hown (mvT hZ (own_w G 77 rfl)) (mvT hZ (own_w G 78 rfl)) (notFace_of_selects (args := #[]) (mvT hZ (own_w G 80 rfl))) (mvT hZ (own_w G 80 rfl)) (mvT hZ (own_w G 79 rfl)) (by decide) (backOf (W := 0) (rmcAB l Z a0 G [] x0 t kb N vs (.int (0 : Int32)) cd [c0, c1, c2] (2 : Int32) 2 h0 n0 O0 P0 P1 P2 P3 P4 P5 (by simp) (by simp) rfl) hZ (own_w G 81 rfl) (own_w G 12 rfl) (by decide) (by decide)) q11a q11c (g := (mkF m 9 #[.val (.ref x0), .val (.int (3 : Int32)), .unset, .unset] [(.int (2 : Int32)), (.ref x0)])) rfl (by rw [hml]; rfl) (Steps.refl _) (argsL := [(.int (2 : Int32))]) (rest := []) (lenOf pd_17 rfl) rfl (by show 2 * 0 + _ ≤ _; exact Nat.le_of_eq rfl) (hb hby d22_9) (fun _ _ => ⟨rfl, eh10, (by decide : 0 + 0 ≤ _), (by decide : 0 + 0 ≤ _)⟩)
    dsimp only [Pt.U, Pt.locs, Pt.cells, Pt.slots] at X11 l11 y11 z11 st11 hQ11
    subst l11 y11 z11
    obtain ⟨rfl, N11q, eh11⟩ := hQ11
    have N11 := Fr.app N10 N11q
    refine OwnEnd.tr (S' := T11.setTop (mkF m 12 #[.val (.ref x0), .val (.int (3 : Int32)), .unset, .unset] [(.int c2)])) st11 ?_
    refine OwnEnd.of (S' := T11.setTop (mkF m 19 #[.val (.ref x0), .val (.int (3 : Int32)), .val (.int c2), .unset] [(.int c2)])) (fun _ kK => XS.istoreN X11.here hx rfl (hb hby d22_12) rfl (l' := #[.val (.ref x0), .val (.int (3 : Int32)), .val (.int c2), .unset]) rfl (XS.iloadN X11.here hx rfl (hb hby d22_13) rfl (XS.iconst X11.here hx rfl (hb hby d22_14) (XS.icmpNo X11.here hx rfl (hb hby d22_15) rfl (flt ((by decide : ¬ ((3 : Int32) < (2 : Int32))))).1 (XS.iloadN X11.here hx rfl (hb hby d22_18) rfl kK))))) ?_
    refine OwnEnd.of (S' := T11.setTop (mkF m 21 #[.val (.ref x0), .val (.int (3 : Int32)), .val (.int c2), .unset] [(.int (56320 : Int32)), (.int c2)])) (fun _ kK => X11.ldcInt hx hown (mvT hZ (own_w G 99 rfl)) (g := (mkF m 19 #[.val (.ref x0), .val (.int (3 : Int32)), .val (.int c2), .unset] [(.int c2)])) rfl (hb hby d22_19) _ kK) ?_
    rcases Decidable.em (c2 < (56320 : Int32)) with hc12 | hc12
    · refine OwnEnd.of (S' := T11.setTop (mkF m 67 #[.val (.ref x0), .val (.int (3 : Int32)), .val (.int c2), .unset] [(.int c2)])) (fun _ kK => XS.icmpYes X11.here hx rfl (pc0 := 21) (pc' := 66) rfl (hb hby d22_21) rfl (tlt (hc12)).1 (by decide) (by decide) (XS.iloadN X11.here hx rfl (hb hby d22_66) rfl kK)) ?_
      refine OwnEnd.ret X11 (v := (some (.int c2))) (fun h => by rw [Bd.returns] at h; cases h) hlk (fun fs hr => retOut X11 hx Bd.returns rfl (Or.inl ⟨rfl, Or.inl rfl, _, rfl⟩) (hb hby d22_67) hr) (by decide) (by decide) (Q := own_Qint _ h0 n0) eh11 ?_
      exact ⟨(by simp [own_cpl, own_lc2, hc12]), N11, rfl⟩
    · refine OwnEnd.of (S' := T11.setTop (mkF m 25 #[.val (.ref x0), .val (.int (3 : Int32)), .val (.int c2), .unset] [(.int c2)])) (fun _ kK => XS.icmpNo X11.here hx rfl (hb hby d22_21) rfl (flt (hc12)).1 (XS.iloadN X11.here hx rfl (hb hby d22_24) rfl kK)) ?_
      refine OwnEnd.of (S' := T11.setTop (mkF m 27 #[.val (.ref x0), .val (.int (3 : Int32)), .val (.int c2), .unset] [(.int (57343 : Int32)), (.int c2)])) (fun _ kK => X11.ldcInt hx hown (mvT hZ (own_w G 161 rfl)) (g := (mkF m 25 #[.val (.ref x0), .val (.int (3 : Int32)), .val (.int c2), .unset] [(.int c2)])) rfl (hb hby d22_25) _ kK) ?_
      rcases Decidable.em ((57343 : Int32) < c2) with hc13 | hc13
      · refine OwnEnd.of (S' := T11.setTop (mkF m 67 #[.val (.ref x0), .val (.int (3 : Int32)), .val (.int c2), .unset] [(.int c2)])) (fun _ kK => XS.icmpYes X11.here hx rfl (pc0 := 27) (pc' := 66) rfl (hb hby d22_27) rfl (tlt (hc13)).2.2.1 (by decide) (by decide) (XS.iloadN X11.here hx rfl (hb hby d22_66) rfl kK)) ?_
        refine OwnEnd.ret X11 (v := (some (.int c2))) (fun h => by rw [Bd.returns] at h; cases h) hlk (fun fs hr => retOut X11 hx Bd.returns rfl (Or.inl ⟨rfl, Or.inl rfl, _, rfl⟩) (hb hby d22_67) hr) (by decide) (by decide) (Q := own_Qint _ h0 n0) eh11 ?_
        exact ⟨(by simp [own_cpl, own_lc2, hc12, hc13]), N11, rfl⟩
      · refine OwnEnd.of (S' := T11.setTop (mkF m 34 #[.val (.ref x0), .val (.int (3 : Int32)), .val (.int c2), .unset] [(.int (1 : Int32)), (.ref x0)])) (fun _ kK => XS.icmpNo X11.here hx rfl (hb hby d22_27) rfl (flt (hc13)).2.2.1 (XS.aloadN X11.here hx rfl (hb hby d22_30) rfl rfl (XS.iloadN X11.here hx rfl (hb hby d22_31) rfl (XS.iconst X11.here hx rfl (hb hby d22_32) (XS.isub X11.here hx rfl (hb hby d22_33) rfl kK))))) ?_
        obtain ⟨cq14, kq14, q14a, q14b, q14c⟩ := isOf hZ eh11 P0
        obtain ⟨_, _, ⟨T14, L14, k14, n14⟩, -, X14, ⟨Lc14, hQ14, l14, y14, z14⟩, st14⟩ := X11.virtualBack hx (y := own_m10) (z := own_m10) hown (mvT hZ (own_w G 77 rfl)) (mvT hZ (own_w G 78 rfl)) (notFace_of_selects (args := #[]) (mvT hZ (own_w G 80 rfl))) (mvT hZ (own_w G 80 rfl)) (mvT hZ (own_w G 79 rfl)) (by decide) (backOf (W := 0) (rmcAB l Z a0 G [] x0 t kb N vs (.int (0 : Int32)) cd [c0, c1, c2] (1 : Int32) 1 h0 n0 O0 P0 P1 P2 P3 P4 P5 (by simp) (by simp) rfl) hZ (own_w G 81 rfl) (own_w G 12 rfl) (by decide) (by decide)) q14a q14c (g := (mkF m 34 #[.val (.ref x0), .val (.int (3 : Int32)), .val (.int c2), .unset] [(.int (1 : Int32)), (.ref x0)])) rfl (by rw [hml]; rfl) (Steps.refl _) (argsL := [(.int (1 : Int32))]) (rest := []) (lenOf pd_17 rfl) rfl (by show 2 * 0 + _ ≤ _; exact Nat.le_of_eq rfl) (hb hby d22_34) (fun _ _ => ⟨rfl, eh11, (by decide : 0 + 0 ≤ _), (by decide : 0 + 0 ≤ _)⟩)
        dsimp only [Pt.U, Pt.locs, Pt.cells, Pt.slots] at X14 l14 y14 z14 st14 hQ14
        subst l14 y14 z14
        obtain ⟨rfl, N14q, eh14⟩ := hQ14
        have N14 := Fr.app N11 N14q
        refine OwnEnd.tr (S' := T14.setTop (mkF m 37 #[.val (.ref x0), .val (.int (3 : Int32)), .val (.int c2), .unset] [(.int c1)])) st14 ?_
        refine OwnEnd.of (S' := T14.setTop (mkF m 39 #[.val (.ref x0), .val (.int (3 : Int32)), .val (.int c2), .val (.int c1)] [(.int c1)])) (fun _ kK => XS.istoreN X14.here hx rfl (hb hby d22_37) rfl (l' := #[.val (.ref x0), .val (.int (3 : Int32)), .val (.int c2), .val (.int c1)]) rfl (XS.iloadN X14.here hx rfl (hb hby d22_38) rfl kK)) ?_
        refine OwnEnd.of (S' := T14.setTop (mkF m 41 #[.val (.ref x0), .val (.int (3 : Int32)), .val (.int c2), .val (.int c1)] [(.int (55296 : Int32)), (.int c1)])) (fun _ kK => X14.ldcInt hx hown (mvT hZ (own_w G 134 rfl)) (g := (mkF m 39 #[.val (.ref x0), .val (.int (3 : Int32)), .val (.int c2), .val (.int c1)] [(.int c1)])) rfl (hb hby d22_39) _ kK) ?_
        rcases Decidable.em (c1 < (55296 : Int32)) with hc15 | hc15
        · refine OwnEnd.of (S' := T14.setTop (mkF m 67 #[.val (.ref x0), .val (.int (3 : Int32)), .val (.int c2), .val (.int c1)] [(.int c2)])) (fun _ kK => XS.icmpYes X14.here hx rfl (pc0 := 41) (pc' := 66) rfl (hb hby d22_41) rfl (tlt (hc15)).1 (by decide) (by decide) (XS.iloadN X14.here hx rfl (hb hby d22_66) rfl kK)) ?_
          refine OwnEnd.ret X14 (v := (some (.int c2))) (fun h => by rw [Bd.returns] at h; cases h) hlk (fun fs hr => retOut X14 hx Bd.returns rfl (Or.inl ⟨rfl, Or.inl rfl, _, rfl⟩) (hb hby d22_67) hr) (by decide) (by decide) (Q := own_Qint _ h0 n0) eh14 ?_
          exact ⟨(by simp [own_cpl, own_lc2, hc12, hc13, hc15]), N14, rfl⟩
        · refine OwnEnd.of (S' := T14.setTop (mkF m 45 #[.val (.ref x0), .val (.int (3 : Int32)), .val (.int c2), .val (.int c1)] [(.int c1)])) (fun _ kK => XS.icmpNo X14.here hx rfl (hb hby d22_41) rfl (flt (hc15)).1 (XS.iloadN X14.here hx rfl (hb hby d22_44) rfl kK)) ?_
          refine OwnEnd.of (S' := T14.setTop (mkF m 47 #[.val (.ref x0), .val (.int (3 : Int32)), .val (.int c2), .val (.int c1)] [(.int (56319 : Int32)), (.int c1)])) (fun _ kK => X14.ldcInt hx hown (mvT hZ (own_w G 162 rfl)) (g := (mkF m 45 #[.val (.ref x0), .val (.int (3 : Int32)), .val (.int c2), .val (.int c1)] [(.int c1)])) rfl (hb hby d22_45) _ kK) ?_
          rcases Decidable.em ((56319 : Int32) < c1) with hc16 | hc16
          · refine OwnEnd.of (S' := T14.setTop (mkF m 67 #[.val (.ref x0), .val (.int (3 : Int32)), .val (.int c2), .val (.int c1)] [(.int c2)])) (fun _ kK => XS.icmpYes X14.here hx rfl (pc0 := 47) (pc' := 66) rfl (hb hby d22_47) rfl (tlt (hc16)).2.2.1 (by decide) (by decide) (XS.iloadN X14.here hx rfl (hb hby d22_66) rfl kK)) ?_
            refine OwnEnd.ret X14 (v := (some (.int c2))) (fun h => by rw [Bd.returns] at h; cases h) hlk (fun fs hr => retOut X14 hx Bd.returns rfl (Or.inl ⟨rfl, Or.inl rfl, _, rfl⟩) (hb hby d22_67) hr) (by decide) (by decide) (Q := own_Qint _ h0 n0) eh14 ?_
            exact ⟨(by simp [own_cpl, own_lc2, hc12, hc13, hc15, hc16]), N14, rfl⟩
          · refine OwnEnd.of (S' := T14.setTop (mkF m 51 #[.val (.ref x0), .val (.int (3 : Int32)), .val (.int c2), .val (.int c1)] [(.int c1)])) (fun _ kK => XS.icmpNo X14.here hx rfl (hb hby d22_47) rfl (flt (hc16)).2.2.1 (XS.iloadN X14.here hx rfl (hb hby d22_50) rfl kK)) ?_
            refine OwnEnd.of (S' := T14.setTop (mkF m 53 #[.val (.ref x0), .val (.int (3 : Int32)), .val (.int c2), .val (.int c1)] [(.int (55296 : Int32)), (.int c1)])) (fun _ kK => X14.ldcInt hx hown (mvT hZ (own_w G 134 rfl)) (g := (mkF m 51 #[.val (.ref x0), .val (.int (3 : Int32)), .val (.int c2), .val (.int c1)] [(.int c1)])) rfl (hb hby d22_51) _ kK) ?_
            refine OwnEnd.of (S' := T14.setTop (mkF m 58 #[.val (.ref x0), .val (.int (3 : Int32)), .val (.int c2), .val (.int c1)] [(.int c2), (.int ((c1 - (55296 : Int32)) <<< ((10 : Int32) &&& 31)))])) (fun _ kK => XS.isub X14.here hx rfl (hb hby d22_53) rfl (XS.bipush X14.here hx rfl (hb hby d22_54) (XS.ishl X14.here hx rfl (hb hby d22_56) rfl (XS.iloadN X14.here hx rfl (hb hby d22_57) rfl kK)))) ?_
            refine OwnEnd.of (S' := T14.setTop (mkF m 60 #[.val (.ref x0), .val (.int (3 : Int32)), .val (.int c2), .val (.int c1)] [(.int (56320 : Int32)), (.int c2), (.int ((c1 - (55296 : Int32)) <<< ((10 : Int32) &&& 31)))])) (fun _ kK => X14.ldcInt hx hown (mvT hZ (own_w G 99 rfl)) (g := (mkF m 58 #[.val (.ref x0), .val (.int (3 : Int32)), .val (.int c2), .val (.int c1)] [(.int c2), (.int ((c1 - (55296 : Int32)) <<< ((10 : Int32) &&& 31)))])) rfl (hb hby d22_58) _ kK) ?_
            refine OwnEnd.of (S' := T14.setTop (mkF m 62 #[.val (.ref x0), .val (.int (3 : Int32)), .val (.int c2), .val (.int c1)] [(.int (((c1 - (55296 : Int32)) <<< ((10 : Int32) &&& 31)) + (c2 - (56320 : Int32))))])) (fun _ kK => XS.isub X14.here hx rfl (hb hby d22_60) rfl (XS.iadd X14.here hx rfl (hb hby d22_61) rfl kK)) ?_
            refine OwnEnd.of (S' := T14.setTop (mkF m 64 #[.val (.ref x0), .val (.int (3 : Int32)), .val (.int c2), .val (.int c1)] [(.int (65536 : Int32)), (.int (((c1 - (55296 : Int32)) <<< ((10 : Int32) &&& 31)) + (c2 - (56320 : Int32))))])) (fun _ kK => X14.ldcInt hx hown (mvT hZ (own_w G 167 rfl)) (g := (mkF m 62 #[.val (.ref x0), .val (.int (3 : Int32)), .val (.int c2), .val (.int c1)] [(.int (((c1 - (55296 : Int32)) <<< ((10 : Int32) &&& 31)) + (c2 - (56320 : Int32))))])) rfl (hb hby d22_62) _ kK) ?_
            refine OwnEnd.of (S' := T14.setTop (mkF m 65 #[.val (.ref x0), .val (.int (3 : Int32)), .val (.int c2), .val (.int c1)] [(.int ((((c1 - (55296 : Int32)) <<< ((10 : Int32) &&& 31)) + (c2 - (56320 : Int32))) + (65536 : Int32)))])) (fun _ kK => XS.iadd X14.here hx rfl (hb hby d22_64) rfl kK) ?_
            refine OwnEnd.ret X14 (v := (some (.int ((((c1 - (55296 : Int32)) <<< ((10 : Int32) &&& 31)) + (c2 - (56320 : Int32))) + (65536 : Int32))))) (fun h => by rw [Bd.returns] at h; cases h) hlk (fun fs hr => retOut X14 hx Bd.returns rfl (Or.inl ⟨rfl, Or.inl rfl, _, rfl⟩) (hb hby d22_65) hr) (by decide) (by decide) (Q := own_Qint _ h0 n0) eh14 ?_
            exact ⟨(by simp [own_cpl, own_lc2, hc12, hc13, hc15, hc16]), N14, rfl⟩

theorem own_eflo (m : MethodId) (c : Int32) : entryFrame m #[(.int c)] 1 = mkF m 0 #[.val (.int c)] [] := by first | (simp [entryFrame, mkF, argsToLocals, Value.category]; done) | rfl
set_option maxRecDepth 65536 in
set_option maxHeartbeats 40000000 in
theorem rmlo (l : Launch) (Z : State) (a0 : Array Value) (G : OwnG Z a0) (ws : List Jvm.Cond) (c : Int32) (h0 : Heap) (n0 : Nat) (O0 : Old Z n0 h0)  :
    MetFree l own_m23 (head1 (Jvm.Cond.code own_m23 jdk_89_method_15_code 1 (some .boolean) :: ws) ({ frames := 0, cells := 0, slots := 0, locals := 0 } : Room)) (fun a U => a = #[(.int c)] ∧ Z.Warmed39 U.vm ∧ U.heap = h0) (fun _ _ _ _ _ => True) (fun _ U o U' => ∃ v L, o = .returned v ∧ (own_Qint (own_low c)) h0 n0 v U'.heap L ∧ FrameEnd U o U' L ({ frames := 0, cells := 0, slots := 0, locals := 0 } : Room).cells ({ frames := 0, cells := 0, slots := 0, locals := 0 } : Room).slots) := by
  refine MetFree.of_bodySF (plainFor_of_name pn_5) hisR ?_
  intro p e s m args below meth cD s₁ Bd hml0 hP hK
  obtain ⟨rfl, hZ, hh⟩ := hP
  have hw := G.1
  have hx := Bd.exec
  have hby := Bd.bytes
  have hml : cD.maxLocals = 1 := hml0
  have hown : s.vm.findClass "java/lang/Character" = some m.cls := findClass_of_methodNamed Bd.named
  have hnm := (name_of_methodNamed Bd.named Bd.method).1
  have hlk := Bd.notSynchronized
  have X0 : Stand p l e ({ frames := 0, cells := 0, slots := 0, locals := 0 } : Room) s m #[(.int c)] below meth cD s₁ [] 0 0 := Stand.of_body Bd
  have e0 : s₁.heap = h0 := by rw [← hh, Bd.state]; rfl
  have K0 : Keep h0 h0 [] := Keep.refl h0 _
  have Z0 := own_old_le O0
  have N0 := Fr.nil n0
  refine OwnEnd.start (g' := (mkF m 0 #[.val (.int c)] [])) (own_eflo m c) ?_
  refine OwnEnd.of (S' := s₁.setTop (mkF m 1 #[.val (.int c)] [(.int c)])) (fun _ kK => XS.iloadN X0.here hx rfl (hb hby d23_0) rfl kK) ?_
  refine OwnEnd.of (S' := s₁.setTop (mkF m 3 #[.val (.int c)] [(.int (56320 : Int32)), (.int c)])) (fun _ kK => X0.ldcInt hx hown (mvT hZ (own_w G 155 rfl)) (g := (mkF m 1 #[.val (.int c)] [(.int c)])) rfl (hb hby d23_1) _ kK) ?_
  rcases Decidable.em (c < (56320 : Int32)) with hc1 | hc1
  · refine OwnEnd.of (S' := s₁.setTop (mkF m 17 #[.val (.int c)] [(.int (0 : Int32))])) (fun _ kK => XS.icmpYes X0.here hx rfl (pc0 := 3) (pc' := 16) rfl (hb hby d23_3) rfl (tlt (hc1)).1 (by decide) (by decide) (XS.iconst X0.here hx rfl (hb hby d23_16) kK)) ?_
    refine OwnEnd.ret X0 (v := (some (.int (nar .boolean (0 : Int32))))) (fun h => by rw [Bd.returns] at h; cases h) hlk (fun fs hr => retN X0 hx (t := .boolean) Bd.returns (by simp) (hb hby d23_17) hr) (by decide) (by decide) (Q := (own_Qint (own_low c)) h0 n0) e0 ?_
    exact ⟨(by show some (Value.int (nar .boolean (0 : Int32))) = _; simp [own_low, nar, hc1]), N0, rfl⟩
  · refine OwnEnd.of (S' := s₁.setTop (mkF m 7 #[.val (.int c)] [(.int c)])) (fun _ kK => XS.icmpNo X0.here hx rfl (hb hby d23_3) rfl (flt (hc1)).1 (XS.iloadN X0.here hx rfl (hb hby d23_6) rfl kK)) ?_
    refine OwnEnd.of (S' := s₁.setTop (mkF m 9 #[.val (.int c)] [(.int (57344 : Int32)), (.int c)])) (fun _ kK => X0.ldcInt hx hown (mvT hZ (own_w G 158 rfl)) (g := (mkF m 7 #[.val (.int c)] [(.int c)])) rfl (hb hby d23_7) _ kK) ?_
    rcases Decidable.em (c < (57344 : Int32)) with hc2 | hc2
    · refine OwnEnd.of (S' := s₁.setTop (mkF m 17 #[.val (.int c)] [(.int (1 : Int32))])) (fun _ kK => XS.icmpNo X0.here hx rfl (hb hby d23_9) rfl (tlt (hc2)).2.1 (XS.iconst X0.here hx rfl (hb hby d23_12) (XS.goto X0.here hx rfl (pc0 := 13) (pc' := 17) rfl (hb hby d23_13) (by decide) (by decide) kK))) ?_
      refine OwnEnd.ret X0 (v := (some (.int (nar .boolean (1 : Int32))))) (fun h => by rw [Bd.returns] at h; cases h) hlk (fun fs hr => retN X0 hx (t := .boolean) Bd.returns (by simp) (hb hby d23_17) hr) (by decide) (by decide) (Q := (own_Qint (own_low c)) h0 n0) e0 ?_
      exact ⟨(by show some (Value.int (nar .boolean (1 : Int32))) = _; simp [own_low, nar, hc1, hc2]), N0, rfl⟩
    · refine OwnEnd.of (S' := s₁.setTop (mkF m 17 #[.val (.int c)] [(.int (0 : Int32))])) (fun _ kK => XS.icmpYes X0.here hx rfl (pc0 := 9) (pc' := 16) rfl (hb hby d23_9) rfl (flt (hc2)).2.1 (by decide) (by decide) (XS.iconst X0.here hx rfl (hb hby d23_16) kK)) ?_
      refine OwnEnd.ret X0 (v := (some (.int (nar .boolean (0 : Int32))))) (fun h => by rw [Bd.returns] at h; cases h) hlk (fun fs hr => retN X0 hx (t := .boolean) Bd.returns (by simp) (hb hby d23_17) hr) (by decide) (by decide) (Q := (own_Qint (own_low c)) h0 n0) e0 ?_
      exact ⟨(by show some (Value.int (nar .boolean (0 : Int32))) = _; simp [own_low, nar, hc1, hc2]), N0, rfl⟩

theorem own_efhg (m : MethodId) (c : Int32) : entryFrame m #[(.int c)] 1 = mkF m 0 #[.val (.int c)] [] := by first | (simp [entryFrame, mkF, argsToLocals, Value.category]; done) | rfl
set_option maxRecDepth 65536 in
set_option maxHeartbeats 40000000 in
theorem rmhg (l : Launch) (Z : State) (a0 : Array Value) (G : OwnG Z a0) (ws : List Jvm.Cond) (c : Int32) (h0 : Heap) (n0 : Nat) (O0 : Old Z n0 h0)  :
    MetFree l own_m24 (head1 (Jvm.Cond.code own_m24 jdk_89_method_14_code 1 (some .boolean) :: ws) ({ frames := 0, cells := 0, slots := 0, locals := 0 } : Room)) (fun a U => a = #[(.int c)] ∧ Z.Warmed39 U.vm ∧ U.heap = h0) (fun _ _ _ _ _ => True) (fun _ U o U' => ∃ v L, o = .returned v ∧ (own_Qint (own_high c)) h0 n0 v U'.heap L ∧ FrameEnd U o U' L ({ frames := 0, cells := 0, slots := 0, locals := 0 } : Room).cells ({ frames := 0, cells := 0, slots := 0, locals := 0 } : Room).slots) := by
  refine MetFree.of_bodySF (plainFor_of_name pn_5) hisR ?_
  intro p e s m args below meth cD s₁ Bd hml0 hP hK
  obtain ⟨rfl, hZ, hh⟩ := hP
  have hw := G.1
  have hx := Bd.exec
  have hby := Bd.bytes
  have hml : cD.maxLocals = 1 := hml0
  have hown : s.vm.findClass "java/lang/Character" = some m.cls := findClass_of_methodNamed Bd.named
  have hnm := (name_of_methodNamed Bd.named Bd.method).1
  have hlk := Bd.notSynchronized
  have X0 : Stand p l e ({ frames := 0, cells := 0, slots := 0, locals := 0 } : Room) s m #[(.int c)] below meth cD s₁ [] 0 0 := Stand.of_body Bd
  have e0 : s₁.heap = h0 := by rw [← hh, Bd.state]; rfl
  have K0 : Keep h0 h0 [] := Keep.refl h0 _
  have Z0 := own_old_le O0
  have N0 := Fr.nil n0
  refine OwnEnd.start (g' := (mkF m 0 #[.val (.int c)] [])) (own_efhg m c) ?_
  refine OwnEnd.of (S' := s₁.setTop (mkF m 1 #[.val (.int c)] [(.int c)])) (fun _ kK => XS.iloadN X0.here hx rfl (hb hby d24_0) rfl kK) ?_
  refine OwnEnd.of (S' := s₁.setTop (mkF m 3 #[.val (.int c)] [(.int (55296 : Int32)), (.int c)])) (fun _ kK => X0.ldcInt hx hown (mvT hZ (own_w G 166 rfl)) (g := (mkF m 1 #[.val (.int c)] [(.int c)])) rfl (hb hby d24_1) _ kK) ?_
  rcases Decidable.em (c < (55296 : Int32)) with hc1 | hc1
  · refine OwnEnd.of (S' := s₁.setTop (mkF m 17 #[.val (.int c)] [(.int (0 : Int32))])) (fun _ kK => XS.icmpYes X0.here hx rfl (pc0 := 3) (pc' := 16) rfl (hb hby d24_3) rfl (tlt (hc1)).1 (by decide) (by decide) (XS.iconst X0.here hx rfl (hb hby d24_16) kK)) ?_
    refine OwnEnd.ret X0 (v := (some (.int (nar .boolean (0 : Int32))))) (fun h => by rw [Bd.returns] at h; cases h) hlk (fun fs hr => retN X0 hx (t := .boolean) Bd.returns (by simp) (hb hby d24_17) hr) (by decide) (by decide) (Q := (own_Qint (own_high c)) h0 n0) e0 ?_
    exact ⟨(by show some (Value.int (nar .boolean (0 : Int32))) = _; simp [own_high, nar, hc1]), N0, rfl⟩
  · refine OwnEnd.of (S' := s₁.setTop (mkF m 7 #[.val (.int c)] [(.int c)])) (fun _ kK => XS.icmpNo X0.here hx rfl (hb hby d24_3) rfl (flt (hc1)).1 (XS.iloadN X0.here hx rfl (hb hby d24_6) rfl kK)) ?_
    refine OwnEnd.of (S' := s₁.setTop (mkF m 9 #[.val (.int c)] [(.int (56320 : Int32)), (.int c)])) (fun _ kK => X0.ldcInt hx hown (mvT hZ (own_w G 155 rfl)) (g := (mkF m 7 #[.val (.int c)] [(.int c)])) rfl (hb hby d24_7) _ kK) ?_
    rcases Decidable.em (c < (56320 : Int32)) with hc2 | hc2
    · refine OwnEnd.of (S' := s₁.setTop (mkF m 17 #[.val (.int c)] [(.int (1 : Int32))])) (fun _ kK => XS.icmpNo X0.here hx rfl (hb hby d24_9) rfl (tlt (hc2)).2.1 (XS.iconst X0.here hx rfl (hb hby d24_12) (XS.goto X0.here hx rfl (pc0 := 13) (pc' := 17) rfl (hb hby d24_13) (by decide) (by decide) kK))) ?_
      refine OwnEnd.ret X0 (v := (some (.int (nar .boolean (1 : Int32))))) (fun h => by rw [Bd.returns] at h; cases h) hlk (fun fs hr => retN X0 hx (t := .boolean) Bd.returns (by simp) (hb hby d24_17) hr) (by decide) (by decide) (Q := (own_Qint (own_high c)) h0 n0) e0 ?_
      exact ⟨(by show some (Value.int (nar .boolean (1 : Int32))) = _; simp [own_high, nar, hc1, hc2]), N0, rfl⟩
    · refine OwnEnd.of (S' := s₁.setTop (mkF m 17 #[.val (.int c)] [(.int (0 : Int32))])) (fun _ kK => XS.icmpYes X0.here hx rfl (pc0 := 9) (pc' := 16) rfl (hb hby d24_9) rfl (flt (hc2)).2.1 (by decide) (by decide) (XS.iconst X0.here hx rfl (hb hby d24_16) kK)) ?_
      refine OwnEnd.ret X0 (v := (some (.int (nar .boolean (0 : Int32))))) (fun h => by rw [Bd.returns] at h; cases h) hlk (fun fs hr => retN X0 hx (t := .boolean) Bd.returns (by simp) (hb hby d24_17) hr) (by decide) (by decide) (Q := (own_Qint (own_high c)) h0 n0) e0 ?_
      exact ⟨(by show some (Value.int (nar .boolean (0 : Int32))) = _; simp [own_high, nar, hc1, hc2]), N0, rfl⟩

theorem own_eftc (m : MethodId) (c : Int32) (d : Int32) : entryFrame m #[(.int c), (.int d)] 2 = mkF m 0 #[.val (.int c), .val (.int d)] [] := by first | (simp [entryFrame, mkF, argsToLocals, Value.category]; done) | rfl
set_option maxRecDepth 65536 in
set_option maxHeartbeats 40000000 in
theorem rmtc (l : Launch) (Z : State) (a0 : Array Value) (G : OwnG Z a0) (ws : List Jvm.Cond) (c : Int32) (d : Int32) (h0 : Heap) (n0 : Nat) (O0 : Old Z n0 h0)  :
    MetFree l own_m25 (head1 (Jvm.Cond.code own_m25 jdk_89_method_19_code 2 (some .int) :: ws) ({ frames := 0, cells := 0, slots := 0, locals := 0 } : Room)) (fun a U => a = #[(.int c), (.int d)] ∧ Z.Warmed39 U.vm ∧ U.heap = h0) (fun _ _ _ _ _ => True) (fun _ U o U' => ∃ v L, o = .returned v ∧ (own_Qint (((c <<< ((10 : Int32) &&& 31)) + d) + (-56613888 : Int32))) h0 n0 v U'.heap L ∧ FrameEnd U o U' L ({ frames := 0, cells := 0, slots := 0, locals := 0 } : Room).cells ({ frames := 0, cells := 0, slots := 0, locals := 0 } : Room).slots) := by
  refine MetFree.of_bodySF (plainFor_of_name pn_5) hisR ?_
  intro p e s m args below meth cD s₁ Bd hml0 hP hK
  obtain ⟨rfl, hZ, hh⟩ := hP
  have hw := G.1
  have hx := Bd.exec
  have hby := Bd.bytes
  have hml : cD.maxLocals = 2 := hml0
  have hown : s.vm.findClass "java/lang/Character" = some m.cls := findClass_of_methodNamed Bd.named
  have hnm := (name_of_methodNamed Bd.named Bd.method).1
  have hlk := Bd.notSynchronized
  have X0 : Stand p l e ({ frames := 0, cells := 0, slots := 0, locals := 0 } : Room) s m #[(.int c), (.int d)] below meth cD s₁ [] 0 0 := Stand.of_body Bd
  have e0 : s₁.heap = h0 := by rw [← hh, Bd.state]; rfl
  have K0 : Keep h0 h0 [] := Keep.refl h0 _
  have Z0 := own_old_le O0
  have N0 := Fr.nil n0
  refine OwnEnd.start (g' := (mkF m 0 #[.val (.int c), .val (.int d)] [])) (own_eftc m c d) ?_
  refine OwnEnd.of (S' := s₁.setTop (mkF m 6 #[.val (.int c), .val (.int d)] [(.int ((c <<< ((10 : Int32) &&& 31)) + d))])) (fun _ kK => XS.iloadN X0.here hx rfl (hb hby d25_0) rfl (XS.bipush X0.here hx rfl (hb hby d25_1) (XS.ishl X0.here hx rfl (hb hby d25_3) rfl (XS.iloadN X0.here hx rfl (hb hby d25_4) rfl (XS.iadd X0.here hx rfl (hb hby d25_5) rfl kK))))) ?_
  refine OwnEnd.of (S' := s₁.setTop (mkF m 8 #[.val (.int c), .val (.int d)] [(.int (-56613888 : Int32)), (.int ((c <<< ((10 : Int32) &&& 31)) + d))])) (fun _ kK => X0.ldcInt hx hown (mvT hZ (own_w G 171 rfl)) (g := (mkF m 6 #[.val (.int c), .val (.int d)] [(.int ((c <<< ((10 : Int32) &&& 31)) + d))])) rfl (hb hby d25_6) _ kK) ?_
  refine OwnEnd.of (S' := s₁.setTop (mkF m 9 #[.val (.int c), .val (.int d)] [(.int (((c <<< ((10 : Int32) &&& 31)) + d) + (-56613888 : Int32)))])) (fun _ kK => XS.iadd X0.here hx rfl (hb hby d25_8) rfl kK) ?_
  refine OwnEnd.ret X0 (v := (some (.int (((c <<< ((10 : Int32) &&& 31)) + d) + (-56613888 : Int32))))) (fun h => by rw [Bd.returns] at h; cases h) hlk (fun fs hr => retOut X0 hx Bd.returns rfl (Or.inl ⟨rfl, Or.inl rfl, _, rfl⟩) (hb hby d25_9) hr) (by decide) (by decide) (Q := (own_Qint (((c <<< ((10 : Int32) &&& 31)) + d) + (-56613888 : Int32))) h0 n0) e0 ?_
  exact ⟨rfl, N0, rfl⟩

theorem own_efcb1 (m : MethodId) (t : Addr) : entryFrame m #[(.ref t), (.int (1 : Int32)), (.int (0 : Int32))] 5 = mkF m 0 #[.val (.ref t), .val (.int (1 : Int32)), .val (.int (0 : Int32)), .unset, .unset] [] := by first | (simp [entryFrame, mkF, argsToLocals, Value.category]; done) | rfl
set_option maxRecDepth 65536 in
set_option maxHeartbeats 40000000 in
theorem rmcb1 (l : Launch) (Z : State) (a0 : Array Value) (G : OwnG Z a0) (ws : List Jvm.Cond) (t : Addr) (kb : ClassId) (c0 : Int32) (h0 : Heap) (n0 : Nat) (O0 : Old Z n0 h0) (P0 : Arv Z h0 t kb .byte (2 : Int32) (StrChars.Road.wideBytes [c0]) (.int (0 : Int32))) (P1 : ∀ c ∈ ([c0] : List Int32), ¬ c < (0 : Int32) ∧ ¬ (65535 : Int32) < c) :
    MetFree l own_m26 (head1 (Jvm.Cond.code own_m26 jdk_52_method_9_code 5 (some .int) :: ws) ({ frames := 1, cells := 0, slots := 0, locals := 13 } : Room)) (fun a U => a = #[(.ref t), (.int (1 : Int32)), (.int (0 : Int32))] ∧ Z.Warmed39 U.vm ∧ U.heap = h0) (fun _ _ _ _ _ => True) (fun _ U o U' => ∃ v L, o = .returned v ∧ (own_Qint (own_jpl [c0])) h0 n0 v U'.heap L ∧ FrameEnd U o U' L ({ frames := 1, cells := 0, slots := 0, locals := 13 } : Room).cells ({ frames := 1, cells := 0, slots := 0, locals := 13 } : Room).slots) := by
  refine MetFree.of_bodySF (plainFor_of_name pn_3) hisR ?_
  intro p e s m args below meth cD s₁ Bd hml0 hP hK
  obtain ⟨rfl, hZ, hh⟩ := hP
  have hw := G.1
  have hx := Bd.exec
  have hby := Bd.bytes
  have hml : cD.maxLocals = 5 := hml0
  have hown : s.vm.findClass "java/lang/StringUTF16" = some m.cls := findClass_of_methodNamed Bd.named
  have hnm := (name_of_methodNamed Bd.named Bd.method).1
  have hlk := Bd.notSynchronized
  have X0 : Stand p l e ({ frames := 1, cells := 0, slots := 0, locals := 13 } : Room) s m #[(.ref t), (.int (1 : Int32)), (.int (0 : Int32))] below meth cD s₁ [] 0 0 := Stand.of_body Bd
  have e0 : s₁.heap = h0 := by rw [← hh, Bd.state]; rfl
  have lt0 := own_ltN' P0.lt
  have K0 : Keep h0 h0 [] := Keep.refl h0 _
  have Z0 := own_old_le O0
  have N0 := Fr.nil n0
  refine OwnEnd.start (g' := (mkF m 0 #[.val (.ref t), .val (.int (1 : Int32)), .val (.int (0 : Int32)), .unset, .unset] [])) (own_efcb1 m t) ?_
  refine OwnEnd.of (S' := s₁.setTop (mkF m 14 #[.val (.ref t), .val (.int (0 : Int32)), .val (.int (0 : Int32)), .unset, .unset] [(.int (0 : Int32)), (.ref t)])) (fun _ kK => XS.iinc X0.here hx rfl (hb hby d26_0) rfl (l' := #[.val (.ref t), .val (.int (0 : Int32)), .val (.int (0 : Int32)), .unset, .unset]) rfl (XS.iloadN X0.here hx rfl (hb hby d26_3) rfl (XS.ifYes X0.here hx rfl (pc0 := 4) (pc' := 12) rfl (hb hby d26_4) rfl ((if0 _ _).trans (teq ((by decide : (0 : Int32) = (0 : Int32)))).1) (by decide) (by decide) (XS.aloadN X0.here hx rfl (hb hby d26_12) rfl rfl (XS.iloadN X0.here hx rfl (hb hby d26_13) rfl kK))))) ?_
  obtain ⟨_, _, ⟨T1, L1, k1, n1⟩, -, X1, ⟨Lc1, hQ1, l1, y1, z1⟩, st1⟩ := Jvm.LawKit.callS X0 hx (y := own_m8) hown (mvT hZ (own_w G 131 rfl)) (mvT hZ (own_w G 132 rfl)) (mvT hZ (own_w G 27 rfl)) (mvT hZ (own_w G 133 rfl)) (by decide) (backOf (W := 0) (rmgc l Z a0 G [] t kb (2 : Int32) (StrChars.Road.wideBytes [c0]) (.int (0 : Int32)) (0 : Int32) (0 : Int32) c0 h0 n0 O0 P0 (by decide : (0 : Int32) <<< ((1 : Int32) &&& 31) = (0 : Int32)) (by decide : ¬ (0 : Int32) < (0 : Int32)) (by decide : (0 : Int32) < (2 : Int32)) (by decide : ¬ ((0 : Int32) + (1 : Int32)) < (0 : Int32)) (by decide : ((0 : Int32) + (1 : Int32)) < (2 : Int32)) (by rfl : (StrChars.Road.wideBytes [c0]).getD (0 : Int32).toNatClampNeg (.int (0 : Int32)) = (.int (StrChars.lo8 c0))) (by rfl : (StrChars.Road.wideBytes [c0]).getD ((0 : Int32) + (1 : Int32)).toNatClampNeg (.int (0 : Int32)) = (.int (StrChars.hi8 c0))) (P1 c0 (by simp))) hZ (own_w G 133 rfl) (own_w G 27 rfl) (by decide) (by decide)) (g := (mkF m 14 #[.val (.ref t), .val (.int (0 : Int32)), .val (.int (0 : Int32)), .unset, .unset] [(.int (0 : Int32)), (.ref t)])) rfl (by rw [hml]; rfl) (argsL := [(.ref t), (.int (0 : Int32))]) (rest := []) (lenOf pd_5 rfl) rfl (by show 2 * 0 + _ ≤ _; exact Nat.le_of_eq rfl) (hb hby d26_14) (fun _ _ => ⟨rfl, e0, (by decide : 0 + 0 ≤ _), (by decide : 0 + 0 ≤ _)⟩)
  dsimp only [Pt.U, Pt.locs, Pt.cells, Pt.slots] at X1 l1 y1 z1 st1 hQ1
  subst l1 y1 z1
  obtain ⟨rfl, N1q, eh1⟩ := hQ1
  have N1 := Fr.app N0 N1q
  refine OwnEnd.of (S' := T1.setTop (mkF m 17 #[.val (.ref t), .val (.int (0 : Int32)), .val (.int (0 : Int32)), .unset, .unset] [(.int c0)])) st1 ?_
  refine OwnEnd.of (S' := T1.setTop (mkF m 19 #[.val (.ref t), .val (.int (0 : Int32)), .val (.int (0 : Int32)), .val (.int c0), .unset] [(.int c0)])) (fun _ kK => XS.istoreN X1.here hx rfl (hb hby d26_17) rfl (l' := #[.val (.ref t), .val (.int (0 : Int32)), .val (.int (0 : Int32)), .val (.int c0), .unset]) rfl (XS.iloadN X1.here hx rfl (hb hby d26_18) rfl kK)) ?_
  obtain ⟨_, _, ⟨T2, L2, k2, n2⟩, -, X2, ⟨Lc2, hQ2, l2, y2, z2⟩, st2⟩ := Jvm.LawKit.callS X1 hx (y := own_m23) hown (mvT hZ (own_w G 151 rfl)) (mvT hZ (own_w G 152 rfl)) (mvT hZ (own_w G 153 rfl)) (mvT hZ (own_w G 154 rfl)) (by decide) (backOf (W := 0) (rmlo l Z a0 G [] c0 h0 n0 O0 ) hZ (own_w G 154 rfl) (own_w G 153 rfl) (by decide) (by decide)) (g := (mkF m 19 #[.val (.ref t), .val (.int (0 : Int32)), .val (.int (0 : Int32)), .val (.int c0), .unset] [(.int c0)])) rfl (by rw [hml]; rfl) (argsL := [(.int c0)]) (rest := []) (lenOf pd_18 rfl) rfl (by show 2 * 0 + _ ≤ _; exact Nat.le_of_eq rfl) (hb hby d26_19) (fun _ _ => ⟨rfl, eh1, (by decide : 0 + 0 ≤ _), (by decide : 0 + 0 ≤ _)⟩)
  dsimp only [Pt.U, Pt.locs, Pt.cells, Pt.slots] at X2 l2 y2 z2 st2 hQ2
  subst l2 y2 z2
  obtain ⟨rfl, N2q, eh2⟩ := hQ2
  have N2 := Fr.app N1 N2q
  refine OwnEnd.of (S' := T2.setTop (mkF m 22 #[.val (.ref t), .val (.int (0 : Int32)), .val (.int (0 : Int32)), .val (.int c0), .unset] [(.int (own_low c0))])) st2 ?_
  rcases Decidable.em ((own_low c0) = (0 : Int32)) with hc3 | hc3
  · refine OwnEnd.of (S' := T2.setTop (mkF m 64 #[.val (.ref t), .val (.int (0 : Int32)), .val (.int (0 : Int32)), .val (.int c0), .unset] [(.int c0)])) (fun _ kK => XS.ifYes X2.here hx rfl (pc0 := 22) (pc' := 63) rfl (hb hby d26_22) rfl ((if0 _ _).trans (teq (hc3)).1) (by decide) (by decide) (XS.iloadN X2.here hx rfl (hb hby d26_63) rfl kK)) ?_
    refine OwnEnd.ret X2 (v := (some (.int c0))) (fun h => by rw [Bd.returns] at h; cases h) hlk (fun fs hr => retOut X2 hx Bd.returns rfl (Or.inl ⟨rfl, Or.inl rfl, _, rfl⟩) (hb hby d26_64) hr) (by decide) (by decide) (Q := (own_Qint (own_jpl [c0])) h0 n0) eh2 ?_
    exact ⟨rfl, N2, rfl⟩
  · refine OwnEnd.of (S' := T2.setTop (mkF m 64 #[.val (.ref t), .val (.int (0 : Int32)), .val (.int (0 : Int32)), .val (.int c0), .unset] [(.int c0)])) (fun _ kK => XS.ifNo X2.here hx rfl (hb hby d26_22) rfl ((if0 _ _).trans (feq (hc3)).1) (XS.iloadN X2.here hx rfl (hb hby d26_25) rfl (XS.ifYes X2.here hx rfl (pc0 := 26) (pc' := 63) rfl (hb hby d26_26) rfl ((if0 _ _).trans (flt ((by decide : ¬ ((0 : Int32) < (0 : Int32))))).2.2.2) (by decide) (by decide) (XS.iloadN X2.here hx rfl (hb hby d26_63) rfl kK)))) ?_
    refine OwnEnd.ret X2 (v := (some (.int c0))) (fun h => by rw [Bd.returns] at h; cases h) hlk (fun fs hr => retOut X2 hx Bd.returns rfl (Or.inl ⟨rfl, Or.inl rfl, _, rfl⟩) (hb hby d26_64) hr) (by decide) (by decide) (Q := (own_Qint (own_jpl [c0])) h0 n0) eh2 ?_
    exact ⟨rfl, N2, rfl⟩

theorem own_efcc1 (m : MethodId) (t : Addr) : entryFrame m #[(.ref t), (.int (1 : Int32))] 2 = mkF m 0 #[.val (.ref t), .val (.int (1 : Int32))] [] := by first | (simp [entryFrame, mkF, argsToLocals, Value.category]; done) | rfl
set_option maxRecDepth 65536 in
set_option maxHeartbeats 40000000 in
theorem rmcc1 (l : Launch) (Z : State) (a0 : Array Value) (G : OwnG Z a0) (ws : List Jvm.Cond) (t : Addr) (kb : ClassId) (c0 : Int32) (h0 : Heap) (n0 : Nat) (O0 : Old Z n0 h0) (P0 : Arv Z h0 t kb .byte (2 : Int32) (StrChars.Road.wideBytes [c0]) (.int (0 : Int32))) (P1 : ∀ c ∈ ([c0] : List Int32), ¬ c < (0 : Int32) ∧ ¬ (65535 : Int32) < c) :
    MetFree l own_m27 (head1 (Jvm.Cond.code own_m27 jdk_52_method_10_code 2 (some .int) :: ws) ({ frames := 2, cells := 0, slots := 0, locals := 29 } : Room)) (fun a U => a = #[(.ref t), (.int (1 : Int32))] ∧ Z.Warmed39 U.vm ∧ U.heap = h0) (fun _ _ _ _ _ => True) (fun _ U o U' => ∃ v L, o = .returned v ∧ (own_Qint (own_jpl [c0])) h0 n0 v U'.heap L ∧ FrameEnd U o U' L ({ frames := 2, cells := 0, slots := 0, locals := 29 } : Room).cells ({ frames := 2, cells := 0, slots := 0, locals := 29 } : Room).slots) := by
  refine MetFree.of_bodySF (plainFor_of_name pn_3) hisR ?_
  intro p e s m args below meth cD s₁ Bd hml0 hP hK
  obtain ⟨rfl, hZ, hh⟩ := hP
  have hw := G.1
  have hx := Bd.exec
  have hby := Bd.bytes
  have hml : cD.maxLocals = 2 := hml0
  have hown : s.vm.findClass "java/lang/StringUTF16" = some m.cls := findClass_of_methodNamed Bd.named
  have hnm := (name_of_methodNamed Bd.named Bd.method).1
  have hlk := Bd.notSynchronized
  have X0 : Stand p l e ({ frames := 2, cells := 0, slots := 0, locals := 29 } : Room) s m #[(.ref t), (.int (1 : Int32))] below meth cD s₁ [] 0 0 := Stand.of_body Bd
  have e0 : s₁.heap = h0 := by rw [← hh, Bd.state]; rfl
  have lt0 := own_ltN' P0.lt
  have K0 : Keep h0 h0 [] := Keep.refl h0 _
  have Z0 := own_old_le O0
  have N0 := Fr.nil n0
  refine OwnEnd.start (g' := (mkF m 0 #[.val (.ref t), .val (.int (1 : Int32))] [])) (own_efcc1 m t) ?_
  refine OwnEnd.of (S' := s₁.setTop (mkF m 3 #[.val (.ref t), .val (.int (1 : Int32))] [(.int (0 : Int32)), (.int (1 : Int32)), (.ref t)])) (fun _ kK => XS.aloadN X0.here hx rfl (hb hby d27_0) rfl rfl (XS.iloadN X0.here hx rfl (hb hby d27_1) rfl (XS.iconst X0.here hx rfl (hb hby d27_2) kK))) ?_
  obtain ⟨_, _, ⟨T1, L1, k1, n1⟩, -, X1, ⟨Lc1, hQ1, l1, y1, z1⟩, st1⟩ := Jvm.LawKit.callS X0 hx (y := own_m26) hown (mvT hZ (own_w G 148 rfl)) (mvT hZ (own_w G 149 rfl)) (mvT hZ (own_w G 27 rfl)) (mvT hZ (own_w G 150 rfl)) (by decide) (backOf (W := 0) (rmcb1 l Z a0 G [] t kb c0 h0 n0 O0 P0 P1) hZ (own_w G 150 rfl) (own_w G 27 rfl) (by decide) (by decide)) (g := (mkF m 3 #[.val (.ref t), .val (.int (1 : Int32))] [(.int (0 : Int32)), (.int (1 : Int32)), (.ref t)])) rfl (by rw [hml]; rfl) (argsL := [(.ref t), (.int (1 : Int32)), (.int (0 : Int32))]) (rest := []) (lenOf pd_19 rfl) rfl (by show 2 * 0 + _ ≤ _; exact Nat.le_of_eq rfl) (hb hby d27_3) (fun _ _ => ⟨rfl, e0, (by decide : 0 + 0 ≤ _), (by decide : 0 + 0 ≤ _)⟩)
  dsimp only [Pt.U, Pt.locs, Pt.cells, Pt.slots] at X1 l1 y1 z1 st1 hQ1
  subst l1 y1 z1
  obtain ⟨rfl, N1q, eh1⟩ := hQ1
  have N1 := Fr.app N0 N1q
  refine OwnEnd.of (S' := T1.setTop (mkF m 6 #[.val (.ref t), .val (.int (1 : Int32))] [(.int (own_jpl [c0]))])) st1 ?_
  refine OwnEnd.ret X1 (v := (some (.int (own_jpl [c0])))) (fun h => by rw [Bd.returns] at h; cases h) hlk (fun fs hr => retOut X1 hx Bd.returns rfl (Or.inl ⟨rfl, Or.inl rfl, _, rfl⟩) (hb hby d27_6) hr) (by decide) (by decide) (Q := (own_Qint (own_jpl [c0])) h0 n0) eh1 ?_
  exact ⟨rfl, N1, rfl⟩

theorem own_efcb2 (m : MethodId) (t : Addr) : entryFrame m #[(.ref t), (.int (2 : Int32)), (.int (0 : Int32))] 5 = mkF m 0 #[.val (.ref t), .val (.int (2 : Int32)), .val (.int (0 : Int32)), .unset, .unset] [] := by first | (simp [entryFrame, mkF, argsToLocals, Value.category]; done) | rfl
set_option maxRecDepth 65536 in
set_option maxHeartbeats 40000000 in
theorem rmcb2 (l : Launch) (Z : State) (a0 : Array Value) (G : OwnG Z a0) (ws : List Jvm.Cond) (t : Addr) (kb : ClassId) (c0 : Int32) (c1 : Int32) (h0 : Heap) (n0 : Nat) (O0 : Old Z n0 h0) (P0 : Arv Z h0 t kb .byte (4 : Int32) (StrChars.Road.wideBytes [c0, c1]) (.int (0 : Int32))) (P1 : ∀ c ∈ ([c0, c1] : List Int32), ¬ c < (0 : Int32) ∧ ¬ (65535 : Int32) < c) :
    MetFree l own_m26 (head1 (Jvm.Cond.code own_m26 jdk_52_method_9_code 5 (some .int) :: ws) ({ frames := 1, cells := 0, slots := 0, locals := 13 } : Room)) (fun a U => a = #[(.ref t), (.int (2 : Int32)), (.int (0 : Int32))] ∧ Z.Warmed39 U.vm ∧ U.heap = h0) (fun _ _ _ _ _ => True) (fun _ U o U' => ∃ v L, o = .returned v ∧ (own_Qint (own_jpl [c0, c1])) h0 n0 v U'.heap L ∧ FrameEnd U o U' L ({ frames := 1, cells := 0, slots := 0, locals := 13 } : Room).cells ({ frames := 1, cells := 0, slots := 0, locals := 13 } : Room).slots) := by
  refine MetFree.of_bodySF (plainFor_of_name pn_3) hisR ?_
  intro p e s m args below meth cD s₁ Bd hml0 hP hK
  obtain ⟨rfl, hZ, hh⟩ := hP
  have hw := G.1
  have hx := Bd.exec
  have hby := Bd.bytes
  have hml : cD.maxLocals = 5 := hml0
  have hown : s.vm.findClass "java/lang/StringUTF16" = some m.cls := findClass_of_methodNamed Bd.named
  have hnm := (name_of_methodNamed Bd.named Bd.method).1
  have hlk := Bd.notSynchronized
  have X0 : Stand p l e ({ frames := 1, cells := 0, slots := 0, locals := 13 } : Room) s m #[(.ref t), (.int (2 : Int32)), (.int (0 : Int32))] below meth cD s₁ [] 0 0 := Stand.of_body Bd
  have e0 : s₁.heap = h0 := by rw [← hh, Bd.state]; rfl
  have lt0 := own_ltN' P0.lt
  have K0 : Keep h0 h0 [] := Keep.refl h0 _
  have Z0 := own_old_le O0
  have N0 := Fr.nil n0
  refine OwnEnd.start (g' := (mkF m 0 #[.val (.ref t), .val (.int (2 : Int32)), .val (.int (0 : Int32)), .unset, .unset] [])) (own_efcb2 m t) ?_
  refine OwnEnd.of (S' := s₁.setTop (mkF m 14 #[.val (.ref t), .val (.int (1 : Int32)), .val (.int (0 : Int32)), .unset, .unset] [(.int (1 : Int32)), (.ref t)])) (fun _ kK => XS.iinc X0.here hx rfl (hb hby d26_0) rfl (l' := #[.val (.ref t), .val (.int (1 : Int32)), .val (.int (0 : Int32)), .unset, .unset]) rfl (XS.iloadN X0.here hx rfl (hb hby d26_3) rfl (XS.ifYes X0.here hx rfl (pc0 := 4) (pc' := 12) rfl (hb hby d26_4) rfl ((if0 _ _).trans (teq ((by decide : (0 : Int32) = (0 : Int32)))).1) (by decide) (by decide) (XS.aloadN X0.here hx rfl (hb hby d26_12) rfl rfl (XS.iloadN X0.here hx rfl (hb hby d26_13) rfl kK))))) ?_
  obtain ⟨_, _, ⟨T1, L1, k1, n1⟩, -, X1, ⟨Lc1, hQ1, l1, y1, z1⟩, st1⟩ := Jvm.LawKit.callS X0 hx (y := own_m8) hown (mvT hZ (own_w G 131 rfl)) (mvT hZ (own_w G 132 rfl)) (mvT hZ (own_w G 27 rfl)) (mvT hZ (own_w G 133 rfl)) (by decide) (backOf (W := 0) (rmgc l Z a0 G [] t kb (4 : Int32) (StrChars.Road.wideBytes [c0, c1]) (.int (0 : Int32)) (1 : Int32) (2 : Int32) c1 h0 n0 O0 P0 (by decide : (1 : Int32) <<< ((1 : Int32) &&& 31) = (2 : Int32)) (by decide : ¬ (2 : Int32) < (0 : Int32)) (by decide : (2 : Int32) < (4 : Int32)) (by decide : ¬ ((2 : Int32) + (1 : Int32)) < (0 : Int32)) (by decide : ((2 : Int32) + (1 : Int32)) < (4 : Int32)) (by rfl : (StrChars.Road.wideBytes [c0, c1]).getD (2 : Int32).toNatClampNeg (.int (0 : Int32)) = (.int (StrChars.lo8 c1))) (by rfl : (StrChars.Road.wideBytes [c0, c1]).getD ((2 : Int32) + (1 : Int32)).toNatClampNeg (.int (0 : Int32)) = (.int (StrChars.hi8 c1))) (P1 c1 (by simp))) hZ (own_w G 133 rfl) (own_w G 27 rfl) (by decide) (by decide)) (g := (mkF m 14 #[.val (.ref t), .val (.int (1 : Int32)), .val (.int (0 : Int32)), .unset, .unset] [(.int (1 : Int32)), (.ref t)])) rfl (by rw [hml]; rfl) (argsL := [(.ref t), (.int (1 : Int32))]) (rest := []) (lenOf pd_5 rfl) rfl (by show 2 * 0 + _ ≤ _; exact Nat.le_of_eq rfl) (hb hby d26_14) (fun _ _ => ⟨rfl, e0, (by decide : 0 + 0 ≤ _), (by decide : 0 + 0 ≤ _)⟩)
  dsimp only [Pt.U, Pt.locs, Pt.cells, Pt.slots] at X1 l1 y1 z1 st1 hQ1
  subst l1 y1 z1
  obtain ⟨rfl, N1q, eh1⟩ := hQ1
  have N1 := Fr.app N0 N1q
  refine OwnEnd.of (S' := T1.setTop (mkF m 17 #[.val (.ref t), .val (.int (1 : Int32)), .val (.int (0 : Int32)), .unset, .unset] [(.int c1)])) st1 ?_
  refine OwnEnd.of (S' := T1.setTop (mkF m 19 #[.val (.ref t), .val (.int (1 : Int32)), .val (.int (0 : Int32)), .val (.int c1), .unset] [(.int c1)])) (fun _ kK => XS.istoreN X1.here hx rfl (hb hby d26_17) rfl (l' := #[.val (.ref t), .val (.int (1 : Int32)), .val (.int (0 : Int32)), .val (.int c1), .unset]) rfl (XS.iloadN X1.here hx rfl (hb hby d26_18) rfl kK)) ?_
  obtain ⟨_, _, ⟨T2, L2, k2, n2⟩, -, X2, ⟨Lc2, hQ2, l2, y2, z2⟩, st2⟩ := Jvm.LawKit.callS X1 hx (y := own_m23) hown (mvT hZ (own_w G 151 rfl)) (mvT hZ (own_w G 152 rfl)) (mvT hZ (own_w G 153 rfl)) (mvT hZ (own_w G 154 rfl)) (by decide) (backOf (W := 0) (rmlo l Z a0 G [] c1 h0 n0 O0 ) hZ (own_w G 154 rfl) (own_w G 153 rfl) (by decide) (by decide)) (g := (mkF m 19 #[.val (.ref t), .val (.int (1 : Int32)), .val (.int (0 : Int32)), .val (.int c1), .unset] [(.int c1)])) rfl (by rw [hml]; rfl) (argsL := [(.int c1)]) (rest := []) (lenOf pd_18 rfl) rfl (by show 2 * 0 + _ ≤ _; exact Nat.le_of_eq rfl) (hb hby d26_19) (fun _ _ => ⟨rfl, eh1, (by decide : 0 + 0 ≤ _), (by decide : 0 + 0 ≤ _)⟩)
  dsimp only [Pt.U, Pt.locs, Pt.cells, Pt.slots] at X2 l2 y2 z2 st2 hQ2
  subst l2 y2 z2
  obtain ⟨rfl, N2q, eh2⟩ := hQ2
  have N2 := Fr.app N1 N2q
  refine OwnEnd.of (S' := T2.setTop (mkF m 22 #[.val (.ref t), .val (.int (1 : Int32)), .val (.int (0 : Int32)), .val (.int c1), .unset] [(.int (own_low c1))])) st2 ?_
  rcases Decidable.em ((own_low c1) = (0 : Int32)) with hc3 | hc3
  · refine OwnEnd.of (S' := T2.setTop (mkF m 64 #[.val (.ref t), .val (.int (1 : Int32)), .val (.int (0 : Int32)), .val (.int c1), .unset] [(.int c1)])) (fun _ kK => XS.ifYes X2.here hx rfl (pc0 := 22) (pc' := 63) rfl (hb hby d26_22) rfl ((if0 _ _).trans (teq (hc3)).1) (by decide) (by decide) (XS.iloadN X2.here hx rfl (hb hby d26_63) rfl kK)) ?_
    refine OwnEnd.ret X2 (v := (some (.int c1))) (fun h => by rw [Bd.returns] at h; cases h) hlk (fun fs hr => retOut X2 hx Bd.returns rfl (Or.inl ⟨rfl, Or.inl rfl, _, rfl⟩) (hb hby d26_64) hr) (by decide) (by decide) (Q := (own_Qint (own_jpl [c0, c1])) h0 n0) eh2 ?_
    exact ⟨(by simp [own_jpl, own_jl2, hc3]), N2, rfl⟩
  · refine OwnEnd.of (S' := T2.setTop (mkF m 43 #[.val (.ref t), .val (.int (0 : Int32)), .val (.int (0 : Int32)), .val (.int c1), .unset] [(.int (0 : Int32)), (.ref t)])) (fun _ kK => XS.ifNo X2.here hx rfl (hb hby d26_22) rfl ((if0 _ _).trans (feq (hc3)).1) (XS.iloadN X2.here hx rfl (hb hby d26_25) rfl (XS.ifNo X2.here hx rfl (hb hby d26_26) rfl ((if0 _ _).trans (tlt ((by decide : (0 : Int32) < (1 : Int32)))).2.2.2) (XS.iinc X2.here hx rfl (hb hby d26_29) rfl (l' := #[.val (.ref t), .val (.int (0 : Int32)), .val (.int (0 : Int32)), .val (.int c1), .unset]) rfl (XS.iloadN X2.here hx rfl (hb hby d26_32) rfl (XS.ifYes X2.here hx rfl (pc0 := 33) (pc' := 41) rfl (hb hby d26_33) rfl ((if0 _ _).trans (teq ((by decide : (0 : Int32) = (0 : Int32)))).1) (by decide) (by decide) (XS.aloadN X2.here hx rfl (hb hby d26_41) rfl rfl (XS.iloadN X2.here hx rfl (hb hby d26_42) rfl kK)))))))) ?_
    obtain ⟨_, _, ⟨T4, L4, k4, n4⟩, -, X4, ⟨Lc4, hQ4, l4, y4, z4⟩, st4⟩ := Jvm.LawKit.callS X2 hx (y := own_m8) hown (mvT hZ (own_w G 131 rfl)) (mvT hZ (own_w G 132 rfl)) (mvT hZ (own_w G 27 rfl)) (mvT hZ (own_w G 133 rfl)) (by decide) (backOf (W := 0) (rmgc l Z a0 G [] t kb (4 : Int32) (StrChars.Road.wideBytes [c0, c1]) (.int (0 : Int32)) (0 : Int32) (0 : Int32) c0 h0 n0 O0 P0 (by decide : (0 : Int32) <<< ((1 : Int32) &&& 31) = (0 : Int32)) (by decide : ¬ (0 : Int32) < (0 : Int32)) (by decide : (0 : Int32) < (4 : Int32)) (by decide : ¬ ((0 : Int32) + (1 : Int32)) < (0 : Int32)) (by decide : ((0 : Int32) + (1 : Int32)) < (4 : Int32)) (by rfl : (StrChars.Road.wideBytes [c0, c1]).getD (0 : Int32).toNatClampNeg (.int (0 : Int32)) = (.int (StrChars.lo8 c0))) (by rfl : (StrChars.Road.wideBytes [c0, c1]).getD ((0 : Int32) + (1 : Int32)).toNatClampNeg (.int (0 : Int32)) = (.int (StrChars.hi8 c0))) (P1 c0 (by simp))) hZ (own_w G 133 rfl) (own_w G 27 rfl) (by decide) (by decide)) (g := (mkF m 43 #[.val (.ref t), .val (.int (0 : Int32)), .val (.int (0 : Int32)), .val (.int c1), .unset] [(.int (0 : Int32)), (.ref t)])) rfl (by rw [hml]; rfl) (argsL := [(.ref t), (.int (0 : Int32))]) (rest := []) (lenOf pd_5 rfl) rfl (by show 2 * 0 + _ ≤ _; exact Nat.le_of_eq rfl) (hb hby d26_43) (fun _ _ => ⟨rfl, eh2, (by decide : 0 + 0 ≤ _), (by decide : 0 + 0 ≤ _)⟩)
    dsimp only [Pt.U, Pt.locs, Pt.cells, Pt.slots] at X4 l4 y4 z4 st4 hQ4
    subst l4 y4 z4
    obtain ⟨rfl, N4q, eh4⟩ := hQ4
    have N4 := Fr.app N2 N4q
    refine OwnEnd.of (S' := T4.setTop (mkF m 46 #[.val (.ref t), .val (.int (0 : Int32)), .val (.int (0 : Int32)), .val (.int c1), .unset] [(.int c0)])) st4 ?_
    refine OwnEnd.of (S' := T4.setTop (mkF m 50 #[.val (.ref t), .val (.int (0 : Int32)), .val (.int (0 : Int32)), .val (.int c1), .val (.int c0)] [(.int c0)])) (fun _ kK => XS.istore X4.here hx rfl (hb hby d26_46) rfl (l' := #[.val (.ref t), .val (.int (0 : Int32)), .val (.int (0 : Int32)), .val (.int c1), .val (.int c0)]) rfl (XS.iload X4.here hx rfl (hb hby d26_48) rfl kK)) ?_
    obtain ⟨_, _, ⟨T5, L5, k5, n5⟩, -, X5, ⟨Lc5, hQ5, l5, y5, z5⟩, st5⟩ := Jvm.LawKit.callS X4 hx (y := own_m24) hown (mvT hZ (own_w G 163 rfl)) (mvT hZ (own_w G 164 rfl)) (mvT hZ (own_w G 153 rfl)) (mvT hZ (own_w G 165 rfl)) (by decide) (backOf (W := 0) (rmhg l Z a0 G [] c0 h0 n0 O0 ) hZ (own_w G 165 rfl) (own_w G 153 rfl) (by decide) (by decide)) (g := (mkF m 50 #[.val (.ref t), .val (.int (0 : Int32)), .val (.int (0 : Int32)), .val (.int c1), .val (.int c0)] [(.int c0)])) rfl (by rw [hml]; rfl) (argsL := [(.int c0)]) (rest := []) (lenOf pd_18 rfl) rfl (by show 2 * 0 + _ ≤ _; exact Nat.le_of_eq rfl) (hb hby d26_50) (fun _ _ => ⟨rfl, eh4, (by decide : 0 + 0 ≤ _), (by decide : 0 + 0 ≤ _)⟩)
    dsimp only [Pt.U, Pt.locs, Pt.cells, Pt.slots] at X5 l5 y5 z5 st5 hQ5
    subst l5 y5 z5
    obtain ⟨rfl, N5q, eh5⟩ := hQ5
    have N5 := Fr.app N4 N5q
    refine OwnEnd.of (S' := T5.setTop (mkF m 53 #[.val (.ref t), .val (.int (0 : Int32)), .val (.int (0 : Int32)), .val (.int c1), .val (.int c0)] [(.int (own_high c0))])) st5 ?_
    rcases Decidable.em ((own_high c0) = (0 : Int32)) with hc6 | hc6
    · refine OwnEnd.of (S' := T5.setTop (mkF m 64 #[.val (.ref t), .val (.int (0 : Int32)), .val (.int (0 : Int32)), .val (.int c1), .val (.int c0)] [(.int c1)])) (fun _ kK => XS.ifYes X5.here hx rfl (pc0 := 53) (pc' := 63) rfl (hb hby d26_53) rfl ((if0 _ _).trans (teq (hc6)).1) (by decide) (by decide) (XS.iloadN X5.here hx rfl (hb hby d26_63) rfl kK)) ?_
      refine OwnEnd.ret X5 (v := (some (.int c1))) (fun h => by rw [Bd.returns] at h; cases h) hlk (fun fs hr => retOut X5 hx Bd.returns rfl (Or.inl ⟨rfl, Or.inl rfl, _, rfl⟩) (hb hby d26_64) hr) (by decide) (by decide) (Q := (own_Qint (own_jpl [c0, c1])) h0 n0) eh5 ?_
      exact ⟨(by simp [own_jpl, own_jl2, hc3, hc6]), N5, rfl⟩
    · refine OwnEnd.of (S' := T5.setTop (mkF m 59 #[.val (.ref t), .val (.int (0 : Int32)), .val (.int (0 : Int32)), .val (.int c1), .val (.int c0)] [(.int c1), (.int c0)])) (fun _ kK => XS.ifNo X5.here hx rfl (hb hby d26_53) rfl ((if0 _ _).trans (feq (hc6)).1) (XS.iload X5.here hx rfl (hb hby d26_56) rfl (XS.iloadN X5.here hx rfl (hb hby d26_58) rfl kK))) ?_
      obtain ⟨_, _, ⟨T7, L7, k7, n7⟩, -, X7, ⟨Lc7, hQ7, l7, y7, z7⟩, st7⟩ := Jvm.LawKit.callS X5 hx (y := own_m25) hown (mvT hZ (own_w G 168 rfl)) (mvT hZ (own_w G 169 rfl)) (mvT hZ (own_w G 153 rfl)) (mvT hZ (own_w G 170 rfl)) (by decide) (backOf (W := 0) (rmtc l Z a0 G [] c0 c1 h0 n0 O0 ) hZ (own_w G 170 rfl) (own_w G 153 rfl) (by decide) (by decide)) (g := (mkF m 59 #[.val (.ref t), .val (.int (0 : Int32)), .val (.int (0 : Int32)), .val (.int c1), .val (.int c0)] [(.int c1), (.int c0)])) rfl (by rw [hml]; rfl) (argsL := [(.int c0), (.int c1)]) (rest := []) (lenOf pd_20 rfl) rfl (by show 2 * 0 + _ ≤ _; exact Nat.le_of_eq rfl) (hb hby d26_59) (fun _ _ => ⟨rfl, eh5, (by decide : 0 + 0 ≤ _), (by decide : 0 + 0 ≤ _)⟩)
      dsimp only [Pt.U, Pt.locs, Pt.cells, Pt.slots] at X7 l7 y7 z7 st7 hQ7
      subst l7 y7 z7
      obtain ⟨rfl, N7q, eh7⟩ := hQ7
      have N7 := Fr.app N5 N7q
      refine OwnEnd.of (S' := T7.setTop (mkF m 62 #[.val (.ref t), .val (.int (0 : Int32)), .val (.int (0 : Int32)), .val (.int c1), .val (.int c0)] [(.int (((c0 <<< ((10 : Int32) &&& 31)) + c1) + (-56613888 : Int32)))])) st7 ?_
      refine OwnEnd.ret X7 (v := (some (.int (((c0 <<< ((10 : Int32) &&& 31)) + c1) + (-56613888 : Int32))))) (fun h => by rw [Bd.returns] at h; cases h) hlk (fun fs hr => retOut X7 hx Bd.returns rfl (Or.inl ⟨rfl, Or.inl rfl, _, rfl⟩) (hb hby d26_62) hr) (by decide) (by decide) (Q := (own_Qint (own_jpl [c0, c1])) h0 n0) eh7 ?_
      exact ⟨(by simp [own_jpl, own_jl2, hc3, hc6]), N7, rfl⟩

theorem own_efcc2 (m : MethodId) (t : Addr) : entryFrame m #[(.ref t), (.int (2 : Int32))] 2 = mkF m 0 #[.val (.ref t), .val (.int (2 : Int32))] [] := by first | (simp [entryFrame, mkF, argsToLocals, Value.category]; done) | rfl
set_option maxRecDepth 65536 in
set_option maxHeartbeats 40000000 in
theorem rmcc2 (l : Launch) (Z : State) (a0 : Array Value) (G : OwnG Z a0) (ws : List Jvm.Cond) (t : Addr) (kb : ClassId) (c0 : Int32) (c1 : Int32) (h0 : Heap) (n0 : Nat) (O0 : Old Z n0 h0) (P0 : Arv Z h0 t kb .byte (4 : Int32) (StrChars.Road.wideBytes [c0, c1]) (.int (0 : Int32))) (P1 : ∀ c ∈ ([c0, c1] : List Int32), ¬ c < (0 : Int32) ∧ ¬ (65535 : Int32) < c) :
    MetFree l own_m27 (head1 (Jvm.Cond.code own_m27 jdk_52_method_10_code 2 (some .int) :: ws) ({ frames := 2, cells := 0, slots := 0, locals := 29 } : Room)) (fun a U => a = #[(.ref t), (.int (2 : Int32))] ∧ Z.Warmed39 U.vm ∧ U.heap = h0) (fun _ _ _ _ _ => True) (fun _ U o U' => ∃ v L, o = .returned v ∧ (own_Qint (own_jpl [c0, c1])) h0 n0 v U'.heap L ∧ FrameEnd U o U' L ({ frames := 2, cells := 0, slots := 0, locals := 29 } : Room).cells ({ frames := 2, cells := 0, slots := 0, locals := 29 } : Room).slots) := by
  refine MetFree.of_bodySF (plainFor_of_name pn_3) hisR ?_
  intro p e s m args below meth cD s₁ Bd hml0 hP hK
  obtain ⟨rfl, hZ, hh⟩ := hP
  have hw := G.1
  have hx := Bd.exec
  have hby := Bd.bytes
  have hml : cD.maxLocals = 2 := hml0
  have hown : s.vm.findClass "java/lang/StringUTF16" = some m.cls := findClass_of_methodNamed Bd.named
  have hnm := (name_of_methodNamed Bd.named Bd.method).1
  have hlk := Bd.notSynchronized
  have X0 : Stand p l e ({ frames := 2, cells := 0, slots := 0, locals := 29 } : Room) s m #[(.ref t), (.int (2 : Int32))] below meth cD s₁ [] 0 0 := Stand.of_body Bd
  have e0 : s₁.heap = h0 := by rw [← hh, Bd.state]; rfl
  have lt0 := own_ltN' P0.lt
  have K0 : Keep h0 h0 [] := Keep.refl h0 _
  have Z0 := own_old_le O0
  have N0 := Fr.nil n0
  refine OwnEnd.start (g' := (mkF m 0 #[.val (.ref t), .val (.int (2 : Int32))] [])) (own_efcc2 m t) ?_
  refine OwnEnd.of (S' := s₁.setTop (mkF m 3 #[.val (.ref t), .val (.int (2 : Int32))] [(.int (0 : Int32)), (.int (2 : Int32)), (.ref t)])) (fun _ kK => XS.aloadN X0.here hx rfl (hb hby d27_0) rfl rfl (XS.iloadN X0.here hx rfl (hb hby d27_1) rfl (XS.iconst X0.here hx rfl (hb hby d27_2) kK))) ?_
  obtain ⟨_, _, ⟨T1, L1, k1, n1⟩, -, X1, ⟨Lc1, hQ1, l1, y1, z1⟩, st1⟩ := Jvm.LawKit.callS X0 hx (y := own_m26) hown (mvT hZ (own_w G 148 rfl)) (mvT hZ (own_w G 149 rfl)) (mvT hZ (own_w G 27 rfl)) (mvT hZ (own_w G 150 rfl)) (by decide) (backOf (W := 0) (rmcb2 l Z a0 G [] t kb c0 c1 h0 n0 O0 P0 P1) hZ (own_w G 150 rfl) (own_w G 27 rfl) (by decide) (by decide)) (g := (mkF m 3 #[.val (.ref t), .val (.int (2 : Int32))] [(.int (0 : Int32)), (.int (2 : Int32)), (.ref t)])) rfl (by rw [hml]; rfl) (argsL := [(.ref t), (.int (2 : Int32)), (.int (0 : Int32))]) (rest := []) (lenOf pd_19 rfl) rfl (by show 2 * 0 + _ ≤ _; exact Nat.le_of_eq rfl) (hb hby d27_3) (fun _ _ => ⟨rfl, e0, (by decide : 0 + 0 ≤ _), (by decide : 0 + 0 ≤ _)⟩)
  dsimp only [Pt.U, Pt.locs, Pt.cells, Pt.slots] at X1 l1 y1 z1 st1 hQ1
  subst l1 y1 z1
  obtain ⟨rfl, N1q, eh1⟩ := hQ1
  have N1 := Fr.app N0 N1q
  refine OwnEnd.of (S' := T1.setTop (mkF m 6 #[.val (.ref t), .val (.int (2 : Int32))] [(.int (own_jpl [c0, c1]))])) st1 ?_
  refine OwnEnd.ret X1 (v := (some (.int (own_jpl [c0, c1])))) (fun h => by rw [Bd.returns] at h; cases h) hlk (fun fs hr => retOut X1 hx Bd.returns rfl (Or.inl ⟨rfl, Or.inl rfl, _, rfl⟩) (hb hby d27_6) hr) (by decide) (by decide) (Q := (own_Qint (own_jpl [c0, c1])) h0 n0) eh1 ?_
  exact ⟨rfl, N1, rfl⟩

theorem own_efcb3 (m : MethodId) (t : Addr) : entryFrame m #[(.ref t), (.int (3 : Int32)), (.int (0 : Int32))] 5 = mkF m 0 #[.val (.ref t), .val (.int (3 : Int32)), .val (.int (0 : Int32)), .unset, .unset] [] := by first | (simp [entryFrame, mkF, argsToLocals, Value.category]; done) | rfl
set_option maxRecDepth 65536 in
set_option maxHeartbeats 40000000 in
theorem rmcb3 (l : Launch) (Z : State) (a0 : Array Value) (G : OwnG Z a0) (ws : List Jvm.Cond) (t : Addr) (kb : ClassId) (c0 : Int32) (c1 : Int32) (c2 : Int32) (h0 : Heap) (n0 : Nat) (O0 : Old Z n0 h0) (P0 : Arv Z h0 t kb .byte (6 : Int32) (StrChars.Road.wideBytes [c0, c1, c2]) (.int (0 : Int32))) (P1 : ∀ c ∈ ([c0, c1, c2] : List Int32), ¬ c < (0 : Int32) ∧ ¬ (65535 : Int32) < c) :
    MetFree l own_m26 (head1 (Jvm.Cond.code own_m26 jdk_52_method_9_code 5 (some .int) :: ws) ({ frames := 1, cells := 0, slots := 0, locals := 13 } : Room)) (fun a U => a = #[(.ref t), (.int (3 : Int32)), (.int (0 : Int32))] ∧ Z.Warmed39 U.vm ∧ U.heap = h0) (fun _ _ _ _ _ => True) (fun _ U o U' => ∃ v L, o = .returned v ∧ (own_Qint (own_jpl [c0, c1, c2])) h0 n0 v U'.heap L ∧ FrameEnd U o U' L ({ frames := 1, cells := 0, slots := 0, locals := 13 } : Room).cells ({ frames := 1, cells := 0, slots := 0, locals := 13 } : Room).slots) := by
  refine MetFree.of_bodySF (plainFor_of_name pn_3) hisR ?_
  intro p e s m args below meth cD s₁ Bd hml0 hP hK
  obtain ⟨rfl, hZ, hh⟩ := hP
  have hw := G.1
  have hx := Bd.exec
  have hby := Bd.bytes
  have hml : cD.maxLocals = 5 := hml0
  have hown : s.vm.findClass "java/lang/StringUTF16" = some m.cls := findClass_of_methodNamed Bd.named
  have hnm := (name_of_methodNamed Bd.named Bd.method).1
  have hlk := Bd.notSynchronized
  have X0 : Stand p l e ({ frames := 1, cells := 0, slots := 0, locals := 13 } : Room) s m #[(.ref t), (.int (3 : Int32)), (.int (0 : Int32))] below meth cD s₁ [] 0 0 := Stand.of_body Bd
  have e0 : s₁.heap = h0 := by rw [← hh, Bd.state]; rfl
  have lt0 := own_ltN' P0.lt
  have K0 : Keep h0 h0 [] := Keep.refl h0 _
  have Z0 := own_old_le O0
  have N0 := Fr.nil n0
  refine OwnEnd.start (g' := (mkF m 0 #[.val (.ref t), .val (.int (3 : Int32)), .val (.int (0 : Int32)), .unset, .unset] [])) (own_efcb3 m t) ?_
  refine OwnEnd.of (S' := s₁.setTop (mkF m 14 #[.val (.ref t), .val (.int (2 : Int32)), .val (.int (0 : Int32)), .unset, .unset] [(.int (2 : Int32)), (.ref t)])) (fun _ kK => XS.iinc X0.here hx rfl (hb hby d26_0) rfl (l' := #[.val (.ref t), .val (.int (2 : Int32)), .val (.int (0 : Int32)), .unset, .unset]) rfl (XS.iloadN X0.here hx rfl (hb hby d26_3) rfl (XS.ifYes X0.here hx rfl (pc0 := 4) (pc' := 12) rfl (hb hby d26_4) rfl ((if0 _ _).trans (teq ((by decide : (0 : Int32) = (0 : Int32)))).1) (by decide) (by decide) (XS.aloadN X0.here hx rfl (hb hby d26_12) rfl rfl (XS.iloadN X0.here hx rfl (hb hby d26_13) rfl kK))))) ?_
  obtain ⟨_, _, ⟨T1, L1, k1, n1⟩, -, X1, ⟨Lc1, hQ1, l1, y1, z1⟩, st1⟩ := Jvm.LawKit.callS X0 hx (y := own_m8) hown (mvT hZ (own_w G 131 rfl)) (mvT hZ (own_w G 132 rfl)) (mvT hZ (own_w G 27 rfl)) (mvT hZ (own_w G 133 rfl)) (by decide) (backOf (W := 0) (rmgc l Z a0 G [] t kb (6 : Int32) (StrChars.Road.wideBytes [c0, c1, c2]) (.int (0 : Int32)) (2 : Int32) (4 : Int32) c2 h0 n0 O0 P0 (by decide : (2 : Int32) <<< ((1 : Int32) &&& 31) = (4 : Int32)) (by decide : ¬ (4 : Int32) < (0 : Int32)) (by decide : (4 : Int32) < (6 : Int32)) (by decide : ¬ ((4 : Int32) + (1 : Int32)) < (0 : Int32)) (by decide : ((4 : Int32) + (1 : Int32)) < (6 : Int32)) (by rfl : (StrChars.Road.wideBytes [c0, c1, c2]).getD (4 : Int32).toNatClampNeg (.int (0 : Int32)) = (.int (StrChars.lo8 c2))) (by rfl : (StrChars.Road.wideBytes [c0, c1, c2]).getD ((4 : Int32) + (1 : Int32)).toNatClampNeg (.int (0 : Int32)) = (.int (StrChars.hi8 c2))) (P1 c2 (by simp))) hZ (own_w G 133 rfl) (own_w G 27 rfl) (by decide) (by decide)) (g := (mkF m 14 #[.val (.ref t), .val (.int (2 : Int32)), .val (.int (0 : Int32)), .unset, .unset] [(.int (2 : Int32)), (.ref t)])) rfl (by rw [hml]; rfl) (argsL := [(.ref t), (.int (2 : Int32))]) (rest := []) (lenOf pd_5 rfl) rfl (by show 2 * 0 + _ ≤ _; exact Nat.le_of_eq rfl) (hb hby d26_14) (fun _ _ => ⟨rfl, e0, (by decide : 0 + 0 ≤ _), (by decide : 0 + 0 ≤ _)⟩)
  dsimp only [Pt.U, Pt.locs, Pt.cells, Pt.slots] at X1 l1 y1 z1 st1 hQ1
  subst l1 y1 z1
  obtain ⟨rfl, N1q, eh1⟩ := hQ1
  have N1 := Fr.app N0 N1q
  refine OwnEnd.of (S' := T1.setTop (mkF m 17 #[.val (.ref t), .val (.int (2 : Int32)), .val (.int (0 : Int32)), .unset, .unset] [(.int c2)])) st1 ?_
  refine OwnEnd.of (S' := T1.setTop (mkF m 19 #[.val (.ref t), .val (.int (2 : Int32)), .val (.int (0 : Int32)), .val (.int c2), .unset] [(.int c2)])) (fun _ kK => XS.istoreN X1.here hx rfl (hb hby d26_17) rfl (l' := #[.val (.ref t), .val (.int (2 : Int32)), .val (.int (0 : Int32)), .val (.int c2), .unset]) rfl (XS.iloadN X1.here hx rfl (hb hby d26_18) rfl kK)) ?_
  obtain ⟨_, _, ⟨T2, L2, k2, n2⟩, -, X2, ⟨Lc2, hQ2, l2, y2, z2⟩, st2⟩ := Jvm.LawKit.callS X1 hx (y := own_m23) hown (mvT hZ (own_w G 151 rfl)) (mvT hZ (own_w G 152 rfl)) (mvT hZ (own_w G 153 rfl)) (mvT hZ (own_w G 154 rfl)) (by decide) (backOf (W := 0) (rmlo l Z a0 G [] c2 h0 n0 O0 ) hZ (own_w G 154 rfl) (own_w G 153 rfl) (by decide) (by decide)) (g := (mkF m 19 #[.val (.ref t), .val (.int (2 : Int32)), .val (.int (0 : Int32)), .val (.int c2), .unset] [(.int c2)])) rfl (by rw [hml]; rfl) (argsL := [(.int c2)]) (rest := []) (lenOf pd_18 rfl) rfl (by show 2 * 0 + _ ≤ _; exact Nat.le_of_eq rfl) (hb hby d26_19) (fun _ _ => ⟨rfl, eh1, (by decide : 0 + 0 ≤ _), (by decide : 0 + 0 ≤ _)⟩)
  dsimp only [Pt.U, Pt.locs, Pt.cells, Pt.slots] at X2 l2 y2 z2 st2 hQ2
  subst l2 y2 z2
  obtain ⟨rfl, N2q, eh2⟩ := hQ2
  have N2 := Fr.app N1 N2q
  refine OwnEnd.of (S' := T2.setTop (mkF m 22 #[.val (.ref t), .val (.int (2 : Int32)), .val (.int (0 : Int32)), .val (.int c2), .unset] [(.int (own_low c2))])) st2 ?_
  rcases Decidable.em ((own_low c2) = (0 : Int32)) with hc3 | hc3
  · refine OwnEnd.of (S' := T2.setTop (mkF m 64 #[.val (.ref t), .val (.int (2 : Int32)), .val (.int (0 : Int32)), .val (.int c2), .unset] [(.int c2)])) (fun _ kK => XS.ifYes X2.here hx rfl (pc0 := 22) (pc' := 63) rfl (hb hby d26_22) rfl ((if0 _ _).trans (teq (hc3)).1) (by decide) (by decide) (XS.iloadN X2.here hx rfl (hb hby d26_63) rfl kK)) ?_
    refine OwnEnd.ret X2 (v := (some (.int c2))) (fun h => by rw [Bd.returns] at h; cases h) hlk (fun fs hr => retOut X2 hx Bd.returns rfl (Or.inl ⟨rfl, Or.inl rfl, _, rfl⟩) (hb hby d26_64) hr) (by decide) (by decide) (Q := (own_Qint (own_jpl [c0, c1, c2])) h0 n0) eh2 ?_
    exact ⟨(by simp [own_jpl, own_jl2, hc3]), N2, rfl⟩
  · refine OwnEnd.of (S' := T2.setTop (mkF m 43 #[.val (.ref t), .val (.int (1 : Int32)), .val (.int (0 : Int32)), .val (.int c2), .unset] [(.int (1 : Int32)), (.ref t)])) (fun _ kK => XS.ifNo X2.here hx rfl (hb hby d26_22) rfl ((if0 _ _).trans (feq (hc3)).1) (XS.iloadN X2.here hx rfl (hb hby d26_25) rfl (XS.ifNo X2.here hx rfl (hb hby d26_26) rfl ((if0 _ _).trans (tlt ((by decide : (0 : Int32) < (2 : Int32)))).2.2.2) (XS.iinc X2.here hx rfl (hb hby d26_29) rfl (l' := #[.val (.ref t), .val (.int (1 : Int32)), .val (.int (0 : Int32)), .val (.int c2), .unset]) rfl (XS.iloadN X2.here hx rfl (hb hby d26_32) rfl (XS.ifYes X2.here hx rfl (pc0 := 33) (pc' := 41) rfl (hb hby d26_33) rfl ((if0 _ _).trans (teq ((by decide : (0 : Int32) = (0 : Int32)))).1) (by decide) (by decide) (XS.aloadN X2.here hx rfl (hb hby d26_41) rfl rfl (XS.iloadN X2.here hx rfl (hb hby d26_42) rfl kK)))))))) ?_
    obtain ⟨_, _, ⟨T4, L4, k4, n4⟩, -, X4, ⟨Lc4, hQ4, l4, y4, z4⟩, st4⟩ := Jvm.LawKit.callS X2 hx (y := own_m8) hown (mvT hZ (own_w G 131 rfl)) (mvT hZ (own_w G 132 rfl)) (mvT hZ (own_w G 27 rfl)) (mvT hZ (own_w G 133 rfl)) (by decide) (backOf (W := 0) (rmgc l Z a0 G [] t kb (6 : Int32) (StrChars.Road.wideBytes [c0, c1, c2]) (.int (0 : Int32)) (1 : Int32) (2 : Int32) c1 h0 n0 O0 P0 (by decide : (1 : Int32) <<< ((1 : Int32) &&& 31) = (2 : Int32)) (by decide : ¬ (2 : Int32) < (0 : Int32)) (by decide : (2 : Int32) < (6 : Int32)) (by decide : ¬ ((2 : Int32) + (1 : Int32)) < (0 : Int32)) (by decide : ((2 : Int32) + (1 : Int32)) < (6 : Int32)) (by rfl : (StrChars.Road.wideBytes [c0, c1, c2]).getD (2 : Int32).toNatClampNeg (.int (0 : Int32)) = (.int (StrChars.lo8 c1))) (by rfl : (StrChars.Road.wideBytes [c0, c1, c2]).getD ((2 : Int32) + (1 : Int32)).toNatClampNeg (.int (0 : Int32)) = (.int (StrChars.hi8 c1))) (P1 c1 (by simp))) hZ (own_w G 133 rfl) (own_w G 27 rfl) (by decide) (by decide)) (g := (mkF m 43 #[.val (.ref t), .val (.int (1 : Int32)), .val (.int (0 : Int32)), .val (.int c2), .unset] [(.int (1 : Int32)), (.ref t)])) rfl (by rw [hml]; rfl) (argsL := [(.ref t), (.int (1 : Int32))]) (rest := []) (lenOf pd_5 rfl) rfl (by show 2 * 0 + _ ≤ _; exact Nat.le_of_eq rfl) (hb hby d26_43) (fun _ _ => ⟨rfl, eh2, (by decide : 0 + 0 ≤ _), (by decide : 0 + 0 ≤ _)⟩)
    dsimp only [Pt.U, Pt.locs, Pt.cells, Pt.slots] at X4 l4 y4 z4 st4 hQ4
    subst l4 y4 z4
    obtain ⟨rfl, N4q, eh4⟩ := hQ4
    have N4 := Fr.app N2 N4q
    refine OwnEnd.of (S' := T4.setTop (mkF m 46 #[.val (.ref t), .val (.int (1 : Int32)), .val (.int (0 : Int32)), .val (.int c2), .unset] [(.int c1)])) st4 ?_
    refine OwnEnd.of (S' := T4.setTop (mkF m 50 #[.val (.ref t), .val (.int (1 : Int32)), .val (.int (0 : Int32)), .val (.int c2), .val (.int c1)] [(.int c1)])) (fun _ kK => XS.istore X4.here hx rfl (hb hby d26_46) rfl (l' := #[.val (.ref t), .val (.int (1 : Int32)), .val (.int (0 : Int32)), .val (.int c2), .val (.int c1)]) rfl (XS.iload X4.here hx rfl (hb hby d26_48) rfl kK)) ?_
    obtain ⟨_, _, ⟨T5, L5, k5, n5⟩, -, X5, ⟨Lc5, hQ5, l5, y5, z5⟩, st5⟩ := Jvm.LawKit.callS X4 hx (y := own_m24) hown (mvT hZ (own_w G 163 rfl)) (mvT hZ (own_w G 164 rfl)) (mvT hZ (own_w G 153 rfl)) (mvT hZ (own_w G 165 rfl)) (by decide) (backOf (W := 0) (rmhg l Z a0 G [] c1 h0 n0 O0 ) hZ (own_w G 165 rfl) (own_w G 153 rfl) (by decide) (by decide)) (g := (mkF m 50 #[.val (.ref t), .val (.int (1 : Int32)), .val (.int (0 : Int32)), .val (.int c2), .val (.int c1)] [(.int c1)])) rfl (by rw [hml]; rfl) (argsL := [(.int c1)]) (rest := []) (lenOf pd_18 rfl) rfl (by show 2 * 0 + _ ≤ _; exact Nat.le_of_eq rfl) (hb hby d26_50) (fun _ _ => ⟨rfl, eh4, (by decide : 0 + 0 ≤ _), (by decide : 0 + 0 ≤ _)⟩)
    dsimp only [Pt.U, Pt.locs, Pt.cells, Pt.slots] at X5 l5 y5 z5 st5 hQ5
    subst l5 y5 z5
    obtain ⟨rfl, N5q, eh5⟩ := hQ5
    have N5 := Fr.app N4 N5q
    refine OwnEnd.of (S' := T5.setTop (mkF m 53 #[.val (.ref t), .val (.int (1 : Int32)), .val (.int (0 : Int32)), .val (.int c2), .val (.int c1)] [(.int (own_high c1))])) st5 ?_
    rcases Decidable.em ((own_high c1) = (0 : Int32)) with hc6 | hc6
    · refine OwnEnd.of (S' := T5.setTop (mkF m 64 #[.val (.ref t), .val (.int (1 : Int32)), .val (.int (0 : Int32)), .val (.int c2), .val (.int c1)] [(.int c2)])) (fun _ kK => XS.ifYes X5.here hx rfl (pc0 := 53) (pc' := 63) rfl (hb hby d26_53) rfl ((if0 _ _).trans (teq (hc6)).1) (by decide) (by decide) (XS.iloadN X5.here hx rfl (hb hby d26_63) rfl kK)) ?_
      refine OwnEnd.ret X5 (v := (some (.int c2))) (fun h => by rw [Bd.returns] at h; cases h) hlk (fun fs hr => retOut X5 hx Bd.returns rfl (Or.inl ⟨rfl, Or.inl rfl, _, rfl⟩) (hb hby d26_64) hr) (by decide) (by decide) (Q := (own_Qint (own_jpl [c0, c1, c2])) h0 n0) eh5 ?_
      exact ⟨(by simp [own_jpl, own_jl2, hc3, hc6]), N5, rfl⟩
    · refine OwnEnd.of (S' := T5.setTop (mkF m 59 #[.val (.ref t), .val (.int (1 : Int32)), .val (.int (0 : Int32)), .val (.int c2), .val (.int c1)] [(.int c2), (.int c1)])) (fun _ kK => XS.ifNo X5.here hx rfl (hb hby d26_53) rfl ((if0 _ _).trans (feq (hc6)).1) (XS.iload X5.here hx rfl (hb hby d26_56) rfl (XS.iloadN X5.here hx rfl (hb hby d26_58) rfl kK))) ?_
      obtain ⟨_, _, ⟨T7, L7, k7, n7⟩, -, X7, ⟨Lc7, hQ7, l7, y7, z7⟩, st7⟩ := Jvm.LawKit.callS X5 hx (y := own_m25) hown (mvT hZ (own_w G 168 rfl)) (mvT hZ (own_w G 169 rfl)) (mvT hZ (own_w G 153 rfl)) (mvT hZ (own_w G 170 rfl)) (by decide) (backOf (W := 0) (rmtc l Z a0 G [] c1 c2 h0 n0 O0 ) hZ (own_w G 170 rfl) (own_w G 153 rfl) (by decide) (by decide)) (g := (mkF m 59 #[.val (.ref t), .val (.int (1 : Int32)), .val (.int (0 : Int32)), .val (.int c2), .val (.int c1)] [(.int c2), (.int c1)])) rfl (by rw [hml]; rfl) (argsL := [(.int c1), (.int c2)]) (rest := []) (lenOf pd_20 rfl) rfl (by show 2 * 0 + _ ≤ _; exact Nat.le_of_eq rfl) (hb hby d26_59) (fun _ _ => ⟨rfl, eh5, (by decide : 0 + 0 ≤ _), (by decide : 0 + 0 ≤ _)⟩)
      dsimp only [Pt.U, Pt.locs, Pt.cells, Pt.slots] at X7 l7 y7 z7 st7 hQ7
      subst l7 y7 z7
      obtain ⟨rfl, N7q, eh7⟩ := hQ7
      have N7 := Fr.app N5 N7q
      refine OwnEnd.of (S' := T7.setTop (mkF m 62 #[.val (.ref t), .val (.int (1 : Int32)), .val (.int (0 : Int32)), .val (.int c2), .val (.int c1)] [(.int (((c1 <<< ((10 : Int32) &&& 31)) + c2) + (-56613888 : Int32)))])) st7 ?_
      refine OwnEnd.ret X7 (v := (some (.int (((c1 <<< ((10 : Int32) &&& 31)) + c2) + (-56613888 : Int32))))) (fun h => by rw [Bd.returns] at h; cases h) hlk (fun fs hr => retOut X7 hx Bd.returns rfl (Or.inl ⟨rfl, Or.inl rfl, _, rfl⟩) (hb hby d26_62) hr) (by decide) (by decide) (Q := (own_Qint (own_jpl [c0, c1, c2])) h0 n0) eh7 ?_
      exact ⟨(by simp [own_jpl, own_jl2, hc3, hc6]), N7, rfl⟩

theorem own_efcc3 (m : MethodId) (t : Addr) : entryFrame m #[(.ref t), (.int (3 : Int32))] 2 = mkF m 0 #[.val (.ref t), .val (.int (3 : Int32))] [] := by first | (simp [entryFrame, mkF, argsToLocals, Value.category]; done) | rfl
set_option maxRecDepth 65536 in
set_option maxHeartbeats 40000000 in
theorem rmcc3 (l : Launch) (Z : State) (a0 : Array Value) (G : OwnG Z a0) (ws : List Jvm.Cond) (t : Addr) (kb : ClassId) (c0 : Int32) (c1 : Int32) (c2 : Int32) (h0 : Heap) (n0 : Nat) (O0 : Old Z n0 h0) (P0 : Arv Z h0 t kb .byte (6 : Int32) (StrChars.Road.wideBytes [c0, c1, c2]) (.int (0 : Int32))) (P1 : ∀ c ∈ ([c0, c1, c2] : List Int32), ¬ c < (0 : Int32) ∧ ¬ (65535 : Int32) < c) :
    MetFree l own_m27 (head1 (Jvm.Cond.code own_m27 jdk_52_method_10_code 2 (some .int) :: ws) ({ frames := 2, cells := 0, slots := 0, locals := 29 } : Room)) (fun a U => a = #[(.ref t), (.int (3 : Int32))] ∧ Z.Warmed39 U.vm ∧ U.heap = h0) (fun _ _ _ _ _ => True) (fun _ U o U' => ∃ v L, o = .returned v ∧ (own_Qint (own_jpl [c0, c1, c2])) h0 n0 v U'.heap L ∧ FrameEnd U o U' L ({ frames := 2, cells := 0, slots := 0, locals := 29 } : Room).cells ({ frames := 2, cells := 0, slots := 0, locals := 29 } : Room).slots) := by
  refine MetFree.of_bodySF (plainFor_of_name pn_3) hisR ?_
  intro p e s m args below meth cD s₁ Bd hml0 hP hK
  obtain ⟨rfl, hZ, hh⟩ := hP
  have hw := G.1
  have hx := Bd.exec
  have hby := Bd.bytes
  have hml : cD.maxLocals = 2 := hml0
  have hown : s.vm.findClass "java/lang/StringUTF16" = some m.cls := findClass_of_methodNamed Bd.named
  have hnm := (name_of_methodNamed Bd.named Bd.method).1
  have hlk := Bd.notSynchronized
  have X0 : Stand p l e ({ frames := 2, cells := 0, slots := 0, locals := 29 } : Room) s m #[(.ref t), (.int (3 : Int32))] below meth cD s₁ [] 0 0 := Stand.of_body Bd
  have e0 : s₁.heap = h0 := by rw [← hh, Bd.state]; rfl
  have lt0 := own_ltN' P0.lt
  have K0 : Keep h0 h0 [] := Keep.refl h0 _
  have Z0 := own_old_le O0
  have N0 := Fr.nil n0
  refine OwnEnd.start (g' := (mkF m 0 #[.val (.ref t), .val (.int (3 : Int32))] [])) (own_efcc3 m t) ?_
  refine OwnEnd.of (S' := s₁.setTop (mkF m 3 #[.val (.ref t), .val (.int (3 : Int32))] [(.int (0 : Int32)), (.int (3 : Int32)), (.ref t)])) (fun _ kK => XS.aloadN X0.here hx rfl (hb hby d27_0) rfl rfl (XS.iloadN X0.here hx rfl (hb hby d27_1) rfl (XS.iconst X0.here hx rfl (hb hby d27_2) kK))) ?_
  obtain ⟨_, _, ⟨T1, L1, k1, n1⟩, -, X1, ⟨Lc1, hQ1, l1, y1, z1⟩, st1⟩ := Jvm.LawKit.callS X0 hx (y := own_m26) hown (mvT hZ (own_w G 148 rfl)) (mvT hZ (own_w G 149 rfl)) (mvT hZ (own_w G 27 rfl)) (mvT hZ (own_w G 150 rfl)) (by decide) (backOf (W := 0) (rmcb3 l Z a0 G [] t kb c0 c1 c2 h0 n0 O0 P0 P1) hZ (own_w G 150 rfl) (own_w G 27 rfl) (by decide) (by decide)) (g := (mkF m 3 #[.val (.ref t), .val (.int (3 : Int32))] [(.int (0 : Int32)), (.int (3 : Int32)), (.ref t)])) rfl (by rw [hml]; rfl) (argsL := [(.ref t), (.int (3 : Int32)), (.int (0 : Int32))]) (rest := []) (lenOf pd_19 rfl) rfl (by show 2 * 0 + _ ≤ _; exact Nat.le_of_eq rfl) (hb hby d27_3) (fun _ _ => ⟨rfl, e0, (by decide : 0 + 0 ≤ _), (by decide : 0 + 0 ≤ _)⟩)
  dsimp only [Pt.U, Pt.locs, Pt.cells, Pt.slots] at X1 l1 y1 z1 st1 hQ1
  subst l1 y1 z1
  obtain ⟨rfl, N1q, eh1⟩ := hQ1
  have N1 := Fr.app N0 N1q
  refine OwnEnd.of (S' := T1.setTop (mkF m 6 #[.val (.ref t), .val (.int (3 : Int32))] [(.int (own_jpl [c0, c1, c2]))])) st1 ?_
  refine OwnEnd.ret X1 (v := (some (.int (own_jpl [c0, c1, c2])))) (fun h => by rw [Bd.returns] at h; cases h) hlk (fun fs hr => retOut X1 hx Bd.returns rfl (Or.inl ⟨rfl, Or.inl rfl, _, rfl⟩) (hb hby d27_6) hr) (by decide) (by decide) (Q := (own_Qint (own_jpl [c0, c1, c2])) h0 n0) eh1 ?_
  exact ⟨rfl, N1, rfl⟩

theorem own_efcp (m : MethodId) (x0 : Addr) (i : Int32) : entryFrame m #[(.ref x0), (.int i)] 3 = mkF m 0 #[.val (.ref x0), .val (.int i), .unset] [] := by first | (simp [entryFrame, mkF, argsToLocals, Value.category]; done) | rfl
set_option maxRecDepth 65536 in
set_option maxHeartbeats 40000000 in
theorem rmcp (l : Launch) (Z : State) (a0 : Array Value) (G : OwnG Z a0) (ws : List Jvm.Cond) (x0 : Addr) (t : Addr) (kb : ClassId) (N : Int32) (vs : List Value) (cd : Int32) (cs : List Int32) (i : Int32) (h0 : Heap) (n0 : Nat) (O0 : Old Z n0 h0) (P0 : Exa Z h0 x0 "java/lang/String") (P1 : Fld Z h0 x0 "java/lang/String" "value" "[B" (.ref t)) (P2 : Fld Z h0 x0 "java/lang/String" "coder" "B" (.int cd)) (P3 : Arv Z h0 t kb .byte N vs (.int (0 : Int32))) (P4 : StrChars.Road.CodA cs cd N vs) (P5 : ∀ c ∈ (cs : List Int32), ¬ c < (0 : Int32) ∧ ¬ (65535 : Int32) < c) (P6 : own_13 cs) (P7 : i = Int32.ofNat cs.length) :
    MetFree l own_m28 (head1 (Jvm.Cond.code own_m28 jdk_42_method_58_code 3 (some .int) :: ws) ({ frames := 3, cells := 0, slots := 0, locals := 42 } : Room)) (fun a U => a = #[(.ref x0), (.int i)] ∧ Z.Warmed39 U.vm ∧ U.heap = h0) (fun _ _ _ _ _ => True) (fun _ U o U' => ∃ v L, o = .returned v ∧ (own_Qint (own_cpl cs)) h0 n0 v U'.heap L ∧ FrameEnd U o U' L ({ frames := 3, cells := 0, slots := 0, locals := 42 } : Room).cells ({ frames := 3, cells := 0, slots := 0, locals := 42 } : Room).slots) := by
  refine MetFree.of_bodySF (plainFor_of_name pn_1) hisR ?_
  intro p e s m args below meth cD s₁ Bd hml0 hP hK
  obtain ⟨rfl, hZ, hh⟩ := hP
  have hw := G.1
  have hx := Bd.exec
  have hby := Bd.bytes
  have hml : cD.maxLocals = 3 := hml0
  have hown : s.vm.findClass "java/lang/String" = some m.cls := findClass_of_methodNamed Bd.named
  have hnm := (name_of_methodNamed Bd.named Bd.method).1
  have hlk := Bd.notSynchronized
  have X0 : Stand p l e ({ frames := 3, cells := 0, slots := 0, locals := 42 } : Room) s m #[(.ref x0), (.int i)] below meth cD s₁ [] 0 0 := Stand.of_body Bd
  have e0 : s₁.heap = h0 := by rw [← hh, Bd.state]; rfl
  have lt0 := own_ltN' P0.lt
  have lt1 := own_ltN' P1.lt
  have lt2 := own_ltN' P2.lt
  have lt3 := own_ltN' P3.lt
  have K0 : Keep h0 h0 [] := Keep.refl h0 _
  have Z0 := own_old_le O0
  have N0 := Fr.nil n0
  refine OwnEnd.start (g' := (mkF m 0 #[.val (.ref x0), .val (.int i), .unset] [])) (own_efcp m x0 i) ?_
  rcases P6 with ⟨c0, rfl⟩ | ⟨c0, c1, rfl⟩ | ⟨c0, c1, c2, rfl⟩
  · obtain rfl : i = (1 : Int32) := P7
    have P4' := P4
    rcases P4 with ⟨rfl, rfl, rfl, hxc⟩ | ⟨rfl, rfl, rfl, hxc⟩
    · refine OwnEnd.of (S' := s₁.setTop (mkF m 6 #[.val (.ref x0), .val (.int (1 : Int32)), .val (.int (0 : Int32))] [(.ref x0), (.int (0 : Int32))])) (fun _ kK => XS.iloadN X0.here hx rfl (hb hby d28_0) rfl (XS.iconst X0.here hx rfl (hb hby d28_1) (XS.isub X0.here hx rfl (hb hby d28_2) rfl (XS.istoreN X0.here hx rfl (hb hby d28_3) rfl (l' := #[.val (.ref x0), .val (.int (1 : Int32)), .val (.int (0 : Int32))]) rfl (XS.iloadN X0.here hx rfl (hb hby d28_4) rfl (XS.aloadN X0.here hx rfl (hb hby d28_5) rfl rfl kK)))))) ?_
      obtain ⟨cq1, kq1, q1a, q1b, q1c⟩ := isOf hZ e0 P0
      obtain ⟨_, _, ⟨T1, L1, k1, n1⟩, -, X1, ⟨Lc1, hQ1, l1, y1, z1⟩, st1⟩ := X0.virtualBack hx (y := own_m4) (z := own_m4) hown (mvT hZ (own_w G 111 rfl)) (mvT hZ (own_w G 68 rfl)) (notFace_of_selects (args := #[]) (mvT hZ (own_w G 70 rfl))) (mvT hZ (own_w G 70 rfl)) (mvT hZ (own_w G 69 rfl)) (by decide) (backOf (W := 1) (rmlnB l Z a0 G [] x0 t kb (1 : Int32) (([c0] : List Int32).map fun c => Value.int (StrChars.lo8 c)) (.int (0 : Int32)) (0 : Int32) [c0]  h0 n0 O0 P0 P1 P2 P3 P4' P5 (by simp)) hZ (own_w G 71 rfl) (own_w G 12 rfl) (by decide) (by decide)) q1a q1c (g := (mkF m 6 #[.val (.ref x0), .val (.int (1 : Int32)), .val (.int (0 : Int32))] [(.ref x0), (.int (0 : Int32))])) rfl (by rw [hml]; rfl) (Steps.refl _) (argsL := []) (rest := [(.int (0 : Int32))]) (lenOf pd_16 rfl) rfl (by show 2 * 0 + _ ≤ _; exact Nat.le_of_eq rfl) (hb hby d28_6) (fun _ _ => ⟨rfl, e0, (by decide : 0 + 0 ≤ _), (by decide : 0 + 0 ≤ _)⟩)
      dsimp only [Pt.U, Pt.locs, Pt.cells, Pt.slots] at X1 l1 y1 z1 st1 hQ1
      subst l1 y1 z1
      obtain ⟨rfl, N1q, eh1⟩ := hQ1
      have N1 := Fr.app N0 N1q
      refine OwnEnd.tr (S' := T1.setTop (mkF m 9 #[.val (.ref x0), .val (.int (1 : Int32)), .val (.int (0 : Int32))] [(.int (1 : Int32)), (.int (0 : Int32))])) st1 ?_
      obtain ⟨_, _, ⟨T2, L2, k2, n2⟩, -, X2, ⟨Lc2, hQ2, l2, y2, z2⟩, st2⟩ := Jvm.LawKit.callS X1 hx (y := own_m1) hown (mvT hZ (own_w G 112 rfl)) (mvT hZ (own_w G 92 rfl)) (mvT hZ (own_w G 12 rfl)) (mvT hZ (own_w G 93 rfl)) (by decide) (backOf (W := 0) (rmsk l Z a0 G [] (0 : Int32) (1 : Int32) h0 n0 O0 (by decide : ¬ (0 : Int32) < (0 : Int32)) (by decide : (0 : Int32) < (1 : Int32))) hZ (own_w G 93 rfl) (own_w G 12 rfl) (by decide) (by decide)) (g := (mkF m 9 #[.val (.ref x0), .val (.int (1 : Int32)), .val (.int (0 : Int32))] [(.int (1 : Int32)), (.int (0 : Int32))])) rfl (by rw [hml]; rfl) (argsL := [(.int (0 : Int32)), (.int (1 : Int32))]) (rest := []) (lenOf pd_2 rfl) rfl (by show 2 * 0 + _ ≤ _; exact Nat.le_of_eq rfl) (hb hby d28_9) (fun _ _ => ⟨rfl, eh1, (by decide : 0 + 0 ≤ _), (by decide : 0 + 0 ≤ _)⟩)
      dsimp only [Pt.U, Pt.locs, Pt.cells, Pt.slots] at X2 l2 y2 z2 st2 hQ2
      subst l2 y2 z2
      obtain ⟨rfl, N2q, eh2⟩ := hQ2
      have N2 := Fr.app N1 N2q
      refine OwnEnd.of (S' := T2.setTop (mkF m 12 #[.val (.ref x0), .val (.int (1 : Int32)), .val (.int (0 : Int32))] [])) st2 ?_
      refine OwnEnd.of (S' := T2.setTop (mkF m 13 #[.val (.ref x0), .val (.int (1 : Int32)), .val (.int (0 : Int32))] [(.ref x0)])) (fun _ kK => XS.aloadN X2.here hx rfl (hb hby d28_12) rfl rfl kK) ?_
      obtain ⟨cq3, kq3, q3a, q3b, q3c⟩ := isOf hZ eh2 P0
      obtain ⟨_, _, ⟨T3, L3, k3, n3⟩, -, X3, ⟨Lc3, hQ3, l3, y3, z3⟩, st3⟩ := X2.virtualBack hx (y := own_m2) (z := own_m2) hown (mvT hZ (own_w G 82 rfl)) (mvT hZ (own_w G 83 rfl)) (notFace_of_selects (args := #[]) (mvT hZ (own_w G 85 rfl))) (mvT hZ (own_w G 85 rfl)) (mvT hZ (own_w G 84 rfl)) (by decide) (backOf (W := 0) (rmil0 l Z a0 G [] x0 h0 n0 O0 P2) hZ (own_w G 86 rfl) (own_w G 12 rfl) (by decide) (by decide)) q3a q3c (g := (mkF m 13 #[.val (.ref x0), .val (.int (1 : Int32)), .val (.int (0 : Int32))] [(.ref x0)])) rfl (by rw [hml]; rfl) (Steps.refl _) (argsL := []) (rest := []) (lenOf pd_6 rfl) rfl (by show 2 * 0 + _ ≤ _; exact Nat.le_of_eq rfl) (hb hby d28_13) (fun _ _ => ⟨rfl, eh2, (by decide : 0 + 0 ≤ _), (by decide : 0 + 0 ≤ _)⟩)
      dsimp only [Pt.U, Pt.locs, Pt.cells, Pt.slots] at X3 l3 y3 z3 st3 hQ3
      subst l3 y3 z3
      obtain ⟨rfl, N3q, eh3⟩ := hQ3
      have N3 := Fr.app N2 N3q
      refine OwnEnd.tr (S' := T3.setTop (mkF m 16 #[.val (.ref x0), .val (.int (1 : Int32)), .val (.int (0 : Int32))] [(.int (1 : Int32))])) st3 ?_
      refine OwnEnd.of (S' := T3.setTop (mkF m 20 #[.val (.ref x0), .val (.int (1 : Int32)), .val (.int (0 : Int32))] [(.ref x0)])) (fun _ kK => XS.ifNo X3.here hx rfl (hb hby d28_16) rfl ((if0 _ _).trans (feq ((by decide : ¬ ((1 : Int32) = (0 : Int32))))).1) (XS.aloadN X3.here hx rfl (hb hby d28_19) rfl rfl kK)) ?_
      obtain ⟨T4, X4, e4, st4⟩ := getF X3 hx hZ hown (host := "") (Or.inl (own_w G 38 rfl)) Via.refl eh3 P1 (g := (mkF m 20 #[.val (.ref x0), .val (.int (1 : Int32)), .val (.int (0 : Int32))] [(.ref x0)])) rfl rfl (hb hby d28_20)
      refine OwnEnd.of (S' := T4.setTop (mkF m 23 #[.val (.ref x0), .val (.int (1 : Int32)), .val (.int (0 : Int32))] [(.ref t)])) st4 ?_
      refine OwnEnd.of (S' := T4.setTop (mkF m 24 #[.val (.ref x0), .val (.int (1 : Int32)), .val (.int (0 : Int32))] [(.int (0 : Int32)), (.ref t)])) (fun _ kK => XS.iloadN X4.here hx rfl (hb hby d28_23) rfl kK) ?_
      obtain ⟨cl5, Ar5, q5, S5, N5', H5, G5⟩ := id P3
      have hin6 : ¬ ((0 : Int32) < 0 ∨ cl5.slots.size ≤ ((0 : Int32)).toNatClampNeg) := inb_of S5 ⟨by decide, by show (0 : Int32) < (1 : Int32); decide⟩
      refine OwnEnd.of (S' := T4.setTop (mkF m 25 #[.val (.ref x0), .val (.int (1 : Int32)), .val (.int (0 : Int32))] [(.int (StrChars.lo8 c0))])) (fun _ kK => X4.baloadBytes hx (j := (0 : Int32)) (v := (.int (StrChars.lo8 c0))) (by rw [e4]; exact Ar5.1) (State.isArrayOf_alike hZ.alike Ar5.2.1) Ar5.2.2 hin6 (Has.at H5 hin6 (rfl)) (g := (mkF m 24 #[.val (.ref x0), .val (.int (1 : Int32)), .val (.int (0 : Int32))] [(.int (0 : Int32)), (.ref t)])) rfl rfl (hb hby d28_24) _ kK) ?_
      refine OwnEnd.of (S' := T4.setTop (mkF m 29 #[.val (.ref x0), .val (.int (1 : Int32)), .val (.int (0 : Int32))] [(.int ((StrChars.lo8 c0) &&& (255 : Int32)))])) (fun _ kK => XS.sipush X4.here hx rfl (hb hby d28_25) (XS.iand X4.here hx rfl (hb hby d28_28) rfl kK)) ?_
      refine OwnEnd.ret X4 (v := (some (.int ((StrChars.lo8 c0) &&& (255 : Int32))))) (fun h => by rw [Bd.returns] at h; cases h) hlk (fun fs hr => retOut X4 hx Bd.returns rfl (Or.inl ⟨rfl, Or.inl rfl, _, rfl⟩) (hb hby d28_29) hr) (by decide) (by decide) (Q := own_Qint _ h0 n0) e4 ?_
      exact ⟨(congrArg (fun z => some (Value.int z)) ((StrChars.lo8_mask (P5 c0 (by simp)).1 (hxc c0 (by simp))).trans (own_cpl1 hxc).symm)), N3, rfl⟩
    · refine OwnEnd.of (S' := s₁.setTop (mkF m 6 #[.val (.ref x0), .val (.int (1 : Int32)), .val (.int (0 : Int32))] [(.ref x0), (.int (0 : Int32))])) (fun _ kK => XS.iloadN X0.here hx rfl (hb hby d28_0) rfl (XS.iconst X0.here hx rfl (hb hby d28_1) (XS.isub X0.here hx rfl (hb hby d28_2) rfl (XS.istoreN X0.here hx rfl (hb hby d28_3) rfl (l' := #[.val (.ref x0), .val (.int (1 : Int32)), .val (.int (0 : Int32))]) rfl (XS.iloadN X0.here hx rfl (hb hby d28_4) rfl (XS.aloadN X0.here hx rfl (hb hby d28_5) rfl rfl kK)))))) ?_
      obtain ⟨cq7, kq7, q7a, q7b, q7c⟩ := isOf hZ e0 P0
      obtain ⟨_, _, ⟨T7, L7, k7, n7⟩, -, X7, ⟨Lc7, hQ7, l7, y7, z7⟩, st7⟩ := X0.virtualBack hx (y := own_m4) (z := own_m4) hown (mvT hZ (own_w G 111 rfl)) (mvT hZ (own_w G 68 rfl)) (notFace_of_selects (args := #[]) (mvT hZ (own_w G 70 rfl))) (mvT hZ (own_w G 70 rfl)) (mvT hZ (own_w G 69 rfl)) (by decide) (backOf (W := 1) (rmlnB l Z a0 G [] x0 t kb (2 : Int32) (StrChars.Road.wideBytes [c0]) (.int (0 : Int32)) (1 : Int32) [c0]  h0 n0 O0 P0 P1 P2 P3 P4' P5 (by simp)) hZ (own_w G 71 rfl) (own_w G 12 rfl) (by decide) (by decide)) q7a q7c (g := (mkF m 6 #[.val (.ref x0), .val (.int (1 : Int32)), .val (.int (0 : Int32))] [(.ref x0), (.int (0 : Int32))])) rfl (by rw [hml]; rfl) (Steps.refl _) (argsL := []) (rest := [(.int (0 : Int32))]) (lenOf pd_16 rfl) rfl (by show 2 * 0 + _ ≤ _; exact Nat.le_of_eq rfl) (hb hby d28_6) (fun _ _ => ⟨rfl, e0, (by decide : 0 + 0 ≤ _), (by decide : 0 + 0 ≤ _)⟩)
      dsimp only [Pt.U, Pt.locs, Pt.cells, Pt.slots] at X7 l7 y7 z7 st7 hQ7
      subst l7 y7 z7
      obtain ⟨rfl, N7q, eh7⟩ := hQ7
      have N7 := Fr.app N0 N7q
      refine OwnEnd.tr (S' := T7.setTop (mkF m 9 #[.val (.ref x0), .val (.int (1 : Int32)), .val (.int (0 : Int32))] [(.int (1 : Int32)), (.int (0 : Int32))])) st7 ?_
      obtain ⟨_, _, ⟨T8, L8, k8, n8⟩, -, X8, ⟨Lc8, hQ8, l8, y8, z8⟩, st8⟩ := Jvm.LawKit.callS X7 hx (y := own_m1) hown (mvT hZ (own_w G 112 rfl)) (mvT hZ (own_w G 92 rfl)) (mvT hZ (own_w G 12 rfl)) (mvT hZ (own_w G 93 rfl)) (by decide) (backOf (W := 0) (rmsk l Z a0 G [] (0 : Int32) (1 : Int32) h0 n0 O0 (by decide : ¬ (0 : Int32) < (0 : Int32)) (by decide : (0 : Int32) < (1 : Int32))) hZ (own_w G 93 rfl) (own_w G 12 rfl) (by decide) (by decide)) (g := (mkF m 9 #[.val (.ref x0), .val (.int (1 : Int32)), .val (.int (0 : Int32))] [(.int (1 : Int32)), (.int (0 : Int32))])) rfl (by rw [hml]; rfl) (argsL := [(.int (0 : Int32)), (.int (1 : Int32))]) (rest := []) (lenOf pd_2 rfl) rfl (by show 2 * 0 + _ ≤ _; exact Nat.le_of_eq rfl) (hb hby d28_9) (fun _ _ => ⟨rfl, eh7, (by decide : 0 + 0 ≤ _), (by decide : 0 + 0 ≤ _)⟩)
      dsimp only [Pt.U, Pt.locs, Pt.cells, Pt.slots] at X8 l8 y8 z8 st8 hQ8
      subst l8 y8 z8
      obtain ⟨rfl, N8q, eh8⟩ := hQ8
      have N8 := Fr.app N7 N8q
      refine OwnEnd.of (S' := T8.setTop (mkF m 12 #[.val (.ref x0), .val (.int (1 : Int32)), .val (.int (0 : Int32))] [])) st8 ?_
      refine OwnEnd.of (S' := T8.setTop (mkF m 13 #[.val (.ref x0), .val (.int (1 : Int32)), .val (.int (0 : Int32))] [(.ref x0)])) (fun _ kK => XS.aloadN X8.here hx rfl (hb hby d28_12) rfl rfl kK) ?_
      obtain ⟨cq9, kq9, q9a, q9b, q9c⟩ := isOf hZ eh8 P0
      obtain ⟨_, _, ⟨T9, L9, k9, n9⟩, -, X9, ⟨Lc9, hQ9, l9, y9, z9⟩, st9⟩ := X8.virtualBack hx (y := own_m2) (z := own_m2) hown (mvT hZ (own_w G 82 rfl)) (mvT hZ (own_w G 83 rfl)) (notFace_of_selects (args := #[]) (mvT hZ (own_w G 85 rfl))) (mvT hZ (own_w G 85 rfl)) (mvT hZ (own_w G 84 rfl)) (by decide) (backOf (W := 0) (rmil1 l Z a0 G [] x0 h0 n0 O0 P2) hZ (own_w G 86 rfl) (own_w G 12 rfl) (by decide) (by decide)) q9a q9c (g := (mkF m 13 #[.val (.ref x0), .val (.int (1 : Int32)), .val (.int (0 : Int32))] [(.ref x0)])) rfl (by rw [hml]; rfl) (Steps.refl _) (argsL := []) (rest := []) (lenOf pd_6 rfl) rfl (by show 2 * 0 + _ ≤ _; exact Nat.le_of_eq rfl) (hb hby d28_13) (fun _ _ => ⟨rfl, eh8, (by decide : 0 + 0 ≤ _), (by decide : 0 + 0 ≤ _)⟩)
      dsimp only [Pt.U, Pt.locs, Pt.cells, Pt.slots] at X9 l9 y9 z9 st9 hQ9
      subst l9 y9 z9
      obtain ⟨rfl, N9q, eh9⟩ := hQ9
      have N9 := Fr.app N8 N9q
      refine OwnEnd.tr (S' := T9.setTop (mkF m 16 #[.val (.ref x0), .val (.int (1 : Int32)), .val (.int (0 : Int32))] [(.int (0 : Int32))])) st9 ?_
      refine OwnEnd.of (S' := T9.setTop (mkF m 31 #[.val (.ref x0), .val (.int (1 : Int32)), .val (.int (0 : Int32))] [(.ref x0)])) (fun _ kK => XS.ifYes X9.here hx rfl (pc0 := 16) (pc' := 30) rfl (hb hby d28_16) rfl ((if0 _ _).trans (teq ((by decide : (0 : Int32) = (0 : Int32)))).1) (by decide) (by decide) (XS.aloadN X9.here hx rfl (hb hby d28_30) rfl rfl kK)) ?_
      obtain ⟨T10, X10, e10, st10⟩ := getF X9 hx hZ hown (host := "") (Or.inl (own_w G 38 rfl)) Via.refl eh9 P1 (g := (mkF m 31 #[.val (.ref x0), .val (.int (1 : Int32)), .val (.int (0 : Int32))] [(.ref x0)])) rfl rfl (hb hby d28_31)
      refine OwnEnd.of (S' := T10.setTop (mkF m 34 #[.val (.ref x0), .val (.int (1 : Int32)), .val (.int (0 : Int32))] [(.ref t)])) st10 ?_
      refine OwnEnd.of (S' := T10.setTop (mkF m 35 #[.val (.ref x0), .val (.int (1 : Int32)), .val (.int (0 : Int32))] [(.int (1 : Int32)), (.ref t)])) (fun _ kK => XS.iloadN X10.here hx rfl (hb hby d28_34) rfl kK) ?_
      obtain ⟨_, _, ⟨T11, L11, k11, n11⟩, -, X11, ⟨Lc11, hQ11, l11, y11, z11⟩, st11⟩ := Jvm.LawKit.callS X10 hx (y := own_m27) hown (mvT hZ (own_w G 145 rfl)) (mvT hZ (own_w G 146 rfl)) (mvT hZ (own_w G 27 rfl)) (mvT hZ (own_w G 147 rfl)) (by decide) (backOf (W := 0) (rmcc1 l Z a0 G [] t kb c0 h0 n0 O0 P3 P5) hZ (own_w G 147 rfl) (own_w G 27 rfl) (by decide) (by decide)) (g := (mkF m 35 #[.val (.ref x0), .val (.int (1 : Int32)), .val (.int (0 : Int32))] [(.int (1 : Int32)), (.ref t)])) rfl (by rw [hml]; rfl) (argsL := [(.ref t), (.int (1 : Int32))]) (rest := []) (lenOf pd_21 rfl) rfl (by show 2 * 0 + _ ≤ _; exact Nat.le_of_eq rfl) (hb hby d28_35) (fun _ _ => ⟨rfl, e10, (by decide : 0 + 0 ≤ _), (by decide : 0 + 0 ≤ _)⟩)
      dsimp only [Pt.U, Pt.locs, Pt.cells, Pt.slots] at X11 l11 y11 z11 st11 hQ11
      subst l11 y11 z11
      obtain ⟨rfl, N11q, eh11⟩ := hQ11
      have N11 := Fr.app N9 N11q
      refine OwnEnd.of (S' := T11.setTop (mkF m 38 #[.val (.ref x0), .val (.int (1 : Int32)), .val (.int (0 : Int32))] [(.int (own_jpl [c0]))])) st11 ?_
      refine OwnEnd.ret X11 (v := (some (.int (own_jpl [c0])))) (fun h => by rw [Bd.returns] at h; cases h) hlk (fun fs hr => retOut X11 hx Bd.returns rfl (Or.inl ⟨rfl, Or.inl rfl, _, rfl⟩) (hb hby d28_38) hr) (by decide) (by decide) (Q := own_Qint _ h0 n0) eh11 ?_
      exact ⟨(congrArg (fun z => some (Value.int z)) (own_jpl_eq P5)), N11, rfl⟩
  · obtain rfl : i = (2 : Int32) := P7
    have P4' := P4
    rcases P4 with ⟨rfl, rfl, rfl, hxc⟩ | ⟨rfl, rfl, rfl, hxc⟩
    · refine OwnEnd.of (S' := s₁.setTop (mkF m 6 #[.val (.ref x0), .val (.int (2 : Int32)), .val (.int (1 : Int32))] [(.ref x0), (.int (1 : Int32))])) (fun _ kK => XS.iloadN X0.here hx rfl (hb hby d28_0) rfl (XS.iconst X0.here hx rfl (hb hby d28_1) (XS.isub X0.here hx rfl (hb hby d28_2) rfl (XS.istoreN X0.here hx rfl (hb hby d28_3) rfl (l' := #[.val (.ref x0), .val (.int (2 : Int32)), .val (.int (1 : Int32))]) rfl (XS.iloadN X0.here hx rfl (hb hby d28_4) rfl (XS.aloadN X0.here hx rfl (hb hby d28_5) rfl rfl kK)))))) ?_
      obtain ⟨cq12, kq12, q12a, q12b, q12c⟩ := isOf hZ e0 P0
      obtain ⟨_, _, ⟨T12, L12, k12, n12⟩, -, X12, ⟨Lc12, hQ12, l12, y12, z12⟩, st12⟩ := X0.virtualBack hx (y := own_m4) (z := own_m4) hown (mvT hZ (own_w G 111 rfl)) (mvT hZ (own_w G 68 rfl)) (notFace_of_selects (args := #[]) (mvT hZ (own_w G 70 rfl))) (mvT hZ (own_w G 70 rfl)) (mvT hZ (own_w G 69 rfl)) (by decide) (backOf (W := 1) (rmlnB l Z a0 G [] x0 t kb (2 : Int32) (([c0, c1] : List Int32).map fun c => Value.int (StrChars.lo8 c)) (.int (0 : Int32)) (0 : Int32) [c0, c1]  h0 n0 O0 P0 P1 P2 P3 P4' P5 (by simp)) hZ (own_w G 71 rfl) (own_w G 12 rfl) (by decide) (by decide)) q12a q12c (g := (mkF m 6 #[.val (.ref x0), .val (.int (2 : Int32)), .val (.int (1 : Int32))] [(.ref x0), (.int (1 : Int32))])) rfl (by rw [hml]; rfl) (Steps.refl _) (argsL := []) (rest := [(.int (1 : Int32))]) (lenOf pd_16 rfl) rfl (by show 2 * 0 + _ ≤ _; exact Nat.le_of_eq rfl) (hb hby d28_6) (fun _ _ => ⟨rfl, e0, (by decide : 0 + 0 ≤ _), (by decide : 0 + 0 ≤ _)⟩)
      dsimp only [Pt.U, Pt.locs, Pt.cells, Pt.slots] at X12 l12 y12 z12 st12 hQ12
      subst l12 y12 z12
      obtain ⟨rfl, N12q, eh12⟩ := hQ12
      have N12 := Fr.app N0 N12q
      refine OwnEnd.tr (S' := T12.setTop (mkF m 9 #[.val (.ref x0), .val (.int (2 : Int32)), .val (.int (1 : Int32))] [(.int (2 : Int32)), (.int (1 : Int32))])) st12 ?_
      obtain ⟨_, _, ⟨T13, L13, k13, n13⟩, -, X13, ⟨Lc13, hQ13, l13, y13, z13⟩, st13⟩ := Jvm.LawKit.callS X12 hx (y := own_m1) hown (mvT hZ (own_w G 112 rfl)) (mvT hZ (own_w G 92 rfl)) (mvT hZ (own_w G 12 rfl)) (mvT hZ (own_w G 93 rfl)) (by decide) (backOf (W := 0) (rmsk l Z a0 G [] (1 : Int32) (2 : Int32) h0 n0 O0 (by decide : ¬ (1 : Int32) < (0 : Int32)) (by decide : (1 : Int32) < (2 : Int32))) hZ (own_w G 93 rfl) (own_w G 12 rfl) (by decide) (by decide)) (g := (mkF m 9 #[.val (.ref x0), .val (.int (2 : Int32)), .val (.int (1 : Int32))] [(.int (2 : Int32)), (.int (1 : Int32))])) rfl (by rw [hml]; rfl) (argsL := [(.int (1 : Int32)), (.int (2 : Int32))]) (rest := []) (lenOf pd_2 rfl) rfl (by show 2 * 0 + _ ≤ _; exact Nat.le_of_eq rfl) (hb hby d28_9) (fun _ _ => ⟨rfl, eh12, (by decide : 0 + 0 ≤ _), (by decide : 0 + 0 ≤ _)⟩)
      dsimp only [Pt.U, Pt.locs, Pt.cells, Pt.slots] at X13 l13 y13 z13 st13 hQ13
      subst l13 y13 z13
      obtain ⟨rfl, N13q, eh13⟩ := hQ13
      have N13 := Fr.app N12 N13q
      refine OwnEnd.of (S' := T13.setTop (mkF m 12 #[.val (.ref x0), .val (.int (2 : Int32)), .val (.int (1 : Int32))] [])) st13 ?_
      refine OwnEnd.of (S' := T13.setTop (mkF m 13 #[.val (.ref x0), .val (.int (2 : Int32)), .val (.int (1 : Int32))] [(.ref x0)])) (fun _ kK => XS.aloadN X13.here hx rfl (hb hby d28_12) rfl rfl kK) ?_
      obtain ⟨cq14, kq14, q14a, q14b, q14c⟩ := isOf hZ eh13 P0
      obtain ⟨_, _, ⟨T14, L14, k14, n14⟩, -, X14, ⟨Lc14, hQ14, l14, y14, z14⟩, st14⟩ := X13.virtualBack hx (y := own_m2) (z := own_m2) hown (mvT hZ (own_w G 82 rfl)) (mvT hZ (own_w G 83 rfl)) (notFace_of_selects (args := #[]) (mvT hZ (own_w G 85 rfl))) (mvT hZ (own_w G 85 rfl)) (mvT hZ (own_w G 84 rfl)) (by decide) (backOf (W := 0) (rmil0 l Z a0 G [] x0 h0 n0 O0 P2) hZ (own_w G 86 rfl) (own_w G 12 rfl) (by decide) (by decide)) q14a q14c (g := (mkF m 13 #[.val (.ref x0), .val (.int (2 : Int32)), .val (.int (1 : Int32))] [(.ref x0)])) rfl (by rw [hml]; rfl) (Steps.refl _) (argsL := []) (rest := []) (lenOf pd_6 rfl) rfl (by show 2 * 0 + _ ≤ _; exact Nat.le_of_eq rfl) (hb hby d28_13) (fun _ _ => ⟨rfl, eh13, (by decide : 0 + 0 ≤ _), (by decide : 0 + 0 ≤ _)⟩)
      dsimp only [Pt.U, Pt.locs, Pt.cells, Pt.slots] at X14 l14 y14 z14 st14 hQ14
      subst l14 y14 z14
      obtain ⟨rfl, N14q, eh14⟩ := hQ14
      have N14 := Fr.app N13 N14q
      refine OwnEnd.tr (S' := T14.setTop (mkF m 16 #[.val (.ref x0), .val (.int (2 : Int32)), .val (.int (1 : Int32))] [(.int (1 : Int32))])) st14 ?_
      refine OwnEnd.of (S' := T14.setTop (mkF m 20 #[.val (.ref x0), .val (.int (2 : Int32)), .val (.int (1 : Int32))] [(.ref x0)])) (fun _ kK => XS.ifNo X14.here hx rfl (hb hby d28_16) rfl ((if0 _ _).trans (feq ((by decide : ¬ ((1 : Int32) = (0 : Int32))))).1) (XS.aloadN X14.here hx rfl (hb hby d28_19) rfl rfl kK)) ?_
      obtain ⟨T15, X15, e15, st15⟩ := getF X14 hx hZ hown (host := "") (Or.inl (own_w G 38 rfl)) Via.refl eh14 P1 (g := (mkF m 20 #[.val (.ref x0), .val (.int (2 : Int32)), .val (.int (1 : Int32))] [(.ref x0)])) rfl rfl (hb hby d28_20)
      refine OwnEnd.of (S' := T15.setTop (mkF m 23 #[.val (.ref x0), .val (.int (2 : Int32)), .val (.int (1 : Int32))] [(.ref t)])) st15 ?_
      refine OwnEnd.of (S' := T15.setTop (mkF m 24 #[.val (.ref x0), .val (.int (2 : Int32)), .val (.int (1 : Int32))] [(.int (1 : Int32)), (.ref t)])) (fun _ kK => XS.iloadN X15.here hx rfl (hb hby d28_23) rfl kK) ?_
      obtain ⟨cl16, Ar16, q16, S16, N16', H16, G16⟩ := id P3
      have hin17 : ¬ ((1 : Int32) < 0 ∨ cl16.slots.size ≤ ((1 : Int32)).toNatClampNeg) := inb_of S16 ⟨by decide, by show (1 : Int32) < (2 : Int32); decide⟩
      refine OwnEnd.of (S' := T15.setTop (mkF m 25 #[.val (.ref x0), .val (.int (2 : Int32)), .val (.int (1 : Int32))] [(.int (StrChars.lo8 c1))])) (fun _ kK => X15.baloadBytes hx (j := (1 : Int32)) (v := (.int (StrChars.lo8 c1))) (by rw [e15]; exact Ar16.1) (State.isArrayOf_alike hZ.alike Ar16.2.1) Ar16.2.2 hin17 (Has.at H16 hin17 (rfl)) (g := (mkF m 24 #[.val (.ref x0), .val (.int (2 : Int32)), .val (.int (1 : Int32))] [(.int (1 : Int32)), (.ref t)])) rfl rfl (hb hby d28_24) _ kK) ?_
      refine OwnEnd.of (S' := T15.setTop (mkF m 29 #[.val (.ref x0), .val (.int (2 : Int32)), .val (.int (1 : Int32))] [(.int ((StrChars.lo8 c1) &&& (255 : Int32)))])) (fun _ kK => XS.sipush X15.here hx rfl (hb hby d28_25) (XS.iand X15.here hx rfl (hb hby d28_28) rfl kK)) ?_
      refine OwnEnd.ret X15 (v := (some (.int ((StrChars.lo8 c1) &&& (255 : Int32))))) (fun h => by rw [Bd.returns] at h; cases h) hlk (fun fs hr => retOut X15 hx Bd.returns rfl (Or.inl ⟨rfl, Or.inl rfl, _, rfl⟩) (hb hby d28_29) hr) (by decide) (by decide) (Q := own_Qint _ h0 n0) e15 ?_
      exact ⟨(congrArg (fun z => some (Value.int z)) ((StrChars.lo8_mask (P5 c1 (by simp)).1 (hxc c1 (by simp))).trans (own_cpl2 hxc).symm)), N14, rfl⟩
    · refine OwnEnd.of (S' := s₁.setTop (mkF m 6 #[.val (.ref x0), .val (.int (2 : Int32)), .val (.int (1 : Int32))] [(.ref x0), (.int (1 : Int32))])) (fun _ kK => XS.iloadN X0.here hx rfl (hb hby d28_0) rfl (XS.iconst X0.here hx rfl (hb hby d28_1) (XS.isub X0.here hx rfl (hb hby d28_2) rfl (XS.istoreN X0.here hx rfl (hb hby d28_3) rfl (l' := #[.val (.ref x0), .val (.int (2 : Int32)), .val (.int (1 : Int32))]) rfl (XS.iloadN X0.here hx rfl (hb hby d28_4) rfl (XS.aloadN X0.here hx rfl (hb hby d28_5) rfl rfl kK)))))) ?_
      obtain ⟨cq18, kq18, q18a, q18b, q18c⟩ := isOf hZ e0 P0
      obtain ⟨_, _, ⟨T18, L18, k18, n18⟩, -, X18, ⟨Lc18, hQ18, l18, y18, z18⟩, st18⟩ := X0.virtualBack hx (y := own_m4) (z := own_m4) hown (mvT hZ (own_w G 111 rfl)) (mvT hZ (own_w G 68 rfl)) (notFace_of_selects (args := #[]) (mvT hZ (own_w G 70 rfl))) (mvT hZ (own_w G 70 rfl)) (mvT hZ (own_w G 69 rfl)) (by decide) (backOf (W := 1) (rmlnB l Z a0 G [] x0 t kb (4 : Int32) (StrChars.Road.wideBytes [c0, c1]) (.int (0 : Int32)) (1 : Int32) [c0, c1]  h0 n0 O0 P0 P1 P2 P3 P4' P5 (by simp)) hZ (own_w G 71 rfl) (own_w G 12 rfl) (by decide) (by decide)) q18a q18c (g := (mkF m 6 #[.val (.ref x0), .val (.int (2 : Int32)), .val (.int (1 : Int32))] [(.ref x0), (.int (1 : Int32))])) rfl (by rw [hml]; rfl) (Steps.refl _) (argsL := []) (rest := [(.int (1 : Int32))]) (lenOf pd_16 rfl) rfl (by show 2 * 0 + _ ≤ _; exact Nat.le_of_eq rfl) (hb hby d28_6) (fun _ _ => ⟨rfl, e0, (by decide : 0 + 0 ≤ _), (by decide : 0 + 0 ≤ _)⟩)
      dsimp only [Pt.U, Pt.locs, Pt.cells, Pt.slots] at X18 l18 y18 z18 st18 hQ18
      subst l18 y18 z18
      obtain ⟨rfl, N18q, eh18⟩ := hQ18
      have N18 := Fr.app N0 N18q
      refine OwnEnd.tr (S' := T18.setTop (mkF m 9 #[.val (.ref x0), .val (.int (2 : Int32)), .val (.int (1 : Int32))] [(.int (2 : Int32)), (.int (1 : Int32))])) st18 ?_
      obtain ⟨_, _, ⟨T19, L19, k19, n19⟩, -, X19, ⟨Lc19, hQ19, l19, y19, z19⟩, st19⟩ := Jvm.LawKit.callS X18 hx (y := own_m1) hown (mvT hZ (own_w G 112 rfl)) (mvT hZ (own_w G 92 rfl)) (mvT hZ (own_w G 12 rfl)) (mvT hZ (own_w G 93 rfl)) (by decide) (backOf (W := 0) (rmsk l Z a0 G [] (1 : Int32) (2 : Int32) h0 n0 O0 (by decide : ¬ (1 : Int32) < (0 : Int32)) (by decide : (1 : Int32) < (2 : Int32))) hZ (own_w G 93 rfl) (own_w G 12 rfl) (by decide) (by decide)) (g := (mkF m 9 #[.val (.ref x0), .val (.int (2 : Int32)), .val (.int (1 : Int32))] [(.int (2 : Int32)), (.int (1 : Int32))])) rfl (by rw [hml]; rfl) (argsL := [(.int (1 : Int32)), (.int (2 : Int32))]) (rest := []) (lenOf pd_2 rfl) rfl (by show 2 * 0 + _ ≤ _; exact Nat.le_of_eq rfl) (hb hby d28_9) (fun _ _ => ⟨rfl, eh18, (by decide : 0 + 0 ≤ _), (by decide : 0 + 0 ≤ _)⟩)
      dsimp only [Pt.U, Pt.locs, Pt.cells, Pt.slots] at X19 l19 y19 z19 st19 hQ19
      subst l19 y19 z19
      obtain ⟨rfl, N19q, eh19⟩ := hQ19
      have N19 := Fr.app N18 N19q
      refine OwnEnd.of (S' := T19.setTop (mkF m 12 #[.val (.ref x0), .val (.int (2 : Int32)), .val (.int (1 : Int32))] [])) st19 ?_
      refine OwnEnd.of (S' := T19.setTop (mkF m 13 #[.val (.ref x0), .val (.int (2 : Int32)), .val (.int (1 : Int32))] [(.ref x0)])) (fun _ kK => XS.aloadN X19.here hx rfl (hb hby d28_12) rfl rfl kK) ?_
      obtain ⟨cq20, kq20, q20a, q20b, q20c⟩ := isOf hZ eh19 P0
      obtain ⟨_, _, ⟨T20, L20, k20, n20⟩, -, X20, ⟨Lc20, hQ20, l20, y20, z20⟩, st20⟩ := X19.virtualBack hx (y := own_m2) (z := own_m2) hown (mvT hZ (own_w G 82 rfl)) (mvT hZ (own_w G 83 rfl)) (notFace_of_selects (args := #[]) (mvT hZ (own_w G 85 rfl))) (mvT hZ (own_w G 85 rfl)) (mvT hZ (own_w G 84 rfl)) (by decide) (backOf (W := 0) (rmil1 l Z a0 G [] x0 h0 n0 O0 P2) hZ (own_w G 86 rfl) (own_w G 12 rfl) (by decide) (by decide)) q20a q20c (g := (mkF m 13 #[.val (.ref x0), .val (.int (2 : Int32)), .val (.int (1 : Int32))] [(.ref x0)])) rfl (by rw [hml]; rfl) (Steps.refl _) (argsL := []) (rest := []) (lenOf pd_6 rfl) rfl (by show 2 * 0 + _ ≤ _; exact Nat.le_of_eq rfl) (hb hby d28_13) (fun _ _ => ⟨rfl, eh19, (by decide : 0 + 0 ≤ _), (by decide : 0 + 0 ≤ _)⟩)
      dsimp only [Pt.U, Pt.locs, Pt.cells, Pt.slots] at X20 l20 y20 z20 st20 hQ20
      subst l20 y20 z20
      obtain ⟨rfl, N20q, eh20⟩ := hQ20
      have N20 := Fr.app N19 N20q
      refine OwnEnd.tr (S' := T20.setTop (mkF m 16 #[.val (.ref x0), .val (.int (2 : Int32)), .val (.int (1 : Int32))] [(.int (0 : Int32))])) st20 ?_
      refine OwnEnd.of (S' := T20.setTop (mkF m 31 #[.val (.ref x0), .val (.int (2 : Int32)), .val (.int (1 : Int32))] [(.ref x0)])) (fun _ kK => XS.ifYes X20.here hx rfl (pc0 := 16) (pc' := 30) rfl (hb hby d28_16) rfl ((if0 _ _).trans (teq ((by decide : (0 : Int32) = (0 : Int32)))).1) (by decide) (by decide) (XS.aloadN X20.here hx rfl (hb hby d28_30) rfl rfl kK)) ?_
      obtain ⟨T21, X21, e21, st21⟩ := getF X20 hx hZ hown (host := "") (Or.inl (own_w G 38 rfl)) Via.refl eh20 P1 (g := (mkF m 31 #[.val (.ref x0), .val (.int (2 : Int32)), .val (.int (1 : Int32))] [(.ref x0)])) rfl rfl (hb hby d28_31)
      refine OwnEnd.of (S' := T21.setTop (mkF m 34 #[.val (.ref x0), .val (.int (2 : Int32)), .val (.int (1 : Int32))] [(.ref t)])) st21 ?_
      refine OwnEnd.of (S' := T21.setTop (mkF m 35 #[.val (.ref x0), .val (.int (2 : Int32)), .val (.int (1 : Int32))] [(.int (2 : Int32)), (.ref t)])) (fun _ kK => XS.iloadN X21.here hx rfl (hb hby d28_34) rfl kK) ?_
      obtain ⟨_, _, ⟨T22, L22, k22, n22⟩, -, X22, ⟨Lc22, hQ22, l22, y22, z22⟩, st22⟩ := Jvm.LawKit.callS X21 hx (y := own_m27) hown (mvT hZ (own_w G 145 rfl)) (mvT hZ (own_w G 146 rfl)) (mvT hZ (own_w G 27 rfl)) (mvT hZ (own_w G 147 rfl)) (by decide) (backOf (W := 0) (rmcc2 l Z a0 G [] t kb c0 c1 h0 n0 O0 P3 P5) hZ (own_w G 147 rfl) (own_w G 27 rfl) (by decide) (by decide)) (g := (mkF m 35 #[.val (.ref x0), .val (.int (2 : Int32)), .val (.int (1 : Int32))] [(.int (2 : Int32)), (.ref t)])) rfl (by rw [hml]; rfl) (argsL := [(.ref t), (.int (2 : Int32))]) (rest := []) (lenOf pd_21 rfl) rfl (by show 2 * 0 + _ ≤ _; exact Nat.le_of_eq rfl) (hb hby d28_35) (fun _ _ => ⟨rfl, e21, (by decide : 0 + 0 ≤ _), (by decide : 0 + 0 ≤ _)⟩)
      dsimp only [Pt.U, Pt.locs, Pt.cells, Pt.slots] at X22 l22 y22 z22 st22 hQ22
      subst l22 y22 z22
      obtain ⟨rfl, N22q, eh22⟩ := hQ22
      have N22 := Fr.app N20 N22q
      refine OwnEnd.of (S' := T22.setTop (mkF m 38 #[.val (.ref x0), .val (.int (2 : Int32)), .val (.int (1 : Int32))] [(.int (own_jpl [c0, c1]))])) st22 ?_
      refine OwnEnd.ret X22 (v := (some (.int (own_jpl [c0, c1])))) (fun h => by rw [Bd.returns] at h; cases h) hlk (fun fs hr => retOut X22 hx Bd.returns rfl (Or.inl ⟨rfl, Or.inl rfl, _, rfl⟩) (hb hby d28_38) hr) (by decide) (by decide) (Q := own_Qint _ h0 n0) eh22 ?_
      exact ⟨(congrArg (fun z => some (Value.int z)) (own_jpl_eq P5)), N22, rfl⟩
  · obtain rfl : i = (3 : Int32) := P7
    have P4' := P4
    rcases P4 with ⟨rfl, rfl, rfl, hxc⟩ | ⟨rfl, rfl, rfl, hxc⟩
    · refine OwnEnd.of (S' := s₁.setTop (mkF m 6 #[.val (.ref x0), .val (.int (3 : Int32)), .val (.int (2 : Int32))] [(.ref x0), (.int (2 : Int32))])) (fun _ kK => XS.iloadN X0.here hx rfl (hb hby d28_0) rfl (XS.iconst X0.here hx rfl (hb hby d28_1) (XS.isub X0.here hx rfl (hb hby d28_2) rfl (XS.istoreN X0.here hx rfl (hb hby d28_3) rfl (l' := #[.val (.ref x0), .val (.int (3 : Int32)), .val (.int (2 : Int32))]) rfl (XS.iloadN X0.here hx rfl (hb hby d28_4) rfl (XS.aloadN X0.here hx rfl (hb hby d28_5) rfl rfl kK)))))) ?_
      obtain ⟨cq23, kq23, q23a, q23b, q23c⟩ := isOf hZ e0 P0
      obtain ⟨_, _, ⟨T23, L23, k23, n23⟩, -, X23, ⟨Lc23, hQ23, l23, y23, z23⟩, st23⟩ := X0.virtualBack hx (y := own_m4) (z := own_m4) hown (mvT hZ (own_w G 111 rfl)) (mvT hZ (own_w G 68 rfl)) (notFace_of_selects (args := #[]) (mvT hZ (own_w G 70 rfl))) (mvT hZ (own_w G 70 rfl)) (mvT hZ (own_w G 69 rfl)) (by decide) (backOf (W := 1) (rmlnB l Z a0 G [] x0 t kb (3 : Int32) (([c0, c1, c2] : List Int32).map fun c => Value.int (StrChars.lo8 c)) (.int (0 : Int32)) (0 : Int32) [c0, c1, c2]  h0 n0 O0 P0 P1 P2 P3 P4' P5 (by simp)) hZ (own_w G 71 rfl) (own_w G 12 rfl) (by decide) (by decide)) q23a q23c (g := (mkF m 6 #[.val (.ref x0), .val (.int (3 : Int32)), .val (.int (2 : Int32))] [(.ref x0), (.int (2 : Int32))])) rfl (by rw [hml]; rfl) (Steps.refl _) (argsL := []) (rest := [(.int (2 : Int32))]) (lenOf pd_16 rfl) rfl (by show 2 * 0 + _ ≤ _; exact Nat.le_of_eq rfl) (hb hby d28_6) (fun _ _ => ⟨rfl, e0, (by decide : 0 + 0 ≤ _), (by decide : 0 + 0 ≤ _)⟩)
      dsimp only [Pt.U, Pt.locs, Pt.cells, Pt.slots] at X23 l23 y23 z23 st23 hQ23
      subst l23 y23 z23
      obtain ⟨rfl, N23q, eh23⟩ := hQ23
      have N23 := Fr.app N0 N23q
      refine OwnEnd.tr (S' := T23.setTop (mkF m 9 #[.val (.ref x0), .val (.int (3 : Int32)), .val (.int (2 : Int32))] [(.int (3 : Int32)), (.int (2 : Int32))])) st23 ?_
      obtain ⟨_, _, ⟨T24, L24, k24, n24⟩, -, X24, ⟨Lc24, hQ24, l24, y24, z24⟩, st24⟩ := Jvm.LawKit.callS X23 hx (y := own_m1) hown (mvT hZ (own_w G 112 rfl)) (mvT hZ (own_w G 92 rfl)) (mvT hZ (own_w G 12 rfl)) (mvT hZ (own_w G 93 rfl)) (by decide) (backOf (W := 0) (rmsk l Z a0 G [] (2 : Int32) (3 : Int32) h0 n0 O0 (by decide : ¬ (2 : Int32) < (0 : Int32)) (by decide : (2 : Int32) < (3 : Int32))) hZ (own_w G 93 rfl) (own_w G 12 rfl) (by decide) (by decide)) (g := (mkF m 9 #[.val (.ref x0), .val (.int (3 : Int32)), .val (.int (2 : Int32))] [(.int (3 : Int32)), (.int (2 : Int32))])) rfl (by rw [hml]; rfl) (argsL := [(.int (2 : Int32)), (.int (3 : Int32))]) (rest := []) (lenOf pd_2 rfl) rfl (by show 2 * 0 + _ ≤ _; exact Nat.le_of_eq rfl) (hb hby d28_9) (fun _ _ => ⟨rfl, eh23, (by decide : 0 + 0 ≤ _), (by decide : 0 + 0 ≤ _)⟩)
      dsimp only [Pt.U, Pt.locs, Pt.cells, Pt.slots] at X24 l24 y24 z24 st24 hQ24
      subst l24 y24 z24
      obtain ⟨rfl, N24q, eh24⟩ := hQ24
      have N24 := Fr.app N23 N24q
      refine OwnEnd.of (S' := T24.setTop (mkF m 12 #[.val (.ref x0), .val (.int (3 : Int32)), .val (.int (2 : Int32))] [])) st24 ?_
      refine OwnEnd.of (S' := T24.setTop (mkF m 13 #[.val (.ref x0), .val (.int (3 : Int32)), .val (.int (2 : Int32))] [(.ref x0)])) (fun _ kK => XS.aloadN X24.here hx rfl (hb hby d28_12) rfl rfl kK) ?_
      obtain ⟨cq25, kq25, q25a, q25b, q25c⟩ := isOf hZ eh24 P0
      obtain ⟨_, _, ⟨T25, L25, k25, n25⟩, -, X25, ⟨Lc25, hQ25, l25, y25, z25⟩, st25⟩ := X24.virtualBack hx (y := own_m2) (z := own_m2) hown (mvT hZ (own_w G 82 rfl)) (mvT hZ (own_w G 83 rfl)) (notFace_of_selects (args := #[]) (mvT hZ (own_w G 85 rfl))) (mvT hZ (own_w G 85 rfl)) (mvT hZ (own_w G 84 rfl)) (by decide) (backOf (W := 0) (rmil0 l Z a0 G [] x0 h0 n0 O0 P2) hZ (own_w G 86 rfl) (own_w G 12 rfl) (by decide) (by decide)) q25a q25c (g := (mkF m 13 #[.val (.ref x0), .val (.int (3 : Int32)), .val (.int (2 : Int32))] [(.ref x0)])) rfl (by rw [hml]; rfl) (Steps.refl _) (argsL := []) (rest := []) (lenOf pd_6 rfl) rfl (by show 2 * 0 + _ ≤ _; exact Nat.le_of_eq rfl) (hb hby d28_13) (fun _ _ => ⟨rfl, eh24, (by decide : 0 + 0 ≤ _), (by decide : 0 + 0 ≤ _)⟩)
      dsimp only [Pt.U, Pt.locs, Pt.cells, Pt.slots] at X25 l25 y25 z25 st25 hQ25
      subst l25 y25 z25
      obtain ⟨rfl, N25q, eh25⟩ := hQ25
      have N25 := Fr.app N24 N25q
      refine OwnEnd.tr (S' := T25.setTop (mkF m 16 #[.val (.ref x0), .val (.int (3 : Int32)), .val (.int (2 : Int32))] [(.int (1 : Int32))])) st25 ?_
      refine OwnEnd.of (S' := T25.setTop (mkF m 20 #[.val (.ref x0), .val (.int (3 : Int32)), .val (.int (2 : Int32))] [(.ref x0)])) (fun _ kK => XS.ifNo X25.here hx rfl (hb hby d28_16) rfl ((if0 _ _).trans (feq ((by decide : ¬ ((1 : Int32) = (0 : Int32))))).1) (XS.aloadN X25.here hx rfl (hb hby d28_19) rfl rfl kK)) ?_
      obtain ⟨T26, X26, e26, st26⟩ := getF X25 hx hZ hown (host := "") (Or.inl (own_w G 38 rfl)) Via.refl eh25 P1 (g := (mkF m 20 #[.val (.ref x0), .val (.int (3 : Int32)), .val (.int (2 : Int32))] [(.ref x0)])) rfl rfl (hb hby d28_20)
      refine OwnEnd.of (S' := T26.setTop (mkF m 23 #[.val (.ref x0), .val (.int (3 : Int32)), .val (.int (2 : Int32))] [(.ref t)])) st26 ?_
      refine OwnEnd.of (S' := T26.setTop (mkF m 24 #[.val (.ref x0), .val (.int (3 : Int32)), .val (.int (2 : Int32))] [(.int (2 : Int32)), (.ref t)])) (fun _ kK => XS.iloadN X26.here hx rfl (hb hby d28_23) rfl kK) ?_
      obtain ⟨cl27, Ar27, q27, S27, N27', H27, G27⟩ := id P3
      have hin28 : ¬ ((2 : Int32) < 0 ∨ cl27.slots.size ≤ ((2 : Int32)).toNatClampNeg) := inb_of S27 ⟨by decide, by show (2 : Int32) < (3 : Int32); decide⟩
      refine OwnEnd.of (S' := T26.setTop (mkF m 25 #[.val (.ref x0), .val (.int (3 : Int32)), .val (.int (2 : Int32))] [(.int (StrChars.lo8 c2))])) (fun _ kK => X26.baloadBytes hx (j := (2 : Int32)) (v := (.int (StrChars.lo8 c2))) (by rw [e26]; exact Ar27.1) (State.isArrayOf_alike hZ.alike Ar27.2.1) Ar27.2.2 hin28 (Has.at H27 hin28 (rfl)) (g := (mkF m 24 #[.val (.ref x0), .val (.int (3 : Int32)), .val (.int (2 : Int32))] [(.int (2 : Int32)), (.ref t)])) rfl rfl (hb hby d28_24) _ kK) ?_
      refine OwnEnd.of (S' := T26.setTop (mkF m 29 #[.val (.ref x0), .val (.int (3 : Int32)), .val (.int (2 : Int32))] [(.int ((StrChars.lo8 c2) &&& (255 : Int32)))])) (fun _ kK => XS.sipush X26.here hx rfl (hb hby d28_25) (XS.iand X26.here hx rfl (hb hby d28_28) rfl kK)) ?_
      refine OwnEnd.ret X26 (v := (some (.int ((StrChars.lo8 c2) &&& (255 : Int32))))) (fun h => by rw [Bd.returns] at h; cases h) hlk (fun fs hr => retOut X26 hx Bd.returns rfl (Or.inl ⟨rfl, Or.inl rfl, _, rfl⟩) (hb hby d28_29) hr) (by decide) (by decide) (Q := own_Qint _ h0 n0) e26 ?_
      exact ⟨(congrArg (fun z => some (Value.int z)) ((StrChars.lo8_mask (P5 c2 (by simp)).1 (hxc c2 (by simp))).trans (own_cpl3 hxc).symm)), N25, rfl⟩
    · refine OwnEnd.of (S' := s₁.setTop (mkF m 6 #[.val (.ref x0), .val (.int (3 : Int32)), .val (.int (2 : Int32))] [(.ref x0), (.int (2 : Int32))])) (fun _ kK => XS.iloadN X0.here hx rfl (hb hby d28_0) rfl (XS.iconst X0.here hx rfl (hb hby d28_1) (XS.isub X0.here hx rfl (hb hby d28_2) rfl (XS.istoreN X0.here hx rfl (hb hby d28_3) rfl (l' := #[.val (.ref x0), .val (.int (3 : Int32)), .val (.int (2 : Int32))]) rfl (XS.iloadN X0.here hx rfl (hb hby d28_4) rfl (XS.aloadN X0.here hx rfl (hb hby d28_5) rfl rfl kK)))))) ?_
      obtain ⟨cq29, kq29, q29a, q29b, q29c⟩ := isOf hZ e0 P0
      obtain ⟨_, _, ⟨T29, L29, k29, n29⟩, -, X29, ⟨Lc29, hQ29, l29, y29, z29⟩, st29⟩ := X0.virtualBack hx (y := own_m4) (z := own_m4) hown (mvT hZ (own_w G 111 rfl)) (mvT hZ (own_w G 68 rfl)) (notFace_of_selects (args := #[]) (mvT hZ (own_w G 70 rfl))) (mvT hZ (own_w G 70 rfl)) (mvT hZ (own_w G 69 rfl)) (by decide) (backOf (W := 1) (rmlnB l Z a0 G [] x0 t kb (6 : Int32) (StrChars.Road.wideBytes [c0, c1, c2]) (.int (0 : Int32)) (1 : Int32) [c0, c1, c2]  h0 n0 O0 P0 P1 P2 P3 P4' P5 (by simp)) hZ (own_w G 71 rfl) (own_w G 12 rfl) (by decide) (by decide)) q29a q29c (g := (mkF m 6 #[.val (.ref x0), .val (.int (3 : Int32)), .val (.int (2 : Int32))] [(.ref x0), (.int (2 : Int32))])) rfl (by rw [hml]; rfl) (Steps.refl _) (argsL := []) (rest := [(.int (2 : Int32))]) (lenOf pd_16 rfl) rfl (by show 2 * 0 + _ ≤ _; exact Nat.le_of_eq rfl) (hb hby d28_6) (fun _ _ => ⟨rfl, e0, (by decide : 0 + 0 ≤ _), (by decide : 0 + 0 ≤ _)⟩)
      dsimp only [Pt.U, Pt.locs, Pt.cells, Pt.slots] at X29 l29 y29 z29 st29 hQ29
      subst l29 y29 z29
      obtain ⟨rfl, N29q, eh29⟩ := hQ29
      have N29 := Fr.app N0 N29q
      refine OwnEnd.tr (S' := T29.setTop (mkF m 9 #[.val (.ref x0), .val (.int (3 : Int32)), .val (.int (2 : Int32))] [(.int (3 : Int32)), (.int (2 : Int32))])) st29 ?_
      obtain ⟨_, _, ⟨T30, L30, k30, n30⟩, -, X30, ⟨Lc30, hQ30, l30, y30, z30⟩, st30⟩ := Jvm.LawKit.callS X29 hx (y := own_m1) hown (mvT hZ (own_w G 112 rfl)) (mvT hZ (own_w G 92 rfl)) (mvT hZ (own_w G 12 rfl)) (mvT hZ (own_w G 93 rfl)) (by decide) (backOf (W := 0) (rmsk l Z a0 G [] (2 : Int32) (3 : Int32) h0 n0 O0 (by decide : ¬ (2 : Int32) < (0 : Int32)) (by decide : (2 : Int32) < (3 : Int32))) hZ (own_w G 93 rfl) (own_w G 12 rfl) (by decide) (by decide)) (g := (mkF m 9 #[.val (.ref x0), .val (.int (3 : Int32)), .val (.int (2 : Int32))] [(.int (3 : Int32)), (.int (2 : Int32))])) rfl (by rw [hml]; rfl) (argsL := [(.int (2 : Int32)), (.int (3 : Int32))]) (rest := []) (lenOf pd_2 rfl) rfl (by show 2 * 0 + _ ≤ _; exact Nat.le_of_eq rfl) (hb hby d28_9) (fun _ _ => ⟨rfl, eh29, (by decide : 0 + 0 ≤ _), (by decide : 0 + 0 ≤ _)⟩)
      dsimp only [Pt.U, Pt.locs, Pt.cells, Pt.slots] at X30 l30 y30 z30 st30 hQ30
      subst l30 y30 z30
      obtain ⟨rfl, N30q, eh30⟩ := hQ30
      have N30 := Fr.app N29 N30q
      refine OwnEnd.of (S' := T30.setTop (mkF m 12 #[.val (.ref x0), .val (.int (3 : Int32)), .val (.int (2 : Int32))] [])) st30 ?_
      refine OwnEnd.of (S' := T30.setTop (mkF m 13 #[.val (.ref x0), .val (.int (3 : Int32)), .val (.int (2 : Int32))] [(.ref x0)])) (fun _ kK => XS.aloadN X30.here hx rfl (hb hby d28_12) rfl rfl kK) ?_
      obtain ⟨cq31, kq31, q31a, q31b, q31c⟩ := isOf hZ eh30 P0
      obtain ⟨_, _, ⟨T31, L31, k31, n31⟩, -, X31, ⟨Lc31, hQ31, l31, y31, z31⟩, st31⟩ := X30.virtualBack hx (y := own_m2) (z := own_m2) hown (mvT hZ (own_w G 82 rfl)) (mvT hZ (own_w G 83 rfl)) (notFace_of_selects (args := #[]) (mvT hZ (own_w G 85 rfl))) (mvT hZ (own_w G 85 rfl)) (mvT hZ (own_w G 84 rfl)) (by decide) (backOf (W := 0) (rmil1 l Z a0 G [] x0 h0 n0 O0 P2) hZ (own_w G 86 rfl) (own_w G 12 rfl) (by decide) (by decide)) q31a q31c (g := (mkF m 13 #[.val (.ref x0), .val (.int (3 : Int32)), .val (.int (2 : Int32))] [(.ref x0)])) rfl (by rw [hml]; rfl) (Steps.refl _) (argsL := []) (rest := []) (lenOf pd_6 rfl) rfl (by show 2 * 0 + _ ≤ _; exact Nat.le_of_eq rfl) (hb hby d28_13) (fun _ _ => ⟨rfl, eh30, (by decide : 0 + 0 ≤ _), (by decide : 0 + 0 ≤ _)⟩)
      dsimp only [Pt.U, Pt.locs, Pt.cells, Pt.slots] at X31 l31 y31 z31 st31 hQ31
      subst l31 y31 z31
      obtain ⟨rfl, N31q, eh31⟩ := hQ31
      have N31 := Fr.app N30 N31q
      refine OwnEnd.tr (S' := T31.setTop (mkF m 16 #[.val (.ref x0), .val (.int (3 : Int32)), .val (.int (2 : Int32))] [(.int (0 : Int32))])) st31 ?_
      refine OwnEnd.of (S' := T31.setTop (mkF m 31 #[.val (.ref x0), .val (.int (3 : Int32)), .val (.int (2 : Int32))] [(.ref x0)])) (fun _ kK => XS.ifYes X31.here hx rfl (pc0 := 16) (pc' := 30) rfl (hb hby d28_16) rfl ((if0 _ _).trans (teq ((by decide : (0 : Int32) = (0 : Int32)))).1) (by decide) (by decide) (XS.aloadN X31.here hx rfl (hb hby d28_30) rfl rfl kK)) ?_
      obtain ⟨T32, X32, e32, st32⟩ := getF X31 hx hZ hown (host := "") (Or.inl (own_w G 38 rfl)) Via.refl eh31 P1 (g := (mkF m 31 #[.val (.ref x0), .val (.int (3 : Int32)), .val (.int (2 : Int32))] [(.ref x0)])) rfl rfl (hb hby d28_31)
      refine OwnEnd.of (S' := T32.setTop (mkF m 34 #[.val (.ref x0), .val (.int (3 : Int32)), .val (.int (2 : Int32))] [(.ref t)])) st32 ?_
      refine OwnEnd.of (S' := T32.setTop (mkF m 35 #[.val (.ref x0), .val (.int (3 : Int32)), .val (.int (2 : Int32))] [(.int (3 : Int32)), (.ref t)])) (fun _ kK => XS.iloadN X32.here hx rfl (hb hby d28_34) rfl kK) ?_
      obtain ⟨_, _, ⟨T33, L33, k33, n33⟩, -, X33, ⟨Lc33, hQ33, l33, y33, z33⟩, st33⟩ := Jvm.LawKit.callS X32 hx (y := own_m27) hown (mvT hZ (own_w G 145 rfl)) (mvT hZ (own_w G 146 rfl)) (mvT hZ (own_w G 27 rfl)) (mvT hZ (own_w G 147 rfl)) (by decide) (backOf (W := 0) (rmcc3 l Z a0 G [] t kb c0 c1 c2 h0 n0 O0 P3 P5) hZ (own_w G 147 rfl) (own_w G 27 rfl) (by decide) (by decide)) (g := (mkF m 35 #[.val (.ref x0), .val (.int (3 : Int32)), .val (.int (2 : Int32))] [(.int (3 : Int32)), (.ref t)])) rfl (by rw [hml]; rfl) (argsL := [(.ref t), (.int (3 : Int32))]) (rest := []) (lenOf pd_21 rfl) rfl (by show 2 * 0 + _ ≤ _; exact Nat.le_of_eq rfl) (hb hby d28_35) (fun _ _ => ⟨rfl, e32, (by decide : 0 + 0 ≤ _), (by decide : 0 + 0 ≤ _)⟩)
      dsimp only [Pt.U, Pt.locs, Pt.cells, Pt.slots] at X33 l33 y33 z33 st33 hQ33
      subst l33 y33 z33
      obtain ⟨rfl, N33q, eh33⟩ := hQ33
      have N33 := Fr.app N31 N33q
      refine OwnEnd.of (S' := T33.setTop (mkF m 38 #[.val (.ref x0), .val (.int (3 : Int32)), .val (.int (2 : Int32))] [(.int (own_jpl [c0, c1, c2]))])) st33 ?_
      refine OwnEnd.ret X33 (v := (some (.int (own_jpl [c0, c1, c2])))) (fun h => by rw [Bd.returns] at h; cases h) hlk (fun fs hr => retOut X33 hx Bd.returns rfl (Or.inl ⟨rfl, Or.inl rfl, _, rfl⟩) (hb hby d28_38) hr) (by decide) (by decide) (Q := own_Qint _ h0 n0) eh33 ?_
      exact ⟨(congrArg (fun z => some (Value.int z)) (own_jpl_eq P5)), N33, rfl⟩

theorem own_efri (m : MethodId) (x0 : Addr) : entryFrame m #[(.ref x0)] 1 = mkF m 0 #[.val (.ref x0)] [] := by first | (simp [entryFrame, mkF, argsToLocals, Value.category]; done) | rfl
def Qri (Z : State) (x0 : Addr) (h0 : Heap) (n0 : Nat) (v : Option Value) (h : Heap) (L : List Loc) : Prop := v = none ∧ Fr n0 L ∧ h = h0
set_option maxRecDepth 65536 in
set_option maxHeartbeats 40000000 in
theorem rmri (l : Launch) (Z : State) (a0 : Array Value) (G : OwnG Z a0) (ws : List Jvm.Cond) (x0 : Addr) (h0 : Heap) (n0 : Nat) (O0 : Old Z n0 h0)  :
    MetFree l own_m29 (head1 (Jvm.Cond.code own_m29 jdk_30_method_1_code 1 none :: ws) ({ frames := 1, cells := 0, slots := 0, locals := 12 } : Room)) (fun a U => a = #[(.ref x0)] ∧ Z.Warmed39 U.vm ∧ U.heap = h0) (fun _ _ _ _ _ => True) (fun _ U o U' => ∃ v L, o = .returned v ∧ Qri Z x0 h0 n0 v U'.heap L ∧ FrameEnd U o U' L ({ frames := 1, cells := 0, slots := 0, locals := 12 } : Room).cells ({ frames := 1, cells := 0, slots := 0, locals := 12 } : Room).slots) := by
  refine MetFree.of_bodySF (plainFor_of_name pn_6) hisR ?_
  intro p e s m args below meth cD s₁ Bd hml0 hP hK
  obtain ⟨rfl, hZ, hh⟩ := hP
  have hw := G.1
  have hx := Bd.exec
  have hby := Bd.bytes
  have hml : cD.maxLocals = 1 := hml0
  have hown : s.vm.findClass "java/lang/Record" = some m.cls := findClass_of_methodNamed Bd.named
  have hnm := (name_of_methodNamed Bd.named Bd.method).1
  have hlk := Bd.notSynchronized
  have X0 : Stand p l e ({ frames := 1, cells := 0, slots := 0, locals := 12 } : Room) s m #[(.ref x0)] below meth cD s₁ [] 0 0 := Stand.of_body Bd
  have e0 : s₁.heap = h0 := by rw [← hh, Bd.state]; rfl
  have K0 : Keep h0 h0 [] := Keep.refl h0 _
  have Z0 := own_old_le O0
  have N0 := Fr.nil n0
  refine OwnEnd.start (g' := (mkF m 0 #[.val (.ref x0)] [])) (own_efri m x0) ?_
  refine OwnEnd.of (S' := s₁.setTop (mkF m 1 #[.val (.ref x0)] [(.ref x0)])) (fun _ kK => XS.aloadN X0.here hx rfl (hb hby d29_0) rfl rfl kK) ?_
  obtain ⟨T1, X1, e1, st1⟩ := initO X0 hx hZ hown (own_w G 51 rfl) (own_w G 22 rfl) (own_w G 23 rfl) e0 (g := (mkF m 1 #[.val (.ref x0)] [(.ref x0)])) rfl (by rw [hml]; rfl) rfl (hb hby d29_1) (by decide) (W := 0) (by show 2 * 0 + _ ≤ _; exact Nat.le_of_eq rfl) (by decide)
  refine OwnEnd.of (S' := T1.setTop (mkF m 4 #[.val (.ref x0)] [])) st1 ?_
  refine OwnEnd.ret X1 (v := none) (fun _ => rfl) hlk (fun fs hr => X1.returnOut hx Bd.returns (hb hby d29_4) hr) (by decide) (by decide) (Q := Qri Z x0 h0 n0) e1 ?_
  exact ⟨rfl, N0, rfl⟩

theorem own_efmi (m : MethodId) (x0 : Addr) (y1 : Addr) (y2 : Addr) (j3 : Int64) (j4 : Int64) (y5 : Addr) (i6 : Int32) : entryFrame m #[(.ref x0), (.ref y1), (.ref y2), (.long j3), (.long j4), (.ref y5), (.int i6)] 9 = mkF m 0 #[.val (.ref x0), .val (.ref y1), .val (.ref y2), .val (.long j3), .second, .val (.long j4), .second, .val (.ref y5), .val (.int i6)] [] := by first | (simp [entryFrame, mkF, argsToLocals, Value.category]; done) | rfl
def Qmi (Z : State) (x0 : Addr) (y1 : Addr) (y2 : Addr) (j3 : Int64) (j4 : Int64) (y5 : Addr) (i6 : Int32) (u0 : Value) (u1 : Value) (u2 : Value) (u3 : Value) (u4 : Value) (u5 : Value) (h0 : Heap) (n0 : Nat) (v : Option Value) (h : Heap) (L : List Loc) : Prop := v = none ∧ Fr n0 L ∧ Keep h0 h [x0] ∧ (Exa Z h x0 "com/example/collie/collie/engine/MinedPair") ∧ (Fld Z h x0 "com/example/collie/collie/engine/MinedPair" "misspelling" "Ljava/lang/String;" (.ref y1)) ∧ (Fld Z h x0 "com/example/collie/collie/engine/MinedPair" "correction" "Ljava/lang/String;" (.ref y2))
set_option maxRecDepth 65536 in
set_option maxHeartbeats 40000000 in
theorem rmmi (l : Launch) (Z : State) (a0 : Array Value) (G : OwnG Z a0) (ws : List Jvm.Cond) (x0 : Addr) (y1 : Addr) (y2 : Addr) (j3 : Int64) (j4 : Int64) (y5 : Addr) (i6 : Int32) (u0 : Value) (u1 : Value) (u2 : Value) (u3 : Value) (u4 : Value) (u5 : Value) (h0 : Heap) (n0 : Nat) (O0 : Old Z n0 h0) (P0 : Exa Z h0 x0 "com/example/collie/collie/engine/MinedPair") (P1 : Fld Z h0 x0 "com/example/collie/collie/engine/MinedPair" "misspelling" "Ljava/lang/String;" u0) (P2 : Fld Z h0 x0 "com/example/collie/collie/engine/MinedPair" "correction" "Ljava/lang/String;" u1) (P3 : Fld Z h0 x0 "com/example/collie/collie/engine/MinedPair" "misspellingCount" "J" u2) (P4 : Fld Z h0 x0 "com/example/collie/collie/engine/MinedPair" "correctionCount" "J" u3) (P5 : Fld Z h0 x0 "com/example/collie/collie/engine/MinedPair" "type" "Lcom/example/collie/collie/engine/CorrectionType;" u4) (P6 : Fld Z h0 x0 "com/example/collie/collie/engine/MinedPair" "distance" "I" u5) (P7 : n0 ≤ x0) :
    MetFree l own_m30 (head1 (Jvm.Cond.code own_m30 prog_29_method_2_code 9 none :: ws) ({ frames := 2, cells := 0, slots := 0, locals := 24 } : Room)) (fun a U => a = #[(.ref x0), (.ref y1), (.ref y2), (.long j3), (.long j4), (.ref y5), (.int i6)] ∧ Z.Warmed39 U.vm ∧ U.heap = h0) (fun _ _ _ _ _ => True) (fun _ U o U' => ∃ v L, o = .returned v ∧ Qmi Z x0 y1 y2 j3 j4 y5 i6 u0 u1 u2 u3 u4 u5 h0 n0 v U'.heap L ∧ FrameEnd U o U' L ({ frames := 2, cells := 0, slots := 0, locals := 24 } : Room).cells ({ frames := 2, cells := 0, slots := 0, locals := 24 } : Room).slots) := by
  refine MetFree.of_bodySF (plainFor_of_name pn_7) hisR ?_
  intro p e s m args below meth cD s₁ Bd hml0 hP hK
  obtain ⟨rfl, hZ, hh⟩ := hP
  have hw := G.1
  have hx := Bd.exec
  have hby := Bd.bytes
  have hml : cD.maxLocals = 9 := hml0
  have hown : s.vm.findClass "com/example/collie/collie/engine/MinedPair" = some m.cls := findClass_of_methodNamed Bd.named
  have hnm := (name_of_methodNamed Bd.named Bd.method).1
  have hlk := Bd.notSynchronized
  have X0 : Stand p l e ({ frames := 2, cells := 0, slots := 0, locals := 24 } : Room) s m #[(.ref x0), (.ref y1), (.ref y2), (.long j3), (.long j4), (.ref y5), (.int i6)] below meth cD s₁ [] 0 0 := Stand.of_body Bd
  have e0 : s₁.heap = h0 := by rw [← hh, Bd.state]; rfl
  have lt0 := own_ltN' P0.lt
  have lt1 := own_ltN' P1.lt
  have lt2 := own_ltN' P2.lt
  have lt3 := own_ltN' P3.lt
  have lt4 := own_ltN' P4.lt
  have lt5 := own_ltN' P5.lt
  have lt6 := own_ltN' P6.lt
  have K0 : Keep h0 h0 [x0] := Keep.refl h0 _
  have Z0 := own_old_le O0
  have N0 := Fr.nil n0
  refine OwnEnd.start (g' := (mkF m 0 #[.val (.ref x0), .val (.ref y1), .val (.ref y2), .val (.long j3), .second, .val (.long j4), .second, .val (.ref y5), .val (.int i6)] [])) (own_efmi m x0 y1 y2 j3 j4 y5 i6) ?_
  refine OwnEnd.of (S' := s₁.setTop (mkF m 1 #[.val (.ref x0), .val (.ref y1), .val (.ref y2), .val (.long j3), .second, .val (.long j4), .second, .val (.ref y5), .val (.int i6)] [(.ref x0)])) (fun _ kK => XS.aloadN X0.here hx rfl (hb hby d30_0) rfl rfl kK) ?_
  obtain ⟨_, _, ⟨T1, L1, k1, n1⟩, -, X1, ⟨Lc1, hQ1, l1, y1, z1⟩, st1⟩ := Jvm.Stand.specialBack X0 hx (y := own_m29) rfl hown (mvT hZ (own_w G 46 rfl)) (mvT hZ (own_w G 47 rfl)) (mvT hZ (own_w G 50 rfl)) (by decide) (backOf (W := 0) (rmri l Z a0 G [] x0 h0 n0 O0 ) hZ (own_w G 50 rfl) (own_w G 49 rfl) (by decide) (by decide)) (g := (mkF m 1 #[.val (.ref x0), .val (.ref y1), .val (.ref y2), .val (.long j3), .second, .val (.long j4), .second, .val (.ref y5), .val (.int i6)] [(.ref x0)])) rfl (by rw [hml]; rfl) (Steps.refl _) (a := x0) (argsL := []) (rest := []) (lenOf pd_22 rfl) rfl (by show 2 * 0 + _ ≤ _; exact Nat.le_of_eq rfl) (hb hby d30_1) (fun _ _ => ⟨rfl, e0, (by decide : 0 + 0 ≤ _), (by decide : 0 + 0 ≤ _)⟩)
  dsimp only [Pt.U, Pt.locs, Pt.cells, Pt.slots] at X1 l1 y1 z1 st1 hQ1
  subst l1 y1 z1
  obtain ⟨rfl, N1q, eh1⟩ := hQ1
  have N1 := Fr.app N0 N1q
  refine OwnEnd.tr (S' := T1.setTop (mkF m 4 #[.val (.ref x0), .val (.ref y1), .val (.ref y2), .val (.long j3), .second, .val (.long j4), .second, .val (.ref y5), .val (.int i6)] [])) st1 ?_
  refine OwnEnd.of (S' := T1.setTop (mkF m 6 #[.val (.ref x0), .val (.ref y1), .val (.ref y2), .val (.long j3), .second, .val (.long j4), .second, .val (.ref y5), .val (.int i6)] [(.ref y1), (.ref x0)])) (fun _ kK => XS.aloadN X1.here hx rfl (hb hby d30_4) rfl rfl (XS.aloadN X1.here hx rfl (hb hby d30_5) rfl rfl kK)) ?_
  obtain ⟨T2, h2, X2, e2, W2, st2⟩ := putF X1 hx hZ hown (host := "") (Or.inl (own_w G 52 rfl)) Via.refl eh1 P1 P0 (Or.inr ⟨(own_w G 53 rfl), rfl, hnm⟩) (own_w G 41 rfl) (ty := (.object "java/lang/String")) (by decide) rfl rfl (g := (mkF m 6 #[.val (.ref x0), .val (.ref y1), .val (.ref y2), .val (.long j3), .second, .val (.long j4), .second, .val (.ref y5), .val (.int i6)] [(.ref y1), (.ref x0)])) rfl rfl (hb hby d30_6)
  have Fw2 := P1.same W2
  have N2 := Fr.snoc X2 N1 (by omega)
  have sz3 := own_wr_le W2
  have K3 := K0.wr W2 (Or.inl (by simp))
  have O3 := O0.wr W2 (by omega)
  refine OwnEnd.of (S' := T2.setTop (mkF m 9 #[.val (.ref x0), .val (.ref y1), .val (.ref y2), .val (.long j3), .second, .val (.long j4), .second, .val (.ref y5), .val (.int i6)] [])) st2 ?_
  refine OwnEnd.of (S' := T2.setTop (mkF m 11 #[.val (.ref x0), .val (.ref y1), .val (.ref y2), .val (.long j3), .second, .val (.long j4), .second, .val (.ref y5), .val (.int i6)] [(.ref y2), (.ref x0)])) (fun _ kK => XS.aloadN X2.here hx rfl (hb hby d30_9) rfl rfl (XS.aloadN X2.here hx rfl (hb hby d30_10) rfl rfl kK)) ?_
  have f5 : Fld Z h2 x0 "com/example/collie/collie/engine/MinedPair" "correction" "Ljava/lang/String;" u1 := (P2.other W2 (Or.inr (slot_ne (Or.inr (own_w G 55 rfl)) (Or.inr (own_w G 53 rfl)) (by decide) (t := (.object "java/lang/String")) (t' := (.object "java/lang/String")) (by decide) (by decide))))
  have f6 : Exa Z h2 x0 "com/example/collie/collie/engine/MinedPair" := (P0.wr W2)
  obtain ⟨T4, h4, X4, e4, W4, st4⟩ := putF X2 hx hZ hown (host := "") (Or.inl (own_w G 54 rfl)) Via.refl e2 f5 f6 (Or.inr ⟨(own_w G 55 rfl), rfl, hnm⟩) (own_w G 41 rfl) (ty := (.object "java/lang/String")) (by decide) rfl rfl (g := (mkF m 11 #[.val (.ref x0), .val (.ref y1), .val (.ref y2), .val (.long j3), .second, .val (.long j4), .second, .val (.ref y5), .val (.int i6)] [(.ref y2), (.ref x0)])) rfl rfl (hb hby d30_11)
  have Fw4 := f5.same W4
  have N4 := Fr.snoc X4 N2 (by omega)
  have sz7 := own_wr_le W4
  have K7 := K3.wr W4 (Or.inl (by simp))
  have O7 := O3.wr W4 (by omega)
  refine OwnEnd.of (S' := T4.setTop (mkF m 14 #[.val (.ref x0), .val (.ref y1), .val (.ref y2), .val (.long j3), .second, .val (.long j4), .second, .val (.ref y5), .val (.int i6)] [])) st4 ?_
  refine OwnEnd.of (S' := T4.setTop (mkF m 16 #[.val (.ref x0), .val (.ref y1), .val (.ref y2), .val (.long j3), .second, .val (.long j4), .second, .val (.ref y5), .val (.int i6)] [(.long j3), (.ref x0)])) (fun _ kK => XS.aloadN X4.here hx rfl (hb hby d30_14) rfl rfl (XS.lloadN X4.here hx rfl (hb hby d30_15) rfl kK)) ?_
  have f9 : Fld Z h4 x0 "com/example/collie/collie/engine/MinedPair" "misspellingCount" "J" u2 := ((P3.other W2 (Or.inr (slot_ne (Or.inr (own_w G 57 rfl)) (Or.inr (own_w G 53 rfl)) (by decide) (t := .long) (t' := (.object "java/lang/String")) (by decide) (by decide)))).other W4 (Or.inr (slot_ne (Or.inr (own_w G 57 rfl)) (Or.inr (own_w G 55 rfl)) (by decide) (t := .long) (t' := (.object "java/lang/String")) (by decide) (by decide))))
  have f10 : Exa Z h4 x0 "com/example/collie/collie/engine/MinedPair" := (f6.wr W4)
  obtain ⟨T8, h8, X8, e8, W8, st8⟩ := putF X4 hx hZ hown (host := "") (Or.inl (own_w G 56 rfl)) Via.refl e4 f9 f10 (Or.inr ⟨(own_w G 57 rfl), rfl, hnm⟩) (own_w G 41 rfl) (ty := .long) (by decide) rfl rfl (g := (mkF m 16 #[.val (.ref x0), .val (.ref y1), .val (.ref y2), .val (.long j3), .second, .val (.long j4), .second, .val (.ref y5), .val (.int i6)] [(.long j3), (.ref x0)])) rfl rfl (hb hby d30_16)
  have Fw8 := f9.same W8
  have N8 := Fr.snoc X8 N4 (by omega)
  have sz11 := own_wr_le W8
  have K11 := K7.wr W8 (Or.inl (by simp))
  have O11 := O7.wr W8 (by omega)
  refine OwnEnd.of (S' := T8.setTop (mkF m 19 #[.val (.ref x0), .val (.ref y1), .val (.ref y2), .val (.long j3), .second, .val (.long j4), .second, .val (.ref y5), .val (.int i6)] [])) st8 ?_
  refine OwnEnd.of (S' := T8.setTop (mkF m 22 #[.val (.ref x0), .val (.ref y1), .val (.ref y2), .val (.long j3), .second, .val (.long j4), .second, .val (.ref y5), .val (.int i6)] [(.long j4), (.ref x0)])) (fun _ kK => XS.aloadN X8.here hx rfl (hb hby d30_19) rfl rfl (XS.lload X8.here hx rfl (hb hby d30_20) rfl kK)) ?_
  have f13 : Fld Z h8 x0 "com/example/collie/collie/engine/MinedPair" "correctionCount" "J" u3 := (((P4.other W2 (Or.inr (slot_ne (Or.inr (own_w G 59 rfl)) (Or.inr (own_w G 53 rfl)) (by decide) (t := .long) (t' := (.object "java/lang/String")) (by decide) (by decide)))).other W4 (Or.inr (slot_ne (Or.inr (own_w G 59 rfl)) (Or.inr (own_w G 55 rfl)) (by decide) (t := .long) (t' := (.object "java/lang/String")) (by decide) (by decide)))).other W8 (Or.inr (slot_ne (Or.inr (own_w G 59 rfl)) (Or.inr (own_w G 57 rfl)) (by decide) (t := .long) (t' := .long) (by decide) (by decide))))
  have f14 : Exa Z h8 x0 "com/example/collie/collie/engine/MinedPair" := (f10.wr W8)
  obtain ⟨T12, h12, X12, e12, W12, st12⟩ := putF X8 hx hZ hown (host := "") (Or.inl (own_w G 58 rfl)) Via.refl e8 f13 f14 (Or.inr ⟨(own_w G 59 rfl), rfl, hnm⟩) (own_w G 41 rfl) (ty := .long) (by decide) rfl rfl (g := (mkF m 22 #[.val (.ref x0), .val (.ref y1), .val (.ref y2), .val (.long j3), .second, .val (.long j4), .second, .val (.ref y5), .val (.int i6)] [(.long j4), (.ref x0)])) rfl rfl (hb hby d30_22)
  have Fw12 := f13.same W12
  have N12 := Fr.snoc X12 N8 (by omega)
  have sz15 := own_wr_le W12
  have K15 := K11.wr W12 (Or.inl (by simp))
  have O15 := O11.wr W12 (by omega)
  refine OwnEnd.of (S' := T12.setTop (mkF m 25 #[.val (.ref x0), .val (.ref y1), .val (.ref y2), .val (.long j3), .second, .val (.long j4), .second, .val (.ref y5), .val (.int i6)] [])) st12 ?_
  refine OwnEnd.of (S' := T12.setTop (mkF m 28 #[.val (.ref x0), .val (.ref y1), .val (.ref y2), .val (.long j3), .second, .val (.long j4), .second, .val (.ref y5), .val (.int i6)] [(.ref y5), (.ref x0)])) (fun _ kK => XS.aloadN X12.here hx rfl (hb hby d30_25) rfl rfl (XS.aload X12.here hx rfl (hb hby d30_26) rfl rfl kK)) ?_
  have f17 : Fld Z h12 x0 "com/example/collie/collie/engine/MinedPair" "type" "Lcom/example/collie/collie/engine/CorrectionType;" u4 := ((((P5.other W2 (Or.inr (slot_ne (Or.inr (own_w G 61 rfl)) (Or.inr (own_w G 53 rfl)) (by decide) (t := (.object "com/example/collie/collie/engine/CorrectionType")) (t' := (.object "java/lang/String")) (by decide) (by decide)))).other W4 (Or.inr (slot_ne (Or.inr (own_w G 61 rfl)) (Or.inr (own_w G 55 rfl)) (by decide) (t := (.object "com/example/collie/collie/engine/CorrectionType")) (t' := (.object "java/lang/String")) (by decide) (by decide)))).other W8 (Or.inr (slot_ne (Or.inr (own_w G 61 rfl)) (Or.inr (own_w G 57 rfl)) (by decide) (t := (.object "com/example/collie/collie/engine/CorrectionType")) (t' := .long) (by decide) (by decide)))).other W12 (Or.inr (slot_ne (Or.inr (own_w G 61 rfl)) (Or.inr (own_w G 59 rfl)) (by decide) (t := (.object "com/example/collie/collie/engine/CorrectionType")) (t' := .long) (by decide) (by decide))))
  have f18 : Exa Z h12 x0 "com/example/collie/collie/engine/MinedPair" := (f14.wr W12)
  obtain ⟨T16, h16, X16, e16, W16, st16⟩ := putF X12 hx hZ hown (host := "") (Or.inl (own_w G 60 rfl)) Via.refl e12 f17 f18 (Or.inr ⟨(own_w G 61 rfl), rfl, hnm⟩) (own_w G 41 rfl) (ty := (.object "com/example/collie/collie/engine/CorrectionType")) (by decide) rfl rfl (g := (mkF m 28 #[.val (.ref x0), .val (.ref y1), .val (.ref y2), .val (.long j3), .second, .val (.long j4), .second, .val (.ref y5), .val (.int i6)] [(.ref y5), (.ref x0)])) rfl rfl (hb hby d30_28)
  have Fw16 := f17.same W16
  have N16 := Fr.snoc X16 N12 (by omega)
  have sz19 := own_wr_le W16
  have K19 := K15.wr W16 (Or.inl (by simp))
  have O19 := O15.wr W16 (by omega)
  refine OwnEnd.of (S' := T16.setTop (mkF m 31 #[.val (.ref x0), .val (.ref y1), .val (.ref y2), .val (.long j3), .second, .val (.long j4), .second, .val (.ref y5), .val (.int i6)] [])) st16 ?_
  refine OwnEnd.of (S' := T16.setTop (mkF m 34 #[.val (.ref x0), .val (.ref y1), .val (.ref y2), .val (.long j3), .second, .val (.long j4), .second, .val (.ref y5), .val (.int i6)] [(.int i6), (.ref x0)])) (fun _ kK => XS.aloadN X16.here hx rfl (hb hby d30_31) rfl rfl (XS.iload X16.here hx rfl (hb hby d30_32) rfl kK)) ?_
  have f21 : Fld Z h16 x0 "com/example/collie/collie/engine/MinedPair" "distance" "I" u5 := (((((P6.other W2 (Or.inr (slot_ne (Or.inr (own_w G 63 rfl)) (Or.inr (own_w G 53 rfl)) (by decide) (t := .int) (t' := (.object "java/lang/String")) (by decide) (by decide)))).other W4 (Or.inr (slot_ne (Or.inr (own_w G 63 rfl)) (Or.inr (own_w G 55 rfl)) (by decide) (t := .int) (t' := (.object "java/lang/String")) (by decide) (by decide)))).other W8 (Or.inr (slot_ne (Or.inr (own_w G 63 rfl)) (Or.inr (own_w G 57 rfl)) (by decide) (t := .int) (t' := .long) (by decide) (by decide)))).other W12 (Or.inr (slot_ne (Or.inr (own_w G 63 rfl)) (Or.inr (own_w G 59 rfl)) (by decide) (t := .int) (t' := .long) (by decide) (by decide)))).other W16 (Or.inr (slot_ne (Or.inr (own_w G 63 rfl)) (Or.inr (own_w G 61 rfl)) (by decide) (t := .int) (t' := (.object "com/example/collie/collie/engine/CorrectionType")) (by decide) (by decide))))
  have f22 : Exa Z h16 x0 "com/example/collie/collie/engine/MinedPair" := (f18.wr W16)
  obtain ⟨T20, h20, X20, e20, W20, st20⟩ := putF X16 hx hZ hown (host := "") (Or.inl (own_w G 62 rfl)) Via.refl e16 f21 f22 (Or.inr ⟨(own_w G 63 rfl), rfl, hnm⟩) (own_w G 41 rfl) (ty := .int) (by decide) rfl rfl (g := (mkF m 34 #[.val (.ref x0), .val (.ref y1), .val (.ref y2), .val (.long j3), .second, .val (.long j4), .second, .val (.ref y5), .val (.int i6)] [(.int i6), (.ref x0)])) rfl rfl (hb hby d30_34)
  have Fw20 := f21.same W20
  have N20 := Fr.snoc X20 N16 (by omega)
  have sz23 := own_wr_le W20
  have K23 := K19.wr W20 (Or.inl (by simp))
  have O23 := O19.wr W20 (by omega)
  refine OwnEnd.of (S' := T20.setTop (mkF m 37 #[.val (.ref x0), .val (.ref y1), .val (.ref y2), .val (.long j3), .second, .val (.long j4), .second, .val (.ref y5), .val (.int i6)] [])) st20 ?_
  have f24 : Exa Z h20 x0 "com/example/collie/collie/engine/MinedPair" := (f22.wr W20)
  have f25 : Fld Z h20 x0 "com/example/collie/collie/engine/MinedPair" "misspelling" "Ljava/lang/String;" (.ref y1) := (((((Fw2.other W4 (Or.inr (slot_ne (Or.inr (own_w G 53 rfl)) (Or.inr (own_w G 55 rfl)) (by decide) (t := (.object "java/lang/String")) (t' := (.object "java/lang/String")) (by decide) (by decide)))).other W8 (Or.inr (slot_ne (Or.inr (own_w G 53 rfl)) (Or.inr (own_w G 57 rfl)) (by decide) (t := (.object "java/lang/String")) (t' := .long) (by decide) (by decide)))).other W12 (Or.inr (slot_ne (Or.inr (own_w G 53 rfl)) (Or.inr (own_w G 59 rfl)) (by decide) (t := (.object "java/lang/String")) (t' := .long) (by decide) (by decide)))).other W16 (Or.inr (slot_ne (Or.inr (own_w G 53 rfl)) (Or.inr (own_w G 61 rfl)) (by decide) (t := (.object "java/lang/String")) (t' := (.object "com/example/collie/collie/engine/CorrectionType")) (by decide) (by decide)))).other W20 (Or.inr (slot_ne (Or.inr (own_w G 53 rfl)) (Or.inr (own_w G 63 rfl)) (by decide) (t := (.object "java/lang/String")) (t' := .int) (by decide) (by decide))))
  have f26 : Fld Z h20 x0 "com/example/collie/collie/engine/MinedPair" "correction" "Ljava/lang/String;" (.ref y2) := ((((Fw4.other W8 (Or.inr (slot_ne (Or.inr (own_w G 55 rfl)) (Or.inr (own_w G 57 rfl)) (by decide) (t := (.object "java/lang/String")) (t' := .long) (by decide) (by decide)))).other W12 (Or.inr (slot_ne (Or.inr (own_w G 55 rfl)) (Or.inr (own_w G 59 rfl)) (by decide) (t := (.object "java/lang/String")) (t' := .long) (by decide) (by decide)))).other W16 (Or.inr (slot_ne (Or.inr (own_w G 55 rfl)) (Or.inr (own_w G 61 rfl)) (by decide) (t := (.object "java/lang/String")) (t' := (.object "com/example/collie/collie/engine/CorrectionType")) (by decide) (by decide)))).other W20 (Or.inr (slot_ne (Or.inr (own_w G 55 rfl)) (Or.inr (own_w G 63 rfl)) (by decide) (t := (.object "java/lang/String")) (t' := .int) (by decide) (by decide))))
  refine OwnEnd.ret X20 (v := none) (fun _ => rfl) hlk (fun fs hr => X20.returnOut hx Bd.returns (hb hby d30_37) hr) (by decide) (by decide) (Q := Qmi Z x0 y1 y2 j3 j4 y5 i6 u0 u1 u2 u3 u4 u5 h0 n0) e20 ?_
  exact ⟨rfl, N20, K23, f24, f25, f26⟩

theorem own_eflm (m : MethodId) (x0 : Addr) : entryFrame m #[(.ref x0)] 1 = mkF m 0 #[.val (.ref x0)] [] := by first | (simp [entryFrame, mkF, argsToLocals, Value.category]; done) | rfl
set_option maxRecDepth 65536 in
set_option maxHeartbeats 40000000 in
theorem rmlm (l : Launch) (Z : State) (a0 : Array Value) (G : OwnG Z a0) (ws : List Jvm.Cond) (x0 : Addr) (y1 : Addr) (t1 : Addr) (kb1 : ClassId) (N1 : Int32) (vs1 : List Value) (cd1 : Int32) (cs1 : List Int32) (y2 : Addr) (t2 : Addr) (kb2 : ClassId) (N2 : Int32) (vs2 : List Value) (cd2 : Int32) (cs2 : List Int32) (h0 : Heap) (n0 : Nat) (O0 : Old Z n0 h0) (P0 : Fld Z h0 x0 "com/example/collie/collie/engine/MinedPair" "misspelling" "Ljava/lang/String;" (.ref y1)) (P1 : Fld Z h0 x0 "com/example/collie/collie/engine/MinedPair" "correction" "Ljava/lang/String;" (.ref y2)) (P2 : Exa Z h0 y1 "java/lang/String") (P3 : Fld Z h0 y1 "java/lang/String" "value" "[B" (.ref t1)) (P4 : Fld Z h0 y1 "java/lang/String" "coder" "B" (.int cd1)) (P5 : Arv Z h0 t1 kb1 .byte N1 vs1 (.int (0 : Int32))) (P6 : StrChars.Road.CodA cs1 cd1 N1 vs1) (P7 : ∀ c ∈ (cs1 : List Int32), ¬ c < (0 : Int32) ∧ ¬ (65535 : Int32) < c) (P8 : own_13 cs1) (P9 : Exa Z h0 y2 "java/lang/String") (P10 : Fld Z h0 y2 "java/lang/String" "value" "[B" (.ref t2)) (P11 : Fld Z h0 y2 "java/lang/String" "coder" "B" (.int cd2)) (P12 : Arv Z h0 t2 kb2 .byte N2 vs2 (.int (0 : Int32))) (P13 : StrChars.Road.CodA cs2 cd2 N2 vs2) (P14 : ∀ c ∈ (cs2 : List Int32), ¬ c < (0 : Int32) ∧ ¬ (65535 : Int32) < c) (P15 : own_13 cs2) :
    MetFree l own_m31 (head1 (Jvm.Cond.code own_m31 prog_29_method_5_code 1 (some .boolean) :: ws) ({ frames := 4, cells := 0, slots := 0, locals := 57 } : Room)) (fun a U => a = #[(.ref x0)] ∧ Z.Warmed39 U.vm ∧ U.heap = h0) (fun _ _ _ _ _ => True) (fun _ U o U' => ∃ v L, o = .returned v ∧ (own_Qint (if own_cpl cs1 = own_cpl cs2 then 1 else 0)) h0 n0 v U'.heap L ∧ FrameEnd U o U' L ({ frames := 4, cells := 0, slots := 0, locals := 57 } : Room).cells ({ frames := 4, cells := 0, slots := 0, locals := 57 } : Room).slots) := by
  refine MetFree.of_bodySF (plainFor_of_name pn_7) hisR ?_
  intro p e s m args below meth cD s₁ Bd hml0 hP hK
  obtain ⟨rfl, hZ, hh⟩ := hP
  have hw := G.1
  have hx := Bd.exec
  have hby := Bd.bytes
  have hml : cD.maxLocals = 1 := hml0
  have hown : s.vm.findClass "com/example/collie/collie/engine/MinedPair" = some m.cls := findClass_of_methodNamed Bd.named
  have hnm := (name_of_methodNamed Bd.named Bd.method).1
  have hlk := Bd.notSynchronized
  have X0 : Stand p l e ({ frames := 4, cells := 0, slots := 0, locals := 57 } : Room) s m #[(.ref x0)] below meth cD s₁ [] 0 0 := Stand.of_body Bd
  have e0 : s₁.heap = h0 := by rw [← hh, Bd.state]; rfl
  have lt0 := own_ltN' P0.lt
  have lt1 := own_ltN' P1.lt
  have lt2 := own_ltN' P2.lt
  have lt3 := own_ltN' P3.lt
  have lt4 := own_ltN' P4.lt
  have lt5 := own_ltN' P5.lt
  have lt9 := own_ltN' P9.lt
  have lt10 := own_ltN' P10.lt
  have lt11 := own_ltN' P11.lt
  have lt12 := own_ltN' P12.lt
  have K0 : Keep h0 h0 [] := Keep.refl h0 _
  have Z0 := own_old_le O0
  have N0 := Fr.nil n0
  refine OwnEnd.start (g' := (mkF m 0 #[.val (.ref x0)] [])) (own_eflm m x0) ?_
  refine OwnEnd.of (S' := s₁.setTop (mkF m 1 #[.val (.ref x0)] [(.ref x0)])) (fun _ kK => XS.aloadN X0.here hx rfl (hb hby d31_0) rfl rfl kK) ?_
  obtain ⟨T1, X1, e1, st1⟩ := getF X0 hx hZ hown (host := "") (Or.inl (own_w G 52 rfl)) Via.refl e0 P0 (g := (mkF m 1 #[.val (.ref x0)] [(.ref x0)])) rfl rfl (hb hby d31_1)
  refine OwnEnd.of (S' := T1.setTop (mkF m 4 #[.val (.ref x0)] [(.ref y1)])) st1 ?_
  refine OwnEnd.of (S' := T1.setTop (mkF m 5 #[.val (.ref x0)] [(.ref x0), (.ref y1)])) (fun _ kK => XS.aloadN X1.here hx rfl (hb hby d31_4) rfl rfl kK) ?_
  obtain ⟨T2, X2, e2, st2⟩ := getF X1 hx hZ hown (host := "") (Or.inl (own_w G 52 rfl)) Via.refl e1 P0 (g := (mkF m 5 #[.val (.ref x0)] [(.ref x0), (.ref y1)])) rfl rfl (hb hby d31_5)
  refine OwnEnd.of (S' := T2.setTop (mkF m 8 #[.val (.ref x0)] [(.ref y1), (.ref y1)])) st2 ?_
  obtain ⟨cq3, kq3, q3a, q3b, q3c⟩ := isOf hZ e2 P2
  obtain ⟨_, _, ⟨T3, L3, k3, n3⟩, -, X3, ⟨Lc3, hQ3, l3, y3, z3⟩, st3⟩ := X2.virtualBack hx (y := own_m4) (z := own_m4) hown (mvT hZ (own_w G 105 rfl)) (mvT hZ (own_w G 68 rfl)) (notFace_of_selects (args := #[]) (mvT hZ (own_w G 70 rfl))) (mvT hZ (own_w G 70 rfl)) (mvT hZ (own_w G 69 rfl)) (by decide) (backOf (W := 1) (rmlnB l Z a0 G [] y1 t1 kb1 N1 vs1 (.int (0 : Int32)) cd1 cs1  h0 n0 O0 P2 P3 P4 P5 P6 P7 (own_13_le P8)) hZ (own_w G 71 rfl) (own_w G 12 rfl) (by decide) (by decide)) q3a q3c (g := (mkF m 8 #[.val (.ref x0)] [(.ref y1), (.ref y1)])) rfl (by rw [hml]; rfl) (Steps.refl _) (argsL := []) (rest := [(.ref y1)]) (lenOf pd_16 rfl) rfl (by show 2 * 0 + _ ≤ _; exact Nat.le_of_eq rfl) (hb hby d31_8) (fun _ _ => ⟨rfl, e2, (by decide : 0 + 0 ≤ _), (by decide : 0 + 0 ≤ _)⟩)
  dsimp only [Pt.U, Pt.locs, Pt.cells, Pt.slots] at X3 l3 y3 z3 st3 hQ3
  subst l3 y3 z3
  obtain ⟨rfl, N3q, eh3⟩ := hQ3
  have N3 := Fr.app N0 N3q
  refine OwnEnd.tr (S' := T3.setTop (mkF m 11 #[.val (.ref x0)] [(.int (Int32.ofNat cs1.length)), (.ref y1)])) st3 ?_
  obtain ⟨cq4, kq4, q4a, q4b, q4c⟩ := isOf hZ eh3 P2
  obtain ⟨_, _, ⟨T4, L4, k4, n4⟩, -, X4, ⟨Lc4, hQ4, l4, y4, z4⟩, st4⟩ := X3.virtualBack hx (y := own_m28) (z := own_m28) hown (mvT hZ (own_w G 106 rfl)) (mvT hZ (own_w G 107 rfl)) (notFace_of_selects (args := #[]) (mvT hZ (own_w G 109 rfl))) (mvT hZ (own_w G 109 rfl)) (mvT hZ (own_w G 108 rfl)) (by decide) (backOf (W := 0) (rmcp l Z a0 G [] y1 t1 kb1 N1 vs1 cd1 cs1 (Int32.ofNat cs1.length) h0 n0 O0 P2 P3 P4 P5 P6 P7 P8 (rfl : (Int32.ofNat cs1.length) = Int32.ofNat cs1.length)) hZ (own_w G 110 rfl) (own_w G 12 rfl) (by decide) (by decide)) q4a q4c (g := (mkF m 11 #[.val (.ref x0)] [(.int (Int32.ofNat cs1.length)), (.ref y1)])) rfl (by rw [hml]; rfl) (Steps.refl _) (argsL := [(.int (Int32.ofNat cs1.length))]) (rest := []) (lenOf pd_7 rfl) rfl (by show 2 * 0 + _ ≤ _; exact Nat.le_of_eq rfl) (hb hby d31_11) (fun _ _ => ⟨rfl, eh3, (by decide : 0 + 0 ≤ _), (by decide : 0 + 0 ≤ _)⟩)
  dsimp only [Pt.U, Pt.locs, Pt.cells, Pt.slots] at X4 l4 y4 z4 st4 hQ4
  subst l4 y4 z4
  obtain ⟨rfl, N4q, eh4⟩ := hQ4
  have N4 := Fr.app N3 N4q
  refine OwnEnd.tr (S' := T4.setTop (mkF m 14 #[.val (.ref x0)] [(.int (own_cpl cs1))])) st4 ?_
  refine OwnEnd.of (S' := T4.setTop (mkF m 15 #[.val (.ref x0)] [(.ref x0), (.int (own_cpl cs1))])) (fun _ kK => XS.aloadN X4.here hx rfl (hb hby d31_14) rfl rfl kK) ?_
  obtain ⟨T5, X5, e5, st5⟩ := getF X4 hx hZ hown (host := "") (Or.inl (own_w G 54 rfl)) Via.refl eh4 P1 (g := (mkF m 15 #[.val (.ref x0)] [(.ref x0), (.int (own_cpl cs1))])) rfl rfl (hb hby d31_15)
  refine OwnEnd.of (S' := T5.setTop (mkF m 18 #[.val (.ref x0)] [(.ref y2), (.int (own_cpl cs1))])) st5 ?_
  refine OwnEnd.of (S' := T5.setTop (mkF m 19 #[.val (.ref x0)] [(.ref x0), (.ref y2), (.int (own_cpl cs1))])) (fun _ kK => XS.aloadN X5.here hx rfl (hb hby d31_18) rfl rfl kK) ?_
  obtain ⟨T6, X6, e6, st6⟩ := getF X5 hx hZ hown (host := "") (Or.inl (own_w G 54 rfl)) Via.refl e5 P1 (g := (mkF m 19 #[.val (.ref x0)] [(.ref x0), (.ref y2), (.int (own_cpl cs1))])) rfl rfl (hb hby d31_19)
  refine OwnEnd.of (S' := T6.setTop (mkF m 22 #[.val (.ref x0)] [(.ref y2), (.ref y2), (.int (own_cpl cs1))])) st6 ?_
  obtain ⟨cq7, kq7, q7a, q7b, q7c⟩ := isOf hZ e6 P9
  obtain ⟨_, _, ⟨T7, L7, k7, n7⟩, -, X7, ⟨Lc7, hQ7, l7, y7, z7⟩, st7⟩ := X6.virtualBack hx (y := own_m4) (z := own_m4) hown (mvT hZ (own_w G 105 rfl)) (mvT hZ (own_w G 68 rfl)) (notFace_of_selects (args := #[]) (mvT hZ (own_w G 70 rfl))) (mvT hZ (own_w G 70 rfl)) (mvT hZ (own_w G 69 rfl)) (by decide) (backOf (W := 2) (rmlnB l Z a0 G [] y2 t2 kb2 N2 vs2 (.int (0 : Int32)) cd2 cs2  h0 n0 O0 P9 P10 P11 P12 P13 P14 (own_13_le P15)) hZ (own_w G 71 rfl) (own_w G 12 rfl) (by decide) (by decide)) q7a q7c (g := (mkF m 22 #[.val (.ref x0)] [(.ref y2), (.ref y2), (.int (own_cpl cs1))])) rfl (by rw [hml]; rfl) (Steps.refl _) (argsL := []) (rest := [(.ref y2), (.int (own_cpl cs1))]) (lenOf pd_16 rfl) rfl (by show 2 * 0 + _ ≤ _; exact Nat.le_of_eq rfl) (hb hby d31_22) (fun _ _ => ⟨rfl, e6, (by decide : 0 + 0 ≤ _), (by decide : 0 + 0 ≤ _)⟩)
  dsimp only [Pt.U, Pt.locs, Pt.cells, Pt.slots] at X7 l7 y7 z7 st7 hQ7
  subst l7 y7 z7
  obtain ⟨rfl, N7q, eh7⟩ := hQ7
  have N7 := Fr.app N4 N7q
  refine OwnEnd.tr (S' := T7.setTop (mkF m 25 #[.val (.ref x0)] [(.int (Int32.ofNat cs2.length)), (.ref y2), (.int (own_cpl cs1))])) st7 ?_
  obtain ⟨cq8, kq8, q8a, q8b, q8c⟩ := isOf hZ eh7 P9
  obtain ⟨_, _, ⟨T8, L8, k8, n8⟩, -, X8, ⟨Lc8, hQ8, l8, y8, z8⟩, st8⟩ := X7.virtualBack hx (y := own_m28) (z := own_m28) hown (mvT hZ (own_w G 106 rfl)) (mvT hZ (own_w G 107 rfl)) (notFace_of_selects (args := #[]) (mvT hZ (own_w G 109 rfl))) (mvT hZ (own_w G 109 rfl)) (mvT hZ (own_w G 108 rfl)) (by decide) (backOf (W := 1) (rmcp l Z a0 G [] y2 t2 kb2 N2 vs2 cd2 cs2 (Int32.ofNat cs2.length) h0 n0 O0 P9 P10 P11 P12 P13 P14 P15 (rfl : (Int32.ofNat cs2.length) = Int32.ofNat cs2.length)) hZ (own_w G 110 rfl) (own_w G 12 rfl) (by decide) (by decide)) q8a q8c (g := (mkF m 25 #[.val (.ref x0)] [(.int (Int32.ofNat cs2.length)), (.ref y2), (.int (own_cpl cs1))])) rfl (by rw [hml]; rfl) (Steps.refl _) (argsL := [(.int (Int32.ofNat cs2.length))]) (rest := [(.int (own_cpl cs1))]) (lenOf pd_7 rfl) rfl (by show 2 * 0 + _ ≤ _; exact Nat.le_of_eq rfl) (hb hby d31_25) (fun _ _ => ⟨rfl, eh7, (by decide : 0 + 0 ≤ _), (by decide : 0 + 0 ≤ _)⟩)
  dsimp only [Pt.U, Pt.locs, Pt.cells, Pt.slots] at X8 l8 y8 z8 st8 hQ8
  subst l8 y8 z8
  obtain ⟨rfl, N8q, eh8⟩ := hQ8
  have N8 := Fr.app N7 N8q
  refine OwnEnd.tr (S' := T8.setTop (mkF m 28 #[.val (.ref x0)] [(.int (own_cpl cs2)), (.int (own_cpl cs1))])) st8 ?_
  rcases Decidable.em ((own_cpl cs1) = (own_cpl cs2)) with hc9 | hc9
  · refine OwnEnd.of (S' := T8.setTop (mkF m 36 #[.val (.ref x0)] [(.int (1 : Int32))])) (fun _ kK => XS.icmpNo X8.here hx rfl (hb hby d31_28) rfl (teq (hc9)).2 (XS.iconst X8.here hx rfl (hb hby d31_31) (XS.goto X8.here hx rfl (pc0 := 32) (pc' := 36) rfl (hb hby d31_32) (by decide) (by decide) kK))) ?_
    refine OwnEnd.ret X8 (v := (some (.int (nar .boolean (1 : Int32))))) (fun h => by rw [Bd.returns] at h; cases h) hlk (fun fs hr => retN X8 hx (t := .boolean) Bd.returns (by simp) (hb hby d31_36) hr) (by decide) (by decide) (Q := (own_Qint (if own_cpl cs1 = own_cpl cs2 then 1 else 0)) h0 n0) eh8 ?_
    exact ⟨(by show some (Value.int (nar .boolean (1 : Int32))) = _; simp [nar, hc9]), N8, rfl⟩
  · refine OwnEnd.of (S' := T8.setTop (mkF m 36 #[.val (.ref x0)] [(.int (0 : Int32))])) (fun _ kK => XS.icmpYes X8.here hx rfl (pc0 := 28) (pc' := 35) rfl (hb hby d31_28) rfl (feq (hc9)).2 (by decide) (by decide) (XS.iconst X8.here hx rfl (hb hby d31_35) kK)) ?_
    refine OwnEnd.ret X8 (v := (some (.int (nar .boolean (0 : Int32))))) (fun h => by rw [Bd.returns] at h; cases h) hlk (fun fs hr => retN X8 hx (t := .boolean) Bd.returns (by simp) (hb hby d31_36) hr) (by decide) (by decide) (Q := (own_Qint (if own_cpl cs1 = own_cpl cs2 then 1 else 0)) h0 n0) eh8 ?_
    exact ⟨(by show some (Value.int (nar .boolean (0 : Int32))) = _; simp [nar, hc9]), N8, rfl⟩

theorem own_eflaw (m : MethodId) (p0 : Int32) (p1 : Int32) (p2 : Int32) (j3 : Int64) (j4 : Int64) (p5 : Int32) : entryFrame m #[(.int p0), (.int p1), (.int p2), (.long j3), (.long j4), (.int p5)] maxLocals = mkF m 0 #[.val (.int p0), .val (.int p1), .val (.int p2), .val (.long j3), .second, .val (.long j4), .second, .val (.int p5), .unset, .unset, .unset, .unset, .unset, .unset, .unset, .unset] [] := by first | (simp [entryFrame, mkF, argsToLocals, Value.category, maxLocals]; done) | rfl
def Qlaw (Z : State) (p0 : Int32) (p1 : Int32) (p2 : Int32) (j3 : Int64) (j4 : Int64) (p5 : Int32) (h0 : Heap) (n0 : Nat) (v : Option Value) (h : Heap) (L : List Loc) : Prop := v = some (.int (1 : Int32)) ∧ Fr n0 L ∧ Keep h0 h []
set_option maxRecDepth 65536 in
set_option maxHeartbeats 40000000 in
theorem rmlaw (l : Launch) (Z : State) (a0 : Array Value) (G : OwnG Z a0) (ws : List Jvm.Cond) (p0 : Int32) (p1 : Int32) (p2 : Int32) (j3 : Int64) (j4 : Int64) (p5 : Int32) (h0 : Heap) (n0 : Nat) (O0 : Old Z n0 h0)  :
    MetFree l x (head1 (Jvm.Cond.code x code maxLocals ret :: ws) room_1) (fun a U => a = #[(.int p0), (.int p1), (.int p2), (.long j3), (.long j4), (.int p5)] ∧ Z.Warmed39 U.vm ∧ U.heap = h0) (fun _ _ _ _ _ => True) (fun _ U o U' => ∃ v L, o = .returned v ∧ Qlaw Z p0 p1 p2 j3 j4 p5 h0 n0 v U'.heap L ∧ FrameEnd U o U' L room_1.cells room_1.slots) := by
  refine MetFree.of_bodySF (plainFor_of_name pn_4) hisR ?_
  intro p e s m args below meth cD s₁ Bd hml0 hP hK
  obtain ⟨rfl, hZ, hh⟩ := hP
  have hw := G.1
  have hx := Bd.exec
  have hby := Bd.bytes
  have hml : cD.maxLocals = 16 := hml0
  have hown : s.vm.findClass "com/example/collie/collie/engine/MinedPairLastCharacterMatchPinLaw" = some m.cls := findClass_of_methodNamed Bd.named
  have hnm := (name_of_methodNamed Bd.named Bd.method).1
  have hlk := Bd.notSynchronized
  have X0 : Stand p l e room_1 s m #[(.int p0), (.int p1), (.int p2), (.long j3), (.long j4), (.int p5)] below meth cD s₁ [] 0 0 := Stand.of_body Bd
  have e0 : s₁.heap = h0 := by rw [← hh, Bd.state]; rfl
  have K0 : Keep h0 h0 [] := Keep.refl h0 _
  have Z0 := own_old_le O0
  have N0 := Fr.nil n0
  obtain ⟨aC0, aC1, aC2, aC3, SC0, SC1, SC2, SC3⟩ := own_ct G
  refine OwnEnd.start (g' := (mkF m 0 #[.val (.int p0), .val (.int p1), .val (.int p2), .val (.long j3), .second, .val (.long j4), .second, .val (.int p5), .unset, .unset, .unset, .unset, .unset, .unset, .unset, .unset] [])) (own_eflaw m p0 p1 p2 j3 j4 p5) ?_
  refine OwnEnd.of (S' := s₁.setTop (mkF m 11 #[.val (.int p0), .val (.int p1), .val (.int p2), .val (.long j3), .second, .val (.long j4), .second, .val (.int p5), .val (.int ((1 : Int32) + ((p2 &&& (3 : Int32)) % (3 : Int32)))), .unset, .unset, .unset, .unset, .unset, .unset, .unset] [(.int p2), (.int (1 : Int32))])) (fun _ kK => XS.iconst X0.here hx rfl (hb hby at_0) (XS.iloadN X0.here hx rfl (hb hby at_1) rfl (XS.iconst X0.here hx rfl (hb hby at_2) (XS.iand X0.here hx rfl (hb hby at_3) rfl (XS.iconst X0.here hx rfl (hb hby at_4) (iremM X0 hx rfl (hb hby at_5) rfl (by decide) (XS.iadd X0.here hx rfl (hb hby at_6) rfl (XS.istore X0.here hx rfl (hb hby at_7) rfl (l' := #[.val (.int p0), .val (.int p1), .val (.int p2), .val (.long j3), .second, .val (.long j4), .second, .val (.int p5), .val (.int ((1 : Int32) + ((p2 &&& (3 : Int32)) % (3 : Int32)))), .unset, .unset, .unset, .unset, .unset, .unset, .unset]) rfl (XS.iconst X0.here hx rfl (hb hby at_9) (XS.iloadN X0.here hx rfl (hb hby at_10) rfl kK)))))))))) ?_
  refine OwnEnd.of (S' := s₁.setTop (mkF m 22 #[.val (.int p0), .val (.int p1), .val (.int p2), .val (.long j3), .second, .val (.long j4), .second, .val (.int p5), .val (.int ((1 : Int32) + ((p2 &&& (3 : Int32)) % (3 : Int32)))), .val (.int ((1 : Int32) + ((((p2).toUInt32 >>> ((2 : Int32) &&& 31).toUInt32).toInt32 &&& (3 : Int32)) % (3 : Int32)))), .unset, .unset, .unset, .unset, .unset, .unset] [(.int (4 : Int32)), (.int p2)])) (fun _ kK => XS.iconst X0.here hx rfl (hb hby at_11) (XS.iushr X0.here hx rfl (hb hby at_12) rfl (XS.iconst X0.here hx rfl (hb hby at_13) (XS.iand X0.here hx rfl (hb hby at_14) rfl (XS.iconst X0.here hx rfl (hb hby at_15) (iremM X0 hx rfl (hb hby at_16) rfl (by decide) (XS.iadd X0.here hx rfl (hb hby at_17) rfl (XS.istore X0.here hx rfl (hb hby at_18) rfl (l' := #[.val (.int p0), .val (.int p1), .val (.int p2), .val (.long j3), .second, .val (.long j4), .second, .val (.int p5), .val (.int ((1 : Int32) + ((p2 &&& (3 : Int32)) % (3 : Int32)))), .val (.int ((1 : Int32) + ((((p2).toUInt32 >>> ((2 : Int32) &&& 31).toUInt32).toInt32 &&& (3 : Int32)) % (3 : Int32)))), .unset, .unset, .unset, .unset, .unset, .unset]) rfl (XS.iloadN X0.here hx rfl (hb hby at_20) rfl (XS.iconst X0.here hx rfl (hb hby at_21) kK)))))))))) ?_
  refine OwnEnd.of (S' := s₁.setTop (mkF m 29 #[.val (.int p0), .val (.int p1), .val (.int p2), .val (.long j3), .second, .val (.long j4), .second, .val (.int p5), .val (.int ((1 : Int32) + ((p2 &&& (3 : Int32)) % (3 : Int32)))), .val (.int ((1 : Int32) + ((((p2).toUInt32 >>> ((2 : Int32) &&& 31).toUInt32).toInt32 &&& (3 : Int32)) % (3 : Int32)))), .val (.int (((p2).toUInt32 >>> ((4 : Int32) &&& 31).toUInt32).toInt32 &&& (3 : Int32))), .unset, .unset, .unset, .unset, .unset] [(.int (((p2).toUInt32 >>> ((4 : Int32) &&& 31).toUInt32).toInt32 &&& (3 : Int32)))])) (fun _ kK => XS.iushr X0.here hx rfl (hb hby at_22) rfl (XS.iconst X0.here hx rfl (hb hby at_23) (XS.iand X0.here hx rfl (hb hby at_24) rfl (XS.istore X0.here hx rfl (hb hby at_25) rfl (l' := #[.val (.int p0), .val (.int p1), .val (.int p2), .val (.long j3), .second, .val (.long j4), .second, .val (.int p5), .val (.int ((1 : Int32) + ((p2 &&& (3 : Int32)) % (3 : Int32)))), .val (.int ((1 : Int32) + ((((p2).toUInt32 >>> ((2 : Int32) &&& 31).toUInt32).toInt32 &&& (3 : Int32)) % (3 : Int32)))), .val (.int (((p2).toUInt32 >>> ((4 : Int32) &&& 31).toUInt32).toInt32 &&& (3 : Int32))), .unset, .unset, .unset, .unset, .unset]) rfl (XS.iload X0.here hx rfl (hb hby at_27) rfl kK))))) ?_
  rcases Decidable.em ((((p2).toUInt32 >>> ((4 : Int32) &&& 31).toUInt32).toInt32 &&& (3 : Int32)) = (0 : Int32)) with hc1 | hc1
  · refine OwnEnd.of (S' := s₁.setTop (mkF m 32 #[.val (.int p0), .val (.int p1), .val (.int p2), .val (.long j3), .second, .val (.long j4), .second, .val (.int p5), .val (.int ((1 : Int32) + ((p2 &&& (3 : Int32)) % (3 : Int32)))), .val (.int ((1 : Int32) + ((((p2).toUInt32 >>> ((2 : Int32) &&& 31).toUInt32).toInt32 &&& (3 : Int32)) % (3 : Int32)))), .val (.int (((p2).toUInt32 >>> ((4 : Int32) &&& 31).toUInt32).toInt32 &&& (3 : Int32))), .unset, .unset, .unset, .unset, .unset] [])) (fun _ kK => XS.ifNo X0.here hx rfl (hb hby at_29) rfl ((if0 _ _).trans (teq (hc1)).2) kK) ?_
    obtain ⟨T2, X2, e2, st2⟩ := getS2 X0 hx hZ hown (host := "") (Or.inl (own_w G 0 rfl)) Via.refl e0 (SC0.ext O0.2) (g := (mkF m 32 #[.val (.int p0), .val (.int p1), .val (.int p2), .val (.long j3), .second, .val (.long j4), .second, .val (.int p5), .val (.int ((1 : Int32) + ((p2 &&& (3 : Int32)) % (3 : Int32)))), .val (.int ((1 : Int32) + ((((p2).toUInt32 >>> ((2 : Int32) &&& 31).toUInt32).toInt32 &&& (3 : Int32)) % (3 : Int32)))), .val (.int (((p2).toUInt32 >>> ((4 : Int32) &&& 31).toUInt32).toInt32 &&& (3 : Int32))), .unset, .unset, .unset, .unset, .unset] [])) rfl (hb hby at_32)
    refine OwnEnd.of (S' := T2.setTop (mkF m 35 #[.val (.int p0), .val (.int p1), .val (.int p2), .val (.long j3), .second, .val (.long j4), .second, .val (.int p5), .val (.int ((1 : Int32) + ((p2 &&& (3 : Int32)) % (3 : Int32)))), .val (.int ((1 : Int32) + ((((p2).toUInt32 >>> ((2 : Int32) &&& 31).toUInt32).toInt32 &&& (3 : Int32)) % (3 : Int32)))), .val (.int (((p2).toUInt32 >>> ((4 : Int32) &&& 31).toUInt32).toInt32 &&& (3 : Int32))), .unset, .unset, .unset, .unset, .unset] [(.ref aC0)])) st2 ?_
    refine OwnEnd.of (S' := T2.setTop (mkF m 76 #[.val (.int p0), .val (.int p1), .val (.int p2), .val (.long j3), .second, .val (.long j4), .second, .val (.int p5), .val (.int ((1 : Int32) + ((p2 &&& (3 : Int32)) % (3 : Int32)))), .val (.int ((1 : Int32) + ((((p2).toUInt32 >>> ((2 : Int32) &&& 31).toUInt32).toInt32 &&& (3 : Int32)) % (3 : Int32)))), .val (.int (((p2).toUInt32 >>> ((4 : Int32) &&& 31).toUInt32).toInt32 &&& (3 : Int32))), .val (.ref aC0), .unset, .unset, .unset, .unset] [(.int ((1 : Int32) + ((p2 &&& (3 : Int32)) % (3 : Int32)))), (.int p0)])) (fun _ kK => XS.astore X2.here hx rfl (hb hby at_35) rfl rfl (l' := #[.val (.int p0), .val (.int p1), .val (.int p2), .val (.long j3), .second, .val (.long j4), .second, .val (.int p5), .val (.int ((1 : Int32) + ((p2 &&& (3 : Int32)) % (3 : Int32)))), .val (.int ((1 : Int32) + ((((p2).toUInt32 >>> ((2 : Int32) &&& 31).toUInt32).toInt32 &&& (3 : Int32)) % (3 : Int32)))), .val (.int (((p2).toUInt32 >>> ((4 : Int32) &&& 31).toUInt32).toInt32 &&& (3 : Int32))), .val (.ref aC0), .unset, .unset, .unset, .unset]) rfl (XS.goto X2.here hx rfl (pc0 := 37) (pc' := 73) rfl (hb hby at_37) (by decide) (by decide) (XS.iloadN X2.here hx rfl (hb hby at_73) rfl (XS.iload X2.here hx rfl (hb hby at_74) rfl kK)))) ?_
    obtain ⟨_, _, ⟨T3, L3, k3, n3⟩, -, X3, ⟨Lc3, hQ3, l3, y3, z3⟩, st3⟩ := Jvm.LawKit.callS X2 hx (y := own_m21) hown (mvT hZ (own_w G 3 rfl)) (mvT hZ (own_w G 4 rfl)) (mvT hZ (own_w G 5 rfl)) (mvT hZ (own_w G 6 rfl)) (by decide) (backOf (W := 0) (rmmk l Z a0 G [] p0 ((1 : Int32) + ((p2 &&& (3 : Int32)) % (3 : Int32))) h0 n0 O0 ) hZ (own_w G 6 rfl) (own_w G 5 rfl) (by decide) (by decide)) (g := (mkF m 76 #[.val (.int p0), .val (.int p1), .val (.int p2), .val (.long j3), .second, .val (.long j4), .second, .val (.int p5), .val (.int ((1 : Int32) + ((p2 &&& (3 : Int32)) % (3 : Int32)))), .val (.int ((1 : Int32) + ((((p2).toUInt32 >>> ((2 : Int32) &&& 31).toUInt32).toInt32 &&& (3 : Int32)) % (3 : Int32)))), .val (.int (((p2).toUInt32 >>> ((4 : Int32) &&& 31).toUInt32).toInt32 &&& (3 : Int32))), .val (.ref aC0), .unset, .unset, .unset, .unset] [(.int ((1 : Int32) + ((p2 &&& (3 : Int32)) % (3 : Int32)))), (.int p0)])) rfl (by rw [hml]; rfl) (argsL := [(.int p0), (.int ((1 : Int32) + ((p2 &&& (3 : Int32)) % (3 : Int32))))]) (rest := []) (lenOf pd_23 rfl) rfl (by show 2 * 0 + _ ≤ _; exact Nat.le_of_eq rfl) (hb hby at_76) (fun _ _ => ⟨rfl, e2, (by decide : 0 + 4 ≤ _), (by decide : 0 + 16 ≤ _)⟩)
    dsimp only [Pt.U, Pt.locs, Pt.cells, Pt.slots] at X3 l3 y3 z3 st3 hQ3
    subst l3 y3 z3
    obtain ⟨x_3, t_3, kb_3, N_3, vs_3, cd_3, cs_3, rfl, N3q, Kq3, r3_0, r3_1, r3_2, r3_3, r3_4, r3_5, r3_6, r3_7, r3_8⟩ := hQ3
    have N3 := Fr.app N0 N3q
    have sz4 := Kq3.1
    have K4 := K0.trans Kq3 (own_all0 )
    have O4 := O0.keep Kq3 (own_all0 )
    have ltr3_0 := own_ltN' r3_0.lt
    have ltr3_1 := own_ltN' r3_1.lt
    have ltr3_2 := own_ltN' r3_2.lt
    have ltr3_3 := own_ltN' r3_3.lt
    refine OwnEnd.of (S' := T3.setTop (mkF m 79 #[.val (.int p0), .val (.int p1), .val (.int p2), .val (.long j3), .second, .val (.long j4), .second, .val (.int p5), .val (.int ((1 : Int32) + ((p2 &&& (3 : Int32)) % (3 : Int32)))), .val (.int ((1 : Int32) + ((((p2).toUInt32 >>> ((2 : Int32) &&& 31).toUInt32).toInt32 &&& (3 : Int32)) % (3 : Int32)))), .val (.int (((p2).toUInt32 >>> ((4 : Int32) &&& 31).toUInt32).toInt32 &&& (3 : Int32))), .val (.ref aC0), .unset, .unset, .unset, .unset] [(.ref x_3)])) st3 ?_
    refine OwnEnd.of (S' := T3.setTop (mkF m 84 #[.val (.int p0), .val (.int p1), .val (.int p2), .val (.long j3), .second, .val (.long j4), .second, .val (.int p5), .val (.int ((1 : Int32) + ((p2 &&& (3 : Int32)) % (3 : Int32)))), .val (.int ((1 : Int32) + ((((p2).toUInt32 >>> ((2 : Int32) &&& 31).toUInt32).toInt32 &&& (3 : Int32)) % (3 : Int32)))), .val (.int (((p2).toUInt32 >>> ((4 : Int32) &&& 31).toUInt32).toInt32 &&& (3 : Int32))), .val (.ref aC0), .val (.ref x_3), .unset, .unset, .unset] [(.int ((1 : Int32) + ((((p2).toUInt32 >>> ((2 : Int32) &&& 31).toUInt32).toInt32 &&& (3 : Int32)) % (3 : Int32)))), (.int p1)])) (fun _ kK => XS.astore X3.here hx rfl (hb hby at_79) rfl rfl (l' := #[.val (.int p0), .val (.int p1), .val (.int p2), .val (.long j3), .second, .val (.long j4), .second, .val (.int p5), .val (.int ((1 : Int32) + ((p2 &&& (3 : Int32)) % (3 : Int32)))), .val (.int ((1 : Int32) + ((((p2).toUInt32 >>> ((2 : Int32) &&& 31).toUInt32).toInt32 &&& (3 : Int32)) % (3 : Int32)))), .val (.int (((p2).toUInt32 >>> ((4 : Int32) &&& 31).toUInt32).toInt32 &&& (3 : Int32))), .val (.ref aC0), .val (.ref x_3), .unset, .unset, .unset]) rfl (XS.iloadN X3.here hx rfl (hb hby at_81) rfl (XS.iload X3.here hx rfl (hb hby at_82) rfl kK))) ?_
    obtain ⟨_, _, ⟨T5, L5, k5, n5⟩, -, X5, ⟨Lc5, hQ5, l5, y5, z5⟩, st5⟩ := Jvm.LawKit.callS X3 hx (y := own_m21) hown (mvT hZ (own_w G 3 rfl)) (mvT hZ (own_w G 4 rfl)) (mvT hZ (own_w G 5 rfl)) (mvT hZ (own_w G 6 rfl)) (by decide) (backOf (W := 0) (rmmk l Z a0 G [] p1 ((1 : Int32) + ((((p2).toUInt32 >>> ((2 : Int32) &&& 31).toUInt32).toInt32 &&& (3 : Int32)) % (3 : Int32))) T3.heap n0 O4 ) hZ (own_w G 6 rfl) (own_w G 5 rfl) (by decide) (by decide)) (g := (mkF m 84 #[.val (.int p0), .val (.int p1), .val (.int p2), .val (.long j3), .second, .val (.long j4), .second, .val (.int p5), .val (.int ((1 : Int32) + ((p2 &&& (3 : Int32)) % (3 : Int32)))), .val (.int ((1 : Int32) + ((((p2).toUInt32 >>> ((2 : Int32) &&& 31).toUInt32).toInt32 &&& (3 : Int32)) % (3 : Int32)))), .val (.int (((p2).toUInt32 >>> ((4 : Int32) &&& 31).toUInt32).toInt32 &&& (3 : Int32))), .val (.ref aC0), .val (.ref x_3), .unset, .unset, .unset] [(.int ((1 : Int32) + ((((p2).toUInt32 >>> ((2 : Int32) &&& 31).toUInt32).toInt32 &&& (3 : Int32)) % (3 : Int32)))), (.int p1)])) rfl (by rw [hml]; rfl) (argsL := [(.int p1), (.int ((1 : Int32) + ((((p2).toUInt32 >>> ((2 : Int32) &&& 31).toUInt32).toInt32 &&& (3 : Int32)) % (3 : Int32))))]) (rest := []) (lenOf pd_23 rfl) rfl (by show 2 * 0 + _ ≤ _; exact Nat.le_of_eq rfl) (hb hby at_84) (fun _ _ => ⟨rfl, rfl, (by decide : 4 + 4 ≤ _), (by decide : 16 + 16 ≤ _)⟩)
    dsimp only [Pt.U, Pt.locs, Pt.cells, Pt.slots] at X5 l5 y5 z5 st5 hQ5
    subst l5 y5 z5
    obtain ⟨x_5, t_5, kb_5, N_5, vs_5, cd_5, cs_5, rfl, N5q, Kq5, r5_0, r5_1, r5_2, r5_3, r5_4, r5_5, r5_6, r5_7, r5_8⟩ := hQ5
    have N5 := Fr.app N3 N5q
    have sz6 := Kq5.1
    have K6 := K4.trans Kq5 (own_all0 )
    have O6 := O4.keep Kq5 (own_all0 )
    have ltr5_0 := own_ltN' r5_0.lt
    have ltr5_1 := own_ltN' r5_1.lt
    have ltr5_2 := own_ltN' r5_2.lt
    have ltr5_3 := own_ltN' r5_3.lt
    refine OwnEnd.of (S' := T5.setTop (mkF m 87 #[.val (.int p0), .val (.int p1), .val (.int p2), .val (.long j3), .second, .val (.long j4), .second, .val (.int p5), .val (.int ((1 : Int32) + ((p2 &&& (3 : Int32)) % (3 : Int32)))), .val (.int ((1 : Int32) + ((((p2).toUInt32 >>> ((2 : Int32) &&& 31).toUInt32).toInt32 &&& (3 : Int32)) % (3 : Int32)))), .val (.int (((p2).toUInt32 >>> ((4 : Int32) &&& 31).toUInt32).toInt32 &&& (3 : Int32))), .val (.ref aC0), .val (.ref x_3), .unset, .unset, .unset] [(.ref x_5)])) st5 ?_
    refine OwnEnd.of (S' := T5.setTop (mkF m 89 #[.val (.int p0), .val (.int p1), .val (.int p2), .val (.long j3), .second, .val (.long j4), .second, .val (.int p5), .val (.int ((1 : Int32) + ((p2 &&& (3 : Int32)) % (3 : Int32)))), .val (.int ((1 : Int32) + ((((p2).toUInt32 >>> ((2 : Int32) &&& 31).toUInt32).toInt32 &&& (3 : Int32)) % (3 : Int32)))), .val (.int (((p2).toUInt32 >>> ((4 : Int32) &&& 31).toUInt32).toInt32 &&& (3 : Int32))), .val (.ref aC0), .val (.ref x_3), .val (.ref x_5), .unset, .unset] [])) (fun _ kK => XS.astore X5.here hx rfl (hb hby at_87) rfl rfl (l' := #[.val (.int p0), .val (.int p1), .val (.int p2), .val (.long j3), .second, .val (.long j4), .second, .val (.int p5), .val (.int ((1 : Int32) + ((p2 &&& (3 : Int32)) % (3 : Int32)))), .val (.int ((1 : Int32) + ((((p2).toUInt32 >>> ((2 : Int32) &&& 31).toUInt32).toInt32 &&& (3 : Int32)) % (3 : Int32)))), .val (.int (((p2).toUInt32 >>> ((4 : Int32) &&& 31).toUInt32).toInt32 &&& (3 : Int32))), .val (.ref aC0), .val (.ref x_3), .val (.ref x_5), .unset, .unset]) rfl kK) ?_
    obtain ⟨T7, h7, X7, e7, E7, A7, D7, -, st7⟩ := newO X5 hx hZ hown (own_w G 40 rfl) (own_w G 41 rfl) (own_w G 42 rfl) rfl (g := (mkF m 89 #[.val (.int p0), .val (.int p1), .val (.int p2), .val (.long j3), .second, .val (.long j4), .second, .val (.int p5), .val (.int ((1 : Int32) + ((p2 &&& (3 : Int32)) % (3 : Int32)))), .val (.int ((1 : Int32) + ((((p2).toUInt32 >>> ((2 : Int32) &&& 31).toUInt32).toInt32 &&& (3 : Int32)) % (3 : Int32)))), .val (.int (((p2).toUInt32 >>> ((4 : Int32) &&& 31).toUInt32).toInt32 &&& (3 : Int32))), .val (.ref aC0), .val (.ref x_3), .val (.ref x_5), .unset, .unset] [])) rfl (hb hby at_89) (by decide) (by decide)
    obtain ⟨b7, g7⟩ : ∃ z, z = Array.size T5.heap := ⟨_, rfl⟩
    rw [← g7] at A7 D7 st7
    have lt_b7 := own_ltN' A7.lt
    have sz8 := E7.1
    have K8 := K6.ext E7
    have O8 := O6.ext E7
    have F7_misspelling : Fld Z h7 b7 "com/example/collie/collie/engine/MinedPair" "misspelling" "Ljava/lang/String;" .null := D7 (Or.inr (own_w G 53 rfl)) (ty := (.object "java/lang/String")) (by decide)
    have F7_correction : Fld Z h7 b7 "com/example/collie/collie/engine/MinedPair" "correction" "Ljava/lang/String;" .null := D7 (Or.inr (own_w G 55 rfl)) (ty := (.object "java/lang/String")) (by decide)
    have F7_misspellingCount : Fld Z h7 b7 "com/example/collie/collie/engine/MinedPair" "misspellingCount" "J" (.long (0 : Int64)) := D7 (Or.inr (own_w G 57 rfl)) (ty := .long) (by decide)
    have F7_correctionCount : Fld Z h7 b7 "com/example/collie/collie/engine/MinedPair" "correctionCount" "J" (.long (0 : Int64)) := D7 (Or.inr (own_w G 59 rfl)) (ty := .long) (by decide)
    have F7_type : Fld Z h7 b7 "com/example/collie/collie/engine/MinedPair" "type" "Lcom/example/collie/collie/engine/CorrectionType;" .null := D7 (Or.inr (own_w G 61 rfl)) (ty := (.object "com/example/collie/collie/engine/CorrectionType")) (by decide)
    have F7_distance : Fld Z h7 b7 "com/example/collie/collie/engine/MinedPair" "distance" "I" (.int (0 : Int32)) := D7 (Or.inr (own_w G 63 rfl)) (ty := .int) (by decide)
    refine OwnEnd.of (S' := T7.setTop (mkF m 92 #[.val (.int p0), .val (.int p1), .val (.int p2), .val (.long j3), .second, .val (.long j4), .second, .val (.int p5), .val (.int ((1 : Int32) + ((p2 &&& (3 : Int32)) % (3 : Int32)))), .val (.int ((1 : Int32) + ((((p2).toUInt32 >>> ((2 : Int32) &&& 31).toUInt32).toInt32 &&& (3 : Int32)) % (3 : Int32)))), .val (.int (((p2).toUInt32 >>> ((4 : Int32) &&& 31).toUInt32).toInt32 &&& (3 : Int32))), .val (.ref aC0), .val (.ref x_3), .val (.ref x_5), .unset, .unset] [(.ref b7)])) st7 ?_
    refine OwnEnd.of (S' := T7.setTop (mkF m 104 #[.val (.int p0), .val (.int p1), .val (.int p2), .val (.long j3), .second, .val (.long j4), .second, .val (.int p5), .val (.int ((1 : Int32) + ((p2 &&& (3 : Int32)) % (3 : Int32)))), .val (.int ((1 : Int32) + ((((p2).toUInt32 >>> ((2 : Int32) &&& 31).toUInt32).toInt32 &&& (3 : Int32)) % (3 : Int32)))), .val (.int (((p2).toUInt32 >>> ((4 : Int32) &&& 31).toUInt32).toInt32 &&& (3 : Int32))), .val (.ref aC0), .val (.ref x_3), .val (.ref x_5), .unset, .unset] [(.int p5), (.ref aC0), (.long j4), (.long j3), (.ref x_5), (.ref x_3), (.ref b7), (.ref b7)])) (fun _ kK => XS.dup X7.here hx rfl (hb hby at_92) rfl rfl (XS.aload X7.here hx rfl (hb hby at_93) rfl rfl (XS.aload X7.here hx rfl (hb hby at_95) rfl rfl (XS.lloadN X7.here hx rfl (hb hby at_97) rfl (XS.lload X7.here hx rfl (hb hby at_98) rfl (XS.aload X7.here hx rfl (hb hby at_100) rfl rfl (XS.iload X7.here hx rfl (hb hby at_102) rfl kK))))))) ?_
    obtain ⟨_, _, ⟨T9, L9, k9, n9⟩, -, X9, ⟨Lc9, hQ9, l9, y9, z9⟩, st9⟩ := Jvm.Stand.specialBack X7 hx (y := own_m30) rfl hown (mvT hZ (own_w G 43 rfl)) (mvT hZ (own_w G 44 rfl)) (mvT hZ (own_w G 45 rfl)) (by decide) (backOf (W := 1) (rmmi l Z a0 G [] b7 x_3 x_5 j3 j4 aC0 p5 .null .null (.long (0 : Int64)) (.long (0 : Int64)) .null (.int (0 : Int32)) h7 n0 O8 A7 F7_misspelling F7_correction F7_misspellingCount F7_correctionCount F7_type F7_distance (by omega)) hZ (own_w G 45 rfl) (own_w G 42 rfl) (by decide) (by decide)) (g := (mkF m 104 #[.val (.int p0), .val (.int p1), .val (.int p2), .val (.long j3), .second, .val (.long j4), .second, .val (.int p5), .val (.int ((1 : Int32) + ((p2 &&& (3 : Int32)) % (3 : Int32)))), .val (.int ((1 : Int32) + ((((p2).toUInt32 >>> ((2 : Int32) &&& 31).toUInt32).toInt32 &&& (3 : Int32)) % (3 : Int32)))), .val (.int (((p2).toUInt32 >>> ((4 : Int32) &&& 31).toUInt32).toInt32 &&& (3 : Int32))), .val (.ref aC0), .val (.ref x_3), .val (.ref x_5), .unset, .unset] [(.int p5), (.ref aC0), (.long j4), (.long j3), (.ref x_5), (.ref x_3), (.ref b7), (.ref b7)])) rfl (by rw [hml]; rfl) (Steps.refl _) (a := b7) (argsL := [(.ref x_3), (.ref x_5), (.long j3), (.long j4), (.ref aC0), (.int p5)]) (rest := [(.ref b7)]) (lenOf pd_24 rfl) rfl (by show 2 * 0 + _ ≤ _; exact Nat.le_of_eq rfl) (hb hby at_104) (fun _ _ => ⟨rfl, e7, (by decide : 9 + 0 ≤ _), (by decide : 38 + 0 ≤ _)⟩)
    dsimp only [Pt.U, Pt.locs, Pt.cells, Pt.slots] at X9 l9 y9 z9 st9 hQ9
    subst l9 y9 z9
    obtain ⟨rfl, N9q, Kq9, r9_0, r9_1, r9_2⟩ := hQ9
    have N9 := Fr.app N5 N9q
    have sz10 := Kq9.1
    have K10 := K8.trans Kq9 (own_all1 (Or.inr (by omega)))
    have O10 := O8.keep Kq9 (own_all1 (by omega))
    have ltr9_0 := own_ltN' r9_0.lt
    have ltr9_1 := own_ltN' r9_1.lt
    have ltr9_2 := own_ltN' r9_2.lt
    refine OwnEnd.tr (S' := T9.setTop (mkF m 107 #[.val (.int p0), .val (.int p1), .val (.int p2), .val (.long j3), .second, .val (.long j4), .second, .val (.int p5), .val (.int ((1 : Int32) + ((p2 &&& (3 : Int32)) % (3 : Int32)))), .val (.int ((1 : Int32) + ((((p2).toUInt32 >>> ((2 : Int32) &&& 31).toUInt32).toInt32 &&& (3 : Int32)) % (3 : Int32)))), .val (.int (((p2).toUInt32 >>> ((4 : Int32) &&& 31).toUInt32).toInt32 &&& (3 : Int32))), .val (.ref aC0), .val (.ref x_3), .val (.ref x_5), .unset, .unset] [(.ref b7)])) st9 ?_
    refine OwnEnd.of (S' := T9.setTop (mkF m 111 #[.val (.int p0), .val (.int p1), .val (.int p2), .val (.long j3), .second, .val (.long j4), .second, .val (.int p5), .val (.int ((1 : Int32) + ((p2 &&& (3 : Int32)) % (3 : Int32)))), .val (.int ((1 : Int32) + ((((p2).toUInt32 >>> ((2 : Int32) &&& 31).toUInt32).toInt32 &&& (3 : Int32)) % (3 : Int32)))), .val (.int (((p2).toUInt32 >>> ((4 : Int32) &&& 31).toUInt32).toInt32 &&& (3 : Int32))), .val (.ref aC0), .val (.ref x_3), .val (.ref x_5), .val (.ref b7), .unset] [(.ref x_3)])) (fun _ kK => XS.astore X9.here hx rfl (hb hby at_107) rfl rfl (l' := #[.val (.int p0), .val (.int p1), .val (.int p2), .val (.long j3), .second, .val (.long j4), .second, .val (.int p5), .val (.int ((1 : Int32) + ((p2 &&& (3 : Int32)) % (3 : Int32)))), .val (.int ((1 : Int32) + ((((p2).toUInt32 >>> ((2 : Int32) &&& 31).toUInt32).toInt32 &&& (3 : Int32)) % (3 : Int32)))), .val (.int (((p2).toUInt32 >>> ((4 : Int32) &&& 31).toUInt32).toInt32 &&& (3 : Int32))), .val (.ref aC0), .val (.ref x_3), .val (.ref x_5), .val (.ref b7), .unset]) rfl (XS.aload X9.here hx rfl (hb hby at_109) rfl rfl kK)) ?_
    have f11 : Exa Z T9.heap x_3 "java/lang/String" := (((r3_0.keep Kq5).ext E7).keep Kq9)
    have f12 : Fld Z T9.heap x_3 "java/lang/String" "value" "[B" (.ref t_3) := (((r3_1.keep Kq5 nin0).ext E7).keep Kq9 (own_nin1 (own_ne (by omega))))
    have f13 : Fld Z T9.heap x_3 "java/lang/String" "coder" "B" (.int cd_3) := (((r3_2.keep Kq5 nin0).ext E7).keep Kq9 (own_nin1 (own_ne (by omega))))
    have f14 : Arv Z T9.heap t_3 kb_3 .byte N_3 vs_3 (.int (0 : Int32)) := (((r3_3.keep Kq5 nin0).ext E7).keep Kq9 (own_nin1 (own_ne (by omega))))
    obtain ⟨_, _, ⟨T15, L15, k15, n15⟩, -, X15, ⟨Lc15, hQ15, l15, y15, z15⟩, st15⟩ := Jvm.LawKit.callS X9 hx (y := own_m22) hown (mvT hZ (own_w G 64 rfl)) (mvT hZ (own_w G 65 rfl)) (mvT hZ (own_w G 5 rfl)) (mvT hZ (own_w G 66 rfl)) (by decide) (backOf (W := 0) (rmlc l Z a0 G [] x_3 t_3 kb_3 N_3 vs_3 cd_3 cs_3 T9.heap n0 O10 f11 f12 f13 f14 r3_4 r3_5 r3_6) hZ (own_w G 66 rfl) (own_w G 5 rfl) (by decide) (by decide)) (g := (mkF m 111 #[.val (.int p0), .val (.int p1), .val (.int p2), .val (.long j3), .second, .val (.long j4), .second, .val (.int p5), .val (.int ((1 : Int32) + ((p2 &&& (3 : Int32)) % (3 : Int32)))), .val (.int ((1 : Int32) + ((((p2).toUInt32 >>> ((2 : Int32) &&& 31).toUInt32).toInt32 &&& (3 : Int32)) % (3 : Int32)))), .val (.int (((p2).toUInt32 >>> ((4 : Int32) &&& 31).toUInt32).toInt32 &&& (3 : Int32))), .val (.ref aC0), .val (.ref x_3), .val (.ref x_5), .val (.ref b7), .unset] [(.ref x_3)])) rfl (by rw [hml]; rfl) (argsL := [(.ref x_3)]) (rest := []) (lenOf pd_25 rfl) rfl (by show 2 * 0 + _ ≤ _; exact Nat.le_of_eq rfl) (hb hby at_111) (fun _ _ => ⟨rfl, rfl, (by decide : 9 + 0 ≤ _), (by decide : 38 + 0 ≤ _)⟩)
    dsimp only [Pt.U, Pt.locs, Pt.cells, Pt.slots] at X15 l15 y15 z15 st15 hQ15
    subst l15 y15 z15
    obtain ⟨rfl, N15q, eh15⟩ := hQ15
    have N15 := Fr.app N9 N15q
    refine OwnEnd.of (S' := T15.setTop (mkF m 114 #[.val (.int p0), .val (.int p1), .val (.int p2), .val (.long j3), .second, .val (.long j4), .second, .val (.int p5), .val (.int ((1 : Int32) + ((p2 &&& (3 : Int32)) % (3 : Int32)))), .val (.int ((1 : Int32) + ((((p2).toUInt32 >>> ((2 : Int32) &&& 31).toUInt32).toInt32 &&& (3 : Int32)) % (3 : Int32)))), .val (.int (((p2).toUInt32 >>> ((4 : Int32) &&& 31).toUInt32).toInt32 &&& (3 : Int32))), .val (.ref aC0), .val (.ref x_3), .val (.ref x_5), .val (.ref b7), .unset] [(.int (own_cpl cs_3))])) st15 ?_
    refine OwnEnd.of (S' := T15.setTop (mkF m 116 #[.val (.int p0), .val (.int p1), .val (.int p2), .val (.long j3), .second, .val (.long j4), .second, .val (.int p5), .val (.int ((1 : Int32) + ((p2 &&& (3 : Int32)) % (3 : Int32)))), .val (.int ((1 : Int32) + ((((p2).toUInt32 >>> ((2 : Int32) &&& 31).toUInt32).toInt32 &&& (3 : Int32)) % (3 : Int32)))), .val (.int (((p2).toUInt32 >>> ((4 : Int32) &&& 31).toUInt32).toInt32 &&& (3 : Int32))), .val (.ref aC0), .val (.ref x_3), .val (.ref x_5), .val (.ref b7), .unset] [(.ref x_5), (.int (own_cpl cs_3))])) (fun _ kK => XS.aload X15.here hx rfl (hb hby at_114) rfl rfl kK) ?_
    have f16 : Exa Z T9.heap x_5 "java/lang/String" := ((r5_0.ext E7).keep Kq9)
    have f17 : Fld Z T9.heap x_5 "java/lang/String" "value" "[B" (.ref t_5) := ((r5_1.ext E7).keep Kq9 (own_nin1 (own_ne (by omega))))
    have f18 : Fld Z T9.heap x_5 "java/lang/String" "coder" "B" (.int cd_5) := ((r5_2.ext E7).keep Kq9 (own_nin1 (own_ne (by omega))))
    have f19 : Arv Z T9.heap t_5 kb_5 .byte N_5 vs_5 (.int (0 : Int32)) := ((r5_3.ext E7).keep Kq9 (own_nin1 (own_ne (by omega))))
    obtain ⟨_, _, ⟨T20, L20, k20, n20⟩, -, X20, ⟨Lc20, hQ20, l20, y20, z20⟩, st20⟩ := Jvm.LawKit.callS X15 hx (y := own_m22) hown (mvT hZ (own_w G 64 rfl)) (mvT hZ (own_w G 65 rfl)) (mvT hZ (own_w G 5 rfl)) (mvT hZ (own_w G 66 rfl)) (by decide) (backOf (W := 1) (rmlc l Z a0 G [] x_5 t_5 kb_5 N_5 vs_5 cd_5 cs_5 T9.heap n0 O10 f16 f17 f18 f19 r5_4 r5_5 r5_6) hZ (own_w G 66 rfl) (own_w G 5 rfl) (by decide) (by decide)) (g := (mkF m 116 #[.val (.int p0), .val (.int p1), .val (.int p2), .val (.long j3), .second, .val (.long j4), .second, .val (.int p5), .val (.int ((1 : Int32) + ((p2 &&& (3 : Int32)) % (3 : Int32)))), .val (.int ((1 : Int32) + ((((p2).toUInt32 >>> ((2 : Int32) &&& 31).toUInt32).toInt32 &&& (3 : Int32)) % (3 : Int32)))), .val (.int (((p2).toUInt32 >>> ((4 : Int32) &&& 31).toUInt32).toInt32 &&& (3 : Int32))), .val (.ref aC0), .val (.ref x_3), .val (.ref x_5), .val (.ref b7), .unset] [(.ref x_5), (.int (own_cpl cs_3))])) rfl (by rw [hml]; rfl) (argsL := [(.ref x_5)]) (rest := [(.int (own_cpl cs_3))]) (lenOf pd_25 rfl) rfl (by show 2 * 0 + _ ≤ _; exact Nat.le_of_eq rfl) (hb hby at_116) (fun _ _ => ⟨rfl, eh15, (by decide : 9 + 0 ≤ _), (by decide : 38 + 0 ≤ _)⟩)
    dsimp only [Pt.U, Pt.locs, Pt.cells, Pt.slots] at X20 l20 y20 z20 st20 hQ20
    subst l20 y20 z20
    obtain ⟨rfl, N20q, eh20⟩ := hQ20
    have N20 := Fr.app N15 N20q
    refine OwnEnd.of (S' := T20.setTop (mkF m 119 #[.val (.int p0), .val (.int p1), .val (.int p2), .val (.long j3), .second, .val (.long j4), .second, .val (.int p5), .val (.int ((1 : Int32) + ((p2 &&& (3 : Int32)) % (3 : Int32)))), .val (.int ((1 : Int32) + ((((p2).toUInt32 >>> ((2 : Int32) &&& 31).toUInt32).toInt32 &&& (3 : Int32)) % (3 : Int32)))), .val (.int (((p2).toUInt32 >>> ((4 : Int32) &&& 31).toUInt32).toInt32 &&& (3 : Int32))), .val (.ref aC0), .val (.ref x_3), .val (.ref x_5), .val (.ref b7), .unset] [(.int (own_cpl cs_5)), (.int (own_cpl cs_3))])) st20 ?_
    rcases Decidable.em ((own_cpl cs_3) = (own_cpl cs_5)) with hc21 | hc21
    · refine OwnEnd.of (S' := T20.setTop (mkF m 131 #[.val (.int p0), .val (.int p1), .val (.int p2), .val (.long j3), .second, .val (.long j4), .second, .val (.int p5), .val (.int ((1 : Int32) + ((p2 &&& (3 : Int32)) % (3 : Int32)))), .val (.int ((1 : Int32) + ((((p2).toUInt32 >>> ((2 : Int32) &&& 31).toUInt32).toInt32 &&& (3 : Int32)) % (3 : Int32)))), .val (.int (((p2).toUInt32 >>> ((4 : Int32) &&& 31).toUInt32).toInt32 &&& (3 : Int32))), .val (.ref aC0), .val (.ref x_3), .val (.ref x_5), .val (.ref b7), .val (.int (1 : Int32))] [(.ref b7)])) (fun _ kK => XS.icmpNo X20.here hx rfl (hb hby at_119) rfl (teq (hc21)).2 (XS.iconst X20.here hx rfl (hb hby at_122) (XS.goto X20.here hx rfl (pc0 := 123) (pc' := 127) rfl (hb hby at_123) (by decide) (by decide) (XS.istore X20.here hx rfl (hb hby at_127) rfl (l' := #[.val (.int p0), .val (.int p1), .val (.int p2), .val (.long j3), .second, .val (.long j4), .second, .val (.int p5), .val (.int ((1 : Int32) + ((p2 &&& (3 : Int32)) % (3 : Int32)))), .val (.int ((1 : Int32) + ((((p2).toUInt32 >>> ((2 : Int32) &&& 31).toUInt32).toInt32 &&& (3 : Int32)) % (3 : Int32)))), .val (.int (((p2).toUInt32 >>> ((4 : Int32) &&& 31).toUInt32).toInt32 &&& (3 : Int32))), .val (.ref aC0), .val (.ref x_3), .val (.ref x_5), .val (.ref b7), .val (.int (1 : Int32))]) rfl (XS.aload X20.here hx rfl (hb hby at_129) rfl rfl kK))))) ?_
      obtain ⟨cq22, kq22, q22a, q22b, q22c⟩ := isOf hZ eh20 r9_0
      obtain ⟨_, _, ⟨T22, L22, k22, n22⟩, -, X22, ⟨Lc22, hQ22, l22, y22, z22⟩, st22⟩ := X20.virtualBack hx (y := own_m31) (z := own_m31) hown (mvT hZ (own_w G 100 rfl)) (mvT hZ (own_w G 101 rfl)) (notFace_of_selects (args := #[]) (mvT hZ (own_w G 103 rfl))) (mvT hZ (own_w G 103 rfl)) (mvT hZ (own_w G 102 rfl)) (by decide) (backOf (W := 0) (rmlm l Z a0 G [] b7 x_3 t_3 kb_3 N_3 vs_3 cd_3 cs_3 x_5 t_5 kb_5 N_5 vs_5 cd_5 cs_5 T9.heap n0 O10 r9_1 r9_2 f11 f12 f13 f14 r3_4 r3_5 r3_6 f16 f17 f18 f19 r5_4 r5_5 r5_6) hZ (own_w G 104 rfl) (own_w G 42 rfl) (by decide) (by decide)) q22a q22c (g := (mkF m 131 #[.val (.int p0), .val (.int p1), .val (.int p2), .val (.long j3), .second, .val (.long j4), .second, .val (.int p5), .val (.int ((1 : Int32) + ((p2 &&& (3 : Int32)) % (3 : Int32)))), .val (.int ((1 : Int32) + ((((p2).toUInt32 >>> ((2 : Int32) &&& 31).toUInt32).toInt32 &&& (3 : Int32)) % (3 : Int32)))), .val (.int (((p2).toUInt32 >>> ((4 : Int32) &&& 31).toUInt32).toInt32 &&& (3 : Int32))), .val (.ref aC0), .val (.ref x_3), .val (.ref x_5), .val (.ref b7), .val (.int (1 : Int32))] [(.ref b7)])) rfl (by rw [hml]; rfl) (Steps.refl _) (argsL := []) (rest := []) (lenOf pd_6 rfl) rfl (by show 2 * 0 + _ ≤ _; exact Nat.le_of_eq rfl) (hb hby at_131) (fun _ _ => ⟨rfl, eh20, (by decide : 9 + 0 ≤ _), (by decide : 38 + 0 ≤ _)⟩)
      dsimp only [Pt.U, Pt.locs, Pt.cells, Pt.slots] at X22 l22 y22 z22 st22 hQ22
      subst l22 y22 z22
      obtain ⟨rfl, N22q, eh22⟩ := hQ22
      have N22 := Fr.app N20 N22q
      refine OwnEnd.tr (S' := T22.setTop (mkF m 134 #[.val (.int p0), .val (.int p1), .val (.int p2), .val (.long j3), .second, .val (.long j4), .second, .val (.int p5), .val (.int ((1 : Int32) + ((p2 &&& (3 : Int32)) % (3 : Int32)))), .val (.int ((1 : Int32) + ((((p2).toUInt32 >>> ((2 : Int32) &&& 31).toUInt32).toInt32 &&& (3 : Int32)) % (3 : Int32)))), .val (.int (((p2).toUInt32 >>> ((4 : Int32) &&& 31).toUInt32).toInt32 &&& (3 : Int32))), .val (.ref aC0), .val (.ref x_3), .val (.ref x_5), .val (.ref b7), .val (.int (1 : Int32))] [(.int (if own_cpl cs_3 = own_cpl cs_5 then 1 else 0))])) st22 ?_
      refine OwnEnd.of (S' := T22.setTop (mkF m 136 #[.val (.int p0), .val (.int p1), .val (.int p2), .val (.long j3), .second, .val (.long j4), .second, .val (.int p5), .val (.int ((1 : Int32) + ((p2 &&& (3 : Int32)) % (3 : Int32)))), .val (.int ((1 : Int32) + ((((p2).toUInt32 >>> ((2 : Int32) &&& 31).toUInt32).toInt32 &&& (3 : Int32)) % (3 : Int32)))), .val (.int (((p2).toUInt32 >>> ((4 : Int32) &&& 31).toUInt32).toInt32 &&& (3 : Int32))), .val (.ref aC0), .val (.ref x_3), .val (.ref x_5), .val (.ref b7), .val (.int (1 : Int32))] [(.int (1 : Int32)), (.int (if own_cpl cs_3 = own_cpl cs_5 then 1 else 0))])) (fun _ kK => XS.iload X22.here hx rfl (hb hby at_134) rfl kK) ?_
      have hfin : (if own_cpl cs_3 = own_cpl cs_5 then 1 else 0) = (1 : Int32) := by simp [hc21]
      refine OwnEnd.of (S' := T22.setTop (mkF m 144 #[.val (.int p0), .val (.int p1), .val (.int p2), .val (.long j3), .second, .val (.long j4), .second, .val (.int p5), .val (.int ((1 : Int32) + ((p2 &&& (3 : Int32)) % (3 : Int32)))), .val (.int ((1 : Int32) + ((((p2).toUInt32 >>> ((2 : Int32) &&& 31).toUInt32).toInt32 &&& (3 : Int32)) % (3 : Int32)))), .val (.int (((p2).toUInt32 >>> ((4 : Int32) &&& 31).toUInt32).toInt32 &&& (3 : Int32))), .val (.ref aC0), .val (.ref x_3), .val (.ref x_5), .val (.ref b7), .val (.int (1 : Int32))] [(.int (1 : Int32))])) (fun _ kK => XS.icmpNo X22.here hx rfl (hb hby at_136) rfl (teq (hfin)).2 (XS.iconst X22.here hx rfl (hb hby at_139) (XS.goto X22.here hx rfl (pc0 := 140) (pc' := 144) rfl (hb hby at_140) (by decide) (by decide) kK))) ?_
      refine OwnEnd.ret X22 (v := (some (.int (nar .boolean (1 : Int32))))) (fun h => by rw [Bd.returns] at h; cases h) hlk (fun fs hr => retN X22 hx (t := .boolean) Bd.returns (by simp) (hb hby at_144) hr) (by decide) (by decide) (Q := Qlaw Z p0 p1 p2 j3 j4 p5 h0 n0) eh22 ?_
      exact ⟨rfl, N22, K10⟩
    · refine OwnEnd.of (S' := T20.setTop (mkF m 131 #[.val (.int p0), .val (.int p1), .val (.int p2), .val (.long j3), .second, .val (.long j4), .second, .val (.int p5), .val (.int ((1 : Int32) + ((p2 &&& (3 : Int32)) % (3 : Int32)))), .val (.int ((1 : Int32) + ((((p2).toUInt32 >>> ((2 : Int32) &&& 31).toUInt32).toInt32 &&& (3 : Int32)) % (3 : Int32)))), .val (.int (((p2).toUInt32 >>> ((4 : Int32) &&& 31).toUInt32).toInt32 &&& (3 : Int32))), .val (.ref aC0), .val (.ref x_3), .val (.ref x_5), .val (.ref b7), .val (.int (0 : Int32))] [(.ref b7)])) (fun _ kK => XS.icmpYes X20.here hx rfl (pc0 := 119) (pc' := 126) rfl (hb hby at_119) rfl (feq (hc21)).2 (by decide) (by decide) (XS.iconst X20.here hx rfl (hb hby at_126) (XS.istore X20.here hx rfl (hb hby at_127) rfl (l' := #[.val (.int p0), .val (.int p1), .val (.int p2), .val (.long j3), .second, .val (.long j4), .second, .val (.int p5), .val (.int ((1 : Int32) + ((p2 &&& (3 : Int32)) % (3 : Int32)))), .val (.int ((1 : Int32) + ((((p2).toUInt32 >>> ((2 : Int32) &&& 31).toUInt32).toInt32 &&& (3 : Int32)) % (3 : Int32)))), .val (.int (((p2).toUInt32 >>> ((4 : Int32) &&& 31).toUInt32).toInt32 &&& (3 : Int32))), .val (.ref aC0), .val (.ref x_3), .val (.ref x_5), .val (.ref b7), .val (.int (0 : Int32))]) rfl (XS.aload X20.here hx rfl (hb hby at_129) rfl rfl kK)))) ?_
      obtain ⟨cq23, kq23, q23a, q23b, q23c⟩ := isOf hZ eh20 r9_0
      obtain ⟨_, _, ⟨T23, L23, k23, n23⟩, -, X23, ⟨Lc23, hQ23, l23, y23, z23⟩, st23⟩ := X20.virtualBack hx (y := own_m31) (z := own_m31) hown (mvT hZ (own_w G 100 rfl)) (mvT hZ (own_w G 101 rfl)) (notFace_of_selects (args := #[]) (mvT hZ (own_w G 103 rfl))) (mvT hZ (own_w G 103 rfl)) (mvT hZ (own_w G 102 rfl)) (by decide) (backOf (W := 0) (rmlm l Z a0 G [] b7 x_3 t_3 kb_3 N_3 vs_3 cd_3 cs_3 x_5 t_5 kb_5 N_5 vs_5 cd_5 cs_5 T9.heap n0 O10 r9_1 r9_2 f11 f12 f13 f14 r3_4 r3_5 r3_6 f16 f17 f18 f19 r5_4 r5_5 r5_6) hZ (own_w G 104 rfl) (own_w G 42 rfl) (by decide) (by decide)) q23a q23c (g := (mkF m 131 #[.val (.int p0), .val (.int p1), .val (.int p2), .val (.long j3), .second, .val (.long j4), .second, .val (.int p5), .val (.int ((1 : Int32) + ((p2 &&& (3 : Int32)) % (3 : Int32)))), .val (.int ((1 : Int32) + ((((p2).toUInt32 >>> ((2 : Int32) &&& 31).toUInt32).toInt32 &&& (3 : Int32)) % (3 : Int32)))), .val (.int (((p2).toUInt32 >>> ((4 : Int32) &&& 31).toUInt32).toInt32 &&& (3 : Int32))), .val (.ref aC0), .val (.ref x_3), .val (.ref x_5), .val (.ref b7), .val (.int (0 : Int32))] [(.ref b7)])) rfl (by rw [hml]; rfl) (Steps.refl _) (argsL := []) (rest := []) (lenOf pd_6 rfl) rfl (by show 2 * 0 + _ ≤ _; exact Nat.le_of_eq rfl) (hb hby at_131) (fun _ _ => ⟨rfl, eh20, (by decide : 9 + 0 ≤ _), (by decide : 38 + 0 ≤ _)⟩)
      dsimp only [Pt.U, Pt.locs, Pt.cells, Pt.slots] at X23 l23 y23 z23 st23 hQ23
      subst l23 y23 z23
      obtain ⟨rfl, N23q, eh23⟩ := hQ23
      have N23 := Fr.app N20 N23q
      refine OwnEnd.tr (S' := T23.setTop (mkF m 134 #[.val (.int p0), .val (.int p1), .val (.int p2), .val (.long j3), .second, .val (.long j4), .second, .val (.int p5), .val (.int ((1 : Int32) + ((p2 &&& (3 : Int32)) % (3 : Int32)))), .val (.int ((1 : Int32) + ((((p2).toUInt32 >>> ((2 : Int32) &&& 31).toUInt32).toInt32 &&& (3 : Int32)) % (3 : Int32)))), .val (.int (((p2).toUInt32 >>> ((4 : Int32) &&& 31).toUInt32).toInt32 &&& (3 : Int32))), .val (.ref aC0), .val (.ref x_3), .val (.ref x_5), .val (.ref b7), .val (.int (0 : Int32))] [(.int (if own_cpl cs_3 = own_cpl cs_5 then 1 else 0))])) st23 ?_
      refine OwnEnd.of (S' := T23.setTop (mkF m 136 #[.val (.int p0), .val (.int p1), .val (.int p2), .val (.long j3), .second, .val (.long j4), .second, .val (.int p5), .val (.int ((1 : Int32) + ((p2 &&& (3 : Int32)) % (3 : Int32)))), .val (.int ((1 : Int32) + ((((p2).toUInt32 >>> ((2 : Int32) &&& 31).toUInt32).toInt32 &&& (3 : Int32)) % (3 : Int32)))), .val (.int (((p2).toUInt32 >>> ((4 : Int32) &&& 31).toUInt32).toInt32 &&& (3 : Int32))), .val (.ref aC0), .val (.ref x_3), .val (.ref x_5), .val (.ref b7), .val (.int (0 : Int32))] [(.int (0 : Int32)), (.int (if own_cpl cs_3 = own_cpl cs_5 then 1 else 0))])) (fun _ kK => XS.iload X23.here hx rfl (hb hby at_134) rfl kK) ?_
      have hfin : (if own_cpl cs_3 = own_cpl cs_5 then 1 else 0) = (0 : Int32) := by simp [hc21]
      refine OwnEnd.of (S' := T23.setTop (mkF m 144 #[.val (.int p0), .val (.int p1), .val (.int p2), .val (.long j3), .second, .val (.long j4), .second, .val (.int p5), .val (.int ((1 : Int32) + ((p2 &&& (3 : Int32)) % (3 : Int32)))), .val (.int ((1 : Int32) + ((((p2).toUInt32 >>> ((2 : Int32) &&& 31).toUInt32).toInt32 &&& (3 : Int32)) % (3 : Int32)))), .val (.int (((p2).toUInt32 >>> ((4 : Int32) &&& 31).toUInt32).toInt32 &&& (3 : Int32))), .val (.ref aC0), .val (.ref x_3), .val (.ref x_5), .val (.ref b7), .val (.int (0 : Int32))] [(.int (1 : Int32))])) (fun _ kK => XS.icmpNo X23.here hx rfl (hb hby at_136) rfl (teq (hfin)).2 (XS.iconst X23.here hx rfl (hb hby at_139) (XS.goto X23.here hx rfl (pc0 := 140) (pc' := 144) rfl (hb hby at_140) (by decide) (by decide) kK))) ?_
      refine OwnEnd.ret X23 (v := (some (.int (nar .boolean (1 : Int32))))) (fun h => by rw [Bd.returns] at h; cases h) hlk (fun fs hr => retN X23 hx (t := .boolean) Bd.returns (by simp) (hb hby at_144) hr) (by decide) (by decide) (Q := Qlaw Z p0 p1 p2 j3 j4 p5 h0 n0) eh23 ?_
      exact ⟨rfl, N23, K10⟩
  · refine OwnEnd.of (S' := s₁.setTop (mkF m 43 #[.val (.int p0), .val (.int p1), .val (.int p2), .val (.long j3), .second, .val (.long j4), .second, .val (.int p5), .val (.int ((1 : Int32) + ((p2 &&& (3 : Int32)) % (3 : Int32)))), .val (.int ((1 : Int32) + ((((p2).toUInt32 >>> ((2 : Int32) &&& 31).toUInt32).toInt32 &&& (3 : Int32)) % (3 : Int32)))), .val (.int (((p2).toUInt32 >>> ((4 : Int32) &&& 31).toUInt32).toInt32 &&& (3 : Int32))), .unset, .unset, .unset, .unset, .unset] [(.int (1 : Int32)), (.int (((p2).toUInt32 >>> ((4 : Int32) &&& 31).toUInt32).toInt32 &&& (3 : Int32)))])) (fun _ kK => XS.ifYes X0.here hx rfl (pc0 := 29) (pc' := 40) rfl (hb hby at_29) rfl ((if0 _ _).trans (feq (hc1)).2) (by decide) (by decide) (XS.iload X0.here hx rfl (hb hby at_40) rfl (XS.iconst X0.here hx rfl (hb hby at_42) kK))) ?_
    rcases Decidable.em ((((p2).toUInt32 >>> ((4 : Int32) &&& 31).toUInt32).toInt32 &&& (3 : Int32)) = (1 : Int32)) with hc24 | hc24
    · refine OwnEnd.of (S' := s₁.setTop (mkF m 46 #[.val (.int p0), .val (.int p1), .val (.int p2), .val (.long j3), .second, .val (.long j4), .second, .val (.int p5), .val (.int ((1 : Int32) + ((p2 &&& (3 : Int32)) % (3 : Int32)))), .val (.int ((1 : Int32) + ((((p2).toUInt32 >>> ((2 : Int32) &&& 31).toUInt32).toInt32 &&& (3 : Int32)) % (3 : Int32)))), .val (.int (((p2).toUInt32 >>> ((4 : Int32) &&& 31).toUInt32).toInt32 &&& (3 : Int32))), .unset, .unset, .unset, .unset, .unset] [])) (fun _ kK => XS.icmpNo X0.here hx rfl (hb hby at_43) rfl (teq (hc24)).2 kK) ?_
      obtain ⟨T25, X25, e25, st25⟩ := getS2 X0 hx hZ hown (host := "") (Or.inl (own_w G 159 rfl)) Via.refl e0 (SC3.ext O0.2) (g := (mkF m 46 #[.val (.int p0), .val (.int p1), .val (.int p2), .val (.long j3), .second, .val (.long j4), .second, .val (.int p5), .val (.int ((1 : Int32) + ((p2 &&& (3 : Int32)) % (3 : Int32)))), .val (.int ((1 : Int32) + ((((p2).toUInt32 >>> ((2 : Int32) &&& 31).toUInt32).toInt32 &&& (3 : Int32)) % (3 : Int32)))), .val (.int (((p2).toUInt32 >>> ((4 : Int32) &&& 31).toUInt32).toInt32 &&& (3 : Int32))), .unset, .unset, .unset, .unset, .unset] [])) rfl (hb hby at_46)
      refine OwnEnd.of (S' := T25.setTop (mkF m 49 #[.val (.int p0), .val (.int p1), .val (.int p2), .val (.long j3), .second, .val (.long j4), .second, .val (.int p5), .val (.int ((1 : Int32) + ((p2 &&& (3 : Int32)) % (3 : Int32)))), .val (.int ((1 : Int32) + ((((p2).toUInt32 >>> ((2 : Int32) &&& 31).toUInt32).toInt32 &&& (3 : Int32)) % (3 : Int32)))), .val (.int (((p2).toUInt32 >>> ((4 : Int32) &&& 31).toUInt32).toInt32 &&& (3 : Int32))), .unset, .unset, .unset, .unset, .unset] [(.ref aC3)])) st25 ?_
      refine OwnEnd.of (S' := T25.setTop (mkF m 76 #[.val (.int p0), .val (.int p1), .val (.int p2), .val (.long j3), .second, .val (.long j4), .second, .val (.int p5), .val (.int ((1 : Int32) + ((p2 &&& (3 : Int32)) % (3 : Int32)))), .val (.int ((1 : Int32) + ((((p2).toUInt32 >>> ((2 : Int32) &&& 31).toUInt32).toInt32 &&& (3 : Int32)) % (3 : Int32)))), .val (.int (((p2).toUInt32 >>> ((4 : Int32) &&& 31).toUInt32).toInt32 &&& (3 : Int32))), .val (.ref aC3), .unset, .unset, .unset, .unset] [(.int ((1 : Int32) + ((p2 &&& (3 : Int32)) % (3 : Int32)))), (.int p0)])) (fun _ kK => XS.astore X25.here hx rfl (hb hby at_49) rfl rfl (l' := #[.val (.int p0), .val (.int p1), .val (.int p2), .val (.long j3), .second, .val (.long j4), .second, .val (.int p5), .val (.int ((1 : Int32) + ((p2 &&& (3 : Int32)) % (3 : Int32)))), .val (.int ((1 : Int32) + ((((p2).toUInt32 >>> ((2 : Int32) &&& 31).toUInt32).toInt32 &&& (3 : Int32)) % (3 : Int32)))), .val (.int (((p2).toUInt32 >>> ((4 : Int32) &&& 31).toUInt32).toInt32 &&& (3 : Int32))), .val (.ref aC3), .unset, .unset, .unset, .unset]) rfl (XS.goto X25.here hx rfl (pc0 := 51) (pc' := 73) rfl (hb hby at_51) (by decide) (by decide) (XS.iloadN X25.here hx rfl (hb hby at_73) rfl (XS.iload X25.here hx rfl (hb hby at_74) rfl kK)))) ?_
      obtain ⟨_, _, ⟨T26, L26, k26, n26⟩, -, X26, ⟨Lc26, hQ26, l26, y26, z26⟩, st26⟩ := Jvm.LawKit.callS X25 hx (y := own_m21) hown (mvT hZ (own_w G 3 rfl)) (mvT hZ (own_w G 4 rfl)) (mvT hZ (own_w G 5 rfl)) (mvT hZ (own_w G 6 rfl)) (by decide) (backOf (W := 0) (rmmk l Z a0 G [] p0 ((1 : Int32) + ((p2 &&& (3 : Int32)) % (3 : Int32))) h0 n0 O0 ) hZ (own_w G 6 rfl) (own_w G 5 rfl) (by decide) (by decide)) (g := (mkF m 76 #[.val (.int p0), .val (.int p1), .val (.int p2), .val (.long j3), .second, .val (.long j4), .second, .val (.int p5), .val (.int ((1 : Int32) + ((p2 &&& (3 : Int32)) % (3 : Int32)))), .val (.int ((1 : Int32) + ((((p2).toUInt32 >>> ((2 : Int32) &&& 31).toUInt32).toInt32 &&& (3 : Int32)) % (3 : Int32)))), .val (.int (((p2).toUInt32 >>> ((4 : Int32) &&& 31).toUInt32).toInt32 &&& (3 : Int32))), .val (.ref aC3), .unset, .unset, .unset, .unset] [(.int ((1 : Int32) + ((p2 &&& (3 : Int32)) % (3 : Int32)))), (.int p0)])) rfl (by rw [hml]; rfl) (argsL := [(.int p0), (.int ((1 : Int32) + ((p2 &&& (3 : Int32)) % (3 : Int32))))]) (rest := []) (lenOf pd_23 rfl) rfl (by show 2 * 0 + _ ≤ _; exact Nat.le_of_eq rfl) (hb hby at_76) (fun _ _ => ⟨rfl, e25, (by decide : 0 + 4 ≤ _), (by decide : 0 + 16 ≤ _)⟩)
      dsimp only [Pt.U, Pt.locs, Pt.cells, Pt.slots] at X26 l26 y26 z26 st26 hQ26
      subst l26 y26 z26
      obtain ⟨x_26, t_26, kb_26, N_26, vs_26, cd_26, cs_26, rfl, N26q, Kq26, r26_0, r26_1, r26_2, r26_3, r26_4, r26_5, r26_6, r26_7, r26_8⟩ := hQ26
      have N26 := Fr.app N0 N26q
      have sz27 := Kq26.1
      have K27 := K0.trans Kq26 (own_all0 )
      have O27 := O0.keep Kq26 (own_all0 )
      have ltr26_0 := own_ltN' r26_0.lt
      have ltr26_1 := own_ltN' r26_1.lt
      have ltr26_2 := own_ltN' r26_2.lt
      have ltr26_3 := own_ltN' r26_3.lt
      refine OwnEnd.of (S' := T26.setTop (mkF m 79 #[.val (.int p0), .val (.int p1), .val (.int p2), .val (.long j3), .second, .val (.long j4), .second, .val (.int p5), .val (.int ((1 : Int32) + ((p2 &&& (3 : Int32)) % (3 : Int32)))), .val (.int ((1 : Int32) + ((((p2).toUInt32 >>> ((2 : Int32) &&& 31).toUInt32).toInt32 &&& (3 : Int32)) % (3 : Int32)))), .val (.int (((p2).toUInt32 >>> ((4 : Int32) &&& 31).toUInt32).toInt32 &&& (3 : Int32))), .val (.ref aC3), .unset, .unset, .unset, .unset] [(.ref x_26)])) st26 ?_
      refine OwnEnd.of (S' := T26.setTop (mkF m 84 #[.val (.int p0), .val (.int p1), .val (.int p2), .val (.long j3), .second, .val (.long j4), .second, .val (.int p5), .val (.int ((1 : Int32) + ((p2 &&& (3 : Int32)) % (3 : Int32)))), .val (.int ((1 : Int32) + ((((p2).toUInt32 >>> ((2 : Int32) &&& 31).toUInt32).toInt32 &&& (3 : Int32)) % (3 : Int32)))), .val (.int (((p2).toUInt32 >>> ((4 : Int32) &&& 31).toUInt32).toInt32 &&& (3 : Int32))), .val (.ref aC3), .val (.ref x_26), .unset, .unset, .unset] [(.int ((1 : Int32) + ((((p2).toUInt32 >>> ((2 : Int32) &&& 31).toUInt32).toInt32 &&& (3 : Int32)) % (3 : Int32)))), (.int p1)])) (fun _ kK => XS.astore X26.here hx rfl (hb hby at_79) rfl rfl (l' := #[.val (.int p0), .val (.int p1), .val (.int p2), .val (.long j3), .second, .val (.long j4), .second, .val (.int p5), .val (.int ((1 : Int32) + ((p2 &&& (3 : Int32)) % (3 : Int32)))), .val (.int ((1 : Int32) + ((((p2).toUInt32 >>> ((2 : Int32) &&& 31).toUInt32).toInt32 &&& (3 : Int32)) % (3 : Int32)))), .val (.int (((p2).toUInt32 >>> ((4 : Int32) &&& 31).toUInt32).toInt32 &&& (3 : Int32))), .val (.ref aC3), .val (.ref x_26), .unset, .unset, .unset]) rfl (XS.iloadN X26.here hx rfl (hb hby at_81) rfl (XS.iload X26.here hx rfl (hb hby at_82) rfl kK))) ?_
      obtain ⟨_, _, ⟨T28, L28, k28, n28⟩, -, X28, ⟨Lc28, hQ28, l28, y28, z28⟩, st28⟩ := Jvm.LawKit.callS X26 hx (y := own_m21) hown (mvT hZ (own_w G 3 rfl)) (mvT hZ (own_w G 4 rfl)) (mvT hZ (own_w G 5 rfl)) (mvT hZ (own_w G 6 rfl)) (by decide) (backOf (W := 0) (rmmk l Z a0 G [] p1 ((1 : Int32) + ((((p2).toUInt32 >>> ((2 : Int32) &&& 31).toUInt32).toInt32 &&& (3 : Int32)) % (3 : Int32))) T26.heap n0 O27 ) hZ (own_w G 6 rfl) (own_w G 5 rfl) (by decide) (by decide)) (g := (mkF m 84 #[.val (.int p0), .val (.int p1), .val (.int p2), .val (.long j3), .second, .val (.long j4), .second, .val (.int p5), .val (.int ((1 : Int32) + ((p2 &&& (3 : Int32)) % (3 : Int32)))), .val (.int ((1 : Int32) + ((((p2).toUInt32 >>> ((2 : Int32) &&& 31).toUInt32).toInt32 &&& (3 : Int32)) % (3 : Int32)))), .val (.int (((p2).toUInt32 >>> ((4 : Int32) &&& 31).toUInt32).toInt32 &&& (3 : Int32))), .val (.ref aC3), .val (.ref x_26), .unset, .unset, .unset] [(.int ((1 : Int32) + ((((p2).toUInt32 >>> ((2 : Int32) &&& 31).toUInt32).toInt32 &&& (3 : Int32)) % (3 : Int32)))), (.int p1)])) rfl (by rw [hml]; rfl) (argsL := [(.int p1), (.int ((1 : Int32) + ((((p2).toUInt32 >>> ((2 : Int32) &&& 31).toUInt32).toInt32 &&& (3 : Int32)) % (3 : Int32))))]) (rest := []) (lenOf pd_23 rfl) rfl (by show 2 * 0 + _ ≤ _; exact Nat.le_of_eq rfl) (hb hby at_84) (fun _ _ => ⟨rfl, rfl, (by decide : 4 + 4 ≤ _), (by decide : 16 + 16 ≤ _)⟩)
      dsimp only [Pt.U, Pt.locs, Pt.cells, Pt.slots] at X28 l28 y28 z28 st28 hQ28
      subst l28 y28 z28
      obtain ⟨x_28, t_28, kb_28, N_28, vs_28, cd_28, cs_28, rfl, N28q, Kq28, r28_0, r28_1, r28_2, r28_3, r28_4, r28_5, r28_6, r28_7, r28_8⟩ := hQ28
      have N28 := Fr.app N26 N28q
      have sz29 := Kq28.1
      have K29 := K27.trans Kq28 (own_all0 )
      have O29 := O27.keep Kq28 (own_all0 )
      have ltr28_0 := own_ltN' r28_0.lt
      have ltr28_1 := own_ltN' r28_1.lt
      have ltr28_2 := own_ltN' r28_2.lt
      have ltr28_3 := own_ltN' r28_3.lt
      refine OwnEnd.of (S' := T28.setTop (mkF m 87 #[.val (.int p0), .val (.int p1), .val (.int p2), .val (.long j3), .second, .val (.long j4), .second, .val (.int p5), .val (.int ((1 : Int32) + ((p2 &&& (3 : Int32)) % (3 : Int32)))), .val (.int ((1 : Int32) + ((((p2).toUInt32 >>> ((2 : Int32) &&& 31).toUInt32).toInt32 &&& (3 : Int32)) % (3 : Int32)))), .val (.int (((p2).toUInt32 >>> ((4 : Int32) &&& 31).toUInt32).toInt32 &&& (3 : Int32))), .val (.ref aC3), .val (.ref x_26), .unset, .unset, .unset] [(.ref x_28)])) st28 ?_
      refine OwnEnd.of (S' := T28.setTop (mkF m 89 #[.val (.int p0), .val (.int p1), .val (.int p2), .val (.long j3), .second, .val (.long j4), .second, .val (.int p5), .val (.int ((1 : Int32) + ((p2 &&& (3 : Int32)) % (3 : Int32)))), .val (.int ((1 : Int32) + ((((p2).toUInt32 >>> ((2 : Int32) &&& 31).toUInt32).toInt32 &&& (3 : Int32)) % (3 : Int32)))), .val (.int (((p2).toUInt32 >>> ((4 : Int32) &&& 31).toUInt32).toInt32 &&& (3 : Int32))), .val (.ref aC3), .val (.ref x_26), .val (.ref x_28), .unset, .unset] [])) (fun _ kK => XS.astore X28.here hx rfl (hb hby at_87) rfl rfl (l' := #[.val (.int p0), .val (.int p1), .val (.int p2), .val (.long j3), .second, .val (.long j4), .second, .val (.int p5), .val (.int ((1 : Int32) + ((p2 &&& (3 : Int32)) % (3 : Int32)))), .val (.int ((1 : Int32) + ((((p2).toUInt32 >>> ((2 : Int32) &&& 31).toUInt32).toInt32 &&& (3 : Int32)) % (3 : Int32)))), .val (.int (((p2).toUInt32 >>> ((4 : Int32) &&& 31).toUInt32).toInt32 &&& (3 : Int32))), .val (.ref aC3), .val (.ref x_26), .val (.ref x_28), .unset, .unset]) rfl kK) ?_
      obtain ⟨T30, h30, X30, e30, E30, A30, D30, -, st30⟩ := newO X28 hx hZ hown (own_w G 40 rfl) (own_w G 41 rfl) (own_w G 42 rfl) rfl (g := (mkF m 89 #[.val (.int p0), .val (.int p1), .val (.int p2), .val (.long j3), .second, .val (.long j4), .second, .val (.int p5), .val (.int ((1 : Int32) + ((p2 &&& (3 : Int32)) % (3 : Int32)))), .val (.int ((1 : Int32) + ((((p2).toUInt32 >>> ((2 : Int32) &&& 31).toUInt32).toInt32 &&& (3 : Int32)) % (3 : Int32)))), .val (.int (((p2).toUInt32 >>> ((4 : Int32) &&& 31).toUInt32).toInt32 &&& (3 : Int32))), .val (.ref aC3), .val (.ref x_26), .val (.ref x_28), .unset, .unset] [])) rfl (hb hby at_89) (by decide) (by decide)
      obtain ⟨b30, g30⟩ : ∃ z, z = Array.size T28.heap := ⟨_, rfl⟩
      rw [← g30] at A30 D30 st30
      have lt_b30 := own_ltN' A30.lt
      have sz31 := E30.1
      have K31 := K29.ext E30
      have O31 := O29.ext E30
      have F30_misspelling : Fld Z h30 b30 "com/example/collie/collie/engine/MinedPair" "misspelling" "Ljava/lang/String;" .null := D30 (Or.inr (own_w G 53 rfl)) (ty := (.object "java/lang/String")) (by decide)
      have F30_correction : Fld Z h30 b30 "com/example/collie/collie/engine/MinedPair" "correction" "Ljava/lang/String;" .null := D30 (Or.inr (own_w G 55 rfl)) (ty := (.object "java/lang/String")) (by decide)
      have F30_misspellingCount : Fld Z h30 b30 "com/example/collie/collie/engine/MinedPair" "misspellingCount" "J" (.long (0 : Int64)) := D30 (Or.inr (own_w G 57 rfl)) (ty := .long) (by decide)
      have F30_correctionCount : Fld Z h30 b30 "com/example/collie/collie/engine/MinedPair" "correctionCount" "J" (.long (0 : Int64)) := D30 (Or.inr (own_w G 59 rfl)) (ty := .long) (by decide)
      have F30_type : Fld Z h30 b30 "com/example/collie/collie/engine/MinedPair" "type" "Lcom/example/collie/collie/engine/CorrectionType;" .null := D30 (Or.inr (own_w G 61 rfl)) (ty := (.object "com/example/collie/collie/engine/CorrectionType")) (by decide)
      have F30_distance : Fld Z h30 b30 "com/example/collie/collie/engine/MinedPair" "distance" "I" (.int (0 : Int32)) := D30 (Or.inr (own_w G 63 rfl)) (ty := .int) (by decide)
      refine OwnEnd.of (S' := T30.setTop (mkF m 92 #[.val (.int p0), .val (.int p1), .val (.int p2), .val (.long j3), .second, .val (.long j4), .second, .val (.int p5), .val (.int ((1 : Int32) + ((p2 &&& (3 : Int32)) % (3 : Int32)))), .val (.int ((1 : Int32) + ((((p2).toUInt32 >>> ((2 : Int32) &&& 31).toUInt32).toInt32 &&& (3 : Int32)) % (3 : Int32)))), .val (.int (((p2).toUInt32 >>> ((4 : Int32) &&& 31).toUInt32).toInt32 &&& (3 : Int32))), .val (.ref aC3), .val (.ref x_26), .val (.ref x_28), .unset, .unset] [(.ref b30)])) st30 ?_
      refine OwnEnd.of (S' := T30.setTop (mkF m 104 #[.val (.int p0), .val (.int p1), .val (.int p2), .val (.long j3), .second, .val (.long j4), .second, .val (.int p5), .val (.int ((1 : Int32) + ((p2 &&& (3 : Int32)) % (3 : Int32)))), .val (.int ((1 : Int32) + ((((p2).toUInt32 >>> ((2 : Int32) &&& 31).toUInt32).toInt32 &&& (3 : Int32)) % (3 : Int32)))), .val (.int (((p2).toUInt32 >>> ((4 : Int32) &&& 31).toUInt32).toInt32 &&& (3 : Int32))), .val (.ref aC3), .val (.ref x_26), .val (.ref x_28), .unset, .unset] [(.int p5), (.ref aC3), (.long j4), (.long j3), (.ref x_28), (.ref x_26), (.ref b30), (.ref b30)])) (fun _ kK => XS.dup X30.here hx rfl (hb hby at_92) rfl rfl (XS.aload X30.here hx rfl (hb hby at_93) rfl rfl (XS.aload X30.here hx rfl (hb hby at_95) rfl rfl (XS.lloadN X30.here hx rfl (hb hby at_97) rfl (XS.lload X30.here hx rfl (hb hby at_98) rfl (XS.aload X30.here hx rfl (hb hby at_100) rfl rfl (XS.iload X30.here hx rfl (hb hby at_102) rfl kK))))))) ?_
      obtain ⟨_, _, ⟨T32, L32, k32, n32⟩, -, X32, ⟨Lc32, hQ32, l32, y32, z32⟩, st32⟩ := Jvm.Stand.specialBack X30 hx (y := own_m30) rfl hown (mvT hZ (own_w G 43 rfl)) (mvT hZ (own_w G 44 rfl)) (mvT hZ (own_w G 45 rfl)) (by decide) (backOf (W := 1) (rmmi l Z a0 G [] b30 x_26 x_28 j3 j4 aC3 p5 .null .null (.long (0 : Int64)) (.long (0 : Int64)) .null (.int (0 : Int32)) h30 n0 O31 A30 F30_misspelling F30_correction F30_misspellingCount F30_correctionCount F30_type F30_distance (by omega)) hZ (own_w G 45 rfl) (own_w G 42 rfl) (by decide) (by decide)) (g := (mkF m 104 #[.val (.int p0), .val (.int p1), .val (.int p2), .val (.long j3), .second, .val (.long j4), .second, .val (.int p5), .val (.int ((1 : Int32) + ((p2 &&& (3 : Int32)) % (3 : Int32)))), .val (.int ((1 : Int32) + ((((p2).toUInt32 >>> ((2 : Int32) &&& 31).toUInt32).toInt32 &&& (3 : Int32)) % (3 : Int32)))), .val (.int (((p2).toUInt32 >>> ((4 : Int32) &&& 31).toUInt32).toInt32 &&& (3 : Int32))), .val (.ref aC3), .val (.ref x_26), .val (.ref x_28), .unset, .unset] [(.int p5), (.ref aC3), (.long j4), (.long j3), (.ref x_28), (.ref x_26), (.ref b30), (.ref b30)])) rfl (by rw [hml]; rfl) (Steps.refl _) (a := b30) (argsL := [(.ref x_26), (.ref x_28), (.long j3), (.long j4), (.ref aC3), (.int p5)]) (rest := [(.ref b30)]) (lenOf pd_24 rfl) rfl (by show 2 * 0 + _ ≤ _; exact Nat.le_of_eq rfl) (hb hby at_104) (fun _ _ => ⟨rfl, e30, (by decide : 9 + 0 ≤ _), (by decide : 38 + 0 ≤ _)⟩)
      dsimp only [Pt.U, Pt.locs, Pt.cells, Pt.slots] at X32 l32 y32 z32 st32 hQ32
      subst l32 y32 z32
      obtain ⟨rfl, N32q, Kq32, r32_0, r32_1, r32_2⟩ := hQ32
      have N32 := Fr.app N28 N32q
      have sz33 := Kq32.1
      have K33 := K31.trans Kq32 (own_all1 (Or.inr (by omega)))
      have O33 := O31.keep Kq32 (own_all1 (by omega))
      have ltr32_0 := own_ltN' r32_0.lt
      have ltr32_1 := own_ltN' r32_1.lt
      have ltr32_2 := own_ltN' r32_2.lt
      refine OwnEnd.tr (S' := T32.setTop (mkF m 107 #[.val (.int p0), .val (.int p1), .val (.int p2), .val (.long j3), .second, .val (.long j4), .second, .val (.int p5), .val (.int ((1 : Int32) + ((p2 &&& (3 : Int32)) % (3 : Int32)))), .val (.int ((1 : Int32) + ((((p2).toUInt32 >>> ((2 : Int32) &&& 31).toUInt32).toInt32 &&& (3 : Int32)) % (3 : Int32)))), .val (.int (((p2).toUInt32 >>> ((4 : Int32) &&& 31).toUInt32).toInt32 &&& (3 : Int32))), .val (.ref aC3), .val (.ref x_26), .val (.ref x_28), .unset, .unset] [(.ref b30)])) st32 ?_
      refine OwnEnd.of (S' := T32.setTop (mkF m 111 #[.val (.int p0), .val (.int p1), .val (.int p2), .val (.long j3), .second, .val (.long j4), .second, .val (.int p5), .val (.int ((1 : Int32) + ((p2 &&& (3 : Int32)) % (3 : Int32)))), .val (.int ((1 : Int32) + ((((p2).toUInt32 >>> ((2 : Int32) &&& 31).toUInt32).toInt32 &&& (3 : Int32)) % (3 : Int32)))), .val (.int (((p2).toUInt32 >>> ((4 : Int32) &&& 31).toUInt32).toInt32 &&& (3 : Int32))), .val (.ref aC3), .val (.ref x_26), .val (.ref x_28), .val (.ref b30), .unset] [(.ref x_26)])) (fun _ kK => XS.astore X32.here hx rfl (hb hby at_107) rfl rfl (l' := #[.val (.int p0), .val (.int p1), .val (.int p2), .val (.long j3), .second, .val (.long j4), .second, .val (.int p5), .val (.int ((1 : Int32) + ((p2 &&& (3 : Int32)) % (3 : Int32)))), .val (.int ((1 : Int32) + ((((p2).toUInt32 >>> ((2 : Int32) &&& 31).toUInt32).toInt32 &&& (3 : Int32)) % (3 : Int32)))), .val (.int (((p2).toUInt32 >>> ((4 : Int32) &&& 31).toUInt32).toInt32 &&& (3 : Int32))), .val (.ref aC3), .val (.ref x_26), .val (.ref x_28), .val (.ref b30), .unset]) rfl (XS.aload X32.here hx rfl (hb hby at_109) rfl rfl kK)) ?_
      have f34 : Exa Z T32.heap x_26 "java/lang/String" := (((r26_0.keep Kq28).ext E30).keep Kq32)
      have f35 : Fld Z T32.heap x_26 "java/lang/String" "value" "[B" (.ref t_26) := (((r26_1.keep Kq28 nin0).ext E30).keep Kq32 (own_nin1 (own_ne (by omega))))
      have f36 : Fld Z T32.heap x_26 "java/lang/String" "coder" "B" (.int cd_26) := (((r26_2.keep Kq28 nin0).ext E30).keep Kq32 (own_nin1 (own_ne (by omega))))
      have f37 : Arv Z T32.heap t_26 kb_26 .byte N_26 vs_26 (.int (0 : Int32)) := (((r26_3.keep Kq28 nin0).ext E30).keep Kq32 (own_nin1 (own_ne (by omega))))
      obtain ⟨_, _, ⟨T38, L38, k38, n38⟩, -, X38, ⟨Lc38, hQ38, l38, y38, z38⟩, st38⟩ := Jvm.LawKit.callS X32 hx (y := own_m22) hown (mvT hZ (own_w G 64 rfl)) (mvT hZ (own_w G 65 rfl)) (mvT hZ (own_w G 5 rfl)) (mvT hZ (own_w G 66 rfl)) (by decide) (backOf (W := 0) (rmlc l Z a0 G [] x_26 t_26 kb_26 N_26 vs_26 cd_26 cs_26 T32.heap n0 O33 f34 f35 f36 f37 r26_4 r26_5 r26_6) hZ (own_w G 66 rfl) (own_w G 5 rfl) (by decide) (by decide)) (g := (mkF m 111 #[.val (.int p0), .val (.int p1), .val (.int p2), .val (.long j3), .second, .val (.long j4), .second, .val (.int p5), .val (.int ((1 : Int32) + ((p2 &&& (3 : Int32)) % (3 : Int32)))), .val (.int ((1 : Int32) + ((((p2).toUInt32 >>> ((2 : Int32) &&& 31).toUInt32).toInt32 &&& (3 : Int32)) % (3 : Int32)))), .val (.int (((p2).toUInt32 >>> ((4 : Int32) &&& 31).toUInt32).toInt32 &&& (3 : Int32))), .val (.ref aC3), .val (.ref x_26), .val (.ref x_28), .val (.ref b30), .unset] [(.ref x_26)])) rfl (by rw [hml]; rfl) (argsL := [(.ref x_26)]) (rest := []) (lenOf pd_25 rfl) rfl (by show 2 * 0 + _ ≤ _; exact Nat.le_of_eq rfl) (hb hby at_111) (fun _ _ => ⟨rfl, rfl, (by decide : 9 + 0 ≤ _), (by decide : 38 + 0 ≤ _)⟩)
      dsimp only [Pt.U, Pt.locs, Pt.cells, Pt.slots] at X38 l38 y38 z38 st38 hQ38
      subst l38 y38 z38
      obtain ⟨rfl, N38q, eh38⟩ := hQ38
      have N38 := Fr.app N32 N38q
      refine OwnEnd.of (S' := T38.setTop (mkF m 114 #[.val (.int p0), .val (.int p1), .val (.int p2), .val (.long j3), .second, .val (.long j4), .second, .val (.int p5), .val (.int ((1 : Int32) + ((p2 &&& (3 : Int32)) % (3 : Int32)))), .val (.int ((1 : Int32) + ((((p2).toUInt32 >>> ((2 : Int32) &&& 31).toUInt32).toInt32 &&& (3 : Int32)) % (3 : Int32)))), .val (.int (((p2).toUInt32 >>> ((4 : Int32) &&& 31).toUInt32).toInt32 &&& (3 : Int32))), .val (.ref aC3), .val (.ref x_26), .val (.ref x_28), .val (.ref b30), .unset] [(.int (own_cpl cs_26))])) st38 ?_
      refine OwnEnd.of (S' := T38.setTop (mkF m 116 #[.val (.int p0), .val (.int p1), .val (.int p2), .val (.long j3), .second, .val (.long j4), .second, .val (.int p5), .val (.int ((1 : Int32) + ((p2 &&& (3 : Int32)) % (3 : Int32)))), .val (.int ((1 : Int32) + ((((p2).toUInt32 >>> ((2 : Int32) &&& 31).toUInt32).toInt32 &&& (3 : Int32)) % (3 : Int32)))), .val (.int (((p2).toUInt32 >>> ((4 : Int32) &&& 31).toUInt32).toInt32 &&& (3 : Int32))), .val (.ref aC3), .val (.ref x_26), .val (.ref x_28), .val (.ref b30), .unset] [(.ref x_28), (.int (own_cpl cs_26))])) (fun _ kK => XS.aload X38.here hx rfl (hb hby at_114) rfl rfl kK) ?_
      have f39 : Exa Z T32.heap x_28 "java/lang/String" := ((r28_0.ext E30).keep Kq32)
      have f40 : Fld Z T32.heap x_28 "java/lang/String" "value" "[B" (.ref t_28) := ((r28_1.ext E30).keep Kq32 (own_nin1 (own_ne (by omega))))
      have f41 : Fld Z T32.heap x_28 "java/lang/String" "coder" "B" (.int cd_28) := ((r28_2.ext E30).keep Kq32 (own_nin1 (own_ne (by omega))))
      have f42 : Arv Z T32.heap t_28 kb_28 .byte N_28 vs_28 (.int (0 : Int32)) := ((r28_3.ext E30).keep Kq32 (own_nin1 (own_ne (by omega))))
      obtain ⟨_, _, ⟨T43, L43, k43, n43⟩, -, X43, ⟨Lc43, hQ43, l43, y43, z43⟩, st43⟩ := Jvm.LawKit.callS X38 hx (y := own_m22) hown (mvT hZ (own_w G 64 rfl)) (mvT hZ (own_w G 65 rfl)) (mvT hZ (own_w G 5 rfl)) (mvT hZ (own_w G 66 rfl)) (by decide) (backOf (W := 1) (rmlc l Z a0 G [] x_28 t_28 kb_28 N_28 vs_28 cd_28 cs_28 T32.heap n0 O33 f39 f40 f41 f42 r28_4 r28_5 r28_6) hZ (own_w G 66 rfl) (own_w G 5 rfl) (by decide) (by decide)) (g := (mkF m 116 #[.val (.int p0), .val (.int p1), .val (.int p2), .val (.long j3), .second, .val (.long j4), .second, .val (.int p5), .val (.int ((1 : Int32) + ((p2 &&& (3 : Int32)) % (3 : Int32)))), .val (.int ((1 : Int32) + ((((p2).toUInt32 >>> ((2 : Int32) &&& 31).toUInt32).toInt32 &&& (3 : Int32)) % (3 : Int32)))), .val (.int (((p2).toUInt32 >>> ((4 : Int32) &&& 31).toUInt32).toInt32 &&& (3 : Int32))), .val (.ref aC3), .val (.ref x_26), .val (.ref x_28), .val (.ref b30), .unset] [(.ref x_28), (.int (own_cpl cs_26))])) rfl (by rw [hml]; rfl) (argsL := [(.ref x_28)]) (rest := [(.int (own_cpl cs_26))]) (lenOf pd_25 rfl) rfl (by show 2 * 0 + _ ≤ _; exact Nat.le_of_eq rfl) (hb hby at_116) (fun _ _ => ⟨rfl, eh38, (by decide : 9 + 0 ≤ _), (by decide : 38 + 0 ≤ _)⟩)
      dsimp only [Pt.U, Pt.locs, Pt.cells, Pt.slots] at X43 l43 y43 z43 st43 hQ43
      subst l43 y43 z43
      obtain ⟨rfl, N43q, eh43⟩ := hQ43
      have N43 := Fr.app N38 N43q
      refine OwnEnd.of (S' := T43.setTop (mkF m 119 #[.val (.int p0), .val (.int p1), .val (.int p2), .val (.long j3), .second, .val (.long j4), .second, .val (.int p5), .val (.int ((1 : Int32) + ((p2 &&& (3 : Int32)) % (3 : Int32)))), .val (.int ((1 : Int32) + ((((p2).toUInt32 >>> ((2 : Int32) &&& 31).toUInt32).toInt32 &&& (3 : Int32)) % (3 : Int32)))), .val (.int (((p2).toUInt32 >>> ((4 : Int32) &&& 31).toUInt32).toInt32 &&& (3 : Int32))), .val (.ref aC3), .val (.ref x_26), .val (.ref x_28), .val (.ref b30), .unset] [(.int (own_cpl cs_28)), (.int (own_cpl cs_26))])) st43 ?_
      rcases Decidable.em ((own_cpl cs_26) = (own_cpl cs_28)) with hc44 | hc44
      · refine OwnEnd.of (S' := T43.setTop (mkF m 131 #[.val (.int p0), .val (.int p1), .val (.int p2), .val (.long j3), .second, .val (.long j4), .second, .val (.int p5), .val (.int ((1 : Int32) + ((p2 &&& (3 : Int32)) % (3 : Int32)))), .val (.int ((1 : Int32) + ((((p2).toUInt32 >>> ((2 : Int32) &&& 31).toUInt32).toInt32 &&& (3 : Int32)) % (3 : Int32)))), .val (.int (((p2).toUInt32 >>> ((4 : Int32) &&& 31).toUInt32).toInt32 &&& (3 : Int32))), .val (.ref aC3), .val (.ref x_26), .val (.ref x_28), .val (.ref b30), .val (.int (1 : Int32))] [(.ref b30)])) (fun _ kK => XS.icmpNo X43.here hx rfl (hb hby at_119) rfl (teq (hc44)).2 (XS.iconst X43.here hx rfl (hb hby at_122) (XS.goto X43.here hx rfl (pc0 := 123) (pc' := 127) rfl (hb hby at_123) (by decide) (by decide) (XS.istore X43.here hx rfl (hb hby at_127) rfl (l' := #[.val (.int p0), .val (.int p1), .val (.int p2), .val (.long j3), .second, .val (.long j4), .second, .val (.int p5), .val (.int ((1 : Int32) + ((p2 &&& (3 : Int32)) % (3 : Int32)))), .val (.int ((1 : Int32) + ((((p2).toUInt32 >>> ((2 : Int32) &&& 31).toUInt32).toInt32 &&& (3 : Int32)) % (3 : Int32)))), .val (.int (((p2).toUInt32 >>> ((4 : Int32) &&& 31).toUInt32).toInt32 &&& (3 : Int32))), .val (.ref aC3), .val (.ref x_26), .val (.ref x_28), .val (.ref b30), .val (.int (1 : Int32))]) rfl (XS.aload X43.here hx rfl (hb hby at_129) rfl rfl kK))))) ?_
        obtain ⟨cq45, kq45, q45a, q45b, q45c⟩ := isOf hZ eh43 r32_0
        obtain ⟨_, _, ⟨T45, L45, k45, n45⟩, -, X45, ⟨Lc45, hQ45, l45, y45, z45⟩, st45⟩ := X43.virtualBack hx (y := own_m31) (z := own_m31) hown (mvT hZ (own_w G 100 rfl)) (mvT hZ (own_w G 101 rfl)) (notFace_of_selects (args := #[]) (mvT hZ (own_w G 103 rfl))) (mvT hZ (own_w G 103 rfl)) (mvT hZ (own_w G 102 rfl)) (by decide) (backOf (W := 0) (rmlm l Z a0 G [] b30 x_26 t_26 kb_26 N_26 vs_26 cd_26 cs_26 x_28 t_28 kb_28 N_28 vs_28 cd_28 cs_28 T32.heap n0 O33 r32_1 r32_2 f34 f35 f36 f37 r26_4 r26_5 r26_6 f39 f40 f41 f42 r28_4 r28_5 r28_6) hZ (own_w G 104 rfl) (own_w G 42 rfl) (by decide) (by decide)) q45a q45c (g := (mkF m 131 #[.val (.int p0), .val (.int p1), .val (.int p2), .val (.long j3), .second, .val (.long j4), .second, .val (.int p5), .val (.int ((1 : Int32) + ((p2 &&& (3 : Int32)) % (3 : Int32)))), .val (.int ((1 : Int32) + ((((p2).toUInt32 >>> ((2 : Int32) &&& 31).toUInt32).toInt32 &&& (3 : Int32)) % (3 : Int32)))), .val (.int (((p2).toUInt32 >>> ((4 : Int32) &&& 31).toUInt32).toInt32 &&& (3 : Int32))), .val (.ref aC3), .val (.ref x_26), .val (.ref x_28), .val (.ref b30), .val (.int (1 : Int32))] [(.ref b30)])) rfl (by rw [hml]; rfl) (Steps.refl _) (argsL := []) (rest := []) (lenOf pd_6 rfl) rfl (by show 2 * 0 + _ ≤ _; exact Nat.le_of_eq rfl) (hb hby at_131) (fun _ _ => ⟨rfl, eh43, (by decide : 9 + 0 ≤ _), (by decide : 38 + 0 ≤ _)⟩)
        dsimp only [Pt.U, Pt.locs, Pt.cells, Pt.slots] at X45 l45 y45 z45 st45 hQ45
        subst l45 y45 z45
        obtain ⟨rfl, N45q, eh45⟩ := hQ45
        have N45 := Fr.app N43 N45q
        refine OwnEnd.tr (S' := T45.setTop (mkF m 134 #[.val (.int p0), .val (.int p1), .val (.int p2), .val (.long j3), .second, .val (.long j4), .second, .val (.int p5), .val (.int ((1 : Int32) + ((p2 &&& (3 : Int32)) % (3 : Int32)))), .val (.int ((1 : Int32) + ((((p2).toUInt32 >>> ((2 : Int32) &&& 31).toUInt32).toInt32 &&& (3 : Int32)) % (3 : Int32)))), .val (.int (((p2).toUInt32 >>> ((4 : Int32) &&& 31).toUInt32).toInt32 &&& (3 : Int32))), .val (.ref aC3), .val (.ref x_26), .val (.ref x_28), .val (.ref b30), .val (.int (1 : Int32))] [(.int (if own_cpl cs_26 = own_cpl cs_28 then 1 else 0))])) st45 ?_
        refine OwnEnd.of (S' := T45.setTop (mkF m 136 #[.val (.int p0), .val (.int p1), .val (.int p2), .val (.long j3), .second, .val (.long j4), .second, .val (.int p5), .val (.int ((1 : Int32) + ((p2 &&& (3 : Int32)) % (3 : Int32)))), .val (.int ((1 : Int32) + ((((p2).toUInt32 >>> ((2 : Int32) &&& 31).toUInt32).toInt32 &&& (3 : Int32)) % (3 : Int32)))), .val (.int (((p2).toUInt32 >>> ((4 : Int32) &&& 31).toUInt32).toInt32 &&& (3 : Int32))), .val (.ref aC3), .val (.ref x_26), .val (.ref x_28), .val (.ref b30), .val (.int (1 : Int32))] [(.int (1 : Int32)), (.int (if own_cpl cs_26 = own_cpl cs_28 then 1 else 0))])) (fun _ kK => XS.iload X45.here hx rfl (hb hby at_134) rfl kK) ?_
        have hfin : (if own_cpl cs_26 = own_cpl cs_28 then 1 else 0) = (1 : Int32) := by simp [hc44]
        refine OwnEnd.of (S' := T45.setTop (mkF m 144 #[.val (.int p0), .val (.int p1), .val (.int p2), .val (.long j3), .second, .val (.long j4), .second, .val (.int p5), .val (.int ((1 : Int32) + ((p2 &&& (3 : Int32)) % (3 : Int32)))), .val (.int ((1 : Int32) + ((((p2).toUInt32 >>> ((2 : Int32) &&& 31).toUInt32).toInt32 &&& (3 : Int32)) % (3 : Int32)))), .val (.int (((p2).toUInt32 >>> ((4 : Int32) &&& 31).toUInt32).toInt32 &&& (3 : Int32))), .val (.ref aC3), .val (.ref x_26), .val (.ref x_28), .val (.ref b30), .val (.int (1 : Int32))] [(.int (1 : Int32))])) (fun _ kK => XS.icmpNo X45.here hx rfl (hb hby at_136) rfl (teq (hfin)).2 (XS.iconst X45.here hx rfl (hb hby at_139) (XS.goto X45.here hx rfl (pc0 := 140) (pc' := 144) rfl (hb hby at_140) (by decide) (by decide) kK))) ?_
        refine OwnEnd.ret X45 (v := (some (.int (nar .boolean (1 : Int32))))) (fun h => by rw [Bd.returns] at h; cases h) hlk (fun fs hr => retN X45 hx (t := .boolean) Bd.returns (by simp) (hb hby at_144) hr) (by decide) (by decide) (Q := Qlaw Z p0 p1 p2 j3 j4 p5 h0 n0) eh45 ?_
        exact ⟨rfl, N45, K33⟩
      · refine OwnEnd.of (S' := T43.setTop (mkF m 131 #[.val (.int p0), .val (.int p1), .val (.int p2), .val (.long j3), .second, .val (.long j4), .second, .val (.int p5), .val (.int ((1 : Int32) + ((p2 &&& (3 : Int32)) % (3 : Int32)))), .val (.int ((1 : Int32) + ((((p2).toUInt32 >>> ((2 : Int32) &&& 31).toUInt32).toInt32 &&& (3 : Int32)) % (3 : Int32)))), .val (.int (((p2).toUInt32 >>> ((4 : Int32) &&& 31).toUInt32).toInt32 &&& (3 : Int32))), .val (.ref aC3), .val (.ref x_26), .val (.ref x_28), .val (.ref b30), .val (.int (0 : Int32))] [(.ref b30)])) (fun _ kK => XS.icmpYes X43.here hx rfl (pc0 := 119) (pc' := 126) rfl (hb hby at_119) rfl (feq (hc44)).2 (by decide) (by decide) (XS.iconst X43.here hx rfl (hb hby at_126) (XS.istore X43.here hx rfl (hb hby at_127) rfl (l' := #[.val (.int p0), .val (.int p1), .val (.int p2), .val (.long j3), .second, .val (.long j4), .second, .val (.int p5), .val (.int ((1 : Int32) + ((p2 &&& (3 : Int32)) % (3 : Int32)))), .val (.int ((1 : Int32) + ((((p2).toUInt32 >>> ((2 : Int32) &&& 31).toUInt32).toInt32 &&& (3 : Int32)) % (3 : Int32)))), .val (.int (((p2).toUInt32 >>> ((4 : Int32) &&& 31).toUInt32).toInt32 &&& (3 : Int32))), .val (.ref aC3), .val (.ref x_26), .val (.ref x_28), .val (.ref b30), .val (.int (0 : Int32))]) rfl (XS.aload X43.here hx rfl (hb hby at_129) rfl rfl kK)))) ?_
        obtain ⟨cq46, kq46, q46a, q46b, q46c⟩ := isOf hZ eh43 r32_0
        obtain ⟨_, _, ⟨T46, L46, k46, n46⟩, -, X46, ⟨Lc46, hQ46, l46, y46, z46⟩, st46⟩ := X43.virtualBack hx (y := own_m31) (z := own_m31) hown (mvT hZ (own_w G 100 rfl)) (mvT hZ (own_w G 101 rfl)) (notFace_of_selects (args := #[]) (mvT hZ (own_w G 103 rfl))) (mvT hZ (own_w G 103 rfl)) (mvT hZ (own_w G 102 rfl)) (by decide) (backOf (W := 0) (rmlm l Z a0 G [] b30 x_26 t_26 kb_26 N_26 vs_26 cd_26 cs_26 x_28 t_28 kb_28 N_28 vs_28 cd_28 cs_28 T32.heap n0 O33 r32_1 r32_2 f34 f35 f36 f37 r26_4 r26_5 r26_6 f39 f40 f41 f42 r28_4 r28_5 r28_6) hZ (own_w G 104 rfl) (own_w G 42 rfl) (by decide) (by decide)) q46a q46c (g := (mkF m 131 #[.val (.int p0), .val (.int p1), .val (.int p2), .val (.long j3), .second, .val (.long j4), .second, .val (.int p5), .val (.int ((1 : Int32) + ((p2 &&& (3 : Int32)) % (3 : Int32)))), .val (.int ((1 : Int32) + ((((p2).toUInt32 >>> ((2 : Int32) &&& 31).toUInt32).toInt32 &&& (3 : Int32)) % (3 : Int32)))), .val (.int (((p2).toUInt32 >>> ((4 : Int32) &&& 31).toUInt32).toInt32 &&& (3 : Int32))), .val (.ref aC3), .val (.ref x_26), .val (.ref x_28), .val (.ref b30), .val (.int (0 : Int32))] [(.ref b30)])) rfl (by rw [hml]; rfl) (Steps.refl _) (argsL := []) (rest := []) (lenOf pd_6 rfl) rfl (by show 2 * 0 + _ ≤ _; exact Nat.le_of_eq rfl) (hb hby at_131) (fun _ _ => ⟨rfl, eh43, (by decide : 9 + 0 ≤ _), (by decide : 38 + 0 ≤ _)⟩)
        dsimp only [Pt.U, Pt.locs, Pt.cells, Pt.slots] at X46 l46 y46 z46 st46 hQ46
        subst l46 y46 z46
        obtain ⟨rfl, N46q, eh46⟩ := hQ46
        have N46 := Fr.app N43 N46q
        refine OwnEnd.tr (S' := T46.setTop (mkF m 134 #[.val (.int p0), .val (.int p1), .val (.int p2), .val (.long j3), .second, .val (.long j4), .second, .val (.int p5), .val (.int ((1 : Int32) + ((p2 &&& (3 : Int32)) % (3 : Int32)))), .val (.int ((1 : Int32) + ((((p2).toUInt32 >>> ((2 : Int32) &&& 31).toUInt32).toInt32 &&& (3 : Int32)) % (3 : Int32)))), .val (.int (((p2).toUInt32 >>> ((4 : Int32) &&& 31).toUInt32).toInt32 &&& (3 : Int32))), .val (.ref aC3), .val (.ref x_26), .val (.ref x_28), .val (.ref b30), .val (.int (0 : Int32))] [(.int (if own_cpl cs_26 = own_cpl cs_28 then 1 else 0))])) st46 ?_
        refine OwnEnd.of (S' := T46.setTop (mkF m 136 #[.val (.int p0), .val (.int p1), .val (.int p2), .val (.long j3), .second, .val (.long j4), .second, .val (.int p5), .val (.int ((1 : Int32) + ((p2 &&& (3 : Int32)) % (3 : Int32)))), .val (.int ((1 : Int32) + ((((p2).toUInt32 >>> ((2 : Int32) &&& 31).toUInt32).toInt32 &&& (3 : Int32)) % (3 : Int32)))), .val (.int (((p2).toUInt32 >>> ((4 : Int32) &&& 31).toUInt32).toInt32 &&& (3 : Int32))), .val (.ref aC3), .val (.ref x_26), .val (.ref x_28), .val (.ref b30), .val (.int (0 : Int32))] [(.int (0 : Int32)), (.int (if own_cpl cs_26 = own_cpl cs_28 then 1 else 0))])) (fun _ kK => XS.iload X46.here hx rfl (hb hby at_134) rfl kK) ?_
        have hfin : (if own_cpl cs_26 = own_cpl cs_28 then 1 else 0) = (0 : Int32) := by simp [hc44]
        refine OwnEnd.of (S' := T46.setTop (mkF m 144 #[.val (.int p0), .val (.int p1), .val (.int p2), .val (.long j3), .second, .val (.long j4), .second, .val (.int p5), .val (.int ((1 : Int32) + ((p2 &&& (3 : Int32)) % (3 : Int32)))), .val (.int ((1 : Int32) + ((((p2).toUInt32 >>> ((2 : Int32) &&& 31).toUInt32).toInt32 &&& (3 : Int32)) % (3 : Int32)))), .val (.int (((p2).toUInt32 >>> ((4 : Int32) &&& 31).toUInt32).toInt32 &&& (3 : Int32))), .val (.ref aC3), .val (.ref x_26), .val (.ref x_28), .val (.ref b30), .val (.int (0 : Int32))] [(.int (1 : Int32))])) (fun _ kK => XS.icmpNo X46.here hx rfl (hb hby at_136) rfl (teq (hfin)).2 (XS.iconst X46.here hx rfl (hb hby at_139) (XS.goto X46.here hx rfl (pc0 := 140) (pc' := 144) rfl (hb hby at_140) (by decide) (by decide) kK))) ?_
        refine OwnEnd.ret X46 (v := (some (.int (nar .boolean (1 : Int32))))) (fun h => by rw [Bd.returns] at h; cases h) hlk (fun fs hr => retN X46 hx (t := .boolean) Bd.returns (by simp) (hb hby at_144) hr) (by decide) (by decide) (Q := Qlaw Z p0 p1 p2 j3 j4 p5 h0 n0) eh46 ?_
        exact ⟨rfl, N46, K33⟩
    · refine OwnEnd.of (S' := s₁.setTop (mkF m 57 #[.val (.int p0), .val (.int p1), .val (.int p2), .val (.long j3), .second, .val (.long j4), .second, .val (.int p5), .val (.int ((1 : Int32) + ((p2 &&& (3 : Int32)) % (3 : Int32)))), .val (.int ((1 : Int32) + ((((p2).toUInt32 >>> ((2 : Int32) &&& 31).toUInt32).toInt32 &&& (3 : Int32)) % (3 : Int32)))), .val (.int (((p2).toUInt32 >>> ((4 : Int32) &&& 31).toUInt32).toInt32 &&& (3 : Int32))), .unset, .unset, .unset, .unset, .unset] [(.int (2 : Int32)), (.int (((p2).toUInt32 >>> ((4 : Int32) &&& 31).toUInt32).toInt32 &&& (3 : Int32)))])) (fun _ kK => XS.icmpYes X0.here hx rfl (pc0 := 43) (pc' := 54) rfl (hb hby at_43) rfl (feq (hc24)).2 (by decide) (by decide) (XS.iload X0.here hx rfl (hb hby at_54) rfl (XS.iconst X0.here hx rfl (hb hby at_56) kK))) ?_
      rcases Decidable.em ((((p2).toUInt32 >>> ((4 : Int32) &&& 31).toUInt32).toInt32 &&& (3 : Int32)) = (2 : Int32)) with hc47 | hc47
      · refine OwnEnd.of (S' := s₁.setTop (mkF m 60 #[.val (.int p0), .val (.int p1), .val (.int p2), .val (.long j3), .second, .val (.long j4), .second, .val (.int p5), .val (.int ((1 : Int32) + ((p2 &&& (3 : Int32)) % (3 : Int32)))), .val (.int ((1 : Int32) + ((((p2).toUInt32 >>> ((2 : Int32) &&& 31).toUInt32).toInt32 &&& (3 : Int32)) % (3 : Int32)))), .val (.int (((p2).toUInt32 >>> ((4 : Int32) &&& 31).toUInt32).toInt32 &&& (3 : Int32))), .unset, .unset, .unset, .unset, .unset] [])) (fun _ kK => XS.icmpNo X0.here hx rfl (hb hby at_57) rfl (teq (hc47)).2 kK) ?_
        obtain ⟨T48, X48, e48, st48⟩ := getS2 X0 hx hZ hown (host := "") (Or.inl (own_w G 156 rfl)) Via.refl e0 (SC2.ext O0.2) (g := (mkF m 60 #[.val (.int p0), .val (.int p1), .val (.int p2), .val (.long j3), .second, .val (.long j4), .second, .val (.int p5), .val (.int ((1 : Int32) + ((p2 &&& (3 : Int32)) % (3 : Int32)))), .val (.int ((1 : Int32) + ((((p2).toUInt32 >>> ((2 : Int32) &&& 31).toUInt32).toInt32 &&& (3 : Int32)) % (3 : Int32)))), .val (.int (((p2).toUInt32 >>> ((4 : Int32) &&& 31).toUInt32).toInt32 &&& (3 : Int32))), .unset, .unset, .unset, .unset, .unset] [])) rfl (hb hby at_60)
        refine OwnEnd.of (S' := T48.setTop (mkF m 63 #[.val (.int p0), .val (.int p1), .val (.int p2), .val (.long j3), .second, .val (.long j4), .second, .val (.int p5), .val (.int ((1 : Int32) + ((p2 &&& (3 : Int32)) % (3 : Int32)))), .val (.int ((1 : Int32) + ((((p2).toUInt32 >>> ((2 : Int32) &&& 31).toUInt32).toInt32 &&& (3 : Int32)) % (3 : Int32)))), .val (.int (((p2).toUInt32 >>> ((4 : Int32) &&& 31).toUInt32).toInt32 &&& (3 : Int32))), .unset, .unset, .unset, .unset, .unset] [(.ref aC2)])) st48 ?_
        refine OwnEnd.of (S' := T48.setTop (mkF m 76 #[.val (.int p0), .val (.int p1), .val (.int p2), .val (.long j3), .second, .val (.long j4), .second, .val (.int p5), .val (.int ((1 : Int32) + ((p2 &&& (3 : Int32)) % (3 : Int32)))), .val (.int ((1 : Int32) + ((((p2).toUInt32 >>> ((2 : Int32) &&& 31).toUInt32).toInt32 &&& (3 : Int32)) % (3 : Int32)))), .val (.int (((p2).toUInt32 >>> ((4 : Int32) &&& 31).toUInt32).toInt32 &&& (3 : Int32))), .val (.ref aC2), .unset, .unset, .unset, .unset] [(.int ((1 : Int32) + ((p2 &&& (3 : Int32)) % (3 : Int32)))), (.int p0)])) (fun _ kK => XS.astore X48.here hx rfl (hb hby at_63) rfl rfl (l' := #[.val (.int p0), .val (.int p1), .val (.int p2), .val (.long j3), .second, .val (.long j4), .second, .val (.int p5), .val (.int ((1 : Int32) + ((p2 &&& (3 : Int32)) % (3 : Int32)))), .val (.int ((1 : Int32) + ((((p2).toUInt32 >>> ((2 : Int32) &&& 31).toUInt32).toInt32 &&& (3 : Int32)) % (3 : Int32)))), .val (.int (((p2).toUInt32 >>> ((4 : Int32) &&& 31).toUInt32).toInt32 &&& (3 : Int32))), .val (.ref aC2), .unset, .unset, .unset, .unset]) rfl (XS.goto X48.here hx rfl (pc0 := 65) (pc' := 73) rfl (hb hby at_65) (by decide) (by decide) (XS.iloadN X48.here hx rfl (hb hby at_73) rfl (XS.iload X48.here hx rfl (hb hby at_74) rfl kK)))) ?_
        obtain ⟨_, _, ⟨T49, L49, k49, n49⟩, -, X49, ⟨Lc49, hQ49, l49, y49, z49⟩, st49⟩ := Jvm.LawKit.callS X48 hx (y := own_m21) hown (mvT hZ (own_w G 3 rfl)) (mvT hZ (own_w G 4 rfl)) (mvT hZ (own_w G 5 rfl)) (mvT hZ (own_w G 6 rfl)) (by decide) (backOf (W := 0) (rmmk l Z a0 G [] p0 ((1 : Int32) + ((p2 &&& (3 : Int32)) % (3 : Int32))) h0 n0 O0 ) hZ (own_w G 6 rfl) (own_w G 5 rfl) (by decide) (by decide)) (g := (mkF m 76 #[.val (.int p0), .val (.int p1), .val (.int p2), .val (.long j3), .second, .val (.long j4), .second, .val (.int p5), .val (.int ((1 : Int32) + ((p2 &&& (3 : Int32)) % (3 : Int32)))), .val (.int ((1 : Int32) + ((((p2).toUInt32 >>> ((2 : Int32) &&& 31).toUInt32).toInt32 &&& (3 : Int32)) % (3 : Int32)))), .val (.int (((p2).toUInt32 >>> ((4 : Int32) &&& 31).toUInt32).toInt32 &&& (3 : Int32))), .val (.ref aC2), .unset, .unset, .unset, .unset] [(.int ((1 : Int32) + ((p2 &&& (3 : Int32)) % (3 : Int32)))), (.int p0)])) rfl (by rw [hml]; rfl) (argsL := [(.int p0), (.int ((1 : Int32) + ((p2 &&& (3 : Int32)) % (3 : Int32))))]) (rest := []) (lenOf pd_23 rfl) rfl (by show 2 * 0 + _ ≤ _; exact Nat.le_of_eq rfl) (hb hby at_76) (fun _ _ => ⟨rfl, e48, (by decide : 0 + 4 ≤ _), (by decide : 0 + 16 ≤ _)⟩)
        dsimp only [Pt.U, Pt.locs, Pt.cells, Pt.slots] at X49 l49 y49 z49 st49 hQ49
        subst l49 y49 z49
        obtain ⟨x_49, t_49, kb_49, N_49, vs_49, cd_49, cs_49, rfl, N49q, Kq49, r49_0, r49_1, r49_2, r49_3, r49_4, r49_5, r49_6, r49_7, r49_8⟩ := hQ49
        have N49 := Fr.app N0 N49q
        have sz50 := Kq49.1
        have K50 := K0.trans Kq49 (own_all0 )
        have O50 := O0.keep Kq49 (own_all0 )
        have ltr49_0 := own_ltN' r49_0.lt
        have ltr49_1 := own_ltN' r49_1.lt
        have ltr49_2 := own_ltN' r49_2.lt
        have ltr49_3 := own_ltN' r49_3.lt
        refine OwnEnd.of (S' := T49.setTop (mkF m 79 #[.val (.int p0), .val (.int p1), .val (.int p2), .val (.long j3), .second, .val (.long j4), .second, .val (.int p5), .val (.int ((1 : Int32) + ((p2 &&& (3 : Int32)) % (3 : Int32)))), .val (.int ((1 : Int32) + ((((p2).toUInt32 >>> ((2 : Int32) &&& 31).toUInt32).toInt32 &&& (3 : Int32)) % (3 : Int32)))), .val (.int (((p2).toUInt32 >>> ((4 : Int32) &&& 31).toUInt32).toInt32 &&& (3 : Int32))), .val (.ref aC2), .unset, .unset, .unset, .unset] [(.ref x_49)])) st49 ?_
        refine OwnEnd.of (S' := T49.setTop (mkF m 84 #[.val (.int p0), .val (.int p1), .val (.int p2), .val (.long j3), .second, .val (.long j4), .second, .val (.int p5), .val (.int ((1 : Int32) + ((p2 &&& (3 : Int32)) % (3 : Int32)))), .val (.int ((1 : Int32) + ((((p2).toUInt32 >>> ((2 : Int32) &&& 31).toUInt32).toInt32 &&& (3 : Int32)) % (3 : Int32)))), .val (.int (((p2).toUInt32 >>> ((4 : Int32) &&& 31).toUInt32).toInt32 &&& (3 : Int32))), .val (.ref aC2), .val (.ref x_49), .unset, .unset, .unset] [(.int ((1 : Int32) + ((((p2).toUInt32 >>> ((2 : Int32) &&& 31).toUInt32).toInt32 &&& (3 : Int32)) % (3 : Int32)))), (.int p1)])) (fun _ kK => XS.astore X49.here hx rfl (hb hby at_79) rfl rfl (l' := #[.val (.int p0), .val (.int p1), .val (.int p2), .val (.long j3), .second, .val (.long j4), .second, .val (.int p5), .val (.int ((1 : Int32) + ((p2 &&& (3 : Int32)) % (3 : Int32)))), .val (.int ((1 : Int32) + ((((p2).toUInt32 >>> ((2 : Int32) &&& 31).toUInt32).toInt32 &&& (3 : Int32)) % (3 : Int32)))), .val (.int (((p2).toUInt32 >>> ((4 : Int32) &&& 31).toUInt32).toInt32 &&& (3 : Int32))), .val (.ref aC2), .val (.ref x_49), .unset, .unset, .unset]) rfl (XS.iloadN X49.here hx rfl (hb hby at_81) rfl (XS.iload X49.here hx rfl (hb hby at_82) rfl kK))) ?_
        obtain ⟨_, _, ⟨T51, L51, k51, n51⟩, -, X51, ⟨Lc51, hQ51, l51, y51, z51⟩, st51⟩ := Jvm.LawKit.callS X49 hx (y := own_m21) hown (mvT hZ (own_w G 3 rfl)) (mvT hZ (own_w G 4 rfl)) (mvT hZ (own_w G 5 rfl)) (mvT hZ (own_w G 6 rfl)) (by decide) (backOf (W := 0) (rmmk l Z a0 G [] p1 ((1 : Int32) + ((((p2).toUInt32 >>> ((2 : Int32) &&& 31).toUInt32).toInt32 &&& (3 : Int32)) % (3 : Int32))) T49.heap n0 O50 ) hZ (own_w G 6 rfl) (own_w G 5 rfl) (by decide) (by decide)) (g := (mkF m 84 #[.val (.int p0), .val (.int p1), .val (.int p2), .val (.long j3), .second, .val (.long j4), .second, .val (.int p5), .val (.int ((1 : Int32) + ((p2 &&& (3 : Int32)) % (3 : Int32)))), .val (.int ((1 : Int32) + ((((p2).toUInt32 >>> ((2 : Int32) &&& 31).toUInt32).toInt32 &&& (3 : Int32)) % (3 : Int32)))), .val (.int (((p2).toUInt32 >>> ((4 : Int32) &&& 31).toUInt32).toInt32 &&& (3 : Int32))), .val (.ref aC2), .val (.ref x_49), .unset, .unset, .unset] [(.int ((1 : Int32) + ((((p2).toUInt32 >>> ((2 : Int32) &&& 31).toUInt32).toInt32 &&& (3 : Int32)) % (3 : Int32)))), (.int p1)])) rfl (by rw [hml]; rfl) (argsL := [(.int p1), (.int ((1 : Int32) + ((((p2).toUInt32 >>> ((2 : Int32) &&& 31).toUInt32).toInt32 &&& (3 : Int32)) % (3 : Int32))))]) (rest := []) (lenOf pd_23 rfl) rfl (by show 2 * 0 + _ ≤ _; exact Nat.le_of_eq rfl) (hb hby at_84) (fun _ _ => ⟨rfl, rfl, (by decide : 4 + 4 ≤ _), (by decide : 16 + 16 ≤ _)⟩)
        dsimp only [Pt.U, Pt.locs, Pt.cells, Pt.slots] at X51 l51 y51 z51 st51 hQ51
        subst l51 y51 z51
        obtain ⟨x_51, t_51, kb_51, N_51, vs_51, cd_51, cs_51, rfl, N51q, Kq51, r51_0, r51_1, r51_2, r51_3, r51_4, r51_5, r51_6, r51_7, r51_8⟩ := hQ51
        have N51 := Fr.app N49 N51q
        have sz52 := Kq51.1
        have K52 := K50.trans Kq51 (own_all0 )
        have O52 := O50.keep Kq51 (own_all0 )
        have ltr51_0 := own_ltN' r51_0.lt
        have ltr51_1 := own_ltN' r51_1.lt
        have ltr51_2 := own_ltN' r51_2.lt
        have ltr51_3 := own_ltN' r51_3.lt
        refine OwnEnd.of (S' := T51.setTop (mkF m 87 #[.val (.int p0), .val (.int p1), .val (.int p2), .val (.long j3), .second, .val (.long j4), .second, .val (.int p5), .val (.int ((1 : Int32) + ((p2 &&& (3 : Int32)) % (3 : Int32)))), .val (.int ((1 : Int32) + ((((p2).toUInt32 >>> ((2 : Int32) &&& 31).toUInt32).toInt32 &&& (3 : Int32)) % (3 : Int32)))), .val (.int (((p2).toUInt32 >>> ((4 : Int32) &&& 31).toUInt32).toInt32 &&& (3 : Int32))), .val (.ref aC2), .val (.ref x_49), .unset, .unset, .unset] [(.ref x_51)])) st51 ?_
        refine OwnEnd.of (S' := T51.setTop (mkF m 89 #[.val (.int p0), .val (.int p1), .val (.int p2), .val (.long j3), .second, .val (.long j4), .second, .val (.int p5), .val (.int ((1 : Int32) + ((p2 &&& (3 : Int32)) % (3 : Int32)))), .val (.int ((1 : Int32) + ((((p2).toUInt32 >>> ((2 : Int32) &&& 31).toUInt32).toInt32 &&& (3 : Int32)) % (3 : Int32)))), .val (.int (((p2).toUInt32 >>> ((4 : Int32) &&& 31).toUInt32).toInt32 &&& (3 : Int32))), .val (.ref aC2), .val (.ref x_49), .val (.ref x_51), .unset, .unset] [])) (fun _ kK => XS.astore X51.here hx rfl (hb hby at_87) rfl rfl (l' := #[.val (.int p0), .val (.int p1), .val (.int p2), .val (.long j3), .second, .val (.long j4), .second, .val (.int p5), .val (.int ((1 : Int32) + ((p2 &&& (3 : Int32)) % (3 : Int32)))), .val (.int ((1 : Int32) + ((((p2).toUInt32 >>> ((2 : Int32) &&& 31).toUInt32).toInt32 &&& (3 : Int32)) % (3 : Int32)))), .val (.int (((p2).toUInt32 >>> ((4 : Int32) &&& 31).toUInt32).toInt32 &&& (3 : Int32))), .val (.ref aC2), .val (.ref x_49), .val (.ref x_51), .unset, .unset]) rfl kK) ?_
        obtain ⟨T53, h53, X53, e53, E53, A53, D53, -, st53⟩ := newO X51 hx hZ hown (own_w G 40 rfl) (own_w G 41 rfl) (own_w G 42 rfl) rfl (g := (mkF m 89 #[.val (.int p0), .val (.int p1), .val (.int p2), .val (.long j3), .second, .val (.long j4), .second, .val (.int p5), .val (.int ((1 : Int32) + ((p2 &&& (3 : Int32)) % (3 : Int32)))), .val (.int ((1 : Int32) + ((((p2).toUInt32 >>> ((2 : Int32) &&& 31).toUInt32).toInt32 &&& (3 : Int32)) % (3 : Int32)))), .val (.int (((p2).toUInt32 >>> ((4 : Int32) &&& 31).toUInt32).toInt32 &&& (3 : Int32))), .val (.ref aC2), .val (.ref x_49), .val (.ref x_51), .unset, .unset] [])) rfl (hb hby at_89) (by decide) (by decide)
        obtain ⟨b53, g53⟩ : ∃ z, z = Array.size T51.heap := ⟨_, rfl⟩
        rw [← g53] at A53 D53 st53
        have lt_b53 := own_ltN' A53.lt
        have sz54 := E53.1
        have K54 := K52.ext E53
        have O54 := O52.ext E53
        have F53_misspelling : Fld Z h53 b53 "com/example/collie/collie/engine/MinedPair" "misspelling" "Ljava/lang/String;" .null := D53 (Or.inr (own_w G 53 rfl)) (ty := (.object "java/lang/String")) (by decide)
        have F53_correction : Fld Z h53 b53 "com/example/collie/collie/engine/MinedPair" "correction" "Ljava/lang/String;" .null := D53 (Or.inr (own_w G 55 rfl)) (ty := (.object "java/lang/String")) (by decide)
        have F53_misspellingCount : Fld Z h53 b53 "com/example/collie/collie/engine/MinedPair" "misspellingCount" "J" (.long (0 : Int64)) := D53 (Or.inr (own_w G 57 rfl)) (ty := .long) (by decide)
        have F53_correctionCount : Fld Z h53 b53 "com/example/collie/collie/engine/MinedPair" "correctionCount" "J" (.long (0 : Int64)) := D53 (Or.inr (own_w G 59 rfl)) (ty := .long) (by decide)
        have F53_type : Fld Z h53 b53 "com/example/collie/collie/engine/MinedPair" "type" "Lcom/example/collie/collie/engine/CorrectionType;" .null := D53 (Or.inr (own_w G 61 rfl)) (ty := (.object "com/example/collie/collie/engine/CorrectionType")) (by decide)
        have F53_distance : Fld Z h53 b53 "com/example/collie/collie/engine/MinedPair" "distance" "I" (.int (0 : Int32)) := D53 (Or.inr (own_w G 63 rfl)) (ty := .int) (by decide)
        refine OwnEnd.of (S' := T53.setTop (mkF m 92 #[.val (.int p0), .val (.int p1), .val (.int p2), .val (.long j3), .second, .val (.long j4), .second, .val (.int p5), .val (.int ((1 : Int32) + ((p2 &&& (3 : Int32)) % (3 : Int32)))), .val (.int ((1 : Int32) + ((((p2).toUInt32 >>> ((2 : Int32) &&& 31).toUInt32).toInt32 &&& (3 : Int32)) % (3 : Int32)))), .val (.int (((p2).toUInt32 >>> ((4 : Int32) &&& 31).toUInt32).toInt32 &&& (3 : Int32))), .val (.ref aC2), .val (.ref x_49), .val (.ref x_51), .unset, .unset] [(.ref b53)])) st53 ?_
        refine OwnEnd.of (S' := T53.setTop (mkF m 104 #[.val (.int p0), .val (.int p1), .val (.int p2), .val (.long j3), .second, .val (.long j4), .second, .val (.int p5), .val (.int ((1 : Int32) + ((p2 &&& (3 : Int32)) % (3 : Int32)))), .val (.int ((1 : Int32) + ((((p2).toUInt32 >>> ((2 : Int32) &&& 31).toUInt32).toInt32 &&& (3 : Int32)) % (3 : Int32)))), .val (.int (((p2).toUInt32 >>> ((4 : Int32) &&& 31).toUInt32).toInt32 &&& (3 : Int32))), .val (.ref aC2), .val (.ref x_49), .val (.ref x_51), .unset, .unset] [(.int p5), (.ref aC2), (.long j4), (.long j3), (.ref x_51), (.ref x_49), (.ref b53), (.ref b53)])) (fun _ kK => XS.dup X53.here hx rfl (hb hby at_92) rfl rfl (XS.aload X53.here hx rfl (hb hby at_93) rfl rfl (XS.aload X53.here hx rfl (hb hby at_95) rfl rfl (XS.lloadN X53.here hx rfl (hb hby at_97) rfl (XS.lload X53.here hx rfl (hb hby at_98) rfl (XS.aload X53.here hx rfl (hb hby at_100) rfl rfl (XS.iload X53.here hx rfl (hb hby at_102) rfl kK))))))) ?_
        obtain ⟨_, _, ⟨T55, L55, k55, n55⟩, -, X55, ⟨Lc55, hQ55, l55, y55, z55⟩, st55⟩ := Jvm.Stand.specialBack X53 hx (y := own_m30) rfl hown (mvT hZ (own_w G 43 rfl)) (mvT hZ (own_w G 44 rfl)) (mvT hZ (own_w G 45 rfl)) (by decide) (backOf (W := 1) (rmmi l Z a0 G [] b53 x_49 x_51 j3 j4 aC2 p5 .null .null (.long (0 : Int64)) (.long (0 : Int64)) .null (.int (0 : Int32)) h53 n0 O54 A53 F53_misspelling F53_correction F53_misspellingCount F53_correctionCount F53_type F53_distance (by omega)) hZ (own_w G 45 rfl) (own_w G 42 rfl) (by decide) (by decide)) (g := (mkF m 104 #[.val (.int p0), .val (.int p1), .val (.int p2), .val (.long j3), .second, .val (.long j4), .second, .val (.int p5), .val (.int ((1 : Int32) + ((p2 &&& (3 : Int32)) % (3 : Int32)))), .val (.int ((1 : Int32) + ((((p2).toUInt32 >>> ((2 : Int32) &&& 31).toUInt32).toInt32 &&& (3 : Int32)) % (3 : Int32)))), .val (.int (((p2).toUInt32 >>> ((4 : Int32) &&& 31).toUInt32).toInt32 &&& (3 : Int32))), .val (.ref aC2), .val (.ref x_49), .val (.ref x_51), .unset, .unset] [(.int p5), (.ref aC2), (.long j4), (.long j3), (.ref x_51), (.ref x_49), (.ref b53), (.ref b53)])) rfl (by rw [hml]; rfl) (Steps.refl _) (a := b53) (argsL := [(.ref x_49), (.ref x_51), (.long j3), (.long j4), (.ref aC2), (.int p5)]) (rest := [(.ref b53)]) (lenOf pd_24 rfl) rfl (by show 2 * 0 + _ ≤ _; exact Nat.le_of_eq rfl) (hb hby at_104) (fun _ _ => ⟨rfl, e53, (by decide : 9 + 0 ≤ _), (by decide : 38 + 0 ≤ _)⟩)
        dsimp only [Pt.U, Pt.locs, Pt.cells, Pt.slots] at X55 l55 y55 z55 st55 hQ55
        subst l55 y55 z55
        obtain ⟨rfl, N55q, Kq55, r55_0, r55_1, r55_2⟩ := hQ55
        have N55 := Fr.app N51 N55q
        have sz56 := Kq55.1
        have K56 := K54.trans Kq55 (own_all1 (Or.inr (by omega)))
        have O56 := O54.keep Kq55 (own_all1 (by omega))
        have ltr55_0 := own_ltN' r55_0.lt
        have ltr55_1 := own_ltN' r55_1.lt
        have ltr55_2 := own_ltN' r55_2.lt
        refine OwnEnd.tr (S' := T55.setTop (mkF m 107 #[.val (.int p0), .val (.int p1), .val (.int p2), .val (.long j3), .second, .val (.long j4), .second, .val (.int p5), .val (.int ((1 : Int32) + ((p2 &&& (3 : Int32)) % (3 : Int32)))), .val (.int ((1 : Int32) + ((((p2).toUInt32 >>> ((2 : Int32) &&& 31).toUInt32).toInt32 &&& (3 : Int32)) % (3 : Int32)))), .val (.int (((p2).toUInt32 >>> ((4 : Int32) &&& 31).toUInt32).toInt32 &&& (3 : Int32))), .val (.ref aC2), .val (.ref x_49), .val (.ref x_51), .unset, .unset] [(.ref b53)])) st55 ?_
        refine OwnEnd.of (S' := T55.setTop (mkF m 111 #[.val (.int p0), .val (.int p1), .val (.int p2), .val (.long j3), .second, .val (.long j4), .second, .val (.int p5), .val (.int ((1 : Int32) + ((p2 &&& (3 : Int32)) % (3 : Int32)))), .val (.int ((1 : Int32) + ((((p2).toUInt32 >>> ((2 : Int32) &&& 31).toUInt32).toInt32 &&& (3 : Int32)) % (3 : Int32)))), .val (.int (((p2).toUInt32 >>> ((4 : Int32) &&& 31).toUInt32).toInt32 &&& (3 : Int32))), .val (.ref aC2), .val (.ref x_49), .val (.ref x_51), .val (.ref b53), .unset] [(.ref x_49)])) (fun _ kK => XS.astore X55.here hx rfl (hb hby at_107) rfl rfl (l' := #[.val (.int p0), .val (.int p1), .val (.int p2), .val (.long j3), .second, .val (.long j4), .second, .val (.int p5), .val (.int ((1 : Int32) + ((p2 &&& (3 : Int32)) % (3 : Int32)))), .val (.int ((1 : Int32) + ((((p2).toUInt32 >>> ((2 : Int32) &&& 31).toUInt32).toInt32 &&& (3 : Int32)) % (3 : Int32)))), .val (.int (((p2).toUInt32 >>> ((4 : Int32) &&& 31).toUInt32).toInt32 &&& (3 : Int32))), .val (.ref aC2), .val (.ref x_49), .val (.ref x_51), .val (.ref b53), .unset]) rfl (XS.aload X55.here hx rfl (hb hby at_109) rfl rfl kK)) ?_
        have f57 : Exa Z T55.heap x_49 "java/lang/String" := (((r49_0.keep Kq51).ext E53).keep Kq55)
        have f58 : Fld Z T55.heap x_49 "java/lang/String" "value" "[B" (.ref t_49) := (((r49_1.keep Kq51 nin0).ext E53).keep Kq55 (own_nin1 (own_ne (by omega))))
        have f59 : Fld Z T55.heap x_49 "java/lang/String" "coder" "B" (.int cd_49) := (((r49_2.keep Kq51 nin0).ext E53).keep Kq55 (own_nin1 (own_ne (by omega))))
        have f60 : Arv Z T55.heap t_49 kb_49 .byte N_49 vs_49 (.int (0 : Int32)) := (((r49_3.keep Kq51 nin0).ext E53).keep Kq55 (own_nin1 (own_ne (by omega))))
        obtain ⟨_, _, ⟨T61, L61, k61, n61⟩, -, X61, ⟨Lc61, hQ61, l61, y61, z61⟩, st61⟩ := Jvm.LawKit.callS X55 hx (y := own_m22) hown (mvT hZ (own_w G 64 rfl)) (mvT hZ (own_w G 65 rfl)) (mvT hZ (own_w G 5 rfl)) (mvT hZ (own_w G 66 rfl)) (by decide) (backOf (W := 0) (rmlc l Z a0 G [] x_49 t_49 kb_49 N_49 vs_49 cd_49 cs_49 T55.heap n0 O56 f57 f58 f59 f60 r49_4 r49_5 r49_6) hZ (own_w G 66 rfl) (own_w G 5 rfl) (by decide) (by decide)) (g := (mkF m 111 #[.val (.int p0), .val (.int p1), .val (.int p2), .val (.long j3), .second, .val (.long j4), .second, .val (.int p5), .val (.int ((1 : Int32) + ((p2 &&& (3 : Int32)) % (3 : Int32)))), .val (.int ((1 : Int32) + ((((p2).toUInt32 >>> ((2 : Int32) &&& 31).toUInt32).toInt32 &&& (3 : Int32)) % (3 : Int32)))), .val (.int (((p2).toUInt32 >>> ((4 : Int32) &&& 31).toUInt32).toInt32 &&& (3 : Int32))), .val (.ref aC2), .val (.ref x_49), .val (.ref x_51), .val (.ref b53), .unset] [(.ref x_49)])) rfl (by rw [hml]; rfl) (argsL := [(.ref x_49)]) (rest := []) (lenOf pd_25 rfl) rfl (by show 2 * 0 + _ ≤ _; exact Nat.le_of_eq rfl) (hb hby at_111) (fun _ _ => ⟨rfl, rfl, (by decide : 9 + 0 ≤ _), (by decide : 38 + 0 ≤ _)⟩)
        dsimp only [Pt.U, Pt.locs, Pt.cells, Pt.slots] at X61 l61 y61 z61 st61 hQ61
        subst l61 y61 z61
        obtain ⟨rfl, N61q, eh61⟩ := hQ61
        have N61 := Fr.app N55 N61q
        refine OwnEnd.of (S' := T61.setTop (mkF m 114 #[.val (.int p0), .val (.int p1), .val (.int p2), .val (.long j3), .second, .val (.long j4), .second, .val (.int p5), .val (.int ((1 : Int32) + ((p2 &&& (3 : Int32)) % (3 : Int32)))), .val (.int ((1 : Int32) + ((((p2).toUInt32 >>> ((2 : Int32) &&& 31).toUInt32).toInt32 &&& (3 : Int32)) % (3 : Int32)))), .val (.int (((p2).toUInt32 >>> ((4 : Int32) &&& 31).toUInt32).toInt32 &&& (3 : Int32))), .val (.ref aC2), .val (.ref x_49), .val (.ref x_51), .val (.ref b53), .unset] [(.int (own_cpl cs_49))])) st61 ?_
        refine OwnEnd.of (S' := T61.setTop (mkF m 116 #[.val (.int p0), .val (.int p1), .val (.int p2), .val (.long j3), .second, .val (.long j4), .second, .val (.int p5), .val (.int ((1 : Int32) + ((p2 &&& (3 : Int32)) % (3 : Int32)))), .val (.int ((1 : Int32) + ((((p2).toUInt32 >>> ((2 : Int32) &&& 31).toUInt32).toInt32 &&& (3 : Int32)) % (3 : Int32)))), .val (.int (((p2).toUInt32 >>> ((4 : Int32) &&& 31).toUInt32).toInt32 &&& (3 : Int32))), .val (.ref aC2), .val (.ref x_49), .val (.ref x_51), .val (.ref b53), .unset] [(.ref x_51), (.int (own_cpl cs_49))])) (fun _ kK => XS.aload X61.here hx rfl (hb hby at_114) rfl rfl kK) ?_
        have f62 : Exa Z T55.heap x_51 "java/lang/String" := ((r51_0.ext E53).keep Kq55)
        have f63 : Fld Z T55.heap x_51 "java/lang/String" "value" "[B" (.ref t_51) := ((r51_1.ext E53).keep Kq55 (own_nin1 (own_ne (by omega))))
        have f64 : Fld Z T55.heap x_51 "java/lang/String" "coder" "B" (.int cd_51) := ((r51_2.ext E53).keep Kq55 (own_nin1 (own_ne (by omega))))
        have f65 : Arv Z T55.heap t_51 kb_51 .byte N_51 vs_51 (.int (0 : Int32)) := ((r51_3.ext E53).keep Kq55 (own_nin1 (own_ne (by omega))))
        obtain ⟨_, _, ⟨T66, L66, k66, n66⟩, -, X66, ⟨Lc66, hQ66, l66, y66, z66⟩, st66⟩ := Jvm.LawKit.callS X61 hx (y := own_m22) hown (mvT hZ (own_w G 64 rfl)) (mvT hZ (own_w G 65 rfl)) (mvT hZ (own_w G 5 rfl)) (mvT hZ (own_w G 66 rfl)) (by decide) (backOf (W := 1) (rmlc l Z a0 G [] x_51 t_51 kb_51 N_51 vs_51 cd_51 cs_51 T55.heap n0 O56 f62 f63 f64 f65 r51_4 r51_5 r51_6) hZ (own_w G 66 rfl) (own_w G 5 rfl) (by decide) (by decide)) (g := (mkF m 116 #[.val (.int p0), .val (.int p1), .val (.int p2), .val (.long j3), .second, .val (.long j4), .second, .val (.int p5), .val (.int ((1 : Int32) + ((p2 &&& (3 : Int32)) % (3 : Int32)))), .val (.int ((1 : Int32) + ((((p2).toUInt32 >>> ((2 : Int32) &&& 31).toUInt32).toInt32 &&& (3 : Int32)) % (3 : Int32)))), .val (.int (((p2).toUInt32 >>> ((4 : Int32) &&& 31).toUInt32).toInt32 &&& (3 : Int32))), .val (.ref aC2), .val (.ref x_49), .val (.ref x_51), .val (.ref b53), .unset] [(.ref x_51), (.int (own_cpl cs_49))])) rfl (by rw [hml]; rfl) (argsL := [(.ref x_51)]) (rest := [(.int (own_cpl cs_49))]) (lenOf pd_25 rfl) rfl (by show 2 * 0 + _ ≤ _; exact Nat.le_of_eq rfl) (hb hby at_116) (fun _ _ => ⟨rfl, eh61, (by decide : 9 + 0 ≤ _), (by decide : 38 + 0 ≤ _)⟩)
        dsimp only [Pt.U, Pt.locs, Pt.cells, Pt.slots] at X66 l66 y66 z66 st66 hQ66
        subst l66 y66 z66
        obtain ⟨rfl, N66q, eh66⟩ := hQ66
        have N66 := Fr.app N61 N66q
        refine OwnEnd.of (S' := T66.setTop (mkF m 119 #[.val (.int p0), .val (.int p1), .val (.int p2), .val (.long j3), .second, .val (.long j4), .second, .val (.int p5), .val (.int ((1 : Int32) + ((p2 &&& (3 : Int32)) % (3 : Int32)))), .val (.int ((1 : Int32) + ((((p2).toUInt32 >>> ((2 : Int32) &&& 31).toUInt32).toInt32 &&& (3 : Int32)) % (3 : Int32)))), .val (.int (((p2).toUInt32 >>> ((4 : Int32) &&& 31).toUInt32).toInt32 &&& (3 : Int32))), .val (.ref aC2), .val (.ref x_49), .val (.ref x_51), .val (.ref b53), .unset] [(.int (own_cpl cs_51)), (.int (own_cpl cs_49))])) st66 ?_
        rcases Decidable.em ((own_cpl cs_49) = (own_cpl cs_51)) with hc67 | hc67
        · refine OwnEnd.of (S' := T66.setTop (mkF m 131 #[.val (.int p0), .val (.int p1), .val (.int p2), .val (.long j3), .second, .val (.long j4), .second, .val (.int p5), .val (.int ((1 : Int32) + ((p2 &&& (3 : Int32)) % (3 : Int32)))), .val (.int ((1 : Int32) + ((((p2).toUInt32 >>> ((2 : Int32) &&& 31).toUInt32).toInt32 &&& (3 : Int32)) % (3 : Int32)))), .val (.int (((p2).toUInt32 >>> ((4 : Int32) &&& 31).toUInt32).toInt32 &&& (3 : Int32))), .val (.ref aC2), .val (.ref x_49), .val (.ref x_51), .val (.ref b53), .val (.int (1 : Int32))] [(.ref b53)])) (fun _ kK => XS.icmpNo X66.here hx rfl (hb hby at_119) rfl (teq (hc67)).2 (XS.iconst X66.here hx rfl (hb hby at_122) (XS.goto X66.here hx rfl (pc0 := 123) (pc' := 127) rfl (hb hby at_123) (by decide) (by decide) (XS.istore X66.here hx rfl (hb hby at_127) rfl (l' := #[.val (.int p0), .val (.int p1), .val (.int p2), .val (.long j3), .second, .val (.long j4), .second, .val (.int p5), .val (.int ((1 : Int32) + ((p2 &&& (3 : Int32)) % (3 : Int32)))), .val (.int ((1 : Int32) + ((((p2).toUInt32 >>> ((2 : Int32) &&& 31).toUInt32).toInt32 &&& (3 : Int32)) % (3 : Int32)))), .val (.int (((p2).toUInt32 >>> ((4 : Int32) &&& 31).toUInt32).toInt32 &&& (3 : Int32))), .val (.ref aC2), .val (.ref x_49), .val (.ref x_51), .val (.ref b53), .val (.int (1 : Int32))]) rfl (XS.aload X66.here hx rfl (hb hby at_129) rfl rfl kK))))) ?_
          obtain ⟨cq68, kq68, q68a, q68b, q68c⟩ := isOf hZ eh66 r55_0
          obtain ⟨_, _, ⟨T68, L68, k68, n68⟩, -, X68, ⟨Lc68, hQ68, l68, y68, z68⟩, st68⟩ := X66.virtualBack hx (y := own_m31) (z := own_m31) hown (mvT hZ (own_w G 100 rfl)) (mvT hZ (own_w G 101 rfl)) (notFace_of_selects (args := #[]) (mvT hZ (own_w G 103 rfl))) (mvT hZ (own_w G 103 rfl)) (mvT hZ (own_w G 102 rfl)) (by decide) (backOf (W := 0) (rmlm l Z a0 G [] b53 x_49 t_49 kb_49 N_49 vs_49 cd_49 cs_49 x_51 t_51 kb_51 N_51 vs_51 cd_51 cs_51 T55.heap n0 O56 r55_1 r55_2 f57 f58 f59 f60 r49_4 r49_5 r49_6 f62 f63 f64 f65 r51_4 r51_5 r51_6) hZ (own_w G 104 rfl) (own_w G 42 rfl) (by decide) (by decide)) q68a q68c (g := (mkF m 131 #[.val (.int p0), .val (.int p1), .val (.int p2), .val (.long j3), .second, .val (.long j4), .second, .val (.int p5), .val (.int ((1 : Int32) + ((p2 &&& (3 : Int32)) % (3 : Int32)))), .val (.int ((1 : Int32) + ((((p2).toUInt32 >>> ((2 : Int32) &&& 31).toUInt32).toInt32 &&& (3 : Int32)) % (3 : Int32)))), .val (.int (((p2).toUInt32 >>> ((4 : Int32) &&& 31).toUInt32).toInt32 &&& (3 : Int32))), .val (.ref aC2), .val (.ref x_49), .val (.ref x_51), .val (.ref b53), .val (.int (1 : Int32))] [(.ref b53)])) rfl (by rw [hml]; rfl) (Steps.refl _) (argsL := []) (rest := []) (lenOf pd_6 rfl) rfl (by show 2 * 0 + _ ≤ _; exact Nat.le_of_eq rfl) (hb hby at_131) (fun _ _ => ⟨rfl, eh66, (by decide : 9 + 0 ≤ _), (by decide : 38 + 0 ≤ _)⟩)
          dsimp only [Pt.U, Pt.locs, Pt.cells, Pt.slots] at X68 l68 y68 z68 st68 hQ68
          subst l68 y68 z68
          obtain ⟨rfl, N68q, eh68⟩ := hQ68
          have N68 := Fr.app N66 N68q
          refine OwnEnd.tr (S' := T68.setTop (mkF m 134 #[.val (.int p0), .val (.int p1), .val (.int p2), .val (.long j3), .second, .val (.long j4), .second, .val (.int p5), .val (.int ((1 : Int32) + ((p2 &&& (3 : Int32)) % (3 : Int32)))), .val (.int ((1 : Int32) + ((((p2).toUInt32 >>> ((2 : Int32) &&& 31).toUInt32).toInt32 &&& (3 : Int32)) % (3 : Int32)))), .val (.int (((p2).toUInt32 >>> ((4 : Int32) &&& 31).toUInt32).toInt32 &&& (3 : Int32))), .val (.ref aC2), .val (.ref x_49), .val (.ref x_51), .val (.ref b53), .val (.int (1 : Int32))] [(.int (if own_cpl cs_49 = own_cpl cs_51 then 1 else 0))])) st68 ?_
          refine OwnEnd.of (S' := T68.setTop (mkF m 136 #[.val (.int p0), .val (.int p1), .val (.int p2), .val (.long j3), .second, .val (.long j4), .second, .val (.int p5), .val (.int ((1 : Int32) + ((p2 &&& (3 : Int32)) % (3 : Int32)))), .val (.int ((1 : Int32) + ((((p2).toUInt32 >>> ((2 : Int32) &&& 31).toUInt32).toInt32 &&& (3 : Int32)) % (3 : Int32)))), .val (.int (((p2).toUInt32 >>> ((4 : Int32) &&& 31).toUInt32).toInt32 &&& (3 : Int32))), .val (.ref aC2), .val (.ref x_49), .val (.ref x_51), .val (.ref b53), .val (.int (1 : Int32))] [(.int (1 : Int32)), (.int (if own_cpl cs_49 = own_cpl cs_51 then 1 else 0))])) (fun _ kK => XS.iload X68.here hx rfl (hb hby at_134) rfl kK) ?_
          have hfin : (if own_cpl cs_49 = own_cpl cs_51 then 1 else 0) = (1 : Int32) := by simp [hc67]
          refine OwnEnd.of (S' := T68.setTop (mkF m 144 #[.val (.int p0), .val (.int p1), .val (.int p2), .val (.long j3), .second, .val (.long j4), .second, .val (.int p5), .val (.int ((1 : Int32) + ((p2 &&& (3 : Int32)) % (3 : Int32)))), .val (.int ((1 : Int32) + ((((p2).toUInt32 >>> ((2 : Int32) &&& 31).toUInt32).toInt32 &&& (3 : Int32)) % (3 : Int32)))), .val (.int (((p2).toUInt32 >>> ((4 : Int32) &&& 31).toUInt32).toInt32 &&& (3 : Int32))), .val (.ref aC2), .val (.ref x_49), .val (.ref x_51), .val (.ref b53), .val (.int (1 : Int32))] [(.int (1 : Int32))])) (fun _ kK => XS.icmpNo X68.here hx rfl (hb hby at_136) rfl (teq (hfin)).2 (XS.iconst X68.here hx rfl (hb hby at_139) (XS.goto X68.here hx rfl (pc0 := 140) (pc' := 144) rfl (hb hby at_140) (by decide) (by decide) kK))) ?_
          refine OwnEnd.ret X68 (v := (some (.int (nar .boolean (1 : Int32))))) (fun h => by rw [Bd.returns] at h; cases h) hlk (fun fs hr => retN X68 hx (t := .boolean) Bd.returns (by simp) (hb hby at_144) hr) (by decide) (by decide) (Q := Qlaw Z p0 p1 p2 j3 j4 p5 h0 n0) eh68 ?_
          exact ⟨rfl, N68, K56⟩
        · refine OwnEnd.of (S' := T66.setTop (mkF m 131 #[.val (.int p0), .val (.int p1), .val (.int p2), .val (.long j3), .second, .val (.long j4), .second, .val (.int p5), .val (.int ((1 : Int32) + ((p2 &&& (3 : Int32)) % (3 : Int32)))), .val (.int ((1 : Int32) + ((((p2).toUInt32 >>> ((2 : Int32) &&& 31).toUInt32).toInt32 &&& (3 : Int32)) % (3 : Int32)))), .val (.int (((p2).toUInt32 >>> ((4 : Int32) &&& 31).toUInt32).toInt32 &&& (3 : Int32))), .val (.ref aC2), .val (.ref x_49), .val (.ref x_51), .val (.ref b53), .val (.int (0 : Int32))] [(.ref b53)])) (fun _ kK => XS.icmpYes X66.here hx rfl (pc0 := 119) (pc' := 126) rfl (hb hby at_119) rfl (feq (hc67)).2 (by decide) (by decide) (XS.iconst X66.here hx rfl (hb hby at_126) (XS.istore X66.here hx rfl (hb hby at_127) rfl (l' := #[.val (.int p0), .val (.int p1), .val (.int p2), .val (.long j3), .second, .val (.long j4), .second, .val (.int p5), .val (.int ((1 : Int32) + ((p2 &&& (3 : Int32)) % (3 : Int32)))), .val (.int ((1 : Int32) + ((((p2).toUInt32 >>> ((2 : Int32) &&& 31).toUInt32).toInt32 &&& (3 : Int32)) % (3 : Int32)))), .val (.int (((p2).toUInt32 >>> ((4 : Int32) &&& 31).toUInt32).toInt32 &&& (3 : Int32))), .val (.ref aC2), .val (.ref x_49), .val (.ref x_51), .val (.ref b53), .val (.int (0 : Int32))]) rfl (XS.aload X66.here hx rfl (hb hby at_129) rfl rfl kK)))) ?_
          obtain ⟨cq69, kq69, q69a, q69b, q69c⟩ := isOf hZ eh66 r55_0
          obtain ⟨_, _, ⟨T69, L69, k69, n69⟩, -, X69, ⟨Lc69, hQ69, l69, y69, z69⟩, st69⟩ := X66.virtualBack hx (y := own_m31) (z := own_m31) hown (mvT hZ (own_w G 100 rfl)) (mvT hZ (own_w G 101 rfl)) (notFace_of_selects (args := #[]) (mvT hZ (own_w G 103 rfl))) (mvT hZ (own_w G 103 rfl)) (mvT hZ (own_w G 102 rfl)) (by decide) (backOf (W := 0) (rmlm l Z a0 G [] b53 x_49 t_49 kb_49 N_49 vs_49 cd_49 cs_49 x_51 t_51 kb_51 N_51 vs_51 cd_51 cs_51 T55.heap n0 O56 r55_1 r55_2 f57 f58 f59 f60 r49_4 r49_5 r49_6 f62 f63 f64 f65 r51_4 r51_5 r51_6) hZ (own_w G 104 rfl) (own_w G 42 rfl) (by decide) (by decide)) q69a q69c (g := (mkF m 131 #[.val (.int p0), .val (.int p1), .val (.int p2), .val (.long j3), .second, .val (.long j4), .second, .val (.int p5), .val (.int ((1 : Int32) + ((p2 &&& (3 : Int32)) % (3 : Int32)))), .val (.int ((1 : Int32) + ((((p2).toUInt32 >>> ((2 : Int32) &&& 31).toUInt32).toInt32 &&& (3 : Int32)) % (3 : Int32)))), .val (.int (((p2).toUInt32 >>> ((4 : Int32) &&& 31).toUInt32).toInt32 &&& (3 : Int32))), .val (.ref aC2), .val (.ref x_49), .val (.ref x_51), .val (.ref b53), .val (.int (0 : Int32))] [(.ref b53)])) rfl (by rw [hml]; rfl) (Steps.refl _) (argsL := []) (rest := []) (lenOf pd_6 rfl) rfl (by show 2 * 0 + _ ≤ _; exact Nat.le_of_eq rfl) (hb hby at_131) (fun _ _ => ⟨rfl, eh66, (by decide : 9 + 0 ≤ _), (by decide : 38 + 0 ≤ _)⟩)
          dsimp only [Pt.U, Pt.locs, Pt.cells, Pt.slots] at X69 l69 y69 z69 st69 hQ69
          subst l69 y69 z69
          obtain ⟨rfl, N69q, eh69⟩ := hQ69
          have N69 := Fr.app N66 N69q
          refine OwnEnd.tr (S' := T69.setTop (mkF m 134 #[.val (.int p0), .val (.int p1), .val (.int p2), .val (.long j3), .second, .val (.long j4), .second, .val (.int p5), .val (.int ((1 : Int32) + ((p2 &&& (3 : Int32)) % (3 : Int32)))), .val (.int ((1 : Int32) + ((((p2).toUInt32 >>> ((2 : Int32) &&& 31).toUInt32).toInt32 &&& (3 : Int32)) % (3 : Int32)))), .val (.int (((p2).toUInt32 >>> ((4 : Int32) &&& 31).toUInt32).toInt32 &&& (3 : Int32))), .val (.ref aC2), .val (.ref x_49), .val (.ref x_51), .val (.ref b53), .val (.int (0 : Int32))] [(.int (if own_cpl cs_49 = own_cpl cs_51 then 1 else 0))])) st69 ?_
          refine OwnEnd.of (S' := T69.setTop (mkF m 136 #[.val (.int p0), .val (.int p1), .val (.int p2), .val (.long j3), .second, .val (.long j4), .second, .val (.int p5), .val (.int ((1 : Int32) + ((p2 &&& (3 : Int32)) % (3 : Int32)))), .val (.int ((1 : Int32) + ((((p2).toUInt32 >>> ((2 : Int32) &&& 31).toUInt32).toInt32 &&& (3 : Int32)) % (3 : Int32)))), .val (.int (((p2).toUInt32 >>> ((4 : Int32) &&& 31).toUInt32).toInt32 &&& (3 : Int32))), .val (.ref aC2), .val (.ref x_49), .val (.ref x_51), .val (.ref b53), .val (.int (0 : Int32))] [(.int (0 : Int32)), (.int (if own_cpl cs_49 = own_cpl cs_51 then 1 else 0))])) (fun _ kK => XS.iload X69.here hx rfl (hb hby at_134) rfl kK) ?_
          have hfin : (if own_cpl cs_49 = own_cpl cs_51 then 1 else 0) = (0 : Int32) := by simp [hc67]
          refine OwnEnd.of (S' := T69.setTop (mkF m 144 #[.val (.int p0), .val (.int p1), .val (.int p2), .val (.long j3), .second, .val (.long j4), .second, .val (.int p5), .val (.int ((1 : Int32) + ((p2 &&& (3 : Int32)) % (3 : Int32)))), .val (.int ((1 : Int32) + ((((p2).toUInt32 >>> ((2 : Int32) &&& 31).toUInt32).toInt32 &&& (3 : Int32)) % (3 : Int32)))), .val (.int (((p2).toUInt32 >>> ((4 : Int32) &&& 31).toUInt32).toInt32 &&& (3 : Int32))), .val (.ref aC2), .val (.ref x_49), .val (.ref x_51), .val (.ref b53), .val (.int (0 : Int32))] [(.int (1 : Int32))])) (fun _ kK => XS.icmpNo X69.here hx rfl (hb hby at_136) rfl (teq (hfin)).2 (XS.iconst X69.here hx rfl (hb hby at_139) (XS.goto X69.here hx rfl (pc0 := 140) (pc' := 144) rfl (hb hby at_140) (by decide) (by decide) kK))) ?_
          refine OwnEnd.ret X69 (v := (some (.int (nar .boolean (1 : Int32))))) (fun h => by rw [Bd.returns] at h; cases h) hlk (fun fs hr => retN X69 hx (t := .boolean) Bd.returns (by simp) (hb hby at_144) hr) (by decide) (by decide) (Q := Qlaw Z p0 p1 p2 j3 j4 p5 h0 n0) eh69 ?_
          exact ⟨rfl, N69, K56⟩
      · refine OwnEnd.of (S' := s₁.setTop (mkF m 68 #[.val (.int p0), .val (.int p1), .val (.int p2), .val (.long j3), .second, .val (.long j4), .second, .val (.int p5), .val (.int ((1 : Int32) + ((p2 &&& (3 : Int32)) % (3 : Int32)))), .val (.int ((1 : Int32) + ((((p2).toUInt32 >>> ((2 : Int32) &&& 31).toUInt32).toInt32 &&& (3 : Int32)) % (3 : Int32)))), .val (.int (((p2).toUInt32 >>> ((4 : Int32) &&& 31).toUInt32).toInt32 &&& (3 : Int32))), .unset, .unset, .unset, .unset, .unset] [])) (fun _ kK => XS.icmpYes X0.here hx rfl (pc0 := 57) (pc' := 68) rfl (hb hby at_57) rfl (feq (hc47)).2 (by decide) (by decide) kK) ?_
        obtain ⟨T70, X70, e70, st70⟩ := getS2 X0 hx hZ hown (host := "") (Or.inl (own_w G 113 rfl)) Via.refl e0 (SC1.ext O0.2) (g := (mkF m 68 #[.val (.int p0), .val (.int p1), .val (.int p2), .val (.long j3), .second, .val (.long j4), .second, .val (.int p5), .val (.int ((1 : Int32) + ((p2 &&& (3 : Int32)) % (3 : Int32)))), .val (.int ((1 : Int32) + ((((p2).toUInt32 >>> ((2 : Int32) &&& 31).toUInt32).toInt32 &&& (3 : Int32)) % (3 : Int32)))), .val (.int (((p2).toUInt32 >>> ((4 : Int32) &&& 31).toUInt32).toInt32 &&& (3 : Int32))), .unset, .unset, .unset, .unset, .unset] [])) rfl (hb hby at_68)
        refine OwnEnd.of (S' := T70.setTop (mkF m 71 #[.val (.int p0), .val (.int p1), .val (.int p2), .val (.long j3), .second, .val (.long j4), .second, .val (.int p5), .val (.int ((1 : Int32) + ((p2 &&& (3 : Int32)) % (3 : Int32)))), .val (.int ((1 : Int32) + ((((p2).toUInt32 >>> ((2 : Int32) &&& 31).toUInt32).toInt32 &&& (3 : Int32)) % (3 : Int32)))), .val (.int (((p2).toUInt32 >>> ((4 : Int32) &&& 31).toUInt32).toInt32 &&& (3 : Int32))), .unset, .unset, .unset, .unset, .unset] [(.ref aC1)])) st70 ?_
        refine OwnEnd.of (S' := T70.setTop (mkF m 76 #[.val (.int p0), .val (.int p1), .val (.int p2), .val (.long j3), .second, .val (.long j4), .second, .val (.int p5), .val (.int ((1 : Int32) + ((p2 &&& (3 : Int32)) % (3 : Int32)))), .val (.int ((1 : Int32) + ((((p2).toUInt32 >>> ((2 : Int32) &&& 31).toUInt32).toInt32 &&& (3 : Int32)) % (3 : Int32)))), .val (.int (((p2).toUInt32 >>> ((4 : Int32) &&& 31).toUInt32).toInt32 &&& (3 : Int32))), .val (.ref aC1), .unset, .unset, .unset, .unset] [(.int ((1 : Int32) + ((p2 &&& (3 : Int32)) % (3 : Int32)))), (.int p0)])) (fun _ kK => XS.astore X70.here hx rfl (hb hby at_71) rfl rfl (l' := #[.val (.int p0), .val (.int p1), .val (.int p2), .val (.long j3), .second, .val (.long j4), .second, .val (.int p5), .val (.int ((1 : Int32) + ((p2 &&& (3 : Int32)) % (3 : Int32)))), .val (.int ((1 : Int32) + ((((p2).toUInt32 >>> ((2 : Int32) &&& 31).toUInt32).toInt32 &&& (3 : Int32)) % (3 : Int32)))), .val (.int (((p2).toUInt32 >>> ((4 : Int32) &&& 31).toUInt32).toInt32 &&& (3 : Int32))), .val (.ref aC1), .unset, .unset, .unset, .unset]) rfl (XS.iloadN X70.here hx rfl (hb hby at_73) rfl (XS.iload X70.here hx rfl (hb hby at_74) rfl kK))) ?_
        obtain ⟨_, _, ⟨T71, L71, k71, n71⟩, -, X71, ⟨Lc71, hQ71, l71, y71, z71⟩, st71⟩ := Jvm.LawKit.callS X70 hx (y := own_m21) hown (mvT hZ (own_w G 3 rfl)) (mvT hZ (own_w G 4 rfl)) (mvT hZ (own_w G 5 rfl)) (mvT hZ (own_w G 6 rfl)) (by decide) (backOf (W := 0) (rmmk l Z a0 G [] p0 ((1 : Int32) + ((p2 &&& (3 : Int32)) % (3 : Int32))) h0 n0 O0 ) hZ (own_w G 6 rfl) (own_w G 5 rfl) (by decide) (by decide)) (g := (mkF m 76 #[.val (.int p0), .val (.int p1), .val (.int p2), .val (.long j3), .second, .val (.long j4), .second, .val (.int p5), .val (.int ((1 : Int32) + ((p2 &&& (3 : Int32)) % (3 : Int32)))), .val (.int ((1 : Int32) + ((((p2).toUInt32 >>> ((2 : Int32) &&& 31).toUInt32).toInt32 &&& (3 : Int32)) % (3 : Int32)))), .val (.int (((p2).toUInt32 >>> ((4 : Int32) &&& 31).toUInt32).toInt32 &&& (3 : Int32))), .val (.ref aC1), .unset, .unset, .unset, .unset] [(.int ((1 : Int32) + ((p2 &&& (3 : Int32)) % (3 : Int32)))), (.int p0)])) rfl (by rw [hml]; rfl) (argsL := [(.int p0), (.int ((1 : Int32) + ((p2 &&& (3 : Int32)) % (3 : Int32))))]) (rest := []) (lenOf pd_23 rfl) rfl (by show 2 * 0 + _ ≤ _; exact Nat.le_of_eq rfl) (hb hby at_76) (fun _ _ => ⟨rfl, e70, (by decide : 0 + 4 ≤ _), (by decide : 0 + 16 ≤ _)⟩)
        dsimp only [Pt.U, Pt.locs, Pt.cells, Pt.slots] at X71 l71 y71 z71 st71 hQ71
        subst l71 y71 z71
        obtain ⟨x_71, t_71, kb_71, N_71, vs_71, cd_71, cs_71, rfl, N71q, Kq71, r71_0, r71_1, r71_2, r71_3, r71_4, r71_5, r71_6, r71_7, r71_8⟩ := hQ71
        have N71 := Fr.app N0 N71q
        have sz72 := Kq71.1
        have K72 := K0.trans Kq71 (own_all0 )
        have O72 := O0.keep Kq71 (own_all0 )
        have ltr71_0 := own_ltN' r71_0.lt
        have ltr71_1 := own_ltN' r71_1.lt
        have ltr71_2 := own_ltN' r71_2.lt
        have ltr71_3 := own_ltN' r71_3.lt
        refine OwnEnd.of (S' := T71.setTop (mkF m 79 #[.val (.int p0), .val (.int p1), .val (.int p2), .val (.long j3), .second, .val (.long j4), .second, .val (.int p5), .val (.int ((1 : Int32) + ((p2 &&& (3 : Int32)) % (3 : Int32)))), .val (.int ((1 : Int32) + ((((p2).toUInt32 >>> ((2 : Int32) &&& 31).toUInt32).toInt32 &&& (3 : Int32)) % (3 : Int32)))), .val (.int (((p2).toUInt32 >>> ((4 : Int32) &&& 31).toUInt32).toInt32 &&& (3 : Int32))), .val (.ref aC1), .unset, .unset, .unset, .unset] [(.ref x_71)])) st71 ?_
        refine OwnEnd.of (S' := T71.setTop (mkF m 84 #[.val (.int p0), .val (.int p1), .val (.int p2), .val (.long j3), .second, .val (.long j4), .second, .val (.int p5), .val (.int ((1 : Int32) + ((p2 &&& (3 : Int32)) % (3 : Int32)))), .val (.int ((1 : Int32) + ((((p2).toUInt32 >>> ((2 : Int32) &&& 31).toUInt32).toInt32 &&& (3 : Int32)) % (3 : Int32)))), .val (.int (((p2).toUInt32 >>> ((4 : Int32) &&& 31).toUInt32).toInt32 &&& (3 : Int32))), .val (.ref aC1), .val (.ref x_71), .unset, .unset, .unset] [(.int ((1 : Int32) + ((((p2).toUInt32 >>> ((2 : Int32) &&& 31).toUInt32).toInt32 &&& (3 : Int32)) % (3 : Int32)))), (.int p1)])) (fun _ kK => XS.astore X71.here hx rfl (hb hby at_79) rfl rfl (l' := #[.val (.int p0), .val (.int p1), .val (.int p2), .val (.long j3), .second, .val (.long j4), .second, .val (.int p5), .val (.int ((1 : Int32) + ((p2 &&& (3 : Int32)) % (3 : Int32)))), .val (.int ((1 : Int32) + ((((p2).toUInt32 >>> ((2 : Int32) &&& 31).toUInt32).toInt32 &&& (3 : Int32)) % (3 : Int32)))), .val (.int (((p2).toUInt32 >>> ((4 : Int32) &&& 31).toUInt32).toInt32 &&& (3 : Int32))), .val (.ref aC1), .val (.ref x_71), .unset, .unset, .unset]) rfl (XS.iloadN X71.here hx rfl (hb hby at_81) rfl (XS.iload X71.here hx rfl (hb hby at_82) rfl kK))) ?_
        obtain ⟨_, _, ⟨T73, L73, k73, n73⟩, -, X73, ⟨Lc73, hQ73, l73, y73, z73⟩, st73⟩ := Jvm.LawKit.callS X71 hx (y := own_m21) hown (mvT hZ (own_w G 3 rfl)) (mvT hZ (own_w G 4 rfl)) (mvT hZ (own_w G 5 rfl)) (mvT hZ (own_w G 6 rfl)) (by decide) (backOf (W := 0) (rmmk l Z a0 G [] p1 ((1 : Int32) + ((((p2).toUInt32 >>> ((2 : Int32) &&& 31).toUInt32).toInt32 &&& (3 : Int32)) % (3 : Int32))) T71.heap n0 O72 ) hZ (own_w G 6 rfl) (own_w G 5 rfl) (by decide) (by decide)) (g := (mkF m 84 #[.val (.int p0), .val (.int p1), .val (.int p2), .val (.long j3), .second, .val (.long j4), .second, .val (.int p5), .val (.int ((1 : Int32) + ((p2 &&& (3 : Int32)) % (3 : Int32)))), .val (.int ((1 : Int32) + ((((p2).toUInt32 >>> ((2 : Int32) &&& 31).toUInt32).toInt32 &&& (3 : Int32)) % (3 : Int32)))), .val (.int (((p2).toUInt32 >>> ((4 : Int32) &&& 31).toUInt32).toInt32 &&& (3 : Int32))), .val (.ref aC1), .val (.ref x_71), .unset, .unset, .unset] [(.int ((1 : Int32) + ((((p2).toUInt32 >>> ((2 : Int32) &&& 31).toUInt32).toInt32 &&& (3 : Int32)) % (3 : Int32)))), (.int p1)])) rfl (by rw [hml]; rfl) (argsL := [(.int p1), (.int ((1 : Int32) + ((((p2).toUInt32 >>> ((2 : Int32) &&& 31).toUInt32).toInt32 &&& (3 : Int32)) % (3 : Int32))))]) (rest := []) (lenOf pd_23 rfl) rfl (by show 2 * 0 + _ ≤ _; exact Nat.le_of_eq rfl) (hb hby at_84) (fun _ _ => ⟨rfl, rfl, (by decide : 4 + 4 ≤ _), (by decide : 16 + 16 ≤ _)⟩)
        dsimp only [Pt.U, Pt.locs, Pt.cells, Pt.slots] at X73 l73 y73 z73 st73 hQ73
        subst l73 y73 z73
        obtain ⟨x_73, t_73, kb_73, N_73, vs_73, cd_73, cs_73, rfl, N73q, Kq73, r73_0, r73_1, r73_2, r73_3, r73_4, r73_5, r73_6, r73_7, r73_8⟩ := hQ73
        have N73 := Fr.app N71 N73q
        have sz74 := Kq73.1
        have K74 := K72.trans Kq73 (own_all0 )
        have O74 := O72.keep Kq73 (own_all0 )
        have ltr73_0 := own_ltN' r73_0.lt
        have ltr73_1 := own_ltN' r73_1.lt
        have ltr73_2 := own_ltN' r73_2.lt
        have ltr73_3 := own_ltN' r73_3.lt
        refine OwnEnd.of (S' := T73.setTop (mkF m 87 #[.val (.int p0), .val (.int p1), .val (.int p2), .val (.long j3), .second, .val (.long j4), .second, .val (.int p5), .val (.int ((1 : Int32) + ((p2 &&& (3 : Int32)) % (3 : Int32)))), .val (.int ((1 : Int32) + ((((p2).toUInt32 >>> ((2 : Int32) &&& 31).toUInt32).toInt32 &&& (3 : Int32)) % (3 : Int32)))), .val (.int (((p2).toUInt32 >>> ((4 : Int32) &&& 31).toUInt32).toInt32 &&& (3 : Int32))), .val (.ref aC1), .val (.ref x_71), .unset, .unset, .unset] [(.ref x_73)])) st73 ?_
        refine OwnEnd.of (S' := T73.setTop (mkF m 89 #[.val (.int p0), .val (.int p1), .val (.int p2), .val (.long j3), .second, .val (.long j4), .second, .val (.int p5), .val (.int ((1 : Int32) + ((p2 &&& (3 : Int32)) % (3 : Int32)))), .val (.int ((1 : Int32) + ((((p2).toUInt32 >>> ((2 : Int32) &&& 31).toUInt32).toInt32 &&& (3 : Int32)) % (3 : Int32)))), .val (.int (((p2).toUInt32 >>> ((4 : Int32) &&& 31).toUInt32).toInt32 &&& (3 : Int32))), .val (.ref aC1), .val (.ref x_71), .val (.ref x_73), .unset, .unset] [])) (fun _ kK => XS.astore X73.here hx rfl (hb hby at_87) rfl rfl (l' := #[.val (.int p0), .val (.int p1), .val (.int p2), .val (.long j3), .second, .val (.long j4), .second, .val (.int p5), .val (.int ((1 : Int32) + ((p2 &&& (3 : Int32)) % (3 : Int32)))), .val (.int ((1 : Int32) + ((((p2).toUInt32 >>> ((2 : Int32) &&& 31).toUInt32).toInt32 &&& (3 : Int32)) % (3 : Int32)))), .val (.int (((p2).toUInt32 >>> ((4 : Int32) &&& 31).toUInt32).toInt32 &&& (3 : Int32))), .val (.ref aC1), .val (.ref x_71), .val (.ref x_73), .unset, .unset]) rfl kK) ?_
        obtain ⟨T75, h75, X75, e75, E75, A75, D75, -, st75⟩ := newO X73 hx hZ hown (own_w G 40 rfl) (own_w G 41 rfl) (own_w G 42 rfl) rfl (g := (mkF m 89 #[.val (.int p0), .val (.int p1), .val (.int p2), .val (.long j3), .second, .val (.long j4), .second, .val (.int p5), .val (.int ((1 : Int32) + ((p2 &&& (3 : Int32)) % (3 : Int32)))), .val (.int ((1 : Int32) + ((((p2).toUInt32 >>> ((2 : Int32) &&& 31).toUInt32).toInt32 &&& (3 : Int32)) % (3 : Int32)))), .val (.int (((p2).toUInt32 >>> ((4 : Int32) &&& 31).toUInt32).toInt32 &&& (3 : Int32))), .val (.ref aC1), .val (.ref x_71), .val (.ref x_73), .unset, .unset] [])) rfl (hb hby at_89) (by decide) (by decide)
        obtain ⟨b75, g75⟩ : ∃ z, z = Array.size T73.heap := ⟨_, rfl⟩
        rw [← g75] at A75 D75 st75
        have lt_b75 := own_ltN' A75.lt
        have sz76 := E75.1
        have K76 := K74.ext E75
        have O76 := O74.ext E75
        have F75_misspelling : Fld Z h75 b75 "com/example/collie/collie/engine/MinedPair" "misspelling" "Ljava/lang/String;" .null := D75 (Or.inr (own_w G 53 rfl)) (ty := (.object "java/lang/String")) (by decide)
        have F75_correction : Fld Z h75 b75 "com/example/collie/collie/engine/MinedPair" "correction" "Ljava/lang/String;" .null := D75 (Or.inr (own_w G 55 rfl)) (ty := (.object "java/lang/String")) (by decide)
        have F75_misspellingCount : Fld Z h75 b75 "com/example/collie/collie/engine/MinedPair" "misspellingCount" "J" (.long (0 : Int64)) := D75 (Or.inr (own_w G 57 rfl)) (ty := .long) (by decide)
        have F75_correctionCount : Fld Z h75 b75 "com/example/collie/collie/engine/MinedPair" "correctionCount" "J" (.long (0 : Int64)) := D75 (Or.inr (own_w G 59 rfl)) (ty := .long) (by decide)
        have F75_type : Fld Z h75 b75 "com/example/collie/collie/engine/MinedPair" "type" "Lcom/example/collie/collie/engine/CorrectionType;" .null := D75 (Or.inr (own_w G 61 rfl)) (ty := (.object "com/example/collie/collie/engine/CorrectionType")) (by decide)
        have F75_distance : Fld Z h75 b75 "com/example/collie/collie/engine/MinedPair" "distance" "I" (.int (0 : Int32)) := D75 (Or.inr (own_w G 63 rfl)) (ty := .int) (by decide)
        refine OwnEnd.of (S' := T75.setTop (mkF m 92 #[.val (.int p0), .val (.int p1), .val (.int p2), .val (.long j3), .second, .val (.long j4), .second, .val (.int p5), .val (.int ((1 : Int32) + ((p2 &&& (3 : Int32)) % (3 : Int32)))), .val (.int ((1 : Int32) + ((((p2).toUInt32 >>> ((2 : Int32) &&& 31).toUInt32).toInt32 &&& (3 : Int32)) % (3 : Int32)))), .val (.int (((p2).toUInt32 >>> ((4 : Int32) &&& 31).toUInt32).toInt32 &&& (3 : Int32))), .val (.ref aC1), .val (.ref x_71), .val (.ref x_73), .unset, .unset] [(.ref b75)])) st75 ?_
        refine OwnEnd.of (S' := T75.setTop (mkF m 104 #[.val (.int p0), .val (.int p1), .val (.int p2), .val (.long j3), .second, .val (.long j4), .second, .val (.int p5), .val (.int ((1 : Int32) + ((p2 &&& (3 : Int32)) % (3 : Int32)))), .val (.int ((1 : Int32) + ((((p2).toUInt32 >>> ((2 : Int32) &&& 31).toUInt32).toInt32 &&& (3 : Int32)) % (3 : Int32)))), .val (.int (((p2).toUInt32 >>> ((4 : Int32) &&& 31).toUInt32).toInt32 &&& (3 : Int32))), .val (.ref aC1), .val (.ref x_71), .val (.ref x_73), .unset, .unset] [(.int p5), (.ref aC1), (.long j4), (.long j3), (.ref x_73), (.ref x_71), (.ref b75), (.ref b75)])) (fun _ kK => XS.dup X75.here hx rfl (hb hby at_92) rfl rfl (XS.aload X75.here hx rfl (hb hby at_93) rfl rfl (XS.aload X75.here hx rfl (hb hby at_95) rfl rfl (XS.lloadN X75.here hx rfl (hb hby at_97) rfl (XS.lload X75.here hx rfl (hb hby at_98) rfl (XS.aload X75.here hx rfl (hb hby at_100) rfl rfl (XS.iload X75.here hx rfl (hb hby at_102) rfl kK))))))) ?_
        obtain ⟨_, _, ⟨T77, L77, k77, n77⟩, -, X77, ⟨Lc77, hQ77, l77, y77, z77⟩, st77⟩ := Jvm.Stand.specialBack X75 hx (y := own_m30) rfl hown (mvT hZ (own_w G 43 rfl)) (mvT hZ (own_w G 44 rfl)) (mvT hZ (own_w G 45 rfl)) (by decide) (backOf (W := 1) (rmmi l Z a0 G [] b75 x_71 x_73 j3 j4 aC1 p5 .null .null (.long (0 : Int64)) (.long (0 : Int64)) .null (.int (0 : Int32)) h75 n0 O76 A75 F75_misspelling F75_correction F75_misspellingCount F75_correctionCount F75_type F75_distance (by omega)) hZ (own_w G 45 rfl) (own_w G 42 rfl) (by decide) (by decide)) (g := (mkF m 104 #[.val (.int p0), .val (.int p1), .val (.int p2), .val (.long j3), .second, .val (.long j4), .second, .val (.int p5), .val (.int ((1 : Int32) + ((p2 &&& (3 : Int32)) % (3 : Int32)))), .val (.int ((1 : Int32) + ((((p2).toUInt32 >>> ((2 : Int32) &&& 31).toUInt32).toInt32 &&& (3 : Int32)) % (3 : Int32)))), .val (.int (((p2).toUInt32 >>> ((4 : Int32) &&& 31).toUInt32).toInt32 &&& (3 : Int32))), .val (.ref aC1), .val (.ref x_71), .val (.ref x_73), .unset, .unset] [(.int p5), (.ref aC1), (.long j4), (.long j3), (.ref x_73), (.ref x_71), (.ref b75), (.ref b75)])) rfl (by rw [hml]; rfl) (Steps.refl _) (a := b75) (argsL := [(.ref x_71), (.ref x_73), (.long j3), (.long j4), (.ref aC1), (.int p5)]) (rest := [(.ref b75)]) (lenOf pd_24 rfl) rfl (by show 2 * 0 + _ ≤ _; exact Nat.le_of_eq rfl) (hb hby at_104) (fun _ _ => ⟨rfl, e75, (by decide : 9 + 0 ≤ _), (by decide : 38 + 0 ≤ _)⟩)
        dsimp only [Pt.U, Pt.locs, Pt.cells, Pt.slots] at X77 l77 y77 z77 st77 hQ77
        subst l77 y77 z77
        obtain ⟨rfl, N77q, Kq77, r77_0, r77_1, r77_2⟩ := hQ77
        have N77 := Fr.app N73 N77q
        have sz78 := Kq77.1
        have K78 := K76.trans Kq77 (own_all1 (Or.inr (by omega)))
        have O78 := O76.keep Kq77 (own_all1 (by omega))
        have ltr77_0 := own_ltN' r77_0.lt
        have ltr77_1 := own_ltN' r77_1.lt
        have ltr77_2 := own_ltN' r77_2.lt
        refine OwnEnd.tr (S' := T77.setTop (mkF m 107 #[.val (.int p0), .val (.int p1), .val (.int p2), .val (.long j3), .second, .val (.long j4), .second, .val (.int p5), .val (.int ((1 : Int32) + ((p2 &&& (3 : Int32)) % (3 : Int32)))), .val (.int ((1 : Int32) + ((((p2).toUInt32 >>> ((2 : Int32) &&& 31).toUInt32).toInt32 &&& (3 : Int32)) % (3 : Int32)))), .val (.int (((p2).toUInt32 >>> ((4 : Int32) &&& 31).toUInt32).toInt32 &&& (3 : Int32))), .val (.ref aC1), .val (.ref x_71), .val (.ref x_73), .unset, .unset] [(.ref b75)])) st77 ?_
        refine OwnEnd.of (S' := T77.setTop (mkF m 111 #[.val (.int p0), .val (.int p1), .val (.int p2), .val (.long j3), .second, .val (.long j4), .second, .val (.int p5), .val (.int ((1 : Int32) + ((p2 &&& (3 : Int32)) % (3 : Int32)))), .val (.int ((1 : Int32) + ((((p2).toUInt32 >>> ((2 : Int32) &&& 31).toUInt32).toInt32 &&& (3 : Int32)) % (3 : Int32)))), .val (.int (((p2).toUInt32 >>> ((4 : Int32) &&& 31).toUInt32).toInt32 &&& (3 : Int32))), .val (.ref aC1), .val (.ref x_71), .val (.ref x_73), .val (.ref b75), .unset] [(.ref x_71)])) (fun _ kK => XS.astore X77.here hx rfl (hb hby at_107) rfl rfl (l' := #[.val (.int p0), .val (.int p1), .val (.int p2), .val (.long j3), .second, .val (.long j4), .second, .val (.int p5), .val (.int ((1 : Int32) + ((p2 &&& (3 : Int32)) % (3 : Int32)))), .val (.int ((1 : Int32) + ((((p2).toUInt32 >>> ((2 : Int32) &&& 31).toUInt32).toInt32 &&& (3 : Int32)) % (3 : Int32)))), .val (.int (((p2).toUInt32 >>> ((4 : Int32) &&& 31).toUInt32).toInt32 &&& (3 : Int32))), .val (.ref aC1), .val (.ref x_71), .val (.ref x_73), .val (.ref b75), .unset]) rfl (XS.aload X77.here hx rfl (hb hby at_109) rfl rfl kK)) ?_
        have f79 : Exa Z T77.heap x_71 "java/lang/String" := (((r71_0.keep Kq73).ext E75).keep Kq77)
        have f80 : Fld Z T77.heap x_71 "java/lang/String" "value" "[B" (.ref t_71) := (((r71_1.keep Kq73 nin0).ext E75).keep Kq77 (own_nin1 (own_ne (by omega))))
        have f81 : Fld Z T77.heap x_71 "java/lang/String" "coder" "B" (.int cd_71) := (((r71_2.keep Kq73 nin0).ext E75).keep Kq77 (own_nin1 (own_ne (by omega))))
        have f82 : Arv Z T77.heap t_71 kb_71 .byte N_71 vs_71 (.int (0 : Int32)) := (((r71_3.keep Kq73 nin0).ext E75).keep Kq77 (own_nin1 (own_ne (by omega))))
        obtain ⟨_, _, ⟨T83, L83, k83, n83⟩, -, X83, ⟨Lc83, hQ83, l83, y83, z83⟩, st83⟩ := Jvm.LawKit.callS X77 hx (y := own_m22) hown (mvT hZ (own_w G 64 rfl)) (mvT hZ (own_w G 65 rfl)) (mvT hZ (own_w G 5 rfl)) (mvT hZ (own_w G 66 rfl)) (by decide) (backOf (W := 0) (rmlc l Z a0 G [] x_71 t_71 kb_71 N_71 vs_71 cd_71 cs_71 T77.heap n0 O78 f79 f80 f81 f82 r71_4 r71_5 r71_6) hZ (own_w G 66 rfl) (own_w G 5 rfl) (by decide) (by decide)) (g := (mkF m 111 #[.val (.int p0), .val (.int p1), .val (.int p2), .val (.long j3), .second, .val (.long j4), .second, .val (.int p5), .val (.int ((1 : Int32) + ((p2 &&& (3 : Int32)) % (3 : Int32)))), .val (.int ((1 : Int32) + ((((p2).toUInt32 >>> ((2 : Int32) &&& 31).toUInt32).toInt32 &&& (3 : Int32)) % (3 : Int32)))), .val (.int (((p2).toUInt32 >>> ((4 : Int32) &&& 31).toUInt32).toInt32 &&& (3 : Int32))), .val (.ref aC1), .val (.ref x_71), .val (.ref x_73), .val (.ref b75), .unset] [(.ref x_71)])) rfl (by rw [hml]; rfl) (argsL := [(.ref x_71)]) (rest := []) (lenOf pd_25 rfl) rfl (by show 2 * 0 + _ ≤ _; exact Nat.le_of_eq rfl) (hb hby at_111) (fun _ _ => ⟨rfl, rfl, (by decide : 9 + 0 ≤ _), (by decide : 38 + 0 ≤ _)⟩)
        dsimp only [Pt.U, Pt.locs, Pt.cells, Pt.slots] at X83 l83 y83 z83 st83 hQ83
        subst l83 y83 z83
        obtain ⟨rfl, N83q, eh83⟩ := hQ83
        have N83 := Fr.app N77 N83q
        refine OwnEnd.of (S' := T83.setTop (mkF m 114 #[.val (.int p0), .val (.int p1), .val (.int p2), .val (.long j3), .second, .val (.long j4), .second, .val (.int p5), .val (.int ((1 : Int32) + ((p2 &&& (3 : Int32)) % (3 : Int32)))), .val (.int ((1 : Int32) + ((((p2).toUInt32 >>> ((2 : Int32) &&& 31).toUInt32).toInt32 &&& (3 : Int32)) % (3 : Int32)))), .val (.int (((p2).toUInt32 >>> ((4 : Int32) &&& 31).toUInt32).toInt32 &&& (3 : Int32))), .val (.ref aC1), .val (.ref x_71), .val (.ref x_73), .val (.ref b75), .unset] [(.int (own_cpl cs_71))])) st83 ?_
        refine OwnEnd.of (S' := T83.setTop (mkF m 116 #[.val (.int p0), .val (.int p1), .val (.int p2), .val (.long j3), .second, .val (.long j4), .second, .val (.int p5), .val (.int ((1 : Int32) + ((p2 &&& (3 : Int32)) % (3 : Int32)))), .val (.int ((1 : Int32) + ((((p2).toUInt32 >>> ((2 : Int32) &&& 31).toUInt32).toInt32 &&& (3 : Int32)) % (3 : Int32)))), .val (.int (((p2).toUInt32 >>> ((4 : Int32) &&& 31).toUInt32).toInt32 &&& (3 : Int32))), .val (.ref aC1), .val (.ref x_71), .val (.ref x_73), .val (.ref b75), .unset] [(.ref x_73), (.int (own_cpl cs_71))])) (fun _ kK => XS.aload X83.here hx rfl (hb hby at_114) rfl rfl kK) ?_
        have f84 : Exa Z T77.heap x_73 "java/lang/String" := ((r73_0.ext E75).keep Kq77)
        have f85 : Fld Z T77.heap x_73 "java/lang/String" "value" "[B" (.ref t_73) := ((r73_1.ext E75).keep Kq77 (own_nin1 (own_ne (by omega))))
        have f86 : Fld Z T77.heap x_73 "java/lang/String" "coder" "B" (.int cd_73) := ((r73_2.ext E75).keep Kq77 (own_nin1 (own_ne (by omega))))
        have f87 : Arv Z T77.heap t_73 kb_73 .byte N_73 vs_73 (.int (0 : Int32)) := ((r73_3.ext E75).keep Kq77 (own_nin1 (own_ne (by omega))))
        obtain ⟨_, _, ⟨T88, L88, k88, n88⟩, -, X88, ⟨Lc88, hQ88, l88, y88, z88⟩, st88⟩ := Jvm.LawKit.callS X83 hx (y := own_m22) hown (mvT hZ (own_w G 64 rfl)) (mvT hZ (own_w G 65 rfl)) (mvT hZ (own_w G 5 rfl)) (mvT hZ (own_w G 66 rfl)) (by decide) (backOf (W := 1) (rmlc l Z a0 G [] x_73 t_73 kb_73 N_73 vs_73 cd_73 cs_73 T77.heap n0 O78 f84 f85 f86 f87 r73_4 r73_5 r73_6) hZ (own_w G 66 rfl) (own_w G 5 rfl) (by decide) (by decide)) (g := (mkF m 116 #[.val (.int p0), .val (.int p1), .val (.int p2), .val (.long j3), .second, .val (.long j4), .second, .val (.int p5), .val (.int ((1 : Int32) + ((p2 &&& (3 : Int32)) % (3 : Int32)))), .val (.int ((1 : Int32) + ((((p2).toUInt32 >>> ((2 : Int32) &&& 31).toUInt32).toInt32 &&& (3 : Int32)) % (3 : Int32)))), .val (.int (((p2).toUInt32 >>> ((4 : Int32) &&& 31).toUInt32).toInt32 &&& (3 : Int32))), .val (.ref aC1), .val (.ref x_71), .val (.ref x_73), .val (.ref b75), .unset] [(.ref x_73), (.int (own_cpl cs_71))])) rfl (by rw [hml]; rfl) (argsL := [(.ref x_73)]) (rest := [(.int (own_cpl cs_71))]) (lenOf pd_25 rfl) rfl (by show 2 * 0 + _ ≤ _; exact Nat.le_of_eq rfl) (hb hby at_116) (fun _ _ => ⟨rfl, eh83, (by decide : 9 + 0 ≤ _), (by decide : 38 + 0 ≤ _)⟩)
        dsimp only [Pt.U, Pt.locs, Pt.cells, Pt.slots] at X88 l88 y88 z88 st88 hQ88
        subst l88 y88 z88
        obtain ⟨rfl, N88q, eh88⟩ := hQ88
        have N88 := Fr.app N83 N88q
        refine OwnEnd.of (S' := T88.setTop (mkF m 119 #[.val (.int p0), .val (.int p1), .val (.int p2), .val (.long j3), .second, .val (.long j4), .second, .val (.int p5), .val (.int ((1 : Int32) + ((p2 &&& (3 : Int32)) % (3 : Int32)))), .val (.int ((1 : Int32) + ((((p2).toUInt32 >>> ((2 : Int32) &&& 31).toUInt32).toInt32 &&& (3 : Int32)) % (3 : Int32)))), .val (.int (((p2).toUInt32 >>> ((4 : Int32) &&& 31).toUInt32).toInt32 &&& (3 : Int32))), .val (.ref aC1), .val (.ref x_71), .val (.ref x_73), .val (.ref b75), .unset] [(.int (own_cpl cs_73)), (.int (own_cpl cs_71))])) st88 ?_
        rcases Decidable.em ((own_cpl cs_71) = (own_cpl cs_73)) with hc89 | hc89
        · refine OwnEnd.of (S' := T88.setTop (mkF m 131 #[.val (.int p0), .val (.int p1), .val (.int p2), .val (.long j3), .second, .val (.long j4), .second, .val (.int p5), .val (.int ((1 : Int32) + ((p2 &&& (3 : Int32)) % (3 : Int32)))), .val (.int ((1 : Int32) + ((((p2).toUInt32 >>> ((2 : Int32) &&& 31).toUInt32).toInt32 &&& (3 : Int32)) % (3 : Int32)))), .val (.int (((p2).toUInt32 >>> ((4 : Int32) &&& 31).toUInt32).toInt32 &&& (3 : Int32))), .val (.ref aC1), .val (.ref x_71), .val (.ref x_73), .val (.ref b75), .val (.int (1 : Int32))] [(.ref b75)])) (fun _ kK => XS.icmpNo X88.here hx rfl (hb hby at_119) rfl (teq (hc89)).2 (XS.iconst X88.here hx rfl (hb hby at_122) (XS.goto X88.here hx rfl (pc0 := 123) (pc' := 127) rfl (hb hby at_123) (by decide) (by decide) (XS.istore X88.here hx rfl (hb hby at_127) rfl (l' := #[.val (.int p0), .val (.int p1), .val (.int p2), .val (.long j3), .second, .val (.long j4), .second, .val (.int p5), .val (.int ((1 : Int32) + ((p2 &&& (3 : Int32)) % (3 : Int32)))), .val (.int ((1 : Int32) + ((((p2).toUInt32 >>> ((2 : Int32) &&& 31).toUInt32).toInt32 &&& (3 : Int32)) % (3 : Int32)))), .val (.int (((p2).toUInt32 >>> ((4 : Int32) &&& 31).toUInt32).toInt32 &&& (3 : Int32))), .val (.ref aC1), .val (.ref x_71), .val (.ref x_73), .val (.ref b75), .val (.int (1 : Int32))]) rfl (XS.aload X88.here hx rfl (hb hby at_129) rfl rfl kK))))) ?_
          obtain ⟨cq90, kq90, q90a, q90b, q90c⟩ := isOf hZ eh88 r77_0
          obtain ⟨_, _, ⟨T90, L90, k90, n90⟩, -, X90, ⟨Lc90, hQ90, l90, y90, z90⟩, st90⟩ := X88.virtualBack hx (y := own_m31) (z := own_m31) hown (mvT hZ (own_w G 100 rfl)) (mvT hZ (own_w G 101 rfl)) (notFace_of_selects (args := #[]) (mvT hZ (own_w G 103 rfl))) (mvT hZ (own_w G 103 rfl)) (mvT hZ (own_w G 102 rfl)) (by decide) (backOf (W := 0) (rmlm l Z a0 G [] b75 x_71 t_71 kb_71 N_71 vs_71 cd_71 cs_71 x_73 t_73 kb_73 N_73 vs_73 cd_73 cs_73 T77.heap n0 O78 r77_1 r77_2 f79 f80 f81 f82 r71_4 r71_5 r71_6 f84 f85 f86 f87 r73_4 r73_5 r73_6) hZ (own_w G 104 rfl) (own_w G 42 rfl) (by decide) (by decide)) q90a q90c (g := (mkF m 131 #[.val (.int p0), .val (.int p1), .val (.int p2), .val (.long j3), .second, .val (.long j4), .second, .val (.int p5), .val (.int ((1 : Int32) + ((p2 &&& (3 : Int32)) % (3 : Int32)))), .val (.int ((1 : Int32) + ((((p2).toUInt32 >>> ((2 : Int32) &&& 31).toUInt32).toInt32 &&& (3 : Int32)) % (3 : Int32)))), .val (.int (((p2).toUInt32 >>> ((4 : Int32) &&& 31).toUInt32).toInt32 &&& (3 : Int32))), .val (.ref aC1), .val (.ref x_71), .val (.ref x_73), .val (.ref b75), .val (.int (1 : Int32))] [(.ref b75)])) rfl (by rw [hml]; rfl) (Steps.refl _) (argsL := []) (rest := []) (lenOf pd_6 rfl) rfl (by show 2 * 0 + _ ≤ _; exact Nat.le_of_eq rfl) (hb hby at_131) (fun _ _ => ⟨rfl, eh88, (by decide : 9 + 0 ≤ _), (by decide : 38 + 0 ≤ _)⟩)
          dsimp only [Pt.U, Pt.locs, Pt.cells, Pt.slots] at X90 l90 y90 z90 st90 hQ90
          subst l90 y90 z90
          obtain ⟨rfl, N90q, eh90⟩ := hQ90
          have N90 := Fr.app N88 N90q
          refine OwnEnd.tr (S' := T90.setTop (mkF m 134 #[.val (.int p0), .val (.int p1), .val (.int p2), .val (.long j3), .second, .val (.long j4), .second, .val (.int p5), .val (.int ((1 : Int32) + ((p2 &&& (3 : Int32)) % (3 : Int32)))), .val (.int ((1 : Int32) + ((((p2).toUInt32 >>> ((2 : Int32) &&& 31).toUInt32).toInt32 &&& (3 : Int32)) % (3 : Int32)))), .val (.int (((p2).toUInt32 >>> ((4 : Int32) &&& 31).toUInt32).toInt32 &&& (3 : Int32))), .val (.ref aC1), .val (.ref x_71), .val (.ref x_73), .val (.ref b75), .val (.int (1 : Int32))] [(.int (if own_cpl cs_71 = own_cpl cs_73 then 1 else 0))])) st90 ?_
          refine OwnEnd.of (S' := T90.setTop (mkF m 136 #[.val (.int p0), .val (.int p1), .val (.int p2), .val (.long j3), .second, .val (.long j4), .second, .val (.int p5), .val (.int ((1 : Int32) + ((p2 &&& (3 : Int32)) % (3 : Int32)))), .val (.int ((1 : Int32) + ((((p2).toUInt32 >>> ((2 : Int32) &&& 31).toUInt32).toInt32 &&& (3 : Int32)) % (3 : Int32)))), .val (.int (((p2).toUInt32 >>> ((4 : Int32) &&& 31).toUInt32).toInt32 &&& (3 : Int32))), .val (.ref aC1), .val (.ref x_71), .val (.ref x_73), .val (.ref b75), .val (.int (1 : Int32))] [(.int (1 : Int32)), (.int (if own_cpl cs_71 = own_cpl cs_73 then 1 else 0))])) (fun _ kK => XS.iload X90.here hx rfl (hb hby at_134) rfl kK) ?_
          have hfin : (if own_cpl cs_71 = own_cpl cs_73 then 1 else 0) = (1 : Int32) := by simp [hc89]
          refine OwnEnd.of (S' := T90.setTop (mkF m 144 #[.val (.int p0), .val (.int p1), .val (.int p2), .val (.long j3), .second, .val (.long j4), .second, .val (.int p5), .val (.int ((1 : Int32) + ((p2 &&& (3 : Int32)) % (3 : Int32)))), .val (.int ((1 : Int32) + ((((p2).toUInt32 >>> ((2 : Int32) &&& 31).toUInt32).toInt32 &&& (3 : Int32)) % (3 : Int32)))), .val (.int (((p2).toUInt32 >>> ((4 : Int32) &&& 31).toUInt32).toInt32 &&& (3 : Int32))), .val (.ref aC1), .val (.ref x_71), .val (.ref x_73), .val (.ref b75), .val (.int (1 : Int32))] [(.int (1 : Int32))])) (fun _ kK => XS.icmpNo X90.here hx rfl (hb hby at_136) rfl (teq (hfin)).2 (XS.iconst X90.here hx rfl (hb hby at_139) (XS.goto X90.here hx rfl (pc0 := 140) (pc' := 144) rfl (hb hby at_140) (by decide) (by decide) kK))) ?_
          refine OwnEnd.ret X90 (v := (some (.int (nar .boolean (1 : Int32))))) (fun h => by rw [Bd.returns] at h; cases h) hlk (fun fs hr => retN X90 hx (t := .boolean) Bd.returns (by simp) (hb hby at_144) hr) (by decide) (by decide) (Q := Qlaw Z p0 p1 p2 j3 j4 p5 h0 n0) eh90 ?_
          exact ⟨rfl, N90, K78⟩
        · refine OwnEnd.of (S' := T88.setTop (mkF m 131 #[.val (.int p0), .val (.int p1), .val (.int p2), .val (.long j3), .second, .val (.long j4), .second, .val (.int p5), .val (.int ((1 : Int32) + ((p2 &&& (3 : Int32)) % (3 : Int32)))), .val (.int ((1 : Int32) + ((((p2).toUInt32 >>> ((2 : Int32) &&& 31).toUInt32).toInt32 &&& (3 : Int32)) % (3 : Int32)))), .val (.int (((p2).toUInt32 >>> ((4 : Int32) &&& 31).toUInt32).toInt32 &&& (3 : Int32))), .val (.ref aC1), .val (.ref x_71), .val (.ref x_73), .val (.ref b75), .val (.int (0 : Int32))] [(.ref b75)])) (fun _ kK => XS.icmpYes X88.here hx rfl (pc0 := 119) (pc' := 126) rfl (hb hby at_119) rfl (feq (hc89)).2 (by decide) (by decide) (XS.iconst X88.here hx rfl (hb hby at_126) (XS.istore X88.here hx rfl (hb hby at_127) rfl (l' := #[.val (.int p0), .val (.int p1), .val (.int p2), .val (.long j3), .second, .val (.long j4), .second, .val (.int p5), .val (.int ((1 : Int32) + ((p2 &&& (3 : Int32)) % (3 : Int32)))), .val (.int ((1 : Int32) + ((((p2).toUInt32 >>> ((2 : Int32) &&& 31).toUInt32).toInt32 &&& (3 : Int32)) % (3 : Int32)))), .val (.int (((p2).toUInt32 >>> ((4 : Int32) &&& 31).toUInt32).toInt32 &&& (3 : Int32))), .val (.ref aC1), .val (.ref x_71), .val (.ref x_73), .val (.ref b75), .val (.int (0 : Int32))]) rfl (XS.aload X88.here hx rfl (hb hby at_129) rfl rfl kK)))) ?_
          obtain ⟨cq91, kq91, q91a, q91b, q91c⟩ := isOf hZ eh88 r77_0
          obtain ⟨_, _, ⟨T91, L91, k91, n91⟩, -, X91, ⟨Lc91, hQ91, l91, y91, z91⟩, st91⟩ := X88.virtualBack hx (y := own_m31) (z := own_m31) hown (mvT hZ (own_w G 100 rfl)) (mvT hZ (own_w G 101 rfl)) (notFace_of_selects (args := #[]) (mvT hZ (own_w G 103 rfl))) (mvT hZ (own_w G 103 rfl)) (mvT hZ (own_w G 102 rfl)) (by decide) (backOf (W := 0) (rmlm l Z a0 G [] b75 x_71 t_71 kb_71 N_71 vs_71 cd_71 cs_71 x_73 t_73 kb_73 N_73 vs_73 cd_73 cs_73 T77.heap n0 O78 r77_1 r77_2 f79 f80 f81 f82 r71_4 r71_5 r71_6 f84 f85 f86 f87 r73_4 r73_5 r73_6) hZ (own_w G 104 rfl) (own_w G 42 rfl) (by decide) (by decide)) q91a q91c (g := (mkF m 131 #[.val (.int p0), .val (.int p1), .val (.int p2), .val (.long j3), .second, .val (.long j4), .second, .val (.int p5), .val (.int ((1 : Int32) + ((p2 &&& (3 : Int32)) % (3 : Int32)))), .val (.int ((1 : Int32) + ((((p2).toUInt32 >>> ((2 : Int32) &&& 31).toUInt32).toInt32 &&& (3 : Int32)) % (3 : Int32)))), .val (.int (((p2).toUInt32 >>> ((4 : Int32) &&& 31).toUInt32).toInt32 &&& (3 : Int32))), .val (.ref aC1), .val (.ref x_71), .val (.ref x_73), .val (.ref b75), .val (.int (0 : Int32))] [(.ref b75)])) rfl (by rw [hml]; rfl) (Steps.refl _) (argsL := []) (rest := []) (lenOf pd_6 rfl) rfl (by show 2 * 0 + _ ≤ _; exact Nat.le_of_eq rfl) (hb hby at_131) (fun _ _ => ⟨rfl, eh88, (by decide : 9 + 0 ≤ _), (by decide : 38 + 0 ≤ _)⟩)
          dsimp only [Pt.U, Pt.locs, Pt.cells, Pt.slots] at X91 l91 y91 z91 st91 hQ91
          subst l91 y91 z91
          obtain ⟨rfl, N91q, eh91⟩ := hQ91
          have N91 := Fr.app N88 N91q
          refine OwnEnd.tr (S' := T91.setTop (mkF m 134 #[.val (.int p0), .val (.int p1), .val (.int p2), .val (.long j3), .second, .val (.long j4), .second, .val (.int p5), .val (.int ((1 : Int32) + ((p2 &&& (3 : Int32)) % (3 : Int32)))), .val (.int ((1 : Int32) + ((((p2).toUInt32 >>> ((2 : Int32) &&& 31).toUInt32).toInt32 &&& (3 : Int32)) % (3 : Int32)))), .val (.int (((p2).toUInt32 >>> ((4 : Int32) &&& 31).toUInt32).toInt32 &&& (3 : Int32))), .val (.ref aC1), .val (.ref x_71), .val (.ref x_73), .val (.ref b75), .val (.int (0 : Int32))] [(.int (if own_cpl cs_71 = own_cpl cs_73 then 1 else 0))])) st91 ?_
          refine OwnEnd.of (S' := T91.setTop (mkF m 136 #[.val (.int p0), .val (.int p1), .val (.int p2), .val (.long j3), .second, .val (.long j4), .second, .val (.int p5), .val (.int ((1 : Int32) + ((p2 &&& (3 : Int32)) % (3 : Int32)))), .val (.int ((1 : Int32) + ((((p2).toUInt32 >>> ((2 : Int32) &&& 31).toUInt32).toInt32 &&& (3 : Int32)) % (3 : Int32)))), .val (.int (((p2).toUInt32 >>> ((4 : Int32) &&& 31).toUInt32).toInt32 &&& (3 : Int32))), .val (.ref aC1), .val (.ref x_71), .val (.ref x_73), .val (.ref b75), .val (.int (0 : Int32))] [(.int (0 : Int32)), (.int (if own_cpl cs_71 = own_cpl cs_73 then 1 else 0))])) (fun _ kK => XS.iload X91.here hx rfl (hb hby at_134) rfl kK) ?_
          have hfin : (if own_cpl cs_71 = own_cpl cs_73 then 1 else 0) = (0 : Int32) := by simp [hc89]
          refine OwnEnd.of (S' := T91.setTop (mkF m 144 #[.val (.int p0), .val (.int p1), .val (.int p2), .val (.long j3), .second, .val (.long j4), .second, .val (.int p5), .val (.int ((1 : Int32) + ((p2 &&& (3 : Int32)) % (3 : Int32)))), .val (.int ((1 : Int32) + ((((p2).toUInt32 >>> ((2 : Int32) &&& 31).toUInt32).toInt32 &&& (3 : Int32)) % (3 : Int32)))), .val (.int (((p2).toUInt32 >>> ((4 : Int32) &&& 31).toUInt32).toInt32 &&& (3 : Int32))), .val (.ref aC1), .val (.ref x_71), .val (.ref x_73), .val (.ref b75), .val (.int (0 : Int32))] [(.int (1 : Int32))])) (fun _ kK => XS.icmpNo X91.here hx rfl (hb hby at_136) rfl (teq (hfin)).2 (XS.iconst X91.here hx rfl (hb hby at_139) (XS.goto X91.here hx rfl (pc0 := 140) (pc' := 144) rfl (hb hby at_140) (by decide) (by decide) kK))) ?_
          refine OwnEnd.ret X91 (v := (some (.int (nar .boolean (1 : Int32))))) (fun h => by rw [Bd.returns] at h; cases h) hlk (fun fs hr => retN X91 hx (t := .boolean) Bd.returns (by simp) (hb hby at_144) hr) (by decide) (by decide) (Q := Qlaw Z p0 p1 p2 j3 j4 p5 h0 n0) eh91 ?_
          exact ⟨rfl, N91, K78⟩
set_option maxRecDepth 65536 in
set_option maxHeartbeats 40000000 in
theorem comes_1 {Post : Tables → Env → Array Value → State → Outcome → State → Prop} (hpost : ∀ tb e args s v u, (limb_1_1.after args s (.returned v) u = true ∧ limb_1_2.after args s (.returned v) u = true ∧ True) → FrameEnd s (.returned v) u (Jvm.fieldLocs frame_1_writes args s ++ Jvm.arrayLocs frame_1_arrays args s ++ Jvm.staticLocs frame_1_statics s) 32 192 → Post tb e args s (.returned v) u) :
    ArmFor flags0 classFile x code maxLocals ret World_1 tables_1 room_1 Calls_1 rest_1 Pre_1 Post := by
  intro l hfl _ _ p e ha hc hk s m args below hf hA hF happ hP
  obtain ⟨hcalls, hrest, hpre⟩ := hP
  obtain ⟨-, -, -, hnamed, -, -, -, hat⟩ := (Spec.applies_iff hf).mp happ
  obtain ⟨hg, hn⟩ := and_e (Cond.before_iff.mp (show (Jvm.Cond.and given_1 narrow_1).before args s = true from hpre))
  obtain ⟨h1, h2⟩ := and_e hg
  obtain ⟨g0, t0⟩ := and_e h2
  obtain ⟨g1, t1⟩ := and_e t0
  obtain ⟨g2, t2⟩ := and_e t1
  obtain ⟨g3, t3⟩ := and_e t2
  obtain ⟨g4, t4⟩ := and_e t3
  obtain ⟨w0, w1, w2, w3, w4, w5, rfl⟩ : ∃ w0 w1 w2 w3 w4 w5 : Value, args = #[w0, w1, w2, w3, w4, w5] := by
    have hs : args.size = 6 := by simpa [Cond.value, given_1] using h1
    obtain ⟨L⟩ := args
    match L, hs with
    | [w0, w1, w2, w3, w4, w5], _ => exact ⟨w0, w1, w2, w3, w4, w5, rfl⟩
  have hw := fun d (hd : d ∈ tables_1) => atoms_spec (ws := Jvm.Cond.code x code maxLocals ret :: tables_1) hat d (List.mem_cons_of_mem _ hd)
  obtain ⟨hsets, hown0⟩ := atoms_of _ (rest_1_c_eq ▸ (show rest_1_c.before _ s = true from hrest))
  obtain ⟨i0, ei0⟩ := is_v g0
  obtain rfl : w0 = (.int i0) := Option.some.inj ei0
  obtain ⟨i1, ei1⟩ := is_v g1
  obtain rfl : w1 = (.int i1) := Option.some.inj ei1
  obtain ⟨i2, ei2⟩ := is_v g2
  obtain rfl : w2 = (.int i2) := Option.some.inj ei2
  obtain ⟨i3, ei3⟩ := isL_v g3
  obtain rfl : w3 = (.long i3) := Option.some.inj ei3
  obtain ⟨i4, ei4⟩ := isL_v g4
  obtain rfl : w4 = (.long i4) := Option.some.inj ei4
  obtain ⟨i5, ei5⟩ := is_v t4
  obtain rfl : w5 = (.int i5) := Option.some.inj ei5
  have G : OwnG s #[(.int i0), (.int i1), (.int i2), (.long i3), (.long i4), (.int i5)] := ⟨hw, hsets, Cond.before_iff.mpr hn⟩
  obtain ⟨n, o, h1, h2, h3, _, L, rfl, ⟨rfl, N, -⟩, hq⟩ := rmlaw l s _ G tables_1 i0 i1 i2 i3 i4 i5 s.heap s.heap.size (Old.start s) p e ha hc hk s m _ below hf ((Spec.applies_iff_loose hf).mp happ).1 ⟨rfl, State.Warmed39.refl s, rfl⟩ trivial
  refine ⟨n, _, h1, h2, h3, hpost _ _ _ _ _ _ ⟨Cond.after_iff.mpr rfl, Cond.after_iff.mpr (eq_i res_at (Term.int_eval (1)) rfl), trivial⟩ ⟨hq.1, hq.2.1, (hq.2.2.sift fun y hy => Or.inr (N y hy)).mono (by decide) (by decide)⟩⟩
theorem main_1_1 : Claimed_1_1 := comes_1 fun _ _ _ _ _ _ h hF => ⟨h.1, hF⟩
theorem main_1_2 : Claimed_1_2 := comes_1 fun _ _ _ _ _ _ h hF => ⟨h.2.1, hF⟩
end Jvm.Pilot.@@N@@
namespace Jvm.Pilot.@@N@@
open Jvm Jvm.ClassFile Sem Op Lib Jvm.Free Jvm.Stand Jvm.Pilot.@@N@@.Jvm.D
/-! MADE BY PROGRAM (witnessworld.py) out of the Statement's table words and the real class files: 24 classes; the members and pool entries that the words name. The judged class is class 1, her method 1. -/
namespace start1
open Jvm.ClassFile
def u (s : String) : CpInfo := .utf8 (stringToUtf16 s)
/-- a pool by its gaps: so many unusable entries, then the entry; so many at the end -/
def gap : Nat → List CpInfo → List CpInfo
  | 0, r => r
  | n + 1, r => .unusable :: gap n r
def poolList (es : List (Nat × CpInfo)) (last : Nat) : List CpInfo := es.foldr (fun e r => gap e.1 (e.2 :: r)) (gap last [])
def pool (es : List (Nat × CpInfo)) (last : Nat) : Array CpInfo := ⟨poolList es last⟩
def fileOf (pool : Array CpInfo) (this : Nat) (attrs : Array Attribute := #[]) (ms : Array MethodInfo := #[]) (fl : Nat := 33) (sup : Nat := 0) (ifs : Array Nat := #[]) (fds : Array FieldInfo := #[]) : ClassFile where
  minorVersion := 0
  majorVersion := 65
  constantPool := pool
  accessFlags := fl
  thisClass := this
  superClass := sup
  interfaces := ifs
  fields := fds
  methods := ms
  attributes := attrs
def plain (name : String) (sup : Option ClassId) : Class where
  name := name
  kind := .ordinary
  loader := none
  accessFlags := 33
  super := sup
  interfaces := #[]
  cf := none
  fields := #[]
  methods := #[]
  instanceTypes := #[]
  staticTypes := #[]
  resolved := #[]
  callSites := []
  init := .initialized
  statics := none
  mirror := none

def pool0 : Array CpInfo := pool [(5, u "<init>"), (0, u "()V"), (1, .class_ 10), (1, u "java/lang/Object")] 113

def k0c0 : Code := { maxStack := 0, maxLocals := 1, code := object_method_1_code, exceptionTable := #[], attributes := #[] }
def k0m0 : Method := { name := "<init>", desc := "()V", sig := { parameters := [], returnType := none }, accessFlags := 1, code := some k0c0 }
/-- java/lang/Object -/
def k0 : Class := { plain "java/lang/Object" none with
  accessFlags := 33
  interfaces := #[]
  cf := some (fileOf pool0 8 #[] #[{ accessFlags := 1, nameIndex := 5, descriptorIndex := 6, attributes := #[] }] 33 0 #[] #[])
  fields := #[]
  methods := #[k0m0]
  instanceTypes := #[]
  staticTypes := #[]
  resolved := Array.replicate 124 none
  statics := none }

def pool1 : Array CpInfo := pool [(2, .class_ 4), (1, u "java/lang/Object"), (0, u "<init>"), (0, u "()V"), (0, .fieldref 8 9), (0, .class_ 10), (0, .nameAndType 11 12), (0, u "com/example/collie/collie/engine/CorrectionType"), (0, u "WORD"), (0, u "Lcom/example/collie/collie/engine/CorrectionType;"), (0, .fieldref 8 14), (0, .nameAndType 15 12), (0, u "PHRASE"), (0, .fieldref 8 17), (0, .nameAndType 18 12), (0, u "COMBINE_OR_BREAK"), (0, .fieldref 8 20), (0, .nameAndType 21 12), (0, u "COMBINE_OR_BREAK_BOTH_WAYS"), (0, .methodref 23 24), (0, .class_ 25), (0, .nameAndType 26 27), (0, u "com/example/collie/collie/engine/MinedPairLastCharacterMatchPinLaw"), (0, u "make"), (0, u "(II)Ljava/lang/String;"), (0, .class_ 29), (0, u "com/example/collie/collie/engine/MinedPair"), (0, .methodref 28 31), (0, .nameAndType 5 32), (0, u "(Ljava/lang/String;Ljava/lang/String;JJLcom/example/collie/collie/engine/CorrectionType;I)V"), (0, .methodref 23 34), (0, .nameAndType 35 36), (0, u "lastCodePoint"), (0, u "(Ljava/lang/String;)I"), (0, .methodref 28 38), (0, .nameAndType 39 40), (0, u "lastCharacterMatch"), (0, u "()Z"), (0, .integer 55296), (0, .integer 56320), (0, .methodref 23 44), (0, .nameAndType 45 46), (0, u "draw"), (0, u "(II)C"), (0, .class_ 48), (0, u "java/lang/String"), (0, .methodref 47 50), (0, .nameAndType 5 51), (0, u "([C)V"), (0, .methodref 47 53), (0, .nameAndType 54 55), (0, u "length"), (0, u "()I"), (0, .methodref 47 57), (0, .nameAndType 58 59), (0, u "charAt"), (0, u "(I)C"), (0, .integer 57343), (0, .integer 56319), (0, .integer 65536), (2, u "law"), (0, u "(IIIJJI)Z")] 3

def k1m0 : Method := { name := "<init>", desc := "()V", sig := { parameters := [], returnType := none }, accessFlags := 2, code := none }
def k1c1 : Code := { maxStack := 10, maxLocals := 16, code := code, exceptionTable := #[], attributes := #[] }
def k1m1 : Method := { name := "law", desc := "(IIIJJI)Z", sig := { parameters := [.int, .int, .int, .long, .long, .int], returnType := some .boolean }, accessFlags := 9, code := some k1c1 }
def k1c2 : Code := { maxStack := 3, maxLocals := 5, code := method_3_code, exceptionTable := #[], attributes := #[] }
def k1m2 : Method := { name := "draw", desc := "(II)C", sig := { parameters := [.int, .int], returnType := some .char }, accessFlags := 10, code := some k1c2 }
def k1c3 : Code := { maxStack := 6, maxLocals := 5, code := method_4_code, exceptionTable := #[], attributes := #[] }
def k1m3 : Method := { name := "make", desc := "(II)Ljava/lang/String;", sig := { parameters := [.int, .int], returnType := some (.object "java/lang/String") }, accessFlags := 10, code := some k1c3 }
def k1c4 : Code := { maxStack := 3, maxLocals := 4, code := method_5_code, exceptionTable := #[], attributes := #[] }
def k1m4 : Method := { name := "lastCodePoint", desc := "(Ljava/lang/String;)I", sig := { parameters := [(.object "java/lang/String")], returnType := some .int }, accessFlags := 10, code := some k1c4 }
/-- com/example/collie/collie/engine/MinedPairLastCharacterMatchPinLaw -/
def k1 : Class := { plain "com/example/collie/collie/engine/MinedPairLastCharacterMatchPinLaw" (some 0) with
  accessFlags := 49
  interfaces := #[]
  cf := some (fileOf pool1 23 #[] #[{ accessFlags := 2, nameIndex := 5, descriptorIndex := 6, attributes := #[] }, { accessFlags := 9, nameIndex := 65, descriptorIndex := 66, attributes := #[] }, { accessFlags := 10, nameIndex := 45, descriptorIndex := 46, attributes := #[] }, { accessFlags := 10, nameIndex := 26, descriptorIndex := 27, attributes := #[] }, { accessFlags := 10, nameIndex := 35, descriptorIndex := 36, attributes := #[] }] 49 2 #[] #[])
  fields := #[]
  methods := #[k1m0, k1m1, k1m2, k1m3, k1m4]
  instanceTypes := #[]
  staticTypes := #[]
  resolved := Array.replicate 70 none
  statics := none }

def pool2 : Array CpInfo := pool [(1, .class_ 2), (0, u "java/lang/constant/Constable"), (0, .class_ 4), (0, u "java/lang/Object")] 6

/-- java/lang/constant/Constable -/
def k2 : Class := { plain "java/lang/constant/Constable" (some 0) with
  accessFlags := 1537
  interfaces := #[]
  cf := some (fileOf pool2 1 #[] #[] 1537 3 #[] #[])
  fields := #[]
  methods := #[]
  instanceTypes := #[]
  staticTypes := #[]
  resolved := Array.replicate 11 none
  statics := none }

def pool3 : Array CpInfo := pool [(1, .class_ 2), (0, u "java/lang/Comparable"), (0, .class_ 4), (0, u "java/lang/Object")] 7

/-- java/lang/Comparable -/
def k3 : Class := { plain "java/lang/Comparable" (some 0) with
  accessFlags := 1537
  interfaces := #[]
  cf := some (fileOf pool3 1 #[] #[] 1537 3 #[] #[])
  fields := #[]
  methods := #[]
  instanceTypes := #[]
  staticTypes := #[]
  resolved := Array.replicate 12 none
  statics := none }

def pool4 : Array CpInfo := pool [(1, .class_ 2), (0, u "java/io/Serializable"), (0, .class_ 4), (0, u "java/lang/Object")] 2

/-- java/io/Serializable -/
def k4 : Class := { plain "java/io/Serializable" (some 0) with
  accessFlags := 1537
  interfaces := #[]
  cf := some (fileOf pool4 1 #[] #[] 1537 3 #[] #[])
  fields := #[]
  methods := #[]
  instanceTypes := #[]
  staticTypes := #[]
  resolved := Array.replicate 7 none
  statics := none }

def pool5 : Array CpInfo := pool [(2, .class_ 4), (1, u "java/lang/Enum"), (0, u "name"), (0, u "Ljava/lang/String;"), (2, u "ordinal"), (0, u "I"), (1, .class_ 14), (1, u "java/lang/Object"), (4, u "hash"), (86, .class_ 108), (1, u "java/lang/Enum$EnumDesc"), (2, .class_ 112), (0, u "java/lang/constant/Constable"), (0, .class_ 114), (0, u "java/lang/Comparable"), (0, .class_ 116), (0, u "java/io/Serializable")] 87

/-- java/lang/Enum -/
def k5 : Class := { plain "java/lang/Enum" (some 0) with
  accessFlags := 1057
  interfaces := #[2, 3, 4]
  cf := some (fileOf pool5 2 #[.nestMembers #[106]] #[] 1057 12 #[111, 113, 115] #[{ accessFlags := 18, nameIndex := 5, descriptorIndex := 6, attributes := #[] }, { accessFlags := 18, nameIndex := 9, descriptorIndex := 10, attributes := #[] }, { accessFlags := 2, nameIndex := 19, descriptorIndex := 10, attributes := #[] }])
  fields := #[{ name := "name", type := (.object "java/lang/String"), accessFlags := 18, slot := 0, constantValue := 0 }, { name := "ordinal", type := .int, accessFlags := 18, slot := 1, constantValue := 0 }, { name := "hash", type := .int, accessFlags := 2, slot := 2, constantValue := 0 }]
  methods := #[]
  instanceTypes := #[(.object "java/lang/String"), .int, .int]
  staticTypes := #[]
  resolved := Array.replicate 204 none
  statics := none }

def pool6 : Array CpInfo := pool [(1, .class_ 2), (0, u "com/example/collie/collie/engine/CorrectionType"), (2, u "WORD"), (0, u "Lcom/example/collie/collie/engine/CorrectionType;"), (2, u "PHRASE"), (2, u "COMBINE_OR_BREAK"), (2, u "COMBINE_OR_BREAK_BOTH_WAYS"), (2, u "$VALUES"), (0, u "[Lcom/example/collie/collie/engine/CorrectionType;"), (6, .class_ 28), (1, u "java/lang/Enum"), (8, u "label"), (0, u "Ljava/lang/String;")] 47

/-- com/example/collie/collie/engine/CorrectionType -/
def k6 : Class := { plain "com/example/collie/collie/engine/CorrectionType" (some 5) with
  accessFlags := 16433
  interfaces := #[]
  cf := some (fileOf pool6 1 #[] #[] 16433 26 #[] #[{ accessFlags := 16409, nameIndex := 5, descriptorIndex := 6, attributes := #[] }, { accessFlags := 16409, nameIndex := 9, descriptorIndex := 6, attributes := #[] }, { accessFlags := 16409, nameIndex := 12, descriptorIndex := 6, attributes := #[] }, { accessFlags := 16409, nameIndex := 15, descriptorIndex := 6, attributes := #[] }, { accessFlags := 18, nameIndex := 37, descriptorIndex := 38, attributes := #[] }, { accessFlags := 4122, nameIndex := 18, descriptorIndex := 19, attributes := #[] }])
  fields := #[{ name := "WORD", type := (.object "com/example/collie/collie/engine/CorrectionType"), accessFlags := 16409, slot := 0, constantValue := 0 }, { name := "PHRASE", type := (.object "com/example/collie/collie/engine/CorrectionType"), accessFlags := 16409, slot := 1, constantValue := 0 }, { name := "COMBINE_OR_BREAK", type := (.object "com/example/collie/collie/engine/CorrectionType"), accessFlags := 16409, slot := 2, constantValue := 0 }, { name := "COMBINE_OR_BREAK_BOTH_WAYS", type := (.object "com/example/collie/collie/engine/CorrectionType"), accessFlags := 16409, slot := 3, constantValue := 0 }, { name := "label", type := (.object "java/lang/String"), accessFlags := 18, slot := 3, constantValue := 0 }, { name := "$VALUES", type := (.array (.object "com/example/collie/collie/engine/CorrectionType")), accessFlags := 4122, slot := 4, constantValue := 0 }]
  methods := #[]
  instanceTypes := #[(.object "java/lang/String"), .int, .int, (.object "java/lang/String")]
  staticTypes := #[(.object "com/example/collie/collie/engine/CorrectionType"), (.object "com/example/collie/collie/engine/CorrectionType"), (.object "com/example/collie/collie/engine/CorrectionType"), (.object "com/example/collie/collie/engine/CorrectionType"), (.array (.object "com/example/collie/collie/engine/CorrectionType"))]
  resolved := Array.replicate 86 none
  statics := some 0 }

def pool7 : Array CpInfo := pool [(2, .class_ 4), (1, u "java/lang/CharSequence"), (42, .class_ 48), (0, u "java/lang/CharSequence$1CodePointIterator"), (10, .class_ 60), (0, u "java/lang/CharSequence$1CharIterator"), (5, .class_ 67), (0, u "java/lang/Object")] 63

/-- java/lang/CharSequence -/
def k7 : Class := { plain "java/lang/CharSequence" (some 0) with
  accessFlags := 1537
  interfaces := #[]
  cf := some (fileOf pool7 2 #[.nestMembers #[47, 59]] #[] 1537 66 #[] #[])
  fields := #[]
  methods := #[]
  instanceTypes := #[]
  staticTypes := #[]
  resolved := Array.replicate 131 none
  statics := none }

def pool8 : Array CpInfo := pool [(1, .class_ 2), (0, u "java/lang/constant/ConstantDesc"), (0, .class_ 4), (0, u "java/lang/Object")] 32

/-- java/lang/constant/ConstantDesc -/
def k8 : Class := { plain "java/lang/constant/ConstantDesc" (some 0) with
  accessFlags := 1537
  interfaces := #[]
  cf := some (fileOf pool8 1 #[] #[] 1537 3 #[] #[])
  fields := #[]
  methods := #[]
  instanceTypes := #[]
  staticTypes := #[]
  resolved := Array.replicate 37 none
  statics := none }

def pool9 : Array CpInfo := pool [(1, .methodref 2 3), (0, .class_ 4), (0, .nameAndType 5 6), (0, u "java/lang/Object"), (0, u "<init>"), (0, u "()V"), (2, .fieldref 10 11), (0, .class_ 12), (0, .nameAndType 13 14), (0, u "java/lang/String"), (0, u "value"), (0, u "[B"), (0, .fieldref 10 16), (0, .nameAndType 17 18), (0, u "coder"), (0, u "B"), (2, u "hash"), (0, u "I"), (2, u "hashIsZero"), (0, u "Z"), (0, .methodref 10 28), (0, .nameAndType 5 29), (0, u "([CIILjava/lang/Void;)V"), (8, .fieldref 10 39), (0, .nameAndType 40 26), (0, u "COMPACT_STRINGS"), (1, .class_ 44), (1, u "java/lang/StringUTF16"), (0, u "compress"), (1, .methodref 42 48), (0, .nameAndType 49 50), (0, u "coderFromArrayLen"), (0, u "([BI)B"), (56, .class_ 109), (1, u "java/lang/StringLatin1"), (32, u "()Z"), (34, .methodref 42 178), (0, .nameAndType 45 179), (0, u "([CII)[B"), (154, u "()I"), (0, .methodref 10 336), (0, .nameAndType 17 337), (0, u "()B"), (25, u "([BI)C"), (27, u "(II)V"), (7, u "([BI)I"), (27, u "(I)C"), (64, .methodref 10 493), (0, .nameAndType 494 142), (0, u "isLatin1"), (0, .methodref 107 496), (0, .nameAndType 497 363), (0, u "charAt"), (0, .methodref 42 496), (0, .methodref 10 500), (0, .nameAndType 501 391), (0, u "checkIndex"), (3, .methodref 10 506), (0, .nameAndType 507 334), (0, u "length"), (0, .methodref 42 509), (0, .nameAndType 510 399), (0, u "codePointBefore"), (64, .class_ 576), (0, u "java/lang/CharSequence"), (22, u "CASE_INSENSITIVE_ORDER"), (0, u "Ljava/util/Comparator;"), (164, u "(I)I"), (244, u "([C)V"), (42, .fieldref 1054 1055), (0, .class_ 1056), (0, .nameAndType 1057 1058), (0, u "jdk/internal/util/Preconditions"), (0, u "SIOOBE_FORMATTER"), (0, u "Ljava/util/function/BiFunction;"), (0, .methodref 1054 1060), (0, .nameAndType 501 1061), (0, u "(IILjava/util/function/BiFunction;)I"), (39, u "serialPersistentFields"), (0, u "[Ljava/io/ObjectStreamField;"), (0, .class_ 1104), (0, u "java/lang/String$CaseInsensitiveComparator"), (1, .class_ 1107), (0, u "java/io/Serializable"), (0, .class_ 1109), (0, u "java/lang/Comparable"), (0, .class_ 1111), (0, u "java/lang/constant/Constable"), (0, .class_ 1113), (0, u "java/lang/constant/ConstantDesc"), (2, u "serialVersionUID"), (0, u "J"), (3, u "REPL"), (0, u "C"), (2, u "LATIN1"), (1, u "UTF16")] 323

def k9m0 : Method := { name := "<init>", desc := "()V", sig := { parameters := [], returnType := none }, accessFlags := 1, code := none }
def k9c1 : Code := { maxStack := 5, maxLocals := 2, code := jdk_42_method_3_code, exceptionTable := #[], attributes := #[] }
def k9m1 : Method := { name := "<init>", desc := "([C)V", sig := { parameters := [(.array .char)], returnType := none }, accessFlags := 1, code := some k9c1 }
def k9c2 : Code := { maxStack := 2, maxLocals := 1, code := jdk_42_method_54_code, exceptionTable := #[], attributes := #[] }
def k9m2 : Method := { name := "length", desc := "()I", sig := { parameters := [], returnType := some .int }, accessFlags := 1, code := some k9c2 }
def k9c3 : Code := { maxStack := 2, maxLocals := 2, code := jdk_42_method_56_code, exceptionTable := #[], attributes := #[] }
def k9m3 : Method := { name := "charAt", desc := "(I)C", sig := { parameters := [.int], returnType := some .char }, accessFlags := 1, code := some k9c3 }
def k9c4 : Code := { maxStack := 2, maxLocals := 3, code := jdk_42_method_58_code, exceptionTable := #[], attributes := #[] }
def k9m4 : Method := { name := "codePointBefore", desc := "(I)I", sig := { parameters := [.int], returnType := some .int }, accessFlags := 1, code := some k9c4 }
def k9c5 : Code := { maxStack := 4, maxLocals := 6, code := jdk_42_method_149_code, exceptionTable := #[], attributes := #[] }
def k9m5 : Method := { name := "<init>", desc := "([CIILjava/lang/Void;)V", sig := { parameters := [(.array .char), .int, .int, (.object "java/lang/Void")], returnType := none }, accessFlags := 2, code := some k9c5 }
def k9c6 : Code := { maxStack := 1, maxLocals := 1, code := jdk_42_method_152_code, exceptionTable := #[], attributes := #[] }
def k9m6 : Method := { name := "coder", desc := "()B", sig := { parameters := [], returnType := some .byte }, accessFlags := 0, code := some k9c6 }
def k9c7 : Code := { maxStack := 1, maxLocals := 1, code := jdk_42_method_154_code, exceptionTable := #[], attributes := #[] }
def k9m7 : Method := { name := "isLatin1", desc := "()Z", sig := { parameters := [], returnType := some .boolean }, accessFlags := 0, code := some k9c7 }
def k9c8 : Code := { maxStack := 3, maxLocals := 2, code := jdk_42_method_155_code, exceptionTable := #[], attributes := #[] }
def k9m8 : Method := { name := "checkIndex", desc := "(II)V", sig := { parameters := [.int, .int], returnType := none }, accessFlags := 8, code := some k9c8 }
/-- java/lang/String -/
def k9 : Class := { plain "java/lang/String" (some 0) with
  accessFlags := 49
  interfaces := #[4, 3, 7, 2, 8]
  cf := some (fileOf pool9 10 #[.nestMembers #[1103]] #[{ accessFlags := 1, nameIndex := 5, descriptorIndex := 6, attributes := #[] }, { accessFlags := 1, nameIndex := 5, descriptorIndex := 1010, attributes := #[] }, { accessFlags := 1, nameIndex := 507, descriptorIndex := 334, attributes := #[] }, { accessFlags := 1, nameIndex := 497, descriptorIndex := 427, attributes := #[] }, { accessFlags := 1, nameIndex := 510, descriptorIndex := 765, attributes := #[] }, { accessFlags := 2, nameIndex := 5, descriptorIndex := 29, attributes := #[] }, { accessFlags := 0, nameIndex := 17, descriptorIndex := 337, attributes := #[] }, { accessFlags := 0, nameIndex := 494, descriptorIndex := 142, attributes := #[] }, { accessFlags := 8, nameIndex := 501, descriptorIndex := 391, attributes := #[] }] 49 2 #[1106, 1108, 575, 1110, 1112] #[{ accessFlags := 18, nameIndex := 13, descriptorIndex := 14, attributes := #[] }, { accessFlags := 18, nameIndex := 17, descriptorIndex := 18, attributes := #[] }, { accessFlags := 2, nameIndex := 21, descriptorIndex := 22, attributes := #[] }, { accessFlags := 2, nameIndex := 25, descriptorIndex := 26, attributes := #[] }, { accessFlags := 26, nameIndex := 1116, descriptorIndex := 1117, attributes := #[] }, { accessFlags := 24, nameIndex := 40, descriptorIndex := 26, attributes := #[] }, { accessFlags := 26, nameIndex := 1101, descriptorIndex := 1102, attributes := #[] }, { accessFlags := 26, nameIndex := 1121, descriptorIndex := 1122, attributes := #[] }, { accessFlags := 25, nameIndex := 599, descriptorIndex := 600, attributes := #[] }, { accessFlags := 24, nameIndex := 1125, descriptorIndex := 18, attributes := #[] }, { accessFlags := 24, nameIndex := 1127, descriptorIndex := 18, attributes := #[] }])
  fields := #[{ name := "value", type := (.array .byte), accessFlags := 18, slot := 0, constantValue := 0 }, { name := "coder", type := .byte, accessFlags := 18, slot := 1, constantValue := 0 }, { name := "hash", type := .int, accessFlags := 2, slot := 2, constantValue := 0 }, { name := "hashIsZero", type := .boolean, accessFlags := 2, slot := 3, constantValue := 0 }, { name := "serialVersionUID", type := .long, accessFlags := 26, slot := 0, constantValue := 0 }, { name := "COMPACT_STRINGS", type := .boolean, accessFlags := 24, slot := 1, constantValue := 0 }, { name := "serialPersistentFields", type := (.array (.object "java/io/ObjectStreamField")), accessFlags := 26, slot := 2, constantValue := 0 }, { name := "REPL", type := .char, accessFlags := 26, slot := 3, constantValue := 0 }, { name := "CASE_INSENSITIVE_ORDER", type := (.object "java/util/Comparator"), accessFlags := 25, slot := 4, constantValue := 0 }, { name := "LATIN1", type := .byte, accessFlags := 24, slot := 5, constantValue := 0 }, { name := "UTF16", type := .byte, accessFlags := 24, slot := 6, constantValue := 0 }]
  methods := #[k9m0, k9m1, k9m2, k9m3, k9m4, k9m5, k9m6, k9m7, k9m8]
  instanceTypes := #[(.array .byte), .byte, .int, .boolean]
  staticTypes := #[.long, .boolean, (.array (.object "java/io/ObjectStreamField")), .char, (.object "java/util/Comparator"), .byte, .byte]
  resolved := Array.replicate 1451 none
  statics := some 1 }

def pool10 : Array CpInfo := pool [(3, .class_ 4), (0, u "java/lang/String"), (1, .class_ 8), (1, u "java/lang/Object"), (0, u "<init>"), (0, u "()V"), (0, .methodref 12 13), (0, .class_ 14), (0, .nameAndType 15 16), (0, u "java/lang/StringUTF16"), (0, u "newBytesLength"), (0, u "(I)I"), (3, .integer 1073741823), (23, .fieldref 12 45), (0, .nameAndType 46 47), (0, u "$assertionsDisabled"), (0, u "Z"), (0, .methodref 12 49), (0, .nameAndType 50 51), (0, u "length"), (0, u "([B)I"), (7, .fieldref 12 60), (0, .nameAndType 61 62), (0, u "HI_BYTE_SHIFT"), (0, u "I"), (0, .fieldref 12 64), (0, .nameAndType 65 62), (0, u "LO_BYTE_SHIFT"), (1, .methodref 12 68), (0, .nameAndType 69 70), (0, u "checkIndex"), (0, u "(I[B)V"), (0, .methodref 12 72), (0, .nameAndType 73 74), (0, u "getChar"), (0, u "([BI)C"), (0, .methodref 76 77), (0, .class_ 78), (0, .nameAndType 79 80), (0, u "java/lang/Character"), (0, u "isHighSurrogate"), (0, u "(C)Z"), (0, .methodref 76 82), (0, .nameAndType 83 80), (0, u "isLowSurrogate"), (0, .methodref 76 85), (0, .nameAndType 86 87), (0, u "toCodePoint"), (0, u "(CC)I"), (4, .methodref 12 93), (0, .nameAndType 94 95), (0, u "codePointBefore"), (0, u "([BIZ)I"), (11, .methodref 12 108), (0, .nameAndType 109 110), (0, u "newBytesFor"), (0, u "(I)[B"), (0, .methodref 12 112), (0, .nameAndType 113 114), (0, u "putChar"), (0, u "([BII)V"), (0, .methodref 12 116), (0, .nameAndType 117 118), (0, u "compress"), (0, u "([CI[BII)I"), (0, .methodref 12 120), (0, .nameAndType 121 122), (0, u "toBytes"), (0, u "([CII)[B"), (138, u "coderFromArrayLen"), (0, u "([BI)B"), (98, u "([BI)I"), (7, .class_ 371), (1, u "java/lang/StringUTF16$LinesSpliterator"), (20, u "charAt"), (21, .methodref 3 415), (0, .nameAndType 69 416), (0, u "(II)V"), (13, u "MAX_LENGTH"), (196, .class_ 628), (0, u "java/lang/StringUTF16$CodePointsSpliterator"), (0, .class_ 630), (0, u "java/lang/StringUTF16$CharsSpliterator")] 4

def k10m0 : Method := { name := "<init>", desc := "()V", sig := { parameters := [], returnType := none }, accessFlags := 0, code := none }
def k10c1 : Code := { maxStack := 1, maxLocals := 1, code := jdk_52_method_2_code, exceptionTable := #[], attributes := #[] }
def k10m1 : Method := { name := "newBytesFor", desc := "(I)[B", sig := { parameters := [.int], returnType := some (.array .byte) }, accessFlags := 9, code := some k10c1 }
def k10c2 : Code := { maxStack := 4, maxLocals := 1, code := jdk_52_method_3_code, exceptionTable := #[], attributes := #[] }
def k10m2 : Method := { name := "newBytesLength", desc := "(I)I", sig := { parameters := [.int], returnType := some .int }, accessFlags := 9, code := some k10c2 }
def k10c3 : Code := { maxStack := 4, maxLocals := 3, code := jdk_52_method_4_code, exceptionTable := #[], attributes := #[] }
def k10m3 : Method := { name := "putChar", desc := "([BII)V", sig := { parameters := [(.array .byte), .int, .int], returnType := none }, accessFlags := 8, code := some k10c3 }
def k10c4 : Code := { maxStack := 3, maxLocals := 2, code := jdk_52_method_5_code, exceptionTable := #[], attributes := #[] }
def k10m4 : Method := { name := "getChar", desc := "([BI)C", sig := { parameters := [(.array .byte), .int], returnType := some .char }, accessFlags := 8, code := some k10c4 }
def k10c5 : Code := { maxStack := 2, maxLocals := 1, code := jdk_52_method_6_code, exceptionTable := #[], attributes := #[] }
def k10m5 : Method := { name := "length", desc := "([B)I", sig := { parameters := [(.array .byte)], returnType := some .int }, accessFlags := 9, code := some k10c5 }
def k10c6 : Code := { maxStack := 2, maxLocals := 5, code := jdk_52_method_9_code, exceptionTable := #[], attributes := #[] }
def k10m6 : Method := { name := "codePointBefore", desc := "([BIZ)I", sig := { parameters := [(.array .byte), .int, .boolean], returnType := some .int }, accessFlags := 10, code := some k10c6 }
def k10c7 : Code := { maxStack := 3, maxLocals := 2, code := jdk_52_method_10_code, exceptionTable := #[], attributes := #[] }
def k10m7 : Method := { name := "codePointBefore", desc := "([BI)I", sig := { parameters := [(.array .byte), .int], returnType := some .int }, accessFlags := 9, code := some k10c7 }
def k10c8 : Code := { maxStack := 4, maxLocals := 5, code := jdk_52_method_14_code, exceptionTable := #[], attributes := #[] }
def k10m8 : Method := { name := "toBytes", desc := "([CII)[B", sig := { parameters := [(.array .char), .int, .int], returnType := some (.array .byte) }, accessFlags := 9, code := some k10c8 }
def k10c9 : Code := { maxStack := 2, maxLocals := 2, code := jdk_52_method_15_code, exceptionTable := #[], attributes := #[] }
def k10m9 : Method := { name := "coderFromArrayLen", desc := "([BI)B", sig := { parameters := [(.array .byte), .int], returnType := some .byte }, accessFlags := 8, code := some k10c9 }
def k10c10 : Code := { maxStack := 5, maxLocals := 6, code := jdk_52_method_16_code, exceptionTable := #[], attributes := #[] }
def k10m10 : Method := { name := "compress", desc := "([CII)[B", sig := { parameters := [(.array .char), .int, .int], returnType := some (.array .byte) }, accessFlags := 9, code := some k10c10 }
def k10c11 : Code := { maxStack := 3, maxLocals := 7, code := jdk_52_method_21_code, exceptionTable := #[], attributes := #[] }
def k10m11 : Method := { name := "compress", desc := "([CI[BII)I", sig := { parameters := [(.array .char), .int, (.array .byte), .int, .int], returnType := some .int }, accessFlags := 9, code := some k10c11 }
def k10c12 : Code := { maxStack := 2, maxLocals := 2, code := jdk_52_method_83_code, exceptionTable := #[], attributes := #[] }
def k10m12 : Method := { name := "charAt", desc := "([BI)C", sig := { parameters := [(.array .byte), .int], returnType := some .char }, accessFlags := 9, code := some k10c12 }
def k10c13 : Code := { maxStack := 2, maxLocals := 2, code := jdk_52_method_91_code, exceptionTable := #[], attributes := #[] }
def k10m13 : Method := { name := "checkIndex", desc := "(I[B)V", sig := { parameters := [.int, (.array .byte)], returnType := none }, accessFlags := 9, code := some k10c13 }
/-- java/lang/StringUTF16 -/
def k10 : Class := { plain "java/lang/StringUTF16" (some 0) with
  accessFlags := 48
  interfaces := #[]
  cf := some (fileOf pool10 12 #[.nestMembers #[627, 629, 369]] #[{ accessFlags := 0, nameIndex := 9, descriptorIndex := 10, attributes := #[] }, { accessFlags := 9, nameIndex := 109, descriptorIndex := 110, attributes := #[] }, { accessFlags := 9, nameIndex := 15, descriptorIndex := 16, attributes := #[] }, { accessFlags := 8, nameIndex := 113, descriptorIndex := 114, attributes := #[] }, { accessFlags := 8, nameIndex := 73, descriptorIndex := 74, attributes := #[] }, { accessFlags := 9, nameIndex := 50, descriptorIndex := 51, attributes := #[] }, { accessFlags := 10, nameIndex := 94, descriptorIndex := 95, attributes := #[] }, { accessFlags := 9, nameIndex := 94, descriptorIndex := 361, attributes := #[] }, { accessFlags := 9, nameIndex := 121, descriptorIndex := 122, attributes := #[] }, { accessFlags := 8, nameIndex := 261, descriptorIndex := 262, attributes := #[] }, { accessFlags := 9, nameIndex := 117, descriptorIndex := 122, attributes := #[] }, { accessFlags := 9, nameIndex := 117, descriptorIndex := 118, attributes := #[] }, { accessFlags := 9, nameIndex := 392, descriptorIndex := 74, attributes := #[] }, { accessFlags := 9, nameIndex := 69, descriptorIndex := 70, attributes := #[] }] 48 6 #[] #[{ accessFlags := 26, nameIndex := 61, descriptorIndex := 62, attributes := #[] }, { accessFlags := 26, nameIndex := 65, descriptorIndex := 62, attributes := #[] }, { accessFlags := 24, nameIndex := 430, descriptorIndex := 62, attributes := #[] }, { accessFlags := 4120, nameIndex := 46, descriptorIndex := 47, attributes := #[] }])
  fields := #[{ name := "HI_BYTE_SHIFT", type := .int, accessFlags := 26, slot := 0, constantValue := 0 }, { name := "LO_BYTE_SHIFT", type := .int, accessFlags := 26, slot := 1, constantValue := 0 }, { name := "MAX_LENGTH", type := .int, accessFlags := 24, slot := 2, constantValue := 0 }, { name := "$assertionsDisabled", type := .boolean, accessFlags := 4120, slot := 3, constantValue := 0 }]
  methods := #[k10m0, k10m1, k10m2, k10m3, k10m4, k10m5, k10m6, k10m7, k10m8, k10m9, k10m10, k10m11, k10m12, k10m13]
  instanceTypes := #[]
  staticTypes := #[.int, .int, .int, .boolean]
  resolved := Array.replicate 635 none
  statics := some 2 }

def pool11 : Array CpInfo := pool [(1, .methodref 2 3), (0, .class_ 4), (0, .nameAndType 5 6), (0, u "java/lang/Object"), (0, u "<init>"), (0, u "()V"), (0, .class_ 8), (0, u "java/lang/Record")] 13

def k11c0 : Code := { maxStack := 1, maxLocals := 1, code := jdk_30_method_1_code, exceptionTable := #[], attributes := #[] }
def k11m0 : Method := { name := "<init>", desc := "()V", sig := { parameters := [], returnType := none }, accessFlags := 4, code := some k11c0 }
/-- java/lang/Record -/
def k11 : Class := { plain "java/lang/Record" (some 0) with
  accessFlags := 1057
  interfaces := #[]
  cf := some (fileOf pool11 7 #[] #[{ accessFlags := 4, nameIndex := 5, descriptorIndex := 6, attributes := #[] }] 1057 2 #[] #[])
  fields := #[]
  methods := #[k11m0]
  instanceTypes := #[]
  staticTypes := #[]
  resolved := Array.replicate 22 none
  statics := none }

def pool12 : Array CpInfo := pool [(1, .methodref 2 3), (0, .class_ 4), (0, .nameAndType 5 6), (0, u "java/lang/Record"), (0, u "<init>"), (0, u "()V"), (0, .fieldref 8 9), (0, .class_ 10), (0, .nameAndType 11 12), (0, u "com/example/collie/collie/engine/MinedPair"), (0, u "misspelling"), (0, u "Ljava/lang/String;"), (0, .fieldref 8 14), (0, .nameAndType 15 12), (0, u "correction"), (0, .fieldref 8 17), (0, .nameAndType 18 19), (0, u "misspellingCount"), (0, u "J"), (0, .fieldref 8 21), (0, .nameAndType 22 19), (0, u "correctionCount"), (0, .fieldref 8 24), (0, .nameAndType 25 26), (0, u "type"), (0, u "Lcom/example/collie/collie/engine/CorrectionType;"), (0, .fieldref 8 28), (0, .nameAndType 29 30), (0, u "distance"), (0, u "I"), (8, u "(Ljava/lang/String;Ljava/lang/String;JJLcom/example/collie/collie/engine/CorrectionType;I)V"), (27, u "()I"), (18, .methodref 87 88), (0, .class_ 89), (0, .nameAndType 90 67), (0, u "java/lang/String"), (0, u "length"), (0, .methodref 87 92), (0, .nameAndType 93 94), (0, u "codePointBefore"), (0, u "(I)I"), (9, u "()Z"), (25, u "REVIEW_DISTANCE"), (2, u "REVIEW_LENGTH"), (8, u "lastCharacterMatch")] 43

def k12c0 : Code := { maxStack := 3, maxLocals := 9, code := prog_29_method_2_code, exceptionTable := #[], attributes := #[] }
def k12m0 : Method := { name := "<init>", desc := "(Ljava/lang/String;Ljava/lang/String;JJLcom/example/collie/collie/engine/CorrectionType;I)V", sig := { parameters := [(.object "java/lang/String"), (.object "java/lang/String"), .long, .long, (.object "com/example/collie/collie/engine/CorrectionType"), .int], returnType := none }, accessFlags := 1, code := some k12c0 }
def k12c1 : Code := { maxStack := 3, maxLocals := 1, code := prog_29_method_5_code, exceptionTable := #[], attributes := #[] }
def k12m1 : Method := { name := "lastCharacterMatch", desc := "()Z", sig := { parameters := [], returnType := some .boolean }, accessFlags := 1, code := some k12c1 }
/-- com/example/collie/collie/engine/MinedPair -/
def k12 : Class := { plain "com/example/collie/collie/engine/MinedPair" (some 11) with
  accessFlags := 49
  interfaces := #[]
  cf := some (fileOf pool12 8 #[] #[{ accessFlags := 1, nameIndex := 5, descriptorIndex := 39, attributes := #[] }, { accessFlags := 1, nameIndex := 142, descriptorIndex := 104, attributes := #[] }] 49 2 #[] #[{ accessFlags := 18, nameIndex := 11, descriptorIndex := 12, attributes := #[] }, { accessFlags := 18, nameIndex := 15, descriptorIndex := 12, attributes := #[] }, { accessFlags := 18, nameIndex := 18, descriptorIndex := 19, attributes := #[] }, { accessFlags := 18, nameIndex := 22, descriptorIndex := 19, attributes := #[] }, { accessFlags := 18, nameIndex := 25, descriptorIndex := 26, attributes := #[] }, { accessFlags := 18, nameIndex := 29, descriptorIndex := 30, attributes := #[] }, { accessFlags := 26, nameIndex := 130, descriptorIndex := 30, attributes := #[] }, { accessFlags := 26, nameIndex := 133, descriptorIndex := 30, attributes := #[] }])
  fields := #[{ name := "misspelling", type := (.object "java/lang/String"), accessFlags := 18, slot := 0, constantValue := 0 }, { name := "correction", type := (.object "java/lang/String"), accessFlags := 18, slot := 1, constantValue := 0 }, { name := "misspellingCount", type := .long, accessFlags := 18, slot := 2, constantValue := 0 }, { name := "correctionCount", type := .long, accessFlags := 18, slot := 3, constantValue := 0 }, { name := "type", type := (.object "com/example/collie/collie/engine/CorrectionType"), accessFlags := 18, slot := 4, constantValue := 0 }, { name := "distance", type := .int, accessFlags := 18, slot := 5, constantValue := 0 }, { name := "REVIEW_DISTANCE", type := .int, accessFlags := 26, slot := 0, constantValue := 0 }, { name := "REVIEW_LENGTH", type := .int, accessFlags := 26, slot := 1, constantValue := 0 }]
  methods := #[k12m0, k12m1]
  instanceTypes := #[(.object "java/lang/String"), (.object "java/lang/String"), .long, .long, (.object "com/example/collie/collie/engine/CorrectionType"), .int]
  staticTypes := #[.int, .int]
  resolved := Array.replicate 186 none
  statics := none }

def pool13 : Array CpInfo := pool [(1, .class_ 2), (0, u "java/lang/String"), (1, .class_ 6), (1, u "java/lang/Object"), (0, u "<init>"), (0, u "()V"), (0, .methodref 1 10), (0, .nameAndType 11 12), (0, u "checkIndex"), (0, u "(II)V"), (1, .class_ 16), (1, u "java/lang/StringLatin1"), (36, u "([BI)C"), (67, u "$assertionsDisabled"), (0, u "Z"), (98, .class_ 223), (1, u "java/lang/StringLatin1$LinesSpliterator"), (28, u "charAt"), (137, .class_ 391), (0, u "java/lang/StringLatin1$CharsSpliterator")] 3

def k13m0 : Method := { name := "<init>", desc := "()V", sig := { parameters := [], returnType := none }, accessFlags := 0, code := none }
def k13c1 : Code := { maxStack := 2, maxLocals := 2, code := jdk_43_method_2_code, exceptionTable := #[], attributes := #[] }
def k13m1 : Method := { name := "charAt", desc := "([BI)C", sig := { parameters := [(.array .byte), .int], returnType := some .char }, accessFlags := 9, code := some k13c1 }
/-- java/lang/StringLatin1 -/
def k13 : Class := { plain "java/lang/StringLatin1" (some 0) with
  accessFlags := 48
  interfaces := #[]
  cf := some (fileOf pool13 14 #[.nestMembers #[390, 221]] #[{ accessFlags := 0, nameIndex := 7, descriptorIndex := 8, attributes := #[] }, { accessFlags := 9, nameIndex := 252, descriptorIndex := 53, attributes := #[] }] 48 4 #[] #[{ accessFlags := 4120, nameIndex := 121, descriptorIndex := 122, attributes := #[] }])
  fields := #[{ name := "$assertionsDisabled", type := .boolean, accessFlags := 4120, slot := 0, constantValue := 0 }]
  methods := #[k13m0, k13m1]
  instanceTypes := #[]
  staticTypes := #[.boolean]
  resolved := Array.replicate 395 none
  statics := none }

def pool14 : Array CpInfo := pool [(2, .class_ 4), (1, u "java/lang/Object"), (0, u "<init>"), (0, u "()V"), (17, .class_ 26), (1, u "jdk/internal/util/Preconditions"), (6, u "checkIndex"), (21, .class_ 56), (0, u "jdk/internal/util/Preconditions$4"), (57, .class_ 115), (0, u "jdk/internal/util/Preconditions$1"), (7, u "SIOOBE_FORMATTER"), (0, u "Ljava/util/function/BiFunction;"), (0, .class_ 126), (0, u "jdk/internal/util/Preconditions$2"), (3, u "AIOOBE_FORMATTER"), (0, .class_ 132), (0, u "jdk/internal/util/Preconditions$3"), (3, u "IOOBE_FORMATTER"), (41, u "(IILjava/util/function/BiFunction;)I")] 15

def k14m0 : Method := { name := "<init>", desc := "()V", sig := { parameters := [], returnType := none }, accessFlags := 1, code := none }
def k14c1 : Code := { maxStack := 3, maxLocals := 3, code := jdk_41_method_11_code, exceptionTable := #[], attributes := #[] }
def k14m1 : Method := { name := "checkIndex", desc := "(IILjava/util/function/BiFunction;)I", sig := { parameters := [.int, .int, (.object "java/util/function/BiFunction")], returnType := some .int }, accessFlags := 9, code := some k14c1 }
/-- jdk/internal/util/Preconditions -/
def k14 : Class := { plain "jdk/internal/util/Preconditions" (some 0) with
  accessFlags := 33
  interfaces := #[]
  cf := some (fileOf pool14 24 #[.nestMembers #[55, 131, 125, 114]] #[{ accessFlags := 1, nameIndex := 5, descriptorIndex := 6, attributes := #[] }, { accessFlags := 9, nameIndex := 33, descriptorIndex := 178, attributes := #[] }] 33 2 #[] #[{ accessFlags := 25, nameIndex := 123, descriptorIndex := 124, attributes := #[] }, { accessFlags := 25, nameIndex := 130, descriptorIndex := 124, attributes := #[] }, { accessFlags := 25, nameIndex := 136, descriptorIndex := 124, attributes := #[] }])
  fields := #[{ name := "SIOOBE_FORMATTER", type := (.object "java/util/function/BiFunction"), accessFlags := 25, slot := 0, constantValue := 0 }, { name := "AIOOBE_FORMATTER", type := (.object "java/util/function/BiFunction"), accessFlags := 25, slot := 1, constantValue := 0 }, { name := "IOOBE_FORMATTER", type := (.object "java/util/function/BiFunction"), accessFlags := 25, slot := 2, constantValue := 0 }]
  methods := #[k14m0, k14m1]
  instanceTypes := #[]
  staticTypes := #[(.object "java/util/function/BiFunction"), (.object "java/util/function/BiFunction"), (.object "java/util/function/BiFunction")]
  resolved := Array.replicate 194 none
  statics := some 3 }

def pool15 : Array CpInfo := pool [(1, .class_ 2), (0, u "java/lang/Character"), (18, u "value"), (0, u "C"), (19, .class_ 44), (1, u "java/lang/Object"), (3, .class_ 50), (1, u "java/lang/Character$CharacterCache"), (24, .integer 55296), (0, .integer 56320), (0, .integer 57344), (2, u "isHighSurrogate"), (0, u "(C)Z"), (2, u "isLowSurrogate"), (0, .integer 4238353408), (12, u "toCodePoint"), (0, u "(CC)I"), (184, u "$assertionsDisabled"), (0, u "Z"), (21, .class_ 309), (1, u "java/lang/Character$UnicodeBlock"), (73, u "TYPE"), (0, u "Ljava/lang/Class;"), (0, .class_ 386), (0, u "java/io/Serializable"), (0, .class_ 388), (0, u "java/lang/Comparable"), (0, .class_ 390), (0, u "java/lang/constant/Constable"), (0, u "MIN_RADIX"), (0, u "I"), (2, u "MAX_RADIX"), (1, u "MIN_VALUE"), (1, u "MAX_VALUE"), (3, u "UNASSIGNED"), (0, u "B"), (0, u "UPPERCASE_LETTER"), (1, u "LOWERCASE_LETTER"), (0, u "TITLECASE_LETTER"), (1, u "MODIFIER_LETTER"), (1, u "OTHER_LETTER"), (1, u "NON_SPACING_MARK"), (1, u "ENCLOSING_MARK"), (1, u "COMBINING_SPACING_MARK"), (1, u "DECIMAL_DIGIT_NUMBER"), (1, u "LETTER_NUMBER"), (1, u "OTHER_NUMBER"), (1, u "SPACE_SEPARATOR"), (1, u "LINE_SEPARATOR"), (1, u "PARAGRAPH_SEPARATOR"), (1, u "CONTROL"), (1, u "FORMAT"), (1, u "PRIVATE_USE"), (1, u "SURROGATE"), (1, u "DASH_PUNCTUATION"), (1, u "START_PUNCTUATION"), (1, u "END_PUNCTUATION"), (1, u "CONNECTOR_PUNCTUATION"), (1, u "OTHER_PUNCTUATION"), (1, u "MATH_SYMBOL"), (1, u "CURRENCY_SYMBOL"), (1, u "MODIFIER_SYMBOL"), (1, u "OTHER_SYMBOL"), (1, u "INITIAL_QUOTE_PUNCTUATION"), (1, u "FINAL_QUOTE_PUNCTUATION"), (1, u "ERROR"), (1, u "DIRECTIONALITY_UNDEFINED"), (0, u "DIRECTIONALITY_LEFT_TO_RIGHT"), (0, u "DIRECTIONALITY_RIGHT_TO_LEFT"), (0, u "DIRECTIONALITY_RIGHT_TO_LEFT_ARABIC"), (0, u "DIRECTIONALITY_EUROPEAN_NUMBER"), (0, u "DIRECTIONALITY_EUROPEAN_NUMBER_SEPARATOR"), (0, u "DIRECTIONALITY_EUROPEAN_NUMBER_TERMINATOR"), (0, u "DIRECTIONALITY_ARABIC_NUMBER"), (0, u "DIRECTIONALITY_COMMON_NUMBER_SEPARATOR"), (0, u "DIRECTIONALITY_NONSPACING_MARK"), (0, u "DIRECTIONALITY_BOUNDARY_NEUTRAL"), (0, u "DIRECTIONALITY_PARAGRAPH_SEPARATOR"), (0, u "DIRECTIONALITY_SEGMENT_SEPARATOR"), (0, u "DIRECTIONALITY_WHITESPACE"), (0, u "DIRECTIONALITY_OTHER_NEUTRALS"), (0, u "DIRECTIONALITY_LEFT_TO_RIGHT_EMBEDDING"), (0, u "DIRECTIONALITY_LEFT_TO_RIGHT_OVERRIDE"), (0, u "DIRECTIONALITY_RIGHT_TO_LEFT_EMBEDDING"), (0, u "DIRECTIONALITY_RIGHT_TO_LEFT_OVERRIDE"), (1, u "DIRECTIONALITY_POP_DIRECTIONAL_FORMAT"), (0, u "DIRECTIONALITY_LEFT_TO_RIGHT_ISOLATE"), (0, u "DIRECTIONALITY_RIGHT_TO_LEFT_ISOLATE"), (0, u "DIRECTIONALITY_FIRST_STRONG_ISOLATE"), (0, u "DIRECTIONALITY_POP_DIRECTIONAL_ISOLATE"), (0, u "MIN_HIGH_SURROGATE"), (0, u "MAX_HIGH_SURROGATE"), (1, u "MIN_LOW_SURROGATE"), (0, u "MAX_LOW_SURROGATE"), (1, u "MIN_SURROGATE"), (0, u "MAX_SURROGATE"), (0, u "MIN_SUPPLEMENTARY_CODE_POINT"), (0, u "MIN_CODE_POINT"), (0, u "MAX_CODE_POINT"), (1, u "serialVersionUID"), (0, u "J"), (2, u "SIZE"), (0, u "BYTES"), (88, .class_ 596), (0, u "java/lang/Character$UnicodeScript"), (0, .class_ 598), (0, u "java/lang/Character$Subset")] 5

def k15c0 : Code := { maxStack := 2, maxLocals := 1, code := jdk_89_method_14_code, exceptionTable := #[], attributes := #[] }
def k15m0 : Method := { name := "isHighSurrogate", desc := "(C)Z", sig := { parameters := [.char], returnType := some .boolean }, accessFlags := 9, code := some k15c0 }
def k15c1 : Code := { maxStack := 2, maxLocals := 1, code := jdk_89_method_15_code, exceptionTable := #[], attributes := #[] }
def k15m1 : Method := { name := "isLowSurrogate", desc := "(C)Z", sig := { parameters := [.char], returnType := some .boolean }, accessFlags := 9, code := some k15c1 }
def k15c2 : Code := { maxStack := 2, maxLocals := 2, code := jdk_89_method_19_code, exceptionTable := #[], attributes := #[] }
def k15m2 : Method := { name := "toCodePoint", desc := "(CC)I", sig := { parameters := [.char, .char], returnType := some .int }, accessFlags := 9, code := some k15c2 }
/-- java/lang/Character -/
def k15 : Class := { plain "java/lang/Character" (some 0) with
  accessFlags := 49
  interfaces := #[4, 3, 2]
  cf := some (fileOf pool15 1 #[.nestMembers #[48, 595, 307, 597]] #[{ accessFlags := 9, nameIndex := 80, descriptorIndex := 81, attributes := #[] }, { accessFlags := 9, nameIndex := 84, descriptorIndex := 81, attributes := #[] }, { accessFlags := 9, nameIndex := 98, descriptorIndex := 99, attributes := #[] }] 49 42 #[385, 387, 389] #[{ accessFlags := 25, nameIndex := 391, descriptorIndex := 392, attributes := #[] }, { accessFlags := 25, nameIndex := 395, descriptorIndex := 392, attributes := #[] }, { accessFlags := 25, nameIndex := 397, descriptorIndex := 22, attributes := #[] }, { accessFlags := 25, nameIndex := 399, descriptorIndex := 22, attributes := #[] }, { accessFlags := 25, nameIndex := 383, descriptorIndex := 384, attributes := #[] }, { accessFlags := 25, nameIndex := 403, descriptorIndex := 404, attributes := #[] }, { accessFlags := 25, nameIndex := 405, descriptorIndex := 404, attributes := #[] }, { accessFlags := 25, nameIndex := 407, descriptorIndex := 404, attributes := #[] }, { accessFlags := 25, nameIndex := 408, descriptorIndex := 404, attributes := #[] }, { accessFlags := 25, nameIndex := 410, descriptorIndex := 404, attributes := #[] }, { accessFlags := 25, nameIndex := 412, descriptorIndex := 404, attributes := #[] }, { accessFlags := 25, nameIndex := 414, descriptorIndex := 404, attributes := #[] }, { accessFlags := 25, nameIndex := 416, descriptorIndex := 404, attributes := #[] }, { accessFlags := 25, nameIndex := 418, descriptorIndex := 404, attributes := #[] }, { accessFlags := 25, nameIndex := 420, descriptorIndex := 404, attributes := #[] }, { accessFlags := 25, nameIndex := 422, descriptorIndex := 404, attributes := #[] }, { accessFlags := 25, nameIndex := 424, descriptorIndex := 404, attributes := #[] }, { accessFlags := 25, nameIndex := 426, descriptorIndex := 404, attributes := #[] }, { accessFlags := 25, nameIndex := 428, descriptorIndex := 404, attributes := #[] }, { accessFlags := 25, nameIndex := 430, descriptorIndex := 404, attributes := #[] }, { accessFlags := 25, nameIndex := 432, descriptorIndex := 404, attributes := #[] }, { accessFlags := 25, nameIndex := 434, descriptorIndex := 404, attributes := #[] }, { accessFlags := 25, nameIndex := 436, descriptorIndex := 404, attributes := #[] }, { accessFlags := 25, nameIndex := 438, descriptorIndex := 404, attributes := #[] }, { accessFlags := 25, nameIndex := 440, descriptorIndex := 404, attributes := #[] }, { accessFlags := 25, nameIndex := 442, descriptorIndex := 404, attributes := #[] }, { accessFlags := 25, nameIndex := 444, descriptorIndex := 404, attributes := #[] }, { accessFlags := 25, nameIndex := 446, descriptorIndex := 404, attributes := #[] }, { accessFlags := 25, nameIndex := 448, descriptorIndex := 404, attributes := #[] }, { accessFlags := 25, nameIndex := 450, descriptorIndex := 404, attributes := #[] }, { accessFlags := 25, nameIndex := 452, descriptorIndex := 404, attributes := #[] }, { accessFlags := 25, nameIndex := 454, descriptorIndex := 404, attributes := #[] }, { accessFlags := 25, nameIndex := 456, descriptorIndex := 404, attributes := #[] }, { accessFlags := 25, nameIndex := 458, descriptorIndex := 404, attributes := #[] }, { accessFlags := 25, nameIndex := 460, descriptorIndex := 404, attributes := #[] }, { accessFlags := 24, nameIndex := 462, descriptorIndex := 392, attributes := #[] }, { accessFlags := 25, nameIndex := 464, descriptorIndex := 404, attributes := #[] }, { accessFlags := 25, nameIndex := 465, descriptorIndex := 404, attributes := #[] }, { accessFlags := 25, nameIndex := 466, descriptorIndex := 404, attributes := #[] }, { accessFlags := 25, nameIndex := 467, descriptorIndex := 404, attributes := #[] }, { accessFlags := 25, nameIndex := 468, descriptorIndex := 404, attributes := #[] }, { accessFlags := 25, nameIndex := 469, descriptorIndex := 404, attributes := #[] }, { accessFlags := 25, nameIndex := 470, descriptorIndex := 404, attributes := #[] }, { accessFlags := 25, nameIndex := 471, descriptorIndex := 404, attributes := #[] }, { accessFlags := 25, nameIndex := 472, descriptorIndex := 404, attributes := #[] }, { accessFlags := 25, nameIndex := 473, descriptorIndex := 404, attributes := #[] }, { accessFlags := 25, nameIndex := 474, descriptorIndex := 404, attributes := #[] }, { accessFlags := 25, nameIndex := 475, descriptorIndex := 404, attributes := #[] }, { accessFlags := 25, nameIndex := 476, descriptorIndex := 404, attributes := #[] }, { accessFlags := 25, nameIndex := 477, descriptorIndex := 404, attributes := #[] }, { accessFlags := 25, nameIndex := 478, descriptorIndex := 404, attributes := #[] }, { accessFlags := 25, nameIndex := 479, descriptorIndex := 404, attributes := #[] }, { accessFlags := 25, nameIndex := 480, descriptorIndex := 404, attributes := #[] }, { accessFlags := 25, nameIndex := 481, descriptorIndex := 404, attributes := #[] }, { accessFlags := 25, nameIndex := 482, descriptorIndex := 404, attributes := #[] }, { accessFlags := 25, nameIndex := 484, descriptorIndex := 404, attributes := #[] }, { accessFlags := 25, nameIndex := 485, descriptorIndex := 404, attributes := #[] }, { accessFlags := 25, nameIndex := 486, descriptorIndex := 404, attributes := #[] }, { accessFlags := 25, nameIndex := 487, descriptorIndex := 404, attributes := #[] }, { accessFlags := 25, nameIndex := 488, descriptorIndex := 404, attributes := #[] }, { accessFlags := 25, nameIndex := 489, descriptorIndex := 22, attributes := #[] }, { accessFlags := 25, nameIndex := 490, descriptorIndex := 22, attributes := #[] }, { accessFlags := 25, nameIndex := 492, descriptorIndex := 22, attributes := #[] }, { accessFlags := 25, nameIndex := 493, descriptorIndex := 22, attributes := #[] }, { accessFlags := 25, nameIndex := 495, descriptorIndex := 22, attributes := #[] }, { accessFlags := 25, nameIndex := 496, descriptorIndex := 22, attributes := #[] }, { accessFlags := 25, nameIndex := 497, descriptorIndex := 392, attributes := #[] }, { accessFlags := 25, nameIndex := 498, descriptorIndex := 392, attributes := #[] }, { accessFlags := 25, nameIndex := 499, descriptorIndex := 392, attributes := #[] }, { accessFlags := 18, nameIndex := 21, descriptorIndex := 22, attributes := #[] }, { accessFlags := 26, nameIndex := 501, descriptorIndex := 502, attributes := #[] }, { accessFlags := 25, nameIndex := 505, descriptorIndex := 392, attributes := #[] }, { accessFlags := 25, nameIndex := 506, descriptorIndex := 392, attributes := #[] }, { accessFlags := 4120, nameIndex := 284, descriptorIndex := 285, attributes := #[] }])
  fields := #[{ name := "MIN_RADIX", type := .int, accessFlags := 25, slot := 0, constantValue := 0 }, { name := "MAX_RADIX", type := .int, accessFlags := 25, slot := 1, constantValue := 0 }, { name := "MIN_VALUE", type := .char, accessFlags := 25, slot := 2, constantValue := 0 }, { name := "MAX_VALUE", type := .char, accessFlags := 25, slot := 3, constantValue := 0 }, { name := "TYPE", type := (.object "java/lang/Class"), accessFlags := 25, slot := 4, constantValue := 0 }, { name := "UNASSIGNED", type := .byte, accessFlags := 25, slot := 5, constantValue := 0 }, { name := "UPPERCASE_LETTER", type := .byte, accessFlags := 25, slot := 6, constantValue := 0 }, { name := "LOWERCASE_LETTER", type := .byte, accessFlags := 25, slot := 7, constantValue := 0 }, { name := "TITLECASE_LETTER", type := .byte, accessFlags := 25, slot := 8, constantValue := 0 }, { name := "MODIFIER_LETTER", type := .byte, accessFlags := 25, slot := 9, constantValue := 0 }, { name := "OTHER_LETTER", type := .byte, accessFlags := 25, slot := 10, constantValue := 0 }, { name := "NON_SPACING_MARK", type := .byte, accessFlags := 25, slot := 11, constantValue := 0 }, { name := "ENCLOSING_MARK", type := .byte, accessFlags := 25, slot := 12, constantValue := 0 }, { name := "COMBINING_SPACING_MARK", type := .byte, accessFlags := 25, slot := 13, constantValue := 0 }, { name := "DECIMAL_DIGIT_NUMBER", type := .byte, accessFlags := 25, slot := 14, constantValue := 0 }, { name := "LETTER_NUMBER", type := .byte, accessFlags := 25, slot := 15, constantValue := 0 }, { name := "OTHER_NUMBER", type := .byte, accessFlags := 25, slot := 16, constantValue := 0 }, { name := "SPACE_SEPARATOR", type := .byte, accessFlags := 25, slot := 17, constantValue := 0 }, { name := "LINE_SEPARATOR", type := .byte, accessFlags := 25, slot := 18, constantValue := 0 }, { name := "PARAGRAPH_SEPARATOR", type := .byte, accessFlags := 25, slot := 19, constantValue := 0 }, { name := "CONTROL", type := .byte, accessFlags := 25, slot := 20, constantValue := 0 }, { name := "FORMAT", type := .byte, accessFlags := 25, slot := 21, constantValue := 0 }, { name := "PRIVATE_USE", type := .byte, accessFlags := 25, slot := 22, constantValue := 0 }, { name := "SURROGATE", type := .byte, accessFlags := 25, slot := 23, constantValue := 0 }, { name := "DASH_PUNCTUATION", type := .byte, accessFlags := 25, slot := 24, constantValue := 0 }, { name := "START_PUNCTUATION", type := .byte, accessFlags := 25, slot := 25, constantValue := 0 }, { name := "END_PUNCTUATION", type := .byte, accessFlags := 25, slot := 26, constantValue := 0 }, { name := "CONNECTOR_PUNCTUATION", type := .byte, accessFlags := 25, slot := 27, constantValue := 0 }, { name := "OTHER_PUNCTUATION", type := .byte, accessFlags := 25, slot := 28, constantValue := 0 }, { name := "MATH_SYMBOL", type := .byte, accessFlags := 25, slot := 29, constantValue := 0 }, { name := "CURRENCY_SYMBOL", type := .byte, accessFlags := 25, slot := 30, constantValue := 0 }, { name := "MODIFIER_SYMBOL", type := .byte, accessFlags := 25, slot := 31, constantValue := 0 }, { name := "OTHER_SYMBOL", type := .byte, accessFlags := 25, slot := 32, constantValue := 0 }, { name := "INITIAL_QUOTE_PUNCTUATION", type := .byte, accessFlags := 25, slot := 33, constantValue := 0 }, { name := "FINAL_QUOTE_PUNCTUATION", type := .byte, accessFlags := 25, slot := 34, constantValue := 0 }, { name := "ERROR", type := .int, accessFlags := 24, slot := 35, constantValue := 0 }, { name := "DIRECTIONALITY_UNDEFINED", type := .byte, accessFlags := 25, slot := 36, constantValue := 0 }, { name := "DIRECTIONALITY_LEFT_TO_RIGHT", type := .byte, accessFlags := 25, slot := 37, constantValue := 0 }, { name := "DIRECTIONALITY_RIGHT_TO_LEFT", type := .byte, accessFlags := 25, slot := 38, constantValue := 0 }, { name := "DIRECTIONALITY_RIGHT_TO_LEFT_ARABIC", type := .byte, accessFlags := 25, slot := 39, constantValue := 0 }, { name := "DIRECTIONALITY_EUROPEAN_NUMBER", type := .byte, accessFlags := 25, slot := 40, constantValue := 0 }, { name := "DIRECTIONALITY_EUROPEAN_NUMBER_SEPARATOR", type := .byte, accessFlags := 25, slot := 41, constantValue := 0 }, { name := "DIRECTIONALITY_EUROPEAN_NUMBER_TERMINATOR", type := .byte, accessFlags := 25, slot := 42, constantValue := 0 }, { name := "DIRECTIONALITY_ARABIC_NUMBER", type := .byte, accessFlags := 25, slot := 43, constantValue := 0 }, { name := "DIRECTIONALITY_COMMON_NUMBER_SEPARATOR", type := .byte, accessFlags := 25, slot := 44, constantValue := 0 }, { name := "DIRECTIONALITY_NONSPACING_MARK", type := .byte, accessFlags := 25, slot := 45, constantValue := 0 }, { name := "DIRECTIONALITY_BOUNDARY_NEUTRAL", type := .byte, accessFlags := 25, slot := 46, constantValue := 0 }, { name := "DIRECTIONALITY_PARAGRAPH_SEPARATOR", type := .byte, accessFlags := 25, slot := 47, constantValue := 0 }, { name := "DIRECTIONALITY_SEGMENT_SEPARATOR", type := .byte, accessFlags := 25, slot := 48, constantValue := 0 }, { name := "DIRECTIONALITY_WHITESPACE", type := .byte, accessFlags := 25, slot := 49, constantValue := 0 }, { name := "DIRECTIONALITY_OTHER_NEUTRALS", type := .byte, accessFlags := 25, slot := 50, constantValue := 0 }, { name := "DIRECTIONALITY_LEFT_TO_RIGHT_EMBEDDING", type := .byte, accessFlags := 25, slot := 51, constantValue := 0 }, { name := "DIRECTIONALITY_LEFT_TO_RIGHT_OVERRIDE", type := .byte, accessFlags := 25, slot := 52, constantValue := 0 }, { name := "DIRECTIONALITY_RIGHT_TO_LEFT_EMBEDDING", type := .byte, accessFlags := 25, slot := 53, constantValue := 0 }, { name := "DIRECTIONALITY_RIGHT_TO_LEFT_OVERRIDE", type := .byte, accessFlags := 25, slot := 54, constantValue := 0 }, { name := "DIRECTIONALITY_POP_DIRECTIONAL_FORMAT", type := .byte, accessFlags := 25, slot := 55, constantValue := 0 }, { name := "DIRECTIONALITY_LEFT_TO_RIGHT_ISOLATE", type := .byte, accessFlags := 25, slot := 56, constantValue := 0 }, { name := "DIRECTIONALITY_RIGHT_TO_LEFT_ISOLATE", type := .byte, accessFlags := 25, slot := 57, constantValue := 0 }, { name := "DIRECTIONALITY_FIRST_STRONG_ISOLATE", type := .byte, accessFlags := 25, slot := 58, constantValue := 0 }, { name := "DIRECTIONALITY_POP_DIRECTIONAL_ISOLATE", type := .byte, accessFlags := 25, slot := 59, constantValue := 0 }, { name := "MIN_HIGH_SURROGATE", type := .char, accessFlags := 25, slot := 60, constantValue := 0 }, { name := "MAX_HIGH_SURROGATE", type := .char, accessFlags := 25, slot := 61, constantValue := 0 }, { name := "MIN_LOW_SURROGATE", type := .char, accessFlags := 25, slot := 62, constantValue := 0 }, { name := "MAX_LOW_SURROGATE", type := .char, accessFlags := 25, slot := 63, constantValue := 0 }, { name := "MIN_SURROGATE", type := .char, accessFlags := 25, slot := 64, constantValue := 0 }, { name := "MAX_SURROGATE", type := .char, accessFlags := 25, slot := 65, constantValue := 0 }, { name := "MIN_SUPPLEMENTARY_CODE_POINT", type := .int, accessFlags := 25, slot := 66, constantValue := 0 }, { name := "MIN_CODE_POINT", type := .int, accessFlags := 25, slot := 67, constantValue := 0 }, { name := "MAX_CODE_POINT", type := .int, accessFlags := 25, slot := 68, constantValue := 0 }, { name := "value", type := .char, accessFlags := 18, slot := 0, constantValue := 0 }, { name := "serialVersionUID", type := .long, accessFlags := 26, slot := 69, constantValue := 0 }, { name := "SIZE", type := .int, accessFlags := 25, slot := 70, constantValue := 0 }, { name := "BYTES", type := .int, accessFlags := 25, slot := 71, constantValue := 0 }, { name := "$assertionsDisabled", type := .boolean, accessFlags := 4120, slot := 72, constantValue := 0 }]
  methods := #[k15m0, k15m1, k15m2]
  instanceTypes := #[.char]
  staticTypes := #[.int, .int, .char, .char, (.object "java/lang/Class"), .byte, .byte, .byte, .byte, .byte, .byte, .byte, .byte, .byte, .byte, .byte, .byte, .byte, .byte, .byte, .byte, .byte, .byte, .byte, .byte, .byte, .byte, .byte, .byte, .byte, .byte, .byte, .byte, .byte, .byte, .int, .byte, .byte, .byte, .byte, .byte, .byte, .byte, .byte, .byte, .byte, .byte, .byte, .byte, .byte, .byte, .byte, .byte, .byte, .byte, .byte, .byte, .byte, .byte, .byte, .char, .char, .char, .char, .char, .char, .int, .int, .int, .long, .int, .int, .boolean]
  resolved := Array.replicate 604 none
  statics := none }

def pool16 : Array CpInfo := pool [(9, u "<init>"), (6, .class_ 18), (1, u "java/lang/Object"), (0, u "()V"), (1, .class_ 23), (1, u "jdk/internal/util/ArraysSupport"), (0, u "LOG2_ARRAY_LONG_INDEX_SCALE"), (0, u "I"), (2, u "U"), (0, u "Ljdk/internal/misc/Unsafe;"), (8, u "BIG_ENDIAN"), (0, u "Z"), (8, u "LOG2_BYTE_BIT_SIZE"), (4, u "LOG2_ARRAY_INT_INDEX_SCALE"), (54, u "JLA"), (0, u "Ljdk/internal/access/JavaLangAccess;"), (11, u "LOG2_ARRAY_BOOLEAN_INDEX_SCALE"), (9, u "LOG2_ARRAY_BYTE_INDEX_SCALE"), (5, u "LOG2_ARRAY_CHAR_INDEX_SCALE"), (5, u "LOG2_ARRAY_SHORT_INDEX_SCALE"), (18, u "LOG2_ARRAY_FLOAT_INDEX_SCALE"), (24, u "LOG2_ARRAY_DOUBLE_INDEX_SCALE"), (89, u "T_BOOLEAN"), (2, u "T_CHAR"), (1, u "T_FLOAT"), (1, u "T_DOUBLE"), (1, u "T_BYTE"), (1, u "T_SHORT"), (1, u "T_INT"), (1, u "T_LONG"), (1, u "SOFT_MAX_ARRAY_LENGTH")] 83

def k16m0 : Method := { name := "<init>", desc := "()V", sig := { parameters := [], returnType := none }, accessFlags := 2, code := none }
/-- jdk/internal/util/ArraysSupport -/
def k16 : Class := { plain "jdk/internal/util/ArraysSupport" (some 0) with
  accessFlags := 33
  interfaces := #[]
  cf := some (fileOf pool16 21 #[] #[{ accessFlags := 2, nameIndex := 9, descriptorIndex := 19, attributes := #[] }] 33 16 #[] #[{ accessFlags := 24, nameIndex := 28, descriptorIndex := 29, attributes := #[] }, { accessFlags := 26, nameIndex := 38, descriptorIndex := 39, attributes := #[] }, { accessFlags := 25, nameIndex := 121, descriptorIndex := 25, attributes := #[] }, { accessFlags := 25, nameIndex := 131, descriptorIndex := 25, attributes := #[] }, { accessFlags := 25, nameIndex := 137, descriptorIndex := 25, attributes := #[] }, { accessFlags := 25, nameIndex := 143, descriptorIndex := 25, attributes := #[] }, { accessFlags := 25, nameIndex := 53, descriptorIndex := 25, attributes := #[] }, { accessFlags := 25, nameIndex := 24, descriptorIndex := 25, attributes := #[] }, { accessFlags := 25, nameIndex := 162, descriptorIndex := 25, attributes := #[] }, { accessFlags := 25, nameIndex := 187, descriptorIndex := 25, attributes := #[] }, { accessFlags := 26, nameIndex := 48, descriptorIndex := 25, attributes := #[] }, { accessFlags := 25, nameIndex := 277, descriptorIndex := 25, attributes := #[] }, { accessFlags := 25, nameIndex := 280, descriptorIndex := 25, attributes := #[] }, { accessFlags := 25, nameIndex := 282, descriptorIndex := 25, attributes := #[] }, { accessFlags := 25, nameIndex := 284, descriptorIndex := 25, attributes := #[] }, { accessFlags := 25, nameIndex := 286, descriptorIndex := 25, attributes := #[] }, { accessFlags := 25, nameIndex := 288, descriptorIndex := 25, attributes := #[] }, { accessFlags := 25, nameIndex := 290, descriptorIndex := 25, attributes := #[] }, { accessFlags := 25, nameIndex := 292, descriptorIndex := 25, attributes := #[] }, { accessFlags := 26, nameIndex := 108, descriptorIndex := 109, attributes := #[] }, { accessFlags := 25, nameIndex := 294, descriptorIndex := 25, attributes := #[] }])
  fields := #[{ name := "U", type := (.object "jdk/internal/misc/Unsafe"), accessFlags := 24, slot := 0, constantValue := 0 }, { name := "BIG_ENDIAN", type := .boolean, accessFlags := 26, slot := 1, constantValue := 0 }, { name := "LOG2_ARRAY_BOOLEAN_INDEX_SCALE", type := .int, accessFlags := 25, slot := 2, constantValue := 0 }, { name := "LOG2_ARRAY_BYTE_INDEX_SCALE", type := .int, accessFlags := 25, slot := 3, constantValue := 0 }, { name := "LOG2_ARRAY_CHAR_INDEX_SCALE", type := .int, accessFlags := 25, slot := 4, constantValue := 0 }, { name := "LOG2_ARRAY_SHORT_INDEX_SCALE", type := .int, accessFlags := 25, slot := 5, constantValue := 0 }, { name := "LOG2_ARRAY_INT_INDEX_SCALE", type := .int, accessFlags := 25, slot := 6, constantValue := 0 }, { name := "LOG2_ARRAY_LONG_INDEX_SCALE", type := .int, accessFlags := 25, slot := 7, constantValue := 0 }, { name := "LOG2_ARRAY_FLOAT_INDEX_SCALE", type := .int, accessFlags := 25, slot := 8, constantValue := 0 }, { name := "LOG2_ARRAY_DOUBLE_INDEX_SCALE", type := .int, accessFlags := 25, slot := 9, constantValue := 0 }, { name := "LOG2_BYTE_BIT_SIZE", type := .int, accessFlags := 26, slot := 10, constantValue := 0 }, { name := "T_BOOLEAN", type := .int, accessFlags := 25, slot := 11, constantValue := 0 }, { name := "T_CHAR", type := .int, accessFlags := 25, slot := 12, constantValue := 0 }, { name := "T_FLOAT", type := .int, accessFlags := 25, slot := 13, constantValue := 0 }, { name := "T_DOUBLE", type := .int, accessFlags := 25, slot := 14, constantValue := 0 }, { name := "T_BYTE", type := .int, accessFlags := 25, slot := 15, constantValue := 0 }, { name := "T_SHORT", type := .int, accessFlags := 25, slot := 16, constantValue := 0 }, { name := "T_INT", type := .int, accessFlags := 25, slot := 17, constantValue := 0 }, { name := "T_LONG", type := .int, accessFlags := 25, slot := 18, constantValue := 0 }, { name := "JLA", type := (.object "jdk/internal/access/JavaLangAccess"), accessFlags := 26, slot := 19, constantValue := 0 }, { name := "SOFT_MAX_ARRAY_LENGTH", type := .int, accessFlags := 25, slot := 20, constantValue := 0 }]
  methods := #[k16m0]
  instanceTypes := #[]
  staticTypes := #[(.object "jdk/internal/misc/Unsafe"), .boolean, .int, .int, .int, .int, .int, .int, .int, .int, .int, .int, .int, .int, .int, .int, .int, .int, .int, (.object "jdk/internal/access/JavaLangAccess"), .int]
  resolved := Array.replicate 378 none
  statics := none }

def pool17 : Array CpInfo := pool [(1, u "java/lang/Cloneable"), (0, .class_ 1), (0, u "java/lang/Object"), (0, .class_ 3)] 3

/-- java/lang/Cloneable -/
def k17 : Class := { plain "java/lang/Cloneable" (some 0) with
  accessFlags := 1537
  interfaces := #[]
  cf := some (fileOf pool17 2 #[] #[] 1537 4 #[] #[])
  fields := #[]
  methods := #[]
  instanceTypes := #[]
  staticTypes := #[]
  resolved := Array.replicate 8 none
  statics := none }

/-- the primitive byte -/
def k18 : Class := { plain "byte" none with kind := .primitive 'B', accessFlags := 0x411 }
/-- [B -/
def k19 : Class := { plain "[B" (some 0) with kind := .array 18 .byte, interfaces := #[17, 4], accessFlags := 1041 }

/-- the primitive char -/
def k20 : Class := { plain "char" none with kind := .primitive 'C', accessFlags := 0x411 }
/-- [C -/
def k21 : Class := { plain "[C" (some 0) with kind := .array 20 .char, interfaces := #[17, 4], accessFlags := 1041 }

/-- the primitive int -/
def k22 : Class := { plain "int" none with kind := .primitive 'I', accessFlags := 0x411 }
/-- [I -/
def k23 : Class := { plain "[I" (some 0) with kind := .array 22 .int, interfaces := #[17, 4], accessFlags := 1041 }

def heap : Heap := #[{ cls := 6, slots := #[.ref 4, .ref 7, .ref 6, .ref 5, .null], vm := .statics 6 },
  { cls := 9, slots := #[.long 0, .int 1, .null, .int 0, .null, .int 0, .int 0], vm := .statics 9 },
  { cls := 10, slots := #[.int 0, .int 8, .int 0, .int 1], vm := .statics 10 },
  { cls := 14, slots := #[.null, .null, .null], vm := .statics 14 },
  { cls := 6, slots := #[.null, .int 0, .int 0, .null], vm := .none },
  { cls := 6, slots := #[.null, .int 1, .int 0, .null], vm := .none },
  { cls := 6, slots := #[.null, .int 2, .int 0, .null], vm := .none },
  { cls := 6, slots := #[.null, .int 3, .int 0, .null], vm := .none }]
def classes : Array Class := #[k0, k1, k2, k3, k4, k5, k6, k7, k8, k9, k10, k11, k12, k13, k14, k15, k16, k17, k18, k19, k20, k21, k22, k23]
def interned : List (Array UInt16 × Addr) := []
def slotsUsed : Nat := 35
def theMethod : MethodId := ⟨1, 1⟩
def args0 : Array Value := #[.int 5, .int 6, .int 7, .long 8, .long 9, .int 10]
def aboutOver (below : List Frame) : State where
  vm := { classes := classes, interned := interned.toArray }
  heap := heap
  slotsUsed := slotsUsed
  threads := #[{ frames := .invoking theMethod args0 :: below }]
def below0 : List Frame := [.native { method := ⟨0, 0⟩, args := #[] }]
def about1 : State := aboutOver below0
def p0 : Program := .bare "" "" ""
def e0 : Env := launch0.env 0 0 0
theorem w_frames : about1.frames = Frame.invoking theMethod args0 :: below0 := rfl
set_option maxRecDepth 65536 in
theorem w_args : argsFit about1.vm theMethod args0 = true := by decide +kernel
set_option maxRecDepth 65536 in
theorem w_heap : heapFits about1 = true := by decide +kernel
set_option maxRecDepth 65536 in
theorem w_runnable : about1.curStatus? = some .runnable := by decide +kernel
set_option maxRecDepth 65536 in
theorem w_alone : about1.alone = true := by decide +kernel
set_option maxRecDepth 65536 in
theorem w_named : about1.methodNamed? x = some theMethod := by decide +kernel
set_option maxRecDepth 65536 in
theorem w_hears : about1.hears theMethod below0 = true := by decide +kernel
set_option maxRecDepth 65536 in
theorem w_ripe : about1.ripe theMethod args0 below0 = true := by decide +kernel
theorem w_running : about1.status = .running := rfl
set_option maxRecDepth 65536 in
theorem w_room : about1.hasRoom e0.platform room_1 = true :=
  launch0.hasRoom_least _ room_1 (by decide +kernel) (by decide +kernel) (by decide +kernel) (by decide +kernel) (by decide +kernel) (by decide +kernel)
theorem allAtoms_all (ts : List Jvm.Cond) (a : Array Jvm.Value) (st : Jvm.State) : (allAtoms ts).before a st = ts.all (fun c => c.before a st) := by
  induction ts with
  | nil => rfl
  | cons c t ih =>
    show (Jvm.Cond.and c (allAtoms t)).before a st = _
    rw [Jvm.Cond.before_and, ih, List.all_cons]
def words1 : List Jvm.Cond := Jvm.Cond.code x code maxLocals ret :: tables_1
/-- a 'code' word, met by the world's own term for the bytes: nothing is compared byte by byte -/
theorem code_word {y : MethodName} {bytes : ByteArray} {mx : Nat} {rt : Option FieldType} {a : Array Value} {s : State} {m : MethodId} {meth : Method} {c : Code} (h1 : s.methodNamed? y = some m) (h2 : s.vm.method? m = some meth) (h3 : meth.code = some c) (h4 : c.code = bytes)
    (h5 : (c.maxLocals == mx && c.exceptionTable.isEmpty && decide (c.maxStack ≤ mostOperands) && decide (meth.sig.returnType = rt) && !meth.locks && decide (parseMethodDescriptor y.desc = some meth.sig)) = true) : (Jvm.Cond.code y bytes mx rt).before a s = true := by
  simp only [Bool.and_eq_true, beq_iff_eq, Bool.not_eq_true', decide_eq_true_eq] at h5
  obtain ⟨⟨⟨⟨⟨g1, g2⟩, g3⟩, g4⟩, g5⟩, g6⟩ := h5
  simp [Cond.before, Cond.holds, Cond.value, h1, h2, h3, h4, g1, g2, g3, g4, g5, g6]
def isCode : Jvm.Cond → Bool
  | .code _ _ _ _ => true
  | _ => false
theorem all_split {L : List Jvm.Cond} {P : Jvm.Cond → Bool} (h1 : L.all (fun c => isCode c || P c) = true) (h2 : ∀ c ∈ L.filter isCode, P c = true) : L.all P = true := by
  refine List.all_eq_true.mpr fun c hc => ?_
  have h := List.all_eq_true.mp h1 c hc
  rcases Bool.eq_false_or_eq_true (isCode c) with hi | hi
  · exact h2 c (List.mem_filter.mpr ⟨hc, hi⟩)
  · simpa [hi] using h
set_option maxRecDepth 65536 in
theorem w_c0 : (Jvm.Cond.code x code maxLocals ret).before args0 about1 = true := code_word (m := ⟨1, 1⟩) (meth := k1m1) (c := k1c1) (by decide +kernel) rfl rfl rfl (by decide +kernel)
set_option maxRecDepth 65536 in
theorem w_c1 : (Jvm.Cond.code ({ cls := "com/example/collie/collie/engine/MinedPairLastCharacterMatchPinLaw", name := "make", desc := "(II)Ljava/lang/String;" } : Jvm.MethodName) method_4_code (5 : Nat) (Option.some (Jvm.ClassFile.FieldType.object "java/lang/String"))).before args0 about1 = true := code_word (m := ⟨1, 3⟩) (meth := k1m3) (c := k1c3) (by decide +kernel) rfl rfl rfl (by decide +kernel)
set_option maxRecDepth 65536 in
theorem w_c2 : (Jvm.Cond.code ({ cls := "com/example/collie/collie/engine/MinedPairLastCharacterMatchPinLaw", name := "draw", desc := "(II)C" } : Jvm.MethodName) method_3_code (5 : Nat) (Option.some Jvm.ClassFile.FieldType.char)).before args0 about1 = true := code_word (m := ⟨1, 2⟩) (meth := k1m2) (c := k1c2) (by decide +kernel) rfl rfl rfl (by decide +kernel)
set_option maxRecDepth 65536 in
theorem w_c3 : (Jvm.Cond.code ({ cls := "java/lang/String", name := "<init>", desc := "([C)V" } : Jvm.MethodName) jdk_42_method_3_code (2 : Nat) (Option.none : Option Jvm.ClassFile.FieldType)).before args0 about1 = true := code_word (m := ⟨9, 1⟩) (meth := k9m1) (c := k9c1) (by decide +kernel) rfl rfl rfl (by decide +kernel)
set_option maxRecDepth 65536 in
theorem w_c4 : (Jvm.Cond.code ({ cls := "java/lang/String", name := "<init>", desc := "([CIILjava/lang/Void;)V" } : Jvm.MethodName) jdk_42_method_149_code (6 : Nat) (Option.none : Option Jvm.ClassFile.FieldType)).before args0 about1 = true := code_word (m := ⟨9, 5⟩) (meth := k9m5) (c := k9c5) (by decide +kernel) rfl rfl rfl (by decide +kernel)
set_option maxRecDepth 65536 in
theorem w_c5 : (Jvm.Cond.code ({ cls := "java/lang/Object", name := "<init>", desc := "()V" } : Jvm.MethodName) object_method_1_code (1 : Nat) (Option.none : Option Jvm.ClassFile.FieldType)).before args0 about1 = true := code_word (m := ⟨0, 0⟩) (meth := k0m0) (c := k0c0) (by decide +kernel) rfl rfl rfl (by decide +kernel)
set_option maxRecDepth 65536 in
theorem w_c6 : (Jvm.Cond.code ({ cls := "java/lang/StringUTF16", name := "compress", desc := "([CII)[B" } : Jvm.MethodName) jdk_52_method_16_code (6 : Nat) (Option.some (Jvm.ClassFile.FieldType.array Jvm.ClassFile.FieldType.byte))).before args0 about1 = true := code_word (m := ⟨10, 10⟩) (meth := k10m10) (c := k10c10) (by decide +kernel) rfl rfl rfl (by decide +kernel)
set_option maxRecDepth 65536 in
theorem w_c7 : (Jvm.Cond.code ({ cls := "java/lang/StringUTF16", name := "compress", desc := "([CI[BII)I" } : Jvm.MethodName) jdk_52_method_21_code (7 : Nat) (Option.some Jvm.ClassFile.FieldType.int)).before args0 about1 = true := code_word (m := ⟨10, 11⟩) (meth := k10m11) (c := k10c11) (by decide +kernel) rfl rfl rfl (by decide +kernel)
set_option maxRecDepth 65536 in
theorem w_c8 : (Jvm.Cond.code ({ cls := "java/lang/StringUTF16", name := "coderFromArrayLen", desc := "([BI)B" } : Jvm.MethodName) jdk_52_method_15_code (2 : Nat) (Option.some Jvm.ClassFile.FieldType.byte)).before args0 about1 = true := code_word (m := ⟨10, 9⟩) (meth := k10m9) (c := k10c9) (by decide +kernel) rfl rfl rfl (by decide +kernel)
set_option maxRecDepth 65536 in
theorem w_c9 : (Jvm.Cond.code ({ cls := "com/example/collie/collie/engine/MinedPair", name := "<init>", desc := "(Ljava/lang/String;Ljava/lang/String;JJLcom/example/collie/collie/engine/CorrectionType;I)V" } : Jvm.MethodName) prog_29_method_2_code (9 : Nat) (Option.none : Option Jvm.ClassFile.FieldType)).before args0 about1 = true := code_word (m := ⟨12, 0⟩) (meth := k12m0) (c := k12c0) (by decide +kernel) rfl rfl rfl (by decide +kernel)
set_option maxRecDepth 65536 in
theorem w_c10 : (Jvm.Cond.code ({ cls := "java/lang/Record", name := "<init>", desc := "()V" } : Jvm.MethodName) jdk_30_method_1_code (1 : Nat) (Option.none : Option Jvm.ClassFile.FieldType)).before args0 about1 = true := code_word (m := ⟨11, 0⟩) (meth := k11m0) (c := k11c0) (by decide +kernel) rfl rfl rfl (by decide +kernel)
set_option maxRecDepth 65536 in
theorem w_c11 : (Jvm.Cond.code ({ cls := "com/example/collie/collie/engine/MinedPairLastCharacterMatchPinLaw", name := "lastCodePoint", desc := "(Ljava/lang/String;)I" } : Jvm.MethodName) method_5_code (4 : Nat) (Option.some Jvm.ClassFile.FieldType.int)).before args0 about1 = true := code_word (m := ⟨1, 4⟩) (meth := k1m4) (c := k1c4) (by decide +kernel) rfl rfl rfl (by decide +kernel)
set_option maxRecDepth 65536 in
theorem w_c12 : (Jvm.Cond.code ({ cls := "java/lang/String", name := "length", desc := "()I" } : Jvm.MethodName) jdk_42_method_54_code (1 : Nat) (Option.some Jvm.ClassFile.FieldType.int)).before args0 about1 = true := code_word (m := ⟨9, 2⟩) (meth := k9m2) (c := k9c2) (by decide +kernel) rfl rfl rfl (by decide +kernel)
set_option maxRecDepth 65536 in
theorem w_c13 : (Jvm.Cond.code ({ cls := "java/lang/String", name := "coder", desc := "()B" } : Jvm.MethodName) jdk_42_method_152_code (1 : Nat) (Option.some Jvm.ClassFile.FieldType.byte)).before args0 about1 = true := code_word (m := ⟨9, 6⟩) (meth := k9m6) (c := k9c6) (by decide +kernel) rfl rfl rfl (by decide +kernel)
set_option maxRecDepth 65536 in
theorem w_c14 : (Jvm.Cond.code ({ cls := "java/lang/String", name := "charAt", desc := "(I)C" } : Jvm.MethodName) jdk_42_method_56_code (2 : Nat) (Option.some Jvm.ClassFile.FieldType.char)).before args0 about1 = true := code_word (m := ⟨9, 3⟩) (meth := k9m3) (c := k9c3) (by decide +kernel) rfl rfl rfl (by decide +kernel)
set_option maxRecDepth 65536 in
theorem w_c15 : (Jvm.Cond.code ({ cls := "java/lang/String", name := "isLatin1", desc := "()Z" } : Jvm.MethodName) jdk_42_method_154_code (1 : Nat) (Option.some Jvm.ClassFile.FieldType.boolean)).before args0 about1 = true := code_word (m := ⟨9, 7⟩) (meth := k9m7) (c := k9c7) (by decide +kernel) rfl rfl rfl (by decide +kernel)
set_option maxRecDepth 65536 in
theorem w_c16 : (Jvm.Cond.code ({ cls := "java/lang/StringLatin1", name := "charAt", desc := "([BI)C" } : Jvm.MethodName) jdk_43_method_2_code (2 : Nat) (Option.some Jvm.ClassFile.FieldType.char)).before args0 about1 = true := code_word (m := ⟨13, 1⟩) (meth := k13m1) (c := k13c1) (by decide +kernel) rfl rfl rfl (by decide +kernel)
set_option maxRecDepth 65536 in
theorem w_c17 : (Jvm.Cond.code ({ cls := "java/lang/String", name := "checkIndex", desc := "(II)V" } : Jvm.MethodName) jdk_42_method_155_code (2 : Nat) (Option.none : Option Jvm.ClassFile.FieldType)).before args0 about1 = true := code_word (m := ⟨9, 8⟩) (meth := k9m8) (c := k9c8) (by decide +kernel) rfl rfl rfl (by decide +kernel)
set_option maxRecDepth 65536 in
theorem w_c18 : (Jvm.Cond.code ({ cls := "jdk/internal/util/Preconditions", name := "checkIndex", desc := "(IILjava/util/function/BiFunction;)I" } : Jvm.MethodName) jdk_41_method_11_code (3 : Nat) (Option.some Jvm.ClassFile.FieldType.int)).before args0 about1 = true := code_word (m := ⟨14, 1⟩) (meth := k14m1) (c := k14c1) (by decide +kernel) rfl rfl rfl (by decide +kernel)
set_option maxRecDepth 65536 in
theorem w_c19 : (Jvm.Cond.code ({ cls := "com/example/collie/collie/engine/MinedPair", name := "lastCharacterMatch", desc := "()Z" } : Jvm.MethodName) prog_29_method_5_code (1 : Nat) (Option.some Jvm.ClassFile.FieldType.boolean)).before args0 about1 = true := code_word (m := ⟨12, 1⟩) (meth := k12m1) (c := k12c1) (by decide +kernel) rfl rfl rfl (by decide +kernel)
set_option maxRecDepth 65536 in
theorem w_c20 : (Jvm.Cond.code ({ cls := "java/lang/String", name := "codePointBefore", desc := "(I)I" } : Jvm.MethodName) jdk_42_method_58_code (3 : Nat) (Option.some Jvm.ClassFile.FieldType.int)).before args0 about1 = true := code_word (m := ⟨9, 4⟩) (meth := k9m4) (c := k9c4) (by decide +kernel) rfl rfl rfl (by decide +kernel)
set_option maxRecDepth 65536 in
theorem w_c21 : (Jvm.Cond.code ({ cls := "java/lang/StringUTF16", name := "toBytes", desc := "([CII)[B" } : Jvm.MethodName) jdk_52_method_14_code (5 : Nat) (Option.some (Jvm.ClassFile.FieldType.array Jvm.ClassFile.FieldType.byte))).before args0 about1 = true := code_word (m := ⟨10, 8⟩) (meth := k10m8) (c := k10c8) (by decide +kernel) rfl rfl rfl (by decide +kernel)
set_option maxRecDepth 65536 in
theorem w_c22 : (Jvm.Cond.code ({ cls := "java/lang/StringUTF16", name := "newBytesFor", desc := "(I)[B" } : Jvm.MethodName) jdk_52_method_2_code (1 : Nat) (Option.some (Jvm.ClassFile.FieldType.array Jvm.ClassFile.FieldType.byte))).before args0 about1 = true := code_word (m := ⟨10, 1⟩) (meth := k10m1) (c := k10c1) (by decide +kernel) rfl rfl rfl (by decide +kernel)
set_option maxRecDepth 65536 in
theorem w_c23 : (Jvm.Cond.code ({ cls := "java/lang/StringUTF16", name := "newBytesLength", desc := "(I)I" } : Jvm.MethodName) jdk_52_method_3_code (1 : Nat) (Option.some Jvm.ClassFile.FieldType.int)).before args0 about1 = true := code_word (m := ⟨10, 2⟩) (meth := k10m2) (c := k10c2) (by decide +kernel) rfl rfl rfl (by decide +kernel)
set_option maxRecDepth 65536 in
theorem w_c24 : (Jvm.Cond.code ({ cls := "java/lang/StringUTF16", name := "putChar", desc := "([BII)V" } : Jvm.MethodName) jdk_52_method_4_code (3 : Nat) (Option.none : Option Jvm.ClassFile.FieldType)).before args0 about1 = true := code_word (m := ⟨10, 3⟩) (meth := k10m3) (c := k10c3) (by decide +kernel) rfl rfl rfl (by decide +kernel)
set_option maxRecDepth 65536 in
theorem w_c25 : (Jvm.Cond.code ({ cls := "java/lang/StringUTF16", name := "getChar", desc := "([BI)C" } : Jvm.MethodName) jdk_52_method_5_code (2 : Nat) (Option.some Jvm.ClassFile.FieldType.char)).before args0 about1 = true := code_word (m := ⟨10, 4⟩) (meth := k10m4) (c := k10c4) (by decide +kernel) rfl rfl rfl (by decide +kernel)
set_option maxRecDepth 65536 in
theorem w_c26 : (Jvm.Cond.code ({ cls := "java/lang/StringUTF16", name := "charAt", desc := "([BI)C" } : Jvm.MethodName) jdk_52_method_83_code (2 : Nat) (Option.some Jvm.ClassFile.FieldType.char)).before args0 about1 = true := code_word (m := ⟨10, 12⟩) (meth := k10m12) (c := k10c12) (by decide +kernel) rfl rfl rfl (by decide +kernel)
set_option maxRecDepth 65536 in
theorem w_c27 : (Jvm.Cond.code ({ cls := "java/lang/StringUTF16", name := "checkIndex", desc := "(I[B)V" } : Jvm.MethodName) jdk_52_method_91_code (2 : Nat) (Option.none : Option Jvm.ClassFile.FieldType)).before args0 about1 = true := code_word (m := ⟨10, 13⟩) (meth := k10m13) (c := k10c13) (by decide +kernel) rfl rfl rfl (by decide +kernel)
set_option maxRecDepth 65536 in
theorem w_c28 : (Jvm.Cond.code ({ cls := "java/lang/StringUTF16", name := "length", desc := "([B)I" } : Jvm.MethodName) jdk_52_method_6_code (1 : Nat) (Option.some Jvm.ClassFile.FieldType.int)).before args0 about1 = true := code_word (m := ⟨10, 5⟩) (meth := k10m5) (c := k10c5) (by decide +kernel) rfl rfl rfl (by decide +kernel)
set_option maxRecDepth 65536 in
theorem w_c29 : (Jvm.Cond.code ({ cls := "java/lang/StringUTF16", name := "codePointBefore", desc := "([BI)I" } : Jvm.MethodName) jdk_52_method_10_code (2 : Nat) (Option.some Jvm.ClassFile.FieldType.int)).before args0 about1 = true := code_word (m := ⟨10, 7⟩) (meth := k10m7) (c := k10c7) (by decide +kernel) rfl rfl rfl (by decide +kernel)
set_option maxRecDepth 65536 in
theorem w_c30 : (Jvm.Cond.code ({ cls := "java/lang/StringUTF16", name := "codePointBefore", desc := "([BIZ)I" } : Jvm.MethodName) jdk_52_method_9_code (5 : Nat) (Option.some Jvm.ClassFile.FieldType.int)).before args0 about1 = true := code_word (m := ⟨10, 6⟩) (meth := k10m6) (c := k10c6) (by decide +kernel) rfl rfl rfl (by decide +kernel)
set_option maxRecDepth 65536 in
theorem w_c31 : (Jvm.Cond.code ({ cls := "java/lang/Character", name := "isLowSurrogate", desc := "(C)Z" } : Jvm.MethodName) jdk_89_method_15_code (1 : Nat) (Option.some Jvm.ClassFile.FieldType.boolean)).before args0 about1 = true := code_word (m := ⟨15, 1⟩) (meth := k15m1) (c := k15c1) (by decide +kernel) rfl rfl rfl (by decide +kernel)
set_option maxRecDepth 65536 in
theorem w_c32 : (Jvm.Cond.code ({ cls := "java/lang/Character", name := "isHighSurrogate", desc := "(C)Z" } : Jvm.MethodName) jdk_89_method_14_code (1 : Nat) (Option.some Jvm.ClassFile.FieldType.boolean)).before args0 about1 = true := code_word (m := ⟨15, 0⟩) (meth := k15m0) (c := k15c0) (by decide +kernel) rfl rfl rfl (by decide +kernel)
set_option maxRecDepth 65536 in
theorem w_c33 : (Jvm.Cond.code ({ cls := "java/lang/Character", name := "toCodePoint", desc := "(CC)I" } : Jvm.MethodName) jdk_89_method_19_code (2 : Nat) (Option.some Jvm.ClassFile.FieldType.int)).before args0 about1 = true := code_word (m := ⟨15, 2⟩) (meth := k15m2) (c := k15c2) (by decide +kernel) rfl rfl rfl (by decide +kernel)
def codes1 : List Jvm.Cond := [Jvm.Cond.code x code maxLocals ret, Jvm.Cond.code ({ cls := "com/example/collie/collie/engine/MinedPairLastCharacterMatchPinLaw", name := "make", desc := "(II)Ljava/lang/String;" } : Jvm.MethodName) method_4_code (5 : Nat) (Option.some (Jvm.ClassFile.FieldType.object "java/lang/String")), Jvm.Cond.code ({ cls := "com/example/collie/collie/engine/MinedPairLastCharacterMatchPinLaw", name := "draw", desc := "(II)C" } : Jvm.MethodName) method_3_code (5 : Nat) (Option.some Jvm.ClassFile.FieldType.char), Jvm.Cond.code ({ cls := "java/lang/String", name := "<init>", desc := "([C)V" } : Jvm.MethodName) jdk_42_method_3_code (2 : Nat) (Option.none : Option Jvm.ClassFile.FieldType), Jvm.Cond.code ({ cls := "java/lang/String", name := "<init>", desc := "([CIILjava/lang/Void;)V" } : Jvm.MethodName) jdk_42_method_149_code (6 : Nat) (Option.none : Option Jvm.ClassFile.FieldType), Jvm.Cond.code ({ cls := "java/lang/Object", name := "<init>", desc := "()V" } : Jvm.MethodName) object_method_1_code (1 : Nat) (Option.none : Option Jvm.ClassFile.FieldType), Jvm.Cond.code ({ cls := "java/lang/StringUTF16", name := "compress", desc := "([CII)[B" } : Jvm.MethodName) jdk_52_method_16_code (6 : Nat) (Option.some (Jvm.ClassFile.FieldType.array Jvm.ClassFile.FieldType.byte)), Jvm.Cond.code ({ cls := "java/lang/StringUTF16", name := "compress", desc := "([CI[BII)I" } : Jvm.MethodName) jdk_52_method_21_code (7 : Nat) (Option.some Jvm.ClassFile.FieldType.int), Jvm.Cond.code ({ cls := "java/lang/StringUTF16", name := "coderFromArrayLen", desc := "([BI)B" } : Jvm.MethodName) jdk_52_method_15_code (2 : Nat) (Option.some Jvm.ClassFile.FieldType.byte), Jvm.Cond.code ({ cls := "com/example/collie/collie/engine/MinedPair", name := "<init>", desc := "(Ljava/lang/String;Ljava/lang/String;JJLcom/example/collie/collie/engine/CorrectionType;I)V" } : Jvm.MethodName) prog_29_method_2_code (9 : Nat) (Option.none : Option Jvm.ClassFile.FieldType), Jvm.Cond.code ({ cls := "java/lang/Record", name := "<init>", desc := "()V" } : Jvm.MethodName) jdk_30_method_1_code (1 : Nat) (Option.none : Option Jvm.ClassFile.FieldType), Jvm.Cond.code ({ cls := "com/example/collie/collie/engine/MinedPairLastCharacterMatchPinLaw", name := "lastCodePoint", desc := "(Ljava/lang/String;)I" } : Jvm.MethodName) method_5_code (4 : Nat) (Option.some Jvm.ClassFile.FieldType.int), Jvm.Cond.code ({ cls := "java/lang/String", name := "length", desc := "()I" } : Jvm.MethodName) jdk_42_method_54_code (1 : Nat) (Option.some Jvm.ClassFile.FieldType.int), Jvm.Cond.code ({ cls := "java/lang/String", name := "coder", desc := "()B" } : Jvm.MethodName) jdk_42_method_152_code (1 : Nat) (Option.some Jvm.ClassFile.FieldType.byte), Jvm.Cond.code ({ cls := "java/lang/String", name := "charAt", desc := "(I)C" } : Jvm.MethodName) jdk_42_method_56_code (2 : Nat) (Option.some Jvm.ClassFile.FieldType.char), Jvm.Cond.code ({ cls := "java/lang/String", name := "isLatin1", desc := "()Z" } : Jvm.MethodName) jdk_42_method_154_code (1 : Nat) (Option.some Jvm.ClassFile.FieldType.boolean), Jvm.Cond.code ({ cls := "java/lang/StringLatin1", name := "charAt", desc := "([BI)C" } : Jvm.MethodName) jdk_43_method_2_code (2 : Nat) (Option.some Jvm.ClassFile.FieldType.char), Jvm.Cond.code ({ cls := "java/lang/String", name := "checkIndex", desc := "(II)V" } : Jvm.MethodName) jdk_42_method_155_code (2 : Nat) (Option.none : Option Jvm.ClassFile.FieldType), Jvm.Cond.code ({ cls := "jdk/internal/util/Preconditions", name := "checkIndex", desc := "(IILjava/util/function/BiFunction;)I" } : Jvm.MethodName) jdk_41_method_11_code (3 : Nat) (Option.some Jvm.ClassFile.FieldType.int), Jvm.Cond.code ({ cls := "com/example/collie/collie/engine/MinedPair", name := "lastCharacterMatch", desc := "()Z" } : Jvm.MethodName) prog_29_method_5_code (1 : Nat) (Option.some Jvm.ClassFile.FieldType.boolean), Jvm.Cond.code ({ cls := "java/lang/String", name := "codePointBefore", desc := "(I)I" } : Jvm.MethodName) jdk_42_method_58_code (3 : Nat) (Option.some Jvm.ClassFile.FieldType.int), Jvm.Cond.code ({ cls := "java/lang/StringUTF16", name := "toBytes", desc := "([CII)[B" } : Jvm.MethodName) jdk_52_method_14_code (5 : Nat) (Option.some (Jvm.ClassFile.FieldType.array Jvm.ClassFile.FieldType.byte)), Jvm.Cond.code ({ cls := "java/lang/StringUTF16", name := "newBytesFor", desc := "(I)[B" } : Jvm.MethodName) jdk_52_method_2_code (1 : Nat) (Option.some (Jvm.ClassFile.FieldType.array Jvm.ClassFile.FieldType.byte)), Jvm.Cond.code ({ cls := "java/lang/StringUTF16", name := "newBytesLength", desc := "(I)I" } : Jvm.MethodName) jdk_52_method_3_code (1 : Nat) (Option.some Jvm.ClassFile.FieldType.int), Jvm.Cond.code ({ cls := "java/lang/StringUTF16", name := "putChar", desc := "([BII)V" } : Jvm.MethodName) jdk_52_method_4_code (3 : Nat) (Option.none : Option Jvm.ClassFile.FieldType), Jvm.Cond.code ({ cls := "java/lang/StringUTF16", name := "getChar", desc := "([BI)C" } : Jvm.MethodName) jdk_52_method_5_code (2 : Nat) (Option.some Jvm.ClassFile.FieldType.char), Jvm.Cond.code ({ cls := "java/lang/StringUTF16", name := "charAt", desc := "([BI)C" } : Jvm.MethodName) jdk_52_method_83_code (2 : Nat) (Option.some Jvm.ClassFile.FieldType.char), Jvm.Cond.code ({ cls := "java/lang/StringUTF16", name := "checkIndex", desc := "(I[B)V" } : Jvm.MethodName) jdk_52_method_91_code (2 : Nat) (Option.none : Option Jvm.ClassFile.FieldType), Jvm.Cond.code ({ cls := "java/lang/StringUTF16", name := "length", desc := "([B)I" } : Jvm.MethodName) jdk_52_method_6_code (1 : Nat) (Option.some Jvm.ClassFile.FieldType.int), Jvm.Cond.code ({ cls := "java/lang/StringUTF16", name := "codePointBefore", desc := "([BI)I" } : Jvm.MethodName) jdk_52_method_10_code (2 : Nat) (Option.some Jvm.ClassFile.FieldType.int), Jvm.Cond.code ({ cls := "java/lang/StringUTF16", name := "codePointBefore", desc := "([BIZ)I" } : Jvm.MethodName) jdk_52_method_9_code (5 : Nat) (Option.some Jvm.ClassFile.FieldType.int), Jvm.Cond.code ({ cls := "java/lang/Character", name := "isLowSurrogate", desc := "(C)Z" } : Jvm.MethodName) jdk_89_method_15_code (1 : Nat) (Option.some Jvm.ClassFile.FieldType.boolean), Jvm.Cond.code ({ cls := "java/lang/Character", name := "isHighSurrogate", desc := "(C)Z" } : Jvm.MethodName) jdk_89_method_14_code (1 : Nat) (Option.some Jvm.ClassFile.FieldType.boolean), Jvm.Cond.code ({ cls := "java/lang/Character", name := "toCodePoint", desc := "(CC)I" } : Jvm.MethodName) jdk_89_method_19_code (2 : Nat) (Option.some Jvm.ClassFile.FieldType.int)]
set_option maxRecDepth 65536 in
theorem codes_eq : words1.filter isCode = codes1 := rfl
theorem w_codes : ∀ c ∈ words1.filter isCode, c.before args0 about1 = true := by
  rw [codes_eq]
  intro c hc
  simp only [codes1, List.mem_cons, List.not_mem_nil, or_false] at hc
  rcases hc with rfl | rfl | rfl | rfl | rfl | rfl | rfl | rfl | rfl | rfl | rfl | rfl | rfl | rfl | rfl | rfl | rfl | rfl | rfl | rfl | rfl | rfl | rfl | rfl | rfl | rfl | rfl | rfl | rfl | rfl | rfl | rfl | rfl | rfl
  · exact w_c0
  · exact w_c1
  · exact w_c2
  · exact w_c3
  · exact w_c4
  · exact w_c5
  · exact w_c6
  · exact w_c7
  · exact w_c8
  · exact w_c9
  · exact w_c10
  · exact w_c11
  · exact w_c12
  · exact w_c13
  · exact w_c14
  · exact w_c15
  · exact w_c16
  · exact w_c17
  · exact w_c18
  · exact w_c19
  · exact w_c20
  · exact w_c21
  · exact w_c22
  · exact w_c23
  · exact w_c24
  · exact w_c25
  · exact w_c26
  · exact w_c27
  · exact w_c28
  · exact w_c29
  · exact w_c30
  · exact w_c31
  · exact w_c32
  · exact w_c33
set_option maxRecDepth 65536 in
theorem w_t1 : (words1.take 24).all (fun c => isCode c || c.before args0 about1) = true := by decide +kernel
set_option maxRecDepth 65536 in
theorem w_t2 : ((words1.drop 24).take 24).all (fun c => isCode c || c.before args0 about1) = true := by decide +kernel
set_option maxRecDepth 65536 in
theorem w_t3 : (((words1.drop 24).drop 24).take 24).all (fun c => isCode c || c.before args0 about1) = true := by decide +kernel
set_option maxRecDepth 65536 in
theorem w_t4 : ((((words1.drop 24).drop 24).drop 24).take 24).all (fun c => isCode c || c.before args0 about1) = true := by decide +kernel
set_option maxRecDepth 65536 in
theorem w_t5 : (((((words1.drop 24).drop 24).drop 24).drop 24).take 24).all (fun c => isCode c || c.before args0 about1) = true := by decide +kernel
set_option maxRecDepth 65536 in
theorem w_t6 : ((((((words1.drop 24).drop 24).drop 24).drop 24).drop 24).take 24).all (fun c => isCode c || c.before args0 about1) = true := by decide +kernel
set_option maxRecDepth 65536 in
theorem w_t7 : (((((((words1.drop 24).drop 24).drop 24).drop 24).drop 24).drop 24).take 24).all (fun c => isCode c || c.before args0 about1) = true := by decide +kernel
set_option maxRecDepth 65536 in
theorem w_t8 : (((((((words1.drop 24).drop 24).drop 24).drop 24).drop 24).drop 24).drop 24).all (fun c => isCode c || c.before args0 about1) = true := by decide +kernel
theorem w_tables : (allAtoms (Jvm.Cond.code x code maxLocals ret :: tables_1)).before args0 about1 = true := by
  rw [allAtoms_all]
  show words1.all (fun c => c.before args0 about1) = true
  refine all_split ?_ w_codes
  rw [← List.take_append_drop 24 words1, List.all_append, w_t1, ← List.take_append_drop 24 (words1.drop 24), List.all_append, w_t2, ← List.take_append_drop 24 ((words1.drop 24).drop 24), List.all_append, w_t3, ← List.take_append_drop 24 (((words1.drop 24).drop 24).drop 24), List.all_append, w_t4, ← List.take_append_drop 24 ((((words1.drop 24).drop 24).drop 24).drop 24), List.all_append, w_t5, ← List.take_append_drop 24 (((((words1.drop 24).drop 24).drop 24).drop 24).drop 24), List.all_append, w_t6, ← List.take_append_drop 24 ((((((words1.drop 24).drop 24).drop 24).drop 24).drop 24).drop 24), List.all_append, w_t7, w_t8]
  rfl
set_option maxRecDepth 65536 in
theorem w_rest : rest_1_c.before args0 about1 = true := by decide +kernel
set_option maxRecDepth 65536 in
theorem w_case : (Jvm.Cond.and given_1 narrow_1).before args0 about1 = true := by decide +kernel
theorem w_applies : (headSpec (Jvm.Cond.code x code maxLocals ret :: tables_1) room_1).applies x e0.platform about1 = true :=
  (Spec.applies_iff w_frames).mpr ⟨w_running, w_runnable, w_alone, w_named, w_hears, w_ripe, w_room, w_tables⟩
theorem atStart : AtStart classFile x code maxLocals ret World_1 tables_1 room_1 Calls_1 rest_1 Pre_1 launch0 p0 e0 about1 theMethod args0 below0 :=
  ⟨lists_1, trivial, launch0.admits_env _ _ _, launch0.least_env, fairChoices_fair.cas, fairChoices_fair.clock, w_frames, w_args, w_heap, w_applies, trivial, w_rest, w_case⟩
end start1
theorem witness_1 : WitnessClaimed_1 := ⟨start1.p0, start1.e0, start1.about1, start1.theMethod, start1.args0, start1.below0, start1.atStart⟩
end Jvm.Pilot.@@N@@
