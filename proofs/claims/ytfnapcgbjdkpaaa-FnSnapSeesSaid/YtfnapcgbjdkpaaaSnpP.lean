import Derived.Test.YtfnapcgbjdkpaaaVMore
import Derived.Lib.Varint
import Derived.Lib.EndianBits
namespace Go.Proofs.Ytfnapcgbjdkpaaa
set_option linter.unusedVariables false
set_option linter.unusedSimpArgs false
set_option linter.unnecessarySimpa false
open Go Go.Lib

/-- Bytes, as they lie in memory. -/
def by8 (l : List UInt8) : List Value := l.map fun b => .int .u8 b.toNat
theorem by8_len (l : List UInt8) : (by8 l).length = l.length := by simp [by8]
theorem by8_app (l m : List UInt8) : by8 (l ++ m) = by8 l ++ by8 m := by simp [by8]
theorem by8_cons (b : UInt8) (l : List UInt8) : by8 (b :: l) = .int .u8 b.toNat :: by8 l := rfl
theorem by8_nil : by8 [] = [] := rfl
theorem by8_get {l : List UInt8} {i : Nat} (h : i < l.length) : (by8 l)[i]? = some (.int .u8 l[i].toNat) := by simp [by8, h]
theorem by8_one (l : List UInt8) : ∀ u ∈ by8 l, u.oneCell' = true := by
  intro u hu
  simp only [by8, List.mem_map] at hu
  obtain ⟨b, _, rfl⟩ := hu
  rfl

/-- The sum, bit by bit. -/
def cbit (n : Nat) : Nat := if n % 2 = 1 then (n / 2) ^^^ 2197175160 else n / 2
def cbits : Nat → Nat → Nat
  | 0, n => n
  | k + 1, n => cbit (cbits k n)
def cbyte (n : Nat) (b : UInt8) : Nat := cbits 8 (n ^^^ b.toNat)
def csum (n : Nat) (l : List UInt8) : Nat := l.foldl cbyte n
def crc (l : List UInt8) : Nat := 4294967295 - csum 4294967295 l

theorem cbit_lt {n : Nat} (h : n < 4294967296) : cbit n < 4294967296 := by
  unfold cbit
  split
  · exact Nat.xor_lt_two_pow (n := 32) (by omega) (by decide)
  · omega
theorem cbits_lt : ∀ (k : Nat) {n : Nat}, n < 4294967296 → cbits k n < 4294967296
  | 0, _, h => h
  | k + 1, _, h => cbit_lt (cbits_lt k h)
theorem xor8_lt {n : Nat} (h : n < 4294967296) (b : UInt8) : n ^^^ b.toNat < 4294967296 :=
  Nat.xor_lt_two_pow (n := 32) h (by have := b.toNat_lt; omega)
theorem cbyte_lt {n : Nat} (h : n < 4294967296) (b : UInt8) : cbyte n b < 4294967296 := cbits_lt 8 (xor8_lt h b)
theorem csum_lt : ∀ (l : List UInt8) {n : Nat}, n < 4294967296 → csum n l < 4294967296
  | [], _, h => h
  | b :: l, _, h => csum_lt l (cbyte_lt h b)
theorem csum_snoc (n : Nat) (l : List UInt8) (b : UInt8) : csum n (l ++ [b]) = cbyte (csum n l) b := by simp [csum]
theorem csum_app (n : Nat) (l m : List UInt8) : csum n (l ++ m) = csum (csum n l) m := by simp [csum]
theorem crc_lt (l : List UInt8) : crc l < 4294967296 := by unfold crc; omega
theorem bit31 {x : Nat} (h : x < 2147483648) : (x ^^^ 2197175160).testBit 31 = true ∧ x.testBit 31 = false := by
  have h1 : x.testBit 31 = false := Nat.testBit_lt_two_pow h
  refine ⟨?_, h1⟩
  rw [Nat.testBit_xor, h1]
  decide
theorem xor_cancel {a b c : Nat} (h : a ^^^ c = b ^^^ c) : a = b := by
  have : (a ^^^ c) ^^^ c = (b ^^^ c) ^^^ c := by rw [h]
  simpa [Nat.xor_assoc] using this
theorem cbit_inj {n m : Nat} (hn : n < 4294967296) (hm : m < 4294967296) (h : cbit n = cbit m) : n = m := by
  have b1 := bit31 (x := n / 2) (by omega)
  have b2 := bit31 (x := m / 2) (by omega)
  unfold cbit at h
  split at h <;> split at h
  · have := xor_cancel h
    omega
  · rw [h, b2.2] at b1
    exact absurd b1.1 (by simp)
  · rw [← h, b1.2] at b2
    exact absurd b2.1 (by simp)
  · omega
theorem cbits_inj : ∀ (k : Nat) {n m : Nat}, n < 4294967296 → m < 4294967296 → cbits k n = cbits k m → n = m
  | 0, _, _, _, _, h => h
  | k + 1, _, _, hn, hm, h => cbits_inj k hn hm (cbit_inj (cbits_lt k hn) (cbits_lt k hm) h)
theorem csum_inj : ∀ (l : List UInt8) {n m : Nat}, n < 4294967296 → m < 4294967296 → csum n l = csum m l → n = m
  | [], _, _, _, _, h => h
  | b :: l, _, _, hn, hm, h => xor_cancel (cbits_inj 8 (xor8_lt hn b) (xor8_lt hm b) (csum_inj l (cbyte_lt hn b) (cbyte_lt hm b) h))
/-- ONE BYTE THAT IS ANOTHER ONE TURNS THE SUM. -/
theorem crc_flip (l m : List UInt8) (b c : UInt8) (h : crc (l ++ b :: m) = crc (l ++ c :: m)) : b = c := by
  unfold crc at h
  have h1 := csum_lt (l ++ b :: m) (n := 4294967295) (by decide)
  have h2 := csum_lt (l ++ c :: m) (n := 4294967295) (by decide)
  have h3 : csum 4294967295 (l ++ b :: m) = csum 4294967295 (l ++ c :: m) := by omega
  rw [csum_app, csum_app] at h3
  have hl := csum_lt l (n := 4294967295) (by decide)
  have h4 := csum_inj m (cbyte_lt hl b) (cbyte_lt hl c) h3
  have h5 := cbits_inj 8 (xor8_lt hl b) (xor8_lt hl c) h4
  rw [Nat.xor_comm, Nat.xor_comm _ c.toNat] at h5
  have := xor_cancel h5
  exact UInt8.toNat_inj.1 this
theorem crc_set (l : List UInt8) (i : Nat) (hi : i < l.length) (b : UInt8) (hb : b ≠ l[i]) : crc (l.set i b) ≠ crc l := by
  intro h
  have e1 : l = l.take i ++ l[i] :: l.drop (i + 1) := by simp
  have e2 : l.set i b = l.take i ++ b :: l.drop (i + 1) := by rw [List.set_eq_take_append_cons_drop, if_pos hi]
  rw [e2] at h
  conv at h => rhs; rw [e1]
  exact hb (crc_flip _ _ _ _ h)
end Go.Proofs.Ytfnapcgbjdkpaaa
