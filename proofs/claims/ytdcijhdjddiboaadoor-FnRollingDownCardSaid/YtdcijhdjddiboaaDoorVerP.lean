import Derived.Test.YtdcijhdjddiboaaDoorVerA
import Derived.Test.YtdcijhdjddiboaaDoorShelf
namespace Go.Proofs.YtdcijhdjddiboaaDoor
set_option linter.unusedVariables false
set_option linter.unusedSimpArgs false
set_option linter.unnecessarySimpa false
open Go.RowKit Go.V

/-- The digits of a number below 10000. -/
def dec (n : Nat) : List UInt8 :=
  if n < 10 then [UInt8.ofNat (48 + n)] else if n < 100 then [UInt8.ofNat (48 + n / 10), UInt8.ofNat (48 + n % 10)]
  else if n < 1000 then [UInt8.ofNat (48 + n / 100), UInt8.ofNat (48 + n / 10 % 10), UInt8.ofNat (48 + n % 10)]
  else [UInt8.ofNat (48 + n / 1000), UInt8.ofNat (48 + n / 100 % 10), UInt8.ofNat (48 + n / 10 % 10), UInt8.ofNat (48 + n % 10)]
theorem dch (d : Nat) (h : d ≤ 9) : (UInt8.ofNat (48 + d)).toNat = 48 + d := by
  simp
  omega
theorem dec_eq (n : Nat) (h : n < 10000) : Lib.decDigits n = dec n := by
  unfold dec
  by_cases h1 : n < 10
  · rw [if_pos h1, Lib.decDigits_one h1]
  rw [if_neg h1]
  by_cases h2 : n < 100
  · rw [if_pos h2, Lib.decDigits_two h1 h2]
  rw [if_neg h2, Lib.decDigits, dif_neg h1]
  by_cases h3 : n < 1000
  · rw [if_pos h3, Lib.decDigits_two (by omega) (by omega), Nat.div_div_eq_div_mul]
    rfl
  · rw [if_neg h3, Lib.decDigits, dif_neg (by omega), Lib.decDigits_two (by omega) (by omega)]
    simp [Nat.div_div_eq_div_mul]
theorem dec_dig (n : Nat) (h : n < 10000) : ∀ c ∈ dec n, 48 ≤ c.toNat ∧ c.toNat ≤ 57 := by
  unfold dec
  intro c hc
  split at hc
  · simp only [List.mem_cons, List.not_mem_nil, or_false] at hc
    subst hc
    rw [dch _ (by omega)]
    omega
  · split at hc
    · simp only [List.mem_cons, List.not_mem_nil, or_false] at hc
      rcases hc with rfl | rfl <;> rw [dch _ (by omega)] <;> omega
    · split at hc
      · simp only [List.mem_cons, List.not_mem_nil, or_false] at hc
        rcases hc with rfl | rfl | rfl <;> rw [dch _ (by omega)] <;> omega
      · simp only [List.mem_cons, List.not_mem_nil, or_false] at hc
        rcases hc with rfl | rfl | rfl | rfl <;> rw [dch _ (by omega)] <;> omega
theorem dec_len (n : Nat) : 1 ≤ (dec n).length ∧ (dec n).length ≤ 4 := by
  unfold dec
  split
  · simp
  · split
    · simp
    · split <;> simp
theorem pm_cons (acc d : Nat) (r : List UInt8) (hd : d ≤ 9) (ha : acc ≤ 100000) : Lib.parseUintM (2 ^ 64 - 1) acc (UInt8.ofNat (48 + d) :: r) = Lib.parseUintM (2 ^ 64 - 1) (acc * 10 + d) r := by
  rw [Lib.parseUintM, dch d hd, if_pos (by omega), if_neg (by omega), if_neg (by omega), show 48 + d - 48 = d by omega]
theorem pm_dec (n : Nat) (h : n < 10000) : Lib.parseUintM (2 ^ 64 - 1) 0 (dec n) = .ok n := by
  unfold dec
  split
  · rw [pm_cons _ _ _ (by omega) (by omega), Lib.parseUintM]
    congr 1
    omega
  · split
    · rw [pm_cons _ _ _ (by omega) (by omega), pm_cons _ _ _ (by omega) (by omega), Lib.parseUintM]
      congr 1
      omega
    · split
      · rw [pm_cons _ _ _ (by omega) (by omega), pm_cons _ _ _ (by omega) (by omega), pm_cons _ _ _ (by omega) (by omega), Lib.parseUintM]
        congr 1
        omega
      · rw [pm_cons _ _ _ (by omega) (by omega), pm_cons _ _ _ (by omega) (by omega), pm_cons _ _ _ (by omega) (by omega), pm_cons _ _ _ (by omega) (by omega), Lib.parseUintM]
        congr 1
        omega
theorem parse_dec (n : Nat) (h : n < 10000) : Lib.parseIntB 64 (dec n) = .ok (n : Int) := by
  obtain ⟨c, r, e⟩ : ∃ c r, dec n = c :: r := List.exists_cons_of_length_pos (by have := (dec_len n).1; omega)
  have hc := dec_dig n h c (by rw [e]; simp)
  have hp := pm_dec n h
  rw [e] at hp ⊢
  rw [Lib.parseIntB_plain 64 c r (by omega) (by omega), Lib.parseUintB, if_neg (by simp), hp]
  show (if 2 ^ (64 - 1) ≤ n then Lib.NumEnd.range else Lib.NumEnd.ok (n : Int)) = _
  rw [if_neg (by simp only [Nat.reduceSub, Nat.reducePow]; omega)]

/-- A version's text. -/
def vtext (x : Vr) : List UInt8 := dec x.a.toNat ++ 46 :: (dec x.b.toNat ++ 46 :: dec x.c.toNat)
def VText (s : ByteArray) (x : Vr) : Prop := x.Ok ∧ s.data.toList = vtext x
theorem itoa_dec (n : Int) (h : 0 ≤ n ∧ n ≤ 9999) : Lib.itoa n = dec n.toNat := by
  unfold Lib.itoa
  rw [if_neg (by omega), dec_eq _ (by omega)]
end Go.Proofs.YtdcijhdjddiboaaDoor
