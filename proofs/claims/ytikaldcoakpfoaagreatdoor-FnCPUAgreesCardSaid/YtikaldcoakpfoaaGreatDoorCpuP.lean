import Derived.Test.YtikaldcoakpfoaaGreatDoorVMore
import Derived.Lib.AtoiAll
namespace Go.Proofs.YtikaldcoakpfoaaGreatDoor
set_option linter.unusedVariables false
set_option linter.unusedSimpArgs false
set_option linter.unnecessarySimpa false
open Go Go.Lib

/-! Lists of processors, in plain terms. -/
/-- A text's pieces between some byte. -/
def splitAt' (c : UInt8) : List UInt8 → List (List UInt8)
  | [] => [[]]
  | x :: r => if x = c then [] :: splitAt' c r else
    match splitAt' c r with
    | p :: q => (x :: p) :: q
    | [] => [[x]]
/-- What lies ahead of the first dash, and what behind it. -/
def pair : List UInt8 → Option (List UInt8 × List UInt8)
  | [] => none
  | x :: r => if x = 45 then some ([], r) else (pair r).map fun p => (x :: p.1, p.2)
theorem pair_no : ∀ (l a b : List UInt8), pair l = some (a, b) → (45 : UInt8) ∉ a
  | [], a, b, h => by cases h
  | x :: r, a, b, h => by
    unfold pair at h
    split at h
    · injection h with h
      injection h with h1 h2
      subst h1
      simp
    · rename_i hx
      obtain ⟨p, hp, hq⟩ := Option.map_eq_some_iff.1 h
      injection hq with h1 h2
      subst h1
      have := pair_no r p.1 p.2 hp
      simp only [List.mem_cons, not_or]
      exact ⟨fun e => hx e.symm, this⟩
theorem pair_none : ∀ (l : List UInt8), pair l = none → (45 : UInt8) ∉ l
  | [], _ => by simp
  | x :: r, h => by
    unfold pair at h
    split at h
    · cases h
    · rename_i hx
      have := pair_none r (Option.map_eq_none_iff.1 h)
      simp only [List.mem_cons, not_or]
      exact ⟨fun e => hx e.symm, this⟩
/-- The reference's reading of figures: no further than to 2^41. -/
def numFold (n : Nat) : List UInt8 → Option Nat
  | [] => some n
  | c :: r => if 48 ≤ c.toNat ∧ c.toNat ≤ 57 then numFold (min (n * 10 + (c.toNat - 48)) 2199023255552) r else none
def body (l : List UInt8) : List UInt8 := match l with
  | [] => []
  | c :: r => if c.toNat = 43 ∨ c.toNat = 45 then r else l
def neg (l : List UInt8) : Bool := match l with
  | [] => false
  | c :: _ => c.toNat == 45
/-- The reference's number: it, and whether there is one (0 where there is none). -/
def numv (l : List UInt8) : Int × Bool := match numFold 0 (body l) with
  | none => (0, false)
  | some n => if body l = [] then (0, false) else (if neg l then -(n : Int) else n, true)
theorem sat : ∀ (l : List UInt8) (v : Nat), numFold 2199023255552 l = some v → v = 2199023255552
  | [], v, h => by simpa [numFold] using h.symm
  | c :: r, v, h => by
    unfold numFold at h
    split at h
    · rw [Nat.min_eq_right (by omega)] at h
      exact sat r v h
    · cases h
theorem fold_ok : ∀ (l : List UInt8) (n v : Nat), numFold n l = some v → v < 2199023255552 → parseUint10 n l = .ok v
  | [], n, v, h, _ => by simp only [numFold, Option.some.injEq] at h; rw [h]; rfl
  | c :: r, n, v, h, hv => by
    unfold numFold at h
    split at h
    · rename_i hd
      by_cases hs : n * 10 + (c.toNat - 48) < 2199023255552
      · rw [Nat.min_eq_left (by omega)] at h
        have := fold_ok r _ v h hv
        unfold parseUint10
        rw [if_pos hd, if_neg (by omega), if_neg (by omega)]
        exact this
      · rw [Nat.min_eq_right (by omega)] at h
        have := sat r v h
        omega
    · cases h
theorem fold_no : ∀ (l : List UInt8) (n m u : Nat), numFold n l = none → parseUint10 m l ≠ .ok u
  | [], _, _, _, h => by cases h
  | c :: r, n, m, u, h => by
    unfold numFold at h
    unfold parseUint10
    split at h
    · rename_i hd
      rw [if_pos hd]
      split
      · simp
      · split
        · simp
        · exact fold_no r _ _ u h
    · rename_i hd
      rw [if_neg hd]
      simp
theorem fold_big : ∀ (l : List UInt8) (n m u v : Nat), n ≤ m → numFold n l = some v → parseUint10 m l = .ok u → v ≤ u
  | [], n, m, u, v, hnm, h, k => by
    simp only [numFold, Option.some.injEq] at h
    simp only [parseUint10] at k
    injection k with k
    omega
  | c :: r, n, m, u, v, hnm, h, k => by
    unfold numFold at h
    unfold parseUint10 at k
    split at h
    · rename_i hd
      rw [if_pos hd] at k
      split at k
      · cases k
      · split at k
        · cases k
        · refine fold_big r _ _ u v ?_ h k
          have := Nat.min_le_left (n * 10 + (c.toNat - 48)) 2199023255552
          omega
    · cases h
theorem num_no {l : List UInt8} {v : Int} (h : numv l = (v, false)) (u : Int) : atoiAll l ≠ .ok u := by
  unfold numv at h
  cases l with
  | nil => simp [atoiAll]
  | cons c r =>
    have hb : body (c :: r) = if c.toNat = 43 ∨ c.toNat = 45 then r else c :: r := rfl
    unfold atoiAll
    simp only [← hb]
    generalize body (c :: r) = b at *
    unfold parseMag
    by_cases hb0 : b = []
    · rw [if_pos hb0]
      simp
    · rw [if_neg hb0]
      cases hf : numFold 0 b with
      | none =>
        cases hp : parseUint10 0 b with
        | ok w => exact absurd hp (fold_no b 0 0 w hf)
        | «syntax» => simp
        | range => simp
      | some n =>
        rw [hf] at h
        simp [hb0] at h
theorem num_yes {l : List UInt8} {v : Int} (h : numv l = (v, true)) : (∀ u, atoiAll l = .ok u → (neg l = false → 0 ≤ v ∧ v ≤ u) ∧ (neg l = true → v ≤ 0 ∧ u ≤ v)) ∧ (-2199023255552 < v → v < 2199023255552 → atoiAll l = .ok v) := by
  unfold numv at h
  cases l with
  | nil => simp [body, numFold] at h
  | cons c r =>
    have hb : body (c :: r) = if c.toNat = 43 ∨ c.toNat = 45 then r else c :: r := rfl
    have hn : neg (c :: r) = (c.toNat == 45) := rfl
    unfold atoiAll
    simp only [← hb]
    generalize body (c :: r) = b at *
    cases hf : numFold 0 b with
    | none => rw [hf] at h; simp at h
    | some n =>
      rw [hf] at h
      by_cases hb0 : b = []
      · simp [hb0] at h
      · simp only [if_neg hb0, Prod.mk.injEq, and_true] at h
        unfold parseMag
        rw [if_neg hb0]
        refine ⟨?_, ?_⟩
        · intro u hu
          cases hp : parseUint10 0 b with
          | ok w =>
            have hle := fold_big b 0 0 w n (Nat.le_refl _) hf hp
            rw [hp] at hu
            dsimp only at hu
            split at hu
            · cases hu
            · split at hu
              · cases hu
              · injection hu with hu
                by_cases h45 : c.toNat = 45
                · have e : neg (c :: r) = true := by rw [hn]; simp [h45]
                  rw [if_pos e] at h
                  rw [if_pos h45] at hu
                  exact ⟨fun e2 => (by rw [e] at e2; cases e2), fun _ => ⟨by omega, by omega⟩⟩
                · have e : neg (c :: r) = false := by rw [hn]; simp [h45]
                  rw [e] at h
                  rw [if_neg h45] at hu
                  have h' : (n : Int) = v := by simpa using h
                  exact ⟨fun _ => ⟨by omega, by omega⟩, fun e2 => (by rw [e] at e2; cases e2)⟩
          | «syntax» => rw [hp] at hu; simp at hu
          | range => rw [hp] at hu; simp at hu
        · intro h1 h2
          have hn2 : n < 2199023255552 := by
            by_cases e : neg (c :: r) = true
            · rw [if_pos e] at h; omega
            · rw [if_neg e] at h; omega
          rw [fold_ok b 0 n hf hn2]
          dsimp only
          rw [if_neg (by omega), if_neg (by omega)]
          by_cases h45 : c.toNat = 45
          · have e : neg (c :: r) = true := by rw [hn]; simp [h45]
            rw [if_pos e] at h
            rw [if_pos h45, h]
          · have e : neg (c :: r) = false := by rw [hn]; simp [h45]
            rw [e] at h
            have h' : (n : Int) = v := by simpa using h
            rw [if_neg h45, h']
def atoi? (l : List UInt8) : Option Int := match atoiAll l with
  | .ok v => some v
  | _ => none
theorem atoi_some {l : List UInt8} {v : Int} (h : atoi? l = some v) : atoiAll l = .ok v := by
  unfold atoi? at h
  split at h
  · rename_i u hu
    injection h with h
    rw [hu, h]
  · cases h
theorem atoi_of {l : List UInt8} {v : Int} (h : atoiAll l = .ok v) : atoi? l = some v := by
  unfold atoi?
  rw [h]
theorem atoi_none {l : List UInt8} (h : ∀ u, atoiAll l ≠ .ok u) : atoi? l = none := by
  unfold atoi?
  split
  · rename_i u hu
    exact absurd hu (h u)
  · rfl
/-- A piece, as the reference reads it: from, till, and whether it is one. -/
def cpuRange (p : List UInt8) : Int × Int × Bool := match pair p with
  | some (x, y) => ((numv x).1, (numv y).1, (numv x).2 && (numv y).2 && decide ((numv x).1 ≤ (numv y).1))
  | none => ((numv p).1, (numv p).1, (numv p).2)
/-- .. and as the code does. -/
def ipiece (p : List UInt8) : Option (Int × Int) := match pair p with
  | some (x, y) => (atoi? x).bind fun a => (atoi? y).bind fun b => if a ≤ b then some (a, b) else none
  | none => (atoi? p).map fun v => (v, v)
def wideP (p : List UInt8) : Bool := match pair p with
  | some (x, y) => match atoi? x, atoi? y with
    | some a, some b => decide (1152921504606846976 < b) || decide (a < -1152921504606846976) || decide (100000 < RowKit.wrap64 (b - a))
    | _, _ => false
  | none => false
def plainP (p : List UInt8) : Bool := !(decide (1099511627776 < (cpuRange p).2.1) || decide (100000 ≤ (cpuRange p).2.1 - (cpuRange p).1))
theorem neg_of {l : List UInt8} (h : (45 : UInt8) ∉ l) : neg l = false := by
  cases l with
  | nil => rfl
  | cons c r =>
    have : c ≠ 45 := fun e => h (by rw [e]; simp)
    show (c.toNat == 45) = false
    have h2 : c.toNat ≠ 45 := fun e => this (UInt8.toNat_inj.1 e)
    simpa using h2
theorem num_pos {l : List UInt8} {v : Int} (h : numv l = (v, true)) (hn : neg l = false) : 0 ≤ v := by
  unfold numv at h
  split at h
  · simp at h
  · split at h
    · simp at h
    · rw [hn] at h
      simp at h
      omega
theorem num_range {l : List UInt8} {v : Int} {q : Bool} (h : numv l = (v, q)) : -2199023255552 ≤ v ∧ v ≤ 2199023255552 := by
  have hb : ∀ (l : List UInt8) (n m : Nat), n ≤ 2199023255552 → numFold n l = some m → m ≤ 2199023255552 := by
    intro l
    induction l with
    | nil => intro n m hn h; simp only [numFold, Option.some.injEq] at h; omega
    | cons c r ih =>
      intro n m hn h
      unfold numFold at h
      split at h
      · exact ih _ _ (Nat.min_le_right _ _) h
      · cases h
  unfold numv at h
  split at h
  · simp at h; omega
  · rename_i n hn
    have := hb _ _ _ (by decide) hn
    split at h
    · simp at h; omega
    · split at h
      · simp at h; omega
      · simp at h; omega
theorem cr_some {p x y : List UInt8} {a b : Int} {qa qb : Bool} (hq : pair p = some (x, y)) (ha : numv x = (a, qa)) (hb : numv y = (b, qb)) : cpuRange p = (a, b, qa && qb && decide (a ≤ b)) := by
  unfold cpuRange
  rw [hq]
  simp only [ha, hb]
theorem cr_none {p : List UInt8} {v : Int} {q : Bool} (hq : pair p = none) (hv : numv p = (v, q)) : cpuRange p = (v, v, q) := by
  unfold cpuRange
  rw [hq]
  simp only [hv]
theorem plain_iff {p : List UInt8} {a b : Int} {q : Bool} (h : cpuRange p = (a, b, q)) (hp : plainP p = true) : b ≤ 1099511627776 ∧ b - a < 100000 := by
  unfold plainP at hp
  rw [h] at hp
  simp at hp
  omega
theorem ip_some {p x y : List UInt8} (hq : pair p = some (x, y)) : ipiece p = (atoi? x).bind fun a => (atoi? y).bind fun b => if a ≤ b then some (a, b) else none := by
  unfold ipiece
  rw [hq]
theorem ip_none {p : List UInt8} (hq : pair p = none) : ipiece p = (atoi? p).map fun v => (v, v) := by
  unfold ipiece
  rw [hq]
theorem piece_ok {p : List UInt8} {a b : Int} (h : cpuRange p = (a, b, true)) (hp : plainP p = true) : wideP p = false ∧ ipiece p = some (a, b) ∧ 0 ≤ a ∧ a ≤ b ∧ b ≤ 1099511627776 ∧ b - a < 100000 := by
  obtain ⟨hb1, hb2⟩ := plain_iff h hp
  cases hq : pair p with
  | none =>
    rcases hv : numv p with ⟨v, q⟩
    rw [cr_none hq hv] at h
    simp only [Prod.mk.injEq] at h
    obtain ⟨rfl, rfl, rfl⟩ := h
    have h0 := num_pos hv (neg_of (pair_none p hq))
    have := (num_yes hv).2 (by omega) (by omega)
    rw [ip_none hq, atoi_of this]
    refine ⟨?_, rfl, h0, Int.le_refl _, hb1, hb2⟩
    unfold wideP
    rw [hq]
  | some xy =>
    obtain ⟨x, y⟩ := xy
    rcases ha : numv x with ⟨a', qa⟩
    rcases hb : numv y with ⟨b', qb⟩
    rw [cr_some hq ha hb] at h
    simp only [Prod.mk.injEq, Bool.and_eq_true, decide_eq_true_eq] at h
    obtain ⟨rfl, rfl, ⟨rfl, rfl⟩, hab⟩ := h
    have h0 := num_pos ha (neg_of (pair_no p x y hq))
    have e1 := (num_yes ha).2 (by omega) (by omega)
    have e2 := (num_yes hb).2 (by omega) (by omega)
    rw [ip_some hq, atoi_of e1, atoi_of e2]
    refine ⟨?_, by simp [hab], h0, hab, hb1, hb2⟩
    unfold wideP
    rw [hq]
    simp only [atoi_of e1, atoi_of e2]
    simp [RowKit.wrap64]
    omega
theorem piece_bad {p : List UInt8} {a b : Int} (h : cpuRange p = (a, b, false)) (hp : plainP p = true) : ipiece p = none := by
  obtain ⟨hb1, hb2⟩ := plain_iff h hp
  cases hq : pair p with
  | none =>
    rcases hv : numv p with ⟨v, q⟩
    rw [cr_none hq hv] at h
    simp only [Prod.mk.injEq] at h
    obtain ⟨rfl, rfl, rfl⟩ := h
    rw [ip_none hq, atoi_none (num_no hv)]
    rfl
  | some xy =>
    obtain ⟨x, y⟩ := xy
    rcases ha : numv x with ⟨a', qa⟩
    rcases hb : numv y with ⟨b', qb⟩
    rw [cr_some hq ha hb] at h
    simp only [Prod.mk.injEq] at h
    obtain ⟨rfl, rfl, hk⟩ := h
    rw [ip_some hq]
    cases qa with
    | false => rw [atoi_none (num_no ha)]; rfl
    | true =>
      cases qb with
      | false => rw [atoi_none (num_no hb)]; cases atoi? x <;> rfl
      | true =>
        have hab : b' < a' := by simpa using hk
        have h0 := num_pos ha (neg_of (pair_no p x y hq))
        have hna := neg_of (pair_no p x y hq)
        cases h1 : atoi? x with
        | none => rfl
        | some u =>
          cases h2 : atoi? y with
          | none => rfl
          | some v =>
            have e1 := ((num_yes ha).1 u (atoi_some h1)).1 hna
            have hv : v < u := by
              cases hnb : neg y with
              | true =>
                have := ((num_yes hb).1 v (atoi_some h2)).2 hnb
                omega
              | false =>
                have hb0 := num_pos hb hnb
                have e2 := (num_yes hb).2 (by omega) (by omega)
                have := atoi_some h2
                rw [e2] at this
                injection this with this
                omega
            simp only [Option.bind_some]
            rw [if_neg (by omega)]
end Go.Proofs.YtikaldcoakpfoaaGreatDoor
