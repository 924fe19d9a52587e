import Derived.Test.YtikaldcoakpfoaaGreatDoorCpuL
import Derived.Lib.ItoaMem
namespace Go.Proofs.YtikaldcoakpfoaaGreatDoor
set_option linter.unusedVariables false
set_option linter.unusedSimpArgs false
set_option linter.unnecessarySimpa false
open Go Go.RowKit Go.V Go.Lib

theorem dd_rec {u : Nat} (h : ¬u < 10) : decDigits u = decDigits (u / 10) ++ [UInt8.ofNat (48 + u % 10)] := by rw [decDigits, dif_neg h]
theorem dd_one {u : Nat} (h : u < 10) : decDigits u = [UInt8.ofNat (48 + u)] := by rw [decDigits, dif_pos h]
theorem digit_nat {d : Nat} (h : d < 10) : (UInt8.ofNat (48 + d)).toNat = 48 + d := by
  rw [UInt8.toNat_ofNat']
  omega
theorem dd_dig (u : Nat) : ∀ c ∈ decDigits u, 48 ≤ c.toNat ∧ c.toNat ≤ 57 := by
  induction u using Nat.strongRecOn with
  | ind u ih =>
    intro c hc
    by_cases h : u < 10
    · rw [dd_one h, List.mem_singleton] at hc
      subst hc
      rw [digit_nat h]
      omega
    · rw [dd_rec h, List.mem_append, List.mem_singleton] at hc
      rcases hc with hc | rfl
      · exact ih (u / 10) (by omega) c hc
      · rw [digit_nat (by omega)]
        omega
theorem dd_ne (u : Nat) : decDigits u ≠ [] := by
  by_cases h : u < 10
  · rw [dd_one h]; simp
  · rw [dd_rec h]; simp
theorem pu_app : ∀ (l r : List UInt8) (acc v : Nat), parseUint10 acc l = .ok v → parseUint10 acc (l ++ r) = parseUint10 v r
  | [], r, acc, v, h => by
    simp only [parseUint10] at h
    injection h with h
    subst h
    rfl
  | c :: l, r, acc, v, h => by
    rw [List.cons_append]
    unfold parseUint10 at h
    conv => lhs; unfold parseUint10
    split at h
    · rename_i hd
      rw [if_pos hd]
      split at h
      · cases h
      · rename_i h1
        split at h
        · cases h
        · rename_i h2
          rw [if_neg h1, if_neg h2]
          exact pu_app l r _ v h
    · cases h
theorem pu_one {v d : Nat} (hd : d < 10) (hv : v * 10 + d < 4611686018427387904) : parseUint10 v [UInt8.ofNat (48 + d)] = .ok (v * 10 + d) := by
  unfold parseUint10
  rw [digit_nat hd, if_pos (by omega), if_neg (by omega), if_neg (by omega)]
  show NumEnd.ok _ = _
  congr 1
  omega
theorem pu_dd (u : Nat) (hu : u < 4611686018427387904) : parseUint10 0 (decDigits u) = .ok u := by
  induction u using Nat.strongRecOn with
  | ind u ih =>
    by_cases h : u < 10
    · rw [dd_one h]
      have := pu_one (v := 0) (d := u) h (by omega)
      simpa using this
    · rw [dd_rec h, pu_app _ _ _ _ (ih (u / 10) (by omega) (by omega))]
      have := pu_one (v := u / 10) (d := u % 10) (by omega) (by omega)
      rw [this]
      congr 1
      omega
theorem dd_len : ∀ (k u : Nat), u < 10 ^ k → 1 ≤ k → (decDigits u).length ≤ k
  | 0, _, _, h => by omega
  | k + 1, u, hu, _ => by
    by_cases h : u < 10
    · rw [dd_one h]; simp
    · rw [dd_rec h, List.length_append]
      have hk : 1 ≤ k := by
        rcases Nat.eq_zero_or_pos k with rfl | hk
        · simp at hu; omega
        · exact hk
      have : u / 10 < 10 ^ k := by
        rw [Nat.pow_succ] at hu
        omega
      have := dd_len k (u / 10) this hk
      simp
      omega
/-- A number in figures. -/
def itx (n : Int) : List UInt8 := itoa n
theorem itx_dd {n : Int} (h : 0 ≤ n) : itx n = decDigits n.toNat := by unfold itx itoa; rw [if_neg (by omega)]
theorem itx_dig {n : Int} (h : 0 ≤ n) : ∀ c ∈ itx n, 48 ≤ c.toNat ∧ c.toNat ≤ 57 := by rw [itx_dd h]; exact dd_dig _
theorem itx_ne {n : Int} (h : 0 ≤ n) : itx n ≠ [] := by rw [itx_dd h]; exact dd_ne _
theorem itx_len {n : Int} (h : 0 ≤ n) (h' : n ≤ 1099511627776) : (itx n).length ≤ 13 := by
  rw [itx_dd h]
  exact dd_len 13 _ (by omega) (by omega)
theorem itx_atoi {n : Int} (h : 0 ≤ n) (h' : n ≤ 1099511627776) : atoi? (itx n) = some n := by
  apply atoi_of
  have hd := itx_dig h
  have hp := pu_dd n.toNat (by omega)
  rw [← itx_dd h] at hp
  have hne := itx_ne h
  cases hl : itx n with
  | nil => exact absurd hl hne
  | cons c r =>
    rw [hl] at hd hp
    have hc := hd c (by simp)
    have hm : parseMag (c :: r) = .ok n.toNat := by unfold parseMag; rw [if_neg (by simp)]; exact hp
    unfold atoiAll
    simp only
    rw [if_neg (show ¬(c.toNat = 43 ∨ c.toNat = 45) by omega), hm]
    simp only
    rw [if_neg (by omega), if_neg (by omega), if_neg (by omega)]
    congr 1
    omega
/-- A run of neighbours, in figures. -/
def piece (p : Int × Int) : List UInt8 := if p.1 = p.2 then itx p.1 else itx p.1 ++ 45 :: itx p.2
def joinc : List (List UInt8) → List UInt8
  | [] => []
  | [p] => p
  | p :: q :: r => p ++ 44 :: joinc (q :: r)
/-- The runs of neighbours. -/
def runsFrom (s e : Int) : List Int → List (Int × Int)
  | [] => [(s, e)]
  | x :: r => if x = e + 1 then runsFrom s x r else (s, e) :: runsFrom x x r
def runs : List Int → List (Int × Int)
  | [] => []
  | x :: r => runsFrom x x r
/-- What the code writes. -/
def text (l : List Int) : List UInt8 := joinc ((runs l).map piece)
def bodyP (ps : List (List UInt8)) : List UInt8 := ps.flatMap fun p => p ++ [44]
theorem body_join : ∀ (ps : List (List UInt8)), ps ≠ [] → bodyP ps = joinc ps ++ [44]
  | [], h => absurd rfl h
  | [p], _ => by simp [bodyP, joinc]
  | p :: q :: r, _ => by
    have := body_join (q :: r) (by simp)
    unfold bodyP at this ⊢
    rw [List.flatMap_cons, this]
    simp [joinc]
theorem runsFrom_ne (s e : Int) (r : List Int) : runsFrom s e r ≠ [] := by
  induction r generalizing s e with
  | nil => simp [runsFrom]
  | cons x r ih =>
    unfold runsFrom
    split
    · exact ih _ _
    · simp
theorem mem_rng {a b y : Int} : y ∈ rng a b ↔ a ≤ y ∧ y ≤ b := by
  unfold rng
  rw [List.mem_map]
  constructor
  · rintro ⟨i, hi, rfl⟩
    rw [List.mem_range] at hi
    omega
  · rintro ⟨h1, h2⟩
    exact ⟨(y - a).toNat, by rw [List.mem_range]; omega, by omega⟩
def allOf (rs : List (Int × Int)) : List Int := rs.flatMap fun p => rng p.1 p.2
theorem runsFrom_mem : ∀ (r : List Int) (s e : Int), s ≤ e → ∀ y, y ∈ allOf (runsFrom s e r) ↔ (s ≤ y ∧ y ≤ e) ∨ y ∈ r
  | [], s, e, _, y => by simp [runsFrom, allOf, mem_rng]
  | x :: r, s, e, h, y => by
    unfold runsFrom
    split
    · rename_i hx
      rw [runsFrom_mem r s x (by omega), List.mem_cons]
      by_cases hy : y ∈ r <;> simp only [hy, or_true, or_false] <;> omega
    · have := runsFrom_mem r x x (by omega) y
      unfold allOf at this ⊢
      rw [List.flatMap_cons, List.mem_append, this, mem_rng, List.mem_cons]
      by_cases hy : y ∈ r <;> simp only [hy, or_true, or_false] <;> omega
theorem runs_mem (l : List Int) (y : Int) : y ∈ allOf (runs l) ↔ y ∈ l := by
  cases l with
  | nil => simp [runs, allOf]
  | cons x r =>
    unfold runs
    rw [runsFrom_mem r x x (by omega), List.mem_cons]
    by_cases hy : y ∈ r <;> simp only [hy, or_true, or_false] <;> omega
theorem runsFrom_bounds (lo hi : Int) : ∀ (r : List Int) (s e : Int), s ≤ e → lo ≤ s → e ≤ hi → (∀ y ∈ r, lo ≤ y ∧ y ≤ hi) → ∀ p ∈ runsFrom s e r, lo ≤ p.1 ∧ p.1 ≤ p.2 ∧ p.2 ≤ hi ∧ p.2 - p.1 ≤ e - s + r.length
  | [], s, e, h, h1, h2, _, p, hp => by
    simp only [runsFrom, List.mem_singleton] at hp
    subst hp
    simp
    omega
  | x :: r, s, e, h, h1, h2, hr, p, hp => by
    have hx := hr x (by simp)
    unfold runsFrom at hp
    split at hp
    · rename_i hxe
      have := runsFrom_bounds lo hi r s x (by omega) h1 hx.2 (fun y hy => hr y (by simp [hy])) p hp
      simp only [List.length_cons]
      omega
    · rcases List.mem_cons.1 hp with rfl | hp
      · simp only [List.length_cons]
        omega
      · have := runsFrom_bounds lo hi r x x (by omega) hx.1 hx.2 (fun y hy => hr y (by simp [hy])) p hp
        simp only [List.length_cons]
        omega
theorem runs_bounds {lo hi : Int} {l : List Int} (h : ∀ y ∈ l, lo ≤ y ∧ y ≤ hi) : ∀ p ∈ runs l, lo ≤ p.1 ∧ p.1 ≤ p.2 ∧ p.2 ≤ hi ∧ p.2 - p.1 < l.length := by
  intro p hp
  cases l with
  | nil => simp [runs] at hp
  | cons x r =>
    have hx := h x (by simp)
    have := runsFrom_bounds lo hi r x x (by omega) hx.1 hx.2 (fun y hy => h y (by simp [hy])) p hp
    simp only [List.length_cons]
    omega
theorem not_mem_dig {n : Int} (h : 0 ≤ n) {c : UInt8} (hc : c.toNat < 48) : c ∉ itx n := by
  intro hm
  have := itx_dig h c hm
  omega
theorem piece_no44 {p : Int × Int} (h1 : 0 ≤ p.1) (h2 : 0 ≤ p.2) : (44 : UInt8) ∉ piece p := by
  unfold piece
  split
  · exact not_mem_dig h1 (by decide)
  · rw [List.mem_append, List.mem_cons]
    rintro (h | h | h)
    · exact not_mem_dig h1 (by decide) h
    · exact absurd h (by decide)
    · exact not_mem_dig h2 (by decide) h
theorem idx_app {c : UInt8} : ∀ {p : List UInt8} (r : List UInt8), c ∉ p → idx c (p ++ c :: r) = some p.length
  | [], r, _ => by simp [idx]
  | x :: p, r, h => by
    simp only [List.mem_cons, not_or] at h
    rw [List.cons_append]
    unfold idx
    rw [if_neg (fun e => h.1 e.symm), idx_app r h.2]
    simp
theorem idx_not {c : UInt8} {p : List UInt8} (h : c ∉ p) : idx c p = none := idx_none (fun j hj e => h (by rw [← e]; exact List.getElem_mem _))
theorem split_app {p : List UInt8} (r : List UInt8) (h : (44 : UInt8) ∉ p) : splitAt' 44 (p ++ 44 :: r) = p :: splitAt' 44 r := by
  rw [split_some (idx_app r h)]
  congr 1
  · simp
  · congr 1
    rw [List.drop_append]
    simp
theorem split_join : ∀ (ps : List (List UInt8)), ps ≠ [] → (∀ p ∈ ps, (44 : UInt8) ∉ p) → splitAt' 44 (joinc ps) = ps
  | [], h, _ => absurd rfl h
  | [p], _, h => split_none (idx_not (h p (by simp)))
  | p :: q :: r, _, h => by
    show splitAt' 44 (p ++ 44 :: joinc (q :: r)) = _
    rw [split_app _ (h p (by simp)), split_join (q :: r) (by simp) (fun x hx => h x (by simp at hx ⊢; right; exact hx))]
theorem piece_pair {p : Int × Int} (h1 : 0 ≤ p.1) : pair (piece p) = if p.1 = p.2 then none else some (itx p.1, itx p.2) := by
  unfold piece
  split
  · rw [pair_idx, idx_not (not_mem_dig h1 (by decide))]
    rfl
  · rw [pair_idx, idx_app _ (not_mem_dig h1 (by decide))]
    simp
theorem piece_ip {p : Int × Int} (h1 : 0 ≤ p.1) (h2 : p.1 ≤ p.2) (h3 : p.2 ≤ 1099511627776) : ipiece (piece p) = some p := by
  have hp := piece_pair h1
  by_cases he : p.1 = p.2
  · rw [if_pos he] at hp
    rw [ip_none hp]
    unfold piece
    rw [if_pos he, itx_atoi h1 (by omega)]
    simp only [Option.map_some]
    congr 1
    exact Prod.ext rfl he
  · rw [if_neg he] at hp
    rw [ip_good hp (itx_atoi h1 (by omega)) (itx_atoi (by omega) h3) h2]
theorem piece_wide {p : Int × Int} (h1 : 0 ≤ p.1) (h2 : p.1 ≤ p.2) (h3 : p.2 ≤ 1099511627776) (h4 : p.2 - p.1 ≤ 100000) : wideP (piece p) = false := by
  have hp := piece_pair h1
  by_cases he : p.1 = p.2
  · rw [if_pos he] at hp
    exact wide_none hp
  · rw [if_neg he] at hp
    rw [wide_some hp, itx_atoi h1 (by omega), itx_atoi (by omega) h3]
    simp only [wrap64]
    simp
    omega
theorem addP_pieces : ∀ (rs : List (Int × Int)) (acc : List Int), (∀ p ∈ rs, 0 ≤ p.1 ∧ p.1 ≤ p.2 ∧ p.2 ≤ 1099511627776) → addP acc (rs.map piece) = some (insAll acc (allOf rs))
  | [], acc, _ => rfl
  | p :: rs, acc, h => by
    obtain ⟨h1, h2, h3⟩ := h p (by simp)
    rw [List.map_cons, addP_some (a := p.1) (b := p.2) (piece_ip h1 h2 h3), addP_pieces rs _ (fun q hq => h q (by simp [hq]))]
    unfold allOf
    rw [List.flatMap_cons, insAll_app]
theorem piece_ne {p : Int × Int} (h1 : 0 ≤ p.1) : piece p ≠ [] := by
  unfold piece
  split
  · exact itx_ne h1
  · simp
theorem joinc_ne : ∀ (ps : List (List UInt8)), ps ≠ [] → (∀ p ∈ ps, p ≠ []) → joinc ps ≠ []
  | [], h, _ => absurd rfl h
  | [p], _, h => h p (by simp)
  | p :: q :: r, _, h => by simp [joinc]
theorem runs_ne {l : List Int} (h : l ≠ []) : runs l ≠ [] := by
  cases l with
  | nil => exact absurd rfl h
  | cons x r => exact runsFrom_ne _ _ _
/-- What was written is read back. -/
theorem back {l : List Int} (hs : l.Pairwise (· < ·)) (hb : ∀ y ∈ l, 0 ≤ y ∧ y ≤ 1099511627776) (hl : l.length ≤ 100000) : ∃ L, cpI (text l) = some L ∧ sortI L = l ∧ L.length = l.length := by
  have key : ∃ L : List Int, cpI (text l) = some L ∧ L.Nodup ∧ ∀ y, y ∈ L ↔ y ∈ l := by
    by_cases h0 : l = []
    · subst h0
      refine ⟨[], ?_, List.nodup_nil, fun y => Iff.rfl⟩
      have h1 : wideP [] = false := rfl
      unfold cpI
      have h2 : (splitAt' 44 (text [])).any wideP = false := by
        show ([[]] : List (List UInt8)).any wideP = false
        simp [h1]
      rw [h2]
      rfl
    · have hne := runs_ne h0
      have hbd := runs_bounds hb
      have hsp : splitAt' 44 (text l) = (runs l).map piece := by
        unfold text
        apply split_join
        · simpa using hne
        · intro p hp
          obtain ⟨q, hq, rfl⟩ := List.mem_map.1 hp
          have := hbd q hq
          exact piece_no44 (by omega) (by omega)
      have htx : text l ≠ [] := by
        unfold text
        apply joinc_ne
        · simpa using hne
        · intro p hp
          obtain ⟨q, hq, rfl⟩ := List.mem_map.1 hp
          have := hbd q hq
          exact piece_ne (by omega)
      refine ⟨insAll [] (allOf (runs l)), ?_, insAll_nodup _ _ List.nodup_nil, fun y => ?_⟩
      · unfold cpI iparse
        rw [hsp]
        have hw : ((runs l).map piece).any wideP = false := by
          rw [List.any_eq_false]
          intro p hp
          obtain ⟨q, hq, rfl⟩ := List.mem_map.1 hp
          have := hbd q hq
          rw [piece_wide (by omega) (by omega) (by omega) (by omega)]
          simp
        rw [hw, if_neg (by simp), if_neg htx]
        exact addP_pieces _ _ (fun q hq => by have := hbd q hq; omega)
      · rw [insAll_mem, runs_mem]
        simp
  obtain ⟨L, h1, h2, h3⟩ := key
  have h4 : sortI L = l := strict_eq (sortI_strict h2) hs (fun x => by rw [(sortI_perm L).mem_iff, h3])
  exact ⟨L, h1, h4, by rw [← h4, sortI_len]⟩
def wgt (p : Int × Int) : Nat := if p.1 = p.2 then 14 else 28
theorem piece_len {p : Int × Int} (h1 : 0 ≤ p.1) (h2 : p.1 ≤ p.2) (h3 : p.2 ≤ 1099511627776) : (piece p).length + 1 ≤ wgt p := by
  have e1 := itx_len h1 (by omega)
  have e2 := itx_len (n := p.2) (by omega) h3
  unfold piece wgt
  split
  · omega
  · rw [List.length_append, List.length_cons]
    omega
theorem body_len : ∀ (r : List Int) (s e : Int), s ≤ e → 0 ≤ s → e ≤ 1099511627776 → (∀ y ∈ r, 0 ≤ y ∧ y ≤ 1099511627776) → (bodyP ((runsFrom s e r).map piece)).length ≤ wgt (s, e) + 14 * r.length
  | [], s, e, h, h1, h2, _ => by
    have := piece_len (p := (s, e)) h1 h h2
    simp [runsFrom, bodyP]
    omega
  | x :: r, s, e, h, h1, h2, hr => by
    have hx := hr x (by simp)
    unfold runsFrom
    split
    · rename_i hxe
      have := body_len r s x (by omega) h1 hx.2 (fun y hy => hr y (by simp [hy]))
      have hw : wgt (s, x) ≤ wgt (s, e) + 14 := by
        unfold wgt
        split <;> split <;> omega
      simp only [List.length_cons]
      omega
    · have := body_len r x x (by omega) hx.1 hx.2 (fun y hy => hr y (by simp [hy]))
      have e1 := piece_len (p := (s, e)) h1 h h2
      have hw : wgt (x, x) = 14 := by simp [wgt]
      unfold bodyP at this ⊢
      rw [List.map_cons, List.flatMap_cons, List.length_append, List.length_append]
      simp only [List.length_cons, List.length_nil]
      omega
theorem text_len {l : List Int} (hb : ∀ y ∈ l, 0 ≤ y ∧ y ≤ 1099511627776) : (text l).length ≤ 14 * l.length := by
  cases l with
  | nil => simp [text, runs, joinc]
  | cons x r =>
    have hx := hb x (by simp)
    have := body_len r x x (by omega) hx.1 hx.2 (fun y hy => hb y (by simp [hy]))
    have hw : wgt (x, x) = 14 := by simp [wgt]
    rw [body_join _ (by simpa using runsFrom_ne x x r), List.length_append] at this
    unfold text runs
    simp only [List.length_cons, List.length_nil] at this ⊢
    omega
end Go.Proofs.YtikaldcoakpfoaaGreatDoor
