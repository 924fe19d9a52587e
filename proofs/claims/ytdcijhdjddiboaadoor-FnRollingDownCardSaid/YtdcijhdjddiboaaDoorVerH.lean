import Derived.Test.YtdcijhdjddiboaaDoorVerG
namespace Go.Proofs.YtdcijhdjddiboaaDoor
set_option linter.unusedVariables false
set_option linter.unusedSimpArgs false
set_option linter.unnecessarySimpa false
open Go.RowKit Go.V

/-- How far the reading of a version is: which number, how many digits of it, and the three numbers. -/
structure VS where
  k : Nat
  dg : Nat
  a : Nat
  b : Nat
  c : Nat
def VS.cur (s : VS) : Nat := if s.k = 0 then s.a else if s.k = 1 then s.b else s.c
def VS.put (s : VS) (n : Nat) : VS := if s.k = 0 then ⟨s.k, s.dg + 1, n, s.b, s.c⟩ else if s.k = 1 then ⟨s.k, s.dg + 1, s.a, n, s.c⟩ else ⟨s.k, s.dg + 1, s.a, s.b, n⟩
def vstep (s : VS) (h : UInt8) : Option VS :=
  if 48 ≤ h.toNat ∧ h.toNat ≤ 57 then (if s.dg = 4 ∨ (0 < s.dg ∧ s.cur = 0) then none else some (s.put (10 * s.cur + (h.toNat - 48))))
  else if h.toNat = 46 ∧ 0 < s.dg ∧ s.k < 2 then some ⟨s.k + 1, 0, s.a, s.b, s.c⟩ else none
def vscan : VS → List UInt8 → Option VS
  | s, [] => some s
  | s, h :: r => (vstep s h).bind fun t => vscan t r
def vend : Option VS → Option Vr
  | some s => if s.k = 2 ∧ 0 < s.dg then some ⟨s.a, s.b, s.c⟩ else none
  | none => none
def vs0 : VS := ⟨0, 0, 0, 0, 0⟩
/-- What a text is as a version. -/
def verOf (s : ByteArray) : Option Vr := vend (vscan vs0 s.data.toList)
theorem vscan_app (s : VS) (a b : List UInt8) : vscan s (a ++ b) = (vscan s a).bind fun t => vscan t b := by
  induction a generalizing s with
  | nil => rfl
  | cons h r ih =>
    show (vstep s h).bind (fun t => vscan t (r ++ b)) = ((vstep s h).bind fun t => vscan t r).bind _
    cases vstep s h with
    | none => rfl
    | some t => exact ih t
theorem dec_snoc (n d : Nat) (h0 : 0 < n) (h1 : n < 1000) (hd : d ≤ 9) : dec (10 * n + d) = dec n ++ [UInt8.ofNat (48 + d)] := by
  unfold dec
  by_cases h2 : n < 10
  · rw [if_neg (by omega), if_pos (by omega), if_pos h2]
    rw [show (10 * n + d) / 10 = n by omega, show (10 * n + d) % 10 = d by omega]
    rfl
  by_cases h3 : n < 100
  · rw [if_neg (by omega), if_neg (by omega), if_pos (by omega), if_neg h2, if_pos h3]
    rw [show (10 * n + d) / 100 = n / 10 by omega, show (10 * n + d) / 10 % 10 = n % 10 by omega, show (10 * n + d) % 10 = d by omega]
    rfl
  · rw [if_neg (by omega), if_neg (by omega), if_neg (by omega), if_neg h2, if_neg h3, if_pos h1]
    rw [show (10 * n + d) / 1000 = n / 100 by omega, show (10 * n + d) / 100 % 10 = n / 10 % 10 by omega, show (10 * n + d) / 10 % 10 = n % 10 by omega, show (10 * n + d) % 10 = d by omega]
    rfl
/-- A number so far as it was read. -/
def Piece (dg n : Nat) (P : List UInt8) : Prop := (dg = 0 ∧ n = 0 ∧ P = []) ∨ (0 < dg ∧ n ≤ 9999 ∧ P = dec n ∧ dg = (dec n).length)
theorem dec_short (n : Nat) (h : (dec n).length ≠ 4) : n < 1000 := by
  unfold dec at h
  repeat' split at h
  all_goals first | omega | simp at h
theorem piece_dig {dg n : Nat} {P : List UInt8} (h : Piece dg n P) (c : UInt8) (h1 : 48 ≤ c.toNat ∧ c.toNat ≤ 57) (h2 : ¬ (dg = 4 ∨ (0 < dg ∧ n = 0))) : Piece (dg + 1) (10 * n + (c.toNat - 48)) (P ++ [c]) := by
  obtain ⟨d, hd, hdc⟩ : ∃ d, d ≤ 9 ∧ c.toNat = 48 + d := ⟨c.toNat - 48, by omega, by omega⟩
  have hc : c = UInt8.ofNat (48 + d) := UInt8.toNat_inj.1 (by rw [dch d hd, hdc])
  rw [hdc, show 48 + d - 48 = d by omega]
  rcases h with ⟨rfl, rfl, rfl⟩ | ⟨ha, hb, rfl, he⟩
  · refine .inr ⟨by omega, by omega, ?_, ?_⟩
    · rw [hc]
      unfold dec
      rw [if_pos (by omega), show 10 * 0 + d = d by omega]
      rfl
    · unfold dec
      rw [if_pos (by omega)]
      rfl
  · have hn : 0 < n := by omega
    have h3 : n < 1000 := dec_short n (by omega)
    have e := dec_snoc n d hn h3 hd
    refine .inr ⟨by omega, by omega, by rw [e, hc], by rw [e, List.length_append, he]; rfl⟩
/-- What was read so far. -/
def VInv (s : VS) (pre : List UInt8) : Prop :=
  (s.k = 0 ∧ s.b = 0 ∧ s.c = 0 ∧ Piece s.dg s.a pre) ∨
  (s.k = 1 ∧ s.a ≤ 9999 ∧ s.c = 0 ∧ ∃ P, Piece s.dg s.b P ∧ pre = dec s.a ++ 46 :: P) ∨
  (s.k = 2 ∧ s.a ≤ 9999 ∧ s.b ≤ 9999 ∧ ∃ P, Piece s.dg s.c P ∧ pre = dec s.a ++ 46 :: (dec s.b ++ 46 :: P))
theorem vstep_inv {s t : VS} {pre : List UInt8} (h : VInv s pre) (c : UInt8) (e : vstep s c = some t) : VInv t (pre ++ [c]) := by
  obtain ⟨k, dg, a, b, cc⟩ := s
  unfold vstep at e
  simp only [VInv] at h
  split at e
  · rename_i hd
    split at e
    · cases e
    rename_i hn
    cases e
    rcases h with ⟨rfl, rfl, rfl, hp⟩ | ⟨rfl, ha, rfl, P, hp, rfl⟩ | ⟨rfl, ha, hb, P, hp, rfl⟩
    · exact .inl ⟨rfl, rfl, rfl, piece_dig hp c hd hn⟩
    · exact .inr (.inl ⟨rfl, ha, rfl, _, piece_dig hp c hd hn, by simp [VS.put]⟩)
    · exact .inr (.inr ⟨rfl, ha, hb, _, piece_dig hp c hd hn, by simp [VS.put]⟩)
  · split at e
    · rename_i hq
      obtain ⟨hq1, hq2, hq3⟩ := hq
      simp only at hq2 hq3
      have hc : c = 46 := UInt8.toNat_inj.1 hq1
      subst hc
      cases e
      rcases h with ⟨rfl, rfl, rfl, hp⟩ | ⟨rfl, ha, rfl, P, hp, rfl⟩ | ⟨rfl, ha, hb, P, hp, rfl⟩
      · rcases hp with ⟨rfl, _⟩ | ⟨_, h1, rfl, _⟩
        · omega
        · exact .inr (.inl ⟨rfl, h1, rfl, [], .inl ⟨rfl, rfl, rfl⟩, rfl⟩)
      · rcases hp with ⟨rfl, _⟩ | ⟨_, h1, rfl, _⟩
        · omega
        · exact .inr (.inr ⟨rfl, ha, h1, [], .inl ⟨rfl, rfl, rfl⟩, by simp⟩)
      · omega
    · cases e
theorem vscan_inv {s t : VS} {pre l : List UInt8} (h : VInv s pre) (e : vscan s l = some t) : VInv t (pre ++ l) := by
  induction l generalizing s pre with
  | nil => cases e; simpa using h
  | cons c r ih =>
    rw [vscan] at e
    cases hs : vstep s c with
    | none => rw [hs] at e; cases e
    | some u =>
      rw [hs] at e
      have := ih (vstep_inv h c hs) e
      simpa using this
theorem vs0_inv : VInv vs0 [] := .inl ⟨rfl, rfl, rfl, .inl ⟨rfl, rfl, rfl⟩⟩
theorem verOf_sound {s : ByteArray} {x : Vr} (h : verOf s = some x) : VText s x := by
  unfold verOf at h
  cases hs : vscan vs0 s.data.toList with
  | none => rw [hs] at h; cases h
  | some t =>
    have hi := vscan_inv vs0_inv hs
    rw [hs] at h
    unfold vend at h
    simp only at h
    split at h
    · rename_i hk
      cases h
      rcases hi with ⟨h0, _⟩ | ⟨h0, _⟩ | ⟨_, ha, hb, P, hp, he⟩
      · omega
      · omega
      · rcases hp with ⟨h0, _⟩ | ⟨_, h1, rfl, _⟩
        · omega
        · exact ⟨⟨⟨by show (0 : Int) ≤ (t.a : Int); omega, by show (t.a : Int) ≤ 9999; omega⟩, ⟨by show (0 : Int) ≤ (t.b : Int); omega, by show (t.b : Int) ≤ 9999; omega⟩, ⟨by show (0 : Int) ≤ (t.c : Int); omega, by show (t.c : Int) ≤ 9999; omega⟩⟩, by rw [show ([] : List UInt8) ++ s.data.toList = s.data.toList from rfl] at he; rw [he]; simp [vtext]⟩
    · cases h
theorem vstep_dig (s : VS) (d : Nat) (hd : d ≤ 9) (h : ¬ (s.dg = 4 ∨ (0 < s.dg ∧ s.cur = 0))) : vstep s (UInt8.ofNat (48 + d)) = some (s.put (10 * s.cur + d)) := by
  unfold vstep
  rw [dch d hd, if_pos (by omega), if_neg h, show 48 + d - 48 = d by omega]
def VS.set (s : VS) (n m : Nat) : VS := if s.k = 0 then ⟨s.k, m, n, s.b, s.c⟩ else if s.k = 1 then ⟨s.k, m, s.a, n, s.c⟩ else ⟨s.k, m, s.a, s.b, n⟩
theorem set_cur (s : VS) (n m : Nat) : (s.set n m).cur = n ∧ (s.set n m).dg = m := by
  unfold VS.set VS.cur
  by_cases h0 : s.k = 0
  · simp [h0]
  · by_cases h1 : s.k = 1
    · simp [h1]
    · simp [h0, h1]
theorem set_put (s : VS) (n m n' : Nat) : (s.set n m).put n' = s.set n' (m + 1) := by
  unfold VS.set VS.put
  by_cases h0 : s.k = 0
  · simp [h0]
  · by_cases h1 : s.k = 1
    · simp [h1]
    · simp [h0, h1]
theorem vscan_set (s : VS) (n m d : Nat) (r : List UInt8) (hd : d ≤ 9) (h : ¬ (m = 4 ∨ (0 < m ∧ n = 0))) : vscan (s.set n m) (UInt8.ofNat (48 + d) :: r) = vscan (s.set (10 * n + d) (m + 1)) r := by
  obtain ⟨h1, h2⟩ := set_cur s n m
  rw [vscan, vstep_dig _ d hd (by rw [h1, h2]; exact h), h1, set_put]
  rfl
theorem vscan_dec (s : VS) (n : Nat) (hn : n ≤ 9999) (r : List UInt8) : vscan (s.set 0 0) (dec n ++ r) = vscan (s.set n (dec n).length) r := by
  unfold dec
  by_cases h2 : n < 10
  · simp only [if_pos h2, List.cons_append, List.nil_append]
    rw [vscan_set _ _ _ _ _ (by omega) (by omega), show 10 * 0 + n = n by omega]
    rfl
  by_cases h3 : n < 100
  · simp only [if_neg h2, if_pos h3, List.cons_append, List.nil_append]
    rw [vscan_set _ _ _ _ _ (by omega) (by omega), vscan_set _ _ _ _ _ (by omega) (by omega), show 10 * (10 * 0 + n / 10) + n % 10 = n by omega]
    rfl
  by_cases h4 : n < 1000
  · simp only [if_neg h2, if_neg h3, if_pos h4, List.cons_append, List.nil_append]
    rw [vscan_set _ _ _ _ _ (by omega) (by omega), vscan_set _ _ _ _ _ (by omega) (by omega), vscan_set _ _ _ _ _ (by omega) (by omega), show 10 * (10 * (10 * 0 + n / 100) + n / 10 % 10) + n % 10 = n by omega]
    rfl
  · simp only [if_neg h2, if_neg h3, if_neg h4, List.cons_append, List.nil_append]
    rw [vscan_set _ _ _ _ _ (by omega) (by omega), vscan_set _ _ _ _ _ (by omega) (by omega), vscan_set _ _ _ _ _ (by omega) (by omega), vscan_set _ _ _ _ _ (by omega) (by omega), show 10 * (10 * (10 * (10 * 0 + n / 1000) + n / 100 % 10) + n / 10 % 10) + n % 10 = n by omega]
    rfl
theorem vscan_dot (s : VS) (h : 0 < s.dg ∧ s.k < 2) (r : List UInt8) : vscan s (46 :: r) = vscan ⟨s.k + 1, 0, s.a, s.b, s.c⟩ r := by
  rw [vscan]
  unfold vstep
  rw [if_neg (by decide), if_pos ⟨by decide, h.1, h.2⟩]
  rfl
theorem verOf_text {s : ByteArray} {x : Vr} (h : VText s x) : verOf s = some x := by
  obtain ⟨⟨ha, hb, hc⟩, hs⟩ := h
  obtain ⟨x1, x2, x3⟩ := x
  obtain ⟨na, rfl⟩ : ∃ n : Nat, x1 = n := ⟨x1.toNat, by simp only at ha; omega⟩
  obtain ⟨nb, rfl⟩ : ∃ n : Nat, x2 = n := ⟨x2.toNat, by simp only at hb; omega⟩
  obtain ⟨nc, rfl⟩ : ∃ n : Nat, x3 = n := ⟨x3.toNat, by simp only at hc; omega⟩
  simp only [vtext, Int.toNat_natCast] at hs
  simp only at ha hb hc
  have l1 := (dec_len na).1
  have l2 := (dec_len nb).1
  have l3 := (dec_len nc).1
  unfold verOf
  rw [hs]
  have e1 := vscan_dec vs0 na (by omega) (46 :: (dec nb ++ 46 :: dec nc))
  rw [show vs0.set 0 0 = vs0 from rfl, vscan_dot _ ⟨by rw [(set_cur _ _ _).2]; omega, by show (0 : Nat) < 2; omega⟩] at e1
  rw [e1]
  have e2 := vscan_dec ⟨1, 0, na, 0, 0⟩ nb (by omega) (46 :: dec nc)
  rw [vscan_dot _ ⟨by rw [(set_cur _ _ _).2]; omega, by show (1 : Nat) < 2; omega⟩] at e2
  refine (congrArg vend (e2 : _)).trans ?_
  have e3 := vscan_dec ⟨2, 0, na, nb, 0⟩ nc (by omega) []
  rw [List.append_nil] at e3
  refine (congrArg vend (e3 : _)).trans ?_
  exact if_pos (c := ((⟨2, 0, na, nb, 0⟩ : VS).set nc (dec nc).length).k = 2 ∧ 0 < ((⟨2, 0, na, nb, 0⟩ : VS).set nc (dec nc).length).dg) ⟨rfl, l3⟩
theorem vtext_vstr {x : Vr} (h : x.Ok) : VText (vstr x) x := ⟨h, rfl⟩
theorem verOf_vstr {x : Vr} (h : x.Ok) : verOf (vstr x) = some x := verOf_text (vtext_vstr h)
theorem vstr_inj {x y : Vr} (hx : x.Ok) (hy : y.Ok) (h : vstr x = vstr y) : x = y := by
  have := verOf_vstr hx
  rw [h, verOf_vstr hy] at this
  exact (Option.some.inj this).symm
theorem vtext_eq {s : ByteArray} {x : Vr} (h : VText s x) : s = vstr x := by
  apply ByteArray.ext
  apply Array.toList_inj.1
  exact h.2
theorem verOf_empty : verOf ByteArray.empty = none := rfl
end Go.Proofs.YtdcijhdjddiboaaDoor
