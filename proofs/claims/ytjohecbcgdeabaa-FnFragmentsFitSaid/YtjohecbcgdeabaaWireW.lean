import Derived.Test.YtjohecbcgdeabaaWireU
namespace Go.Proofs.Ytjohecbcgdeabaa
set_option linter.unusedVariables false
set_option linter.unusedSimpArgs false
set_option linter.unnecessarySimpa false
open Go.RowKit Go.V

/-! What is told of the parts that a response is cut in. -/
theorem rspl_outd (d : WSd) : rspl (outd d) = rspl d := by
  have e : evsl (d.events.map outEv) = evsl d.events := by
    unfold evsl
    rw [List.map_map]
    congr 1
    refine List.map_congr_left fun x _ => ?_
    simp only [Function.comp]
    unfold evl outEv
    cases x.has <;> rfl
  unfold rspl outd
  simp only [e]
theorem short_outEv {e : EVd} (h : e.Short) : (outEv e).Short := by
  refine ⟨h.1, ?_⟩
  unfold outEv
  dsimp only
  split
  · exact h.2
  · exact ⟨by decide, by decide⟩
theorem short_outd {d : WSd} (h : d.Short) : (outd d).Short := by
  refine ⟨h.1, by simpa [outd] using h.2.1, ?_⟩
  intro e he
  obtain ⟨x, hx, rfl⟩ := List.mem_map.1 he
  exact short_outEv (h.2.2 x hx)
theorem rspl_flag (d : WSd) (lo j : Nat) : rspl (part d lo j false) ≤ rspl (part d lo j true) := by
  unfold rspl part
  simp only [il_flag]
  simp

theorem cuts_at {most : Nat} {d : WSd} {hi : Nat} {l : List (Nat × Nat)} (h : Cuts most d hi l) : ∀ k (hk : k < l.length), 1 ≤ l[k].2 ∧ l[k].1 + l[k].2 < d.events.length ∧ (1 < l[k].2 → rspl (part d l[k].1 l[k].2 true) < most) ∧ most ≤ rspl (part d l[k].1 (l[k].2 + 1) true) ∧ (l.map (·.1) ++ [hi])[k + 1]? = some (l[k].1 + l[k].2) := by
  induction h with
  | nil => intro k hk; simp at hk
  | @snoc lo j l h h1 h2 h3 h4 ih =>
    intro k hk
    by_cases hkl : k < l.length
    · obtain ⟨i1, i2, i3, i4, i5⟩ := ih k hkl
      rw [List.getElem_append_left hkl]
      refine ⟨i1, i2, i3, i4, ?_⟩
      rw [List.map_append, List.map_cons, List.map_nil, List.getElem?_append_left (by simp; omega)]
      exact i5
    · have hkl' : k = l.length := by simp at hk; omega
      subst hkl'
      rw [List.getElem_append_right (Nat.le_refl _)]
      simp only [Nat.sub_self, List.getElem_cons_zero]
      exact ⟨h1, h2, h3, h4, by simp⟩

theorem cut_at {most : Nat} {d : WSd} {l : List (Nat × Nat × Bool)} (h : Cut most d l) (hfr : d.fragment = false) :
    0 < l.length ∧ (∀ k (hk : k < l.length), 1 < l[k].2.1 → l[k].1 + l[k].2.1 ≤ d.events.length ∧ rspl (part d l[k].1 l[k].2.1 l[k].2.2) < most) ∧
      ∀ k (hk : k + 1 < l.length), 1 ≤ l[k].2.1 ∧ l[k].2.2 = true ∧ l[k].1 + l[k].2.1 < d.events.length ∧ 1 ≤ l[k + 1].2.1 ∧ l[k + 1].1 = l[k].1 + l[k].2.1 ∧ most ≤ rspl (part d l[k].1 (l[k].2.1 + 1) true) := by
  rcases h with ⟨rfl, h⟩ | ⟨l0, lo, h, hlo, h1, rfl, _⟩
  · refine ⟨by simp, ?_, ?_⟩
    · intro k hk
      have : k = 0 := by simp at hk; omega
      subst this
      simp only [List.getElem_cons_zero]
      intro hj
      refine ⟨by omega, ?_⟩
      rw [part_all]
      omega
    · intro k hk
      simp at hk
  · have hc := cuts_at h
    refine ⟨by simp, ?_, ?_⟩
    · intro k hk
      by_cases hkl : k < l0.length
      · obtain ⟨_, i2, i3, _⟩ := hc k hkl
        rw [List.getElem_append_left (by simpa using hkl)]
        simp only [List.getElem_map]
        exact fun hj => ⟨Nat.le_of_lt i2, i3 hj⟩
      · have hkl' : k = l0.length := by simp at hk; omega
        subst hkl'
        rw [List.getElem_append_right (by simp)]
        simp only [List.length_map, Nat.sub_self, List.getElem_cons_zero]
        exact fun hj => ⟨by omega, Nat.lt_of_le_of_lt (rspl_flag d lo _) (h1 hj)⟩
    · intro k hk
      have hkl : k < l0.length := by simp at hk; omega
      obtain ⟨i1, i2, i3, i4, i5⟩ := hc k hkl
      have e1 : (l0.map (fun x => (x.1, x.2, true)) ++ [(lo, d.events.length - lo, false)])[k]'(by omega) = (l0[k].1, l0[k].2, true) := by
        rw [List.getElem_append_left (by simpa using hkl)]
        simp
      rw [e1]
      refine ⟨i1, rfl, i2, ?_, ?_, i4⟩
      · by_cases hk2 : k + 1 < l0.length
        · rw [List.getElem_append_left (by simpa using hk2)]
          simpa using (hc (k + 1) hk2).1
        · rw [List.getElem_append_right (by simp; omega)]
          simp
          omega
      · have e2 : (l0.map (fun x => (x.1, x.2, true)) ++ [(lo, d.events.length - lo, false)]).map (·.1) = l0.map (·.1) ++ [lo] := by simp [List.map_map, Function.comp_def]
        have e3 := congrArg (·[k + 1]?) e2
        simp only [i5, List.getElem?_map] at e3
        rw [List.getElem?_eq_getElem hk] at e3
        simpa using e3

/-- WHAT THE LAW ASKS OF THE PARTS. -/
def FitAt (most : Nat) (os : List WSd) : Prop :=
  0 < os.length ∧ (∀ k (hk : k < os.length), os[k].Short ∧ (1 < os[k].events.length → rspl os[k] < most)) ∧
    ∀ k (hk : k + 1 < os.length), 1 ≤ os[k].events.length ∧ ∃ e rest, os[k + 1].events = e :: rest ∧ ({ os[k] with events := os[k].events ++ [e] } : WSd).Short ∧ most ≤ rspl { os[k] with events := os[k].events ++ [e] }
theorem fit_os_dummy : True := trivial
theorem part_outd_length (d : WSd) (lo j : Nat) (b : Bool) : (outd (part d lo j b)).events.length = min j (d.events.length - lo) := by simp [outd, part]
theorem fit_at {most : Nat} {d : WSd} {l : List (Nat × Nat × Bool)} (h : Cut most d l) (hfr : d.fragment = false) (hd : d.Short) {os : List WSd} (ho : os = l.map fun t => outd (part d t.1 t.2.1 t.2.2)) : FitAt most os := by
  subst ho
  obtain ⟨h1, h2, h3⟩ := cut_at h hfr
  refine ⟨by simpa using h1, ?_, ?_⟩
  · intro k hk
    have hk' : k < l.length := by simpa using hk
    simp only [List.getElem_map]
    refine ⟨short_outd (part_short hd _ _ _), ?_⟩
    rw [part_outd_length, rspl_outd]
    exact fun hj => (h2 k hk' (by omega)).2
  · intro k hk
    have hk' : k + 1 < l.length := by simpa using hk
    simp only [List.getElem_map]
    obtain ⟨i0, i1, i2, i3, i4, i5⟩ := h3 k hk'
    generalize l[k] = x at *
    generalize l[k + 1] = y at *
    obtain ⟨lo, j, b⟩ := x
    obtain ⟨lo', j', b'⟩ := y
    simp only at i0 i1 i2 i3 i4 i5 ⊢
    subst i1 i4
    obtain ⟨j', rfl⟩ : ∃ m, j' = m + 1 := ⟨j' - 1, by omega⟩
    have e1 : d.events.drop (lo + j) = d.events[lo + j] :: d.events.drop (lo + j + 1) := List.drop_eq_getElem_cons i2
    have e2 : ({ outd (part d lo j true) with events := (outd (part d lo j true)).events ++ [outEv d.events[lo + j]] } : WSd) = outd (part d lo (j + 1) true) := by
      unfold outd part
      simp only [WSd.mk.injEq, true_and]
      have hj : j < (d.events.drop lo).length := by simp; omega
      have e3 : (d.events.drop lo).take (j + 1) = (d.events.drop lo).take j ++ [(d.events.drop lo)[j]] := (List.take_append_getElem hj).symm
      rw [e3, List.map_append]
      simp
    refine ⟨by rw [part_outd_length]; omega, outEv d.events[lo + j], ((d.events.drop (lo + j + 1)).take j').map outEv, ?_, ?_, ?_⟩
    · show ((d.events.drop (lo + j)).take (j' + 1)).map outEv = _
      rw [e1, List.take_succ_cons, List.map_cons]
    · rw [e2]
      exact short_outd (part_short hd _ _ _)
    · rw [e2, rspl_outd]
      exact i5
end Go.Proofs.Ytjohecbcgdeabaa
