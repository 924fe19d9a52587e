import Derived.Test.YtjknkdmenhcbkaaDoorCpuT
namespace Go.Proofs.YtjknkdmenhcbkaaDoor
set_option linter.unusedVariables false
set_option linter.unusedSimpArgs false
set_option linter.unnecessarySimpa false
open Go Go.RowKit Go.V Go.Lib

theorem fold_plain : ∀ (ps : List (List UInt8)) (st : List Int × Bool × Bool), (ps.foldl sstep st).2.2 = true → st.2.2 = true ∧ ∀ p ∈ ps, plainP p = true
  | [], st, h => ⟨h, by simp⟩
  | p :: r, st, h => by
    obtain ⟨h1, h2⟩ := fold_plain r (sstep st p) h
    unfold sstep at h1
    split at h1
    · rename_i hp
      refine ⟨h1, ?_⟩
      intro q hq
      rcases List.mem_cons.1 hq with rfl | hq
      · exact hp
      · exact h2 q hq
    · cases h1
theorem fold_ok2 : ∀ (ps : List (List UInt8)) (st : List Int × Bool × Bool), (∀ p ∈ ps, plainP p = true) → (ps.foldl sstep st).2.1 = (st.2.1 && ps.all fun p => (cpuRange p).2.2)
  | [], st, _ => by simp
  | p :: r, st, h => by
    have hp := h p (by simp)
    rw [List.foldl_cons, fold_ok2 r _ (fun q hq => h q (by simp [hq])), List.all_cons]
    have : (sstep st p).2.1 = (st.2.1 && (cpuRange p).2.2) := by
      unfold sstep
      rw [if_pos hp]
    rw [this, Bool.and_assoc]
def allR (ps : List (List UInt8)) : List Int := ps.flatMap fun p => rng (cpuRange p).1 (cpuRange p).2.1
theorem fold_all : ∀ (ps : List (List UInt8)) (st : List Int × Bool × Bool), (∀ p ∈ ps, plainP p = true ∧ (cpuRange p).2.2 = true) → (ps.foldl sstep st).1 = st.1 ++ allR ps
  | [], st, _ => by simp [allR]
  | p :: r, st, h => by
    have hp := h p (by simp)
    rw [List.foldl_cons, fold_all r _ (fun q hq => h q (by simp [hq]))]
    have : (sstep st p).1 = st.1 ++ rng (cpuRange p).1 (cpuRange p).2.1 := by
      unfold sstep
      rw [if_pos hp.1]
      show (if _ then _ else _) = _
      rw [if_pos hp.2]
    rw [this]
    unfold allR
    rw [List.flatMap_cons, List.append_assoc]
theorem good_at {p : List UInt8} (h : plainP p = true ∧ (cpuRange p).2.2 = true) : wideP p = false ∧ ipiece p = some ((cpuRange p).1, (cpuRange p).2.1) ∧ 0 ≤ (cpuRange p).1 ∧ (cpuRange p).1 ≤ (cpuRange p).2.1 ∧ (cpuRange p).2.1 ≤ 1099511627776 ∧ (cpuRange p).2.1 - (cpuRange p).1 < 100000 := by
  rcases hc : cpuRange p with ⟨a, b, q⟩
  rw [hc] at h
  obtain ⟨h1, h2⟩ := h
  simp only at h2
  subst h2
  exact piece_ok hc h1
theorem addP_good : ∀ (ps : List (List UInt8)) (acc : List Int), (∀ p ∈ ps, plainP p = true ∧ (cpuRange p).2.2 = true) → addP acc ps = some (insAll acc (allR ps))
  | [], acc, _ => rfl
  | p :: r, acc, h => by
    have hg := good_at (h p (by simp))
    rw [addP_some (a := (cpuRange p).1) (b := (cpuRange p).2.1) hg.2.1, addP_good r _ (fun q hq => h q (by simp [hq]))]
    unfold allR
    rw [List.flatMap_cons, insAll_app]
theorem addP_bad : ∀ (ps : List (List UInt8)) (acc : List Int), (∀ p ∈ ps, plainP p = true) → (ps.all fun p => (cpuRange p).2.2) = false → addP acc ps = none
  | [], acc, _, h => by simp at h
  | p :: r, acc, h, hb => by
    have hp := h p (by simp)
    cases hq : (cpuRange p).2.2 with
    | false =>
      rcases hc : cpuRange p with ⟨a, b, q⟩
      rw [hc] at hq
      simp only at hq
      subst hq
      exact addP_none (piece_bad hc hp)
    | true =>
      have hg := good_at ⟨hp, hq⟩
      rw [addP_some (a := (cpuRange p).1) (b := (cpuRange p).2.1) hg.2.1]
      refine addP_bad r _ (fun q hq => h q (by simp [hq])) ?_
      rw [List.all_cons, hq, Bool.true_and] at hb
      exact hb
theorem allR_len : ∀ (ps : List (List UInt8)), (∀ p ∈ ps, plainP p = true ∧ (cpuRange p).2.2 = true) → (allR ps).length ≤ 100000 * ps.length
  | [], _ => by simp [allR]
  | p :: r, h => by
    have hg := good_at (h p (by simp))
    have := allR_len r (fun q hq => h q (by simp [hq]))
    have h1 := rng_small hg.2.2.2.2.2
    unfold allR at this ⊢
    rw [List.flatMap_cons, List.length_append, List.length_cons]
    omega
theorem split_len : ∀ (c : UInt8) (l : List UInt8), (splitAt' c l).length ≤ l.length + 1
  | _, [] => by simp [splitAt']
  | c, x :: r => by
    have := split_len c r
    unfold splitAt'
    split
    · simp only [List.length_cons]
      omega
    · split
      · rename_i a b hq
        rw [hq] at this
        simp only [List.length_cons] at this ⊢
        omega
      · simp
theorem allR_mem {ps : List (List UInt8)} (h : ∀ p ∈ ps, plainP p = true ∧ (cpuRange p).2.2 = true) : ∀ y ∈ allR ps, 0 ≤ y ∧ y ≤ 1099511627776 := by
  intro y hy
  unfold allR at hy
  obtain ⟨p, hp, hy⟩ := List.mem_flatMap.1 hy
  have hg := good_at (h p hp)
  have := mem_rng.1 hy
  omega
/-- What the reference says of a plain text, the code does. -/
theorem plain_law {l : List UInt8} (hl : l.length ≤ 300) {all : List Int} {ok : Bool} (h : sparse l = (all, ok, true)) :
    (ok = true → ∃ L, cpI l = some L ∧ sortI L = rising all ∧ L.length ≤ 100000000 ∧ (∀ y ∈ rising all, 0 ≤ y ∧ y ≤ 1099511627776) ∧ L.length = (rising all).length) ∧ (ok = false → cpI l = none) := by
  by_cases h0 : l = []
  · subst h0
    have hs : sparse [] = ([], true, true) := rfl
    rw [hs] at h
    injection h with h1 h2
    injection h2 with h2 h3
    subst h1 h2
    have hr : rising [] = [] := by simp [rising, sortI, Lib.compact, Lib.compactUpTo]
    refine ⟨fun _ => ⟨[], by decide +kernel, by rw [hr]; simp [sortI], by simp, by rw [hr]; simp, by rw [hr]⟩, fun h => by cases h⟩
  · unfold sparse at h
    rw [if_neg h0] at h
    have hp := fold_plain _ _ (by rw [h])
    have ho := fold_ok2 _ ([], true, true) hp.2
    rw [h] at ho
    simp only [Bool.true_and] at ho
    refine ⟨fun e => ?_, fun e => ?_⟩
    · subst e
      have hg : ∀ p ∈ splitAt' 44 l, plainP p = true ∧ (cpuRange p).2.2 = true := fun p hq => ⟨hp.2 p hq, List.all_eq_true.1 ho.symm p hq⟩
      have ha := fold_all _ ([], true, true) hg
      rw [h] at ha
      simp only [List.nil_append] at ha
      subst ha
      have hs : sortI (insAll [] (allR (splitAt' 44 l))) = rising (allR (splitAt' 44 l)) := insAll_rising _
      refine ⟨insAll [] (allR (splitAt' 44 l)), ?_, hs, ?_, ?_, ?_⟩
      · unfold cpI iparse
        have hw : (splitAt' 44 l).any wideP = false := by
          rw [List.any_eq_false]
          intro p hq
          rw [(good_at (hg p hq)).1]
          simp
        rw [hw, if_neg (by simp), if_neg h0]
        exact addP_good _ _ hg
      · have h1 := insAll_len (allR (splitAt' 44 l)) []
        have h2 := allR_len _ hg
        have h3 := split_len 44 l
        simp only [List.length_nil] at h1
        omega
      · intro y hy
        exact allR_mem hg y (((rising_facts _).2 y).1 hy)
      · rw [← hs, sortI_len]
    · subst e
      unfold cpI iparse
      rw [if_neg h0, addP_bad _ _ hp.2 ho.symm]
      split <;> rfl
end Go.Proofs.YtjknkdmenhcbkaaDoor
