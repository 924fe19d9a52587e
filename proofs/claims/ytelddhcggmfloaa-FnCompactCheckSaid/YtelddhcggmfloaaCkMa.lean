import Derived.Test.YtelddhcggmfloaaCkS
namespace Go.Proofs.Ytelddhcggmfloaa
set_option linter.unusedVariables false
set_option linter.unusedSimpArgs false
set_option linter.unnecessarySimpa false
open Go Go.RowKit Go.V

/-! The plain law of a majority. -/
theorem gput_filter (P : Int → Bool) (g : GS) (h i : Int) : (((gput g h i).filter fun y => P y.1).flatMap (·.2)).Perm (((g.filter fun y => P y.1).flatMap (·.2)) ++ if P h then [i] else []) := by
  induction g with
  | nil =>
    unfold gput
    by_cases hp : P h = true
    · simp [hp]
    · simp [hp]
  | cons x r ih =>
    unfold gput
    by_cases hx : x.1 = h
    · rw [if_pos hx]
      by_cases hp : P h = true
      · rw [List.filter_cons, if_pos hp, List.filter_cons, if_pos (by rw [hx]; exact hp), if_pos hp]
        simp only [List.flatMap_cons, List.append_assoc]
        refine List.Perm.append_left _ ?_
        exact List.perm_append_comm
      · rw [List.filter_cons, if_neg hp, List.filter_cons, if_neg (by rw [hx]; exact hp), if_neg hp, List.append_nil]
    · rw [if_neg hx]
      by_cases hp : P x.1 = true
      · rw [List.filter_cons, if_pos hp, List.filter_cons, if_pos hp]
        simp only [List.flatMap_cons, List.append_assoc]
        exact List.Perm.append_left _ ih
      · rw [List.filter_cons, if_neg hp, List.filter_cons, if_neg hp]
        exact ih
theorem foldl_filter (P : Int → Bool) : ∀ (l : List (Int × Int)) (g : GS), (((l.foldl (fun g p => gput g p.1 p.2) g).filter fun y => P y.1).flatMap (·.2)).Perm (((g.filter fun y => P y.1).flatMap (·.2)) ++ (l.filter fun p => P p.1).map (·.2))
  | [], g => by simp
  | p :: l, g => by
    rw [List.foldl_cons]
    refine (foldl_filter P l _).trans ?_
    refine ((gput_filter P g p.1 p.2).append_right _).trans ?_
    by_cases hp : P p.1 = true
    · rw [if_pos hp, List.filter_cons, if_pos hp, List.map_cons, List.append_assoc]
      exact List.Perm.refl _
    · rw [if_neg hp, List.filter_cons, if_neg hp, List.append_nil]
theorem grps_filter (P : Int → Bool) (l : List (Int × Int)) : (((grps l).filter fun y => P y.1).flatMap (·.2)).Perm ((l.filter fun p => P p.1).map (·.2)) := by
  have := foldl_filter P l []
  simpa [grps] using this
theorem gput_keys (g : GS) (h i : Int) : ∀ k, k ∈ (gput g h i).map (·.1) ↔ k = h ∨ k ∈ g.map (·.1) := by
  induction g with
  | nil => intro k; simp [gput]
  | cons x r ih =>
    intro k
    unfold gput
    by_cases hx : x.1 = h
    · rw [if_pos hx]
      simp only [List.map_cons, List.mem_cons, hx]
      constructor
      · exact fun h => .inr h
      · rintro (h | h)
        · exact .inl h
        · exact h
    · rw [if_neg hx]
      simp only [List.map_cons, List.mem_cons]
      rw [ih]
      constructor
      · rintro (h | h | h)
        · exact .inr (.inl h)
        · exact .inl h
        · exact .inr (.inr h)
      · rintro (h | h | h)
        · exact .inr (.inl h)
        · exact .inl h
        · exact .inr (.inr h)
theorem gput_nodup (g : GS) (h i : Int) (hn : (g.map (·.1)).Nodup) : ((gput g h i).map (·.1)).Nodup := by
  induction g with
  | nil => simp [gput]
  | cons x r ih =>
    simp only [List.map_cons, List.nodup_cons] at hn
    unfold gput
    by_cases hx : x.1 = h
    · rw [if_pos hx]
      simp only [List.map_cons, List.nodup_cons]
      rw [← hx]
      exact hn
    · rw [if_neg hx]
      simp only [List.map_cons, List.nodup_cons]
      refine ⟨fun hm => ?_, ih hn.2⟩
      rcases (gput_keys r h i x.1).1 hm with h1 | h1
      · exact hx h1
      · exact hn.1 h1
theorem grps_nodup (l : List (Int × Int)) : ((grps l).map (·.1)).Nodup := by
  have : ∀ (l : List (Int × Int)) (g : GS), (g.map (·.1)).Nodup → ((l.foldl (fun g p => gput g p.1 p.2) g).map (·.1)).Nodup := by
    intro l
    induction l with
    | nil => exact fun g h => h
    | cons p l ih => exact fun g h => ih _ (gput_nodup g p.1 p.2 h)
  exact this l [] (by simp)
theorem grps_keys (l : List (Int × Int)) (k : Int) : k ∈ (grps l).map (·.1) ↔ k ∈ l.map (·.1) := by
  have : ∀ (l : List (Int × Int)) (g : GS), k ∈ (l.foldl (fun g p => gput g p.1 p.2) g).map (·.1) ↔ k ∈ g.map (·.1) ∨ k ∈ l.map (·.1) := by
    intro l
    induction l with
    | nil => intro g; simp
    | cons p l ih =>
      intro g
      rw [List.foldl_cons, ih, gput_keys, List.map_cons, List.mem_cons]
      constructor
      · rintro ((h | h) | h)
        · exact .inr (.inl h)
        · exact .inl h
        · exact .inr (.inr h)
      · rintro (h | h | h)
        · exact .inl (.inr h)
        · exact .inl (.inl h)
        · exact .inr h
  have h := this l []
  simpa [grps] using h
theorem filter_one {g : GS} (hn : (g.map (·.1)).Nodup) {x : Int × List Int} (hx : x ∈ g) : (g.filter fun y => decide (y.1 = x.1)) = [x] := by
  induction g with
  | nil => cases hx
  | cons y r ih =>
    simp only [List.map_cons, List.nodup_cons] at hn
    rcases List.mem_cons.1 hx with rfl | hx
    · rw [List.filter_cons, if_pos (by simp)]
      congr 1
      rw [List.filter_eq_nil_iff]
      intro y hy
      simp only [decide_eq_true_eq]
      exact fun e => hn.1 (e ▸ List.mem_map_of_mem hy)
    · have hy : ¬ y.1 = x.1 := fun e => hn.1 (e ▸ List.mem_map_of_mem hx)
      rw [List.filter_cons, if_neg (by simpa using hy)]
      exact ih hn.2 hx
theorem grp_len {l : List (Int × Int)} {x : Int × List Int} (hx : x ∈ grps l) : x.2.length = (l.filter fun p => decide (p.1 = x.1)).length := by
  have h1 := grps_filter (fun k => decide (k = x.1)) l
  rw [filter_one (grps_nodup l) hx] at h1
  have := h1.length_eq
  simpa using this
theorem split_len (l : List (Int × Int)) (H : Int) : (l.filter fun p => decide (p.1 = H)).length + (l.filter fun p => decide (p.1 ≠ H)).length = l.length := by
  induction l with
  | nil => rfl
  | cons p l ih =>
    by_cases h : p.1 = H
    · simp [h] at ih ⊢; omega
    · simp [h] at ih ⊢; omega
/-- Whom a check accuses where fewer than half have another hash than H. -/
theorem told_major {own : Int} {h : KH} {ps : List Pr} {last last' : Int} {r : Bool} {zs : List Int} (H : Int) (hall : ∀ p ∈ ps, p.has = true ∧ p.compact = h.compact) (hmin : 2 * ((prs own h ps).filter fun p => decide (p.1 ≠ H)).length < ps.length + 1) (ht : CkTold own h ps last r last' zs) :
    r = true ∧ zs.Perm (((prs own h ps).filter fun p => decide (p.1 ≠ H)).map (·.2)) := by
  have hsel : ps.filter (selP h) = ps := by
    rw [List.filter_eq_self]
    intro p hp
    obtain ⟨h1, h2⟩ := hall p hp
    simp [selP, h1, h2]
  have hlen : (prs own h ps).length = ps.length + 1 := by
    unfold prs
    rw [hsel]
    simp
  have hs := split_len (prs own h ps) H
  generalize hpr : prs own h ps = l at *
  rcases ht with ⟨h1, h2, h3, _⟩ | ⟨h1, h2, _, ⟨x, hx, hq, hz⟩ | ⟨hno, _⟩⟩
  · rw [hpr] at h1
    refine ⟨by rw [h3, hsel]; simp, ?_⟩
    subst h2
    -- one group alone: all have H
    have hpos : 0 < (l.filter fun p => decide (p.1 = H)).length := by omega
    obtain ⟨p, hp⟩ := List.exists_mem_of_length_pos hpos
    obtain ⟨hp1, hp2⟩ := List.mem_filter.1 hp
    have hkey : H ∈ (grps l).map (·.1) := (grps_keys l H).2 (List.mem_map.2 ⟨p, hp1, by simpa using hp2⟩)
    have hnil : (l.filter fun p => decide (p.1 ≠ H)) = [] := by
      rw [List.filter_eq_nil_iff]
      intro y hy
      simp only [decide_eq_true_eq]
      have hk2 : y.1 ∈ (grps l).map (·.1) := (grps_keys l y.1).2 (List.mem_map_of_mem hy)
      obtain ⟨z, hz⟩ : ∃ z, grps l = [z] := by
        match hg : grps l, h1 with
        | [z], _ => exact ⟨z, rfl⟩
      rw [hz] at hkey hk2
      simp only [List.map_cons, List.map_nil, List.mem_singleton] at hkey hk2
      rw [hk2, ← hkey]
      exact fun h => h rfl
    rw [hnil]
    exact List.Perm.nil
  · rw [hpr] at hx hz
    have hxH : x.1 = H := by
      apply Classical.byContradiction
      intro hne
      have h5 := grp_len hx
      have h6 : (l.filter fun p => decide (p.1 = x.1)).length ≤ (l.filter fun p => decide (p.1 ≠ H)).length := by
        have : ∀ m : List (Int × Int), (m.filter fun p => decide (p.1 = x.1)).length ≤ (m.filter fun p => decide (p.1 ≠ H)).length := by
          intro m
          induction m with
          | nil => exact Nat.le_refl _
          | cons p m ih =>
            by_cases e1 : p.1 = x.1
            · have e2 : ¬ p.1 = H := by rw [e1]; exact hne
              simp [e1, hne] at ih ⊢
              omega
            · rw [List.filter_cons, if_neg (by simpa using e1), List.filter_cons]
              split
              · simp only [List.length_cons]; omega
              · exact ih
        exact this l
      omega
    subst hxH
    refine ⟨h2, hz.trans ?_⟩
    exact grps_filter (fun k => decide (k ≠ x.1)) l
  · exfalso
    rw [hpr] at hno
    have hpos : 0 < (l.filter fun p => decide (p.1 = H)).length := by omega
    obtain ⟨p, hp⟩ := List.exists_mem_of_length_pos hpos
    obtain ⟨hp1, hp2⟩ := List.mem_filter.1 hp
    have hkey : H ∈ (grps l).map (·.1) := (grps_keys l H).2 (List.mem_map.2 ⟨p, hp1, by simpa using hp2⟩)
    obtain ⟨x, hx, hxH⟩ := List.mem_map.1 hkey
    have h5 := grp_len hx
    have h6 := hno x hx
    rw [hxH] at h5
    omega
theorem one_major {own : Int} {h : KH} {ps : List Pr} {last' : Int} {a q : List Int} {s1 s2 s3 s4 : Option Addr} {c1 c2 c3 c4 : Nat} (H : Int) (hrev : 1 ≤ h.rev) (hne : ps ≠ []) (hall : ∀ p ∈ ps, p.has = true ∧ p.compact = h.compact) (hmin : 2 * ((prs own h ps).filter fun p => decide (p.1 ≠ H)).length < ps.length + 1)
    (ho : OneT own ⟨⟨s1, c1, [h]⟩, ⟨s2, c2, [h.rev]⟩, ⟨s3, c3, [⟨s4, c4, ps⟩]⟩⟩ 0 last' a q) : a.Perm (((prs own h ps).filter fun p => decide (p.1 ≠ H)).map (·.2)) ∧ q = [h.rev] := by
  obtain ⟨zs, ⟨l, m, ⟨hp, _, hm, _, hlt⟩, hc⟩, hz, _⟩ := ho
  have hl : l = [h] := List.perm_singleton.1 hp
  subst hl
  have hm1 : m = 1 := by
    have hm' : m ≤ 1 := hm
    rcases Nat.lt_or_ge m 1 with h1 | h1
    · have h9 := hlt h1
      have h0 : m = 0 := by omega
      subst h0
      have : h.rev ≤ 0 := h9
      omega
    · omega
  subst hm1
  have hP : prsAt [h.rev] [(⟨s4, c4, ps⟩ : Row Pr)] h.rev = ps := by unfold prsAt; rw [if_pos rfl]
  rcases hc with ⟨hpre, _, _, _⟩ | ⟨j, hj, _, _, hc, hq⟩
  · exfalso
    rcases hpre h (by simp) with h1 | h1
    · rw [hP] at h1
      exact hne h1
    · rw [hP] at h1
      have := (told_major H hall hmin h1).1
      cases this
  · have hj0 : j = 0 := by simp at hj; omega
    subst hj0
    rw [show (List.take 1 [h])[0] = h from rfl, hP] at hc
    exact ⟨hz.trans (told_major H hall hmin hc).2, by rw [hq]; rfl⟩
theorem run_one {own : Int} {d : Rd} {aL qL : List (List Int)} {last : Int} (h : RunT own [d] aL qL last) : ∃ a q, aL = [a] ∧ qL = [q] ∧ OneT own d 0 last a q := by
  generalize hr : [d] = rds at h
  cases h with
  | nil => cases hr
  | @snoc rds0 as0 qs0 last0 _ d0 a q h0 h1 =>
    have hr2 : rds0 = [] ∧ d0 = d := by
      rcases List.append_eq_singleton_iff.1 hr.symm with ⟨h5, h6⟩ | ⟨h5, h6⟩
      · exact ⟨h5, by simpa using h6⟩
      · cases h6
    obtain ⟨rfl, rfl⟩ := hr2
    generalize hr3 : ([] : List Rd) = rr at h0
    cases h0 with
    | nil => exact ⟨a, q, rfl, rfl, h1⟩
    | snoc _ _ => exact absurd (congrArg List.length hr3) (by simp)
end Go.Proofs.Ytelddhcggmfloaa
