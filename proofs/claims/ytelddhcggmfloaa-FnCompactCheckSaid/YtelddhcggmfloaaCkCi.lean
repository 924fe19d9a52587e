import Derived.Test.YtelddhcggmfloaaCkCh
namespace Go.Proofs.Ytelddhcggmfloaa
set_option linter.unusedVariables false
set_option linter.unusedSimpArgs false
set_option linter.unnecessarySimpa false
open Go Go.RowKit Go.V

/-! The plain law: what is walked is what the reference reckons. -/
theorem keys_one {own : Int} {h : KH} {ps : List Pr} : (grps (prs own h ps)).length = 1 ↔ ∀ p ∈ prs own h ps, p.1 = h.hash := by
  have hk := grps_keys (prs own h ps)
  have hn := grps_nodup (prs own h ps)
  have hown : h.hash ∈ (prs own h ps).map (·.1) := by simp [prs]
  constructor
  · intro h1 p hp
    match hg : grps (prs own h ps), h1 with
    | [z], _ =>
      rw [hg] at hk
      have a := (hk p.1).2 (List.mem_map_of_mem hp)
      have b := (hk h.hash).2 hown
      simp only [List.map_cons, List.map_nil, List.mem_singleton] at a b
      rw [a, b]
  · intro hall
    have hle : ∀ k ∈ (grps (prs own h ps)).map (·.1), k = h.hash := by
      intro k hk1
      obtain ⟨p, hp, rfl⟩ := List.mem_map.1 ((hk k).1 hk1)
      exact hall p hp
    have hin := (hk h.hash).2 hown
    generalize grps (prs own h ps) = g at *
    match g, hin, hn, hle with
    | [z], _, _, _ => rfl
    | z :: y :: r, _, hn, hle =>
      exfalso
      simp only [List.map_cons, List.nodup_cons, List.mem_cons, not_or] at hn
      exact hn.1.1 ((hle z.1 (by simp)).trans (hle y.1 (by simp)).symm)
theorem two_counts (l : List (Int × Int)) {x y : Int} (h : x ≠ y) : vq l x + vq l y ≤ l.length := by
  induction l with
  | nil => simp [vq]
  | cons p l ih =>
    unfold vq at *
    by_cases a : p.1 = x
    · have b : ¬ p.1 = y := fun e => h (a.symm.trans e)
      simp only [List.filter_cons, decide_eq_true a, decide_eq_false b, if_true, List.length_cons]
      simp
      omega
    · by_cases b : p.1 = y
      · simp only [List.filter_cons, decide_eq_false a, decide_eq_true b, if_true, List.length_cons]
        simp
        omega
      · simp only [List.filter_cons, decide_eq_false a, decide_eq_false b, List.length_cons]
        simp
        omega
theorem vt_ck {own : Int} {h : KH} {ps : List Pr} {last last' : Int} {zs zs' : List Int} {s r r' : Bool} (hv : VtTold own h ps zs s r) (hc : CkTold own h ps last r' last' zs') : r' = s ∧ zs'.Perm zs ∧ last' = if r = true then max last h.rev else last := by
  have hlen : (prs own h ps).length = (ps.filter (selP h)).length + 1 := by simp [prs]
  rcases hv with ⟨v1, v2, v3, v4⟩ | ⟨v1, v2, v3, v4⟩
  · rcases hc with ⟨c1, c2, c3, c4⟩ | ⟨c1, _⟩
    · subst v2 c2
      have e : s = decide ((ps.filter (selP h)).length = ps.length) := by
        rw [v3, hlen]
        congr 1
        apply propext
        omega
      refine ⟨c3.trans e.symm, List.Perm.nil, ?_⟩
      rw [c4, v4, e]
      by_cases q : (ps.filter (selP h)).length = ps.length
      · rw [if_pos q, if_pos (by simpa using q)]
      · rw [if_neg q, if_neg (by simpa using q)]
    · exact absurd (keys_one.2 v1) c1
  · rcases hc with ⟨c1, _⟩ | ⟨c1, c2, c3, c4⟩
    · obtain ⟨p, hp, hne⟩ := v1
      exact absurd (keys_one.1 c1 p hp) hne
    · refine ⟨by rw [c2, v2], ?_, by rw [c3, v3]; rfl⟩
      rcases c4 with ⟨x, hx, hq, hz⟩ | ⟨hno, hz⟩
      · rcases v4 with ⟨y, hy, hq2, hz2⟩ | ⟨hno2, _⟩
        · have hxy : x.1 = y.1 := by
            apply Classical.byContradiction
            intro hne
            have h1 := two_counts (prs own h ps) hne
            have h2 := grp_len hx
            have h3 := prs_len1 own h ps
            unfold vq at *
            omega
          subst hz2
          refine hz.trans ?_
          rw [← hxy]
          exact grps_filter (fun k => decide (k ≠ x.1)) (prs own h ps)
        · exfalso
          have h2 := grp_len hx
          obtain ⟨p, hp, hpx⟩ := List.mem_map.1 ((grps_keys (prs own h ps) x.1).1 (List.mem_map_of_mem hx))
          have h3 := hno2 p hp
          rw [hpx] at h3
          unfold vq at h3
          omega
      · rcases v4 with ⟨y, hy, hq2, _⟩ | ⟨_, hz2⟩
        · exfalso
          obtain ⟨x, hx, hxy⟩ := List.mem_map.1 ((grps_keys (prs own h ps) y.1).2 (List.mem_map_of_mem hy))
          have h2 := grp_len hx
          have h3 := hno x hx
          rw [hxy] at h2
          unfold vq at hq2
          omega
        · rw [hz, hz2]
abbrev Down (l : List KH) : Prop := l.Pairwise (fun a b => b.rev < a.rev)
theorem down_eq : ∀ (a b : List KH), Down a → Down b → (∀ x, x ∈ a ↔ x ∈ b) → a = b
  | [], [], _, _, _ => rfl
  | [], y :: b, _, _, h => by have := (h y).2 List.mem_cons_self; cases this
  | x :: a, [], _, _, h => by have := (h x).1 List.mem_cons_self; cases this
  | x :: a, y :: b, ha, hb, h => by
    have ha' := List.pairwise_cons.1 ha
    have hb' := List.pairwise_cons.1 hb
    have hxy : x = y := by
      rcases List.mem_cons.1 ((h x).1 List.mem_cons_self) with e | e
      · exact e
      · rcases List.mem_cons.1 ((h y).2 List.mem_cons_self) with e2 | e2
        · exact e2.symm
        · have := hb'.1 x e
          have := ha'.1 y e2
          omega
    subst hxy
    congr 1
    refine down_eq a b ha'.2 hb'.2 (fun z => ?_)
    constructor
    · intro hz
      rcases List.mem_cons.1 ((h z).1 (List.mem_cons_of_mem _ hz)) with e | e
      · have := ha'.1 z hz
        rw [e] at this
        omega
      · exact e
    · intro hz
      rcases List.mem_cons.1 ((h z).2 (List.mem_cons_of_mem _ hz)) with e | e
      · have := hb'.1 z hz
        rw [e] at this
        omega
      · exact e
theorem rise_eq : ∀ (a b : List Int), sortedI a → sortedI b → a.Perm b → a = b
  | [], b, _, _, h => h.nil_eq
  | x :: a, [], _, _, h => by have := h.length_eq; simp at this
  | x :: a, y :: b, ha, hb, h => by
    have ha' := List.pairwise_cons.1 ha
    have hb' := List.pairwise_cons.1 hb
    have hxy : x = y := by
      have h1 : x ≤ y := by
        rcases List.mem_cons.1 (h.mem_iff.2 (List.mem_cons_self (a := y) (l := b))) with e | e
        · omega
        · exact ha'.1 y e
      have h2 : y ≤ x := by
        rcases List.mem_cons.1 (h.mem_iff.1 (List.mem_cons_self (a := x) (l := a))) with e | e
        · omega
        · exact hb'.1 x e
      omega
    subst hxy
    rw [rise_eq a b ha'.2 hb'.2 ((List.perm_cons x).1 h)]
theorem rv_get {l : List KH} {k : Nat} (h : k < l.length) : rv l k = (l[k]).rev := by
  unfold rv
  rw [List.getElem?_eq_getElem h]
/-- What is asked for of a round, as one list. -/
theorem un_list {hs l : List KH} {last : Int} {m : Nat} (hn : (hs.map KH.rev).Nodup) (h : UnTold hs l last hs.length m) : Down (l.take m) ∧ ∀ x, x ∈ l.take m ↔ x ∈ hs ∧ last < x.rev := by
  obtain ⟨h1, h2, h3, h4, h5⟩ := h
  have hl := h1.length_eq
  have hnod : (l.map KH.rev).Nodup := (h1.map KH.rev).nodup_iff.2 hn
  refine ⟨?_, fun x => ?_⟩
  · unfold Down
    rw [List.pairwise_iff_getElem]
    intro i j hi hj hij
    rw [List.length_take] at hi hj
    rw [List.getElem_take, List.getElem_take]
    have a := h2 i j hij (by omega)
    rw [rv_get (by omega), rv_get (by omega)] at a
    have b : l[i].rev ≠ l[j].rev := by
      intro e
      have := (List.nodup_iff_pairwise_ne.1 hnod)
      rw [List.pairwise_iff_getElem] at this
      have := this i j (by rw [List.length_map]; omega) (by rw [List.length_map]; omega) hij
      simp at this
      exact this e
    omega
  · constructor
    · intro hx
      obtain ⟨i, hi, rfl⟩ := List.getElem_of_mem hx
      rw [List.getElem_take]
      rw [List.length_take] at hi
      refine ⟨h1.mem_iff.1 (List.getElem_mem _), ?_⟩
      have := h4 i (by omega)
      rw [rv_get (by omega)] at this
      exact this
    · rintro ⟨hx, hlt⟩
      obtain ⟨i, hi, rfl⟩ := List.getElem_of_mem (h1.mem_iff.2 hx)
      have him : i < m := by
        apply Classical.byContradiction
        intro hge
        have h6 := h5 (by omega)
        have h7 : rv l i ≤ rv l m := by
          rcases Nat.lt_or_ge m i with c | c
          · exact h2 m i c (by omega)
          · have : i = m := by omega
            rw [this]; exact Int.le_refl _
        rw [rv_get hi] at h7
        omega
      rw [List.mem_iff_getElem]
      exact ⟨i, by rw [List.length_take]; omega, by rw [List.getElem_take]⟩
theorem told_same {hs : List KH} {vs : List Int} {rs : List (Row Pr)} {own last l1 l2 : Int} {ask q zs1 zs2 : List Int} (hn : (hs.map KH.rev).Nodup) (h1 : RdTold own hs vs rs last l1 ask zs1) (h2 : SpTold hs (prsAt vs rs) own last l2 q zs2) : ask = q ∧ l1 = l2 ∧ zs1.Perm zs2 := by
  obtain ⟨l, m, hu, hc⟩ := h1
  obtain ⟨hd, hmem⟩ := un_list hn hu
  generalize l.take m = L at *
  clear hu
  rcases h2 with ⟨hq, top, ⟨s1, s2, s3, s4⟩, hall, e1, e2, e3⟩ | ⟨hq, h, r, top, ⟨s1, s2, s3, s4⟩, hh, hlt, htop, hmx, hne, hv, e1, e2⟩
  · have hL : L = hq := by
      refine down_eq L hq hd s2 (fun x => ?_)
      rw [hmem x]
      exact ⟨fun ⟨a, b⟩ => s3 x a b (hall x a b), fun a => ⟨(s1 x a).1, (s1 x a).2.1⟩⟩
    subst hL
    rcases hc with ⟨c1, c2, c3, c4⟩ | ⟨j, hj, c1, c2, c3, c4⟩
    · exact ⟨c3.trans e1.symm, by rw [c2, e3], by rw [c4, e2]⟩
    · exfalso
      rcases s4 _ (List.getElem_mem hj) with a | a
      · exact c2 a
      · have := (vt_ck a c3).1
        cases this
  · have hL : L = hq ++ h :: L.filter (fun x => decide (x.rev < h.rev)) := by
      refine down_eq _ _ hd ?_ (fun x => ?_)
      · unfold Down
        rw [List.pairwise_append, List.pairwise_cons]
        refine ⟨s2, ⟨fun x hx => ?_, hd.filter _⟩, fun a ha b hb => ?_⟩
        · exact of_decide_eq_true (List.mem_filter.1 hx).2
        · have := (s1 a ha).2.2
          rcases List.mem_cons.1 hb with rfl | hb
          · omega
          · have := of_decide_eq_true (List.mem_filter.1 hb).2
            omega
      · rw [List.mem_append, List.mem_cons, List.mem_filter]
        constructor
        · intro hx
          obtain ⟨a, b⟩ := (hmem x).1 hx
          rcases Int.lt_or_le x.rev top with c | c
          · have := hmx x a b c
            rcases Int.lt_or_le x.rev h.rev with d | d
            · exact .inr (.inr ⟨hx, by simpa using d⟩)
            · exact .inr (.inl (rev_inj hn a hh (by omega)))
          · exact .inl (s3 x a b c)
        · rintro (a | rfl | ⟨a, _⟩)
          · exact (hmem x).2 ⟨(s1 x a).1, (s1 x a).2.1⟩
          · exact (hmem x).2 ⟨hh, hlt⟩
          · exact a
    generalize L.filter (fun x => decide (x.rev < h.rev)) = rest at *
    have hlen : hq.length < L.length := by rw [hL]; simp
    have hget : L[hq.length] = h := by
      have : L[hq.length]? = some h := by rw [hL]; simp
      rw [List.getElem?_eq_getElem hlen] at this
      exact Option.some.inj this
    have hpre : ∀ i (hi : i < L.length), i < hq.length → L[i] ∈ hq := by
      intro i hi hlt
      have : L[i]? = hq[i]? := by rw [hL, List.getElem?_append_left hlt]
      rw [List.getElem?_eq_getElem hi, List.getElem?_eq_getElem hlt] at this
      rw [Option.some.inj this]
      exact List.getElem_mem _
    have hmemh : h ∈ L := by rw [hL]; simp
    rcases hc with ⟨c1, _⟩ | ⟨j, hj, c1, c2, c3, c4⟩
    · exfalso
      rcases c1 h hmemh with a | a
      · exact hne a
      · have := (vt_ck hv a).1
        cases this
    · have hjq : j = hq.length := by
        rcases Nat.lt_trichotomy j hq.length with a | a | a
        · exfalso
          rcases s4 _ (hpre j hj a) with b | b
          · exact c2 b
          · have := (vt_ck b c3).1
            cases this
        · exact a
        · exfalso
          have hin : h ∈ L.take j := by
            rw [← hget, List.mem_iff_getElem]
            exact ⟨hq.length, by rw [List.length_take]; omega, by rw [List.getElem_take]⟩
          rcases c1 h hin with b | b
          · exact hne b
          · have := (vt_ck hv b).1
            cases this
      subst hjq
      rw [hget] at c3
      obtain ⟨_, v2, v3⟩ := vt_ck hv c3
      refine ⟨?_, by rw [v3, e2], v2⟩
      rw [c4, e1]
      have : L.take (hq.length + 1) = hq ++ [h] := by
        have e : hq ++ h :: rest = (hq ++ [h]) ++ rest := by simp
        rw [hL, e]
        exact List.take_left' (by simp)
      rw [this]
      simp
theorem run_same {own : Int} : ∀ {rds : List Rd} {aa qs : List (List Int)} {last : Int}, RunT own rds aa qs last → ∀ {aa' qs' : List (List Int)} {last' : Int}, (∀ d ∈ rds, RevOk d) → SpRun own rds aa' qs' last' → aa = aa' ∧ qs = qs' ∧ last = last' := by
  intro rds aa qs last h
  induction h with
  | nil =>
    intro aa' qs' last' _ h'
    generalize hr : ([] : List Rd) = rr at h'
    cases h' with
    | nil => exact ⟨rfl, rfl, rfl⟩
    | snoc _ _ => exact absurd (congrArg List.length hr) (by simp)
  | @snoc rds aa qs last l1 d a q h h1 ih =>
    intro aa' qs' last' hM h'
    generalize hr : rds ++ [d] = rr at h'
    cases h' with
    | nil => exact absurd (congrArg List.length hr) (by simp)
    | @snoc rds2 aa2 qs2 last2 l2 d2 a2 q2 g g1 =>
      obtain ⟨rfl, hd⟩ := List.append_inj' hr rfl
      obtain rfl : d = d2 := by simpa using hd
      obtain ⟨rfl, rfl, rfl⟩ := ih (fun x hx => hM x (List.mem_append_left _ hx)) g
      obtain ⟨zs1, a1, a2', a3⟩ := h1
      obtain ⟨zs2, b1, b2, b3⟩ := g1
      obtain ⟨e1, e2, e3⟩ := told_same (hM d (by simp)).1 a1 b1
      have : a = a2 := rise_eq a a2 a3 b3 (a2'.trans (e3.trans b2.symm))
      subst this e1 e2
      exact ⟨rfl, rfl, rfl⟩
end Go.Proofs.Ytelddhcggmfloaa
