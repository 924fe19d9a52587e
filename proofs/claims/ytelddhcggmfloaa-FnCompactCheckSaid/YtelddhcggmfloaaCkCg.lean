import Derived.Test.YtelddhcggmfloaaCkCf
import Derived.Test.YtelddhcggmfloaaCkCc
-- MORE
-- SUB2
namespace Go.Proofs.Ytelddhcggmfloaa
set_option linter.unusedVariables false
set_option linter.unusedSimpArgs false
set_option linter.unnecessarySimpa false
open Go Go.RowKit Go.V

/-! The reference's rounds. -/
def BestIs (l : List KH) (last top b : Int) : Prop := (b = -1 ∧ ∀ h ∈ l, ¬ (last < h.rev ∧ h.rev < top)) ∨ ∃ (i : Nat) (g : KH), b = i ∧ l[i]? = some g ∧ last < g.rev ∧ g.rev < top ∧ ∀ h ∈ l, last < h.rev → h.rev < top → h.rev ≤ g.rev
theorem best_out {l : List KH} {last top b : Int} {h : KH} (hb : BestIs l last top b) (hh : ¬ (last < h.rev ∧ h.rev < top)) : BestIs (l ++ [h]) last top b := by
  rcases hb with ⟨h1, h2⟩ | ⟨i, g, h1, h2, h3, h4, h5⟩
  · refine .inl ⟨h1, fun x hx => ?_⟩
    rcases List.mem_append.1 hx with hx | hx
    · exact h2 x hx
    · simp only [List.mem_singleton] at hx; subst hx; exact hh
  · refine .inr ⟨i, g, h1, ?_, h3, h4, fun x hx a1 a2 => ?_⟩
    · rw [List.getElem?_append_left (List.getElem?_eq_some_iff.1 h2).1]; exact h2
    · rcases List.mem_append.1 hx with hx | hx
      · exact h5 x hx a1 a2
      · simp only [List.mem_singleton] at hx; subst hx; exact absurd ⟨a1, a2⟩ hh
theorem best_low {l : List KH} {last top : Int} {i : Nat} {g h : KH} (hb : BestIs l last top i) (hg : l[i]? = some g) (hh : h.rev ≤ g.rev) : BestIs (l ++ [h]) last top i := by
  rcases hb with ⟨h1, h2⟩ | ⟨i', g', h1, h2, h3, h4, h5⟩
  · omega
  · obtain rfl : i = i' := by omega
    obtain rfl : g = g' := by rw [h2] at hg; exact (Option.some.inj hg).symm
    refine .inr ⟨i, g, rfl, ?_, h3, h4, fun x hx a1 a2 => ?_⟩
    · rw [List.getElem?_append_left (List.getElem?_eq_some_iff.1 h2).1]; exact h2
    · rcases List.mem_append.1 hx with hx | hx
      · exact h5 x hx a1 a2
      · simp only [List.mem_singleton] at hx; subst hx; exact hh
theorem best_new {l : List KH} {last top b : Int} {h : KH} {k : Nat} (hk : l.length = k) (hb : BestIs l last top b) (h1 : last < h.rev) (h2 : h.rev < top) (hh : ∀ (i : Nat) (g : KH), b = i → l[i]? = some g → g.rev ≤ h.rev) : BestIs (l ++ [h]) last top k := by
  refine .inr ⟨k, h, rfl, by rw [← hk]; simp, h1, h2, fun x hx a1 a2 => ?_⟩
  rcases List.mem_append.1 hx with hx | hx
  · rcases hb with ⟨_, h3⟩ | ⟨i, g, e, h3, _, _, h5⟩
    · exact absurd ⟨a1, a2⟩ (h3 x hx)
    · exact Int.le_trans (h5 x hx a1 a2) (hh i g e h3)
  · simp only [List.mem_singleton] at hx; subst hx; exact Int.le_refl _
/-- Which hashes were asked for, none of which settled the round. -/
def SqIs (hs : List KH) (P : Int → List Pr) (own last top : Int) (hq : List KH) : Prop :=
  (∀ h ∈ hq, h ∈ hs ∧ last < h.rev ∧ top ≤ h.rev) ∧ hq.Pairwise (fun a b => b.rev < a.rev) ∧ (∀ h ∈ hs, last < h.rev → top ≤ h.rev → h ∈ hq) ∧ ∀ h ∈ hq, P h.rev = [] ∨ VtTold own h (P h.rev) [] false false
def SpEnd (hs : List KH) (P : Int → List Pr) (own last last' : Int) (qs zs : List Int) : Prop :=
  ∃ (hq : List KH) (h : KH) (r : Bool) (top : Int), SqIs hs P own last top hq ∧ h ∈ hs ∧ last < h.rev ∧ h.rev < top ∧ (∀ g ∈ hs, last < g.rev → g.rev < top → g.rev ≤ h.rev) ∧ P h.rev ≠ [] ∧ VtTold own h (P h.rev) zs true r ∧ qs = hq.map KH.rev ++ [h.rev] ∧ last' = if r = true then max last h.rev else last
def SpTold (hs : List KH) (P : Int → List Pr) (own last last' : Int) (qs zs : List Int) : Prop :=
  (∃ (hq : List KH) (top : Int), SqIs hs P own last top hq ∧ (∀ h ∈ hs, last < h.rev → top ≤ h.rev) ∧ qs = hq.map KH.rev ∧ zs = [] ∧ last' = last) ∨ SpEnd hs P own last last' qs zs
def SpIs (hs : List KH) (P : Int → List Pr) (own last last' top : Int) (qs zs : List Int) (dn : Bool) : Prop :=
  (dn = false ∧ last' = last ∧ zs = [] ∧ ∃ hq, SqIs hs P own last top hq ∧ qs = hq.map KH.rev) ∨ (dn = true ∧ SpEnd hs P own last last' qs zs)
def flt (hs : List KH) (t : Int) : Nat := (hs.filter fun h => decide (h.rev < t)).length
theorem flt_lt {hs : List KH} {h : KH} {t : Int} (hm : h ∈ hs) (ht : h.rev < t) : flt hs h.rev + 1 ≤ flt hs t := by
  induction hs with
  | nil => cases hm
  | cons x l ih =>
    have hle : flt l h.rev ≤ flt l t := by
      clear ih hm
      induction l with
      | nil => exact Nat.le_refl _
      | cons y l ih =>
        unfold flt at *
        by_cases a : y.rev < h.rev
        · have b : y.rev < t := by omega
          simp only [List.filter_cons, decide_eq_true a, decide_eq_true b, if_true, List.length_cons]
          omega
        · simp only [List.filter_cons, decide_eq_false a]
          by_cases b : y.rev < t
          · simp only [decide_eq_true b, if_true, List.length_cons]; simp; omega
          · simp only [decide_eq_false b]; simp; omega
    rcases List.mem_cons.1 hm with rfl | hm
    · unfold flt at *
      have a : ¬ h.rev < h.rev := by omega
      simp only [List.filter_cons, decide_eq_true ht, decide_eq_false a, if_true, List.length_cons]
      simp
      omega
    · have := ih hm
      unfold flt at *
      by_cases a : x.rev < h.rev
      · have b : x.rev < t := by omega
        simp only [List.filter_cons, decide_eq_true a, decide_eq_true b, if_true, List.length_cons]
        omega
      · simp only [List.filter_cons, decide_eq_false a]
        by_cases b : x.rev < t
        · simp only [decide_eq_true b, if_true, List.length_cons]; simp; omega
        · simp only [decide_eq_false b]; simp; omega
theorem flt_le (hs : List KH) (t : Int) : flt hs t ≤ hs.length := List.length_filter_le _ _
theorem sq_nil {hs : List KH} {P : Int → List Pr} {own last top : Int} (h : ∀ g ∈ hs, g.rev < top) : SqIs hs P own last top [] :=
  ⟨by simp, List.Pairwise.nil, fun g hg _ ht => by have := h g hg; omega, by simp⟩
theorem rev_inj {hs : List KH} (hn : (hs.map KH.rev).Nodup) {a b : KH} (ha : a ∈ hs) (hb : b ∈ hs) (h : a.rev = b.rev) : a = b := by
  induction hs with
  | nil => cases ha
  | cons x l ih =>
    simp only [List.map_cons, List.nodup_cons] at hn
    rcases List.mem_cons.1 ha with e1 | ha2
    · rcases List.mem_cons.1 hb with e2 | hb2
      · rw [e1, e2]
      · exact absurd (by rw [← e1, h]; exact List.mem_map_of_mem hb2) hn.1
    · rcases List.mem_cons.1 hb with e2 | hb2
      · exact absurd (by rw [← e2, ← h]; exact List.mem_map_of_mem ha2) hn.1
      · exact ih hn.2 ha2 hb2
theorem sq_snoc {hs : List KH} {P : Int → List Pr} {own last top : Int} {hq : List KH} {h : KH} (hn : (hs.map KH.rev).Nodup) (H : SqIs hs P own last top hq) (hm : h ∈ hs) (h1 : last < h.rev) (h2 : h.rev < top) (hmax : ∀ g ∈ hs, last < g.rev → g.rev < top → g.rev ≤ h.rev) (hu : P h.rev = [] ∨ VtTold own h (P h.rev) [] false false) : SqIs hs P own last h.rev (hq ++ [h]) := by
  obtain ⟨a1, a2, a3, a4⟩ := H
  refine ⟨fun g hg => ?_, ?_, fun g hg b1 b2 => ?_, fun g hg => ?_⟩
  · rcases List.mem_append.1 hg with hg | hg
    · have := a1 g hg
      exact ⟨this.1, this.2.1, by omega⟩
    · simp only [List.mem_singleton] at hg; subst hg; exact ⟨hm, h1, Int.le_refl _⟩
  · rw [List.pairwise_append]
    refine ⟨a2, List.pairwise_singleton _ _, fun a ha b hb => ?_⟩
    simp only [List.mem_singleton] at hb; subst hb
    have := a1 a ha
    omega
  · rcases Int.lt_or_le g.rev top with c | c
    · have := hmax g hg b1 c
      rw [rev_inj hn hg hm (by omega)]
      simp
    · exact List.mem_append_left _ (a3 g hg b1 c)
  · rcases List.mem_append.1 hg with hg | hg
    · exact a4 g hg
    · simp only [List.mem_singleton] at hg; subst hg; exact hu
theorem vt_false {own : Int} {h : KH} {ps : List Pr} {zs : List Int} {r : Bool} (ht : VtTold own h ps zs false r) : zs = [] ∧ r = false ∧ VtTold own h ps [] false false := by
  rcases ht with ⟨h1, h2, h3, h4⟩ | ⟨_, h2, _⟩
  · subst h2 h4; exact ⟨rfl, rfl, .inl ⟨h1, rfl, h3, rfl⟩⟩
  · cases h2
theorem vt_len {own : Int} {h : KH} {ps : List Pr} {zs : List Int} {s r : Bool} (ht : VtTold own h ps zs s r) : zs.length ≤ ps.length + 1 := by
  rcases ht with ⟨_, h2, _⟩ | ⟨_, _, _, ⟨x, _, _, h2⟩ | ⟨_, h2⟩⟩
  · subst h2; simp
  · subst h2
    rw [List.length_map]
    exact Nat.le_trans (List.length_filter_le _ _) (prs_len1 own h ps)
  · subst h2; simp
theorem row_nil {w : World} {key : Option Nat} {T : TypeId} {s n cap : Nat} {xs : List Value} (h : holds w (.row key T s n cap xs)) : key.map (fun b => (⟨b, 0, none⟩ : Addr)) = none → n = 0 := by
  cases key with
  | none => intro _; exact h.1
  | some b => intro h; cases h
end Go.Proofs.Ytelddhcggmfloaa
