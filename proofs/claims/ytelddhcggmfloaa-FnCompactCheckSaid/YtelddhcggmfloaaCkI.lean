import Derived.Test.YtelddhcggmfloaaCkE
import Derived.Test.YtelddhcggmfloaaVBag
-- MORE
-- SUB2
namespace Go.Proofs.Ytelddhcggmfloaa
set_option linter.unusedVariables false
set_option linter.unusedSimpArgs false
set_option linter.unnecessarySimpa false
open Go Go.RowKit Go.V

/-! Peers by their hashes. -/
theorem elemIDs : Elem Try.prog 138 77 1 8 (.int .u64 (0)) := ⟨Try.underlying138, by kernel_rfl, rfl⟩
abbrev uk (k : Int) : Value := .int .u32 k
abbrev iv (k : Int) : Value := .int .u64 k
theorem keyH : KeyAs Try.prog 22 uk := keyAs_int Try.underlying22
structure Gp where
  hash : Int
  b : Nat
  cap : Nat
  ids : List Int
def Gp.val (g : Gp) : Value := .slice (some ⟨g.b, 0, none⟩) g.ids.length g.cap
def Gp.ent (g : Gp) : Ent := (true, .row (some g.b) 77 1 g.ids.length g.cap (g.ids.map iv))
def Gp.pl (g : Gp) : Int × List Int := (g.hash, g.ids)
def gAL (gs : List Gp) : AL := gs.map fun g => (g.hash, g.val)
def gX (gs : List Gp) : List Ent := gs.map Gp.ent
theorem gX_all (gs : List Gp) : (gX gs).all (·.1) = true := by simp [gX, Gp.ent]
abbrev GS := List (Int × List Int)
def gput : GS → Int → Int → GS
  | [], h, i => [(h, [i])]
  | x :: r, h, i => if x.1 = h then (h, x.2 ++ [i]) :: r else x :: gput r h i
def grps (prs : List (Int × Int)) : GS := prs.foldl (fun g p => gput g p.1 p.2) []
theorem grps_snoc (prs : List (Int × Int)) (h i : Int) : grps (prs ++ [(h, i)]) = gput (grps prs) h i := by simp [grps]
theorem gfind (gs : List Gp) (h i : Int) :
    (∃ A g B, gs = A ++ g :: B ∧ g.hash = h ∧ aget (gAL gs) h = some g.val ∧ (∀ v, aput (gAL gs) h v = gAL A ++ (h, v) :: gAL B) ∧ gput (gs.map Gp.pl) h i = A.map Gp.pl ++ (h, g.ids ++ [i]) :: B.map Gp.pl) ∨
    (aget (gAL gs) h = none ∧ (∀ v, aput (gAL gs) h v = gAL gs ++ [(h, v)]) ∧ gput (gs.map Gp.pl) h i = gs.map Gp.pl ++ [(h, [i])]) := by
  induction gs with
  | nil => exact .inr ⟨rfl, fun _ => rfl, rfl⟩
  | cons x r ih =>
    by_cases hx : x.hash = h
    · refine .inl ⟨[], x, r, rfl, hx, ?_, fun v => ?_, ?_⟩
      · show (if x.hash = h then some x.val else _) = _
        rw [if_pos hx]
      · show (if x.hash = h then (h, v) :: gAL r else _) = _
        rw [if_pos hx]
        rfl
      · show (if x.hash = h then (h, x.ids ++ [i]) :: r.map Gp.pl else _) = _
        rw [if_pos hx]
        rfl
    · rcases ih with ⟨A, g, B, rfl, h1, h2, h3, h4⟩ | ⟨h1, h2, h3⟩
      · refine .inl ⟨x :: A, g, B, rfl, h1, ?_, fun v => ?_, ?_⟩
        · show (if x.hash = h then some x.val else aget (gAL _) h) = _
          rw [if_neg hx]
          exact h2
        · show (if x.hash = h then (h, v) :: gAL _ else (x.hash, x.val) :: aput (gAL _) h v) = _
          rw [if_neg hx, h3]
          rfl
        · show (if x.hash = h then _ else x.pl :: gput (List.map Gp.pl _) h i) = _
          rw [if_neg hx, h4]
          rfl
      · refine .inr ⟨?_, fun v => ?_, ?_⟩
        · show (if x.hash = h then some x.val else aget (gAL _) h) = _
          rw [if_neg hx]
          exact h1
        · show (if x.hash = h then (h, v) :: gAL _ else (x.hash, x.val) :: aput (gAL _) h v) = _
          rw [if_neg hx, h2]
          rfl
        · show (if x.hash = h then _ else x.pl :: gput (List.map Gp.pl _) h i) = _
          rw [if_neg hx, h3]
          rfl
/-- Whether an answer counts. -/
def selP (h : KH) (p : Pr) : Bool := p.has && decide (p.compact = h.compact)
def prs (own : Int) (h : KH) (ps : List Pr) : List (Int × Int) := (h.hash, own) :: (ps.filter (selP h)).map fun p => (p.hash, p.id)
theorem prs_snoc_yes {own : Int} {h : KH} {ps : List Pr} {p : Pr} (hp : selP h p = true) : prs own h (ps ++ [p]) = prs own h ps ++ [(p.hash, p.id)] := by simp [prs, hp]
theorem prs_snoc_no {own : Int} {h : KH} {ps : List Pr} {p : Pr} (hp : selP h p = false) : prs own h (ps ++ [p]) = prs own h ps := by simp [prs, hp]
/-- One of many in the front. -/
theorem bag_take {S : List Nat} {w0 w : World} {A B : List Gp} {g : Gp} {L : List Ent} (H : St S w0 w ((true, bag (gX (A ++ g :: B))) :: L)) : St S w0 w (g.ent :: (true, bag (gX (A ++ B))) :: L) := by
  have H1 := st_unfold H
  have hp : (gX (A ++ g :: B) ++ L).Perm (gX (A ++ B) ++ g.ent :: L) := by
    simp only [gX, List.map_append, List.map_cons, List.append_assoc, List.cons_append]
    refine List.Perm.append_left _ ?_
    exact List.perm_middle.symm
  have H2 := st_fold (gX_all _) (H1.reorder hp)
  exact H2.reorder (List.Perm.swap _ _ _)
theorem bag_back {S : List Nat} {w0 w : World} {A B : List Gp} {g : Gp} {L : List Ent} (H : St S w0 w (g.ent :: (true, bag (gX (A ++ B))) :: L)) : St S w0 w ((true, bag (gX (A ++ g :: B))) :: L) := by
  have H1 := st_unfold (H.reorder (List.Perm.swap _ _ _))
  have hp : (gX (A ++ B) ++ g.ent :: L).Perm (gX (A ++ g :: B) ++ L) := by
    simp only [gX, List.map_append, List.map_cons, List.append_assoc, List.cons_append]
    refine List.Perm.append_left _ ?_
    exact List.perm_middle
  exact st_fold (gX_all _) (H1.reorder hp)
end Go.Proofs.Ytelddhcggmfloaa
