import Derived.Test.YtikaldcoakpfoaaGreatDoorVMore
namespace Go.Proofs.YtikaldcoakpfoaaGreatDoor
set_option linter.unusedVariables false
set_option linter.unusedSimpArgs false
set_option linter.unnecessarySimpa false
open Go.RowKit Go.V

theorem liesAny {w : World} {src : Option Addr} {xs : List Value} {j : Nat} {u : Value} (h : Lies w src xs) (hj : xs[j]? = some u) : ∃ b o, src = some ⟨b, o, none⟩ ∧ w.cell? ⟨b, o + j, none⟩ = some u := by
  cases src with
  | none =>
    rw [h.1 rfl] at hj
    simp at hj
  | some a =>
    obtain ⟨b, o, sp⟩ := a
    have h1 := h.2 _ rfl j u hj
    have hsp : sp = none := by
      cases sp with
      | none => rfl
      | some x =>
        exfalso
        cases xs with
        | nil => simp at hj
        | cons v xs =>
          have h2 : w.cell? ⟨b, o, some x⟩ = some v := h.2 _ rfl 0 v rfl
          unfold World.cell? at h2
          split at h2 <;> simp at h2
    subst hsp
    refine ⟨b, o, rfl, ?_⟩
    rw [← h1]
    congr 1
    unfold Addr.add
    split
    · simp_all
    · rfl
/-- Some cells of what came in, as cells. -/
theorem _root_.Go.V.St.elemSoft {S : List Nat} {w0 w : World} {L A B : List Ent} {src : Option Addr} {xs : List Value} (H : St S w0 w L) (hs : Split L (false, soft src xs) A B) (i : Nat) (ys : List Value) (h0 : 0 < ys.length) (hi : i + ys.length ≤ xs.length) (hy : ∀ j, j < ys.length → xs[i + j]? = ys[j]?) :
    ∃ b o, src = some ⟨b, o, none⟩ ∧ St S w0 w ((false, .arr (some ⟨b, o + i, none⟩) ys) :: L) := by
  have hl := H.lies hs
  obtain ⟨b, o, rfl, h1⟩ := liesAny hl (j := i) (u := ys[0]) (by have := hy 0 h0; rw [Nat.add_zero] at this; rw [this]; exact List.getElem?_eq_getElem h0)
  refine ⟨b, o, rfl, ?_⟩
  have hb : b < w.heap.size := by
    unfold World.cell? at h1
    split at h1
    · rename_i hb
      exact lt_of_get hb
    · cases h1
  refine H.sub hs _ ⟨rfl, hb, fun j hj => ?_⟩ ?_
  · have h2 := hl.2 _ rfl (i + j) ys[j] (by rw [hy j hj]; exact List.getElem?_eq_getElem hj)
    rw [List.getElem?_eq_getElem hj, ← h2]
    congr 1
    unfold Addr.add
    split
    · simp_all
    · simp [Nat.add_assoc]
  · intro c hc
    simp only [Kn.fp, Option.toList_some, List.map_cons, List.map_nil, List.mem_singleton] at hc ⊢
    subst hc
    cases xs with
    | nil => simp only [List.length_nil] at hi; omega
    | cons x v => simp [softFp]
end Go.Proofs.YtikaldcoakpfoaaGreatDoor
