import Derived.Test.YtelddhcggmfloaaCkMa
import Derived.Test.YtelddhcggmfloaaCkU
-- MORE
-- SUB2
namespace Go.Proofs.Ytelddhcggmfloaa
set_option linter.unusedVariables false
set_option linter.unusedSimpArgs false
set_option linter.unnecessarySimpa false
open Go Go.RowKit Go.V

abbrev ckO2 (h : KH) : Obj := .cells #[.int .u32 h.hash, .int .i64 h.compact, .int .i64 h.rev] 24 (0, 0)
abbrev wrongs (own : Int) (h2 : KH) (H : Int) (X : List Pr) : List Int := ((prs own h2 X).filter fun p => decide (p.1 ≠ H)).map (·.2)
theorem compact_major (own : Int) (h2 : KH) (H : Int) (X : List Pr) (bR bP bV bH : Nat) (key : Option Nat) (n cx : Nat) (hn : Hid (X.length = n)) (hn0 : 0 < n) (h12 : n ≤ 12) (hall : Hid (∀ p ∈ X, p.has = true ∧ p.compact = h2.compact)) (hmin : Hid (2 * (wrongs own h2 H X).length < n + 1)) (hrev : Hid (1 ≤ h2.rev)) (w : World)
    (Hs : St [] w w [(false, .is bR (.cells #[.slice (at0 bH) 1 1, .slice (at0 bV) 1 1, .slice (at0 bP) 1 1] 44 (0, 0))), (false, .is bP (.cells #[sl key n cx] 25 (0, 0))), (false, .is bV (.cells #[.int .i64 h2.rev] 2 (0, 0))), (false, .is bH (ckO2 h2)), (false, .row key 29 6 n cx (X.flatMap Pr.cells))]) :
    Calls Try.prog 11 #[.int .u64 own, .slice (at0 bR) 1 1] w fun e w' => ∃ (k7 k8 c7 c8 : Nat) (ka : Option Nat) (na ca kq cq : Nat) (ls : List Int), Hid (ls.Perm (wrongs own h2 H X) ∧ na = ls.length) ∧ e = .returned (.tuple #[.slice (at0 k7) 1 c7, .slice (at0 k8) 1 c8]) ∧
      St [] w w' [(true, .row (some k7) 32 1 1 c7 [sl ka na ca]), (true, .row (some k8) 42 1 1 c8 [.slice (at0 kq) 1 cq]), (true, .row ka 27 1 na ca (ls.map uv)), (true, .row (some kq) 2 1 1 cq [i8 h2.rev])] := by
  have hnn := hn.out
  subst hnn
  have l1 := lies_lit (xs := Rd.cells ⟨⟨at0 bH, 1, [h2]⟩, ⟨at0 bV, 1, [h2.rev]⟩, ⟨at0 bP, 1, [⟨key.map fun b => ⟨b, 0, none⟩, cx, X⟩]⟩⟩) (Hs.get (Split.here _ _))
  have l2 := lies_lit (xs := [(⟨key.map fun b => ⟨b, 0, none⟩, cx, X⟩ : Row Pr)].map Row.val) (Hs.get (Split.there _ (Split.here _ _)))
  have l3 := lies_lit (xs := [h2.rev].map i8) (Hs.get (Split.there _ (Split.there _ (Split.here _ _))))
  have l4 := lies_lit (xs := [h2].flatMap KH.cells) (Hs.get (Split.there _ (Split.there _ (Split.there _ (Split.here _ _)))))
  have l5 := lies_of_row1 (Hs.get (Split.there _ (Split.there _ (Split.there _ (Split.there _ (Split.here _ _))))))
  refine (compact_calls own [⟨⟨at0 bH, 1, [h2]⟩, ⟨at0 bV, 1, [h2.rev]⟩, ⟨at0 bP, 1, [⟨key.map fun b => ⟨b, 0, none⟩, cx, X⟩]⟩⟩] (at0 bR) 1 1 rfl (by omega) w ?_ ((St.init [] w).soft l1)).mono ?_
  · intro d hd
    simp only [List.mem_singleton] at hd
    subst hd
    refine ⟨⟨l4, l3, l2, ?_⟩, (by show 1 ≤ 12; omega), rfl, (by show 1 ≤ 12; omega), ?_⟩
    · intro r hr
      have : r = ⟨key.map fun b => ⟨b, 0, none⟩, cx, X⟩ := by simpa using hr
      subst this
      exact l5
    · intro r hr
      have : r = ⟨key.map fun b => ⟨b, 0, none⟩, cx, X⟩ := by simpa using hr
      subst this
      exact h12
  · rintro e w' ⟨k7, k8, c7, c8, aa, qs, last, hrun, rfl, H'⟩
    obtain ⟨a, q, e1, e2, hone⟩ := run_one hrun.out
    obtain ⟨hperm, rfl⟩ := one_major H hrev.out (by intro h; rw [h] at hn0; simp at hn0) hall.out (by have := hmin.out; rw [List.length_map] at this; exact this) hone
    obtain ⟨ka, ca, rfl⟩ := inline_one e1
    obtain ⟨kq, cq, rfl⟩ := inline_one e2
    have H1 := st_unfold (X := [SlI.entA ⟨ka, ca, a⟩]) (H'.sel (L' := (true, bag [SlI.entA ⟨ka, ca, a⟩]) :: [(true, bag [SlI.entQ ⟨kq, cq, [h2.rev]⟩]), (true, .row k7 32 1 1 c7 [sl ka a.length ca]), (true, .row k8 42 1 1 c8 [sl kq 1 cq])]) (by repeat (first | exact Sel.nil _ | (apply Sel.cons; focus (repeat (first | exact Split.here _ _ | apply Split.there))))))
    have H2 := st_unfold (X := [SlI.entQ ⟨kq, cq, [h2.rev]⟩]) (H1.sel (L' := (true, bag [SlI.entQ ⟨kq, cq, [h2.rev]⟩]) :: [SlI.entA ⟨ka, ca, a⟩, (true, .row k7 32 1 1 c7 [sl ka a.length ca]), (true, .row k8 42 1 1 c8 [sl kq 1 cq])]) (by repeat (first | exact Sel.nil _ | (apply Sel.cons; focus (repeat (first | exact Split.here _ _ | apply Split.there))))))
    have H3 := H2.sel (L' := [(true, .row k7 32 1 1 c7 [sl ka a.length ca]), (true, .row k8 42 1 1 c8 [sl kq 1 cq]), (true, .row ka 27 1 a.length ca (a.map uv)), (true, .row kq 2 1 1 cq [i8 h2.rev])]) (by repeat (first | exact Sel.nil _ | (apply Sel.cons; focus (repeat (first | exact Split.here _ _ | apply Split.there)))))
    obtain ⟨k7, rfl⟩ := row_some (H3.get (Split.here _ _)) (by omega)
    obtain ⟨k8, rfl⟩ := row_some (H3.get (Split.there _ (Split.here _ _))) (by omega)
    obtain ⟨kq, rfl⟩ := row_some (H3.get (Split.there _ (Split.there _ (Split.there _ (Split.here _ _))))) (by omega)
    exact ⟨k7, k8, c7, c8, ka, a.length, ca, kq, cq, a, ⟨hperm, rfl⟩, rfl, H3⟩
end Go.Proofs.Ytelddhcggmfloaa
