import Derived.Test.YtelddhcggmfloaaCkV
import Derived.Test.YtelddhcggmfloaaVOpen
namespace Go.Proofs.Ytelddhcggmfloaa
set_option linter.unusedVariables false
set_option linter.unusedSimpArgs false
set_option linter.unnecessarySimpa false
open Go.RowKit Go.V Go.ChangeShapes Go.WideShapes Go.ChangeAt

theorem own : ownKnob Try.prog.godebug = none := by kernel_rfl
theorem laidOut : laidOutB Try.prog = true := by kernel_rfl
theorem slice_of {P : Program} {w : World} {t e : TypeId} (ht : P.underlying t = some (.slice e)) {r : Reach} {b : Nat} {v : Value} (hv : Value.okWide P w r b t v) {s : Option Addr} {n c : Nat} (h : v.cells.toList = [.slice s n c]) : v = .slice s n c := by
  unfold Value.okWide at hv
  rw [ht] at hv
  unfold Cell.okWide at hv
  simp only [ht] at hv
  unfold Cell.ok at hv
  rw [ht] at hv
  cases v <;> simp_all [Value.cells]
section
variable {H : Type} {enc : TypeId × Value → H} {w : World}
theorem opens_pr : Opens enc Try.prog w 29 Pr.cells (fun _ => True) :=
  (opens_struct Try.underlying29 (by kernel_rfl) (opensFs_cons (by kernel_rfl) (opens_int Try.underlying27) (opensFs_cons (by kernel_rfl) (opens_bool Try.underlying4) (opensFs_cons (by kernel_rfl) (opens_int Try.underlying22)
    (opensFs_cons (by kernel_rfl) (opens_int Try.underlying2) (opensFs_cons (by kernel_rfl) (opens_int Try.underlying2) (opensFs_cons (by kernel_rfl) (opens_int Try.underlying3) (opensFs_nil _)))))))).map
    (fun p => ⟨p.1, p.2.1, p.2.2.1, p.2.2.2.1, p.2.2.2.2.1, p.2.2.2.2.2.1⟩) (fun _ => rfl) (fun _ _ => trivial)
theorem opens_prs : Opens enc Try.prog w 25 (fun r : Row Pr => [r.val]) (fun r => r.list.length ≤ r.cap ∧ Soft w r.at' (r.list.flatMap Pr.cells)) :=
  (opens_slice Try.underlying25 opens_pr (fun _ => by kernel_rfl)).map id (fun _ => rfl) (fun _ h => ⟨h.1, h.2.2.1⟩)
theorem opens_kh : Opens enc Try.prog w 24 KH.cells (fun _ => True) :=
  (opens_struct Try.underlying24 (by kernel_rfl) (opensFs_cons (by kernel_rfl) (opens_int Try.underlying22) (opensFs_cons (by kernel_rfl) (opens_int Try.underlying2) (opensFs_cons (by kernel_rfl) (opens_int Try.underlying2) (opensFs_nil _))))).map
    (fun p => ⟨p.1, p.2.1, p.2.2.1⟩) (fun _ => rfl) (fun _ _ => trivial)
end
set_option maxRecDepth 8000 in
theorem open_kh {H : Type} {enc : TypeId × Value → H} {W : World} {v : Value} {d : DataW H} {p : List MemPlace} {b : Nat} {r : Reach} (h : DataW.Trod enc Try.prog W 0 (fun _ => true) true 24 v d p) (hv : Value.okWide Try.prog W r b 24 v) :
    ∃ x : KH, v = x.val := by
  obtain ⟨x, h1, _⟩ := opens_kh.one h
  exact ⟨x, agg_of Try.underlying24 hv h1⟩
end Go.Proofs.Ytelddhcggmfloaa
