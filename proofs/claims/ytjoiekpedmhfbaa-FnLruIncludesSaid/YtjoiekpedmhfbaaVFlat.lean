import Derived.Test.YtjoiekpedmhfbaaVSkip
namespace Go.V
set_option linter.unusedVariables false
set_option linter.unusedSimpArgs false
set_option linter.unnecessarySimpa false
open Go Go.RowKit
theorem app_cons {α : Type} (a : α) (l m : List α) {r : List α} (h : List.append l m = r) : List.append (a :: l) m = a :: r := by rw [← h]; rfl
theorem app_nil {α : Type} (m : List α) : List.append [] m = m := rfl
theorem app_app {α : Type} (l m n : List α) {r s : List α} (h : List.append l m = r) (k : List.append r n = s) : List.append (List.append l m) n = s := by rw [h]; exact k
/-- A long region, written out. -/
theorem region_flat {P : Program} {Q : Exit → Act → World → Prop} {id : Nat} {d : Bool} {a : Act} {w : World} {l l' : List Oper} (h : l = l') (k : (Code.region id l'.toArray d).wp P Q a w) : (Code.region id l.toArray d).wp P Q a w := by
  subst h
  exact k
end Go.V
