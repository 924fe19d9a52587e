import Derived.Test.YtdcijhdjddiboaaDoorT
import Derived.Test.YtdcijhdjddiboaaDoorVDraw
import Derived.Test.YtdcijhdjddiboaaDoorVMore
import Derived.Test.YtdcijhdjddiboaaDoorVSkip
import Derived.Outline
import Derived.WalkSpells
import Derived.Lib.Hide
import Derived.Laws.StructEq
-- MORE
namespace Go.Proofs.YtdcijhdjddiboaaDoor
set_option linter.unusedVariables false
set_option linter.unusedSimpArgs false
set_option linter.unnecessarySimpa false
open Go.RowKit Go.V

/-- A version's three numbers. -/
structure Vr where
  a : Int
  b : Int
  c : Int
abbrev Vr.val (x : Vr) : Value := .agg #[.int .i64 x.a, .int .i64 x.b, .int .i64 x.c]
abbrev Vr.obj (x : Vr) (T : TypeId) : Obj := .cells #[.int .i64 x.a, .int .i64 x.b, .int .i64 x.c] T (0, 0)
def vless (x y : Vr) : Bool := if x.a = y.a then (if x.b = y.b then decide (x.c < y.c) else decide (x.b < y.b)) else decide (x.a < y.a)
def veq (x y : Vr) : Bool := decide (x.a = y.a ∧ x.b = y.b ∧ x.c = y.c)
def vbase (x : Vr) : Vr := ⟨x.a, x.b, 0⟩
def vprev (x : Vr) : Vr := ⟨x.a, x.b - 1, 0⟩
def vdown (f t : Vr) : Bool := veq t (vprev f)
structure Vr.Ok (x : Vr) : Prop where
  a : 0 ≤ x.a ∧ x.a ≤ 9999
  b : 0 ≤ x.b ∧ x.b ≤ 9999
  c : 0 ≤ x.c ∧ x.c ≤ 9999
theorem vless_c {x y : Vr} (h1 : x.a = y.a) (h2 : x.b = y.b) : vless x y = decide (x.c < y.c) := by unfold vless; rw [if_pos h1, if_pos h2]
theorem vless_b {x y : Vr} (h1 : x.a = y.a) (h2 : ¬ x.b = y.b) : vless x y = decide (x.b < y.b) := by unfold vless; rw [if_pos h1, if_neg h2]
theorem vless_a {x y : Vr} (h1 : ¬ x.a = y.a) : vless x y = decide (x.a < y.a) := by unfold vless; rw [if_neg h1]

theorem ret_bool {a b : Bool} (h : a = b) : Ending.returned (.bool a) = .returned (.bool b) := by rw [h]

theorem verLess_calls (x y : Vr) (w : World) :
    Calls Tryd.prog 17 #[x.val, y.val] w fun e w' => e = .returned (.bool (vless x y)) ∧ Ext [] w w' := by
  obtain ⟨x1, x2, x3⟩ := x
  obtain ⟨y1, y2, y3⟩ := y
  have H := St.init [] w
  by_cases h1 : x1 = y1
  · by_cases h2 : x2 = y2
    · rw [vless_c h1 h2]
      subst h1 h2
      go_enter Tryd.func17, Tryd.ntmps17
      go_wp2_with (first
    | ((first
        | (refine loud_ rfl ?_; refine wpList_plain rfl (fun K hK => ?_); (first | (refine op_box _ _ rfl H (fun b w' H1 => hK _ _ ?_)) | (refine op_alloc _ rfl (zero_of _ _ rfl) H (fun b w' H1 => hK _ _ ?_)) | (refine op_store _ _ _ rfl rfl rfl H (by repeat (first | exact Split.here _ _ | apply Split.there)) (by kernel_rfl) (by kernel_rfl) (by kernel_rfl) (fun w' H1 => hK _ _ ?_)) | (refine op_buildSlice_all _ _ _ rfl (by first | exact elem22 | exact elem39 | exact elem76 | exact elem154) (by kernel_rfl) (by kernel_rfl) (by kernel_rfl) H (fun b w' H1 => hK _ _ ?_))); clear hK K; replace H := H1; clear H1)); (try clear hc); (try simp only [nrm, splice, Value.cells, Nat.reduceAdd, Act.eval, Act.put] at H); have hc := H.cells; simp only [CellsOf, KnCells, knc, Nat.reduceAdd] at hc))
      go_ret
      exact ⟨rfl, H.ext⟩
    · rw [vless_b h1 h2]
      subst h1
      go_enter Tryd.func17, Tryd.ntmps17
      go_wp2_with (first
    | ((first
        | (refine loud_ rfl ?_; refine wpList_plain rfl (fun K hK => ?_); (first | (refine op_box _ _ rfl H (fun b w' H1 => hK _ _ ?_)) | (refine op_alloc _ rfl (zero_of _ _ rfl) H (fun b w' H1 => hK _ _ ?_)) | (refine op_store _ _ _ rfl rfl rfl H (by repeat (first | exact Split.here _ _ | apply Split.there)) (by kernel_rfl) (by kernel_rfl) (by kernel_rfl) (fun w' H1 => hK _ _ ?_)) | (refine op_buildSlice_all _ _ _ rfl (by first | exact elem22 | exact elem39 | exact elem76 | exact elem154) (by kernel_rfl) (by kernel_rfl) (by kernel_rfl) H (fun b w' H1 => hK _ _ ?_))); clear hK K; replace H := H1; clear H1)); (try clear hc); (try simp only [nrm, splice, Value.cells, Nat.reduceAdd, Act.eval, Act.put] at H); have hc := H.cells; simp only [CellsOf, KnCells, knc, Nat.reduceAdd] at hc))
      go_ret
      exact ⟨rfl, H.ext⟩
  · rw [vless_a h1]
    go_enter Tryd.func17, Tryd.ntmps17
    go_wp2_with (first
    | ((first
        | (refine loud_ rfl ?_; refine wpList_plain rfl (fun K hK => ?_); (first | (refine op_box _ _ rfl H (fun b w' H1 => hK _ _ ?_)) | (refine op_alloc _ rfl (zero_of _ _ rfl) H (fun b w' H1 => hK _ _ ?_)) | (refine op_store _ _ _ rfl rfl rfl H (by repeat (first | exact Split.here _ _ | apply Split.there)) (by kernel_rfl) (by kernel_rfl) (by kernel_rfl) (fun w' H1 => hK _ _ ?_)) | (refine op_buildSlice_all _ _ _ rfl (by first | exact elem22 | exact elem39 | exact elem76 | exact elem154) (by kernel_rfl) (by kernel_rfl) (by kernel_rfl) H (fun b w' H1 => hK _ _ ?_))); clear hK K; replace H := H1; clear H1)); (try clear hc); (try simp only [nrm, splice, Value.cells, Nat.reduceAdd, Act.eval, Act.put] at H); have hc := H.cells; simp only [CellsOf, KnCells, knc, Nat.reduceAdd] at hc))
    go_ret
    exact ⟨rfl, H.ext⟩
theorem lessThan_calls (x y : Vr) (w : World) :
    Calls Tryd.prog 58 #[x.val, y.val] w fun e w' => e = .returned (.bool (vless x y)) ∧ Ext [] w w' := by
  obtain ⟨x1, x2, x3⟩ := x
  obtain ⟨y1, y2, y3⟩ := y
  have H := St.init [] w
  by_cases h1 : x1 = y1
  · by_cases h2 : x2 = y2
    · rw [vless_c h1 h2]
      subst h1 h2
      go_enter Tryd.func58, Tryd.ntmps58
      go_wp2_with (first
    | ((first
        | (refine loud_ rfl ?_; refine wpList_plain rfl (fun K hK => ?_); (first | (refine op_box _ _ rfl H (fun b w' H1 => hK _ _ ?_)) | (refine op_alloc _ rfl (zero_of _ _ rfl) H (fun b w' H1 => hK _ _ ?_)) | (refine op_store _ _ _ rfl rfl rfl H (by repeat (first | exact Split.here _ _ | apply Split.there)) (by kernel_rfl) (by kernel_rfl) (by kernel_rfl) (fun w' H1 => hK _ _ ?_)) | (refine op_buildSlice_all _ _ _ rfl (by first | exact elem22 | exact elem39 | exact elem76 | exact elem154) (by kernel_rfl) (by kernel_rfl) (by kernel_rfl) H (fun b w' H1 => hK _ _ ?_))); clear hK K; replace H := H1; clear H1)); (try clear hc); (try simp only [nrm, splice, Value.cells, Nat.reduceAdd, Act.eval, Act.put] at H); have hc := H.cells; simp only [CellsOf, KnCells, knc, Nat.reduceAdd] at hc))
      go_ret
      exact ⟨rfl, H.ext⟩
    · rw [vless_b h1 h2]
      subst h1
      go_enter Tryd.func58, Tryd.ntmps58
      go_wp2_with (first
    | ((first
        | (refine loud_ rfl ?_; refine wpList_plain rfl (fun K hK => ?_); (first | (refine op_box _ _ rfl H (fun b w' H1 => hK _ _ ?_)) | (refine op_alloc _ rfl (zero_of _ _ rfl) H (fun b w' H1 => hK _ _ ?_)) | (refine op_store _ _ _ rfl rfl rfl H (by repeat (first | exact Split.here _ _ | apply Split.there)) (by kernel_rfl) (by kernel_rfl) (by kernel_rfl) (fun w' H1 => hK _ _ ?_)) | (refine op_buildSlice_all _ _ _ rfl (by first | exact elem22 | exact elem39 | exact elem76 | exact elem154) (by kernel_rfl) (by kernel_rfl) (by kernel_rfl) H (fun b w' H1 => hK _ _ ?_))); clear hK K; replace H := H1; clear H1)); (try clear hc); (try simp only [nrm, splice, Value.cells, Nat.reduceAdd, Act.eval, Act.put] at H); have hc := H.cells; simp only [CellsOf, KnCells, knc, Nat.reduceAdd] at hc))
      go_ret
      exact ⟨rfl, H.ext⟩
  · rw [vless_a h1]
    go_enter Tryd.func58, Tryd.ntmps58
    go_wp2_with (first
    | ((first
        | (refine loud_ rfl ?_; refine wpList_plain rfl (fun K hK => ?_); (first | (refine op_box _ _ rfl H (fun b w' H1 => hK _ _ ?_)) | (refine op_alloc _ rfl (zero_of _ _ rfl) H (fun b w' H1 => hK _ _ ?_)) | (refine op_store _ _ _ rfl rfl rfl H (by repeat (first | exact Split.here _ _ | apply Split.there)) (by kernel_rfl) (by kernel_rfl) (by kernel_rfl) (fun w' H1 => hK _ _ ?_)) | (refine op_buildSlice_all _ _ _ rfl (by first | exact elem22 | exact elem39 | exact elem76 | exact elem154) (by kernel_rfl) (by kernel_rfl) (by kernel_rfl) H (fun b w' H1 => hK _ _ ?_))); clear hK K; replace H := H1; clear H1)); (try clear hc); (try simp only [nrm, splice, Value.cells, Nat.reduceAdd, Act.eval, Act.put] at H); have hc := H.cells; simp only [CellsOf, KnCells, knc, Nat.reduceAdd] at hc))
    go_ret
    exact ⟨rfl, H.ext⟩
set_option maxRecDepth 4000 in
theorem verBase_calls (x : Vr) (w : World) :
    Calls Tryd.prog 16 #[x.val] w fun e w' => e = .returned (vbase x).val ∧ Ext [] w w' := by
  obtain ⟨x1, x2, x3⟩ := x
  have H := St.init [] w
  go_enter Tryd.func16, Tryd.ntmps16
  go_wp2_with (first
    | ((first
        | (refine loud_ rfl ?_; refine wpList_plain rfl (fun K hK => ?_); (first | (refine op_box _ _ rfl H (fun b w' H1 => hK _ _ ?_)) | (refine op_alloc _ rfl (zero_of _ _ rfl) H (fun b w' H1 => hK _ _ ?_)) | (refine op_store _ _ _ rfl rfl rfl H (by repeat (first | exact Split.here _ _ | apply Split.there)) (by kernel_rfl) (by kernel_rfl) (by kernel_rfl) (fun w' H1 => hK _ _ ?_)) | (refine op_buildSlice_all _ _ _ rfl (by first | exact elem22 | exact elem39 | exact elem76 | exact elem154) (by kernel_rfl) (by kernel_rfl) (by kernel_rfl) H (fun b w' H1 => hK _ _ ?_))); clear hK K; replace H := H1; clear H1)); (try clear hc); (try simp only [nrm, splice, Value.cells, Nat.reduceAdd, Act.eval, Act.put] at H); have hc := H.cells; simp only [CellsOf, KnCells, knc, Nat.reduceAdd] at hc))
  exact bodyPost_ret (v := .agg #[.int .i64 x1, .int .i64 x2, .int .i64 0]) (by simp [results, Tryd.results16, go_sem, hc, Act.put]; try rfl) rfl ⟨rfl, H.ext⟩
set_option maxRecDepth 4000 in
theorem verIn_calls (x : Vr) (w : World) :
    Calls Tryd.prog 44 #[x.val] w fun e w' => e = .returned x.val ∧ Ext [] w w' := by
  obtain ⟨x1, x2, x3⟩ := x
  have H := St.init [] w
  go_enter Tryd.func44, Tryd.ntmps44
  go_wp2_with (first
    | ((first
        | (refine loud_ rfl ?_; refine wpList_plain rfl (fun K hK => ?_); (first | (refine op_box _ _ rfl H (fun b w' H1 => hK _ _ ?_)) | (refine op_alloc _ rfl (zero_of _ _ rfl) H (fun b w' H1 => hK _ _ ?_)) | (refine op_store _ _ _ rfl rfl rfl H (by repeat (first | exact Split.here _ _ | apply Split.there)) (by kernel_rfl) (by kernel_rfl) (by kernel_rfl) (fun w' H1 => hK _ _ ?_)) | (refine op_buildSlice_all _ _ _ rfl (by first | exact elem22 | exact elem39 | exact elem76 | exact elem154) (by kernel_rfl) (by kernel_rfl) (by kernel_rfl) H (fun b w' H1 => hK _ _ ?_))); clear hK K; replace H := H1; clear H1)); (try clear hc); (try simp only [nrm, splice, Value.cells, Nat.reduceAdd, Act.eval, Act.put] at H); have hc := H.cells; simp only [CellsOf, KnCells, knc, Nat.reduceAdd] at hc))
  exact bodyPost_ret (v := .agg #[.int .i64 x1, .int .i64 x2, .int .i64 x3]) (by simp [results, Tryd.results44, go_sem, hc, Act.put]; try rfl) rfl ⟨rfl, H.ext⟩
theorem equal_calls (x y : Vr) (w : World) :
    Calls Tryd.prog 53 #[x.val, y.val] w fun e w' => e = .returned (.bool (veq x y)) ∧ Ext [] w w' := by
  obtain ⟨x1, x2, x3⟩ := x
  obtain ⟨y1, y2, y3⟩ := y
  have H := St.init [] w
  go_enter Tryd.func53, Tryd.ntmps53
  go_wp2_with (first
    | ((first
        | (refine loud_ rfl ?_; refine wpList_plain rfl (fun K hK => ?_); (first | (refine op_box _ _ rfl H (fun b w' H1 => hK _ _ ?_)) | (refine op_alloc _ rfl (zero_of _ _ rfl) H (fun b w' H1 => hK _ _ ?_)) | (refine op_store _ _ _ rfl rfl rfl H (by repeat (first | exact Split.here _ _ | apply Split.there)) (by kernel_rfl) (by kernel_rfl) (by kernel_rfl) (fun w' H1 => hK _ _ ?_)) | (refine op_buildSlice_all _ _ _ rfl (by first | exact elem22 | exact elem39 | exact elem76 | exact elem154) (by kernel_rfl) (by kernel_rfl) (by kernel_rfl) H (fun b w' H1 => hK _ _ ?_))); clear hK K; replace H := H1; clear H1)); (try clear hc); (try simp only [nrm, splice, Value.cells, Nat.reduceAdd, Act.eval, Act.put] at H); have hc := H.cells; simp only [CellsOf, KnCells, knc, Nat.reduceAdd] at hc))
  all_goals
    go_ret
    exact ⟨ret_bool (by simp [veq, *]), H.ext⟩
end Go.Proofs.YtdcijhdjddiboaaDoor
