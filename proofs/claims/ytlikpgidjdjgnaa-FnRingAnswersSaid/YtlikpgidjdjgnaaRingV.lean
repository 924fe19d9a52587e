import Derived.Test.YtlikpgidjdjgnaaRingU
import Derived.Test.YtlikpgidjdjgnaaVOpen
-- MORE
namespace Go.Proofs.Ytlikpgidjdjgnaa
set_option linter.unusedVariables false
set_option linter.unusedSimpArgs false
set_option linter.unnecessarySimpa false
open Go.RowKit Go.V

theorem liesAny {w : World} {src : Option Addr} {xs : List Value} {j : Nat} {u : Value} (h : Lies w src xs) (hj : xs[j]? = some u) : ∃ b o, src = some ⟨b, o, none⟩ ∧ w.cell? ⟨b, o + j, none⟩ = some u := by
  cases src with
  | none =>
    rw [h.1 rfl] at hj
    simp at hj
  | some a =>
    obtain ⟨b, o, sp⟩ := a
    have h1 := h.2 _ rfl j u hj
    have hsp : sp = none := by
      cases sp with
      | none => rfl
      | some x =>
        exfalso
        cases xs with
        | nil => simp at hj
        | cons v xs =>
          have h2 : w.cell? ⟨b, o, some x⟩ = some v := h.2 _ rfl 0 v rfl
          unfold World.cell? at h2
          split at h2 <;> simp at h2
    subst hsp
    refine ⟨b, o, rfl, ?_⟩
    rw [← h1]
    congr 1
    unfold Addr.add
    split
    · simp_all
    · rfl
theorem _root_.Go.V.St.cellOf {S : List Nat} {w0 w : World} {L A B : List Ent} {src : Option Addr} {j : Nat} {xs : List Value} {u : Value} (H : St S w0 w L) (hs : Split L (false, soft src xs) A B) (hj : xs[j]? = some u) :
    ∃ b o, src = some ⟨b, o, none⟩ ∧ St S w0 w ((false, .arr (some ⟨b, o + j, none⟩) [u]) :: L) := by
  obtain ⟨b, o, rfl, h1⟩ := liesAny (H.lies hs) hj
  refine ⟨b, o, rfl, ?_⟩
  have hb : b < w.heap.size := by
    unfold World.cell? at h1
    split at h1
    · rename_i hb
      exact lt_of_get hb
    · cases h1
  refine H.sub hs _ ⟨rfl, hb, fun i hi => ?_⟩ ?_
  · have : i = 0 := by simp at hi; omega
    subst this
    simpa using h1
  · intro c hc
    simp only [Kn.fp, Option.toList_some, List.map_cons, List.map_nil, List.mem_singleton] at hc ⊢
    subst hc
    cases xs with
    | nil => simp at hj
    | cons x v => simp [softFp]

def rvals (rs : List (Row Int)) : List Value := rs.flatMap fun r => [r.val]
theorem rvals_at (rs : List (Row Int)) (k : Nat) (hk : k < rs.length) : (rvals rs)[k]? = some (.slice (rs[k]).at' (rs[k]).list.length (rs[k]).cap) := by
  have := flat_at (fun r : Row Int => [r.val]) 1 rs (fun _ _ => rfl) k 0 hk (by omega)
  simpa [rvals, Row.val] using this

theorem fits30_calls (s : Option Addr) (c : Nat) (rs : List (Row Int)) (n : Nat) (w : World) (hn : Hid (rs.length = n)) (H : St [] w w [(false, soft s (rvals rs))]) :
    Calls Try.prog 5 #[.slice s n c] w fun e w' => ∃ t, e = .returned (.bool t) ∧ St [] w w' [] := by
  go_enter Try.func5, Try.ntmps5
  go_wp2_with (first
    | (refine loud_ rfl ?_; refine wpList_plain rfl (fun K hK => ?_); first
      | (refine op_box _ _ rfl H (fun b w' H1 => hK _ _ ?_); clear hK K; replace H := H1; clear H1; (try clear hc); (try simp only [nrm, splice, Value.cells, Nat.reduceAdd, Act.eval, Act.put] at H); have hc := H.cells; simp only [CellsOf, KnCells, arr_lit, knAt_cons, knAt_nil, Nat.zero_add, Nat.add_zero, Nat.reduceAdd] at hc)
      | (refine op_alloc _ rfl (zero_of _ _ rfl) H (fun b w' H1 => hK _ _ ?_); clear hK K; replace H := H1; clear H1; (try clear hc); (try simp only [nrm, splice, Value.cells, Nat.reduceAdd, Act.eval, Act.put] at H); have hc := H.cells; simp only [CellsOf, KnCells, arr_lit, knAt_cons, knAt_nil, Nat.zero_add, Nat.add_zero, Nat.reduceAdd] at hc)
      | (refine op_store _ _ _ rfl rfl rfl H (by repeat (first | exact Split.here _ _ | apply Split.there)) (by kernel_rfl) (by kernel_rfl) (by kernel_rfl) (fun w' H1 => hK _ _ ?_); clear hK K; replace H := H1; clear H1; (try clear hc); (try simp only [nrm, splice, Value.cells, Nat.reduceAdd, Act.eval, Act.put] at H); have hc := H.cells; simp only [CellsOf, KnCells, arr_lit, knAt_cons, knAt_nil, Nat.zero_add, Nat.add_zero, Nat.reduceAdd] at hc)
      | (refine op_buildSlice_all _ _ _ rfl (by first | exact elem22 | exact elem25 | exact elem26 | exact elem29) (by kernel_rfl) (by kernel_rfl) (by kernel_rfl) H (fun b w' H1 => hK _ _ ?_); clear hK K; replace H := H1; clear H1; (try clear hc); (try simp only [nrm, splice, Value.cells, Nat.reduceAdd, Act.eval, Act.put] at H); have hc := H.cells; simp only [CellsOf, KnCells, arr_lit, knAt_cons, knAt_nil, Nat.zero_add, Nat.add_zero, Nat.reduceAdd] at hc)))
  · go_ret
    exact ⟨_, rfl, H.top0⟩
  · go_loopw [10] (fun i wr => ∃ k : Nat, k ≤ n ∧ i = .int .i64 k ∧ St [] w wr [(false, soft s (rvals rs))]) (fun i _ => n - (intOf i).toNat)
    case atStart => exact ⟨0, Nat.zero_le _, rfl, H⟩
    case round =>
      clear H
      obtain ⟨k, hk, rfl, H⟩ := hrel
      by_cases hlt : k < n
      · have hlk : k < rs.length := by rw [hn.out]; exact hlt
        obtain ⟨b1, o1, rfl, H1⟩ := H.cellOf (Split.here _ _) (rvals_at rs k hlk)
        clear H
        have H := H1
        clear H1
        generalize rs[k] = r at *
        clear hlk
        have hc := H.cells; simp only [CellsOf, KnCells, arr_lit, knAt_cons, knAt_nil, Nat.zero_add, Nat.add_zero, Nat.reduceAdd] at hc
        go_wp2_with (first
    | (refine loud_ rfl ?_; refine wpList_plain rfl (fun K hK => ?_); first
      | (refine op_box _ _ rfl H (fun b w' H1 => hK _ _ ?_); clear hK K; replace H := H1; clear H1; (try clear hc); (try simp only [nrm, splice, Value.cells, Nat.reduceAdd, Act.eval, Act.put] at H); have hc := H.cells; simp only [CellsOf, KnCells, arr_lit, knAt_cons, knAt_nil, Nat.zero_add, Nat.add_zero, Nat.reduceAdd] at hc)
      | (refine op_alloc _ rfl (zero_of _ _ rfl) H (fun b w' H1 => hK _ _ ?_); clear hK K; replace H := H1; clear H1; (try clear hc); (try simp only [nrm, splice, Value.cells, Nat.reduceAdd, Act.eval, Act.put] at H); have hc := H.cells; simp only [CellsOf, KnCells, arr_lit, knAt_cons, knAt_nil, Nat.zero_add, Nat.add_zero, Nat.reduceAdd] at hc)
      | (refine op_store _ _ _ rfl rfl rfl H (by repeat (first | exact Split.here _ _ | apply Split.there)) (by kernel_rfl) (by kernel_rfl) (by kernel_rfl) (fun w' H1 => hK _ _ ?_); clear hK K; replace H := H1; clear H1; (try clear hc); (try simp only [nrm, splice, Value.cells, Nat.reduceAdd, Act.eval, Act.put] at H); have hc := H.cells; simp only [CellsOf, KnCells, arr_lit, knAt_cons, knAt_nil, Nat.zero_add, Nat.add_zero, Nat.reduceAdd] at hc)
      | (refine op_buildSlice_all _ _ _ rfl (by first | exact elem22 | exact elem25 | exact elem26 | exact elem29) (by kernel_rfl) (by kernel_rfl) (by kernel_rfl) H (fun b w' H1 => hK _ _ ?_); clear hK K; replace H := H1; clear H1; (try clear hc); (try simp only [nrm, splice, Value.cells, Nat.reduceAdd, Act.eval, Act.put] at H); have hc := H.cells; simp only [CellsOf, KnCells, arr_lit, knAt_cons, knAt_nil, Nat.zero_add, Nat.add_zero, Nat.reduceAdd] at hc)))
        · go_ret
          exact ⟨_, rfl, H.top0⟩
        · exact ⟨⟨k + 1, by omega, by go_num, H.sel (by repeat (first | exact Sel.nil _ | (apply Sel.cons; focus (repeat (first | exact Split.here _ _ | apply Split.there)))))⟩, by simp [intOf]; omega⟩
      · obtain rfl : k = n := by omega
        go_wp2_with (first
    | (refine loud_ rfl ?_; refine wpList_plain rfl (fun K hK => ?_); first
      | (refine op_box _ _ rfl H (fun b w' H1 => hK _ _ ?_); clear hK K; replace H := H1; clear H1; (try clear hc); (try simp only [nrm, splice, Value.cells, Nat.reduceAdd, Act.eval, Act.put] at H); have hc := H.cells; simp only [CellsOf, KnCells, arr_lit, knAt_cons, knAt_nil, Nat.zero_add, Nat.add_zero, Nat.reduceAdd] at hc)
      | (refine op_alloc _ rfl (zero_of _ _ rfl) H (fun b w' H1 => hK _ _ ?_); clear hK K; replace H := H1; clear H1; (try clear hc); (try simp only [nrm, splice, Value.cells, Nat.reduceAdd, Act.eval, Act.put] at H); have hc := H.cells; simp only [CellsOf, KnCells, arr_lit, knAt_cons, knAt_nil, Nat.zero_add, Nat.add_zero, Nat.reduceAdd] at hc)
      | (refine op_store _ _ _ rfl rfl rfl H (by repeat (first | exact Split.here _ _ | apply Split.there)) (by kernel_rfl) (by kernel_rfl) (by kernel_rfl) (fun w' H1 => hK _ _ ?_); clear hK K; replace H := H1; clear H1; (try clear hc); (try simp only [nrm, splice, Value.cells, Nat.reduceAdd, Act.eval, Act.put] at H); have hc := H.cells; simp only [CellsOf, KnCells, arr_lit, knAt_cons, knAt_nil, Nat.zero_add, Nat.add_zero, Nat.reduceAdd] at hc)
      | (refine op_buildSlice_all _ _ _ rfl (by first | exact elem22 | exact elem25 | exact elem26 | exact elem29) (by kernel_rfl) (by kernel_rfl) (by kernel_rfl) H (fun b w' H1 => hK _ _ ?_); clear hK K; replace H := H1; clear H1; (try clear hc); (try simp only [nrm, splice, Value.cells, Nat.reduceAdd, Act.eval, Act.put] at H); have hc := H.cells; simp only [CellsOf, KnCells, arr_lit, knAt_cons, knAt_nil, Nat.zero_add, Nat.add_zero, Nat.reduceAdd] at hc)))
        go_ret
        exact ⟨_, rfl, H.top0⟩

/-- A ring without places. -/
theorem ringNo_calls (places : Int) (ops : Value) (w : World) (h0 : places ≤ 0) (hp : -9223372036854775808 ≤ places) :
    Calls Try.prog 7 #[.int .i64 2, .int .i64 places, .int .i64 0, ops] w fun e w' => e = .returned (.tuple #[.slice none 0 0, .bool false]) ∧ Ext [] w w' := by
  have H := St.init [] w
  have hmin : min (places : Int) 65536 = places := by omega
  go_enter Try.func7, Try.ntmps7
  go_wp2_with (first
    | (go_at_call 12; refine Calls.mono (within_calls _ 0 65536 _ (by omega) (by omega) (by omega)) ?_; rintro e w' ⟨rfl, H'⟩; replace H := H.of_ext H'; clear H'; (try clear hc); (try simp only [nrm, splice, Value.cells, Nat.reduceAdd, Act.eval, Act.put] at H); have hc := H.cells; simp only [CellsOf, KnCells, arr_lit, knAt_cons, knAt_nil, Nat.zero_add, Nat.add_zero, Nat.reduceAdd] at hc)
    | (go_at_call 13; refine Calls.mono (newFixed_no _ _ h0) ?_; rintro e w' ⟨v, rfl, H'⟩; replace H := H.merge (by first | exact Strikes.nil _ | (repeat (first | exact Strikes.nil _ | (apply Strikes.cons; focus (repeat (first | exact Split.here _ _ | apply Split.there)))))) H' rfl; clear H'; (try clear hc); (try simp only [nrm, splice, Value.cells, Nat.reduceAdd, Act.eval, Act.put] at H); have hc := H.cells; simp only [CellsOf, KnCells, arr_lit, knAt_cons, knAt_nil, Nat.zero_add, Nat.add_zero, Nat.reduceAdd] at hc)
    | (refine loud_ rfl ?_; refine wpList_plain rfl (fun K hK => ?_); first
      | (refine op_box _ _ rfl H (fun b w' H1 => hK _ _ ?_); clear hK K; replace H := H1; clear H1; (try clear hc); (try simp only [nrm, splice, Value.cells, Nat.reduceAdd, Act.eval, Act.put] at H); have hc := H.cells; simp only [CellsOf, KnCells, arr_lit, knAt_cons, knAt_nil, Nat.zero_add, Nat.add_zero, Nat.reduceAdd] at hc)
      | (refine op_alloc _ rfl (zero_of _ _ rfl) H (fun b w' H1 => hK _ _ ?_); clear hK K; replace H := H1; clear H1; (try clear hc); (try simp only [nrm, splice, Value.cells, Nat.reduceAdd, Act.eval, Act.put] at H); have hc := H.cells; simp only [CellsOf, KnCells, arr_lit, knAt_cons, knAt_nil, Nat.zero_add, Nat.add_zero, Nat.reduceAdd] at hc)
      | (refine op_store _ _ _ rfl rfl rfl H (by repeat (first | exact Split.here _ _ | apply Split.there)) (by kernel_rfl) (by kernel_rfl) (by kernel_rfl) (fun w' H1 => hK _ _ ?_); clear hK K; replace H := H1; clear H1; (try clear hc); (try simp only [nrm, splice, Value.cells, Nat.reduceAdd, Act.eval, Act.put] at H); have hc := H.cells; simp only [CellsOf, KnCells, arr_lit, knAt_cons, knAt_nil, Nat.zero_add, Nat.add_zero, Nat.reduceAdd] at hc)
      | (refine op_buildSlice_all _ _ _ rfl (by first | exact elem22 | exact elem25 | exact elem26 | exact elem29) (by kernel_rfl) (by kernel_rfl) (by kernel_rfl) H (fun b w' H1 => hK _ _ ?_); clear hK K; replace H := H1; clear H1; (try clear hc); (try simp only [nrm, splice, Value.cells, Nat.reduceAdd, Act.eval, Act.put] at H); have hc := H.cells; simp only [CellsOf, KnCells, arr_lit, knAt_cons, knAt_nil, Nat.zero_add, Nat.add_zero, Nat.reduceAdd] at hc)))
  go_ret2
  exact ⟨rfl, H.ext⟩
end Go.Proofs.Ytlikpgidjdjgnaa
