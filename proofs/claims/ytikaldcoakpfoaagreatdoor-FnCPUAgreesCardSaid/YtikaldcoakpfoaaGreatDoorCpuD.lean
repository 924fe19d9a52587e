import Derived.Test.YtikaldcoakpfoaaGreatDoorCpuC
-- MORE
-- SUB2
namespace Go.Proofs.YtikaldcoakpfoaaGreatDoor
set_option linter.unusedVariables false
set_option linter.unusedSimpArgs false
set_option linter.unnecessarySimpa false
open Go Go.RowKit Go.V Go.Lib Go.Sort

def sortI (l : List Int) : List Int := l.mergeSort fun x y => decide (x ≤ y)
theorem sortI_sorted (l : List Int) : (sortI l).Pairwise (· ≤ ·) := by
  have := List.pairwise_mergeSort (le := fun x y : Int => decide (x ≤ y)) (by intro a b c h1 h2; simp at h1 h2 ⊢; omega) (by intro a b; simp; omega) l
  exact this.imp (fun h => by simpa using h)
theorem sortI_perm (l : List Int) : (sortI l).Perm l := List.mergeSort_perm _ _
theorem sorted_eq {a b : List Int} (ha : a.Pairwise (· ≤ ·)) (hb : b.Pairwise (· ≤ ·)) (h : a.Perm b) : a = b :=
  List.Perm.eq_of_pairwise (le := (· ≤ ·)) (fun x y _ _ h1 h2 => Int.le_antisymm h1 h2) ha hb h
theorem sortI_of_perm {a b : List Int} (h : a.Perm b) : sortI a = sortI b := sorted_eq (sortI_sorted a) (sortI_sorted b) ((sortI_perm a).trans (h.trans (sortI_perm b).symm))
theorem sortI_len (l : List Int) : (sortI l).length = l.length := (sortI_perm l).length_eq
theorem row_some {w : World} {key : Option Nat} {T : TypeId} {s n cap : Nat} {xs : List Value} (h : holds w (.row key T s n cap xs)) (hn : 0 < n) : ∃ b, key = some b := by
  cases key with
  | none => exact absurd h.1 (by omega)
  | some b => exact ⟨b, rfl⟩
/-- sort.Ints of a row. -/
theorem ints_calls (S : List Nat) (key : Option Nat) (n cap : Nat) (zs : List Int) (hn : Hid (n = zs.length)) (hnn : n ≤ 1000000000) (w : World) (H : St S w w [(true, .row key 3 1 n cap (intsN zs))]) :
    Calls Tryz.prog 48 #[sl key n cap] w fun e w' => e = .returned (.tuple #[]) ∧ St S w w' [(true, .row key 3 1 n cap (intsN (sortI zs)))] := by
  have hn' := hn.out
  subst hn'
  cases zs with
  | nil =>
    refine (Tryz.sort_Ints_none (key.map fun b => ⟨b, 0, none⟩) cap w).mono ?_
    rintro e w' ⟨rfl, rfl⟩
    refine ⟨rfl, ?_⟩
    have e : sortI [] = [] := by simp [sortI]
    rw [e]
    exact H
  | cons z zs =>
    obtain ⟨kb, rfl⟩ := row_some (H.get (Split.here _ _)) (by simp)
    refine (Tryz.sort_Ints kb 0 cap (z :: zs) w (row_Holds (Value.int .i64) (H.get (Split.here _ _))) (H.lt (Split.here _ _).mem (by simp [Kn.fp])) (by omega)).mono ?_
    rintro e w' ⟨rfl, q, os, rfl⟩
    exact ⟨rfl, H.sorted (Value.int .i64) (ys := sortI (z :: zs)) q os (Split.here _ _) (sortI_len _)⟩
/-- slices.Sort of a row. -/
theorem sort_calls (S : List Nat) (key : Option Nat) (n cap : Nat) (zs : List Int) (hn : Hid (n = zs.length)) (hnn : n ≤ 1000000000) (w : World) (H : St S w w [(true, .row key 3 1 n cap (intsN zs))]) :
    Calls Tryz.prog 43 #[sl key n cap] w fun e w' => e = .returned (.tuple #[]) ∧ St S w w' [(true, .row key 3 1 n cap (intsN (sortI zs)))] := by
  have hn' := hn.out
  subst hn'
  cases zs with
  | nil =>
    refine (Tryz.slices_Sort_int_none (key.map fun b => ⟨b, 0, none⟩) cap w).mono ?_
    rintro e w' ⟨rfl, rfl⟩
    refine ⟨rfl, ?_⟩
    have e : sortI [] = [] := by simp [sortI]
    rw [e]
    exact H
  | cons z zs =>
    obtain ⟨kb, rfl⟩ := row_some (H.get (Split.here _ _)) (by simp)
    refine (Tryz.slices_Sort_int kb 0 cap (z :: zs) w (row_Holds (Value.int .i64) (H.get (Split.here _ _))) (H.lt (Split.here _ _).mem (by simp [Kn.fp])) (by omega)).mono ?_
    rintro e w' ⟨rfl, q, os, rfl⟩
    exact ⟨rfl, H.sorted (Value.int .i64) (ys := sortI (z :: zs)) q os (Split.here _ _) (sortI_len _)⟩
set_option maxHeartbeats 400000 in
set_option maxRecDepth 8000 in
theorem setList_calls (m clock : Nat) (es : Array MapEntry) (l : List Int) (hl : Hid (SetI es clock l)) (hln : l.length ≤ 100000000) (w : World) (H : St [] w w [(false, .is m (.map es clock))]) :
    Calls Tryz.prog 29 #[setV m] w fun e w' => ∃ key n cap, Hid (n = l.length) ∧ e = .returned (sl key n cap) ∧ St [] w w' [(true, .row key 3 1 n cap (intsN (sortI l)))] := by
  go_enter Tryz.func29, Tryz.ntmps29
  repeat' (first | (go_big_may; (first
    | go_skip
    | ((first
        | (go_at_call 47; refine Calls.mono (unsorted_calls m clock es l hl hln _ (H.pick (by repeat (first | exact Picks.nil _ | (apply Picks.wr; focus (repeat (first | exact Split.here _ _ | apply Split.there))) | (apply Picks.rd; focus (repeat (first | exact Split.here _ _ | apply Split.there))))))) ?_; rintro e w' ⟨key, n, cap, zs, hz, rfl, H'⟩; replace H := H.merge (by first | exact Strikes.nil _ | (repeat (first | exact Strikes.nil _ | (apply Strikes.cons; focus (repeat (first | exact Split.here _ _ | apply Split.there)))))) H' rfl; clear H')
        | (refine loud_ rfl ?_; refine wpList_plain rfl (fun K hK => ?_); (first | (refine op_box _ _ rfl H (fun b w' H1 => hK _ _ ?_)) | (refine op_alloc _ rfl (zero_of _ _ rfl) H (fun b w' H1 => hK _ _ ?_)) | (refine op_store _ _ _ rfl rfl rfl H (by repeat (first | exact Split.here _ _ | apply Split.there)) (by kernel_rfl) (by kernel_rfl) (by kernel_rfl) (fun w' H1 => hK _ _ ?_)) | (refine op_buildSlice_all _ _ _ rfl (by first | exact elem22 | exact elem60 | exact elem66 | exact elem72 | exact elem74) (by kernel_rfl) (by kernel_rfl) (by kernel_rfl) H (fun b w' H1 => hK _ _ ?_))); clear hK K; replace H := H1; clear H1)); (try clear hc); (try simp only [nrm, splice, Value.cells, Nat.reduceAdd, Act.eval, Act.put] at H); have hc := H.cells; simp only [CellsOf, KnCells, knc, Nat.reduceAdd] at hc))) | go_values | go_skip | go_guarded | go_step | go_upon | go_back | dsimp only)
  go_at_call 48
  have hnn : n ≤ 100000000 := by rw [hz.out.2, hz.out.1.length_eq]; exact hln
  refine Calls.mono (ints_calls _ key n cap zs hz.out.2 (by omega) _ (H.pick (by repeat (first | exact Picks.nil _ | (apply Picks.wr; focus (repeat (first | exact Split.here _ _ | apply Split.there))) | (apply Picks.rd; focus (repeat (first | exact Split.here _ _ | apply Split.there))))))) ?_
  rintro e w' ⟨rfl, H'⟩
  replace H := H.merge (by first | exact Strikes.nil _ | (repeat (first | exact Strikes.nil _ | (apply Strikes.cons; focus (repeat (first | exact Split.here _ _ | apply Split.there)))))) H' rfl
  clear H'
  (try simp only [nrm, splice, Value.cells, Nat.reduceAdd, Act.eval, Act.put] at H); have hc := H.cells; simp only [CellsOf, KnCells, knc, Nat.reduceAdd] at hc
  have hfin : Hid (sortI zs = sortI l ∧ n = l.length) := ⟨sortI_of_perm hz.out.1, by rw [hz.out.2, hz.out.1.length_eq]⟩
  rw [hfin.out.1] at H
  repeat' (first | (go_big_may; (first
    | ((first
        | (refine loud_ rfl ?_; refine wpList_plain rfl (fun K hK => ?_); (first | (refine op_box _ _ rfl H (fun b w' H1 => hK _ _ ?_)) | (refine op_alloc _ rfl (zero_of _ _ rfl) H (fun b w' H1 => hK _ _ ?_)) | (refine op_store _ _ _ rfl rfl rfl H (by repeat (first | exact Split.here _ _ | apply Split.there)) (by kernel_rfl) (by kernel_rfl) (by kernel_rfl) (fun w' H1 => hK _ _ ?_)) | (refine op_buildSlice_all _ _ _ rfl (by first | exact elem22 | exact elem60 | exact elem66 | exact elem72 | exact elem74) (by kernel_rfl) (by kernel_rfl) (by kernel_rfl) H (fun b w' H1 => hK _ _ ?_))); clear hK K; replace H := H1; clear H1)); (try clear hc); (try simp only [nrm, splice, Value.cells, Nat.reduceAdd, Act.eval, Act.put] at H); have hc := H.cells; simp only [CellsOf, KnCells, knc, Nat.reduceAdd] at hc))) | go_values | go_skip | go_guarded | go_step | go_upon | go_back | dsimp only)
  go_ret
  exact ⟨key, n, cap, hfin.out.2, rfl, H.top1⟩
end Go.Proofs.YtikaldcoakpfoaaGreatDoor
