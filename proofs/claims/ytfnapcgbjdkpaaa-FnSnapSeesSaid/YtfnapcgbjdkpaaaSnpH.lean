import Derived.Test.YtfnapcgbjdkpaaaSnpG
import Derived.Test.YtfnapcgbjdkpaaaSnpE
-- MORE
-- SUB2
namespace Go.Proofs.Ytfnapcgbjdkpaaa
set_option linter.unusedVariables false
set_option linter.unusedSimpArgs false
set_option linter.unnecessarySimpa false
open Go Go.RowKit Go.V Go.Lib

theorem bf_len (k : Nat) (l : List UInt8) : 0 < (bfield k l).length := by rw [bfield, List.length_cons]; omega
theorem vf_len (t : UInt8) (n : Nat) : 0 < (vfield t n).length := by rw [vfield, List.length_cons]; omega
def lenV : Value → Nat
  | .slice _ n _ => n
  | _ => 0
def AtFile (S : List Nat) (w : World) (bf : Nat) (r : Nat) (p : List UInt8) (b : Value) (wr : World) : Prop := ∃ (src : Option Addr) (n c q : Nat) (rest : List UInt8), b = .slice src n c ∧ n ≤ c ∧ n ≤ 1000000000 ∧ q ≤ 2 ∧ Hid (rest.length = n) ∧
  ((q = 0 ∧ rest = vfield 8 r ++ bfield 2 p ∧ St S w wr [(true, .is bf (.cells #[.pointer none, .slice none 0 0] 61 (0, 0))), (false, soft src (by8 rest))]) ∨
   (q = 1 ∧ rest = bfield 2 p ++ [] ∧ ∃ br, St S w wr [(true, .is bf (fileObj (some ⟨br, 0, none⟩) none 0 0)), (true, .is br (u32Obj r)), (false, soft src (by8 rest))]) ∨
   (q = 2 ∧ rest = [] ∧ ∃ br key m cap, Hid (m = p.length) ∧ St S w wr [(true, .is bf (fileObj (some ⟨br, 0, none⟩) (key.map fun b => ⟨b, 0, none⟩) m cap)), (true, .is br (u32Obj r)), (true, .row key 5 1 m cap (by8 p))]))
set_option maxHeartbeats 400000 in
set_option maxRecDepth 8000 in
theorem fileTake_calls (S : List Nat) (bf : Nat) (src : Option Addr) (n c : Nat) (r : Nat) (p : List UInt8) (hr : r < 4294967296) (hl : Hid ((fileB r p).length = n)) (hn : n ≤ 1000000000) (hc' : n ≤ c) (w : World) (H : St S w w [(true, .is bf (.cells #[.pointer none, .slice none 0 0] 61 (0, 0))), (false, soft src (by8 (fileB r p)))]) :
    Calls Try.prog 85 #[.pointer (some ⟨bf, 0, none⟩), .slice src n c] w fun e w' => ∃ br key m cap, Hid (m = p.length) ∧ e = .returned (.bool true) ∧
      St S w w' [(true, .is bf (fileObj (some ⟨br, 0, none⟩) (key.map fun b => ⟨b, 0, none⟩) m cap)), (true, .is br (u32Obj r)), (true, .row key 5 1 m cap (by8 p))] := by
  have hr64 : Hid (r < 18446744073709551616) := by show _ < _; omega
  have hw : wrap64 (r : Int) = r := wrap64_small (by omega) (by omega)
  go_enter Try.func85, Try.ntmps85
  repeat' (first | (go_big_may; (first
    | ((first
        | (refine loud_ rfl ?_; refine wpList_plain rfl (fun K hK => ?_); (first | (refine op_box _ _ rfl H (fun b w' H1 => hK _ _ ?_)) | (refine op_alloc _ rfl (zero_of _ _ rfl) H (fun b w' H1 => hK _ _ ?_)) | (refine op_store _ _ _ rfl rfl rfl H (by repeat (first | exact Split.here _ _ | apply Split.there)) (by kernel_rfl) (by kernel_rfl) (by kernel_rfl) (fun w' H1 => hK _ _ ?_)) | (refine op_buildSlice_all _ _ _ rfl (by first | exact elem23 | exact elem34 | exact elem51 | exact elem148) (by kernel_rfl) (by kernel_rfl) (by kernel_rfl) H (fun b w' H1 => hK _ _ ?_))); clear hK K; replace H := H1; clear H1)); (try clear hc); (try simp only [nrm, splice, Value.cells, Nat.reduceAdd, Act.eval, Act.put] at H); have hc := H.cells; simp only [CellsOf, KnCells, knc, Nat.reduceAdd] at hc))) | go_values | go_skip | go_guarded | go_step | go_upon | go_back | dsimp only)
  go_loopw [1] (AtFile S w bf r p) (fun b _ => lenV b)
  case atStart => exact ⟨src, n, c, 0, _, rfl, hc', hn, by decide, hl, .inl ⟨rfl, rfl, H⟩⟩
  case round =>
    clear H hl
    obtain ⟨src, n, c, q, rest, rfl, hc', hn, _, hl, ⟨rfl, rfl, H⟩ | ⟨rfl, rfl, br, H⟩ | ⟨rfl, rfl, br, key, m, cap, hm, H⟩⟩ := hrel
    · have hpos : 0 < n := by have := hl.out; have := vf_len 8 r; rw [List.length_append] at *; omega
      repeat' (first | (go_big_may; (first
    | ((first
        | (refine loud_ rfl ?_; refine wpList_plain rfl (fun K hK => ?_); (first | (refine op_box _ _ rfl H (fun b w' H1 => hK _ _ ?_)) | (refine op_alloc _ rfl (zero_of _ _ rfl) H (fun b w' H1 => hK _ _ ?_)) | (refine op_store _ _ _ rfl rfl rfl H (by repeat (first | exact Split.here _ _ | apply Split.there)) (by kernel_rfl) (by kernel_rfl) (by kernel_rfl) (fun w' H1 => hK _ _ ?_)) | (refine op_buildSlice_all _ _ _ rfl (by first | exact elem23 | exact elem34 | exact elem51 | exact elem148) (by kernel_rfl) (by kernel_rfl) (by kernel_rfl) H (fun b w' H1 => hK _ _ ?_))); clear hK K; replace H := H1; clear H1)); (try clear hc); (try simp only [nrm, splice, Value.cells, Nat.reduceAdd, Act.eval, Act.put] at H); have hc := H.cells; simp only [CellsOf, KnCells, knc, Nat.reduceAdd] at hc))) | go_values | go_skip | go_guarded | go_step | go_upon | go_back | dsimp only)
      go_at_call 75
      refine Calls.mono (TakeV1 _ _ _ r (bfield 2 p) hl hn hc' hr64 _ (H.pick (by repeat (first | exact Picks.nil _ | (apply Picks.wr; focus (repeat (first | exact Split.here _ _ | apply Split.there))) | (apply Picks.rd; focus (repeat (first | exact Split.here _ _ | apply Split.there))))))) ?_
      rintro e w' ⟨s1, n1, c1, hT1, hn1, hc1, rfl, H'⟩
      replace H := (H.of_ext H').tail (by repeat (first | exact Split.here _ _ | apply Split.there)) hT1.out.2
      clear H'
      have hc := H.cells; simp only [CellsOf, KnCells, knc, Nat.reduceAdd] at hc
      repeat' (first | (go_big_may; (first
    | ((first
        | (refine loud_ rfl ?_; refine wpList_plain rfl (fun K hK => ?_); (first | (refine op_box _ _ rfl H (fun b w' H1 => hK _ _ ?_)) | (refine op_alloc _ rfl (zero_of _ _ rfl) H (fun b w' H1 => hK _ _ ?_)) | (refine op_store _ _ _ rfl rfl rfl H (by repeat (first | exact Split.here _ _ | apply Split.there)) (by kernel_rfl) (by kernel_rfl) (by kernel_rfl) (fun w' H1 => hK _ _ ?_)) | (refine op_buildSlice_all _ _ _ rfl (by first | exact elem23 | exact elem34 | exact elem51 | exact elem148) (by kernel_rfl) (by kernel_rfl) (by kernel_rfl) H (fun b w' H1 => hK _ _ ?_))); clear hK K; replace H := H1; clear H1)); (try clear hc); (try simp only [nrm, splice, Value.cells, Nat.reduceAdd, Act.eval, Act.put] at H); have hc := H.cells; simp only [CellsOf, KnCells, knc, Nat.reduceAdd] at hc))) | go_values | go_skip | go_guarded | go_step | go_upon | go_back | dsimp only)
      (try simp only [Act.put])
      (refine ⟨?_, ?measure⟩; (iterate 20 (try apply Exists.intro)); (iterate 20 (try apply Exists.intro)); (iterate 20 (try apply Exists.intro)); (iterate 20 (try apply Exists.intro)); (iterate 20 (try apply Exists.intro)); (iterate 20 (try apply Exists.intro)); (iterate 20 (try apply Exists.intro)); refine ⟨?rel, rfl⟩)
      case rel => exact ⟨s1, n1, c1, 1, _, rfl, hc1, by omega, by decide, by rw [List.append_nil]; exact hT1.out.1.symm, .inr (.inl ⟨rfl, rfl, b, by rw [List.append_nil]; exact H.sel (by repeat (first | exact Sel.nil _ | (apply Sel.cons; focus (repeat (first | exact Split.here _ _ | apply Split.there)))))⟩)⟩
      case measure => exact hn1
    · have hpos : 0 < n := by have := hl.out; have := bf_len 2 p; rw [List.length_append] at *; omega
      have hc := H.cells; simp only [CellsOf, KnCells, knc, Nat.reduceAdd] at hc
      repeat' (first | (go_big_may; (first
    | ((first
        | (refine loud_ rfl ?_; refine wpList_plain rfl (fun K hK => ?_); (first | (refine op_box _ _ rfl H (fun b w' H1 => hK _ _ ?_)) | (refine op_alloc _ rfl (zero_of _ _ rfl) H (fun b w' H1 => hK _ _ ?_)) | (refine op_store _ _ _ rfl rfl rfl H (by repeat (first | exact Split.here _ _ | apply Split.there)) (by kernel_rfl) (by kernel_rfl) (by kernel_rfl) (fun w' H1 => hK _ _ ?_)) | (refine op_buildSlice_all _ _ _ rfl (by first | exact elem23 | exact elem34 | exact elem51 | exact elem148) (by kernel_rfl) (by kernel_rfl) (by kernel_rfl) H (fun b w' H1 => hK _ _ ?_))); clear hK K; replace H := H1; clear H1)); (try clear hc); (try simp only [nrm, splice, Value.cells, Nat.reduceAdd, Act.eval, Act.put] at H); have hc := H.cells; simp only [CellsOf, KnCells, knc, Nat.reduceAdd] at hc))) | go_values | go_skip | go_guarded | go_step | go_upon | go_back | dsimp only)
      go_at_call 75
      refine Calls.mono (TakeB2 _ _ _ p [] hl hn hc' _ (H.pick (by repeat (first | exact Picks.nil _ | (apply Picks.wr; focus (repeat (first | exact Split.here _ _ | apply Split.there))) | (apply Picks.rd; focus (repeat (first | exact Split.here _ _ | apply Split.there))))))) ?_
      rintro e w' ⟨s1, n1, c1, key, m, cap, hT1, hn1, hc1, hm, rfl, H'⟩
      replace H := H.merge (by first | exact Strikes.nil _ | (repeat (first | exact Strikes.nil _ | (apply Strikes.cons; focus (repeat (first | exact Split.here _ _ | apply Split.there)))))) H' rfl
      clear H'
      (try clear hc)
      (try simp only [nrm, splice, Value.cells, Nat.reduceAdd, Act.eval, Act.put] at H); have hc := H.cells; simp only [CellsOf, KnCells, knc, Nat.reduceAdd] at hc
      repeat' (first | (go_big_may; (first
    | ((first
        | (refine loud_ rfl ?_; refine wpList_plain rfl (fun K hK => ?_); (first | (refine op_box _ _ rfl H (fun b w' H1 => hK _ _ ?_)) | (refine op_alloc _ rfl (zero_of _ _ rfl) H (fun b w' H1 => hK _ _ ?_)) | (refine op_store _ _ _ rfl rfl rfl H (by repeat (first | exact Split.here _ _ | apply Split.there)) (by kernel_rfl) (by kernel_rfl) (by kernel_rfl) (fun w' H1 => hK _ _ ?_)) | (refine op_buildSlice_all _ _ _ rfl (by first | exact elem23 | exact elem34 | exact elem51 | exact elem148) (by kernel_rfl) (by kernel_rfl) (by kernel_rfl) H (fun b w' H1 => hK _ _ ?_))); clear hK K; replace H := H1; clear H1)); (try clear hc); (try simp only [nrm, splice, Value.cells, Nat.reduceAdd, Act.eval, Act.put] at H); have hc := H.cells; simp only [CellsOf, KnCells, knc, Nat.reduceAdd] at hc))) | go_values | go_skip | go_guarded | go_step | go_upon | go_back | dsimp only)
      (try simp only [Act.put])
      (refine ⟨?_, ?measure⟩; (iterate 20 (try apply Exists.intro)); (iterate 20 (try apply Exists.intro)); (iterate 20 (try apply Exists.intro)); (iterate 20 (try apply Exists.intro)); (iterate 20 (try apply Exists.intro)); (iterate 20 (try apply Exists.intro)); (iterate 20 (try apply Exists.intro)); refine ⟨?rel, rfl⟩)
      case rel => exact ⟨s1, n1, c1, 2, [], rfl, hc1, by omega, by decide, hT1.out.1.symm, .inr (.inr ⟨rfl, rfl, br, key, m, cap, hT1.out.2.1, H.sel (by repeat (first | exact Sel.nil _ | (apply Sel.cons; focus (repeat (first | exact Split.here _ _ | apply Split.there)))))⟩)⟩
      case measure => exact hn1
    · obtain rfl : n = 0 := hl.out.symm
      have hc := H.cells; simp only [CellsOf, KnCells, knc, Nat.reduceAdd] at hc
      repeat' (first | (go_big_may; (first
    | ((first
        | (refine loud_ rfl ?_; refine wpList_plain rfl (fun K hK => ?_); (first | (refine op_box _ _ rfl H (fun b w' H1 => hK _ _ ?_)) | (refine op_alloc _ rfl (zero_of _ _ rfl) H (fun b w' H1 => hK _ _ ?_)) | (refine op_store _ _ _ rfl rfl rfl H (by repeat (first | exact Split.here _ _ | apply Split.there)) (by kernel_rfl) (by kernel_rfl) (by kernel_rfl) (fun w' H1 => hK _ _ ?_)) | (refine op_buildSlice_all _ _ _ rfl (by first | exact elem23 | exact elem34 | exact elem51 | exact elem148) (by kernel_rfl) (by kernel_rfl) (by kernel_rfl) H (fun b w' H1 => hK _ _ ?_))); clear hK K; replace H := H1; clear H1)); (try clear hc); (try simp only [nrm, splice, Value.cells, Nat.reduceAdd, Act.eval, Act.put] at H); have hc := H.cells; simp only [CellsOf, KnCells, knc, Nat.reduceAdd] at hc))) | go_values | go_skip | go_guarded | go_step | go_upon | go_back | dsimp only)
      go_ret
      exact ⟨br, key, m, cap, hm, rfl, H⟩
end Go.Proofs.Ytfnapcgbjdkpaaa
