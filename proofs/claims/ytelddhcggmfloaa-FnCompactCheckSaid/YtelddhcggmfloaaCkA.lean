import Derived.Test.YtelddhcggmfloaaVSoft
import Derived.Test.YtelddhcggmfloaaVSkip
import Derived.Test.YtelddhcggmfloaaT
import Derived.Lib.Hide
-- MORE
-- SUB2
namespace Go.Proofs.Ytelddhcggmfloaa
set_option linter.unusedVariables false
set_option linter.unusedSimpArgs false
set_option linter.unnecessarySimpa false
open Go Go.RowKit Go.V

/-! What peers answer. -/
structure Pr where
  id : Int
  has : Bool
  hash : Int
  compact : Int
  rev : Int
  err : Int
abbrev cerr : Value := .iface 89 (.string { data := #[109, 118, 99, 99, 58, 32, 114, 101, 113, 117, 105, 114, 101, 100, 32, 114, 101, 118, 105, 115, 105, 111, 110, 32, 104, 97, 115, 32, 98, 101, 101, 110, 32, 99, 111, 109, 112, 97, 99, 116, 101, 100] })
def Pr.cells (p : Pr) : List Value := [.int .u64 p.id, .bool p.has, .int .u32 p.hash, .int .i64 p.compact, .int .i64 p.rev, .int .i64 p.err]
def Pr.pc (p : Pr) : List Value := [.int .u64 p.id, .bool p.has, .int .u32 p.hash, .int .i64 p.compact, .int .i64 p.rev, cerr]
theorem pr_len (l : List Pr) : (l.flatMap Pr.cells).length = l.length * 6 := by
  induction l with
  | nil => rfl
  | cons a l ih => rw [List.flatMap_cons, List.length_append, ih, List.length_cons]; show 6 + _ = _; omega
theorem pc_len (l : List Pr) : (l.flatMap Pr.pc).length = l.length * 6 := by
  induction l with
  | nil => rfl
  | cons a l ih => rw [List.flatMap_cons, List.length_append, ih, List.length_cons]; show 6 + _ = _; omega
theorem lies_of_row1 {w : World} {key : Option Nat} {T : TypeId} {s n cap : Nat} {xs : List Value} (h : holds w (.row key T s n cap xs)) : Lies w (key.map fun b => ⟨b, 0, none⟩) xs := lies_of_arr (row_arr h)
/-- A row that is only read from here on. -/
theorem _root_.Go.V.St.rowSoft {S : List Nat} {w0 w : World} {L A B : List Ent} {key : Option Nat} {T : TypeId} {s n cap : Nat} {xs : List Value} (H : St S w0 w L) (hs : Split L (true, .row key T s n cap xs) A B) : St S w0 w ((false, soft (key.map fun b => ⟨b, 0, none⟩) xs) :: (A ++ B)) := by
  have hl := lies_of_row1 (H.get hs)
  have H1 := H.ro hs
  have hs1 : Split (A ++ (false, .row key T s n cap xs) :: B) (false, .row key T s n cap xs) A B := by
    clear H1 hl H hs
    induction A with
    | nil => exact .here _ _
    | cons x A ih => exact .there _ ih
  have H2 := H1.sub hs1 (soft (key.map fun b => ⟨b, 0, none⟩) xs) (soft_holds hl) (by
    intro c hc
    cases key with
    | none => cases xs <;> simp [Kn.fp, softFp] at hc
    | some k => cases xs <;> simp [Kn.fp, softFp] at hc ⊢; exact hc)
  exact H2.sublist (List.Sublist.cons_cons _ (List.Sublist.append_left (List.sublist_cons_self _ _) _))
def AtPin (n : Nat) (ps : List Pr) (src : Option Addr) (w : World) (ov i : Value) (wr : World) : Prop := ∃ (j : Nat) (key : Option Nat) (cap : Nat), j ≤ n ∧ i = .int .i64 j ∧ ov = sl key j cap ∧
  St [] w wr [(true, .row key 91 6 j cap ((ps.take j).flatMap Pr.pc)), (false, soft src (ps.flatMap Pr.cells))]
set_option maxRecDepth 8000 in
set_option maxHeartbeats 1000000 in
theorem peersIn_calls (ps : List Pr) (src : Option Addr) (n c : Nat) (w : World) (hn : Hid (ps.length = n)) (hl : n ≤ 2147483647) (H : St [] w w [(false, soft src (ps.flatMap Pr.cells))]) :
    Calls Try.prog 19 #[.slice src n c] w fun e w' => ∃ key cap, e = .returned (sl key n cap) ∧
      St [] w w' [(true, .row key 91 6 n cap (ps.flatMap Pr.pc))] := by
  go_enter Try.func19, Try.ntmps19
  repeat' (first | (go_big_may; (first
    | ((first
        | (refine loud_ rfl ?_; refine wpList_plain rfl (fun K hK => ?_); (first | (refine op_box _ _ rfl H (fun b w' H1 => hK _ _ ?_)) | (refine op_alloc _ rfl (zero_of _ _ rfl) H (fun b w' H1 => hK _ _ ?_)) | (refine op_store _ _ _ rfl rfl rfl H (by repeat (first | exact Split.here _ _ | apply Split.there)) (by kernel_rfl) (by kernel_rfl) (by kernel_rfl) (fun w' H1 => hK _ _ ?_)) | (refine op_buildSlice_all _ _ _ rfl (by first | exact elem25 | exact elem32 | exact elem35 | exact elem36 | exact elem37 | exact elem38 | exact elem41 | exact elem42 | exact elem45 | exact elem57 | exact elem62 | exact elem74 | exact elem98 | exact elem100 | exact elem137 | exact elem178 | exact elem179) (by kernel_rfl) (by kernel_rfl) (by kernel_rfl) H (fun b w' H1 => hK _ _ ?_))); clear hK K; replace H := H1; clear H1)); (try clear hc); (try simp only [nrm, splice, Value.cells, Nat.reduceAdd, Act.eval, Act.put] at H); have hc := H.cells; simp only [CellsOf, KnCells, knc, Nat.reduceAdd] at hc))) | go_values | go_skip | go_guarded | go_step | go_upon | go_back | dsimp only)
  have H0 : St [] w w [(true, .row none 91 6 0 0 ((ps.take 0).flatMap Pr.pc)), (false, soft src (ps.flatMap Pr.cells))] := (H.nilRow _ _).sel (by repeat (first | exact Sel.nil _ | (apply Sel.cons; focus (repeat (first | exact Split.here _ _ | apply Split.there)))))
  clear H
  go_loopw [3, 4] (AtPin n ps src w) (fun _ i _ => n - (intOf i).toNat)
  case atStart => exact ⟨0, none, 0, Nat.zero_le _, rfl, rfl, H0⟩
  case round =>
    clear H0
    obtain ⟨j, key, cap, hj, rfl, rfl, H⟩ := hrel
    by_cases hlt : j < n
    · have hj' : j < ps.length := by rw [hn.out]; exact hlt
      have hcat : Hid (ps.take (j + 1) = ps.take j ++ [ps[j]]) := (List.take_append_getElem hj').symm
      obtain ⟨b1, o1, rfl, H1⟩ := H.elemSoft (Split.there _ (Split.here _ _)) (j * 6) (ps[j]).cells (by show 0 < 6; omega) (by rw [pr_len]; show _ + 6 ≤ _; omega) (fun i hi => flat_at Pr.cells 6 ps (fun _ _ => rfl) j i hj' hi)
      clear H
      have H := H1
      clear H1
      generalize ps[j] = p at *
      obtain ⟨id, has, hash, compact, rev, err⟩ := p
      simp only [Pr.cells] at H
      clear hj'
      have hc := H.cells; simp only [CellsOf, KnCells, knc, Nat.reduceAdd] at hc
      repeat' (first | (go_big_may; (first
    | ((first
        | (refine loud_ rfl ?_; refine wpList_plain rfl (fun K hK => ?_); (first | (refine op_append_lit _ _ _ rfl elem57 rfl rfl H (by repeat (first | exact Split.here _ _ | apply Split.there)) (by repeat (first | exact Split.here _ _ | apply Split.there)) (by kernel_rfl) (by kernel_rfl) (by omega) (by unfold maxLen; omega) (fun key cap' w' H1 => hK _ _ ?_)) | (refine op_box _ _ rfl H (fun b w' H1 => hK _ _ ?_)) | (refine op_alloc _ rfl (zero_of _ _ rfl) H (fun b w' H1 => hK _ _ ?_)) | (refine op_store _ _ _ rfl rfl rfl H (by repeat (first | exact Split.here _ _ | apply Split.there)) (by kernel_rfl) (by kernel_rfl) (by kernel_rfl) (fun w' H1 => hK _ _ ?_)) | (refine op_buildSlice_all _ _ _ rfl (by first | exact elem25 | exact elem32 | exact elem35 | exact elem36 | exact elem37 | exact elem38 | exact elem41 | exact elem42 | exact elem45 | exact elem57 | exact elem62 | exact elem74 | exact elem98 | exact elem100 | exact elem137 | exact elem178 | exact elem179) (by kernel_rfl) (by kernel_rfl) (by kernel_rfl) H (fun b w' H1 => hK _ _ ?_))); clear hK K; replace H := H1; clear H1)); (try clear hc); (try simp only [nrm, splice, Value.cells, Nat.reduceAdd, Act.eval, Act.put] at H); have hc := H.cells; simp only [CellsOf, KnCells, knc, Nat.reduceAdd] at hc))) | go_values | go_skip | go_guarded | go_step | go_upon | go_back | dsimp only)
      refine ⟨⟨j + 1, key, cap', by omega, by go_num, rfl, ?_⟩, by simp [intOf]; omega⟩
      rw [hcat.out, List.flatMap_append, List.flatMap_cons, List.flatMap_nil, List.append_nil]
      exact H.sel (by repeat (first | exact Sel.nil _ | (apply Sel.cons; focus (repeat (first | exact Split.here _ _ | apply Split.there)))))
    · obtain rfl : j = n := by omega
      rw [List.take_of_length_le (by rw [hn.out]; omega)] at H
      have hc := H.cells; simp only [CellsOf, KnCells, knc, Nat.reduceAdd] at hc
      repeat' (first | (go_big_may; (first
    | ((first
        | (refine loud_ rfl ?_; refine wpList_plain rfl (fun K hK => ?_); (first | (refine op_box _ _ rfl H (fun b w' H1 => hK _ _ ?_)) | (refine op_alloc _ rfl (zero_of _ _ rfl) H (fun b w' H1 => hK _ _ ?_)) | (refine op_store _ _ _ rfl rfl rfl H (by repeat (first | exact Split.here _ _ | apply Split.there)) (by kernel_rfl) (by kernel_rfl) (by kernel_rfl) (fun w' H1 => hK _ _ ?_)) | (refine op_buildSlice_all _ _ _ rfl (by first | exact elem25 | exact elem32 | exact elem35 | exact elem36 | exact elem37 | exact elem38 | exact elem41 | exact elem42 | exact elem45 | exact elem57 | exact elem62 | exact elem74 | exact elem98 | exact elem100 | exact elem137 | exact elem178 | exact elem179) (by kernel_rfl) (by kernel_rfl) (by kernel_rfl) H (fun b w' H1 => hK _ _ ?_))); clear hK K; replace H := H1; clear H1)); (try clear hc); (try simp only [nrm, splice, Value.cells, Nat.reduceAdd, Act.eval, Act.put] at H); have hc := H.cells; simp only [CellsOf, KnCells, knc, Nat.reduceAdd] at hc))) | go_values | go_skip | go_guarded | go_step | go_upon | go_back | dsimp only)
      go_ret
      exact ⟨key, cap, rfl, H.top1⟩
end Go.Proofs.Ytelddhcggmfloaa
