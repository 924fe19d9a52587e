import Derived.Test.YtfnapcgbjdkpaaaSnpA
import Derived.Lib.VarintBits
-- MORE
namespace Go.Proofs.Ytfnapcgbjdkpaaa
set_option linter.unusedVariables false
set_option linter.unusedSimpArgs false
set_option linter.unnecessarySimpa false
open Go Go.RowKit Go.V Go.Lib

theorem u8_toNat {m : Nat} (h : m < 256) : ((m.toUInt8).toNat : Int) = (m : Int) := by
  have : (m.toUInt8).toNat = m % 256 := by simp [Nat.toUInt8]
  rw [this, Nat.mod_eq_of_lt h]
theorem by8_small {m : Nat} (h : m < 128) : by8 (uvarint m) = [.int .u8 m] := by rw [uvarint_small h, by8_cons, by8_nil, u8_toNat (by omega)]
theorem by8_big {m : Nat} (h : 128 ≤ m) : by8 (uvarint m) = .int .u8 ((m % 128 + 128 : Nat) : Int) :: by8 (uvarint (m / 128)) := by rw [uvarint_big h, by8_cons, u8_toNat (by omega)]
theorem or128 (m : Nat) : bits .or .u8 ((m : Int) % 256) 128 = ((m % 128 + 128 : Nat) : Int) := by
  rw [u8_or128_any _ (by omega) (by omega)]
  omega
def AtPut (S : List Nat) (w : World) (k : Nat) (xs : List Value) (n : Nat) (b i : Value) (wr : World) : Prop := ∃ (key : Option Nat) (j cap m : Nat) (ys : List Value), b = sl key j cap ∧ i = .int .u64 m ∧ Hid (j = k + ys.length ∧ by8 (uvarint n) = ys ++ by8 (uvarint m) ∧ m < 18446744073709551616) ∧ j ≤ k + 10 ∧
      St S w wr [(true, .row key 5 1 j cap (xs ++ ys))]
set_option maxHeartbeats 1000000 in
set_option maxRecDepth 8000 in
theorem putVarint_calls (key : Option Nat) (k cap : Nat) (xs : List Value) (S : List Nat) (n : Nat) (hn : n < 18446744073709551616) (hk : k ≤ 1000000000) (w : World) (H : St S w w [(true, .row key 5 1 k cap xs)]) :
    Calls Try.prog 74 #[sl key k cap, .int .u64 n] w fun e w' => ∃ j key cap ys, Hid (ys = by8 (uvarint n) ∧ j = k + ys.length) ∧ j ≤ k + 10 ∧ e = .returned (sl key j cap) ∧ St S w w' [(true, .row key 5 1 j cap (xs ++ ys))] := by
  have h10 := Lib.hid (uvarint_length64 hn)
  have hn' := Lib.hid hn
  clear hn
  go_enter Try.func74, Try.ntmps74
  repeat' (first | (go_big_may; (first
    | ((first
        | (refine loud_ rfl ?_; refine wpList_plain rfl (fun K hK => ?_); (first | (refine op_box _ _ rfl H (fun b w' H1 => hK _ _ ?_)) | (refine op_alloc _ rfl (zero_of _ _ rfl) H (fun b w' H1 => hK _ _ ?_)) | (refine op_store _ _ _ rfl rfl rfl H (by repeat (first | exact Split.here _ _ | apply Split.there)) (by kernel_rfl) (by kernel_rfl) (by kernel_rfl) (fun w' H1 => hK _ _ ?_)) | (refine op_buildSlice_all _ _ _ rfl (by first | exact elem23 | exact elem34 | exact elem51 | exact elem148) (by kernel_rfl) (by kernel_rfl) (by kernel_rfl) H (fun b w' H1 => hK _ _ ?_))); clear hK K; replace H := H1; clear H1)); (try clear hc); (try simp only [nrm, splice, Value.cells, Nat.reduceAdd, Act.eval, Act.put] at H); have hc := H.cells; simp only [CellsOf, KnCells, knc, Nat.reduceAdd] at hc))) | go_values | go_skip | go_guarded | go_step | go_upon | go_back | dsimp only)
  go_loopw [0, 1] (AtPut S w k xs n) (fun _ i _ => (intOf i).toNat)
  case atStart => exact ⟨key, k, cap, n, [], rfl, rfl, ⟨rfl, rfl, hn'.out⟩, by omega, by simpa using H⟩
  case round =>
    clear H
    obtain ⟨key, j, cap, m, ys, rfl, rfl, hj, hjk, H⟩ := hrel
    by_cases hlt : m < 128
    · have c0 : decide (128 ≤ (m : Int)) = false := decide_eq_false (by omega)
      have hpost : Hid (by8 (uvarint n) = ys ++ [Value.int .u8 m] ∧ j + 1 = k + (ys ++ [Value.int .u8 m]).length ∧ j + 1 ≤ k + 10) := by
        obtain ⟨h1, h2, _⟩ := hj.out
        rw [by8_small hlt] at h2
        have hl := congrArg List.length h2
        rw [by8_len] at hl
        have := h10.out
        simp only [List.length_append, List.length_singleton] at hl
        exact ⟨h2, by simp; omega, by omega⟩
      have hm := hlt
      clear hlt
      repeat' (first | (go_big_may; (first
    | ((first
        | (refine loud_ rfl ?_; refine wpList_plain rfl (fun K hK => ?_); (first | (refine op_append_lit _ _ _ rfl elem34 rfl rfl H (by repeat (first | exact Split.here _ _ | apply Split.there)) (by repeat (first | exact Split.here _ _ | apply Split.there)) (by kernel_rfl) (by kernel_rfl) (by omega) (by unfold maxLen; omega) (fun key cap' w' H1 => hK _ _ ?_)) | (refine op_box _ _ rfl H (fun b w' H1 => hK _ _ ?_)) | (refine op_alloc _ rfl (zero_of _ _ rfl) H (fun b w' H1 => hK _ _ ?_)) | (refine op_store _ _ _ rfl rfl rfl H (by repeat (first | exact Split.here _ _ | apply Split.there)) (by kernel_rfl) (by kernel_rfl) (by kernel_rfl) (fun w' H1 => hK _ _ ?_)) | (refine op_buildSlice_all _ _ _ rfl (by first | exact elem23 | exact elem34 | exact elem51 | exact elem148) (by kernel_rfl) (by kernel_rfl) (by kernel_rfl) H (fun b w' H1 => hK _ _ ?_))); clear hK K; replace H := H1; clear H1)); (try clear hc); (try simp only [nrm, splice, Value.cells, Nat.reduceAdd, Act.eval, Act.put] at H); have hc := H.cells; simp only [CellsOf, KnCells, knc, Nat.reduceAdd] at hc))) | go_values | go_skip | go_guarded | go_step | go_upon | go_back | dsimp only)
      go_ret
      have e1 : ((m : Int) % 256) = m := by omega
      exact ⟨_, _, _, ys ++ [Value.int .u8 m], ⟨hpost.out.1.symm, hpost.out.2.1⟩, hpost.out.2.2, rfl, by simpa [e1] using H.top1⟩
    · have c0 : decide (128 ≤ (m : Int)) = true := decide_eq_true (by omega)
      have h3 := or128 m
      have hpost : Hid (by8 (uvarint n) = (ys ++ [Value.int .u8 ((m % 128 + 128 : Nat) : Int)]) ++ by8 (uvarint (m / 128)) ∧ j + 1 = k + (ys ++ [Value.int .u8 ((m % 128 + 128 : Nat) : Int)]).length ∧ j + 1 ≤ k + 10 ∧ m / 128 < 18446744073709551616 ∧ m / 128 < m) := by
        obtain ⟨h1, h2, h5⟩ := hj.out
        rw [by8_big (m := m) (by omega)] at h2
        have hl := congrArg List.length h2
        rw [by8_len] at hl
        have := h10.out
        simp only [List.length_append, List.length_cons] at hl
        exact ⟨by simpa using h2, by simp; omega, by omega, by omega, by omega⟩
      clear hlt
      repeat' (first | (go_big_may; (first
    | ((first
        | (refine loud_ rfl ?_; refine wpList_plain rfl (fun K hK => ?_); (first | (refine op_append_lit _ _ _ rfl elem34 rfl rfl H (by repeat (first | exact Split.here _ _ | apply Split.there)) (by repeat (first | exact Split.here _ _ | apply Split.there)) (by kernel_rfl) (by kernel_rfl) (by omega) (by unfold maxLen; omega) (fun key cap' w' H1 => hK _ _ ?_)) | (refine op_box _ _ rfl H (fun b w' H1 => hK _ _ ?_)) | (refine op_alloc _ rfl (zero_of _ _ rfl) H (fun b w' H1 => hK _ _ ?_)) | (refine op_store _ _ _ rfl rfl rfl H (by repeat (first | exact Split.here _ _ | apply Split.there)) (by kernel_rfl) (by kernel_rfl) (by kernel_rfl) (fun w' H1 => hK _ _ ?_)) | (refine op_buildSlice_all _ _ _ rfl (by first | exact elem23 | exact elem34 | exact elem51 | exact elem148) (by kernel_rfl) (by kernel_rfl) (by kernel_rfl) H (fun b w' H1 => hK _ _ ?_))); clear hK K; replace H := H1; clear H1)); (try clear hc); (try simp only [nrm, splice, Value.cells, Nat.reduceAdd, Act.eval, Act.put] at H); have hc := H.cells; simp only [CellsOf, KnCells, knc, Nat.reduceAdd] at hc))) | go_values | go_skip | go_guarded | go_step | go_upon | go_back | dsimp only)
      obtain ⟨p1, p2, p3, p4, p5⟩ := hpost.out
      refine ⟨⟨key, j + 1, cap', m / 128, _, rfl, by go_num, ⟨p2, p1, p4⟩, p3, by simpa using H.top1⟩, ?_⟩
      simp [intOf]
      omega
theorem putVarint_calls' (key : Option Nat) (k cap : Nat) (xs : List Value) (S : List Nat) (n : Int) (hn : 0 ≤ n ∧ n < 18446744073709551616) (hk : k ≤ 1000000000) (w : World) (H : St S w w [(true, .row key 5 1 k cap xs)]) :
    Calls Try.prog 74 #[sl key k cap, .int .u64 n] w fun e w' => ∃ j key cap ys, Hid (ys = by8 (uvarint n.toNat) ∧ j = k + ys.length) ∧ j ≤ k + 10 ∧ e = .returned (sl key j cap) ∧ St S w w' [(true, .row key 5 1 j cap (xs ++ ys))] := by
  obtain ⟨m, rfl⟩ : ∃ m : Nat, n = m := ⟨n.toNat, by omega⟩
  exact putVarint_calls key k cap xs S m (by omega) hk w H
end Go.Proofs.Ytfnapcgbjdkpaaa
