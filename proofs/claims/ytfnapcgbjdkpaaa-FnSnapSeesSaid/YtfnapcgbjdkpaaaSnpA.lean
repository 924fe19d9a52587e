import Derived.Test.YtfnapcgbjdkpaaaSnpP
import Derived.Test.YtfnapcgbjdkpaaaVSkip
import Derived.Test.YtfnapcgbjdkpaaaVSoft
import Derived.Test.YtfnapcgbjdkpaaaT
import Derived.Deep.DeepCutAuto
import Derived.Laws.BitsAllLaws
import Derived.Lib.Hide
-- MORE
namespace Go.Proofs.Ytfnapcgbjdkpaaa
set_option linter.unusedVariables false
set_option linter.unusedSimpArgs false
set_option linter.unnecessarySimpa false
open Go Go.RowKit Go.V

abbrev sumObj (n : Nat) : Obj := .cells #[.int .u32 n] 94 (0, 0)
theorem sumNew_calls (w : World) : Calls Try.prog 27 #[] w fun e w' => ∃ b, e = .returned (.pointer (some ⟨b, 0, none⟩)) ∧ St [] w w' [(true, .is b (sumObj 0))] := by
  have H := St.init [] w
  go_enter Try.func27, Try.ntmps27
  go_wp2_with (first
    | ((first
        | (refine loud_ rfl ?_; refine wpList_plain rfl (fun K hK => ?_); (first | (refine op_box _ _ rfl H (fun b w' H1 => hK _ _ ?_)) | (refine op_alloc _ rfl (zero_of _ _ rfl) H (fun b w' H1 => hK _ _ ?_)) | (refine op_store _ _ _ rfl rfl rfl H (by repeat (first | exact Split.here _ _ | apply Split.there)) (by kernel_rfl) (by kernel_rfl) (by kernel_rfl) (fun w' H1 => hK _ _ ?_)) | (refine op_buildSlice_all _ _ _ rfl (by first | exact elem23 | exact elem34 | exact elem51 | exact elem148) (by kernel_rfl) (by kernel_rfl) (by kernel_rfl) H (fun b w' H1 => hK _ _ ?_))); clear hK K; replace H := H1; clear H1)); (try clear hc); (try simp only [nrm, splice, Value.cells, Nat.reduceAdd, Act.eval, Act.put] at H); have hc := H.cells; simp only [CellsOf, KnCells, knc, Nat.reduceAdd] at hc))
  go_ret
  exact ⟨_, rfl, H.top1⟩
theorem and1 (m : Nat) (h : m < 4294967296) : bits .and .u32 (m : Int) 1 = ((m % 2 : Nat) : Int) := by
  have := (bits_nat .u32 32 (by decide) wraps_u32 m 1 (by omega) (by decide)).1
  rw [Nat.and_one_is_mod] at this
  exact this
theorem notN (n : Nat) (h : n < 4294967296) : bits .xor .u32 (if IntKind.u32.signed = true then -1 else IntKind.u32.max) (n : Int) = ((4294967295 - n : Nat) : Int) := by
  have e : (if IntKind.u32.signed = true then (-1 : Int) else IntKind.u32.max) = ((4294967295 : Nat) : Int) := by decide
  rw [e, u32_xor_nat _ _ (by decide) h]
  congr 1
  apply Nat.eq_of_testBit_eq
  intro i
  have h1 := Nat.testBit_two_pow_sub_succ (n := 32) (x := n) h i
  have h2 := Nat.testBit_two_pow_sub_succ (n := 32) (x := 0) (by decide) i
  have e1 : 2 ^ 32 - (n + 1) = 4294967295 - n := by omega
  rw [e1] at h1
  rw [Nat.testBit_xor, h1, show (4294967295 : Nat) = 2 ^ 32 - (0 + 1) from rfl, h2]
  by_cases hi : i < 32
  · simp [hi]
  · have : n.testBit i = false := Nat.testBit_lt_two_pow (Nat.lt_of_lt_of_le h (by rw [show (4294967296 : Nat) = 2 ^ 32 from rfl]; exact Nat.pow_le_pow_right (by decide) (by omega)))
    simp [hi, this]
theorem cbit_odd {m : Nat} (h : m % 2 = 1) : cbit m = (m / 2) ^^^ 2197175160 := by rw [cbit, if_pos h]
theorem cbit_even {m : Nat} (h : m % 2 = 0) : cbit m = m / 2 := by rw [cbit, if_neg (by omega)]
def AtBit (w : World) (m : Nat) (n k : Value) (wr : World) : Prop := ∃ q : Nat, q ≤ 8 ∧ k = .int .i64 q ∧ n = .int .u32 (cbits q m : Nat) ∧ wr = w
def AtSum (w : World) (m : Nat) (l : List UInt8) (n i k : Value) (wr : World) : Prop := ∃ j : Nat, j ≤ l.length ∧ i = .int .i64 j ∧ n = .int .u32 (csum m (l.take j) : Nat) ∧ wr = w
theorem csum_next {m : Nat} {l : List UInt8} {j : Nat} (h : j < l.length) : csum m (l.take (j + 1)) = cbits 8 (csum m (l.take j) ^^^ l[j].toNat) := by
  rw [← List.take_append_getElem h, csum_snoc]
  rfl
set_option maxHeartbeats 1000000 in
set_option maxRecDepth 8000 in
theorem sumWrite_calls (S : List Nat) (b : Nat) (n : Nat) (hn : n < 4294967296) (s : Option Addr) (l : List UInt8) (N c : Nat) (hN : Hid (l.length = N)) (hs : N ≤ 2147483647) (w : World) (H : St S w w [(true, .is b (sumObj n)), (false, soft s (by8 l))]) :
    Calls Try.prog 28 #[.pointer (some ⟨b, 0, none⟩), .slice s N c] w fun e w' => e = .returned (.tuple #[.int .i64 N, .nilIface]) ∧ St S w w' [(true, .is b (sumObj (4294967295 - csum (4294967295 - n) l)))] := by
  have hm : Hid ((4294967295 - n : Nat) < 4294967296) := by show _ < _; omega
  have e0 := notN n hn
  clear hn
  generalize 4294967295 - n = m at *
  obtain ⟨g, rfl⟩ : ∃ g, g = b := ⟨_, rfl⟩
  have hc := H.cells; simp only [CellsOf, KnCells, knc, Nat.reduceAdd] at hc
  go_enter Try.func28, Try.ntmps28
  repeat' (first | (go_big_may; (first
    | ((first
        | (refine loud_ rfl ?_; refine wpList_plain rfl (fun K hK => ?_); (first | (refine op_box _ _ rfl H (fun b w' H1 => hK _ _ ?_)) | (refine op_alloc _ rfl (zero_of _ _ rfl) H (fun b w' H1 => hK _ _ ?_)) | (refine op_store _ _ _ rfl rfl rfl H (by repeat (first | exact Split.here _ _ | apply Split.there)) (by kernel_rfl) (by kernel_rfl) (by kernel_rfl) (fun w' H1 => hK _ _ ?_)) | (refine op_buildSlice_all _ _ _ rfl (by first | exact elem23 | exact elem34 | exact elem51 | exact elem148) (by kernel_rfl) (by kernel_rfl) (by kernel_rfl) H (fun b w' H1 => hK _ _ ?_))); clear hK K; replace H := H1; clear H1)); (try clear hc); (try simp only [nrm, splice, Value.cells, Nat.reduceAdd, Act.eval, Act.put] at H); have hc := H.cells; simp only [CellsOf, KnCells, knc, Nat.reduceAdd] at hc))) | go_values | go_skip | go_guarded | go_step | go_upon | go_back | dsimp only)
  go_loopw [6, 7, 8] (AtSum w m l) (fun _ i _ _ => l.length - (intOf i).toNat)
  case atStart => exact ⟨0, Nat.zero_le _, rfl, rfl, rfl⟩
  case round =>
    obtain ⟨j, hj, rfl, rfl, rfl⟩ := hrel
    by_cases hlt : j < l.length
    · have hlt' : j < N := by rw [← hN.out]; exact hlt
      obtain ⟨b1, o1, rfl, hcell⟩ := liesAny (H.lies (Split.there _ (Split.here _ _))) (by8_get hlt)
      have hq := csum_lt (l.take j) hm.out
      have hnext := Lib.hid (csum_next (m := m) hlt)
      have hx := u32_xor_nat (csum m (l.take j)) l[j].toNat hq (by have := l[j].toNat_lt; omega)
      have hx0 := xor8_lt hq l[j]
      generalize csum m (l.take j) = q0 at *
      have hb8 := l[j].toNat_lt
      generalize l[j] = x at *
      have hm0 := Lib.hid hx0
      generalize q0 ^^^ x.toNat = m0 at *
      clear hq hx0
      repeat' (first | (go_big_may; (first
    | ((first
        | (refine loud_ rfl ?_; refine wpList_plain rfl (fun K hK => ?_); (first | (refine op_box _ _ rfl H (fun b w' H1 => hK _ _ ?_)) | (refine op_alloc _ rfl (zero_of _ _ rfl) H (fun b w' H1 => hK _ _ ?_)) | (refine op_store _ _ _ rfl rfl rfl H (by repeat (first | exact Split.here _ _ | apply Split.there)) (by kernel_rfl) (by kernel_rfl) (by kernel_rfl) (fun w' H1 => hK _ _ ?_)) | (refine op_buildSlice_all _ _ _ rfl (by first | exact elem23 | exact elem34 | exact elem51 | exact elem148) (by kernel_rfl) (by kernel_rfl) (by kernel_rfl) H (fun b w' H1 => hK _ _ ?_))); clear hK K; replace H := H1; clear H1)); (try clear hc); (try simp only [nrm, splice, Value.cells, Nat.reduceAdd, Act.eval, Act.put] at H); have hc := H.cells; simp only [CellsOf, KnCells, knc, Nat.reduceAdd] at hc))) | go_values | go_skip | go_guarded | go_step | go_upon | go_back | dsimp only)
      go_loopw [6, 8] (AtBit wr m0) (fun _ k _ => 8 - (intOf k).toNat)
      case atStart =>
        show AtBit _ _ _ _ _
        trace_state
        exact ⟨0, by decide, rfl, by simp only [cbits], rfl⟩
      case round =>
        obtain ⟨q, hq8, rfl, rfl, rfl⟩ := hrel
        by_cases hq : q < 8
        · have hlt := Lib.hid (cbits_lt q hm0.out)
          have hsame := Lib.hid (show cbits (q + 1) m0 = cbit (cbits q m0) from rfl)
          generalize cbits q m0 = z at *
          have hb := and1 z hlt.out
          rcases Nat.mod_two_eq_zero_or_one z with h2 | h2
          · rw [h2] at hb
            repeat' (first | (go_big_may; (first
    | ((first
        | (refine loud_ rfl ?_; refine wpList_plain rfl (fun K hK => ?_); (first | (refine op_box _ _ rfl H (fun b w' H1 => hK _ _ ?_)) | (refine op_alloc _ rfl (zero_of _ _ rfl) H (fun b w' H1 => hK _ _ ?_)) | (refine op_store _ _ _ rfl rfl rfl H (by repeat (first | exact Split.here _ _ | apply Split.there)) (by kernel_rfl) (by kernel_rfl) (by kernel_rfl) (fun w' H1 => hK _ _ ?_)) | (refine op_buildSlice_all _ _ _ rfl (by first | exact elem23 | exact elem34 | exact elem51 | exact elem148) (by kernel_rfl) (by kernel_rfl) (by kernel_rfl) H (fun b w' H1 => hK _ _ ?_))); clear hK K; replace H := H1; clear H1)); (try clear hc); (try simp only [nrm, splice, Value.cells, Nat.reduceAdd, Act.eval, Act.put] at H); have hc := H.cells; simp only [CellsOf, KnCells, knc, Nat.reduceAdd] at hc))) | go_values | go_skip | go_guarded | go_step | go_upon | go_back | dsimp only)
            exact ⟨⟨q + 1, by omega, by go_num, by rw [hsame.out, cbit_even h2]; go_num, rfl⟩, by simp [intOf]; omega⟩
          · rw [h2] at hb
            have hy := u32_xor_nat (z / 2) 2197175160 (by have := hlt.out; omega) (by decide)
            have hy' : bits .xor .u32 ((z : Int) / 2) 2197175160 = ((cbit z : Nat) : Int) := by rw [cbit_odd h2]; exact hy
            clear hy
            repeat' (first | (go_big_may; (first
    | ((first
        | (refine loud_ rfl ?_; refine wpList_plain rfl (fun K hK => ?_); (first | (refine op_box _ _ rfl H (fun b w' H1 => hK _ _ ?_)) | (refine op_alloc _ rfl (zero_of _ _ rfl) H (fun b w' H1 => hK _ _ ?_)) | (refine op_store _ _ _ rfl rfl rfl H (by repeat (first | exact Split.here _ _ | apply Split.there)) (by kernel_rfl) (by kernel_rfl) (by kernel_rfl) (fun w' H1 => hK _ _ ?_)) | (refine op_buildSlice_all _ _ _ rfl (by first | exact elem23 | exact elem34 | exact elem51 | exact elem148) (by kernel_rfl) (by kernel_rfl) (by kernel_rfl) H (fun b w' H1 => hK _ _ ?_))); clear hK K; replace H := H1; clear H1)); (try clear hc); (try simp only [nrm, splice, Value.cells, Nat.reduceAdd, Act.eval, Act.put] at H); have hc := H.cells; simp only [CellsOf, KnCells, knc, Nat.reduceAdd] at hc))) | go_values | go_skip | go_guarded | go_step | go_upon | go_back | dsimp only)
            exact ⟨⟨q + 1, by omega, by go_num, by rw [hsame.out], rfl⟩, by simp [intOf]; omega⟩
        · obtain rfl : q = 8 := by omega
          repeat' (first | (go_big_may; (first
    | ((first
        | (refine loud_ rfl ?_; refine wpList_plain rfl (fun K hK => ?_); (first | (refine op_box _ _ rfl H (fun b w' H1 => hK _ _ ?_)) | (refine op_alloc _ rfl (zero_of _ _ rfl) H (fun b w' H1 => hK _ _ ?_)) | (refine op_store _ _ _ rfl rfl rfl H (by repeat (first | exact Split.here _ _ | apply Split.there)) (by kernel_rfl) (by kernel_rfl) (by kernel_rfl) (fun w' H1 => hK _ _ ?_)) | (refine op_buildSlice_all _ _ _ rfl (by first | exact elem23 | exact elem34 | exact elem51 | exact elem148) (by kernel_rfl) (by kernel_rfl) (by kernel_rfl) H (fun b w' H1 => hK _ _ ?_))); clear hK K; replace H := H1; clear H1)); (try clear hc); (try simp only [nrm, splice, Value.cells, Nat.reduceAdd, Act.eval, Act.put] at H); have hc := H.cells; simp only [CellsOf, KnCells, knc, Nat.reduceAdd] at hc))) | go_values | go_skip | go_guarded | go_step | go_upon | go_back | dsimp only)
          exact ⟨⟨j + 1, by omega, by go_num, by rw [hnext.out], rfl⟩, by simp [intOf]; omega⟩
    · obtain rfl : j = l.length := by omega
      have hmm := csum_lt l hm.out
      have hn2 := notN _ hmm
      rw [List.take_length]
      clear hmm
      have e2 := hN.out
      repeat' (first | (go_big_may; (first
    | ((first
        | (refine loud_ rfl ?_; refine wpList_plain rfl (fun K hK => ?_); (first | (refine op_box _ _ rfl H (fun b w' H1 => hK _ _ ?_)) | (refine op_alloc _ rfl (zero_of _ _ rfl) H (fun b w' H1 => hK _ _ ?_)) | (refine op_store _ _ _ rfl rfl rfl H (by repeat (first | exact Split.here _ _ | apply Split.there)) (by kernel_rfl) (by kernel_rfl) (by kernel_rfl) (fun w' H1 => hK _ _ ?_)) | (refine op_buildSlice_all _ _ _ rfl (by first | exact elem23 | exact elem34 | exact elem51 | exact elem148) (by kernel_rfl) (by kernel_rfl) (by kernel_rfl) H (fun b w' H1 => hK _ _ ?_))); clear hK K; replace H := H1; clear H1)); (try clear hc); (try simp only [nrm, splice, Value.cells, Nat.reduceAdd, Act.eval, Act.put] at H); have hc := H.cells; simp only [CellsOf, KnCells, knc, Nat.reduceAdd] at hc))) | go_values | go_skip | go_guarded | go_step | go_upon | go_back | dsimp only)
      go_ret2
      exact ⟨rfl, H.top1⟩
theorem sum32_calls (b n : Nat) (w : World) (h : w.heap[b]? = some (sumObj n)) : Calls Try.prog 29 #[.pointer (some ⟨b, 0, none⟩)] w fun e w' => e = .returned (.int .u32 n) ∧ Ext [] w w' := by
  have H : St [] w w [(false, .is b (sumObj n))] := (St.init [] w).read _ h (by simp)
  have hc := H.cells; simp only [CellsOf, KnCells, knc, Nat.reduceAdd] at hc
  go_enter Try.func29, Try.ntmps29
  repeat' (first | (go_big_may; (first
    | ((first
        | (refine loud_ rfl ?_; refine wpList_plain rfl (fun K hK => ?_); (first | (refine op_box _ _ rfl H (fun b w' H1 => hK _ _ ?_)) | (refine op_alloc _ rfl (zero_of _ _ rfl) H (fun b w' H1 => hK _ _ ?_)) | (refine op_store _ _ _ rfl rfl rfl H (by repeat (first | exact Split.here _ _ | apply Split.there)) (by kernel_rfl) (by kernel_rfl) (by kernel_rfl) (fun w' H1 => hK _ _ ?_)) | (refine op_buildSlice_all _ _ _ rfl (by first | exact elem23 | exact elem34 | exact elem51 | exact elem148) (by kernel_rfl) (by kernel_rfl) (by kernel_rfl) H (fun b w' H1 => hK _ _ ?_))); clear hK K; replace H := H1; clear H1)); (try clear hc); (try simp only [nrm, splice, Value.cells, Nat.reduceAdd, Act.eval, Act.put] at H); have hc := H.cells; simp only [CellsOf, KnCells, knc, Nat.reduceAdd] at hc))) | go_values | go_skip | go_guarded | go_step | go_upon | go_back | dsimp only)
  go_ret
  exact ⟨rfl, Ext.refl _ _⟩
theorem sumOf_calls (s : Option Addr) (l : List UInt8) (N c : Nat) (hN : Hid (l.length = N)) (hs : N ≤ 2147483647) (w : World) (H : St [] w w [(false, soft s (by8 l))]) :
    Calls Try.prog 22 #[.slice s N c] w fun e w' => e = .returned (.int .u32 (crc l : Nat)) ∧ Ext [] w w' := by
  go_enter Try.func22, Try.ntmps22
  repeat' (first | (go_big_may; (first
    | go_skip
    | ((first
        | (go_at_call 27; refine Calls.mono (sumNew_calls _) ?_; rintro e w' ⟨g, rfl, H'⟩; replace H := H.merge (by first | exact Strikes.nil _ | (repeat (first | exact Strikes.nil _ | (apply Strikes.cons; focus (repeat (first | exact Split.here _ _ | apply Split.there)))))) H' rfl; clear H')
        | (go_at_call 28; refine Calls.mono (sumWrite_calls _ g 0 (by decide) _ l _ _ hN hs _ (H.pick (by repeat (first | exact Picks.nil _ | (apply Picks.wr; focus (repeat (first | exact Split.here _ _ | apply Split.there))) | (apply Picks.rd; focus (repeat (first | exact Split.here _ _ | apply Split.there))))))) ?_; rintro e w' ⟨rfl, H'⟩; replace H := H.merge (by first | exact Strikes.nil _ | (repeat (first | exact Strikes.nil _ | (apply Strikes.cons; focus (repeat (first | exact Split.here _ _ | apply Split.there)))))) H' rfl; clear H')
        | (go_at_call 29; refine Calls.mono (sum32_calls _ _ _ (H.obj (Split.here _ _))) ?_; rintro e w' ⟨rfl, H'⟩; replace H := H.of_ext H'; clear H')
        | (refine loud_ rfl ?_; refine wpList_plain rfl (fun K hK => ?_); (first | (refine op_box _ _ rfl H (fun b w' H1 => hK _ _ ?_)) | (refine op_alloc _ rfl (zero_of _ _ rfl) H (fun b w' H1 => hK _ _ ?_)) | (refine op_store _ _ _ rfl rfl rfl H (by repeat (first | exact Split.here _ _ | apply Split.there)) (by kernel_rfl) (by kernel_rfl) (by kernel_rfl) (fun w' H1 => hK _ _ ?_)) | (refine op_buildSlice_all _ _ _ rfl (by first | exact elem23 | exact elem34 | exact elem51 | exact elem148) (by kernel_rfl) (by kernel_rfl) (by kernel_rfl) H (fun b w' H1 => hK _ _ ?_))); clear hK K; replace H := H1; clear H1)); (try clear hc); (try simp only [nrm, splice, Value.cells, Nat.reduceAdd, Act.eval, Act.put] at H); have hc := H.cells; simp only [CellsOf, KnCells, knc, Nat.reduceAdd] at hc))) | go_values | go_skip | go_guarded | go_step | go_upon | go_back | dsimp only)
  go_ret
  exact ⟨rfl, H.ext⟩
end Go.Proofs.Ytfnapcgbjdkpaaa
