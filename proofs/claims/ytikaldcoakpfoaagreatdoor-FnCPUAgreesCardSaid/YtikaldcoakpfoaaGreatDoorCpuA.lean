import Derived.Test.YtikaldcoakpfoaaGreatDoorCpuP
import Derived.Test.YtikaldcoakpfoaaGreatDoorVSkip
import Derived.Test.YtikaldcoakpfoaaGreatDoorT
import Derived.Deep.DeepCutAuto
import Derived.Lib.Hide
import Derived.Laws.DeepStrings4
import Derived.OwnWalk
-- MORE
-- SUB2
namespace Go.Proofs.YtikaldcoakpfoaaGreatDoor
set_option linter.unusedVariables false
set_option linter.unusedSimpArgs false
set_option linter.unnecessarySimpa false
open Go Go.RowKit Go.V Go.Lib

/-- A text of these bytes. -/
abbrev bs (l : List UInt8) : ByteArray := ⟨l.toArray⟩
theorem bs_size (l : List UInt8) : (bs l).size = l.length := by show l.toArray.size = _; simp
theorem bs_list (l : List UInt8) : (bs l).toList = l := by rw [ByteArray.toList_eq]
theorem bs_extract (l : List UInt8) (i j : Nat) : (bs l).extract i j = bs ((l.drop i).take (j - i)) := by
  apply ByteArray.ext
  apply Array.ext'
  rw [ByteArray.data_extract, Array.toList_extract, List.extract_eq_take_drop]
theorem bs_at (l : List UInt8) (i : Nat) (h : i < (bs l).size) : (bs l)[i] = l[i]'(by rwa [bs_size] at h) := by
  show l.toArray[i] = _
  simp
/-- The first place of a byte. -/
def idx (c : UInt8) : List UInt8 → Option Nat
  | [] => none
  | x :: r => if x = c then some 0 else (idx c r).map (· + 1)
theorem idx_none : ∀ {c : UInt8} {l : List UInt8}, (∀ (j : Nat) (h : j < l.length), l[j] ≠ c) → idx c l = none
  | _, [], _ => rfl
  | c, x :: r, h => by
    have hx : x ≠ c := h 0 (by simp)
    have := idx_none (l := r) (c := c) (fun j hj => h (j + 1) (by simpa using hj))
    unfold idx
    rw [if_neg hx, this]
    rfl
theorem idx_some : ∀ {c : UInt8} {l : List UInt8} {i : Nat} (hi : i < l.length), (∀ (j : Nat) (h : j < i), l[j] ≠ c) → l[i] = c → idx c l = some i
  | _, [], _, hi, _, _ => by simp at hi
  | c, x :: r, 0, _, _, h => by
    have h' : x = c := h
    unfold idx
    rw [if_pos h']
  | c, x :: r, i + 1, hi, hn, h => by
    have hx : x ≠ c := hn 0 (by omega)
    have := idx_some (l := r) (c := c) (i := i) (by simpa using hi) (fun j hj => hn (j + 1) (by omega)) (by simpa using h)
    unfold idx
    rw [if_neg hx, this]
    rfl
theorem idx_lt : ∀ {c : UInt8} {l : List UInt8} {i : Nat}, idx c l = some i → i < l.length
  | _, [], _, h => by cases h
  | c, x :: r, i, h => by
    unfold idx at h
    split at h
    · injection h with h
      subst h
      simp
    · obtain ⟨j, hj, rfl⟩ := Option.map_eq_some_iff.1 h
      have := idx_lt hj
      simp
      omega
theorem split_none : ∀ {c : UInt8} {l : List UInt8}, idx c l = none → splitAt' c l = [l]
  | _, [], _ => rfl
  | c, x :: r, h => by
    unfold idx at h
    unfold splitAt'
    split at h
    · cases h
    · rename_i hx
      rw [if_neg hx, split_none (Option.map_eq_none_iff.1 h)]
theorem split_some : ∀ {c : UInt8} {l : List UInt8} {i : Nat}, idx c l = some i → splitAt' c l = l.take i :: splitAt' c (l.drop (i + 1))
  | _, [], _, h => by cases h
  | c, x :: r, i, h => by
    unfold idx at h
    conv => lhs; unfold splitAt'
    split at h
    · rename_i hx
      injection h with h
      subst h
      rw [if_pos hx]
      simp
    · rename_i hx
      obtain ⟨j, hj, rfl⟩ := Option.map_eq_some_iff.1 h
      rw [if_neg hx, split_some hj]
      simp
theorem pair_idx : ∀ {l : List UInt8}, pair l = (idx 45 l).map fun i => (l.take i, l.drop (i + 1))
  | [] => rfl
  | x :: r => by
    unfold pair idx
    split
    · simp
    · rw [pair_idx (l := r)]
      cases idx 45 r <;> simp
def idxv (o : Option Nat) : Value := .int .i64 (match o with | some i => (i : Int) | none => -1)
def AtIdx (w : World) (l : List UInt8) (i : Value) (wr : World) : Prop := ∃ q : Nat, i = .int .i64 q ∧ q ≤ l.length ∧ Hid (∀ (j : Nat) (h : j < l.length), j < q → l[j] ≠ 44) ∧ wr = w
set_option maxHeartbeats 400000 in
set_option maxRecDepth 8000 in
theorem zzIndex_calls (l : List UInt8) (hl : l.length ≤ 1000000) (w : World) :
    Calls Tryz.prog 65 #[.string (bs l), .string { data := #[44] }] w fun e w' => e = .returned (idxv (idx 44 l)) ∧ Ext [] w w' := by
  have H := St.init [] w
  have hsz := bs_size l
  have hlit : ({ data := #[44] } : ByteArray).toList = [44] := by rw [ByteArray.toList_eq]
  have hls : ({ data := #[44] } : ByteArray).size = 1 := rfl
  obtain ⟨n, hn⟩ : ∃ n, Hid (n = l.length) := ⟨_, rfl⟩
  rw [← hn.out] at hsz hl
  go_enter Tryz.func65, Tryz.ntmps65
  repeat' (first | (go_big_may; (first
    | ((first
        | (refine loud_ rfl ?_; refine wpList_plain rfl (fun K hK => ?_); (first | (refine op_box _ _ rfl H (fun b w' H1 => hK _ _ ?_)) | (refine op_alloc _ rfl (zero_of _ _ rfl) H (fun b w' H1 => hK _ _ ?_)) | (refine op_store _ _ _ rfl rfl rfl H (by repeat (first | exact Split.here _ _ | apply Split.there)) (by kernel_rfl) (by kernel_rfl) (by kernel_rfl) (fun w' H1 => hK _ _ ?_)) | (refine op_buildSlice_all _ _ _ rfl (by first | exact elem22 | exact elem60 | exact elem66 | exact elem72 | exact elem74) (by kernel_rfl) (by kernel_rfl) (by kernel_rfl) H (fun b w' H1 => hK _ _ ?_))); clear hK K; replace H := H1; clear H1)); (try clear hc); (try simp only [nrm, splice, Value.cells, Nat.reduceAdd, Act.eval, Act.put] at H); have hc := H.cells; simp only [CellsOf, KnCells, knc, Nat.reduceAdd] at hc))) | go_values | go_skip | go_guarded | go_step | go_upon | go_back | dsimp only)
  go_loopw [5] (AtIdx w l) (fun i _ => n - (intOf i).toNat)
  case atStart => exact ⟨0, rfl, Nat.zero_le _, (fun j h hj => by omega), rfl⟩
  case round =>
    obtain ⟨q, rfl, hq, hh, rfl⟩ := hrel
    rw [← hn.out] at hq
    by_cases hlt : q < n
    · have hlt' : q < l.length := by rw [← hn.out]; exact hlt
      have hx : ((bs l).extract q (q + 1)).toList = [l[q]] := by
        rw [bs_extract, bs_list, Nat.add_sub_cancel_left]
        rw [List.drop_eq_getElem_cons hlt']
        rfl
      have hc1 : decide ((q : Int) + 1 ≤ (n : Int)) = true := by simp; omega
      by_cases he : l[q] = 44
      · have hx2 : (((bs l).extract q (q + 1)).toList == [44]) = true := by rw [hx, he]; rfl
        have hfin := idx_some hlt' (fun j hj => hh.out j (by omega) hj) he
        clear hx
        repeat' (first | (go_big_may; (first
    | ((first
        | (refine loud_ rfl ?_; refine wpList_plain rfl (fun K hK => ?_); (first | (refine op_box _ _ rfl H (fun b w' H1 => hK _ _ ?_)) | (refine op_alloc _ rfl (zero_of _ _ rfl) H (fun b w' H1 => hK _ _ ?_)) | (refine op_store _ _ _ rfl rfl rfl H (by repeat (first | exact Split.here _ _ | apply Split.there)) (by kernel_rfl) (by kernel_rfl) (by kernel_rfl) (fun w' H1 => hK _ _ ?_)) | (refine op_buildSlice_all _ _ _ rfl (by first | exact elem22 | exact elem60 | exact elem66 | exact elem72 | exact elem74) (by kernel_rfl) (by kernel_rfl) (by kernel_rfl) H (fun b w' H1 => hK _ _ ?_))); clear hK K; replace H := H1; clear H1)); (try clear hc); (try simp only [nrm, splice, Value.cells, Nat.reduceAdd, Act.eval, Act.put] at H); have hc := H.cells; simp only [CellsOf, KnCells, knc, Nat.reduceAdd] at hc))) | go_values | go_skip | go_guarded | go_step | go_upon | go_back | dsimp only)
        go_ret
        exact ⟨by rw [hfin]; rfl, Ext.refl _ _⟩
      · have hx2 : (((bs l).extract q (q + 1)).toList == [44]) = false := by
          rw [hx]
          simp [he]
        have hnx : Hid (∀ (j : Nat) (h : j < l.length), j < q + 1 → l[j] ≠ 44) := by
          intro j hj hjq
          rcases Nat.lt_or_ge j q with h | h
          · exact hh.out j hj h
          · obtain rfl : j = q := by omega
            exact he
        clear hx he
        repeat' (first | (go_big_may; (first
    | ((first
        | (refine loud_ rfl ?_; refine wpList_plain rfl (fun K hK => ?_); (first | (refine op_box _ _ rfl H (fun b w' H1 => hK _ _ ?_)) | (refine op_alloc _ rfl (zero_of _ _ rfl) H (fun b w' H1 => hK _ _ ?_)) | (refine op_store _ _ _ rfl rfl rfl H (by repeat (first | exact Split.here _ _ | apply Split.there)) (by kernel_rfl) (by kernel_rfl) (by kernel_rfl) (fun w' H1 => hK _ _ ?_)) | (refine op_buildSlice_all _ _ _ rfl (by first | exact elem22 | exact elem60 | exact elem66 | exact elem72 | exact elem74) (by kernel_rfl) (by kernel_rfl) (by kernel_rfl) H (fun b w' H1 => hK _ _ ?_))); clear hK K; replace H := H1; clear H1)); (try clear hc); (try simp only [nrm, splice, Value.cells, Nat.reduceAdd, Act.eval, Act.put] at H); have hc := H.cells; simp only [CellsOf, KnCells, knc, Nat.reduceAdd] at hc))) | go_values | go_skip | go_guarded | go_step | go_upon | go_back | dsimp only)
        exact ⟨⟨q + 1, by go_num, by omega, hnx, rfl⟩, by simp [intOf]; omega⟩
    · have hc1 : decide ((q : Int) + 1 ≤ (n : Int)) = false := by simp; omega
      have hfin := idx_none (c := 44) (l := l) (fun j hj => hh.out j hj (by have := hn.out; omega))
      repeat' (first | (go_big_may; (first
    | ((first
        | (refine loud_ rfl ?_; refine wpList_plain rfl (fun K hK => ?_); (first | (refine op_box _ _ rfl H (fun b w' H1 => hK _ _ ?_)) | (refine op_alloc _ rfl (zero_of _ _ rfl) H (fun b w' H1 => hK _ _ ?_)) | (refine op_store _ _ _ rfl rfl rfl H (by repeat (first | exact Split.here _ _ | apply Split.there)) (by kernel_rfl) (by kernel_rfl) (by kernel_rfl) (fun w' H1 => hK _ _ ?_)) | (refine op_buildSlice_all _ _ _ rfl (by first | exact elem22 | exact elem60 | exact elem66 | exact elem72 | exact elem74) (by kernel_rfl) (by kernel_rfl) (by kernel_rfl) H (fun b w' H1 => hK _ _ ?_))); clear hK K; replace H := H1; clear H1)); (try clear hc); (try simp only [nrm, splice, Value.cells, Nat.reduceAdd, Act.eval, Act.put] at H); have hc := H.cells; simp only [CellsOf, KnCells, knc, Nat.reduceAdd] at hc))) | go_values | go_skip | go_guarded | go_step | go_upon | go_back | dsimp only)
      go_ret
      exact ⟨by rw [hfin]; rfl, Ext.refl _ _⟩
theorem zzIndex_none (l : List UInt8) (hl : l.length ≤ 1000000) (h : idx 44 l = none) (w : World) :
    Calls Tryz.prog 65 #[.string (bs l), .string { data := #[44] }] w fun e w' => e = .returned (.int .i64 (-1)) ∧ Ext [] w w' := by
  have := zzIndex_calls l hl w
  rw [h] at this
  exact this
theorem zzIndex_some (l : List UInt8) (hl : l.length ≤ 1000000) (i : Nat) (h : idx 44 l = some i) (w : World) :
    Calls Tryz.prog 65 #[.string (bs l), .string { data := #[44] }] w fun e w' => e = .returned (.int .i64 i) ∧ Ext [] w w' := by
  have := zzIndex_calls l hl w
  rw [h] at this
  exact this
/-- Texts, as they lie in memory. -/
def strs8 (ps : List (List UInt8)) : List Value := ps.map fun p => .string (bs p)
theorem strs8_app (a b : List (List UInt8)) : strs8 (a ++ b) = strs8 a ++ strs8 b := by simp [strs8]
def sizeOfV : Value → Nat
  | .string s => s.size
  | _ => 0
def AtSplit (w : World) (ps : List (List UInt8)) (N : Nat) (s out : Value) (wr : World) : Prop := ∃ (key : Option Nat) (n cap : Nat) (done : List (List UInt8)) (l : List UInt8) (vs : List Value), s = .string (bs l) ∧ out = sl key n cap ∧ Hid (ps = done ++ splitAt' 44 l ∧ vs = strs8 done ∧ n = done.length) ∧ n + l.length ≤ N ∧ St [] w wr [(true, .row key 9 1 n cap vs)]
set_option maxHeartbeats 400000 in
set_option maxRecDepth 8000 in
theorem zzSplit_calls (l : List UInt8) (hl : l.length ≤ 900000) (w : World) :
    Calls Tryz.prog 53 #[.string (bs l), .string { data := #[44] }] w fun e w' => ∃ key n cap vs, Hid (vs = strs8 (splitAt' 44 l) ∧ n = (splitAt' 44 l).length) ∧ n ≤ l.length + 1 ∧ e = .returned (sl key n cap) ∧ St [] w w' [(true, .row key 9 1 n cap vs)] := by
  have H := St.init [] w
  have hls : ({ data := #[44] } : ByteArray).size = 1 := rfl
  obtain ⟨N, hN⟩ : ∃ n, Hid (n = l.length) := ⟨_, rfl⟩
  have hNl : N ≤ 900000 := by rw [hN.out]; exact hl
  go_enter Tryz.func53, Tryz.ntmps53
  repeat' (first | (go_big_may; (first
    | ((first
        | (refine loud_ rfl ?_; refine wpList_plain rfl (fun K hK => ?_); (first | (refine op_box _ _ rfl H (fun b w' H1 => hK _ _ ?_)) | (refine op_alloc _ rfl (zero_of _ _ rfl) H (fun b w' H1 => hK _ _ ?_)) | (refine op_store _ _ _ rfl rfl rfl H (by repeat (first | exact Split.here _ _ | apply Split.there)) (by kernel_rfl) (by kernel_rfl) (by kernel_rfl) (fun w' H1 => hK _ _ ?_)) | (refine op_buildSlice_all _ _ _ rfl (by first | exact elem22 | exact elem60 | exact elem66 | exact elem72 | exact elem74) (by kernel_rfl) (by kernel_rfl) (by kernel_rfl) H (fun b w' H1 => hK _ _ ?_))); clear hK K; replace H := H1; clear H1)); (try clear hc); (try simp only [nrm, splice, Value.cells, Nat.reduceAdd, Act.eval, Act.put] at H); have hc := H.cells; simp only [CellsOf, KnCells, knc, Nat.reduceAdd] at hc))) | go_values | go_skip | go_guarded | go_step | go_upon | go_back | dsimp only)
  go_loopw [0, 5] (AtSplit w (splitAt' 44 l) N) (fun s _ _ => sizeOfV s)
  case atStart => exact ⟨none, 0, 0, [], l, [], rfl, rfl, ⟨rfl, rfl, rfl⟩, by rw [hN.out]; omega, H.nilRow _ _⟩
  case round =>
    clear H
    obtain ⟨key, n, cap, done, l', vs, rfl, rfl, hd, hn, H⟩ := hrel
    have hsz := bs_size l'
    cases hi : idx 44 l' with
    | none =>
      have hi' := Lib.hid hi
      clear hi
      have hfin : Hid (vs ++ [Value.string (bs l')] = strs8 (splitAt' 44 l) ∧ n + 1 = (splitAt' 44 l).length) := by
        obtain ⟨h1, h2, h3⟩ := hd.out
        rw [split_none hi'.out] at h1
        rw [h1, strs8_app, ← h2, List.length_append, ← h3]
        exact ⟨rfl, rfl⟩
      have hl'' : l'.length ≤ 1000000 := by omega
      have hn1 : n ≤ 900000 := by omega
      repeat' (first | (go_big_may; (first
    | go_skip
    | ((first
        | (go_at_call 65; refine Calls.mono (zzIndex_none l' hl'' hi'.out _) ?_; rintro e w' ⟨rfl, H'⟩; replace H := H.of_ext H'; clear H')
        | (refine loud_ rfl ?_; refine wpList_plain rfl (fun K hK => ?_); (first | (refine op_append_lit _ _ _ rfl elem66 rfl rfl H (by repeat (first | exact Split.here _ _ | apply Split.there)) (by repeat (first | exact Split.here _ _ | apply Split.there)) (by kernel_rfl) (by kernel_rfl) (by omega) (by unfold maxLen; omega) (fun key cap' w' H1 => hK _ _ ?_)) | (refine op_box _ _ rfl H (fun b w' H1 => hK _ _ ?_)) | (refine op_alloc _ rfl (zero_of _ _ rfl) H (fun b w' H1 => hK _ _ ?_)) | (refine op_store _ _ _ rfl rfl rfl H (by repeat (first | exact Split.here _ _ | apply Split.there)) (by kernel_rfl) (by kernel_rfl) (by kernel_rfl) (fun w' H1 => hK _ _ ?_)) | (refine op_buildSlice_all _ _ _ rfl (by first | exact elem22 | exact elem60 | exact elem66 | exact elem72 | exact elem74) (by kernel_rfl) (by kernel_rfl) (by kernel_rfl) H (fun b w' H1 => hK _ _ ?_))); clear hK K; replace H := H1; clear H1)); (try clear hc); (try simp only [nrm, splice, Value.cells, Nat.reduceAdd, Act.eval, Act.put] at H); have hc := H.cells; simp only [CellsOf, KnCells, knc, Nat.reduceAdd] at hc))) | go_values | go_skip | go_guarded | go_step | go_upon | go_back | dsimp only)
      go_ret
      exact ⟨_, _, _, _, hfin, by have := hN.out; omega, rfl, H.top1⟩
    | some i =>
      have hi' := Lib.hid hi
      have hilt := idx_lt hi
      clear hi
      have hl'' : l'.length ≤ 1000000 := by omega
      have hn1 : n ≤ 900000 := by omega
      have hil : i ≤ (bs l').size := by rw [hsz]; omega
      have hil2 : i + 1 ≤ (bs l').size := by rw [hsz]; omega
      have hs1 : (bs l').extract 0 i = bs (l'.take i) := by rw [bs_extract]; rfl
      have hs2 : (bs l').extract (i + 1) (bs l').size = bs (l'.drop (i + 1)) := by
        rw [bs_extract, hsz, List.take_of_length_le (by rw [List.length_drop]; omega)]
      have hnx : Hid (splitAt' 44 l = (done ++ [l'.take i]) ++ splitAt' 44 (l'.drop (i + 1)) ∧ vs ++ [Value.string (bs (l'.take i))] = strs8 (done ++ [l'.take i]) ∧ n + 1 = (done ++ [l'.take i]).length ∧ n + 1 + (l'.drop (i + 1)).length ≤ N) := by
        obtain ⟨h1, h2, h3⟩ := hd.out
        rw [split_some hi'.out] at h1
        refine ⟨by rw [h1]; simp, by rw [strs8_app, ← h2]; rfl, by simp; omega, by rw [List.length_drop]; omega⟩
      rw [hsz] at hs2
      repeat' (first | (go_big_may; (first
    | go_skip
    | ((first
        | (go_at_call 65; refine Calls.mono (zzIndex_some l' hl'' i hi'.out _) ?_; rintro e w' ⟨rfl, H'⟩; replace H := H.of_ext H'; clear H')
        | (refine loud_ rfl ?_; refine wpList_plain rfl (fun K hK => ?_); (first | (refine op_append_lit _ _ _ rfl elem66 rfl rfl H (by repeat (first | exact Split.here _ _ | apply Split.there)) (by repeat (first | exact Split.here _ _ | apply Split.there)) (by kernel_rfl) (by kernel_rfl) (by omega) (by unfold maxLen; omega) (fun key cap' w' H1 => hK _ _ ?_)) | (refine op_box _ _ rfl H (fun b w' H1 => hK _ _ ?_)) | (refine op_alloc _ rfl (zero_of _ _ rfl) H (fun b w' H1 => hK _ _ ?_)) | (refine op_store _ _ _ rfl rfl rfl H (by repeat (first | exact Split.here _ _ | apply Split.there)) (by kernel_rfl) (by kernel_rfl) (by kernel_rfl) (fun w' H1 => hK _ _ ?_)) | (refine op_buildSlice_all _ _ _ rfl (by first | exact elem22 | exact elem60 | exact elem66 | exact elem72 | exact elem74) (by kernel_rfl) (by kernel_rfl) (by kernel_rfl) H (fun b w' H1 => hK _ _ ?_))); clear hK K; replace H := H1; clear H1)); (try clear hc); (try simp only [nrm, splice, Value.cells, Nat.reduceAdd, Act.eval, Act.put] at H); have hc := H.cells; simp only [CellsOf, KnCells, knc, Nat.reduceAdd] at hc))) | go_values | go_skip | go_guarded | go_step | go_upon | go_back | dsimp only)
      refine ⟨⟨key, n + 1, cap', _, l'.drop (i + 1), _, rfl, rfl, ⟨hnx.out.1, hnx.out.2.1, hnx.out.2.2.1⟩, hnx.out.2.2.2, H⟩, ?_⟩
      show (bs (l'.drop (i + 1))).size < (bs l').size
      rw [bs_size, bs_size, List.length_drop]
      omega
abbrev strObj (vs : List Value) : Obj := .cells vs.toArray 9 (0, 0)
def AtPair (w : World) (l : List UInt8) (i : Value) (wr : World) : Prop := ∃ q : Nat, i = .int .i64 q ∧ q ≤ l.length ∧ Hid (∀ (j : Nat) (h : j < l.length), j < q → l[j] ≠ 45) ∧ wr = w
def PairPost (l : List UInt8) (w : World) (e : Ending) (w' : World) : Prop := match pair l with
  | some (x, y) => ∃ b, e = .returned (.slice (some ⟨b, 0, none⟩) 2 2) ∧ St [] w w' [(true, .is b (strObj [.string (bs x), .string (bs y)]))]
  | none => ∃ b, e = .returned (.slice (some ⟨b, 0, none⟩) 1 1) ∧ St [] w w' [(true, .is b (strObj [.string (bs l)]))]
theorem pairPost_some {l x y : List UInt8} (h : pair l = some (x, y)) {w w' : World} {e : Ending} (k : ∃ b, e = .returned (.slice (some ⟨b, 0, none⟩) 2 2) ∧ St [] w w' [(true, .is b (strObj [.string (bs x), .string (bs y)]))]) : PairPost l w e w' := by
  unfold PairPost
  rw [h]
  exact k
theorem pairPost_none {l : List UInt8} (h : pair l = none) {w w' : World} {e : Ending} (k : ∃ b, e = .returned (.slice (some ⟨b, 0, none⟩) 1 1) ∧ St [] w w' [(true, .is b (strObj [.string (bs l)]))]) : PairPost l w e w' := by
  unfold PairPost
  rw [h]
  exact k
set_option maxHeartbeats 400000 in
set_option maxRecDepth 8000 in
theorem zzPair_calls (l : List UInt8) (hl : l.length ≤ 900000) (w : World) :
    Calls Tryz.prog 54 #[.string (bs l)] w (PairPost l w) := by
  have H := St.init [] w
  have hsz := bs_size l
  obtain ⟨n, hn⟩ : ∃ n, Hid (n = l.length) := ⟨_, rfl⟩
  rw [← hn.out] at hsz hl
  go_enter Tryz.func54, Tryz.ntmps54
  repeat' (first | (go_big_may; (first
    | ((first
        | (refine loud_ rfl ?_; refine wpList_plain rfl (fun K hK => ?_); (first | (refine op_box _ _ rfl H (fun b w' H1 => hK _ _ ?_)) | (refine op_alloc _ rfl (zero_of _ _ rfl) H (fun b w' H1 => hK _ _ ?_)) | (refine op_store _ _ _ rfl rfl rfl H (by repeat (first | exact Split.here _ _ | apply Split.there)) (by kernel_rfl) (by kernel_rfl) (by kernel_rfl) (fun w' H1 => hK _ _ ?_)) | (refine op_buildSlice_all _ _ _ rfl (by first | exact elem22 | exact elem60 | exact elem66 | exact elem72 | exact elem74) (by kernel_rfl) (by kernel_rfl) (by kernel_rfl) H (fun b w' H1 => hK _ _ ?_))); clear hK K; replace H := H1; clear H1)); (try clear hc); (try simp only [nrm, splice, Value.cells, Nat.reduceAdd, Act.eval, Act.put] at H); have hc := H.cells; simp only [CellsOf, KnCells, knc, Nat.reduceAdd] at hc))) | go_values | go_skip | go_guarded | go_step | go_upon | go_back | dsimp only)
  go_loopw [3] (AtPair w l) (fun i _ => n - (intOf i).toNat)
  case atStart => exact ⟨0, rfl, Nat.zero_le _, (fun j h hj => by omega), rfl⟩
  case round =>
    obtain ⟨q, rfl, hq, hh, rfl⟩ := hrel
    rw [← hn.out] at hq
    by_cases hlt : q < n
    · have hlt' : q < l.length := by rw [← hn.out]; exact hlt
      have hqs : q < (bs l).size := by rw [hsz]; exact hlt
      have hat : (bs l)[q] = l[q] := bs_at l q hqs
      by_cases he : l[q] = 45
      · have hfin := idx_some hlt' (fun j hj => hh.out j (by omega) hj) he
        have hpair : Hid (pair l = some (l.take q, l.drop (q + 1))) := by show _ = _; rw [pair_idx, hfin]; rfl
        have hb45 : (bs l)[q] = 45 := by rw [hat, he]
        clear hat he hfin
        have hs1 : (bs l).extract 0 q = bs (l.take q) := by rw [bs_extract]; rfl
        have hs2 : (bs l).extract (q + 1) n = bs (l.drop (q + 1)) := by
          rw [bs_extract, List.take_of_length_le (by rw [List.length_drop, ← hn.out]; omega)]
        have hqle : q ≤ (bs l).size := by omega
        have hqle2 : q + 1 ≤ (bs l).size := by omega
        repeat' (first | (go_big_may; (first
    | ((first
        | (refine loud_ rfl ?_; refine wpList_plain rfl (fun K hK => ?_); (first | (refine op_box _ _ rfl H (fun b w' H1 => hK _ _ ?_)) | (refine op_alloc _ rfl (zero_of _ _ rfl) H (fun b w' H1 => hK _ _ ?_)) | (refine op_store _ _ _ rfl rfl rfl H (by repeat (first | exact Split.here _ _ | apply Split.there)) (by kernel_rfl) (by kernel_rfl) (by kernel_rfl) (fun w' H1 => hK _ _ ?_)) | (refine op_buildSlice_all _ _ _ rfl (by first | exact elem22 | exact elem60 | exact elem66 | exact elem72 | exact elem74) (by kernel_rfl) (by kernel_rfl) (by kernel_rfl) H (fun b w' H1 => hK _ _ ?_))); clear hK K; replace H := H1; clear H1)); (try clear hc); (try simp only [nrm, splice, Value.cells, Nat.reduceAdd, Act.eval, Act.put] at H); have hc := H.cells; simp only [CellsOf, KnCells, knc, Nat.reduceAdd] at hc))) | go_values | go_skip | go_guarded | go_step | go_upon | go_back | dsimp only)
        (try simp only [Act.put, slt])
        refine wp_region_plan (.p [0, 1, 2, 3, 4, 5, 6] (.e 7 (.p [8] .done))) [7] (by kernel_rfl) (by kernel_rfl) (fun _ _ d _ _ h => by cases d <;> exact h) H ?_
        clear H
        (try clear hc)
        intro X nX fX wd hcf hS H
        simp only [CellsOf, KnCells, knc, Nat.reduceAdd] at hcf
        have hc := H.cells
        simp only [CellsOf, KnCells, knc, Nat.reduceAdd] at hc
        iterate 7 (refine plan_p (o := ⟨_, _, _, _, _, _⟩) rfl (fun N hN => ?_); go_big_quiet_step (fail); refine wpQuiet_nil (hN _ ?_); clear hN N)
        refine plan_p0 ?_
        refine plan_e (o := ⟨_, _, _, _, _, _⟩) rfl rfl (fun K hK => ?_)
        (first | (refine op_box _ _ rfl H (fun b w' H1 => ?_); replace H := H1; clear H1) | (refine op_alloc _ rfl (zero_of _ _ rfl) H (fun b w' H1 => ?_); replace H := H1; clear H1) | (refine op_store _ _ _ rfl rfl rfl H (by repeat (first | exact Split.here _ _ | apply Split.there)) (by kernel_rfl) (by kernel_rfl) (by kernel_rfl) (fun w' H1 => ?_); replace H := H1; clear H1) | (refine op_buildSlice_all _ _ _ rfl (by first | exact elem22 | exact elem60 | exact elem66 | exact elem72 | exact elem74) (by kernel_rfl) (by kernel_rfl) (by kernel_rfl) H (fun b w' H1 => ?_); replace H := H1; clear H1)); (try clear hc); (try simp only [nrm, splice, Value.cells, Nat.reduceAdd, Act.eval, Act.put] at H); have hc := H.cells; simp only [CellsOf, KnCells, knc, Nat.reduceAdd] at hc; refine hK _ _ (fun h => (h (by decide)).elim) ?_; clear hK K; (try simp only [Act.put, slt])
        iterate 1 (refine plan_p (o := ⟨_, _, _, _, _, _⟩) rfl (fun N hN => ?_); go_big_quiet_step (fail); refine wpQuiet_nil (hN _ ?_); clear hN N)
        refine plan_p0 ?_
        refine plan_done ?_
        repeat' (first | (go_big_may; (first
    | ((first
        | (refine loud_ rfl ?_; refine wpList_plain rfl (fun K hK => ?_); (first | (refine op_box _ _ rfl H (fun b w' H1 => hK _ _ ?_)) | (refine op_alloc _ rfl (zero_of _ _ rfl) H (fun b w' H1 => hK _ _ ?_)) | (refine op_store _ _ _ rfl rfl rfl H (by repeat (first | exact Split.here _ _ | apply Split.there)) (by kernel_rfl) (by kernel_rfl) (by kernel_rfl) (fun w' H1 => hK _ _ ?_)) | (refine op_buildSlice_all _ _ _ rfl (by first | exact elem22 | exact elem60 | exact elem66 | exact elem72 | exact elem74) (by kernel_rfl) (by kernel_rfl) (by kernel_rfl) H (fun b w' H1 => hK _ _ ?_))); clear hK K; replace H := H1; clear H1)); (try clear hc); (try simp only [nrm, splice, Value.cells, Nat.reduceAdd, Act.eval, Act.put] at H); have hc := H.cells; simp only [CellsOf, KnCells, knc, Nat.reduceAdd] at hc))) | go_values | go_skip | go_guarded | go_step | go_upon | go_back | dsimp only)
        go_ret
        refine pairPost_some hpair.out ⟨_, rfl, ?_⟩
        exact H.top1
      · have hb45 : ((bs l)[q] == 45) = false := by rw [hat]; simpa using he
        have hn45 : (((bs l)[q].toNat : Int) == 45) = false := by
          rw [hat]
          have h45 : l[q].toNat ≠ 45 := fun e => he (UInt8.toNat_inj.1 e)
          simp
          omega
        have hnx : Hid (∀ (j : Nat) (h : j < l.length), j < q + 1 → l[j] ≠ 45) := by
          intro j hj hjq
          rcases Nat.lt_or_ge j q with h | h
          · exact hh.out j hj h
          · obtain rfl : j = q := by omega
            exact he
        clear hat he
        repeat' (first | (go_big_may; (first
    | ((first
        | (refine loud_ rfl ?_; refine wpList_plain rfl (fun K hK => ?_); (first | (refine op_box _ _ rfl H (fun b w' H1 => hK _ _ ?_)) | (refine op_alloc _ rfl (zero_of _ _ rfl) H (fun b w' H1 => hK _ _ ?_)) | (refine op_store _ _ _ rfl rfl rfl H (by repeat (first | exact Split.here _ _ | apply Split.there)) (by kernel_rfl) (by kernel_rfl) (by kernel_rfl) (fun w' H1 => hK _ _ ?_)) | (refine op_buildSlice_all _ _ _ rfl (by first | exact elem22 | exact elem60 | exact elem66 | exact elem72 | exact elem74) (by kernel_rfl) (by kernel_rfl) (by kernel_rfl) H (fun b w' H1 => hK _ _ ?_))); clear hK K; replace H := H1; clear H1)); (try clear hc); (try simp only [nrm, splice, Value.cells, Nat.reduceAdd, Act.eval, Act.put] at H); have hc := H.cells; simp only [CellsOf, KnCells, knc, Nat.reduceAdd] at hc))) | go_values | go_skip | go_guarded | go_step | go_upon | go_back | dsimp only)
        exact ⟨⟨q + 1, by go_num, by omega, hnx, rfl⟩, by simp [intOf]; omega⟩
    · have hfin := idx_none (c := 45) (l := l) (fun j hj => hh.out j hj (by have := hn.out; omega))
      have hpair : Hid (pair l = none) := by show _ = _; rw [pair_idx, hfin]; rfl
      clear hfin
      repeat' (first | (go_big_may; (first
    | ((first
        | (refine loud_ rfl ?_; refine wpList_plain rfl (fun K hK => ?_); (first | (refine op_box _ _ rfl H (fun b w' H1 => hK _ _ ?_)) | (refine op_alloc _ rfl (zero_of _ _ rfl) H (fun b w' H1 => hK _ _ ?_)) | (refine op_store _ _ _ rfl rfl rfl H (by repeat (first | exact Split.here _ _ | apply Split.there)) (by kernel_rfl) (by kernel_rfl) (by kernel_rfl) (fun w' H1 => hK _ _ ?_)) | (refine op_buildSlice_all _ _ _ rfl (by first | exact elem22 | exact elem60 | exact elem66 | exact elem72 | exact elem74) (by kernel_rfl) (by kernel_rfl) (by kernel_rfl) H (fun b w' H1 => hK _ _ ?_))); clear hK K; replace H := H1; clear H1)); (try clear hc); (try simp only [nrm, splice, Value.cells, Nat.reduceAdd, Act.eval, Act.put] at H); have hc := H.cells; simp only [CellsOf, KnCells, knc, Nat.reduceAdd] at hc))) | go_values | go_skip | go_guarded | go_step | go_upon | go_back | dsimp only)
      go_ret
      refine pairPost_none hpair.out ⟨_, rfl, ?_⟩
      exact H.top1
end Go.Proofs.YtikaldcoakpfoaaGreatDoor
