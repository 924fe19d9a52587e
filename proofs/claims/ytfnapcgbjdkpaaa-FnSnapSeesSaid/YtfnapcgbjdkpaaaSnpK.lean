import Derived.Test.YtfnapcgbjdkpaaaSnpJ
-- MORE
-- SUB2
namespace Go.Proofs.Ytfnapcgbjdkpaaa
set_option linter.unusedVariables false
set_option linter.unusedSimpArgs false
set_option linter.unnecessarySimpa false
open Go Go.RowKit Go.V Go.Lib

def hexD (d : Nat) : UInt8 := if d < 10 then (48 + d).toUInt8 else (87 + d).toUInt8
/-- The last k figures of a number. -/
def hexs : Nat → Nat → List UInt8
  | 0, _ => []
  | k + 1, n => hexD (n / 16 ^ k % 16) :: hexs k n
theorem hexs_len : ∀ k n, (hexs k n).length = k
  | 0, _ => rfl
  | k + 1, n => by rw [hexs, List.length_cons, hexs_len k]
def hex16 (n : Nat) : ByteArray := ⟨(hexs 16 n).toArray⟩
def zer (k : Nat) : List Value := List.replicate k (.int .u8 0)
theorem splice_hex (k : Nat) (v : Value) (D : List Value) : List.take k (zer (k + 1) ++ D) ++ v :: List.drop (k + 1) (zer (k + 1) ++ D) = zer k ++ v :: D := by
  have e : zer (k + 1) = zer k ++ [.int .u8 0] := by simp [zer, List.replicate_succ']
  have hl : (zer k).length = k := by simp [zer]
  have hl1 : (zer (k + 1)).length = k + 1 := by simp [zer]
  rw [List.drop_left' hl1, e, List.append_assoc, List.take_left' hl]
theorem and15 (n : Nat) (h : n < 18446744073709551616) : bits .and .u64 (n : Int) 15 = ((n % 16 : Nat) : Int) := by
  have h1 := (bits_nat .u64 64 (by decide) wraps_u64 n 15 (by omega) (by decide)).1
  rw [show (15 : Nat) = 2 ^ 4 - 1 from rfl, Nat.and_two_pow_sub_one_eq_mod] at h1
  exact h1
abbrev figs : ByteArray := { data := #[48, 49, 50, 51, 52, 53, 54, 55, 56, 57, 97, 98, 99, 100, 101, 102] }
theorem figs_at : ∀ d : Nat, (h : d < 16) → figs[d]'h = hexD d := by decide
def AtHex (w : World) (bb : Nat) (n : Nat) (x i : Value) (wr : World) : Prop := ∃ q : Nat, q ≤ 16 ∧ x = .int .u64 (n / 16 ^ q : Nat) ∧ i = .int .i64 (15 - q) ∧ St [] w wr [(true, .is bb (.cells (zer (16 - q) ++ by8 (hexs q n)).toArray 96 (0, 0)))]
set_option maxHeartbeats 400000 in
set_option maxRecDepth 8000 in
theorem zzHex_calls (n : Nat) (hn : Hid (n < 18446744073709551616)) (w : World) :
    Calls Try.prog 30 #[.int .u64 n] w fun e w' => e = .returned (.string (hex16 n)) ∧ Ext [] w w' := by
  have H := St.init [] w
  go_enter Try.func30, Try.ntmps30
  repeat' (first | (go_big_may; (first
    | ((first
        | (refine loud_ rfl ?_; refine wpList_plain rfl (fun K hK => ?_); (first | (refine op_box _ _ rfl H (fun b w' H1 => hK _ _ ?_)) | (refine op_alloc _ rfl (zero_of _ _ rfl) H (fun b w' H1 => hK _ _ ?_)) | (refine op_store _ _ _ rfl rfl rfl H (by repeat (first | exact Split.here _ _ | apply Split.there)) (by kernel_rfl) (by kernel_rfl) (by kernel_rfl) (fun w' H1 => hK _ _ ?_)) | (refine op_buildSlice_all _ _ _ rfl (by first | exact elem23 | exact elem34 | exact elem51 | exact elem148) (by kernel_rfl) (by kernel_rfl) (by kernel_rfl) H (fun b w' H1 => hK _ _ ?_))); clear hK K; replace H := H1; clear H1)); (try clear hc); (try simp only [nrm, splice, Value.cells, Nat.reduceAdd, Act.eval, Act.put] at H); have hc := H.cells; simp only [CellsOf, KnCells, knc, Nat.reduceAdd] at hc))) | go_values | go_skip | go_guarded | go_step | go_upon | go_back | dsimp only)
  obtain ⟨bb, rfl⟩ : ∃ q, q = b := ⟨_, rfl⟩
  have H0 : St [] w w' [(true, .is bb (.cells (zer (16 - 0) ++ by8 (hexs 0 n)).toArray 96 (0, 0)))] := H.sel (by repeat (first | exact Sel.nil _ | (apply Sel.cons; focus (repeat (first | exact Split.here _ _ | apply Split.there)))))
  clear H hc
  go_loopw [0, 4] (AtHex w bb n) (fun _ i _ => (intOf i + 1).toNat)
  case atStart => exact ⟨0, by decide, by rw [Nat.pow_zero, Nat.div_one], rfl, H0⟩
  case round =>
    clear H0
    obtain ⟨q, hq, rfl, rfl, H⟩ := hrel
    by_cases hlt : q < 16
    · obtain ⟨k, hk⟩ : ∃ k, 16 - q = k + 1 := ⟨15 - q, by omega⟩
      have hi : (15 : Int) - q = k := by omega
      have hnx : Hid (n / 16 ^ q / 16 = n / 16 ^ (q + 1) ∧ by8 (hexs (q + 1) n) = .int .u8 (hexD (n / 16 ^ q % 16)).toNat :: by8 (hexs q n)) := ⟨by rw [Nat.pow_succ, Nat.div_div_eq_div_mul], rfl⟩
      have hz : n / 16 ^ q < 18446744073709551616 := Nat.lt_of_le_of_lt (Nat.div_le_self _ _) hn.out
      have ha := and15 _ hz
      rw [hk] at H
      rw [hi]
      generalize by8 (hexs q n) = D at *
      generalize n / 16 ^ q = z at *
      clear hz
      obtain ⟨d, hd⟩ : ∃ d, d = z % 16 := ⟨_, rfl⟩
      have hd16 : d < 16 := by omega
      rw [← hd] at ha hnx
      clear hd
      have hdz : 0 ≤ (d : Int) ∧ (d : Int) < 16 := ⟨by omega, by omega⟩
      have hf := figs_at d hd16
      have hble : Nat.ble (k + 1) (zer (k + 1) ++ D).toArray.size = true := by
        rw [Nat.ble_eq]
        simp [zer] <;> omega
      have hc := H.cells; simp only [CellsOf, KnCells, knc, Nat.reduceAdd] at hc
      repeat' (first | (go_big_may; (first
    | ((first
        | (refine loud_ rfl ?_; refine wpList_plain rfl (fun K hK => ?_); (first | (refine op_store _ _ _ rfl rfl rfl H (by repeat (first | exact Split.here _ _ | apply Split.there)) (by kernel_rfl) (by kernel_rfl) hble (fun w' H1 => hK _ _ ?_)) | (refine op_box _ _ rfl H (fun b w' H1 => hK _ _ ?_)) | (refine op_alloc _ rfl (zero_of _ _ rfl) H (fun b w' H1 => hK _ _ ?_)) | (refine op_store _ _ _ rfl rfl rfl H (by repeat (first | exact Split.here _ _ | apply Split.there)) (by kernel_rfl) (by kernel_rfl) (by kernel_rfl) (fun w' H1 => hK _ _ ?_)) | (refine op_buildSlice_all _ _ _ rfl (by first | exact elem23 | exact elem34 | exact elem51 | exact elem148) (by kernel_rfl) (by kernel_rfl) (by kernel_rfl) H (fun b w' H1 => hK _ _ ?_))); clear hK K; replace H := H1; clear H1)); (try clear hc); (try simp only [nrm, splice, Value.cells, Nat.reduceAdd, Act.eval, Act.put] at H); have hc := H.cells; simp only [CellsOf, KnCells, knc, Nat.reduceAdd] at hc))) | go_values | go_skip | go_guarded | go_step | go_upon | go_back | dsimp only)
      rw [splice_hex] at H
      have e1 : ((z : Int) / 16) = ((n / 16 ^ (q + 1) : Nat) : Int) := by rw [← hnx.out.1]; omega
      rw [e1]
      refine ⟨⟨q + 1, by omega, rfl, by congr 1 <;> omega, ?_⟩, by simp [intOf] <;> omega⟩
      rw [hnx.out.2, show 16 - (q + 1) = k from by omega]
      exact H
    · obtain rfl : q = 16 := by omega
      have hz0 : zer (16 - 16) ++ by8 (hexs 16 n) = by8 (hexs 16 n) := rfl
      rw [hz0] at H
      have hcs : ∀ j (hj : j < (hexs 16 n).length), wr.cell? ((⟨bb, 0, none⟩ : Addr).add j) = some (.int .u8 ((hexs 16 n)[j].toNat : Int)) := by
        intro j hj
        rw [addr_add, Nat.zero_add, cell_of_row wr bb j _ _ _ (H.obj (Split.here _ _)), List.getElem?_toArray]
        exact by8_get hj
      have hl16 : Hid (16 = (hexs 16 n).length) := (hexs_len 16 n).symm
      have hcs' := Lib.hid hcs
      clear hcs
      have hc := H.cells; simp only [CellsOf, KnCells, knc, Nat.reduceAdd] at hc
      repeat' (first | (go_big_may; (first
    | go_skip
    | (refine wpList_plain rfl (fun K hK => ?_); refine op_convString 34 9 5 _ rfl Try.underlying34 Try.underlying5 Try.underlying9 (ad := ⟨bb, 0, none⟩) (bs := hexs 16 n) rfl hl16.out hcs'.out (hK _ _ ?_); clear hK K)
    | ((first
        | (refine loud_ rfl ?_; refine wpList_plain rfl (fun K hK => ?_); (first | (refine op_box _ _ rfl H (fun b w' H1 => hK _ _ ?_)) | (refine op_alloc _ rfl (zero_of _ _ rfl) H (fun b w' H1 => hK _ _ ?_)) | (refine op_store _ _ _ rfl rfl rfl H (by repeat (first | exact Split.here _ _ | apply Split.there)) (by kernel_rfl) (by kernel_rfl) (by kernel_rfl) (fun w' H1 => hK _ _ ?_)) | (refine op_buildSlice_all _ _ _ rfl (by first | exact elem23 | exact elem34 | exact elem51 | exact elem148) (by kernel_rfl) (by kernel_rfl) (by kernel_rfl) H (fun b w' H1 => hK _ _ ?_))); clear hK K; replace H := H1; clear H1)); (try clear hc); (try simp only [nrm, splice, Value.cells, Nat.reduceAdd, Act.eval, Act.put] at H); have hc := H.cells; simp only [CellsOf, KnCells, knc, Nat.reduceAdd] at hc))) | go_values | go_skip | go_guarded | go_step | go_upon | go_back | dsimp only)
      go_ret
      exact ⟨rfl, H.ext⟩
end Go.Proofs.Ytfnapcgbjdkpaaa
