import Derived.Test.YtfnapcgbjdkpaaaSnpC
import Derived.OwnWalk
-- MORE
-- SUB2
namespace Go.Proofs.Ytfnapcgbjdkpaaa
set_option linter.unusedVariables false
set_option linter.unusedSimpArgs false
set_option linter.unnecessarySimpa false
open Go Go.RowKit Go.V Go.Lib

/-- A field that is a number. -/
def vfield (tag : UInt8) (n : Nat) : List UInt8 := tag :: uvarint n
theorem by8_vfield (tag : UInt8) (n : Nat) : by8 (vfield tag n) = .int .u8 tag.toNat :: by8 (uvarint n) := rfl
/-- What lies behind a beginning. -/
def Tail (w : World) (src : Option Addr) (xs : List Value) (src' : Option Addr) (ys : List Value) : Prop := Lies w src' ys ∧ ∀ c ∈ softFp src' ys, c ∈ softFp src xs
theorem _root_.Go.V.St.tail {S : List Nat} {w0 w : World} {L A B : List Ent} {src src' : Option Addr} {xs ys : List Value} (H : St S w0 w L) (hs : Split L (false, soft src xs) A B) (h : Tail w src xs src' ys) : St S w0 w ((false, soft src' ys) :: L) :=
  H.sub hs _ (soft_holds h.1) h.2
theorem tail_ext {w w' : World} {src src' : Option Addr} {xs ys : List Value} (h : Tail w src xs src' ys) (e : Ext [] w w') : Tail w' src xs src' ys := ⟨h.1.ext e, h.2⟩
theorem tail_trans {w : World} {a b c : Option Addr} {xs ys zs : List Value} (h : Tail w a xs b ys) (k : Tail w b ys c zs) : Tail w a xs c zs := ⟨k.1, fun x hx => h.2 x (k.2 x hx)⟩
theorem addr_add (b o j : Nat) : (⟨b, o, none⟩ : Addr).add j = ⟨b, o + j, none⟩ := by unfold Addr.add; split <;> simp_all
theorem tail_drop {w : World} {b o : Nat} {xs : List Value} {k c : Nat} (h : Lies w (some ⟨b, o, none⟩) xs) (hc : xs.length ≤ c) : Tail w (some ⟨b, o, none⟩) xs (if c = k then some ⟨b, o, none⟩ else some ⟨b, o + k, none⟩) (xs.drop k) := by
  by_cases hck : c = k
  · have e : xs.drop k = [] := List.drop_eq_nil_iff.2 (by omega)
    rw [e]
    exact ⟨Lies.nil _ _, fun c hc => by simp [softFp] at hc⟩
  · rw [if_neg hck]
    refine ⟨⟨fun e => by simp at e, ?_⟩, ?_⟩
    · intro ad had j u hu
      obtain rfl : ad = ⟨b, o + k, none⟩ := by simpa using had.symm
      rw [List.getElem?_drop] at hu
      have := h.2 _ rfl (k + j) u hu
      rw [addr_add] at this ⊢
      rw [Nat.add_assoc]
      exact this
    · intro x hx
      cases hd : xs.drop k with
      | nil => rw [hd] at hx; simp [softFp] at hx
      | cons y r =>
        rw [hd] at hx
        cases xs with
        | nil => simp at hd
        | cons z q => simpa [softFp] using hx
theorem orShift (acc x q : Nat) (ha : acc < 128 ^ q) (h : acc + x * 128 ^ q < 18446744073709551616) : bits .or .u64 (acc : Int) ((x * 128 ^ q : Nat) : Int) = ((acc + x * 128 ^ q : Nat) : Int) := by
  have hp : (128 : Nat) ^ q = 2 ^ (7 * q) := by rw [Nat.pow_mul]
  rw [hp] at ha h ⊢
  have hx : x * 2 ^ (7 * q) < 18446744073709551616 := by omega
  have ha64 : acc < 18446744073709551616 := by omega
  have ha64' : (acc : Int) < 2 ^ 64 := by exact_mod_cast ha64
  have hx64' : ((x * 2 ^ (7 * q) : Nat) : Int) < 2 ^ 64 := by exact_mod_cast hx
  have ha' : (acc : Int) < 2 ^ (7 * q) := by exact_mod_cast ha
  have hm : ((x * 2 ^ (7 * q) : Nat) : Int) % 2 ^ (7 * q) = 0 := by
    push_cast
    exact Int.mul_emod_left _ _
  have e := bits_join_low .u64 64 (by decide) wraps_u64 (7 * q) (acc : Int) ((x * 2 ^ (7 * q) : Nat) : Int) (by omega) ha' ha64' (by omega) hm hx64'
  rw [e]
  push_cast
  rfl
theorem u64_wrap {n : Int} (h0 : 0 ≤ n) (h1 : n < 18446744073709551616) : IntKind.u64.wrap n = n := wraps_u64 n h0 h1
theorem orAt (acc b q : Nat) (hb : b < 256) (ha : acc < 128 ^ q) (h : acc + b % 128 * 128 ^ q < 18446744073709551616) :
    bits .or .u64 (acc : Int) (IntKind.u64.wrap (IntKind.u64.wrap (bits .and .u8 (b : Int) 127) * 2 ^ (7 * q))) = ((acc + b % 128 * 128 ^ q : Nat) : Int) := by
  have hp : ((128 : Nat) ^ q : Nat) = 2 ^ (7 * q) := by rw [Nat.pow_mul]
  have e1 : bits .and .u8 (b : Int) 127 = ((b % 128 : Nat) : Int) := by rw [u8_and127 _ (by omega) (by omega)]; omega
  have e2 : IntKind.u64.wrap (((b % 128 : Nat)) : Int) = ((b % 128 : Nat) : Int) := u64_wrap (by omega) (by omega)
  have e3 : ((b % 128 : Nat) : Int) * 2 ^ (7 * q) = ((b % 128 * 128 ^ q : Nat) : Int) := by rw [hp]; push_cast; rfl
  have e4 : IntKind.u64.wrap ((b % 128 * 128 ^ q : Nat) : Int) = ((b % 128 * 128 ^ q : Nat) : Int) := u64_wrap (by omega) (by omega)
  rw [e1, e2, e3, e4]
  exact orShift acc _ q ha h
def AtTake (w : World) (v : Nat) (n i : Value) (wr : World) : Prop := ∃ (q acc m : Nat) (pre : List UInt8), n = .int .u64 acc ∧ i = .int .i64 q ∧ q ≤ 9 ∧ Hid (uvarint v = pre ++ uvarint m ∧ pre.length = q ∧ v = acc + m * 128 ^ q ∧ acc < 128 ^ q) ∧ wr = w
set_option maxHeartbeats 1000000 in
set_option maxRecDepth 8000 in
theorem takeVarint_calls (src : Option Addr) (n c : Nat) (v : Nat) (rest : List UInt8) (hl : Hid ((uvarint v ++ rest).length = n)) (hn : n ≤ 1000000000) (hc' : n ≤ c) (hv : Hid (v < 18446744073709551616)) (w : World) (H : St [] w w [(false, soft src (by8 (uvarint v ++ rest)))]) :
    Calls Try.prog 78 #[.slice src n c] w fun e w' => ∃ src' n' c', Hid (n' = rest.length ∧ Tail w' src (by8 (uvarint v ++ rest)) src' (by8 rest)) ∧ n' < n ∧ n' ≤ c' ∧ e = .returned (.tuple #[.int .u64 v, .slice src' n' c', .bool true]) ∧ Ext [] w w' := by
  go_enter Try.func78, Try.ntmps78
  repeat' (first | (go_big_may; (first
    | ((first
        | (refine loud_ rfl ?_; refine wpList_plain rfl (fun K hK => ?_); (first | (refine op_box _ _ rfl H (fun b w' H1 => hK _ _ ?_)) | (refine op_alloc _ rfl (zero_of _ _ rfl) H (fun b w' H1 => hK _ _ ?_)) | (refine op_store _ _ _ rfl rfl rfl H (by repeat (first | exact Split.here _ _ | apply Split.there)) (by kernel_rfl) (by kernel_rfl) (by kernel_rfl) (fun w' H1 => hK _ _ ?_)) | (refine op_buildSlice_all _ _ _ rfl (by first | exact elem23 | exact elem34 | exact elem51 | exact elem148) (by kernel_rfl) (by kernel_rfl) (by kernel_rfl) H (fun b w' H1 => hK _ _ ?_))); clear hK K; replace H := H1; clear H1)); (try clear hc); (try simp only [nrm, splice, Value.cells, Nat.reduceAdd, Act.eval, Act.put] at H); have hc := H.cells; simp only [CellsOf, KnCells, knc, Nat.reduceAdd] at hc))) | go_values | go_skip | go_guarded | go_step | go_upon | go_back | dsimp only)
  go_loopw [5, 6] (AtTake w v) (fun _ i _ => 9 - (intOf i).toNat)
  case atStart => exact ⟨0, 0, v, [], rfl, rfl, by decide, ⟨rfl, rfl, by simp, by decide⟩, rfl⟩
  case round =>
    obtain ⟨q, acc, m, pre, rfl, rfl, hq, hh, rfl⟩ := hrel
    obtain ⟨h1, h2, h3, h4⟩ := hh.out
    have hv0 := hv.out
    have hqn : q < (uvarint v ++ rest).length := by
      have := uvarint_pos m
      rw [h1, List.append_assoc, List.length_append, List.length_append]
      omega
    obtain ⟨b1, o1, rfl, hcell⟩ := liesAny (H.lies (Split.here _ _)) (by8_get hqn)
    have hqn' : q < n := by have := hl.out; omega
    by_cases hlt : m < 128
    · have hx : (uvarint v ++ rest)[q].toNat = m := by
        have e : (uvarint v ++ rest)[q]? = some m.toUInt8 := by
          rw [h1, uvarint_small hlt, List.append_assoc, List.getElem?_append_right (by omega), h2, Nat.sub_self]
          rfl
        rw [List.getElem?_eq_getElem hqn] at e
        injection e with e
        have := u8_toNat (m := m) (by omega)
        rw [e]
        omega
      rw [hx] at hcell
      have hm : m % 128 = m := Nat.mod_eq_of_lt hlt
      have hO := orAt acc m q (by omega) h4 (by rw [hm]; omega)
      rw [hm, ← h3] at hO
      have hfin : Hid (n - (q + 1) = rest.length ∧ (by8 (uvarint v ++ rest)).drop (q + 1) = by8 rest ∧ (by8 (uvarint v ++ rest)).length ≤ c ∧ n - (q + 1) ≤ c - (q + 1) ∧ n - (q + 1) < n) := by
        have e1 : (uvarint v).length = q + 1 := by rw [h1, List.length_append, uvarint_small hlt, h2]; rfl
        have e2 := hl.out
        rw [List.length_append] at e2
        refine ⟨by omega, ?_, ?_, by omega, by omega⟩
        · rw [by8_app, List.drop_left' (by rw [by8_len]; exact e1)]
        · rw [by8_len, List.length_append]
          omega
      have h9 : q = 9 → m ≤ 1 := by
        rintro rfl
        rw [show (128 : Nat) ^ 9 = 9223372036854775808 from by decide] at h3
        omega
      clear hx h1 h2 h3 h4 hqn hv0 hm
      by_cases hq9 : q = 9
      · subst hq9
        have hm1 := h9 rfl
        rw [show ((2 : Int) ^ (7 * 9)) = 9223372036854775808 from by decide] at hO
        clear h9
        repeat' (first | (go_big_may; (first
    | ((first
        | (refine loud_ rfl ?_; refine wpList_plain rfl (fun K hK => ?_); (first | (refine op_box _ _ rfl H (fun b w' H1 => hK _ _ ?_)) | (refine op_alloc _ rfl (zero_of _ _ rfl) H (fun b w' H1 => hK _ _ ?_)) | (refine op_store _ _ _ rfl rfl rfl H (by repeat (first | exact Split.here _ _ | apply Split.there)) (by kernel_rfl) (by kernel_rfl) (by kernel_rfl) (fun w' H1 => hK _ _ ?_)) | (refine op_buildSlice_all _ _ _ rfl (by first | exact elem23 | exact elem34 | exact elem51 | exact elem148) (by kernel_rfl) (by kernel_rfl) (by kernel_rfl) H (fun b w' H1 => hK _ _ ?_))); clear hK K; replace H := H1; clear H1)); (try clear hc); (try simp only [nrm, splice, Value.cells, Nat.reduceAdd, Act.eval, Act.put] at H); have hc := H.cells; simp only [CellsOf, KnCells, knc, Nat.reduceAdd] at hc))) | go_values | go_skip | go_guarded | go_step | go_upon | go_back | dsimp only)
        (try simp only [Act.put, slt])
        refine wp_region_plan (.p [0, 1, 2, 3, 4, 5, 6, 7] .done) [] (by kernel_rfl) (by kernel_rfl) (fun _ _ d _ _ h => by cases d <;> exact h) H ?_
        clear H
        (try clear hc)
        intro X nX fX wd hcf hS H
        simp only [CellsOf, KnCells, knc, Nat.reduceAdd] at hcf
        have hc := H.cells
        simp only [CellsOf, KnCells, knc, Nat.reduceAdd] at hc
        iterate 8 (refine plan_p (o := ⟨_, _, _, _, _, _⟩) rfl (fun N hN => ?_); go_big_quiet_step (fail); refine wpQuiet_nil (hN _ ?_); clear hN N)
        refine plan_p0 ?_
        refine plan_done ?_
        repeat' (first | (go_big_may; (first
    | ((first
        | (refine loud_ rfl ?_; refine wpList_plain rfl (fun K hK => ?_); (first | (refine op_box _ _ rfl H (fun b w' H1 => hK _ _ ?_)) | (refine op_alloc _ rfl (zero_of _ _ rfl) H (fun b w' H1 => hK _ _ ?_)) | (refine op_store _ _ _ rfl rfl rfl H (by repeat (first | exact Split.here _ _ | apply Split.there)) (by kernel_rfl) (by kernel_rfl) (by kernel_rfl) (fun w' H1 => hK _ _ ?_)) | (refine op_buildSlice_all _ _ _ rfl (by first | exact elem23 | exact elem34 | exact elem51 | exact elem148) (by kernel_rfl) (by kernel_rfl) (by kernel_rfl) H (fun b w' H1 => hK _ _ ?_))); clear hK K; replace H := H1; clear H1)); (try clear hc); (try simp only [nrm, splice, Value.cells, Nat.reduceAdd, Act.eval, Act.put] at H); have hc := H.cells; simp only [CellsOf, KnCells, knc, Nat.reduceAdd] at hc))) | go_values | go_skip | go_guarded | go_step | go_upon | go_back | dsimp only)
        go_ret3
        obtain ⟨g1, g2, g3, g4, g5⟩ := hfin.out
        refine ⟨_, _, _, ⟨g1, ?_⟩, g5, g4, rfl, H.ext⟩
        have ht := tail_drop (k := 9 + 1) (H.lies (Split.here _ _)) g3
        rw [g2] at ht
        exact ht
      · clear h9
        have hlti : (m : Int) < 128 := by omega
        have hqi : ¬ (q : Int) = 9 := by omega
        repeat' (first | (go_big_may; (first
    | ((first
        | (refine loud_ rfl ?_; refine wpList_plain rfl (fun K hK => ?_); (first | (refine op_box _ _ rfl H (fun b w' H1 => hK _ _ ?_)) | (refine op_alloc _ rfl (zero_of _ _ rfl) H (fun b w' H1 => hK _ _ ?_)) | (refine op_store _ _ _ rfl rfl rfl H (by repeat (first | exact Split.here _ _ | apply Split.there)) (by kernel_rfl) (by kernel_rfl) (by kernel_rfl) (fun w' H1 => hK _ _ ?_)) | (refine op_buildSlice_all _ _ _ rfl (by first | exact elem23 | exact elem34 | exact elem51 | exact elem148) (by kernel_rfl) (by kernel_rfl) (by kernel_rfl) H (fun b w' H1 => hK _ _ ?_))); clear hK K; replace H := H1; clear H1)); (try clear hc); (try simp only [nrm, splice, Value.cells, Nat.reduceAdd, Act.eval, Act.put] at H); have hc := H.cells; simp only [CellsOf, KnCells, knc, Nat.reduceAdd] at hc))) | go_values | go_skip | go_guarded | go_step | go_upon | go_back | dsimp only)
        (try simp only [Act.put, slt])
        refine wp_region_plan (.p [0, 1, 2, 3, 4, 5, 6, 7] .done) [] (by kernel_rfl) (by kernel_rfl) (fun _ _ d _ _ h => by cases d <;> exact h) H ?_
        clear H
        (try clear hc)
        intro X nX fX wd hcf hS H
        simp only [CellsOf, KnCells, knc, Nat.reduceAdd] at hcf
        have hc := H.cells
        simp only [CellsOf, KnCells, knc, Nat.reduceAdd] at hc
        iterate 8 (refine plan_p (o := ⟨_, _, _, _, _, _⟩) rfl (fun N hN => ?_); go_big_quiet_step (fail); refine wpQuiet_nil (hN _ ?_); clear hN N)
        refine plan_p0 ?_
        refine plan_done ?_
        repeat' (first | (go_big_may; (first
    | ((first
        | (refine loud_ rfl ?_; refine wpList_plain rfl (fun K hK => ?_); (first | (refine op_box _ _ rfl H (fun b w' H1 => hK _ _ ?_)) | (refine op_alloc _ rfl (zero_of _ _ rfl) H (fun b w' H1 => hK _ _ ?_)) | (refine op_store _ _ _ rfl rfl rfl H (by repeat (first | exact Split.here _ _ | apply Split.there)) (by kernel_rfl) (by kernel_rfl) (by kernel_rfl) (fun w' H1 => hK _ _ ?_)) | (refine op_buildSlice_all _ _ _ rfl (by first | exact elem23 | exact elem34 | exact elem51 | exact elem148) (by kernel_rfl) (by kernel_rfl) (by kernel_rfl) H (fun b w' H1 => hK _ _ ?_))); clear hK K; replace H := H1; clear H1)); (try clear hc); (try simp only [nrm, splice, Value.cells, Nat.reduceAdd, Act.eval, Act.put] at H); have hc := H.cells; simp only [CellsOf, KnCells, knc, Nat.reduceAdd] at hc))) | go_values | go_skip | go_guarded | go_step | go_upon | go_back | dsimp only)
        go_ret3
        obtain ⟨g1, g2, g3, g4, g5⟩ := hfin.out
        refine ⟨_, _, _, ⟨g1, ?_⟩, g5, g4, rfl, H.ext⟩
        have ht := tail_drop (k := q + 1) (H.lies (Split.here _ _)) g3
        rw [g2] at ht
        exact ht
    · have hx : (uvarint v ++ rest)[q].toNat = m % 128 + 128 := by
        have e : (uvarint v ++ rest)[q]? = some (m % 128 + 128).toUInt8 := by
          rw [h1, uvarint_big (x := m) (by omega), List.append_assoc, List.getElem?_append_right (by omega), h2, Nat.sub_self]
          rfl
        rw [List.getElem?_eq_getElem hqn] at e
        injection e with e
        have := u8_toNat (m := m % 128 + 128) (by omega)
        rw [e]
        omega
      rw [hx] at hcell
      have hq8 : q < 9 := by
        rcases Nat.lt_or_ge q 9 with h | h
        · exact h
        · obtain rfl : q = 9 := by omega
          rw [show (128 : Nat) ^ 9 = 9223372036854775808 from by decide] at h3
          omega
      have hmul : m % 128 * 128 ^ q ≤ m * 128 ^ q := Nat.mul_le_mul_right _ (Nat.mod_le _ _)
      have hmm : (m % 128 + 128) % 128 = m % 128 := by omega
      have hO := orAt acc (m % 128 + 128) q (by omega) h4 (by rw [hmm]; omega)
      rw [hmm] at hO
      have hnext : Hid (uvarint v = (pre ++ [(m % 128 + 128).toUInt8]) ++ uvarint (m / 128) ∧ (pre ++ [(m % 128 + 128).toUInt8]).length = q + 1 ∧ v = (acc + m % 128 * 128 ^ q) + m / 128 * 128 ^ (q + 1) ∧ (acc + m % 128 * 128 ^ q) < 128 ^ (q + 1)) := by
        refine ⟨by rw [h1, uvarint_big (x := m) (by omega)]; simp, by simp [h2], ?_, ?_⟩
        · have e5 : m = m / 128 * 128 + m % 128 := by omega
          rw [h3, Nat.pow_succ]
          conv => lhs; rw [e5]
          rw [Nat.add_mul, Nat.mul_assoc, Nat.mul_comm 128 (128 ^ q)]
          omega
        · rw [Nat.pow_succ]
          have : m % 128 * 128 ^ q ≤ 127 * 128 ^ q := Nat.mul_le_mul_right _ (by omega)
          omega
      have hge : 128 ≤ m % 128 + 128 := by omega
      generalize m % 128 + 128 = x at *
      have hlti : ¬ (x : Int) < 128 := by omega
      have hqi : ¬ (q : Int) = 9 := by omega
      clear hx h1 h2 h3 h4 hqn hv0 hmul hmm
      repeat' (first | (go_big_may; (first
    | ((first
        | (refine loud_ rfl ?_; refine wpList_plain rfl (fun K hK => ?_); (first | (refine op_box _ _ rfl H (fun b w' H1 => hK _ _ ?_)) | (refine op_alloc _ rfl (zero_of _ _ rfl) H (fun b w' H1 => hK _ _ ?_)) | (refine op_store _ _ _ rfl rfl rfl H (by repeat (first | exact Split.here _ _ | apply Split.there)) (by kernel_rfl) (by kernel_rfl) (by kernel_rfl) (fun w' H1 => hK _ _ ?_)) | (refine op_buildSlice_all _ _ _ rfl (by first | exact elem23 | exact elem34 | exact elem51 | exact elem148) (by kernel_rfl) (by kernel_rfl) (by kernel_rfl) H (fun b w' H1 => hK _ _ ?_))); clear hK K; replace H := H1; clear H1)); (try clear hc); (try simp only [nrm, splice, Value.cells, Nat.reduceAdd, Act.eval, Act.put] at H); have hc := H.cells; simp only [CellsOf, KnCells, knc, Nat.reduceAdd] at hc))) | go_values | go_skip | go_guarded | go_step | go_upon | go_back | dsimp only)
      exact ⟨⟨q + 1, _, _, _, rfl, by go_num, by omega, by first | exact hnext | (rw [hO]; exact hnext), rfl⟩, by simp [intOf]; omega⟩
end Go.Proofs.Ytfnapcgbjdkpaaa
