import Derived.Test.YtdcijhdjddiboaaDoorVerH
-- MORE
namespace Go.Proofs.YtdcijhdjddiboaaDoor
set_option linter.unusedVariables false
set_option linter.unusedSimpArgs false
set_option linter.unnecessarySimpa false
open Go.RowKit Go.V

theorem vinv_fit {s : VS} {pre : List UInt8} (h : VInv s pre) : s.k ≤ 2 ∧ s.dg ≤ 4 ∧ s.a ≤ 9999 ∧ s.b ≤ 9999 ∧ s.c ≤ 9999 := by
  rcases h with ⟨h1, h2, h3, h4⟩ | ⟨h1, h2, h3, P, h4, _⟩ | ⟨h1, h2, h3, P, h4, _⟩ <;> rcases h4 with ⟨h5, h6, _⟩ | ⟨h5, h6, _, h7⟩
  all_goals first
    | (have := (dec_len s.a).2; omega)
    | (have := (dec_len s.b).2; omega)
    | (have := (dec_len s.c).2; omega)
theorem vscan_fit {s : VS} {l : List UInt8} (h : vscan vs0 l = some s) : s.k ≤ 2 ∧ s.dg ≤ 4 ∧ s.a ≤ 9999 ∧ s.b ≤ 9999 ∧ s.c ≤ 9999 := vinv_fit (vscan_inv vs0_inv h)
theorem take_snoc (s : ByteArray) (j : Nat) (h : j < s.size) : s.data.toList.take (j + 1) = s.data.toList.take j ++ [s[j]] := by
  have hl : j < s.data.toList.length := by rw [Array.length_toList]; exact h
  rw [List.take_add_one, List.getElem?_eq_getElem hl]
  rfl
theorem verOf_stop (s : ByteArray) (j : Nat) (h : j < s.size) {st : VS} (hs : vscan vs0 (s.data.toList.take j) = some st) (e : vstep st s[j] = none) : verOf s = none := by
  have hl : j < s.data.toList.length := by rw [Array.length_toList]; exact h
  have e1 : s.data.toList = s.data.toList.take j ++ s[j] :: s.data.toList.drop (j + 1) := by
    conv => lhs; rw [← List.take_append_drop j s.data.toList, List.drop_eq_getElem_cons hl]
    rfl
  unfold verOf
  rw [e1, vscan_app, hs]
  show vend ((vstep st s[j]).bind _) = none
  rw [e]
  rfl
theorem verOf_go (s : ByteArray) (j : Nat) (h : j < s.size) {st t : VS} (hs : vscan vs0 (s.data.toList.take j) = some st) (e : vstep st s[j] = some t) : vscan vs0 (s.data.toList.take (j + 1)) = some t := by
  rw [take_snoc s j h, vscan_app, hs]
  show (vstep st s[j]).bind _ = some t
  rw [e]
  rfl
theorem verOf_all (s : ByteArray) (j : Nat) (h : ¬ j < s.size) {st : VS} (hs : vscan vs0 (s.data.toList.take j) = some st) : verOf s = vend (some st) := by
  unfold verOf
  rw [← hs, List.take_of_length_le]
  rw [Array.length_toList]
  show s.size ≤ j
  omega
/-- A version, or three zeros. -/
def vval (o : Option Vr) : Value := match o with | some x => x.val | none => .agg #[.int .i64 0, .int .i64 0, .int .i64 0]
def AtVO (s : ByteArray) (rb pb : Nat) (w : World) (kv dv iv : Value) (wr : World) : Prop := ∃ (j k dg a b c : Nat), iv = .int .i64 j ∧ kv = .int .i64 k ∧ dv = .int .i64 dg ∧ j ≤ s.size ∧ Hid (vscan vs0 (s.data.toList.take j) = some ⟨k, dg, a, b, c⟩) ∧
  St [] w wr [(true, .is pb (.cells #[.int .i64 a, .int .i64 b, .int .i64 c] 54 (0, 0))), (true, .is rb (.cells #[.int .i64 0, .int .i64 0, .int .i64 0] 31 (0, 0)))]
theorem vs_dig {st : VS} {h : UInt8} (h1 : 48 ≤ h.toNat ∧ h.toNat ≤ 57) (h2 : ¬ (st.dg = 4 ∨ (0 < st.dg ∧ st.cur = 0))) : vstep st h = some (st.put (10 * st.cur + (h.toNat - 48))) := by
  unfold vstep
  rw [if_pos h1, if_neg h2]
theorem vs_digno {st : VS} {h : UInt8} (h1 : 48 ≤ h.toNat ∧ h.toNat ≤ 57) (h2 : st.dg = 4 ∨ (0 < st.dg ∧ st.cur = 0)) : vstep st h = none := by
  unfold vstep
  rw [if_pos h1, if_pos h2]
theorem vs_dot {st : VS} {h : UInt8} (h1 : h.toNat = 46) (h2 : 0 < st.dg) (h3 : st.k < 2) : vstep st h = some ⟨st.k + 1, 0, st.a, st.b, st.c⟩ := by
  unfold vstep
  rw [if_neg (by omega), if_pos ⟨h1, h2, h3⟩]
theorem vs_dotno {st : VS} {h : UInt8} (h0 : ¬ (48 ≤ h.toNat ∧ h.toNat ≤ 57)) (h1 : ¬ (h.toNat = 46 ∧ 0 < st.dg ∧ st.k < 2)) : vstep st h = none := by
  unfold vstep
  rw [if_neg h0, if_neg h1]
theorem vend_ok (dg a b c : Nat) (h : 0 < dg) : vend (some ⟨2, dg, a, b, c⟩) = some ⟨a, b, c⟩ := if_pos (c := 2 = 2 ∧ 0 < dg) ⟨rfl, h⟩
theorem vend_no0 (k a b c : Nat) : vend (some ⟨k, 0, a, b, c⟩) = none := if_neg (c := k = 2 ∧ 0 < 0) (fun h => absurd h.2 (by omega))
theorem vend_no (k dg a b c : Nat) (h : ¬ k = 2) : vend (some ⟨k, dg, a, b, c⟩) = none := if_neg (c := k = 2 ∧ 0 < dg) (fun h' => h h'.1)
set_option maxHeartbeats 8000000 in
set_option maxRecDepth 8000 in
theorem verOf_calls (s : ByteArray) (hz : s.size ≤ 2147483647) (w : World) :
    Calls Tryd.prog 14 #[.string s] w fun e w' => e = .returned (.tuple #[vval (verOf s), .bool (verOf s).isSome]) ∧ Ext [] w w' := by
  have H := St.init [] w
  go_enter Tryd.func14, Tryd.ntmps14
  go_wp2_with (first
    | ((first
        | (refine loud_ rfl ?_; refine wpList_plain rfl (fun K hK => ?_); (first | (refine op_box _ _ rfl H (fun b w' H1 => hK _ _ ?_)) | (refine op_alloc _ rfl (zero_of _ _ rfl) H (fun b w' H1 => hK _ _ ?_)) | (refine op_store _ _ _ rfl rfl rfl H (by repeat (first | exact Split.here _ _ | apply Split.there)) (by kernel_rfl) (by kernel_rfl) (by kernel_rfl) (fun w' H1 => hK _ _ ?_)) | (refine op_buildSlice_all _ _ _ rfl (by first | exact elem22 | exact elem39 | exact elem76 | exact elem154) (by kernel_rfl) (by kernel_rfl) (by kernel_rfl) H (fun b w' H1 => hK _ _ ?_))); clear hK K; replace H := H1; clear H1)); (try clear hc); (try simp only [nrm, splice, Value.cells, Nat.reduceAdd, Act.eval, Act.put] at H); have hc := H.cells; simp only [CellsOf, KnCells, knc, Nat.reduceAdd] at hc))
  obtain ⟨pb, rfl⟩ : ∃ q : Nat, q = b := ⟨_, rfl⟩
  obtain ⟨rb, rfl⟩ : ∃ q : Nat, q = b := ⟨_, rfl⟩
  have hA0 : AtVO s rb pb w (.int .i64 0) (.int .i64 0) (.int .i64 0) w' := ⟨0, 0, 0, 0, 0, 0, rfl, rfl, rfl, Nat.zero_le _, rfl, H⟩
  clear H hc
  go_loopw [5, 6, 7] (AtVO s rb pb w) (fun _ _ i _ => s.size + 1 - (intOf i).toNat)
  case atStart => exact hA0
  case round =>
    clear hA0
    obtain ⟨j, k, dg, na, nb, nc, rfl, rfl, rfl, hj, hscan, H⟩ := hrel
    have hfit := vscan_fit hscan.out
    simp only at hfit
    obtain ⟨hk, hdg, hna, hnb, hnc⟩ := hfit
    by_cases hjs : j < s.size
    · obtain ⟨n, hn⟩ : ∃ n : Nat, s[j].toNat = n := ⟨_, rfl⟩
      have hn' := Lib.hid hn
      have hni : ((s[j].toNat : Nat) : Int) = (n : Int) := by rw [hn]
      clear hn
      by_cases hd : 48 ≤ n ∧ n ≤ 57
      · obtain ⟨hd1, hd2⟩ := hd
        have hI1 : (48 : Int) ≤ n := by omega
        have hI2 : (n : Int) ≤ 57 := by omega
        have hsub : (n : Int) - 48 = ((n - 48 : Nat) : Int) := by omega
        have hm := Lib.hid (show n - 48 ≤ 9 by omega)
        generalize hq : n - 48 = m at hsub hm
        have hq' := Lib.hid hq
        clear hq
        by_cases h4 : dg = 4
        · subst h4
          have hend := Lib.hid (verOf_stop s j hjs hscan.out (vs_digno (by have := hn'.out; omega) (.inl rfl)))
          clear hdg
          have hc := H.cells; simp only [CellsOf, KnCells, knc, Nat.reduceAdd] at hc
          repeat' (first | (go_big_may; (first
    | ((first
        | (refine loud_ rfl ?_; refine wpList_plain rfl (fun K hK => ?_); (first | (refine op_box _ _ rfl H (fun b w' H1 => hK _ _ ?_)) | (refine op_alloc _ rfl (zero_of _ _ rfl) H (fun b w' H1 => hK _ _ ?_)) | (refine op_store _ _ _ rfl rfl rfl H (by repeat (first | exact Split.here _ _ | apply Split.there)) (by kernel_rfl) (by kernel_rfl) (by kernel_rfl) (fun w' H1 => hK _ _ ?_)) | (refine op_buildSlice_all _ _ _ rfl (by first | exact elem22 | exact elem39 | exact elem76 | exact elem154) (by kernel_rfl) (by kernel_rfl) (by kernel_rfl) H (fun b w' H1 => hK _ _ ?_))); clear hK K; replace H := H1; clear H1)); (try clear hc); (try simp only [nrm, splice, Value.cells, Nat.reduceAdd, Act.eval, Act.put] at H); have hc := H.cells; simp only [CellsOf, KnCells, knc, Nat.reduceAdd] at hc))) | go_values | go_skip | go_guarded | go_step | go_upon | go_back | dsimp only)
          exact bodyPost_ret (v := .tuple #[.agg #[.int .i64 0, .int .i64 0, .int .i64 0], .bool false]) (by simp [results, Tryd.results14, go_sem, hc, Act.put]; try rfl) rfl ⟨by rw [hend.out]; rfl, H.ext⟩
        · have h4' : ¬ (dg : Int) = 4 := by omega
          have hb4 : ((dg : Int) == 4) = false := by simp; omega
          rcases (show k = 0 ∨ k = 1 ∨ k = 2 by omega) with rfl | rfl | rfl
          · have hcur : (⟨0, dg, na, nb, nc⟩ : VS).cur = na := rfl
            by_cases h0 : dg = 0
            · subst h0
              have hend := Lib.hid (verOf_go s j hjs hscan.out (vs_dig (by have := hn'.out; omega) (by simp)))
              rw [hn'.out, hq'.out] at hend
              have hbd := vscan_fit hend.out
              simp only [VS.put, VS.cur] at hbd
              have hpc : ((10 * na + m : Nat) : Int) = 10 * (na : Int) + (m : Int) := by omega
              clear hcur
              have hc := H.cells; simp only [CellsOf, KnCells, knc, Nat.reduceAdd] at hc
              repeat' (first | (go_big_may; (first
    | ((first
        | (refine loud_ rfl ?_; refine wpList_plain rfl (fun K hK => ?_); (first | (refine op_box _ _ rfl H (fun b w' H1 => hK _ _ ?_)) | (refine op_alloc _ rfl (zero_of _ _ rfl) H (fun b w' H1 => hK _ _ ?_)) | (refine op_store _ _ _ rfl rfl rfl H (by repeat (first | exact Split.here _ _ | apply Split.there)) (by kernel_rfl) (by kernel_rfl) (by kernel_rfl) (fun w' H1 => hK _ _ ?_)) | (refine op_buildSlice_all _ _ _ rfl (by first | exact elem22 | exact elem39 | exact elem76 | exact elem154) (by kernel_rfl) (by kernel_rfl) (by kernel_rfl) H (fun b w' H1 => hK _ _ ?_))); clear hK K; replace H := H1; clear H1)); (try clear hc); (try simp only [nrm, splice, Value.cells, Nat.reduceAdd, Act.eval, Act.put] at H); have hc := H.cells; simp only [CellsOf, KnCells, knc, Nat.reduceAdd] at hc))) | go_values | go_skip | go_guarded | go_step | go_upon | go_back | dsimp only)
              exact ⟨⟨j + 1, 0, 1, 10 * na + m, nb, nc, by go_num, rfl, rfl, by omega, hend, by rw [hpc]; exact H⟩, by simp [intOf]; omega⟩
            · have h0' : ¬ (dg : Int) = 0 := by omega
              have h0'' : (0 : Int) < dg := by omega
              by_cases hz0 : na = 0
              · subst hz0
                have hend := Lib.hid (verOf_stop s j hjs hscan.out (vs_digno (by have := hn'.out; omega) (.inr ⟨by show 0 < dg; omega, rfl⟩)))
                have hc := H.cells; simp only [CellsOf, KnCells, knc, Nat.reduceAdd] at hc
                repeat' (first | (go_big_may; (first
    | ((first
        | (refine loud_ rfl ?_; refine wpList_plain rfl (fun K hK => ?_); (first | (refine op_box _ _ rfl H (fun b w' H1 => hK _ _ ?_)) | (refine op_alloc _ rfl (zero_of _ _ rfl) H (fun b w' H1 => hK _ _ ?_)) | (refine op_store _ _ _ rfl rfl rfl H (by repeat (first | exact Split.here _ _ | apply Split.there)) (by kernel_rfl) (by kernel_rfl) (by kernel_rfl) (fun w' H1 => hK _ _ ?_)) | (refine op_buildSlice_all _ _ _ rfl (by first | exact elem22 | exact elem39 | exact elem76 | exact elem154) (by kernel_rfl) (by kernel_rfl) (by kernel_rfl) H (fun b w' H1 => hK _ _ ?_))); clear hK K; replace H := H1; clear H1)); (try clear hc); (try simp only [nrm, splice, Value.cells, Nat.reduceAdd, Act.eval, Act.put] at H); have hc := H.cells; simp only [CellsOf, KnCells, knc, Nat.reduceAdd] at hc))) | go_values | go_skip | go_guarded | go_step | go_upon | go_back | dsimp only)
                exact bodyPost_ret (v := .tuple #[.agg #[.int .i64 0, .int .i64 0, .int .i64 0], .bool false]) (by simp [results, Tryd.results14, go_sem, hc, Act.put]; try rfl) rfl ⟨by rw [hend.out]; rfl, H.ext⟩
              · have hz1 : ¬ (na : Int) = 0 := by omega
                have hbz : ((na : Int) == 0) = false := by simp; omega
                have hend := Lib.hid (verOf_go s j hjs hscan.out (vs_dig (by have := hn'.out; omega) (by intro hx; rcases hx with hx | hx; exact h4 hx; exact hz0 hx.2)))
                rw [hn'.out, hq'.out] at hend
                clear hcur h0 hz0
                have hpc : ((10 * na + m : Nat) : Int) = 10 * (na : Int) + (m : Int) := by omega
                have hc := H.cells; simp only [CellsOf, KnCells, knc, Nat.reduceAdd] at hc
                repeat' (first | (go_big_may; (first
    | ((first
        | (refine loud_ rfl ?_; refine wpList_plain rfl (fun K hK => ?_); (first | (refine op_box _ _ rfl H (fun b w' H1 => hK _ _ ?_)) | (refine op_alloc _ rfl (zero_of _ _ rfl) H (fun b w' H1 => hK _ _ ?_)) | (refine op_store _ _ _ rfl rfl rfl H (by repeat (first | exact Split.here _ _ | apply Split.there)) (by kernel_rfl) (by kernel_rfl) (by kernel_rfl) (fun w' H1 => hK _ _ ?_)) | (refine op_buildSlice_all _ _ _ rfl (by first | exact elem22 | exact elem39 | exact elem76 | exact elem154) (by kernel_rfl) (by kernel_rfl) (by kernel_rfl) H (fun b w' H1 => hK _ _ ?_))); clear hK K; replace H := H1; clear H1)); (try clear hc); (try simp only [nrm, splice, Value.cells, Nat.reduceAdd, Act.eval, Act.put] at H); have hc := H.cells; simp only [CellsOf, KnCells, knc, Nat.reduceAdd] at hc))) | go_values | go_skip | go_guarded | go_step | go_upon | go_back | dsimp only)
                exact ⟨⟨j + 1, 0, dg + 1, 10 * na + m, nb, nc, by go_num, rfl, by go_num, by omega, hend, by rw [hpc]; exact H⟩, by simp [intOf]; omega⟩
          · have hcur : (⟨1, dg, na, nb, nc⟩ : VS).cur = nb := rfl
            by_cases h0 : dg = 0
            · subst h0
              have hend := Lib.hid (verOf_go s j hjs hscan.out (vs_dig (by have := hn'.out; omega) (by simp)))
              rw [hn'.out, hq'.out] at hend
              have hbd := vscan_fit hend.out
              simp only [VS.put, VS.cur] at hbd
              have hpc : ((10 * nb + m : Nat) : Int) = 10 * (nb : Int) + (m : Int) := by omega
              clear hcur
              have hc := H.cells; simp only [CellsOf, KnCells, knc, Nat.reduceAdd] at hc
              repeat' (first | (go_big_may; (first
    | ((first
        | (refine loud_ rfl ?_; refine wpList_plain rfl (fun K hK => ?_); (first | (refine op_box _ _ rfl H (fun b w' H1 => hK _ _ ?_)) | (refine op_alloc _ rfl (zero_of _ _ rfl) H (fun b w' H1 => hK _ _ ?_)) | (refine op_store _ _ _ rfl rfl rfl H (by repeat (first | exact Split.here _ _ | apply Split.there)) (by kernel_rfl) (by kernel_rfl) (by kernel_rfl) (fun w' H1 => hK _ _ ?_)) | (refine op_buildSlice_all _ _ _ rfl (by first | exact elem22 | exact elem39 | exact elem76 | exact elem154) (by kernel_rfl) (by kernel_rfl) (by kernel_rfl) H (fun b w' H1 => hK _ _ ?_))); clear hK K; replace H := H1; clear H1)); (try clear hc); (try simp only [nrm, splice, Value.cells, Nat.reduceAdd, Act.eval, Act.put] at H); have hc := H.cells; simp only [CellsOf, KnCells, knc, Nat.reduceAdd] at hc))) | go_values | go_skip | go_guarded | go_step | go_upon | go_back | dsimp only)
              exact ⟨⟨j + 1, 1, 1, na, 10 * nb + m, nc, by go_num, rfl, rfl, by omega, hend, by rw [hpc]; exact H⟩, by simp [intOf]; omega⟩
            · have h0' : ¬ (dg : Int) = 0 := by omega
              have h0'' : (0 : Int) < dg := by omega
              by_cases hz0 : nb = 0
              · subst hz0
                have hend := Lib.hid (verOf_stop s j hjs hscan.out (vs_digno (by have := hn'.out; omega) (.inr ⟨by show 0 < dg; omega, rfl⟩)))
                have hc := H.cells; simp only [CellsOf, KnCells, knc, Nat.reduceAdd] at hc
                repeat' (first | (go_big_may; (first
    | ((first
        | (refine loud_ rfl ?_; refine wpList_plain rfl (fun K hK => ?_); (first | (refine op_box _ _ rfl H (fun b w' H1 => hK _ _ ?_)) | (refine op_alloc _ rfl (zero_of _ _ rfl) H (fun b w' H1 => hK _ _ ?_)) | (refine op_store _ _ _ rfl rfl rfl H (by repeat (first | exact Split.here _ _ | apply Split.there)) (by kernel_rfl) (by kernel_rfl) (by kernel_rfl) (fun w' H1 => hK _ _ ?_)) | (refine op_buildSlice_all _ _ _ rfl (by first | exact elem22 | exact elem39 | exact elem76 | exact elem154) (by kernel_rfl) (by kernel_rfl) (by kernel_rfl) H (fun b w' H1 => hK _ _ ?_))); clear hK K; replace H := H1; clear H1)); (try clear hc); (try simp only [nrm, splice, Value.cells, Nat.reduceAdd, Act.eval, Act.put] at H); have hc := H.cells; simp only [CellsOf, KnCells, knc, Nat.reduceAdd] at hc))) | go_values | go_skip | go_guarded | go_step | go_upon | go_back | dsimp only)
                exact bodyPost_ret (v := .tuple #[.agg #[.int .i64 0, .int .i64 0, .int .i64 0], .bool false]) (by simp [results, Tryd.results14, go_sem, hc, Act.put]; try rfl) rfl ⟨by rw [hend.out]; rfl, H.ext⟩
              · have hz1 : ¬ (nb : Int) = 0 := by omega
                have hbz : ((nb : Int) == 0) = false := by simp; omega
                have hend := Lib.hid (verOf_go s j hjs hscan.out (vs_dig (by have := hn'.out; omega) (by intro hx; rcases hx with hx | hx; exact h4 hx; exact hz0 hx.2)))
                rw [hn'.out, hq'.out] at hend
                clear hcur h0 hz0
                have hpc : ((10 * nb + m : Nat) : Int) = 10 * (nb : Int) + (m : Int) := by omega
                have hc := H.cells; simp only [CellsOf, KnCells, knc, Nat.reduceAdd] at hc
                repeat' (first | (go_big_may; (first
    | ((first
        | (refine loud_ rfl ?_; refine wpList_plain rfl (fun K hK => ?_); (first | (refine op_box _ _ rfl H (fun b w' H1 => hK _ _ ?_)) | (refine op_alloc _ rfl (zero_of _ _ rfl) H (fun b w' H1 => hK _ _ ?_)) | (refine op_store _ _ _ rfl rfl rfl H (by repeat (first | exact Split.here _ _ | apply Split.there)) (by kernel_rfl) (by kernel_rfl) (by kernel_rfl) (fun w' H1 => hK _ _ ?_)) | (refine op_buildSlice_all _ _ _ rfl (by first | exact elem22 | exact elem39 | exact elem76 | exact elem154) (by kernel_rfl) (by kernel_rfl) (by kernel_rfl) H (fun b w' H1 => hK _ _ ?_))); clear hK K; replace H := H1; clear H1)); (try clear hc); (try simp only [nrm, splice, Value.cells, Nat.reduceAdd, Act.eval, Act.put] at H); have hc := H.cells; simp only [CellsOf, KnCells, knc, Nat.reduceAdd] at hc))) | go_values | go_skip | go_guarded | go_step | go_upon | go_back | dsimp only)
                exact ⟨⟨j + 1, 1, dg + 1, na, 10 * nb + m, nc, by go_num, rfl, by go_num, by omega, hend, by rw [hpc]; exact H⟩, by simp [intOf]; omega⟩
          · have hcur : (⟨2, dg, na, nb, nc⟩ : VS).cur = nc := rfl
            by_cases h0 : dg = 0
            · subst h0
              have hend := Lib.hid (verOf_go s j hjs hscan.out (vs_dig (by have := hn'.out; omega) (by simp)))
              rw [hn'.out, hq'.out] at hend
              have hbd := vscan_fit hend.out
              simp only [VS.put, VS.cur] at hbd
              have hpc : ((10 * nc + m : Nat) : Int) = 10 * (nc : Int) + (m : Int) := by omega
              clear hcur
              have hc := H.cells; simp only [CellsOf, KnCells, knc, Nat.reduceAdd] at hc
              repeat' (first | (go_big_may; (first
    | ((first
        | (refine loud_ rfl ?_; refine wpList_plain rfl (fun K hK => ?_); (first | (refine op_box _ _ rfl H (fun b w' H1 => hK _ _ ?_)) | (refine op_alloc _ rfl (zero_of _ _ rfl) H (fun b w' H1 => hK _ _ ?_)) | (refine op_store _ _ _ rfl rfl rfl H (by repeat (first | exact Split.here _ _ | apply Split.there)) (by kernel_rfl) (by kernel_rfl) (by kernel_rfl) (fun w' H1 => hK _ _ ?_)) | (refine op_buildSlice_all _ _ _ rfl (by first | exact elem22 | exact elem39 | exact elem76 | exact elem154) (by kernel_rfl) (by kernel_rfl) (by kernel_rfl) H (fun b w' H1 => hK _ _ ?_))); clear hK K; replace H := H1; clear H1)); (try clear hc); (try simp only [nrm, splice, Value.cells, Nat.reduceAdd, Act.eval, Act.put] at H); have hc := H.cells; simp only [CellsOf, KnCells, knc, Nat.reduceAdd] at hc))) | go_values | go_skip | go_guarded | go_step | go_upon | go_back | dsimp only)
              exact ⟨⟨j + 1, 2, 1, na, nb, 10 * nc + m, by go_num, rfl, rfl, by omega, hend, by rw [hpc]; exact H⟩, by simp [intOf]; omega⟩
            · have h0' : ¬ (dg : Int) = 0 := by omega
              have h0'' : (0 : Int) < dg := by omega
              by_cases hz0 : nc = 0
              · subst hz0
                have hend := Lib.hid (verOf_stop s j hjs hscan.out (vs_digno (by have := hn'.out; omega) (.inr ⟨by show 0 < dg; omega, rfl⟩)))
                have hc := H.cells; simp only [CellsOf, KnCells, knc, Nat.reduceAdd] at hc
                repeat' (first | (go_big_may; (first
    | ((first
        | (refine loud_ rfl ?_; refine wpList_plain rfl (fun K hK => ?_); (first | (refine op_box _ _ rfl H (fun b w' H1 => hK _ _ ?_)) | (refine op_alloc _ rfl (zero_of _ _ rfl) H (fun b w' H1 => hK _ _ ?_)) | (refine op_store _ _ _ rfl rfl rfl H (by repeat (first | exact Split.here _ _ | apply Split.there)) (by kernel_rfl) (by kernel_rfl) (by kernel_rfl) (fun w' H1 => hK _ _ ?_)) | (refine op_buildSlice_all _ _ _ rfl (by first | exact elem22 | exact elem39 | exact elem76 | exact elem154) (by kernel_rfl) (by kernel_rfl) (by kernel_rfl) H (fun b w' H1 => hK _ _ ?_))); clear hK K; replace H := H1; clear H1)); (try clear hc); (try simp only [nrm, splice, Value.cells, Nat.reduceAdd, Act.eval, Act.put] at H); have hc := H.cells; simp only [CellsOf, KnCells, knc, Nat.reduceAdd] at hc))) | go_values | go_skip | go_guarded | go_step | go_upon | go_back | dsimp only)
                exact bodyPost_ret (v := .tuple #[.agg #[.int .i64 0, .int .i64 0, .int .i64 0], .bool false]) (by simp [results, Tryd.results14, go_sem, hc, Act.put]; try rfl) rfl ⟨by rw [hend.out]; rfl, H.ext⟩
              · have hz1 : ¬ (nc : Int) = 0 := by omega
                have hbz : ((nc : Int) == 0) = false := by simp; omega
                have hend := Lib.hid (verOf_go s j hjs hscan.out (vs_dig (by have := hn'.out; omega) (by intro hx; rcases hx with hx | hx; exact h4 hx; exact hz0 hx.2)))
                rw [hn'.out, hq'.out] at hend
                clear hcur h0 hz0
                have hpc : ((10 * nc + m : Nat) : Int) = 10 * (nc : Int) + (m : Int) := by omega
                have hc := H.cells; simp only [CellsOf, KnCells, knc, Nat.reduceAdd] at hc
                repeat' (first | (go_big_may; (first
    | ((first
        | (refine loud_ rfl ?_; refine wpList_plain rfl (fun K hK => ?_); (first | (refine op_box _ _ rfl H (fun b w' H1 => hK _ _ ?_)) | (refine op_alloc _ rfl (zero_of _ _ rfl) H (fun b w' H1 => hK _ _ ?_)) | (refine op_store _ _ _ rfl rfl rfl H (by repeat (first | exact Split.here _ _ | apply Split.there)) (by kernel_rfl) (by kernel_rfl) (by kernel_rfl) (fun w' H1 => hK _ _ ?_)) | (refine op_buildSlice_all _ _ _ rfl (by first | exact elem22 | exact elem39 | exact elem76 | exact elem154) (by kernel_rfl) (by kernel_rfl) (by kernel_rfl) H (fun b w' H1 => hK _ _ ?_))); clear hK K; replace H := H1; clear H1)); (try clear hc); (try simp only [nrm, splice, Value.cells, Nat.reduceAdd, Act.eval, Act.put] at H); have hc := H.cells; simp only [CellsOf, KnCells, knc, Nat.reduceAdd] at hc))) | go_values | go_skip | go_guarded | go_step | go_upon | go_back | dsimp only)
                exact ⟨⟨j + 1, 2, dg + 1, na, nb, 10 * nc + m, by go_num, rfl, by go_num, by omega, hend, by rw [hpc]; exact H⟩, by simp [intOf]; omega⟩
      · have hcs : n < 48 ∨ 57 < n := by omega
        have hnd := Lib.hid hd
        clear hd
        by_cases hdot : n = 46 ∧ 0 < dg ∧ k < 2
        · obtain ⟨rfl, hd2, hd3⟩ := hdot
          have hend := Lib.hid (verOf_go s j hjs hscan.out (vs_dot hn'.out hd2 hd3))
          simp only at hend
          have hI1 : (0 : Int) < dg := by omega
          have hI2 : (k : Int) < 2 := by omega
          have hc := H.cells; simp only [CellsOf, KnCells, knc, Nat.reduceAdd] at hc
          repeat' (first | (go_big_may; (first
    | ((first
        | (refine loud_ rfl ?_; refine wpList_plain rfl (fun K hK => ?_); (first | (refine op_box _ _ rfl H (fun b w' H1 => hK _ _ ?_)) | (refine op_alloc _ rfl (zero_of _ _ rfl) H (fun b w' H1 => hK _ _ ?_)) | (refine op_store _ _ _ rfl rfl rfl H (by repeat (first | exact Split.here _ _ | apply Split.there)) (by kernel_rfl) (by kernel_rfl) (by kernel_rfl) (fun w' H1 => hK _ _ ?_)) | (refine op_buildSlice_all _ _ _ rfl (by first | exact elem22 | exact elem39 | exact elem76 | exact elem154) (by kernel_rfl) (by kernel_rfl) (by kernel_rfl) H (fun b w' H1 => hK _ _ ?_))); clear hK K; replace H := H1; clear H1)); (try clear hc); (try simp only [nrm, splice, Value.cells, Nat.reduceAdd, Act.eval, Act.put] at H); have hc := H.cells; simp only [CellsOf, KnCells, knc, Nat.reduceAdd] at hc))) | go_values | go_skip | go_guarded | go_step | go_upon | go_back | dsimp only)
          exact ⟨⟨j + 1, k + 1, 0, na, nb, nc, by go_num, by go_num, rfl, by omega, hend, H⟩, by simp [intOf]; omega⟩
        · have hend := Lib.hid (verOf_stop s j hjs hscan.out (vs_dotno (by rw [hn'.out]; exact hnd.out) (by rw [hn'.out]; exact hdot)))
          have hhi : ∀ (hx : n < 48), (decide ((48 : Int) ≤ n)) = false := fun hx => by simp; omega
          by_cases h46 : n = 46
          · subst h46
            by_cases hg : 0 < dg
            · have hk2 : k = 2 := by omega
              subst hk2
              have hI1 : (0 : Int) < dg := by omega
              clear hdot
              have hc := H.cells; simp only [CellsOf, KnCells, knc, Nat.reduceAdd] at hc
              repeat' (first | (go_big_may; (first
    | ((first
        | (refine loud_ rfl ?_; refine wpList_plain rfl (fun K hK => ?_); (first | (refine op_box _ _ rfl H (fun b w' H1 => hK _ _ ?_)) | (refine op_alloc _ rfl (zero_of _ _ rfl) H (fun b w' H1 => hK _ _ ?_)) | (refine op_store _ _ _ rfl rfl rfl H (by repeat (first | exact Split.here _ _ | apply Split.there)) (by kernel_rfl) (by kernel_rfl) (by kernel_rfl) (fun w' H1 => hK _ _ ?_)) | (refine op_buildSlice_all _ _ _ rfl (by first | exact elem22 | exact elem39 | exact elem76 | exact elem154) (by kernel_rfl) (by kernel_rfl) (by kernel_rfl) H (fun b w' H1 => hK _ _ ?_))); clear hK K; replace H := H1; clear H1)); (try clear hc); (try simp only [nrm, splice, Value.cells, Nat.reduceAdd, Act.eval, Act.put] at H); have hc := H.cells; simp only [CellsOf, KnCells, knc, Nat.reduceAdd] at hc))) | go_values | go_skip | go_guarded | go_step | go_upon | go_back | dsimp only)
              exact bodyPost_ret (v := .tuple #[.agg #[.int .i64 0, .int .i64 0, .int .i64 0], .bool false]) (by simp [results, Tryd.results14, go_sem, hc, Act.put]; try rfl) rfl ⟨by rw [hend.out]; rfl, H.ext⟩
            · have hg0 : dg = 0 := by omega
              subst hg0
              clear hdot
              have hc := H.cells; simp only [CellsOf, KnCells, knc, Nat.reduceAdd] at hc
              repeat' (first | (go_big_may; (first
    | ((first
        | (refine loud_ rfl ?_; refine wpList_plain rfl (fun K hK => ?_); (first | (refine op_box _ _ rfl H (fun b w' H1 => hK _ _ ?_)) | (refine op_alloc _ rfl (zero_of _ _ rfl) H (fun b w' H1 => hK _ _ ?_)) | (refine op_store _ _ _ rfl rfl rfl H (by repeat (first | exact Split.here _ _ | apply Split.there)) (by kernel_rfl) (by kernel_rfl) (by kernel_rfl) (fun w' H1 => hK _ _ ?_)) | (refine op_buildSlice_all _ _ _ rfl (by first | exact elem22 | exact elem39 | exact elem76 | exact elem154) (by kernel_rfl) (by kernel_rfl) (by kernel_rfl) H (fun b w' H1 => hK _ _ ?_))); clear hK K; replace H := H1; clear H1)); (try clear hc); (try simp only [nrm, splice, Value.cells, Nat.reduceAdd, Act.eval, Act.put] at H); have hc := H.cells; simp only [CellsOf, KnCells, knc, Nat.reduceAdd] at hc))) | go_values | go_skip | go_guarded | go_step | go_upon | go_back | dsimp only)
              exact bodyPost_ret (v := .tuple #[.agg #[.int .i64 0, .int .i64 0, .int .i64 0], .bool false]) (by simp [results, Tryd.results14, go_sem, hc, Act.put]; try rfl) rfl ⟨by rw [hend.out]; rfl, H.ext⟩
          · have hI3 : ¬ (n : Int) = 46 := by omega
            have hb3 : ((n : Int) == 46) = false := by simp; omega
            clear hdot
            rcases hcs with hx | hx
            · have hI4 : ¬ (48 : Int) ≤ n := by omega
              clear hhi
              have hc := H.cells; simp only [CellsOf, KnCells, knc, Nat.reduceAdd] at hc
              repeat' (first | (go_big_may; (first
    | ((first
        | (refine loud_ rfl ?_; refine wpList_plain rfl (fun K hK => ?_); (first | (refine op_box _ _ rfl H (fun b w' H1 => hK _ _ ?_)) | (refine op_alloc _ rfl (zero_of _ _ rfl) H (fun b w' H1 => hK _ _ ?_)) | (refine op_store _ _ _ rfl rfl rfl H (by repeat (first | exact Split.here _ _ | apply Split.there)) (by kernel_rfl) (by kernel_rfl) (by kernel_rfl) (fun w' H1 => hK _ _ ?_)) | (refine op_buildSlice_all _ _ _ rfl (by first | exact elem22 | exact elem39 | exact elem76 | exact elem154) (by kernel_rfl) (by kernel_rfl) (by kernel_rfl) H (fun b w' H1 => hK _ _ ?_))); clear hK K; replace H := H1; clear H1)); (try clear hc); (try simp only [nrm, splice, Value.cells, Nat.reduceAdd, Act.eval, Act.put] at H); have hc := H.cells; simp only [CellsOf, KnCells, knc, Nat.reduceAdd] at hc))) | go_values | go_skip | go_guarded | go_step | go_upon | go_back | dsimp only)
              exact bodyPost_ret (v := .tuple #[.agg #[.int .i64 0, .int .i64 0, .int .i64 0], .bool false]) (by simp [results, Tryd.results14, go_sem, hc, Act.put]; try rfl) rfl ⟨by rw [hend.out]; rfl, H.ext⟩
            · have hI4 : (48 : Int) ≤ n := by omega
              have hI5 : ¬ (n : Int) ≤ 57 := by omega
              clear hhi
              have hc := H.cells; simp only [CellsOf, KnCells, knc, Nat.reduceAdd] at hc
              repeat' (first | (go_big_may; (first
    | ((first
        | (refine loud_ rfl ?_; refine wpList_plain rfl (fun K hK => ?_); (first | (refine op_box _ _ rfl H (fun b w' H1 => hK _ _ ?_)) | (refine op_alloc _ rfl (zero_of _ _ rfl) H (fun b w' H1 => hK _ _ ?_)) | (refine op_store _ _ _ rfl rfl rfl H (by repeat (first | exact Split.here _ _ | apply Split.there)) (by kernel_rfl) (by kernel_rfl) (by kernel_rfl) (fun w' H1 => hK _ _ ?_)) | (refine op_buildSlice_all _ _ _ rfl (by first | exact elem22 | exact elem39 | exact elem76 | exact elem154) (by kernel_rfl) (by kernel_rfl) (by kernel_rfl) H (fun b w' H1 => hK _ _ ?_))); clear hK K; replace H := H1; clear H1)); (try clear hc); (try simp only [nrm, splice, Value.cells, Nat.reduceAdd, Act.eval, Act.put] at H); have hc := H.cells; simp only [CellsOf, KnCells, knc, Nat.reduceAdd] at hc))) | go_values | go_skip | go_guarded | go_step | go_upon | go_back | dsimp only)
              exact bodyPost_ret (v := .tuple #[.agg #[.int .i64 0, .int .i64 0, .int .i64 0], .bool false]) (by simp [results, Tryd.results14, go_sem, hc, Act.put]; try rfl) rfl ⟨by rw [hend.out]; rfl, H.ext⟩
    · have hend := Lib.hid (verOf_all s j hjs hscan.out)
      by_cases hk2 : k = 2
      · subst hk2
        by_cases hg : 0 < dg
        · have hI1 : ¬ (dg : Int) = 0 := by omega
          have hb1 : ((dg : Int) == 0) = false := by simp; omega
          have hgo := Lib.hid hg
          clear hg hdg
          have hc := H.cells; simp only [CellsOf, KnCells, knc, Nat.reduceAdd] at hc
          repeat' (first | (go_big_may; (first
    | ((first
        | (refine loud_ rfl ?_; refine wpList_plain rfl (fun K hK => ?_); (first | (refine op_box _ _ rfl H (fun b w' H1 => hK _ _ ?_)) | (refine op_alloc _ rfl (zero_of _ _ rfl) H (fun b w' H1 => hK _ _ ?_)) | (refine op_store _ _ _ rfl rfl rfl H (by repeat (first | exact Split.here _ _ | apply Split.there)) (by kernel_rfl) (by kernel_rfl) (by kernel_rfl) (fun w' H1 => hK _ _ ?_)) | (refine op_buildSlice_all _ _ _ rfl (by first | exact elem22 | exact elem39 | exact elem76 | exact elem154) (by kernel_rfl) (by kernel_rfl) (by kernel_rfl) H (fun b w' H1 => hK _ _ ?_))); clear hK K; replace H := H1; clear H1)); (try clear hc); (try simp only [nrm, splice, Value.cells, Nat.reduceAdd, Act.eval, Act.put] at H); have hc := H.cells; simp only [CellsOf, KnCells, knc, Nat.reduceAdd] at hc))) | go_values | go_skip | go_guarded | go_step | go_upon | go_back | dsimp only)
          exact bodyPost_ret (v := .tuple #[.agg #[.int .i64 na, .int .i64 nb, .int .i64 nc], .bool true]) (by simp [results, Tryd.results14, go_sem, hc, Act.put]; try rfl) rfl ⟨by rw [hend.out, vend_ok _ _ _ _ hgo.out]; rfl, H.ext⟩
        · have hg0 : dg = 0 := by omega
          subst hg0
          have hend : Hid (verOf s = none) := by show _ = _; rw [hend.out]; exact vend_no0 _ _ _ _
          have hc := H.cells; simp only [CellsOf, KnCells, knc, Nat.reduceAdd] at hc
          repeat' (first | (go_big_may; (first
    | ((first
        | (refine loud_ rfl ?_; refine wpList_plain rfl (fun K hK => ?_); (first | (refine op_box _ _ rfl H (fun b w' H1 => hK _ _ ?_)) | (refine op_alloc _ rfl (zero_of _ _ rfl) H (fun b w' H1 => hK _ _ ?_)) | (refine op_store _ _ _ rfl rfl rfl H (by repeat (first | exact Split.here _ _ | apply Split.there)) (by kernel_rfl) (by kernel_rfl) (by kernel_rfl) (fun w' H1 => hK _ _ ?_)) | (refine op_buildSlice_all _ _ _ rfl (by first | exact elem22 | exact elem39 | exact elem76 | exact elem154) (by kernel_rfl) (by kernel_rfl) (by kernel_rfl) H (fun b w' H1 => hK _ _ ?_))); clear hK K; replace H := H1; clear H1)); (try clear hc); (try simp only [nrm, splice, Value.cells, Nat.reduceAdd, Act.eval, Act.put] at H); have hc := H.cells; simp only [CellsOf, KnCells, knc, Nat.reduceAdd] at hc))) | go_values | go_skip | go_guarded | go_step | go_upon | go_back | dsimp only)
          exact bodyPost_ret (v := .tuple #[.agg #[.int .i64 0, .int .i64 0, .int .i64 0], .bool false]) (by simp [results, Tryd.results14, go_sem, hc, Act.put]; try rfl) rfl ⟨by rw [hend.out]; rfl, H.ext⟩
      · have hI1 : ¬ (k : Int) = 2 := by omega
        have hb1 : ((k : Int) != 2) = true := by simp; omega
        have hb2 : ((k : Int) == 2) = false := by simp; omega
        have hend : Hid (verOf s = none) := by show _ = _; rw [hend.out]; exact vend_no _ _ _ _ _ hk2
        have hc := H.cells; simp only [CellsOf, KnCells, knc, Nat.reduceAdd] at hc
        repeat' (first | (go_big_may; (first
    | ((first
        | (refine loud_ rfl ?_; refine wpList_plain rfl (fun K hK => ?_); (first | (refine op_box _ _ rfl H (fun b w' H1 => hK _ _ ?_)) | (refine op_alloc _ rfl (zero_of _ _ rfl) H (fun b w' H1 => hK _ _ ?_)) | (refine op_store _ _ _ rfl rfl rfl H (by repeat (first | exact Split.here _ _ | apply Split.there)) (by kernel_rfl) (by kernel_rfl) (by kernel_rfl) (fun w' H1 => hK _ _ ?_)) | (refine op_buildSlice_all _ _ _ rfl (by first | exact elem22 | exact elem39 | exact elem76 | exact elem154) (by kernel_rfl) (by kernel_rfl) (by kernel_rfl) H (fun b w' H1 => hK _ _ ?_))); clear hK K; replace H := H1; clear H1)); (try clear hc); (try simp only [nrm, splice, Value.cells, Nat.reduceAdd, Act.eval, Act.put] at H); have hc := H.cells; simp only [CellsOf, KnCells, knc, Nat.reduceAdd] at hc))) | go_values | go_skip | go_guarded | go_step | go_upon | go_back | dsimp only)
        exact bodyPost_ret (v := .tuple #[.agg #[.int .i64 0, .int .i64 0, .int .i64 0], .bool false]) (by simp [results, Tryd.results14, go_sem, hc, Act.put]; try rfl) rfl ⟨by rw [hend.out]; rfl, H.ext⟩
end Go.Proofs.YtdcijhdjddiboaaDoor
