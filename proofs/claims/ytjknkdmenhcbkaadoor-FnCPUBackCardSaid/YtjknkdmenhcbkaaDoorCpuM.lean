import Derived.Test.YtjknkdmenhcbkaaDoorCpuL
-- MORE
-- SUB2
namespace Go.Proofs.YtjknkdmenhcbkaaDoor
set_option linter.unusedVariables false
set_option linter.unusedSimpArgs false
set_option linter.unnecessarySimpa false
open Go Go.RowKit Go.V Go.Lib

theorem cr_bounds {p : List UInt8} {a b : Int} {q : Bool} (h : cpuRange p = (a, b, q)) : -2199023255552 ≤ a ∧ a ≤ 2199023255552 ∧ -2199023255552 ≤ b ∧ b ≤ 2199023255552 := by
  cases hq : pair p with
  | none =>
    rcases hv : numv p with ⟨v, q'⟩
    rw [cr_none hq hv] at h
    injection h with h1 h2
    injection h2 with h2 h3
    have := num_range hv
    omega
  | some xy =>
    obtain ⟨x, y⟩ := xy
    rcases ha : numv x with ⟨a', qa⟩
    rcases hb : numv y with ⟨b', qb⟩
    rw [cr_some hq ha hb] at h
    injection h with h1 h2
    injection h2 with h2 h3
    have := num_range ha
    have := num_range hb
    omega
theorem cr_le {p : List UInt8} {a b : Int} (h : cpuRange p = (a, b, true)) : a ≤ b := by
  cases hq : pair p with
  | none =>
    rcases hv : numv p with ⟨v, q'⟩
    rw [cr_none hq hv] at h
    injection h with h1 h2
    injection h2 with h2 h3
    omega
  | some xy =>
    obtain ⟨x, y⟩ := xy
    rcases ha : numv x with ⟨a', qa⟩
    rcases hb : numv y with ⟨b', qb⟩
    rw [cr_some hq ha hb] at h
    injection h with h1 h2
    injection h2 with h2 h3
    simp at h3
    omega
/-- A step of the reference's reading: the numbers, whether it is a list, and whether it is plain. -/
def sstep (st : List Int × Bool × Bool) (p : List UInt8) : List Int × Bool × Bool :=
  if plainP p = true then (if (cpuRange p).2.2 = true then st.1 ++ rng (cpuRange p).1 (cpuRange p).2.1 else st.1, st.2.1 && (cpuRange p).2.2, st.2.2) else (st.1, st.2.1, false)
def sparse (l : List UInt8) : List Int × Bool × Bool := if l = [] then ([], true, true) else (splitAt' 44 l).foldl sstep ([], true, true)
theorem sstep_wide {p : List UInt8} {acc : List Int} {ok pl : Bool} (h : plainP p = false) : sstep (acc, ok, pl) p = (acc, ok, false) := by
  unfold sstep
  rw [h]
  rfl
theorem sstep_no {p : List UInt8} {acc : List Int} {ok pl : Bool} {a b : Int} (h : plainP p = true) (hc : cpuRange p = (a, b, false)) : sstep (acc, ok, pl) p = (acc, false, pl) := by
  unfold sstep
  rw [h, hc]
  simp
theorem sstep_yes {p : List UInt8} {acc : List Int} {ok pl : Bool} {a b : Int} (h : plainP p = true) (hc : cpuRange p = (a, b, true)) : sstep (acc, ok, pl) p = (acc ++ rng a b, ok, pl) := by
  unfold sstep
  rw [h, hc]
  simp
theorem plain_cases {p : List UInt8} {a b : Int} {q : Bool} (hc : cpuRange p = (a, b, q)) : plainP p = !(decide (1099511627776 < b) || decide (100000 ≤ b - a)) := by
  unfold plainP
  rw [hc]
theorem rng_small {a b : Int} (h : b - a < 100000) : (rng a b).length ≤ 100000 := by
  rw [rng_len]
  omega
def AtSp (w : World) (src : Option Addr) (ps : List (List UInt8)) (o ok pl i : Value) (wr : World) : Prop := ∃ (j n cap : Nat) (key : Option Nat) (acc : List Int) (k p : Bool), o = sl key n cap ∧ ok = .bool k ∧ pl = .bool p ∧ i = .int .i64 j ∧ j ≤ ps.length ∧ n ≤ j * 100000 ∧ Hid (n = acc.length) ∧ Hid (ps.foldl sstep ([], true, true) = (ps.drop j).foldl sstep (acc, k, p)) ∧
  St [] w wr [(true, .row key 3 1 n cap (intsN acc)), (false, soft src (strs8 ps))]
def AtSr (w : World) (src : Option Addr) (ps : List (List UInt8)) (a b : Int) (acc : List Int) (m : Nat) (o i : Value) (wr : World) : Prop := ∃ (k cap : Nat) (key : Option Nat), o = sl key (m + k) cap ∧ i = .int .i64 (a + k) ∧ a + (k : Int) ≤ b + 1 ∧ k ≤ 100000 ∧
  St [] w wr [(true, .row key 3 1 (m + k) cap (intsN (acc ++ (rng a b).take k))), (false, soft src (strs8 ps))]
def SPost (w : World) (r : List Int × Bool × Bool) (e : Ending) (w' : World) : Prop := ∃ key n cap vs, Hid (r.2.1 = true → vs = intsN (rising r.1) ∧ n = (rising r.1).length) ∧ e = .returned (.tuple #[sl key n cap, .bool r.2.1, .bool r.2.2]) ∧ St [] w w' [(true, .row key 3 1 n cap vs)]
set_option maxHeartbeats 2000000 in
set_option maxRecDepth 8000 in
theorem sparse_calls (l : List UInt8) (hl : l.length ≤ 5000) (w : World) :
    Calls Tryd.prog 11 #[.string (bs l)] w (SPost w (sparse l)) := by
  have H := St.init [] w
  have hlen' := Lib.hid (fun p hp => Nat.le_trans (split_mem_len (c := 44) (l := l) (p := p) hp) hl)
  by_cases h0 : l = []
  · have hfin : Hid (sparse l = ([], true, true)) := by show _ = _; unfold sparse; rw [if_pos h0]
    subst h0
    have hb0 : List.isEmpty ([] : List UInt8) = true := rfl
    go_enter Tryd.func11, Tryd.ntmps11
    repeat' (first | (go_big_may; (first
    | ((first
        | (refine loud_ rfl ?_; refine wpList_plain rfl (fun K hK => ?_); (first | (refine op_box _ _ rfl H (fun b w' H1 => hK _ _ ?_)) | (refine op_alloc _ rfl (zero_of _ _ rfl) H (fun b w' H1 => hK _ _ ?_)) | (refine op_store _ _ _ rfl rfl rfl H (by repeat (first | exact Split.here _ _ | apply Split.there)) (by kernel_rfl) (by kernel_rfl) (by kernel_rfl) (fun w' H1 => hK _ _ ?_)) | (refine op_buildSlice_all _ _ _ rfl (by first | exact elem22 | exact elem45 | exact elem56 | exact elem58) (by kernel_rfl) (by kernel_rfl) (by kernel_rfl) H (fun b w' H1 => hK _ _ ?_))); clear hK K; replace H := H1; clear H1)); (try clear hc); (try simp only [nrm, splice, Value.cells, Nat.reduceAdd, Act.eval, Act.put] at H); have hc := H.cells; simp only [CellsOf, KnCells, knc, Nat.reduceAdd] at hc))) | go_values | go_skip | go_guarded | go_step | go_upon | go_back | dsimp only)
    go_ret3
    rw [hfin.out]
    have hr0 : rising [] = [] := by simp [rising, sortI, Lib.compact, Lib.compactUpTo]
    exact ⟨none, 0, 0, [], (fun _ => by rw [hr0]; exact ⟨rfl, rfl⟩), rfl, H.nilRow _ _⟩
  · have hfin : Hid (sparse l = (splitAt' 44 l).foldl sstep ([], true, true)) := by show _ = _; unfold sparse; rw [if_neg h0]
    have hb0 : l.isEmpty = false := by cases l <;> simp at h0 ⊢
    have hl9 : l.length ≤ 900000 := by omega
    generalize hps : splitAt' 44 l = ps at *
    obtain ⟨res, hres⟩ : ∃ r, Hid (r = sparse l) := ⟨_, rfl⟩
    rw [← hres.out] at hfin ⊢
    go_enter Tryd.func11, Tryd.ntmps11
    repeat' (first | (go_big_may; (first
    | go_skip
    | ((first
        | (go_at_call 20; refine Calls.mono (pieces_calls l hl9 _) ?_; rintro e w' ⟨key, n, cap, vs, hvs, hvn, rfl, H'⟩; replace H := H.merge (by first | exact Strikes.nil _ | (repeat (first | exact Strikes.nil _ | (apply Strikes.cons; focus (repeat (first | exact Split.here _ _ | apply Split.there)))))) H' rfl; clear H')
        | (refine loud_ rfl ?_; refine wpList_plain rfl (fun K hK => ?_); (first | (refine op_box _ _ rfl H (fun b w' H1 => hK _ _ ?_)) | (refine op_alloc _ rfl (zero_of _ _ rfl) H (fun b w' H1 => hK _ _ ?_)) | (refine op_store _ _ _ rfl rfl rfl H (by repeat (first | exact Split.here _ _ | apply Split.there)) (by kernel_rfl) (by kernel_rfl) (by kernel_rfl) (fun w' H1 => hK _ _ ?_)) | (refine op_buildSlice_all _ _ _ rfl (by first | exact elem22 | exact elem45 | exact elem56 | exact elem58) (by kernel_rfl) (by kernel_rfl) (by kernel_rfl) H (fun b w' H1 => hK _ _ ?_))); clear hK K; replace H := H1; clear H1)); (try clear hc); (try simp only [nrm, splice, Value.cells, Nat.reduceAdd, Act.eval, Act.put] at H); have hc := H.cells; simp only [CellsOf, KnCells, knc, Nat.reduceAdd] at hc))) | go_values | go_skip | go_guarded | go_step | go_upon | go_back | dsimp only)
    rw [hps] at hvs
    have hvs1 := hvs.out.1
    have hn := Lib.hid hvs.out.2
    subst hvs1
    clear hvs hps hres
    have hn5 : n ≤ 5001 := by omega
    replace H := H.rowSoft (key := key) (by repeat (first | exact Split.here _ _ | apply Split.there))
    (try simp only [List.append] at H)
    have H0 := H.sel (L' := [(false, soft (key.map fun b => ⟨b, 0, none⟩) (strs8 ps))]) (by repeat (first | exact Sel.nil _ | (apply Sel.cons; focus (repeat (first | exact Split.here _ _ | apply Split.there)))))
    clear H hc
    simp only [sl]
    generalize (key.map fun b => (⟨b, 0, none⟩ : Addr)) = src at *
    have hst : AtSp w src ps (sl none 0 0) (.bool true) (.bool true) (.int .i64 0) w' := ⟨0, 0, 0, none, [], true, true, rfl, rfl, rfl, rfl, Nat.zero_le _, Nat.zero_le _, rfl, rfl, H0.nilRow _ _⟩
    clear H0
    go_loopw [2, 3, 4, 16] (AtSp w src ps) (fun _ _ _ i _ => n - (intOf i).toNat)
    case atStart => exact hst
    case round =>
      clear hst
      obtain ⟨j, m, cap1, key1, acc, ok, pl, rfl, rfl, rfl, rfl, hj, hm, hma, hf, H⟩ := hrel
      rw [← hn.out] at hj
      have hm9 : m ≤ 510000000 := by omega
      have hm1 : m ≤ (j + 1) * 100000 := Nat.le_trans hm (Nat.mul_le_mul_right _ (Nat.le_succ j))
      have hm2' : m + 100000 ≤ (j + 1) * 100000 := by omega
      have hm2 := Lib.hid hm2'
      clear hm2'
      by_cases hlt : j < n
      · have hlt' : j < ps.length := by rw [← hn.out]; exact hlt
        obtain ⟨b1, o1, rfl, H1⟩ := H.elemSoft (Split.there _ (Split.here _ _)) j [.string (bs ps[j])] (by show 0 < 1; omega) (by simp [strs8]; omega) (by intro i hi; obtain rfl : i = 0 := (by simpa using hi); simp [strs8, hlt'])
        have hpl := hlen'.out ps[j] (List.getElem_mem _)
        have hdrop : ps.drop j = ps[j] :: ps.drop (j + 1) := List.drop_eq_getElem_cons hlt'
        rw [hdrop, List.foldl_cons] at hf
        clear hdrop
        generalize ps[j] = p at *
        replace H := H1
        clear H1
        have hcj : decide ((j : Int) < (n : Int)) = true := by simp; omega
        have hpl2 : p.length ≤ 900000 := by omega
        rcases hcr : cpuRange p with ⟨a, b, is⟩
        have hbd := cr_bounds hcr
        obtain ⟨ae, rfl⟩ : ∃ q, q = a := ⟨_, rfl⟩
        obtain ⟨be, rfl⟩ : ∃ q, q = b := ⟨_, rfl⟩
        have hcr' := Lib.hid hcr
        have hpc := plain_cases hcr
        cases hpp : plainP p with
        | false =>
          rw [sstep_wide hpp] at hf
          rw [hpp] at hpc
          clear hcr hpp
          by_cases hb1 : 1099511627776 < be
          · have hc1 : decide (1099511627776 < be) = true := by simpa using hb1
            clear hpc
            have hc := H.cells; simp only [CellsOf, KnCells, knc, Nat.reduceAdd] at hc
            repeat' (first | (go_big_may; (first
    | go_skip
    | ((first
        | (go_at_call 21; refine Calls.mono (cpuRange_calls p hpl2 ae be is hcr' _) ?_; rintro e w' ⟨rfl, H'⟩; replace H := H.of_ext H'; clear H')
        | (refine loud_ rfl ?_; refine wpList_plain rfl (fun K hK => ?_); (first | (refine op_box _ _ rfl H (fun b w' H1 => hK _ _ ?_)) | (refine op_alloc _ rfl (zero_of _ _ rfl) H (fun b w' H1 => hK _ _ ?_)) | (refine op_store _ _ _ rfl rfl rfl H (by repeat (first | exact Split.here _ _ | apply Split.there)) (by kernel_rfl) (by kernel_rfl) (by kernel_rfl) (fun w' H1 => hK _ _ ?_)) | (refine op_buildSlice_all _ _ _ rfl (by first | exact elem22 | exact elem45 | exact elem56 | exact elem58) (by kernel_rfl) (by kernel_rfl) (by kernel_rfl) H (fun b w' H1 => hK _ _ ?_))); clear hK K; replace H := H1; clear H1)); (try clear hc); (try simp only [nrm, splice, Value.cells, Nat.reduceAdd, Act.eval, Act.put] at H); have hc := H.cells; simp only [CellsOf, KnCells, knc, Nat.reduceAdd] at hc))) | go_values | go_skip | go_guarded | go_step | go_upon | go_back | dsimp only)
            exact ⟨⟨j + 1, m, cap1, key1, acc, ok, false, rfl, rfl, rfl, by go_num, by omega, hm1, hma, hf, H.sel (by repeat (first | exact Sel.nil _ | (apply Sel.cons; focus (repeat (first | exact Split.here _ _ | apply Split.there)))))⟩, by simp [intOf]; omega⟩
          · have hc1 : decide (1099511627776 < be) = false := by simpa using hb1
            rw [hc1] at hpc
            have hc2 : decide (100000 ≤ be - ae) = true := by simpa using hpc.symm
            clear hpc
            have hc := H.cells; simp only [CellsOf, KnCells, knc, Nat.reduceAdd] at hc
            repeat' (first | (go_big_may; (first
    | go_skip
    | ((first
        | (go_at_call 21; refine Calls.mono (cpuRange_calls p hpl2 ae be is hcr' _) ?_; rintro e w' ⟨rfl, H'⟩; replace H := H.of_ext H'; clear H')
        | (refine loud_ rfl ?_; refine wpList_plain rfl (fun K hK => ?_); (first | (refine op_box _ _ rfl H (fun b w' H1 => hK _ _ ?_)) | (refine op_alloc _ rfl (zero_of _ _ rfl) H (fun b w' H1 => hK _ _ ?_)) | (refine op_store _ _ _ rfl rfl rfl H (by repeat (first | exact Split.here _ _ | apply Split.there)) (by kernel_rfl) (by kernel_rfl) (by kernel_rfl) (fun w' H1 => hK _ _ ?_)) | (refine op_buildSlice_all _ _ _ rfl (by first | exact elem22 | exact elem45 | exact elem56 | exact elem58) (by kernel_rfl) (by kernel_rfl) (by kernel_rfl) H (fun b w' H1 => hK _ _ ?_))); clear hK K; replace H := H1; clear H1)); (try clear hc); (try simp only [nrm, splice, Value.cells, Nat.reduceAdd, Act.eval, Act.put] at H); have hc := H.cells; simp only [CellsOf, KnCells, knc, Nat.reduceAdd] at hc))) | go_values | go_skip | go_guarded | go_step | go_upon | go_back | dsimp only)
            exact ⟨⟨j + 1, m, cap1, key1, acc, ok, false, rfl, rfl, rfl, by go_num, by omega, hm1, hma, hf, H.sel (by repeat (first | exact Sel.nil _ | (apply Sel.cons; focus (repeat (first | exact Split.here _ _ | apply Split.there)))))⟩, by simp [intOf]; omega⟩
        | true =>
          have hbb := plain_iff hcr hpp
          have hc1 : decide (1099511627776 < be) = false := by simp; omega
          have hc2 : decide (100000 ≤ be - ae) = false := by simp; omega
          clear hpc
          cases is with
          | false =>
            rw [sstep_no hpp hcr] at hf
            clear hcr hpp
            cases ok with
            | false =>
              have hc := H.cells; simp only [CellsOf, KnCells, knc, Nat.reduceAdd] at hc
              repeat' (first | (go_big_may; (first
    | go_skip
    | ((first
        | (go_at_call 21; refine Calls.mono (cpuRange_calls p hpl2 ae be false hcr' _) ?_; rintro e w' ⟨rfl, H'⟩; replace H := H.of_ext H'; clear H')
        | (refine loud_ rfl ?_; refine wpList_plain rfl (fun K hK => ?_); (first | (refine op_box _ _ rfl H (fun b w' H1 => hK _ _ ?_)) | (refine op_alloc _ rfl (zero_of _ _ rfl) H (fun b w' H1 => hK _ _ ?_)) | (refine op_store _ _ _ rfl rfl rfl H (by repeat (first | exact Split.here _ _ | apply Split.there)) (by kernel_rfl) (by kernel_rfl) (by kernel_rfl) (fun w' H1 => hK _ _ ?_)) | (refine op_buildSlice_all _ _ _ rfl (by first | exact elem22 | exact elem45 | exact elem56 | exact elem58) (by kernel_rfl) (by kernel_rfl) (by kernel_rfl) H (fun b w' H1 => hK _ _ ?_))); clear hK K; replace H := H1; clear H1)); (try clear hc); (try simp only [nrm, splice, Value.cells, Nat.reduceAdd, Act.eval, Act.put] at H); have hc := H.cells; simp only [CellsOf, KnCells, knc, Nat.reduceAdd] at hc))) | go_values | go_skip | go_guarded | go_step | go_upon | go_back | dsimp only)
              have H0 := H.sel (L' := [(true, .row key1 3 1 m cap1 (intsN acc)), (false, soft (some ⟨b1, o1, none⟩) (strs8 ps))]) (by repeat (first | exact Sel.nil _ | (apply Sel.cons; focus (repeat (first | exact Split.here _ _ | apply Split.there)))))
              clear H hc
              go_loopw [2, 10] (fun o i wr => o = sl key1 m cap1 ∧ St [] w wr [(true, .row key1 3 1 m cap1 (intsN acc)), (false, soft (some ⟨b1, o1, none⟩) (strs8 ps))]) (fun _ _ _ => 0)
              case atStart => exact ⟨rfl, H0⟩
              case round =>
                clear H0
                obtain ⟨rfl, H⟩ := hrel
                have hc := H.cells; simp only [CellsOf, KnCells, knc, Nat.reduceAdd] at hc
                repeat' (first | (go_big_may; (first
    | ((first
        | (refine loud_ rfl ?_; refine wpList_plain rfl (fun K hK => ?_); (first | (refine op_box _ _ rfl H (fun b w' H1 => hK _ _ ?_)) | (refine op_alloc _ rfl (zero_of _ _ rfl) H (fun b w' H1 => hK _ _ ?_)) | (refine op_store _ _ _ rfl rfl rfl H (by repeat (first | exact Split.here _ _ | apply Split.there)) (by kernel_rfl) (by kernel_rfl) (by kernel_rfl) (fun w' H1 => hK _ _ ?_)) | (refine op_buildSlice_all _ _ _ rfl (by first | exact elem22 | exact elem45 | exact elem56 | exact elem58) (by kernel_rfl) (by kernel_rfl) (by kernel_rfl) H (fun b w' H1 => hK _ _ ?_))); clear hK K; replace H := H1; clear H1)); (try clear hc); (try simp only [nrm, splice, Value.cells, Nat.reduceAdd, Act.eval, Act.put] at H); have hc := H.cells; simp only [CellsOf, KnCells, knc, Nat.reduceAdd] at hc))) | go_values | go_skip | go_guarded | go_step | go_upon | go_back | dsimp only)
                exact ⟨⟨j + 1, m, cap1, key1, acc, false, pl, rfl, rfl, rfl, by go_num, by omega, hm1, hma, hf, H.sel (by repeat (first | exact Sel.nil _ | (apply Sel.cons; focus (repeat (first | exact Split.here _ _ | apply Split.there)))))⟩, by simp [intOf]; omega⟩
            | true =>
              have hc := H.cells; simp only [CellsOf, KnCells, knc, Nat.reduceAdd] at hc
              repeat' (first | (go_big_may; (first
    | go_skip
    | ((first
        | (go_at_call 21; refine Calls.mono (cpuRange_calls p hpl2 ae be false hcr' _) ?_; rintro e w' ⟨rfl, H'⟩; replace H := H.of_ext H'; clear H')
        | (refine loud_ rfl ?_; refine wpList_plain rfl (fun K hK => ?_); (first | (refine op_box _ _ rfl H (fun b w' H1 => hK _ _ ?_)) | (refine op_alloc _ rfl (zero_of _ _ rfl) H (fun b w' H1 => hK _ _ ?_)) | (refine op_store _ _ _ rfl rfl rfl H (by repeat (first | exact Split.here _ _ | apply Split.there)) (by kernel_rfl) (by kernel_rfl) (by kernel_rfl) (fun w' H1 => hK _ _ ?_)) | (refine op_buildSlice_all _ _ _ rfl (by first | exact elem22 | exact elem45 | exact elem56 | exact elem58) (by kernel_rfl) (by kernel_rfl) (by kernel_rfl) H (fun b w' H1 => hK _ _ ?_))); clear hK K; replace H := H1; clear H1)); (try clear hc); (try simp only [nrm, splice, Value.cells, Nat.reduceAdd, Act.eval, Act.put] at H); have hc := H.cells; simp only [CellsOf, KnCells, knc, Nat.reduceAdd] at hc))) | go_values | go_skip | go_guarded | go_step | go_upon | go_back | dsimp only)
              have H0 := H.sel (L' := [(true, .row key1 3 1 m cap1 (intsN acc)), (false, soft (some ⟨b1, o1, none⟩) (strs8 ps))]) (by repeat (first | exact Sel.nil _ | (apply Sel.cons; focus (repeat (first | exact Split.here _ _ | apply Split.there)))))
              clear H hc
              go_loopw [2, 10] (fun o i wr => o = sl key1 m cap1 ∧ St [] w wr [(true, .row key1 3 1 m cap1 (intsN acc)), (false, soft (some ⟨b1, o1, none⟩) (strs8 ps))]) (fun _ _ _ => 0)
              case atStart => exact ⟨rfl, H0⟩
              case round =>
                clear H0
                obtain ⟨rfl, H⟩ := hrel
                have hc := H.cells; simp only [CellsOf, KnCells, knc, Nat.reduceAdd] at hc
                repeat' (first | (go_big_may; (first
    | ((first
        | (refine loud_ rfl ?_; refine wpList_plain rfl (fun K hK => ?_); (first | (refine op_box _ _ rfl H (fun b w' H1 => hK _ _ ?_)) | (refine op_alloc _ rfl (zero_of _ _ rfl) H (fun b w' H1 => hK _ _ ?_)) | (refine op_store _ _ _ rfl rfl rfl H (by repeat (first | exact Split.here _ _ | apply Split.there)) (by kernel_rfl) (by kernel_rfl) (by kernel_rfl) (fun w' H1 => hK _ _ ?_)) | (refine op_buildSlice_all _ _ _ rfl (by first | exact elem22 | exact elem45 | exact elem56 | exact elem58) (by kernel_rfl) (by kernel_rfl) (by kernel_rfl) H (fun b w' H1 => hK _ _ ?_))); clear hK K; replace H := H1; clear H1)); (try clear hc); (try simp only [nrm, splice, Value.cells, Nat.reduceAdd, Act.eval, Act.put] at H); have hc := H.cells; simp only [CellsOf, KnCells, knc, Nat.reduceAdd] at hc))) | go_values | go_skip | go_guarded | go_step | go_upon | go_back | dsimp only)
                exact ⟨⟨j + 1, m, cap1, key1, acc, false, pl, rfl, rfl, rfl, by go_num, by omega, hm1, hma, hf, H.sel (by repeat (first | exact Sel.nil _ | (apply Sel.cons; focus (repeat (first | exact Split.here _ _ | apply Split.there)))))⟩, by simp [intOf]; omega⟩
          | true =>
            rw [sstep_yes hpp hcr] at hf
            have hab := cr_le hcr
            clear hcr hpp
            cases ok with
            | false =>
              have hc := H.cells; simp only [CellsOf, KnCells, knc, Nat.reduceAdd] at hc
              repeat' (first | (go_big_may; (first
    | go_skip
    | ((first
        | (go_at_call 21; refine Calls.mono (cpuRange_calls p hpl2 ae be true hcr' _) ?_; rintro e w' ⟨rfl, H'⟩; replace H := H.of_ext H'; clear H')
        | (refine loud_ rfl ?_; refine wpList_plain rfl (fun K hK => ?_); (first | (refine op_box _ _ rfl H (fun b w' H1 => hK _ _ ?_)) | (refine op_alloc _ rfl (zero_of _ _ rfl) H (fun b w' H1 => hK _ _ ?_)) | (refine op_store _ _ _ rfl rfl rfl H (by repeat (first | exact Split.here _ _ | apply Split.there)) (by kernel_rfl) (by kernel_rfl) (by kernel_rfl) (fun w' H1 => hK _ _ ?_)) | (refine op_buildSlice_all _ _ _ rfl (by first | exact elem22 | exact elem45 | exact elem56 | exact elem58) (by kernel_rfl) (by kernel_rfl) (by kernel_rfl) H (fun b w' H1 => hK _ _ ?_))); clear hK K; replace H := H1; clear H1)); (try clear hc); (try simp only [nrm, splice, Value.cells, Nat.reduceAdd, Act.eval, Act.put] at H); have hc := H.cells; simp only [CellsOf, KnCells, knc, Nat.reduceAdd] at hc))) | go_values | go_skip | go_guarded | go_step | go_upon | go_back | dsimp only)
              have H0 := H.sel (L' := [(true, .row key1 3 1 m cap1 (intsN acc)), (false, soft (some ⟨b1, o1, none⟩) (strs8 ps))]) (by repeat (first | exact Sel.nil _ | (apply Sel.cons; focus (repeat (first | exact Split.here _ _ | apply Split.there)))))
              clear H hc
              have hst : AtSr w (some ⟨b1, o1, none⟩) ps ae be acc m (sl key1 m cap1) (.int .i64 ae) w' := ⟨0, cap1, key1, rfl, by simp, by omega, Nat.zero_le _, by rw [List.take_zero, List.append_nil]; exact H0⟩
              clear H0
              go_loopw [2, 10] (AtSr w (some ⟨b1, o1, none⟩) ps ae be acc m) (fun _ i _ => (be + 1 - intOf i).toNat)
              case atStart => exact hst
              case round =>
                clear hst
                obtain ⟨k, cap1, key1, rfl, rfl, hk, hk2, H⟩ := hrel
                by_cases hke : ae + (k : Int) ≤ be
                · have hck : decide (ae + (k : Int) ≤ be) = true := by simpa using hke
                  have hst : Hid (intsN (acc ++ (rng ae be).take k) ++ [Value.int .i64 (ae + (k : Int))] = intsN (acc ++ (rng ae be).take (k + 1))) := by
                    have hkl : k < (rng ae be).length := by rw [rng_len]; omega
                    show _ = _
                    rw [← List.take_append_getElem hkl, rng_at, ← List.append_assoc]
                    simp [intsN]
                  have hk3 : k + 1 ≤ 100000 := by omega
                  have hc := H.cells; simp only [CellsOf, KnCells, knc, Nat.reduceAdd] at hc
                  repeat' (first | (go_big_may; (first
    | ((first
        | (refine loud_ rfl ?_; refine wpList_plain rfl (fun K hK => ?_); (first | (refine op_append_lit _ _ _ rfl elem22 rfl rfl H (by repeat (first | exact Split.here _ _ | apply Split.there)) (by repeat (first | exact Split.here _ _ | apply Split.there)) (by kernel_rfl) (by kernel_rfl) (by omega) (by unfold maxLen; omega) (fun key cap' w' H1 => hK _ _ ?_)) | (refine op_box _ _ rfl H (fun b w' H1 => hK _ _ ?_)) | (refine op_alloc _ rfl (zero_of _ _ rfl) H (fun b w' H1 => hK _ _ ?_)) | (refine op_store _ _ _ rfl rfl rfl H (by repeat (first | exact Split.here _ _ | apply Split.there)) (by kernel_rfl) (by kernel_rfl) (by kernel_rfl) (fun w' H1 => hK _ _ ?_)) | (refine op_buildSlice_all _ _ _ rfl (by first | exact elem22 | exact elem45 | exact elem56 | exact elem58) (by kernel_rfl) (by kernel_rfl) (by kernel_rfl) H (fun b w' H1 => hK _ _ ?_))); clear hK K; replace H := H1; clear H1)); (try clear hc); (try simp only [nrm, splice, Value.cells, Nat.reduceAdd, Act.eval, Act.put] at H); have hc := H.cells; simp only [CellsOf, KnCells, knc, Nat.reduceAdd] at hc))) | go_values | go_skip | go_guarded | go_step | go_upon | go_back | dsimp only)
                  exact ⟨⟨k + 1, cap', key, by rw [← Nat.add_assoc], by congr 1; omega, by omega, hk3, by rw [← hst.out, ← Nat.add_assoc]; exact H.sel (by repeat (first | exact Sel.nil _ | (apply Sel.cons; focus (repeat (first | exact Split.here _ _ | apply Split.there)))))⟩, by simp [intOf]; omega⟩
                · have hck : decide (ae + (k : Int) ≤ be) = false := by simp; omega
                  have hall : Hid ((rng ae be).take k = rng ae be) := by
                    show _ = _
                    rw [List.take_of_length_le]
                    rw [rng_len]
                    omega
                  have hkn : Hid (m + k = (acc ++ rng ae be).length ∧ m + k ≤ (j + 1) * 100000) := by
                    have h2 := hm2.out
                    refine ⟨?_, by omega⟩
                    rw [← hall.out, List.length_append, List.length_take, rng_len, hma.out]
                    omega
                  rw [hall.out] at H
                  have hc := H.cells; simp only [CellsOf, KnCells, knc, Nat.reduceAdd] at hc
                  repeat' (first | (go_big_may; (first
    | ((first
        | (refine loud_ rfl ?_; refine wpList_plain rfl (fun K hK => ?_); (first | (refine op_box _ _ rfl H (fun b w' H1 => hK _ _ ?_)) | (refine op_alloc _ rfl (zero_of _ _ rfl) H (fun b w' H1 => hK _ _ ?_)) | (refine op_store _ _ _ rfl rfl rfl H (by repeat (first | exact Split.here _ _ | apply Split.there)) (by kernel_rfl) (by kernel_rfl) (by kernel_rfl) (fun w' H1 => hK _ _ ?_)) | (refine op_buildSlice_all _ _ _ rfl (by first | exact elem22 | exact elem45 | exact elem56 | exact elem58) (by kernel_rfl) (by kernel_rfl) (by kernel_rfl) H (fun b w' H1 => hK _ _ ?_))); clear hK K; replace H := H1; clear H1)); (try clear hc); (try simp only [nrm, splice, Value.cells, Nat.reduceAdd, Act.eval, Act.put] at H); have hc := H.cells; simp only [CellsOf, KnCells, knc, Nat.reduceAdd] at hc))) | go_values | go_skip | go_guarded | go_step | go_upon | go_back | dsimp only)
                  exact ⟨⟨j + 1, m + k, cap1, key1, _, false, pl, rfl, rfl, rfl, by go_num, by omega, hkn.out.2, hkn.out.1, hf, H.sel (by repeat (first | exact Sel.nil _ | (apply Sel.cons; focus (repeat (first | exact Split.here _ _ | apply Split.there)))))⟩, by simp [intOf]; omega⟩
            | true =>
              have hc := H.cells; simp only [CellsOf, KnCells, knc, Nat.reduceAdd] at hc
              repeat' (first | (go_big_may; (first
    | go_skip
    | ((first
        | (go_at_call 21; refine Calls.mono (cpuRange_calls p hpl2 ae be true hcr' _) ?_; rintro e w' ⟨rfl, H'⟩; replace H := H.of_ext H'; clear H')
        | (refine loud_ rfl ?_; refine wpList_plain rfl (fun K hK => ?_); (first | (refine op_box _ _ rfl H (fun b w' H1 => hK _ _ ?_)) | (refine op_alloc _ rfl (zero_of _ _ rfl) H (fun b w' H1 => hK _ _ ?_)) | (refine op_store _ _ _ rfl rfl rfl H (by repeat (first | exact Split.here _ _ | apply Split.there)) (by kernel_rfl) (by kernel_rfl) (by kernel_rfl) (fun w' H1 => hK _ _ ?_)) | (refine op_buildSlice_all _ _ _ rfl (by first | exact elem22 | exact elem45 | exact elem56 | exact elem58) (by kernel_rfl) (by kernel_rfl) (by kernel_rfl) H (fun b w' H1 => hK _ _ ?_))); clear hK K; replace H := H1; clear H1)); (try clear hc); (try simp only [nrm, splice, Value.cells, Nat.reduceAdd, Act.eval, Act.put] at H); have hc := H.cells; simp only [CellsOf, KnCells, knc, Nat.reduceAdd] at hc))) | go_values | go_skip | go_guarded | go_step | go_upon | go_back | dsimp only)
              have H0 := H.sel (L' := [(true, .row key1 3 1 m cap1 (intsN acc)), (false, soft (some ⟨b1, o1, none⟩) (strs8 ps))]) (by repeat (first | exact Sel.nil _ | (apply Sel.cons; focus (repeat (first | exact Split.here _ _ | apply Split.there)))))
              clear H hc
              have hst : AtSr w (some ⟨b1, o1, none⟩) ps ae be acc m (sl key1 m cap1) (.int .i64 ae) w' := ⟨0, cap1, key1, rfl, by simp, by omega, Nat.zero_le _, by rw [List.take_zero, List.append_nil]; exact H0⟩
              clear H0
              go_loopw [2, 10] (AtSr w (some ⟨b1, o1, none⟩) ps ae be acc m) (fun _ i _ => (be + 1 - intOf i).toNat)
              case atStart => exact hst
              case round =>
                clear hst
                obtain ⟨k, cap1, key1, rfl, rfl, hk, hk2, H⟩ := hrel
                by_cases hke : ae + (k : Int) ≤ be
                · have hck : decide (ae + (k : Int) ≤ be) = true := by simpa using hke
                  have hst : Hid (intsN (acc ++ (rng ae be).take k) ++ [Value.int .i64 (ae + (k : Int))] = intsN (acc ++ (rng ae be).take (k + 1))) := by
                    have hkl : k < (rng ae be).length := by rw [rng_len]; omega
                    show _ = _
                    rw [← List.take_append_getElem hkl, rng_at, ← List.append_assoc]
                    simp [intsN]
                  have hk3 : k + 1 ≤ 100000 := by omega
                  have hc := H.cells; simp only [CellsOf, KnCells, knc, Nat.reduceAdd] at hc
                  repeat' (first | (go_big_may; (first
    | ((first
        | (refine loud_ rfl ?_; refine wpList_plain rfl (fun K hK => ?_); (first | (refine op_append_lit _ _ _ rfl elem22 rfl rfl H (by repeat (first | exact Split.here _ _ | apply Split.there)) (by repeat (first | exact Split.here _ _ | apply Split.there)) (by kernel_rfl) (by kernel_rfl) (by omega) (by unfold maxLen; omega) (fun key cap' w' H1 => hK _ _ ?_)) | (refine op_box _ _ rfl H (fun b w' H1 => hK _ _ ?_)) | (refine op_alloc _ rfl (zero_of _ _ rfl) H (fun b w' H1 => hK _ _ ?_)) | (refine op_store _ _ _ rfl rfl rfl H (by repeat (first | exact Split.here _ _ | apply Split.there)) (by kernel_rfl) (by kernel_rfl) (by kernel_rfl) (fun w' H1 => hK _ _ ?_)) | (refine op_buildSlice_all _ _ _ rfl (by first | exact elem22 | exact elem45 | exact elem56 | exact elem58) (by kernel_rfl) (by kernel_rfl) (by kernel_rfl) H (fun b w' H1 => hK _ _ ?_))); clear hK K; replace H := H1; clear H1)); (try clear hc); (try simp only [nrm, splice, Value.cells, Nat.reduceAdd, Act.eval, Act.put] at H); have hc := H.cells; simp only [CellsOf, KnCells, knc, Nat.reduceAdd] at hc))) | go_values | go_skip | go_guarded | go_step | go_upon | go_back | dsimp only)
                  exact ⟨⟨k + 1, cap', key, by rw [← Nat.add_assoc], by congr 1; omega, by omega, hk3, by rw [← hst.out, ← Nat.add_assoc]; exact H.sel (by repeat (first | exact Sel.nil _ | (apply Sel.cons; focus (repeat (first | exact Split.here _ _ | apply Split.there)))))⟩, by simp [intOf]; omega⟩
                · have hck : decide (ae + (k : Int) ≤ be) = false := by simp; omega
                  have hall : Hid ((rng ae be).take k = rng ae be) := by
                    show _ = _
                    rw [List.take_of_length_le]
                    rw [rng_len]
                    omega
                  have hkn : Hid (m + k = (acc ++ rng ae be).length ∧ m + k ≤ (j + 1) * 100000) := by
                    have h2 := hm2.out
                    refine ⟨?_, by omega⟩
                    rw [← hall.out, List.length_append, List.length_take, rng_len, hma.out]
                    omega
                  rw [hall.out] at H
                  have hc := H.cells; simp only [CellsOf, KnCells, knc, Nat.reduceAdd] at hc
                  repeat' (first | (go_big_may; (first
    | ((first
        | (refine loud_ rfl ?_; refine wpList_plain rfl (fun K hK => ?_); (first | (refine op_box _ _ rfl H (fun b w' H1 => hK _ _ ?_)) | (refine op_alloc _ rfl (zero_of _ _ rfl) H (fun b w' H1 => hK _ _ ?_)) | (refine op_store _ _ _ rfl rfl rfl H (by repeat (first | exact Split.here _ _ | apply Split.there)) (by kernel_rfl) (by kernel_rfl) (by kernel_rfl) (fun w' H1 => hK _ _ ?_)) | (refine op_buildSlice_all _ _ _ rfl (by first | exact elem22 | exact elem45 | exact elem56 | exact elem58) (by kernel_rfl) (by kernel_rfl) (by kernel_rfl) H (fun b w' H1 => hK _ _ ?_))); clear hK K; replace H := H1; clear H1)); (try clear hc); (try simp only [nrm, splice, Value.cells, Nat.reduceAdd, Act.eval, Act.put] at H); have hc := H.cells; simp only [CellsOf, KnCells, knc, Nat.reduceAdd] at hc))) | go_values | go_skip | go_guarded | go_step | go_upon | go_back | dsimp only)
                  exact ⟨⟨j + 1, m + k, cap1, key1, _, true, pl, rfl, rfl, rfl, by go_num, by omega, hkn.out.2, hkn.out.1, hf, H.sel (by repeat (first | exact Sel.nil _ | (apply Sel.cons; focus (repeat (first | exact Split.here _ _ | apply Split.there)))))⟩, by simp [intOf]; omega⟩
      · have hje : j = n := by omega
        have hcj : decide ((j : Int) < (n : Int)) = false := by simp; omega
        have hfi : res = (acc, ok, pl) := by
          rw [hfin.out, hf.out, List.drop_of_length_le (by rw [← hn.out]; omega)]
          rfl
        clear hf hfin
        subst hfi
        cases ok with
        | false =>
          have hc := H.cells; simp only [CellsOf, KnCells, knc, Nat.reduceAdd] at hc
          repeat' (first | (go_big_may; (first
    | ((first
        | (refine loud_ rfl ?_; refine wpList_plain rfl (fun K hK => ?_); (first | (refine op_box _ _ rfl H (fun b w' H1 => hK _ _ ?_)) | (refine op_alloc _ rfl (zero_of _ _ rfl) H (fun b w' H1 => hK _ _ ?_)) | (refine op_store _ _ _ rfl rfl rfl H (by repeat (first | exact Split.here _ _ | apply Split.there)) (by kernel_rfl) (by kernel_rfl) (by kernel_rfl) (fun w' H1 => hK _ _ ?_)) | (refine op_buildSlice_all _ _ _ rfl (by first | exact elem22 | exact elem45 | exact elem56 | exact elem58) (by kernel_rfl) (by kernel_rfl) (by kernel_rfl) H (fun b w' H1 => hK _ _ ?_))); clear hK K; replace H := H1; clear H1)); (try clear hc); (try simp only [nrm, splice, Value.cells, Nat.reduceAdd, Act.eval, Act.put] at H); have hc := H.cells; simp only [CellsOf, KnCells, knc, Nat.reduceAdd] at hc))) | go_values | go_skip | go_guarded | go_step | go_upon | go_back | dsimp only)
          go_ret3
          exact ⟨none, 0, 0, [], (by intro h; cases h), rfl, (St.top0 H).nilRow _ _⟩
        | true =>
          have hma' : Hid (acc.length = m) := hma.out.symm
          replace H := H.rowSoft (key := key1) (by repeat (first | exact Split.here _ _ | apply Split.there))
          (try simp only [List.append] at H)
          have hc := H.cells; simp only [CellsOf, KnCells, knc, Nat.reduceAdd] at hc
          repeat' (first | (go_big_may; (first
    | go_skip
    | ((first
        | (go_at_call 10; refine Calls.mono (rising_calls (key1.map fun b => ⟨b, 0, none⟩) acc m cap1 hma' (by omega) _ (H.pick (by repeat (first | exact Picks.nil _ | (apply Picks.wr; focus (repeat (first | exact Split.here _ _ | apply Split.there))) | (apply Picks.rd; focus (repeat (first | exact Split.here _ _ | apply Split.there))))))) ?_; rintro e w' ⟨key9, n9, cap9, hn9, hle9, rfl, H'⟩; replace H := H.merge (by first | exact Strikes.nil _ | (repeat (first | exact Strikes.nil _ | (apply Strikes.cons; focus (repeat (first | exact Split.here _ _ | apply Split.there)))))) H' rfl; clear H')
        | (refine loud_ rfl ?_; refine wpList_plain rfl (fun K hK => ?_); (first | (refine op_box _ _ rfl H (fun b w' H1 => hK _ _ ?_)) | (refine op_alloc _ rfl (zero_of _ _ rfl) H (fun b w' H1 => hK _ _ ?_)) | (refine op_store _ _ _ rfl rfl rfl H (by repeat (first | exact Split.here _ _ | apply Split.there)) (by kernel_rfl) (by kernel_rfl) (by kernel_rfl) (fun w' H1 => hK _ _ ?_)) | (refine op_buildSlice_all _ _ _ rfl (by first | exact elem22 | exact elem45 | exact elem56 | exact elem58) (by kernel_rfl) (by kernel_rfl) (by kernel_rfl) H (fun b w' H1 => hK _ _ ?_))); clear hK K; replace H := H1; clear H1)); (try clear hc); (try simp only [nrm, splice, Value.cells, Nat.reduceAdd, Act.eval, Act.put] at H); have hc := H.cells; simp only [CellsOf, KnCells, knc, Nat.reduceAdd] at hc))) | go_values | go_skip | go_guarded | go_step | go_upon | go_back | dsimp only)
          go_ret3
          exact ⟨key9, n9, cap9, _, (fun _ => ⟨rfl, hn9.out⟩), rfl, H.top1⟩
end Go.Proofs.YtjknkdmenhcbkaaDoor
