import Derived.Test.YtelddhcggmfloaaCkCb
import Derived.Test.YtelddhcggmfloaaCkH
-- MORE
-- SUB2
namespace Go.Proofs.Ytelddhcggmfloaa
set_option linter.unusedVariables false
set_option linter.unusedSimpArgs false
set_option linter.unnecessarySimpa false
open Go Go.RowKit Go.V

/-! Rounds of which the laws speak. -/
structure DGood (own : Int) (d : Rd) : Prop where
  hs12 : d.hs.list.length ≤ 12
  rv12 : d.rv.list.length ≤ 12
  same : d.rv.list.length = d.prs.list.length
  revs : ∀ h ∈ d.hs.list, 1 ≤ h.rev ∧ h.rev ≠ 9223372036854775807
  nod : (d.hs.list.map KH.rev).Nodup
  peers : ∀ r ∈ d.prs.list, PGood own r.list
structure RdCap (d : Rd) : Prop where
  hs : d.hs.list.length ≤ d.hs.cap
  rv : d.rv.list.length ≤ d.rv.cap
  prs : ∀ r ∈ d.prs.list, r.list.length ≤ r.cap
def RgPost (own : Int) (rds : List Rd) (w : World) (e : Ending) (w' : World) : Prop := ∃ t, e = .returned (.bool t) ∧ Ext [] w w' ∧ (t = true → rds.length ≤ 8 ∧ ∀ d ∈ rds, DGood own d)
theorem rg_no {own : Int} {rds : List Rd} {w w' : World} (h : Ext [] w w') : RgPost own rds w (.returned (.bool false)) w' := ⟨false, rfl, h, fun h => by cases h⟩
def AtRg (n : Nat) (own : Int) (rds : List Rd) (src : Option Addr) (w : World) (i : Value) (wr : World) : Prop := ∃ j : Nat, j ≤ n ∧ i = .int .i64 j ∧ Hid (∀ d ∈ rds.take j, DGood own d) ∧ St [] w wr [(false, soft src (rds.flatMap Rd.cells))]
def HsTo (hs : List KH) (k : Nat) : Prop := (∀ h ∈ hs.take k, 1 ≤ h.rev ∧ h.rev ≠ 9223372036854775807) ∧ ((hs.take k).map KH.rev).Nodup
def AtRh (n : Nat) (hs : List KH) (ha : Option Addr) (L : List Ent) (w : World) (i : Value) (wr : World) : Prop := ∃ k : Nat, k ≤ n ∧ i = .int .i64 k ∧ Hid (HsTo hs k) ∧ St [] w wr ((false, soft ha (hs.flatMap KH.cells)) :: L)
def AtRi (k : Nat) (hs : List KH) (ha : Option Addr) (rev : Int) (L : List Ent) (w : World) (i : Value) (wr : World) : Prop := ∃ m : Nat, m ≤ k ∧ i = .int .i64 m ∧ Hid (∀ q ∈ hs.take m, q.rev ≠ rev) ∧ St [] w wr ((false, soft ha (hs.flatMap KH.cells)) :: L)
def AtRp (n : Nat) (own : Int) (prs : List (Row Pr)) (pa : Option Addr) (L : List Ent) (w : World) (i : Value) (wr : World) : Prop := ∃ k : Nat, k ≤ n ∧ i = .int .i64 k ∧ Hid (∀ r ∈ prs.take k, PGood own r.list) ∧ St [] w wr ((false, soft pa (prs.map Row.val)) :: L)
def AtRr (k : Nat) (vs : List Int) (ra : Option Addr) (L : List Ent) (w : World) (i : Value) (wr : World) : Prop := ∃ m : Nat, m ≤ k ∧ i = .int .i64 m ∧ St [] w wr ((false, soft ra (vs.map i8)) :: L)
set_option maxRecDepth 10000 in
set_option maxHeartbeats 8000000 in
theorem rgood_calls (own : Int) (rds : List Rd) (src : Option Addr) (n c : Nat) (hn : Hid (rds.length = n)) (hl : n ≤ 2147483647) (w : World) (hR : Hid (∀ d ∈ rds, RdAt w d)) (hC : Hid (∀ d ∈ rds, RdCap d)) (hF : Hid (∀ d ∈ rds, FewIn d.prs.list)) (H : St [] w w [(false, soft src (rds.flatMap Rd.cells))]) :
    Calls Try.prog 14 #[.int .u64 own, .slice src n c] w (RgPost own rds w) := by
  go_enter Try.func14, Try.ntmps14
  repeat' (first | (go_big_may; (first
    | ((first
        | (refine loud_ rfl ?_; refine wpList_plain rfl (fun K hK => ?_); (first | (refine op_box _ _ rfl H (fun b w' H1 => hK _ _ ?_)) | (refine op_alloc _ rfl (zero_of _ _ rfl) H (fun b w' H1 => hK _ _ ?_)) | (refine op_store _ _ _ rfl rfl rfl H (by repeat (first | exact Split.here _ _ | apply Split.there)) (by kernel_rfl) (by kernel_rfl) (by kernel_rfl) (fun w' H1 => hK _ _ ?_)) | (refine op_buildSlice_all _ _ _ rfl (by first | exact elem25 | exact elem32 | exact elem35 | exact elem36 | exact elem37 | exact elem38 | exact elem41 | exact elem42 | exact elem45 | exact elem57 | exact elem62 | exact elem74 | exact elem98 | exact elem100 | exact elem137 | exact elem178 | exact elem179) (by kernel_rfl) (by kernel_rfl) (by kernel_rfl) H (fun b w' H1 => hK _ _ ?_))); clear hK K; replace H := H1; clear H1)); (try clear hc); (try simp only [nrm, splice, Value.cells, Nat.reduceAdd, Act.eval, Act.put] at H); have hc := H.cells; simp only [CellsOf, KnCells, knc, Nat.reduceAdd] at hc))) | go_values | go_skip | go_guarded | go_step | go_upon | go_back | dsimp only)
  go_loopw [17] (AtRg n own rds src w) (fun i _ => n - (intOf i).toNat)
  case atStart => exact ⟨0, Nat.zero_le _, rfl, Lib.hid (by simp), H⟩
  case round =>
    clear H
    obtain ⟨j, hj, rfl, hgd, H⟩ := hrel
    by_cases hlt : j < n
    case neg =>
      obtain rfl : j = n := by omega
      rw [List.take_of_length_le (by rw [hn.out]; exact Nat.le_refl _)] at hgd
      by_cases e1 : (j : Int) ≤ 8
      · have hc := H.cells; simp only [CellsOf, KnCells, knc, Nat.reduceAdd] at hc
        repeat' (first | (go_big_may; (first
    | ((first
        | (refine loud_ rfl ?_; refine wpList_plain rfl (fun K hK => ?_); (first | (refine op_box _ _ rfl H (fun b w' H1 => hK _ _ ?_)) | (refine op_alloc _ rfl (zero_of _ _ rfl) H (fun b w' H1 => hK _ _ ?_)) | (refine op_store _ _ _ rfl rfl rfl H (by repeat (first | exact Split.here _ _ | apply Split.there)) (by kernel_rfl) (by kernel_rfl) (by kernel_rfl) (fun w' H1 => hK _ _ ?_)) | (refine op_buildSlice_all _ _ _ rfl (by first | exact elem25 | exact elem32 | exact elem35 | exact elem36 | exact elem37 | exact elem38 | exact elem41 | exact elem42 | exact elem45 | exact elem57 | exact elem62 | exact elem74 | exact elem98 | exact elem100 | exact elem137 | exact elem178 | exact elem179) (by kernel_rfl) (by kernel_rfl) (by kernel_rfl) H (fun b w' H1 => hK _ _ ?_))); clear hK K; replace H := H1; clear H1)); (try clear hc); (try simp only [nrm, splice, Value.cells, Nat.reduceAdd, Act.eval, Act.put] at H); have hc := H.cells; simp only [CellsOf, KnCells, knc, Nat.reduceAdd] at hc))) | go_values | go_skip | go_guarded | go_step | go_upon | go_back | dsimp only)
        go_ret
        exact ⟨_, rfl, H.ext, fun _ => ⟨by rw [hn.out]; omega, hgd.out⟩⟩
      · have hc := H.cells; simp only [CellsOf, KnCells, knc, Nat.reduceAdd] at hc
        repeat' (first | (go_big_may; (first
    | ((first
        | (refine loud_ rfl ?_; refine wpList_plain rfl (fun K hK => ?_); (first | (refine op_box _ _ rfl H (fun b w' H1 => hK _ _ ?_)) | (refine op_alloc _ rfl (zero_of _ _ rfl) H (fun b w' H1 => hK _ _ ?_)) | (refine op_store _ _ _ rfl rfl rfl H (by repeat (first | exact Split.here _ _ | apply Split.there)) (by kernel_rfl) (by kernel_rfl) (by kernel_rfl) (fun w' H1 => hK _ _ ?_)) | (refine op_buildSlice_all _ _ _ rfl (by first | exact elem25 | exact elem32 | exact elem35 | exact elem36 | exact elem37 | exact elem38 | exact elem41 | exact elem42 | exact elem45 | exact elem57 | exact elem62 | exact elem74 | exact elem98 | exact elem100 | exact elem137 | exact elem178 | exact elem179) (by kernel_rfl) (by kernel_rfl) (by kernel_rfl) H (fun b w' H1 => hK _ _ ?_))); clear hK K; replace H := H1; clear H1)); (try clear hc); (try simp only [nrm, splice, Value.cells, Nat.reduceAdd, Act.eval, Act.put] at H); have hc := H.cells; simp only [CellsOf, KnCells, knc, Nat.reduceAdd] at hc))) | go_values | go_skip | go_guarded | go_step | go_upon | go_back | dsimp only)
        go_ret
        exact ⟨_, rfl, H.ext, fun h => by simp at h⟩
    have hj' : j < rds.length := by rw [hn.out]; exact hlt
    have hcat : Hid (rds.take (j + 1) = rds.take j ++ [rds[j]]) := (List.take_append_getElem hj').symm
    have hd := Lib.hid (hR.out _ (List.getElem_mem hj'))
    have hfd := Lib.hid (hF.out _ (List.getElem_mem hj'))
    have hcd := Lib.hid (hC.out _ (List.getElem_mem hj'))
    obtain ⟨b1, o1, rfl, H1⟩ := H.elemSoft (Split.here _ _) (j * 3) (rds[j]).cells (by show 0 < 3; omega) (by rw [rd_cells_len]; show _ + 3 ≤ _; omega) (fun i hi => flat_at Rd.cells 3 rds (fun _ _ => rfl) j i hj' hi)
    clear H
    have H := H1
    clear H1
    generalize rds[j] = d at *
    clear hj'
    obtain ⟨⟨ha, hcp, hsl⟩, ⟨ra, rcp, rl⟩, ⟨pa, pcp, pl⟩⟩ := d
    simp only [Rd.cells, Row.val] at H
    have hcp1 : hsl.length ≤ hcp := hcd.out.hs
    have hcp2 : rl.length ≤ rcp := hcd.out.rv
    generalize hhn : hsl.length = hn9 at *
    have hhn2 := Lib.hid hhn
    clear hhn
    generalize hrn : rl.length = rn at *
    have hrn2 := Lib.hid hrn
    clear hrn
    generalize hpn : pl.length = pn at *
    have hpn2 := Lib.hid hpn
    clear hpn
    by_cases e1 : (12 : Int) < hn9
    · have hc := H.cells; simp only [CellsOf, KnCells, knc, Nat.reduceAdd] at hc
      repeat' (first | (go_big_may; (first
    | ((first
        | (refine loud_ rfl ?_; refine wpList_plain rfl (fun K hK => ?_); (first | (refine op_box _ _ rfl H (fun b w' H1 => hK _ _ ?_)) | (refine op_alloc _ rfl (zero_of _ _ rfl) H (fun b w' H1 => hK _ _ ?_)) | (refine op_store _ _ _ rfl rfl rfl H (by repeat (first | exact Split.here _ _ | apply Split.there)) (by kernel_rfl) (by kernel_rfl) (by kernel_rfl) (fun w' H1 => hK _ _ ?_)) | (refine op_buildSlice_all _ _ _ rfl (by first | exact elem25 | exact elem32 | exact elem35 | exact elem36 | exact elem37 | exact elem38 | exact elem41 | exact elem42 | exact elem45 | exact elem57 | exact elem62 | exact elem74 | exact elem98 | exact elem100 | exact elem137 | exact elem178 | exact elem179) (by kernel_rfl) (by kernel_rfl) (by kernel_rfl) H (fun b w' H1 => hK _ _ ?_))); clear hK K; replace H := H1; clear H1)); (try clear hc); (try simp only [nrm, splice, Value.cells, Nat.reduceAdd, Act.eval, Act.put] at H); have hc := H.cells; simp only [CellsOf, KnCells, knc, Nat.reduceAdd] at hc))) | go_values | go_skip | go_guarded | go_step | go_upon | go_back | dsimp only)
      go_ret
      exact rg_no H.ext
    by_cases e2 : (12 : Int) < rn
    · have hc := H.cells; simp only [CellsOf, KnCells, knc, Nat.reduceAdd] at hc
      repeat' (first | (go_big_may; (first
    | ((first
        | (refine loud_ rfl ?_; refine wpList_plain rfl (fun K hK => ?_); (first | (refine op_box _ _ rfl H (fun b w' H1 => hK _ _ ?_)) | (refine op_alloc _ rfl (zero_of _ _ rfl) H (fun b w' H1 => hK _ _ ?_)) | (refine op_store _ _ _ rfl rfl rfl H (by repeat (first | exact Split.here _ _ | apply Split.there)) (by kernel_rfl) (by kernel_rfl) (by kernel_rfl) (fun w' H1 => hK _ _ ?_)) | (refine op_buildSlice_all _ _ _ rfl (by first | exact elem25 | exact elem32 | exact elem35 | exact elem36 | exact elem37 | exact elem38 | exact elem41 | exact elem42 | exact elem45 | exact elem57 | exact elem62 | exact elem74 | exact elem98 | exact elem100 | exact elem137 | exact elem178 | exact elem179) (by kernel_rfl) (by kernel_rfl) (by kernel_rfl) H (fun b w' H1 => hK _ _ ?_))); clear hK K; replace H := H1; clear H1)); (try clear hc); (try simp only [nrm, splice, Value.cells, Nat.reduceAdd, Act.eval, Act.put] at H); have hc := H.cells; simp only [CellsOf, KnCells, knc, Nat.reduceAdd] at hc))) | go_values | go_skip | go_guarded | go_step | go_upon | go_back | dsimp only)
      go_ret
      exact rg_no H.ext
    by_cases e3 : (pn : Int) = rn
    case neg =>
      have hc := H.cells; simp only [CellsOf, KnCells, knc, Nat.reduceAdd] at hc
      repeat' (first | (go_big_may; (first
    | ((first
        | (refine loud_ rfl ?_; refine wpList_plain rfl (fun K hK => ?_); (first | (refine op_box _ _ rfl H (fun b w' H1 => hK _ _ ?_)) | (refine op_alloc _ rfl (zero_of _ _ rfl) H (fun b w' H1 => hK _ _ ?_)) | (refine op_store _ _ _ rfl rfl rfl H (by repeat (first | exact Split.here _ _ | apply Split.there)) (by kernel_rfl) (by kernel_rfl) (by kernel_rfl) (fun w' H1 => hK _ _ ?_)) | (refine op_buildSlice_all _ _ _ rfl (by first | exact elem25 | exact elem32 | exact elem35 | exact elem36 | exact elem37 | exact elem38 | exact elem41 | exact elem42 | exact elem45 | exact elem57 | exact elem62 | exact elem74 | exact elem98 | exact elem100 | exact elem137 | exact elem178 | exact elem179) (by kernel_rfl) (by kernel_rfl) (by kernel_rfl) H (fun b w' H1 => hK _ _ ?_))); clear hK K; replace H := H1; clear H1)); (try clear hc); (try simp only [nrm, splice, Value.cells, Nat.reduceAdd, Act.eval, Act.put] at H); have hc := H.cells; simp only [CellsOf, KnCells, knc, Nat.reduceAdd] at hc))) | go_values | go_skip | go_guarded | go_step | go_upon | go_back | dsimp only)
      go_ret
      exact rg_no H.ext
    obtain rfl : pn = rn := by omega
    replace H := ((H.soft hd.out.1).soft hd.out.2.1).soft hd.out.2.2.1
    simp only at H
    have hc := H.cells; simp only [CellsOf, KnCells, knc, Nat.reduceAdd] at hc
    repeat' (first | (go_big_may; (first
    | ((first
        | (refine loud_ rfl ?_; refine wpList_plain rfl (fun K hK => ?_); (first | (refine op_box _ _ rfl H (fun b w' H1 => hK _ _ ?_)) | (refine op_alloc _ rfl (zero_of _ _ rfl) H (fun b w' H1 => hK _ _ ?_)) | (refine op_store _ _ _ rfl rfl rfl H (by repeat (first | exact Split.here _ _ | apply Split.there)) (by kernel_rfl) (by kernel_rfl) (by kernel_rfl) (fun w' H1 => hK _ _ ?_)) | (refine op_buildSlice_all _ _ _ rfl (by first | exact elem25 | exact elem32 | exact elem35 | exact elem36 | exact elem37 | exact elem38 | exact elem41 | exact elem42 | exact elem45 | exact elem57 | exact elem62 | exact elem74 | exact elem98 | exact elem100 | exact elem137 | exact elem178 | exact elem179) (by kernel_rfl) (by kernel_rfl) (by kernel_rfl) H (fun b w' H1 => hK _ _ ?_))); clear hK K; replace H := H1; clear H1)); (try clear hc); (try simp only [nrm, splice, Value.cells, Nat.reduceAdd, Act.eval, Act.put] at H); have hc := H.cells; simp only [CellsOf, KnCells, knc, Nat.reduceAdd] at hc))) | go_values | go_skip | go_guarded | go_step | go_upon | go_back | dsimp only)
    obtain ⟨rb, rfl⟩ : ∃ q, q = b := ⟨_, rfl⟩
    have H1 := H.ro (k := .is rb _) (by repeat (first | exact Split.here _ _ | apply Split.there))
    (try simp only [List.append, List.cons_append, List.nil_append] at H1)
    have H0 : St [] w w' ((false, soft ha (hsl.flatMap KH.cells)) :: [(false, .is rb (rdO (.slice ha hn9 hcp) ra pn rcp pa pn pcp)), (false, soft ra (rl.map i8)), (false, soft pa (pl.map Row.val)), (false, soft (some ⟨b1, o1, none⟩) (rds.flatMap Rd.cells))]) := H1.sel (by repeat (first | exact Sel.nil _ | (apply Sel.cons; focus (repeat (first | exact Split.here _ _ | apply Split.there)))))
    clear H H1 hc
    go_loopw [43] (AtRh hn9 hsl ha [(false, .is rb (rdO (.slice ha hn9 hcp) ra pn rcp pa pn pcp)), (false, soft ra (rl.map i8)), (false, soft pa (pl.map Row.val)), (false, soft (some ⟨b1, o1, none⟩) (rds.flatMap Rd.cells))] w) (fun i _ => hn9 - (intOf i).toNat)
    case atStart => exact ⟨0, Nat.zero_le _, rfl, Lib.hid ⟨by simp, by simp⟩, H0⟩
    case round =>
      clear H0
      obtain ⟨k, hk, rfl, hto, H⟩ := hrel
      by_cases hlt2 : k < hn9
      · have hk' : k < hsl.length := by rw [hhn2.out]; exact hlt2
        have hcat2 : Hid (hsl.take (k + 1) = hsl.take k ++ [hsl[k]]) := (List.take_append_getElem hk').symm
        obtain ⟨b2, o2, rfl, H1⟩ := H.elemSoft (Split.here _ _) (k * 3) (hsl[k]).cells (by show 0 < 3; omega) (by rw [kh_flat]; show _ + 3 ≤ _; omega) (fun i hi => flat_at KH.cells 3 hsl (fun _ _ => rfl) k i hk' hi)
        clear H
        have H := H1
        clear H1
        generalize hsl[k] = h at *
        obtain ⟨fh, fc, fr⟩ := h
        simp only [KH.cells] at H
        clear hk'
        by_cases e4 : fr < 1
        · have hc := H.cells; simp only [CellsOf, KnCells, knc, Nat.reduceAdd] at hc
          repeat' (first | (go_big_may; (first
    | ((first
        | (refine loud_ rfl ?_; refine wpList_plain rfl (fun K hK => ?_); (first | (refine op_box _ _ rfl H (fun b w' H1 => hK _ _ ?_)) | (refine op_alloc _ rfl (zero_of _ _ rfl) H (fun b w' H1 => hK _ _ ?_)) | (refine op_store _ _ _ rfl rfl rfl H (by repeat (first | exact Split.here _ _ | apply Split.there)) (by kernel_rfl) (by kernel_rfl) (by kernel_rfl) (fun w' H1 => hK _ _ ?_)) | (refine op_buildSlice_all _ _ _ rfl (by first | exact elem25 | exact elem32 | exact elem35 | exact elem36 | exact elem37 | exact elem38 | exact elem41 | exact elem42 | exact elem45 | exact elem57 | exact elem62 | exact elem74 | exact elem98 | exact elem100 | exact elem137 | exact elem178 | exact elem179) (by kernel_rfl) (by kernel_rfl) (by kernel_rfl) H (fun b w' H1 => hK _ _ ?_))); clear hK K; replace H := H1; clear H1)); (try clear hc); (try simp only [nrm, splice, Value.cells, Nat.reduceAdd, Act.eval, Act.put] at H); have hc := H.cells; simp only [CellsOf, KnCells, knc, Nat.reduceAdd] at hc))) | go_values | go_skip | go_guarded | go_step | go_upon | go_back | dsimp only)
          go_ret
          exact rg_no H.ext
        by_cases e5 : fr = 9223372036854775807
        · have hc := H.cells; simp only [CellsOf, KnCells, knc, Nat.reduceAdd] at hc
          repeat' (first | (go_big_may; (first
    | ((first
        | (refine loud_ rfl ?_; refine wpList_plain rfl (fun K hK => ?_); (first | (refine op_box _ _ rfl H (fun b w' H1 => hK _ _ ?_)) | (refine op_alloc _ rfl (zero_of _ _ rfl) H (fun b w' H1 => hK _ _ ?_)) | (refine op_store _ _ _ rfl rfl rfl H (by repeat (first | exact Split.here _ _ | apply Split.there)) (by kernel_rfl) (by kernel_rfl) (by kernel_rfl) (fun w' H1 => hK _ _ ?_)) | (refine op_buildSlice_all _ _ _ rfl (by first | exact elem25 | exact elem32 | exact elem35 | exact elem36 | exact elem37 | exact elem38 | exact elem41 | exact elem42 | exact elem45 | exact elem57 | exact elem62 | exact elem74 | exact elem98 | exact elem100 | exact elem137 | exact elem178 | exact elem179) (by kernel_rfl) (by kernel_rfl) (by kernel_rfl) H (fun b w' H1 => hK _ _ ?_))); clear hK K; replace H := H1; clear H1)); (try clear hc); (try simp only [nrm, splice, Value.cells, Nat.reduceAdd, Act.eval, Act.put] at H); have hc := H.cells; simp only [CellsOf, KnCells, knc, Nat.reduceAdd] at hc))) | go_values | go_skip | go_guarded | go_step | go_upon | go_back | dsimp only)
          go_ret
          exact rg_no H.ext
        have hc := H.cells; simp only [CellsOf, KnCells, knc, Nat.reduceAdd] at hc
        repeat' (first | (go_big_may; (first
    | ((first
        | (refine loud_ rfl ?_; refine wpList_plain rfl (fun K hK => ?_); (first | (refine op_box _ _ rfl H (fun b w' H1 => hK _ _ ?_)) | (refine op_alloc _ rfl (zero_of _ _ rfl) H (fun b w' H1 => hK _ _ ?_)) | (refine op_store _ _ _ rfl rfl rfl H (by repeat (first | exact Split.here _ _ | apply Split.there)) (by kernel_rfl) (by kernel_rfl) (by kernel_rfl) (fun w' H1 => hK _ _ ?_)) | (refine op_buildSlice_all _ _ _ rfl (by first | exact elem25 | exact elem32 | exact elem35 | exact elem36 | exact elem37 | exact elem38 | exact elem41 | exact elem42 | exact elem45 | exact elem57 | exact elem62 | exact elem74 | exact elem98 | exact elem100 | exact elem137 | exact elem178 | exact elem179) (by kernel_rfl) (by kernel_rfl) (by kernel_rfl) H (fun b w' H1 => hK _ _ ?_))); clear hK K; replace H := H1; clear H1)); (try clear hc); (try simp only [nrm, splice, Value.cells, Nat.reduceAdd, Act.eval, Act.put] at H); have hc := H.cells; simp only [CellsOf, KnCells, knc, Nat.reduceAdd] at hc))) | go_values | go_skip | go_guarded | go_step | go_upon | go_back | dsimp only)
        obtain ⟨b9, rfl⟩ : ∃ q, q = b := ⟨_, rfl⟩
        have H1 := H.ro (k := .is b9 _) (by repeat (first | exact Split.here _ _ | apply Split.there))
        (try simp only [List.append, List.cons_append, List.nil_append] at H1)
        have H0 : St [] w w' ((false, soft (some ⟨b2, o2, none⟩) (hsl.flatMap KH.cells)) :: [(false, .is b9 (.cells #[.int .u32 fh, .int .i64 fc, .int .i64 fr] 24 (0, 0))), (false, .is rb (rdO (.slice (some ⟨b2, o2, none⟩) hn9 hcp) ra pn rcp pa pn pcp)), (false, soft ra (rl.map i8)), (false, soft pa (pl.map Row.val)), (false, soft (some ⟨b1, o1, none⟩) (rds.flatMap Rd.cells))]) := H1.sel (by repeat (first | exact Sel.nil _ | (apply Sel.cons; focus (repeat (first | exact Split.here _ _ | apply Split.there)))))
        have hok : Hid (1 ≤ fr ∧ fr ≠ 9223372036854775807) := Lib.hid ⟨by omega, e5⟩
        have h9 : decide (fr < 1) = false := by simp; omega
        have h10 : (fr == 9223372036854775807) = false := by simp; exact e5
        (try simp only [h9, h10])
        clear H H1 hc e4 e5
        go_loopw [61] (AtRi k hsl (some ⟨b2, o2, none⟩) fr [(false, .is b9 (.cells #[.int .u32 fh, .int .i64 fc, .int .i64 fr] 24 (0, 0))), (false, .is rb (rdO (.slice (some ⟨b2, o2, none⟩) hn9 hcp) ra pn rcp pa pn pcp)), (false, soft ra (rl.map i8)), (false, soft pa (pl.map Row.val)), (false, soft (some ⟨b1, o1, none⟩) (rds.flatMap Rd.cells))] w) (fun i _ => k - (intOf i).toNat)
        case atStart => exact ⟨0, Nat.zero_le _, rfl, Lib.hid (by simp), H0⟩
        case round =>
          clear H0
          obtain ⟨m, hm, rfl, hq, H⟩ := hrel
          by_cases hlt3 : m < k
          · have hm' : m < hsl.length := by rw [hhn2.out]; omega
            have hcat3 : Hid (hsl.take (m + 1) = hsl.take m ++ [hsl[m]]) := (List.take_append_getElem hm').symm
            obtain ⟨b3, o3, hs3, H1⟩ := H.elemSoft (Split.here _ _) (m * 3) (hsl[m]).cells (by show 0 < 3; omega) (by rw [kh_flat]; show _ + 3 ≤ _; omega) (fun i hi => flat_at KH.cells 3 hsl (fun _ _ => rfl) m i hm' hi)
            obtain ⟨rfl, rfl⟩ : b2 = b3 ∧ o2 = o3 := by simpa using hs3
            clear H hs3
            have H := H1
            clear H1
            generalize hsl[m] = g at *
            obtain ⟨gh, gc, gr⟩ := g
            simp only [KH.cells] at H
            clear hm'
            by_cases e6 : gr = fr
            · subst e6
              have hc := H.cells; simp only [CellsOf, KnCells, knc, Nat.reduceAdd] at hc
              repeat' (first | (go_big_may; (first
    | ((first
        | (refine loud_ rfl ?_; refine wpList_plain rfl (fun K hK => ?_); (first | (refine op_box _ _ rfl H (fun b w' H1 => hK _ _ ?_)) | (refine op_alloc _ rfl (zero_of _ _ rfl) H (fun b w' H1 => hK _ _ ?_)) | (refine op_store _ _ _ rfl rfl rfl H (by repeat (first | exact Split.here _ _ | apply Split.there)) (by kernel_rfl) (by kernel_rfl) (by kernel_rfl) (fun w' H1 => hK _ _ ?_)) | (refine op_buildSlice_all _ _ _ rfl (by first | exact elem25 | exact elem32 | exact elem35 | exact elem36 | exact elem37 | exact elem38 | exact elem41 | exact elem42 | exact elem45 | exact elem57 | exact elem62 | exact elem74 | exact elem98 | exact elem100 | exact elem137 | exact elem178 | exact elem179) (by kernel_rfl) (by kernel_rfl) (by kernel_rfl) H (fun b w' H1 => hK _ _ ?_))); clear hK K; replace H := H1; clear H1)); (try clear hc); (try simp only [nrm, splice, Value.cells, Nat.reduceAdd, Act.eval, Act.put] at H); have hc := H.cells; simp only [CellsOf, KnCells, knc, Nat.reduceAdd] at hc))) | go_values | go_skip | go_guarded | go_step | go_upon | go_back | dsimp only)
              go_ret
              exact rg_no H.ext
            · have hc := H.cells; simp only [CellsOf, KnCells, knc, Nat.reduceAdd] at hc
              repeat' (first | (go_big_may; (first
    | ((first
        | (refine loud_ rfl ?_; refine wpList_plain rfl (fun K hK => ?_); (first | (refine op_box _ _ rfl H (fun b w' H1 => hK _ _ ?_)) | (refine op_alloc _ rfl (zero_of _ _ rfl) H (fun b w' H1 => hK _ _ ?_)) | (refine op_store _ _ _ rfl rfl rfl H (by repeat (first | exact Split.here _ _ | apply Split.there)) (by kernel_rfl) (by kernel_rfl) (by kernel_rfl) (fun w' H1 => hK _ _ ?_)) | (refine op_buildSlice_all _ _ _ rfl (by first | exact elem25 | exact elem32 | exact elem35 | exact elem36 | exact elem37 | exact elem38 | exact elem41 | exact elem42 | exact elem45 | exact elem57 | exact elem62 | exact elem74 | exact elem98 | exact elem100 | exact elem137 | exact elem178 | exact elem179) (by kernel_rfl) (by kernel_rfl) (by kernel_rfl) H (fun b w' H1 => hK _ _ ?_))); clear hK K; replace H := H1; clear H1)); (try clear hc); (try simp only [nrm, splice, Value.cells, Nat.reduceAdd, Act.eval, Act.put] at H); have hc := H.cells; simp only [CellsOf, KnCells, knc, Nat.reduceAdd] at hc))) | go_values | go_skip | go_guarded | go_step | go_upon | go_back | dsimp only)
              refine ⟨⟨m + 1, by omega, by go_num, ?_, H.sel (by repeat (first | exact Sel.nil _ | (apply Sel.cons; focus (repeat (first | exact Split.here _ _ | apply Split.there)))))⟩, by simp [intOf]; omega⟩
              intro q hq2
              rw [hcat3.out] at hq2
              rcases List.mem_append.1 hq2 with hq2 | hq2
              · exact hq.out q hq2
              · simp only [List.mem_singleton] at hq2
                subst hq2
                exact e6
          · obtain rfl : m = k := by omega
            have hc := H.cells; simp only [CellsOf, KnCells, knc, Nat.reduceAdd] at hc
            repeat' (first | (go_big_may; (first
    | ((first
        | (refine loud_ rfl ?_; refine wpList_plain rfl (fun K hK => ?_); (first | (refine op_box _ _ rfl H (fun b w' H1 => hK _ _ ?_)) | (refine op_alloc _ rfl (zero_of _ _ rfl) H (fun b w' H1 => hK _ _ ?_)) | (refine op_store _ _ _ rfl rfl rfl H (by repeat (first | exact Split.here _ _ | apply Split.there)) (by kernel_rfl) (by kernel_rfl) (by kernel_rfl) (fun w' H1 => hK _ _ ?_)) | (refine op_buildSlice_all _ _ _ rfl (by first | exact elem25 | exact elem32 | exact elem35 | exact elem36 | exact elem37 | exact elem38 | exact elem41 | exact elem42 | exact elem45 | exact elem57 | exact elem62 | exact elem74 | exact elem98 | exact elem100 | exact elem137 | exact elem178 | exact elem179) (by kernel_rfl) (by kernel_rfl) (by kernel_rfl) H (fun b w' H1 => hK _ _ ?_))); clear hK K; replace H := H1; clear H1)); (try clear hc); (try simp only [nrm, splice, Value.cells, Nat.reduceAdd, Act.eval, Act.put] at H); have hc := H.cells; simp only [CellsOf, KnCells, knc, Nat.reduceAdd] at hc))) | go_values | go_skip | go_guarded | go_step | go_upon | go_back | dsimp only)
            refine ⟨⟨m + 1, by omega, by go_num, ?_, H.sel (by repeat (first | exact Sel.nil _ | (apply Sel.cons; focus (repeat (first | exact Split.here _ _ | apply Split.there)))))⟩, by simp [intOf]; omega⟩
            show HsTo _ _
            unfold HsTo
            rw [hcat2.out]
            refine ⟨?_, ?_⟩
            · intro p hp
              rcases List.mem_append.1 hp with hp | hp
              · exact hto.out.1 p hp
              · simp only [List.mem_singleton] at hp
                subst hp
                exact hok.out
            · rw [List.map_append, List.nodup_append]
              refine ⟨hto.out.2, by simp, ?_⟩
              intro a ha1 b hb e
              simp only [List.map_cons, List.map_nil, List.mem_singleton] at hb
              obtain ⟨q, hq3, rfl⟩ := List.mem_map.1 ha1
              exact hq.out q hq3 (e.trans hb)
      · obtain rfl : k = hn9 := by omega
        have hto2 := hto.out
        unfold HsTo at hto2
        rw [List.take_of_length_le (by rw [hhn2.out]; exact Nat.le_refl _)] at hto2
        replace hto2 := Lib.hid hto2
        clear hto
        have hc := H.cells; simp only [CellsOf, KnCells, knc, Nat.reduceAdd] at hc
        repeat' (first | (go_big_may; (first
    | ((first
        | (refine loud_ rfl ?_; refine wpList_plain rfl (fun K hK => ?_); (first | (refine op_box _ _ rfl H (fun b w' H1 => hK _ _ ?_)) | (refine op_alloc _ rfl (zero_of _ _ rfl) H (fun b w' H1 => hK _ _ ?_)) | (refine op_store _ _ _ rfl rfl rfl H (by repeat (first | exact Split.here _ _ | apply Split.there)) (by kernel_rfl) (by kernel_rfl) (by kernel_rfl) (fun w' H1 => hK _ _ ?_)) | (refine op_buildSlice_all _ _ _ rfl (by first | exact elem25 | exact elem32 | exact elem35 | exact elem36 | exact elem37 | exact elem38 | exact elem41 | exact elem42 | exact elem45 | exact elem57 | exact elem62 | exact elem74 | exact elem98 | exact elem100 | exact elem137 | exact elem178 | exact elem179) (by kernel_rfl) (by kernel_rfl) (by kernel_rfl) H (fun b w' H1 => hK _ _ ?_))); clear hK K; replace H := H1; clear H1)); (try clear hc); (try simp only [nrm, splice, Value.cells, Nat.reduceAdd, Act.eval, Act.put] at H); have hc := H.cells; simp only [CellsOf, KnCells, knc, Nat.reduceAdd] at hc))) | go_values | go_skip | go_guarded | go_step | go_upon | go_back | dsimp only)
        have H0 : St [] w wr ((false, soft pa (pl.map Row.val)) :: [(false, .is rb (rdO (.slice ha k hcp) ra pn rcp pa pn pcp)), (false, soft ra (rl.map i8)), (false, soft (some ⟨b1, o1, none⟩) (rds.flatMap Rd.cells))]) := H.sel (by repeat (first | exact Sel.nil _ | (apply Sel.cons; focus (repeat (first | exact Split.here _ _ | apply Split.there)))))
        clear H hc
        go_loopw [75] (AtRp pn own pl pa [(false, .is rb (rdO (.slice ha k hcp) ra pn rcp pa pn pcp)), (false, soft ra (rl.map i8)), (false, soft (some ⟨b1, o1, none⟩) (rds.flatMap Rd.cells))] w) (fun i _ => pn - (intOf i).toNat)
        case atStart => exact ⟨0, Nat.zero_le _, rfl, Lib.hid (by simp), H0⟩
        case round =>
          clear H0
          obtain ⟨i, hi, rfl, hpg, H⟩ := hrel
          by_cases hlt4 : i < pn
          · have hi' : i < pl.length := by rw [hpn2.out]; exact hlt4
            have hcat4 : Hid (pl.take (i + 1) = pl.take i ++ [pl[i]]) := (List.take_append_getElem hi').symm
            have hrl := Lib.hid (hd.out.2.2.2 _ (List.getElem_mem hi'))
            have hrf := Lib.hid (hfd.out _ (List.getElem_mem hi'))
            have hrc := Lib.hid (hcd.out.prs _ (List.getElem_mem hi'))
            obtain ⟨b2, o2, rfl, H1⟩ := H.elemSoft (Split.here _ _) i [Row.val pl[i]] (by show 0 < 1; omega) (by rw [List.length_map, hpn2.out]; show i + 1 ≤ pn; omega) (by
              intro a ha1
              have : a = 0 := by simp at ha1; omega
              subst this
              simp [hi'])
            clear H
            have H := H1
            clear H1
            generalize pl[i] = r at *
            clear hi'
            obtain ⟨ya, yc, yl⟩ := r
            simp only [Row.val] at H
            replace H := H.soft hrl.out
            simp only at H
            generalize hyn : yl.length = yn at *
            have hyn2 := Lib.hid hyn
            clear hyn
            have hyc : yn ≤ yc := hrc.out
            have hyb : yn ≤ 2147483647 := hrf.out
            have hc := H.cells; simp only [CellsOf, KnCells, knc, Nat.reduceAdd] at hc
            repeat' (first | (go_big_may; (first
    | ((first
        | (refine loud_ rfl ?_; refine wpList_plain rfl (fun K hK => ?_); (first | (refine op_box _ _ rfl H (fun b w' H1 => hK _ _ ?_)) | (refine op_alloc _ rfl (zero_of _ _ rfl) H (fun b w' H1 => hK _ _ ?_)) | (refine op_store _ _ _ rfl rfl rfl H (by repeat (first | exact Split.here _ _ | apply Split.there)) (by kernel_rfl) (by kernel_rfl) (by kernel_rfl) (fun w' H1 => hK _ _ ?_)) | (refine op_buildSlice_all _ _ _ rfl (by first | exact elem25 | exact elem32 | exact elem35 | exact elem36 | exact elem37 | exact elem38 | exact elem41 | exact elem42 | exact elem45 | exact elem57 | exact elem62 | exact elem74 | exact elem98 | exact elem100 | exact elem137 | exact elem178 | exact elem179) (by kernel_rfl) (by kernel_rfl) (by kernel_rfl) H (fun b w' H1 => hK _ _ ?_))); clear hK K; replace H := H1; clear H1)); (try clear hc); (try simp only [nrm, splice, Value.cells, Nat.reduceAdd, Act.eval, Act.put] at H); have hc := H.cells; simp only [CellsOf, KnCells, knc, Nat.reduceAdd] at hc))) | go_values | go_skip | go_guarded | go_step | go_upon | go_back | dsimp only)
            go_at_call 7
            refine Calls.mono (pgood_calls own ya yc yl yn hyn2 hyb hyc _ (H.pick (by repeat (first | exact Picks.nil _ | (apply Picks.wr; focus (repeat (first | exact Split.here _ _ | apply Split.there))) | (apply Picks.rd; focus (repeat (first | exact Split.here _ _ | apply Split.there))))))) ?_
            rintro e9 w' ⟨t, rfl, H', ht⟩
            replace H := H.of_ext H'
            clear H'
            (try clear hc)
            (try simp only [nrm, splice, Value.cells, Nat.reduceAdd, Act.eval, Act.put] at H); have hc := H.cells; simp only [CellsOf, KnCells, knc, Nat.reduceAdd] at hc
            cases t with
            | false =>
              repeat' (first | (go_big_may; (first
    | ((first
        | (refine loud_ rfl ?_; refine wpList_plain rfl (fun K hK => ?_); (first | (refine op_box _ _ rfl H (fun b w' H1 => hK _ _ ?_)) | (refine op_alloc _ rfl (zero_of _ _ rfl) H (fun b w' H1 => hK _ _ ?_)) | (refine op_store _ _ _ rfl rfl rfl H (by repeat (first | exact Split.here _ _ | apply Split.there)) (by kernel_rfl) (by kernel_rfl) (by kernel_rfl) (fun w' H1 => hK _ _ ?_)) | (refine op_buildSlice_all _ _ _ rfl (by first | exact elem25 | exact elem32 | exact elem35 | exact elem36 | exact elem37 | exact elem38 | exact elem41 | exact elem42 | exact elem45 | exact elem57 | exact elem62 | exact elem74 | exact elem98 | exact elem100 | exact elem137 | exact elem178 | exact elem179) (by kernel_rfl) (by kernel_rfl) (by kernel_rfl) H (fun b w' H1 => hK _ _ ?_))); clear hK K; replace H := H1; clear H1)); (try clear hc); (try simp only [nrm, splice, Value.cells, Nat.reduceAdd, Act.eval, Act.put] at H); have hc := H.cells; simp only [CellsOf, KnCells, knc, Nat.reduceAdd] at hc))) | go_values | go_skip | go_guarded | go_step | go_upon | go_back | dsimp only)
              go_ret
              exact rg_no H.ext
            | true =>
              replace ht := Lib.hid (ht rfl)
              repeat' (first | (go_big_may; (first
    | ((first
        | (refine loud_ rfl ?_; refine wpList_plain rfl (fun K hK => ?_); (first | (refine op_box _ _ rfl H (fun b w' H1 => hK _ _ ?_)) | (refine op_alloc _ rfl (zero_of _ _ rfl) H (fun b w' H1 => hK _ _ ?_)) | (refine op_store _ _ _ rfl rfl rfl H (by repeat (first | exact Split.here _ _ | apply Split.there)) (by kernel_rfl) (by kernel_rfl) (by kernel_rfl) (fun w' H1 => hK _ _ ?_)) | (refine op_buildSlice_all _ _ _ rfl (by first | exact elem25 | exact elem32 | exact elem35 | exact elem36 | exact elem37 | exact elem38 | exact elem41 | exact elem42 | exact elem45 | exact elem57 | exact elem62 | exact elem74 | exact elem98 | exact elem100 | exact elem137 | exact elem178 | exact elem179) (by kernel_rfl) (by kernel_rfl) (by kernel_rfl) H (fun b w' H1 => hK _ _ ?_))); clear hK K; replace H := H1; clear H1)); (try clear hc); (try simp only [nrm, splice, Value.cells, Nat.reduceAdd, Act.eval, Act.put] at H); have hc := H.cells; simp only [CellsOf, KnCells, knc, Nat.reduceAdd] at hc))) | go_values | go_skip | go_guarded | go_step | go_upon | go_back | dsimp only)
              have H0 : St [] w w' ((false, soft ra (rl.map i8)) :: [(false, .is rb (rdO (.slice ha k hcp) ra pn rcp (some ⟨b2, o2, none⟩) pn pcp)), (false, soft (some ⟨b2, o2, none⟩) (pl.map Row.val)), (false, soft (some ⟨b1, o1, none⟩) (rds.flatMap Rd.cells))]) := H.sel (by repeat (first | exact Sel.nil _ | (apply Sel.cons; focus (repeat (first | exact Split.here _ _ | apply Split.there)))))
              clear H
              (try clear hc)
              go_loopw [89] (AtRr i rl ra [(false, .is rb (rdO (.slice ha k hcp) ra pn rcp (some ⟨b2, o2, none⟩) pn pcp)), (false, soft (some ⟨b2, o2, none⟩) (pl.map Row.val)), (false, soft (some ⟨b1, o1, none⟩) (rds.flatMap Rd.cells))] w) (fun i9 _ => i - (intOf i9).toNat)
              case atStart => exact ⟨0, Nat.zero_le _, rfl, H0⟩
              case round =>
                clear H0
                obtain ⟨m, hm, rfl, H⟩ := hrel
                have hi2 : i < rl.length := by rw [hrn2.out]; exact hlt4
                by_cases hlt3 : m < i
                · have hm' : m < rl.length := by omega
                  obtain ⟨b3, o3, rfl, H1⟩ := H.elemSoft (Split.here _ _) m [i8 rl[m]] (by show 0 < 1; omega) (by rw [List.length_map]; show m + 1 ≤ _; omega) (by
                    intro a ha1
                    have : a = 0 := by simp at ha1; omega
                    subst this
                    simp [hm'])
                  obtain ⟨b4, o4, hs3, H2⟩ := H1.elemSoft (Split.there _ (Split.here _ _)) i [i8 rl[i]] (by show 0 < 1; omega) (by rw [List.length_map]; show i + 1 ≤ _; omega) (by
                    intro a ha1
                    have : a = 0 := by simp at ha1; omega
                    subst this
                    simp [hi2])
                  obtain ⟨rfl, rfl⟩ : b3 = b4 ∧ o3 = o4 := by simpa using hs3
                  clear H H1 hs3
                  have H := H2
                  clear H2
                  generalize rl[m] = x at *
                  generalize rl[i] = y at *
                  clear hm' hi2
                  by_cases e6 : x = y
                  · subst e6
                    have hc := H.cells; simp only [CellsOf, KnCells, knc, Nat.reduceAdd] at hc
                    repeat' (first | (go_big_may; (first
    | ((first
        | (refine loud_ rfl ?_; refine wpList_plain rfl (fun K hK => ?_); (first | (refine op_box _ _ rfl H (fun b w' H1 => hK _ _ ?_)) | (refine op_alloc _ rfl (zero_of _ _ rfl) H (fun b w' H1 => hK _ _ ?_)) | (refine op_store _ _ _ rfl rfl rfl H (by repeat (first | exact Split.here _ _ | apply Split.there)) (by kernel_rfl) (by kernel_rfl) (by kernel_rfl) (fun w' H1 => hK _ _ ?_)) | (refine op_buildSlice_all _ _ _ rfl (by first | exact elem25 | exact elem32 | exact elem35 | exact elem36 | exact elem37 | exact elem38 | exact elem41 | exact elem42 | exact elem45 | exact elem57 | exact elem62 | exact elem74 | exact elem98 | exact elem100 | exact elem137 | exact elem178 | exact elem179) (by kernel_rfl) (by kernel_rfl) (by kernel_rfl) H (fun b w' H1 => hK _ _ ?_))); clear hK K; replace H := H1; clear H1)); (try clear hc); (try simp only [nrm, splice, Value.cells, Nat.reduceAdd, Act.eval, Act.put] at H); have hc := H.cells; simp only [CellsOf, KnCells, knc, Nat.reduceAdd] at hc))) | go_values | go_skip | go_guarded | go_step | go_upon | go_back | dsimp only)
                    go_ret
                    exact rg_no H.ext
                  · have hc := H.cells; simp only [CellsOf, KnCells, knc, Nat.reduceAdd] at hc
                    repeat' (first | (go_big_may; (first
    | ((first
        | (refine loud_ rfl ?_; refine wpList_plain rfl (fun K hK => ?_); (first | (refine op_box _ _ rfl H (fun b w' H1 => hK _ _ ?_)) | (refine op_alloc _ rfl (zero_of _ _ rfl) H (fun b w' H1 => hK _ _ ?_)) | (refine op_store _ _ _ rfl rfl rfl H (by repeat (first | exact Split.here _ _ | apply Split.there)) (by kernel_rfl) (by kernel_rfl) (by kernel_rfl) (fun w' H1 => hK _ _ ?_)) | (refine op_buildSlice_all _ _ _ rfl (by first | exact elem25 | exact elem32 | exact elem35 | exact elem36 | exact elem37 | exact elem38 | exact elem41 | exact elem42 | exact elem45 | exact elem57 | exact elem62 | exact elem74 | exact elem98 | exact elem100 | exact elem137 | exact elem178 | exact elem179) (by kernel_rfl) (by kernel_rfl) (by kernel_rfl) H (fun b w' H1 => hK _ _ ?_))); clear hK K; replace H := H1; clear H1)); (try clear hc); (try simp only [nrm, splice, Value.cells, Nat.reduceAdd, Act.eval, Act.put] at H); have hc := H.cells; simp only [CellsOf, KnCells, knc, Nat.reduceAdd] at hc))) | go_values | go_skip | go_guarded | go_step | go_upon | go_back | dsimp only)
                    exact ⟨⟨m + 1, by omega, by go_num, H.sel (by repeat (first | exact Sel.nil _ | (apply Sel.cons; focus (repeat (first | exact Split.here _ _ | apply Split.there)))))⟩, by simp [intOf]; omega⟩
                · obtain rfl : m = i := by omega
                  clear hi2
                  have hc := H.cells; simp only [CellsOf, KnCells, knc, Nat.reduceAdd] at hc
                  repeat' (first | (go_big_may; (first
    | ((first
        | (refine loud_ rfl ?_; refine wpList_plain rfl (fun K hK => ?_); (first | (refine op_box _ _ rfl H (fun b w' H1 => hK _ _ ?_)) | (refine op_alloc _ rfl (zero_of _ _ rfl) H (fun b w' H1 => hK _ _ ?_)) | (refine op_store _ _ _ rfl rfl rfl H (by repeat (first | exact Split.here _ _ | apply Split.there)) (by kernel_rfl) (by kernel_rfl) (by kernel_rfl) (fun w' H1 => hK _ _ ?_)) | (refine op_buildSlice_all _ _ _ rfl (by first | exact elem25 | exact elem32 | exact elem35 | exact elem36 | exact elem37 | exact elem38 | exact elem41 | exact elem42 | exact elem45 | exact elem57 | exact elem62 | exact elem74 | exact elem98 | exact elem100 | exact elem137 | exact elem178 | exact elem179) (by kernel_rfl) (by kernel_rfl) (by kernel_rfl) H (fun b w' H1 => hK _ _ ?_))); clear hK K; replace H := H1; clear H1)); (try clear hc); (try simp only [nrm, splice, Value.cells, Nat.reduceAdd, Act.eval, Act.put] at H); have hc := H.cells; simp only [CellsOf, KnCells, knc, Nat.reduceAdd] at hc))) | go_values | go_skip | go_guarded | go_step | go_upon | go_back | dsimp only)
                  refine ⟨⟨m + 1, by omega, by go_num, ?_, H.sel (by repeat (first | exact Sel.nil _ | (apply Sel.cons; focus (repeat (first | exact Split.here _ _ | apply Split.there)))))⟩, by simp [intOf]; omega⟩
                  intro p hp
                  rw [hcat4.out] at hp
                  rcases List.mem_append.1 hp with hp | hp
                  · exact hpg.out p hp
                  · simp only [List.mem_singleton] at hp
                    subst hp
                    exact ht.out
          · obtain rfl : i = pn := by omega
            rw [List.take_of_length_le (by rw [hpn2.out]; exact Nat.le_refl _)] at hpg
            have hc := H.cells; simp only [CellsOf, KnCells, knc, Nat.reduceAdd] at hc
            repeat' (first | (go_big_may; (first
    | ((first
        | (refine loud_ rfl ?_; refine wpList_plain rfl (fun K hK => ?_); (first | (refine op_box _ _ rfl H (fun b w' H1 => hK _ _ ?_)) | (refine op_alloc _ rfl (zero_of _ _ rfl) H (fun b w' H1 => hK _ _ ?_)) | (refine op_store _ _ _ rfl rfl rfl H (by repeat (first | exact Split.here _ _ | apply Split.there)) (by kernel_rfl) (by kernel_rfl) (by kernel_rfl) (fun w' H1 => hK _ _ ?_)) | (refine op_buildSlice_all _ _ _ rfl (by first | exact elem25 | exact elem32 | exact elem35 | exact elem36 | exact elem37 | exact elem38 | exact elem41 | exact elem42 | exact elem45 | exact elem57 | exact elem62 | exact elem74 | exact elem98 | exact elem100 | exact elem137 | exact elem178 | exact elem179) (by kernel_rfl) (by kernel_rfl) (by kernel_rfl) H (fun b w' H1 => hK _ _ ?_))); clear hK K; replace H := H1; clear H1)); (try clear hc); (try simp only [nrm, splice, Value.cells, Nat.reduceAdd, Act.eval, Act.put] at H); have hc := H.cells; simp only [CellsOf, KnCells, knc, Nat.reduceAdd] at hc))) | go_values | go_skip | go_guarded | go_step | go_upon | go_back | dsimp only)
            refine ⟨⟨j + 1, by omega, by go_num, ?_, H.sel (by repeat (first | exact Sel.nil _ | (apply Sel.cons; focus (repeat (first | exact Split.here _ _ | apply Split.there)))))⟩, by simp [intOf]; omega⟩
            intro p hp
            rw [hcat.out] at hp
            rcases List.mem_append.1 hp with hp | hp
            · exact hgd.out p hp
            · simp only [List.mem_singleton] at hp
              subst hp
              exact ⟨by show hsl.length ≤ 12; rw [hhn2.out]; omega, by show rl.length ≤ 12; rw [hrn2.out]; omega, by show rl.length = pl.length; rw [hrn2.out, hpn2.out], hto2.out.1, hto2.out.2, hpg.out⟩
end Go.Proofs.Ytelddhcggmfloaa
