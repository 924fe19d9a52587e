import Derived.Test.YtelddhcggmfloaaCkCi
import Derived.Test.YtelddhcggmfloaaCkU
import Derived.Deep.DeepCutAuto
-- MORE
-- SUB2
namespace Go.Proofs.Ytelddhcggmfloaa
set_option linter.unusedVariables false
set_option linter.unusedSimpArgs false
set_option linter.unnecessarySimpa false
open Go Go.RowKit Go.V

theorem RdAt.ext {w w' : World} {d : Rd} (h : RdAt w d) (e : Ext [] w w') : RdAt w' d := ⟨h.1.ext e, h.2.1.ext e, h.2.2.1.ext e, fun r hr => (h.2.2.2 r hr).ext e⟩
theorem run_few {own : Int} {rds : List Rd} {aa qs : List (List Int)} {last : Int} (h : RunT own rds aa qs last) : (∀ d ∈ rds, RdOk d) → (∀ a ∈ aa, a.length ≤ 12) ∧ ∀ q ∈ qs, q.length ≤ 12 := by
  induction h with
  | nil => exact fun _ => ⟨by simp, by simp⟩
  | @snoc rds aa qs last l1 d a q h h1 ih =>
    intro hd
    obtain ⟨i1, i2⟩ := ih (fun x hx => hd x (List.mem_append_left _ hx))
    have hd1 := hd d (by simp)
    obtain ⟨zs, h2, h3, _⟩ := h1
    have hz := rd_len h2 hd1.2.2.2
    have hq : q.length ≤ 12 := by
      obtain ⟨l, m, hu, hc⟩ := h2
      have hll := hu.1.length_eq
      have hhs := hd1.1
      rcases hc with ⟨_, _, h5, _⟩ | ⟨j, hj, _, _, _, h5⟩
      · rw [h5, List.length_map, List.length_take]; omega
      · rw [h5, List.length_map, List.length_take, List.length_take]; omega
    refine ⟨fun x hx => ?_, fun x hx => ?_⟩
    · rcases List.mem_append.1 hx with hx | hx
      · exact i1 x hx
      · simp only [List.mem_singleton] at hx
        subst hx
        rw [h3.length_eq]
        exact hz
    · rcases List.mem_append.1 hx with hx | hx
      · exact i2 x hx
      · simp only [List.mem_singleton] at hx
        subst hx
        exact hq
theorem bag_liesA {w : World} {aa : List SlI} (h : holds w (bag (aa.map SlI.entA))) {x : SlI} (hx : x ∈ aa) : Lies w (x.key.map fun b => ⟨b, 0, none⟩) (x.list.map uv) :=
  lies_of_row1 (h.2.2 _ (List.mem_map_of_mem hx))
theorem bag_liesQ {w : World} {aa : List SlI} (h : holds w (bag (aa.map SlI.entQ))) {x : SlI} (hx : x ∈ aa) : Lies w (x.key.map fun b => ⟨b, 0, none⟩) (x.list.map i8) :=
  lies_of_row1 (h.2.2 _ (List.mem_map_of_mem hx))
def IdsSame (aa bb : List SlI) (x y : SlI) : Prop := ∀ w, holds w (bag (aa.map SlI.entA)) → holds w (bag (bb.map SlI.entA)) → Calls Try.prog 16 #[x.val, y.val] w fun e w' => e = .returned (.bool true) ∧ Ext [] w w'
def RevsSame (aa bb : List SlI) (x y : SlI) : Prop := ∀ w, holds w (bag (aa.map SlI.entQ)) → holds w (bag (bb.map SlI.entQ)) → Calls Try.prog 12 #[x.val, y.val] w fun e w' => e = .returned (.bool true) ∧ Ext [] w w'
theorem ids_same {aa bb : List SlI} {x y : SlI} (hx : x ∈ aa) (hy : y ∈ bb) (he : x.list = y.list) (hl : x.list.length ≤ 12) : IdsSame aa bb x y := by
  intro w ha hb
  refine (ids_calls x.list y.list _ _ _ _ x.cap y.cap rfl rfl (by omega) w (bag_liesA ha hx) (bag_liesA hb hy)).mono (fun e w' h => ⟨?_, h.2⟩)
  rw [h.1, decide_eq_true he]
theorem revs_same {aa bb : List SlI} {x y : SlI} (hx : x ∈ aa) (hy : y ∈ bb) (he : x.list = y.list) (hl : x.list.length ≤ 12) : RevsSame aa bb x y := by
  intro w ha hb
  refine (revs_calls x.list y.list _ _ _ _ x.cap y.cap rfl rfl (by omega) w (bag_liesQ ha hx) (bag_liesQ hb hy)).mono (fun e w' h => ⟨?_, h.2⟩)
  rw [h.1, decide_eq_true he]
def AtCq (n : Nat) (aa bb qs rs : List SlI) (s1 s2 s3 s4 : Option Addr) (w : World) (i : Value) (wr : World) : Prop := ∃ j : Nat, j ≤ n ∧ i = .int .i64 j ∧
  St [] w wr [(false, soft s1 (aa.map SlI.val)), (false, soft s2 (bb.map SlI.val)), (false, soft s3 (qs.map SlI.val)), (false, soft s4 (rs.map SlI.val)), (false, bag (aa.map SlI.entA)), (false, bag (bb.map SlI.entA)), (false, bag (qs.map SlI.entQ)), (false, bag (rs.map SlI.entQ))]
theorem elem1 {aa : List SlI} {j : Nat} (hj : j < aa.length) : ∀ i, i < [SlI.val aa[j]].length → (aa.map SlI.val)[j + i]? = [SlI.val aa[j]][i]? := by
  intro i hi
  have : i = 0 := by simp at hi; omega
  subst this
  simp [hj]
theorem map_at {aa bb : List SlI} (h : aa.map SlI.list = bb.map SlI.list) (j : Nat) (ha : j < aa.length) (hb : j < bb.length) : aa[j].list = bb[j].list := by
  have := congrArg (fun l => l[j]?) h
  simpa [ha, hb] using this
set_option maxRecDepth 10000 in
set_option maxHeartbeats 8000000 in
theorem ccheck_calls (own : Int) (rds : List Rd) (src : Option Addr) (n c : Nat) (hn : Hid (rds.length = n)) (w : World) (hR : Hid (∀ d ∈ rds, RdAt w d)) (hC : Hid (∀ d ∈ rds, RdCap d)) (hV : Hid (∀ d ∈ rds, ∀ h ∈ d.hs.list, h.rev ≤ 9223372036854775807)) (H : St [] w w [(false, soft src (rds.flatMap Rd.cells))]) :
    Calls Try.prog 6 #[.int .u64 own, .slice src n c] w fun e w' => e = .returned (.bool true) ∧ Ext [] w w' := by
  go_enter Try.func6, Try.ntmps6
  repeat' (first | (go_big_may; (first
    | ((first
        | (refine loud_ rfl ?_; refine wpList_plain rfl (fun K hK => ?_); (first | (refine op_box _ _ rfl H (fun b w' H1 => hK _ _ ?_)) | (refine op_alloc _ rfl (zero_of _ _ rfl) H (fun b w' H1 => hK _ _ ?_)) | (refine op_store _ _ _ rfl rfl rfl H (by repeat (first | exact Split.here _ _ | apply Split.there)) (by kernel_rfl) (by kernel_rfl) (by kernel_rfl) (fun w' H1 => hK _ _ ?_)) | (refine op_buildSlice_all _ _ _ rfl (by first | exact elem25 | exact elem32 | exact elem35 | exact elem36 | exact elem37 | exact elem38 | exact elem41 | exact elem42 | exact elem45 | exact elem57 | exact elem62 | exact elem74 | exact elem98 | exact elem100 | exact elem137 | exact elem178 | exact elem179) (by kernel_rfl) (by kernel_rfl) (by kernel_rfl) H (fun b w' H1 => hK _ _ ?_))); clear hK K; replace H := H1; clear H1)); (try clear hc); (try simp only [nrm, splice, Value.cells, Nat.reduceAdd, Act.eval, Act.put] at H); have hc := H.cells; simp only [CellsOf, KnCells, knc, Nat.reduceAdd] at hc))) | go_values | go_skip | go_guarded | go_step | go_upon | go_back | dsimp only)
  go_at_call 13
  refine Calls.mono (fits4_calls rds src n c hn _ hR (H.pick (by repeat (first | exact Picks.nil _ | (apply Picks.wr; focus (repeat (first | exact Split.here _ _ | apply Split.there))) | (apply Picks.rd; focus (repeat (first | exact Split.here _ _ | apply Split.there))))))) ?_
  rintro e9 w' ⟨t, rfl, H', ht⟩
  replace H := H.of_ext H'
  clear H'
  (try clear hc)
  (try simp only [nrm, splice, Value.cells, Nat.reduceAdd, Act.eval, Act.put] at H); have hc := H.cells; simp only [CellsOf, KnCells, knc, Nat.reduceAdd] at hc
  cases t with
  | false =>
    repeat' (first | (go_big_may; (first
    | ((first
        | (refine loud_ rfl ?_; refine wpList_plain rfl (fun K hK => ?_); (first | (refine op_box _ _ rfl H (fun b w' H1 => hK _ _ ?_)) | (refine op_alloc _ rfl (zero_of _ _ rfl) H (fun b w' H1 => hK _ _ ?_)) | (refine op_store _ _ _ rfl rfl rfl H (by repeat (first | exact Split.here _ _ | apply Split.there)) (by kernel_rfl) (by kernel_rfl) (by kernel_rfl) (fun w' H1 => hK _ _ ?_)) | (refine op_buildSlice_all _ _ _ rfl (by first | exact elem25 | exact elem32 | exact elem35 | exact elem36 | exact elem37 | exact elem38 | exact elem41 | exact elem42 | exact elem45 | exact elem57 | exact elem62 | exact elem74 | exact elem98 | exact elem100 | exact elem137 | exact elem178 | exact elem179) (by kernel_rfl) (by kernel_rfl) (by kernel_rfl) H (fun b w' H1 => hK _ _ ?_))); clear hK K; replace H := H1; clear H1)); (try clear hc); (try simp only [nrm, splice, Value.cells, Nat.reduceAdd, Act.eval, Act.put] at H); have hc := H.cells; simp only [CellsOf, KnCells, knc, Nat.reduceAdd] at hc))) | go_values | go_skip | go_guarded | go_step | go_upon | go_back | dsimp only)
    go_ret
    exact ⟨rfl, H.ext⟩
  | true =>
    obtain ⟨hl, hF⟩ := ht rfl
    replace hF := Lib.hid hF
    clear ht
    repeat' (first | (go_big_may; (first
    | ((first
        | (refine loud_ rfl ?_; refine wpList_plain rfl (fun K hK => ?_); (first | (refine op_box _ _ rfl H (fun b w' H1 => hK _ _ ?_)) | (refine op_alloc _ rfl (zero_of _ _ rfl) H (fun b w' H1 => hK _ _ ?_)) | (refine op_store _ _ _ rfl rfl rfl H (by repeat (first | exact Split.here _ _ | apply Split.there)) (by kernel_rfl) (by kernel_rfl) (by kernel_rfl) (fun w' H1 => hK _ _ ?_)) | (refine op_buildSlice_all _ _ _ rfl (by first | exact elem25 | exact elem32 | exact elem35 | exact elem36 | exact elem37 | exact elem38 | exact elem41 | exact elem42 | exact elem45 | exact elem57 | exact elem62 | exact elem74 | exact elem98 | exact elem100 | exact elem137 | exact elem178 | exact elem179) (by kernel_rfl) (by kernel_rfl) (by kernel_rfl) H (fun b w' H1 => hK _ _ ?_))); clear hK K; replace H := H1; clear H1)); (try clear hc); (try simp only [nrm, splice, Value.cells, Nat.reduceAdd, Act.eval, Act.put] at H); have hc := H.cells; simp only [CellsOf, KnCells, knc, Nat.reduceAdd] at hc))) | go_values | go_skip | go_guarded | go_step | go_upon | go_back | dsimp only)
    go_at_call 14
    have hR2 : Hid (∀ d ∈ rds, RdAt w' d) := Lib.hid (fun d hd => (hR.out d hd).ext H.ext)
    refine Calls.mono (rgood_calls own rds src n c hn hl _ hR2 hC hF (H.pick (by repeat (first | exact Picks.nil _ | (apply Picks.wr; focus (repeat (first | exact Split.here _ _ | apply Split.there))) | (apply Picks.rd; focus (repeat (first | exact Split.here _ _ | apply Split.there))))))) ?_
    rintro e9 w2 ⟨t, rfl, H', ht⟩
    replace H := H.of_ext H'
    clear H' hR2
    (try clear hc)
    (try simp only [nrm, splice, Value.cells, Nat.reduceAdd, Act.eval, Act.put] at H); have hc := H.cells; simp only [CellsOf, KnCells, knc, Nat.reduceAdd] at hc
    cases t with
    | false =>
      repeat' (first | (go_big_may; (first
    | ((first
        | (refine loud_ rfl ?_; refine wpList_plain rfl (fun K hK => ?_); (first | (refine op_box _ _ rfl H (fun b w' H1 => hK _ _ ?_)) | (refine op_alloc _ rfl (zero_of _ _ rfl) H (fun b w' H1 => hK _ _ ?_)) | (refine op_store _ _ _ rfl rfl rfl H (by repeat (first | exact Split.here _ _ | apply Split.there)) (by kernel_rfl) (by kernel_rfl) (by kernel_rfl) (fun w' H1 => hK _ _ ?_)) | (refine op_buildSlice_all _ _ _ rfl (by first | exact elem25 | exact elem32 | exact elem35 | exact elem36 | exact elem37 | exact elem38 | exact elem41 | exact elem42 | exact elem45 | exact elem57 | exact elem62 | exact elem74 | exact elem98 | exact elem100 | exact elem137 | exact elem178 | exact elem179) (by kernel_rfl) (by kernel_rfl) (by kernel_rfl) H (fun b w' H1 => hK _ _ ?_))); clear hK K; replace H := H1; clear H1)); (try clear hc); (try simp only [nrm, splice, Value.cells, Nat.reduceAdd, Act.eval, Act.put] at H); have hc := H.cells; simp only [CellsOf, KnCells, knc, Nat.reduceAdd] at hc))) | go_values | go_skip | go_guarded | go_step | go_upon | go_back | dsimp only)
      go_ret
      exact ⟨rfl, H.ext⟩
    | true =>
      obtain ⟨hl8, hg⟩ := ht rfl
      have hn8 : n ≤ 8 := by rw [← hn.out]; exact hl8
      replace hg := Lib.hid hg
      clear ht hl8
      have hok : Hid (∀ d ∈ rds, RdOk d) := fun d hd => ⟨(hg.out d hd).hs12, (hg.out d hd).same, (hg.out d hd).rv12, fun r hr => ((hg.out d hd).peers r hr).few⟩
      have hrev : Hid (∀ d ∈ rds, RevOk d) := fun d hd => ⟨(hg.out d hd).nod, fun h hh => by have := (hg.out d hd).revs h hh; have := hV.out d hd h hh; omega⟩
      have hcon : Hid (∀ w1, Ext [] w w1 → ∀ d ∈ rds, RdAt w1 d ∧ RdOk d) := fun w1 e d hd => ⟨(hR.out d hd).ext e, hok.out d hd⟩
      go_upto_region 7 with (first
    | go_skip
    | ((first
        | (go_at_call 11; refine Calls.mono (compact_calls own rds src n c hn (by omega) _ (hcon.out _ H.ext) (H.pick (by repeat (first | exact Picks.nil _ | (apply Picks.wr; focus (repeat (first | exact Split.here _ _ | apply Split.there))) | (apply Picks.rd; focus (repeat (first | exact Split.here _ _ | apply Split.there))))))) ?_; rintro e w' ⟨k1, k3, c1, c3, aa, qs, last1, hrun1, rfl, H'⟩; replace H := H.merge (by first | exact Strikes.nil _ | (repeat (first | exact Strikes.nil _ | (apply Strikes.cons; focus (repeat (first | exact Split.here _ _ | apply Split.there)))))) H' rfl; clear H')
        | (go_at_call 15; refine Calls.mono (spec_calls own rds src n c hn (by omega) _ (hcon.out _ H.ext) hrev (H.pick (by repeat (first | exact Picks.nil _ | (apply Picks.wr; focus (repeat (first | exact Split.here _ _ | apply Split.there))) | (apply Picks.rd; focus (repeat (first | exact Split.here _ _ | apply Split.there))))))) ?_; rintro e w' ⟨k2, k4, c2, c4, bb, rs, last2, hrun2, rfl, H'⟩; replace H := H.merge (by first | exact Strikes.nil _ | (repeat (first | exact Strikes.nil _ | (apply Strikes.cons; focus (repeat (first | exact Split.here _ _ | apply Split.there)))))) H' rfl; clear H')
        | (refine loud_ rfl ?_; refine wpList_plain rfl (fun K hK => ?_); (first | (refine op_box _ _ rfl H (fun b w' H1 => hK _ _ ?_)) | (refine op_alloc _ rfl (zero_of _ _ rfl) H (fun b w' H1 => hK _ _ ?_)) | (refine op_store _ _ _ rfl rfl rfl H (by repeat (first | exact Split.here _ _ | apply Split.there)) (by kernel_rfl) (by kernel_rfl) (by kernel_rfl) (fun w' H1 => hK _ _ ?_)) | (refine op_buildSlice_all _ _ _ rfl (by first | exact elem25 | exact elem32 | exact elem35 | exact elem36 | exact elem37 | exact elem38 | exact elem41 | exact elem42 | exact elem45 | exact elem57 | exact elem62 | exact elem74 | exact elem98 | exact elem100 | exact elem137 | exact elem178 | exact elem179) (by kernel_rfl) (by kernel_rfl) (by kernel_rfl) H (fun b w' H1 => hK _ _ ?_))); clear hK K; replace H := H1; clear H1)); (try clear hc); (try simp only [nrm, splice, Value.cells, Nat.reduceAdd, Act.eval, Act.put] at H); have hc := H.cells; simp only [CellsOf, KnCells, knc, Nat.reduceAdd] at hc))
      obtain ⟨e1, e2, _⟩ := run_same hrun1.out hrev.out hrun2.out
      obtain ⟨f1, f2⟩ := run_few hrun1.out hok.out
      replace e1 := Lib.hid e1
      replace e2 := Lib.hid e2
      replace f1 := Lib.hid f1
      replace f2 := Lib.hid f2
      clear hrun1 hrun2
      have l1 : Hid (aa.length = n) := by have := row_length (H.get (k := .row k1 32 1 n c1 (aa.map SlI.val)) (by repeat (first | exact Split.here _ _ | apply Split.there))); rw [List.length_map] at this; show _ = _; omega
      have l2 : Hid (bb.length = n) := by have := row_length (H.get (k := .row k2 32 1 n c2 (bb.map SlI.val)) (by repeat (first | exact Split.here _ _ | apply Split.there))); rw [List.length_map] at this; show _ = _; omega
      have l3 : Hid (qs.length = n) := by have := row_length (H.get (k := .row k3 42 1 n c3 (qs.map SlI.val)) (by repeat (first | exact Split.here _ _ | apply Split.there))); rw [List.length_map] at this; show _ = _; omega
      have l4 : Hid (rs.length = n) := by have := row_length (H.get (k := .row k4 42 1 n c4 (rs.map SlI.val)) (by repeat (first | exact Split.here _ _ | apply Split.there))); rw [List.length_map] at this; show _ = _; omega
      replace H := H.rowSoft (key := k1) (by repeat (first | exact Split.here _ _ | apply Split.there))
      (try simp only [List.append, List.cons_append, List.nil_append] at H)
      replace H := H.rowSoft (key := k2) (by repeat (first | exact Split.here _ _ | apply Split.there))
      (try simp only [List.append, List.cons_append, List.nil_append] at H)
      replace H := H.rowSoft (key := k3) (by repeat (first | exact Split.here _ _ | apply Split.there))
      (try simp only [List.append, List.cons_append, List.nil_append] at H)
      replace H := H.rowSoft (key := k4) (by repeat (first | exact Split.here _ _ | apply Split.there))
      (try simp only [List.append, List.cons_append, List.nil_append] at H)
      replace H := H.ro (k := bag (aa.map SlI.entA)) (by repeat (first | exact Split.here _ _ | apply Split.there))
      (try simp only [List.append, List.cons_append, List.nil_append] at H)
      replace H := H.ro (k := bag (bb.map SlI.entA)) (by repeat (first | exact Split.here _ _ | apply Split.there))
      (try simp only [List.append, List.cons_append, List.nil_append] at H)
      replace H := H.ro (k := bag (qs.map SlI.entQ)) (by repeat (first | exact Split.here _ _ | apply Split.there))
      (try simp only [List.append, List.cons_append, List.nil_append] at H)
      replace H := H.ro (k := bag (rs.map SlI.entQ)) (by repeat (first | exact Split.here _ _ | apply Split.there))
      (try simp only [List.append, List.cons_append, List.nil_append] at H)
      (try simp only [show sl k1 n c1 = Value.slice (k1.map fun b => (⟨b, 0, none⟩ : Addr)) n c1 from rfl, show sl k2 n c2 = Value.slice (k2.map fun b => (⟨b, 0, none⟩ : Addr)) n c2 from rfl, show sl k3 n c3 = Value.slice (k3.map fun b => (⟨b, 0, none⟩ : Addr)) n c3 from rfl, show sl k4 n c4 = Value.slice (k4.map fun b => (⟨b, 0, none⟩ : Addr)) n c4 from rfl])
      generalize (k1.map fun b => (⟨b, 0, none⟩ : Addr)) = s1 at *
      generalize (k2.map fun b => (⟨b, 0, none⟩ : Addr)) = s2 at *
      generalize (k3.map fun b => (⟨b, 0, none⟩ : Addr)) = s3 at *
      generalize (k4.map fun b => (⟨b, 0, none⟩ : Addr)) = s4 at *
      have H0 : St [] w w' [(false, soft s1 (aa.map SlI.val)), (false, soft s2 (bb.map SlI.val)), (false, soft s3 (qs.map SlI.val)), (false, soft s4 (rs.map SlI.val)), (false, bag (aa.map SlI.entA)), (false, bag (bb.map SlI.entA)), (false, bag (qs.map SlI.entQ)), (false, bag (rs.map SlI.entQ))] := H.sel (by repeat (first | exact Sel.nil _ | (apply Sel.cons; focus (repeat (first | exact Split.here _ _ | apply Split.there)))))
      clear H
      have H := H0
      (try clear hc)
      (try simp only [Act.put, slt])
      have hc := H.cells; simp only [CellsOf, KnCells, knc, Nat.reduceAdd] at hc
      repeat' (first | (go_big_may; (first
    | ((first
        | (refine loud_ rfl ?_; refine wpList_plain rfl (fun K hK => ?_); (first | (refine op_box _ _ rfl H (fun b w' H1 => hK _ _ ?_)) | (refine op_alloc _ rfl (zero_of _ _ rfl) H (fun b w' H1 => hK _ _ ?_)) | (refine op_store _ _ _ rfl rfl rfl H (by repeat (first | exact Split.here _ _ | apply Split.there)) (by kernel_rfl) (by kernel_rfl) (by kernel_rfl) (fun w' H1 => hK _ _ ?_)) | (refine op_buildSlice_all _ _ _ rfl (by first | exact elem25 | exact elem32 | exact elem35 | exact elem36 | exact elem37 | exact elem38 | exact elem41 | exact elem42 | exact elem45 | exact elem57 | exact elem62 | exact elem74 | exact elem98 | exact elem100 | exact elem137 | exact elem178 | exact elem179) (by kernel_rfl) (by kernel_rfl) (by kernel_rfl) H (fun b w' H1 => hK _ _ ?_))); clear hK K; replace H := H1; clear H1)); (try clear hc); (try simp only [nrm, splice, Value.cells, Nat.reduceAdd, Act.eval, Act.put] at H); have hc := H.cells; simp only [CellsOf, KnCells, knc, Nat.reduceAdd] at hc))) | go_values | go_skip | go_guarded | go_step | go_upon | go_back | dsimp only)
      clear H
      (try clear hc)
      go_loopw [43] (AtCq n aa bb qs rs s1 s2 s3 s4 w) (fun i _ => n - (intOf i).toNat)
      case atStart => exact ⟨0, Nat.zero_le _, rfl, H0⟩
      case round =>
        clear H0
        obtain ⟨j, hj, rfl, H⟩ := hrel
        by_cases hlt : j < n
        · have j1 : j < aa.length := by rw [l1.out]; exact hlt
          have j2 : j < bb.length := by rw [l2.out]; exact hlt
          have j3 : j < qs.length := by rw [l3.out]; exact hlt
          have j4 : j < rs.length := by rw [l4.out]; exact hlt
          have hA := Lib.hid (ids_same (List.getElem_mem j1) (List.getElem_mem j2) (map_at e1.out j j1 j2) (f1.out _ (List.mem_map_of_mem (List.getElem_mem j1))))
          have hQ := Lib.hid (revs_same (List.getElem_mem j3) (List.getElem_mem j4) (map_at e2.out j j3 j4) (f2.out _ (List.mem_map_of_mem (List.getElem_mem j3))))
          obtain ⟨b1, o1, rfl, H1⟩ := H.elemSoft (src := s1) (Split.here _ _) j [SlI.val aa[j]] (by show 0 < 1; omega) (by rw [List.length_map, l1.out]; show j + 1 ≤ n; omega) (elem1 j1)
          obtain ⟨b2, o2, rfl, H2⟩ := H1.elemSoft (src := s2) (xs := bb.map SlI.val) (by repeat (first | exact Split.here _ _ | apply Split.there)) j [SlI.val bb[j]] (by show 0 < 1; omega) (by rw [List.length_map, l2.out]; show j + 1 ≤ n; omega) (elem1 j2)
          obtain ⟨b3, o3, rfl, H3⟩ := H2.elemSoft (src := s3) (xs := qs.map SlI.val) (by repeat (first | exact Split.here _ _ | apply Split.there)) j [SlI.val qs[j]] (by show 0 < 1; omega) (by rw [List.length_map, l3.out]; show j + 1 ≤ n; omega) (elem1 j3)
          obtain ⟨b4, o4, rfl, H4⟩ := H3.elemSoft (src := s4) (xs := rs.map SlI.val) (by repeat (first | exact Split.here _ _ | apply Split.there)) j [SlI.val rs[j]] (by show 0 < 1; omega) (by rw [List.length_map, l4.out]; show j + 1 ≤ n; omega) (elem1 j4)
          clear H H1 H2 H3
          have H := H4
          clear H4
          generalize aa[j] = xa at *
          generalize bb[j] = xb at *
          generalize qs[j] = xq at *
          generalize rs[j] = xr at *
          clear j1 j2 j3 j4
          obtain ⟨xak, xac, xal⟩ := xa
          obtain ⟨xbk, xbc, xbl⟩ := xb
          obtain ⟨xqk, xqc, xql⟩ := xq
          obtain ⟨xrk, xrc, xrl⟩ := xr
          simp only [SlI.val] at H
          have hc := H.cells; simp only [CellsOf, KnCells, knc, Nat.reduceAdd] at hc
          repeat' (first | (go_big_may; (first
    | ((first
        | (refine loud_ rfl ?_; refine wpList_plain rfl (fun K hK => ?_); (first | (refine op_box _ _ rfl H (fun b w' H1 => hK _ _ ?_)) | (refine op_alloc _ rfl (zero_of _ _ rfl) H (fun b w' H1 => hK _ _ ?_)) | (refine op_store _ _ _ rfl rfl rfl H (by repeat (first | exact Split.here _ _ | apply Split.there)) (by kernel_rfl) (by kernel_rfl) (by kernel_rfl) (fun w' H1 => hK _ _ ?_)) | (refine op_buildSlice_all _ _ _ rfl (by first | exact elem25 | exact elem32 | exact elem35 | exact elem36 | exact elem37 | exact elem38 | exact elem41 | exact elem42 | exact elem45 | exact elem57 | exact elem62 | exact elem74 | exact elem98 | exact elem100 | exact elem137 | exact elem178 | exact elem179) (by kernel_rfl) (by kernel_rfl) (by kernel_rfl) H (fun b w' H1 => hK _ _ ?_))); clear hK K; replace H := H1; clear H1)); (try clear hc); (try simp only [nrm, splice, Value.cells, Nat.reduceAdd, Act.eval, Act.put] at H); have hc := H.cells; simp only [CellsOf, KnCells, knc, Nat.reduceAdd] at hc))) | go_values | go_skip | go_guarded | go_step | go_upon | go_back | dsimp only)
          (try simp only [Act.put, slt])
          refine wp_region_plan (.p [0, 1, 2] (.q [3] (.p [4, 5, 6] (.q [7] (.e 8 (.p [9, 10, 11, 12, 13] (.q [14] (.p [15, 16, 17] (.q [18] (.e 19 (.p [20, 21] .done))))))))))) [19] (by kernel_rfl) (by kernel_rfl) (fun _ _ d _ _ h => by cases d <;> exact h) H ?_
          clear H
          (try clear hc)
          intro X nX fX wd hcf hS H
          simp only [CellsOf, KnCells, knc, Nat.reduceAdd] at hcf
          have hc := H.cells
          simp only [CellsOf, KnCells, knc, Nat.reduceAdd] at hc
          iterate 3 (refine plan_p (o := ⟨_, _, _, _, _, _⟩) rfl (fun N hN => ?_); go_big_quiet_step (fail); refine wpQuiet_nil (hN _ ?_); clear hN N)
          refine plan_p0 ?_
          iterate 1 (refine plan_q (o := ⟨_, _, _, _, _, _⟩) rfl (fun N hN => ?_); go_big_quiet_step (fail); refine wpQuiet_nil (hN _ ?_); clear hN N)
          refine plan_q0 ?_
          iterate 3 (refine plan_p (o := ⟨_, _, _, _, _, _⟩) rfl (fun N hN => ?_); go_big_quiet_step (fail); refine wpQuiet_nil (hN _ ?_); clear hN N)
          refine plan_p0 ?_
          iterate 1 (refine plan_q (o := ⟨_, _, _, _, _, _⟩) rfl (fun N hN => ?_); go_big_quiet_step (fail); refine wpQuiet_nil (hN _ ?_); clear hN N)
          refine plan_q0 ?_
          refine plan_e (o := ⟨_, _, _, _, _, _⟩) rfl rfl (fun K hK => ?_)
          (first | (go_step; go_at_call 16; refine Calls.mono (hA.out _ (H.get (by repeat (first | exact Split.here _ _ | apply Split.there))) (H.get (by repeat (first | exact Split.here _ _ | apply Split.there)))) ?_; rintro e w' ⟨rfl, H'⟩; replace H := H.of_ext H'; clear H') | (go_step; go_at_call 12; refine Calls.mono (hQ.out _ (H.get (by repeat (first | exact Split.here _ _ | apply Split.there))) (H.get (by repeat (first | exact Split.here _ _ | apply Split.there)))) ?_; rintro e w' ⟨rfl, H'⟩; replace H := H.of_ext H'; clear H') | (refine op_box _ _ rfl H (fun b w' H1 => ?_); replace H := H1; clear H1) | (refine op_alloc _ rfl (zero_of _ _ rfl) H (fun b w' H1 => ?_); replace H := H1; clear H1) | (refine op_store _ _ _ rfl rfl rfl H (by repeat (first | exact Split.here _ _ | apply Split.there)) (by kernel_rfl) (by kernel_rfl) (by kernel_rfl) (fun w' H1 => ?_); replace H := H1; clear H1) | (refine op_buildSlice_all _ _ _ rfl (by first | exact elem25 | exact elem32 | exact elem35 | exact elem36 | exact elem37 | exact elem38 | exact elem41 | exact elem42 | exact elem45 | exact elem57 | exact elem62 | exact elem74 | exact elem98 | exact elem100 | exact elem137 | exact elem178 | exact elem179) (by kernel_rfl) (by kernel_rfl) (by kernel_rfl) H (fun b w' H1 => ?_); replace H := H1; clear H1)); (try clear hc); (try simp only [nrm, splice, Value.cells, Nat.reduceAdd, Act.eval, Act.put] at H); have hc := H.cells; simp only [CellsOf, KnCells, knc, Nat.reduceAdd] at hc; refine hK _ _ (fun _ _ => hS _ (H.sublist (by repeat (first | exact List.Sublist.refl _ | exact List.nil_sublist _ | apply List.Sublist.cons_cons | apply List.Sublist.cons))).all) ?_; clear hK K; (try simp only [Act.put, slt])
          iterate 2 (refine plan_p (o := ⟨_, _, _, _, _, _⟩) rfl (fun N hN => ?_); go_big_quiet_step (fail); refine wpQuiet_nil (hN _ ?_); clear hN N)
          iterate 1 (refine plan_p (o := ⟨_, _, _, _, _, _⟩) rfl (fun N hN => ?_); go_big_quiet_step (fail); refine wpQuiet_nil (hN _ ?_); clear hN N)
          iterate 1 (refine plan_p (o := ⟨_, _, _, _, _, _⟩) rfl (fun N hN => ?_); go_big_quiet_step (fail); refine wpQuiet_nil (hN _ ?_); clear hN N)
          iterate 1 (refine plan_p (o := ⟨_, _, _, _, _, _⟩) rfl (fun N hN => ?_); go_big_quiet_step (fail); refine wpQuiet_nil (hN _ ?_); clear hN N)
          refine plan_p0 ?_
          iterate 1 (refine plan_q (o := ⟨_, _, _, _, _, _⟩) rfl (fun N hN => ?_); go_big_quiet_step (fail); refine wpQuiet_nil (hN _ ?_); clear hN N)
          refine plan_q0 ?_
          iterate 1 (refine plan_p (o := ⟨_, _, _, _, _, _⟩) rfl (fun N hN => ?_); go_big_quiet_step (fail); refine wpQuiet_nil (hN _ ?_); clear hN N)
          iterate 1 (refine plan_p (o := ⟨_, _, _, _, _, _⟩) rfl (fun N hN => ?_); go_big_quiet_step (fail); refine wpQuiet_nil (hN _ ?_); clear hN N)
          iterate 1 (refine plan_p (o := ⟨_, _, _, _, _, _⟩) rfl (fun N hN => ?_); go_big_quiet_step (fail); refine wpQuiet_nil (hN _ ?_); clear hN N)
          refine plan_p0 ?_
          iterate 1 (refine plan_q (o := ⟨_, _, _, _, _, _⟩) rfl (fun N hN => ?_); go_big_quiet_step (fail); refine wpQuiet_nil (hN _ ?_); clear hN N)
          refine plan_q0 ?_
          refine plan_e (o := ⟨_, _, _, _, _, _⟩) rfl rfl (fun K hK => ?_)
          (first | (go_step; go_at_call 16; refine Calls.mono (hA.out _ (H.get (by repeat (first | exact Split.here _ _ | apply Split.there))) (H.get (by repeat (first | exact Split.here _ _ | apply Split.there)))) ?_; rintro e w' ⟨rfl, H'⟩; replace H := H.of_ext H'; clear H') | (go_step; go_at_call 12; refine Calls.mono (hQ.out _ (H.get (by repeat (first | exact Split.here _ _ | apply Split.there))) (H.get (by repeat (first | exact Split.here _ _ | apply Split.there)))) ?_; rintro e w' ⟨rfl, H'⟩; replace H := H.of_ext H'; clear H') | (refine op_box _ _ rfl H (fun b w' H1 => ?_); replace H := H1; clear H1) | (refine op_alloc _ rfl (zero_of _ _ rfl) H (fun b w' H1 => ?_); replace H := H1; clear H1) | (refine op_store _ _ _ rfl rfl rfl H (by repeat (first | exact Split.here _ _ | apply Split.there)) (by kernel_rfl) (by kernel_rfl) (by kernel_rfl) (fun w' H1 => ?_); replace H := H1; clear H1) | (refine op_buildSlice_all _ _ _ rfl (by first | exact elem25 | exact elem32 | exact elem35 | exact elem36 | exact elem37 | exact elem38 | exact elem41 | exact elem42 | exact elem45 | exact elem57 | exact elem62 | exact elem74 | exact elem98 | exact elem100 | exact elem137 | exact elem178 | exact elem179) (by kernel_rfl) (by kernel_rfl) (by kernel_rfl) H (fun b w' H1 => ?_); replace H := H1; clear H1)); (try clear hc); (try simp only [nrm, splice, Value.cells, Nat.reduceAdd, Act.eval, Act.put] at H); have hc := H.cells; simp only [CellsOf, KnCells, knc, Nat.reduceAdd] at hc; refine hK _ _ (fun h => (h (by decide)).elim) ?_; clear hK K; (try simp only [Act.put, slt])
          iterate 1 (refine plan_p (o := ⟨_, _, _, _, _, _⟩) rfl (fun N hN => ?_); go_big_quiet_step (fail); refine wpQuiet_nil (hN _ ?_); clear hN N)
          iterate 1 (refine plan_p (o := ⟨_, _, _, _, _, _⟩) rfl (fun N hN => ?_); go_big_quiet_step (fail); refine wpQuiet_nil (hN _ ?_); clear hN N)
          refine plan_p0 ?_
          refine plan_done ?_
          repeat' (first | (go_big_may; (first
    | ((first
        | (refine loud_ rfl ?_; refine wpList_plain rfl (fun K hK => ?_); (first | (refine op_box _ _ rfl H (fun b w' H1 => hK _ _ ?_)) | (refine op_alloc _ rfl (zero_of _ _ rfl) H (fun b w' H1 => hK _ _ ?_)) | (refine op_store _ _ _ rfl rfl rfl H (by repeat (first | exact Split.here _ _ | apply Split.there)) (by kernel_rfl) (by kernel_rfl) (by kernel_rfl) (fun w' H1 => hK _ _ ?_)) | (refine op_buildSlice_all _ _ _ rfl (by first | exact elem25 | exact elem32 | exact elem35 | exact elem36 | exact elem37 | exact elem38 | exact elem41 | exact elem42 | exact elem45 | exact elem57 | exact elem62 | exact elem74 | exact elem98 | exact elem100 | exact elem137 | exact elem178 | exact elem179) (by kernel_rfl) (by kernel_rfl) (by kernel_rfl) H (fun b w' H1 => hK _ _ ?_))); clear hK K; replace H := H1; clear H1)); (try clear hc); (try simp only [nrm, splice, Value.cells, Nat.reduceAdd, Act.eval, Act.put] at H); have hc := H.cells; simp only [CellsOf, KnCells, knc, Nat.reduceAdd] at hc))) | go_values | go_skip | go_guarded | go_step | go_upon | go_back | dsimp only)
          exact ⟨⟨j + 1, by omega, by go_num, H.sel (by repeat (first | exact Sel.nil _ | (apply Sel.cons; focus (repeat (first | exact Split.here _ _ | apply Split.there)))))⟩, by simp [intOf]; omega⟩
        · obtain rfl : j = n := by omega
          have hc := H.cells; simp only [CellsOf, KnCells, knc, Nat.reduceAdd] at hc
          repeat' (first | (go_big_may; (first
    | go_skip
    | ((first
        | (go_at_call 9; refine Calls.mono (awake_calls _) ?_; rintro e w' ⟨rfl, H'⟩; replace H := H.of_ext H'; clear H')
        | (refine loud_ rfl ?_; refine wpList_plain rfl (fun K hK => ?_); (first | (refine op_box _ _ rfl H (fun b w' H1 => hK _ _ ?_)) | (refine op_alloc _ rfl (zero_of _ _ rfl) H (fun b w' H1 => hK _ _ ?_)) | (refine op_store _ _ _ rfl rfl rfl H (by repeat (first | exact Split.here _ _ | apply Split.there)) (by kernel_rfl) (by kernel_rfl) (by kernel_rfl) (fun w' H1 => hK _ _ ?_)) | (refine op_buildSlice_all _ _ _ rfl (by first | exact elem25 | exact elem32 | exact elem35 | exact elem36 | exact elem37 | exact elem38 | exact elem41 | exact elem42 | exact elem45 | exact elem57 | exact elem62 | exact elem74 | exact elem98 | exact elem100 | exact elem137 | exact elem178 | exact elem179) (by kernel_rfl) (by kernel_rfl) (by kernel_rfl) H (fun b w' H1 => hK _ _ ?_))); clear hK K; replace H := H1; clear H1)); (try clear hc); (try simp only [nrm, splice, Value.cells, Nat.reduceAdd, Act.eval, Act.put] at H); have hc := H.cells; simp only [CellsOf, KnCells, knc, Nat.reduceAdd] at hc))) | go_values | go_skip | go_guarded | go_step | go_upon | go_back | dsimp only)
          go_ret
          exact ⟨rfl, H.ext⟩
end Go.Proofs.Ytelddhcggmfloaa
