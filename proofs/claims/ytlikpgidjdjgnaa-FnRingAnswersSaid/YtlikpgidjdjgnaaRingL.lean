import Derived.Test.YtlikpgidjdjgnaaRingK
import Derived.Test.YtlikpgidjdjgnaaRingV
-- MORE
namespace Go.Proofs.Ytlikpgidjdjgnaa
set_option linter.unusedVariables false
set_option linter.unusedSimpArgs false
set_option linter.unnecessarySimpa false
open Go.RowKit Go.V

/-- Some cells of what came in, as cells. -/
theorem _root_.Go.V.St.elemSoft {S : List Nat} {w0 w : World} {L A B : List Ent} {src : Option Addr} {xs : List Value} (H : St S w0 w L) (hs : Split L (false, soft src xs) A B) (i : Nat) (ys : List Value) (h0 : 0 < ys.length) (hi : i + ys.length ≤ xs.length) (hy : ∀ j, j < ys.length → xs[i + j]? = ys[j]?) :
    ∃ b o, src = some ⟨b, o, none⟩ ∧ St S w0 w ((false, .arr (some ⟨b, o + i, none⟩) ys) :: L) := by
  have hl := H.lies hs
  obtain ⟨b, o, rfl, h1⟩ := liesAny hl (j := i) (u := ys[0]) (by have := hy 0 h0; rw [Nat.add_zero] at this; rw [this]; exact List.getElem?_eq_getElem h0)
  refine ⟨b, o, rfl, ?_⟩
  have hb : b < w.heap.size := by
    unfold World.cell? at h1
    split at h1
    · rename_i hb
      exact lt_of_get hb
    · cases h1
  refine H.sub hs _ ⟨rfl, hb, fun j hj => ?_⟩ ?_
  · have h2 := hl.2 _ rfl (i + j) ys[j] (by rw [hy j hj]; exact List.getElem?_eq_getElem hj)
    rw [List.getElem?_eq_getElem hj, ← h2]
    congr 1
    unfold Addr.add
    split
    · simp_all
    · simp [Nat.add_assoc]
  · intro c hc
    simp only [Kn.fp, Option.toList_some, List.map_cons, List.map_nil, List.mem_singleton] at hc ⊢
    subst hc
    cases xs with
    | nil => simp only [List.length_nil] at hi; omega
    | cons x v => simp [softFp]

def rkind : Option Nat → Int
  | none => 0
  | some _ => 1
set_option maxRecDepth 4000 in
set_option maxHeartbeats 4000000 in
theorem ringG_calls (o : Option Nat) (kd : Int) (hkd : Hid (kd = rkind o)) (g0 : GR) (places normal : Nat) (hg0 : Hid (g0 = ⟨places, []⟩)) (ho : Hid (∀ m, o = some m → m = normal)) (hp : places ≤ 200) (hnm : normal ≤ 200) (ops : List ROp) (src : Option Addr) (k cap : Nat) (w : World) (hk : Hid (ops.length = k)) (hl : k ≤ 1000) (hw : Hid (wl ops ≤ 3000)) (hs : Hid (∀ o ∈ ops, Lies w o.at' (ints o.vals) ∧ (o.at' = none → o.vals.length = 0)))
    (H : St [] w w [(false, soft src (ops.flatMap ROp.cells))]) :
    Calls Try.prog 7 #[.int .i64 kd, .int .i64 places, .int .i64 normal, .slice src k cap] w fun e w' => ∃ key cap' rs fp, Hid (rs.map RA.tell = g0.tells o ops) ∧ e = .returned (.tuple #[sl key k cap', .bool true]) ∧
      St [] w w' [(true, .row key 34 3 k cap' (rs.flatMap RA.cells)), (true, .rep fp (RAsAt rs fp))] := by
  have hmin : min (places : Int) 65536 = places := by omega
  have hm' : Hid (∀ m, o = some m → m ≤ 65536) := by show ∀ m, _; intro m h; have := ho.out m h; omega
  have hcase : (o = none ∧ kd = 0) ∨ (o = some normal ∧ kd = 1) := by
    rw [hkd.out]
    cases o with
    | none => exact .inl ⟨rfl, rfl⟩
    | some m => exact .inr ⟨by rw [ho.out m rfl], rfl⟩
  rcases hcase with ⟨hoo, rfl⟩ | ⟨hoo, rfl⟩
  case' inl =>
    have hoo' := Lib.hid hoo
    clear hoo
    go_enter Try.func7, Try.ntmps7
    go_wp2_with (first
    | (go_at_call 12; refine Calls.mono (within_calls _ 0 65536 _ (by omega) (by omega) (by omega)) ?_; rintro e w' ⟨rfl, H'⟩; replace H := H.of_ext H'; clear H'; (try clear hc); (try simp only [nrm, splice, Value.cells, Nat.reduceAdd, Act.eval, Act.put] at H); have hc := H.cells; simp only [CellsOf, KnCells, arr_lit, knAt_cons, knAt_nil, Nat.zero_add, Nat.add_zero, Nat.reduceAdd] at hc)
    | (go_at_call 15; refine Calls.mono (newGrow_calls places _ (by omega)) ?_; rintro e w' ⟨br, kb, rfl, H'⟩; replace H := H.merge (by first | exact Strikes.nil _ | (repeat (first | exact Strikes.nil _ | (apply Strikes.cons; focus (repeat (first | exact Split.here _ _ | apply Split.there)))))) H' rfl; clear H'; (try clear hc); (try simp only [nrm, splice, Value.cells, Nat.reduceAdd, Act.eval, Act.put] at H); have hc := H.cells; simp only [CellsOf, KnCells, arr_lit, knAt_cons, knAt_nil, Nat.zero_add, Nat.add_zero, Nat.reduceAdd] at hc)
    | (refine loud_ rfl ?_; refine wpList_plain rfl (fun K hK => ?_); first
      | (refine op_box _ _ rfl H (fun b w' H1 => hK _ _ ?_); clear hK K; replace H := H1; clear H1; (try clear hc); (try simp only [nrm, splice, Value.cells, Nat.reduceAdd, Act.eval, Act.put] at H); have hc := H.cells; simp only [CellsOf, KnCells, arr_lit, knAt_cons, knAt_nil, Nat.zero_add, Nat.add_zero, Nat.reduceAdd] at hc)
      | (refine op_alloc _ rfl (zero_of _ _ rfl) H (fun b w' H1 => hK _ _ ?_); clear hK K; replace H := H1; clear H1; (try clear hc); (try simp only [nrm, splice, Value.cells, Nat.reduceAdd, Act.eval, Act.put] at H); have hc := H.cells; simp only [CellsOf, KnCells, arr_lit, knAt_cons, knAt_nil, Nat.zero_add, Nat.add_zero, Nat.reduceAdd] at hc)
      | (refine op_store _ _ _ rfl rfl rfl H (by repeat (first | exact Split.here _ _ | apply Split.there)) (by kernel_rfl) (by kernel_rfl) (by kernel_rfl) (fun w' H1 => hK _ _ ?_); clear hK K; replace H := H1; clear H1; (try clear hc); (try simp only [nrm, splice, Value.cells, Nat.reduceAdd, Act.eval, Act.put] at H); have hc := H.cells; simp only [CellsOf, KnCells, arr_lit, knAt_cons, knAt_nil, Nat.zero_add, Nat.add_zero, Nat.reduceAdd] at hc)
      | (refine op_buildSlice_all _ _ _ rfl (by first | exact elem22 | exact elem25 | exact elem26 | exact elem29) (by kernel_rfl) (by kernel_rfl) (by kernel_rfl) H (fun b w' H1 => hK _ _ ?_); clear hK K; replace H := H1; clear H1; (try clear hc); (try simp only [nrm, splice, Value.cells, Nat.reduceAdd, Act.eval, Act.put] at H); have hc := H.cells; simp only [CellsOf, KnCells, arr_lit, knAt_cons, knAt_nil, Nat.zero_add, Nat.add_zero, Nat.reduceAdd] at hc)))
    have hL : St [] w w' (gents (oInt o) br kb places 0 0 (List.replicate places 0) ++ [(false, soft src (ops.flatMap ROp.cells))]) := by rw [hoo'.out]; exact H.sel (by repeat (first | exact Sel.nil _ | (apply Sel.cons; focus (repeat (first | exact Split.here _ _ | apply Split.there)))))
    have hrv : Value.iface 49 (.pointer (some ⟨br, 0, none⟩)) = rv o br := by rw [hoo'.out]; rfl
  case' inr =>
    have hoo' := Lib.hid hoo
    clear hoo
    go_enter Try.func7, Try.ntmps7
    go_wp2_with (first
    | (go_at_call 12; refine Calls.mono (within_calls _ 0 65536 _ (by omega) (by omega) (by omega)) ?_; rintro e w' ⟨rfl, H'⟩; replace H := H.of_ext H'; clear H'; (try clear hc); (try simp only [nrm, splice, Value.cells, Nat.reduceAdd, Act.eval, Act.put] at H); have hc := H.cells; simp only [CellsOf, KnCells, arr_lit, knAt_cons, knAt_nil, Nat.zero_add, Nat.add_zero, Nat.reduceAdd] at hc)
    | (go_at_call 15; refine Calls.mono (newGrow_calls places _ (by omega)) ?_; rintro e w' ⟨br0, kb0, rfl, H'⟩; replace H := H.merge (by first | exact Strikes.nil _ | (repeat (first | exact Strikes.nil _ | (apply Strikes.cons; focus (repeat (first | exact Split.here _ _ | apply Split.there)))))) H' rfl; clear H'; (try clear hc); (try simp only [nrm, splice, Value.cells, Nat.reduceAdd, Act.eval, Act.put] at H); have hc := H.cells; simp only [CellsOf, KnCells, arr_lit, knAt_cons, knAt_nil, Nat.zero_add, Nat.add_zero, Nat.reduceAdd] at hc)
    | (go_at_call 16; refine Calls.mono (newRing_calls places normal _ (by omega)) ?_; rintro e w' ⟨br, kb, rfl, H'⟩; replace H := H.merge (by first | exact Strikes.nil _ | (repeat (first | exact Strikes.nil _ | (apply Strikes.cons; focus (repeat (first | exact Split.here _ _ | apply Split.there)))))) H' rfl; clear H'; (try clear hc); (try simp only [nrm, splice, Value.cells, Nat.reduceAdd, Act.eval, Act.put] at H); have hc := H.cells; simp only [CellsOf, KnCells, arr_lit, knAt_cons, knAt_nil, Nat.zero_add, Nat.add_zero, Nat.reduceAdd] at hc)
    | (refine loud_ rfl ?_; refine wpList_plain rfl (fun K hK => ?_); first
      | (refine op_box _ _ rfl H (fun b w' H1 => hK _ _ ?_); clear hK K; replace H := H1; clear H1; (try clear hc); (try simp only [nrm, splice, Value.cells, Nat.reduceAdd, Act.eval, Act.put] at H); have hc := H.cells; simp only [CellsOf, KnCells, arr_lit, knAt_cons, knAt_nil, Nat.zero_add, Nat.add_zero, Nat.reduceAdd] at hc)
      | (refine op_alloc _ rfl (zero_of _ _ rfl) H (fun b w' H1 => hK _ _ ?_); clear hK K; replace H := H1; clear H1; (try clear hc); (try simp only [nrm, splice, Value.cells, Nat.reduceAdd, Act.eval, Act.put] at H); have hc := H.cells; simp only [CellsOf, KnCells, arr_lit, knAt_cons, knAt_nil, Nat.zero_add, Nat.add_zero, Nat.reduceAdd] at hc)
      | (refine op_store _ _ _ rfl rfl rfl H (by repeat (first | exact Split.here _ _ | apply Split.there)) (by kernel_rfl) (by kernel_rfl) (by kernel_rfl) (fun w' H1 => hK _ _ ?_); clear hK K; replace H := H1; clear H1; (try clear hc); (try simp only [nrm, splice, Value.cells, Nat.reduceAdd, Act.eval, Act.put] at H); have hc := H.cells; simp only [CellsOf, KnCells, arr_lit, knAt_cons, knAt_nil, Nat.zero_add, Nat.add_zero, Nat.reduceAdd] at hc)
      | (refine op_buildSlice_all _ _ _ rfl (by first | exact elem22 | exact elem25 | exact elem26 | exact elem29) (by kernel_rfl) (by kernel_rfl) (by kernel_rfl) H (fun b w' H1 => hK _ _ ?_); clear hK K; replace H := H1; clear H1; (try clear hc); (try simp only [nrm, splice, Value.cells, Nat.reduceAdd, Act.eval, Act.put] at H); have hc := H.cells; simp only [CellsOf, KnCells, arr_lit, knAt_cons, knAt_nil, Nat.zero_add, Nat.add_zero, Nat.reduceAdd] at hc)))
    have hL : St [] w w' (gents (oInt o) br kb places 0 0 (List.replicate places 0) ++ [(false, soft src (ops.flatMap ROp.cells))]) := by rw [hoo'.out]; exact H.sel (by repeat (first | exact Sel.nil _ | (apply Sel.cons; focus (repeat (first | exact Split.here _ _ | apply Split.there)))))
    have hrv : Value.iface 55 (.pointer (some ⟨br, 0, none⟩)) = rv o br := by rw [hoo'.out]; rfl
  all_goals
    rw [hrv]
    clear hoo' hrv ho H hc hmin hnm hkd
    have H0 : St [] w w' ((true, .row none 34 3 0 0 (([] : List RA).flatMap RA.cells)) :: (true, .rep [] (RAsAt [] [])) :: (gents (oInt o) br kb (g0.runs o (ops.take 0)).n 0 (g0.runs o (ops.take 0)).q.length (List.replicate places 0) ++ [(false, soft src (ops.flatMap ROp.cells))])) := by
      rw [hg0.out]
      exact ((hL.pack (.nil _) (RAsAt [] []) (RAsAt.local _ _) (RAsAt.nil _)).nilRow _ _).sel (by repeat (first | exact Sel.nil _ | (apply Sel.cons; focus (repeat (first | exact Split.here _ _ | apply Split.there)))))
    have hg1 : Hid (GInv (g0.runs o (ops.take 0)).n 0 (List.replicate places 0) (g0.runs o (ops.take 0)).q) := by rw [hg0.out]; exact ginv_new places
    have hgn : Hid (g0.n = places ∧ g0.q = []) := by rw [hg0.out]; exact ⟨rfl, rfl⟩
    clear hL hg0
    go_loopw [10, 15] (fun ov i wr => ∃ (j : Nat) (key : Option Nat) (cap' : Nat) (rs : List RA) (fp : List Nat) (kb beg : Nat) (data : List Int), j ≤ k ∧ i = .int .i64 j ∧ ov = sl key j cap' ∧ Hid (rs.map RA.tell = g0.tells o (ops.take j)) ∧ Hid (GInv (g0.runs o (ops.take j)).n beg data (g0.runs o (ops.take j)).q) ∧
        St [] w wr ((true, .row key 34 3 j cap' (rs.flatMap RA.cells)) :: (true, .rep fp (RAsAt rs fp)) :: (gents (oInt o) br kb (g0.runs o (ops.take j)).n beg (g0.runs o (ops.take j)).q.length data ++ [(false, soft src (ops.flatMap ROp.cells))]))) (fun _ i _ => k - (intOf i).toNat)
    case atStart => exact ⟨0, none, 0, [], [], kb, 0, _, Nat.zero_le _, rfl, rfl, rfl, hg1, H0⟩
    case round =>
      clear H0 hg1
      obtain ⟨j, key, cap', rs, fp, kb, beg, data, hj, rfl, rfl, hrs, hgi, H⟩ := hrel
      by_cases hlt : j < k
      · have hj' : j < ops.length := by rw [hk.out]; exact hlt
        have hmem : ops[j] ∈ ops := List.getElem_mem hj'
        obtain ⟨hso1, hso2⟩ := hs.out _ hmem
        have hle := GR.runs_le o (ops.take j) g0
        have hwt := wl_take ops j
        have hwm := wl_mem ops _ hmem
        have hw3 := hw.out
        have hb1 : (g0.runs o (ops.take j)).q.length ≤ 10000 := by rw [hgn.out.2, List.length_nil] at hle; omega
        have hb2 : (g0.runs o (ops.take j)).n ≤ 100000 := by rw [hgn.out.1, hgn.out.2, List.length_nil] at hle; omega
        clear hle hwt
        have hcat : Hid (ops.take (j + 1) = ops.take j ++ [ops[j]]) := (List.take_append_getElem hj').symm
        obtain ⟨b1, o1, rfl, H1⟩ := H.elemSoft (Split.there _ (Split.there _ (Split.there _ (Split.there _ (Split.here _ _))))) (j * 2) (ops[j]).cells (by show 0 < 2; omega) (by rw [rop_len]; show _ + 2 ≤ _; omega) (fun i hi => flat_at ROp.cells 2 ops (fun _ _ => rfl) j i hj' hi)
        clear H
        have H := H1.soft hso1
        clear H1
        generalize ops[j] = oo at *
        obtain ⟨kind, at', ocap, vals⟩ := oo
        simp only [ROp.cells] at H hso2 hwm
        obtain ⟨r, hr⟩ : ∃ r, g0.runs o (ops.take j) = r := ⟨_, rfl⟩
        rw [hr] at H hb1 hb2 hgi
        have hr' := Lib.hid hr
        clear hr
        obtain ⟨n, hn⟩ : ∃ n, vals.length = n := ⟨_, rfl⟩
        rw [hn] at H hso2 hwm
        have hn' := Lib.hid hn
        have hso2' := Lib.hid hso2
        have hk1 : Hid (kind = 1 → n ≤ 10000) := by show kind = 1 → _; intro h; have := hwm h; omega
        have hb1' := Lib.hid hb1
        have hb2' := Lib.hid hb2
        clear hn hso2 hso1 hwm hw3 hb1 hb2
        have hc := H.cells; simp only [CellsOf, KnCells, arr_lit, knAt_cons, knAt_nil, Nat.zero_add, Nat.add_zero, Nat.reduceAdd] at hc
        repeat' (first | (go_big_may; (first
    | (go_at_call 17; refine Calls.mono (rung_any o r br kb beg data kind at' n ocap vals _ _ hgi.out hm'.out hn'.out hk1.out hb1'.out hb2'.out (H.pick (by repeat (first | exact Picks.nil _ | (apply Picks.wr; focus (repeat (first | exact Split.here _ _ | apply Split.there))) | (apply Picks.rd; focus (repeat (first | exact Split.here _ _ | apply Split.there))))))) ?_; rintro e w' ⟨key2, m, cap2, kb2, beg2, data2, hm, hg2, rfl, H'⟩; replace H := H.merge (by first | exact Strikes.nil _ | (repeat (first | exact Strikes.nil _ | (apply Strikes.cons; focus (repeat (first | exact Split.here _ _ | apply Split.there)))))) H' rfl; clear H'; (try clear hc); (try simp only [nrm, splice, Value.cells, Nat.reduceAdd, Act.eval, Act.put] at H); have hc := H.cells; simp only [CellsOf, KnCells, arr_lit, knAt_cons, knAt_nil, Nat.zero_add, Nat.add_zero, Nat.reduceAdd] at hc)
    | (refine loud_ rfl ?_; refine wpList_plain rfl (fun K hK => ?_); first
      | (refine op_append_lit _ _ _ rfl elem29 rfl rfl H (by repeat (first | exact Split.here _ _ | apply Split.there)) (by repeat (first | exact Split.here _ _ | apply Split.there)) (by kernel_rfl) (by kernel_rfl) (by omega) (by unfold maxLen; omega) (fun key cap' w' H1 => hK _ _ ?_); clear hK K; replace H := H1; clear H1; (try clear hc); (try simp only [nrm, splice, Value.cells, Nat.reduceAdd, Act.eval, Act.put] at H); have hc := H.cells; simp only [CellsOf, KnCells, arr_lit, knAt_cons, knAt_nil, Nat.zero_add, Nat.add_zero, Nat.reduceAdd] at hc)
      | (refine op_box _ _ rfl H (fun b w' H1 => hK _ _ ?_); clear hK K; replace H := H1; clear H1; (try clear hc); (try simp only [nrm, splice, Value.cells, Nat.reduceAdd, Act.eval, Act.put] at H); have hc := H.cells; simp only [CellsOf, KnCells, arr_lit, knAt_cons, knAt_nil, Nat.zero_add, Nat.add_zero, Nat.reduceAdd] at hc)
      | (refine op_alloc _ rfl (zero_of _ _ rfl) H (fun b w' H1 => hK _ _ ?_); clear hK K; replace H := H1; clear H1; (try clear hc); (try simp only [nrm, splice, Value.cells, Nat.reduceAdd, Act.eval, Act.put] at H); have hc := H.cells; simp only [CellsOf, KnCells, arr_lit, knAt_cons, knAt_nil, Nat.zero_add, Nat.add_zero, Nat.reduceAdd] at hc)
      | (refine op_store _ _ _ rfl rfl rfl H (by repeat (first | exact Split.here _ _ | apply Split.there)) (by kernel_rfl) (by kernel_rfl) (by kernel_rfl) (fun w' H1 => hK _ _ ?_); clear hK K; replace H := H1; clear H1; (try clear hc); (try simp only [nrm, splice, Value.cells, Nat.reduceAdd, Act.eval, Act.put] at H); have hc := H.cells; simp only [CellsOf, KnCells, arr_lit, knAt_cons, knAt_nil, Nat.zero_add, Nat.add_zero, Nat.reduceAdd] at hc)
      | (refine op_buildSlice_all _ _ _ rfl (by first | exact elem22 | exact elem25 | exact elem26 | exact elem29) (by kernel_rfl) (by kernel_rfl) (by kernel_rfl) H (fun b w' H1 => hK _ _ ?_); clear hK K; replace H := H1; clear H1; (try clear hc); (try simp only [nrm, splice, Value.cells, Nat.reduceAdd, Act.eval, Act.put] at H); have hc := H.cells; simp only [CellsOf, KnCells, arr_lit, knAt_cons, knAt_nil, Nat.zero_add, Nat.add_zero, Nat.reduceAdd] at hc)))) | go_values | go_skip | go_guarded | go_step | go_upon | go_back | dsimp only)
        have hA : RAAt ⟨key2, m, cap2, (r.ans kind).1, (r.ans kind).2.1, (r.ans kind).2.2⟩ w' := ⟨hm, H.get (Split.here _ _)⟩
        have H2 := H.packAs (.cons (Split.there _ (Split.there _ (Split.there _ (Split.there _ (Split.there _ (Split.there _ (Split.here _ _))))))) (.cons (Split.here _ _) (.nil _))) (by simp [Kn.fp]) _ (RAsAt.local _ _) ((H.rep (Split.there _ (Split.there _ (Split.there _ (Split.there _ (Split.there _ (Split.there _ (Split.here _ _)))))))).snoc hA)
        refine ⟨⟨j + 1, key, cap', rs ++ [⟨key2, m, cap2, (r.ans kind).1, (r.ans kind).2.1, (r.ans kind).2.2⟩], fp ++ key2.toList, kb2, beg2, data2, by omega, by go_num, rfl, ?_, ?_, ?_⟩, by simp [intOf]; omega⟩
        · show _ = _
          rw [List.map_append, hrs.out, hcat.out, GR.tells_snoc, hr'.out]
          rfl
        · rw [hcat.out, GR.runs_snoc, hr'.out]
          exact hg2
        · rw [hcat.out, GR.runs_snoc, hr'.out, List.flatMap_append, List.flatMap_cons, List.flatMap_nil, List.append_nil]
          exact H2.sel (by repeat (first | exact Sel.nil _ | (apply Sel.cons; focus (repeat (first | exact Split.here _ _ | apply Split.there)))))
      · obtain rfl : j = k := by omega
        rw [List.take_of_length_le (by rw [hk.out]; omega)] at hrs H
        repeat' (first | (go_big_may; (first
    | (refine loud_ rfl ?_; refine wpList_plain rfl (fun K hK => ?_); first
      | (refine op_box _ _ rfl H (fun b w' H1 => hK _ _ ?_); clear hK K; replace H := H1; clear H1; (try clear hc); (try simp only [nrm, splice, Value.cells, Nat.reduceAdd, Act.eval, Act.put] at H); have hc := H.cells; simp only [CellsOf, KnCells, arr_lit, knAt_cons, knAt_nil, Nat.zero_add, Nat.add_zero, Nat.reduceAdd] at hc)
      | (refine op_alloc _ rfl (zero_of _ _ rfl) H (fun b w' H1 => hK _ _ ?_); clear hK K; replace H := H1; clear H1; (try clear hc); (try simp only [nrm, splice, Value.cells, Nat.reduceAdd, Act.eval, Act.put] at H); have hc := H.cells; simp only [CellsOf, KnCells, arr_lit, knAt_cons, knAt_nil, Nat.zero_add, Nat.add_zero, Nat.reduceAdd] at hc)
      | (refine op_store _ _ _ rfl rfl rfl H (by repeat (first | exact Split.here _ _ | apply Split.there)) (by kernel_rfl) (by kernel_rfl) (by kernel_rfl) (fun w' H1 => hK _ _ ?_); clear hK K; replace H := H1; clear H1; (try clear hc); (try simp only [nrm, splice, Value.cells, Nat.reduceAdd, Act.eval, Act.put] at H); have hc := H.cells; simp only [CellsOf, KnCells, arr_lit, knAt_cons, knAt_nil, Nat.zero_add, Nat.add_zero, Nat.reduceAdd] at hc)
      | (refine op_buildSlice_all _ _ _ rfl (by first | exact elem22 | exact elem25 | exact elem26 | exact elem29) (by kernel_rfl) (by kernel_rfl) (by kernel_rfl) H (fun b w' H1 => hK _ _ ?_); clear hK K; replace H := H1; clear H1; (try clear hc); (try simp only [nrm, splice, Value.cells, Nat.reduceAdd, Act.eval, Act.put] at H); have hc := H.cells; simp only [CellsOf, KnCells, arr_lit, knAt_cons, knAt_nil, Nat.zero_add, Nat.add_zero, Nat.reduceAdd] at hc)))) | go_values | go_skip | go_guarded | go_step | go_upon | go_back | dsimp only)
        go_ret2
        exact ⟨key, cap', rs, fp, hrs, rfl, H.sublist (.cons_cons _ (.cons_cons _ (List.nil_sublist _)))⟩
end Go.Proofs.Ytlikpgidjdjgnaa
