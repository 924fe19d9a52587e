import Derived.Test.YtelddhcggmfloaaCkCg
import Derived.Deep.DeepCutAuto
-- MORE
-- SUB2
namespace Go.Proofs.Ytelddhcggmfloaa
set_option linter.unusedVariables false
set_option linter.unusedSimpArgs false
set_option linter.unnecessarySimpa false
open Go Go.RowKit Go.V

def RevOk (d : Rd) : Prop := (d.hs.list.map KH.rev).Nodup ∧ ∀ h ∈ d.hs.list, h.rev < 9223372036854775807
def SpOne (own : Int) (d : Rd) (last last' : Int) (a q : List Int) : Prop := ∃ zs, SpTold d.hs.list (prsAt d.rv.list d.prs.list) own last last' q zs ∧ a.Perm zs ∧ sortedI a
inductive SpRun (own : Int) : List Rd → List (List Int) → List (List Int) → Int → Prop
  | nil : SpRun own [] [] [] 0
  | snoc {rds : List Rd} {aa qs : List (List Int)} {last last' : Int} {d : Rd} {a q : List Int} (h : SpRun own rds aa qs last) (h1 : SpOne own d last last' a q) : SpRun own (rds ++ [d]) (aa ++ [a]) (qs ++ [q]) last'
def AtBest (n : Nat) (hs : List KH) (last top : Int) (ha : Option Addr) (rb : Nat) (rdv : Obj) (L : List Ent) (w : World) (bv i : Value) (wr : World) : Prop := ∃ (k : Nat) (best : Int), k ≤ n ∧ i = .int .i64 k ∧ bv = .int .i64 best ∧ Hid (BestIs (hs.take k) last top best) ∧ St [] w wr ((false, soft ha (hs.flatMap KH.cells)) :: (false, .is rb rdv) :: L)
def AtSp (hn9 : Nat) (hs : List KH) (P : Int → List Pr) (own last0 : Int) (ha : Option Addr) (rb : Nat) (rdv : Obj) (L : List Ent) (w : World) (lv av qv tv dv : Value) (wr : World) : Prop :=
  ∃ (ka kq : Option Nat) (an ca qn cq : Nat) (dn : Bool) (last top : Int) (q zs : List Int), lv = .int .i64 last ∧ av = sl ka an ca ∧ qv = sl kq qn cq ∧ tv = .int .i64 top ∧ dv = .bool dn ∧ Hid (SpIs hs P own last0 last top q zs dn) ∧ Hid (an = zs.length) ∧ an ≤ 13 ∧ Hid (qn = q.length) ∧ qn + flt hs top ≤ hn9 ∧
  St [] w wr ((true, .row ka 27 1 an ca (zs.map iv)) :: (true, .row kq 2 1 qn cq (q.map i8)) :: (false, soft ha (hs.flatMap KH.cells)) :: (false, .is rb rdv) :: L)
def AtSP (n : Nat) (own : Int) (rds : List Rd) (src : Option Addr) (w : World) (av qv lv i : Value) (wr : World) : Prop := ∃ (j : Nat) (last : Int) (k6 k7 : Option Nat) (c6 c7 : Nat) (aa qs : List SlI), j ≤ n ∧ i = .int .i64 j ∧ lv = .int .i64 last ∧ av = sl k6 j c6 ∧ qv = sl k7 j c7 ∧ Hid (SpRun own (rds.take j) (aa.map SlI.list) (qs.map SlI.list) last) ∧
  St [] w wr [(true, .row k6 32 1 j c6 (aa.map SlI.val)), (true, .row k7 42 1 j c7 (qs.map SlI.val)), (true, bag (aa.map SlI.entA)), (true, bag (qs.map SlI.entQ)), (false, soft src (rds.flatMap Rd.cells))]
theorem sp_done {hs : List KH} {P : Int → List Pr} {own last last' top : Int} {q zs : List Int} (h : SpIs hs P own last last' top q zs true) : SpTold hs P own last last' q zs := by
  rcases h with ⟨h, _⟩ | ⟨_, h⟩
  · cases h
  · exact .inr h
theorem sp_none {hs : List KH} {P : Int → List Pr} {own last last' top : Int} {q zs : List Int} (h : SpIs hs P own last last' top q zs false) (hb : ∀ g ∈ hs, ¬ (last < g.rev ∧ g.rev < top)) : SpTold hs P own last last' q zs := by
  rcases h with ⟨_, h1, h2, hq, h3, h4⟩ | ⟨h, _⟩
  · refine .inl ⟨hq, top, h3, fun g hg hl => ?_, h4, h2, h1⟩
    rcases Int.lt_or_le g.rev top with c | c
    · exact absurd ⟨hl, c⟩ (hb g hg)
    · exact c
  · cases h
theorem rowOf_lies {w : World} : ∀ (vs : List Int) (rs : List (Row Pr)) (x : Int) (_ : ∀ r ∈ rs, Lies w r.at' (r.list.flatMap Pr.cells)), Lies w (rowOf vs rs x).at' ((rowOf vs rs x).list.flatMap Pr.cells)
  | [], _, _, _ => Lies.nil _ _
  | _ :: _, [], _, _ => Lies.nil _ _
  | v :: vs, r :: rs, x, h => by
    unfold rowOf
    split
    · exact h r List.mem_cons_self
    · exact rowOf_lies vs rs x (fun r hr => h r (List.mem_cons_of_mem _ hr))
theorem take_get {l : List KH} {k i : Nat} {g : KH} (h : (l.take k)[i]? = some g) : l[i]? = some g ∧ i < k := by
  rw [List.getElem?_take] at h
  split at h
  · exact ⟨h, by assumption⟩
  · cases h
theorem ckPeers_row (hv : Value) (vs : List Int) (rs : List (Row Pr)) (x : Int) (s1 s2 : Option Addr) (n c d : Nat) (ya : Option Addr) (yn yc : Nat) (yl : List Pr) (hrr : Hid (rowOf vs rs x = ⟨ya, yc, yl⟩)) (hyn : Hid (yl.length = yn)) (hn : Hid (vs.length = n)) (hn2 : Hid (rs.length = n)) (hl : n ≤ 1000) (w : World) (H : St [] w w [(false, soft s1 (vs.map i8)), (false, soft s2 (rs.map Row.val))]) :
    Calls Try.prog 27 #[.agg #[hv, .slice s1 n c, .slice s2 n d], .int .i64 x] w fun e w' => e = .returned (.slice ya yn yc) ∧ Ext [] w w' :=
  (ckPeers_calls hv vs rs x s1 s2 n c d hn hn2 hl w H).mono (fun e w' h => ⟨by rw [h.1, hrr.out, ← hyn.out]; rfl, h.2⟩)
set_option maxRecDepth 10000 in
set_option maxHeartbeats 8000000 in
theorem spec_calls (own : Int) (rds : List Rd) (src : Option Addr) (n c : Nat) (hn : Hid (rds.length = n)) (hl : n ≤ 1000) (w : World) (hR : Hid (∀ d ∈ rds, RdAt w d ∧ RdOk d)) (hM : Hid (∀ d ∈ rds, RevOk d)) (H : St [] w w [(false, soft src (rds.flatMap Rd.cells))]) :
    Calls Try.prog 15 #[.int .u64 own, .slice src n c] w fun e w' => ∃ (k6 k7 : Option Nat) (c6 c7 : Nat) (aa qs : List SlI) (last : Int), Hid (SpRun own rds (aa.map SlI.list) (qs.map SlI.list) last) ∧ e = .returned (.tuple #[sl k6 n c6, sl k7 n c7]) ∧
      St [] w w' [(true, .row k6 32 1 n c6 (aa.map SlI.val)), (true, .row k7 42 1 n c7 (qs.map SlI.val)), (true, bag (aa.map SlI.entA)), (true, bag (qs.map SlI.entQ))] := by
  go_enter Try.func15, Try.ntmps15
  repeat' (first | (go_big_may; (first
    | ((first
        | (refine loud_ rfl ?_; refine wpList_plain rfl (fun K hK => ?_); (first | (refine op_box _ _ rfl H (fun b w' H1 => hK _ _ ?_)) | (refine op_alloc _ rfl (zero_of _ _ rfl) H (fun b w' H1 => hK _ _ ?_)) | (refine op_store _ _ _ rfl rfl rfl H (by repeat (first | exact Split.here _ _ | apply Split.there)) (by kernel_rfl) (by kernel_rfl) (by kernel_rfl) (fun w' H1 => hK _ _ ?_)) | (refine op_buildSlice_all _ _ _ rfl (by first | exact elem25 | exact elem32 | exact elem35 | exact elem36 | exact elem37 | exact elem38 | exact elem41 | exact elem42 | exact elem45 | exact elem57 | exact elem62 | exact elem74 | exact elem98 | exact elem100 | exact elem137 | exact elem178 | exact elem179) (by kernel_rfl) (by kernel_rfl) (by kernel_rfl) H (fun b w' H1 => hK _ _ ?_))); clear hK K; replace H := H1; clear H1)); (try clear hc); (try simp only [nrm, splice, Value.cells, Nat.reduceAdd, Act.eval, Act.put] at H); have hc := H.cells; simp only [CellsOf, KnCells, knc, Nat.reduceAdd] at hc))) | go_values | go_skip | go_guarded | go_step | go_upon | go_back | dsimp only)
  have H0 : St [] w w [(true, .row none 32 1 0 0 (([] : List SlI).map SlI.val)), (true, .row none 42 1 0 0 (([] : List SlI).map SlI.val)), (true, bag (([] : List SlI).map SlI.entA)), (true, bag (([] : List SlI).map SlI.entQ)), (false, soft src (rds.flatMap Rd.cells))] := by
    have H2 := st_fold (X := []) rfl (st_fold (X := []) rfl ((H.nilRow 42 1).nilRow 32 1))
    exact H2.sel (by repeat (first | exact Sel.nil _ | (apply Sel.cons; focus (repeat (first | exact Split.here _ _ | apply Split.there)))))
  clear H
  (try clear hc)
  go_loopw [6, 7, 8, 25] (AtSP n own rds src w) (fun _ _ _ i _ => n - (intOf i).toNat)
  case atStart => exact ⟨0, 0, none, none, 0, 0, [], [], Nat.zero_le _, rfl, rfl, rfl, rfl, .nil, H0⟩
  case round =>
    clear H0
    obtain ⟨j, last0, k6, k7, c6, c7, aa, qs, hj, rfl, rfl, rfl, rfl, hrun, H⟩ := hrel
    by_cases hlt : j < n
    case neg =>
      obtain rfl : j = n := by omega
      rw [List.take_of_length_le (by rw [hn.out]; exact Nat.le_refl _)] at hrun
      have hc := H.cells; simp only [CellsOf, KnCells, knc, Nat.reduceAdd] at hc
      repeat' (first | (go_big_may; (first
    | ((first
        | (refine loud_ rfl ?_; refine wpList_plain rfl (fun K hK => ?_); (first | (refine op_box _ _ rfl H (fun b w' H1 => hK _ _ ?_)) | (refine op_alloc _ rfl (zero_of _ _ rfl) H (fun b w' H1 => hK _ _ ?_)) | (refine op_store _ _ _ rfl rfl rfl H (by repeat (first | exact Split.here _ _ | apply Split.there)) (by kernel_rfl) (by kernel_rfl) (by kernel_rfl) (fun w' H1 => hK _ _ ?_)) | (refine op_buildSlice_all _ _ _ rfl (by first | exact elem25 | exact elem32 | exact elem35 | exact elem36 | exact elem37 | exact elem38 | exact elem41 | exact elem42 | exact elem45 | exact elem57 | exact elem62 | exact elem74 | exact elem98 | exact elem100 | exact elem137 | exact elem178 | exact elem179) (by kernel_rfl) (by kernel_rfl) (by kernel_rfl) H (fun b w' H1 => hK _ _ ?_))); clear hK K; replace H := H1; clear H1)); (try clear hc); (try simp only [nrm, splice, Value.cells, Nat.reduceAdd, Act.eval, Act.put] at H); have hc := H.cells; simp only [CellsOf, KnCells, knc, Nat.reduceAdd] at hc))) | go_values | go_skip | go_guarded | go_step | go_upon | go_back | dsimp only)
      go_ret2
      exact ⟨k6, k7, c6, c7, aa, qs, last0, hrun, rfl, H.sel (by repeat (first | exact Sel.nil _ | (apply Sel.cons; focus (repeat (first | exact Split.here _ _ | apply Split.there)))))⟩
    have hj' : j < rds.length := by rw [hn.out]; exact hlt
    have hcat : Hid (rds.take (j + 1) = rds.take j ++ [rds[j]]) := (List.take_append_getElem hj').symm
    have hd := Lib.hid (hR.out _ (List.getElem_mem hj'))
    have hm := Lib.hid (hM.out _ (List.getElem_mem hj'))
    obtain ⟨b1, o1, rfl, H1⟩ := H.elemSoft (Split.there _ (Split.there _ (Split.there _ (Split.there _ (Split.here _ _))))) (j * 3) (rds[j]).cells (by show 0 < 3; omega) (by rw [rd_cells_len]; show _ + 3 ≤ _; omega) (fun i hi => flat_at Rd.cells 3 rds (fun _ _ => rfl) j i hj' hi)
    clear H
    have H := H1
    clear H1
    generalize rds[j] = d at *
    clear hj'
    obtain ⟨⟨ha, hcp, hsl⟩, ⟨ra, rcp, rl⟩, ⟨pa, pcp, pl⟩⟩ := d
    simp only [Rd.cells, Row.val] at H
    have hh12 : hsl.length ≤ 12 := hd.out.2.1
    have hrp : rl.length = pl.length := hd.out.2.2.1
    have hr12 : rl.length ≤ 12 := hd.out.2.2.2.1
    have hp12 := Lib.hid hd.out.2.2.2.2
    have hnod : Hid ((hsl.map KH.rev).Nodup) := hm.out.1
    have hmax : Hid (∀ h ∈ hsl, h.rev < 9223372036854775807) := hm.out.2
    generalize hhn : hsl.length = hn9 at *
    have hhn2 := Lib.hid hhn
    clear hhn
    generalize hrn : rl.length = rn at *
    have hrn2 := Lib.hid hrn
    clear hrn
    have hpn2 : Hid (pl.length = rn) := hrp.symm
    rw [← hrp] at H
    clear hrp
    replace H := ((H.soft hd.out.1.1).soft hd.out.1.2.1).soft hd.out.1.2.2.1
    simp only at H
    have hc := H.cells; simp only [CellsOf, KnCells, knc, Nat.reduceAdd] at hc
    repeat' (first | (go_big_may; (first
    | ((first
        | (refine loud_ rfl ?_; refine wpList_plain rfl (fun K hK => ?_); (first | (refine op_box _ _ rfl H (fun b w' H1 => hK _ _ ?_)) | (refine op_alloc _ rfl (zero_of _ _ rfl) H (fun b w' H1 => hK _ _ ?_)) | (refine op_store _ _ _ rfl rfl rfl H (by repeat (first | exact Split.here _ _ | apply Split.there)) (by kernel_rfl) (by kernel_rfl) (by kernel_rfl) (fun w' H1 => hK _ _ ?_)) | (refine op_buildSlice_all _ _ _ rfl (by first | exact elem25 | exact elem32 | exact elem35 | exact elem36 | exact elem37 | exact elem38 | exact elem41 | exact elem42 | exact elem45 | exact elem57 | exact elem62 | exact elem74 | exact elem98 | exact elem100 | exact elem137 | exact elem178 | exact elem179) (by kernel_rfl) (by kernel_rfl) (by kernel_rfl) H (fun b w' H1 => hK _ _ ?_))); clear hK K; replace H := H1; clear H1)); (try clear hc); (try simp only [nrm, splice, Value.cells, Nat.reduceAdd, Act.eval, Act.put] at H); have hc := H.cells; simp only [CellsOf, KnCells, knc, Nat.reduceAdd] at hc))) | go_values | go_skip | go_guarded | go_step | go_upon | go_back | dsimp only)
    obtain ⟨rb, rfl⟩ : ∃ q, q = b := ⟨_, rfl⟩
    have H1 := H.ro (k := .is rb _) (by repeat (first | exact Split.here _ _ | apply Split.there))
    (try simp only [List.append, List.cons_append, List.nil_append] at H1)
    have H0 : St [] w w' ((true, .row none 27 1 0 0 (([] : List Int).map iv)) :: (true, .row none 2 1 0 0 (([] : List Int).map i8)) :: (false, soft ha (hsl.flatMap KH.cells)) :: (false, .is rb (rdO (.slice ha hn9 hcp) ra rn rcp pa rn pcp)) :: (false, soft ra (rl.map i8)) :: (false, soft pa (pl.map Row.val)) :: [(true, .row k6 32 1 j c6 (aa.map SlI.val)), (true, .row k7 42 1 j c7 (qs.map SlI.val)), (true, bag (aa.map SlI.entA)), (true, bag (qs.map SlI.entQ)), (false, soft (some ⟨b1, o1, none⟩) (rds.flatMap Rd.cells))]) := ((H1.nilRow 2 1).nilRow 27 1).sel (by repeat (first | exact Sel.nil _ | (apply Sel.cons; focus (repeat (first | exact Split.here _ _ | apply Split.there)))))
    clear H H1 hc
    go_loopw [8, 11, 12, 13, 14] (AtSp hn9 hsl (prsAt rl pl) own last0 ha rb (rdO (.slice ha hn9 hcp) ra rn rcp pa rn pcp) ((false, soft ra (rl.map i8)) :: (false, soft pa (pl.map Row.val)) :: [(true, .row k6 32 1 j c6 (aa.map SlI.val)), (true, .row k7 42 1 j c7 (qs.map SlI.val)), (true, bag (aa.map SlI.entA)), (true, bag (qs.map SlI.entQ)), (false, soft (some ⟨b1, o1, none⟩) (rds.flatMap Rd.cells))]) w) (fun _ _ _ t _ _ => flt hsl (intOf t))
    case atStart => exact ⟨none, none, 0, 0, 0, 0, false, last0, 9223372036854775807, [], [], rfl, rfl, rfl, rfl, rfl, .inl ⟨rfl, rfl, rfl, [], sq_nil hmax.out, rfl⟩, rfl, by omega, rfl, by have := flt_le hsl 9223372036854775807; have := hhn2.out; omega, H0⟩
    case round =>
      clear H0
      obtain ⟨ka, kq, an, ca, qn, cq, dn, last, top, q, zs, rfl, rfl, rfl, rfl, rfl, hsp, han, han13, hqn, hqf, H⟩ := hrel
      cases dn with
      | true =>
        have htold := Lib.hid (sp_done hsp.out)
        replace H := H.rowSoft (key := ka) (by repeat (first | exact Split.here _ _ | apply Split.there))
        (try simp only [List.append, List.cons_append, List.nil_append] at H)
        (try simp only [show sl ka an ca = Value.slice (ka.map fun b => (⟨b, 0, none⟩ : Addr)) an ca from rfl])
        generalize (ka.map fun b => (⟨b, 0, none⟩ : Addr)) = sa at *
        have han2 : Hid (zs.length = an) := han.out.symm
        clear han
        have hc := H.cells; simp only [CellsOf, KnCells, knc, Nat.reduceAdd] at hc
        repeat' (first | (go_big_may; (first
    | go_skip
    | ((first
        | (go_at_call 29; refine Calls.mono (rising_calls zs sa an ca han2 (by omega) _ (H.pick (by repeat (first | exact Picks.nil _ | (apply Picks.wr; focus (repeat (first | exact Split.here _ _ | apply Split.there))) | (apply Picks.rd; focus (repeat (first | exact Split.here _ _ | apply Split.there))))))) ?_; rintro e w' ⟨ls, lcap, lkey, hls, rfl, H'⟩; replace H := H.merge (by first | exact Strikes.nil _ | (repeat (first | exact Strikes.nil _ | (apply Strikes.cons; focus (repeat (first | exact Split.here _ _ | apply Split.there)))))) H' rfl; clear H')
        | (refine loud_ rfl ?_; refine wpList_plain rfl (fun K hK => ?_); (first | (refine op_append_lit _ _ _ rfl elem37 rfl rfl H (by repeat (first | exact Split.here _ _ | apply Split.there)) (by repeat (first | exact Split.here _ _ | apply Split.there)) (by kernel_rfl) (by kernel_rfl) (by omega) (by unfold maxLen; omega) (fun key cap' w' H1 => hK _ _ ?_)) | (refine op_append_lit _ _ _ rfl elem38 rfl rfl H (by repeat (first | exact Split.here _ _ | apply Split.there)) (by repeat (first | exact Split.here _ _ | apply Split.there)) (by kernel_rfl) (by kernel_rfl) (by omega) (by unfold maxLen; omega) (fun key cap' w' H1 => hK _ _ ?_)) | (refine op_box _ _ rfl H (fun b w' H1 => hK _ _ ?_)) | (refine op_alloc _ rfl (zero_of _ _ rfl) H (fun b w' H1 => hK _ _ ?_)) | (refine op_store _ _ _ rfl rfl rfl H (by repeat (first | exact Split.here _ _ | apply Split.there)) (by kernel_rfl) (by kernel_rfl) (by kernel_rfl) (fun w' H1 => hK _ _ ?_)) | (refine op_buildSlice_all _ _ _ rfl (by first | exact elem25 | exact elem32 | exact elem35 | exact elem36 | exact elem37 | exact elem38 | exact elem41 | exact elem42 | exact elem45 | exact elem57 | exact elem62 | exact elem74 | exact elem98 | exact elem100 | exact elem137 | exact elem178 | exact elem179) (by kernel_rfl) (by kernel_rfl) (by kernel_rfl) H (fun b w' H1 => hK _ _ ?_))); clear hK K; replace H := H1; clear H1)); (try clear hc); (try simp only [nrm, splice, Value.cells, Nat.reduceAdd, Act.eval, Act.put] at H); have hc := H.cells; simp only [CellsOf, KnCells, knc, Nat.reduceAdd] at hc))) | go_values | go_skip | go_guarded | go_step | go_upon | go_back | dsimp only)
        have hone : Hid (SpOne own ⟨⟨ha, hcp, hsl⟩, ⟨ra, rcp, rl⟩, ⟨pa, pcp, pl⟩⟩ last0 last ls q) := ⟨zs, htold.out, hls.out.1, hls.out.2.1⟩
        have hal : an = ls.length := hls.out.2.2.symm
        have haq : qn = q.length := hqn.out
        clear han2 han13 hqn hqf
        subst hal haq
        have hrun2 : Hid (SpRun own (rds.take (j + 1)) ((aa ++ [(⟨lkey, lcap, ls⟩ : SlI)]).map SlI.list) ((qs ++ [(⟨kq, cq, q⟩ : SlI)]).map SlI.list) last) := by
          rw [hcat.out, List.map_append, List.map_append]
          exact hrun.out.snoc hone.out
        refine ⟨⟨j + 1, last, _, _, _, _, aa ++ [⟨lkey, lcap, ls⟩], qs ++ [⟨kq, cq, q⟩], by omega, by go_num, rfl, rfl, rfl, hrun2, ?_⟩, by simp [intOf]; omega⟩
        simp only [List.map_append, List.map_cons, List.map_nil]
        have H2 := bag_add (e := SlI.entA ⟨lkey, lcap, ls⟩) rfl (entA_all aa) (H.sel (L' := SlI.entA ⟨lkey, lcap, ls⟩ :: (true, bag (aa.map SlI.entA)) :: [SlI.entQ ⟨kq, cq, q⟩, (true, bag (qs.map SlI.entQ)), (true, .row _ 32 1 (j + 1) _ (aa.map SlI.val ++ [sl lkey ls.length lcap])), (true, .row _ 42 1 (j + 1) _ (qs.map SlI.val ++ [sl kq q.length cq])), (false, soft (some ⟨b1, o1, none⟩) (rds.flatMap Rd.cells))]) (by repeat (first | exact Sel.nil _ | (apply Sel.cons; focus (repeat (first | exact Split.here _ _ | apply Split.there))))))
        have H3 := bag_add (e := SlI.entQ ⟨kq, cq, q⟩) rfl (entQ_all qs) (H2.sel (L' := SlI.entQ ⟨kq, cq, q⟩ :: (true, bag (qs.map SlI.entQ)) :: [(true, bag (aa.map SlI.entA ++ [SlI.entA ⟨lkey, lcap, ls⟩])), (true, .row _ 32 1 (j + 1) _ (aa.map SlI.val ++ [sl lkey ls.length lcap])), (true, .row _ 42 1 (j + 1) _ (qs.map SlI.val ++ [sl kq q.length cq])), (false, soft (some ⟨b1, o1, none⟩) (rds.flatMap Rd.cells))]) (by repeat (first | exact Sel.nil _ | (apply Sel.cons; focus (repeat (first | exact Split.here _ _ | apply Split.there))))))
        exact H3.sel (by repeat (first | exact Sel.nil _ | (apply Sel.cons; focus (repeat (first | exact Split.here _ _ | apply Split.there)))))
      | false =>
        have hl0 : last = last0 := by
          rcases hsp.out with ⟨_, h, _⟩ | ⟨h, _⟩
          · exact h
          · cases h
        subst hl0
        have hc := H.cells; simp only [CellsOf, KnCells, knc, Nat.reduceAdd] at hc
        repeat' (first | (go_big_may; (first
    | ((first
        | (refine loud_ rfl ?_; refine wpList_plain rfl (fun K hK => ?_); (first | (refine op_box _ _ rfl H (fun b w' H1 => hK _ _ ?_)) | (refine op_alloc _ rfl (zero_of _ _ rfl) H (fun b w' H1 => hK _ _ ?_)) | (refine op_store _ _ _ rfl rfl rfl H (by repeat (first | exact Split.here _ _ | apply Split.there)) (by kernel_rfl) (by kernel_rfl) (by kernel_rfl) (fun w' H1 => hK _ _ ?_)) | (refine op_buildSlice_all _ _ _ rfl (by first | exact elem25 | exact elem32 | exact elem35 | exact elem36 | exact elem37 | exact elem38 | exact elem41 | exact elem42 | exact elem45 | exact elem57 | exact elem62 | exact elem74 | exact elem98 | exact elem100 | exact elem137 | exact elem178 | exact elem179) (by kernel_rfl) (by kernel_rfl) (by kernel_rfl) H (fun b w' H1 => hK _ _ ?_))); clear hK K; replace H := H1; clear H1)); (try clear hc); (try simp only [nrm, splice, Value.cells, Nat.reduceAdd, Act.eval, Act.put] at H); have hc := H.cells; simp only [CellsOf, KnCells, knc, Nat.reduceAdd] at hc))) | go_values | go_skip | go_guarded | go_step | go_upon | go_back | dsimp only)
        have H0 : St [] w wr ((false, soft ha (hsl.flatMap KH.cells)) :: (false, .is rb (rdO (.slice ha hn9 hcp) ra rn rcp pa rn pcp)) :: (true, .row ka 27 1 an ca (zs.map iv)) :: (true, .row kq 2 1 qn cq (q.map i8)) :: (false, soft ra (rl.map i8)) :: (false, soft pa (pl.map Row.val)) :: [(true, .row k6 32 1 j c6 (aa.map SlI.val)), (true, .row k7 42 1 j c7 (qs.map SlI.val)), (true, bag (aa.map SlI.entA)), (true, bag (qs.map SlI.entQ)), (false, soft (some ⟨b1, o1, none⟩) (rds.flatMap Rd.cells))]) := H.sel (by repeat (first | exact Sel.nil _ | (apply Sel.cons; focus (repeat (first | exact Split.here _ _ | apply Split.there)))))
        clear H
        (try clear hc)
        go_loopw [15, 34] (AtBest hn9 hsl last top ha rb (rdO (.slice ha hn9 hcp) ra rn rcp pa rn pcp) ((true, .row ka 27 1 an ca (zs.map iv)) :: (true, .row kq 2 1 qn cq (q.map i8)) :: (false, soft ra (rl.map i8)) :: (false, soft pa (pl.map Row.val)) :: [(true, .row k6 32 1 j c6 (aa.map SlI.val)), (true, .row k7 42 1 j c7 (qs.map SlI.val)), (true, bag (aa.map SlI.entA)), (true, bag (qs.map SlI.entQ)), (false, soft (some ⟨b1, o1, none⟩) (rds.flatMap Rd.cells))]) w) (fun _ i _ => hn9 - (intOf i).toNat)
        case atStart => exact ⟨0, -1, Nat.zero_le _, rfl, rfl, .inl ⟨rfl, by simp⟩, H0⟩
        case round =>
          clear H0
          obtain ⟨k, best, hk, rfl, rfl, hbest, H⟩ := hrel
          by_cases hlt2 : k < hn9
          · have hk' : k < hsl.length := by rw [hhn2.out]; exact hlt2
            have hcat2 : Hid (hsl.take (k + 1) = hsl.take k ++ [hsl[k]]) := (List.take_append_getElem hk').symm
            have htk : Hid ((hsl.take k).length = k) := by show _ = _; rw [List.length_take]; omega
            obtain ⟨b2, o2, rfl, H1⟩ := H.elemSoft (Split.here _ _) (k * 3) (hsl[k]).cells (by show 0 < 3; omega) (by rw [kh_flat]; show _ + 3 ≤ _; omega) (fun i hi => flat_at KH.cells 3 hsl (fun _ _ => rfl) k i hk' hi)
            clear H
            have H := H1
            clear H1
            generalize hsl[k] = h at *
            obtain ⟨fh, fc, fr⟩ := h
            simp only [KH.cells] at H
            clear hk'
            by_cases c1 : last < fr
            case neg =>
              have hb2 := Lib.hid (best_out (h := ⟨fh, fc, fr⟩) hbest.out (fun hh => c1 hh.1))
              have hc := H.cells; simp only [CellsOf, KnCells, knc, Nat.reduceAdd] at hc
              repeat' (first | (go_big_may; (first
    | ((first
        | (refine loud_ rfl ?_; refine wpList_plain rfl (fun K hK => ?_); (first | (refine op_box _ _ rfl H (fun b w' H1 => hK _ _ ?_)) | (refine op_alloc _ rfl (zero_of _ _ rfl) H (fun b w' H1 => hK _ _ ?_)) | (refine op_store _ _ _ rfl rfl rfl H (by repeat (first | exact Split.here _ _ | apply Split.there)) (by kernel_rfl) (by kernel_rfl) (by kernel_rfl) (fun w' H1 => hK _ _ ?_)) | (refine op_buildSlice_all _ _ _ rfl (by first | exact elem25 | exact elem32 | exact elem35 | exact elem36 | exact elem37 | exact elem38 | exact elem41 | exact elem42 | exact elem45 | exact elem57 | exact elem62 | exact elem74 | exact elem98 | exact elem100 | exact elem137 | exact elem178 | exact elem179) (by kernel_rfl) (by kernel_rfl) (by kernel_rfl) H (fun b w' H1 => hK _ _ ?_))); clear hK K; replace H := H1; clear H1)); (try clear hc); (try simp only [nrm, splice, Value.cells, Nat.reduceAdd, Act.eval, Act.put] at H); have hc := H.cells; simp only [CellsOf, KnCells, knc, Nat.reduceAdd] at hc))) | go_values | go_skip | go_guarded | go_step | go_upon | go_back | dsimp only)
              (try simp only [Act.put, slt])
              refine wp_region_plan (.p [0] (.q [1] (.p [2, 3, 4, 5] (.q [6] (.p [7, 8, 9, 10, 11, 12, 13, 14] (.q [15] (.p [16] (.q [17] (.p [18, 19, 20] (.q [21] (.p [22, 23, 24] .done))))))))))) [] (by kernel_rfl) (by kernel_rfl) (fun _ _ d _ _ h => by cases d <;> exact h) H ?_
              clear H
              (try clear hc)
              intro X nX fX wd hcf hS H
              simp only [CellsOf, KnCells, knc, Nat.reduceAdd] at hcf
              have hc := H.cells
              simp only [CellsOf, KnCells, knc, Nat.reduceAdd] at hc
              iterate 1 (refine plan_p (o := ⟨_, _, _, _, _, _⟩) rfl (fun N hN => ?_); go_big_quiet_step (fail); refine wpQuiet_nil (hN _ ?_); clear hN N)
              refine plan_p0 ?_
              iterate 1 (refine plan_q (o := ⟨_, _, _, _, _, _⟩) rfl (fun N hN => ?_); go_big_quiet_step (fail); refine wpQuiet_nil (hN _ ?_); clear hN N)
              refine plan_q0 ?_
              iterate 3 (refine plan_p (o := ⟨_, _, _, _, _, _⟩) rfl (fun N hN => ?_); go_big_quiet_step (fail); refine wpQuiet_nil (hN _ ?_); clear hN N)
              first | (refine plan_p_no (o := ⟨_, _, _, _, _, _⟩) rfl rfl rfl rfl (by first | rfl | (simp; omega)) ?_; (try simp only [Act.put, slt])) | (iterate 1 (refine plan_p (o := ⟨_, _, _, _, _, _⟩) rfl (fun N hN => ?_); go_big_quiet_step (fail); refine wpQuiet_nil (hN _ ?_); clear hN N))
              refine plan_p0 ?_
              first | (refine plan_q_no (o := ⟨_, _, _, _, _, _⟩) rfl rfl rfl rfl (by first | rfl | (simp; omega)) ?_; (try simp only [Act.put, slt])) | (iterate 1 (refine plan_q (o := ⟨_, _, _, _, _, _⟩) rfl (fun N hN => ?_); go_big_quiet_step (fail); refine wpQuiet_nil (hN _ ?_); clear hN N))
              refine plan_q0 ?_
              first | (refine plan_p_no (o := ⟨_, _, _, _, _, _⟩) rfl rfl rfl rfl (by first | rfl | (simp; omega)) ?_; (try simp only [Act.put, slt])) | (iterate 1 (refine plan_p (o := ⟨_, _, _, _, _, _⟩) rfl (fun N hN => ?_); go_big_quiet_step (fail); refine wpQuiet_nil (hN _ ?_); clear hN N))
              first | (refine plan_p_no (o := ⟨_, _, _, _, _, _⟩) rfl rfl rfl rfl (by first | rfl | (simp; omega)) ?_; (try simp only [Act.put, slt])) | (iterate 1 (refine plan_p (o := ⟨_, _, _, _, _, _⟩) rfl (fun N hN => ?_); go_big_quiet_step (fail); refine wpQuiet_nil (hN _ ?_); clear hN N))
              iterate 2 (refine plan_p (o := ⟨_, _, _, _, _, _⟩) rfl (fun N hN => ?_); go_big_quiet_step (fail); refine wpQuiet_nil (hN _ ?_); clear hN N)
              first | (refine plan_p_no (o := ⟨_, _, _, _, _, _⟩) rfl rfl rfl rfl (by first | rfl | (simp; omega)) ?_; (try simp only [Act.put, slt])) | (iterate 1 (refine plan_p (o := ⟨_, _, _, _, _, _⟩) rfl (fun N hN => ?_); go_big_quiet_step (fail); refine wpQuiet_nil (hN _ ?_); clear hN N))
              first | (refine plan_p_no (o := ⟨_, _, _, _, _, _⟩) rfl rfl rfl rfl (by first | rfl | (simp; omega)) ?_; (try simp only [Act.put, slt])) | (iterate 1 (refine plan_p (o := ⟨_, _, _, _, _, _⟩) rfl (fun N hN => ?_); go_big_quiet_step (fail); refine wpQuiet_nil (hN _ ?_); clear hN N))
              first | (refine plan_p_no (o := ⟨_, _, _, _, _, _⟩) rfl rfl rfl rfl (by first | rfl | (simp; omega)) ?_; (try simp only [Act.put, slt])) | (iterate 1 (refine plan_p (o := ⟨_, _, _, _, _, _⟩) rfl (fun N hN => ?_); go_big_quiet_step (fail); refine wpQuiet_nil (hN _ ?_); clear hN N))
              first | (refine plan_p_no (o := ⟨_, _, _, _, _, _⟩) rfl rfl rfl rfl (by first | rfl | (simp; omega)) ?_; (try simp only [Act.put, slt])) | (iterate 1 (refine plan_p (o := ⟨_, _, _, _, _, _⟩) rfl (fun N hN => ?_); go_big_quiet_step (fail); refine wpQuiet_nil (hN _ ?_); clear hN N))
              refine plan_p0 ?_
              first | (refine plan_q_no (o := ⟨_, _, _, _, _, _⟩) rfl rfl rfl rfl (by first | rfl | (simp; omega)) ?_; (try simp only [Act.put, slt])) | (iterate 1 (refine plan_q (o := ⟨_, _, _, _, _, _⟩) rfl (fun N hN => ?_); go_big_quiet_step (fail); refine wpQuiet_nil (hN _ ?_); clear hN N))
              refine plan_q0 ?_
              first | (refine plan_p_no (o := ⟨_, _, _, _, _, _⟩) rfl rfl rfl rfl (by first | rfl | (simp; omega)) ?_; (try simp only [Act.put, slt])) | (iterate 1 (refine plan_p (o := ⟨_, _, _, _, _, _⟩) rfl (fun N hN => ?_); go_big_quiet_step (fail); refine wpQuiet_nil (hN _ ?_); clear hN N))
              refine plan_p0 ?_
              first | (refine plan_q_no (o := ⟨_, _, _, _, _, _⟩) rfl rfl rfl rfl (by first | rfl | (simp; omega)) ?_; (try simp only [Act.put, slt])) | (iterate 1 (refine plan_q (o := ⟨_, _, _, _, _, _⟩) rfl (fun N hN => ?_); go_big_quiet_step (fail); refine wpQuiet_nil (hN _ ?_); clear hN N))
              refine plan_q0 ?_
              first | (refine plan_p_no (o := ⟨_, _, _, _, _, _⟩) rfl rfl rfl rfl (by first | rfl | (simp; omega)) ?_; (try simp only [Act.put, slt])) | (iterate 1 (refine plan_p (o := ⟨_, _, _, _, _, _⟩) rfl (fun N hN => ?_); go_big_quiet_step (fail); refine wpQuiet_nil (hN _ ?_); clear hN N))
              first | (refine plan_p_no (o := ⟨_, _, _, _, _, _⟩) rfl rfl rfl rfl (by first | rfl | (simp; omega)) ?_; (try simp only [Act.put, slt])) | (iterate 1 (refine plan_p (o := ⟨_, _, _, _, _, _⟩) rfl (fun N hN => ?_); go_big_quiet_step (fail); refine wpQuiet_nil (hN _ ?_); clear hN N))
              first | (refine plan_p_no (o := ⟨_, _, _, _, _, _⟩) rfl rfl rfl rfl (by first | rfl | (simp; omega)) ?_; (try simp only [Act.put, slt])) | (iterate 1 (refine plan_p (o := ⟨_, _, _, _, _, _⟩) rfl (fun N hN => ?_); go_big_quiet_step (fail); refine wpQuiet_nil (hN _ ?_); clear hN N))
              refine plan_p0 ?_
              first | (refine plan_q_no (o := ⟨_, _, _, _, _, _⟩) rfl rfl rfl rfl (by first | rfl | (simp; omega)) ?_; (try simp only [Act.put, slt])) | (iterate 1 (refine plan_q (o := ⟨_, _, _, _, _, _⟩) rfl (fun N hN => ?_); go_big_quiet_step (fail); refine wpQuiet_nil (hN _ ?_); clear hN N))
              refine plan_q0 ?_
              first | (refine plan_p_no (o := ⟨_, _, _, _, _, _⟩) rfl rfl rfl rfl (by first | rfl | (simp; omega)) ?_; (try simp only [Act.put, slt])) | (iterate 1 (refine plan_p (o := ⟨_, _, _, _, _, _⟩) rfl (fun N hN => ?_); go_big_quiet_step (fail); refine wpQuiet_nil (hN _ ?_); clear hN N))
              first | (refine plan_p_no (o := ⟨_, _, _, _, _, _⟩) rfl rfl rfl rfl (by first | rfl | (simp; omega)) ?_; (try simp only [Act.put, slt])) | (iterate 1 (refine plan_p (o := ⟨_, _, _, _, _, _⟩) rfl (fun N hN => ?_); go_big_quiet_step (fail); refine wpQuiet_nil (hN _ ?_); clear hN N))
              iterate 1 (refine plan_p (o := ⟨_, _, _, _, _, _⟩) rfl (fun N hN => ?_); go_big_quiet_step (fail); refine wpQuiet_nil (hN _ ?_); clear hN N)
              refine plan_p0 ?_
              refine plan_done ?_
              repeat' (first | (go_big_may; (first
    | ((first
        | (refine loud_ rfl ?_; refine wpList_plain rfl (fun K hK => ?_); (first | (refine op_box _ _ rfl H (fun b w' H1 => hK _ _ ?_)) | (refine op_alloc _ rfl (zero_of _ _ rfl) H (fun b w' H1 => hK _ _ ?_)) | (refine op_store _ _ _ rfl rfl rfl H (by repeat (first | exact Split.here _ _ | apply Split.there)) (by kernel_rfl) (by kernel_rfl) (by kernel_rfl) (fun w' H1 => hK _ _ ?_)) | (refine op_buildSlice_all _ _ _ rfl (by first | exact elem25 | exact elem32 | exact elem35 | exact elem36 | exact elem37 | exact elem38 | exact elem41 | exact elem42 | exact elem45 | exact elem57 | exact elem62 | exact elem74 | exact elem98 | exact elem100 | exact elem137 | exact elem178 | exact elem179) (by kernel_rfl) (by kernel_rfl) (by kernel_rfl) H (fun b w' H1 => hK _ _ ?_))); clear hK K; replace H := H1; clear H1)); (try clear hc); (try simp only [nrm, splice, Value.cells, Nat.reduceAdd, Act.eval, Act.put] at H); have hc := H.cells; simp only [CellsOf, KnCells, knc, Nat.reduceAdd] at hc))) | go_values | go_skip | go_guarded | go_step | go_upon | go_back | dsimp only)
              refine ⟨⟨k + 1, best, by omega, by go_num, rfl, by show BestIs _ _ _ _; rw [hcat2.out]; exact hb2.out, H.sel (by repeat (first | exact Sel.nil _ | (apply Sel.cons; focus (repeat (first | exact Split.here _ _ | apply Split.there)))))⟩, by simp [intOf]; omega⟩
            by_cases c2 : fr < top
            case neg =>
              have hb2 := Lib.hid (best_out (h := ⟨fh, fc, fr⟩) hbest.out (fun hh => c2 hh.2))
              have hc := H.cells; simp only [CellsOf, KnCells, knc, Nat.reduceAdd] at hc
              repeat' (first | (go_big_may; (first
    | ((first
        | (refine loud_ rfl ?_; refine wpList_plain rfl (fun K hK => ?_); (first | (refine op_box _ _ rfl H (fun b w' H1 => hK _ _ ?_)) | (refine op_alloc _ rfl (zero_of _ _ rfl) H (fun b w' H1 => hK _ _ ?_)) | (refine op_store _ _ _ rfl rfl rfl H (by repeat (first | exact Split.here _ _ | apply Split.there)) (by kernel_rfl) (by kernel_rfl) (by kernel_rfl) (fun w' H1 => hK _ _ ?_)) | (refine op_buildSlice_all _ _ _ rfl (by first | exact elem25 | exact elem32 | exact elem35 | exact elem36 | exact elem37 | exact elem38 | exact elem41 | exact elem42 | exact elem45 | exact elem57 | exact elem62 | exact elem74 | exact elem98 | exact elem100 | exact elem137 | exact elem178 | exact elem179) (by kernel_rfl) (by kernel_rfl) (by kernel_rfl) H (fun b w' H1 => hK _ _ ?_))); clear hK K; replace H := H1; clear H1)); (try clear hc); (try simp only [nrm, splice, Value.cells, Nat.reduceAdd, Act.eval, Act.put] at H); have hc := H.cells; simp only [CellsOf, KnCells, knc, Nat.reduceAdd] at hc))) | go_values | go_skip | go_guarded | go_step | go_upon | go_back | dsimp only)
              (try simp only [Act.put, slt])
              refine wp_region_plan (.p [0] (.q [1] (.p [2, 3, 4, 5] (.q [6] (.p [7, 8, 9, 10, 11, 12, 13, 14] (.q [15] (.p [16] (.q [17] (.p [18, 19, 20] (.q [21] (.p [22, 23, 24] .done))))))))))) [] (by kernel_rfl) (by kernel_rfl) (fun _ _ d _ _ h => by cases d <;> exact h) H ?_
              clear H
              (try clear hc)
              intro X nX fX wd hcf hS H
              simp only [CellsOf, KnCells, knc, Nat.reduceAdd] at hcf
              have hc := H.cells
              simp only [CellsOf, KnCells, knc, Nat.reduceAdd] at hc
              iterate 1 (refine plan_p (o := ⟨_, _, _, _, _, _⟩) rfl (fun N hN => ?_); go_big_quiet_step (fail); refine wpQuiet_nil (hN _ ?_); clear hN N)
              refine plan_p0 ?_
              iterate 1 (refine plan_q (o := ⟨_, _, _, _, _, _⟩) rfl (fun N hN => ?_); go_big_quiet_step (fail); refine wpQuiet_nil (hN _ ?_); clear hN N)
              refine plan_q0 ?_
              iterate 3 (refine plan_p (o := ⟨_, _, _, _, _, _⟩) rfl (fun N hN => ?_); go_big_quiet_step (fail); refine wpQuiet_nil (hN _ ?_); clear hN N)
              first | (refine plan_p_no (o := ⟨_, _, _, _, _, _⟩) rfl rfl rfl rfl (by first | rfl | (simp; omega)) ?_; (try simp only [Act.put, slt])) | (iterate 1 (refine plan_p (o := ⟨_, _, _, _, _, _⟩) rfl (fun N hN => ?_); go_big_quiet_step (fail); refine wpQuiet_nil (hN _ ?_); clear hN N))
              refine plan_p0 ?_
              first | (refine plan_q_no (o := ⟨_, _, _, _, _, _⟩) rfl rfl rfl rfl (by first | rfl | (simp; omega)) ?_; (try simp only [Act.put, slt])) | (iterate 1 (refine plan_q (o := ⟨_, _, _, _, _, _⟩) rfl (fun N hN => ?_); go_big_quiet_step (fail); refine wpQuiet_nil (hN _ ?_); clear hN N))
              refine plan_q0 ?_
              first | (refine plan_p_no (o := ⟨_, _, _, _, _, _⟩) rfl rfl rfl rfl (by first | rfl | (simp; omega)) ?_; (try simp only [Act.put, slt])) | (iterate 1 (refine plan_p (o := ⟨_, _, _, _, _, _⟩) rfl (fun N hN => ?_); go_big_quiet_step (fail); refine wpQuiet_nil (hN _ ?_); clear hN N))
              first | (refine plan_p_no (o := ⟨_, _, _, _, _, _⟩) rfl rfl rfl rfl (by first | rfl | (simp; omega)) ?_; (try simp only [Act.put, slt])) | (iterate 1 (refine plan_p (o := ⟨_, _, _, _, _, _⟩) rfl (fun N hN => ?_); go_big_quiet_step (fail); refine wpQuiet_nil (hN _ ?_); clear hN N))
              iterate 2 (refine plan_p (o := ⟨_, _, _, _, _, _⟩) rfl (fun N hN => ?_); go_big_quiet_step (fail); refine wpQuiet_nil (hN _ ?_); clear hN N)
              first | (refine plan_p_no (o := ⟨_, _, _, _, _, _⟩) rfl rfl rfl rfl (by first | rfl | (simp; omega)) ?_; (try simp only [Act.put, slt])) | (iterate 1 (refine plan_p (o := ⟨_, _, _, _, _, _⟩) rfl (fun N hN => ?_); go_big_quiet_step (fail); refine wpQuiet_nil (hN _ ?_); clear hN N))
              first | (refine plan_p_no (o := ⟨_, _, _, _, _, _⟩) rfl rfl rfl rfl (by first | rfl | (simp; omega)) ?_; (try simp only [Act.put, slt])) | (iterate 1 (refine plan_p (o := ⟨_, _, _, _, _, _⟩) rfl (fun N hN => ?_); go_big_quiet_step (fail); refine wpQuiet_nil (hN _ ?_); clear hN N))
              first | (refine plan_p_no (o := ⟨_, _, _, _, _, _⟩) rfl rfl rfl rfl (by first | rfl | (simp; omega)) ?_; (try simp only [Act.put, slt])) | (iterate 1 (refine plan_p (o := ⟨_, _, _, _, _, _⟩) rfl (fun N hN => ?_); go_big_quiet_step (fail); refine wpQuiet_nil (hN _ ?_); clear hN N))
              first | (refine plan_p_no (o := ⟨_, _, _, _, _, _⟩) rfl rfl rfl rfl (by first | rfl | (simp; omega)) ?_; (try simp only [Act.put, slt])) | (iterate 1 (refine plan_p (o := ⟨_, _, _, _, _, _⟩) rfl (fun N hN => ?_); go_big_quiet_step (fail); refine wpQuiet_nil (hN _ ?_); clear hN N))
              refine plan_p0 ?_
              first | (refine plan_q_no (o := ⟨_, _, _, _, _, _⟩) rfl rfl rfl rfl (by first | rfl | (simp; omega)) ?_; (try simp only [Act.put, slt])) | (iterate 1 (refine plan_q (o := ⟨_, _, _, _, _, _⟩) rfl (fun N hN => ?_); go_big_quiet_step (fail); refine wpQuiet_nil (hN _ ?_); clear hN N))
              refine plan_q0 ?_
              first | (refine plan_p_no (o := ⟨_, _, _, _, _, _⟩) rfl rfl rfl rfl (by first | rfl | (simp; omega)) ?_; (try simp only [Act.put, slt])) | (iterate 1 (refine plan_p (o := ⟨_, _, _, _, _, _⟩) rfl (fun N hN => ?_); go_big_quiet_step (fail); refine wpQuiet_nil (hN _ ?_); clear hN N))
              refine plan_p0 ?_
              first | (refine plan_q_no (o := ⟨_, _, _, _, _, _⟩) rfl rfl rfl rfl (by first | rfl | (simp; omega)) ?_; (try simp only [Act.put, slt])) | (iterate 1 (refine plan_q (o := ⟨_, _, _, _, _, _⟩) rfl (fun N hN => ?_); go_big_quiet_step (fail); refine wpQuiet_nil (hN _ ?_); clear hN N))
              refine plan_q0 ?_
              first | (refine plan_p_no (o := ⟨_, _, _, _, _, _⟩) rfl rfl rfl rfl (by first | rfl | (simp; omega)) ?_; (try simp only [Act.put, slt])) | (iterate 1 (refine plan_p (o := ⟨_, _, _, _, _, _⟩) rfl (fun N hN => ?_); go_big_quiet_step (fail); refine wpQuiet_nil (hN _ ?_); clear hN N))
              first | (refine plan_p_no (o := ⟨_, _, _, _, _, _⟩) rfl rfl rfl rfl (by first | rfl | (simp; omega)) ?_; (try simp only [Act.put, slt])) | (iterate 1 (refine plan_p (o := ⟨_, _, _, _, _, _⟩) rfl (fun N hN => ?_); go_big_quiet_step (fail); refine wpQuiet_nil (hN _ ?_); clear hN N))
              first | (refine plan_p_no (o := ⟨_, _, _, _, _, _⟩) rfl rfl rfl rfl (by first | rfl | (simp; omega)) ?_; (try simp only [Act.put, slt])) | (iterate 1 (refine plan_p (o := ⟨_, _, _, _, _, _⟩) rfl (fun N hN => ?_); go_big_quiet_step (fail); refine wpQuiet_nil (hN _ ?_); clear hN N))
              refine plan_p0 ?_
              first | (refine plan_q_no (o := ⟨_, _, _, _, _, _⟩) rfl rfl rfl rfl (by first | rfl | (simp; omega)) ?_; (try simp only [Act.put, slt])) | (iterate 1 (refine plan_q (o := ⟨_, _, _, _, _, _⟩) rfl (fun N hN => ?_); go_big_quiet_step (fail); refine wpQuiet_nil (hN _ ?_); clear hN N))
              refine plan_q0 ?_
              first | (refine plan_p_no (o := ⟨_, _, _, _, _, _⟩) rfl rfl rfl rfl (by first | rfl | (simp; omega)) ?_; (try simp only [Act.put, slt])) | (iterate 1 (refine plan_p (o := ⟨_, _, _, _, _, _⟩) rfl (fun N hN => ?_); go_big_quiet_step (fail); refine wpQuiet_nil (hN _ ?_); clear hN N))
              first | (refine plan_p_no (o := ⟨_, _, _, _, _, _⟩) rfl rfl rfl rfl (by first | rfl | (simp; omega)) ?_; (try simp only [Act.put, slt])) | (iterate 1 (refine plan_p (o := ⟨_, _, _, _, _, _⟩) rfl (fun N hN => ?_); go_big_quiet_step (fail); refine wpQuiet_nil (hN _ ?_); clear hN N))
              iterate 1 (refine plan_p (o := ⟨_, _, _, _, _, _⟩) rfl (fun N hN => ?_); go_big_quiet_step (fail); refine wpQuiet_nil (hN _ ?_); clear hN N)
              refine plan_p0 ?_
              refine plan_done ?_
              repeat' (first | (go_big_may; (first
    | ((first
        | (refine loud_ rfl ?_; refine wpList_plain rfl (fun K hK => ?_); (first | (refine op_box _ _ rfl H (fun b w' H1 => hK _ _ ?_)) | (refine op_alloc _ rfl (zero_of _ _ rfl) H (fun b w' H1 => hK _ _ ?_)) | (refine op_store _ _ _ rfl rfl rfl H (by repeat (first | exact Split.here _ _ | apply Split.there)) (by kernel_rfl) (by kernel_rfl) (by kernel_rfl) (fun w' H1 => hK _ _ ?_)) | (refine op_buildSlice_all _ _ _ rfl (by first | exact elem25 | exact elem32 | exact elem35 | exact elem36 | exact elem37 | exact elem38 | exact elem41 | exact elem42 | exact elem45 | exact elem57 | exact elem62 | exact elem74 | exact elem98 | exact elem100 | exact elem137 | exact elem178 | exact elem179) (by kernel_rfl) (by kernel_rfl) (by kernel_rfl) H (fun b w' H1 => hK _ _ ?_))); clear hK K; replace H := H1; clear H1)); (try clear hc); (try simp only [nrm, splice, Value.cells, Nat.reduceAdd, Act.eval, Act.put] at H); have hc := H.cells; simp only [CellsOf, KnCells, knc, Nat.reduceAdd] at hc))) | go_values | go_skip | go_guarded | go_step | go_upon | go_back | dsimp only)
              refine ⟨⟨k + 1, best, by omega, by go_num, rfl, by show BestIs _ _ _ _; rw [hcat2.out]; exact hb2.out, H.sel (by repeat (first | exact Sel.nil _ | (apply Sel.cons; focus (repeat (first | exact Split.here _ _ | apply Split.there)))))⟩, by simp [intOf]; omega⟩
            rcases hbest.out with ⟨rfl, hno⟩ | ⟨i, g, rfl, hgi, hg1, hg2, hg3⟩
            · have hb2 := Lib.hid (best_new (h := ⟨fh, fc, fr⟩) htk.out hbest.out c1 c2 (fun i g e => by omega))
              replace hno := Lib.hid hno
              have hc := H.cells; simp only [CellsOf, KnCells, knc, Nat.reduceAdd] at hc
              repeat' (first | (go_big_may; (first
    | ((first
        | (refine loud_ rfl ?_; refine wpList_plain rfl (fun K hK => ?_); (first | (refine op_box _ _ rfl H (fun b w' H1 => hK _ _ ?_)) | (refine op_alloc _ rfl (zero_of _ _ rfl) H (fun b w' H1 => hK _ _ ?_)) | (refine op_store _ _ _ rfl rfl rfl H (by repeat (first | exact Split.here _ _ | apply Split.there)) (by kernel_rfl) (by kernel_rfl) (by kernel_rfl) (fun w' H1 => hK _ _ ?_)) | (refine op_buildSlice_all _ _ _ rfl (by first | exact elem25 | exact elem32 | exact elem35 | exact elem36 | exact elem37 | exact elem38 | exact elem41 | exact elem42 | exact elem45 | exact elem57 | exact elem62 | exact elem74 | exact elem98 | exact elem100 | exact elem137 | exact elem178 | exact elem179) (by kernel_rfl) (by kernel_rfl) (by kernel_rfl) H (fun b w' H1 => hK _ _ ?_))); clear hK K; replace H := H1; clear H1)); (try clear hc); (try simp only [nrm, splice, Value.cells, Nat.reduceAdd, Act.eval, Act.put] at H); have hc := H.cells; simp only [CellsOf, KnCells, knc, Nat.reduceAdd] at hc))) | go_values | go_skip | go_guarded | go_step | go_upon | go_back | dsimp only)
              (try simp only [Act.put, slt])
              refine wp_region_plan (.p [0] (.q [1] (.p [2, 3, 4, 5] (.q [6] (.p [7, 8, 9, 10, 11, 12, 13, 14] (.q [15] (.p [16] (.q [17] (.p [18, 19, 20] (.q [21] (.p [22, 23, 24] .done))))))))))) [] (by kernel_rfl) (by kernel_rfl) (fun _ _ d _ _ h => by cases d <;> exact h) H ?_
              clear H
              (try clear hc)
              intro X nX fX wd hcf hS H
              simp only [CellsOf, KnCells, knc, Nat.reduceAdd] at hcf
              have hc := H.cells
              simp only [CellsOf, KnCells, knc, Nat.reduceAdd] at hc
              iterate 1 (refine plan_p (o := ⟨_, _, _, _, _, _⟩) rfl (fun N hN => ?_); go_big_quiet_step (fail); refine wpQuiet_nil (hN _ ?_); clear hN N)
              refine plan_p0 ?_
              iterate 1 (refine plan_q (o := ⟨_, _, _, _, _, _⟩) rfl (fun N hN => ?_); go_big_quiet_step (fail); refine wpQuiet_nil (hN _ ?_); clear hN N)
              refine plan_q0 ?_
              iterate 3 (refine plan_p (o := ⟨_, _, _, _, _, _⟩) rfl (fun N hN => ?_); go_big_quiet_step (fail); refine wpQuiet_nil (hN _ ?_); clear hN N)
              first | (refine plan_p_no (o := ⟨_, _, _, _, _, _⟩) rfl rfl rfl rfl (by first | rfl | (simp; omega)) ?_; (try simp only [Act.put, slt])) | (iterate 1 (refine plan_p (o := ⟨_, _, _, _, _, _⟩) rfl (fun N hN => ?_); go_big_quiet_step (fail); refine wpQuiet_nil (hN _ ?_); clear hN N))
              refine plan_p0 ?_
              first | (refine plan_q_no (o := ⟨_, _, _, _, _, _⟩) rfl rfl rfl rfl (by first | rfl | (simp; omega)) ?_; (try simp only [Act.put, slt])) | (iterate 1 (refine plan_q (o := ⟨_, _, _, _, _, _⟩) rfl (fun N hN => ?_); go_big_quiet_step (fail); refine wpQuiet_nil (hN _ ?_); clear hN N))
              refine plan_q0 ?_
              first | (refine plan_p_no (o := ⟨_, _, _, _, _, _⟩) rfl rfl rfl rfl (by first | rfl | (simp; omega)) ?_; (try simp only [Act.put, slt])) | (iterate 1 (refine plan_p (o := ⟨_, _, _, _, _, _⟩) rfl (fun N hN => ?_); go_big_quiet_step (fail); refine wpQuiet_nil (hN _ ?_); clear hN N))
              first | (refine plan_p_no (o := ⟨_, _, _, _, _, _⟩) rfl rfl rfl rfl (by first | rfl | (simp; omega)) ?_; (try simp only [Act.put, slt])) | (iterate 1 (refine plan_p (o := ⟨_, _, _, _, _, _⟩) rfl (fun N hN => ?_); go_big_quiet_step (fail); refine wpQuiet_nil (hN _ ?_); clear hN N))
              iterate 2 (refine plan_p (o := ⟨_, _, _, _, _, _⟩) rfl (fun N hN => ?_); go_big_quiet_step (fail); refine wpQuiet_nil (hN _ ?_); clear hN N)
              first | (refine plan_p_no (o := ⟨_, _, _, _, _, _⟩) rfl rfl rfl rfl (by first | rfl | (simp; omega)) ?_; (try simp only [Act.put, slt])) | (iterate 1 (refine plan_p (o := ⟨_, _, _, _, _, _⟩) rfl (fun N hN => ?_); go_big_quiet_step (fail); refine wpQuiet_nil (hN _ ?_); clear hN N))
              first | (refine plan_p_no (o := ⟨_, _, _, _, _, _⟩) rfl rfl rfl rfl (by first | rfl | (simp; omega)) ?_; (try simp only [Act.put, slt])) | (iterate 1 (refine plan_p (o := ⟨_, _, _, _, _, _⟩) rfl (fun N hN => ?_); go_big_quiet_step (fail); refine wpQuiet_nil (hN _ ?_); clear hN N))
              first | (refine plan_p_no (o := ⟨_, _, _, _, _, _⟩) rfl rfl rfl rfl (by first | rfl | (simp; omega)) ?_; (try simp only [Act.put, slt])) | (iterate 1 (refine plan_p (o := ⟨_, _, _, _, _, _⟩) rfl (fun N hN => ?_); go_big_quiet_step (fail); refine wpQuiet_nil (hN _ ?_); clear hN N))
              first | (refine plan_p_no (o := ⟨_, _, _, _, _, _⟩) rfl rfl rfl rfl (by first | rfl | (simp; omega)) ?_; (try simp only [Act.put, slt])) | (iterate 1 (refine plan_p (o := ⟨_, _, _, _, _, _⟩) rfl (fun N hN => ?_); go_big_quiet_step (fail); refine wpQuiet_nil (hN _ ?_); clear hN N))
              refine plan_p0 ?_
              first | (refine plan_q_no (o := ⟨_, _, _, _, _, _⟩) rfl rfl rfl rfl (by first | rfl | (simp; omega)) ?_; (try simp only [Act.put, slt])) | (iterate 1 (refine plan_q (o := ⟨_, _, _, _, _, _⟩) rfl (fun N hN => ?_); go_big_quiet_step (fail); refine wpQuiet_nil (hN _ ?_); clear hN N))
              refine plan_q0 ?_
              first | (refine plan_p_no (o := ⟨_, _, _, _, _, _⟩) rfl rfl rfl rfl (by first | rfl | (simp; omega)) ?_; (try simp only [Act.put, slt])) | (iterate 1 (refine plan_p (o := ⟨_, _, _, _, _, _⟩) rfl (fun N hN => ?_); go_big_quiet_step (fail); refine wpQuiet_nil (hN _ ?_); clear hN N))
              refine plan_p0 ?_
              first | (refine plan_q_no (o := ⟨_, _, _, _, _, _⟩) rfl rfl rfl rfl (by first | rfl | (simp; omega)) ?_; (try simp only [Act.put, slt])) | (iterate 1 (refine plan_q (o := ⟨_, _, _, _, _, _⟩) rfl (fun N hN => ?_); go_big_quiet_step (fail); refine wpQuiet_nil (hN _ ?_); clear hN N))
              refine plan_q0 ?_
              first | (refine plan_p_no (o := ⟨_, _, _, _, _, _⟩) rfl rfl rfl rfl (by first | rfl | (simp; omega)) ?_; (try simp only [Act.put, slt])) | (iterate 1 (refine plan_p (o := ⟨_, _, _, _, _, _⟩) rfl (fun N hN => ?_); go_big_quiet_step (fail); refine wpQuiet_nil (hN _ ?_); clear hN N))
              first | (refine plan_p_no (o := ⟨_, _, _, _, _, _⟩) rfl rfl rfl rfl (by first | rfl | (simp; omega)) ?_; (try simp only [Act.put, slt])) | (iterate 1 (refine plan_p (o := ⟨_, _, _, _, _, _⟩) rfl (fun N hN => ?_); go_big_quiet_step (fail); refine wpQuiet_nil (hN _ ?_); clear hN N))
              first | (refine plan_p_no (o := ⟨_, _, _, _, _, _⟩) rfl rfl rfl rfl (by first | rfl | (simp; omega)) ?_; (try simp only [Act.put, slt])) | (iterate 1 (refine plan_p (o := ⟨_, _, _, _, _, _⟩) rfl (fun N hN => ?_); go_big_quiet_step (fail); refine wpQuiet_nil (hN _ ?_); clear hN N))
              refine plan_p0 ?_
              first | (refine plan_q_no (o := ⟨_, _, _, _, _, _⟩) rfl rfl rfl rfl (by first | rfl | (simp; omega)) ?_; (try simp only [Act.put, slt])) | (iterate 1 (refine plan_q (o := ⟨_, _, _, _, _, _⟩) rfl (fun N hN => ?_); go_big_quiet_step (fail); refine wpQuiet_nil (hN _ ?_); clear hN N))
              refine plan_q0 ?_
              first | (refine plan_p_no (o := ⟨_, _, _, _, _, _⟩) rfl rfl rfl rfl (by first | rfl | (simp; omega)) ?_; (try simp only [Act.put, slt])) | (iterate 1 (refine plan_p (o := ⟨_, _, _, _, _, _⟩) rfl (fun N hN => ?_); go_big_quiet_step (fail); refine wpQuiet_nil (hN _ ?_); clear hN N))
              first | (refine plan_p_no (o := ⟨_, _, _, _, _, _⟩) rfl rfl rfl rfl (by first | rfl | (simp; omega)) ?_; (try simp only [Act.put, slt])) | (iterate 1 (refine plan_p (o := ⟨_, _, _, _, _, _⟩) rfl (fun N hN => ?_); go_big_quiet_step (fail); refine wpQuiet_nil (hN _ ?_); clear hN N))
              iterate 1 (refine plan_p (o := ⟨_, _, _, _, _, _⟩) rfl (fun N hN => ?_); go_big_quiet_step (fail); refine wpQuiet_nil (hN _ ?_); clear hN N)
              refine plan_p0 ?_
              refine plan_done ?_
              repeat' (first | (go_big_may; (first
    | ((first
        | (refine loud_ rfl ?_; refine wpList_plain rfl (fun K hK => ?_); (first | (refine op_box _ _ rfl H (fun b w' H1 => hK _ _ ?_)) | (refine op_alloc _ rfl (zero_of _ _ rfl) H (fun b w' H1 => hK _ _ ?_)) | (refine op_store _ _ _ rfl rfl rfl H (by repeat (first | exact Split.here _ _ | apply Split.there)) (by kernel_rfl) (by kernel_rfl) (by kernel_rfl) (fun w' H1 => hK _ _ ?_)) | (refine op_buildSlice_all _ _ _ rfl (by first | exact elem25 | exact elem32 | exact elem35 | exact elem36 | exact elem37 | exact elem38 | exact elem41 | exact elem42 | exact elem45 | exact elem57 | exact elem62 | exact elem74 | exact elem98 | exact elem100 | exact elem137 | exact elem178 | exact elem179) (by kernel_rfl) (by kernel_rfl) (by kernel_rfl) H (fun b w' H1 => hK _ _ ?_))); clear hK K; replace H := H1; clear H1)); (try clear hc); (try simp only [nrm, splice, Value.cells, Nat.reduceAdd, Act.eval, Act.put] at H); have hc := H.cells; simp only [CellsOf, KnCells, knc, Nat.reduceAdd] at hc))) | go_values | go_skip | go_guarded | go_step | go_upon | go_back | dsimp only)
              refine ⟨⟨k + 1, k, by omega, by go_num, rfl, by show BestIs _ _ _ _; rw [hcat2.out]; exact hb2.out, H.sel (by repeat (first | exact Sel.nil _ | (apply Sel.cons; focus (repeat (first | exact Split.here _ _ | apply Split.there)))))⟩, by simp [intOf]; omega⟩
            · obtain ⟨hgs, hik⟩ := take_get hgi
              have hig := (List.getElem?_eq_some_iff.1 hgs)
              obtain ⟨hil, hge⟩ := hig
              replace hgi := Lib.hid hgi
              replace hgs := Lib.hid hgs
              replace hg3 := Lib.hid hg3
              have hi9 : i < hn9 := by omega
              have hi0 : ¬ (i : Int) < 0 := by omega
              obtain ⟨b3, o3, hs3, H1⟩ := H.elemSoft (src := some ⟨b2, o2, none⟩) (xs := hsl.flatMap KH.cells) (Split.there _ (Split.here _ _)) (i * 3) (hsl[i]).cells (by show 0 < 3; omega) (by rw [kh_flat]; show _ + 3 ≤ _; omega) (fun a ha1 => flat_at KH.cells 3 hsl (fun _ _ => rfl) i a hil ha1)
              obtain ⟨rfl, rfl⟩ : b2 = b3 ∧ o2 = o3 := by simpa using hs3
              rw [hge] at H1
              clear H hs3 hge hil
              have H := H1
              clear H1
              obtain ⟨gh, gc, gr⟩ := g
              simp only [KH.cells] at H
              by_cases c3 : gr < fr
              · have hb2 := Lib.hid (best_new (h := ⟨fh, fc, fr⟩) htk.out hbest.out c1 c2 (fun i2 g2 e he => by
                  obtain rfl : i = i2 := by omega
                  rw [hgi.out] at he
                  cases he
                  exact Int.le_of_lt c3))
                have hc := H.cells; simp only [CellsOf, KnCells, knc, Nat.reduceAdd] at hc
                repeat' (first | (go_big_may; (first
    | ((first
        | (refine loud_ rfl ?_; refine wpList_plain rfl (fun K hK => ?_); (first | (refine op_box _ _ rfl H (fun b w' H1 => hK _ _ ?_)) | (refine op_alloc _ rfl (zero_of _ _ rfl) H (fun b w' H1 => hK _ _ ?_)) | (refine op_store _ _ _ rfl rfl rfl H (by repeat (first | exact Split.here _ _ | apply Split.there)) (by kernel_rfl) (by kernel_rfl) (by kernel_rfl) (fun w' H1 => hK _ _ ?_)) | (refine op_buildSlice_all _ _ _ rfl (by first | exact elem25 | exact elem32 | exact elem35 | exact elem36 | exact elem37 | exact elem38 | exact elem41 | exact elem42 | exact elem45 | exact elem57 | exact elem62 | exact elem74 | exact elem98 | exact elem100 | exact elem137 | exact elem178 | exact elem179) (by kernel_rfl) (by kernel_rfl) (by kernel_rfl) H (fun b w' H1 => hK _ _ ?_))); clear hK K; replace H := H1; clear H1)); (try clear hc); (try simp only [nrm, splice, Value.cells, Nat.reduceAdd, Act.eval, Act.put] at H); have hc := H.cells; simp only [CellsOf, KnCells, knc, Nat.reduceAdd] at hc))) | go_values | go_skip | go_guarded | go_step | go_upon | go_back | dsimp only)
                (try simp only [Act.put, slt])
                refine wp_region_plan (.p [0] (.q [1] (.p [2, 3, 4, 5] (.q [6] (.p [7, 8, 9, 10, 11, 12, 13, 14] (.q [15] (.p [16] (.q [17] (.p [18, 19, 20] (.q [21] (.p [22, 23, 24] .done))))))))))) [] (by kernel_rfl) (by kernel_rfl) (fun _ _ d _ _ h => by cases d <;> exact h) H ?_
                clear H
                (try clear hc)
                intro X nX fX wd hcf hS H
                simp only [CellsOf, KnCells, knc, Nat.reduceAdd] at hcf
                have hc := H.cells
                simp only [CellsOf, KnCells, knc, Nat.reduceAdd] at hc
                iterate 1 (refine plan_p (o := ⟨_, _, _, _, _, _⟩) rfl (fun N hN => ?_); go_big_quiet_step (fail); refine wpQuiet_nil (hN _ ?_); clear hN N)
                refine plan_p0 ?_
                iterate 1 (refine plan_q (o := ⟨_, _, _, _, _, _⟩) rfl (fun N hN => ?_); go_big_quiet_step (fail); refine wpQuiet_nil (hN _ ?_); clear hN N)
                refine plan_q0 ?_
                iterate 3 (refine plan_p (o := ⟨_, _, _, _, _, _⟩) rfl (fun N hN => ?_); go_big_quiet_step (fail); refine wpQuiet_nil (hN _ ?_); clear hN N)
                first | (refine plan_p_no (o := ⟨_, _, _, _, _, _⟩) rfl rfl rfl rfl (by first | rfl | (simp; omega)) ?_; (try simp only [Act.put, slt])) | (iterate 1 (refine plan_p (o := ⟨_, _, _, _, _, _⟩) rfl (fun N hN => ?_); go_big_quiet_step (fail); refine wpQuiet_nil (hN _ ?_); clear hN N))
                refine plan_p0 ?_
                first | (refine plan_q_no (o := ⟨_, _, _, _, _, _⟩) rfl rfl rfl rfl (by first | rfl | (simp; omega)) ?_; (try simp only [Act.put, slt])) | (iterate 1 (refine plan_q (o := ⟨_, _, _, _, _, _⟩) rfl (fun N hN => ?_); go_big_quiet_step (fail); refine wpQuiet_nil (hN _ ?_); clear hN N))
                refine plan_q0 ?_
                first | (refine plan_p_no (o := ⟨_, _, _, _, _, _⟩) rfl rfl rfl rfl (by first | rfl | (simp; omega)) ?_; (try simp only [Act.put, slt])) | (iterate 1 (refine plan_p (o := ⟨_, _, _, _, _, _⟩) rfl (fun N hN => ?_); go_big_quiet_step (fail); refine wpQuiet_nil (hN _ ?_); clear hN N))
                first | (refine plan_p_no (o := ⟨_, _, _, _, _, _⟩) rfl rfl rfl rfl (by first | rfl | (simp; omega)) ?_; (try simp only [Act.put, slt])) | (iterate 1 (refine plan_p (o := ⟨_, _, _, _, _, _⟩) rfl (fun N hN => ?_); go_big_quiet_step (fail); refine wpQuiet_nil (hN _ ?_); clear hN N))
                iterate 2 (refine plan_p (o := ⟨_, _, _, _, _, _⟩) rfl (fun N hN => ?_); go_big_quiet_step (fail); refine wpQuiet_nil (hN _ ?_); clear hN N)
                first | (refine plan_p_no (o := ⟨_, _, _, _, _, _⟩) rfl rfl rfl rfl (by first | rfl | (simp; omega)) ?_; (try simp only [Act.put, slt])) | (iterate 1 (refine plan_p (o := ⟨_, _, _, _, _, _⟩) rfl (fun N hN => ?_); go_big_quiet_step (fail); refine wpQuiet_nil (hN _ ?_); clear hN N))
                first | (refine plan_p_no (o := ⟨_, _, _, _, _, _⟩) rfl rfl rfl rfl (by first | rfl | (simp; omega)) ?_; (try simp only [Act.put, slt])) | (iterate 1 (refine plan_p (o := ⟨_, _, _, _, _, _⟩) rfl (fun N hN => ?_); go_big_quiet_step (fail); refine wpQuiet_nil (hN _ ?_); clear hN N))
                first | (refine plan_p_no (o := ⟨_, _, _, _, _, _⟩) rfl rfl rfl rfl (by first | rfl | (simp; omega)) ?_; (try simp only [Act.put, slt])) | (iterate 1 (refine plan_p (o := ⟨_, _, _, _, _, _⟩) rfl (fun N hN => ?_); go_big_quiet_step (fail); refine wpQuiet_nil (hN _ ?_); clear hN N))
                first | (refine plan_p_no (o := ⟨_, _, _, _, _, _⟩) rfl rfl rfl rfl (by first | rfl | (simp; omega)) ?_; (try simp only [Act.put, slt])) | (iterate 1 (refine plan_p (o := ⟨_, _, _, _, _, _⟩) rfl (fun N hN => ?_); go_big_quiet_step (fail); refine wpQuiet_nil (hN _ ?_); clear hN N))
                refine plan_p0 ?_
                first | (refine plan_q_no (o := ⟨_, _, _, _, _, _⟩) rfl rfl rfl rfl (by first | rfl | (simp; omega)) ?_; (try simp only [Act.put, slt])) | (iterate 1 (refine plan_q (o := ⟨_, _, _, _, _, _⟩) rfl (fun N hN => ?_); go_big_quiet_step (fail); refine wpQuiet_nil (hN _ ?_); clear hN N))
                refine plan_q0 ?_
                first | (refine plan_p_no (o := ⟨_, _, _, _, _, _⟩) rfl rfl rfl rfl (by first | rfl | (simp; omega)) ?_; (try simp only [Act.put, slt])) | (iterate 1 (refine plan_p (o := ⟨_, _, _, _, _, _⟩) rfl (fun N hN => ?_); go_big_quiet_step (fail); refine wpQuiet_nil (hN _ ?_); clear hN N))
                refine plan_p0 ?_
                first | (refine plan_q_no (o := ⟨_, _, _, _, _, _⟩) rfl rfl rfl rfl (by first | rfl | (simp; omega)) ?_; (try simp only [Act.put, slt])) | (iterate 1 (refine plan_q (o := ⟨_, _, _, _, _, _⟩) rfl (fun N hN => ?_); go_big_quiet_step (fail); refine wpQuiet_nil (hN _ ?_); clear hN N))
                refine plan_q0 ?_
                first | (refine plan_p_no (o := ⟨_, _, _, _, _, _⟩) rfl rfl rfl rfl (by first | rfl | (simp; omega)) ?_; (try simp only [Act.put, slt])) | (iterate 1 (refine plan_p (o := ⟨_, _, _, _, _, _⟩) rfl (fun N hN => ?_); go_big_quiet_step (fail); refine wpQuiet_nil (hN _ ?_); clear hN N))
                first | (refine plan_p_no (o := ⟨_, _, _, _, _, _⟩) rfl rfl rfl rfl (by first | rfl | (simp; omega)) ?_; (try simp only [Act.put, slt])) | (iterate 1 (refine plan_p (o := ⟨_, _, _, _, _, _⟩) rfl (fun N hN => ?_); go_big_quiet_step (fail); refine wpQuiet_nil (hN _ ?_); clear hN N))
                first | (refine plan_p_no (o := ⟨_, _, _, _, _, _⟩) rfl rfl rfl rfl (by first | rfl | (simp; omega)) ?_; (try simp only [Act.put, slt])) | (iterate 1 (refine plan_p (o := ⟨_, _, _, _, _, _⟩) rfl (fun N hN => ?_); go_big_quiet_step (fail); refine wpQuiet_nil (hN _ ?_); clear hN N))
                refine plan_p0 ?_
                first | (refine plan_q_no (o := ⟨_, _, _, _, _, _⟩) rfl rfl rfl rfl (by first | rfl | (simp; omega)) ?_; (try simp only [Act.put, slt])) | (iterate 1 (refine plan_q (o := ⟨_, _, _, _, _, _⟩) rfl (fun N hN => ?_); go_big_quiet_step (fail); refine wpQuiet_nil (hN _ ?_); clear hN N))
                refine plan_q0 ?_
                first | (refine plan_p_no (o := ⟨_, _, _, _, _, _⟩) rfl rfl rfl rfl (by first | rfl | (simp; omega)) ?_; (try simp only [Act.put, slt])) | (iterate 1 (refine plan_p (o := ⟨_, _, _, _, _, _⟩) rfl (fun N hN => ?_); go_big_quiet_step (fail); refine wpQuiet_nil (hN _ ?_); clear hN N))
                first | (refine plan_p_no (o := ⟨_, _, _, _, _, _⟩) rfl rfl rfl rfl (by first | rfl | (simp; omega)) ?_; (try simp only [Act.put, slt])) | (iterate 1 (refine plan_p (o := ⟨_, _, _, _, _, _⟩) rfl (fun N hN => ?_); go_big_quiet_step (fail); refine wpQuiet_nil (hN _ ?_); clear hN N))
                iterate 1 (refine plan_p (o := ⟨_, _, _, _, _, _⟩) rfl (fun N hN => ?_); go_big_quiet_step (fail); refine wpQuiet_nil (hN _ ?_); clear hN N)
                refine plan_p0 ?_
                refine plan_done ?_
                repeat' (first | (go_big_may; (first
    | ((first
        | (refine loud_ rfl ?_; refine wpList_plain rfl (fun K hK => ?_); (first | (refine op_box _ _ rfl H (fun b w' H1 => hK _ _ ?_)) | (refine op_alloc _ rfl (zero_of _ _ rfl) H (fun b w' H1 => hK _ _ ?_)) | (refine op_store _ _ _ rfl rfl rfl H (by repeat (first | exact Split.here _ _ | apply Split.there)) (by kernel_rfl) (by kernel_rfl) (by kernel_rfl) (fun w' H1 => hK _ _ ?_)) | (refine op_buildSlice_all _ _ _ rfl (by first | exact elem25 | exact elem32 | exact elem35 | exact elem36 | exact elem37 | exact elem38 | exact elem41 | exact elem42 | exact elem45 | exact elem57 | exact elem62 | exact elem74 | exact elem98 | exact elem100 | exact elem137 | exact elem178 | exact elem179) (by kernel_rfl) (by kernel_rfl) (by kernel_rfl) H (fun b w' H1 => hK _ _ ?_))); clear hK K; replace H := H1; clear H1)); (try clear hc); (try simp only [nrm, splice, Value.cells, Nat.reduceAdd, Act.eval, Act.put] at H); have hc := H.cells; simp only [CellsOf, KnCells, knc, Nat.reduceAdd] at hc))) | go_values | go_skip | go_guarded | go_step | go_upon | go_back | dsimp only)
                refine ⟨⟨k + 1, k, by omega, by go_num, rfl, by show BestIs _ _ _ _; rw [hcat2.out]; exact hb2.out, H.sel (by repeat (first | exact Sel.nil _ | (apply Sel.cons; focus (repeat (first | exact Split.here _ _ | apply Split.there)))))⟩, by simp [intOf]; omega⟩
              · have hb2 := Lib.hid (best_low (h := ⟨fh, fc, fr⟩) hbest.out hgi.out (by show fr ≤ gr; omega))
                have hc := H.cells; simp only [CellsOf, KnCells, knc, Nat.reduceAdd] at hc
                repeat' (first | (go_big_may; (first
    | ((first
        | (refine loud_ rfl ?_; refine wpList_plain rfl (fun K hK => ?_); (first | (refine op_box _ _ rfl H (fun b w' H1 => hK _ _ ?_)) | (refine op_alloc _ rfl (zero_of _ _ rfl) H (fun b w' H1 => hK _ _ ?_)) | (refine op_store _ _ _ rfl rfl rfl H (by repeat (first | exact Split.here _ _ | apply Split.there)) (by kernel_rfl) (by kernel_rfl) (by kernel_rfl) (fun w' H1 => hK _ _ ?_)) | (refine op_buildSlice_all _ _ _ rfl (by first | exact elem25 | exact elem32 | exact elem35 | exact elem36 | exact elem37 | exact elem38 | exact elem41 | exact elem42 | exact elem45 | exact elem57 | exact elem62 | exact elem74 | exact elem98 | exact elem100 | exact elem137 | exact elem178 | exact elem179) (by kernel_rfl) (by kernel_rfl) (by kernel_rfl) H (fun b w' H1 => hK _ _ ?_))); clear hK K; replace H := H1; clear H1)); (try clear hc); (try simp only [nrm, splice, Value.cells, Nat.reduceAdd, Act.eval, Act.put] at H); have hc := H.cells; simp only [CellsOf, KnCells, knc, Nat.reduceAdd] at hc))) | go_values | go_skip | go_guarded | go_step | go_upon | go_back | dsimp only)
                (try simp only [Act.put, slt])
                refine wp_region_plan (.p [0] (.q [1] (.p [2, 3, 4, 5] (.q [6] (.p [7, 8, 9, 10, 11, 12, 13, 14] (.q [15] (.p [16] (.q [17] (.p [18, 19, 20] (.q [21] (.p [22, 23, 24] .done))))))))))) [] (by kernel_rfl) (by kernel_rfl) (fun _ _ d _ _ h => by cases d <;> exact h) H ?_
                clear H
                (try clear hc)
                intro X nX fX wd hcf hS H
                simp only [CellsOf, KnCells, knc, Nat.reduceAdd] at hcf
                have hc := H.cells
                simp only [CellsOf, KnCells, knc, Nat.reduceAdd] at hc
                iterate 1 (refine plan_p (o := ⟨_, _, _, _, _, _⟩) rfl (fun N hN => ?_); go_big_quiet_step (fail); refine wpQuiet_nil (hN _ ?_); clear hN N)
                refine plan_p0 ?_
                iterate 1 (refine plan_q (o := ⟨_, _, _, _, _, _⟩) rfl (fun N hN => ?_); go_big_quiet_step (fail); refine wpQuiet_nil (hN _ ?_); clear hN N)
                refine plan_q0 ?_
                iterate 3 (refine plan_p (o := ⟨_, _, _, _, _, _⟩) rfl (fun N hN => ?_); go_big_quiet_step (fail); refine wpQuiet_nil (hN _ ?_); clear hN N)
                first | (refine plan_p_no (o := ⟨_, _, _, _, _, _⟩) rfl rfl rfl rfl (by first | rfl | (simp; omega)) ?_; (try simp only [Act.put, slt])) | (iterate 1 (refine plan_p (o := ⟨_, _, _, _, _, _⟩) rfl (fun N hN => ?_); go_big_quiet_step (fail); refine wpQuiet_nil (hN _ ?_); clear hN N))
                refine plan_p0 ?_
                first | (refine plan_q_no (o := ⟨_, _, _, _, _, _⟩) rfl rfl rfl rfl (by first | rfl | (simp; omega)) ?_; (try simp only [Act.put, slt])) | (iterate 1 (refine plan_q (o := ⟨_, _, _, _, _, _⟩) rfl (fun N hN => ?_); go_big_quiet_step (fail); refine wpQuiet_nil (hN _ ?_); clear hN N))
                refine plan_q0 ?_
                first | (refine plan_p_no (o := ⟨_, _, _, _, _, _⟩) rfl rfl rfl rfl (by first | rfl | (simp; omega)) ?_; (try simp only [Act.put, slt])) | (iterate 1 (refine plan_p (o := ⟨_, _, _, _, _, _⟩) rfl (fun N hN => ?_); go_big_quiet_step (fail); refine wpQuiet_nil (hN _ ?_); clear hN N))
                first | (refine plan_p_no (o := ⟨_, _, _, _, _, _⟩) rfl rfl rfl rfl (by first | rfl | (simp; omega)) ?_; (try simp only [Act.put, slt])) | (iterate 1 (refine plan_p (o := ⟨_, _, _, _, _, _⟩) rfl (fun N hN => ?_); go_big_quiet_step (fail); refine wpQuiet_nil (hN _ ?_); clear hN N))
                iterate 2 (refine plan_p (o := ⟨_, _, _, _, _, _⟩) rfl (fun N hN => ?_); go_big_quiet_step (fail); refine wpQuiet_nil (hN _ ?_); clear hN N)
                first | (refine plan_p_no (o := ⟨_, _, _, _, _, _⟩) rfl rfl rfl rfl (by first | rfl | (simp; omega)) ?_; (try simp only [Act.put, slt])) | (iterate 1 (refine plan_p (o := ⟨_, _, _, _, _, _⟩) rfl (fun N hN => ?_); go_big_quiet_step (fail); refine wpQuiet_nil (hN _ ?_); clear hN N))
                first | (refine plan_p_no (o := ⟨_, _, _, _, _, _⟩) rfl rfl rfl rfl (by first | rfl | (simp; omega)) ?_; (try simp only [Act.put, slt])) | (iterate 1 (refine plan_p (o := ⟨_, _, _, _, _, _⟩) rfl (fun N hN => ?_); go_big_quiet_step (fail); refine wpQuiet_nil (hN _ ?_); clear hN N))
                first | (refine plan_p_no (o := ⟨_, _, _, _, _, _⟩) rfl rfl rfl rfl (by first | rfl | (simp; omega)) ?_; (try simp only [Act.put, slt])) | (iterate 1 (refine plan_p (o := ⟨_, _, _, _, _, _⟩) rfl (fun N hN => ?_); go_big_quiet_step (fail); refine wpQuiet_nil (hN _ ?_); clear hN N))
                first | (refine plan_p_no (o := ⟨_, _, _, _, _, _⟩) rfl rfl rfl rfl (by first | rfl | (simp; omega)) ?_; (try simp only [Act.put, slt])) | (iterate 1 (refine plan_p (o := ⟨_, _, _, _, _, _⟩) rfl (fun N hN => ?_); go_big_quiet_step (fail); refine wpQuiet_nil (hN _ ?_); clear hN N))
                refine plan_p0 ?_
                first | (refine plan_q_no (o := ⟨_, _, _, _, _, _⟩) rfl rfl rfl rfl (by first | rfl | (simp; omega)) ?_; (try simp only [Act.put, slt])) | (iterate 1 (refine plan_q (o := ⟨_, _, _, _, _, _⟩) rfl (fun N hN => ?_); go_big_quiet_step (fail); refine wpQuiet_nil (hN _ ?_); clear hN N))
                refine plan_q0 ?_
                first | (refine plan_p_no (o := ⟨_, _, _, _, _, _⟩) rfl rfl rfl rfl (by first | rfl | (simp; omega)) ?_; (try simp only [Act.put, slt])) | (iterate 1 (refine plan_p (o := ⟨_, _, _, _, _, _⟩) rfl (fun N hN => ?_); go_big_quiet_step (fail); refine wpQuiet_nil (hN _ ?_); clear hN N))
                refine plan_p0 ?_
                first | (refine plan_q_no (o := ⟨_, _, _, _, _, _⟩) rfl rfl rfl rfl (by first | rfl | (simp; omega)) ?_; (try simp only [Act.put, slt])) | (iterate 1 (refine plan_q (o := ⟨_, _, _, _, _, _⟩) rfl (fun N hN => ?_); go_big_quiet_step (fail); refine wpQuiet_nil (hN _ ?_); clear hN N))
                refine plan_q0 ?_
                first | (refine plan_p_no (o := ⟨_, _, _, _, _, _⟩) rfl rfl rfl rfl (by first | rfl | (simp; omega)) ?_; (try simp only [Act.put, slt])) | (iterate 1 (refine plan_p (o := ⟨_, _, _, _, _, _⟩) rfl (fun N hN => ?_); go_big_quiet_step (fail); refine wpQuiet_nil (hN _ ?_); clear hN N))
                first | (refine plan_p_no (o := ⟨_, _, _, _, _, _⟩) rfl rfl rfl rfl (by first | rfl | (simp; omega)) ?_; (try simp only [Act.put, slt])) | (iterate 1 (refine plan_p (o := ⟨_, _, _, _, _, _⟩) rfl (fun N hN => ?_); go_big_quiet_step (fail); refine wpQuiet_nil (hN _ ?_); clear hN N))
                first | (refine plan_p_no (o := ⟨_, _, _, _, _, _⟩) rfl rfl rfl rfl (by first | rfl | (simp; omega)) ?_; (try simp only [Act.put, slt])) | (iterate 1 (refine plan_p (o := ⟨_, _, _, _, _, _⟩) rfl (fun N hN => ?_); go_big_quiet_step (fail); refine wpQuiet_nil (hN _ ?_); clear hN N))
                refine plan_p0 ?_
                first | (refine plan_q_no (o := ⟨_, _, _, _, _, _⟩) rfl rfl rfl rfl (by first | rfl | (simp; omega)) ?_; (try simp only [Act.put, slt])) | (iterate 1 (refine plan_q (o := ⟨_, _, _, _, _, _⟩) rfl (fun N hN => ?_); go_big_quiet_step (fail); refine wpQuiet_nil (hN _ ?_); clear hN N))
                refine plan_q0 ?_
                first | (refine plan_p_no (o := ⟨_, _, _, _, _, _⟩) rfl rfl rfl rfl (by first | rfl | (simp; omega)) ?_; (try simp only [Act.put, slt])) | (iterate 1 (refine plan_p (o := ⟨_, _, _, _, _, _⟩) rfl (fun N hN => ?_); go_big_quiet_step (fail); refine wpQuiet_nil (hN _ ?_); clear hN N))
                first | (refine plan_p_no (o := ⟨_, _, _, _, _, _⟩) rfl rfl rfl rfl (by first | rfl | (simp; omega)) ?_; (try simp only [Act.put, slt])) | (iterate 1 (refine plan_p (o := ⟨_, _, _, _, _, _⟩) rfl (fun N hN => ?_); go_big_quiet_step (fail); refine wpQuiet_nil (hN _ ?_); clear hN N))
                iterate 1 (refine plan_p (o := ⟨_, _, _, _, _, _⟩) rfl (fun N hN => ?_); go_big_quiet_step (fail); refine wpQuiet_nil (hN _ ?_); clear hN N)
                refine plan_p0 ?_
                refine plan_done ?_
                repeat' (first | (go_big_may; (first
    | ((first
        | (refine loud_ rfl ?_; refine wpList_plain rfl (fun K hK => ?_); (first | (refine op_box _ _ rfl H (fun b w' H1 => hK _ _ ?_)) | (refine op_alloc _ rfl (zero_of _ _ rfl) H (fun b w' H1 => hK _ _ ?_)) | (refine op_store _ _ _ rfl rfl rfl H (by repeat (first | exact Split.here _ _ | apply Split.there)) (by kernel_rfl) (by kernel_rfl) (by kernel_rfl) (fun w' H1 => hK _ _ ?_)) | (refine op_buildSlice_all _ _ _ rfl (by first | exact elem25 | exact elem32 | exact elem35 | exact elem36 | exact elem37 | exact elem38 | exact elem41 | exact elem42 | exact elem45 | exact elem57 | exact elem62 | exact elem74 | exact elem98 | exact elem100 | exact elem137 | exact elem178 | exact elem179) (by kernel_rfl) (by kernel_rfl) (by kernel_rfl) H (fun b w' H1 => hK _ _ ?_))); clear hK K; replace H := H1; clear H1)); (try clear hc); (try simp only [nrm, splice, Value.cells, Nat.reduceAdd, Act.eval, Act.put] at H); have hc := H.cells; simp only [CellsOf, KnCells, knc, Nat.reduceAdd] at hc))) | go_values | go_skip | go_guarded | go_step | go_upon | go_back | dsimp only)
                refine ⟨⟨k + 1, i, by omega, by go_num, rfl, by show BestIs _ _ _ _; rw [hcat2.out]; exact hb2.out, H.sel (by repeat (first | exact Sel.nil _ | (apply Sel.cons; focus (repeat (first | exact Split.here _ _ | apply Split.there)))))⟩, by simp [intOf]; omega⟩
          · obtain rfl : k = hn9 := by omega
            rw [List.take_of_length_le (by rw [hhn2.out]; exact Nat.le_refl _)] at hbest
            rcases hbest.out with ⟨rfl, hno⟩ | ⟨i, g, rfl, hgs, hg1, hg2, hg3⟩
            · have htold := Lib.hid (sp_none hsp.out hno)
              replace hno := Lib.hid hno
              replace H := H.rowSoft (key := ka) (by repeat (first | exact Split.here _ _ | apply Split.there))
              (try simp only [List.append, List.cons_append, List.nil_append] at H)
              (try simp only [show sl ka an ca = Value.slice (ka.map fun b => (⟨b, 0, none⟩ : Addr)) an ca from rfl])
              generalize (ka.map fun b => (⟨b, 0, none⟩ : Addr)) = sa at *
              have han2 : Hid (zs.length = an) := han.out.symm
              clear han
              have hc := H.cells; simp only [CellsOf, KnCells, knc, Nat.reduceAdd] at hc
              repeat' (first | (go_big_may; (first
    | go_skip
    | ((first
        | (go_at_call 29; refine Calls.mono (rising_calls zs sa an ca han2 (by omega) _ (H.pick (by repeat (first | exact Picks.nil _ | (apply Picks.wr; focus (repeat (first | exact Split.here _ _ | apply Split.there))) | (apply Picks.rd; focus (repeat (first | exact Split.here _ _ | apply Split.there))))))) ?_; rintro e w' ⟨ls, lcap, lkey, hls, rfl, H'⟩; replace H := H.merge (by first | exact Strikes.nil _ | (repeat (first | exact Strikes.nil _ | (apply Strikes.cons; focus (repeat (first | exact Split.here _ _ | apply Split.there)))))) H' rfl; clear H')
        | (refine loud_ rfl ?_; refine wpList_plain rfl (fun K hK => ?_); (first | (refine op_append_lit _ _ _ rfl elem37 rfl rfl H (by repeat (first | exact Split.here _ _ | apply Split.there)) (by repeat (first | exact Split.here _ _ | apply Split.there)) (by kernel_rfl) (by kernel_rfl) (by omega) (by unfold maxLen; omega) (fun key cap' w' H1 => hK _ _ ?_)) | (refine op_append_lit _ _ _ rfl elem38 rfl rfl H (by repeat (first | exact Split.here _ _ | apply Split.there)) (by repeat (first | exact Split.here _ _ | apply Split.there)) (by kernel_rfl) (by kernel_rfl) (by omega) (by unfold maxLen; omega) (fun key cap' w' H1 => hK _ _ ?_)) | (refine op_box _ _ rfl H (fun b w' H1 => hK _ _ ?_)) | (refine op_alloc _ rfl (zero_of _ _ rfl) H (fun b w' H1 => hK _ _ ?_)) | (refine op_store _ _ _ rfl rfl rfl H (by repeat (first | exact Split.here _ _ | apply Split.there)) (by kernel_rfl) (by kernel_rfl) (by kernel_rfl) (fun w' H1 => hK _ _ ?_)) | (refine op_buildSlice_all _ _ _ rfl (by first | exact elem25 | exact elem32 | exact elem35 | exact elem36 | exact elem37 | exact elem38 | exact elem41 | exact elem42 | exact elem45 | exact elem57 | exact elem62 | exact elem74 | exact elem98 | exact elem100 | exact elem137 | exact elem178 | exact elem179) (by kernel_rfl) (by kernel_rfl) (by kernel_rfl) H (fun b w' H1 => hK _ _ ?_))); clear hK K; replace H := H1; clear H1)); (try clear hc); (try simp only [nrm, splice, Value.cells, Nat.reduceAdd, Act.eval, Act.put] at H); have hc := H.cells; simp only [CellsOf, KnCells, knc, Nat.reduceAdd] at hc))) | go_values | go_skip | go_guarded | go_step | go_upon | go_back | dsimp only)
              have hone : Hid (SpOne own ⟨⟨ha, hcp, hsl⟩, ⟨ra, rcp, rl⟩, ⟨pa, pcp, pl⟩⟩ last last ls q) := ⟨zs, htold.out, hls.out.1, hls.out.2.1⟩
              have hal : an = ls.length := hls.out.2.2.symm
              have haq : qn = q.length := hqn.out
              clear han2 han13 hqn hqf
              subst hal haq
              have hrun2 : Hid (SpRun own (rds.take (j + 1)) ((aa ++ [(⟨lkey, lcap, ls⟩ : SlI)]).map SlI.list) ((qs ++ [(⟨kq, cq, q⟩ : SlI)]).map SlI.list) last) := by
                rw [hcat.out, List.map_append, List.map_append]
                exact hrun.out.snoc hone.out
              refine ⟨⟨j + 1, last, _, _, _, _, aa ++ [⟨lkey, lcap, ls⟩], qs ++ [⟨kq, cq, q⟩], by omega, by go_num, rfl, rfl, rfl, hrun2, ?_⟩, by simp [intOf]; omega⟩
              simp only [List.map_append, List.map_cons, List.map_nil]
              have H2 := bag_add (e := SlI.entA ⟨lkey, lcap, ls⟩) rfl (entA_all aa) (H.sel (L' := SlI.entA ⟨lkey, lcap, ls⟩ :: (true, bag (aa.map SlI.entA)) :: [SlI.entQ ⟨kq, cq, q⟩, (true, bag (qs.map SlI.entQ)), (true, .row _ 32 1 (j + 1) _ (aa.map SlI.val ++ [sl lkey ls.length lcap])), (true, .row _ 42 1 (j + 1) _ (qs.map SlI.val ++ [sl kq q.length cq])), (false, soft (some ⟨b1, o1, none⟩) (rds.flatMap Rd.cells))]) (by repeat (first | exact Sel.nil _ | (apply Sel.cons; focus (repeat (first | exact Split.here _ _ | apply Split.there))))))
              have H3 := bag_add (e := SlI.entQ ⟨kq, cq, q⟩) rfl (entQ_all qs) (H2.sel (L' := SlI.entQ ⟨kq, cq, q⟩ :: (true, bag (qs.map SlI.entQ)) :: [(true, bag (aa.map SlI.entA ++ [SlI.entA ⟨lkey, lcap, ls⟩])), (true, .row _ 32 1 (j + 1) _ (aa.map SlI.val ++ [sl lkey ls.length lcap])), (true, .row _ 42 1 (j + 1) _ (qs.map SlI.val ++ [sl kq q.length cq])), (false, soft (some ⟨b1, o1, none⟩) (rds.flatMap Rd.cells))]) (by repeat (first | exact Sel.nil _ | (apply Sel.cons; focus (repeat (first | exact Split.here _ _ | apply Split.there))))))
              exact H3.sel (by repeat (first | exact Sel.nil _ | (apply Sel.cons; focus (repeat (first | exact Split.here _ _ | apply Split.there)))))
            · obtain ⟨hil, hge⟩ := List.getElem?_eq_some_iff.1 hgs
              have hgm : Hid (g ∈ hsl) := by show g ∈ hsl; rw [← hge]; exact List.getElem_mem hil
              have hi9 : i < k := by rw [← hhn2.out]; exact hil
              have hi0 : ¬ (i : Int) < 0 := by omega
              obtain ⟨b2, o2, rfl, H1⟩ := H.elemSoft (Split.here _ _) (i * 3) (hsl[i]).cells (by show 0 < 3; omega) (by rw [kh_flat]; show _ + 3 ≤ _; omega) (fun a ha1 => flat_at KH.cells 3 hsl (fun _ _ => rfl) i a hil ha1)
              rw [hge] at H1
              clear H hge hil hgs
              have H := H1
              clear H1
              obtain ⟨gh, gc, gr⟩ := g
              simp only [KH.cells] at H
              simp only at hg1 hg2
              have hnext : Hid (∀ (hu : prsAt rl pl gr = [] ∨ VtTold own ⟨gh, gc, gr⟩ (prsAt rl pl gr) [] false false), SpIs hsl (prsAt rl pl) own last last gr (q ++ [gr]) [] false) := by
                intro hu
                rcases hsp.out with ⟨_, _, _, hq, h1, h2⟩ | ⟨h, _⟩
                · exact .inl ⟨rfl, rfl, rfl, hq ++ [⟨gh, gc, gr⟩], sq_snoc hnod.out h1 hgm.out hg1 hg2 hg3 hu, by simp [h2]⟩
                · cases h
              have hend : Hid (∀ zs r, prsAt rl pl gr ≠ [] → VtTold own ⟨gh, gc, gr⟩ (prsAt rl pl gr) zs true r → SpIs hsl (prsAt rl pl) own last (if r = true then max last gr else last) gr (q ++ [gr]) zs true) := by
                intro zs r hne hv
                rcases hsp.out with ⟨_, _, _, hq, h1, h2⟩ | ⟨h, _⟩
                · exact .inr ⟨rfl, hq, ⟨gh, gc, gr⟩, r, top, h1, hgm.out, hg1, hg2, hg3, hne, hv, by simp [h2], rfl⟩
                · cases h
              have hz : zs = [] := by
                rcases hsp.out with ⟨_, _, h, _⟩ | ⟨h, _⟩
                · exact h
                · cases h
              subst hz
              obtain rfl : an = 0 := han.out
              have hflt : flt hsl gr + 1 ≤ flt hsl top := flt_lt hgm.out hg2
              clear han hsp hg3
              obtain ⟨rr, hrr⟩ : ∃ rr, rowOf rl pl gr = rr := ⟨_, rfl⟩
              obtain ⟨ya, yc, yl⟩ := rr
              have hyl : prsAt rl pl gr = yl := by rw [← rowOf_list, hrr]
              have hlies : Lies w ya (yl.flatMap Pr.cells) := by have := rowOf_lies rl pl gr hd.out.1.2.2.2; rw [hrr] at this; exact this
              have hy12 : yl.length ≤ 12 := by rw [← hyl]; exact prsAt_len rl pl hp12.out gr
              replace H := H.soft hlies
              clear hlies
              generalize hyn : yl.length = yn at *
              have hyn2 := Lib.hid hyn
              clear hyn
              replace hyl := Lib.hid hyl
              replace hrr := Lib.hid hrr
              have hqn2 : Hid (qn + 1 = (q ++ [gr]).length) := by show _ = _; rw [List.length_append, ← hqn.out]; rfl
              by_cases hy0 : yn = 0
              · subst hy0
                have hsp2 := Lib.hid (hnext.out (.inl (by rw [hyl.out]; exact List.length_eq_zero_iff.1 hyn2.out)))
                have hc := H.cells; simp only [CellsOf, KnCells, knc, Nat.reduceAdd] at hc
                repeat' (first | (go_big_may; (first
    | go_skip
    | ((first
        | (go_at_call 27; refine Calls.mono (ckPeers_row _ rl pl gr ra pa rn rcp pcp ya _ yc yl hrr hyn2 hrn2 hpn2 (by omega) _ (H.pick (by repeat (first | exact Picks.nil _ | (apply Picks.wr; focus (repeat (first | exact Split.here _ _ | apply Split.there))) | (apply Picks.rd; focus (repeat (first | exact Split.here _ _ | apply Split.there))))))) ?_; rintro e w' ⟨rfl, H'⟩; replace H := H.of_ext H'; clear H')
        | (refine loud_ rfl ?_; refine wpList_plain rfl (fun K hK => ?_); (first | (refine op_append_lit _ _ _ rfl elem42 rfl rfl H (by repeat (first | exact Split.here _ _ | apply Split.there)) (by repeat (first | exact Split.here _ _ | apply Split.there)) (by kernel_rfl) (by kernel_rfl) (by omega) (by unfold maxLen; omega) (fun key cap' w' H1 => hK _ _ ?_)) | (refine op_box _ _ rfl H (fun b w' H1 => hK _ _ ?_)) | (refine op_alloc _ rfl (zero_of _ _ rfl) H (fun b w' H1 => hK _ _ ?_)) | (refine op_store _ _ _ rfl rfl rfl H (by repeat (first | exact Split.here _ _ | apply Split.there)) (by kernel_rfl) (by kernel_rfl) (by kernel_rfl) (fun w' H1 => hK _ _ ?_)) | (refine op_buildSlice_all _ _ _ rfl (by first | exact elem25 | exact elem32 | exact elem35 | exact elem36 | exact elem37 | exact elem38 | exact elem41 | exact elem42 | exact elem45 | exact elem57 | exact elem62 | exact elem74 | exact elem98 | exact elem100 | exact elem137 | exact elem178 | exact elem179) (by kernel_rfl) (by kernel_rfl) (by kernel_rfl) H (fun b w' H1 => hK _ _ ?_))); clear hK K; replace H := H1; clear H1)); (try clear hc); (try simp only [nrm, splice, Value.cells, Nat.reduceAdd, Act.eval, Act.put] at H); have hc := H.cells; simp only [CellsOf, KnCells, knc, Nat.reduceAdd] at hc))) | go_values | go_skip | go_guarded | go_step | go_upon | go_back | dsimp only)
                refine ⟨⟨ka, _, 0, ca, qn + 1, _, false, last, gr, q ++ [gr], [], rfl, rfl, rfl, rfl, rfl, hsp2, rfl, by omega, hqn2, by omega, ?_⟩, by simp [intOf]; omega⟩
                simp only [List.map_append, List.map_cons, List.map_nil]
                exact H.sel (by repeat (first | exact Sel.nil _ | (apply Sel.cons; focus (repeat (first | exact Split.here _ _ | apply Split.there)))))
              · have hy0I : ¬ (yn : Int) = 0 := by omega
                have hyne : Hid (prsAt rl pl gr ≠ []) := by
                  show _ ≠ _
                  rw [hyl.out]
                  intro e
                  have := hyn2.out
                  rw [e] at this
                  exact hy0 this.symm
                have hc := H.cells; simp only [CellsOf, KnCells, knc, Nat.reduceAdd] at hc
                go_upto_region 26 with (first
    | go_skip
    | ((first
        | (go_at_call 27; refine Calls.mono (ckPeers_row _ rl pl gr ra pa rn rcp pcp ya _ yc yl hrr hyn2 hrn2 hpn2 (by omega) _ (H.pick (by repeat (first | exact Picks.nil _ | (apply Picks.wr; focus (repeat (first | exact Split.here _ _ | apply Split.there))) | (apply Picks.rd; focus (repeat (first | exact Split.here _ _ | apply Split.there))))))) ?_; rintro e w' ⟨rfl, H'⟩; replace H := H.of_ext H'; clear H')
        | (go_at_call 28; refine Calls.mono (votes_calls own ⟨gh, gc, gr⟩ yl ya _ yc hyn2 (by omega) _ (H.pick (by repeat (first | exact Picks.nil _ | (apply Picks.wr; focus (repeat (first | exact Split.here _ _ | apply Split.there))) | (apply Picks.rd; focus (repeat (first | exact Split.here _ _ | apply Split.there))))))) ?_; rintro e w' ⟨zs2, vs, vr, vkey, vn, vcap, hvt, hvn, rfl, H'⟩; replace H := H.merge (by first | exact Strikes.nil _ | (repeat (first | exact Strikes.nil _ | (apply Strikes.cons; focus (repeat (first | exact Split.here _ _ | apply Split.there)))))) H' rfl; clear H')
        | (refine loud_ rfl ?_; refine wpList_plain rfl (fun K hK => ?_); (first | (refine op_append_lit _ _ _ rfl elem42 rfl rfl H (by repeat (first | exact Split.here _ _ | apply Split.there)) (by repeat (first | exact Split.here _ _ | apply Split.there)) (by kernel_rfl) (by kernel_rfl) (by omega) (by unfold maxLen; omega) (fun key cap' w' H1 => hK _ _ ?_)) | (refine op_box _ _ rfl H (fun b w' H1 => hK _ _ ?_)) | (refine op_alloc _ rfl (zero_of _ _ rfl) H (fun b w' H1 => hK _ _ ?_)) | (refine op_store _ _ _ rfl rfl rfl H (by repeat (first | exact Split.here _ _ | apply Split.there)) (by kernel_rfl) (by kernel_rfl) (by kernel_rfl) (fun w' H1 => hK _ _ ?_)) | (refine op_buildSlice_all _ _ _ rfl (by first | exact elem25 | exact elem32 | exact elem35 | exact elem36 | exact elem37 | exact elem38 | exact elem41 | exact elem42 | exact elem45 | exact elem57 | exact elem62 | exact elem74 | exact elem98 | exact elem100 | exact elem137 | exact elem178 | exact elem179) (by kernel_rfl) (by kernel_rfl) (by kernel_rfl) H (fun b w' H1 => hK _ _ ?_))); clear hK K; replace H := H1; clear H1)); (try clear hc); (try simp only [nrm, splice, Value.cells, Nat.reduceAdd, Act.eval, Act.put] at H); have hc := H.cells; simp only [CellsOf, KnCells, knc, Nat.reduceAdd] at hc))
                have hv13 : vn ≤ 13 := by rw [hvn.out]; have := vt_len hvt.out; have := hyn2.out; omega
                have hvt2 : Hid (VtTold own ⟨gh, gc, gr⟩ (prsAt rl pl gr) zs2 vs vr) := by show VtTold _ _ _ _ _ _; rw [hyl.out]; exact hvt.out
                (try simp only [Act.put, slt])
                go_upto_region 27 with (first
    | ((first
        | (refine loud_ rfl ?_; refine wpList_plain rfl (fun K hK => ?_); (first | (refine op_append_lies _ _ _ rfl elem32 (key := ka) (n := 0) (cap := ca) (xs := []) (ys := zs2.map iv) rfl rfl H (by repeat (first | exact Split.here _ _ | apply Split.there)) (lies_of_row1 (H.get (k := .row vkey 27 1 vn vcap (zs2.map iv)) (by repeat (first | exact Split.here _ _ | apply Split.there)))) (by rw [List.length_map]; have := hvn.out; omega) (row_nil (H.get (k := .row vkey 27 1 vn vcap (zs2.map iv)) (by repeat (first | exact Split.here _ _ | apply Split.there)))) (one_ivs _) (by omega) (by unfold maxLen; omega) (fun key3 cap3 w' H1 => hK _ _ ?_)) | (refine op_box _ _ rfl H (fun b w' H1 => hK _ _ ?_)) | (refine op_alloc _ rfl (zero_of _ _ rfl) H (fun b w' H1 => hK _ _ ?_)) | (refine op_store _ _ _ rfl rfl rfl H (by repeat (first | exact Split.here _ _ | apply Split.there)) (by kernel_rfl) (by kernel_rfl) (by kernel_rfl) (fun w' H1 => hK _ _ ?_)) | (refine op_buildSlice_all _ _ _ rfl (by first | exact elem25 | exact elem32 | exact elem35 | exact elem36 | exact elem37 | exact elem38 | exact elem41 | exact elem42 | exact elem45 | exact elem57 | exact elem62 | exact elem74 | exact elem98 | exact elem100 | exact elem137 | exact elem178 | exact elem179) (by kernel_rfl) (by kernel_rfl) (by kernel_rfl) H (fun b w' H1 => hK _ _ ?_))); clear hK K; replace H := H1; clear H1)); (try clear hc); (try simp only [nrm, splice, Value.cells, Nat.reduceAdd, Act.eval, Act.put] at H); have hc := H.cells; simp only [CellsOf, KnCells, knc, Nat.reduceAdd] at hc))
                (try simp only [Nat.zero_add] at H)
                (try simp only [Nat.zero_add])
                (try simp only [Act.put, slt])
                clear hc
                cases vs with
                | false =>
                  obtain ⟨hz2, hr2, hv3⟩ := vt_false hvt2.out
                  subst hr2
                  have hsp2 : Hid (SpIs hsl (prsAt rl pl) own last last gr (q ++ [gr]) zs2 false) := by show SpIs _ _ _ _ _ _ _ _ _; rw [hz2]; exact hnext.out (.inr hv3)
                  replace hz2 := Lib.hid hz2
                  replace hv3 := Lib.hid hv3
                  have hc := H.cells; simp only [CellsOf, KnCells, knc, Nat.reduceAdd] at hc
                  repeat' (first | (go_big_may; (first
    | ((first
        | (refine loud_ rfl ?_; refine wpList_plain rfl (fun K hK => ?_); (first | (refine op_box _ _ rfl H (fun b w' H1 => hK _ _ ?_)) | (refine op_alloc _ rfl (zero_of _ _ rfl) H (fun b w' H1 => hK _ _ ?_)) | (refine op_store _ _ _ rfl rfl rfl H (by repeat (first | exact Split.here _ _ | apply Split.there)) (by kernel_rfl) (by kernel_rfl) (by kernel_rfl) (fun w' H1 => hK _ _ ?_)) | (refine op_buildSlice_all _ _ _ rfl (by first | exact elem25 | exact elem32 | exact elem35 | exact elem36 | exact elem37 | exact elem38 | exact elem41 | exact elem42 | exact elem45 | exact elem57 | exact elem62 | exact elem74 | exact elem98 | exact elem100 | exact elem137 | exact elem178 | exact elem179) (by kernel_rfl) (by kernel_rfl) (by kernel_rfl) H (fun b w' H1 => hK _ _ ?_))); clear hK K; replace H := H1; clear H1)); (try clear hc); (try simp only [nrm, splice, Value.cells, Nat.reduceAdd, Act.eval, Act.put] at H); have hc := H.cells; simp only [CellsOf, KnCells, knc, Nat.reduceAdd] at hc))) | go_values | go_skip | go_guarded | go_step | go_upon | go_back | dsimp only)
                  refine ⟨⟨_, _, _, _, qn + 1, _, false, last, gr, q ++ [gr], zs2, rfl, rfl, rfl, rfl, rfl, hsp2, hvn, by omega, hqn2, by omega, ?_⟩, by simp [intOf]; omega⟩
                  simp only [List.map_append, List.map_cons, List.map_nil]
                  exact H.sel (by repeat (first | exact Sel.nil _ | (apply Sel.cons; focus (repeat (first | exact Split.here _ _ | apply Split.there)))))
                | true =>
                  cases vr with
                  | false =>
                    have hsp2 := Lib.hid (hend.out zs2 false hyne.out hvt2.out)
                    have hc := H.cells; simp only [CellsOf, KnCells, knc, Nat.reduceAdd] at hc
                    repeat' (first | (go_big_may; (first
    | ((first
        | (refine loud_ rfl ?_; refine wpList_plain rfl (fun K hK => ?_); (first | (refine op_box _ _ rfl H (fun b w' H1 => hK _ _ ?_)) | (refine op_alloc _ rfl (zero_of _ _ rfl) H (fun b w' H1 => hK _ _ ?_)) | (refine op_store _ _ _ rfl rfl rfl H (by repeat (first | exact Split.here _ _ | apply Split.there)) (by kernel_rfl) (by kernel_rfl) (by kernel_rfl) (fun w' H1 => hK _ _ ?_)) | (refine op_buildSlice_all _ _ _ rfl (by first | exact elem25 | exact elem32 | exact elem35 | exact elem36 | exact elem37 | exact elem38 | exact elem41 | exact elem42 | exact elem45 | exact elem57 | exact elem62 | exact elem74 | exact elem98 | exact elem100 | exact elem137 | exact elem178 | exact elem179) (by kernel_rfl) (by kernel_rfl) (by kernel_rfl) H (fun b w' H1 => hK _ _ ?_))); clear hK K; replace H := H1; clear H1)); (try clear hc); (try simp only [nrm, splice, Value.cells, Nat.reduceAdd, Act.eval, Act.put] at H); have hc := H.cells; simp only [CellsOf, KnCells, knc, Nat.reduceAdd] at hc))) | go_values | go_skip | go_guarded | go_step | go_upon | go_back | dsimp only)
                    refine ⟨⟨_, _, _, _, qn + 1, _, true, last, gr, q ++ [gr], zs2, rfl, rfl, rfl, rfl, rfl, hsp2, hvn, by omega, hqn2, by omega, ?_⟩, by simp [intOf]; omega⟩
                    simp only [List.map_append, List.map_cons, List.map_nil]
                    exact H.sel (by repeat (first | exact Sel.nil _ | (apply Sel.cons; focus (repeat (first | exact Split.here _ _ | apply Split.there)))))
                  | true =>
                    have hsp2 := hend.out zs2 true hyne.out hvt2.out
                    have hmx : max last gr = gr := by omega
                    rw [if_pos rfl, hmx] at hsp2
                    replace hsp2 := Lib.hid hsp2
                    have hc := H.cells; simp only [CellsOf, KnCells, knc, Nat.reduceAdd] at hc
                    repeat' (first | (go_big_may; (first
    | ((first
        | (refine loud_ rfl ?_; refine wpList_plain rfl (fun K hK => ?_); (first | (refine op_box _ _ rfl H (fun b w' H1 => hK _ _ ?_)) | (refine op_alloc _ rfl (zero_of _ _ rfl) H (fun b w' H1 => hK _ _ ?_)) | (refine op_store _ _ _ rfl rfl rfl H (by repeat (first | exact Split.here _ _ | apply Split.there)) (by kernel_rfl) (by kernel_rfl) (by kernel_rfl) (fun w' H1 => hK _ _ ?_)) | (refine op_buildSlice_all _ _ _ rfl (by first | exact elem25 | exact elem32 | exact elem35 | exact elem36 | exact elem37 | exact elem38 | exact elem41 | exact elem42 | exact elem45 | exact elem57 | exact elem62 | exact elem74 | exact elem98 | exact elem100 | exact elem137 | exact elem178 | exact elem179) (by kernel_rfl) (by kernel_rfl) (by kernel_rfl) H (fun b w' H1 => hK _ _ ?_))); clear hK K; replace H := H1; clear H1)); (try clear hc); (try simp only [nrm, splice, Value.cells, Nat.reduceAdd, Act.eval, Act.put] at H); have hc := H.cells; simp only [CellsOf, KnCells, knc, Nat.reduceAdd] at hc))) | go_values | go_skip | go_guarded | go_step | go_upon | go_back | dsimp only)
                    refine ⟨⟨_, _, _, _, qn + 1, _, true, gr, gr, q ++ [gr], zs2, rfl, rfl, rfl, rfl, rfl, hsp2, hvn, by omega, hqn2, by omega, ?_⟩, by simp [intOf]; omega⟩
                    simp only [List.map_append, List.map_cons, List.map_nil]
                    exact H.sel (by repeat (first | exact Sel.nil _ | (apply Sel.cons; focus (repeat (first | exact Split.here _ _ | apply Split.there)))))
end Go.Proofs.Ytelddhcggmfloaa
