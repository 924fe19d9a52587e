import Derived.Test.YtelddhcggmfloaaCkR
import Derived.Test.YtelddhcggmfloaaCkE
-- MORE
-- SUB2
namespace Go.Proofs.Ytelddhcggmfloaa
set_option linter.unusedVariables false
set_option linter.unusedSimpArgs false
set_option linter.unnecessarySimpa false
open Go Go.RowKit Go.V

structure Rd where
  hs : Row KH
  rv : Row Int
  prs : Row (Row Pr)
def Rd.cells (d : Rd) : List Value := [d.hs.val, d.rv.val, d.prs.val]
theorem rd_cells_len (l : List Rd) : (l.flatMap Rd.cells).length = l.length * 3 := by
  induction l with
  | nil => rfl
  | cons a l ih => rw [List.flatMap_cons, List.length_append, ih, List.length_cons]; show 3 + _ = _; omega
def RdAt (w : World) (d : Rd) : Prop := Lies w d.hs.at' (d.hs.list.flatMap KH.cells) ∧ Lies w d.rv.at' (d.rv.list.map i8) ∧ Lies w d.prs.at' (d.prs.list.map Row.val) ∧ ∀ r ∈ d.prs.list, Lies w r.at' (r.list.flatMap Pr.cells)
def RdOk (d : Rd) : Prop := d.hs.list.length ≤ 12 ∧ d.rv.list.length = d.prs.list.length ∧ d.rv.list.length ≤ 12 ∧ ∀ r ∈ d.prs.list, r.list.length ≤ 12
theorem _root_.Go.V.St.nest {w0 w : World} {L : List Ent} (H : St [] w0 w L) {rs : List (Row Pr)} (h : ∀ r ∈ rs, Lies w0 r.at' (r.list.flatMap Pr.cells)) : St [] w0 w ((false, Go.Proofs.Ytelddhcggmfloaa.nest rs) :: L) := by
  have h0 := nest_holds h
  have h1 : holds w (Go.Proofs.Ytelddhcggmfloaa.nest rs) := h0.same (fun b hb => H.ext.block b (h0.2.1 b hb) (by simp)) H.ext.size
  refine H.read _ h1 (fun x hx hp b hb hbx => ?_)
  have h2 := H.perm x hx hp b hbx
  have h3 := h0.2.1 b hb
  simp at h2
  omega
structure SlI where
  key : Option Nat
  cap : Nat
  list : List Int
def SlI.val (s : SlI) : Value := sl s.key s.list.length s.cap
def SlI.entA (s : SlI) : Ent := (true, .row s.key 27 1 s.list.length s.cap (s.list.map uv))
def SlI.entQ (s : SlI) : Ent := (true, .row s.key 2 1 s.list.length s.cap (s.list.map i8))
theorem entA_all (aa : List SlI) : (aa.map SlI.entA).all (·.1) = true := by simp [SlI.entA]
theorem entQ_all (aa : List SlI) : (aa.map SlI.entQ).all (·.1) = true := by simp [SlI.entQ]
theorem bag_add {S : List Nat} {w0 w : World} {X L : List Ent} {e : Ent} (he : e.1 = true) (hX : X.all (·.1) = true) (H : St S w0 w (e :: (true, bag X) :: L)) : St S w0 w ((true, bag (X ++ [e])) :: L) := by
  have H1 := st_unfold (H.reorder (List.Perm.swap _ _ _))
  refine st_fold (by simp [hX, he]) (H1.reorder ?_)
  rw [List.append_assoc]
  exact List.Perm.refl _
def OneT (own : Int) (d : Rd) (last last' : Int) (a q : List Int) : Prop := ∃ zs, RdTold own d.hs.list d.rv.list d.prs.list last last' q zs ∧ a.Perm zs ∧ sortedI a
inductive RunT (own : Int) : List Rd → List (List Int) → List (List Int) → Int → Prop
  | nil : RunT own [] [] [] 0
  | snoc {rds : List Rd} {aa qs : List (List Int)} {last last' : Int} {d : Rd} {a q : List Int} (h : RunT own rds aa qs last) (h1 : OneT own d last last' a q) : RunT own (rds ++ [d]) (aa ++ [a]) (qs ++ [q]) last'
def AtHs (n : Nat) (hs : List KH) (rb : Nat) (rdv : Obj) (src : Option Addr) (L : List Ent) (w : World) (ov i : Value) (wr : World) : Prop := ∃ (k : Nat) (key : Option Nat) (cap : Nat), k ≤ n ∧ i = .int .i64 k ∧ ov = sl key k cap ∧
  St [] w wr ((true, .row key KVt 3 k cap ((hs.take k).flatMap KH.cells)) :: (false, .is rb rdv) :: (false, soft src (hs.flatMap KH.cells)) :: L)
def AtCC (n : Nat) (own : Int) (rds : List Rd) (src : Option Addr) (zb cb hb : Nat) (w : World) (av qv i : Value) (wr : World) : Prop := ∃ (j : Nat) (last : Int) (k7 k8 : Option Nat) (c7 c8 : Nat) (aa qs : List SlI) (v1 v2 v3 v4 : Value), j ≤ n ∧ i = .int .i64 j ∧ av = sl k7 j c7 ∧ qv = sl k8 j c8 ∧ Hid (RunT own (rds.take j) (aa.map SlI.list) (qs.map SlI.list) last) ∧
  St [] w wr [(true, .row k7 32 1 j c7 (aa.map SlI.val)), (true, .row k8 42 1 j c8 (qs.map SlI.val)), (true, bag (aa.map SlI.entA)), (true, bag (qs.map SlI.entQ)), (true, .is cb (chkO hb last)), (true, .is hb (hasO k0 k0 0 0 own v1 v2 v3 v4)), (false, .is zb (zzO cb hb)), (false, soft src (rds.flatMap Rd.cells))]
set_option maxRecDepth 8000 in
set_option maxHeartbeats 8000000 in
theorem compact_calls (own : Int) (rds : List Rd) (src : Option Addr) (n c : Nat) (hn : Hid (rds.length = n)) (hl : n ≤ 1000) (w : World) (hR : Hid (∀ d ∈ rds, RdAt w d ∧ RdOk d)) (H : St [] w w [(false, soft src (rds.flatMap Rd.cells))]) :
    Calls Try.prog 11 #[.int .u64 own, .slice src n c] w fun e w' => ∃ (k7 k8 : Option Nat) (c7 c8 : Nat) (aa qs : List SlI) (last : Int), Hid (RunT own rds (aa.map SlI.list) (qs.map SlI.list) last) ∧ e = .returned (.tuple #[sl k7 n c7, sl k8 n c8]) ∧
      St [] w w' [(true, .row k7 32 1 n c7 (aa.map SlI.val)), (true, .row k8 42 1 n c8 (qs.map SlI.val)), (true, bag (aa.map SlI.entA)), (true, bag (qs.map SlI.entQ))] := by
  have hmf := fun rb w => make23 rb w
  go_enter Try.func11, Try.ntmps11
  repeat' (first | (go_big_may; (first
    | go_skip
    | ((first
        | (go_at_call 21; refine Calls.mono (newChecker_calls own _) ?_; rintro e w' ⟨zb, cb, hb, rfl, H'⟩; replace H := H.merge (by first | exact Strikes.nil _ | (repeat (first | exact Strikes.nil _ | (apply Strikes.cons; focus (repeat (first | exact Split.here _ _ | apply Split.there)))))) H' rfl; clear H')
        | (refine loud_ rfl ?_; refine wpList_plain rfl (fun K hK => ?_); (first | (refine op_box _ _ rfl H (fun b w' H1 => hK _ _ ?_)) | (refine op_alloc _ rfl (zero_of _ _ rfl) H (fun b w' H1 => hK _ _ ?_)) | (refine op_store _ _ _ rfl rfl rfl H (by repeat (first | exact Split.here _ _ | apply Split.there)) (by kernel_rfl) (by kernel_rfl) (by kernel_rfl) (fun w' H1 => hK _ _ ?_)) | (refine op_buildSlice_all _ _ _ rfl (by first | exact elem25 | exact elem32 | exact elem35 | exact elem36 | exact elem37 | exact elem38 | exact elem41 | exact elem42 | exact elem45 | exact elem57 | exact elem62 | exact elem74 | exact elem98 | exact elem100 | exact elem137 | exact elem178 | exact elem179) (by kernel_rfl) (by kernel_rfl) (by kernel_rfl) H (fun b w' H1 => hK _ _ ?_))); clear hK K; replace H := H1; clear H1)); (try clear hc); (try simp only [nrm, splice, Value.cells, Nat.reduceAdd, Act.eval, Act.put] at H); have hc := H.cells; simp only [CellsOf, KnCells, knc, Nat.reduceAdd] at hc))) | go_values | go_skip | go_guarded | go_step | go_upon | go_back | dsimp only)
  have H0 : St [] w w' [(true, .row none 32 1 0 0 (([] : List SlI).map SlI.val)), (true, .row none 42 1 0 0 (([] : List SlI).map SlI.val)), (true, bag (([] : List SlI).map SlI.entA)), (true, bag (([] : List SlI).map SlI.entQ)), (true, .is cb (chkO hb 0)), (true, .is hb (hasO k0 k0 0 0 own .nilFunc (.slice none 0 0) (.slice none 0 0) (.slice none 0 0))), (false, .is zb (zzO cb hb)), (false, soft src (rds.flatMap Rd.cells))] := by
    have H1 := (H.ro (k := .is zb (zzO cb hb)) (by repeat (first | exact Split.here _ _ | apply Split.there)))
    (try simp only [List.append, List.cons_append, List.nil_append] at H1)
    have H2 := st_fold (X := []) rfl (st_fold (X := []) rfl (((H1.nilRow 42 1).nilRow 32 1)))
    exact H2.sel (by repeat (first | exact Sel.nil _ | (apply Sel.cons; focus (repeat (first | exact Split.here _ _ | apply Split.there)))))
  clear H hc
  go_loopw [7, 8, 9] (AtCC n own rds src zb cb hb w) (fun _ _ i _ => n - (intOf i).toNat)
  case atStart => exact ⟨0, 0, none, none, 0, 0, [], [], _, _, _, _, Nat.zero_le _, rfl, rfl, rfl, .nil, H0⟩
  case round =>
    clear H0
    obtain ⟨j, last, k7, k8, c7, c8, aa, qs, v1, v2, v3, v4, hj, rfl, rfl, rfl, hrun, H⟩ := hrel
    by_cases hlt : j < n
    · have hj' : j < rds.length := by rw [hn.out]; exact hlt
      have hcat : Hid (rds.take (j + 1) = rds.take j ++ [rds[j]]) := (List.take_append_getElem hj').symm
      have hd := Lib.hid (hR.out _ (List.getElem_mem hj'))
      obtain ⟨b1, o1, rfl, H1⟩ := H.elemSoft (Split.there _ (Split.there _ (Split.there _ (Split.there _ (Split.there _ (Split.there _ (Split.there _ (Split.here _ _)))))))) (j * 3) (rds[j]).cells (by show 0 < 3; omega) (by rw [rd_cells_len]; show _ + 3 ≤ _; omega) (fun i hi => flat_at Rd.cells 3 rds (fun _ _ => rfl) j i hj' hi)
      clear H
      have H := H1
      clear H1
      generalize rds[j] = d at *
      obtain ⟨⟨ha, hcp, hsl⟩, ⟨ra, rcp, rl⟩, ⟨pa, pcp, pl⟩⟩ := d
      simp only [Rd.cells, Row.val] at H
      clear hj'
      have hh12 : hsl.length ≤ 12 := hd.out.2.1
      have hrp : rl.length = pl.length := hd.out.2.2.1
      have hr12 : rl.length ≤ 12 := hd.out.2.2.2.1
      have hp12 := Lib.hid hd.out.2.2.2.2
      have hp1000 : Hid (∀ r ∈ pl, r.list.length ≤ 1000) := fun r hr => by have := hp12.out r hr; omega
      replace H := H.soft hd.out.1.1
      simp only at H
      generalize hhn : hsl.length = hn9 at *
      have hhn2 := Lib.hid hhn
      clear hhn
      generalize hrn : rl.length = rn at *
      have hrn2 := Lib.hid hrn
      clear hrn
      have hpn2 : Hid (pl.length = rn) := hrp.symm
      rw [← hrp] at H
      clear hrp
      have hc := H.cells; simp only [CellsOf, KnCells, knc, Nat.reduceAdd] at hc
      repeat' (first | (go_big_may; (first
    | ((first
        | (refine loud_ rfl ?_; refine wpList_plain rfl (fun K hK => ?_); (first | (refine op_box _ _ rfl H (fun b w' H1 => hK _ _ ?_)) | (refine op_alloc _ rfl (zero_of _ _ rfl) H (fun b w' H1 => hK _ _ ?_)) | (refine op_store _ _ _ rfl rfl rfl H (by repeat (first | exact Split.here _ _ | apply Split.there)) (by kernel_rfl) (by kernel_rfl) (by kernel_rfl) (fun w' H1 => hK _ _ ?_)) | (refine op_buildSlice_all _ _ _ rfl (by first | exact elem25 | exact elem32 | exact elem35 | exact elem36 | exact elem37 | exact elem38 | exact elem41 | exact elem42 | exact elem45 | exact elem57 | exact elem62 | exact elem74 | exact elem98 | exact elem100 | exact elem137 | exact elem178 | exact elem179) (by kernel_rfl) (by kernel_rfl) (by kernel_rfl) H (fun b w' H1 => hK _ _ ?_))); clear hK K; replace H := H1; clear H1)); (try clear hc); (try simp only [nrm, splice, Value.cells, Nat.reduceAdd, Act.eval, Act.put] at H); have hc := H.cells; simp only [CellsOf, KnCells, knc, Nat.reduceAdd] at hc))) | go_values | go_skip | go_guarded | go_step | go_upon | go_back | dsimp only)
      obtain ⟨rb, rfl⟩ : ∃ q, q = b := ⟨_, rfl⟩
      have H1 := H.ro (k := .is rb _) (by repeat (first | exact Split.here _ _ | apply Split.there))
      (try simp only [List.append, List.cons_append, List.nil_append] at H1)
      have H0 : St [] w w' ((true, .row none KVt 3 0 0 ((hsl.take 0).flatMap KH.cells)) :: (false, .is rb (rdO (.slice ha hn9 hcp) ra rn rcp pa rn pcp)) :: (false, soft ha (hsl.flatMap KH.cells)) :: [(true, .row k7 32 1 j c7 (aa.map SlI.val)), (true, .row k8 42 1 j c8 (qs.map SlI.val)), (true, bag (aa.map SlI.entA)), (true, bag (qs.map SlI.entQ)), (true, .is cb (chkO hb last)), (true, .is hb (hasO k0 k0 0 0 own v1 v2 v3 v4)), (false, .is zb (zzO cb hb)), (false, soft (some ⟨b1, o1, none⟩) (rds.flatMap Rd.cells))]) := (H1.nilRow KVt 3).sel (by repeat (first | exact Sel.nil _ | (apply Sel.cons; focus (repeat (first | exact Split.here _ _ | apply Split.there)))))
      clear H H1 hc
      go_loopw [11, 12] (AtHs hn9 hsl rb (rdO (.slice ha hn9 hcp) ra rn rcp pa rn pcp) ha [(true, .row k7 32 1 j c7 (aa.map SlI.val)), (true, .row k8 42 1 j c8 (qs.map SlI.val)), (true, bag (aa.map SlI.entA)), (true, bag (qs.map SlI.entQ)), (true, .is cb (chkO hb last)), (true, .is hb (hasO k0 k0 0 0 own v1 v2 v3 v4)), (false, .is zb (zzO cb hb)), (false, soft (some ⟨b1, o1, none⟩) (rds.flatMap Rd.cells))] w) (fun _ i _ => hn9 - (intOf i).toNat)
      case atStart => exact ⟨0, none, 0, Nat.zero_le _, rfl, rfl, H0⟩
      case round =>
        clear H0
        obtain ⟨k, key, cap, hk, rfl, rfl, H⟩ := hrel
        by_cases hlt2 : k < hn9
        · have hk' : k < hsl.length := by rw [hhn2.out]; exact hlt2
          have hcat2 : Hid (hsl.take (k + 1) = hsl.take k ++ [hsl[k]]) := (List.take_append_getElem hk').symm
          obtain ⟨b2, o2, rfl, H1⟩ := H.elemSoft (Split.there _ (Split.there _ (Split.here _ _))) (k * 3) (hsl[k]).cells (by show 0 < 3; omega) (by rw [kh_flat]; show _ + 3 ≤ _; omega) (fun i hi => flat_at KH.cells 3 hsl (fun _ _ => rfl) k i hk' hi)
          clear H
          have H := H1
          clear H1
          generalize hsl[k] = h at *
          obtain ⟨fh, fc, fr⟩ := h
          simp only [KH.cells] at H
          clear hk'
          have hc := H.cells; simp only [CellsOf, KnCells, knc, Nat.reduceAdd] at hc
          repeat' (first | (go_big_may; (first
    | go_skip
    | ((first
        | (go_at_call 18; refine Calls.mono (hashIn_calls ⟨fh, fc, fr⟩ _) ?_; rintro e w' ⟨rfl, H'⟩; replace H := H.of_ext H'; clear H')
        | (refine loud_ rfl ?_; refine wpList_plain rfl (fun K hK => ?_); (first | (refine op_append_lit _ _ _ rfl elem62 rfl rfl H (by repeat (first | exact Split.here _ _ | apply Split.there)) (by repeat (first | exact Split.here _ _ | apply Split.there)) (by kernel_rfl) (by kernel_rfl) (by omega) (by unfold maxLen; omega) (fun key cap' w' H1 => hK _ _ ?_)) | (refine op_box _ _ rfl H (fun b w' H1 => hK _ _ ?_)) | (refine op_alloc _ rfl (zero_of _ _ rfl) H (fun b w' H1 => hK _ _ ?_)) | (refine op_store _ _ _ rfl rfl rfl H (by repeat (first | exact Split.here _ _ | apply Split.there)) (by kernel_rfl) (by kernel_rfl) (by kernel_rfl) (fun w' H1 => hK _ _ ?_)) | (refine op_buildSlice_all _ _ _ rfl (by first | exact elem25 | exact elem32 | exact elem35 | exact elem36 | exact elem37 | exact elem38 | exact elem41 | exact elem42 | exact elem45 | exact elem57 | exact elem62 | exact elem74 | exact elem98 | exact elem100 | exact elem137 | exact elem178 | exact elem179) (by kernel_rfl) (by kernel_rfl) (by kernel_rfl) H (fun b w' H1 => hK _ _ ?_))); clear hK K; replace H := H1; clear H1)); (try clear hc); (try simp only [nrm, splice, Value.cells, Nat.reduceAdd, Act.eval, Act.put] at H); have hc := H.cells; simp only [CellsOf, KnCells, knc, Nat.reduceAdd] at hc))) | go_values | go_skip | go_guarded | go_step | go_upon | go_back | dsimp only)
          refine ⟨⟨k + 1, key, cap', by omega, by go_num, rfl, ?_⟩, by simp [intOf]; omega⟩
          rw [hcat2.out, List.flatMap_append, List.flatMap_cons, List.flatMap_nil, List.append_nil]
          exact H.sel (by repeat (first | exact Sel.nil _ | (apply Sel.cons; focus (repeat (first | exact Split.here _ _ | apply Split.there)))))
        · obtain rfl : k = hn9 := by omega
          rw [List.take_of_length_le (by rw [hhn2.out]; exact Nat.le_refl _)] at H
          replace H := H.rowSoft (key := key) (by repeat (first | exact Split.here _ _ | apply Split.there))
          (try simp only [List.append, List.cons_append, List.nil_append] at H)
          (try rw [show sl key k cap = Value.slice (key.map fun b => (⟨b, 0, none⟩ : Addr)) k cap from rfl])
          generalize (key.map fun b => (⟨b, 0, none⟩ : Addr)) = sh at *
          replace H := ((H.soft hd.out.1.2.1).soft hd.out.1.2.2.1).nest hd.out.1.2.2.2
          simp only at H
          have hc := H.cells; simp only [CellsOf, KnCells, knc, Nat.reduceAdd] at hc
          repeat' (first | (go_big_may; (first
    | go_skip
    | ((first
        | (go_at_call 22; refine Calls.mono (round_calls zb cb hb last own _ _ _ _ hsl _ k _ rb _ rl pl _ _ rn rcp pcp hhn2 (by omega) hrn2 hpn2 (by omega) hp1000 _ _ (H.pick (by repeat (first | exact Picks.nil _ | (apply Picks.wr; focus (repeat (first | exact Split.here _ _ | apply Split.there))) | (apply Picks.rd; focus (repeat (first | exact Split.here _ _ | apply Split.there))))))) ?_; rintro e w' ⟨last', ask, zs, akey, rkey, an, ar, acap, rcap, w1, w2, w3, w4, ht, rfl, H'⟩; replace H := H.merge (by first | exact Strikes.nil _ | (repeat (first | exact Strikes.nil _ | (apply Strikes.cons; focus (repeat (first | exact Split.here _ _ | apply Split.there)))))) H' rfl; clear H')
        | (go_at_call 25; refine Calls.mono (sortU_calls akey an acap zs ht.out.2.1.symm (by have := rd_len ht.out.1 hp12.out; have := ht.out.2.1; omega) _ _ (H.pick (by repeat (first | exact Picks.nil _ | (apply Picks.wr; focus (repeat (first | exact Split.here _ _ | apply Split.there))) | (apply Picks.rd; focus (repeat (first | exact Split.here _ _ | apply Split.there))))))) ?_; rintro e w' ⟨ls, hls, rfl, H'⟩; replace H := H.merge (by first | exact Strikes.nil _ | (repeat (first | exact Strikes.nil _ | (apply Strikes.cons; focus (repeat (first | exact Split.here _ _ | apply Split.there)))))) H' rfl; clear H')
        | (refine loud_ rfl ?_; refine wpList_plain rfl (fun K hK => ?_); (first | (refine op_append_lit _ _ _ rfl elem37 rfl rfl H (by repeat (first | exact Split.here _ _ | apply Split.there)) (by repeat (first | exact Split.here _ _ | apply Split.there)) (by kernel_rfl) (by kernel_rfl) (by omega) (by unfold maxLen; omega) (fun key cap' w' H1 => hK _ _ ?_)) | (refine op_append_lit _ _ _ rfl elem38 rfl rfl H (by repeat (first | exact Split.here _ _ | apply Split.there)) (by repeat (first | exact Split.here _ _ | apply Split.there)) (by kernel_rfl) (by kernel_rfl) (by omega) (by unfold maxLen; omega) (fun key cap' w' H1 => hK _ _ ?_)) | (refine op_box _ _ rfl H (fun b w' H1 => hK _ _ ?_)) | (refine op_alloc _ rfl (zero_of _ _ rfl) H (fun b w' H1 => hK _ _ ?_)) | (refine op_store _ _ _ rfl rfl rfl H (by repeat (first | exact Split.here _ _ | apply Split.there)) (by kernel_rfl) (by kernel_rfl) (by kernel_rfl) (fun w' H1 => hK _ _ ?_)) | (refine op_buildSlice_all _ _ _ rfl (by first | exact elem25 | exact elem32 | exact elem35 | exact elem36 | exact elem37 | exact elem38 | exact elem41 | exact elem42 | exact elem45 | exact elem57 | exact elem62 | exact elem74 | exact elem98 | exact elem100 | exact elem137 | exact elem178 | exact elem179) (by kernel_rfl) (by kernel_rfl) (by kernel_rfl) H (fun b w' H1 => hK _ _ ?_))); clear hK K; replace H := H1; clear H1)); (try clear hc); (try simp only [nrm, splice, Value.cells, Nat.reduceAdd, Act.eval, Act.put] at H); have hc := H.cells; simp only [CellsOf, KnCells, knc, Nat.reduceAdd] at hc))) | go_values | go_skip | go_guarded | go_step | go_upon | go_back | dsimp only)
          have hal : an = ls.length := ht.out.2.1.trans hls.out.1.length_eq.symm
          subst hal
          have har : ar = ask.length := ht.out.2.2
          subst har
          have hone : Hid (OneT own ⟨⟨ha, hcp, hsl⟩, ⟨ra, rcp, rl⟩, ⟨pa, pcp, pl⟩⟩ last last' ls ask) := ⟨zs, ht.out.1, hls.out.1, hls.out.2⟩
          have hrun2 : Hid (RunT own (rds.take (j + 1)) ((aa ++ [(⟨akey, acap, ls⟩ : SlI)]).map SlI.list) ((qs ++ [(⟨rkey, rcap, ask⟩ : SlI)]).map SlI.list) last') := by
            rw [hcat.out, List.map_append, List.map_append]
            exact hrun.out.snoc hone.out
          refine ⟨⟨j + 1, last', _, _, _, _, aa ++ [⟨akey, acap, ls⟩], qs ++ [⟨rkey, rcap, ask⟩], w1, w2, w3, w4, by omega, by go_num, rfl, rfl, hrun2, ?_⟩, by simp [intOf]; omega⟩
          simp only [List.map_append, List.map_cons, List.map_nil]
          have H2 := bag_add (e := SlI.entA ⟨akey, acap, ls⟩) rfl (entA_all aa) (H.sel (L' := SlI.entA ⟨akey, acap, ls⟩ :: (true, bag (aa.map SlI.entA)) :: [SlI.entQ ⟨rkey, rcap, ask⟩, (true, bag (qs.map SlI.entQ)), (true, .row _ 32 1 (j + 1) _ (aa.map SlI.val ++ [sl akey ls.length acap])), (true, .row _ 42 1 (j + 1) _ (qs.map SlI.val ++ [sl rkey ask.length rcap])), (true, .is cb (chkO hb last')), (true, .is hb (hasO k0 k0 0 0 own w1 w2 w3 w4)), (false, .is zb (zzO cb hb)), (false, soft (some ⟨b1, o1, none⟩) (rds.flatMap Rd.cells))]) (by repeat (first | exact Sel.nil _ | (apply Sel.cons; focus (repeat (first | exact Split.here _ _ | apply Split.there))))))
          have H3 := bag_add (e := SlI.entQ ⟨rkey, rcap, ask⟩) rfl (entQ_all qs) (H2.sel (L' := SlI.entQ ⟨rkey, rcap, ask⟩ :: (true, bag (qs.map SlI.entQ)) :: [(true, bag (aa.map SlI.entA ++ [SlI.entA ⟨akey, acap, ls⟩])), (true, .row _ 32 1 (j + 1) _ (aa.map SlI.val ++ [sl akey ls.length acap])), (true, .row _ 42 1 (j + 1) _ (qs.map SlI.val ++ [sl rkey ask.length rcap])), (true, .is cb (chkO hb last')), (true, .is hb (hasO k0 k0 0 0 own w1 w2 w3 w4)), (false, .is zb (zzO cb hb)), (false, soft (some ⟨b1, o1, none⟩) (rds.flatMap Rd.cells))]) (by repeat (first | exact Sel.nil _ | (apply Sel.cons; focus (repeat (first | exact Split.here _ _ | apply Split.there))))))
          exact H3.sel (by repeat (first | exact Sel.nil _ | (apply Sel.cons; focus (repeat (first | exact Split.here _ _ | apply Split.there)))))
    · obtain rfl : j = n := by omega
      rw [List.take_of_length_le (by rw [hn.out]; omega)] at hrun
      have hc := H.cells; simp only [CellsOf, KnCells, knc, Nat.reduceAdd] at hc
      repeat' (first | (go_big_may; (first
    | ((first
        | (refine loud_ rfl ?_; refine wpList_plain rfl (fun K hK => ?_); (first | (refine op_box _ _ rfl H (fun b w' H1 => hK _ _ ?_)) | (refine op_alloc _ rfl (zero_of _ _ rfl) H (fun b w' H1 => hK _ _ ?_)) | (refine op_store _ _ _ rfl rfl rfl H (by repeat (first | exact Split.here _ _ | apply Split.there)) (by kernel_rfl) (by kernel_rfl) (by kernel_rfl) (fun w' H1 => hK _ _ ?_)) | (refine op_buildSlice_all _ _ _ rfl (by first | exact elem25 | exact elem32 | exact elem35 | exact elem36 | exact elem37 | exact elem38 | exact elem41 | exact elem42 | exact elem45 | exact elem57 | exact elem62 | exact elem74 | exact elem98 | exact elem100 | exact elem137 | exact elem178 | exact elem179) (by kernel_rfl) (by kernel_rfl) (by kernel_rfl) H (fun b w' H1 => hK _ _ ?_))); clear hK K; replace H := H1; clear H1)); (try clear hc); (try simp only [nrm, splice, Value.cells, Nat.reduceAdd, Act.eval, Act.put] at H); have hc := H.cells; simp only [CellsOf, KnCells, knc, Nat.reduceAdd] at hc))) | go_values | go_skip | go_guarded | go_step | go_upon | go_back | dsimp only)
      go_ret2
      exact ⟨k7, k8, c7, c8, aa, qs, last, hrun, rfl, H.sel (by repeat (first | exact Sel.nil _ | (apply Sel.cons; focus (repeat (first | exact Split.here _ _ | apply Split.there)))))⟩
end Go.Proofs.Ytelddhcggmfloaa
