import Derived.Test.YtlikpgidjdjgnaaRingQe
import Derived.Test.YtlikpgidjdjgnaaRingZ
-- MORE
namespace Go.Proofs.Ytlikpgidjdjgnaa
set_option linter.unusedVariables false
set_option linter.unusedSimpArgs false
set_option linter.unnecessarySimpa false
open Go.RowKit Go.V

theorem QM.next_le (kind : Int) (normal : Nat) (m : QM) (x : ROp) : (m.next kind normal x.kind x.vals).q.length ≤ m.q.length + (if x.kind = 1 then x.vals.length else 0) ∧ (m.next kind normal x.kind x.vals).total ≤ m.total + (if x.kind = 1 then x.vals.length else 0) ∧
    (m.next kind normal x.kind x.vals).places ≤ max (max m.places normal) (2 * (m.q.length + (if x.kind = 1 then x.vals.length else 0)) + 16) := by
  unfold QM.next
  by_cases k1 : x.kind = 1
  · rw [if_pos k1, if_pos k1]
    have := QM.writes_le kind x.vals m
    omega
  · rw [if_neg k1, if_neg k1]
    by_cases k2 : x.kind = 2
    · rw [if_pos k2]
      refine ⟨by simp, by simp, ?_⟩
      simp only
      split <;> omega
    · rw [if_neg k2]
      split
      · refine ⟨by simp, by simp, ?_⟩
        simp only
        omega
      · omega
theorem QM.runs_le (kind : Int) (normal : Nat) (l : List ROp) : ∀ m : QM, (m.runs kind normal l).q.length ≤ m.q.length + wl l ∧ (m.runs kind normal l).total ≤ m.total + wl l ∧ (m.runs kind normal l).places ≤ max (max m.places normal) (2 * (m.q.length + wl l) + 16) := by
  induction l with
  | nil => intro m; simp only [QM.runs]; omega
  | cons x l ih =>
    intro m
    obtain ⟨h1, h2, h3⟩ := QM.next_le kind normal m x
    obtain ⟨h4, h5, h6⟩ := ih (m.next kind normal x.kind x.vals)
    rw [wl_cons]
    show ((m.next kind normal x.kind x.vals).runs kind normal l).q.length ≤ _ ∧ ((m.next kind normal x.kind x.vals).runs kind normal l).total ≤ _ ∧ ((m.next kind normal x.kind x.vals).runs kind normal l).places ≤ _
    omega

theorem qdo_at (qb : Nat) (kind : Int) (hk : Hid (kind = 0 ∨ kind = 1 ∨ kind = 2)) (normal qc n : Nat) (m m' : QM) (n' : Nat) (wb : Bool) (wn : Int) (wv : List Int) (l : Nat) (hlv : Hid (wv.length = l)) (op : Int) (qs : Option Addr) (src : Option Addr) (k cap : Nat) (v : List Int) (S : List Nat) (w : World)
    (ha : Hid (m.ans op = (wb, wn, wv))) (hx : Hid (m.next kind normal op v = m')) (hl : Hid (m'.q.length = n')) (hq : Hid (m.q.length = n)) (hs : Hid (qs = none → n = 0)) (hqc : Hid (n ≤ qc)) (hsrc : Hid (src = none → k = 0)) (hv : Hid (v.length = k)) (hb1 : Hid (op = 1 → n + k ≤ 10000)) (hb2 : Hid (op = 1 → m.total + k ≤ 10000)) (hb3 : m.places ≤ 10000) (hn : n ≤ 10000) (ht : m.total ≤ 10000)
    (H : St S w w ((false, soft src (ints v)) :: qents qb kind m.places normal qs n qc m.total m.q)) :
    Calls Try.prog 11 #[.pointer (some ⟨qb, 0, none⟩), .agg #[.int .i64 op, .slice src k cap]] w fun e w' => ∃ key cap qs qc, Hid (n' ≤ qc) ∧ Hid (qs = none → n' = 0) ∧ e = .returned (.agg #[.bool wb, .int .i64 wn, sl key l cap]) ∧
      St S w w' ((true, .row key 3 1 l cap (ints wv)) :: qents qb kind m'.places normal qs n' qc m'.total m'.q) := by
  refine (qdo_any qb kind hk.out normal qc n m op qs src k cap v S w hq hs hqc hsrc hv hb1.out hb2.out hb3 hn ht H).mono ?_
  rintro e w' ⟨key, l', cap, qs, qc, h1, h2, h3, rfl, H'⟩
  rw [ha.out] at h1 H' ⊢
  obtain rfl : l' = l := h1.trans hlv.out
  rw [hx.out] at h2 h3 H'
  rw [hl.out] at h2 h3 H'
  exact ⟨key, cap, qs, qc, h2, h3, rfl, H'⟩

theorem QM.ans_len (m : QM) (op : Int) : (m.ans op).2.2.length ≤ m.q.length + 1 := by
  unfold QM.ans
  split
  · cases m.q <;> simp
  · split
    · simp
    · split
      · simp
      · split
        · simp
        · split <;> simp
/-- An answer's row, for itself. -/
theorem _root_.Go.V.St.ansRow2 {S : List Nat} {w0 w : World} {L A B : List Ent} {la : List RA} {fp : List Nat} (H : St S w0 w L) (hs : Split L (false, .rep fp (RAsAt la fp)) A B) (a : RA) (ha : a ∈ la) :
    a.m = a.l.length ∧ St S w0 w ((false, soft (a.key.map fun b => ⟨b, 0, none⟩) (ints a.l)) :: L) := by
  have hR : RAsAt la fp w := H.rep hs
  have h1 := hR.2 a ha
  refine ⟨h1.1, ?_⟩
  have hl : Lies w (a.key.map fun b => ⟨b, 0, none⟩) (ints a.l) := lies_of_arr (row_arr h1.2)
  refine H.sub hs _ (soft_holds hl) ?_
  intro c hc
  have hfp := hR.1
  rw [show (Kn.rep fp (RAsAt la fp)).fp = fp from rfl, hfp]
  refine List.mem_flatMap.2 ⟨a, ha, ?_⟩
  revert hc
  cases a.key <;> cases ints a.l <;> simp [Kn.fp, softFp]

/-- How far the law's loop is. -/
def AtAns (kind : Int) (P M n qb : Nat) (key : Option Nat) (src : Option Addr) (ops : List ROp) (rs : List RA) (fp : List Nat) (w : World) (i : Value) (wr : World) : Prop :=
  ∃ (j qn qc : Nat) (qs : Option Addr) (m : QM), j ≤ n ∧ i = .int .i64 j ∧ Hid ((QM.mk P [] 0).runs kind M (ops.take j) = m) ∧ Hid (m.q.length = qn) ∧ Hid (qn ≤ qc) ∧ Hid (qs = none → qn = 0) ∧
    St [] w wr [(true, .is qb (qobj kind m.places M qs qn qc m.total)), (true, soft qs (ints m.q)), (false, .arr (key.map fun b => ⟨b, 0, none⟩) (rs.flatMap RA.cells)), (false, .rep fp (RAsAt rs fp)), (false, soft src (ops.flatMap ROp.cells))]

set_option maxRecDepth 4000 in
set_option maxHeartbeats 4000000 in
theorem ringAns_calls (kind initial normal : Int) (src : Option Addr) (c : Nat) (ops : List ROp) (n : Nat) (w : World) (hn : Hid (ops.length = n)) (hs : Hid (∀ o ∈ ops, Lies w o.at' (ints o.vals) ∧ (o.at' = none → o.vals.length = 0))) (H : St [] w w [(false, soft src (ops.flatMap ROp.cells))]) :
    Calls Try.prog 4 #[.int .i64 kind, .int .i64 initial, .int .i64 normal, .slice src n c] w fun e w' => e = .returned (.bool true) ∧ St [] w w' [] := by
  by_cases hR : RGood kind initial normal ops
  case neg =>
    have hR' := Lib.hid hR
    clear hR
    go_enter Try.func4, Try.ntmps4
    go_wp2_with (first
    | (go_at_call 9; refine Calls.mono (fits28_calls _ _ ops _ _ hn (H.pick (by repeat (first | exact Picks.nil _ | (apply Picks.wr; focus (repeat (first | exact Split.here _ _ | apply Split.there))) | (apply Picks.rd; focus (repeat (first | exact Split.here _ _ | apply Split.there))))))) ?_; rintro e w' ⟨t, hfit, rfl, H'⟩; replace H := H.of_ext H'; clear H'; cases t; all_goals (try (replace hfit := Lib.hid (hfit.out rfl))))
    | (go_at_call 10; refine Calls.mono (rgGood_calls _ _ _ _ _ ops _ _ hn hfit.out (H.pick (by repeat (first | exact Picks.nil _ | (apply Picks.wr; focus (repeat (first | exact Split.here _ _ | apply Split.there))) | (apply Picks.rd; focus (repeat (first | exact Split.here _ _ | apply Split.there))))))) ?_; rintro e w' ⟨t, rfl, H', hgo⟩; replace H := H.of_ext H'; clear H'; obtain rfl : t = false := (by cases t; rfl; exact absurd (hgo rfl) hR'.out); clear hgo)
    | (go_at_call 6; refine Calls.mono (rgLive_calls _) ?_; rintro e w' ⟨rfl, H'⟩; replace H := H.of_ext H'; clear H'; (try clear hc); (try simp only [nrm, splice, Value.cells, Nat.reduceAdd, Act.eval, Act.put] at H); have hc := H.cells; simp only [CellsOf, KnCells, arr_lit, knAt_cons, knAt_nil, Nat.zero_add, Nat.add_zero, Nat.reduceAdd] at hc)
    | (refine loud_ rfl ?_; refine wpList_plain rfl (fun K hK => ?_); first
      | (refine op_box _ _ rfl H (fun b w' H1 => hK _ _ ?_); clear hK K; replace H := H1; clear H1; (try clear hc); (try simp only [nrm, splice, Value.cells, Nat.reduceAdd, Act.eval, Act.put] at H); have hc := H.cells; simp only [CellsOf, KnCells, arr_lit, knAt_cons, knAt_nil, Nat.zero_add, Nat.add_zero, Nat.reduceAdd] at hc)
      | (refine op_alloc _ rfl (zero_of _ _ rfl) H (fun b w' H1 => hK _ _ ?_); clear hK K; replace H := H1; clear H1; (try clear hc); (try simp only [nrm, splice, Value.cells, Nat.reduceAdd, Act.eval, Act.put] at H); have hc := H.cells; simp only [CellsOf, KnCells, arr_lit, knAt_cons, knAt_nil, Nat.zero_add, Nat.add_zero, Nat.reduceAdd] at hc)
      | (refine op_store _ _ _ rfl rfl rfl H (by repeat (first | exact Split.here _ _ | apply Split.there)) (by kernel_rfl) (by kernel_rfl) (by kernel_rfl) (fun w' H1 => hK _ _ ?_); clear hK K; replace H := H1; clear H1; (try clear hc); (try simp only [nrm, splice, Value.cells, Nat.reduceAdd, Act.eval, Act.put] at H); have hc := H.cells; simp only [CellsOf, KnCells, arr_lit, knAt_cons, knAt_nil, Nat.zero_add, Nat.add_zero, Nat.reduceAdd] at hc)
      | (refine op_buildSlice_all _ _ _ rfl (by first | exact elem22 | exact elem25 | exact elem26 | exact elem29) (by kernel_rfl) (by kernel_rfl) (by kernel_rfl) H (fun b w' H1 => hK _ _ ?_); clear hK K; replace H := H1; clear H1; (try clear hc); (try simp only [nrm, splice, Value.cells, Nat.reduceAdd, Act.eval, Act.put] at H); have hc := H.cells; simp only [CellsOf, KnCells, arr_lit, knAt_cons, knAt_nil, Nat.zero_add, Nat.add_zero, Nat.reduceAdd] at hc)))
    all_goals
      go_ret
      exact ⟨rfl, H.top0⟩
  case pos =>
    obtain ⟨P, rfl⟩ : ∃ P : Nat, initial = P := ⟨initial.toNat, by have := hR.ini; omega⟩
    obtain ⟨M, rfl⟩ : ∃ M : Nat, normal = M := ⟨normal.toNat, by have := hR.nor; omega⟩
    have hP := hR.ini
    have hM := hR.nor
    have hn3 : n ≤ 300 := by have := hR.few; have := hn.out; omega
    have hR' := Lib.hid hR
    clear hR
    have hsx : ∀ w', Ext [] w w' → Hid (∀ o ∈ ops, Lies w' o.at' (ints o.vals) ∧ (o.at' = none → o.vals.length = 0)) := by
      intro w' hx
      show ∀ o ∈ ops, _
      intro o ho
      obtain ⟨g1, g2⟩ := hs.out o ho
      exact ⟨lies_same g1 (fun b hb => hx.block b (soft_lt g1 b hb) (by simp)), g2⟩
    have hsx' := Lib.hid hsx
    clear hsx
    go_enter Try.func4, Try.ntmps4
    go_wp2_with (first
    | (go_at_call 9; refine Calls.mono (fits28_calls _ _ ops _ _ hn (H.pick (by repeat (first | exact Picks.nil _ | (apply Picks.wr; focus (repeat (first | exact Split.here _ _ | apply Split.there))) | (apply Picks.rd; focus (repeat (first | exact Split.here _ _ | apply Split.there))))))) ?_; rintro e w' ⟨t, hfit, rfl, H'⟩; replace H := H.of_ext H'; clear H'; cases t; all_goals (try (replace hfit := Lib.hid (hfit.out rfl))))
    | (go_at_call 10; refine Calls.mono (rgGood_calls _ _ _ _ _ ops _ _ hn hfit.out (H.pick (by repeat (first | exact Picks.nil _ | (apply Picks.wr; focus (repeat (first | exact Split.here _ _ | apply Split.there))) | (apply Picks.rd; focus (repeat (first | exact Split.here _ _ | apply Split.there))))))) ?_; rintro e w' ⟨t, rfl, H', hgo⟩; replace H := H.of_ext H'; clear H' hgo; cases t)
    | (go_at_call 6; refine Calls.mono (rgLive_calls _) ?_; rintro e w' ⟨rfl, H'⟩; replace H := H.of_ext H'; clear H'; (try clear hc); (try simp only [nrm, splice, Value.cells, Nat.reduceAdd, Act.eval, Act.put] at H); have hc := H.cells; simp only [CellsOf, KnCells, arr_lit, knAt_cons, knAt_nil, Nat.zero_add, Nat.add_zero, Nat.reduceAdd] at hc)
    | (go_at_call 7; refine Calls.mono (ring_any kind P M ops hR'.out src n c _ hn (hsx'.out _ H.ext) (H.pick (by repeat (first | exact Picks.nil _ | (apply Picks.wr; focus (repeat (first | exact Split.here _ _ | apply Split.there))) | (apply Picks.rd; focus (repeat (first | exact Split.here _ _ | apply Split.there))))))) ?_; rintro e w' ⟨key, cap', rs, fp, hag, rfl, H'⟩; replace H := H.merge (by first | exact Strikes.nil _ | (repeat (first | exact Strikes.nil _ | (apply Strikes.cons; focus (repeat (first | exact Split.here _ _ | apply Split.there)))))) H' rfl; clear H'; (try clear hc); (try simp only [nrm, splice, Value.cells, Nat.reduceAdd, Act.eval, Act.put] at H); have hc := H.cells; simp only [CellsOf, KnCells, arr_lit, knAt_cons, knAt_nil, Nat.zero_add, Nat.add_zero, Nat.reduceAdd] at hc)
    | (refine loud_ rfl ?_; refine wpList_plain rfl (fun K hK => ?_); first
      | (refine op_box _ _ rfl H (fun b w' H1 => hK _ _ ?_); clear hK K; replace H := H1; clear H1; (try clear hc); (try simp only [nrm, splice, Value.cells, Nat.reduceAdd, Act.eval, Act.put] at H); have hc := H.cells; simp only [CellsOf, KnCells, arr_lit, knAt_cons, knAt_nil, Nat.zero_add, Nat.add_zero, Nat.reduceAdd] at hc)
      | (refine op_alloc _ rfl (zero_of _ _ rfl) H (fun b w' H1 => hK _ _ ?_); clear hK K; replace H := H1; clear H1; (try clear hc); (try simp only [nrm, splice, Value.cells, Nat.reduceAdd, Act.eval, Act.put] at H); have hc := H.cells; simp only [CellsOf, KnCells, arr_lit, knAt_cons, knAt_nil, Nat.zero_add, Nat.add_zero, Nat.reduceAdd] at hc)
      | (refine op_store _ _ _ rfl rfl rfl H (by repeat (first | exact Split.here _ _ | apply Split.there)) (by kernel_rfl) (by kernel_rfl) (by kernel_rfl) (fun w' H1 => hK _ _ ?_); clear hK K; replace H := H1; clear H1; (try clear hc); (try simp only [nrm, splice, Value.cells, Nat.reduceAdd, Act.eval, Act.put] at H); have hc := H.cells; simp only [CellsOf, KnCells, arr_lit, knAt_cons, knAt_nil, Nat.zero_add, Nat.add_zero, Nat.reduceAdd] at hc)
      | (refine op_buildSlice_all _ _ _ rfl (by first | exact elem22 | exact elem25 | exact elem26 | exact elem29) (by kernel_rfl) (by kernel_rfl) (by kernel_rfl) H (fun b w' H1 => hK _ _ ?_); clear hK K; replace H := H1; clear H1; (try clear hc); (try simp only [nrm, splice, Value.cells, Nat.reduceAdd, Act.eval, Act.put] at H); have hc := H.cells; simp only [CellsOf, KnCells, arr_lit, knAt_cons, knAt_nil, Nat.zero_add, Nat.add_zero, Nat.reduceAdd] at hc)))
    · go_ret
      exact ⟨rfl, H.top0⟩
    · go_ret
      exact ⟨rfl, H.top0⟩
    · obtain ⟨qb, rfl⟩ : ∃ q : Nat, q = b := ⟨_, rfl⟩
      have hkey : Hid (key = none → n = 0) := by
        show key = none → n = 0
        intro h
        subst h
        exact (H.get (k := .row none 34 3 n cap' _) (by repeat (first | exact Split.here _ _ | apply Split.there))).1
      have H2 := H.roArr (key := key) (T := 34) (size := 3) (n := n) (cap := cap') (xs := rs.flatMap RA.cells) (by repeat (first | exact Split.here _ _ | apply Split.there))
      simp only [List.nil_append, List.cons_append] at H2
      have H3 := H2.ro (k := .rep fp (RAsAt rs fp)) (by repeat (first | exact Split.here _ _ | apply Split.there))
      simp only [List.nil_append, List.cons_append] at H3
      have hrl : Hid (rs.length = n) := by
        have h1 := row_length (H.get (k := .row key 34 3 n cap' _) (by repeat (first | exact Split.here _ _ | apply Split.there)))
        rw [ra_len] at h1
        show _ = _
        omega
      have hA : AtAns kind P M n qb key src ops rs fp w (.int .i64 (0 : Nat)) _ := ⟨0, 0, 0, none, ⟨P, [], 0⟩, Nat.zero_le _, rfl, rfl, rfl, Nat.le_refl _, fun _ => rfl, (H3.softNil none).sel (by repeat (first | exact Sel.nil _ | (apply Sel.cons; focus (repeat (first | exact Split.here _ _ | apply Split.there)))))⟩
      clear H H2 H3 hc
      go_loopw [49] (AtAns kind P M n qb key src ops rs fp w) (fun i _ => n - (intOf i).toNat)
      case atStart => exact hA
      case round =>
        clear hA
        obtain ⟨j, qn, qc, qs, m, hj, rfl, hm, hqn, hqc, hqs, H⟩ := hrel
        by_cases hlt : j < n
        · have hj' : j < ops.length := by rw [hn.out]; exact hlt
          have hjr : j < rs.length := by rw [hrl.out]; exact hlt
          cases key with
          | none => exact absurd (hkey.out rfl) (by omega)
          | some gb =>
            rw [show sl (some gb) n cap' = .slice (some ⟨gb, 0, none⟩) n cap' from rfl]
            have hmem : ops[j] ∈ ops := List.getElem_mem hj'
            obtain ⟨hso1, hso2⟩ := hs.out _ hmem
            obtain ⟨a, hra, hagr⟩ := hag.out j hj'
            have hamem : a ∈ rs := by
              obtain ⟨h, e⟩ := List.getElem?_eq_some_iff.1 hra
              rw [← e]
              exact List.getElem_mem h
            have hra2 := ra_at rs j a hra
            have hle := QM.runs_le kind M (ops.take j) ⟨P, [], 0⟩
            have hwt := wl_take ops j
            have hw3 := hR'.out.wl
            have hok := hR'.out.ok _ hmem
            have hal := m.ans_len ops[j].kind
            have hcat : Hid (ops.take (j + 1) = ops.take j ++ [ops[j]]) := (List.take_append_getElem hj').symm
            have hwt2 := wl_take ops (j + 1)
            rw [hcat.out, wl_snoc] at hwt2
            rw [hm.out] at hle hagr
            have hqn' := hqn.out
            simp only [List.length_nil, Nat.zero_add] at hle
            obtain ⟨hm0, H1⟩ := H.ansRow2 (Split.there _ (Split.there _ (Split.there _ (Split.here _ _)))) a hamem
            clear H
            simp only [Option.map_some] at H1
            have H := H1.elem (Split.there _ (Split.there _ (Split.there _ (Split.here _ _)))) _ _ hra2.1 hra2.2
            clear H1 hra2 hamem
            obtain ⟨b1, o1, rfl, H1⟩ := H.elemSoft (Split.there _ (Split.there _ (Split.there _ (Split.there _ (Split.there _ (Split.there _ (Split.here _ _))))))) (j * 2) (ops[j]).cells (by show 0 < 2; omega) (by rw [rop_len]; show _ + 2 ≤ _; omega) (fun i hi => flat_at ROp.cells 2 ops (fun _ _ => rfl) j i hj' hi)
            clear H
            have H := H1.soft hso1
            clear H1
            generalize ops[j] = oo at *
            obtain ⟨oc, at', ocap, vals⟩ := oo
            simp only [ROp.cells] at H hso2 hwt2 hagr
            obtain ⟨vl, hvl⟩ : ∃ vl, vals.length = vl := ⟨_, rfl⟩
            rw [hvl] at H hso2 hwt2
            have hvl' := Lib.hid hvl
            have hso2' := Lib.hid hso2
            simp only at hal
            obtain ⟨⟨wb, wn, wv⟩, hans⟩ : ∃ x, m.ans oc = x := ⟨_, rfl⟩
            obtain ⟨m', hnx⟩ : ∃ m', m.next kind M oc vals = m' := ⟨_, rfl⟩
            obtain ⟨n', hn'⟩ : ∃ n', m'.q.length = n' := ⟨_, rfl⟩
            obtain ⟨l2, hl⟩ : ∃ l2, wv.length = l2 := ⟨_, rfl⟩
            rw [hans] at hal hagr
            simp only [hl] at hal
            have hans' := Lib.hid hans
            have hnx' := Lib.hid hnx
            have hn'' := Lib.hid hn'
            have hl2 := Lib.hid hl
            have hk3 := Lib.hid hR'.out.kinds
            have hb1 : Hid (oc = 1 → qn + vl ≤ 10000) := by show oc = 1 → _; intro h; rw [if_pos h] at hwt2; omega
            have hb2 : Hid (oc = 1 → m.total + vl ≤ 10000) := by show oc = 1 → _; intro h; rw [if_pos h] at hwt2; omega
            have hb3 : m.places ≤ 10000 := by omega
            have hqb : qn ≤ 10000 := by omega
            have htb : m.total ≤ 10000 := by omega
            have hl1 : l2 ≤ 10001 := by omega
            obtain ⟨ak, am, ac, aok, an, al⟩ := a
            simp only [RA.tell, RA.cells] at hagr H hm0
            have hagr' := Lib.hid hagr
            have hm0' := Lib.hid hm0
            have hcase : (oc = 1 ∨ oc = 7) ∨ oc = 2 ∨ oc = 3 ∨ oc = 4 ∨ oc = 5 ∨ oc = 6 := by
              rcases hok with h | h | h | ⟨_, h⟩ | ⟨_, h | h | h⟩ <;> simp only at h <;> omega
            clear hans hnx hn' hl hvl hso1 hso2 hle hwt hwt2 hw3 hok hal hmem hj' hjr hra hqn' hagr hm0
            rcases hcase with hcase | hcase
            · rcases hcase with rfl | rfl
              all_goals
                have hc := H.cells; simp only [CellsOf, KnCells, arr_lit, knAt_cons, knAt_nil, Nat.zero_add, Nat.add_zero, Nat.reduceAdd] at hc
                repeat' (first | (go_big_may; (first
    | (go_at_call 11; refine Calls.mono (qdo_at qb kind hk3 M qc qn m m' n' wb wn wv l2 hl2 _ qs at' vl ocap vals _ _ hans' hnx' hn'' hqn hqs hqc hso2' hvl' hb1 hb2 hb3 hqb htb (H.pick (by repeat (first | exact Picks.nil _ | (apply Picks.wr; focus (repeat (first | exact Split.here _ _ | apply Split.there))) | (apply Picks.rd; focus (repeat (first | exact Split.here _ _ | apply Split.there))))))) ?_; rintro e w' ⟨key2, cap2, qs2, qc2, hqc2, hqs2, rfl, H'⟩; replace H := H.merge (by first | exact Strikes.nil _ | (repeat (first | exact Strikes.nil _ | (apply Strikes.cons; focus (repeat (first | exact Split.here _ _ | apply Split.there)))))) H' rfl; clear H'; (try clear hc); (try simp only [nrm, splice, Value.cells, Nat.reduceAdd, Act.eval, Act.put] at H); have hc := H.cells; simp only [CellsOf, KnCells, arr_lit, knAt_cons, knAt_nil, Nat.zero_add, Nat.add_zero, Nat.reduceAdd] at hc)
    | (refine loud_ rfl ?_; refine wpList_plain rfl (fun K hK => ?_); first
      | (refine op_box _ _ rfl H (fun b w' H1 => hK _ _ ?_); clear hK K; replace H := H1; clear H1; (try clear hc); (try simp only [nrm, splice, Value.cells, Nat.reduceAdd, Act.eval, Act.put] at H); have hc := H.cells; simp only [CellsOf, KnCells, arr_lit, knAt_cons, knAt_nil, Nat.zero_add, Nat.add_zero, Nat.reduceAdd] at hc)
      | (refine op_alloc _ rfl (zero_of _ _ rfl) H (fun b w' H1 => hK _ _ ?_); clear hK K; replace H := H1; clear H1; (try clear hc); (try simp only [nrm, splice, Value.cells, Nat.reduceAdd, Act.eval, Act.put] at H); have hc := H.cells; simp only [CellsOf, KnCells, arr_lit, knAt_cons, knAt_nil, Nat.zero_add, Nat.add_zero, Nat.reduceAdd] at hc)
      | (refine op_store _ _ _ rfl rfl rfl H (by repeat (first | exact Split.here _ _ | apply Split.there)) (by kernel_rfl) (by kernel_rfl) (by kernel_rfl) (fun w' H1 => hK _ _ ?_); clear hK K; replace H := H1; clear H1; (try clear hc); (try simp only [nrm, splice, Value.cells, Nat.reduceAdd, Act.eval, Act.put] at H); have hc := H.cells; simp only [CellsOf, KnCells, arr_lit, knAt_cons, knAt_nil, Nat.zero_add, Nat.add_zero, Nat.reduceAdd] at hc)
      | (refine op_buildSlice_all _ _ _ rfl (by first | exact elem22 | exact elem25 | exact elem26 | exact elem29) (by kernel_rfl) (by kernel_rfl) (by kernel_rfl) H (fun b w' H1 => hK _ _ ?_); clear hK K; replace H := H1; clear H1; (try clear hc); (try simp only [nrm, splice, Value.cells, Nat.reduceAdd, Act.eval, Act.put] at H); have hc := H.cells; simp only [CellsOf, KnCells, arr_lit, knAt_cons, knAt_nil, Nat.zero_add, Nat.add_zero, Nat.reduceAdd] at hc)))) | go_values | go_skip | go_guarded | go_step | go_upon | go_back | dsimp only)
                exact ⟨⟨j + 1, n', qc2, qs2, m', by omega, by go_num, (by show _ = _; rw [hcat.out, QM.runs_snoc, hm.out]; exact hnx'.out), hn'', hqc2, hqs2, H.sel (by repeat (first | exact Sel.nil _ | (apply Sel.cons; focus (repeat (first | exact Split.here _ _ | apply Split.there)))))⟩, by simp [intOf]; omega⟩
            · have hag2 := hagr'.out (by omega) (by omega)
              obtain ⟨g1, g2, g3⟩ := hag2
              simp only at g1 g2 g3
              obtain rfl : wn = an := g1.symm
              obtain rfl : wv = al := g3.symm
              have hm1 := hm0'.out
              rw [hl2.out] at hm1
              obtain rfl : l2 = am := hm1.symm
              have hm0'' := hm0'
              clear hm0'
              rw [show sl ak l2 ac = .slice (ak.map fun b => ⟨b, 0, none⟩) l2 ac from rfl] at H
              generalize ak.map (fun b => (⟨b, 0, none⟩ : Addr)) = s0 at H
              rcases hcase with rfl | rfl | rfl | rfl | rfl
              case inl =>
                obtain rfl : wb = aok := (g2 rfl).symm
                have hc := H.cells; simp only [CellsOf, KnCells, arr_lit, knAt_cons, knAt_nil, Nat.zero_add, Nat.add_zero, Nat.reduceAdd] at hc
                repeat' (first | (go_big_may; (first
    | (go_at_call 11; refine Calls.mono (qdo_at qb kind hk3 M qc qn m m' n' wb wn wv l2 hl2 _ qs at' vl ocap vals _ _ hans' hnx' hn'' hqn hqs hqc hso2' hvl' hb1 hb2 hb3 hqb htb (H.pick (by repeat (first | exact Picks.nil _ | (apply Picks.wr; focus (repeat (first | exact Split.here _ _ | apply Split.there))) | (apply Picks.rd; focus (repeat (first | exact Split.here _ _ | apply Split.there))))))) ?_; rintro e w' ⟨key2, cap2, qs2, qc2, hqc2, hqs2, rfl, H'⟩; replace H := H.merge (by first | exact Strikes.nil _ | (repeat (first | exact Strikes.nil _ | (apply Strikes.cons; focus (repeat (first | exact Split.here _ _ | apply Split.there)))))) H' rfl; clear H'; (try clear hc); (try simp only [nrm, splice, Value.cells, Nat.reduceAdd, Act.eval, Act.put] at H); have hc := H.cells; simp only [CellsOf, KnCells, arr_lit, knAt_cons, knAt_nil, Nat.zero_add, Nat.add_zero, Nat.reduceAdd] at hc)
    | (refine loud_ rfl ?_; refine wpList_plain rfl (fun K hK => ?_); first
      | (refine op_box _ _ rfl H (fun b w' H1 => hK _ _ ?_); clear hK K; replace H := H1; clear H1; (try clear hc); (try simp only [nrm, splice, Value.cells, Nat.reduceAdd, Act.eval, Act.put] at H); have hc := H.cells; simp only [CellsOf, KnCells, arr_lit, knAt_cons, knAt_nil, Nat.zero_add, Nat.add_zero, Nat.reduceAdd] at hc)
      | (refine op_alloc _ rfl (zero_of _ _ rfl) H (fun b w' H1 => hK _ _ ?_); clear hK K; replace H := H1; clear H1; (try clear hc); (try simp only [nrm, splice, Value.cells, Nat.reduceAdd, Act.eval, Act.put] at H); have hc := H.cells; simp only [CellsOf, KnCells, arr_lit, knAt_cons, knAt_nil, Nat.zero_add, Nat.add_zero, Nat.reduceAdd] at hc)
      | (refine op_store _ _ _ rfl rfl rfl H (by repeat (first | exact Split.here _ _ | apply Split.there)) (by kernel_rfl) (by kernel_rfl) (by kernel_rfl) (fun w' H1 => hK _ _ ?_); clear hK K; replace H := H1; clear H1; (try clear hc); (try simp only [nrm, splice, Value.cells, Nat.reduceAdd, Act.eval, Act.put] at H); have hc := H.cells; simp only [CellsOf, KnCells, arr_lit, knAt_cons, knAt_nil, Nat.zero_add, Nat.add_zero, Nat.reduceAdd] at hc)
      | (refine op_buildSlice_all _ _ _ rfl (by first | exact elem22 | exact elem25 | exact elem26 | exact elem29) (by kernel_rfl) (by kernel_rfl) (by kernel_rfl) H (fun b w' H1 => hK _ _ ?_); clear hK K; replace H := H1; clear H1; (try clear hc); (try simp only [nrm, splice, Value.cells, Nat.reduceAdd, Act.eval, Act.put] at H); have hc := H.cells; simp only [CellsOf, KnCells, arr_lit, knAt_cons, knAt_nil, Nat.zero_add, Nat.add_zero, Nat.reduceAdd] at hc)))) | go_values | go_skip | go_guarded | go_step | go_upon | go_back | dsimp only)
                have H2 := H.roArr (key := key2) (T := 3) (size := 1) (n := l2) (cap := cap2) (xs := ints wv) (by repeat (first | exact Split.here _ _ | apply Split.there))
                simp only [List.nil_append, List.cons_append] at H2
                have H3 := H2.softArr (s := key2.map fun b => ⟨b, 0, none⟩) (xs := ints wv) (by repeat (first | exact Split.here _ _ | apply Split.there))
                clear H H2
                have H := H3
                clear H3
                rw [show sl key2 l2 cap2 = .slice (key2.map fun b => ⟨b, 0, none⟩) l2 cap2 from rfl] at H ⊢
                generalize key2.map (fun b => (⟨b, 0, none⟩ : Addr)) = s2 at H ⊢
                (try simp only [Act.put, slt])
                refine wp_region_plan (.p [0, 1, 2, 3] (.q [4] (.p [5] (.q [6] (.p [7, 8, 9] (.q [10] (.p [11, 12, 13, 14, 15, 16] (.q [17] (.p [18] (.q [19] (.p [20, 21, 22, 23, 24, 25, 26, 27] (.q [28] (.p [29] (.q [30] (.e 31 (.p [32, 33] .done)))))))))))))))) [31] (by kernel_rfl) (by kernel_rfl) (fun _ _ d _ _ h => by cases d <;> exact h) H ?_
                clear H
                (try clear hc)
                intro X nX fX wd hcf hS H
                simp only [CellsOf, KnCells, arr_lit, knAt_cons, knAt_nil, Nat.zero_add, Nat.add_zero, Nat.reduceAdd] at hcf
                have hc := H.cells
                simp only [CellsOf, KnCells, arr_lit, knAt_cons, knAt_nil, Nat.zero_add, Nat.add_zero, Nat.reduceAdd] at hc
                iterate 4 (refine plan_p (o := ⟨_, _, _, _, _, _⟩) rfl (fun N hN => ?_); go_big_quiet_step (fail); refine wpQuiet_nil (hN _ ?_); clear hN N)
                refine plan_p0 ?_
                iterate 1 (refine plan_q (o := ⟨_, _, _, _, _, _⟩) rfl (fun N hN => ?_); go_big_quiet_step (fail); refine wpQuiet_nil (hN _ ?_); clear hN N)
                refine plan_q0 ?_
                iterate 1 (refine plan_p (o := ⟨_, _, _, _, _, _⟩) rfl (fun N hN => ?_); go_big_quiet_step (fail); refine wpQuiet_nil (hN _ ?_); clear hN N)
                refine plan_p0 ?_
                iterate 1 (refine plan_q (o := ⟨_, _, _, _, _, _⟩) rfl (fun N hN => ?_); go_big_quiet_step (fail); refine wpQuiet_nil (hN _ ?_); clear hN N)
                refine plan_q0 ?_
                iterate 2 (refine plan_p (o := ⟨_, _, _, _, _, _⟩) rfl (fun N hN => ?_); go_big_quiet_step (fail); refine wpQuiet_nil (hN _ ?_); clear hN N)
                first | (refine plan_p_no (o := ⟨_, _, _, _, _, _⟩) rfl rfl rfl rfl (rfl) ?_; (try simp only [Act.put, slt])) | (iterate 1 (refine plan_p (o := ⟨_, _, _, _, _, _⟩) rfl (fun N hN => ?_); go_big_quiet_step (fail); refine wpQuiet_nil (hN _ ?_); clear hN N))
                refine plan_p0 ?_
                first | (refine plan_q_no (o := ⟨_, _, _, _, _, _⟩) rfl rfl rfl rfl (rfl) ?_; (try simp only [Act.put, slt])) | (iterate 1 (refine plan_q (o := ⟨_, _, _, _, _, _⟩) rfl (fun N hN => ?_); go_big_quiet_step (fail); refine wpQuiet_nil (hN _ ?_); clear hN N))
                refine plan_q0 ?_
                first | (refine plan_p_no (o := ⟨_, _, _, _, _, _⟩) rfl rfl rfl rfl (rfl) ?_; (try simp only [Act.put, slt])) | (iterate 1 (refine plan_p (o := ⟨_, _, _, _, _, _⟩) rfl (fun N hN => ?_); go_big_quiet_step (fail); refine wpQuiet_nil (hN _ ?_); clear hN N))
                first | (refine plan_p_no (o := ⟨_, _, _, _, _, _⟩) rfl rfl rfl rfl (rfl) ?_; (try simp only [Act.put, slt])) | (iterate 1 (refine plan_p (o := ⟨_, _, _, _, _, _⟩) rfl (fun N hN => ?_); go_big_quiet_step (fail); refine wpQuiet_nil (hN _ ?_); clear hN N))
                first | (refine plan_p_no (o := ⟨_, _, _, _, _, _⟩) rfl rfl rfl rfl (rfl) ?_; (try simp only [Act.put, slt])) | (iterate 1 (refine plan_p (o := ⟨_, _, _, _, _, _⟩) rfl (fun N hN => ?_); go_big_quiet_step (fail); refine wpQuiet_nil (hN _ ?_); clear hN N))
                first | (refine plan_p_no (o := ⟨_, _, _, _, _, _⟩) rfl rfl rfl rfl (rfl) ?_; (try simp only [Act.put, slt])) | (iterate 1 (refine plan_p (o := ⟨_, _, _, _, _, _⟩) rfl (fun N hN => ?_); go_big_quiet_step (fail); refine wpQuiet_nil (hN _ ?_); clear hN N))
                first | (refine plan_p_no (o := ⟨_, _, _, _, _, _⟩) rfl rfl rfl rfl (rfl) ?_; (try simp only [Act.put, slt])) | (iterate 1 (refine plan_p (o := ⟨_, _, _, _, _, _⟩) rfl (fun N hN => ?_); go_big_quiet_step (fail); refine wpQuiet_nil (hN _ ?_); clear hN N))
                first | (refine plan_p_no (o := ⟨_, _, _, _, _, _⟩) rfl rfl rfl rfl (rfl) ?_; (try simp only [Act.put, slt])) | (iterate 1 (refine plan_p (o := ⟨_, _, _, _, _, _⟩) rfl (fun N hN => ?_); go_big_quiet_step (fail); refine wpQuiet_nil (hN _ ?_); clear hN N))
                refine plan_p0 ?_
                first | (refine plan_q_no (o := ⟨_, _, _, _, _, _⟩) rfl rfl rfl rfl (rfl) ?_; (try simp only [Act.put, slt])) | (iterate 1 (refine plan_q (o := ⟨_, _, _, _, _, _⟩) rfl (fun N hN => ?_); go_big_quiet_step (fail); refine wpQuiet_nil (hN _ ?_); clear hN N))
                refine plan_q0 ?_
                first | (refine plan_p_no (o := ⟨_, _, _, _, _, _⟩) rfl rfl rfl rfl (rfl) ?_; (try simp only [Act.put, slt])) | (iterate 1 (refine plan_p (o := ⟨_, _, _, _, _, _⟩) rfl (fun N hN => ?_); go_big_quiet_step (fail); refine wpQuiet_nil (hN _ ?_); clear hN N))
                refine plan_p0 ?_
                first | (refine plan_q_no (o := ⟨_, _, _, _, _, _⟩) rfl rfl rfl rfl (rfl) ?_; (try simp only [Act.put, slt])) | (iterate 1 (refine plan_q (o := ⟨_, _, _, _, _, _⟩) rfl (fun N hN => ?_); go_big_quiet_step (fail); refine wpQuiet_nil (hN _ ?_); clear hN N))
                refine plan_q0 ?_
                first | (refine plan_p_no (o := ⟨_, _, _, _, _, _⟩) rfl rfl rfl rfl (rfl) ?_; (try simp only [Act.put, slt])) | (iterate 1 (refine plan_p (o := ⟨_, _, _, _, _, _⟩) rfl (fun N hN => ?_); go_big_quiet_step (fail); refine wpQuiet_nil (hN _ ?_); clear hN N))
                first | (refine plan_p_no (o := ⟨_, _, _, _, _, _⟩) rfl rfl rfl rfl (rfl) ?_; (try simp only [Act.put, slt])) | (iterate 1 (refine plan_p (o := ⟨_, _, _, _, _, _⟩) rfl (fun N hN => ?_); go_big_quiet_step (fail); refine wpQuiet_nil (hN _ ?_); clear hN N))
                iterate 2 (refine plan_p (o := ⟨_, _, _, _, _, _⟩) rfl (fun N hN => ?_); go_big_quiet_step (fail); refine wpQuiet_nil (hN _ ?_); clear hN N)
                first | (refine plan_p_no (o := ⟨_, _, _, _, _, _⟩) rfl rfl rfl rfl (rfl) ?_; (try simp only [Act.put, slt])) | (iterate 1 (refine plan_p (o := ⟨_, _, _, _, _, _⟩) rfl (fun N hN => ?_); go_big_quiet_step (fail); refine wpQuiet_nil (hN _ ?_); clear hN N))
                first | (refine plan_p_no (o := ⟨_, _, _, _, _, _⟩) rfl rfl rfl rfl (rfl) ?_; (try simp only [Act.put, slt])) | (iterate 1 (refine plan_p (o := ⟨_, _, _, _, _, _⟩) rfl (fun N hN => ?_); go_big_quiet_step (fail); refine wpQuiet_nil (hN _ ?_); clear hN N))
                first | (refine plan_p_no (o := ⟨_, _, _, _, _, _⟩) rfl rfl rfl rfl (rfl) ?_; (try simp only [Act.put, slt])) | (iterate 1 (refine plan_p (o := ⟨_, _, _, _, _, _⟩) rfl (fun N hN => ?_); go_big_quiet_step (fail); refine wpQuiet_nil (hN _ ?_); clear hN N))
                first | (refine plan_p_no (o := ⟨_, _, _, _, _, _⟩) rfl rfl rfl rfl (rfl) ?_; (try simp only [Act.put, slt])) | (iterate 1 (refine plan_p (o := ⟨_, _, _, _, _, _⟩) rfl (fun N hN => ?_); go_big_quiet_step (fail); refine wpQuiet_nil (hN _ ?_); clear hN N))
                refine plan_p0 ?_
                first | (refine plan_q_no (o := ⟨_, _, _, _, _, _⟩) rfl rfl rfl rfl (rfl) ?_; (try simp only [Act.put, slt])) | (iterate 1 (refine plan_q (o := ⟨_, _, _, _, _, _⟩) rfl (fun N hN => ?_); go_big_quiet_step (fail); refine wpQuiet_nil (hN _ ?_); clear hN N))
                refine plan_q0 ?_
                first | (refine plan_p_no (o := ⟨_, _, _, _, _, _⟩) rfl rfl rfl rfl (rfl) ?_; (try simp only [Act.put, slt])) | (iterate 1 (refine plan_p (o := ⟨_, _, _, _, _, _⟩) rfl (fun N hN => ?_); go_big_quiet_step (fail); refine wpQuiet_nil (hN _ ?_); clear hN N))
                refine plan_p0 ?_
                first | (refine plan_q_no (o := ⟨_, _, _, _, _, _⟩) rfl rfl rfl rfl (rfl) ?_; (try simp only [Act.put, slt])) | (iterate 1 (refine plan_q (o := ⟨_, _, _, _, _, _⟩) rfl (fun N hN => ?_); go_big_quiet_step (fail); refine wpQuiet_nil (hN _ ?_); clear hN N))
                refine plan_q0 ?_
                refine plan_e (o := ⟨_, _, _, _, _, _⟩) rfl rfl (fun K hK => ?_)
                first
                  | (go_step; refine Calls.mono (equal_calls s0 s2 ac cap2 wv l2 _ (by omega) hl2 (H.pick (by repeat (first | exact Picks.nil _ | (apply Picks.wr; focus (repeat (first | exact Split.here _ _ | apply Split.there))) | (apply Picks.rd; focus (repeat (first | exact Split.here _ _ | apply Split.there))))))) ?_; rintro e w' ⟨rfl, H'⟩; replace H := H.of_ext H'; clear H'; (try clear hc); (try simp only [nrm, splice, Value.cells, Nat.reduceAdd, Act.eval, Act.put] at H); have hc := H.cells; simp only [CellsOf, KnCells, arr_lit, knAt_cons, knAt_nil, Nat.zero_add, Nat.add_zero, Nat.reduceAdd] at hc; refine hK _ _ (fun h => (h (by decide)).elim) ?_; clear hK K; (try simp only [Act.put, slt]))
                  | (refine op_box _ _ rfl H (fun b w' H1 => ?_); replace H := H1; clear H1; (try clear hc); (try simp only [nrm, splice, Value.cells, Nat.reduceAdd, Act.eval, Act.put] at H); have hc := H.cells; simp only [CellsOf, KnCells, arr_lit, knAt_cons, knAt_nil, Nat.zero_add, Nat.add_zero, Nat.reduceAdd] at hc; refine hK _ _ (fun h => (h (by decide)).elim) ?_; clear hK K; (try simp only [Act.put, slt]))
                  | (refine op_alloc _ rfl (zero_of _ _ rfl) H (fun b w' H1 => ?_); replace H := H1; clear H1; (try clear hc); (try simp only [nrm, splice, Value.cells, Nat.reduceAdd, Act.eval, Act.put] at H); have hc := H.cells; simp only [CellsOf, KnCells, arr_lit, knAt_cons, knAt_nil, Nat.zero_add, Nat.add_zero, Nat.reduceAdd] at hc; refine hK _ _ (fun h => (h (by decide)).elim) ?_; clear hK K; (try simp only [Act.put, slt]))
                  | (refine op_store _ _ _ rfl rfl rfl H (by repeat (first | exact Split.here _ _ | apply Split.there)) (by kernel_rfl) (by kernel_rfl) (by kernel_rfl) (fun w' H1 => ?_); replace H := H1; clear H1; (try clear hc); (try simp only [nrm, splice, Value.cells, Nat.reduceAdd, Act.eval, Act.put] at H); have hc := H.cells; simp only [CellsOf, KnCells, arr_lit, knAt_cons, knAt_nil, Nat.zero_add, Nat.add_zero, Nat.reduceAdd] at hc; refine hK _ _ (fun h => (h (by decide)).elim) ?_; clear hK K; (try simp only [Act.put, slt]))
                  | (refine op_buildSlice_all _ _ _ rfl (by first | exact elem22 | exact elem25 | exact elem26 | exact elem29) (by kernel_rfl) (by kernel_rfl) (by kernel_rfl) H (fun b w' H1 => ?_); replace H := H1; clear H1; (try clear hc); (try simp only [nrm, splice, Value.cells, Nat.reduceAdd, Act.eval, Act.put] at H); have hc := H.cells; simp only [CellsOf, KnCells, arr_lit, knAt_cons, knAt_nil, Nat.zero_add, Nat.add_zero, Nat.reduceAdd] at hc; refine hK _ _ (fun h => (h (by decide)).elim) ?_; clear hK K; (try simp only [Act.put, slt]))
                first | (refine plan_p_no (o := ⟨_, _, _, _, _, _⟩) rfl rfl rfl rfl (rfl) ?_; (try simp only [Act.put, slt])) | (iterate 1 (refine plan_p (o := ⟨_, _, _, _, _, _⟩) rfl (fun N hN => ?_); go_big_quiet_step (fail); refine wpQuiet_nil (hN _ ?_); clear hN N))
                iterate 1 (refine plan_p (o := ⟨_, _, _, _, _, _⟩) rfl (fun N hN => ?_); go_big_quiet_step (fail); refine wpQuiet_nil (hN _ ?_); clear hN N)
                refine plan_p0 ?_
                refine plan_done ?_
                repeat' (first | (go_big_may; (first
    | (refine loud_ rfl ?_; refine wpList_plain rfl (fun K hK => ?_); first
      | (refine op_box _ _ rfl H (fun b w' H1 => hK _ _ ?_); clear hK K; replace H := H1; clear H1; (try clear hc); (try simp only [nrm, splice, Value.cells, Nat.reduceAdd, Act.eval, Act.put] at H); have hc := H.cells; simp only [CellsOf, KnCells, arr_lit, knAt_cons, knAt_nil, Nat.zero_add, Nat.add_zero, Nat.reduceAdd] at hc)
      | (refine op_alloc _ rfl (zero_of _ _ rfl) H (fun b w' H1 => hK _ _ ?_); clear hK K; replace H := H1; clear H1; (try clear hc); (try simp only [nrm, splice, Value.cells, Nat.reduceAdd, Act.eval, Act.put] at H); have hc := H.cells; simp only [CellsOf, KnCells, arr_lit, knAt_cons, knAt_nil, Nat.zero_add, Nat.add_zero, Nat.reduceAdd] at hc)
      | (refine op_store _ _ _ rfl rfl rfl H (by repeat (first | exact Split.here _ _ | apply Split.there)) (by kernel_rfl) (by kernel_rfl) (by kernel_rfl) (fun w' H1 => hK _ _ ?_); clear hK K; replace H := H1; clear H1; (try clear hc); (try simp only [nrm, splice, Value.cells, Nat.reduceAdd, Act.eval, Act.put] at H); have hc := H.cells; simp only [CellsOf, KnCells, arr_lit, knAt_cons, knAt_nil, Nat.zero_add, Nat.add_zero, Nat.reduceAdd] at hc)
      | (refine op_buildSlice_all _ _ _ rfl (by first | exact elem22 | exact elem25 | exact elem26 | exact elem29) (by kernel_rfl) (by kernel_rfl) (by kernel_rfl) H (fun b w' H1 => hK _ _ ?_); clear hK K; replace H := H1; clear H1; (try clear hc); (try simp only [nrm, splice, Value.cells, Nat.reduceAdd, Act.eval, Act.put] at H); have hc := H.cells; simp only [CellsOf, KnCells, arr_lit, knAt_cons, knAt_nil, Nat.zero_add, Nat.add_zero, Nat.reduceAdd] at hc)))) | go_values | go_skip | go_guarded | go_step | go_upon | go_back | dsimp only)
                exact ⟨⟨j + 1, n', qc2, qs2, m', by omega, by go_num, (by show _ = _; rw [hcat.out, QM.runs_snoc, hm.out]; exact hnx'.out), hn'', hqc2, hqs2, H.sel (by repeat (first | exact Sel.nil _ | (apply Sel.cons; focus (repeat (first | exact Split.here _ _ | apply Split.there)))))⟩, by simp [intOf]; omega⟩
              all_goals
                clear g2
                have hc := H.cells; simp only [CellsOf, KnCells, arr_lit, knAt_cons, knAt_nil, Nat.zero_add, Nat.add_zero, Nat.reduceAdd] at hc
                repeat' (first | (go_big_may; (first
    | (go_at_call 11; refine Calls.mono (qdo_at qb kind hk3 M qc qn m m' n' wb wn wv l2 hl2 _ qs at' vl ocap vals _ _ hans' hnx' hn'' hqn hqs hqc hso2' hvl' hb1 hb2 hb3 hqb htb (H.pick (by repeat (first | exact Picks.nil _ | (apply Picks.wr; focus (repeat (first | exact Split.here _ _ | apply Split.there))) | (apply Picks.rd; focus (repeat (first | exact Split.here _ _ | apply Split.there))))))) ?_; rintro e w' ⟨key2, cap2, qs2, qc2, hqc2, hqs2, rfl, H'⟩; replace H := H.merge (by first | exact Strikes.nil _ | (repeat (first | exact Strikes.nil _ | (apply Strikes.cons; focus (repeat (first | exact Split.here _ _ | apply Split.there)))))) H' rfl; clear H'; (try clear hc); (try simp only [nrm, splice, Value.cells, Nat.reduceAdd, Act.eval, Act.put] at H); have hc := H.cells; simp only [CellsOf, KnCells, arr_lit, knAt_cons, knAt_nil, Nat.zero_add, Nat.add_zero, Nat.reduceAdd] at hc)
    | (refine loud_ rfl ?_; refine wpList_plain rfl (fun K hK => ?_); first
      | (refine op_box _ _ rfl H (fun b w' H1 => hK _ _ ?_); clear hK K; replace H := H1; clear H1; (try clear hc); (try simp only [nrm, splice, Value.cells, Nat.reduceAdd, Act.eval, Act.put] at H); have hc := H.cells; simp only [CellsOf, KnCells, arr_lit, knAt_cons, knAt_nil, Nat.zero_add, Nat.add_zero, Nat.reduceAdd] at hc)
      | (refine op_alloc _ rfl (zero_of _ _ rfl) H (fun b w' H1 => hK _ _ ?_); clear hK K; replace H := H1; clear H1; (try clear hc); (try simp only [nrm, splice, Value.cells, Nat.reduceAdd, Act.eval, Act.put] at H); have hc := H.cells; simp only [CellsOf, KnCells, arr_lit, knAt_cons, knAt_nil, Nat.zero_add, Nat.add_zero, Nat.reduceAdd] at hc)
      | (refine op_store _ _ _ rfl rfl rfl H (by repeat (first | exact Split.here _ _ | apply Split.there)) (by kernel_rfl) (by kernel_rfl) (by kernel_rfl) (fun w' H1 => hK _ _ ?_); clear hK K; replace H := H1; clear H1; (try clear hc); (try simp only [nrm, splice, Value.cells, Nat.reduceAdd, Act.eval, Act.put] at H); have hc := H.cells; simp only [CellsOf, KnCells, arr_lit, knAt_cons, knAt_nil, Nat.zero_add, Nat.add_zero, Nat.reduceAdd] at hc)
      | (refine op_buildSlice_all _ _ _ rfl (by first | exact elem22 | exact elem25 | exact elem26 | exact elem29) (by kernel_rfl) (by kernel_rfl) (by kernel_rfl) H (fun b w' H1 => hK _ _ ?_); clear hK K; replace H := H1; clear H1; (try clear hc); (try simp only [nrm, splice, Value.cells, Nat.reduceAdd, Act.eval, Act.put] at H); have hc := H.cells; simp only [CellsOf, KnCells, arr_lit, knAt_cons, knAt_nil, Nat.zero_add, Nat.add_zero, Nat.reduceAdd] at hc)))) | go_values | go_skip | go_guarded | go_step | go_upon | go_back | dsimp only)
                have H2 := H.roArr (key := key2) (T := 3) (size := 1) (n := l2) (cap := cap2) (xs := ints wv) (by repeat (first | exact Split.here _ _ | apply Split.there))
                simp only [List.nil_append, List.cons_append] at H2
                have H3 := H2.softArr (s := key2.map fun b => ⟨b, 0, none⟩) (xs := ints wv) (by repeat (first | exact Split.here _ _ | apply Split.there))
                clear H H2
                have H := H3
                clear H3
                rw [show sl key2 l2 cap2 = .slice (key2.map fun b => ⟨b, 0, none⟩) l2 cap2 from rfl] at H ⊢
                generalize key2.map (fun b => (⟨b, 0, none⟩ : Addr)) = s2 at H ⊢
                (try simp only [Act.put, slt])
                refine wp_region_plan (.p [0, 1, 2, 3] (.q [4] (.p [5] (.q [6] (.p [7, 8, 9] (.q [10] (.p [11, 12, 13, 14, 15, 16] (.q [17] (.p [18] (.q [19] (.p [20, 21, 22, 23, 24, 25, 26, 27] (.q [28] (.p [29] (.q [30] (.e 31 (.p [32, 33] .done)))))))))))))))) [31] (by kernel_rfl) (by kernel_rfl) (fun _ _ d _ _ h => by cases d <;> exact h) H ?_
                clear H
                (try clear hc)
                intro X nX fX wd hcf hS H
                simp only [CellsOf, KnCells, arr_lit, knAt_cons, knAt_nil, Nat.zero_add, Nat.add_zero, Nat.reduceAdd] at hcf
                have hc := H.cells
                simp only [CellsOf, KnCells, arr_lit, knAt_cons, knAt_nil, Nat.zero_add, Nat.add_zero, Nat.reduceAdd] at hc
                iterate 4 (refine plan_p (o := ⟨_, _, _, _, _, _⟩) rfl (fun N hN => ?_); go_big_quiet_step (fail); refine wpQuiet_nil (hN _ ?_); clear hN N)
                refine plan_p0 ?_
                iterate 1 (refine plan_q (o := ⟨_, _, _, _, _, _⟩) rfl (fun N hN => ?_); go_big_quiet_step (fail); refine wpQuiet_nil (hN _ ?_); clear hN N)
                refine plan_q0 ?_
                iterate 1 (refine plan_p (o := ⟨_, _, _, _, _, _⟩) rfl (fun N hN => ?_); go_big_quiet_step (fail); refine wpQuiet_nil (hN _ ?_); clear hN N)
                refine plan_p0 ?_
                iterate 1 (refine plan_q (o := ⟨_, _, _, _, _, _⟩) rfl (fun N hN => ?_); go_big_quiet_step (fail); refine wpQuiet_nil (hN _ ?_); clear hN N)
                refine plan_q0 ?_
                iterate 2 (refine plan_p (o := ⟨_, _, _, _, _, _⟩) rfl (fun N hN => ?_); go_big_quiet_step (fail); refine wpQuiet_nil (hN _ ?_); clear hN N)
                first | (refine plan_p_no (o := ⟨_, _, _, _, _, _⟩) rfl rfl rfl rfl (rfl) ?_; (try simp only [Act.put, slt])) | (iterate 1 (refine plan_p (o := ⟨_, _, _, _, _, _⟩) rfl (fun N hN => ?_); go_big_quiet_step (fail); refine wpQuiet_nil (hN _ ?_); clear hN N))
                refine plan_p0 ?_
                first | (refine plan_q_no (o := ⟨_, _, _, _, _, _⟩) rfl rfl rfl rfl (rfl) ?_; (try simp only [Act.put, slt])) | (iterate 1 (refine plan_q (o := ⟨_, _, _, _, _, _⟩) rfl (fun N hN => ?_); go_big_quiet_step (fail); refine wpQuiet_nil (hN _ ?_); clear hN N))
                refine plan_q0 ?_
                first | (refine plan_p_no (o := ⟨_, _, _, _, _, _⟩) rfl rfl rfl rfl (rfl) ?_; (try simp only [Act.put, slt])) | (iterate 1 (refine plan_p (o := ⟨_, _, _, _, _, _⟩) rfl (fun N hN => ?_); go_big_quiet_step (fail); refine wpQuiet_nil (hN _ ?_); clear hN N))
                first | (refine plan_p_no (o := ⟨_, _, _, _, _, _⟩) rfl rfl rfl rfl (rfl) ?_; (try simp only [Act.put, slt])) | (iterate 1 (refine plan_p (o := ⟨_, _, _, _, _, _⟩) rfl (fun N hN => ?_); go_big_quiet_step (fail); refine wpQuiet_nil (hN _ ?_); clear hN N))
                first | (refine plan_p_no (o := ⟨_, _, _, _, _, _⟩) rfl rfl rfl rfl (rfl) ?_; (try simp only [Act.put, slt])) | (iterate 1 (refine plan_p (o := ⟨_, _, _, _, _, _⟩) rfl (fun N hN => ?_); go_big_quiet_step (fail); refine wpQuiet_nil (hN _ ?_); clear hN N))
                first | (refine plan_p_no (o := ⟨_, _, _, _, _, _⟩) rfl rfl rfl rfl (rfl) ?_; (try simp only [Act.put, slt])) | (iterate 1 (refine plan_p (o := ⟨_, _, _, _, _, _⟩) rfl (fun N hN => ?_); go_big_quiet_step (fail); refine wpQuiet_nil (hN _ ?_); clear hN N))
                first | (refine plan_p_no (o := ⟨_, _, _, _, _, _⟩) rfl rfl rfl rfl (rfl) ?_; (try simp only [Act.put, slt])) | (iterate 1 (refine plan_p (o := ⟨_, _, _, _, _, _⟩) rfl (fun N hN => ?_); go_big_quiet_step (fail); refine wpQuiet_nil (hN _ ?_); clear hN N))
                first | (refine plan_p_no (o := ⟨_, _, _, _, _, _⟩) rfl rfl rfl rfl (rfl) ?_; (try simp only [Act.put, slt])) | (iterate 1 (refine plan_p (o := ⟨_, _, _, _, _, _⟩) rfl (fun N hN => ?_); go_big_quiet_step (fail); refine wpQuiet_nil (hN _ ?_); clear hN N))
                refine plan_p0 ?_
                first | (refine plan_q_no (o := ⟨_, _, _, _, _, _⟩) rfl rfl rfl rfl (rfl) ?_; (try simp only [Act.put, slt])) | (iterate 1 (refine plan_q (o := ⟨_, _, _, _, _, _⟩) rfl (fun N hN => ?_); go_big_quiet_step (fail); refine wpQuiet_nil (hN _ ?_); clear hN N))
                refine plan_q0 ?_
                first | (refine plan_p_no (o := ⟨_, _, _, _, _, _⟩) rfl rfl rfl rfl (rfl) ?_; (try simp only [Act.put, slt])) | (iterate 1 (refine plan_p (o := ⟨_, _, _, _, _, _⟩) rfl (fun N hN => ?_); go_big_quiet_step (fail); refine wpQuiet_nil (hN _ ?_); clear hN N))
                refine plan_p0 ?_
                first | (refine plan_q_no (o := ⟨_, _, _, _, _, _⟩) rfl rfl rfl rfl (rfl) ?_; (try simp only [Act.put, slt])) | (iterate 1 (refine plan_q (o := ⟨_, _, _, _, _, _⟩) rfl (fun N hN => ?_); go_big_quiet_step (fail); refine wpQuiet_nil (hN _ ?_); clear hN N))
                refine plan_q0 ?_
                first | (refine plan_p_no (o := ⟨_, _, _, _, _, _⟩) rfl rfl rfl rfl (rfl) ?_; (try simp only [Act.put, slt])) | (iterate 1 (refine plan_p (o := ⟨_, _, _, _, _, _⟩) rfl (fun N hN => ?_); go_big_quiet_step (fail); refine wpQuiet_nil (hN _ ?_); clear hN N))
                first | (refine plan_p_no (o := ⟨_, _, _, _, _, _⟩) rfl rfl rfl rfl (rfl) ?_; (try simp only [Act.put, slt])) | (iterate 1 (refine plan_p (o := ⟨_, _, _, _, _, _⟩) rfl (fun N hN => ?_); go_big_quiet_step (fail); refine wpQuiet_nil (hN _ ?_); clear hN N))
                iterate 2 (refine plan_p (o := ⟨_, _, _, _, _, _⟩) rfl (fun N hN => ?_); go_big_quiet_step (fail); refine wpQuiet_nil (hN _ ?_); clear hN N)
                first | (refine plan_p_no (o := ⟨_, _, _, _, _, _⟩) rfl rfl rfl rfl (rfl) ?_; (try simp only [Act.put, slt])) | (iterate 1 (refine plan_p (o := ⟨_, _, _, _, _, _⟩) rfl (fun N hN => ?_); go_big_quiet_step (fail); refine wpQuiet_nil (hN _ ?_); clear hN N))
                first | (refine plan_p_no (o := ⟨_, _, _, _, _, _⟩) rfl rfl rfl rfl (rfl) ?_; (try simp only [Act.put, slt])) | (iterate 1 (refine plan_p (o := ⟨_, _, _, _, _, _⟩) rfl (fun N hN => ?_); go_big_quiet_step (fail); refine wpQuiet_nil (hN _ ?_); clear hN N))
                first | (refine plan_p_no (o := ⟨_, _, _, _, _, _⟩) rfl rfl rfl rfl (rfl) ?_; (try simp only [Act.put, slt])) | (iterate 1 (refine plan_p (o := ⟨_, _, _, _, _, _⟩) rfl (fun N hN => ?_); go_big_quiet_step (fail); refine wpQuiet_nil (hN _ ?_); clear hN N))
                first | (refine plan_p_no (o := ⟨_, _, _, _, _, _⟩) rfl rfl rfl rfl (rfl) ?_; (try simp only [Act.put, slt])) | (iterate 1 (refine plan_p (o := ⟨_, _, _, _, _, _⟩) rfl (fun N hN => ?_); go_big_quiet_step (fail); refine wpQuiet_nil (hN _ ?_); clear hN N))
                refine plan_p0 ?_
                first | (refine plan_q_no (o := ⟨_, _, _, _, _, _⟩) rfl rfl rfl rfl (rfl) ?_; (try simp only [Act.put, slt])) | (iterate 1 (refine plan_q (o := ⟨_, _, _, _, _, _⟩) rfl (fun N hN => ?_); go_big_quiet_step (fail); refine wpQuiet_nil (hN _ ?_); clear hN N))
                refine plan_q0 ?_
                first | (refine plan_p_no (o := ⟨_, _, _, _, _, _⟩) rfl rfl rfl rfl (rfl) ?_; (try simp only [Act.put, slt])) | (iterate 1 (refine plan_p (o := ⟨_, _, _, _, _, _⟩) rfl (fun N hN => ?_); go_big_quiet_step (fail); refine wpQuiet_nil (hN _ ?_); clear hN N))
                refine plan_p0 ?_
                first | (refine plan_q_no (o := ⟨_, _, _, _, _, _⟩) rfl rfl rfl rfl (rfl) ?_; (try simp only [Act.put, slt])) | (iterate 1 (refine plan_q (o := ⟨_, _, _, _, _, _⟩) rfl (fun N hN => ?_); go_big_quiet_step (fail); refine wpQuiet_nil (hN _ ?_); clear hN N))
                refine plan_q0 ?_
                refine plan_e (o := ⟨_, _, _, _, _, _⟩) rfl rfl (fun K hK => ?_)
                first
                  | (go_step; refine Calls.mono (equal_calls s0 s2 ac cap2 wv l2 _ (by omega) hl2 (H.pick (by repeat (first | exact Picks.nil _ | (apply Picks.wr; focus (repeat (first | exact Split.here _ _ | apply Split.there))) | (apply Picks.rd; focus (repeat (first | exact Split.here _ _ | apply Split.there))))))) ?_; rintro e w' ⟨rfl, H'⟩; replace H := H.of_ext H'; clear H'; (try clear hc); (try simp only [nrm, splice, Value.cells, Nat.reduceAdd, Act.eval, Act.put] at H); have hc := H.cells; simp only [CellsOf, KnCells, arr_lit, knAt_cons, knAt_nil, Nat.zero_add, Nat.add_zero, Nat.reduceAdd] at hc; refine hK _ _ (fun h => (h (by decide)).elim) ?_; clear hK K; (try simp only [Act.put, slt]))
                  | (refine op_box _ _ rfl H (fun b w' H1 => ?_); replace H := H1; clear H1; (try clear hc); (try simp only [nrm, splice, Value.cells, Nat.reduceAdd, Act.eval, Act.put] at H); have hc := H.cells; simp only [CellsOf, KnCells, arr_lit, knAt_cons, knAt_nil, Nat.zero_add, Nat.add_zero, Nat.reduceAdd] at hc; refine hK _ _ (fun h => (h (by decide)).elim) ?_; clear hK K; (try simp only [Act.put, slt]))
                  | (refine op_alloc _ rfl (zero_of _ _ rfl) H (fun b w' H1 => ?_); replace H := H1; clear H1; (try clear hc); (try simp only [nrm, splice, Value.cells, Nat.reduceAdd, Act.eval, Act.put] at H); have hc := H.cells; simp only [CellsOf, KnCells, arr_lit, knAt_cons, knAt_nil, Nat.zero_add, Nat.add_zero, Nat.reduceAdd] at hc; refine hK _ _ (fun h => (h (by decide)).elim) ?_; clear hK K; (try simp only [Act.put, slt]))
                  | (refine op_store _ _ _ rfl rfl rfl H (by repeat (first | exact Split.here _ _ | apply Split.there)) (by kernel_rfl) (by kernel_rfl) (by kernel_rfl) (fun w' H1 => ?_); replace H := H1; clear H1; (try clear hc); (try simp only [nrm, splice, Value.cells, Nat.reduceAdd, Act.eval, Act.put] at H); have hc := H.cells; simp only [CellsOf, KnCells, arr_lit, knAt_cons, knAt_nil, Nat.zero_add, Nat.add_zero, Nat.reduceAdd] at hc; refine hK _ _ (fun h => (h (by decide)).elim) ?_; clear hK K; (try simp only [Act.put, slt]))
                  | (refine op_buildSlice_all _ _ _ rfl (by first | exact elem22 | exact elem25 | exact elem26 | exact elem29) (by kernel_rfl) (by kernel_rfl) (by kernel_rfl) H (fun b w' H1 => ?_); replace H := H1; clear H1; (try clear hc); (try simp only [nrm, splice, Value.cells, Nat.reduceAdd, Act.eval, Act.put] at H); have hc := H.cells; simp only [CellsOf, KnCells, arr_lit, knAt_cons, knAt_nil, Nat.zero_add, Nat.add_zero, Nat.reduceAdd] at hc; refine hK _ _ (fun h => (h (by decide)).elim) ?_; clear hK K; (try simp only [Act.put, slt]))
                first | (refine plan_p_no (o := ⟨_, _, _, _, _, _⟩) rfl rfl rfl rfl (rfl) ?_; (try simp only [Act.put, slt])) | (iterate 1 (refine plan_p (o := ⟨_, _, _, _, _, _⟩) rfl (fun N hN => ?_); go_big_quiet_step (fail); refine wpQuiet_nil (hN _ ?_); clear hN N))
                iterate 1 (refine plan_p (o := ⟨_, _, _, _, _, _⟩) rfl (fun N hN => ?_); go_big_quiet_step (fail); refine wpQuiet_nil (hN _ ?_); clear hN N)
                refine plan_p0 ?_
                refine plan_done ?_
                repeat' (first | (go_big_may; (first
    | (refine loud_ rfl ?_; refine wpList_plain rfl (fun K hK => ?_); first
      | (refine op_box _ _ rfl H (fun b w' H1 => hK _ _ ?_); clear hK K; replace H := H1; clear H1; (try clear hc); (try simp only [nrm, splice, Value.cells, Nat.reduceAdd, Act.eval, Act.put] at H); have hc := H.cells; simp only [CellsOf, KnCells, arr_lit, knAt_cons, knAt_nil, Nat.zero_add, Nat.add_zero, Nat.reduceAdd] at hc)
      | (refine op_alloc _ rfl (zero_of _ _ rfl) H (fun b w' H1 => hK _ _ ?_); clear hK K; replace H := H1; clear H1; (try clear hc); (try simp only [nrm, splice, Value.cells, Nat.reduceAdd, Act.eval, Act.put] at H); have hc := H.cells; simp only [CellsOf, KnCells, arr_lit, knAt_cons, knAt_nil, Nat.zero_add, Nat.add_zero, Nat.reduceAdd] at hc)
      | (refine op_store _ _ _ rfl rfl rfl H (by repeat (first | exact Split.here _ _ | apply Split.there)) (by kernel_rfl) (by kernel_rfl) (by kernel_rfl) (fun w' H1 => hK _ _ ?_); clear hK K; replace H := H1; clear H1; (try clear hc); (try simp only [nrm, splice, Value.cells, Nat.reduceAdd, Act.eval, Act.put] at H); have hc := H.cells; simp only [CellsOf, KnCells, arr_lit, knAt_cons, knAt_nil, Nat.zero_add, Nat.add_zero, Nat.reduceAdd] at hc)
      | (refine op_buildSlice_all _ _ _ rfl (by first | exact elem22 | exact elem25 | exact elem26 | exact elem29) (by kernel_rfl) (by kernel_rfl) (by kernel_rfl) H (fun b w' H1 => hK _ _ ?_); clear hK K; replace H := H1; clear H1; (try clear hc); (try simp only [nrm, splice, Value.cells, Nat.reduceAdd, Act.eval, Act.put] at H); have hc := H.cells; simp only [CellsOf, KnCells, arr_lit, knAt_cons, knAt_nil, Nat.zero_add, Nat.add_zero, Nat.reduceAdd] at hc)))) | go_values | go_skip | go_guarded | go_step | go_upon | go_back | dsimp only)
                exact ⟨⟨j + 1, n', qc2, qs2, m', by omega, by go_num, (by show _ = _; rw [hcat.out, QM.runs_snoc, hm.out]; exact hnx'.out), hn'', hqc2, hqs2, H.sel (by repeat (first | exact Sel.nil _ | (apply Sel.cons; focus (repeat (first | exact Split.here _ _ | apply Split.there)))))⟩, by simp [intOf]; omega⟩
        · obtain rfl : j = n := by omega
          repeat' (first | (go_big_may; (first
    | (go_at_call 6; refine Calls.mono (rgLive_calls _) ?_; rintro e w' ⟨rfl, H'⟩; replace H := H.of_ext H'; clear H'; (try clear hc); (try simp only [nrm, splice, Value.cells, Nat.reduceAdd, Act.eval, Act.put] at H); have hc := H.cells; simp only [CellsOf, KnCells, arr_lit, knAt_cons, knAt_nil, Nat.zero_add, Nat.add_zero, Nat.reduceAdd] at hc)
    | (refine loud_ rfl ?_; refine wpList_plain rfl (fun K hK => ?_); first
      | (refine op_box _ _ rfl H (fun b w' H1 => hK _ _ ?_); clear hK K; replace H := H1; clear H1; (try clear hc); (try simp only [nrm, splice, Value.cells, Nat.reduceAdd, Act.eval, Act.put] at H); have hc := H.cells; simp only [CellsOf, KnCells, arr_lit, knAt_cons, knAt_nil, Nat.zero_add, Nat.add_zero, Nat.reduceAdd] at hc)
      | (refine op_alloc _ rfl (zero_of _ _ rfl) H (fun b w' H1 => hK _ _ ?_); clear hK K; replace H := H1; clear H1; (try clear hc); (try simp only [nrm, splice, Value.cells, Nat.reduceAdd, Act.eval, Act.put] at H); have hc := H.cells; simp only [CellsOf, KnCells, arr_lit, knAt_cons, knAt_nil, Nat.zero_add, Nat.add_zero, Nat.reduceAdd] at hc)
      | (refine op_store _ _ _ rfl rfl rfl H (by repeat (first | exact Split.here _ _ | apply Split.there)) (by kernel_rfl) (by kernel_rfl) (by kernel_rfl) (fun w' H1 => hK _ _ ?_); clear hK K; replace H := H1; clear H1; (try clear hc); (try simp only [nrm, splice, Value.cells, Nat.reduceAdd, Act.eval, Act.put] at H); have hc := H.cells; simp only [CellsOf, KnCells, arr_lit, knAt_cons, knAt_nil, Nat.zero_add, Nat.add_zero, Nat.reduceAdd] at hc)
      | (refine op_buildSlice_all _ _ _ rfl (by first | exact elem22 | exact elem25 | exact elem26 | exact elem29) (by kernel_rfl) (by kernel_rfl) (by kernel_rfl) H (fun b w' H1 => hK _ _ ?_); clear hK K; replace H := H1; clear H1; (try clear hc); (try simp only [nrm, splice, Value.cells, Nat.reduceAdd, Act.eval, Act.put] at H); have hc := H.cells; simp only [CellsOf, KnCells, arr_lit, knAt_cons, knAt_nil, Nat.zero_add, Nat.add_zero, Nat.reduceAdd] at hc)))) | go_values | go_skip | go_guarded | go_step | go_upon | go_back | dsimp only)
          go_ret
          exact ⟨rfl, H.top0⟩
end Go.Proofs.Ytlikpgidjdjgnaa
