import Derived.Test.YtlikpgidjdjgnaaRingN
import Derived.Test.YtlikpgidjdjgnaaVSkip
-- MORE
namespace Go.Proofs.Ytlikpgidjdjgnaa
set_option linter.unusedVariables false
set_option linter.unusedSimpArgs false
set_option linter.unnecessarySimpa false
open Go.RowKit Go.V

/-- The queue of the reference: its places, what waits in it, how much was ever written. -/
structure QM where
  places : Nat
  q : List Int
  total : Nat
def QM.write (kind : Int) (m : QM) (v : Int) : QM :=
  if m.q.length + 1 ≤ m.places then ⟨m.places, m.q ++ [v], m.total + 1⟩ else if kind = 2 then ⟨m.places, (m.q ++ [v]).tail, m.total + 1⟩ else if m.places = 0 then ⟨16, m.q ++ [v], m.total + 1⟩ else ⟨m.places * 2, m.q ++ [v], m.total + 1⟩
def QM.writes (kind : Int) (m : QM) (vs : List Int) : QM := vs.foldl (QM.write kind) m
theorem QM.writes_snoc (kind : Int) (m : QM) (vs : List Int) (v : Int) : m.writes kind (vs ++ [v]) = (m.writes kind vs).write kind v := by simp [QM.writes]
theorem QM.write_le (kind : Int) (m : QM) (v : Int) : (m.write kind v).q.length ≤ m.q.length + 1 ∧ (m.write kind v).total = m.total + 1 ∧ (m.write kind v).places ≤ max m.places (2 * m.q.length + 16) := by
  unfold QM.write
  split
  · simp
    omega
  · split
    · simp
      omega
    · split
      · simp
        omega
      · simp
        omega
theorem QM.writes_le (kind : Int) (vs : List Int) : ∀ m : QM, (m.writes kind vs).q.length ≤ m.q.length + vs.length ∧ (m.writes kind vs).total = m.total + vs.length ∧ (m.writes kind vs).places ≤ max m.places (2 * (m.q.length + vs.length) + 16) := by
  induction vs with
  | nil => intro m; simp [QM.writes]; omega
  | cons v vs ih =>
    intro m
    obtain ⟨h1, h2, h3⟩ := QM.write_le kind m v
    obtain ⟨h4, h5, h6⟩ := ih (m.write kind v)
    show ((m.write kind v).writes kind vs).q.length ≤ _ ∧ ((m.write kind v).writes kind vs).total = _ ∧ ((m.write kind v).writes kind vs).places ≤ _
    simp only [List.length_cons]
    omega

theorem qwrite_any (qb : Nat) (kind : Int) (normal qc : Nat) (m : QM) (qs : Option Addr) (v : Int) (S : List Nat) (w : World) (n : Nat) (hq : Hid (m.q.length = n)) (hs : qs = none → n = 0) (hn : n ≤ 100000) (ht : m.total ≤ 100000) (hp : m.places ≤ 100000)
    (H : St S w w (qents qb kind m.places normal qs n qc m.total m.q)) :
    Calls Try.prog 19 #[.pointer (some ⟨qb, 0, none⟩), .int .i64 v] w fun e w' => ∃ ad qc', (m.write kind v).q.length ≤ qc' ∧ e = .returned (.tuple #[]) ∧ St S w w' (qents qb kind (m.write kind v).places normal (some ad) (m.write kind v).q.length qc' (m.write kind v).total (m.write kind v).q) := by
  obtain ⟨places, q, total⟩ := m
  simp only at hq hn ht hp H
  have hq' := hq.out
  by_cases h1 : n + 1 ≤ places
  · have e : QM.write kind ⟨places, q, total⟩ v = ⟨places, q ++ [v], total + 1⟩ := by unfold QM.write; rw [if_pos (by simp only; omega)]
    rw [e]
    have hl : (q ++ [v]).length = n + 1 := by simp [hq']
    rw [hl]
    exact qwrite_room qb kind places normal n qc total qs q v S w hq hs hn ht (by omega) H
  by_cases h2 : kind = 2
  · have e : QM.write kind ⟨places, q, total⟩ v = ⟨places, (q ++ [v]).tail, total + 1⟩ := by unfold QM.write; rw [if_neg (by simp only; omega), if_pos h2]
    rw [e]
    have hl : (q ++ [v]).tail.length = n := by simp [hq']
    rw [hl]
    exact qwrite_fixed qb kind places normal n qc total qs q v S w hq hs hn ht (by omega) h2 H
  by_cases h3 : places = 0
  · have e : QM.write kind ⟨places, q, total⟩ v = ⟨16, q ++ [v], total + 1⟩ := by unfold QM.write; rw [if_neg (by simp only; omega), if_neg h2, if_pos h3]
    rw [e]
    have hl : (q ++ [v]).length = n + 1 := by simp [hq']
    rw [hl]
    exact qwrite_zero qb kind places normal n qc total qs q v S w hq hs hn ht (by omega) h2 (by omega) H
  · have e : QM.write kind ⟨places, q, total⟩ v = ⟨places * 2, q ++ [v], total + 1⟩ := by unfold QM.write; rw [if_neg (by simp only; omega), if_neg h2, if_neg h3]
    rw [e]
    have hl : (q ++ [v]).length = n + 1 := by simp [hq']
    rw [hl]
    exact qwrite_double qb kind places normal n qc total qs q v S w hq hs hn ht (by omega) h2 (by omega) hp H

def QM.ans (m : QM) (op : Int) : Bool × Int × List Int :=
  if op = 2 then (match m.q with | [] => (false, 0, []) | x :: _ => (true, 0, [x])) else if op = 3 then (false, (m.q.length : Nat), []) else if op = 4 then (false, (m.places : Nat), []) else if op = 5 then (false, 0, m.q) else if op = 6 then (false, (m.total : Nat), []) else (false, 0, [])
def QM.next (kind : Int) (normal : Nat) (m : QM) (op : Int) (v : List Int) : QM :=
  if op = 1 then m.writes kind v else if op = 2 then ⟨if kind = 1 ∧ m.q.tail.length = 0 ∧ normal < m.places then normal else m.places, m.q.tail, m.total⟩ else if op = 7 then ⟨m.places, [], m.total⟩ else m
/-- The end of an operation of the queue. -/
def QTold (qb : Nat) (kind : Int) (normal : Nat) (m : QM) (op : Int) (v : List Int) (S : List Nat) (w : World) (e : Ending) (w' : World) : Prop := ∃ key l cap qs qc, l = (m.ans op).2.2.length ∧ (m.next kind normal op v).q.length ≤ qc ∧ (qs = none → (m.next kind normal op v).q.length = 0) ∧
  e = .returned (.agg #[.bool (m.ans op).1, .int .i64 (m.ans op).2.1, sl key l cap]) ∧
  St S w w' ((true, .row key 3 1 l cap (ints (m.ans op).2.2)) :: qents qb kind (m.next kind normal op v).places normal qs (m.next kind normal op v).q.length qc (m.next kind normal op v).total (m.next kind normal op v).q)
theorem qtold_plain {qb : Nat} {kind : Int} {normal : Nat} {m : QM} {op : Int} {v : List Int} {S : List Nat} {w w' : World} {x : Int} {qs : Option Addr} {n qc : Nat} (ha : m.ans op = (false, x, [])) (hx : m.next kind normal op v = m) (hq : m.q.length = n) (hs : qs = none → n = 0) (hc : n ≤ qc) (H : St S w w' (qents qb kind m.places normal qs n qc m.total m.q)) :
    QTold qb kind normal m op v S w (.returned (.agg #[.bool false, .int .i64 x, .slice none 0 0])) w' := by
  subst hq
  refine ⟨none, 0, 0, qs, qc, ?_, by rw [hx]; exact hc, ?_, ?_, ?_⟩
  · rw [ha]; rfl
  · rw [hx]; exact hs
  · rw [ha]; rfl
  · rw [ha, hx]
    exact H.nilRow _ _

set_option maxHeartbeats 2000000 in
theorem qdo_len (qb : Nat) (kind : Int) (places normal n qc total : Nat) (qs : Option Addr) (q : List Int) (src : Option Addr) (k cap : Nat) (v : List Int) (S : List Nat) (w : World) (hq : Hid (q.length = n)) (hs : Hid (qs = none → n = 0)) (hn : n ≤ 100000) (ht : total ≤ 100000) (hp : places ≤ 100000) (hqc : Hid (n ≤ qc)) 
    (H : St S w w (qents qb kind places normal qs n qc total q)) :
    Calls Try.prog 11 #[.pointer (some ⟨qb, 0, none⟩), .agg #[.int .i64 3, .slice src k cap]] w (QTold qb kind normal ⟨places, q, total⟩ 3 v S w) := by
  simp only [qents, qobj] at H
  have hc := H.cells; simp only [CellsOf, KnCells, arr_lit, knAt_cons, knAt_nil, Nat.zero_add, Nat.add_zero, Nat.reduceAdd] at hc
  go_enter Try.func11, Try.ntmps11
  go_wp2_with (first
    | (refine loud_ rfl ?_; refine wpList_plain rfl (fun K hK => ?_); first
      | (refine op_box _ _ rfl H (fun b w' H1 => hK _ _ ?_); clear hK K; replace H := H1; clear H1; (try clear hc); (try simp only [nrm, splice, Value.cells, Nat.reduceAdd, Act.eval, Act.put] at H); have hc := H.cells; simp only [CellsOf, KnCells, arr_lit, knAt_cons, knAt_nil, Nat.zero_add, Nat.add_zero, Nat.reduceAdd] at hc)
      | (refine op_alloc _ rfl (zero_of _ _ rfl) H (fun b w' H1 => hK _ _ ?_); clear hK K; replace H := H1; clear H1; (try clear hc); (try simp only [nrm, splice, Value.cells, Nat.reduceAdd, Act.eval, Act.put] at H); have hc := H.cells; simp only [CellsOf, KnCells, arr_lit, knAt_cons, knAt_nil, Nat.zero_add, Nat.add_zero, Nat.reduceAdd] at hc)
      | (refine op_store _ _ _ rfl rfl rfl H (by repeat (first | exact Split.here _ _ | apply Split.there)) (by kernel_rfl) (by kernel_rfl) (by kernel_rfl) (fun w' H1 => hK _ _ ?_); clear hK K; replace H := H1; clear H1; (try clear hc); (try simp only [nrm, splice, Value.cells, Nat.reduceAdd, Act.eval, Act.put] at H); have hc := H.cells; simp only [CellsOf, KnCells, arr_lit, knAt_cons, knAt_nil, Nat.zero_add, Nat.add_zero, Nat.reduceAdd] at hc)
      | (refine op_buildSlice_all _ _ _ rfl (by first | exact elem22 | exact elem25 | exact elem26 | exact elem29) (by kernel_rfl) (by kernel_rfl) (by kernel_rfl) H (fun b w' H1 => hK _ _ ?_); clear hK K; replace H := H1; clear H1; (try clear hc); (try simp only [nrm, splice, Value.cells, Nat.reduceAdd, Act.eval, Act.put] at H); have hc := H.cells; simp only [CellsOf, KnCells, arr_lit, knAt_cons, knAt_nil, Nat.zero_add, Nat.add_zero, Nat.reduceAdd] at hc)))
  exact bodyPost_ret (v := .agg #[.bool false, .int .i64 (n : Nat), .slice none 0 0]) (by simp [results, Try.results11, go_sem, hc, Act.put]; try rfl) rfl (qtold_plain (n := n) (qs := qs) (qc := qc) (by have := hq.out; simp [QM.ans, this]) rfl hq.out hs.out hqc.out (H.sel (by repeat (first | exact Sel.nil _ | (apply Sel.cons; focus (repeat (first | exact Split.here _ _ | apply Split.there)))))))

set_option maxHeartbeats 2000000 in
theorem qdo_cap (qb : Nat) (kind : Int) (places normal n qc total : Nat) (qs : Option Addr) (q : List Int) (src : Option Addr) (k cap : Nat) (v : List Int) (S : List Nat) (w : World) (hq : Hid (q.length = n)) (hs : Hid (qs = none → n = 0)) (hn : n ≤ 100000) (ht : total ≤ 100000) (hp : places ≤ 100000) (hqc : Hid (n ≤ qc)) 
    (H : St S w w (qents qb kind places normal qs n qc total q)) :
    Calls Try.prog 11 #[.pointer (some ⟨qb, 0, none⟩), .agg #[.int .i64 4, .slice src k cap]] w (QTold qb kind normal ⟨places, q, total⟩ 4 v S w) := by
  simp only [qents, qobj] at H
  have hc := H.cells; simp only [CellsOf, KnCells, arr_lit, knAt_cons, knAt_nil, Nat.zero_add, Nat.add_zero, Nat.reduceAdd] at hc
  go_enter Try.func11, Try.ntmps11
  go_wp2_with (first
    | (refine loud_ rfl ?_; refine wpList_plain rfl (fun K hK => ?_); first
      | (refine op_box _ _ rfl H (fun b w' H1 => hK _ _ ?_); clear hK K; replace H := H1; clear H1; (try clear hc); (try simp only [nrm, splice, Value.cells, Nat.reduceAdd, Act.eval, Act.put] at H); have hc := H.cells; simp only [CellsOf, KnCells, arr_lit, knAt_cons, knAt_nil, Nat.zero_add, Nat.add_zero, Nat.reduceAdd] at hc)
      | (refine op_alloc _ rfl (zero_of _ _ rfl) H (fun b w' H1 => hK _ _ ?_); clear hK K; replace H := H1; clear H1; (try clear hc); (try simp only [nrm, splice, Value.cells, Nat.reduceAdd, Act.eval, Act.put] at H); have hc := H.cells; simp only [CellsOf, KnCells, arr_lit, knAt_cons, knAt_nil, Nat.zero_add, Nat.add_zero, Nat.reduceAdd] at hc)
      | (refine op_store _ _ _ rfl rfl rfl H (by repeat (first | exact Split.here _ _ | apply Split.there)) (by kernel_rfl) (by kernel_rfl) (by kernel_rfl) (fun w' H1 => hK _ _ ?_); clear hK K; replace H := H1; clear H1; (try clear hc); (try simp only [nrm, splice, Value.cells, Nat.reduceAdd, Act.eval, Act.put] at H); have hc := H.cells; simp only [CellsOf, KnCells, arr_lit, knAt_cons, knAt_nil, Nat.zero_add, Nat.add_zero, Nat.reduceAdd] at hc)
      | (refine op_buildSlice_all _ _ _ rfl (by first | exact elem22 | exact elem25 | exact elem26 | exact elem29) (by kernel_rfl) (by kernel_rfl) (by kernel_rfl) H (fun b w' H1 => hK _ _ ?_); clear hK K; replace H := H1; clear H1; (try clear hc); (try simp only [nrm, splice, Value.cells, Nat.reduceAdd, Act.eval, Act.put] at H); have hc := H.cells; simp only [CellsOf, KnCells, arr_lit, knAt_cons, knAt_nil, Nat.zero_add, Nat.add_zero, Nat.reduceAdd] at hc)))
  exact bodyPost_ret (v := .agg #[.bool false, .int .i64 (places : Nat), .slice none 0 0]) (by simp [results, Try.results11, go_sem, hc, Act.put]; try rfl) rfl (qtold_plain (n := n) (qs := qs) (qc := qc) (by have := hq.out; simp [QM.ans, this]) rfl hq.out hs.out hqc.out (H.sel (by repeat (first | exact Sel.nil _ | (apply Sel.cons; focus (repeat (first | exact Split.here _ _ | apply Split.there)))))))

set_option maxHeartbeats 2000000 in
theorem qdo_total (qb : Nat) (kind : Int) (places normal n qc total : Nat) (qs : Option Addr) (q : List Int) (src : Option Addr) (k cap : Nat) (v : List Int) (S : List Nat) (w : World) (hq : Hid (q.length = n)) (hs : Hid (qs = none → n = 0)) (hn : n ≤ 100000) (ht : total ≤ 100000) (hp : places ≤ 100000) (hqc : Hid (n ≤ qc)) 
    (H : St S w w (qents qb kind places normal qs n qc total q)) :
    Calls Try.prog 11 #[.pointer (some ⟨qb, 0, none⟩), .agg #[.int .i64 6, .slice src k cap]] w (QTold qb kind normal ⟨places, q, total⟩ 6 v S w) := by
  simp only [qents, qobj] at H
  have hc := H.cells; simp only [CellsOf, KnCells, arr_lit, knAt_cons, knAt_nil, Nat.zero_add, Nat.add_zero, Nat.reduceAdd] at hc
  go_enter Try.func11, Try.ntmps11
  go_wp2_with (first
    | (refine loud_ rfl ?_; refine wpList_plain rfl (fun K hK => ?_); first
      | (refine op_box _ _ rfl H (fun b w' H1 => hK _ _ ?_); clear hK K; replace H := H1; clear H1; (try clear hc); (try simp only [nrm, splice, Value.cells, Nat.reduceAdd, Act.eval, Act.put] at H); have hc := H.cells; simp only [CellsOf, KnCells, arr_lit, knAt_cons, knAt_nil, Nat.zero_add, Nat.add_zero, Nat.reduceAdd] at hc)
      | (refine op_alloc _ rfl (zero_of _ _ rfl) H (fun b w' H1 => hK _ _ ?_); clear hK K; replace H := H1; clear H1; (try clear hc); (try simp only [nrm, splice, Value.cells, Nat.reduceAdd, Act.eval, Act.put] at H); have hc := H.cells; simp only [CellsOf, KnCells, arr_lit, knAt_cons, knAt_nil, Nat.zero_add, Nat.add_zero, Nat.reduceAdd] at hc)
      | (refine op_store _ _ _ rfl rfl rfl H (by repeat (first | exact Split.here _ _ | apply Split.there)) (by kernel_rfl) (by kernel_rfl) (by kernel_rfl) (fun w' H1 => hK _ _ ?_); clear hK K; replace H := H1; clear H1; (try clear hc); (try simp only [nrm, splice, Value.cells, Nat.reduceAdd, Act.eval, Act.put] at H); have hc := H.cells; simp only [CellsOf, KnCells, arr_lit, knAt_cons, knAt_nil, Nat.zero_add, Nat.add_zero, Nat.reduceAdd] at hc)
      | (refine op_buildSlice_all _ _ _ rfl (by first | exact elem22 | exact elem25 | exact elem26 | exact elem29) (by kernel_rfl) (by kernel_rfl) (by kernel_rfl) H (fun b w' H1 => hK _ _ ?_); clear hK K; replace H := H1; clear H1; (try clear hc); (try simp only [nrm, splice, Value.cells, Nat.reduceAdd, Act.eval, Act.put] at H); have hc := H.cells; simp only [CellsOf, KnCells, arr_lit, knAt_cons, knAt_nil, Nat.zero_add, Nat.add_zero, Nat.reduceAdd] at hc)))
  exact bodyPost_ret (v := .agg #[.bool false, .int .i64 (total : Nat), .slice none 0 0]) (by simp [results, Try.results11, go_sem, hc, Act.put]; try rfl) rfl (qtold_plain (n := n) (qs := qs) (qc := qc) (by have := hq.out; simp [QM.ans, this]) rfl hq.out hs.out hqc.out (H.sel (by repeat (first | exact Sel.nil _ | (apply Sel.cons; focus (repeat (first | exact Split.here _ _ | apply Split.there)))))))

set_option maxHeartbeats 2000000 in
theorem qdo_slice (qb : Nat) (kind : Int) (places normal n qc total : Nat) (qs : Option Addr) (q : List Int) (src : Option Addr) (k cap : Nat) (v : List Int) (S : List Nat) (w : World) (hq : Hid (q.length = n)) (hs : Hid (qs = none → n = 0)) (hn : n ≤ 100000) (ht : total ≤ 100000) (hp : places ≤ 100000) (hqc : Hid (n ≤ qc)) 
    (H : St S w w (qents qb kind places normal qs n qc total q)) :
    Calls Try.prog 11 #[.pointer (some ⟨qb, 0, none⟩), .agg #[.int .i64 5, .slice src k cap]] w (QTold qb kind normal ⟨places, q, total⟩ 5 v S w) := by
  simp only [qents, qobj] at H
  have hc := H.cells; simp only [CellsOf, KnCells, arr_lit, knAt_cons, knAt_nil, Nat.zero_add, Nat.add_zero, Nat.reduceAdd] at hc
  go_enter Try.func11, Try.ntmps11
  go_wp2_with (first
    | (go_at_call 20; refine Calls.mono (clone_calls qs n qc q _ _ hq (by omega) hs.out (H.pick (by repeat (first | exact Picks.nil _ | (apply Picks.wr; focus (repeat (first | exact Split.here _ _ | apply Split.there))) | (apply Picks.rd; focus (repeat (first | exact Split.here _ _ | apply Split.there))))))) ?_; rintro e w' ⟨key, cap', rfl, H'⟩; replace H := H.merge (by first | exact Strikes.nil _ | (repeat (first | exact Strikes.nil _ | (apply Strikes.cons; focus (repeat (first | exact Split.here _ _ | apply Split.there)))))) H' rfl; clear H'; (try clear hc); (try simp only [nrm, splice, Value.cells, Nat.reduceAdd, Act.eval, Act.put] at H); have hc := H.cells; simp only [CellsOf, KnCells, arr_lit, knAt_cons, knAt_nil, Nat.zero_add, Nat.add_zero, Nat.reduceAdd] at hc)
    | (refine loud_ rfl ?_; refine wpList_plain rfl (fun K hK => ?_); first
      | (refine op_box _ _ rfl H (fun b w' H1 => hK _ _ ?_); clear hK K; replace H := H1; clear H1; (try clear hc); (try simp only [nrm, splice, Value.cells, Nat.reduceAdd, Act.eval, Act.put] at H); have hc := H.cells; simp only [CellsOf, KnCells, arr_lit, knAt_cons, knAt_nil, Nat.zero_add, Nat.add_zero, Nat.reduceAdd] at hc)
      | (refine op_alloc _ rfl (zero_of _ _ rfl) H (fun b w' H1 => hK _ _ ?_); clear hK K; replace H := H1; clear H1; (try clear hc); (try simp only [nrm, splice, Value.cells, Nat.reduceAdd, Act.eval, Act.put] at H); have hc := H.cells; simp only [CellsOf, KnCells, arr_lit, knAt_cons, knAt_nil, Nat.zero_add, Nat.add_zero, Nat.reduceAdd] at hc)
      | (refine op_store _ _ _ rfl rfl rfl H (by repeat (first | exact Split.here _ _ | apply Split.there)) (by kernel_rfl) (by kernel_rfl) (by kernel_rfl) (fun w' H1 => hK _ _ ?_); clear hK K; replace H := H1; clear H1; (try clear hc); (try simp only [nrm, splice, Value.cells, Nat.reduceAdd, Act.eval, Act.put] at H); have hc := H.cells; simp only [CellsOf, KnCells, arr_lit, knAt_cons, knAt_nil, Nat.zero_add, Nat.add_zero, Nat.reduceAdd] at hc)
      | (refine op_buildSlice_all _ _ _ rfl (by first | exact elem22 | exact elem25 | exact elem26 | exact elem29) (by kernel_rfl) (by kernel_rfl) (by kernel_rfl) H (fun b w' H1 => hK _ _ ?_); clear hK K; replace H := H1; clear H1; (try clear hc); (try simp only [nrm, splice, Value.cells, Nat.reduceAdd, Act.eval, Act.put] at H); have hc := H.cells; simp only [CellsOf, KnCells, arr_lit, knAt_cons, knAt_nil, Nat.zero_add, Nat.add_zero, Nat.reduceAdd] at hc)))
  exact bodyPost_ret (v := .agg #[.bool false, .int .i64 0, sl key n cap']) (by simp [results, Try.results11, go_sem, hc, Act.put]; try rfl) rfl ⟨key, n, cap', qs, qc, hq.out.symm, (by have h1 := hq.out; have h2 := hqc.out; show q.length ≤ qc; omega), (fun h => by have h1 := hq.out; have h2 := hs.out h; show q.length = 0; omega), rfl, by show St S w _ ((true, .row key 3 1 n cap' (ints q)) :: qents qb kind places normal qs q.length qc total q); rw [hq.out]; exact H.sel (by repeat (first | exact Sel.nil _ | (apply Sel.cons; focus (repeat (first | exact Split.here _ _ | apply Split.there)))))⟩

set_option maxHeartbeats 2000000 in
theorem qdo_reset (qb : Nat) (kind : Int) (places normal n qc total : Nat) (qs : Option Addr) (q : List Int) (src : Option Addr) (k cap : Nat) (v : List Int) (S : List Nat) (w : World) (hq : Hid (q.length = n)) (hs : Hid (qs = none → n = 0)) (hn : n ≤ 100000) (ht : total ≤ 100000) (hp : places ≤ 100000) (hqc : Hid (n ≤ qc)) 
    (H : St S w w (qents qb kind places normal qs n qc total q)) :
    Calls Try.prog 11 #[.pointer (some ⟨qb, 0, none⟩), .agg #[.int .i64 7, .slice src k cap]] w (QTold qb kind normal ⟨places, q, total⟩ 7 v S w) := by
  simp only [qents, qobj] at H
  have hc := H.cells; simp only [CellsOf, KnCells, arr_lit, knAt_cons, knAt_nil, Nat.zero_add, Nat.add_zero, Nat.reduceAdd] at hc
  go_enter Try.func11, Try.ntmps11
  go_wp2_with (first
    | (refine loud_ rfl ?_; refine wpList_plain rfl (fun K hK => ?_); first
      | (refine op_box _ _ rfl H (fun b w' H1 => hK _ _ ?_); clear hK K; replace H := H1; clear H1; (try clear hc); (try simp only [nrm, splice, Value.cells, Nat.reduceAdd, Act.eval, Act.put] at H); have hc := H.cells; simp only [CellsOf, KnCells, arr_lit, knAt_cons, knAt_nil, Nat.zero_add, Nat.add_zero, Nat.reduceAdd] at hc)
      | (refine op_alloc _ rfl (zero_of _ _ rfl) H (fun b w' H1 => hK _ _ ?_); clear hK K; replace H := H1; clear H1; (try clear hc); (try simp only [nrm, splice, Value.cells, Nat.reduceAdd, Act.eval, Act.put] at H); have hc := H.cells; simp only [CellsOf, KnCells, arr_lit, knAt_cons, knAt_nil, Nat.zero_add, Nat.add_zero, Nat.reduceAdd] at hc)
      | (refine op_store _ _ _ rfl rfl rfl H (by repeat (first | exact Split.here _ _ | apply Split.there)) (by kernel_rfl) (by kernel_rfl) (by kernel_rfl) (fun w' H1 => hK _ _ ?_); clear hK K; replace H := H1; clear H1; (try clear hc); (try simp only [nrm, splice, Value.cells, Nat.reduceAdd, Act.eval, Act.put] at H); have hc := H.cells; simp only [CellsOf, KnCells, arr_lit, knAt_cons, knAt_nil, Nat.zero_add, Nat.add_zero, Nat.reduceAdd] at hc)
      | (refine op_buildSlice_all _ _ _ rfl (by first | exact elem22 | exact elem25 | exact elem26 | exact elem29) (by kernel_rfl) (by kernel_rfl) (by kernel_rfl) H (fun b w' H1 => hK _ _ ?_); clear hK K; replace H := H1; clear H1; (try clear hc); (try simp only [nrm, splice, Value.cells, Nat.reduceAdd, Act.eval, Act.put] at H); have hc := H.cells; simp only [CellsOf, KnCells, arr_lit, knAt_cons, knAt_nil, Nat.zero_add, Nat.add_zero, Nat.reduceAdd] at hc)))
  exact bodyPost_ret (v := .agg #[.bool false, .int .i64 0, .slice none 0 0]) (by simp [results, Try.results11, go_sem, hc, Act.put]; try rfl) rfl ⟨none, 0, 0, none, 0, rfl, Nat.le_refl _, fun _ => rfl, rfl, ((H.softNil none).nilRow 3 1).sel (by repeat (first | exact Sel.nil _ | (apply Sel.cons; focus (repeat (first | exact Split.here _ _ | apply Split.there)))))⟩

set_option maxHeartbeats 2000000 in
theorem qdo_rest (qb : Nat) (kind : Int) (places normal n qc total : Nat) (qs : Option Addr) (q : List Int) (src : Option Addr) (k cap : Nat) (v : List Int) (S : List Nat) (w : World) (hq : Hid (q.length = n)) (hs : Hid (qs = none → n = 0)) (hn : n ≤ 100000) (ht : total ≤ 100000) (hp : places ≤ 100000) (hqc : Hid (n ≤ qc)) (op : Int) (k1 : ¬ op = 1) (k2 : ¬ op = 2) (k3 : ¬ op = 3) (k4 : ¬ op = 4) (k5 : ¬ op = 5) (k6 : ¬ op = 6) (k7 : ¬ op = 7)
    (H : St S w w (qents qb kind places normal qs n qc total q)) :
    Calls Try.prog 11 #[.pointer (some ⟨qb, 0, none⟩), .agg #[.int .i64 op, .slice src k cap]] w (QTold qb kind normal ⟨places, q, total⟩ op v S w) := by
  simp only [qents, qobj] at H
  have hc := H.cells; simp only [CellsOf, KnCells, arr_lit, knAt_cons, knAt_nil, Nat.zero_add, Nat.add_zero, Nat.reduceAdd] at hc
  go_enter Try.func11, Try.ntmps11
  go_wp2_with (first
    | (refine loud_ rfl ?_; refine wpList_plain rfl (fun K hK => ?_); first
      | (refine op_box _ _ rfl H (fun b w' H1 => hK _ _ ?_); clear hK K; replace H := H1; clear H1; (try clear hc); (try simp only [nrm, splice, Value.cells, Nat.reduceAdd, Act.eval, Act.put] at H); have hc := H.cells; simp only [CellsOf, KnCells, arr_lit, knAt_cons, knAt_nil, Nat.zero_add, Nat.add_zero, Nat.reduceAdd] at hc)
      | (refine op_alloc _ rfl (zero_of _ _ rfl) H (fun b w' H1 => hK _ _ ?_); clear hK K; replace H := H1; clear H1; (try clear hc); (try simp only [nrm, splice, Value.cells, Nat.reduceAdd, Act.eval, Act.put] at H); have hc := H.cells; simp only [CellsOf, KnCells, arr_lit, knAt_cons, knAt_nil, Nat.zero_add, Nat.add_zero, Nat.reduceAdd] at hc)
      | (refine op_store _ _ _ rfl rfl rfl H (by repeat (first | exact Split.here _ _ | apply Split.there)) (by kernel_rfl) (by kernel_rfl) (by kernel_rfl) (fun w' H1 => hK _ _ ?_); clear hK K; replace H := H1; clear H1; (try clear hc); (try simp only [nrm, splice, Value.cells, Nat.reduceAdd, Act.eval, Act.put] at H); have hc := H.cells; simp only [CellsOf, KnCells, arr_lit, knAt_cons, knAt_nil, Nat.zero_add, Nat.add_zero, Nat.reduceAdd] at hc)
      | (refine op_buildSlice_all _ _ _ rfl (by first | exact elem22 | exact elem25 | exact elem26 | exact elem29) (by kernel_rfl) (by kernel_rfl) (by kernel_rfl) H (fun b w' H1 => hK _ _ ?_); clear hK K; replace H := H1; clear H1; (try clear hc); (try simp only [nrm, splice, Value.cells, Nat.reduceAdd, Act.eval, Act.put] at H); have hc := H.cells; simp only [CellsOf, KnCells, arr_lit, knAt_cons, knAt_nil, Nat.zero_add, Nat.add_zero, Nat.reduceAdd] at hc)))
  exact bodyPost_ret (v := .agg #[.bool false, .int .i64 0, .slice none 0 0]) (by simp [results, Try.results11, go_sem, hc, Act.put]; try rfl) rfl (qtold_plain (n := n) (qs := qs) (qc := qc) (by simp [QM.ans, *]) (by simp [QM.next, *]) hq.out hs.out hqc.out (H.sel (by repeat (first | exact Sel.nil _ | (apply Sel.cons; focus (repeat (first | exact Split.here _ _ | apply Split.there)))))))
end Go.Proofs.Ytlikpgidjdjgnaa
