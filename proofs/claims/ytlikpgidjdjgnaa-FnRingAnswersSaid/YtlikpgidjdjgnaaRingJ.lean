import Derived.Test.YtlikpgidjdjgnaaRingI
-- MORE
namespace Go.Proofs.Ytlikpgidjdjgnaa
set_option linter.unusedVariables false
set_option linter.unusedSimpArgs false
set_option linter.unnecessarySimpa false
open Go.RowKit Go.V

/-- What a growing ring is: its places, and what waits in it. -/
structure GR where
  n : Nat
  q : List Int
/-- The places of a ring behind a read that leaves q. -/
def lessO (o : Option Nat) (n : Nat) (q : List Int) : Nat := match o with | none => n | some m => less m n q
def GR.next (o : Option Nat) (g : GR) (kind : Int) (v : List Int) : GR :=
  if kind = 1 then ⟨moreAll g.n g.q v, g.q ++ v⟩ else if kind = 2 then ⟨lessO o g.n g.q.tail, g.q.tail⟩ else g
def headAns : List Int → Bool × Int × List Int
  | [] => (false, 0, [])
  | x :: _ => (true, 0, [x])
def GR.ans (g : GR) (kind : Int) : Bool × Int × List Int :=
  if kind = 1 then (true, 0, []) else if kind = 2 then headAns g.q else if kind = 3 then (true, (g.q.length : Nat), []) else if kind = 4 then (true, (g.n : Nat), []) else (false, 0, [])
def oInt (o : Option Nat) : Option Int := o.map fun m => (m : Int)
/-- A ring as an interface's value. -/
def rv (o : Option Nat) (br : Nat) : Value := match o with
  | none => .iface 49 (.pointer (some ⟨br, 0, none⟩))
  | some _ => .iface 55 (.pointer (some ⟨br, 0, none⟩))
/-- An answer of a growing ring, in memory. -/
def GTold (o : Option Nat) (g : GR) (br : Nat) (kind : Int) (v : List Int) (S : List Nat) (w : World) (e : Ending) (w' : World) : Prop := ∃ key m cap kb beg data, m = (g.ans kind).2.2.length ∧ GInv (g.next o kind v).n beg data (g.next o kind v).q ∧
  e = .returned (.agg #[.bool (g.ans kind).1, .int .i64 (g.ans kind).2.1, sl key m cap]) ∧
  St S w w' ((true, .row key 3 1 m cap (ints (g.ans kind).2.2)) :: gents (oInt o) br kb (g.next o kind v).n beg (g.next o kind v).q.length data)
theorem gtold_plain {o : Option Nat} {g : GR} {br kb beg : Nat} {data : List Int} {kind : Int} {v : List Int} {S : List Nat} {w w' : World} {b : Bool} {x : Int} (ha : g.ans kind = (b, x, [])) (hn : g.next o kind v = g) (hg : GInv g.n beg data g.q) (H : St S w w' (gents (oInt o) br kb g.n beg g.q.length data)) :
    GTold o g br kind v S w (.returned (.agg #[.bool b, .int .i64 x, .slice none 0 0])) w' := by
  refine ⟨none, 0, 0, kb, beg, data, ?_, ?_, ?_, ?_⟩
  · rw [ha]; rfl
  · rw [hn]; exact hg
  · rw [ha]; rfl
  · rw [ha, hn]
    exact H.nilRow _ _

theorem rung_len (br kb n beg : Nat) (data q : List Int) (src : Option Addr) (k cap : Nat) (v : List Int) (S : List Nat) (w : World) (h : GInv n beg data q) (H : St S w w (gents none br kb n beg q.length data)) :
    Calls Try.prog 17 #[.iface 49 (.pointer (some ⟨br, 0, none⟩)), .agg #[.int .i64 3, .slice src k cap]] w (GTold none ⟨n, q⟩ br 3 v S w) := by
  have hmeLen : ∀ (w : World), (method 193 49 (.pointer (some ⟨br, 0, none⟩)) "Len").run Try.prog w = .ok (44, .pointer (some ⟨br, 0, none⟩)) w := fun w => by kernel_rfl
  have h' := Lib.hid h
  clear h
  go_enter Try.func17, Try.ntmps17
  go_wp2_with (first
    | (go_at_call 44; refine Calls.mono (glen_calls none _ _ _ _ _ _ (H.obj (by repeat (first | exact Split.here _ _ | apply Split.there)))) ?_; rintro e w' ⟨rfl, H'⟩; replace H := H.of_ext H'; clear H'; (try clear hc); (try simp only [nrm, splice, Value.cells, Nat.reduceAdd, Act.eval, Act.put] at H); have hc := H.cells; simp only [CellsOf, KnCells, arr_lit, knAt_cons, knAt_nil, Nat.zero_add, Nat.add_zero, Nat.reduceAdd] at hc)
    | (refine loud_ rfl ?_; refine wpList_plain rfl (fun K hK => ?_); first
      | (refine op_box _ _ rfl H (fun b w' H1 => hK _ _ ?_); clear hK K; replace H := H1; clear H1; (try clear hc); (try simp only [nrm, splice, Value.cells, Nat.reduceAdd, Act.eval, Act.put] at H); have hc := H.cells; simp only [CellsOf, KnCells, arr_lit, knAt_cons, knAt_nil, Nat.zero_add, Nat.add_zero, Nat.reduceAdd] at hc)
      | (refine op_alloc _ rfl (zero_of _ _ rfl) H (fun b w' H1 => hK _ _ ?_); clear hK K; replace H := H1; clear H1; (try clear hc); (try simp only [nrm, splice, Value.cells, Nat.reduceAdd, Act.eval, Act.put] at H); have hc := H.cells; simp only [CellsOf, KnCells, arr_lit, knAt_cons, knAt_nil, Nat.zero_add, Nat.add_zero, Nat.reduceAdd] at hc)
      | (refine op_store _ _ _ rfl rfl rfl H (by repeat (first | exact Split.here _ _ | apply Split.there)) (by kernel_rfl) (by kernel_rfl) (by kernel_rfl) (fun w' H1 => hK _ _ ?_); clear hK K; replace H := H1; clear H1; (try clear hc); (try simp only [nrm, splice, Value.cells, Nat.reduceAdd, Act.eval, Act.put] at H); have hc := H.cells; simp only [CellsOf, KnCells, arr_lit, knAt_cons, knAt_nil, Nat.zero_add, Nat.add_zero, Nat.reduceAdd] at hc)
      | (refine op_buildSlice_all _ _ _ rfl (by first | exact elem22 | exact elem25 | exact elem26 | exact elem29) (by kernel_rfl) (by kernel_rfl) (by kernel_rfl) H (fun b w' H1 => hK _ _ ?_); clear hK K; replace H := H1; clear H1; (try clear hc); (try simp only [nrm, splice, Value.cells, Nat.reduceAdd, Act.eval, Act.put] at H); have hc := H.cells; simp only [CellsOf, KnCells, arr_lit, knAt_cons, knAt_nil, Nat.zero_add, Nat.add_zero, Nat.reduceAdd] at hc)))
  exact bodyPost_ret (v := .agg #[.bool true, .int .i64 (q.length : Nat), .slice none 0 0]) (by simp [results, Try.results17, go_sem, hc, Act.put]; try rfl) rfl (gtold_plain rfl rfl h'.out (H.sel (by repeat (first | exact Sel.nil _ | (apply Sel.cons; focus (repeat (first | exact Split.here _ _ | apply Split.there)))))))

theorem rung_cap (br kb n beg : Nat) (data q : List Int) (src : Option Addr) (k cap : Nat) (v : List Int) (S : List Nat) (w : World) (h : GInv n beg data q) (H : St S w w (gents none br kb n beg q.length data)) :
    Calls Try.prog 17 #[.iface 49 (.pointer (some ⟨br, 0, none⟩)), .agg #[.int .i64 4, .slice src k cap]] w (GTold none ⟨n, q⟩ br 4 v S w) := by
  have hmeCap : ∀ (w : World), (method 193 49 (.pointer (some ⟨br, 0, none⟩)) "Cap").run Try.prog w = .ok (43, .pointer (some ⟨br, 0, none⟩)) w := fun w => by kernel_rfl
  have h' := Lib.hid h
  clear h
  go_enter Try.func17, Try.ntmps17
  go_wp2_with (first
    | (go_at_call 43; refine Calls.mono (gcap_calls none _ _ _ _ _ _ (H.obj (by repeat (first | exact Split.here _ _ | apply Split.there)))) ?_; rintro e w' ⟨rfl, H'⟩; replace H := H.of_ext H'; clear H'; (try clear hc); (try simp only [nrm, splice, Value.cells, Nat.reduceAdd, Act.eval, Act.put] at H); have hc := H.cells; simp only [CellsOf, KnCells, arr_lit, knAt_cons, knAt_nil, Nat.zero_add, Nat.add_zero, Nat.reduceAdd] at hc)
    | (refine loud_ rfl ?_; refine wpList_plain rfl (fun K hK => ?_); first
      | (refine op_box _ _ rfl H (fun b w' H1 => hK _ _ ?_); clear hK K; replace H := H1; clear H1; (try clear hc); (try simp only [nrm, splice, Value.cells, Nat.reduceAdd, Act.eval, Act.put] at H); have hc := H.cells; simp only [CellsOf, KnCells, arr_lit, knAt_cons, knAt_nil, Nat.zero_add, Nat.add_zero, Nat.reduceAdd] at hc)
      | (refine op_alloc _ rfl (zero_of _ _ rfl) H (fun b w' H1 => hK _ _ ?_); clear hK K; replace H := H1; clear H1; (try clear hc); (try simp only [nrm, splice, Value.cells, Nat.reduceAdd, Act.eval, Act.put] at H); have hc := H.cells; simp only [CellsOf, KnCells, arr_lit, knAt_cons, knAt_nil, Nat.zero_add, Nat.add_zero, Nat.reduceAdd] at hc)
      | (refine op_store _ _ _ rfl rfl rfl H (by repeat (first | exact Split.here _ _ | apply Split.there)) (by kernel_rfl) (by kernel_rfl) (by kernel_rfl) (fun w' H1 => hK _ _ ?_); clear hK K; replace H := H1; clear H1; (try clear hc); (try simp only [nrm, splice, Value.cells, Nat.reduceAdd, Act.eval, Act.put] at H); have hc := H.cells; simp only [CellsOf, KnCells, arr_lit, knAt_cons, knAt_nil, Nat.zero_add, Nat.add_zero, Nat.reduceAdd] at hc)
      | (refine op_buildSlice_all _ _ _ rfl (by first | exact elem22 | exact elem25 | exact elem26 | exact elem29) (by kernel_rfl) (by kernel_rfl) (by kernel_rfl) H (fun b w' H1 => hK _ _ ?_); clear hK K; replace H := H1; clear H1; (try clear hc); (try simp only [nrm, splice, Value.cells, Nat.reduceAdd, Act.eval, Act.put] at H); have hc := H.cells; simp only [CellsOf, KnCells, arr_lit, knAt_cons, knAt_nil, Nat.zero_add, Nat.add_zero, Nat.reduceAdd] at hc)))
  exact bodyPost_ret (v := .agg #[.bool true, .int .i64 (n : Nat), .slice none 0 0]) (by simp [results, Try.results17, go_sem, hc, Act.put]; try rfl) rfl (gtold_plain rfl rfl h'.out (H.sel (by repeat (first | exact Sel.nil _ | (apply Sel.cons; focus (repeat (first | exact Split.here _ _ | apply Split.there)))))))

theorem rung_rest (br kb n beg : Nat) (data q : List Int) (kind : Int) (k1 : ¬ kind = 1) (k2 : ¬ kind = 2) (k3 : ¬ kind = 3) (k4 : ¬ kind = 4) (src : Option Addr) (k cap : Nat) (v : List Int) (S : List Nat) (w : World) (h : GInv n beg data q) (H : St S w w (gents none br kb n beg q.length data)) :
    Calls Try.prog 17 #[.iface 49 (.pointer (some ⟨br, 0, none⟩)), .agg #[.int .i64 kind, .slice src k cap]] w (GTold none ⟨n, q⟩ br kind v S w) := by
  have h' := Lib.hid h
  clear h
  go_enter Try.func17, Try.ntmps17
  go_wp2_with (first
    | (refine loud_ rfl ?_; refine wpList_plain rfl (fun K hK => ?_); first
      | (refine op_box _ _ rfl H (fun b w' H1 => hK _ _ ?_); clear hK K; replace H := H1; clear H1; (try clear hc); (try simp only [nrm, splice, Value.cells, Nat.reduceAdd, Act.eval, Act.put] at H); have hc := H.cells; simp only [CellsOf, KnCells, arr_lit, knAt_cons, knAt_nil, Nat.zero_add, Nat.add_zero, Nat.reduceAdd] at hc)
      | (refine op_alloc _ rfl (zero_of _ _ rfl) H (fun b w' H1 => hK _ _ ?_); clear hK K; replace H := H1; clear H1; (try clear hc); (try simp only [nrm, splice, Value.cells, Nat.reduceAdd, Act.eval, Act.put] at H); have hc := H.cells; simp only [CellsOf, KnCells, arr_lit, knAt_cons, knAt_nil, Nat.zero_add, Nat.add_zero, Nat.reduceAdd] at hc)
      | (refine op_store _ _ _ rfl rfl rfl H (by repeat (first | exact Split.here _ _ | apply Split.there)) (by kernel_rfl) (by kernel_rfl) (by kernel_rfl) (fun w' H1 => hK _ _ ?_); clear hK K; replace H := H1; clear H1; (try clear hc); (try simp only [nrm, splice, Value.cells, Nat.reduceAdd, Act.eval, Act.put] at H); have hc := H.cells; simp only [CellsOf, KnCells, arr_lit, knAt_cons, knAt_nil, Nat.zero_add, Nat.add_zero, Nat.reduceAdd] at hc)
      | (refine op_buildSlice_all _ _ _ rfl (by first | exact elem22 | exact elem25 | exact elem26 | exact elem29) (by kernel_rfl) (by kernel_rfl) (by kernel_rfl) H (fun b w' H1 => hK _ _ ?_); clear hK K; replace H := H1; clear H1; (try clear hc); (try simp only [nrm, splice, Value.cells, Nat.reduceAdd, Act.eval, Act.put] at H); have hc := H.cells; simp only [CellsOf, KnCells, arr_lit, knAt_cons, knAt_nil, Nat.zero_add, Nat.add_zero, Nat.reduceAdd] at hc)))
  exact bodyPost_ret (v := .agg #[.bool false, .int .i64 0, .slice none 0 0]) (by simp [results, Try.results17, go_sem, hc, Act.put]; try rfl) rfl (gtold_plain (by simp [GR.ans, *]) (by simp [GR.next, *]) h'.out (H.sel (by repeat (first | exact Sel.nil _ | (apply Sel.cons; focus (repeat (first | exact Split.here _ _ | apply Split.there)))))))

theorem rung2_len (m : Nat) (br kb n beg : Nat) (data q : List Int) (src : Option Addr) (k cap : Nat) (v : List Int) (S : List Nat) (w : World) (h : GInv n beg data q) (H : St S w w (gents (some (m : Int)) br kb n beg q.length data)) :
    Calls Try.prog 17 #[.iface 55 (.pointer (some ⟨br, 0, none⟩)), .agg #[.int .i64 3, .slice src k cap]] w (GTold (some m) ⟨n, q⟩ br 3 v S w) := by
  have hmeLen : ∀ (w : World), (method 193 55 (.pointer (some ⟨br, 0, none⟩)) "Len").run Try.prog w = .ok (48, .pointer (some ⟨br, 0, none⟩)) w := fun w => by kernel_rfl
  have h' := Lib.hid h
  clear h
  go_enter Try.func17, Try.ntmps17
  go_wp2_with (first
    | (go_at_call 48; refine Calls.mono (rlen_calls m _ _ _ _ _ _ (H.obj (by repeat (first | exact Split.here _ _ | apply Split.there)))) ?_; rintro e w' ⟨rfl, H'⟩; replace H := H.of_ext H'; clear H'; (try clear hc); (try simp only [nrm, splice, Value.cells, Nat.reduceAdd, Act.eval, Act.put] at H); have hc := H.cells; simp only [CellsOf, KnCells, arr_lit, knAt_cons, knAt_nil, Nat.zero_add, Nat.add_zero, Nat.reduceAdd] at hc)
    | (refine loud_ rfl ?_; refine wpList_plain rfl (fun K hK => ?_); first
      | (refine op_box _ _ rfl H (fun b w' H1 => hK _ _ ?_); clear hK K; replace H := H1; clear H1; (try clear hc); (try simp only [nrm, splice, Value.cells, Nat.reduceAdd, Act.eval, Act.put] at H); have hc := H.cells; simp only [CellsOf, KnCells, arr_lit, knAt_cons, knAt_nil, Nat.zero_add, Nat.add_zero, Nat.reduceAdd] at hc)
      | (refine op_alloc _ rfl (zero_of _ _ rfl) H (fun b w' H1 => hK _ _ ?_); clear hK K; replace H := H1; clear H1; (try clear hc); (try simp only [nrm, splice, Value.cells, Nat.reduceAdd, Act.eval, Act.put] at H); have hc := H.cells; simp only [CellsOf, KnCells, arr_lit, knAt_cons, knAt_nil, Nat.zero_add, Nat.add_zero, Nat.reduceAdd] at hc)
      | (refine op_store _ _ _ rfl rfl rfl H (by repeat (first | exact Split.here _ _ | apply Split.there)) (by kernel_rfl) (by kernel_rfl) (by kernel_rfl) (fun w' H1 => hK _ _ ?_); clear hK K; replace H := H1; clear H1; (try clear hc); (try simp only [nrm, splice, Value.cells, Nat.reduceAdd, Act.eval, Act.put] at H); have hc := H.cells; simp only [CellsOf, KnCells, arr_lit, knAt_cons, knAt_nil, Nat.zero_add, Nat.add_zero, Nat.reduceAdd] at hc)
      | (refine op_buildSlice_all _ _ _ rfl (by first | exact elem22 | exact elem25 | exact elem26 | exact elem29) (by kernel_rfl) (by kernel_rfl) (by kernel_rfl) H (fun b w' H1 => hK _ _ ?_); clear hK K; replace H := H1; clear H1; (try clear hc); (try simp only [nrm, splice, Value.cells, Nat.reduceAdd, Act.eval, Act.put] at H); have hc := H.cells; simp only [CellsOf, KnCells, arr_lit, knAt_cons, knAt_nil, Nat.zero_add, Nat.add_zero, Nat.reduceAdd] at hc)))
  exact bodyPost_ret (v := .agg #[.bool true, .int .i64 (q.length : Nat), .slice none 0 0]) (by simp [results, Try.results17, go_sem, hc, Act.put]; try rfl) rfl (gtold_plain rfl rfl h'.out (H.sel (by repeat (first | exact Sel.nil _ | (apply Sel.cons; focus (repeat (first | exact Split.here _ _ | apply Split.there)))))))

theorem rung2_cap (m : Nat) (br kb n beg : Nat) (data q : List Int) (src : Option Addr) (k cap : Nat) (v : List Int) (S : List Nat) (w : World) (h : GInv n beg data q) (H : St S w w (gents (some (m : Int)) br kb n beg q.length data)) :
    Calls Try.prog 17 #[.iface 55 (.pointer (some ⟨br, 0, none⟩)), .agg #[.int .i64 4, .slice src k cap]] w (GTold (some m) ⟨n, q⟩ br 4 v S w) := by
  have hmeCap : ∀ (w : World), (method 193 55 (.pointer (some ⟨br, 0, none⟩)) "Cap").run Try.prog w = .ok (47, .pointer (some ⟨br, 0, none⟩)) w := fun w => by kernel_rfl
  have h' := Lib.hid h
  clear h
  go_enter Try.func17, Try.ntmps17
  go_wp2_with (first
    | (go_at_call 47; refine Calls.mono (rcap_calls m _ _ _ _ _ _ (H.obj (by repeat (first | exact Split.here _ _ | apply Split.there)))) ?_; rintro e w' ⟨rfl, H'⟩; replace H := H.of_ext H'; clear H'; (try clear hc); (try simp only [nrm, splice, Value.cells, Nat.reduceAdd, Act.eval, Act.put] at H); have hc := H.cells; simp only [CellsOf, KnCells, arr_lit, knAt_cons, knAt_nil, Nat.zero_add, Nat.add_zero, Nat.reduceAdd] at hc)
    | (refine loud_ rfl ?_; refine wpList_plain rfl (fun K hK => ?_); first
      | (refine op_box _ _ rfl H (fun b w' H1 => hK _ _ ?_); clear hK K; replace H := H1; clear H1; (try clear hc); (try simp only [nrm, splice, Value.cells, Nat.reduceAdd, Act.eval, Act.put] at H); have hc := H.cells; simp only [CellsOf, KnCells, arr_lit, knAt_cons, knAt_nil, Nat.zero_add, Nat.add_zero, Nat.reduceAdd] at hc)
      | (refine op_alloc _ rfl (zero_of _ _ rfl) H (fun b w' H1 => hK _ _ ?_); clear hK K; replace H := H1; clear H1; (try clear hc); (try simp only [nrm, splice, Value.cells, Nat.reduceAdd, Act.eval, Act.put] at H); have hc := H.cells; simp only [CellsOf, KnCells, arr_lit, knAt_cons, knAt_nil, Nat.zero_add, Nat.add_zero, Nat.reduceAdd] at hc)
      | (refine op_store _ _ _ rfl rfl rfl H (by repeat (first | exact Split.here _ _ | apply Split.there)) (by kernel_rfl) (by kernel_rfl) (by kernel_rfl) (fun w' H1 => hK _ _ ?_); clear hK K; replace H := H1; clear H1; (try clear hc); (try simp only [nrm, splice, Value.cells, Nat.reduceAdd, Act.eval, Act.put] at H); have hc := H.cells; simp only [CellsOf, KnCells, arr_lit, knAt_cons, knAt_nil, Nat.zero_add, Nat.add_zero, Nat.reduceAdd] at hc)
      | (refine op_buildSlice_all _ _ _ rfl (by first | exact elem22 | exact elem25 | exact elem26 | exact elem29) (by kernel_rfl) (by kernel_rfl) (by kernel_rfl) H (fun b w' H1 => hK _ _ ?_); clear hK K; replace H := H1; clear H1; (try clear hc); (try simp only [nrm, splice, Value.cells, Nat.reduceAdd, Act.eval, Act.put] at H); have hc := H.cells; simp only [CellsOf, KnCells, arr_lit, knAt_cons, knAt_nil, Nat.zero_add, Nat.add_zero, Nat.reduceAdd] at hc)))
  exact bodyPost_ret (v := .agg #[.bool true, .int .i64 (n : Nat), .slice none 0 0]) (by simp [results, Try.results17, go_sem, hc, Act.put]; try rfl) rfl (gtold_plain rfl rfl h'.out (H.sel (by repeat (first | exact Sel.nil _ | (apply Sel.cons; focus (repeat (first | exact Split.here _ _ | apply Split.there)))))))

theorem rung2_rest (m : Nat) (br kb n beg : Nat) (data q : List Int) (kind : Int) (k1 : ¬ kind = 1) (k2 : ¬ kind = 2) (k3 : ¬ kind = 3) (k4 : ¬ kind = 4) (src : Option Addr) (k cap : Nat) (v : List Int) (S : List Nat) (w : World) (h : GInv n beg data q) (H : St S w w (gents (some (m : Int)) br kb n beg q.length data)) :
    Calls Try.prog 17 #[.iface 55 (.pointer (some ⟨br, 0, none⟩)), .agg #[.int .i64 kind, .slice src k cap]] w (GTold (some m) ⟨n, q⟩ br kind v S w) := by
  have h' := Lib.hid h
  clear h
  go_enter Try.func17, Try.ntmps17
  go_wp2_with (first
    | (refine loud_ rfl ?_; refine wpList_plain rfl (fun K hK => ?_); first
      | (refine op_box _ _ rfl H (fun b w' H1 => hK _ _ ?_); clear hK K; replace H := H1; clear H1; (try clear hc); (try simp only [nrm, splice, Value.cells, Nat.reduceAdd, Act.eval, Act.put] at H); have hc := H.cells; simp only [CellsOf, KnCells, arr_lit, knAt_cons, knAt_nil, Nat.zero_add, Nat.add_zero, Nat.reduceAdd] at hc)
      | (refine op_alloc _ rfl (zero_of _ _ rfl) H (fun b w' H1 => hK _ _ ?_); clear hK K; replace H := H1; clear H1; (try clear hc); (try simp only [nrm, splice, Value.cells, Nat.reduceAdd, Act.eval, Act.put] at H); have hc := H.cells; simp only [CellsOf, KnCells, arr_lit, knAt_cons, knAt_nil, Nat.zero_add, Nat.add_zero, Nat.reduceAdd] at hc)
      | (refine op_store _ _ _ rfl rfl rfl H (by repeat (first | exact Split.here _ _ | apply Split.there)) (by kernel_rfl) (by kernel_rfl) (by kernel_rfl) (fun w' H1 => hK _ _ ?_); clear hK K; replace H := H1; clear H1; (try clear hc); (try simp only [nrm, splice, Value.cells, Nat.reduceAdd, Act.eval, Act.put] at H); have hc := H.cells; simp only [CellsOf, KnCells, arr_lit, knAt_cons, knAt_nil, Nat.zero_add, Nat.add_zero, Nat.reduceAdd] at hc)
      | (refine op_buildSlice_all _ _ _ rfl (by first | exact elem22 | exact elem25 | exact elem26 | exact elem29) (by kernel_rfl) (by kernel_rfl) (by kernel_rfl) H (fun b w' H1 => hK _ _ ?_); clear hK K; replace H := H1; clear H1; (try clear hc); (try simp only [nrm, splice, Value.cells, Nat.reduceAdd, Act.eval, Act.put] at H); have hc := H.cells; simp only [CellsOf, KnCells, arr_lit, knAt_cons, knAt_nil, Nat.zero_add, Nat.add_zero, Nat.reduceAdd] at hc)))
  exact bodyPost_ret (v := .agg #[.bool false, .int .i64 0, .slice none 0 0]) (by simp [results, Try.results17, go_sem, hc, Act.put]; try rfl) rfl (gtold_plain (by simp [GR.ans, *]) (by simp [GR.next, *]) h'.out (H.sel (by repeat (first | exact Sel.nil _ | (apply Sel.cons; focus (repeat (first | exact Split.here _ _ | apply Split.there)))))))

theorem rung2_read0 (m br kb n beg : Nat) (data : List Int) (src : Option Addr) (k cap : Nat) (v : List Int) (S : List Nat) (w : World) (h : GInv n beg data []) (hn : n ≤ 1000000) (hm : m ≤ 65536) (H : St S w w (gents (some (m : Int)) br kb n beg 0 data)) :
    Calls Try.prog 17 #[.iface 55 (.pointer (some ⟨br, 0, none⟩)), .agg #[.int .i64 2, .slice src k cap]] w (GTold (some m) ⟨n, []⟩ br 2 v S w) := by
  have hmeReadOne : ∀ (w : World), (method 193 55 (.pointer (some ⟨br, 0, none⟩)) "ReadOne").run Try.prog w = .ok (49, .pointer (some ⟨br, 0, none⟩)) w := fun w => by kernel_rfl
  have h' := Lib.hid h
  clear h
  go_enter Try.func17, Try.ntmps17
  go_wp2_with (first
    | (go_at_call 49; refine Calls.mono (rread_none m _ _ _ _ _ _ _ h'.out hn hm (H.pick (by repeat (first | exact Picks.nil _ | (apply Picks.wr; focus (repeat (first | exact Split.here _ _ | apply Split.there))) | (apply Picks.rd; focus (repeat (first | exact Split.here _ _ | apply Split.there))))))) ?_; rintro e w' ⟨kb', beg', data', hg, rfl, H'⟩; replace H := H.merge (by first | exact Strikes.nil _ | (repeat (first | exact Strikes.nil _ | (apply Strikes.cons; focus (repeat (first | exact Split.here _ _ | apply Split.there)))))) H' rfl; clear H'; (try clear hc); (try simp only [nrm, splice, Value.cells, Nat.reduceAdd, Act.eval, Act.put] at H); have hc := H.cells; simp only [CellsOf, KnCells, arr_lit, knAt_cons, knAt_nil, Nat.zero_add, Nat.add_zero, Nat.reduceAdd] at hc)
    | (refine loud_ rfl ?_; refine wpList_plain rfl (fun K hK => ?_); first
      | (refine op_box _ _ rfl H (fun b w' H1 => hK _ _ ?_); clear hK K; replace H := H1; clear H1; (try clear hc); (try simp only [nrm, splice, Value.cells, Nat.reduceAdd, Act.eval, Act.put] at H); have hc := H.cells; simp only [CellsOf, KnCells, arr_lit, knAt_cons, knAt_nil, Nat.zero_add, Nat.add_zero, Nat.reduceAdd] at hc)
      | (refine op_alloc _ rfl (zero_of _ _ rfl) H (fun b w' H1 => hK _ _ ?_); clear hK K; replace H := H1; clear H1; (try clear hc); (try simp only [nrm, splice, Value.cells, Nat.reduceAdd, Act.eval, Act.put] at H); have hc := H.cells; simp only [CellsOf, KnCells, arr_lit, knAt_cons, knAt_nil, Nat.zero_add, Nat.add_zero, Nat.reduceAdd] at hc)
      | (refine op_store _ _ _ rfl rfl rfl H (by repeat (first | exact Split.here _ _ | apply Split.there)) (by kernel_rfl) (by kernel_rfl) (by kernel_rfl) (fun w' H1 => hK _ _ ?_); clear hK K; replace H := H1; clear H1; (try clear hc); (try simp only [nrm, splice, Value.cells, Nat.reduceAdd, Act.eval, Act.put] at H); have hc := H.cells; simp only [CellsOf, KnCells, arr_lit, knAt_cons, knAt_nil, Nat.zero_add, Nat.add_zero, Nat.reduceAdd] at hc)
      | (refine op_buildSlice_all _ _ _ rfl (by first | exact elem22 | exact elem25 | exact elem26 | exact elem29) (by kernel_rfl) (by kernel_rfl) (by kernel_rfl) H (fun b w' H1 => hK _ _ ?_); clear hK K; replace H := H1; clear H1; (try clear hc); (try simp only [nrm, splice, Value.cells, Nat.reduceAdd, Act.eval, Act.put] at H); have hc := H.cells; simp only [CellsOf, KnCells, arr_lit, knAt_cons, knAt_nil, Nat.zero_add, Nat.add_zero, Nat.reduceAdd] at hc)))
  exact bodyPost_ret (v := .agg #[.bool false, .int .i64 0, .slice none 0 0]) (by simp [results, Try.results17, go_sem, hc, Act.put]; try rfl) rfl ⟨none, 0, 0, kb', beg', data', rfl, hg, rfl, (H.nilRow _ _).sel (by repeat (first | exact Sel.nil _ | (apply Sel.cons; focus (repeat (first | exact Split.here _ _ | apply Split.there)))))⟩
theorem rung2_read (m br kb n beg : Nat) (data q : List Int) (x : Int) (src : Option Addr) (k cap : Nat) (v : List Int) (S : List Nat) (w : World) (h : GInv n beg data (x :: q)) (hn : n ≤ 1000000) (hm : m ≤ 65536) (H : St S w w (gents (some (m : Int)) br kb n beg (x :: q).length data)) :
    Calls Try.prog 17 #[.iface 55 (.pointer (some ⟨br, 0, none⟩)), .agg #[.int .i64 2, .slice src k cap]] w (GTold (some m) ⟨n, x :: q⟩ br 2 v S w) := by
  have hmeReadOne : ∀ (w : World), (method 193 55 (.pointer (some ⟨br, 0, none⟩)) "ReadOne").run Try.prog w = .ok (49, .pointer (some ⟨br, 0, none⟩)) w := fun w => by kernel_rfl
  have h' := Lib.hid h
  clear h
  go_enter Try.func17, Try.ntmps17
  go_wp2_with (first
    | (go_at_call 49; refine Calls.mono (rread_some m _ _ _ _ _ q x _ _ h'.out hn hm (H.pick (by repeat (first | exact Picks.nil _ | (apply Picks.wr; focus (repeat (first | exact Split.here _ _ | apply Split.there))) | (apply Picks.rd; focus (repeat (first | exact Split.here _ _ | apply Split.there))))))) ?_; rintro e w' ⟨kb', beg', data', hg, rfl, H'⟩; replace H := H.merge (by first | exact Strikes.nil _ | (repeat (first | exact Strikes.nil _ | (apply Strikes.cons; focus (repeat (first | exact Split.here _ _ | apply Split.there)))))) H' rfl; clear H'; (try clear hc); (try simp only [nrm, splice, Value.cells, Nat.reduceAdd, Act.eval, Act.put] at H); have hc := H.cells; simp only [CellsOf, KnCells, arr_lit, knAt_cons, knAt_nil, Nat.zero_add, Nat.add_zero, Nat.reduceAdd] at hc)
    | (refine loud_ rfl ?_; refine wpList_plain rfl (fun K hK => ?_); first
      | (refine op_box _ _ rfl H (fun b w' H1 => hK _ _ ?_); clear hK K; replace H := H1; clear H1; (try clear hc); (try simp only [nrm, splice, Value.cells, Nat.reduceAdd, Act.eval, Act.put] at H); have hc := H.cells; simp only [CellsOf, KnCells, arr_lit, knAt_cons, knAt_nil, Nat.zero_add, Nat.add_zero, Nat.reduceAdd] at hc)
      | (refine op_alloc _ rfl (zero_of _ _ rfl) H (fun b w' H1 => hK _ _ ?_); clear hK K; replace H := H1; clear H1; (try clear hc); (try simp only [nrm, splice, Value.cells, Nat.reduceAdd, Act.eval, Act.put] at H); have hc := H.cells; simp only [CellsOf, KnCells, arr_lit, knAt_cons, knAt_nil, Nat.zero_add, Nat.add_zero, Nat.reduceAdd] at hc)
      | (refine op_store _ _ _ rfl rfl rfl H (by repeat (first | exact Split.here _ _ | apply Split.there)) (by kernel_rfl) (by kernel_rfl) (by kernel_rfl) (fun w' H1 => hK _ _ ?_); clear hK K; replace H := H1; clear H1; (try clear hc); (try simp only [nrm, splice, Value.cells, Nat.reduceAdd, Act.eval, Act.put] at H); have hc := H.cells; simp only [CellsOf, KnCells, arr_lit, knAt_cons, knAt_nil, Nat.zero_add, Nat.add_zero, Nat.reduceAdd] at hc)
      | (refine op_buildSlice_all _ _ _ rfl (by first | exact elem22 | exact elem25 | exact elem26 | exact elem29) (by kernel_rfl) (by kernel_rfl) (by kernel_rfl) H (fun b w' H1 => hK _ _ ?_); clear hK K; replace H := H1; clear H1; (try clear hc); (try simp only [nrm, splice, Value.cells, Nat.reduceAdd, Act.eval, Act.put] at H); have hc := H.cells; simp only [CellsOf, KnCells, arr_lit, knAt_cons, knAt_nil, Nat.zero_add, Nat.add_zero, Nat.reduceAdd] at hc)))
  have H2 := H.turn (k' := .row (some b) 3 1 1 1 (ints [x])) (.here _ _) (Ext.refl _ _) ⟨_, H.get (.here _ _), rfl, by omega, by unfold maxLen; omega, rfl⟩ rfl
  exact bodyPost_ret (v := .agg #[.bool true, .int .i64 0, .slice (some ⟨b, 0, none⟩) 1 1]) (by simp [results, Try.results17, go_sem, hc, Act.put]; try rfl) rfl ⟨some b, 1, 1, kb', beg', data', rfl, hg, rfl, H2.sel (by repeat (first | exact Sel.nil _ | (apply Sel.cons; focus (repeat (first | exact Split.here _ _ | apply Split.there)))))⟩
end Go.Proofs.Ytlikpgidjdjgnaa
