import Derived.Test.YtjoiekpedmhfbaaLruUe
import Derived.Defers
-- MORE
-- SUB2
namespace Go.Proofs.Ytjoiekpedmhfbaa
set_option linter.unusedVariables false
set_option linter.unusedSimpArgs false
set_option linter.unnecessarySimpa false
open Go.RowKit Go.V

theorem lock_calls (a : Addr) (w : World) : Calls Try.prog 18 #[.pointer (some a)] w fun e w' => e = .returned (.tuple #[]) ∧ Ext [] w w' := by
  go_enter Try.func18, Try.ntmps18
  go_wp2
  go_end0
  exact ⟨rfl, Ext.refl _ _⟩
theorem unlock_deferred (a : Addr) (u : FrameMode) (w : World) : CallsD Try.prog 19 #[.pointer (some a)] u w fun e u' w' => u' = u ∧ (e = .returned (.tuple #[]) ∧ w' = w) := by
  go_enter_d Try.func19, Try.ntmps19
  go_wp2
  go_end0
  exact ⟨rfl, rfl⟩
/-- What a call does to a cache, as one piece. -/
theorem bag_found {gb go M : Nat} {l : List KV} {X : List Ent} (hc : Cch gb go M l X) {k v : Int} (hk : cget l k = some v) (S : List Nat) (w : World) (H : St S w w [(true, bag X)]) :
    Calls Try.prog 21 #[pt gb, ik k] w fun y w' => ∃ X', Cch gb go M ((k, v) :: cdel l k) X' ∧ y = .returned (.tuple #[ik v, .bool true]) ∧ St S w w' [(true, bag X')] := by
  refine (cget_found hc hk S w (by simpa using st_unfold H)).mono ?_
  rintro y w' ⟨h1, X', h2, h3⟩
  exact ⟨X', h2, h1, st_fold h2.all (by simpa using h3)⟩
theorem bag_not {gb go M : Nat} {l : List KV} {X : List Ent} (hc : Cch gb go M l X) {k : Int} (hk : cget l k = none) (S : List Nat) (w : World) (H : St S w w [(true, bag X)]) :
    Calls Try.prog 21 #[pt gb, ik k] w fun y w' => y = .returned (.tuple #[.nilIface, .bool false]) ∧ St S w w' [(true, bag X)] := by
  refine (cget_not hc hk S w (by simpa using st_unfold H)).mono ?_
  rintro y w' ⟨h1, h3⟩
  exact ⟨h1, st_fold hc.all (by simpa using h3)⟩
def Stays (M : Nat) (l : List KV) (k : Int) : Prop := cget l k = none → ¬ (M ≠ 0 ∧ M < l.length + 1)
theorem bag_stays {gb go M : Nat} {l : List KV} {X : List Ent} (hc : Cch gb go M l X) {k u : Int} (hM : Stays M l k) (hb : l.length ≤ 100000) (S : List Nat) (w : World) (H : St S w w [(true, bag X)]) :
    Calls Try.prog 20 #[pt gb, ik k, ik u] w fun y w' => ∃ X', Cch gb go M (caddS M l k u) X' ∧ y = .returned (.tuple #[]) ∧ St S w w' [(true, bag X')] := by
  have H1 : St S w w X := by simpa using st_unfold H
  unfold caddS
  cases hk : cget l k with
  | some v =>
    refine (cput_found hc (u := u) hk S w H1).mono ?_
    rintro y w' ⟨h1, X', h2, h3⟩
    exact ⟨X', h2, h1, st_fold h2.all (by simpa using h3)⟩
  | none =>
    refine (cput_new hc (u := u) hk (hM hk) hb S w H1).mono ?_
    rintro y w' ⟨h1, X', h2, h3⟩
    refine ⟨X', ?_, h1, st_fold h2.all (by simpa using h3)⟩
    simp only
    rw [if_neg (hM hk)]
    exact h2
theorem bag_goes {gb go M : Nat} {l : List KV} {X : List Ent} (hc : Cch gb go M l X) {k u : Int} (hM : ¬ Stays M l k) (hb : l.length ≤ 90000) (hnd : (keys l).Nodup) (S : List Nat) (w : World) (H : St S w w [(true, bag X), goNil go]) :
    Calls Try.prog 20 #[pt gb, ik k, ik u] w fun y w' => ∃ X' key cap a b, Cch gb go M (caddS M l k u) X' ∧ y = .returned (.tuple #[]) ∧ St S w w' [(true, bag X'), goOne go key cap, rowOne key cap a b] := by
  have hM' : cget l k = none ∧ (M ≠ 0 ∧ M < l.length + 1) := by
    unfold Stays at hM
    exact Classical.not_imp.1 hM |>.imp id Classical.not_not.1
  obtain ⟨hk, h0, h1⟩ := hM'
  refine (cput_evict hc (u := u) hk h0 h1 hb hnd S w (st_unfold H)).mono ?_
  rintro y w' ⟨h2, X', key, cap, a, b, h3, h4⟩
  refine ⟨X', key, cap, a, b, ?_, h2, st_fold h3.all h4⟩
  unfold caddS
  rw [hk]
  simp only
  rw [if_pos ⟨h0, h1⟩]
  exact h3
theorem lruCells : Try.prog.cellsOf 57 = 1 := by kernel_rfl
theorem lruBytes : Try.prog.bytesOf 57 = 16 := by kernel_rfl
theorem lruByte0 : byteOfCell Try.prog Try.prog.depth 57 0 = some 0 := by kernel_rfl
theorem byteAt (cb off : Nat) (v : Value) (w : World) (h : w.heap[cb]? = some (.cells #[v] 57 (0, 0))) : (byteOf ⟨cb, off, none⟩).run Try.prog w = .ok (off * 16) w := by
  simp [byteOf, noView, viewAt, World.shape?, h, lruCells, lruBytes, lruByte0, Result.andThen, Nat.mod_one]
theorem lockAt (cb : Nat) (v : Value) (w : World) (h : w.heap[cb]? = some (.cells #[v] 57 (0, 0))) : (partAt ⟨cb, 0, none⟩ 1 8).run Try.prog w = .ok ⟨cb, 1, some 8⟩ w := by
  have h0 := byteAt cb 0 v w h
  have h1 := byteAt cb 1 v w h
  simp [partAt, h0, h1, Result.andThen]
abbrev lruObj (cb gb : Nat) : Ent := (true, .is cb (.cells #[pt gb] 57 (0, 0)))
theorem wFound (cb : Nat) {gb go M : Nat} {l : List KV} {X : List Ent} (hc0 : Cch gb go M l X) {k v : Int} (hk : cget l k = some v) (S : List Nat) (w : World) (H : St S w w [lruObj cb gb, (true, bag X)]) :
    Calls Try.prog 10 #[pt cb, ik k] w fun y w' => ∃ X', Cch gb go M ((k, v) :: cdel l k) X' ∧ y = .returned (.tuple #[ik v, .bool true]) ∧ St S w w' [lruObj cb gb, (true, bag X')] := by
  have hla := lockAt cb (pt gb) w (H.obj (b := cb) (by repeat (first | exact Split.here _ _ | apply Split.there)))
  have hc := H.cells; simp only [CellsOf, KnCells, knc, Nat.reduceAdd] at hc
  go_enter_defers Try.func10, Try.ntmps10
  repeat' (first | (go_big_may; (first
    | go_skip
    | (go_at_call 18; refine Calls.mono (lock_calls _ _) ?_; rintro e w' ⟨rfl, H'⟩; replace H := H.of_ext H'; clear H'; (try clear hc); (try simp only [nrm, splice, Value.cells, Nat.reduceAdd, Act.eval, Act.put] at H); have hc := H.cells; simp only [CellsOf, KnCells, knc, Nat.reduceAdd] at hc; (have hlb := lockAt cb (pt gb) _ (H.obj (b := cb) (by repeat (first | exact Split.here _ _ | apply Split.there)))))
    | ((first
        | (go_at_call 21; refine Calls.mono (bag_found hc0 hk _ _ (H.pick (by repeat (first | exact Picks.nil _ | (apply Picks.wr; focus (repeat (first | exact Split.here _ _ | apply Split.there))) | (apply Picks.rd; focus (repeat (first | exact Split.here _ _ | apply Split.there))))))) ?_; rintro e w' ⟨X', hc2, rfl, H'⟩; replace H := H.merge (by first | exact Strikes.nil _ | (repeat (first | exact Strikes.nil _ | (apply Strikes.cons; focus (repeat (first | exact Split.here _ _ | apply Split.there)))))) H' rfl; clear H')
        | (refine loud_ rfl ?_; refine wpList_plain rfl (fun K hK => ?_); (first | (refine op_box _ _ rfl H (fun b w' H1 => hK _ _ ?_)) | (refine op_alloc _ rfl (zero_of _ _ rfl) H (fun b w' H1 => hK _ _ ?_)) | (refine op_store _ _ _ rfl rfl rfl H (by repeat (first | exact Split.here _ _ | apply Split.there)) (by kernel_rfl) (by kernel_rfl) (by kernel_rfl) (fun w' H1 => hK _ _ ?_)) | (refine op_buildSlice_all _ _ _ rfl (by first | exact elem22 | exact elem25 | exact elem31 | exact elem35) (by kernel_rfl) (by kernel_rfl) (by kernel_rfl) H (fun b w' H1 => hK _ _ ?_))); clear hK K; replace H := H1; clear H1)); (try clear hc); (try simp only [nrm, splice, Value.cells, Nat.reduceAdd, Act.eval, Act.put] at H); have hc := H.cells; simp only [CellsOf, KnCells, knc, Nat.reduceAdd] at hc))) | go_values | go_skip | go_guarded | go_step | go_upon | go_back | dsimp only)
  refine leaves_cons (f := 19) (args := #[.pointer (some ⟨cb, 1, some 8⟩)]) (by simp) (by simp [go_sem]) ?_
  refine (unlock_deferred _ .returning _).mono ?_
  rintro e u' w'' ⟨rfl, rfl, rfl⟩
  exact ⟨_, results_tmp2 rfl _ _ _, X', hc2, rfl, H.sel (by repeat (first | exact Sel.nil _ | (apply Sel.cons; focus (repeat (first | exact Split.here _ _ | apply Split.there)))))⟩
theorem wNot (cb : Nat) {gb go M : Nat} {l : List KV} {X : List Ent} (hc0 : Cch gb go M l X) {k : Int} (hk : cget l k = none) (S : List Nat) (w : World) (H : St S w w [lruObj cb gb, (true, bag X)]) :
    Calls Try.prog 10 #[pt cb, ik k] w fun y w' => y = .returned (.tuple #[.nilIface, .bool false]) ∧ St S w w' [lruObj cb gb, (true, bag X)] := by
  have hla := lockAt cb (pt gb) w (H.obj (b := cb) (by repeat (first | exact Split.here _ _ | apply Split.there)))
  have hc := H.cells; simp only [CellsOf, KnCells, knc, Nat.reduceAdd] at hc
  go_enter_defers Try.func10, Try.ntmps10
  repeat' (first | (go_big_may; (first
    | go_skip
    | (go_at_call 18; refine Calls.mono (lock_calls _ _) ?_; rintro e w' ⟨rfl, H'⟩; replace H := H.of_ext H'; clear H'; (try clear hc); (try simp only [nrm, splice, Value.cells, Nat.reduceAdd, Act.eval, Act.put] at H); have hc := H.cells; simp only [CellsOf, KnCells, knc, Nat.reduceAdd] at hc; (have hlb := lockAt cb (pt gb) _ (H.obj (b := cb) (by repeat (first | exact Split.here _ _ | apply Split.there)))))
    | ((first
        | (go_at_call 21; refine Calls.mono (bag_not hc0 hk _ _ (H.pick (by repeat (first | exact Picks.nil _ | (apply Picks.wr; focus (repeat (first | exact Split.here _ _ | apply Split.there))) | (apply Picks.rd; focus (repeat (first | exact Split.here _ _ | apply Split.there))))))) ?_; rintro e w' ⟨rfl, H'⟩; replace H := H.merge (by first | exact Strikes.nil _ | (repeat (first | exact Strikes.nil _ | (apply Strikes.cons; focus (repeat (first | exact Split.here _ _ | apply Split.there)))))) H' rfl; clear H')
        | (refine loud_ rfl ?_; refine wpList_plain rfl (fun K hK => ?_); (first | (refine op_box _ _ rfl H (fun b w' H1 => hK _ _ ?_)) | (refine op_alloc _ rfl (zero_of _ _ rfl) H (fun b w' H1 => hK _ _ ?_)) | (refine op_store _ _ _ rfl rfl rfl H (by repeat (first | exact Split.here _ _ | apply Split.there)) (by kernel_rfl) (by kernel_rfl) (by kernel_rfl) (fun w' H1 => hK _ _ ?_)) | (refine op_buildSlice_all _ _ _ rfl (by first | exact elem22 | exact elem25 | exact elem31 | exact elem35) (by kernel_rfl) (by kernel_rfl) (by kernel_rfl) H (fun b w' H1 => hK _ _ ?_))); clear hK K; replace H := H1; clear H1)); (try clear hc); (try simp only [nrm, splice, Value.cells, Nat.reduceAdd, Act.eval, Act.put] at H); have hc := H.cells; simp only [CellsOf, KnCells, knc, Nat.reduceAdd] at hc))) | go_values | go_skip | go_guarded | go_step | go_upon | go_back | dsimp only)
  refine leaves_cons (f := 19) (args := #[.pointer (some ⟨cb, 1, some 8⟩)]) (by simp) (by simp [go_sem]) ?_
  refine (unlock_deferred _ .returning _).mono ?_
  rintro e u' w'' ⟨rfl, rfl, rfl⟩
  exact ⟨_, results_tmp2 rfl _ _ _, rfl, H.sel (by repeat (first | exact Sel.nil _ | (apply Sel.cons; focus (repeat (first | exact Split.here _ _ | apply Split.there)))))⟩
theorem wStays (cb : Nat) {gb go M : Nat} {l : List KV} {X : List Ent} (hc0 : Cch gb go M l X) {k u : Int} (hM : Stays M l k) (hb : l.length ≤ 90000) (S : List Nat) (w : World) (H : St S w w [lruObj cb gb, (true, bag X)]) :
    Calls Try.prog 9 #[pt cb, ik k, ik u] w fun y w' => ∃ X', Cch gb go M (caddS M l k u) X' ∧ y = .returned (.tuple #[]) ∧ St S w w' [lruObj cb gb, (true, bag X')] := by
  have hla := lockAt cb (pt gb) w (H.obj (b := cb) (by repeat (first | exact Split.here _ _ | apply Split.there)))
  have hc := H.cells; simp only [CellsOf, KnCells, knc, Nat.reduceAdd] at hc
  go_enter_defers Try.func9, Try.ntmps9
  repeat' (first | (go_big_may; (first
    | go_skip
    | (go_at_call 18; refine Calls.mono (lock_calls _ _) ?_; rintro e w' ⟨rfl, H'⟩; replace H := H.of_ext H'; clear H'; (try clear hc); (try simp only [nrm, splice, Value.cells, Nat.reduceAdd, Act.eval, Act.put] at H); have hc := H.cells; simp only [CellsOf, KnCells, knc, Nat.reduceAdd] at hc; (have hlb := lockAt cb (pt gb) _ (H.obj (b := cb) (by repeat (first | exact Split.here _ _ | apply Split.there)))))
    | ((first
        | (go_at_call 20; refine Calls.mono (bag_stays hc0 hM (by omega) _ _ (H.pick (by repeat (first | exact Picks.nil _ | (apply Picks.wr; focus (repeat (first | exact Split.here _ _ | apply Split.there))) | (apply Picks.rd; focus (repeat (first | exact Split.here _ _ | apply Split.there))))))) ?_; rintro e w' ⟨X', hc2, rfl, H'⟩; replace H := H.merge (by first | exact Strikes.nil _ | (repeat (first | exact Strikes.nil _ | (apply Strikes.cons; focus (repeat (first | exact Split.here _ _ | apply Split.there)))))) H' rfl; clear H')
        | (refine loud_ rfl ?_; refine wpList_plain rfl (fun K hK => ?_); (first | (refine op_box _ _ rfl H (fun b w' H1 => hK _ _ ?_)) | (refine op_alloc _ rfl (zero_of _ _ rfl) H (fun b w' H1 => hK _ _ ?_)) | (refine op_store _ _ _ rfl rfl rfl H (by repeat (first | exact Split.here _ _ | apply Split.there)) (by kernel_rfl) (by kernel_rfl) (by kernel_rfl) (fun w' H1 => hK _ _ ?_)) | (refine op_buildSlice_all _ _ _ rfl (by first | exact elem22 | exact elem25 | exact elem31 | exact elem35) (by kernel_rfl) (by kernel_rfl) (by kernel_rfl) H (fun b w' H1 => hK _ _ ?_))); clear hK K; replace H := H1; clear H1)); (try clear hc); (try simp only [nrm, splice, Value.cells, Nat.reduceAdd, Act.eval, Act.put] at H); have hc := H.cells; simp only [CellsOf, KnCells, knc, Nat.reduceAdd] at hc))) | go_values | go_skip | go_guarded | go_step | go_upon | go_back | dsimp only)
  refine leaves_cons (f := 19) (args := #[.pointer (some ⟨cb, 1, some 8⟩)]) (by simp) (by simp [go_sem]) ?_
  refine (unlock_deferred _ .returning _).mono ?_
  rintro e u' w'' ⟨rfl, rfl, rfl⟩
  exact ⟨_, results_none rfl _ _ _, X', hc2, rfl, H.sel (by repeat (first | exact Sel.nil _ | (apply Sel.cons; focus (repeat (first | exact Split.here _ _ | apply Split.there)))))⟩
theorem wGoes (cb : Nat) {gb go M : Nat} {l : List KV} {X : List Ent} (hc0 : Cch gb go M l X) {k u : Int} (hM : ¬ Stays M l k) (hb : l.length ≤ 90000) (hnd : (keys l).Nodup) (S : List Nat) (w : World) (H : St S w w [lruObj cb gb, (true, bag X), goNil go]) :
    Calls Try.prog 9 #[pt cb, ik k, ik u] w fun y w' => ∃ X' key cap a b, Cch gb go M (caddS M l k u) X' ∧ y = .returned (.tuple #[]) ∧ St S w w' [lruObj cb gb, (true, bag X'), goOne go key cap, rowOne key cap a b] := by
  have hla := lockAt cb (pt gb) w (H.obj (b := cb) (by repeat (first | exact Split.here _ _ | apply Split.there)))
  have hc := H.cells; simp only [CellsOf, KnCells, knc, Nat.reduceAdd] at hc
  go_enter_defers Try.func9, Try.ntmps9
  repeat' (first | (go_big_may; (first
    | go_skip
    | (go_at_call 18; refine Calls.mono (lock_calls _ _) ?_; rintro e w' ⟨rfl, H'⟩; replace H := H.of_ext H'; clear H'; (try clear hc); (try simp only [nrm, splice, Value.cells, Nat.reduceAdd, Act.eval, Act.put] at H); have hc := H.cells; simp only [CellsOf, KnCells, knc, Nat.reduceAdd] at hc; (have hlb := lockAt cb (pt gb) _ (H.obj (b := cb) (by repeat (first | exact Split.here _ _ | apply Split.there)))))
    | ((first
        | (go_at_call 20; refine Calls.mono (bag_goes hc0 hM hb hnd _ _ (H.pick (by repeat (first | exact Picks.nil _ | (apply Picks.wr; focus (repeat (first | exact Split.here _ _ | apply Split.there))) | (apply Picks.rd; focus (repeat (first | exact Split.here _ _ | apply Split.there))))))) ?_; rintro e w' ⟨X', key, cap, a, b, hc2, rfl, H'⟩; replace H := H.merge (by first | exact Strikes.nil _ | (repeat (first | exact Strikes.nil _ | (apply Strikes.cons; focus (repeat (first | exact Split.here _ _ | apply Split.there)))))) H' rfl; clear H')
        | (refine loud_ rfl ?_; refine wpList_plain rfl (fun K hK => ?_); (first | (refine op_box _ _ rfl H (fun b w' H1 => hK _ _ ?_)) | (refine op_alloc _ rfl (zero_of _ _ rfl) H (fun b w' H1 => hK _ _ ?_)) | (refine op_store _ _ _ rfl rfl rfl H (by repeat (first | exact Split.here _ _ | apply Split.there)) (by kernel_rfl) (by kernel_rfl) (by kernel_rfl) (fun w' H1 => hK _ _ ?_)) | (refine op_buildSlice_all _ _ _ rfl (by first | exact elem22 | exact elem25 | exact elem31 | exact elem35) (by kernel_rfl) (by kernel_rfl) (by kernel_rfl) H (fun b w' H1 => hK _ _ ?_))); clear hK K; replace H := H1; clear H1)); (try clear hc); (try simp only [nrm, splice, Value.cells, Nat.reduceAdd, Act.eval, Act.put] at H); have hc := H.cells; simp only [CellsOf, KnCells, knc, Nat.reduceAdd] at hc))) | go_values | go_skip | go_guarded | go_step | go_upon | go_back | dsimp only)
  refine leaves_cons (f := 19) (args := #[.pointer (some ⟨cb, 1, some 8⟩)]) (by simp) (by simp [go_sem]) ?_
  refine (unlock_deferred _ .returning _).mono ?_
  rintro e u' w'' ⟨rfl, rfl, rfl⟩
  exact ⟨_, results_none rfl _ _ _, X', key, cap, a, b, hc2, rfl, H.sel (by repeat (first | exact Sel.nil _ | (apply Sel.cons; focus (repeat (first | exact Split.here _ _ | apply Split.there)))))⟩
end Go.Proofs.Ytjoiekpedmhfbaa
