import Derived.Test.YtjoiekpedmhfbaaLruX
import Derived.Test.YtjoiekpedmhfbaaVSoft
-- MORE
-- SUB2
namespace Go.Proofs.Ytjoiekpedmhfbaa
set_option linter.unusedVariables false
set_option linter.unusedSimpArgs false
set_option linter.unnecessarySimpa false
open Go.RowKit Go.V

/-- An operation of a cache, as it came in. -/
structure LOp where
  kind : Int
  key : Int
  val : Int
def LOp.cells (o : LOp) : List Value := [.int .i64 o.kind, .int .i64 o.key, .int .i64 o.val]
/-- An answer, in memory. -/
structure LA where
  ok : Bool
  val : Int
  o1 : Value
  o2 : Value
def LA.cells (a : LA) : List Value := [.bool a.ok, .int .i64 a.val, a.o1, a.o2]
def LA.tell (a : LA) : Bool × Int := (a.ok, a.val)
def cnext (M : Nat) (l : List KV) (o : LOp) : List KV := if o.kind = 1 then caddS M l o.key o.val else cgetS l o.key
def cans (l : List KV) (o : LOp) : Bool × Int := if o.kind = 1 then (false, 0) else match cget l o.key with
  | some v => (true, v)
  | none => (false, 0)
def cruns (M : Nat) (l : List KV) : List LOp → List KV
  | [] => l
  | o :: r => cruns M (cnext M l o) r
def ctells (M : Nat) (l : List KV) : List LOp → List (Bool × Int)
  | [] => []
  | o :: r => cans l o :: ctells M (cnext M l o) r
theorem cruns_snoc (M : Nat) (l : List KV) (ops : List LOp) (o : LOp) : cruns M l (ops ++ [o]) = cnext M (cruns M l ops) o := by
  induction ops generalizing l with
  | nil => rfl
  | cons x r ih => exact ih _
theorem ctells_snoc (M : Nat) (l : List KV) (ops : List LOp) (o : LOp) : ctells M l (ops ++ [o]) = ctells M l ops ++ [cans (cruns M l ops) o] := by
  induction ops generalizing l with
  | nil => rfl
  | cons x r ih =>
    show cans l x :: ctells M (cnext M l x) (r ++ [o]) = _
    rw [ih]
    rfl
theorem caddS_len (M : Nat) (l : List KV) (k v : Int) : (caddS M l k v).length ≤ l.length + 1 := by
  unfold caddS
  cases hg : cget l k with
  | some u =>
    have := cdel_len hg
    simp only [List.length_cons]
    omega
  | none =>
    simp only
    split
    · rw [List.length_dropLast]
      simp
    · simp
theorem cgetS_len (l : List KV) (k : Int) : (cgetS l k).length ≤ l.length + 1 := by
  unfold cgetS
  cases hg : cget l k with
  | some u =>
    have := cdel_len hg
    simp only [List.length_cons]
    omega
  | none => simp
theorem cruns_len (M : Nat) (ops : List LOp) (l : List KV) : (cruns M l ops).length ≤ l.length + ops.length := by
  induction ops generalizing l with
  | nil => simp [cruns]
  | cons o r ih =>
    have h1 := ih (cnext M l o)
    have h2 : (cnext M l o).length ≤ l.length + 1 := by
      unfold cnext
      split
      · exact caddS_len M l _ _
      · exact cgetS_len l _
    show (cruns M (cnext M l o) r).length ≤ _
    simp only [List.length_cons]
    omega
theorem sound_runs {M : Nat} (ops : List LOp) {l : List KV} (h : Sound M l) : Sound M (cruns M l ops) := by
  induction ops generalizing l with
  | nil => exact h
  | cons o r ih =>
    refine ih ?_
    unfold cnext
    split
    · exact sound_add h _ _
    · exact sound_get h _
theorem lop_len (l : List LOp) : (l.flatMap LOp.cells).length = l.length * 3 := by
  induction l with
  | nil => rfl
  | cons a l ih => rw [List.flatMap_cons, List.length_append, ih, List.length_cons]; show 3 + _ = _; omega
theorem make_evv (go : Nat) (w : World) : (Instr.makeFunc (.func 8) #[] #[pt go]).run Try.prog w = .ok (evv go) w := rfl
/-- How far the loop is. -/
def AtLru (n cb gb go M : Nat) (ops : List LOp) (src : Option Addr) (w : World) (ov i : Value) (wr : World) : Prop := ∃ (j : Nat) (key : Option Nat) (cap : Nat) (rs : List LA) (X : List Ent) (gv : Value), j ≤ n ∧ i = .int .i64 j ∧ ov = sl key j cap ∧ Hid (rs.map LA.tell = ctells M [] (ops.take j)) ∧ Hid (Cch gb go M (cruns M [] (ops.take j)) X) ∧
  St [] w wr [(true, .row key 33 4 j cap (rs.flatMap LA.cells)), lruObj cb gb, (true, bag X), (true, .is go (.cells #[gv] 35 (0, 0))), (false, soft src (ops.flatMap LOp.cells))]
set_option maxRecDepth 8000 in
set_option maxHeartbeats 4000000 in
theorem lru_calls (M : Nat) (hM : M ≤ 1000) (ops : List LOp) (src : Option Addr) (n c : Nat) (w : World) (hn : Hid (ops.length = n)) (hl : n ≤ 400) (hk : Hid (∀ o ∈ ops, o.kind = 1 ∨ o.kind = 2)) (H : St [] w w [(false, soft src (ops.flatMap LOp.cells))]) :
    Calls Try.prog 6 #[.int .i64 M, .slice src n c] w fun e w' => ∃ key cap, ∃ rs : List LA, Hid (rs.map LA.tell = ctells M [] ops) ∧ e = .returned (sl key n cap) ∧
      St [] w w' [(true, .row key 33 4 n cap (rs.flatMap LA.cells))] := by
  have hmf := fun go w => make_evv go w
  have hmax : max (M : Int) 0 = M := by omega
  go_enter Try.func6, Try.ntmps6
  repeat' (first | (go_big_may; (first
    | go_skip
    | ((first
        | (go_at_call 7; refine Calls.mono (lMakeEv M _ _) ?_; rintro e w' ⟨cb, gb, X, hcc, rfl, H'⟩; replace H := H.merge (by first | exact Strikes.nil _ | (repeat (first | exact Strikes.nil _ | (apply Strikes.cons; focus (repeat (first | exact Split.here _ _ | apply Split.there)))))) H' rfl; clear H')
        | (refine loud_ rfl ?_; refine wpList_plain rfl (fun K hK => ?_); (first | (refine op_box _ _ rfl H (fun b w' H1 => hK _ _ ?_)) | (refine op_alloc _ rfl (zero_of _ _ rfl) H (fun b w' H1 => hK _ _ ?_)) | (refine op_store _ _ _ rfl rfl rfl H (by repeat (first | exact Split.here _ _ | apply Split.there)) (by kernel_rfl) (by kernel_rfl) (by kernel_rfl) (fun w' H1 => hK _ _ ?_)) | (refine op_buildSlice_all _ _ _ rfl (by first | exact elem22 | exact elem25 | exact elem31 | exact elem35) (by kernel_rfl) (by kernel_rfl) (by kernel_rfl) H (fun b w' H1 => hK _ _ ?_))); clear hK K; replace H := H1; clear H1)); (try clear hc); (try simp only [nrm, splice, Value.cells, Nat.reduceAdd, Act.eval, Act.put] at H); have hc := H.cells; simp only [CellsOf, KnCells, knc, Nat.reduceAdd] at hc))) | go_values | go_skip | go_guarded | go_step | go_upon | go_back | dsimp only)
  obtain ⟨go, hgo⟩ : ∃ go, go = b := ⟨_, rfl⟩
  subst hgo
  have H0 : St [] w w' [(true, .row none 33 4 0 0 (([] : List LA).flatMap LA.cells)), lruObj cb gb, (true, bag X), (true, .is go (.cells #[.slice none 0 0] 35 (0, 0))), (false, soft src (ops.flatMap LOp.cells))] := (H.nilRow _ _).sel (by repeat (first | exact Sel.nil _ | (apply Sel.cons; focus (repeat (first | exact Split.here _ _ | apply Split.there)))))
  clear H hc
  have hcc' : Hid (Cch gb go M (cruns M [] (ops.take 0)) X) := hcc
  clear hcc
  have hsd : Hid (Sound M []) := ⟨List.nodup_nil, fun _ => Nat.zero_le _⟩
  go_loopw [7, 8] (AtLru n cb gb go M ops src w) (fun _ i _ => n - (intOf i).toNat)
  case atStart => exact ⟨0, none, 0, [], X, _, Nat.zero_le _, rfl, rfl, rfl, hcc', H0⟩
  case round =>
    clear H0 hcc'
    obtain ⟨j, key, cap, rs, X, gv, hj, rfl, rfl, hrs, hcc, H⟩ := hrel
    by_cases hlt : j < n
    · have hj' : j < ops.length := by rw [hn.out]; exact hlt
      have hcat : Hid (ops.take (j + 1) = ops.take j ++ [ops[j]]) := (List.take_append_getElem hj').symm
      have hkj := hk.out _ (List.getElem_mem hj')
      have hlen : Hid ((cruns M [] (ops.take j)).length ≤ 400) := by
        have := cruns_len M (ops.take j) []
        rw [List.length_take] at this
        show _ ≤ _
        simp only [List.length_nil] at this
        omega
      have hsj := Lib.hid (sound_runs (ops.take j) hsd.out)
      obtain ⟨b1, o1, rfl, H1⟩ := H.elemSoft (Split.there _ (Split.there _ (Split.there _ (Split.there _ (Split.here _ _))))) (j * 3) (ops[j]).cells (by show 0 < 3; omega) (by rw [lop_len]; show _ + 3 ≤ _; omega) (fun i hi => flat_at LOp.cells 3 ops (fun _ _ => rfl) j i hj' hi)
      clear H
      have H := H1
      clear H1
      generalize ops[j] = oo at *
      obtain ⟨kd, ky, vl⟩ := oo
      simp only [LOp.cells] at H
      simp only at hkj
      clear hj'
      generalize hl0 : cruns M [] (ops.take j) = l0 at hcc hlen hsj
      have hl0' := Lib.hid hl0
      clear hl0
      rcases hkj with rfl | rfl
      · have hca : Hid (cans l0 ⟨1, ky, vl⟩ = (false, 0)) := rfl
        have hcn : Hid (cnext M l0 ⟨1, ky, vl⟩ = caddS M l0 ky vl) := rfl
        by_cases hst : Stays M l0 ky
        · have hst' := Lib.hid hst
          clear hst
          have hc := H.cells; simp only [CellsOf, KnCells, knc, Nat.reduceAdd] at hc
          repeat' (first | (go_big_may; (first
    | go_skip
    | ((first
        | (go_at_call 9; refine Calls.mono (wStays cb hcc.out hst'.out (by have := hlen.out; omega) _ _ (H.pick (by repeat (first | exact Picks.nil _ | (apply Picks.wr; focus (repeat (first | exact Split.here _ _ | apply Split.there))) | (apply Picks.rd; focus (repeat (first | exact Split.here _ _ | apply Split.there))))))) ?_; rintro e w' ⟨X2, hc2, rfl, H'⟩; replace H := H.merge (by first | exact Strikes.nil _ | (repeat (first | exact Strikes.nil _ | (apply Strikes.cons; focus (repeat (first | exact Split.here _ _ | apply Split.there)))))) H' rfl; clear H')
        | (refine loud_ rfl ?_; refine wpList_plain rfl (fun K hK => ?_); (first | (refine op_box _ _ rfl H (fun b w' H1 => hK _ _ ?_)) | (refine op_alloc _ rfl (zero_of _ _ rfl) H (fun b w' H1 => hK _ _ ?_)) | (refine op_store _ _ _ rfl rfl rfl H (by repeat (first | exact Split.here _ _ | apply Split.there)) (by kernel_rfl) (by kernel_rfl) (by kernel_rfl) (fun w' H1 => hK _ _ ?_)) | (refine op_buildSlice_all _ _ _ rfl (by first | exact elem22 | exact elem25 | exact elem31 | exact elem35) (by kernel_rfl) (by kernel_rfl) (by kernel_rfl) H (fun b w' H1 => hK _ _ ?_))); clear hK K; replace H := H1; clear H1)); (try clear hc); (try simp only [nrm, splice, Value.cells, Nat.reduceAdd, Act.eval, Act.put] at H); have hc := H.cells; simp only [CellsOf, KnCells, knc, Nat.reduceAdd] at hc))) | go_values | go_skip | go_guarded | go_step | go_upon | go_back | dsimp only)
          go_loopw [13] (fun i wr => i = .int .i64 0 ∧ wr = w') (fun _ _ => 0)
          case atStart => exact ⟨rfl, rfl⟩
          case round =>
            obtain ⟨rfl, rfl⟩ := hrel
            repeat' (first | (go_big_may; (first
    | ((first
        | (refine loud_ rfl ?_; refine wpList_plain rfl (fun K hK => ?_); (first | (refine op_append_lit _ _ _ rfl elem25 rfl rfl H (by repeat (first | exact Split.here _ _ | apply Split.there)) (by repeat (first | exact Split.here _ _ | apply Split.there)) (by kernel_rfl) (by kernel_rfl) (by omega) (by unfold maxLen; omega) (fun key cap' w' H1 => hK _ _ ?_)) | (refine op_box _ _ rfl H (fun b w' H1 => hK _ _ ?_)) | (refine op_alloc _ rfl (zero_of _ _ rfl) H (fun b w' H1 => hK _ _ ?_)) | (refine op_store _ _ _ rfl rfl rfl H (by repeat (first | exact Split.here _ _ | apply Split.there)) (by kernel_rfl) (by kernel_rfl) (by kernel_rfl) (fun w' H1 => hK _ _ ?_)) | (refine op_buildSlice_all _ _ _ rfl (by first | exact elem22 | exact elem25 | exact elem31 | exact elem35) (by kernel_rfl) (by kernel_rfl) (by kernel_rfl) H (fun b w' H1 => hK _ _ ?_))); clear hK K; replace H := H1; clear H1)); (try clear hc); (try simp only [nrm, splice, Value.cells, Nat.reduceAdd, Act.eval, Act.put] at H); have hc := H.cells; simp only [CellsOf, KnCells, knc, Nat.reduceAdd] at hc))) | go_values | go_skip | go_guarded | go_step | go_upon | go_back | dsimp only)
            refine ⟨⟨j + 1, key, cap', rs ++ [⟨false, 0, .slice none 0 0, .slice none 0 0⟩], X2, .slice none 0 0, by omega, by go_num, rfl, ?_, ?_, ?_⟩, by simp [intOf]; omega⟩
            · show _ = _
              rw [List.map_append, hrs.out, hcat.out, ctells_snoc, hl0'.out, hca.out]
              rfl
            · show Cch _ _ _ _ _
              rw [hcat.out, cruns_snoc, hl0'.out, hcn.out]
              exact hc2
            · rw [List.flatMap_append, List.flatMap_cons, List.flatMap_nil, List.append_nil]
              exact H.sel (by repeat (first | exact Sel.nil _ | (apply Sel.cons; focus (repeat (first | exact Split.here _ _ | apply Split.there)))))
        · have hst' := Lib.hid hst
          clear hst
          have hc := H.cells; simp only [CellsOf, KnCells, knc, Nat.reduceAdd] at hc
          repeat' (first | (go_big_may; (first
    | go_skip
    | ((first
        | (go_at_call 9; refine Calls.mono (wGoes cb hcc.out hst'.out (by have := hlen.out; omega) hsj.out.nd _ _ (H.pick (by repeat (first | exact Picks.nil _ | (apply Picks.wr; focus (repeat (first | exact Split.here _ _ | apply Split.there))) | (apply Picks.rd; focus (repeat (first | exact Split.here _ _ | apply Split.there))))))) ?_; rintro e w' ⟨X2, gk, gcap, ka, va, hc2, rfl, H'⟩; replace H := H.merge (by first | exact Strikes.nil _ | (repeat (first | exact Strikes.nil _ | (apply Strikes.cons; focus (repeat (first | exact Split.here _ _ | apply Split.there)))))) H' rfl; clear H')
        | (refine loud_ rfl ?_; refine wpList_plain rfl (fun K hK => ?_); (first | (refine op_box _ _ rfl H (fun b w' H1 => hK _ _ ?_)) | (refine op_alloc _ rfl (zero_of _ _ rfl) H (fun b w' H1 => hK _ _ ?_)) | (refine op_store _ _ _ rfl rfl rfl H (by repeat (first | exact Split.here _ _ | apply Split.there)) (by kernel_rfl) (by kernel_rfl) (by kernel_rfl) (fun w' H1 => hK _ _ ?_)) | (refine op_buildSlice_all _ _ _ rfl (by first | exact elem22 | exact elem25 | exact elem31 | exact elem35) (by kernel_rfl) (by kernel_rfl) (by kernel_rfl) H (fun b w' H1 => hK _ _ ?_))); clear hK K; replace H := H1; clear H1)); (try clear hc); (try simp only [nrm, splice, Value.cells, Nat.reduceAdd, Act.eval, Act.put] at H); have hc := H.cells; simp only [CellsOf, KnCells, knc, Nat.reduceAdd] at hc))) | go_values | go_skip | go_guarded | go_step | go_upon | go_back | dsimp only)
          obtain ⟨kb, rfl⟩ : ∃ kb, gk = some kb := by
            have h := H.get (k := .row gk 40 2 1 gcap [.int .i64 ka, .int .i64 va]) (by repeat (first | exact Split.here _ _ | apply Split.there))
            cases gk with
            | some kb => exact ⟨kb, rfl⟩
            | none => exact absurd h.1 (by omega)
          (try simp only [Option.map_some] at H)
          obtain ⟨ab, hab⟩ : ∃ ab, ab = b := ⟨_, rfl⟩
          subst hab
          clear hc
          go_loopw [13] (fun i wr => ∃ (m : Nat) (k1 : Option Nat) (n1 c1 : Nat) (k2 : Option Nat) (n2 c2 : Nat), m ≤ 1 ∧ i = .int .i64 m ∧ (m = 0 → (k1 = none ∧ n1 = 0 ∧ c1 = 0) ∧ (k2 = none ∧ n2 = 0 ∧ c2 = 0)) ∧ St [] w wr [(true, bag X2), (true, .is go (.cells #[.slice (some ⟨kb, 0, none⟩) (1 : Nat) gcap] 35 (0, 0))), (true, .row (some kb) 40 2 1 gcap [.int .i64 ka, .int .i64 va]), lruObj cb gb, (true, .row key 33 4 j cap (rs.flatMap LA.cells)), (true, .is ab (.cells #[.bool false, .int .i64 0, sl k1 n1 c1, sl k2 n2 c2] 33 (0, 0))), (false, soft (some ⟨b1, o1, none⟩) (ops.flatMap LOp.cells))]) (fun i _ => 1 - (intOf i).toNat)
          case atStart => exact ⟨0, none, 0, 0, none, 0, 0, by omega, rfl, fun _ => ⟨⟨rfl, rfl, rfl⟩, ⟨rfl, rfl, rfl⟩⟩, H.sel (by repeat (first | exact Sel.nil _ | (apply Sel.cons; focus (repeat (first | exact Split.here _ _ | apply Split.there)))))⟩
          case round =>
            clear H
            obtain ⟨m, k1, n1, c1, k2, n2, c2, hm, rfl, hu, H⟩ := hrel
            by_cases hm0 : m = 0
            · subst hm0
              obtain ⟨⟨rfl, rfl, rfl⟩, ⟨rfl, rfl, rfl⟩⟩ := hu rfl
              clear hu
              have hz : ((0 : Nat) : Int) = 0 := rfl
              replace H := (H.nilRow 3 1)
              have hc := H.cells; simp only [CellsOf, KnCells, knc, Nat.reduceAdd] at hc
              go_upto_region 30 with (first
    | ((first
        | (refine loud_ rfl ?_; refine wpList_plain rfl (fun K hK => ?_); (first | (refine op_box _ _ rfl H (fun b w' H1 => hK _ _ ?_)) | (refine op_alloc _ rfl (zero_of _ _ rfl) H (fun b w' H1 => hK _ _ ?_)) | (refine op_store _ _ _ rfl rfl rfl H (by repeat (first | exact Split.here _ _ | apply Split.there)) (by kernel_rfl) (by kernel_rfl) (by kernel_rfl) (fun w' H1 => hK _ _ ?_)) | (refine op_buildSlice_all _ _ _ rfl (by first | exact elem22 | exact elem25 | exact elem31 | exact elem35) (by kernel_rfl) (by kernel_rfl) (by kernel_rfl) H (fun b w' H1 => hK _ _ ?_))); clear hK K; replace H := H1; clear H1)); (try clear hc); (try simp only [nrm, splice, Value.cells, Nat.reduceAdd, Act.eval, Act.put] at H); have hc := H.cells; simp only [CellsOf, KnCells, knc, Nat.reduceAdd] at hc))
              (try simp only [Act.put, slt])
              refine wp_region_plan (.p [0] (.q [1, 2] (.p [3, 4, 5] (.q [6] (.e 7 (.e 8 (.p [9] (.e 10 .done)))))))) [8, 10] (by kernel_rfl) (by kernel_rfl) (fun _ _ d _ _ h => by cases d <;> exact h) H ?_
              clear H
              (try clear hc)
              intro X nX fX wd hcf hS H
              simp only [CellsOf, KnCells, knc, Nat.reduceAdd] at hcf
              have hc := H.cells
              simp only [CellsOf, KnCells, knc, Nat.reduceAdd] at hc
              iterate 1 (refine plan_p (o := ⟨_, _, _, _, _, _⟩) rfl (fun N hN => ?_); go_big_quiet_step (fail); refine wpQuiet_nil (hN _ ?_); clear hN N)
              refine plan_p0 ?_
              iterate 2 (refine plan_q (o := ⟨_, _, _, _, _, _⟩) rfl (fun N hN => ?_); go_big_quiet_step (fail); refine wpQuiet_nil (hN _ ?_); clear hN N)
              refine plan_q0 ?_
              iterate 3 (refine plan_p (o := ⟨_, _, _, _, _, _⟩) rfl (fun N hN => ?_); go_big_quiet_step (fail); refine wpQuiet_nil (hN _ ?_); clear hN N)
              refine plan_p0 ?_
              iterate 1 (refine plan_q (o := ⟨_, _, _, _, _, _⟩) rfl (fun N hN => ?_); go_big_quiet_step (fail); refine wpQuiet_nil (hN _ ?_); clear hN N)
              refine plan_q0 ?_
              refine plan_e (o := ⟨_, _, _, _, _, _⟩) rfl rfl (fun K hK => ?_)
              (first | (refine op_append_lit _ _ _ rfl elem31 (key := none) (n := 0) (cap := 0) (xs := []) rfl rfl H (by repeat (first | exact Split.here _ _ | apply Split.there)) (by repeat (first | exact Split.here _ _ | apply Split.there)) (by kernel_rfl) (by kernel_rfl) (by omega) (by unfold maxLen; omega) (fun k3 c3 w' H1 => ?_); replace H := H1; clear H1) | (refine op_box _ _ rfl H (fun b w' H1 => ?_); replace H := H1; clear H1) | (refine op_alloc _ rfl (zero_of _ _ rfl) H (fun b w' H1 => ?_); replace H := H1; clear H1) | (refine op_store _ _ _ rfl rfl rfl H (by repeat (first | exact Split.here _ _ | apply Split.there)) (by kernel_rfl) (by kernel_rfl) (by kernel_rfl) (fun w' H1 => ?_); replace H := H1; clear H1) | (refine op_buildSlice_all _ _ _ rfl (by first | exact elem22 | exact elem25 | exact elem31 | exact elem35) (by kernel_rfl) (by kernel_rfl) (by kernel_rfl) H (fun b w' H1 => ?_); replace H := H1; clear H1)); (try clear hc); (try simp only [nrm, splice, Value.cells, Nat.reduceAdd, Act.eval, Act.put] at H); have hc := H.cells; simp only [CellsOf, KnCells, knc, Nat.reduceAdd] at hc; refine hK _ _ (fun _ _ => hS _ (H.sublist (by repeat (first | exact List.Sublist.refl _ | exact List.nil_sublist _ | apply List.Sublist.cons_cons | apply List.Sublist.cons))).all) ?_; clear hK K; (try simp only [Act.put, slt])
              refine plan_e (o := ⟨_, _, _, _, _, _⟩) rfl rfl (fun K hK => ?_)
              (first | (refine op_append_lit _ _ _ rfl elem31 (key := none) (n := 0) (cap := 0) (xs := []) rfl rfl H (by repeat (first | exact Split.here _ _ | apply Split.there)) (by repeat (first | exact Split.here _ _ | apply Split.there)) (by kernel_rfl) (by kernel_rfl) (by omega) (by unfold maxLen; omega) (fun k3 c3 w' H1 => ?_); replace H := H1; clear H1) | (refine op_box _ _ rfl H (fun b w' H1 => ?_); replace H := H1; clear H1) | (refine op_alloc _ rfl (zero_of _ _ rfl) H (fun b w' H1 => ?_); replace H := H1; clear H1) | (refine op_store _ _ _ rfl rfl rfl H (by repeat (first | exact Split.here _ _ | apply Split.there)) (by kernel_rfl) (by kernel_rfl) (by kernel_rfl) (fun w' H1 => ?_); replace H := H1; clear H1) | (refine op_buildSlice_all _ _ _ rfl (by first | exact elem22 | exact elem25 | exact elem31 | exact elem35) (by kernel_rfl) (by kernel_rfl) (by kernel_rfl) H (fun b w' H1 => ?_); replace H := H1; clear H1)); (try clear hc); (try simp only [nrm, splice, Value.cells, Nat.reduceAdd, Act.eval, Act.put] at H); have hc := H.cells; simp only [CellsOf, KnCells, knc, Nat.reduceAdd] at hc; refine hK _ _ (fun h => (h (by decide)).elim) ?_; clear hK K; (try simp only [Act.put, slt])
              iterate 1 (refine plan_p (o := ⟨_, _, _, _, _, _⟩) rfl (fun N hN => ?_); go_big_quiet_step (fail); refine wpQuiet_nil (hN _ ?_); clear hN N)
              refine plan_p0 ?_
              refine plan_e (o := ⟨_, _, _, _, _, _⟩) rfl rfl (fun K hK => ?_)
              (first | (refine op_append_lit _ _ _ rfl elem31 (key := none) (n := 0) (cap := 0) (xs := []) rfl rfl H (by repeat (first | exact Split.here _ _ | apply Split.there)) (by repeat (first | exact Split.here _ _ | apply Split.there)) (by kernel_rfl) (by kernel_rfl) (by omega) (by unfold maxLen; omega) (fun k3 c3 w' H1 => ?_); replace H := H1; clear H1) | (refine op_box _ _ rfl H (fun b w' H1 => ?_); replace H := H1; clear H1) | (refine op_alloc _ rfl (zero_of _ _ rfl) H (fun b w' H1 => ?_); replace H := H1; clear H1) | (refine op_store _ _ _ rfl rfl rfl H (by repeat (first | exact Split.here _ _ | apply Split.there)) (by kernel_rfl) (by kernel_rfl) (by kernel_rfl) (fun w' H1 => ?_); replace H := H1; clear H1) | (refine op_buildSlice_all _ _ _ rfl (by first | exact elem22 | exact elem25 | exact elem31 | exact elem35) (by kernel_rfl) (by kernel_rfl) (by kernel_rfl) H (fun b w' H1 => ?_); replace H := H1; clear H1)); (try clear hc); (try simp only [nrm, splice, Value.cells, Nat.reduceAdd, Act.eval, Act.put] at H); have hc := H.cells; simp only [CellsOf, KnCells, knc, Nat.reduceAdd] at hc; refine hK _ _ (fun h => (h (by decide)).elim) ?_; clear hK K; (try simp only [Act.put, slt])
              refine plan_done ?_
              replace H := (H.nilRow 3 1)
              go_upto_region 31 with (first
    | ((first
        | (refine loud_ rfl ?_; refine wpList_plain rfl (fun K hK => ?_); (first | (refine op_box _ _ rfl H (fun b w' H1 => hK _ _ ?_)) | (refine op_alloc _ rfl (zero_of _ _ rfl) H (fun b w' H1 => hK _ _ ?_)) | (refine op_store _ _ _ rfl rfl rfl H (by repeat (first | exact Split.here _ _ | apply Split.there)) (by kernel_rfl) (by kernel_rfl) (by kernel_rfl) (fun w' H1 => hK _ _ ?_)) | (refine op_buildSlice_all _ _ _ rfl (by first | exact elem22 | exact elem25 | exact elem31 | exact elem35) (by kernel_rfl) (by kernel_rfl) (by kernel_rfl) H (fun b w' H1 => hK _ _ ?_))); clear hK K; replace H := H1; clear H1)); (try clear hc); (try simp only [nrm, splice, Value.cells, Nat.reduceAdd, Act.eval, Act.put] at H); have hc := H.cells; simp only [CellsOf, KnCells, knc, Nat.reduceAdd] at hc))
              (try simp only [Act.put, slt])
              refine wp_region_plan (.p [0] (.q [1, 2] (.p [3, 4, 5] (.q [6] (.e 7 (.e 8 (.p [9] (.e 10 .done)))))))) [8, 10] (by kernel_rfl) (by kernel_rfl) (fun _ _ d _ _ h => by cases d <;> exact h) H ?_
              clear H
              (try clear hc)
              intro X nX fX wd hcf hS H
              simp only [CellsOf, KnCells, knc, Nat.reduceAdd] at hcf
              have hc := H.cells
              simp only [CellsOf, KnCells, knc, Nat.reduceAdd] at hc
              iterate 1 (refine plan_p (o := ⟨_, _, _, _, _, _⟩) rfl (fun N hN => ?_); go_big_quiet_step (fail); refine wpQuiet_nil (hN _ ?_); clear hN N)
              refine plan_p0 ?_
              iterate 2 (refine plan_q (o := ⟨_, _, _, _, _, _⟩) rfl (fun N hN => ?_); go_big_quiet_step (fail); refine wpQuiet_nil (hN _ ?_); clear hN N)
              refine plan_q0 ?_
              iterate 3 (refine plan_p (o := ⟨_, _, _, _, _, _⟩) rfl (fun N hN => ?_); go_big_quiet_step (fail); refine wpQuiet_nil (hN _ ?_); clear hN N)
              refine plan_p0 ?_
              iterate 1 (refine plan_q (o := ⟨_, _, _, _, _, _⟩) rfl (fun N hN => ?_); go_big_quiet_step (fail); refine wpQuiet_nil (hN _ ?_); clear hN N)
              refine plan_q0 ?_
              refine plan_e (o := ⟨_, _, _, _, _, _⟩) rfl rfl (fun K hK => ?_)
              (first | (refine op_append_lit _ _ _ rfl elem31 (key := none) (n := 0) (cap := 0) (xs := []) rfl rfl H (by repeat (first | exact Split.here _ _ | apply Split.there)) (by repeat (first | exact Split.here _ _ | apply Split.there)) (by kernel_rfl) (by kernel_rfl) (by omega) (by unfold maxLen; omega) (fun k4 c4 w' H1 => ?_); replace H := H1; clear H1) | (refine op_box _ _ rfl H (fun b w' H1 => ?_); replace H := H1; clear H1) | (refine op_alloc _ rfl (zero_of _ _ rfl) H (fun b w' H1 => ?_); replace H := H1; clear H1) | (refine op_store _ _ _ rfl rfl rfl H (by repeat (first | exact Split.here _ _ | apply Split.there)) (by kernel_rfl) (by kernel_rfl) (by kernel_rfl) (fun w' H1 => ?_); replace H := H1; clear H1) | (refine op_buildSlice_all _ _ _ rfl (by first | exact elem22 | exact elem25 | exact elem31 | exact elem35) (by kernel_rfl) (by kernel_rfl) (by kernel_rfl) H (fun b w' H1 => ?_); replace H := H1; clear H1)); (try clear hc); (try simp only [nrm, splice, Value.cells, Nat.reduceAdd, Act.eval, Act.put] at H); have hc := H.cells; simp only [CellsOf, KnCells, knc, Nat.reduceAdd] at hc; refine hK _ _ (fun _ _ => hS _ (H.sublist (by repeat (first | exact List.Sublist.refl _ | exact List.nil_sublist _ | apply List.Sublist.cons_cons | apply List.Sublist.cons))).all) ?_; clear hK K; (try simp only [Act.put, slt])
              refine plan_e (o := ⟨_, _, _, _, _, _⟩) rfl rfl (fun K hK => ?_)
              (first | (refine op_append_lit _ _ _ rfl elem31 (key := none) (n := 0) (cap := 0) (xs := []) rfl rfl H (by repeat (first | exact Split.here _ _ | apply Split.there)) (by repeat (first | exact Split.here _ _ | apply Split.there)) (by kernel_rfl) (by kernel_rfl) (by omega) (by unfold maxLen; omega) (fun k4 c4 w' H1 => ?_); replace H := H1; clear H1) | (refine op_box _ _ rfl H (fun b w' H1 => ?_); replace H := H1; clear H1) | (refine op_alloc _ rfl (zero_of _ _ rfl) H (fun b w' H1 => ?_); replace H := H1; clear H1) | (refine op_store _ _ _ rfl rfl rfl H (by repeat (first | exact Split.here _ _ | apply Split.there)) (by kernel_rfl) (by kernel_rfl) (by kernel_rfl) (fun w' H1 => ?_); replace H := H1; clear H1) | (refine op_buildSlice_all _ _ _ rfl (by first | exact elem22 | exact elem25 | exact elem31 | exact elem35) (by kernel_rfl) (by kernel_rfl) (by kernel_rfl) H (fun b w' H1 => ?_); replace H := H1; clear H1)); (try clear hc); (try simp only [nrm, splice, Value.cells, Nat.reduceAdd, Act.eval, Act.put] at H); have hc := H.cells; simp only [CellsOf, KnCells, knc, Nat.reduceAdd] at hc; refine hK _ _ (fun h => (h (by decide)).elim) ?_; clear hK K; (try simp only [Act.put, slt])
              iterate 1 (refine plan_p (o := ⟨_, _, _, _, _, _⟩) rfl (fun N hN => ?_); go_big_quiet_step (fail); refine wpQuiet_nil (hN _ ?_); clear hN N)
              refine plan_p0 ?_
              refine plan_e (o := ⟨_, _, _, _, _, _⟩) rfl rfl (fun K hK => ?_)
              (first | (refine op_append_lit _ _ _ rfl elem31 (key := none) (n := 0) (cap := 0) (xs := []) rfl rfl H (by repeat (first | exact Split.here _ _ | apply Split.there)) (by repeat (first | exact Split.here _ _ | apply Split.there)) (by kernel_rfl) (by kernel_rfl) (by omega) (by unfold maxLen; omega) (fun k4 c4 w' H1 => ?_); replace H := H1; clear H1) | (refine op_box _ _ rfl H (fun b w' H1 => ?_); replace H := H1; clear H1) | (refine op_alloc _ rfl (zero_of _ _ rfl) H (fun b w' H1 => ?_); replace H := H1; clear H1) | (refine op_store _ _ _ rfl rfl rfl H (by repeat (first | exact Split.here _ _ | apply Split.there)) (by kernel_rfl) (by kernel_rfl) (by kernel_rfl) (fun w' H1 => ?_); replace H := H1; clear H1) | (refine op_buildSlice_all _ _ _ rfl (by first | exact elem22 | exact elem25 | exact elem31 | exact elem35) (by kernel_rfl) (by kernel_rfl) (by kernel_rfl) H (fun b w' H1 => ?_); replace H := H1; clear H1)); (try clear hc); (try simp only [nrm, splice, Value.cells, Nat.reduceAdd, Act.eval, Act.put] at H); have hc := H.cells; simp only [CellsOf, KnCells, knc, Nat.reduceAdd] at hc; refine hK _ _ (fun h => (h (by decide)).elim) ?_; clear hK K; (try simp only [Act.put, slt])
              refine plan_done ?_
              repeat' (first | (go_big_may; (first
    | ((first
        | (refine loud_ rfl ?_; refine wpList_plain rfl (fun K hK => ?_); (first | (refine op_box _ _ rfl H (fun b w' H1 => hK _ _ ?_)) | (refine op_alloc _ rfl (zero_of _ _ rfl) H (fun b w' H1 => hK _ _ ?_)) | (refine op_store _ _ _ rfl rfl rfl H (by repeat (first | exact Split.here _ _ | apply Split.there)) (by kernel_rfl) (by kernel_rfl) (by kernel_rfl) (fun w' H1 => hK _ _ ?_)) | (refine op_buildSlice_all _ _ _ rfl (by first | exact elem22 | exact elem25 | exact elem31 | exact elem35) (by kernel_rfl) (by kernel_rfl) (by kernel_rfl) H (fun b w' H1 => hK _ _ ?_))); clear hK K; replace H := H1; clear H1)); (try clear hc); (try simp only [nrm, splice, Value.cells, Nat.reduceAdd, Act.eval, Act.put] at H); have hc := H.cells; simp only [CellsOf, KnCells, knc, Nat.reduceAdd] at hc))) | go_values | go_skip | go_guarded | go_step | go_upon | go_back | dsimp only)
              exact ⟨⟨1, k3, 1, c3, k4, 1, c4, by omega, rfl, fun h => by omega, H.sel (by repeat (first | exact Sel.nil _ | (apply Sel.cons; focus (repeat (first | exact Split.here _ _ | apply Split.there)))))⟩, by simp [intOf]⟩
            · obtain rfl : m = 1 := by omega
              clear hu
              have hc := H.cells; simp only [CellsOf, KnCells, knc, Nat.reduceAdd] at hc
              repeat' (first | (go_big_may; (first
    | ((first
        | (refine loud_ rfl ?_; refine wpList_plain rfl (fun K hK => ?_); (first | (refine op_append_lit _ _ _ rfl elem25 rfl rfl H (by repeat (first | exact Split.here _ _ | apply Split.there)) (by repeat (first | exact Split.here _ _ | apply Split.there)) (by kernel_rfl) (by kernel_rfl) (by omega) (by unfold maxLen; omega) (fun key cap' w' H1 => hK _ _ ?_)) | (refine op_box _ _ rfl H (fun b w' H1 => hK _ _ ?_)) | (refine op_alloc _ rfl (zero_of _ _ rfl) H (fun b w' H1 => hK _ _ ?_)) | (refine op_store _ _ _ rfl rfl rfl H (by repeat (first | exact Split.here _ _ | apply Split.there)) (by kernel_rfl) (by kernel_rfl) (by kernel_rfl) (fun w' H1 => hK _ _ ?_)) | (refine op_buildSlice_all _ _ _ rfl (by first | exact elem22 | exact elem25 | exact elem31 | exact elem35) (by kernel_rfl) (by kernel_rfl) (by kernel_rfl) H (fun b w' H1 => hK _ _ ?_))); clear hK K; replace H := H1; clear H1)); (try clear hc); (try simp only [nrm, splice, Value.cells, Nat.reduceAdd, Act.eval, Act.put] at H); have hc := H.cells; simp only [CellsOf, KnCells, knc, Nat.reduceAdd] at hc))) | go_values | go_skip | go_guarded | go_step | go_upon | go_back | dsimp only)
              refine ⟨⟨j + 1, key, cap', rs ++ [⟨false, 0, sl k1 n1 c1, sl k2 n2 c2⟩], X2, .slice (some ⟨kb, 0, none⟩) (1 : Nat) gcap, by omega, by go_num, rfl, ?_, ?_, ?_⟩, by simp [intOf]; omega⟩
              · show _ = _
                rw [List.map_append, hrs.out, hcat.out, ctells_snoc, hl0'.out, hca.out]
                rfl
              · show Cch _ _ _ _ _
                rw [hcat.out, cruns_snoc, hl0'.out, hcn.out]
                exact hc2
              · rw [List.flatMap_append, List.flatMap_cons, List.flatMap_nil, List.append_nil]
                exact H.sel (by repeat (first | exact Sel.nil _ | (apply Sel.cons; focus (repeat (first | exact Split.here _ _ | apply Split.there)))))
      · cases hg : cget l0 ky with
        | some v =>
          have hg' := Lib.hid hg
          clear hg
          have hca : Hid (cans l0 ⟨2, ky, vl⟩ = (true, v)) := by
            show _ = _
            unfold cans
            rw [if_neg (show ¬ (2 : Int) = 1 by decide), hg'.out]
          have hcn : Hid (cnext M l0 ⟨2, ky, vl⟩ = (ky, v) :: cdel l0 ky) := by
            show _ = _
            unfold cnext
            rw [if_neg (show ¬ (2 : Int) = 1 by decide)]
            unfold cgetS
            rw [hg'.out]
          have hta := assertI v
          have hc := H.cells; simp only [CellsOf, KnCells, knc, Nat.reduceAdd] at hc
          repeat' (first | (go_big_may; (first
    | go_skip
    | ((first
        | (go_at_call 10; refine Calls.mono (wFound cb hcc.out hg'.out _ _ (H.pick (by repeat (first | exact Picks.nil _ | (apply Picks.wr; focus (repeat (first | exact Split.here _ _ | apply Split.there))) | (apply Picks.rd; focus (repeat (first | exact Split.here _ _ | apply Split.there))))))) ?_; rintro e w' ⟨X2, hc2, rfl, H'⟩; replace H := H.merge (by first | exact Strikes.nil _ | (repeat (first | exact Strikes.nil _ | (apply Strikes.cons; focus (repeat (first | exact Split.here _ _ | apply Split.there)))))) H' rfl; clear H')
        | (refine loud_ rfl ?_; refine wpList_plain rfl (fun K hK => ?_); (first | (refine op_box _ _ rfl H (fun b w' H1 => hK _ _ ?_)) | (refine op_alloc _ rfl (zero_of _ _ rfl) H (fun b w' H1 => hK _ _ ?_)) | (refine op_store _ _ _ rfl rfl rfl H (by repeat (first | exact Split.here _ _ | apply Split.there)) (by kernel_rfl) (by kernel_rfl) (by kernel_rfl) (fun w' H1 => hK _ _ ?_)) | (refine op_buildSlice_all _ _ _ rfl (by first | exact elem22 | exact elem25 | exact elem31 | exact elem35) (by kernel_rfl) (by kernel_rfl) (by kernel_rfl) H (fun b w' H1 => hK _ _ ?_))); clear hK K; replace H := H1; clear H1)); (try clear hc); (try simp only [nrm, splice, Value.cells, Nat.reduceAdd, Act.eval, Act.put] at H); have hc := H.cells; simp only [CellsOf, KnCells, knc, Nat.reduceAdd] at hc))) | go_values | go_skip | go_guarded | go_step | go_upon | go_back | dsimp only)
          go_loopw [13] (fun i wr => i = .int .i64 0 ∧ wr = w') (fun _ _ => 0)
          case atStart => exact ⟨rfl, rfl⟩
          case round =>
            obtain ⟨rfl, rfl⟩ := hrel
            repeat' (first | (go_big_may; (first
    | ((first
        | (refine loud_ rfl ?_; refine wpList_plain rfl (fun K hK => ?_); (first | (refine op_append_lit _ _ _ rfl elem25 rfl rfl H (by repeat (first | exact Split.here _ _ | apply Split.there)) (by repeat (first | exact Split.here _ _ | apply Split.there)) (by kernel_rfl) (by kernel_rfl) (by omega) (by unfold maxLen; omega) (fun key cap' w' H1 => hK _ _ ?_)) | (refine op_box _ _ rfl H (fun b w' H1 => hK _ _ ?_)) | (refine op_alloc _ rfl (zero_of _ _ rfl) H (fun b w' H1 => hK _ _ ?_)) | (refine op_store _ _ _ rfl rfl rfl H (by repeat (first | exact Split.here _ _ | apply Split.there)) (by kernel_rfl) (by kernel_rfl) (by kernel_rfl) (fun w' H1 => hK _ _ ?_)) | (refine op_buildSlice_all _ _ _ rfl (by first | exact elem22 | exact elem25 | exact elem31 | exact elem35) (by kernel_rfl) (by kernel_rfl) (by kernel_rfl) H (fun b w' H1 => hK _ _ ?_))); clear hK K; replace H := H1; clear H1)); (try clear hc); (try simp only [nrm, splice, Value.cells, Nat.reduceAdd, Act.eval, Act.put] at H); have hc := H.cells; simp only [CellsOf, KnCells, knc, Nat.reduceAdd] at hc))) | go_values | go_skip | go_guarded | go_step | go_upon | go_back | dsimp only)
            refine ⟨⟨j + 1, key, cap', rs ++ [⟨true, v, .slice none 0 0, .slice none 0 0⟩], X2, .slice none 0 0, by omega, by go_num, rfl, ?_, ?_, ?_⟩, by simp [intOf]; omega⟩
            · show _ = _
              rw [List.map_append, hrs.out, hcat.out, ctells_snoc, hl0'.out, hca.out]
              rfl
            · show Cch _ _ _ _ _
              rw [hcat.out, cruns_snoc, hl0'.out, hcn.out]
              exact hc2
            · rw [List.flatMap_append, List.flatMap_cons, List.flatMap_nil, List.append_nil]
              exact H.sel (by repeat (first | exact Sel.nil _ | (apply Sel.cons; focus (repeat (first | exact Split.here _ _ | apply Split.there)))))
        | none =>
          have hg' := Lib.hid hg
          clear hg
          have hca : Hid (cans l0 ⟨2, ky, vl⟩ = (false, 0)) := by
            show _ = _
            unfold cans
            rw [if_neg (show ¬ (2 : Int) = 1 by decide), hg'.out]
          have hcn : Hid (cnext M l0 ⟨2, ky, vl⟩ = l0) := by
            show _ = _
            unfold cnext
            rw [if_neg (show ¬ (2 : Int) = 1 by decide)]
            unfold cgetS
            rw [hg'.out]
          have hc2 := hcc.out
          have hc := H.cells; simp only [CellsOf, KnCells, knc, Nat.reduceAdd] at hc
          repeat' (first | (go_big_may; (first
    | go_skip
    | ((first
        | (go_at_call 10; refine Calls.mono (wNot cb hcc.out hg'.out _ _ (H.pick (by repeat (first | exact Picks.nil _ | (apply Picks.wr; focus (repeat (first | exact Split.here _ _ | apply Split.there))) | (apply Picks.rd; focus (repeat (first | exact Split.here _ _ | apply Split.there))))))) ?_; rintro e w' ⟨rfl, H'⟩; replace H := H.merge (by first | exact Strikes.nil _ | (repeat (first | exact Strikes.nil _ | (apply Strikes.cons; focus (repeat (first | exact Split.here _ _ | apply Split.there)))))) H' rfl; clear H')
        | (refine loud_ rfl ?_; refine wpList_plain rfl (fun K hK => ?_); (first | (refine op_box _ _ rfl H (fun b w' H1 => hK _ _ ?_)) | (refine op_alloc _ rfl (zero_of _ _ rfl) H (fun b w' H1 => hK _ _ ?_)) | (refine op_store _ _ _ rfl rfl rfl H (by repeat (first | exact Split.here _ _ | apply Split.there)) (by kernel_rfl) (by kernel_rfl) (by kernel_rfl) (fun w' H1 => hK _ _ ?_)) | (refine op_buildSlice_all _ _ _ rfl (by first | exact elem22 | exact elem25 | exact elem31 | exact elem35) (by kernel_rfl) (by kernel_rfl) (by kernel_rfl) H (fun b w' H1 => hK _ _ ?_))); clear hK K; replace H := H1; clear H1)); (try clear hc); (try simp only [nrm, splice, Value.cells, Nat.reduceAdd, Act.eval, Act.put] at H); have hc := H.cells; simp only [CellsOf, KnCells, knc, Nat.reduceAdd] at hc))) | go_values | go_skip | go_guarded | go_step | go_upon | go_back | dsimp only)
          go_loopw [13] (fun i wr => i = .int .i64 0 ∧ wr = w') (fun _ _ => 0)
          case atStart => exact ⟨rfl, rfl⟩
          case round =>
            obtain ⟨rfl, rfl⟩ := hrel
            repeat' (first | (go_big_may; (first
    | ((first
        | (refine loud_ rfl ?_; refine wpList_plain rfl (fun K hK => ?_); (first | (refine op_append_lit _ _ _ rfl elem25 rfl rfl H (by repeat (first | exact Split.here _ _ | apply Split.there)) (by repeat (first | exact Split.here _ _ | apply Split.there)) (by kernel_rfl) (by kernel_rfl) (by omega) (by unfold maxLen; omega) (fun key cap' w' H1 => hK _ _ ?_)) | (refine op_box _ _ rfl H (fun b w' H1 => hK _ _ ?_)) | (refine op_alloc _ rfl (zero_of _ _ rfl) H (fun b w' H1 => hK _ _ ?_)) | (refine op_store _ _ _ rfl rfl rfl H (by repeat (first | exact Split.here _ _ | apply Split.there)) (by kernel_rfl) (by kernel_rfl) (by kernel_rfl) (fun w' H1 => hK _ _ ?_)) | (refine op_buildSlice_all _ _ _ rfl (by first | exact elem22 | exact elem25 | exact elem31 | exact elem35) (by kernel_rfl) (by kernel_rfl) (by kernel_rfl) H (fun b w' H1 => hK _ _ ?_))); clear hK K; replace H := H1; clear H1)); (try clear hc); (try simp only [nrm, splice, Value.cells, Nat.reduceAdd, Act.eval, Act.put] at H); have hc := H.cells; simp only [CellsOf, KnCells, knc, Nat.reduceAdd] at hc))) | go_values | go_skip | go_guarded | go_step | go_upon | go_back | dsimp only)
            refine ⟨⟨j + 1, key, cap', rs ++ [⟨false, 0, .slice none 0 0, .slice none 0 0⟩], X, .slice none 0 0, by omega, by go_num, rfl, ?_, ?_, ?_⟩, by simp [intOf]; omega⟩
            · show _ = _
              rw [List.map_append, hrs.out, hcat.out, ctells_snoc, hl0'.out, hca.out]
              rfl
            · show Cch _ _ _ _ _
              rw [hcat.out, cruns_snoc, hl0'.out, hcn.out]
              exact hc2
            · rw [List.flatMap_append, List.flatMap_cons, List.flatMap_nil, List.append_nil]
              exact H.sel (by repeat (first | exact Sel.nil _ | (apply Sel.cons; focus (repeat (first | exact Split.here _ _ | apply Split.there)))))
    · obtain rfl : j = n := by omega
      rw [List.take_of_length_le (by rw [hn.out]; omega)] at hrs
      have hc := H.cells; simp only [CellsOf, KnCells, knc, Nat.reduceAdd] at hc
      repeat' (first | (go_big_may; (first
    | ((first
        | (refine loud_ rfl ?_; refine wpList_plain rfl (fun K hK => ?_); (first | (refine op_box _ _ rfl H (fun b w' H1 => hK _ _ ?_)) | (refine op_alloc _ rfl (zero_of _ _ rfl) H (fun b w' H1 => hK _ _ ?_)) | (refine op_store _ _ _ rfl rfl rfl H (by repeat (first | exact Split.here _ _ | apply Split.there)) (by kernel_rfl) (by kernel_rfl) (by kernel_rfl) (fun w' H1 => hK _ _ ?_)) | (refine op_buildSlice_all _ _ _ rfl (by first | exact elem22 | exact elem25 | exact elem31 | exact elem35) (by kernel_rfl) (by kernel_rfl) (by kernel_rfl) H (fun b w' H1 => hK _ _ ?_))); clear hK K; replace H := H1; clear H1)); (try clear hc); (try simp only [nrm, splice, Value.cells, Nat.reduceAdd, Act.eval, Act.put] at H); have hc := H.cells; simp only [CellsOf, KnCells, knc, Nat.reduceAdd] at hc))) | go_values | go_skip | go_guarded | go_step | go_upon | go_back | dsimp only)
      go_ret
      exact ⟨key, cap, rs, hrs, rfl, H.sublist (.cons_cons _ (List.nil_sublist _))⟩
end Go.Proofs.Ytjoiekpedmhfbaa
