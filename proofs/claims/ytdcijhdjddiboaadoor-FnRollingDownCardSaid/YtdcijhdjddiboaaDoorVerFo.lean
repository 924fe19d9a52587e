import Derived.Test.YtdcijhdjddiboaaDoorVerFn
import Derived.Test.YtdcijhdjddiboaaDoorVerFm
import Derived.Test.YtdcijhdjddiboaaDoorVSkip
import Derived.Deep.DeepCutAuto
-- MORE
namespace Go.Proofs.YtdcijhdjddiboaaDoor
set_option linter.unusedVariables false
set_option linter.unusedSimpArgs false
set_option linter.unnecessarySimpa false
open Go.RowKit Go.V

def nats (l : List Nat) : List Value := l.map fun x : Nat => .int .i64 (x : Int)
def intsV (l : List Int) : List Value := l.map (.int .i64)
theorem nats_len (l : List Nat) : (nats l).length = l.length := by unfold nats; rw [List.length_map]
theorem nats_take (l : List Nat) (k : Nat) : (nats l).take k = nats (l.take k) := by unfold nats; rw [List.map_take]
theorem nats_drop (l : List Nat) (k : Nat) : (nats l).drop k = nats (l.drop k) := by unfold nats; rw [List.map_drop]
theorem nats_app (l r : List Nat) : nats l ++ nats r = nats (l ++ r) := by unfold nats; rw [List.map_append]
theorem strs_set (ts : List ByteArray) (i : Nat) (b : ByteArray) (h : i < ts.length) : (strs ts).take i ++ [.string b] ++ (strs ts).drop (i + 1) = strs (ts.set i b) := by
  rw [List.set_eq_take_append_cons_drop, if_pos h]
  simp [strs, List.map_append, List.map_take, List.map_drop]
theorem st_short {S : List Nat} {w0 w : World} {L A B : List Ent} {key : Option Nat} {T size n cap : Nat} {xs : List Value} (h : St S w0 w L) (hs : Split L (true, .row key T size n cap xs) A B) (k : Nat) (hk : k ≤ n) : St S w0 w (A ++ (true, .row key T size k cap (xs.take (k * size))) :: B) := by
  refine h.turn hs (Ext.refl _ _) ?_ rfl
  have hg := h.get hs
  cases key with
  | none =>
    obtain ⟨h1, h2, h3⟩ := hg
    subst h3
    exact ⟨by omega, h2, by simp⟩
  | some b =>
    obtain ⟨cur, h1, h2, h3, h4, h5⟩ := hg
    refine ⟨cur, h1, h2, by omega, h4, ?_⟩
    rw [← h5, List.take_take, Nat.min_eq_left (Nat.mul_le_mul_right _ hk)]
theorem fill_step {xs : List Value} {n j : Nat} (hl : xs.length = n) (hj : j < n) (h : xs.take j = nats (List.range j)) : (xs.take j ++ Value.int .i64 (j : Int) :: xs.drop (j + 1)).length = n ∧ (xs.take j ++ Value.int .i64 (j : Int) :: xs.drop (j + 1)).take (j + 1) = nats (List.range (j + 1)) := by
  have hcons : xs.take j ++ Value.int .i64 (j : Int) :: xs.drop (j + 1) = xs.take j ++ [Value.int .i64 (j : Int)] ++ xs.drop (j + 1) := by rw [List.append_assoc]; rfl
  rw [hcons]
  have h1 : (xs.take j).length = j := by rw [List.length_take]; omega
  constructor
  · simp only [List.length_append, h1, List.length_cons, List.length_nil, List.length_drop]
    omega
  · rw [List.take_left' (by rw [List.length_append, h1]; rfl), h, List.range_succ, ← nats_app]
    rfl
abbrev vv (a b c : ByteArray) (dn hd : Bool) (mb n cap : Nat) : Value := .agg #[.string a, .string b, .string c, .bool dn, .bool hd, .slice (some ⟨mb, 0, none⟩) n cap]
abbrev oo (e : Int) (a b : ByteArray) (x y : Bool) (t : ByteArray) : Value := .agg #[.int .i64 e, .string a, .string b, .bool x, .bool y, .string t]
/-- What the law's walk asks of the functions that it calls. -/
structure Roll (n : Nat) (m : Int) (a b : ByteArray) : Prop where
  first : ∀ (w : World), Calls Tryd.prog 26 #[.int .i64 n, .int .i64 m] w fun e w' => ∃ mb cap, e = .returned (.agg #[.string a, .string a, .string ByteArray.empty, .bool false, .bool false, .slice (some ⟨mb, 0, none⟩) n cap]) ∧ St [] w w' [(true, .row (some mb) 9 1 n cap (strs (rollT n (List.range n) a b)))]
  en : ∀ (mb cap : Nat) (w : World), St [] w w [genv] → Calls Tryd.prog 27 #[vv a a ByteArray.empty false false mb n cap, .agg #[.int .i64 3, .int .i64 (m - 1), .int .i64 0]] w fun e w' => e = .returned (oo 0 ByteArray.empty ByteArray.empty false true b) ∧ Ext [] w w'
  vo1 : ∀ (mb cap : Nat) (w : World), Calls Tryd.prog 24 #[vv a a ByteArray.empty false false mb n cap, oo 0 ByteArray.empty ByteArray.empty false true b] w fun e w' => e = .returned (vv a a b true true mb n cap) ∧ Ext [] w w'
  val : ∀ (mb cap : Nat) (w : World), St [] w w [genv] → Calls Tryd.prog 28 #[vv a a b true true mb n cap, .agg #[.int .i64 3, .int .i64 (m - 1), .int .i64 0]] w fun e w' => e = .returned (oo 2 ByteArray.empty ByteArray.empty false false ByteArray.empty) ∧ Ext [] w w'
  d1 : ∀ (mb cap : Nat) (w : World), St [] w w [(false, .arr (some ⟨mb, 0, none⟩) (strs (rollT n (List.range n) a b))), genv] → Calls Tryd.prog 11 #[vv a a b true true mb n cap] w fun e w' => e = .returned (oo 0 b ByteArray.empty false false ByteArray.empty) ∧ Ext [] w w'
  vo2 : ∀ (mb cap : Nat) (w : World), Calls Tryd.prog 24 #[vv a a b true true mb n cap, oo 0 b ByteArray.empty false false ByteArray.empty] w fun e w' => e = .returned (vv b a b true true mb n cap) ∧ Ext [] w w'
  s1 : ∀ (mb cap : Nat) (w : World), St [] w w [(false, .arr (some ⟨mb, 0, none⟩) (strs (rollT n (List.range n) a b))), genv] → Calls Tryd.prog 25 #[vv b a b true true mb n cap] w fun e w' => e = .returned (oo 0 ByteArray.empty b false false ByteArray.empty) ∧ Ext [] w w'
  vo3 : ∀ (mb cap : Nat) (w : World), Calls Tryd.prog 24 #[vv b a b true true mb n cap, oo 0 ByteArray.empty b false false ByteArray.empty] w fun e w' => e = .returned (vv b b b true true mb n cap) ∧ Ext [] w w'
  tx : ∀ (w : World), Calls Tryd.prog 18 #[.agg #[.int .i64 3, .int .i64 (m - 1), .int .i64 0]] w fun e w' => e = .returned (.string b) ∧ Ext [] w w'
  c1 : ∀ (ls : List Nat), ls ≠ [] → (∀ j ∈ ls, j < n) → ∀ (mb cap : Nat) (w : World), St [] w w [(false, .arr (some ⟨mb, 0, none⟩) (strs (rollT n ls a b))), genv] → Calls Tryd.prog 22 #[vv b b b true true mb n cap] w fun e w' => e = .returned (oo 0 ByteArray.empty ByteArray.empty false false ByteArray.empty) ∧ Ext [] w w'
  d2 : ∀ (ls : List Nat) (mb cap : Nat) (w : World), St [] w w [(false, .arr (some ⟨mb, 0, none⟩) (strs (rollT n ls a b))), genv] → Calls Tryd.prog 11 #[vv b b b true true mb n cap] w fun e w' => e = .returned (oo 0 ByteArray.empty ByteArray.empty false false ByteArray.empty) ∧ Ext [] w w'
  s2 : ∀ (ls : List Nat) (mb cap : Nat) (w : World), St [] w w [(false, .arr (some ⟨mb, 0, none⟩) (strs (rollT n ls a b))), genv] → Calls Tryd.prog 25 #[vv b b b true true mb n cap] w fun e w' => e = .returned (oo 0 ByteArray.empty ByteArray.empty false false ByteArray.empty) ∧ Ext [] w w'
  c2 : ∀ (mb cap : Nat) (w : World), St [] w w [(false, .arr (some ⟨mb, 0, none⟩) (strs (rollT n [] a b))), genv] → Calls Tryd.prog 22 #[vv b b b true true mb n cap] w fun e w' => e = .returned (oo 0 ByteArray.empty ByteArray.empty true false ByteArray.empty) ∧ Ext [] w w'
  vo4 : ∀ (mb cap : Nat) (w : World), Calls Tryd.prog 24 #[vv b b b true true mb n cap, oo 0 ByteArray.empty ByteArray.empty true false ByteArray.empty] w fun e w' => e = .returned (vv b b ByteArray.empty false true mb n cap) ∧ Ext [] w w'
  d3 : ∀ (mb cap : Nat) (w : World), St [] w w [(false, .arr (some ⟨mb, 0, none⟩) (strs (rollT n [] a b))), genv] → Calls Tryd.prog 11 #[vv b b ByteArray.empty false true mb n cap] w fun e w' => e = .returned (oo 0 ByteArray.empty ByteArray.empty false false ByteArray.empty) ∧ Ext [] w w'
theorem row_arr' {w : World} {b : Nat} {T size n cap : Nat} {xs : List Value} (h : holds w (.row (some b) T size n cap xs)) : holds w (.arr (some ⟨b, 0, none⟩) xs) := row_arr h
theorem st_genv' {W : World} {s : Option Addr} {xs : List Value} (h : holds W (.arr s xs)) (hg : holds W (.rep [0, 1] GEnv)) : St [] W W [(false, .arr s xs), genv] :=
  ((St.init [] W).read (.rep [0, 1] GEnv) hg (by simp)).read (.arr s xs) h (by simp)
theorem st_g {W : World} (hg : holds W (.rep [0, 1] GEnv)) : St [] W W [genv] := (St.init [] W).read (.rep [0, 1] GEnv) hg (by simp)
theorem one_intV (n : Int) : ∀ u ∈ (Value.int .i64 n).cells.toList, u.oneCell' = true := by
  intro u hu
  simp [Value.cells] at hu
  subst hu
  rfl
theorem one_strV (t : ByteArray) : ∀ u ∈ (Value.string t).cells.toList, u.oneCell' = true := by
  intro u hu
  simp [Value.cells] at hu
  subst hu
  rfl
theorem strs_roll {n : Nat} {ls : List Nat} (hnd : ls.Nodup) {k lk : Nat} (hk : k < ls.length) (hlk : ls[k] = lk) (hn : lk < n) (a b : ByteArray) : (strs (rollT n ls a b)).take lk ++ Value.string b :: (strs (rollT n ls a b)).drop (lk + 1) = strs (rollT n (ls.take k ++ ls.drop (k + 1)) a b) := by
  subst hlk
  rw [← rollT_set hnd hk, ← strs_set _ _ _ (by rw [rollT_len]; exact hn), List.append_assoc]
  rfl
theorem one_nats (l : List Nat) : One (nats l) := by
  intro u hu
  simp only [nats, List.mem_map] at hu
  obtain ⟨x, _, rfl⟩ := hu
  rfl
theorem lies_tail {w : World} {b T q lcap k : Nat} {ls : List Nat} (h : holds w (.row (some b) T 1 q lcap (nats ls))) (hq : ls.length = q) (hk : k < q) : Lies w (if lcap = k + 1 then some ⟨b, 0, none⟩ else some ⟨b, k + 1, none⟩) (nats (ls.drop (k + 1))) := by
  by_cases hc : lcap = k + 1
  · rw [if_pos hc]
    obtain ⟨_, _, _, h3, _, _⟩ := h
    have e : ls.drop (k + 1) = [] := List.drop_of_length_le (by omega)
    rw [e]
    exact ⟨fun _ => rfl, fun _ _ j u hu => by simp [nats] at hu⟩
  · rw [if_neg hc]
    refine ⟨fun h => (by cases h), fun ad had j u hu => ?_⟩
    cases had
    have hr := row_cell h (k + 1 + j)
    have hj : j < (nats (ls.drop (k + 1))).length := (List.getElem?_eq_some_iff.1 hu).1
    rw [nats_len, List.length_drop] at hj
    have e : (Addr.mk b (k + 1) none).add j = ⟨b, k + 1 + j, none⟩ := by
      unfold Addr.add
      split
      · simp_all
      · rfl
    rw [e, hr (by omega), ← hu, ← nats_drop, List.getElem?_drop]
theorem ite_some {c : Prop} [Decidable c] {x y : Addr} {m : Nat} : (if c then some x else some y) = (none : Option Addr) → m = 0 := fun h => by split at h <;> cases h
/-- What is known in the walk's loops. -/
abbrev rollL (key : Option Nat) (q lcap : Nat) (xs : List Value) (vb mb n cap : Nat) (tb : ByteArray) (ts : List ByteArray) (ord : Option Addr) (os : List Int) : List Ent :=
  [(true, .row key 3 1 q lcap xs), (true, .is vb (.cells #[.string tb, .string tb, .string tb, .bool true, .bool true, .slice (some ⟨mb, 0, none⟩) n cap] 24 (0, 0))), (true, .row (some mb) 9 1 n cap (strs ts)), (false, .arr ord (intsV os)), genv]
def AtFill (w : World) (lb vb mb n cap : Nat) (ta tb : ByteArray) (ord : Option Addr) (os : List Int) (iv : Value) (wr : World) : Prop := ∃ (j : Nat) (xs : List Value), j ≤ n ∧ iv = .int .i64 j ∧ Hid (xs.length = n) ∧ Hid (xs.take j = nats (List.range j)) ∧ St [] w wr (rollL (some lb) n n xs vb mb n cap tb (rollT n (List.range n) ta tb) ord os)
def AtRoll (w : World) (vb mb n cap : Nat) (ta tb : ByteArray) (ord : Option Addr) (os : List Int) (lv iv : Value) (wr : World) : Prop := ∃ (i q : Nat) (ls : List Nat) (key : Option Nat) (lcap : Nat), i ≤ n ∧ iv = .int .i64 i ∧ lv = sl key q lcap ∧ q + i = n ∧ Hid (ls.length = q) ∧ Hid (ls.Nodup ∧ ∀ j ∈ ls, j < n) ∧ St [] w wr (rollL key q lcap (nats ls) vb mb n cap tb (rollT n ls ta tb) ord os)
set_option maxHeartbeats 8000000 in
set_option maxRecDepth 10000 in
theorem rollingDown_walk (n : Nat) (m : Int) (ta tb : ByteArray) (hR : Hid (Roll n m ta tb)) (hn : 1 ≤ n ∧ n ≤ 9) (hm : 2 ≤ m ∧ m ≤ 9000) (os : List Int) (ord : Option Addr) (oc : Nat) (on : Nat) (hon : Hid (on = os.length)) (hon2 : on ≤ 2147483647) (hno : n ≤ on) (w : World) (H : St [] w w [(false, .arr ord (intsV os)), genv]) :
    Calls Tryd.prog 8 #[.int .i64 n, .int .i64 m, .slice ord on oc] w fun e w' => e = .returned (.bool true) ∧ Ext [] w w' := by
  obtain ⟨hn1, hn9⟩ := hn
  obtain ⟨hm1, hm2⟩ := hm
  have hI1 : ¬ (2147483647 : Int) < on := by omega
  have hI2 : ¬ (n : Int) < 1 := by omega
  have hI3 : ¬ (9 : Int) < n := by omega
  have hI4 : ¬ m < 2 := by omega
  have hI5 : ¬ (9000 : Int) < m := by omega
  have hI6 : ¬ (on : Int) < n := by omega
  have hc := H.cells; simp only [CellsOf, KnCells, knc, Nat.reduceAdd] at hc
  go_enter Tryd.func8, Tryd.ntmps8
  go_upto_region 13 with (first
    | go_skip
    | ((first
        | (go_at_call 26; refine Calls.mono (hR.out.first _) ?_; rintro e w' ⟨mb, cap, rfl, H'⟩; replace H := H.merge (by first | exact Strikes.nil _ | (repeat (first | exact Strikes.nil _ | (apply Strikes.cons; focus (repeat (first | exact Split.here _ _ | apply Split.there)))))) H' rfl; clear H')
        | (go_at_call 27; refine Calls.mono (hR.out.en _ _ _ (st_g (H.get (k := .rep [0, 1] GEnv) (by repeat (first | exact Split.here _ _ | apply Split.there))))) ?_; rintro e w' ⟨rfl, H'⟩; replace H := H.of_ext H'; clear H')
        | (go_at_call 24; refine Calls.mono (hR.out.vo1 _ _ _) ?_; rintro e w' ⟨rfl, H'⟩; replace H := H.of_ext H'; clear H')
        | (go_at_call 28; refine Calls.mono (hR.out.val _ _ _ (st_g (H.get (k := .rep [0, 1] GEnv) (by repeat (first | exact Split.here _ _ | apply Split.there))))) ?_; rintro e w' ⟨rfl, H'⟩; replace H := H.of_ext H'; clear H')
        | (refine loud_ rfl ?_; refine wpList_plain rfl (fun K hK => ?_); (first | (refine op_box _ _ rfl H (fun b w' H1 => hK _ _ ?_)) | (refine op_alloc _ rfl (zero_of _ _ rfl) H (fun b w' H1 => hK _ _ ?_)) | (refine op_store _ _ _ rfl rfl rfl H (by repeat (first | exact Split.here _ _ | apply Split.there)) (by kernel_rfl) (by kernel_rfl) (by kernel_rfl) (fun w' H1 => hK _ _ ?_)) | (refine op_buildSlice_all _ _ _ rfl (by first | exact elem22 | exact elem39 | exact elem76 | exact elem154) (by kernel_rfl) (by kernel_rfl) (by kernel_rfl) H (fun b w' H1 => hK _ _ ?_))); clear hK K; replace H := H1; clear H1)); (try clear hc); (try simp only [nrm, splice, Value.cells, Nat.reduceAdd, Act.eval, Act.put] at H); have hc := H.cells; simp only [CellsOf, KnCells, knc, Nat.reduceAdd] at hc))
  (try simp only [Act.put, slt])
  refine wp_region_plan (.q [0, 1] (.e 2 (.e 3 (.e 4 .done)))) [3, 4] (by kernel_rfl) (by kernel_rfl) (fun _ _ d _ _ h => by cases d <;> exact h) H ?_
  clear H
  (try clear hc)
  intro X nX fX wd hcf hS H
  simp only [CellsOf, KnCells, knc, Nat.reduceAdd] at hcf
  have hc := H.cells
  simp only [CellsOf, KnCells, knc, Nat.reduceAdd] at hc
  iterate 2 (refine plan_q (o := ⟨_, _, _, _, _, _⟩) rfl (fun N hN => ?_); go_big_quiet_step (fail); refine wpQuiet_nil (hN _ ?_); clear hN N)
  refine plan_q0 ?_
  refine plan_e (o := ⟨_, _, _, _, _, _⟩) rfl rfl (fun K hK => ?_)
  (first | (go_step; refine Calls.mono (hR.out.d1 _ _ _ (st_genv' (row_arr' (H.get (by repeat (first | exact Split.here _ _ | apply Split.there)))) (H.get (k := .rep [0, 1] GEnv) (by repeat (first | exact Split.here _ _ | apply Split.there))))) ?_; rintro e w' ⟨rfl, H'⟩; replace H := H.of_ext H'; clear H') | (go_step; refine Calls.mono (hR.out.vo2 _ _ _) ?_; rintro e w' ⟨rfl, H'⟩; replace H := H.of_ext H'; clear H') | (refine op_box _ _ rfl H (fun b w' H1 => ?_); replace H := H1; clear H1) | (refine op_alloc _ rfl (zero_of _ _ rfl) H (fun b w' H1 => ?_); replace H := H1; clear H1) | (refine op_store _ _ _ rfl rfl rfl H (by repeat (first | exact Split.here _ _ | apply Split.there)) (by kernel_rfl) (by kernel_rfl) (by kernel_rfl) (fun w' H1 => ?_); replace H := H1; clear H1) | (refine op_buildSlice_all _ _ _ rfl (by first | exact elem22 | exact elem39 | exact elem76 | exact elem154) (by kernel_rfl) (by kernel_rfl) (by kernel_rfl) H (fun b w' H1 => ?_); replace H := H1; clear H1)); (try clear hc); (try simp only [nrm, splice, Value.cells, Nat.reduceAdd, Act.eval, Act.put] at H); have hc := H.cells; simp only [CellsOf, KnCells, knc, Nat.reduceAdd] at hc; refine hK _ _ (fun _ _ => hS _ (H.sublist (by repeat (first | exact List.Sublist.refl _ | apply List.Sublist.cons))).all) ?_; clear hK K; (try simp only [Act.put, slt])
  refine plan_e (o := ⟨_, _, _, _, _, _⟩) rfl rfl (fun K hK => ?_)
  (first | (go_step; refine Calls.mono (hR.out.d1 _ _ _ (st_genv' (row_arr' (H.get (by repeat (first | exact Split.here _ _ | apply Split.there)))) (H.get (k := .rep [0, 1] GEnv) (by repeat (first | exact Split.here _ _ | apply Split.there))))) ?_; rintro e w' ⟨rfl, H'⟩; replace H := H.of_ext H'; clear H') | (go_step; refine Calls.mono (hR.out.vo2 _ _ _) ?_; rintro e w' ⟨rfl, H'⟩; replace H := H.of_ext H'; clear H') | (refine op_box _ _ rfl H (fun b w' H1 => ?_); replace H := H1; clear H1) | (refine op_alloc _ rfl (zero_of _ _ rfl) H (fun b w' H1 => ?_); replace H := H1; clear H1) | (refine op_store _ _ _ rfl rfl rfl H (by repeat (first | exact Split.here _ _ | apply Split.there)) (by kernel_rfl) (by kernel_rfl) (by kernel_rfl) (fun w' H1 => ?_); replace H := H1; clear H1) | (refine op_buildSlice_all _ _ _ rfl (by first | exact elem22 | exact elem39 | exact elem76 | exact elem154) (by kernel_rfl) (by kernel_rfl) (by kernel_rfl) H (fun b w' H1 => ?_); replace H := H1; clear H1)); (try clear hc); (try simp only [nrm, splice, Value.cells, Nat.reduceAdd, Act.eval, Act.put] at H); have hc := H.cells; simp only [CellsOf, KnCells, knc, Nat.reduceAdd] at hc; refine hK _ _ (fun h => (h (by decide)).elim) ?_; clear hK K; (try simp only [Act.put, slt])
  refine plan_e (o := ⟨_, _, _, _, _, _⟩) rfl rfl (fun K hK => ?_)
  (first | (go_step; refine Calls.mono (hR.out.d1 _ _ _ (st_genv' (row_arr' (H.get (by repeat (first | exact Split.here _ _ | apply Split.there)))) (H.get (k := .rep [0, 1] GEnv) (by repeat (first | exact Split.here _ _ | apply Split.there))))) ?_; rintro e w' ⟨rfl, H'⟩; replace H := H.of_ext H'; clear H') | (go_step; refine Calls.mono (hR.out.vo2 _ _ _) ?_; rintro e w' ⟨rfl, H'⟩; replace H := H.of_ext H'; clear H') | (refine op_box _ _ rfl H (fun b w' H1 => ?_); replace H := H1; clear H1) | (refine op_alloc _ rfl (zero_of _ _ rfl) H (fun b w' H1 => ?_); replace H := H1; clear H1) | (refine op_store _ _ _ rfl rfl rfl H (by repeat (first | exact Split.here _ _ | apply Split.there)) (by kernel_rfl) (by kernel_rfl) (by kernel_rfl) (fun w' H1 => ?_); replace H := H1; clear H1) | (refine op_buildSlice_all _ _ _ rfl (by first | exact elem22 | exact elem39 | exact elem76 | exact elem154) (by kernel_rfl) (by kernel_rfl) (by kernel_rfl) H (fun b w' H1 => ?_); replace H := H1; clear H1)); (try clear hc); (try simp only [nrm, splice, Value.cells, Nat.reduceAdd, Act.eval, Act.put] at H); have hc := H.cells; simp only [CellsOf, KnCells, knc, Nat.reduceAdd] at hc; refine hK _ _ (fun h => (h (by decide)).elim) ?_; clear hK K; (try simp only [Act.put, slt])
  refine plan_done ?_
  go_upto_region 14 with (first
    | ((first
        | (refine loud_ rfl ?_; refine wpList_plain rfl (fun K hK => ?_); (first | (refine op_box _ _ rfl H (fun b w' H1 => hK _ _ ?_)) | (refine op_alloc _ rfl (zero_of _ _ rfl) H (fun b w' H1 => hK _ _ ?_)) | (refine op_store _ _ _ rfl rfl rfl H (by repeat (first | exact Split.here _ _ | apply Split.there)) (by kernel_rfl) (by kernel_rfl) (by kernel_rfl) (fun w' H1 => hK _ _ ?_)) | (refine op_buildSlice_all _ _ _ rfl (by first | exact elem22 | exact elem39 | exact elem76 | exact elem154) (by kernel_rfl) (by kernel_rfl) (by kernel_rfl) H (fun b w' H1 => hK _ _ ?_))); clear hK K; replace H := H1; clear H1)); (try clear hc); (try simp only [nrm, splice, Value.cells, Nat.reduceAdd, Act.eval, Act.put] at H); have hc := H.cells; simp only [CellsOf, KnCells, knc, Nat.reduceAdd] at hc))
  (try simp only [Act.put, slt])
  refine wp_region_plan (.q [0, 1] (.e 2 (.e 3 (.e 4 .done)))) [3, 4] (by kernel_rfl) (by kernel_rfl) (fun _ _ d _ _ h => by cases d <;> exact h) H ?_
  clear H
  (try clear hc)
  intro X nX fX wd hcf hS H
  simp only [CellsOf, KnCells, knc, Nat.reduceAdd] at hcf
  have hc := H.cells
  simp only [CellsOf, KnCells, knc, Nat.reduceAdd] at hc
  iterate 2 (refine plan_q (o := ⟨_, _, _, _, _, _⟩) rfl (fun N hN => ?_); go_big_quiet_step (fail); refine wpQuiet_nil (hN _ ?_); clear hN N)
  refine plan_q0 ?_
  refine plan_e (o := ⟨_, _, _, _, _, _⟩) rfl rfl (fun K hK => ?_)
  (first | (go_step; refine Calls.mono (hR.out.s1 _ _ _ (st_genv' (row_arr' (H.get (by repeat (first | exact Split.here _ _ | apply Split.there)))) (H.get (k := .rep [0, 1] GEnv) (by repeat (first | exact Split.here _ _ | apply Split.there))))) ?_; rintro e w' ⟨rfl, H'⟩; replace H := H.of_ext H'; clear H') | (go_step; refine Calls.mono (hR.out.vo3 _ _ _) ?_; rintro e w' ⟨rfl, H'⟩; replace H := H.of_ext H'; clear H') | (refine op_box _ _ rfl H (fun b w' H1 => ?_); replace H := H1; clear H1) | (refine op_alloc _ rfl (zero_of _ _ rfl) H (fun b w' H1 => ?_); replace H := H1; clear H1) | (refine op_store _ _ _ rfl rfl rfl H (by repeat (first | exact Split.here _ _ | apply Split.there)) (by kernel_rfl) (by kernel_rfl) (by kernel_rfl) (fun w' H1 => ?_); replace H := H1; clear H1) | (refine op_buildSlice_all _ _ _ rfl (by first | exact elem22 | exact elem39 | exact elem76 | exact elem154) (by kernel_rfl) (by kernel_rfl) (by kernel_rfl) H (fun b w' H1 => ?_); replace H := H1; clear H1)); (try clear hc); (try simp only [nrm, splice, Value.cells, Nat.reduceAdd, Act.eval, Act.put] at H); have hc := H.cells; simp only [CellsOf, KnCells, knc, Nat.reduceAdd] at hc; refine hK _ _ (fun _ _ => hS _ (H.sublist (by repeat (first | exact List.Sublist.refl _ | apply List.Sublist.cons))).all) ?_; clear hK K; (try simp only [Act.put, slt])
  refine plan_e (o := ⟨_, _, _, _, _, _⟩) rfl rfl (fun K hK => ?_)
  (first | (go_step; refine Calls.mono (hR.out.s1 _ _ _ (st_genv' (row_arr' (H.get (by repeat (first | exact Split.here _ _ | apply Split.there)))) (H.get (k := .rep [0, 1] GEnv) (by repeat (first | exact Split.here _ _ | apply Split.there))))) ?_; rintro e w' ⟨rfl, H'⟩; replace H := H.of_ext H'; clear H') | (go_step; refine Calls.mono (hR.out.vo3 _ _ _) ?_; rintro e w' ⟨rfl, H'⟩; replace H := H.of_ext H'; clear H') | (refine op_box _ _ rfl H (fun b w' H1 => ?_); replace H := H1; clear H1) | (refine op_alloc _ rfl (zero_of _ _ rfl) H (fun b w' H1 => ?_); replace H := H1; clear H1) | (refine op_store _ _ _ rfl rfl rfl H (by repeat (first | exact Split.here _ _ | apply Split.there)) (by kernel_rfl) (by kernel_rfl) (by kernel_rfl) (fun w' H1 => ?_); replace H := H1; clear H1) | (refine op_buildSlice_all _ _ _ rfl (by first | exact elem22 | exact elem39 | exact elem76 | exact elem154) (by kernel_rfl) (by kernel_rfl) (by kernel_rfl) H (fun b w' H1 => ?_); replace H := H1; clear H1)); (try clear hc); (try simp only [nrm, splice, Value.cells, Nat.reduceAdd, Act.eval, Act.put] at H); have hc := H.cells; simp only [CellsOf, KnCells, knc, Nat.reduceAdd] at hc; refine hK _ _ (fun h => (h (by decide)).elim) ?_; clear hK K; (try simp only [Act.put, slt])
  refine plan_e (o := ⟨_, _, _, _, _, _⟩) rfl rfl (fun K hK => ?_)
  (first | (go_step; refine Calls.mono (hR.out.s1 _ _ _ (st_genv' (row_arr' (H.get (by repeat (first | exact Split.here _ _ | apply Split.there)))) (H.get (k := .rep [0, 1] GEnv) (by repeat (first | exact Split.here _ _ | apply Split.there))))) ?_; rintro e w' ⟨rfl, H'⟩; replace H := H.of_ext H'; clear H') | (go_step; refine Calls.mono (hR.out.vo3 _ _ _) ?_; rintro e w' ⟨rfl, H'⟩; replace H := H.of_ext H'; clear H') | (refine op_box _ _ rfl H (fun b w' H1 => ?_); replace H := H1; clear H1) | (refine op_alloc _ rfl (zero_of _ _ rfl) H (fun b w' H1 => ?_); replace H := H1; clear H1) | (refine op_store _ _ _ rfl rfl rfl H (by repeat (first | exact Split.here _ _ | apply Split.there)) (by kernel_rfl) (by kernel_rfl) (by kernel_rfl) (fun w' H1 => ?_); replace H := H1; clear H1) | (refine op_buildSlice_all _ _ _ rfl (by first | exact elem22 | exact elem39 | exact elem76 | exact elem154) (by kernel_rfl) (by kernel_rfl) (by kernel_rfl) H (fun b w' H1 => ?_); replace H := H1; clear H1)); (try clear hc); (try simp only [nrm, splice, Value.cells, Nat.reduceAdd, Act.eval, Act.put] at H); have hc := H.cells; simp only [CellsOf, KnCells, knc, Nat.reduceAdd] at hc; refine hK _ _ (fun h => (h (by decide)).elim) ?_; clear hK K; (try simp only [Act.put, slt])
  refine plan_done ?_
  go_upto_region 20 with (first
    | go_skip
    | ((first
        | (go_at_call 18; refine Calls.mono (hR.out.tx _) ?_; rintro e w' ⟨rfl, H'⟩; replace H := H.of_ext H'; clear H')
        | (refine loud_ rfl ?_; refine wpList_plain rfl (fun K hK => ?_); (first | (refine op_make_lit _ _ _ rfl elem39 rfl rfl H (by omega) (by unfold maxLen; omega) (fun lb w' H1 => hK _ _ ?_)) | (refine op_box _ _ rfl H (fun b w' H1 => hK _ _ ?_)) | (refine op_alloc _ rfl (zero_of _ _ rfl) H (fun b w' H1 => hK _ _ ?_)) | (refine op_store _ _ _ rfl rfl rfl H (by repeat (first | exact Split.here _ _ | apply Split.there)) (by kernel_rfl) (by kernel_rfl) (by kernel_rfl) (fun w' H1 => hK _ _ ?_)) | (refine op_buildSlice_all _ _ _ rfl (by first | exact elem22 | exact elem39 | exact elem76 | exact elem154) (by kernel_rfl) (by kernel_rfl) (by kernel_rfl) H (fun b w' H1 => hK _ _ ?_))); clear hK K; replace H := H1; clear H1)); (try clear hc); (try simp only [nrm, splice, Value.cells, Nat.reduceAdd, Act.eval, Act.put] at H); have hc := H.cells; simp only [CellsOf, KnCells, knc, Nat.reduceAdd] at hc))
  obtain ⟨xb, rfl⟩ : ∃ q : Nat, q = b := ⟨_, rfl⟩
  obtain ⟨tob, rfl⟩ : ∃ q : Nat, q = b := ⟨_, rfl⟩
  obtain ⟨vb, rfl⟩ : ∃ q : Nat, q = b := ⟨_, rfl⟩
  have hmk : Hid ((madeCells #[Value.int .i64 0] (n * 1)).toList.length = n) := by
    show _ = _
    simp [size_madeCells]
  generalize (madeCells #[Value.int .i64 0] (n * 1)).toList = xs at H hmk
  have hA0 : AtFill w lb vb mb n cap ta tb ord os (.int .i64 (0 : Nat)) w' := ⟨0, xs, Nat.zero_le _, rfl, hmk, (by show _ = _; simp [nats]), H.sel (by repeat (first | exact Sel.nil _ | (apply Sel.cons; focus (repeat (first | exact Split.here _ _ | apply Split.there)))))⟩
  clear H hc hmk
  (try simp only [Act.put, slt])
  go_loopw [88] (AtFill w lb vb mb n cap ta tb ord os) (fun i _ => n - (intOf i).toNat)
  case atStart => exact hA0
  case round =>
    clear hA0
    obtain ⟨j, xs, hj, rfl, hl, htk, H⟩ := hrel
    by_cases hlt : j < n
    · have hlI : (j : Int) < n := by omega
      have hst := Lib.hid (fill_step hl.out hlt htk.out)
      have hc := H.cells; simp only [CellsOf, KnCells, knc, Nat.reduceAdd] at hc
      repeat' (first | (go_big_may; (first
    | ((first
        | (refine loud_ rfl ?_; refine wpList_plain rfl (fun K hK => ?_); (first | (refine op_storeRow _ _ _ rfl (b := lb) (i := j) rfl rfl H (by repeat (first | exact Split.here _ _ | apply Split.there)) (by kernel_rfl) (one_intV _) (by show j + 1 ≤ n * 1; omega) (fun w' H1 => hK _ _ ?_)) | (refine op_box _ _ rfl H (fun b w' H1 => hK _ _ ?_)) | (refine op_alloc _ rfl (zero_of _ _ rfl) H (fun b w' H1 => hK _ _ ?_)) | (refine op_store _ _ _ rfl rfl rfl H (by repeat (first | exact Split.here _ _ | apply Split.there)) (by kernel_rfl) (by kernel_rfl) (by kernel_rfl) (fun w' H1 => hK _ _ ?_)) | (refine op_buildSlice_all _ _ _ rfl (by first | exact elem22 | exact elem39 | exact elem76 | exact elem154) (by kernel_rfl) (by kernel_rfl) (by kernel_rfl) H (fun b w' H1 => hK _ _ ?_))); clear hK K; replace H := H1; clear H1)); (try clear hc); (try simp only [nrm, splice, Value.cells, Nat.reduceAdd, Act.eval, Act.put] at H); have hc := H.cells; simp only [CellsOf, KnCells, knc, Nat.reduceAdd] at hc))) | go_values | go_skip | go_guarded | go_step | go_upon | go_back | dsimp only)
      exact ⟨⟨j + 1, _, by omega, by go_num, hst.out.1, hst.out.2, H.sel (by repeat (first | exact Sel.nil _ | (apply Sel.cons; focus (repeat (first | exact Split.here _ _ | apply Split.there)))))⟩, by simp [intOf]; omega⟩
    · obtain rfl : j = n := by omega
      have hxs : xs = nats (List.range j) := by rw [← htk.out, List.take_of_length_le (by rw [hl.out]; omega)]
      subst hxs
      have hc := H.cells; simp only [CellsOf, KnCells, knc, Nat.reduceAdd] at hc
      go_upto_region 25 with (first
    | ((first
        | (refine loud_ rfl ?_; refine wpList_plain rfl (fun K hK => ?_); (first | (refine op_box _ _ rfl H (fun b w' H1 => hK _ _ ?_)) | (refine op_alloc _ rfl (zero_of _ _ rfl) H (fun b w' H1 => hK _ _ ?_)) | (refine op_store _ _ _ rfl rfl rfl H (by repeat (first | exact Split.here _ _ | apply Split.there)) (by kernel_rfl) (by kernel_rfl) (by kernel_rfl) (fun w' H1 => hK _ _ ?_)) | (refine op_buildSlice_all _ _ _ rfl (by first | exact elem22 | exact elem39 | exact elem76 | exact elem154) (by kernel_rfl) (by kernel_rfl) (by kernel_rfl) H (fun b w' H1 => hK _ _ ?_))); clear hK K; replace H := H1; clear H1)); (try clear hc); (try simp only [nrm, splice, Value.cells, Nat.reduceAdd, Act.eval, Act.put] at H); have hc := H.cells; simp only [CellsOf, KnCells, knc, Nat.reduceAdd] at hc))
      have hA1 : AtRoll w vb mb j cap ta tb ord os (.slice (some ⟨lb, 0, none⟩) j j) (.int .i64 (0 : Nat)) wr := ⟨0, j, List.range j, some lb, j, Nat.zero_le _, rfl, rfl, by omega, (by show _ = _; simp), ⟨List.nodup_range, fun _ h => List.mem_range.1 h⟩, H.sel (by repeat (first | exact Sel.nil _ | (apply Sel.cons; focus (repeat (first | exact Split.here _ _ | apply Split.there)))))⟩
      clear H hc hl htk
      (try simp only [Act.put, slt])
      go_loopw [11, 97] (fun lv iv wr => AtRoll w vb mb j cap ta tb ord os lv iv wr) (fun _ i _ => j - (intOf i).toNat)
      case atStart => exact hA1
      case round =>
        clear hA1
        obtain ⟨i, q, ls, key, lcap, hi, rfl, rfl, hqi, hq, hls, H⟩ := hrel
        by_cases hij : i < j
        · have hiI : (i : Int) < j := by omega
          cases key with
          | none => exact absurd (H.get (Split.here _ _)).1 (by omega)
          | some lb2 =>
            rw [show sl (some lb2) q lcap = .slice (some ⟨lb2, 0, none⟩) q lcap from rfl]
            obtain ⟨_, _, _, hqc, hcm, _⟩ := H.get (Split.here _ _)
            have hcm' := Lib.hid hcm
            clear hcm
            have hq9 : q ≤ 9 := by omega
            have hq0 : ¬ (q : Int) = 0 := by omega
            have hion : i < os.length := by have := hon.out; omega
            have hioI : (i : Int) < on := by have := hon.out; omega
            obtain ⟨ob, oo', hat⟩ : ∃ blk off, ord = some ⟨blk, off, none⟩ := arr_some (H.get (Split.there _ (Split.there _ (Split.there _ (Split.here _ _))))) (by rw [intsV, List.length_map]; omega)
            subst hat
            have hoe : Hid ((intsV os)[i]? = some (.int .i64 os[i])) := by show _ = _; simp [intsV, hion]
            generalize os[i] = x at hoe
            have H1 := H.elem (Split.there _ (Split.there _ (Split.there _ (Split.here _ _)))) i [.int .i64 x] (by rw [intsV, List.length_map]; show i + 1 ≤ _; omega) (fun t ht => by obtain rfl : t = 0 := (by simpa using ht); exact hoe.out)
            replace H := H1
            clear H1
            have hne : Hid (ls ≠ []) := by
              intro h
              have := hq.out
              rw [h] at this
              simp at this
              omega
            by_cases hx : x < 0
            · have hc := H.cells; simp only [CellsOf, KnCells, knc, Nat.reduceAdd] at hc
              repeat' (first | (go_big_may; (first
    | ((first
        | (refine loud_ rfl ?_; refine wpList_plain rfl (fun K hK => ?_); (first | (refine op_box _ _ rfl H (fun b w' H1 => hK _ _ ?_)) | (refine op_alloc _ rfl (zero_of _ _ rfl) H (fun b w' H1 => hK _ _ ?_)) | (refine op_store _ _ _ rfl rfl rfl H (by repeat (first | exact Split.here _ _ | apply Split.there)) (by kernel_rfl) (by kernel_rfl) (by kernel_rfl) (fun w' H1 => hK _ _ ?_)) | (refine op_buildSlice_all _ _ _ rfl (by first | exact elem22 | exact elem39 | exact elem76 | exact elem154) (by kernel_rfl) (by kernel_rfl) (by kernel_rfl) H (fun b w' H1 => hK _ _ ?_))); clear hK K; replace H := H1; clear H1)); (try clear hc); (try simp only [nrm, splice, Value.cells, Nat.reduceAdd, Act.eval, Act.put] at H); have hc := H.cells; simp only [CellsOf, KnCells, knc, Nat.reduceAdd] at hc))) | go_values | go_skip | go_guarded | go_step | go_upon | go_back | dsimp only)
              go_ret
              exact ⟨rfl, H.ext⟩
            · obtain ⟨xn, rfl⟩ : ∃ xn : Nat, x = xn := ⟨x.toNat, by omega⟩
              obtain ⟨k, hk⟩ : ∃ k, xn % q = k := ⟨_, rfl⟩
              have hkq : k < q := by rw [← hk]; exact Nat.mod_lt _ (by omega)
              have hr1 : (xn : Int) % (q : Int) = (k : Int) := by rw [← hk]; rfl
              have hr2 : Int.tmod (xn : Int) (q : Int) = (k : Int) := by rw [← hk]; rfl
              clear hk
              have hklen : Hid (k < ls.length) := by show _ < _; rw [hq.out]; exact hkq
              obtain ⟨lk, hlk⟩ : ∃ lk, ls[k]'hklen.out = lk := ⟨_, rfl⟩
              have hlkn : lk < j := by rw [← hlk]; exact hls.out.2 _ (List.getElem_mem _)
              have hlk2 : (nats ls)[k]? = some (.int .i64 (lk : Int)) := by
                rw [← hlk]
                simp [nats, hklen.out]
              have hlk' := Lib.hid hlk
              clear hlk
              have hfld : ∀ (w : World), (Instr.field 27 (oo 0 ByteArray.empty ByteArray.empty false false ByteArray.empty) 3).run Tryd.prog w = .ok (.bool false) w := fun w => by kernel_rfl
              have hc := H.cells; simp only [CellsOf, KnCells, knc, Nat.reduceAdd] at hc
              go_upto_region 32 with (first
    | go_skip
    | ((first
        | (go_at_call 22; refine Calls.mono (hR.out.c1 ls hne.out hls.out.2 _ _ _ (st_genv' (row_arr' (H.get (by repeat (first | exact Split.here _ _ | apply Split.there)))) (H.get (k := .rep [0, 1] GEnv) (by repeat (first | exact Split.here _ _ | apply Split.there))))) ?_; rintro e w' ⟨rfl, H'⟩; replace H := H.of_ext H'; clear H')
        | (refine loud_ rfl ?_; refine wpList_plain rfl (fun K hK => ?_); (first | (refine op_box _ _ rfl H (fun b w' H1 => hK _ _ ?_)) | (refine op_alloc _ rfl (zero_of _ _ rfl) H (fun b w' H1 => hK _ _ ?_)) | (refine op_store _ _ _ rfl rfl rfl H (by repeat (first | exact Split.here _ _ | apply Split.there)) (by kernel_rfl) (by kernel_rfl) (by kernel_rfl) (fun w' H1 => hK _ _ ?_)) | (refine op_buildSlice_all _ _ _ rfl (by first | exact elem22 | exact elem39 | exact elem76 | exact elem154) (by kernel_rfl) (by kernel_rfl) (by kernel_rfl) H (fun b w' H1 => hK _ _ ?_))); clear hK K; replace H := H1; clear H1)); (try clear hc); (try simp only [nrm, splice, Value.cells, Nat.reduceAdd, Act.eval, Act.put] at H); have hc := H.cells; simp only [CellsOf, KnCells, knc, Nat.reduceAdd] at hc))
              (try simp only [Act.put, slt])
              refine wp_region_plan (.p [0] (.q [1] (.p [2, 3, 4] (.q [5] (.p [6, 7] (.e 8 .done)))))) [8] (by kernel_rfl) (by kernel_rfl) (fun _ _ d _ _ h => by cases d <;> exact h) H ?_
              clear H
              (try clear hc)
              intro X nX fX wd hcf hS H
              simp only [CellsOf, KnCells, knc, Nat.reduceAdd] at hcf
              have hc := H.cells
              simp only [CellsOf, KnCells, knc, Nat.reduceAdd] at hc
              iterate 1 (refine plan_p (o := ⟨_, _, _, _, _, _⟩) rfl (fun N hN => ?_); go_big_quiet_step (fail); refine wpQuiet_nil (hN _ ?_); clear hN N)
              refine plan_p0 ?_
              iterate 1 (refine plan_q (o := ⟨_, _, _, _, _, _⟩) rfl (fun N hN => ?_); go_big_quiet_step (fail); refine wpQuiet_nil (hN _ ?_); clear hN N)
              refine plan_q0 ?_
              iterate 3 (refine plan_p (o := ⟨_, _, _, _, _, _⟩) rfl (fun N hN => ?_); go_big_quiet_step (fail); refine wpQuiet_nil (hN _ ?_); clear hN N)
              refine plan_p0 ?_
              iterate 1 (refine plan_q (o := ⟨_, _, _, _, _, _⟩) rfl (fun N hN => ?_); go_big_quiet_step (fail); refine wpQuiet_nil (hN _ ?_); clear hN N)
              refine plan_q0 ?_
              iterate 2 (refine plan_p (o := ⟨_, _, _, _, _, _⟩) rfl (fun N hN => ?_); go_big_quiet_step (fail); refine wpQuiet_nil (hN _ ?_); clear hN N)
              refine plan_p0 ?_
              refine plan_e (o := ⟨_, _, _, _, _, _⟩) rfl rfl (fun K hK => ?_)
              (first | (refine op_storeRow _ _ _ rfl (b := mb) (i := lk) rfl rfl H (by repeat (first | exact Split.here _ _ | apply Split.there)) (by kernel_rfl) (one_strV _) (by show lk + 1 ≤ j * 1; omega) (fun w' H1 => ?_); replace H := H1; clear H1) | (refine op_box _ _ rfl H (fun b w' H1 => ?_); replace H := H1; clear H1) | (refine op_alloc _ rfl (zero_of _ _ rfl) H (fun b w' H1 => ?_); replace H := H1; clear H1) | (refine op_store _ _ _ rfl rfl rfl H (by repeat (first | exact Split.here _ _ | apply Split.there)) (by kernel_rfl) (by kernel_rfl) (by kernel_rfl) (fun w' H1 => ?_); replace H := H1; clear H1) | (refine op_buildSlice_all _ _ _ rfl (by first | exact elem22 | exact elem39 | exact elem76 | exact elem154) (by kernel_rfl) (by kernel_rfl) (by kernel_rfl) H (fun b w' H1 => ?_); replace H := H1; clear H1)); (try clear hc); (try simp only [nrm, splice, Value.cells, Nat.reduceAdd, Act.eval, Act.put] at H); have hc := H.cells; simp only [CellsOf, KnCells, knc, Nat.reduceAdd] at hc; refine hK _ _ (fun h => (h (by decide)).elim) ?_; clear hK K; (try simp only [Act.put, slt])
              refine plan_done ?_
              go_upto_region 33 with (first
    | ((first
        | (refine loud_ rfl ?_; refine wpList_plain rfl (fun K hK => ?_); (first | (refine op_box _ _ rfl H (fun b w' H1 => hK _ _ ?_)) | (refine op_alloc _ rfl (zero_of _ _ rfl) H (fun b w' H1 => hK _ _ ?_)) | (refine op_store _ _ _ rfl rfl rfl H (by repeat (first | exact Split.here _ _ | apply Split.there)) (by kernel_rfl) (by kernel_rfl) (by kernel_rfl) (fun w' H1 => hK _ _ ?_)) | (refine op_buildSlice_all _ _ _ rfl (by first | exact elem22 | exact elem39 | exact elem76 | exact elem154) (by kernel_rfl) (by kernel_rfl) (by kernel_rfl) H (fun b w' H1 => hK _ _ ?_))); clear hK K; replace H := H1; clear H1)); (try clear hc); (try simp only [nrm, splice, Value.cells, Nat.reduceAdd, Act.eval, Act.put] at H); have hc := H.cells; simp only [CellsOf, KnCells, knc, Nat.reduceAdd] at hc))
              have H2 := H
              rw [strs_roll hls.out.1 hklen.out hlk'.out hlkn] at H2
              replace H : St [] w _ (rollL (some lb2) q lcap (nats ls) vb mb j cap tb (rollT j (ls.take k ++ ls.drop (k + 1)) ta tb) (some ⟨ob, oo', none⟩) os) := H2.sel (by repeat (first | exact Sel.nil _ | (apply Sel.cons; focus (repeat (first | exact Split.here _ _ | apply Split.there)))))
              clear H2 hc
              have hkc : k ≤ lcap := by omega
              have hkcI : (k : Int) ≤ lcap := by omega
              have hk1q : k + 1 ≤ q := by omega
              have hk1I : (k : Int) + 1 ≤ q := by omega
              have hqcI : (q : Int) ≤ lcap := by omega
              (try simp only [Act.put, slt])
              refine wp_region_plan (.p [0, 1, 2, 3, 4, 5, 6] (.e 7 (.p [8] .done))) [7] (by kernel_rfl) (by kernel_rfl) (fun _ _ d _ _ h => by cases d <;> exact h) H ?_
              clear H
              (try clear hc)
              intro X nX fX wd hcf hS H
              simp only [CellsOf, KnCells, knc, Nat.reduceAdd] at hcf
              have hc := H.cells
              simp only [CellsOf, KnCells, knc, Nat.reduceAdd] at hc
              iterate 7 (refine plan_p (o := ⟨_, _, _, _, _, _⟩) rfl (fun N hN => ?_); go_big_quiet_step (fail); refine wpQuiet_nil (hN _ ?_); clear hN N)
              refine plan_p0 ?_
              refine plan_e (o := ⟨_, _, _, _, _, _⟩) rfl rfl (fun K hK => ?_)
              (first | (refine op_append_lies _ _ _ rfl elem39 (key := some lb2) (n := k) rfl rfl (st_short H (Split.here _ _) k (by omega)) (Split.here _ _) (lies_tail (H.get (Split.here _ _)) hq.out hkq) (by rw [nats_len, List.length_drop, hq.out]; omega) ite_some (one_nats _) (by omega) (by unfold maxLen; omega) (fun key4 cap4 w' H1 => ?_); replace H := H1; clear H1) | (refine op_box _ _ rfl H (fun b w' H1 => ?_); replace H := H1; clear H1) | (refine op_alloc _ rfl (zero_of _ _ rfl) H (fun b w' H1 => ?_); replace H := H1; clear H1) | (refine op_store _ _ _ rfl rfl rfl H (by repeat (first | exact Split.here _ _ | apply Split.there)) (by kernel_rfl) (by kernel_rfl) (by kernel_rfl) (fun w' H1 => ?_); replace H := H1; clear H1) | (refine op_buildSlice_all _ _ _ rfl (by first | exact elem22 | exact elem39 | exact elem76 | exact elem154) (by kernel_rfl) (by kernel_rfl) (by kernel_rfl) H (fun b w' H1 => ?_); replace H := H1; clear H1)); (try clear hc); (try simp only [nrm, splice, Value.cells, Nat.reduceAdd, Act.eval, Act.put] at H); have hc := H.cells; simp only [CellsOf, KnCells, knc, Nat.reduceAdd] at hc; refine hK _ _ (fun h => (h (by decide)).elim) ?_; clear hK K; (try simp only [Act.put, slt])
              iterate 1 (refine plan_p (o := ⟨_, _, _, _, _, _⟩) rfl (fun N hN => ?_); go_big_quiet_step (fail); refine wpQuiet_nil (hN _ ?_); clear hN N)
              refine plan_p0 ?_
              refine plan_done ?_
              have hrow : List.take (k * 1) (nats ls) ++ nats (List.drop (k + 1) ls) = nats (ls.take k ++ ls.drop (k + 1)) := by rw [Nat.mul_one, nats_take, nats_app]
              rw [hrow] at H
              have hls2 : Hid ((ls.take k ++ ls.drop (k + 1)).Nodup ∧ ∀ t ∈ ls.take k ++ ls.drop (k + 1), t < j) := ⟨erase_nodup hls.out.1 k, fun t ht => hls.out.2 t ((erase_mem hls.out.1 hklen.out t).1 ht).1⟩
              have hq2 : Hid ((ls.take k ++ ls.drop (k + 1)).length = k + (q - (k + 1))) := by
                show _ = _
                rw [List.length_append, List.length_take, List.length_drop, hq.out]
                omega
              have hqn : k + (q - (k + 1)) + (i + 1) = j := by omega
              clear hrow hls hq hklen hlk' hlk2 hr1 hr2 hkc hkcI hk1q hk1I hqcI hcm' hqc hne hq9 hq0 hlkn hkq
              generalize ls.take k ++ ls.drop (k + 1) = ls2 at H hls2 hq2
              generalize k + (q - (k + 1)) = q2 at H hq2 hqn ⊢
              (try clear hc)
              have hc := H.cells; simp only [CellsOf, KnCells, knc, Nat.reduceAdd] at hc
              repeat' (first | (go_big_may; (first
    | go_skip
    | ((first
        | (go_at_call 11; refine Calls.mono (hR.out.d2 ls2 _ _ _ (st_genv' (row_arr' (H.get (by repeat (first | exact Split.here _ _ | apply Split.there)))) (H.get (k := .rep [0, 1] GEnv) (by repeat (first | exact Split.here _ _ | apply Split.there))))) ?_; rintro e w' ⟨rfl, H'⟩; replace H := H.of_ext H'; clear H')
        | (go_at_call 25; refine Calls.mono (hR.out.s2 ls2 _ _ _ (st_genv' (row_arr' (H.get (by repeat (first | exact Split.here _ _ | apply Split.there)))) (H.get (k := .rep [0, 1] GEnv) (by repeat (first | exact Split.here _ _ | apply Split.there))))) ?_; rintro e w' ⟨rfl, H'⟩; replace H := H.of_ext H'; clear H')
        | (refine loud_ rfl ?_; refine wpList_plain rfl (fun K hK => ?_); (first | (refine op_box _ _ rfl H (fun b w' H1 => hK _ _ ?_)) | (refine op_alloc _ rfl (zero_of _ _ rfl) H (fun b w' H1 => hK _ _ ?_)) | (refine op_store _ _ _ rfl rfl rfl H (by repeat (first | exact Split.here _ _ | apply Split.there)) (by kernel_rfl) (by kernel_rfl) (by kernel_rfl) (fun w' H1 => hK _ _ ?_)) | (refine op_buildSlice_all _ _ _ rfl (by first | exact elem22 | exact elem39 | exact elem76 | exact elem154) (by kernel_rfl) (by kernel_rfl) (by kernel_rfl) H (fun b w' H1 => hK _ _ ?_))); clear hK K; replace H := H1; clear H1)); (try clear hc); (try simp only [nrm, splice, Value.cells, Nat.reduceAdd, Act.eval, Act.put] at H); have hc := H.cells; simp only [CellsOf, KnCells, knc, Nat.reduceAdd] at hc))) | go_values | go_skip | go_guarded | go_step | go_upon | go_back | dsimp only)
              exact ⟨⟨i + 1, q2, ls2, key4, cap4, by omega, by go_num, rfl, by omega, hq2, hls2, H.sel (by repeat (first | exact Sel.nil _ | (apply Sel.cons; focus (repeat (first | exact Split.here _ _ | apply Split.there)))))⟩, by simp [intOf]; omega⟩
        · have hq00 : q = 0 := by omega
          subst hq00
          have hl0 : ls = [] := List.eq_nil_of_length_eq_zero hq.out
          subst hl0
          have hij2 : i = j := by omega
          subst hij2
          clear hls hq hqi
          have hfld : ∀ (w : World), (Instr.field 27 (oo 0 ByteArray.empty ByteArray.empty true false ByteArray.empty) 3).run Tryd.prog w = .ok (.bool true) w := fun w => by kernel_rfl
          have hc := H.cells; simp only [CellsOf, KnCells, knc, Nat.reduceAdd] at hc
          repeat' (first | (go_big_may; (first
    | go_skip
    | ((first
        | (go_at_call 22; refine Calls.mono (hR.out.c2 _ _ _ (st_genv' (row_arr' (H.get (by repeat (first | exact Split.here _ _ | apply Split.there)))) (H.get (k := .rep [0, 1] GEnv) (by repeat (first | exact Split.here _ _ | apply Split.there))))) ?_; rintro e w' ⟨rfl, H'⟩; replace H := H.of_ext H'; clear H')
        | (go_at_call 24; refine Calls.mono (hR.out.vo4 _ _ _) ?_; rintro e w' ⟨rfl, H'⟩; replace H := H.of_ext H'; clear H')
        | (go_at_call 11; refine Calls.mono (hR.out.d3 _ _ _ (st_genv' (row_arr' (H.get (by repeat (first | exact Split.here _ _ | apply Split.there)))) (H.get (k := .rep [0, 1] GEnv) (by repeat (first | exact Split.here _ _ | apply Split.there))))) ?_; rintro e w' ⟨rfl, H'⟩; replace H := H.of_ext H'; clear H')
        | (go_at_call 13; refine Calls.mono (awake_calls _ (st_g (H.get (k := .rep [0, 1] GEnv) (by repeat (first | exact Split.here _ _ | apply Split.there))))) ?_; rintro e w' ⟨rfl, H'⟩; replace H := H.of_ext H'; clear H')
        | (refine loud_ rfl ?_; refine wpList_plain rfl (fun K hK => ?_); (first | (refine op_box _ _ rfl H (fun b w' H1 => hK _ _ ?_)) | (refine op_alloc _ rfl (zero_of _ _ rfl) H (fun b w' H1 => hK _ _ ?_)) | (refine op_store _ _ _ rfl rfl rfl H (by repeat (first | exact Split.here _ _ | apply Split.there)) (by kernel_rfl) (by kernel_rfl) (by kernel_rfl) (fun w' H1 => hK _ _ ?_)) | (refine op_buildSlice_all _ _ _ rfl (by first | exact elem22 | exact elem39 | exact elem76 | exact elem154) (by kernel_rfl) (by kernel_rfl) (by kernel_rfl) H (fun b w' H1 => hK _ _ ?_))); clear hK K; replace H := H1; clear H1)); (try clear hc); (try simp only [nrm, splice, Value.cells, Nat.reduceAdd, Act.eval, Act.put] at H); have hc := H.cells; simp only [CellsOf, KnCells, knc, Nat.reduceAdd] at hc))) | go_values | go_skip | go_guarded | go_step | go_upon | go_back | dsimp only)
          go_ret
          exact ⟨rfl, H.ext⟩
end Go.Proofs.YtdcijhdjddiboaaDoor
