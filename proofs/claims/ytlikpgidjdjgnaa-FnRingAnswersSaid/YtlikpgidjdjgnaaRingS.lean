import Derived.Test.YtlikpgidjdjgnaaRingE
-- MORE
namespace Go.Proofs.Ytlikpgidjdjgnaa
set_option linter.unusedVariables false
set_option linter.unusedSimpArgs false
set_option linter.unnecessarySimpa false
open Go.RowKit Go.V

/-- An operation of a ring, as it came in. -/
structure ROp where
  kind : Int
  at' : Option Addr
  cap : Nat
  vals : List Int
def ROp.cells (o : ROp) : List Value := [.int .i64 o.kind, .slice o.at' o.vals.length o.cap]
/-- An answer, in memory. -/
structure RA where
  key : Option Nat
  m : Nat
  cap : Nat
  ok : Bool
  n : Int
  l : List Int
def RA.cells (a : RA) : List Value := [.bool a.ok, .int .i64 a.n, sl a.key a.m a.cap]
def RA.tell (a : RA) : Bool × Int × List Int := (a.ok, a.n, a.l)
def RAAt (a : RA) (w : World) : Prop := a.m = a.l.length ∧ holds w (.row a.key 3 1 a.m a.cap (ints a.l))
def RAsAt (rs : List RA) (fp : List Nat) (w : World) : Prop := fp = rs.flatMap (·.key.toList) ∧ ∀ a ∈ rs, RAAt a w
theorem RAAt.local (a : RA) : Local a.key.toList (RAAt a) := by
  rintro w w' hs ⟨h1, h2⟩
  refine ⟨h1, ?_⟩
  cases hkey : a.key with
  | none => rw [hkey] at h2; exact h2
  | some kb =>
    rw [hkey] at h2 hs
    obtain ⟨cur, hg, h6⟩ := h2
    exact ⟨cur, (hs kb (by simp)).trans hg, h6⟩
theorem RAsAt.local (rs : List RA) (fp : List Nat) : Local fp (RAsAt rs fp) := by
  rintro w w' hs ⟨rfl, h⟩
  exact ⟨rfl, fun f hf => RAAt.local f w w' (fun b hb => hs b (List.mem_flatMap.2 ⟨f, hf, hb⟩)) (h f hf)⟩
theorem RAsAt.nil (w : World) : RAsAt [] [] w := ⟨rfl, by simp⟩
theorem RAsAt.snoc {rs : List RA} {fp : List Nat} {a : RA} {w : World} (h : RAsAt rs fp w) (ha : RAAt a w) : RAsAt (rs ++ [a]) (fp ++ a.key.toList) w := by
  obtain ⟨rfl, h⟩ := h
  refine ⟨by simp, ?_⟩
  intro g hg
  rcases List.mem_append.1 hg with hg | hg
  · exact h g hg
  · simp only [List.mem_singleton] at hg
    subst hg
    exact ha

theorem wr2_len {N c : Nat} {data p : List Int} (hd : data.length = N) (hc : c < N) (hp : p.length ≤ N) : (wr2 N c data p).length = N := by
  unfold wr2 wr1
  simp
  omega
theorem FR.next_ok {r : FR} (h : r.Ok) (kind : Int) (v : List Int) (ht : r.t + v.length ≤ 1000000000000) : (r.next kind v).Ok ∧ (r.next kind v).t ≤ r.t + v.length := by
  unfold FR.next
  split
  · refine ⟨⟨h.pos, h.small, Nat.mod_lt _ h.pos, wr2_len h.len h.cur (by simp; omega), ht⟩, Nat.le_refl _⟩
  · split
    · exact ⟨⟨h.pos, h.small, h.pos, h.len, by simp [FR.reset]⟩, by simp [FR.reset]⟩
    · exact ⟨h, by omega⟩
/-- All operations. -/
def FR.runs (r : FR) : List ROp → FR
  | [] => r
  | o :: l => (r.next o.kind o.vals).runs l
def FR.tells (r : FR) : List ROp → List (Bool × Int × List Int)
  | [] => []
  | o :: l => r.ans o.kind o.vals :: (r.next o.kind o.vals).tells l
theorem FR.runs_snoc (r : FR) (l : List ROp) (o : ROp) : r.runs (l ++ [o]) = (r.runs l).next o.kind o.vals := by
  induction l generalizing r with
  | nil => rfl
  | cons x l ih => exact ih _
theorem FR.tells_snoc (r : FR) (l : List ROp) (o : ROp) : r.tells (l ++ [o]) = r.tells l ++ [(r.runs l).ans o.kind o.vals] := by
  induction l generalizing r with
  | nil => rfl
  | cons x l ih =>
    show r.ans x.kind x.vals :: (r.next x.kind x.vals).tells (l ++ [o]) = _
    rw [ih]
    rfl
theorem FR.runs_ok {r : FR} (h : r.Ok) (l : List ROp) (hl : ∀ o ∈ l, o.vals.length ≤ 1000000) (hn : l.length ≤ 1000) (ht : r.t ≤ 1000000) : (r.runs l).Ok ∧ (r.runs l).t ≤ r.t + l.length * 1000000 := by
  have : ∀ (l : List ROp) (r : FR), r.Ok → (∀ o ∈ l, o.vals.length ≤ 1000000) → r.t + l.length * 1000000 ≤ 1000000000000 → (r.runs l).Ok ∧ (r.runs l).t ≤ r.t + l.length * 1000000 := by
    intro l
    induction l with
    | nil => intro r h _ _; exact ⟨h, by simp [FR.runs]⟩
    | cons o l ih =>
      intro r h hl hb
      simp only [List.length_cons, Nat.add_mul] at hb
      have ho := hl o (by simp)
      obtain ⟨h1, h2⟩ := r.next_ok h o.kind o.vals (by omega)
      obtain ⟨h3, h4⟩ := ih _ h1 (fun x hx => hl x (by simp [hx])) (by omega)
      refine ⟨h3, ?_⟩
      show ((r.next o.kind o.vals).runs l).t ≤ _
      simp only [List.length_cons, Nat.add_mul]
      omega
  exact this l r h hl (by omega)

theorem fixed_any (r : FR) (hr : r.Ok) (br kb : Nat) (hb : br ≠ kb) (kind : Int) (src : Option Addr) (n cap : Nat) (v : List Int) (S : List Nat) (w : World) (hn : Hid (v.length = n)) (hv : n ≤ 1000000) (hs : src = none → n = 0)
    (H : St S w w [(true, .is br (rf kb r.N r.c r.t)), (true, .row (some kb) 3 1 r.N r.N (ints r.data)), (false, soft src (ints v))]) :
    Calls Try.prog 14 #[.pointer (some ⟨br, 0, none⟩), .agg #[.int .i64 kind, .slice src n cap]] w fun e w' => ∃ key m cap', Hid (m = (r.ans kind v).2.2.length) ∧ e = .returned (.agg #[.bool (r.ans kind v).1, .int .i64 (r.ans kind v).2.1, sl key m cap']) ∧
      St S w w' ((true, .row key 3 1 m cap' (ints (r.ans kind v).2.2)) :: (r.next kind v).ents br kb) := by
  have H2 : St S w w [(true, .is br (rf kb r.N r.c r.t)), (true, .row (some kb) 3 1 r.N r.N (ints r.data))] := H.sublist (.cons_cons _ (.cons_cons _ (.cons _ (.refl _))))
  by_cases k1 : kind = 1
  · subst k1
    exact fixed_write r hr br kb src n cap v S w hn hv hs H
  by_cases k5 : kind = 5
  · subst k5
    exact fixed_slice r hr br kb src n cap v S w hb H2
  · exact fixed_rest r hr br kb kind k1 k5 src n cap v S w H2
theorem within_calls (n lo hi : Int) (w : World) (hlo : lo ≤ hi) (h1 : lo ≤ n) (h2 : n ≤ hi) : Calls Try.prog 12 #[.int .i64 n, .int .i64 lo, .int .i64 hi] w fun e w' => e = .returned (.int .i64 n) ∧ Ext [] w w' := by
  have H := St.init [] w
  have e1 : min n hi = n := by omega
  have e2 : max lo n = n := by omega
  go_enter Try.func12, Try.ntmps12
  go_wp2_with (first
    | (refine loud_ rfl ?_; refine wpList_plain rfl (fun K hK => ?_); first
      | (refine op_box _ _ rfl H (fun b w' H1 => hK _ _ ?_); clear hK K; replace H := H1; clear H1; (try clear hc); (try simp only [nrm, splice, Value.cells, Nat.reduceAdd, Act.eval, Act.put] at H); have hc := H.cells; simp only [CellsOf, KnCells, arr_lit, knAt_cons, knAt_nil, Nat.zero_add, Nat.add_zero, Nat.reduceAdd] at hc)
      | (refine op_alloc _ rfl (zero_of _ _ rfl) H (fun b w' H1 => hK _ _ ?_); clear hK K; replace H := H1; clear H1; (try clear hc); (try simp only [nrm, splice, Value.cells, Nat.reduceAdd, Act.eval, Act.put] at H); have hc := H.cells; simp only [CellsOf, KnCells, arr_lit, knAt_cons, knAt_nil, Nat.zero_add, Nat.add_zero, Nat.reduceAdd] at hc)
      | (refine op_store _ _ _ rfl rfl rfl H (by repeat (first | exact Split.here _ _ | apply Split.there)) (by kernel_rfl) (by kernel_rfl) (by kernel_rfl) (fun w' H1 => hK _ _ ?_); clear hK K; replace H := H1; clear H1; (try clear hc); (try simp only [nrm, splice, Value.cells, Nat.reduceAdd, Act.eval, Act.put] at H); have hc := H.cells; simp only [CellsOf, KnCells, arr_lit, knAt_cons, knAt_nil, Nat.zero_add, Nat.add_zero, Nat.reduceAdd] at hc)
      | (refine op_buildSlice_all _ _ _ rfl (by first | exact elem22 | exact elem25 | exact elem26 | exact elem29) (by kernel_rfl) (by kernel_rfl) (by kernel_rfl) H (fun b w' H1 => hK _ _ ?_); clear hK K; replace H := H1; clear H1; (try clear hc); (try simp only [nrm, splice, Value.cells, Nat.reduceAdd, Act.eval, Act.put] at H); have hc := H.cells; simp only [CellsOf, KnCells, arr_lit, knAt_cons, knAt_nil, Nat.zero_add, Nat.add_zero, Nat.reduceAdd] at hc)))
  all_goals
    go_ret
    refine ⟨?_, H.ext⟩
    first
      | rfl
      | (obtain rfl : n = lo := by omega
         rfl)
theorem rop_len (l : List ROp) : (l.flatMap ROp.cells).length = l.length * 2 := by
  induction l with
  | nil => rfl
  | cons a l ih => rw [List.flatMap_cons, List.length_append, ih, List.length_cons]; show 2 + _ = _; omega

set_option maxRecDepth 4000 in
set_option maxHeartbeats 4000000 in
theorem ring2_calls (r0 : FR) (places : Nat) (normal : Int) (hr00 : Hid (r0 = ⟨places, 0, 0, List.replicate places 0⟩)) (h0 : 0 < places) (hp : places ≤ 65536) (hnm : 0 ≤ normal ∧ normal ≤ 65536) (ops : List ROp) (ab ao cap : Nat) (w : World) (hl : ops.length ≤ 1000) (hv : ∀ o ∈ ops, o.vals.length ≤ 1000000) (hs : ∀ o ∈ ops, Lies w o.at' (ints o.vals) ∧ (o.at' = none → o.vals.length = 0))
    (H : St [] w w [(false, .arr (some ⟨ab, ao, none⟩) (ops.flatMap ROp.cells))]) :
    Calls Try.prog 7 #[.int .i64 2, .int .i64 places, .int .i64 normal, .slice (some ⟨ab, ao, none⟩) ops.length cap] w fun e w' => ∃ key cap' rs fp, Hid (rs.map RA.tell = r0.tells ops) ∧ e = .returned (.tuple #[sl key ops.length cap', .bool true]) ∧
      St [] w w' [(true, .row key 34 3 ops.length cap' (rs.flatMap RA.cells)), (true, .rep fp (RAsAt rs fp))] := by
  have hv' := Lib.hid hv
  have hs' := Lib.hid hs
  clear hv hs
  obtain ⟨k, hk⟩ : ∃ k, ops.length = k := ⟨_, rfl⟩
  rw [hk] at hl ⊢
  have hk' := Lib.hid hk
  clear hk
  have hmin : min (places : Int) 65536 = places := by omega
  go_enter Try.func7, Try.ntmps7
  go_wp2_with (first
    | (go_at_call 12; refine Calls.mono (within_calls _ 0 65536 _ (by omega) hnm.1 hnm.2) ?_; rintro e w' ⟨rfl, H'⟩; replace H := H.of_ext H'; clear H'; (try clear hc); (try simp only [nrm, splice, Value.cells, Nat.reduceAdd, Act.eval, Act.put] at H); have hc := H.cells; simp only [CellsOf, KnCells, arr_lit, knAt_cons, knAt_nil, Nat.zero_add, Nat.add_zero, Nat.reduceAdd] at hc)
    | (go_at_call 13; refine Calls.mono (newFixed_calls _ _ h0 hp) ?_; rintro e w' ⟨br, kb, rfl, H'⟩; replace H := H.merge (by first | exact Strikes.nil _ | (repeat (first | exact Strikes.nil _ | (apply Strikes.cons; focus (repeat (first | exact Split.here _ _ | apply Split.there)))))) H' rfl; clear H'; (try clear hc); (try simp only [nrm, splice, Value.cells, Nat.reduceAdd, Act.eval, Act.put] at H); have hc := H.cells; simp only [CellsOf, KnCells, arr_lit, knAt_cons, knAt_nil, Nat.zero_add, Nat.add_zero, Nat.reduceAdd] at hc)
    | (refine loud_ rfl ?_; refine wpList_plain rfl (fun K hK => ?_); first
      | (refine op_box _ _ rfl H (fun b w' H1 => hK _ _ ?_); clear hK K; replace H := H1; clear H1; (try clear hc); (try simp only [nrm, splice, Value.cells, Nat.reduceAdd, Act.eval, Act.put] at H); have hc := H.cells; simp only [CellsOf, KnCells, arr_lit, knAt_cons, knAt_nil, Nat.zero_add, Nat.add_zero, Nat.reduceAdd] at hc)
      | (refine op_alloc _ rfl (zero_of _ _ rfl) H (fun b w' H1 => hK _ _ ?_); clear hK K; replace H := H1; clear H1; (try clear hc); (try simp only [nrm, splice, Value.cells, Nat.reduceAdd, Act.eval, Act.put] at H); have hc := H.cells; simp only [CellsOf, KnCells, arr_lit, knAt_cons, knAt_nil, Nat.zero_add, Nat.add_zero, Nat.reduceAdd] at hc)
      | (refine op_store _ _ _ rfl rfl rfl H (by repeat (first | exact Split.here _ _ | apply Split.there)) (by kernel_rfl) (by kernel_rfl) (by kernel_rfl) (fun w' H1 => hK _ _ ?_); clear hK K; replace H := H1; clear H1; (try clear hc); (try simp only [nrm, splice, Value.cells, Nat.reduceAdd, Act.eval, Act.put] at H); have hc := H.cells; simp only [CellsOf, KnCells, arr_lit, knAt_cons, knAt_nil, Nat.zero_add, Nat.add_zero, Nat.reduceAdd] at hc)
      | (refine op_buildSlice_all _ _ _ rfl (by first | exact elem22 | exact elem25 | exact elem26 | exact elem29) (by kernel_rfl) (by kernel_rfl) (by kernel_rfl) H (fun b w' H1 => hK _ _ ?_); clear hK K; replace H := H1; clear H1; (try clear hc); (try simp only [nrm, splice, Value.cells, Nat.reduceAdd, Act.eval, Act.put] at H); have hc := H.cells; simp only [CellsOf, KnCells, arr_lit, knAt_cons, knAt_nil, Nat.zero_add, Nat.add_zero, Nat.reduceAdd] at hc)))
  have hbk : br ≠ kb := by
    have h := (List.pairwise_cons.1 H.apart).1 (true, .row (some kb) 3 1 places places (ints (List.replicate places 0))) (by simp) (.inl rfl) br (by simp [Kn.fp])
    simpa [Kn.fp] using h
  have hr0 : r0.Ok := by rw [hr00.out]; exact ⟨h0, hp, h0, by simp, by simp⟩
  have hr0' := Lib.hid hr0
  have H0 : St [] w w' ((true, .row none 34 3 0 0 (([] : List RA).flatMap RA.cells)) :: (true, .rep [] (RAsAt [] [])) :: (r0.ents br kb ++ [(false, .arr (some ⟨ab, ao, none⟩) (ops.flatMap ROp.cells))])) := by
    rw [hr00.out]
    exact ((H.pack (.nil _) (RAsAt [] []) (RAsAt.local _ _) (RAsAt.nil _)).nilRow _ _).sel (by repeat (first | exact Sel.nil _ | (apply Sel.cons; focus (repeat (first | exact Split.here _ _ | apply Split.there)))))
  have hrt : r0.t = 0 := by rw [hr00.out]
  have hrt' := Lib.hid hrt
  clear hr0 hr00 hrt H hc
  go_loopw [10, 13] (fun ov i wr => ∃ (j : Nat) (key : Option Nat) (cap' : Nat) (rs : List RA) (fp : List Nat), j ≤ k ∧ i = .int .i64 j ∧ ov = sl key j cap' ∧ Hid (rs.map RA.tell = r0.tells (ops.take j)) ∧
      St [] w wr ((true, .row key 34 3 j cap' (rs.flatMap RA.cells)) :: (true, .rep fp (RAsAt rs fp)) :: ((r0.runs (ops.take j)).ents br kb ++ [(false, .arr (some ⟨ab, ao, none⟩) (ops.flatMap ROp.cells))]))) (fun _ i _ => k - (intOf i).toNat)
  case atStart => exact ⟨0, none, 0, [], [], Nat.zero_le _, rfl, rfl, rfl, H0⟩
  case round =>
    clear H0
    obtain ⟨j, key, cap', rs, fp, hj, rfl, rfl, hrs, H⟩ := hrel
    by_cases hlt : j < k
    · have hj' : j < ops.length := by rw [hk'.out]; exact hlt
      have hmem : ops[j] ∈ ops := List.getElem_mem hj'
      obtain ⟨hso1, hso2⟩ := hs'.out _ hmem
      have hvo := hv'.out _ hmem
      have hok := FR.runs_ok hr0'.out (ops.take j) (fun o ho => hv'.out o (List.mem_of_mem_take ho)) (by simp; omega) (by rw [hrt'.out]; omega)
      have hcat : Hid (ops.take (j + 1) = ops.take j ++ [ops[j]]) := (List.take_append_getElem hj').symm
      simp only [FR.ents, List.cons_append, List.nil_append] at H
      replace H := H.elem (Split.there _ (Split.there _ (Split.there _ (Split.there _ (Split.here _ _))))) (j * 2) (ops[j]).cells (by rw [rop_len]; show _ + 2 ≤ _; omega) (fun i hi => flat_at ROp.cells 2 ops (fun _ _ => rfl) j i hj' hi)
      replace H := H.soft hso1
      generalize ops[j] = o at *
      obtain ⟨kind, at', ocap, vals⟩ := o
      simp only [ROp.cells] at H hso2 hvo
      obtain ⟨r, hr⟩ : ∃ r, r0.runs (ops.take j) = r := ⟨_, rfl⟩
      rw [hr] at H hok
      have hr' := Lib.hid hr
      clear hr
      have hokr := Lib.hid hok.1
      obtain ⟨n, hn⟩ : ∃ n, vals.length = n := ⟨_, rfl⟩
      rw [hn] at H hso2 hvo
      have hn' := Lib.hid hn
      have hso2' := Lib.hid hso2
      clear hok hn hso2 hso1
      have hc := H.cells; simp only [CellsOf, KnCells, arr_lit, knAt_cons, knAt_nil, Nat.zero_add, Nat.add_zero, Nat.reduceAdd] at hc
      repeat' (first | (go_big_may; (first
    | (go_at_call 14; refine Calls.mono (fixed_any r hokr.out br kb hbk kind at' n ocap vals _ _ hn'.out hvo hso2'.out (H.pick (by repeat (first | exact Picks.nil _ | (apply Picks.wr; focus (repeat (first | exact Split.here _ _ | apply Split.there))) | (apply Picks.rd; focus (repeat (first | exact Split.here _ _ | apply Split.there))))))) ?_; rintro e w' ⟨key2, m, cap2, hm, rfl, H'⟩; replace H := H.merge (by first | exact Strikes.nil _ | (repeat (first | exact Strikes.nil _ | (apply Strikes.cons; focus (repeat (first | exact Split.here _ _ | apply Split.there)))))) H' rfl; clear H'; (try clear hc); (try simp only [nrm, splice, Value.cells, Nat.reduceAdd, Act.eval, Act.put] at H); have hc := H.cells; simp only [CellsOf, KnCells, arr_lit, knAt_cons, knAt_nil, Nat.zero_add, Nat.add_zero, Nat.reduceAdd] at hc)
    | (refine loud_ rfl ?_; refine wpList_plain rfl (fun K hK => ?_); first
      | (refine op_append_lit _ _ _ rfl elem29 rfl rfl H (by repeat (first | exact Split.here _ _ | apply Split.there)) (by repeat (first | exact Split.here _ _ | apply Split.there)) (by kernel_rfl) (by kernel_rfl) (by omega) (by unfold maxLen; omega) (fun key cap' w' H1 => hK _ _ ?_); clear hK K; replace H := H1; clear H1; (try clear hc); (try simp only [nrm, splice, Value.cells, Nat.reduceAdd, Act.eval, Act.put] at H); have hc := H.cells; simp only [CellsOf, KnCells, arr_lit, knAt_cons, knAt_nil, Nat.zero_add, Nat.add_zero, Nat.reduceAdd] at hc)
      | (refine op_box _ _ rfl H (fun b w' H1 => hK _ _ ?_); clear hK K; replace H := H1; clear H1; (try clear hc); (try simp only [nrm, splice, Value.cells, Nat.reduceAdd, Act.eval, Act.put] at H); have hc := H.cells; simp only [CellsOf, KnCells, arr_lit, knAt_cons, knAt_nil, Nat.zero_add, Nat.add_zero, Nat.reduceAdd] at hc)
      | (refine op_alloc _ rfl (zero_of _ _ rfl) H (fun b w' H1 => hK _ _ ?_); clear hK K; replace H := H1; clear H1; (try clear hc); (try simp only [nrm, splice, Value.cells, Nat.reduceAdd, Act.eval, Act.put] at H); have hc := H.cells; simp only [CellsOf, KnCells, arr_lit, knAt_cons, knAt_nil, Nat.zero_add, Nat.add_zero, Nat.reduceAdd] at hc)
      | (refine op_store _ _ _ rfl rfl rfl H (by repeat (first | exact Split.here _ _ | apply Split.there)) (by kernel_rfl) (by kernel_rfl) (by kernel_rfl) (fun w' H1 => hK _ _ ?_); clear hK K; replace H := H1; clear H1; (try clear hc); (try simp only [nrm, splice, Value.cells, Nat.reduceAdd, Act.eval, Act.put] at H); have hc := H.cells; simp only [CellsOf, KnCells, arr_lit, knAt_cons, knAt_nil, Nat.zero_add, Nat.add_zero, Nat.reduceAdd] at hc)
      | (refine op_buildSlice_all _ _ _ rfl (by first | exact elem22 | exact elem25 | exact elem26 | exact elem29) (by kernel_rfl) (by kernel_rfl) (by kernel_rfl) H (fun b w' H1 => hK _ _ ?_); clear hK K; replace H := H1; clear H1; (try clear hc); (try simp only [nrm, splice, Value.cells, Nat.reduceAdd, Act.eval, Act.put] at H); have hc := H.cells; simp only [CellsOf, KnCells, arr_lit, knAt_cons, knAt_nil, Nat.zero_add, Nat.add_zero, Nat.reduceAdd] at hc)))) | go_values | go_skip | go_guarded | go_step | go_upon | go_back | dsimp only)
      have hA : RAAt ⟨key2, m, cap2, (r.ans kind vals).1, (r.ans kind vals).2.1, (r.ans kind vals).2.2⟩ w' := ⟨hm.out, H.get (Split.here _ _)⟩
      have H2 := H.packAs (.cons (Split.there _ (Split.there _ (Split.there _ (Split.there _ (Split.there _ (Split.there _ (Split.here _ _))))))) (.cons (Split.here _ _) (.nil _))) (by simp [Kn.fp]) _ (RAsAt.local _ _) ((H.rep (Split.there _ (Split.there _ (Split.there _ (Split.there _ (Split.there _ (Split.there _ (Split.here _ _)))))))).snoc hA)
      refine ⟨⟨j + 1, key, cap', rs ++ [⟨key2, m, cap2, (r.ans kind vals).1, (r.ans kind vals).2.1, (r.ans kind vals).2.2⟩], fp ++ key2.toList, by omega, by go_num, rfl, ?_, ?_⟩, by simp [intOf]; omega⟩
      · show _ = _
        rw [List.map_append, hrs.out, hcat.out, FR.tells_snoc, hr'.out]
        rfl
      · rw [hcat.out, FR.runs_snoc, hr'.out, List.flatMap_append, List.flatMap_cons, List.flatMap_nil, List.append_nil]
        exact H2.sel (by repeat (first | exact Sel.nil _ | (apply Sel.cons; focus (repeat (first | exact Split.here _ _ | apply Split.there)))))
    · obtain rfl : j = k := by omega
      rw [List.take_of_length_le (by rw [hk'.out]; omega)] at hrs H
      repeat' (first | (go_big_may; (first
    | (refine loud_ rfl ?_; refine wpList_plain rfl (fun K hK => ?_); first
      | (refine op_box _ _ rfl H (fun b w' H1 => hK _ _ ?_); clear hK K; replace H := H1; clear H1; (try clear hc); (try simp only [nrm, splice, Value.cells, Nat.reduceAdd, Act.eval, Act.put] at H); have hc := H.cells; simp only [CellsOf, KnCells, arr_lit, knAt_cons, knAt_nil, Nat.zero_add, Nat.add_zero, Nat.reduceAdd] at hc)
      | (refine op_alloc _ rfl (zero_of _ _ rfl) H (fun b w' H1 => hK _ _ ?_); clear hK K; replace H := H1; clear H1; (try clear hc); (try simp only [nrm, splice, Value.cells, Nat.reduceAdd, Act.eval, Act.put] at H); have hc := H.cells; simp only [CellsOf, KnCells, arr_lit, knAt_cons, knAt_nil, Nat.zero_add, Nat.add_zero, Nat.reduceAdd] at hc)
      | (refine op_store _ _ _ rfl rfl rfl H (by repeat (first | exact Split.here _ _ | apply Split.there)) (by kernel_rfl) (by kernel_rfl) (by kernel_rfl) (fun w' H1 => hK _ _ ?_); clear hK K; replace H := H1; clear H1; (try clear hc); (try simp only [nrm, splice, Value.cells, Nat.reduceAdd, Act.eval, Act.put] at H); have hc := H.cells; simp only [CellsOf, KnCells, arr_lit, knAt_cons, knAt_nil, Nat.zero_add, Nat.add_zero, Nat.reduceAdd] at hc)
      | (refine op_buildSlice_all _ _ _ rfl (by first | exact elem22 | exact elem25 | exact elem26 | exact elem29) (by kernel_rfl) (by kernel_rfl) (by kernel_rfl) H (fun b w' H1 => hK _ _ ?_); clear hK K; replace H := H1; clear H1; (try clear hc); (try simp only [nrm, splice, Value.cells, Nat.reduceAdd, Act.eval, Act.put] at H); have hc := H.cells; simp only [CellsOf, KnCells, arr_lit, knAt_cons, knAt_nil, Nat.zero_add, Nat.add_zero, Nat.reduceAdd] at hc)))) | go_values | go_skip | go_guarded | go_step | go_upon | go_back | dsimp only)
      go_ret2
      exact ⟨key, cap', rs, fp, hrs, rfl, H.sublist (.cons_cons _ (.cons_cons _ (List.nil_sublist _)))⟩
end Go.Proofs.Ytlikpgidjdjgnaa
