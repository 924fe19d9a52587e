import Derived.Test.YtjohecbcgdeabaaWireN
namespace Go.Proofs.Ytjohecbcgdeabaa
set_option linter.unusedVariables false
set_option linter.unusedSimpArgs false
set_option linter.unnecessarySimpa false
open Go.RowKit Go.V

/-- A response as it comes out. -/
structure Out where
  key : Option Nat
  n : Nat
  cap : Nat
  d : WSd
def Out.cells (o : Out) : List Value := [.int .i64 o.d.id, .int .i64 o.d.rev, .int .i64 o.d.compact, .bool o.d.created, .bool o.d.canceled, .bool o.d.fragment, .string o.d.reason, sl o.key o.n o.cap]
def OutAt (o : Out) (w : World) : Prop := o.n = o.d.events.length ∧ holds w (.row o.key 34 14 o.n o.cap (o.d.events.flatMap EVd.cells))
def OutsAt (os : List Out) (fp : List Nat) (w : World) : Prop := fp = os.flatMap (·.key.toList) ∧ ∀ o ∈ os, OutAt o w
def outd (d : WSd) : WSd := { d with events := d.events.map outEv }
theorem OutAt.local (o : Out) : Local o.key.toList (OutAt o) := by
  rintro w w' hs ⟨h1, h2⟩
  refine ⟨h1, ?_⟩
  cases hkey : o.key with
  | none => rw [hkey] at h2; exact h2
  | some kb =>
    rw [hkey] at h2 hs
    obtain ⟨cur, hg, h6⟩ := h2
    exact ⟨cur, (hs kb (by simp)).trans hg, h6⟩
theorem OutsAt.local (os : List Out) (fp : List Nat) : Local fp (OutsAt os fp) := by
  rintro w w' hs ⟨rfl, h⟩
  exact ⟨rfl, fun f hf => OutAt.local f w w' (fun b hb => hs b (List.mem_flatMap.2 ⟨f, hf, hb⟩)) (h f hf)⟩
theorem OutsAt.nil (w : World) : OutsAt [] [] w := ⟨rfl, by simp⟩
theorem OutsAt.snoc {os : List Out} {fp : List Nat} {o : Out} {w : World} (h : OutsAt os fp w) (ho : OutAt o w) : OutsAt (os ++ [o]) (fp ++ o.key.toList) w := by
  obtain ⟨rfl, h⟩ := h
  refine ⟨by simp, ?_⟩
  intro g hg
  rcases List.mem_append.1 hg with hg | hg
  · exact h g hg
  · simp only [List.mem_singleton] at hg
    subst hg
    exact ho
theorem Cuts.le {most : Nat} {d : WSd} {hi : Nat} {l : List (Nat × Nat)} (h : Cuts most d hi l) : hi ≤ d.events.length ∧ ∀ t ∈ l, t.1 + t.2 ≤ hi := by
  induction h with
  | nil => exact ⟨Nat.zero_le _, by simp⟩
  | snoc h h1 h2 h3 h4 ih =>
    refine ⟨Nat.le_of_lt h2, fun t ht => ?_⟩
    rcases List.mem_append.1 ht with ht | ht
    · have := ih.2 t ht
      omega
    · simp only [List.mem_singleton] at ht
      subst ht
      exact Nat.le_refl _
theorem Cut.le {most : Nat} {d : WSd} {l : List (Nat × Nat × Bool)} (h : Cut most d l) : ∀ t ∈ l, t.1 + t.2.1 ≤ d.events.length := by
  rcases h with ⟨rfl, _⟩ | ⟨l0, lo, h, hlo, _, rfl, _⟩
  · simp
  · intro t ht
    rcases List.mem_append.1 ht with ht | ht
    · obtain ⟨x, hx, rfl⟩ := List.mem_map.1 ht
      exact Nat.le_trans (h.le.2 x hx) h.le.1
    · simp only [List.mem_singleton] at ht
      subst ht
      dsimp only
      omega
theorem frag_rsp {d : WSd} {bh : Nat} {bs fpe : List Nat} {f : Frag} {w : World} (h : FragAt d bh bs f w) (hh : w.heap[bh]? = some (hdr d.rev)) (hf : ∀ b ∈ fpe, b < w.heap.size) (he : EvsAt bs d.events fpe w) (hle : f.lo + f.j ≤ d.events.length) : ∃ fp, RspAt f.bx (part d f.lo f.j f.flag) fp w := by
  obtain ⟨fp', h5, h6⟩ := he.seg f.lo f.j
  have hl := part_length d f.lo f.j f.flag hle
  refine ⟨f.bx :: bh :: (f.key.toList ++ fp'), bh, f.key, f.cap, (bs.drop f.lo).take f.j, fp', rfl, ?_, hh, ?_, fun c hc => hf c (h6 c hc), h5⟩
  · rw [hl]
    exact h.1
  · rw [hl]
    exact h.2

set_option maxRecDepth 4000 in
set_option maxHeartbeats 2000000 in
theorem fragments_calls (d : WSd) (s : Option Addr) (cap most : Nat) (hmost : Hid (most ≤ 1073741824)) (w : World) (H : St [] w w [(false, .arr s (d.events.flatMap EVd.cells))]) (hd : d.Short) :
    Calls Try.prog 10 #[.agg #[.int .i64 d.id, .int .i64 d.rev, .int .i64 d.compact, .bool d.created, .bool d.canceled, .bool d.fragment, .string d.reason, .slice s d.events.length cap], .int .i64 most] w fun e w' =>
      ∃ okey ocap os fp, Hid (∃ l, Cut most d l ∧ os.map Out.d = l.map fun t => outd (part d t.1 t.2.1 t.2.2)) ∧ os.length ≤ 1001 ∧ e = .returned (sl okey os.length ocap) ∧
        St [] w w' [(true, .row okey 24 8 os.length ocap (os.flatMap Out.cells)), (true, .rep fp (OutsAt os fp))] := by
  have hn : d.events.length ≤ 1000 := hd.2.1
  have hd' : Hid d.Short := hd
  clear hd
  have hw1 : Hid ((0 : Int) ≤ 4294967295 ∧ (0 : Int) ≤ (most : Int) ∧ (most : Int) ≤ 4294967295) := by unfold Hid at *; omega
  go_enter Try.func10, Try.ntmps10
  go_wp2_with (first
    | (go_at_call 14; refine Calls.mono (sentIn_calls _ _ _ _ hn (H.pick (by repeat (first | exact Picks.nil _ | (apply Picks.wr; focus (repeat (first | exact Split.here _ _ | apply Split.there))) | (apply Picks.rd; focus (repeat (first | exact Split.here _ _ | apply Split.there))))))) ?_; rintro e w' ⟨bx, bh, key, cap', bs, fpe, rfl, H'⟩; replace H := H.merge (by first | exact Strikes.nil _ | (repeat (first | exact Strikes.nil _ | (apply Strikes.cons; focus (repeat (first | exact Split.here _ _ | apply Split.there)))))) H' rfl; clear H'; (try clear hc); (try simp only [List.nil_append, List.cons_append, List.append_assoc, splice, Value.cells, List.take_succ_cons, List.take_zero, List.drop_succ_cons, List.drop_zero, List.length_cons, List.length_nil, List.size_toArray, Nat.zero_add, Nat.reduceAdd, Act.eval, Array.getD_eq_getD_getElem?, List.getElem?_toArray, List.getElem?_cons_succ, List.getElem?_cons_zero, Option.getD_some, List.flatMap_cons, List.flatMap_nil, List.append_nil, Act.put, List.setIfInBounds_toArray, List.set_cons_succ, List.set_cons_zero] at H); have hc := H.cells; simp only [CellsOf, KnCells] at hc)
    | (go_at_call 21; refine Calls.mono (within_calls _ _ _ _ hw1.1 hw1.2.1 hw1.2.2) ?_; rintro e w' ⟨rfl, H'⟩; replace H := H.merge (by first | exact Strikes.nil _ | (repeat (first | exact Strikes.nil _ | (apply Strikes.cons; focus (repeat (first | exact Split.here _ _ | apply Split.there)))))) H' rfl; clear H'; (try clear hc); (try simp only [List.nil_append, List.cons_append, List.append_assoc, splice, Value.cells, List.take_succ_cons, List.take_zero, List.drop_succ_cons, List.drop_zero, List.length_cons, List.length_nil, List.size_toArray, Nat.zero_add, Nat.reduceAdd, Act.eval, Array.getD_eq_getD_getElem?, List.getElem?_toArray, List.getElem?_cons_succ, List.getElem?_cons_zero, Option.getD_some, List.flatMap_cons, List.flatMap_nil, List.append_nil, Act.put, List.setIfInBounds_toArray, List.set_cons_succ, List.set_cons_zero] at H); have hc := H.cells; simp only [CellsOf, KnCells] at hc)
    | (go_at_call 20; refine Calls.mono (zzFragments_calls d hd' _ _ _ _ _ _ _ _ _ (H.pick (by repeat (first | exact Picks.nil _ | (apply Picks.wr; focus (repeat (first | exact Split.here _ _ | apply Split.there))) | (apply Picks.rd; focus (repeat (first | exact Split.here _ _ | apply Split.there))))))) ?_; rintro e w' ⟨fkey, fcap, fs, fpf, hcut, hfl, rfl, H'⟩; replace H := H.merge (by first | exact Strikes.nil _ | (repeat (first | exact Strikes.nil _ | (apply Strikes.cons; focus (repeat (first | exact Split.here _ _ | apply Split.there)))))) H' rfl; clear H'; (try clear hc); (try simp only [List.nil_append, List.cons_append, List.append_assoc, splice, Value.cells, List.take_succ_cons, List.take_zero, List.drop_succ_cons, List.drop_zero, List.length_cons, List.length_nil, List.size_toArray, Nat.zero_add, Nat.reduceAdd, Act.eval, Array.getD_eq_getD_getElem?, List.getElem?_toArray, List.getElem?_cons_succ, List.getElem?_cons_zero, Option.getD_some, List.flatMap_cons, List.flatMap_nil, List.append_nil, Act.put, List.setIfInBounds_toArray, List.set_cons_succ, List.set_cons_zero] at H); have hc := H.cells; simp only [CellsOf, KnCells] at hc)
    | (refine loud_ rfl ?_; refine wpList_plain rfl (fun K hK => ?_); first
      | (refine op_box _ _ rfl H (fun b w' H1 => hK _ _ ?_); clear hK K; replace H := H1; clear H1; (try clear hc); (try simp only [List.nil_append, List.cons_append, List.append_assoc, splice, Value.cells, List.take_succ_cons, List.take_zero, List.drop_succ_cons, List.drop_zero, List.length_cons, List.length_nil, List.size_toArray, Nat.zero_add, Nat.reduceAdd, Act.eval, Array.getD_eq_getD_getElem?, List.getElem?_toArray, List.getElem?_cons_succ, List.getElem?_cons_zero, Option.getD_some, List.flatMap_cons, List.flatMap_nil, List.append_nil, Act.put, List.setIfInBounds_toArray, List.set_cons_succ, List.set_cons_zero] at H); have hc := H.cells; simp only [CellsOf, KnCells] at hc)
      | (refine op_alloc _ rfl (zero_of _ _ rfl) H (fun b w' H1 => hK _ _ ?_); clear hK K; replace H := H1; clear H1; (try clear hc); (try simp only [List.nil_append, List.cons_append, List.append_assoc, splice, Value.cells, List.take_succ_cons, List.take_zero, List.drop_succ_cons, List.drop_zero, List.length_cons, List.length_nil, List.size_toArray, Nat.zero_add, Nat.reduceAdd, Act.eval, Array.getD_eq_getD_getElem?, List.getElem?_toArray, List.getElem?_cons_succ, List.getElem?_cons_zero, Option.getD_some, List.flatMap_cons, List.flatMap_nil, List.append_nil, Act.put, List.setIfInBounds_toArray, List.set_cons_succ, List.set_cons_zero] at H); have hc := H.cells; simp only [CellsOf, KnCells] at hc)
      | (refine op_store _ _ _ rfl rfl rfl H (by repeat (first | exact Split.here _ _ | apply Split.there)) (by kernel_rfl) (by kernel_rfl) (by kernel_rfl) (fun w' H1 => hK _ _ ?_); clear hK K; replace H := H1; clear H1; (try clear hc); (try simp only [List.nil_append, List.cons_append, List.append_assoc, splice, Value.cells, List.take_succ_cons, List.take_zero, List.drop_succ_cons, List.drop_zero, List.length_cons, List.length_nil, List.size_toArray, Nat.zero_add, Nat.reduceAdd, Act.eval, Array.getD_eq_getD_getElem?, List.getElem?_toArray, List.getElem?_cons_succ, List.getElem?_cons_zero, Option.getD_some, List.flatMap_cons, List.flatMap_nil, List.append_nil, Act.put, List.setIfInBounds_toArray, List.set_cons_succ, List.set_cons_zero] at H); have hc := H.cells; simp only [CellsOf, KnCells] at hc)
      | (refine op_buildSlice_all _ _ _ rfl (by first | exact elem22 | exact elem28 | exact elem44 | exact elem53 | exact elem59) (by kernel_rfl) (by kernel_rfl) (by kernel_rfl) H (fun b w' H1 => hK _ _ ?_); clear hK K; replace H := H1; clear H1; (try clear hc); (try simp only [List.nil_append, List.cons_append, List.append_assoc, splice, Value.cells, List.take_succ_cons, List.take_zero, List.drop_succ_cons, List.drop_zero, List.length_cons, List.length_nil, List.size_toArray, Nat.zero_add, Nat.reduceAdd, Act.eval, Array.getD_eq_getD_getElem?, List.getElem?_toArray, List.getElem?_cons_succ, List.getElem?_cons_zero, Option.getD_some, List.flatMap_cons, List.flatMap_nil, List.append_nil, Act.put, List.setIfInBounds_toArray, List.set_cons_succ, List.set_cons_zero] at H); have hc := H.cells; simp only [CellsOf, KnCells] at hc)))
  have hm : most % (2 ^ IntKind.u64.bits : Int).natAbs = most := by
    rw [show (2 ^ IntKind.u64.bits : Int).natAbs = 18446744073709551616 from rfl]
    unfold Hid at hmost
    omega
  replace hcut : Hid (Cut most d (fs.map fun f => (f.lo, f.j, f.flag))) := by
    rw [hm] at hcut
    exact hcut
  clear hm
  have hle : Hid (∀ f ∈ fs, f.lo + f.j ≤ d.events.length) := fun f hf => Cut.le hcut (f.lo, f.j, f.flag) (List.mem_map.2 ⟨f, hf, rfl⟩)
  obtain ⟨m, hmm⟩ : ∃ m, fs.length = m := ⟨_, rfl⟩
  rw [hmm] at H hfl ⊢
  go_loopw [7, 6] (fun i ov wr => ∃ (k : Nat) (okey : Option Nat) (ocap : Nat) (os : List Out) (fp : List Nat), k ≤ m ∧ i = .int .i64 k ∧ ov = sl okey k ocap ∧ Hid (os.map Out.d = (fs.take k).map fun f => outd (part d f.lo f.j f.flag)) ∧ os.length = k ∧
      St [] w wr [(true, .row okey 24 8 k ocap (os.flatMap Out.cells)), (true, .rep fp (OutsAt os fp)), (true, .row fkey 38 1 m fcap (fs.map fun f => ptr f.bx)), (true, .rep fpf (FragsAt d bh bs fs fpf)), (true, .rep fpe (EvsAt bs d.events fpe)), (true, .is bh (hdr d.rev))])
    (fun i _ _ => m - (intOf i).toNat)
  case atStart => exact ⟨0, none, 0, [], [], Nat.zero_le _, rfl, rfl, rfl, rfl, ((H.pack (.nil _) _ (OutsAt.local _ _) (OutsAt.nil _)).nilRow 24 8).sel (by repeat (first | exact Sel.nil _ | (apply Sel.cons; focus (repeat (first | exact Split.here _ _ | apply Split.there)))))⟩
  case round =>
    clear H hc
    obtain ⟨k, okey, ocap, os, fp, hk, rfl, rfl, hos, hol, H⟩ := hrel
    by_cases hlt : k < m
    · obtain ⟨kb, rfl⟩ : ∃ kb, fkey = some kb := by
        have h := H.get (Split.there _ (Split.there _ (Split.here _ _)))
        cases fkey with
        | none =>
          have : m = 0 := h.1
          omega
        | some kb => exact ⟨kb, rfl⟩
      have hk' : k < fs.length := by omega
      have hcell : wr.cell? ⟨kb, k, none⟩ = some (.pointer (some ⟨fs[k].bx, 0, none⟩)) := by
        rw [row_cell (H.get (Split.there _ (Split.there _ (Split.here _ _)))) k (by omega)]
        simp [hk', ptr]
      obtain ⟨fp1, hR⟩ := frag_rsp ((H.rep (Split.there _ (Split.there _ (Split.there _ (Split.here _ _))))).2 fs[k] (List.getElem_mem hk')) (H.obj (Split.there _ (Split.there _ (Split.there _ (Split.there _ (Split.there _ (Split.here _ _))))))) (H.get (Split.there _ (Split.there _ (Split.there _ (Split.there _ (Split.here _ _)))))).2.1 (H.rep (Split.there _ (Split.there _ (Split.there _ (Split.there _ (Split.here _ _)))))) (hle _ (List.getElem_mem hk'))
      have hos' : Hid ((fs.take (k + 1)).map (fun f => outd (part d f.lo f.j f.flag)) = (fs.take k).map (fun f => outd (part d f.lo f.j f.flag)) ++ [outd (part d fs[k].lo fs[k].j fs[k].flag)]) := by
        show _ = _
        rw [← List.take_append_getElem hk', List.map_append]
        rfl
      generalize fs[k] = f at *
      obtain ⟨fbx, fk, fc, lo, j, flag⟩ := f
      have hes : Hid (((d.events.drop lo).take j).length ≤ 1000) := (by simp; omega : ((d.events.drop lo).take j).length ≤ 1000)
      have hR' : RspAt fbx ⟨d.id, d.rev, d.compact, d.created, d.canceled, flag, d.reason, (d.events.drop lo).take j⟩ fp1 wr := hR
      have hpd : Hid (outd (part d lo j flag) = ⟨d.id, d.rev, d.compact, d.created, d.canceled, flag, d.reason, ((d.events.drop lo).take j).map outEv⟩) := rfl
      clear hR
      generalize (d.events.drop lo).take j = es at *
      have hsl : sl (some kb) m fcap = .slice (some ⟨kb, 0, none⟩) m fcap := rfl
      rw [hsl]
      have hc := H.cells; simp only [CellsOf, KnCells] at hc
      go_wp2_with (first
    | (go_at_call 22; refine Calls.mono (sentOut_calls _ _ _ _ _ _ _ _ _ _ _ hR' hes) ?_; rintro e w' ⟨skey, scap, rfl, H'⟩; replace H := H.merge (by first | exact Strikes.nil _ | (repeat (first | exact Strikes.nil _ | (apply Strikes.cons; focus (repeat (first | exact Split.here _ _ | apply Split.there)))))) H' rfl; clear H'; (try clear hc); (try simp only [List.nil_append, List.cons_append, List.append_assoc, splice, Value.cells, List.take_succ_cons, List.take_zero, List.drop_succ_cons, List.drop_zero, List.length_cons, List.length_nil, List.size_toArray, Nat.zero_add, Nat.reduceAdd, Act.eval, Array.getD_eq_getD_getElem?, List.getElem?_toArray, List.getElem?_cons_succ, List.getElem?_cons_zero, Option.getD_some, List.flatMap_cons, List.flatMap_nil, List.append_nil, Act.put, List.setIfInBounds_toArray, List.set_cons_succ, List.set_cons_zero] at H); have hc := H.cells; simp only [CellsOf, KnCells] at hc)
    | (refine loud_ rfl ?_; refine wpList_plain rfl (fun K hK => ?_); first
      | (refine op_append_lit _ _ _ rfl elem28 rfl rfl H (by repeat (first | exact Split.here _ _ | apply Split.there)) (by repeat (first | exact Split.here _ _ | apply Split.there)) (by kernel_rfl) (by kernel_rfl) (by omega) (by unfold maxLen; omega) (fun key cap' w' H1 => hK _ _ ?_); clear hK K; replace H := H1; clear H1; (try clear hc); (try simp only [List.nil_append, List.cons_append, List.append_assoc, splice, Value.cells, List.take_succ_cons, List.take_zero, List.drop_succ_cons, List.drop_zero, List.length_cons, List.length_nil, List.size_toArray, Nat.zero_add, Nat.reduceAdd, Act.eval, Array.getD_eq_getD_getElem?, List.getElem?_toArray, List.getElem?_cons_succ, List.getElem?_cons_zero, Option.getD_some, List.flatMap_cons, List.flatMap_nil, List.append_nil, Act.put, List.setIfInBounds_toArray, List.set_cons_succ, List.set_cons_zero] at H); have hc := H.cells; simp only [CellsOf, KnCells] at hc)
      | (refine op_box _ _ rfl H (fun b w' H1 => hK _ _ ?_); clear hK K; replace H := H1; clear H1; (try clear hc); (try simp only [List.nil_append, List.cons_append, List.append_assoc, splice, Value.cells, List.take_succ_cons, List.take_zero, List.drop_succ_cons, List.drop_zero, List.length_cons, List.length_nil, List.size_toArray, Nat.zero_add, Nat.reduceAdd, Act.eval, Array.getD_eq_getD_getElem?, List.getElem?_toArray, List.getElem?_cons_succ, List.getElem?_cons_zero, Option.getD_some, List.flatMap_cons, List.flatMap_nil, List.append_nil, Act.put, List.setIfInBounds_toArray, List.set_cons_succ, List.set_cons_zero] at H); have hc := H.cells; simp only [CellsOf, KnCells] at hc)
      | (refine op_alloc _ rfl (zero_of _ _ rfl) H (fun b w' H1 => hK _ _ ?_); clear hK K; replace H := H1; clear H1; (try clear hc); (try simp only [List.nil_append, List.cons_append, List.append_assoc, splice, Value.cells, List.take_succ_cons, List.take_zero, List.drop_succ_cons, List.drop_zero, List.length_cons, List.length_nil, List.size_toArray, Nat.zero_add, Nat.reduceAdd, Act.eval, Array.getD_eq_getD_getElem?, List.getElem?_toArray, List.getElem?_cons_succ, List.getElem?_cons_zero, Option.getD_some, List.flatMap_cons, List.flatMap_nil, List.append_nil, Act.put, List.setIfInBounds_toArray, List.set_cons_succ, List.set_cons_zero] at H); have hc := H.cells; simp only [CellsOf, KnCells] at hc)
      | (refine op_store _ _ _ rfl rfl rfl H (by repeat (first | exact Split.here _ _ | apply Split.there)) (by kernel_rfl) (by kernel_rfl) (by kernel_rfl) (fun w' H1 => hK _ _ ?_); clear hK K; replace H := H1; clear H1; (try clear hc); (try simp only [List.nil_append, List.cons_append, List.append_assoc, splice, Value.cells, List.take_succ_cons, List.take_zero, List.drop_succ_cons, List.drop_zero, List.length_cons, List.length_nil, List.size_toArray, Nat.zero_add, Nat.reduceAdd, Act.eval, Array.getD_eq_getD_getElem?, List.getElem?_toArray, List.getElem?_cons_succ, List.getElem?_cons_zero, Option.getD_some, List.flatMap_cons, List.flatMap_nil, List.append_nil, Act.put, List.setIfInBounds_toArray, List.set_cons_succ, List.set_cons_zero] at H); have hc := H.cells; simp only [CellsOf, KnCells] at hc)
      | (refine op_buildSlice_all _ _ _ rfl (by first | exact elem22 | exact elem28 | exact elem44 | exact elem53 | exact elem59) (by kernel_rfl) (by kernel_rfl) (by kernel_rfl) H (fun b w' H1 => hK _ _ ?_); clear hK K; replace H := H1; clear H1; (try clear hc); (try simp only [List.nil_append, List.cons_append, List.append_assoc, splice, Value.cells, List.take_succ_cons, List.take_zero, List.drop_succ_cons, List.drop_zero, List.length_cons, List.length_nil, List.size_toArray, Nat.zero_add, Nat.reduceAdd, Act.eval, Array.getD_eq_getD_getElem?, List.getElem?_toArray, List.getElem?_cons_succ, List.getElem?_cons_zero, Option.getD_some, List.flatMap_cons, List.flatMap_nil, List.append_nil, Act.put, List.setIfInBounds_toArray, List.set_cons_succ, List.set_cons_zero] at H); have hc := H.cells; simp only [CellsOf, KnCells] at hc)))
      have hO : OutAt ⟨skey, es.length, scap, ⟨d.id, d.rev, d.compact, d.created, d.canceled, flag, d.reason, es.map outEv⟩⟩ w' := ⟨by simp, H.get (Split.here _ _)⟩
      have H2 := H.packAs (.cons (Split.there _ (Split.there _ (Split.here _ _))) (.cons (Split.here _ _) (.nil _))) (by simp [Kn.fp]) _ (OutsAt.local _ _) ((H.rep (Split.there _ (Split.there _ (Split.here _ _)))).snoc hO)
      refine ⟨⟨k + 1, key, cap', os ++ [⟨skey, es.length, scap, ⟨d.id, d.rev, d.compact, d.created, d.canceled, flag, d.reason, es.map outEv⟩⟩], fp ++ skey.toList, by omega, by go_num, rfl, ?_, by simp [hol], ?_⟩, by simp [intOf]; omega⟩
      · unfold Hid at hos hos' hpd ⊢
        rw [List.map_append, hos, hos', hpd]
        rfl
      · rw [List.flatMap_append, List.flatMap_cons, List.flatMap_nil, List.append_nil]
        exact H2.sel (by repeat (first | exact Sel.nil _ | (apply Sel.cons; focus (repeat (first | exact Split.here _ _ | apply Split.there)))))
    · obtain rfl : k = m := by omega
      rw [List.take_of_length_le (by omega)] at hos
      subst hol
      go_wp2_with (first
    | (refine loud_ rfl ?_; refine wpList_plain rfl (fun K hK => ?_); first
      | (refine op_box _ _ rfl H (fun b w' H1 => hK _ _ ?_); clear hK K; replace H := H1; clear H1; (try clear hc); (try simp only [List.nil_append, List.cons_append, List.append_assoc, splice, Value.cells, List.take_succ_cons, List.take_zero, List.drop_succ_cons, List.drop_zero, List.length_cons, List.length_nil, List.size_toArray, Nat.zero_add, Nat.reduceAdd, Act.eval, Array.getD_eq_getD_getElem?, List.getElem?_toArray, List.getElem?_cons_succ, List.getElem?_cons_zero, Option.getD_some, List.flatMap_cons, List.flatMap_nil, List.append_nil, Act.put, List.setIfInBounds_toArray, List.set_cons_succ, List.set_cons_zero] at H); have hc := H.cells; simp only [CellsOf, KnCells] at hc)
      | (refine op_alloc _ rfl (zero_of _ _ rfl) H (fun b w' H1 => hK _ _ ?_); clear hK K; replace H := H1; clear H1; (try clear hc); (try simp only [List.nil_append, List.cons_append, List.append_assoc, splice, Value.cells, List.take_succ_cons, List.take_zero, List.drop_succ_cons, List.drop_zero, List.length_cons, List.length_nil, List.size_toArray, Nat.zero_add, Nat.reduceAdd, Act.eval, Array.getD_eq_getD_getElem?, List.getElem?_toArray, List.getElem?_cons_succ, List.getElem?_cons_zero, Option.getD_some, List.flatMap_cons, List.flatMap_nil, List.append_nil, Act.put, List.setIfInBounds_toArray, List.set_cons_succ, List.set_cons_zero] at H); have hc := H.cells; simp only [CellsOf, KnCells] at hc)
      | (refine op_store _ _ _ rfl rfl rfl H (by repeat (first | exact Split.here _ _ | apply Split.there)) (by kernel_rfl) (by kernel_rfl) (by kernel_rfl) (fun w' H1 => hK _ _ ?_); clear hK K; replace H := H1; clear H1; (try clear hc); (try simp only [List.nil_append, List.cons_append, List.append_assoc, splice, Value.cells, List.take_succ_cons, List.take_zero, List.drop_succ_cons, List.drop_zero, List.length_cons, List.length_nil, List.size_toArray, Nat.zero_add, Nat.reduceAdd, Act.eval, Array.getD_eq_getD_getElem?, List.getElem?_toArray, List.getElem?_cons_succ, List.getElem?_cons_zero, Option.getD_some, List.flatMap_cons, List.flatMap_nil, List.append_nil, Act.put, List.setIfInBounds_toArray, List.set_cons_succ, List.set_cons_zero] at H); have hc := H.cells; simp only [CellsOf, KnCells] at hc)
      | (refine op_buildSlice_all _ _ _ rfl (by first | exact elem22 | exact elem28 | exact elem44 | exact elem53 | exact elem59) (by kernel_rfl) (by kernel_rfl) (by kernel_rfl) H (fun b w' H1 => hK _ _ ?_); clear hK K; replace H := H1; clear H1; (try clear hc); (try simp only [List.nil_append, List.cons_append, List.append_assoc, splice, Value.cells, List.take_succ_cons, List.take_zero, List.drop_succ_cons, List.drop_zero, List.length_cons, List.length_nil, List.size_toArray, Nat.zero_add, Nat.reduceAdd, Act.eval, Array.getD_eq_getD_getElem?, List.getElem?_toArray, List.getElem?_cons_succ, List.getElem?_cons_zero, Option.getD_some, List.flatMap_cons, List.flatMap_nil, List.append_nil, Act.put, List.setIfInBounds_toArray, List.set_cons_succ, List.set_cons_zero] at H); have hc := H.cells; simp only [CellsOf, KnCells] at hc)))
      go_ret
      refine ⟨okey, ocap, os, fp, ⟨_, hcut, ?_⟩, hfl, rfl, H.top2⟩
      unfold Hid at hos
      rw [hos, List.map_map]
      rfl
end Go.Proofs.Ytjohecbcgdeabaa
