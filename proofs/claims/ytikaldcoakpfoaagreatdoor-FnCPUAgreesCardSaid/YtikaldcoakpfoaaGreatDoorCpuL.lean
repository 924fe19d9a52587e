import Derived.Test.YtikaldcoakpfoaaGreatDoorCpuH
import Derived.Lib.RowBridge
-- MORE
-- SUB2
namespace Go.Proofs.YtikaldcoakpfoaaGreatDoor
set_option linter.unusedVariables false
set_option linter.unusedSimpArgs false
set_option linter.unnecessarySimpa false
open Go Go.RowKit Go.V Go.Lib Go.Sort

theorem compact_facts (d : Array Int) (hs : ∀ i j, i ≤ j → j < d.size → d[i]! ≤ d[j]!) : ∀ m, m ≤ d.size → (compactUpTo d m).Pairwise (· < ·) ∧ ∀ y, y ∈ compactUpTo d m ↔ ∃ j, j < m ∧ d[j]! = y
  | 0, _ => by
    refine ⟨by simp [compactUpTo], fun y => ?_⟩
    simp [compactUpTo]
  | m + 1, hm => by
    obtain ⟨h1, h2⟩ := compact_facts d hs m (by omega)
    rw [compactUpTo_succ]
    cases hk : keeps d m with
    | true =>
      rw [if_pos rfl]
      refine ⟨?_, fun y => ?_⟩
      · rw [List.pairwise_append]
        refine ⟨h1, by simp, ?_⟩
        intro a ha b hb
        rw [List.mem_singleton] at hb
        subst hb
        obtain ⟨j, hj, rfl⟩ := (h2 a).1 ha
        have hne : d[m]! ≠ d[m - 1]! := by
          intro e
          rw [keeps_neg (by omega) e] at hk
          cases hk
        have e1 := hs j (m - 1) (by omega) (by omega)
        have e2 := hs (m - 1) m (by omega) (by omega)
        omega
      · rw [List.mem_append, h2, List.mem_singleton]
        constructor
        · rintro (⟨j, hj, rfl⟩ | rfl)
          · exact ⟨j, by omega, rfl⟩
          · exact ⟨m, by omega, rfl⟩
        · rintro ⟨j, hj, rfl⟩
          rcases Nat.lt_or_ge j m with h | h
          · exact .inl ⟨j, h, rfl⟩
          · obtain rfl : j = m := by omega
            exact .inr rfl
    | false =>
      rw [if_neg (by simp), List.append_nil]
      refine ⟨h1, fun y => ?_⟩
      rw [h2]
      constructor
      · rintro ⟨j, hj, rfl⟩
        exact ⟨j, by omega, rfl⟩
      · rintro ⟨j, hj, rfl⟩
        rcases Nat.lt_or_ge j m with h | h
        · exact ⟨j, h, rfl⟩
        · obtain rfl : j = m := by omega
          have hk2 : ¬(j = 0 ∨ d[j]! ≠ d[j - 1]!) := by simpa [keeps] using hk
          have h0 : j ≠ 0 := fun e => hk2 (.inl e)
          have he : d[j]! = d[j - 1]! := Classical.byContradiction fun e => hk2 (.inr e)
          exact ⟨j - 1, by omega, he.symm⟩
/-- Numbers in order, each once. -/
def rising (l : List Int) : List Int := Lib.compact (sortI l)
theorem rising_facts (l : List Int) : (rising l).Pairwise (· < ·) ∧ ∀ y, y ∈ rising l ↔ y ∈ l := by
  have hp := sortI_sorted l
  have hperm := sortI_perm l
  unfold rising Lib.compact
  have := compact_facts (sortI l).toArray (by
    intro i j hij hj
    have hj' : j < (sortI l).length := by simpa using hj
    have hi' : i < (sortI l).length := by omega
    rw [getElem!_pos (sortI l).toArray i (by simpa using hi'), getElem!_pos (sortI l).toArray j hj]
    rcases Nat.lt_or_ge i j with h | h
    · have := List.pairwise_iff_getElem.1 hp i j hi' hj' h
      simpa using this
    · obtain rfl : i = j := by omega
      exact Int.le_refl _) (sortI l).length (by simp)
  refine ⟨this.1, fun y => ?_⟩
  rw [this.2 y, ← hperm.mem_iff]
  constructor
  · rintro ⟨j, hj, rfl⟩
    rw [getElem!_pos (sortI l).toArray j (by simpa using hj)]
    simp
  · intro h
    obtain ⟨j, hj, rfl⟩ := List.mem_iff_getElem.1 h
    exact ⟨j, hj, by rw [getElem!_pos (sortI l).toArray j (by simpa using hj)]; simp⟩
theorem lt_nodup {l : List Int} (h : l.Pairwise (· < ·)) : l.Nodup := h.imp (fun h => by omega)
theorem strict_eq {a b : List Int} (ha : a.Pairwise (· < ·)) (hb : b.Pairwise (· < ·)) (h : ∀ x, x ∈ a ↔ x ∈ b) : a = b :=
  sorted_eq (ha.imp (fun h => by omega)) (hb.imp (fun h => by omega)) ((List.perm_ext_iff_of_nodup (lt_nodup ha) (lt_nodup hb)).2 h)
theorem sortI_strict {l : List Int} (h : l.Nodup) : (sortI l).Pairwise (· < ·) := by
  have h1 := sortI_sorted l
  have h2 : (sortI l).Nodup := (sortI_perm l).nodup_iff.2 h
  have := h1.and h2
  exact this.imp (fun ⟨h1, h2⟩ => by omega)
theorem rising_eq {L all : List Int} (hL : L.Nodup) (hm : ∀ x, x ∈ L ↔ x ∈ all) : sortI L = rising all :=
  strict_eq (sortI_strict hL) (rising_facts all).1 (fun x => by rw [(sortI_perm L).mem_iff, hm, (rising_facts all).2])
theorem rising_len (l : List Int) : (rising l).length ≤ l.length := by
  have := compact_length_le (sortI l)
  rw [sortI_len] at this
  exact this
theorem owned_row {w w' : World} {S : List Nat} {w0 : World} {L : List Ent} {v : Value} {n : Nat} {T : TypeId} {xs : List Value} (H : St S w0 w L) (h : w'.ownsRow w.heap.size T 1 v n xs) (e : Ext [] w w') : ∃ key cap, v = sl key n cap ∧ St S w0 w' ((true, .row key T 1 n cap xs) :: L) := by
  obtain ⟨hl, ⟨rfl, rfl⟩ | ⟨g, cap, cur, rfl, hg, hw, hn, hc, hs, ht⟩⟩ := h
  · have hx : xs = [] := by simpa using hl
    subst hx
    exact ⟨none, 0, rfl, (H.of_ext e).nilRow T 1⟩
  · exact ⟨some g, cap, rfl, H.new e _ (show holds w' (.row (some g) T 1 n cap xs) from ⟨cur, hw, hs, hn, hc, ht⟩) (by simp [Kn.fp]) (by intro b hb; simp only [Kn.fp, Option.toList_some, List.mem_singleton] at hb; subst hb; exact hg)⟩
theorem soft_ints {w : World} {src : Option Addr} {l : List Int} (h : Lies w src (intsN l)) (h0 : 0 < l.length) : ∃ b o, src = some ⟨b, o, none⟩ ∧ ∀ j, j < l.length → w.cell? ⟨b, o + j, none⟩ = some (.int .i64 (l.getD j 0)) := by
  have hg : ∀ j, j < l.length → (intsN l)[j]? = some (.int .i64 (l.getD j 0)) := by
    intro j hj
    simp [intsN, hj]
  obtain ⟨b, o, hsrc, _⟩ := liesAny h (hg 0 h0)
  refine ⟨b, o, hsrc, fun j hj => ?_⟩
  obtain ⟨b', o', h1, h2⟩ := liesAny h (hg j hj)
  rw [hsrc] at h1
  injection h1 with h1
  injection h1 with h1 h3
  subst h1 h3
  exact h2
theorem clone_calls (src : Option Addr) (l : List Int) (n c : Nat) (hn : Hid (l.length = n)) (hnn : n ≤ 1000000000) (w : World) (H : St [] w w [(false, soft src (intsN l))]) :
    Calls Tryz.prog 25 #[.slice src n c] w fun e w' => ∃ key cap, e = .returned (sl key n cap) ∧ St [] w w' [(true, .row key 3 1 n cap (intsN l))] := by
  have hl := H.lies (by repeat (first | exact Split.here _ _ | apply Split.there))
  have hn' := hn.out
  subst hn'
  by_cases h0 : 0 < l.length
  · obtain ⟨b, o, rfl, hc⟩ := soft_ints hl h0
    refine (Tryz.slices_Clone_int b o l.length c l w (Nat.le_refl _) (by omega) hc).mono ?_
    rintro e w' ⟨v, rfl, hown, _, hb⟩
    rw [List.take_length] at hown
    obtain ⟨key, cap, rfl, H'⟩ := owned_row (St.init [] w) hown (Ext.of_below hb)
    exact ⟨key, cap, rfl, H'⟩
  · have hl0 : l = [] := List.length_eq_zero_iff.1 (by omega)
    subst hl0
    cases src with
    | none =>
      refine (Tryz.slices_Clone_int_nil _ c w).mono ?_
      rintro e w' ⟨rfl, rfl⟩
      exact ⟨none, 0, rfl, (St.init [] w').nilRow _ _⟩
    | some a =>
      refine (Tryz.slices_Clone_int_zero a c w).mono ?_
      rintro e w' ⟨v, rfl, hown, _, hb⟩
      obtain ⟨key, cap, rfl, H'⟩ := owned_row (St.init [] w) hown (Ext.of_below hb)
      exact ⟨key, cap, rfl, H'⟩
theorem compact_calls (S : List Nat) (key : Option Nat) (n cap : Nat) (zs : List Int) (hn : Hid (n = zs.length)) (hnn : n ≤ 1000000000) (w : World) (H : St S w w [(true, .row key 3 1 n cap (intsN zs))]) :
    Calls Tryz.prog 44 #[sl key n cap] w fun e w' => ∃ n', Hid (n' = (Lib.compact zs).length) ∧ n' ≤ n ∧ e = .returned (sl key n' cap) ∧ St S w w' [(true, .row key 3 1 n' cap (intsN (Lib.compact zs)))] := by
  have hn' := hn.out
  subst hn'
  cases zs with
  | nil =>
    refine (Tryz.slices_Compact_int_empty (key.map fun b => ⟨b, 0, none⟩) cap w).mono ?_
    rintro e w' ⟨rfl, rfl⟩
    exact ⟨0, rfl, Nat.le_refl _, rfl, H⟩
  | cons z zs =>
    obtain ⟨kb, rfl⟩ := row_some (H.get (Split.here _ _)) (by simp)
    have hcap := (row_le (H.get (Split.here _ _))).1
    have hle := compact_length_le (z :: zs)
    refine (Tryz.slices_Compact_int kb 0 cap (z :: zs) w (row_Holds (Value.int .i64) (H.get (Split.here _ _))) (by omega) hcap).mono ?_
    rintro e w' ⟨rfl, q, rfl⟩
    have H1 := H.sorted (Value.int .i64) (ys := Lib.compact (z :: zs) ++ List.replicate ((z :: zs).length - (Lib.compact (z :: zs)).length) 0) q #[] (Split.here _ _) (by rw [List.length_append, List.length_replicate]; omega)
    rw [Sort.grow_empty] at H1
    have H2 := H1.shrink (Lib.compact (z :: zs)).length (Split.here _ _) hle
    refine ⟨_, rfl, hle, rfl, ?_⟩
    rw [Nat.mul_one, List.map_append, List.take_left' (by simp)] at H2
    exact H2
set_option maxHeartbeats 400000 in
set_option maxRecDepth 8000 in
theorem rising_calls (src : Option Addr) (l : List Int) (n c : Nat) (hn : Hid (l.length = n)) (hnn : n ≤ 1000000000) (w : World) (H : St [] w w [(false, soft src (intsN l))]) :
    Calls Tryz.prog 24 #[.slice src n c] w fun e w' => ∃ key n' cap, Hid (n' = (rising l).length) ∧ n' ≤ n ∧ e = .returned (sl key n' cap) ∧ St [] w w' [(true, .row key 3 1 n' cap (intsN (rising l)))] := by
  go_enter Tryz.func24, Tryz.ntmps24
  repeat' (first | (go_big_may; (first
    | go_skip
    | ((first
        | (go_at_call 25; refine Calls.mono (clone_calls src l n c hn hnn _ (H.pick (by repeat (first | exact Picks.nil _ | (apply Picks.wr; focus (repeat (first | exact Split.here _ _ | apply Split.there))) | (apply Picks.rd; focus (repeat (first | exact Split.here _ _ | apply Split.there))))))) ?_; rintro e w' ⟨key, cap, rfl, H'⟩; replace H := H.merge (by first | exact Strikes.nil _ | (repeat (first | exact Strikes.nil _ | (apply Strikes.cons; focus (repeat (first | exact Split.here _ _ | apply Split.there)))))) H' rfl; clear H')
        | (refine loud_ rfl ?_; refine wpList_plain rfl (fun K hK => ?_); (first | (refine op_box _ _ rfl H (fun b w' H1 => hK _ _ ?_)) | (refine op_alloc _ rfl (zero_of _ _ rfl) H (fun b w' H1 => hK _ _ ?_)) | (refine op_store _ _ _ rfl rfl rfl H (by repeat (first | exact Split.here _ _ | apply Split.there)) (by kernel_rfl) (by kernel_rfl) (by kernel_rfl) (fun w' H1 => hK _ _ ?_)) | (refine op_buildSlice_all _ _ _ rfl (by first | exact elem22 | exact elem60 | exact elem66 | exact elem72 | exact elem74) (by kernel_rfl) (by kernel_rfl) (by kernel_rfl) H (fun b w' H1 => hK _ _ ?_))); clear hK K; replace H := H1; clear H1)); (try clear hc); (try simp only [nrm, splice, Value.cells, Nat.reduceAdd, Act.eval, Act.put] at H); have hc := H.cells; simp only [CellsOf, KnCells, knc, Nat.reduceAdd] at hc))) | go_values | go_skip | go_guarded | go_step | go_upon | go_back | dsimp only)
  have hn1 : Hid (n = l.length) := hn.out.symm
  refine Calls.mono (sort_calls _ key n cap l hn1 (by omega) _ (H.pick (by repeat (first | exact Picks.nil _ | (apply Picks.wr; focus (repeat (first | exact Split.here _ _ | apply Split.there))) | (apply Picks.rd; focus (repeat (first | exact Split.here _ _ | apply Split.there))))))) ?_
  rintro e w' ⟨rfl, H'⟩
  replace H := H.merge (by first | exact Strikes.nil _ | (repeat (first | exact Strikes.nil _ | (apply Strikes.cons; focus (repeat (first | exact Split.here _ _ | apply Split.there)))))) H' rfl
  clear H'
  (try simp only [nrm, splice, Value.cells, Nat.reduceAdd, Act.eval, Act.put] at H); have hc := H.cells; simp only [CellsOf, KnCells, knc, Nat.reduceAdd] at hc
  have hn2 : Hid (n = (sortI l).length) := hn1.out.trans (sortI_len l).symm
  repeat' (first | (go_big_may; (first
    | go_skip
    | ((first
        | (go_at_call 44; refine Calls.mono (compact_calls _ key n cap (sortI l) hn2 (by omega) _ (H.pick (by repeat (first | exact Picks.nil _ | (apply Picks.wr; focus (repeat (first | exact Split.here _ _ | apply Split.there))) | (apply Picks.rd; focus (repeat (first | exact Split.here _ _ | apply Split.there))))))) ?_; rintro e w' ⟨n', hn', hle, rfl, H'⟩; replace H := H.merge (by first | exact Strikes.nil _ | (repeat (first | exact Strikes.nil _ | (apply Strikes.cons; focus (repeat (first | exact Split.here _ _ | apply Split.there)))))) H' rfl; clear H')
        | (refine loud_ rfl ?_; refine wpList_plain rfl (fun K hK => ?_); (first | (refine op_box _ _ rfl H (fun b w' H1 => hK _ _ ?_)) | (refine op_alloc _ rfl (zero_of _ _ rfl) H (fun b w' H1 => hK _ _ ?_)) | (refine op_store _ _ _ rfl rfl rfl H (by repeat (first | exact Split.here _ _ | apply Split.there)) (by kernel_rfl) (by kernel_rfl) (by kernel_rfl) (fun w' H1 => hK _ _ ?_)) | (refine op_buildSlice_all _ _ _ rfl (by first | exact elem22 | exact elem60 | exact elem66 | exact elem72 | exact elem74) (by kernel_rfl) (by kernel_rfl) (by kernel_rfl) H (fun b w' H1 => hK _ _ ?_))); clear hK K; replace H := H1; clear H1)); (try clear hc); (try simp only [nrm, splice, Value.cells, Nat.reduceAdd, Act.eval, Act.put] at H); have hc := H.cells; simp only [CellsOf, KnCells, knc, Nat.reduceAdd] at hc))) | go_values | go_skip | go_guarded | go_step | go_upon | go_back | dsimp only)
  go_ret
  exact ⟨key, n', cap, hn', hle, rfl, H.top1⟩
end Go.Proofs.YtikaldcoakpfoaaGreatDoor
