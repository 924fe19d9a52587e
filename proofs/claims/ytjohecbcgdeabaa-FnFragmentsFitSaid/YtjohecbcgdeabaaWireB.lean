import Derived.Test.YtjohecbcgdeabaaWireA
namespace Go.Proofs.Ytjohecbcgdeabaa
set_option linter.unusedVariables false
set_option linter.unusedSimpArgs false
set_option linter.unnecessarySimpa false
open Go.RowKit Go.V

/-- An event as data. -/
structure EVd where
  gone : Bool
  kv : KVd
  has : Bool
  prev : KVd
def EVd.value (d : EVd) : Value := .agg #[.bool d.gone, .string d.kv.key, .string d.kv.val, .int .i64 d.kv.create, .int .i64 d.kv.mod, .int .i64 d.kv.ver, .int .i64 d.kv.lease,
  .bool d.has, .string d.prev.key, .string d.prev.val, .int .i64 d.prev.create, .int .i64 d.prev.mod, .int .i64 d.prev.ver, .int .i64 d.prev.lease]
def typeOf (gone : Bool) : Value := .int .i32 (if gone then 1 else 0)

/-- An event of the protocol, in memory. -/
def ptr (b : Nat) : Value := .pointer (some ⟨b, 0, none⟩)
def EvAt (b : Nat) (d : EVd) (fp : List Nat) (w : World) : Prop := ∃ b1 v2 fp1 fp2, fp = b :: (fp1 ++ fp2) ∧
  w.heap[b]? = some (.cells #[typeOf d.gone, ptr b1, v2] 76 (0, 0)) ∧ KvAt b1 d.kv fp1 w ∧ (if d.has then ∃ b2, v2 = ptr b2 ∧ KvAt b2 d.prev fp2 w else v2 = .pointer none ∧ fp2 = [])
theorem EvAt.local (b : Nat) (d : EVd) (fp : List Nat) : Local fp (EvAt b d fp) := by
  rintro w w' hs ⟨b1, v2, fp1, fp2, rfl, h1, h2, h3⟩
  refine ⟨b1, v2, fp1, fp2, rfl, (hs b (by simp)).trans h1, KvAt.local _ _ _ w w' (fun c hc => hs c (by simp [hc])) h2, ?_⟩
  split
  · rw [if_pos ‹_›] at h3
    obtain ⟨b2, h4, h5⟩ := h3
    exact ⟨b2, h4, KvAt.local _ _ _ w w' (fun c hc => hs c (by simp [hc])) h5⟩
  · rw [if_neg ‹_›] at h3
    exact h3

set_option maxHeartbeats 1000000 in
theorem eventIn_calls (gone : Bool) (k v : ByteArray) (c m r l : Int) (has : Bool) (k' v' : ByteArray) (c' m' r' l' : Int) (w : World) :
    Calls Try.prog 24 #[.agg #[.bool gone, .string k, .string v, .int .i64 c, .int .i64 m, .int .i64 r, .int .i64 l, .bool has, .string k', .string v', .int .i64 c', .int .i64 m', .int .i64 r', .int .i64 l']] w fun e w' =>
      ∃ b fp, e = .returned (.pointer (some ⟨b, 0, none⟩)) ∧ St [] w w' [(true, .rep fp (EvAt b ⟨gone, ⟨k, v, c, m, r, l⟩, has, ⟨k', v', c', m', r', l'⟩⟩ fp))] := by
  have H := St.init [] w
  cases gone <;> cases has
  all_goals
    go_enter Try.func24, Try.ntmps24
    go_wp2_with (first
    | (go_at_call 31; refine Calls.mono (kvIn_calls _ _ _ _ _ _ _) ?_; rintro e w' ⟨b1, fp1, rfl, H'⟩; replace H := H.merge (by first | exact Strikes.nil _ | (repeat (first | exact Strikes.nil _ | (apply Strikes.cons; focus (repeat (first | exact Split.here _ _ | apply Split.there)))))) H' rfl; clear H'; (try clear hc); (try simp only [List.nil_append, List.cons_append, List.append_assoc, splice, Value.cells, List.take_succ_cons, List.take_zero, List.drop_succ_cons, List.drop_zero, List.length_cons, List.length_nil, List.size_toArray, Nat.zero_add, Nat.reduceAdd, Act.eval, Array.getD_eq_getD_getElem?, List.getElem?_toArray, List.getElem?_cons_succ, List.getElem?_cons_zero, Option.getD_some, List.flatMap_cons, List.flatMap_nil, List.append_nil, Act.put, List.setIfInBounds_toArray, List.set_cons_succ, List.set_cons_zero] at H); have hc := H.cells; simp only [CellsOf, KnCells] at hc)
    | (refine loud_ rfl ?_; refine wpList_plain rfl (fun K hK => ?_); first
      | (refine op_box _ _ rfl H (fun b w' H1 => hK _ _ ?_); clear hK K; replace H := H1; clear H1; (try clear hc); (try simp only [List.nil_append, List.cons_append, List.append_assoc, splice, Value.cells, List.take_succ_cons, List.take_zero, List.drop_succ_cons, List.drop_zero, List.length_cons, List.length_nil, List.size_toArray, Nat.zero_add, Nat.reduceAdd, Act.eval, Array.getD_eq_getD_getElem?, List.getElem?_toArray, List.getElem?_cons_succ, List.getElem?_cons_zero, Option.getD_some, List.flatMap_cons, List.flatMap_nil, List.append_nil, Act.put, List.setIfInBounds_toArray, List.set_cons_succ, List.set_cons_zero] at H); have hc := H.cells; simp only [CellsOf, KnCells] at hc)
      | (refine op_alloc _ rfl (zero_of _ _ rfl) H (fun b w' H1 => hK _ _ ?_); clear hK K; replace H := H1; clear H1; (try clear hc); (try simp only [List.nil_append, List.cons_append, List.append_assoc, splice, Value.cells, List.take_succ_cons, List.take_zero, List.drop_succ_cons, List.drop_zero, List.length_cons, List.length_nil, List.size_toArray, Nat.zero_add, Nat.reduceAdd, Act.eval, Array.getD_eq_getD_getElem?, List.getElem?_toArray, List.getElem?_cons_succ, List.getElem?_cons_zero, Option.getD_some, List.flatMap_cons, List.flatMap_nil, List.append_nil, Act.put, List.setIfInBounds_toArray, List.set_cons_succ, List.set_cons_zero] at H); have hc := H.cells; simp only [CellsOf, KnCells] at hc)
      | (refine op_store _ _ _ rfl rfl rfl H (by repeat (first | exact Split.here _ _ | apply Split.there)) (by kernel_rfl) (by kernel_rfl) (by kernel_rfl) (fun w' H1 => hK _ _ ?_); clear hK K; replace H := H1; clear H1; (try clear hc); (try simp only [List.nil_append, List.cons_append, List.append_assoc, splice, Value.cells, List.take_succ_cons, List.take_zero, List.drop_succ_cons, List.drop_zero, List.length_cons, List.length_nil, List.size_toArray, Nat.zero_add, Nat.reduceAdd, Act.eval, Array.getD_eq_getD_getElem?, List.getElem?_toArray, List.getElem?_cons_succ, List.getElem?_cons_zero, Option.getD_some, List.flatMap_cons, List.flatMap_nil, List.append_nil, Act.put, List.setIfInBounds_toArray, List.set_cons_succ, List.set_cons_zero] at H); have hc := H.cells; simp only [CellsOf, KnCells] at hc)
      | (refine op_buildSlice_all _ _ _ rfl (by first | exact elem22 | exact elem28 | exact elem44 | exact elem53 | exact elem59) (by kernel_rfl) (by kernel_rfl) (by kernel_rfl) H (fun b w' H1 => hK _ _ ?_); clear hK K; replace H := H1; clear H1; (try clear hc); (try simp only [List.nil_append, List.cons_append, List.append_assoc, splice, Value.cells, List.take_succ_cons, List.take_zero, List.drop_succ_cons, List.drop_zero, List.length_cons, List.length_nil, List.size_toArray, Nat.zero_add, Nat.reduceAdd, Act.eval, Array.getD_eq_getD_getElem?, List.getElem?_toArray, List.getElem?_cons_succ, List.getElem?_cons_zero, Option.getD_some, List.flatMap_cons, List.flatMap_nil, List.append_nil, Act.put, List.setIfInBounds_toArray, List.set_cons_succ, List.set_cons_zero] at H); have hc := H.cells; simp only [CellsOf, KnCells] at hc)))
    go_ret
    first
      | exact ⟨_, _, rfl, St.top1 (H.pack (.cons (Split.here _ _) (.cons (Split.here _ _) (.nil _))) _ (EvAt.local _ _ _) ⟨_, _, _, [], by simp [Kn.fp], H.get (Split.here _ _), (H.get (Split.there _ (Split.here _ _))).2.2, rfl, rfl⟩)⟩
      | exact ⟨_, _, rfl, St.top1 (H.pack (.cons (Split.there _ (Split.here _ _)) (.cons (Split.there _ (Split.here _ _)) (.cons (Split.here _ _) (.nil _)))) _ (EvAt.local _ _ _) ⟨_, _, _, _, by simp [Kn.fp], H.get (Split.there _ (Split.here _ _)), (H.get (Split.there _ (Split.there _ (Split.here _ _)))).2.2, _, rfl, (H.get (Split.here _ _)).2.2⟩)⟩
end Go.Proofs.Ytjohecbcgdeabaa
