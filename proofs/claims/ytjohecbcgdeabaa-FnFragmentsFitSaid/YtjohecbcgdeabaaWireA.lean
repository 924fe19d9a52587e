import Derived.Test.YtjohecbcgdeabaaT
import Derived.Outline
import Derived.WalkSpells
namespace Go.Proofs.Ytjohecbcgdeabaa
set_option linter.unusedVariables false
set_option linter.unusedSimpArgs false
set_option linter.unnecessarySimpa false
open Go.RowKit Go.V

/-- A key-value as data. -/
structure KVd where
  key : ByteArray
  val : ByteArray
  create : Int
  mod : Int
  ver : Int
  lease : Int
def KVd.value (d : KVd) : Value := .agg #[.string d.key, .string d.val, .int .i64 d.create, .int .i64 d.mod, .int .i64 d.ver, .int .i64 d.lease]
def bytesOf (s : ByteArray) : Array Value := s.data.map fun b => Value.int .u8 b.toNat

/-- A key-value of the store's protocol, in memory. -/
def KvAt (b : Nat) (d : KVd) (fp : List Nat) (w : World) : Prop := ∃ bk bv ck cv xk xv fk fv, fp = [b, bk, bv] ∧ d.key.size ≤ ck ∧ d.val.size ≤ cv ∧
  w.heap[b]? = some (.cells #[.slice (some ⟨bk, 0, none⟩) d.key.size ck, .int .i64 d.create, .int .i64 d.mod, .int .i64 d.ver, .slice (some ⟨bv, 0, none⟩) d.val.size cv, .int .i64 d.lease] 79 (0, 0)) ∧
  w.heap[bk]? = some (.cells (bytesOf d.key ++ xk) 5 fk) ∧ w.heap[bv]? = some (.cells (bytesOf d.val ++ xv) 5 fv)
theorem KvAt.local (b : Nat) (d : KVd) (fp : List Nat) : Local fp (KvAt b d fp) := by
  rintro w w' hs ⟨bk, bv, ck, cv, xk, xv, fk, fv, rfl, h1, h2, h3, h4, h5⟩
  exact ⟨bk, bv, ck, cv, xk, xv, fk, fv, rfl, h1, h2, (hs b (by simp)).trans h3, (hs bk (by simp)).trans h4, (hs bv (by simp)).trans h5⟩

theorem kvIn_calls (k v : ByteArray) (c m r l : Int) (w : World) :
    Calls Try.prog 31 #[.agg #[.string k, .string v, .int .i64 c, .int .i64 m, .int .i64 r, .int .i64 l]] w fun e w' => ∃ b fp, e = .returned (.pointer (some ⟨b, 0, none⟩)) ∧ St [] w w' [(true, .rep fp (KvAt b ⟨k, v, c, m, r, l⟩ fp))] := by
  have H := St.init [] w
  go_enter Try.func31, Try.ntmps31
  go_wp2_with (first
    | (refine loud_ rfl ?_; refine wpList_plain rfl (fun K hK => ?_); first
      | (refine op_convBytes 9 53 5 _ rfl Try.underlying9 Try.underlying53 Try.underlying5 _ rfl H (fun b w' cap cells fr hcap H1 => hK _ _ ?_); clear hK K; replace H := H1; clear H1; (try clear hc); (try simp only [List.nil_append, List.cons_append, List.append_assoc, splice, Value.cells, List.take_succ_cons, List.take_zero, List.drop_succ_cons, List.drop_zero, List.length_cons, List.length_nil, List.size_toArray, Nat.zero_add, Nat.reduceAdd, Act.eval, Array.getD_eq_getD_getElem?, List.getElem?_toArray, List.getElem?_cons_succ, List.getElem?_cons_zero, Option.getD_some, List.flatMap_cons, List.flatMap_nil, List.append_nil, Act.put, List.setIfInBounds_toArray, List.set_cons_succ, List.set_cons_zero] at H); have hc := H.cells; simp only [CellsOf, KnCells] at hc)
      | (refine op_box _ _ rfl H (fun b w' H1 => hK _ _ ?_); clear hK K; replace H := H1; clear H1; (try clear hc); (try simp only [List.nil_append, List.cons_append, List.append_assoc, splice, Value.cells, List.take_succ_cons, List.take_zero, List.drop_succ_cons, List.drop_zero, List.length_cons, List.length_nil, List.size_toArray, Nat.zero_add, Nat.reduceAdd, Act.eval, Array.getD_eq_getD_getElem?, List.getElem?_toArray, List.getElem?_cons_succ, List.getElem?_cons_zero, Option.getD_some, List.flatMap_cons, List.flatMap_nil, List.append_nil, Act.put, List.setIfInBounds_toArray, List.set_cons_succ, List.set_cons_zero] at H); have hc := H.cells; simp only [CellsOf, KnCells] at hc)
      | (refine op_alloc _ rfl (zero_of _ _ rfl) H (fun b w' H1 => hK _ _ ?_); clear hK K; replace H := H1; clear H1; (try clear hc); (try simp only [List.nil_append, List.cons_append, List.append_assoc, splice, Value.cells, List.take_succ_cons, List.take_zero, List.drop_succ_cons, List.drop_zero, List.length_cons, List.length_nil, List.size_toArray, Nat.zero_add, Nat.reduceAdd, Act.eval, Array.getD_eq_getD_getElem?, List.getElem?_toArray, List.getElem?_cons_succ, List.getElem?_cons_zero, Option.getD_some, List.flatMap_cons, List.flatMap_nil, List.append_nil, Act.put, List.setIfInBounds_toArray, List.set_cons_succ, List.set_cons_zero] at H); have hc := H.cells; simp only [CellsOf, KnCells] at hc)
      | (refine op_store _ _ _ rfl rfl rfl H (by repeat (first | exact Split.here _ _ | apply Split.there)) (by kernel_rfl) (by kernel_rfl) (by kernel_rfl) (fun w' H1 => hK _ _ ?_); clear hK K; replace H := H1; clear H1; (try clear hc); (try simp only [List.nil_append, List.cons_append, List.append_assoc, splice, Value.cells, List.take_succ_cons, List.take_zero, List.drop_succ_cons, List.drop_zero, List.length_cons, List.length_nil, List.size_toArray, Nat.zero_add, Nat.reduceAdd, Act.eval, Array.getD_eq_getD_getElem?, List.getElem?_toArray, List.getElem?_cons_succ, List.getElem?_cons_zero, Option.getD_some, List.flatMap_cons, List.flatMap_nil, List.append_nil, Act.put, List.setIfInBounds_toArray, List.set_cons_succ, List.set_cons_zero] at H); have hc := H.cells; simp only [CellsOf, KnCells] at hc)
      | (refine op_buildSlice_all _ _ _ rfl (by first | exact elem22 | exact elem28 | exact elem44 | exact elem53 | exact elem59) (by kernel_rfl) (by kernel_rfl) (by kernel_rfl) H (fun b w' H1 => hK _ _ ?_); clear hK K; replace H := H1; clear H1; (try clear hc); (try simp only [List.nil_append, List.cons_append, List.append_assoc, splice, Value.cells, List.take_succ_cons, List.take_zero, List.drop_succ_cons, List.drop_zero, List.length_cons, List.length_nil, List.size_toArray, Nat.zero_add, Nat.reduceAdd, Act.eval, Array.getD_eq_getD_getElem?, List.getElem?_toArray, List.getElem?_cons_succ, List.getElem?_cons_zero, Option.getD_some, List.flatMap_cons, List.flatMap_nil, List.append_nil, Act.put, List.setIfInBounds_toArray, List.set_cons_succ, List.set_cons_zero] at H); have hc := H.cells; simp only [CellsOf, KnCells] at hc)))
  go_ret
  exact ⟨_, _, rfl, (H.pack (.cons (Split.here _ _) (.cons (Split.there _ (Split.here _ _)) (.cons (Split.here _ _) (.nil _)))) _ (KvAt.local _ ⟨k, v, c, m, r, l⟩ _) ⟨_, _, _, _, _, _, _, _, rfl, by assumption, by assumption, H.get (Split.here _ _), H.get (Split.there _ (Split.there _ (Split.here _ _))), H.get (Split.there _ (Split.here _ _))⟩).sublist (List.Sublist.cons_cons _ (List.nil_sublist _))⟩
end Go.Proofs.Ytjohecbcgdeabaa
