import Derived.Test.YtikaldcoakpfoaaGreatDoorVMore
import Derived.Maps.RangeRun
import Derived.Maps.Keyed
import Derived.Carry
namespace Go.V
set_option linter.unusedVariables false
set_option linter.unusedSimpArgs false
set_option linter.unnecessarySimpa false
open Go Go.RowKit
open Go.ChangeMaps (setBlock)

section
variable {P : Program} {S : List Nat} {w0 w : World} {L : List Ent} {o : Oper} {a : Act} {K : Act → World → Prop} {Q : Exit → Act → World → Prop}

theorem op_makeMap (T : TypeId) (ho : o.op = .makeMap T none) (H : St S w0 w L)
    (h : ∀ b w', St S w0 w' ((true, .is b (.map #[] 0)) :: L) → K (a.put o.dst (.map (some b))) w') : o.wp P a w K Q :=
  op_val (by unfold execOp; rw [ho]; rfl) (h _ _ (H.alloc _))

theorem setBlock_ext (w : World) (b : Nat) (o : Obj) : Ext [b] w (setBlock w b o) :=
  ⟨rfl, rfl, rfl, by simp [setBlock], fun k _ hk => by simp only [List.mem_singleton] at hk; rw [setBlock]; simp only; rw [Array.getElem?_setIfInBounds, if_neg (fun h => hk h.symm)]⟩
theorem setBlock_get {w : World} {b : Nat} {o : Obj} (o' : Obj) (h : w.heap[b]? = some o) : (setBlock w b o').heap[b]? = some o' := by
  have := lt_of_get h
  simp [setBlock, this]

/-- A new key (a string longer than all that are there). -/
theorem op_mapPut (t k e : TypeId) (m x y : Operand) (ho : o.op = .mapUpdate t m x y) (ht : P.underlying t = some (.map k e)) (hk : P.underlying k = some .string) {b : Nat} {es : Array MapEntry} {clock : Nat} {A B : List Ent} {s : ByteArray} {v : Value}
    (hm : a.eval m = .map (some b)) (hx : a.eval x = .string s) (hy : a.eval y = v) (H : St S w0 w L) (hs : Split L (true, .is b (.map es clock)) A B)
    (hkeys : ∀ e ∈ es.toList, ∃ s' : ByteArray, e.key = .string s' ∧ s'.size < s.size) (hsz : s.size ≤ maxLen)
    (h : ∀ w', St S w0 w' (A ++ (true, .is b (.map (es.push ⟨.string s, v, clock⟩) (clock + 1))) :: B) → K (a.put o.dst undef) w') : o.wp P a w K Q := by
  have hg := H.get hs
  have KK := Maps.string_keyed hk
  have hkey := WideMaps.keyOf_string_mk (P := P) hk hsz
  have hrun : (Instr.mapUpdate t (.map (some b)) (.string s) v).run P w = .ok () (setBlock w b (.map (es.push ⟨.string s, v, clock⟩) (clock + 1))) := by
    rcases KK.find w hkey es.toList (fun x hx => by
      obtain ⟨s', h1, h2⟩ := hkeys x hx
      exact ⟨_, by rw [h1]; exact WideMaps.keyOf_string_mk (P := P) hk (by omega)⟩) with ⟨h1, h2⟩ | ⟨j, e0, h1, h2, h3⟩
    · simp [Instr.mapUpdate, run_underlying ht, MapKept.run_getObj_map hg, KK.check w false hkey, h1, MapKept.run_setObj_map _ hg, Result.andThen, setBlock]
    · exfalso
      obtain ⟨s', h4, h5⟩ := hkeys e0 (List.mem_of_getElem? h2)
      rw [h3] at h4
      cases h4
      omega
  refine op_none ?_ (h _ (H.turn (k' := .is b (.map (es.push ⟨.string s, v, clock⟩) (clock + 1))) hs (setBlock_ext w b _) (setBlock_get _ hg) rfl))
  unfold execOp
  rw [ho]
  simp only [Sem.run_bind, Sem.run_pure, hm, hx, hy, hrun, Result.andThen_ok]

theorem op_range (t k e : TypeId) (m : Operand) (ho : o.op = .range t m) (ht : P.underlying t = some (.map k e)) {b : Nat} {es : Array MapEntry} {clock : Nat}
    (hm : a.eval m = .map (some b)) (H : St S w0 w L) (hb : w.heap[b]? = some (.map es clock))
    (h : ∀ r w', St S w0 w' ((true, .is r (.mapIter (some b) clock #[] clock)) :: L) → K (a.put o.dst (.pointer (some ⟨r, 0, none⟩))) w') : o.wp P a w K Q := by
  refine op_val ?_ (h _ _ (H.alloc _))
  unfold execOp
  rw [ho]
  simp only [Sem.run_bind, Sem.run_pure, hm, run_range_map w t k e b es clock ht hb, Result.andThen_ok]

theorem op_next_done (it : Operand) (ho : o.op = .next it false) {r m since c0 clock : Nat} {seen : Array Nat} {es : Array MapEntry} {A B : List Ent} {p : Bool}
    (hi : a.eval it = .pointer (some ⟨r, 0, none⟩)) (H : St S w0 w L) (hs : Split L (p, .is r (.mapIter (some m) since seen c0)) A B)
    (hb : w.heap[m]? = some (.map es clock)) (hold : ∀ x ∈ es.toList, x.born < since) (hsc : since ≤ c0) (h0 : (leftOf es seen).size = 0)
    (h : K (a.put o.dst (.tuple #[.bool false])) w) : o.wp P a w K Q := by
  refine op_val ?_ h
  unfold execOp
  rw [ho]
  rcases run_next_at (P := P) w o.type r m since c0 seen es clock (H.obj hs) hb hold hsc with ⟨_, hrun⟩ | ⟨e, he, _⟩
  · simp only [Sem.run_bind, Sem.run_pure, hi, hrun, Result.andThen_ok]
  · exfalso
    have := Array.eq_empty_of_size_eq_zero h0
    rw [this] at he
    cases he

theorem op_next_more (it : Operand) (ho : o.op = .next it false) {r m since c0 clock : Nat} {seen : Array Nat} {es : Array MapEntry} {A B : List Ent}
    (hi : a.eval it = .pointer (some ⟨r, 0, none⟩)) (H : St S w0 w L) (hs : Split L (true, .is r (.mapIter (some m) since seen c0)) A B)
    (hb : w.heap[m]? = some (.map es clock)) (hold : ∀ x ∈ es.toList, x.born < since) (hsc : since ≤ c0) (h0 : (leftOf es seen).size ≠ 0)
    (h : ∀ e w', e ∈ (leftOf es seen).toList → St S w0 w' (A ++ (true, .is r (.mapIter (some m) since (seen.push e.born) clock)) :: B) → K (a.put o.dst (.tuple #[.bool true, e.key, e.val])) w') : o.wp P a w K Q := by
  rcases run_next_at (P := P) w o.type r m since c0 seen es clock (H.obj hs) hb hold hsc with ⟨h1, _⟩ | ⟨e, he, w1, hw1, hrun⟩
  · exact absurd h1 h0
  · have H1 : St S w0 w1 L := by
      rcases hw1 with rfl | rfl
      · exact H
      · exact H.drew
    refine op_val ?_ (h e _ he (H1.turn (k' := .is r (.mapIter (some m) since (seen.push e.born) clock)) hs (setBlock_ext w1 r _) (setBlock_get _ (H1.obj hs)) rfl))
    unfold execOp
    rw [ho]
    simp only [Sem.run_bind, Sem.run_pure, hi, hrun, Result.andThen_ok]

theorem op_entry (it : Operand) (ho : o.op = .entry it) {r m since clock : Nat} {seen : Array Nat} {es : Array MapEntry} {A B : List Ent} {e : MapEntry} {p : Bool}
    (hi : a.eval it = .pointer (some ⟨r, 0, none⟩)) (H : St S w0 w L) (hs : Split L (p, .is r (.mapIter (some m) since (seen.push e.born) clock)) A B)
    (hb : w.heap[m]? = some (.map es clock)) (he : e ∈ es.toList) (hn : (es.toList.map (·.born)).Nodup)
    (h : K (a.put o.dst (.tuple #[e.key, e.val])) w) : o.wp P a w K Q := by
  refine op_val ?_ h
  unfold execOp
  rw [ho]
  simp only [Sem.run_bind, Sem.run_pure, hi, run_entry_at w r m since seen es clock e (H.obj hs) hb he hn, Result.andThen_ok]
end
end Go.V
