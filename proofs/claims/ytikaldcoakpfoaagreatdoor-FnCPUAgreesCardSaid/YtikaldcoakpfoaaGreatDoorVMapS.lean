import Derived.Test.YtikaldcoakpfoaaGreatDoorVMap
import Derived.Maps.Range
namespace Go.V
set_option linter.unusedVariables false
set_option linter.unusedSimpArgs false
set_option linter.unnecessarySimpa false
open Go Go.RowKit
open Go.ChangeMaps (setBlock)

section
variable {P : Program} {S : List Nat} {w0 w : World} {L : List Ent} {o : Oper} {a : Act} {K : Act → World → Prop} {Q : Exit → Act → World → Prop}
/-- A key that is there: its value. -/
theorem op_lookStr (t k e : TypeId) (m x : Operand) (ho : o.op = .lookup t m x true) (ht : P.underlying t = some (.map k e)) (hk : P.underlying k = some .string) {b clock : Nat} {es : Array MapEntry} {s : ByteArray} {v : Value}
    (hm : a.eval m = .map (some b)) (hx : a.eval x = .string s) (hb : w.heap[b]? = some (.map es clock)) (hsz : s.size ≤ maxLen) (hkeys : ∀ e ∈ es.toList, ∃ s' : ByteArray, e.key = .string s' ∧ s'.size ≤ maxLen)
    (hin : ∃ e ∈ es.toList, e.key = .string s) (hv : ∀ e ∈ es.toList, e.key = .string s → e.val = v)
    (h : K (a.put o.dst (.tuple #[v, .bool true])) w) : o.wp P a w K Q := by
  refine op_val ?_ h
  unfold execOp
  rw [ho]
  have KK := Maps.string_keyed hk
  have hkey := WideMaps.keyOf_string_mk (P := P) hk hsz
  have hrun : (Instr.lookup t (.map (some b)) (.string s) true).run P w = .ok (.tuple #[v, .bool true]) w := by
    rcases KK.find w hkey es.toList (fun x hx => by
      obtain ⟨s', h1, h2⟩ := hkeys x hx
      exact ⟨_, by rw [h1]; exact WideMaps.keyOf_string_mk (P := P) hk h2⟩) with ⟨h1, h2⟩ | ⟨j, e0, h1, h2, h3⟩
    · exfalso
      obtain ⟨e, he, hek⟩ := hin
      exact h2 e he hek
    · have hv0 := hv e0 (List.mem_of_getElem? h2) h3
      subst hv0
      have hck := KK.check w es.isEmpty hkey
      simp [Instr.lookup, run_underlying ht, MapKept.run_getObj_map hb, hck, h1, Result.andThen]
  simp only [Sem.run_bind, Sem.run_pure, hm, hx, hrun, Result.andThen_ok]
end
/-- What a walk over a map has seen: these entries. -/
def SeenIs (es : Array MapEntry) (seen : Array Nat) (gs : List MapEntry) : Prop := seen.toList = gs.map (·.born) ∧ (∀ e ∈ gs, e ∈ es.toList) ∧ (gs.map (·.born)).Nodup
theorem seen_nil (es : Array MapEntry) : SeenIs es #[] [] := ⟨rfl, fun _ h => (by cases h), List.nodup_nil⟩
theorem left_mem {es : Array MapEntry} {seen : Array Nat} {e : MapEntry} (h : e ∈ (leftOf es seen).toList) : e ∈ es.toList ∧ e.born ∉ seen.toList := by
  unfold leftOf at h
  simp only [Array.toList_filter, List.mem_filter] at h
  refine ⟨h.1, ?_⟩
  have := h.2
  simpa using this
theorem seen_push {es : Array MapEntry} {seen : Array Nat} {gs : List MapEntry} {e : MapEntry} (h : SeenIs es seen gs) (he : e ∈ (leftOf es seen).toList) : SeenIs es (seen.push e.born) (gs ++ [e]) := by
  obtain ⟨h1, h2, h3⟩ := h
  obtain ⟨h4, h5⟩ := left_mem he
  refine ⟨by simp [h1], ?_, ?_⟩
  · intro x hx
    rcases List.mem_append.1 hx with hx | hx
    · exact h2 x hx
    · rw [List.mem_singleton.1 hx]; exact h4
  · rw [List.map_append, List.nodup_append]
    refine ⟨h3, by simp, ?_⟩
    intro a ha b hb e'
    simp only [List.map_cons, List.map_nil, List.mem_singleton] at hb
    rw [h1] at h5
    exact h5 (by rw [← hb, ← e']; exact ha)
theorem nodup_of_map {α β : Type} (f : α → β) {l : List α} (h : (l.map f).Nodup) : l.Nodup := by
  induction l with
  | nil => exact List.nodup_nil
  | cons x l ih =>
    simp only [List.map_cons, List.nodup_cons] at h ⊢
    exact ⟨fun hx => h.1 (List.mem_map.2 ⟨x, hx, rfl⟩), ih h.2⟩
theorem map_inj_of_nodup {α β : Type} (f : α → β) {l : List α} (h : (l.map f).Nodup) {x y : α} (hx : x ∈ l) (hy : y ∈ l) (e : f x = f y) : x = y := by
  induction l with
  | nil => cases hx
  | cons z l ih =>
    simp only [List.map_cons, List.nodup_cons] at h
    rcases List.mem_cons.1 hx with hx1 | hx1 <;> rcases List.mem_cons.1 hy with hy1 | hy1
    · rw [hx1, hy1]
    · exact absurd (List.mem_map.2 ⟨y, hy1, by rw [← e, hx1]⟩) h.1
    · exact absurd (List.mem_map.2 ⟨x, hx1, by rw [e, hy1]⟩) h.1
    · exact ih h.2 hx1 hy1
theorem seen_all {es : Array MapEntry} {seen : Array Nat} {gs : List MapEntry} (h : SeenIs es seen gs) (h0 : (leftOf es seen).size = 0) (hn : (es.toList.map (·.born)).Nodup) : gs.Perm es.toList := by
  obtain ⟨h1, h2, h3⟩ := h
  refine (List.perm_ext_iff_of_nodup (nodup_of_map _ h3) (nodup_of_map _ hn)).2 fun e => ⟨h2 e, fun he => ?_⟩
  have hs : e.born ∈ seen.toList := by
    refine Classical.byContradiction fun hc => ?_
    have hm : e ∈ (leftOf es seen).toList := by
      unfold leftOf
      simp only [Array.toList_filter, List.mem_filter]
      exact ⟨he, by simpa using hc⟩
    have : (leftOf es seen).toList = [] := List.length_eq_zero_iff.1 (by rw [Array.length_toList]; exact h0)
    rw [this] at hm
    cases hm
  rw [h1] at hs
  obtain ⟨g, hg, hgb⟩ := List.mem_map.1 hs
  rw [← map_inj_of_nodup (·.born) hn (h2 g hg) he hgb]
  exact hg
theorem seen_len {es : Array MapEntry} {seen : Array Nat} {gs : List MapEntry} (h : SeenIs es seen gs) : gs.length ≤ es.size := by
  obtain ⟨-, h2, h3⟩ := h
  have hn := nodup_of_map _ h3
  rw [← Array.length_toList]
  clear h3
  generalize es.toList = l at *
  induction gs generalizing l with
  | nil => exact Nat.zero_le _
  | cons x gs ih =>
    have hx := h2 x (by simp)
    rw [List.nodup_cons] at hn
    obtain ⟨s, t, rfl⟩ := List.append_of_mem hx
    have := ih (l := s ++ t) hn.2 (fun y hy => by
      have hy2 := h2 y (by simp [hy])
      simp only [List.mem_append, List.mem_cons] at hy2 ⊢
      rcases hy2 with h | rfl | h
      · exact .inl h
      · exact absurd hy hn.1
      · exact .inr h)
    simp only [List.length_append, List.length_cons] at this ⊢
    omega
theorem range_left {w : World} {m r clock a c : Nat} {es : Array MapEntry} {seen : Array Nat} {q : Option Nat} (h1 : w.heap[m]? = some (.map es clock)) (h2 : w.heap[r]? = some (.mapIter q a seen c)) : w.rangeLeft m r = (leftOf es seen).size := by
  unfold World.rangeLeft
  rw [h1, h2]
end Go.V
