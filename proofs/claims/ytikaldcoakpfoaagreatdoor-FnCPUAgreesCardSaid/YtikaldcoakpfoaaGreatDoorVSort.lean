import Derived.Test.YtikaldcoakpfoaaGreatDoorVMore
import Derived.Sort.Grow
import Derived.Sort.EncStr
namespace Go.V
set_option linter.unusedVariables false
set_option linter.unusedSimpArgs false
set_option linter.unnecessarySimpa false
open Go Go.RowKit Go.Sort

theorem mapBlock_get {w : World} {b k : Nat} (f : Array Value → Array Value) (h : k ≠ b) : (mapBlock w b f).heap[k]? = w.heap[k]? := by
  unfold mapBlock
  simp only [Array.getElem?_modify, if_neg (Ne.symm h)]
theorem grow_get {w : World} {os : Array Obj} {k : Nat} (h : k < w.heap.size) : (grow w os).heap[k]? = w.heap[k]? := by
  unfold grow
  exact Array.getElem?_append_left h
theorem mapBlock_size (w : World) (b : Nat) (f : Array Value → Array Value) : (mapBlock w b f).heap.size = w.heap.size := by
  unfold mapBlock
  simp
theorem ext_sorted {α : Type} [Inhabited α] (enc : α → Value) (w : World) (n b : Nat) (d : Array α) (os : Array Obj) : Ext [b] w (grow (putRow enc (Sort.ahead w n) b 0 d) os) := by
  refine ⟨rfl, rfl, rfl, ?_, ?_⟩
  · rw [size_grow]
    unfold putRow
    rw [mapBlock_size]
    exact Nat.le_add_right _ _
  · intro k hk hn
    rw [grow_get (by unfold putRow; rw [mapBlock_size]; exact hk)]
    unfold putRow
    rw [mapBlock_get _ (by simpa using hn)]
    rfl
theorem putCells_size {α : Type} [Inhabited α] (enc : α → Value) (d : Array α) (c : Array Value) : (putCells enc 0 d c).size = c.size := by simp [putCells]
theorem putCells_take {α : Type} [Inhabited α] (enc : α → Value) (ys : List α) (c : Array Value) (h : ys.length ≤ c.size) : (putCells enc 0 ys.toArray c).toList.take ys.length = ys.map enc := by
  apply List.ext_getElem?
  intro i
  rw [List.getElem?_take]
  by_cases hi : i < ys.length
  · rw [if_pos hi, Array.getElem?_toList]
    unfold putCells
    rw [Array.getElem?_mapIdx, Array.getElem?_eq_getElem (by omega)]
    simp [hi]
  · rw [if_neg hi, List.getElem?_eq_none (by simpa using hi)]
theorem row_sorted {α : Type} [Inhabited α] (enc : α → Value) {w : World} {b T n cap : Nat} {xs ys : List α} (q : Nat) (os : Array Obj) (h : holds w (.row (some b) T 1 n cap (xs.map enc))) (hl : ys.length = xs.length) :
    holds (grow (putRow enc (Sort.ahead w q) b 0 ys.toArray) os) (.row (some b) T 1 n cap (ys.map enc)) := by
  have hlen := row_length h
  obtain ⟨cur, hg, hcs, hnc, hcm, htake⟩ := row_get h
  have hb : b < w.heap.size := lt_of_get hg
  refine ⟨putCells enc 0 ys.toArray cur, ?_, ?_, hnc, hcm, ?_⟩
  · rw [grow_get (by unfold putRow; rw [mapBlock_size]; exact hb)]
    unfold putRow mapBlock
    simp only [Array.getElem?_modify, if_true]
    have hg' : (Sort.ahead w q).heap[b]? = some (.cells cur T (0, 0)) := hg
    rw [hg']
    rfl
  · rw [putCells_size]; exact hcs
  · rw [List.length_map, Nat.mul_one] at hlen
    rw [Nat.mul_one, ← hlen, ← hl]
    exact putCells_take enc ys cur (by omega)
theorem St.sorted {S : List Nat} {w0 w : World} {L A B : List Ent} {α : Type} [Inhabited α] (enc : α → Value) {b T n cap : Nat} {xs ys : List α} (q : Nat) (os : Array Obj) (H : St S w0 w L) (hs : Split L (true, .row (some b) T 1 n cap (xs.map enc)) A B) (hl : ys.length = xs.length) :
    St S w0 (grow (putRow enc (Sort.ahead w q) b 0 ys.toArray) os) (A ++ (true, .row (some b) T 1 n cap (ys.map enc)) :: B) :=
  H.turn hs (by simpa [Kn.fp] using ext_sorted enc w q b ys.toArray os) (row_sorted enc q os (H.get hs) hl) rfl
theorem row_Holds {α : Type} [Inhabited α] (enc : α → Value) {w : World} {b T n cap : Nat} {xs : List α} (h : holds w (.row (some b) T 1 n cap (xs.map enc))) : Sort.Holds enc w b 0 xs.toArray := by
  have hlen := row_length h
  have hcell := row_cell h
  obtain ⟨cur, hg, hcs, hnc, hcm, htake⟩ := row_get h
  intro j hj
  have hj' : j < xs.length := by simpa using hj
  rw [List.length_map, Nat.mul_one] at hlen
  refine ⟨?_, ?_⟩
  · rw [Nat.zero_add, hcell j (by omega)]
    simp [hj']
  · unfold World.frozen?
    simp [hg]
end Go.V
