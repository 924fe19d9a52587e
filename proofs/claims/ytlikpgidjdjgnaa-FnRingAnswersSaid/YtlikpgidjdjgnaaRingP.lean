import Derived.Test.YtlikpgidjdjgnaaRingD
namespace Go.Proofs.Ytlikpgidjdjgnaa
set_option linter.unusedVariables false
set_option linter.unusedSimpArgs false
set_option linter.unnecessarySimpa false
open Go.RowKit Go.V

/-- A growing ring holds q. -/
structure GInv (n beg : Nat) (data q : List Int) : Prop where
  len : data.length = n
  at' : beg < n ∨ n = 0 ∧ beg = 0
  fits : q.length ≤ n
  has : (data.drop beg ++ data.take beg).take q.length = q

theorem rot_len {n beg : Nat} {data : List Int} (h : data.length = n) (hb : beg ≤ n) : (data.drop beg ++ data.take beg).length = n := by
  simp
  omega
theorem take_set_succ {l : List Int} {k : Nat} {v : Int} (h : k < l.length) : (l.set k v).take (k + 1) = l.take k ++ [v] := by
  rw [List.take_add_one, List.getElem?_set_self h]
  simp [List.take_set_of_le]
theorem rot_set {n beg rd p : Nat} {data : List Int} {v : Int} (h : data.length = n) (hb : beg < n) (hr : rd < n) (hp : (rd + beg) % n = p) :
    (data.set p v).drop beg ++ (data.set p v).take beg = (data.drop beg ++ data.take beg).set rd v := by
  by_cases hc : rd + beg < n
  · rw [Nat.mod_eq_of_lt hc] at hp
    subst hp
    rw [List.set_append_left _ _ (by simp; omega), List.take_set_of_le (by omega), List.drop_set, if_neg (by omega), Nat.add_sub_cancel]
  · have hp' : p = rd + beg - n := by rw [← hp, Nat.mod_eq_sub_mod (by omega), Nat.mod_eq_of_lt (by omega)]
    subst hp'
    rw [List.set_append_right _ _ (by simp; omega), List.drop_set, if_pos (by omega), List.take_set]
    congr 2
    simp
    omega
theorem ginv_room {n beg p : Nat} {data q : List Int} {v : Int} (h : GInv n beg data q) (hr : q.length < n) (hp : (q.length + beg) % n = p) : GInv n beg (data.set p v) (q ++ [v]) := by
  obtain ⟨h1, h2, h3, h4⟩ := h
  have hb : beg < n := by omega
  refine ⟨by simpa using h1, h2, by simp; omega, ?_⟩
  rw [rot_set h1 hb hr hp, List.length_append, List.length_cons, List.length_nil, take_set_succ (by rw [rot_len h1 (by omega)]; omega), h4]
theorem ginv_full {n m beg : Nat} {data q : List Int} {v : Int} (h : GInv n beg data q) (hr : q.length = n) (hm : n < m) : GInv m 0 (grown n m beg data v) (q ++ [v]) := by
  obtain ⟨h1, h2, h3, h4⟩ := h
  have hl := rot_len (beg := beg) h1 (by omega)
  have h5 : (data.drop beg ++ data.take beg).take q.length = data.drop beg ++ data.take beg := List.take_of_length_le (by omega)
  have hq : data.drop beg ++ data.take beg = q := h5.symm.trans h4
  unfold grown
  rw [hq]
  refine ⟨by simp; omega, .inl (by omega), by simp; omega, ?_⟩
  rw [List.drop_zero, List.take_zero, List.append_nil, List.length_append, List.length_cons, List.length_nil, hr, take_set_succ (by simp; omega), List.take_append_of_le_length (by omega), List.take_of_length_le (by omega)]
theorem ginv_first {n beg : Nat} {data q : List Int} {x : Int} (h : GInv n beg data (x :: q)) : beg < n ∧ (ints data)[beg]? = some (.int .i64 x) := by
  obtain ⟨h1, h2, h3, h4⟩ := h
  have hb : beg < n := by simp at h3; omega
  refine ⟨hb, ?_⟩
  have e := congrArg (·[0]?) h4
  simp only [List.length_cons, List.getElem?_take, List.getElem?_cons_zero] at e
  rw [if_pos (by omega), List.getElem?_append_left (by simp; omega), List.getElem?_drop] at e
  unfold ints
  rw [List.getElem?_map, show beg = beg + 0 by omega, e]
  rfl
theorem ginv_read {n beg : Nat} {data q : List Int} {x : Int} (h : GInv n beg data (x :: q)) : GInv n (if beg + 1 = n then 0 else beg + 1) (data.set beg 0) q := by
  obtain ⟨h1, h2, h3, h4⟩ := h
  have hb : beg < n := by simp at h3; omega
  have hq : q.length < n := by simp at h3; omega
  have e0 : data.drop beg = data[beg]'(by omega) :: data.drop (beg + 1) := List.drop_eq_getElem_cons (by omega)
  have e1 : (data.drop (beg + 1) ++ data.take beg).take q.length = q := by
    rw [e0, List.cons_append, List.length_cons, List.take_succ_cons] at h4
    exact (List.cons.inj h4).2
  have e2 : (data.set beg 0).drop (beg + 1) = data.drop (beg + 1) := by rw [List.drop_set, if_pos (by omega)]
  have e3 : (data.set beg 0).take (beg + 1) = data.take beg ++ [0] := take_set_succ (by omega)
  have hl : (data.drop (beg + 1) ++ data.take beg).length = n - 1 := by simp; omega
  have e4 : (data.drop (beg + 1) ++ data.take beg ++ [0]).take q.length = q := by
    rw [List.take_append_of_le_length (by omega), e1]
  refine ⟨by simpa using h1, by split <;> omega, by omega, ?_⟩
  split
  · rename_i hn
    rw [List.drop_zero, List.take_zero, List.append_nil]
    have e5 : data.drop (beg + 1) = [] := List.drop_of_length_le (by omega)
    rw [e5, List.nil_append] at e4
    have e6 : data.set beg 0 = data.take beg ++ [0] := by rw [← e3, List.take_of_length_le (by simp; omega)]
    rw [e6]
    exact e4
  · rw [e2, e3, ← List.append_assoc]
    exact e4
theorem ginv_new (n : Nat) : GInv n 0 (List.replicate n 0) [] := ⟨by simp, by omega, by simp, by simp⟩
end Go.Proofs.Ytlikpgidjdjgnaa
