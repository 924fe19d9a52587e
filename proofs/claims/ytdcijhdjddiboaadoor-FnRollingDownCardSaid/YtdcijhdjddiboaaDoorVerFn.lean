import Derived.Test.YtdcijhdjddiboaaDoorVerFi
import Derived.Test.YtdcijhdjddiboaaDoorVerFk
namespace Go.Proofs.YtdcijhdjddiboaaDoor
set_option linter.unusedVariables false
set_option linter.unusedSimpArgs false
set_option linter.unnecessarySimpa false
open Go.RowKit Go.V

/-- The members, where those that are left have the text a, all others b. -/
def rollT (n : Nat) (ls : List Nat) (a b : ByteArray) : List ByteArray := (List.range n).map fun j => if j ∈ ls then a else b
theorem rollT_len (n : Nat) (ls : List Nat) (a b : ByteArray) : (rollT n ls a b).length = n := by simp [rollT]
theorem rollT_all (n : Nat) (ls : List Nat) (a b : ByteArray) : ∀ t ∈ rollT n ls a b, t = a ∨ t = b := by
  intro t ht
  simp only [rollT, List.mem_map, List.mem_range] at ht
  obtain ⟨j, _, rfl⟩ := ht
  by_cases h : j ∈ ls
  · rw [if_pos h]; exact .inl rfl
  · rw [if_neg h]; exact .inr rfl
theorem rollT_start (n : Nat) (a b : ByteArray) : rollT n (List.range n) a b = List.replicate n a := by
  unfold rollT
  apply List.ext_getElem
  · simp
  · intro j h1 h2
    simp at h1
    simp [h1]
theorem rollT_end (n : Nat) (a b : ByteArray) : rollT n [] a b = List.replicate n b := by
  unfold rollT
  apply List.ext_getElem
  · simp
  · intro j h1 h2
    simp
theorem erase_mem {ls : List Nat} (hnd : ls.Nodup) {k : Nat} (hk : k < ls.length) (j : Nat) : j ∈ ls.take k ++ ls.drop (k + 1) ↔ j ∈ ls ∧ j ≠ ls[k] := by
  have e : ls = ls.take k ++ ls[k] :: ls.drop (k + 1) := by
    conv => lhs; rw [← List.take_append_drop k ls, List.drop_eq_getElem_cons hk]
  have hnd' := hnd
  rw [e] at hnd'
  rw [List.nodup_append] at hnd'
  obtain ⟨h1, h2, h3⟩ := hnd'
  rw [List.nodup_cons] at h2
  constructor
  · intro hj
    rw [List.mem_append] at hj
    rcases hj with hj | hj
    · refine ⟨List.mem_of_mem_take hj, ?_⟩
      exact h3 j hj _ List.mem_cons_self
    · refine ⟨List.mem_of_mem_drop hj, ?_⟩
      rintro rfl
      exact h2.1 hj
  · rintro ⟨hj, hne⟩
    rw [e, List.mem_append, List.mem_cons] at hj
    rw [List.mem_append]
    rcases hj with hj | hj | hj
    · exact .inl hj
    · exact absurd hj hne
    · exact .inr hj
theorem erase_nodup {ls : List Nat} (hnd : ls.Nodup) (k : Nat) : (ls.take k ++ ls.drop (k + 1)).Nodup := by
  have h : (ls.take k ++ ls.drop (k + 1)).Sublist ls := by
    have := List.Sublist.append_left (List.drop_sublist_drop_left ls (Nat.le_succ k)) (ls.take k)
    rwa [List.take_append_drop] at this
  exact hnd.sublist h
theorem rollT_set {n : Nat} {ls : List Nat} (hnd : ls.Nodup) {k : Nat} (hk : k < ls.length) (a b : ByteArray) : (rollT n ls a b).set ls[k] b = rollT n (ls.take k ++ ls.drop (k + 1)) a b := by
  apply List.ext_getElem
  · simp [rollT]
  · intro j h1 h2
    rw [List.getElem_set]
    have hj : j < n := by simpa [rollT] using h1
    simp only [rollT, List.getElem_map, List.getElem_range]
    by_cases he : ls[k] = j
    · rw [if_pos he, if_neg]
      rw [erase_mem hnd hk]
      exact fun h => h.2 he.symm
    · rw [if_neg he]
      have : (j ∈ ls.take k ++ ls.drop (k + 1)) ↔ j ∈ ls := by
        rw [erase_mem hnd hk]
        exact ⟨fun h => h.1, fun h => ⟨h, fun e => he e.symm⟩⟩
      by_cases hm : j ∈ ls
      · rw [if_pos hm, if_pos (this.2 hm)]
      · rw [if_neg hm, if_neg (fun h => hm (this.1 h))]
section
variable (m : Int) (hm : 2 ≤ m ∧ m ≤ 9000)
include hm
theorem roll_ok1 : (⟨3, m, 0⟩ : Vr).Ok := ⟨by show (0 : Int) ≤ 3 ∧ (3 : Int) ≤ 9999; decide, by show (0 : Int) ≤ m ∧ m ≤ 9999; omega, by show (0 : Int) ≤ 0 ∧ (0 : Int) ≤ 9999; decide⟩
theorem roll_ok2 : (⟨3, m - 1, 0⟩ : Vr).Ok := ⟨by show (0 : Int) ≤ 3 ∧ (3 : Int) ≤ 9999; decide, by show (0 : Int) ≤ m - 1 ∧ m - 1 ≤ 9999; omega, by show (0 : Int) ≤ 0 ∧ (0 : Int) ≤ 9999; decide⟩
theorem roll_seen (d : VD) (n : Nat) (hn : n ≤ 9) (ls : List Nat) (hdn : d.n = n) (hcl : d.cl = vstr ⟨3, m, 0⟩ ∨ d.cl = vstr ⟨3, m - 1, 0⟩) (hst : d.st = vstr ⟨3, m, 0⟩ ∨ d.st = vstr ⟨3, m - 1, 0⟩) (htg : d.dn = true → d.tg = vstr ⟨3, m - 1, 0⟩) :
    Seen d (rollT n ls (vstr ⟨3, m, 0⟩) (vstr ⟨3, m - 1, 0⟩)) := by
  have v1 := vtext_vstr (roll_ok1 m hm)
  have v2 := vtext_vstr (roll_ok2 m hm)
  have both : ∀ t, t = vstr ⟨3, m, 0⟩ ∨ t = vstr ⟨3, m - 1, 0⟩ → VOpt t (verOf t) := by
    rintro t (rfl | rfl)
    · rw [verOf_text v1]; exact v1
    · rw [verOf_text v2]; exact v2
  refine ⟨fun t ht => both t (rollT_all _ _ _ _ t ht), by rw [rollT_len]; omega, both _ hcl, both _ hst, fun _ h => ⟨⟨3, m - 1, 0⟩, ?_⟩, by rw [rollT_len]; exact hdn⟩
  rw [htg h]
  exact verOf_text v2
theorem roll_not_all (n : Nat) (ls : List Nat) (j : Nat) (hj : j ∈ ls) (hjn : j < n) : matchAll ((rollT n ls (vstr ⟨3, m, 0⟩) (vstr ⟨3, m - 1, 0⟩)).map verOf) ⟨3, m - 1, 0⟩ = false := by
  refine matchAll_no (i := j) (by simp [rollT]; exact hjn) ?_
  have e : ((rollT n ls (vstr ⟨3, m, 0⟩) (vstr ⟨3, m - 1, 0⟩)).map verOf)[j]? = some (some ⟨3, m, 0⟩) := by
    rw [List.getElem?_map, List.getElem?_eq_getElem (by rw [rollT_len]; exact hjn)]
    simp only [rollT, List.getElem_map, List.getElem_range, if_pos hj, Option.map_some, verOf_vstr (roll_ok1 m hm)]
  unfold okAt
  rw [e]
  exact decide_eq_false (fun h => by have h2 := h.2.1; simp only [vbase] at h2; omega)
theorem roll_all (n : Nat) : matchAll ((rollT n [] (vstr ⟨3, m, 0⟩) (vstr ⟨3, m - 1, 0⟩)).map verOf) ⟨3, m - 1, 0⟩ = true := by
  refine matchAll_yes (fun i hi => ?_)
  have hin : i < n := by simpa [rollT] using hi
  have e : ((rollT n [] (vstr ⟨3, m, 0⟩) (vstr ⟨3, m - 1, 0⟩)).map verOf)[i]? = some (some ⟨3, m - 1, 0⟩) := by
    rw [List.getElem?_map, List.getElem?_eq_getElem (by rw [rollT_len]; exact hin)]
    simp [rollT, verOf_vstr (roll_ok2 m hm)]
  unfold okAt
  rw [e]
  exact veq_self _
/-- In the downgrade, where the cluster has the target's version, nothing is decided. -/
theorem roll_dec (d : VD) (n : Nat) (ls : List Nat) (hcl : d.cl = vstr ⟨3, m - 1, 0⟩) (htg : d.tg = vstr ⟨3, m - 1, 0⟩) (hd : (d.hd && d.dn) = true) : decOf d (rollT n ls (vstr ⟨3, m, 0⟩) (vstr ⟨3, m - 1, 0⟩)) = vo0 := by
  show decVo (decM d (verOf d.cl) (leastOf _) (verOf d.tg)) = _
  rw [hcl, htg, verOf_vstr (roll_ok2 m hm)]
  cases leastOf ((rollT n ls (vstr ⟨3, m, 0⟩) (vstr ⟨3, m - 1, 0⟩)).map verOf) with
  | none => rfl
  | some y =>
    show decVo (if d.hd && d.dn then _ else _) = _
    rw [hd]
    show decVo (if veq ⟨3, m - 1, 0⟩ ⟨3, m - 1, 0⟩ then _ else _) = _
    rw [veq_self]
    rfl
/-- Behind the downgrade, nothing goes up again. -/
theorem roll_dec_end (d : VD) (n : Nat) (hcl : d.cl = vstr ⟨3, m - 1, 0⟩) (hd : (d.hd && d.dn) = false) : decOf d (rollT n [] (vstr ⟨3, m, 0⟩) (vstr ⟨3, m - 1, 0⟩)) = vo0 := by
  show decVo (decM d (verOf d.cl) (leastOf _) (verOf d.tg)) = _
  rw [hcl, verOf_vstr (roll_ok2 m hm), decM_plain _ _ _ _ hd]
  cases hl : leastOf ((rollT n [] (vstr ⟨3, m, 0⟩) (vstr ⟨3, m - 1, 0⟩)).map verOf) with
  | none => rfl
  | some y =>
    obtain ⟨_, i, hi⟩ := leastOf_min hl
    rw [rollT_end, List.map_replicate, verOf_vstr (roll_ok2 m hm), List.getElem?_replicate] at hi
    split at hi
    · simp only [Option.some.injEq] at hi
      subst hi
      show decVo (if vless ⟨3, m - 1, 0⟩ ⟨3, m - 1, 0⟩ && _ then _ else _) = _
      rw [vless_self]
      rfl
    · cases hi
/-- At first the target is set. -/
theorem roll_dec_first (d : VD) (n : Nat) (hn : 1 ≤ n) (hcl : d.cl = vstr ⟨3, m, 0⟩) (htg : d.tg = vstr ⟨3, m - 1, 0⟩) (hd : (d.hd && d.dn) = true) : decOf d (rollT n (List.range n) (vstr ⟨3, m, 0⟩) (vstr ⟨3, m - 1, 0⟩)) = ⟨0, vstr ⟨3, m - 1, 0⟩, ByteArray.empty, false, false, ByteArray.empty⟩ := by
  show decVo (decM d (verOf d.cl) (leastOf _) (verOf d.tg)) = _
  rw [hcl, htg, verOf_vstr (roll_ok2 m hm), verOf_vstr (roll_ok1 m hm)]
  cases hl : leastOf ((rollT n (List.range n) (vstr ⟨3, m, 0⟩) (vstr ⟨3, m - 1, 0⟩)).map verOf) with
  | none =>
    rcases leastOf_none hl with h | ⟨i, hi⟩
    · have := congrArg List.length h
      simp [rollT] at this
      omega
    · rw [rollT_start, List.map_replicate, verOf_vstr (roll_ok1 m hm), List.getElem?_replicate] at hi
      split at hi <;> simp at hi
  | some y =>
    obtain ⟨_, i, hi⟩ := leastOf_min hl
    rw [rollT_start, List.map_replicate, verOf_vstr (roll_ok1 m hm), List.getElem?_replicate] at hi
    split at hi
    · simp only [Option.some.injEq] at hi
      subst hi
      show decVo (if d.hd && d.dn then _ else _) = _
      rw [hd]
      have h1 : veq ⟨3, m - 1, 0⟩ ⟨3, m, 0⟩ = false := decide_eq_false (fun h => by have h2 := h.2.1; simp only at h2; omega)
      have h2 : vdown ⟨3, m, 0⟩ ⟨3, m - 1, 0⟩ = true := vdown_iff.2 ⟨rfl, rfl, rfl⟩
      show decVo (if veq ⟨3, m - 1, 0⟩ ⟨3, m, 0⟩ then _ else if vdown ⟨3, m, 0⟩ ⟨3, m - 1, 0⟩ && vdown ⟨3, m, 0⟩ ⟨3, m - 1, 0⟩ then _ else _) = _
      rw [h1, h2]
      rfl
    · cases hi
theorem roll_st (cl st : ByteArray) (hcl : cl = vstr ⟨3, m - 1, 0⟩) (hst : st = vstr ⟨3, m, 0⟩) : stVo (verOf cl) (verOf st) = ⟨0, ByteArray.empty, vstr ⟨3, m - 1, 0⟩, false, false, ByteArray.empty⟩ := by
  rw [hcl, hst, verOf_vstr (roll_ok2 m hm), verOf_vstr (roll_ok1 m hm)]
  unfold stVo
  simp only
  rw [if_neg (fun h => by have := h.2.1; omega), if_neg (fun h => by have := h.2; omega)]
theorem roll_st2 (cl st : ByteArray) (hcl : cl = vstr ⟨3, m - 1, 0⟩) (hst : st = vstr ⟨3, m - 1, 0⟩) : stVo (verOf cl) (verOf st) = vo0 := by
  rw [hcl, hst, verOf_vstr (roll_ok2 m hm)]
  unfold stVo
  simp
end
end Go.Proofs.YtdcijhdjddiboaaDoor
