import Derived.Test.YtjoiekpedmhfbaaVMore
namespace Go.Proofs.Ytjoiekpedmhfbaa
set_option linter.unusedVariables false
set_option linter.unusedSimpArgs false
set_option linter.unnecessarySimpa false

/-! A cache as a list of keys and values, the one that was used last ahead. -/
abbrev KV := Int × Int
def cget : List KV → Int → Option Int
  | [], _ => none
  | x :: r, k => if x.1 = k then some x.2 else cget r k
def cdel : List KV → Int → List KV
  | [], _ => []
  | x :: r, k => if x.1 = k then r else x :: cdel r k
/-- A cache behind a question. -/
def cgetS (l : List KV) (k : Int) : List KV := match cget l k with
  | some v => (k, v) :: cdel l k
  | none => l
/-- A cache behind an addition. -/
def caddS (M : Nat) (l : List KV) (k v : Int) : List KV := match cget l k with
  | some _ => (k, v) :: cdel l k
  | none => if M ≠ 0 ∧ M < l.length + 1 then ((k, v) :: l).dropLast else (k, v) :: l
def keys (l : List KV) : List Int := l.map (·.1)
theorem cget_none {l : List KV} {k : Int} : cget l k = none ↔ k ∉ keys l := by
  induction l with
  | nil => simp [cget, keys]
  | cons x r ih =>
    unfold cget
    by_cases h : x.1 = k
    · rw [if_pos h]
      simp [keys, h]
    · rw [if_neg h, ih]
      simp only [keys, List.map_cons, List.mem_cons, not_or]
      exact ⟨fun h2 => ⟨fun e => h e.symm, h2⟩, fun h2 => h2.2⟩
theorem cget_some {l : List KV} {k v : Int} (hn : (keys l).Nodup) : cget l k = some v ↔ (k, v) ∈ l := by
  induction l with
  | nil => simp [cget]
  | cons x r ih =>
    obtain ⟨a, b⟩ := x
    simp only [keys, List.map_cons, List.nodup_cons] at hn
    unfold cget
    by_cases h : a = k
    · subst h
      rw [if_pos rfl]
      constructor
      · rintro ⟨⟩
        exact List.mem_cons_self
      · intro hm
        rcases List.mem_cons.1 hm with hm | hm
        · cases hm
          rfl
        · exact absurd (List.mem_map_of_mem (f := (·.1)) hm) hn.1
    · rw [if_neg h, ih hn.2, List.mem_cons]
      constructor
      · exact .inr
      · rintro (hm | hm)
        · cases hm
          exact absurd rfl h
        · exact hm
theorem cdel_sub (l : List KV) (k : Int) : (cdel l k).Sublist l := by
  induction l with
  | nil => exact List.Sublist.refl _
  | cons x r ih =>
    unfold cdel
    by_cases h : x.1 = k
    · rw [if_pos h]
      exact List.sublist_cons_self _ _
    · rw [if_neg h]
      exact ih.cons_cons _
theorem keys_sub {a b : List KV} (h : a.Sublist b) : (keys a).Sublist (keys b) := h.map _
theorem cdel_none {l : List KV} {k : Int} (h : k ∉ keys l) : cdel l k = l := by
  induction l with
  | nil => rfl
  | cons x r ih =>
    simp only [keys, List.map_cons, List.mem_cons, not_or] at h
    unfold cdel
    rw [if_neg (fun e => h.1 e.symm), ih h.2]
theorem cdel_not {l : List KV} {k : Int} (hn : (keys l).Nodup) : k ∉ keys (cdel l k) := by
  induction l with
  | nil => simp [cdel, keys]
  | cons x r ih =>
    simp only [keys, List.map_cons, List.nodup_cons] at hn
    unfold cdel
    by_cases h : x.1 = k
    · rw [if_pos h]
      subst h
      exact hn.1
    · rw [if_neg h]
      simp only [keys, List.map_cons, List.mem_cons, not_or]
      exact ⟨fun e => h e.symm, ih hn.2⟩
theorem cdel_mono {a b : List KV} (h : a.Sublist b) (hn : (keys b).Nodup) (k : Int) : (cdel a k).Sublist (cdel b k) := by
  induction h with
  | slnil => exact List.Sublist.refl _
  | @cons a b x h ih =>
    simp only [keys, List.map_cons, List.nodup_cons] at hn
    by_cases hx : x.1 = k
    · have hk : k ∉ keys a := fun hm => hn.1 (by rw [hx]; exact (keys_sub h).subset hm)
      rw [cdel_none hk]
      unfold cdel
      rw [if_pos hx]
      exact h
    · conv => rhs; unfold cdel
      rw [if_neg hx]
      exact (ih hn.2).cons _
  | @cons_cons a b x h ih =>
    simp only [keys, List.map_cons, List.nodup_cons] at hn
    unfold cdel
    by_cases hx : x.1 = k
    · rw [if_pos hx, if_pos hx]
      exact h
    · rw [if_neg hx, if_neg hx]
      exact (ih hn.2).cons_cons _
theorem cdel_len {l : List KV} {k v : Int} (h : cget l k = some v) : (cdel l k).length + 1 = l.length := by
  induction l with
  | nil => cases h
  | cons x r ih =>
    unfold cget at h
    unfold cdel
    by_cases hx : x.1 = k
    · rw [if_pos hx]
      rfl
    · rw [if_neg hx] at h ⊢
      simp only [List.length_cons]
      rw [ih h]
theorem dropLast_mono {α : Type} {a b : List α} (h : a.Sublist b) : a.dropLast.Sublist b.dropLast := by
  have h1 := List.reverse_sublist.2 h
  have h2 := h1.tail
  have e1 : a.dropLast = (a.reverse.tail).reverse := by rw [List.tail_reverse, List.reverse_reverse]
  have e2 : b.dropLast = (b.reverse.tail).reverse := by rw [List.tail_reverse, List.reverse_reverse]
  rw [e1, e2]
  exact List.reverse_sublist.2 h2
/-- A cache is sound. -/
structure Sound (M : Nat) (l : List KV) : Prop where
  nd : (keys l).Nodup
  le : M ≠ 0 → l.length ≤ M
theorem sound_front {M : Nat} {l : List KV} (h : Sound M l) {k v v' : Int} (hg : cget l k = some v') : Sound M ((k, v) :: cdel l k) := by
  refine ⟨?_, fun hM => ?_⟩
  · simp only [keys, List.map_cons, List.nodup_cons]
    exact ⟨cdel_not h.nd, (keys_sub (cdel_sub l k)).nodup h.nd⟩
  · have := h.le hM
    have := cdel_len hg
    simp only [List.length_cons]
    omega
theorem sound_get {M : Nat} {l : List KV} (h : Sound M l) (k : Int) : Sound M (cgetS l k) := by
  unfold cgetS
  cases hg : cget l k with
  | none => exact h
  | some v => exact sound_front h hg
theorem sound_add {M : Nat} {l : List KV} (h : Sound M l) (k v : Int) : Sound M (caddS M l k v) := by
  unfold caddS
  cases hg : cget l k with
  | some v' => exact sound_front h hg
  | none =>
    have hnd : (keys ((k, v) :: l)).Nodup := by
      simp only [keys, List.map_cons, List.nodup_cons]
      exact ⟨cget_none.1 hg, h.nd⟩
    simp only
    by_cases hc : M ≠ 0 ∧ M < l.length + 1
    · rw [if_pos hc]
      refine ⟨(keys_sub (List.dropLast_sublist _)).nodup hnd, fun hM => ?_⟩
      have := h.le hM
      rw [List.length_dropLast]
      simp only [List.length_cons]
      omega
    · rw [if_neg hc]
      refine ⟨hnd, fun hM => ?_⟩
      simp only [List.length_cons]
      have : ¬ M < l.length + 1 := fun h' => hc ⟨hM, h'⟩
      omega
/-- A lesser cache lies in a greater one. -/
structure Lies2 (Ma : Nat) (a b : List KV) : Prop where
  sub : a.Sublist b
  full : a.length < Ma → a = b
theorem lies_get {Ma : Nat} {a b : List KV} (h : Lies2 Ma a b) (hb : (keys b).Nodup) (k : Int) : Lies2 Ma (cgetS a k) (cgetS b k) := by
  have ha := (keys_sub h.sub).nodup hb
  unfold cgetS
  cases hga : cget a k with
  | some v =>
    have hgb : cget b k = some v := (cget_some hb).2 (h.sub.subset ((cget_some ha).1 hga))
    rw [hgb]
    refine ⟨(cdel_mono h.sub hb k).cons_cons _, fun hl => ?_⟩
    have := cdel_len hga
    simp only [List.length_cons] at hl
    rw [h.full (by omega)]
  | none =>
    cases hgb : cget b k with
    | none => exact h
    | some v =>
      simp only
      have hk := cget_none.1 hga
      refine ⟨?_, fun hl => ?_⟩
      · have := cdel_mono h.sub hb k
        rw [cdel_none hk] at this
        exact this.cons _
      · have e := h.full hl
        rw [e] at hga
        rw [hga] at hgb
        cases hgb
theorem lies_add {Ma Mb : Nat} {a b : List KV} (h : Lies2 Ma a b) (hM : Ma ≠ 0) (hab : Mb = 0 ∨ Ma ≤ Mb) (sa : Sound Ma a) (sb : Sound Mb b) (k v : Int) : Lies2 Ma (caddS Ma a k v) (caddS Mb b k v) := by
  unfold caddS
  cases hga : cget a k with
  | some v' =>
    have hgb : cget b k = some v' := (cget_some sb.nd).2 (h.sub.subset ((cget_some sa.nd).1 hga))
    rw [hgb]
    refine ⟨(cdel_mono h.sub sb.nd k).cons_cons _, fun hl => ?_⟩
    have := cdel_len hga
    simp only [List.length_cons] at hl
    rw [h.full (by omega)]
  | none =>
    have hk := cget_none.1 hga
    have hle := sa.le hM
    simp only
    cases hgb : cget b k with
    | some v' =>
      -- the greater one has it
      have hfull : ¬ a.length < Ma := fun hl => by
        have e := h.full hl
        rw [e] at hga
        rw [hga] at hgb
        cases hgb
      rw [if_pos ⟨hM, by omega⟩]
      have h1 : a.Sublist (cdel b k) := by
        have := cdel_mono h.sub sb.nd k
        rwa [cdel_none hk] at this
      refine ⟨((List.dropLast_sublist _).trans (h1.cons_cons _)), fun hl => ?_⟩
      rw [List.length_dropLast] at hl
      simp only [List.length_cons] at hl
      omega
    | none =>
      simp only
      by_cases hca : Ma < a.length + 1
      · rw [if_pos ⟨hM, hca⟩]
        have hl' : ¬ ((k, v) :: a).dropLast.length < Ma := by
          rw [List.length_dropLast]
          simp only [List.length_cons]
          omega
        by_cases hcb : Mb ≠ 0 ∧ Mb < b.length + 1
        · rw [if_pos hcb]
          exact ⟨dropLast_mono (h.sub.cons_cons _), fun hl => absurd hl hl'⟩
        · rw [if_neg hcb]
          exact ⟨(List.dropLast_sublist _).trans (h.sub.cons_cons _), fun hl => absurd hl hl'⟩
      · rw [if_neg (fun hx => hca hx.2)]
        have e := h.full (by omega)
        subst e
        have hcb : ¬ (Mb ≠ 0 ∧ Mb < a.length + 1) := by
          rintro ⟨h1, h2⟩
          rcases hab with h3 | h3
          · exact h1 h3
          · omega
        rw [if_neg hcb]
        exact ⟨List.Sublist.refl _, fun _ => rfl⟩
theorem lies_found {Ma : Nat} {a b : List KV} (h : Lies2 Ma a b) (hb : (keys b).Nodup) {k v : Int} (hg : cget a k = some v) : cget b k = some v :=
  (cget_some hb).2 (h.sub.subset ((cget_some ((keys_sub h.sub).nodup hb)).1 hg))
theorem cget_cons (x : KV) (r : List KV) (k : Int) : cget (x :: r) k = if x.1 = k then some x.2 else cget r k := rfl
theorem cget_del {l : List KV} {k k' : Int} (h : k ≠ k') : cget (cdel l k) k' = cget l k' := by
  induction l with
  | nil => rfl
  | cons x r ih =>
    unfold cdel
    by_cases hx : x.1 = k
    · rw [if_pos hx, cget_cons, if_neg (by rw [hx]; exact h)]
    · rw [if_neg hx, cget_cons, cget_cons, ih]
/-- A question changes nothing of what is had. -/
theorem get_keeps (l : List KV) (k k' : Int) : cget (cgetS l k) k' = cget l k' := by
  unfold cgetS
  cases hg : cget l k with
  | none => rfl
  | some v =>
    simp only
    rw [cget_cons]
    by_cases h : k = k'
    · subst h
      rw [if_pos rfl, hg]
    · rw [if_neg h, cget_del h]
/-- A cache without a bound has what was added last. -/
theorem add_keeps (l : List KV) (k v k' : Int) : cget (caddS 0 l k v) k' = if k = k' then some v else cget l k' := by
  unfold caddS
  cases hg : cget l k with
  | none =>
    simp only
    rw [if_neg (fun h => h.1 rfl), cget_cons]
  | some v' =>
    simp only
    rw [cget_cons]
    by_cases h : k = k'
    · rw [if_pos h, if_pos h]
    · rw [if_neg h, if_neg h, cget_del h]
end Go.Proofs.Ytjoiekpedmhfbaa
