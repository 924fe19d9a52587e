import Derived.Test.YtjoiekpedmhfbaaLruZ
namespace Go.Proofs.Ytjoiekpedmhfbaa
set_option linter.unusedVariables false
set_option linter.unusedSimpArgs false
set_option linter.unnecessarySimpa false
open Go.RowKit Go.V

theorem lies_runs {Ma Mb : Nat} (hM : Ma ≠ 0) (hab : Mb = 0 ∨ Ma ≤ Mb) (ops : List LOp) : ∀ {a b : List KV}, Lies2 Ma a b → Sound Ma a → Sound Mb b → Lies2 Ma (cruns Ma a ops) (cruns Mb b ops) := by
  induction ops with
  | nil => intro a b h _ _; exact h
  | cons o r ih =>
    intro a b h sa sb
    have s1 := sound_runs (M := Ma) [o] sa
    have s2 := sound_runs (M := Mb) [o] sb
    refine ih (a := cnext Ma a o) (b := cnext Mb b o) ?_ s1 s2
    unfold cnext
    split
    · exact lies_add h hM hab sa sb _ _
    · exact lies_get h sb.nd _
theorem ctells_len (M : Nat) (ops : List LOp) (l : List KV) : (ctells M l ops).length = ops.length := by
  induction ops generalizing l with
  | nil => rfl
  | cons o r ih =>
    show (ctells M (cnext M l o) r).length + 1 = _
    rw [ih]
    rfl
theorem ctells_get (M : Nat) (ops : List LOp) : ∀ (l : List KV) (j : Nat) (hj : j < ops.length), (ctells M l ops)[j]? = some (cans (cruns M l (ops.take j)) ops[j]) := by
  induction ops with
  | nil => intro l j hj; simp at hj
  | cons o r ih =>
    intro l j hj
    cases j with
    | zero => rfl
    | succ j => exact ih (cnext M l o) j (by simpa using hj)
theorem tell_len {rs : List LA} {M : Nat} {ops : List LOp} (h : rs.map LA.tell = ctells M [] ops) : rs.length = ops.length := by
  have := congrArg List.length h
  rwa [List.length_map, ctells_len] at this
theorem tell_at {rs : List LA} {M : Nat} {ops : List LOp} (h : rs.map LA.tell = ctells M [] ops) {j : Nat} (hj : j < ops.length) (hj' : j < rs.length) : rs[j].tell = cans (cruns M [] (ops.take j)) ops[j] := by
  have h1 := ctells_get M ops [] j hj
  rw [← h, List.getElem?_map, List.getElem?_eq_getElem hj'] at h1
  simpa using h1
theorem cans_add (l : List KV) (k v : Int) : cans l ⟨1, k, v⟩ = (false, 0) := rfl
theorem cans_some {l : List KV} {k v u : Int} (h : cget l k = some u) : cans l ⟨2, k, v⟩ = (true, u) := by
  unfold cans
  rw [if_neg (show ¬ (2 : Int) = 1 by decide), h]
theorem cans_none {l : List KV} {k v : Int} (h : cget l k = none) : cans l ⟨2, k, v⟩ = (false, 0) := by
  unfold cans
  rw [if_neg (show ¬ (2 : Int) = 1 by decide), h]
/-- What the three caches answer. -/
theorem three {Ma Mb : Nat} (hM : 0 < Ma) (hab : Ma ≤ Mb) (ops : List LOp) (k : Int) :
    (cget (cruns 0 [] ops) k = none ∧ cget (cruns Mb [] ops) k = none ∧ cget (cruns Ma [] ops) k = none) ∨
    ∃ v, cget (cruns 0 [] ops) k = some v ∧ ((cget (cruns Mb [] ops) k = none ∧ cget (cruns Ma [] ops) k = none) ∨ (cget (cruns Mb [] ops) k = some v ∧ (cget (cruns Ma [] ops) k = none ∨ cget (cruns Ma [] ops) k = some v))) := by
  have s0 : ∀ M, Sound M [] := fun M => ⟨List.nodup_nil, fun _ => Nat.zero_le _⟩
  have l0 : ∀ M, Lies2 M [] [] := fun M => ⟨List.Sublist.refl _, fun _ => rfl⟩
  have h1 := lies_runs (Ma := Ma) (Mb := Mb) (by omega) (.inr hab) ops (l0 Ma) (s0 Ma) (s0 Mb)
  have h2 := lies_runs (Ma := Mb) (Mb := 0) (by omega) (.inl rfl) ops (l0 Mb) (s0 Mb) (s0 0)
  have n1 := (sound_runs (M := Mb) ops (s0 Mb)).nd
  have n2 := (sound_runs (M := 0) ops (s0 0)).nd
  cases hb : cget (cruns Mb [] ops) k with
  | some v =>
    refine .inr ⟨v, lies_found h2 n2 hb, .inr ⟨rfl, ?_⟩⟩
    cases ha : cget (cruns Ma [] ops) k with
    | none => exact .inl rfl
    | some u =>
      have := lies_found h1 n1 ha
      rw [hb] at this
      cases this
      exact .inr rfl
  | none =>
    have ha : cget (cruns Ma [] ops) k = none := by
      cases ha : cget (cruns Ma [] ops) k with
      | none => rfl
      | some u =>
        have := lies_found h1 n1 ha
        rw [hb] at this
        cases this
    cases hc : cget (cruns 0 [] ops) k with
    | none => exact .inl ⟨rfl, rfl, ha⟩
    | some v => exact .inr ⟨v, rfl, .inl ⟨rfl, ha⟩⟩
theorem last_add (ops : List LOp) (k v k' : Int) : cget (cruns 0 [] (ops ++ [⟨1, k, v⟩])) k' = if k = k' then some v else cget (cruns 0 [] ops) k' := by
  rw [cruns_snoc]
  exact add_keeps _ _ _ _
theorem last_get (ops : List LOp) (k v k' : Int) : cget (cruns 0 [] (ops ++ [⟨2, k, v⟩])) k' = cget (cruns 0 [] ops) k' := by
  rw [cruns_snoc]
  exact get_keeps _ _ _
theorem la_len (l : List LA) : (l.flatMap LA.cells).length = l.length * 4 := by
  induction l with
  | nil => rfl
  | cons a l ih => rw [List.flatMap_cons, List.length_append, ih, List.length_cons]; show 4 + _ = _; omega
theorem split_mid (A : List Ent) (e : Ent) (B : List Ent) : Split (A ++ e :: B) e A B := by
  induction A with
  | nil => exact Split.here e B
  | cons x A ih => exact Split.there x ih
theorem lies_of_row {w : World} {b : Nat} {T : TypeId} {s n cap : Nat} {xs : List Value} (h : holds w (.row (some b) T s n cap xs)) : Lies w (some ⟨b, 0, none⟩) xs := by
  obtain ⟨cur, hc, _, _, _, rfl⟩ := h
  refine ⟨fun h2 => (by cases h2), ?_⟩
  intro ad had j u hu
  refine (lies_of_cells hc).2 ad had j u ?_
  rw [List.getElem?_take] at hu
  split at hu
  · exact hu
  · cases hu
/-- A row that is only read from here on. -/
theorem _root_.Go.V.St.rowSoft {S : List Nat} {w0 w : World} {L A B : List Ent} {b : Nat} {T : TypeId} {s n cap : Nat} {xs : List Value} (H : St S w0 w L) (hs : Split L (true, .row (some b) T s n cap xs) A B) : St S w0 w ((false, soft (some ⟨b, 0, none⟩) xs) :: (A ++ B)) := by
  have hl := lies_of_row (H.get hs)
  have H1 := H.ro hs
  have H2 := H1.sub (split_mid A _ B) (soft (some ⟨b, 0, none⟩) xs) (soft_holds hl) (by
    intro c hc
    cases xs with
    | nil => simp [Kn.fp, softFp] at hc
    | cons x r => simpa [Kn.fp, softFp] using hc)
  exact H2.sublist (List.Sublist.cons_cons _ (List.Sublist.append_left (List.sublist_cons_self _ _) _))
end Go.Proofs.Ytjoiekpedmhfbaa
