import Derived.Test.YtlikpgidjdjgnaaRingS
namespace Go.Proofs.Ytlikpgidjdjgnaa
set_option linter.unusedVariables false
set_option linter.unusedSimpArgs false
set_option linter.unnecessarySimpa false
open Go.RowKit Go.V

/-- What a fixed ring holds, from its cursor on. -/
def spun (c : Nat) (data : List Int) : List Int := data.drop c ++ data.take c
theorem spun_write {N c : Nat} {data p : List Int} (hc : c < N) (hd : data.length = N) (hp : p.length ≤ N) : spun ((c + p.length) % N) (wr2 N c data p) = (spun c data).drop p.length ++ p := by
  unfold spun
  have hl : (data.drop c).length = N - c := by simp [hd]
  by_cases h1 : p.length ≤ N - c
  · rw [wr2_one h1]
    by_cases h2 : c + p.length = N
    · have e1 : data.drop N = [] := List.drop_of_length_le (by omega)
      have e2 : (data.drop c).drop p.length = [] := List.drop_of_length_le (by omega)
      rw [h2, Nat.mod_self, List.drop_zero, List.take_zero, List.append_nil, List.drop_append, hl, show p.length - (N - c) = 0 by omega, List.drop_zero, e1, e2, List.nil_append, List.append_nil]
    · rw [Nat.mod_eq_of_lt (by omega)]
      have hla : (data.take c ++ p).length = c + p.length := by simp; omega
      rw [List.drop_append, List.drop_of_length_le (Nat.le_of_eq hla), hla, Nat.sub_self, List.drop_zero, List.nil_append, List.take_append, List.take_of_length_le (Nat.le_of_eq hla), hla, Nat.sub_self, List.take_zero, List.append_nil]
      rw [List.drop_append, hl, show p.length - (N - c) = 0 by omega, List.drop_zero, List.drop_drop, List.append_assoc]
  · obtain ⟨r, rfl⟩ : ∃ r, N = c + r := ⟨N - c, by omega⟩
    rw [wr2_two]
    have hr : (p.take r).length = r := by simp; omega
    have hq : (p.drop r).length = p.length - r := by simp
    have hm : (c + p.length) % (c + r) = p.length - r := by
      rw [show c + p.length = (p.length - r) + (c + r) by omega, Nat.add_mod_right, Nat.mod_eq_of_lt (by omega)]
    have e0 : data.drop (c + r) = [] := List.drop_of_length_le (by omega)
    rw [hm, hr, e0, List.append_nil]
    rw [List.drop_append, List.drop_of_length_le (Nat.le_of_eq hq), hq, Nat.sub_self, List.drop_zero, List.nil_append, List.take_append, List.take_of_length_le (Nat.le_of_eq hq), hq, Nat.sub_self, List.take_zero, List.append_nil]
    have ht : (data.take c).length = c := by simp; omega
    have e1 : (data.drop c).drop p.length = [] := List.drop_of_length_le (by omega)
    rw [List.drop_append, ht, show p.length - r - c = 0 by omega, List.drop_zero, List.append_assoc, List.take_append_drop]
    rw [List.drop_append, e1, hl, List.nil_append, show c + r - c = r by omega]
theorem spun_len {c : Nat} {data : List Int} : (spun c data).length = data.length := by
  unfold spun
  simp
  omega

/-- What a fixed ring has of what was written. -/
structure FInv (r : FR) (h : List Int) : Prop where
  ok : r.Ok
  len : r.t = h.length
  cur : r.t < r.N → r.c = r.t
  has : (spun r.c r.data).drop (r.N - min r.N r.t) = h.drop (r.t - min r.N r.t)

theorem FInv.write {r : FR} {h : List Int} (i : FInv r h) (v : List Int) (hb : r.t + v.length ≤ 1000000000000) : FInv (r.write v) (h ++ v) := by
  obtain ⟨N, c, t, data⟩ := r
  obtain ⟨⟨hpos, hs, hc, hd, ht⟩, hl, hcu, hh⟩ := i
  simp only at *
  have hplen : (v.drop (v.length - N)).length = min v.length N := by simp; omega
  have hrot := spun_write (p := v.drop (v.length - N)) hc hd (by rw [hplen]; omega)
  rw [hplen] at hrot
  refine ⟨⟨hpos, hs, Nat.mod_lt _ hpos, wr2_len hd hc (by rw [hplen]; exact Nat.min_le_right _ _), hb⟩, by simp [FR.write, hl], ?_, ?_⟩
  · intro h1
    have h1' : t + v.length < N := h1
    have h2 := hcu (by omega)
    show (c + min v.length N) % N = t + v.length
    rw [h2, Nat.min_eq_left (by omega), Nat.mod_eq_of_lt (by omega)]
  · show (spun ((c + min v.length N) % N) (wr2 N c data (v.drop (v.length - N)))).drop (N - min N (t + v.length)) = (h ++ v).drop (t + v.length - min N (t + v.length))
    rw [hrot]
    have hrl : (spun c data).length = N := by rw [spun_len, hd]
    by_cases hn : N ≤ v.length
    · rw [Nat.min_eq_right hn, Nat.min_eq_left (by omega : N ≤ t + v.length), Nat.sub_self, List.drop_zero]
      have e1 : (spun c data).drop N = [] := List.drop_of_length_le (by omega)
      have e2 : h.drop (t + v.length - N) = [] := List.drop_of_length_le (by omega)
      rw [e1, List.nil_append, List.drop_append, e2, List.nil_append, show t + v.length - N - h.length = v.length - N by omega]
    · rw [Nat.min_eq_left (by omega : v.length ≤ N), show v.length - N = 0 by omega, List.drop_zero]
      have hk : min N (t + v.length) = min N (t + v.length) := rfl
      rw [List.drop_append, List.drop_drop, List.length_drop, hrl, show N - min N (t + v.length) - (N - v.length) = 0 by omega, List.drop_zero]
      rw [List.drop_append, ← hl, show t + v.length - min N (t + v.length) - t = 0 by omega, List.drop_zero]
      congr 1
      have h3 := congrArg (List.drop (v.length + min N t - min N (t + v.length))) hh
      rw [List.drop_drop, List.drop_drop] at h3
      rw [show v.length + (N - min N (t + v.length)) = N - min N t + (v.length + min N t - min N (t + v.length)) by omega, h3]
      congr 1
      omega
theorem FInv.held {r : FR} {h : List Int} (i : FInv r h) : held r.N r.c r.t r.data = h.drop (h.length - r.N) := by
  obtain ⟨N, c, t, data⟩ := r
  obtain ⟨⟨hpos, hs, hc, hd, ht⟩, hl, hcu, hh⟩ := i
  simp only at *
  unfold Go.Proofs.Ytlikpgidjdjgnaa.held
  split
  · rename_i h0
    have : h = [] := List.length_eq_zero_iff.1 (by omega)
    subst this
    simp
  · split
    · rename_i h0 h1
      have := hcu h1
      subst this
      rw [Nat.min_eq_right (by omega)] at hh
      unfold spun at hh
      rw [List.drop_append, List.drop_of_length_le (by simp; omega), List.length_drop, hd, Nat.sub_self, List.nil_append, List.drop_zero] at hh
      rw [hh, Nat.sub_self, show h.length - N = 0 by omega]
    · rw [Nat.min_eq_left (by omega), Nat.sub_self, List.drop_zero] at hh
      rw [← hl]
      exact hh
theorem FInv.new (places : Nat) (h0 : 0 < places) (hp : places ≤ 65536) : FInv ⟨places, 0, 0, List.replicate places 0⟩ [] :=
  ⟨⟨h0, hp, h0, by simp, by simp⟩, rfl, fun _ => rfl, by simp [spun]⟩
theorem FR.runs_append (r : FR) (l m : List ROp) : r.runs (l ++ m) = (r.runs l).runs m := by
  induction l generalizing r with
  | nil => rfl
  | cons x l ih => exact ih _
theorem FR.tells_append (r : FR) (l m : List ROp) : r.tells (l ++ m) = r.tells l ++ (r.runs l).tells m := by
  induction l generalizing r with
  | nil => rfl
  | cons x l ih =>
    show r.ans x.kind x.vals :: (r.next x.kind x.vals).tells (l ++ m) = _
    rw [ih]
    rfl
theorem FR.tells_len (r : FR) (l : List ROp) : (r.tells l).length = l.length := by
  induction l generalizing r with
  | nil => rfl
  | cons x l ih => simp [FR.tells, ih]
theorem FInv.runs {l : List ROp} (hk : ∀ o ∈ l, o.kind = 1) : ∀ {r : FR} {h : List Int}, FInv r h → r.t + (l.flatMap ROp.vals).length ≤ 1000000000000 → FInv (r.runs l) (h ++ l.flatMap ROp.vals) := by
  induction l with
  | nil => intro r h i _; simpa [FR.runs] using i
  | cons o l ih =>
    intro r h i hb
    rw [List.flatMap_cons, List.length_append] at hb
    have h1 := i.write o.vals (by omega)
    have h2 : r.next o.kind o.vals = r.write o.vals := by
      unfold FR.next
      rw [if_pos (hk o (by simp))]
    have h3 := ih (fun x hx => hk x (by simp [hx])) h1 (by show r.t + o.vals.length + _ ≤ _; omega)
    show FInv ((r.next o.kind o.vals).runs l) _
    rw [h2, List.flatMap_cons, ← List.append_assoc]
    exact h3
theorem FR.N_runs (r : FR) (l : List ROp) : (r.runs l).N = r.N := by
  induction l generalizing r with
  | nil => rfl
  | cons o l ih =>
    show ((r.next o.kind o.vals).runs l).N = _
    rw [ih]
    unfold FR.next
    split
    · rfl
    · split <;> rfl
/-- The four last answers. -/
theorem last_answers (places : Nat) (h0 : 0 < places) (hp : places ≤ 65536) (l : List ROp) (a b c d : ROp) (hk : ∀ o ∈ l, o.kind = 1) (hb : (l.flatMap ROp.vals).length ≤ 1000000) (h1 : a.kind = 5) (h2 : b.kind = 3) (h3 : c.kind = 6) (h4 : d.kind = 4) :
    (⟨places, 0, 0, List.replicate places 0⟩ : FR).tells (l ++ [a, b, c, d]) = (⟨places, 0, 0, List.replicate places 0⟩ : FR).tells l ++
      [((true, 0, (l.flatMap ROp.vals).drop ((l.flatMap ROp.vals).length - places)) : Bool × Int × List Int), (true, (min (l.flatMap ROp.vals).length places : Nat), []), (true, ((l.flatMap ROp.vals).length : Nat), []), (true, (places : Nat), [])] := by
  have i := FInv.runs hk (FInv.new places h0 hp) (by show 0 + _ ≤ _; omega)
  rw [List.nil_append] at i
  rw [FR.tells_append]
  congr 1
  have hN : ((⟨places, 0, 0, List.replicate places 0⟩ : FR).runs l).N = places := FR.N_runs _ _
  generalize (⟨places, 0, 0, List.replicate places 0⟩ : FR).runs l = r at i hN
  have e1 : ∀ v, r.next 5 v = r := fun v => by simp [FR.next]
  have e2 : ∀ v, r.next 3 v = r := fun v => by simp [FR.next]
  have e3 : ∀ v, r.next 6 v = r := fun v => by simp [FR.next]
  simp only [FR.tells, h1, h2, h3, h4, e1, e2, e3]
  have hh := i.held
  rw [hN] at hh
  simp only [FR.ans]
  simp [hN, hh, ← i.len]
end Go.Proofs.Ytlikpgidjdjgnaa
