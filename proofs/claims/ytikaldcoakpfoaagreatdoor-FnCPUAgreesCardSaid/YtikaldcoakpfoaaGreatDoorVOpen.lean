import Derived.Test.YtikaldcoakpfoaaGreatDoorVLaws
import Derived.ProofKit
import Derived.OpenShut
import Derived.ChangeOld
import Derived.Below
import Derived.Carry
import Derived.SizedLaws
import Derived.Deep.Slices
namespace Go.V
set_option linter.unusedVariables false
set_option linter.unusedSimpArgs false
set_option linter.unnecessarySimpa false
open Go Go.RowKit Go.ChangeShapes Go.WideShapes Go.Deep

section
variable {H : Type} {enc : TypeId × Value → H} {P : Program} {w : World}

/-- What a value of type t reads as: some data a, whose cells are told, and on which something holds. -/
def Opens (enc : TypeId × Value → H) (P : Program) (w : World) (t : TypeId) {α : Type} (cells : α → List Value) (ok : α → Prop) : Prop :=
  ∀ fuel cs x, DataW.trod enc P w 0 (fun _ => true) true fuel t cs = some x → ∃ a, cs = cells a ∧ ok a
/-- .. the fields from an offset on. -/
def OpensFs (enc : TypeId × Value → H) (P : Program) (w : World) (fs : List Field) (off : Nat) {α : Type} (cells : α → List Value) (ok : α → Prop) : Prop :=
  ∀ (fuel : Nat) (cs : List Value), cs.length = off + (fs.map fun f => P.cellsOf f.type).sum → (∀ f ∈ fs, ∃ x, DataW.trod enc P w 0 (fun _ => true) true fuel f.type ((cs.drop f.offset).take (P.cellsOf f.type)) = some x) → ∃ a, cs.drop off = cells a ∧ ok a

theorem Opens.map {t : TypeId} {α β : Type} {cells : α → List Value} {ok : α → Prop} {cells' : β → List Value} {ok' : β → Prop} (h : Opens enc P w t cells ok) (g : α → β) (hc : ∀ a, cells a = cells' (g a)) (ho : ∀ a, ok a → ok' (g a)) : Opens enc P w t cells' ok' := by
  intro fuel cs x hx
  obtain ⟨a, h1, h2⟩ := h fuel cs x hx
  exact ⟨g a, h1.trans (hc a), ho a h2⟩
theorem opens_int {t : TypeId} {k : IntKind} (ht : P.underlying t = some (.int k)) : Opens enc P w t (fun n : Int => [.int k n]) (fun n => (Lit.int k n).wf = true) := by
  intro fuel cs x hx
  obtain ⟨n, h1, _, h3⟩ := DataW.trod_int ht hx
  exact ⟨n, h1, h3⟩
theorem opens_string {t : TypeId} (ht : P.underlying t = some .string) : Opens enc P w t (fun s : ByteArray => [.string s]) (fun s => s.size ≤ maxLen) := by
  intro fuel cs x hx
  obtain ⟨s, h1, _, h3⟩ := DataW.trod_string ht hx
  exact ⟨s, h1, h3⟩
theorem opens_bool {t : TypeId} (ht : P.underlying t = some .bool) : Opens enc P w t (fun b : Bool => [.bool b]) (fun _ => True) := by
  intro fuel cs x hx
  obtain ⟨b, h1, _⟩ := DataW.trod_bool ht hx
  exact ⟨b, h1, trivial⟩

/-- The cells from an address on, if there are any. -/
def Soft (w : World) (s : Option Addr) (xs : List Value) : Prop := (s = none → xs = []) ∧ ∀ ad, s = some ad → ∀ j u, xs[j]? = some u → w.cell? (ad.add j) = some u
theorem Soft.arr {s : Option Addr} {xs : List Value} (h : Soft w s xs) (hn : ∀ ad, s = some ad → ad.spot = none ∧ ad.block < w.heap.size) : holds w (.arr s xs) := by
  cases s with
  | none => exact h.1 rfl
  | some ad =>
    obtain ⟨b, o, sp⟩ := ad
    obtain ⟨h1, h2⟩ := hn _ rfl
    have h1' : sp = none := h1
    subst h1'
    refine ⟨rfl, h2, fun j hj => ?_⟩
    have h3 := h.2 _ rfl j xs[j] (List.getElem?_eq_getElem hj)
    rw [List.getElem?_eq_getElem hj, ← h3]
    congr 1
    unfold Addr.add
    split
    · simp_all
    · rfl
theorem Soft.some {ad : Addr} {xs : List Value} (h : Soft w (some ad) xs) (hx : xs ≠ []) : ad.spot = none ∧ ad.block < w.heap.size := by
  obtain ⟨x, xs, rfl⟩ := List.exists_cons_of_ne_nil hx
  have h1 := h.2 _ rfl 0 x rfl
  have h2 : w.cell? ad = _ := h1
  unfold World.cell? at h2
  split at h2
  · rename_i hb
    split at h2
    · cases h2
    · rename_i hs
      refine ⟨by simpa using hs, lt_of_get hb⟩
  · cases h2
/-- .. it is a piece of memory, or there is nothing in it. -/
theorem Soft.cases {s : Option Addr} {xs : List Value} (h : Soft w s xs) : xs = [] ∨ holds w (.arr s xs) := by
  by_cases hx : xs = []
  · exact .inl hx
  · exact .inr (h.arr fun ad hs => (by subst hs; exact h.some hx))

structure Row (α : Type) where
  at' : Option Addr
  cap : Nat
  list : List α
def Row.val {α : Type} (r : Row α) : Value := .slice r.at' r.list.length r.cap

theorem flat_get {α : Type} (cells : α → List Value) (c : Nat) : ∀ (l : List α), (∀ a ∈ l, (cells a).length = c) → ∀ (j : Nat) (u : Value), (l.flatMap cells)[j]? = some u → ∃ (i : Nat) (hi : i < l.length) (k : Nat), k < c ∧ j = i * c + k ∧ (cells l[i])[k]? = some u
  | [], _, j, u, h => by simp at h
  | a :: l, hl, j, u, h => by
    rw [List.flatMap_cons] at h
    have ha := hl a (by simp)
    by_cases hj : j < c
    · rw [List.getElem?_append_left (by omega)] at h
      exact ⟨0, by simp, j, hj, by omega, h⟩
    · rw [List.getElem?_append_right (by omega), ha] at h
      obtain ⟨i, hi, k, hk, h1, h2⟩ := flat_get cells c l (fun b hb => hl b (by simp [hb])) (j - c) u h
      exact ⟨i + 1, by simpa using hi, k, hk, by rw [Nat.add_mul]; omega, by simpa using h2⟩

theorem list_of {α : Type} {Q : Nat → α → Prop} (len : Nat) (key : ∀ i, i < len → ∃ a, Q i a) : ∃ l : List α, l.length = len ∧ ∀ i (hi : i < l.length), Q i l[i] := by
  induction len with
  | zero => exact ⟨[], rfl, by simp⟩
  | succ len ih =>
    obtain ⟨l, h1, h2⟩ := ih (fun i hi => key i (by omega))
    obtain ⟨a, h3⟩ := key len (by omega)
    refine ⟨l ++ [a], by simp [h1], ?_⟩
    intro i hi
    by_cases hil : i < l.length
    · rw [List.getElem_append_left hil]
      exact h2 i hil
    · have : i = len := by simp at hi; omega
      subst this
      rw [List.getElem_append_right (by omega)]
      simpa [h1] using h3

theorem opens_slice {t e : TypeId} {α : Type} {cells : α → List Value} {ok : α → Prop} (ht : P.underlying t = some (.slice e)) (he : Opens enc P w e cells ok) (hc : ∀ a, (cells a).length = P.cellsOf e) :
    Opens enc P w t (fun r : Row α => [r.val]) (fun r => r.list.length ≤ r.cap ∧ r.cap ≤ maxLen ∧ Soft w r.at' (r.list.flatMap cells) ∧ ∀ a ∈ r.list, ok a) := by
  intro fuel cs x hx
  rcases open_slice ht hx with ⟨rfl, _⟩ | ⟨ad, len, cap, m, n, D, Pl, rfl, _, hl, hm, hmm, _, hi⟩
  · exact ⟨⟨none, 0, []⟩, rfl, Nat.le_refl _, Nat.zero_le _, ⟨fun _ => rfl, fun _ h => by cases h⟩, by simp⟩
  · have hmm' : m = cap := by simpa using hmm
    have key : ∀ i, i < len → ∃ a, w.cells? 0 (ad.add (i * P.cellsOf e)) (P.cellsOf e) = some (cells a) ∧ ok a := by
      intro i hil
      obtain ⟨cs', h1, h2⟩ := hi i (by omega)
      obtain ⟨a, rfl, h3⟩ := he n cs' _ h2
      exact ⟨a, h1, h3⟩
    obtain ⟨l, h1, h2⟩ := list_of (Q := fun i a => w.cells? 0 (ad.add (i * P.cellsOf e)) (P.cellsOf e) = some (cells a) ∧ ok a) len key
    refine ⟨⟨some ad, cap, l⟩, by simp [Row.val, h1], by simpa [h1] using hl, hm, ⟨fun h => (by cases h), ?_⟩, ?_⟩
    · intro ad' had j u hu
      simp only [Option.some.injEq] at had
      subst had
      obtain ⟨i, hi, k, hk, rfl, h3⟩ := flat_get cells (P.cellsOf e) l (fun a _ => hc a) j u hu
      obtain ⟨_, _, h4⟩ := World.cells?_some (h2 i hi).1
      rw [← Go.Deep.add_add, h4 k hk, h3]
    · intro a ha
      obtain ⟨i, hi, rfl⟩ := List.getElem_of_mem ha
      exact (h2 i hi).2

theorem opensFs_nil (off : Nat) : OpensFs enc P w [] off (fun _ : Unit => []) (fun _ => True) := by
  intro fuel cs hl _
  exact ⟨(), List.drop_of_length_le (by simpa using Nat.le_of_eq hl), trivial⟩
theorem opensFs_cons {f : Field} {fs : List Field} {off : Nat} {α β : Type} {c1 : α → List Value} {ok1 : α → Prop} {c2 : β → List Value} {ok2 : β → Prop} (hoff : f.offset = off)
    (h1 : Opens enc P w f.type c1 ok1) (h2 : OpensFs enc P w fs (off + P.cellsOf f.type) c2 ok2) : OpensFs enc P w (f :: fs) off (fun p : α × β => c1 p.1 ++ c2 p.2) (fun p => ok1 p.1 ∧ ok2 p.2) := by
  intro fuel cs hl hf
  obtain ⟨x, hx⟩ := hf f (by simp)
  rw [hoff] at hx
  obtain ⟨a, ha, oa⟩ := h1 fuel _ x hx
  obtain ⟨b, hb, ob⟩ := h2 fuel cs (by simp at hl; omega) (fun g hg => hf g (by simp [hg]))
  refine ⟨(a, b), ?_, oa, ob⟩
  show cs.drop off = c1 a ++ c2 b
  rw [← ha, ← hb, ← List.drop_drop]
  exact (List.take_append_drop _ _).symm
theorem opens_struct {t : TypeId} {fs : Array Field} {α : Type} {cells : α → List Value} {ok : α → Prop} (ht : P.underlying t = some (.struct fs)) (hC : P.cellsOf t = (fs.toList.map fun f => P.cellsOf f.type).sum)
    (h : OpensFs enc P w fs.toList 0 cells ok) : Opens enc P w t cells ok := by
  intro fuel cs x hx
  obtain ⟨xs, n, _, _, hl, hxl, hf⟩ := DataW.trod_struct ht hx
  obtain ⟨a, ha, oa⟩ := h n cs (by rw [hl, hC]; omega) (fun f hf' => by
    obtain ⟨i, hi, rfl⟩ := List.getElem_of_mem hf'
    have hi' : i < fs.size := by simpa using hi
    have h1 := hf i fs[i] (by simp [hi'])
    refine ⟨xs[i]'(by omega), ?_⟩
    have : xs[i]? = some (xs[i]'(by omega)) := List.getElem?_eq_getElem _
    rw [← this, ← h1]
    simp)
  exact ⟨a, by simpa using ha, oa⟩

/-- AN ARGUMENT OPENED. -/
theorem Opens.one {t : TypeId} {α : Type} {cells : α → List Value} {ok : α → Prop} (h : Opens enc P w t cells ok) {v : Value} {d : DataW H} {ps : List MemPlace} (hv : DataW.Trod enc P w 0 (fun _ => true) true t v d ps) : ∃ a, v.cells.toList = cells a ∧ ok a := by
  obtain ⟨fuel, hf⟩ := hv
  exact h fuel _ _ hf
theorem agg_of {t : TypeId} {fs : Array Field} (ht : P.underlying t = some (.struct fs)) {v : Value} {r : Reach} {b : Nat} (hv : Value.okWide P w r b t v) {l : List Value} (hl : v.cells.toList = l) : v = .agg l.toArray := by
  obtain ⟨cs, rfl, _⟩ := okWide_struct ht hv
  subst hl
  simp [Value.cells]
/-- A slice among an argument's cells lies in memory. -/
theorem has_of {t : TypeId} {fs : Array Field} (ht : P.underlying t = some (.struct fs)) {v : Value} {r : Reach} {b : Nat} (hv : Value.okWide P w r b t v) {ts : List TypeId} (hts : P.cellTypes P.depth t = some ts) {i : Nat} {u e : TypeId} (hi : ts[i % ts.length]? = some u) (hu : P.underlying u = some (.slice e))
    {ad : Addr} {n c : Nat} (hc : v.cells.toList[i]? = some (.slice (some ad) n c)) : ad.spot = none ∧ ad.block < w.heap.size := by
  unfold Value.okWide at hv
  rw [ht] at hv
  obtain ⟨cs, rfl, _, ts', h1, _, h2⟩ := hv
  rw [hts] at h1
  simp only [Option.some.injEq] at h1
  subst h1
  have hc' : cs[i]? = some (.slice (some ad) n c) := by simpa [Value.cells] using hc
  obtain ⟨u', h3, h4⟩ := h2 i _ hc'
  rw [hi] at h3
  simp only [Option.some.injEq] at h3
  subst h3
  unfold Cell.okWide at h4
  rw [hu] at h4
  unfold Cell.ok at h4
  rw [hu] at h4
  obtain ⟨_, _, _, h5, row, k, h6, _⟩ := h4
  refine ⟨h5, ?_⟩
  unfold World.shape? at h6
  split at h6
  · rename_i hb
    exact lt_of_get hb
  · cases h6
theorem has_slice {t e : TypeId} (ht : P.underlying t = some (.slice e)) {r : Reach} {b : Nat} {ad : Addr} {n c : Nat} (hv : Value.okWide P w r b t (.slice (some ad) n c)) : ad.spot = none ∧ ad.block < w.heap.size := by
  unfold Value.okWide at hv
  rw [ht] at hv
  unfold Cell.okWide at hv
  simp only [ht] at hv
  unfold Cell.ok at hv
  rw [ht] at hv
  obtain ⟨_, _, _, h5, row, k, h6, _⟩ := hv
  refine ⟨h5, ?_⟩
  unfold World.shape? at h6
  split at h6
  · rename_i hb
    exact lt_of_get hb
  · cases h6
end
end Go.V
