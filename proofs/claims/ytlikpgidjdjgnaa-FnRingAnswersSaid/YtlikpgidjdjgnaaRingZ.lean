import Derived.Test.YtlikpgidjdjgnaaRingV
import Derived.Test.YtlikpgidjdjgnaaRingW
namespace Go.Proofs.Ytlikpgidjdjgnaa
set_option linter.unusedVariables false
set_option linter.unusedSimpArgs false
set_option linter.unnecessarySimpa false
open Go.RowKit Go.V

theorem ring2_at (r0 : FR) (places : Nat) (hr00 : Hid (r0 = ⟨places, 0, 0, List.replicate places 0⟩)) (h0 : 0 < places) (hp : places ≤ 65536) (ops : List ROp) (k ab cap : Nat) (w : World) (hk : Hid (ops.length = k)) (hl : k ≤ 1000) (hv : Hid (∀ o ∈ ops, o.vals.length ≤ 1000000)) (hs : Hid (∀ o ∈ ops, Lies w o.at' (ints o.vals) ∧ (o.at' = none → o.vals.length = 0)))
    (H : St [] w w [(false, .arr (some ⟨ab, 0, none⟩) (ops.flatMap ROp.cells))]) :
    Calls Try.prog 7 #[.int .i64 2, .int .i64 places, .int .i64 0, .slice (some ⟨ab, 0, none⟩) k cap] w fun e w' => ∃ key cap' rs fp, Hid (rs.map RA.tell = r0.tells ops) ∧ e = .returned (.tuple #[sl key k cap', .bool true]) ∧
      St [] w w' [(true, .row key 34 3 k cap' (rs.flatMap RA.cells)), (true, .rep fp (RAsAt rs fp))] := by
  obtain rfl := hk.out
  exact ring2_calls r0 places 0 hr00 h0 hp ⟨by omega, by omega⟩ ops ab 0 cap w hl hv.out hs.out H

theorem last_four {L : List RA} {T : List (Bool × Int × List Int)} {x0 x1 x2 x3 : Bool × Int × List Int} (h : L.map RA.tell = T ++ [x0, x1, x2, x3]) :
    ∃ A a0 a1 a2 a3, L = A ++ [a0, a1, a2, a3] ∧ A.length = T.length ∧ a0.tell = x0 ∧ a1.tell = x1 ∧ a2.tell = x2 ∧ a3.tell = x3 := by
  obtain ⟨A, B, rfl, h1, h2⟩ := List.map_eq_append_iff.1 h
  obtain ⟨a0, B, rfl, e0, h2⟩ := List.map_eq_cons_iff.1 h2
  obtain ⟨a1, B, rfl, e1, h2⟩ := List.map_eq_cons_iff.1 h2
  obtain ⟨a2, B, rfl, e2, h2⟩ := List.map_eq_cons_iff.1 h2
  obtain ⟨a3, B, rfl, e3, h2⟩ := List.map_eq_cons_iff.1 h2
  obtain rfl := List.map_eq_nil_iff.1 h2
  exact ⟨A, a0, a1, a2, a3, rfl, by rw [← h1]; simp, e0, e1, e2, e3⟩
theorem ra_len (l : List RA) : (l.flatMap RA.cells).length = l.length * 3 := by
  induction l with
  | nil => rfl
  | cons a l ih => rw [List.flatMap_cons, List.length_append, ih, List.length_cons]; show 3 + _ = _; omega
theorem ra_at (la : List RA) (i : Nat) (a : RA) (h : la[i]? = some a) : i * 3 + a.cells.length ≤ (la.flatMap RA.cells).length ∧ ∀ j, j < a.cells.length → (la.flatMap RA.cells)[i * 3 + j]? = a.cells[j]? := by
  have hi : i < la.length := by
    rcases Nat.lt_or_ge i la.length with h1 | h1
    · exact h1
    · rw [List.getElem?_eq_none h1] at h
      cases h
  have ha : la[i] = a := by
    rw [List.getElem?_eq_getElem hi] at h
    exact Option.some.inj h
  refine ⟨by rw [ra_len]; show _ + 3 ≤ _; omega, fun j hj => ?_⟩
  rw [← ha]
  exact flat_at RA.cells 3 la (fun _ _ => rfl) i j hi hj
theorem _root_.Go.V.St.softArr {S : List Nat} {w0 w : World} {L A B : List Ent} {s : Option Addr} {xs : List Value} (H : St S w0 w L) (hs : Split L (false, .arr s xs) A B) : St S w0 w ((false, soft s xs) :: L) := by
  refine H.sub hs _ (soft_holds (lies_of_arr (H.get hs))) ?_
  intro c hc
  cases s with
  | none => cases xs <;> simp [Kn.fp, softFp] at hc
  | some a =>
    cases xs with
    | nil => simp [Kn.fp, softFp] at hc
    | cons x xs => simpa [Kn.fp, softFp] using hc
/-- An answer's row, for itself. -/
theorem _root_.Go.V.St.ansRow {S : List Nat} {w0 w : World} {L A B : List Ent} {la : List RA} {fp : List Nat} (H : St S w0 w L) (hs : Split L (true, .rep fp (RAsAt la fp)) A B) (a : RA) (ha : a ∈ la) :
    a.m = a.l.length ∧ St S w0 w ((false, soft (a.key.map fun b => ⟨b, 0, none⟩) (ints a.l)) :: (A ++ (false, .rep fp (RAsAt la fp)) :: B)) := by
  have hR : RAsAt la fp w := H.rep hs
  have h1 := hR.2 a ha
  refine ⟨h1.1, ?_⟩
  have H2 := H.ro hs
  have hs2 : Split (A ++ (false, .rep fp (RAsAt la fp)) :: B) (false, .rep fp (RAsAt la fp)) A B := by
    clear H hs hR h1 H2 ha
    induction A with
    | nil => exact .here _ _
    | cons x A ih => exact .there _ ih
  have hl : Lies w (a.key.map fun b => ⟨b, 0, none⟩) (ints a.l) := by
    have h2 := h1.2
    cases hk : a.key with
    | none =>
      rw [hk] at h2
      exact ⟨fun _ => h2.2.2, fun _ h => by cases h⟩
    | some kb =>
      rw [hk] at h2
      refine ⟨fun h => (by cases h), ?_⟩
      rintro ad had j u hu
      cases had
      have h3 := cells_of w [(true, .row (some kb) 3 1 a.m a.cap (ints a.l))] (by simpa using h2)
      simp only [CellsOf, KnCells] at h3
      have h4 := h3.1 j (by
        rcases Nat.lt_or_ge j (ints a.l).length with h | h
        · rw [ints_len, ← h1.1] at h; omega
        · rw [List.getElem?_eq_none h] at hu; cases hu)
      have hadd : (⟨kb, 0, none⟩ : Addr).add j = ⟨kb, j, none⟩ := by unfold Addr.add; split <;> simp_all
      rw [hadd, h4, hu]
  refine H2.sub hs2 _ (soft_holds hl) ?_
  intro c hc
  have hfp := hR.1
  rw [show (Kn.rep fp (RAsAt la fp)).fp = fp from rfl, hfp]
  refine List.mem_flatMap.2 ⟨a, ha, ?_⟩
  revert hc
  cases a.key <;> cases ints a.l <;> simp [Kn.fp, softFp]
theorem row_cap {w : World} {key : Option Nat} {T size n cap : Nat} {xs : List Value} (h : holds w (.row key T size n cap xs)) : n ≤ cap := by
  cases key with
  | none => obtain ⟨h1, h2, _⟩ := h; omega
  | some b => obtain ⟨_, _, _, h3, _⟩ := h; exact h3
/-- The end of a row, for itself. -/
theorem _root_.Go.V.St.cutSoft {S : List Nat} {w0 w : World} {L A B : List Ent} {key : Option Nat} {n cap : Nat} {xs : List Int} (H : St S w0 w L) (hs : Split L (true, .row key 3 1 n cap (ints xs)) A B) (off : Nat) (l0 : List Int) (hl : xs.drop off = l0) (hx : xs.length = n) (ho : off ≤ n) :
    St S w0 w ((false, soft (if cap = off then key.map (fun b => ⟨b, 0, none⟩) else key.map ((fun x : Addr => x.add off) ∘ fun b => (⟨b, 0, none⟩ : Addr))) (ints l0)) :: (A ++ (false, .arr (key.map fun b => ⟨b, 0, none⟩) (ints xs)) :: B)) := by
  have hc := row_cap (H.get hs)
  have H2 := H.roArr hs
  have hs2 : Split (A ++ (false, .arr (key.map fun b => ⟨b, 0, none⟩) (ints xs)) :: B) (false, .arr (key.map fun b => ⟨b, 0, none⟩) (ints xs)) A B := by
    clear H hs H2 hc
    induction A with
    | nil => exact .here _ _
    | cons x A ih => exact .there _ ih
  have nil : ∀ s : Option Addr, St S w0 w ((false, soft s []) :: (A ++ (false, .arr (key.map fun b => ⟨b, 0, none⟩) (ints xs)) :: B)) := fun s =>
    H2.read _ (soft_holds ⟨fun _ => rfl, fun _ _ j u h => by simp at h⟩) (fun x hx hp b hb => by simp [Kn.fp, softFp] at hb)
  by_cases hz : l0 = []
  · subst hz
    exact nil _
  · have hne : off < n := by
      rcases Nat.lt_or_ge off n with h | h
      · exact h
      · exact absurd (by rw [← hl]; exact List.drop_of_length_le (by omega) : l0 = []) hz
    cases key with
    | none =>
      have h0 : n = 0 := (H.get hs).1
      omega
    | some b =>
      rw [if_neg (by omega)]
      have H3 := H2.elem hs2 off (ints l0) (by rw [← hl, ← ints_drop, List.length_drop, ints_len]; omega) (fun j hj => by rw [← hl, ← ints_drop, List.getElem?_drop])
      have H4 := (H3.softArr (.here _ _)).sublist (.cons_cons _ (.cons _ (.refl _)))
      have e1 : Option.map ((fun x : Addr => x.add off) ∘ fun b => (⟨b, 0, none⟩ : Addr)) (some b) = some ⟨b, 0 + off, none⟩ := by
        show some ((⟨b, 0, none⟩ : Addr).add off) = _
        congr 1
        unfold Addr.add
        split <;> simp_all
      rw [e1]
      exact H4
end Go.Proofs.Ytlikpgidjdjgnaa
