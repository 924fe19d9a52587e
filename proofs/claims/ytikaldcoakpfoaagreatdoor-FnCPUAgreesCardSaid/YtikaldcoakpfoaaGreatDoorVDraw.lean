import Derived.Test.YtikaldcoakpfoaaGreatDoorVLaws
import Derived.OrdersHeld
import Derived.Deep.Quiet
import Derived.BigQuiet
namespace Go.V
set_option linter.unusedVariables false
set_option linter.unusedSimpArgs false
set_option linter.unnecessarySimpa false
open Go Go.RowKit

/-- A plan for a region that draws its order: operations that ask nothing of memory (p), or only read it (q); one that does more (e); two that may come up either way (br). -/
inductive Plan where
  | done
  | p (is : List Nat) (r : Plan)
  | q (is : List Nat) (r : Plan)
  | e (i : Nat) (r : Plan)
  | br (i j : Nat) (ri rj : Plan)
/-- Operations that give a value and do nothing else but read. -/
def isVal : Op → Bool
  | .move _ | .assign _ | .pick .. | .load .. | .nilCheck _ | .binOp .. | .unOp .. | .makeInterface .. | .slice .. | .fieldAddr .. | .field .. | .indexAddr .. | .index .. | .lookup .. | .extract .. | .build .. | .typeAssert .. | .convert .. => true
  | .call { callee := .builtin .len, .. } | .call { callee := .builtin .cap, .. } | .call { callee := .builtin .min, .. } | .call { callee := .builtin .max, .. } => true
  | _ => false

section
variable {P : Program} {ops : Array Oper} {Q : Exit → Act → World → Prop} {S : World → Prop} {ds : List Nat}

/-- Whatever order is picked; S holds behind every operation but those of ds. -/
def wpAnyD (P : Program) (ops : Array Oper) (Q : Exit → Act → World → Prop) (S : World → Prop) (ds : List Nat) : Nat → Array Bool → Act → World → Prop
  | 0, l, a, w => Region.ready .any ops l = [] ∧ Q .normal a w
  | n + 1, l, a, w => (Region.ready .any ops l = [] → Q .normal a w) ∧
    ∀ i ∈ Region.ready .any ops l, wpOp P ops Q i (fun a' w' => (i ∉ ds → S w → S w') ∧ wpAnyD P ops Q S ds n (l.setIfInBounds i true) a' w') a w

theorem wpAny_of_D : ∀ (n : Nat) (l : Array Bool) (a : Act) (w : World), wpAnyD P ops Q S ds n l a w → wpAny P .any ops Q n l a w
  | 0, _, _, _, h => h
  | n + 1, _, _, _, h => ⟨h.1, fun i hi => wpOp_mono (fun a' w' h' => wpAny_of_D n _ a' w' h'.2) (h.2 i hi)⟩

/-- What is listed waits for nothing that is not. -/
def Closed (ops : Array Oper) (l : Array Bool) : Prop := ∀ j oj, ops[j]? = some oj → l.getD j false = true → ∀ e ∈ oj.after, Region.binds .any e = true → l.getD e.on false = true

/-- d waits for i. -/
def reach (ops : Array Oper) (i : Nat) : Nat → Nat → Bool
  | 0, _ => false
  | n + 1, d => match ops[d]? with
    | some o => o.after.any fun e => Region.binds .any e && (e.on == i || reach ops i n e.on)
    | none => false

theorem reach_listed {l : Array Bool} (hc : Closed ops l) {i : Nat} : ∀ (n d : Nat), reach ops i n d = true → (∀ o, ops[d]? = some o → ∀ e ∈ o.after, Region.binds .any e = true → l.getD e.on false = true) → l.getD i false = true
  | 0, _, h, _ => by simp [reach] at h
  | n + 1, d, h, hd => by
    unfold reach at h
    cases ho : ops[d]? with
    | none => rw [ho] at h; simp at h
    | some o =>
      rw [ho] at h
      simp only [Array.any_eq_true, Bool.and_eq_true, Bool.or_eq_true, beq_iff_eq] at h
      obtain ⟨k, hk, hb, h⟩ := h
      have he : o.after[k] ∈ o.after := Array.getElem_mem hk
      have hl := hd o ho _ he hb
      rcases h with h | h
      · rw [← h]; exact hl
      · exact reach_listed hc n _ h (fun o' ho' e' he' hb' => hc _ o' ho' hl e' he' hb')

theorem ready_pre {l : Array Bool} {j : Nat} (h : j ∈ Region.ready .any ops l) : ∀ o, ops[j]? = some o → ∀ e ∈ o.after, Region.binds .any e = true → l.getD e.on false = true := by
  obtain ⟨_, oj, hoj, hall⟩ := mem_ready.1 h
  intro o ho e he hb
  rw [hoj] at ho
  cases ho
  exact hall e he hb

theorem getD_set_le {l : Array Bool} {i j : Nat} (h : l.getD j false = true) : (l.setIfInBounds i true).getD j false = true := by
  by_cases hij : i = j
  · subst hij
    have hlt : i < l.size := by
      rcases Nat.lt_or_ge i l.size with h' | h'
      · exact h'
      · simp [Array.getElem?_eq_none h'] at h
    simp [hlt]
  · rw [getD_set_ne false hij]; exact h

theorem Closed.set {l : Array Bool} (hc : Closed ops l) {j : Nat} (hj : j ∈ Region.ready .any ops l) : Closed ops (l.setIfInBounds j true) := by
  intro k ok hk hlk e he hb
  by_cases hjk : j = k
  · subst hjk
    exact getD_set_le (ready_pre hj ok hk e he hb)
  · rw [getD_set_ne false hjk] at hlk
    exact getD_set_le (hc k ok hk hlk e he hb)

/-- AN OPERATION THAT READS MAY BE TAKEN FIRST. -/
theorem wpAnyD_first {i : Nat} {oi : Oper} {v : Value} (hi : ops[i]? = some oi) (hsel : ∀ (j : Nat) (o : Oper) cs b, ops[j]? = some o → o.op ≠ .select cs b)
    (hQ : ∀ c a w, Q (.panic c) (a.put oi.dst v) w → Q (.panic c) a w) {S1 : World → Prop} (hds : (∀ w, S1 w) ∨ (S1 = S ∧ ∀ d ∈ ds, reach ops i ops.size d = true)) :
    ∀ (fuel : Nat) (l : Array Bool) (a : Act) (w : World), Closed ops l →
      (∀ j oj, ops[j]? = some oj → j ≠ i → l.getD j true = false → (∀ e ∈ oj.after, Region.binds .any e = true → e.on ≠ i) → oi.apart ops oj = true) →
      i ∈ Region.ready .any ops l → YieldsIf P ops S1 oi v a → S1 w →
      wpAnyD P ops Q S ds fuel (l.setIfInBounds i true) (a.put oi.dst v) w → wpAnyD P ops Q S ds (fuel + 1) l a w := by
  intro fuel
  induction fuel with
  | zero =>
    intro l a w _ _ hr hy hS H
    refine ⟨fun h => (by rw [h] at hr; cases hr), fun j hj => ?_⟩
    by_cases hji : j = i
    · subst hji; exact hy.wpOp hi hS ⟨fun _ h => h, H⟩
    · have := ready_mono hj hji
      rw [H.1] at this
      cases this
  | succ fuel ih =>
    intro l a w hcl hfree hr hy hS H
    refine ⟨fun h => (by rw [h] at hr; cases hr), fun j hj => ?_⟩
    by_cases hji : j = i
    · subst hji; exact hy.wpOp hi hS ⟨fun _ h => h, H⟩
    · have h1 := H.2 j (ready_mono hj hji)
      obtain ⟨hjun, oj, hoj, hall⟩ := mem_ready.1 hj
      have hnot : ∀ e ∈ oj.after, Region.binds .any e = true → e.on ≠ i := fun e he hb heq => by
        have h1 := hall e he hb
        have h0 := (mem_ready.1 hr).1
        rw [heq] at h1
        rcases Nat.lt_or_ge i l.size with h' | h'
        · simp [h'] at h0 h1; rw [h0] at h1; cases h1
        · simp [Array.getElem?_eq_none h'] at h1
      have hjd : ∀ w', (j ∉ ds → S w → S w') → S1 w' := by
        intro w' h3
        rcases hds with hds | ⟨rfl, hds⟩
        · exact hds w'
        · refine h3 (fun hm => ?_) hS
          have h2 := reach_listed hcl ops.size j (hds j hm) (ready_pre hj)
          have h0 := (mem_ready.1 hr).1
          rcases Nat.lt_or_ge i l.size with h' | h'
          · simp [h'] at h0 h2; rw [h0] at h2; cases h2
          · simp [Array.getElem?_eq_none h'] at h2
      have h2 := wpOp_putIf hoj (hfree j oj hoj hji hjun hnot) (fun cs b => hsel i oi cs b hi) (fun cs b => hsel j oj cs b hoj) hQ hy h1
      have hfree' : ∀ k ok, ops[k]? = some ok → k ≠ i → (l.setIfInBounds j true).getD k true = false →
          (∀ e ∈ ok.after, Region.binds .any e = true → e.on ≠ i) → oi.apart ops ok = true := fun k ok hk hki hun hno => by
        refine hfree k ok hk hki ?_ hno
        by_cases hjk : j = k
        · subst hjk; exact hjun
        · rw [getD_set_ne true hjk] at hun; exact hun
      refine wpOp_mono (fun a' w' h3 => ⟨h3.2.1, ih (l.setIfInBounds j true) a' w' (hcl.set hj) hfree' (ready_mono hr (Ne.symm hji)) h3.1 (hjd w' h3.2.1) ?_⟩) h2
      rw [Array.setIfInBounds_comm _ _ hji]
      exact h3.2.2

/-- One operation that does more than read. -/
def eOp (P : Program) (ops : Array Oper) (Q : Exit → Act → World → Prop) (S : World → Prop) (ds : List Nat) (i : Nat) (K : Act → World → Prop) (a : Act) (w : World) : Prop :=
  ∃ o, ops[i]? = some o ∧ if Region.wanted o (yielded ops a.tmps) then o.wp P a w (fun a' w' => (i ∉ ds → S w → S w') ∧ K a' w') Q else K (a.put o.dst undef) w
/-- THE PLAN'S WALK. -/
def planW (P : Program) (ops : Array Oper) (Q : Exit → Act → World → Prop) (S : World → Prop) (ds : List Nat) : Plan → Act → World → Prop
  | .done, a, w => Q .normal a w
  | .p is r, a, w => wpQuiet P ops (fun _ => True) (fun a' => planW P ops Q S ds r a' w) (is.filterMap (ops[·]?)) a
  | .q is r, a, w => wpQuiet P ops S (fun a' => planW P ops Q S ds r a' w) (is.filterMap (ops[·]?)) a
  | .e i r, a, w => eOp P ops Q S ds i (planW P ops Q S ds r) a w
  | .br i j ri rj, a, w => eOp P ops Q S ds i (planW P ops Q S ds ri) a w ∧ eOp P ops Q S ds j (planW P ops Q S ds rj) a w

/-- .. as a fact that is not looked into. -/
structure wpPlan (P : Program) (ops : Array Oper) (Q : Exit → Act → World → Prop) (S : World → Prop) (ds : List Nat) (p : Plan) (a : Act) (w : World) : Prop where
  out : planW P ops Q S ds p a w

def noQ : Plan → Bool
  | .done => true
  | .p _ r => noQ r
  | .q is r => is.isEmpty && noQ r
  | .e _ r => noQ r
  | .br _ _ ri rj => noQ ri && noQ rj

def qOk (ops : Array Oper) (ds : List Nat) (held : Bool) : List Nat → Array Bool → Option (Array Bool)
  | [], l => some l
  | i :: is, l => match ops[i]? with
      | some o => if isVal o.op && Region.free .any ops l i && (Region.ready .any ops l).contains i && (!held || ds.all fun d => reach ops i ops.size d) then qOk ops ds held is (l.setIfInBounds i true) else none
      | none => none
/-- Is the plan one of this region: 'l' is listed already. -/
def planOk (ops : Array Oper) (ds : List Nat) : Plan → Array Bool → Bool
  | .done, l => Region.ready .any ops l == []
  | .p is r, l => match qOk ops ds false is l with
      | some l' => planOk ops ds r l'
      | none => false
  | .q is r, l => match qOk ops ds true is l with
      | some l' => planOk ops ds r l'
      | none => false
  | .e i r, l => (Region.ready .any ops l == [i]) && (!ds.contains i || noQ r) && planOk ops ds r (l.setIfInBounds i true)
  | .br i j ri rj, l => (Region.ready .any ops l == [i, j]) && (!ds.contains i || noQ ri) && planOk ops ds ri (l.setIfInBounds i true) && (!ds.contains j || noQ rj) && planOk ops ds rj (l.setIfInBounds j true)
/-- How many operations a plan has. -/
def cnt : Plan → Nat
  | .done => 0
  | .p is r => is.length + cnt r
  | .q is r => is.length + cnt r
  | .e _ r => cnt r + 1
  | .br _ _ ri rj => max (cnt ri) (cnt rj) + 1

/-- A step that gives a value, if it comes to an end at all. -/
def ValOnly (P : Program) (s : Sem Next) : Prop := ∀ w n w', s.run P w = .ok n w' → ∃ v, n = .value v
theorem ValOnly.of_bind (x : Sem Value) : ValOnly P (do pure (.value (← x))) := by
  intro w n w' h
  simp only [Sem.run_bind] at h
  cases hx : x.run P w with
  | ok v w1 =>
    rw [hx] at h
    simp only [Result.andThen_ok, Sem.run_pure, Result.ok.injEq] at h
    exact ⟨v, h.1.symm⟩
  | halt c w1 =>
    rw [hx] at h
    simp at h
theorem ValOnly.pure (v : Value) : ValOnly P (Pure.pure (.value v)) := by
  intro w n w' h
  simp only [Sem.run_pure, Result.ok.injEq] at h
  exact ⟨v, h.1.symm⟩
theorem ValOnly.halt (h : Halt) : ValOnly P (.halt h) := by
  intro w n w' hh
  simp at hh
theorem ValOnly.bind {α : Type} (x : Sem α) (f : α → Sem Next) (h : ∀ y, ValOnly P (f y)) : ValOnly P (x >>= f) := by
  intro w n w' hh
  simp only [Sem.run_bind] at hh
  cases hx : x.run P w with
  | ok v w1 =>
    rw [hx] at hh
    exact h v w1 n w' hh
  | halt c w1 =>
    rw [hx] at hh
    simp at hh

theorem ValOnly.runtimePanic (e : RuntimeError) : ValOnly P (runtimePanic (α := Next) e) := by
  unfold Go.runtimePanic
  refine ValOnly.bind _ _ fun p => ?_
  cases e <;> dsimp only <;> repeat (first
    | exact ValOnly.halt _
    | (refine ValOnly.bind _ _ fun _ => ?_)
    | split)
theorem isVal_spec (o : Oper) (h : isVal o.op = true) (ρ : Operand → Value) : ValOnly P (execOp ρ o) := by
  obtain ⟨dst, op, type, pos, after, guard⟩ := o
  cases op with
  | call c =>
    obtain ⟨cal, args, ts⟩ := c
    cases cal with
    | builtin b =>
      cases b <;> first
        | (simp [isVal] at h; done)
        | exact ValOnly.of_bind (P := P) (Builtin.len_ _ _ _)
        | exact ValOnly.of_bind (P := P) (Builtin.cap_ _ _ _)
        | exact ValOnly.of_bind (P := P) (Builtin.min_ _ _ _)
        | exact ValOnly.of_bind (P := P) (Builtin.max_ _ _ _)
    | _ => simp [isVal] at h
  | nilCheck x =>
    unfold execOp
    dsimp only
    split
    · exact ValOnly.runtimePanic _
    · exact ValOnly.runtimePanic _
    · exact ValOnly.runtimePanic _
    · split
      · exact ValOnly.runtimePanic _
      · refine ValOnly.bind _ _ fun y => ValOnly.bind _ _ fun z => ?_
        split
        · exact ValOnly.bind _ _ fun _ => ValOnly.pure _
        · exact ValOnly.pure _
      · exact ValOnly.pure _
    · exact ValOnly.pure _
  | _ => first
    | (simp [isVal] at h; done)
    | exact ValOnly.of_bind _
    | exact ValOnly.pure _
    | exact ValOnly.bind _ _ (fun y => ValOnly.pure _)

/-- A step of a plan. -/
theorem eOp_step {i : Nat} {K K' : Act → World → Prop} {a : Act} {w : World} (h : eOp P ops Q S ds i K a w) (hk : ∀ a' w', (i ∉ ds → S w → S w') ∧ K a' w' → (i ∉ ds → S w → S w') ∧ K' a' w') : wpOp P ops Q i (fun a' w' => (i ∉ ds → S w → S w') ∧ K' a' w') a w := by
  obtain ⟨o, hi, hp⟩ := h
  unfold wpOp
  simp only [hi]
  split
  · rename_i hw
    rw [if_pos hw] at hp
    exact .inl (Oper.wp_mono hk hp)
  · rename_i hw
    rw [if_neg hw] at hp
    exact hk _ _ ⟨fun _ h => h, hp⟩

theorem q_sound (hsel : ∀ (j : Nat) (o : Oper) cs b, ops[j]? = some o → o.op ≠ .select cs b) (hQ : ∀ c a (d : Option Tmp) v w, Q (.panic c) (a.put d v) w → Q (.panic c) a w) (N : Act → Prop) (l' : Array Bool) (w : World) (m : Nat) (held : Bool) (S1 : World → Prop) (hS1 : if held then S1 = S else ∀ w, S1 w) :
    ∀ (is : List Nat) (l : Array Bool) (a : Act), qOk ops ds held is l = some l' → Closed ops l → (is ≠ [] → S1 w) → wpQuiet P ops S1 N (is.filterMap (ops[·]?)) a → (∀ a', Closed ops l' → N a' → wpAnyD P ops Q S ds m l' a' w) → wpAnyD P ops Q S ds (is.length + m) l a w
  | [], l, a, h, hc, _, hp, hN => by
    simp only [qOk, Option.some.injEq] at h
    subst h
    simpa [wpQuiet] using hN a hc (by simpa [wpQuiet] using hp)
  | i :: is, l, a, h, hc, hS, hp, hN => by
    unfold qOk at h
    cases hi : ops[i]? with
    | none => rw [hi] at h; simp at h
    | some o =>
      rw [hi] at h
      simp only at h
      split at h
      case isFalse => cases h
      rename_i h1
      simp only [Bool.and_eq_true] at h1
      obtain ⟨⟨⟨hv, hfree⟩, hready⟩, hreach⟩ := h1
      have hSw : S1 w := hS (by simp)
      have hr : i ∈ Region.ready .any ops l := by simpa using hready
      have hds : (∀ w, S1 w) ∨ (S1 = S ∧ ∀ d ∈ ds, reach ops i ops.size d = true) := by
        cases held with
        | false => exact .inl (by simpa using hS1)
        | true => exact .inr ⟨by simpa using hS1, by simpa using hreach⟩
      have hp' : wpQuiet P ops S1 N (o :: is.filterMap (ops[·]?)) a := by
        have := hp
        rwa [List.filterMap_cons_some hi] at this
      have key : ∃ v, YieldsIf P ops S1 o v a ∧ wpQuiet P ops S1 N (is.filterMap (ops[·]?)) (a.put o.dst v) := by
        unfold wpQuiet at hp'
        split at hp'
        · rename_i hw
          obtain ⟨v, hv1, hv2⟩ := hp'
          refine ⟨v, .inl ⟨hw, fun w' hw' => ?_⟩, hv2⟩
          have h3 := hv1 w' hw'
          unfold Oper.quietAt at h3
          cases hrun : (execOp a.eval o).run P w' with
          | ok m w1 =>
            obtain ⟨u, rfl⟩ := isVal_spec (P := P) o hv a.eval w' m w1 hrun
            rw [hrun] at h3
            obtain ⟨rfl, rfl⟩ := h3
            rfl
          | halt c w1 =>
            rw [hrun] at h3
            exact h3.elim
        · rename_i hw
          exact ⟨undef, .inr ⟨by simpa using hw, rfl⟩, hp'⟩
      obtain ⟨v, hy, hnext⟩ := key
      have ih := q_sound hsel hQ N l' w m held S1 hS1 is (l.setIfInBounds i true) (a.put o.dst v) h (hc.set hr) (fun _ => hSw) hnext hN
      have h4 := wpAnyD_first (P := P) (Q := Q) (S := S) hi hsel (fun c a' w' => hQ c a' o.dst v w') hds (is.length + m) l a w hc (Region.free_spec hi hfree) hr hy hSw ih
      rwa [show (i :: is).length + m = is.length + m + 1 by simp only [List.length_cons]; omega]

theorem plan_sound (hsel : ∀ (j : Nat) (o : Oper) cs b, ops[j]? = some o → o.op ≠ .select cs b) (hQ : ∀ c a (d : Option Tmp) v w, Q (.panic c) (a.put d v) w → Q (.panic c) a w) :
    ∀ (plan : Plan) (l : Array Bool) (a : Act) (w : World), planOk ops ds plan l = true → Closed ops l → (noQ plan = false → S w) → planW P ops Q S ds plan a w →
      ∀ m, cnt plan ≤ m → wpAnyD P ops Q S ds m l a w := by
  intro plan
  induction plan with
  | done =>
    intro l a w h _ _ hp m _
    have hr : Region.ready .any ops l = [] := by simpa [planOk] using h
    cases m with
    | zero => exact ⟨hr, hp⟩
    | succ k => exact ⟨fun _ => hp, by rw [hr]; simp⟩
  | p is r ih =>
    intro l a w h hc hS hp m hm
    unfold planOk at h
    cases hq : qOk ops ds false is l with
    | none => rw [hq] at h; cases h
    | some l' =>
      rw [hq] at h
      simp only [cnt] at hm
      obtain ⟨k, rfl⟩ : ∃ k, m = is.length + k := ⟨m - is.length, by omega⟩
      exact q_sound hsel hQ _ l' w k false (fun _ => True) (by simp) is l a hq hc (fun _ => trivial) hp (fun a' hc' hn => ih l' a' w h hc' hS hn k (by omega))
  | q is r ih =>
    intro l a w h hc hS hp m hm
    unfold planOk at h
    cases hq : qOk ops ds true is l with
    | none => rw [hq] at h; cases h
    | some l' =>
      rw [hq] at h
      simp only [cnt] at hm
      obtain ⟨k, rfl⟩ : ∃ k, m = is.length + k := ⟨m - is.length, by omega⟩
      refine q_sound hsel hQ _ l' w k true S (by simp) is l a hq hc (fun hne => hS ?_) hp (fun a' hc' hn => ih l' a' w h hc' (fun hq => hS ?_) hn k (by omega))
      · cases is with
        | nil => exact absurd rfl hne
        | cons => simp [noQ]
      · simp [noQ, hq]
  | e i r ih =>
    intro l a w h hc hS hp m hm
    unfold planOk at h
    simp only [Bool.and_eq_true] at h
    obtain ⟨⟨h1, h0⟩, h2⟩ := h
    have hr : Region.ready .any ops l = [i] := by simpa using h1
    have hri : i ∈ Region.ready .any ops l := by rw [hr]; simp
    simp only [cnt] at hm
    obtain ⟨m, rfl⟩ : ∃ k, m = k + 1 := ⟨m - 1, by omega⟩
    refine ⟨fun h => (by rw [hr] at h; cases h), fun j hj => ?_⟩
    rw [hr, List.mem_singleton] at hj
    subst hj
    refine eOp_step hp ?_
    rintro a' w' ⟨hs, hp'⟩
    refine ⟨hs, ih (l.setIfInBounds j true) a' w' h2 (hc.set hri) (fun hq => ?_) hp' m (by omega)⟩
    by_cases hm : j ∈ ds
    · simp [hm, hq] at h0
    · exact hs hm (hS hq)
  | br i j ri rj ihi ihj =>
    intro l a w h hc hS hp m hm
    unfold planOk at h
    simp only [Bool.and_eq_true] at h
    obtain ⟨⟨⟨⟨h1, h0⟩, h2⟩, h3⟩, h4⟩ := h
    have hr : Region.ready .any ops l = [i, j] := by simpa using h1
    simp only [cnt] at hm
    obtain ⟨m, rfl⟩ : ∃ k, m = k + 1 := ⟨m - 1, by omega⟩
    refine ⟨fun h => (by rw [hr] at h; cases h), fun k hk => ?_⟩
    rw [hr, List.mem_cons, List.mem_singleton] at hk
    rcases hk with rfl | rfl
    · refine eOp_step hp.1 ?_
      rintro a' w' ⟨hs, hp'⟩
      refine ⟨hs, ihi (l.setIfInBounds k true) a' w' h2 (hc.set (by rw [hr]; simp)) (fun hq => ?_) hp' m (by omega)⟩
      by_cases hm : k ∈ ds
      · simp [hm, hq] at h0
      · exact hs hm (hS (by simp [noQ, hq]))
    · refine eOp_step hp.2 ?_
      rintro a' w' ⟨hs, hp'⟩
      refine ⟨hs, ihj (l.setIfInBounds k true) a' w' h4 (hc.set (by rw [hr]; simp)) (fun hq => ?_) hp' m (by omega)⟩
      by_cases hm : k ∈ ds
      · simp [hm, hq] at h3
      · exact hs hm (hS (by simp [noQ, hq]))

/-- A REGION THAT DRAWS ITS ORDER, BY A PLAN. -/
theorem wp_region_plan {id : Nat} {a : Act} {w : World} (plan : Plan) (ds : List Nat) (hm : P.follows .mixedOrders = true) (hok : (Region.noSelect ops && planOk ops ds plan (Array.replicate ops.size false) && Nat.ble (cnt plan) ops.size) = true)
    (hQ : ∀ c a (d : Option Tmp) v w, Q (.panic c) (a.put d v) w → Q (.panic c) a w) {S0 : List Nat} {w0 : World} {L : List Ent} (H : St S0 w0 w L)
    (h : ∀ (X : Type) (_ : Nonempty X) (f : X → World) (w' : World), (∀ x, CellsOf (f x) L) → (∀ w, (∀ e ∈ L, holds w e.2) → ∃ x, w = f x) → St S0 w0 w' L → wpPlan P ops Q (fun w => ∃ x, w = f x) ds plan a w') :
    (Code.region id ops true).wp P Q a w := by
  simp only [Bool.and_eq_true] at hok
  obtain ⟨⟨hs, hok⟩, hc⟩ := hok
  refine wp_region_any hm (wpAny_of_D (S := fun w => ∃ x : { w : World // ∀ e ∈ L, holds w e.2 }, w = x.val) (ds := ds) _ _ _ _ ?_)
  have H' := H.drew
  refine plan_sound (fun j o cs b => Region.noSelect_spec hs j o cs b) hQ plan _ a w.drew hok ?_ (fun _ => ⟨⟨w.drew, H'.all⟩, rfl⟩) ?_ _ (Nat.le_of_ble_eq_true hc)
  · intro j oj _ hl
    simp [Array.getD_eq_getD_getElem?, Array.getElem?_replicate] at hl
    split at hl <;> simp at hl
  · exact h { w : World // ∀ e ∈ L, holds w e.2 } ⟨⟨w.drew, H'.all⟩⟩ Subtype.val w.drew (fun x => cells_of x.val L x.property) (fun w hw => ⟨⟨w, hw⟩, rfl⟩) H' |>.out

theorem plan_q {i : Nat} {is : List Nat} {r : Plan} {a : Act} {w : World} {o : Oper} (hi : ops[i]? = some o) (h : ∀ N : Act → Prop, (∀ a', wpPlan P ops Q S ds (.q is r) a' w → N a') → wpQuiet P ops S N [o] a) : wpPlan P ops Q S ds (.q (i :: is) r) a w := by
  have h1 := h _ fun _ h => h.out
  refine ⟨?_⟩
  show wpQuiet P ops S (fun a' => planW P ops Q S ds r a' w) ((i :: is).filterMap (ops[·]?)) a
  rw [List.filterMap_cons_some hi]
  unfold wpQuiet at h1 ⊢
  split at h1
  · rw [if_pos ‹_›]
    obtain ⟨v, h2, h3⟩ := h1
    exact ⟨v, h2, h3⟩
  · rw [if_neg ‹_›]
    exact h1
theorem plan_q0 {r : Plan} {a : Act} {w : World} (h : wpPlan P ops Q S ds r a w) : wpPlan P ops Q S ds (.q [] r) a w := ⟨h.out⟩
theorem plan_p {i : Nat} {is : List Nat} {r : Plan} {a : Act} {w : World} {o : Oper} (hi : ops[i]? = some o) (h : ∀ N : Act → Prop, (∀ a', wpPlan P ops Q S ds (.p is r) a' w → N a') → wpQuiet P ops (fun _ => True) N [o] a) : wpPlan P ops Q S ds (.p (i :: is) r) a w := by
  have h1 := h _ fun _ h => h.out
  refine ⟨?_⟩
  show wpQuiet P ops (fun _ => True) (fun a' => planW P ops Q S ds r a' w) ((i :: is).filterMap (ops[·]?)) a
  rw [List.filterMap_cons_some hi]
  unfold wpQuiet at h1 ⊢
  split at h1
  · rw [if_pos ‹_›]
    obtain ⟨v, h2, h3⟩ := h1
    exact ⟨v, h2, h3⟩
  · rw [if_neg ‹_›]
    exact h1
theorem plan_p0 {r : Plan} {a : Act} {w : World} (h : wpPlan P ops Q S ds r a w) : wpPlan P ops Q S ds (.p [] r) a w := ⟨h.out⟩
theorem plan_e {i : Nat} {r : Plan} {a : Act} {w : World} {o : Oper} (hi : ops[i]? = some o) (hw : Region.wanted o (yielded ops a.tmps) = true)
    (h : ∀ K : Act → World → Prop, (∀ a' w', (i ∉ ds → S w → S w') → wpPlan P ops Q S ds r a' w' → K a' w') → o.wp P a w K Q) : wpPlan P ops Q S ds (.e i r) a w := by
  refine ⟨⟨o, hi, ?_⟩⟩
  rw [if_pos hw]
  exact h _ fun a' w' h1 h2 => ⟨h1, h2.out⟩
theorem plan_br {i j : Nat} {ri rj : Plan} {a : Act} {w : World} (hi : wpPlan P ops Q S ds (.e i ri) a w) (hj : wpPlan P ops Q S ds (.e j rj) a w) : wpPlan P ops Q S ds (.br i j ri rj) a w := ⟨⟨hi.out, hj.out⟩⟩
theorem plan_done {a : Act} {w : World} (h : Q .normal a w) : wpPlan P ops Q S ds .done a w := ⟨h⟩
end
end Go.V
