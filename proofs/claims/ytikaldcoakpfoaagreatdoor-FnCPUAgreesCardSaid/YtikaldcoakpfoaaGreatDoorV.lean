import Derived.WalkKit
import Derived.KernelRfl
import Derived.Lib.ConvBytes
import Derived.Deep.Draws
namespace Go.V
set_option linter.unusedVariables false
set_option linter.unusedSimpArgs false
set_option linter.unnecessarySimpa false
open Go Go.RowKit

/-- From w to w' memory has grown; of the blocks of w those of S alone may have turned. -/
structure Ext (S : List Nat) (w w' : World) : Prop where
  os : w'.os = w.os
  tape : w'.tape = w.tape
  output : w'.output = w.output
  size : w.heap.size ≤ w'.heap.size
  block : ∀ k, k < w.heap.size → k ∉ S → w'.heap[k]? = w.heap[k]?

theorem Ext.refl (S : List Nat) (w : World) : Ext S w w := ⟨rfl, rfl, rfl, Nat.le_refl _, fun _ _ _ => rfl⟩
theorem Ext.trans {S S' : List Nat} {a b c : World} (h : Ext S a b) (k : Ext S' b c) (hs : ∀ i ∈ S', i ∈ S ∨ a.heap.size ≤ i) : Ext S a c :=
  ⟨k.os.trans h.os, k.tape.trans h.tape, k.output.trans h.output, Nat.le_trans h.size k.size, fun i hi hn =>
    (k.block i (Nat.lt_of_lt_of_le hi h.size) (fun e => (hs i e).elim hn (fun e' => by omega))).trans (h.block i hi hn)⟩
theorem Ext.below {w w' : World} (h : Ext [] w w') : Below w.heap.size w w' := ⟨h.os, h.tape, h.output, h.size, fun k hk => h.block k hk (by simp)⟩
theorem Ext.of_below {w w' : World} (h : Below w.heap.size w w') : Ext [] w w' := ⟨h.os, h.tape, h.output, h.size, fun k hk _ => h.block k hk⟩
theorem lt_of_get {w : World} {b : Nat} {o : Obj} (h : w.heap[b]? = some o) : b < w.heap.size := (Array.getElem?_eq_some_iff.1 h).1
theorem Ext.get {S : List Nat} {w w' : World} (h : Ext S w w') {b : Nat} {o : Obj} (hb : w.heap[b]? = some o) (hn : b ∉ S) : w'.heap[b]? = some o := (h.block b (lt_of_get hb) hn).trans hb
theorem heap_old (w : World) (o : Obj) (k : Nat) (h : k < w.heap.size) : (w.alloc o).heap[k]? = w.heap[k]? := Below.heap_alloc w o k h
theorem Ext.alloc (S : List Nat) (w : World) (o : Obj) : Ext S w (w.alloc o) := ⟨rfl, rfl, rfl, by simp, fun k hk _ => heap_old w o k hk⟩
theorem Ext.drewN (S : List Nat) (w : World) (n : Nat) : Ext S w (w.drewN n) := ⟨rfl, rfl, rfl, Nat.le_refl _, fun _ _ _ => rfl⟩
theorem Ext.drew (S : List Nat) (w : World) : Ext S w w.drew := ⟨rfl, rfl, rfl, Nat.le_refl _, fun _ _ _ => rfl⟩

/-- A fact on memory that hangs on the blocks of fp alone. -/
def Local (fp : List Nat) (R : World → Prop) : Prop := ∀ w w' : World, (∀ b ∈ fp, w'.heap[b]? = w.heap[b]?) → R w → R w'

/-- What is known of memory, a piece: what block b holds; a row (key: its block, none: a nil slice) of cap elements, the first n of which are xs (as cells); the cells from an address on; or a fact on some blocks. -/
inductive Kn where
  | is (b : Nat) (o : Obj)
  | row (key : Option Nat) (T : TypeId) (size n cap : Nat) (xs : List Value)
  | arr (s : Option Addr) (xs : List Value)
  | rep (fp : List Nat) (R : World → Prop)
/-- The blocks of a piece. -/
def Kn.fp : Kn → List Nat
  | .is b _ => [b]
  | .row key .. => key.toList
  | .arr s _ => s.toList.map (·.block)
  | .rep fp _ => fp
/-- A piece, and whether it may be written. -/
abbrev Ent := Bool × Kn
def holds (w : World) : Kn → Prop
  | .is b o => w.heap[b]? = some o
  | .row (some b) T size n cap xs => ∃ cur, w.heap[b]? = some (.cells cur T (0, 0)) ∧ cur.size = cap * size ∧ n ≤ cap ∧ cap ≤ maxLen ∧ cur.toList.take (n * size) = xs
  | .row none _ _ n cap xs => n = 0 ∧ cap = 0 ∧ xs = []
  | .arr (some a) xs => a.spot = none ∧ a.block < w.heap.size ∧ ∀ j, j < xs.length → w.cell? ⟨a.block, a.off + j, none⟩ = xs[j]?
  | .arr none xs => xs = []
  | .rep fp R => Local fp R ∧ (∀ b ∈ fp, b < w.heap.size) ∧ R w
/-- Two pieces have no block in common, unless neither may be written. -/
def Dis (e e' : Ent) : Prop := (e.1 = true ∨ e'.1 = true) → ∀ b ∈ e.2.fp, b ∉ e'.2.fp
theorem Dis.symm {e e' : Ent} (h : Dis e e') : Dis e' e := fun hp b hb hb' => h hp.symm b hb' hb

/-- What is known of memory at w, in a call that began at w0 and may turn the blocks of S. -/
structure St (S : List Nat) (w0 w : World) (L : List Ent) : Prop where
  ext : Ext S w0 w
  apart : L.Pairwise Dis
  nodup : ∀ e ∈ L, e.1 = true → e.2.fp.Nodup
  all : ∀ e ∈ L, holds w e.2
  perm : ∀ e ∈ L, e.1 = true → ∀ b ∈ e.2.fp, b ∈ S ∨ w0.heap.size ≤ b

theorem holds.lt {w : World} : ∀ {k : Kn}, holds w k → ∀ b ∈ k.fp, b < w.heap.size
  | .is b o, h, c, hc => by
    simp only [Kn.fp, List.mem_singleton] at hc
    subst hc
    exact lt_of_get h
  | .row (some b) .., ⟨cur, h, _⟩, c, hc => by
    simp only [Kn.fp, Option.toList_some, List.mem_singleton] at hc
    subst hc
    exact lt_of_get h
  | .row none .., _, c, hc => by simp [Kn.fp] at hc
  | .arr (some a) xs, h, c, hc => by
    simp only [Kn.fp, Option.toList_some, List.map_cons, List.map_nil, List.mem_singleton] at hc
    subst hc
    exact h.2.1
  | .arr none xs, _, c, hc => by simp [Kn.fp] at hc
  | .rep fp R, h, c, hc => h.2.1 c hc
theorem holds.same {w w' : World} : ∀ {k : Kn}, holds w k → (∀ b ∈ k.fp, w'.heap[b]? = w.heap[b]?) → w.heap.size ≤ w'.heap.size → holds w' k
  | .is b o, h, hs, _ => (hs b (by simp [Kn.fp])).trans h
  | .row (some b) .., ⟨cur, h, r⟩, hs, _ => ⟨cur, (hs b (by simp [Kn.fp])).trans h, r⟩
  | .row none .., h, _, _ => h
  | .arr (some a) xs, h, hs, hz => ⟨h.1, Nat.lt_of_lt_of_le h.2.1 hz, fun j hj => (World.cell?_of_block (a := ⟨a.block, a.off + j, none⟩) (hs a.block (by simp [Kn.fp]))).trans (h.2.2 j hj)⟩
  | .arr none xs, h, _, _ => h
  | .rep fp R, h, hs, hz => ⟨h.1, fun b hb => Nat.lt_of_lt_of_le (h.2.1 b hb) hz, h.1 w w' hs h.2.2⟩
theorem holds.ext {S : List Nat} {w w' : World} (h : Ext S w w') {k : Kn} (hk : holds w k) (hn : ∀ b ∈ k.fp, b ∉ S) : holds w' k :=
  hk.same (fun b hb => h.block b (hk.lt b hb) (hn b hb)) h.size

/-- L has the entry e, ahead of it A, behind it B. -/
inductive Split : List Ent → Ent → List Ent → List Ent → Prop where
  | here (e : Ent) (B : List Ent) : Split (e :: B) e [] B
  | there {L A B : List Ent} {e : Ent} (x : Ent) (h : Split L e A B) : Split (x :: L) e (x :: A) B
theorem Split.eq {L A B : List Ent} {e : Ent} (h : Split L e A B) : L = A ++ e :: B := by
  induction h with
  | here => rfl
  | there x _ ih => rw [ih]; rfl
theorem Split.mem {L A B : List Ent} {e : Ent} (h : Split L e A B) : e ∈ L := by rw [h.eq]; simp
theorem Split.sublist {L A B : List Ent} {e : Ent} (h : Split L e A B) : (A ++ B).Sublist L := by
  rw [h.eq]
  exact List.Sublist.append_left (List.sublist_cons_self _ _) _
theorem Split.dis {L A B : List Ent} {e : Ent} (h : Split L e A B) (hn : L.Pairwise Dis) : ∀ x ∈ A ++ B, Dis e x := by
  intro x hx
  rw [h.eq, List.pairwise_append] at hn
  obtain ⟨_, h2, h3⟩ := hn
  rcases List.mem_append.1 hx with hx | hx
  · exact (h3 x hx e (by simp)).symm
  · exact (List.pairwise_cons.1 h2).1 x hx

/-- Some entries that may be written are struck from L: L0 is left; S' is their blocks. -/
inductive Strikes : List Ent → List Nat → List Ent → Prop where
  | nil (L : List Ent) : Strikes L [] L
  | cons {L A B L0 : List Ent} {k : Kn} {S' : List Nat} (h : Split L (true, k) A B) (h' : Strikes (A ++ B) S' L0) : Strikes L (k.fp ++ S') L0

/-- Lin is part of what is known (each entry once; those of S' may be written). -/
inductive Picks : List Ent → List Ent → List Nat → Prop where
  | nil (L : List Ent) : Picks L [] []
  | rd {L A B Lin : List Ent} {p : Bool} {k : Kn} {S' : List Nat} (h : Split L (p, k) A B) (h' : Picks (A ++ B) Lin S') : Picks L ((false, k) :: Lin) S'
  | wr {L A B Lin : List Ent} {k : Kn} {S' : List Nat} (h : Split L (true, k) A B) (h' : Picks (A ++ B) Lin S') : Picks L ((true, k) :: Lin) (k.fp ++ S')

section
variable {S : List Nat} {w0 w : World} {L : List Ent}

theorem St.init (S : List Nat) (w : World) : St S w w [] := ⟨Ext.refl _ _, List.Pairwise.nil, by simp, by simp, by simp⟩

theorem St.cons (h : St S w0 w L) (e : Ent) (he : holds w e.2) (hnd : e.1 = true → e.2.fp.Nodup) (hn : ∀ x ∈ L, Dis e x) (hp : e.1 = true → ∀ b ∈ e.2.fp, b ∈ S ∨ w0.heap.size ≤ b) : St S w0 w (e :: L) := by
  refine ⟨h.ext, List.pairwise_cons.2 ⟨hn, h.apart⟩, ?_, ?_, ?_⟩
  · intro x hx
    rcases List.mem_cons.1 hx with rfl | hx
    · exact hnd
    · exact h.nodup x hx
  · intro x hx
    rcases List.mem_cons.1 hx with rfl | hx
    · exact he
    · exact h.all x hx
  · intro x hx
    rcases List.mem_cons.1 hx with rfl | hx
    · exact hp
    · exact h.perm x hx

theorem St.lt (h : St S w0 w L) {e : Ent} (he : e ∈ L) {b : Nat} (hb : b ∈ e.2.fp) : b < w.heap.size := (h.all _ he).lt b hb

/-- A nil slice is a row of no elements. -/
theorem St.nilRow (h : St S w0 w L) (T : TypeId) (size : Nat) : St S w0 w ((true, .row none T size 0 0 []) :: L) :=
  h.cons _ ⟨rfl, rfl, rfl⟩ (by simp [Kn.fp]) (fun x _ _ b hb => by simp [Kn.fp] at hb) (by simp [Kn.fp])

theorem St.of_ext (h : St S w0 w L) {w' : World} (e : Ext [] w w') : St S w0 w' L :=
  ⟨h.ext.trans e (by simp), h.apart, h.nodup, fun x hx => (h.all x hx).ext e (by simp), h.perm⟩

/-- Something old that is only read. -/
theorem St.read (h : St S w0 w L) (k : Kn) (hk : holds w k) (hn : ∀ x ∈ L, x.1 = true → ∀ b ∈ k.fp, b ∉ x.2.fp) : St S w0 w ((false, k) :: L) :=
  h.cons _ hk (by simp) (fun x hx hp b hb => hn x hx (hp.resolve_left (by simp)) b hb) (by simp)

/-- Pieces of blocks that are new. -/
theorem St.new (h : St S w0 w L) {w' : World} (e : Ext [] w w') (k : Kn) (hk : holds w' k) (hnd : k.fp.Nodup) (hn : ∀ b ∈ k.fp, w.heap.size ≤ b) : St S w0 w' ((true, k) :: L) := by
  refine (h.of_ext e).cons (true, k) hk (fun _ => hnd) ?_ ?_
  · intro x hx _ b hb hm
    have h1 := h.lt hx hm
    have h2 := hn b hb
    omega
  · intro _ b hb
    exact .inr (Nat.le_trans h.ext.size (hn b hb))

theorem St.alloc (h : St S w0 w L) (o : Obj) : St S w0 (w.alloc o) ((true, .is w.heap.size o) :: L) :=
  h.new (Ext.alloc [] w o) (.is w.heap.size o) (heap_alloc_new w o) (by simp [Kn.fp]) (by simp [Kn.fp])

theorem St.drewN (h : St S w0 w L) (n : Nat) : St S w0 (w.drewN n) L := h.of_ext (Ext.drewN [] w n)
theorem St.drew (h : St S w0 w L) : St S w0 w.drew L := h.of_ext (Ext.drew [] w)

theorem St.sublist (h : St S w0 w L) {L' : List Ent} (hs : L'.Sublist L) : St S w0 w L' :=
  ⟨h.ext, h.apart.sublist hs, fun e he => h.nodup e (hs.subset he), fun e he => h.all e (hs.subset he), fun e he => h.perm e (hs.subset he)⟩

theorem St.top0 (h : St S w0 w L) : St S w0 w [] := h.sublist (List.nil_sublist _)
theorem St.top1 {a : Ent} (h : St S w0 w (a :: L)) : St S w0 w [a] := h.sublist (List.Sublist.cons_cons _ (List.nil_sublist _))
theorem St.top2 {a b : Ent} (h : St S w0 w (a :: b :: L)) : St S w0 w [a, b] := h.sublist (List.Sublist.cons_cons _ (List.Sublist.cons_cons _ (List.nil_sublist _)))
theorem St.top3 {a b c : Ent} (h : St S w0 w (a :: b :: c :: L)) : St S w0 w [a, b, c] := h.sublist (List.Sublist.cons_cons _ (List.Sublist.cons_cons _ (List.Sublist.cons_cons _ (List.nil_sublist _))))

theorem Strikes.sublist {S' : List Nat} {L0 : List Ent} (h : Strikes L S' L0) : L0.Sublist L := by
  induction h with
  | nil => exact List.Sublist.refl _
  | cons hs _ ih => exact ih.trans hs.sublist

theorem Strikes.perm {S' : List Nat} {L0 : List Ent} (h : Strikes L S' L0) : ∀ b ∈ S', ∃ k, (true, k) ∈ L ∧ b ∈ k.fp := by
  induction h with
  | nil => intro b hb; cases hb
  | cons hs h' ih =>
    intro b hb
    rcases List.mem_append.1 hb with hb | hb
    · exact ⟨_, hs.mem, hb⟩
    · obtain ⟨k, hk, hb⟩ := ih b hb
      exact ⟨k, hs.sublist.subset hk, hb⟩

theorem Strikes.not_mem {S' : List Nat} {L0 : List Ent} (h : Strikes L S' L0) : L.Pairwise Dis → ∀ b ∈ S', ∀ e ∈ L0, b ∉ e.2.fp := by
  induction h with
  | nil => intro _ b hb; cases hb
  | cons hs h' ih =>
    intro hn b hb e he
    rcases List.mem_append.1 hb with hb | hb
    · exact hs.dis hn e (h'.sublist.subset he) (.inl rfl) b hb
    · exact ih (hn.sublist hs.sublist) b hb e he

theorem Strikes.nodup {S' : List Nat} {L0 : List Ent} (h : Strikes L S' L0) : L.Pairwise Dis → (∀ e ∈ L, e.1 = true → e.2.fp.Nodup) → S'.Nodup := by
  induction h with
  | nil => intro _ _; exact List.nodup_nil
  | cons hs h' ih =>
    intro hn hd
    rw [List.nodup_append]
    refine ⟨hd _ hs.mem rfl, ih (hn.sublist hs.sublist) (fun e he => hd e (hs.sublist.subset he)), ?_⟩
    rintro a ha b hb rfl
    obtain ⟨k, hk, hak⟩ := h'.perm a hb
    exact hs.dis hn _ hk (.inl rfl) a ha hak

theorem Picks.from {Lin : List Ent} {S' : List Nat} (hq : Picks L Lin S') : ∀ e ∈ Lin, ∃ p, (p, e.2) ∈ L ∧ (e.1 = true → p = true) := by
  induction hq with
  | nil => intro e he; cases he
  | rd hs _ ih =>
    intro e he
    rcases List.mem_cons.1 he with rfl | he
    · exact ⟨_, hs.mem, by simp⟩
    · obtain ⟨p, h1, h2⟩ := ih e he
      exact ⟨p, hs.sublist.subset h1, h2⟩
  | wr hs _ ih =>
    intro e he
    rcases List.mem_cons.1 he with rfl | he
    · exact ⟨_, hs.mem, by simp⟩
    · obtain ⟨p, h1, h2⟩ := ih e he
      exact ⟨p, hs.sublist.subset h1, h2⟩

/-- WHAT A CALLEE MAY BE TOLD. -/
theorem St.pick (h : St S w0 w L) {Lin : List Ent} {S' : List Nat} (hp : Picks L Lin S') : St S' w w Lin := by
  induction hp with
  | nil => exact St.init _ _
  | @rd L A B Lin p k S' hs h' ih =>
    have h0 := ih (h.sublist hs.sublist)
    refine h0.cons _ (h.all (p, k) hs.mem) (by simp) (fun x hx hpx b hb => ?_) (by simp)
    have hx1 : x.1 = true := hpx.resolve_left (by simp)
    obtain ⟨q, hq, hqt⟩ := h'.from x hx
    exact hs.dis h.apart _ hq (.inr (hqt hx1)) b hb
  | @wr L A B Lin k S' hs h' ih =>
    have h1 := ih (h.sublist hs.sublist)
    have h0 : St (k.fp ++ S') w w Lin := ⟨Ext.refl _ _, h1.apart, h1.nodup, h1.all, fun e he hp b hb => (h1.perm e he hp b hb).imp (List.mem_append_right _) id⟩
    refine h0.cons _ (h.all (true, k) hs.mem) (fun _ => h.nodup _ hs.mem rfl) (fun x hx _ b hb => ?_) (fun _ b hb => .inl (List.mem_append_left _ hb))
    obtain ⟨q, hq, _⟩ := h'.from x hx
    exact hs.dis h.apart _ hq (.inl rfl) b hb

/-- BEHIND A CALL: what the callee tells (all of it may be written: its own, or handed in), and what it could not turn. -/
theorem St.merge (h : St S w0 w L) {S' : List Nat} {L0 Lout : List Ent} {w' : World} (hs : Strikes L S' L0) (h' : St S' w w' Lout) (hw : Lout.all (·.1) = true) : St S w0 w' (Lout ++ L0) := by
  have hnew : ∀ e ∈ Lout, ∀ b ∈ e.2.fp, b ∈ S' ∨ w.heap.size ≤ b := fun e he b hb => h'.perm e he (List.all_eq_true.1 hw e he) b hb
  have hS : ∀ i ∈ S', i ∈ S ∨ w0.heap.size ≤ i := fun i hi => by
    obtain ⟨k, hk, hik⟩ := hs.perm i hi
    exact h.perm _ hk rfl i hik
  have h0 := h.sublist hs.sublist
  refine ⟨h.ext.trans h'.ext hS, ?_, ?_, ?_, ?_⟩
  · rw [List.pairwise_append]
    refine ⟨h'.apart, h0.apart, ?_⟩
    intro e he x hx _ b hb hbx
    rcases hnew e he b hb with hn | hn
    · exact hs.not_mem h.apart b hn x hx hbx
    · have := h0.lt hx hbx
      omega
  · intro e he
    rcases List.mem_append.1 he with he | he
    · exact h'.nodup e he
    · exact h0.nodup e he
  · intro e he
    rcases List.mem_append.1 he with he | he
    · exact h'.all e he
    · exact (h0.all e he).ext h'.ext (fun b hb hm => hs.not_mem h.apart b hm e he hb)
  · intro e he hp b hb
    rcases List.mem_append.1 he with he | he
    · rcases hnew e he b hb with hn | hn
      · exact hS b hn
      · exact .inr (Nat.le_trans h.ext.size hn)
    · exact h0.perm e he hp b hb

theorem pairwise_middle {A B : List Ent} {e : Ent} (h : (e :: (A ++ B)).Pairwise Dis) : (A ++ e :: B).Pairwise Dis := by
  rw [List.pairwise_cons, List.pairwise_append] at h
  rw [List.pairwise_append, List.pairwise_cons]
  obtain ⟨h1, h2, h3, h4⟩ := h
  refine ⟨h2, ⟨fun x hx => h1 x (List.mem_append_right _ hx), h3⟩, ?_⟩
  intro x hx y hy
  rcases List.mem_cons.1 hy with rfl | hy
  · exact (h1 x (List.mem_append_left _ hx)).symm
  · exact h4 x hx y hy

/-- AN ENTRY GIVES WAY TO ANOTHER: of the same blocks, or of new ones. -/
theorem St.replace (h : St S w0 w L) {w' : World} {A B : List Ent} {k k' : Kn} (hs : Split L (true, k) A B) (e : Ext k.fp w w') (ho : holds w' k') (hnd : k'.fp.Nodup)
    (hk : ∀ b ∈ k'.fp, b ∈ k.fp ∨ w.heap.size ≤ b) : St S w0 w' (A ++ (true, k') :: B) := by
  have h2 : St k.fp w w' [(true, k')] := ⟨e, by simp, by simpa using hnd, by simpa using ho, by simpa using hk⟩
  have h1 := h.merge (S' := k.fp ++ []) (.cons hs (.nil _)) (by simpa using h2) rfl
  refine ⟨h1.ext, pairwise_middle h1.apart, ?_, ?_, ?_⟩
  · intro x hx
    refine h1.nodup x ?_
    simp only [List.mem_append, List.mem_cons, List.not_mem_nil, or_false] at hx ⊢
    rcases hx with hx | hx | hx <;> simp [hx]
  · intro x hx
    refine h1.all x ?_
    simp only [List.mem_append, List.mem_cons, List.not_mem_nil, or_false] at hx ⊢
    rcases hx with hx | hx | hx <;> simp [hx]
  · intro x hx
    refine h1.perm x ?_
    simp only [List.mem_append, List.mem_cons, List.not_mem_nil, or_false] at hx ⊢
    rcases hx with hx | hx | hx <;> simp [hx]

/-- ONE BLOCK TURNS. -/
theorem St.turn (h : St S w0 w L) {w' : World} {A B : List Ent} {k k' : Kn} (hs : Split L (true, k) A B) (e : Ext k.fp w w') (ho : holds w' k') (hf : k'.fp = k.fp) : St S w0 w' (A ++ (true, k') :: B) :=
  h.replace hs e ho (hf ▸ h.nodup _ hs.mem rfl) (fun b hb => .inl (hf ▸ hb))

/-- SOME PIECES AS ONE FACT. -/
theorem St.pack (h : St S w0 w L) {fp : List Nat} {L0 : List Ent} (hs : Strikes L fp L0) (R : World → Prop) (hl : Local fp R) (hR : R w) : St S w0 w ((true, .rep fp R) :: L0) := by
  refine (h.sublist hs.sublist).cons _ ⟨hl, ?_, hR⟩ (fun _ => hs.nodup h.apart h.nodup) (fun x hx _ b hb => hs.not_mem h.apart b hb x hx) ?_
  · intro b hb
    obtain ⟨k, hk, hbk⟩ := hs.perm b hb
    exact (h.all _ hk).lt b hbk
  · intro _ b hb
    obtain ⟨k, hk, hbk⟩ := hs.perm b hb
    exact h.perm _ hk rfl b hbk

/-- .. with the blocks' list spelt otherwise. -/
theorem St.packAs (h : St S w0 w L) {fp0 fp : List Nat} {L0 : List Ent} (hs : Strikes L fp0 L0) (he : fp0 = fp) (R : World → Prop) (hl : Local fp R) (hR : R w) : St S w0 w ((true, .rep fp R) :: L0) := by
  subst he
  exact h.pack hs R hl hR
/-- The order of what is known is no matter. -/
theorem St.reorder (h : St S w0 w L) {L' : List Ent} (hp : L.Perm L') : St S w0 w L' :=
  ⟨h.ext, hp.pairwise h.apart (fun h => h.symm), fun e he => h.nodup e (hp.mem_iff.2 he), fun e he => h.all e (hp.mem_iff.2 he), fun e he => h.perm e (hp.mem_iff.2 he)⟩

/-- L' has some of the entries of L, each once, in whatever order. -/
inductive Sel : List Ent → List Ent → Prop where
  | nil (L : List Ent) : Sel L []
  | cons {L A B L' : List Ent} {e : Ent} (h : Split L e A B) (h' : Sel (A ++ B) L') : Sel L (e :: L')
theorem Sel.sub {L L' : List Ent} (h : Sel L L') : ∃ M, L.Perm M ∧ L'.Sublist M := by
  induction h with
  | nil L => exact ⟨L, List.Perm.refl _, List.nil_sublist _⟩
  | @cons L A B L' e h _ ih =>
    obtain ⟨M, hp, hs⟩ := ih
    refine ⟨e :: M, ?_, List.Sublist.cons_cons _ hs⟩
    rw [h.eq]
    exact List.perm_middle.trans (hp.cons e)
theorem St.sel (h : St S w0 w L) {L' : List Ent} (hs : Sel L L') : St S w0 w L' := by
  obtain ⟨M, hp, hs⟩ := hs.sub
  exact (h.reorder hp).sublist hs

/-- The cells of what is known, as rules for the walk. -/
def KnCells (w : World) : Kn → Prop
  | .is b (.cells cs _ _) => ∀ i, w.cell? ⟨b, i, none⟩ = cs[i]?
  | .row (some b) _ size n _ xs => ∀ i, i < n * size → w.cell? ⟨b, i, none⟩ = xs[i]?
  | .arr (some a) xs => ∀ j, j < xs.length → w.cell? ⟨a.block, a.off + j, none⟩ = xs[j]?
  | _ => True
def CellsOf (w : World) : List Ent → Prop
  | [] => True
  | e :: L => KnCells w e.2 ∧ CellsOf w L

theorem row_cell {w : World} {b : Nat} {T size n cap : Nat} {xs : List Value} (h : holds w (.row (some b) T size n cap xs)) : ∀ i, i < n * size → w.cell? ⟨b, i, none⟩ = xs[i]? := by
  obtain ⟨cur, ho, h1, h2, h3, rfl⟩ := h
  intro i hi
  rw [cell_of_row w b i cur _ _ ho, List.getElem?_take, if_pos hi]
  simp

theorem row_length {w : World} {key : Option Nat} {T size n cap : Nat} {xs : List Value} (h : holds w (.row key T size n cap xs)) : xs.length = n * size := by
  cases key with
  | none => obtain ⟨rfl, rfl, rfl⟩ := h; simp
  | some b =>
    obtain ⟨cur, ho, h1, h2, h3, rfl⟩ := h
    rw [List.length_take, Array.length_toList, h1]
    exact Nat.min_eq_left (Nat.mul_le_mul_right _ h2)

/-- A row as a piece of memory. -/
theorem row_arr {w : World} {key : Option Nat} {T size n cap : Nat} {xs : List Value} (h : holds w (.row key T size n cap xs)) : holds w (.arr (key.map fun b => ⟨b, 0, none⟩) xs) := by
  have hl := row_length h
  cases key with
  | none =>
    obtain ⟨rfl, rfl, rfl⟩ := h
    exact rfl
  | some b =>
    refine ⟨rfl, holds.lt h b (by simp [Kn.fp]), fun j hj => ?_⟩
    have := row_cell h j (by omega)
    simpa using this
theorem St.rep {S : List Nat} {w0 w : World} {L A B : List Ent} {p : Bool} {fp : List Nat} {R : World → Prop} (h : St S w0 w L) (hs : Split L (p, .rep fp R) A B) : R w := (h.all _ hs.mem).2.2
theorem St.obj {S : List Nat} {w0 w : World} {L A B : List Ent} {p : Bool} {b : Nat} {o : Obj} (h : St S w0 w L) (hs : Split L (p, .is b o) A B) : w.heap[b]? = some o := h.all _ hs.mem
/-- A part of what is only read. -/
theorem St.sub {S : List Nat} {w0 w : World} {L A B : List Ent} {k : Kn} (h : St S w0 w L) (hs : Split L (false, k) A B) (k' : Kn) (hk : holds w k') (hf : ∀ c ∈ k'.fp, c ∈ k.fp) : St S w0 w ((false, k') :: L) := by
  refine h.read k' hk (fun x hx hxw b hb hbx => ?_)
  have hx' : x ∈ A ++ B := by
    rw [hs.eq] at hx
    simp only [List.mem_append, List.mem_cons] at hx ⊢
    rcases hx with hx | rfl | hx
    · exact .inl hx
    · simp at hxw
    · exact .inr hx
  exact hs.dis h.apart x hx' (.inr hxw) b (hf b hb) hbx
/-- A row of fewer elements. -/
theorem St.shrink {S : List Nat} {w0 w : World} {L A B : List Ent} {key : Option Nat} {T size n cap : Nat} {xs : List Value} (m : Nat) (h : St S w0 w L) (hs : Split L (true, .row key T size n cap xs) A B) (hm : m ≤ n) : St S w0 w (A ++ (true, .row key T size m cap (xs.take (m * size))) :: B) := by
  refine h.turn hs (Ext.refl _ _) ?_ rfl
  have hr := h.all _ hs.mem
  cases key with
  | none =>
    obtain ⟨rfl, rfl, rfl⟩ := hr
    exact ⟨by omega, rfl, by simp⟩
  | some b =>
    obtain ⟨cur, hg, h1, h2, h3, rfl⟩ := hr
    refine ⟨cur, hg, h1, by omega, h3, ?_⟩
    rw [List.take_take, Nat.min_eq_left (Nat.mul_le_mul_right _ hm)]
theorem St.asArr {S : List Nat} {w0 w : World} {L A B : List Ent} {key : Option Nat} {T size n cap : Nat} {xs : List Value} (h : St S w0 w L) (hs : Split L (true, .row key T size n cap xs) A B) : St S w0 w (A ++ (true, .arr (key.map fun b => ⟨b, 0, none⟩) xs) :: B) :=
  h.turn hs (Ext.refl _ _) (row_arr (h.all _ hs.mem)) (by cases key <;> rfl)
theorem row_le {w : World} {key : Option Nat} {T size n cap : Nat} {xs : List Value} (h : holds w (.row key T size n cap xs)) : n ≤ cap ∧ cap ≤ maxLen := by
  cases key with
  | none => obtain ⟨rfl, rfl, rfl⟩ := h; simp
  | some b => obtain ⟨cur, ho, h1, h2, h3, _⟩ := h; exact ⟨h2, h3⟩

theorem kn_cells {w : World} : ∀ {k : Kn}, holds w k → KnCells w k
  | .is b o, h => by
    cases o with
    | cells cs t fr => exact fun i => cell_of_row w b i cs t fr h
    | _ => trivial
  | .row (some b) T size n cap xs, h => row_cell h
  | .row none T size n cap xs, _ => trivial
  | .arr (some a) xs, h => h.2.2
  | .arr none xs, _ => trivial
  | .rep fp R, _ => trivial
theorem cells_of (w : World) : ∀ (L : List Ent), (∀ e ∈ L, holds w e.2) → CellsOf w L
  | [], _ => trivial
  | e :: L, h => ⟨kn_cells (h e List.mem_cons_self), cells_of w L (fun e he => h e (by simp [he]))⟩
theorem St.cells (h : St S w0 w L) : CellsOf w L := cells_of w L h.all

theorem St.get (h : St S w0 w L) {k : Kn} {p : Bool} {A B : List Ent} (hs : Split L (p, k) A B) : holds w k := h.all (p, k) hs.mem

/-- '[]byte(s)': a new row of bytes. -/
theorem St.bytes (h : St S w0 w L) (e : TypeId) (s : ByteArray) : ∃ rest fr, St S w0 (Lib.bytesWorld w e s) ((true, .is w.heap.size (.cells ((s.data.map fun b => Value.int .u8 b.toNat) ++ rest) e fr)) :: L) := by
  have hE : Ext [] w (Lib.bytesWorld w e s) := by
    have hz := Lib.bytesWorld_size w e s
    refine ⟨?_, ?_, ?_, by omega, fun k hk _ => Lib.bytesWorld_at_old w e s k hk⟩
    all_goals (unfold Lib.bytesWorld World.freeze; split <;> rfl)
  exact ⟨_, _, h.new hE (.is w.heap.size _) (Lib.bytesWorld_at_new w e s) (by simp [Kn.fp]) (by simp [Kn.fp])⟩
end
end Go.V
