import Derived.Test.YtjoiekpedmhfbaaLruO
namespace Go.Proofs.Ytjoiekpedmhfbaa
set_option linter.unusedVariables false
set_option linter.unusedSimpArgs false
set_option linter.unnecessarySimpa false
open Go.RowKit Go.V

/-! A cache in memory, as a list of its elements, the one that was used last ahead. -/
structure Nd where
  e : Nat
  n : Nat
  k : Int
  v : Int
def nhd (nx : Nat) : List Nd → Nat
  | [] => nx
  | y :: _ => y.e
def nlast (p : Nat) : List Nd → Nat
  | [] => p
  | y :: r => nlast y.e r
def ring (lb p nx : Nat) : List Nd → List Ent
  | [] => []
  | x :: r => (true, .is x.e (elem (pt (nhd nx r)) (pt p) (pt lb) (ent x.n))) :: (true, .is x.n (ntry x.k x.v)) :: ring lb x.e nx r
theorem ring_app (lb p nx : Nat) (A B : List Nd) : ring lb p nx (A ++ B) = ring lb p (nhd nx B) A ++ ring lb (nlast p A) nx B := by
  induction A generalizing p with
  | nil => rfl
  | cons x r ih =>
    show _ :: _ :: ring lb x.e nx (r ++ B) = _ :: _ :: (ring lb x.e (nhd nx B) r ++ ring lb (nlast x.e r) nx B)
    rw [ih x.e]
    cases r <;> rfl
theorem nlast_app (p : Nat) (A B : List Nd) : nlast p (A ++ B) = nlast (nlast p A) B := by
  induction A generalizing p with
  | nil => rfl
  | cons x r ih => exact ih x.e
theorem nhd_app (nx : Nat) (A B : List Nd) : nhd nx (A ++ B) = nhd (nhd nx B) A := by
  cases A <;> rfl
/-- All that a cache is made of. -/
def cacheL (gb lb mb clock : Nat) (M : Int) (ev : Value) (es : Array MapEntry) (ns : List Nd) : List Ent :=
  (true, .is gb (gobj M ev lb mb)) :: (true, .is mb (.map es clock)) :: (true, .is lb (root (pt (nhd lb ns)) (pt (nlast lb ns)) ns.length)) :: ring lb lb lb ns
def kvs (ns : List Nd) : List KV := ns.map fun x => (x.k, x.v)
def nfind : List Nd → Int → Option Nd
  | [], _ => none
  | x :: r, k => if x.k = k then some x else nfind r k
theorem nfind_kvs (ns : List Nd) (k : Int) : cget (kvs ns) k = (nfind ns k).map (·.v) := by
  induction ns with
  | nil => rfl
  | cons x r ih =>
    show (if x.k = k then some x.v else cget (kvs r) k) = (if x.k = k then some x else nfind r k).map (·.v)
    by_cases h : x.k = k
    · rw [if_pos h, if_pos h]; rfl
    · rw [if_neg h, if_neg h, ih]
theorem nfind_split {ns : List Nd} {k : Int} {x : Nd} (h : nfind ns k = some x) : ∃ A B, ns = A ++ x :: B ∧ x.k = k ∧ cdel (kvs ns) k = kvs (A ++ B) := by
  induction ns with
  | nil => cases h
  | cons y r ih =>
    unfold nfind at h
    by_cases hy : y.k = k
    · rw [if_pos hy] at h
      simp only [Option.some.injEq] at h
      subst h
      refine ⟨[], r, rfl, hy, ?_⟩
      show (if y.k = k then kvs r else _) = _
      rw [if_pos hy]
      rfl
    · rw [if_neg hy] at h
      obtain ⟨A, B, h1, h2, h3⟩ := ih h
      refine ⟨y :: A, B, by rw [h1]; rfl, h2, ?_⟩
      show (if y.k = k then kvs r else (y.k, y.v) :: cdel (kvs r) k) = _
      rw [if_neg hy, h3]
      rfl
theorem perm4 {α : Type} (a b c d : List α) : ((a ++ b) ++ (c ++ d)).Perm ((a ++ c) ++ (b ++ d)) := by
  rw [List.append_assoc, List.append_assoc]
  refine List.Perm.append_left a ?_
  rw [← List.append_assoc, ← List.append_assoc]
  exact List.Perm.append_right d List.perm_append_comm
theorem st_tail {S : List Nat} {w0 w : World} {L L' R : List Ent} (h : St S w0 w (L ++ R)) (hs : Sel L L') : St S w0 w (L' ++ R) := by
  obtain ⟨M, hp, hs⟩ := hs.sub
  exact (h.reorder (List.Perm.append_right R hp)).sublist (List.Sublist.append_right hs R)
theorem picks_all (X R : List Ent) (hX : X.all (·.1) = true) : Picks (X ++ R) X (X.flatMap (·.2.fp)) := by
  induction X generalizing R with
  | nil => exact Picks.nil _
  | cons x X ih =>
    obtain ⟨b, k⟩ := x
    simp only [List.all_cons, Bool.and_eq_true] at hX
    obtain ⟨h1, h2⟩ := hX
    subst h1
    exact Picks.wr (Split.here _ _) (ih R h2)
theorem strikes_all (X R : List Ent) (hX : X.all (·.1) = true) : Strikes (X ++ R) (X.flatMap (·.2.fp)) R := by
  induction X with
  | nil => exact Strikes.nil _
  | cons x X ih =>
    obtain ⟨b, k⟩ := x
    simp only [List.all_cons, Bool.and_eq_true] at hX
    obtain ⟨h1, h2⟩ := hX
    subst h1
    exact Strikes.cons (Split.here _ _) (ih h2)
/-- A call that turns a part of what is known. -/
theorem st_part {P : Program} {f : FuncId} {args : Array Value} {r : Value} {S : List Nat} {w0 w : World} {X Y R : List Ent} (hX : X.all (·.1) = true) (hY : Y.all (·.1) = true) (H : St S w0 w (X ++ R))
    (hc : ∀ (S : List Nat) (w : World), St S w w X → Calls P f args w fun y w' => y = .returned r ∧ St S w w' Y) : Calls P f args w fun y w' => y = .returned r ∧ St S w0 w' (Y ++ R) := by
  refine (hc _ w (H.pick (picks_all X R hX))).mono ?_
  rintro y w' ⟨rfl, H'⟩
  exact ⟨rfl, H.merge (strikes_all X R hX) H' hY⟩
theorem st_ne {S : List Nat} {w0 w : World} {L A B : List Ent} {b c : Nat} {o o' : Obj} (H : St S w0 w L) (h1 : Split L (true, .is b o) A B) (h2 : (true, Kn.is c o') ∈ A ++ B) : ¬ b = c := by
  intro h
  exact h1.dis H.apart _ h2 (.inl rfl) b (by simp [Kn.fp]) (by simp [Kn.fp, h])
/-- What a call does that finds an element: it goes to the front, with another value, or the same. -/
structure Fronts (f0 : FuncId) (args : Array Value) (r : Value) (gb mb clock lb : Nat) (M : Int) (ev : Value) (es : Array MapEntry) (x : Nd) (v : Int) : Prop where
  a : ∀ (f : Nat) (n : Int) (fl fv : Value), ¬ x.e = lb → ¬ f = x.e → ∀ (S : List Nat) (w : World), St S w w [(true, .is gb (gobj M ev lb mb)), (true, .is mb (.map es clock)), (true, .is x.n (ntry x.k x.v)), (true, .is lb (root (pt f) (pt x.e) n)), (true, .is f (elem (pt x.e) (pt lb) fl fv)), (true, .is x.e (elem (pt lb) (pt f) (pt lb) (ent x.n)))] → Calls Try.prog f0 args w fun z w' => z = .returned r ∧ St S w w' [(true, .is gb (gobj M ev lb mb)), (true, .is mb (.map es clock)), (true, .is x.n (ntry x.k v)), (true, .is lb (root (pt x.e) (pt f) n)), (true, .is f (elem (pt lb) (pt x.e) fl fv)), (true, .is x.e (elem (pt f) (pt lb) (pt lb) (ent x.n)))]
  b : ∀ (f y : Nat) (n : Int) (fl fv rp xn xl xv : Value), ¬ x.e = lb → ¬ f = x.e → ∀ (S : List Nat) (w : World), St S w w [(true, .is gb (gobj M ev lb mb)), (true, .is mb (.map es clock)), (true, .is x.n (ntry x.k x.v)), (true, .is lb (root (pt f) rp n)), (true, .is f (elem (pt x.e) (pt lb) fl fv)), (true, .is x.e (elem (pt y) (pt f) (pt lb) (ent x.n))), (true, .is y (elem xn (pt x.e) xl xv))] → Calls Try.prog f0 args w fun z w' => z = .returned r ∧ St S w w' [(true, .is gb (gobj M ev lb mb)), (true, .is mb (.map es clock)), (true, .is x.n (ntry x.k v)), (true, .is lb (root (pt x.e) rp n)), (true, .is f (elem (pt y) (pt x.e) fl fv)), (true, .is x.e (elem (pt f) (pt lb) (pt lb) (ent x.n))), (true, .is y (elem xn (pt f) xl xv))]
  c : ∀ (f p : Nat) (n : Int) (fl fv fn pp pl pv : Value), ¬ x.e = lb → ¬ f = x.e → ∀ (S : List Nat) (w : World), St S w w [(true, .is gb (gobj M ev lb mb)), (true, .is mb (.map es clock)), (true, .is x.n (ntry x.k x.v)), (true, .is lb (root (pt f) (pt x.e) n)), (true, .is f (elem fn (pt lb) fl fv)), (true, .is p (elem (pt x.e) pp pl pv)), (true, .is x.e (elem (pt lb) (pt p) (pt lb) (ent x.n)))] → Calls Try.prog f0 args w fun z w' => z = .returned r ∧ St S w w' [(true, .is gb (gobj M ev lb mb)), (true, .is mb (.map es clock)), (true, .is x.n (ntry x.k v)), (true, .is lb (root (pt x.e) (pt p) n)), (true, .is f (elem fn (pt x.e) fl fv)), (true, .is p (elem (pt lb) pp pl pv)), (true, .is x.e (elem (pt f) (pt lb) (pt lb) (ent x.n)))]
  d : ∀ (f p y : Nat) (n : Int) (fl fv fn pp pl pv rp xn xl xv : Value), ¬ x.e = lb → ¬ f = x.e → ∀ (S : List Nat) (w : World), St S w w [(true, .is gb (gobj M ev lb mb)), (true, .is mb (.map es clock)), (true, .is x.n (ntry x.k x.v)), (true, .is lb (root (pt f) rp n)), (true, .is f (elem fn (pt lb) fl fv)), (true, .is p (elem (pt x.e) pp pl pv)), (true, .is x.e (elem (pt y) (pt p) (pt lb) (ent x.n))), (true, .is y (elem xn (pt x.e) xl xv))] → Calls Try.prog f0 args w fun z w' => z = .returned r ∧ St S w w' [(true, .is gb (gobj M ev lb mb)), (true, .is mb (.map es clock)), (true, .is x.n (ntry x.k v)), (true, .is lb (root (pt x.e) rp n)), (true, .is f (elem fn (pt x.e) fl fv)), (true, .is p (elem (pt y) pp pl pv)), (true, .is x.e (elem (pt f) (pt lb) (pt lb) (ent x.n))), (true, .is y (elem xn (pt p) xl xv))]
  f : ∀ (n : Int) (nx pv rp : Value) (S : List Nat) (w : World), St S w w [(true, .is gb (gobj M ev lb mb)), (true, .is mb (.map es clock)), (true, .is x.n (ntry x.k x.v)), (true, .is lb (root (pt x.e) rp n)), (true, .is x.e (elem nx pv (pt lb) (ent x.n)))] → Calls Try.prog f0 args w fun z w' => z = .returned r ∧ St S w w' [(true, .is gb (gobj M ev lb mb)), (true, .is mb (.map es clock)), (true, .is x.n (ntry x.k v)), (true, .is lb (root (pt x.e) rp n)), (true, .is x.e (elem nx pv (pt lb) (ent x.n)))]
theorem get_fronts (gb mb clock lb : Nat) (M : Int) (ev : Value) (es : Array MapEntry) (l : AL) (k : Int) (x : Nd) (hl : Hid (KV1 ik es l)) (hk : Hid (aget l k = some (pt x.e))) : Fronts 21 #[pt gb, ik k] (.tuple #[ik x.v, .bool true]) gb mb clock lb M ev es x x.v := by
  constructor
  · intro f n fl fv h1 h2 S w H
    exact gGet_A gb mb x.n clock lb f x.e n fl fv M ev es l k x.k x.v hl hk h1 h2 S w H
  · intro f y n fl fv rp xn xl xv h1 h2 S w H
    exact gGet_B gb mb x.n clock lb f x.e y n fl fv rp xn xl xv M ev es l k x.k x.v hl hk h1 h2 S w H
  · intro f p n fl fv fn pp pl pv h1 h2 S w H
    exact gGet_C gb mb x.n clock lb f p x.e n fl fv fn pp pl pv M ev es l k x.k x.v hl hk h1 h2 S w H
  · intro f p y n fl fv fn pp pl pv rp xn xl xv h1 h2 S w H
    exact gGet_D gb mb x.n clock lb f p x.e y n fl fv fn pp pl pv rp xn xl xv M ev es l k x.k x.v hl hk h1 h2 S w H
  · intro n nx pv rp S w H
    exact gGet_F gb mb x.n clock lb x.e n nx pv rp M ev es l k x.k x.v hl hk S w H
theorem upd_fronts (gb mb clock lb : Nat) (M : Int) (ev : Value) (es : Array MapEntry) (l : AL) (k u : Int) (x : Nd) (hl : Hid (KV1 ik es l)) (hk : Hid (aget l k = some (pt x.e))) : Fronts 20 #[pt gb, ik k, ik u] (.tuple #[]) gb mb clock lb M ev es x u := by
  constructor
  · intro f n fl fv h1 h2 S w H
    exact gUpd_A gb mb x.n clock lb f x.e n fl fv M ev es l k x.k x.v u hl hk h1 h2 S w H
  · intro f y n fl fv rp xn xl xv h1 h2 S w H
    exact gUpd_B gb mb x.n clock lb f x.e y n fl fv rp xn xl xv M ev es l k x.k x.v u hl hk h1 h2 S w H
  · intro f p n fl fv fn pp pl pv h1 h2 S w H
    exact gUpd_C gb mb x.n clock lb f p x.e n fl fv fn pp pl pv M ev es l k x.k x.v u hl hk h1 h2 S w H
  · intro f p y n fl fv fn pp pl pv rp xn xl xv h1 h2 S w H
    exact gUpd_D gb mb x.n clock lb f p x.e y n fl fv fn pp pl pv rp xn xl xv M ev es l k x.k x.v u hl hk h1 h2 S w H
  · intro n nx pv rp S w H
    exact gUpd_F gb mb x.n clock lb x.e n nx pv rp M ev es l k x.k x.v u hl hk S w H
end Go.Proofs.Ytjoiekpedmhfbaa
