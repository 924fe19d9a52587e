import Derived.Test.YtjoiekpedmhfbaaLruS
import Derived.Test.YtjoiekpedmhfbaaLruQe
namespace Go.Proofs.Ytjoiekpedmhfbaa
set_option linter.unusedVariables false
set_option linter.unusedSimpArgs false
set_option linter.unnecessarySimpa false
open Go.RowKit Go.V

theorem holds_same {w w' : World} : ∀ {k : Kn}, holds w k → (∀ b ∈ k.fp, w'.heap[b]? = w.heap[b]?) → holds w' k
  | .is b o, h, hs => (hs b (by simp [Kn.fp])).trans h
  | .row (some b) .., ⟨cur, h, r⟩, hs => ⟨cur, (hs b (by simp [Kn.fp])).trans h, r⟩
  | .row none .., h, _ => h
  | .arr (some a) xs, h, hs => by
    refine ⟨h.1, ?_, fun j hj => (World.cell?_of_block (a := ⟨a.block, a.off + j, none⟩) (hs a.block (by simp [Kn.fp]))).trans (h.2.2 j hj)⟩
    have h1 := h.2.1
    have h2 := hs a.block (by simp [Kn.fp])
    rw [Array.getElem?_eq_getElem h1] at h2
    exact lt_of_get h2
  | .arr none xs, h, _ => h
  | .rep fp R, h, hs => by
    refine ⟨h.1, fun b hb => ?_, h.1 w w' hs h.2.2⟩
    have h2 := hs b hb
    rw [Array.getElem?_eq_getElem (h.2.1 b hb)] at h2
    exact lt_of_get h2
/-- Many pieces as one. -/
def bag (X : List Ent) : Kn := .rep (X.flatMap (·.2.fp)) (fun w => ∀ e ∈ X, holds w e.2)
theorem bag_local (X : List Ent) : Local (X.flatMap (·.2.fp)) (fun w => ∀ e ∈ X, holds w e.2) := by
  intro w w' hs h e he
  exact holds_same (h e he) (fun b hb => hs b (List.mem_flatMap.2 ⟨e, he, hb⟩))
theorem flat_nodup {X : List Ent} (hX : X.all (·.1) = true) (hd : X.Pairwise Dis) (hn : ∀ e ∈ X, e.1 = true → e.2.fp.Nodup) : (X.flatMap (·.2.fp)).Nodup := by
  induction X with
  | nil => simp
  | cons x X ih =>
    simp only [List.all_cons, Bool.and_eq_true] at hX
    obtain ⟨h1, h2⟩ := hX
    obtain ⟨d1, d2⟩ := List.pairwise_cons.1 hd
    rw [List.flatMap_cons, List.nodup_append]
    refine ⟨hn x List.mem_cons_self h1, ih h2 d2 (fun e he => hn e (List.mem_cons_of_mem _ he)), ?_⟩
    intro a ha b hb e
    subst e
    obtain ⟨y, hy, hb⟩ := List.mem_flatMap.1 hb
    exact d1 y hy (.inl h1) a ha hb
theorem flat_apart {X : List Ent} (h : (X.flatMap (·.2.fp)).Nodup) : X.Pairwise Dis ∧ ∀ e ∈ X, e.2.fp.Nodup := by
  induction X with
  | nil => exact ⟨List.Pairwise.nil, by simp⟩
  | cons x X ih =>
    rw [List.flatMap_cons, List.nodup_append] at h
    obtain ⟨h1, h2, h3⟩ := h
    obtain ⟨i1, i2⟩ := ih h2
    refine ⟨List.pairwise_cons.2 ⟨fun y hy _ b hb hb' => h3 b hb b (List.mem_flatMap.2 ⟨y, hy, hb'⟩) rfl, i1⟩, fun e he => ?_⟩
    rcases List.mem_cons.1 he with rfl | he
    · exact h1
    · exact i2 e he
theorem st_fold {S : List Nat} {w0 w : World} {X L : List Ent} (hX : X.all (·.1) = true) (H : St S w0 w (X ++ L)) : St S w0 w ((true, bag X) :: L) := by
  obtain ⟨p1, p2, p3⟩ := List.pairwise_append.1 H.apart
  have hm : ∀ e ∈ X, e.1 = true := fun e he => by simpa using List.all_eq_true.1 hX e he
  refine ⟨H.ext, List.pairwise_cons.2 ⟨?_, p2⟩, ?_, ?_, ?_⟩
  · intro y hy _ b hb hb'
    obtain ⟨x, hx, hb⟩ := List.mem_flatMap.1 hb
    exact p3 x hx y hy (.inl (hm x hx)) b hb hb'
  · intro e he
    rcases List.mem_cons.1 he with rfl | he
    · exact fun _ => flat_nodup hX p1 (fun e he => H.nodup e (List.mem_append_left _ he))
    · exact H.nodup e (List.mem_append_right _ he)
  · intro e he
    rcases List.mem_cons.1 he with rfl | he
    · refine ⟨bag_local X, fun b hb => ?_, fun e he => H.all e (List.mem_append_left _ he)⟩
      obtain ⟨x, hx, hb⟩ := List.mem_flatMap.1 hb
      exact (H.all x (List.mem_append_left _ hx)).lt b hb
    · exact H.all e (List.mem_append_right _ he)
  · intro e he
    rcases List.mem_cons.1 he with rfl | he
    · intro _ b hb
      obtain ⟨x, hx, hb⟩ := List.mem_flatMap.1 hb
      exact H.perm x (List.mem_append_left _ hx) (hm x hx) b hb
    · exact H.perm e (List.mem_append_right _ he)
theorem st_unfold {S : List Nat} {w0 w : World} {X L : List Ent} (H : St S w0 w ((true, bag X) :: L)) : St S w0 w (X ++ L) := by
  obtain ⟨d1, d2⟩ := List.pairwise_cons.1 H.apart
  have hn := H.nodup _ List.mem_cons_self rfl
  have ha := H.all _ List.mem_cons_self
  have hp := H.perm _ List.mem_cons_self rfl
  obtain ⟨f1, f2⟩ := flat_apart hn
  have hsub : ∀ e ∈ X, ∀ b ∈ e.2.fp, b ∈ (bag X).fp := fun e he b hb => List.mem_flatMap.2 ⟨e, he, hb⟩
  refine ⟨H.ext, List.pairwise_append.2 ⟨f1, d2, fun x hx y hy _ b hb hb' => d1 y hy (.inl rfl) b (hsub x hx b hb) hb'⟩, ?_, ?_, ?_⟩
  · intro e he
    rcases List.mem_append.1 he with he | he
    · exact fun _ => f2 e he
    · exact H.nodup e (List.mem_cons_of_mem _ he)
  · intro e he
    rcases List.mem_append.1 he with he | he
    · exact ha.2.2 e he
    · exact H.all e (List.mem_cons_of_mem _ he)
  · intro e he
    rcases List.mem_append.1 he with he | he
    · exact fun _ b hb => hp b (hsub e he b hb)
    · exact H.perm e (List.mem_cons_of_mem _ he)
/-- A call that turns a part of what is known, into what it chooses. -/
theorem st_part2 {P : Program} {f : FuncId} {args : Array Value} {Q : Ending → List Ent → Prop} {S : List Nat} {w0 w : World} {X R : List Ent} (hX : X.all (·.1) = true) (H : St S w0 w (X ++ R))
    (hc : ∀ (S : List Nat) (w : World), St S w w X → Calls P f args w fun y w' => ∃ Y, Q y Y ∧ Y.all (·.1) = true ∧ St S w w' Y) : Calls P f args w fun y w' => ∃ Y, Q y Y ∧ St S w0 w' (Y ++ R) := by
  refine (hc _ w (H.pick (picks_all X R hX))).mono ?_
  rintro y w' ⟨Y, hQ, hY, H'⟩
  exact ⟨Y, hQ, H.merge (strikes_all X R hX) H' hY⟩

/-- The map has each element under its key. -/
def CMap (ns : List Nd) (al : AL) : Prop := ∀ k, aget al k = (nfind ns k).map fun x => pt x.e
theorem nfind_mid {A B : List Nd} {x : Nd} {k : Int} (h : x.k ≠ k) : nfind (A ++ x :: B) k = nfind (A ++ B) k := by
  induction A with
  | nil => show (if x.k = k then _ else _) = _; rw [if_neg h]; rfl
  | cons y A ih =>
    show (if y.k = k then _ else nfind (A ++ x :: B) k) = (if y.k = k then _ else nfind (A ++ B) k)
    rw [ih]
theorem cmap_front {A B : List Nd} {x : Nd} {v k : Int} {al : AL} (h : CMap (A ++ x :: B) al) (hx : nfind (A ++ x :: B) k = some x) (hk : x.k = k) : CMap (⟨x.e, x.n, x.k, v⟩ :: (A ++ B)) al := by
  intro k'
  rw [h k']
  show _ = (if x.k = k' then some _ else nfind (A ++ B) k').map _
  by_cases h1 : x.k = k'
  · rw [if_pos h1, ← h1, hk, hx]
    rfl
  · rw [if_neg h1, nfind_mid h1]
theorem cmap_new {ns : List Nd} {e n : Nat} {k v : Int} {al : AL} (h : CMap ns al) : CMap (⟨e, n, k, v⟩ :: ns) (aput al k (pt e)) := by
  intro k'
  rw [aget_put]
  show _ = (if k = k' then some _ else nfind ns k').map _
  by_cases h1 : k = k'
  · rw [if_pos h1, if_pos h1]
    rfl
  · rw [if_neg h1, if_neg h1, h k']
theorem nfind_none {ns : List Nd} {k : Int} (h : k ∉ keys (kvs ns)) : nfind ns k = none := by
  have := cget_none.2 h
  rw [nfind_kvs] at this
  simpa using this
theorem cmap_drop {ns : List Nd} {b : Nd} {al : AL} (ho : AOnce al) (h : CMap (ns ++ [b]) al) (hn : b.k ∉ keys (kvs ns)) : CMap ns (adel al b.k) := by
  intro k'
  rw [aget_del ho]
  by_cases h1 : b.k = k'
  · rw [if_pos h1, ← h1, nfind_none hn]
    rfl
  · rw [if_neg h1, h k', nfind_mid h1, List.append_nil]
/-- What a cache is made of, that has l. -/
def Cch (gb go M : Nat) (l : List KV) (X : List Ent) : Prop :=
  ∃ lb mb clock es al ns, X = cacheL gb lb mb clock (M : Int) (evv go) es ns ∧ Hid (KV1 ik es al) ∧ AOnce al ∧ CMap ns al ∧ kvs ns = l
theorem ring_all (lb p nx : Nat) (ns : List Nd) : (ring lb p nx ns).all (·.1) = true := by
  induction ns generalizing p with
  | nil => rfl
  | cons x r ih => exact ih x.e
theorem Cch.all {gb go M : Nat} {l : List KV} {X : List Ent} (h : Cch gb go M l X) : X.all (·.1) = true := by
  obtain ⟨lb, mb, clock, es, al, ns, rfl, _⟩ := h
  exact ring_all lb lb lb ns
theorem nfind_some {ns : List Nd} {k v : Int} (h : cget (kvs ns) k = some v) : ∃ x, nfind ns k = some x ∧ x.v = v := by
  rw [nfind_kvs] at h
  cases hn : nfind ns k with
  | none => rw [hn] at h; cases h
  | some x => rw [hn] at h; exact ⟨x, rfl, by simpa using h⟩
theorem cget_found {gb go M : Nat} {l : List KV} {X : List Ent} (hc : Cch gb go M l X) {k v : Int} (hk : cget l k = some v) (S : List Nat) (w : World) (H : St S w w X) :
    Calls Try.prog 21 #[pt gb, ik k] w fun y w' => y = .returned (.tuple #[ik v, .bool true]) ∧ ∃ X', Cch gb go M ((k, v) :: cdel l k) X' ∧ St S w w' X' := by
  obtain ⟨lb, mb, clock, es, al, ns, rfl, hl, ho, hm, rfl⟩ := hc
  obtain ⟨x, hx, rfl⟩ := nfind_some hk
  obtain ⟨A, B, rfl, hxk, hdel⟩ := nfind_split hx
  have hg : aget al k = some (pt x.e) := by rw [hm k, hx]; rfl
  refine (fronts_calls (get_fronts gb mb clock lb M (evv go) es al k x hl (Lib.hid hg)) A B S w H).mono ?_
  rintro y w' ⟨rfl, H'⟩
  refine ⟨rfl, _, ⟨lb, mb, clock, es, al, ⟨x.e, x.n, x.k, x.v⟩ :: (A ++ B), rfl, hl, ho, cmap_front hm hx hxk, ?_⟩, H'⟩
  rw [hdel, ← hxk]
  rfl
theorem cput_found {gb go M : Nat} {l : List KV} {X : List Ent} (hc : Cch gb go M l X) {k v u : Int} (hk : cget l k = some v) (S : List Nat) (w : World) (H : St S w w X) :
    Calls Try.prog 20 #[pt gb, ik k, ik u] w fun y w' => y = .returned (.tuple #[]) ∧ ∃ X', Cch gb go M ((k, u) :: cdel l k) X' ∧ St S w w' X' := by
  obtain ⟨lb, mb, clock, es, al, ns, rfl, hl, ho, hm, rfl⟩ := hc
  obtain ⟨x, hx, rfl⟩ := nfind_some hk
  obtain ⟨A, B, rfl, hxk, hdel⟩ := nfind_split hx
  have hg : aget al k = some (pt x.e) := by rw [hm k, hx]; rfl
  refine (fronts_calls (upd_fronts gb mb clock lb M (evv go) es al k u x hl (Lib.hid hg)) A B S w H).mono ?_
  rintro y w' ⟨rfl, H'⟩
  refine ⟨rfl, _, ⟨lb, mb, clock, es, al, ⟨x.e, x.n, x.k, u⟩ :: (A ++ B), rfl, hl, ho, cmap_front hm hx hxk, ?_⟩, H'⟩
  rw [hdel, ← hxk]
  rfl
theorem cget_not {gb go M : Nat} {l : List KV} {X : List Ent} (hc : Cch gb go M l X) {k : Int} (hk : cget l k = none) (S : List Nat) (w : World) (H : St S w w X) :
    Calls Try.prog 21 #[pt gb, ik k] w fun y w' => y = .returned (.tuple #[.nilIface, .bool false]) ∧ St S w w' X := by
  obtain ⟨lb, mb, clock, es, al, ns, rfl, hl, ho, hm, rfl⟩ := hc
  have hg : aget al k = none := by
    rw [nfind_kvs] at hk
    rw [hm k]
    cases hn : nfind ns k with
    | none => rfl
    | some x => rw [hn] at hk; cases hk
  have H1 : St [] w w [(false, .is gb (gobj M (evv go) lb mb)), (false, .is mb (.map es clock))] :=
    H.pick (Picks.rd (Split.here _ _) (Picks.rd (Split.here _ _) (Picks.nil _)))
  refine (gGet_no gb lb mb clock M (evv go) es al k hl (Lib.hid hg) w H1).mono ?_
  rintro y w' ⟨rfl, hx⟩
  exact ⟨rfl, H.of_ext hx⟩
theorem cmap_none {ns : List Nd} {al : AL} {k : Int} (hm : CMap ns al) (hk : cget (kvs ns) k = none) : aget al k = none := by
  rw [nfind_kvs] at hk
  rw [hm k]
  cases hn : nfind ns k with
  | none => rfl
  | some x => rw [hn] at hk; cases hk
/-- A new key, and room for it. -/
theorem cput_new {gb go M : Nat} {l : List KV} {X : List Ent} (hc : Cch gb go M l X) {k u : Int} (hk : cget l k = none) (hM : ¬ (M ≠ 0 ∧ M < l.length + 1)) (hb : l.length ≤ 100000) (S : List Nat) (w : World) (H : St S w w X) :
    Calls Try.prog 20 #[pt gb, ik k, ik u] w fun y w' => y = .returned (.tuple #[]) ∧ ∃ X', Cch gb go M ((k, u) :: l) X' ∧ St S w w' X' := by
  obtain ⟨lb, mb, clock, es, al, ns, rfl, hl, ho, hm, rfl⟩ := hc
  have hg := Lib.hid (cmap_none hm hk)
  match ns with
  | [] =>
    have H1 : St S w w [(true, .is gb (gobj M (evv go) lb mb)), (true, .is mb (.map es clock)), (true, .is lb (root (pt lb) (pt lb) 0))] := H
    by_cases h0 : M = 0
    · subst h0
      refine (gNew0z gb mb clock lb (evv go) es al k u hl hg S w H1).mono ?_
      rintro y w' ⟨e, nb, es', clock', rfl, hl', H'⟩
      exact ⟨rfl, _, ⟨lb, mb, clock', es', _, [⟨e, nb, k, u⟩], rfl, hl', aonce_put ho k _, cmap_new hm, rfl⟩, H'.sel (by repeat (first | exact Sel.nil _ | (apply Sel.cons; focus (repeat (first | exact Split.here _ _ | apply Split.there)))))⟩
    · refine (gNew0m gb mb clock lb (evv go) M (by omega) es al k u hl hg S w H1).mono ?_
      rintro y w' ⟨e, nb, es', clock', rfl, hl', H'⟩
      exact ⟨rfl, _, ⟨lb, mb, clock', es', _, [⟨e, nb, k, u⟩], rfl, hl', aonce_put ho k _, cmap_new hm, rfl⟩, H'.sel (by repeat (first | exact Sel.nil _ | (apply Sel.cons; focus (repeat (first | exact Split.here _ _ | apply Split.there)))))⟩
  | f :: r =>
    have hn1 : (0 : Int) ≤ ((f :: r : List Nd).length : Int) ∧ ((f :: r : List Nd).length : Int) ≤ 100000 := by
      simp only [kvs, List.length_map] at hb
      omega
    have H1 : St S w w ([(true, .is gb (gobj M (evv go) lb mb)), (true, .is mb (.map es clock)), (true, .is lb (root (pt f.e) (pt (nlast f.e r)) ((f :: r : List Nd).length : Int))), elE f (nhd lb r) lb lb] ++ (elN f :: ring lb f.e lb r)) := H
    have hlen : ∀ e n, ((⟨e, n, k, u⟩ :: f :: r : List Nd).length : Int) = ((f :: r : List Nd).length : Int) + 1 := fun e n => by simp
    have fin : ∀ (e nb : Nat) (es' : Array MapEntry) (clock' : Nat) (w' : World), St S w w' ([(true, .is gb (gobj M (evv go) lb mb)), (true, .is mb (.map es' clock')), (true, .is nb (ntry k u)), (true, .is lb (root (pt e) (pt (nlast f.e r)) (((f :: r : List Nd).length : Int) + 1))), elE f (nhd lb r) e lb, (true, .is e (elem (pt f.e) (pt lb) (pt lb) (ent nb)))] ++ (elN f :: ring lb f.e lb r)) → St S w w' (cacheL gb lb mb clock' M (evv go) es' (⟨e, nb, k, u⟩ :: f :: r)) := by
      intro e nb es' clock' w' H'
      rw [← hlen e nb] at H'
      exact st_tail (L := [(true, .is gb (gobj M (evv go) lb mb)), (true, .is mb (.map es' clock')), (true, .is nb (ntry k u)), (true, .is lb (root (pt e) (pt (nlast f.e r)) ((⟨e, nb, k, u⟩ :: f :: r : List Nd).length : Int))), elE f (nhd lb r) e lb, (true, .is e (elem (pt f.e) (pt lb) (pt lb) (ent nb)))]) H' (L' := [(true, .is gb (gobj M (evv go) lb mb)), (true, .is mb (.map es' clock')), (true, .is lb (root (pt e) (pt (nlast f.e r)) ((⟨e, nb, k, u⟩ :: f :: r : List Nd).length : Int))), (true, .is e (elem (pt f.e) (pt lb) (pt lb) (ent nb))), (true, .is nb (ntry k u)), elE f (nhd lb r) e lb]) (by repeat (first | exact Sel.nil _ | (apply Sel.cons; focus (repeat (first | exact Split.here _ _ | apply Split.there)))))
    by_cases h0 : M = 0
    · subst h0
      refine (st_part2 (Q := fun y Y => y = .returned (.tuple #[]) ∧ ∃ e nb es' clock', Hid (KV1 ik es' (aput al k (pt e))) ∧ Y = [(true, .is gb (gobj ((0 : Nat) : Int) (evv go) lb mb)), (true, .is mb (.map es' clock')), (true, .is nb (ntry k u)), (true, .is lb (root (pt e) (pt (nlast f.e r)) (((f :: r : List Nd).length : Int) + 1))), elE f (nhd lb r) e lb, (true, .is e (elem (pt f.e) (pt lb) (pt lb) (ent nb)))]) (by rfl) H1 (fun S w H => (gNew1z gb mb clock lb f.e _ hn1 _ _ _ _ (evv go) es al k u hl hg S w H).mono ?_)).mono ?_
      · rintro y w' ⟨e, nb, es', clock', rfl, hl', H'⟩
        exact ⟨_, ⟨rfl, e, nb, es', clock', hl', rfl⟩, rfl, H'⟩
      · rintro y w' ⟨Y, ⟨rfl, e, nb, es', clock', hl', rfl⟩, H'⟩
        exact ⟨rfl, _, ⟨lb, mb, clock', es', _, _, rfl, hl', aonce_put ho k _, cmap_new hm, rfl⟩, fin e nb es' clock' w' H'⟩
    · have hle : ¬ (M : Int) < ((f :: r : List Nd).length : Int) + 1 := by
        simp only [kvs, List.length_map] at hM
        omega
      refine (st_part2 (Q := fun y Y => y = .returned (.tuple #[]) ∧ ∃ e nb es' clock', Hid (KV1 ik es' (aput al k (pt e))) ∧ Y = [(true, .is gb (gobj M (evv go) lb mb)), (true, .is mb (.map es' clock')), (true, .is nb (ntry k u)), (true, .is lb (root (pt e) (pt (nlast f.e r)) (((f :: r : List Nd).length : Int) + 1))), elE f (nhd lb r) e lb, (true, .is e (elem (pt f.e) (pt lb) (pt lb) (ent nb)))]) (by rfl) H1 (fun S w H => (gNew1m gb mb clock lb f.e _ hn1 _ _ _ _ (evv go) M (by omega) hle es al k u hl hg S w H).mono ?_)).mono ?_
      · rintro y w' ⟨e, nb, es', clock', rfl, hl', H'⟩
        exact ⟨_, ⟨rfl, e, nb, es', clock', hl', rfl⟩, rfl, H'⟩
      · rintro y w' ⟨Y, ⟨rfl, e, nb, es', clock', hl', rfl⟩, H'⟩
        exact ⟨rfl, _, ⟨lb, mb, clock', es', _, _, rfl, hl', aonce_put ho k _, cmap_new hm, rfl⟩, fin e nb es' clock' w' H'⟩
end Go.Proofs.Ytjoiekpedmhfbaa
