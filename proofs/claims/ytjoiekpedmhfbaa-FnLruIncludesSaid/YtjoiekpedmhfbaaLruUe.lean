import Derived.Test.YtjoiekpedmhfbaaLruU
namespace Go.Proofs.Ytjoiekpedmhfbaa
set_option linter.unusedVariables false
set_option linter.unusedSimpArgs false
set_option linter.unnecessarySimpa false
open Go.RowKit Go.V

abbrev goNil (go : Nat) : Ent := (true, .is go (.cells #[.slice none 0 0] 35 (0, 0)))
abbrev goOne (go : Nat) (key : Option Nat) (cap : Nat) : Ent := (true, .is go (.cells #[sl key 1 cap] 35 (0, 0)))
abbrev rowOne (key : Option Nat) (cap : Nat) (a b : Int) : Ent := (true, .row key 40 2 1 cap [.int .i64 a, .int .i64 b])
theorem kvs_last (A : List Nd) (b : Nd) (x : KV) : (x :: kvs (A ++ [b])).dropLast = x :: kvs A := by
  unfold kvs
  rw [List.map_append]
  show (x :: (A.map _ ++ [_])).dropLast = _
  rw [← List.cons_append, List.dropLast_concat]
/-- A new key, and the one that was used longest ago goes. -/
theorem cput_evict {gb go M : Nat} {l : List KV} {X : List Ent} (hc : Cch gb go M l X) {k u : Int} (hk : cget l k = none) (hM0 : M ≠ 0) (hM : M < l.length + 1) (hb : l.length ≤ 90000) (hnd : (keys l).Nodup) (S : List Nat) (w : World) (H : St S w w (X ++ [goNil go])) :
    Calls Try.prog 20 #[pt gb, ik k, ik u] w fun y w' => y = .returned (.tuple #[]) ∧ ∃ X' key cap a b, Cch gb go M ((k, u) :: l).dropLast X' ∧ St S w w' (X' ++ [goOne go key cap, rowOne key cap a b]) := by
  obtain ⟨lb, mb, clock, es, al, ns, rfl, hl, ho, hm, rfl⟩ := hc
  have hg := Lib.hid (cmap_none hm hk)
  have hlen : (kvs ns).length = ns.length := by simp [kvs]
  rw [hlen] at hM hb
  have hne : ns ≠ [] := by
    rintro rfl
    simp only [List.length_nil] at hM
    omega
  obtain ⟨A, b, rfl⟩ : ∃ A b, ns = A ++ [b] := ⟨ns.dropLast, ns.getLast hne, (List.dropLast_concat_getLast hne).symm⟩
  rw [kvs_last]
  have hkb : k ≠ b.k := by
    intro e
    have := cget_none.1 hk
    apply this
    simp [keys, kvs, e]
  have hbA : b.k ∉ keys (kvs A) := by
    simp only [keys, kvs, List.map_append, List.map_cons, List.map_nil, List.map_map] at hnd
    have := (List.nodup_append.1 hnd).2.2
    intro hmem
    simp only [keys, kvs, List.map_map] at hmem
    exact this _ hmem _ (by simp) rfl
  have hm2 : ∀ e nb, CMap (⟨e, nb, k, u⟩ :: A) (adel (aput al k (pt e)) b.k) := by
    intro e nb
    refine cmap_drop (ns := ⟨e, nb, k, u⟩ :: A) (aonce_put ho k _) (cmap_new hm) ?_
    simp only [keys, kvs, List.map_cons, List.mem_cons, not_or]
    exact ⟨fun h => hkb h.symm, by simpa only [keys, kvs] using hbA⟩
  have hMl : (M : Int) < (((A ++ [b]).length : Nat) : Int) + 1 := by omega
  have hn0 : (0 : Int) ≤ (((A ++ [b]).length : Nat) : Int) ∧ (((A ++ [b]).length : Nat) : Int) ≤ 90000 := by omega
  have hMp : (0 : Int) < M := by omega
  have hle2 : ∀ e nb, (((A ++ [b]).length : Nat) : Int) = (((⟨e, nb, k, u⟩ :: A : List Nd).length : Nat) : Int) := by intro e nb; simp
  match A with
  | [] =>
    have H1 : St S w w [(true, .is gb (gobj M (evv go) lb mb)), (true, .is mb (.map es clock)), (true, .is lb (root (pt b.e) (pt b.e) 1)), elE b lb lb lb, elN b, goNil go] := H
    refine (gEvict1 gb mb clock lb b.e b.n go 1 (by omega) M hMp (by simpa using hMl) es al k u b.k b.v hl hg S w H1).mono ?_
    rintro y w' ⟨e, nb, es', clock', key, cap, rfl, hl', H'⟩
    refine ⟨rfl, _, key, cap, b.k, b.v, ⟨lb, mb, clock', es', _, [⟨e, nb, k, u⟩], rfl, hl', aonce_del (aonce_put ho k _) _, hm2 e nb, rfl⟩, ?_⟩
    exact H'.sel (L' := [(true, .is gb (gobj M (evv go) lb mb)), (true, .is mb (.map es' clock')), (true, .is lb (root (pt e) (pt e) 1)), (true, .is e (elem (pt lb) (pt lb) (pt lb) (ent nb))), (true, .is nb (ntry k u)), goOne go key cap, rowOne key cap b.k b.v]) (by repeat (first | exact Sel.nil _ | (apply Sel.cons; focus (repeat (first | exact Split.here _ _ | apply Split.there)))))
  | [f] =>
    have H1 : St S w w ([(true, .is gb (gobj M (evv go) lb mb)), (true, .is mb (.map es clock)), (true, .is lb (root (pt f.e) (pt b.e) 2)), elE f b.e lb lb, elN f, elE b lb f.e lb, elN b, goNil go] ++ []) := H
    have H2 := st_tail H1 (L' := [(true, .is gb (gobj M (evv go) lb mb)), (true, .is mb (.map es clock)), (true, .is lb (root (pt f.e) (pt b.e) 2)), elE f b.e lb lb, elE b lb f.e lb, elN b, goNil go, elN f]) (by repeat (first | exact Sel.nil _ | (apply Sel.cons; focus (repeat (first | exact Split.here _ _ | apply Split.there)))))
    refine (st_part2 (X := [(true, .is gb (gobj M (evv go) lb mb)), (true, .is mb (.map es clock)), (true, .is lb (root (pt f.e) (pt b.e) 2)), elE f b.e lb lb, elE b lb f.e lb, elN b, goNil go]) (R := [elN f]) (Q := fun y Y => y = .returned (.tuple #[]) ∧ ∃ e nb es' clock' key cap, Hid (KV1 ik es' (adel (aput al k (pt e)) b.k)) ∧ Y = [(true, .is gb (gobj M (evv go) lb mb)), (true, .is mb (.map es' clock')), (true, .is nb (ntry k u)), (true, .is lb (root (pt e) (pt f.e) 2)), elE f lb e lb, (true, .is e (elem (pt f.e) (pt lb) (pt lb) (ent nb))), goOne go key cap, rowOne key cap b.k b.v]) (by rfl) H2 (fun S w H => (gEvict2 gb mb clock lb b.e b.n go f.e 2 (by omega) _ _ M hMp (by simpa using hMl) es al k u b.k b.v hl hg S w H).mono ?_)).mono ?_
    · rintro y w' ⟨e, nb, es', clock', key, cap, rfl, hl', H'⟩
      exact ⟨_, ⟨rfl, e, nb, es', clock', key, cap, hl', rfl⟩, rfl, H'⟩
    · rintro y w' ⟨Y, ⟨rfl, e, nb, es', clock', key, cap, hl', rfl⟩, H'⟩
      refine ⟨rfl, _, key, cap, b.k, b.v, ⟨lb, mb, clock', es', _, _, rfl, hl', aonce_del (aonce_put ho k _) _, hm2 e nb, rfl⟩, ?_⟩
      have H3 := st_tail (R := []) (by simpa using H') (L' := [(true, .is gb (gobj M (evv go) lb mb)), (true, .is mb (.map es' clock')), (true, .is lb (root (pt e) (pt f.e) 2)), (true, .is e (elem (pt f.e) (pt lb) (pt lb) (ent nb))), (true, .is nb (ntry k u)), elE f lb e lb, elN f, goOne go key cap, rowOne key cap b.k b.v]) (by repeat (first | exact Sel.nil _ | (apply Sel.cons; focus (repeat (first | exact Split.here _ _ | apply Split.there)))))
      exact H3
  | f :: g :: A2 =>
    obtain ⟨A', p, hA⟩ : ∃ A' p, g :: A2 = A' ++ [p] := ⟨(g :: A2).dropLast, (g :: A2).getLast (by simp), (List.dropLast_concat_getLast (by simp)).symm⟩
    rw [hA] at H hm2 hMl hn0 hle2 ⊢
    have e1 : (f :: (A' ++ [p])) ++ [b] = f :: (A' ++ p :: [b]) := by simp
    have e2 : ∀ e nb, (⟨e, nb, k, u⟩ :: f :: (A' ++ [p]) : List Nd) = ⟨e, nb, k, u⟩ :: ((f :: A') ++ p :: []) := by intro e nb; simp
    have hlen3 : (((f :: (A' ++ [p])) ++ [b]).length : Int) = ((A'.length + 3 : Nat) : Int) := by simp; omega
    rw [hlen3] at hMl hn0
    rw [e1, cache_split gb lb mb clock M (evv go) es f p A' [b] (A'.length + 3) (by simp only [List.length_cons, List.length_nil])] at H
    generalize hN : A'.length + 3 = n at H hMl hn0
    have H0 : St S w w ([(true, .is gb (gobj M (evv go) lb mb)), (true, .is mb (.map es clock)), (true, .is lb (root (pt f.e) (pt b.e) (n : Int))), elE f (nhd p.e A') lb lb, elN f] ++ (ring lb f.e p.e A' ++ ([elE p b.e (nlast f.e A') lb, elN p, elE b lb p.e lb, elN b, goNil go] ++ []))) := by
      simpa only [List.append_assoc, List.append_nil, List.cons_append, List.nil_append, ring, nhd, nlast] using H
    have H1 := H0.reorder (perm_in _ _ _ _)
    have H2 := st_tail H1 (L' := [(true, .is gb (gobj M (evv go) lb mb)), (true, .is mb (.map es clock)), (true, .is lb (root (pt f.e) (pt b.e) (n : Int))), elE f (nhd p.e A') lb lb, elE p b.e (nlast f.e A') lb, elE b lb p.e lb, elN b, goNil go, elN f, elN p]) (by repeat (first | exact Sel.nil _ | (apply Sel.cons; focus (repeat (first | exact Split.here _ _ | apply Split.there)))))
    refine (st_part2 (X := [(true, .is gb (gobj M (evv go) lb mb)), (true, .is mb (.map es clock)), (true, .is lb (root (pt f.e) (pt b.e) (n : Int))), elE f (nhd p.e A') lb lb, elE p b.e (nlast f.e A') lb, elE b lb p.e lb, elN b, goNil go]) (R := elN f :: elN p :: (ring lb f.e p.e A' ++ [])) (Q := fun y Y => y = .returned (.tuple #[]) ∧ ∃ e nb es' clock' key cap, Hid (KV1 ik es' (adel (aput al k (pt e)) b.k)) ∧ Y = [(true, .is gb (gobj M (evv go) lb mb)), (true, .is mb (.map es' clock')), (true, .is nb (ntry k u)), (true, .is lb (root (pt e) (pt p.e) (n : Int))), elE f (nhd p.e A') e lb, elE p lb (nlast f.e A') lb, (true, .is e (elem (pt f.e) (pt lb) (pt lb) (ent nb))), goOne go key cap, rowOne key cap b.k b.v]) (by rfl) H2 (fun S w H => (gEvict3 gb mb clock lb b.e b.n go f.e p.e n hn0 _ _ _ _ _ _ M hMp hMl es al k u b.k b.v hl hg S w H).mono ?_)).mono ?_
    · rintro y w' ⟨e, nb, es', clock', key, cap, rfl, hl', H'⟩
      exact ⟨_, ⟨rfl, e, nb, es', clock', key, cap, hl', rfl⟩, rfl, H'⟩
    · rintro y w' ⟨Y, ⟨rfl, e, nb, es', clock', key, cap, hl', rfl⟩, H'⟩
      refine ⟨rfl, _, key, cap, b.k, b.v, ⟨lb, mb, clock', es', _, _, rfl, hl', aonce_del (aonce_put ho k _) _, hm2 e nb, rfl⟩, ?_⟩
      rw [e2 e nb, cache_split gb lb mb clock' M (evv go) es' ⟨e, nb, k, u⟩ p (f :: A') [] n (by simp only [List.length_cons, List.length_nil]; omega)]
      have H3 := st_tail (L := [(true, .is gb (gobj M (evv go) lb mb)), (true, .is mb (.map es' clock')), (true, .is nb (ntry k u)), (true, .is lb (root (pt e) (pt p.e) (n : Int))), elE f (nhd p.e A') e lb, elE p lb (nlast f.e A') lb, (true, .is e (elem (pt f.e) (pt lb) (pt lb) (ent nb))), goOne go key cap, rowOne key cap b.k b.v, elN f, elN p]) (R := ring lb f.e p.e A' ++ []) H' (L' := [(true, .is gb (gobj M (evv go) lb mb)), (true, .is mb (.map es' clock')), (true, .is lb (root (pt e) (pt p.e) (n : Int))), (true, .is e (elem (pt f.e) (pt lb) (pt lb) (ent nb))), (true, .is nb (ntry k u)), elE f (nhd p.e A') e lb, elN f] ++ [elE p lb (nlast f.e A') lb, elN p, goOne go key cap, rowOne key cap b.k b.v]) (by repeat (first | exact Sel.nil _ | (apply Sel.cons; focus (repeat (first | exact Split.here _ _ | apply Split.there)))))
      have H4 := H3.reorder (perm_in _ _ _ _).symm
      simpa only [List.append_assoc, List.append_nil, List.cons_append, List.nil_append, ring, nhd, nlast] using H4
end Go.Proofs.Ytjoiekpedmhfbaa
