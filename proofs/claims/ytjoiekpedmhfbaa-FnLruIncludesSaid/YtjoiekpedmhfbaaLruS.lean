import Derived.Test.YtjoiekpedmhfbaaLruR
namespace Go.Proofs.Ytjoiekpedmhfbaa
set_option linter.unusedVariables false
set_option linter.unusedSimpArgs false
set_option linter.unnecessarySimpa false
open Go.RowKit Go.V

abbrev elE (x : Nd) (nx p lb : Nat) : Ent := (true, .is x.e (elem (pt nx) (pt p) (pt lb) (ent x.n)))
abbrev elN (x : Nd) : Ent := (true, .is x.n (ntry x.k x.v))
theorem perm_in {α : Type} (c1 R1 c2 R2 : List α) : (c1 ++ (R1 ++ (c2 ++ R2))).Perm ((c1 ++ c2) ++ (R1 ++ R2)) := by
  have := perm4 c1 R1 c2 R2
  simpa [List.append_assoc] using this
theorem ne_at {S : List Nat} {w0 w : World} {L : List Ent} {b c : Nat} {o o' : Obj} (H : St S w0 w ((true, .is b o) :: (true, .is c o') :: L)) : ¬ b = c :=
  st_ne H (Split.here _ _) List.mem_cons_self
theorem cache_split (gb lb mb clock : Nat) (M : Int) (ev : Value) (es : Array MapEntry) (f c : Nd) (A C : List Nd) (n : Nat) (hn : n = A.length + C.length + 2) :
    cacheL gb lb mb clock M ev es (f :: (A ++ c :: C)) = [(true, .is gb (gobj M ev lb mb)), (true, .is mb (.map es clock)), (true, .is lb (root (pt f.e) (pt (nlast c.e C)) (n : Int))), elE f (nhd c.e A) lb lb, elN f] ++ (ring lb f.e c.e A ++ ring lb (nlast f.e A) lb (c :: C)) := by
  have h1 : nlast lb (f :: (A ++ c :: C)) = nlast c.e C := by
    show nlast f.e (A ++ c :: C) = _
    rw [nlast_app]
    rfl
  have h2 : nhd lb (A ++ c :: C) = nhd c.e A := by
    rw [nhd_app]
    rfl
  have h3 : ((f :: (A ++ c :: C)).length : Int) = (n : Int) := by
    rw [hn]
    simp only [List.length_cons, List.length_append]
    omega
  unfold cacheL
  rw [h1, h3]
  show _ :: _ :: _ :: (elE f (nhd lb (A ++ c :: C)) lb lb) :: elN f :: ring lb f.e lb (A ++ c :: C) = _
  rw [h2, ring_app]
  rfl
/-- An element that is found goes to the front. -/
theorem fronts_calls {f0 : FuncId} {args : Array Value} {r : Value} {gb mb clock lb : Nat} {M : Int} {ev : Value} {es : Array MapEntry} {x : Nd} {v : Int} (hF : Fronts f0 args r gb mb clock lb M ev es x v) (A B : List Nd) (S : List Nat) (w : World)
    (H : St S w w (cacheL gb lb mb clock M ev es (A ++ x :: B))) :
    Calls Try.prog f0 args w fun z w' => z = .returned r ∧ St S w w' (cacheL gb lb mb clock M ev es (⟨x.e, x.n, x.k, v⟩ :: (A ++ B))) := by
  have hlen : ((A ++ x :: B).length : Int) = ((⟨x.e, x.n, x.k, v⟩ :: (A ++ B) : List Nd).length : Int) := by simp; omega
  match A with
  | [] =>
    have H1 : St S w w ([(true, .is gb (gobj M ev lb mb)), (true, .is mb (.map es clock)), (true, .is lb (root (pt x.e) (pt (nlast x.e B)) ((x :: B : List Nd).length : Nat))), elE x (nhd lb B) lb lb, elN x] ++ ring lb x.e lb B) := H
    have H2 := st_tail H1 (L' := [(true, .is gb (gobj M ev lb mb)), (true, .is mb (.map es clock)), elN x, (true, .is lb (root (pt x.e) (pt (nlast x.e B)) ((x :: B : List Nd).length : Nat))), elE x (nhd lb B) lb lb]) (by repeat (first | exact Sel.nil _ | (apply Sel.cons; focus (repeat (first | exact Split.here _ _ | apply Split.there)))))
    refine (st_part (by rfl) (by rfl) H2 (fun S w H => hF.f _ _ _ _ S w H)).mono ?_
    rintro z w' ⟨rfl, H3⟩
    exact ⟨rfl, st_tail H3 (L' := [(true, .is gb (gobj M ev lb mb)), (true, .is mb (.map es clock)), (true, .is lb (root (pt x.e) (pt (nlast x.e B)) ((x :: B : List Nd).length : Nat))), elE x (nhd lb B) lb lb, (true, .is x.n (ntry x.k v))]) (by repeat (first | exact Sel.nil _ | (apply Sel.cons; focus (repeat (first | exact Split.here _ _ | apply Split.there)))))⟩
  | [f] =>
    match B with
    | [] =>
      have H1 : St S w w ([(true, .is gb (gobj M ev lb mb)), (true, .is mb (.map es clock)), (true, .is lb (root (pt f.e) (pt x.e) 2)), elE f x.e lb lb, elN f, elE x lb f.e lb, elN x] ++ []) := H
      have H2 := st_tail H1 (L' := [(true, .is gb (gobj M ev lb mb)), (true, .is mb (.map es clock)), elN x, (true, .is lb (root (pt f.e) (pt x.e) 2)), elE f x.e lb lb, elE x lb f.e lb, elN f]) (by repeat (first | exact Sel.nil _ | (apply Sel.cons; focus (repeat (first | exact Split.here _ _ | apply Split.there)))))
      have n1 := ne_at (st_tail H1 (L' := [elE x lb f.e lb, (true, .is lb (root (pt f.e) (pt x.e) 2))]) (by repeat (first | exact Sel.nil _ | (apply Sel.cons; focus (repeat (first | exact Split.here _ _ | apply Split.there))))))
      have n2 := ne_at (st_tail H1 (L' := [elE f x.e lb lb, elE x lb f.e lb]) (by repeat (first | exact Sel.nil _ | (apply Sel.cons; focus (repeat (first | exact Split.here _ _ | apply Split.there))))))
      refine (st_part (X := [(true, .is gb (gobj M ev lb mb)), (true, .is mb (.map es clock)), elN x, (true, .is lb (root (pt f.e) (pt x.e) 2)), elE f x.e lb lb, elE x lb f.e lb]) (R := [elN f]) (by rfl) (by rfl) H2 (fun S w H => hF.a f.e _ _ _ n1 n2 S w H)).mono ?_
      rintro z w' ⟨rfl, H3⟩
      exact ⟨rfl, st_tail (R := []) (by simpa using H3) (L' := [(true, .is gb (gobj M ev lb mb)), (true, .is mb (.map es clock)), (true, .is lb (root (pt x.e) (pt f.e) 2)), (true, .is x.e (elem (pt f.e) (pt lb) (pt lb) (ent x.n))), (true, .is x.n (ntry x.k v)), elE f lb x.e lb, elN f]) (by repeat (first | exact Sel.nil _ | (apply Sel.cons; focus (repeat (first | exact Split.here _ _ | apply Split.there)))))⟩
    | y :: B' =>
      have hl2 : (([f] ++ x :: y :: B' : List Nd).length : Int) = ((B'.length + 3 : Nat) : Int) := by simp; omega
      have hl3 : ((⟨x.e, x.n, x.k, v⟩ :: ([f] ++ y :: B') : List Nd).length : Int) = ((B'.length + 3 : Nat) : Int) := by simp; omega
      have H0 : St S w w ((true, .is gb (gobj M ev lb mb)) :: (true, .is mb (.map es clock)) :: (true, .is lb (root (pt f.e) (pt (nlast y.e B')) (([f] ++ x :: y :: B' : List Nd).length : Int))) :: elE f x.e lb lb :: elN f :: elE x y.e f.e lb :: elN x :: elE y (nhd lb B') x.e lb :: elN y :: ring lb y.e lb B') := H
      rw [hl2] at H0
      have H1 : St S w w ([(true, .is gb (gobj M ev lb mb)), (true, .is mb (.map es clock)), (true, .is lb (root (pt f.e) (pt (nlast y.e B')) ((B'.length + 3 : Nat) : Int))), elE f x.e lb lb, elN f, elE x y.e f.e lb, elN x, elE y (nhd lb B') x.e lb, elN y] ++ ring lb y.e lb B') := H0
      have n1 := ne_at (st_tail H1 (L' := [elE x y.e f.e lb, (true, .is lb (root (pt f.e) (pt (nlast y.e B')) ((B'.length + 3 : Nat) : Int)))]) (by repeat (first | exact Sel.nil _ | (apply Sel.cons; focus (repeat (first | exact Split.here _ _ | apply Split.there))))))
      have n2 := ne_at (st_tail H1 (L' := [elE f x.e lb lb, elE x y.e f.e lb]) (by repeat (first | exact Sel.nil _ | (apply Sel.cons; focus (repeat (first | exact Split.here _ _ | apply Split.there))))))
      have H2 := st_tail H1 (L' := [(true, .is gb (gobj M ev lb mb)), (true, .is mb (.map es clock)), elN x, (true, .is lb (root (pt f.e) (pt (nlast y.e B')) ((B'.length + 3 : Nat) : Int))), elE f x.e lb lb, elE x y.e f.e lb, elE y (nhd lb B') x.e lb, elN f, elN y]) (by repeat (first | exact Sel.nil _ | (apply Sel.cons; focus (repeat (first | exact Split.here _ _ | apply Split.there)))))
      refine (st_part (X := [(true, .is gb (gobj M ev lb mb)), (true, .is mb (.map es clock)), elN x, (true, .is lb (root (pt f.e) (pt (nlast y.e B')) ((B'.length + 3 : Nat) : Int))), elE f x.e lb lb, elE x y.e f.e lb, elE y (nhd lb B') x.e lb]) (R := elN f :: elN y :: ring lb y.e lb B') (by rfl) (by rfl) H2 (fun S w H => hF.b f.e y.e _ _ _ _ _ _ _ n1 n2 S w H)).mono ?_
      rintro z w' ⟨rfl, H3⟩
      have H4 := st_tail (L := [(true, .is gb (gobj M ev lb mb)), (true, .is mb (.map es clock)), (true, .is x.n (ntry x.k v)), (true, .is lb (root (pt x.e) (pt (nlast y.e B')) ((B'.length + 3 : Nat) : Int))), elE f y.e x.e lb, (true, .is x.e (elem (pt f.e) (pt lb) (pt lb) (ent x.n))), elE y (nhd lb B') f.e lb, elN f, elN y]) (R := ring lb y.e lb B') H3 (L' := [(true, .is gb (gobj M ev lb mb)), (true, .is mb (.map es clock)), (true, .is lb (root (pt x.e) (pt (nlast y.e B')) ((B'.length + 3 : Nat) : Int))), (true, .is x.e (elem (pt f.e) (pt lb) (pt lb) (ent x.n))), (true, .is x.n (ntry x.k v)), elE f y.e x.e lb, elN f, elE y (nhd lb B') f.e lb, elN y]) (by repeat (first | exact Sel.nil _ | (apply Sel.cons; focus (repeat (first | exact Split.here _ _ | apply Split.there)))))
      rw [← hl3] at H4
      exact ⟨rfl, H4⟩
  | f :: g :: A2 =>
    obtain ⟨A', p, hA⟩ : ∃ A' p, g :: A2 = A' ++ [p] := ⟨(g :: A2).dropLast, (g :: A2).getLast (by simp), (List.dropLast_concat_getLast (by simp)).symm⟩
    have e1 : (f :: g :: A2) ++ x :: B = f :: (A' ++ p :: (x :: B)) := by rw [hA]; simp
    have e2 : (⟨x.e, x.n, x.k, v⟩ :: ((f :: g :: A2) ++ B) : List Nd) = ⟨x.e, x.n, x.k, v⟩ :: ((f :: A') ++ p :: B) := by rw [hA]; simp
    rw [e1, cache_split gb lb mb clock M ev es f p A' (x :: B) (A'.length + B.length + 3) (by simp only [List.length_cons]; omega)] at H
    rw [e2, cache_split gb lb mb clock M ev es ⟨x.e, x.n, x.k, v⟩ p (f :: A') B (A'.length + B.length + 3) (by simp only [List.length_cons]; omega)]
    clear hlen e1 e2 hA
    generalize A'.length + B.length + 3 = n at H ⊢
    match B with
    | [] =>
      have H0 := H.reorder (perm_in [(true, .is gb (gobj M ev lb mb)), (true, .is mb (.map es clock)), (true, .is lb (root (pt f.e) (pt x.e) (n : Int))), elE f (nhd p.e A') lb lb, elN f] (ring lb f.e p.e A') [elE p x.e (nlast f.e A') lb, elN p, elE x lb p.e lb, elN x] [])
      have n1 := ne_at (st_tail H0 (L' := [elE x lb p.e lb, (true, .is lb (root (pt f.e) (pt x.e) (n : Int)))]) (by repeat (first | exact Sel.nil _ | (apply Sel.cons; focus (repeat (first | exact Split.here _ _ | apply Split.there))))))
      have n2 := ne_at (st_tail H0 (L' := [elE f (nhd p.e A') lb lb, elE x lb p.e lb]) (by repeat (first | exact Sel.nil _ | (apply Sel.cons; focus (repeat (first | exact Split.here _ _ | apply Split.there))))))
      have H2 := st_tail H0 (L' := [(true, .is gb (gobj M ev lb mb)), (true, .is mb (.map es clock)), elN x, (true, .is lb (root (pt f.e) (pt x.e) (n : Int))), elE f (nhd p.e A') lb lb, elE p x.e (nlast f.e A') lb, elE x lb p.e lb, elN f, elN p]) (by repeat (first | exact Sel.nil _ | (apply Sel.cons; focus (repeat (first | exact Split.here _ _ | apply Split.there)))))
      refine (st_part (X := [(true, .is gb (gobj M ev lb mb)), (true, .is mb (.map es clock)), elN x, (true, .is lb (root (pt f.e) (pt x.e) (n : Int))), elE f (nhd p.e A') lb lb, elE p x.e (nlast f.e A') lb, elE x lb p.e lb]) (R := elN f :: elN p :: (ring lb f.e p.e A' ++ [])) (by rfl) (by rfl) H2 (fun S w H => hF.c f.e p.e _ _ _ _ _ _ _ n1 n2 S w H)).mono ?_
      rintro z w' ⟨rfl, H3⟩
      refine ⟨rfl, ?_⟩
      have H4 := st_tail (L := [(true, .is gb (gobj M ev lb mb)), (true, .is mb (.map es clock)), (true, .is x.n (ntry x.k v)), (true, .is lb (root (pt x.e) (pt p.e) (n : Int))), elE f (nhd p.e A') x.e lb, elE p lb (nlast f.e A') lb, (true, .is x.e (elem (pt f.e) (pt lb) (pt lb) (ent x.n))), elN f, elN p]) (R := ring lb f.e p.e A' ++ []) H3 (L' := [(true, .is gb (gobj M ev lb mb)), (true, .is mb (.map es clock)), (true, .is lb (root (pt x.e) (pt p.e) (n : Int))), (true, .is x.e (elem (pt f.e) (pt lb) (pt lb) (ent x.n))), (true, .is x.n (ntry x.k v)), elE f (nhd p.e A') x.e lb, elN f] ++ [elE p lb (nlast f.e A') lb, elN p]) (by repeat (first | exact Sel.nil _ | (apply Sel.cons; focus (repeat (first | exact Split.here _ _ | apply Split.there)))))
      exact H4.reorder (perm_in [(true, .is gb (gobj M ev lb mb)), (true, .is mb (.map es clock)), (true, .is lb (root (pt x.e) (pt p.e) (n : Int))), (true, .is x.e (elem (pt f.e) (pt lb) (pt lb) (ent x.n))), (true, .is x.n (ntry x.k v)), elE f (nhd p.e A') x.e lb, elN f] (ring lb f.e p.e A') [elE p lb (nlast f.e A') lb, elN p] []).symm
    | y :: B' =>
      have H0 := H.reorder (perm_in [(true, .is gb (gobj M ev lb mb)), (true, .is mb (.map es clock)), (true, .is lb (root (pt f.e) (pt (nlast y.e B')) (n : Int))), elE f (nhd p.e A') lb lb, elN f] (ring lb f.e p.e A') [elE p x.e (nlast f.e A') lb, elN p, elE x y.e p.e lb, elN x, elE y (nhd lb B') x.e lb, elN y] (ring lb y.e lb B'))
      have n1 := ne_at (st_tail H0 (L' := [elE x y.e p.e lb, (true, .is lb (root (pt f.e) (pt (nlast y.e B')) (n : Int)))]) (by repeat (first | exact Sel.nil _ | (apply Sel.cons; focus (repeat (first | exact Split.here _ _ | apply Split.there))))))
      have n2 := ne_at (st_tail H0 (L' := [elE f (nhd p.e A') lb lb, elE x y.e p.e lb]) (by repeat (first | exact Sel.nil _ | (apply Sel.cons; focus (repeat (first | exact Split.here _ _ | apply Split.there))))))
      have H2 := st_tail H0 (L' := [(true, .is gb (gobj M ev lb mb)), (true, .is mb (.map es clock)), elN x, (true, .is lb (root (pt f.e) (pt (nlast y.e B')) (n : Int))), elE f (nhd p.e A') lb lb, elE p x.e (nlast f.e A') lb, elE x y.e p.e lb, elE y (nhd lb B') x.e lb, elN f, elN p, elN y]) (by repeat (first | exact Sel.nil _ | (apply Sel.cons; focus (repeat (first | exact Split.here _ _ | apply Split.there)))))
      refine (st_part (X := [(true, .is gb (gobj M ev lb mb)), (true, .is mb (.map es clock)), elN x, (true, .is lb (root (pt f.e) (pt (nlast y.e B')) (n : Int))), elE f (nhd p.e A') lb lb, elE p x.e (nlast f.e A') lb, elE x y.e p.e lb, elE y (nhd lb B') x.e lb]) (R := elN f :: elN p :: elN y :: (ring lb f.e p.e A' ++ ring lb y.e lb B')) (by rfl) (by rfl) H2 (fun S w H => hF.d f.e p.e y.e _ _ _ _ _ _ _ _ _ _ _ n1 n2 S w H)).mono ?_
      rintro z w' ⟨rfl, H3⟩
      refine ⟨rfl, ?_⟩
      have H4 := st_tail (L := [(true, .is gb (gobj M ev lb mb)), (true, .is mb (.map es clock)), (true, .is x.n (ntry x.k v)), (true, .is lb (root (pt x.e) (pt (nlast y.e B')) (n : Int))), elE f (nhd p.e A') x.e lb, elE p y.e (nlast f.e A') lb, (true, .is x.e (elem (pt f.e) (pt lb) (pt lb) (ent x.n))), elE y (nhd lb B') p.e lb, elN f, elN p, elN y]) (R := ring lb f.e p.e A' ++ ring lb y.e lb B') H3 (L' := [(true, .is gb (gobj M ev lb mb)), (true, .is mb (.map es clock)), (true, .is lb (root (pt x.e) (pt (nlast y.e B')) (n : Int))), (true, .is x.e (elem (pt f.e) (pt lb) (pt lb) (ent x.n))), (true, .is x.n (ntry x.k v)), elE f (nhd p.e A') x.e lb, elN f] ++ [elE p y.e (nlast f.e A') lb, elN p, elE y (nhd lb B') p.e lb, elN y]) (by repeat (first | exact Sel.nil _ | (apply Sel.cons; focus (repeat (first | exact Split.here _ _ | apply Split.there)))))
      exact H4.reorder (perm_in [(true, .is gb (gobj M ev lb mb)), (true, .is mb (.map es clock)), (true, .is lb (root (pt x.e) (pt (nlast y.e B')) (n : Int))), (true, .is x.e (elem (pt f.e) (pt lb) (pt lb) (ent x.n))), (true, .is x.n (ntry x.k v)), elE f (nhd p.e A') x.e lb, elN f] (ring lb f.e p.e A') [elE p y.e (nlast f.e A') lb, elN p, elE y (nhd lb B') p.e lb, elN y] (ring lb y.e lb B')).symm
end Go.Proofs.Ytjoiekpedmhfbaa
