import Derived.Test.YtelddhcggmfloaaCkT
import Derived.Test.YtelddhcggmfloaaCkG
-- MORE
-- SUB2
namespace Go.Proofs.Ytelddhcggmfloaa
set_option linter.unusedVariables false
set_option linter.unusedSimpArgs false
set_option linter.unnecessarySimpa false
open Go Go.RowKit Go.V

abbrev p2 : Pr := ⟨2, true, 7, 2, 5, 0⟩
abbrev p3 : Pr := ⟨3, true, 8, 2, 5, 0⟩
abbrev ha : KH := ⟨7, 2, 5⟩
theorem grps_a : grps (prs 1 ha [p2, p3]) = [(7, [1, 2]), (8, [3])] := by decide
theorem one_a {last' : Int} {a q : List Int} {s1 s2 s3 s4 : Option Addr} {c1 c2 c3 c4 : Nat} (h : OneT 1 ⟨⟨s1, c1, [ha]⟩, ⟨s2, c2, [5]⟩, ⟨s3, c3, [⟨s4, c4, [p2, p3]⟩]⟩⟩ 0 last' a q) : a = [3] ∧ q = [5] := by
  obtain ⟨zs, ⟨l, m, ⟨hp, _, hm, _, hlt⟩, hc⟩, hz, _⟩ := h
  have hl : l = [ha] := List.perm_singleton.1 hp
  subst hl
  have hm1 : m = 1 := by
    have hm' : m ≤ 1 := hm
    rcases Nat.lt_or_ge m 1 with h1 | h1
    · have := hlt h1
      have h0 : m = 0 := by omega
      subst h0
      exact absurd this (by decide)
    · omega
  subst hm1
  have hP : prsAt [5] [(⟨s4, c4, [p2, p3]⟩ : Row Pr)] 5 = [p2, p3] := rfl
  rcases hc with ⟨hpre, _, _, _⟩ | ⟨j, hj, _, _, hc, hq⟩
  · exfalso
    rcases hpre ha (by simp) with h1 | h1
    · rw [hP] at h1
      cases h1
    · rw [hP] at h1
      rcases h1 with ⟨h2, _⟩ | ⟨_, h2, _⟩
      · rw [grps_a] at h2
        cases h2
      · cases h2
  · have hj0 : j = 0 := by simp at hj; omega
    subst hj0
    rw [show (List.take 1 [ha])[0] = ha from rfl, hP] at hc
    refine ⟨?_, by rw [hq]; rfl⟩
    rcases hc with ⟨h2, _⟩ | ⟨_, _, _, ⟨x, hx, hxq, hzp⟩ | ⟨hall, _⟩⟩
    · rw [grps_a] at h2
      cases h2
    · rw [grps_a] at hx hzp
      simp only [List.mem_cons, List.not_mem_nil, or_false] at hx
      rcases hx with rfl | rfl
      · have h9 : zs.Perm [3] := hzp
        exact List.perm_singleton.1 (hz.trans h9)
      · exact absurd hxq (by decide)
    · rw [grps_a] at hall
      exact absurd (hall (7, [1, 2]) (by simp)) (by decide)
theorem run_a {a1 q1 : List (List Int)} {last : Int} {s1 s2 s3 s4 : Option Addr} {c1 c2 c3 c4 : Nat} (h : RunT 1 [⟨⟨s1, c1, [ha]⟩, ⟨s2, c2, [5]⟩, ⟨s3, c3, [⟨s4, c4, [p2, p3]⟩]⟩⟩] a1 q1 last) : a1 = [[3]] ∧ q1 = [[5]] := by
  generalize hr : [(⟨⟨s1, c1, [ha]⟩, ⟨s2, c2, [5]⟩, ⟨s3, c3, [⟨s4, c4, [p2, p3]⟩]⟩⟩ : Rd)] = rds at h
  cases h with
  | nil => cases hr
  | @snoc rds0 as0 qs0 last0 _ d a q h0 h1 =>
    have hr2 : rds0 = [] ∧ d = ⟨⟨s1, c1, [ha]⟩, ⟨s2, c2, [5]⟩, ⟨s3, c3, [⟨s4, c4, [p2, p3]⟩]⟩⟩ := by
      have h9 := List.append_eq_singleton_iff.1 hr.symm
      rcases h9 with ⟨h5, h6⟩ | ⟨h5, h6⟩
      · exact ⟨h5, by simpa using h6⟩
      · cases h6
    obtain ⟨rfl, rfl⟩ := hr2
    generalize hr3 : ([] : List Rd) = rr at h0
    cases h0 with
    | nil =>
      obtain ⟨rfl, rfl⟩ := one_a h1
      exact ⟨rfl, rfl⟩
    | snoc _ _ => exact absurd (congrArg List.length hr3) (by simp)
theorem inline_one {l : List SlI} {x : List Int} (h : l.map SlI.list = [x]) : ∃ k c, l = [⟨k, c, x⟩] := by
  match l, h with
  | [⟨k, c, y⟩], h =>
    simp at h
    subst h
    exact ⟨k, c, rfl⟩
  | [], h => cases h
  | _ :: _ :: _, h => exact absurd (congrArg List.length h) (by simp)
abbrev lit1 (b2 : Nat) : Kn := .is b2 (.cells #[.int .u64 2, .bool true, .int .u32 7, .int .i64 2, .int .i64 5, .int .i64 0, .int .u64 3, .bool true, .int .u32 8, .int .i64 2, .int .i64 5, .int .i64 0] 29 (0, 0))
abbrev at0 (b : Nat) : Option Addr := some ⟨b, 0, none⟩
theorem row_some {w : World} {key : Option Nat} {T : TypeId} {s n cap : Nat} {xs : List Value} (h : holds w (.row key T s n cap xs)) (hn : 0 < n) : ∃ b, key = some b := by
  cases key with
  | some b => exact ⟨b, rfl⟩
  | none => exact absurd h.1 (by omega)
theorem compact_awake (bR bP bV bH b2 : Nat) (w : World) (H : St [] w w [(false, .is bR (.cells #[.slice (at0 bH) 1 1, .slice (at0 bV) 1 1, .slice (at0 bP) 1 1] 44 (0, 0))), (false, .is bP (.cells #[.slice (at0 b2) 2 2] 25 (0, 0))), (false, .is bV (.cells #[.int .i64 5] 2 (0, 0))), (false, .is bH (.cells #[.int .u32 7, .int .i64 2, .int .i64 5] 24 (0, 0))), (false, lit1 b2)]) :
    Calls Try.prog 11 #[.int .u64 1, .slice (at0 bR) 1 1] w fun e w' => ∃ k7 k8 c7 c8 ka ca kq cq, e = .returned (.tuple #[.slice (at0 k7) 1 c7, .slice (at0 k8) 1 c8]) ∧
      St [] w w' [(true, .row (some k7) 32 1 1 c7 [.slice (at0 ka) 1 ca]), (true, .row (some k8) 42 1 1 c8 [.slice (at0 kq) 1 cq]), (true, .row (some ka) 27 1 1 ca [uv 3]), (true, .row (some kq) 2 1 1 cq [i8 5])] := by
  have l1 := lies_lit (xs := Rd.cells ⟨⟨at0 bH, 1, [ha]⟩, ⟨at0 bV, 1, [5]⟩, ⟨at0 bP, 1, [⟨at0 b2, 2, [p2, p3]⟩]⟩⟩) (H.get (Split.here _ _))
  have l2 := lies_lit (xs := [(⟨at0 b2, 2, [p2, p3]⟩ : Row Pr)].map Row.val) (H.get (Split.there _ (Split.here _ _)))
  have l3 := lies_lit (xs := [(5 : Int)].map i8) (H.get (Split.there _ (Split.there _ (Split.here _ _))))
  have l4 := lies_lit (xs := [ha].flatMap KH.cells) (H.get (Split.there _ (Split.there _ (Split.there _ (Split.here _ _)))))
  have l5 := lies_lit (xs := [p2, p3].flatMap Pr.cells) (H.get (Split.there _ (Split.there _ (Split.there _ (Split.there _ (Split.here _ _))))))
  refine (compact_calls 1 [⟨⟨at0 bH, 1, [ha]⟩, ⟨at0 bV, 1, [5]⟩, ⟨at0 bP, 1, [⟨at0 b2, 2, [p2, p3]⟩]⟩⟩] (at0 bR) 1 1 rfl (by omega) w ?_ ((St.init [] w).soft l1)).mono ?_
  · intro d hd
    simp only [List.mem_singleton] at hd
    subst hd
    refine ⟨⟨l4, l3, l2, ?_⟩, (by show 1 ≤ 12; omega), rfl, (by show 1 ≤ 12; omega), ?_⟩
    · intro r hr
      have : r = ⟨at0 b2, 2, [p2, p3]⟩ := by simpa using hr
      subst this
      exact l5
    · intro r hr
      have : r = ⟨at0 b2, 2, [p2, p3]⟩ := by simpa using hr
      subst this
      show 2 ≤ 12
      omega
  · rintro e w' ⟨k7, k8, c7, c8, aa, qs, last, hrun, rfl, H'⟩
    obtain ⟨e1, e2⟩ := run_a hrun.out
    obtain ⟨ka, ca, rfl⟩ := inline_one e1
    obtain ⟨kq, cq, rfl⟩ := inline_one e2
    have H1 := st_unfold (X := [SlI.entA ⟨ka, ca, [3]⟩]) (H'.sel (L' := (true, bag [SlI.entA ⟨ka, ca, [3]⟩]) :: [(true, bag [SlI.entQ ⟨kq, cq, [5]⟩]), (true, .row k7 32 1 1 c7 [sl ka 1 ca]), (true, .row k8 42 1 1 c8 [sl kq 1 cq])]) (by repeat (first | exact Sel.nil _ | (apply Sel.cons; focus (repeat (first | exact Split.here _ _ | apply Split.there))))))
    have H2 := st_unfold (X := [SlI.entQ ⟨kq, cq, [5]⟩]) (H1.sel (L' := (true, bag [SlI.entQ ⟨kq, cq, [5]⟩]) :: [SlI.entA ⟨ka, ca, [3]⟩, (true, .row k7 32 1 1 c7 [sl ka 1 ca]), (true, .row k8 42 1 1 c8 [sl kq 1 cq])]) (by repeat (first | exact Sel.nil _ | (apply Sel.cons; focus (repeat (first | exact Split.here _ _ | apply Split.there))))))
    have H3 := H2.sel (L' := [(true, .row k7 32 1 1 c7 [sl ka 1 ca]), (true, .row k8 42 1 1 c8 [sl kq 1 cq]), (true, .row ka 27 1 1 ca [uv 3]), (true, .row kq 2 1 1 cq [i8 5])]) (by repeat (first | exact Sel.nil _ | (apply Sel.cons; focus (repeat (first | exact Split.here _ _ | apply Split.there)))))
    obtain ⟨k7, rfl⟩ := row_some (H3.get (Split.here _ _)) (by omega)
    obtain ⟨k8, rfl⟩ := row_some (H3.get (Split.there _ (Split.here _ _))) (by omega)
    obtain ⟨ka, rfl⟩ := row_some (H3.get (Split.there _ (Split.there _ (Split.here _ _)))) (by omega)
    obtain ⟨kq, rfl⟩ := row_some (H3.get (Split.there _ (Split.there _ (Split.there _ (Split.here _ _))))) (by omega)
    exact ⟨k7, k8, c7, c8, ka, ca, kq, cq, rfl, H3⟩
theorem per_awake (b2 : Nat) (w : World) (H : St [] w w [(false, lit1 b2)]) :
    Calls Try.prog 10 #[.agg #[.int .u32 7, .int .i64 2, .int .i64 5], .agg #[.int .u32 7, .int .i64 2, .int .i64 5], .int .i64 5, .int .u64 1, .slice (at0 b2) 2 2] w fun e w' => ∃ k c, e = .returned (.slice (at0 k) 1 c) ∧ St [] w w' [(true, .row (some k) 27 1 1 c [uv 3])] := by
  have l5 := lies_lit (xs := [p2, p3].flatMap Pr.cells) (H.get (Split.here _ _))
  refine (impPeriodic_calls ha 5 1 [p2, p3] (at0 b2) 2 2 rfl (by omega) w ((St.init [] w).soft l5)).mono ?_
  rintro e w' ⟨key, c, rfl, H'⟩
  have e1 : perAl ha 5 [p2, p3] = some 3 := by decide
  rw [e1] at H' ⊢
  obtain ⟨k, rfl⟩ := row_some (H'.get (Split.here _ _)) (by decide)
  exact ⟨k, c, rfl, H'⟩
theorem ini_awake (b2 : Nat) (w : World) (H : St [] w w [(false, lit1 b2)]) :
    Calls Try.prog 8 #[.agg #[.int .u32 7, .int .i64 2, .int .i64 5], .slice (at0 b2) 2 2] w fun e w' => e = .returned (.bool false) ∧ Ext [] w w' := by
  have l5 := lies_lit (xs := [p2, p3].flatMap Pr.cells) (H.get (Split.here _ _))
  refine (impInitial_calls ha [p2, p3] (at0 b2) 2 2 rfl (by omega) w ((St.init [] w).soft l5)).mono ?_
  rintro e w' ⟨rfl, H'⟩
  exact ⟨by rw [show decide (List.countP (iniBad ha) [p2, p3] = 0) = false by decide], H'⟩
theorem ids_awake (k c b : Nat) (w : World) (H : St [] w w [(false, .row (some k) 27 1 1 c [uv 3]), (false, .is b (.cells #[uv 3] 27 (0, 0)))]) :
    Calls Try.prog 16 #[.slice (at0 k) 1 c, .slice (at0 b) 1 1] w fun e w' => e = .returned (.bool true) ∧ Ext [] w w' :=
  ids_calls [3] [3] _ _ 1 1 c 1 rfl rfl (by omega) w (lies_of_row1 (H.get (Split.here _ _))) (lies_lit (xs := [3].map uv) (H.get (Split.there _ (Split.here _ _))))
theorem revs_awake (k c b : Nat) (w : World) (H : St [] w w [(false, .row (some k) 2 1 1 c [i8 5]), (false, .is b (.cells #[i8 5] 2 (0, 0)))]) :
    Calls Try.prog 12 #[.slice (at0 k) 1 c, .slice (at0 b) 1 1] w fun e w' => e = .returned (.bool true) ∧ Ext [] w w' :=
  revs_calls [5] [5] _ _ 1 1 c 1 rfl rfl (by omega) w (lies_of_row1 (H.get (Split.here _ _))) (lies_lit (xs := [5].map i8) (H.get (Split.there _ (Split.here _ _))))
set_option maxRecDepth 8000 in
set_option maxHeartbeats 4000000 in
theorem awake_calls (w : World) : Calls Try.prog 9 #[] w fun e w' => e = .returned (.bool true) ∧ Ext [] w w' := by
  have H := St.init [] w
  go_enter Try.func9, Try.ntmps9
  repeat' (first | (go_big_may; (first
    | go_skip
    | ((first
        | (go_at_call 11; refine Calls.mono (compact_awake _ _ _ _ _ _ (H.pick (by repeat (first | exact Picks.nil _ | (apply Picks.wr; focus (repeat (first | exact Split.here _ _ | apply Split.there))) | (apply Picks.rd; focus (repeat (first | exact Split.here _ _ | apply Split.there))))))) ?_; rintro e w' ⟨k7, k8, c7, c8, ka, ca, kq, cq, rfl, H'⟩; replace H := H.merge (by first | exact Strikes.nil _ | (repeat (first | exact Strikes.nil _ | (apply Strikes.cons; focus (repeat (first | exact Split.here _ _ | apply Split.there)))))) H' rfl; clear H')
        | (go_at_call 10; refine Calls.mono (per_awake _ _ (H.pick (by repeat (first | exact Picks.nil _ | (apply Picks.wr; focus (repeat (first | exact Split.here _ _ | apply Split.there))) | (apply Picks.rd; focus (repeat (first | exact Split.here _ _ | apply Split.there))))))) ?_; rintro e w' ⟨kp, cp, rfl, H'⟩; replace H := H.merge (by first | exact Strikes.nil _ | (repeat (first | exact Strikes.nil _ | (apply Strikes.cons; focus (repeat (first | exact Split.here _ _ | apply Split.there)))))) H' rfl; clear H')
        | (go_at_call 8; refine Calls.mono (ini_awake _ _ (H.pick (by repeat (first | exact Picks.nil _ | (apply Picks.wr; focus (repeat (first | exact Split.here _ _ | apply Split.there))) | (apply Picks.rd; focus (repeat (first | exact Split.here _ _ | apply Split.there))))))) ?_; rintro e w' ⟨rfl, H'⟩; replace H := H.of_ext H'; clear H')
        | (refine loud_ rfl ?_; refine wpList_plain rfl (fun K hK => ?_); (first | (refine op_box _ _ rfl H (fun b w' H1 => hK _ _ ?_)) | (refine op_alloc _ rfl (zero_of _ _ rfl) H (fun b w' H1 => hK _ _ ?_)) | (refine op_store _ _ _ rfl rfl rfl H (by repeat (first | exact Split.here _ _ | apply Split.there)) (by kernel_rfl) (by kernel_rfl) (by kernel_rfl) (fun w' H1 => hK _ _ ?_)) | (refine op_buildSlice_all _ _ _ rfl (by first | exact elem25 | exact elem32 | exact elem35 | exact elem36 | exact elem37 | exact elem38 | exact elem41 | exact elem42 | exact elem45 | exact elem57 | exact elem62 | exact elem74 | exact elem98 | exact elem100 | exact elem137 | exact elem178 | exact elem179) (by kernel_rfl) (by kernel_rfl) (by kernel_rfl) H (fun b w' H1 => hK _ _ ?_))); clear hK K; replace H := H1; clear H1)); (try clear hc); (try simp only [nrm, splice, Value.cells, Nat.reduceAdd, Act.eval, Act.put] at H); have hc := H.cells; simp only [CellsOf, KnCells, knc, Nat.reduceAdd] at hc))) | go_values | go_skip | go_guarded | go_step | go_upon | go_back | dsimp only)
  replace H := H.alloc (.cells #[uv 3] 27 (0, 0))
  generalize w'.heap.size = x1 at *
  go_at_call 16
  refine Calls.mono (ids_awake ka ca x1 _ (H.pick (by repeat (first | exact Picks.nil _ | (apply Picks.wr; focus (repeat (first | exact Split.here _ _ | apply Split.there))) | (apply Picks.rd; focus (repeat (first | exact Split.here _ _ | apply Split.there))))))) ?_
  rintro e y1 ⟨rfl, H'⟩
  replace H := H.of_ext H'
  clear H'
  (try clear hc)
  (try simp only [nrm, splice, Value.cells, Nat.reduceAdd, Act.eval, Act.put] at H); have hc := H.cells; simp only [CellsOf, KnCells, knc, Nat.reduceAdd] at hc
  repeat' (first | (go_big_may; (first
    | ((first
        | (refine loud_ rfl ?_; refine wpList_plain rfl (fun K hK => ?_); (first | (refine op_box _ _ rfl H (fun b w' H1 => hK _ _ ?_)) | (refine op_alloc _ rfl (zero_of _ _ rfl) H (fun b w' H1 => hK _ _ ?_)) | (refine op_store _ _ _ rfl rfl rfl H (by repeat (first | exact Split.here _ _ | apply Split.there)) (by kernel_rfl) (by kernel_rfl) (by kernel_rfl) (fun w' H1 => hK _ _ ?_)) | (refine op_buildSlice_all _ _ _ rfl (by first | exact elem25 | exact elem32 | exact elem35 | exact elem36 | exact elem37 | exact elem38 | exact elem41 | exact elem42 | exact elem45 | exact elem57 | exact elem62 | exact elem74 | exact elem98 | exact elem100 | exact elem137 | exact elem178 | exact elem179) (by kernel_rfl) (by kernel_rfl) (by kernel_rfl) H (fun b w' H1 => hK _ _ ?_))); clear hK K; replace H := H1; clear H1)); (try clear hc); (try simp only [nrm, splice, Value.cells, Nat.reduceAdd, Act.eval, Act.put] at H); have hc := H.cells; simp only [CellsOf, KnCells, knc, Nat.reduceAdd] at hc))) | go_values | go_skip | go_guarded | go_step | go_upon | go_back | dsimp only)
  replace H := H.alloc (.cells #[i8 5] 2 (0, 0))
  generalize y1.heap.size = x2 at *
  go_at_call 12
  refine Calls.mono (revs_awake kq cq x2 _ (H.pick (by repeat (first | exact Picks.nil _ | (apply Picks.wr; focus (repeat (first | exact Split.here _ _ | apply Split.there))) | (apply Picks.rd; focus (repeat (first | exact Split.here _ _ | apply Split.there))))))) ?_
  rintro e y2 ⟨rfl, H'⟩
  replace H := H.of_ext H'
  clear H'
  (try clear hc)
  (try simp only [nrm, splice, Value.cells, Nat.reduceAdd, Act.eval, Act.put] at H); have hc := H.cells; simp only [CellsOf, KnCells, knc, Nat.reduceAdd] at hc
  repeat' (first | (go_big_may; (first
    | ((first
        | (refine loud_ rfl ?_; refine wpList_plain rfl (fun K hK => ?_); (first | (refine op_box _ _ rfl H (fun b w' H1 => hK _ _ ?_)) | (refine op_alloc _ rfl (zero_of _ _ rfl) H (fun b w' H1 => hK _ _ ?_)) | (refine op_store _ _ _ rfl rfl rfl H (by repeat (first | exact Split.here _ _ | apply Split.there)) (by kernel_rfl) (by kernel_rfl) (by kernel_rfl) (fun w' H1 => hK _ _ ?_)) | (refine op_buildSlice_all _ _ _ rfl (by first | exact elem25 | exact elem32 | exact elem35 | exact elem36 | exact elem37 | exact elem38 | exact elem41 | exact elem42 | exact elem45 | exact elem57 | exact elem62 | exact elem74 | exact elem98 | exact elem100 | exact elem137 | exact elem178 | exact elem179) (by kernel_rfl) (by kernel_rfl) (by kernel_rfl) H (fun b w' H1 => hK _ _ ?_))); clear hK K; replace H := H1; clear H1)); (try clear hc); (try simp only [nrm, splice, Value.cells, Nat.reduceAdd, Act.eval, Act.put] at H); have hc := H.cells; simp only [CellsOf, KnCells, knc, Nat.reduceAdd] at hc))) | go_values | go_skip | go_guarded | go_step | go_upon | go_back | dsimp only)
  replace H := H.alloc (.cells #[uv 3] 27 (0, 0))
  generalize y2.heap.size = x3 at *
  go_at_call 16
  refine Calls.mono (ids_awake kp cp x3 _ (H.pick (by repeat (first | exact Picks.nil _ | (apply Picks.wr; focus (repeat (first | exact Split.here _ _ | apply Split.there))) | (apply Picks.rd; focus (repeat (first | exact Split.here _ _ | apply Split.there))))))) ?_
  rintro e y3 ⟨rfl, H'⟩
  replace H := H.of_ext H'
  clear H'
  (try clear hc)
  (try simp only [nrm, splice, Value.cells, Nat.reduceAdd, Act.eval, Act.put] at H); have hc := H.cells; simp only [CellsOf, KnCells, knc, Nat.reduceAdd] at hc
  repeat' (first | (go_big_may; (first
    | go_skip
    | ((first
        | (go_at_call 8; refine Calls.mono (ini_awake _ _ (H.pick (by repeat (first | exact Picks.nil _ | (apply Picks.wr; focus (repeat (first | exact Split.here _ _ | apply Split.there))) | (apply Picks.rd; focus (repeat (first | exact Split.here _ _ | apply Split.there))))))) ?_; rintro e w' ⟨rfl, H'⟩; replace H := H.of_ext H'; clear H')
        | (refine loud_ rfl ?_; refine wpList_plain rfl (fun K hK => ?_); (first | (refine op_box _ _ rfl H (fun b w' H1 => hK _ _ ?_)) | (refine op_alloc _ rfl (zero_of _ _ rfl) H (fun b w' H1 => hK _ _ ?_)) | (refine op_store _ _ _ rfl rfl rfl H (by repeat (first | exact Split.here _ _ | apply Split.there)) (by kernel_rfl) (by kernel_rfl) (by kernel_rfl) (fun w' H1 => hK _ _ ?_)) | (refine op_buildSlice_all _ _ _ rfl (by first | exact elem25 | exact elem32 | exact elem35 | exact elem36 | exact elem37 | exact elem38 | exact elem41 | exact elem42 | exact elem45 | exact elem57 | exact elem62 | exact elem74 | exact elem98 | exact elem100 | exact elem137 | exact elem178 | exact elem179) (by kernel_rfl) (by kernel_rfl) (by kernel_rfl) H (fun b w' H1 => hK _ _ ?_))); clear hK K; replace H := H1; clear H1)); (try clear hc); (try simp only [nrm, splice, Value.cells, Nat.reduceAdd, Act.eval, Act.put] at H); have hc := H.cells; simp only [CellsOf, KnCells, knc, Nat.reduceAdd] at hc))) | go_values | go_skip | go_guarded | go_step | go_upon | go_back | dsimp only)
  go_ret
  exact ⟨rfl, H.ext⟩
end Go.Proofs.Ytelddhcggmfloaa
