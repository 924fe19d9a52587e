import Derived.Test.YtelddhcggmfloaaCkMc
import Derived.Test.YtelddhcggmfloaaCkV
import Derived.Deep.DeepCutAuto
-- MORE
-- SUB2
namespace Go.Proofs.Ytelddhcggmfloaa
set_option linter.unusedVariables false
set_option linter.unusedSimpArgs false
set_option linter.unnecessarySimpa false
open Go Go.RowKit Go.V

abbrev bv (b : Bool) : Value := .bool b
def MjIs (own : Int) (h2 : KH) (H : Int) (L : List Pr) (W : List Int) (j : Nat) : Prop := L.length = j ∧ (∀ p ∈ L, p.has = true ∧ p.compact = h2.compact) ∧ W = ((prs own h2 L).filter fun p => decide (p.1 ≠ H)).map (·.2)
theorem mj_snoc {own : Int} {h2 : KH} {H : Int} {L : List Pr} {W : List Int} {j : Nat} (h : MjIs own h2 H L W j) (p : Pr) (hp : p.has = true ∧ p.compact = h2.compact) : MjIs own h2 H (L ++ [p]) (W ++ if p.hash ≠ H then [p.id] else []) (j + 1) := by
  obtain ⟨h1, h3, h4⟩ := h
  refine ⟨by rw [List.length_append, h1]; rfl, ?_, ?_⟩
  · intro q hq
    rcases List.mem_append.1 hq with hq | hq
    · exact h3 q hq
    · simp only [List.mem_singleton] at hq
      subst hq
      exact hp
  · have hs : selP h2 p = true := by simp [selP, hp.1, hp.2]
    rw [prs_snoc_yes hs, List.filter_append, List.map_append, ← h4]
    by_cases e : p.hash = H
    · simp [e]
    · simp [e]
def AtMj (n : Nat) (own : Int) (h : KH) (h2 : KH) (psrc : Option Addr) (ps : List Pr) (wsrc : Option Addr) (ws : List Bool) (b6 b11 : Nat) (w : World) (wv lv ov i : Value) (wr : World) : Prop :=
  ∃ (j : Nat) (L : List Pr) (W : List Int) (wl : Nat) (kl ko kw : Option Nat) (cl co cw : Nat), j ≤ n ∧ i = .int .i64 j ∧ wv = sl kw wl cw ∧ lv = sl kl j cl ∧ ov = sl ko j co ∧ wl ≤ j + 1 ∧ Hid (MjIs own h2 h.hash L W j ∧ wl = W.length) ∧
  St [] w wr [(true, .row kl 29 6 j cl (L.flatMap Pr.cells)), (true, .row ko 29 6 j co (L.reverse.flatMap Pr.cells)), (true, .row kw 27 1 wl cw (W.map uv)), (false, .is b6 (ckO h)), (false, .is b11 (ckO h2)), (false, soft psrc (ps.flatMap Pr.cells)), (false, soft wsrc (ws.map bv))]
theorem revs_lit (k c b : Nat) (r : Int) (w : World) (H : St [] w w [(false, .row (some k) 2 1 1 c [i8 r]), (false, .is b (.cells #[i8 r] 2 (0, 0)))]) :
    Calls Try.prog 12 #[.slice (at0 k) 1 c, .slice (at0 b) 1 1] w fun e w' => e = .returned (.bool true) ∧ Ext [] w w' := by
  have h := revs_calls [r] [r] _ _ 1 1 c 1 rfl rfl (by omega) w (lies_of_row1 (H.get (Split.here _ _))) (lies_lit (xs := [r].map i8) (H.get (Split.there _ (Split.here _ _))))
  rw [decide_eq_true rfl] at h
  exact h
def AtM2 (h : KH) (h2 : KH) (L : List Pr) (W : List Int) (j bb b6 b11 : Nat) (kl ko : Option Nat) (sw : Option Addr) (cl co : Nat) (w : World) (i : Value) (wr : World) : Prop := ∃ t : Nat, t ≤ 2 ∧ i = .int .i64 t ∧
  St [] w wr [(false, .is bb (.cells #[sl kl j cl, sl ko j co] 25 (0, 0))), (true, .row kl 29 6 j cl (L.flatMap Pr.cells)), (true, .row ko 29 6 j co (L.reverse.flatMap Pr.cells)), (false, soft sw (W.map uv)), (false, .is b6 (ckO h)), (false, .is b11 (ckO h2))]
def AtWn (n : Nat) (Lx : List Ent) (w : World) (i : Value) (wr : World) : Prop := ∃ t : Nat, t ≤ n ∧ i = .int .i64 t ∧ St [] w wr Lx
def AtFi (n : Nat) (ls : List Int) (id : Int) (Lx : List Ent) (w : World) (f i : Value) (wr : World) : Prop := ∃ t : Nat, t ≤ n ∧ f = .bool (decide (id ∈ ls.take t)) ∧ i = .int .i64 t ∧ St [] w wr Lx
theorem wrongs_rev (own : Int) (h2 : KH) (H : Int) (X : List Pr) : (wrongs own h2 H X.reverse).Perm (wrongs own h2 H X) := by
  refine List.Perm.map _ (List.Perm.filter _ ?_)
  unfold prs
  refine List.Perm.cons _ ?_
  rw [List.filter_reverse, List.map_reverse]
  exact List.reverse_perm _
set_option maxRecDepth 8000 in
set_option maxHeartbeats 32000000 in
theorem major_calls (own : Int) (h : KH) (hh : Hid (0 ≤ h.hash ∧ h.hash < 4294967296)) (psrc wsrc : Option Addr) (c wc : Nat) (ps : List Pr) (ws : List Bool) (n m : Nat) (self : Bool) (hn : Hid (ps.length = n)) (hm : Hid (ws.length = m)) (hcp : n ≤ c) (w : World) (H : St [] w w [(false, soft psrc (ps.flatMap Pr.cells)), (false, soft wsrc (ws.map bv))]) :
    Calls Try.prog 5 #[.int .u64 own, h.val, .slice psrc n c, .slice wsrc m wc, .bool self] w fun e w' => e = .returned (.bool true) ∧ Ext [] w w' := by
  obtain ⟨fh, fc, fr⟩ := h
  by_cases hbig : 2147483647 < (n : Int)
  · go_enter Try.func5, Try.ntmps5
    repeat' (first | (go_big_may; (first
    | ((first
        | (refine loud_ rfl ?_; refine wpList_plain rfl (fun K hK => ?_); (first | (refine op_box _ _ rfl H (fun b w' H1 => hK _ _ ?_)) | (refine op_alloc _ rfl (zero_of _ _ rfl) H (fun b w' H1 => hK _ _ ?_)) | (refine op_store _ _ _ rfl rfl rfl H (by repeat (first | exact Split.here _ _ | apply Split.there)) (by kernel_rfl) (by kernel_rfl) (by kernel_rfl) (fun w' H1 => hK _ _ ?_)) | (refine op_buildSlice_all _ _ _ rfl (by first | exact elem25 | exact elem32 | exact elem35 | exact elem36 | exact elem37 | exact elem38 | exact elem41 | exact elem42 | exact elem45 | exact elem57 | exact elem62 | exact elem74 | exact elem98 | exact elem100 | exact elem137 | exact elem178 | exact elem179) (by kernel_rfl) (by kernel_rfl) (by kernel_rfl) H (fun b w' H1 => hK _ _ ?_))); clear hK K; replace H := H1; clear H1)); (try clear hc); (try simp only [nrm, splice, Value.cells, Nat.reduceAdd, Act.eval, Act.put] at H); have hc := H.cells; simp only [CellsOf, KnCells, knc, Nat.reduceAdd] at hc))) | go_values | go_skip | go_guarded | go_step | go_upon | go_back | dsimp only)
    go_ret
    exact ⟨rfl, H.ext⟩
  by_cases hbig2 : 2147483647 < (m : Int)
  · go_enter Try.func5, Try.ntmps5
    repeat' (first | (go_big_may; (first
    | ((first
        | (refine loud_ rfl ?_; refine wpList_plain rfl (fun K hK => ?_); (first | (refine op_box _ _ rfl H (fun b w' H1 => hK _ _ ?_)) | (refine op_alloc _ rfl (zero_of _ _ rfl) H (fun b w' H1 => hK _ _ ?_)) | (refine op_store _ _ _ rfl rfl rfl H (by repeat (first | exact Split.here _ _ | apply Split.there)) (by kernel_rfl) (by kernel_rfl) (by kernel_rfl) (fun w' H1 => hK _ _ ?_)) | (refine op_buildSlice_all _ _ _ rfl (by first | exact elem25 | exact elem32 | exact elem35 | exact elem36 | exact elem37 | exact elem38 | exact elem41 | exact elem42 | exact elem45 | exact elem57 | exact elem62 | exact elem74 | exact elem98 | exact elem100 | exact elem137 | exact elem178 | exact elem179) (by kernel_rfl) (by kernel_rfl) (by kernel_rfl) H (fun b w' H1 => hK _ _ ?_))); clear hK K; replace H := H1; clear H1)); (try clear hc); (try simp only [nrm, splice, Value.cells, Nat.reduceAdd, Act.eval, Act.put] at H); have hc := H.cells; simp only [CellsOf, KnCells, knc, Nat.reduceAdd] at hc))) | go_values | go_skip | go_guarded | go_step | go_upon | go_back | dsimp only)
    go_ret
    exact ⟨rfl, H.ext⟩
  have hl : n ≤ 2147483647 := by omega
  go_enter Try.func5, Try.ntmps5
  repeat' (first | (go_big_may; (first
    | ((first
        | (refine loud_ rfl ?_; refine wpList_plain rfl (fun K hK => ?_); (first | (refine op_box _ _ rfl H (fun b w' H1 => hK _ _ ?_)) | (refine op_alloc _ rfl (zero_of _ _ rfl) H (fun b w' H1 => hK _ _ ?_)) | (refine op_store _ _ _ rfl rfl rfl H (by repeat (first | exact Split.here _ _ | apply Split.there)) (by kernel_rfl) (by kernel_rfl) (by kernel_rfl) (fun w' H1 => hK _ _ ?_)) | (refine op_buildSlice_all _ _ _ rfl (by first | exact elem25 | exact elem32 | exact elem35 | exact elem36 | exact elem37 | exact elem38 | exact elem41 | exact elem42 | exact elem45 | exact elem57 | exact elem62 | exact elem74 | exact elem98 | exact elem100 | exact elem137 | exact elem178 | exact elem179) (by kernel_rfl) (by kernel_rfl) (by kernel_rfl) H (fun b w' H1 => hK _ _ ?_))); clear hK K; replace H := H1; clear H1)); (try clear hc); (try simp only [nrm, splice, Value.cells, Nat.reduceAdd, Act.eval, Act.put] at H); have hc := H.cells; simp only [CellsOf, KnCells, knc, Nat.reduceAdd] at hc))) | go_values | go_skip | go_guarded | go_step | go_upon | go_back | dsimp only)
  go_at_call 7
  refine Calls.mono (pgood_calls own psrc c ps n hn hl hcp _ (H.pick (by repeat (first | exact Picks.nil _ | (apply Picks.wr; focus (repeat (first | exact Split.here _ _ | apply Split.there))) | (apply Picks.rd; focus (repeat (first | exact Split.here _ _ | apply Split.there))))))) ?_
  rintro e9 w' ⟨t, rfl, H', hgood⟩
  replace H := H.of_ext H'
  clear H'
  (try clear hc)
  (try simp only [nrm, splice, Value.cells, Nat.reduceAdd, Act.eval, Act.put] at H); have hc := H.cells; simp only [CellsOf, KnCells, knc, Nat.reduceAdd] at hc
  cases t with
  | false =>
    repeat' (first | (go_big_may; (first
    | ((first
        | (refine loud_ rfl ?_; refine wpList_plain rfl (fun K hK => ?_); (first | (refine op_box _ _ rfl H (fun b w' H1 => hK _ _ ?_)) | (refine op_alloc _ rfl (zero_of _ _ rfl) H (fun b w' H1 => hK _ _ ?_)) | (refine op_store _ _ _ rfl rfl rfl H (by repeat (first | exact Split.here _ _ | apply Split.there)) (by kernel_rfl) (by kernel_rfl) (by kernel_rfl) (fun w' H1 => hK _ _ ?_)) | (refine op_buildSlice_all _ _ _ rfl (by first | exact elem25 | exact elem32 | exact elem35 | exact elem36 | exact elem37 | exact elem38 | exact elem41 | exact elem42 | exact elem45 | exact elem57 | exact elem62 | exact elem74 | exact elem98 | exact elem100 | exact elem137 | exact elem178 | exact elem179) (by kernel_rfl) (by kernel_rfl) (by kernel_rfl) H (fun b w' H1 => hK _ _ ?_))); clear hK K; replace H := H1; clear H1)); (try clear hc); (try simp only [nrm, splice, Value.cells, Nat.reduceAdd, Act.eval, Act.put] at H); have hc := H.cells; simp only [CellsOf, KnCells, knc, Nat.reduceAdd] at hc))) | go_values | go_skip | go_guarded | go_step | go_upon | go_back | dsimp only)
    go_ret
    exact ⟨rfl, H.ext⟩
  | true =>
    have hg := hgood rfl
    clear hgood
    have hn12 : n ≤ 12 := by have := hg.few; rw [hn.out] at this; exact this
    clear hg
    by_cases c1 : (m : Int) < (n : Int)
    · repeat' (first | (go_big_may; (first
    | ((first
        | (refine loud_ rfl ?_; refine wpList_plain rfl (fun K hK => ?_); (first | (refine op_box _ _ rfl H (fun b w' H1 => hK _ _ ?_)) | (refine op_alloc _ rfl (zero_of _ _ rfl) H (fun b w' H1 => hK _ _ ?_)) | (refine op_store _ _ _ rfl rfl rfl H (by repeat (first | exact Split.here _ _ | apply Split.there)) (by kernel_rfl) (by kernel_rfl) (by kernel_rfl) (fun w' H1 => hK _ _ ?_)) | (refine op_buildSlice_all _ _ _ rfl (by first | exact elem25 | exact elem32 | exact elem35 | exact elem36 | exact elem37 | exact elem38 | exact elem41 | exact elem42 | exact elem45 | exact elem57 | exact elem62 | exact elem74 | exact elem98 | exact elem100 | exact elem137 | exact elem178 | exact elem179) (by kernel_rfl) (by kernel_rfl) (by kernel_rfl) H (fun b w' H1 => hK _ _ ?_))); clear hK K; replace H := H1; clear H1)); (try clear hc); (try simp only [nrm, splice, Value.cells, Nat.reduceAdd, Act.eval, Act.put] at H); have hc := H.cells; simp only [CellsOf, KnCells, knc, Nat.reduceAdd] at hc))) | go_values | go_skip | go_guarded | go_step | go_upon | go_back | dsimp only)
      go_ret
      exact ⟨rfl, H.ext⟩
    by_cases c2 : fr < 1
    · repeat' (first | (go_big_may; (first
    | ((first
        | (refine loud_ rfl ?_; refine wpList_plain rfl (fun K hK => ?_); (first | (refine op_box _ _ rfl H (fun b w' H1 => hK _ _ ?_)) | (refine op_alloc _ rfl (zero_of _ _ rfl) H (fun b w' H1 => hK _ _ ?_)) | (refine op_store _ _ _ rfl rfl rfl H (by repeat (first | exact Split.here _ _ | apply Split.there)) (by kernel_rfl) (by kernel_rfl) (by kernel_rfl) (fun w' H1 => hK _ _ ?_)) | (refine op_buildSlice_all _ _ _ rfl (by first | exact elem25 | exact elem32 | exact elem35 | exact elem36 | exact elem37 | exact elem38 | exact elem41 | exact elem42 | exact elem45 | exact elem57 | exact elem62 | exact elem74 | exact elem98 | exact elem100 | exact elem137 | exact elem178 | exact elem179) (by kernel_rfl) (by kernel_rfl) (by kernel_rfl) H (fun b w' H1 => hK _ _ ?_))); clear hK K; replace H := H1; clear H1)); (try clear hc); (try simp only [nrm, splice, Value.cells, Nat.reduceAdd, Act.eval, Act.put] at H); have hc := H.cells; simp only [CellsOf, KnCells, knc, Nat.reduceAdd] at hc))) | go_values | go_skip | go_guarded | go_step | go_upon | go_back | dsimp only)
      go_ret
      exact ⟨rfl, H.ext⟩
    by_cases c3 : fr = 9223372036854775807
    · subst c3
      repeat' (first | (go_big_may; (first
    | ((first
        | (refine loud_ rfl ?_; refine wpList_plain rfl (fun K hK => ?_); (first | (refine op_box _ _ rfl H (fun b w' H1 => hK _ _ ?_)) | (refine op_alloc _ rfl (zero_of _ _ rfl) H (fun b w' H1 => hK _ _ ?_)) | (refine op_store _ _ _ rfl rfl rfl H (by repeat (first | exact Split.here _ _ | apply Split.there)) (by kernel_rfl) (by kernel_rfl) (by kernel_rfl) (fun w' H1 => hK _ _ ?_)) | (refine op_buildSlice_all _ _ _ rfl (by first | exact elem25 | exact elem32 | exact elem35 | exact elem36 | exact elem37 | exact elem38 | exact elem41 | exact elem42 | exact elem45 | exact elem57 | exact elem62 | exact elem74 | exact elem98 | exact elem100 | exact elem137 | exact elem178 | exact elem179) (by kernel_rfl) (by kernel_rfl) (by kernel_rfl) H (fun b w' H1 => hK _ _ ?_))); clear hK K; replace H := H1; clear H1)); (try clear hc); (try simp only [nrm, splice, Value.cells, Nat.reduceAdd, Act.eval, Act.put] at H); have hc := H.cells; simp only [CellsOf, KnCells, knc, Nat.reduceAdd] at hc))) | go_values | go_skip | go_guarded | go_step | go_upon | go_back | dsimp only)
      go_ret
      exact ⟨rfl, H.ext⟩
    by_cases c4 : n = 0
    · subst c4
      repeat' (first | (go_big_may; (first
    | ((first
        | (refine loud_ rfl ?_; refine wpList_plain rfl (fun K hK => ?_); (first | (refine op_box _ _ rfl H (fun b w' H1 => hK _ _ ?_)) | (refine op_alloc _ rfl (zero_of _ _ rfl) H (fun b w' H1 => hK _ _ ?_)) | (refine op_store _ _ _ rfl rfl rfl H (by repeat (first | exact Split.here _ _ | apply Split.there)) (by kernel_rfl) (by kernel_rfl) (by kernel_rfl) (fun w' H1 => hK _ _ ?_)) | (refine op_buildSlice_all _ _ _ rfl (by first | exact elem25 | exact elem32 | exact elem35 | exact elem36 | exact elem37 | exact elem38 | exact elem41 | exact elem42 | exact elem45 | exact elem57 | exact elem62 | exact elem74 | exact elem98 | exact elem100 | exact elem137 | exact elem178 | exact elem179) (by kernel_rfl) (by kernel_rfl) (by kernel_rfl) H (fun b w' H1 => hK _ _ ?_))); clear hK K; replace H := H1; clear H1)); (try clear hc); (try simp only [nrm, splice, Value.cells, Nat.reduceAdd, Act.eval, Act.put] at H); have hc := H.cells; simp only [CellsOf, KnCells, knc, Nat.reduceAdd] at hc))) | go_values | go_skip | go_guarded | go_step | go_upon | go_back | dsimp only)
      go_ret
      exact ⟨rfl, H.ext⟩
    have c4' : ¬ (n : Int) = 0 := by omega
    obtain ⟨b6, rfl⟩ : ∃ q, q = b := ⟨_, rfl⟩
    have c3b : (fr == 9223372036854775807) = false := by simp [c3]
    have c4b : ((n : Int) == 0) = false := by simp [c4]
    have hstart : Hid (∀ (x : Int) (W : List Int), W = (if x ≠ fh then [own] else []) → MjIs own ⟨x, fc, fr⟩ fh [] W 0) := by
      rintro x W rfl
      refine ⟨rfl, by simp, ?_⟩
      by_cases e : x = fh
      · simp [prs, e]
      · simp [prs, e]
    have hh1 := hh.out.1
    have hh2 := hh.out.2
    simp only at hh1 hh2
    replace H := H.nilRow 27 1
    cases self with
    | false =>
      repeat' (first | (go_big_may; (first
    | ((first
        | (refine loud_ rfl ?_; refine wpList_plain rfl (fun K hK => ?_); (first | (refine op_box _ _ rfl H (fun b w' H1 => hK _ _ ?_)) | (refine op_alloc _ rfl (zero_of _ _ rfl) H (fun b w' H1 => hK _ _ ?_)) | (refine op_store _ _ _ rfl rfl rfl H (by repeat (first | exact Split.here _ _ | apply Split.there)) (by kernel_rfl) (by kernel_rfl) (by kernel_rfl) (fun w' H1 => hK _ _ ?_)) | (refine op_buildSlice_all _ _ _ rfl (by first | exact elem25 | exact elem32 | exact elem35 | exact elem36 | exact elem37 | exact elem38 | exact elem41 | exact elem42 | exact elem45 | exact elem57 | exact elem62 | exact elem74 | exact elem98 | exact elem100 | exact elem137 | exact elem178 | exact elem179) (by kernel_rfl) (by kernel_rfl) (by kernel_rfl) H (fun b w' H1 => hK _ _ ?_))); clear hK K; replace H := H1; clear H1)); (try clear hc); (try simp only [nrm, splice, Value.cells, Nat.reduceAdd, Act.eval, Act.put] at H); have hc := H.cells; simp only [CellsOf, KnCells, knc, Nat.reduceAdd] at hc))) | go_values | go_skip | go_guarded | go_step | go_upon | go_back | dsimp only)
      obtain ⟨b11, rfl⟩ : ∃ q, q = b := ⟨_, rfl⟩
      have H1 := (H.ro (k := .is b11 _) (by repeat (first | exact Split.here _ _ | apply Split.there)))
      (try simp only [List.append, List.cons_append, List.nil_append] at H1)
      have H2 := (H1.ro (k := .is b6 _) (by repeat (first | exact Split.here _ _ | apply Split.there)))
      (try simp only [List.append, List.cons_append, List.nil_append] at H2)
      have hA0 : AtMj n own ⟨fh, fc, fr⟩ ⟨fh, fc, fr⟩ psrc ps wsrc ws b6 b11 w (.slice none 0 0) (.slice none 0 0) (.slice none 0 0) (.int .i64 0) w' :=
        ⟨0, [], [], 0, none, none, none, 0, 0, 0, Nat.zero_le _, rfl, rfl, rfl, rfl, by omega, ⟨hstart.out fh [] (by simp), rfl⟩, ((H2.nilRow 29 6).nilRow 29 6).sel (by repeat (first | exact Sel.nil _ | (apply Sel.cons; focus (repeat (first | exact Split.here _ _ | apply Split.there)))))⟩
      clear H H1 H2 hc
      go_loopw [12, 13, 14, 72] (AtMj n own ⟨fh, fc, fr⟩ ⟨fh, fc, fr⟩ psrc ps wsrc ws b6 b11 w) (fun _ _ _ i _ => n - (intOf i).toNat)
      case atStart => exact hA0
      case round =>
        clear hA0
        obtain ⟨j, L, W, wl, kl, ko, kw, cl, co, cw, hj, rfl, rfl, rfl, rfl, hwl, hmj, H⟩ := hrel
        by_cases hlt : j < n
        · have hj' : j < ps.length := by rw [hn.out]; exact hlt
          have hw' : j < ws.length := by rw [hm.out]; omega
          obtain ⟨b1, o1, rfl, H1⟩ := H.elemSoft (Split.there _ (Split.there _ (Split.there _ (Split.there _ (Split.there _ (Split.here _ _)))))) (j * 6) (ps[j]).cells (by show 0 < 6; omega) (by rw [pr_len]; show _ + 6 ≤ _; omega) (fun i hi => flat_at Pr.cells 6 ps (fun _ _ => rfl) j i hj' hi)
          obtain ⟨b2, o2, rfl, H2⟩ := H1.elemSoft (Split.there _ (Split.there _ (Split.there _ (Split.there _ (Split.there _ (Split.there _ (Split.there _ (Split.here _ _)))))))) j [bv ws[j]] (by show 0 < 1; omega) (by rw [List.length_map, hm.out]; show j + 1 ≤ m; omega) (by
            intro i hi
            have : i = 0 := by simp at hi; omega
            subst this
            simp [hw'])
          clear H H1
          have H := H2
          clear H2
          generalize ps[j] = p at *
          generalize ws[j] = wg at *
          obtain ⟨id, has, hash, compact, rev, err⟩ := p
          simp only [Pr.cells] at H
          clear hj' hw'
          have hnil : Hid ((ko.map fun b => (⟨b, 0, none⟩ : Addr)) = none → j = 0) := by
            intro h9
            have := H.get (k := .row ko 29 6 j co (L.reverse.flatMap Pr.cells)) (by repeat (first | exact Split.here _ _ | apply Split.there))
            cases ko with
            | none => exact this.1
            | some b => cases h9
          have hjm : j < m := by omega
          cases wg
          · have hc := H.cells; simp only [CellsOf, KnCells, knc, Nat.reduceAdd] at hc
            repeat' (first | (go_big_may; (first
    | ((first
        | (refine loud_ rfl ?_; refine wpList_plain rfl (fun K hK => ?_); (first | (refine op_box _ _ rfl H (fun b w' H1 => hK _ _ ?_)) | (refine op_alloc _ rfl (zero_of _ _ rfl) H (fun b w' H1 => hK _ _ ?_)) | (refine op_store _ _ _ rfl rfl rfl H (by repeat (first | exact Split.here _ _ | apply Split.there)) (by kernel_rfl) (by kernel_rfl) (by kernel_rfl) (fun w' H1 => hK _ _ ?_)) | (refine op_buildSlice_all _ _ _ rfl (by first | exact elem25 | exact elem32 | exact elem35 | exact elem36 | exact elem37 | exact elem38 | exact elem41 | exact elem42 | exact elem45 | exact elem57 | exact elem62 | exact elem74 | exact elem98 | exact elem100 | exact elem137 | exact elem178 | exact elem179) (by kernel_rfl) (by kernel_rfl) (by kernel_rfl) H (fun b w' H1 => hK _ _ ?_))); clear hK K; replace H := H1; clear H1)); (try clear hc); (try simp only [nrm, splice, Value.cells, Nat.reduceAdd, Act.eval, Act.put] at H); have hc := H.cells; simp only [CellsOf, KnCells, knc, Nat.reduceAdd] at hc))) | go_values | go_skip | go_guarded | go_step | go_upon | go_back | dsimp only)
            (try simp only [Act.put, slt])
            refine wp_region_plan_sub (.p [0] (.q [1] (.p [2] (.q [3] (.p [4] (.e 5 (.p [6] (.e 7 (.p [8] (.e 9 .done)))))))))) [9] (by kernel_rfl) (by kernel_rfl) (fun _ _ d _ _ h => by cases d <;> exact h) H (List.Sublist.cons _ (List.Sublist.refl _)) ?_
            clear H
            (try clear hc)
            intro X nX fX wd hcf hS H
            simp only [CellsOf, KnCells, knc, Nat.reduceAdd] at hcf
            have hc := H.cells
            simp only [CellsOf, KnCells, knc, Nat.reduceAdd] at hc
            iterate 1 (refine plan_p (o := ⟨_, _, _, _, _, _⟩) rfl (fun N hN => ?_); go_big_quiet_step (fail); refine wpQuiet_nil (hN _ ?_); clear hN N)
            refine plan_p0 ?_
            iterate 1 (refine plan_q (o := ⟨_, _, _, _, _, _⟩) rfl (fun N hN => ?_); go_big_quiet_step (fail); refine wpQuiet_nil (hN _ ?_); clear hN N)
            refine plan_q0 ?_
            iterate 1 (refine plan_p (o := ⟨_, _, _, _, _, _⟩) rfl (fun N hN => ?_); go_big_quiet_step (fail); refine wpQuiet_nil (hN _ ?_); clear hN N)
            refine plan_p0 ?_
            iterate 1 (refine plan_q (o := ⟨_, _, _, _, _, _⟩) rfl (fun N hN => ?_); go_big_quiet_step (fail); refine wpQuiet_nil (hN _ ?_); clear hN N)
            refine plan_q0 ?_
            iterate 1 (refine plan_p (o := ⟨_, _, _, _, _, _⟩) rfl (fun N hN => ?_); go_big_quiet_step (fail); refine wpQuiet_nil (hN _ ?_); clear hN N)
            refine plan_p0 ?_
            refine plan_e (o := ⟨_, _, _, _, _, _⟩) rfl rfl (fun K hK => ?_)
            (first | (refine op_box _ _ rfl H (fun b w' H1 => ?_); replace H := H1; clear H1) | (refine op_alloc _ rfl (zero_of _ _ rfl) H (fun b w' H1 => ?_); replace H := H1; clear H1) | (refine op_store _ _ _ rfl rfl rfl H (by repeat (first | exact Split.here _ _ | apply Split.there)) (by kernel_rfl) (by kernel_rfl) (by kernel_rfl) (fun w' H1 => ?_); replace H := H1; clear H1) | (refine op_buildSlice_all _ _ _ rfl (by first | exact elem25 | exact elem32 | exact elem35 | exact elem36 | exact elem37 | exact elem38 | exact elem41 | exact elem42 | exact elem45 | exact elem57 | exact elem62 | exact elem74 | exact elem98 | exact elem100 | exact elem137 | exact elem178 | exact elem179) (by kernel_rfl) (by kernel_rfl) (by kernel_rfl) H (fun b w' H1 => ?_); replace H := H1; clear H1)); (try clear hc); (try simp only [nrm, splice, Value.cells, Nat.reduceAdd, Act.eval, Act.put] at H); have hc := H.cells; simp only [CellsOf, KnCells, knc, Nat.reduceAdd] at hc; refine hK _ _ (fun _ _ => hS _ (H.sublist (by repeat (first | exact List.Sublist.refl _ | exact List.nil_sublist _ | apply List.Sublist.cons_cons | apply List.Sublist.cons))).all) ?_; clear hK K; (try simp only [Act.put, slt])
            iterate 1 (refine plan_p (o := ⟨_, _, _, _, _, _⟩) rfl (fun N hN => ?_); go_big_quiet_step (fail); refine wpQuiet_nil (hN _ ?_); clear hN N)
            refine plan_p0 ?_
            refine plan_e (o := ⟨_, _, _, _, _, _⟩) rfl rfl (fun K hK => ?_)
            (first | (refine op_box _ _ rfl H (fun b w' H1 => ?_); replace H := H1; clear H1) | (refine op_alloc _ rfl (zero_of _ _ rfl) H (fun b w' H1 => ?_); replace H := H1; clear H1) | (refine op_store _ _ _ rfl rfl rfl H (by repeat (first | exact Split.here _ _ | apply Split.there)) (by kernel_rfl) (by kernel_rfl) (by kernel_rfl) (fun w' H1 => ?_); replace H := H1; clear H1) | (refine op_buildSlice_all _ _ _ rfl (by first | exact elem25 | exact elem32 | exact elem35 | exact elem36 | exact elem37 | exact elem38 | exact elem41 | exact elem42 | exact elem45 | exact elem57 | exact elem62 | exact elem74 | exact elem98 | exact elem100 | exact elem137 | exact elem178 | exact elem179) (by kernel_rfl) (by kernel_rfl) (by kernel_rfl) H (fun b w' H1 => ?_); replace H := H1; clear H1)); (try clear hc); (try simp only [nrm, splice, Value.cells, Nat.reduceAdd, Act.eval, Act.put] at H); have hc := H.cells; simp only [CellsOf, KnCells, knc, Nat.reduceAdd] at hc; refine hK _ _ (fun _ _ => hS _ (H.sublist (by repeat (first | exact List.Sublist.refl _ | exact List.nil_sublist _ | apply List.Sublist.cons_cons | apply List.Sublist.cons))).all) ?_; clear hK K; (try simp only [Act.put, slt])
            iterate 1 (refine plan_p (o := ⟨_, _, _, _, _, _⟩) rfl (fun N hN => ?_); go_big_quiet_step (fail); refine wpQuiet_nil (hN _ ?_); clear hN N)
            refine plan_p0 ?_
            refine plan_e (o := ⟨_, _, _, _, _, _⟩) rfl rfl (fun K hK => ?_)
            (first | (refine op_box _ _ rfl H (fun b w' H1 => ?_); replace H := H1; clear H1) | (refine op_alloc _ rfl (zero_of _ _ rfl) H (fun b w' H1 => ?_); replace H := H1; clear H1) | (refine op_store _ _ _ rfl rfl rfl H (by repeat (first | exact Split.here _ _ | apply Split.there)) (by kernel_rfl) (by kernel_rfl) (by kernel_rfl) (fun w' H1 => ?_); replace H := H1; clear H1) | (refine op_buildSlice_all _ _ _ rfl (by first | exact elem25 | exact elem32 | exact elem35 | exact elem36 | exact elem37 | exact elem38 | exact elem41 | exact elem42 | exact elem45 | exact elem57 | exact elem62 | exact elem74 | exact elem98 | exact elem100 | exact elem137 | exact elem178 | exact elem179) (by kernel_rfl) (by kernel_rfl) (by kernel_rfl) H (fun b w' H1 => ?_); replace H := H1; clear H1)); (try clear hc); (try simp only [nrm, splice, Value.cells, Nat.reduceAdd, Act.eval, Act.put] at H); have hc := H.cells; simp only [CellsOf, KnCells, knc, Nat.reduceAdd] at hc; refine hK _ _ (fun h => (h (by decide)).elim) ?_; clear hK K; (try simp only [Act.put, slt])
            refine plan_done ?_
            repeat' (first | (go_big_may; (first
    | ((first
        | (refine loud_ rfl ?_; refine wpList_plain rfl (fun K hK => ?_); (first | (refine op_append_lit _ _ _ rfl elem32 (key := kw) (n := wl) (cap := cw) rfl rfl H (by repeat (first | exact Split.here _ _ | apply Split.there)) (by repeat (first | exact Split.here _ _ | apply Split.there)) (by kernel_rfl) (by kernel_rfl) (by omega) (by unfold maxLen; omega) (fun key3 cap3 w' H1 => hK _ _ ?_)) | (refine op_append_lit _ _ _ rfl elem25 (key := kl) (n := j) (cap := cl) rfl rfl H (by repeat (first | exact Split.here _ _ | apply Split.there)) (by repeat (first | exact Split.here _ _ | apply Split.there)) (by kernel_rfl) (by kernel_rfl) (by omega) (by unfold maxLen; omega) (fun key4 cap4 w' H1 => hK _ _ ?_)) | (refine op_append_lies _ _ _ rfl elem25 (key := some b) (n := 1) (cap := 1) (m := j) (ys := L.reverse.flatMap Pr.cells) rfl rfl (lit_rowN 6 H (b := b) (by repeat (first | exact Split.here _ _ | apply Split.there)) rfl) (Split.here _ _) (lies_of_row1 (H.get (k := .row ko 29 6 j co (L.reverse.flatMap Pr.cells)) (by repeat (first | exact Split.here _ _ | apply Split.there)))) (by rw [pr_len, List.length_reverse, hmj.out.1.1]) hnil.out (pr_ones _) (by omega) (by unfold maxLen; omega) (fun key2 cap2 w' H1 => hK _ _ ?_)) | (refine op_box _ _ rfl H (fun b w' H1 => hK _ _ ?_)) | (refine op_alloc _ rfl (zero_of _ _ rfl) H (fun b w' H1 => hK _ _ ?_)) | (refine op_store _ _ _ rfl rfl rfl H (by repeat (first | exact Split.here _ _ | apply Split.there)) (by kernel_rfl) (by kernel_rfl) (by kernel_rfl) (fun w' H1 => hK _ _ ?_)) | (refine op_buildSlice_all _ _ _ rfl (by first | exact elem25 | exact elem32 | exact elem35 | exact elem36 | exact elem37 | exact elem38 | exact elem41 | exact elem42 | exact elem45 | exact elem57 | exact elem62 | exact elem74 | exact elem98 | exact elem100 | exact elem137 | exact elem178 | exact elem179) (by kernel_rfl) (by kernel_rfl) (by kernel_rfl) H (fun b w' H1 => hK _ _ ?_))); clear hK K; replace H := H1; clear H1)); (try clear hc); (try simp only [nrm, splice, Value.cells, Nat.reduceAdd, Act.eval, Act.put] at H); have hc := H.cells; simp only [CellsOf, KnCells, knc, Nat.reduceAdd] at hc))) | go_values | go_skip | go_guarded | go_step | go_upon | go_back | dsimp only)
            have hp9 := mj_snoc hmj.out.1 ⟨id, true, fh, fc, rev, err⟩ ⟨rfl, rfl⟩
            rw [if_neg (by simp), List.append_nil] at hp9
            have e1 : (L ++ [(⟨id, true, fh, fc, rev, err⟩ : Pr)]).flatMap Pr.cells = L.flatMap Pr.cells ++ [.int .u64 id, .bool true, .int .u32 fh, .int .i64 fc, .int .i64 rev, .int .i64 err] := by simp [Pr.cells]
            have e2 : (L ++ [(⟨id, true, fh, fc, rev, err⟩ : Pr)]).reverse.flatMap Pr.cells = .int .u64 id :: .bool true :: .int .u32 fh :: .int .i64 fc :: .int .i64 rev :: .int .i64 err :: L.reverse.flatMap Pr.cells := by simp [Pr.cells]
            simp only [Nat.add_comm 1 j] at H ⊢
            refine ⟨⟨j + 1, L ++ [⟨id, true, fh, fc, rev, err⟩], W, wl, key4, key2, kw, cap4, cap2, cw, by omega, by go_num, rfl, rfl, rfl, by omega, ⟨hp9, hmj.out.2⟩, ?_⟩, by simp [intOf]; omega⟩
            rw [e1, e2]
            exact H.sel (by repeat (first | exact Sel.nil _ | (apply Sel.cons; focus (repeat (first | exact Split.here _ _ | apply Split.there)))))
          · have hc := H.cells; simp only [CellsOf, KnCells, knc, Nat.reduceAdd] at hc
            repeat' (first | (go_big_may; (first
    | ((first
        | (refine loud_ rfl ?_; refine wpList_plain rfl (fun K hK => ?_); (first | (refine op_box _ _ rfl H (fun b w' H1 => hK _ _ ?_)) | (refine op_alloc _ rfl (zero_of _ _ rfl) H (fun b w' H1 => hK _ _ ?_)) | (refine op_store _ _ _ rfl rfl rfl H (by repeat (first | exact Split.here _ _ | apply Split.there)) (by kernel_rfl) (by kernel_rfl) (by kernel_rfl) (fun w' H1 => hK _ _ ?_)) | (refine op_buildSlice_all _ _ _ rfl (by first | exact elem25 | exact elem32 | exact elem35 | exact elem36 | exact elem37 | exact elem38 | exact elem41 | exact elem42 | exact elem45 | exact elem57 | exact elem62 | exact elem74 | exact elem98 | exact elem100 | exact elem137 | exact elem178 | exact elem179) (by kernel_rfl) (by kernel_rfl) (by kernel_rfl) H (fun b w' H1 => hK _ _ ?_))); clear hK K; replace H := H1; clear H1)); (try clear hc); (try simp only [nrm, splice, Value.cells, Nat.reduceAdd, Act.eval, Act.put] at H); have hc := H.cells; simp only [CellsOf, KnCells, knc, Nat.reduceAdd] at hc))) | go_values | go_skip | go_guarded | go_step | go_upon | go_back | dsimp only)
            (try simp only [Act.put, slt])
            refine wp_region_plan_sub (.p [0] (.q [1] (.p [2] (.q [3] (.p [4] (.e 5 (.p [6] (.e 7 (.p [8] (.e 9 .done)))))))))) [9] (by kernel_rfl) (by kernel_rfl) (fun _ _ d _ _ h => by cases d <;> exact h) H (List.Sublist.cons _ (List.Sublist.refl _)) ?_
            clear H
            (try clear hc)
            intro X nX fX wd hcf hS H
            simp only [CellsOf, KnCells, knc, Nat.reduceAdd] at hcf
            have hc := H.cells
            simp only [CellsOf, KnCells, knc, Nat.reduceAdd] at hc
            iterate 1 (refine plan_p (o := ⟨_, _, _, _, _, _⟩) rfl (fun N hN => ?_); go_big_quiet_step (fail); refine wpQuiet_nil (hN _ ?_); clear hN N)
            refine plan_p0 ?_
            iterate 1 (refine plan_q (o := ⟨_, _, _, _, _, _⟩) rfl (fun N hN => ?_); go_big_quiet_step (fail); refine wpQuiet_nil (hN _ ?_); clear hN N)
            refine plan_q0 ?_
            iterate 1 (refine plan_p (o := ⟨_, _, _, _, _, _⟩) rfl (fun N hN => ?_); go_big_quiet_step (fail); refine wpQuiet_nil (hN _ ?_); clear hN N)
            refine plan_p0 ?_
            iterate 1 (refine plan_q (o := ⟨_, _, _, _, _, _⟩) rfl (fun N hN => ?_); go_big_quiet_step (fail); refine wpQuiet_nil (hN _ ?_); clear hN N)
            refine plan_q0 ?_
            iterate 1 (refine plan_p (o := ⟨_, _, _, _, _, _⟩) rfl (fun N hN => ?_); go_big_quiet_step (fail); refine wpQuiet_nil (hN _ ?_); clear hN N)
            refine plan_p0 ?_
            refine plan_e (o := ⟨_, _, _, _, _, _⟩) rfl rfl (fun K hK => ?_)
            (first | (refine op_box _ _ rfl H (fun b w' H1 => ?_); replace H := H1; clear H1) | (refine op_alloc _ rfl (zero_of _ _ rfl) H (fun b w' H1 => ?_); replace H := H1; clear H1) | (refine op_store _ _ _ rfl rfl rfl H (by repeat (first | exact Split.here _ _ | apply Split.there)) (by kernel_rfl) (by kernel_rfl) (by kernel_rfl) (fun w' H1 => ?_); replace H := H1; clear H1) | (refine op_buildSlice_all _ _ _ rfl (by first | exact elem25 | exact elem32 | exact elem35 | exact elem36 | exact elem37 | exact elem38 | exact elem41 | exact elem42 | exact elem45 | exact elem57 | exact elem62 | exact elem74 | exact elem98 | exact elem100 | exact elem137 | exact elem178 | exact elem179) (by kernel_rfl) (by kernel_rfl) (by kernel_rfl) H (fun b w' H1 => ?_); replace H := H1; clear H1)); (try clear hc); (try simp only [nrm, splice, Value.cells, Nat.reduceAdd, Act.eval, Act.put] at H); have hc := H.cells; simp only [CellsOf, KnCells, knc, Nat.reduceAdd] at hc; refine hK _ _ (fun _ _ => hS _ (H.sublist (by repeat (first | exact List.Sublist.refl _ | exact List.nil_sublist _ | apply List.Sublist.cons_cons | apply List.Sublist.cons))).all) ?_; clear hK K; (try simp only [Act.put, slt])
            iterate 1 (refine plan_p (o := ⟨_, _, _, _, _, _⟩) rfl (fun N hN => ?_); go_big_quiet_step (fail); refine wpQuiet_nil (hN _ ?_); clear hN N)
            refine plan_p0 ?_
            refine plan_e (o := ⟨_, _, _, _, _, _⟩) rfl rfl (fun K hK => ?_)
            (first | (refine op_box _ _ rfl H (fun b w' H1 => ?_); replace H := H1; clear H1) | (refine op_alloc _ rfl (zero_of _ _ rfl) H (fun b w' H1 => ?_); replace H := H1; clear H1) | (refine op_store _ _ _ rfl rfl rfl H (by repeat (first | exact Split.here _ _ | apply Split.there)) (by kernel_rfl) (by kernel_rfl) (by kernel_rfl) (fun w' H1 => ?_); replace H := H1; clear H1) | (refine op_buildSlice_all _ _ _ rfl (by first | exact elem25 | exact elem32 | exact elem35 | exact elem36 | exact elem37 | exact elem38 | exact elem41 | exact elem42 | exact elem45 | exact elem57 | exact elem62 | exact elem74 | exact elem98 | exact elem100 | exact elem137 | exact elem178 | exact elem179) (by kernel_rfl) (by kernel_rfl) (by kernel_rfl) H (fun b w' H1 => ?_); replace H := H1; clear H1)); (try clear hc); (try simp only [nrm, splice, Value.cells, Nat.reduceAdd, Act.eval, Act.put] at H); have hc := H.cells; simp only [CellsOf, KnCells, knc, Nat.reduceAdd] at hc; refine hK _ _ (fun _ _ => hS _ (H.sublist (by repeat (first | exact List.Sublist.refl _ | exact List.nil_sublist _ | apply List.Sublist.cons_cons | apply List.Sublist.cons))).all) ?_; clear hK K; (try simp only [Act.put, slt])
            iterate 1 (refine plan_p (o := ⟨_, _, _, _, _, _⟩) rfl (fun N hN => ?_); go_big_quiet_step (fail); refine wpQuiet_nil (hN _ ?_); clear hN N)
            refine plan_p0 ?_
            refine plan_e (o := ⟨_, _, _, _, _, _⟩) rfl rfl (fun K hK => ?_)
            (first | (refine op_box _ _ rfl H (fun b w' H1 => ?_); replace H := H1; clear H1) | (refine op_alloc _ rfl (zero_of _ _ rfl) H (fun b w' H1 => ?_); replace H := H1; clear H1) | (refine op_store _ _ _ rfl rfl rfl H (by repeat (first | exact Split.here _ _ | apply Split.there)) (by kernel_rfl) (by kernel_rfl) (by kernel_rfl) (fun w' H1 => ?_); replace H := H1; clear H1) | (refine op_buildSlice_all _ _ _ rfl (by first | exact elem25 | exact elem32 | exact elem35 | exact elem36 | exact elem37 | exact elem38 | exact elem41 | exact elem42 | exact elem45 | exact elem57 | exact elem62 | exact elem74 | exact elem98 | exact elem100 | exact elem137 | exact elem178 | exact elem179) (by kernel_rfl) (by kernel_rfl) (by kernel_rfl) H (fun b w' H1 => ?_); replace H := H1; clear H1)); (try clear hc); (try simp only [nrm, splice, Value.cells, Nat.reduceAdd, Act.eval, Act.put] at H); have hc := H.cells; simp only [CellsOf, KnCells, knc, Nat.reduceAdd] at hc; refine hK _ _ (fun h => (h (by decide)).elim) ?_; clear hK K; (try simp only [Act.put, slt])
            refine plan_done ?_
            repeat' (first | (go_big_may; (first
    | ((first
        | (refine loud_ rfl ?_; refine wpList_plain rfl (fun K hK => ?_); (first | (refine op_append_lit _ _ _ rfl elem32 (key := kw) (n := wl) (cap := cw) rfl rfl H (by repeat (first | exact Split.here _ _ | apply Split.there)) (by repeat (first | exact Split.here _ _ | apply Split.there)) (by kernel_rfl) (by kernel_rfl) (by omega) (by unfold maxLen; omega) (fun key3 cap3 w' H1 => hK _ _ ?_)) | (refine op_append_lit _ _ _ rfl elem25 (key := kl) (n := j) (cap := cl) rfl rfl H (by repeat (first | exact Split.here _ _ | apply Split.there)) (by repeat (first | exact Split.here _ _ | apply Split.there)) (by kernel_rfl) (by kernel_rfl) (by omega) (by unfold maxLen; omega) (fun key4 cap4 w' H1 => hK _ _ ?_)) | (refine op_append_lies _ _ _ rfl elem25 (key := some b) (n := 1) (cap := 1) (m := j) (ys := L.reverse.flatMap Pr.cells) rfl rfl (lit_rowN 6 H (b := b) (by repeat (first | exact Split.here _ _ | apply Split.there)) rfl) (Split.here _ _) (lies_of_row1 (H.get (k := .row ko 29 6 j co (L.reverse.flatMap Pr.cells)) (by repeat (first | exact Split.here _ _ | apply Split.there)))) (by rw [pr_len, List.length_reverse, hmj.out.1.1]) hnil.out (pr_ones _) (by omega) (by unfold maxLen; omega) (fun key2 cap2 w' H1 => hK _ _ ?_)) | (refine op_box _ _ rfl H (fun b w' H1 => hK _ _ ?_)) | (refine op_alloc _ rfl (zero_of _ _ rfl) H (fun b w' H1 => hK _ _ ?_)) | (refine op_store _ _ _ rfl rfl rfl H (by repeat (first | exact Split.here _ _ | apply Split.there)) (by kernel_rfl) (by kernel_rfl) (by kernel_rfl) (fun w' H1 => hK _ _ ?_)) | (refine op_buildSlice_all _ _ _ rfl (by first | exact elem25 | exact elem32 | exact elem35 | exact elem36 | exact elem37 | exact elem38 | exact elem41 | exact elem42 | exact elem45 | exact elem57 | exact elem62 | exact elem74 | exact elem98 | exact elem100 | exact elem137 | exact elem178 | exact elem179) (by kernel_rfl) (by kernel_rfl) (by kernel_rfl) H (fun b w' H1 => hK _ _ ?_))); clear hK K; replace H := H1; clear H1)); (try clear hc); (try simp only [nrm, splice, Value.cells, Nat.reduceAdd, Act.eval, Act.put] at H); have hc := H.cells; simp only [CellsOf, KnCells, knc, Nat.reduceAdd] at hc))) | go_values | go_skip | go_guarded | go_step | go_upon | go_back | dsimp only)
            have hp9 := mj_snoc hmj.out.1 ⟨id, true, ((fh + 2 + (j : Int)) % 4294967296), fc, rev, err⟩ ⟨rfl, rfl⟩
            rw [if_pos (by show (fh + 2 + (j : Int)) % 4294967296 ≠ fh; omega)] at hp9
            have e1 : (L ++ [(⟨id, true, ((fh + 2 + (j : Int)) % 4294967296), fc, rev, err⟩ : Pr)]).flatMap Pr.cells = L.flatMap Pr.cells ++ [.int .u64 id, .bool true, .int .u32 ((fh + 2 + (j : Int)) % 4294967296), .int .i64 fc, .int .i64 rev, .int .i64 err] := by simp [Pr.cells]
            have e2 : (L ++ [(⟨id, true, ((fh + 2 + (j : Int)) % 4294967296), fc, rev, err⟩ : Pr)]).reverse.flatMap Pr.cells = .int .u64 id :: .bool true :: .int .u32 ((fh + 2 + (j : Int)) % 4294967296) :: .int .i64 fc :: .int .i64 rev :: .int .i64 err :: L.reverse.flatMap Pr.cells := by simp [Pr.cells]
            simp only [Nat.add_comm 1 j] at H ⊢
            refine ⟨⟨j + 1, L ++ [⟨id, true, ((fh + 2 + (j : Int)) % 4294967296), fc, rev, err⟩], (W ++ [id]), (wl + 1), key4, key2, key3, cap4, cap2, cap3, by omega, by go_num, rfl, rfl, rfl, by omega, ⟨hp9, by rw [List.length_append, hmj.out.2]; rfl⟩, ?_⟩, by simp [intOf]; omega⟩
            rw [e1, e2]
            rw [List.map_append, List.map_cons, List.map_nil]
            exact H.sel (by repeat (first | exact Sel.nil _ | (apply Sel.cons; focus (repeat (first | exact Split.here _ _ | apply Split.there)))))
        · obtain rfl : j = n := by omega
          by_cases c9 : (j : Int) + 1 ≤ 2 * (wl : Int)
          · have hc := H.cells; simp only [CellsOf, KnCells, knc, Nat.reduceAdd] at hc
            repeat' (first | (go_big_may; (first
    | ((first
        | (refine loud_ rfl ?_; refine wpList_plain rfl (fun K hK => ?_); (first | (refine op_box _ _ rfl H (fun b w' H1 => hK _ _ ?_)) | (refine op_alloc _ rfl (zero_of _ _ rfl) H (fun b w' H1 => hK _ _ ?_)) | (refine op_store _ _ _ rfl rfl rfl H (by repeat (first | exact Split.here _ _ | apply Split.there)) (by kernel_rfl) (by kernel_rfl) (by kernel_rfl) (fun w' H1 => hK _ _ ?_)) | (refine op_buildSlice_all _ _ _ rfl (by first | exact elem25 | exact elem32 | exact elem35 | exact elem36 | exact elem37 | exact elem38 | exact elem41 | exact elem42 | exact elem45 | exact elem57 | exact elem62 | exact elem74 | exact elem98 | exact elem100 | exact elem137 | exact elem178 | exact elem179) (by kernel_rfl) (by kernel_rfl) (by kernel_rfl) H (fun b w' H1 => hK _ _ ?_))); clear hK K; replace H := H1; clear H1)); (try clear hc); (try simp only [nrm, splice, Value.cells, Nat.reduceAdd, Act.eval, Act.put] at H); have hc := H.cells; simp only [CellsOf, KnCells, knc, Nat.reduceAdd] at hc))) | go_values | go_skip | go_guarded | go_step | go_upon | go_back | dsimp only)
            go_ret
            exact ⟨rfl, H.ext⟩
          · have hc := H.cells; simp only [CellsOf, KnCells, knc, Nat.reduceAdd] at hc
            repeat' (first | (go_big_may; (first
    | ((first
        | (refine loud_ rfl ?_; refine wpList_plain rfl (fun K hK => ?_); (first | (refine op_box _ _ rfl H (fun b w' H1 => hK _ _ ?_)) | (refine op_alloc _ rfl (zero_of _ _ rfl) H (fun b w' H1 => hK _ _ ?_)) | (refine op_store _ _ _ rfl rfl rfl H (by repeat (first | exact Split.here _ _ | apply Split.there)) (by kernel_rfl) (by kernel_rfl) (by kernel_rfl) (fun w' H1 => hK _ _ ?_)) | (refine op_buildSlice_all _ _ _ rfl (by first | exact elem25 | exact elem32 | exact elem35 | exact elem36 | exact elem37 | exact elem38 | exact elem41 | exact elem42 | exact elem45 | exact elem57 | exact elem62 | exact elem74 | exact elem98 | exact elem100 | exact elem137 | exact elem178 | exact elem179) (by kernel_rfl) (by kernel_rfl) (by kernel_rfl) H (fun b w' H1 => hK _ _ ?_))); clear hK K; replace H := H1; clear H1)); (try clear hc); (try simp only [nrm, splice, Value.cells, Nat.reduceAdd, Act.eval, Act.put] at H); have hc := H.cells; simp only [CellsOf, KnCells, knc, Nat.reduceAdd] at hc))) | go_values | go_skip | go_guarded | go_step | go_upon | go_back | dsimp only)
            obtain ⟨bb, rfl⟩ : ∃ q, q = b := ⟨_, rfl⟩
            have H1 := H.ro (k := .is bb _) (by repeat (first | exact Split.here _ _ | apply Split.there))
            (try simp only [List.append, List.cons_append, List.nil_append] at H1)
            replace H1 := H1.rowSoft (key := kw) (by repeat (first | exact Split.here _ _ | apply Split.there))
            (try simp only [List.append, List.cons_append, List.nil_append] at H1)
            (try rw [show sl kw wl cw = Value.slice (kw.map fun b => (⟨b, 0, none⟩ : Addr)) wl cw from rfl])
            generalize (kw.map fun b => (⟨b, 0, none⟩ : Addr)) = sw at *
            have H0 := H1.sel (L' := [(false, .is bb (.cells #[sl kl j cl, sl ko j co] 25 (0, 0))), (true, .row kl 29 6 j cl (L.flatMap Pr.cells)), (true, .row ko 29 6 j co (L.reverse.flatMap Pr.cells)), (false, soft sw (W.map uv)), (false, .is b6 (ckO ⟨fh, fc, fr⟩)), (false, .is b11 (ckO ⟨fh, fc, fr⟩))]) (by repeat (first | exact Sel.nil _ | (apply Sel.cons; focus (repeat (first | exact Split.here _ _ | apply Split.there)))))
            clear H H1 hc
            have hrev : Hid (1 ≤ (KH.mk fh fc fr).rev) := by show 1 ≤ fr; omega
            have hW := hmj.out.1.2.2
            have hWl := hmj.out.2
            have hmin1 : Hid (2 * (wrongs own ⟨fh, fc, fr⟩ fh L).length < j + 1) := by
              show 2 * _ < _
              have : (wrongs own ⟨fh, fc, fr⟩ fh L).length = wl := by rw [hWl, hW]
              omega
            have hmin2 : Hid (2 * (wrongs own ⟨fh, fc, fr⟩ fh L.reverse).length < j + 1) := by
              show 2 * _ < _
              rw [(wrongs_rev _ _ _ _).length_eq]
              exact hmin1.out
            have hW1 := Lib.hid hW
            have hWl1 := Lib.hid hWl
            clear hW hWl
            have hL1 : Hid (L.length = j) := hmj.out.1.1
            have hL2 : Hid (L.reverse.length = j) := by show _ = _; rw [List.length_reverse]; exact hL1.out
            have ha1 : Hid (∀ p ∈ L, p.has = true ∧ p.compact = (KH.mk fh fc fr).compact) := hmj.out.1.2.1
            have ha2 : Hid (∀ p ∈ L.reverse, p.has = true ∧ p.compact = (KH.mk fh fc fr).compact) := fun p hp => ha1.out p (List.mem_reverse.1 hp)
            go_loopw [120] (AtM2 ⟨fh, fc, fr⟩ ⟨fh, fc, fr⟩ L W j bb b6 b11 kl ko sw cl co w) (fun i _ => 2 - (intOf i).toNat)
            case atStart => exact ⟨0, by omega, rfl, H0⟩
            case round =>
              clear H0
              obtain ⟨t, ht, rfl, H⟩ := hrel
              rcases (by omega : t = 0 ∨ t = 1 ∨ t = 2) with rfl | rfl | rfl
              · have hc := H.cells; simp only [CellsOf, KnCells, knc, Nat.reduceAdd] at hc
                repeat' (first | (go_big_may; (first
    | go_skip
    | ((first
        | (go_at_call 11; refine Calls.mono (compact_major own ⟨fh, fc, fr⟩ fh L _ _ _ _ kl j cl hL1 (by omega) hn12 ha1 hmin1 hrev _ (H.pick (by repeat (first | exact Picks.nil _ | (apply Picks.wr; focus (repeat (first | exact Split.here _ _ | apply Split.there))) | (apply Picks.rd; focus (repeat (first | exact Split.here _ _ | apply Split.there))))))) ?_; rintro e w' ⟨k7, k8, c7, c8, ka, na, ca, kq, cq, ls, hls, rfl, H'⟩; replace H := H.merge (by first | exact Strikes.nil _ | (repeat (first | exact Strikes.nil _ | (apply Strikes.cons; focus (repeat (first | exact Split.here _ _ | apply Split.there)))))) H' rfl; clear H')
        | (refine loud_ rfl ?_; refine wpList_plain rfl (fun K hK => ?_); (first | (refine op_box _ _ rfl H (fun b w' H1 => hK _ _ ?_)) | (refine op_alloc _ rfl (zero_of _ _ rfl) H (fun b w' H1 => hK _ _ ?_)) | (refine op_store _ _ _ rfl rfl rfl H (by repeat (first | exact Split.here _ _ | apply Split.there)) (by kernel_rfl) (by kernel_rfl) (by kernel_rfl) (fun w' H1 => hK _ _ ?_)) | (refine op_buildSlice_all _ _ _ rfl (by first | exact elem25 | exact elem32 | exact elem35 | exact elem36 | exact elem37 | exact elem38 | exact elem41 | exact elem42 | exact elem45 | exact elem57 | exact elem62 | exact elem74 | exact elem98 | exact elem100 | exact elem137 | exact elem178 | exact elem179) (by kernel_rfl) (by kernel_rfl) (by kernel_rfl) H (fun b w' H1 => hK _ _ ?_))); clear hK K; replace H := H1; clear H1)); (try clear hc); (try simp only [nrm, splice, Value.cells, Nat.reduceAdd, Act.eval, Act.put] at H); have hc := H.cells; simp only [CellsOf, KnCells, knc, Nat.reduceAdd] at hc))) | go_values | go_skip | go_guarded | go_step | go_upon | go_back | dsimp only)
                have hna : wl = na := by rw [hls.out.2, hls.out.1.length_eq, hWl1.out, hW1.out]
                subst hna
                have hmem : Hid (∀ x ∈ W, x ∈ ls) := fun x hx => hls.out.1.mem_iff.2 (by rw [hW1.out] at hx; exact hx)
                have hlsl : Hid (ls.length = wl) := hls.out.2.symm
                (try simp only [Act.put, slt])
                refine wp_region_plan (.p [0, 1, 2, 3, 4, 5] (.q [6] (.p [7, 8, 9, 10, 11, 12, 13, 14, 15, 16, 17, 18, 19] (.q [20] (.p [21] (.q [22] (.e 23 (.e 24 (.p [25, 26] .done))))))))) [24] (by kernel_rfl) (by kernel_rfl) (fun _ _ d _ _ h => by cases d <;> exact h) H ?_
                clear H
                (try clear hc)
                intro X nX fX wd hcf hS H
                simp only [CellsOf, KnCells, knc, Nat.reduceAdd] at hcf
                have hc := H.cells
                simp only [CellsOf, KnCells, knc, Nat.reduceAdd] at hc
                iterate 4 (refine plan_p (o := ⟨_, _, _, _, _, _⟩) rfl (fun N hN => ?_); go_big_quiet_step (fail); refine wpQuiet_nil (hN _ ?_); clear hN N)
                iterate 1 (refine plan_p (o := ⟨_, _, _, _, _, _⟩) rfl (fun N hN => ?_); go_big_quiet_step (fail); refine wpQuiet_nil (hN _ ?_); clear hN N)
                iterate 1 (refine plan_p (o := ⟨_, _, _, _, _, _⟩) rfl (fun N hN => ?_); go_big_quiet_step (fail); refine wpQuiet_nil (hN _ ?_); clear hN N)
                refine plan_p0 ?_
                iterate 1 (refine plan_q (o := ⟨_, _, _, _, _, _⟩) rfl (fun N hN => ?_); go_big_quiet_step (fail); refine wpQuiet_nil (hN _ ?_); clear hN N)
                refine plan_q0 ?_
                iterate 1 (refine plan_p (o := ⟨_, _, _, _, _, _⟩) rfl (fun N hN => ?_); go_big_quiet_step (fail); refine wpQuiet_nil (hN _ ?_); clear hN N)
                iterate 1 (refine plan_p (o := ⟨_, _, _, _, _, _⟩) rfl (fun N hN => ?_); go_big_quiet_step (fail); refine wpQuiet_nil (hN _ ?_); clear hN N)
                iterate 1 (refine plan_p (o := ⟨_, _, _, _, _, _⟩) rfl (fun N hN => ?_); go_big_quiet_step (fail); refine wpQuiet_nil (hN _ ?_); clear hN N)
                iterate 1 (refine plan_p (o := ⟨_, _, _, _, _, _⟩) rfl (fun N hN => ?_); go_big_quiet_step (fail); refine wpQuiet_nil (hN _ ?_); clear hN N)
                iterate 2 (refine plan_p (o := ⟨_, _, _, _, _, _⟩) rfl (fun N hN => ?_); go_big_quiet_step (fail); refine wpQuiet_nil (hN _ ?_); clear hN N)
                iterate 1 (refine plan_p (o := ⟨_, _, _, _, _, _⟩) rfl (fun N hN => ?_); go_big_quiet_step (fail); refine wpQuiet_nil (hN _ ?_); clear hN N)
                iterate 1 (refine plan_p (o := ⟨_, _, _, _, _, _⟩) rfl (fun N hN => ?_); go_big_quiet_step (fail); refine wpQuiet_nil (hN _ ?_); clear hN N)
                iterate 1 (refine plan_p (o := ⟨_, _, _, _, _, _⟩) rfl (fun N hN => ?_); go_big_quiet_step (fail); refine wpQuiet_nil (hN _ ?_); clear hN N)
                iterate 2 (refine plan_p (o := ⟨_, _, _, _, _, _⟩) rfl (fun N hN => ?_); go_big_quiet_step (fail); refine wpQuiet_nil (hN _ ?_); clear hN N)
                iterate 1 (refine plan_p (o := ⟨_, _, _, _, _, _⟩) rfl (fun N hN => ?_); go_big_quiet_step (fail); refine wpQuiet_nil (hN _ ?_); clear hN N)
                iterate 1 (refine plan_p (o := ⟨_, _, _, _, _, _⟩) rfl (fun N hN => ?_); go_big_quiet_step (fail); refine wpQuiet_nil (hN _ ?_); clear hN N)
                refine plan_p0 ?_
                iterate 1 (refine plan_q (o := ⟨_, _, _, _, _, _⟩) rfl (fun N hN => ?_); go_big_quiet_step (fail); refine wpQuiet_nil (hN _ ?_); clear hN N)
                refine plan_q0 ?_
                iterate 1 (refine plan_p (o := ⟨_, _, _, _, _, _⟩) rfl (fun N hN => ?_); go_big_quiet_step (fail); refine wpQuiet_nil (hN _ ?_); clear hN N)
                refine plan_p0 ?_
                iterate 1 (refine plan_q (o := ⟨_, _, _, _, _, _⟩) rfl (fun N hN => ?_); go_big_quiet_step (fail); refine wpQuiet_nil (hN _ ?_); clear hN N)
                refine plan_q0 ?_
                refine plan_e (o := ⟨_, _, _, _, _, _⟩) rfl rfl (fun K hK => ?_)
                (first | (go_step; go_at_call 12; refine Calls.mono (revs_lit kq cq _ fr _ (H.pick (by repeat (first | exact Picks.nil _ | (apply Picks.wr; focus (repeat (first | exact Split.here _ _ | apply Split.there))) | (apply Picks.rd; focus (repeat (first | exact Split.here _ _ | apply Split.there))))))) ?_; rintro e w' ⟨rfl, H'⟩; replace H := H.of_ext H'; clear H') | (refine op_box _ _ rfl H (fun b w' H1 => ?_); replace H := H1; clear H1) | (refine op_alloc _ rfl (zero_of _ _ rfl) H (fun b w' H1 => ?_); replace H := H1; clear H1) | (refine op_store _ _ _ rfl rfl rfl H (by repeat (first | exact Split.here _ _ | apply Split.there)) (by kernel_rfl) (by kernel_rfl) (by kernel_rfl) (fun w' H1 => ?_); replace H := H1; clear H1) | (refine op_buildSlice_all _ _ _ rfl (by first | exact elem25 | exact elem32 | exact elem35 | exact elem36 | exact elem37 | exact elem38 | exact elem41 | exact elem42 | exact elem45 | exact elem57 | exact elem62 | exact elem74 | exact elem98 | exact elem100 | exact elem137 | exact elem178 | exact elem179) (by kernel_rfl) (by kernel_rfl) (by kernel_rfl) H (fun b w' H1 => ?_); replace H := H1; clear H1)); (try clear hc); (try simp only [nrm, splice, Value.cells, Nat.reduceAdd, Act.eval, Act.put] at H); have hc := H.cells; simp only [CellsOf, KnCells, knc, Nat.reduceAdd] at hc; refine hK _ _ (fun _ _ => hS _ (H.sublist (by repeat (first | exact List.Sublist.refl _ | exact List.nil_sublist _ | apply List.Sublist.cons_cons | apply List.Sublist.cons))).all) ?_; clear hK K; (try simp only [Act.put, slt])
                refine plan_e (o := ⟨_, _, _, _, _, _⟩) rfl rfl (fun K hK => ?_)
                (first | (go_step; go_at_call 12; refine Calls.mono (revs_lit kq cq _ fr _ (H.pick (by repeat (first | exact Picks.nil _ | (apply Picks.wr; focus (repeat (first | exact Split.here _ _ | apply Split.there))) | (apply Picks.rd; focus (repeat (first | exact Split.here _ _ | apply Split.there))))))) ?_; rintro e w' ⟨rfl, H'⟩; replace H := H.of_ext H'; clear H') | (refine op_box _ _ rfl H (fun b w' H1 => ?_); replace H := H1; clear H1) | (refine op_alloc _ rfl (zero_of _ _ rfl) H (fun b w' H1 => ?_); replace H := H1; clear H1) | (refine op_store _ _ _ rfl rfl rfl H (by repeat (first | exact Split.here _ _ | apply Split.there)) (by kernel_rfl) (by kernel_rfl) (by kernel_rfl) (fun w' H1 => ?_); replace H := H1; clear H1) | (refine op_buildSlice_all _ _ _ rfl (by first | exact elem25 | exact elem32 | exact elem35 | exact elem36 | exact elem37 | exact elem38 | exact elem41 | exact elem42 | exact elem45 | exact elem57 | exact elem62 | exact elem74 | exact elem98 | exact elem100 | exact elem137 | exact elem178 | exact elem179) (by kernel_rfl) (by kernel_rfl) (by kernel_rfl) H (fun b w' H1 => ?_); replace H := H1; clear H1)); (try clear hc); (try simp only [nrm, splice, Value.cells, Nat.reduceAdd, Act.eval, Act.put] at H); have hc := H.cells; simp only [CellsOf, KnCells, knc, Nat.reduceAdd] at hc; refine hK _ _ (fun h => (h (by decide)).elim) ?_; clear hK K; (try simp only [Act.put, slt])
                iterate 1 (refine plan_p (o := ⟨_, _, _, _, _, _⟩) rfl (fun N hN => ?_); go_big_quiet_step (fail); refine wpQuiet_nil (hN _ ?_); clear hN N)
                iterate 1 (refine plan_p (o := ⟨_, _, _, _, _, _⟩) rfl (fun N hN => ?_); go_big_quiet_step (fail); refine wpQuiet_nil (hN _ ?_); clear hN N)
                refine plan_p0 ?_
                refine plan_done ?_
                repeat' (first | (go_big_may; (first
    | ((first
        | (refine loud_ rfl ?_; refine wpList_plain rfl (fun K hK => ?_); (first | (refine op_box _ _ rfl H (fun b w' H1 => hK _ _ ?_)) | (refine op_alloc _ rfl (zero_of _ _ rfl) H (fun b w' H1 => hK _ _ ?_)) | (refine op_store _ _ _ rfl rfl rfl H (by repeat (first | exact Split.here _ _ | apply Split.there)) (by kernel_rfl) (by kernel_rfl) (by kernel_rfl) (fun w' H1 => hK _ _ ?_)) | (refine op_buildSlice_all _ _ _ rfl (by first | exact elem25 | exact elem32 | exact elem35 | exact elem36 | exact elem37 | exact elem38 | exact elem41 | exact elem42 | exact elem45 | exact elem57 | exact elem62 | exact elem74 | exact elem98 | exact elem100 | exact elem137 | exact elem178 | exact elem179) (by kernel_rfl) (by kernel_rfl) (by kernel_rfl) H (fun b w' H1 => hK _ _ ?_))); clear hK K; replace H := H1; clear H1)); (try clear hc); (try simp only [nrm, splice, Value.cells, Nat.reduceAdd, Act.eval, Act.put] at H); have hc := H.cells; simp only [CellsOf, KnCells, knc, Nat.reduceAdd] at hc))) | go_values | go_skip | go_guarded | go_step | go_upon | go_back | dsimp only)
                replace H := H.rowSoft (key := ka) (by repeat (first | exact Split.here _ _ | apply Split.there))
                (try simp only [List.append, List.cons_append, List.nil_append] at H)
                (try rw [show sl ka wl ca = Value.slice (ka.map fun b => (⟨b, 0, none⟩ : Addr)) wl ca from rfl] at H)
                (try rw [show sl ka wl ca = Value.slice (ka.map fun b => (⟨b, 0, none⟩ : Addr)) wl ca from rfl])
                generalize (ka.map fun b => (⟨b, 0, none⟩ : Addr)) = sa at *
                replace H := H.ro (k := .row (some k7) _ 1 1 c7 _) (by repeat (first | exact Split.here _ _ | apply Split.there))
                (try simp only [List.append, List.cons_append, List.nil_append] at H)
                have H0 := H.sel (L' := [(false, .row (some k7) 32 1 1 c7 [.slice sa wl ca]), (false, soft sa (ls.map uv)), (false, .is bb (.cells #[sl kl j cl, sl ko j co] 25 (0, 0))), (true, .row kl 29 6 j cl (L.flatMap Pr.cells)), (true, .row ko 29 6 j co (L.reverse.flatMap Pr.cells)), (false, soft sw (W.map uv)), (false, .is b6 (ckO ⟨fh, fc, fr⟩)), (false, .is b11 (ckO ⟨fh, fc, fr⟩))]) (by repeat (first | exact Sel.nil _ | (apply Sel.cons; focus (repeat (first | exact Split.here _ _ | apply Split.there)))))
                clear H hc
                go_loopw [167] (AtWn wl [(false, .row (some k7) 32 1 1 c7 [.slice sa wl ca]), (false, soft sa (ls.map uv)), (false, .is bb (.cells #[sl kl j cl, sl ko j co] 25 (0, 0))), (true, .row kl 29 6 j cl (L.flatMap Pr.cells)), (true, .row ko 29 6 j co (L.reverse.flatMap Pr.cells)), (false, soft sw (W.map uv)), (false, .is b6 (ckO ⟨fh, fc, fr⟩)), (false, .is b11 (ckO ⟨fh, fc, fr⟩))] w) (fun i _ => wl - (intOf i).toNat)
                case atStart => exact ⟨0, Nat.zero_le _, rfl, H0⟩
                case round =>
                  clear H0
                  obtain ⟨t2, ht2, rfl, H⟩ := hrel
                  by_cases hlt2 : t2 < wl
                  · have hw2 : t2 < W.length := by rw [← hWl1.out]; exact hlt2
                    have hin := Lib.hid (hmem.out _ (List.getElem_mem hw2))
                    obtain ⟨b3, o3, rfl, H1⟩ := H.elemSoft (Split.there _ (Split.there _ (Split.there _ (Split.there _ (Split.there _ (Split.here _ _)))))) t2 [uv W[t2]] (by show 0 < 1; omega) (by rw [List.length_map]; show t2 + 1 ≤ _; omega) (by
                      intro i hi
                      have : i = 0 := by simp at hi; omega
                      subst this
                      simp [hw2])
                    clear H
                    have H := H1
                    clear H1
                    generalize W[t2] = id at *
                    clear hw2
                    have hc := H.cells; simp only [CellsOf, KnCells, knc, Nat.reduceAdd] at hc
                    repeat' (first | (go_big_may; (first
    | ((first
        | (refine loud_ rfl ?_; refine wpList_plain rfl (fun K hK => ?_); (first | (refine op_box _ _ rfl H (fun b w' H1 => hK _ _ ?_)) | (refine op_alloc _ rfl (zero_of _ _ rfl) H (fun b w' H1 => hK _ _ ?_)) | (refine op_store _ _ _ rfl rfl rfl H (by repeat (first | exact Split.here _ _ | apply Split.there)) (by kernel_rfl) (by kernel_rfl) (by kernel_rfl) (fun w' H1 => hK _ _ ?_)) | (refine op_buildSlice_all _ _ _ rfl (by first | exact elem25 | exact elem32 | exact elem35 | exact elem36 | exact elem37 | exact elem38 | exact elem41 | exact elem42 | exact elem45 | exact elem57 | exact elem62 | exact elem74 | exact elem98 | exact elem100 | exact elem137 | exact elem178 | exact elem179) (by kernel_rfl) (by kernel_rfl) (by kernel_rfl) H (fun b w' H1 => hK _ _ ?_))); clear hK K; replace H := H1; clear H1)); (try clear hc); (try simp only [nrm, splice, Value.cells, Nat.reduceAdd, Act.eval, Act.put] at H); have hc := H.cells; simp only [CellsOf, KnCells, knc, Nat.reduceAdd] at hc))) | go_values | go_skip | go_guarded | go_step | go_upon | go_back | dsimp only)
                    have H0 := H.sel (L' := [(false, .row (some k7) 32 1 1 c7 [.slice sa wl ca]), (false, soft sa (ls.map uv)), (false, .is bb (.cells #[sl kl j cl, sl ko j co] 25 (0, 0))), (true, .row kl 29 6 j cl (L.flatMap Pr.cells)), (true, .row ko 29 6 j co (L.reverse.flatMap Pr.cells)), (false, soft (some ⟨b3, o3, none⟩) (W.map uv)), (false, .is b6 (ckO ⟨fh, fc, fr⟩)), (false, .is b11 (ckO ⟨fh, fc, fr⟩))]) (by repeat (first | exact Sel.nil _ | (apply Sel.cons; focus (repeat (first | exact Split.here _ _ | apply Split.there)))))
                    clear H hc
                    go_loopw [23, 175] (AtFi wl ls id [(false, .row (some k7) 32 1 1 c7 [.slice sa wl ca]), (false, soft sa (ls.map uv)), (false, .is bb (.cells #[sl kl j cl, sl ko j co] 25 (0, 0))), (true, .row kl 29 6 j cl (L.flatMap Pr.cells)), (true, .row ko 29 6 j co (L.reverse.flatMap Pr.cells)), (false, soft (some ⟨b3, o3, none⟩) (W.map uv)), (false, .is b6 (ckO ⟨fh, fc, fr⟩)), (false, .is b11 (ckO ⟨fh, fc, fr⟩))] w) (fun _ i _ => wl - (intOf i).toNat)
                    case atStart => exact ⟨0, Nat.zero_le _, by simp, rfl, H0⟩
                    case round =>
                      clear H0
                      obtain ⟨k, hk, hf, rfl, H⟩ := hrel
                      by_cases hlt3 : k < wl
                      · have hk3 : k < ls.length := by rw [hlsl.out]; exact hlt3
                        have hcat3 : Hid (ls.take (k + 1) = ls.take k ++ [ls[k]]) := (List.take_append_getElem hk3).symm
                        obtain ⟨b4, o4, rfl, H1⟩ := H.elemSoft (Split.there _ (Split.here _ _)) k [uv ls[k]] (by show 0 < 1; omega) (by rw [List.length_map]; show k + 1 ≤ _; omega) (by
                          intro i hi
                          have : i = 0 := by simp at hi; omega
                          subst this
                          simp [hk3])
                        clear H
                        have H := H1
                        clear H1
                        generalize ls[k] = y at *
                        clear hk3
                        by_cases hfm : id ∈ ls.take k
                        · rw [decide_eq_true hfm] at hf
                          subst hf
                          have hd : decide (id ∈ ls.take (k + 1)) = true := decide_eq_true (by rw [hcat3.out]; exact List.mem_append_left _ hfm)
                          have hfm' := Lib.hid hfm
                          clear hfm
                          have hc := H.cells; simp only [CellsOf, KnCells, knc, Nat.reduceAdd] at hc
                          repeat' (first | (go_big_may; (first
    | ((first
        | (refine loud_ rfl ?_; refine wpList_plain rfl (fun K hK => ?_); (first | (refine op_box _ _ rfl H (fun b w' H1 => hK _ _ ?_)) | (refine op_alloc _ rfl (zero_of _ _ rfl) H (fun b w' H1 => hK _ _ ?_)) | (refine op_store _ _ _ rfl rfl rfl H (by repeat (first | exact Split.here _ _ | apply Split.there)) (by kernel_rfl) (by kernel_rfl) (by kernel_rfl) (fun w' H1 => hK _ _ ?_)) | (refine op_buildSlice_all _ _ _ rfl (by first | exact elem25 | exact elem32 | exact elem35 | exact elem36 | exact elem37 | exact elem38 | exact elem41 | exact elem42 | exact elem45 | exact elem57 | exact elem62 | exact elem74 | exact elem98 | exact elem100 | exact elem137 | exact elem178 | exact elem179) (by kernel_rfl) (by kernel_rfl) (by kernel_rfl) H (fun b w' H1 => hK _ _ ?_))); clear hK K; replace H := H1; clear H1)); (try clear hc); (try simp only [nrm, splice, Value.cells, Nat.reduceAdd, Act.eval, Act.put] at H); have hc := H.cells; simp only [CellsOf, KnCells, knc, Nat.reduceAdd] at hc))) | go_values | go_skip | go_guarded | go_step | go_upon | go_back | dsimp only)
                          exact ⟨⟨k + 1, by omega, by rw [hd], by go_num, H.sel (by repeat (first | exact Sel.nil _ | (apply Sel.cons; focus (repeat (first | exact Split.here _ _ | apply Split.there)))))⟩, by simp [intOf]; omega⟩
                        · rw [decide_eq_false hfm] at hf
                          subst hf
                          by_cases e1 : y = id
                          · have hd : decide (id ∈ ls.take (k + 1)) = true := decide_eq_true (by rw [hcat3.out, e1]; simp)
                            have hfm' := Lib.hid hfm
                            clear hfm
                            have hc := H.cells; simp only [CellsOf, KnCells, knc, Nat.reduceAdd] at hc
                            repeat' (first | (go_big_may; (first
    | ((first
        | (refine loud_ rfl ?_; refine wpList_plain rfl (fun K hK => ?_); (first | (refine op_box _ _ rfl H (fun b w' H1 => hK _ _ ?_)) | (refine op_alloc _ rfl (zero_of _ _ rfl) H (fun b w' H1 => hK _ _ ?_)) | (refine op_store _ _ _ rfl rfl rfl H (by repeat (first | exact Split.here _ _ | apply Split.there)) (by kernel_rfl) (by kernel_rfl) (by kernel_rfl) (fun w' H1 => hK _ _ ?_)) | (refine op_buildSlice_all _ _ _ rfl (by first | exact elem25 | exact elem32 | exact elem35 | exact elem36 | exact elem37 | exact elem38 | exact elem41 | exact elem42 | exact elem45 | exact elem57 | exact elem62 | exact elem74 | exact elem98 | exact elem100 | exact elem137 | exact elem178 | exact elem179) (by kernel_rfl) (by kernel_rfl) (by kernel_rfl) H (fun b w' H1 => hK _ _ ?_))); clear hK K; replace H := H1; clear H1)); (try clear hc); (try simp only [nrm, splice, Value.cells, Nat.reduceAdd, Act.eval, Act.put] at H); have hc := H.cells; simp only [CellsOf, KnCells, knc, Nat.reduceAdd] at hc))) | go_values | go_skip | go_guarded | go_step | go_upon | go_back | dsimp only)
                            exact ⟨⟨k + 1, by omega, by rw [hd], by go_num, H.sel (by repeat (first | exact Sel.nil _ | (apply Sel.cons; focus (repeat (first | exact Split.here _ _ | apply Split.there)))))⟩, by simp [intOf]; omega⟩
                          · have hd : decide (id ∈ ls.take (k + 1)) = false := decide_eq_false (by
                              rw [hcat3.out]
                              intro h
                              rcases List.mem_append.1 h with h | h
                              · exact hfm h
                              · exact e1 (List.mem_singleton.1 h).symm)
                            have hfm' := Lib.hid hfm
                            clear hfm
                            have hyb : (y == id) = false := by simp [e1]
                            have hc := H.cells; simp only [CellsOf, KnCells, knc, Nat.reduceAdd] at hc
                            repeat' (first | (go_big_may; (first
    | ((first
        | (refine loud_ rfl ?_; refine wpList_plain rfl (fun K hK => ?_); (first | (refine op_box _ _ rfl H (fun b w' H1 => hK _ _ ?_)) | (refine op_alloc _ rfl (zero_of _ _ rfl) H (fun b w' H1 => hK _ _ ?_)) | (refine op_store _ _ _ rfl rfl rfl H (by repeat (first | exact Split.here _ _ | apply Split.there)) (by kernel_rfl) (by kernel_rfl) (by kernel_rfl) (fun w' H1 => hK _ _ ?_)) | (refine op_buildSlice_all _ _ _ rfl (by first | exact elem25 | exact elem32 | exact elem35 | exact elem36 | exact elem37 | exact elem38 | exact elem41 | exact elem42 | exact elem45 | exact elem57 | exact elem62 | exact elem74 | exact elem98 | exact elem100 | exact elem137 | exact elem178 | exact elem179) (by kernel_rfl) (by kernel_rfl) (by kernel_rfl) H (fun b w' H1 => hK _ _ ?_))); clear hK K; replace H := H1; clear H1)); (try clear hc); (try simp only [nrm, splice, Value.cells, Nat.reduceAdd, Act.eval, Act.put] at H); have hc := H.cells; simp only [CellsOf, KnCells, knc, Nat.reduceAdd] at hc))) | go_values | go_skip | go_guarded | go_step | go_upon | go_back | dsimp only)
                            exact ⟨⟨k + 1, by omega, by rw [hd], by go_num, H.sel (by repeat (first | exact Sel.nil _ | (apply Sel.cons; focus (repeat (first | exact Split.here _ _ | apply Split.there)))))⟩, by simp [intOf]; omega⟩
                      · obtain rfl : k = wl := by omega
                        rw [List.take_of_length_le (by rw [hlsl.out]; exact Nat.le_refl _), decide_eq_true hin.out] at hf
                        subst hf
                        have hc := H.cells; simp only [CellsOf, KnCells, knc, Nat.reduceAdd] at hc
                        repeat' (first | (go_big_may; (first
    | ((first
        | (refine loud_ rfl ?_; refine wpList_plain rfl (fun K hK => ?_); (first | (refine op_box _ _ rfl H (fun b w' H1 => hK _ _ ?_)) | (refine op_alloc _ rfl (zero_of _ _ rfl) H (fun b w' H1 => hK _ _ ?_)) | (refine op_store _ _ _ rfl rfl rfl H (by repeat (first | exact Split.here _ _ | apply Split.there)) (by kernel_rfl) (by kernel_rfl) (by kernel_rfl) (fun w' H1 => hK _ _ ?_)) | (refine op_buildSlice_all _ _ _ rfl (by first | exact elem25 | exact elem32 | exact elem35 | exact elem36 | exact elem37 | exact elem38 | exact elem41 | exact elem42 | exact elem45 | exact elem57 | exact elem62 | exact elem74 | exact elem98 | exact elem100 | exact elem137 | exact elem178 | exact elem179) (by kernel_rfl) (by kernel_rfl) (by kernel_rfl) H (fun b w' H1 => hK _ _ ?_))); clear hK K; replace H := H1; clear H1)); (try clear hc); (try simp only [nrm, splice, Value.cells, Nat.reduceAdd, Act.eval, Act.put] at H); have hc := H.cells; simp only [CellsOf, KnCells, knc, Nat.reduceAdd] at hc))) | go_values | go_skip | go_guarded | go_step | go_upon | go_back | dsimp only)
                        exact ⟨⟨t2 + 1, by omega, by go_num, H.sel (by repeat (first | exact Sel.nil _ | (apply Sel.cons; focus (repeat (first | exact Split.here _ _ | apply Split.there)))))⟩, by simp [intOf]; omega⟩
                  · obtain rfl : t2 = wl := by omega
                    have hc := H.cells; simp only [CellsOf, KnCells, knc, Nat.reduceAdd] at hc
                    repeat' (first | (go_big_may; (first
    | ((first
        | (refine loud_ rfl ?_; refine wpList_plain rfl (fun K hK => ?_); (first | (refine op_box _ _ rfl H (fun b w' H1 => hK _ _ ?_)) | (refine op_alloc _ rfl (zero_of _ _ rfl) H (fun b w' H1 => hK _ _ ?_)) | (refine op_store _ _ _ rfl rfl rfl H (by repeat (first | exact Split.here _ _ | apply Split.there)) (by kernel_rfl) (by kernel_rfl) (by kernel_rfl) (fun w' H1 => hK _ _ ?_)) | (refine op_buildSlice_all _ _ _ rfl (by first | exact elem25 | exact elem32 | exact elem35 | exact elem36 | exact elem37 | exact elem38 | exact elem41 | exact elem42 | exact elem45 | exact elem57 | exact elem62 | exact elem74 | exact elem98 | exact elem100 | exact elem137 | exact elem178 | exact elem179) (by kernel_rfl) (by kernel_rfl) (by kernel_rfl) H (fun b w' H1 => hK _ _ ?_))); clear hK K; replace H := H1; clear H1)); (try clear hc); (try simp only [nrm, splice, Value.cells, Nat.reduceAdd, Act.eval, Act.put] at H); have hc := H.cells; simp only [CellsOf, KnCells, knc, Nat.reduceAdd] at hc))) | go_values | go_skip | go_guarded | go_step | go_upon | go_back | dsimp only)
                    exact ⟨⟨1, by omega, by go_num, H.sel (by repeat (first | exact Sel.nil _ | (apply Sel.cons; focus (repeat (first | exact Split.here _ _ | apply Split.there)))))⟩, by simp [intOf]⟩
              · have hc := H.cells; simp only [CellsOf, KnCells, knc, Nat.reduceAdd] at hc
                repeat' (first | (go_big_may; (first
    | go_skip
    | ((first
        | (go_at_call 11; refine Calls.mono (compact_major own ⟨fh, fc, fr⟩ fh L.reverse _ _ _ _ ko j co hL2 (by omega) hn12 ha2 hmin2 hrev _ (H.pick (by repeat (first | exact Picks.nil _ | (apply Picks.wr; focus (repeat (first | exact Split.here _ _ | apply Split.there))) | (apply Picks.rd; focus (repeat (first | exact Split.here _ _ | apply Split.there))))))) ?_; rintro e w' ⟨k7, k8, c7, c8, ka, na, ca, kq, cq, ls, hls, rfl, H'⟩; replace H := H.merge (by first | exact Strikes.nil _ | (repeat (first | exact Strikes.nil _ | (apply Strikes.cons; focus (repeat (first | exact Split.here _ _ | apply Split.there)))))) H' rfl; clear H')
        | (refine loud_ rfl ?_; refine wpList_plain rfl (fun K hK => ?_); (first | (refine op_box _ _ rfl H (fun b w' H1 => hK _ _ ?_)) | (refine op_alloc _ rfl (zero_of _ _ rfl) H (fun b w' H1 => hK _ _ ?_)) | (refine op_store _ _ _ rfl rfl rfl H (by repeat (first | exact Split.here _ _ | apply Split.there)) (by kernel_rfl) (by kernel_rfl) (by kernel_rfl) (fun w' H1 => hK _ _ ?_)) | (refine op_buildSlice_all _ _ _ rfl (by first | exact elem25 | exact elem32 | exact elem35 | exact elem36 | exact elem37 | exact elem38 | exact elem41 | exact elem42 | exact elem45 | exact elem57 | exact elem62 | exact elem74 | exact elem98 | exact elem100 | exact elem137 | exact elem178 | exact elem179) (by kernel_rfl) (by kernel_rfl) (by kernel_rfl) H (fun b w' H1 => hK _ _ ?_))); clear hK K; replace H := H1; clear H1)); (try clear hc); (try simp only [nrm, splice, Value.cells, Nat.reduceAdd, Act.eval, Act.put] at H); have hc := H.cells; simp only [CellsOf, KnCells, knc, Nat.reduceAdd] at hc))) | go_values | go_skip | go_guarded | go_step | go_upon | go_back | dsimp only)
                have hna : wl = na := by rw [hls.out.2, hls.out.1.length_eq, (wrongs_rev _ _ _ _).length_eq, hWl1.out, hW1.out]
                subst hna
                have hmem : Hid (∀ x ∈ W, x ∈ ls) := fun x hx => hls.out.1.mem_iff.2 (by rw [hW1.out] at hx; exact (wrongs_rev _ _ _ _).mem_iff.2 hx)
                have hlsl : Hid (ls.length = wl) := hls.out.2.symm
                (try simp only [Act.put, slt])
                refine wp_region_plan (.p [0, 1, 2, 3, 4, 5] (.q [6] (.p [7, 8, 9, 10, 11, 12, 13, 14, 15, 16, 17, 18, 19] (.q [20] (.p [21] (.q [22] (.e 23 (.e 24 (.p [25, 26] .done))))))))) [24] (by kernel_rfl) (by kernel_rfl) (fun _ _ d _ _ h => by cases d <;> exact h) H ?_
                clear H
                (try clear hc)
                intro X nX fX wd hcf hS H
                simp only [CellsOf, KnCells, knc, Nat.reduceAdd] at hcf
                have hc := H.cells
                simp only [CellsOf, KnCells, knc, Nat.reduceAdd] at hc
                iterate 4 (refine plan_p (o := ⟨_, _, _, _, _, _⟩) rfl (fun N hN => ?_); go_big_quiet_step (fail); refine wpQuiet_nil (hN _ ?_); clear hN N)
                iterate 1 (refine plan_p (o := ⟨_, _, _, _, _, _⟩) rfl (fun N hN => ?_); go_big_quiet_step (fail); refine wpQuiet_nil (hN _ ?_); clear hN N)
                iterate 1 (refine plan_p (o := ⟨_, _, _, _, _, _⟩) rfl (fun N hN => ?_); go_big_quiet_step (fail); refine wpQuiet_nil (hN _ ?_); clear hN N)
                refine plan_p0 ?_
                iterate 1 (refine plan_q (o := ⟨_, _, _, _, _, _⟩) rfl (fun N hN => ?_); go_big_quiet_step (fail); refine wpQuiet_nil (hN _ ?_); clear hN N)
                refine plan_q0 ?_
                iterate 1 (refine plan_p (o := ⟨_, _, _, _, _, _⟩) rfl (fun N hN => ?_); go_big_quiet_step (fail); refine wpQuiet_nil (hN _ ?_); clear hN N)
                iterate 1 (refine plan_p (o := ⟨_, _, _, _, _, _⟩) rfl (fun N hN => ?_); go_big_quiet_step (fail); refine wpQuiet_nil (hN _ ?_); clear hN N)
                iterate 1 (refine plan_p (o := ⟨_, _, _, _, _, _⟩) rfl (fun N hN => ?_); go_big_quiet_step (fail); refine wpQuiet_nil (hN _ ?_); clear hN N)
                iterate 1 (refine plan_p (o := ⟨_, _, _, _, _, _⟩) rfl (fun N hN => ?_); go_big_quiet_step (fail); refine wpQuiet_nil (hN _ ?_); clear hN N)
                iterate 2 (refine plan_p (o := ⟨_, _, _, _, _, _⟩) rfl (fun N hN => ?_); go_big_quiet_step (fail); refine wpQuiet_nil (hN _ ?_); clear hN N)
                iterate 1 (refine plan_p (o := ⟨_, _, _, _, _, _⟩) rfl (fun N hN => ?_); go_big_quiet_step (fail); refine wpQuiet_nil (hN _ ?_); clear hN N)
                iterate 1 (refine plan_p (o := ⟨_, _, _, _, _, _⟩) rfl (fun N hN => ?_); go_big_quiet_step (fail); refine wpQuiet_nil (hN _ ?_); clear hN N)
                iterate 1 (refine plan_p (o := ⟨_, _, _, _, _, _⟩) rfl (fun N hN => ?_); go_big_quiet_step (fail); refine wpQuiet_nil (hN _ ?_); clear hN N)
                iterate 2 (refine plan_p (o := ⟨_, _, _, _, _, _⟩) rfl (fun N hN => ?_); go_big_quiet_step (fail); refine wpQuiet_nil (hN _ ?_); clear hN N)
                iterate 1 (refine plan_p (o := ⟨_, _, _, _, _, _⟩) rfl (fun N hN => ?_); go_big_quiet_step (fail); refine wpQuiet_nil (hN _ ?_); clear hN N)
                iterate 1 (refine plan_p (o := ⟨_, _, _, _, _, _⟩) rfl (fun N hN => ?_); go_big_quiet_step (fail); refine wpQuiet_nil (hN _ ?_); clear hN N)
                refine plan_p0 ?_
                iterate 1 (refine plan_q (o := ⟨_, _, _, _, _, _⟩) rfl (fun N hN => ?_); go_big_quiet_step (fail); refine wpQuiet_nil (hN _ ?_); clear hN N)
                refine plan_q0 ?_
                iterate 1 (refine plan_p (o := ⟨_, _, _, _, _, _⟩) rfl (fun N hN => ?_); go_big_quiet_step (fail); refine wpQuiet_nil (hN _ ?_); clear hN N)
                refine plan_p0 ?_
                iterate 1 (refine plan_q (o := ⟨_, _, _, _, _, _⟩) rfl (fun N hN => ?_); go_big_quiet_step (fail); refine wpQuiet_nil (hN _ ?_); clear hN N)
                refine plan_q0 ?_
                refine plan_e (o := ⟨_, _, _, _, _, _⟩) rfl rfl (fun K hK => ?_)
                (first | (go_step; go_at_call 12; refine Calls.mono (revs_lit kq cq _ fr _ (H.pick (by repeat (first | exact Picks.nil _ | (apply Picks.wr; focus (repeat (first | exact Split.here _ _ | apply Split.there))) | (apply Picks.rd; focus (repeat (first | exact Split.here _ _ | apply Split.there))))))) ?_; rintro e w' ⟨rfl, H'⟩; replace H := H.of_ext H'; clear H') | (refine op_box _ _ rfl H (fun b w' H1 => ?_); replace H := H1; clear H1) | (refine op_alloc _ rfl (zero_of _ _ rfl) H (fun b w' H1 => ?_); replace H := H1; clear H1) | (refine op_store _ _ _ rfl rfl rfl H (by repeat (first | exact Split.here _ _ | apply Split.there)) (by kernel_rfl) (by kernel_rfl) (by kernel_rfl) (fun w' H1 => ?_); replace H := H1; clear H1) | (refine op_buildSlice_all _ _ _ rfl (by first | exact elem25 | exact elem32 | exact elem35 | exact elem36 | exact elem37 | exact elem38 | exact elem41 | exact elem42 | exact elem45 | exact elem57 | exact elem62 | exact elem74 | exact elem98 | exact elem100 | exact elem137 | exact elem178 | exact elem179) (by kernel_rfl) (by kernel_rfl) (by kernel_rfl) H (fun b w' H1 => ?_); replace H := H1; clear H1)); (try clear hc); (try simp only [nrm, splice, Value.cells, Nat.reduceAdd, Act.eval, Act.put] at H); have hc := H.cells; simp only [CellsOf, KnCells, knc, Nat.reduceAdd] at hc; refine hK _ _ (fun _ _ => hS _ (H.sublist (by repeat (first | exact List.Sublist.refl _ | exact List.nil_sublist _ | apply List.Sublist.cons_cons | apply List.Sublist.cons))).all) ?_; clear hK K; (try simp only [Act.put, slt])
                refine plan_e (o := ⟨_, _, _, _, _, _⟩) rfl rfl (fun K hK => ?_)
                (first | (go_step; go_at_call 12; refine Calls.mono (revs_lit kq cq _ fr _ (H.pick (by repeat (first | exact Picks.nil _ | (apply Picks.wr; focus (repeat (first | exact Split.here _ _ | apply Split.there))) | (apply Picks.rd; focus (repeat (first | exact Split.here _ _ | apply Split.there))))))) ?_; rintro e w' ⟨rfl, H'⟩; replace H := H.of_ext H'; clear H') | (refine op_box _ _ rfl H (fun b w' H1 => ?_); replace H := H1; clear H1) | (refine op_alloc _ rfl (zero_of _ _ rfl) H (fun b w' H1 => ?_); replace H := H1; clear H1) | (refine op_store _ _ _ rfl rfl rfl H (by repeat (first | exact Split.here _ _ | apply Split.there)) (by kernel_rfl) (by kernel_rfl) (by kernel_rfl) (fun w' H1 => ?_); replace H := H1; clear H1) | (refine op_buildSlice_all _ _ _ rfl (by first | exact elem25 | exact elem32 | exact elem35 | exact elem36 | exact elem37 | exact elem38 | exact elem41 | exact elem42 | exact elem45 | exact elem57 | exact elem62 | exact elem74 | exact elem98 | exact elem100 | exact elem137 | exact elem178 | exact elem179) (by kernel_rfl) (by kernel_rfl) (by kernel_rfl) H (fun b w' H1 => ?_); replace H := H1; clear H1)); (try clear hc); (try simp only [nrm, splice, Value.cells, Nat.reduceAdd, Act.eval, Act.put] at H); have hc := H.cells; simp only [CellsOf, KnCells, knc, Nat.reduceAdd] at hc; refine hK _ _ (fun h => (h (by decide)).elim) ?_; clear hK K; (try simp only [Act.put, slt])
                iterate 1 (refine plan_p (o := ⟨_, _, _, _, _, _⟩) rfl (fun N hN => ?_); go_big_quiet_step (fail); refine wpQuiet_nil (hN _ ?_); clear hN N)
                iterate 1 (refine plan_p (o := ⟨_, _, _, _, _, _⟩) rfl (fun N hN => ?_); go_big_quiet_step (fail); refine wpQuiet_nil (hN _ ?_); clear hN N)
                refine plan_p0 ?_
                refine plan_done ?_
                repeat' (first | (go_big_may; (first
    | ((first
        | (refine loud_ rfl ?_; refine wpList_plain rfl (fun K hK => ?_); (first | (refine op_box _ _ rfl H (fun b w' H1 => hK _ _ ?_)) | (refine op_alloc _ rfl (zero_of _ _ rfl) H (fun b w' H1 => hK _ _ ?_)) | (refine op_store _ _ _ rfl rfl rfl H (by repeat (first | exact Split.here _ _ | apply Split.there)) (by kernel_rfl) (by kernel_rfl) (by kernel_rfl) (fun w' H1 => hK _ _ ?_)) | (refine op_buildSlice_all _ _ _ rfl (by first | exact elem25 | exact elem32 | exact elem35 | exact elem36 | exact elem37 | exact elem38 | exact elem41 | exact elem42 | exact elem45 | exact elem57 | exact elem62 | exact elem74 | exact elem98 | exact elem100 | exact elem137 | exact elem178 | exact elem179) (by kernel_rfl) (by kernel_rfl) (by kernel_rfl) H (fun b w' H1 => hK _ _ ?_))); clear hK K; replace H := H1; clear H1)); (try clear hc); (try simp only [nrm, splice, Value.cells, Nat.reduceAdd, Act.eval, Act.put] at H); have hc := H.cells; simp only [CellsOf, KnCells, knc, Nat.reduceAdd] at hc))) | go_values | go_skip | go_guarded | go_step | go_upon | go_back | dsimp only)
                replace H := H.rowSoft (key := ka) (by repeat (first | exact Split.here _ _ | apply Split.there))
                (try simp only [List.append, List.cons_append, List.nil_append] at H)
                (try rw [show sl ka wl ca = Value.slice (ka.map fun b => (⟨b, 0, none⟩ : Addr)) wl ca from rfl] at H)
                (try rw [show sl ka wl ca = Value.slice (ka.map fun b => (⟨b, 0, none⟩ : Addr)) wl ca from rfl])
                generalize (ka.map fun b => (⟨b, 0, none⟩ : Addr)) = sa at *
                replace H := H.ro (k := .row (some k7) _ 1 1 c7 _) (by repeat (first | exact Split.here _ _ | apply Split.there))
                (try simp only [List.append, List.cons_append, List.nil_append] at H)
                have H0 := H.sel (L' := [(false, .row (some k7) 32 1 1 c7 [.slice sa wl ca]), (false, soft sa (ls.map uv)), (false, .is bb (.cells #[sl kl j cl, sl ko j co] 25 (0, 0))), (true, .row kl 29 6 j cl (L.flatMap Pr.cells)), (true, .row ko 29 6 j co (L.reverse.flatMap Pr.cells)), (false, soft sw (W.map uv)), (false, .is b6 (ckO ⟨fh, fc, fr⟩)), (false, .is b11 (ckO ⟨fh, fc, fr⟩))]) (by repeat (first | exact Sel.nil _ | (apply Sel.cons; focus (repeat (first | exact Split.here _ _ | apply Split.there)))))
                clear H hc
                go_loopw [167] (AtWn wl [(false, .row (some k7) 32 1 1 c7 [.slice sa wl ca]), (false, soft sa (ls.map uv)), (false, .is bb (.cells #[sl kl j cl, sl ko j co] 25 (0, 0))), (true, .row kl 29 6 j cl (L.flatMap Pr.cells)), (true, .row ko 29 6 j co (L.reverse.flatMap Pr.cells)), (false, soft sw (W.map uv)), (false, .is b6 (ckO ⟨fh, fc, fr⟩)), (false, .is b11 (ckO ⟨fh, fc, fr⟩))] w) (fun i _ => wl - (intOf i).toNat)
                case atStart => exact ⟨0, Nat.zero_le _, rfl, H0⟩
                case round =>
                  clear H0
                  obtain ⟨t2, ht2, rfl, H⟩ := hrel
                  by_cases hlt2 : t2 < wl
                  · have hw2 : t2 < W.length := by rw [← hWl1.out]; exact hlt2
                    have hin := Lib.hid (hmem.out _ (List.getElem_mem hw2))
                    obtain ⟨b3, o3, rfl, H1⟩ := H.elemSoft (Split.there _ (Split.there _ (Split.there _ (Split.there _ (Split.there _ (Split.here _ _)))))) t2 [uv W[t2]] (by show 0 < 1; omega) (by rw [List.length_map]; show t2 + 1 ≤ _; omega) (by
                      intro i hi
                      have : i = 0 := by simp at hi; omega
                      subst this
                      simp [hw2])
                    clear H
                    have H := H1
                    clear H1
                    generalize W[t2] = id at *
                    clear hw2
                    have hc := H.cells; simp only [CellsOf, KnCells, knc, Nat.reduceAdd] at hc
                    repeat' (first | (go_big_may; (first
    | ((first
        | (refine loud_ rfl ?_; refine wpList_plain rfl (fun K hK => ?_); (first | (refine op_box _ _ rfl H (fun b w' H1 => hK _ _ ?_)) | (refine op_alloc _ rfl (zero_of _ _ rfl) H (fun b w' H1 => hK _ _ ?_)) | (refine op_store _ _ _ rfl rfl rfl H (by repeat (first | exact Split.here _ _ | apply Split.there)) (by kernel_rfl) (by kernel_rfl) (by kernel_rfl) (fun w' H1 => hK _ _ ?_)) | (refine op_buildSlice_all _ _ _ rfl (by first | exact elem25 | exact elem32 | exact elem35 | exact elem36 | exact elem37 | exact elem38 | exact elem41 | exact elem42 | exact elem45 | exact elem57 | exact elem62 | exact elem74 | exact elem98 | exact elem100 | exact elem137 | exact elem178 | exact elem179) (by kernel_rfl) (by kernel_rfl) (by kernel_rfl) H (fun b w' H1 => hK _ _ ?_))); clear hK K; replace H := H1; clear H1)); (try clear hc); (try simp only [nrm, splice, Value.cells, Nat.reduceAdd, Act.eval, Act.put] at H); have hc := H.cells; simp only [CellsOf, KnCells, knc, Nat.reduceAdd] at hc))) | go_values | go_skip | go_guarded | go_step | go_upon | go_back | dsimp only)
                    have H0 := H.sel (L' := [(false, .row (some k7) 32 1 1 c7 [.slice sa wl ca]), (false, soft sa (ls.map uv)), (false, .is bb (.cells #[sl kl j cl, sl ko j co] 25 (0, 0))), (true, .row kl 29 6 j cl (L.flatMap Pr.cells)), (true, .row ko 29 6 j co (L.reverse.flatMap Pr.cells)), (false, soft (some ⟨b3, o3, none⟩) (W.map uv)), (false, .is b6 (ckO ⟨fh, fc, fr⟩)), (false, .is b11 (ckO ⟨fh, fc, fr⟩))]) (by repeat (first | exact Sel.nil _ | (apply Sel.cons; focus (repeat (first | exact Split.here _ _ | apply Split.there)))))
                    clear H hc
                    go_loopw [23, 175] (AtFi wl ls id [(false, .row (some k7) 32 1 1 c7 [.slice sa wl ca]), (false, soft sa (ls.map uv)), (false, .is bb (.cells #[sl kl j cl, sl ko j co] 25 (0, 0))), (true, .row kl 29 6 j cl (L.flatMap Pr.cells)), (true, .row ko 29 6 j co (L.reverse.flatMap Pr.cells)), (false, soft (some ⟨b3, o3, none⟩) (W.map uv)), (false, .is b6 (ckO ⟨fh, fc, fr⟩)), (false, .is b11 (ckO ⟨fh, fc, fr⟩))] w) (fun _ i _ => wl - (intOf i).toNat)
                    case atStart => exact ⟨0, Nat.zero_le _, by simp, rfl, H0⟩
                    case round =>
                      clear H0
                      obtain ⟨k, hk, hf, rfl, H⟩ := hrel
                      by_cases hlt3 : k < wl
                      · have hk3 : k < ls.length := by rw [hlsl.out]; exact hlt3
                        have hcat3 : Hid (ls.take (k + 1) = ls.take k ++ [ls[k]]) := (List.take_append_getElem hk3).symm
                        obtain ⟨b4, o4, rfl, H1⟩ := H.elemSoft (Split.there _ (Split.here _ _)) k [uv ls[k]] (by show 0 < 1; omega) (by rw [List.length_map]; show k + 1 ≤ _; omega) (by
                          intro i hi
                          have : i = 0 := by simp at hi; omega
                          subst this
                          simp [hk3])
                        clear H
                        have H := H1
                        clear H1
                        generalize ls[k] = y at *
                        clear hk3
                        by_cases hfm : id ∈ ls.take k
                        · rw [decide_eq_true hfm] at hf
                          subst hf
                          have hd : decide (id ∈ ls.take (k + 1)) = true := decide_eq_true (by rw [hcat3.out]; exact List.mem_append_left _ hfm)
                          have hfm' := Lib.hid hfm
                          clear hfm
                          have hc := H.cells; simp only [CellsOf, KnCells, knc, Nat.reduceAdd] at hc
                          repeat' (first | (go_big_may; (first
    | ((first
        | (refine loud_ rfl ?_; refine wpList_plain rfl (fun K hK => ?_); (first | (refine op_box _ _ rfl H (fun b w' H1 => hK _ _ ?_)) | (refine op_alloc _ rfl (zero_of _ _ rfl) H (fun b w' H1 => hK _ _ ?_)) | (refine op_store _ _ _ rfl rfl rfl H (by repeat (first | exact Split.here _ _ | apply Split.there)) (by kernel_rfl) (by kernel_rfl) (by kernel_rfl) (fun w' H1 => hK _ _ ?_)) | (refine op_buildSlice_all _ _ _ rfl (by first | exact elem25 | exact elem32 | exact elem35 | exact elem36 | exact elem37 | exact elem38 | exact elem41 | exact elem42 | exact elem45 | exact elem57 | exact elem62 | exact elem74 | exact elem98 | exact elem100 | exact elem137 | exact elem178 | exact elem179) (by kernel_rfl) (by kernel_rfl) (by kernel_rfl) H (fun b w' H1 => hK _ _ ?_))); clear hK K; replace H := H1; clear H1)); (try clear hc); (try simp only [nrm, splice, Value.cells, Nat.reduceAdd, Act.eval, Act.put] at H); have hc := H.cells; simp only [CellsOf, KnCells, knc, Nat.reduceAdd] at hc))) | go_values | go_skip | go_guarded | go_step | go_upon | go_back | dsimp only)
                          exact ⟨⟨k + 1, by omega, by rw [hd], by go_num, H.sel (by repeat (first | exact Sel.nil _ | (apply Sel.cons; focus (repeat (first | exact Split.here _ _ | apply Split.there)))))⟩, by simp [intOf]; omega⟩
                        · rw [decide_eq_false hfm] at hf
                          subst hf
                          by_cases e1 : y = id
                          · have hd : decide (id ∈ ls.take (k + 1)) = true := decide_eq_true (by rw [hcat3.out, e1]; simp)
                            have hfm' := Lib.hid hfm
                            clear hfm
                            have hc := H.cells; simp only [CellsOf, KnCells, knc, Nat.reduceAdd] at hc
                            repeat' (first | (go_big_may; (first
    | ((first
        | (refine loud_ rfl ?_; refine wpList_plain rfl (fun K hK => ?_); (first | (refine op_box _ _ rfl H (fun b w' H1 => hK _ _ ?_)) | (refine op_alloc _ rfl (zero_of _ _ rfl) H (fun b w' H1 => hK _ _ ?_)) | (refine op_store _ _ _ rfl rfl rfl H (by repeat (first | exact Split.here _ _ | apply Split.there)) (by kernel_rfl) (by kernel_rfl) (by kernel_rfl) (fun w' H1 => hK _ _ ?_)) | (refine op_buildSlice_all _ _ _ rfl (by first | exact elem25 | exact elem32 | exact elem35 | exact elem36 | exact elem37 | exact elem38 | exact elem41 | exact elem42 | exact elem45 | exact elem57 | exact elem62 | exact elem74 | exact elem98 | exact elem100 | exact elem137 | exact elem178 | exact elem179) (by kernel_rfl) (by kernel_rfl) (by kernel_rfl) H (fun b w' H1 => hK _ _ ?_))); clear hK K; replace H := H1; clear H1)); (try clear hc); (try simp only [nrm, splice, Value.cells, Nat.reduceAdd, Act.eval, Act.put] at H); have hc := H.cells; simp only [CellsOf, KnCells, knc, Nat.reduceAdd] at hc))) | go_values | go_skip | go_guarded | go_step | go_upon | go_back | dsimp only)
                            exact ⟨⟨k + 1, by omega, by rw [hd], by go_num, H.sel (by repeat (first | exact Sel.nil _ | (apply Sel.cons; focus (repeat (first | exact Split.here _ _ | apply Split.there)))))⟩, by simp [intOf]; omega⟩
                          · have hd : decide (id ∈ ls.take (k + 1)) = false := decide_eq_false (by
                              rw [hcat3.out]
                              intro h
                              rcases List.mem_append.1 h with h | h
                              · exact hfm h
                              · exact e1 (List.mem_singleton.1 h).symm)
                            have hfm' := Lib.hid hfm
                            clear hfm
                            have hyb : (y == id) = false := by simp [e1]
                            have hc := H.cells; simp only [CellsOf, KnCells, knc, Nat.reduceAdd] at hc
                            repeat' (first | (go_big_may; (first
    | ((first
        | (refine loud_ rfl ?_; refine wpList_plain rfl (fun K hK => ?_); (first | (refine op_box _ _ rfl H (fun b w' H1 => hK _ _ ?_)) | (refine op_alloc _ rfl (zero_of _ _ rfl) H (fun b w' H1 => hK _ _ ?_)) | (refine op_store _ _ _ rfl rfl rfl H (by repeat (first | exact Split.here _ _ | apply Split.there)) (by kernel_rfl) (by kernel_rfl) (by kernel_rfl) (fun w' H1 => hK _ _ ?_)) | (refine op_buildSlice_all _ _ _ rfl (by first | exact elem25 | exact elem32 | exact elem35 | exact elem36 | exact elem37 | exact elem38 | exact elem41 | exact elem42 | exact elem45 | exact elem57 | exact elem62 | exact elem74 | exact elem98 | exact elem100 | exact elem137 | exact elem178 | exact elem179) (by kernel_rfl) (by kernel_rfl) (by kernel_rfl) H (fun b w' H1 => hK _ _ ?_))); clear hK K; replace H := H1; clear H1)); (try clear hc); (try simp only [nrm, splice, Value.cells, Nat.reduceAdd, Act.eval, Act.put] at H); have hc := H.cells; simp only [CellsOf, KnCells, knc, Nat.reduceAdd] at hc))) | go_values | go_skip | go_guarded | go_step | go_upon | go_back | dsimp only)
                            exact ⟨⟨k + 1, by omega, by rw [hd], by go_num, H.sel (by repeat (first | exact Sel.nil _ | (apply Sel.cons; focus (repeat (first | exact Split.here _ _ | apply Split.there)))))⟩, by simp [intOf]; omega⟩
                      · obtain rfl : k = wl := by omega
                        rw [List.take_of_length_le (by rw [hlsl.out]; exact Nat.le_refl _), decide_eq_true hin.out] at hf
                        subst hf
                        have hc := H.cells; simp only [CellsOf, KnCells, knc, Nat.reduceAdd] at hc
                        repeat' (first | (go_big_may; (first
    | ((first
        | (refine loud_ rfl ?_; refine wpList_plain rfl (fun K hK => ?_); (first | (refine op_box _ _ rfl H (fun b w' H1 => hK _ _ ?_)) | (refine op_alloc _ rfl (zero_of _ _ rfl) H (fun b w' H1 => hK _ _ ?_)) | (refine op_store _ _ _ rfl rfl rfl H (by repeat (first | exact Split.here _ _ | apply Split.there)) (by kernel_rfl) (by kernel_rfl) (by kernel_rfl) (fun w' H1 => hK _ _ ?_)) | (refine op_buildSlice_all _ _ _ rfl (by first | exact elem25 | exact elem32 | exact elem35 | exact elem36 | exact elem37 | exact elem38 | exact elem41 | exact elem42 | exact elem45 | exact elem57 | exact elem62 | exact elem74 | exact elem98 | exact elem100 | exact elem137 | exact elem178 | exact elem179) (by kernel_rfl) (by kernel_rfl) (by kernel_rfl) H (fun b w' H1 => hK _ _ ?_))); clear hK K; replace H := H1; clear H1)); (try clear hc); (try simp only [nrm, splice, Value.cells, Nat.reduceAdd, Act.eval, Act.put] at H); have hc := H.cells; simp only [CellsOf, KnCells, knc, Nat.reduceAdd] at hc))) | go_values | go_skip | go_guarded | go_step | go_upon | go_back | dsimp only)
                        exact ⟨⟨t2 + 1, by omega, by go_num, H.sel (by repeat (first | exact Sel.nil _ | (apply Sel.cons; focus (repeat (first | exact Split.here _ _ | apply Split.there)))))⟩, by simp [intOf]; omega⟩
                  · obtain rfl : t2 = wl := by omega
                    have hc := H.cells; simp only [CellsOf, KnCells, knc, Nat.reduceAdd] at hc
                    repeat' (first | (go_big_may; (first
    | ((first
        | (refine loud_ rfl ?_; refine wpList_plain rfl (fun K hK => ?_); (first | (refine op_box _ _ rfl H (fun b w' H1 => hK _ _ ?_)) | (refine op_alloc _ rfl (zero_of _ _ rfl) H (fun b w' H1 => hK _ _ ?_)) | (refine op_store _ _ _ rfl rfl rfl H (by repeat (first | exact Split.here _ _ | apply Split.there)) (by kernel_rfl) (by kernel_rfl) (by kernel_rfl) (fun w' H1 => hK _ _ ?_)) | (refine op_buildSlice_all _ _ _ rfl (by first | exact elem25 | exact elem32 | exact elem35 | exact elem36 | exact elem37 | exact elem38 | exact elem41 | exact elem42 | exact elem45 | exact elem57 | exact elem62 | exact elem74 | exact elem98 | exact elem100 | exact elem137 | exact elem178 | exact elem179) (by kernel_rfl) (by kernel_rfl) (by kernel_rfl) H (fun b w' H1 => hK _ _ ?_))); clear hK K; replace H := H1; clear H1)); (try clear hc); (try simp only [nrm, splice, Value.cells, Nat.reduceAdd, Act.eval, Act.put] at H); have hc := H.cells; simp only [CellsOf, KnCells, knc, Nat.reduceAdd] at hc))) | go_values | go_skip | go_guarded | go_step | go_upon | go_back | dsimp only)
                    exact ⟨⟨2, by omega, by go_num, H.sel (by repeat (first | exact Sel.nil _ | (apply Sel.cons; focus (repeat (first | exact Split.here _ _ | apply Split.there)))))⟩, by simp [intOf]⟩
              · have hc := H.cells; simp only [CellsOf, KnCells, knc, Nat.reduceAdd] at hc
                repeat' (first | (go_big_may; (first
    | go_skip
    | ((first
        | (go_at_call 9; refine Calls.mono (awake_calls _) ?_; rintro e w' ⟨rfl, H'⟩; replace H := H.of_ext H'; clear H')
        | (refine loud_ rfl ?_; refine wpList_plain rfl (fun K hK => ?_); (first | (refine op_box _ _ rfl H (fun b w' H1 => hK _ _ ?_)) | (refine op_alloc _ rfl (zero_of _ _ rfl) H (fun b w' H1 => hK _ _ ?_)) | (refine op_store _ _ _ rfl rfl rfl H (by repeat (first | exact Split.here _ _ | apply Split.there)) (by kernel_rfl) (by kernel_rfl) (by kernel_rfl) (fun w' H1 => hK _ _ ?_)) | (refine op_buildSlice_all _ _ _ rfl (by first | exact elem25 | exact elem32 | exact elem35 | exact elem36 | exact elem37 | exact elem38 | exact elem41 | exact elem42 | exact elem45 | exact elem57 | exact elem62 | exact elem74 | exact elem98 | exact elem100 | exact elem137 | exact elem178 | exact elem179) (by kernel_rfl) (by kernel_rfl) (by kernel_rfl) H (fun b w' H1 => hK _ _ ?_))); clear hK K; replace H := H1; clear H1)); (try clear hc); (try simp only [nrm, splice, Value.cells, Nat.reduceAdd, Act.eval, Act.put] at H); have hc := H.cells; simp only [CellsOf, KnCells, knc, Nat.reduceAdd] at hc))) | go_values | go_skip | go_guarded | go_step | go_upon | go_back | dsimp only)
                go_ret
                exact ⟨rfl, H.ext⟩
    | true =>
      go_upto_region 6 with (first
    | ((first
        | (refine loud_ rfl ?_; refine wpList_plain rfl (fun K hK => ?_); (first | (refine op_box _ _ rfl H (fun b w' H1 => hK _ _ ?_)) | (refine op_alloc _ rfl (zero_of _ _ rfl) H (fun b w' H1 => hK _ _ ?_)) | (refine op_store _ _ _ rfl rfl rfl H (by repeat (first | exact Split.here _ _ | apply Split.there)) (by kernel_rfl) (by kernel_rfl) (by kernel_rfl) (fun w' H1 => hK _ _ ?_)) | (refine op_buildSlice_all _ _ _ rfl (by first | exact elem25 | exact elem32 | exact elem35 | exact elem36 | exact elem37 | exact elem38 | exact elem41 | exact elem42 | exact elem45 | exact elem57 | exact elem62 | exact elem74 | exact elem98 | exact elem100 | exact elem137 | exact elem178 | exact elem179) (by kernel_rfl) (by kernel_rfl) (by kernel_rfl) H (fun b w' H1 => hK _ _ ?_))); clear hK K; replace H := H1; clear H1)); (try clear hc); (try simp only [nrm, splice, Value.cells, Nat.reduceAdd, Act.eval, Act.put] at H); have hc := H.cells; simp only [CellsOf, KnCells, knc, Nat.reduceAdd] at hc))
      obtain ⟨b11, rfl⟩ : ∃ q, q = b := ⟨_, rfl⟩
      go_upto_region 10 with (first
    | ((first
        | (refine loud_ rfl ?_; refine wpList_plain rfl (fun K hK => ?_); (first | (refine op_append_lit _ _ _ rfl elem32 (key := none) (n := 0) (cap := 0) (xs := []) rfl rfl H (by repeat (first | exact Split.here _ _ | apply Split.there)) (by repeat (first | exact Split.here _ _ | apply Split.there)) (by kernel_rfl) (by kernel_rfl) (by omega) (by unfold maxLen; omega) (fun kw0 cw0 w' H1 => hK _ _ ?_)) | (refine op_box _ _ rfl H (fun b w' H1 => hK _ _ ?_)) | (refine op_alloc _ rfl (zero_of _ _ rfl) H (fun b w' H1 => hK _ _ ?_)) | (refine op_store _ _ _ rfl rfl rfl H (by repeat (first | exact Split.here _ _ | apply Split.there)) (by kernel_rfl) (by kernel_rfl) (by kernel_rfl) (fun w' H1 => hK _ _ ?_)) | (refine op_buildSlice_all _ _ _ rfl (by first | exact elem25 | exact elem32 | exact elem35 | exact elem36 | exact elem37 | exact elem38 | exact elem41 | exact elem42 | exact elem45 | exact elem57 | exact elem62 | exact elem74 | exact elem98 | exact elem100 | exact elem137 | exact elem178 | exact elem179) (by kernel_rfl) (by kernel_rfl) (by kernel_rfl) H (fun b w' H1 => hK _ _ ?_))); clear hK K; replace H := H1; clear H1)); (try clear hc); (try simp only [nrm, splice, Value.cells, Nat.reduceAdd, Act.eval, Act.put] at H); have hc := H.cells; simp only [CellsOf, KnCells, knc, Nat.reduceAdd] at hc))
      repeat' (first | (go_big_may; (first
    | ((first
        | (refine loud_ rfl ?_; refine wpList_plain rfl (fun K hK => ?_); (first | (refine op_box _ _ rfl H (fun b w' H1 => hK _ _ ?_)) | (refine op_alloc _ rfl (zero_of _ _ rfl) H (fun b w' H1 => hK _ _ ?_)) | (refine op_store _ _ _ rfl rfl rfl H (by repeat (first | exact Split.here _ _ | apply Split.there)) (by kernel_rfl) (by kernel_rfl) (by kernel_rfl) (fun w' H1 => hK _ _ ?_)) | (refine op_buildSlice_all _ _ _ rfl (by first | exact elem25 | exact elem32 | exact elem35 | exact elem36 | exact elem37 | exact elem38 | exact elem41 | exact elem42 | exact elem45 | exact elem57 | exact elem62 | exact elem74 | exact elem98 | exact elem100 | exact elem137 | exact elem178 | exact elem179) (by kernel_rfl) (by kernel_rfl) (by kernel_rfl) H (fun b w' H1 => hK _ _ ?_))); clear hK K; replace H := H1; clear H1)); (try clear hc); (try simp only [nrm, splice, Value.cells, Nat.reduceAdd, Act.eval, Act.put] at H); have hc := H.cells; simp only [CellsOf, KnCells, knc, Nat.reduceAdd] at hc))) | go_values | go_skip | go_guarded | go_step | go_upon | go_back | dsimp only)
      have hne1 : ((fh + 1) % 4294967296) ≠ fh := by omega
      have H1 := (H.ro (k := .is b11 _) (by repeat (first | exact Split.here _ _ | apply Split.there)))
      (try simp only [List.append, List.cons_append, List.nil_append] at H1)
      have H2 := (H1.ro (k := .is b6 _) (by repeat (first | exact Split.here _ _ | apply Split.there)))
      (try simp only [List.append, List.cons_append, List.nil_append] at H2)
      have hA0 : AtMj n own ⟨fh, fc, fr⟩ ⟨((fh + 1) % 4294967296), fc, fr⟩ psrc ps wsrc ws b6 b11 w (sl kw0 1 cw0) (.slice none 0 0) (.slice none 0 0) (.int .i64 0) w' :=
        ⟨0, [], [own], 1, none, none, kw0, 0, 0, cw0, Nat.zero_le _, rfl, rfl, rfl, rfl, by omega, ⟨hstart.out ((fh + 1) % 4294967296) [own] (by rw [if_pos hne1]), rfl⟩, ((H2.nilRow 29 6).nilRow 29 6).sel (by repeat (first | exact Sel.nil _ | (apply Sel.cons; focus (repeat (first | exact Split.here _ _ | apply Split.there)))))⟩
      clear H H1 H2 hc
      go_loopw [12, 13, 14, 72] (AtMj n own ⟨fh, fc, fr⟩ ⟨((fh + 1) % 4294967296), fc, fr⟩ psrc ps wsrc ws b6 b11 w) (fun _ _ _ i _ => n - (intOf i).toNat)
      case atStart => exact hA0
      case round =>
        clear hA0
        obtain ⟨j, L, W, wl, kl, ko, kw, cl, co, cw, hj, rfl, rfl, rfl, rfl, hwl, hmj, H⟩ := hrel
        by_cases hlt : j < n
        · have hj' : j < ps.length := by rw [hn.out]; exact hlt
          have hw' : j < ws.length := by rw [hm.out]; omega
          obtain ⟨b1, o1, rfl, H1⟩ := H.elemSoft (Split.there _ (Split.there _ (Split.there _ (Split.there _ (Split.there _ (Split.here _ _)))))) (j * 6) (ps[j]).cells (by show 0 < 6; omega) (by rw [pr_len]; show _ + 6 ≤ _; omega) (fun i hi => flat_at Pr.cells 6 ps (fun _ _ => rfl) j i hj' hi)
          obtain ⟨b2, o2, rfl, H2⟩ := H1.elemSoft (Split.there _ (Split.there _ (Split.there _ (Split.there _ (Split.there _ (Split.there _ (Split.there _ (Split.here _ _)))))))) j [bv ws[j]] (by show 0 < 1; omega) (by rw [List.length_map, hm.out]; show j + 1 ≤ m; omega) (by
            intro i hi
            have : i = 0 := by simp at hi; omega
            subst this
            simp [hw'])
          clear H H1
          have H := H2
          clear H2
          generalize ps[j] = p at *
          generalize ws[j] = wg at *
          obtain ⟨id, has, hash, compact, rev, err⟩ := p
          simp only [Pr.cells] at H
          clear hj' hw'
          have hnil : Hid ((ko.map fun b => (⟨b, 0, none⟩ : Addr)) = none → j = 0) := by
            intro h9
            have := H.get (k := .row ko 29 6 j co (L.reverse.flatMap Pr.cells)) (by repeat (first | exact Split.here _ _ | apply Split.there))
            cases ko with
            | none => exact this.1
            | some b => cases h9
          have hjm : j < m := by omega
          cases wg
          · have hc := H.cells; simp only [CellsOf, KnCells, knc, Nat.reduceAdd] at hc
            repeat' (first | (go_big_may; (first
    | ((first
        | (refine loud_ rfl ?_; refine wpList_plain rfl (fun K hK => ?_); (first | (refine op_box _ _ rfl H (fun b w' H1 => hK _ _ ?_)) | (refine op_alloc _ rfl (zero_of _ _ rfl) H (fun b w' H1 => hK _ _ ?_)) | (refine op_store _ _ _ rfl rfl rfl H (by repeat (first | exact Split.here _ _ | apply Split.there)) (by kernel_rfl) (by kernel_rfl) (by kernel_rfl) (fun w' H1 => hK _ _ ?_)) | (refine op_buildSlice_all _ _ _ rfl (by first | exact elem25 | exact elem32 | exact elem35 | exact elem36 | exact elem37 | exact elem38 | exact elem41 | exact elem42 | exact elem45 | exact elem57 | exact elem62 | exact elem74 | exact elem98 | exact elem100 | exact elem137 | exact elem178 | exact elem179) (by kernel_rfl) (by kernel_rfl) (by kernel_rfl) H (fun b w' H1 => hK _ _ ?_))); clear hK K; replace H := H1; clear H1)); (try clear hc); (try simp only [nrm, splice, Value.cells, Nat.reduceAdd, Act.eval, Act.put] at H); have hc := H.cells; simp only [CellsOf, KnCells, knc, Nat.reduceAdd] at hc))) | go_values | go_skip | go_guarded | go_step | go_upon | go_back | dsimp only)
            (try simp only [Act.put, slt])
            refine wp_region_plan_sub (.p [0] (.q [1] (.p [2] (.q [3] (.p [4] (.e 5 (.p [6] (.e 7 (.p [8] (.e 9 .done)))))))))) [9] (by kernel_rfl) (by kernel_rfl) (fun _ _ d _ _ h => by cases d <;> exact h) H (List.Sublist.cons _ (List.Sublist.refl _)) ?_
            clear H
            (try clear hc)
            intro X nX fX wd hcf hS H
            simp only [CellsOf, KnCells, knc, Nat.reduceAdd] at hcf
            have hc := H.cells
            simp only [CellsOf, KnCells, knc, Nat.reduceAdd] at hc
            iterate 1 (refine plan_p (o := ⟨_, _, _, _, _, _⟩) rfl (fun N hN => ?_); go_big_quiet_step (fail); refine wpQuiet_nil (hN _ ?_); clear hN N)
            refine plan_p0 ?_
            iterate 1 (refine plan_q (o := ⟨_, _, _, _, _, _⟩) rfl (fun N hN => ?_); go_big_quiet_step (fail); refine wpQuiet_nil (hN _ ?_); clear hN N)
            refine plan_q0 ?_
            iterate 1 (refine plan_p (o := ⟨_, _, _, _, _, _⟩) rfl (fun N hN => ?_); go_big_quiet_step (fail); refine wpQuiet_nil (hN _ ?_); clear hN N)
            refine plan_p0 ?_
            iterate 1 (refine plan_q (o := ⟨_, _, _, _, _, _⟩) rfl (fun N hN => ?_); go_big_quiet_step (fail); refine wpQuiet_nil (hN _ ?_); clear hN N)
            refine plan_q0 ?_
            iterate 1 (refine plan_p (o := ⟨_, _, _, _, _, _⟩) rfl (fun N hN => ?_); go_big_quiet_step (fail); refine wpQuiet_nil (hN _ ?_); clear hN N)
            refine plan_p0 ?_
            refine plan_e (o := ⟨_, _, _, _, _, _⟩) rfl rfl (fun K hK => ?_)
            (first | (refine op_box _ _ rfl H (fun b w' H1 => ?_); replace H := H1; clear H1) | (refine op_alloc _ rfl (zero_of _ _ rfl) H (fun b w' H1 => ?_); replace H := H1; clear H1) | (refine op_store _ _ _ rfl rfl rfl H (by repeat (first | exact Split.here _ _ | apply Split.there)) (by kernel_rfl) (by kernel_rfl) (by kernel_rfl) (fun w' H1 => ?_); replace H := H1; clear H1) | (refine op_buildSlice_all _ _ _ rfl (by first | exact elem25 | exact elem32 | exact elem35 | exact elem36 | exact elem37 | exact elem38 | exact elem41 | exact elem42 | exact elem45 | exact elem57 | exact elem62 | exact elem74 | exact elem98 | exact elem100 | exact elem137 | exact elem178 | exact elem179) (by kernel_rfl) (by kernel_rfl) (by kernel_rfl) H (fun b w' H1 => ?_); replace H := H1; clear H1)); (try clear hc); (try simp only [nrm, splice, Value.cells, Nat.reduceAdd, Act.eval, Act.put] at H); have hc := H.cells; simp only [CellsOf, KnCells, knc, Nat.reduceAdd] at hc; refine hK _ _ (fun _ _ => hS _ (H.sublist (by repeat (first | exact List.Sublist.refl _ | exact List.nil_sublist _ | apply List.Sublist.cons_cons | apply List.Sublist.cons))).all) ?_; clear hK K; (try simp only [Act.put, slt])
            iterate 1 (refine plan_p (o := ⟨_, _, _, _, _, _⟩) rfl (fun N hN => ?_); go_big_quiet_step (fail); refine wpQuiet_nil (hN _ ?_); clear hN N)
            refine plan_p0 ?_
            refine plan_e (o := ⟨_, _, _, _, _, _⟩) rfl rfl (fun K hK => ?_)
            (first | (refine op_box _ _ rfl H (fun b w' H1 => ?_); replace H := H1; clear H1) | (refine op_alloc _ rfl (zero_of _ _ rfl) H (fun b w' H1 => ?_); replace H := H1; clear H1) | (refine op_store _ _ _ rfl rfl rfl H (by repeat (first | exact Split.here _ _ | apply Split.there)) (by kernel_rfl) (by kernel_rfl) (by kernel_rfl) (fun w' H1 => ?_); replace H := H1; clear H1) | (refine op_buildSlice_all _ _ _ rfl (by first | exact elem25 | exact elem32 | exact elem35 | exact elem36 | exact elem37 | exact elem38 | exact elem41 | exact elem42 | exact elem45 | exact elem57 | exact elem62 | exact elem74 | exact elem98 | exact elem100 | exact elem137 | exact elem178 | exact elem179) (by kernel_rfl) (by kernel_rfl) (by kernel_rfl) H (fun b w' H1 => ?_); replace H := H1; clear H1)); (try clear hc); (try simp only [nrm, splice, Value.cells, Nat.reduceAdd, Act.eval, Act.put] at H); have hc := H.cells; simp only [CellsOf, KnCells, knc, Nat.reduceAdd] at hc; refine hK _ _ (fun _ _ => hS _ (H.sublist (by repeat (first | exact List.Sublist.refl _ | exact List.nil_sublist _ | apply List.Sublist.cons_cons | apply List.Sublist.cons))).all) ?_; clear hK K; (try simp only [Act.put, slt])
            iterate 1 (refine plan_p (o := ⟨_, _, _, _, _, _⟩) rfl (fun N hN => ?_); go_big_quiet_step (fail); refine wpQuiet_nil (hN _ ?_); clear hN N)
            refine plan_p0 ?_
            refine plan_e (o := ⟨_, _, _, _, _, _⟩) rfl rfl (fun K hK => ?_)
            (first | (refine op_box _ _ rfl H (fun b w' H1 => ?_); replace H := H1; clear H1) | (refine op_alloc _ rfl (zero_of _ _ rfl) H (fun b w' H1 => ?_); replace H := H1; clear H1) | (refine op_store _ _ _ rfl rfl rfl H (by repeat (first | exact Split.here _ _ | apply Split.there)) (by kernel_rfl) (by kernel_rfl) (by kernel_rfl) (fun w' H1 => ?_); replace H := H1; clear H1) | (refine op_buildSlice_all _ _ _ rfl (by first | exact elem25 | exact elem32 | exact elem35 | exact elem36 | exact elem37 | exact elem38 | exact elem41 | exact elem42 | exact elem45 | exact elem57 | exact elem62 | exact elem74 | exact elem98 | exact elem100 | exact elem137 | exact elem178 | exact elem179) (by kernel_rfl) (by kernel_rfl) (by kernel_rfl) H (fun b w' H1 => ?_); replace H := H1; clear H1)); (try clear hc); (try simp only [nrm, splice, Value.cells, Nat.reduceAdd, Act.eval, Act.put] at H); have hc := H.cells; simp only [CellsOf, KnCells, knc, Nat.reduceAdd] at hc; refine hK _ _ (fun h => (h (by decide)).elim) ?_; clear hK K; (try simp only [Act.put, slt])
            refine plan_done ?_
            repeat' (first | (go_big_may; (first
    | ((first
        | (refine loud_ rfl ?_; refine wpList_plain rfl (fun K hK => ?_); (first | (refine op_append_lit _ _ _ rfl elem32 (key := kw) (n := wl) (cap := cw) rfl rfl H (by repeat (first | exact Split.here _ _ | apply Split.there)) (by repeat (first | exact Split.here _ _ | apply Split.there)) (by kernel_rfl) (by kernel_rfl) (by omega) (by unfold maxLen; omega) (fun key3 cap3 w' H1 => hK _ _ ?_)) | (refine op_append_lit _ _ _ rfl elem25 (key := kl) (n := j) (cap := cl) rfl rfl H (by repeat (first | exact Split.here _ _ | apply Split.there)) (by repeat (first | exact Split.here _ _ | apply Split.there)) (by kernel_rfl) (by kernel_rfl) (by omega) (by unfold maxLen; omega) (fun key4 cap4 w' H1 => hK _ _ ?_)) | (refine op_append_lies _ _ _ rfl elem25 (key := some b) (n := 1) (cap := 1) (m := j) (ys := L.reverse.flatMap Pr.cells) rfl rfl (lit_rowN 6 H (b := b) (by repeat (first | exact Split.here _ _ | apply Split.there)) rfl) (Split.here _ _) (lies_of_row1 (H.get (k := .row ko 29 6 j co (L.reverse.flatMap Pr.cells)) (by repeat (first | exact Split.here _ _ | apply Split.there)))) (by rw [pr_len, List.length_reverse, hmj.out.1.1]) hnil.out (pr_ones _) (by omega) (by unfold maxLen; omega) (fun key2 cap2 w' H1 => hK _ _ ?_)) | (refine op_box _ _ rfl H (fun b w' H1 => hK _ _ ?_)) | (refine op_alloc _ rfl (zero_of _ _ rfl) H (fun b w' H1 => hK _ _ ?_)) | (refine op_store _ _ _ rfl rfl rfl H (by repeat (first | exact Split.here _ _ | apply Split.there)) (by kernel_rfl) (by kernel_rfl) (by kernel_rfl) (fun w' H1 => hK _ _ ?_)) | (refine op_buildSlice_all _ _ _ rfl (by first | exact elem25 | exact elem32 | exact elem35 | exact elem36 | exact elem37 | exact elem38 | exact elem41 | exact elem42 | exact elem45 | exact elem57 | exact elem62 | exact elem74 | exact elem98 | exact elem100 | exact elem137 | exact elem178 | exact elem179) (by kernel_rfl) (by kernel_rfl) (by kernel_rfl) H (fun b w' H1 => hK _ _ ?_))); clear hK K; replace H := H1; clear H1)); (try clear hc); (try simp only [nrm, splice, Value.cells, Nat.reduceAdd, Act.eval, Act.put] at H); have hc := H.cells; simp only [CellsOf, KnCells, knc, Nat.reduceAdd] at hc))) | go_values | go_skip | go_guarded | go_step | go_upon | go_back | dsimp only)
            have hp9 := mj_snoc hmj.out.1 ⟨id, true, fh, fc, rev, err⟩ ⟨rfl, rfl⟩
            rw [if_neg (by simp), List.append_nil] at hp9
            have e1 : (L ++ [(⟨id, true, fh, fc, rev, err⟩ : Pr)]).flatMap Pr.cells = L.flatMap Pr.cells ++ [.int .u64 id, .bool true, .int .u32 fh, .int .i64 fc, .int .i64 rev, .int .i64 err] := by simp [Pr.cells]
            have e2 : (L ++ [(⟨id, true, fh, fc, rev, err⟩ : Pr)]).reverse.flatMap Pr.cells = .int .u64 id :: .bool true :: .int .u32 fh :: .int .i64 fc :: .int .i64 rev :: .int .i64 err :: L.reverse.flatMap Pr.cells := by simp [Pr.cells]
            simp only [Nat.add_comm 1 j] at H ⊢
            refine ⟨⟨j + 1, L ++ [⟨id, true, fh, fc, rev, err⟩], W, wl, key4, key2, kw, cap4, cap2, cw, by omega, by go_num, rfl, rfl, rfl, by omega, ⟨hp9, hmj.out.2⟩, ?_⟩, by simp [intOf]; omega⟩
            rw [e1, e2]
            exact H.sel (by repeat (first | exact Sel.nil _ | (apply Sel.cons; focus (repeat (first | exact Split.here _ _ | apply Split.there)))))
          · have hc := H.cells; simp only [CellsOf, KnCells, knc, Nat.reduceAdd] at hc
            repeat' (first | (go_big_may; (first
    | ((first
        | (refine loud_ rfl ?_; refine wpList_plain rfl (fun K hK => ?_); (first | (refine op_box _ _ rfl H (fun b w' H1 => hK _ _ ?_)) | (refine op_alloc _ rfl (zero_of _ _ rfl) H (fun b w' H1 => hK _ _ ?_)) | (refine op_store _ _ _ rfl rfl rfl H (by repeat (first | exact Split.here _ _ | apply Split.there)) (by kernel_rfl) (by kernel_rfl) (by kernel_rfl) (fun w' H1 => hK _ _ ?_)) | (refine op_buildSlice_all _ _ _ rfl (by first | exact elem25 | exact elem32 | exact elem35 | exact elem36 | exact elem37 | exact elem38 | exact elem41 | exact elem42 | exact elem45 | exact elem57 | exact elem62 | exact elem74 | exact elem98 | exact elem100 | exact elem137 | exact elem178 | exact elem179) (by kernel_rfl) (by kernel_rfl) (by kernel_rfl) H (fun b w' H1 => hK _ _ ?_))); clear hK K; replace H := H1; clear H1)); (try clear hc); (try simp only [nrm, splice, Value.cells, Nat.reduceAdd, Act.eval, Act.put] at H); have hc := H.cells; simp only [CellsOf, KnCells, knc, Nat.reduceAdd] at hc))) | go_values | go_skip | go_guarded | go_step | go_upon | go_back | dsimp only)
            (try simp only [Act.put, slt])
            refine wp_region_plan_sub (.p [0] (.q [1] (.p [2] (.q [3] (.p [4] (.e 5 (.p [6] (.e 7 (.p [8] (.e 9 .done)))))))))) [9] (by kernel_rfl) (by kernel_rfl) (fun _ _ d _ _ h => by cases d <;> exact h) H (List.Sublist.cons _ (List.Sublist.refl _)) ?_
            clear H
            (try clear hc)
            intro X nX fX wd hcf hS H
            simp only [CellsOf, KnCells, knc, Nat.reduceAdd] at hcf
            have hc := H.cells
            simp only [CellsOf, KnCells, knc, Nat.reduceAdd] at hc
            iterate 1 (refine plan_p (o := ⟨_, _, _, _, _, _⟩) rfl (fun N hN => ?_); go_big_quiet_step (fail); refine wpQuiet_nil (hN _ ?_); clear hN N)
            refine plan_p0 ?_
            iterate 1 (refine plan_q (o := ⟨_, _, _, _, _, _⟩) rfl (fun N hN => ?_); go_big_quiet_step (fail); refine wpQuiet_nil (hN _ ?_); clear hN N)
            refine plan_q0 ?_
            iterate 1 (refine plan_p (o := ⟨_, _, _, _, _, _⟩) rfl (fun N hN => ?_); go_big_quiet_step (fail); refine wpQuiet_nil (hN _ ?_); clear hN N)
            refine plan_p0 ?_
            iterate 1 (refine plan_q (o := ⟨_, _, _, _, _, _⟩) rfl (fun N hN => ?_); go_big_quiet_step (fail); refine wpQuiet_nil (hN _ ?_); clear hN N)
            refine plan_q0 ?_
            iterate 1 (refine plan_p (o := ⟨_, _, _, _, _, _⟩) rfl (fun N hN => ?_); go_big_quiet_step (fail); refine wpQuiet_nil (hN _ ?_); clear hN N)
            refine plan_p0 ?_
            refine plan_e (o := ⟨_, _, _, _, _, _⟩) rfl rfl (fun K hK => ?_)
            (first | (refine op_box _ _ rfl H (fun b w' H1 => ?_); replace H := H1; clear H1) | (refine op_alloc _ rfl (zero_of _ _ rfl) H (fun b w' H1 => ?_); replace H := H1; clear H1) | (refine op_store _ _ _ rfl rfl rfl H (by repeat (first | exact Split.here _ _ | apply Split.there)) (by kernel_rfl) (by kernel_rfl) (by kernel_rfl) (fun w' H1 => ?_); replace H := H1; clear H1) | (refine op_buildSlice_all _ _ _ rfl (by first | exact elem25 | exact elem32 | exact elem35 | exact elem36 | exact elem37 | exact elem38 | exact elem41 | exact elem42 | exact elem45 | exact elem57 | exact elem62 | exact elem74 | exact elem98 | exact elem100 | exact elem137 | exact elem178 | exact elem179) (by kernel_rfl) (by kernel_rfl) (by kernel_rfl) H (fun b w' H1 => ?_); replace H := H1; clear H1)); (try clear hc); (try simp only [nrm, splice, Value.cells, Nat.reduceAdd, Act.eval, Act.put] at H); have hc := H.cells; simp only [CellsOf, KnCells, knc, Nat.reduceAdd] at hc; refine hK _ _ (fun _ _ => hS _ (H.sublist (by repeat (first | exact List.Sublist.refl _ | exact List.nil_sublist _ | apply List.Sublist.cons_cons | apply List.Sublist.cons))).all) ?_; clear hK K; (try simp only [Act.put, slt])
            iterate 1 (refine plan_p (o := ⟨_, _, _, _, _, _⟩) rfl (fun N hN => ?_); go_big_quiet_step (fail); refine wpQuiet_nil (hN _ ?_); clear hN N)
            refine plan_p0 ?_
            refine plan_e (o := ⟨_, _, _, _, _, _⟩) rfl rfl (fun K hK => ?_)
            (first | (refine op_box _ _ rfl H (fun b w' H1 => ?_); replace H := H1; clear H1) | (refine op_alloc _ rfl (zero_of _ _ rfl) H (fun b w' H1 => ?_); replace H := H1; clear H1) | (refine op_store _ _ _ rfl rfl rfl H (by repeat (first | exact Split.here _ _ | apply Split.there)) (by kernel_rfl) (by kernel_rfl) (by kernel_rfl) (fun w' H1 => ?_); replace H := H1; clear H1) | (refine op_buildSlice_all _ _ _ rfl (by first | exact elem25 | exact elem32 | exact elem35 | exact elem36 | exact elem37 | exact elem38 | exact elem41 | exact elem42 | exact elem45 | exact elem57 | exact elem62 | exact elem74 | exact elem98 | exact elem100 | exact elem137 | exact elem178 | exact elem179) (by kernel_rfl) (by kernel_rfl) (by kernel_rfl) H (fun b w' H1 => ?_); replace H := H1; clear H1)); (try clear hc); (try simp only [nrm, splice, Value.cells, Nat.reduceAdd, Act.eval, Act.put] at H); have hc := H.cells; simp only [CellsOf, KnCells, knc, Nat.reduceAdd] at hc; refine hK _ _ (fun _ _ => hS _ (H.sublist (by repeat (first | exact List.Sublist.refl _ | exact List.nil_sublist _ | apply List.Sublist.cons_cons | apply List.Sublist.cons))).all) ?_; clear hK K; (try simp only [Act.put, slt])
            iterate 1 (refine plan_p (o := ⟨_, _, _, _, _, _⟩) rfl (fun N hN => ?_); go_big_quiet_step (fail); refine wpQuiet_nil (hN _ ?_); clear hN N)
            refine plan_p0 ?_
            refine plan_e (o := ⟨_, _, _, _, _, _⟩) rfl rfl (fun K hK => ?_)
            (first | (refine op_box _ _ rfl H (fun b w' H1 => ?_); replace H := H1; clear H1) | (refine op_alloc _ rfl (zero_of _ _ rfl) H (fun b w' H1 => ?_); replace H := H1; clear H1) | (refine op_store _ _ _ rfl rfl rfl H (by repeat (first | exact Split.here _ _ | apply Split.there)) (by kernel_rfl) (by kernel_rfl) (by kernel_rfl) (fun w' H1 => ?_); replace H := H1; clear H1) | (refine op_buildSlice_all _ _ _ rfl (by first | exact elem25 | exact elem32 | exact elem35 | exact elem36 | exact elem37 | exact elem38 | exact elem41 | exact elem42 | exact elem45 | exact elem57 | exact elem62 | exact elem74 | exact elem98 | exact elem100 | exact elem137 | exact elem178 | exact elem179) (by kernel_rfl) (by kernel_rfl) (by kernel_rfl) H (fun b w' H1 => ?_); replace H := H1; clear H1)); (try clear hc); (try simp only [nrm, splice, Value.cells, Nat.reduceAdd, Act.eval, Act.put] at H); have hc := H.cells; simp only [CellsOf, KnCells, knc, Nat.reduceAdd] at hc; refine hK _ _ (fun h => (h (by decide)).elim) ?_; clear hK K; (try simp only [Act.put, slt])
            refine plan_done ?_
            repeat' (first | (go_big_may; (first
    | ((first
        | (refine loud_ rfl ?_; refine wpList_plain rfl (fun K hK => ?_); (first | (refine op_append_lit _ _ _ rfl elem32 (key := kw) (n := wl) (cap := cw) rfl rfl H (by repeat (first | exact Split.here _ _ | apply Split.there)) (by repeat (first | exact Split.here _ _ | apply Split.there)) (by kernel_rfl) (by kernel_rfl) (by omega) (by unfold maxLen; omega) (fun key3 cap3 w' H1 => hK _ _ ?_)) | (refine op_append_lit _ _ _ rfl elem25 (key := kl) (n := j) (cap := cl) rfl rfl H (by repeat (first | exact Split.here _ _ | apply Split.there)) (by repeat (first | exact Split.here _ _ | apply Split.there)) (by kernel_rfl) (by kernel_rfl) (by omega) (by unfold maxLen; omega) (fun key4 cap4 w' H1 => hK _ _ ?_)) | (refine op_append_lies _ _ _ rfl elem25 (key := some b) (n := 1) (cap := 1) (m := j) (ys := L.reverse.flatMap Pr.cells) rfl rfl (lit_rowN 6 H (b := b) (by repeat (first | exact Split.here _ _ | apply Split.there)) rfl) (Split.here _ _) (lies_of_row1 (H.get (k := .row ko 29 6 j co (L.reverse.flatMap Pr.cells)) (by repeat (first | exact Split.here _ _ | apply Split.there)))) (by rw [pr_len, List.length_reverse, hmj.out.1.1]) hnil.out (pr_ones _) (by omega) (by unfold maxLen; omega) (fun key2 cap2 w' H1 => hK _ _ ?_)) | (refine op_box _ _ rfl H (fun b w' H1 => hK _ _ ?_)) | (refine op_alloc _ rfl (zero_of _ _ rfl) H (fun b w' H1 => hK _ _ ?_)) | (refine op_store _ _ _ rfl rfl rfl H (by repeat (first | exact Split.here _ _ | apply Split.there)) (by kernel_rfl) (by kernel_rfl) (by kernel_rfl) (fun w' H1 => hK _ _ ?_)) | (refine op_buildSlice_all _ _ _ rfl (by first | exact elem25 | exact elem32 | exact elem35 | exact elem36 | exact elem37 | exact elem38 | exact elem41 | exact elem42 | exact elem45 | exact elem57 | exact elem62 | exact elem74 | exact elem98 | exact elem100 | exact elem137 | exact elem178 | exact elem179) (by kernel_rfl) (by kernel_rfl) (by kernel_rfl) H (fun b w' H1 => hK _ _ ?_))); clear hK K; replace H := H1; clear H1)); (try clear hc); (try simp only [nrm, splice, Value.cells, Nat.reduceAdd, Act.eval, Act.put] at H); have hc := H.cells; simp only [CellsOf, KnCells, knc, Nat.reduceAdd] at hc))) | go_values | go_skip | go_guarded | go_step | go_upon | go_back | dsimp only)
            have hp9 := mj_snoc hmj.out.1 ⟨id, true, ((fh + 2 + (j : Int)) % 4294967296), fc, rev, err⟩ ⟨rfl, rfl⟩
            rw [if_pos (by show (fh + 2 + (j : Int)) % 4294967296 ≠ fh; omega)] at hp9
            have e1 : (L ++ [(⟨id, true, ((fh + 2 + (j : Int)) % 4294967296), fc, rev, err⟩ : Pr)]).flatMap Pr.cells = L.flatMap Pr.cells ++ [.int .u64 id, .bool true, .int .u32 ((fh + 2 + (j : Int)) % 4294967296), .int .i64 fc, .int .i64 rev, .int .i64 err] := by simp [Pr.cells]
            have e2 : (L ++ [(⟨id, true, ((fh + 2 + (j : Int)) % 4294967296), fc, rev, err⟩ : Pr)]).reverse.flatMap Pr.cells = .int .u64 id :: .bool true :: .int .u32 ((fh + 2 + (j : Int)) % 4294967296) :: .int .i64 fc :: .int .i64 rev :: .int .i64 err :: L.reverse.flatMap Pr.cells := by simp [Pr.cells]
            simp only [Nat.add_comm 1 j] at H ⊢
            refine ⟨⟨j + 1, L ++ [⟨id, true, ((fh + 2 + (j : Int)) % 4294967296), fc, rev, err⟩], (W ++ [id]), (wl + 1), key4, key2, key3, cap4, cap2, cap3, by omega, by go_num, rfl, rfl, rfl, by omega, ⟨hp9, by rw [List.length_append, hmj.out.2]; rfl⟩, ?_⟩, by simp [intOf]; omega⟩
            rw [e1, e2]
            rw [List.map_append, List.map_cons, List.map_nil]
            exact H.sel (by repeat (first | exact Sel.nil _ | (apply Sel.cons; focus (repeat (first | exact Split.here _ _ | apply Split.there)))))
        · obtain rfl : j = n := by omega
          by_cases c9 : (j : Int) + 1 ≤ 2 * (wl : Int)
          · have hc := H.cells; simp only [CellsOf, KnCells, knc, Nat.reduceAdd] at hc
            repeat' (first | (go_big_may; (first
    | ((first
        | (refine loud_ rfl ?_; refine wpList_plain rfl (fun K hK => ?_); (first | (refine op_box _ _ rfl H (fun b w' H1 => hK _ _ ?_)) | (refine op_alloc _ rfl (zero_of _ _ rfl) H (fun b w' H1 => hK _ _ ?_)) | (refine op_store _ _ _ rfl rfl rfl H (by repeat (first | exact Split.here _ _ | apply Split.there)) (by kernel_rfl) (by kernel_rfl) (by kernel_rfl) (fun w' H1 => hK _ _ ?_)) | (refine op_buildSlice_all _ _ _ rfl (by first | exact elem25 | exact elem32 | exact elem35 | exact elem36 | exact elem37 | exact elem38 | exact elem41 | exact elem42 | exact elem45 | exact elem57 | exact elem62 | exact elem74 | exact elem98 | exact elem100 | exact elem137 | exact elem178 | exact elem179) (by kernel_rfl) (by kernel_rfl) (by kernel_rfl) H (fun b w' H1 => hK _ _ ?_))); clear hK K; replace H := H1; clear H1)); (try clear hc); (try simp only [nrm, splice, Value.cells, Nat.reduceAdd, Act.eval, Act.put] at H); have hc := H.cells; simp only [CellsOf, KnCells, knc, Nat.reduceAdd] at hc))) | go_values | go_skip | go_guarded | go_step | go_upon | go_back | dsimp only)
            go_ret
            exact ⟨rfl, H.ext⟩
          · have hc := H.cells; simp only [CellsOf, KnCells, knc, Nat.reduceAdd] at hc
            repeat' (first | (go_big_may; (first
    | ((first
        | (refine loud_ rfl ?_; refine wpList_plain rfl (fun K hK => ?_); (first | (refine op_box _ _ rfl H (fun b w' H1 => hK _ _ ?_)) | (refine op_alloc _ rfl (zero_of _ _ rfl) H (fun b w' H1 => hK _ _ ?_)) | (refine op_store _ _ _ rfl rfl rfl H (by repeat (first | exact Split.here _ _ | apply Split.there)) (by kernel_rfl) (by kernel_rfl) (by kernel_rfl) (fun w' H1 => hK _ _ ?_)) | (refine op_buildSlice_all _ _ _ rfl (by first | exact elem25 | exact elem32 | exact elem35 | exact elem36 | exact elem37 | exact elem38 | exact elem41 | exact elem42 | exact elem45 | exact elem57 | exact elem62 | exact elem74 | exact elem98 | exact elem100 | exact elem137 | exact elem178 | exact elem179) (by kernel_rfl) (by kernel_rfl) (by kernel_rfl) H (fun b w' H1 => hK _ _ ?_))); clear hK K; replace H := H1; clear H1)); (try clear hc); (try simp only [nrm, splice, Value.cells, Nat.reduceAdd, Act.eval, Act.put] at H); have hc := H.cells; simp only [CellsOf, KnCells, knc, Nat.reduceAdd] at hc))) | go_values | go_skip | go_guarded | go_step | go_upon | go_back | dsimp only)
            obtain ⟨bb, rfl⟩ : ∃ q, q = b := ⟨_, rfl⟩
            have H1 := H.ro (k := .is bb _) (by repeat (first | exact Split.here _ _ | apply Split.there))
            (try simp only [List.append, List.cons_append, List.nil_append] at H1)
            replace H1 := H1.rowSoft (key := kw) (by repeat (first | exact Split.here _ _ | apply Split.there))
            (try simp only [List.append, List.cons_append, List.nil_append] at H1)
            (try rw [show sl kw wl cw = Value.slice (kw.map fun b => (⟨b, 0, none⟩ : Addr)) wl cw from rfl])
            generalize (kw.map fun b => (⟨b, 0, none⟩ : Addr)) = sw at *
            have H0 := H1.sel (L' := [(false, .is bb (.cells #[sl kl j cl, sl ko j co] 25 (0, 0))), (true, .row kl 29 6 j cl (L.flatMap Pr.cells)), (true, .row ko 29 6 j co (L.reverse.flatMap Pr.cells)), (false, soft sw (W.map uv)), (false, .is b6 (ckO ⟨fh, fc, fr⟩)), (false, .is b11 (ckO ⟨((fh + 1) % 4294967296), fc, fr⟩))]) (by repeat (first | exact Sel.nil _ | (apply Sel.cons; focus (repeat (first | exact Split.here _ _ | apply Split.there)))))
            clear H H1 hc
            have hrev : Hid (1 ≤ (KH.mk ((fh + 1) % 4294967296) fc fr).rev) := by show 1 ≤ fr; omega
            have hW := hmj.out.1.2.2
            have hWl := hmj.out.2
            have hmin1 : Hid (2 * (wrongs own ⟨((fh + 1) % 4294967296), fc, fr⟩ fh L).length < j + 1) := by
              show 2 * _ < _
              have : (wrongs own ⟨((fh + 1) % 4294967296), fc, fr⟩ fh L).length = wl := by rw [hWl, hW]
              omega
            have hmin2 : Hid (2 * (wrongs own ⟨((fh + 1) % 4294967296), fc, fr⟩ fh L.reverse).length < j + 1) := by
              show 2 * _ < _
              rw [(wrongs_rev _ _ _ _).length_eq]
              exact hmin1.out
            have hW1 := Lib.hid hW
            have hWl1 := Lib.hid hWl
            clear hW hWl
            have hL1 : Hid (L.length = j) := hmj.out.1.1
            have hL2 : Hid (L.reverse.length = j) := by show _ = _; rw [List.length_reverse]; exact hL1.out
            have ha1 : Hid (∀ p ∈ L, p.has = true ∧ p.compact = (KH.mk ((fh + 1) % 4294967296) fc fr).compact) := hmj.out.1.2.1
            have ha2 : Hid (∀ p ∈ L.reverse, p.has = true ∧ p.compact = (KH.mk ((fh + 1) % 4294967296) fc fr).compact) := fun p hp => ha1.out p (List.mem_reverse.1 hp)
            go_loopw [120] (AtM2 ⟨fh, fc, fr⟩ ⟨((fh + 1) % 4294967296), fc, fr⟩ L W j bb b6 b11 kl ko sw cl co w) (fun i _ => 2 - (intOf i).toNat)
            case atStart => exact ⟨0, by omega, rfl, H0⟩
            case round =>
              clear H0
              obtain ⟨t, ht, rfl, H⟩ := hrel
              rcases (by omega : t = 0 ∨ t = 1 ∨ t = 2) with rfl | rfl | rfl
              · have hc := H.cells; simp only [CellsOf, KnCells, knc, Nat.reduceAdd] at hc
                repeat' (first | (go_big_may; (first
    | go_skip
    | ((first
        | (go_at_call 11; refine Calls.mono (compact_major own ⟨((fh + 1) % 4294967296), fc, fr⟩ fh L _ _ _ _ kl j cl hL1 (by omega) hn12 ha1 hmin1 hrev _ (H.pick (by repeat (first | exact Picks.nil _ | (apply Picks.wr; focus (repeat (first | exact Split.here _ _ | apply Split.there))) | (apply Picks.rd; focus (repeat (first | exact Split.here _ _ | apply Split.there))))))) ?_; rintro e w' ⟨k7, k8, c7, c8, ka, na, ca, kq, cq, ls, hls, rfl, H'⟩; replace H := H.merge (by first | exact Strikes.nil _ | (repeat (first | exact Strikes.nil _ | (apply Strikes.cons; focus (repeat (first | exact Split.here _ _ | apply Split.there)))))) H' rfl; clear H')
        | (refine loud_ rfl ?_; refine wpList_plain rfl (fun K hK => ?_); (first | (refine op_box _ _ rfl H (fun b w' H1 => hK _ _ ?_)) | (refine op_alloc _ rfl (zero_of _ _ rfl) H (fun b w' H1 => hK _ _ ?_)) | (refine op_store _ _ _ rfl rfl rfl H (by repeat (first | exact Split.here _ _ | apply Split.there)) (by kernel_rfl) (by kernel_rfl) (by kernel_rfl) (fun w' H1 => hK _ _ ?_)) | (refine op_buildSlice_all _ _ _ rfl (by first | exact elem25 | exact elem32 | exact elem35 | exact elem36 | exact elem37 | exact elem38 | exact elem41 | exact elem42 | exact elem45 | exact elem57 | exact elem62 | exact elem74 | exact elem98 | exact elem100 | exact elem137 | exact elem178 | exact elem179) (by kernel_rfl) (by kernel_rfl) (by kernel_rfl) H (fun b w' H1 => hK _ _ ?_))); clear hK K; replace H := H1; clear H1)); (try clear hc); (try simp only [nrm, splice, Value.cells, Nat.reduceAdd, Act.eval, Act.put] at H); have hc := H.cells; simp only [CellsOf, KnCells, knc, Nat.reduceAdd] at hc))) | go_values | go_skip | go_guarded | go_step | go_upon | go_back | dsimp only)
                have hna : wl = na := by rw [hls.out.2, hls.out.1.length_eq, hWl1.out, hW1.out]
                subst hna
                have hmem : Hid (∀ x ∈ W, x ∈ ls) := fun x hx => hls.out.1.mem_iff.2 (by rw [hW1.out] at hx; exact hx)
                have hlsl : Hid (ls.length = wl) := hls.out.2.symm
                (try simp only [Act.put, slt])
                refine wp_region_plan (.p [0, 1, 2, 3, 4, 5] (.q [6] (.p [7, 8, 9, 10, 11, 12, 13, 14, 15, 16, 17, 18, 19] (.q [20] (.p [21] (.q [22] (.e 23 (.e 24 (.p [25, 26] .done))))))))) [24] (by kernel_rfl) (by kernel_rfl) (fun _ _ d _ _ h => by cases d <;> exact h) H ?_
                clear H
                (try clear hc)
                intro X nX fX wd hcf hS H
                simp only [CellsOf, KnCells, knc, Nat.reduceAdd] at hcf
                have hc := H.cells
                simp only [CellsOf, KnCells, knc, Nat.reduceAdd] at hc
                iterate 4 (refine plan_p (o := ⟨_, _, _, _, _, _⟩) rfl (fun N hN => ?_); go_big_quiet_step (fail); refine wpQuiet_nil (hN _ ?_); clear hN N)
                iterate 1 (refine plan_p (o := ⟨_, _, _, _, _, _⟩) rfl (fun N hN => ?_); go_big_quiet_step (fail); refine wpQuiet_nil (hN _ ?_); clear hN N)
                iterate 1 (refine plan_p (o := ⟨_, _, _, _, _, _⟩) rfl (fun N hN => ?_); go_big_quiet_step (fail); refine wpQuiet_nil (hN _ ?_); clear hN N)
                refine plan_p0 ?_
                iterate 1 (refine plan_q (o := ⟨_, _, _, _, _, _⟩) rfl (fun N hN => ?_); go_big_quiet_step (fail); refine wpQuiet_nil (hN _ ?_); clear hN N)
                refine plan_q0 ?_
                iterate 1 (refine plan_p (o := ⟨_, _, _, _, _, _⟩) rfl (fun N hN => ?_); go_big_quiet_step (fail); refine wpQuiet_nil (hN _ ?_); clear hN N)
                iterate 1 (refine plan_p (o := ⟨_, _, _, _, _, _⟩) rfl (fun N hN => ?_); go_big_quiet_step (fail); refine wpQuiet_nil (hN _ ?_); clear hN N)
                iterate 1 (refine plan_p (o := ⟨_, _, _, _, _, _⟩) rfl (fun N hN => ?_); go_big_quiet_step (fail); refine wpQuiet_nil (hN _ ?_); clear hN N)
                iterate 1 (refine plan_p (o := ⟨_, _, _, _, _, _⟩) rfl (fun N hN => ?_); go_big_quiet_step (fail); refine wpQuiet_nil (hN _ ?_); clear hN N)
                iterate 2 (refine plan_p (o := ⟨_, _, _, _, _, _⟩) rfl (fun N hN => ?_); go_big_quiet_step (fail); refine wpQuiet_nil (hN _ ?_); clear hN N)
                iterate 1 (refine plan_p (o := ⟨_, _, _, _, _, _⟩) rfl (fun N hN => ?_); go_big_quiet_step (fail); refine wpQuiet_nil (hN _ ?_); clear hN N)
                iterate 1 (refine plan_p (o := ⟨_, _, _, _, _, _⟩) rfl (fun N hN => ?_); go_big_quiet_step (fail); refine wpQuiet_nil (hN _ ?_); clear hN N)
                iterate 1 (refine plan_p (o := ⟨_, _, _, _, _, _⟩) rfl (fun N hN => ?_); go_big_quiet_step (fail); refine wpQuiet_nil (hN _ ?_); clear hN N)
                iterate 2 (refine plan_p (o := ⟨_, _, _, _, _, _⟩) rfl (fun N hN => ?_); go_big_quiet_step (fail); refine wpQuiet_nil (hN _ ?_); clear hN N)
                iterate 1 (refine plan_p (o := ⟨_, _, _, _, _, _⟩) rfl (fun N hN => ?_); go_big_quiet_step (fail); refine wpQuiet_nil (hN _ ?_); clear hN N)
                iterate 1 (refine plan_p (o := ⟨_, _, _, _, _, _⟩) rfl (fun N hN => ?_); go_big_quiet_step (fail); refine wpQuiet_nil (hN _ ?_); clear hN N)
                refine plan_p0 ?_
                iterate 1 (refine plan_q (o := ⟨_, _, _, _, _, _⟩) rfl (fun N hN => ?_); go_big_quiet_step (fail); refine wpQuiet_nil (hN _ ?_); clear hN N)
                refine plan_q0 ?_
                iterate 1 (refine plan_p (o := ⟨_, _, _, _, _, _⟩) rfl (fun N hN => ?_); go_big_quiet_step (fail); refine wpQuiet_nil (hN _ ?_); clear hN N)
                refine plan_p0 ?_
                iterate 1 (refine plan_q (o := ⟨_, _, _, _, _, _⟩) rfl (fun N hN => ?_); go_big_quiet_step (fail); refine wpQuiet_nil (hN _ ?_); clear hN N)
                refine plan_q0 ?_
                refine plan_e (o := ⟨_, _, _, _, _, _⟩) rfl rfl (fun K hK => ?_)
                (first | (go_step; go_at_call 12; refine Calls.mono (revs_lit kq cq _ fr _ (H.pick (by repeat (first | exact Picks.nil _ | (apply Picks.wr; focus (repeat (first | exact Split.here _ _ | apply Split.there))) | (apply Picks.rd; focus (repeat (first | exact Split.here _ _ | apply Split.there))))))) ?_; rintro e w' ⟨rfl, H'⟩; replace H := H.of_ext H'; clear H') | (refine op_box _ _ rfl H (fun b w' H1 => ?_); replace H := H1; clear H1) | (refine op_alloc _ rfl (zero_of _ _ rfl) H (fun b w' H1 => ?_); replace H := H1; clear H1) | (refine op_store _ _ _ rfl rfl rfl H (by repeat (first | exact Split.here _ _ | apply Split.there)) (by kernel_rfl) (by kernel_rfl) (by kernel_rfl) (fun w' H1 => ?_); replace H := H1; clear H1) | (refine op_buildSlice_all _ _ _ rfl (by first | exact elem25 | exact elem32 | exact elem35 | exact elem36 | exact elem37 | exact elem38 | exact elem41 | exact elem42 | exact elem45 | exact elem57 | exact elem62 | exact elem74 | exact elem98 | exact elem100 | exact elem137 | exact elem178 | exact elem179) (by kernel_rfl) (by kernel_rfl) (by kernel_rfl) H (fun b w' H1 => ?_); replace H := H1; clear H1)); (try clear hc); (try simp only [nrm, splice, Value.cells, Nat.reduceAdd, Act.eval, Act.put] at H); have hc := H.cells; simp only [CellsOf, KnCells, knc, Nat.reduceAdd] at hc; refine hK _ _ (fun _ _ => hS _ (H.sublist (by repeat (first | exact List.Sublist.refl _ | exact List.nil_sublist _ | apply List.Sublist.cons_cons | apply List.Sublist.cons))).all) ?_; clear hK K; (try simp only [Act.put, slt])
                refine plan_e (o := ⟨_, _, _, _, _, _⟩) rfl rfl (fun K hK => ?_)
                (first | (go_step; go_at_call 12; refine Calls.mono (revs_lit kq cq _ fr _ (H.pick (by repeat (first | exact Picks.nil _ | (apply Picks.wr; focus (repeat (first | exact Split.here _ _ | apply Split.there))) | (apply Picks.rd; focus (repeat (first | exact Split.here _ _ | apply Split.there))))))) ?_; rintro e w' ⟨rfl, H'⟩; replace H := H.of_ext H'; clear H') | (refine op_box _ _ rfl H (fun b w' H1 => ?_); replace H := H1; clear H1) | (refine op_alloc _ rfl (zero_of _ _ rfl) H (fun b w' H1 => ?_); replace H := H1; clear H1) | (refine op_store _ _ _ rfl rfl rfl H (by repeat (first | exact Split.here _ _ | apply Split.there)) (by kernel_rfl) (by kernel_rfl) (by kernel_rfl) (fun w' H1 => ?_); replace H := H1; clear H1) | (refine op_buildSlice_all _ _ _ rfl (by first | exact elem25 | exact elem32 | exact elem35 | exact elem36 | exact elem37 | exact elem38 | exact elem41 | exact elem42 | exact elem45 | exact elem57 | exact elem62 | exact elem74 | exact elem98 | exact elem100 | exact elem137 | exact elem178 | exact elem179) (by kernel_rfl) (by kernel_rfl) (by kernel_rfl) H (fun b w' H1 => ?_); replace H := H1; clear H1)); (try clear hc); (try simp only [nrm, splice, Value.cells, Nat.reduceAdd, Act.eval, Act.put] at H); have hc := H.cells; simp only [CellsOf, KnCells, knc, Nat.reduceAdd] at hc; refine hK _ _ (fun h => (h (by decide)).elim) ?_; clear hK K; (try simp only [Act.put, slt])
                iterate 1 (refine plan_p (o := ⟨_, _, _, _, _, _⟩) rfl (fun N hN => ?_); go_big_quiet_step (fail); refine wpQuiet_nil (hN _ ?_); clear hN N)
                iterate 1 (refine plan_p (o := ⟨_, _, _, _, _, _⟩) rfl (fun N hN => ?_); go_big_quiet_step (fail); refine wpQuiet_nil (hN _ ?_); clear hN N)
                refine plan_p0 ?_
                refine plan_done ?_
                repeat' (first | (go_big_may; (first
    | ((first
        | (refine loud_ rfl ?_; refine wpList_plain rfl (fun K hK => ?_); (first | (refine op_box _ _ rfl H (fun b w' H1 => hK _ _ ?_)) | (refine op_alloc _ rfl (zero_of _ _ rfl) H (fun b w' H1 => hK _ _ ?_)) | (refine op_store _ _ _ rfl rfl rfl H (by repeat (first | exact Split.here _ _ | apply Split.there)) (by kernel_rfl) (by kernel_rfl) (by kernel_rfl) (fun w' H1 => hK _ _ ?_)) | (refine op_buildSlice_all _ _ _ rfl (by first | exact elem25 | exact elem32 | exact elem35 | exact elem36 | exact elem37 | exact elem38 | exact elem41 | exact elem42 | exact elem45 | exact elem57 | exact elem62 | exact elem74 | exact elem98 | exact elem100 | exact elem137 | exact elem178 | exact elem179) (by kernel_rfl) (by kernel_rfl) (by kernel_rfl) H (fun b w' H1 => hK _ _ ?_))); clear hK K; replace H := H1; clear H1)); (try clear hc); (try simp only [nrm, splice, Value.cells, Nat.reduceAdd, Act.eval, Act.put] at H); have hc := H.cells; simp only [CellsOf, KnCells, knc, Nat.reduceAdd] at hc))) | go_values | go_skip | go_guarded | go_step | go_upon | go_back | dsimp only)
                replace H := H.rowSoft (key := ka) (by repeat (first | exact Split.here _ _ | apply Split.there))
                (try simp only [List.append, List.cons_append, List.nil_append] at H)
                (try rw [show sl ka wl ca = Value.slice (ka.map fun b => (⟨b, 0, none⟩ : Addr)) wl ca from rfl] at H)
                (try rw [show sl ka wl ca = Value.slice (ka.map fun b => (⟨b, 0, none⟩ : Addr)) wl ca from rfl])
                generalize (ka.map fun b => (⟨b, 0, none⟩ : Addr)) = sa at *
                replace H := H.ro (k := .row (some k7) _ 1 1 c7 _) (by repeat (first | exact Split.here _ _ | apply Split.there))
                (try simp only [List.append, List.cons_append, List.nil_append] at H)
                have H0 := H.sel (L' := [(false, .row (some k7) 32 1 1 c7 [.slice sa wl ca]), (false, soft sa (ls.map uv)), (false, .is bb (.cells #[sl kl j cl, sl ko j co] 25 (0, 0))), (true, .row kl 29 6 j cl (L.flatMap Pr.cells)), (true, .row ko 29 6 j co (L.reverse.flatMap Pr.cells)), (false, soft sw (W.map uv)), (false, .is b6 (ckO ⟨fh, fc, fr⟩)), (false, .is b11 (ckO ⟨((fh + 1) % 4294967296), fc, fr⟩))]) (by repeat (first | exact Sel.nil _ | (apply Sel.cons; focus (repeat (first | exact Split.here _ _ | apply Split.there)))))
                clear H hc
                go_loopw [167] (AtWn wl [(false, .row (some k7) 32 1 1 c7 [.slice sa wl ca]), (false, soft sa (ls.map uv)), (false, .is bb (.cells #[sl kl j cl, sl ko j co] 25 (0, 0))), (true, .row kl 29 6 j cl (L.flatMap Pr.cells)), (true, .row ko 29 6 j co (L.reverse.flatMap Pr.cells)), (false, soft sw (W.map uv)), (false, .is b6 (ckO ⟨fh, fc, fr⟩)), (false, .is b11 (ckO ⟨((fh + 1) % 4294967296), fc, fr⟩))] w) (fun i _ => wl - (intOf i).toNat)
                case atStart => exact ⟨0, Nat.zero_le _, rfl, H0⟩
                case round =>
                  clear H0
                  obtain ⟨t2, ht2, rfl, H⟩ := hrel
                  by_cases hlt2 : t2 < wl
                  · have hw2 : t2 < W.length := by rw [← hWl1.out]; exact hlt2
                    have hin := Lib.hid (hmem.out _ (List.getElem_mem hw2))
                    obtain ⟨b3, o3, rfl, H1⟩ := H.elemSoft (Split.there _ (Split.there _ (Split.there _ (Split.there _ (Split.there _ (Split.here _ _)))))) t2 [uv W[t2]] (by show 0 < 1; omega) (by rw [List.length_map]; show t2 + 1 ≤ _; omega) (by
                      intro i hi
                      have : i = 0 := by simp at hi; omega
                      subst this
                      simp [hw2])
                    clear H
                    have H := H1
                    clear H1
                    generalize W[t2] = id at *
                    clear hw2
                    have hc := H.cells; simp only [CellsOf, KnCells, knc, Nat.reduceAdd] at hc
                    repeat' (first | (go_big_may; (first
    | ((first
        | (refine loud_ rfl ?_; refine wpList_plain rfl (fun K hK => ?_); (first | (refine op_box _ _ rfl H (fun b w' H1 => hK _ _ ?_)) | (refine op_alloc _ rfl (zero_of _ _ rfl) H (fun b w' H1 => hK _ _ ?_)) | (refine op_store _ _ _ rfl rfl rfl H (by repeat (first | exact Split.here _ _ | apply Split.there)) (by kernel_rfl) (by kernel_rfl) (by kernel_rfl) (fun w' H1 => hK _ _ ?_)) | (refine op_buildSlice_all _ _ _ rfl (by first | exact elem25 | exact elem32 | exact elem35 | exact elem36 | exact elem37 | exact elem38 | exact elem41 | exact elem42 | exact elem45 | exact elem57 | exact elem62 | exact elem74 | exact elem98 | exact elem100 | exact elem137 | exact elem178 | exact elem179) (by kernel_rfl) (by kernel_rfl) (by kernel_rfl) H (fun b w' H1 => hK _ _ ?_))); clear hK K; replace H := H1; clear H1)); (try clear hc); (try simp only [nrm, splice, Value.cells, Nat.reduceAdd, Act.eval, Act.put] at H); have hc := H.cells; simp only [CellsOf, KnCells, knc, Nat.reduceAdd] at hc))) | go_values | go_skip | go_guarded | go_step | go_upon | go_back | dsimp only)
                    have H0 := H.sel (L' := [(false, .row (some k7) 32 1 1 c7 [.slice sa wl ca]), (false, soft sa (ls.map uv)), (false, .is bb (.cells #[sl kl j cl, sl ko j co] 25 (0, 0))), (true, .row kl 29 6 j cl (L.flatMap Pr.cells)), (true, .row ko 29 6 j co (L.reverse.flatMap Pr.cells)), (false, soft (some ⟨b3, o3, none⟩) (W.map uv)), (false, .is b6 (ckO ⟨fh, fc, fr⟩)), (false, .is b11 (ckO ⟨((fh + 1) % 4294967296), fc, fr⟩))]) (by repeat (first | exact Sel.nil _ | (apply Sel.cons; focus (repeat (first | exact Split.here _ _ | apply Split.there)))))
                    clear H hc
                    go_loopw [23, 175] (AtFi wl ls id [(false, .row (some k7) 32 1 1 c7 [.slice sa wl ca]), (false, soft sa (ls.map uv)), (false, .is bb (.cells #[sl kl j cl, sl ko j co] 25 (0, 0))), (true, .row kl 29 6 j cl (L.flatMap Pr.cells)), (true, .row ko 29 6 j co (L.reverse.flatMap Pr.cells)), (false, soft (some ⟨b3, o3, none⟩) (W.map uv)), (false, .is b6 (ckO ⟨fh, fc, fr⟩)), (false, .is b11 (ckO ⟨((fh + 1) % 4294967296), fc, fr⟩))] w) (fun _ i _ => wl - (intOf i).toNat)
                    case atStart => exact ⟨0, Nat.zero_le _, by simp, rfl, H0⟩
                    case round =>
                      clear H0
                      obtain ⟨k, hk, hf, rfl, H⟩ := hrel
                      by_cases hlt3 : k < wl
                      · have hk3 : k < ls.length := by rw [hlsl.out]; exact hlt3
                        have hcat3 : Hid (ls.take (k + 1) = ls.take k ++ [ls[k]]) := (List.take_append_getElem hk3).symm
                        obtain ⟨b4, o4, rfl, H1⟩ := H.elemSoft (Split.there _ (Split.here _ _)) k [uv ls[k]] (by show 0 < 1; omega) (by rw [List.length_map]; show k + 1 ≤ _; omega) (by
                          intro i hi
                          have : i = 0 := by simp at hi; omega
                          subst this
                          simp [hk3])
                        clear H
                        have H := H1
                        clear H1
                        generalize ls[k] = y at *
                        clear hk3
                        by_cases hfm : id ∈ ls.take k
                        · rw [decide_eq_true hfm] at hf
                          subst hf
                          have hd : decide (id ∈ ls.take (k + 1)) = true := decide_eq_true (by rw [hcat3.out]; exact List.mem_append_left _ hfm)
                          have hfm' := Lib.hid hfm
                          clear hfm
                          have hc := H.cells; simp only [CellsOf, KnCells, knc, Nat.reduceAdd] at hc
                          repeat' (first | (go_big_may; (first
    | ((first
        | (refine loud_ rfl ?_; refine wpList_plain rfl (fun K hK => ?_); (first | (refine op_box _ _ rfl H (fun b w' H1 => hK _ _ ?_)) | (refine op_alloc _ rfl (zero_of _ _ rfl) H (fun b w' H1 => hK _ _ ?_)) | (refine op_store _ _ _ rfl rfl rfl H (by repeat (first | exact Split.here _ _ | apply Split.there)) (by kernel_rfl) (by kernel_rfl) (by kernel_rfl) (fun w' H1 => hK _ _ ?_)) | (refine op_buildSlice_all _ _ _ rfl (by first | exact elem25 | exact elem32 | exact elem35 | exact elem36 | exact elem37 | exact elem38 | exact elem41 | exact elem42 | exact elem45 | exact elem57 | exact elem62 | exact elem74 | exact elem98 | exact elem100 | exact elem137 | exact elem178 | exact elem179) (by kernel_rfl) (by kernel_rfl) (by kernel_rfl) H (fun b w' H1 => hK _ _ ?_))); clear hK K; replace H := H1; clear H1)); (try clear hc); (try simp only [nrm, splice, Value.cells, Nat.reduceAdd, Act.eval, Act.put] at H); have hc := H.cells; simp only [CellsOf, KnCells, knc, Nat.reduceAdd] at hc))) | go_values | go_skip | go_guarded | go_step | go_upon | go_back | dsimp only)
                          exact ⟨⟨k + 1, by omega, by rw [hd], by go_num, H.sel (by repeat (first | exact Sel.nil _ | (apply Sel.cons; focus (repeat (first | exact Split.here _ _ | apply Split.there)))))⟩, by simp [intOf]; omega⟩
                        · rw [decide_eq_false hfm] at hf
                          subst hf
                          by_cases e1 : y = id
                          · have hd : decide (id ∈ ls.take (k + 1)) = true := decide_eq_true (by rw [hcat3.out, e1]; simp)
                            have hfm' := Lib.hid hfm
                            clear hfm
                            have hc := H.cells; simp only [CellsOf, KnCells, knc, Nat.reduceAdd] at hc
                            repeat' (first | (go_big_may; (first
    | ((first
        | (refine loud_ rfl ?_; refine wpList_plain rfl (fun K hK => ?_); (first | (refine op_box _ _ rfl H (fun b w' H1 => hK _ _ ?_)) | (refine op_alloc _ rfl (zero_of _ _ rfl) H (fun b w' H1 => hK _ _ ?_)) | (refine op_store _ _ _ rfl rfl rfl H (by repeat (first | exact Split.here _ _ | apply Split.there)) (by kernel_rfl) (by kernel_rfl) (by kernel_rfl) (fun w' H1 => hK _ _ ?_)) | (refine op_buildSlice_all _ _ _ rfl (by first | exact elem25 | exact elem32 | exact elem35 | exact elem36 | exact elem37 | exact elem38 | exact elem41 | exact elem42 | exact elem45 | exact elem57 | exact elem62 | exact elem74 | exact elem98 | exact elem100 | exact elem137 | exact elem178 | exact elem179) (by kernel_rfl) (by kernel_rfl) (by kernel_rfl) H (fun b w' H1 => hK _ _ ?_))); clear hK K; replace H := H1; clear H1)); (try clear hc); (try simp only [nrm, splice, Value.cells, Nat.reduceAdd, Act.eval, Act.put] at H); have hc := H.cells; simp only [CellsOf, KnCells, knc, Nat.reduceAdd] at hc))) | go_values | go_skip | go_guarded | go_step | go_upon | go_back | dsimp only)
                            exact ⟨⟨k + 1, by omega, by rw [hd], by go_num, H.sel (by repeat (first | exact Sel.nil _ | (apply Sel.cons; focus (repeat (first | exact Split.here _ _ | apply Split.there)))))⟩, by simp [intOf]; omega⟩
                          · have hd : decide (id ∈ ls.take (k + 1)) = false := decide_eq_false (by
                              rw [hcat3.out]
                              intro h
                              rcases List.mem_append.1 h with h | h
                              · exact hfm h
                              · exact e1 (List.mem_singleton.1 h).symm)
                            have hfm' := Lib.hid hfm
                            clear hfm
                            have hyb : (y == id) = false := by simp [e1]
                            have hc := H.cells; simp only [CellsOf, KnCells, knc, Nat.reduceAdd] at hc
                            repeat' (first | (go_big_may; (first
    | ((first
        | (refine loud_ rfl ?_; refine wpList_plain rfl (fun K hK => ?_); (first | (refine op_box _ _ rfl H (fun b w' H1 => hK _ _ ?_)) | (refine op_alloc _ rfl (zero_of _ _ rfl) H (fun b w' H1 => hK _ _ ?_)) | (refine op_store _ _ _ rfl rfl rfl H (by repeat (first | exact Split.here _ _ | apply Split.there)) (by kernel_rfl) (by kernel_rfl) (by kernel_rfl) (fun w' H1 => hK _ _ ?_)) | (refine op_buildSlice_all _ _ _ rfl (by first | exact elem25 | exact elem32 | exact elem35 | exact elem36 | exact elem37 | exact elem38 | exact elem41 | exact elem42 | exact elem45 | exact elem57 | exact elem62 | exact elem74 | exact elem98 | exact elem100 | exact elem137 | exact elem178 | exact elem179) (by kernel_rfl) (by kernel_rfl) (by kernel_rfl) H (fun b w' H1 => hK _ _ ?_))); clear hK K; replace H := H1; clear H1)); (try clear hc); (try simp only [nrm, splice, Value.cells, Nat.reduceAdd, Act.eval, Act.put] at H); have hc := H.cells; simp only [CellsOf, KnCells, knc, Nat.reduceAdd] at hc))) | go_values | go_skip | go_guarded | go_step | go_upon | go_back | dsimp only)
                            exact ⟨⟨k + 1, by omega, by rw [hd], by go_num, H.sel (by repeat (first | exact Sel.nil _ | (apply Sel.cons; focus (repeat (first | exact Split.here _ _ | apply Split.there)))))⟩, by simp [intOf]; omega⟩
                      · obtain rfl : k = wl := by omega
                        rw [List.take_of_length_le (by rw [hlsl.out]; exact Nat.le_refl _), decide_eq_true hin.out] at hf
                        subst hf
                        have hc := H.cells; simp only [CellsOf, KnCells, knc, Nat.reduceAdd] at hc
                        repeat' (first | (go_big_may; (first
    | ((first
        | (refine loud_ rfl ?_; refine wpList_plain rfl (fun K hK => ?_); (first | (refine op_box _ _ rfl H (fun b w' H1 => hK _ _ ?_)) | (refine op_alloc _ rfl (zero_of _ _ rfl) H (fun b w' H1 => hK _ _ ?_)) | (refine op_store _ _ _ rfl rfl rfl H (by repeat (first | exact Split.here _ _ | apply Split.there)) (by kernel_rfl) (by kernel_rfl) (by kernel_rfl) (fun w' H1 => hK _ _ ?_)) | (refine op_buildSlice_all _ _ _ rfl (by first | exact elem25 | exact elem32 | exact elem35 | exact elem36 | exact elem37 | exact elem38 | exact elem41 | exact elem42 | exact elem45 | exact elem57 | exact elem62 | exact elem74 | exact elem98 | exact elem100 | exact elem137 | exact elem178 | exact elem179) (by kernel_rfl) (by kernel_rfl) (by kernel_rfl) H (fun b w' H1 => hK _ _ ?_))); clear hK K; replace H := H1; clear H1)); (try clear hc); (try simp only [nrm, splice, Value.cells, Nat.reduceAdd, Act.eval, Act.put] at H); have hc := H.cells; simp only [CellsOf, KnCells, knc, Nat.reduceAdd] at hc))) | go_values | go_skip | go_guarded | go_step | go_upon | go_back | dsimp only)
                        exact ⟨⟨t2 + 1, by omega, by go_num, H.sel (by repeat (first | exact Sel.nil _ | (apply Sel.cons; focus (repeat (first | exact Split.here _ _ | apply Split.there)))))⟩, by simp [intOf]; omega⟩
                  · obtain rfl : t2 = wl := by omega
                    have hc := H.cells; simp only [CellsOf, KnCells, knc, Nat.reduceAdd] at hc
                    repeat' (first | (go_big_may; (first
    | ((first
        | (refine loud_ rfl ?_; refine wpList_plain rfl (fun K hK => ?_); (first | (refine op_box _ _ rfl H (fun b w' H1 => hK _ _ ?_)) | (refine op_alloc _ rfl (zero_of _ _ rfl) H (fun b w' H1 => hK _ _ ?_)) | (refine op_store _ _ _ rfl rfl rfl H (by repeat (first | exact Split.here _ _ | apply Split.there)) (by kernel_rfl) (by kernel_rfl) (by kernel_rfl) (fun w' H1 => hK _ _ ?_)) | (refine op_buildSlice_all _ _ _ rfl (by first | exact elem25 | exact elem32 | exact elem35 | exact elem36 | exact elem37 | exact elem38 | exact elem41 | exact elem42 | exact elem45 | exact elem57 | exact elem62 | exact elem74 | exact elem98 | exact elem100 | exact elem137 | exact elem178 | exact elem179) (by kernel_rfl) (by kernel_rfl) (by kernel_rfl) H (fun b w' H1 => hK _ _ ?_))); clear hK K; replace H := H1; clear H1)); (try clear hc); (try simp only [nrm, splice, Value.cells, Nat.reduceAdd, Act.eval, Act.put] at H); have hc := H.cells; simp only [CellsOf, KnCells, knc, Nat.reduceAdd] at hc))) | go_values | go_skip | go_guarded | go_step | go_upon | go_back | dsimp only)
                    exact ⟨⟨1, by omega, by go_num, H.sel (by repeat (first | exact Sel.nil _ | (apply Sel.cons; focus (repeat (first | exact Split.here _ _ | apply Split.there)))))⟩, by simp [intOf]⟩
              · have hc := H.cells; simp only [CellsOf, KnCells, knc, Nat.reduceAdd] at hc
                repeat' (first | (go_big_may; (first
    | go_skip
    | ((first
        | (go_at_call 11; refine Calls.mono (compact_major own ⟨((fh + 1) % 4294967296), fc, fr⟩ fh L.reverse _ _ _ _ ko j co hL2 (by omega) hn12 ha2 hmin2 hrev _ (H.pick (by repeat (first | exact Picks.nil _ | (apply Picks.wr; focus (repeat (first | exact Split.here _ _ | apply Split.there))) | (apply Picks.rd; focus (repeat (first | exact Split.here _ _ | apply Split.there))))))) ?_; rintro e w' ⟨k7, k8, c7, c8, ka, na, ca, kq, cq, ls, hls, rfl, H'⟩; replace H := H.merge (by first | exact Strikes.nil _ | (repeat (first | exact Strikes.nil _ | (apply Strikes.cons; focus (repeat (first | exact Split.here _ _ | apply Split.there)))))) H' rfl; clear H')
        | (refine loud_ rfl ?_; refine wpList_plain rfl (fun K hK => ?_); (first | (refine op_box _ _ rfl H (fun b w' H1 => hK _ _ ?_)) | (refine op_alloc _ rfl (zero_of _ _ rfl) H (fun b w' H1 => hK _ _ ?_)) | (refine op_store _ _ _ rfl rfl rfl H (by repeat (first | exact Split.here _ _ | apply Split.there)) (by kernel_rfl) (by kernel_rfl) (by kernel_rfl) (fun w' H1 => hK _ _ ?_)) | (refine op_buildSlice_all _ _ _ rfl (by first | exact elem25 | exact elem32 | exact elem35 | exact elem36 | exact elem37 | exact elem38 | exact elem41 | exact elem42 | exact elem45 | exact elem57 | exact elem62 | exact elem74 | exact elem98 | exact elem100 | exact elem137 | exact elem178 | exact elem179) (by kernel_rfl) (by kernel_rfl) (by kernel_rfl) H (fun b w' H1 => hK _ _ ?_))); clear hK K; replace H := H1; clear H1)); (try clear hc); (try simp only [nrm, splice, Value.cells, Nat.reduceAdd, Act.eval, Act.put] at H); have hc := H.cells; simp only [CellsOf, KnCells, knc, Nat.reduceAdd] at hc))) | go_values | go_skip | go_guarded | go_step | go_upon | go_back | dsimp only)
                have hna : wl = na := by rw [hls.out.2, hls.out.1.length_eq, (wrongs_rev _ _ _ _).length_eq, hWl1.out, hW1.out]
                subst hna
                have hmem : Hid (∀ x ∈ W, x ∈ ls) := fun x hx => hls.out.1.mem_iff.2 (by rw [hW1.out] at hx; exact (wrongs_rev _ _ _ _).mem_iff.2 hx)
                have hlsl : Hid (ls.length = wl) := hls.out.2.symm
                (try simp only [Act.put, slt])
                refine wp_region_plan (.p [0, 1, 2, 3, 4, 5] (.q [6] (.p [7, 8, 9, 10, 11, 12, 13, 14, 15, 16, 17, 18, 19] (.q [20] (.p [21] (.q [22] (.e 23 (.e 24 (.p [25, 26] .done))))))))) [24] (by kernel_rfl) (by kernel_rfl) (fun _ _ d _ _ h => by cases d <;> exact h) H ?_
                clear H
                (try clear hc)
                intro X nX fX wd hcf hS H
                simp only [CellsOf, KnCells, knc, Nat.reduceAdd] at hcf
                have hc := H.cells
                simp only [CellsOf, KnCells, knc, Nat.reduceAdd] at hc
                iterate 4 (refine plan_p (o := ⟨_, _, _, _, _, _⟩) rfl (fun N hN => ?_); go_big_quiet_step (fail); refine wpQuiet_nil (hN _ ?_); clear hN N)
                iterate 1 (refine plan_p (o := ⟨_, _, _, _, _, _⟩) rfl (fun N hN => ?_); go_big_quiet_step (fail); refine wpQuiet_nil (hN _ ?_); clear hN N)
                iterate 1 (refine plan_p (o := ⟨_, _, _, _, _, _⟩) rfl (fun N hN => ?_); go_big_quiet_step (fail); refine wpQuiet_nil (hN _ ?_); clear hN N)
                refine plan_p0 ?_
                iterate 1 (refine plan_q (o := ⟨_, _, _, _, _, _⟩) rfl (fun N hN => ?_); go_big_quiet_step (fail); refine wpQuiet_nil (hN _ ?_); clear hN N)
                refine plan_q0 ?_
                iterate 1 (refine plan_p (o := ⟨_, _, _, _, _, _⟩) rfl (fun N hN => ?_); go_big_quiet_step (fail); refine wpQuiet_nil (hN _ ?_); clear hN N)
                iterate 1 (refine plan_p (o := ⟨_, _, _, _, _, _⟩) rfl (fun N hN => ?_); go_big_quiet_step (fail); refine wpQuiet_nil (hN _ ?_); clear hN N)
                iterate 1 (refine plan_p (o := ⟨_, _, _, _, _, _⟩) rfl (fun N hN => ?_); go_big_quiet_step (fail); refine wpQuiet_nil (hN _ ?_); clear hN N)
                iterate 1 (refine plan_p (o := ⟨_, _, _, _, _, _⟩) rfl (fun N hN => ?_); go_big_quiet_step (fail); refine wpQuiet_nil (hN _ ?_); clear hN N)
                iterate 2 (refine plan_p (o := ⟨_, _, _, _, _, _⟩) rfl (fun N hN => ?_); go_big_quiet_step (fail); refine wpQuiet_nil (hN _ ?_); clear hN N)
                iterate 1 (refine plan_p (o := ⟨_, _, _, _, _, _⟩) rfl (fun N hN => ?_); go_big_quiet_step (fail); refine wpQuiet_nil (hN _ ?_); clear hN N)
                iterate 1 (refine plan_p (o := ⟨_, _, _, _, _, _⟩) rfl (fun N hN => ?_); go_big_quiet_step (fail); refine wpQuiet_nil (hN _ ?_); clear hN N)
                iterate 1 (refine plan_p (o := ⟨_, _, _, _, _, _⟩) rfl (fun N hN => ?_); go_big_quiet_step (fail); refine wpQuiet_nil (hN _ ?_); clear hN N)
                iterate 2 (refine plan_p (o := ⟨_, _, _, _, _, _⟩) rfl (fun N hN => ?_); go_big_quiet_step (fail); refine wpQuiet_nil (hN _ ?_); clear hN N)
                iterate 1 (refine plan_p (o := ⟨_, _, _, _, _, _⟩) rfl (fun N hN => ?_); go_big_quiet_step (fail); refine wpQuiet_nil (hN _ ?_); clear hN N)
                iterate 1 (refine plan_p (o := ⟨_, _, _, _, _, _⟩) rfl (fun N hN => ?_); go_big_quiet_step (fail); refine wpQuiet_nil (hN _ ?_); clear hN N)
                refine plan_p0 ?_
                iterate 1 (refine plan_q (o := ⟨_, _, _, _, _, _⟩) rfl (fun N hN => ?_); go_big_quiet_step (fail); refine wpQuiet_nil (hN _ ?_); clear hN N)
                refine plan_q0 ?_
                iterate 1 (refine plan_p (o := ⟨_, _, _, _, _, _⟩) rfl (fun N hN => ?_); go_big_quiet_step (fail); refine wpQuiet_nil (hN _ ?_); clear hN N)
                refine plan_p0 ?_
                iterate 1 (refine plan_q (o := ⟨_, _, _, _, _, _⟩) rfl (fun N hN => ?_); go_big_quiet_step (fail); refine wpQuiet_nil (hN _ ?_); clear hN N)
                refine plan_q0 ?_
                refine plan_e (o := ⟨_, _, _, _, _, _⟩) rfl rfl (fun K hK => ?_)
                (first | (go_step; go_at_call 12; refine Calls.mono (revs_lit kq cq _ fr _ (H.pick (by repeat (first | exact Picks.nil _ | (apply Picks.wr; focus (repeat (first | exact Split.here _ _ | apply Split.there))) | (apply Picks.rd; focus (repeat (first | exact Split.here _ _ | apply Split.there))))))) ?_; rintro e w' ⟨rfl, H'⟩; replace H := H.of_ext H'; clear H') | (refine op_box _ _ rfl H (fun b w' H1 => ?_); replace H := H1; clear H1) | (refine op_alloc _ rfl (zero_of _ _ rfl) H (fun b w' H1 => ?_); replace H := H1; clear H1) | (refine op_store _ _ _ rfl rfl rfl H (by repeat (first | exact Split.here _ _ | apply Split.there)) (by kernel_rfl) (by kernel_rfl) (by kernel_rfl) (fun w' H1 => ?_); replace H := H1; clear H1) | (refine op_buildSlice_all _ _ _ rfl (by first | exact elem25 | exact elem32 | exact elem35 | exact elem36 | exact elem37 | exact elem38 | exact elem41 | exact elem42 | exact elem45 | exact elem57 | exact elem62 | exact elem74 | exact elem98 | exact elem100 | exact elem137 | exact elem178 | exact elem179) (by kernel_rfl) (by kernel_rfl) (by kernel_rfl) H (fun b w' H1 => ?_); replace H := H1; clear H1)); (try clear hc); (try simp only [nrm, splice, Value.cells, Nat.reduceAdd, Act.eval, Act.put] at H); have hc := H.cells; simp only [CellsOf, KnCells, knc, Nat.reduceAdd] at hc; refine hK _ _ (fun _ _ => hS _ (H.sublist (by repeat (first | exact List.Sublist.refl _ | exact List.nil_sublist _ | apply List.Sublist.cons_cons | apply List.Sublist.cons))).all) ?_; clear hK K; (try simp only [Act.put, slt])
                refine plan_e (o := ⟨_, _, _, _, _, _⟩) rfl rfl (fun K hK => ?_)
                (first | (go_step; go_at_call 12; refine Calls.mono (revs_lit kq cq _ fr _ (H.pick (by repeat (first | exact Picks.nil _ | (apply Picks.wr; focus (repeat (first | exact Split.here _ _ | apply Split.there))) | (apply Picks.rd; focus (repeat (first | exact Split.here _ _ | apply Split.there))))))) ?_; rintro e w' ⟨rfl, H'⟩; replace H := H.of_ext H'; clear H') | (refine op_box _ _ rfl H (fun b w' H1 => ?_); replace H := H1; clear H1) | (refine op_alloc _ rfl (zero_of _ _ rfl) H (fun b w' H1 => ?_); replace H := H1; clear H1) | (refine op_store _ _ _ rfl rfl rfl H (by repeat (first | exact Split.here _ _ | apply Split.there)) (by kernel_rfl) (by kernel_rfl) (by kernel_rfl) (fun w' H1 => ?_); replace H := H1; clear H1) | (refine op_buildSlice_all _ _ _ rfl (by first | exact elem25 | exact elem32 | exact elem35 | exact elem36 | exact elem37 | exact elem38 | exact elem41 | exact elem42 | exact elem45 | exact elem57 | exact elem62 | exact elem74 | exact elem98 | exact elem100 | exact elem137 | exact elem178 | exact elem179) (by kernel_rfl) (by kernel_rfl) (by kernel_rfl) H (fun b w' H1 => ?_); replace H := H1; clear H1)); (try clear hc); (try simp only [nrm, splice, Value.cells, Nat.reduceAdd, Act.eval, Act.put] at H); have hc := H.cells; simp only [CellsOf, KnCells, knc, Nat.reduceAdd] at hc; refine hK _ _ (fun h => (h (by decide)).elim) ?_; clear hK K; (try simp only [Act.put, slt])
                iterate 1 (refine plan_p (o := ⟨_, _, _, _, _, _⟩) rfl (fun N hN => ?_); go_big_quiet_step (fail); refine wpQuiet_nil (hN _ ?_); clear hN N)
                iterate 1 (refine plan_p (o := ⟨_, _, _, _, _, _⟩) rfl (fun N hN => ?_); go_big_quiet_step (fail); refine wpQuiet_nil (hN _ ?_); clear hN N)
                refine plan_p0 ?_
                refine plan_done ?_
                repeat' (first | (go_big_may; (first
    | ((first
        | (refine loud_ rfl ?_; refine wpList_plain rfl (fun K hK => ?_); (first | (refine op_box _ _ rfl H (fun b w' H1 => hK _ _ ?_)) | (refine op_alloc _ rfl (zero_of _ _ rfl) H (fun b w' H1 => hK _ _ ?_)) | (refine op_store _ _ _ rfl rfl rfl H (by repeat (first | exact Split.here _ _ | apply Split.there)) (by kernel_rfl) (by kernel_rfl) (by kernel_rfl) (fun w' H1 => hK _ _ ?_)) | (refine op_buildSlice_all _ _ _ rfl (by first | exact elem25 | exact elem32 | exact elem35 | exact elem36 | exact elem37 | exact elem38 | exact elem41 | exact elem42 | exact elem45 | exact elem57 | exact elem62 | exact elem74 | exact elem98 | exact elem100 | exact elem137 | exact elem178 | exact elem179) (by kernel_rfl) (by kernel_rfl) (by kernel_rfl) H (fun b w' H1 => hK _ _ ?_))); clear hK K; replace H := H1; clear H1)); (try clear hc); (try simp only [nrm, splice, Value.cells, Nat.reduceAdd, Act.eval, Act.put] at H); have hc := H.cells; simp only [CellsOf, KnCells, knc, Nat.reduceAdd] at hc))) | go_values | go_skip | go_guarded | go_step | go_upon | go_back | dsimp only)
                replace H := H.rowSoft (key := ka) (by repeat (first | exact Split.here _ _ | apply Split.there))
                (try simp only [List.append, List.cons_append, List.nil_append] at H)
                (try rw [show sl ka wl ca = Value.slice (ka.map fun b => (⟨b, 0, none⟩ : Addr)) wl ca from rfl] at H)
                (try rw [show sl ka wl ca = Value.slice (ka.map fun b => (⟨b, 0, none⟩ : Addr)) wl ca from rfl])
                generalize (ka.map fun b => (⟨b, 0, none⟩ : Addr)) = sa at *
                replace H := H.ro (k := .row (some k7) _ 1 1 c7 _) (by repeat (first | exact Split.here _ _ | apply Split.there))
                (try simp only [List.append, List.cons_append, List.nil_append] at H)
                have H0 := H.sel (L' := [(false, .row (some k7) 32 1 1 c7 [.slice sa wl ca]), (false, soft sa (ls.map uv)), (false, .is bb (.cells #[sl kl j cl, sl ko j co] 25 (0, 0))), (true, .row kl 29 6 j cl (L.flatMap Pr.cells)), (true, .row ko 29 6 j co (L.reverse.flatMap Pr.cells)), (false, soft sw (W.map uv)), (false, .is b6 (ckO ⟨fh, fc, fr⟩)), (false, .is b11 (ckO ⟨((fh + 1) % 4294967296), fc, fr⟩))]) (by repeat (first | exact Sel.nil _ | (apply Sel.cons; focus (repeat (first | exact Split.here _ _ | apply Split.there)))))
                clear H hc
                go_loopw [167] (AtWn wl [(false, .row (some k7) 32 1 1 c7 [.slice sa wl ca]), (false, soft sa (ls.map uv)), (false, .is bb (.cells #[sl kl j cl, sl ko j co] 25 (0, 0))), (true, .row kl 29 6 j cl (L.flatMap Pr.cells)), (true, .row ko 29 6 j co (L.reverse.flatMap Pr.cells)), (false, soft sw (W.map uv)), (false, .is b6 (ckO ⟨fh, fc, fr⟩)), (false, .is b11 (ckO ⟨((fh + 1) % 4294967296), fc, fr⟩))] w) (fun i _ => wl - (intOf i).toNat)
                case atStart => exact ⟨0, Nat.zero_le _, rfl, H0⟩
                case round =>
                  clear H0
                  obtain ⟨t2, ht2, rfl, H⟩ := hrel
                  by_cases hlt2 : t2 < wl
                  · have hw2 : t2 < W.length := by rw [← hWl1.out]; exact hlt2
                    have hin := Lib.hid (hmem.out _ (List.getElem_mem hw2))
                    obtain ⟨b3, o3, rfl, H1⟩ := H.elemSoft (Split.there _ (Split.there _ (Split.there _ (Split.there _ (Split.there _ (Split.here _ _)))))) t2 [uv W[t2]] (by show 0 < 1; omega) (by rw [List.length_map]; show t2 + 1 ≤ _; omega) (by
                      intro i hi
                      have : i = 0 := by simp at hi; omega
                      subst this
                      simp [hw2])
                    clear H
                    have H := H1
                    clear H1
                    generalize W[t2] = id at *
                    clear hw2
                    have hc := H.cells; simp only [CellsOf, KnCells, knc, Nat.reduceAdd] at hc
                    repeat' (first | (go_big_may; (first
    | ((first
        | (refine loud_ rfl ?_; refine wpList_plain rfl (fun K hK => ?_); (first | (refine op_box _ _ rfl H (fun b w' H1 => hK _ _ ?_)) | (refine op_alloc _ rfl (zero_of _ _ rfl) H (fun b w' H1 => hK _ _ ?_)) | (refine op_store _ _ _ rfl rfl rfl H (by repeat (first | exact Split.here _ _ | apply Split.there)) (by kernel_rfl) (by kernel_rfl) (by kernel_rfl) (fun w' H1 => hK _ _ ?_)) | (refine op_buildSlice_all _ _ _ rfl (by first | exact elem25 | exact elem32 | exact elem35 | exact elem36 | exact elem37 | exact elem38 | exact elem41 | exact elem42 | exact elem45 | exact elem57 | exact elem62 | exact elem74 | exact elem98 | exact elem100 | exact elem137 | exact elem178 | exact elem179) (by kernel_rfl) (by kernel_rfl) (by kernel_rfl) H (fun b w' H1 => hK _ _ ?_))); clear hK K; replace H := H1; clear H1)); (try clear hc); (try simp only [nrm, splice, Value.cells, Nat.reduceAdd, Act.eval, Act.put] at H); have hc := H.cells; simp only [CellsOf, KnCells, knc, Nat.reduceAdd] at hc))) | go_values | go_skip | go_guarded | go_step | go_upon | go_back | dsimp only)
                    have H0 := H.sel (L' := [(false, .row (some k7) 32 1 1 c7 [.slice sa wl ca]), (false, soft sa (ls.map uv)), (false, .is bb (.cells #[sl kl j cl, sl ko j co] 25 (0, 0))), (true, .row kl 29 6 j cl (L.flatMap Pr.cells)), (true, .row ko 29 6 j co (L.reverse.flatMap Pr.cells)), (false, soft (some ⟨b3, o3, none⟩) (W.map uv)), (false, .is b6 (ckO ⟨fh, fc, fr⟩)), (false, .is b11 (ckO ⟨((fh + 1) % 4294967296), fc, fr⟩))]) (by repeat (first | exact Sel.nil _ | (apply Sel.cons; focus (repeat (first | exact Split.here _ _ | apply Split.there)))))
                    clear H hc
                    go_loopw [23, 175] (AtFi wl ls id [(false, .row (some k7) 32 1 1 c7 [.slice sa wl ca]), (false, soft sa (ls.map uv)), (false, .is bb (.cells #[sl kl j cl, sl ko j co] 25 (0, 0))), (true, .row kl 29 6 j cl (L.flatMap Pr.cells)), (true, .row ko 29 6 j co (L.reverse.flatMap Pr.cells)), (false, soft (some ⟨b3, o3, none⟩) (W.map uv)), (false, .is b6 (ckO ⟨fh, fc, fr⟩)), (false, .is b11 (ckO ⟨((fh + 1) % 4294967296), fc, fr⟩))] w) (fun _ i _ => wl - (intOf i).toNat)
                    case atStart => exact ⟨0, Nat.zero_le _, by simp, rfl, H0⟩
                    case round =>
                      clear H0
                      obtain ⟨k, hk, hf, rfl, H⟩ := hrel
                      by_cases hlt3 : k < wl
                      · have hk3 : k < ls.length := by rw [hlsl.out]; exact hlt3
                        have hcat3 : Hid (ls.take (k + 1) = ls.take k ++ [ls[k]]) := (List.take_append_getElem hk3).symm
                        obtain ⟨b4, o4, rfl, H1⟩ := H.elemSoft (Split.there _ (Split.here _ _)) k [uv ls[k]] (by show 0 < 1; omega) (by rw [List.length_map]; show k + 1 ≤ _; omega) (by
                          intro i hi
                          have : i = 0 := by simp at hi; omega
                          subst this
                          simp [hk3])
                        clear H
                        have H := H1
                        clear H1
                        generalize ls[k] = y at *
                        clear hk3
                        by_cases hfm : id ∈ ls.take k
                        · rw [decide_eq_true hfm] at hf
                          subst hf
                          have hd : decide (id ∈ ls.take (k + 1)) = true := decide_eq_true (by rw [hcat3.out]; exact List.mem_append_left _ hfm)
                          have hfm' := Lib.hid hfm
                          clear hfm
                          have hc := H.cells; simp only [CellsOf, KnCells, knc, Nat.reduceAdd] at hc
                          repeat' (first | (go_big_may; (first
    | ((first
        | (refine loud_ rfl ?_; refine wpList_plain rfl (fun K hK => ?_); (first | (refine op_box _ _ rfl H (fun b w' H1 => hK _ _ ?_)) | (refine op_alloc _ rfl (zero_of _ _ rfl) H (fun b w' H1 => hK _ _ ?_)) | (refine op_store _ _ _ rfl rfl rfl H (by repeat (first | exact Split.here _ _ | apply Split.there)) (by kernel_rfl) (by kernel_rfl) (by kernel_rfl) (fun w' H1 => hK _ _ ?_)) | (refine op_buildSlice_all _ _ _ rfl (by first | exact elem25 | exact elem32 | exact elem35 | exact elem36 | exact elem37 | exact elem38 | exact elem41 | exact elem42 | exact elem45 | exact elem57 | exact elem62 | exact elem74 | exact elem98 | exact elem100 | exact elem137 | exact elem178 | exact elem179) (by kernel_rfl) (by kernel_rfl) (by kernel_rfl) H (fun b w' H1 => hK _ _ ?_))); clear hK K; replace H := H1; clear H1)); (try clear hc); (try simp only [nrm, splice, Value.cells, Nat.reduceAdd, Act.eval, Act.put] at H); have hc := H.cells; simp only [CellsOf, KnCells, knc, Nat.reduceAdd] at hc))) | go_values | go_skip | go_guarded | go_step | go_upon | go_back | dsimp only)
                          exact ⟨⟨k + 1, by omega, by rw [hd], by go_num, H.sel (by repeat (first | exact Sel.nil _ | (apply Sel.cons; focus (repeat (first | exact Split.here _ _ | apply Split.there)))))⟩, by simp [intOf]; omega⟩
                        · rw [decide_eq_false hfm] at hf
                          subst hf
                          by_cases e1 : y = id
                          · have hd : decide (id ∈ ls.take (k + 1)) = true := decide_eq_true (by rw [hcat3.out, e1]; simp)
                            have hfm' := Lib.hid hfm
                            clear hfm
                            have hc := H.cells; simp only [CellsOf, KnCells, knc, Nat.reduceAdd] at hc
                            repeat' (first | (go_big_may; (first
    | ((first
        | (refine loud_ rfl ?_; refine wpList_plain rfl (fun K hK => ?_); (first | (refine op_box _ _ rfl H (fun b w' H1 => hK _ _ ?_)) | (refine op_alloc _ rfl (zero_of _ _ rfl) H (fun b w' H1 => hK _ _ ?_)) | (refine op_store _ _ _ rfl rfl rfl H (by repeat (first | exact Split.here _ _ | apply Split.there)) (by kernel_rfl) (by kernel_rfl) (by kernel_rfl) (fun w' H1 => hK _ _ ?_)) | (refine op_buildSlice_all _ _ _ rfl (by first | exact elem25 | exact elem32 | exact elem35 | exact elem36 | exact elem37 | exact elem38 | exact elem41 | exact elem42 | exact elem45 | exact elem57 | exact elem62 | exact elem74 | exact elem98 | exact elem100 | exact elem137 | exact elem178 | exact elem179) (by kernel_rfl) (by kernel_rfl) (by kernel_rfl) H (fun b w' H1 => hK _ _ ?_))); clear hK K; replace H := H1; clear H1)); (try clear hc); (try simp only [nrm, splice, Value.cells, Nat.reduceAdd, Act.eval, Act.put] at H); have hc := H.cells; simp only [CellsOf, KnCells, knc, Nat.reduceAdd] at hc))) | go_values | go_skip | go_guarded | go_step | go_upon | go_back | dsimp only)
                            exact ⟨⟨k + 1, by omega, by rw [hd], by go_num, H.sel (by repeat (first | exact Sel.nil _ | (apply Sel.cons; focus (repeat (first | exact Split.here _ _ | apply Split.there)))))⟩, by simp [intOf]; omega⟩
                          · have hd : decide (id ∈ ls.take (k + 1)) = false := decide_eq_false (by
                              rw [hcat3.out]
                              intro h
                              rcases List.mem_append.1 h with h | h
                              · exact hfm h
                              · exact e1 (List.mem_singleton.1 h).symm)
                            have hfm' := Lib.hid hfm
                            clear hfm
                            have hyb : (y == id) = false := by simp [e1]
                            have hc := H.cells; simp only [CellsOf, KnCells, knc, Nat.reduceAdd] at hc
                            repeat' (first | (go_big_may; (first
    | ((first
        | (refine loud_ rfl ?_; refine wpList_plain rfl (fun K hK => ?_); (first | (refine op_box _ _ rfl H (fun b w' H1 => hK _ _ ?_)) | (refine op_alloc _ rfl (zero_of _ _ rfl) H (fun b w' H1 => hK _ _ ?_)) | (refine op_store _ _ _ rfl rfl rfl H (by repeat (first | exact Split.here _ _ | apply Split.there)) (by kernel_rfl) (by kernel_rfl) (by kernel_rfl) (fun w' H1 => hK _ _ ?_)) | (refine op_buildSlice_all _ _ _ rfl (by first | exact elem25 | exact elem32 | exact elem35 | exact elem36 | exact elem37 | exact elem38 | exact elem41 | exact elem42 | exact elem45 | exact elem57 | exact elem62 | exact elem74 | exact elem98 | exact elem100 | exact elem137 | exact elem178 | exact elem179) (by kernel_rfl) (by kernel_rfl) (by kernel_rfl) H (fun b w' H1 => hK _ _ ?_))); clear hK K; replace H := H1; clear H1)); (try clear hc); (try simp only [nrm, splice, Value.cells, Nat.reduceAdd, Act.eval, Act.put] at H); have hc := H.cells; simp only [CellsOf, KnCells, knc, Nat.reduceAdd] at hc))) | go_values | go_skip | go_guarded | go_step | go_upon | go_back | dsimp only)
                            exact ⟨⟨k + 1, by omega, by rw [hd], by go_num, H.sel (by repeat (first | exact Sel.nil _ | (apply Sel.cons; focus (repeat (first | exact Split.here _ _ | apply Split.there)))))⟩, by simp [intOf]; omega⟩
                      · obtain rfl : k = wl := by omega
                        rw [List.take_of_length_le (by rw [hlsl.out]; exact Nat.le_refl _), decide_eq_true hin.out] at hf
                        subst hf
                        have hc := H.cells; simp only [CellsOf, KnCells, knc, Nat.reduceAdd] at hc
                        repeat' (first | (go_big_may; (first
    | ((first
        | (refine loud_ rfl ?_; refine wpList_plain rfl (fun K hK => ?_); (first | (refine op_box _ _ rfl H (fun b w' H1 => hK _ _ ?_)) | (refine op_alloc _ rfl (zero_of _ _ rfl) H (fun b w' H1 => hK _ _ ?_)) | (refine op_store _ _ _ rfl rfl rfl H (by repeat (first | exact Split.here _ _ | apply Split.there)) (by kernel_rfl) (by kernel_rfl) (by kernel_rfl) (fun w' H1 => hK _ _ ?_)) | (refine op_buildSlice_all _ _ _ rfl (by first | exact elem25 | exact elem32 | exact elem35 | exact elem36 | exact elem37 | exact elem38 | exact elem41 | exact elem42 | exact elem45 | exact elem57 | exact elem62 | exact elem74 | exact elem98 | exact elem100 | exact elem137 | exact elem178 | exact elem179) (by kernel_rfl) (by kernel_rfl) (by kernel_rfl) H (fun b w' H1 => hK _ _ ?_))); clear hK K; replace H := H1; clear H1)); (try clear hc); (try simp only [nrm, splice, Value.cells, Nat.reduceAdd, Act.eval, Act.put] at H); have hc := H.cells; simp only [CellsOf, KnCells, knc, Nat.reduceAdd] at hc))) | go_values | go_skip | go_guarded | go_step | go_upon | go_back | dsimp only)
                        exact ⟨⟨t2 + 1, by omega, by go_num, H.sel (by repeat (first | exact Sel.nil _ | (apply Sel.cons; focus (repeat (first | exact Split.here _ _ | apply Split.there)))))⟩, by simp [intOf]; omega⟩
                  · obtain rfl : t2 = wl := by omega
                    have hc := H.cells; simp only [CellsOf, KnCells, knc, Nat.reduceAdd] at hc
                    repeat' (first | (go_big_may; (first
    | ((first
        | (refine loud_ rfl ?_; refine wpList_plain rfl (fun K hK => ?_); (first | (refine op_box _ _ rfl H (fun b w' H1 => hK _ _ ?_)) | (refine op_alloc _ rfl (zero_of _ _ rfl) H (fun b w' H1 => hK _ _ ?_)) | (refine op_store _ _ _ rfl rfl rfl H (by repeat (first | exact Split.here _ _ | apply Split.there)) (by kernel_rfl) (by kernel_rfl) (by kernel_rfl) (fun w' H1 => hK _ _ ?_)) | (refine op_buildSlice_all _ _ _ rfl (by first | exact elem25 | exact elem32 | exact elem35 | exact elem36 | exact elem37 | exact elem38 | exact elem41 | exact elem42 | exact elem45 | exact elem57 | exact elem62 | exact elem74 | exact elem98 | exact elem100 | exact elem137 | exact elem178 | exact elem179) (by kernel_rfl) (by kernel_rfl) (by kernel_rfl) H (fun b w' H1 => hK _ _ ?_))); clear hK K; replace H := H1; clear H1)); (try clear hc); (try simp only [nrm, splice, Value.cells, Nat.reduceAdd, Act.eval, Act.put] at H); have hc := H.cells; simp only [CellsOf, KnCells, knc, Nat.reduceAdd] at hc))) | go_values | go_skip | go_guarded | go_step | go_upon | go_back | dsimp only)
                    exact ⟨⟨2, by omega, by go_num, H.sel (by repeat (first | exact Sel.nil _ | (apply Sel.cons; focus (repeat (first | exact Split.here _ _ | apply Split.there)))))⟩, by simp [intOf]⟩
              · have hc := H.cells; simp only [CellsOf, KnCells, knc, Nat.reduceAdd] at hc
                repeat' (first | (go_big_may; (first
    | go_skip
    | ((first
        | (go_at_call 9; refine Calls.mono (awake_calls _) ?_; rintro e w' ⟨rfl, H'⟩; replace H := H.of_ext H'; clear H')
        | (refine loud_ rfl ?_; refine wpList_plain rfl (fun K hK => ?_); (first | (refine op_box _ _ rfl H (fun b w' H1 => hK _ _ ?_)) | (refine op_alloc _ rfl (zero_of _ _ rfl) H (fun b w' H1 => hK _ _ ?_)) | (refine op_store _ _ _ rfl rfl rfl H (by repeat (first | exact Split.here _ _ | apply Split.there)) (by kernel_rfl) (by kernel_rfl) (by kernel_rfl) (fun w' H1 => hK _ _ ?_)) | (refine op_buildSlice_all _ _ _ rfl (by first | exact elem25 | exact elem32 | exact elem35 | exact elem36 | exact elem37 | exact elem38 | exact elem41 | exact elem42 | exact elem45 | exact elem57 | exact elem62 | exact elem74 | exact elem98 | exact elem100 | exact elem137 | exact elem178 | exact elem179) (by kernel_rfl) (by kernel_rfl) (by kernel_rfl) H (fun b w' H1 => hK _ _ ?_))); clear hK K; replace H := H1; clear H1)); (try clear hc); (try simp only [nrm, splice, Value.cells, Nat.reduceAdd, Act.eval, Act.put] at H); have hc := H.cells; simp only [CellsOf, KnCells, knc, Nat.reduceAdd] at hc))) | go_values | go_skip | go_guarded | go_step | go_upon | go_back | dsimp only)
                go_ret
                exact ⟨rfl, H.ext⟩
end Go.Proofs.Ytelddhcggmfloaa
