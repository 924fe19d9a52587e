import Derived.Test.YtelddhcggmfloaaCkA
-- MORE
-- SUB2
namespace Go.Proofs.Ytelddhcggmfloaa
set_option linter.unusedVariables false
set_option linter.unusedSimpArgs false
set_option linter.unnecessarySimpa false
open Go Go.RowKit Go.V

abbrev pt (b : Nat) : Value := .pointer (some ⟨b, 0, none⟩)
abbrev rsO (id : Int) (r e : Value) : Obj := .cells #[.int .u64 id, .slice none 0 0, r, e] 105 (0, 0)
abbrev kvO (h : Value) (hash compact : Int) : Obj := .cells #[h, .int .u32 hash, .int .i64 compact, .int .i64 0] 110 (0, 0)
abbrev hdO (id rev : Int) : Obj := .cells #[.int .u64 0, .int .u64 id, .int .i64 rev, .int .u64 0] 108 (0, 0)
/-- An answer in memory. -/
def PrAt (b : Nat) (p : Pr) (fp : List Nat) (w : World) : Prop :=
  (p.has = true ∧ ∃ rb hb, fp = [b, rb, hb] ∧ w.heap[b]? = some (rsO p.id (pt rb) .nilIface) ∧ w.heap[rb]? = some (kvO (pt hb) p.hash p.compact) ∧ w.heap[hb]? = some (hdO p.id p.rev)) ∨
  (p.has = false ∧ fp = [b] ∧ w.heap[b]? = some (rsO p.id (.pointer none) cerr))
theorem PrAt.local (b : Nat) (p : Pr) (fp : List Nat) : Local fp (PrAt b p fp) := by
  rintro w w' hs (⟨h1, rb, hb, rfl, h2, h3, h4⟩ | ⟨h1, rfl, h2⟩)
  · exact .inl ⟨h1, rb, hb, rfl, (hs _ (by simp)).trans h2, (hs _ (by simp)).trans h3, (hs _ (by simp)).trans h4⟩
  · exact .inr ⟨h1, rfl, (hs _ (by simp)).trans h2⟩
def PrsAt (bs : List Nat) (ds : List Pr) (fp : List Nat) (w : World) : Prop := ∃ ts : List (Nat × Pr × List Nat), bs = ts.map (·.1) ∧ ds = ts.map (·.2.1) ∧ fp = ts.flatMap (·.2.2) ∧ ∀ t ∈ ts, PrAt t.1 t.2.1 t.2.2 w
theorem PrsAt.local (bs : List Nat) (ds : List Pr) (fp : List Nat) : Local fp (PrsAt bs ds fp) := by
  rintro w w' hs ⟨ts, rfl, rfl, rfl, h⟩
  exact ⟨ts, rfl, rfl, rfl, fun t ht => PrAt.local _ _ _ w w' (fun b hb => hs b (List.mem_flatMap.2 ⟨t, ht, hb⟩)) (h t ht)⟩
theorem PrsAt.nil (w : World) : PrsAt [] [] [] w := ⟨[], rfl, rfl, rfl, by simp⟩
theorem PrsAt.snoc {bs : List Nat} {ds : List Pr} {fp fp1 : List Nat} {b : Nat} {d : Pr} {w : World} (h : PrsAt bs ds fp w) (h1 : PrAt b d fp1 w) : PrsAt (bs ++ [b]) (ds ++ [d]) (fp ++ fp1) w := by
  obtain ⟨ts, rfl, rfl, rfl, h⟩ := h
  refine ⟨ts ++ [(b, d, fp1)], by simp, by simp, by simp, ?_⟩
  intro t ht
  rcases List.mem_append.1 ht with ht | ht
  · exact h t ht
  · simp only [List.mem_singleton] at ht
    subst ht
    exact h1
theorem PrsAt.get {bs : List Nat} {ds : List Pr} {fp : List Nat} {w : World} (h : PrsAt bs ds fp w) (k : Nat) (hk : k < ds.length) : ∃ b fp1, bs[k]? = some b ∧ PrAt b ds[k] fp1 w ∧ ∀ c ∈ fp1, c ∈ fp := by
  obtain ⟨ts, rfl, rfl, rfl, h⟩ := h
  have hk' : k < ts.length := by simpa using hk
  refine ⟨(ts[k]).1, (ts[k]).2.2, by simp [hk'], by simpa using h _ (List.getElem_mem hk'), fun c hc => List.mem_flatMap.2 ⟨_, List.getElem_mem hk', hc⟩⟩
theorem PrsAt.len {bs : List Nat} {ds : List Pr} {fp : List Nat} {w : World} (h : PrsAt bs ds fp w) : bs.length = ds.length := by
  obtain ⟨ts, rfl, rfl, rfl, h⟩ := h
  simp
theorem map_snoc_pt (bs : List Nat) (b : Nat) : bs.map pt ++ [pt b] = (bs ++ [b]).map pt := by simp
def AtZz (n : Nat) (ps : List Pr) (src : Option Addr) (w : World) (ov i : Value) (wr : World) : Prop := ∃ (j : Nat) (key : Option Nat) (cap : Nat) (bs fp : List Nat), j ≤ n ∧ i = .int .i64 j ∧ ov = sl key j cap ∧
  St [] w wr [(true, .rep fp (PrsAt bs (ps.take j) fp)), (true, .row key 99 1 j cap (bs.map pt)), (false, soft src (ps.flatMap Pr.pc))]
set_option maxRecDepth 8000 in
set_option maxHeartbeats 1000000 in
theorem zzPeers_calls (ps : List Pr) (src : Option Addr) (n c : Nat) (w : World) (hn : Hid (ps.length = n)) (hl : n ≤ 2147483647) (H : St [] w w [(false, soft src (ps.flatMap Pr.pc))]) :
    Calls Try.prog 31 #[.slice src n c] w fun e w' => ∃ key cap bs fp, e = .returned (sl key n cap) ∧
      St [] w w' [(true, .rep fp (PrsAt bs ps fp)), (true, .row key 99 1 n cap (bs.map pt))] := by
  go_enter Try.func31, Try.ntmps31
  repeat' (first | (go_big_may; (first
    | ((first
        | (refine loud_ rfl ?_; refine wpList_plain rfl (fun K hK => ?_); (first | (refine op_box _ _ rfl H (fun b w' H1 => hK _ _ ?_)) | (refine op_alloc _ rfl (zero_of _ _ rfl) H (fun b w' H1 => hK _ _ ?_)) | (refine op_store _ _ _ rfl rfl rfl H (by repeat (first | exact Split.here _ _ | apply Split.there)) (by kernel_rfl) (by kernel_rfl) (by kernel_rfl) (fun w' H1 => hK _ _ ?_)) | (refine op_buildSlice_all _ _ _ rfl (by first | exact elem25 | exact elem32 | exact elem35 | exact elem36 | exact elem37 | exact elem38 | exact elem41 | exact elem42 | exact elem45 | exact elem57 | exact elem62 | exact elem74 | exact elem98 | exact elem100 | exact elem137 | exact elem178 | exact elem179) (by kernel_rfl) (by kernel_rfl) (by kernel_rfl) H (fun b w' H1 => hK _ _ ?_))); clear hK K; replace H := H1; clear H1)); (try clear hc); (try simp only [nrm, splice, Value.cells, Nat.reduceAdd, Act.eval, Act.put] at H); have hc := H.cells; simp only [CellsOf, KnCells, knc, Nat.reduceAdd] at hc))) | go_values | go_skip | go_guarded | go_step | go_upon | go_back | dsimp only)
  have H0 : St [] w w [(true, .rep [] (PrsAt [] (ps.take 0) [])), (true, .row none 99 1 0 0 (([] : List Nat).map pt)), (false, soft src (ps.flatMap Pr.pc))] := ((H.nilRow _ _).pack (.nil _) _ (PrsAt.local _ _ _) (PrsAt.nil _)).sel (by repeat (first | exact Sel.nil _ | (apply Sel.cons; focus (repeat (first | exact Split.here _ _ | apply Split.there)))))
  clear H
  go_loopw [3, 9] (AtZz n ps src w) (fun _ i _ => n - (intOf i).toNat)
  case atStart => exact ⟨0, none, 0, [], [], Nat.zero_le _, rfl, rfl, H0⟩
  case round =>
    clear H0
    obtain ⟨j, key, cap, bs, fp, hj, rfl, rfl, H⟩ := hrel
    by_cases hlt : j < n
    · have hj' : j < ps.length := by rw [hn.out]; exact hlt
      have hcat : Hid (ps.take (j + 1) = ps.take j ++ [ps[j]]) := (List.take_append_getElem hj').symm
      obtain ⟨b1, o1, rfl, H1⟩ := H.elemSoft (Split.there _ (Split.there _ (Split.here _ _))) (j * 6) (ps[j]).pc (by show 0 < 6; omega) (by rw [pc_len]; show _ + 6 ≤ _; omega) (fun i hi => flat_at Pr.pc 6 ps (fun _ _ => rfl) j i hj' hi)
      clear H
      have H := H1
      clear H1
      generalize ps[j] = p at *
      obtain ⟨id, has, hash, compact, rev, err⟩ := p
      simp only [Pr.pc] at H
      clear hj'
      cases has
      · have hc := H.cells; simp only [CellsOf, KnCells, knc, Nat.reduceAdd] at hc
        repeat' (first | (go_big_may; (first
    | ((first
        | (refine loud_ rfl ?_; refine wpList_plain rfl (fun K hK => ?_); (first | (refine op_append_lit _ _ _ rfl elem74 rfl rfl H (by repeat (first | exact Split.here _ _ | apply Split.there)) (by repeat (first | exact Split.here _ _ | apply Split.there)) (by kernel_rfl) (by kernel_rfl) (by omega) (by unfold maxLen; omega) (fun key cap' w' H1 => hK _ _ ?_)) | (refine op_box _ _ rfl H (fun b w' H1 => hK _ _ ?_)) | (refine op_alloc _ rfl (zero_of _ _ rfl) H (fun b w' H1 => hK _ _ ?_)) | (refine op_store _ _ _ rfl rfl rfl H (by repeat (first | exact Split.here _ _ | apply Split.there)) (by kernel_rfl) (by kernel_rfl) (by kernel_rfl) (fun w' H1 => hK _ _ ?_)) | (refine op_buildSlice_all _ _ _ rfl (by first | exact elem25 | exact elem32 | exact elem35 | exact elem36 | exact elem37 | exact elem38 | exact elem41 | exact elem42 | exact elem45 | exact elem57 | exact elem62 | exact elem74 | exact elem98 | exact elem100 | exact elem137 | exact elem178 | exact elem179) (by kernel_rfl) (by kernel_rfl) (by kernel_rfl) H (fun b w' H1 => hK _ _ ?_))); clear hK K; replace H := H1; clear H1)); (try clear hc); (try simp only [nrm, splice, Value.cells, Nat.reduceAdd, Act.eval, Act.put] at H); have hc := H.cells; simp only [CellsOf, KnCells, knc, Nat.reduceAdd] at hc))) | go_values | go_skip | go_guarded | go_step | go_upon | go_back | dsimp only)
        have h3 := PrsAt.snoc (H.rep (R := PrsAt bs (ps.take j) fp) (fp := fp) (by repeat (first | exact Split.here _ _ | apply Split.there))) (d := ⟨id, false, hash, compact, rev, err⟩) (.inr ⟨rfl, rfl, H.obj (Split.here _ _)⟩)
        rw [← hcat.out] at h3
        have H1 := H.packAs (.cons (Split.there _ (Split.there _ (Split.there _ (Split.here _ _)))) (.cons (Split.here _ _) (.nil _))) (by simp [Kn.fp]) _ (PrsAt.local _ _ _) h3
        rw [map_snoc_pt] at H1
        exact ⟨⟨j + 1, key, cap', _, _, by omega, by go_num, rfl, H1.sel (by repeat (first | exact Sel.nil _ | (apply Sel.cons; focus (repeat (first | exact Split.here _ _ | apply Split.there)))))⟩, by simp [intOf]; omega⟩
      · have hc := H.cells; simp only [CellsOf, KnCells, knc, Nat.reduceAdd] at hc
        repeat' (first | (go_big_may; (first
    | ((first
        | (refine loud_ rfl ?_; refine wpList_plain rfl (fun K hK => ?_); (first | (refine op_append_lit _ _ _ rfl elem74 rfl rfl H (by repeat (first | exact Split.here _ _ | apply Split.there)) (by repeat (first | exact Split.here _ _ | apply Split.there)) (by kernel_rfl) (by kernel_rfl) (by omega) (by unfold maxLen; omega) (fun key cap' w' H1 => hK _ _ ?_)) | (refine op_box _ _ rfl H (fun b w' H1 => hK _ _ ?_)) | (refine op_alloc _ rfl (zero_of _ _ rfl) H (fun b w' H1 => hK _ _ ?_)) | (refine op_store _ _ _ rfl rfl rfl H (by repeat (first | exact Split.here _ _ | apply Split.there)) (by kernel_rfl) (by kernel_rfl) (by kernel_rfl) (fun w' H1 => hK _ _ ?_)) | (refine op_buildSlice_all _ _ _ rfl (by first | exact elem25 | exact elem32 | exact elem35 | exact elem36 | exact elem37 | exact elem38 | exact elem41 | exact elem42 | exact elem45 | exact elem57 | exact elem62 | exact elem74 | exact elem98 | exact elem100 | exact elem137 | exact elem178 | exact elem179) (by kernel_rfl) (by kernel_rfl) (by kernel_rfl) H (fun b w' H1 => hK _ _ ?_))); clear hK K; replace H := H1; clear H1)); (try clear hc); (try simp only [nrm, splice, Value.cells, Nat.reduceAdd, Act.eval, Act.put] at H); have hc := H.cells; simp only [CellsOf, KnCells, knc, Nat.reduceAdd] at hc))) | go_values | go_skip | go_guarded | go_step | go_upon | go_back | dsimp only)
        have h3 := PrsAt.snoc (H.rep (R := PrsAt bs (ps.take j) fp) (fp := fp) (by repeat (first | exact Split.here _ _ | apply Split.there))) (d := ⟨id, true, hash, compact, rev, err⟩) (.inl ⟨rfl, _, _, rfl, H.obj (Split.there _ (Split.there _ (Split.here _ _))), H.obj (Split.here _ _), H.obj (Split.there _ (Split.here _ _))⟩)
        rw [← hcat.out] at h3
        have H1 := H.packAs (.cons (Split.there _ (Split.there _ (Split.there _ (Split.there _ (Split.there _ (Split.here _ _)))))) (.cons (Split.there _ (Split.there _ (Split.here _ _))) (.cons (Split.here _ _) (.cons (Split.here _ _) (.nil _))))) (by simp [Kn.fp]) _ (PrsAt.local _ _ _) h3
        rw [map_snoc_pt] at H1
        exact ⟨⟨j + 1, key, cap', _, _, by omega, by go_num, rfl, H1.sel (by repeat (first | exact Sel.nil _ | (apply Sel.cons; focus (repeat (first | exact Split.here _ _ | apply Split.there)))))⟩, by simp [intOf]; omega⟩
    · obtain rfl : j = n := by omega
      rw [List.take_of_length_le (by rw [hn.out]; omega)] at H
      have hc := H.cells; simp only [CellsOf, KnCells, knc, Nat.reduceAdd] at hc
      repeat' (first | (go_big_may; (first
    | ((first
        | (refine loud_ rfl ?_; refine wpList_plain rfl (fun K hK => ?_); (first | (refine op_box _ _ rfl H (fun b w' H1 => hK _ _ ?_)) | (refine op_alloc _ rfl (zero_of _ _ rfl) H (fun b w' H1 => hK _ _ ?_)) | (refine op_store _ _ _ rfl rfl rfl H (by repeat (first | exact Split.here _ _ | apply Split.there)) (by kernel_rfl) (by kernel_rfl) (by kernel_rfl) (fun w' H1 => hK _ _ ?_)) | (refine op_buildSlice_all _ _ _ rfl (by first | exact elem25 | exact elem32 | exact elem35 | exact elem36 | exact elem37 | exact elem38 | exact elem41 | exact elem42 | exact elem45 | exact elem57 | exact elem62 | exact elem74 | exact elem98 | exact elem100 | exact elem137 | exact elem178 | exact elem179) (by kernel_rfl) (by kernel_rfl) (by kernel_rfl) H (fun b w' H1 => hK _ _ ?_))); clear hK K; replace H := H1; clear H1)); (try clear hc); (try simp only [nrm, splice, Value.cells, Nat.reduceAdd, Act.eval, Act.put] at H); have hc := H.cells; simp only [CellsOf, KnCells, knc, Nat.reduceAdd] at hc))) | go_values | go_skip | go_guarded | go_step | go_upon | go_back | dsimp only)
      go_ret
      exact ⟨key, cap, bs, fp, rfl, H.top2⟩
end Go.Proofs.Ytelddhcggmfloaa
