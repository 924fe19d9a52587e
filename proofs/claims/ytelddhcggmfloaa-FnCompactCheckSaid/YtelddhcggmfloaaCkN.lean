import Derived.Test.YtelddhcggmfloaaCkM
import Derived.Test.YtelddhcggmfloaaCkD
import Derived.Test.YtelddhcggmfloaaVOpen
import Derived.Deep.DeepCutAuto
-- MORE
-- SUB2
namespace Go.Proofs.Ytelddhcggmfloaa
set_option linter.unusedVariables false
set_option linter.unusedSimpArgs false
set_option linter.unnecessarySimpa false
open Go Go.RowKit Go.V

/-! What the peers answer in a round, revision by revision. -/
abbrev i8 (k : Int) : Value := .int .i64 k
def IdxTold (vs : List Int) (x k : Int) : Prop := (k = -1 ∧ x ∉ vs) ∨ ∃ (i : Nat) (h : i < vs.length), k = i ∧ vs[i] = x ∧ ∀ (a : Nat) (ha : a < vs.length), a < i → vs[a] ≠ x
def AtIx (n : Nat) (vs : List Int) (x : Int) (src : Option Addr) (w : World) (i : Value) (wr : World) : Prop := ∃ j : Nat, i = .int .i64 j ∧ j ≤ n ∧ Hid (∀ (a : Nat) (ha : a < vs.length), a < j → vs[a] ≠ x) ∧ St [] w wr [(false, soft src (vs.map i8))]
set_option maxRecDepth 8000 in
set_option maxHeartbeats 1000000 in
theorem index_calls (vs : List Int) (x : Int) (src : Option Addr) (n c : Nat) (hn : Hid (vs.length = n)) (hl : n ≤ 2147483647) (w : World) (H : St [] w w [(false, soft src (vs.map i8))]) :
    Calls Try.prog 24 #[.slice src n c, .int .i64 x] w fun e w' => ∃ k, Hid (IdxTold vs x k) ∧ e = .returned (.int .i64 k) ∧ St [] w w' [] := by
  go_enter Try.func24, Try.ntmps24
  repeat' (first | (go_big_may; (first
    | ((first
        | (refine loud_ rfl ?_; refine wpList_plain rfl (fun K hK => ?_); (first | (refine op_box _ _ rfl H (fun b w' H1 => hK _ _ ?_)) | (refine op_alloc _ rfl (zero_of _ _ rfl) H (fun b w' H1 => hK _ _ ?_)) | (refine op_store _ _ _ rfl rfl rfl H (by repeat (first | exact Split.here _ _ | apply Split.there)) (by kernel_rfl) (by kernel_rfl) (by kernel_rfl) (fun w' H1 => hK _ _ ?_)) | (refine op_buildSlice_all _ _ _ rfl (by first | exact elem25 | exact elem32 | exact elem35 | exact elem36 | exact elem37 | exact elem38 | exact elem41 | exact elem42 | exact elem45 | exact elem57 | exact elem62 | exact elem74 | exact elem98 | exact elem100 | exact elem137 | exact elem178 | exact elem179) (by kernel_rfl) (by kernel_rfl) (by kernel_rfl) H (fun b w' H1 => hK _ _ ?_))); clear hK K; replace H := H1; clear H1)); (try clear hc); (try simp only [nrm, splice, Value.cells, Nat.reduceAdd, Act.eval, Act.put] at H); have hc := H.cells; simp only [CellsOf, KnCells, knc, Nat.reduceAdd] at hc))) | go_values | go_skip | go_guarded | go_step | go_upon | go_back | dsimp only)
  go_loopw [8] (AtIx n vs x src w) (fun i _ => n - (intOf i).toNat)
  case atStart => exact ⟨0, rfl, Nat.zero_le _, by intro a ha h; omega, H⟩
  case round =>
    clear H
    obtain ⟨j, rfl, hj, hno, H⟩ := hrel
    by_cases hlt : j < n
    · have hj' : j < vs.length := by rw [hn.out]; exact hlt
      have hjx := Lib.hid (show ∀ (a : Nat) (ha : a < vs.length), a < j + 1 → vs[j] ≠ x → vs[a] ≠ x by
        intro a ha h1 h2
        by_cases haj : a = j
        · subst haj
          exact h2
        · exact hno.out a ha (by omega))
      have hje : Hid (vs[j] = x → IdxTold vs x j) := fun h => .inr ⟨j, hj', rfl, h, hno.out⟩
      obtain ⟨b1, o1, rfl, H1⟩ := H.elemSoft (Split.here _ _) j [i8 vs[j]] (by show 0 < 1; omega) (by rw [List.length_map, hn.out]; show j + 1 ≤ n; omega) (by
        intro i hi
        have : i = 0 := by simp at hi; omega
        subst this
        simp [hj'])
      clear H
      have H := H1
      clear H1
      generalize vs[j] = y at *
      clear hj'
      by_cases e1 : x = y
      · subst e1
        have hc := H.cells; simp only [CellsOf, KnCells, knc, Nat.reduceAdd] at hc
        repeat' (first | (go_big_may; (first
    | ((first
        | (refine loud_ rfl ?_; refine wpList_plain rfl (fun K hK => ?_); (first | (refine op_box _ _ rfl H (fun b w' H1 => hK _ _ ?_)) | (refine op_alloc _ rfl (zero_of _ _ rfl) H (fun b w' H1 => hK _ _ ?_)) | (refine op_store _ _ _ rfl rfl rfl H (by repeat (first | exact Split.here _ _ | apply Split.there)) (by kernel_rfl) (by kernel_rfl) (by kernel_rfl) (fun w' H1 => hK _ _ ?_)) | (refine op_buildSlice_all _ _ _ rfl (by first | exact elem25 | exact elem32 | exact elem35 | exact elem36 | exact elem37 | exact elem38 | exact elem41 | exact elem42 | exact elem45 | exact elem57 | exact elem62 | exact elem74 | exact elem98 | exact elem100 | exact elem137 | exact elem178 | exact elem179) (by kernel_rfl) (by kernel_rfl) (by kernel_rfl) H (fun b w' H1 => hK _ _ ?_))); clear hK K; replace H := H1; clear H1)); (try clear hc); (try simp only [nrm, splice, Value.cells, Nat.reduceAdd, Act.eval, Act.put] at H); have hc := H.cells; simp only [CellsOf, KnCells, knc, Nat.reduceAdd] at hc))) | go_values | go_skip | go_guarded | go_step | go_upon | go_back | dsimp only)
        go_ret
        exact ⟨_, hje.out rfl, rfl, H.top0⟩
      · have hc := H.cells; simp only [CellsOf, KnCells, knc, Nat.reduceAdd] at hc
        repeat' (first | (go_big_may; (first
    | ((first
        | (refine loud_ rfl ?_; refine wpList_plain rfl (fun K hK => ?_); (first | (refine op_box _ _ rfl H (fun b w' H1 => hK _ _ ?_)) | (refine op_alloc _ rfl (zero_of _ _ rfl) H (fun b w' H1 => hK _ _ ?_)) | (refine op_store _ _ _ rfl rfl rfl H (by repeat (first | exact Split.here _ _ | apply Split.there)) (by kernel_rfl) (by kernel_rfl) (by kernel_rfl) (fun w' H1 => hK _ _ ?_)) | (refine op_buildSlice_all _ _ _ rfl (by first | exact elem25 | exact elem32 | exact elem35 | exact elem36 | exact elem37 | exact elem38 | exact elem41 | exact elem42 | exact elem45 | exact elem57 | exact elem62 | exact elem74 | exact elem98 | exact elem100 | exact elem137 | exact elem178 | exact elem179) (by kernel_rfl) (by kernel_rfl) (by kernel_rfl) H (fun b w' H1 => hK _ _ ?_))); clear hK K; replace H := H1; clear H1)); (try clear hc); (try simp only [nrm, splice, Value.cells, Nat.reduceAdd, Act.eval, Act.put] at H); have hc := H.cells; simp only [CellsOf, KnCells, knc, Nat.reduceAdd] at hc))) | go_values | go_skip | go_guarded | go_step | go_upon | go_back | dsimp only)
        exact ⟨⟨j + 1, by go_num, by omega, fun a ha h => hjx.out a ha h (fun e => e1 e.symm), H.sel (by repeat (first | exact Sel.nil _ | (apply Sel.cons; focus (repeat (first | exact Split.here _ _ | apply Split.there)))))⟩, by simp [intOf]; omega⟩
    · obtain rfl : j = n := by omega
      have hc := H.cells; simp only [CellsOf, KnCells, knc, Nat.reduceAdd] at hc
      repeat' (first | (go_big_may; (first
    | ((first
        | (refine loud_ rfl ?_; refine wpList_plain rfl (fun K hK => ?_); (first | (refine op_box _ _ rfl H (fun b w' H1 => hK _ _ ?_)) | (refine op_alloc _ rfl (zero_of _ _ rfl) H (fun b w' H1 => hK _ _ ?_)) | (refine op_store _ _ _ rfl rfl rfl H (by repeat (first | exact Split.here _ _ | apply Split.there)) (by kernel_rfl) (by kernel_rfl) (by kernel_rfl) (fun w' H1 => hK _ _ ?_)) | (refine op_buildSlice_all _ _ _ rfl (by first | exact elem25 | exact elem32 | exact elem35 | exact elem36 | exact elem37 | exact elem38 | exact elem41 | exact elem42 | exact elem45 | exact elem57 | exact elem62 | exact elem74 | exact elem98 | exact elem100 | exact elem137 | exact elem178 | exact elem179) (by kernel_rfl) (by kernel_rfl) (by kernel_rfl) H (fun b w' H1 => hK _ _ ?_))); clear hK K; replace H := H1; clear H1)); (try clear hc); (try simp only [nrm, splice, Value.cells, Nat.reduceAdd, Act.eval, Act.put] at H); have hc := H.cells; simp only [CellsOf, KnCells, knc, Nat.reduceAdd] at hc))) | go_values | go_skip | go_guarded | go_step | go_upon | go_back | dsimp only)
      go_ret
      refine ⟨-1, .inl ⟨rfl, ?_⟩, rfl, H.top0⟩
      intro hm
      obtain ⟨a, ha, hax⟩ := List.mem_iff_getElem.1 hm
      exact hno.out a ha (by rw [← hn.out]; exact ha) hax
abbrev nest (rs : List (Row Pr)) : Kn := .rep (rs.flatMap fun r => softFp r.at' (r.list.flatMap Pr.cells)) (fun w => ∀ r ∈ rs, Lies w r.at' (r.list.flatMap Pr.cells))
theorem nest_local (rs : List (Row Pr)) : Local (rs.flatMap fun r => softFp r.at' (r.list.flatMap Pr.cells)) (fun w => ∀ r ∈ rs, Lies w r.at' (r.list.flatMap Pr.cells)) :=
  fun _ _ hb h r hr => lies_same (h r hr) (fun b hm => hb b (List.mem_flatMap.2 ⟨r, hr, hm⟩))
theorem nest_holds {w : World} {rs : List (Row Pr)} (h : ∀ r ∈ rs, Lies w r.at' (r.list.flatMap Pr.cells)) : holds w (nest rs) := by
  refine ⟨nest_local rs, ?_, h⟩
  intro b hb
  obtain ⟨r, hr, hb⟩ := List.mem_flatMap.1 hb
  exact soft_lt (h r hr) b hb
theorem nest_get {S : List Nat} {w0 w : World} {L A B : List Ent} {rs : List (Row Pr)} (H : St S w0 w L) (hs : Split L (false, nest rs) A B) {r : Row Pr} (hr : r ∈ rs) : St S w0 w ((false, soft r.at' (r.list.flatMap Pr.cells)) :: L) :=
  H.sub hs _ (soft_holds (H.rep (R := fun w => ∀ r ∈ rs, Lies w r.at' (r.list.flatMap Pr.cells)) hs r hr)) (fun c hc => List.mem_flatMap.2 ⟨r, hr, hc⟩)
/-- The answers of one revision. -/
def prsAt : List Int → List (Row Pr) → Int → List Pr
  | v :: vs, r :: rs, x => if v = x then r.list else prsAt vs rs x
  | _, _, _ => []
theorem prsAt_at : ∀ (vs : List Int) (rs : List (Row Pr)) (x : Int) (i : Nat) (h : i < vs.length) (hl : vs.length = rs.length), vs[i] = x → (∀ (a : Nat) (ha : a < vs.length), a < i → vs[a] ≠ x) → prsAt vs rs x = (rs[i]'(hl ▸ h)).list
  | [], _, _, i, h, _, _, _ => by simp at h
  | _ :: _, [], _, _, _, hl, _, _ => by simp at hl
  | v :: vs, r :: rs, x, 0, _, _, he, _ => by
    show (if v = x then r.list else _) = _
    rw [if_pos (by simpa using he)]
    rfl
  | v :: vs, r :: rs, x, i + 1, h, hl, he, hno => by
    have h0 : ¬ v = x := hno 0 (by simp) (by omega)
    show (if v = x then r.list else prsAt vs rs x) = _
    rw [if_neg h0, prsAt_at vs rs x i (by simpa using h) (by simpa using hl) (by simpa using he) (fun a ha hai => hno (a + 1) (by simpa using ha) (by omega))]
    rfl
theorem prsAt_no : ∀ (vs : List Int) (rs : List (Row Pr)) (x : Int), x ∉ vs → prsAt vs rs x = []
  | [], _, _, _ => rfl
  | _ :: _, [], _, _ => rfl
  | v :: vs, r :: rs, x, h => by
    simp only [List.mem_cons, not_or] at h
    show (if v = x then r.list else prsAt vs rs x) = _
    rw [if_neg (fun e => h.1 e.symm), prsAt_no vs rs x h.2]
abbrev rdO (hv : Value) (rsrc : Option Addr) (rn rc : Nat) (psrc : Option Addr) (pn pc : Nat) : Obj := .cells #[hv, .slice rsrc rn rc, .slice psrc pn pc] 44 (0, 0)
abbrev fv23 (rb : Nat) : Value := .func (.func 23) #[] #[pt rb]
abbrev fv35 (pb : Nat) : Value := .func (.func 35) #[] #[pt pb]
set_option maxRecDepth 8000 in
set_option maxHeartbeats 1000000 in
theorem cl23_calls (rb : Nat) (rev : Int) (hv : Value) (vs : List Int) (rs : List (Row Pr)) (rsrc psrc : Option Addr) (n rc pc : Nat) (hn : Hid (vs.length = n)) (hn2 : Hid (rs.length = n)) (hl : n ≤ 1000) (hk : Hid (∀ r ∈ rs, r.list.length ≤ 1000)) (w : World)
    (H : St [] w w [(false, .is rb (rdO hv rsrc n rc psrc n pc)), (false, soft rsrc (vs.map i8)), (false, soft psrc (rs.map Row.val)), (false, nest rs)]) :
    Calls Try.prog 23 #[.int .i64 rev, pt rb] w fun e w' => ∃ key cap m, Hid (m = (prsAt vs rs rev).length ∧ m ≤ 1000) ∧ e = .returned (sl key m cap) ∧
      St [] w w' [(true, .row key 91 6 m cap ((prsAt vs rs rev).flatMap Pr.pc))] := by
  have hc := H.cells; simp only [CellsOf, KnCells, knc, Nat.reduceAdd] at hc
  go_enter Try.func23, Try.ntmps23
  go_upto_region 2 with (first
    | go_skip
    | ((first
        | (go_at_call 24; refine Calls.mono (index_calls vs rev _ n rc hn (by omega) _ (H.pick (by repeat (first | exact Picks.nil _ | (apply Picks.wr; focus (repeat (first | exact Split.here _ _ | apply Split.there))) | (apply Picks.rd; focus (repeat (first | exact Split.here _ _ | apply Split.there))))))) ?_; rintro e w' ⟨k, hix, rfl, H'⟩; replace H := H.merge (by first | exact Strikes.nil _ | (repeat (first | exact Strikes.nil _ | (apply Strikes.cons; focus (repeat (first | exact Split.here _ _ | apply Split.there)))))) H' rfl; clear H')
        | (refine loud_ rfl ?_; refine wpList_plain rfl (fun K hK => ?_); (first | (refine op_box _ _ rfl H (fun b w' H1 => hK _ _ ?_)) | (refine op_alloc _ rfl (zero_of _ _ rfl) H (fun b w' H1 => hK _ _ ?_)) | (refine op_store _ _ _ rfl rfl rfl H (by repeat (first | exact Split.here _ _ | apply Split.there)) (by kernel_rfl) (by kernel_rfl) (by kernel_rfl) (fun w' H1 => hK _ _ ?_)) | (refine op_buildSlice_all _ _ _ rfl (by first | exact elem25 | exact elem32 | exact elem35 | exact elem36 | exact elem37 | exact elem38 | exact elem41 | exact elem42 | exact elem45 | exact elem57 | exact elem62 | exact elem74 | exact elem98 | exact elem100 | exact elem137 | exact elem178 | exact elem179) (by kernel_rfl) (by kernel_rfl) (by kernel_rfl) H (fun b w' H1 => hK _ _ ?_))); clear hK K; replace H := H1; clear H1)); (try clear hc); (try simp only [nrm, splice, Value.cells, Nat.reduceAdd, Act.eval, Act.put] at H); have hc := H.cells; simp only [CellsOf, KnCells, knc, Nat.reduceAdd] at hc))
  rcases hix.out with ⟨rfl, hno⟩ | ⟨i, hi, rfl, he, hfst⟩
  · have hpr := Lib.hid (prsAt_no vs rs rev hno)
    clear hno hix
    have hc := H.cells; simp only [CellsOf, KnCells, knc, Nat.reduceAdd] at hc
    repeat' (first | (go_big_may; (first
    | ((first
        | (refine loud_ rfl ?_; refine wpList_plain rfl (fun K hK => ?_); (first | (refine op_box _ _ rfl H (fun b w' H1 => hK _ _ ?_)) | (refine op_alloc _ rfl (zero_of _ _ rfl) H (fun b w' H1 => hK _ _ ?_)) | (refine op_store _ _ _ rfl rfl rfl H (by repeat (first | exact Split.here _ _ | apply Split.there)) (by kernel_rfl) (by kernel_rfl) (by kernel_rfl) (fun w' H1 => hK _ _ ?_)) | (refine op_buildSlice_all _ _ _ rfl (by first | exact elem25 | exact elem32 | exact elem35 | exact elem36 | exact elem37 | exact elem38 | exact elem41 | exact elem42 | exact elem45 | exact elem57 | exact elem62 | exact elem74 | exact elem98 | exact elem100 | exact elem137 | exact elem178 | exact elem179) (by kernel_rfl) (by kernel_rfl) (by kernel_rfl) H (fun b w' H1 => hK _ _ ?_))); clear hK K; replace H := H1; clear H1)); (try clear hc); (try simp only [nrm, splice, Value.cells, Nat.reduceAdd, Act.eval, Act.put] at H); have hc := H.cells; simp only [CellsOf, KnCells, knc, Nat.reduceAdd] at hc))) | go_values | go_skip | go_guarded | go_step | go_upon | go_back | dsimp only)
    go_ret
    refine ⟨none, 0, 0, ⟨by rw [hpr.out]; rfl, by omega⟩, rfl, ?_⟩
    rw [hpr.out]
    exact (H.nilRow 91 6).sel (by repeat (first | exact Sel.nil _ | (apply Sel.cons; focus (repeat (first | exact Split.here _ _ | apply Split.there)))))
  · have hi2 : i < n := by rw [← hn.out]; exact hi
    have hil : i < rs.length := by rw [hn2.out]; exact hi2
    have hpr : Hid (prsAt vs rs rev = (rs[i]).list) := prsAt_at vs rs rev i hi (hn.out.trans hn2.out.symm) he hfst
    have hmem := Lib.hid (List.getElem_mem hil)
    clear he hfst hix
    have H1 := nest_get H (by repeat (first | exact Split.here _ _ | apply Split.there)) hmem.out
    obtain ⟨b1, o1, rfl, H2⟩ := H1.elemSoft (xs := rs.map Row.val) (by repeat (first | exact Split.here _ _ | apply Split.there)) i [Row.val rs[i]] (by show 0 < 1; omega) (by rw [List.length_map, hn2.out]; show i + 1 ≤ n; omega) (by
      intro a ha
      have : a = 0 := by simp at ha; omega
      subst this
      simp [hil])
    clear H H1 hc
    have H := H2
    clear H2
    have hkk := Lib.hid (hk.out _ hmem.out)
    clear hmem
    generalize rs[i] = r at *
    obtain ⟨rsr, rcp, rl⟩ := r
    simp only [Row.val] at H hpr hkk
    have hc := H.cells; simp only [CellsOf, KnCells, knc, Nat.reduceAdd] at hc
    repeat' (first | (go_big_may; (first
    | go_skip
    | ((first
        | (go_at_call 19; refine Calls.mono (peersIn_calls rl _ _ _ _ rfl (by have := hkk.out; omega) (H.pick (by repeat (first | exact Picks.nil _ | (apply Picks.wr; focus (repeat (first | exact Split.here _ _ | apply Split.there))) | (apply Picks.rd; focus (repeat (first | exact Split.here _ _ | apply Split.there))))))) ?_; rintro e w' ⟨key, cap, rfl, H'⟩; replace H := H.merge (by first | exact Strikes.nil _ | (repeat (first | exact Strikes.nil _ | (apply Strikes.cons; focus (repeat (first | exact Split.here _ _ | apply Split.there)))))) H' rfl; clear H')
        | (refine loud_ rfl ?_; refine wpList_plain rfl (fun K hK => ?_); (first | (refine op_box _ _ rfl H (fun b w' H1 => hK _ _ ?_)) | (refine op_alloc _ rfl (zero_of _ _ rfl) H (fun b w' H1 => hK _ _ ?_)) | (refine op_store _ _ _ rfl rfl rfl H (by repeat (first | exact Split.here _ _ | apply Split.there)) (by kernel_rfl) (by kernel_rfl) (by kernel_rfl) (fun w' H1 => hK _ _ ?_)) | (refine op_buildSlice_all _ _ _ rfl (by first | exact elem25 | exact elem32 | exact elem35 | exact elem36 | exact elem37 | exact elem38 | exact elem41 | exact elem42 | exact elem45 | exact elem57 | exact elem62 | exact elem74 | exact elem98 | exact elem100 | exact elem137 | exact elem178 | exact elem179) (by kernel_rfl) (by kernel_rfl) (by kernel_rfl) H (fun b w' H1 => hK _ _ ?_))); clear hK K; replace H := H1; clear H1)); (try clear hc); (try simp only [nrm, splice, Value.cells, Nat.reduceAdd, Act.eval, Act.put] at H); have hc := H.cells; simp only [CellsOf, KnCells, knc, Nat.reduceAdd] at hc))) | go_values | go_skip | go_guarded | go_step | go_upon | go_back | dsimp only)
    go_ret
    refine ⟨key, cap, rl.length, ⟨by rw [hpr.out], hkk.out⟩, rfl, ?_⟩
    rw [hpr.out]
    exact H.top1
abbrev fnO (rb pb : Nat) : Obj := .cells #[fv23 rb] 66 (0, 0)
theorem zzPeers_row (ps : List Pr) (key : Option Nat) (n c : Nat) (w : World) (hn : Hid (ps.length = n)) (hl : n ≤ 2147483647) (H : St [] w w [(false, .row key 91 6 n c (ps.flatMap Pr.pc))]) :
    Calls Try.prog 31 #[sl key n c] w (ClPost ps n w) := zzPeers_calls ps _ n c w hn hl ((St.init [] w).soft (lies_of_row1 (H.get (Split.here _ _))))
set_option maxRecDepth 8000 in
set_option maxHeartbeats 1000000 in
theorem cl35_calls (pb rb : Nat) (rev : Int) (hv : Value) (vs : List Int) (rs : List (Row Pr)) (rsrc psrc : Option Addr) (n rc pc : Nat) (hn : Hid (vs.length = n)) (hn2 : Hid (rs.length = n)) (hl : n ≤ 1000) (hk : Hid (∀ r ∈ rs, r.list.length ≤ 1000)) (w : World)
    (H : St [] w w [(false, .is pb (fnO rb pb)), (false, .is rb (rdO hv rsrc n rc psrc n pc)), (false, soft rsrc (vs.map i8)), (false, soft psrc (rs.map Row.val)), (false, nest rs)]) :
    Calls Try.prog 35 #[.int .i64 rev, pt pb] w fun e w' => ∃ key cap bs fp m, Hid (m = (prsAt vs rs rev).length ∧ m ≤ 1000) ∧ e = .returned (sl key m cap) ∧
      St [] w w' [(true, .rep fp (PrsAt bs (prsAt vs rs rev) fp)), (true, .row key 99 1 m cap (bs.map pt))] := by
  have hc := H.cells; simp only [CellsOf, KnCells, knc, Nat.reduceAdd] at hc
  go_enter Try.func35, Try.ntmps35
  repeat' (first | (go_big_may; (first
    | go_skip
    | ((first
        | (go_at_call 23; refine Calls.mono (cl23_calls rb rev hv vs rs _ _ n rc pc hn hn2 hl hk _ (H.pick (by repeat (first | exact Picks.nil _ | (apply Picks.wr; focus (repeat (first | exact Split.here _ _ | apply Split.there))) | (apply Picks.rd; focus (repeat (first | exact Split.here _ _ | apply Split.there))))))) ?_; rintro e w' ⟨key, cap, m, hm, rfl, H'⟩; replace H := H.merge (by first | exact Strikes.nil _ | (repeat (first | exact Strikes.nil _ | (apply Strikes.cons; focus (repeat (first | exact Split.here _ _ | apply Split.there)))))) H' rfl; clear H')
        | (go_at_call 31; refine Calls.mono (zzPeers_row (prsAt vs rs rev) key m cap _ hm.out.1.symm (by have := hm.out.2; omega) (H.pick (by repeat (first | exact Picks.nil _ | (apply Picks.wr; focus (repeat (first | exact Split.here _ _ | apply Split.there))) | (apply Picks.rd; focus (repeat (first | exact Split.here _ _ | apply Split.there))))))) ?_; rintro e w' ⟨key2, cap2, bs, fp, rfl, H'⟩; replace H := H.merge (by first | exact Strikes.nil _ | (repeat (first | exact Strikes.nil _ | (apply Strikes.cons; focus (repeat (first | exact Split.here _ _ | apply Split.there)))))) H' rfl; clear H')
        | (refine loud_ rfl ?_; refine wpList_plain rfl (fun K hK => ?_); (first | (refine op_box _ _ rfl H (fun b w' H1 => hK _ _ ?_)) | (refine op_alloc _ rfl (zero_of _ _ rfl) H (fun b w' H1 => hK _ _ ?_)) | (refine op_store _ _ _ rfl rfl rfl H (by repeat (first | exact Split.here _ _ | apply Split.there)) (by kernel_rfl) (by kernel_rfl) (by kernel_rfl) (fun w' H1 => hK _ _ ?_)) | (refine op_buildSlice_all _ _ _ rfl (by first | exact elem25 | exact elem32 | exact elem35 | exact elem36 | exact elem37 | exact elem38 | exact elem41 | exact elem42 | exact elem45 | exact elem57 | exact elem62 | exact elem74 | exact elem98 | exact elem100 | exact elem137 | exact elem178 | exact elem179) (by kernel_rfl) (by kernel_rfl) (by kernel_rfl) H (fun b w' H1 => hK _ _ ?_))); clear hK K; replace H := H1; clear H1)); (try clear hc); (try simp only [nrm, splice, Value.cells, Nat.reduceAdd, Act.eval, Act.put] at H); have hc := H.cells; simp only [CellsOf, KnCells, knc, Nat.reduceAdd] at hc))) | go_values | go_skip | go_guarded | go_step | go_upon | go_back | dsimp only)
  go_ret
  exact ⟨key2, cap2, bs, fp, m, hm, rfl, H.sel (by repeat (first | exact Sel.nil _ | (apply Sel.cons; focus (repeat (first | exact Split.here _ _ | apply Split.there)))))⟩
set_option maxRecDepth 8000 in
set_option maxHeartbeats 1000000 in
theorem peer35_calls (hb : Nat) (f s : KH) (rev2 asked own : Int) (hv0 av : Value) (rkey : Option Nat) (q rcap : Nat) (hq : q ≤ 2147483647) (xs : List Value) (pb rb : Nat) (rev : Int) (hv : Value) (vs : List Int) (rs : List (Row Pr)) (rsrc psrc : Option Addr) (n rc pc : Nat) (hn : Hid (vs.length = n)) (hn2 : Hid (rs.length = n)) (hl : n ≤ 1000) (hk : Hid (∀ r ∈ rs, r.list.length ≤ 1000)) (S : List Nat) (w : World)
    (H : St S w w [(true, .is hb (hasO f s rev2 asked own (fv35 pb) hv0 av (sl rkey q rcap))), (true, .row rkey 2 1 q rcap xs), (false, .is pb (fnO rb pb)), (false, .is rb (rdO hv rsrc n rc psrc n pc)), (false, soft rsrc (vs.map i8)), (false, soft psrc (rs.map Row.val)), (false, nest rs)]) :
    Calls Try.prog 95 #[pt hb, .int .i64 rev] w fun e w' => ∃ key cap bs fp m rkey rcap, Hid (m = (prsAt vs rs rev).length ∧ m ≤ 1000) ∧ e = .returned (sl key m cap) ∧
      St S w w' [(true, .is hb (hasO f s rev2 asked own (fv35 pb) hv0 av (sl rkey (q + 1) rcap))), (true, .row rkey 2 1 (q + 1) rcap (xs ++ [.int .i64 rev])), (true, .rep fp (PrsAt bs (prsAt vs rs rev) fp)), (true, .row key 99 1 m cap (bs.map pt))] := by
  have hc := H.cells; simp only [CellsOf, KnCells, knc, Nat.reduceAdd] at hc
  go_enter Try.func95, Try.ntmps95
  repeat' (first | (go_big_may; (first
    | go_skip
    | ((first
        | (go_at_call 35; refine Calls.mono (cl35_calls pb rb rev hv vs rs _ _ n rc pc hn hn2 hl hk _ (H.pick (by repeat (first | exact Picks.nil _ | (apply Picks.wr; focus (repeat (first | exact Split.here _ _ | apply Split.there))) | (apply Picks.rd; focus (repeat (first | exact Split.here _ _ | apply Split.there))))))) ?_; rintro e w' ⟨key, cap, bs, fp, m, hm, rfl, H'⟩; replace H := H.merge (by first | exact Strikes.nil _ | (repeat (first | exact Strikes.nil _ | (apply Strikes.cons; focus (repeat (first | exact Split.here _ _ | apply Split.there)))))) H' rfl; clear H')
        | (refine loud_ rfl ?_; refine wpList_plain rfl (fun K hK => ?_); (first | (refine op_append_lit _ _ _ rfl elem42 rfl rfl H (by repeat (first | exact Split.here _ _ | apply Split.there)) (by repeat (first | exact Split.here _ _ | apply Split.there)) (by kernel_rfl) (by kernel_rfl) (by omega) (by unfold maxLen; omega) (fun key cap' w' H1 => hK _ _ ?_)) | (refine op_box _ _ rfl H (fun b w' H1 => hK _ _ ?_)) | (refine op_alloc _ rfl (zero_of _ _ rfl) H (fun b w' H1 => hK _ _ ?_)) | (refine op_store _ _ _ rfl rfl rfl H (by repeat (first | exact Split.here _ _ | apply Split.there)) (by kernel_rfl) (by kernel_rfl) (by kernel_rfl) (fun w' H1 => hK _ _ ?_)) | (refine op_buildSlice_all _ _ _ rfl (by first | exact elem25 | exact elem32 | exact elem35 | exact elem36 | exact elem37 | exact elem38 | exact elem41 | exact elem42 | exact elem45 | exact elem57 | exact elem62 | exact elem74 | exact elem98 | exact elem100 | exact elem137 | exact elem178 | exact elem179) (by kernel_rfl) (by kernel_rfl) (by kernel_rfl) H (fun b w' H1 => hK _ _ ?_))); clear hK K; replace H := H1; clear H1)); (try clear hc); (try simp only [nrm, splice, Value.cells, Nat.reduceAdd, Act.eval, Act.put] at H); have hc := H.cells; simp only [CellsOf, KnCells, knc, Nat.reduceAdd] at hc))) | go_values | go_skip | go_guarded | go_step | go_upon | go_back | dsimp only)
  go_ret
  exact ⟨key, cap, bs, fp, m, _, _, hm, rfl, H.sel (by repeat (first | exact Sel.nil _ | (apply Sel.cons; focus (repeat (first | exact Split.here _ _ | apply Split.there)))))⟩
end Go.Proofs.Ytelddhcggmfloaa
