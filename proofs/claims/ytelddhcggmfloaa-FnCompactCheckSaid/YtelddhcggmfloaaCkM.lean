import Derived.Test.YtelddhcggmfloaaCkL
import Derived.Test.YtelddhcggmfloaaCkI2
import Derived.Deep.DeepCutAuto
-- MORE
-- SUB2
namespace Go.Proofs.Ytelddhcggmfloaa
set_option linter.unusedVariables false
set_option linter.unusedSimpArgs false
set_option linter.unnecessarySimpa false
open Go Go.RowKit Go.V

theorem kh_ones (l : List KH) : One (l.flatMap KH.cells) := by
  intro u hu
  obtain ⟨h, _, hu⟩ := List.mem_flatMap.1 hu
  obtain ⟨a, b, c⟩ := h
  simp only [KH.cells, List.mem_cons, List.not_mem_nil, or_false] at hu
  rcases hu with rfl | rfl | rfl <;> rfl
theorem lies_nil_len {w : World} {l : List KH} {n : Nat} {src : Option Addr} (h : Lies w src (l.flatMap KH.cells)) (hn : l.length = n) : src = none → n = 0 := by
  intro hs
  have := congrArg List.length (h.1 hs)
  rw [kh_flat] at this
  simp only [List.length_nil] at this
  omega
abbrev KVt : TypeId := 55
set_option maxRecDepth 8000 in
theorem hashes_calls (hb : Nat) (f s : KH) (rev2 asked own : Int) (pv av rv : Value) (hs : List KH) (src : Option Addr) (n c : Nat) (hn : Hid (hs.length = n)) (hl : n ≤ 1000) (w : World)
    (H : St [] w w [(false, .is hb (hasO f s rev2 asked own pv (.slice src n c) av rv)), (false, soft src (hs.flatMap KH.cells))]) :
    Calls Try.prog 92 #[pt hb] w fun e w' => ∃ key cap, e = .returned (sl key n cap) ∧ St [] w w' [(true, .row key KVt 3 n cap (hs.flatMap KH.cells))] := by
  have hnil := Lib.hid (lies_nil_len (H.lies (xs := hs.flatMap KH.cells) (Split.there _ (Split.here _ _))) hn.out)
  have hc := H.cells; simp only [CellsOf, KnCells, knc, Nat.reduceAdd] at hc
  go_enter Try.func92, Try.ntmps92
  repeat' (first | (go_big_may; (first
    | ((first
        | (refine loud_ rfl ?_; refine wpList_plain rfl (fun K hK => ?_); (first | (refine op_append_nil _ _ _ rfl elem62 rfl rfl H (H.lies (by repeat (first | exact Split.here _ _ | apply Split.there))) (by rw [kh_flat, hn.out]) hnil.out (kh_ones _) (by omega) (by unfold maxLen; omega) (fun pk pcap w' H1 => hK _ _ ?_)) | (refine op_box _ _ rfl H (fun b w' H1 => hK _ _ ?_)) | (refine op_alloc _ rfl (zero_of _ _ rfl) H (fun b w' H1 => hK _ _ ?_)) | (refine op_store _ _ _ rfl rfl rfl H (by repeat (first | exact Split.here _ _ | apply Split.there)) (by kernel_rfl) (by kernel_rfl) (by kernel_rfl) (fun w' H1 => hK _ _ ?_)) | (refine op_buildSlice_all _ _ _ rfl (by first | exact elem25 | exact elem32 | exact elem35 | exact elem36 | exact elem37 | exact elem38 | exact elem41 | exact elem42 | exact elem45 | exact elem57 | exact elem62 | exact elem74 | exact elem98 | exact elem100 | exact elem137 | exact elem178 | exact elem179) (by kernel_rfl) (by kernel_rfl) (by kernel_rfl) H (fun b w' H1 => hK _ _ ?_))); clear hK K; replace H := H1; clear H1)); (try clear hc); (try simp only [nrm, splice, Value.cells, Nat.reduceAdd, Act.eval, Act.put] at H); have hc := H.cells; simp only [CellsOf, KnCells, knc, Nat.reduceAdd] at hc))) | go_values | go_skip | go_guarded | go_step | go_upon | go_back | dsimp only)
  go_ret
  exact ⟨pk, pcap, rfl, H.top1⟩
set_option maxRecDepth 8000 in
theorem insert0_calls (src : Option Addr) (c : Nat) (w : World) : Calls Try.prog 72 #[.slice src 0 c, .int .i64 0, .int .i64 0, fv58] w fun e w' => e = .returned (.tuple #[]) ∧ Ext [] w w' := by
  have H := St.init [] w
  go_enter Try.func72, Try.ntmps72
  repeat' (first | (go_big_may; (first
    | ((first
        | (refine loud_ rfl ?_; refine wpList_plain rfl (fun K hK => ?_); (first | (refine op_box _ _ rfl H (fun b w' H1 => hK _ _ ?_)) | (refine op_alloc _ rfl (zero_of _ _ rfl) H (fun b w' H1 => hK _ _ ?_)) | (refine op_store _ _ _ rfl rfl rfl H (by repeat (first | exact Split.here _ _ | apply Split.there)) (by kernel_rfl) (by kernel_rfl) (by kernel_rfl) (fun w' H1 => hK _ _ ?_)) | (refine op_buildSlice_all _ _ _ rfl (by first | exact elem25 | exact elem32 | exact elem35 | exact elem36 | exact elem37 | exact elem38 | exact elem41 | exact elem42 | exact elem45 | exact elem57 | exact elem62 | exact elem74 | exact elem98 | exact elem100 | exact elem137 | exact elem178 | exact elem179) (by kernel_rfl) (by kernel_rfl) (by kernel_rfl) H (fun b w' H1 => hK _ _ ?_))); clear hK K; replace H := H1; clear H1)); (try clear hc); (try simp only [nrm, splice, Value.cells, Nat.reduceAdd, Act.eval, Act.put] at H); have hc := H.cells; simp only [CellsOf, KnCells, knc, Nat.reduceAdd] at hc))) | go_values | go_skip | go_guarded | go_step | go_upon | go_back | dsimp only)
  go_loopw [8] (fun a wr => a = .int .i64 1 ∧ wr = w) (fun _ _ => 0)
  case atStart => exact ⟨rfl, rfl⟩
  case round =>
    obtain ⟨rfl, rfl⟩ := hrel
    repeat' (first | (go_big_may; (first
    | ((first
        | (refine loud_ rfl ?_; refine wpList_plain rfl (fun K hK => ?_); (first | (refine op_box _ _ rfl H (fun b w' H1 => hK _ _ ?_)) | (refine op_alloc _ rfl (zero_of _ _ rfl) H (fun b w' H1 => hK _ _ ?_)) | (refine op_store _ _ _ rfl rfl rfl H (by repeat (first | exact Split.here _ _ | apply Split.there)) (by kernel_rfl) (by kernel_rfl) (by kernel_rfl) (fun w' H1 => hK _ _ ?_)) | (refine op_buildSlice_all _ _ _ rfl (by first | exact elem25 | exact elem32 | exact elem35 | exact elem36 | exact elem37 | exact elem38 | exact elem41 | exact elem42 | exact elem45 | exact elem57 | exact elem62 | exact elem74 | exact elem98 | exact elem100 | exact elem137 | exact elem178 | exact elem179) (by kernel_rfl) (by kernel_rfl) (by kernel_rfl) H (fun b w' H1 => hK _ _ ?_))); clear hK K; replace H := H1; clear H1)); (try clear hc); (try simp only [nrm, splice, Value.cells, Nat.reduceAdd, Act.eval, Act.put] at H); have hc := H.cells; simp only [CellsOf, KnCells, knc, Nat.reduceAdd] at hc))) | go_values | go_skip | go_guarded | go_step | go_upon | go_back | dsimp only)
    go_end0
    exact ⟨rfl, H.ext⟩
set_option maxRecDepth 8000 in
theorem stable0_calls (src : Option Addr) (c : Nat) (w : World) : Calls Try.prog 67 #[.slice src 0 c, .int .i64 0, fv58] w fun e w' => e = .returned (.tuple #[]) ∧ Ext [] w w' := by
  have H := St.init [] w
  go_enter Try.func67, Try.ntmps67
  repeat' (first | (go_big_may; (first
    | ((first
        | (refine loud_ rfl ?_; refine wpList_plain rfl (fun K hK => ?_); (first | (refine op_box _ _ rfl H (fun b w' H1 => hK _ _ ?_)) | (refine op_alloc _ rfl (zero_of _ _ rfl) H (fun b w' H1 => hK _ _ ?_)) | (refine op_store _ _ _ rfl rfl rfl H (by repeat (first | exact Split.here _ _ | apply Split.there)) (by kernel_rfl) (by kernel_rfl) (by kernel_rfl) (fun w' H1 => hK _ _ ?_)) | (refine op_buildSlice_all _ _ _ rfl (by first | exact elem25 | exact elem32 | exact elem35 | exact elem36 | exact elem37 | exact elem38 | exact elem41 | exact elem42 | exact elem45 | exact elem57 | exact elem62 | exact elem74 | exact elem98 | exact elem100 | exact elem137 | exact elem178 | exact elem179) (by kernel_rfl) (by kernel_rfl) (by kernel_rfl) H (fun b w' H1 => hK _ _ ?_))); clear hK K; replace H := H1; clear H1)); (try clear hc); (try simp only [nrm, splice, Value.cells, Nat.reduceAdd, Act.eval, Act.put] at H); have hc := H.cells; simp only [CellsOf, KnCells, knc, Nat.reduceAdd] at hc))) | go_values | go_skip | go_guarded | go_step | go_upon | go_back | dsimp only)
  go_loopw [7, 8] (fun a b wr => a = .int .i64 0 ∧ b = .int .i64 20 ∧ wr = w) (fun _ _ _ => 0)
  case atStart => exact ⟨rfl, rfl, rfl⟩
  case round =>
    obtain ⟨rfl, rfl, rfl⟩ := hrel
    repeat' (first | (go_big_may; (first
    | go_skip
    | ((first
        | (go_at_call 72; refine Calls.mono (insert0_calls _ _ _) ?_; rintro e w' ⟨rfl, H'⟩; replace H := H.of_ext H'; clear H')
        | (refine loud_ rfl ?_; refine wpList_plain rfl (fun K hK => ?_); (first | (refine op_box _ _ rfl H (fun b w' H1 => hK _ _ ?_)) | (refine op_alloc _ rfl (zero_of _ _ rfl) H (fun b w' H1 => hK _ _ ?_)) | (refine op_store _ _ _ rfl rfl rfl H (by repeat (first | exact Split.here _ _ | apply Split.there)) (by kernel_rfl) (by kernel_rfl) (by kernel_rfl) (fun w' H1 => hK _ _ ?_)) | (refine op_buildSlice_all _ _ _ rfl (by first | exact elem25 | exact elem32 | exact elem35 | exact elem36 | exact elem37 | exact elem38 | exact elem41 | exact elem42 | exact elem45 | exact elem57 | exact elem62 | exact elem74 | exact elem98 | exact elem100 | exact elem137 | exact elem178 | exact elem179) (by kernel_rfl) (by kernel_rfl) (by kernel_rfl) H (fun b w' H1 => hK _ _ ?_))); clear hK K; replace H := H1; clear H1)); (try clear hc); (try simp only [nrm, splice, Value.cells, Nat.reduceAdd, Act.eval, Act.put] at H); have hc := H.cells; simp only [CellsOf, KnCells, knc, Nat.reduceAdd] at hc))) | go_values | go_skip | go_guarded | go_step | go_upon | go_back | dsimp only)
    go_loopw [6] (fun a wr => a = .int .i64 20 ∧ wr = w') (fun _ _ => 0)
    case atStart => exact ⟨rfl, rfl⟩
    case round =>
      obtain ⟨rfl, rfl⟩ := hrel
      repeat' (first | (go_big_may; (first
    | ((first
        | (refine loud_ rfl ?_; refine wpList_plain rfl (fun K hK => ?_); (first | (refine op_box _ _ rfl H (fun b w' H1 => hK _ _ ?_)) | (refine op_alloc _ rfl (zero_of _ _ rfl) H (fun b w' H1 => hK _ _ ?_)) | (refine op_store _ _ _ rfl rfl rfl H (by repeat (first | exact Split.here _ _ | apply Split.there)) (by kernel_rfl) (by kernel_rfl) (by kernel_rfl) (fun w' H1 => hK _ _ ?_)) | (refine op_buildSlice_all _ _ _ rfl (by first | exact elem25 | exact elem32 | exact elem35 | exact elem36 | exact elem37 | exact elem38 | exact elem41 | exact elem42 | exact elem45 | exact elem57 | exact elem62 | exact elem74 | exact elem98 | exact elem100 | exact elem137 | exact elem178 | exact elem179) (by kernel_rfl) (by kernel_rfl) (by kernel_rfl) H (fun b w' H1 => hK _ _ ?_))); clear hK K; replace H := H1; clear H1)); (try clear hc); (try simp only [nrm, splice, Value.cells, Nat.reduceAdd, Act.eval, Act.put] at H); have hc := H.cells; simp only [CellsOf, KnCells, knc, Nat.reduceAdd] at hc))) | go_values | go_skip | go_guarded | go_step | go_upon | go_back | dsimp only)
      go_end0
      exact ⟨rfl, H.ext⟩
set_option maxRecDepth 8000 in
theorem sort0_calls (src : Option Addr) (c : Nat) (w : World) : Calls Try.prog 57 #[.slice src 0 c, fv58] w fun e w' => e = .returned (.tuple #[]) ∧ Ext [] w w' := by
  have H := St.init [] w
  go_enter Try.func57, Try.ntmps57
  repeat' (first | (go_big_may; (first
    | go_skip
    | ((first
        | (go_at_call 67; refine Calls.mono (stable0_calls _ _ _) ?_; rintro e w' ⟨rfl, H'⟩; replace H := H.of_ext H'; clear H')
        | (refine loud_ rfl ?_; refine wpList_plain rfl (fun K hK => ?_); (first | (refine op_box _ _ rfl H (fun b w' H1 => hK _ _ ?_)) | (refine op_alloc _ rfl (zero_of _ _ rfl) H (fun b w' H1 => hK _ _ ?_)) | (refine op_store _ _ _ rfl rfl rfl H (by repeat (first | exact Split.here _ _ | apply Split.there)) (by kernel_rfl) (by kernel_rfl) (by kernel_rfl) (fun w' H1 => hK _ _ ?_)) | (refine op_buildSlice_all _ _ _ rfl (by first | exact elem25 | exact elem32 | exact elem35 | exact elem36 | exact elem37 | exact elem38 | exact elem41 | exact elem42 | exact elem45 | exact elem57 | exact elem62 | exact elem74 | exact elem98 | exact elem100 | exact elem137 | exact elem178 | exact elem179) (by kernel_rfl) (by kernel_rfl) (by kernel_rfl) H (fun b w' H1 => hK _ _ ?_))); clear hK K; replace H := H1; clear H1)); (try clear hc); (try simp only [nrm, splice, Value.cells, Nat.reduceAdd, Act.eval, Act.put] at H); have hc := H.cells; simp only [CellsOf, KnCells, knc, Nat.reduceAdd] at hc))) | go_values | go_skip | go_guarded | go_step | go_upon | go_back | dsimp only)
  go_end0
  exact ⟨rfl, H.ext⟩
def UnTold (hs l : List KH) (last : Int) (n m : Nat) : Prop := l.Perm hs ∧ SortedTo l n ∧ m ≤ n ∧ (∀ k, k < m → last < rv l k) ∧ (m < n → rv l m ≤ last)
def AtUn (kb n cap b5 : Nat) (l : List KH) (last : Int) (L : List Ent) (w : World) (i : Value) (wr : World) : Prop := ∃ k : Nat, i = .int .i64 k ∧ k ≤ n ∧ Hid (∀ a, a < k → last < rv l a) ∧ St [] w wr ((true, .row (some kb) KVt 3 n cap (l.flatMap KH.cells)) :: L)
set_option maxRecDepth 8000 in
set_option maxHeartbeats 1000000 in
theorem unchecked_calls (cb hb : Nat) (last : Int) (f s : KH) (rev2 asked own : Int) (pv av rvv : Value) (hs : List KH) (src : Option Addr) (n c : Nat) (hn : Hid (hs.length = n)) (hl : n ≤ 19) (w : World)
    (H : St [] w w [(false, .is cb (chkO hb last)), (false, .is hb (hasO f s rev2 asked own pv (.slice src n c) av rvv)), (false, soft src (hs.flatMap KH.cells))]) :
    Calls Try.prog 42 #[pt cb] w fun e w' => ∃ l m key cap, Hid (UnTold hs l last n m) ∧ e = .returned (sl key m cap) ∧ St [] w w' [(true, .row key KVt 3 n cap (l.flatMap KH.cells))] := by
  have h1 := me_hashes hb
  have h2 := na_hashes hb
  have hc := H.cells; simp only [CellsOf, KnCells, knc, Nat.reduceAdd] at hc
  go_enter Try.func42, Try.ntmps42
  go_upto_region 5 with (first
    | go_skip
    | (refine wpList_plain rfl (fun K hK => ?_); refine op_mux _ rfl rfl (H.obj (b := cb) (by repeat (first | exact Split.here _ _ | apply Split.there))) (hK _ _ ?_); clear hK K)
    | ((first
        | (go_at_call 55; refine Calls.mono (rlock_calls _ _) ?_; rintro e w' ⟨rfl, H'⟩; replace H := H.of_ext H'; clear H')
        | (go_at_call 56; refine Calls.mono (runlock_calls _ _) ?_; rintro e w' ⟨rfl, H'⟩; replace H := H.of_ext H'; clear H')
        | (go_at_call 92; refine Calls.mono (hashes_calls hb f s rev2 asked own _ _ _ hs src n c hn (by omega) _ (H.pick (by repeat (first | exact Picks.nil _ | (apply Picks.wr; focus (repeat (first | exact Split.here _ _ | apply Split.there))) | (apply Picks.rd; focus (repeat (first | exact Split.here _ _ | apply Split.there))))))) ?_; rintro e w' ⟨key, cap, rfl, H'⟩; replace H := H.merge (by first | exact Strikes.nil _ | (repeat (first | exact Strikes.nil _ | (apply Strikes.cons; focus (repeat (first | exact Split.here _ _ | apply Split.there)))))) H' rfl; clear H')
        | (refine loud_ rfl ?_; refine wpList_plain rfl (fun K hK => ?_); (first | (refine op_box _ _ rfl H (fun b w' H1 => hK _ _ ?_)) | (refine op_alloc _ rfl (zero_of _ _ rfl) H (fun b w' H1 => hK _ _ ?_)) | (refine op_store _ _ _ rfl rfl rfl H (by repeat (first | exact Split.here _ _ | apply Split.there)) (by kernel_rfl) (by kernel_rfl) (by kernel_rfl) (fun w' H1 => hK _ _ ?_)) | (refine op_buildSlice_all _ _ _ rfl (by first | exact elem25 | exact elem32 | exact elem35 | exact elem36 | exact elem37 | exact elem38 | exact elem41 | exact elem42 | exact elem45 | exact elem57 | exact elem62 | exact elem74 | exact elem98 | exact elem100 | exact elem137 | exact elem178 | exact elem179) (by kernel_rfl) (by kernel_rfl) (by kernel_rfl) H (fun b w' H1 => hK _ _ ?_))); clear hK K; replace H := H1; clear H1)); (try clear hc); (try simp only [nrm, splice, Value.cells, Nat.reduceAdd, Act.eval, Act.put] at H); have hc := H.cells; simp only [CellsOf, KnCells, knc, Nat.reduceAdd] at hc))
  rcases Nat.eq_zero_or_pos n with rfl | h0
  · repeat' (first | (go_big_may; (first
    | go_skip
    | ((first
        | (go_at_call 57; refine Calls.mono (sort0_calls _ _ _) ?_; rintro e w' ⟨rfl, H'⟩; replace H := H.of_ext H'; clear H')
        | (refine loud_ rfl ?_; refine wpList_plain rfl (fun K hK => ?_); (first | (refine op_box _ _ rfl H (fun b w' H1 => hK _ _ ?_)) | (refine op_alloc _ rfl (zero_of _ _ rfl) H (fun b w' H1 => hK _ _ ?_)) | (refine op_store _ _ _ rfl rfl rfl H (by repeat (first | exact Split.here _ _ | apply Split.there)) (by kernel_rfl) (by kernel_rfl) (by kernel_rfl) (fun w' H1 => hK _ _ ?_)) | (refine op_buildSlice_all _ _ _ rfl (by first | exact elem25 | exact elem32 | exact elem35 | exact elem36 | exact elem37 | exact elem38 | exact elem41 | exact elem42 | exact elem45 | exact elem57 | exact elem62 | exact elem74 | exact elem98 | exact elem100 | exact elem137 | exact elem178 | exact elem179) (by kernel_rfl) (by kernel_rfl) (by kernel_rfl) H (fun b w' H1 => hK _ _ ?_))); clear hK K; replace H := H1; clear H1)); (try clear hc); (try simp only [nrm, splice, Value.cells, Nat.reduceAdd, Act.eval, Act.put] at H); have hc := H.cells; simp only [CellsOf, KnCells, knc, Nat.reduceAdd] at hc))) | go_values | go_skip | go_guarded | go_step | go_upon | go_back | dsimp only)
    go_loopw [28] (fun a wr => a = .int .i64 0 ∧ wr = w') (fun _ _ => 0)
    case atStart => exact ⟨rfl, rfl⟩
    case round =>
      obtain ⟨rfl, rfl⟩ := hrel
      repeat' (first | (go_big_may; (first
    | ((first
        | (refine loud_ rfl ?_; refine wpList_plain rfl (fun K hK => ?_); (first | (refine op_box _ _ rfl H (fun b w' H1 => hK _ _ ?_)) | (refine op_alloc _ rfl (zero_of _ _ rfl) H (fun b w' H1 => hK _ _ ?_)) | (refine op_store _ _ _ rfl rfl rfl H (by repeat (first | exact Split.here _ _ | apply Split.there)) (by kernel_rfl) (by kernel_rfl) (by kernel_rfl) (fun w' H1 => hK _ _ ?_)) | (refine op_buildSlice_all _ _ _ rfl (by first | exact elem25 | exact elem32 | exact elem35 | exact elem36 | exact elem37 | exact elem38 | exact elem41 | exact elem42 | exact elem45 | exact elem57 | exact elem62 | exact elem74 | exact elem98 | exact elem100 | exact elem137 | exact elem178 | exact elem179) (by kernel_rfl) (by kernel_rfl) (by kernel_rfl) H (fun b w' H1 => hK _ _ ?_))); clear hK K; replace H := H1; clear H1)); (try clear hc); (try simp only [nrm, splice, Value.cells, Nat.reduceAdd, Act.eval, Act.put] at H); have hc := H.cells; simp only [CellsOf, KnCells, knc, Nat.reduceAdd] at hc))) | go_values | go_skip | go_guarded | go_step | go_upon | go_back | dsimp only)
      go_ret
      exact ⟨hs, 0, key, cap, ⟨List.Perm.refl _, fun a b h1 h2 => by omega, Nat.le_refl _, fun k hk => by omega, fun h => by omega⟩, rfl, H.sel (by repeat (first | exact Sel.nil _ | (apply Sel.cons; focus (repeat (first | exact Split.here _ _ | apply Split.there)))))⟩
  · obtain ⟨kb, rfl⟩ : ∃ kb, key = some kb := by
      have h := H.get (k := .row key KVt 3 n cap (hs.flatMap KH.cells)) (by repeat (first | exact Split.here _ _ | apply Split.there))
      cases key with
      | some kb => exact ⟨kb, rfl⟩
      | none => exact absurd h.1 (by omega)
    (try simp only [sl, Option.map_some])
    have hcap : n ≤ cap := (row_le (H.get (k := .row (some kb) KVt 3 n cap (hs.flatMap KH.cells)) (by repeat (first | exact Split.here _ _ | apply Split.there)))).1
    repeat' (first | (go_big_may; (first
    | go_skip
    | ((first
        | (go_at_call 57; refine Calls.mono (sortHs_calls kb n cap hs hn h0 hl _ _ (H.pick (by repeat (first | exact Picks.nil _ | (apply Picks.wr; focus (repeat (first | exact Split.here _ _ | apply Split.there))) | (apply Picks.rd; focus (repeat (first | exact Split.here _ _ | apply Split.there))))))) ?_; rintro e w' ⟨l, hlp, rfl, H'⟩; replace H := H.merge (by first | exact Strikes.nil _ | (repeat (first | exact Strikes.nil _ | (apply Strikes.cons; focus (repeat (first | exact Split.here _ _ | apply Split.there)))))) H' rfl; clear H')
        | (refine loud_ rfl ?_; refine wpList_plain rfl (fun K hK => ?_); (first | (refine op_box _ _ rfl H (fun b w' H1 => hK _ _ ?_)) | (refine op_alloc _ rfl (zero_of _ _ rfl) H (fun b w' H1 => hK _ _ ?_)) | (refine op_store _ _ _ rfl rfl rfl H (by repeat (first | exact Split.here _ _ | apply Split.there)) (by kernel_rfl) (by kernel_rfl) (by kernel_rfl) (fun w' H1 => hK _ _ ?_)) | (refine op_buildSlice_all _ _ _ rfl (by first | exact elem25 | exact elem32 | exact elem35 | exact elem36 | exact elem37 | exact elem38 | exact elem41 | exact elem42 | exact elem45 | exact elem57 | exact elem62 | exact elem74 | exact elem98 | exact elem100 | exact elem137 | exact elem178 | exact elem179) (by kernel_rfl) (by kernel_rfl) (by kernel_rfl) H (fun b w' H1 => hK _ _ ?_))); clear hK K; replace H := H1; clear H1)); (try clear hc); (try simp only [nrm, splice, Value.cells, Nat.reduceAdd, Act.eval, Act.put] at H); have hc := H.cells; simp only [CellsOf, KnCells, knc, Nat.reduceAdd] at hc))) | go_values | go_skip | go_guarded | go_step | go_upon | go_back | dsimp only)
    have H0 := H.sel (L' := [(true, .row (some kb) KVt 3 n cap (l.flatMap KH.cells))]) (by repeat (first | exact Sel.nil _ | (apply Sel.cons; focus (repeat (first | exact Split.here _ _ | apply Split.there)))))
    clear H hc
    have hll : Hid (l.length = n) := hlp.out.1.length_eq.trans hn.out
    go_loopw [28] (AtUn kb n cap 0 l last [] w) (fun i _ => n - (intOf i).toNat)
    case atStart => exact ⟨0, rfl, Nat.zero_le _, by intro a h; omega, H0⟩
    case round =>
      clear H0
      obtain ⟨k, rfl, hk, hgt, H⟩ := hrel
      by_cases hlt : k < n
      · have hk' : k < l.length := by rw [hll.out]; exact hlt
        have hrv : Hid (rv l k = (l[k]).rev) := by unfold Hid rv; rw [List.getElem?_eq_getElem hk']
        have q0 := flat_at KH.cells 3 l (fun _ _ => rfl) k 0 hk' (by omega)
        have q1 := flat_at KH.cells 3 l (fun _ _ => rfl) k 1 hk' (by omega)
        have q2 := flat_at KH.cells 3 l (fun _ _ => rfl) k 2 hk' (by omega)
        generalize l[k] = h at *
        obtain ⟨hh, hc9, hr⟩ := h
        simp only [KH.cells, List.getElem?_cons_zero, List.getElem?_cons_succ, Nat.add_zero] at q0 q1 q2
        simp only at hrv
        have d0 : k * 3 < n * 3 := by omega
        have d1 : k * 3 + 1 < n * 3 := by omega
        have d2 : k * 3 + 2 < n * 3 := by omega
        clear hk'
        by_cases hle : hr ≤ last
        · have hkc : k ≤ cap := by omega
          have hc := H.cells; simp only [CellsOf, KnCells, knc, Nat.reduceAdd] at hc
          repeat' (first | (go_big_may; (first
    | ((first
        | (refine loud_ rfl ?_; refine wpList_plain rfl (fun K hK => ?_); (first | (refine op_box _ _ rfl H (fun b w' H1 => hK _ _ ?_)) | (refine op_alloc _ rfl (zero_of _ _ rfl) H (fun b w' H1 => hK _ _ ?_)) | (refine op_store _ _ _ rfl rfl rfl H (by repeat (first | exact Split.here _ _ | apply Split.there)) (by kernel_rfl) (by kernel_rfl) (by kernel_rfl) (fun w' H1 => hK _ _ ?_)) | (refine op_buildSlice_all _ _ _ rfl (by first | exact elem25 | exact elem32 | exact elem35 | exact elem36 | exact elem37 | exact elem38 | exact elem41 | exact elem42 | exact elem45 | exact elem57 | exact elem62 | exact elem74 | exact elem98 | exact elem100 | exact elem137 | exact elem178 | exact elem179) (by kernel_rfl) (by kernel_rfl) (by kernel_rfl) H (fun b w' H1 => hK _ _ ?_))); clear hK K; replace H := H1; clear H1)); (try clear hc); (try simp only [nrm, splice, Value.cells, Nat.reduceAdd, Act.eval, Act.put] at H); have hc := H.cells; simp only [CellsOf, KnCells, knc, Nat.reduceAdd] at hc))) | go_values | go_skip | go_guarded | go_step | go_upon | go_back | dsimp only)
          go_ret
          exact ⟨l, k, some kb, cap, ⟨hlp.out.1, hlp.out.2, by omega, hgt.out, fun _ => by rw [hrv.out]; exact hle⟩, rfl, H.sel (by repeat (first | exact Sel.nil _ | (apply Sel.cons; focus (repeat (first | exact Split.here _ _ | apply Split.there)))))⟩
        · have hc := H.cells; simp only [CellsOf, KnCells, knc, Nat.reduceAdd] at hc
          repeat' (first | (go_big_may; (first
    | ((first
        | (refine loud_ rfl ?_; refine wpList_plain rfl (fun K hK => ?_); (first | (refine op_box _ _ rfl H (fun b w' H1 => hK _ _ ?_)) | (refine op_alloc _ rfl (zero_of _ _ rfl) H (fun b w' H1 => hK _ _ ?_)) | (refine op_store _ _ _ rfl rfl rfl H (by repeat (first | exact Split.here _ _ | apply Split.there)) (by kernel_rfl) (by kernel_rfl) (by kernel_rfl) (fun w' H1 => hK _ _ ?_)) | (refine op_buildSlice_all _ _ _ rfl (by first | exact elem25 | exact elem32 | exact elem35 | exact elem36 | exact elem37 | exact elem38 | exact elem41 | exact elem42 | exact elem45 | exact elem57 | exact elem62 | exact elem74 | exact elem98 | exact elem100 | exact elem137 | exact elem178 | exact elem179) (by kernel_rfl) (by kernel_rfl) (by kernel_rfl) H (fun b w' H1 => hK _ _ ?_))); clear hK K; replace H := H1; clear H1)); (try clear hc); (try simp only [nrm, splice, Value.cells, Nat.reduceAdd, Act.eval, Act.put] at H); have hc := H.cells; simp only [CellsOf, KnCells, knc, Nat.reduceAdd] at hc))) | go_values | go_skip | go_guarded | go_step | go_upon | go_back | dsimp only)
          refine ⟨⟨k + 1, by go_num, by omega, ?_, H.sel (by repeat (first | exact Sel.nil _ | (apply Sel.cons; focus (repeat (first | exact Split.here _ _ | apply Split.there)))))⟩, by simp [intOf]; omega⟩
          intro a ha
          by_cases hak : a = k
          · rw [hak, hrv.out]
            omega
          · exact hgt.out a (by omega)
      · obtain rfl : k = n := by omega
        have hc := H.cells; simp only [CellsOf, KnCells, knc, Nat.reduceAdd] at hc
        repeat' (first | (go_big_may; (first
    | ((first
        | (refine loud_ rfl ?_; refine wpList_plain rfl (fun K hK => ?_); (first | (refine op_box _ _ rfl H (fun b w' H1 => hK _ _ ?_)) | (refine op_alloc _ rfl (zero_of _ _ rfl) H (fun b w' H1 => hK _ _ ?_)) | (refine op_store _ _ _ rfl rfl rfl H (by repeat (first | exact Split.here _ _ | apply Split.there)) (by kernel_rfl) (by kernel_rfl) (by kernel_rfl) (fun w' H1 => hK _ _ ?_)) | (refine op_buildSlice_all _ _ _ rfl (by first | exact elem25 | exact elem32 | exact elem35 | exact elem36 | exact elem37 | exact elem38 | exact elem41 | exact elem42 | exact elem45 | exact elem57 | exact elem62 | exact elem74 | exact elem98 | exact elem100 | exact elem137 | exact elem178 | exact elem179) (by kernel_rfl) (by kernel_rfl) (by kernel_rfl) H (fun b w' H1 => hK _ _ ?_))); clear hK K; replace H := H1; clear H1)); (try clear hc); (try simp only [nrm, splice, Value.cells, Nat.reduceAdd, Act.eval, Act.put] at H); have hc := H.cells; simp only [CellsOf, KnCells, knc, Nat.reduceAdd] at hc))) | go_values | go_skip | go_guarded | go_step | go_upon | go_back | dsimp only)
        go_ret
        exact ⟨l, k, some kb, cap, ⟨hlp.out.1, hlp.out.2, Nat.le_refl _, hgt.out, fun h => by omega⟩, rfl, H.top1⟩
end Go.Proofs.Ytelddhcggmfloaa
