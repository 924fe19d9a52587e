import Derived.Test.YtdcijhdjddiboaaDoorVerFo
import Derived.Test.YtdcijhdjddiboaaDoorVerFl
-- MORE
namespace Go.Proofs.YtdcijhdjddiboaaDoor
set_option linter.unusedVariables false
set_option linter.unusedSimpArgs false
set_option linter.unnecessarySimpa false
open Go.RowKit Go.V

theorem roll_of (n : Nat) (m : Int) (hn : 1 ≤ n ∧ n ≤ 9) (hm : 2 ≤ m ∧ m ≤ 9000) : Roll n m (vstr ⟨3, m, 0⟩) (vstr ⟨3, m - 1, 0⟩) := by
  have o1 := roll_ok1 m hm
  have o2 := roll_ok2 m hm
  have v1 := vtext_vstr o1
  have v2 := vtext_vstr o2
  have hq : veq ⟨3, m - 1, 0⟩ (vprev ⟨3, m, 0⟩) = true := veq_self _
  have hs1 := hidStr ⟨3, m, 0⟩
  have hs2 := hidStr ⟨3, m - 1, 0⟩
  have voted : ∀ (d d' : VD) (o : Vo), (o.en && o.canc) = false → votedD d o = d' → ∀ w, Calls Tryd.prog 24 #[d.val, o.val] w fun e w' => e = .returned d'.val ∧ Ext [] w w' := fun d d' o h e w => by
    have := voted_calls d o h w
    rw [e] at this
    exact this
  have seen : ∀ (cl st tg : ByteArray) (dn hd : Bool) (mb cap : Nat) (ls : List Nat), (cl = vstr ⟨3, m, 0⟩ ∨ cl = vstr ⟨3, m - 1, 0⟩) → (st = vstr ⟨3, m, 0⟩ ∨ st = vstr ⟨3, m - 1, 0⟩) → (dn = true → tg = vstr ⟨3, m - 1, 0⟩) → Seen ⟨cl, st, tg, dn, hd, some ⟨mb, 0, none⟩, n, cap⟩ (rollT n ls (vstr ⟨3, m, 0⟩) (vstr ⟨3, m - 1, 0⟩)) :=
    fun cl st tg dn hd mb cap ls h1 h2 h3 => roll_seen m hm ⟨cl, st, tg, dn, hd, some ⟨mb, 0, none⟩, n, cap⟩ n hn.2 ls rfl h1 h2 h3
  have dec : ∀ (d : VD) (ts : List ByteArray) (o : Vo), Seen d ts → decOf d ts = o → ∀ w, St [] w w [(false, .arr d.at' (strs ts)), genv] → Calls Tryd.prog 11 #[d.val] w fun e w' => e = .returned o.val ∧ Ext [] w w' := fun d ts o h e w H => by
    have := decide_calls d ts h w H
    rw [e] at this
    exact this
  have sto : ∀ (d : VD) (ts : List ByteArray) (o : Vo), Seen d ts → stVo (verOf d.cl) (verOf d.st) = o → ∀ w, St [] w w [(false, .arr d.at' (strs ts)), genv] → Calls Tryd.prog 25 #[d.val] w fun e w' => e = .returned o.val ∧ Ext [] w w' := fun d ts o h e w H => by
    have := storage_calls d ts h w (stg H)
    rw [e] at this
    exact this
  have can : ∀ (d : VD) (ts : List ByteArray) (o : Vo), Seen d ts → caVo d.hd d.dn (ts.map verOf) (verOf d.tg) = o → ∀ w, St [] w w [(false, .arr d.at' (strs ts)), genv] → Calls Tryd.prog 22 #[d.val] w fun e w' => e = .returned o.val ∧ Ext [] w w' := fun d ts o h e w H => by
    have := cancel_calls d ts h w H
    rw [e] at this
    exact this
  constructor
  · intro w
    rw [rollT_start]
    exact verFirst_calls n m hn ⟨by omega, by omega⟩ w
  · intro mb cap w H
    exact downEn_oka ⟨vstr ⟨3, m, 0⟩, vstr ⟨3, m, 0⟩, ByteArray.empty, false, false, some ⟨mb, 0, none⟩, n, cap⟩ ⟨3, m - 1, 0⟩ ⟨3, m, 0⟩ (Lib.hid v1) (Lib.hid o2) (Lib.hid hq) rfl w H
  · intro mb cap w
    exact voted ⟨vstr ⟨3, m, 0⟩, vstr ⟨3, m, 0⟩, ByteArray.empty, false, false, some ⟨mb, 0, none⟩, n, cap⟩ ⟨vstr ⟨3, m, 0⟩, vstr ⟨3, m, 0⟩, vstr ⟨3, m - 1, 0⟩, true, true, some ⟨mb, 0, none⟩, n, cap⟩ ⟨0, ByteArray.empty, ByteArray.empty, false, true, vstr ⟨3, m - 1, 0⟩⟩ rfl (by simp [votedD, strEmpty]) w
  · intro mb cap w H
    exact downVal_job ⟨vstr ⟨3, m, 0⟩, vstr ⟨3, m, 0⟩, vstr ⟨3, m - 1, 0⟩, true, true, some ⟨mb, 0, none⟩, n, cap⟩ ⟨3, m - 1, 0⟩ ⟨3, m, 0⟩ (Lib.hid v1) (Lib.hid hq) rfl rfl w H
  · intro mb cap w H
    exact dec ⟨vstr ⟨3, m, 0⟩, vstr ⟨3, m, 0⟩, vstr ⟨3, m - 1, 0⟩, true, true, some ⟨mb, 0, none⟩, n, cap⟩ _ _ (seen _ _ _ _ _ _ _ _ (.inl rfl) (.inl rfl) (fun _ => rfl)) (roll_dec_first m hm _ n hn.1 rfl rfl rfl) w H
  · intro mb cap w
    exact voted ⟨vstr ⟨3, m, 0⟩, vstr ⟨3, m, 0⟩, vstr ⟨3, m - 1, 0⟩, true, true, some ⟨mb, 0, none⟩, n, cap⟩ ⟨vstr ⟨3, m - 1, 0⟩, vstr ⟨3, m, 0⟩, vstr ⟨3, m - 1, 0⟩, true, true, some ⟨mb, 0, none⟩, n, cap⟩ ⟨0, vstr ⟨3, m - 1, 0⟩, ByteArray.empty, false, false, ByteArray.empty⟩ rfl (by simp [votedD, strEmpty, hs2]) w
  · intro mb cap w H
    exact sto ⟨vstr ⟨3, m - 1, 0⟩, vstr ⟨3, m, 0⟩, vstr ⟨3, m - 1, 0⟩, true, true, some ⟨mb, 0, none⟩, n, cap⟩ _ _ (seen _ _ _ _ _ _ _ _ (.inr rfl) (.inl rfl) (fun _ => rfl)) (roll_st m hm _ _ rfl rfl) w H
  · intro mb cap w
    exact voted ⟨vstr ⟨3, m - 1, 0⟩, vstr ⟨3, m, 0⟩, vstr ⟨3, m - 1, 0⟩, true, true, some ⟨mb, 0, none⟩, n, cap⟩ ⟨vstr ⟨3, m - 1, 0⟩, vstr ⟨3, m - 1, 0⟩, vstr ⟨3, m - 1, 0⟩, true, true, some ⟨mb, 0, none⟩, n, cap⟩ ⟨0, ByteArray.empty, vstr ⟨3, m - 1, 0⟩, false, false, ByteArray.empty⟩ rfl (by simp [votedD, strEmpty, hs2]) w
  · intro w
    exact verText_calls ⟨3, m - 1, 0⟩ o2 w
  · intro ls hls hj mb cap w H
    obtain ⟨j, r, rfl⟩ := List.exists_cons_of_ne_nil hls
    refine can ⟨vstr ⟨3, m - 1, 0⟩, vstr ⟨3, m - 1, 0⟩, vstr ⟨3, m - 1, 0⟩, true, true, some ⟨mb, 0, none⟩, n, cap⟩ _ vo0 (seen _ _ _ _ _ _ _ _ (.inr rfl) (.inr rfl) (fun _ => rfl)) ?_ w H
    have e := roll_not_all m hm n (j :: r) j List.mem_cons_self (hj j List.mem_cons_self)
    simp only [verOf_vstr o2]
    unfold caVo
    simp only [e]
    rfl
  · intro ls mb cap w H
    exact dec ⟨vstr ⟨3, m - 1, 0⟩, vstr ⟨3, m - 1, 0⟩, vstr ⟨3, m - 1, 0⟩, true, true, some ⟨mb, 0, none⟩, n, cap⟩ _ _ (seen _ _ _ _ _ _ _ _ (.inr rfl) (.inr rfl) (fun _ => rfl)) (roll_dec m hm _ n ls rfl rfl rfl) w H
  · intro ls mb cap w H
    exact sto ⟨vstr ⟨3, m - 1, 0⟩, vstr ⟨3, m - 1, 0⟩, vstr ⟨3, m - 1, 0⟩, true, true, some ⟨mb, 0, none⟩, n, cap⟩ _ _ (seen _ _ _ _ _ _ _ _ (.inr rfl) (.inr rfl) (fun _ => rfl)) (roll_st2 m hm _ _ rfl rfl) w H
  · intro mb cap w H
    refine can ⟨vstr ⟨3, m - 1, 0⟩, vstr ⟨3, m - 1, 0⟩, vstr ⟨3, m - 1, 0⟩, true, true, some ⟨mb, 0, none⟩, n, cap⟩ _ ⟨0, ByteArray.empty, ByteArray.empty, true, false, ByteArray.empty⟩ (seen _ _ _ _ _ _ _ _ (.inr rfl) (.inr rfl) (fun _ => rfl)) ?_ w H
    have e := roll_all m hm n
    simp only [verOf_vstr o2]
    unfold caVo
    simp only [e]
    rfl
  · intro mb cap w
    exact voted ⟨vstr ⟨3, m - 1, 0⟩, vstr ⟨3, m - 1, 0⟩, vstr ⟨3, m - 1, 0⟩, true, true, some ⟨mb, 0, none⟩, n, cap⟩ ⟨vstr ⟨3, m - 1, 0⟩, vstr ⟨3, m - 1, 0⟩, ByteArray.empty, false, true, some ⟨mb, 0, none⟩, n, cap⟩ ⟨0, ByteArray.empty, ByteArray.empty, true, false, ByteArray.empty⟩ rfl (by simp [votedD, strEmpty]) w
  · intro mb cap w H
    exact dec ⟨vstr ⟨3, m - 1, 0⟩, vstr ⟨3, m - 1, 0⟩, ByteArray.empty, false, true, some ⟨mb, 0, none⟩, n, cap⟩ _ _ (seen _ _ _ _ _ _ _ _ (.inr rfl) (.inr rfl) (fun h => (by cases h))) (roll_dec_end m hm _ n rfl rfl) w H
set_option maxHeartbeats 4000000 in
set_option maxRecDepth 10000 in
theorem fnRollingDown_calls (n m : Int) (os : List Int) (ord : Option Addr) (oc : Nat) (w : World) (H : St [] w w [(false, .arr ord (intsV os)), genv]) :
    Calls Tryd.prog 8 #[.int .i64 n, .int .i64 m, .slice ord os.length oc] w fun e w' => e = .returned (.bool true) ∧ Ext [] w w' := by
  by_cases h1 : os.length ≤ 2147483647
  · by_cases hok : (1 ≤ n ∧ n ≤ 9) ∧ (2 ≤ m ∧ m ≤ 9000) ∧ n ≤ os.length
    · obtain ⟨h2, h3, h4⟩ := hok
      obtain ⟨k, rfl⟩ : ∃ k : Nat, n = k := ⟨n.toNat, by omega⟩
      have hn : 1 ≤ k ∧ k ≤ 9 := by omega
      exact rollingDown_walk k m _ _ (Lib.hid (roll_of k m hn h3)) hn h3 os ord oc os.length rfl h1 (by omega) w H
    · obtain ⟨on, hon⟩ : ∃ on, os.length = on := ⟨_, rfl⟩
      rw [hon] at h1 hok ⊢
      clear hon
      have hI1 : ¬ (2147483647 : Int) < on := by omega
      by_cases c1 : n < 1
      · clear hok
        go_enter Tryd.func8, Tryd.ntmps8
        repeat' (first | (go_big_may; (first
    | ((first
        | (refine loud_ rfl ?_; refine wpList_plain rfl (fun K hK => ?_); (first | (refine op_box _ _ rfl H (fun b w' H1 => hK _ _ ?_)) | (refine op_alloc _ rfl (zero_of _ _ rfl) H (fun b w' H1 => hK _ _ ?_)) | (refine op_store _ _ _ rfl rfl rfl H (by repeat (first | exact Split.here _ _ | apply Split.there)) (by kernel_rfl) (by kernel_rfl) (by kernel_rfl) (fun w' H1 => hK _ _ ?_)) | (refine op_buildSlice_all _ _ _ rfl (by first | exact elem22 | exact elem39 | exact elem76 | exact elem154) (by kernel_rfl) (by kernel_rfl) (by kernel_rfl) H (fun b w' H1 => hK _ _ ?_))); clear hK K; replace H := H1; clear H1)); (try clear hc); (try simp only [nrm, splice, Value.cells, Nat.reduceAdd, Act.eval, Act.put] at H); have hc := H.cells; simp only [CellsOf, KnCells, knc, Nat.reduceAdd] at hc))) | go_values | go_skip | go_guarded | go_step | go_upon | go_back | dsimp only)
        go_ret
        exact ⟨rfl, H.ext⟩
      by_cases c2 : 9 < n
      · clear hok
        go_enter Tryd.func8, Tryd.ntmps8
        repeat' (first | (go_big_may; (first
    | ((first
        | (refine loud_ rfl ?_; refine wpList_plain rfl (fun K hK => ?_); (first | (refine op_box _ _ rfl H (fun b w' H1 => hK _ _ ?_)) | (refine op_alloc _ rfl (zero_of _ _ rfl) H (fun b w' H1 => hK _ _ ?_)) | (refine op_store _ _ _ rfl rfl rfl H (by repeat (first | exact Split.here _ _ | apply Split.there)) (by kernel_rfl) (by kernel_rfl) (by kernel_rfl) (fun w' H1 => hK _ _ ?_)) | (refine op_buildSlice_all _ _ _ rfl (by first | exact elem22 | exact elem39 | exact elem76 | exact elem154) (by kernel_rfl) (by kernel_rfl) (by kernel_rfl) H (fun b w' H1 => hK _ _ ?_))); clear hK K; replace H := H1; clear H1)); (try clear hc); (try simp only [nrm, splice, Value.cells, Nat.reduceAdd, Act.eval, Act.put] at H); have hc := H.cells; simp only [CellsOf, KnCells, knc, Nat.reduceAdd] at hc))) | go_values | go_skip | go_guarded | go_step | go_upon | go_back | dsimp only)
        go_ret
        exact ⟨rfl, H.ext⟩
      by_cases c3 : m < 2
      · clear hok
        go_enter Tryd.func8, Tryd.ntmps8
        repeat' (first | (go_big_may; (first
    | ((first
        | (refine loud_ rfl ?_; refine wpList_plain rfl (fun K hK => ?_); (first | (refine op_box _ _ rfl H (fun b w' H1 => hK _ _ ?_)) | (refine op_alloc _ rfl (zero_of _ _ rfl) H (fun b w' H1 => hK _ _ ?_)) | (refine op_store _ _ _ rfl rfl rfl H (by repeat (first | exact Split.here _ _ | apply Split.there)) (by kernel_rfl) (by kernel_rfl) (by kernel_rfl) (fun w' H1 => hK _ _ ?_)) | (refine op_buildSlice_all _ _ _ rfl (by first | exact elem22 | exact elem39 | exact elem76 | exact elem154) (by kernel_rfl) (by kernel_rfl) (by kernel_rfl) H (fun b w' H1 => hK _ _ ?_))); clear hK K; replace H := H1; clear H1)); (try clear hc); (try simp only [nrm, splice, Value.cells, Nat.reduceAdd, Act.eval, Act.put] at H); have hc := H.cells; simp only [CellsOf, KnCells, knc, Nat.reduceAdd] at hc))) | go_values | go_skip | go_guarded | go_step | go_upon | go_back | dsimp only)
        go_ret
        exact ⟨rfl, H.ext⟩
      by_cases c4 : 9000 < m
      · clear hok
        go_enter Tryd.func8, Tryd.ntmps8
        repeat' (first | (go_big_may; (first
    | ((first
        | (refine loud_ rfl ?_; refine wpList_plain rfl (fun K hK => ?_); (first | (refine op_box _ _ rfl H (fun b w' H1 => hK _ _ ?_)) | (refine op_alloc _ rfl (zero_of _ _ rfl) H (fun b w' H1 => hK _ _ ?_)) | (refine op_store _ _ _ rfl rfl rfl H (by repeat (first | exact Split.here _ _ | apply Split.there)) (by kernel_rfl) (by kernel_rfl) (by kernel_rfl) (fun w' H1 => hK _ _ ?_)) | (refine op_buildSlice_all _ _ _ rfl (by first | exact elem22 | exact elem39 | exact elem76 | exact elem154) (by kernel_rfl) (by kernel_rfl) (by kernel_rfl) H (fun b w' H1 => hK _ _ ?_))); clear hK K; replace H := H1; clear H1)); (try clear hc); (try simp only [nrm, splice, Value.cells, Nat.reduceAdd, Act.eval, Act.put] at H); have hc := H.cells; simp only [CellsOf, KnCells, knc, Nat.reduceAdd] at hc))) | go_values | go_skip | go_guarded | go_step | go_upon | go_back | dsimp only)
        go_ret
        exact ⟨rfl, H.ext⟩
      have c5 : (on : Int) < n := by omega
      clear hok
      go_enter Tryd.func8, Tryd.ntmps8
      repeat' (first | (go_big_may; (first
    | ((first
        | (refine loud_ rfl ?_; refine wpList_plain rfl (fun K hK => ?_); (first | (refine op_box _ _ rfl H (fun b w' H1 => hK _ _ ?_)) | (refine op_alloc _ rfl (zero_of _ _ rfl) H (fun b w' H1 => hK _ _ ?_)) | (refine op_store _ _ _ rfl rfl rfl H (by repeat (first | exact Split.here _ _ | apply Split.there)) (by kernel_rfl) (by kernel_rfl) (by kernel_rfl) (fun w' H1 => hK _ _ ?_)) | (refine op_buildSlice_all _ _ _ rfl (by first | exact elem22 | exact elem39 | exact elem76 | exact elem154) (by kernel_rfl) (by kernel_rfl) (by kernel_rfl) H (fun b w' H1 => hK _ _ ?_))); clear hK K; replace H := H1; clear H1)); (try clear hc); (try simp only [nrm, splice, Value.cells, Nat.reduceAdd, Act.eval, Act.put] at H); have hc := H.cells; simp only [CellsOf, KnCells, knc, Nat.reduceAdd] at hc))) | go_values | go_skip | go_guarded | go_step | go_upon | go_back | dsimp only)
      go_ret
      exact ⟨rfl, H.ext⟩
  · obtain ⟨on, hon⟩ : ∃ on, os.length = on := ⟨_, rfl⟩
    rw [hon] at h1 ⊢
    clear hon
    have hI1 : (2147483647 : Int) < on := by omega
    go_enter Tryd.func8, Tryd.ntmps8
    repeat' (first | (go_big_may; (first
    | ((first
        | (refine loud_ rfl ?_; refine wpList_plain rfl (fun K hK => ?_); (first | (refine op_box _ _ rfl H (fun b w' H1 => hK _ _ ?_)) | (refine op_alloc _ rfl (zero_of _ _ rfl) H (fun b w' H1 => hK _ _ ?_)) | (refine op_store _ _ _ rfl rfl rfl H (by repeat (first | exact Split.here _ _ | apply Split.there)) (by kernel_rfl) (by kernel_rfl) (by kernel_rfl) (fun w' H1 => hK _ _ ?_)) | (refine op_buildSlice_all _ _ _ rfl (by first | exact elem22 | exact elem39 | exact elem76 | exact elem154) (by kernel_rfl) (by kernel_rfl) (by kernel_rfl) H (fun b w' H1 => hK _ _ ?_))); clear hK K; replace H := H1; clear H1)); (try clear hc); (try simp only [nrm, splice, Value.cells, Nat.reduceAdd, Act.eval, Act.put] at H); have hc := H.cells; simp only [CellsOf, KnCells, knc, Nat.reduceAdd] at hc))) | go_values | go_skip | go_guarded | go_step | go_upon | go_back | dsimp only)
    go_ret
    exact ⟨rfl, H.ext⟩
end Go.Proofs.YtdcijhdjddiboaaDoor
