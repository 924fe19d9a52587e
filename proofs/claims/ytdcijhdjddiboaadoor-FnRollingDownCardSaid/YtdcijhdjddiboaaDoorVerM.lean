import Derived.Test.YtdcijhdjddiboaaDoorVerG
import Derived.Test.YtdcijhdjddiboaaDoorVMap
-- MORE
namespace Go.Proofs.YtdcijhdjddiboaaDoor
set_option linter.unusedVariables false
set_option linter.unusedSimpArgs false
set_option linter.unnecessarySimpa false
open Go.RowKit Go.V

theorem bytes_empty (t : ByteArray) : t.toList.isEmpty = decide (t.size = 0) := by
  rw [ByteArray.toList_eq]
  obtain ⟨⟨l⟩⟩ := t
  cases l <;> simp [ByteArray.size]
/-- The key of the i-th member. -/
def mkey (i : Nat) : ByteArray := ⟨(List.replicate i (109 : UInt8)).toArray⟩
theorem mkey_size (i : Nat) : (mkey i).size = i := by simp [mkey, ByteArray.size]
theorem mkey_zero : mkey 0 = ByteArray.empty := rfl
theorem mkey_succ (i : Nat) : mkey i ++ ⟨#[109]⟩ = mkey (i + 1) := by
  apply ByteArray.ext
  apply Array.ext'
  simp [mkey, List.replicate_succ']
abbrev vobj (t : ByteArray) : Obj := .cells #[.string t, .string ByteArray.empty] 101 (0, 0)
/-- What a member's entry says. -/
def MemVal (w : World) (bs : List Nat) (t : ByteArray) (v : Value) : Prop :=
  (t.size = 0 ∧ v = .pointer none) ∨ (t.size ≠ 0 ∧ ∃ b ∈ bs, v = .pointer (some ⟨b, 0, none⟩) ∧ w.heap[b]? = some (vobj t))
def MemAt (bs : List Nat) (ts : List ByteArray) (es : Array MapEntry) (w : World) : Prop :=
  es.size = ts.length ∧ ∀ (i : Nat) (t : ByteArray), ts[i]? = some t → ∃ v, es[i]? = some ⟨.string (mkey (i + 1)), v, i⟩ ∧ MemVal w bs t v
theorem memVal_sub {w : World} {bs bs' : List Nat} {t : ByteArray} {v : Value} (h : MemVal w bs t v) (hb : ∀ b ∈ bs, b ∈ bs') : MemVal w bs' t v := by
  rcases h with h | ⟨h, b, h1, h2⟩
  · exact .inl h
  · exact .inr ⟨h, b, hb b h1, h2⟩
theorem memAt_local (bs : List Nat) (ts : List ByteArray) (es : Array MapEntry) : Local bs (MemAt bs ts es) := by
  rintro w w' hb ⟨h1, h2⟩
  refine ⟨h1, fun i t hi => ?_⟩
  obtain ⟨v, h3, h4⟩ := h2 i t hi
  refine ⟨v, h3, ?_⟩
  rcases h4 with h | ⟨h, b, h5, h6, h7⟩
  · exact .inl h
  · exact .inr ⟨h, b, h5, h6, by rw [hb b h5]; exact h7⟩
theorem memAt_nil (w : World) : MemAt [] [] #[] w := ⟨rfl, fun i t h => by simp at h⟩
theorem memAt_snoc {bs bs' : List Nat} {ts : List ByteArray} {es : Array MapEntry} {w : World} (h : MemAt bs ts es w) {t : ByteArray} {v : Value} {k : Nat} (hk : k = ts.length) (hb : ∀ b ∈ bs, b ∈ bs') (hv : MemVal w bs' t v) :
    MemAt bs' (ts ++ [t]) (es.push ⟨.string (mkey (k + 1)), v, k⟩) w := by
  subst hk
  obtain ⟨h1, h2⟩ := h
  refine ⟨by simp [h1], fun i u hi => ?_⟩
  by_cases hlt : i < ts.length
  · rw [List.getElem?_append_left hlt] at hi
    obtain ⟨v', h3, h4⟩ := h2 i u hi
    exact ⟨v', by rw [Array.getElem?_push_lt (by omega), ← h3, Array.getElem?_eq_getElem (by omega)], memVal_sub h4 hb⟩
  · rw [List.getElem?_append_right (by omega)] at hi
    obtain rfl : i = ts.length := by
      have := (List.getElem?_eq_some_iff.1 hi).1
      simp at this
      omega
    simp at hi
    subst hi
    exact ⟨v, by rw [← h1]; simp, hv⟩
theorem memAt_keys {bs : List Nat} {ts : List ByteArray} {es : Array MapEntry} {w : World} (h : MemAt bs ts es w) {n : Nat} (hn : ts.length < n) : ∀ e ∈ es.toList, ∃ s' : ByteArray, e.key = .string s' ∧ s'.size < n := by
  intro e he
  obtain ⟨h1, h2⟩ := h
  obtain ⟨i, hi, rfl⟩ := List.mem_iff_getElem.1 he
  simp only [Array.length_toList] at hi
  obtain ⟨v, h3, _⟩ := h2 i ts[i] (by simp)
  rw [Array.getElem?_eq_getElem hi] at h3
  injection h3 with h3
  refine ⟨mkey (i + 1), by simp [h3], by rw [mkey_size]; omega⟩
theorem arr_some {w : World} {at' : Option Addr} {xs : List Value} (h : holds w (.arr at' xs)) (hx : 0 < xs.length) : ∃ blk off, at' = some ⟨blk, off, none⟩ := by
  cases at' with
  | none =>
    have h : xs = [] := h
    rw [h] at hx
    exact absurd hx (by decide)
  | some a =>
    obtain ⟨blk, off, spot⟩ := a
    have h : spot = none := h.1
    exact ⟨blk, off, by rw [h]⟩
def strs (ts : List ByteArray) : List Value := ts.map .string
def MemR (w : World) (g : Nat) (d : VD) (o : Vo) (ts : List ByteArray) (m : Nat) (name i : Value) (wr : World) : Prop :=
  ∃ k : Nat, k ≤ ts.length ∧ name = .string (mkey k) ∧ i = .int .i64 k ∧ ∃ es bs, St [] w wr [(true, .is m (.map es k)), (true, .rep bs (MemAt bs (ts.take k) es)), (false, .is g (guard d o)), (false, .arr d.at' (strs ts))]
set_option maxRecDepth 8000 in
theorem gMembers (g : Nat) (d : VD) (o : Vo) (ts : List ByteArray) (hn : d.n = ts.length) (hb : ts.length ≤ 1000000) (w : World) (H : St [] w w [(false, .is g (guard d o)), (false, .arr d.at' (strs ts))]) :
    Calls Tryd.prog 106 #[.pointer (some ⟨g, 0, none⟩)] w fun e w' => ∃ m es bs, e = .returned (.map (some m)) ∧ St [] w w' [(true, .is m (.map es ts.length)), (true, .rep bs (MemAt bs ts es))] := by
  have H0 := H
  obtain ⟨cl, st, tg, dn, hdn, at', n, cap⟩ := d
  simp only at hn
  subst hn
  have hb' := Lib.hid hb
  clear hb
  have hc := H.cells; simp only [CellsOf, KnCells, knc, Nat.reduceAdd] at hc
  go_enter Tryd.func106, Tryd.ntmps106
  go_wp2_with (first
    | ((first
        | (refine loud_ rfl ?_; refine wpList_plain rfl (fun K hK => ?_); (first | (refine op_makeMap _ rfl H (fun b w' H1 => hK _ _ ?_)) | (refine op_box _ _ rfl H (fun b w' H1 => hK _ _ ?_)) | (refine op_alloc _ rfl (zero_of _ _ rfl) H (fun b w' H1 => hK _ _ ?_)) | (refine op_store _ _ _ rfl rfl rfl H (by repeat (first | exact Split.here _ _ | apply Split.there)) (by kernel_rfl) (by kernel_rfl) (by kernel_rfl) (fun w' H1 => hK _ _ ?_)) | (refine op_buildSlice_all _ _ _ rfl (by first | exact elem22 | exact elem39 | exact elem76 | exact elem154) (by kernel_rfl) (by kernel_rfl) (by kernel_rfl) H (fun b w' H1 => hK _ _ ?_))); clear hK K; replace H := H1; clear H1)); (try clear hc); (try simp only [nrm, splice, Value.cells, Nat.reduceAdd, Act.eval, Act.put] at H); have hc := H.cells; simp only [CellsOf, KnCells, knc, Nat.reduceAdd] at hc))
  obtain ⟨m, rfl⟩ : ∃ q : Nat, q = b := ⟨_, rfl⟩
  have hA0 : MemR w g ⟨cl, st, tg, dn, hdn, at', ts.length, cap⟩ o ts m (.string ByteArray.empty) (.int .i64 (0 : Nat)) w' := by
    refine ⟨0, Nat.zero_le _, rfl, rfl, #[], [], ?_⟩
    have H2 := H.packAs (fp := []) (.nil _) rfl _ (memAt_local [] [] #[]) (memAt_nil _)
    exact H2.sel (by repeat (first | exact Sel.nil _ | (apply Sel.cons; focus (repeat (first | exact Split.here _ _ | apply Split.there)))))
  clear H hc H0
  go_loopw [4, 5] (MemR w g ⟨cl, st, tg, dn, hdn, at', ts.length, cap⟩ o ts m) (fun _ i _ => ts.length - (intOf i).toNat)
  case atStart => exact hA0
  case round =>
    clear hA0
    obtain ⟨k, hk, rfl, rfl, es, bs, H⟩ := hrel
    by_cases hlt : k < ts.length
    · have hc := H.cells; simp only [CellsOf, KnCells, knc, Nat.reduceAdd] at hc
      have hk63 : k ≤ 1000000 := by have := hb'.out; omega
      have hks : (k : Int) < (ts.length : Int) := by omega
      obtain ⟨blk, off, hat⟩ : ∃ blk off, at' = some ⟨blk, off, none⟩ := arr_some (H.get (Split.there _ (Split.there _ (Split.there _ (Split.here _ _))))) (by rw [strs, List.length_map]; omega)
      subst hat
      have hM := Lib.hid (H.rep (Split.there _ (Split.here _ _)))
      have hky := Lib.hid (memAt_keys (n := (mkey (k + 1)).size) (H.rep (Split.there _ (Split.here _ _))) (by rw [mkey_size, List.length_take]; omega))
      have hst : Hid ((strs ts)[k]? = some (.string ts[k]) ∧ ts.take (k + 1) = ts.take k ++ [ts[k]]) := ⟨by simp [strs, hlt], by rw [List.take_add_one, List.getElem?_eq_getElem hlt]; rfl⟩
      generalize ts[k] = t at hst
      have H1 := H.elem (Split.there _ (Split.there _ (Split.there _ (Split.here _ _)))) k [.string t] (by rw [strs, List.length_map]; show k + 1 ≤ _; omega) (fun j hj => by obtain rfl : j = 0 := (by simpa using hj); exact hst.out.1)
      replace H := H1
      clear H1
      have hms := mkey_succ k
      have hcz : ¬ 9223372036854775807 < (mkey k).size + 1 := by rw [mkey_size]; have := hb'.out; omega
      have hsz : Hid ((mkey (k + 1)).size ≤ maxLen) := by show _ ≤ _; rw [mkey_size]; have := hb'.out; unfold maxLen; omega
      by_cases ht : t.size = 0
      · have hte : t.toList.isEmpty = true := by rw [bytes_empty]; simpa using ht
        have hc := H.cells; simp only [CellsOf, KnCells, knc, Nat.reduceAdd] at hc
        repeat' (first | (go_big_may; (first
    | ((first
        | (refine loud_ rfl ?_; refine wpList_plain rfl (fun K hK => ?_); (first | (refine op_mapPut _ _ _ _ _ _ rfl Tryd.underlying97 Tryd.underlying9 rfl rfl rfl H (by repeat (first | exact Split.here _ _ | apply Split.there)) hky.out hsz.out (fun w' H1 => hK _ _ ?_)) | (refine op_box _ _ rfl H (fun b w' H1 => hK _ _ ?_)) | (refine op_alloc _ rfl (zero_of _ _ rfl) H (fun b w' H1 => hK _ _ ?_)) | (refine op_store _ _ _ rfl rfl rfl H (by repeat (first | exact Split.here _ _ | apply Split.there)) (by kernel_rfl) (by kernel_rfl) (by kernel_rfl) (fun w' H1 => hK _ _ ?_)) | (refine op_buildSlice_all _ _ _ rfl (by first | exact elem22 | exact elem39 | exact elem76 | exact elem154) (by kernel_rfl) (by kernel_rfl) (by kernel_rfl) H (fun b w' H1 => hK _ _ ?_))); clear hK K; replace H := H1; clear H1)); (try clear hc); (try simp only [nrm, splice, Value.cells, Nat.reduceAdd, Act.eval, Act.put] at H); have hc := H.cells; simp only [CellsOf, KnCells, knc, Nat.reduceAdd] at hc))) | go_values | go_skip | go_guarded | go_step | go_upon | go_back | dsimp only)
        have H2 := H.packAs (.cons (Split.there _ (Split.there _ (Split.here _ _))) (.nil _)) (fp := bs) (by simp [Kn.fp]) _ (memAt_local _ _ _) (memAt_snoc (H.rep (Split.there _ (Split.there _ (Split.here _ _)))) (t := t) (v := .pointer none) (k := k) (by rw [List.length_take]; omega) (fun _ h => h) (.inl ⟨ht, rfl⟩))
        exact ⟨⟨k + 1, by omega, rfl, by go_num, _, bs, by rw [hst.out.2]; exact H2.sel (by repeat (first | exact Sel.nil _ | (apply Sel.cons; focus (repeat (first | exact Split.here _ _ | apply Split.there)))))⟩, by simp [intOf]; omega⟩
      · have hte : t.toList.isEmpty = false := by rw [bytes_empty]; simpa using ht
        have hc := H.cells; simp only [CellsOf, KnCells, knc, Nat.reduceAdd] at hc
        repeat' (first | (go_big_may; (first
    | ((first
        | (refine loud_ rfl ?_; refine wpList_plain rfl (fun K hK => ?_); (first | (refine op_mapPut _ _ _ _ _ _ rfl Tryd.underlying97 Tryd.underlying9 rfl rfl rfl H (by repeat (first | exact Split.here _ _ | apply Split.there)) hky.out hsz.out (fun w' H1 => hK _ _ ?_)) | (refine op_box _ _ rfl H (fun b w' H1 => hK _ _ ?_)) | (refine op_alloc _ rfl (zero_of _ _ rfl) H (fun b w' H1 => hK _ _ ?_)) | (refine op_store _ _ _ rfl rfl rfl H (by repeat (first | exact Split.here _ _ | apply Split.there)) (by kernel_rfl) (by kernel_rfl) (by kernel_rfl) (fun w' H1 => hK _ _ ?_)) | (refine op_buildSlice_all _ _ _ rfl (by first | exact elem22 | exact elem39 | exact elem76 | exact elem154) (by kernel_rfl) (by kernel_rfl) (by kernel_rfl) H (fun b w' H1 => hK _ _ ?_))); clear hK K; replace H := H1; clear H1)); (try clear hc); (try simp only [nrm, splice, Value.cells, Nat.reduceAdd, Act.eval, Act.put] at H); have hc := H.cells; simp only [CellsOf, KnCells, knc, Nat.reduceAdd] at hc))) | go_values | go_skip | go_guarded | go_step | go_upon | go_back | dsimp only)
        have H2 := H.packAs (.cons (Split.here _ _) (.cons (Split.there _ (Split.there _ (Split.here _ _))) (.nil _))) (fp := b :: bs) (by simp [Kn.fp]) _ (memAt_local _ _ _) (memAt_snoc (H.rep (Split.there _ (Split.there _ (Split.there _ (Split.here _ _))))) (t := t) (v := .pointer (some ⟨b, 0, none⟩)) (k := k) (by rw [List.length_take]; omega) (fun _ h => List.mem_cons_of_mem _ h) (.inr ⟨ht, b, List.mem_cons_self, rfl, H.obj (Split.here _ _)⟩))
        exact ⟨⟨k + 1, by omega, rfl, by go_num, _, b :: bs, by rw [hst.out.2]; exact H2.sel (by repeat (first | exact Sel.nil _ | (apply Sel.cons; focus (repeat (first | exact Split.here _ _ | apply Split.there)))))⟩, by simp [intOf]; omega⟩
    · obtain rfl : k = ts.length := by omega
      have hc := H.cells; simp only [CellsOf, KnCells, knc, Nat.reduceAdd] at hc
      repeat' (first | (go_big_may; (first
    | ((first
        | (refine loud_ rfl ?_; refine wpList_plain rfl (fun K hK => ?_); (first | (refine op_box _ _ rfl H (fun b w' H1 => hK _ _ ?_)) | (refine op_alloc _ rfl (zero_of _ _ rfl) H (fun b w' H1 => hK _ _ ?_)) | (refine op_store _ _ _ rfl rfl rfl H (by repeat (first | exact Split.here _ _ | apply Split.there)) (by kernel_rfl) (by kernel_rfl) (by kernel_rfl) (fun w' H1 => hK _ _ ?_)) | (refine op_buildSlice_all _ _ _ rfl (by first | exact elem22 | exact elem39 | exact elem76 | exact elem154) (by kernel_rfl) (by kernel_rfl) (by kernel_rfl) H (fun b w' H1 => hK _ _ ?_))); clear hK K; replace H := H1; clear H1)); (try clear hc); (try simp only [nrm, splice, Value.cells, Nat.reduceAdd, Act.eval, Act.put] at H); have hc := H.cells; simp only [CellsOf, KnCells, knc, Nat.reduceAdd] at hc))) | go_values | go_skip | go_guarded | go_step | go_upon | go_back | dsimp only)
      go_ret
      rw [List.take_length] at H
      exact ⟨m, es, bs, rfl, H.sel (by repeat (first | exact Sel.nil _ | (apply Sel.cons; focus (repeat (first | exact Split.here _ _ | apply Split.there)))))⟩
end Go.Proofs.YtdcijhdjddiboaaDoor
