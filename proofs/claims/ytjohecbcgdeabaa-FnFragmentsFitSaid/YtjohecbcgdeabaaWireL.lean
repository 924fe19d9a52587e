import Derived.Test.YtjohecbcgdeabaaWireK
namespace Go.Proofs.Ytjohecbcgdeabaa
set_option linter.unusedVariables false
set_option linter.unusedSimpArgs false
set_option linter.unnecessarySimpa false
open Go.RowKit Go.V

/-- What is gathered: a box with a row. -/
def outBox (key : Option Nat) (m cap : Nat) : Obj := .cells #[sl key m cap] 44 (0, 0)
theorem send_calls (bx bo m cap : Nat) (key : Option Nat) (xs : List Value) (S : List Nat) (w : World) (H : St S w w [(true, .is bo (outBox key m cap)), (true, .row key 38 1 m cap xs)]) (hm : m ≤ 1000000) :
    Calls Try.prog 27 #[.pointer (some ⟨bx, 0, none⟩), .pointer (some ⟨bo, 0, none⟩)] w fun e w' => ∃ key cap, e = .returned .nilIface ∧ St S w w' [(true, .is bo (outBox key (m + 1) cap)), (true, .row key 38 1 (m + 1) cap (xs ++ [.pointer (some ⟨bx, 0, none⟩)]))] := by
  unfold outBox at H
  have hc := H.cells; simp only [CellsOf, KnCells] at hc
  go_enter Try.func27, Try.ntmps27
  go_wp2_with (first
    | (refine loud_ rfl ?_; refine wpList_plain rfl (fun K hK => ?_); first
      | (refine op_append_lit _ _ _ rfl elem44 rfl rfl H (by repeat (first | exact Split.here _ _ | apply Split.there)) (by repeat (first | exact Split.here _ _ | apply Split.there)) (by kernel_rfl) (by kernel_rfl) (by omega) (by unfold maxLen; omega) (fun key cap' w' H1 => hK _ _ ?_); clear hK K; replace H := H1; clear H1; (try clear hc); (try simp only [List.nil_append, List.cons_append, List.append_assoc, splice, Value.cells, List.take_succ_cons, List.take_zero, List.drop_succ_cons, List.drop_zero, List.length_cons, List.length_nil, List.size_toArray, Nat.zero_add, Nat.reduceAdd, Act.eval, Array.getD_eq_getD_getElem?, List.getElem?_toArray, List.getElem?_cons_succ, List.getElem?_cons_zero, Option.getD_some, List.flatMap_cons, List.flatMap_nil, List.append_nil, Act.put, List.setIfInBounds_toArray, List.set_cons_succ, List.set_cons_zero] at H); have hc := H.cells; simp only [CellsOf, KnCells] at hc)
      | (refine op_box _ _ rfl H (fun b w' H1 => hK _ _ ?_); clear hK K; replace H := H1; clear H1; (try clear hc); (try simp only [List.nil_append, List.cons_append, List.append_assoc, splice, Value.cells, List.take_succ_cons, List.take_zero, List.drop_succ_cons, List.drop_zero, List.length_cons, List.length_nil, List.size_toArray, Nat.zero_add, Nat.reduceAdd, Act.eval, Array.getD_eq_getD_getElem?, List.getElem?_toArray, List.getElem?_cons_succ, List.getElem?_cons_zero, Option.getD_some, List.flatMap_cons, List.flatMap_nil, List.append_nil, Act.put, List.setIfInBounds_toArray, List.set_cons_succ, List.set_cons_zero] at H); have hc := H.cells; simp only [CellsOf, KnCells] at hc)
      | (refine op_alloc _ rfl (zero_of _ _ rfl) H (fun b w' H1 => hK _ _ ?_); clear hK K; replace H := H1; clear H1; (try clear hc); (try simp only [List.nil_append, List.cons_append, List.append_assoc, splice, Value.cells, List.take_succ_cons, List.take_zero, List.drop_succ_cons, List.drop_zero, List.length_cons, List.length_nil, List.size_toArray, Nat.zero_add, Nat.reduceAdd, Act.eval, Array.getD_eq_getD_getElem?, List.getElem?_toArray, List.getElem?_cons_succ, List.getElem?_cons_zero, Option.getD_some, List.flatMap_cons, List.flatMap_nil, List.append_nil, Act.put, List.setIfInBounds_toArray, List.set_cons_succ, List.set_cons_zero] at H); have hc := H.cells; simp only [CellsOf, KnCells] at hc)
      | (refine op_store _ _ _ rfl rfl rfl H (by repeat (first | exact Split.here _ _ | apply Split.there)) (by kernel_rfl) (by kernel_rfl) (by kernel_rfl) (fun w' H1 => hK _ _ ?_); clear hK K; replace H := H1; clear H1; (try clear hc); (try simp only [List.nil_append, List.cons_append, List.append_assoc, splice, Value.cells, List.take_succ_cons, List.take_zero, List.drop_succ_cons, List.drop_zero, List.length_cons, List.length_nil, List.size_toArray, Nat.zero_add, Nat.reduceAdd, Act.eval, Array.getD_eq_getD_getElem?, List.getElem?_toArray, List.getElem?_cons_succ, List.getElem?_cons_zero, Option.getD_some, List.flatMap_cons, List.flatMap_nil, List.append_nil, Act.put, List.setIfInBounds_toArray, List.set_cons_succ, List.set_cons_zero] at H); have hc := H.cells; simp only [CellsOf, KnCells] at hc)
      | (refine op_buildSlice_all _ _ _ rfl (by first | exact elem22 | exact elem28 | exact elem44 | exact elem53 | exact elem59) (by kernel_rfl) (by kernel_rfl) (by kernel_rfl) H (fun b w' H1 => hK _ _ ?_); clear hK K; replace H := H1; clear H1; (try clear hc); (try simp only [List.nil_append, List.cons_append, List.append_assoc, splice, Value.cells, List.take_succ_cons, List.take_zero, List.drop_succ_cons, List.drop_zero, List.length_cons, List.length_nil, List.size_toArray, Nat.zero_add, Nat.reduceAdd, Act.eval, Array.getD_eq_getD_getElem?, List.getElem?_toArray, List.getElem?_cons_succ, List.getElem?_cons_zero, Option.getD_some, List.flatMap_cons, List.flatMap_nil, List.append_nil, Act.put, List.setIfInBounds_toArray, List.set_cons_succ, List.set_cons_zero] at H); have hc := H.cells; simp only [CellsOf, KnCells] at hc)))
  go_ret
  exact ⟨_, _, rfl, H.top2⟩

/-- A part of a response: so many of its events, from a place on. -/
def part (d : WSd) (lo j : Nat) (b : Bool) : WSd := { d with events := (d.events.drop lo).take j, fragment := b }
structure Frag where
  bx : Nat
  key : Option Nat
  cap : Nat
  lo : Nat
  j : Nat
  flag : Bool
def Frag.fp (f : Frag) : List Nat := f.bx :: f.key.toList
def FragAt (d : WSd) (bh : Nat) (bs : List Nat) (f : Frag) (w : World) : Prop := w.heap[f.bx]? = some (rsp (part d f.lo f.j f.flag) bh f.key f.j f.cap) ∧ holds w (.row f.key 62 1 f.j f.cap (((bs.drop f.lo).take f.j).map ptr))
def FragsAt (d : WSd) (bh : Nat) (bs : List Nat) (fs : List Frag) (fp : List Nat) (w : World) : Prop := fp = fs.flatMap Frag.fp ∧ ∀ f ∈ fs, FragAt d bh bs f w
theorem FragAt.local (d : WSd) (bh : Nat) (bs : List Nat) (f : Frag) : Local f.fp (FragAt d bh bs f) := by
  rintro w w' hs ⟨h1, h2⟩
  refine ⟨(hs _ (by simp [Frag.fp])).trans h1, ?_⟩
  have hk : ∀ b ∈ f.key.toList, w'.heap[b]? = w.heap[b]? := fun b hb => hs b (by simp only [Frag.fp, List.mem_cons]; exact .inr hb)
  cases hkey : f.key with
  | none => rw [hkey] at h2; exact h2
  | some kb =>
    rw [hkey] at h2 hk
    obtain ⟨cur, hg, h6⟩ := h2
    exact ⟨cur, (hk kb (by simp)).trans hg, h6⟩
theorem FragsAt.local (d : WSd) (bh : Nat) (bs : List Nat) (fs : List Frag) (fp : List Nat) : Local fp (FragsAt d bh bs fs fp) := by
  rintro w w' hs ⟨rfl, h⟩
  exact ⟨rfl, fun f hf => FragAt.local d bh bs f w w' (fun b hb => hs b (List.mem_flatMap.2 ⟨f, hf, hb⟩)) (h f hf)⟩
theorem FragsAt.nil (d : WSd) (bh : Nat) (bs : List Nat) (w : World) : FragsAt d bh bs [] [] w := ⟨rfl, by simp⟩
theorem FragsAt.snoc {d : WSd} {bh : Nat} {bs : List Nat} {fs : List Frag} {fp : List Nat} {f : Frag} {w : World} (h : FragsAt d bh bs fs fp w) (hf : FragAt d bh bs f w) : FragsAt d bh bs (fs ++ [f]) (fp ++ (f.bx :: f.key.toList)) w := by
  obtain ⟨rfl, h⟩ := h
  refine ⟨by simp [Frag.fp], ?_⟩
  intro g hg
  rcases List.mem_append.1 hg with hg | hg
  · exact h g hg
  · simp only [List.mem_singleton] at hg
    subst hg
    exact hf
theorem EvsAt.seg {bs : List Nat} {ds : List EVd} {fp : List Nat} {w : World} (h : EvsAt bs ds fp w) (lo j : Nat) : ∃ fp', EvsAt ((bs.drop lo).take j) ((ds.drop lo).take j) fp' w ∧ ∀ c ∈ fp', c ∈ fp := by
  obtain ⟨ts, rfl, rfl, rfl, h⟩ := h
  refine ⟨((ts.drop lo).take j).flatMap (·.2.2), ⟨(ts.drop lo).take j, by simp [List.map_take, List.map_drop], by simp [List.map_take, List.map_drop], rfl, fun t ht => h t (List.mem_of_mem_drop (List.mem_of_mem_take ht))⟩, ?_⟩
  intro c hc
  obtain ⟨t, ht, hc⟩ := List.mem_flatMap.1 hc
  exact List.mem_flatMap.2 ⟨t, List.mem_of_mem_drop (List.mem_of_mem_take ht), hc⟩
theorem EvsAt.len {bs : List Nat} {ds : List EVd} {fp : List Nat} {w : World} (h : EvsAt bs ds fp w) : bs.length = ds.length := by
  obtain ⟨ts, rfl, rfl, rfl, h⟩ := h
  simp

/-- The parts that are sent so far: of the first 'hi' events, all of them with more behind. -/
inductive Cuts (most : Nat) (d : WSd) : Nat → List (Nat × Nat) → Prop where
  | nil : Cuts most d 0 []
  | snoc {lo j : Nat} {l : List (Nat × Nat)} (h : Cuts most d lo l) (h1 : 1 ≤ j) (h2 : lo + j < d.events.length) (h3 : 1 < j → rspl (part d lo j true) < most) (h4 : most ≤ rspl (part d lo (j + 1) true)) : Cuts most d (lo + j) (l ++ [(lo, j)])
/-- All parts. -/
def Cut (most : Nat) (d : WSd) (l : List (Nat × Nat × Bool)) : Prop :=
  (l = [(0, d.events.length, d.fragment)] ∧ (rspl d < most ∨ d.events.length < 2)) ∨
  ∃ l0 lo, Cuts most d lo l0 ∧ lo < d.events.length ∧ (1 < d.events.length - lo → rspl (part d lo (d.events.length - lo) true) < most) ∧ l = l0.map (fun x => (x.1, x.2, true)) ++ [(lo, d.events.length - lo, false)] ∧ 2 ≤ d.events.length
theorem part_all (d : WSd) : part d 0 d.events.length d.fragment = d := by simp [part]
theorem part_length (d : WSd) (lo j : Nat) (b : Bool) (h : lo + j ≤ d.events.length) : (part d lo j b).events.length = j := by simp [part]; omega
theorem part_short {d : WSd} (h : d.Short) (lo j : Nat) (b : Bool) : (part d lo j b).Short := ⟨h.1, by
  have := h.2.1
  simp [part]
  omega, fun e he => h.2.2 e (List.mem_of_mem_drop (List.mem_of_mem_take he))⟩
theorem part_at {S : List Nat} {w0 w : World} {L A1 B1 A2 B2 A3 B3 A4 B4 : List Ent} {p1 p2 p3 p4 : Bool} {d : WSd} {bs fpe : List Nat} {lo j : Nat} {b : Bool} {bc bh ccap : Nat} {ckey : Option Nat} {xs : List Value} (H : St S w0 w L)
    (h1 : Split L (p1, .is bc (.cells #[.pointer (some ⟨bh, 0, none⟩), .int .i64 d.id, .bool d.created, .bool d.canceled, .int .i64 d.compact, .string d.reason, .bool b, sl ckey j ccap] 61 (0, 0))) A1 B1)
    (h2 : Split L (p2, .row ckey 62 1 j ccap xs) A2 B2) (h3 : Split L (p3, .rep fpe (EvsAt bs d.events fpe)) A3 B3)
    (h4 : Split L (p4, .is bh (.cells #[.int .u64 0, .int .u64 0, .int .i64 d.rev, .int .u64 0] 58 (0, 0))) A4 B4)
    (hxs : ((bs.drop lo).take j).map ptr = xs) (hj : lo + j ≤ d.events.length) : ∃ fp, RspAt bc (part d lo j b) fp w := by
  have hr := H.get h3
  obtain ⟨fp', h5, h6⟩ := hr.2.2.seg lo j
  have hl := part_length d lo j b hj
  refine ⟨bc :: bh :: (ckey.toList ++ fp'), bh, ckey, ccap, (bs.drop lo).take j, fp', rfl, ?_, H.obj h4, ?_, fun c hc => hr.2.1 c (h6 c hc), h5⟩
  · rw [hl]
    exact H.obj h1
  · rw [hl, hxs]
    exact H.get h2
theorem seg_snoc (bs : List Nat) (lo j : Nat) (h : lo + j < bs.length) : ((bs.drop lo).take (j + 1)).map ptr = ((bs.drop lo).take j).map ptr ++ [ptr bs[lo + j]] := by
  have h' : j < (bs.drop lo).length := by simp; omega
  rw [← List.take_append_getElem h']
  simp
end Go.Proofs.Ytjohecbcgdeabaa
