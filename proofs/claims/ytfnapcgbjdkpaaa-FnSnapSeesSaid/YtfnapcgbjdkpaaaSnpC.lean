import Derived.Test.YtfnapcgbjdkpaaaSnpB
-- MORE
namespace Go.Proofs.Ytfnapcgbjdkpaaa
set_option linter.unusedVariables false
set_option linter.unusedSimpArgs false
set_option linter.unnecessarySimpa false
open Go Go.RowKit Go.V Go.Lib

section
variable {P : Program} {S : List Nat} {w0 w : World} {L : List Ent} {o : Oper} {a : Act} {K : Act → World → Prop} {Q : Exit → Act → World → Prop}
/-- APPEND onto nil of what is written out. -/
theorem op_append_nil_lit (s x : Operand) (t : TypeId) (ho : o.op = .call { callee := .builtin .append, args := #[s, x], argTypes := #[t, t] })
    {e : TypeId} {size bytes : Nat} {z : Value} (ht : Elem P t e size bytes z) {A B : List Ent} {b m c : Nat} {T : TypeId} {cs : Array Value} {fr : Nat × Nat} {p : Bool}
    (hs : a.eval s = .slice none 0 0) (hx : a.eval x = .slice (some ⟨b, 0, none⟩) m c) (H : St S w0 w L) (hb : Split L (p, .is b (.cells cs T fr)) A B)
    (hl : Nat.beq cs.size (m * size) = true) (h1 : cs.toList.all (·.oneCell') = true) (hbytes : m * bytes ≤ 140737488355328) (h63 : m ≤ maxLen)
    (h : ∀ key' cap' w', St S w0 w' ((true, .row key' e size m cap' cs.toList) :: (A ++ B)) → K (a.put o.dst (sl key' m cap')) w') : o.wp P a w K Q := by
  refine op_append_lit s x t ho ht (key := none) (n := 0) (cap := 0) (xs := []) hs hx (H.nilRow e size) (.there _ hb) (.here _ _) hl h1 (by simpa using hbytes) (by omega) (fun key' cap' w' H' => ?_)
  rw [Nat.zero_add] at H' ⊢
  exact h key' cap' w' (by simpa using H')
end
theorem lies_of_row1 {w : World} {key : Option Nat} {T : TypeId} {s n cap : Nat} {xs : List Value} (h : holds w (.row key T s n cap xs)) : Lies w (key.map fun b => ⟨b, 0, none⟩) xs := lies_of_arr (row_arr h)
/-- A row that is only read from here on. -/
theorem _root_.Go.V.St.rowSoft {S : List Nat} {w0 w : World} {L A B : List Ent} {key : Option Nat} {T : TypeId} {s n cap : Nat} {xs : List Value} (H : St S w0 w L) (hs : Split L (true, .row key T s n cap xs) A B) : St S w0 w ((false, soft (key.map fun b => ⟨b, 0, none⟩) xs) :: (A ++ B)) := by
  have hl := lies_of_row1 (H.get hs)
  have H1 := H.ro hs
  have hs1 : Split (A ++ (false, .row key T s n cap xs) :: B) (false, .row key T s n cap xs) A B := by
    clear H1 hl H hs
    induction A with
    | nil => exact .here _ _
    | cons x A ih => exact .there _ ih
  have H2 := H1.sub hs1 (soft (key.map fun b => ⟨b, 0, none⟩) xs) (soft_holds hl) (by
    intro c hc
    cases key with
    | none => cases xs <;> simp [Kn.fp, softFp] at hc
    | some k => cases xs <;> simp [Kn.fp, softFp] at hc ⊢; exact hc)
  exact H2.sublist (List.Sublist.cons_cons _ (List.Sublist.append_left (List.sublist_cons_self _ _) _))

/-- A field of bytes, written. -/
def bfield (f : Nat) (l : List UInt8) : List UInt8 := (f * 8 + 2).toUInt8 :: (uvarint l.length ++ l)
theorem tag2 : ∀ f : Nat, f < 16 → bits .or .u64 ((f : Int) * 8) 2 = ((f * 8 + 2 : Nat) : Int) := by decide +kernel
theorem lies_none {w : World} {l : List UInt8} (h : Lies w none (by8 l)) : l = [] := by
  have := h.1 rfl
  cases l
  · rfl
  · simp [by8] at this
set_option maxHeartbeats 1000000 in
set_option maxRecDepth 8000 in
theorem putBytes_calls (key : Option Nat) (k cap : Nat) (xs : List Value) (S : List Nat) (f : Nat) (hf : f < 16) (s : Option Addr) (l : List UInt8) (n c : Nat) (hn : Hid (l.length = n)) (hk : k ≤ 900000000) (hnn : n ≤ 900000000) (w : World) (H : St S w w [(true, .row key 5 1 k cap xs), (false, soft s (by8 l))]) :
    Calls Try.prog 72 #[sl key k cap, .int .i64 f, Value.slice s n c] w fun e w' => ∃ j key cap ys, Hid (ys = by8 (bfield f l) ∧ j = k + ys.length) ∧ j ≤ k + n + 20 ∧ e = .returned (sl key j cap) ∧ St S w w' [(true, .row key 5 1 j cap (xs ++ ys))] := by
  have hnil : s = none → n = 0 := by
    intro hs
    subst hs
    have := lies_none (H.lies (Split.there _ (Split.here _ _)))
    subst this
    exact hn.out.symm
  have ht := tag2 f hf
  have hone := by8_one l
  go_enter Try.func72, Try.ntmps72
  repeat' (first | (go_big_may; (first
    | go_skip
    | ((first
        | (go_at_call 74; refine Calls.mono (putVarint_calls' _ _ _ _ _ _ ⟨by omega, by omega⟩ (by omega) _ (H.pick (by repeat (first | exact Picks.nil _ | (apply Picks.wr; focus (repeat (first | exact Split.here _ _ | apply Split.there))) | (apply Picks.rd; focus (repeat (first | exact Split.here _ _ | apply Split.there))))))) ?_; rintro e w' ⟨j, key, cap, ys', hj, hb, rfl, H'⟩; replace H := H.merge (by first | exact Strikes.nil _ | (repeat (first | exact Strikes.nil _ | (apply Strikes.cons; focus (repeat (first | exact Split.here _ _ | apply Split.there)))))) H' rfl; clear H')
        | (refine loud_ rfl ?_; refine wpList_plain rfl (fun K hK => ?_); (first | (refine op_append_lies _ _ _ rfl elem34 rfl rfl H (by repeat (first | exact Split.here _ _ | apply Split.there)) (H.lies (by repeat (first | exact Split.here _ _ | apply Split.there))) (by rw [by8_len]; simpa using hn.out) hnil hone (by omega) (by unfold maxLen; omega) (fun key cap' w' H1 => hK _ _ ?_)) | (refine op_box _ _ rfl H (fun b w' H1 => hK _ _ ?_)) | (refine op_alloc _ rfl (zero_of _ _ rfl) H (fun b w' H1 => hK _ _ ?_)) | (refine op_store _ _ _ rfl rfl rfl H (by repeat (first | exact Split.here _ _ | apply Split.there)) (by kernel_rfl) (by kernel_rfl) (by kernel_rfl) (fun w' H1 => hK _ _ ?_)) | (refine op_buildSlice_all _ _ _ rfl (by first | exact elem23 | exact elem34 | exact elem51 | exact elem148) (by kernel_rfl) (by kernel_rfl) (by kernel_rfl) H (fun b w' H1 => hK _ _ ?_))); clear hK K; replace H := H1; clear H1)); (try clear hc); (try simp only [nrm, splice, Value.cells, Nat.reduceAdd, Act.eval, Act.put] at H); have hc := H.cells; simp only [CellsOf, KnCells, knc, Nat.reduceAdd] at hc))) | go_values | go_skip | go_guarded | go_step | go_upon | go_back | dsimp only)
  go_ret
  rename_i j0 key0 cap0 ys0 hj0 hb0 w2 key2
  refine ⟨_, _, _, _, ?_, by omega, rfl, H.top1⟩
  obtain ⟨h1, h2⟩ := hj0.out
  obtain ⟨h3, h4⟩ := hj.out
  have e1 : ((f : Int) * 8 + 2).toNat = f * 8 + 2 := by omega
  have e2 : ((n : Nat) : Int).toNat = n := by omega
  have e3 : by8 (bfield f l) = ys0 ++ (ys' ++ by8 l) := by
    rw [h1, h3, e1, e2, by8_small (by omega), bfield, by8_cons, by8_app, u8_toNat (by omega), hn.out]
    rfl
  refine ⟨e3.symm, ?_⟩
  have := hn.out
  simp only [List.length_append, by8_len]
  omega
theorem putBytes1 (key : Option Nat) (k cap : Nat) (xs : List Value) (S : List Nat) (s : Option Addr) (l : List UInt8) (n c : Nat) (hn : Hid (l.length = n)) (hk : k ≤ 900000000) (hnn : n ≤ 900000000) (w : World) (H : St S w w [(true, .row key 5 1 k cap xs), (false, soft s (by8 l))]) :
    Calls Try.prog 72 #[sl key k cap, .int .i64 1, Value.slice s n c] w fun e w' => ∃ j key cap ys, Hid (ys = by8 (bfield 1 l) ∧ j = k + ys.length) ∧ j ≤ k + n + 20 ∧ e = .returned (sl key j cap) ∧ St S w w' [(true, .row key 5 1 j cap (xs ++ ys))] := putBytes_calls key k cap xs S 1 (by decide) s l n c hn hk hnn w H
theorem putBytes2 (key : Option Nat) (k cap : Nat) (xs : List Value) (S : List Nat) (s : Option Addr) (l : List UInt8) (n c : Nat) (hn : Hid (l.length = n)) (hk : k ≤ 900000000) (hnn : n ≤ 900000000) (w : World) (H : St S w w [(true, .row key 5 1 k cap xs), (false, soft s (by8 l))]) :
    Calls Try.prog 72 #[sl key k cap, .int .i64 2, Value.slice s n c] w fun e w' => ∃ j key cap ys, Hid (ys = by8 (bfield 2 l) ∧ j = k + ys.length) ∧ j ≤ k + n + 20 ∧ e = .returned (sl key j cap) ∧ St S w w' [(true, .row key 5 1 j cap (xs ++ ys))] := putBytes_calls key k cap xs S 2 (by decide) s l n c hn hk hnn w H
theorem putBytes1n (s : Option Addr) (l : List UInt8) (n c : Nat) (hn : Hid (l.length = n)) (hnn : n ≤ 900000000) (w : World) (H : St [] w w [(false, soft s (by8 l))]) :
    Calls Try.prog 72 #[.slice none 0 0, .int .i64 1, Value.slice s n c] w fun e w' => ∃ j key cap ys, Hid (ys = by8 (bfield 1 l) ∧ j = ys.length) ∧ j ≤ n + 20 ∧ e = .returned (sl key j cap) ∧ St [] w w' [(true, .row key 5 1 j cap ys)] := by
  refine (putBytes1 none 0 0 [] [] s l n c hn (by omega) hnn w (H.nilRow _ _)).mono ?_
  rintro e w' ⟨j, key, cap, ys, hj, hb, rfl, H'⟩
  exact ⟨j, key, cap, ys, ⟨hj.out.1, by rw [hj.out.2, Nat.zero_add]⟩, by omega, rfl, H'⟩
end Go.Proofs.Ytfnapcgbjdkpaaa
