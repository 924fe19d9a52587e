import Derived.Test.YtdcijhdjddiboaaDoorVerFj
import Derived.Test.YtdcijhdjddiboaaDoorVerFi
-- MORE
namespace Go.Proofs.YtdcijhdjddiboaaDoor
set_option linter.unusedVariables false
set_option linter.unusedSimpArgs false
set_option linter.unnecessarySimpa false
open Go.RowKit Go.V

set_option maxHeartbeats 4000000 in
set_option maxRecDepth 10000 in
theorem settles_no (cl st tg : ByteArray) (dn hd : Bool) (at' : Option Addr) (n cap : Nat) (ts : List ByteArray)
    (hF : Hid (∀ (w : World), St [] w w [(false, .arr at' (strs ts))] → Calls Tryd.prog 9 #[.agg #[.string cl, .string st, .string tg, .bool dn, .bool hd, .slice at' n cap]] w fun e w' => ∃ b, e = .returned (.bool b) ∧ Ext [] w w' ∧ Hid (b = true → Fits ⟨cl, st, tg, dn, hd, at', n, cap⟩ ts)))
    (hG : Hid (∀ (w : World), Hid (Fits ⟨cl, st, tg, dn, hd, at', n, cap⟩ ts) → St [] w w [(false, .arr at' (strs ts))] → Calls Tryd.prog 10 #[.agg #[.string cl, .string st, .string tg, .bool dn, .bool hd, .slice at' n cap]] w fun e w' => e = .returned (.bool false) ∧ Ext [] w w'))
    (w : World) (H : St [] w w [(false, .arr at' (strs ts)), genv]) :
    Calls Tryd.prog 7 #[.agg #[.string cl, .string st, .string tg, .bool dn, .bool hd, .slice at' n cap]] w fun e w' => e = .returned (.bool true) ∧ Ext [] w w' := by
  have hc := H.cells; simp only [CellsOf, KnCells, knc, Nat.reduceAdd] at hc
  go_enter Tryd.func7, Tryd.ntmps7
  repeat' (first | (go_big_may; (first
    | go_skip
    | (go_at_call 9; refine Calls.mono (hF.out _ (H.pick (by repeat (first | exact Picks.nil _ | (apply Picks.wr; focus (repeat (first | exact Split.here _ _ | apply Split.there))) | (apply Picks.rd; focus (repeat (first | exact Split.here _ _ | apply Split.there))))))) ?_; rintro e w' ⟨bf, rfl, H', hbf⟩; replace H := H.of_ext H'; clear H'; (try clear hc); (try simp only [nrm, splice, Value.cells, Nat.reduceAdd, Act.eval, Act.put] at H); have hc := H.cells; simp only [CellsOf, KnCells, knc, Nat.reduceAdd] at hc; cases bf)
    | ((first
        | (go_at_call 10; refine Calls.mono (hG.out _ (Lib.hid (hbf.out rfl)) (H.pick (by repeat (first | exact Picks.nil _ | (apply Picks.wr; focus (repeat (first | exact Split.here _ _ | apply Split.there))) | (apply Picks.rd; focus (repeat (first | exact Split.here _ _ | apply Split.there))))))) ?_; rintro e w' ⟨rfl, H'⟩; replace H := H.of_ext H'; clear H')
        | (refine loud_ rfl ?_; refine wpList_plain rfl (fun K hK => ?_); (first | (refine op_box _ _ rfl H (fun b w' H1 => hK _ _ ?_)) | (refine op_alloc _ rfl (zero_of _ _ rfl) H (fun b w' H1 => hK _ _ ?_)) | (refine op_store _ _ _ rfl rfl rfl H (by repeat (first | exact Split.here _ _ | apply Split.there)) (by kernel_rfl) (by kernel_rfl) (by kernel_rfl) (fun w' H1 => hK _ _ ?_)) | (refine op_buildSlice_all _ _ _ rfl (by first | exact elem22 | exact elem39 | exact elem76 | exact elem154) (by kernel_rfl) (by kernel_rfl) (by kernel_rfl) H (fun b w' H1 => hK _ _ ?_))); clear hK K; replace H := H1; clear H1)); (try clear hc); (try simp only [nrm, splice, Value.cells, Nat.reduceAdd, Act.eval, Act.put] at H); have hc := H.cells; simp only [CellsOf, KnCells, knc, Nat.reduceAdd] at hc))) | go_values | go_skip | go_guarded | go_step | go_upon | go_back | dsimp only)
  · go_ret
    exact ⟨rfl, H.ext⟩
  · go_ret
    exact ⟨rfl, H.ext⟩
set_option maxHeartbeats 4000000 in
set_option maxRecDepth 10000 in
theorem settles_no2 (cl st tg : ByteArray) (hd : Bool) (at' : Option Addr) (n cap : Nat) (ts : List ByteArray)
    (hF : Hid (∀ (w : World), St [] w w [(false, .arr at' (strs ts))] → Calls Tryd.prog 9 #[.agg #[.string cl, .string st, .string tg, .bool true, .bool hd, .slice at' n cap]] w fun e w' => ∃ b, e = .returned (.bool b) ∧ Ext [] w w' ∧ Hid (b = true → Fits ⟨cl, st, tg, true, hd, at', n, cap⟩ ts)))
    (hG : Hid (∀ (w : World), Hid (Fits ⟨cl, st, tg, true, hd, at', n, cap⟩ ts) → St [] w w [(false, .arr at' (strs ts))] → Calls Tryd.prog 10 #[.agg #[.string cl, .string st, .string tg, .bool true, .bool hd, .slice at' n cap]] w fun e w' => ∃ b, e = .returned (.bool b) ∧ Ext [] w w'))
    (hT : Hid (∀ (w : World), Calls Tryd.prog 19 #[.agg #[.string cl, .string st, .string tg, .bool true, .bool hd, .slice at' n cap]] w fun e w' => e = .returned (.bool false) ∧ Ext [] w w'))
    (w : World) (H : St [] w w [(false, .arr at' (strs ts)), genv]) :
    Calls Tryd.prog 7 #[.agg #[.string cl, .string st, .string tg, .bool true, .bool hd, .slice at' n cap]] w fun e w' => e = .returned (.bool true) ∧ Ext [] w w' := by
  have hc := H.cells; simp only [CellsOf, KnCells, knc, Nat.reduceAdd] at hc
  go_enter Tryd.func7, Tryd.ntmps7
  repeat' (first | (go_big_may; (first
    | go_skip
    | (go_at_call 9; refine Calls.mono (hF.out _ (H.pick (by repeat (first | exact Picks.nil _ | (apply Picks.wr; focus (repeat (first | exact Split.here _ _ | apply Split.there))) | (apply Picks.rd; focus (repeat (first | exact Split.here _ _ | apply Split.there))))))) ?_; rintro e w' ⟨bf, rfl, H', hbf⟩; replace H := H.of_ext H'; clear H'; (try clear hc); (try simp only [nrm, splice, Value.cells, Nat.reduceAdd, Act.eval, Act.put] at H); have hc := H.cells; simp only [CellsOf, KnCells, knc, Nat.reduceAdd] at hc; cases bf)
    | (go_at_call 10; refine Calls.mono (hG.out _ (Lib.hid (hbf.out rfl)) (H.pick (by repeat (first | exact Picks.nil _ | (apply Picks.wr; focus (repeat (first | exact Split.here _ _ | apply Split.there))) | (apply Picks.rd; focus (repeat (first | exact Split.here _ _ | apply Split.there))))))) ?_; rintro e w' ⟨bg, rfl, H'⟩; replace H := H.of_ext H'; clear H'; (try clear hc); (try simp only [nrm, splice, Value.cells, Nat.reduceAdd, Act.eval, Act.put] at H); have hc := H.cells; simp only [CellsOf, KnCells, knc, Nat.reduceAdd] at hc; cases bg)
    | ((first
        | (go_at_call 19; refine Calls.mono (hT.out _) ?_; rintro e w' ⟨rfl, H'⟩; replace H := H.of_ext H'; clear H')
        | (refine loud_ rfl ?_; refine wpList_plain rfl (fun K hK => ?_); (first | (refine op_box _ _ rfl H (fun b w' H1 => hK _ _ ?_)) | (refine op_alloc _ rfl (zero_of _ _ rfl) H (fun b w' H1 => hK _ _ ?_)) | (refine op_store _ _ _ rfl rfl rfl H (by repeat (first | exact Split.here _ _ | apply Split.there)) (by kernel_rfl) (by kernel_rfl) (by kernel_rfl) (fun w' H1 => hK _ _ ?_)) | (refine op_buildSlice_all _ _ _ rfl (by first | exact elem22 | exact elem39 | exact elem76 | exact elem154) (by kernel_rfl) (by kernel_rfl) (by kernel_rfl) H (fun b w' H1 => hK _ _ ?_))); clear hK K; replace H := H1; clear H1)); (try clear hc); (try simp only [nrm, splice, Value.cells, Nat.reduceAdd, Act.eval, Act.put] at H); have hc := H.cells; simp only [CellsOf, KnCells, knc, Nat.reduceAdd] at hc))) | go_values | go_skip | go_guarded | go_step | go_upon | go_back | dsimp only)
  all_goals
    go_ret
    exact ⟨rfl, H.ext⟩
/-- What a decision makes of the cluster's version. -/
def nextV (r : Option Vr × Bool) (cv : Option Vr) : Option Vr := match r.1 with
  | some x => some ⟨x.a, x.b, 0⟩
  | none => cv
theorem strEmpty : (ByteArray.empty).toList.isEmpty = true := by
  rw [ByteArray.toList_eq]
  rfl
theorem voted_cl (d : VD) (r : Option Vr × Bool) (hr : ∀ x, r.1 = some x → x.Ok) : verOf (votedD d (decVo r)).cl = nextV r (verOf d.cl) := by
  obtain ⟨x, b⟩ := r
  cases x with
  | none =>
    have e : (votedD d (decVo (none, b))).cl = d.cl := by
      cases b <;> simp [votedD, decVo, strEmpty]
    rw [e]
    rfl
  | some x =>
    have e : (votedD d (decVo (some x, b))).cl = vstr ⟨x.a, x.b, 0⟩ := by
      simp [votedD, decVo, hidStr]
    rw [e, verOf_vstr (hr x rfl).base]
    rfl
theorem vdec_same (d : VD) (r : Option Vr × Bool) : (votedD d (decVo r)).st = d.st ∧ (votedD d (decVo r)).tg = d.tg ∧ (votedD d (decVo r)).dn = d.dn ∧ (votedD d (decVo r)).hd = d.hd ∧ (votedD d (decVo r)).at' = d.at' ∧ (votedD d (decVo r)).n = d.n ∧ (votedD d (decVo r)).cap = d.cap := by
  obtain ⟨x, b⟩ := r
  cases x <;> cases b <;> simp [votedD, decVo, strEmpty]
theorem decM_ok {d : VD} {ts : List ByteArray} (h : Seen d ts) {x : Vr} (hx : (decM d (verOf d.cl) (leastOf (ts.map verOf)) (verOf d.tg)).1 = some x) : x.Ok := by
  rcases decM_end h.view with ⟨y, hy, e⟩ | e | e
  · rw [e] at hx
    cases hx
    exact hy
  · rw [e] at hx; cases hx
  · rw [e] at hx; cases hx
theorem Seen.voted_dec {d : VD} {ts : List ByteArray} (h : Seen d ts) {r : Option Vr × Bool} (hr : ∀ x, r.1 = some x → x.Ok) : Seen (votedD d (decVo r)) ts := by
  obtain ⟨h1, h2, h3, h4, h5, h6, h7⟩ := vdec_same d r
  refine ⟨h.all, h.n, ?_, by rw [h1]; exact h.st, by rw [h2, h3, h4]; exact h.dn, by rw [h6]; exact h.len⟩
  rw [voted_cl d r hr]
  obtain ⟨x, b⟩ := r
  cases x with
  | none =>
    have e : (votedD d (decVo (none, b))).cl = d.cl := by
      cases b <;> simp [votedD, decVo, strEmpty]
    rw [e]
    exact h.cl
  | some x =>
    have e : (votedD d (decVo (some x, b))).cl = vstr ⟨x.a, x.b, 0⟩ := by
      simp [votedD, decVo, hidStr]
    rw [e]
    exact vtext_vstr (hr x rfl).base
theorem base_still (y : Vr) : (vless ⟨y.a, y.b, 0⟩ y && vchange ⟨y.a, y.b, 0⟩ y) = false := by
  rw [Bool.and_eq_false_iff]
  right
  unfold vchange vup vdown veq vprev vbase
  have h1 := vless_self ⟨y.a, y.b, 0⟩
  simp only [h1]
  simp
  omega
theorem decM_plain (d : VD) (cv mn tv : Option Vr) (h : (d.hd && d.dn) = false) : decM d cv mn tv = match cv, mn with
  | none, some y => (some y, false)
  | none, none => (some ⟨3, 0, 0⟩, false)
  | some _, none => (none, false)
  | some c, some y => if vless c y && vchange c y then (some y, false) else (none, false) := by
  unfold decM
  cases cv <;> cases mn <;> simp [h]
/-- Where no downgrade goes on, a second decision sets nothing. -/
theorem decM_plain2 (d d' : VD) (cv mn tv tv' : Option Vr) (h : (d.hd && d.dn) = false) (h' : (d'.hd && d'.dn) = false) : decM d' (nextV (decM d cv mn tv) cv) mn tv' = (none, false) := by
  rw [decM_plain d' _ _ _ h', decM_plain d _ _ _ h]
  cases cv with
  | none =>
    cases mn with
    | none => rfl
    | some y =>
      show (if vless ⟨y.a, y.b, 0⟩ y && vchange ⟨y.a, y.b, 0⟩ y then _ else _) = _
      rw [base_still]
      rfl
  | some c =>
    cases mn with
    | none => rfl
    | some y =>
      cases hl : (vless c y && vchange c y) with
      | false =>
        simp only [hl, nextV]
        simp
        intro h
        rw [h] at hl
        simpa using hl
      | true =>
        simp only [hl, nextV, if_true]
        show (if vless ⟨y.a, y.b, 0⟩ y && vchange ⟨y.a, y.b, 0⟩ y then _ else _) = _
        rw [base_still]
        rfl
theorem veq_self (x : Vr) : veq x x = true := by
  unfold veq
  simp
/-- In a downgrade a second decision sets nothing, and complains only where the first one did. -/
theorem decM_down2 (d d' : VD) (c : Vr) (mn : Option Vr) (t : Vr) (h : (d.hd && d.dn) = true) (h' : (d'.hd && d'.dn) = true) :
    (decM d' (nextV (decM d (some c) mn (some t)) (some c)) mn (some t)).1 = none ∧ ((decM d (some c) mn (some t)).2 = false → (decM d' (nextV (decM d (some c) mn (some t)) (some c)) mn (some t)).2 = false) := by
  cases mn with
  | none => exact ⟨rfl, fun _ => rfl⟩
  | some y =>
    have full : ∀ (e : VD) (c : Vr), (e.hd && e.dn) = true → decM e (some c) (some y) (some t) = if veq t c then (none, false) else if vdown c t && vdown y t then (some t, false) else (none, true) := fun e c h => by
      show (if e.hd && e.dn then _ else _) = _
      rw [h]
      rfl
    rw [full d c h]
    cases hq : veq t c with
    | true =>
      simp only [if_true, nextV]
      rw [full d' c h', hq]
      exact ⟨rfl, fun _ => rfl⟩
    | false =>
      cases hw : (vdown c t && vdown y t) with
      | true =>
        simp only [if_true, if_false, Bool.false_eq_true, nextV]
        rw [Bool.and_eq_true] at hw
        obtain ⟨t1, t2, t3⟩ := vdown_iff.1 hw.1
        have et : (⟨t.a, t.b, 0⟩ : Vr) = t := by
          obtain ⟨u1, u2, u3⟩ := t
          simp only at t3
          rw [t3]
        rw [et, full d' t h', veq_self]
        exact ⟨rfl, fun _ => rfl⟩
      | false =>
        simp only [if_false, Bool.false_eq_true, nextV]
        rw [full d' c h', hq, hw]
        exact ⟨rfl, fun h => by cases h⟩
/-- What the storage's version becomes. -/
theorem stVo_ok (cv sv : Option Vr) : stVo cv sv = vo0 ∨ ∃ c, cv = some c ∧ ¬ (c.a = 3 ∧ c.b = 0 ∧ c.c = 0) ∧ stVo cv sv = ⟨0, ByteArray.empty, vstr ⟨c.a, c.b, 0⟩, false, false, ByteArray.empty⟩ := by
  cases cv with
  | none => exact .inl rfl
  | some c =>
    unfold stVo
    simp only
    by_cases h0 : c.a = 3 ∧ c.b = 0 ∧ c.c = 0
    · rw [if_pos h0]
      exact .inl rfl
    · rw [if_neg h0]
      cases sv with
      | none => exact .inr ⟨c, rfl, h0, rfl⟩
      | some s =>
        simp only
        by_cases h1 : s.a = c.a ∧ s.b = c.b
        · rw [if_pos h1]
          exact .inl rfl
        · rw [if_neg h1]
          exact .inr ⟨c, rfl, h0, rfl⟩
theorem voted_vo0 (d : VD) : votedD d vo0 = d := by
  obtain ⟨cl, st, tg, dn, hd, at', n, cap⟩ := d
  simp [votedD, strEmpty]
theorem voted_st (d : VD) (x : Vr) : votedD d ⟨0, ByteArray.empty, vstr x, false, false, ByteArray.empty⟩ = { d with st := vstr x } := by
  obtain ⟨cl, st, tg, dn, hd, at', n, cap⟩ := d
  simp [votedD, strEmpty, hidStr]
/-- A second decision about the storage sets nothing. -/
theorem stVo_still (d : VD) (ts : List ByteArray) (h : Seen d ts) : Seen (votedD d (stVo (verOf d.cl) (verOf d.st))) ts ∧ (votedD d (stVo (verOf d.cl) (verOf d.st))).cl = d.cl ∧ (votedD d (stVo (verOf d.cl) (verOf d.st))).tg = d.tg ∧ (votedD d (stVo (verOf d.cl) (verOf d.st))).dn = d.dn ∧ (votedD d (stVo (verOf d.cl) (verOf d.st))).hd = d.hd ∧
    stVo (verOf d.cl) (verOf (votedD d (stVo (verOf d.cl) (verOf d.st))).st) = vo0 := by
  rcases stVo_ok (verOf d.cl) (verOf d.st) with e | ⟨c, hc, h0, e⟩
  · rw [e, voted_vo0]
    exact ⟨h, rfl, rfl, rfl, rfl, e⟩
  · rw [e, voted_st]
    have hco := (verOf_sound hc).1
    refine ⟨⟨h.all, h.n, h.cl, ?_, h.dn, h.len⟩, rfl, rfl, rfl, rfl, ?_⟩
    · show VOpt (vstr _) (verOf (vstr _))
      rw [verOf_vstr hco.base]
      exact vtext_vstr hco.base
    · rw [hc]
      show stVo (some c) (verOf (vstr _)) = _
      rw [verOf_vstr hco.base]
      unfold stVo
      simp only
      rw [if_neg h0, if_pos (by simp)]
end Go.Proofs.YtdcijhdjddiboaaDoor
