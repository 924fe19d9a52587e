import Derived.Test.YtdcijhdjddiboaaDoorVerFh
-- MORE
namespace Go.Proofs.YtdcijhdjddiboaaDoor
set_option linter.unusedVariables false
set_option linter.unusedSimpArgs false
set_option linter.unnecessarySimpa false
open Go.RowKit Go.V

set_option maxHeartbeats 4000000 in
set_option maxRecDepth 10000 in
/-- What is seen is nothing of which the law speaks. -/
theorem bounds_no (cl st tg : ByteArray) (dn hd : Bool) (at' : Option Addr) (n cap : Nat) (ts : List ByteArray)
    (hF : Hid (∀ (w : World), St [] w w [(false, .arr at' (strs ts))] → Calls Tryd.prog 9 #[.agg #[.string cl, .string st, .string tg, .bool dn, .bool hd, .slice at' n cap]] w fun e w' => ∃ b, e = .returned (.bool b) ∧ Ext [] w w' ∧ Hid (b = true → Fits ⟨cl, st, tg, dn, hd, at', n, cap⟩ ts)))
    (hG : Hid (∀ (w : World), Hid (Fits ⟨cl, st, tg, dn, hd, at', n, cap⟩ ts) → St [] w w [(false, .arr at' (strs ts))] → Calls Tryd.prog 10 #[.agg #[.string cl, .string st, .string tg, .bool dn, .bool hd, .slice at' n cap]] w fun e w' => e = .returned (.bool false) ∧ Ext [] w w'))
    (w : World) (H : St [] w w [(false, .arr at' (strs ts)), genv]) :
    Calls Tryd.prog 4 #[.agg #[.string cl, .string st, .string tg, .bool dn, .bool hd, .slice at' n cap]] w fun e w' => e = .returned (.bool true) ∧ Ext [] w w' := by
  have hc := H.cells; simp only [CellsOf, KnCells, knc, Nat.reduceAdd] at hc
  go_enter Tryd.func4, Tryd.ntmps4
  repeat' (first | (go_big_may; (first
    | go_skip
    | (go_at_call 9; refine Calls.mono (hF.out _ (H.pick (by repeat (first | exact Picks.nil _ | (apply Picks.wr; focus (repeat (first | exact Split.here _ _ | apply Split.there))) | (apply Picks.rd; focus (repeat (first | exact Split.here _ _ | apply Split.there))))))) ?_; rintro e w' ⟨bf, rfl, H', hbf⟩; replace H := H.of_ext H'; clear H'; (try clear hc); (try simp only [nrm, splice, Value.cells, Nat.reduceAdd, Act.eval, Act.put] at H); have hc := H.cells; simp only [CellsOf, KnCells, knc, Nat.reduceAdd] at hc; cases bf)
    | ((first
        | (go_at_call 10; refine Calls.mono (hG.out _ (Lib.hid (hbf.out rfl)) (H.pick (by repeat (first | exact Picks.nil _ | (apply Picks.wr; focus (repeat (first | exact Split.here _ _ | apply Split.there))) | (apply Picks.rd; focus (repeat (first | exact Split.here _ _ | apply Split.there))))))) ?_; rintro e w' ⟨rfl, H'⟩; replace H := H.of_ext H'; clear H')
        | (refine loud_ rfl ?_; refine wpList_plain rfl (fun K hK => ?_); (first | (refine op_box _ _ rfl H (fun b w' H1 => hK _ _ ?_)) | (refine op_alloc _ rfl (zero_of _ _ rfl) H (fun b w' H1 => hK _ _ ?_)) | (refine op_store _ _ _ rfl rfl rfl H (by repeat (first | exact Split.here _ _ | apply Split.there)) (by kernel_rfl) (by kernel_rfl) (by kernel_rfl) (fun w' H1 => hK _ _ ?_)) | (refine op_buildSlice_all _ _ _ rfl (by first | exact elem22 | exact elem39 | exact elem76 | exact elem154) (by kernel_rfl) (by kernel_rfl) (by kernel_rfl) H (fun b w' H1 => hK _ _ ?_))); clear hK K; replace H := H1; clear H1)); (try clear hc); (try simp only [nrm, splice, Value.cells, Nat.reduceAdd, Act.eval, Act.put] at H); have hc := H.cells; simp only [CellsOf, KnCells, knc, Nat.reduceAdd] at hc))) | go_values | go_skip | go_guarded | go_step | go_upon | go_back | dsimp only)
  · go_ret
    exact ⟨rfl, H.ext⟩
  · go_ret
    exact ⟨rfl, H.ext⟩
theorem vdown_iff {f t : Vr} : vdown f t = true ↔ t.a = f.a ∧ t.b = f.b - 1 ∧ t.c = 0 := by
  unfold vdown veq vprev
  simp
theorem vchange_up {c y : Vr} (hl : vless c y = true) (hch : vchange c y = true) : c.a = y.a ∧ c.b < y.b := by
  unfold vchange vup at hch
  rw [Bool.or_eq_true, Bool.and_eq_true, vdown_iff, vless_iff] at hch
  rw [vless_iff] at hl
  simp only [vbase, decide_eq_true_eq] at hch
  omega
theorem hidStr (x : Vr) : (vstr x).toList.isEmpty = false := by
  rw [ByteArray.toList_eq]
  show (dec x.a.toNat ++ 46 :: _).isEmpty = false
  cases dec x.a.toNat <;> rfl
set_option maxRecDepth 10000 in
theorem fnDecideBounds_calls (cl st tg : ByteArray) (dn hd : Bool) (at' : Option Addr) (n cap : Nat) (ts : List ByteArray) (hn : n = ts.length) (hm : n ≤ maxLen) (hz : Hid (∀ t ∈ ts, t.size ≤ maxLen)) (w : World) (H : St [] w w [(false, .arr at' (strs ts)), genv]) :
    Calls Tryd.prog 4 #[.agg #[.string cl, .string st, .string tg, .bool dn, .bool hd, .slice at' n cap]] w fun e w' => e = .returned (.bool true) ∧ Ext [] w w' := by
  have hF := Lib.hid (fun w (H : St [] w w [(false, .arr at' (strs ts))]) => zzFits36_calls ⟨cl, st, tg, dn, hd, at', n, cap⟩ ts hn hm hz w H)
  by_cases hg : Good ⟨cl, st, tg, dn, hd, at', n, cap⟩ ts
  · have hG : Hid (∀ (w : World), Hid (Fits ⟨cl, st, tg, dn, hd, at', n, cap⟩ ts) → St [] w w [(false, .arr at' (strs ts))] → Calls Tryd.prog 10 #[.agg #[.string cl, .string st, .string tg, .bool dn, .bool hd, .slice at' n cap]] w fun e w' => ∃ b, e = .returned (.bool b) ∧ Ext [] w w') := fun w hf H => (verGood_calls ⟨cl, st, tg, dn, hd, at', n, cap⟩ ts hn hf w H).mono (fun e w' h => by
      obtain ⟨b, h1, h2, _⟩ := h
      exact ⟨b, h1, h2⟩)
    have hs := hg.seen hn
    have hv := hs.view
    have hvm := hv.mn
    have hD := fun w H => decide_calls ⟨cl, st, tg, dn, hd, at', n, cap⟩ ts hs w H
    have hC := verOf_gen cl (vopt_size hs.cl)
    have hL := hs.least_gen
    have hdn := hg.dn
    simp only at hC hL hv hvm hdn hD
    cases hcv : verOf cl with
    | none =>
      rw [hcv] at hC
      cases hmn : leastOf (ts.map verOf) with
      | none =>
        rw [hmn] at hL
        have e : decOf ⟨cl, st, tg, dn, hd, at', n, cap⟩ ts = ⟨0, v300, ByteArray.empty, false, false, ByteArray.empty⟩ := by
          show decVo (decM _ (verOf cl) (leastOf (ts.map verOf)) (verOf tg)) = _
          rw [hcv, hmn]
          rfl
        rw [e] at hD
        exact bounds_b cl st tg dn hd at' n cap ts _ _ _ _ _ _ _ _ hF hG (Lib.hid hD) hC hL (verOf_gen v300 (by decide)) rfl rfl w H
      | some y =>
        rw [hmn] at hL hvm
        have e : decOf ⟨cl, st, tg, dn, hd, at', n, cap⟩ ts = ⟨0, vstr ⟨y.a, y.b, 0⟩, ByteArray.empty, false, false, ByteArray.empty⟩ := by
          show decVo (decM _ (verOf cl) (leastOf (ts.map verOf)) (verOf tg)) = _
          rw [hcv, hmn]
          rfl
        rw [e] at hD
        have hX := verOf_is (verOf_vstr hvm.2.base) (vof_size (verOf_vstr hvm.2.base))
        exact bounds_c cl st tg dn hd at' n cap ts _ _ _ y.a y.b y.c _ _ _ hF hG (Lib.hid hD) hC hL hX (hidStr _) rfl rfl w H
    | some c =>
      have hco := (verOf_sound hcv).1
      rw [hcv] at hC
      have none_end : ∀ oe, decOf ⟨cl, st, tg, dn, hd, at', n, cap⟩ ts = ⟨oe, ByteArray.empty, ByteArray.empty, false, false, ByteArray.empty⟩ → Calls Tryd.prog 4 #[.agg #[.string cl, .string st, .string tg, .bool dn, .bool hd, .slice at' n cap]] w fun e w' => e = .returned (.bool true) ∧ Ext [] w w' := fun oe e => by
        rw [e] at hD
        exact bounds_a cl st tg dn hd at' n cap ts _ _ _ _ _ _ _ _ oe hF hG (Lib.hid hD) hC hL (verOf_gen ByteArray.empty (by decide)) w H
      cases hmn : leastOf (ts.map verOf) with
      | none =>
        refine none_end 0 ?_
        show decVo (decM _ (verOf cl) (leastOf (ts.map verOf)) (verOf tg)) = _
        rw [hcv, hmn]
        rfl
      | some y =>
        rw [hmn] at hL hvm
        obtain ⟨_, hyo⟩ := hvm
        cases hdd : (hd && dn) with
        | false =>
          have e : decOf ⟨cl, st, tg, dn, hd, at', n, cap⟩ ts = decVo (if vless c y && vchange c y then (some y, false) else (none, false)) := by
            show decVo (decM _ (verOf cl) (leastOf (ts.map verOf)) (verOf tg)) = _
            rw [hcv, hmn]
            show decVo (if hd && dn then _ else _) = _
            rw [hdd]
            rfl
          cases hl : vless c y with
          | false =>
            rw [hl] at e
            exact none_end 0 e
          | true =>
            cases hch : vchange c y with
            | false =>
              rw [hl, hch] at e
              exact none_end 0 e
            | true =>
              rw [hl, hch] at e
              have e : decOf ⟨cl, st, tg, dn, hd, at', n, cap⟩ ts = ⟨0, vstr ⟨y.a, y.b, 0⟩, ByteArray.empty, false, false, ByteArray.empty⟩ := e
              rw [e] at hD
              obtain ⟨e1, e2⟩ := vchange_up hl hch
              have hX := verOf_is (verOf_vstr hyo.base) (vof_size (verOf_vstr hyo.base))
              rw [← e1] at hX hD
              have hdn0 : dn = false := by
                cases hdv : dn with
                | false => rfl
                | true =>
                  have h1 := (hdn hdv).1
                  rw [hdv, h1] at hdd
                  cases hdd
              exact bounds_d cl st tg dn hd at' n cap ts c.a c.b c.c y.a y.b y.c _ _ _ hF hG (Lib.hid hD) hC hL hX rfl rfl e1.symm hdn0
                (less_is (x := c) (y := ⟨c.a, y.b, 0⟩) (by rw [vless_iff]; exact .inr ⟨rfl, .inl e2⟩)) w H
        | true =>
          rw [Bool.and_eq_true] at hdd
          obtain ⟨hhd, hdn1⟩ := hdd
          obtain ⟨t, ht⟩ := hs.dn hhd hdn1
          simp only at ht
          have hts := verOf_sound ht
          have hto := hts.1
          have e : decOf ⟨cl, st, tg, dn, hd, at', n, cap⟩ ts = decVo (if veq t c then (none, false) else if vdown c t && vdown y t then (some t, false) else (none, true)) := by
            show decVo (decM _ (verOf cl) (leastOf (ts.map verOf)) (verOf tg)) = _
            rw [hcv, hmn, ht]
            show decVo (if hd && dn then _ else _) = _
            rw [hhd, hdn1]
            rfl
          cases hq : veq t c with
          | true =>
            rw [hq] at e
            exact none_end 0 e
          | false =>
            cases hw : (vdown c t && vdown y t) with
            | false =>
              rw [hq, hw] at e
              exact none_end 98 e
            | true =>
              rw [hq, hw] at e
              rw [Bool.and_eq_true] at hw
              obtain ⟨t1, t2, t3⟩ := vdown_iff.1 hw.1
              have et : t = ⟨c.a, c.b - 1, 0⟩ := by
                obtain ⟨u1, u2, u3⟩ := t
                simp only at t1 t2 t3
                rw [t1, t2, t3]
              have e : decOf ⟨cl, st, tg, dn, hd, at', n, cap⟩ ts = ⟨0, vstr ⟨t.a, t.b, 0⟩, ByteArray.empty, false, false, ByteArray.empty⟩ := e
              rw [et] at e hto hts ht
              have htg : tg = vstr ⟨c.a, c.b - 1, 0⟩ := vtext_eq hts
              simp only at e
              rw [← htg] at e
              rw [e] at hD
              have hT : Hid (∀ (w : World), Calls Tryd.prog 18 #[.agg #[.int .i64 c.a, .int .i64 (c.b - 1), .int .i64 0]] w fun e w' => e = .returned (.string tg) ∧ Ext [] w w') := by
                rw [htg]
                exact fun w => verText_calls ⟨c.a, c.b - 1, 0⟩ hto w
              exact bounds_e cl st tg dn hd at' n cap ts c.a c.b c.c y.a y.b y.c _ _ hF hG (Lib.hid hD) hC hL (verOf_is ht (vof_size ht)) rfl rfl hdn1 hco.b.1 hco.b.2
                (less_is (x := c) (y := ⟨c.a, c.b - 1, 0⟩) (by rw [vless_no]; simp only; omega)) hT w H
  · have hG : Hid (∀ (w : World), Hid (Fits ⟨cl, st, tg, dn, hd, at', n, cap⟩ ts) → St [] w w [(false, .arr at' (strs ts))] → Calls Tryd.prog 10 #[.agg #[.string cl, .string st, .string tg, .bool dn, .bool hd, .slice at' n cap]] w fun e w' => e = .returned (.bool false) ∧ Ext [] w w') := fun w hf H => (verGood_calls ⟨cl, st, tg, dn, hd, at', n, cap⟩ ts hn hf w H).mono (fun e w' h => by
      obtain ⟨b, h1, h2, h3⟩ := h
      cases b with
      | false => exact ⟨h1, h2⟩
      | true => exact absurd (h3.out rfl) hg)
    exact bounds_no cl st tg dn hd at' n cap ts hF hG w H
end Go.Proofs.YtdcijhdjddiboaaDoor
