import Derived.Test.YtdcijhdjddiboaaDoorVerFk
import Derived.Test.YtdcijhdjddiboaaDoorVerFja
namespace Go.Proofs.YtdcijhdjddiboaaDoor
set_option linter.unusedVariables false
set_option linter.unusedSimpArgs false
set_option linter.unnecessarySimpa false
open Go.RowKit Go.V

theorem decVo_en (r : Option Vr × Bool) : ((decVo r).en && (decVo r).canc) = false := by
  obtain ⟨x, b⟩ := r
  cases x <;> cases b <;> rfl
theorem stVo_en (cv sv : Option Vr) : ((stVo cv sv).en && (stVo cv sv).canc) = false := by
  rcases stVo_ok cv sv with e | ⟨c, _, _, e⟩ <;> rw [e] <;> rfl
theorem caVo_cases (hd dn : Bool) (os : List (Option Vr)) (tv : Option Vr) : caVo hd dn os tv = vo0 ∨ caVo hd dn os tv = ⟨0, ByteArray.empty, ByteArray.empty, true, false, ByteArray.empty⟩ := by
  unfold caVo
  cases tv with
  | none => exact .inl rfl
  | some t =>
    cases h : (hd && dn && matchAll os t) with
    | false => exact .inl (by simp only [h])
    | true => exact .inr (by simp only [h])
theorem stg {at' : Option Addr} {ts : List ByteArray} {w : World} (H : St [] w w [(false, .arr at' (strs ts)), genv]) : St [] w w [genv] := H.sublist (List.sublist_cons_self _ _)
theorem decVo_err (r : Option Vr × Bool) (h : r.2 = false) : (decVo r).err = 0 := by
  obtain ⟨x, b⟩ := r
  cases h
  cases x <;> rfl
set_option maxRecDepth 10000 in
theorem fnDecideSettles_calls (cl st tg : ByteArray) (dn hd : Bool) (at' : Option Addr) (n cap : Nat) (ts : List ByteArray) (hn : n = ts.length) (hm : n ≤ maxLen) (hz : Hid (∀ t ∈ ts, t.size ≤ maxLen)) (w : World) (H : St [] w w [(false, .arr at' (strs ts)), genv]) :
    Calls Tryd.prog 7 #[.agg #[.string cl, .string st, .string tg, .bool dn, .bool hd, .slice at' n cap]] w fun e w' => e = .returned (.bool true) ∧ Ext [] w w' := by
  have hF := Lib.hid (fun w (H : St [] w w [(false, .arr at' (strs ts))]) => zzFits36_calls ⟨cl, st, tg, dn, hd, at', n, cap⟩ ts hn hm hz w H)
  by_cases hg : Good ⟨cl, st, tg, dn, hd, at', n, cap⟩ ts
  · have hG : Hid (∀ (w : World), Hid (Fits ⟨cl, st, tg, dn, hd, at', n, cap⟩ ts) → St [] w w [(false, .arr at' (strs ts))] → Calls Tryd.prog 10 #[.agg #[.string cl, .string st, .string tg, .bool dn, .bool hd, .slice at' n cap]] w fun e w' => ∃ b, e = .returned (.bool b) ∧ Ext [] w w') := fun w hf H => (verGood_calls ⟨cl, st, tg, dn, hd, at', n, cap⟩ ts hn hf w H).mono (fun e w' h => by
      obtain ⟨b, h1, h2, _⟩ := h
      exact ⟨b, h1, h2⟩)
    obtain ⟨d0, hd0⟩ : ∃ d0 : VD, d0 = ⟨cl, st, tg, dn, hd, at', n, cap⟩ := ⟨_, rfl⟩
    have hs0 : Seen d0 ts := by rw [hd0]; exact hg.seen hn
    have hT : Hid (∀ (w : World), Calls Tryd.prog 19 #[.agg #[.string cl, .string st, .string tg, .bool dn, .bool hd, .slice at' n cap]] w fun e w' => e = .returned (.bool (verOf cl).isSome) ∧ Ext [] w w') := fun w => verThere_calls ⟨cl, st, tg, dn, hd, at', n, cap⟩ (vopt_size hg.cl) w
    by_cases hit : dn = true ∧ verOf cl = none
    · obtain ⟨rfl, hcn⟩ := hit
      rw [hcn] at hT
      exact settles_no2 cl st tg hd at' n cap ts hF hG hT w H
    · have hit' : dn = true → (verOf cl).isSome = true := fun h => by
        cases hc : verOf cl with
        | none => exact absurd ⟨h, hc⟩ hit
        | some c => rfl
      -- the first decision
      obtain ⟨r1, hr1⟩ : ∃ r1, r1 = decM d0 (verOf d0.cl) (leastOf (ts.map verOf)) (verOf d0.tg) := ⟨_, rfl⟩
      have hr1ok : ∀ x, r1.1 = some x → x.Ok := fun x hx => decM_ok hs0 (by rw [← hr1]; exact hx)
      have hs1 := hs0.voted_dec hr1ok
      have hcl1 := voted_cl d0 r1 hr1ok
      obtain ⟨a1, a2, a3, a4, a5, a6, a7⟩ := vdec_same d0 r1
      have h1 : Hid (∀ (w : World), St [] w w [(false, .arr at' (strs ts)), genv] → Calls Tryd.prog 11 #[d0.val] w fun e w' => e = .returned (decVo r1).val ∧ Ext [] w w') := fun w H => by
        have := decide_calls d0 ts hs0 w (by rw [hd0]; exact H)
        rw [hr1]
        exact this
      have v1 : Hid (∀ (w : World), Calls Tryd.prog 24 #[d0.val, (decVo r1).val] w fun e w' => e = .returned (votedD d0 (decVo r1)).val ∧ Ext [] w w') := fun w => voted_calls d0 (decVo r1) (decVo_en r1) w
      obtain ⟨d1, hd1⟩ : ∃ d1, d1 = votedD d0 (decVo r1) := ⟨_, rfl⟩
      rw [← hd1] at hs1 hcl1 a1 a2 a3 a4 a5 a6 a7 v1
      -- the storage
      obtain ⟨hs2, b1, b2, b3, b4, hst⟩ := stVo_still d1 ts hs1
      have h2 : Hid (∀ (w : World), St [] w w [(false, .arr at' (strs ts)), genv] → Calls Tryd.prog 25 #[d1.val] w fun e w' => e = .returned (stVo (verOf d1.cl) (verOf d1.st)).val ∧ Ext [] w w') := fun w H => storage_calls d1 ts hs1 w (stg H)
      have v2 : Hid (∀ (w : World), Calls Tryd.prog 24 #[d1.val, (stVo (verOf d1.cl) (verOf d1.st)).val] w fun e w' => e = .returned (votedD d1 (stVo (verOf d1.cl) (verOf d1.st))).val ∧ Ext [] w w') := fun w => voted_calls d1 _ (stVo_en _ _) w
      have e5 : (votedD d1 (stVo (verOf d1.cl) (verOf d1.st))).at' = d1.at' := rfl
      have e6 : (votedD d1 (stVo (verOf d1.cl) (verOf d1.st))).n = d1.n := rfl
      have e7 : (votedD d1 (stVo (verOf d1.cl) (verOf d1.st))).cap = d1.cap := rfl
      generalize stVo (verOf d1.cl) (verOf d1.st) = o2 at *
      obtain ⟨d2, hd2⟩ : ∃ d2, d2 = votedD d1 o2 := ⟨_, rfl⟩
      rw [← hd2] at hs2 b1 b2 b3 b4 hst v2 e5 e6 e7
      have c1 : verOf d2.cl = nextV r1 (verOf d0.cl) := by rw [b1]; exact hcl1
      have c2 : d2.tg = d0.tg := b2.trans a2
      have c3 : d2.dn = d0.dn := b3.trans a3
      have c4 : d2.hd = d0.hd := b4.trans a4
      have c5 : d2.at' = at' := e5.trans (a5.trans (by rw [hd0]))
      have c6 : d2.n = n := e6.trans (a6.trans (by rw [hd0]))
      have c7 : d2.cap = cap := e7.trans (a7.trans (by rw [hd0]))
      have f5 : d1.at' = at' := a5.trans (by rw [hd0])
      have f6 : d1.n = n := a6.trans (by rw [hd0])
      have f7 : d1.cap = cap := a7.trans (by rw [hd0])
      have h3 : Hid (∀ (w : World), St [] w w [(false, .arr at' (strs ts)), genv] → Calls Tryd.prog 22 #[d2.val] w fun e w' => e = .returned (caVo d2.hd d2.dn (ts.map verOf) (verOf d2.tg)).val ∧ Ext [] w w') := fun w H => cancel_calls d2 ts hs2 w (by rw [c5]; exact H)
      have hS2 : Hid (∀ (w : World), St [] w w [(false, .arr at' (strs ts)), genv] → Calls Tryd.prog 25 #[d2.val] w fun e w' => e = .returned vo0.val ∧ Ext [] w w') := fun w H => by
        have := storage_calls d2 ts hs2 w (stg H)
        rw [b1, hst] at this
        exact this
      have hx : (decVo r1).err = 0 ∨ ((decVo r1).err != 0) = true := by
        by_cases h : (decVo r1).err = 0
        · exact .inl h
        · exact .inr (by simpa using h)
      rcases caVo_cases d2.hd d2.dn (ts.map verOf) (verOf d2.tg) with ez | ez
      · -- the downgrade goes on, if there is one
        have h7 := h3
        rw [ez] at h3 h7
        have v3 : Hid (∀ (w : World), Calls Tryd.prog 24 #[d2.val, vo0.val] w fun e w' => e = .returned d2.val ∧ Ext [] w w') := fun w => by
          have := voted_calls d2 vo0 rfl w
          rw [voted_vo0] at this
          exact this
        have h4 : Hid (∀ (w : World), St [] w w [(false, .arr at' (strs ts)), genv] → Calls Tryd.prog 11 #[d2.val] w fun e w' => e = .returned (decOf d2 ts).val ∧ Ext [] w w') := fun w H => decide_calls d2 ts hs2 w (by rw [c5]; exact H)
        have key : decOf d2 ts = vo0 ∨ ((decVo r1).err != 0) = true ∧ (decOf d2 ts).cl = ByteArray.empty := by
          show decVo (decM d2 (verOf d2.cl) (leastOf (ts.map verOf)) (verOf d2.tg)) = vo0 ∨ _ ∧ (decVo (decM d2 (verOf d2.cl) (leastOf (ts.map verOf)) (verOf d2.tg))).cl = _
          rw [c1, c2]
          cases hq : (d0.hd && d0.dn) with
          | false =>
            left
            rw [hr1, decM_plain2 d0 d2 _ _ _ _ hq (by rw [c3, c4]; exact hq)]
            rfl
          | true =>
            obtain ⟨q1, q2⟩ := (Bool.and_eq_true _ _).mp hq
            obtain ⟨t, ht⟩ := hs0.dn q1 q2
            have hc : ∃ c, verOf d0.cl = some c := by
              have := hit' (by rw [hd0] at q2; exact q2)
              rw [hd0]
              exact Option.isSome_iff_exists.1 this
            obtain ⟨c, hc⟩ := hc
            rw [hc, ht] at hr1
            rw [hc, ht, hr1]
            obtain ⟨k1, k2⟩ := decM_down2 d0 d2 c (leastOf (ts.map verOf)) t hq (by rw [c3, c4]; exact hq)
            cases hb : (decM d0 (some c) (leastOf (ts.map verOf)) (some t)).2 with
            | false =>
              left
              have k3 := k2 hb
              generalize decM d2 _ _ _ = r4 at *
              obtain ⟨x, b⟩ := r4
              simp only at k1 k3
              rw [k1, k3]
              rfl
            | true =>
              right
              constructor
              · rcases decM_end hs0.view with ⟨x, _, e⟩ | e | e
                · rw [hc, ht] at e; rw [e] at hb; cases hb
                · rw [hc, ht] at e; rw [e] at hb; cases hb
                · rw [hc, ht] at e; rw [e]; rfl
              · generalize decM d2 _ _ _ = r4 at *
                obtain ⟨x, b⟩ := r4
                simp only at k1
                rw [k1]
                cases b <;> rfl
        generalize decOf d2 ts = o4 at h4 key
        obtain ⟨cl1, st1, tg1, dn1, hd1', at1, n1, cap1⟩ := d1
        obtain ⟨cl2, st2, tg2, dn2, hd2', at2, n2, cap2⟩ := d2
        simp only at f5 f6 f7 c5 c6 c7
        subst f5 f6 f7
        subst c5 c6 c7
        subst hd0
        rcases key with key | ⟨key, key2⟩
        · rw [key] at h4
          rcases hx with hx | hx
          · exact settles_c _ _ _ _ _ _ _ _ _ _ _ _ _ _ _ _ _ _ _ _ _ _ _ ts _ _ _ _ _ _ _ _ _ _ _ _ _ _ _ _ _ _ _ _ _ _ _ hF hG _ hT hit' h1 v1 h2 v2 h3 v3 h4 hS2 h7 strEmpty hx rfl w H
          · exact settles_d _ _ _ _ _ _ _ _ _ _ _ _ _ _ _ _ _ _ _ _ _ _ _ ts _ _ _ _ _ _ _ _ _ _ _ _ _ _ _ _ _ _ _ _ _ _ _ hF hG _ hT hit' h1 v1 h2 v2 h3 v3 h4 hS2 h7 strEmpty hx w H
        · exact settles_d _ _ _ _ _ _ _ _ _ _ _ _ _ _ _ _ _ _ _ _ _ _ _ ts _ _ _ _ _ _ _ _ _ _ _ _ _ _ _ _ _ _ _ _ _ _ _ hF hG _ hT hit' h1 v1 h2 v2 h3 v3 h4 hS2 h7 (by rw [key2]; exact strEmpty) key w H
      · -- the downgrade is over
        rw [ez] at h3
        obtain ⟨d3, hd3⟩ : ∃ d3 : VD, d3 = ⟨d2.cl, d2.st, ByteArray.empty, false, true, d2.at', d2.n, d2.cap⟩ := ⟨_, rfl⟩
        have hs3 : Seen d3 ts := by
          rw [hd3]
          exact ⟨hs2.all, hs2.n, hs2.cl, hs2.st, fun _ h => (by cases h), hs2.len⟩
        have v3 : Hid (∀ (w : World), Calls Tryd.prog 24 #[d2.val, (⟨0, ByteArray.empty, ByteArray.empty, true, false, ByteArray.empty⟩ : Vo).val] w fun e w' => e = .returned d3.val ∧ Ext [] w w') := fun w => by
          have := voted_calls d2 ⟨0, ByteArray.empty, ByteArray.empty, true, false, ByteArray.empty⟩ rfl w
          have e : votedD d2 ⟨0, ByteArray.empty, ByteArray.empty, true, false, ByteArray.empty⟩ = d3 := by
            rw [hd3]
            simp [votedD, strEmpty]
          rw [e] at this
          exact this
        have g5 : d3.at' = at' := by rw [hd3]; exact c5
        have g6 : d3.n = n := by rw [hd3]; exact c6
        have g7 : d3.cap = cap := by rw [hd3]; exact c7
        have g1 : d3.cl = d2.cl := by rw [hd3]
        have g2 : d3.st = d2.st := by rw [hd3]
        have g3 : d3.dn = false := by rw [hd3]
        obtain ⟨r4, hr4⟩ : ∃ r4, r4 = decM d3 (verOf d3.cl) (leastOf (ts.map verOf)) (verOf d3.tg) := ⟨_, rfl⟩
        have hr4ok : ∀ x, r4.1 = some x → x.Ok := fun x hx => decM_ok hs3 (by rw [← hr4]; exact hx)
        have hs4 := hs3.voted_dec hr4ok
        have hcl4 := voted_cl d3 r4 hr4ok
        obtain ⟨i1, i2, i3, i4, i5, i6, i7⟩ := vdec_same d3 r4
        have h4 : Hid (∀ (w : World), St [] w w [(false, .arr at' (strs ts)), genv] → Calls Tryd.prog 11 #[d3.val] w fun e w' => e = .returned (decVo r4).val ∧ Ext [] w w') := fun w H => by
          have := decide_calls d3 ts hs3 w (by rw [g5]; exact H)
          rw [hr4]
          exact this
        have v4 : Hid (∀ (w : World), Calls Tryd.prog 24 #[d3.val, (decVo r4).val] w fun e w' => e = .returned (votedD d3 (decVo r4)).val ∧ Ext [] w w') := fun w => voted_calls d3 (decVo r4) (decVo_en r4) w
        have h5 : Hid (∀ (w : World), St [] w w [(false, .arr at' (strs ts)), genv] → Calls Tryd.prog 11 #[(votedD d3 (decVo r4)).val] w fun e w' => e = .returned vo0.val ∧ Ext [] w w') := fun w H => by
          have := decide_calls (votedD d3 (decVo r4)) ts hs4 w (by rw [i5, g5]; exact H)
          have e : decOf (votedD d3 (decVo r4)) ts = vo0 := by
            show decVo (decM _ (verOf (votedD d3 (decVo r4)).cl) (leastOf (ts.map verOf)) _) = vo0
            rw [hcl4, hr4, decM_plain2 d3 _ _ _ _ _ (by rw [g3, Bool.and_false]) (by rw [← hr4, i3, g3, Bool.and_false])]
            rfl
          rw [e] at this
          exact this
        have h6 : Hid (∀ (w : World), St [] w w [(false, .arr at' (strs ts)), genv] → Calls Tryd.prog 25 #[d3.val] w fun e w' => e = .returned vo0.val ∧ Ext [] w w') := fun w H => by
          have := storage_calls d3 ts hs3 w (stg H)
          rw [g1, g2, b1, hst] at this
          exact this
        have h7 : Hid (∀ (w : World), St [] w w [(false, .arr at' (strs ts)), genv] → Calls Tryd.prog 22 #[d3.val] w fun e w' => e = .returned vo0.val ∧ Ext [] w w') := fun w H => by
          have := cancel_calls d3 ts hs3 w (by rw [g5]; exact H)
          rw [caVo_off _ _ _ _ (by rw [g3, Bool.and_false])] at this
          exact this
        obtain ⟨d4, hd4⟩ : ∃ d4, d4 = votedD d3 (decVo r4) := ⟨_, rfl⟩
        rw [← hd4] at h5 v4 i5 i6 i7
        clear hd3 hd4 hs3 hs4 hcl4 hr4 hr4ok i1 i2 i3 i4 g1 g2 g3
        clear b1 b2 b3 b4 hst hs2 hs1 c1 c2 c3 c4 a1 a2 a3 a4 hcl1 hr1ok hr1 ez hd1 hd2 hs0 hS2 e5 e6 e7 a5 a6 a7
        rw [g5] at i5
        rw [g6] at i6
        rw [g7] at i7
        generalize decVo r4 = o4 at *
        generalize decVo r1 = o1 at *
        obtain ⟨cl1, st1, tg1, dn1, hd1', at1, n1, cap1⟩ := d1
        obtain ⟨cl2, st2, tg2, dn2, hd2', at2, n2, cap2⟩ := d2
        obtain ⟨cl3, st3, tg3, dn3, hd3', at3, n3, cap3⟩ := d3
        obtain ⟨cl4, st4, tg4, dn4, hd4', at4, n4, cap4⟩ := d4
        simp only at f5 f6 f7 c5 c6 c7 g5 g6 g7 i5 i6 i7
        subst f5 f6 f7
        subst c5 c6 c7
        subst g5 g6 g7
        subst i5 i6 i7
        subst hd0
        rcases hx with hx | hx
        · exact settles_a _ _ _ _ _ _ _ _ _ _ _ _ _ _ _ _ _ _ _ _ _ _ _ _ _ _ _ _ ts _ _ _ _ _ _ _ _ _ _ _ _ _ _ _ _ _ _ _ _ _ _ _ _ _ _ _ _ _ hF hG _ hT hit' h1 v1 h2 v2 h3 v3 h4 v4 h5 h6 h7 strEmpty hx w H
        · exact settles_b _ _ _ _ _ _ _ _ _ _ _ _ _ _ _ _ _ _ _ _ _ _ _ _ _ _ _ _ ts _ _ _ _ _ _ _ _ _ _ _ _ _ _ _ _ _ _ _ _ _ _ _ _ _ _ _ _ _ hF hG _ hT hit' h1 v1 h2 v2 h3 v3 h4 v4 h5 h6 h7 strEmpty hx w H
  · have hG : Hid (∀ (w : World), Hid (Fits ⟨cl, st, tg, dn, hd, at', n, cap⟩ ts) → St [] w w [(false, .arr at' (strs ts))] → Calls Tryd.prog 10 #[.agg #[.string cl, .string st, .string tg, .bool dn, .bool hd, .slice at' n cap]] w fun e w' => e = .returned (.bool false) ∧ Ext [] w w') := fun w hf H => (verGood_calls ⟨cl, st, tg, dn, hd, at', n, cap⟩ ts hn hf w H).mono (fun e w' h => by
      obtain ⟨b, h1, h2, h3⟩ := h
      cases b with
      | false => exact ⟨h1, h2⟩
      | true => exact absurd (h3.out rfl) hg)
    exact settles_no cl st tg dn hd at' n cap ts hF hG w H
end Go.Proofs.YtdcijhdjddiboaaDoor
