import Derived.Test.YtdcijhdjddiboaaDoorVerS
-- MORE
namespace Go.Proofs.YtdcijhdjddiboaaDoor
set_option linter.unusedVariables false
set_option linter.unusedSimpArgs false
set_option linter.unnecessarySimpa false
open Go.RowKit Go.V

/-- What a monitor makes of what it sees: the version, if any; whether it complains. -/
def decM (d : VD) (cv mn tv : Option Vr) : Option Vr × Bool := match cv, mn with
  | none, some y => (some y, false)
  | none, none => (some ⟨3, 0, 0⟩, false)
  | some _, none => (none, false)
  | some c, some y => if d.hd && d.dn then (match tv with
      | none => (none, false)
      | some t => if veq t c then (none, false) else if vdown c t && vdown y t then (some t, false) else (none, true))
    else if vless c y && vchange c y then (some y, false) else (none, false)
/-- What is seen, as numbers. -/
structure View (d : VD) (ts : List ByteArray) (os : List (Option Vr)) (cv sv tv mn : Option Vr) : Prop where
  mem : Mem d ts os
  cl : VOpt d.cl cv
  st : VOpt d.st sv
  tg : d.hd = true → d.dn = true → ∃ t, tv = some t ∧ VText d.tg t
  mn : match mn with | some y => IsMin os y ∧ y.Ok | none => NoMin os
theorem decM_cases {d : VD} {ts : List ByteArray} {os : List (Option Vr)} {cv sv tv mn : Option Vr} (hv : View d ts os cv sv tv mn) (p g : Nat) (o : Vo) (w : World) (H : St [] w w (ments p g d o ts)) :
    (∃ x, decM d cv mn tv = (some x, false) ∧ x.Ok ∧ Calls Tryd.prog 47 #[.pointer (some ⟨p, 0, none⟩)] w fun e w' => ∃ q, e = .returned (.tuple #[.pointer (some ⟨q, 0, none⟩), .nilIface]) ∧ St [] w w' [(true, .is q (x.obj 62))]) ∨
    (decM d cv mn tv = (none, false) ∧ Calls Tryd.prog 47 #[.pointer (some ⟨p, 0, none⟩)] w fun e w' => e = .returned (.tuple #[.pointer none, .nilIface]) ∧ Ext [] w w') ∨
    (decM d cv mn tv = (none, true) ∧ Calls Tryd.prog 47 #[.pointer (some ⟨p, 0, none⟩)] w fun e w' => e = .returned (.tuple #[.pointer none, .iface 75 (.string badTarget)]) ∧ Ext [] w w') := by
  obtain ⟨hm, hc, hs, ht, hn⟩ := hv
  cases cv with
  | none =>
    cases mn with
    | none => exact .inl ⟨_, rfl, ⟨by decide, by decide, by decide⟩, dec_a2 p g d o ts os hm (Lib.hid hc) (Lib.hid hn) w H⟩
    | some y => exact .inl ⟨_, rfl, hn.2, dec_a1 p g d o ts os hm (Lib.hid hc) y (Lib.hid hn.1) w H⟩
  | some c =>
    cases mn with
    | none => exact .inr (.inl ⟨rfl, dec_b0 p g d o ts os hm c (Lib.hid hc) (Lib.hid hn) w H⟩)
    | some y =>
      obtain ⟨hn, hyo⟩ := hn
      have plain : (d.hd && d.dn) = false → decM d (some c) (some y) tv = if vless c y && vchange c y then (some y, false) else (none, false) := fun h => by
        show (if d.hd && d.dn then _ else _) = _
        rw [h]
        rfl
      cases hhd : d.hd with
      | false =>
        rw [plain (by rw [hhd]; rfl)]
        cases hl : vless c y with
        | false => exact .inr (.inl ⟨rfl, dec_b100 p g d o ts os hm c (Lib.hid hc) y (Lib.hid hn) hhd (Lib.hid hl) w H⟩)
        | true =>
          cases hch : vchange c y with
          | false => exact .inr (.inl ⟨rfl, dec_b101 p g d o ts os hm c (Lib.hid hc) y (Lib.hid hn) hhd (Lib.hid hl) (Lib.hid hch) w H⟩)
          | true => exact .inl ⟨_, rfl, hyo, dec_b102 p g d o ts os hm c (Lib.hid hc) y (Lib.hid hn) hhd (Lib.hid hl) (Lib.hid hch) w H⟩
      | true =>
        cases hdn : d.dn with
        | false =>
          rw [plain (by rw [hhd, hdn]; rfl)]
          cases hl : vless c y with
          | false => exact .inr (.inl ⟨rfl, dec_b110 p g d o ts os hm c (Lib.hid hc) y (Lib.hid hn) hhd hdn (Lib.hid hl) w H⟩)
          | true =>
            cases hch : vchange c y with
            | false => exact .inr (.inl ⟨rfl, dec_b111 p g d o ts os hm c (Lib.hid hc) y (Lib.hid hn) hhd hdn (Lib.hid hl) (Lib.hid hch) w H⟩)
            | true => exact .inl ⟨_, rfl, hyo, dec_b112 p g d o ts os hm c (Lib.hid hc) y (Lib.hid hn) hhd hdn (Lib.hid hl) (Lib.hid hch) w H⟩
        | true =>
          obtain ⟨t, rfl, ht2⟩ := ht hhd hdn
          have full : decM d (some c) (some y) (some t) = if veq t c then (none, false) else if vdown c t && vdown y t then (some t, false) else (none, true) := by
            show (if d.hd && d.dn then _ else _) = _
            rw [hhd, hdn]
            rfl
          rw [full]
          cases heq : veq t c with
          | true => exact .inr (.inl ⟨rfl, dec_b20 p g d o ts os hm c (Lib.hid hc) y (Lib.hid hn) hhd hdn t (Lib.hid ht2) (Lib.hid heq) w H⟩)
          | false =>
            cases h1 : vdown c t with
            | false => exact .inr (.inr ⟨rfl, dec_b21 p g d o ts os hm c (Lib.hid hc) y (Lib.hid hn) hhd hdn t (Lib.hid ht2) (Lib.hid heq) (Lib.hid h1) w H⟩)
            | true =>
              cases h2 : vdown y t with
              | false => exact .inr (.inr ⟨rfl, dec_b22 p g d o ts os hm c (Lib.hid hc) y (Lib.hid hn) hhd hdn t (Lib.hid ht2) (Lib.hid heq) (Lib.hid h1) (Lib.hid h2) (Lib.hid hyo.b) w H⟩)
              | true => exact .inl ⟨_, rfl, ht2.1, dec_b23 p g d o ts os hm c (Lib.hid hc) y (Lib.hid hn) hhd hdn t (Lib.hid ht2) (Lib.hid heq) (Lib.hid h1) (Lib.hid h2) (Lib.hid hyo.b) w H⟩
/-- The decision, told as a contract for each of its three ends. -/
theorem dec_some {d : VD} {ts : List ByteArray} {os : List (Option Vr)} {cv sv tv mn : Option Vr} (hv : View d ts os cv sv tv mn) {x : Vr} (hx : decM d cv mn tv = (some x, false)) (p g : Nat) (o : Vo) (w : World) (H : St [] w w (ments p g d o ts)) :
    Calls Tryd.prog 47 #[.pointer (some ⟨p, 0, none⟩)] w fun e w' => ∃ q, e = .returned (.tuple #[.pointer (some ⟨q, 0, none⟩), .nilIface]) ∧ St [] w w' [(true, .is q (x.obj 62))] := by
  rcases decM_cases hv p g o w H with ⟨z, h1, _, h3⟩ | ⟨h1, _⟩ | ⟨h1, _⟩
  · rw [hx] at h1
    cases h1
    exact h3
  · rw [hx] at h1; cases h1
  · rw [hx] at h1; cases h1
theorem dec_none {d : VD} {ts : List ByteArray} {os : List (Option Vr)} {cv sv tv mn : Option Vr} (hv : View d ts os cv sv tv mn) (hx : decM d cv mn tv = (none, false)) (p g : Nat) (o : Vo) (w : World) (H : St [] w w (ments p g d o ts)) :
    Calls Tryd.prog 47 #[.pointer (some ⟨p, 0, none⟩)] w fun e w' => e = .returned (.tuple #[.pointer none, .nilIface]) ∧ Ext [] w w' := by
  rcases decM_cases hv p g o w H with ⟨z, h1, _, h3⟩ | ⟨h1, h2⟩ | ⟨h1, _⟩
  · rw [hx] at h1; cases h1
  · exact h2
  · rw [hx] at h1; cases h1
theorem dec_err {d : VD} {ts : List ByteArray} {os : List (Option Vr)} {cv sv tv mn : Option Vr} (hv : View d ts os cv sv tv mn) (hx : decM d cv mn tv = (none, true)) (p g : Nat) (o : Vo) (w : World) (H : St [] w w (ments p g d o ts)) :
    Calls Tryd.prog 47 #[.pointer (some ⟨p, 0, none⟩)] w fun e w' => e = .returned (.tuple #[.pointer none, .iface 75 (.string badTarget)]) ∧ Ext [] w w' := by
  rcases decM_cases hv p g o w H with ⟨z, h1, _, h3⟩ | ⟨h1, h2⟩ | ⟨h1, h2⟩
  · rw [hx] at h1; cases h1
  · rw [hx] at h1; cases h1
  · exact h2
theorem decM_end {d : VD} {ts : List ByteArray} {os : List (Option Vr)} {cv sv tv mn : Option Vr} (hv : View d ts os cv sv tv mn) :
    (∃ x : Vr, x.Ok ∧ decM d cv mn tv = (some x, false)) ∨ decM d cv mn tv = (none, false) ∨ decM d cv mn tv = (none, true) := by
  obtain ⟨hm, hc, hs, ht, hn⟩ := hv
  cases cv with
  | none =>
    cases mn with
    | none => exact .inl ⟨_, ⟨by decide, by decide, by decide⟩, rfl⟩
    | some y => exact .inl ⟨_, hn.2, rfl⟩
  | some c =>
    cases mn with
    | none => exact .inr (.inl rfl)
    | some y =>
      cases hhd : (d.hd && d.dn) with
      | false =>
        have e : decM d (some c) (some y) tv = if vless c y && vchange c y then (some y, false) else (none, false) := by
          show (if d.hd && d.dn then _ else _) = _
          rw [hhd]
          rfl
        rw [e]
        cases vless c y && vchange c y
        · exact .inr (.inl rfl)
        · exact .inl ⟨_, hn.2, rfl⟩
      | true =>
        simp only [Bool.and_eq_true] at hhd
        obtain ⟨t, rfl, ht2⟩ := ht hhd.1 hhd.2
        have e : decM d (some c) (some y) (some t) = if veq t c then (none, false) else if vdown c t && vdown y t then (some t, false) else (none, true) := by
          show (if d.hd && d.dn then _ else _) = _
          rw [hhd.1, hhd.2]
          rfl
        rw [e]
        cases veq t c
        · cases vdown c t && vdown y t
          · exact .inr (.inr rfl)
          · exact .inl ⟨_, ht2.1, rfl⟩
        · exact .inr (.inl rfl)
/-- What may be written. -/
abbrev mentsW (p g : Nat) (d : VD) (o : Vo) (ts : List ByteArray) : List Ent := [(false, .is p (mon g)), (true, .is g (guard d o)), (false, .arr d.at' (strs ts)), genv]
set_option maxRecDepth 8000 in
theorem updCl_some {d : VD} {ts : List ByteArray} {os : List (Option Vr)} {cv sv tv mn : Option Vr} (hv : View d ts os cv sv tv mn) {x : Vr} (hx : Hid (decM d cv mn tv = (some x, false))) (hxo : x.Ok) (p g : Nat) (o : Vo) (S : List Nat) (w : World) (H : St S w w (mentsW p g d o ts)) :
    Calls Tryd.prog 33 #[.pointer (some ⟨p, 0, none⟩)] w fun e w' => e = .returned .nilIface ∧ St S w w' [(true, .is g (guard d { o with cl := vstr ⟨x.a, x.b, 0⟩ }))] := by
  have hmeUpdateClusterVersion : ∀ (w : World), (method 256 45 (.pointer (some ⟨g, 0, none⟩)) "UpdateClusterVersion").run Tryd.prog w = .ok (109, .pointer (some ⟨g, 0, none⟩)) w := fun w => by kernel_rfl
  have hnaUpdateClusterVersion : ∀ (w : World), (nilAhead 256 45 (.pointer (some ⟨g, 0, none⟩)) "UpdateClusterVersion").run Tryd.prog w = .ok (some false) w := fun w => by kernel_rfl
  have hv' := Lib.hid hv
  clear hv
  have hok : Hid ((⟨x.a, x.b, 0⟩ : Vr).Ok) := ⟨hxo.a, hxo.b, (by show (0 : Int) ≤ 0 ∧ (0 : Int) ≤ 9999; omega)⟩
  clear hxo
  obtain ⟨x1, x2, x3⟩ := x
  have hc := H.cells; simp only [CellsOf, KnCells, knc, Nat.reduceAdd] at hc
  go_enter Tryd.func33, Tryd.ntmps33
  go_wp2_with (first
    | go_skip
    | ((first
        | (go_at_call 47; refine Calls.mono (dec_some hv'.out hx.out _ _ _ _ (H.pick (by repeat (first | exact Picks.nil _ | (apply Picks.wr; focus (repeat (first | exact Split.here _ _ | apply Split.there))) | (apply Picks.rd; focus (repeat (first | exact Split.here _ _ | apply Split.there))))))) ?_; rintro e w' ⟨q, rfl, H'⟩; replace H := H.merge (by first | exact Strikes.nil _ | (repeat (first | exact Strikes.nil _ | (apply Strikes.cons; focus (repeat (first | exact Split.here _ _ | apply Split.there)))))) H' rfl; clear H')
        | (refine loud_ rfl ?_; refine wpList_plain rfl (fun K hK => ?_); (first | (refine op_box _ _ rfl H (fun b w' H1 => hK _ _ ?_)) | (refine op_alloc _ rfl (zero_of _ _ rfl) H (fun b w' H1 => hK _ _ ?_)) | (refine op_store _ _ _ rfl rfl rfl H (by repeat (first | exact Split.here _ _ | apply Split.there)) (by kernel_rfl) (by kernel_rfl) (by kernel_rfl) (fun w' H1 => hK _ _ ?_)) | (refine op_buildSlice_all _ _ _ rfl (by first | exact elem22 | exact elem39 | exact elem76 | exact elem154) (by kernel_rfl) (by kernel_rfl) (by kernel_rfl) H (fun b w' H1 => hK _ _ ?_))); clear hK K; replace H := H1; clear H1)); (try clear hc); (try simp only [nrm, splice, Value.cells, Nat.reduceAdd, Act.eval, Act.put] at H); have hc := H.cells; simp only [CellsOf, KnCells, knc, Nat.reduceAdd] at hc))
  (try simp only [Act.put, slt])
  refine wp_region_plan (.p [0, 1, 2] (.q [3] (.p [4, 5, 6] (.q [7] (.p [8] (.e 9 (.p [10] .done))))))) [9] (by kernel_rfl) (by kernel_rfl) (fun _ _ d _ _ h => by cases d <;> exact h) H ?_
  clear H
  (try clear hc)
  intro X nX fX wd hcf hS H
  simp only [CellsOf, KnCells, knc, Nat.reduceAdd] at hcf
  have hc := H.cells
  simp only [CellsOf, KnCells, knc, Nat.reduceAdd] at hc
  iterate 3 (refine plan_p (o := ⟨_, _, _, _, _, _⟩) rfl (fun N hN => ?_); go_big_quiet_step (fail); refine wpQuiet_nil (hN _ ?_); clear hN N)
  refine plan_p0 ?_
  iterate 1 (refine plan_q (o := ⟨_, _, _, _, _, _⟩) rfl (fun N hN => ?_); go_big_quiet_step (fail); refine wpQuiet_nil (hN _ ?_); clear hN N)
  refine plan_q0 ?_
  iterate 3 (refine plan_p (o := ⟨_, _, _, _, _, _⟩) rfl (fun N hN => ?_); go_big_quiet_step (fail); refine wpQuiet_nil (hN _ ?_); clear hN N)
  refine plan_p0 ?_
  iterate 1 (refine plan_q (o := ⟨_, _, _, _, _, _⟩) rfl (fun N hN => ?_); go_big_quiet_step (fail); refine wpQuiet_nil (hN _ ?_); clear hN N)
  refine plan_q0 ?_
  iterate 1 (refine plan_p (o := ⟨_, _, _, _, _, _⟩) rfl (fun N hN => ?_); go_big_quiet_step (fail); refine wpQuiet_nil (hN _ ?_); clear hN N)
  refine plan_p0 ?_
  refine plan_e (o := ⟨_, _, _, _, _, _⟩) rfl rfl (fun K hK => ?_)
  (first | (refine op_box _ _ rfl H (fun b w' H1 => ?_); replace H := H1; clear H1) | (refine op_alloc _ rfl (zero_of _ _ rfl) H (fun b w' H1 => ?_); replace H := H1; clear H1) | (refine op_store _ _ _ rfl rfl rfl H (by repeat (first | exact Split.here _ _ | apply Split.there)) (by kernel_rfl) (by kernel_rfl) (by kernel_rfl) (fun w' H1 => ?_); replace H := H1; clear H1) | (refine op_buildSlice_all _ _ _ rfl (by first | exact elem22 | exact elem39 | exact elem76 | exact elem154) (by kernel_rfl) (by kernel_rfl) (by kernel_rfl) H (fun b w' H1 => ?_); replace H := H1; clear H1)); (try clear hc); (try simp only [nrm, splice, Value.cells, Nat.reduceAdd, Act.eval, Act.put] at H); have hc := H.cells; simp only [CellsOf, KnCells, knc, Nat.reduceAdd] at hc; refine hK _ _ (fun h => (h (by decide)).elim) ?_; clear hK K; (try simp only [Act.put, slt])
  iterate 1 (refine plan_p (o := ⟨_, _, _, _, _, _⟩) rfl (fun N hN => ?_); go_big_quiet_step (fail); refine wpQuiet_nil (hN _ ?_); clear hN N)
  refine plan_p0 ?_
  refine plan_done ?_
  go_wp2_with (first
    | ((first
        | (refine loud_ rfl ?_; refine wpList_plain rfl (fun K hK => ?_); (first | (refine op_box _ _ rfl H (fun b w' H1 => hK _ _ ?_)) | (refine op_alloc _ rfl (zero_of _ _ rfl) H (fun b w' H1 => hK _ _ ?_)) | (refine op_store _ _ _ rfl rfl rfl H (by repeat (first | exact Split.here _ _ | apply Split.there)) (by kernel_rfl) (by kernel_rfl) (by kernel_rfl) (fun w' H1 => hK _ _ ?_)) | (refine op_buildSlice_all _ _ _ rfl (by first | exact elem22 | exact elem39 | exact elem76 | exact elem154) (by kernel_rfl) (by kernel_rfl) (by kernel_rfl) H (fun b w' H1 => hK _ _ ?_))); clear hK K; replace H := H1; clear H1)); (try clear hc); (try simp only [nrm, splice, Value.cells, Nat.reduceAdd, Act.eval, Act.put] at H); have hc := H.cells; simp only [CellsOf, KnCells, knc, Nat.reduceAdd] at hc))
  (try simp only [Act.put, slt])
  refine wp_region_plan (.p [0, 1, 2] (.q [3] (.p [4, 5] (.q [6] (.p [8, 9] (.e 7 (.e 10 .done))))))) [10] (by kernel_rfl) (by kernel_rfl) (fun _ _ d _ _ h => by cases d <;> exact h) H ?_
  clear H
  (try clear hc)
  intro X nX fX wd hcf hS H
  simp only [CellsOf, KnCells, knc, Nat.reduceAdd] at hcf
  have hc := H.cells
  simp only [CellsOf, KnCells, knc, Nat.reduceAdd] at hc
  iterate 3 (refine plan_p (o := ⟨_, _, _, _, _, _⟩) rfl (fun N hN => ?_); go_big_quiet_step (fail); refine wpQuiet_nil (hN _ ?_); clear hN N)
  refine plan_p0 ?_
  iterate 1 (refine plan_q (o := ⟨_, _, _, _, _, _⟩) rfl (fun N hN => ?_); go_big_quiet_step (fail); refine wpQuiet_nil (hN _ ?_); clear hN N)
  refine plan_q0 ?_
  iterate 2 (refine plan_p (o := ⟨_, _, _, _, _, _⟩) rfl (fun N hN => ?_); go_big_quiet_step (fail); refine wpQuiet_nil (hN _ ?_); clear hN N)
  refine plan_p0 ?_
  iterate 1 (refine plan_q (o := ⟨_, _, _, _, _, _⟩) rfl (fun N hN => ?_); go_big_quiet_step (fail); refine wpQuiet_nil (hN _ ?_); clear hN N)
  refine plan_q0 ?_
  iterate 2 (refine plan_p (o := ⟨_, _, _, _, _, _⟩) rfl (fun N hN => ?_); go_big_quiet_step (fail); refine wpQuiet_nil (hN _ ?_); clear hN N)
  refine plan_p0 ?_
  refine plan_e (o := ⟨_, _, _, _, _, _⟩) rfl rfl (fun K hK => ?_)
  (first | (go_step; refine Calls.mono (string_calls ⟨x1, x2, 0⟩ hok.out _ (H.rep (R := GEnv) (by repeat (first | exact Split.here _ _ | apply Split.there))).1) ?_; rintro e w' ⟨rfl, H'⟩; replace H := H.of_ext H'; clear H') | (go_step; refine Calls.mono (gUpdCl g d o _ _ _ (H.pick (by repeat (first | exact Picks.nil _ | (apply Picks.wr; focus (repeat (first | exact Split.here _ _ | apply Split.there))) | (apply Picks.rd; focus (repeat (first | exact Split.here _ _ | apply Split.there))))))) ?_; rintro e w' ⟨rfl, H'⟩; replace H := H.merge (by first | exact Strikes.nil _ | (repeat (first | exact Strikes.nil _ | (apply Strikes.cons; focus (repeat (first | exact Split.here _ _ | apply Split.there)))))) H' rfl; clear H') | (refine op_box _ _ rfl H (fun b w' H1 => ?_); replace H := H1; clear H1) | (refine op_alloc _ rfl (zero_of _ _ rfl) H (fun b w' H1 => ?_); replace H := H1; clear H1) | (refine op_store _ _ _ rfl rfl rfl H (by repeat (first | exact Split.here _ _ | apply Split.there)) (by kernel_rfl) (by kernel_rfl) (by kernel_rfl) (fun w' H1 => ?_); replace H := H1; clear H1) | (refine op_buildSlice_all _ _ _ rfl (by first | exact elem22 | exact elem39 | exact elem76 | exact elem154) (by kernel_rfl) (by kernel_rfl) (by kernel_rfl) H (fun b w' H1 => ?_); replace H := H1; clear H1)); (try clear hc); (try simp only [nrm, splice, Value.cells, Nat.reduceAdd, Act.eval, Act.put] at H); have hc := H.cells; simp only [CellsOf, KnCells, knc, Nat.reduceAdd] at hc; refine hK _ _ (fun _ _ => hS _ (H.sublist (by repeat (first | exact List.Sublist.refl _ | apply List.Sublist.cons))).all) ?_; clear hK K; (try simp only [Act.put, slt])
  refine plan_e (o := ⟨_, _, _, _, _, _⟩) rfl rfl (fun K hK => ?_)
  (first | (go_step; refine Calls.mono (string_calls ⟨x1, x2, 0⟩ hok.out _ (H.rep (R := GEnv) (by repeat (first | exact Split.here _ _ | apply Split.there))).1) ?_; rintro e w' ⟨rfl, H'⟩; replace H := H.of_ext H'; clear H') | (go_step; refine Calls.mono (gUpdCl g d o _ _ _ (H.pick (by repeat (first | exact Picks.nil _ | (apply Picks.wr; focus (repeat (first | exact Split.here _ _ | apply Split.there))) | (apply Picks.rd; focus (repeat (first | exact Split.here _ _ | apply Split.there))))))) ?_; rintro e w' ⟨rfl, H'⟩; replace H := H.merge (by first | exact Strikes.nil _ | (repeat (first | exact Strikes.nil _ | (apply Strikes.cons; focus (repeat (first | exact Split.here _ _ | apply Split.there)))))) H' rfl; clear H') | (refine op_box _ _ rfl H (fun b w' H1 => ?_); replace H := H1; clear H1) | (refine op_alloc _ rfl (zero_of _ _ rfl) H (fun b w' H1 => ?_); replace H := H1; clear H1) | (refine op_store _ _ _ rfl rfl rfl H (by repeat (first | exact Split.here _ _ | apply Split.there)) (by kernel_rfl) (by kernel_rfl) (by kernel_rfl) (fun w' H1 => ?_); replace H := H1; clear H1) | (refine op_buildSlice_all _ _ _ rfl (by first | exact elem22 | exact elem39 | exact elem76 | exact elem154) (by kernel_rfl) (by kernel_rfl) (by kernel_rfl) H (fun b w' H1 => ?_); replace H := H1; clear H1)); (try clear hc); (try simp only [nrm, splice, Value.cells, Nat.reduceAdd, Act.eval, Act.put] at H); have hc := H.cells; simp only [CellsOf, KnCells, knc, Nat.reduceAdd] at hc; refine hK _ _ (fun h => (h (by decide)).elim) ?_; clear hK K; (try simp only [Act.put, slt])
  refine plan_done ?_
  repeat' (first | (go_big_may; (first
    | ((first
        | (refine loud_ rfl ?_; refine wpList_plain rfl (fun K hK => ?_); (first | (refine op_box _ _ rfl H (fun b w' H1 => hK _ _ ?_)) | (refine op_alloc _ rfl (zero_of _ _ rfl) H (fun b w' H1 => hK _ _ ?_)) | (refine op_store _ _ _ rfl rfl rfl H (by repeat (first | exact Split.here _ _ | apply Split.there)) (by kernel_rfl) (by kernel_rfl) (by kernel_rfl) (fun w' H1 => hK _ _ ?_)) | (refine op_buildSlice_all _ _ _ rfl (by first | exact elem22 | exact elem39 | exact elem76 | exact elem154) (by kernel_rfl) (by kernel_rfl) (by kernel_rfl) H (fun b w' H1 => hK _ _ ?_))); clear hK K; replace H := H1; clear H1)); (try clear hc); (try simp only [nrm, splice, Value.cells, Nat.reduceAdd, Act.eval, Act.put] at H); have hc := H.cells; simp only [CellsOf, KnCells, knc, Nat.reduceAdd] at hc))) | go_values | go_skip | go_guarded | go_step | go_upon | go_back | dsimp only)
  go_ret
  exact ⟨rfl, H.sel (by repeat (first | exact Sel.nil _ | (apply Sel.cons; focus (repeat (first | exact Split.here _ _ | apply Split.there)))))⟩
set_option maxRecDepth 8000 in
theorem updCl_none {d : VD} {ts : List ByteArray} {os : List (Option Vr)} {cv sv tv mn : Option Vr} (hv : View d ts os cv sv tv mn) (hx : Hid (decM d cv mn tv = (none, false))) (p g : Nat) (o : Vo) (S : List Nat) (w : World) (H : St S w w (mentsW p g d o ts)) :
    Calls Tryd.prog 33 #[.pointer (some ⟨p, 0, none⟩)] w fun e w' => e = .returned .nilIface ∧ St S w w' [(true, .is g (guard d o))] := by
  have hv' := Lib.hid hv
  clear hv
  have hc := H.cells; simp only [CellsOf, KnCells, knc, Nat.reduceAdd] at hc
  go_enter Tryd.func33, Tryd.ntmps33
  go_wp2_with (first
    | go_skip
    | ((first
        | (go_at_call 47; refine Calls.mono (dec_none hv'.out hx.out _ _ _ _ (H.pick (by repeat (first | exact Picks.nil _ | (apply Picks.wr; focus (repeat (first | exact Split.here _ _ | apply Split.there))) | (apply Picks.rd; focus (repeat (first | exact Split.here _ _ | apply Split.there))))))) ?_; rintro e w' ⟨rfl, H'⟩; replace H := H.of_ext H'; clear H')
        | (refine loud_ rfl ?_; refine wpList_plain rfl (fun K hK => ?_); (first | (refine op_box _ _ rfl H (fun b w' H1 => hK _ _ ?_)) | (refine op_alloc _ rfl (zero_of _ _ rfl) H (fun b w' H1 => hK _ _ ?_)) | (refine op_store _ _ _ rfl rfl rfl H (by repeat (first | exact Split.here _ _ | apply Split.there)) (by kernel_rfl) (by kernel_rfl) (by kernel_rfl) (fun w' H1 => hK _ _ ?_)) | (refine op_buildSlice_all _ _ _ rfl (by first | exact elem22 | exact elem39 | exact elem76 | exact elem154) (by kernel_rfl) (by kernel_rfl) (by kernel_rfl) H (fun b w' H1 => hK _ _ ?_))); clear hK K; replace H := H1; clear H1)); (try clear hc); (try simp only [nrm, splice, Value.cells, Nat.reduceAdd, Act.eval, Act.put] at H); have hc := H.cells; simp only [CellsOf, KnCells, knc, Nat.reduceAdd] at hc))
  go_ret
  exact ⟨rfl, H.sel (by repeat (first | exact Sel.nil _ | (apply Sel.cons; focus (repeat (first | exact Split.here _ _ | apply Split.there)))))⟩
set_option maxRecDepth 8000 in
theorem updCl_err {d : VD} {ts : List ByteArray} {os : List (Option Vr)} {cv sv tv mn : Option Vr} (hv : View d ts os cv sv tv mn) (hx : Hid (decM d cv mn tv = (none, true))) (p g : Nat) (o : Vo) (S : List Nat) (w : World) (H : St S w w (mentsW p g d o ts)) :
    Calls Tryd.prog 33 #[.pointer (some ⟨p, 0, none⟩)] w fun e w' => e = .returned (.iface 75 (.string badTarget)) ∧ St S w w' [(true, .is g (guard d o))] := by
  have hv' := Lib.hid hv
  clear hv
  have hc := H.cells; simp only [CellsOf, KnCells, knc, Nat.reduceAdd] at hc
  go_enter Tryd.func33, Tryd.ntmps33
  go_wp2_with (first
    | go_skip
    | ((first
        | (go_at_call 47; refine Calls.mono (dec_err hv'.out hx.out _ _ _ _ (H.pick (by repeat (first | exact Picks.nil _ | (apply Picks.wr; focus (repeat (first | exact Split.here _ _ | apply Split.there))) | (apply Picks.rd; focus (repeat (first | exact Split.here _ _ | apply Split.there))))))) ?_; rintro e w' ⟨rfl, H'⟩; replace H := H.of_ext H'; clear H')
        | (refine loud_ rfl ?_; refine wpList_plain rfl (fun K hK => ?_); (first | (refine op_box _ _ rfl H (fun b w' H1 => hK _ _ ?_)) | (refine op_alloc _ rfl (zero_of _ _ rfl) H (fun b w' H1 => hK _ _ ?_)) | (refine op_store _ _ _ rfl rfl rfl H (by repeat (first | exact Split.here _ _ | apply Split.there)) (by kernel_rfl) (by kernel_rfl) (by kernel_rfl) (fun w' H1 => hK _ _ ?_)) | (refine op_buildSlice_all _ _ _ rfl (by first | exact elem22 | exact elem39 | exact elem76 | exact elem154) (by kernel_rfl) (by kernel_rfl) (by kernel_rfl) H (fun b w' H1 => hK _ _ ?_))); clear hK K; replace H := H1; clear H1)); (try clear hc); (try simp only [nrm, splice, Value.cells, Nat.reduceAdd, Act.eval, Act.put] at H); have hc := H.cells; simp only [CellsOf, KnCells, knc, Nat.reduceAdd] at hc))
  go_ret
  exact ⟨rfl, H.sel (by repeat (first | exact Sel.nil _ | (apply Sel.cons; focus (repeat (first | exact Split.here _ _ | apply Split.there)))))⟩
end Go.Proofs.YtdcijhdjddiboaaDoor
