import Derived.Test.YtdcijhdjddiboaaDoorVerO
import Derived.Test.YtdcijhdjddiboaaDoorVerYb
import Derived.Test.YtdcijhdjddiboaaDoorVerYd
namespace Go.Proofs.YtdcijhdjddiboaaDoor
set_option linter.unusedVariables false
set_option linter.unusedSimpArgs false
set_option linter.unnecessarySimpa false
open Go.RowKit Go.V

theorem vless_self (x : Vr) : vless x x = false := by
  rw [vless_no]
  omega
theorem vless_swap {x y z : Vr} (h1 : vless x y = true) (h2 : vless x z = false) : vless y z = false := by
  rw [vless_iff] at h1
  rw [vless_no] at h2 ⊢
  omega
theorem vless_trans' {x y z : Vr} (h1 : vless y x = false) (h2 : vless x z = false) : vless y z = false := by
  rw [vless_no] at h1 h2 ⊢
  omega
theorem lmin_some {m y : Vr} {r : List (Option Vr)} (h : lmin m r = some y) : (∀ i, i < r.length → ∃ z, r[i]? = some (some z) ∧ vless z y = false) ∧ vless m y = false ∧ (y = m ∨ ∃ i : Nat, r[i]? = some (some y)) := by
  induction r generalizing m with
  | nil =>
    cases h
    exact ⟨fun i hi => absurd hi (by simp), vless_self _, .inl rfl⟩
  | cons x r ih =>
    cases x with
    | none => cases h
    | some z =>
      have h' : lmin (if vless z m then z else m) r = some y := h
      obtain ⟨h1, h2, h3⟩ := ih h'
      cases hl : vless z m with
      | true =>
        rw [hl] at h2 h3
        simp only [if_true] at h2 h3
        refine ⟨fun i hi => ?_, vless_swap hl h2, ?_⟩
        · cases i with
          | zero => exact ⟨z, rfl, h2⟩
          | succ i => exact h1 i (by simpa using hi)
        · rcases h3 with rfl | ⟨i, hi⟩
          · exact .inr ⟨0, rfl⟩
          · exact .inr ⟨i + 1, hi⟩
      | false =>
        rw [hl] at h2 h3
        simp only [Bool.false_eq_true, if_false] at h2 h3
        refine ⟨fun i hi => ?_, h2, ?_⟩
        · cases i with
          | zero => exact ⟨z, rfl, vless_trans' hl h2⟩
          | succ i => exact h1 i (by simpa using hi)
        · rcases h3 with rfl | ⟨i, hi⟩
          · exact .inl rfl
          · exact .inr ⟨i + 1, hi⟩
theorem lmin_none {m : Vr} {r : List (Option Vr)} (h : lmin m r = none) : ∃ i : Nat, r[i]? = some none := by
  induction r generalizing m with
  | nil => cases h
  | cons x r ih =>
    cases x with
    | none => exact ⟨0, rfl⟩
    | some z =>
      obtain ⟨i, hi⟩ := ih (m := if vless z m then z else m) h
      exact ⟨i + 1, hi⟩
theorem leastOf_min {os : List (Option Vr)} {y : Vr} (h : leastOf os = some y) : IsMin os y := by
  cases os with
  | nil => cases h
  | cons x r =>
    cases x with
    | none => cases h
    | some m =>
      obtain ⟨h1, h2, h3⟩ := lmin_some (h : lmin m r = some y)
      refine ⟨fun i hi => ?_, ?_⟩
      · cases i with
        | zero => exact ⟨m, rfl, h2⟩
        | succ i => exact h1 i (by simpa using hi)
      · rcases h3 with rfl | ⟨i, hi⟩
        · exact ⟨0, rfl⟩
        · exact ⟨i + 1, hi⟩
theorem leastOf_none {os : List (Option Vr)} (h : leastOf os = none) : NoMin os := by
  cases os with
  | nil => exact .inl rfl
  | cons x r =>
    cases x with
    | none => exact .inr ⟨0, rfl⟩
    | some m =>
      obtain ⟨i, hi⟩ := lmin_none (h : lmin m r = none)
      exact .inr ⟨i + 1, hi⟩
/-- What is asked of what is seen, as data. -/
structure Seen (d : VD) (ts : List ByteArray) : Prop where
  all : ∀ t ∈ ts, VOpt t (verOf t)
  n : ts.length ≤ 12
  cl : VOpt d.cl (verOf d.cl)
  st : VOpt d.st (verOf d.st)
  dn : d.hd = true → d.dn = true → ∃ t, verOf d.tg = some t
  len : d.n = ts.length
theorem Good.seen {d : VD} {ts : List ByteArray} (h : Good d ts) (hn : d.n = ts.length) : Seen d ts := ⟨h.all, h.n, h.cl, h.st, fun _ hd => (h.dn hd).2, hn⟩
theorem Seen.mem {d : VD} {ts : List ByteArray} (h : Seen d ts) : Mem d ts (ts.map verOf) := by
  refine ⟨⟨by simp, fun i t hi => ⟨verOf t, by simp [hi], h.all t (List.mem_of_getElem? hi)⟩⟩, h.len, by have := h.n; omega⟩
theorem Seen.view {d : VD} {ts : List ByteArray} (h : Seen d ts) : View d ts (ts.map verOf) (verOf d.cl) (verOf d.st) (verOf d.tg) (leastOf (ts.map verOf)) := by
  refine ⟨h.mem, h.cl, h.st, fun h1 h2 => ?_, ?_⟩
  · obtain ⟨t, ht⟩ := h.dn h1 h2
    exact ⟨t, ht, verOf_sound ht⟩
  · cases hl : leastOf (ts.map verOf) with
    | none => exact leastOf_none hl
    | some y =>
      have hm := leastOf_min hl
      refine ⟨hm, ?_⟩
      obtain ⟨i, hi⟩ := hm.2
      rw [List.getElem?_map] at hi
      cases ht : ts[i]? with
      | none => rw [ht] at hi; cases hi
      | some t =>
        rw [ht] at hi
        simp only [Option.map_some, Option.some.injEq] at hi
        exact (verOf_sound hi).1
theorem Seen.sane {d : VD} {ts : List ByteArray} (h : Seen d ts) : Hid (∀ (g : Nat) (o : Vo) (w : World), ErrAt w → w.heap[g]? = some (guard d o) → Calls Tryd.prog 31 #[.pointer (some ⟨g, 0, none⟩)] w fun e w' => e = .returned (.bool true) ∧ Ext [] w w') := by
  intro g o w he hg
  cases hhd : d.hd with
  | false => exact sane_a g d o hhd w he hg
  | true =>
    cases hdn : d.dn with
    | false => exact sane_b g d o hhd hdn w he hg
    | true =>
      obtain ⟨t, ht⟩ := h.dn hhd hdn
      exact sane_c g d o hhd hdn t (Lib.hid (verOf_sound ht)) w he hg
abbrev decOf (d : VD) (ts : List ByteArray) : Vo := decVo (decM d (verOf d.cl) (leastOf (ts.map verOf)) (verOf d.tg))
theorem decide_calls (d : VD) (ts : List ByteArray) (h : Seen d ts) (w : World) (H : St [] w w [(false, .arr d.at' (strs ts)), genv]) :
    Calls Tryd.prog 11 #[d.val] w fun e w' => e = .returned (decOf d ts).val ∧ Ext [] w w' := by
  have hv := h.view
  unfold decOf
  rcases decM_end hv with ⟨x, hxo, hx⟩ | hx | hx
  · rw [hx]
    exact decide_ok d ⟨0, vstr ⟨x.a, x.b, 0⟩, ByteArray.empty, false, false, ByteArray.empty⟩ .nilIface 0 ts h.sane (Lib.hid fun w => voteKind_nil w) (Lib.hid fun p g S w H => updCl_some hv (Lib.hid hx) hxo p g vo0 S w H) w H
  · rw [hx]
    exact decide_ok d vo0 .nilIface 0 ts h.sane (Lib.hid fun w => voteKind_nil w) (Lib.hid fun p g S w H => updCl_none hv (Lib.hid hx) p g vo0 S w H) w H
  · rw [hx]
    exact decide_ok d vo0 (.iface 75 (.string badTarget)) 98 ts h.sane (Lib.hid fun w => voteKind_bad w) (Lib.hid fun p g S w H => updCl_err hv (Lib.hid hx) p g vo0 S w H) w H
/-- What the storage's version is set to. -/
def stVo (cv sv : Option Vr) : Vo := match cv with
  | none => vo0
  | some c => if c.a = 3 ∧ c.b = 0 ∧ c.c = 0 then vo0 else match sv with
    | none => ⟨0, ByteArray.empty, vstr ⟨c.a, c.b, 0⟩, false, false, ByteArray.empty⟩
    | some s => if s.a = c.a ∧ s.b = c.b then vo0 else ⟨0, ByteArray.empty, vstr ⟨c.a, c.b, 0⟩, false, false, ByteArray.empty⟩
theorem is300 {c : Vr} (hc : c.Ok) : ((vstr c).toList == [51, 46, 48, 46, 48]) = decide (c.a = 3 ∧ c.b = 0 ∧ c.c = 0) := by
  by_cases h : c.a = 3 ∧ c.b = 0 ∧ c.c = 0
  · obtain ⟨c1, c2, c3⟩ := c
    simp only at h
    obtain ⟨rfl, rfl, rfl⟩ := h
    rw [ByteArray.toList_eq]
    rfl
  · rw [decide_eq_false h]
    rw [Bool.eq_false_iff]
    intro hx
    have hx := eq_of_beq hx
    have e : vstr c = vstr ⟨3, 0, 0⟩ := by
      apply ByteArray.ext
      apply Array.toList_inj.1
      have : (vstr c).data.toList = (vstr c).toList := by rw [ByteArray.toList_eq]
      rw [this, hx]
      rfl
    have := vstr_inj hc ⟨by decide, by decide, by decide⟩ e
    subst this
    exact h ⟨rfl, rfl, rfl⟩
theorem storage_calls (d : VD) (ts : List ByteArray) (h : Seen d ts) (w : World) (H : St [] w w [genv]) :
    Calls Tryd.prog 25 #[d.val] w fun e w' => e = .returned (stVo (verOf d.cl) (verOf d.st)).val ∧ Ext [] w w' := by
  have hc := h.cl
  have hs := h.st
  cases hcv : verOf d.cl with
  | none =>
    rw [hcv] at hc
    exact decideStorage_calls d vo0 (Lib.hid fun p g S w H => updSt_0 d (Lib.hid hc) p g vo0 S w H) w H
  | some c =>
    rw [hcv] at hc
    have h3 := is300 hc.1
    unfold stVo
    simp only
    by_cases h0 : c.a = 3 ∧ c.b = 0 ∧ c.c = 0
    · rw [if_pos h0]
      rw [decide_eq_true h0] at h3
      exact decideStorage_calls d vo0 (Lib.hid fun p g S w H => updSt_1 d c (Lib.hid hc) h3 p g vo0 S w H) w H
    · rw [if_neg h0]
      rw [decide_eq_false h0] at h3
      cases hsv : verOf d.st with
      | none =>
        rw [hsv] at hs
        simp only
        cases hhd : d.hd with
        | false => exact decideStorage_calls d _ (Lib.hid fun p g S w H => updSt_2a d c (Lib.hid hc) h3 (Lib.hid hs) hhd p g vo0 S w H) w H
        | true =>
          cases hdn : d.dn with
          | false => exact decideStorage_calls d _ (Lib.hid fun p g S w H => updSt_2b d c (Lib.hid hc) h3 (Lib.hid hs) hhd hdn p g vo0 S w H) w H
          | true => exact decideStorage_calls d _ (Lib.hid fun p g S w H => updSt_2c d c (Lib.hid hc) h3 (Lib.hid hs) hhd hdn p g vo0 S w H) w H
      | some s =>
        rw [hsv] at hs
        simp only
        by_cases ha : s.a = c.a
        · by_cases hb : s.b = c.b
          · rw [if_pos ⟨ha, hb⟩]
            exact decideStorage_calls d vo0 (Lib.hid fun p g S w H => updSt_5 d c (Lib.hid hc) h3 s (Lib.hid hs) ha hb p g vo0 S w H) w H
          · rw [if_neg fun hx => hb hx.2]
            cases hhd : d.hd with
            | false => exact decideStorage_calls d _ (Lib.hid fun p g S w H => updSt_4a d c (Lib.hid hc) h3 s (Lib.hid hs) ha hb hhd p g vo0 S w H) w H
            | true =>
              cases hdn : d.dn with
              | false => exact decideStorage_calls d _ (Lib.hid fun p g S w H => updSt_4b d c (Lib.hid hc) h3 s (Lib.hid hs) ha hb hhd hdn p g vo0 S w H) w H
              | true => exact decideStorage_calls d _ (Lib.hid fun p g S w H => updSt_4c d c (Lib.hid hc) h3 s (Lib.hid hs) ha hb hhd hdn p g vo0 S w H) w H
        · rw [if_neg fun hx => ha hx.1]
          cases hhd : d.hd with
          | false => exact decideStorage_calls d _ (Lib.hid fun p g S w H => updSt_3a d c (Lib.hid hc) h3 s (Lib.hid hs) ha hhd p g vo0 S w H) w H
          | true =>
            cases hdn : d.dn with
            | false => exact decideStorage_calls d _ (Lib.hid fun p g S w H => updSt_3b d c (Lib.hid hc) h3 s (Lib.hid hs) ha hhd hdn p g vo0 S w H) w H
            | true => exact decideStorage_calls d _ (Lib.hid fun p g S w H => updSt_3c d c (Lib.hid hc) h3 s (Lib.hid hs) ha hhd hdn p g vo0 S w H) w H
/-- Whether a downgrade is over. -/
def caVo (hd dn : Bool) (os : List (Option Vr)) (tv : Option Vr) : Vo := match tv with
  | some t => ⟨0, ByteArray.empty, ByteArray.empty, hd && dn && matchAll os t, false, ByteArray.empty⟩
  | none => vo0
theorem caVo_off (hd dn : Bool) (os : List (Option Vr)) (tv : Option Vr) (h : (hd && dn) = false) : caVo hd dn os tv = vo0 := by
  unfold caVo
  cases tv with
  | none => rfl
  | some t =>
    simp only [h]
    rfl
theorem cancel_calls (d : VD) (ts : List ByteArray) (h : Seen d ts) (w : World) (H : St [] w w [(false, .arr d.at' (strs ts)), genv]) :
    Calls Tryd.prog 22 #[d.val] w fun e w' => e = .returned (caVo d.hd d.dn (ts.map verOf) (verOf d.tg)).val ∧ Ext [] w w' := by
  cases hhd : d.hd with
  | false =>
    rw [caVo_off _ _ _ _ rfl]
    exact decideCancel_ok d vo0 ts h.sane (Lib.hid fun p g S w H => cancel_0a d ts hhd p g vo0 S w H) w H
  | true =>
    cases hdn : d.dn with
    | false =>
      rw [caVo_off _ _ _ _ rfl]
      exact decideCancel_ok d vo0 ts h.sane (Lib.hid fun p g S w H => cancel_0b d ts hhd hdn p g vo0 S w H) w H
    | true =>
      obtain ⟨t, ht⟩ := h.dn hhd hdn
      have hs := verOf_sound ht
      rw [ht]
      cases hm : matchAll (ts.map verOf) t with
      | false =>
        have e : caVo true true (ts.map verOf) (some t) = vo0 := by unfold caVo; simp only [hm]; rfl
        rw [e]
        exact decideCancel_ok d vo0 ts h.sane (Lib.hid fun p g S w H => cancel_1 d ts _ (Lib.hid h.mem) hhd hdn t (Lib.hid hs) (Lib.hid hm) p g vo0 S w H) w H
      | true =>
        have e : caVo true true (ts.map verOf) (some t) = ⟨0, ByteArray.empty, ByteArray.empty, true, false, ByteArray.empty⟩ := by unfold caVo; simp only [hm]; rfl
        rw [e]
        exact decideCancel_ok d _ ts h.sane (Lib.hid fun p g S w H => cancel_2 d ts _ (Lib.hid h.mem) hhd hdn t (Lib.hid hs) (Lib.hid hm) p g vo0 S w H) w H
end Go.Proofs.YtdcijhdjddiboaaDoor
