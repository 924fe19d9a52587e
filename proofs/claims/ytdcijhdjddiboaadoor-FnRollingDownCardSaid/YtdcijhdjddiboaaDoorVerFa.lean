import Derived.Test.YtdcijhdjddiboaaDoorVerF
namespace Go.Proofs.YtdcijhdjddiboaaDoor
set_option linter.unusedVariables false
set_option linter.unusedSimpArgs false
set_option linter.unnecessarySimpa false
open Go.RowKit Go.V

theorem vtext_size {s : ByteArray} {x : Vr} (h : VText s x) : s.size ≤ 14 := by
  have sp := h.spans
  have h1 := sp.size
  have h2 := sp.a.2.1
  have h3 := sp.b.2.1
  have h4 := sp.c.2.1
  omega
theorem vopt_size {s : ByteArray} {o : Option Vr} (h : VOpt s o) : s.size ≤ 2147483647 := by
  cases o with
  | none => have h2 : s.size ≤ 1000 := h.2; omega
  | some x => have := vtext_size h; omega
theorem vof_size {s : ByteArray} {t : Vr} (h : verOf s = some t) : s.size ≤ 2147483647 := by
  have := vtext_size (verOf_sound h)
  omega
theorem verOf_is {s : ByteArray} {x : Option Vr} (h : verOf s = x) (hz : s.size ≤ 2147483647) : Hid (∀ (w : World), Calls Tryd.prog 14 #[.string s] w fun e w' => e = .returned (.tuple #[vval x, .bool x.isSome]) ∧ Ext [] w w') := by
  subst h
  exact fun w => verOf_calls s hz w
theorem Seen.least {d : VD} {ts : List ByteArray} (h : Seen d ts) {x : Option Vr} (hx : leastOf (ts.map verOf) = x) : Hid (∀ (w : World), St [] w w [(false, .arr d.at' (strs ts))] → Calls Tryd.prog 15 #[.slice d.at' d.n d.cap] w fun e w' => e = .returned (.tuple #[vval x, .bool x.isSome]) ∧ Ext [] w w') := by
  subst hx
  exact fun w H => verLeast_calls d.at' d.n d.cap ts h.len (Lib.hid (by have := h.n; omega)) (Lib.hid fun t ht => vopt_size (h.all t ht)) w H
theorem less_is {x y : Vr} {b : Bool} (h : vless x y = b) : Hid (∀ (w : World), Calls Tryd.prog 17 #[x.val, y.val] w fun e w' => e = .returned (.bool b) ∧ Ext [] w w') := by
  subst h
  exact fun w => verLess_calls x y w
theorem change_is {x y : Vr} {b : Bool} (h : vchange x y = b) (hx : x.Ok) : Hid (∀ (w : World), Calls Tryd.prog 36 #[x.val, y.val] w fun e w' => e = .returned (.bool b) ∧ Ext [] w w') := by
  subst h
  exact fun w => validChange_calls x y hx.b w
theorem down_is {x y : Vr} {b : Bool} (h : vdown x y = b) (hx : x.Ok) : Hid (∀ (w : World), Calls Tryd.prog 35 #[x.val, y.val] w fun e w' => e = .returned (.bool b) ∧ Ext [] w w') := by
  subst h
  exact fun w => verDown_calls x y hx.b w
theorem Vr.Ok.base {x : Vr} (h : x.Ok) : (⟨x.a, x.b, 0⟩ : Vr).Ok := ⟨h.a, h.b, by show (0 : Int) ≤ 0 ∧ (0 : Int) ≤ 9999; omega⟩
/-- spec.Decide decides what the monitor decides. -/
theorem sDecide_calls (d : VD) (ts : List ByteArray) (h : Seen d ts) (w : World) (H : St [] w w [(false, .arr d.at' (strs ts))]) :
    Calls Tryd.prog 12 #[d.val] w fun e w' => e = .returned (decOf d ts).val ∧ Ext [] w w' := by
  have hv := h.view
  have hvm := hv.mn
  have hcs := vopt_size h.cl
  unfold decOf
  cases hcv : verOf d.cl with
  | none =>
    cases hmn : leastOf (ts.map verOf) with
    | none => exact sDec_a2 d.cl d.st d.tg d.dn d.hd d.at' d.n d.cap ts (h.least hmn) (verOf_is hcv hcs) w H
    | some y =>
      rw [hmn] at hvm
      exact sDec_a1 d.cl d.st d.tg d.dn d.hd d.at' d.n d.cap ts y.a y.b y.c (h.least hmn) (verOf_is hcv hcs) (Lib.hid hvm.2.base) w H
  | some c =>
    have hco := (verOf_sound hcv).1
    cases hmn : leastOf (ts.map verOf) with
    | none => exact sDec_b0 d.cl d.st d.tg d.dn d.hd d.at' d.n d.cap ts c.a c.b c.c (h.least hmn) (verOf_is hcv hcs) w H
    | some y =>
      rw [hmn] at hvm
      obtain ⟨_, hyo⟩ := hvm
      have plain : ∀ tv, (d.hd && d.dn) = false → decM d (some c) (some y) tv = if vless c y && vchange c y then (some y, false) else (none, false) := fun tv h => by
        show (if d.hd && d.dn then _ else _) = _
        rw [h]
        rfl
      cases hhd : d.hd with
      | false =>
        rw [plain _ (by rw [hhd]; rfl)]
        cases hl : vless c y with
        | false => exact sDec_b100 d.cl d.st d.tg d.dn d.hd d.at' d.n d.cap ts c.a c.b c.c y.a y.b y.c (h.least hmn) (verOf_is hcv hcs) hhd (less_is hl) w H
        | true =>
          cases hch : vchange c y with
          | false => exact sDec_b101 d.cl d.st d.tg d.dn d.hd d.at' d.n d.cap ts c.a c.b c.c y.a y.b y.c (h.least hmn) (verOf_is hcv hcs) hhd (less_is hl) (change_is hch hco) w H
          | true => exact sDec_b102 d.cl d.st d.tg d.dn d.hd d.at' d.n d.cap ts c.a c.b c.c y.a y.b y.c (h.least hmn) (verOf_is hcv hcs) hhd (less_is hl) (change_is hch hco) (Lib.hid hyo.base) w H
      | true =>
        cases hdn : d.dn with
        | false =>
          rw [plain _ (by rw [hhd, hdn]; rfl)]
          cases hl : vless c y with
          | false => exact sDec_b110 d.cl d.st d.tg d.dn d.hd d.at' d.n d.cap ts c.a c.b c.c y.a y.b y.c (h.least hmn) (verOf_is hcv hcs) hhd hdn (less_is hl) w H
          | true =>
            cases hch : vchange c y with
            | false => exact sDec_b111 d.cl d.st d.tg d.dn d.hd d.at' d.n d.cap ts c.a c.b c.c y.a y.b y.c (h.least hmn) (verOf_is hcv hcs) hhd hdn (less_is hl) (change_is hch hco) w H
            | true => exact sDec_b112 d.cl d.st d.tg d.dn d.hd d.at' d.n d.cap ts c.a c.b c.c y.a y.b y.c (h.least hmn) (verOf_is hcv hcs) hhd hdn (less_is hl) (change_is hch hco) (Lib.hid hyo.base) w H
        | true =>
          obtain ⟨t, ht⟩ := h.dn hhd hdn
          have hto := (verOf_sound ht).1
          rw [ht]
          have full : decM d (some c) (some y) (some t) = if veq t c then (none, false) else if vdown c t && vdown y t then (some t, false) else (none, true) := by
            show (if d.hd && d.dn then _ else _) = _
            rw [hhd, hdn]
            rfl
          rw [full]
          cases heq : veq t c with
          | true =>
            have e : t = c := by
              obtain ⟨t1, t2, t3⟩ := t
              obtain ⟨c1, c2, c3⟩ := c
              unfold veq at heq
              simpa using heq
            subst e
            exact sDec_b20 d.cl d.st d.tg d.dn d.hd d.at' d.n d.cap ts t.a t.b t.c y.a y.b y.c (h.least hmn) (verOf_is hcv hcs) hhd hdn (verOf_is ht (vof_size ht)) w H
          | false =>
            have heq' : (decide (t.a = c.a) && (decide (t.b = c.b) && decide (t.c = c.c))) = false := by
              unfold veq at heq
              simpa using heq
            cases h1 : vdown c t with
            | false => exact sDec_b21 d.cl d.st d.tg d.dn d.hd d.at' d.n d.cap ts c.a c.b c.c y.a y.b y.c t.a t.b t.c (h.least hmn) (verOf_is hcv hcs) hhd hdn (verOf_is ht (vof_size ht)) heq' (down_is h1 hco) w H
            | true =>
              cases h2 : vdown y t with
              | false => exact sDec_b22 d.cl d.st d.tg d.dn d.hd d.at' d.n d.cap ts c.a c.b c.c y.a y.b y.c t.a t.b t.c (h.least hmn) (verOf_is hcv hcs) hhd hdn (verOf_is ht (vof_size ht)) heq' (down_is h1 hco) (down_is h2 hyo) w H
              | true => exact sDec_b23 d.cl d.st d.tg d.dn d.hd d.at' d.n d.cap ts c.a c.b c.c y.a y.b y.c t.a t.b t.c (h.least hmn) (verOf_is hcv hcs) hhd hdn (verOf_is ht (vof_size ht)) heq' (down_is h1 hco) (down_is h2 hyo) (Lib.hid hto.base) w H
end Go.Proofs.YtdcijhdjddiboaaDoor
