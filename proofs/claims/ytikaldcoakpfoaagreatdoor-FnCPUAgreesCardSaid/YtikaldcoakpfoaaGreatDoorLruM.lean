import Derived.Test.YtikaldcoakpfoaaGreatDoorVMore
import Derived.Maps.Keyed
import Derived.Carry
namespace Go.V
set_option linter.unusedVariables false
set_option linter.unusedSimpArgs false
set_option linter.unnecessarySimpa false
open Go Go.RowKit
open Go.ChangeMaps (setBlock)

/-! Maps whose keys are integers, or integers behind an interface: what they hold, as a list. -/
abbrev AL := List (Int × Value)
def aget : AL → Int → Option Value
  | [], _ => none
  | x :: r, k => if x.1 = k then some x.2 else aget r k
def aix : AL → Int → Nat → Option (Nat × Value)
  | [], _, _ => none
  | x :: r, k, i => if x.1 = k then some (i, x.2) else aix r k (i + 1)
theorem aix_get (l : AL) (k : Int) (i : Nat) : (aix l k i).map (·.2) = aget l k := by
  induction l generalizing i with
  | nil => rfl
  | cons x r ih =>
    unfold aix aget
    by_cases h : x.1 = k
    · rw [if_pos h, if_pos h]
      rfl
    · rw [if_neg h, if_neg h]
      exact ih (i + 1)
theorem aix_some {l : AL} {k : Int} {i j : Nat} {v : Value} (h : aix l k i = some (j, v)) : i ≤ j ∧ l[j - i]? = some (k, v) := by
  induction l generalizing i with
  | nil => cases h
  | cons x r ih =>
    unfold aix at h
    by_cases hx : x.1 = k
    · rw [if_pos hx] at h
      cases h
      refine ⟨Nat.le_refl _, ?_⟩
      rw [Nat.sub_self, ← hx]
      rfl
    · rw [if_neg hx] at h
      obtain ⟨h1, h2⟩ := ih h
      refine ⟨by omega, ?_⟩
      rw [show j - i = (j - (i + 1)) + 1 by omega, List.getElem?_cons_succ]
      exact h2
/-- How an integer is written as a key. -/
structure KeyAs (P : Program) (kt : TypeId) (f : Int → Value) : Prop where
  check : ∀ (em : Bool) (k : Int) (w : World), (Instr.checkKey em 10000 kt (f k)).run P w = .ok () w
  find : ∀ (k : Int) (es : List MapEntry) (l : AL) (w : World), es.map (fun e => (e.key, e.val)) = l.map (fun p => (f p.1, p.2)) → (Instr.findKey kt (f k) es).run P w = .ok (aix l k 0) w
  stays : ∀ (k : Int) (w : World), (Instr.keyThatStays (f k) (f k)).run P w = .ok (f k) w
theorem find_now_int (kd kd' : IntKind) (k : Int) (es : List MapEntry) (l : AL) (i : Nat) (h : es.map (fun e => (e.key, e.val)) = l.map (fun p => (Value.int kd p.1, p.2))) : Instr.findNow (.int kd') (.int kd k) es i = some (aix l k i) := by
  induction es generalizing l i with
  | nil =>
    cases l with
    | nil => rfl
    | cons x r => simp at h
  | cons e es ih =>
    cases l with
    | nil => simp at h
    | cons x r =>
      simp only [List.map_cons, List.cons.injEq, Prod.mk.injEq] at h
      obtain ⟨⟨h1, h2⟩, h3⟩ := h
      unfold Instr.findNow aix
      rw [h1]
      by_cases hx : x.1 = k
      · rw [if_pos hx, hx]
        simp [Instr.sameNow, h2]
      · rw [if_neg hx]
        have hx' : (k == x.1) = false := by simp; exact fun e => hx e.symm
        simp [Instr.sameNow, hx', ih r (i + 1) h3]
theorem check_int {P : Program} {T : TypeId} {kd : IntKind} (ht : P.underlying T = some (.int kd)) (em : Bool) (n : Nat) (k : Int) (w : World) : (Instr.checkKey em (n + 1) T (.int kd k)).run P w = .ok () w := by
  simp [Instr.checkKey, run_underlying ht, Result.andThen]
theorem equal_int {P : Program} {T : TypeId} {kd : IntKind} (ht : P.underlying T = some (.int kd)) (n : Nat) (a b : Int) (w : World) : (Op.equalIn (n + 1) T (.int kd a) (.int kd b)).run P w = .ok (a == b) w := by
  simp [Op.equalIn, run_underlying ht, Result.andThen]
theorem keyAs_int {P : Program} {kt : TypeId} {kd : IntKind} (ht : P.underlying kt = some (.int kd)) : KeyAs P kt (fun k => .int kd k) where
  check em k w := check_int ht em 9999 k w
  find k es l w h := by
    simp [Instr.findKey, run_underlying ht, Result.andThen, find_now_int kd kd k es l 0 h]
  stays k w := by simp [Instr.keyThatStays, Instr.sameBits]
theorem find_ask {P : Program} {kt : TypeId} {f : Int → Value} (heq : ∀ (a b : Int) (w : World), (Op.equal kt (f a) (f b)).run P w = .ok (a == b) w) (k : Int) (es : List MapEntry) (l : AL) (i : Nat) (w : World) (h : es.map (fun e => (e.key, e.val)) = l.map (fun p => (f p.1, p.2))) : (Instr.findAsking kt (f k) es i).run P w = .ok (aix l k i) w := by
  induction es generalizing l i with
  | nil =>
    cases l with
    | nil => rfl
    | cons x r => simp at h
  | cons e es ih =>
    cases l with
    | nil => simp at h
    | cons x r =>
      simp only [List.map_cons, List.cons.injEq, Prod.mk.injEq] at h
      obtain ⟨⟨h1, h2⟩, h3⟩ := h
      unfold Instr.findAsking aix
      rw [h1]
      simp only [Sem.run_bind, heq, Result.andThen_ok]
      by_cases hx : x.1 = k
      · rw [if_pos hx, hx]
        simp [h2]
      · rw [if_neg hx]
        have hx' : (k == x.1) = false := by simp; exact fun e => hx e.symm
        simp [hx', ih r (i + 1) h3]
theorem keyAs_iface {P : Program} {kt T : TypeId} {kd : IntKind} {ms : Array (String × TypeId)} {inf : TypeInfo} (ht : P.underlying kt = some (.interface ms)) (hT : P.underlying T = some (.int kd)) (hi : P.info? T = some inf) (hc : inf.comparable = true) : KeyAs P kt (fun k => .iface T (.int kd k)) where
  check em k w := by
    show (Instr.checkKey em (9999 + 1) kt (.iface T (.int kd k))).run P w = .ok () w
    have h2 := check_int hT em 9998 k w
    rw [Instr.checkKey]
    simp [run_underlying ht, run_typeInfo w hi, hc, Result.andThen, h2]
  find k es l w h := by
    have heq : ∀ (a b : Int) (w : World), (Op.equal kt (.iface T (.int kd a)) (.iface T (.int kd b))).run P w = .ok (a == b) w := by
      intro a b w
      show (Op.equalIn (9999 + 1) kt (.iface T (.int kd a)) (.iface T (.int kd b))).run P w = _
      have h2 := equal_int hT 9998 a b w
      rw [Op.equalIn]
      simp [run_underlying ht, run_typeInfo w hi, hc, Result.andThen, h2]
    cases es with
    | nil =>
      cases l with
      | nil => simp [Instr.findKey, run_underlying ht, Result.andThen, Instr.findNow, aix]
      | cons x r => simp at h
    | cons e es =>
      have hn : Instr.findNow (.interface ms) (.iface T (.int kd k)) (e :: es) 0 = none := by
        unfold Instr.findNow
        simp [Instr.sameNow]
      have ha := find_ask heq k (e :: es) l 0 w h
      simp [Instr.findKey, run_underlying ht, Result.andThen, hn, ha]
  stays k w := by simp [Instr.keyThatStays, Instr.sameBits]
/-- A map's object holds this. -/
def KV1 (f : Int → Value) (es : Array MapEntry) (l : AL) : Prop := es.toList.map (fun e => (e.key, e.val)) = l.map (fun p => (f p.1, p.2))
theorem kv1_nil (f : Int → Value) : KV1 f #[] [] := rfl
def aput : AL → Int → Value → AL
  | [], k, v => [(k, v)]
  | x :: r, k, v => if x.1 = k then (k, v) :: r else x :: aput r k v
def adel : AL → Int → AL
  | [], _ => []
  | x :: r, k => if x.1 = k then r else x :: adel r k
theorem aput_new {l : AL} {k : Int} {i : Nat} (h : aix l k i = none) (v : Value) : aput l k v = l ++ [(k, v)] := by
  induction l generalizing i with
  | nil => rfl
  | cons x r ih =>
    unfold aix at h
    unfold aput
    by_cases hx : x.1 = k
    · rw [if_pos hx] at h
      cases h
    · rw [if_neg hx] at h
      rw [if_neg hx, ih h]
      rfl
theorem aput_old {l : AL} {k : Int} {i j : Nat} {u : Value} (h : aix l k i = some (j, u)) (v : Value) : aput l k v = l.set (j - i) (k, v) := by
  induction l generalizing i with
  | nil => cases h
  | cons x r ih =>
    unfold aix at h
    unfold aput
    by_cases hx : x.1 = k
    · rw [if_pos hx] at h
      cases h
      rw [if_pos hx, Nat.sub_self]
      rfl
    · rw [if_neg hx] at h
      have h1 := (aix_some h).1
      rw [if_neg hx, ih h, show j - i = (j - (i + 1)) + 1 by omega, List.set_cons_succ]
theorem adel_new {l : AL} {k : Int} {i : Nat} (h : aix l k i = none) : adel l k = l := by
  induction l generalizing i with
  | nil => rfl
  | cons x r ih =>
    unfold aix at h
    unfold adel
    by_cases hx : x.1 = k
    · rw [if_pos hx] at h
      cases h
    · rw [if_neg hx] at h
      rw [if_neg hx, ih h]
theorem adel_old {l : AL} {k : Int} {i j : Nat} {u : Value} (h : aix l k i = some (j, u)) : adel l k = l.eraseIdx (j - i) := by
  induction l generalizing i with
  | nil => cases h
  | cons x r ih =>
    unfold aix at h
    unfold adel
    by_cases hx : x.1 = k
    · rw [if_pos hx] at h
      cases h
      rw [if_pos hx, Nat.sub_self]
      rfl
    · rw [if_neg hx] at h
      have h1 := (aix_some h).1
      rw [if_neg hx, ih h, show j - i = (j - (i + 1)) + 1 by omega, List.eraseIdx_cons_succ]
theorem aget_put (l : AL) (k : Int) (v : Value) (k' : Int) : aget (aput l k v) k' = if k = k' then some v else aget l k' := by
  induction l with
  | nil => rfl
  | cons x r ih =>
    unfold aput
    by_cases hx : x.1 = k
    · rw [if_pos hx]
      unfold aget
      simp only
      by_cases h : k = k'
      · rw [if_pos h, if_pos h]
      · rw [if_neg h, if_neg h, if_neg (by rw [hx]; exact h)]
    · rw [if_neg hx]
      show (if x.1 = k' then some x.2 else aget (aput r k v) k') = if k = k' then some v else if x.1 = k' then some x.2 else aget r k'
      rw [ih]
      by_cases h : k = k'
      · rw [if_pos h, if_pos h, if_neg (by rw [← h]; exact hx)]
      · rw [if_neg h, if_neg h]
/-- Each key once. -/
def AOnce (l : AL) : Prop := (l.map (·.1)).Nodup
theorem aget_none {l : AL} {k : Int} (h : k ∉ l.map (·.1)) : aget l k = none := by
  induction l with
  | nil => rfl
  | cons x r ih =>
    simp only [List.map_cons, List.mem_cons, not_or] at h
    show (if x.1 = k then some x.2 else aget r k) = none
    rw [if_neg (fun e => h.1 e.symm), ih h.2]
theorem aget_del {l : AL} (hn : AOnce l) (k k' : Int) : aget (adel l k) k' = if k = k' then none else aget l k' := by
  induction l with
  | nil =>
    show none = if k = k' then none else none
    by_cases h : k = k'
    · rw [if_pos h]
    · rw [if_neg h]
  | cons x r ih =>
    simp only [AOnce, List.map_cons, List.nodup_cons] at hn
    unfold adel
    by_cases hx : x.1 = k
    · rw [if_pos hx]
      show _ = if k = k' then none else if x.1 = k' then some x.2 else aget r k'
      by_cases h : k = k'
      · rw [if_pos h, ← h, ← hx, aget_none hn.1]
      · rw [if_neg h, if_neg (by rw [hx]; exact h)]
    · rw [if_neg hx]
      show (if x.1 = k' then some x.2 else aget (adel r k) k') = if k = k' then none else if x.1 = k' then some x.2 else aget r k'
      rw [ih hn.2]
      by_cases h : k = k'
      · rw [if_pos h, if_pos h, if_neg (by rw [← h]; exact hx)]
      · rw [if_neg h, if_neg h]
theorem adel_sub (l : AL) (k : Int) : (adel l k).Sublist l := by
  induction l with
  | nil => exact List.Sublist.refl _
  | cons x r ih =>
    unfold adel
    by_cases h : x.1 = k
    · rw [if_pos h]; exact List.sublist_cons_self _ _
    · rw [if_neg h]; exact ih.cons_cons _
theorem aonce_del {l : AL} (h : AOnce l) (k : Int) : AOnce (adel l k) := h.sublist ((adel_sub l k).map _)
theorem aput_keys (l : AL) (k : Int) (v : Value) : ∀ x, x ∈ (aput l k v).map (·.1) → x = k ∨ x ∈ l.map (·.1) := by
  induction l with
  | nil => intro x hx; simp [aput] at hx; exact .inl hx
  | cons y r ih =>
    intro x hx
    unfold aput at hx
    by_cases h : y.1 = k
    · rw [if_pos h] at hx
      simp only [List.map_cons, List.mem_cons] at hx ⊢
      rcases hx with hx | hx
      · exact .inl hx
      · exact .inr (.inr hx)
    · rw [if_neg h] at hx
      simp only [List.map_cons, List.mem_cons] at hx ⊢
      rcases hx with hx | hx
      · exact .inr (.inl hx)
      · rcases ih x hx with h' | h'
        · exact .inl h'
        · exact .inr (.inr h')
theorem aonce_put {l : AL} (h : AOnce l) (k : Int) (v : Value) : AOnce (aput l k v) := by
  induction l with
  | nil => simp [aput, AOnce]
  | cons x r ih =>
    simp only [AOnce, List.map_cons, List.nodup_cons] at h
    unfold aput
    by_cases hx : x.1 = k
    · rw [if_pos hx]
      simp only [AOnce, List.map_cons, List.nodup_cons]
      rw [← hx]
      exact h
    · rw [if_neg hx]
      simp only [AOnce, List.map_cons, List.nodup_cons]
      refine ⟨fun hm => ?_, ih h.2⟩
      rcases aput_keys r k v _ hm with h' | h'
      · exact hx h'
      · exact h.1 h'
theorem map_erase {α β : Type} (g : α → β) (l : List α) (i : Nat) : (l.eraseIdx i).map g = (l.map g).eraseIdx i := by
  induction l generalizing i with
  | nil => rfl
  | cons x r ih =>
    cases i with
    | zero => rfl
    | succ i => simp [ih]
section
variable {P : Program} {S : List Nat} {w0 w : World} {L : List Ent} {o : Oper} {a : Act} {K : Act → World → Prop} {Q : Exit → Act → World → Prop}
theorem setB_ext (w : World) (b : Nat) (o : Obj) : Ext [b] w (setBlock w b o) :=
  ⟨rfl, rfl, rfl, by simp [setBlock], fun k _ hk => by simp only [List.mem_singleton] at hk; rw [setBlock]; simp only; rw [Array.getElem?_setIfInBounds, if_neg (fun h => hk h.symm)]⟩
theorem setB_get {w : World} {b : Nat} {o : Obj} (o' : Obj) (h : w.heap[b]? = some o) : (setBlock w b o').heap[b]? = some o' := by
  have := lt_of_get h
  simp [setBlock, this]
theorem op_newMap (T : TypeId) (ho : o.op = .makeMap T none) (H : St S w0 w L)
    (h : ∀ b w', St S w0 w' ((true, .is b (.map #[] 0)) :: L) → K (a.put o.dst (.map (some b))) w') : o.wp P a w K Q :=
  op_val (by unfold execOp; rw [ho]; rfl) (h _ _ (H.alloc _))
theorem op_look (t kt e : TypeId) (m x : Operand) (ho : o.op = .lookup t m x true) (ht : P.underlying t = some (.map kt e)) {f : Int → Value} (KA : KeyAs P kt f) {z : Value} (hz : ∀ w, (zeroValue e).run P w = .ok z w) {b clock : Nat} {es : Array MapEntry} {l : AL} {k : Int} {r : Option Value}
    (hm : a.eval m = .map (some b)) (hx : a.eval x = f k) (hb : w.heap[b]? = some (.map es clock)) (hl : KV1 f es l) (hr : aget l k = r)
    (h : K (a.put o.dst (.tuple #[r.getD z, .bool r.isSome])) w) : o.wp P a w K Q := by
  refine op_val ?_ h
  unfold execOp
  rw [ho]
  have hf := KA.find k es.toList l w hl
  have hg := aix_get l k 0
  have hrun : (Instr.lookup t (.map (some b)) (f k) true).run P w = .ok (.tuple #[r.getD z, .bool r.isSome]) w := by
    cases hi : aix l k 0 with
    | none =>
      rw [hi] at hf hg
      have e : r = none := by rw [← hr, ← hg]; rfl
      subst e
      simp [Instr.lookup, run_underlying ht, MapKept.run_getObj_map hb, KA.check, hf, hz, Result.andThen]
    | some p =>
      obtain ⟨j, v⟩ := p
      rw [hi] at hf hg
      have e : r = some v := by rw [← hr, ← hg]; rfl
      subst e
      simp [Instr.lookup, run_underlying ht, MapKept.run_getObj_map hb, KA.check, hf, Result.andThen]
  simp only [Sem.run_bind, Sem.run_pure, hm, hx, hrun, Result.andThen_ok]
theorem op_put (t kt e : TypeId) (m x y : Operand) (ho : o.op = .mapUpdate t m x y) (ht : P.underlying t = some (.map kt e)) {f : Int → Value} (KA : KeyAs P kt f) {b clock : Nat} {es : Array MapEntry} {l : AL} {k : Int} {v : Value} {A B : List Ent}
    (hm : a.eval m = .map (some b)) (hx : a.eval x = f k) (hy : a.eval y = v) (H : St S w0 w L) (hs : Split L (true, .is b (.map es clock)) A B) (hl : KV1 f es l)
    (h : ∀ es' clock' w', KV1 f es' (aput l k v) → St S w0 w' (A ++ (true, .is b (.map es' clock')) :: B) → K (a.put o.dst undef) w') : o.wp P a w K Q := by
  have hg := H.get hs
  have hf := KA.find k es.toList l w hl
  cases hi : aix l k 0 with
  | none =>
    rw [hi] at hf
    have hrun : (Instr.mapUpdate t (.map (some b)) (f k) v).run P w = .ok () (setBlock w b (.map (es.push ⟨f k, v, clock⟩) (clock + 1))) := by
      simp [Instr.mapUpdate, run_underlying ht, MapKept.run_getObj_map hg, KA.check, hf, MapKept.run_setObj_map _ hg, Result.andThen, setBlock]
    refine op_none ?_ (h _ _ _ ?_ (H.turn (k' := .is b (.map (es.push ⟨f k, v, clock⟩) (clock + 1))) hs (setB_ext w b _) (setB_get _ hg) rfl))
    · unfold execOp
      rw [ho]
      simp only [Sem.run_bind, Sem.run_pure, hm, hx, hy, hrun, Result.andThen_ok]
    · unfold KV1
      rw [aput_new hi]
      simp only [Array.toList_push, List.map_append, List.map_cons, List.map_nil]
      rw [show es.toList.map (fun e => (e.key, e.val)) = l.map (fun p => (f p.1, p.2)) from hl]
  | some p =>
    obtain ⟨j, u⟩ := p
    rw [hi] at hf
    obtain ⟨_, hj⟩ := aix_some hi
    rw [Nat.sub_zero] at hj
    have hlen : es.toList.length = l.length := by have := congrArg List.length hl; simpa using this
    have hjl : j < es.size := by have := (List.getElem?_eq_some_iff.1 hj).1; rw [← hlen] at this; simpa using this
    have hkey : (es[j]).key = f k := by
      have h1 : (es.toList.map (fun e => (e.key, e.val)))[j]? = (l.map (fun p => (f p.1, p.2)))[j]? := by rw [show es.toList.map (fun e => (e.key, e.val)) = l.map (fun p => (f p.1, p.2)) from hl]
      rw [List.getElem?_map, List.getElem?_map, hj, List.getElem?_eq_getElem (by simpa using hjl)] at h1
      simp at h1
      exact h1.1
    have hrun : (Instr.mapUpdate t (.map (some b)) (f k) v).run P w = .ok () (setBlock w b (.map (es.modify j fun e => { e with key := f k, val := v }) clock)) := by
      simp [Instr.mapUpdate, run_underlying ht, MapKept.run_getObj_map hg, KA.check, hf, hjl, hkey, KA.stays, MapKept.run_setObj_map _ hg, Result.andThen, setBlock]
    refine op_none ?_ (h _ _ _ ?_ (H.turn (k' := .is b (.map (es.modify j fun e => { e with key := f k, val := v }) clock)) hs (setB_ext w b _) (setB_get _ hg) rfl))
    · unfold execOp
      rw [ho]
      simp only [Sem.run_bind, Sem.run_pure, hm, hx, hy, hrun, Result.andThen_ok]
    · unfold KV1
      rw [aput_old hi, Nat.sub_zero, List.map_set, ← show es.toList.map (fun e => (e.key, e.val)) = l.map (fun p => (f p.1, p.2)) from hl]
      apply List.ext_getElem?
      intro i
      simp only [List.getElem?_map, Array.getElem?_toList, Array.getElem?_modify, List.getElem?_set, List.length_map, Array.length_toList]
      by_cases hij : j = i
      · subst hij
        simp [hjl]
      · simp [hij]
theorem op_del (m x : Operand) (t tk kt e : TypeId) (ho : o.op = .call { callee := .builtin .delete, args := #[m, x], argTypes := #[t, tk] }) (ht : P.underlying t = some (.map kt e)) {f : Int → Value} (KA : KeyAs P kt f) {b clock : Nat} {es : Array MapEntry} {l : AL} {k : Int} {A B : List Ent}
    (hm : a.eval m = .map (some b)) (hx : a.eval x = f k) (H : St S w0 w L) (hs : Split L (true, .is b (.map es clock)) A B) (hl : KV1 f es l)
    (h : ∀ es' w', KV1 f es' (adel l k) → St S w0 w' (A ++ (true, .is b (.map es' clock)) :: B) → K (a.put o.dst (.tuple #[])) w') : o.wp P a w K Q := by
  have hg := H.get hs
  have hf := KA.find k es.toList l w hl
  cases hi : aix l k 0 with
  | none =>
    rw [hi] at hf
    have hrun : (Builtin.delete_ #[t, tk] o.type #[.map (some b), f k]).run P w = .ok (.tuple #[]) (setBlock w b (.map es clock)) := by
      simp [Builtin.delete_, run_underlying ht, MapKept.run_getObj_map hg, KA.check, hf, MapKept.run_setObj_map _ hg, Result.andThen, setBlock]
    refine op_val ?_ (h _ _ ?_ (H.turn (k' := .is b (.map es clock)) hs (setB_ext w b _) (setB_get _ hg) rfl))
    · unfold execOp
      rw [ho]
      simp only [resolve, invoke, builtin, Sem.run_bind, Sem.run_pure, Result.andThen_ok, List.map_toArray, List.map_cons, List.map_nil, hm, hx, hrun]
    · rw [adel_new hi]
      exact hl
  | some p =>
    obtain ⟨j, u⟩ := p
    rw [hi] at hf
    obtain ⟨_, hj⟩ := aix_some hi
    rw [Nat.sub_zero] at hj
    have hrun : (Builtin.delete_ #[t, tk] o.type #[.map (some b), f k]).run P w = .ok (.tuple #[]) (setBlock w b (.map (es.eraseIdxIfInBounds j) clock)) := by
      simp [Builtin.delete_, run_underlying ht, MapKept.run_getObj_map hg, KA.check, hf, MapKept.run_setObj_map _ hg, Result.andThen, setBlock]
    refine op_val ?_ (h _ _ ?_ (H.turn (k' := .is b (.map (es.eraseIdxIfInBounds j) clock)) hs (setB_ext w b _) (setB_get _ hg) rfl))
    · unfold execOp
      rw [ho]
      simp only [resolve, invoke, builtin, Sem.run_bind, Sem.run_pure, Result.andThen_ok, List.map_toArray, List.map_cons, List.map_nil, hm, hx, hrun]
    · unfold KV1
      rw [adel_old hi, Nat.sub_zero]
      have hlen : es.toList.length = l.length := by have := congrArg List.length hl; simpa using this
      have hjl : j < es.size := by have := (List.getElem?_eq_some_iff.1 hj).1; rw [← hlen] at this; simpa using this
      rw [show (es.eraseIdxIfInBounds j).toList = es.toList.eraseIdx j by simp [Array.eraseIdxIfInBounds, hjl], map_erase, map_erase, show es.toList.map (fun e => (e.key, e.val)) = l.map (fun p => (f p.1, p.2)) from hl]
end
end Go.V
