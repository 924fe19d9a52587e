import Derived.Test.YtikaldcoakpfoaaGreatDoorV
import Derived.Laws.CopyRow
import Derived.Laws.MakeOwn
import Derived.Laws.OwnMore
import Derived.Laws.IdiomStrings
namespace Go.V
set_option linter.unusedVariables false
set_option linter.unusedSimpArgs false
set_option linter.unnecessarySimpa false
open Go Go.RowKit

section
variable {P : Program} {S : List Nat} {w0 w : World} {L : List Ent} {o : Oper} {a : Act} {K : Act → World → Prop} {Q : Exit → Act → World → Prop}

/-- An operation that gives a value. -/
theorem op_val {v : Value} {w' : World} (hr : (execOp a.eval o).run P w = .ok (.value v) w') (h : K (a.put o.dst v) w') : o.wp P a w K Q := by
  unfold Oper.wp
  rw [hr]
  exact h
theorem op_none {w' : World} (hr : (execOp a.eval o).run P w = .ok .skip w') (h : K (a.put o.dst undef) w') : o.wp P a w K Q := by
  unfold Oper.wp
  rw [hr]
  exact h

theorem op_box (T : TypeId) (x : Operand) (ho : o.op = .box T x) (H : St S w0 w L)
    (h : ∀ b w', St S w0 w' ((true, .is b (.cells (a.eval x).cells T (0, 0))) :: L) → K (a.put o.dst (.pointer (some ⟨b, 0, none⟩))) w') : o.wp P a w K Q :=
  op_val (by unfold execOp; rw [ho]; rfl) (h _ _ (H.alloc _))

theorem run_alloc {P : Program} (w : World) (T : TypeId) (i : TypeInfo) (z : Value) (hi : P.info? T = some i) (hz : i.zero = some z) (x : Value) :
    (Instr.alloc T true x).run P w = .ok (.pointer (some ⟨w.heap.size, 0, none⟩)) (w.alloc (.cells z.cells T)) := by
  simp [Instr.alloc, zeroValue, typeInfo, hi, hz, newVar, newRow]

theorem op_alloc (T : TypeId) (ho : o.op = .alloc T) {z : Value} (hz : (P.info? T).bind (·.zero) = some z) (H : St S w0 w L)
    (h : ∀ b w', St S w0 w' ((true, .is b (.cells z.cells T (0, 0))) :: L) → K (a.put o.dst (.pointer (some ⟨b, 0, none⟩))) w') : o.wp P a w K Q := by
  obtain ⟨i, hi, hz⟩ := Option.bind_eq_some_iff.1 hz
  exact op_val (by unfold execOp; rw [ho]; simp only [Sem.run_bind, run_alloc w T i z hi hz]; rfl) (h _ _ (H.alloc _))

theorem op_convBytes (src dst e : TypeId) (x : Operand) (ho : o.op = .convert src dst x) {u : TypeDesc}
    (hs : P.underlying src = some u) (hd : P.underlying dst = some (.slice e)) (he : P.underlying e = some (.int .u8)) (s : ByteArray) (hx : a.eval x = .string s) (H : St S w0 w L)
    (h : ∀ b w' cap cells fr, s.size ≤ cap → St S w0 w' ((true, .is b (.cells ((s.data.map fun b => Value.int .u8 b.toNat) ++ cells) e fr)) :: L) → K (a.put o.dst (.slice (some ⟨b, 0, none⟩) s.size cap)) w') : o.wp P a w K Q := by
  obtain ⟨r, fr, H'⟩ := H.bytes e s
  refine op_val ?_ (h _ _ _ _ _ (grownCap_ge w s.size 0 e) H')
  unfold execOp
  rw [ho]
  simp only [Sem.run_bind, Sem.run_pure, hx, Lib.run_convert_string_bytes w src dst e s hs hd he, Result.andThen_ok]

/-- What a store makes of a row of cells. -/
def splice (cs : Array Value) (i : Nat) (vs : List Value) : Array Value := (cs.toList.take i ++ vs ++ cs.toList.drop (i + vs.length)).toArray
theorem size_splice (cs : Array Value) (i : Nat) (vs : List Value) (h : i + vs.length ≤ cs.size) : (splice cs i vs).size = cs.size := by
  simp [splice]
  omega

theorem Ext.setRow {w : World} {g : Nat} (cs : Array Value) : Ext [g] w (w.setRow g cs) :=
  ⟨rfl, rfl, rfl, by simp [World.setRow], fun k _ hk => setRow_other w g k _ (by simpa using hk)⟩

theorem run_storeVar {w : World} (t T : TypeId) (b i : Nat) (v : Value) (cs : Array Value) (hsz : (P.info? t).map (·.size) = some v.cells.size) (h1 : ∀ u ∈ v.cells.toList, u.oneCell' = true)
    (hg : w.heap[b]? = some (.cells cs T (0, 0))) (hfit : i + v.cells.size ≤ cs.size) :
    (Instr.storeAt t (.pointer (some ⟨b, i, none⟩)) v).run P w = .ok () (w.setRow b (splice cs i v.cells.toList)) := by
  have hst := run_storeCells_at P b i T v.cells.toList 0 cs w hg (by simpa using hfit) h1
  simp only [Nat.add_zero] at hst
  cases hq : P.info? t with
  | none => simp [hq] at hsz
  | some inf =>
    have hi : v.cells.size = inf.size := by simpa [hq] using hsz.symm
    simp [Instr.storeAt, Instr.sureAddr, storeVar, sizeOf, typeInfo, hq, hi, hst, splice]

/-- A STORE into a block that is known cell by cell. -/
theorem op_store (t : TypeId) (x y : Operand) (ho : o.op = .store t x y) {b i : Nat} {T : TypeId} {cs : Array Value} {A B : List Ent} {v : Value}
    (hx : a.eval x = .pointer (some ⟨b, i, none⟩)) (hy : a.eval y = v) (H : St S w0 w L) (hs : Split L (true, .is b (.cells cs T (0, 0))) A B)
    (hsz : (P.info? t).map (·.size) = some v.cells.size) (h1 : v.cells.toList.all (·.oneCell') = true) (hfit : Nat.ble (i + v.cells.size) cs.size = true)
    (h : ∀ w', St S w0 w' (A ++ (true, .is b (.cells (splice cs i v.cells.toList) T (0, 0))) :: B) → K (a.put o.dst undef) w') : o.wp P a w K Q := by
  have hg := H.get hs
  have hfit := Nat.le_of_ble_eq_true hfit
  have h1 := List.all_eq_true.1 h1
  refine op_none ?_ (h _ (H.turn (k' := .is b (.cells (splice cs i v.cells.toList) T (0, 0))) hs (Ext.setRow _) (setRow_heap w b cs _ T _ hg) rfl))
  unfold execOp
  rw [ho]
  simp only [Sem.run_bind, Sem.run_pure, hx, hy, run_storeVar t T b i v cs hsz h1 hg hfit, Result.andThen_ok]

theorem row_get {b T size n cap : Nat} {xs : List Value} (h : holds w (.row (some b) T size n cap xs)) :
    ∃ cur, w.heap[b]? = some (.cells cur T (0, 0)) ∧ cur.size = cap * size ∧ n ≤ cap ∧ cap ≤ maxLen ∧ cur.toList.take (n * size) = xs := h

/-- A STORE into an element (or a part of one) of a row. -/
theorem op_storeRow (t : TypeId) (x y : Operand) (ho : o.op = .store t x y) {b i : Nat} {T size n cap : Nat} {xs : List Value} {A B : List Ent} {v : Value}
    (hx : a.eval x = .pointer (some ⟨b, i, none⟩)) (hy : a.eval y = v) (H : St S w0 w L) (hs : Split L (true, .row (some b) T size n cap xs) A B)
    (hsz : (P.info? t).map (·.size) = some v.cells.size) (h1 : ∀ u ∈ v.cells.toList, u.oneCell' = true) (hfit : i + v.cells.size ≤ n * size)
    (h : ∀ w', St S w0 w' (A ++ (true, .row (some b) T size n cap (xs.take i ++ v.cells.toList ++ xs.drop (i + v.cells.size))) :: B) → K (a.put o.dst undef) w') : o.wp P a w K Q := by
  obtain ⟨cur, hg, h2, h3, h4, h5⟩ := row_get (H.all _ hs.mem)
  have hle : n * size ≤ cap * size := Nat.mul_le_mul_right _ h3
  have hsp := size_splice cur i v.cells.toList (by simp; omega)
  refine op_none ?_ (h _ (H.turn (k' := .row (some b) T size n cap _) hs (Ext.setRow (splice cur i v.cells.toList)) ⟨_, setRow_heap w b cur _ T _ hg, hsp.trans h2, h3, h4, ?_⟩ rfl))
  · unfold execOp
    rw [ho]
    simp only [Sem.run_bind, Sem.run_pure, hx, hy, run_storeVar t T b i v cur hsz h1 hg (by omega), Result.andThen_ok]
  · subst h5
    simp only [splice, List.take_append, List.take_take, List.drop_take, List.length_append, List.length_take, Array.length_toList]
    rw [Nat.min_eq_left (by omega : i ≤ n * size), Nat.min_eq_right (by omega : i ≤ n * size)]
    rw [Nat.min_eq_left (by omega : i ≤ cur.size)]
    congr 1
    · congr 1
      exact List.take_of_length_le (by simp; omega)
end

/-- The slice over a row. -/
abbrev sl (key : Option Nat) (n cap : Nat) : Value := .slice (key.map fun b => ⟨b, 0, none⟩) n cap

section
variable {P : Program} {w : World}

/-- APPEND, whatever room there is. news: what is appended, cell by cell. -/
theorem run_append_row (t ty e : TypeId) (i : TypeInfo) (z : Value) (size : Nat) (ht : P.underlying t = some (.slice e)) (hi : P.info? e = some i) (hz : i.zero = some z)
    (hsize : i.size = size) (hzs : z.cells.size = size) (key : Option Nat) (n cap : Nat) (xs : List Value) (hrow : holds w (.row key e size n cap xs))
    (a : Addr) (m c : Nat) (news : List Value) (hl : news.length = m * size) (hnews : ∀ j u, news[j]? = some u → w.cell? (a.add j) = some u) (h1 : ∀ u ∈ news, u.oneCell' = true)
    (hbytes : (n + m) * i.bytes ≤ 140737488355328) (h63 : n + m ≤ maxLen) :
    ∃ key' cap' w', (Builtin.append_ #[t, t] ty #[sl key n cap, .slice (some a) m c]).run P w = .ok (sl key' (n + m) cap') w' ∧ holds w' (.row key' e size (n + m) cap' (xs ++ news)) ∧
      Ext key.toList w w' ∧ (∀ b ∈ key'.toList, b ∈ key.toList ∨ w.heap.size ≤ b) := by
  subst hsize
  have hsmall : n + m ≤ 9223372036854775807 := by simp only [maxLen] at h63; omega
  have grown : ∀ (old : Nat), xs.length = n * i.size →
      holds (w.drew.alloc (.cells (xs.toArray ++ news.toArray ++ Builtin.zeroCells z.cells (grownCap w (n + m) old e - (n + m))) e)) (.row (some w.heap.size) e i.size (n + m) (grownCap w (n + m) old e) (xs ++ news)) := by
    intro old hlx
    have hge := grownCap_ge w (n + m) old e
    have hcm : grownCap w (n + m) old e ≤ maxLen := grownCap_le_maxLen w (n + m) old e h63
    refine ⟨_, heap_alloc_new w.drew _, ?_, hge, hcm, ?_⟩
    · simp only [Array.size_append, List.size_toArray, size_zeroCells, hzs, hlx, hl, ← Nat.add_mul]
      congr 1
      omega
    · simp only [Array.toList_append, List.append_assoc]
      rw [← List.append_assoc, show (n + m) * i.size = (xs ++ news).length by rw [List.length_append, hlx, hl, Nat.add_mul]]
      exact List.take_left
  have hext : ∀ (S : List Nat) (o : Obj), Ext S w (w.drew.alloc o) := fun S o => (Ext.drew S w).trans (Ext.alloc [] _ o) (by simp)
  cases key with
  | none =>
    obtain ⟨rfl, rfl, rfl⟩ := hrow
    by_cases hm : m = 0
    · subst hm
      have hn : news = [] := List.eq_nil_of_length_eq_zero (by simpa using hl)
      subst hn
      refine ⟨none, 0, w, ?_, ⟨rfl, rfl, rfl⟩, Ext.refl _ _, fun b hb => .inl hb⟩
      simp [Builtin.append_, run_underlying ht, sizeOf, typeInfo, hi, Builtin.lenOf, Builtin.firstCells, loadCells, loadCellsFrom]
    · have hr := run_append_nil (P := P) w t ty e i z ht hi hz a m c news hl hnews (by omega) (by omega) (by have hb := hbytes; simp only [Nat.zero_add] at hb; omega)
      have hgr := grown 0 (by simp)
      simp only [Nat.zero_add, List.nil_append, Array.empty_append] at hgr ⊢
      exact ⟨some w.heap.size, _, _, hr, hgr, hext _ _, fun b hb => .inr (by simp at hb; omega)⟩
  | some g =>
    obtain ⟨cur, hg, hcs, hnc, hcm, htake⟩ := row_get hrow
    have hlx : xs.length = n * i.size := by
      rw [← htake, List.length_take, Array.length_toList, hcs]
      exact Nat.min_eq_left (Nat.mul_le_mul_right _ hnc)
    by_cases hroom : n + m ≤ cap
    · have hfit : n * i.size + news.length ≤ cur.size := by rw [hl, hcs, ← Nat.add_mul]; exact Nat.mul_le_mul_right _ hroom
      have hr := run_append_room (P := P) w t ty e i ht hi g n cap cur hg a m c news hl hnews h1 hroom hfit
      refine ⟨some g, cap, _, hr, ⟨_, setRow_heap w g cur _ e _ hg, ?_, hroom, hcm, ?_⟩, Ext.setRow _, fun b hb => .inl hb⟩
      · simp only [List.size_toArray, List.length_append, List.length_take, List.length_drop, Array.length_toList]
        omega
      · rw [htake, show (n + m) * i.size = (xs ++ news).length by rw [List.length_append, hlx, hl, Nat.add_mul]]
        exact List.take_left
    · have hcells : ∀ j u, xs[j]? = some u → w.cell? ((⟨g, 0, none⟩ : Addr).add j) = some u := by
        intro j u hu
        have hj := (List.getElem?_eq_some_iff.1 hu).1
        have hadd : (⟨g, 0, none⟩ : Addr).add j = ⟨g, j, none⟩ := by unfold Addr.add; split <;> simp_all
        rw [hadd, row_cell hrow j (by omega)]
        exact hu
      have hr := run_append_grow (P := P) w t ty e i z ht hi hz ⟨g, 0, none⟩ n cap xs hlx hcells a m c news hl hnews (by omega) (by omega) (growslice_fits (by omega) hbytes)
      exact ⟨some w.heap.size, _, _, hr, grown cap hlx, hext _ _, fun b hb => .inr (by simp at hb; omega)⟩

/-- .. of a nil slice: nothing. -/
theorem run_append_nothing (t ty e : TypeId) (i : TypeInfo) (size c : Nat) (ht : P.underlying t = some (.slice e)) (hi : P.info? e = some i) (key : Option Nat) (n cap : Nat) (xs : List Value) (hrow : holds w (.row key e size n cap xs)) :
    (Builtin.append_ #[t, t] ty #[sl key n cap, .slice none 0 c]).run P w = .ok (sl key n cap) w := by
  cases key with
  | none =>
    obtain ⟨rfl, rfl, rfl⟩ := hrow
    simp [Builtin.append_, run_underlying ht, sizeOf, typeInfo, hi, Builtin.lenOf, Builtin.firstCells]
  | some g =>
    obtain ⟨cur, hg, hcs, hnc, hcm, htake⟩ := row_get hrow
    simp [Builtin.append_, run_underlying ht, sizeOf, typeInfo, hi, Builtin.lenOf, Builtin.firstCells, hnc, storeCells]
end

section
variable {P : Program} {S : List Nat} {w0 w : World} {L : List Ent} {o : Oper} {a : Act} {K : Act → World → Prop} {Q : Exit → Act → World → Prop}

/-- The facts on an element's type that append and make ask. -/
def Elem (P : Program) (t e : TypeId) (size bytes : Nat) (z : Value) : Prop := P.underlying t = some (.slice e) ∧ (P.info? e).map (fun i => (i.zero, i.size, i.bytes)) = some (some z, size, bytes) ∧ z.cells.size = size

/-- APPEND of some elements that lie at 'ad'. -/
theorem op_append (s x : Operand) (t : TypeId) (ho : o.op = .call { callee := .builtin .append, args := #[s, x], argTypes := #[t, t] })
    {e : TypeId} {size bytes : Nat} {z : Value} (ht : Elem P t e size bytes z) {key : Option Nat} {n cap : Nat} {xs : List Value} {A B : List Ent} {ad : Addr} {m c : Nat} {news : List Value}
    (hs : a.eval s = sl key n cap) (hx : a.eval x = .slice (some ad) m c) (H : St S w0 w L) (hsp : Split L (true, .row key e size n cap xs) A B)
    (hl : news.length = m * size) (hnews : ∀ j u, news[j]? = some u → w.cell? (ad.add j) = some u) (h1 : ∀ u ∈ news, u.oneCell' = true) (hbytes : (n + m) * bytes ≤ 140737488355328) (h63 : n + m ≤ maxLen)
    (h : ∀ key' cap' w', St S w0 w' (A ++ (true, .row key' e size (n + m) cap' (xs ++ news)) :: B) → K (a.put o.dst (sl key' (n + m) cap')) w') : o.wp P a w K Q := by
  obtain ⟨ht1, ht2, ht3⟩ := ht
  obtain ⟨i, hi, hi2⟩ := Option.map_eq_some_iff.1 ht2
  simp only [Prod.mk.injEq] at hi2
  obtain ⟨hz, hsz, rfl⟩ := hi2
  obtain ⟨key', cap', w', hr, hh, he, hk⟩ := run_append_row t o.type e i z size ht1 hi hz hsz ht3 key n cap xs (H.all _ hsp.mem) ad m c news hl hnews h1 hbytes h63
  refine op_val ?_ (h key' cap' w' (H.replace (k' := .row key' e size (n + m) cap' (xs ++ news)) hsp he hh (by cases key' <;> simp [Kn.fp]) hk))
  unfold execOp
  rw [ho]
  simp only [resolve, invoke, builtin, Sem.run_bind, Sem.run_pure, Result.andThen_ok, List.map_toArray, List.map_cons, List.map_nil, hs, hx, hr]

theorem cells_lit {w : World} {b : Nat} {T : TypeId} {cs : Array Value} {fr : Nat × Nat} (h : holds w (.is b (.cells cs T fr))) (k : Nat) : ∀ j u, (cs.toList.take k)[j]? = some u → w.cell? ((⟨b, 0, none⟩ : Addr).add j) = some u := by
  have ho : w.heap[b]? = some (.cells cs T fr) := h
  intro j u hu
  have hadd : (⟨b, 0, none⟩ : Addr).add j = ⟨b, j, none⟩ := by unfold Addr.add; split <;> simp_all
  rw [hadd, cell_of_row w b j cs T fr ho]
  rw [List.getElem?_take] at hu
  split at hu
  · simpa using hu
  · cases hu

/-- APPEND of elements that are written out (a block made for them, known cell by cell, and forgotten behind it). -/
theorem op_append_lit (s x : Operand) (t : TypeId) (ho : o.op = .call { callee := .builtin .append, args := #[s, x], argTypes := #[t, t] })
    {e : TypeId} {size bytes : Nat} {z : Value} (ht : Elem P t e size bytes z) {key : Option Nat} {n cap : Nat} {xs : List Value} {A B A' B' : List Ent} {b m c : Nat} {T : TypeId} {cs : Array Value} {fr : Nat × Nat} {p : Bool}
    (hs : a.eval s = sl key n cap) (hx : a.eval x = .slice (some ⟨b, 0, none⟩) m c) (H : St S w0 w L) (hb : Split L (p, .is b (.cells cs T fr)) A B) (hsp : Split (A ++ B) (true, .row key e size n cap xs) A' B')
    (hl : Nat.beq cs.size (m * size) = true) (h1 : cs.toList.all (·.oneCell') = true) (hbytes : (n + m) * bytes ≤ 140737488355328) (h63 : n + m ≤ maxLen)
    (h : ∀ key' cap' w', St S w0 w' (A' ++ (true, .row key' e size (n + m) cap' (xs ++ cs.toList)) :: B') → K (a.put o.dst (sl key' (n + m) cap')) w') : o.wp P a w K Q := by
  refine op_append s x t ho ht hs hx (H.sublist hb.sublist) hsp (by simpa using Nat.eq_of_beq_eq_true hl) ?_ (List.all_eq_true.1 h1) hbytes h63 h
  have := cells_lit (H.all _ hb.mem) cs.size
  rwa [List.take_of_length_le (by simp)] at this

/-- APPEND of a row's elements (append(xs, ys...)). -/
theorem op_append_row (s x : Operand) (t : TypeId) (ho : o.op = .call { callee := .builtin .append, args := #[s, x], argTypes := #[t, t] })
    {e : TypeId} {size bytes : Nat} {z : Value} (ht : Elem P t e size bytes z) {key key2 : Option Nat} {n cap m c : Nat} {xs ys : List Value} {A B A' B' : List Ent} {T : TypeId} {p : Bool}
    (hs : a.eval s = sl key n cap) (hx : a.eval x = sl key2 m c) (H : St S w0 w L) (hsp : Split L (true, .row key e size n cap xs) A B) (hy : Split L (p, .row key2 T size m c ys) A' B')
    (h1 : ∀ u ∈ ys, u.oneCell' = true) (hbytes : (n + m) * bytes ≤ 140737488355328) (h63 : n + m ≤ maxLen)
    (h : ∀ key' cap' w', St S w0 w' (A ++ (true, .row key' e size (n + m) cap' (xs ++ ys)) :: B) → K (a.put o.dst (sl key' (n + m) cap')) w') : o.wp P a w K Q := by
  have hrow := H.all _ hy.mem
  cases key2 with
  | none =>
    obtain ⟨rfl, rfl, rfl⟩ := hrow
    obtain ⟨ht1, ht2, ht3⟩ := ht
    obtain ⟨i, hi, hi2⟩ := Option.map_eq_some_iff.1 ht2
    have hr := run_append_nothing (P := P) t o.type e i size 0 ht1 hi key n cap xs (H.all _ hsp.mem)
    have h' := h key cap w (by simpa [← hsp.eq] using H)
    refine op_val ?_ h'
    unfold execOp
    rw [ho]
    have hx' : a.eval x = .slice none 0 0 := hx
    simp only [resolve, invoke, builtin, Sem.run_bind, Sem.run_pure, Result.andThen_ok, List.map_toArray, List.map_cons, List.map_nil, hs, hx', hr]
    rfl
  | some g =>
    obtain ⟨cur, hg, hcs, hnc, hcm, htake⟩ := row_get hrow
    have hly : ys.length = m * size := by
      rw [← htake, List.length_take, Array.length_toList, hcs]
      exact Nat.min_eq_left (Nat.mul_le_mul_right _ hnc)
    refine op_append s x t ho ht hs hx H hsp hly ?_ h1 hbytes h63 h
    intro j u hu
    have hj := (List.getElem?_eq_some_iff.1 hu).1
    have hadd : (⟨g, 0, none⟩ : Addr).add j = ⟨g, j, none⟩ := by unfold Addr.add; split <;> simp_all
    rw [hadd, row_cell hrow j (by omega)]
    exact hu

/-- All of one cell. -/
def One (ys : List Value) : Prop := ∀ u ∈ ys, u.oneCell' = true
theorem One.nil : One [] := by intro u hu; cases hu
theorem One.append {xs ys : List Value} (h : One xs) (h' : One ys) : One (xs ++ ys) := by
  intro u hu
  rcases List.mem_append.1 hu with hu | hu
  · exact h u hu
  · exact h' u hu
theorem One.cons {x : Value} {ys : List Value} (h : x.oneCell' = true) (h' : One ys) : One (x :: ys) := by
  intro u hu
  rcases List.mem_cons.1 hu with rfl | hu
  · exact h
  · exact h' u hu

/-- '[]byte(s)', to be read. -/
theorem op_convBytes_arr (src dst e : TypeId) (x : Operand) (ho : o.op = .convert src dst x) {u : TypeDesc}
    (hs : P.underlying src = some u) (hd : P.underlying dst = some (.slice e)) (he : P.underlying e = some (.int .u8)) (s : ByteArray) (hx : a.eval x = .string s) (H : St S w0 w L)
    (h : ∀ b w' cap ys, One ys → ys.length = s.size → St S w0 w' ((true, .arr (some ⟨b, 0, none⟩) ys) :: L) → K (a.put o.dst (.slice (some ⟨b, 0, none⟩) s.size cap)) w') : o.wp P a w K Q := by
  refine op_convBytes src dst e x ho hs hd he s hx H (fun b w' cap cells fr _ H1 => h b w' cap (s.data.map fun b => Value.int .u8 b.toNat).toList ?_ ?_ (H1.turn (.here _ _) (Ext.refl _ _) ?_ rfl))
  · intro u hu
    simp only [Array.toList_map, List.mem_map] at hu
    obtain ⟨b, _, rfl⟩ := hu
    rfl
  · rw [Array.length_toList, Array.size_map]
    rfl
  · have hg := H1.get (.here _ _)
    refine ⟨rfl, lt_of_get hg, fun j hj => ?_⟩
    rw [cell_of_row w' b (0 + j) _ _ _ hg, Nat.zero_add]
    simp only [Array.length_toList] at hj
    rw [Array.getElem?_append_left hj]
    simp

/-- APPEND of the elements of a piece of memory. -/
theorem op_append_arr (s x : Operand) (t : TypeId) (ho : o.op = .call { callee := .builtin .append, args := #[s, x], argTypes := #[t, t] })
    {e : TypeId} {size bytes : Nat} {z : Value} (ht : Elem P t e size bytes z) {key : Option Nat} {src : Option Addr} {n cap m c : Nat} {xs ys : List Value} {A B A' B' : List Ent} {p : Bool}
    (hs : a.eval s = sl key n cap) (hx : a.eval x = .slice src m c) (H : St S w0 w L) (hsp : Split L (true, .row key e size n cap xs) A B) (hy : Split L (p, .arr src ys) A' B')
    (hl : ys.length = m * size) (hnil : src = none → m = 0) (h1 : One ys) (hbytes : (n + m) * bytes ≤ 140737488355328) (h63 : n + m ≤ maxLen)
    (h : ∀ key' cap' w', St S w0 w' (A ++ (true, .row key' e size (n + m) cap' (xs ++ ys)) :: B) → K (a.put o.dst (sl key' (n + m) cap')) w') : o.wp P a w K Q := by
  have harr := H.all _ hy.mem
  cases src with
  | none =>
    have hm := hnil rfl
    subst hm
    have hys : ys = [] := harr
    subst hys
    obtain ⟨ht1, ht2, ht3⟩ := ht
    obtain ⟨i, hi, hi2⟩ := Option.map_eq_some_iff.1 ht2
    have hr := run_append_nothing (P := P) t o.type e i size c ht1 hi key n cap xs (H.all _ hsp.mem)
    have h' := h key cap w (by simpa [← hsp.eq] using H)
    refine op_val ?_ h'
    unfold execOp
    rw [ho]
    simp only [resolve, invoke, builtin, Sem.run_bind, Sem.run_pure, Result.andThen_ok, List.map_toArray, List.map_cons, List.map_nil, hs, hx, hr]
    rfl
  | some g =>
    obtain ⟨gb, go, gs⟩ := g
    obtain ⟨h2, _, h3⟩ := harr
    have h2' : gs = none := h2
    subst h2'
    refine op_append s x t ho ht hs hx H hsp hl ?_ h1 hbytes h63 h
    intro j u hu
    have hj := (List.getElem?_eq_some_iff.1 hu).1
    have hadd : (⟨gb, go, none⟩ : Addr).add j = ⟨gb, go + j, none⟩ := by unfold Addr.add; split <;> simp_all
    rw [hadd]
    exact (h3 j hj).trans hu

/-- make([]T, n). -/
theorem op_make (t : TypeId) (x y : Operand) (ho : o.op = .makeSlice t x y) {e : TypeId} {size bytes : Nat} {z : Value} (ht : Elem P t e size bytes z) {kl kc : IntKind} {n : Nat}
    (hx : a.eval x = .int kl n) (hy : a.eval y = .int kc n) (H : St S w0 w L) (hbytes : bytes * n ≤ 281474976710656) (h63 : n ≤ maxLen)
    (h : ∀ b w', St S w0 w' ((true, .row (some b) e size n n (madeCells z.cells (n * size)).toList) :: L) → K (a.put o.dst (sl (some b) n n)) w') : o.wp P a w K Q := by
  obtain ⟨ht1, ht2, ht3⟩ := ht
  obtain ⟨i, hi, hi2⟩ := Option.map_eq_some_iff.1 ht2
  simp only [Prod.mk.injEq] at hi2
  obtain ⟨hz, rfl, rfl⟩ := hi2
  have h63' : (n : Int) ≤ 9223372036854775807 := by simp only [maxLen] at h63; omega
  have hb' : (i.bytes : Int) * (n : Int) ≤ 281474976710656 := by
    have h : ((i.bytes * n : Nat) : Int) ≤ 281474976710656 := by omega
    rwa [Int.natCast_mul] at h
  have hr := run_make (P := P) w t e i z ht1 hi hz kl kc n n (by omega) (Int.le_refl _) hb' h63'
  simp only [Int.toNat_natCast] at hr
  have H1 := H.alloc (.cells (madeCells z.cells (n * i.size)) e)
  have H2 := H1.replace (k' := .row (some w.heap.size) e i.size n n (madeCells z.cells (n * i.size)).toList) (.here _ _) (Ext.refl _ _) ⟨_, heap_alloc_new w _, size_madeCells _ _, Nat.le_refl _, h63, List.take_of_length_le (by simp [size_madeCells])⟩ (by simp [Kn.fp]) (fun b hb => .inl hb)
  refine op_val ?_ (h w.heap.size _ (by simpa using H2))
  unfold execOp
  rw [ho]
  simp only [Sem.run_bind, Sem.run_pure, hx, hy, hr, Result.andThen_ok]
  rfl
end

section
variable {P : Program} {S : List Nat} {w0 w : World} {L : List Ent} {o : Oper} {a : Act} {K : Act → World → Prop} {Q : Exit → Act → World → Prop}

/-- copy(row, row): elements of one cell. -/
theorem op_copy_row (x y : Operand) (t u : TypeId) (ho : o.op = .call { callee := .builtin .copy, args := #[x, y], argTypes := #[t, u] })
    {e : TypeId} (ht : P.underlying t = some (.slice e)) (hsz : (P.info? e).map (·.size) = some 1) {b off dLen dCap : Nat} {T n cap : Nat} {xs : List Value} {A B : List Ent} {src : Option Addr} {m c : Nat} {ys : List Value}
    (hx : a.eval x = .slice (some ⟨b, off, none⟩) dLen dCap) (hy : a.eval y = .slice src m c) (H : St S w0 w L) (hs : Split L (true, .row (some b) T 1 n cap xs) A B)
    (hl : ys.length = min m dLen) (hfit : off + dLen ≤ n) (hsrc : ∀ ad, src = some ad → ∀ j u, ys[j]? = some u → w.cell? (ad.add j) = some u) (hnil : src = none → m = 0) (h1 : ∀ u ∈ ys, u.oneCell' = true)
    (h : ∀ w', St S w0 w' (A ++ (true, .row (some b) T 1 n cap (xs.take off ++ ys ++ xs.drop (off + ys.length))) :: B) → K (a.put o.dst (.int .i64 ys.length)) w') : o.wp P a w K Q := by
  obtain ⟨cur, hg, h2, h3, h4, h5⟩ := row_get (H.all _ hs.mem)
  have hfit' : off + ys.length ≤ cur.size := by omega
  have hrun : (Builtin.copy_ #[t, u] o.type #[.slice (some ⟨b, off, none⟩) dLen dCap, .slice src m c]).run P w = .ok (goInt ys.length) (w.setRow b (splice cur off ys)) := by
    cases src with
    | some ad => exact run_copy_row P w t u o.type e b off dLen dCap ad m c cur T ys ht hsz hg hl (hsrc ad rfl) hfit' h1
    | none =>
      have hm := hnil rfl
      subst hm
      have hy0 : ys = [] := List.eq_nil_of_length_eq_zero (by simpa using hl)
      subst hy0
      have e1 : w.setRow b (splice cur off []) = w := by
        have : splice cur off [] = cur := by simp [splice]
        rw [this]
        exact setRow_self w b cur T (0, 0) hg
      rw [e1]
      cases hq : P.info? e with
      | none => simp [hq] at hsz
      | some i => simp [Builtin.copy_, run_underlying ht, Builtin.lenOf, Builtin.firstCells, sizeOf, typeInfo, hq, storeCells]
  have hsp := size_splice cur off ys hfit'
  refine op_val ?_ (h _ (H.turn (k' := .row (some b) T 1 n cap _) hs (Ext.setRow (splice cur off ys)) ⟨_, setRow_heap w b cur _ T _ hg, hsp.trans h2, h3, h4, ?_⟩ rfl))
  · unfold execOp
    rw [ho]
    simp only [resolve, invoke, builtin, Sem.run_bind, Sem.run_pure, Result.andThen_ok, List.map_toArray, List.map_cons, List.map_nil, hx, hy, hrun]
    rfl
  · subst h5
    simp only [Nat.mul_one] at h2 ⊢
    simp only [splice, List.take_append, List.take_take, List.drop_take, List.length_append, List.length_take, Array.length_toList]
    rw [Nat.min_eq_left (by omega : off ≤ n), Nat.min_eq_right (by omega : off ≤ n)]
    rw [Nat.min_eq_left (by omega : off ≤ cur.size)]
    congr 1
    · congr 1
      exact List.take_of_length_le (by omega)

/-- string(b). -/
theorem op_convString (src dst e : TypeId) (x : Operand) (ho : o.op = .convert src dst x)
    (hs : P.underlying src = some (.slice e)) (he : P.underlying e = some (.int .u8)) (hd : P.underlying dst = some .string) {ad : Addr} {l c : Nat} {bs : List UInt8} (hx : a.eval x = .slice (some ad) l c) (hl : l = bs.length)
    (hc : ∀ j (hj : j < bs.length), w.cell? (ad.add j) = some (.int .u8 (bs[j].toNat : Int)))
    (h : K (a.put o.dst (.string ⟨bs.toArray⟩)) w) : o.wp P a w K Q := by
  subst hl
  refine op_val ?_ h
  unfold execOp
  rw [ho]
  simp only [Sem.run_bind, Sem.run_pure, hx, run_convert_bytes_back w src dst e ad c bs hs he hd hc, Result.andThen_ok]
end

/-- []T{..}: what is written out, as a block that is known cell by cell. -/
theorem op_buildSlice {P : Program} {S : List Nat} {w0 w : World} {L : List Ent} {o : Oper} {a : Act} {K : Act → World → Prop} {Q : Exit → Act → World → Prop} (t n : Nat) (parts : Array (Nat × Operand)) (ho : o.op = .buildSlice t n parts) {e : TypeId} {size bytes : Nat} {z : Value} (ht : Elem P t e size bytes z)
    {cells : Array Value} (hsmall : Nat.ble (n * size) 16777216 = true) (hf : Instr.fill (fun i => some (i * size, size)) (madeCells z.cells (n * size)) (parts.map fun (i, x) => (i, a.eval x)).toList = some cells) (H : St S w0 w L)
    (h : ∀ b w', St S w0 w' ((true, .is b (.cells cells e (0, 0))) :: L) → K (a.put o.dst (.slice (some ⟨b, 0, none⟩) n n)) w') : o.wp P a w K Q := by
  obtain ⟨ht1, ht2, ht3⟩ := ht
  obtain ⟨i, hi, hi2⟩ := Option.map_eq_some_iff.1 ht2
  simp only [Prod.mk.injEq] at hi2
  obtain ⟨hz, rfl, rfl⟩ := hi2
  have hle := Nat.le_of_ble_eq_true hsmall
  have hle' : ¬ (2 ^ 24 < n * i.size) := by omega
  refine op_val ?_ (h w.heap.size _ (H.alloc _))
  unfold execOp
  rw [ho]
  have hf' : Instr.fill (fun j => some (j * i.size, i.size)) ((Array.range (n * i.size)).map (z.cells[· % z.cells.size]!)) (parts.map fun (j, x) => (j, a.eval x)).toList = some cells := hf
  have h24 : ¬ (16777216 < n * i.size) := by omega
  by_cases hn : n * i.size = 0
  · rw [hn] at hf'
    simp [Instr.buildSlice, run_underlying ht1, sizeOf, typeInfo, hi, newRow, hn] at hf' ⊢
    rw [show (Array.range 0 : Array Nat) = #[] from rfl] at hf' ⊢
    simp at hf' ⊢
    simp [hf']
  · simp only [Array.toList_map] at hf'
    simp [Instr.buildSlice, run_underlying ht1, sizeOf, typeInfo, hi, newRow, hn, h24, zeroValue, hz, hf']

theorem fold_set (cs : List Value) : ∀ (pre post : List Value) (old : List Value) (k : Nat), old.length = cs.length →
    ((cs.zipIdx k).foldl (fun (a : Array Value) (x : Value × Nat) => a.setIfInBounds (pre.length + x.2 - k) x.1) (pre ++ old ++ post).toArray) = (pre ++ cs ++ post).toArray := by
  induction cs with
  | nil =>
    intro pre post old k h
    have : old = [] := List.eq_nil_of_length_eq_zero (by simpa using h)
    subst this
    simp
  | cons c cs ih =>
    intro pre post old k h
    cases old with
    | nil => simp at h
    | cons o old =>
      have hl : old.length = cs.length := by simpa using h
      rw [List.zipIdx_cons, List.foldl_cons]
      have e1 : (pre ++ o :: old ++ post).toArray.setIfInBounds (pre.length + k - k) c = ((pre ++ [c]) ++ old ++ post).toArray := by
        rw [show pre.length + k - k = pre.length by omega]
        simp [List.set_append]
      rw [e1]
      have := ih (pre ++ [c]) post old (k + 1) hl
      rw [show (fun (a : Array Value) (x : Value × Nat) => a.setIfInBounds (pre.length + x.2 - k) x.1) = fun a x => a.setIfInBounds ((pre ++ [c]).length + x.2 - (k + 1)) x.1 by
        funext a x
        congr 1
        simp only [List.length_append, List.length_cons, List.length_nil]
        omega]
      rw [this]
      simp

theorem fill_seq (size : Nat) : ∀ (ps : List (Nat × Value)) (k : Nat) (pre rest : List Value), pre.length = k * size → rest.length = ps.length * size → (∀ p ∈ ps, p.2.cells.size = size) → ps.map (·.1) = List.range' k ps.length →
    Instr.fill (fun i => some (i * size, size)) (pre ++ rest).toArray ps = some (pre ++ ps.flatMap fun p => p.2.cells.toList).toArray
  | [], k, pre, rest, _, hr, _, _ => by
    have : rest = [] := List.eq_nil_of_length_eq_zero (by simpa using hr)
    subst this
    simp [Instr.fill]
  | (i, v) :: ps, k, pre, rest, hp, hr, hc, hi => by
    simp only [List.map_cons, List.length_cons, List.range'_succ, List.cons.injEq] at hi
    obtain ⟨rfl, hi⟩ := hi
    have hv : v.cells.size = size := hc (i, v) (by simp)
    have hlen : v.cells.toList.length = size := by simpa using hv
    obtain ⟨old, post, rfl, hol⟩ : ∃ old post, rest = old ++ post ∧ old.length = size := ⟨rest.take size, rest.drop size, by simp, by
      rw [List.length_take, hr, List.length_cons, Nat.add_mul]
      omega⟩
    have hpost : post.length = ps.length * size := by
      rw [List.length_append, hol, List.length_cons, Nat.add_mul] at hr
      omega
    unfold Instr.fill
    simp only
    rw [if_neg (by
      simp only [hv, List.size_toArray, List.length_append, hp, hol, ne_eq, not_true_eq_false, decide_false, Bool.false_or, decide_eq_true_eq]
      omega)]
    have e := fold_set v.cells.toList pre post old 0 (by rw [hol, hlen])
    have e2 : v.cells.zipIdx.foldl (fun cs (x : Value × Nat) => cs.setIfInBounds (i * size + x.2) x.1) (pre ++ (old ++ post)).toArray = (pre ++ v.cells.toList ++ post).toArray := by
      rw [← e, ← Array.foldl_toList, Array.toList_zipIdx, hp]
      simp
    have e3 : (v.cells.zipIdx.foldl (fun cs (x : Value × Nat) => match x with | (c, j) => cs.setIfInBounds (i * size + j) c) (pre ++ (old ++ post)).toArray) = (pre ++ v.cells.toList ++ post).toArray := e2
    rw [e3]
    have := fill_seq size ps (i + 1) (pre ++ v.cells.toList) post (by rw [List.length_append, hp, hlen, Nat.add_mul]; omega) hpost (fun p hp => hc p (by simp [hp])) hi
    rw [this]
    simp

/-- .. with all parts written out, in order. -/
theorem op_buildSlice_all {P : Program} {S : List Nat} {w0 w : World} {L : List Ent} {o : Oper} {a : Act} {K : Act → World → Prop} {Q : Exit → Act → World → Prop} (t n : Nat) (parts : Array (Nat × Operand)) (ho : o.op = .buildSlice t n parts) {e : TypeId} {size bytes : Nat} {z : Value} (ht : Elem P t e size bytes z)
    (hsmall : Nat.ble (n * size) 16777216 = true) (hidx : parts.toList.map (·.1) = List.range' 0 n) (hsz : (parts.toList.all fun p => Nat.beq (a.eval p.2).cells.size size) = true) (H : St S w0 w L)
    (h : ∀ b w', St S w0 w' ((true, .is b (.cells (parts.toList.flatMap fun p => (a.eval p.2).cells.toList).toArray e (0, 0))) :: L) → K (a.put o.dst (.slice (some ⟨b, 0, none⟩) n n)) w') : o.wp P a w K Q := by
  have hn : parts.toList.length = n := by
    have := congrArg List.length hidx
    simpa using this
  refine op_buildSlice t n parts ho ht (cells := (parts.toList.flatMap fun p => (a.eval p.2).cells.toList).toArray) hsmall ?_ H h
  have := fill_seq size (parts.toList.map fun p => (p.1, a.eval p.2)) 0 [] (madeCells z.cells (n * size)).toList (by simp) (by simp [size_madeCells, ← hn]) (by
    intro p hp
    obtain ⟨q, hq, rfl⟩ := List.mem_map.1 hp
    exact Nat.eq_of_beq_eq_true (List.all_eq_true.1 hsz q hq)) (by rw [List.map_map, List.length_map, hn]; exact hidx)
  simp only [List.nil_append, Array.toArray_toList, List.flatMap_map] at this
  simpa [List.map_map] using this

/-- The rules by which what is known is read anew behind an operation. -/
theorem nrm : (∀ {α : Type} (l : List α), [] ++ l = l) ∧ (∀ {α : Type} (x : α) (l m : List α), x :: l ++ m = x :: (l ++ m)) ∧ (∀ {α : Type} (l m n : List α), l ++ m ++ n = l ++ (m ++ n)) ∧
    (∀ {α : Type} (x : α) (l : List α) (n : Nat), (x :: l).take (n + 1) = x :: l.take n) ∧ (∀ {α : Type} (l : List α), l.take 0 = []) ∧ (∀ {α : Type} (x : α) (l : List α) (n : Nat), (x :: l).drop (n + 1) = l.drop n) ∧ (∀ {α : Type} (l : List α), l.drop 0 = l) ∧
    (∀ {α : Type} (x : α) (l : List α), (x :: l).length = l.length + 1) ∧ (∀ {α : Type}, ([] : List α).length = 0) ∧ (∀ {α : Type} (l : List α), l.toArray.size = l.length) ∧ (∀ n : Nat, 0 + n = n) ∧
    (∀ {α : Type} (a : Array α) (i : Nat) (x : α), a.getD i x = (a[i]?).getD x) ∧ (∀ {α : Type} (l : List α) (i : Nat), l.toArray[i]? = l[i]?) ∧ (∀ {α : Type} (x : α) (l : List α) (i : Nat), (x :: l)[i + 1]? = l[i]?) ∧ (∀ {α : Type} (x : α) (l : List α), (x :: l)[0]? = some x) ∧
    (∀ {α : Type} (x y : α), (some x).getD y = x) ∧ (∀ {α β : Type} (x : α) (l : List α) (f : α → List β), (x :: l).flatMap f = f x ++ l.flatMap f) ∧ (∀ {α β : Type} (f : α → List β), ([] : List α).flatMap f = []) ∧ (∀ {α : Type} (l : List α), l ++ [] = l) ∧
    (∀ {α : Type} (l : List α) (i : Nat) (x : α), l.toArray.setIfInBounds i x = (l.set i x).toArray) ∧ (∀ {α : Type} (x y : α) (l : List α) (i : Nat), (x :: l).set (i + 1) y = x :: l.set i y) ∧ (∀ {α : Type} (x y : α) (l : List α), (x :: l).set 0 y = y :: l) :=
  ⟨fun _ => List.nil_append _, fun _ _ _ => List.cons_append, fun _ _ _ => List.append_assoc _ _ _, fun _ _ _ => List.take_succ_cons, fun _ => List.take_zero, fun _ _ _ => List.drop_succ_cons, fun _ => List.drop_zero, fun _ _ => List.length_cons, List.length_nil, fun _ => List.size_toArray, fun _ => Nat.zero_add _,
    fun _ _ _ => Array.getD_eq_getD_getElem? .., fun _ _ => List.getElem?_toArray .., fun _ _ _ => List.getElem?_cons_succ, fun _ _ => List.getElem?_cons_zero, fun _ _ => Option.getD_some, fun _ _ _ => List.flatMap_cons, fun _ => List.flatMap_nil, fun _ => List.append_nil _, fun _ _ _ => List.setIfInBounds_toArray .., fun _ _ _ _ => List.set_cons_succ, fun _ _ _ => List.set_cons_zero⟩
/-- .. for the slots alone. -/
theorem slt : (∀ {α : Type} (l : List α) (i : Nat) (x : α), l.toArray.setIfInBounds i x = (l.set i x).toArray) ∧ (∀ {α : Type} (x y : α) (l : List α) (i : Nat), (x :: l).set (i + 1) y = x :: l.set i y) ∧ (∀ {α : Type} (x y : α) (l : List α), (x :: l).set 0 y = y :: l) :=
  ⟨fun _ _ _ => List.setIfInBounds_toArray .., fun _ _ _ _ => List.set_cons_succ, fun _ _ _ => List.set_cons_zero⟩

/-- A call with arguments of this form. -/
theorem gate_args {P : Program} {f : FuncId} {l : List Value} {w : World} {Q : Ending → World → Prop} (h : Calls P f l.toArray w Q) : Calls P f l.toArray w Q := h

/-- Operations for which there are laws here. -/
def loud (o : Oper) : Bool := match o.op with
  | .alloc _ | .box .. | .store .. | .buildSlice .. | .makeSlice .. | .convert .. | .mapUpdate .. | .makeMap .. => true
  | .call { callee := .builtin .append, .. } | .call { callee := .builtin .copy, .. } => true
  | _ => false
theorem loud_ {P : Program} {ops : Array Oper} {Q : Exit → Act → World → Prop} {o : Oper} {l : List Oper} {a : Act} {w : World} (_h : loud o = true) (h : wpList P ops Q (o :: l) a w) : wpList P ops Q (o :: l) a w := h
end Go.V
