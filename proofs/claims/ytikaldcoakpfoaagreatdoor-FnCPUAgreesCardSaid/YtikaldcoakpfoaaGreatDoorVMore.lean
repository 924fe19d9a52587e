import Derived.Test.YtikaldcoakpfoaaGreatDoorVLaws
import Derived.Test.YtikaldcoakpfoaaGreatDoorVDraw
namespace Go.V
set_option linter.unusedVariables false
set_option linter.unusedSimpArgs false
set_option linter.unnecessarySimpa false
open Go Go.RowKit
section
variable {P : Program} {S : List Nat} {w0 w : World} {L : List Ent} {o : Oper} {a : Act} {K : Act → World → Prop} {Q : Exit → Act → World → Prop}

/-- []T{}: a row of no elements. -/
theorem op_buildSlice_none (t n : Nat) (parts : Array (Nat × Operand)) (ho : o.op = .buildSlice t n parts) {e : TypeId} {size bytes : Nat} {z : Value} (ht : Elem P t e size bytes z) (hn : Nat.beq n 0 = true) (hp : parts = #[]) (H : St S w0 w L)
    (h : ∀ b w', St S w0 w' ((true, .row (some b) e size 0 0 []) :: L) → K (a.put o.dst (sl (some b) 0 0)) w') : o.wp P a w K Q := by
  have hn0 := Nat.eq_of_beq_eq_true hn
  subst hn0 hp
  refine op_buildSlice_all t 0 #[] ho ht (by simp) rfl (by simp) H (fun b w' H1 => ?_)
  refine h b w' (H1.turn (.here _ _) (Ext.refl _ _) ?_ rfl)
  exact ⟨_, H1.get (.here _ _), by simp, Nat.le_refl _, Nat.zero_le _, by simp⟩

/-- What may be written may be read. -/
theorem St.ro {A B : List Ent} {k : Kn} (h : St S w0 w L) (hs : Split L (true, k) A B) : St S w0 w (A ++ (false, k) :: B) := by
  have hsub : ∀ {x : Ent}, x ∈ A ++ B → x ∈ L := fun hx => hs.sublist.subset hx
  have h0 := h.sublist hs.sublist
  have h1 : St S w0 w ((false, k) :: (A ++ B)) := by
    refine h0.cons (false, k) (show holds w k from h.all (true, k) hs.mem) (by simp) (fun x hx _ b hb => ?_) (by simp)
    exact hs.dis h.apart x hx (.inl rfl) b hb
  exact h1.reorder (List.perm_middle.symm)

/-- Cells that are told one by one. -/
def KnAt (w : World) (b off : Nat) : Nat → List Value → Prop
  | _, [] => True
  | i, v :: xs => w.cell? ⟨b, off + i, none⟩ = some v ∧ KnAt w b off (i + 1) xs
theorem knAt_nil (w : World) (b off i : Nat) : KnAt w b off i [] = True := rfl
theorem knAt_cons (w : World) (b off i : Nat) (v : Value) (xs : List Value) : KnAt w b off i (v :: xs) = (w.cell? ⟨b, off + i, none⟩ = some v ∧ KnAt w b off (i + 1) xs) := rfl
theorem knAt_iff (w : World) (b off : Nat) : ∀ (xs : List Value) (i : Nat), (∀ j, j < xs.length → w.cell? ⟨b, off + (i + j), none⟩ = xs[j]?) ↔ KnAt w b off i xs
  | [], i => by simp [knAt_nil]
  | v :: xs, i => by
    rw [knAt_cons, ← knAt_iff w b off xs (i + 1)]
    constructor
    · intro h
      refine ⟨by simpa using h 0 (by simp), fun j hj => ?_⟩
      have := h (j + 1) (by simpa using hj)
      rw [show i + 1 + j = i + (j + 1) by omega]
      simpa using this
    · rintro ⟨h1, h2⟩ j hj
      cases j with
      | zero => simpa using h1
      | succ j =>
        have := h2 j (by simpa using hj)
        rw [show i + 1 + j = i + (j + 1) by omega] at this
        simpa using this
theorem arr_lit (w : World) (b off : Nat) (v : Value) (xs : List Value) : (∀ j, j < (v :: xs).length → w.cell? ⟨b, off + j, none⟩ = (v :: xs)[j]?) = KnAt w b off 0 (v :: xs) := by
  rw [← knAt_iff w b off (v :: xs) 0]
  simp only [Nat.zero_add]

/-- The rules by which cells are read anew. -/
theorem knc : (∀ (w : World) (b off : Nat) (v : Value) (xs : List Value), (∀ j, j < (v :: xs).length → w.cell? ⟨b, off + j, none⟩ = (v :: xs)[j]?) = KnAt w b off 0 (v :: xs)) ∧ (∀ (w : World) (b off i : Nat) (v : Value) (xs : List Value), KnAt w b off i (v :: xs) = (w.cell? ⟨b, off + i, none⟩ = some v ∧ KnAt w b off (i + 1) xs)) ∧
    (∀ (w : World) (b off i : Nat), KnAt w b off i [] = True) ∧ (∀ n : Nat, 0 + n = n) ∧ (∀ n : Nat, n + 0 = n) :=
  ⟨arr_lit, knAt_cons, knAt_nil, Nat.zero_add, Nat.add_zero⟩
/-- An element of what is only read, for itself. -/
theorem flat_at {α : Type} (cells : α → List Value) (c : Nat) : ∀ (l : List α), (∀ a ∈ l, (cells a).length = c) → ∀ (i j : Nat) (hi : i < l.length), j < c → (l.flatMap cells)[i * c + j]? = (cells l[i])[j]?
  | [], _, i, j, hi, _ => by simp at hi
  | a :: l, hl, i, j, hi, hj => by
    have ha := hl a (by simp)
    rw [List.flatMap_cons]
    cases i with
    | zero =>
      rw [List.getElem?_append_left (by omega)]
      simp
    | succ i =>
      rw [List.getElem?_append_right (by rw [ha, Nat.add_mul]; omega), ha, show (i + 1) * c + j - c = i * c + j by rw [Nat.add_mul]; omega]
      exact flat_at cells c l (fun b hb => hl b (by simp [hb])) i j (by simpa using hi) hj
theorem flat_len {α : Type} (cells : α → List Value) (c : Nat) : ∀ (l : List α), (∀ a ∈ l, (cells a).length = c) → (l.flatMap cells).length = l.length * c
  | [], _ => by simp
  | a :: l, hl => by
    rw [List.flatMap_cons, List.length_append, hl a (by simp), flat_len cells c l (fun b hb => hl b (by simp [hb])), List.length_cons, Nat.add_mul]
    omega
theorem St.elem {A B : List Ent} {b off : Nat} {xs : List Value} (h : St S w0 w L) (hs : Split L (false, .arr (some ⟨b, off, none⟩) xs) A B) (i : Nat) (ys : List Value) (hi : i + ys.length ≤ xs.length) (hy : ∀ j, j < ys.length → xs[i + j]? = ys[j]?) :
    St S w0 w ((false, .arr (some ⟨b, off + i, none⟩) ys) :: L) := by
  obtain ⟨_, h2, h3⟩ := h.get hs
  refine h.sub hs (.arr (some ⟨b, off + i, none⟩) ys) ⟨rfl, h2, fun j hj => ?_⟩ (by simp [Kn.fp])
  rw [← hy j hj, ← h3 (i + j) (by omega)]
  simp [Nat.add_assoc]
theorem St.roArr {A B : List Ent} {key : Option Nat} {T size n cap : Nat} {xs : List Value} (h : St S w0 w L) (hs : Split L (true, .row key T size n cap xs) A B) : St S w0 w (A ++ (false, .arr (key.map fun b => ⟨b, 0, none⟩) xs) :: B) := by
  have h1 := h.asArr hs
  have hs' : Split (A ++ (true, Kn.arr (key.map fun b => ⟨b, 0, none⟩) xs) :: B) (true, Kn.arr (key.map fun b => ⟨b, 0, none⟩) xs) A B := by
    clear h h1 hs
    induction A with
    | nil => exact .here _ _
    | cons a A ih => exact .there _ ih
  exact h1.ro hs'

/-- The cells from an address on, if there are any. -/
def Lies (w : World) (s : Option Addr) (xs : List Value) : Prop := (s = none → xs = []) ∧ ∀ ad, s = some ad → ∀ j u, xs[j]? = some u → w.cell? (ad.add j) = some u
theorem lies_of_arr {w : World} {s : Option Addr} {xs : List Value} (h : holds w (.arr s xs)) : Lies w s xs := by
  cases s with
  | none => exact ⟨fun _ => h, fun _ h => by cases h⟩
  | some a =>
    refine ⟨fun h => (by cases h), ?_⟩
    intro ad had j u hu
    simp only [Option.some.injEq] at had
    subst had
    obtain ⟨b, o, sp⟩ := a
    obtain ⟨h1, h2, h3⟩ := h
    have h1' : sp = none := h1
    subst h1'
    have hj := (List.getElem?_eq_some_iff.1 hu).1
    rw [← hu, ← h3 j hj]
    congr 1
    unfold Addr.add
    split <;> simp_all
theorem Lies.ext {w w' : World} {s : Option Addr} {xs : List Value} (h : Lies w s xs) (e : Ext [] w w') : Lies w' s xs := by
  refine ⟨h.1, fun ad had j u hu => ?_⟩
  have h1 := h.2 ad had j u hu
  refine (World.cell?_of_block (a := ad.add j) (e.block _ ?_ (by simp))).trans h1
  unfold World.cell? at h1
  split at h1
  · rename_i hb
    exact lt_of_get hb
  · cases h1
theorem Lies.nil (w : World) (s : Option Addr) : Lies w s [] := ⟨fun _ => rfl, fun _ _ j u h => by simp at h⟩

/-- APPEND of elements that lie somewhere. -/
theorem op_append_lies (s x : Operand) (t : TypeId) (ho : o.op = .call { callee := .builtin .append, args := #[s, x], argTypes := #[t, t] })
    {e : TypeId} {size bytes : Nat} {z : Value} (ht : Elem P t e size bytes z) {key : Option Nat} {src : Option Addr} {n cap m c : Nat} {xs ys : List Value} {A B : List Ent}
    (hs : a.eval s = sl key n cap) (hx : a.eval x = .slice src m c) (H : St S w0 w L) (hsp : Split L (true, .row key e size n cap xs) A B) (hy : Lies w src ys)
    (hl : ys.length = m * size) (hnil : src = none → m = 0) (h1 : One ys) (hbytes : (n + m) * bytes ≤ 140737488355328) (h63 : n + m ≤ maxLen)
    (h : ∀ key' cap' w', St S w0 w' (A ++ (true, .row key' e size (n + m) cap' (xs ++ ys)) :: B) → K (a.put o.dst (sl key' (n + m) cap')) w') : o.wp P a w K Q := by
  cases src with
  | none =>
    have hm := hnil rfl
    subst hm
    have hys : ys = [] := hy.1 rfl
    subst hys
    obtain ⟨ht1, ht2, ht3⟩ := ht
    obtain ⟨i, hi, hi2⟩ := Option.map_eq_some_iff.1 ht2
    have hr := run_append_nothing (P := P) t o.type e i size c ht1 hi key n cap xs (H.all _ hsp.mem)
    have h' := h key cap w (by simpa [← hsp.eq] using H)
    refine op_val ?_ h'
    unfold execOp
    rw [ho]
    simp only [resolve, invoke, builtin, Sem.run_bind, Sem.run_pure, Result.andThen_ok, List.map_toArray, List.map_cons, List.map_nil, hs, hx, hr]
    rfl
  | some g => exact op_append s x t ho ht hs hx H hsp hl (hy.2 g rfl) h1 hbytes h63 h
/-- .. onto nil: a row of its own. -/
theorem op_append_nil (s x : Operand) (t : TypeId) (ho : o.op = .call { callee := .builtin .append, args := #[s, x], argTypes := #[t, t] })
    {e : TypeId} {size bytes : Nat} {z : Value} (ht : Elem P t e size bytes z) {src : Option Addr} {m c : Nat} {ys : List Value}
    (hs : a.eval s = .slice none 0 0) (hx : a.eval x = .slice src m c) (H : St S w0 w L) (hy : Lies w src ys)
    (hl : ys.length = m * size) (hnil : src = none → m = 0) (h1 : One ys) (hbytes : m * bytes ≤ 140737488355328) (h63 : m ≤ maxLen)
    (h : ∀ key' cap' w', St S w0 w' ((true, .row key' e size m cap' ys) :: L) → K (a.put o.dst (sl key' m cap')) w') : o.wp P a w K Q := by
  refine op_append_lies s x t ho ht (key := none) (n := 0) (cap := 0) (xs := []) hs hx (H.nilRow e size) (.here _ _) hy hl hnil h1 (by simpa using hbytes) (by omega) (fun key' cap' w' H' => ?_)
  rw [Nat.zero_add] at H' ⊢
  exact h key' cap' w' (by simpa using H')

/-- make([]T, n), its value written out. -/
theorem op_make_lit (t : TypeId) (x y : Operand) (ho : o.op = .makeSlice t x y) {e : TypeId} {size bytes : Nat} {z : Value} (ht : Elem P t e size bytes z) {kl kc : IntKind} {n : Nat}
    (hx : a.eval x = .int kl n) (hy : a.eval y = .int kc n) (H : St S w0 w L) (hbytes : bytes * n ≤ 281474976710656) (h63 : n ≤ maxLen)
    (h : ∀ b w', St S w0 w' ((true, .row (some b) e size n n (madeCells z.cells (n * size)).toList) :: L) → K (a.put o.dst (.slice (some ⟨b, 0, none⟩) n n)) w') : o.wp P a w K Q :=
  op_make t x y ho ht hx hy H hbytes h63 h

theorem op_append_nil_arr (s x : Operand) (t : TypeId) (ho : o.op = .call { callee := .builtin .append, args := #[s, x], argTypes := #[t, t] })
    {e : TypeId} {size bytes : Nat} {z : Value} (ht : Elem P t e size bytes z) {src : Option Addr} {m c : Nat} {ys : List Value}
    (hs : a.eval s = .slice none 0 0) (hx : a.eval x = .slice src m c) (H : St S w0 w L) (hy : Lies w src ys)
    (hl : ys.length = m * size) (hnil : src = none → m = 0) (h1 : One ys) (hbytes : m * bytes ≤ 140737488355328) (h63 : m ≤ maxLen)
    (h : ∀ key' cap' w', m ≤ cap' → (key' = none → m = 0) → St S w0 w' ((true, .arr (key'.map fun b => ⟨b, 0, none⟩) ys) :: L) → K (a.put o.dst (sl key' m cap')) w') : o.wp P a w K Q := by
  refine op_append_nil s x t ho ht hs hx H hy hl hnil h1 hbytes h63 (fun key' cap' w' H' => ?_)
  have hr := H'.get (.here _ _)
  refine h key' cap' w' (row_le hr).1 (fun hk => ?_) (H'.asArr (.here _ _))
  subst hk
  exact hr.1

/-- Elements that lie somewhere, to be read (or there are none). -/
def softFp (s : Option Addr) : List Value → List Nat
  | [] => []
  | _ :: _ => s.toList.map (·.block)
abbrev soft (s : Option Addr) (xs : List Value) : Kn := .rep (softFp s xs) (fun w => Lies w s xs)
theorem lies_same {w w' : World} {s : Option Addr} {xs : List Value} (h : Lies w s xs) (hb : ∀ b ∈ softFp s xs, w'.heap[b]? = w.heap[b]?) : Lies w' s xs := by
  refine ⟨h.1, fun ad had j u hu => ?_⟩
  subst had
  have h1 := h.2 _ rfl j u hu
  cases xs with
  | nil => simp at hu
  | cons x xs =>
    refine (World.cell?_of_block (a := ad.add j) (hb _ ?_)).trans h1
    have : (ad.add j).block = ad.block := by unfold Addr.add; split <;> rfl
    simp [softFp, this]
theorem soft_local (s : Option Addr) (xs : List Value) : Local (softFp s xs) (fun w => Lies w s xs) := fun _ _ hb h => lies_same h hb
theorem soft_lt {w : World} {s : Option Addr} {xs : List Value} (h : Lies w s xs) : ∀ b ∈ softFp s xs, b < w.heap.size := by
  intro b hb
  cases xs with
  | nil => simp [softFp] at hb
  | cons x xs =>
    cases s with
    | none => simp [softFp] at hb
    | some ad =>
      have h1 := h.2 ad rfl 0 x rfl
      have h2 : w.cell? ad = some x := h1
      simp only [softFp, Option.toList_some, List.map_cons, List.map_nil, List.mem_singleton] at hb
      subst hb
      unfold World.cell? at h2
      split at h2
      · rename_i hb
        exact lt_of_get hb
      · cases h2
theorem soft_holds {w : World} {s : Option Addr} {xs : List Value} (h : Lies w s xs) : holds w (soft s xs) := ⟨soft_local s xs, soft_lt h, h⟩
/-- What came in, in a call that may turn nothing. -/
theorem St.soft {w0 w : World} {L : List Ent} (H : St [] w0 w L) {s : Option Addr} {xs : List Value} (h : Lies w0 s xs) : St [] w0 w ((false, V.soft s xs) :: L) := by
  have h1 : Lies w s xs := lies_same h (fun b hb => H.ext.block b (soft_lt h b hb) (by simp))
  refine H.read _ (soft_holds h1) (fun x hx hp b hb hbx => ?_)
  have h2 := H.perm x hx hp b hbx
  have h3 := soft_lt h b hb
  simp at h2
  omega
theorem St.lies {p : Bool} {A B : List Ent} {s : Option Addr} {xs : List Value} (H : St S w0 w L) (hs : Split L (p, V.soft s xs) A B) : Lies w s xs := H.rep hs
end
section
variable {P : Program} {ops : Array Oper} {Q : Exit → Act → World → Prop} {S : World → Prop} {ds : List Nat}
/-- An operation whose guard says no. -/
theorem plan_p_skip {i : Nat} {is : List Nat} {r : Plan} {a : Act} {w : World} {o : Oper} (hi : ops[i]? = some o) (hw : Region.wanted o (yielded ops a.tmps) = false) (h : wpPlan P ops Q S ds (.p is r) (a.put o.dst undef) w) : wpPlan P ops Q S ds (.p (i :: is) r) a w := by
  refine plan_p hi (fun N hN => ?_)
  unfold wpQuiet
  rw [hw]
  simp only [Bool.false_eq_true, if_false]
  exact hN _ h
theorem plan_q_skip {i : Nat} {is : List Nat} {r : Plan} {a : Act} {w : World} {o : Oper} (hi : ops[i]? = some o) (hw : Region.wanted o (yielded ops a.tmps) = false) (h : wpPlan P ops Q S ds (.q is r) (a.put o.dst undef) w) : wpPlan P ops Q S ds (.q (i :: is) r) a w := by
  refine plan_q hi (fun N hN => ?_)
  unfold wpQuiet
  rw [hw]
  simp only [Bool.false_eq_true, if_false]
  exact hN _ h
end
end Go.V
