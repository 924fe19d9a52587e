import Derived.Test.YtelddhcggmfloaaLruM
import Derived.Test.YtelddhcggmfloaaVMapS
namespace Go.V
set_option linter.unusedVariables false
set_option linter.unusedSimpArgs false
set_option linter.unnecessarySimpa false
open Go Go.RowKit
open Go.ChangeMaps (setBlock)

theorem run_lenMap {P : Program} {t k e ty : TypeId} (ht : P.underlying t = some (.map k e)) {b : Nat} {es : Array MapEntry} {clock : Nat} {w : World} (hb : w.heap[b]? = some (.map es clock)) :
    (Builtin.len_ #[t] ty #[.map (some b)]).run P w = .ok (.int .i64 es.size) w := by
  simp [Builtin.len_, run_underlying ht, MapKept.run_getObj_map hb, goInt]
section
variable {P : Program} {S : List Nat} {w0 w : World} {L : List Ent} {o : Oper} {a : Act} {K : Act → World → Prop} {Q : Exit → Act → World → Prop}
/-- len(m). -/
theorem op_lenMap (m : Operand) (t k e : TypeId) (ho : o.op = .call { callee := .builtin .len, args := #[m], argTypes := #[t] }) (ht : P.underlying t = some (.map k e)) {b : Nat} {es : Array MapEntry} {clock : Nat}
    (hm : a.eval m = .map (some b)) (hb : w.heap[b]? = some (.map es clock)) (h : K (a.put o.dst (.int .i64 es.size)) w) : o.wp P a w K Q := by
  refine op_val ?_ h
  unfold execOp
  rw [ho]
  simp only [resolve, invoke, builtin, Sem.run_bind, Sem.run_pure, Result.andThen_ok, List.map_toArray, List.map_cons, List.map_nil, hm, run_lenMap ht hb]
end
/-- What a map's object holds, each key once, and when each was laid. -/
structure KVB (f : Int → Value) (es : Array MapEntry) (clock : Nat) (l : AL) : Prop where
  kv : KV1 f es l
  born : ∀ e ∈ es.toList, e.born < clock
  nodup : (es.toList.map (·.born)).Nodup
  once : AOnce l
theorem kvb_nil (f : Int → Value) : KVB f #[] 0 [] := ⟨rfl, by simp, by simp, by simp [AOnce]⟩
theorem kv1_size {f : Int → Value} {es : Array MapEntry} {l : AL} (h : KV1 f es l) : es.size = l.length := by
  have := congrArg List.length h
  simpa using this
/-- One literal as a row. -/
theorem lit_row {S : List Nat} {w0 w : World} {L A B : List Ent} {b : Nat} {T : TypeId} {v : Value} (H : St S w0 w L) (hs : Split L (true, .is b (.cells #[v] T (0, 0))) A B) : St S w0 w (A ++ (true, .row (some b) T 1 1 1 [v]) :: B) :=
  H.turn hs (Ext.refl _ _) ⟨#[v], H.obj hs, rfl, Nat.le_refl _, by unfold maxLen; omega, rfl⟩ rfl
section
variable {P : Program} {S : List Nat} {w0 w : World} {L : List Ent} {o : Oper} {a : Act} {K : Act → World → Prop} {Q : Exit → Act → World → Prop}
theorem op_putB (t kt e : TypeId) (m x y : Operand) (ho : o.op = .mapUpdate t m x y ∨ o.op = .insert t m x y) (ht : P.underlying t = some (.map kt e)) {f : Int → Value} (KA : KeyAs P kt f) {b clock : Nat} {es : Array MapEntry} {l : AL} {k : Int} {v : Value} {A B : List Ent}
    (hm : a.eval m = .map (some b)) (hx : a.eval x = f k) (hy : a.eval y = v) (H : St S w0 w L) (hs : Split L (true, .is b (.map es clock)) A B) (hl0 : KVB f es clock l)
    (h : ∀ es' clock' w', KVB f es' clock' (aput l k v) → St S w0 w' (A ++ (true, .is b (.map es' clock')) :: B) → K (a.put o.dst undef) w') : o.wp P a w K Q := by
  have hl := hl0.kv
  have hg := H.get hs
  have hf := KA.find k es.toList l w hl
  cases hi : aix l k 0 with
  | none =>
    rw [hi] at hf
    have hrun : (Instr.mapUpdate t (.map (some b)) (f k) v).run P w = .ok () (setBlock w b (.map (es.push ⟨f k, v, clock⟩) (clock + 1))) := by
      simp [Instr.mapUpdate, run_underlying ht, MapKept.run_getObj_map hg, KA.check, hf, MapKept.run_setObj_map _ hg, Result.andThen, setBlock]
    refine op_none ?_ (h _ _ _ ?_ (H.turn (k' := .is b (.map (es.push ⟨f k, v, clock⟩) (clock + 1))) hs (setB_ext w b _) (setB_get _ hg) rfl))
    · unfold execOp
      rcases ho with ho | ho
      · rw [ho]
        simp only [Sem.run_bind, Sem.run_pure, hm, hx, hy, hrun, Result.andThen_ok]
      · rw [ho]
        simp only [Sem.run_bind, Sem.run_pure, hm, hx, hy, hrun, Result.andThen_ok]
    · refine ⟨?_, ?_, ?_, aonce_put hl0.once k v⟩
      rotate_left
      · intro x hx
        simp only [Array.toList_push, List.mem_append, List.mem_singleton] at hx
        rcases hx with hx | rfl
        · have := hl0.born x hx; omega
        · show clock < clock + 1; omega
      · simp only [Array.toList_push, List.map_append, List.map_cons, List.map_nil]
        rw [List.nodup_append]
        refine ⟨hl0.nodup, by simp, ?_⟩
        intro a ha b hb e
        rw [List.mem_singleton] at hb
        obtain ⟨x, hx, rfl⟩ := List.mem_map.1 ha
        have := hl0.born x hx
        omega
      unfold KV1
      rw [aput_new hi]
      simp only [Array.toList_push, List.map_append, List.map_cons, List.map_nil]
      rw [show es.toList.map (fun e => (e.key, e.val)) = l.map (fun p => (f p.1, p.2)) from hl]
  | some p =>
    obtain ⟨j, u⟩ := p
    rw [hi] at hf
    obtain ⟨_, hj⟩ := aix_some hi
    rw [Nat.sub_zero] at hj
    have hlen : es.toList.length = l.length := by have := congrArg List.length hl; simpa using this
    have hjl : j < es.size := by have := (List.getElem?_eq_some_iff.1 hj).1; rw [← hlen] at this; simpa using this
    have hkey : (es[j]).key = f k := by
      have h1 : (es.toList.map (fun e => (e.key, e.val)))[j]? = (l.map (fun p => (f p.1, p.2)))[j]? := by rw [show es.toList.map (fun e => (e.key, e.val)) = l.map (fun p => (f p.1, p.2)) from hl]
      rw [List.getElem?_map, List.getElem?_map, hj, List.getElem?_eq_getElem (by simpa using hjl)] at h1
      simp at h1
      exact h1.1
    have hrun : (Instr.mapUpdate t (.map (some b)) (f k) v).run P w = .ok () (setBlock w b (.map (es.modify j fun e => { e with key := f k, val := v }) clock)) := by
      simp [Instr.mapUpdate, run_underlying ht, MapKept.run_getObj_map hg, KA.check, hf, hjl, hkey, KA.stays, MapKept.run_setObj_map _ hg, Result.andThen, setBlock]
    refine op_none ?_ (h _ _ _ ?_ (H.turn (k' := .is b (.map (es.modify j fun e => { e with key := f k, val := v }) clock)) hs (setB_ext w b _) (setB_get _ hg) rfl))
    · unfold execOp
      rcases ho with ho | ho
      · rw [ho]
        simp only [Sem.run_bind, Sem.run_pure, hm, hx, hy, hrun, Result.andThen_ok]
      · rw [ho]
        simp only [Sem.run_bind, Sem.run_pure, hm, hx, hy, hrun, Result.andThen_ok]
    · have hbm : (es.modify j fun e => { e with key := f k, val := v }).toList.map (·.born) = es.toList.map (·.born) := by
        apply List.ext_getElem?
        intro i
        simp only [List.getElem?_map, Array.getElem?_toList, Array.getElem?_modify]
        by_cases hij : j = i
        · subst hij
          simp [hjl]
        · simp [hij]
      refine ⟨?_, ?_, ?_, aonce_put hl0.once k v⟩
      rotate_left
      · intro x hx
        have h1 : x.born ∈ (es.modify j fun e => { e with key := f k, val := v }).toList.map (·.born) := List.mem_map.2 ⟨x, hx, rfl⟩
        rw [hbm] at h1
        obtain ⟨y, hy, hy2⟩ := List.mem_map.1 h1
        rw [← hy2]
        exact hl0.born y hy
      · rw [hbm]
        exact hl0.nodup
      unfold KV1
      rw [aput_old hi, Nat.sub_zero, List.map_set, ← show es.toList.map (fun e => (e.key, e.val)) = l.map (fun p => (f p.1, p.2)) from hl]
      apply List.ext_getElem?
      intro i
      simp only [List.getElem?_map, Array.getElem?_toList, Array.getElem?_modify, List.getElem?_set, List.length_map, Array.length_toList]
      by_cases hij : j = i
      · subst hij
        simp [hjl]
      · simp [hij]
theorem op_delB (m x : Operand) (t tk kt e : TypeId) (ho : o.op = .call { callee := .builtin .delete, args := #[m, x], argTypes := #[t, tk] }) (ht : P.underlying t = some (.map kt e)) {f : Int → Value} (KA : KeyAs P kt f) {b clock : Nat} {es : Array MapEntry} {l : AL} {k : Int} {A B : List Ent}
    (hm : a.eval m = .map (some b)) (hx : a.eval x = f k) (H : St S w0 w L) (hs : Split L (true, .is b (.map es clock)) A B) (hl0 : KVB f es clock l)
    (h : ∀ es' w', KVB f es' clock (adel l k) → St S w0 w' (A ++ (true, .is b (.map es' clock)) :: B) → K (a.put o.dst (.tuple #[])) w') : o.wp P a w K Q := by
  have hl := hl0.kv
  have hg := H.get hs
  have hf := KA.find k es.toList l w hl
  cases hi : aix l k 0 with
  | none =>
    rw [hi] at hf
    have hrun : (Builtin.delete_ #[t, tk] o.type #[.map (some b), f k]).run P w = .ok (.tuple #[]) (setBlock w b (.map es clock)) := by
      simp [Builtin.delete_, run_underlying ht, MapKept.run_getObj_map hg, KA.check, hf, MapKept.run_setObj_map _ hg, Result.andThen, setBlock]
    refine op_val ?_ (h _ _ ?_ (H.turn (k' := .is b (.map es clock)) hs (setB_ext w b _) (setB_get _ hg) rfl))
    · unfold execOp
      rw [ho]
      simp only [resolve, invoke, builtin, Sem.run_bind, Sem.run_pure, Result.andThen_ok, List.map_toArray, List.map_cons, List.map_nil, hm, hx, hrun]
    · rw [adel_new hi]
      exact hl0
  | some p =>
    obtain ⟨j, u⟩ := p
    rw [hi] at hf
    obtain ⟨_, hj⟩ := aix_some hi
    rw [Nat.sub_zero] at hj
    have hrun : (Builtin.delete_ #[t, tk] o.type #[.map (some b), f k]).run P w = .ok (.tuple #[]) (setBlock w b (.map (es.eraseIdxIfInBounds j) clock)) := by
      simp [Builtin.delete_, run_underlying ht, MapKept.run_getObj_map hg, KA.check, hf, MapKept.run_setObj_map _ hg, Result.andThen, setBlock]
    refine op_val ?_ (h _ _ ?_ (H.turn (k' := .is b (.map (es.eraseIdxIfInBounds j) clock)) hs (setB_ext w b _) (setB_get _ hg) rfl))
    · unfold execOp
      rw [ho]
      simp only [resolve, invoke, builtin, Sem.run_bind, Sem.run_pure, Result.andThen_ok, List.map_toArray, List.map_cons, List.map_nil, hm, hx, hrun]
    · have hlen0 : es.toList.length = l.length := by have := congrArg List.length hl; simpa using this
      have hjl0 : j < es.size := by have := (List.getElem?_eq_some_iff.1 hj).1; rw [← hlen0] at this; simpa using this
      have hel : (es.eraseIdxIfInBounds j).toList = es.toList.eraseIdx j := by simp [Array.eraseIdxIfInBounds, hjl0]
      refine ⟨?_, ?_, ?_, aonce_del hl0.once k⟩
      rotate_left
      · intro x hx
        rw [hel] at hx
        exact hl0.born x (List.mem_of_mem_eraseIdx hx)
      · rw [hel]
        exact hl0.nodup.sublist ((List.eraseIdx_sublist _ _).map _)
      unfold KV1
      rw [adel_old hi, Nat.sub_zero]
      have hlen : es.toList.length = l.length := by have := congrArg List.length hl; simpa using this
      have hjl : j < es.size := by have := (List.getElem?_eq_some_iff.1 hj).1; rw [← hlen] at this; simpa using this
      rw [show (es.eraseIdxIfInBounds j).toList = es.toList.eraseIdx j by simp [Array.eraseIdxIfInBounds, hjl], map_erase, map_erase, show es.toList.map (fun e => (e.key, e.val)) = l.map (fun p => (f p.1, p.2)) from hl]
end
theorem holds_same {w w' : World} : ∀ {k : Kn}, holds w k → (∀ b ∈ k.fp, w'.heap[b]? = w.heap[b]?) → holds w' k
  | .is b o, h, hs => (hs b (by simp [Kn.fp])).trans h
  | .row (some b) .., ⟨cur, h, r⟩, hs => ⟨cur, (hs b (by simp [Kn.fp])).trans h, r⟩
  | .row none .., h, _ => h
  | .arr (some a) xs, h, hs => by
    refine ⟨h.1, ?_, fun j hj => (World.cell?_of_block (a := ⟨a.block, a.off + j, none⟩) (hs a.block (by simp [Kn.fp]))).trans (h.2.2 j hj)⟩
    have h1 := h.2.1
    have h2 := hs a.block (by simp [Kn.fp])
    rw [Array.getElem?_eq_getElem h1] at h2
    exact lt_of_get h2
  | .arr none xs, h, _ => h
  | .rep fp R, h, hs => by
    refine ⟨h.1, fun b hb => ?_, h.1 w w' hs h.2.2⟩
    have h2 := hs b hb
    rw [Array.getElem?_eq_getElem (h.2.1 b hb)] at h2
    exact lt_of_get h2
/-- Many pieces as one. -/
def bag (X : List Ent) : Kn := .rep (X.flatMap (·.2.fp)) (fun w => ∀ e ∈ X, holds w e.2)
theorem bag_local (X : List Ent) : Local (X.flatMap (·.2.fp)) (fun w => ∀ e ∈ X, holds w e.2) := by
  intro w w' hs h e he
  exact holds_same (h e he) (fun b hb => hs b (List.mem_flatMap.2 ⟨e, he, hb⟩))
theorem flat_nodup {X : List Ent} (hX : X.all (·.1) = true) (hd : X.Pairwise Dis) (hn : ∀ e ∈ X, e.1 = true → e.2.fp.Nodup) : (X.flatMap (·.2.fp)).Nodup := by
  induction X with
  | nil => simp
  | cons x X ih =>
    simp only [List.all_cons, Bool.and_eq_true] at hX
    obtain ⟨h1, h2⟩ := hX
    obtain ⟨d1, d2⟩ := List.pairwise_cons.1 hd
    rw [List.flatMap_cons, List.nodup_append]
    refine ⟨hn x List.mem_cons_self h1, ih h2 d2 (fun e he => hn e (List.mem_cons_of_mem _ he)), ?_⟩
    intro a ha b hb e
    subst e
    obtain ⟨y, hy, hb⟩ := List.mem_flatMap.1 hb
    exact d1 y hy (.inl h1) a ha hb
theorem flat_apart {X : List Ent} (h : (X.flatMap (·.2.fp)).Nodup) : X.Pairwise Dis ∧ ∀ e ∈ X, e.2.fp.Nodup := by
  induction X with
  | nil => exact ⟨List.Pairwise.nil, by simp⟩
  | cons x X ih =>
    rw [List.flatMap_cons, List.nodup_append] at h
    obtain ⟨h1, h2, h3⟩ := h
    obtain ⟨i1, i2⟩ := ih h2
    refine ⟨List.pairwise_cons.2 ⟨fun y hy _ b hb hb' => h3 b hb b (List.mem_flatMap.2 ⟨y, hy, hb'⟩) rfl, i1⟩, fun e he => ?_⟩
    rcases List.mem_cons.1 he with rfl | he
    · exact h1
    · exact i2 e he
theorem st_fold {S : List Nat} {w0 w : World} {X L : List Ent} (hX : X.all (·.1) = true) (H : St S w0 w (X ++ L)) : St S w0 w ((true, bag X) :: L) := by
  obtain ⟨p1, p2, p3⟩ := List.pairwise_append.1 H.apart
  have hm : ∀ e ∈ X, e.1 = true := fun e he => by simpa using List.all_eq_true.1 hX e he
  refine ⟨H.ext, List.pairwise_cons.2 ⟨?_, p2⟩, ?_, ?_, ?_⟩
  · intro y hy _ b hb hb'
    obtain ⟨x, hx, hb⟩ := List.mem_flatMap.1 hb
    exact p3 x hx y hy (.inl (hm x hx)) b hb hb'
  · intro e he
    rcases List.mem_cons.1 he with rfl | he
    · exact fun _ => flat_nodup hX p1 (fun e he => H.nodup e (List.mem_append_left _ he))
    · exact H.nodup e (List.mem_append_right _ he)
  · intro e he
    rcases List.mem_cons.1 he with rfl | he
    · refine ⟨bag_local X, fun b hb => ?_, fun e he => H.all e (List.mem_append_left _ he)⟩
      obtain ⟨x, hx, hb⟩ := List.mem_flatMap.1 hb
      exact (H.all x (List.mem_append_left _ hx)).lt b hb
    · exact H.all e (List.mem_append_right _ he)
  · intro e he
    rcases List.mem_cons.1 he with rfl | he
    · intro _ b hb
      obtain ⟨x, hx, hb⟩ := List.mem_flatMap.1 hb
      exact H.perm x (List.mem_append_left _ hx) (hm x hx) b hb
    · exact H.perm e (List.mem_append_right _ he)
theorem st_unfold {S : List Nat} {w0 w : World} {X L : List Ent} (H : St S w0 w ((true, bag X) :: L)) : St S w0 w (X ++ L) := by
  obtain ⟨d1, d2⟩ := List.pairwise_cons.1 H.apart
  have hn := H.nodup _ List.mem_cons_self rfl
  have ha := H.all _ List.mem_cons_self
  have hp := H.perm _ List.mem_cons_self rfl
  obtain ⟨f1, f2⟩ := flat_apart hn
  have hsub : ∀ e ∈ X, ∀ b ∈ e.2.fp, b ∈ (bag X).fp := fun e he b hb => List.mem_flatMap.2 ⟨e, he, hb⟩
  refine ⟨H.ext, List.pairwise_append.2 ⟨f1, d2, fun x hx y hy _ b hb hb' => d1 y hy (.inl rfl) b (hsub x hx b hb) hb'⟩, ?_, ?_, ?_⟩
  · intro e he
    rcases List.mem_append.1 he with he | he
    · exact fun _ => f2 e he
    · exact H.nodup e (List.mem_cons_of_mem _ he)
  · intro e he
    rcases List.mem_append.1 he with he | he
    · exact ha.2.2 e he
    · exact H.all e (List.mem_cons_of_mem _ he)
  · intro e he
    rcases List.mem_append.1 he with he | he
    · exact fun _ b hb => hp b (hsub e he b hb)
    · exact H.perm e (List.mem_cons_of_mem _ he)
end Go.V
