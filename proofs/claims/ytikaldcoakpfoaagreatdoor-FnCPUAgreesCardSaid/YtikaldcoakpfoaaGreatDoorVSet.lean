import Derived.Test.YtikaldcoakpfoaaGreatDoorLruM
import Derived.Test.YtikaldcoakpfoaaGreatDoorVMapS
namespace Go.V
set_option linter.unusedVariables false
set_option linter.unusedSimpArgs false
set_option linter.unnecessarySimpa false
open Go Go.RowKit
open Go.ChangeMaps (setBlock)

/-! A set of integers: a map whose values are all the same. -/
def ins (l : List Int) (k : Int) : List Int := if k ∈ l then l else l ++ [k]
theorem ins_mem (l : List Int) (k x : Int) : x ∈ ins l k ↔ x ∈ l ∨ x = k := by
  unfold ins
  split
  · rename_i h
    constructor
    · exact .inl
    · rintro (h1 | rfl)
      · exact h1
      · exact h
  · simp
theorem ins_nodup {l : List Int} (h : l.Nodup) (k : Int) : (ins l k).Nodup := by
  unfold ins
  split
  · exact h
  · rename_i hk
    rw [List.nodup_append]
    refine ⟨h, by simp, ?_⟩
    intro a ha b hb e
    rw [List.mem_singleton] at hb
    exact hk (by rw [← hb, ← e]; exact ha)
theorem ins_len (l : List Int) (k : Int) : (ins l k).length ≤ l.length + 1 := by
  unfold ins
  split <;> simp
def SetM (f : Int → Value) (u : Value) (es : Array MapEntry) (clock : Nat) (l : List Int) : Prop :=
  es.toList.map (fun e => (e.key, e.val)) = l.map (fun k => (f k, u)) ∧ (∀ e ∈ es.toList, e.born < clock) ∧ (es.toList.map (·.born)).Nodup ∧ l.Nodup
theorem setM_nil (f : Int → Value) (u : Value) : SetM f u #[] 0 [] := ⟨rfl, by simp, by simp, List.nodup_nil⟩
theorem setM_kv {f : Int → Value} {u : Value} {es : Array MapEntry} {clock : Nat} {l : List Int} (h : SetM f u es clock l) : KV1 f es (l.map fun k => (k, u)) := by
  unfold KV1
  rw [h.1]
  simp
theorem setM_size {f : Int → Value} {u : Value} {es : Array MapEntry} {clock : Nat} {l : List Int} (h : SetM f u es clock l) : es.size = l.length := by
  have := congrArg List.length h.1
  simpa using this
theorem setM_keys {f : Int → Value} {u : Value} {es : Array MapEntry} {clock : Nat} {l : List Int} (h : SetM f u es clock l) : es.toList.map (·.key) = l.map f := by
  have := congrArg (List.map Prod.fst) h.1
  simpa [List.map_map, Function.comp_def] using this
theorem aix_set_none {u : Value} {k : Int} : ∀ {l : List Int} {i : Nat}, aix (l.map fun k => (k, u)) k i = none → k ∉ l
  | [], _, _ => by simp
  | x :: r, i, h => by
    simp only [List.map_cons] at h
    unfold aix at h
    split at h
    · cases h
    · rename_i hx
      have := aix_set_none h
      simp only [List.mem_cons, not_or]
      exact ⟨fun e => hx e.symm, this⟩
section
variable {P : Program} {S : List Nat} {w0 w : World} {L : List Ent} {o : Oper} {a : Act} {K : Act → World → Prop} {Q : Exit → Act → World → Prop}
/-- A number put into the set. -/
theorem op_ins (t kt e : TypeId) (m x y : Operand) (ho : o.op = .mapUpdate t m x y) (ht : P.underlying t = some (.map kt e)) {f : Int → Value} (KA : KeyAs P kt f) {b clock : Nat} {es : Array MapEntry} {l : List Int} {k : Int} {u : Value} {A B : List Ent}
    (hm : a.eval m = .map (some b)) (hx : a.eval x = f k) (hy : a.eval y = u) (H : St S w0 w L) (hs : Split L (true, .is b (.map es clock)) A B) (hl : SetM f u es clock l)
    (h : ∀ es' clock' w', SetM f u es' clock' (ins l k) → St S w0 w' (A ++ (true, .is b (.map es' clock')) :: B) → K (a.put o.dst undef) w') : o.wp P a w K Q := by
  have hg := H.get hs
  have hkv := setM_kv hl
  have hf := KA.find k es.toList _ w hkv
  cases hi : aix (l.map fun k => (k, u)) k 0 with
  | none =>
    rw [hi] at hf
    have hnin := aix_set_none hi
    have hrun : (Instr.mapUpdate t (.map (some b)) (f k) u).run P w = .ok () (setBlock w b (.map (es.push ⟨f k, u, clock⟩) (clock + 1))) := by
      simp [Instr.mapUpdate, run_underlying ht, MapKept.run_getObj_map hg, KA.check, hf, MapKept.run_setObj_map _ hg, Result.andThen, setBlock]
    refine op_none ?_ (h _ _ _ ?_ (H.turn (k' := .is b (.map (es.push ⟨f k, u, clock⟩) (clock + 1))) hs (setB_ext w b _) (setB_get _ hg) rfl))
    · unfold execOp
      rw [ho]
      simp only [Sem.run_bind, Sem.run_pure, hm, hx, hy, hrun, Result.andThen_ok]
    · obtain ⟨h1, h2, h3, h4⟩ := hl
      have hins : ins l k = l ++ [k] := by unfold ins; rw [if_neg hnin]
      refine ⟨?_, ?_, ?_, ins_nodup h4 k⟩
      · rw [hins]
        simp only [Array.toList_push, List.map_append, List.map_cons, List.map_nil, h1]
      · intro x hx
        simp only [Array.toList_push, List.mem_append, List.mem_singleton] at hx
        rcases hx with hx | rfl
        · have := h2 x hx; omega
        · show clock < clock + 1; omega
      · simp only [Array.toList_push, List.map_append, List.map_cons, List.map_nil]
        rw [List.nodup_append]
        refine ⟨h3, by simp, ?_⟩
        intro a ha b hb e
        rw [List.mem_singleton] at hb
        obtain ⟨x, hx, rfl⟩ := List.mem_map.1 ha
        have := h2 x hx
        omega
  | some p =>
    obtain ⟨j, u'⟩ := p
    rw [hi] at hf
    obtain ⟨_, hj⟩ := aix_some hi
    rw [Nat.sub_zero] at hj
    have hjl' : j < (l.map fun k => (k, u)).length := (List.getElem?_eq_some_iff.1 hj).1
    have hlj : l[j]? = some k := by
      rw [List.getElem?_map] at hj
      cases hq : l[j]? with
      | none => rw [hq] at hj; cases hj
      | some q => rw [hq] at hj; simp at hj; rw [hj.1]
    have hjl : j < es.size := by rw [setM_size hl]; simpa using hjl'
    have hkey : (es[j]).key = f k ∧ (es[j]).val = u := by
      have h1 : (es.toList.map (fun e => (e.key, e.val)))[j]? = (l.map (fun k => (f k, u)))[j]? := by rw [hl.1]
      rw [List.getElem?_map, List.getElem?_map, hlj, List.getElem?_eq_getElem (by simpa using hjl)] at h1
      simp at h1
      exact h1
    have hrun : (Instr.mapUpdate t (.map (some b)) (f k) u).run P w = .ok () (setBlock w b (.map (es.modify j fun e => { e with key := f k, val := u }) clock)) := by
      simp [Instr.mapUpdate, run_underlying ht, MapKept.run_getObj_map hg, KA.check, hf, hjl, hkey.1, KA.stays, MapKept.run_setObj_map _ hg, Result.andThen, setBlock]
    have hsame : (es.modify j fun e => { e with key := f k, val := u }) = es := by
      apply Array.ext_getElem?
      intro i
      rw [Array.getElem?_modify]
      by_cases hij : j = i
      · subst hij
        rw [if_pos rfl, Array.getElem?_eq_getElem hjl]
        simp only [Option.map_some, Option.some.injEq]
        rw [← hkey.1, ← hkey.2]
      · rw [if_neg hij]
    rw [hsame] at hrun
    have hin : k ∈ l := List.mem_of_getElem? hlj
    have hins : ins l k = l := by unfold ins; rw [if_pos hin]
    refine op_none ?_ (h es clock _ (by rw [hins]; exact hl) (H.turn (k' := .is b (.map es clock)) hs (setB_ext w b _) (setB_get _ hg) rfl))
    unfold execOp
    rw [ho]
    simp only [Sem.run_bind, Sem.run_pure, hm, hx, hy, hrun, Result.andThen_ok]
end
end Go.V
