import Derived.Test.YtikaldcoakpfoaaGreatDoorCpuD
-- MORE
-- SUB2
namespace Go.Proofs.YtikaldcoakpfoaaGreatDoor
set_option linter.unusedVariables false
set_option linter.unusedSimpArgs false
set_option linter.unnecessarySimpa false
open Go Go.RowKit Go.V Go.Lib

theorem var_ext {P : Program} {w w' : World} {name : String} {cs : Array Value} (h : w.var? P name = some cs) (e : Ext [] w w') : w'.var? P name = some cs := by
  unfold World.var? at *
  cases hg : P.globalNamed name with
  | none => simp [hg] at h
  | some g =>
    simp only [hg, Option.bind_some] at h ⊢
    have hl : g < w.heap.size := by
      rcases Nat.lt_or_ge g w.heap.size with h1 | h1
      · exact h1
      · simp [Array.getElem?_eq_none h1] at h
    rw [e.block g hl (by simp)]
    exact h
/-- What the library's variables hold. -/
def ErrEnv (w : World) : Prop := (∃ tp p, w.var? Tryz.prog "strconv.ErrSyntax" = some #[.iface tp p]) ∧ (∃ tp p, w.var? Tryz.prog "strconv.ErrRange" = some #[.iface tp p])
theorem errEnv_ext {w w' : World} (h : ErrEnv w) (e : Ext [] w w') : ErrEnv w' := by
  obtain ⟨⟨tp, p, h1⟩, tq, q, h2⟩ := h
  exact ⟨⟨tp, p, var_ext h1 e⟩, tq, q, var_ext h2 e⟩
theorem ext_bytes (w : World) (e : TypeId) (s : ByteArray) : Ext [] w (Lib.bytesWorld w e s) := by
  have hz := Lib.bytesWorld_size w e s
  refine ⟨?_, ?_, ?_, by omega, fun k hk _ => Lib.bytesWorld_at_old w e s k hk⟩
  all_goals (unfold Lib.bytesWorld World.freeze; split <;> rfl)
theorem atoi_ok (p : List UInt8) (hp : p.length ≤ 1000000) (v : Int) (h : Hid (atoi? p = some v)) (w : World) :
    Calls Tryz.prog 52 #[.string (bs p)] w fun e w' => e = .returned (.tuple #[.int .i64 v, .nilIface]) ∧ Ext [] w w' := by
  have hd : (bs p).data.toList = p := by simp
  have hsz := bs_size p
  refine (Tryz.strconv_Atoi_ok (bs p) (by omega) v (by rw [hd]; exact atoi_some h.out) w).mono ?_
  rintro e w' ⟨rfl, h2⟩
  refine ⟨rfl, ?_⟩
  rcases h2 with rfl | ⟨t, rfl⟩
  · exact Ext.refl _ _
  · exact ext_bytes _ _ _
theorem atoi_bad (p : List UInt8) (hp : p.length ≤ 1000000) (h : Hid (atoi? p = none)) (w : World) (he : ErrEnv w) :
    Calls Tryz.prog 52 #[.string (bs p)] w fun e w' => ∃ v N, e = .returned (.tuple #[.int .i64 v, .iface 117 (.pointer (some ⟨N, 0, none⟩))]) ∧ Ext [] w w' := by
  have hd : (bs p).data.toList = p := by simp
  have hsz := bs_size p
  obtain ⟨⟨tp, q, h1⟩, tq, r, h2⟩ := he
  have hn : atoi? p = none := h.out
  unfold atoi? at hn
  cases hx : atoiAll p with
  | ok v => rw [hx] at hn; cases hn
  | «syntax» =>
    refine (Tryz.strconv_Atoi_syntax_var (bs p) (by omega) (by rw [hd]; exact hx) tp q w h1).mono ?_
    rintro e w' ⟨N, rfl, _, _, hb⟩
    exact ⟨_, N, rfl, Ext.of_below hb⟩
  | range =>
    refine (Tryz.strconv_Atoi_range_var (bs p) (by omega) (by rw [hd]; exact hx) tq r w h2).mono ?_
    rintro e w' ⟨N, rfl, _, _, hb⟩
    exact ⟨_, N, rfl, Ext.of_below hb⟩
theorem atoi_bound {p : List UInt8} {v : Int} (h : atoi? p = some v) : -9223372036854775808 ≤ v ∧ v ≤ 9223372036854775807 := by
  have := atoi_some h
  unfold atoiAll at this
  cases p with
  | nil => cases this
  | cons c r =>
    simp only at this
    split at this
    · cases this
    · cases this
    · split at this
      · cases this
      · split at this
        · cases this
        · injection this with this
          split at this <;> omega
end Go.Proofs.YtikaldcoakpfoaaGreatDoor
