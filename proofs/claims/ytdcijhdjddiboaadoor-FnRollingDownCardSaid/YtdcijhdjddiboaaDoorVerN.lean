import Derived.Test.YtdcijhdjddiboaaDoorVerE
-- MORE
namespace Go.Proofs.YtdcijhdjddiboaaDoor
set_option linter.unusedVariables false
set_option linter.unusedSimpArgs false
set_option linter.unnecessarySimpa false
open Go.RowKit Go.V

/-- How a text that is a version stands: where its pieces are. -/
structure Spans (s : ByteArray) (A B C : List UInt8) : Prop where
  all : s.data.toList = A ++ 46 :: (B ++ 46 :: C)
  a : 1 ≤ A.length ∧ A.length ≤ 4 ∧ ∀ c ∈ A, 48 ≤ c.toNat ∧ c.toNat ≤ 57
  b : 1 ≤ B.length ∧ B.length ≤ 4 ∧ ∀ c ∈ B, 48 ≤ c.toNat ∧ c.toNat ≤ 57
  c : 1 ≤ C.length ∧ C.length ≤ 4 ∧ ∀ c ∈ C, 48 ≤ c.toNat ∧ c.toNat ≤ 57
theorem VText.spans {s : ByteArray} {x : Vr} (h : VText s x) : Spans s (dec x.a.toNat) (dec x.b.toNat) (dec x.c.toNat) := by
  obtain ⟨⟨ha, hb, hc⟩, hs⟩ := h
  refine ⟨hs, ⟨(dec_len _).1, (dec_len _).2, dec_dig _ (by omega)⟩, ⟨(dec_len _).1, (dec_len _).2, dec_dig _ (by omega)⟩, ⟨(dec_len _).1, (dec_len _).2, dec_dig _ (by omega)⟩⟩
theorem byte_at {s : ByteArray} {L : List UInt8} (h : s.data.toList = L) (k : Nat) (hk : k < s.size) (hk' : k < L.length) : s[k] = L[k] := by
  subst h
  rfl
section
variable {s : ByteArray} {A B C : List UInt8} (h : Spans s A B C)
include h
theorem Spans.size : s.size = A.length + B.length + C.length + 2 := by
  have := congrArg List.length h.all
  simp at this
  have e : s.data.size = s.size := rfl
  omega
theorem Spans.dig1 (k : Nat) (hk : k < A.length) (hs : k < s.size) : 48 ≤ ((s[k].toNat : Nat) : Int) ∧ ((s[k].toNat : Nat) : Int) ≤ 57 := by
  rw [byte_at h.all k hs (by simp; omega), List.getElem_append_left hk]
  have := h.a.2.2 _ (List.getElem_mem hk)
  omega
theorem Spans.dot1 (k : Nat) (hk : k = A.length) (hs : k < s.size) : ((s[k].toNat : Nat) : Int) = 46 := by
  subst hk
  rw [byte_at h.all _ hs (by simp), List.getElem_append_right (Nat.le_refl _)]
  simp
theorem Spans.dig2 (k : Nat) (h1 : A.length + 1 ≤ k) (h2 : k < A.length + 1 + B.length) (hs : k < s.size) : 48 ≤ ((s[k].toNat : Nat) : Int) ∧ ((s[k].toNat : Nat) : Int) ≤ 57 := by
  obtain ⟨j, rfl⟩ : ∃ j, k = A.length + (j + 1) := ⟨k - A.length - 1, by omega⟩
  have hj : j < B.length := by omega
  rw [byte_at h.all _ hs (by simp; omega), List.getElem_append_right (by omega)]
  simp only [show A.length + (j + 1) - A.length = j + 1 by omega, List.getElem_cons_succ]
  rw [List.getElem_append_left hj]
  have := h.b.2.2 _ (List.getElem_mem hj)
  omega
theorem Spans.dot2 (k : Nat) (hk : k = A.length + 1 + B.length) (hs : k < s.size) : ((s[k].toNat : Nat) : Int) = 46 := by
  obtain rfl : k = A.length + (B.length + 1) := by omega
  rw [byte_at h.all _ hs (by simp), List.getElem_append_right (by omega)]
  simp only [show A.length + (B.length + 1) - A.length = B.length + 1 by omega, List.getElem_cons_succ]
  rw [List.getElem_append_right (Nat.le_refl _)]
  simp
theorem Spans.dig3 (k : Nat) (h1 : A.length + B.length + 2 ≤ k) (hs : k < s.size) : 48 ≤ ((s[k].toNat : Nat) : Int) ∧ ((s[k].toNat : Nat) : Int) ≤ 57 := by
  have hz := h.size
  obtain ⟨j, rfl⟩ : ∃ j, k = A.length + ((B.length + (j + 1)) + 1) := ⟨k - A.length - B.length - 2, by omega⟩
  have hj : j < C.length := by omega
  rw [byte_at h.all _ hs (by simp; omega), List.getElem_append_right (by omega)]
  simp only [show A.length + (B.length + (j + 1) + 1) - A.length = B.length + (j + 1) + 1 by omega, List.getElem_cons_succ]
  rw [List.getElem_append_right (by omega)]
  simp only [show B.length + (j + 1) - B.length = j + 1 by omega, List.getElem_cons_succ]
  have := h.c.2.2 _ (List.getElem_mem hj)
  omega
theorem Spans.cut1 : (s.extract 0 A.length).data.toList = A := by
  rw [Lib.extract_data, h.all]
  simp
theorem Spans.cut2 : (s.extract (A.length + 1) (A.length + 1 + B.length)).data.toList = B := by
  rw [Lib.extract_data, h.all, ← List.drop_drop]
  simp
theorem Spans.cut3 : (s.extract (A.length + B.length + 2) s.size).data.toList = C := by
  have e : (A ++ 46 :: (B ++ 46 :: C)).drop (A.length + B.length + 2) = C := by
    rw [show A.length + B.length + 2 = A.length + (1 + (B.length + 1)) by omega, ← List.drop_drop, ← List.drop_drop, ← List.drop_drop]
    simp
  rw [Lib.extract_data, h.all, e, List.take_of_length_le (by have := h.size; omega)]
end
theorem parse_calls (t : ByteArray) (n : Nat) (hn : n < 10000) (ht : Hid (t.data.toList = dec n)) (w : World) :
    Calls Tryd.prog 61 #[.string t, .int .i64 10, .int .i64 64] w fun e w' => e = .returned (.tuple #[.int .i64 n, .nilIface]) ∧ Ext [] w w' := by
  have hsz : t.size ≤ 4 := by
    have := congrArg List.length ht.out
    have h2 := (dec_len n).2
    have e : t.data.size = t.size := rfl
    simp at this
    omega
  refine (Tryd.strconv_ParseInt_10_at64_ok t (by omega) n (by rw [ht.out]; exact parse_dec n hn) w).mono ?_
  rintro e w' ⟨rfl, h⟩
  refine ⟨rfl, ?_⟩
  rcases h with rfl | ⟨u, rfl⟩
  · exact Ext.refl _ _
  · have H := (St.init [] w).bytes 5 u
    obtain ⟨_, _, H⟩ := H
    exact H.ext
end Go.Proofs.YtdcijhdjddiboaaDoor
