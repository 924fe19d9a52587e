import Derived.Test.YtfnapcgbjdkpaaaSnpV
namespace Go.Proofs.Ytfnapcgbjdkpaaa
set_option linter.unusedVariables false
set_option linter.unusedSimpArgs false
set_option linter.unnecessarySimpa false
open Go Go.RowKit Go.V Go.Lib

def hdrB (r n : Nat) : List UInt8 := vfield 8 r ++ (18 : UInt8) :: uvarint n
theorem fileB_hdr (r : Nat) (p : List UInt8) : fileB r p = hdrB r p.length ++ p := by
  rw [fileB, hdrB, bfield, List.append_assoc]
  rfl
theorem file_set (r : Nat) (p : List UInt8) (k : Nat) (x : UInt8) (h : (hdrB r p.length).length ≤ k) : (fileB r p).set k x = fileB r (p.set (k - (hdrB r p.length).length) x) := by
  rw [fileB_hdr, fileB_hdr, List.length_set, List.set_append_right _ _ h]
theorem file_at (r : Nat) (p : List UInt8) (k : Nat) (h : (hdrB r p.length).length ≤ k) : (fileB r p)[k]? = p[k - (hdrB r p.length).length]? := by
  rw [fileB_hdr, List.getElem?_append_right h]
/-- Where the data stands. -/
def dataAt (s : ByteArray) (i t : Nat) (vs : List Nat) : Nat := (hdrB (crc (snapB s.data.toList vs i t)) (snapB s.data.toList vs i t).length).length + ((10 : UInt8) :: uvarint s.data.toList.length).length
theorem data_split (s : ByteArray) (i t : Nat) (vs : List Nat) : (saveB s i t vs).data.toList = (hdrB (crc (snapB s.data.toList vs i t)) (snapB s.data.toList vs i t).length ++ (10 : UInt8) :: uvarint s.data.toList.length) ++ (s.data.toList ++ bfield 2 (metaB vs i t)) := by
  have e : (saveB s i t vs).data.toList = fileB (crc (snapB s.data.toList vs i t)) (snapB s.data.toList vs i t) := by simp [saveB]
  rw [e, fileB_hdr, List.append_assoc]
  congr 1
  rw [snapB, bfield]
  simp
theorem size_list (s : ByteArray) : s.data.toList.length = s.size := by rw [Array.length_toList]; rfl
theorem data_fits (s : ByteArray) (i t : Nat) (vs : List Nat) : dataAt s i t vs + s.size ≤ (saveB s i t vs).size := by
  rw [← size_list (saveB s i t vs), data_split, ← size_list s]
  simp only [List.length_append, dataAt]
  omega
theorem data_extract (s : ByteArray) (i t : Nat) (vs : List Nat) : (saveB s i t vs).extract (dataAt s i t vs) (dataAt s i t vs + s.size) = s := by
  apply ByteArray.ext
  apply Array.ext'
  rw [ByteArray.data_extract, Array.toList_extract, data_split]
  rw [List.extract_eq_take_drop, Nat.add_sub_cancel_left]
  rw [List.drop_left' (by rw [List.length_append]; rfl), ← size_list s, List.take_left]
theorem xor_ne {a : UInt8} {b : Nat} (hb : 0 < b ∧ b < 256) : ∃ x : UInt8, x.toNat = a.toNat ^^^ b ∧ x ≠ a := by
  refine ⟨a ^^^ UInt8.ofNat b, ?_, ?_⟩
  · rw [UInt8.toNat_xor, UInt8.toNat_ofNat', Nat.mod_eq_of_lt (by omega)]
  · intro h
    have h1 := congrArg UInt8.toNat h
    rw [UInt8.toNat_xor, UInt8.toNat_ofNat', Nat.mod_eq_of_lt (by omega)] at h1
    have h2 : b ^^^ a.toNat = 0 ^^^ a.toNat := by rw [Nat.xor_comm, h1, Nat.zero_xor]
    have := xor_cancel h2
    omega
/-- ANOTHER BYTE IN THE DATA'S PLACE OR BEHIND IT: the sum is another one. -/
theorem flip_bad (s : ByteArray) (i t : Nat) (vs : List Nat) (k : Nat) (h1 : dataAt s i t vs ≤ k) (h2 : k < (saveB s i t vs).size) (x : UInt8) (hx : (saveB s i t vs).data.toList[k]? ≠ some x) :
    ∃ p, (saveB s i t vs).data.toList.set k x = fileB (crc (snapB s.data.toList vs i t)) p ∧ p.length = (snapB s.data.toList vs i t).length ∧ crc p ≠ crc (snapB s.data.toList vs i t) := by
  have e : (saveB s i t vs).data.toList = fileB (crc (snapB s.data.toList vs i t)) (snapB s.data.toList vs i t) := by simp [saveB]
  have hh : (hdrB (crc (snapB s.data.toList vs i t)) (snapB s.data.toList vs i t).length).length ≤ k := Nat.le_trans (Nat.le_add_right _ _) h1
  rw [← size_list, e, fileB_hdr, List.length_append] at h2
  rw [e, file_at _ _ _ hh] at hx
  rw [e, file_set _ _ _ _ hh]
  have hk : k - (hdrB (crc (snapB s.data.toList vs i t)) (snapB s.data.toList vs i t).length).length < (snapB s.data.toList vs i t).length := by omega
  refine ⟨_, rfl, List.length_set, ?_⟩
  refine crc_set _ _ hk x ?_
  intro hc
  exact hx (by rw [List.getElem?_eq_getElem hk, hc])
theorem bfield_len (k : Nat) (l : List UInt8) (h : l.length < 18446744073709551616) : (bfield k l).length ≤ l.length + 11 := by
  have := uvarint_length64 h
  rw [bfield, List.length_cons, List.length_append]
  omega
theorem vfield_len (tag : UInt8) (n : Nat) (h : n < 18446744073709551616) : (vfield tag n).length ≤ 11 := by
  have := uvarint_length64 h
  rw [vfield, List.length_cons]
  omega
theorem snapB_len (d : List UInt8) (vs : List Nat) (i t : Nat) (h1 : d.length ≤ 5000) (h2 : vs.length ≤ 20) (hv : ∀ v ∈ vs, v < 18446744073709551616) (hit : i < 18446744073709551616 ∧ t < 18446744073709551616) : (snapB d vs i t).length ≤ 10000 := by
  have c1 := confB_len vs hv
  have c2 := bfield_len 1 (confB vs) (by omega)
  have c3 := vfield_len 16 i hit.1
  have c4 := vfield_len 24 t hit.2
  have c5 : (metaB vs i t).length ≤ 253 := by rw [metaB, List.length_append, List.length_append]; omega
  have c6 := bfield_len 2 (metaB vs i t) (by omega)
  have c7 := bfield_len 1 d (by omega)
  rw [snapB, List.length_append]
  omega
theorem saveB_size (s : ByteArray) (i t : Nat) (vs : List Nat) (h1 : s.size ≤ 5000) (h2 : vs.length ≤ 20) (hv : ∀ v ∈ vs, v < 18446744073709551616) (hit : i < 18446744073709551616 ∧ t < 18446744073709551616) : (saveB s i t vs).size ≤ 20000 := by
  have c1 := snapB_len s.data.toList vs i t (by rw [size_list]; exact h1) h2 hv hit
  have c2 := bfield_len 2 (snapB s.data.toList vs i t) (by omega)
  have c3 := vfield_len 8 (crc (snapB s.data.toList vs i t)) (by have := crc_lt (snapB s.data.toList vs i t); omega)
  have e : (saveB s i t vs).data.toList = fileB (crc (snapB s.data.toList vs i t)) (snapB s.data.toList vs i t) := by simp [saveB]
  rw [← size_list, e, fileB, List.length_append]
  omega
theorem lies_set {w : World} {bb T : Nat} {cs : Array Value} {fr : Nat × Nat} (F : ByteArray) (k : Nat) (x : UInt8) (hg : w.heap[bb]? = some (.cells (cs.setIfInBounds k (.int .u8 x.toNat)) T fr)) (hcs : F.size ≤ cs.size) (h : ∀ j, j < F.size → cs[j]? = some (.int .u8 (F.data.toList.getD j 0).toNat)) : Lies w (some ⟨bb, 0, none⟩) (by8 (F.data.toList.set k x)) := by
  refine ⟨fun e => by simp at e, ?_⟩
  rintro ad had j u hu
  obtain rfl : ad = ⟨bb, 0, none⟩ := by simpa using had.symm
  rw [addr_add, Nat.zero_add, cell_of_row w bb j _ _ _ hg, Array.getElem?_setIfInBounds]
  have hj : j < F.data.toList.length := by have := (List.getElem?_eq_some_iff.1 hu).1; rwa [by8_len, List.length_set] at this
  rw [size_list] at hj
  rw [by8, List.getElem?_map, List.getElem?_set] at hu
  by_cases hk : k = j
  · subst hk
    rw [if_pos rfl, size_list, if_pos hj] at hu
    rw [if_pos rfl, if_pos (by omega)]
    exact hu
  · rw [if_neg hk] at hu ⊢
    rw [h j hj]
    have hj2 : j < F.data.toList.length := by rw [size_list]; exact hj
    rw [List.getElem?_eq_getElem hj2] at hu
    rw [List.getD_eq_getElem?_getD, List.getElem?_eq_getElem hj2]
    exact hu
end Go.Proofs.Ytfnapcgbjdkpaaa
