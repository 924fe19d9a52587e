import Derived.Test.YtikaldcoakpfoaaGreatDoorCpuO
import Derived.Lib.BufferOld
import Derived.Lib.AppendIntMem
-- MORE
-- SUB2
namespace Go.Proofs.YtikaldcoakpfoaaGreatDoor
set_option linter.unusedVariables false
set_option linter.unusedSimpArgs false
set_option linter.unnecessarySimpa false
open Go Go.RowKit Go.V Go.Lib

def TabAt (w : World) : Prop := Lib.TabIs Tryz.prog w "internal/strconv.uint64pow10" .u64 Lib.pow10Tab
theorem tabAt_ext {w w' : World} (h : TabAt w) (e : Ext [] w w') : TabAt w' := Lib.tabBelow_of_tabIs h w' e.below
theorem itoa_calls (n : Int) (h : 0 ≤ n) (h' : n ≤ 1099511627776) (w : World) (ht : TabAt w) :
    Calls Tryz.prog 57 #[.int .i64 n] w fun e w' => e = .returned (.string (bs (itx n))) ∧ Ext [] w w' := by
  refine (Tryz.strconv_Itoa n (by omega) (by omega) w ht).mono ?_
  rintro e w' ⟨rfl, k, os, rfl⟩
  exact ⟨rfl, Ext.of_below (Lib.below_grow _ w (Nat.le_refl _) k os)⟩
/-- A buffer in the blocks from B on that holds a text; what lay below B in W0 is as it was. -/
def Buf (B b : Nat) (W0 : World) (l : List UInt8) (w : World) : Prop := Lib.IsBuffer 78 5 B b (Lib.byteCells l) w ∧ Below B W0 w ∧ B ≤ w.heap.size ∧ l.length ≤ 100000000
theorem below_ext {B : Nat} {a b c : World} (h : Below B a b) (hB : B ≤ b.heap.size) (e : Ext [] b c) : Below B a c :=
  ⟨e.os.trans h.os, e.tape.trans h.tape, e.output.trans h.output, Nat.le_trans h.size e.size, fun k hk => (e.block k (Nat.lt_of_lt_of_le hk hB) (by simp)).trans (h.block k hk)⟩
theorem below_trans {B : Nat} {a b c : World} (h : Below B a b) (k : Below B b c) : Below B a c :=
  ⟨k.os.trans h.os, k.tape.trans h.tape, k.output.trans h.output, Nat.le_trans h.size k.size, fun i hi => (k.block i hi).trans (h.block i hi)⟩
theorem buf_ext {B b : Nat} {W0 : World} {l : List UInt8} {w w' : World} (h : Buf B b W0 l w) (e : Ext [] w w') : Buf B b W0 l w' :=
  ⟨h.1.old e.below, below_ext h.2.1 h.2.2.1 e, Nat.le_trans h.2.2.1 e.size, h.2.2.2⟩
theorem cells_one (l : List UInt8) : ∀ v ∈ Lib.byteCells l, v.oneCell' = true := by
  intro v hv
  obtain ⟨b, _, rfl⟩ := List.mem_map.1 hv
  rfl
theorem cells_len (l : List UInt8) : (Lib.byteCells l).length = l.length := by simp [Lib.byteCells]
theorem cells_app (l r : List UInt8) : Lib.byteCells (l ++ r) = Lib.byteCells l ++ Lib.byteCells r := by simp [Lib.byteCells]
theorem buf_write {B b : Nat} {W0 : World} {l : List UInt8} (s : List UInt8) (w : World) (h : Buf B b W0 l w) (hs : (l ++ s).length ≤ 100000000) :
    Calls Tryz.prog 56 #[.pointer (some ⟨b, 0, none⟩), .string (bs s)] w fun e w' => e = .returned (.tuple #[.int .i64 (bs s).size, .nilIface]) ∧ Buf B b W0 (l ++ s) w' := by
  obtain ⟨h1, h2, h3, h4⟩ := h
  rw [List.length_append] at hs
  refine (Tryz.Buffer_WriteString B b (Lib.byteCells l) (bs s) w h1 h3 (cells_one l) (by rw [cells_len, bs_size]; omega)).mono ?_
  rintro e w' ⟨rfl, k1, k2⟩
  refine ⟨rfl, ?_, below_trans h2 k2, Nat.le_trans h3 k2.size, by rw [List.length_append]; omega⟩
  rw [cells_app]
  exact k1
theorem buf_string {B b : Nat} {W0 : World} {l : List UInt8} (w : World) (h : Buf B b W0 l w) :
    Calls Tryz.prog 59 #[.pointer (some ⟨b, 0, none⟩)] w fun e w' => e = .returned (.string (bs l)) ∧ Ext [] w w' := by
  refine (Tryz.Buffer_String B b l w h.1).mono ?_
  rintro e w' ⟨rfl, n, rfl⟩
  exact ⟨rfl, Ext.drewN [] w n⟩
theorem buf_lies {B b : Nat} {W0 : World} {l : List UInt8} {w : World} {src : Option Addr} {xs : List Value} (h : Buf B b W0 l w) (hB : W0.heap.size ≤ B) (hl : Lies W0 src xs) : Lies w src xs :=
  lies_same hl (fun k hk => h.2.1.block k (Nat.lt_of_lt_of_le (soft_lt hl k hk) hB))
theorem buf_tab {B b : Nat} {W0 : World} {l : List UInt8} {w : World} (h : Buf B b W0 l w) (hB : W0.heap.size ≤ B) (ht : TabAt W0) : TabAt w :=
  tabAt_ext ht ⟨h.2.1.os, h.2.1.tape, h.2.1.output, h.2.1.size, fun k hk _ => h.2.1.block k (Nat.lt_of_lt_of_le hk hB)⟩
theorem buf_out {B b : Nat} {W0 : World} {l : List UInt8} {w : World} (h : Buf B b W0 l w) (hB : W0.heap.size ≤ B) : Ext [] W0 w :=
  ⟨h.2.1.os, h.2.1.tape, h.2.1.output, h.2.1.size, fun k hk _ => h.2.1.block k (Nat.lt_of_lt_of_le hk hB)⟩
theorem buf_new {W0 : World} {w : World} {b : Nat} (hb : w.heap[b]? = some (.cells #[.slice none 0 0, .int .i64 0, .int .i8 0] 78 (0, 0))) (hB : W0.heap.size ≤ b) (e : Ext [] W0 w) : Buf W0.heap.size b W0 [] w :=
  ⟨⟨hB, _, 0, hb, World.ownsRow_nil _ _ _ _, by simp [Value.ownBlock]⟩, e.below, e.size, by simp⟩
end Go.Proofs.YtikaldcoakpfoaaGreatDoor
