import Derived.Test.YtlikpgidjdjgnaaProg
import Derived.Test.YtlikpgidjdjgnaaVLaws
namespace Go.Proofs.Ytlikpgidjdjgnaa
open Go Go.V

/-- The zero value of each type. -/
noncomputable def zeros : List (Option Value) := [some (.tuple #[]),
  some (.nilFunc),
  some (.int .i64 (0)),
  some (.int .i64 (0)),
  some (.bool false),
  some (.int .u8 (0)),
  some (.int .u8 (0)),
  some (.agg #[.int .i64 (0), .int .i64 (0), .bool false, .int .u8 (0)]),
  some (.agg #[.int .i64 (0), .int .i64 (0), .bool false, .int .u8 (0)]),
  some (.string ByteArray.empty),
  some (.string ByteArray.empty),
  some (.string ByteArray.empty),
  some (.int .u64 (0)),
  some (.agg #[.string ByteArray.empty, .int .u64 (0)]),
  some (.agg #[.string ByteArray.empty, .int .u64 (0)]),
  some (.pointer none),
  some (.pointer none),
  some (.pointer none),
  some (.agg #[.pointer none]),
  some (.agg #[.pointer none]),
  some (.nilIface),
  some (.int .i32 (0)),
  some (.slice none 0 0),
  some (.nilFunc),
  some (.nilFunc),
  some (.slice none 0 0),
  some (.slice none 0 0),
  some (.agg #[.int .i64 (0), .slice none 0 0]),
  some (.agg #[.int .i64 (0), .slice none 0 0]),
  some (.slice none 0 0),
  some (.tuple #[.slice none 0 0, .bool false]),
  some (.nilFunc),
  some (.nilFunc),
  some (.agg #[.bool false, .int .i64 (0), .slice none 0 0]),
  some (.agg #[.bool false, .int .i64 (0), .slice none 0 0]),
  some (.nilFunc),
  some (.nilFunc),
  some (.nilFunc),
  some (.pointer none),
  some (.agg #[.int .i64 (0), .int .i64 (0), .int .i64 (0), .slice none 0 0, .int .i64 (0)]),
  some (.agg #[.int .i64 (0), .int .i64 (0), .int .i64 (0), .slice none 0 0, .int .i64 (0)]),
  some (.nilFunc),
  some (.nilFunc),
  some (.pointer none),
  some (.nilIface),
  some (.nilIface),
  some (.tuple #[.pointer none, .nilIface]),
  some (.nilFunc),
  some (.nilFunc),
  some (.pointer none),
  some (.nilFunc),
  some (.agg #[.int .i64 (0)]),
  some (.agg #[.int .i64 (0)]),
  some (.nilIface),
  some (.nilIface),
  some (.pointer none),
  some (.nilFunc),
  some (.agg #[.int .i64 (0), .int .i64 (0)]),
  some (.agg #[.int .i64 (0), .int .i64 (0)]),
  some (.nilFunc),
  some (.nilFunc),
  some (.nilFunc),
  some (.nilFunc),
  some (.string ByteArray.empty),
  some (.agg #[.slice none 0 0, .int .i64 (0), .int .i64 (0), .int .i64 (0)]),
  some (.agg #[.slice none 0 0, .int .i64 (0), .int .i64 (0), .int .i64 (0)]),
  some (.tuple #[.int .i64 (0), .nilIface]),
  some (.nilFunc),
  some (.nilFunc),
  some (.nilFunc),
  some (.nilFunc),
  some (.agg #[.slice none 0 0, .int .i64 (0), .int .i64 (0), .int .i64 (0)]),
  some (.agg #[.slice none 0 0, .int .i64 (0), .int .i64 (0), .int .i64 (0)]),
  some (.agg #[.slice none 0 0, .int .i64 (0), .int .i64 (0), .int .i64 (0), .int .i64 (0)]),
  some (.agg #[.slice none 0 0, .int .i64 (0), .int .i64 (0), .int .i64 (0), .int .i64 (0)]),
  some (.tuple #[.int .i64 (0), .bool false]),
  some (.nilFunc),
  some (.nilFunc),
  some (.agg #[.pointer none, .pointer none, .pointer none, .string ByteArray.empty]),
  some (.agg #[.pointer none, .pointer none, .pointer none, .string ByteArray.empty]),
  some (.agg #[]),
  some (.agg #[]),
  some (.agg #[]),
  some (.int .u32 (0)),
  some (.int .u8 (0)),
  some (.int .u8 (0)),
  some (.nilFunc),
  some (.pointer none),
  some (.int .i32 (0)),
  some (.int .i32 (0)),
  some (.agg #[.int .u64 (0), .int .u64 (0), .int .u32 (0), .int .u8 (0), .int .u8 (0), .int .u8 (0), .int .u8 (0), .nilFunc, .pointer none, .int .i32 (0), .int .i32 (0)]),
  some (.agg #[.int .u64 (0), .int .u64 (0), .int .u32 (0), .int .u8 (0), .int .u8 (0), .int .u8 (0), .int .u8 (0), .nilFunc, .pointer none, .int .i32 (0), .int .i32 (0)]),
  some (.pointer none)]
theorem zeros_are : (List.range 93).map (fun t => (Try.prog.info? t).bind (·.zero)) = zeros := by kernel_rfl
theorem zero_of (t : Nat) (z : Value) (h : zeros[t]? = some (some z)) : (Try.prog.info? t).bind (·.zero) = some z := by
  have e := zeros_are
  have h2 : ((List.range 93).map (fun t => (Try.prog.info? t).bind (·.zero)))[t]? = some (some z) := by rw [e]; exact h
  rw [List.getElem?_map] at h2
  by_cases hl : t < 93
  · rw [List.getElem?_range hl] at h2
    simpa using h2
  · rw [List.getElem?_eq_none (by simpa using hl)] at h2
    cases h2
theorem elem22 : Elem Try.prog 22 26 1 24 (.slice none 0 0) := ⟨Try.underlying22, by kernel_rfl, rfl⟩
theorem elem25 : Elem Try.prog 25 28 2 32 (.agg #[.int .i64 (0), .slice none 0 0]) := ⟨Try.underlying25, by kernel_rfl, rfl⟩
theorem elem26 : Elem Try.prog 26 3 1 8 (.int .i64 (0)) := ⟨Try.underlying26, by kernel_rfl, rfl⟩
theorem elem29 : Elem Try.prog 29 34 3 40 (.agg #[.bool false, .int .i64 (0), .slice none 0 0]) := ⟨Try.underlying29, by kernel_rfl, rfl⟩
end Go.Proofs.Ytlikpgidjdjgnaa
