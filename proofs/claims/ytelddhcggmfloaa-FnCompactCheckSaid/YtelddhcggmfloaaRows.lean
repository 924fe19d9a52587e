/-
  No cell of these rows narrows 'for every input' (looked for: loops, veiled, ifaces, maps, wideKeys, modest, calm, conditions, laid).
  DERIVED. THE GIVEN ROWS OF THIS SEAT. 4 by the template 'for every input the law returns true; each argument reads behind the call as it read before'; 0 by the template 'total and deterministic' (their statements: YtelddhcggmfloaaTotals.lean).
  GIVEN WITH THE SEED: the statements are not yours to turn. If you find one false, say at which input.
  Laid BY PROGRAM, IN A SANDBOX (cutbox-rows.mjs): the forced cells as the released guide's own fill.sh prints them over the translation 9e7257e9e1163332… (all of the seat's roots in one cut). By AI agents, Wed Nov 11 2026. No macro, syntax, notation, axiom, sorry.
-/
import Derived.Test.YtelddhcggmfloaaChecked
import GoSem.Claim
import GoSem.ClaimJoined
import GoSem.ClaimMapViews
import Derived.JoinedTies
import Derived.KernelRfl
namespace Go.Proofs.Ytelddhcggmfloaa
/- THE CELL 'sum', in the pinned program and in every row, IS THE sha256 OF THE DUMP (.gsa) THAT YtelddhcggmfloaaProg.lean LOADS. Nothing in Lean hashes anything: it is a label: what it is worth is what the hold of that sum in a sandbox is worth. -/
noncomputable def Try.pinned : Pinned := { name := "ytelddhcggmfloaa", sum := "9e7257e9e11633328b8b100a17af2bde3adeb3f413bbb55887ae5c6a9e1a4eef", checked := Try.checked }
namespace Rows
def none {H : Type} : Left H := { results := [], args := [] }

/-- 'laws.FnInitialOrder': WHATEVER THE INPUT: true; the input reads as it did. -/
def fnInitialOrderSpec : ChangeSpec := { name := "fnInitialOrder", fn := fun _ => fun
  | [d1, d2] => { results := [.lit (.bool true)], args := [d1, d2] }
  | _ => none }
def fnInitialOrderRow : OpenClaim := { program := "ytelddhcggmfloaa", sum := "9e7257e9e11633328b8b100a17af2bde3adeb3f413bbb55887ae5c6a9e1a4eef", func := "pub-vicegerent/laws.FnInitialOrder", spec := "fnInitialOrder", unfollowed := true, recurses := true, apart := false }
def FnInitialOrderSaid : Prop := fnInitialOrderRow.holds Try.pinned (OpenSpec.ofChange fnInitialOrderSpec)

/-- ITS FALSE NEIGHBOUR: 'it returns false'. Refute it at one input. -/
def fnInitialOrderWrong : ChangeSpec := { name := "fnInitialOrder", fn := fun _ => fun
  | [d1, d2] => { results := [.lit (.bool false)], args := [d1, d2] }
  | _ => none }
def FnInitialOrderWrongFalsely : Prop := fnInitialOrderRow.holds Try.pinned (OpenSpec.ofChange fnInitialOrderWrong)

/-- 'laws.FnPeriodicHonest': WHATEVER THE INPUT: true; the input reads as it did. -/
def fnPeriodicHonestSpec : ChangeSpec := { name := "fnPeriodicHonest", fn := fun _ => fun
  | [d1, d2, d3, d4] => { results := [.lit (.bool true)], args := [d1, d2, d3, d4] }
  | _ => none }
def fnPeriodicHonestRow : OpenClaim := { program := "ytelddhcggmfloaa", sum := "9e7257e9e11633328b8b100a17af2bde3adeb3f413bbb55887ae5c6a9e1a4eef", func := "pub-vicegerent/laws.FnPeriodicHonest", spec := "fnPeriodicHonest", unfollowed := true, recurses := true, apart := false }
def FnPeriodicHonestSaid : Prop := fnPeriodicHonestRow.holds Try.pinned (OpenSpec.ofChange fnPeriodicHonestSpec)

/-- ITS FALSE NEIGHBOUR: 'it returns false'. Refute it at one input. -/
def fnPeriodicHonestWrong : ChangeSpec := { name := "fnPeriodicHonest", fn := fun _ => fun
  | [d1, d2, d3, d4] => { results := [.lit (.bool false)], args := [d1, d2, d3, d4] }
  | _ => none }
def FnPeriodicHonestWrongFalsely : Prop := fnPeriodicHonestRow.holds Try.pinned (OpenSpec.ofChange fnPeriodicHonestWrong)

/-- 'laws.FnCompactMajority': WHATEVER THE INPUT: true; the input reads as it did. -/
def fnCompactMajoritySpec : ChangeSpec := { name := "fnCompactMajority", fn := fun _ => fun
  | [d1, d2, d3, d4, d5] => { results := [.lit (.bool true)], args := [d1, d2, d3, d4, d5] }
  | _ => none }
def fnCompactMajorityRow : OpenClaim := { program := "ytelddhcggmfloaa", sum := "9e7257e9e11633328b8b100a17af2bde3adeb3f413bbb55887ae5c6a9e1a4eef", func := "pub-vicegerent/laws.FnCompactMajority", spec := "fnCompactMajority", unfollowed := true, recurses := true, apart := false }
def FnCompactMajoritySaid : Prop := fnCompactMajorityRow.holds Try.pinned (OpenSpec.ofChange fnCompactMajoritySpec)

/-- ITS FALSE NEIGHBOUR: 'it returns false'. Refute it at one input. -/
def fnCompactMajorityWrong : ChangeSpec := { name := "fnCompactMajority", fn := fun _ => fun
  | [d1, d2, d3, d4, d5] => { results := [.lit (.bool false)], args := [d1, d2, d3, d4, d5] }
  | _ => none }
def FnCompactMajorityWrongFalsely : Prop := fnCompactMajorityRow.holds Try.pinned (OpenSpec.ofChange fnCompactMajorityWrong)

/-- 'laws.FnCompactCheck': WHATEVER THE INPUT: true; the input reads as it did. -/
def fnCompactCheckSpec : ChangeSpec := { name := "fnCompactCheck", fn := fun _ => fun
  | [d1, d2] => { results := [.lit (.bool true)], args := [d1, d2] }
  | _ => none }
def fnCompactCheckRow : OpenClaim := { program := "ytelddhcggmfloaa", sum := "9e7257e9e11633328b8b100a17af2bde3adeb3f413bbb55887ae5c6a9e1a4eef", func := "pub-vicegerent/laws.FnCompactCheck", spec := "fnCompactCheck", unfollowed := true, recurses := true, apart := false }
def FnCompactCheckSaid : Prop := fnCompactCheckRow.holds Try.pinned (OpenSpec.ofChange fnCompactCheckSpec)

/-- ITS FALSE NEIGHBOUR: 'it returns false'. Refute it at one input. -/
def fnCompactCheckWrong : ChangeSpec := { name := "fnCompactCheck", fn := fun _ => fun
  | [d1, d2] => { results := [.lit (.bool false)], args := [d1, d2] }
  | _ => none }
def FnCompactCheckWrongFalsely : Prop := fnCompactCheckRow.holds Try.pinned (OpenSpec.ofChange fnCompactCheckWrong)

/- THE SECOND FORM. 'bulk': how many values and letters a reading holds, each counted each time it is reached (what is shared counts as often as it is met; a slice's spare places count too). A statement '..UptoSaid' is the law's where the arguments, and the package variables that the reading takes, are together of bulk at most 1048576: NARROWER than '..Said'. Prove '..Said' where nothing that the law and all that it calls make is longer than what came in: it says more and counts as full. Else prove '..UptoSaid'. A law counts once. -/
mutual
def uptoBulk {H : Type} : DataW H → Nat
  | .lit (.string bytes) => bytes.length + 1
  | .lit _ => 1
  | .nil => 1
  | .ptr d => uptoBulk d + 1
  | .slice elems spare => uptoBulkAll elems + uptoBulkAll spare + 1
  | .agg parts => uptoBulkAll parts + 1
  | .iface _ d => uptoBulk d + 1
  | .map entries => uptoBulkEntries entries + 1
  | .held _ => 1
def uptoBulkAll {H : Type} : List (DataW H) → Nat
  | [] => 0
  | d :: r => uptoBulk d + uptoBulkAll r
def uptoBulkEntries {H : Type} : List (Lit × DataW H) → Nat
  | [] => 0
  | x :: r => uptoBulkEntry x + uptoBulkEntries r
def uptoBulkEntry {H : Type} : Lit × DataW H → Nat
  | (.string bytes, d) => bytes.length + uptoBulk d + 1
  | (_, d) => uptoBulk d + 1
 end
def uptoSmall : (H : Type) → List (DataW H) → Bool := fun _ ds => decide (uptoBulkAll ds ≤ 1048576)
def OpenSpec.upto (s : _root_.Go.ChangeSpec) : _root_.Go.OpenSpec := { _root_.Go.OpenSpec.ofChange s with cond := some uptoSmall }

/-- 'laws.FnInitialOrder', WHERE WHAT IT READS IS OF BULK AT MOST 1048576: true; the input reads as it did. -/
def fnInitialOrderUptoRow : OpenClaim := { program := "ytelddhcggmfloaa", sum := "9e7257e9e11633328b8b100a17af2bde3adeb3f413bbb55887ae5c6a9e1a4eef", func := "pub-vicegerent/laws.FnInitialOrder", spec := "fnInitialOrder", unfollowed := true, recurses := true, apart := false, narrowed := true }
def FnInitialOrderUptoSaid : Prop := fnInitialOrderUptoRow.holds Try.pinned (OpenSpec.upto fnInitialOrderSpec)

/-- 'laws.FnPeriodicHonest', WHERE WHAT IT READS IS OF BULK AT MOST 1048576: true; the input reads as it did. -/
def fnPeriodicHonestUptoRow : OpenClaim := { program := "ytelddhcggmfloaa", sum := "9e7257e9e11633328b8b100a17af2bde3adeb3f413bbb55887ae5c6a9e1a4eef", func := "pub-vicegerent/laws.FnPeriodicHonest", spec := "fnPeriodicHonest", unfollowed := true, recurses := true, apart := false, narrowed := true }
def FnPeriodicHonestUptoSaid : Prop := fnPeriodicHonestUptoRow.holds Try.pinned (OpenSpec.upto fnPeriodicHonestSpec)

/-- 'laws.FnCompactMajority', WHERE WHAT IT READS IS OF BULK AT MOST 1048576: true; the input reads as it did. -/
def fnCompactMajorityUptoRow : OpenClaim := { program := "ytelddhcggmfloaa", sum := "9e7257e9e11633328b8b100a17af2bde3adeb3f413bbb55887ae5c6a9e1a4eef", func := "pub-vicegerent/laws.FnCompactMajority", spec := "fnCompactMajority", unfollowed := true, recurses := true, apart := false, narrowed := true }
def FnCompactMajorityUptoSaid : Prop := fnCompactMajorityUptoRow.holds Try.pinned (OpenSpec.upto fnCompactMajoritySpec)

/-- 'laws.FnCompactCheck', WHERE WHAT IT READS IS OF BULK AT MOST 1048576: true; the input reads as it did. -/
def fnCompactCheckUptoRow : OpenClaim := { program := "ytelddhcggmfloaa", sum := "9e7257e9e11633328b8b100a17af2bde3adeb3f413bbb55887ae5c6a9e1a4eef", func := "pub-vicegerent/laws.FnCompactCheck", spec := "fnCompactCheck", unfollowed := true, recurses := true, apart := false, narrowed := true }
def FnCompactCheckUptoSaid : Prop := fnCompactCheckUptoRow.holds Try.pinned (OpenSpec.upto fnCompactCheckSpec)

end Rows
end Go.Proofs.Ytelddhcggmfloaa
