/-
  No cell of these rows narrows 'for every input' (looked for: loops, veiled, ifaces, maps, wideKeys, modest, calm, conditions, laid).
  DERIVED. THE GIVEN ROWS OF THIS SEAT. 5 by the template 'for every input the law returns true; each argument reads behind the call as it read before'; 0 by the template 'total and deterministic' (their statements: YtaifkiafoebgcaaTotals.lean).
  GIVEN WITH THE SEED: the statements are not yours to turn. If you find one false, say at which input.
  Laid BY PROGRAM, IN A SANDBOX (cutbox-rows.mjs): the forced cells as the released guide's own fill.sh prints them over the translation 171f66bfe21571f4… (all of the seat's roots in one cut). By AI agents, Wed Nov 11 2026. No macro, syntax, notation, axiom, sorry.
-/
import Derived.Test.YtaifkiafoebgcaaChecked
import GoSem.Claim
import GoSem.ClaimJoined
import GoSem.ClaimMapViews
import Derived.JoinedTies
import Derived.KernelRfl
namespace Go.Proofs.Ytaifkiafoebgcaa
/- THE CELL 'sum', in the pinned program and in every row, IS THE sha256 OF THE DUMP (.gsa) THAT YtaifkiafoebgcaaProg.lean LOADS. Nothing in Lean hashes anything: it is a label: what it is worth is what the hold of that sum in a sandbox is worth. -/
noncomputable def Try.pinned : Pinned := { name := "ytaifkiafoebgcaa", sum := "171f66bfe21571f4c61fc5415bbbb0afa17ca0fcb54f8365f449a618ba75cb75", checked := Try.checked }
namespace Rows
def none {H : Type} : Left H := { results := [], args := [] }

/-- 'laws.FnCompactAgainst': WHATEVER THE INPUT: true; the input reads as it did. -/
def fnCompactAgainstSpec : ChangeSpec := { name := "fnCompactAgainst", fn := fun _ => fun
  | [d1, d2] => { results := [.lit (.bool true)], args := [d1, d2] }
  | _ => none }
def fnCompactAgainstRow : OpenClaim := { program := "ytaifkiafoebgcaa", sum := "171f66bfe21571f4c61fc5415bbbb0afa17ca0fcb54f8365f449a618ba75cb75", func := "pub-tandemry/laws.FnCompactAgainst", spec := "fnCompactAgainst", apart := false }
def FnCompactAgainstSaid : Prop := fnCompactAgainstRow.holds Try.pinned (OpenSpec.ofChange fnCompactAgainstSpec)

/-- ITS FALSE NEIGHBOUR: 'it returns false'. Refute it at one input. -/
def fnCompactAgainstWrong : ChangeSpec := { name := "fnCompactAgainst", fn := fun _ => fun
  | [d1, d2] => { results := [.lit (.bool false)], args := [d1, d2] }
  | _ => none }
def FnCompactAgainstWrongFalsely : Prop := fnCompactAgainstRow.holds Try.pinned (OpenSpec.ofChange fnCompactAgainstWrong)

/-- 'laws.FnCompactTwice': WHATEVER THE INPUT: true; the input reads as it did. -/
def fnCompactTwiceSpec : ChangeSpec := { name := "fnCompactTwice", fn := fun _ => fun
  | [d1, d2] => { results := [.lit (.bool true)], args := [d1, d2] }
  | _ => none }
def fnCompactTwiceRow : OpenClaim := { program := "ytaifkiafoebgcaa", sum := "171f66bfe21571f4c61fc5415bbbb0afa17ca0fcb54f8365f449a618ba75cb75", func := "pub-tandemry/laws.FnCompactTwice", spec := "fnCompactTwice", apart := false }
def FnCompactTwiceSaid : Prop := fnCompactTwiceRow.holds Try.pinned (OpenSpec.ofChange fnCompactTwiceSpec)

/-- ITS FALSE NEIGHBOUR: 'it returns false'. Refute it at one input. -/
def fnCompactTwiceWrong : ChangeSpec := { name := "fnCompactTwice", fn := fun _ => fun
  | [d1, d2] => { results := [.lit (.bool false)], args := [d1, d2] }
  | _ => none }
def FnCompactTwiceWrongFalsely : Prop := fnCompactTwiceRow.holds Try.pinned (OpenSpec.ofChange fnCompactTwiceWrong)

/-- 'laws.FnWindowRising': WHATEVER THE INPUT: true; the input reads as it did. -/
def fnWindowRisingSpec : ChangeSpec := { name := "fnWindowRising", fn := fun _ => fun
  | [d1, d2, d3] => { results := [.lit (.bool true)], args := [d1, d2, d3] }
  | _ => none }
def fnWindowRisingRow : OpenClaim := { program := "ytaifkiafoebgcaa", sum := "171f66bfe21571f4c61fc5415bbbb0afa17ca0fcb54f8365f449a618ba75cb75", func := "pub-tandemry/laws.FnWindowRising", spec := "fnWindowRising", unfollowed := true, recurses := true, apart := false }
def FnWindowRisingSaid : Prop := fnWindowRisingRow.holds Try.pinned (OpenSpec.ofChange fnWindowRisingSpec)

/-- ITS FALSE NEIGHBOUR: 'it returns false'. Refute it at one input. -/
def fnWindowRisingWrong : ChangeSpec := { name := "fnWindowRising", fn := fun _ => fun
  | [d1, d2, d3] => { results := [.lit (.bool false)], args := [d1, d2, d3] }
  | _ => none }
def FnWindowRisingWrongFalsely : Prop := fnWindowRisingRow.holds Try.pinned (OpenSpec.ofChange fnWindowRisingWrong)

/-- 'laws.FnWindowShift': WHATEVER THE INPUT: true; the input reads as it did. -/
def fnWindowShiftSpec : ChangeSpec := { name := "fnWindowShift", fn := fun _ => fun
  | [d1, d2, d3, d4] => { results := [.lit (.bool true)], args := [d1, d2, d3, d4] }
  | _ => none }
def fnWindowShiftRow : OpenClaim := { program := "ytaifkiafoebgcaa", sum := "171f66bfe21571f4c61fc5415bbbb0afa17ca0fcb54f8365f449a618ba75cb75", func := "pub-tandemry/laws.FnWindowShift", spec := "fnWindowShift", unfollowed := true, recurses := true, apart := false }
def FnWindowShiftSaid : Prop := fnWindowShiftRow.holds Try.pinned (OpenSpec.ofChange fnWindowShiftSpec)

/-- ITS FALSE NEIGHBOUR: 'it returns false'. Refute it at one input. -/
def fnWindowShiftWrong : ChangeSpec := { name := "fnWindowShift", fn := fun _ => fun
  | [d1, d2, d3, d4] => { results := [.lit (.bool false)], args := [d1, d2, d3, d4] }
  | _ => none }
def FnWindowShiftWrongFalsely : Prop := fnWindowShiftRow.holds Try.pinned (OpenSpec.ofChange fnWindowShiftWrong)

/-- 'laws.FnWindowUntaken': WHATEVER THE INPUT: true; the input reads as it did. -/
def fnWindowUntakenSpec : ChangeSpec := { name := "fnWindowUntaken", fn := fun _ => fun
  | [d1, d2, d3, d4] => { results := [.lit (.bool true)], args := [d1, d2, d3, d4] }
  | _ => none }
def fnWindowUntakenRow : OpenClaim := { program := "ytaifkiafoebgcaa", sum := "171f66bfe21571f4c61fc5415bbbb0afa17ca0fcb54f8365f449a618ba75cb75", func := "pub-tandemry/laws.FnWindowUntaken", spec := "fnWindowUntaken", unfollowed := true, recurses := true, apart := false }
def FnWindowUntakenSaid : Prop := fnWindowUntakenRow.holds Try.pinned (OpenSpec.ofChange fnWindowUntakenSpec)

/-- ITS FALSE NEIGHBOUR: 'it returns false'. Refute it at one input. -/
def fnWindowUntakenWrong : ChangeSpec := { name := "fnWindowUntaken", fn := fun _ => fun
  | [d1, d2, d3, d4] => { results := [.lit (.bool false)], args := [d1, d2, d3, d4] }
  | _ => none }
def FnWindowUntakenWrongFalsely : Prop := fnWindowUntakenRow.holds Try.pinned (OpenSpec.ofChange fnWindowUntakenWrong)

/- THE SECOND FORM. 'bulk': how many values and letters a reading holds, each counted each time it is reached (what is shared counts as often as it is met; a slice's spare places count too). A statement '..UptoSaid' is the law's where the arguments, and the package variables that the reading takes, are together of bulk at most 1048576: NARROWER than '..Said'. Prove '..Said' where nothing that the law and all that it calls make is longer than what came in: it says more and counts as full. Else prove '..UptoSaid'. A law counts once. -/
mutual
def uptoBulk {H : Type} : DataW H → Nat
  | .lit (.string bytes) => bytes.length + 1
  | .lit _ => 1
  | .nil => 1
  | .ptr d => uptoBulk d + 1
  | .slice elems spare => uptoBulkAll elems + uptoBulkAll spare + 1
  | .agg parts => uptoBulkAll parts + 1
  | .iface _ d => uptoBulk d + 1
  | .map entries => uptoBulkEntries entries + 1
  | .held _ => 1
def uptoBulkAll {H : Type} : List (DataW H) → Nat
  | [] => 0
  | d :: r => uptoBulk d + uptoBulkAll r
def uptoBulkEntries {H : Type} : List (Lit × DataW H) → Nat
  | [] => 0
  | x :: r => uptoBulkEntry x + uptoBulkEntries r
def uptoBulkEntry {H : Type} : Lit × DataW H → Nat
  | (.string bytes, d) => bytes.length + uptoBulk d + 1
  | (_, d) => uptoBulk d + 1
 end
def uptoSmall : (H : Type) → List (DataW H) → Bool := fun _ ds => decide (uptoBulkAll ds ≤ 1048576)
def OpenSpec.upto (s : _root_.Go.ChangeSpec) : _root_.Go.OpenSpec := { _root_.Go.OpenSpec.ofChange s with cond := some uptoSmall }

/-- 'laws.FnCompactAgainst', WHERE WHAT IT READS IS OF BULK AT MOST 1048576: true; the input reads as it did. -/
def fnCompactAgainstUptoRow : OpenClaim := { program := "ytaifkiafoebgcaa", sum := "171f66bfe21571f4c61fc5415bbbb0afa17ca0fcb54f8365f449a618ba75cb75", func := "pub-tandemry/laws.FnCompactAgainst", spec := "fnCompactAgainst", apart := false, narrowed := true }
def FnCompactAgainstUptoSaid : Prop := fnCompactAgainstUptoRow.holds Try.pinned (OpenSpec.upto fnCompactAgainstSpec)

/-- 'laws.FnCompactTwice', WHERE WHAT IT READS IS OF BULK AT MOST 1048576: true; the input reads as it did. -/
def fnCompactTwiceUptoRow : OpenClaim := { program := "ytaifkiafoebgcaa", sum := "171f66bfe21571f4c61fc5415bbbb0afa17ca0fcb54f8365f449a618ba75cb75", func := "pub-tandemry/laws.FnCompactTwice", spec := "fnCompactTwice", apart := false, narrowed := true }
def FnCompactTwiceUptoSaid : Prop := fnCompactTwiceUptoRow.holds Try.pinned (OpenSpec.upto fnCompactTwiceSpec)

/-- 'laws.FnWindowRising', WHERE WHAT IT READS IS OF BULK AT MOST 1048576: true; the input reads as it did. -/
def fnWindowRisingUptoRow : OpenClaim := { program := "ytaifkiafoebgcaa", sum := "171f66bfe21571f4c61fc5415bbbb0afa17ca0fcb54f8365f449a618ba75cb75", func := "pub-tandemry/laws.FnWindowRising", spec := "fnWindowRising", unfollowed := true, recurses := true, apart := false, narrowed := true }
def FnWindowRisingUptoSaid : Prop := fnWindowRisingUptoRow.holds Try.pinned (OpenSpec.upto fnWindowRisingSpec)

/-- 'laws.FnWindowShift', WHERE WHAT IT READS IS OF BULK AT MOST 1048576: true; the input reads as it did. -/
def fnWindowShiftUptoRow : OpenClaim := { program := "ytaifkiafoebgcaa", sum := "171f66bfe21571f4c61fc5415bbbb0afa17ca0fcb54f8365f449a618ba75cb75", func := "pub-tandemry/laws.FnWindowShift", spec := "fnWindowShift", unfollowed := true, recurses := true, apart := false, narrowed := true }
def FnWindowShiftUptoSaid : Prop := fnWindowShiftUptoRow.holds Try.pinned (OpenSpec.upto fnWindowShiftSpec)

/-- 'laws.FnWindowUntaken', WHERE WHAT IT READS IS OF BULK AT MOST 1048576: true; the input reads as it did. -/
def fnWindowUntakenUptoRow : OpenClaim := { program := "ytaifkiafoebgcaa", sum := "171f66bfe21571f4c61fc5415bbbb0afa17ca0fcb54f8365f449a618ba75cb75", func := "pub-tandemry/laws.FnWindowUntaken", spec := "fnWindowUntaken", unfollowed := true, recurses := true, apart := false, narrowed := true }
def FnWindowUntakenUptoSaid : Prop := fnWindowUntakenUptoRow.holds Try.pinned (OpenSpec.upto fnWindowUntakenSpec)

end Rows
end Go.Proofs.Ytaifkiafoebgcaa
