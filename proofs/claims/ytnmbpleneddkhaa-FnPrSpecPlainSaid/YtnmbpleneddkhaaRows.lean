/-
  No cell of these rows narrows 'for every input' (looked for: loops, veiled, ifaces, maps, wideKeys, modest, calm, conditions, laid).
  DERIVED. THE GIVEN ROWS OF THIS SEAT. 6 by the template 'for every input the law returns true; each argument reads behind the call as it read before'; 0 by the template 'total and deterministic' (their statements: YtnmbpleneddkhaaTotals.lean).
  GIVEN WITH THE SEED: the statements are not yours to turn. If you find one false, say at which input.
  Laid BY PROGRAM, IN A SANDBOX (cutbox-rows.mjs): the forced cells as the released guide's own fill.sh prints them over the translation 733eb9323bb67085… (all of the seat's roots in one cut). By AI agents, Wed Nov 11 2026. No macro, syntax, notation, axiom, sorry.
-/
import Derived.Test.YtnmbpleneddkhaaChecked
import GoSem.Claim
import GoSem.ClaimJoined
import GoSem.ClaimMapViews
import Derived.JoinedTies
import Derived.KernelRfl
namespace Go.Proofs.Ytnmbpleneddkhaa
/- THE CELL 'sum', in the pinned program and in every row, IS THE sha256 OF THE DUMP (.gsa) THAT YtnmbpleneddkhaaProg.lean LOADS. Nothing in Lean hashes anything: it is a label: what it is worth is what the hold of that sum in a sandbox is worth. -/
noncomputable def Try.pinned : Pinned := { name := "ytnmbpleneddkhaa", sum := "733eb9323bb670858145ede1b329cd2e00d63ca0a52dbe46a28f8964375d46f2", checked := Try.checked }
namespace Rows
def none {H : Type} : Left H := { results := [], args := [] }

/-- 'laws.FnGjTokensAt': WHATEVER THE INPUT: true; the input reads as it did. -/
def fnGjTokensAtSpec : ChangeSpec := { name := "fnGjTokensAt", fn := fun _ => fun
  | [d] => { results := [.lit (.bool true)], args := [d] }
  | _ => none }
def fnGjTokensAtRow : OpenClaim := { program := "ytnmbpleneddkhaa", sum := "733eb9323bb670858145ede1b329cd2e00d63ca0a52dbe46a28f8964375d46f2", func := "pub-tetrapla/laws.FnGjTokensAt", spec := "fnGjTokensAt", recurses := true, apart := false }
def FnGjTokensAtSaid : Prop := fnGjTokensAtRow.holds Try.pinned (OpenSpec.ofChange fnGjTokensAtSpec)

/-- ITS FALSE NEIGHBOUR: 'it returns false'. Refute it at one input. -/
def fnGjTokensAtWrong : ChangeSpec := { name := "fnGjTokensAt", fn := fun _ => fun
  | [d] => { results := [.lit (.bool false)], args := [d] }
  | _ => none }
def FnGjTokensAtWrongFalsely : Prop := fnGjTokensAtRow.holds Try.pinned (OpenSpec.ofChange fnGjTokensAtWrong)

/-- 'laws.FnFjRawString': WHATEVER THE INPUT: true; the input reads as it did. -/
def fnFjRawStringSpec : ChangeSpec := { name := "fnFjRawString", fn := fun _ => fun
  | [d] => { results := [.lit (.bool true)], args := [d] }
  | _ => none }
def fnFjRawStringRow : OpenClaim := { program := "ytnmbpleneddkhaa", sum := "733eb9323bb670858145ede1b329cd2e00d63ca0a52dbe46a28f8964375d46f2", func := "pub-tetrapla/laws.FnFjRawString", spec := "fnFjRawString", inPlace := ["internal/bytealg.IndexByteString"], apart := false }
def FnFjRawStringSaid : Prop := fnFjRawStringRow.holds Try.pinned (OpenSpec.ofChange fnFjRawStringSpec)

/-- ITS FALSE NEIGHBOUR: 'it returns false'. Refute it at one input. -/
def fnFjRawStringWrong : ChangeSpec := { name := "fnFjRawString", fn := fun _ => fun
  | [d] => { results := [.lit (.bool false)], args := [d] }
  | _ => none }
def FnFjRawStringWrongFalsely : Prop := fnFjRawStringRow.holds Try.pinned (OpenSpec.ofChange fnFjRawStringWrong)

/-- 'laws.FnGjSquash': WHATEVER THE INPUT: true; the input reads as it did. -/
def fnGjSquashSpec : ChangeSpec := { name := "fnGjSquash", fn := fun _ => fun
  | [d1, d2] => { results := [.lit (.bool true)], args := [d1, d2] }
  | _ => none }
def fnGjSquashRow : OpenClaim := { program := "ytnmbpleneddkhaa", sum := "733eb9323bb670858145ede1b329cd2e00d63ca0a52dbe46a28f8964375d46f2", func := "pub-tetrapla/laws.FnGjSquash", spec := "fnGjSquash", recurses := true, apart := false }
def FnGjSquashSaid : Prop := fnGjSquashRow.holds Try.pinned (OpenSpec.ofChange fnGjSquashSpec)

/-- ITS FALSE NEIGHBOUR: 'it returns false'. Refute it at one input. -/
def fnGjSquashWrong : ChangeSpec := { name := "fnGjSquash", fn := fun _ => fun
  | [d1, d2] => { results := [.lit (.bool false)], args := [d1, d2] }
  | _ => none }
def FnGjSquashWrongFalsely : Prop := fnGjSquashRow.holds Try.pinned (OpenSpec.ofChange fnGjSquashWrong)

/-- 'laws.FnPrSpecPlain': WHATEVER THE INPUT: true; the input reads as it did. -/
def fnPrSpecPlainSpec : ChangeSpec := { name := "fnPrSpecPlain", fn := fun _ => fun
  | [d] => { results := [.lit (.bool true)], args := [d] }
  | _ => none }
def fnPrSpecPlainRow : OpenClaim := { program := "ytnmbpleneddkhaa", sum := "733eb9323bb670858145ede1b329cd2e00d63ca0a52dbe46a28f8964375d46f2", func := "pub-tetrapla/laws.FnPrSpecPlain", spec := "fnPrSpecPlain", recurses := true, apart := false }
def FnPrSpecPlainSaid : Prop := fnPrSpecPlainRow.holds Try.pinned (OpenSpec.ofChange fnPrSpecPlainSpec)

/-- ITS FALSE NEIGHBOUR: 'it returns false'. Refute it at one input. -/
def fnPrSpecPlainWrong : ChangeSpec := { name := "fnPrSpecPlain", fn := fun _ => fun
  | [d] => { results := [.lit (.bool false)], args := [d] }
  | _ => none }
def FnPrSpecPlainWrongFalsely : Prop := fnPrSpecPlainRow.holds Try.pinned (OpenSpec.ofChange fnPrSpecPlainWrong)

/-- 'laws.FnGjQueryParts': WHATEVER THE INPUT: true; the input reads as it did. -/
def fnGjQueryPartsSpec : ChangeSpec := { name := "fnGjQueryParts", fn := fun _ => fun
  | [d1, d2, d3, d4] => { results := [.lit (.bool true)], args := [d1, d2, d3, d4] }
  | _ => none }
def fnGjQueryPartsRow : OpenClaim := { program := "ytnmbpleneddkhaa", sum := "733eb9323bb670858145ede1b329cd2e00d63ca0a52dbe46a28f8964375d46f2", func := "pub-tetrapla/laws.FnGjQueryParts", spec := "fnGjQueryParts", apart := false }
def FnGjQueryPartsSaid : Prop := fnGjQueryPartsRow.holds Try.pinned (OpenSpec.ofChange fnGjQueryPartsSpec)

/-- ITS FALSE NEIGHBOUR: 'it returns false'. Refute it at one input. -/
def fnGjQueryPartsWrong : ChangeSpec := { name := "fnGjQueryParts", fn := fun _ => fun
  | [d1, d2, d3, d4] => { results := [.lit (.bool false)], args := [d1, d2, d3, d4] }
  | _ => none }
def FnGjQueryPartsWrongFalsely : Prop := fnGjQueryPartsRow.holds Try.pinned (OpenSpec.ofChange fnGjQueryPartsWrong)

/-- 'laws.FnGjSplitAny': WHATEVER THE INPUT: true; the input reads as it did. -/
def fnGjSplitAnySpec : ChangeSpec := { name := "fnGjSplitAny", fn := fun _ => fun
  | [d] => { results := [.lit (.bool true)], args := [d] }
  | _ => none }
def fnGjSplitAnyRow : OpenClaim := { program := "ytnmbpleneddkhaa", sum := "733eb9323bb670858145ede1b329cd2e00d63ca0a52dbe46a28f8964375d46f2", func := "pub-tetrapla/laws.FnGjSplitAny", spec := "fnGjSplitAny", apart := false }
def FnGjSplitAnySaid : Prop := fnGjSplitAnyRow.holds Try.pinned (OpenSpec.ofChange fnGjSplitAnySpec)

/-- ITS FALSE NEIGHBOUR: 'it returns false'. Refute it at one input. -/
def fnGjSplitAnyWrong : ChangeSpec := { name := "fnGjSplitAny", fn := fun _ => fun
  | [d] => { results := [.lit (.bool false)], args := [d] }
  | _ => none }
def FnGjSplitAnyWrongFalsely : Prop := fnGjSplitAnyRow.holds Try.pinned (OpenSpec.ofChange fnGjSplitAnyWrong)

/- THE SECOND FORM. 'bulk': how many values and letters a reading holds, each counted each time it is reached (what is shared counts as often as it is met; a slice's spare places count too). A statement '..UptoSaid' is the law's where the arguments, and the package variables that the reading takes, are together of bulk at most 1048576: NARROWER than '..Said'. Prove '..Said' where nothing that the law and all that it calls make is longer than what came in: it says more and counts as full. Else prove '..UptoSaid'. A law counts once. -/
mutual
def uptoBulk {H : Type} : DataW H → Nat
  | .lit (.string bytes) => bytes.length + 1
  | .lit _ => 1
  | .nil => 1
  | .ptr d => uptoBulk d + 1
  | .slice elems spare => uptoBulkAll elems + uptoBulkAll spare + 1
  | .agg parts => uptoBulkAll parts + 1
  | .iface _ d => uptoBulk d + 1
  | .map entries => uptoBulkEntries entries + 1
  | .held _ => 1
def uptoBulkAll {H : Type} : List (DataW H) → Nat
  | [] => 0
  | d :: r => uptoBulk d + uptoBulkAll r
def uptoBulkEntries {H : Type} : List (Lit × DataW H) → Nat
  | [] => 0
  | x :: r => uptoBulkEntry x + uptoBulkEntries r
def uptoBulkEntry {H : Type} : Lit × DataW H → Nat
  | (.string bytes, d) => bytes.length + uptoBulk d + 1
  | (_, d) => uptoBulk d + 1
 end
def uptoSmall : (H : Type) → List (DataW H) → Bool := fun _ ds => decide (uptoBulkAll ds ≤ 1048576)
def OpenSpec.upto (s : _root_.Go.ChangeSpec) : _root_.Go.OpenSpec := { _root_.Go.OpenSpec.ofChange s with cond := some uptoSmall }

/-- 'laws.FnGjTokensAt', WHERE WHAT IT READS IS OF BULK AT MOST 1048576: true; the input reads as it did. -/
def fnGjTokensAtUptoRow : OpenClaim := { program := "ytnmbpleneddkhaa", sum := "733eb9323bb670858145ede1b329cd2e00d63ca0a52dbe46a28f8964375d46f2", func := "pub-tetrapla/laws.FnGjTokensAt", spec := "fnGjTokensAt", recurses := true, apart := false, narrowed := true }
def FnGjTokensAtUptoSaid : Prop := fnGjTokensAtUptoRow.holds Try.pinned (OpenSpec.upto fnGjTokensAtSpec)

/-- 'laws.FnFjRawString', WHERE WHAT IT READS IS OF BULK AT MOST 1048576: true; the input reads as it did. -/
def fnFjRawStringUptoRow : OpenClaim := { program := "ytnmbpleneddkhaa", sum := "733eb9323bb670858145ede1b329cd2e00d63ca0a52dbe46a28f8964375d46f2", func := "pub-tetrapla/laws.FnFjRawString", spec := "fnFjRawString", inPlace := ["internal/bytealg.IndexByteString"], apart := false, narrowed := true }
def FnFjRawStringUptoSaid : Prop := fnFjRawStringUptoRow.holds Try.pinned (OpenSpec.upto fnFjRawStringSpec)

/-- 'laws.FnGjSquash', WHERE WHAT IT READS IS OF BULK AT MOST 1048576: true; the input reads as it did. -/
def fnGjSquashUptoRow : OpenClaim := { program := "ytnmbpleneddkhaa", sum := "733eb9323bb670858145ede1b329cd2e00d63ca0a52dbe46a28f8964375d46f2", func := "pub-tetrapla/laws.FnGjSquash", spec := "fnGjSquash", recurses := true, apart := false, narrowed := true }
def FnGjSquashUptoSaid : Prop := fnGjSquashUptoRow.holds Try.pinned (OpenSpec.upto fnGjSquashSpec)

/-- 'laws.FnPrSpecPlain', WHERE WHAT IT READS IS OF BULK AT MOST 1048576: true; the input reads as it did. -/
def fnPrSpecPlainUptoRow : OpenClaim := { program := "ytnmbpleneddkhaa", sum := "733eb9323bb670858145ede1b329cd2e00d63ca0a52dbe46a28f8964375d46f2", func := "pub-tetrapla/laws.FnPrSpecPlain", spec := "fnPrSpecPlain", recurses := true, apart := false, narrowed := true }
def FnPrSpecPlainUptoSaid : Prop := fnPrSpecPlainUptoRow.holds Try.pinned (OpenSpec.upto fnPrSpecPlainSpec)

/-- 'laws.FnGjQueryParts', WHERE WHAT IT READS IS OF BULK AT MOST 1048576: true; the input reads as it did. -/
def fnGjQueryPartsUptoRow : OpenClaim := { program := "ytnmbpleneddkhaa", sum := "733eb9323bb670858145ede1b329cd2e00d63ca0a52dbe46a28f8964375d46f2", func := "pub-tetrapla/laws.FnGjQueryParts", spec := "fnGjQueryParts", apart := false, narrowed := true }
def FnGjQueryPartsUptoSaid : Prop := fnGjQueryPartsUptoRow.holds Try.pinned (OpenSpec.upto fnGjQueryPartsSpec)

/-- 'laws.FnGjSplitAny', WHERE WHAT IT READS IS OF BULK AT MOST 1048576: true; the input reads as it did. -/
def fnGjSplitAnyUptoRow : OpenClaim := { program := "ytnmbpleneddkhaa", sum := "733eb9323bb670858145ede1b329cd2e00d63ca0a52dbe46a28f8964375d46f2", func := "pub-tetrapla/laws.FnGjSplitAny", spec := "fnGjSplitAny", apart := false, narrowed := true }
def FnGjSplitAnyUptoSaid : Prop := fnGjSplitAnyUptoRow.holds Try.pinned (OpenSpec.upto fnGjSplitAnySpec)

end Rows
end Go.Proofs.Ytnmbpleneddkhaa
