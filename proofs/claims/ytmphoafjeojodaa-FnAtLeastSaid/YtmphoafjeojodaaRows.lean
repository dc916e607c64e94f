/-
  No cell of these rows narrows 'for every input' (looked for: loops, veiled, ifaces, maps, wideKeys, modest, calm, conditions, laid).
  DERIVED. THE GIVEN ROWS OF THIS SEAT. 10 by the template 'for every input the law returns true; each argument reads behind the call as it read before'; 0 by the template 'total and deterministic' (their statements: YtmphoafjeojodaaTotals.lean).
  GIVEN WITH THE SEED: the statements are not yours to turn. If you find one false, say at which input.
  Laid BY PROGRAM, IN A SANDBOX (cutbox-rows.mjs): the forced cells as the released guide's own fill.sh prints them over the translation ead07a7dace33c83… (all of the seat's roots in one cut). By AI agents, Wed Nov 11 2026. No macro, syntax, notation, axiom, sorry.
-/
import Derived.Test.YtmphoafjeojodaaChecked
import GoSem.Claim
import GoSem.ClaimJoined
import GoSem.ClaimMapViews
import Derived.JoinedTies
import Derived.KernelRfl
namespace Go.Proofs.Ytmphoafjeojodaa
/- THE CELL 'sum', in the pinned program and in every row, IS THE sha256 OF THE DUMP (.gsa) THAT YtmphoafjeojodaaProg.lean LOADS. Nothing in Lean hashes anything: it is a label: what it is worth is what the hold of that sum in a sandbox is worth. -/
noncomputable def Try.pinned : Pinned := { name := "ytmphoafjeojodaa", sum := "ead07a7dace33c8384141ced86b44dc1108b8623b08056de7e68de8a30371316", checked := Try.checked }
namespace Rows
def none {H : Type} : Left H := { results := [], args := [] }

/-- 'laws.FnExactDistance': WHATEVER THE INPUT: true; the input reads as it did. -/
def fnExactDistanceSpec : ChangeSpec := { name := "fnExactDistance", fn := fun _ => fun
  | [d1, d2] => { results := [.lit (.bool true)], args := [d1, d2] }
  | _ => none }
def fnExactDistanceRow : OpenClaim := { program := "ytmphoafjeojodaa", sum := "ead07a7dace33c8384141ced86b44dc1108b8623b08056de7e68de8a30371316", func := "loop.example/pub-wrappedwords/laws.FnExactDistance", spec := "fnExactDistance", apart := false }
def FnExactDistanceSaid : Prop := fnExactDistanceRow.holds Try.pinned (OpenSpec.ofChange fnExactDistanceSpec)

/-- ITS FALSE NEIGHBOUR: 'it returns false'. Refute it at one input. -/
def fnExactDistanceWrong : ChangeSpec := { name := "fnExactDistance", fn := fun _ => fun
  | [d1, d2] => { results := [.lit (.bool false)], args := [d1, d2] }
  | _ => none }
def FnExactDistanceWrongFalsely : Prop := fnExactDistanceRow.holds Try.pinned (OpenSpec.ofChange fnExactDistanceWrong)

/-- 'laws.FnExactParts': WHATEVER THE INPUT: true; the input reads as it did. -/
def fnExactPartsSpec : ChangeSpec := { name := "fnExactParts", fn := fun _ => fun
  | [d1, d2] => { results := [.lit (.bool true)], args := [d1, d2] }
  | _ => none }
def fnExactPartsRow : OpenClaim := { program := "ytmphoafjeojodaa", sum := "ead07a7dace33c8384141ced86b44dc1108b8623b08056de7e68de8a30371316", func := "loop.example/pub-wrappedwords/laws.FnExactParts", spec := "fnExactParts", apart := false }
def FnExactPartsSaid : Prop := fnExactPartsRow.holds Try.pinned (OpenSpec.ofChange fnExactPartsSpec)

/-- ITS FALSE NEIGHBOUR: 'it returns false'. Refute it at one input. -/
def fnExactPartsWrong : ChangeSpec := { name := "fnExactParts", fn := fun _ => fun
  | [d1, d2] => { results := [.lit (.bool false)], args := [d1, d2] }
  | _ => none }
def FnExactPartsWrongFalsely : Prop := fnExactPartsRow.holds Try.pinned (OpenSpec.ofChange fnExactPartsWrong)

/-- 'laws.FnCapped': WHATEVER THE INPUT: true; the input reads as it did. -/
def fnCappedSpec : ChangeSpec := { name := "fnCapped", fn := fun _ => fun
  | [d1, d2, d3] => { results := [.lit (.bool true)], args := [d1, d2, d3] }
  | _ => none }
def fnCappedRow : OpenClaim := { program := "ytmphoafjeojodaa", sum := "ead07a7dace33c8384141ced86b44dc1108b8623b08056de7e68de8a30371316", func := "loop.example/pub-wrappedwords/laws.FnCapped", spec := "fnCapped", apart := false }
def FnCappedSaid : Prop := fnCappedRow.holds Try.pinned (OpenSpec.ofChange fnCappedSpec)

/-- ITS FALSE NEIGHBOUR: 'it returns false'. Refute it at one input. -/
def fnCappedWrong : ChangeSpec := { name := "fnCapped", fn := fun _ => fun
  | [d1, d2, d3] => { results := [.lit (.bool false)], args := [d1, d2, d3] }
  | _ => none }
def FnCappedWrongFalsely : Prop := fnCappedRow.holds Try.pinned (OpenSpec.ofChange fnCappedWrong)

/-- 'laws.FnExactCosts': WHATEVER THE INPUT: true; the input reads as it did. -/
def fnExactCostsSpec : ChangeSpec := { name := "fnExactCosts", fn := fun _ => fun
  | [d1, d2, d3, d4, d5] => { results := [.lit (.bool true)], args := [d1, d2, d3, d4, d5] }
  | _ => none }
def fnExactCostsRow : OpenClaim := { program := "ytmphoafjeojodaa", sum := "ead07a7dace33c8384141ced86b44dc1108b8623b08056de7e68de8a30371316", func := "loop.example/pub-wrappedwords/laws.FnExactCosts", spec := "fnExactCosts", apart := false }
def FnExactCostsSaid : Prop := fnExactCostsRow.holds Try.pinned (OpenSpec.ofChange fnExactCostsSpec)

/-- ITS FALSE NEIGHBOUR: 'it returns false'. Refute it at one input. -/
def fnExactCostsWrong : ChangeSpec := { name := "fnExactCosts", fn := fun _ => fun
  | [d1, d2, d3, d4, d5] => { results := [.lit (.bool false)], args := [d1, d2, d3, d4, d5] }
  | _ => none }
def FnExactCostsWrongFalsely : Prop := fnExactCostsRow.holds Try.pinned (OpenSpec.ofChange fnExactCostsWrong)

/-- 'laws.FnExactBonus': WHATEVER THE INPUT: true; the input reads as it did. -/
def fnExactBonusSpec : ChangeSpec := { name := "fnExactBonus", fn := fun _ => fun
  | [d1, d2] => { results := [.lit (.bool true)], args := [d1, d2] }
  | _ => none }
def fnExactBonusRow : OpenClaim := { program := "ytmphoafjeojodaa", sum := "ead07a7dace33c8384141ced86b44dc1108b8623b08056de7e68de8a30371316", func := "loop.example/pub-wrappedwords/laws.FnExactBonus", spec := "fnExactBonus", apart := false }
def FnExactBonusSaid : Prop := fnExactBonusRow.holds Try.pinned (OpenSpec.ofChange fnExactBonusSpec)

/-- ITS FALSE NEIGHBOUR: 'it returns false'. Refute it at one input. -/
def fnExactBonusWrong : ChangeSpec := { name := "fnExactBonus", fn := fun _ => fun
  | [d1, d2] => { results := [.lit (.bool false)], args := [d1, d2] }
  | _ => none }
def FnExactBonusWrongFalsely : Prop := fnExactBonusRow.holds Try.pinned (OpenSpec.ofChange fnExactBonusWrong)

/-- 'laws.FnExactLikeness': WHATEVER THE INPUT: true; the input reads as it did. -/
def fnExactLikenessSpec : ChangeSpec := { name := "fnExactLikeness", fn := fun _ => fun
  | [d1, d2] => { results := [.lit (.bool true)], args := [d1, d2] }
  | _ => none }
def fnExactLikenessRow : OpenClaim := { program := "ytmphoafjeojodaa", sum := "ead07a7dace33c8384141ced86b44dc1108b8623b08056de7e68de8a30371316", func := "loop.example/pub-wrappedwords/laws.FnExactLikeness", spec := "fnExactLikeness", apart := false }
def FnExactLikenessSaid : Prop := fnExactLikenessRow.holds Try.pinned (OpenSpec.ofChange fnExactLikenessSpec)

/-- ITS FALSE NEIGHBOUR: 'it returns false'. Refute it at one input. -/
def fnExactLikenessWrong : ChangeSpec := { name := "fnExactLikeness", fn := fun _ => fun
  | [d1, d2] => { results := [.lit (.bool false)], args := [d1, d2] }
  | _ => none }
def FnExactLikenessWrongFalsely : Prop := fnExactLikenessRow.holds Try.pinned (OpenSpec.ofChange fnExactLikenessWrong)

/-- 'laws.FnAtLeast': WHATEVER THE INPUT: true; the input reads as it did. -/
def fnAtLeastSpec : ChangeSpec := { name := "fnAtLeast", fn := fun _ => fun
  | [d1, d2, d3] => { results := [.lit (.bool true)], args := [d1, d2, d3] }
  | _ => none }
def fnAtLeastRow : OpenClaim := { program := "ytmphoafjeojodaa", sum := "ead07a7dace33c8384141ced86b44dc1108b8623b08056de7e68de8a30371316", func := "loop.example/pub-wrappedwords/laws.FnAtLeast", spec := "fnAtLeast", apart := false }
def FnAtLeastSaid : Prop := fnAtLeastRow.holds Try.pinned (OpenSpec.ofChange fnAtLeastSpec)

/-- ITS FALSE NEIGHBOUR: 'it returns false'. Refute it at one input. -/
def fnAtLeastWrong : ChangeSpec := { name := "fnAtLeast", fn := fun _ => fun
  | [d1, d2, d3] => { results := [.lit (.bool false)], args := [d1, d2, d3] }
  | _ => none }
def FnAtLeastWrongFalsely : Prop := fnAtLeastRow.holds Try.pinned (OpenSpec.ofChange fnAtLeastWrong)

/-- 'laws.FnLines': WHATEVER THE INPUT: true; the input reads as it did. -/
def fnLinesSpec : ChangeSpec := { name := "fnLines", fn := fun _ => fun
  | [d1, d2, d3] => { results := [.lit (.bool true)], args := [d1, d2, d3] }
  | _ => none }
def fnLinesRow : OpenClaim := { program := "ytmphoafjeojodaa", sum := "ead07a7dace33c8384141ced86b44dc1108b8623b08056de7e68de8a30371316", func := "loop.example/pub-wrappedwords/laws.FnLines", spec := "fnLines", inPlace := ["internal/abi.NoEscape", "internal/bytealg.MakeNoZero"], apart := false }
def FnLinesSaid : Prop := fnLinesRow.holds Try.pinned (OpenSpec.ofChange fnLinesSpec)

/-- ITS FALSE NEIGHBOUR: 'it returns false'. Refute it at one input. -/
def fnLinesWrong : ChangeSpec := { name := "fnLines", fn := fun _ => fun
  | [d1, d2, d3] => { results := [.lit (.bool false)], args := [d1, d2, d3] }
  | _ => none }
def FnLinesWrongFalsely : Prop := fnLinesRow.holds Try.pinned (OpenSpec.ofChange fnLinesWrong)

/-- 'laws.FnStill': WHATEVER THE INPUT: true; the input reads as it did. -/
def fnStillSpec : ChangeSpec := { name := "fnStill", fn := fun _ => fun
  | [d1, d2] => { results := [.lit (.bool true)], args := [d1, d2] }
  | _ => none }
def fnStillRow : OpenClaim := { program := "ytmphoafjeojodaa", sum := "ead07a7dace33c8384141ced86b44dc1108b8623b08056de7e68de8a30371316", func := "loop.example/pub-wrappedwords/laws.FnStill", spec := "fnStill", inPlace := ["internal/abi.NoEscape", "internal/bytealg.MakeNoZero"], apart := false }
def FnStillSaid : Prop := fnStillRow.holds Try.pinned (OpenSpec.ofChange fnStillSpec)

/-- ITS FALSE NEIGHBOUR: 'it returns false'. Refute it at one input. -/
def fnStillWrong : ChangeSpec := { name := "fnStill", fn := fun _ => fun
  | [d1, d2] => { results := [.lit (.bool false)], args := [d1, d2] }
  | _ => none }
def FnStillWrongFalsely : Prop := fnStillRow.holds Try.pinned (OpenSpec.ofChange fnStillWrong)

/-- 'laws.FnExactWrap': WHATEVER THE INPUT: true; the input reads as it did. -/
def fnExactWrapSpec : ChangeSpec := { name := "fnExactWrap", fn := fun _ => fun
  | [d1, d2] => { results := [.lit (.bool true)], args := [d1, d2] }
  | _ => none }
def fnExactWrapRow : OpenClaim := { program := "ytmphoafjeojodaa", sum := "ead07a7dace33c8384141ced86b44dc1108b8623b08056de7e68de8a30371316", func := "loop.example/pub-wrappedwords/laws.FnExactWrap", spec := "fnExactWrap", inPlace := ["internal/abi.NoEscape", "internal/bytealg.MakeNoZero"], apart := false }
def FnExactWrapSaid : Prop := fnExactWrapRow.holds Try.pinned (OpenSpec.ofChange fnExactWrapSpec)

/-- ITS FALSE NEIGHBOUR: 'it returns false'. Refute it at one input. -/
def fnExactWrapWrong : ChangeSpec := { name := "fnExactWrap", fn := fun _ => fun
  | [d1, d2] => { results := [.lit (.bool false)], args := [d1, d2] }
  | _ => none }
def FnExactWrapWrongFalsely : Prop := fnExactWrapRow.holds Try.pinned (OpenSpec.ofChange fnExactWrapWrong)

/- THE SECOND FORM. 'bulk': how many values and letters a reading holds, each counted each time it is reached (what is shared counts as often as it is met; a slice's spare places count too). A statement '..UptoSaid' is the law's where the arguments, and the package variables that the reading takes, are together of bulk at most 1048576: NARROWER than '..Said'. Prove '..Said' where nothing that the law and all that it calls make is longer than what came in: it says more and counts as full. Else prove '..UptoSaid'. A law counts once. -/
mutual
def uptoBulk {H : Type} : DataW H → Nat
  | .lit (.string bytes) => bytes.length + 1
  | .lit _ => 1
  | .nil => 1
  | .ptr d => uptoBulk d + 1
  | .slice elems spare => uptoBulkAll elems + uptoBulkAll spare + 1
  | .agg parts => uptoBulkAll parts + 1
  | .iface _ d => uptoBulk d + 1
  | .map entries => uptoBulkEntries entries + 1
  | .held _ => 1
def uptoBulkAll {H : Type} : List (DataW H) → Nat
  | [] => 0
  | d :: r => uptoBulk d + uptoBulkAll r
def uptoBulkEntries {H : Type} : List (Lit × DataW H) → Nat
  | [] => 0
  | x :: r => uptoBulkEntry x + uptoBulkEntries r
def uptoBulkEntry {H : Type} : Lit × DataW H → Nat
  | (.string bytes, d) => bytes.length + uptoBulk d + 1
  | (_, d) => uptoBulk d + 1
 end
def uptoSmall : (H : Type) → List (DataW H) → Bool := fun _ ds => decide (uptoBulkAll ds ≤ 1048576)
def OpenSpec.upto (s : _root_.Go.ChangeSpec) : _root_.Go.OpenSpec := { _root_.Go.OpenSpec.ofChange s with cond := some uptoSmall }

/-- 'laws.FnExactDistance', WHERE WHAT IT READS IS OF BULK AT MOST 1048576: true; the input reads as it did. -/
def fnExactDistanceUptoRow : OpenClaim := { program := "ytmphoafjeojodaa", sum := "ead07a7dace33c8384141ced86b44dc1108b8623b08056de7e68de8a30371316", func := "loop.example/pub-wrappedwords/laws.FnExactDistance", spec := "fnExactDistance", apart := false, narrowed := true }
def FnExactDistanceUptoSaid : Prop := fnExactDistanceUptoRow.holds Try.pinned (OpenSpec.upto fnExactDistanceSpec)

/-- 'laws.FnExactParts', WHERE WHAT IT READS IS OF BULK AT MOST 1048576: true; the input reads as it did. -/
def fnExactPartsUptoRow : OpenClaim := { program := "ytmphoafjeojodaa", sum := "ead07a7dace33c8384141ced86b44dc1108b8623b08056de7e68de8a30371316", func := "loop.example/pub-wrappedwords/laws.FnExactParts", spec := "fnExactParts", apart := false, narrowed := true }
def FnExactPartsUptoSaid : Prop := fnExactPartsUptoRow.holds Try.pinned (OpenSpec.upto fnExactPartsSpec)

/-- 'laws.FnCapped', WHERE WHAT IT READS IS OF BULK AT MOST 1048576: true; the input reads as it did. -/
def fnCappedUptoRow : OpenClaim := { program := "ytmphoafjeojodaa", sum := "ead07a7dace33c8384141ced86b44dc1108b8623b08056de7e68de8a30371316", func := "loop.example/pub-wrappedwords/laws.FnCapped", spec := "fnCapped", apart := false, narrowed := true }
def FnCappedUptoSaid : Prop := fnCappedUptoRow.holds Try.pinned (OpenSpec.upto fnCappedSpec)

/-- 'laws.FnExactCosts', WHERE WHAT IT READS IS OF BULK AT MOST 1048576: true; the input reads as it did. -/
def fnExactCostsUptoRow : OpenClaim := { program := "ytmphoafjeojodaa", sum := "ead07a7dace33c8384141ced86b44dc1108b8623b08056de7e68de8a30371316", func := "loop.example/pub-wrappedwords/laws.FnExactCosts", spec := "fnExactCosts", apart := false, narrowed := true }
def FnExactCostsUptoSaid : Prop := fnExactCostsUptoRow.holds Try.pinned (OpenSpec.upto fnExactCostsSpec)

/-- 'laws.FnExactBonus', WHERE WHAT IT READS IS OF BULK AT MOST 1048576: true; the input reads as it did. -/
def fnExactBonusUptoRow : OpenClaim := { program := "ytmphoafjeojodaa", sum := "ead07a7dace33c8384141ced86b44dc1108b8623b08056de7e68de8a30371316", func := "loop.example/pub-wrappedwords/laws.FnExactBonus", spec := "fnExactBonus", apart := false, narrowed := true }
def FnExactBonusUptoSaid : Prop := fnExactBonusUptoRow.holds Try.pinned (OpenSpec.upto fnExactBonusSpec)

/-- 'laws.FnExactLikeness', WHERE WHAT IT READS IS OF BULK AT MOST 1048576: true; the input reads as it did. -/
def fnExactLikenessUptoRow : OpenClaim := { program := "ytmphoafjeojodaa", sum := "ead07a7dace33c8384141ced86b44dc1108b8623b08056de7e68de8a30371316", func := "loop.example/pub-wrappedwords/laws.FnExactLikeness", spec := "fnExactLikeness", apart := false, narrowed := true }
def FnExactLikenessUptoSaid : Prop := fnExactLikenessUptoRow.holds Try.pinned (OpenSpec.upto fnExactLikenessSpec)

/-- 'laws.FnAtLeast', WHERE WHAT IT READS IS OF BULK AT MOST 1048576: true; the input reads as it did. -/
def fnAtLeastUptoRow : OpenClaim := { program := "ytmphoafjeojodaa", sum := "ead07a7dace33c8384141ced86b44dc1108b8623b08056de7e68de8a30371316", func := "loop.example/pub-wrappedwords/laws.FnAtLeast", spec := "fnAtLeast", apart := false, narrowed := true }
def FnAtLeastUptoSaid : Prop := fnAtLeastUptoRow.holds Try.pinned (OpenSpec.upto fnAtLeastSpec)

/-- 'laws.FnLines', WHERE WHAT IT READS IS OF BULK AT MOST 1048576: true; the input reads as it did. -/
def fnLinesUptoRow : OpenClaim := { program := "ytmphoafjeojodaa", sum := "ead07a7dace33c8384141ced86b44dc1108b8623b08056de7e68de8a30371316", func := "loop.example/pub-wrappedwords/laws.FnLines", spec := "fnLines", inPlace := ["internal/abi.NoEscape", "internal/bytealg.MakeNoZero"], apart := false, narrowed := true }
def FnLinesUptoSaid : Prop := fnLinesUptoRow.holds Try.pinned (OpenSpec.upto fnLinesSpec)

/-- 'laws.FnStill', WHERE WHAT IT READS IS OF BULK AT MOST 1048576: true; the input reads as it did. -/
def fnStillUptoRow : OpenClaim := { program := "ytmphoafjeojodaa", sum := "ead07a7dace33c8384141ced86b44dc1108b8623b08056de7e68de8a30371316", func := "loop.example/pub-wrappedwords/laws.FnStill", spec := "fnStill", inPlace := ["internal/abi.NoEscape", "internal/bytealg.MakeNoZero"], apart := false, narrowed := true }
def FnStillUptoSaid : Prop := fnStillUptoRow.holds Try.pinned (OpenSpec.upto fnStillSpec)

/-- 'laws.FnExactWrap', WHERE WHAT IT READS IS OF BULK AT MOST 1048576: true; the input reads as it did. -/
def fnExactWrapUptoRow : OpenClaim := { program := "ytmphoafjeojodaa", sum := "ead07a7dace33c8384141ced86b44dc1108b8623b08056de7e68de8a30371316", func := "loop.example/pub-wrappedwords/laws.FnExactWrap", spec := "fnExactWrap", inPlace := ["internal/abi.NoEscape", "internal/bytealg.MakeNoZero"], apart := false, narrowed := true }
def FnExactWrapUptoSaid : Prop := fnExactWrapUptoRow.holds Try.pinned (OpenSpec.upto fnExactWrapSpec)

end Rows
end Go.Proofs.Ytmphoafjeojodaa
