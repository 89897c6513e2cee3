/-
  NARROWER THAN 'FOR EVERY INPUT', by the rows' own cells (each row's printed sentence says how): FnInCounts: loops · FnInLists: loops · FnInOne: loops.
  DERIVED. THE GIVEN ROWS OF THIS SEAT. 5 by the template 'for every input the law returns true; each argument reads behind the call as it read before'; 0 by the template 'total and deterministic' (their statements: YtdjgknfmehkigaaTotals.lean).
  GIVEN WITH THE SEED: the statements are not yours to turn. If you find one false, say at which input.
  Laid BY PROGRAM, IN A SANDBOX (cutbox-rows.mjs): the forced cells as the released guide's own fill.sh prints them over the translation fce1d0f10134e76d… (all of the seat's roots in one cut). By AI agents, Wed Nov 11 2026. No macro, syntax, notation, axiom, sorry.
-/
import Derived.Test.YtdjgknfmehkigaaChecked
import GoSem.Claim
import GoSem.ClaimJoined
import GoSem.ClaimMapViews
import Derived.JoinedTies
import Derived.KernelRfl
namespace Go.Proofs.Ytdjgknfmehkigaa
/- THE CELL 'sum', in the pinned program and in every row, IS THE sha256 OF THE DUMP (.gsa) THAT YtdjgknfmehkigaaProg.lean LOADS. Nothing in Lean hashes anything: it is a label: what it is worth is what the hold of that sum in a sandbox is worth. -/
noncomputable def Try.pinned : Pinned := { name := "ytdjgknfmehkigaa", sum := "fce1d0f10134e76d806f210e5f5af84c5522ec5f045db2ca09e1b943774bb9f0", checked := Try.checked }
namespace Rows
def none {H : Type} : Left H := { results := [], args := [] }

/-- 'laws.FnClosingDeep': WHATEVER THE INPUT: true; the input reads as it did. -/
def fnClosingDeepSpec : ChangeSpec := { name := "fnClosingDeep", fn := fun _ => fun
  | [d1, d2, d3] => { results := [.lit (.bool true)], args := [d1, d2, d3] }
  | _ => none }
def fnClosingDeepRow : OpenClaim := { program := "ytdjgknfmehkigaa", sum := "fce1d0f10134e76d806f210e5f5af84c5522ec5f045db2ca09e1b943774bb9f0", func := "given.example/pub-notarial/laws.FnClosingDeep", spec := "fnClosingDeep", apart := false }
def FnClosingDeepSaid : Prop := fnClosingDeepRow.holds Try.pinned (OpenSpec.ofChange fnClosingDeepSpec)

/-- ITS FALSE NEIGHBOUR: 'it returns false'. Refute it at one input. -/
def fnClosingDeepWrong : ChangeSpec := { name := "fnClosingDeep", fn := fun _ => fun
  | [d1, d2, d3] => { results := [.lit (.bool false)], args := [d1, d2, d3] }
  | _ => none }
def FnClosingDeepWrongFalsely : Prop := fnClosingDeepRow.holds Try.pinned (OpenSpec.ofChange fnClosingDeepWrong)

/-- 'laws.FnPlaceholdersSum': WHATEVER THE INPUT: true; the input reads as it did. -/
def fnPlaceholdersSumSpec : ChangeSpec := { name := "fnPlaceholdersSum", fn := fun _ => fun
  | [d1, d2] => { results := [.lit (.bool true)], args := [d1, d2] }
  | _ => none }
def fnPlaceholdersSumRow : OpenClaim := { program := "ytdjgknfmehkigaa", sum := "fce1d0f10134e76d806f210e5f5af84c5522ec5f045db2ca09e1b943774bb9f0", func := "given.example/pub-notarial/laws.FnPlaceholdersSum", spec := "fnPlaceholdersSum", inPlace := ["internal/abi.NoEscape", "internal/bytealg.MakeNoZero"], apart := false }
def FnPlaceholdersSumSaid : Prop := fnPlaceholdersSumRow.holds Try.pinned (OpenSpec.ofChange fnPlaceholdersSumSpec)

/-- ITS FALSE NEIGHBOUR: 'it returns false'. Refute it at one input. -/
def fnPlaceholdersSumWrong : ChangeSpec := { name := "fnPlaceholdersSum", fn := fun _ => fun
  | [d1, d2] => { results := [.lit (.bool false)], args := [d1, d2] }
  | _ => none }
def FnPlaceholdersSumWrongFalsely : Prop := fnPlaceholdersSumRow.holds Try.pinned (OpenSpec.ofChange fnPlaceholdersSumWrong)

/-- 'laws.FnInCounts': WHATEVER THE INPUT: true; the input reads as it did. -/
def fnInCountsSpec : ChangeSpec := { name := "fnInCounts", fn := fun _ => fun
  | [d1, d2] => { results := [.lit (.bool true)], args := [d1, d2] }
  | _ => none }
def fnInCountsRow : OpenClaim := { program := "ytdjgknfmehkigaa", sum := "fce1d0f10134e76d806f210e5f5af84c5522ec5f045db2ca09e1b943774bb9f0", func := "given.example/pub-notarial/laws.FnInCounts", spec := "fnInCounts", inPlace := ["internal/abi.NoEscape", "internal/bytealg.MakeNoZero"], recurses := true, loops := true, apart := false }
def FnInCountsSaid : Prop := fnInCountsRow.holds Try.pinned (OpenSpec.ofChange fnInCountsSpec)

/-- ITS FALSE NEIGHBOUR: 'it returns false'. Refute it at one input. -/
def fnInCountsWrong : ChangeSpec := { name := "fnInCounts", fn := fun _ => fun
  | [d1, d2] => { results := [.lit (.bool false)], args := [d1, d2] }
  | _ => none }
def FnInCountsWrongFalsely : Prop := fnInCountsRow.holds Try.pinned (OpenSpec.ofChange fnInCountsWrong)

/-- 'laws.FnInLists': WHATEVER THE INPUT: true; the input reads as it did. -/
def fnInListsSpec : ChangeSpec := { name := "fnInLists", fn := fun _ => fun
  | [d] => { results := [.lit (.bool true)], args := [d] }
  | _ => none }
def fnInListsRow : OpenClaim := { program := "ytdjgknfmehkigaa", sum := "fce1d0f10134e76d806f210e5f5af84c5522ec5f045db2ca09e1b943774bb9f0", func := "given.example/pub-notarial/laws.FnInLists", spec := "fnInLists", inPlace := ["internal/abi.NoEscape", "internal/bytealg.MakeNoZero"], recurses := true, loops := true, apart := false }
def FnInListsSaid : Prop := fnInListsRow.holds Try.pinned (OpenSpec.ofChange fnInListsSpec)

/-- ITS FALSE NEIGHBOUR: 'it returns false'. Refute it at one input. -/
def fnInListsWrong : ChangeSpec := { name := "fnInLists", fn := fun _ => fun
  | [d] => { results := [.lit (.bool false)], args := [d] }
  | _ => none }
def FnInListsWrongFalsely : Prop := fnInListsRow.holds Try.pinned (OpenSpec.ofChange fnInListsWrong)

/-- 'laws.FnInOne': WHATEVER THE INPUT: true; the input reads as it did. -/
def fnInOneSpec : ChangeSpec := { name := "fnInOne", fn := fun _ => fun
  | [d1, d2, d3] => { results := [.lit (.bool true)], args := [d1, d2, d3] }
  | _ => none }
def fnInOneRow : OpenClaim := { program := "ytdjgknfmehkigaa", sum := "fce1d0f10134e76d806f210e5f5af84c5522ec5f045db2ca09e1b943774bb9f0", func := "given.example/pub-notarial/laws.FnInOne", spec := "fnInOne", inPlace := ["internal/abi.NoEscape", "internal/bytealg.MakeNoZero"], recurses := true, loops := true, apart := false }
def FnInOneSaid : Prop := fnInOneRow.holds Try.pinned (OpenSpec.ofChange fnInOneSpec)

/-- ITS FALSE NEIGHBOUR: 'it returns false'. Refute it at one input. -/
def fnInOneWrong : ChangeSpec := { name := "fnInOne", fn := fun _ => fun
  | [d1, d2, d3] => { results := [.lit (.bool false)], args := [d1, d2, d3] }
  | _ => none }
def FnInOneWrongFalsely : Prop := fnInOneRow.holds Try.pinned (OpenSpec.ofChange fnInOneWrong)

/- THE SECOND FORM. 'bulk': how many values and letters a reading holds, each counted each time it is reached (what is shared counts as often as it is met; a slice's spare places count too). A statement '..UptoSaid' is the law's where the arguments, and the package variables that the reading takes, are together of bulk at most 1048576: NARROWER than '..Said'. Prove '..Said' where nothing that the law and all that it calls make is longer than what came in: it says more and counts as full. Else prove '..UptoSaid'. A law counts once. -/
mutual
def uptoBulk {H : Type} : DataW H → Nat
  | .lit (.string bytes) => bytes.length + 1
  | .lit _ => 1
  | .nil => 1
  | .ptr d => uptoBulk d + 1
  | .slice elems spare => uptoBulkAll elems + uptoBulkAll spare + 1
  | .agg parts => uptoBulkAll parts + 1
  | .iface _ d => uptoBulk d + 1
  | .map entries => uptoBulkEntries entries + 1
  | .held _ => 1
def uptoBulkAll {H : Type} : List (DataW H) → Nat
  | [] => 0
  | d :: r => uptoBulk d + uptoBulkAll r
def uptoBulkEntries {H : Type} : List (Lit × DataW H) → Nat
  | [] => 0
  | x :: r => uptoBulkEntry x + uptoBulkEntries r
def uptoBulkEntry {H : Type} : Lit × DataW H → Nat
  | (.string bytes, d) => bytes.length + uptoBulk d + 1
  | (_, d) => uptoBulk d + 1
 end
def uptoSmall : (H : Type) → List (DataW H) → Bool := fun _ ds => decide (uptoBulkAll ds ≤ 1048576)
def OpenSpec.upto (s : _root_.Go.ChangeSpec) : _root_.Go.OpenSpec := { _root_.Go.OpenSpec.ofChange s with cond := some uptoSmall }

/-- 'laws.FnClosingDeep', WHERE WHAT IT READS IS OF BULK AT MOST 1048576: true; the input reads as it did. -/
def fnClosingDeepUptoRow : OpenClaim := { program := "ytdjgknfmehkigaa", sum := "fce1d0f10134e76d806f210e5f5af84c5522ec5f045db2ca09e1b943774bb9f0", func := "given.example/pub-notarial/laws.FnClosingDeep", spec := "fnClosingDeep", apart := false, narrowed := true }
def FnClosingDeepUptoSaid : Prop := fnClosingDeepUptoRow.holds Try.pinned (OpenSpec.upto fnClosingDeepSpec)

/-- 'laws.FnPlaceholdersSum', WHERE WHAT IT READS IS OF BULK AT MOST 1048576: true; the input reads as it did. -/
def fnPlaceholdersSumUptoRow : OpenClaim := { program := "ytdjgknfmehkigaa", sum := "fce1d0f10134e76d806f210e5f5af84c5522ec5f045db2ca09e1b943774bb9f0", func := "given.example/pub-notarial/laws.FnPlaceholdersSum", spec := "fnPlaceholdersSum", inPlace := ["internal/abi.NoEscape", "internal/bytealg.MakeNoZero"], apart := false, narrowed := true }
def FnPlaceholdersSumUptoSaid : Prop := fnPlaceholdersSumUptoRow.holds Try.pinned (OpenSpec.upto fnPlaceholdersSumSpec)

/-- 'laws.FnInCounts', WHERE WHAT IT READS IS OF BULK AT MOST 1048576: true; the input reads as it did. -/
def fnInCountsUptoRow : OpenClaim := { program := "ytdjgknfmehkigaa", sum := "fce1d0f10134e76d806f210e5f5af84c5522ec5f045db2ca09e1b943774bb9f0", func := "given.example/pub-notarial/laws.FnInCounts", spec := "fnInCounts", inPlace := ["internal/abi.NoEscape", "internal/bytealg.MakeNoZero"], recurses := true, loops := true, apart := false, narrowed := true }
def FnInCountsUptoSaid : Prop := fnInCountsUptoRow.holds Try.pinned (OpenSpec.upto fnInCountsSpec)

/-- 'laws.FnInLists', WHERE WHAT IT READS IS OF BULK AT MOST 1048576: true; the input reads as it did. -/
def fnInListsUptoRow : OpenClaim := { program := "ytdjgknfmehkigaa", sum := "fce1d0f10134e76d806f210e5f5af84c5522ec5f045db2ca09e1b943774bb9f0", func := "given.example/pub-notarial/laws.FnInLists", spec := "fnInLists", inPlace := ["internal/abi.NoEscape", "internal/bytealg.MakeNoZero"], recurses := true, loops := true, apart := false, narrowed := true }
def FnInListsUptoSaid : Prop := fnInListsUptoRow.holds Try.pinned (OpenSpec.upto fnInListsSpec)

/-- 'laws.FnInOne', WHERE WHAT IT READS IS OF BULK AT MOST 1048576: true; the input reads as it did. -/
def fnInOneUptoRow : OpenClaim := { program := "ytdjgknfmehkigaa", sum := "fce1d0f10134e76d806f210e5f5af84c5522ec5f045db2ca09e1b943774bb9f0", func := "given.example/pub-notarial/laws.FnInOne", spec := "fnInOne", inPlace := ["internal/abi.NoEscape", "internal/bytealg.MakeNoZero"], recurses := true, loops := true, apart := false, narrowed := true }
def FnInOneUptoSaid : Prop := fnInOneUptoRow.holds Try.pinned (OpenSpec.upto fnInOneSpec)

end Rows
end Go.Proofs.Ytdjgknfmehkigaa
